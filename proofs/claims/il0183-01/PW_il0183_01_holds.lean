import PyProof.Rows.All
import Wide.All
import OpenK.AllK
import Wide.FinOn
import Lean
import PySem.Challenge.RW_il0183_01
open PySem PySem.W PySem.W.X PyProof.Rows
open List (mem_cons not_mem_nil mem_singleton map_cons map_nil nodup_cons mem_cons_self mem_cons_of_mem mem_map_of_mem)
set_option Elab.async false
set_option maxRecDepth 100000
set_option linter.all false
set_option maxHeartbeats 8000000
noncomputable section
namespace Mine
-- «symm» stands for kernel_rfl below
local macro_rules | `(tactic| symm) => `(tactic| kernel_rfl)
noncomputable def V8:Nat→Nat→List Nat
 | 0,_=>[]
 | f+1,n=>match Nat.ble n 1 with
  | true=>[]
  | false=>match Nat.beq (n % 16) 15 with
   | true=>(n / 16 % 4096)::V8 f (n / 65536)
   | false=>(n % 16)::V8 f (n / 16)
noncomputable def og (n:Nat):List Nat:=V8 1000 n
@[elab_as_elim] theorem sb {α} {a b:α} {P:α→Prop} (e:a=b) (h:P a):P b:=e ▸ h
@[elab_as_elim] theorem so {α} {c a b:α} {P:α→Prop} (h:c=a∨c=b) (x:P a) (y:P b):P c:=h.elim (· ▸ x) (· ▸ y)
@[elab_as_elim] theorem gen {α} {P:α→Prop} (e:α) (h:∀ x,e=x→P x):P e:=h e rfl
@[elab_as_elim] theorem yZ {α} {P:α→Prop} (e:α) (h:∀ x,P x):P e:=h e
@[elab_as_elim] theorem se {α} {c:List α} {P:List α→Prop} (h:c=[]∨∃ v,c=[v]) (x:P []) (y:∀ v,P [v]):P c:=h.elim (· ▸ x) (fun ⟨v,e⟩=>e ▸ y v)
theorem aX {α} {P:α→Prop}:∀ x∈([]:List α),P x:=nofun
theorem bK {α} {P:α→Prop} {a:α} (h:P a):∀ x∈[a],P x:=fun x y=>List.mem_singleton.mp y ▸ h
theorem Dy {α} {P:α→Prop} {a:α} {l:List α} (h:P a) (t:∀ x∈l,P x):∀ x∈a::l,P x:=fun x y=>match y with
 | .head _=>h
 | .tail _ z=>t x z
theorem fV {α β} {p:α × β}:(List.map Prod.fst [p]).Nodup:=.cons nofun .nil
theorem Kv {α} {p:α}:[p].Nodup:=.cons nofun .nil
theorem cZ {α} {a b:α} (h:a≠b):a∉[b]:=fun x=>h (List.mem_singleton.mp x)
theorem lG {α β} {p q:α × β} (h:p.1≠q.1):(List.map Prod.fst [p,q]).Nodup:=.cons (bK h) Kv
theorem U0 {α} {a b:α} {l:List α}:a∈b::a::l:=.tail _ (.head _)
theorem mc2 {α} {a b c:α} {l:List α}:a∈b::c::a::l:=.tail _ (.tail _ (.head _))
theorem mc3 {α} {a b c d:α} {l:List α}:a∈b::c::d::a::l:=.tail _ (.tail _ (.tail _ (.head _)))
theorem mc4 {α} {a b c d e:α} {l:List α}:a∈b::c::d::e::a::l:=.tail _ (.tail _ (.tail _ (.tail _ (.head _))))
theorem mc5 {α} {a b c d e f:α} {l:List α}:a∈b::c::d::e::f::a::l:=.tail _ (.tail _ (.tail _ (.tail _ (.tail _ (.head _)))))
noncomputable abbrev uY:=PySem.Challenge.rw_il0183_01
theorem wsA:(importedModules uY.prog.main.body).all cThrough.contains=true:=by symm
theorem wsB:(["vars","dir","locals"]:List Str).filter (readsOut uY.prog uY.prog.main.body)=[]:=by symm
theorem ws0:noRoadLSs {strict:=false,foot:=none,bare:=[]} uY.prog.main.body=true:=by symm
theorem ws1:noRoadLSs {strict:=!(importedModules uY.prog.main.body).all cThrough.contains,foot:=none,bare:=(["vars","dir","locals"]:List Str).filter (readsOut uY.prog uY.prog.main.body)} uY.prog.main.body=true:=by rw [wsA,wsB];exact ws0
theorem Qm:namesResolve uY.prog=true:=by symm
theorem ws3:(namesMeet uY.prog uY.prog.main.body fun _ n=>attrL n)=true:=by symm
theorem ws4:looksOpen uY.row.prog=true:=by
 unfold looksOpen
 refine look_both (look_both (look_both (look_both (look_both ?_ ?_) Qm) ?_) ws1) ws3
 all_goals symm
theorem ws5:uY.row.wellSaid=true:=by
 unfold OpenRow.wellSaid OpenRow.partSaid
 repeat' with_reducible refine look_both ?_ ?_
 ·exact ws4
 all_goals symm
theorem ws:uY.wellSaid=true:=by
 unfold OpenLaw.wellSaid
 repeat' with_reducible refine look_both ?_ ?_
 ·exact ws5
 all_goals symm
def zp:Code→Sem Fin:=PySem.W.ZFast.zw11892475500146522536 PySem.W.ZFast.tableZ
theorem rN:denote table=zp:=by
 unfold zp
 rw [PySem.W.ZFast.ze11892475500146522536,PySem.W.ZFast.tableZ_eq]
def rY:Code→Bool:=PySem.W.ZFast.zw17772548960776305114
theorem uZ:Code.quiet=rY:=PySem.W.ZFast.ze17772548960776305114
noncomputable abbrev Led:=List (Addr × Obj)
inductive Kn where
 | base
 | code (c:Code)
 | ret (c:Code) (hd:Option Value) (k:Result→Sem Fin) (κ:Kn)
inductive Ou where
 | fin (f:Fin)
 | err (e:Value)
 | res (r:Result)
 | go (c:Code)
 | pend (c:Code) (hd:Option Value) (k:Result→Sem Fin) (κ:Kn)
 | fail (n:Nat)
structure Hk where
 obj:Bool
 re:Code→Addr × Obj→Code × Obj
 v:Code→Addr × Obj→Nat→Value
 dt:Nat
noncomputable abbrev Cs:=List ((Code × Obj) × (Code × Obj))
structure Rs where
 ps:List (Addr × Addr)
 ts:List (Sem Fin × Sem Fin)
 cs:Cs
 ou:Ou
 L:Led
 nx:Nat
 tk:Nat
 aC:List Nat
noncomputable def xq (hb:Option Value):Kn→Option Value
 | .base=>hb
 | .code _=>hb
 | .ret _ hd _ κ=>hd.or (xq hb κ)
noncomputable abbrev Ea:=Kn→Sem Fin→Led→Nat→Nat→List Nat→List (Addr × Addr)→List (Sem Fin × Sem Fin)→Cs→Rs
noncomputable def nay (n:Nat):Rs:=⟨[],[],[],.fail n,[],0,0,[]⟩
noncomputable def wf (S:Setting) (b:Bool):Setting:={S with params:={S.params with followText:=fun r=>if r = "special-get-raises" then b else S.params.followText r}}
theorem HX (S:Setting):S=wf S (S.params.followText "special-get-raises"):=by
 obtain ⟨p,P⟩:=S
 unfold wf
 congr 1
 have:P.followText=fun r=>if r = "special-get-raises" then P.followText "special-get-raises" else P.followText r:=by
  funext r
  by_cases h:r = "special-get-raises"
  ·rw [if_pos h,h]
  ·rw [if_neg h]
 obtain ⟨⟩:=P
 congr 1
theorem Qn {α:Type} {S:Setting} {k:Setting→α} (h:k (wf S true)=k (wf S false)):k S=k (wf S false):=by
 have e:=HX S
 cases q:S.params.followText "special-get-raises" with
 | true=>rw [q] at e;rw [← h];exact congrArg k e
 | false=>rw [q] at e;exact congrArg k e
noncomputable def nop:Addr × Obj:=(0,default)
def simStep (K:Nat→Option Obj) (S:Setting) (H:List Hk) (hb:Option Value) (ih:Ea):Ea:=fun κ t L nx tk aC ps ts cs=>match t with
 | .pure fin=>match κ with
  | .base=>⟨ps,ts,cs,.fin fin,L,nx,tk,aC⟩
  | .code _=>match fin with
   | .done f=>⟨ps,ts,cs,.res (.ok f),L,nx,tk,aC⟩
   | .again c'=>match rY c' with
    | false=>nay 5
    | true=>match aC with
     | []=>nay 1
     | o::aC=>match o with
      | 0=>ih (.code c') (zp c') L nx tk aC ps ts cs
      | _+1=>⟨ps,ts,cs,.go c',L,nx,tk,aC⟩
  | .ret _ hd k κ'=>match fin with
   | .done f=>ih κ' (k (.ok f)) L nx tk aC ps ts cs
   | .again c'=>match rY c' with
    | false=>nay 5
    | true=>match aC with
     | []=>nay 1
     | o::aC=>match o with
      | 0=>ih (.ret c' hd k κ') (zp c') L nx tk aC ps ts cs
      | _+1=>⟨ps,ts,cs,.pend c' hd k κ',L,nx,tk,aC⟩
 | .raise e=>match κ with
  | .base=>⟨ps,ts,cs,.err e,L,nx,tk,aC⟩
  | .code _=>⟨ps,ts,cs,.res (.error e),L,nx,tk,aC⟩
  | .ret _ _ k κ'=>ih κ' (k (.error e)) L nx tk aC ps ts cs
 | .rule _ k=>ih κ (k ()) L nx tk aC ps ts cs
 | .at _ k=>ih κ (k ()) L nx tk aC ps ts cs
 | .point _ k=>ih κ (k ()) L nx tk aC ps ts cs
 | .ask k=>ih κ (k (wf S false)) L nx tk aC ps ((k (wf S true),k (wf S false))::ts) cs
 | .fresh k=>ih κ (k tk) L nx (tk+1) aC ps ts cs
 | .handled own k=>match own with
  | false=>ih κ (k (xq hb κ)) L nx tk aC ps ts cs
  | true=>nay 7
 | .load a _ k=>match aC with
  | []=>nay 1
  | o::aC=>match o with
   | 0=>match K a with
    | some ob=>ih κ (k ob) L nx tk aC ps ts cs
    | none=>nay 2
   | i+1=>match L[i]? with
    | some p=>ih κ (k p.2) L nx tk aC ((a,p.1)::ps) ts cs
    | none=>nay 3
 | .update a _ f k=>match aC with
  | []=>nay 1
  | o::aC=>match o with
   | 0=>nay 4
   | i+1=>match L[i]? with
    | some p=>match (f p.2).isFreed with
     | false=>ih κ (k ()) (L.set i (p.1,f p.2)) nx tk aC ((a,p.1)::ps) ts cs
     | true=>nay 6
    | none=>nay 3
 | .alloc o k=>match o.isFreed with
  | false=>ih κ (k nx) ((nx,o)::L) (nx+1) tk aC ps ts cs
  | true=>nay 6
 | .call c hd _ _ k=>match okMark hd with
  | false=>nay 8
  | true=>match aC with
   | []=>nay 1
   | o::aC=>match o with
    | 0=>ih (.ret c hd k κ) (zp c) L nx tk aC ps ts cs
    | o+1=>match o with
     | 0=>⟨ps,ts,cs,.pend c hd k κ,L,nx,tk,aC⟩
     | j+1=>match H[j]? with
      | none=>nay 10
      | some hk=>match hd.or (xq hb κ) with
       | some _=>nay 11
       | none=>match hk.obj with
        | false=>ih κ (k (.ok (.ret (hk.v c nop tk)))) L nx (tk+hk.dt) aC ps ts (((c,nop.2),hk.re c nop)::cs)
        | true=>match aC with
         | []=>nay 1
         | i::aC=>match L[i]? with
          | none=>nay 3
          | some p=>ih κ (k (.ok (.ret (hk.v c p tk)))) L nx (tk+hk.dt) aC ps ts (((c,p.2),hk.re c p)::cs)
 | _=>nay 9
def sim (K:Nat→Option Obj) (S:Setting) (H:List Hk) (hb:Option Value) (n:Nat):Ea:=@Nat.rec (fun _=>Ea) (fun _ _ _ _ _ _ _ _ _=>nay 40) (fun _ ih=>simStep K S H hb ih) n
structure XC where
 prog:Program
 w:World
 K:Nat→Option Obj
 g:Array GenState
 d:Drawn
 os:OsState
 A₀:Around
 Q₀:Fin→Shared→Prop
 E₀:Value→Shared→Prop
 R₀:Result→Shared→Prop
noncomputable def XC.S (V:XC):Setting:=⟨V.prog,V.w.params⟩
noncomputable def ar (V:XC):Kn→Around
 | .base=>V.A₀
 | .code c=>V.A₀.under c
 | .ret c hd _ κ=>((ar V κ).mark hd).under c
noncomputable def Mn (V:XC):Kn→Sem Fin→Shared→Prop
 | .base,t,s=>wpAny (model V.prog V.w) V.A₀ t V.Q₀ V.E₀ s
 | .code c,t,s=>wpAny (model V.prog V.w) (V.A₀.under c) t
   (fun fin s'=>match fin with
    | .done f=>V.R₀ (.ok f) s'
    | .again c'=>c'.quiet=true∧codeAny (model V.prog V.w) V.A₀ c' V.R₀ s')
   (fun e s'=>V.R₀ (.error e) s') s
 | .ret c hd k κ,t,s=>wpAny (model V.prog V.w) (((ar V κ).mark hd).under c) t
   (fun fin s'=>match fin with
    | .done f=>Mn V κ (k (.ok f)) s'
    | .again c'=>c'.quiet=true∧codeAny (model V.prog V.w) ((ar V κ).mark hd) c' (fun r s''=>Mn V κ (k r) s'') s')
   (fun e s'=>Mn V κ (k (.error e)) s') s
structure Rep (K:Nat→Option Obj) (h₀:Heap) (gv:List Addr) (L:Led) (nx:Nat) (h:Heap):Prop where
 size:h.objs.size=nx
 old:∀ a o,K a=some o→h.get? a=some o
 own:∀ p∈L,h.get? p.1=some p.2
 nd:(L.map Prod.fst).Nodup
 apart:∀ p∈L,K p.1=none
 frame:∀ b o,h₀.get? b=some o→b∉L.map Prod.fst→h.get? b=some o
 grow:h₀.objs.size≤h.objs.size
 new:∀ p∈L,p.1∈gv∨h₀.objs.size≤p.1
noncomputable def gB (prog:Program) (w:World) (K:Nat→Option Obj) (hk:Hk):Prop:=∀ (g:Array GenState) (d:Drawn) (os:OsState) (A:Around) (R:Result→Shared→Prop) (h:Heap) (tk:Nat) (c:Code) (p:Addr × Obj),A.handled=none→(c,p.2)=hk.re c p →
 (∀ a o,K a=some o→h.get? a=some o)→(hk.obj=true→h.get? p.1=some p.2)→(∀ h',h'.objs.size=h.objs.size→(∀ b o,h.get? b=some o→h'.get? b=some o)→R (.ok (.ret (hk.v c p tk))) ⟨h',g,d,tk+hk.dt,os⟩)→codeAny (model prog w) A c R ⟨h,g,d,tk,os⟩
noncomputable def gQ (V:XC) (h₀:Heap) (gv:List Addr) (r:Rs):Prop:=match r.ou with
 | .fin f=>∀ h,Rep V.K h₀ gv r.L r.nx h→V.Q₀ f ⟨h,V.g,V.d,r.tk,V.os⟩
 | .err e=>∀ h,Rep V.K h₀ gv r.L r.nx h→V.E₀ e ⟨h,V.g,V.d,r.tk,V.os⟩
 | .res x=>∀ h,Rep V.K h₀ gv r.L r.nx h→V.R₀ x ⟨h,V.g,V.d,r.tk,V.os⟩
 | .go c=>∀ h,Rep V.K h₀ gv r.L r.nx h→codeAny (model V.prog V.w) V.A₀ c V.R₀ ⟨h,V.g,V.d,r.tk,V.os⟩
 | .pend c hd k κ=>∀ h,Rep V.K h₀ gv r.L r.nx h→codeAny (model V.prog V.w) ((ar V κ).mark hd) c (fun r' s'=>Mn V κ (k r') s') ⟨h,V.g,V.d,r.tk,V.os⟩
 | .fail _=>False
theorem Rep.same {K:Nat→Option Obj} {h₀ h h':Heap} {gv:List Addr} {L:Led} {nx:Nat} (R:Rep K h₀ gv L nx h) (e1:h'.objs.size=h.objs.size) (e2:∀ b o,h.get? b=some o→h'.get? b=some o):Rep K h₀ gv L nx h':=
 ⟨e1.trans R.size,fun a o e=>e2 a o (R.old a o e),fun p hp=>e2 _ _ (R.own p hp),R.nd,R.apart,fun b o e hb=>e2 b o (R.frame b o e hb),by rw [e1];exact R.grow,R.new⟩
theorem Rep.push {K:Nat→Option Obj} {h₀ h:Heap} {gv:List Addr} {L:Led} {nx:Nat} {o:Obj} (R:Rep K h₀ gv L nx h) (hf:o.isFreed=false):Rep K h₀ gv ((nx,o)::L) (nx+1) (h.push o):=by
 have ge:(h.push o).get? nx=some o:=by rw [← R.size];exact Heap.get?_push_size _ hf
 have lt:∀ b o',h.get? b=some o'→b<nx:=fun b o' e=>R.size ▸ Heap.lt_size e
 refine ⟨by rw [Heap.size_push,R.size],fun a o' e=>Heap.get?_push_of_some _ (R.old a o' e),fun p hp=>?_,?_,fun p hp=>?_,fun b o' e hb=>?_,?_,fun p hp=>?_⟩
 ·rcases List.mem_cons.mp hp with rfl | hp
  ·exact ge
  ·exact Heap.get?_push_of_some _ (R.own p hp)
 ·rw [map_cons,nodup_cons]
  refine ⟨fun hm=>?_,R.nd⟩
  obtain ⟨p,hp,e⟩:=List.mem_map.mp hm
  have:=lt _ _ (R.own p hp)
  rw [e] at this
  exact absurd this (Nat.lt_irrefl _)
 ·rcases List.mem_cons.mp hp with rfl | hp
  ·cases q:K nx with
   | none=>first | exact q | rfl
   | some o'=>exact absurd (lt _ _ (R.old _ _ q)) (Nat.lt_irrefl _)
  ·exact R.apart p hp
 ·rw [map_cons,mem_cons,not_or] at hb
  exact Heap.get?_push_of_some _ (R.frame b o' e hb.2)
 ·rw [Heap.size_push];exact Nat.le_succ_of_le R.grow
 ·rcases List.mem_cons.mp hp with rfl | hp
  ·exact .inr (R.size ▸ R.grow)
  ·exact R.new p hp
theorem Rep.upd {K:Nat→Option Obj} {h₀ h:Heap} {gv:List Addr} {L:Led} {nx:Nat} {f:Obj→Obj} {i:Nat} {p:Addr × Obj} (R:Rep K h₀ gv L nx h) (hi:L[i]? = some p) (hf:(f p.2).isFreed=false):Rep K h₀ gv (L.set i (p.1,f p.2)) nx (h.update p.1 f):=by
 obtain ⟨hl,he⟩:=List.getElem?_eq_some_iff.mp hi
 have hm:p∈L:=he ▸ List.getElem_mem hl
 have ho:=R.own p hm
 have hs:Heap.SameBut p.1 h (h.update p.1 f):=Heap.SameBut.update ..
 have ge:(h.update p.1 f).get? p.1=some (f p.2):=Heap.get?_update_self f ho hf
 have mp:(L.set i (p.1,f p.2)).map Prod.fst=L.map Prod.fst:=by
  rw [List.map_set]
  have:(L.map Prod.fst)[i]? = some p.1:=by rw [List.getElem?_map,hi];rfl
  obtain ⟨hl',he'⟩:=List.getElem?_eq_some_iff.mp this
  rw [← he']
  exact List.set_getElem_self hl'
 have other:∀ q∈L.set i (p.1,f p.2),q=(p.1,f p.2)∨(q∈L∧q.1≠p.1):=fun q hq=>by
  obtain ⟨j,hj,rfl⟩:=List.getElem_of_mem hq
  rw [List.getElem_set]
  by_cases e:i=j
  ·left;simp [e]
  ·right
   rw [if_neg e]
   have hj':j<L.length:=by simpa using hj
   refine ⟨List.getElem_mem hj',fun q=>e ?_⟩
   have n:=List.pairwise_iff_getElem.mp R.nd
   have q':(L.map Prod.fst)[j]'(by simpa using hj')=(L.map Prod.fst)[i]'(by simpa using hl):=by simp only [List.getElem_map];rw [q,he]
   rcases Nat.lt_trichotomy i j with c | c | c
   ·exact absurd q'.symm (n i j _ _ c)
   ·exact c
   ·exact absurd q' (n j i _ _ c)
 refine ⟨by rw [hs.1,R.size],fun a o e=>?_,fun q hq=>?_,by rw [mp];exact R.nd,fun q hq=>?_,fun b o e hb=>?_,?_,fun q hq=>?_⟩
 ·have:a≠p.1:=fun q=>by rw [q,R.apart p hm] at e;cases e
  exact (hs.2 a this).trans (R.old a o e)
 ·rcases other q hq with rfl | ⟨hq,ne⟩
  ·exact ge
  ·exact (hs.2 _ ne).trans (R.own q hq)
 ·rcases other q hq with rfl | ⟨hq,_⟩
  ·exact R.apart p hm
  ·exact R.apart q hq
 ·rw [mp] at hb
  have:b≠p.1:=fun q=>hb (q ▸ mem_map_of_mem hm)
  exact (hs.2 b this).trans (R.frame b o e hb)
 ·rw [hs.1];exact R.grow
 ·rcases other q hq with rfl | ⟨hq,_⟩
  ·exact R.new p hm
  ·exact R.new q hq
theorem fY (V:XC) {hb:Option Value} (hA:V.A₀.handled=hb):∀ κ,(ar V κ).handled=xq hb κ
 | .base=>hA
 | .code _=>hA
 | .ret c hd k κ=>by
  show (hd.or (ar V κ).handled)=hd.or (xq hb κ)
  rw [fY V hA κ]
noncomputable def Qk (V:XC):Kn→Fin→Shared→Prop
 | .base=>V.Q₀
 | .code _=>fun fin s'=>match fin with
    | .done f=>V.R₀ (.ok f) s'
    | .again c'=>c'.quiet=true∧codeAny (model V.prog V.w) V.A₀ c' V.R₀ s'
 | .ret _ hd k κ=>fun fin s'=>match fin with
    | .done f=>Mn V κ (k (.ok f)) s'
    | .again c'=>c'.quiet=true∧codeAny (model V.prog V.w) ((ar V κ).mark hd) c' (fun r s''=>Mn V κ (k r) s'') s'
noncomputable def Ek (V:XC):Kn→Value→Shared→Prop
 | .base=>V.E₀
 | .code _=>fun e s'=>V.R₀ (.error e) s'
 | .ret _ _ k κ=>fun e s'=>Mn V κ (k (.error e)) s'
theorem dY (V:XC) (κ:Kn) (t:Sem Fin) (s:Shared):Mn V κ t s=wpAny (model V.prog V.w) (ar V κ) t (Qk V κ) (Ek V κ) s:=by
 cases κ <;> rfl
noncomputable def Ok (r:Rs):Prop:=(∀ p∈r.ps,p.1=p.2)∧(∀ p∈r.ts,p.1=p.2)∧∀ p∈r.cs,p.1=p.2
theorem step_sound (V:XC) (h₀:Heap) (gv:List Addr) {hb:Option Value} (hA:V.A₀.handled=hb) (H:List Hk) (HH:∀ hk∈H,gB V.prog V.w V.K hk) (ih:Ea)
  (IH:∀ κ t L nx tk aC ps ts cs,Ok (ih κ t L nx tk aC ps ts cs)→gQ V h₀ gv (ih κ t L nx tk aC ps ts cs)→((∀ p∈ps,p.1=p.2)∧(∀ p∈ts,p.1=p.2)∧∀ p∈cs,p.1=p.2)∧∀ h,Rep V.K h₀ gv L nx h→Mn V κ t ⟨h,V.g,V.d,tk,V.os⟩) :
  ∀ κ t L nx tk aC ps ts cs,Ok (simStep V.K V.S H hb ih κ t L nx tk aC ps ts cs)→gQ V h₀ gv (simStep V.K V.S H hb ih κ t L nx tk aC ps ts cs)→((∀ p∈ps,p.1=p.2)∧(∀ p∈ts,p.1=p.2)∧∀ p∈cs,p.1=p.2)∧∀ h,Rep V.K h₀ gv L nx h→Mn V κ t ⟨h,V.g,V.d,tk,V.os⟩:=by
 intro κ t L nx tk aC ps ts cs hp ok
 cases t with
 | pure fin=>
  cases κ with
  | base=>exact ⟨hp,fun h R=>x_pure (ok h R)⟩
  | code c=>
   cases fin with
   | done f=>exact ⟨hp,fun h R=>x_pure (ok h R)⟩
   | again c'=>
    delta simStep at hp ok;dsimp only at hp ok
    cases q:rY c' with
    | false=>rw [q] at ok;exact ok.elim
    | true=>
     rw [q] at hp ok
     have q':c'.quiet=true:=by rw [uZ];exact q
     cases aC with
     | nil=>exact ok.elim
     | cons o aC=>
      cases o with
      | zero=>
       obtain ⟨a,b⟩:=IH _ _ _ _ _ _ _ _ _ hp ok
       refine ⟨a,fun h R=>x_pure ⟨q',x_code ?_⟩⟩
       have:=b h R
       rw [rN]
       exact this
      | succ o=>exact ⟨hp,fun h R=>x_pure ⟨q',ok h R⟩⟩
  | ret c hd k κ'=>
   cases fin with
   | done f=>
    obtain ⟨a,b⟩:=IH _ _ _ _ _ _ _ _ _ hp ok
    exact ⟨a,fun h R=>x_pure (b h R)⟩
   | again c'=>
    delta simStep at hp ok;dsimp only at hp ok
    cases q:rY c' with
    | false=>rw [q] at ok;exact ok.elim
    | true=>
     rw [q] at hp ok
     have q':c'.quiet=true:=by rw [uZ];exact q
     cases aC with
     | nil=>exact ok.elim
     | cons o aC=>
      cases o with
      | zero=>
       obtain ⟨a,b⟩:=IH _ _ _ _ _ _ _ _ _ hp ok
       refine ⟨a,fun h R=>x_pure ⟨q',x_code ?_⟩⟩
       have:=b h R
       rw [dY] at this
       rw [rN]
       exact this
      | succ o=>exact ⟨hp,fun h R=>x_pure ⟨q',ok h R⟩⟩
 | raise e=>
  cases κ with
  | base=>exact ⟨hp,fun h R=>x_raise (ok h R)⟩
  | code c=>exact ⟨hp,fun h R=>x_raise (ok h R)⟩
  | ret c hd k κ'=>
   obtain ⟨a,b⟩:=IH _ _ _ _ _ _ _ _ _ hp ok
   exact ⟨a,fun h R=>x_raise (b h R)⟩
 | rule tag k=>
  obtain ⟨a,b⟩:=IH _ _ _ _ _ _ _ _ _ hp ok
  refine ⟨a,fun h R=>?_⟩
  have:=b h R
  rw [dY] at this ⊢
  exact x_rule this
 | «at» q k=>
  obtain ⟨a,b⟩:=IH _ _ _ _ _ _ _ _ _ hp ok
  refine ⟨a,fun h R=>?_⟩
  have:=b h R
  rw [dY] at this ⊢
  exact x_at this
 | point l k=>
  obtain ⟨a,b⟩:=IH _ _ _ _ _ _ _ _ _ hp ok
  refine ⟨a,fun h R=>?_⟩
  have:=b h R
  rw [dY] at this ⊢
  exact x_point this
 | ask k=>
  obtain ⟨a,b⟩:=IH _ _ _ _ _ _ _ _ _ hp ok
  refine ⟨⟨a.1,fun r hr=>a.2.1 r (mem_cons_of_mem _ hr),a.2.2⟩,fun h R=>?_⟩
  have e:=a.2.1 _ (mem_cons_self ..)
  have:=b h R
  rw [dY] at this ⊢
  refine x_ask ?_
  show wpAny _ _ (k V.S) _ _ _
  rw [Qn e]
  exact this
 | fresh k=>
  obtain ⟨a,b⟩:=IH _ _ _ _ _ _ _ _ _ hp ok
  refine ⟨a,fun h R=>?_⟩
  have:=b h R
  rw [dY] at this ⊢
  exact x_fresh this
 | handled own k=>
  cases own with
  | true=>exact ok.elim
  | false=>
   obtain ⟨a,b⟩:=IH _ _ _ _ _ _ _ _ _ hp ok
   refine ⟨a,fun h R=>?_⟩
   have:=b h R
   rw [dY] at this ⊢
   refine x_handled ?_
   rw [fY V hA]
   exact this
 | load ad q k=>
  cases aC with
  | nil=>exact ok.elim
  | cons o aC=>
   cases o with
   | zero=>
    delta simStep at hp ok;dsimp only at hp ok
    cases e:V.K ad with
    | none=>rw [e] at ok;exact ok.elim
    | some ob=>
     rw [e] at hp ok
     obtain ⟨a,b⟩:=IH _ _ _ _ _ _ _ _ _ hp ok
     refine ⟨a,fun h R=>?_⟩
     have:=b h R
     rw [dY] at this ⊢
     exact x_load (R.old _ _ e) this
   | succ i=>
    delta simStep at hp ok;dsimp only at hp ok
    cases e:L[i]? with
    | none=>rw [e] at ok;exact ok.elim
    | some p=>
     rw [e] at hp ok
     obtain ⟨a,b⟩:=IH _ _ _ _ _ _ _ _ _ hp ok
     refine ⟨⟨fun r hr=>a.1 r (mem_cons_of_mem _ hr),a.2⟩,fun h R=>?_⟩
     have:=b h R
     rw [dY] at this ⊢
     have ea:ad=p.1:=a.1 _ (mem_cons_self ..)
     exact x_load (by rw [ea];exact R.own p (List.mem_of_getElem? e)) this
 | update ad q f k=>
  cases aC with
  | nil=>exact ok.elim
  | cons o aC=>
   cases o with
   | zero=>exact ok.elim
   | succ i=>
    delta simStep at hp ok;dsimp only at hp ok
    cases e:L[i]? with
    | none=>rw [e] at ok;exact ok.elim
    | some p=>
     rw [e] at hp ok
     cases hf:(f p.2).isFreed with
     | true=>simp only [hf] at ok;exact ok.elim
     | false=>
      simp only [hf] at hp ok
      obtain ⟨a,b⟩:=IH _ _ _ _ _ _ _ _ _ hp ok
      refine ⟨⟨fun r hr=>a.1 r (mem_cons_of_mem _ hr),a.2⟩,fun h R=>?_⟩
      have ea:ad=p.1:=a.1 _ (mem_cons_self ..)
      have:=b _ (R.upd e hf)
      rw [dY] at this ⊢
      rw [ea]
      exact wpAny_bind (m:=updatePart p.1 q f) (f:=k) (wpAny_updatePart (R.own p (List.mem_of_getElem? e)) this)
 | alloc o k=>
  delta simStep at hp ok;dsimp only at hp ok
  cases hf:o.isFreed with
  | true=>rw [hf] at ok;exact ok.elim
  | false=>
   rw [hf] at hp ok
   obtain ⟨a,b⟩:=IH _ _ _ _ _ _ _ _ _ hp ok
   refine ⟨a,fun h R=>?_⟩
   have:=b _ (R.push hf)
   rw [dY] at this ⊢
   refine wpAny_bind (m:=PySem.alloc o) (f:=k) (wpAny_alloc ?_)
   show wpAny _ _ (k h.objs.size) _ _ _
   rw [R.size]
   exact this
 | call c hd g l k=>
  delta simStep at hp ok;dsimp only at hp ok
  cases q:okMark hd with
  | false=>rw [q] at ok;exact ok.elim
  | true=>
   rw [q] at hp ok
   have hnb:hd≠some byPass:=by
    intro e
    subst e
    simp [okMark] at q
   cases aC with
   | nil=>exact ok.elim
   | cons o aC=>
    cases o with
    | zero=>
     obtain ⟨a,b⟩:=IH _ _ _ _ _ _ _ _ _ hp ok
     refine ⟨a,fun h R=>?_⟩
     rw [dY]
     refine x_call (x_code ?_) hnb
     have:=b h R
     rw [dY] at this
     rw [rN]
     have e2:∀ fin s',Qk V (.ret c hd k κ) fin s'→(match fin with
      | .done f=>wpAny (model V.prog V.w) (ar V κ) (k (.ok f)) (Qk V κ) (Ek V κ) s'
      | .again c'=>c'.quiet=true∧codeAny (model V.prog V.w) ((ar V κ).mark hd) c' (fun r s''=>wpAny (model V.prog V.w) (ar V κ) (k r) (Qk V κ) (Ek V κ) s'') s'):=by
      intro fin s' hq
      cases fin with
      | done f=>have hq:Mn V κ _ _:=hq;rw [dY] at hq;exact hq
      | again c'=>exact ⟨hq.1,codeAny_mono hq.2 fun r s'' x=>by rw [dY] at x;exact x⟩
     exact wpAny_mono this e2 (fun e s' x=>by have x:Mn V κ _ _:=x;rw [dY] at x;exact x)
    | succ o=>
     cases o with
     | zero=>
      refine ⟨hp,fun h R=>?_⟩
      rw [dY]
      exact x_call (codeAny_mono (ok h R) fun r s'' x=>by rw [dY] at x;exact x) hnb
     | succ j=>
      dsimp only at hp ok
      cases ej:H[j]? with
      | none=>rw [ej] at ok;exact ok.elim
      | some hk=>
       rw [ej] at hp ok
       have HK:=HH hk (List.mem_of_getElem? ej)
       dsimp only at hp ok
       cases eh:hd.or (xq hb κ) with
       | some _=>rw [eh] at ok;exact ok.elim
       | none=>
        rw [eh] at hp ok
        dsimp only at hp ok
        have hh:((ar V κ).mark hd).handled=none:=by
         show hd.or (ar V κ).handled=none
         rw [fY V hA κ];exact eh
        cases eo:hk.obj with
        | false=>
         rw [eo] at hp ok
         obtain ⟨a,b⟩:=IH _ _ _ _ _ _ _ _ _ hp ok
         refine ⟨⟨a.1,a.2.1,fun r hr=>a.2.2 r (mem_cons_of_mem _ hr)⟩,fun h R=>?_⟩
         have e:=a.2.2 _ (mem_cons_self ..)
         rw [dY]
         refine x_call (HK _ _ _ _ _ _ _ _ nop hh e R.old (by rw [eo];intro x;cases x) ?_) hnb
         intro h' z1 z2
         have:=b h' (R.same z1 z2)
         rw [dY] at this
         exact this
        | true=>
         rw [eo] at hp ok
         cases aC with
         | nil=>exact ok.elim
         | cons i aC=>
          dsimp only at hp ok
          cases el:L[i]? with
          | none=>rw [el] at ok;exact ok.elim
          | some p=>
           rw [el] at hp ok
           obtain ⟨a,b⟩:=IH _ _ _ _ _ _ _ _ _ hp ok
           refine ⟨⟨a.1,a.2.1,fun r hr=>a.2.2 r (mem_cons_of_mem _ hr)⟩,fun h R=>?_⟩
           have e:=a.2.2 _ (mem_cons_self ..)
           rw [dY]
           refine x_call (HK _ _ _ _ _ _ _ _ p hh e R.old (fun _=>R.own p (List.mem_of_getElem? el)) ?_) hnb
           intro h' z1 z2
           have:=b h' (R.same z1 z2)
           rw [dY] at this
           exact this
 | _=>exact ok.elim
theorem sim_sound (V:XC) (h₀:Heap) (gv:List Addr) {hb:Option Value} (hA:V.A₀.handled=hb) (H:List Hk) (HH:∀ hk∈H,gB V.prog V.w V.K hk):∀ n κ t L nx tk aC ps ts cs,Ok (sim V.K V.S H hb n κ t L nx tk aC ps ts cs)→gQ V h₀ gv (sim V.K V.S H hb n κ t L nx tk aC ps ts cs)→((∀ p∈ps,p.1=p.2)∧(∀ p∈ts,p.1=p.2)∧∀ p∈cs,p.1=p.2)∧∀ h,Rep V.K h₀ gv L nx h→Mn V κ t ⟨h,V.g,V.d,tk,V.os⟩
 | 0=>fun _ _ _ _ _ _ _ _ _ _ ok=>ok.elim
 | n+1=>step_sound V h₀ gv hA H HH (sim V.K V.S H hb n) (sim_sound V h₀ gv hA H HH n)
section
noncomputable abbrev pw:Program:=PySem.Challenge.pw_il0183_01
noncomputable def gC (l:List Stmt) (i:Nat):Stmt:=(l[i]?).getD (.Pass default)
noncomputable def sv:Stmt→Arguments × Scope × Expr × Expr × List Stmt × List Stmt × List ExceptHandler × Pos
 | .FunctionDef _ a b _ _ _ s _ _ p=>(a,s,default,default,b,[],[],p)
 | .ClassDef _ _ _ b _ _ s _ _ _ p=>(default,s,default,default,b,[],[],p)
 | .If t b o p=>(default,default,t,default,b,o,[],p)
 | .While t b o p=>(default,default,t,default,b,o,[],p)
 | .For t e b o p=>(default,default,t,e,b,o,[],p)
 | .Try b h o _ p=>(default,default,default,default,b,o,h,p)
 | .Return e p=>(default,default,e.getD default,default,[],[],[],p)
 | .Assign _ e p=>(default,default,e,default,[],[],[],p)
 | .Raise e c p=>(default,default,e.getD default,c.getD default,[],[],[],p)
 | _=>default
noncomputable def ev:Expr→Expr × List Expr × List Comprehension × Scope × Nat × Pos
 | .Compare l _ rs p=>(l,rs,[],default,0,p)
 | .ListComp e c s p=>(e,[],c,s,0,p)
 | .BoolOp _ rs p=>(default,rs,[],default,0,p)
 | .Call f as _ p=>(f,as,[],default,0,p)
 | .BinOp l _ r p=>(l,[r],[],default,0,p)
 | .Constant _ k p=>(default,[],[],default,k,p)
 | _=>default
noncomputable def hv:List ExceptHandler→Option Expr × Option Str × List Stmt × Pos
 | .ExceptHandler t n b p::_=>(t,n,b,p)
 | _=>default
noncomputable def Eb (s:Stmt):Expr:=(sv s).2.2.1
noncomputable def Qo (s:Stmt):Pos:=(sv s).2.2.2.2.2.2.2
noncomputable def U3 (e:Expr):Expr:=(ev e).2.1.headD default
noncomputable def Kw (e:Expr):Pos:=(ev e).2.2.2.2.2
noncomputable def clB (s:Stmt):List Stmt:=(sv s).2.2.2.2.1
noncomputable def fs (i:Nat):Stmt:=gC pw.main.body i
noncomputable def cm (i j:Nat):Stmt:=gC (clB (fs i)) j
noncomputable def fnA (s:Stmt):Arguments:=(sv s).1
noncomputable def iJ (s:Stmt):List Stmt:=(sv s).2.2.2.2.1
noncomputable def zq (s:Stmt):Scope:=(sv s).2.1
noncomputable def kD (P:Params) (s:Str) (n:Nat) (v:Value):DictEntry:=⟨reduceHash (P.strHash (Str.cps s)),.str s n,v⟩
noncomputable def kI (i n:Nat):Value:=.int (Int.ofNat i) n
noncomputable def nN (l r:KT):KT:=.node none l r
noncomputable def cO (s1:Str) (n1:Nat) (s2:Str) (n2:Nat) (f:Str) (n3 l a b c d:Nat) (r0 x:Value) (e:Nat) (r1 y1 y2 y3 y4:Value) (m n4:Nat):Obj:=⟨.type "code",none,.fields ⟨[.str s1 n1,.str s2 n2,.str f n3,kI l 0,kI a 0,kI b 0,kI c 0,kI d 0,r0,x,kI e 0,r1,y1,y2,y3,y4,kI m 0,kI l 0,.str f n4]⟩,⟨[]⟩⟩
noncomputable def fO (n q:Str) (s:Stmt) (a b c d:Value) (o:Option Addr) (e f:Value) (g:Nat):Obj:=⟨.type "function",none,.func ⟨n,q,fnA s,.stmts (iJ s),zq s,3,[],a,b,c,d,o,e,f,g⟩,⟨[]⟩⟩
local macro_rules | `($n:num)=>`(nat_lit $n)
noncomputable def s0:Str:=⟨⟨[95,95,110,97,109,101,95,95]⟩⟩
noncomputable def s1:Str:=⟨⟨[98,117,105,108,116,105,110,115]⟩⟩
noncomputable def s2:Str:=⟨⟨[95,95,100,111,99,95,95]⟩⟩
noncomputable def s3:Str:=⟨⟨[95,95,112,97,99,107,97,103,101,95,95]⟩⟩
noncomputable def s4:Str:=⟨⟨[95,95,108,111,97,100,101,114,95,95]⟩⟩
noncomputable def s5:Str:=⟨⟨[95,95,115,112,101,99,95,95]⟩⟩
noncomputable def s6:Str:=⟨⟨[95,95,98,117,105,108,100,95,99,108,97,115,115,95,95]⟩⟩
noncomputable def s7:Str:=⟨⟨[95,95,105,109,112,111,114,116,95,95]⟩⟩
noncomputable def s8:Str:=⟨⟨[97,98,115]⟩⟩
noncomputable def s9:Str:=⟨⟨[97,108,108]⟩⟩
noncomputable def s10:Str:=⟨⟨[97,110,121]⟩⟩
noncomputable def s11:Str:=⟨⟨[97,115,99,105,105]⟩⟩
noncomputable def s12:Str:=⟨⟨[98,105,110]⟩⟩
noncomputable def s13:Str:=⟨⟨[98,114,101,97,107,112,111,105,110,116]⟩⟩
noncomputable def s14:Str:=⟨⟨[99,97,108,108,97,98,108,101]⟩⟩
noncomputable def s15:Str:=⟨⟨[99,104,114]⟩⟩
noncomputable def s16:Str:=⟨⟨[99,111,109,112,105,108,101]⟩⟩
noncomputable def s17:Str:=⟨⟨[100,101,108,97,116,116,114]⟩⟩
noncomputable def s18:Str:=⟨⟨[100,105,114]⟩⟩
noncomputable def s19:Str:=⟨⟨[100,105,118,109,111,100]⟩⟩
noncomputable def s20:Str:=⟨⟨[101,118,97,108]⟩⟩
noncomputable def s21:Str:=⟨⟨[101,120,101,99]⟩⟩
noncomputable def s22:Str:=⟨⟨[102,111,114,109,97,116]⟩⟩
noncomputable def s23:Str:=⟨⟨[103,101,116,97,116,116,114]⟩⟩
noncomputable def s24:Str:=⟨⟨[103,108,111,98,97,108,115]⟩⟩
noncomputable def s25:Str:=⟨⟨[104,97,115,97,116,116,114]⟩⟩
noncomputable def s26:Str:=⟨⟨[104,97,115,104]⟩⟩
noncomputable def s27:Str:=⟨⟨[104,101,120]⟩⟩
noncomputable def s28:Str:=⟨⟨[105,100]⟩⟩
noncomputable def s29:Str:=⟨⟨[105,110,112,117,116]⟩⟩
noncomputable def s30:Str:=⟨⟨[105,115,105,110,115,116,97,110,99,101]⟩⟩
noncomputable def s31:Str:=⟨⟨[105,115,115,117,98,99,108,97,115,115]⟩⟩
noncomputable def s32:Str:=⟨⟨[105,116,101,114]⟩⟩
noncomputable def s33:Str:=⟨⟨[97,105,116,101,114]⟩⟩
noncomputable def s34:Str:=⟨⟨[108,101,110]⟩⟩
noncomputable def s35:Str:=⟨⟨[108,111,99,97,108,115]⟩⟩
noncomputable def s36:Str:=⟨⟨[109,97,120]⟩⟩
noncomputable def s37:Str:=⟨⟨[109,105,110]⟩⟩
noncomputable def s38:Str:=⟨⟨[110,101,120,116]⟩⟩
noncomputable def s39:Str:=⟨⟨[97,110,101,120,116]⟩⟩
noncomputable def s40:Str:=⟨⟨[111,99,116]⟩⟩
noncomputable def s41:Str:=⟨⟨[111,114,100]⟩⟩
noncomputable def s42:Str:=⟨⟨[112,111,119]⟩⟩
noncomputable def s43:Str:=⟨⟨[112,114,105,110,116]⟩⟩
noncomputable def s44:Str:=⟨⟨[114,101,112,114]⟩⟩
noncomputable def s45:Str:=⟨⟨[114,111,117,110,100]⟩⟩
noncomputable def s46:Str:=⟨⟨[115,101,116,97,116,116,114]⟩⟩
noncomputable def s47:Str:=⟨⟨[115,111,114,116,101,100]⟩⟩
noncomputable def s48:Str:=⟨⟨[115,117,109]⟩⟩
noncomputable def s49:Str:=⟨⟨[118,97,114,115]⟩⟩
noncomputable def s50:Str:=⟨⟨[78,111,110,101]⟩⟩
noncomputable def s51:Str:=⟨⟨[69,108,108,105,112,115,105,115]⟩⟩
noncomputable def s52:Str:=⟨⟨[78,111,116,73,109,112,108,101,109,101,110,116,101,100]⟩⟩
noncomputable def s53:Str:=⟨⟨[70,97,108,115,101]⟩⟩
noncomputable def s54:Str:=⟨⟨[84,114,117,101]⟩⟩
noncomputable def s55:Str:=⟨⟨[98,111,111,108]⟩⟩
noncomputable def s56:Str:=⟨⟨[109,101,109,111,114,121,118,105,101,119]⟩⟩
noncomputable def s57:Str:=⟨⟨[98,121,116,101,97,114,114,97,121]⟩⟩
noncomputable def s58:Str:=⟨⟨[98,121,116,101,115]⟩⟩
noncomputable def s59:Str:=⟨⟨[99,108,97,115,115,109,101,116,104,111,100]⟩⟩
noncomputable def s60:Str:=⟨⟨[99,111,109,112,108,101,120]⟩⟩
noncomputable def s61:Str:=⟨⟨[100,105,99,116]⟩⟩
noncomputable def s62:Str:=⟨⟨[101,110,117,109,101,114,97,116,101]⟩⟩
noncomputable def s63:Str:=⟨⟨[102,105,108,116,101,114]⟩⟩
noncomputable def s64:Str:=⟨⟨[102,108,111,97,116]⟩⟩
noncomputable def s65:Str:=⟨⟨[102,114,111,122,101,110,115,101,116]⟩⟩
noncomputable def s66:Str:=⟨⟨[112,114,111,112,101,114,116,121]⟩⟩
noncomputable def s67:Str:=⟨⟨[105,110,116]⟩⟩
noncomputable def s68:Str:=⟨⟨[108,105,115,116]⟩⟩
noncomputable def s69:Str:=⟨⟨[109,97,112]⟩⟩
noncomputable def s70:Str:=⟨⟨[111,98,106,101,99,116]⟩⟩
noncomputable def s71:Str:=⟨⟨[114,97,110,103,101]⟩⟩
noncomputable def s72:Str:=⟨⟨[114,101,118,101,114,115,101,100]⟩⟩
noncomputable def s73:Str:=⟨⟨[115,101,116]⟩⟩
noncomputable def s74:Str:=⟨⟨[115,108,105,99,101]⟩⟩
noncomputable def s75:Str:=⟨⟨[115,116,97,116,105,99,109,101,116,104,111,100]⟩⟩
noncomputable def s76:Str:=⟨⟨[115,116,114]⟩⟩
noncomputable def s77:Str:=⟨⟨[115,117,112,101,114]⟩⟩
noncomputable def s78:Str:=⟨⟨[116,117,112,108,101]⟩⟩
noncomputable def s79:Str:=⟨⟨[116,121,112,101]⟩⟩
noncomputable def s80:Str:=⟨⟨[122,105,112]⟩⟩
noncomputable def s81:Str:=⟨⟨[95,95,100,101,98,117,103,95,95]⟩⟩
noncomputable def s82:Str:=⟨⟨[66,97,115,101,69,120,99,101,112,116,105,111,110]⟩⟩
noncomputable def s83:Str:=⟨⟨[66,97,115,101,69,120,99,101,112,116,105,111,110,71,114,111,117,112]⟩⟩
noncomputable def s84:Str:=⟨⟨[69,120,99,101,112,116,105,111,110]⟩⟩
noncomputable def s85:Str:=⟨⟨[71,101,110,101,114,97,116,111,114,69,120,105,116]⟩⟩
noncomputable def s86:Str:=⟨⟨[75,101,121,98,111,97,114,100,73,110,116,101,114,114,117,112,116]⟩⟩
noncomputable def s87:Str:=⟨⟨[83,121,115,116,101,109,69,120,105,116]⟩⟩
noncomputable def s88:Str:=⟨⟨[65,114,105,116,104,109,101,116,105,99,69,114,114,111,114]⟩⟩
noncomputable def s89:Str:=⟨⟨[65,115,115,101,114,116,105,111,110,69,114,114,111,114]⟩⟩
noncomputable def s90:Str:=⟨⟨[65,116,116,114,105,98,117,116,101,69,114,114,111,114]⟩⟩
noncomputable def s91:Str:=⟨⟨[66,117,102,102,101,114,69,114,114,111,114]⟩⟩
noncomputable def s92:Str:=⟨⟨[69,79,70,69,114,114,111,114]⟩⟩
noncomputable def s93:Str:=⟨⟨[73,109,112,111,114,116,69,114,114,111,114]⟩⟩
noncomputable def s94:Str:=⟨⟨[76,111,111,107,117,112,69,114,114,111,114]⟩⟩
noncomputable def s95:Str:=⟨⟨[77,101,109,111,114,121,69,114,114,111,114]⟩⟩
noncomputable def s96:Str:=⟨⟨[78,97,109,101,69,114,114,111,114]⟩⟩
noncomputable def s97:Str:=⟨⟨[79,83,69,114,114,111,114]⟩⟩
noncomputable def s98:Str:=⟨⟨[82,101,102,101,114,101,110,99,101,69,114,114,111,114]⟩⟩
noncomputable def s99:Str:=⟨⟨[82,117,110,116,105,109,101,69,114,114,111,114]⟩⟩
noncomputable def V9:Str:=⟨⟨[83,116,111,112,65,115,121,110,99,73,116,101,114,97,116,105,111,110]⟩⟩
noncomputable def Wa:Str:=⟨⟨[83,116,111,112,73,116,101,114,97,116,105,111,110]⟩⟩
noncomputable def Wb:Str:=⟨⟨[83,121,110,116,97,120,69,114,114,111,114]⟩⟩
noncomputable def Wc:Str:=⟨⟨[83,121,115,116,101,109,69,114,114,111,114]⟩⟩
noncomputable def Wd:Str:=⟨⟨[84,121,112,101,69,114,114,111,114]⟩⟩
noncomputable def Wf:Str:=⟨⟨[86,97,108,117,101,69,114,114,111,114]⟩⟩
noncomputable def Wg:Str:=⟨⟨[87,97,114,110,105,110,103]⟩⟩
noncomputable def Wh:Str:=⟨⟨[70,108,111,97,116,105,110,103,80,111,105,110,116,69,114,114,111,114]⟩⟩
noncomputable def Wi:Str:=⟨⟨[79,118,101,114,102,108,111,119,69,114,114,111,114]⟩⟩
noncomputable def Wj:Str:=⟨⟨[90,101,114,111,68,105,118,105,115,105,111,110,69,114,114,111,114]⟩⟩
noncomputable def Wk:Str:=⟨⟨[66,121,116,101,115,87,97,114,110,105,110,103]⟩⟩
noncomputable def Wm:Str:=⟨⟨[68,101,112,114,101,99,97,116,105,111,110,87,97,114,110,105,110,103]⟩⟩
noncomputable def Wn:Str:=⟨⟨[69,110,99,111,100,105,110,103,87,97,114,110,105,110,103]⟩⟩
noncomputable def Wo:Str:=⟨⟨[70,117,116,117,114,101,87,97,114,110,105,110,103]⟩⟩
noncomputable def Wq:Str:=⟨⟨[73,109,112,111,114,116,87,97,114,110,105,110,103]⟩⟩
noncomputable def Wr:Str:=⟨⟨[80,101,110,100,105,110,103,68,101,112,114,101,99,97,116,105,111,110,87,97,114,110,105,110,103]⟩⟩
noncomputable def Ws:Str:=⟨⟨[82,101,115,111,117,114,99,101,87,97,114,110,105,110,103]⟩⟩
noncomputable def Wt:Str:=⟨⟨[82,117,110,116,105,109,101,87,97,114,110,105,110,103]⟩⟩
noncomputable def Wu:Str:=⟨⟨[83,121,110,116,97,120,87,97,114,110,105,110,103]⟩⟩
noncomputable def Wv:Str:=⟨⟨[85,110,105,99,111,100,101,87,97,114,110,105,110,103]⟩⟩
noncomputable def Ww:Str:=⟨⟨[85,115,101,114,87,97,114,110,105,110,103]⟩⟩
noncomputable def Wx:Str:=⟨⟨[66,108,111,99,107,105,110,103,73,79,69,114,114,111,114]⟩⟩
noncomputable def Wy:Str:=⟨⟨[67,104,105,108,100,80,114,111,99,101,115,115,69,114,114,111,114]⟩⟩
noncomputable def Wz:Str:=⟨⟨[67,111,110,110,101,99,116,105,111,110,69,114,114,111,114]⟩⟩
noncomputable def WD:Str:=⟨⟨[70,105,108,101,69,120,105,115,116,115,69,114,114,111,114]⟩⟩
noncomputable def WK:Str:=⟨⟨[70,105,108,101,78,111,116,70,111,117,110,100,69,114,114,111,114]⟩⟩
noncomputable def WL:Str:=⟨⟨[73,110,116,101,114,114,117,112,116,101,100,69,114,114,111,114]⟩⟩
noncomputable def WM:Str:=⟨⟨[73,115,65,68,105,114,101,99,116,111,114,121,69,114,114,111,114]⟩⟩
noncomputable def WR:Str:=⟨⟨[78,111,116,65,68,105,114,101,99,116,111,114,121,69,114,114,111,114]⟩⟩
noncomputable def WT:Str:=⟨⟨[80,101,114,109,105,115,115,105,111,110,69,114,114,111,114]⟩⟩
noncomputable def WW:Str:=⟨⟨[80,114,111,99,101,115,115,76,111,111,107,117,112,69,114,114,111,114]⟩⟩
noncomputable def WX:Str:=⟨⟨[84,105,109,101,111,117,116,69,114,114,111,114]⟩⟩
noncomputable def WY:Str:=⟨⟨[73,110,100,101,110,116,97,116,105,111,110,69,114,114,111,114]⟩⟩
noncomputable def W0:Str:=⟨⟨[95,73,110,99,111,109,112,108,101,116,101,73,110,112,117,116,69,114,114,111,114]⟩⟩
noncomputable def W2:Str:=⟨⟨[73,110,100,101,120,69,114,114,111,114]⟩⟩
noncomputable def W3:Str:=⟨⟨[75,101,121,69,114,114,111,114]⟩⟩
noncomputable def W4:Str:=⟨⟨[77,111,100,117,108,101,78,111,116,70,111,117,110,100,69,114,114,111,114]⟩⟩
noncomputable def W5:Str:=⟨⟨[78,111,116,73,109,112,108,101,109,101,110,116,101,100,69,114,114,111,114]⟩⟩
noncomputable def W6:Str:=⟨⟨[80,121,116,104,111,110,70,105,110,97,108,105,122,97,116,105,111,110,69,114,114,111,114]⟩⟩
noncomputable def W7:Str:=⟨⟨[82,101,99,117,114,115,105,111,110,69,114,114,111,114]⟩⟩
noncomputable def W8:Str:=⟨⟨[85,110,98,111,117,110,100,76,111,99,97,108,69,114,114,111,114]⟩⟩
noncomputable def W9:Str:=⟨⟨[85,110,105,99,111,100,101,69,114,114,111,114]⟩⟩
noncomputable def Xa:Str:=⟨⟨[66,114,111,107,101,110,80,105,112,101,69,114,114,111,114]⟩⟩
noncomputable def Xb:Str:=⟨⟨[67,111,110,110,101,99,116,105,111,110,65,98,111,114,116,101,100,69,114,114,111,114]⟩⟩
noncomputable def Xc:Str:=⟨⟨[67,111,110,110,101,99,116,105,111,110,82,101,102,117,115,101,100,69,114,114,111,114]⟩⟩
noncomputable def Xd:Str:=⟨⟨[67,111,110,110,101,99,116,105,111,110,82,101,115,101,116,69,114,114,111,114]⟩⟩
noncomputable def Xe:Str:=⟨⟨[84,97,98,69,114,114,111,114]⟩⟩
noncomputable def Xf:Str:=⟨⟨[85,110,105,99,111,100,101,68,101,99,111,100,101,69,114,114,111,114]⟩⟩
noncomputable def Xg:Str:=⟨⟨[85,110,105,99,111,100,101,69,110,99,111,100,101,69,114,114,111,114]⟩⟩
noncomputable def Xh:Str:=⟨⟨[85,110,105,99,111,100,101,84,114,97,110,115,108,97,116,101,69,114,114,111,114]⟩⟩
noncomputable def Xi:Str:=⟨⟨[69,120,99,101,112,116,105,111,110,71,114,111,117,112]⟩⟩
noncomputable def Xj:Str:=⟨⟨[69,110,118,105,114,111,110,109,101,110,116,69,114,114,111,114]⟩⟩
noncomputable def Xk:Str:=⟨⟨[73,79,69,114,114,111,114]⟩⟩
noncomputable def Xl:Str:=⟨⟨[111,112,101,110]⟩⟩
noncomputable def Xm:Str:=⟨⟨[113,117,105,116]⟩⟩
noncomputable def Xn:Str:=⟨⟨[101,120,105,116]⟩⟩
noncomputable def Xo:Str:=⟨⟨[99,111,112,121,114,105,103,104,116]⟩⟩
noncomputable def Xp:Str:=⟨⟨[99,114,101,100,105,116,115]⟩⟩
noncomputable def Xq:Str:=⟨⟨[108,105,99,101,110,115,101]⟩⟩
noncomputable def Xr:Str:=⟨⟨[104,101,108,112]⟩⟩
noncomputable def Xu:Str:=⟨⟨[105,109,112,111,114,116,46,108,111,97,100,101,100,46,95,99,111,108,108,101,99,116,105,111,110,115]⟩⟩
noncomputable def Xv:Str:=⟨⟨[99,108,97,115,115,46,95,102,114,111,122,101,110,95,105,109,112,111,114,116,108,105,98,46,66,117,105,108,116,105,110,73,109,112,111,114,116,101,114]⟩⟩
noncomputable def Xw:Str:=⟨⟨[119,97,116,99,104,101,100,46,105,109,112,111,114,116]⟩⟩
noncomputable def Xx:Str:=⟨⟨[99,108,97,115,115,46,95,102,114,111,122,101,110,95,105,109,112,111,114,116,108,105,98,46,77,111,100,117,108,101,83,112,101,99]⟩⟩
noncomputable def Xy:Str:=⟨⟨[115,121,115,46,109,111,100,117,108,101,115,46,98,111,111,107,101,100,45,101,112,111,99,104]⟩⟩
noncomputable def Xz:Str:=⟨⟨[115,121,115,46,109,111,100,117,108,101,115,46,108,97,110,100,101,100,46,95,99,111,108,108,101,99,116,105,111,110,115]⟩⟩
noncomputable def XD:Str:=⟨⟨[105,109,112,111,114,116,46,108,97,116,101,114,45,108,97,105,100,46,95,99,111,108,108,101,99,116,105,111,110,115]⟩⟩
noncomputable def XF:Str:=⟨⟨[119,97,116,99,104,101,100,46,108,105,98,114,97,114,121]⟩⟩
noncomputable def XJ:Str:=⟨⟨[119,97,116,99,104,101,100,46,108,105,98,114,97,114,121,45,111,98,106,101,99,116,115]⟩⟩
noncomputable def XK:Str:=⟨⟨[13]⟩⟩
noncomputable def XM:Str:=⟨⟨[119,97,116,99,104,101,100,46,108,105,98,114,97,114,121,45,100,101,101,112,46,95,99,111,108,108,101,99,116,105,111,110,115]⟩⟩
noncomputable def XQ:Str:=⟨⟨[4,0,0,12,4,0,0,12,4,0,0,3,4,0,0,12,8,4,100,105,99,116,2]⟩⟩
noncomputable def XR:Str:=⟨⟨[116,121,112,101,46,95,95,115,117,98,99,108,97,115,115,101,115,95,95,46,79,83,69,114,114,111,114,46,48]⟩⟩
noncomputable def XS:Str:=⟨⟨[116,121,112,101,46,95,95,115,117,98,99,108,97,115,115,101,115,95,95,46,79,83,69,114,114,111,114,46,110]⟩⟩
noncomputable def rZ:Str:=⟨⟨[108,97,119,95,105,108,48,49,56,51,95,48,49]⟩⟩
noncomputable def Yb:Str:=⟨⟨[95,95,97,110,110,111,116,97,116,105,111,110,115,95,95]⟩⟩
noncomputable def Yc:Str:=⟨⟨[95,95,98,117,105,108,116,105,110,115,95,95]⟩⟩
noncomputable def Yd:Str:=⟨⟨[95,95,102,105,108,101,95,95]⟩⟩
noncomputable def fQ:Str:=⟨⟨[47,99,108,97,105,109,47,99,117,116,46,112,121]⟩⟩
noncomputable def Ye:Str:=⟨⟨[95,95,99,97,99,104,101,100,95,95]⟩⟩
noncomputable def Yg:Str:=⟨⟨[100,101,113,117,101]⟩⟩
noncomputable def Yh:Str:=⟨⟨[95,119,97,108,108]⟩⟩
noncomputable def Yi:Str:=⟨⟨[95,119,104,101,110,99,101]⟩⟩
noncomputable def Ec:Str:=⟨⟨[95,105,110,100,101,120]⟩⟩
noncomputable def Yj:Str:=⟨⟨[85,110,115,117,112,112,111,114,116,101,100,79,112,101,114,97,116,105,111,110]⟩⟩
noncomputable def Ed:Str:=⟨⟨[73,79,66,97,115,101]⟩⟩
noncomputable def Yk:Str:=⟨⟨[66,117,102,102,101,114,101,100,73,79,66,97,115,101]⟩⟩
noncomputable def Ef:Str:=⟨⟨[84,101,120,116,73,79,66,97,115,101]⟩⟩
noncomputable def Eh:Str:=⟨⟨[66,121,116,101,115,73,79]⟩⟩
noncomputable def Ei:Str:=⟨⟨[83,116,114,105,110,103,73,79]⟩⟩
noncomputable def Yl:Str:=⟨⟨[95,107,105,110,100]⟩⟩
noncomputable def Ym:Str:=⟨⟨[95,102,115,112,97,116,104]⟩⟩
noncomputable def Yn:Str:=⟨⟨[95,99,104,101,99,107,95,97,114,103,95,116,121,112,101,115]⟩⟩
noncomputable def Yo:Str:=⟨⟨[105,115,97,98,115]⟩⟩
noncomputable def Yp:Str:=⟨⟨[106,111,105,110]⟩⟩
noncomputable def Yq:Str:=⟨⟨[100,105,114,110,97,109,101]⟩⟩
noncomputable def Ej:Str:=⟨⟨[115,104,108,101,120]⟩⟩
noncomputable def El:Str:=⟨⟨[115,112,108,105,116]⟩⟩
noncomputable def Yr:Str:=⟨⟨[95,105,110,105,116,105,97,108,95,109,105,115,115,105,110,103]⟩⟩
noncomputable def Em:Str:=⟨⟨[114,101,100,117,99,101]⟩⟩
noncomputable def En:Str:=⟨⟨[114,101,97,100,95,117,105,110,116,49]⟩⟩
noncomputable def Eo:Str:=⟨⟨[114,101,97,100,95,115,116,114,105,110,103,49]⟩⟩
noncomputable def Ep:Str:=⟨⟨[95,69,120,97,109,112,108,101]⟩⟩
noncomputable def Er:Str:=⟨⟨[95,108,97,119,95,115,116,114,101,97,109]⟩⟩
noncomputable def Es:Str:=⟨⟨[95,108,97,119,95,112,105,101,99,101,115]⟩⟩
noncomputable def Et:Str:=⟨⟨[95,108,97,119,95,114,101,97,100]⟩⟩
noncomputable def Eu:Str:=⟨⟨[95,108,97,119,95,115,116,101,112]⟩⟩
noncomputable def Ew:Str:=⟨⟨[95,108,97,119,95,114,111,119]⟩⟩
noncomputable def Ey:Str:=⟨⟨[95,108,97,119,95,106,111,105,110,101,100]⟩⟩
noncomputable def Ez:Str:=⟨⟨[95,108,97,119,95,112,117,116,95,97,104,101,97,100]⟩⟩
noncomputable def EY:Str:=⟨⟨[95,108,97,119,95,111,102,95,110,111,110,101,95,114,101,102,117,115,101,100]⟩⟩
noncomputable def Fb:Str:=⟨⟨[95,108,97,119,95,116,101,108,108,115]⟩⟩
noncomputable def Fd:Str:=⟨⟨[108,97,119]⟩⟩
noncomputable def xr:Str:=⟨⟨[105,111]⟩⟩
noncomputable def Ma:Str:=⟨⟨[95,95,110,101,119,95,95]⟩⟩
noncomputable def Qp:Str:=⟨⟨[73,79,66,97,115,101,46,95,95,110,101,119,95,95]⟩⟩
noncomputable def Fe:Str:=⟨⟨[95,95,109,111,100,117,108,101,95,95]⟩⟩
noncomputable def Fg:Str:=⟨⟨[95,95,102,105,114,115,116,108,105,110,101,110,111,95,95]⟩⟩
noncomputable def Fi:Str:=⟨⟨[95,95,115,116,97,116,105,99,95,97,116,116,114,105,98,117,116,101,115,95,95]⟩⟩
noncomputable def Mf:Str:=⟨⟨[95,95,100,105,99,116,95,95]⟩⟩
noncomputable def Mg:Str:=⟨⟨[95,95,119,101,97,107,114,101,102,95,95]⟩⟩
noncomputable def Ys:Str:=⟨⟨[]⟩⟩
noncomputable def Yt:Str:=⟨⟨[10]⟩⟩
noncomputable def vW:Str:=⟨⟨[95,95,105,110,105,116,95,95]⟩⟩
noncomputable def Qq:Str:=⟨⟨[83,116,114,105,110,103,73,79,46,95,95,105,110,105,116,95,95]⟩⟩
noncomputable def Qs:Str:=⟨⟨[95,95,116,114,97,110,115,108,97,116,101,100]⟩⟩
noncomputable def Qt:Str:=⟨⟨[83,116,114,105,110,103,73,79,46,95,95,116,114,97,110,115,108,97,116,101,100]⟩⟩
noncomputable def Qu:Str:=⟨⟨[95,95,99,104,101,99,107]⟩⟩
noncomputable def Qv:Str:=⟨⟨[83,116,114,105,110,103,73,79,46,95,95,99,104,101,99,107]⟩⟩
noncomputable def Mh:Str:=⟨⟨[114,101,97,100]⟩⟩
noncomputable def Qw:Str:=⟨⟨[83,116,114,105,110,103,73,79,46,114,101,97,100]⟩⟩
noncomputable def Yu:Str:=⟨⟨[95,105,111]⟩⟩
noncomputable def Yv:Str:=⟨⟨[95,83,116,114,105,110,103,73,79,95,95,116,114,97,110,115,108,97,116,101,100]⟩⟩
noncomputable def Yw:Str:=⟨⟨[95,83,116,114,105,110,103,73,79,95,95,99,104,101,99,107]⟩⟩
noncomputable def Yx:Str:=⟨⟨[95,83,116,114,105,110,103,73,79,95,95,99,104,101,99,107,95,100,111,116]⟩⟩
noncomputable def Yy:Str:=⟨⟨[95,83,116,114,105,110,103,73,79,95,95,108,105,110,101]⟩⟩
noncomputable def Yz:Str:=⟨⟨[99,108,111,115,101,100]⟩⟩
noncomputable def YB:Str:=⟨⟨[108,105,110,101,95,98,117,102,102,101,114,105,110,103]⟩⟩
noncomputable def YC:Str:=⟨⟨[110,101,119,108,105,110,101,115]⟩⟩
noncomputable def YD:Str:=⟨⟨[101,110,99,111,100,105,110,103]⟩⟩
noncomputable def YF:Str:=⟨⟨[101,114,114,111,114,115]⟩⟩
noncomputable def YG:Str:=⟨⟨[99,108,111,115,101]⟩⟩
noncomputable def YH:Str:=⟨⟨[95,95,101,110,116,101,114,95,95]⟩⟩
noncomputable def YJ:Str:=⟨⟨[95,95,101,120,105,116,95,95]⟩⟩
noncomputable def YK:Str:=⟨⟨[114,101,97,100,97,98,108,101]⟩⟩
noncomputable def YL:Str:=⟨⟨[119,114,105,116,97,98,108,101]⟩⟩
noncomputable def YM:Str:=⟨⟨[115,101,101,107,97,98,108,101]⟩⟩
noncomputable def YQ:Str:=⟨⟨[105,115,97,116,116,121]⟩⟩
noncomputable def YS:Str:=⟨⟨[102,108,117,115,104]⟩⟩
noncomputable def YT:Str:=⟨⟨[102,105,108,101,110,111]⟩⟩
noncomputable def YW:Str:=⟨⟨[100,101,116,97,99,104]⟩⟩
noncomputable def YX:Str:=⟨⟨[103,101,116,118,97,108,117,101]⟩⟩
noncomputable def YZ:Str:=⟨⟨[116,101,108,108]⟩⟩
noncomputable def Y0:Str:=⟨⟨[115,101,101,107]⟩⟩
noncomputable def Y4:Str:=⟨⟨[116,114,117,110,99,97,116,101]⟩⟩
noncomputable def Y5:Str:=⟨⟨[114,101,97,100,108,105,110,101]⟩⟩
noncomputable def Y6:Str:=⟨⟨[114,101,97,100,108,105,110,101,115]⟩⟩
noncomputable def HY:Str:=⟨⟨[95,95,105,116,101,114,95,95]⟩⟩
noncomputable def H6:Str:=⟨⟨[95,95,110,101,120,116,95,95]⟩⟩
noncomputable def Y7:Str:=⟨⟨[119,114,105,116,101]⟩⟩
noncomputable def Y8:Str:=⟨⟨[119,114,105,116,101,108,105,110,101,115]⟩⟩
noncomputable def Y9:Str:=⟨⟨[95,95,114,101,112,114,95,95]⟩⟩
noncomputable def Qx:Str:=⟨⟨[115,104,108,101,120,46,95,95,105,110,105,116,95,95]⟩⟩
noncomputable def xu:Str:=⟨⟨[99,112,121,51,49,51,46,115,104,108,101,120]⟩⟩
noncomputable def H8:Str:=⟨⟨[112,117,110,99,116,117,97,116,105,111,110,95,99,104,97,114,115]⟩⟩
noncomputable def Qy:Str:=⟨⟨[115,104,108,101,120,46,112,117,110,99,116,117,97,116,105,111,110,95,99,104,97,114,115]⟩⟩
noncomputable def Mi:Str:=⟨⟨[103,101,116,95,116,111,107,101,110]⟩⟩
noncomputable def Qz:Str:=⟨⟨[115,104,108,101,120,46,103,101,116,95,116,111,107,101,110]⟩⟩
noncomputable def Mj:Str:=⟨⟨[114,101,97,100,95,116,111,107,101,110]⟩⟩
noncomputable def QB:Str:=⟨⟨[115,104,108,101,120,46,114,101,97,100,95,116,111,107,101,110]⟩⟩
noncomputable def QC:Str:=⟨⟨[115,104,108,101,120,46,95,95,105,116,101,114,95,95]⟩⟩
noncomputable def QD:Str:=⟨⟨[115,104,108,101,120,46,95,95,110,101,120,116,95,95]⟩⟩
noncomputable def Za:Str:=⟨⟨[112,117,115,104,95,116,111,107,101,110]⟩⟩
noncomputable def Zb:Str:=⟨⟨[112,117,115,104,95,115,111,117,114,99,101]⟩⟩
noncomputable def Zc:Str:=⟨⟨[112,111,112,95,115,111,117,114,99,101]⟩⟩
noncomputable def Zd:Str:=⟨⟨[115,111,117,114,99,101,104,111,111,107]⟩⟩
noncomputable def Ze:Str:=⟨⟨[101,114,114,111,114,95,108,101,97,100,101,114]⟩⟩
noncomputable def Zf:Str:=⟨⟨[99,112,121,51,49,51,46,102,117,110,99,116,111,111,108,115]⟩⟩
noncomputable def H9:Str:=⟨⟨[99,112,121,51,49,51,46,112,105,99,107,108,101,116,111,111,108,115]⟩⟩
noncomputable def QF:Str:=⟨⟨[95,69,120,97,109,112,108,101,46,95,95,105,110,105,116,95,95]⟩⟩
noncomputable def o0 (P:Params):Obj:=⟨(.type "dict"),none,(.dict ⟨[kD P s0 1 (.str s1 160),
  kD P s2 2 (.builtin "builtins.__doc__:str#opaque"),
  kD P s3 3 (.builtin "builtins.__package__:str#opaque"),
  kD P s4 4 (.builtin "builtins.__loader__:shared#opaque"),
  kD P s5 5 (.builtin "builtins.__spec__#opaque"),
  kD P s6 6 (.builtin "__build_class__"),
  kD P s7 7 (.builtin "__import__"),
  kD P s8 8 (.builtin "abs"),
  kD P s9 9 (.builtin "all"),
  kD P s10 10 (.builtin "any"),
  kD P s11 11 (.builtin "ascii"),
  kD P s12 12 (.builtin "bin"),
  kD P s13 13 (.builtin "breakpoint"),
  kD P s14 14 (.builtin "callable"),
  kD P s15 15 (.builtin "chr"),
  kD P s16 16 (.builtin "compile"),
  kD P s17 17 (.builtin "delattr"),
  kD P s18 18 (.builtin "dir"),
  kD P s19 19 (.builtin "divmod"),
  kD P s20 20 (.builtin "eval"),
  kD P s21 21 (.builtin "exec"),
  kD P s22 22 (.builtin "format"),
  kD P s23 23 (.builtin "getattr"),
  kD P s24 24 (.builtin "globals"),
  kD P s25 25 (.builtin "hasattr"),
  kD P s26 26 (.builtin "hash"),
  kD P s27 27 (.builtin "hex"),
  kD P s28 28 (.builtin "id"),
  kD P s29 29 (.builtin "input"),
  kD P s30 30 (.builtin "isinstance"),
  kD P s31 31 (.builtin "issubclass"),
  kD P s32 32 (.builtin "iter"),
  kD P s33 33 (.builtin "aiter"),
  kD P s34 34 (.builtin "len"),
  kD P s35 35 (.builtin "locals"),
  kD P s36 36 (.builtin "max"),
  kD P s37 37 (.builtin "min"),
  kD P s38 38 (.builtin "next"),
  kD P s39 39 (.builtin "anext"),
  kD P s40 40 (.builtin "oct"),
  kD P s41 41 (.builtin "ord"),
  kD P s42 42 (.builtin "pow"),
  kD P s43 43 (.builtin "print"),
  kD P s44 44 (.builtin "repr"),
  kD P s45 45 (.builtin "round"),
  kD P s46 46 (.builtin "setattr"),
  kD P s47 47 (.builtin "sorted"),
  kD P s48 48 (.builtin "sum"),
  kD P s49 49 (.builtin "vars"),
  kD P s50 50 .none,
  kD P s51 51 .ellipsis,
  kD P s52 52 .notImplemented,
  kD P s53 53 (.bool false),
  kD P s54 54 (.bool true),
  kD P s55 55 (.type "bool"),
  kD P s56 56 (.type "memoryview"),
  kD P s57 57 (.type "bytearray"),
  kD P s58 58 (.type "bytes"),
  kD P s59 59 (.type "classmethod"),
  kD P s60 60 (.type "complex"),
  kD P s61 61 (.type "dict"),
  kD P s62 62 (.type "enumerate"),
  kD P s63 63 (.type "filter"),
  kD P s64 64 (.type "float"),
  kD P s65 65 (.type "frozenset"),
  kD P s66 66 (.type "property"),
  kD P s67 67 (.type "int"),
  kD P s68 68 (.type "list"),
  kD P s69 69 (.type "map"),
  kD P s70 70 (.type "object"),
  kD P s71 71 (.type "range"),
  kD P s72 72 (.type "reversed"),
  kD P s73 73 (.type "set"),
  kD P s74 74 (.type "slice"),
  kD P s75 75 (.type "staticmethod"),
  kD P s76 76 (.type "str"),
  kD P s77 77 (.type "super"),
  kD P s78 78 (.type "tuple"),
  kD P s79 79 (.type "type"),
  kD P s80 80 (.type "zip"),
  kD P s81 81 (.bool true),
  kD P s82 82 (.type "BaseException"),
  kD P s83 83 (.type "BaseExceptionGroup"),
  kD P s84 84 (.type "Exception"),
  kD P s85 85 (.type "GeneratorExit"),
  kD P s86 86 (.type "KeyboardInterrupt"),
  kD P s87 87 (.type "SystemExit"),
  kD P s88 88 (.type "ArithmeticError"),
  kD P s89 89 (.type "AssertionError"),
  kD P s90 90 (.type "AttributeError"),
  kD P s91 91 (.type "BufferError"),
  kD P s92 92 (.type "EOFError"),
  kD P s93 93 (.type "ImportError"),
  kD P s94 94 (.type "LookupError"),
  kD P s95 95 (.type "MemoryError"),
  kD P s96 96 (.type "NameError"),
  kD P s97 97 (.type "OSError"),
  kD P s98 98 (.type "ReferenceError"),
  kD P s99 99 (.type "RuntimeError"),
  kD P V9 100 (.type "StopAsyncIteration"),
  kD P Wa 101 (.type "StopIteration"),
  kD P Wb 102 (.type "SyntaxError"),
  kD P Wc 103 (.type "SystemError"),
  kD P Wd 104 (.type "TypeError"),
  kD P Wf 105 (.type "ValueError"),
  kD P Wg 106 (.type "Warning"),
  kD P Wh 107 (.type "FloatingPointError"),
  kD P Wi 108 (.type "OverflowError"),
  kD P Wj 109 (.type "ZeroDivisionError"),
  kD P Wk 110 (.type "BytesWarning"),
  kD P Wm 111 (.type "DeprecationWarning"),
  kD P Wn 112 (.type "EncodingWarning"),
  kD P Wo 113 (.type "FutureWarning"),
  kD P Wq 114 (.type "ImportWarning"),
  kD P Wr 115 (.type "PendingDeprecationWarning"),
  kD P Ws 116 (.type "ResourceWarning"),
  kD P Wt 117 (.type "RuntimeWarning"),
  kD P Wu 118 (.type "SyntaxWarning"),
  kD P Wv 119 (.type "UnicodeWarning"),
  kD P Ww 120 (.type "UserWarning"),
  kD P Wx 121 (.type "BlockingIOError"),
  kD P Wy 122 (.type "ChildProcessError"),
  kD P Wz 123 (.type "ConnectionError"),
  kD P WD 124 (.type "FileExistsError"),
  kD P WK 125 (.type "FileNotFoundError"),
  kD P WL 126 (.type "InterruptedError"),
  kD P WM 127 (.type "IsADirectoryError"),
  kD P WR 128 (.type "NotADirectoryError"),
  kD P WT 129 (.type "PermissionError"),
  kD P WW 130 (.type "ProcessLookupError"),
  kD P WX 131 (.type "TimeoutError"),
  kD P WY 132 (.type "IndentationError"),
  kD P W0 133 (.type "_IncompleteInputError"),
  kD P W2 134 (.type "IndexError"),
  kD P W3 135 (.type "KeyError"),
  kD P W4 136 (.type "ModuleNotFoundError"),
  kD P W5 137 (.type "NotImplementedError"),
  kD P W6 138 (.type "PythonFinalizationError"),
  kD P W7 139 (.type "RecursionError"),
  kD P W8 140 (.type "UnboundLocalError"),
  kD P W9 141 (.type "UnicodeError"),
  kD P Xa 142 (.type "BrokenPipeError"),
  kD P Xb 143 (.type "ConnectionAbortedError"),
  kD P Xc 144 (.type "ConnectionRefusedError"),
  kD P Xd 145 (.type "ConnectionResetError"),
  kD P Xe 146 (.type "TabError"),
  kD P Xf 147 (.type "UnicodeDecodeError"),
  kD P Xg 148 (.type "UnicodeEncodeError"),
  kD P Xh 149 (.type "UnicodeTranslateError"),
  kD P Xi 150 (.type "ExceptionGroup"),
  kD P Xj 151 (.type "OSError"),
  kD P Xk 152 (.type "OSError"),
  kD P Xl 153 (.builtin "open"),
  kD P Xm 154 (.builtin "builtins.quit#opaque"),
  kD P Xn 155 (.builtin "builtins.exit#opaque"),
  kD P Xo 156 (.builtin "builtins.copyright#opaque"),
  kD P Xp 157 (.builtin "builtins.credits#opaque"),
  kD P Xq 158 (.builtin "builtins.license#opaque"),
  kD P Xr 159 (.builtin "builtins.help#opaque")]⟩ 159),⟨[]⟩⟩
noncomputable def o2 (P:Params):Obj:=⟨.none,none,(.dict ⟨[kD P Xu 185 (.bool true),
  kD P Xv 187 (.ref 15),
  kD P Xw 208 (.ref 19),
  kD P Xx 218 (.ref 23),
  kD P Xy 247 (kI 3 0),
  kD P Xz 248 (.bool true),
  kD P XD 263 (.bool true),
  kD P XF 265 (.ref 28),
  kD P XJ 0 (.str XK 0),
  kD P XM 266 (.str XQ 0),
  kD P XR 322 (kI 63 0),
  kD P XS 323 (kI 1 0)]⟩ 12),⟨[]⟩⟩
noncomputable def o3 (P:Params):Obj:=⟨(.type "dict"),none,(.dict ⟨[kD P s0 165 (.str rZ 1215),
  kD P s2 166 .none,
  kD P s3 167 .none,
  kD P s4 168 (.builtin "__main__.__loader__#opaque"),
  kD P s5 169 .none,
  kD P Yb 170 (.ref 6),
  kD P Yc 171 (.ref 4),
  kD P Yd 173 (.str fQ 172),
  kD P Ye 174 .none,
  kD P Yg 272 (.type "collections.deque"),
  kD P Yh 285 (.ref 39),
  kD P Yi 295 (.ref 46),
  kD P Ec 303 (.ref 53),
  kD P Yj 325 (.ref 63),
  kD P Ed 357 (.ref 83),
  kD P Yk 375 (.ref 98),
  kD P Ef 393 (.ref 110),
  kD P Eh 655 (.ref 340),
  kD P Ei 942 (.ref 587),
  kD P Yl 953 (.ref 596),
  kD P Ym 962 (.ref 603),
  kD P Yn 972 (.ref 610),
  kD P Yo 979 (.ref 617),
  kD P Yp 990 (.ref 624),
  kD P Yq 1000 (.ref 631),
  kD P Ej 1141 (.ref 722),
  kD P El 1151 (.ref 734),
  kD P Yr 1154 (.ref 735),
  kD P Em 1166 (.ref 743),
  kD P En 1176 (.ref 750),
  kD P Eo 1185 (.ref 757),
  kD P Ep 1214 (.ref 774),
  kD P Er 1226 (.ref 785),
  kD P Es 1236 (.ref 792),
  kD P Et 1245 (.ref 799),
  kD P Eu 1253 (.ref 806),
  kD P Ew 1266 (.ref 813),
  kD P Ey 1272 (.ref 818),
  kD P Ez 1280 (.ref 825),
  kD P EY 1287 (.ref 832),
  kD P Fb 1298 (.ref 839),
  kD P Fd 1304 (.ref 844)]⟩ 42),⟨[]⟩⟩
noncomputable def o4 (P:Params):Obj:=⟨(.type "module"),(some 0),.plain,⟨[]⟩⟩
noncomputable def o52 (P:Params):Obj:=cO Ec 296 Ec 297 fQ 298 11 2 0 0 3 (.ref 47) (.bool true) 273 (.ref 48) .none (.ref 49) (.ref 50) (.ref 51) 301 302
noncomputable def o53 (P:Params):Obj:=fO Ec Ec (fs 4) .none .none .none (.str xr 286) (none) (.ref 52) .none 0
noncomputable def o79 (P:Params):Obj:=cO Ma 340 Qp 341 fQ 342 23 1 1 0 15 (.ref 74) (.bool true) 273 (.ref 75) .none (.ref 76) (.ref 77) (.ref 78) 346 347
noncomputable def o80 (P:Params):Obj:=fO Ma Qp (cm 6 1) .none .none .none (.str xr 286) (none) (.ref 79) .none 0
noncomputable def o82 (P:Params):Obj:=⟨(.type "dict"),none,(.dict ⟨[kD P Fe 333 (.str xr 338),
  kD P Fg 337 (kI 20 336),
  kD P Ma 348 (.ref 84),
  kD P Fi 349 (.ref 81),
  kD P Mf 352 (.ref 85),
  kD P Mg 354 (.ref 86),
  kD P s2 355 .none]⟩ 4),⟨[]⟩⟩
noncomputable def o83 (P:Params):Obj:=⟨(.type "type"),none,(.cls ⟨Ed,[(.type "object")],[(.ref 83),(.type "object")],82,Ed,true,[],[(.ref 98),(.ref 110)],false,none,false⟩),⟨[none,none,some (.str Ed 326),some (.str Ed 334),some .none,some (.bool true)]⟩⟩
noncomputable def o84 (P:Params):Obj:=⟨(.type "staticmethod"),none,(.fields ⟨[(.ref 80)]⟩),⟨[]⟩⟩
noncomputable def Zg (P:Params):Obj:=⟨(.type "dict"),none,(.dict ⟨[kD P Fe 383 (.str xr 388),
  kD P Fg 387 (kI 29 386),
  kD P Fi 390 (.ref 108),
  kD P s2 391 .none]⟩ 2),⟨[]⟩⟩
noncomputable def Zh (P:Params):Obj:=⟨(.type "type"),none,(.cls ⟨Ef,[(.ref 83)],[(.ref 110),(.ref 83),(.type "object")],109,Ef,true,[],[(.ref 587)],false,none,false⟩),⟨[some (.ref 101),none,some (.str Ef 376),some (.str Ef 384),some .none,some (.bool true)]⟩⟩
noncomputable def Zi (P:Params):Obj:=⟨(.type "type"),none,(.cls ⟨Eh,[(.ref 98)],[(.ref 340),(.ref 98),(.ref 83),(.type "object")],339,Eh,true,[],[],false,none,false⟩),⟨[some (.ref 113),none,some (.str Eh 394),some (.str Eh 402),some .none,some (.bool true)]⟩⟩
noncomputable def Zj (P:Params):Obj:=⟨(.type "tuple"),none,(.seq ⟨[(.str Ys 670),(.str Yt 671)]⟩ 0),⟨[]⟩⟩
noncomputable def Zk (P:Params):Obj:=cO vW 672 Qq 673 fQ 674 204 3 0 0 3 (.ref 351) (.bool true) 273 (.ref 352) .none (.ref 353) (.ref 354) (.ref 355) 678 679
noncomputable def QG (P:Params):Obj:=fO vW Qq (cm 10 1) (.ref 350) .none .none (.str xr 286) (none) (.ref 356) .none 0
noncomputable def Zm (P:Params):Obj:=cO Qs 681 Qt 682 fQ 683 217 2 0 0 3 (.ref 358) (.bool true) 273 (.ref 359) .none (.ref 360) (.ref 361) (.ref 362) 687 688
noncomputable def QH (P:Params):Obj:=fO Qs Qt (cm 10 2) .none .none .none (.str xr 286) (none) (.ref 363) .none 0
noncomputable def Zn (P:Params):Obj:=cO Qu 690 Qv 691 fQ 692 225 1 0 0 3 (.ref 365) (.bool true) 273 (.ref 366) .none (.ref 367) (.ref 368) (.ref 369) 694 695
noncomputable def QJ (P:Params):Obj:=fO Qu Qv (cm 10 3) .none .none .none (.str xr 286) (none) (.ref 370) .none 0
noncomputable def Zo (P:Params):Obj:=⟨(.type "tuple"),none,(.seq ⟨[(.int (Int.negSucc 0) 863)]⟩ 0),⟨[]⟩⟩
noncomputable def Zq (P:Params):Obj:=cO Mh 864 Qw 865 fQ 866 347 2 2 0 3 (.ref 527) (.bool true) 273 (.ref 528) .none (.ref 529) (.ref 530) (.ref 531) 871 872
noncomputable def QK (P:Params):Obj:=fO Mh Qw (cm 10 25) (.ref 526) .none .none (.str xr 286) (none) (.ref 532) .none 0
noncomputable def Zr (P:Params):Obj:=⟨(.type "dict"),none,(.dict ⟨[kD P Fe 663 (.str Yu 668),
  kD P Fg 667 (kI 201 666),
  kD P vW 680 (.ref 357),
  kD P Yv 689 (.ref 364),
  kD P Yw 696 (.ref 371),
  kD P Yx 703 (.ref 378),
  kD P Yy 718 (.ref 385),
  kD P Yz 726 (.ref 393),
  kD P YB 734 (.ref 401),
  kD P YC 742 (.ref 409),
  kD P YD 750 (.ref 417),
  kD P YF 758 (.ref 425),
  kD P YG 765 (.ref 432),
  kD P YH 772 (.ref 439),
  kD P YJ 780 (.ref 446),
  kD P YK 787 (.ref 453),
  kD P YL 794 (.ref 460),
  kD P YM 801 (.ref 467),
  kD P YQ 808 (.ref 474),
  kD P YS 815 (.ref 481),
  kD P YT 822 (.ref 488),
  kD P YW 829 (.ref 495),
  kD P YX 836 (.ref 502),
  kD P YZ 843 (.ref 509),
  kD P Y0 853 (.ref 517),
  kD P Y4 861 (.ref 525),
  kD P Mh 873 (.ref 533),
  kD P Y5 883 (.ref 541),
  kD P Y6 893 (.ref 549),
  kD P HY 900 (.ref 556),
  kD P H6 908 (.ref 563),
  kD P Y7 920 (.ref 570),
  kD P Y8 928 (.ref 577),
  kD P Y9 935 (.ref 584),
  kD P Fi 939 (.ref 585),
  kD P s2 940 .none]⟩ 2),⟨[]⟩⟩
noncomputable def Zt (P:Params):Obj:=⟨(.type "type"),none,(.cls ⟨Ei,[(.ref 110)],[(.ref 587),(.ref 110),(.ref 83),(.type "object")],586,Ei,true,[],[],false,none,false⟩),⟨[some (.ref 343),none,some (.str Ei 656),some (.str Ei 664),some .none,some (.bool true)]⟩⟩
noncomputable def Zu (P:Params):Obj:=⟨(.type "tuple"),none,(.seq ⟨[.none,.none,(.bool false),(.bool false)]⟩ 0),⟨[]⟩⟩
noncomputable def Zv (P:Params):Obj:=cO vW 1015 Qx 1016 fQ 1017 472 5 0 0 3 (.ref 640) (.bool true) 273 (.ref 641) .none (.ref 642) (.ref 643) (.ref 644) 1024 1025
noncomputable def QL (P:Params):Obj:=fO vW Qx (cm 19 0) (.ref 639) .none .none (.str xu 1001) (none) (.ref 645) .none 0
noncomputable def Zw (P:Params):Obj:=cO H8 1027 Qy 1028 fQ 1029 513 1 0 0 3 (.ref 647) (.bool true) 273 (.ref 648) .none (.ref 649) (.ref 650) (.ref 651) 1031 1032
noncomputable def QM (P:Params):Obj:=fO H8 Qy (cm 19 1) .none .none .none (.str xu 1001) (none) (.ref 652) .none 0
noncomputable def Zx (P:Params):Obj:=⟨(.type "property"),none,(.fields ⟨[(.ref 653),.none,.none,.none,(.str H8 1034),(.bool false)]⟩),⟨[]⟩⟩
noncomputable def Zy (P:Params):Obj:=cO Mi 1059 Qz 1060 fQ 1061 540 1 0 0 3 (.ref 677) (.bool true) 273 (.ref 678) .none (.ref 679) (.ref 680) (.ref 681) 1068 1069
noncomputable def Ml (P:Params):Obj:=fO Mi Qz (cm 19 5) .none .none .none (.str xu 1001) (none) (.ref 682) .none 0
noncomputable def Zz (P:Params):Obj:=cO Mj 1071 QB 1072 fQ 1073 567 1 0 0 3 (.ref 684) (.bool true) 273 (.ref 685) .none (.ref 686) (.ref 687) (.ref 688) 1079 1080
noncomputable def Mp (P:Params):Obj:=fO Mj QB (cm 19 6) .none .none .none (.str xu 1001) (none) (.ref 689) .none 0
noncomputable def ZC (P:Params):Obj:=cO HY 1099 QC 1100 fQ 1101 714 1 0 0 3 (.ref 706) (.bool true) 273 (.ref 707) .none (.ref 708) (.ref 709) (.ref 710) 1103 1104
noncomputable def Mq (P:Params):Obj:=fO HY QC (cm 19 9) .none .none .none (.str xu 1001) (none) (.ref 711) .none 0
noncomputable def ZD (P:Params):Obj:=cO H6 1106 QD 1107 fQ 1108 717 1 0 0 3 (.ref 713) (.bool true) 273 (.ref 714) .none (.ref 715) (.ref 716) (.ref 717) 1111 1112
noncomputable def Mr (P:Params):Obj:=fO H6 QD (cm 19 10) .none .none .none (.str xu 1001) (none) (.ref 718) .none 0
noncomputable def ZF (P:Params):Obj:=⟨(.type "dict"),none,(.dict ⟨[kD P Fe 1010 (.str xu 1001),
  kD P Fg 1014 (kI 470 1013),
  kD P vW 1026 (.ref 646),
  kD P H8 1034 (.ref 654),
  kD P Za 1042 (.ref 661),
  kD P Zb 1051 (.ref 669),
  kD P Zc 1058 (.ref 676),
  kD P Mi 1070 (.ref 683),
  kD P Mj 1081 (.ref 690),
  kD P Zd 1089 (.ref 697),
  kD P Ze 1098 (.ref 705),
  kD P HY 1105 (.ref 712),
  kD P H6 1113 (.ref 719),
  kD P Fi 1134 (.ref 720),
  kD P Mf 1136 (.ref 723),
  kD P Mg 1138 (.ref 724),
  kD P s2 1139 .none]⟩ 4),⟨[]⟩⟩
noncomputable def ZG (P:Params):Obj:=⟨(.type "type"),none,(.cls ⟨Ej,[(.type "object")],[(.ref 722),(.type "object")],721,Ej,true,[],[],false,none,false⟩),⟨[none,none,some (.str Ej 1003),some (.str Ej 1011),some (.builtin "object.__new__"),some (.bool true)]⟩⟩
noncomputable def ZJ (P:Params):Obj:=⟨(.type "tuple"),none,(.seq ⟨[(.bool false),(.bool true)]⟩ 0),⟨[]⟩⟩
noncomputable def ZK (P:Params):Obj:=cO El 1142 El 1143 fQ 1144 722 3 0 0 3 (.ref 728) (.bool true) 273 (.ref 729) .none (.ref 730) (.ref 731) (.ref 732) 1149 1150
noncomputable def QS (P:Params):Obj:=fO El El (fs 20) (.ref 727) .none .none (.str xu 1001) (none) (.ref 733) .none 0
noncomputable def ZL (P:Params):Obj:=⟨(.type "object"),none,.plain,⟨[]⟩⟩
noncomputable def ZM (P:Params):Obj:=⟨(.type "tuple"),none,(.seq ⟨[(.ref 735)]⟩ 0),⟨[]⟩⟩
noncomputable def ZP (P:Params):Obj:=cO Em 1155 Em 1156 fQ 1157 732 3 0 0 3 (.ref 737) (.bool true) 273 (.ref 738) .none (.ref 739) (.ref 740) (.ref 741) 1164 1165
noncomputable def Ms (P:Params):Obj:=fO Em Em (fs 23) (.ref 736) .none .none (.str Zf 1152) (none) (.ref 742) .none 0
noncomputable def ZQ (P:Params):Obj:=cO En 1169 En 1170 fQ 1171 745 1 0 0 3 (.ref 744) (.bool true) 273 (.ref 745) .none (.ref 746) (.ref 747) (.ref 748) 1174 1175
noncomputable def QT (P:Params):Obj:=fO En En (fs 25) .none .none .none (.str H9 1167) (none) (.ref 749) .none 0
noncomputable def ZR (P:Params):Obj:=cO Eo 1177 Eo 1178 fQ 1179 750 1 0 0 3 (.ref 751) (.bool true) 273 (.ref 752) .none (.ref 753) (.ref 754) (.ref 755) 1183 1184
noncomputable def QV (P:Params):Obj:=fO Eo Eo (fs 26) .none .none .none (.str H9 1167) (none) (.ref 756) .none 0
noncomputable def ZS (P:Params):Obj:=cO vW 1198 QF 1199 fQ 1200 759 2 0 0 3 (.ref 765) (.bool true) 273 (.ref 766) .none (.ref 767) (.ref 768) (.ref 769) 1203 1204
noncomputable def QW (P:Params):Obj:=fO vW QF (cm 27 0) .none .none .none (.str H9 1167) (none) (.ref 770) .none 0
noncomputable def ZV (P:Params):Obj:=⟨(.type "dict"),none,(.dict ⟨[kD P Fe 1193 (.str H9 1167),
  kD P Fg 1197 (kI 757 1196),
  kD P vW 1205 (.ref 771),
  kD P Fi 1207 (.ref 772),
  kD P Mf 1209 (.ref 775),
  kD P Mg 1211 (.ref 776),
  kD P s2 1212 .none]⟩ 4),⟨[]⟩⟩
noncomputable def ZW (P:Params):Obj:=⟨(.type "type"),none,(.cls ⟨Ep,[(.type "object")],[(.ref 774),(.type "object")],773,Ep,true,[],[],false,none,false⟩),⟨[none,none,some (.str Ep 1186),some (.str Ep 1194),some (.builtin "object.__new__"),some (.bool true)]⟩⟩
noncomputable def Fj (P:Params):Obj:=cO Er 1217 Er 1218 fQ 1219 762 1 0 0 3 (.ref 779) (.bool true) 273 (.ref 780) .none (.ref 781) (.ref 782) (.ref 783) 1224 1225
noncomputable def QX (P:Params):Obj:=fO Er Er (fs 29) .none .none .none (.str rZ 1215) (none) (.ref 784) .none 0
noncomputable def ZX (P:Params):Obj:=cO Es 1227 Es 1228 fQ 1229 771 1 0 0 3 (.ref 786) (.bool true) 273 (.ref 787) .none (.ref 788) (.ref 789) (.ref 790) 1234 1235
noncomputable def QZ (P:Params):Obj:=fO Es Es (fs 30) .none .none .none (.str rZ 1215) (none) (.ref 791) .none 0
noncomputable def Z0 (P:Params):Obj:=cO Et 1237 Et 1238 fQ 1239 779 1 0 0 3 (.ref 793) (.bool true) 273 (.ref 794) .none (.ref 795) (.ref 796) (.ref 797) 1243 1244
noncomputable def Q0 (P:Params):Obj:=fO Et Et (fs 31) .none .none .none (.str rZ 1215) (none) (.ref 798) .none 0
noncomputable def Z1 (P:Params):Obj:=cO Eu 1246 Eu 1247 fQ 1248 786 2 0 0 3 (.ref 800) (.bool true) 273 (.ref 801) .none (.ref 802) (.ref 803) (.ref 804) 1251 1252
noncomputable def bN (P:Params):Obj:=fO Eu Eu (fs 32) .none .none .none (.str rZ 1215) (none) (.ref 805) .none 0
noncomputable def aa0 (P:Params):Obj:=cO Ew 1254 Ew 1255 fQ 1256 806 1 0 0 3 (.ref 807) (.bool true) 273 (.ref 808) .none (.ref 809) (.ref 810) (.ref 811) 1264 1265
noncomputable def Q5 (P:Params):Obj:=fO Ew Ew (fs 33) .none .none .none (.str rZ 1215) (none) (.ref 812) .none 0
noncomputable def aa1 (P:Params):Obj:=cO Ey 1267 Ey 1268 fQ 1269 815 2 0 0 3 (.ref 814) (.bool true) 273 (.ref 815) .none .none .none (.ref 816) 1270 1271
noncomputable def Q6 (P:Params):Obj:=fO Ey Ey (fs 34) .none .none .none (.str rZ 1215) (none) (.ref 817) .none 0
noncomputable def aa2 (P:Params):Obj:=cO Ez 1273 Ez 1274 fQ 1275 817 2 0 0 3 (.ref 819) (.bool true) 273 (.ref 820) .none (.ref 821) (.ref 822) (.ref 823) 1278 1279
noncomputable def Q7 (P:Params):Obj:=fO Ez Ez (fs 35) .none .none .none (.str rZ 1215) (none) (.ref 824) .none 0
noncomputable def aa3 (P:Params):Obj:=cO EY 1281 EY 1282 fQ 1283 819 0 0 0 3 (.ref 826) (.bool true) 273 (.ref 827) .none (.ref 828) (.ref 829) (.ref 830) 1285 1286
noncomputable def Q8 (P:Params):Obj:=fO EY EY (fs 36) .none .none .none (.str rZ 1215) (none) (.ref 831) .none 0
noncomputable def aa4 (P:Params):Obj:=cO Fb 1288 Fb 1289 fQ 1290 825 3 0 0 3 (.ref 833) (.bool true) 273 (.ref 834) .none (.ref 835) (.ref 836) (.ref 837) 1296 1297
noncomputable def Q9 (P:Params):Obj:=fO Fb Fb (fs 37) .none .none .none (.str rZ 1215) (none) (.ref 838) .none 0
noncomputable def aa5 (P:Params):Obj:=cO Fd 1299 Fd 1300 fQ 1301 836 1 0 0 3 (.ref 840) (.bool true) 273 (.ref 841) .none .none .none (.ref 842) 1302 1303
noncomputable def Ia (P:Params):Obj:=fO Fd Fd (fs 38) .none .none .none (.str rZ 1215) (none) (.ref 843) .none 0
noncomputable def kt (P:Params):KT:=(.node (some (o0 P)) (nN (.node (some (o3 P)) (nN (nN (nN (nN (nN .nil (nN (.node (some (Zu P)) .nil .nil) .nil)) (nN (nN .nil (.node (some (aa3 P)) .nil .nil)) .nil)) (nN (nN (nN .nil (.node (some (Q0 P)) .nil .nil)) .nil) (nN .nil (nN (.node (some (ZL P)) .nil .nil) .nil)))) (nN (.node (some (o79 P)) .nil (nN .nil (nN (.node (some (Mr P)) .nil .nil) .nil))) .nil)) (nN (nN (nN .nil (nN (nN .nil (.node (some (Q9 P)) .nil .nil)) (nN (.node (some (ZC P)) .nil .nil) .nil))) (nN .nil (nN .nil (nN (.node (some (Ms P)) .nil .nil) .nil)))) (nN (nN (nN (nN .nil (.node (some (ZX P)) .nil .nil)) .nil) (nN .nil (nN (.node (some (ZJ P)) .nil .nil) .nil))) .nil))) (nN (nN (nN (nN (nN (nN .nil (.node (some (QW P)) .nil .nil)) .nil) .nil) .nil) (nN (.node (some (o83 P)) .nil .nil) (nN .nil (nN (.node (some (QJ P)) .nil .nil) .nil)))) (nN (nN (nN .nil (nN (nN (.node (some (Zt P)) .nil .nil) (.node (some (aa5 P)) .nil .nil)) .nil)) (nN (nN .nil (nN (.node (some (Ml P)) .nil .nil) .nil)) (nN (.node (some (Zm P)) .nil .nil) .nil))) .nil))) (nN (nN (nN .nil (nN (nN (nN (nN .nil (.node (some (QX P)) .nil .nil)) .nil) (nN .nil (nN (.node (some (ZF P)) .nil .nil) .nil))) (nN (nN (nN .nil (.node (some (aa1 P)) .nil .nil)) (nN (.node (some (Zz P)) .nil .nil) .nil)) .nil))) (nN .nil (nN .nil (nN (nN (nN .nil (.node (some (Q7 P)) .nil .nil)) .nil) .nil)))) (nN (nN (nN (nN (nN (nN .nil (.node (some (ZV P)) .nil .nil)) (nN (.node (some (Zv P)) .nil .nil) .nil)) .nil) (nN (nN (nN .nil (.node (some (Z1 P)) .nil .nil)) .nil) (nN (.node (some (QG P)) .nil .nil) .nil))) (.node (some (o53 P)) (nN (nN (nN (.node (some (QK P)) .nil .nil) .nil) .nil) .nil) (nN .nil (nN .nil (nN (.node (some (QV P)) .nil .nil) .nil))))) (nN (nN (nN (nN .nil (nN (.node (some (QM P)) .nil .nil) .nil)) .nil) (.node (some (Zg P)) (nN (nN .nil (.node (some (Q5 P)) .nil .nil)) .nil) (nN .nil (nN (.node (some (ZQ P)) .nil .nil) .nil)))) (nN (nN .nil (nN .nil (nN (.node (some (ZK P)) .nil .nil) .nil))) .nil))))) (.node (some (o2 P)) (.node (some (o4 P)) (nN (nN (nN (nN .nil (nN (nN .nil (.node (some (Q8 P)) .nil .nil)) .nil)) (nN .nil (nN .nil (nN (.node (some (ZM P)) .nil .nil) .nil)))) (nN (.node (some (o80 P)) (nN (nN .nil (.node (some (Fj P)) .nil .nil)) .nil) .nil) .nil)) (nN (nN (nN .nil (nN .nil (nN (.node (some (Mq P)) .nil .nil) .nil))) .nil) (nN (nN (nN (nN .nil (.node (some (QZ P)) .nil .nil)) .nil) .nil) (nN (nN (nN .nil (.node (some (aa2 P)) .nil .nil)) .nil) .nil)))) (nN (nN (nN .nil (nN .nil (nN (.node (some (Zk P)) .nil .nil) .nil))) (.node (some (o52 P)) (.node (some (o84 P)) (nN (nN (.node (some (Zq P)) .nil .nil) .nil) .nil) (nN (.node (some (Zi P)) .nil .nil) .nil)) (nN .nil (nN .nil (nN (.node (some (ZR P)) .nil .nil) .nil))))) (nN (nN (nN (nN .nil (nN (.node (some (Zw P)) .nil .nil) .nil)) (nN (nN .nil (.node (some (Ia P)) .nil .nil)) .nil)) (nN (nN (nN .nil (.node (some (aa0 P)) .nil .nil)) .nil) (nN (.node (some (QH P)) .nil .nil) .nil))) .nil))) (nN (nN (nN (nN (nN (nN (nN .nil (.node (some (ZS P)) .nil .nil)) .nil) .nil) .nil) (nN (.node (some (o82 P)) .nil (nN .nil (nN (.node (some (ZG P)) .nil .nil) .nil))) (nN (nN (nN .nil (.node (some (Q6 P)) .nil .nil)) (nN (.node (some (Mp P)) .nil .nil) .nil)) (nN (.node (some (Zn P)) .nil .nil) .nil)))) (nN (nN (nN .nil (nN (nN (.node (some (Zr P)) .nil .nil) .nil) .nil)) (nN (nN .nil (nN (.node (some (Zy P)) .nil .nil) .nil)) .nil)) .nil)) (nN (nN (nN (nN (nN (nN .nil (.node (some (ZW P)) .nil .nil)) (nN (.node (some (QL P)) .nil .nil) .nil)) (nN (nN .nil (.node (some (aa4 P)) .nil .nil)) .nil)) (nN (nN (nN .nil (.node (some (bN P)) .nil .nil)) .nil) (nN .nil (nN (.node (some (ZP P)) .nil .nil) .nil)))) .nil) (nN (nN (nN (nN (nN (.node (some (Zo P)) .nil .nil) .nil) (nN (.node (some (Zx P)) .nil .nil) .nil)) (nN .nil (nN (.node (some (ZD P)) .nil .nil) .nil))) (.node (some (Zh P)) .nil (nN .nil (nN (.node (some (QT P)) .nil .nil) .nil)))) (nN (nN (nN (nN .nil (.node (some (Z0 P)) .nil .nil)) .nil) (nN (.node (some (Zj P)) .nil .nil) (nN (.node (some (QS P)) .nil .nil) .nil))) .nil))))))
noncomputable def addrs:List Nat:=[0,2,3,4,52,53,79,80,82,83,84,109,110,340,350,356,357,363,364,370,371,526,532,533,586,587,639,645,646,652,653,654,682,683,689,690,711,712,718,719,721,722,727,733,734,735,736,742,743,749,750,756,757,770,771,773,774,784,785,791,792,798,799,805,806,812,813,817,818,824,825,831,832,838,839,843,844]
noncomputable def K (w:World) (a:Nat):Option Obj:=(kt w.params).get a
end
noncomputable def Fl (fd:FuncData):Sem Str:=match fd.code with
  | .none=>pure fd.qualname
  | c=>field c 1 >>= fun x=>match x with
   | .str q _=>pure q
   | _=>pure fd.qualname
def Bt (a:Addr) (fd:FuncData) (args:Args):Sem Fin:=
 Fl fd >>= fun compiled=>PySem.W.ZFast.zw9782568553167038054 fd args >>= fun bs=>
  PySem.W.ZFast.zw11113344188204177931 fd.scope fd.globals fd.closure bs (compiled ++ ".<locals>.") (some a) fd.code none fd.builtins >>= fun env=>
   again (match fd.body with
    | .stmts b=>.func b env
    | .expr e=>.expr e env)
theorem qF (a:Addr) (fd:FuncData) (args:Args) (hg:fd.scope.isGenerator=false) (hc:fd.scope.isCoroutine=false):callFunction a fd args =
  (Fl fd >>= fun compiled=>bindArgs fd args >>= fun bs=>newFunctionEnv fd.scope fd.globals fd.closure bs (compiled ++ ".<locals>.") (some a) fd.code none fd.builtins >>= fun env=>
   enterFrame >>= fun _=>again (match fd.body with
    | .stmts b=>.func b env
    | .expr e=>.expr e env)):=by
 unfold callFunction Fl
 rw [hg,hc]
 cases fd.code <;> first
  | rfl
  | (
   show (Sem.bind _ _:Sem Fin)=Sem.bind (Sem.bind _ _) _
   rw [Sem.bind_assoc]
   refine congrArg (Sem.bind _) (funext fun x=>?_)
   cases x <;> rfl)
noncomputable def fdOf (o:Obj):FuncData:=match o.data with | .func fd=>fd | _=>default
noncomputable def iR (r:Rs):Code:=match r.ou with | .fin (.again c)=>c | _=>default
@[irreducible] noncomputable def p7 (r:Rs):Code:=match r.ou with | .pend c _ _ _=>c | _=>default
noncomputable def p8 (r:Rs):Option Value:=match r.ou with | .pend _ hd _ _=>hd | _=>some .none
@[irreducible] noncomputable def aR (r:Rs) (x:Result):Sem Fin:=match r.ou with | .pend _ _ k _=>k x | _=>.unsupported ""
@[irreducible] noncomputable def aL (r:Rs):Kn:=match r.ou with | .pend _ _ _ κ=>κ | _=>.base
theorem jQ {prog:Program} {w:World} {A:Around} {R:Result→Shared→Prop} {s:Shared} {a:Addr} {ob:Obj} {args:Args} (hk:s.heap.get? a=some ob) (hf:ob.data=.func (fdOf ob))
  (hg:(fdOf ob).scope.isGenerator=false) (hc:(fdOf ob).scope.isCoroutine=false) (hroom:A.depth<recursionLimit)
  (h:wpAny (model prog w) (A.under (.call (.ref a) args)) (Bt a (fdOf ob) args) (fun fin s'=>s'.heap.NoLimit∧∃ c,fin=.again c∧c.quiet=true∧codeAny (model prog w) A c R s') (fun e s'=>R (.error e) s') s) :
  codeAny (model prog w) A (.call (.ref a) args) R s:=by
 refine x_code ?_
 show wpAny _ _ (callAny (.ref a) args) _ _ _
 unfold callAny
 refine wpAny_bind (wpAny_load hk ?_)
 rw [hf]
 show wpAny _ _ (callFunction a (fdOf ob) args) _ _ _
 rw [qF a _ args hg hc]
 generalize fdOf ob=fd at *
 intro Γ p hΓ
 have hh:=h Γ p hΓ
 unfold Bt at hh
 rw [← PySem.W.ZFast.ze11113344188204177931,← PySem.W.ZFast.ze9782568553167038054] at hh
 rw [Sem.wp_bind'] at hh ⊢
 refine Sem.wp_mono _ Γ _ (fun cq p1 s1 h1=>?_) (fun _ _ _ x=>x) p s hh
 rw [Sem.wp_bind'] at h1 ⊢
 refine Sem.wp_mono _ Γ _ (fun bs p2 s2 h2=>?_) (fun _ _ _ x=>x) p1 s1 h1
 rw [Sem.wp_bind'] at h2 ⊢
 refine Sem.wp_mono _ Γ _ (fun env p3 s3 h3=>?_) (fun _ _ _ x=>x) p2 s2 h2
 obtain ⟨hl,c,hcq,hq,hR⟩:s3.heap.NoLimit∧∃ c,Fin.again _=.again c∧c.quiet=true∧codeAny (model prog w) A c R s3:=h3
 have e:=Fin.again.inj hcq
 subst e
 have goal:wpAny (model prog w) (A.under (.call (.ref a) args)) (enterFrame >>= fun _=>again (match fd.body with
    | .stmts b=>.func b env
    | .expr e=>.expr e env)) (fun fin s'=>match fin with | .done f=>R (.ok f) s' | .again c'=>c'.quiet=true∧codeAny (model prog w) A c' R s') (fun e s'=>R (.error e) s') s3:=
  wpAny_bind (wpAny_enterFrame hl hroom (wpAny_pure ⟨hq,hR⟩))
 exact goal Γ p3 hΓ
def xc (w:World) (g:Array GenState) (d:Drawn) (os:OsState) (A:Around) (R:Result→Shared→Prop):XC:=
 {prog:=pw,w,K:=K w,g,d,os,A₀:=A,Q₀:=fun _ _=>False,E₀:=fun _ _=>False,R₀:=R}
@[irreducible] def xG (w:World) (H:List Hk) (c:Code) (L:Led) (nx tk:Nat) (aC:List Nat):Rs:=sim (K w) ⟨pw,w.params⟩ H none 20000 (.code c) (zp c) L nx tk aC [] [] []
@[irreducible] def ig (w:World) (a:Addr) (fd:FuncData) (args:Args) (L:Led) (nx tk:Nat) (aC:List Nat):Rs:=sim (K w) ⟨pw,w.params⟩ [] none 2000 .base (Bt a fd args) L nx tk aC [] [] []
@[irreducible] def aB (w:World) (H:List Hk) (r:Rs) (x:Result) (L:Led) (nx tk:Nat) (aC:List Nat):Rs:=sim (K w) ⟨pw,w.params⟩ H none 20000 (aL r) (aR r x) L nx tk aC [] [] []
noncomputable abbrev Good (r:Rs):Prop:=(r.ps.map Prod.fst,r.ts.map Prod.fst,r.cs.map Prod.fst)=(r.ps.map Prod.snd,r.ts.map Prod.snd,r.cs.map Prod.snd)
noncomputable def aF (w:World) (H:List Hk):Prop:=∀ hk∈H,gB pw w (K w) hk
theorem aF.nil {w:World}:aF w []:=fun _ h=>nomatch h
theorem aF.cons {w:World} {x:Hk} {H:List Hk} (h:gB pw w (K w) x) (t:aF w H):aF w (x::H):=fun y m=>by
 rcases List.mem_cons.mp m with rfl | m
 ·exact h
 ·exact t y m
theorem rO {α:Type}:∀ {l:List (α × α)},l.map Prod.fst=l.map Prod.snd→∀ p∈l,p.1=p.2
 | [],_,_,h=>nomatch h
 | q::l,e,p,h=>by
  rw [map_cons,map_cons] at e
  obtain ⟨a,b⟩:=List.cons.inj e
  rcases List.mem_cons.mp h with rfl | h
  ·exact a
  ·exact rO b p h
theorem Good.ok {r:Rs} (h:Good r):Ok r:=by
 obtain ⟨a,b⟩:=Prod.mk.inj h
 obtain ⟨b,c⟩:=Prod.mk.inj b
 exact ⟨rO a,rO b,rO c⟩
theorem su {w:World} {g:Array GenState} {d:Drawn} {os:OsState} {A:Around} {c:Code} {R:Result→Shared→Prop} {h₀ h:Heap} {gv:List Addr} {L:Led} {nx tk:Nat} {H:List Hk} (HH:aF w H) (aC:List Nat) (hA:A.handled=none) (rep:Rep (K w) h₀ gv L nx h)
  (ok:Good (xG w H c L nx tk aC)) (ou:gQ (xc w g d os A R) h₀ gv (xG w H c L nx tk aC)):codeAny (model pw w) A c R ⟨h,g,d,tk,os⟩:=by
 unfold xG at ok ou
 have z:=(sim_sound (xc w g d os A R) h₀ gv hA H HH 20000 (.code c) (zp c) L nx tk aC [] [] [] ok.ok ou).2 h rep
 refine x_code ?_
 rw [rN]
 exact z
theorem vX {w:World} {g:Array GenState} {d:Drawn} {os:OsState} {A:Around} {R:Result→Shared→Prop} {h₀ h:Heap} {gv:List Addr} {r:Rs} {x:Result} {L:Led} {nx tk:Nat} {H:List Hk} (HH:aF w H) (aC:List Nat) (hA:A.handled=none) (rep:Rep (K w) h₀ gv L nx h)
  (ok:Good (aB w H r x L nx tk aC)) (ou:gQ (xc w g d os A R) h₀ gv (aB w H r x L nx tk aC)):Mn (xc w g d os A R) (aL r) (aR r x) ⟨h,g,d,tk,os⟩:=by
 unfold aB at ok ou
 exact (sim_sound (xc w g d os A R) h₀ gv hA H HH 20000 (aL r) (aR r x) L nx tk aC [] [] [] ok.ok ou).2 h rep
noncomputable def sy (r:Rs):Bool:=match r.ou with | .pend ..=>true | _=>false
noncomputable def Ra:Kn→Nat
 | .base=>0
 | .code c=>c.weight
 | .ret c _ _ κ=>Ra κ+c.weight
theorem mC (V:XC):∀ κ,(ar V κ).depth=V.A₀.depth+Ra κ
 | .base=>rfl
 | .code c=>rfl
 | .ret c hd k κ=>by
  show (ar V κ).depth+c.weight=_
  rw [mC V κ]
  show _=V.A₀.depth+(Ra κ+c.weight)
  lia
def lP (r:Rs):=(r.ps.map Prod.fst,r.ts.map Prod.fst,r.cs.map Prod.fst,sy r,p7 r,p8 r,xq none (aL r),Ra (aL r))
noncomputable def lR (r:Rs):=(r.ps.map Prod.fst,r.ts.map Prod.fst,r.cs.map Prod.fst,r.ou)
noncomputable abbrev fU (r:Rs) (n:Nat) (c:Code):Prop:=
 lP r=(r.ps.map Prod.snd,r.ts.map Prod.snd,r.cs.map Prod.snd,true,c,none,none,n)
theorem fU.good {r:Rs} {n:Nat} {c:Code} (h:fU r n c):Good r:=by
 obtain ⟨a,h⟩:=Prod.mk.inj h
 obtain ⟨b,h⟩:=Prod.mk.inj h
 obtain ⟨c,_⟩:=Prod.mk.inj h
 exact Prod.ext a (Prod.ext b c)
noncomputable abbrev uI (r:Rs) (x:Result):Prop:=lR r=(r.ps.map Prod.snd,r.ts.map Prod.snd,r.cs.map Prod.snd,.res x)
theorem uI.good {r:Rs} {x:Result} (h:uI r x):Good r:=by
 obtain ⟨a,h⟩:=Prod.mk.inj h
 obtain ⟨b,h⟩:=Prod.mk.inj h
 obtain ⟨c,_⟩:=Prod.mk.inj h
 exact Prod.ext a (Prod.ext b c)
theorem uI.ou {r:Rs} {x:Result} (h:uI r x):r.ou=.res x:=(Prod.mk.inj (Prod.mk.inj (Prod.mk.inj h).2).2).2
theorem j9 {V:XC} {h₀:Heap} {gv:List Addr} {r:Rs} {n:Nat} {c:Code} (hA:V.A₀.handled=none) (h:fU r n c)
  (k:∀ A' h,A'.handled=none→A'.depth=V.A₀.depth+n→Rep V.K h₀ gv r.L r.nx h→codeAny (model V.prog V.w) A' c (fun r' s'=>Mn V (aL r) (aR r r') s') ⟨h,V.g,V.d,r.tk,V.os⟩):gQ V h₀ gv r:=by
 obtain ⟨_,h⟩:=Prod.mk.inj h
 obtain ⟨_,h⟩:=Prod.mk.inj h
 obtain ⟨_,h⟩:=Prod.mk.inj h
 obtain ⟨h,e⟩:=Prod.mk.inj h
 obtain ⟨ec,e⟩:=Prod.mk.inj e
 obtain ⟨eh,e⟩:=Prod.mk.inj e
 obtain ⟨eo,en⟩:=Prod.mk.inj e
 have k':=k (ar V (aL r))
 rw [fY V hA,mC V,eo,en] at k'
 unfold gQ
 unfold sy at h
 cases q:r.ou with
 | pend c' hd k₀ κ=>
  have e1:p7 r=c':=by unfold p7;rw [q]
  have e2:p8 r=hd:=by unfold p8;rw [q]
  have e3:aL r=κ:=by unfold aL;rw [q]
  have e4:∀ x,aR r x=k₀ x:=by intro x;unfold aR;rw [q]
  have hc:c'=c:=e1.symm.trans ec
  have hh:hd=none:=e2.symm.trans eh
  subst hc hh e3
  intro h₁ R
  have z:=k' h₁ rfl rfl R
  exact codeAny_mono z fun x s' y=>by rw [e4] at y;exact y
 | _=>rw [q] at h;cases h
theorem Fo {V:XC} {h₀:Heap} {gv:List Addr} {r:Rs} {x:Result} (e:r.ou=.res x) (k:∀ h,Rep V.K h₀ gv r.L r.nx h→V.R₀ x ⟨h,V.g,V.d,r.tk,V.os⟩):gQ V h₀ gv r:=by
 unfold gQ
 rw [e]
 exact k
theorem Rb {V:XC} {h₀:Heap} {gv:List Addr} {r:Rs} {c:Code} (e:r.ou=.go c) (k:∀ h,Rep V.K h₀ gv r.L r.nx h→codeAny (model V.prog V.w) V.A₀ c V.R₀ ⟨h,V.g,V.d,r.tk,V.os⟩):gQ V h₀ gv r:=by
 unfold gQ
 rw [e]
 exact k
theorem lH {V:XC} {h₀:Heap} {gv:List Addr} {r:Rs} {f:Fin} (e:r.ou=.fin f) (k:∀ h,Rep V.K h₀ gv r.L r.nx h→V.Q₀ f ⟨h,V.g,V.d,r.tk,V.os⟩):gQ V h₀ gv r:=by
 unfold gQ
 rw [e]
 exact k
theorem mD {w:World} {g:Array GenState} {d:Drawn} {os:OsState} {A:Around} {R:Result→Shared→Prop} {h₀ h:Heap} {gv:List Addr} {r:Rs} {x:Result} {L:Led} {nx tk:Nat} {n:Nat} {c:Code} {aC:List Nat} {H:List Hk} (q:Rs) (HH:aF w H) (hA:A.handled=none) (rep:Rep (K w) h₀ gv L nx h)
  (ok:fU q n c)
  (k:∀ A' h,A'.handled=none→A'.depth=A.depth+n→Rep (K w) h₀ gv q.L q.nx h→codeAny (model pw w) A' c (fun r' s'=>Mn (xc w g d os A R) (aL q) (aR q r') s') ⟨h,g,d,q.tk,os⟩)
  (e:q=aB w H r x L nx tk aC):Mn (xc w g d os A R) (aL r) (aR r x) ⟨h,g,d,tk,os⟩:=by
 subst e
 exact vX HH aC hA rep ok.good (j9 hA ok k)
theorem cI {w:World} {g:Array GenState} {d:Drawn} {os:OsState} {A:Around} {R:Result→Shared→Prop} {h₀ h:Heap} {gv:List Addr} {r:Rs} {x y:Result} {L:Led} {nx tk:Nat} {aC:List Nat} {H:List Hk} (q:Rs) (HH:aF w H) (hA:A.handled=none) (rep:Rep (K w) h₀ gv L nx h)
  (ok:uI q y) (k:∀ h,Rep (K w) h₀ gv q.L q.nx h→R y ⟨h,g,d,q.tk,os⟩)
  (e:q=aB w H r x L nx tk aC):Mn (xc w g d os A R) (aL r) (aR r x) ⟨h,g,d,tk,os⟩:=by
 subst e
 exact vX HH aC hA rep ok.good (Fo ok.ou k)
noncomputable def nO:KT→Nat→Nat→List Nat
 | .nil,_,_=>[]
 | .node v l r,s,b=>(match v with | some _=>[b] | none=>[])++nO l (2*s) (s+b)++nO r (2*s) (2*s+b)
theorem jy:∀ {t:KT} {s b j:Nat} {o:Obj},t.get j=some o→s*j+b∈nO t s b
 | .nil,_,_,_,_,e=>nomatch e
 | .node v l r,s,b,j,o,e=>by
  rw [KT.get_node] at e
  unfold nO
  by_cases h0:j=0
  ·rw [if_pos h0] at e
   subst h0 e
   simp
  ·rw [if_neg h0] at e
   by_cases p:j % 2=1
   ·rw [if_pos p] at e
    have z:=jy (s:=2*s) (b:=s+b) e
    have:2*s*(j / 2)+(s+b)=s*j+b:=by
     have hj:j=2*(j / 2)+1:=by lia
     generalize j / 2=q at hj
     subst hj
     rw [Nat.mul_add,Nat.mul_one,← Nat.mul_assoc,Nat.mul_comm s 2];lia
    rw [this] at z
    simp [z]
   ·rw [if_neg p] at e
    have z:=jy (s:=2*s) (b:=2*s+b) e
    have:2*s*(j / 2 - 1)+(2*s+b)=s*j+b:=by
     have hj:j=2*(j / 2 - 1)+2:=by lia
     generalize j / 2 - 1=q at hj
     subst hj
     rw [Nat.mul_add,← Nat.mul_assoc,Nat.mul_comm s 2];lia
    rw [this] at z
    simp [z]
theorem Mt {w:World} {a:Nat} {o:Obj} (e:K w a=some o):a<845:=by
 have z:=jy (s:=1) (b:=0) (t:=kt w.params) (j:=a) e
 have all:(nO (kt w.params) 1 0).all (fun x=>Nat.blt x 845)=true:=by symm
 rw [Nat.one_mul,Nat.add_zero] at z
 exact Nat.le_of_ble_eq_true (List.all_eq_true.mp all a z)
theorem Mu {w:World} {a:Nat} (h:845≤a):K w a=none:=by
 cases e:K w a with
 | none=>rfl
 | some o=>exact absurd (Mt e) (Nat.not_lt.mpr h)
noncomputable def au (w:World) (h:Heap):Prop:=∀ a o,K w a=some o→h.get? a=some o
theorem au.size {w:World} {h:Heap} (k:au w h):845≤h.objs.size:=by
 have e:K w 844=some (Ia w.params):=by symm
 exact Heap.lt_size (k 844 _ e)
structure Keeps (mod:List Addr) (h h':Heap):Prop where
 size:h.objs.size≤h'.objs.size
 get:∀ b o,h.get? b=some o→b∉mod→h'.get? b=some o
theorem Keeps.kok {w:World} {h h':Heap} {mod:List Addr} (q:Keeps mod h h') (k:au w h) (hm:∀ a∈mod,845≤a):au w h':=fun a o e=>q.get a o (k a o e) fun m=>absurd (Mt e) (Nat.not_lt.mpr (hm a m))
theorem Keeps.trans {h h' h'':Heap} {m:List Addr} (a:Keeps m h h') (b:Keeps m h' h''):Keeps m h h'':=⟨Nat.le_trans a.size b.size,fun x o e hx=>b.get x o (a.get x o e hx) hx⟩
theorem Rep.start {w:World} {h:Heap} {L:Led} (k:au w h) (own:∀ p∈L,h.get? p.1=some p.2) (nd:(L.map Prod.fst).Nodup) (lo:∀ p∈L,845≤p.1):Rep (K w) h (L.map Prod.fst) L h.objs.size h:=
 ⟨rfl,k,own,nd,fun p hp=>Mu (lo p hp),fun _ _ e _=>e,Nat.le_refl _,fun p hp=>.inl (mem_map_of_mem hp)⟩
theorem Rep.keeps {w:World} {h₀ h:Heap} {gv:List Addr} {L:Led} {nx:Nat} (R:Rep (K w) h₀ gv L nx h) {G G':Led} {mod:List Addr} (hG:gv=G.map Prod.fst) (own:∀ p∈G,h₀.get? p.1=some p.2) (sub:∀ p∈G',p∈L) (un:∀ p∈G,p.1∈mod∨p∈G'):Keeps mod h₀ h:=by
 refine ⟨R.grow,fun b o e hb=>?_⟩
 by_cases q:b∈L.map Prod.fst
 ·obtain ⟨p,hp,rfl⟩:=List.mem_map.mp q
  rcases R.new p hp with z | z
  ·rw [hG] at z
   obtain ⟨p',hp',e'⟩:=List.mem_map.mp z
   have x:=own p' hp'
   rw [e'] at x
   have:o=p'.2:=Option.some.inj (e.symm.trans x)
   rcases un p' hp' with y | y
   ·rw [e'] at y;exact absurd y hb
   ·have:=R.own p' (sub p' y)
    rw [e'] at this
    rw [this];simp_all
  ·exact absurd (Heap.lt_size e) (Nat.not_lt.mpr z)
 ·exact R.frame b o e q
theorem Rep.done {w:World} {h₀ h:Heap} {gv:List Addr} {L:Led} {nx:Nat} (R:Rep (K w) h₀ gv L nx h) (m:Nat) {G G':Led} {mod:List Addr} (e:L.drop m=G') (hG:gv=G.map Prod.fst) (own:∀ p∈G,h₀.get? p.1=some p.2) (un:∀ p∈G,p.1∈mod∨p∈G'):Keeps mod h₀ h∧∀ p∈G',h.get? p.1=some p.2:=by
 have sub:∀ p∈G',p∈L:=fun p hp=>List.mem_of_mem_drop (i:=m) (e ▸ hp)
 exact ⟨R.keeps hG own sub un,fun p hp=>R.own p (sub p hp)⟩
theorem Rep.after {w:World} {h₀ h h':Heap} {gv mod:List Addr} {L L' news:Led} {nx:Nat} (R:Rep (K w) h₀ gv L nx h) (q:Keeps mod h h') (hm:∀ a∈mod,845≤a) (e1:L'.map Prod.fst=L.map Prod.fst) (hmod:∀ a∈mod,a∈L.map Prod.fst)
  (own:∀ p∈L',(p∈L∧p.1∉mod)∨h'.get? p.1=some p.2) (n1:∀ p∈news,h.objs.size≤p.1) (n2:∀ p∈news,h'.get? p.1=some p.2) (n3:(news.map Prod.fst).Nodup):Rep (K w) h₀ gv (news++L') h'.objs.size h':=by
 have lt:∀ p∈L',p.1<h.objs.size:=fun p hp=>by
  have:p.1∈L.map Prod.fst:=e1 ▸ mem_map_of_mem hp
  obtain ⟨p',hp',e⟩:=List.mem_map.mp this
  exact e ▸ Heap.lt_size (R.own p' hp')
 have k:=R.old
 have low:∀ a o,K w a=some o→a<h.objs.size:=fun a o e=>Heap.lt_size (k a o e)
 refine ⟨rfl,q.kok (w:=w) k hm,fun p hp=>?_,?_,fun p hp=>?_,fun b o e hb=>?_,Nat.le_trans R.grow q.size,fun p hp=>?_⟩
 ·rcases List.mem_append.mp hp with hp | hp
  ·exact n2 p hp
  ·rcases own p hp with ⟨x,y⟩ | x
   ·exact q.get _ _ (R.own p x) y
   ·exact x
 ·rw [List.map_append,List.nodup_append]
  refine ⟨n3,by rw [e1];exact R.nd,fun a ha b hb=>?_⟩
  obtain ⟨p,hp,rfl⟩:=List.mem_map.mp ha
  obtain ⟨p',hp',rfl⟩:=List.mem_map.mp hb
  intro e
  have x:=lt p' hp'
  rw [← e] at x
  exact absurd (n1 p hp) (Nat.not_le.mpr x)
 ·rcases List.mem_append.mp hp with hp | hp
  ·cases e:K w p.1 with
   | none=>rfl
   | some o=>exact absurd (n1 p hp) (Nat.not_le.mpr (low _ _ e))
  ·have:p.1∈L.map Prod.fst:=e1 ▸ mem_map_of_mem hp
   obtain ⟨p',hp',e⟩:=List.mem_map.mp this
   rw [← e];exact R.apart p' hp'
 ·rw [List.map_append,List.mem_append,not_or,e1] at hb
  exact q.get _ _ (R.frame b o e hb.2) fun m=>hb.2 (hmod b m)
 ·rcases List.mem_append.mp hp with hp | hp
  ·exact .inr (Nat.le_trans R.grow (n1 p hp))
  ·have:p.1∈L.map Prod.fst:=e1 ▸ mem_map_of_mem hp
   obtain ⟨p',hp',e⟩:=List.mem_map.mp this
   rw [← e];exact R.new p' hp'
theorem Rep.after0 {w:World} {h₀ h h':Heap} {gv:List Addr} {L:Led} {nx:Nat} (R:Rep (K w) h₀ gv L nx h) (q:Keeps [] h h'):Rep (K w) h₀ gv L h'.objs.size h':=
 R.after q (news:=[]) aX rfl aX (fun p hp=>.inl ⟨hp,not_mem_nil⟩) aX aX (by simp)
theorem Rep.afterN {w:World} {h₀ h h':Heap} {gv:List Addr} {L:Led} {nx:Nat} (R:Rep (K w) h₀ gv L nx h) (q:Keeps [] h h') (news:Led) (n1:∀ p∈news,h.objs.size≤p.1) (n2:∀ p∈news,h'.get? p.1=some p.2) (n3:(news.map Prod.fst).Nodup):Rep (K w) h₀ gv (news++L) h'.objs.size h':=
 R.after q (news:=news) aX rfl aX (fun p hp=>.inl ⟨hp,not_mem_nil⟩) n1 n2 n3
theorem Rep.after1 {w:World} {h₀ h h':Heap} {gv:List Addr} {L:Led} {nx:Nat} {a:Addr} {o o':Obj} (R:Rep (K w) h₀ gv L nx h) (i:Nat) (hi:L[i]? = some (a,o)) (q:Keeps [a] h h') (ha:845≤a) (g:h'.get? a=some o'):Rep (K w) h₀ gv (L.set i (a,o')) h'.objs.size h':=by
 obtain ⟨hl,he⟩:=List.getElem?_eq_some_iff.mp hi
 refine R.after q (news:=[]) (bK ha) ?_ (fun b hb=>?_) (fun p hp=>?_) aX aX (by simp)
 ·rw [List.map_set]
  have:(L.map Prod.fst)[i]? = some a:=by rw [List.getElem?_map,hi];rfl
  obtain ⟨hl',he'⟩:=List.getElem?_eq_some_iff.mp this
  show (L.map Prod.fst).set i a=_
  rw [← he']
  exact List.set_getElem_self hl'
 ·simp only [mem_singleton] at hb
  subst hb
  exact List.mem_map.mpr ⟨_,he ▸ List.getElem_mem hl,rfl⟩
 ·obtain ⟨j,hj,rfl⟩:=List.getElem_of_mem hp
  rw [List.getElem_set]
  by_cases e:i=j
  ·right;simp [e,g]
  ·left
   rw [if_neg e]
   have hj':j<L.length:=by simpa using hj
   refine ⟨List.getElem_mem hj',fun z=>e ?_⟩
   have n:=List.pairwise_iff_getElem.mp R.nd
   simp only [mem_singleton] at z
   have q':(L.map Prod.fst)[j]'(by simpa using hj')=(L.map Prod.fst)[i]'(by simpa using hl):=by simp only [List.getElem_map];rw [z,he]
   rcases Nat.lt_trichotomy i j with c | c | c
   ·exact absurd q'.symm (n i j _ _ c)
   ·exact c
   ·exact absurd q' (n j i _ _ c)
theorem au.noLimit {w:World} {h:Heap} (k:au w h):h.NoLimit:=by
 have e:K w 2=some (o2 w.params):=by symm
 have g:h.get? cStatics=some (o2 w.params):=k 2 _ e
 refine Heap.NoLimit.of_ok ?_
 unfold Heap.noLimitOk Heap.isNs Heap.nsMap
 rw [g]
 symm
noncomputable def u0 (r:Rs):Bool:=match r.ou with | .fin (.again (.func _ _))=>true | _=>false
theorem sE {r:Rs} (h:u0 r=true):r.ou=.fin (.again (iR r))∧(iR r).quiet=true:=by
 unfold u0 at h
 unfold iR
 split at h
 ·rename_i b env e
  rw [e]
  exact ⟨rfl,rfl⟩
 ·cases h
theorem zu {w:World} {g:Array GenState} {d:Drawn} {os:OsState} {A:Around} {R:Result→Shared→Prop} {h₀ h:Heap} {gv:List Addr} {L:Led} {nx tk:Nat} {f:Nat} {ob:Obj} {args:Args} {H:List Hk} (r1 r2:Rs) (HH:aF w H) (hA:A.handled=none) (hroom:A.depth<recursionLimit) (rep:Rep (K w) h₀ gv L nx h)
  (o1 o2:List Nat) (hk:K w f=some ob) (hf:ob.data=.func (fdOf ob)) (hg:(fdOf ob).scope.isGenerator=false) (hc:(fdOf ob).scope.isCoroutine=false)
  (e1:r1=ig w f (fdOf ob) args L nx tk o1) (ok1:Good r1) (p1:u0 r1=true)
  (e2:r2=xG w H (iR r1) r1.L r1.nx r1.tk o2) (ok2:Good r2) (ou:gQ (xc w g d os A R) h₀ gv r2) :
  codeAny (model pw w) A (.call (.ref f) args) R ⟨h,g,d,tk,os⟩:=by
 unfold ig at e1
 subst e1 e2
 refine jQ (rep.old f ob hk) hf hg hc hroom ?_
 let V:XC:={prog:=pw,w,K:=K w,g,d,os,A₀:=A.under (.call (.ref f) args),Q₀:=fun fin s'=>s'.heap.NoLimit∧∃ c,fin=.again c∧c.quiet=true∧codeAny (model pw w) A c R s',E₀:=fun e s'=>R (.error e) s',R₀:=fun _ _=>False}
 refine (sim_sound V h₀ gv hA [] aF.nil 2000 .base (Bt f (fdOf ob) args) L nx tk o1 [] [] [] ok1.ok ?_).2 h rep
 obtain ⟨q1,q2⟩:=sE p1
 refine lH q1 fun h' R'=>⟨au.noLimit R'.old,_,rfl,q2,?_⟩
 exact su HH o2 hA R' ok2 ou
noncomputable def lO (r:Rs):=(r.ps.map Prod.fst,r.ts.map Prod.fst,r.cs.map Prod.fst,u0 r)
noncomputable abbrev iB (r:Rs):Prop:=lO r=(r.ps.map Prod.snd,r.ts.map Prod.snd,r.cs.map Prod.snd,true)
theorem iB.good {r:Rs} (h:iB r):Good r:=by
 obtain ⟨a,h⟩:=Prod.mk.inj h
 obtain ⟨b,h⟩:=Prod.mk.inj h
 obtain ⟨c,_⟩:=Prod.mk.inj h
 exact Prod.ext a (Prod.ext b c)
theorem iB.ok {r:Rs} (h:iB r):u0 r=true:=(Prod.mk.inj (Prod.mk.inj (Prod.mk.inj h).2).2).2
@[irreducible] def aQ (w:World) (H:List Hk) (f:Nat) (ob:Obj) (args:Args) (L:Led) (nx tk:Nat) (o1 o2:List Nat):Rs:=
 xG w H (iR (ig w f (fdOf ob) args L nx tk o1)) (ig w f (fdOf ob) args L nx tk o1).L (ig w f (fdOf ob) args L nx tk o1).nx (ig w f (fdOf ob) args L nx tk o1).tk o2
noncomputable abbrev Fp (w:World) (f:Nat) (ob:Obj):Prop:=(K w f,ob.data,(fdOf ob).scope.isGenerator,(fdOf ob).scope.isCoroutine)=(some ob,.func (fdOf ob),false,false)
theorem dJ {w:World} {g:Array GenState} {d:Drawn} {os:OsState} {A:Around} {R:Result→Shared→Prop} {h₀ h:Heap} {gv:List Addr} {L:Led} {nx tk:Nat} {f:Nat} {ob:Obj} {args:Args} {n:Nat} {c:Code} {o1 o2:List Nat} {H:List Hk} (q:Rs) (HH:aF w H) (hA:A.handled=none) (hroom:A.depth<recursionLimit) (rep:Rep (K w) h₀ gv L nx h)
  (hf:Fp w f ob) (pre:iB (ig w f (fdOf ob) args L nx tk o1)) (ok:fU q n c)
  (k:∀ A' h,A'.handled=none→A'.depth=A.depth+n→Rep (K w) h₀ gv q.L q.nx h→codeAny (model pw w) A' c (fun r' s'=>Mn (xc w g d os A R) (aL q) (aR q r') s') ⟨h,g,d,q.tk,os⟩)
  (e:q=aQ w H f ob args L nx tk o1 o2):codeAny (model pw w) A (.call (.ref f) args) R ⟨h,g,d,tk,os⟩:=by
 unfold aQ at e
 subst e
 obtain ⟨a,hf⟩:=Prod.mk.inj hf
 obtain ⟨b,hf⟩:=Prod.mk.inj hf
 obtain ⟨e1,e2⟩:=Prod.mk.inj hf
 exact zu _ _ HH hA hroom rep o1 o2 a b e1 e2 rfl pre.good pre.ok rfl ok.good (j9 hA ok k)
theorem bV {w:World} {g:Array GenState} {d:Drawn} {os:OsState} {A:Around} {R:Result→Shared→Prop} {h₀ h:Heap} {gv:List Addr} {L:Led} {nx tk:Nat} {f:Nat} {ob:Obj} {args:Args} {y:Result} {o1 o2:List Nat} {H:List Hk} (q:Rs) (HH:aF w H) (hA:A.handled=none) (hroom:A.depth<recursionLimit) (rep:Rep (K w) h₀ gv L nx h)
  (hf:Fp w f ob) (pre:iB (ig w f (fdOf ob) args L nx tk o1)) (ok:uI q y)
  (k:∀ h,Rep (K w) h₀ gv q.L q.nx h→R y ⟨h,g,d,q.tk,os⟩)
  (e:q=aQ w H f ob args L nx tk o1 o2):codeAny (model pw w) A (.call (.ref f) args) R ⟨h,g,d,tk,os⟩:=by
 unfold aQ at e
 subst e
 obtain ⟨a,hf⟩:=Prod.mk.inj hf
 obtain ⟨b,hf⟩:=Prod.mk.inj hf
 obtain ⟨e1,e2⟩:=Prod.mk.inj hf
 exact zu _ _ HH hA hroom rep o1 o2 a b e1 e2 rfl pre.good pre.ok rfl ok.good (Fo ok.ou k)
theorem Rep.at {w:World} {h₀ h:Heap} {gv:List Addr} {L:Led} {nx:Nat} (R:Rep (K w) h₀ gv L nx h) (i:Nat) {a:Addr} {o:Obj} (e:L[i]? = some (a,o)):h.get? a=some o:=R.own (a,o) (List.mem_of_getElem? e)
theorem Rep.up {w:World} {h₀ h:Heap} {gv:List Addr} {L:Led} {nx:Nat} (R:Rep (K w) h₀ gv L nx h):∃ m,Rep (K w) h₀ gv L (m+845) h:=by
 have:845≤nx:=R.size ▸ au.size (w:=w) R.old
 exact ⟨nx - 845,by rw [Nat.sub_add_cancel this];exact R⟩
theorem cH {a:Nat} (h:845≤a):∃ m,a=m+845:=⟨a - 845,(Nat.sub_add_cancel h).symm⟩
noncomputable def zx (m:List Value):Obj:=⟨.none,none,.fields ⟨m⟩,⟨[]⟩⟩
noncomputable def sG:Obj:=zx []
def Mv:Code→Sem Fin:=PySem.W.Fast.tw11892475500146522536 PySem.W.Fast.tw14364793385576792824
theorem Ib:denote table=Mv:=by
 unfold Mv
 rw [table_eq_tree,PySem.W.Fast.te11892475500146522536,PySem.W.Fast.te14364793385576792824]
def qe (p:Program) (w:World):SharedT→Thread→Option (SharedT × Thread):=PySem.W.Fast.tw10156331382660048174 Mv p w
theorem xH (p:Program) (w:World):stepT (denote table) p w=qe p w:=by
 unfold qe
 rw [Ib,PySem.W.Fast.te10156331382660048174]
def Mw (p:Program) (w:World) (n:Nat):SharedT→Thread→Option SharedT:=@Nat.rec (fun _=>SharedT→Thread→Option SharedT) (fun _ _=>none) (fun _ ih s t=>match t.atExitBegin with
 | some []=>some s
 | some (_::_)=>none
 | none=>match qe p w s t with
  | some (s',t')=>ih s' t'
  | none=>none) n
theorem u9 {p:Program} {w:World}:∀ {n:Nat} {s s':SharedT} {t:Thread},Mw p w n s t=some s'→importEnds table p w n s.abs t=some s'.abs
 | 0,_,_,_,h=>by cases h
 | n+1,s,s',t,h=>by
  unfold importEnds
  have h:(match t.atExitBegin with
   | some []=>some s
   | some (_::_)=>none
   | none=>match qe p w s t with
    | some (s',t')=>Mw p w n s' t'
    | none=>none)=some s':=h
  cases he:t.atExitBegin with
  | some l=>
   rw [he] at h
   cases l with
   | nil=>cases h;rfl
   | cons=>cases h
  | none=>
   rw [he] at h
   cases hs:qe p w s t with
   | none=>rw [hs] at h;cases h
   | some r=>
    obtain ⟨s₂,t₂⟩:=r
    rw [hs] at h
    rw [← xH] at hs
    dsimp only
    rw [stepT_spec hs]
    exact u9 h
def Mx (p:Program) (w:World) (n₀:Nat) (ann:Option Value) (n:Nat):SharedT→Thread→Option SharedT:=@Nat.rec (fun _=>SharedT→Thread→Option SharedT) (fun _ _=>none) (fun _ ih s t=>match through t with
 | true=>some s
 | false=>match PySem.W.Fast.tw6613529449190102663 n₀ ann t with
  | false=>none
  | true=>match qe p w s t with
   | some (s',t')=>ih s' t'
   | none=>none) n
theorem vd {p:Program} {w:World} {n₀:Nat} {ann:Option Value}:∀ {n:Nat} {s s':SharedT} {t:Thread},Mx p w n₀ ann n s t=some s'→topRun table p w n₀ ann n s.abs t=some s'.abs
 | 0,_,_,_,h=>by cases h
 | n+1,s,s',t,h=>by
  unfold topRun
  have h:(match through t with
   | true=>some s
   | false=>match PySem.W.Fast.tw6613529449190102663 n₀ ann t with
    | false=>none
    | true=>match qe p w s t with
     | some (s',t')=>Mx p w n₀ ann n s' t'
     | none=>none)=some s':=h
  rw [← PySem.W.Fast.te6613529449190102663] at h
  cases ht:through t with
  | true=>rw [ht] at h;cases h;rfl
  | false=>
   rw [ht] at h
   cases hk:stepOk n₀ ann t with
   | false=>rw [hk] at h;cases h
   | true=>
    rw [hk] at h
    cases hs:qe p w s t with
    | none=>rw [hs] at h;cases h
    | some r=>
     obtain ⟨s₂,t₂⟩:=r
     rw [hs] at h
     rw [← xH] at hs
     dsimp only
     rw [stepT_spec hs]
     exact vd h
def s00:SharedT:=⟨.nil,0,{},#[],{},1,(start (opening pw)).1.os⟩
theorem Ie:s00.abs=(start (opening pw)).1:=by symm
def aa6 (w:World):Option SharedT:=Mw (opening pw) w 5500 s00 (start (opening pw)).2
noncomputable def zy (m:Str) (s:SharedT):Option SharedT:=
 match boundIn s.abs.heap sysModules m,tameNamesOf? m with
 | some (.ref a),some row=>(match s.abs.heap.get? a with
  | some o=>(match o.dict with
   | some D=>(match s.abs.heap.get? D,s.tree.get D with
    | some od,some _=>(fenceDict? m row od).map fun od'=>{s with tree:=s.tree.set D fun _=>od'}
    | _,_=>none)
   | none=>none)
  | none=>none)
 | _,_=>none
theorem xJ {m:Str} {s s':SharedT} (h:zy m s=some s'):fenceModule? m s.abs=some s'.abs:=by
 unfold zy at h
 unfold fenceModule?
 split at h
 ·rename_i a row e1 e2
  rw [e1,e2]
  dsimp only
  split at h
  ·rename_i o e3
   rw [e3]
   dsimp only
   split at h
   ·rename_i D e4
    rw [e4]
    dsimp only
    split at h
    ·rename_i od od2 e5 e6
     rw [e5]
     dsimp only
     cases e7:fenceDict? m row od with
     | none=>rw [e7] at h;cases h
     | some od'=>
      rw [e7] at h
      cases h
      show some _=some _
      congr 1
      show Shared.mk _ _ _ _ _=Shared.mk _ _ _ _ _
      congr 1
      exact (absHeap_set e6).symm
    ·cases h
   ·cases h
  ·cases h
 ·cases h
noncomputable def nP:List Str→SharedT→Option SharedT
 | [],s=>some s
 | m::r,s=>(zy m s).bind (nP r)
theorem jR:∀ {l:List Str} {s s':SharedT},nP l s=some s'→fenceAll? l s.abs=some s'.abs
 | [],_,_,h=>by cases h;rfl
 | m::r,s,s',h=>by
  obtain ⟨s₁,h1,h2⟩:=Option.bind_eq_some_iff.mp h
  unfold fenceAll?
  rw [xJ h1]
  exact jR h2
def aa7 (w:World):Option SharedT:=(aa6 w).bind (nP (importedModules pw.main.body))
noncomputable def qv:Program:={pw with main:={pw.main with body:=[fs 38]}}
noncomputable def Bu:List Str:=importedModules pw.main.body
noncomputable def loose:List Str:=["deque","_wall","_whence","_index","UnsupportedOperation","IOBase","BufferedIOBase","TextIOBase","BytesIO","StringIO","_kind","_fspath","_check_arg_types","isabs","join","dirname","shlex","split","_initial_missing","reduce","read_uint1","read_string1","_Example","_law_stream","_law_pieces","_law_read","_law_step","_law_row","_law_joined","_law_put_ahead","_law_of_none_refused","_law_tells"].map Str.ofString
noncomputable def Rc (s:SharedT):=(s.n,s.abs.heap.isNs mainGlobals && s.gens.size == 0,s.abs.heap.nsMap mainGlobals "__annotations__")
def Rd (sB s:SharedT):=(staticsOk Bu sB.abs.heap s.abs.heap && namesBound pw s.abs.heap && gensDone s.abs && laidKept sB.abs.heap s.abs.heap,PySem.W.Fast.tw4187177175401517315 qv loose Bu (fun _=>true) true s.abs,s.n,(s.tree.get 780).bind alive,addrs.map fun a=>(s.tree.get a).bind alive)
theorem Rf (w:World):((aa7 w).bind fun sB=>(Mx pw w 29 (some (.ref 6)) 5500 sB (topStub pw)).map fun sT=>(Rc sB,Rd sB sT))=some ((29,true,some (.ref 6)),(true,openGood qv loose,845,some sG,addrs.map (K w))):=by symm
theorem Rep.nil {w:World} {h:Heap} (k:au w h):Rep (K w) h [] [] h.objs.size h:=Rep.start k (L:=[]) aX (by simp) aX
variable {w:World} {g:Array GenState} {d:Drawn} {os:OsState} {A:Around} {R:Result→Shared→Prop} {h:Heap} {tk:Nat}
theorem sH {t1 t2:Nat} {v2:Str} (hA:A.handled=none) (hD:A.depth<recursionLimit) (k:au w h)
  (post:∀ h' tk',Keeps [] h h'→R (.ok (.ret (.int 1 t1))) ⟨h',g,d,tk',os⟩) :
  codeAny (model pw w) A (.call (.ref 53) ⟨[.int 1 t1,.str v2 t2],[]⟩) R ⟨h,g,d,tk,os⟩:=by
 let q:=aQ w [] 53 (o53 w.params) ⟨[.int 1 t1,.str v2 t2],[]⟩ [] h.objs.size tk [0,1,1,1,1] (og 0x1100001001110000001000000100)
 exact bV q .nil hA hD (Rep.nil k) (y:=.ok (.ret (.int 1 t1))) (by symm) (by symm) (by symm) (fun h' R'=>post h' _ (R'.keeps (G:=[]) (G':=[]) (mod:=[]) rfl aX aX aX)) rfl
noncomputable def S (l:List Nat):Str:=⟨⟨l⟩⟩
def dE (P:Params) (s:Str) (t:Nat) (v:Value):DictEntry:=⟨PySem.W.ZFast.zw12210062019545310541 (P.strHash s.cps),.str s t,v⟩
noncomputable def inst (c:Nat) (dx:Addr):Obj:=⟨.ref c,some dx,.plain,⟨[]⟩⟩
noncomputable def zA:Str:=S [95,83,116,114,105,110,103,73,79,95,95,110,101,119,108,105,110,101]
noncomputable def Mz:Str:=S [95,83,116,114,105,110,103,73,79,95,95,98,117,102]
noncomputable def MF:Str:=S [95,83,116,114,105,110,103,73,79,95,95,112,111,115]
def eE (P:Params) (t1 t2 t3 tn tb tp:Nat) (buf:Str) (p:Nat):Obj:=
 ⟨.type "dict",none,.dict ⟨[dE P zA t1 (.str (S [10]) tn),dE P Mz t2 (.str buf tb),dE P MF t3 (.int (Int.ofNat p) tp)]⟩ 3,⟨[]⟩⟩
theorem sI {a dx t1 t2 t3 tn tb tp p:Nat} {buf:Str} (hA:A.handled=none) (hD:A.depth<recursionLimit) (k:au w h) (la:845≤a) (ld:845≤dx) (ne:a≠dx)
  (ga:h.get? a=some (inst 587 dx)) (gd:h.get? dx=some (eE w.params t1 t2 t3 tn tb tp buf p))
  (post:∀ h' tk',Keeps [] h h'→R (.ok (.ret .none)) ⟨h',g,d,tk',os⟩) :
  codeAny (model pw w) A (.call (.ref 371) ⟨[.ref a],[]⟩) R ⟨h,g,d,tk,os⟩:=by
 have own:∀ q∈([(a,inst 587 dx),(dx,eE w.params t1 t2 t3 tn tb tp buf p)]:Led),h.get? q.1=some q.2:=by simp [ga,gd]
 let q:=aQ w [] 371 (QJ w.params) ⟨[.ref a],[]⟩ [(a,inst 587 dx),(dx,eE w.params t1 t2 t3 tn tb tp buf p)] h.objs.size tk [0,1,1] (og 0x13022000000020000000021)
 exact bV q .nil hA hD (Rep.start k own (lG ne) (by simp [la,ld])) (y:=.ok (.ret .none))
  (by symm) (by symm) (by symm) (fun h' R'=>post h' _ (R'.done 1 (G':=[(a,inst 587 dx),(dx,eE w.params t1 t2 t3 tn tb tp buf p)]) (mod:=[]) (by symm) rfl own (fun p hp=>.inr hp)).1) rfl
section
open PySem.Builtin PySem.Builtin.Str
section
variable {prog:Program} {w:World} {A:Around} {R:Result→Shared→Prop} {s:Shared}
theorem mF {T:String} {name:Str} {id:String} {B:Builtin} {self:Value} {rest:List Value} {Sp:PySem.Spec} (slot:Slot T name id) (hT:s.TypeIs self T)
  (entry:entryFor table id=some B) (args:argsOk id ⟨self::rest,[]⟩) (gm:Meets (B ⟨self::rest,[]⟩) Sp) (h:Sp A R s) :
  codeAny (model prog w) A (.call (.builtin id) ⟨self::rest,[]⟩) R s:=
 codeAny_call_builtin slot.plain entry (slot.check _ _ _ _ _ _ _ _ hT args (gm prog w A R s h))
theorem dw {T:String} {name:Str} {id:String} {B:Builtin} {self:Value} {rest:List Value} {m:Made} (slot:Slot T name id) (hT:s.TypeIs self T)
  (entry:entryFor table id=some B) (args:argsOk id ⟨self::rest,[]⟩) (gm:Gives (B ⟨self::rest,[]⟩) m) (h:m.post (fun v s'=>R (.ok (.ret v)) s') s) :
  codeAny (model prog w) A (.call (.builtin id) ⟨self::rest,[]⟩) R s:=
 codeAny_call_builtin slot.plain entry (slot.check _ _ _ _ _ _ _ _ hT args (gm prog w A R s h))
theorem iT {id:String} {b:Builtin} {args:List Value} (hk:builtinKind id=none) (hp:plainId id=true) (hb:entryFor table id=some b) (ha:argsOk id ⟨args,[]⟩)
  (hc:wpAny (model prog w) A.in1 (b ⟨args,[]⟩) (fun fin s'=>∃ v,fin=.done (.ret v)∧R (.ok (.ret v)) s') (fun e s'=>R (.error e) s') s):codeAny (model prog w) A (.call (.builtin id) ⟨args,[]⟩) R s:=by
 refine codeAny_call_builtin hp hb ?_
 have hfin:=wpAny_mono hc (Q':=fun fin s'=>match fin with
   | .done f=>R (.ok f) s'
   | .again c'=>c'.quiet=true∧codeAny (model prog w) A c' R s')
  (fun fin s' h'=>by obtain ⟨v,rfl,hv⟩:=h';exact hv) fun _ _ h'=>h'
 simp only [checkBuiltinCall,hk]
 cases hsig:Manifest.signature? id with
 | none=>exact wpAny_pure hfin
 | some sig=>
  simp only [argsOk,hsig] at ha
  have h2:Bind.checkArgs id sig ⟨args,[]⟩=pure ():=ha
  show wpAny _ A.in1 (Bind.checkArgs id sig ⟨args,[]⟩) _ _ s
  rw [h2];exact wpAny_pure hfin
theorem Bv {p n:Nat} (h:p<n):strSliceIndices (some (Int.ofNat p)) (some (Int.ofNat p+1)) 1 n=[p]:=by
 unfold strSliceIndices sliceRange
 simp only [show (1:Int) > 0 by decide,if_true,Int.ofNat_eq_natCast,Int.ediv_one]
 have a:¬ ((p:Int)<0):=by lia
 have b:¬ ((p:Int)+1<0):=by lia
 rw [if_neg a,if_neg b]
 have e1:max 0 (min (p:Int) n)=p:=by lia
 have e2:max 0 (min ((p:Int)+1) n)=p+1:=by lia
 rw [e1,e2,if_pos (by lia)]
 have e3:((p:Int)+1 - p+1 - 1).toNat=1:=by lia
 rw [e3]
 simp
end
end
section
open PySem.Builtin PySem.Builtin.Str
noncomputable def iK (c:Code) (i:Nat):Value:=match c with | .call _ a=>(a.pos[i]?).getD .none | _=>.none
noncomputable def tokV:Value→Nat | .int _ t=>t | .str _ t=>t | .bytes _ t=>t | _=>0
def hLen (x:Str) (n:Nat):Hk:=⟨false,fun c _=>(.call (.builtin "len") ⟨[.str x (tokV (iK c 0))],[]⟩,default),fun _ _ tk=>.int (Int.ofNat n) (tk+1),2⟩
def iM (id:String) (a b:Int) (v:Bool):Hk:=⟨false,fun c _=>(.call (.builtin id) ⟨[.int a (tokV (iK c 0)),.int b (tokV (iK c 1))],[]⟩,default),fun _ _ _=>.bool v,0⟩
def hAdd (x y z:Str):Hk:=⟨false,fun c _=>(.call (.builtin "str.__add__") ⟨[.str x (tokV (iK c 0)),.str y (tokV (iK c 1))],[]⟩,default),fun _ _ tk=>.str z tk,1⟩
def MJ (x:Str) (p:Nat) (c:Nat):Hk:=⟨true,fun cd q=>(.call (.builtin "str.__getitem__") ⟨[.str x (tokV (iK cd 0)),.ref q.1],[]⟩,⟨.type "slice",none,.fields ⟨[.int (Int.ofNat p) (match q.2.data with | .fields ⟨[a,_,_]⟩=>tokV a | _=>0),.int (Int.ofNat p+1) (match q.2.data with | .fields ⟨[_,a,_]⟩=>tokV a | _=>0),.none]⟩,⟨[]⟩⟩),fun _ _ tk=>.str (S [c]) tk,1⟩
section
variable {w:World}
theorem dN {h:Heap} {g:Array GenState} {d:Drawn} {os:OsState} {R:Result→Shared→Prop} {r:Result} {tk:Nat}
  (x:∀ h',h'.objs.size=h.objs.size→(∀ b o,h.get? b=some o→h'.get? b=some o)→R r ⟨h',g,d,tk,os⟩):R r ⟨h,g,d,tk,os⟩:=x h rfl fun _ _ e=>e
theorem rP {x:Str} {n:Nat} (hn:x.length=n) (hx:n<2 ^ 63):gB pw w (K w) (hLen x n):=by
 subst hn
 intro g d os A R h tk c p hA e _ _ post
 obtain ⟨ec,_⟩:=Prod.mk.inj e
 rw [ec]
 refine iT kind_len plain_len entry_len (args_len1 _) ?_
 unfold Builtin.«len»
 refine wpAny_bind (m:=oneArg "len" _) (wpAny_pure ?_)
 refine yZ (tokV (iK c 0)) fun t=>?_
 refine wpAny_bind (m:=callSpecial? (.str x t) (Str.ofString "__len__")) (wpAny_callSpecial?_slot (name:=Str.ofString "__len__") (typeIs_str _ x t) F.slot_str_len (call_gives F.slot_str_len (typeIs_str _ x t) F.entry_str_len (F.args_str_len_1 _) (gives_str_len x t) ?_))
 show wpAny _ _ _ _ _ ⟨h,g,d,tk+1,os⟩
 refine wpAny_bind (wpAny_holding (wpAny_pure ?_))
 refine wpAny_bind (wpAny_letGo ?_)
 show wpAny _ _ (if (x.length:Int)<0 then _ else _) _ _ _
 rw [if_neg (by lia)]
 show wpAny _ _ (if (x.length:Int) ≥ 2 ^ 63 then _ else _) _ _ _
 rw [if_neg (by lia)]
 exact wpAny_bind (wpAny_mkInt (wpAny_pure ⟨_,rfl,dN post⟩))
theorem sJ {a b:Int} {v:Bool} (hv:decide (a ≥ b)=v):gB pw w (K w) (iM "int.__ge__" a b v):=by
 intro g d os A R h tk c p hA e _ _ post
 obtain ⟨ec,_⟩:=Prod.mk.inj e
 rw [ec]
 refine dw F.slot_int_ge (typeIs_int _ _ _) F.entry_int_ge (F.args_int_ge_2 _ _) (gives_int_ge a b _ _) ?_
 rw [hv];exact dN post
theorem nQ {a b:Int} {v:Bool} (hv:decide (a<b)=v):gB pw w (K w) (iM "int.__lt__" a b v):=by
 intro g d os A R h tk c p hA e _ _ post
 obtain ⟨ec,_⟩:=Prod.mk.inj e
 rw [ec]
 refine dw F.slot_int_lt (typeIs_int _ _ _) F.entry_int_lt (F.args_int_lt_2 _ _) (gives_int_lt a b _ _) ?_
 rw [hv];exact dN post
theorem zB {a b:Int} {v:Bool} (hv:(a == b)=v):gB pw w (K w) (iM "int.__eq__" a b v):=by
 intro g d os A R h tk c p hA e _ _ post
 obtain ⟨ec,_⟩:=Prod.mk.inj e
 rw [ec]
 refine dw F.slot_int_eq (typeIs_int _ _ _) F.entry_int_eq (F.args_int_eq_2 _ _) (gives_int_eq a b _ _) ?_
 rw [hv];exact dN post
theorem mG {x y z:Str} (hz:z=S (x.cps.toList++y.cps.toList)) (hx:x.cps.toList≠[]) (hy:y.cps.toList≠[]) (hn:x.length+y.length≤sizeLine):gB pw w (K w) (hAdd x y z):=by
 intro g d os A R h tk c p hA e _ _ post
 obtain ⟨ec,_⟩:=Prod.mk.inj e
 rw [ec]
 refine dw F.slot_str_add (typeIs_str _ _ _) F.entry_str_add (F.args_str_add_2 _ _) (gives_str_add x y _ _) ?_
 have e1:(x.length == 0)=false:=by
  obtain ⟨⟨l⟩⟩:=x
  cases l with
  | nil=>exact absurd rfl hx
  | cons a l=>simp [Str.length]
 have e2:(y.length == 0)=false:=by
  obtain ⟨⟨l⟩⟩:=y
  cases l with
  | nil=>exact absurd rfl hy
  | cons a l=>simp [Str.length]
 rw [e1,e2]
 refine ⟨by rw [Str.length_append];exact hn,?_⟩
 have ez:x++y=z:=by
  rw [hz]
  obtain ⟨⟨x⟩⟩:=x
  obtain ⟨⟨y⟩⟩:=y
  first | rfl | (apply Str.ext';simp [S,Str.cps_append])
 rw [ez]
 exact dN post
theorem Ba {x:Str} {p c:Nat} (hc:x.cps.toList[p]? = some c) (h2:2≤x.length):gB pw w (K w) (MJ x p c):=by
 intro g d os A R h tk cd q hA e _ ho post
 obtain ⟨ec,eo⟩:=Prod.mk.inj e
 have hq:=ho rfl
 have hc':x.cps[p]? = some c:=by simpa using hc
 have lt:p<x.length:=by
  have:=(List.getElem?_eq_some_iff.mp hc).1
  simpa [Str.length] using this
 rw [ec]
 have hs:h.IsSlice q.1 (some (Int.ofNat p,(match q.2.data with | .fields ⟨[a,_,_]⟩=>tokV a | _=>0))) (some (Int.ofNat p+1,(match q.2.data with | .fields ⟨[_,a,_]⟩=>tokV a | _=>0))) none:=⟨q.2,hq,congrArg Obj.cls eo,congrArg Obj.data eo⟩
 refine mF F.slot_str_getitem (typeIs_str _ _ _) F.entry_str_getitem (F.args_str_getitem_2 _ _) (meets_str_getitem_slice x (tokV (iK cd 0)) q.1 _ _ none rfl) ⟨hs,?_⟩
 unfold sliceMade slicePicked
 simp only [Option.map_some,Option.map_none,Option.getD_none,Bv lt]
 have hn:¬ (([p].length == x.length)=true):=by simp;lia
 split
 ·rename_i z;exact absurd z (by simpa using hn)
 ·refine ⟨?_,?_⟩
  ·simp [hc',sizeLine,Str.length]
  ·have:(([p].filterMap (x.cps[·]?)).toArray) = #[c]:=by simp [hc']
   rw [this]
   exact dN post
end
end
section
variable (w:World) (n tk a dx t1 t2 t3 tn tb tp p ts:Nat) (buf:Str)
def rd1:Rs:=aQ w [] 533 (QK w.params) ⟨[.ref a,.int 1 ts],[]⟩ [(a,inst 587 dx),(dx,eE w.params t1 t2 t3 tn tb tp buf p)] n tk [0,0,1,1,1,1] [1,0,1,0,1]
def rd2 (r:Rs):Rs:=aB w [] r (.ok (.ret (.int 1 ts))) r.L n tk (og 0x11032000020000000200000002111)
end
theorem sO {a dx t1 t2 t3 tn tb tp p ts:Nat} {buf:Str} (hA:A.handled=none) (hD:A.depth+3<recursionLimit) (k:au w h) (la:845≤a) (ld:845≤dx) (ne:a≠dx)
  (ga:h.get? a=some (inst 587 dx)) (gd:h.get? dx=some (eE w.params t1 t2 t3 tn tb tp buf p)) (hp:p=buf.length) (hb:buf.length<1000)
  (post:∀ h' tk' t',Keeps [] h h'→R (.ok (.ret (.str (S []) t'))) ⟨h',g,d,tk',os⟩) :
  codeAny (model pw w) A (.call (.ref 533) ⟨[.ref a,.int 1 ts],[]⟩) R ⟨h,g,d,tk,os⟩:=by
 have own:∀ q∈([(a,inst 587 dx),(dx,eE w.params t1 t2 t3 tn tb tp buf p)]:Led),h.get? q.1=some q.2:=by simp [ga,gd]
 obtain ⟨n0,R0⟩:=(Rep.start k own (lG ne) (by simp [la,ld])).up
 refine dJ (rd1 w (n0+845) tk a dx t1 t2 t3 tn tb tp p ts buf) .nil hA (by lia) R0 (n:=1) (c:=.call (.ref 53) ⟨[.int 1 ts,.str (Str.ofString "StringIO.read of a size that is no exact int") (tk+2)],[]⟩) (by symm) (by symm) (by symm) ?_ rfl
 intro A1 h1 bT hD1 R1
 refine sH bT (by lia) R1.old ?_
 intro h2 tk2 K2
 obtain ⟨n2,R2⟩:=(R1.after0 K2).up
 refine mD (rd2 w (n2+845) tk2 ts _) .nil hA R2 (n:=1) (c:=.call (.ref 371) ⟨[.ref a],[]⟩) (by symm) ?_ rfl
 intro A3 h3 iY lJ R3
 refine sI iY (by lia) R3.old la ld ne (R3.at 1 (by symm)) (R3.at (o:=eE w.params t1 t2 t3 tn tb tp buf p) 2 (by symm)) ?_
 intro h4 tk4 K4
 obtain ⟨n4,R4⟩:=(R3.after0 K4).up
 refine cI _ (H:=[hLen buf p,iM "int.__ge__" (Int.ofNat p) (Int.ofNat p) true]) (aF.cons (rP hp.symm (by lia)) (aF.cons (sJ (by simp)) aF.nil)) hA R4
  (aC:=[1,2,0,0,0,0,0,0,0,0,2,0,0,0,0,0,0,0,2,2,0,3,1,1,0,0,1,2,0,0,0,0,0,0,0,0,2,0,0,0,0,0,0,0,2,2,0,3,2,1,1,1,1,3])
  (y:=.ok (.ret (.str (S []) (tk4+6)))) (by symm) (fun h' R'=>post h' _ _ (R'.done 1 (G':=[(a,inst 587 dx),(dx,eE w.params t1 t2 t3 tn tb tp buf p)]) (mod:=[]) (by symm) rfl own (fun p hp=>.inr hp)).1) rfl
theorem zE {a dx t1 t2 t3 tn tb tp p ts c:Nat} {buf:Str} (hA:A.handled=none) (hD:A.depth+3<recursionLimit) (k:au w h) (la:845≤a) (ld:845≤dx) (ne:a≠dx)
  (ga:h.get? a=some (inst 587 dx)) (gd:h.get? dx=some (eE w.params t1 t2 t3 tn tb tp buf p)) (hc:buf.cps.toList[p]? = some c) (hb:buf.length<1000) (hb2:2≤buf.length)
  (post:∀ h' tk' t' tp',Keeps [dx] h h'→h'.get? dx=some (eE w.params t1 t2 t3 tn tb tp' buf (p+1))→R (.ok (.ret (.str (S [c]) t'))) ⟨h',g,d,tk',os⟩) :
  codeAny (model pw w) A (.call (.ref 533) ⟨[.ref a,.int 1 ts],[]⟩) R ⟨h,g,d,tk,os⟩:=by
 have lt:p<buf.length:=by
  have:=(List.getElem?_eq_some_iff.mp hc).1
  simpa [Str.length] using this
 have own:∀ q∈([(a,inst 587 dx),(dx,eE w.params t1 t2 t3 tn tb tp buf p)]:Led),h.get? q.1=some q.2:=by simp [ga,gd]
 obtain ⟨n0,R0⟩:=(Rep.start k own (lG ne) (by simp [la,ld])).up
 refine dJ (rd1 w (n0+845) tk a dx t1 t2 t3 tn tb tp p ts buf) .nil hA (by lia) R0 (n:=1) (c:=.call (.ref 53) ⟨[.int 1 ts,.str (Str.ofString "StringIO.read of a size that is no exact int") (tk+2)],[]⟩) (by symm) (by symm) (by symm) ?_ rfl
 intro A1 h1 bT hD1 R1
 refine sH bT (by lia) R1.old ?_
 intro h2 tk2 K2
 obtain ⟨n2,R2⟩:=(R1.after0 K2).up
 refine mD (rd2 w (n2+845) tk2 ts _) .nil hA R2 (n:=1) (c:=.call (.ref 371) ⟨[.ref a],[]⟩) (by symm) ?_ rfl
 intro A3 h3 iY lJ R3
 refine sI iY (by lia) R3.old la ld ne (R3.at 1 (by symm)) (R3.at (o:=eE w.params t1 t2 t3 tn tb tp buf p) 2 (by symm)) ?_
 intro h4 tk4 K4
 obtain ⟨n4,R4⟩:=(R3.after0 K4).up
 by_cases last:buf.length=p+1
 ·refine cI _ (H:=[hLen buf (p+1),iM "int.__ge__" (Int.ofNat p) (Int.ofNat (p+1)) false,iM "int.__lt__" (Int.ofNat (p+1)) (Int.ofNat (p+1)) false,MJ buf p c]) (aF.cons (rP last (by lia)) (aF.cons (sJ (by simp;lia)) (aF.cons (nQ (by simp)) (aF.cons (Ba hc hb2) aF.nil)))) hA R4
   (aC:=[1,2,0,0,0,0,0,0,0,0,2,0,0,0,0,0,0,0,2,2,0,3,1,1,0,0,1,2,0,0,0,0,0,0,0,0,2,0,0,0,0,0,0,0,2,2,0,3,2,1,1,1,1,3,1,0,0,1,1,0,0,1,4,1,1,2,0,0,0,0,0,0,0,0,2,0,0,2,0,2,0,0,0,0,0,0,0,2,0,3,3,3,1,2,0,0,0,0,0,0,0,0,2,0,0,0,0,0,0,0,2,2,0,3,1,1,5,0,0,0,0,0,0,0,1,1,1,1])
   (y:=.ok (.ret (.str (S [c]) (tk4+16)))) (by symm) (fun h' R'=>post h' _ _ _ (R'.done 3 (G':=[(a,inst 587 dx),(dx,eE w.params t1 t2 t3 tn tb (tk4+4) buf (p+1))]) (mod:=[dx]) (by symm) rfl own (by simp)).1 (R'.at (o:=eE w.params t1 t2 t3 tn tb (tk4+4) buf (p+1)) 4 (by symm))) rfl
 ·refine cI _ (H:=[hLen buf buf.length,iM "int.__ge__" (Int.ofNat p) (Int.ofNat buf.length) false,iM "int.__lt__" (Int.ofNat (p+1)) (Int.ofNat buf.length) true,MJ buf p c]) (aF.cons (rP rfl (by lia)) (aF.cons (sJ (by simp;lia)) (aF.cons (nQ (by simp;lia)) (aF.cons (Ba hc hb2) aF.nil)))) hA R4
   (aC:=[1,2,0,0,0,0,0,0,0,0,2,0,0,0,0,0,0,0,2,2,0,3,1,1,0,0,1,2,0,0,0,0,0,0,0,0,2,0,0,0,0,0,0,0,2,2,0,3,2,1,1,1,1,3,1,0,0,1,1,0,0,1,4,1,1,0,0,1,1,1,1,2,0,0,0,0,0,0,0,0,2,0,0,2,0,2,0,0,0,0,0,0,0,2,0,3,3,3,1,2,0,0,0,0,0,0,0,0,2,0,0,0,0,0,0,0,2,2,0,3,1,1,5,0,0,0,0,0,0,0,1,1,1,1])
   (y:=.ok (.ret (.str (S [c]) (tk4+18)))) (by symm) (fun h' R'=>post h' _ _ _ (R'.done 3 (G':=[(a,inst 587 dx),(dx,eE w.params t1 t2 t3 tn tb (tk4+8) buf (p+1))]) (mod:=[dx]) (by symm) rfl own (by simp)).1 (R'.at (o:=eE w.params t1 t2 t3 tn tb (tk4+8) buf (p+1)) 4 (by symm))) rfl
section
open PySem.Builtin PySem.Builtin.Str
structure RS where
 loc:Nat
 self:Nat
 sd:Nat
 mq:Nat
 sS:Nat
 sU:Nat
 bh:Nat
 kt:Nat→Nat
 vt:Nat→Nat
 st:Value
 ln:Int
 bY:Nat
 tok:Str
 ao:Nat
 qd:Bool
 esc:Value
 nc:Option Value
 fj:Nat
 buf:Str
 p:Nat
 tp:Nat
noncomputable def lits (s:String):Str:=Str.ofString s
def kY (P:Params) (r:RS):Obj:=
 ⟨.type "dict",none,.dict ⟨[dE P (lits "instream") (r.kt 0) (.ref r.mq),dE P (lits "infile") (r.kt 1) .none,dE P (lits "posix") (r.kt 2) (.bool true),dE P (lits "eof") (r.kt 3) .none,
  dE P (lits "commenters") (r.kt 4) (.str (S []) (r.vt 0)),
  dE P (lits "wordchars") (r.kt 5) (.str (lits "abcdfeghijklmnopqrstuvwxyzABCDEFGHIJKLMNOPQRSTUVWXYZ0123456789_ßàáâãäåæçèéêëìíîïðñòóôõöøùúûüýþÿÀÁÂÃÄÅÆÇÈÉÊËÌÍÎÏÐÑÒÓÔÕÖØÙÚÛÜÝÞ") (r.vt 1)),
  dE P (lits "whitespace") (r.kt 6) (.str (S [32,9,13,10]) (r.vt 2)),dE P (lits "whitespace_split") (r.kt 7) (.bool true),dE P (lits "quotes") (r.kt 8) (.str (S [39,34]) (r.vt 3)),
  dE P (lits "escape") (r.kt 9) (.str (S [92]) (r.vt 4)),dE P (lits "escapedquotes") (r.kt 10) (.str (S [34]) (r.vt 5)),dE P (lits "state") (r.kt 11) r.st,dE P (lits "pushback") (r.kt 12) (.ref r.sS),
  dE P (lits "lineno") (r.kt 13) (.int r.ln r.bY),dE P (lits "debug") (r.kt 14) (.int 0 (r.vt 6)),dE P (lits "token") (r.kt 15) (.str r.tok r.ao),dE P (lits "filestack") (r.kt 16) (.ref r.sU),
  dE P (lits "source") (r.kt 17) .none,dE P (lits "_punctuation_chars") (r.kt 18) (.str (S []) (r.vt 7))]⟩ 19,⟨[]⟩⟩
def xK (P:Params) (r:RS):Obj:=
 ⟨.type "frame",none,match r.nc with
  | none=>.dict ⟨[dE P (lits "self") (r.kt 19) (.ref r.self),dE P (lits "quoted") (r.kt 20) (.bool r.qd),dE P (lits "escapedstate") (r.kt 21) r.esc]⟩ 3
  | some v=>.dict ⟨[dE P (lits "self") (r.kt 19) (.ref r.self),dE P (lits "quoted") (r.kt 20) (.bool r.qd),dE P (lits "escapedstate") (r.kt 21) r.esc,dE P (lits "nextchar") r.fj v]⟩ 4,⟨[]⟩⟩
noncomputable def U4:Obj:=⟨.type "collections.deque",none,.fields ⟨[.none,.int 0 0]⟩,⟨[]⟩⟩
def RS.led (P:Params) (r:RS):Led:=
 [(r.loc,xK P r),(r.self,inst 722 r.sd),(r.sd,kY P r),(r.mq,inst 587 r.bh),(r.sS,U4),(r.sU,U4),(r.bh,eE P (r.vt 8) (r.vt 9) (r.vt 10) (r.vt 11) (r.vt 12) r.tp r.buf r.p)]
structure Has (w:World) (h:Heap) (r:RS):Prop where
 own:∀ q∈r.led w.params,h.get? q.1=some q.2
 nd:((r.led w.params).map Prod.fst).Nodup
 lo:∀ q∈r.led w.params,845≤q.1
noncomputable def gG (loc:Nat):Env:={scope:=zq (cm 19 6),locals:=loc,globals:=3,cells:=[],qual:=lits "shlex.read_token.<locals>.",func:=some 690,code:=.ref 689,frame:=some loc,builtins:=0}
noncomputable def bk (loc:Nat):Code:=match gC (iJ (cm 19 6)) 2 with
 | .While t b o _=>.whileLoop t b o (gG loc)
 | _=>default
noncomputable def dg (L:Led) (i j:Nat):Nat:=match L[i]? with
 | some (_,o)=>match o.data with
  | .dict es _=>match es.toList[j]? with
   | some e=>tokV e.val
   | none=>0
  | _=>0
 | none=>0
section
variable {w:World} {g:Array GenState} {d:Drawn} {os:OsState} {A:Around} {R:Result→Shared→Prop}
theorem Bw {h₀ h:Heap} {gv:List Addr} {c₀:Code} {L:Led} {nx tk:Nat} {n:Nat} {c:Code} {aC:List Nat} {H:List Hk} (q:Rs) (HH:aF w H) (hA:A.handled=none) (rep:Rep (K w) h₀ gv L nx h)
  (ok:fU q n c)
  (k:∀ A' h,A'.handled=none→A'.depth=A.depth+n→Rep (K w) h₀ gv q.L q.nx h→codeAny (model pw w) A' c (fun r' s'=>Mn (xc w g d os A R) (aL q) (aR q r') s') ⟨h,g,d,q.tk,os⟩)
  (e:q=xG w H c₀ L nx tk aC):codeAny (model pw w) A c₀ R ⟨h,g,d,tk,os⟩:=by
 subst e
 exact su HH aC hA rep ok.good (j9 hA ok k)
noncomputable abbrev zF (r:Rs) (c:Code):Prop:=lR r=(r.ps.map Prod.snd,r.ts.map Prod.snd,r.cs.map Prod.snd,.go c)
theorem zF.good {r:Rs} {c:Code} (h:zF r c):Good r:=by
 obtain ⟨a,h⟩:=Prod.mk.inj h
 obtain ⟨b,h⟩:=Prod.mk.inj h
 obtain ⟨c,_⟩:=Prod.mk.inj h
 exact Prod.ext a (Prod.ext b c)
theorem zF.ou {r:Rs} {c:Code} (h:zF r c):r.ou=.go c:=(Prod.mk.inj (Prod.mk.inj (Prod.mk.inj h).2).2).2
theorem Ky {h₀ h:Heap} {gv:List Addr} {r:Rs} {x:Result} {c:Code} {L:Led} {nx tk:Nat} {aC:List Nat} {H:List Hk} (q:Rs) (HH:aF w H) (hA:A.handled=none) (rep:Rep (K w) h₀ gv L nx h)
  (ok:zF q c) (k:∀ h,Rep (K w) h₀ gv q.L q.nx h→codeAny (model pw w) A c R ⟨h,g,d,q.tk,os⟩)
  (e:q=aB w H r x L nx tk aC):Mn (xc w g d os A R) (aL r) (aR r x) ⟨h,g,d,tk,os⟩:=by
 subst e
 exact vX HH aC hA rep ok.good (Rb ok.ou k)
end
noncomputable def RS.at (r r':RS):Prop:=(r'.loc,r'.self,r'.sd,r'.mq,r'.sS,r'.sU,r'.bh)=(r.loc,r.self,r.sd,r.mq,r.sS,r.sU,r.bh)
theorem RS.un {r r':RS} {P:Params} (e:r.at r'):∀ p∈r.led P,p.1∈[r.loc,r.sd,r.bh]∨p∈r'.led P:=by
 unfold RS.at at e
 simp only [Prod.mk.injEq] at e
 obtain ⟨e1,e2,e3,e4,e5,e6,e7⟩:=e
 intro p hp
 simp only [RS.led,mem_cons,not_mem_nil,or_false] at hp ⊢
 rw [e1,e2,e3,e4,e5,e6,e7]
 rcases hp with rfl | rfl | rfl | rfl | rfl | rfl | rfl <;> simp
theorem RS.fst {r r':RS} {P:Params} (e:r.at r'):(r'.led P).map Prod.fst=(r.led P).map Prod.fst:=by
 unfold RS.at at e
 simp only [Prod.mk.injEq] at e
 obtain ⟨e1,e2,e3,e4,e5,e6,e7⟩:=e
 simp only [RS.led,map_cons,map_nil]
 rw [e1,e2,e3,e4,e5,e6,e7]
theorem Has.next {w:World} {h h':Heap} {r:RS} {L:Led} {nx:Nat} (H:Has w h r) (R:Rep (K w) h ((r.led w.params).map Prod.fst) L nx h') (m:Nat) (r':RS) (e:L.drop m=r'.led w.params) (ha:r.at r') :
  Keeps [r.loc,r.sd,r.bh] h h'∧Has w h' r':=by
 obtain ⟨a,b⟩:=R.done m e rfl H.own (RS.un ha)
 refine ⟨a,b,by rw [RS.fst ha];exact H.nd,fun q hq=>?_⟩
 have:q.1∈(r.led w.params).map Prod.fst:=by rw [← RS.fst ha];exact mem_map_of_mem hq
 obtain ⟨p,hp,e⟩:=List.mem_map.mp this
 rw [← e];exact H.lo p hp
noncomputable def rQ (L:Led) (i j:Nat):Nat:=match L[i]? with
 | some (_,o)=>match o.data with
  | .dict es _=>match es.toList[j]? with
   | some e=>tokV e.key
   | none=>0
  | _=>0
 | none=>0
theorem Has.nx {w:World} {h h':Heap} {r:RS} {q:Rs} {G:Prop} (H:Has w h r) (R:Rep (K w) h ((r.led w.params).map Prod.fst) q.L q.nx h') (m:Nat) (f:Nat→Nat→Nat→Nat→Nat→Nat→Nat→RS)
  (e:q.L.drop m=(f (dg q.L (m+2) 11) (dg q.L m 2) (dg q.L m 3) (rQ q.L m 3) (dg q.L (m+2) 15) (dg q.L (m+2) 13) (dg q.L (m+6) 2)).led w.params) (ha:∀ a b c d e f' g,r.at (f a b c d e f' g))
  (next:∀ aV aD aH aq ao bY tp,Keeps [r.loc,r.sd,r.bh] h h'→Has w h' (f aV aD aH aq ao bY tp)→G):G:=by
 obtain ⟨a,b⟩:=H.next R m _ e (ha _ _ _ _ _ _ _)
 exact next _ _ _ _ _ _ _ a b
def hB (id:String) (x y:Str) (v:Bool):Hk:=⟨false,fun c _=>(.call (.builtin id) ⟨[.str x (tokV (iK c 0)),.str y (tokV (iK c 1))],[]⟩,default),fun _ _ _=>.bool v,0⟩
section
variable {w:World}
theorem Ig {x y:Str} {v:Bool} (hv:(x.cps.toList == y.cps.toList)=v):gB pw w (K w) (hB "str.__eq__" x y v):=by
 intro g d os A R h tk c p hA e _ _ post
 obtain ⟨ec,_⟩:=Prod.mk.inj e
 rw [ec]
 refine dw F.slot_str_eq (typeIs_str _ _ _) F.entry_str_eq (F.args_str_eq_2 _ _) (gives_str_eq x y _ _) ?_
 rw [hv];exact dN post
theorem Ii {x y:Str} {v:Bool} (hv:(x.cps.toList != y.cps.toList)=v):gB pw w (K w) (hB "str.__ne__" x y v):=by
 intro g d os A R h tk c p hA e _ _ post
 obtain ⟨ec,_⟩:=Prod.mk.inj e
 rw [ec]
 refine dw F.slot_str_ne (typeIs_str _ _ _) F.entry_str_ne (F.args_str_ne_2 _ _) (gives_str_ne x y _ _) ?_
 rw [hv];exact dN post
theorem MK {x y:Str} {v:Bool} (hv:(!(occurrences x y 0 x.length 1).isEmpty)=v):gB pw w (K w) (hB "str.__contains__" x y v):=by
 intro g d os A R h tk c p hA e _ _ post
 obtain ⟨ec,_⟩:=Prod.mk.inj e
 rw [ec]
 refine dw F.slot_str_contains (typeIs_str _ _ _) F.entry_str_contains (F.args_str_contains_2 _ _) (gives_str_contains x y _ _) ?_
 rw [hv];exact dN post
def nY:Hk:=⟨true,fun cd q=>(.call (.builtin "tuple.__contains__") ⟨[.ref q.1,.str (S [97]) (tokV (iK cd 1))],[]⟩,
 ⟨.type "tuple",none,.seq ⟨[.str (S [97]) (match q.2.data with | .seq ⟨[a,_]⟩ _=>tokV a | _=>0),.str (S [99]) (match q.2.data with | .seq ⟨[_,a]⟩ _=>tokV a | _=>0)]⟩ (match q.2.data with | .seq _ n=>n | _=>0),⟨[]⟩⟩),fun _ _ _=>.bool true,0⟩
theorem eO:gB pw w (K w) nY:=by
 intro g d os A R h tk cd q hA e _ ho post
 obtain ⟨ec,eo⟩:=Prod.mk.inj e
 have hq:=ho rfl
 rw [ec]
 have ht:IsTup h q.1 ⟨[.str (S [97]) (match q.2.data with | .seq ⟨[a,_]⟩ _=>tokV a | _=>0),.str (S [99]) (match q.2.data with | .seq ⟨[_,a]⟩ _=>tokV a | _=>0)]⟩:=⟨q.2,hq,congrArg Obj.cls eo,_,congrArg Obj.data eo⟩
 refine codeAny_call_builtin slot_tuple_contains.plain entry_tuple_contains (slot_tuple_contains.check _ _ _ _ _ _ _ _ ht.typeIs (args_tuple_contains _ _) ?_)
 exact tuple_contains_strs ht (.cons _ _ (.cons _ _ .nil)) (dN post)
noncomputable def Rg (c:Code) (i:Nat):Value:=match c with | .builtin _ a=>(a.pos[i]?).getD .none | _=>.none
def Bb (x:Str) (n:Nat):Hk:=⟨false,fun c _=>(.builtin "len" ⟨[.str x (tokV (Rg c 0))],[]⟩,default),fun _ _ tk=>.int (Int.ofNat n) (tk+1),2⟩
theorem Fq {x:Str} {n:Nat} (hn:x.length=n) (hx:n<2 ^ 63):gB pw w (K w) (Bb x n):=by
 subst hn
 intro g d os A R h tk c p hA e _ _ post
 obtain ⟨ec,_⟩:=Prod.mk.inj e
 rw [ec]
 refine codeAny_builtinAt entry_len (wpAt_of_wpAny ?_)
 refine yZ (tokV (Rg c 0)) fun t=>?_
 unfold Builtin.«len»
 refine wpAny_bind (m:=oneArg "len" _) (wpAny_pure ?_)
 refine wpAny_bind (m:=callSpecial? (.str x t) (Str.ofString "__len__")) (wpAny_callSpecial?_slot (name:=Str.ofString "__len__") (typeIs_str _ x t) F.slot_str_len (call_gives F.slot_str_len (typeIs_str _ x t) F.entry_str_len (F.args_str_len_1 _) (gives_str_len x t) ?_))
 show wpAny _ _ _ _ _ ⟨h,g,d,tk+1,os⟩
 refine wpAny_bind (wpAny_holding (wpAny_pure ?_))
 refine wpAny_bind (wpAny_letGo ?_)
 show wpAny _ _ (if (x.length:Int)<0 then _ else _) _ _ _
 rw [if_neg (by lia)]
 show wpAny _ _ (if (x.length:Int) ≥ 2 ^ 63 then _ else _) _ _ _
 rw [if_neg (by lia)]
 exact wpAny_bind (wpAny_mkInt (wpAny_pure (dN post)))
theorem Rh {x0:Nat} {xs:List Nat} (hl:xs.length<9000):gB pw w (K w) (Bb (S (x0::xs)) (xs.length+1)):=Fq (by simp [S,Str.length]) (by lia)
theorem zG {l:List Nat} {f:Nat→Bool} {v:Bool} {c:Nat} (hc:c∈l) (e:l.all (fun c=>f c == v)=true):f c=v:=by
 have:=List.all_eq_true.mp e c hc
 simpa using this
theorem inO {x:Str} {l:List Nat} {c:Nat} {v:Bool} (hc:c∈l) (e:l.all (fun c=>(!(occurrences x (S [c]) 0 x.length 1).isEmpty) == v)=true):gB pw w (K w) (hB "str.__contains__" x (S [c]) v):=MK (zG (f:=fun c=>!(occurrences x (S [c]) 0 x.length 1).isEmpty) hc e)
theorem inC {x:Str} {l:List Nat} {c:Nat} {v:Bool} {H:List Hk} (hc:c∈l) (e:l.all (fun c=>(!(occurrences x (S [c]) 0 x.length 1).isEmpty) == v)=true) (r:aF w H):aF w (hB "str.__contains__" x (S [c]) v::H):=.cons (inO hc e) r
theorem kZ {y:Nat} {l:List Nat} {c:Nat} {v:Bool} (hc:c∈l) (e:l.all (fun c=>([c] == [y]) == v)=true):gB pw w (K w) (hB "str.__eq__" (S [c]) (S [y]) v):=Ig (zG (f:=fun c=>[c] == [y]) hc e)
theorem U5 {y:Nat} {l:List Nat} {c:Nat} {v:Bool} (hc:c∈l) (e:l.all (fun c=>([c] != [y]) == v)=true):gB pw w (K w) (hB "str.__ne__" (S [c]) (S [y]) v):=Ii (zG (f:=fun c=>[c] != [y]) hc e)
theorem lK {x0:Nat} {xs:List Nat} {y:Nat} (hl:xs.length<10000):gB pw w (K w) (hAdd (S (x0::xs)) (S [y]) (S (x0::(xs++[y])))):=mG rfl (by simp [S]) (by simp [S]) (by simp [S,Str.length,sizeLine];lia)
end
end
def Kz (w:World) (n tk:Nat) (r:RS):Rs:=xG w [] (bk r.loc) (r.led w.params) n tk (og 0x110000000000002000021)
def tq2 (w:World) (n tk:Nat) (r:RS) (q:Rs):Rs:=aB w [] q (.ok (.ret (.str (S []) (r.vt 7)))) q.L n tk (og 0x1107400004000000040000000430220002000021000)
theorem jT {r:RS} (hA:A.handled=none) (hD:A.depth<recursionLimit) (k:au w h) (H:h.get? r.self=some (inst 722 r.sd)∧h.get? r.sd=some (kY w.params r)∧845≤r.self∧845≤r.sd∧r.self≠r.sd)
  (post:∀ h' tk',Keeps [] h h'→R (.ok (.ret (.str (S []) (r.vt 7)))) ⟨h',g,d,tk',os⟩) :
  codeAny (model pw w) A (.call (.ref 653) ⟨[.ref r.self],[]⟩) R ⟨h,g,d,tk,os⟩:=by
 obtain ⟨g1,g2,l1,l2,ne⟩:=H
 have own:∀ q∈([(r.self,inst 722 r.sd),(r.sd,kY w.params r)]:Led),h.get? q.1=some q.2:=by simp [g1,g2]
 exact bV (aQ w [] 653 (QM w.params) ⟨[.ref r.self],[]⟩ [(r.self,inst 722 r.sd),(r.sd,kY w.params r)] h.objs.size tk [0,1,1] (og 0x130220002000021)) .nil hA hD (Rep.start k own (lG ne) (by simp [l1,l2])) (y:=.ok (.ret (.str (S []) (r.vt 7))))
  (by symm) (by symm) (by symm) (fun h' R'=>post h' _ (R'.done 1 (G':=[(r.self,inst 722 r.sd),(r.sd,kY w.params r)]) (mod:=[]) (by symm) rfl own (fun p hp=>.inr hp)).1) rfl
theorem Has.sub {w:World} {h h1:Heap} {r:RS} {gv:List Addr} {n nx:Nat} (H:Has w h r) (R:Rep (K w) h gv (Kz w n tk r).L nx h1) (e:(Kz w n tk r).L[1]? = some (r.self,inst 722 r.sd)∧(Kz w n tk r).L[2]? = some (r.sd,kY w.params r):=by exact ⟨by symm,by symm⟩) :
  h1.get? r.self=some (inst 722 r.sd)∧h1.get? r.sd=some (kY w.params r)∧845≤r.self∧845≤r.sd∧r.self≠r.sd:=by
 have lo:=H.lo
 have nd:=H.nd
 simp only [RS.led,mem_cons,not_mem_nil,or_false,forall_eq_or_imp,forall_eq,map_cons,map_nil,nodup_cons,not_or] at lo nd
 exact ⟨R.at 1 e.1,R.at 2 e.2,lo.2.1,lo.2.2.1,nd.2.1.1⟩
noncomputable def KC:Str:=lits "abcdfeghijklmnopqrstuvwxyzABCDEFGHIJKLMNOPQRSTUVWXYZ0123456789_ßàáâãäåæçèéêëìíîïðñòóôõöøùúûüýþÿÀÁÂÃÄÅÆÇÈÉÊËÌÍÎÏÐÑÒÓÔÕÖØÙÚÛÜÝÞ"
abbrev hI (l x:Str) (v:Bool):Hk:=hB "str.__contains__" l x v
abbrev hE (x y:Str) (v:Bool):Hk:=hB "str.__eq__" x y v
abbrev hN (x y:Str) (v:Bool):Hk:=hB "str.__ne__" x y v
noncomputable abbrev TN (w:World) (h:Heap) (r:RS) (f:Nat→Nat→Nat→Nat→Nat→Nat→Nat→RS) (P:Heap→Nat→Prop):Prop:=∀ h' tk' (aV aD aH aq ao bY tp:Nat),Keeps [r.loc,r.sd,r.bh] h h'→Has w h' (f aV aD aH aq ao bY tp)→P h' tk'
noncomputable abbrev TG (r:RS) (c:Nat) (f:Nat→Nat→Nat→Nat→Nat→Nat→Nat→RS) (again:Bool):Prop:=∀ {w:World} {g:Array GenState} {d:Drawn} {os:OsState} {A:Around} {R:Result→Shared→Prop} {h:Heap} {tk:Nat},A.handled=none→A.depth+4<recursionLimit→au w h→Has w h r→r.buf.cps.toList[r.p]? = some c→r.buf.length<1000→2≤r.buf.length →
  TN w h r f (fun h' tk'=>match again with | true=>codeAny (model pw w) A (bk r.loc) R ⟨h',g,d,tk',os⟩ | false=>R (.ok .next) ⟨h',g,d,tk',os⟩)→codeAny (model pw w) A (bk r.loc) R ⟨h,g,d,tk,os⟩
noncomputable abbrev TE (r:RS) (f:Nat→Nat→Nat→Nat→Nat→Nat→Nat→RS):Prop:=∀ {w:World} {g:Array GenState} {d:Drawn} {os:OsState} {A:Around} {R:Result→Shared→Prop} {h:Heap} {tk:Nat},A.handled=none→A.depth+4<recursionLimit→au w h→Has w h r→r.p=r.buf.length→r.buf.length<1000→2≤r.buf.length →
  TN w h r f (fun h' tk'=>R (.ok .next) ⟨h',g,d,tk',os⟩)→codeAny (model pw w) A (bk r.loc) R ⟨h,g,d,tk,os⟩
def tL (w:World) (r:RS) (q:Rs) (p tp:Nat):Led:=q.L.set 6 (r.bh,eE w.params (r.vt 8) (r.vt 9) (r.vt 10) (r.vt 11) (r.vt 12) tp r.buf p)
def za (w:World) (r:RS) (n tk n2 tk2:Nat):Rs:=tq2 w (n2+845) tk2 r (Kz w (n+845) tk r)
def tqE (w:World) (H:List Hk) (r:RS) (n tk n2 tk2 n4 tk4 t4:Nat) (aC:List Nat):Rs:=aB w H (za w r n tk n2 tk2) (.ok (.ret (.str (S []) t4))) (za w r n tk n2 tk2).L (n4+845) tk4 aC
def Bx (w:World) (H:List Hk) (r:RS) (c n tk n2 tk2 n4 tk4 t4 qG:Nat) (aC:List Nat):Rs:=aB w H (za w r n tk n2 tk2) (.ok (.ret (.str (S [c]) t4))) (tL w r (za w r n tk n2 tk2) (r.p+1) qG) (n4+845) tk4 aC
def tqP (w:World) (H:List Hk) (r:RS) (q:Rs) (n6 lg:Nat) (aC:List Nat):Rs:=aB w H q (.ok (.ret (.str (S []) (r.vt 7)))) q.L (n6+845) lg aC
noncomputable abbrev Ij (w:World) (q:Rs) (m:Nat) (f:Nat→Nat→Nat→Nat→Nat→Nat→Nat→RS):Prop:=q.L.drop m=(f (dg q.L (m+2) 11) (dg q.L m 2) (dg q.L m 3) (rQ q.L m 3) (dg q.L (m+2) 15) (dg q.L (m+2) 13) (dg q.L (m+6) 2)).led w.params
theorem Has.two {r:RS} (H:Has w h r):845≤r.self∧845≤r.sd∧r.self≠r.sd∧845≤r.mq∧845≤r.bh∧r.mq≠r.bh:=by
 have lo:=H.lo
 have nd:=H.nd
 simp only [RS.led,mem_cons,not_mem_nil,or_false,forall_eq_or_imp,forall_eq,map_cons,map_nil,nodup_cons,not_or] at lo nd
 exact ⟨lo.2.1,lo.2.2.1,nd.2.1.1,lo.2.2.2.1,lo.2.2.2.2.2.2,nd.2.2.2.1.2.2⟩
theorem ab0 {r:RS} {n tk:Nat}:(Kz w (n+845) tk r).L[1]? = some (r.self,inst 722 r.sd)∧(Kz w (n+845) tk r).L[2]? = some (r.sd,kY w.params r):=by obtain ⟨a1,a2,a3,a4,a5,a6,a7,a8,a9,b1,b2,b3,b4,b5,b6,b7,b8,b9,c1,c2,c3⟩:=r;cases b8 <;> exact ⟨by symm,by symm⟩
theorem ab1 {r:RS} {n tk:Nat}:fU (Kz w (n+845) tk r) 0 (.call (.ref 653) ⟨[.ref r.self],[]⟩):=by obtain ⟨a1,a2,a3,a4,a5,a6,a7,a8,a9,b1,b2,b3,b4,b5,b6,b7,b8,b9,c1,c2,c3⟩:=r;cases b8 <;> symm
theorem ab2 {r:RS} {n tk n2 tk2:Nat}:fU (za w r n tk n2 tk2) 0 (.call (.ref 533) ⟨[.ref r.mq,.int 1 (tk2+3)],[]⟩):=by obtain ⟨a1,a2,a3,a4,a5,a6,a7,a8,a9,b1,b2,b3,b4,b5,b6,b7,b8,b9,c1,c2,c3⟩:=r;cases b8 <;> symm
theorem Ri {r:RS} {n tk n2 tk2:Nat}:(za w r n tk n2 tk2).L[3]? = some (r.mq,inst 587 r.bh):=by obtain ⟨a1,a2,a3,a4,a5,a6,a7,a8,a9,b1,b2,b3,b4,b5,b6,b7,b8,b9,c1,c2,c3⟩:=r;cases b8 <;> symm
theorem MN {r:RS} {n tk n2 tk2:Nat}:(za w r n tk n2 tk2).L[6]? = some (r.bh,eE w.params (r.vt 8) (r.vt 9) (r.vt 10) (r.vt 11) (r.vt 12) r.tp r.buf r.p):=by obtain ⟨a1,a2,a3,a4,a5,a6,a7,a8,a9,b1,b2,b3,b4,b5,b6,b7,b8,b9,c1,c2,c3⟩:=r;cases b8 <;> symm
theorem Ft {r:RS} (hA:A.handled=none) (hD:A.depth+4<recursionLimit) (k:au w h) (H:Has w h r)
  (fin:∀ n0 n2 tk2 A3 h3,A3.handled=none→A3.depth=A.depth+0→Rep (K w) h ((r.led w.params).map Prod.fst) (za w r n0 tk n2 tk2).L (za w r n0 tk n2 tk2).nx h3 →
   codeAny (model pw w) A3 (.call (.ref 533) ⟨[.ref r.mq,.int 1 (tk2+3)],[]⟩) (fun r' s'=>Mn (xc w g d os A R) (aL (za w r n0 tk n2 tk2)) (aR (za w r n0 tk n2 tk2) r') s') ⟨h3,g,d,(za w r n0 tk n2 tk2).tk,os⟩) :
  codeAny (model pw w) A (bk r.loc) R ⟨h,g,d,tk,os⟩:=by
 obtain ⟨n0,R0⟩:=(Rep.start k H.own H.nd H.lo).up
 refine Bw (Kz w (n0+845) tk r) .nil hA R0 (n:=0) (c:=.call (.ref 653) ⟨[.ref r.self],[]⟩) ab1 ?_ rfl
 intro A1 h1 bT hD1 R1
 refine jT (r:=r) bT (by lia) R1.old (H.sub R1 ab0) ?_
 intro h2 tk2 K2
 obtain ⟨n2,R2⟩:=(R1.after0 K2).up
 exact mD (za w r n0 tk n2 tk2) .nil hA R2 (n:=0) ab2 (fun A3 h3 a b c=>fin n0 n2 tk2 A3 h3 a b c) rfl
theorem zH {r:RS} {c:Nat} (hA:A.handled=none) (hD:A.depth+4<recursionLimit) (k:au w h) (H:Has w h r) (hch:r.buf.cps.toList[r.p]? = some c) (hb:r.buf.length<1000) (hb2:2≤r.buf.length)
  (fin:∀ n0 n2 tk2 n4 tk4 t4 qG h4,Rep (K w) h ((r.led w.params).map Prod.fst) (tL w r (za w r n0 tk n2 tk2) (r.p+1) qG) (n4+845) h4 →
   Mn (xc w g d os A R) (aL (za w r n0 tk n2 tk2)) (aR (za w r n0 tk n2 tk2) (.ok (.ret (.str (S [c]) t4)))) ⟨h4,g,d,tk4,os⟩) :
  codeAny (model pw w) A (bk r.loc) R ⟨h,g,d,tk,os⟩:=Ft hA hD k H fun n0 n2 tk2 A3 h3 iY lJ R3=>by
 obtain ⟨_,_,_,Fv,Ph,Fw⟩:=H.two
 refine zE iY (by lia) R3.old Fv Ph Fw (R3.at 3 Ri) (R3.at 6 MN) hch hb hb2 ?_
 intro h4 tk4 t4 qG K4 G4
 obtain ⟨n4,R4⟩:=(R3.after1 6 MN K4 Ph G4).up
 exact fin _ _ _ _ _ _ _ _ R4
section
variable {r:RS} {Hs:List Hk} {m:Nat} {f:Nat→Nat→Nat→Nat→Nat→Nat→Nat→RS} {aC Ik:List Nat}
theorem aN {c:Nat} (m:Nat) (aC:List Nat) (HH:∀ w,aF w Hs)
  (ok:∀ w tk n n2 tk2 n4 tk4 t4 qG,zF (Bx w Hs r c n tk n2 tk2 n4 tk4 t4 qG aC) (bk r.loc)∧Ij w (Bx w Hs r c n tk n2 tk2 n4 tk4 t4 qG aC) m f) (ha:∀ a b c d e f' g,r.at (f a b c d e f' g)):TG r c f true:=fun hA hD k H hch hb hb2 next=>zH hA hD k H hch hb hb2 fun n n2 tk2 n4 tk4 t4 qG h4 R4=>
 Ky (Bx _ Hs r c n _ n2 tk2 n4 tk4 t4 qG aC) (HH _) hA R4 (ok _ _ _ _ _ _ _ _ _).1 (fun h' R'=>H.nx R' m f (ok _ _ _ _ _ _ _ _ _).2 ha (next h' _)) rfl
theorem rR {c:Nat} (m:Nat) (aC:List Nat) (HH:∀ w,aF w Hs)
  (ok:∀ w tk n n2 tk2 n4 tk4 t4 qG,uI (Bx w Hs r c n tk n2 tk2 n4 tk4 t4 qG aC) (.ok .next)∧Ij w (Bx w Hs r c n tk n2 tk2 n4 tk4 t4 qG aC) m f) (ha:∀ a b c d e f' g,r.at (f a b c d e f' g)):TG r c f false:=fun hA hD k H hch hb hb2 next=>zH hA hD k H hch hb hb2 fun n n2 tk2 n4 tk4 t4 qG h4 R4=>
 cI (Bx _ Hs r c n _ n2 tk2 n4 tk4 t4 qG aC) (HH _) hA R4 (ok _ _ _ _ _ _ _ _ _).1 (fun h' R'=>H.nx R' m f (ok _ _ _ _ _ _ _ _ _).2 ha (next h' _)) rfl
theorem iU {c:Nat} (m:Nat) (aC Ik:List Nat) (HH:∀ w,aF w Hs)
  (ok:∀ w tk n n2 tk2 n4 tk4 t4 qG,fU (Bx w Hs r c n tk n2 tk2 n4 tk4 t4 qG aC) 0 (.call (.ref 653) ⟨[.ref r.self],[]⟩)∧(Bx w Hs r c n tk n2 tk2 n4 tk4 t4 qG aC).L[m+1]? = some (r.self,inst 722 r.sd)∧(Bx w Hs r c n tk n2 tk2 n4 tk4 t4 qG aC).L[m+2]? = some (r.sd,kY w.params r))
  (ok2:∀ w tk n n2 tk2 n4 tk4 t4 qG n6 lg,zF (tqP w Hs r (Bx w Hs r c n tk n2 tk2 n4 tk4 t4 qG aC) n6 lg Ik) (bk r.loc)∧Ij w (tqP w Hs r (Bx w Hs r c n tk n2 tk2 n4 tk4 t4 qG aC) n6 lg Ik) m f) (ha:∀ a b c d e f' g,r.at (f a b c d e f' g)):TG r c f true:=fun hA hD k H hch hb hb2 next=>zH hA hD k H hch hb hb2 fun n n2 tk2 n4 tk4 t4 qG h4 R4=>by
 obtain ⟨lo2,BJ,MP,_⟩:=H.two
 obtain ⟨o1,o2,o3⟩:=ok _ _ n n2 tk2 n4 tk4 t4 qG
 refine mD (Bx _ Hs r c n _ n2 tk2 n4 tk4 t4 qG aC) (HH _) hA R4 (n:=0) o1 ?_ rfl
 intro A5 h5 vY xM R5
 refine jT (r:=r) vY (by lia) R5.old ⟨R5.at _ o2,R5.at _ o3,lo2,BJ,MP⟩ ?_
 intro h6 lg K6
 obtain ⟨n6,R6⟩:=(R5.after0 K6).up
 exact Ky (tqP _ Hs r (Bx _ Hs r c n _ n2 tk2 n4 tk4 t4 qG aC) n6 lg Ik) (HH _) hA R6 (ok2 _ _ _ _ _ _ _ _ _ _ _).1 (fun h' R'=>H.nx R' m f (ok2 _ _ _ _ _ _ _ _ _ _ _).2 ha (next h' _)) rfl
theorem vZ (m:Nat) (aC:List Nat) (HH:∀ w,aF w Hs)
  (ok:∀ w tk n n2 tk2 n4 tk4 t4,uI (tqE w Hs r n tk n2 tk2 n4 tk4 t4 aC) (.ok .next)∧Ij w (tqE w Hs r n tk n2 tk2 n4 tk4 t4 aC) m f) (ha:∀ a b c d e f' g,r.at (f a b c d e f' g)):TE r f:=fun hA hD k H hch hb hb2 next=>Ft hA hD k H fun n n2 tk2 A3 h3 iY lJ R3=>by
 obtain ⟨_,_,_,Fv,Ph,Fw⟩:=H.two
 refine sO iY (by lia) R3.old Fv Ph Fw (R3.at 3 Ri) (R3.at 6 MN) hch hb ?_
 intro h4 tk4 t4 K4
 obtain ⟨n4,R4⟩:=(R3.after0 K4).up
 exact cI (tqE _ Hs r n _ n2 tk2 n4 tk4 t4 aC) (HH _) hA R4 (ok _ _ _ _ _ _ _ _).1 (fun h' R'=>H.nx R' m f (ok _ _ _ _ _ _ _ _).2 ha (next h' _)) rfl
end
theorem qH {r:RS} {ts te:Nat} {nv:Value} {c:Nat} (hc:c∈[97,98,120,233]):TG {r with st:=.str (S [32]) ts,nc:=none,tok:=S [],qd:=false} c (fun aV _ aH aq ao _ tp=>{r with st:=.str (S [97]) aV,nc:=some (.str (S [c]) aH),tok:=S [c],qd:=false,fj:=aq,p:=r.p+1,tp:=tp,ao:=ao}) true:=
 aN (Hs:=[hE (S [c]) (S [10]) false,hI (S [32,9,13,10]) (S [c]) false,hI (S []) (S [c]) false,hI (S [92]) (S [c]) false,hI KC (S [c]) true]) 0 (og 0x1133302000202002000021333020002020020000211630220002000021153022000200002113022000200002143022000200002113302200020000211000100302200020000213022000200002100302200020000212111) (fun _=>aF.cons (kZ hc (by symm)) (inC hc (by symm) (inC hc (by symm) (inC hc (by symm) (inC hc (by symm) (aF.nil)))))) (fun _ _ _ _ _ _ _ _ _=>⟨by symm,by symm⟩) (by intros;rfl)
theorem nZ {r:RS} {ts te:Nat} {nv:Value}:TE {r with st:=.str (S [97]) ts,nc:=some nv} (fun _ _ aH aq _ _ _=>{r with st:=.none,nc:=some (.str (S []) aH),fj:=aq}):=
 vZ (Hs:=[nY]) 1 (og 0x1444030003030030000320002021130220002000021003022000200002130220002000021003022000200002130220002000021003022000200002130220002000021003022000200002100111) (fun _=>aF.cons (eO) (aF.nil)) (fun _ _ _ _ _ _ _ _=>⟨by symm,by symm⟩) (by intros;rfl)
theorem jh {r:RS} {ts te:Nat} {nv:Value}:TG {r with st:=.str (S [34]) ts,nc:=some nv} 92 (fun aV aD aH aq _ _ tp=>{r with st:=.str (S [92]) aV,nc:=some (.str (S [92]) aH),fj:=aq,p:=r.p+1,tp:=tp,qd:=true,esc:=.str (S [34]) aD}) true:=
 aN (Hs:=[]) 0 (og 0x113330200020200200002111130220002000021003022000200002130220002000021003022000200002113022000200002100302200020000211000111003022000200002130220002000021003022000200002130220002000021003022000200002100111) (fun _=>aF.nil) (fun _ _ _ _ _ _ _ _ _=>⟨by symm,by symm⟩) (by intros;rfl)
theorem oh {r:RS} {ts te:Nat} {nv:Value} {x0:Nat} {xs:List Nat} (hl:xs.length<9000):TG {r with st:=.str (S [34]) ts,nc:=some nv,tok:=S (x0::xs)} 10 (fun _ _ aH aq ao bY tp=>{r with st:=.str (S [34]) ts,nc:=some (.str (S [10]) aH),tok:=(S (x0::(xs++[10]))),fj:=aq,p:=r.p+1,tp:=tp,ln:=r.ln+1,bY:=bY,qd:=true,ao:=ao}) true:=
 aN (Hs:=[hAdd (S (x0::xs)) (S [10]) (S (x0::(xs++[10])))]) 0 (og 0x113330200020200200002213022000200002100302200020000211302200020000210030220002000021100011100302200020000213022000200002100302200020000213022000200002100302200020000213330200020200200002003022000200002100111) (fun _=>aF.cons (lK (by lia)) (aF.nil)) (fun _ _ _ _ _ _ _ _ _=>⟨by symm,by symm⟩) (by intros;rfl)
theorem oA {r:RS} {ts te:Nat} {nv:Value} {x0:Nat} {xs:List Nat} (hl:xs.length<9000):TG {r with st:=.str (S [92]) ts,nc:=some nv,esc:=.str (S [34]) te,tok:=S (x0::xs)} 92 (fun aV _ aH aq ao _ tp=>{r with st:=.str (S [34]) aV,nc:=some (.str (S [92]) aH),esc:=.str (S [34]) te,tok:=(S (x0::(xs++[92]))),fj:=aq,p:=r.p+1,tp:=tp,ao:=ao}) true:=
 aN (Hs:=[hAdd (S (x0::xs)) (S [92]) (S (x0::(xs++[92])))]) 0 (og 0x113330200020200200002113330200020200200002213022000200002100302200020000211003022000200002110001003022000200002130220002000021003022000200002130220002000021003022000200002130220002000021003022000200002100111) (fun _=>aF.cons (lK (by lia)) (aF.nil)) (fun _ _ _ _ _ _ _ _ _=>⟨by symm,by symm⟩) (by intros;rfl)
theorem qI {r:RS} {ts te:Nat} {nv:Value} {c:Nat} (hc:c∈[97,98,120,233]):TG {r with st:=.str (S [32]) ts,nc:=some nv,tok:=S [],qd:=false} c (fun aV _ aH aq ao _ tp=>{r with st:=.str (S [97]) aV,nc:=some (.str (S [c]) aH),tok:=S [c],qd:=false,fj:=aq,p:=r.p+1,tp:=tp,ao:=ao}) true:=
 aN (Hs:=[hE (S [c]) (S [10]) false,hI (S [32,9,13,10]) (S [c]) false,hI (S []) (S [c]) false,hI (S [92]) (S [c]) false,hI KC (S [c]) true]) 0 (og 0x1133302000202002000021333020002020020000211630220002000021153022000200002113022000200002143022000200002113302200020000211000100302200020000213022000200002100302200020000212111) (fun _=>aF.cons (kZ hc (by symm)) (inC hc (by symm) (inC hc (by symm) (inC hc (by symm) (inC hc (by symm) (aF.nil)))))) (fun _ _ _ _ _ _ _ _ _=>⟨by symm,by symm⟩) (by intros;rfl)
theorem oE {r:RS} {ts te:Nat} {nv:Value}:TG {r with st:=.str (S [92]) ts,nc:=some nv,esc:=.str (S [97]) te,tok:=S []} 10 (fun aV _ aH aq ao bY tp=>{r with st:=.str (S [97]) aV,nc:=some (.str (S [10]) aH),esc:=.str (S [97]) te,tok:=(S [10]),fj:=aq,p:=r.p+1,tp:=tp,ln:=r.ln+1,bY:=bY,ao:=ao}) true:=
 aN (Hs:=[]) 0 (og 0x1133302000202002000021133302000202002000020013022000200002100302200020000211000100302200020000213022000200002100302200020000213022000200002100302200020000213022000200002100302200020000213330200020200200002003022000200002100111) (fun _=>aF.nil) (fun _ _ _ _ _ _ _ _ _=>⟨by symm,by symm⟩) (by intros;rfl)
theorem sV {r:RS} {ts te:Nat} {nv:Value} {c:Nat} (hc:c∈[32,9,13]) {x0:Nat} {xs:List Nat} (hl:xs.length<9000):TG {r with st:=.str (S [97]) ts,nc:=some nv,tok:=S (x0::xs)} c (fun aV _ aH aq _ _ tp=>{r with st:=.str (S [32]) aV,nc:=some (.str (S [c]) aH),tok:=S (x0::xs),fj:=aq,p:=r.p+1,tp:=tp}) false:=
 rR (Hs:=[hE (S [c]) (S [10]) false,nY,hI (S [32,9,13,10]) (S [c]) true,Bb (S (x0::xs)) (xs.length+1)]) 1 (og 0x15403300030000324440300030300300003200403300030000324403300030000322000203113022000200002100302200020000213022000200002100302200020000213022000200002100302200020000213022000200002100302200020000212111) (fun _=>aF.cons (kZ hc (by symm)) (aF.cons (eO) (inC hc (by symm) (aF.cons (Rh hl) (aF.nil))))) (fun _ _ _ _ _ _ _ _ _=>⟨by symm,by symm⟩) (by intros;rfl)
theorem lu {r:RS} {ts te:Nat} {nv:Value}:TE {r with st:=.none,nc:=none,tok:=S [],qd:=false} (fun _ _ aH aq ao _ _=>{r with st:=.none,nc:=some (.str (S []) aH),tok:=S [],qd:=false,fj:=aq,ao:=ao}):=
 vZ (Hs:=[]) 0 (og 0x13330200020200200002130220002000021003022000200002100111) (fun _=>aF.nil) (fun _ _ _ _ _ _ _ _=>⟨by symm,by symm⟩) (by intros;rfl)
theorem qJ {r:RS} {ts te:Nat} {nv:Value} {c:Nat} (hc:c∈[32,9,13,39,97,98,120,233,35,36,160]):TG {r with st:=.str (S [92]) ts,nc:=some nv,esc:=.str (S [34]) te,tok:=S []} c (fun aV _ aH aq ao _ tp=>{r with st:=.str (S [34]) aV,nc:=some (.str (S [c]) aH),esc:=.str (S [34]) te,tok:=(S [92,c]),fj:=aq,p:=r.p+1,tp:=tp,ao:=ao}) true:=
 aN (Hs:=[hE (S [c]) (S [10]) false,hN (S [c]) (S [92]) true,hN (S [c]) (S [34]) true]) 0 (og 0x113330200020200200002113330200020200200002001302200020000213330200020200200002003022000200002130220002000021411330220002000021100302200020000211000100302200020000213022000200002100302200020000213022000200002100302200020000213022000200002100302200020000212111) (fun _=>aF.cons (kZ hc (by symm)) (aF.cons (U5 hc (by symm)) (aF.cons (U5 hc (by symm)) (aF.nil)))) (fun _ _ _ _ _ _ _ _ _=>⟨by symm,by symm⟩) (by intros;rfl)
theorem jE {r:RS} {ts te:Nat} {nv:Value}:TG {r with st:=.str (S [97]) ts,nc:=some nv} 92 (fun aV aD aH aq _ _ tp=>{r with st:=.str (S [92]) aV,nc:=some (.str (S [92]) aH),fj:=aq,p:=r.p+1,tp:=tp,esc:=.str (S [97]) aD}) true:=
 aN (Hs:=[nY]) 1 (og 0x114440300030300300003222200403300030000322403300030000320040330003000032240330003000032004033000300003200403300030000322004033000300003220002021130220002000021003022000200002130220002000021003022000200002130220002000021003022000200002130220002000021003022000200002100111) (fun _=>aF.cons (eO) (aF.nil)) (fun _ _ _ _ _ _ _ _ _=>⟨by symm,by symm⟩) (by intros;rfl)
theorem oF {r:RS} {ts te:Nat} {nv:Value}:TG {r with st:=.str (S [92]) ts,nc:=some nv,esc:=.str (S [34]) te,tok:=S []} 34 (fun aV _ aH aq ao _ tp=>{r with st:=.str (S [34]) aV,nc:=some (.str (S [34]) aH),esc:=.str (S [34]) te,tok:=(S [34]),fj:=aq,p:=r.p+1,tp:=tp,ao:=ao}) true:=
 aN (Hs:=[]) 0 (og 0x11333020002020020000211333020002020020000200130220002000021001100302200020000211003022000200002110001003022000200002130220002000021003022000200002130220002000021003022000200002130220002000021003022000200002100111) (fun _=>aF.nil) (fun _ _ _ _ _ _ _ _ _=>⟨by symm,by symm⟩) (by intros;rfl)
theorem qK {r:RS} {ts te:Nat} {nv:Value}:TG {r with st:=.str (S [97]) ts,nc:=some nv,tok:=S [],qd:=true} 10 (fun aV _ aH aq _ bY tp=>{r with st:=.str (S [32]) aV,nc:=some (.str (S [10]) aH),tok:=S [],qd:=true,fj:=aq,p:=r.p+1,tp:=tp,ln:=r.ln+1,bY:=bY}) false:=
 rR (Hs:=[nY]) 1 (og 0x12403300030000320004033000300003244403000303003000032004033000300003200403300030000322000202113022000200002100302200020000213022000200002100302200020000213022000200002100302200020000213022000200002100302200020000213330200020200200002003022000200002100111) (fun _=>aF.cons (eO) (aF.nil)) (fun _ _ _ _ _ _ _ _ _=>⟨by symm,by symm⟩) (by intros;rfl)
theorem oG {r:RS} {ts te:Nat} {nv:Value}:TG {r with st:=.str (S [92]) ts,nc:=some nv,esc:=.str (S [34]) te,tok:=S []} 92 (fun aV _ aH aq ao _ tp=>{r with st:=.str (S [34]) aV,nc:=some (.str (S [92]) aH),esc:=.str (S [34]) te,tok:=(S [92]),fj:=aq,p:=r.p+1,tp:=tp,ao:=ao}) true:=
 aN (Hs:=[]) 0 (og 0x1133302000202002000021133302000202002000020013022000200002100302200020000211003022000200002110001003022000200002130220002000021003022000200002130220002000021003022000200002130220002000021003022000200002100111) (fun _=>aF.nil) (fun _ _ _ _ _ _ _ _ _=>⟨by symm,by symm⟩) (by intros;rfl)
theorem mH {r:RS} {ts te:Nat} {nv:Value}:TE {r with st:=.str (S [32]) ts,nc:=none,tok:=S [],qd:=false} (fun _ _ aH aq _ _ _=>{r with st:=.none,nc:=some (.str (S []) aH),tok:=S [],qd:=false,fj:=aq}):=
 vZ (Hs:=[]) 0 (og 0x1333020002020020000210001003022000200002130220002000021003022000200002100111) (fun _=>aF.nil) (fun _ _ _ _ _ _ _ _=>⟨by symm,by symm⟩) (by intros;rfl)
theorem oH {r:RS} {ts te:Nat} {nv:Value}:TG {r with st:=.str (S [32]) ts,nc:=none,tok:=S [],qd:=false} 34 (fun aV _ aH aq _ _ tp=>{r with st:=.str (S [34]) aV,nc:=some (.str (S [34]) aH),tok:=S [],qd:=false,fj:=aq,p:=r.p+1,tp:=tp}) true:=
 iU (Hs:=[]) 0 (og 0x110000000000002000021100302200020000211003022000200002113022000200002100302200020000211003022000200002110001003022000200002130220002000021003022000200002100111) (og 0x11333020002020020000211302200020000210030220002000021100) (fun _=>aF.nil) (fun _ _ _ _ _ _ _ _ _=>⟨by symm,by symm,by symm⟩) (fun _ _ _ _ _ _ _ _ _ _ _=>⟨by symm,by symm⟩) (by intros;rfl)
theorem jF {r:RS} {ts te:Nat} {nv:Value}:TG {r with st:=.str (S [97]) ts,nc:=some nv} 34 (fun aV _ aH aq _ _ tp=>{r with st:=.str (S [34]) aV,nc:=some (.str (S [34]) aH),fj:=aq,p:=r.p+1,tp:=tp}) true:=
 aN (Hs:=[nY]) 1 (og 0x114440300030300300003220040330003000032240330003000032004033000300003200403300030000322004033000300003220002021130220002000021003022000200002130220002000021003022000200002130220002000021003022000200002130220002000021003022000200002100111) (fun _=>aF.cons (eO) (aF.nil)) (fun _ _ _ _ _ _ _ _ _=>⟨by symm,by symm⟩) (by intros;rfl)
theorem qL {r:RS} {ts te:Nat} {nv:Value} {c:Nat} (hc:c∈[32,9,13,39,34,92,97,98,120,233,35,36,160]) {x0:Nat} {xs:List Nat} (hl:xs.length<9000):TG {r with st:=.str (S [92]) ts,nc:=some nv,esc:=.str (S [97]) te,tok:=S (x0::xs)} c (fun aV _ aH aq ao _ tp=>{r with st:=.str (S [97]) aV,nc:=some (.str (S [c]) aH),esc:=.str (S [97]) te,tok:=(S (x0::(xs++[c]))),fj:=aq,p:=r.p+1,tp:=tp,ao:=ao}) true:=
 aN (Hs:=[hE (S [c]) (S [10]) false,hAdd (S (x0::xs)) (S [c]) (S (x0::(xs++[c])))]) 0 (og 0x113330200020200200002113330200020200200002313022000200002100302200020000211000100302200020000213022000200002100302200020000213022000200002100302200020000213022000200002100302200020000212111) (fun _=>aF.cons (kZ hc (by symm)) (aF.cons (lK (by lia)) (aF.nil))) (fun _ _ _ _ _ _ _ _ _=>⟨by symm,by symm⟩) (by intros;rfl)
theorem oJ {r:RS} {ts te:Nat} {nv:Value} {x0:Nat} {xs:List Nat} (hl:xs.length<9000):TG {r with st:=.str (S [92]) ts,nc:=some nv,esc:=.str (S [34]) te,tok:=S (x0::xs)} 10 (fun aV _ aH aq ao bY tp=>{r with st:=.str (S [34]) aV,nc:=some (.str (S [10]) aH),esc:=.str (S [34]) te,tok:=(S (x0::((xs++[92])++[10]))),fj:=aq,p:=r.p+1,tp:=tp,ln:=r.ln+1,bY:=bY,ao:=ao}) true:=
 aN (Hs:=[hAdd (S (x0::xs)) (S [92]) (S (x0::(xs++[92]))),hAdd (S (x0::(xs++[92]))) (S [10]) (S (x0::((xs++[92])++[10])))]) 0 (og 0x113330200020200200002113330200020200200002313022000200002133302000202002000022302200020000213022000200002100110030220002000021100302200020000211000100302200020000213022000200002100302200020000213022000200002100302200020000213022000200002100302200020000213330200020200200002003022000200002100111) (fun _=>aF.cons (lK (by lia)) (aF.cons (lK (by simp;lia)) (aF.nil))) (fun _ _ _ _ _ _ _ _ _=>⟨by symm,by symm⟩) (by intros;rfl)
theorem sW {r:RS} {ts te:Nat} {nv:Value} {c:Nat} (hc:c∈[97,98,120,233]):TG {r with st:=.str (S [97]) ts,nc:=some nv,tok:=S []} c (fun _ _ aH aq ao _ tp=>{r with st:=.str (S [97]) ts,nc:=some (.str (S [c]) aH),tok:=(S [c]),fj:=aq,p:=r.p+1,tp:=tp,ao:=ao}) true:=
 aN (Hs:=[hE (S [c]) (S [10]) false,nY,hI (S [32,9,13,10]) (S [c]) false,hI (S []) (S [c]) false,hI (S [39,34]) (S [c]) false,hI (S [92]) (S [c]) false,hI KC (S [c]) true]) 1 (og 0x114440300030300300003002403300030000328403300030000322740330003000032240330003000032640330003000032240330003000032004033000300003254033000300003224403300030000322000203113022000200002100302200020000213022000200002100302200020000213022000200002100302200020000213022000200002100302200020000212111) (fun _=>aF.cons (kZ hc (by symm)) (aF.cons (eO) (inC hc (by symm) (inC hc (by symm) (inC hc (by symm) (inC hc (by symm) (inC hc (by symm) (aF.nil)))))))) (fun _ _ _ _ _ _ _ _ _=>⟨by symm,by symm⟩) (by intros;rfl)
theorem oK {r:RS} {ts te:Nat} {nv:Value}:TG {r with st:=.str (S [92]) ts,nc:=some nv,esc:=.str (S [34]) te,tok:=S []} 10 (fun aV _ aH aq ao bY tp=>{r with st:=.str (S [34]) aV,nc:=some (.str (S [10]) aH),esc:=.str (S [34]) te,tok:=(S [92,10]),fj:=aq,p:=r.p+1,tp:=tp,ln:=r.ln+1,bY:=bY,ao:=ao}) true:=
 aN (Hs:=[]) 0 (og 0x11333020002020020000211333020002020020000200130220002000021333020002020020000200302200020000213022000200002100110030220002000021100302200020000211000100302200020000213022000200002100302200020000213022000200002100302200020000213022000200002100302200020000213330200020200200002003022000200002100111) (fun _=>aF.nil) (fun _ _ _ _ _ _ _ _ _=>⟨by symm,by symm⟩) (by intros;rfl)
theorem sX {r:RS} {ts te:Nat} {nv:Value} {c:Nat} (hc:c∈[97,98,120,233]) {x0:Nat} {xs:List Nat} (hl:xs.length<9000):TG {r with st:=.str (S [97]) ts,nc:=some nv,tok:=S (x0::xs)} c (fun _ _ aH aq ao _ tp=>{r with st:=.str (S [97]) ts,nc:=some (.str (S [c]) aH),tok:=(S (x0::(xs++[c]))),fj:=aq,p:=r.p+1,tp:=tp,ao:=ao}) true:=
 aN (Hs:=[hE (S [c]) (S [10]) false,nY,hI (S [32,9,13,10]) (S [c]) false,hI (S []) (S [c]) false,hI (S [39,34]) (S [c]) false,hI (S [92]) (S [c]) false,hI KC (S [c]) true,hAdd (S (x0::xs)) (S [c]) (S (x0::(xs++[c])))]) 1 (og 0x11444030003030030000392403300030000328403300030000322740330003000032240330003000032640330003000032240330003000032004033000300003254033000300003224403300030000322000203113022000200002100302200020000213022000200002100302200020000213022000200002100302200020000213022000200002100302200020000212111) (fun _=>aF.cons (kZ hc (by symm)) (aF.cons (eO) (inC hc (by symm) (inC hc (by symm) (inC hc (by symm) (inC hc (by symm) (inC hc (by symm) (aF.cons (lK (by lia)) (aF.nil))))))))) (fun _ _ _ _ _ _ _ _ _=>⟨by symm,by symm⟩) (by intros;rfl)
theorem qM {r:RS} {ts te:Nat} {nv:Value} {c:Nat} (hc:c∈[32,9,13,39,97,98,120,233,35,36,160]):TG {r with st:=.str (S [34]) ts,nc:=some nv,tok:=S []} c (fun _ _ aH aq ao _ tp=>{r with st:=.str (S [34]) ts,nc:=some (.str (S [c]) aH),tok:=(S [c]),fj:=aq,p:=r.p+1,tp:=tp,qd:=true,ao:=ao}) true:=
 aN (Hs:=[hE (S [c]) (S [10]) false,hE (S [c]) (S [34]) false,hI (S [92]) (S [c]) false]) 0 (og 0x11333020002020020000200130220002000021430220002000021130220002000021330220002000021100011100302200020000213022000200002100302200020000213022000200002100302200020000212111) (fun _=>aF.cons (kZ hc (by symm)) (aF.cons (kZ hc (by symm)) (inC hc (by symm) (aF.nil)))) (fun _ _ _ _ _ _ _ _ _=>⟨by symm,by symm⟩) (by intros;rfl)
theorem qN {r:RS} {ts te:Nat} {nv:Value} {c:Nat} (hc:c∈[32,9,13]):TG {r with st:=.str (S [32]) ts,nc:=none,tok:=S [],qd:=false} c (fun _ _ aH aq _ _ tp=>{r with st:=.str (S [32]) ts,nc:=some (.str (S [c]) aH),tok:=S [],qd:=false,fj:=aq,p:=r.p+1,tp:=tp}) true:=
 aN (Hs:=[hE (S [c]) (S [10]) false,hI (S [32,9,13,10]) (S [c]) true]) 0 (og 0x111302200020000210003022000200002100302200020000213302200020000211000100302200020000213022000200002100302200020000212111) (fun _=>aF.cons (kZ hc (by symm)) (inC hc (by symm) (aF.nil))) (fun _ _ _ _ _ _ _ _ _=>⟨by symm,by symm⟩) (by intros;rfl)
theorem jG {r:RS} {ts te:Nat} {nv:Value}:TG {r with st:=.str (S [97]) ts,nc:=some nv} 39 (fun aV _ aH aq _ _ tp=>{r with st:=.str (S [39]) aV,nc:=some (.str (S [39]) aH),fj:=aq,p:=r.p+1,tp:=tp}) true:=
 aN (Hs:=[nY]) 1 (og 0x114440300030300300003220040330003000032240330003000032004033000300003200403300030000322004033000300003220002021130220002000021003022000200002130220002000021003022000200002130220002000021003022000200002130220002000021003022000200002100111) (fun _=>aF.cons (eO) (aF.nil)) (fun _ _ _ _ _ _ _ _ _=>⟨by symm,by symm⟩) (by intros;rfl)
theorem oM {r:RS} {ts te:Nat} {nv:Value} {x0:Nat} {xs:List Nat} (hl:xs.length<9000):TG {r with st:=.str (S [92]) ts,nc:=some nv,esc:=.str (S [97]) te,tok:=S (x0::xs)} 10 (fun aV _ aH aq ao bY tp=>{r with st:=.str (S [97]) aV,nc:=some (.str (S [10]) aH),esc:=.str (S [97]) te,tok:=(S (x0::(xs++[10]))),fj:=aq,p:=r.p+1,tp:=tp,ln:=r.ln+1,bY:=bY,ao:=ao}) true:=
 aN (Hs:=[hAdd (S (x0::xs)) (S [10]) (S (x0::(xs++[10])))]) 0 (og 0x113330200020200200002113330200020200200002213022000200002100302200020000211000100302200020000213022000200002100302200020000213022000200002100302200020000213022000200002100302200020000213330200020200200002003022000200002100111) (fun _=>aF.cons (lK (by lia)) (aF.nil)) (fun _ _ _ _ _ _ _ _ _=>⟨by symm,by symm⟩) (by intros;rfl)
theorem sY {r:RS} {ts te:Nat} {nv:Value} {c:Nat} (hc:c∈[35,36,160]):TG {r with st:=.str (S [97]) ts,nc:=some nv,tok:=S []} c (fun _ _ aH aq ao _ tp=>{r with st:=.str (S [97]) ts,nc:=some (.str (S [c]) aH),tok:=(S [c]),fj:=aq,p:=r.p+1,tp:=tp,ao:=ao}) true:=
 iU (Hs:=[hE (S [c]) (S [10]) false,nY,hI (S [32,9,13,10]) (S [c]) false,hI (S []) (S [c]) false,hI (S [39,34]) (S [c]) false,hI (S [92]) (S [c]) false,hI KC (S [c]) false,hI (S [39,34]) (S [c]) false,hI (S []) (S [c]) false]) 1 (og 0x11000000000000300003224033000300003294033000300003228403300030000322740330003000032240330003000032640330003000032240330003000032004033000300003254033000300003224403300030000322000203113022000200002100302200020000213022000200002100302200020000213022000200002100302200020000213022000200002100302200020000212111) (og 0x11444030003030030000300240330003000032a) (fun _=>aF.cons (kZ hc (by symm)) (aF.cons (eO) (inC hc (by symm) (inC hc (by symm) (inC hc (by symm) (inC hc (by symm) (inC hc (by symm) (inC hc (by symm) (inC hc (by symm) (aF.nil)))))))))) (fun _ _ _ _ _ _ _ _ _=>⟨by symm,by symm,by symm⟩) (fun _ _ _ _ _ _ _ _ _ _ _=>⟨by symm,by symm⟩) (by intros;rfl)
theorem oN {r:RS} {ts te:Nat} {nv:Value} {x0:Nat} {xs:List Nat} (hl:xs.length<9000):TG {r with st:=.str (S [92]) ts,nc:=some nv,esc:=.str (S [34]) te,tok:=S (x0::xs)} 34 (fun aV _ aH aq ao _ tp=>{r with st:=.str (S [34]) aV,nc:=some (.str (S [34]) aH),esc:=.str (S [34]) te,tok:=(S (x0::(xs++[34]))),fj:=aq,p:=r.p+1,tp:=tp,ao:=ao}) true:=
 aN (Hs:=[hAdd (S (x0::xs)) (S [34]) (S (x0::(xs++[34])))]) 0 (og 0x1133302000202002000021133302000202002000022130220002000021001100302200020000211003022000200002110001003022000200002130220002000021003022000200002130220002000021003022000200002130220002000021003022000200002100111) (fun _=>aF.cons (lK (by lia)) (aF.nil)) (fun _ _ _ _ _ _ _ _ _=>⟨by symm,by symm⟩) (by intros;rfl)
theorem oO {r:RS} {ts te:Nat} {nv:Value}:TG {r with st:=.str (S [32]) ts,nc:=none,tok:=S [],qd:=false} 39 (fun aV _ aH aq _ _ tp=>{r with st:=.str (S [39]) aV,nc:=some (.str (S [39]) aH),tok:=S [],qd:=false,fj:=aq,p:=r.p+1,tp:=tp}) true:=
 iU (Hs:=[]) 0 (og 0x110000000000002000021100302200020000211003022000200002113022000200002100302200020000211003022000200002110001003022000200002130220002000021003022000200002100111) (og 0x11333020002020020000211302200020000210030220002000021100) (fun _=>aF.nil) (fun _ _ _ _ _ _ _ _ _=>⟨by symm,by symm,by symm⟩) (fun _ _ _ _ _ _ _ _ _ _ _=>⟨by symm,by symm⟩) (by intros;rfl)
theorem qO {r:RS} {ts te:Nat} {nv:Value} {c:Nat} (hc:c∈[32,9,13,39,97,98,120,233,35,36,160]) {x0:Nat} {xs:List Nat} (hl:xs.length<9000):TG {r with st:=.str (S [34]) ts,nc:=some nv,tok:=S (x0::xs)} c (fun _ _ aH aq ao _ tp=>{r with st:=.str (S [34]) ts,nc:=some (.str (S [c]) aH),tok:=(S (x0::(xs++[c]))),fj:=aq,p:=r.p+1,tp:=tp,qd:=true,ao:=ao}) true:=
 aN (Hs:=[hE (S [c]) (S [10]) false,hE (S [c]) (S [34]) false,hI (S [92]) (S [c]) false,hAdd (S (x0::xs)) (S [c]) (S (x0::(xs++[c])))]) 0 (og 0x1133302000202002000025130220002000021430220002000021130220002000021330220002000021100011100302200020000213022000200002100302200020000213022000200002100302200020000212111) (fun _=>aF.cons (kZ hc (by symm)) (aF.cons (kZ hc (by symm)) (inC hc (by symm) (aF.cons (lK (by lia)) (aF.nil))))) (fun _ _ _ _ _ _ _ _ _=>⟨by symm,by symm⟩) (by intros;rfl)
theorem oR {r:RS} {ts te:Nat} {nv:Value}:TG {r with st:=.str (S [32]) ts,nc:=some nv,tok:=S [],qd:=false} 39 (fun aV _ aH aq _ _ tp=>{r with st:=.str (S [39]) aV,nc:=some (.str (S [39]) aH),tok:=S [],qd:=false,fj:=aq,p:=r.p+1,tp:=tp}) true:=
 iU (Hs:=[]) 0 (og 0x110000000000002000021100302200020000211003022000200002113022000200002100302200020000211003022000200002110001003022000200002130220002000021003022000200002100111) (og 0x11333020002020020000211302200020000210030220002000021100) (fun _=>aF.nil) (fun _ _ _ _ _ _ _ _ _=>⟨by symm,by symm,by symm⟩) (fun _ _ _ _ _ _ _ _ _ _ _=>⟨by symm,by symm⟩) (by intros;rfl)
theorem sZ {r:RS} {ts te:Nat} {nv:Value} {c:Nat} (hc:c∈[35,36,160]) {x0:Nat} {xs:List Nat} (hl:xs.length<9000):TG {r with st:=.str (S [97]) ts,nc:=some nv,tok:=S (x0::xs)} c (fun _ _ aH aq ao _ tp=>{r with st:=.str (S [97]) ts,nc:=some (.str (S [c]) aH),tok:=(S (x0::(xs++[c]))),fj:=aq,p:=r.p+1,tp:=tp,ao:=ao}) true:=
 iU (Hs:=[hE (S [c]) (S [10]) false,nY,hI (S [32,9,13,10]) (S [c]) false,hI (S []) (S [c]) false,hI (S [39,34]) (S [c]) false,hI (S [92]) (S [c]) false,hI KC (S [c]) false,hI (S [39,34]) (S [c]) false,hI (S []) (S [c]) false,hAdd (S (x0::xs)) (S [c]) (S (x0::(xs++[c])))]) 1 (og 0x11000000000000300003224033000300003294033000300003228403300030000322740330003000032240330003000032640330003000032240330003000032004033000300003254033000300003224403300030000322000203113022000200002100302200020000213022000200002100302200020000213022000200002100302200020000213022000200002100302200020000212111) (og 0x114440300030300300003b240330003000032a) (fun _=>aF.cons (kZ hc (by symm)) (aF.cons (eO) (inC hc (by symm) (inC hc (by symm) (inC hc (by symm) (inC hc (by symm) (inC hc (by symm) (inC hc (by symm) (inC hc (by symm) (aF.cons (lK (by lia)) (aF.nil))))))))))) (fun _ _ _ _ _ _ _ _ _=>⟨by symm,by symm,by symm⟩) (fun _ _ _ _ _ _ _ _ _ _ _=>⟨by symm,by symm⟩) (by intros;rfl)
theorem oU {r:RS} {ts te:Nat} {nv:Value}:TG {r with st:=.str (S [34]) ts,nc:=some nv,tok:=S []} 10 (fun _ _ aH aq ao bY tp=>{r with st:=.str (S [34]) ts,nc:=some (.str (S [10]) aH),tok:=(S [10]),fj:=aq,p:=r.p+1,tp:=tp,ln:=r.ln+1,bY:=bY,qd:=true,ao:=ao}) true:=
 aN (Hs:=[]) 0 (og 0x1133302000202002000020013022000200002100302200020000211302200020000210030220002000021100011100302200020000213022000200002100302200020000213022000200002100302200020000213330200020200200002003022000200002100111) (fun _=>aF.nil) (fun _ _ _ _ _ _ _ _ _=>⟨by symm,by symm⟩) (by intros;rfl)
theorem oV {r:RS} {ts te:Nat} {nv:Value}:TG {r with st:=.str (S [32]) ts,nc:=some nv,tok:=S [],qd:=false} 92 (fun aV aD aH aq _ _ tp=>{r with st:=.str (S [92]) aV,nc:=some (.str (S [92]) aH),tok:=S [],qd:=false,fj:=aq,p:=r.p+1,tp:=tp,esc:=.str (S [97]) aD}) true:=
 aN (Hs:=[]) 0 (og 0x1133302000202002000021111003022000200002113022000200002100302200020000211003022000200002110001003022000200002130220002000021003022000200002100111) (fun _=>aF.nil) (fun _ _ _ _ _ _ _ _ _=>⟨by symm,by symm⟩) (by intros;rfl)
theorem tu {r:RS} {ts te:Nat} {nv:Value} {c:Nat} (hc:c∈[32,9,13]):TG {r with st:=.str (S [97]) ts,nc:=some nv,tok:=S [],qd:=true} c (fun aV _ aH aq _ _ tp=>{r with st:=.str (S [32]) aV,nc:=some (.str (S [c]) aH),tok:=S [],qd:=true,fj:=aq,p:=r.p+1,tp:=tp}) false:=
 rR (Hs:=[hE (S [c]) (S [10]) false,nY,hI (S [32,9,13,10]) (S [c]) true]) 1 (og 0x1240330003000032000403300030000324440300030300300003200403300030000324403300030000322000203113022000200002100302200020000213022000200002100302200020000213022000200002100302200020000213022000200002100302200020000212111) (fun _=>aF.cons (kZ hc (by symm)) (aF.cons (eO) (inC hc (by symm) (aF.nil)))) (fun _ _ _ _ _ _ _ _ _=>⟨by symm,by symm⟩) (by intros;rfl)
theorem qP {r:RS} {ts te:Nat} {nv:Value} {c:Nat} (hc:c∈[32,9,13,34,97,98,120,233,35,36,160]):TG {r with st:=.str (S [39]) ts,nc:=some nv,tok:=S []} c (fun _ _ aH aq ao _ tp=>{r with st:=.str (S [39]) ts,nc:=some (.str (S [c]) aH),tok:=(S [c]),fj:=aq,p:=r.p+1,tp:=tp,qd:=true,ao:=ao}) true:=
 aN (Hs:=[hE (S [c]) (S [10]) false,hE (S [c]) (S [39]) false,hI (S [92]) (S [c]) false]) 0 (og 0x11333020002020020000200130220002000021430220002000021130220002000021330220002000021100011100302200020000213022000200002100302200020000213022000200002100302200020000212111) (fun _=>aF.cons (kZ hc (by symm)) (aF.cons (kZ hc (by symm)) (inC hc (by symm) (aF.nil)))) (fun _ _ _ _ _ _ _ _ _=>⟨by symm,by symm⟩) (by intros;rfl)
theorem ji {r:RS} {ts te:Nat} {nv:Value}:TG {r with st:=.str (S [34]) ts,nc:=some nv} 34 (fun aV _ aH aq _ _ tp=>{r with st:=.str (S [97]) aV,nc:=some (.str (S [34]) aH),fj:=aq,p:=r.p+1,tp:=tp,qd:=true}) true:=
 aN (Hs:=[]) 0 (og 0x11333020002020020000213022000200002100302200020000211000111003022000200002130220002000021003022000200002130220002000021003022000200002100111) (fun _=>aF.nil) (fun _ _ _ _ _ _ _ _ _=>⟨by symm,by symm⟩) (by intros;rfl)
theorem oW {r:RS} {ts te:Nat} {nv:Value} {x0:Nat} {xs:List Nat} (hl:xs.length<9000):TG {r with st:=.str (S [39]) ts,nc:=some nv,tok:=S (x0::xs)} 92 (fun _ _ aH aq ao _ tp=>{r with st:=.str (S [39]) ts,nc:=some (.str (S [92]) aH),tok:=(S (x0::(xs++[92]))),fj:=aq,p:=r.p+1,tp:=tp,qd:=true,ao:=ao}) true:=
 aN (Hs:=[hAdd (S (x0::xs)) (S [92]) (S (x0::(xs++[92])))]) 0 (og 0x1133302000202002000022130220002000021003022000200002130220002000021003022000200002113022000200002100302200020000211000111003022000200002130220002000021003022000200002130220002000021003022000200002100111) (fun _=>aF.cons (lK (by lia)) (aF.nil)) (fun _ _ _ _ _ _ _ _ _=>⟨by symm,by symm⟩) (by intros;rfl)
theorem qQ {r:RS} {ts te:Nat} {nv:Value} {x0:Nat} {xs:List Nat} (hl:xs.length<9000):TG {r with st:=.str (S [97]) ts,nc:=some nv,tok:=S (x0::xs)} 10 (fun aV _ aH aq _ bY tp=>{r with st:=.str (S [32]) aV,nc:=some (.str (S [10]) aH),tok:=S (x0::xs),fj:=aq,p:=r.p+1,tp:=tp,ln:=r.ln+1,bY:=bY}) false:=
 rR (Hs:=[nY,Bb (S (x0::xs)) (xs.length+1)]) 1 (og 0x134033000300003244403000303003000032004033000300003200403300030000322000202113022000200002100302200020000213022000200002100302200020000213022000200002100302200020000213022000200002100302200020000213330200020200200002003022000200002100111) (fun _=>aF.cons (eO) (aF.cons (Rh hl) (aF.nil))) (fun _ _ _ _ _ _ _ _ _=>⟨by symm,by symm⟩) (by intros;rfl)
theorem oX {r:RS} {ts te:Nat} {nv:Value}:TG {r with st:=.str (S [39]) ts,nc:=some nv,tok:=S []} 10 (fun _ _ aH aq ao bY tp=>{r with st:=.str (S [39]) ts,nc:=some (.str (S [10]) aH),tok:=(S [10]),fj:=aq,p:=r.p+1,tp:=tp,ln:=r.ln+1,bY:=bY,qd:=true,ao:=ao}) true:=
 aN (Hs:=[]) 0 (og 0x1133302000202002000020013022000200002100302200020000211302200020000210030220002000021100011100302200020000213022000200002100302200020000213022000200002100302200020000213330200020200200002003022000200002100111) (fun _=>aF.nil) (fun _ _ _ _ _ _ _ _ _=>⟨by symm,by symm⟩) (by intros;rfl)
theorem oY {r:RS} {ts te:Nat} {nv:Value}:TG {r with st:=.str (S [32]) ts,nc:=some nv,tok:=S [],qd:=false} 34 (fun aV _ aH aq _ _ tp=>{r with st:=.str (S [34]) aV,nc:=some (.str (S [34]) aH),tok:=S [],qd:=false,fj:=aq,p:=r.p+1,tp:=tp}) true:=
 iU (Hs:=[]) 0 (og 0x110000000000002000021100302200020000211003022000200002113022000200002100302200020000211003022000200002110001003022000200002130220002000021003022000200002100111) (og 0x11333020002020020000211302200020000210030220002000021100) (fun _=>aF.nil) (fun _ _ _ _ _ _ _ _ _=>⟨by symm,by symm,by symm⟩) (fun _ _ _ _ _ _ _ _ _ _ _=>⟨by symm,by symm⟩) (by intros;rfl)
theorem oZ {r:RS} {ts te:Nat} {nv:Value}:TG {r with st:=.str (S [39]) ts,nc:=some nv,tok:=S []} 92 (fun _ _ aH aq ao _ tp=>{r with st:=.str (S [39]) ts,nc:=some (.str (S [92]) aH),tok:=(S [92]),fj:=aq,p:=r.p+1,tp:=tp,qd:=true,ao:=ao}) true:=
 aN (Hs:=[]) 0 (og 0x11333020002020020000200130220002000021003022000200002130220002000021003022000200002113022000200002100302200020000211000111003022000200002130220002000021003022000200002130220002000021003022000200002100111) (fun _=>aF.nil) (fun _ _ _ _ _ _ _ _ _=>⟨by symm,by symm⟩) (by intros;rfl)
theorem qR {r:RS} {ts te:Nat} {nv:Value} {c:Nat} (hc:c∈[32,9,13,34,97,98,120,233,35,36,160]) {x0:Nat} {xs:List Nat} (hl:xs.length<9000):TG {r with st:=.str (S [39]) ts,nc:=some nv,tok:=S (x0::xs)} c (fun _ _ aH aq ao _ tp=>{r with st:=.str (S [39]) ts,nc:=some (.str (S [c]) aH),tok:=(S (x0::(xs++[c]))),fj:=aq,p:=r.p+1,tp:=tp,qd:=true,ao:=ao}) true:=
 aN (Hs:=[hE (S [c]) (S [10]) false,hE (S [c]) (S [39]) false,hI (S [92]) (S [c]) false,hAdd (S (x0::xs)) (S [c]) (S (x0::(xs++[c])))]) 0 (og 0x1133302000202002000025130220002000021430220002000021130220002000021330220002000021100011100302200020000213022000200002100302200020000213022000200002100302200020000212111) (fun _=>aF.cons (kZ hc (by symm)) (aF.cons (kZ hc (by symm)) (inC hc (by symm) (aF.cons (lK (by lia)) (aF.nil))))) (fun _ _ _ _ _ _ _ _ _=>⟨by symm,by symm⟩) (by intros;rfl)
theorem o7 {r:RS} {ts te:Nat} {nv:Value}:TG {r with st:=.str (S [32]) ts,nc:=none,tok:=S [],qd:=false} 92 (fun aV aD aH aq _ _ tp=>{r with st:=.str (S [92]) aV,nc:=some (.str (S [92]) aH),tok:=S [],qd:=false,fj:=aq,p:=r.p+1,tp:=tp,esc:=.str (S [97]) aD}) true:=
 aN (Hs:=[]) 0 (og 0x1133302000202002000021111003022000200002113022000200002100302200020000211003022000200002110001003022000200002130220002000021003022000200002100111) (fun _=>aF.nil) (fun _ _ _ _ _ _ _ _ _=>⟨by symm,by symm⟩) (by intros;rfl)
theorem pA {r:RS} {ts te:Nat} {nv:Value} {x0:Nat} {xs:List Nat} (hl:xs.length<9000):TG {r with st:=.str (S [39]) ts,nc:=some nv,tok:=S (x0::xs)} 10 (fun _ _ aH aq ao bY tp=>{r with st:=.str (S [39]) ts,nc:=some (.str (S [10]) aH),tok:=(S (x0::(xs++[10]))),fj:=aq,p:=r.p+1,tp:=tp,ln:=r.ln+1,bY:=bY,qd:=true,ao:=ao}) true:=
 aN (Hs:=[hAdd (S (x0::xs)) (S [10]) (S (x0::(xs++[10])))]) 0 (og 0x113330200020200200002213022000200002100302200020000211302200020000210030220002000021100011100302200020000213022000200002100302200020000213022000200002100302200020000213330200020200200002003022000200002100111) (fun _=>aF.cons (lK (by lia)) (aF.nil)) (fun _ _ _ _ _ _ _ _ _=>⟨by symm,by symm⟩) (by intros;rfl)
theorem qT {r:RS} {ts te:Nat} {nv:Value} {c:Nat} (hc:c∈[35,36,160]):TG {r with st:=.str (S [32]) ts,nc:=none,tok:=S [],qd:=false} c (fun aV _ aH aq ao _ tp=>{r with st:=.str (S [97]) aV,nc:=some (.str (S [c]) aH),tok:=S [c],qd:=false,fj:=aq,p:=r.p+1,tp:=tp,ao:=ao}) true:=
 iU (Hs:=[hE (S [c]) (S [10]) false,hI (S [32,9,13,10]) (S [c]) false,hI (S []) (S [c]) false,hI (S [92]) (S [c]) false,hI KC (S [c]) false,hI (S []) (S [c]) false,hI (S [39,34]) (S [c]) false]) 0 (og 0x1100000000000020000211630220002000021153022000200002113022000200002143022000200002113302200020000211000100302200020000213022000200002100302200020000212111) (og 0x11333020002020020000213330200020200200002113022000200002183022000200002117) (fun _=>aF.cons (kZ hc (by symm)) (inC hc (by symm) (inC hc (by symm) (inC hc (by symm) (inC hc (by symm) (inC hc (by symm) (inC hc (by symm) (aF.nil)))))))) (fun _ _ _ _ _ _ _ _ _=>⟨by symm,by symm,by symm⟩) (fun _ _ _ _ _ _ _ _ _ _ _=>⟨by symm,by symm⟩) (by intros;rfl)
theorem pB {r:RS} {ts te:Nat} {nv:Value}:TG {r with st:=.str (S [32]) ts,nc:=none,tok:=S [],qd:=false} 10 (fun _ _ aH aq _ bY tp=>{r with st:=.str (S [32]) ts,nc:=some (.str (S [10]) aH),tok:=S [],qd:=false,fj:=aq,p:=r.p+1,tp:=tp,ln:=r.ln+1,bY:=bY}) true:=
 aN (Hs:=[]) 0 (og 0x1113022000200002100030220002000021003022000200002100302200020000211000100302200020000213022000200002100302200020000213330200020200200002003022000200002100111) (fun _=>aF.nil) (fun _ _ _ _ _ _ _ _ _=>⟨by symm,by symm⟩) (by intros;rfl)
theorem pC {r:RS} {ts te:Nat} {nv:Value}:TG {r with st:=.str (S [32]) ts,nc:=some nv,tok:=S [],qd:=false} 10 (fun _ _ aH aq _ bY tp=>{r with st:=.str (S [32]) ts,nc:=some (.str (S [10]) aH),tok:=S [],qd:=false,fj:=aq,p:=r.p+1,tp:=tp,ln:=r.ln+1,bY:=bY}) true:=
 aN (Hs:=[]) 0 (og 0x1113022000200002100030220002000021003022000200002100302200020000211000100302200020000213022000200002100302200020000213330200020200200002003022000200002100111) (fun _=>aF.nil) (fun _ _ _ _ _ _ _ _ _=>⟨by symm,by symm⟩) (by intros;rfl)
theorem jj {r:RS} {ts te:Nat} {nv:Value}:TG {r with st:=.str (S [39]) ts,nc:=some nv} 39 (fun aV _ aH aq _ _ tp=>{r with st:=.str (S [97]) aV,nc:=some (.str (S [39]) aH),fj:=aq,p:=r.p+1,tp:=tp,qd:=true}) true:=
 aN (Hs:=[]) 0 (og 0x11333020002020020000213022000200002100302200020000211000111003022000200002130220002000021003022000200002130220002000021003022000200002100111) (fun _=>aF.nil) (fun _ _ _ _ _ _ _ _ _=>⟨by symm,by symm⟩) (by intros;rfl)
theorem qU {r:RS} {ts te:Nat} {nv:Value} {c:Nat} (hc:c∈[32,9,13,39,34,92,97,98,120,233,35,36,160]):TG {r with st:=.str (S [92]) ts,nc:=some nv,esc:=.str (S [97]) te,tok:=S []} c (fun aV _ aH aq ao _ tp=>{r with st:=.str (S [97]) aV,nc:=some (.str (S [c]) aH),esc:=.str (S [97]) te,tok:=(S [c]),fj:=aq,p:=r.p+1,tp:=tp,ao:=ao}) true:=
 aN (Hs:=[hE (S [c]) (S [10]) false]) 0 (og 0x1133302000202002000021133302000202002000020013022000200002100302200020000211000100302200020000213022000200002100302200020000213022000200002100302200020000213022000200002100302200020000212111) (fun _=>aF.cons (kZ hc (by symm)) (aF.nil)) (fun _ _ _ _ _ _ _ _ _=>⟨by symm,by symm⟩) (by intros;rfl)
theorem qW {r:RS} {ts te:Nat} {nv:Value} {c:Nat} (hc:c∈[32,9,13,39,97,98,120,233,35,36,160]) {x0:Nat} {xs:List Nat} (hl:xs.length<9000):TG {r with st:=.str (S [92]) ts,nc:=some nv,esc:=.str (S [34]) te,tok:=S (x0::xs)} c (fun aV _ aH aq ao _ tp=>{r with st:=.str (S [34]) aV,nc:=some (.str (S [c]) aH),esc:=.str (S [34]) te,tok:=(S (x0::((xs++[92])++[c]))),fj:=aq,p:=r.p+1,tp:=tp,ao:=ao}) true:=
 aN (Hs:=[hE (S [c]) (S [10]) false,hN (S [c]) (S [92]) true,hN (S [c]) (S [34]) true,hAdd (S (x0::xs)) (S [92]) (S (x0::(xs++[92]))),hAdd (S (x0::(xs++[92]))) (S [c]) (S (x0::((xs++[92])++[c])))]) 0 (og 0x1133302000202002000021133302000202002000026130220002000021333020002020020000253022000200002130220002000021411330220002000021100302200020000211000100302200020000213022000200002100302200020000213022000200002100302200020000213022000200002100302200020000212111) (fun _=>aF.cons (kZ hc (by symm)) (aF.cons (U5 hc (by symm)) (aF.cons (U5 hc (by symm)) (aF.cons (lK (by lia)) (aF.cons (lK (by simp;lia)) (aF.nil)))))) (fun _ _ _ _ _ _ _ _ _=>⟨by symm,by symm⟩) (by intros;rfl)
theorem qX {r:RS} {ts te:Nat} {nv:Value} {c:Nat} (hc:c∈[35,36,160]):TG {r with st:=.str (S [32]) ts,nc:=some nv,tok:=S [],qd:=false} c (fun aV _ aH aq ao _ tp=>{r with st:=.str (S [97]) aV,nc:=some (.str (S [c]) aH),tok:=S [c],qd:=false,fj:=aq,p:=r.p+1,tp:=tp,ao:=ao}) true:=
 iU (Hs:=[hE (S [c]) (S [10]) false,hI (S [32,9,13,10]) (S [c]) false,hI (S []) (S [c]) false,hI (S [92]) (S [c]) false,hI KC (S [c]) false,hI (S []) (S [c]) false,hI (S [39,34]) (S [c]) false]) 0 (og 0x1100000000000020000211630220002000021153022000200002113022000200002143022000200002113302200020000211000100302200020000213022000200002100302200020000212111) (og 0x11333020002020020000213330200020200200002113022000200002183022000200002117) (fun _=>aF.cons (kZ hc (by symm)) (inC hc (by symm) (inC hc (by symm) (inC hc (by symm) (inC hc (by symm) (inC hc (by symm) (inC hc (by symm) (aF.nil)))))))) (fun _ _ _ _ _ _ _ _ _=>⟨by symm,by symm,by symm⟩) (fun _ _ _ _ _ _ _ _ _ _ _=>⟨by symm,by symm⟩) (by intros;rfl)
theorem qY {r:RS} {ts te:Nat} {nv:Value} {c:Nat} (hc:c∈[32,9,13]):TG {r with st:=.str (S [32]) ts,nc:=some nv,tok:=S [],qd:=false} c (fun _ _ aH aq _ _ tp=>{r with st:=.str (S [32]) ts,nc:=some (.str (S [c]) aH),tok:=S [],qd:=false,fj:=aq,p:=r.p+1,tp:=tp}) true:=
 aN (Hs:=[hE (S [c]) (S [10]) false,hI (S [32,9,13,10]) (S [c]) true]) 0 (og 0x111302200020000210003022000200002100302200020000213302200020000211000100302200020000213022000200002100302200020000212111) (fun _=>aF.cons (kZ hc (by symm)) (inC hc (by symm) (aF.nil))) (fun _ _ _ _ _ _ _ _ _=>⟨by symm,by symm⟩) (by intros;rfl)
theorem mJ {r:RS} {ts te:Nat} {nv:Value}:TE {r with st:=.str (S [32]) ts,nc:=some nv,tok:=S [],qd:=false} (fun _ _ aH aq _ _ _=>{r with st:=.none,nc:=some (.str (S []) aH),tok:=S [],qd:=false,fj:=aq}):=
 vZ (Hs:=[]) 0 (og 0x1333020002020020000210001003022000200002130220002000021003022000200002100111) (fun _=>aF.nil) (fun _ _ _ _ _ _ _ _=>⟨by symm,by symm⟩) (by intros;rfl)
def xg (w:World) (g:Array GenState) (d:Drawn) (os:OsState) (A:Around) (Q:Fin→Shared→Prop) (E:Value→Shared→Prop):XC:=
 {prog:=pw,w,K:=K w,g,d,os,A₀:=A,Q₀:=Q,E₀:=E,R₀:=fun _ _=>False}
@[irreducible] def bL (w:World) (H:List Hk) (t:Sem Fin) (L:Led) (nx tk:Nat) (aC:List Nat):Rs:=sim (K w) ⟨pw,w.params⟩ H none 20000 .base t L nx tk aC [] [] []
section
variable {w:World} {g:Array GenState} {d:Drawn} {os:OsState} {A:Around} {Q:Fin→Shared→Prop} {E:Value→Shared→Prop} {h₀ h:Heap} {gv:List Addr}
theorem wg {t:Sem Fin} {L:Led} {nx tk:Nat} {H:List Hk} (HH:aF w H) (aC:List Nat) (hA:A.handled=none) (rep:Rep (K w) h₀ gv L nx h)
  (ok:Good (bL w H t L nx tk aC)) (ou:gQ (xg w g d os A Q E) h₀ gv (bL w H t L nx tk aC)):wpAny (model pw w) A t Q E ⟨h,g,d,tk,os⟩:=by
 unfold bL at ok ou
 exact (sim_sound (xg w g d os A Q E) h₀ gv hA H HH 20000 .base t L nx tk aC [] [] [] ok.ok ou).2 h rep
theorem rT {r:Rs} {x:Result} {L:Led} {nx tk:Nat} {H:List Hk} (HH:aF w H) (aC:List Nat) (hA:A.handled=none) (rep:Rep (K w) h₀ gv L nx h)
  (ok:Good (aB w H r x L nx tk aC)) (ou:gQ (xg w g d os A Q E) h₀ gv (aB w H r x L nx tk aC)):Mn (xg w g d os A Q E) (aL r) (aR r x) ⟨h,g,d,tk,os⟩:=by
 unfold aB at ok ou
 exact (sim_sound (xg w g d os A Q E) h₀ gv hA H HH 20000 (aL r) (aR r x) L nx tk aC [] [] [] ok.ok ou).2 h rep
theorem bA {t:Sem Fin} {L:Led} {nx tk:Nat} {n:Nat} {c:Code} {aC:List Nat} {H:List Hk} (q:Rs) (HH:aF w H) (hA:A.handled=none) (rep:Rep (K w) h₀ gv L nx h)
  (ok:fU q n c)
  (k:∀ A' h,A'.handled=none→A'.depth=A.depth+n→Rep (K w) h₀ gv q.L q.nx h→codeAny (model pw w) A' c (fun r' s'=>Mn (xg w g d os A Q E) (aL q) (aR q r') s') ⟨h,g,d,q.tk,os⟩)
  (e:q=bL w H t L nx tk aC):wpAny (model pw w) A t Q E ⟨h,g,d,tk,os⟩:=by
 subst e
 exact wg HH aC hA rep ok.good (j9 (V:=xg w g d os A Q E) hA ok k)
theorem aK {r:Rs} {x:Result} {L:Led} {nx tk:Nat} {n:Nat} {c:Code} {aC:List Nat} {H:List Hk} (q:Rs) (HH:aF w H) (hA:A.handled=none) (rep:Rep (K w) h₀ gv L nx h)
  (ok:fU q n c)
  (k:∀ A' h,A'.handled=none→A'.depth=A.depth+n→Rep (K w) h₀ gv q.L q.nx h→codeAny (model pw w) A' c (fun r' s'=>Mn (xg w g d os A Q E) (aL q) (aR q r') s') ⟨h,g,d,q.tk,os⟩)
  (e:q=aB w H r x L nx tk aC):Mn (xg w g d os A Q E) (aL r) (aR r x) ⟨h,g,d,tk,os⟩:=by
 subst e
 exact rT HH aC hA rep ok.good (j9 (V:=xg w g d os A Q E) hA ok k)
@[irreducible] def uJ (w:World) (e:Value) (t:Sem Fin) (L:Led) (nx tk:Nat) (aC:List Nat):Rs:=sim (K w) ⟨pw,w.params⟩ [] (some e) 20000 .base t L nx tk aC [] [] []
@[irreducible] def vf (w:World) (e:Value) (r:Rs) (x:Result) (L:Led) (nx tk:Nat) (aC:List Nat):Rs:=sim (K w) ⟨pw,w.params⟩ [] (some e) 20000 (aL r) (aR r x) L nx tk aC [] [] []
theorem Fx {e:Value} {t:Sem Fin} {L:Led} {nx tk:Nat} (aC:List Nat) (hA:A.handled=some e) (rep:Rep (K w) h₀ gv L nx h)
  (ok:Good (uJ w e t L nx tk aC)) (ou:gQ (xg w g d os A Q E) h₀ gv (uJ w e t L nx tk aC)):wpAny (model pw w) A t Q E ⟨h,g,d,tk,os⟩:=by
 unfold uJ at ok ou
 exact (sim_sound (xg w g d os A Q E) h₀ gv hA [] aF.nil 20000 .base t L nx tk aC [] [] [] ok.ok ou).2 h rep
theorem Il {e:Value} {r:Rs} {x:Result} {L:Led} {nx tk:Nat} (aC:List Nat) (hA:A.handled=some e) (rep:Rep (K w) h₀ gv L nx h)
  (ok:Good (vf w e r x L nx tk aC)) (ou:gQ (xg w g d os A Q E) h₀ gv (vf w e r x L nx tk aC)):Mn (xg w g d os A Q E) (aL r) (aR r x) ⟨h,g,d,tk,os⟩:=by
 unfold vf at ok ou
 exact (sim_sound (xg w g d os A Q E) h₀ gv hA [] aF.nil 20000 (aL r) (aR r x) L nx tk aC [] [] [] ok.ok ou).2 h rep
noncomputable abbrev wj (r:Rs) (v:Value):Prop:=lR r=(r.ps.map Prod.snd,r.ts.map Prod.snd,r.cs.map Prod.snd,.err v)
theorem wj.good {r:Rs} {v:Value} (h:wj r v):Good r:=by
 obtain ⟨a,h⟩:=Prod.mk.inj h
 obtain ⟨b,h⟩:=Prod.mk.inj h
 obtain ⟨c,_⟩:=Prod.mk.inj h
 exact Prod.ext a (Prod.ext b c)
theorem fB {r:Rs} {x:Result} {v:Value} {L:Led} {nx tk:Nat} {aC:List Nat} {H:List Hk} (q:Rs) (HH:aF w H) (hA:A.handled=none) (rep:Rep (K w) h₀ gv L nx h)
  (ok:wj q v) (k:∀ h,Rep (K w) h₀ gv q.L q.nx h→E v ⟨h,g,d,q.tk,os⟩)
  (e:q=aB w H r x L nx tk aC):Mn (xg w g d os A Q E) (aL r) (aR r x) ⟨h,g,d,tk,os⟩:=by
 subst e
 refine rT HH aC hA rep ok.good ?_
 have e:=(Prod.mk.inj (Prod.mk.inj (Prod.mk.inj ok).2).2).2
 unfold gQ
 rw [e]
 exact k
noncomputable def M4:Kn→List Env
 | .base=>[]
 | .code c=>c.envs
 | .ret c _ _ κ=>c.envs++M4 κ
noncomputable def Pj:Kn→Nat
 | .base=>0
 | .code c=>c.cUnits
 | .ret c _ _ κ=>Pj κ+c.cUnits
theorem pD (V:XC) {l:List Env} (hl:V.A₀.frames=some l):∀ κ,(ar V κ).frames=some (M4 κ++l)
 | .base=>hl
 | .code c=>by
  show pushEnvs c.envs V.A₀.frames=_
  rw [pushEnvs_eq,hl];rfl
 | .ret c hd k κ=>by
  show pushEnvs c.envs (ar V κ).frames=_
  rw [pushEnvs_eq,pD V hl κ]
  show some (c.envs++(M4 κ++l))=some ((c.envs++M4 κ)++l)
  rw [List.append_assoc]
theorem tB (V:XC):∀ κ,(ar V κ).units=V.A₀.units+Pj κ
 | .base=>rfl
 | .code c=>rfl
 | .ret c hd k κ=>by
  show (ar V κ).units+c.cUnits=_
  rw [tB V κ]
  show _=V.A₀.units+(Pj κ+c.cUnits)
  lia
theorem mK {V:XC} {h₀:Heap} {gv:List Addr} {r:Rs} {n:Nat} {c:Code} {fr:List Env} {u:Nat} (hA:V.A₀.handled=none) (h:fU r n c) (hf:(M4 (aL r),Pj (aL r))=(fr,u))
  (k:∀ A' h,A'.handled=none→A'.depth=V.A₀.depth+n→(∀ l,V.A₀.frames=some l→A'.frames=some (fr++l))→A'.units=V.A₀.units+u→Rep V.K h₀ gv r.L r.nx h→codeAny (model V.prog V.w) A' c (fun r' s'=>Mn V (aL r) (aR r r') s') ⟨h,V.g,V.d,r.tk,V.os⟩):gQ V h₀ gv r:=by
 obtain ⟨_,h⟩:=Prod.mk.inj h
 obtain ⟨_,h⟩:=Prod.mk.inj h
 obtain ⟨_,h⟩:=Prod.mk.inj h
 obtain ⟨h,e⟩:=Prod.mk.inj h
 obtain ⟨ec,e⟩:=Prod.mk.inj e
 obtain ⟨eh,e⟩:=Prod.mk.inj e
 obtain ⟨eo,en⟩:=Prod.mk.inj e
 obtain ⟨f1,f2⟩:=Prod.mk.inj hf
 have k':=k (ar V (aL r))
 rw [fY V hA,mC V,tB V,eo,en,f2] at k'
 have k'':=fun h=>k' h rfl rfl (fun l hl=>by rw [pD V hl,f1]) rfl
 unfold gQ
 unfold sy at h
 cases q:r.ou with
 | pend c' hd k₀ κ=>
  have e1:p7 r=c':=by unfold p7;rw [q]
  have e2:p8 r=hd:=by unfold p8;rw [q]
  have e3:aL r=κ:=by unfold aL;rw [q]
  have e4:∀ x,aR r x=k₀ x:=by intro x;unfold aR;rw [q]
  have hc:c'=c:=e1.symm.trans ec
  have hh:hd=none:=e2.symm.trans eh
  subst hc hh e3
  intro h₁ R
  have z:=k'' h₁ R
  exact codeAny_mono z fun x s' y=>by rw [e4] at y;exact y
 | _=>rw [q] at h;cases h
def wV (body:List Stmt) (env:Env):Sem Fin:=PySem.W.ZFast.zw12563942051412417395 body env >>= fun f=>Sem.pure (.done f)
theorem bG {body:List Stmt} {env:Env} {P:Flow→Shared→Prop} {s:Shared} (z:wpAny (model pw w) A (wV body env) (fun fin s'=>match fin with | .done f=>P f s' | .again _=>False) E s):wpAny (model pw w) A (execs body env) P E s:=by
 intro Γ p hΓ
 have h:=z Γ p hΓ
 unfold wV at h
 rw [← PySem.W.ZFast.ze12563942051412417395,Sem.wp_bind'] at h
 exact Sem.wp_mono _ Γ _ (fun f p' s' h'=>h') (fun _ _ _ x=>x) p s h
theorem fC {R:Result→Shared→Prop} {L:Led} {nx tk:Nat} {f:Nat} {ob:Obj} {args:Args} {o1:List Nat} {body:List Stmt} {env:Env} (r:Rs) (hA:A.handled=none) (hroom:A.depth<recursionLimit) (rep:Rep (K w) h₀ gv L nx h)
  (hf:Fp w f ob) (pre:iB r) (hc:iR r=.func body env)
  (k:∀ h',Rep (K w) h₀ gv r.L r.nx h'→wpAny (model pw w) (A.deeper env) (execs body env) (fun f s'=>R (.ok (.ret (match f with | .ret v=>v | _=>.none))) s')
   (fun e s'=>wpAny (model pw w) (A.deeper env) (leaving env e) (fun _ s''=>R (.error e) s'') (fun e' s''=>R (.error e') s'') s') ⟨h',g,d,r.tk,os⟩)
  (e:r=ig w f (fdOf ob) args L nx tk o1):codeAny (model pw w) A (.call (.ref f) args) R ⟨h,g,d,tk,os⟩:=by
 unfold ig at e
 subst e
 obtain ⟨a,hf⟩:=Prod.mk.inj hf
 obtain ⟨b,hf⟩:=Prod.mk.inj hf
 obtain ⟨e1,e2⟩:=Prod.mk.inj hf
 refine jQ (rep.old f ob a) b e1 e2 hroom ?_
 let V:XC:={prog:=pw,w,K:=K w,g,d,os,A₀:=A.under (.call (.ref f) args),Q₀:=fun fin s'=>s'.heap.NoLimit∧∃ c,fin=.again c∧c.quiet=true∧codeAny (model pw w) A c R s',E₀:=fun e s'=>R (.error e) s',R₀:=fun _ _=>False}
 refine (sim_sound V h₀ gv hA [] aF.nil 2000 .base (Bt f (fdOf ob) args) L nx tk o1 [] [] [] pre.good.ok ?_).2 h rep
 obtain ⟨q1,q2⟩:=sE pre.ok
 refine lH q1 fun h' R'=>⟨au.noLimit R'.old,_,rfl,q2,?_⟩
 rw [hc]
 exact codeAny_func (k h' R')
end
section
variable {w:World} {A:Around} {R:Result→Shared→Prop}
theorem ab3:isSubtype (.type "StopIteration") (.type "Exception")=pure true:=by rw [isSubtype_type];symm
theorem ab4:isSubtype (.type "StopIteration") (.type "AttributeError")=pure false:=by rw [isSubtype_type];symm
theorem ab5:isSubtype (.type "StopIteration") (.type "NameError")=pure false:=by rw [isSubtype_type];symm
theorem Rj:Bind.madeHere "BaseException.__new__" (.type "StopIteration")=pure ():=by symm
theorem uK {hp:Heap} {g:Array GenState} {d:Drawn} {tk:Nat} {os:OsState}
  (h:R (.ok (.ret (.ref (hp.objs.size+1)))) ⟨(hp.push {cls:=.type "tuple",data:=.seq #[]}).push {cls:=.type "StopIteration",data:=.fields #[.ref hp.objs.size,.none,.none,.none,.bool false,.none]},g,d,tk,os⟩) :
  codeAny (model pw w) A (.builtin "Exception.__new__" ⟨[.type "StopIteration"],[]⟩) R ⟨hp,g,d,tk,os⟩:=by
 have hends:=F.excCall_Exception.ends
 have howner:=F.excCall_Exception.owner
 have hsub:=ab3
 have hna:=ab4
 have hnn:=ab5
 have hmade:=Rj
 refine codeAny_builtinAt F.excCall_Exception.entry ?_
 unfold Builtin.«BaseException.__new__»
 refine PySem.wpAt_bind ?_
 show PySem.wpAt _ _ _ (stack >>= _) _ _ _
 refine PySem.wpAt_bind (PySem.wpAt_stack fun p below=>PySem.wpAt_of_wpAny ?_)
 wp_walk
 refine PySem.wpAt_of_wpAny ?_
 rw [howner]
 wp_walk
 show R _ _
 rw [Heap.size_push]
 exact h
end
noncomputable def BK (o:Obj) (h':Heap) (b:Addr):Prop:=∃ sl,h'.get? b=some ⟨o.cls,o.dict,o.data,sl⟩
noncomputable def qg (h h':Heap) (b:Addr):Prop:=∀ o,h.get? b=some o→(o.cls≠.type "frame" → h'.get? b=some o)∧BK o h' b
structure ak (mod:List Addr) (h h':Heap):Prop where
 size:h.objs.size≤h'.objs.size
 get:∀ b,b∉mod→qg h h' b
 low:∀ b o,b<845→b∉mod→h.get? b=some o→h'.get? b=some o
theorem Keeps.f {mod:List Addr} {h h':Heap} (q:Keeps mod h h'):ak mod h h':=⟨q.size,fun b hb o e=>⟨fun _=>q.get b o e hb,o.slots,q.get b o e hb⟩,fun b o _ hb e=>q.get b o e hb⟩
theorem qg.trans {h h' h'':Heap} {b:Addr} (x:qg h h' b) (y:qg h' h'' b):qg h h'' b:=fun o e=>by
 obtain ⟨x1,sl,x2⟩:=x o e
 refine ⟨fun ne=>(y o (x1 ne)).1 ne,?_⟩
 obtain ⟨_,sl',y2⟩:=y _ x2
 exact ⟨sl',y2⟩
theorem ak.trans {m:List Addr} {h h' h'':Heap} (a:ak m h h') (b:ak m h' h''):ak m h h'':=⟨Nat.le_trans a.size b.size,fun x hx=>(a.get x hx).trans (b.get x hx),fun x o l hx e=>b.low x o l hx (a.low x o l hx e)⟩
theorem ak.mono {m m':List Addr} {h h':Heap} (a:ak m h h') (hm:∀ b∈m,b∈m'):ak m' h h':=⟨a.size,fun b hb=>a.get b fun x=>hb (hm b x),fun b o l hb=>a.low b o l fun x=>hb (hm b x)⟩
theorem Im {w:World} {a:Nat} {o:Obj} (e:K w a=some o):o.cls≠.type "frame" := by
 have all:∀ (t:KT),(KT.rec (motive:=fun _=>Bool) true (fun v _ _ l r=>(match v with | some o=>(match o.cls with | .type s=>s != "frame" | _=>true) | none=>true) && (l && r)) t:Bool)=true→∀ j o,t.get j=some o→o.cls≠.type "frame" := by
  intro t
  induction t with
  | nil=>intro _ j o e;exact nomatch e
  | node v l r il ir=>
   intro h j o e
   simp only [Bool.and_eq_true] at h
   obtain ⟨h1,h2,h3⟩:=h
   rw [KT.get_node] at e
   by_cases h0:j=0
   ·rw [if_pos h0] at e
    subst e
    intro q
    simp [q] at h1
   ·rw [if_neg h0] at e
    by_cases p:j % 2=1
    ·rw [if_pos p] at e;exact il h2 _ _ e
    ·rw [if_neg p] at e;exact ir h3 _ _ e
 exact all (kt w.params) (by symm) a o e
theorem ak.kok {w:World} {h h':Heap} {mod:List Addr} (q:ak mod h h') (k:au w h) (hm:∀ a∈mod,845≤a):au w h':=fun a o e=>(q.get a (fun m=>absurd (Mt e) (Nat.not_lt.mpr (hm a m))) o (k a o e)).1 (Im e)
noncomputable def aG (h:Heap) (l:List Env):Prop:=∀ env∈l,env.scope.kind≠.module∧∃ L o,env.frame=some L∧h.get? L=some o∧(o.cls=.type "frame" ∧ 845≤L)∧∀ vs,o.data≠.fields vs
theorem aG.keeps {h h':Heap} {l:List Env} (F:aG h l) (q:∀ env∈l,∀ L,env.frame=some L→qg h h' L):aG h' l:=fun env he=>by
 obtain ⟨k,L,o,e1,e2,e3,e4⟩:=F env he
 obtain ⟨_,sl,x⟩:=q env he L e1 o e2
 exact ⟨k,L,_,e1,x,e3,e4⟩
theorem aG.cons {h:Heap} {env:Env} {l:List Env} {L:Addr} {o:Obj} (F:aG h l) (k:env.scope.kind≠.module) (e1:env.frame=some L) (e2:h.get? L=some o) (e3:o.cls=.type "frame") (e4:∀ vs,o.data≠.fields vs) (lL:845≤L:=by first | exact Nat.le_add_left _ _ | (show (845:Nat)≤_;lia)):aG h (env::l):=fun env' he=>by
 rcases List.mem_cons.mp he with rfl | he
 ·exact ⟨k,L,o,e1,e2,⟨e3,lL⟩,e4⟩
 ·exact F env' he
theorem aG.nil {h:Heap}:aG h []:=fun _ x=>nomatch x
noncomputable def M5:Heap:=⟨#[],{}⟩
theorem aG.fun {h:Heap}:∀ {l:List Env},aG h l→h.FunFrames M5 l
 | [],_=>trivial
 | env::l,F=>by
  obtain ⟨k,L,o,e1,e2,e3,e4⟩:=F env (mem_cons_self ..)
  exact ⟨k,⟨L,o,e1,rfl,e2,e4⟩,aG.fun fun env' h=>F env' (mem_cons_of_mem _ h)⟩
noncomputable def fM (cls:String) (t:Addr) (tb c2 c3 c4 c5:Value):Obj:=⟨.type cls,none,.fields ⟨[.ref t,tb,c2,c3,c4,c5]⟩,⟨[]⟩⟩
noncomputable def qj (hd:Value) (L:Addr) (fl:Value) (pl:List Value):Obj:=⟨.type "traceback",none,.fields ⟨hd::.ref L::.none::fl::.none::pl⟩,⟨[]⟩⟩
structure vg (e:Addr) (h h':Heap):Prop where
 get:∀ b,b≠e→qg h h' b
 low:∀ b o,b<845→b≠e→h.get? b=some o→h'.get? b=some o
section
variable {M:Model} {A:Around} {E:Value→Shared→Prop} {s:Shared} {env:Env} {outer:List Env} {L e t:Addr} {cls:String} {tb c2 c3 c4 c5:Value} {Q:Unit→Shared→Prop}
noncomputable def headOk (h:Heap) (e:Addr) (tb:Value) (fl:Value):Prop:=tb=.none∨∃ T f pl h2,tb=.ref T∧T≠e∧h.get? T=some (qj h2 f fl pl)
theorem vh (hfr:A.frames=some (env::outer)) (F:aG s.heap (env::outer)) (hf:env.frame=some L) (he:s.heap.get? e=some (fM cls t tb c2 c3 c4 c5)) {head:Value} {hn:Bool}
  (h:∀ h' pl,h'.objs.size=s.heap.objs.size+1→vg e s.heap h'→h'.get? e=some (fM cls t (.ref s.heap.objs.size) c2 c3 c4 c5)→h'.get? s.heap.objs.size=some (qj head L (rawInt L) pl)→Q () {s with heap:=h'}) :
  wpAny M A (do let a ← frameOf env;let pl ← entryPlaceOf L hn;let b ← EntryCells.newEntry head a .none (rawInt L) .none pl;setField (.ref e) 1 b) Q E s:=by
 have FF:=F.fun
 refine wpAny_bind (wpAny_frameOf_fun hfr FF hf fun h1 s1=>?_)
 refine wpAny_bind (wpAny_entryPlaceOf fun pl hpl=>?_)
 unfold EntryCells.newEntry newFields
 refine wpAny_bind (wpAny_newObj_type ?_ (hpl.sizeOk5 _ _ _ _ _))
 have ein:∀ b,b∈(env::outer).filterMap (·.frame)→∃ o,s.heap.get? b=some o∧(o.cls=.type "frame" ∧ 845≤b)∧∀ vs,o.data≠.fields vs:=fun b hb=>by
  obtain ⟨env',h1,h2⟩:=List.mem_filterMap.mp hb
  obtain ⟨_,L',o,e1,e2,e3,e4⟩:=F env' h1
  rw [e1] at h2
  obtain rfl:=Option.some.inj h2
  exact ⟨o,e2,e3,e4⟩
 have hen:e∉(env::outer).filterMap (·.frame):=fun hm=>by
  obtain ⟨o,e1,_,e2⟩:=ein e hm
  rw [he] at e1
  exact e2 _ (congrArg Obj.data (Option.some.inj e1)).symm
 have he1:h1.get? e=some (fM cls t tb c2 c3 c4 c5):=(s1.2.1 e hen).trans he
 have he2:=Heap.get?_push_of_some (h:=h1) {cls:=.type "traceback",dict:=none,data:=.fields ([head,.ref L,.none,rawInt L,.none]++(if pl.isEmpty then List.replicate 6 Value.none else pl)).toArray} he1
 refine wpAny_setField he2 rfl (show 1<6 by lia) ?_
 have sz:h1.objs.size=s.heap.objs.size:=s1.1
 show Q () {s with heap:=(h1.push _).update e (Obj.mapFields (·.setIfInBounds 1 (Value.ref h1.objs.size)))}
 rw [sz]
 have ne:s.heap.objs.size≠e:=Nat.ne_of_gt (Heap.lt_size he)
 have key:∀ b o',b≠e→h1.get? b=some o'→((h1.push {cls:=.type "traceback",dict:=none,data:=.fields ([head,.ref L,.none,rawInt L,.none]++(if pl.isEmpty then List.replicate 6 Value.none else pl)).toArray}).update e (Obj.mapFields (·.setIfInBounds 1 (Value.ref s.heap.objs.size)))).get? b=some o':=fun b o' hb ho'=>by
  rw [Heap.get?_update_other _ _ (Ne.symm hb)]
  exact Heap.get?_push_of_some _ ho'
 refine h _ (if pl.isEmpty then List.replicate 6 Value.none else pl) ?_ ⟨fun b hb o ho=>?_,fun b o lb hb ho=>?_⟩ (Heap.get?_update_self _ he2 rfl) ?_
 ·rw [Heap.size_after_update,Heap.size_push,s1.1]
 ·refine ⟨fun nf=>key b o hb ?_,?_⟩
  ·rw [s1.2.1 b fun hm=>?_]
   ·exact ho
   ·obtain ⟨o',e1,e2,_⟩:=ein b hm
    rw [ho] at e1
    exact nf (Option.some.inj e1 ▸ e2.1)
  ·obtain ⟨sl,hs⟩:=s1.2.2 b o ho
   exact ⟨sl,key b _ hb hs⟩
 ·refine key b o hb ?_
  rw [s1.2.1 b fun hm=>?_]
  ·exact ho
  ·obtain ⟨o',e1,e2,_⟩:=ein b hm
   exact absurd lb (Nat.not_lt.mpr e2.2)
 ·rw [Heap.get?_update_other _ _ (Ne.symm ne),← s1.1]
  exact Heap.get?_push_size h1 rfl
theorem jU (hfr:A.frames=some (env::outer)) (F:aG s.heap (env::outer)) (hf:env.frame=some L) (he:s.heap.get? e=some (fM cls t tb c2 c3 c4 c5)) (ht:headOk s.heap e tb .none)
  (h:∀ h' pl,h'.objs.size=s.heap.objs.size+1→vg e s.heap h'→h'.get? e=some (fM cls t (.ref s.heap.objs.size) c2 c3 c4 c5)→h'.get? s.heap.objs.size=some (qj tb L (rawInt L) pl)→Q () {s with heap:=h'}) :
  wpAny M A (noteFrame (.ref e) env) Q E s:=by
 unfold noteFrame
 simp only [hf]
 refine wpAny_bind (wpAny_field he rfl (i:=1) (x:=tb) rfl ?_)
 rcases ht with rfl | ⟨T,f,pl,h2,rfl,ne,hT⟩
 ·rw [if_neg (by decide)]
  exact vh hfr F hf he h
 ·rw [if_pos (show (Value.ref T != Value.none)=true from by simp)]
  refine wpAny_bind (wpAny_field hT rfl (i:=3) (x:=.none) rfl ?_)
  rw [if_neg (show ¬ ((Value.none == rawInt L)=true) from by simp [rawInt])]
  refine wpAny_bind (wpAny_setField hT rfl (by simp) ?_)
  rw [Heap.update_setField_same _ T _ _ 3 .none hT rfl rfl]
  exact vh hfr F hf he h
theorem land {T:Addr} {hd fl:Value} {f:Addr} {pl:List Value} (he:s.heap.get? e=some (fM cls t (.ref T) c2 c3 c4 c5)) (hT:s.heap.get? T=some (qj hd f fl pl))
  (h:∀ h',h'.objs.size=s.heap.objs.size→(∀ b,b≠T→h'.get? b=s.heap.get? b)→h'.get? T=some (qj hd f .none pl)→Q () {s with heap:=h'}):wpAny M A (setFlight (.ref e) none) Q E s:=by
 refine wpAny_setFlight_none he rfl rfl hT rfl (by simp) (h _ ?_ (fun b hb=>?_) ?_)
 ·rw [Heap.size_after_update]
 ·exact Heap.get?_update_other _ _ (Ne.symm hb)
 ·exact Heap.get?_update_self _ hT rfl
theorem jk (hfr:A.frames=some (env::outer)) (F:aG s.heap (env::outer)) (hf:env.frame=some L) (he:s.heap.get? e=some (fM cls t tb c2 c3 c4 c5)) (ht:headOk s.heap e tb .none)
  (h:∀ h' pl,h'.objs.size=s.heap.objs.size+1→vg e s.heap h'→h'.get? e=some (fM cls t (.ref s.heap.objs.size) c2 c3 c4 c5)→h'.get? s.heap.objs.size=some (qj tb L .none pl)→Q () {s with heap:=h'}) :
  wpAny M A (leaving env (.ref e)) Q E s:=by
 unfold leaving
 refine wpAny_bind (jU hfr F hf he ht fun h1 pl e1 e2 e3 e4=>land e3 e4 fun h2 z1 z2 z3=>h h2 pl (z1.trans e1) ⟨fun b hb o ho=>?_,fun b o lb hb ho=>?_⟩ ?_ z3)
 ·have nb:b≠s.heap.objs.size:=Nat.ne_of_lt (Heap.lt_size ho)
  obtain ⟨x1,sl,x2⟩:=e2.get b hb o ho
  exact ⟨fun nf=>(z2 b nb).trans (x1 nf),sl,(z2 b nb).trans x2⟩
 ·exact (z2 b (Nat.ne_of_lt (Heap.lt_size ho))).trans (e2.low b o lb hb ho)
 ·exact (z2 e (Nat.ne_of_lt (Heap.lt_size he))).trans e3
theorem leave_held {T:Addr} {hd:Value} {pl:List Value} (hf:env.frame=some L) (he:s.heap.get? e=some (fM cls t (.ref T) c2 c3 c4 c5)) (hT:s.heap.get? T=some (qj hd L (rawInt L) pl))
  (h:∀ h',h'.objs.size=s.heap.objs.size→(∀ b,b≠T→h'.get? b=s.heap.get? b)→h'.get? T=some (qj hd L .none pl)→Q () {s with heap:=h'}):wpAny M A (leaving env (.ref e)) Q E s:=by
 unfold leaving
 refine wpAny_bind (wpAny_noteFrame_inFlight hf he rfl rfl hT rfl rfl ?_)
 exact land he hT h
end
structure dz (h h':Heap) (cls:String) (args:List Value) (e t T:Addr) (hd:Value) (f:Addr) (fl:Value) (pl:List Value):Prop where
 lo:h.objs.size≤e∧h.objs.size≤t∧h.objs.size≤T
 ne:e≠t∧e≠T∧t≠T
 exc:h'.get? e=some (fM cls t (.ref T) .none .none (.bool false) .none)
 tup:h'.get? t=some ⟨.type "tuple",none,.seq ⟨args⟩ 0,⟨[]⟩⟩
 tb:h'.get? T=some (qj hd f fl pl)
noncomputable def HN (h':Heap) (i:Nat) (o:Obj):Obj:=if i<845 then o else match h'.get? i with
 | some o'=>if o.cls=.type "frame" then ⟨o.cls,o.dict,o.data,o'.slots⟩ else o
 | none=>o
theorem Bc {h':Heap} {i:Nat} {o:Obj} (l:i<845):HN h' i o=o:=if_pos l
theorem xO {h':Heap} {i:Nat} {o:Obj}:∃ sl,HN h' i o=⟨o.cls,o.dict,o.data,sl⟩:=by
 unfold HN
 split
 ·exact ⟨o.slots,rfl⟩
 ·split
  ·split
   ·exact ⟨_,rfl⟩
   ·exact ⟨o.slots,rfl⟩
  ·exact ⟨o.slots,rfl⟩
theorem Fy {h':Heap} {i:Nat} {o:Obj} (ne:o.cls≠.type "frame"):HN h' i o=o:=by
 unfold HN
 split
 ·rfl
 ·split
  ·first | rfl | rw [if_neg ne]
  ·rfl
theorem vm {h':Heap} {i:Nat} {o:Obj}:(HN h' i o).isFreed=o.isFreed:=by
 obtain ⟨sl,e⟩:=xO (h':=h') (i:=i) (o:=o)
 rw [e]
 obtain ⟨c,d,dt,s⟩:=o
 cases dt <;> rfl
noncomputable def tC (h h':Heap):Heap:={h with objs:=h.objs.mapIdx fun i o=>HN h' i o}
theorem lN {h h':Heap} {b:Addr} {o:Obj} (e:h.get? b=some o):(tC h h').get? b=some (HN h' b o):=by
 obtain ⟨e1,e2⟩:=Heap.get?_some_iff.mp e
 refine Heap.get?_some_iff.mpr ⟨?_,vm.trans e2⟩
 show (Array.mapIdx _ _)[b]? = _
 rw [Array.getElem?_mapIdx,e1];rfl
theorem xP {h h':Heap} {b:Addr} {o':Obj} (e:(tC h h').get? b=some o'):∃ o,h.get? b=some o∧o'=HN h' b o:=by
 obtain ⟨e1,e2⟩:=Heap.get?_some_iff.mp e
 have e3:(Array.mapIdx _ _)[b]? = some o':=e1
 rw [Array.getElem?_mapIdx] at e3
 cases q:h.objs[b]? with
 | none=>rw [q] at e3;cases e3
 | some o=>
  rw [q] at e3
  have e4:=Option.some.inj e3
  refine ⟨o,Heap.get?_some_iff.mpr ⟨q,?_⟩,e4.symm⟩
  rw [← e4,vm] at e2
  exact e2
theorem jV {h h':Heap}:(tC h h').objs.size=h.objs.size:=by simp [tC]
structure xQ (h h':Heap):Prop where
 size:h'.objs.size=h.objs.size
 get:∀ b,qg h h' b
 low:∀ b o,b<845→h.get? b=some o→h'.get? b=some o
theorem xQ.keeps {h h' h'':Heap} {m:List Addr} (a:xQ h h') (b:ak m h' h''):ak m h h'':=⟨a.size ▸ b.size,fun x hx=>(a.get x).trans (b.get x hx),fun x o l hx e=>b.low x o l hx (a.low x o l e)⟩
section
variable {w:World} {h₀ h h':Heap} {gv mod:List Addr} {L L' news:Led} {nx:Nat}
theorem Rep.afterF (R:Rep (K w) h₀ gv L nx h) (q:ak mod h h') (hm:∀ a∈mod,845≤a) (e1:L'.map Prod.fst=L.map Prod.fst) (hmod:∀ a∈mod,a∈L.map Prod.fst)
  (own:∀ p∈L',(p∈L∧p.1∉mod∧p.2.cls≠.type "frame")∨h'.get? p.1=some p.2) (n1:∀ p∈news,h.objs.size≤p.1) (n2:∀ p∈news,h'.get? p.1=some p.2) (n3:(news.map Prod.fst).Nodup) :
  ∃ h₁,xQ h₀ h₁∧Rep (K w) h₁ gv (news++L') h'.objs.size h':=by
 have lt:∀ p∈L',p.1<h.objs.size:=fun p hp=>by
  have:p.1∈L.map Prod.fst:=e1 ▸ mem_map_of_mem hp
  obtain ⟨p',hp',e⟩:=List.mem_map.mp this
  exact e ▸ Heap.lt_size (R.own p' hp')
 have k:=R.old
 have low:∀ a o,K w a=some o→a<h.objs.size:=fun a o e=>Heap.lt_size (k a o e)
 refine ⟨tC h₀ h',⟨jV,fun b o e=>⟨fun nf=>?_,?_⟩,fun b o l e=>by rw [lN e,Bc l]⟩,rfl,q.kok (w:=w) k hm,fun p hp=>?_,?_,fun p hp=>?_,fun b o e hb=>?_,?_,fun p hp=>?_⟩
 ·rw [lN e,Fy nf]
 ·obtain ⟨sl,x⟩:=xO (h':=h') (i:=b) (o:=o)
  exact ⟨sl,by rw [lN e,x]⟩
 ·rcases List.mem_append.mp hp with hp | hp
  ·exact n2 p hp
  ·rcases own p hp with ⟨x,y,z⟩ | x
   ·exact (q.get p.1 y p.2 (R.own p x)).1 z
   ·exact x
 ·rw [List.map_append,List.nodup_append]
  refine ⟨n3,by rw [e1];exact R.nd,fun a ha b hb=>?_⟩
  obtain ⟨p,hp,rfl⟩:=List.mem_map.mp ha
  obtain ⟨p',hp',rfl⟩:=List.mem_map.mp hb
  intro e
  have x:=lt p' hp'
  rw [← e] at x
  exact absurd (n1 p hp) (Nat.not_le.mpr x)
 ·rcases List.mem_append.mp hp with hp | hp
  ·cases e:K w p.1 with
   | none=>rfl
   | some o=>exact absurd (n1 p hp) (Nat.not_le.mpr (low _ _ e))
  ·have:p.1∈L.map Prod.fst:=e1 ▸ mem_map_of_mem hp
   obtain ⟨p',hp',e⟩:=List.mem_map.mp this
   rw [← e];exact R.apart p' hp'
 ·rw [List.map_append,List.mem_append,not_or,e1] at hb
  obtain ⟨o',e',eo⟩:=xP e
  have a:=R.frame b o' e' hb.2
  obtain ⟨x1,sl,x2⟩:=q.get b (fun m=>hb.2 (hmod b m)) o' a
  by_cases lb:b<845
  ·rw [eo,Bc lb];exact q.low b o' lb (fun m=>hb.2 (hmod b m)) a
  by_cases c:o'.cls=.type "frame"
  ·rw [eo,x2];unfold HN;rw [if_neg lb,x2];simp only [if_pos c]
  ·rw [eo,Fy c];exact x1 c
 ·rw [jV];exact Nat.le_trans R.grow q.size
 ·rw [jV]
  rcases List.mem_append.mp hp with hp | hp
  ·exact .inr (Nat.le_trans R.grow (n1 p hp))
  ·have:p.1∈L.map Prod.fst:=e1 ▸ mem_map_of_mem hp
   obtain ⟨p',hp',e⟩:=List.mem_map.mp this
   rw [← e];exact R.new p' hp'
theorem Rep.fr {l:List Env} (R:Rep (K w) h₀ gv L nx h) (F:aG h₀ l) (hg:∀ env∈l,∀ a,env.frame=some a→a∉gv):aG h l:=by
 refine F.keeps fun env he a ea o ho=>?_
 have:h.get? a=some o:=R.frame a o ho fun hm=>by
  obtain ⟨p,hp,rfl⟩:=List.mem_map.mp hm
  rcases R.new p hp with x | x
  ·exact hg env he _ ea x
  ·exact absurd (Heap.lt_size ho) (Nat.not_lt.mpr x)
 exact ⟨fun _=>this,o.slots,this⟩
end
theorem xQ.fr {h h':Heap} {l:List Env} (a:xQ h h') (F:aG h l):aG h' l:=F.keeps fun _ _ b _=>a.get b
noncomputable def eV (o:Obj):Bool:=match o.data with | .dict _ _=>true | _=>false
noncomputable def gY (env:Env):Bool:=match env.scope.kind with | .module=>false | _=>true
theorem Rep.frCons {w:World} {h₀ h:Heap} {gv:List Addr} {L:Led} {nx:Nat} {env:Env} {l:List Env} (R:Rep (K w) h₀ gv L nx h) (F:aG h l) (i:Nat) {a:Addr}
  (e:(L[i]?.map fun p=>(p.1,p.2.cls,eV p.2),env.frame,gY env)=(some (a,.type "frame",true),some a,true)) (la:845≤a:=by first | exact Nat.le_add_left _ _ | (show (845:Nat)≤_;lia)):aG h (env::l):=by
 obtain ⟨e1,e⟩:=Prod.mk.inj e
 obtain ⟨e2,e3⟩:=Prod.mk.inj e
 cases q:L[i]? with
 | none=>rw [q] at e1;cases e1
 | some p=>
  rw [q] at e1
  have e1:=Option.some.inj e1
  obtain ⟨f1,e1⟩:=Prod.mk.inj e1
  obtain ⟨f2,f3⟩:=Prod.mk.inj e1
  refine F.cons (o:=p.2) ?_ e2 (f1 ▸ R.own p (List.mem_of_getElem? q)) f2 ?_ la
  ·intro x
   unfold gY at e3
   rw [x] at e3
   cases e3
  ·intro vs x
   unfold eV at f3
   rw [x] at f3
   cases f3
theorem Rep.fly {w:World} {h₀ h h':Heap} {gv mod:List Addr} {a:Addr} {o:Obj} {L L' news:Led} {nx:Nat} (R:Rep (K w) h₀ gv ((a,o)::L) nx h) (q:ak mod h h') (ha:a∉mod) (hm:∀ m∈mod,845≤m) (e1:L'.map Prod.fst=L.map Prod.fst) (hmod:∀ m∈mod,m∈L.map Prod.fst)
  (own:∀ p∈L',(p∈L∧p.1∉mod∧p.2.cls≠.type "frame")∨h'.get? p.1=some p.2) (n1:∀ p∈news,h.objs.size≤p.1) (n2:∀ p∈news,h'.get? p.1=some p.2) (n3:(news.map Prod.fst).Nodup) :
  ∃ sl h₁,xQ h₀ h₁∧Rep (K w) h₁ gv (news++(a,⟨o.cls,o.dict,o.data,sl⟩)::L') h'.objs.size h':=by
 obtain ⟨_,sl,hs⟩:=q.get a ha o (R.own _ (mem_cons_self ..))
 obtain ⟨h₁,S1,R1⟩:=R.afterF q hm (L':=(a,⟨o.cls,o.dict,o.data,sl⟩)::L') (by simp [e1]) (fun m hm=>by simp only [map_cons,mem_cons];exact .inr (hmod m hm)) (fun p hp=>by
  rcases List.mem_cons.mp hp with rfl | hp
  ·exact .inr hs
  ·rcases own p hp with ⟨x,y⟩ | x
   ·exact .inl ⟨mem_cons_of_mem _ x,y⟩
   ·exact .inr x) n1 n2 n3
 exact ⟨sl,h₁,S1,R1⟩
theorem aG.apart {h:Heap} {l:List Env} {G:Led} (F:aG h l) (own:∀ p∈G,h.get? p.1=some p.2) (nf:∀ p∈G,p.2.cls≠.type "frame"):∀ env∈l,∀ a,env.frame=some a→a∉G.map Prod.fst:=fun env he a ea hm=>by
 obtain ⟨_,L,o,e1,e2,e3,_⟩:=F env he
 rw [ea] at e1
 obtain rfl:=Option.some.inj e1
 obtain ⟨p,hp,rfl⟩:=List.mem_map.mp hm
 rw [own p hp] at e2
 exact nf p hp (Option.some.inj e2 ▸ e3.1)
theorem vg.f {h h':Heap} {e:Addr} (x:vg e h h') (s:h'.objs.size=h.objs.size+1):ak [e] h h':=⟨by lia,fun b hb=>x.get b (by simpa using hb),fun b o l hb=>x.low b o l (by simpa using hb)⟩
theorem ak.late {h h1 h2:Heap} {m m':List Addr} (a:ak m h h1) (b:ak m' h1 h2) (lo:∀ e∈m',h.objs.size≤e):ak m h h2:=⟨Nat.le_trans a.size b.size,fun x hx=>by
 intro o ho
 have:x∉m':=fun hm=>absurd (lo x hm) (Nat.not_le.mpr (Heap.lt_size ho))
 exact (a.get x hx).trans (b.get x this) o ho,fun x o l hx e=>by
 have:x∉m':=fun hm=>absurd (lo x hm) (Nat.not_le.mpr (Heap.lt_size e))
 exact b.low x o l this (a.low x o l hx e)⟩
inductive Mo where
 | sp | a | sq | dq | ea | eq
inductive Out where
 | brk (sp:Bool) (tok:List Nat) (qd:Bool) (rest:List Nat)
 | bad (esc:Bool)
noncomputable def sgn:List Nat:=[32,9,13,10,39,34,92,97,98,120,233,35,36,160]
theorem U6:∀ c∈sgn,c∈[32,9,13]∨c=10∨c=39∨c=34∨c=92∨c∈[97,98,120,233]∨c∈[35,36,160]:=by decide
theorem sgB:∀ c∈sgn,c∈[32,9,13,34,97,98,120,233,35,36,160]∨c=10∨c=39∨c=92:=by decide
theorem U7:∀ c∈sgn,c∈[32,9,13,39,97,98,120,233,35,36,160]∨c=10∨c=34∨c=92:=by decide
theorem sgD:∀ c∈sgn,c∈[32,9,13,39,34,92,97,98,120,233,35,36,160]∨c=10:=by decide
noncomputable def rt:List Nat→Mo→List Nat→Bool→Out
 | [],.sp,tok,qd=>.brk false tok qd []
 | [],.a,tok,qd=>.brk false tok qd []
 | [],.sq,_,_=>.bad false
 | [],.dq,_,_=>.bad false
 | [],.ea,_,_=>.bad true
 | [],.eq,_,_=>.bad true
 | c::cs,.sp,tok,qd=>if c=32∨c=9∨c=13∨c=10 then rt cs .sp tok qd else if c=92 then rt cs .ea tok qd else if c=39 then rt cs .sq tok qd else if c=34 then rt cs .dq tok qd else rt cs .a [c] qd
 | c::cs,.a,tok,qd=>if c=32∨c=9∨c=13∨c=10 then .brk true tok qd cs else if c=92 then rt cs .ea tok qd else if c=39 then rt cs .sq tok qd else if c=34 then rt cs .dq tok qd else rt cs .a (tok++[c]) qd
 | c::cs,.sq,tok,_=>if c=39 then rt cs .a tok true else rt cs .sq (tok++[c]) true
 | c::cs,.dq,tok,_=>if c=34 then rt cs .a tok true else if c=92 then rt cs .eq tok true else rt cs .dq (tok++[c]) true
 | c::cs,.ea,tok,qd=>rt cs .a (tok++[c]) qd
 | c::cs,.eq,tok,qd=>rt cs .dq (if c=34∨c=92 then tok++[c] else tok++[92]++[c]) qd
noncomputable def KD (m:Mo) (t:Nat):Value:=match m with
 | .sp=>.str (S [32]) t
 | .a=>.str (S [97]) t
 | .sq=>.str (S [39]) t
 | .dq=>.str (S [34]) t
 | .ea=>.str (S [92]) t
 | .eq=>.str (S [92]) t
noncomputable def vo (m:Mo) (v:Value) (t:Nat):Prop:=match m with
 | .ea=>v=.str (S [97]) t
 | .eq=>v=.str (S [34]) t
 | _=>True
noncomputable def Fz (m:Mo) (tok:List Nat) (qd:Bool):Prop:=match m with
 | .sp=>tok=[]∧qd=false
 | .a=>tok=[]→qd=true
 | .sq=>True
 | .dq=>True
 | .ea=>True
 | .eq=>True
noncomputable def eZ (r:RS):=(r.loc,r.self,r.sd,r.mq,r.sS,r.sU,r.bh,r.kt,r.vt,r.buf)
theorem BL {a b:RS} (e:eZ a=eZ b):a.loc=b.loc:=congrArg (·.1) e
theorem Rk {a b:RS} (e:eZ a=eZ b):a.sd=b.sd:=congrArg (·.2.2.1) e
theorem Rm {a b:RS} (e:eZ a=eZ b):a.bh=b.bh:=congrArg (·.2.2.2.2.2.2.1) e
theorem M6 {a b:RS} (e:eZ a=eZ b):a.buf=b.buf:=congrArg (·.2.2.2.2.2.2.2.2.2) e
theorem RS.upl {r:RS} {l:Nat} {q:Bool} {n:Option Value} {t:PySem.Str} (e0:r.loc=l) (e1:r.qd=q) (e2:r.nc=n) (e3:r.tok=t):r={r with loc:=l,qd:=q,nc:=n,tok:=t}:=by
 subst e0 e1 e2 e3
 rfl
theorem Has.cast {w:World} {h:Heap} {r r':RS} (H:Has w h r) (e:r=r'):Has w h r':=e ▸ H
theorem cj {l cs:List Nat} {p c:Nat} (e:l.drop p=c::cs):l[p]? = some c∧l.drop (p+1)=cs:=by
 have h1:(l.drop p)[0]? = some c:=by rw [e];rfl
 refine ⟨by simpa using h1,?_⟩
 rw [← List.drop_drop,e]
 rfl
structure At (w:World) (h:Heap) (r:RS) (m:Mo) (l:List Nat) (q:Bool) (cs:List Nat) (ts te:Nat):Prop where
 has:Has w h r
 hcs:r.buf.cps.toList.drop r.p=cs
 p:r.p≤r.buf.length
 sg:∀ c∈cs,c∈sgn
 mo:Fz m l q
 st:r.st=KD m ts
 esc:vo m r.esc te
 tok:r.tok=S l
 qd:r.qd=q
 len:l.length+2*cs.length<8000
 b1:r.buf.length<1000
 b2:2≤r.buf.length
section
variable {w:World} {g:Array GenState} {d:Drawn} {os:OsState} {A:Around} {R:Result→Shared→Prop}
noncomputable def Brk (w:World) (g:Array GenState) (d:Drawn) (os:OsState) (R:Result→Shared→Prop) (h:Heap) (r:RS) (sp:Bool) (tok:List Nat) (qd:Bool) (rest:List Nat):Prop:=
 ∀ h' tk' r' t,Keeps [r.loc,r.sd,r.bh] h h'→Has w h' r'→eZ r'=eZ r→r'.st=(if sp then .str (S [32]) t else .none)→r'.tok=S tok→r'.qd=qd→r'.buf.cps.toList.drop r'.p=rest→r'.p≤r'.buf.length→(∃ v,r'.nc=some v)→R (.ok .next) ⟨h',g,d,tk',os⟩
noncomputable def Bad (w:World) (g:Array GenState) (d:Drawn) (os:OsState) (A:Around) (R:Result→Shared→Prop) (h:Heap) (r:RS) (esc:Bool):Prop:=
 ∀ h' tk' r' t u m,Keeps [r.loc,r.sd,r.bh] h h'→Has w h' r'→eZ r'=eZ r→(esc=false→m=.sq∨m=.dq)→(esc=true→m=.ea∨m=.eq)→r'.st=KD m t→vo m r'.esc u→r'.p=r'.buf.length→(∃ v,r'.nc=some v)→codeAny (model pw w) A (bk r.loc) R ⟨h',g,d,tk',os⟩
noncomputable def Post (w:World) (g:Array GenState) (d:Drawn) (os:OsState) (A:Around) (R:Result→Shared→Prop) (h:Heap) (r:RS):Out→Prop
 | .brk sp tok qd rest=>Brk w g d os R h r sp tok qd rest
 | .bad e=>Bad w g d os A R h r e
theorem Post.trans {h h1:Heap} {r r1:RS} {o:Out} (K1:Keeps [r.loc,r.sd,r.bh] h h1) (e:eZ r1=eZ r) (P:Post w g d os A R h r o):Post w g d os A R h1 r1 o:=by
 have e1:=BL e
 have e3:=Rk e
 have e7:=Rm e
 cases o with
 | brk sp tok qd rest=>
  intro h' tk' r' t K H s a b c d' e' f
  rw [e1,e3,e7] at K
  exact P h' tk' r' t (K1.trans K) H (s.trans e) a b c d' e' f
 | bad esc=>
  intro h' tk' r' t u m K H s a b c d' e' f
  rw [e1,e3,e7] at K
  have:=P h' tk' r' t u m (K1.trans K) H (s.trans e) a b c d' e' f
  rw [e1]
  exact this
theorem mods {h:Heap} {r:RS} (H:Has w h r):∀ a∈[r.loc,r.sd,r.bh],845≤a:=by
 have lo:=H.lo
 simp only [RS.led,mem_cons,not_mem_nil,or_false,forall_eq_or_imp,forall_eq] at lo
 intro a ha
 simp only [mem_cons,not_mem_nil,or_false] at ha
 rcases ha with rfl | rfl | rfl
 ·exact lo.1
 ·exact lo.2.2.1
 ·exact lo.2.2.2.2.2.2
theorem RS.upd {r:RS} {s:Value} {n:Option Value} {e:Value} {t:PySem.Str} {q:Bool} (e1:r.st=s) (e2:r.nc=n) (e3:r.esc=e) (e4:r.tok=t) (e5:r.qd=q):r={r with st:=s,nc:=n,esc:=e,tok:=t,qd:=q}:=by
 subst e1 e2 e3 e4 e5
 rfl
noncomputable def iu (P:Nat→Prop):List Nat→Prop
 | []=>True
 | x::l=>P x∧iu P l
theorem iu.get {P:Nat→Prop} {c:Nat}:∀ {l:List Nat},c∈l→iu P l→P c
 | _::_,.head _,⟨p,_⟩=>p
 | _::_,.tail _ m,⟨_,q⟩=>iu.get m q
theorem lQ {x c:Nat} {xs cs:List Nat} (h:(x::xs).length+2*(c::cs).length<8000):xs.length<9000:=by simp at h;lia
theorem Dz (l:List Nat) (c:Nat) (q:Bool):Fz .a (l++[c]) q:=by simp [Fz]
theorem HS (l:List Nat):[].length (α:=Nat)≤l.length+2:=Nat.zero_le _
theorem le1 (l:List Nat):l.length≤l.length+2:=Nat.le_add_right _ _
theorem le2 (l:List Nat) (c:Nat):(l++[c]).length≤l.length+2:=by simp
theorem U8 (l:List Nat) (c:Nat):(l++[92]++[c]).length≤l.length+2:=by simp
noncomputable def Ih (w:World) (g:Array GenState) (d:Drawn) (os:OsState) (A:Around) (R:Result→Shared→Prop) (cs:List Nat):Prop:=
 ∀ (m:Mo) (tok:List Nat) (qd:Bool) (r:RS) (h:Heap) (tk ts te:Nat) (nv:Value),At w h r m tok qd cs ts te→r.nc=some nv→au w h →
  Post w g d os A R h r (rt cs m tok qd)→codeAny (model pw w) A (bk r.loc) R ⟨h,g,d,tk,os⟩
theorem aW {c:Nat} {cs:List Nat} (ih:Ih w g d os A R cs) {m0:Mo} {l0:List Nat} {q0:Bool} {r:RS} {h:Heap} {ts0 te0:Nat} (X:At w h r m0 l0 q0 (c::cs) ts0 te0) (k:au w h) (gc:r.buf.cps.toList[r.p]? = some c) (gd:r.buf.cps.toList.drop (r.p+1)=cs)
  (post:Post w g d os A R h r (rt (c::cs) m0 l0 q0)) (m:Mo) (tok':List Nat) (M7:Bool) (eo:rt (c::cs) m0 l0 q0=rt cs m tok' M7) (mo:Fz m tok' M7) (le:tok'.length≤l0.length+2) {r':RS} {h':Heap} (tk' ts te:Nat) (nv:Value) (H':Has w h' r') (K:Keeps [r.loc,r.sd,r.bh] h h') (e:eZ r'=eZ r) (ep:r'.p=r.p+1) (est:r'.st=KD m ts)
  (Rn:vo m r'.esc te) (qZ:r'.tok=S tok') (Ro:r'.qd=M7) (enc:r'.nc=some nv):codeAny (model pw w) A (bk r.loc) R ⟨h',g,d,tk',os⟩:=by
 have e1:=BL e
 have e10:=M6 e
 have lt:=(List.getElem?_eq_some_iff.mp gc).1
 have z:=X.len
 rw [eo] at post
 rw [← e1]
 refine ih m tok' M7 r' h' tk' ts te nv ⟨H',?_,?_,fun c' hc'=>X.sg c' (mem_cons_of_mem _ hc'),mo,est,Rn,qZ,Ro,?_,?_,?_⟩ enc (K.kok k (mods X.has)) (post.trans K e)
 ·rw [e10,ep];exact gd
 ·rw [e10,ep];simp [Str.length] at lt ⊢;lia
 ·simp at z;lia
 ·rw [e10];exact X.b1
 ·rw [e10];exact X.b2
theorem Bd {c:Nat} {cs:List Nat} {m0:Mo} {l0:List Nat} {q0:Bool} {r:RS} {h:Heap} {ts0 te0:Nat} (X:At w h r m0 l0 q0 (c::cs) ts0 te0) (gc:r.buf.cps.toList[r.p]? = some c)
  (post:Post w g d os A R h r (rt (c::cs) m0 l0 q0)) (eo:rt (c::cs) m0 l0 q0=.brk true l0 q0 cs) {r':RS} {h':Heap} {tk' t:Nat} (K:Keeps [r.loc,r.sd,r.bh] h h') (H':Has w h' r') (e:eZ r'=eZ r) (est:r'.st=.str (S [32]) t) (qZ:r'.tok=S l0) (Ro:r'.qd=q0) (ep:r'.p=r.p+1) (enc:∃ v,r'.nc=some v):R (.ok .next) ⟨h',g,d,tk',os⟩:=by
 rw [eo] at post
 have lt:=(List.getElem?_eq_some_iff.mp gc).1
 have e10:=M6 e
 refine post h' tk' r' t K H' e est qZ Ro ?_ ?_ enc
 ·rw [e10,ep];exact (cj X.hcs).2
 ·rw [e10,ep];simp [Str.length] at lt ⊢;lia
theorem At.eof {w:World} {h:Heap} {r:RS} {m:Mo} {l:List Nat} {q:Bool} {ts te:Nat} (X:At w h r m l q [] ts te):r.p=r.buf.length:=by
 have a:=X.p
 have b:=X.hcs
 rw [List.drop_eq_nil_iff] at b
 simp [Str.length] at a b ⊢
 lia
theorem FJ (hA:A.handled=none) (hD:A.depth+4<recursionLimit) {c:Nat} {cs:List Nat} (ih:Ih w g d os A R cs) {r:RS} {h:Heap} {tk ts te:Nat} {nv:Value} (X:At w h r .sp [] false (c::cs) ts te) (hnc:r.nc=some nv) (k:au w h)
  (post:Post w g d os A R h r (rt (c::cs) .sp [] false)):codeAny (model pw w) A (bk r.loc) R ⟨h,g,d,tk,os⟩:=by
 obtain ⟨gc,gd⟩:=cj X.hcs
 rcases U6 c (X.sg c (mem_cons_self ..)) with hc | hc | hc | hc | hc | hc | hc
 ·refine qY hc hA hD k (ts:=ts) (te:=te) (nv:=nv) (X.has.cast (RS.upd X.st hnc rfl X.tok X.qd)) gc X.b1 X.b2 ?_
  intro h' tk' aV aD aH aq ao bY tp K H'
  exact aW ih X k gc gd post .sp [] false (iu.get (P:=fun c=>rt (c::cs) .sp [] false=rt cs .sp [] false) hc ⟨rfl,rfl,rfl,trivial⟩) ⟨rfl,rfl⟩ (HS _) tk' ts aD (.str (S [c]) aH) H' K rfl rfl rfl trivial rfl rfl rfl
 ·refine pC  hA hD k (ts:=ts) (te:=te) (nv:=nv) (X.has.cast (RS.upd X.st hnc rfl X.tok X.qd)) (hc ▸ gc) X.b1 X.b2 ?_
  intro h' tk' aV aD aH aq ao bY tp K H'
  exact aW ih X k gc gd post .sp [] false (sb (P:=fun c=>rt (c::cs) .sp [] false=rt cs .sp [] false) hc.symm rfl) ⟨rfl,rfl⟩ (HS _) tk' ts aD (.str (S [10]) aH) H' K rfl rfl rfl trivial rfl rfl rfl
 ·refine oR  hA hD k (ts:=ts) (te:=te) (nv:=nv) (X.has.cast (RS.upd X.st hnc rfl X.tok X.qd)) (hc ▸ gc) X.b1 X.b2 ?_
  intro h' tk' aV aD aH aq ao bY tp K H'
  exact aW ih X k gc gd post .sq [] false (sb (P:=fun c=>rt (c::cs) .sp [] false=rt cs .sq [] false) hc.symm rfl) trivial (HS _) tk' aV aD (.str (S [39]) aH) H' K rfl rfl rfl trivial rfl rfl rfl
 ·refine oY  hA hD k (ts:=ts) (te:=te) (nv:=nv) (X.has.cast (RS.upd X.st hnc rfl X.tok X.qd)) (hc ▸ gc) X.b1 X.b2 ?_
  intro h' tk' aV aD aH aq ao bY tp K H'
  exact aW ih X k gc gd post .dq [] false (sb (P:=fun c=>rt (c::cs) .sp [] false=rt cs .dq [] false) hc.symm rfl) trivial (HS _) tk' aV aD (.str (S [34]) aH) H' K rfl rfl rfl trivial rfl rfl rfl
 ·refine oV  hA hD k (ts:=ts) (te:=te) (nv:=nv) (X.has.cast (RS.upd X.st hnc rfl X.tok X.qd)) (hc ▸ gc) X.b1 X.b2 ?_
  intro h' tk' aV aD aH aq ao bY tp K H'
  exact aW ih X k gc gd post .ea [] false (sb (P:=fun c=>rt (c::cs) .sp [] false=rt cs .ea [] false) hc.symm rfl) trivial (HS _) tk' aV aD (.str (S [92]) aH) H' K rfl rfl rfl rfl rfl rfl rfl
 ·refine qI hc hA hD k (ts:=ts) (te:=te) (nv:=nv) (X.has.cast (RS.upd X.st hnc rfl X.tok X.qd)) gc X.b1 X.b2 ?_
  intro h' tk' aV aD aH aq ao bY tp K H'
  exact aW ih X k gc gd post .a [c] false (iu.get (P:=fun c=>rt (c::cs) .sp [] false=rt cs .a [c] false) hc ⟨rfl,rfl,rfl,rfl,trivial⟩) (Dz [] _ _) (le2 [] _) tk' aV aD (.str (S [c]) aH) H' K rfl rfl rfl trivial rfl rfl rfl
 ·refine qX hc hA hD k (ts:=ts) (te:=te) (nv:=nv) (X.has.cast (RS.upd X.st hnc rfl X.tok X.qd)) gc X.b1 X.b2 ?_
  intro h' tk' aV aD aH aq ao bY tp K H'
  exact aW ih X k gc gd post .a [c] false (iu.get (P:=fun c=>rt (c::cs) .sp [] false=rt cs .a [c] false) hc ⟨rfl,rfl,rfl,trivial⟩) (Dz [] _ _) (le2 [] _) tk' aV aD (.str (S [c]) aH) H' K rfl rfl rfl trivial rfl rfl rfl
theorem FN (hA:A.handled=none) (hD:A.depth+4<recursionLimit) {c:Nat} {cs:List Nat} (ih:Ih w g d os A R cs) {qd:Bool} {r:RS} {h:Heap} {tk ts te:Nat} {nv:Value} (X:At w h r .a [] qd (c::cs) ts te) (hnc:r.nc=some nv) (k:au w h)
  (post:Post w g d os A R h r (rt (c::cs) .a [] qd)):codeAny (model pw w) A (bk r.loc) R ⟨h,g,d,tk,os⟩:=by
 cases qd with
 | false=>exact absurd (X.mo rfl) (fun h=>nomatch h)
 | true=>
  obtain ⟨gc,gd⟩:=cj X.hcs
  rcases U6 c (X.sg c (mem_cons_self ..)) with hc | hc | hc | hc | hc | hc | hc
  ·refine tu hc hA hD k (ts:=ts) (te:=te) (nv:=nv) (X.has.cast (RS.upd X.st hnc rfl X.tok X.qd)) gc X.b1 X.b2 ?_
   intro h' tk' aV aD aH aq ao bY tp K H'
   exact Bd X gc post (iu.get (P:=fun c=>rt (c::cs) .a [] true=.brk true [] true cs) hc ⟨rfl,rfl,rfl,trivial⟩) K H' rfl rfl rfl rfl rfl ⟨_,rfl⟩
  ·refine qK  hA hD k (ts:=ts) (te:=te) (nv:=nv) (X.has.cast (RS.upd X.st hnc rfl X.tok X.qd)) (hc ▸ gc) X.b1 X.b2 ?_
   intro h' tk' aV aD aH aq ao bY tp K H'
   exact Bd X gc post (sb (P:=fun c=>rt (c::cs) .a [] true=.brk true [] true cs) hc.symm rfl) K H' rfl rfl rfl rfl rfl ⟨_,rfl⟩
  ·refine jG  hA hD k (ts:=ts) (te:=te) (nv:=nv) (X.has.cast (RS.upd X.st hnc rfl rfl rfl)) (hc ▸ gc) X.b1 X.b2 ?_
   intro h' tk' aV aD aH aq ao bY tp K H'
   exact aW ih X k gc gd post .sq [] true (sb (P:=fun c=>rt (c::cs) .a [] true=rt cs .sq [] true) hc.symm rfl) trivial (le1 _) tk' aV aD (.str (S [39]) aH) H' K rfl rfl rfl trivial X.tok X.qd rfl
  ·refine jF  hA hD k (ts:=ts) (te:=te) (nv:=nv) (X.has.cast (RS.upd X.st hnc rfl rfl rfl)) (hc ▸ gc) X.b1 X.b2 ?_
   intro h' tk' aV aD aH aq ao bY tp K H'
   exact aW ih X k gc gd post .dq [] true (sb (P:=fun c=>rt (c::cs) .a [] true=rt cs .dq [] true) hc.symm rfl) trivial (le1 _) tk' aV aD (.str (S [34]) aH) H' K rfl rfl rfl trivial X.tok X.qd rfl
  ·refine jE  hA hD k (ts:=ts) (te:=te) (nv:=nv) (X.has.cast (RS.upd X.st hnc rfl rfl rfl)) (hc ▸ gc) X.b1 X.b2 ?_
   intro h' tk' aV aD aH aq ao bY tp K H'
   exact aW ih X k gc gd post .ea [] true (sb (P:=fun c=>rt (c::cs) .a [] true=rt cs .ea [] true) hc.symm rfl) trivial (le1 _) tk' aV aD (.str (S [92]) aH) H' K rfl rfl rfl rfl X.tok X.qd rfl
  ·refine sW hc hA hD k (ts:=ts) (te:=te) (nv:=nv) (X.has.cast (RS.upd X.st hnc rfl X.tok rfl)) gc X.b1 X.b2 ?_
   intro h' tk' aV aD aH aq ao bY tp K H'
   exact aW ih X k gc gd post .a ([]++[c]) true (iu.get (P:=fun c=>rt (c::cs) .a [] true=rt cs .a ([]++[c]) true) hc ⟨rfl,rfl,rfl,rfl,trivial⟩) (Dz _ _ _) (le2 _ _) tk' ts aD (.str (S [c]) aH) H' K rfl rfl rfl trivial rfl X.qd rfl
  ·refine sY hc hA hD k (ts:=ts) (te:=te) (nv:=nv) (X.has.cast (RS.upd X.st hnc rfl X.tok rfl)) gc X.b1 X.b2 ?_
   intro h' tk' aV aD aH aq ao bY tp K H'
   exact aW ih X k gc gd post .a ([]++[c]) true (iu.get (P:=fun c=>rt (c::cs) .a [] true=rt cs .a ([]++[c]) true) hc ⟨rfl,rfl,rfl,trivial⟩) (Dz _ _ _) (le2 _ _) tk' ts aD (.str (S [c]) aH) H' K rfl rfl rfl trivial rfl X.qd rfl
theorem FP (hA:A.handled=none) (hD:A.depth+4<recursionLimit) {c:Nat} {cs:List Nat} (ih:Ih w g d os A R cs) {x0:Nat} {xs:List Nat} {qd:Bool} {r:RS} {h:Heap} {tk ts te:Nat} {nv:Value} (X:At w h r .a (x0::xs) qd (c::cs) ts te) (hnc:r.nc=some nv) (k:au w h)
  (post:Post w g d os A R h r (rt (c::cs) .a (x0::xs) qd)):codeAny (model pw w) A (bk r.loc) R ⟨h,g,d,tk,os⟩:=by
 obtain ⟨gc,gd⟩:=cj X.hcs
 rcases U6 c (X.sg c (mem_cons_self ..)) with hc | hc | hc | hc | hc | hc | hc
 ·refine sV hc (lQ X.len) hA hD k (ts:=ts) (te:=te) (nv:=nv) (X.has.cast (RS.upd X.st hnc rfl X.tok rfl)) gc X.b1 X.b2 ?_
  intro h' tk' aV aD aH aq ao bY tp K H'
  exact Bd X gc post (iu.get (P:=fun c=>rt (c::cs) .a (x0::xs) qd=.brk true (x0::xs) qd cs) hc ⟨rfl,rfl,rfl,trivial⟩) K H' rfl rfl rfl X.qd rfl ⟨_,rfl⟩
 ·refine qQ (lQ X.len) hA hD k (ts:=ts) (te:=te) (nv:=nv) (X.has.cast (RS.upd X.st hnc rfl X.tok rfl)) (hc ▸ gc) X.b1 X.b2 ?_
  intro h' tk' aV aD aH aq ao bY tp K H'
  exact Bd X gc post (sb (P:=fun c=>rt (c::cs) .a (x0::xs) qd=.brk true (x0::xs) qd cs) hc.symm rfl) K H' rfl rfl rfl X.qd rfl ⟨_,rfl⟩
 ·refine jG  hA hD k (ts:=ts) (te:=te) (nv:=nv) (X.has.cast (RS.upd X.st hnc rfl rfl rfl)) (hc ▸ gc) X.b1 X.b2 ?_
  intro h' tk' aV aD aH aq ao bY tp K H'
  exact aW ih X k gc gd post .sq (x0::xs) qd (sb (P:=fun c=>rt (c::cs) .a (x0::xs) qd=rt cs .sq (x0::xs) qd) hc.symm rfl) trivial (le1 _) tk' aV aD (.str (S [39]) aH) H' K rfl rfl rfl trivial X.tok X.qd rfl
 ·refine jF  hA hD k (ts:=ts) (te:=te) (nv:=nv) (X.has.cast (RS.upd X.st hnc rfl rfl rfl)) (hc ▸ gc) X.b1 X.b2 ?_
  intro h' tk' aV aD aH aq ao bY tp K H'
  exact aW ih X k gc gd post .dq (x0::xs) qd (sb (P:=fun c=>rt (c::cs) .a (x0::xs) qd=rt cs .dq (x0::xs) qd) hc.symm rfl) trivial (le1 _) tk' aV aD (.str (S [34]) aH) H' K rfl rfl rfl trivial X.tok X.qd rfl
 ·refine jE  hA hD k (ts:=ts) (te:=te) (nv:=nv) (X.has.cast (RS.upd X.st hnc rfl rfl rfl)) (hc ▸ gc) X.b1 X.b2 ?_
  intro h' tk' aV aD aH aq ao bY tp K H'
  exact aW ih X k gc gd post .ea (x0::xs) qd (sb (P:=fun c=>rt (c::cs) .a (x0::xs) qd=rt cs .ea (x0::xs) qd) hc.symm rfl) trivial (le1 _) tk' aV aD (.str (S [92]) aH) H' K rfl rfl rfl rfl X.tok X.qd rfl
 ·refine sX hc (lQ X.len) hA hD k (ts:=ts) (te:=te) (nv:=nv) (X.has.cast (RS.upd X.st hnc rfl X.tok rfl)) gc X.b1 X.b2 ?_
  intro h' tk' aV aD aH aq ao bY tp K H'
  exact aW ih X k gc gd post .a ((x0::xs)++[c]) qd (iu.get (P:=fun c=>rt (c::cs) .a (x0::xs) qd=rt cs .a ((x0::xs)++[c]) qd) hc ⟨rfl,rfl,rfl,rfl,trivial⟩) (Dz _ _ _) (le2 _ _) tk' ts aD (.str (S [c]) aH) H' K rfl rfl rfl trivial rfl X.qd rfl
 ·refine sZ hc (lQ X.len) hA hD k (ts:=ts) (te:=te) (nv:=nv) (X.has.cast (RS.upd X.st hnc rfl X.tok rfl)) gc X.b1 X.b2 ?_
  intro h' tk' aV aD aH aq ao bY tp K H'
  exact aW ih X k gc gd post .a ((x0::xs)++[c]) qd (iu.get (P:=fun c=>rt (c::cs) .a (x0::xs) qd=rt cs .a ((x0::xs)++[c]) qd) hc ⟨rfl,rfl,rfl,trivial⟩) (Dz _ _ _) (le2 _ _) tk' ts aD (.str (S [c]) aH) H' K rfl rfl rfl trivial rfl X.qd rfl
theorem BP (hA:A.handled=none) (hD:A.depth+4<recursionLimit) {c:Nat} {cs:List Nat} (ih:Ih w g d os A R cs) {qd:Bool} {r:RS} {h:Heap} {tk ts te:Nat} {nv:Value} (X:At w h r .sq [] qd (c::cs) ts te) (hnc:r.nc=some nv) (k:au w h)
  (post:Post w g d os A R h r (rt (c::cs) .sq [] qd)):codeAny (model pw w) A (bk r.loc) R ⟨h,g,d,tk,os⟩:=by
 obtain ⟨gc,gd⟩:=cj X.hcs
 rcases sgB c (X.sg c (mem_cons_self ..)) with hc | hc | hc | hc
 ·refine qP hc hA hD k (ts:=ts) (te:=te) (nv:=nv) (X.has.cast (RS.upd X.st hnc rfl X.tok rfl)) gc X.b1 X.b2 ?_
  intro h' tk' aV aD aH aq ao bY tp K H'
  exact aW ih X k gc gd post .sq ([]++[c]) true (iu.get (P:=fun c=>rt (c::cs) .sq [] qd=rt cs .sq ([]++[c]) true) hc ⟨rfl,rfl,rfl,rfl,rfl,rfl,rfl,rfl,rfl,rfl,rfl,trivial⟩) trivial (le2 _ _) tk' ts aD (.str (S [c]) aH) H' K rfl rfl rfl trivial rfl rfl rfl
 ·refine oX  hA hD k (ts:=ts) (te:=te) (nv:=nv) (X.has.cast (RS.upd X.st hnc rfl X.tok rfl)) (hc ▸ gc) X.b1 X.b2 ?_
  intro h' tk' aV aD aH aq ao bY tp K H'
  exact aW ih X k gc gd post .sq ([]++[10]) true (sb (P:=fun c=>rt (c::cs) .sq [] qd=rt cs .sq ([]++[10]) true) hc.symm rfl) trivial (le2 _ _) tk' ts aD (.str (S [10]) aH) H' K rfl rfl rfl trivial rfl rfl rfl
 ·refine jj  hA hD k (ts:=ts) (te:=te) (nv:=nv) (X.has.cast (RS.upd X.st hnc rfl rfl rfl)) (hc ▸ gc) X.b1 X.b2 ?_
  intro h' tk' aV aD aH aq ao bY tp K H'
  exact aW ih X k gc gd post .a [] true (sb (P:=fun c=>rt (c::cs) .sq [] qd=rt cs .a [] true) hc.symm rfl) (fun _=>rfl) (le1 _) tk' aV aD (.str (S [39]) aH) H' K rfl rfl rfl trivial X.tok rfl rfl
 ·refine oZ  hA hD k (ts:=ts) (te:=te) (nv:=nv) (X.has.cast (RS.upd X.st hnc rfl X.tok rfl)) (hc ▸ gc) X.b1 X.b2 ?_
  intro h' tk' aV aD aH aq ao bY tp K H'
  exact aW ih X k gc gd post .sq ([]++[92]) true (sb (P:=fun c=>rt (c::cs) .sq [] qd=rt cs .sq ([]++[92]) true) hc.symm rfl) trivial (le2 _ _) tk' ts aD (.str (S [92]) aH) H' K rfl rfl rfl trivial rfl rfl rfl
theorem BR (hA:A.handled=none) (hD:A.depth+4<recursionLimit) {c:Nat} {cs:List Nat} (ih:Ih w g d os A R cs) {x0:Nat} {xs:List Nat} {qd:Bool} {r:RS} {h:Heap} {tk ts te:Nat} {nv:Value} (X:At w h r .sq (x0::xs) qd (c::cs) ts te) (hnc:r.nc=some nv) (k:au w h)
  (post:Post w g d os A R h r (rt (c::cs) .sq (x0::xs) qd)):codeAny (model pw w) A (bk r.loc) R ⟨h,g,d,tk,os⟩:=by
 obtain ⟨gc,gd⟩:=cj X.hcs
 rcases sgB c (X.sg c (mem_cons_self ..)) with hc | hc | hc | hc
 ·refine qR hc (lQ X.len) hA hD k (ts:=ts) (te:=te) (nv:=nv) (X.has.cast (RS.upd X.st hnc rfl X.tok rfl)) gc X.b1 X.b2 ?_
  intro h' tk' aV aD aH aq ao bY tp K H'
  exact aW ih X k gc gd post .sq ((x0::xs)++[c]) true (iu.get (P:=fun c=>rt (c::cs) .sq (x0::xs) qd=rt cs .sq ((x0::xs)++[c]) true) hc ⟨rfl,rfl,rfl,rfl,rfl,rfl,rfl,rfl,rfl,rfl,rfl,trivial⟩) trivial (le2 _ _) tk' ts aD (.str (S [c]) aH) H' K rfl rfl rfl trivial rfl rfl rfl
 ·refine pA (lQ X.len) hA hD k (ts:=ts) (te:=te) (nv:=nv) (X.has.cast (RS.upd X.st hnc rfl X.tok rfl)) (hc ▸ gc) X.b1 X.b2 ?_
  intro h' tk' aV aD aH aq ao bY tp K H'
  exact aW ih X k gc gd post .sq ((x0::xs)++[10]) true (sb (P:=fun c=>rt (c::cs) .sq (x0::xs) qd=rt cs .sq ((x0::xs)++[10]) true) hc.symm rfl) trivial (le2 _ _) tk' ts aD (.str (S [10]) aH) H' K rfl rfl rfl trivial rfl rfl rfl
 ·refine jj  hA hD k (ts:=ts) (te:=te) (nv:=nv) (X.has.cast (RS.upd X.st hnc rfl rfl rfl)) (hc ▸ gc) X.b1 X.b2 ?_
  intro h' tk' aV aD aH aq ao bY tp K H'
  exact aW ih X k gc gd post .a (x0::xs) true (sb (P:=fun c=>rt (c::cs) .sq (x0::xs) qd=rt cs .a (x0::xs) true) hc.symm rfl) (fun _=>rfl) (le1 _) tk' aV aD (.str (S [39]) aH) H' K rfl rfl rfl trivial X.tok rfl rfl
 ·refine oW (lQ X.len) hA hD k (ts:=ts) (te:=te) (nv:=nv) (X.has.cast (RS.upd X.st hnc rfl X.tok rfl)) (hc ▸ gc) X.b1 X.b2 ?_
  intro h' tk' aV aD aH aq ao bY tp K H'
  exact aW ih X k gc gd post .sq ((x0::xs)++[92]) true (sb (P:=fun c=>rt (c::cs) .sq (x0::xs) qd=rt cs .sq ((x0::xs)++[92]) true) hc.symm rfl) trivial (le2 _ _) tk' ts aD (.str (S [92]) aH) H' K rfl rfl rfl trivial rfl rfl rfl
theorem BW (hA:A.handled=none) (hD:A.depth+4<recursionLimit) {c:Nat} {cs:List Nat} (ih:Ih w g d os A R cs) {qd:Bool} {r:RS} {h:Heap} {tk ts te:Nat} {nv:Value} (X:At w h r .dq [] qd (c::cs) ts te) (hnc:r.nc=some nv) (k:au w h)
  (post:Post w g d os A R h r (rt (c::cs) .dq [] qd)):codeAny (model pw w) A (bk r.loc) R ⟨h,g,d,tk,os⟩:=by
 obtain ⟨gc,gd⟩:=cj X.hcs
 rcases U7 c (X.sg c (mem_cons_self ..)) with hc | hc | hc | hc
 ·refine qM hc hA hD k (ts:=ts) (te:=te) (nv:=nv) (X.has.cast (RS.upd X.st hnc rfl X.tok rfl)) gc X.b1 X.b2 ?_
  intro h' tk' aV aD aH aq ao bY tp K H'
  exact aW ih X k gc gd post .dq ([]++[c]) true (iu.get (P:=fun c=>rt (c::cs) .dq [] qd=rt cs .dq ([]++[c]) true) hc ⟨rfl,rfl,rfl,rfl,rfl,rfl,rfl,rfl,rfl,rfl,rfl,trivial⟩) trivial (le2 _ _) tk' ts aD (.str (S [c]) aH) H' K rfl rfl rfl trivial rfl rfl rfl
 ·refine oU  hA hD k (ts:=ts) (te:=te) (nv:=nv) (X.has.cast (RS.upd X.st hnc rfl X.tok rfl)) (hc ▸ gc) X.b1 X.b2 ?_
  intro h' tk' aV aD aH aq ao bY tp K H'
  exact aW ih X k gc gd post .dq ([]++[10]) true (sb (P:=fun c=>rt (c::cs) .dq [] qd=rt cs .dq ([]++[10]) true) hc.symm rfl) trivial (le2 _ _) tk' ts aD (.str (S [10]) aH) H' K rfl rfl rfl trivial rfl rfl rfl
 ·refine ji  hA hD k (ts:=ts) (te:=te) (nv:=nv) (X.has.cast (RS.upd X.st hnc rfl rfl rfl)) (hc ▸ gc) X.b1 X.b2 ?_
  intro h' tk' aV aD aH aq ao bY tp K H'
  exact aW ih X k gc gd post .a [] true (sb (P:=fun c=>rt (c::cs) .dq [] qd=rt cs .a [] true) hc.symm rfl) (fun _=>rfl) (le1 _) tk' aV aD (.str (S [34]) aH) H' K rfl rfl rfl trivial X.tok rfl rfl
 ·refine jh  hA hD k (ts:=ts) (te:=te) (nv:=nv) (X.has.cast (RS.upd X.st hnc rfl rfl rfl)) (hc ▸ gc) X.b1 X.b2 ?_
  intro h' tk' aV aD aH aq ao bY tp K H'
  exact aW ih X k gc gd post .eq [] true (sb (P:=fun c=>rt (c::cs) .dq [] qd=rt cs .eq [] true) hc.symm rfl) trivial (le1 _) tk' aV aD (.str (S [92]) aH) H' K rfl rfl rfl rfl X.tok rfl rfl
theorem BX (hA:A.handled=none) (hD:A.depth+4<recursionLimit) {c:Nat} {cs:List Nat} (ih:Ih w g d os A R cs) {x0:Nat} {xs:List Nat} {qd:Bool} {r:RS} {h:Heap} {tk ts te:Nat} {nv:Value} (X:At w h r .dq (x0::xs) qd (c::cs) ts te) (hnc:r.nc=some nv) (k:au w h)
  (post:Post w g d os A R h r (rt (c::cs) .dq (x0::xs) qd)):codeAny (model pw w) A (bk r.loc) R ⟨h,g,d,tk,os⟩:=by
 obtain ⟨gc,gd⟩:=cj X.hcs
 rcases U7 c (X.sg c (mem_cons_self ..)) with hc | hc | hc | hc
 ·refine qO hc (lQ X.len) hA hD k (ts:=ts) (te:=te) (nv:=nv) (X.has.cast (RS.upd X.st hnc rfl X.tok rfl)) gc X.b1 X.b2 ?_
  intro h' tk' aV aD aH aq ao bY tp K H'
  exact aW ih X k gc gd post .dq ((x0::xs)++[c]) true (iu.get (P:=fun c=>rt (c::cs) .dq (x0::xs) qd=rt cs .dq ((x0::xs)++[c]) true) hc ⟨rfl,rfl,rfl,rfl,rfl,rfl,rfl,rfl,rfl,rfl,rfl,trivial⟩) trivial (le2 _ _) tk' ts aD (.str (S [c]) aH) H' K rfl rfl rfl trivial rfl rfl rfl
 ·refine oh (lQ X.len) hA hD k (ts:=ts) (te:=te) (nv:=nv) (X.has.cast (RS.upd X.st hnc rfl X.tok rfl)) (hc ▸ gc) X.b1 X.b2 ?_
  intro h' tk' aV aD aH aq ao bY tp K H'
  exact aW ih X k gc gd post .dq ((x0::xs)++[10]) true (sb (P:=fun c=>rt (c::cs) .dq (x0::xs) qd=rt cs .dq ((x0::xs)++[10]) true) hc.symm rfl) trivial (le2 _ _) tk' ts aD (.str (S [10]) aH) H' K rfl rfl rfl trivial rfl rfl rfl
 ·refine ji  hA hD k (ts:=ts) (te:=te) (nv:=nv) (X.has.cast (RS.upd X.st hnc rfl rfl rfl)) (hc ▸ gc) X.b1 X.b2 ?_
  intro h' tk' aV aD aH aq ao bY tp K H'
  exact aW ih X k gc gd post .a (x0::xs) true (sb (P:=fun c=>rt (c::cs) .dq (x0::xs) qd=rt cs .a (x0::xs) true) hc.symm rfl) (fun _=>rfl) (le1 _) tk' aV aD (.str (S [34]) aH) H' K rfl rfl rfl trivial X.tok rfl rfl
 ·refine jh  hA hD k (ts:=ts) (te:=te) (nv:=nv) (X.has.cast (RS.upd X.st hnc rfl rfl rfl)) (hc ▸ gc) X.b1 X.b2 ?_
  intro h' tk' aV aD aH aq ao bY tp K H'
  exact aW ih X k gc gd post .eq (x0::xs) true (sb (P:=fun c=>rt (c::cs) .dq (x0::xs) qd=rt cs .eq (x0::xs) true) hc.symm rfl) trivial (le1 _) tk' aV aD (.str (S [92]) aH) H' K rfl rfl rfl rfl X.tok rfl rfl
theorem BZ (hA:A.handled=none) (hD:A.depth+4<recursionLimit) {c:Nat} {cs:List Nat} (ih:Ih w g d os A R cs) {qd:Bool} {r:RS} {h:Heap} {tk ts te:Nat} {nv:Value} (X:At w h r .ea [] qd (c::cs) ts te) (hnc:r.nc=some nv) (k:au w h)
  (post:Post w g d os A R h r (rt (c::cs) .ea [] qd)):codeAny (model pw w) A (bk r.loc) R ⟨h,g,d,tk,os⟩:=by
 obtain ⟨gc,gd⟩:=cj X.hcs
 rcases sgD c (X.sg c (mem_cons_self ..)) with hc | hc
 ·refine qU hc hA hD k (ts:=ts) (te:=te) (nv:=nv) (X.has.cast (RS.upd X.st hnc X.esc X.tok rfl)) gc X.b1 X.b2 ?_
  intro h' tk' aV aD aH aq ao bY tp K H'
  exact aW ih X k gc gd post .a ([]++[c]) qd (iu.get (P:=fun c=>rt (c::cs) .ea [] qd=rt cs .a ([]++[c]) qd) hc ⟨rfl,rfl,rfl,rfl,rfl,rfl,rfl,rfl,rfl,rfl,rfl,rfl,rfl,trivial⟩) (Dz _ _ _) (le2 _ _) tk' aV aD (.str (S [c]) aH) H' K rfl rfl rfl trivial rfl X.qd rfl
 ·refine oE  hA hD k (ts:=ts) (te:=te) (nv:=nv) (X.has.cast (RS.upd X.st hnc X.esc X.tok rfl)) (hc ▸ gc) X.b1 X.b2 ?_
  intro h' tk' aV aD aH aq ao bY tp K H'
  exact aW ih X k gc gd post .a ([]++[10]) qd (sb (P:=fun c=>rt (c::cs) .ea [] qd=rt cs .a ([]++[10]) qd) hc.symm rfl) (Dz _ _ _) (le2 _ _) tk' aV aD (.str (S [10]) aH) H' K rfl rfl rfl trivial rfl X.qd rfl
theorem Ca (hA:A.handled=none) (hD:A.depth+4<recursionLimit) {c:Nat} {cs:List Nat} (ih:Ih w g d os A R cs) {x0:Nat} {xs:List Nat} {qd:Bool} {r:RS} {h:Heap} {tk ts te:Nat} {nv:Value} (X:At w h r .ea (x0::xs) qd (c::cs) ts te) (hnc:r.nc=some nv) (k:au w h)
  (post:Post w g d os A R h r (rt (c::cs) .ea (x0::xs) qd)):codeAny (model pw w) A (bk r.loc) R ⟨h,g,d,tk,os⟩:=by
 obtain ⟨gc,gd⟩:=cj X.hcs
 rcases sgD c (X.sg c (mem_cons_self ..)) with hc | hc
 ·refine qL hc (lQ X.len) hA hD k (ts:=ts) (te:=te) (nv:=nv) (X.has.cast (RS.upd X.st hnc X.esc X.tok rfl)) gc X.b1 X.b2 ?_
  intro h' tk' aV aD aH aq ao bY tp K H'
  exact aW ih X k gc gd post .a ((x0::xs)++[c]) qd (iu.get (P:=fun c=>rt (c::cs) .ea (x0::xs) qd=rt cs .a ((x0::xs)++[c]) qd) hc ⟨rfl,rfl,rfl,rfl,rfl,rfl,rfl,rfl,rfl,rfl,rfl,rfl,rfl,trivial⟩) (Dz _ _ _) (le2 _ _) tk' aV aD (.str (S [c]) aH) H' K rfl rfl rfl trivial rfl X.qd rfl
 ·refine oM (lQ X.len) hA hD k (ts:=ts) (te:=te) (nv:=nv) (X.has.cast (RS.upd X.st hnc X.esc X.tok rfl)) (hc ▸ gc) X.b1 X.b2 ?_
  intro h' tk' aV aD aH aq ao bY tp K H'
  exact aW ih X k gc gd post .a ((x0::xs)++[10]) qd (sb (P:=fun c=>rt (c::cs) .ea (x0::xs) qd=rt cs .a ((x0::xs)++[10]) qd) hc.symm rfl) (Dz _ _ _) (le2 _ _) tk' aV aD (.str (S [10]) aH) H' K rfl rfl rfl trivial rfl X.qd rfl
theorem Cd (hA:A.handled=none) (hD:A.depth+4<recursionLimit) {c:Nat} {cs:List Nat} (ih:Ih w g d os A R cs) {qd:Bool} {r:RS} {h:Heap} {tk ts te:Nat} {nv:Value} (X:At w h r .eq [] qd (c::cs) ts te) (hnc:r.nc=some nv) (k:au w h)
  (post:Post w g d os A R h r (rt (c::cs) .eq [] qd)):codeAny (model pw w) A (bk r.loc) R ⟨h,g,d,tk,os⟩:=by
 obtain ⟨gc,gd⟩:=cj X.hcs
 rcases U7 c (X.sg c (mem_cons_self ..)) with hc | hc | hc | hc
 ·refine qJ hc hA hD k (ts:=ts) (te:=te) (nv:=nv) (X.has.cast (RS.upd X.st hnc X.esc X.tok rfl)) gc X.b1 X.b2 ?_
  intro h' tk' aV aD aH aq ao bY tp K H'
  exact aW ih X k gc gd post .dq ([]++[92]++[c]) qd (iu.get (P:=fun c=>rt (c::cs) .eq [] qd=rt cs .dq ([]++[92]++[c]) qd) hc ⟨rfl,rfl,rfl,rfl,rfl,rfl,rfl,rfl,rfl,rfl,rfl,trivial⟩) trivial (U8 _ _) tk' aV aD (.str (S [c]) aH) H' K rfl rfl rfl trivial rfl X.qd rfl
 ·refine oK  hA hD k (ts:=ts) (te:=te) (nv:=nv) (X.has.cast (RS.upd X.st hnc X.esc X.tok rfl)) (hc ▸ gc) X.b1 X.b2 ?_
  intro h' tk' aV aD aH aq ao bY tp K H'
  exact aW ih X k gc gd post .dq ([]++[92]++[10]) qd (sb (P:=fun c=>rt (c::cs) .eq [] qd=rt cs .dq ([]++[92]++[10]) qd) hc.symm rfl) trivial (U8 _ _) tk' aV aD (.str (S [10]) aH) H' K rfl rfl rfl trivial rfl X.qd rfl
 ·refine oF  hA hD k (ts:=ts) (te:=te) (nv:=nv) (X.has.cast (RS.upd X.st hnc X.esc X.tok rfl)) (hc ▸ gc) X.b1 X.b2 ?_
  intro h' tk' aV aD aH aq ao bY tp K H'
  exact aW ih X k gc gd post .dq ([]++[34]) qd (sb (P:=fun c=>rt (c::cs) .eq [] qd=rt cs .dq ([]++[34]) qd) hc.symm rfl) trivial (le2 _ _) tk' aV aD (.str (S [34]) aH) H' K rfl rfl rfl trivial rfl X.qd rfl
 ·refine oG  hA hD k (ts:=ts) (te:=te) (nv:=nv) (X.has.cast (RS.upd X.st hnc X.esc X.tok rfl)) (hc ▸ gc) X.b1 X.b2 ?_
  intro h' tk' aV aD aH aq ao bY tp K H'
  exact aW ih X k gc gd post .dq ([]++[92]) qd (sb (P:=fun c=>rt (c::cs) .eq [] qd=rt cs .dq ([]++[92]) qd) hc.symm rfl) trivial (le2 _ _) tk' aV aD (.str (S [92]) aH) H' K rfl rfl rfl trivial rfl X.qd rfl
theorem Ce (hA:A.handled=none) (hD:A.depth+4<recursionLimit) {c:Nat} {cs:List Nat} (ih:Ih w g d os A R cs) {x0:Nat} {xs:List Nat} {qd:Bool} {r:RS} {h:Heap} {tk ts te:Nat} {nv:Value} (X:At w h r .eq (x0::xs) qd (c::cs) ts te) (hnc:r.nc=some nv) (k:au w h)
  (post:Post w g d os A R h r (rt (c::cs) .eq (x0::xs) qd)):codeAny (model pw w) A (bk r.loc) R ⟨h,g,d,tk,os⟩:=by
 obtain ⟨gc,gd⟩:=cj X.hcs
 rcases U7 c (X.sg c (mem_cons_self ..)) with hc | hc | hc | hc
 ·refine qW hc (lQ X.len) hA hD k (ts:=ts) (te:=te) (nv:=nv) (X.has.cast (RS.upd X.st hnc X.esc X.tok rfl)) gc X.b1 X.b2 ?_
  intro h' tk' aV aD aH aq ao bY tp K H'
  exact aW ih X k gc gd post .dq ((x0::xs)++[92]++[c]) qd (iu.get (P:=fun c=>rt (c::cs) .eq (x0::xs) qd=rt cs .dq ((x0::xs)++[92]++[c]) qd) hc ⟨rfl,rfl,rfl,rfl,rfl,rfl,rfl,rfl,rfl,rfl,rfl,trivial⟩) trivial (U8 _ _) tk' aV aD (.str (S [c]) aH) H' K rfl rfl rfl trivial rfl X.qd rfl
 ·refine oJ (lQ X.len) hA hD k (ts:=ts) (te:=te) (nv:=nv) (X.has.cast (RS.upd X.st hnc X.esc X.tok rfl)) (hc ▸ gc) X.b1 X.b2 ?_
  intro h' tk' aV aD aH aq ao bY tp K H'
  exact aW ih X k gc gd post .dq ((x0::xs)++[92]++[10]) qd (sb (P:=fun c=>rt (c::cs) .eq (x0::xs) qd=rt cs .dq ((x0::xs)++[92]++[10]) qd) hc.symm rfl) trivial (U8 _ _) tk' aV aD (.str (S [10]) aH) H' K rfl rfl rfl trivial rfl X.qd rfl
 ·refine oN (lQ X.len) hA hD k (ts:=ts) (te:=te) (nv:=nv) (X.has.cast (RS.upd X.st hnc X.esc X.tok rfl)) (hc ▸ gc) X.b1 X.b2 ?_
  intro h' tk' aV aD aH aq ao bY tp K H'
  exact aW ih X k gc gd post .dq ((x0::xs)++[34]) qd (sb (P:=fun c=>rt (c::cs) .eq (x0::xs) qd=rt cs .dq ((x0::xs)++[34]) qd) hc.symm rfl) trivial (le2 _ _) tk' aV aD (.str (S [34]) aH) H' K rfl rfl rfl trivial rfl X.qd rfl
 ·refine oA (lQ X.len) hA hD k (ts:=ts) (te:=te) (nv:=nv) (X.has.cast (RS.upd X.st hnc X.esc X.tok rfl)) (hc ▸ gc) X.b1 X.b2 ?_
  intro h' tk' aV aD aH aq ao bY tp K H'
  exact aW ih X k gc gd post .dq ((x0::xs)++[92]) qd (sb (P:=fun c=>rt (c::cs) .eq (x0::xs) qd=rt cs .dq ((x0::xs)++[92]) qd) hc.symm rfl) trivial (le2 _ _) tk' aV aD (.str (S [92]) aH) H' K rfl rfl rfl trivial rfl X.qd rfl
theorem Rp (hA:A.handled=none) (hD:A.depth+4<recursionLimit):∀ (cs:List Nat),Ih w g d os A R cs:=by
 intro cs
 induction cs with
 | nil=>
  intro m tok qd r h tk ts te nv X hnc k post
  have gl:=X.eof
  cases m with
  | sp=>
   refine mJ hA hD k (ts:=ts) (te:=te) (nv:=nv) (X.has.cast (RS.upd X.st hnc rfl (X.tok.trans (congrArg S X.mo.1)) (X.qd.trans X.mo.2))) gl X.b1 X.b2 ?_
   intro h' tk' aV aD aH aq ao bY tp K H'
   exact post h' tk' _ 0 K H' rfl rfl (congrArg S X.mo.1.symm) X.mo.2.symm X.hcs X.p ⟨_,rfl⟩
  | a=>
   refine nZ hA hD k (ts:=ts) (te:=te) (nv:=nv) (X.has.cast (RS.upd X.st hnc rfl rfl rfl)) gl X.b1 X.b2 ?_
   intro h' tk' aV aD aH aq ao bY tp K H'
   exact post h' tk' _ 0 K H' rfl rfl X.tok X.qd X.hcs X.p ⟨_,rfl⟩
  | sq=>exact post h tk r ts te .sq ⟨Nat.le_refl _,fun _ _ e _=>e⟩ X.has rfl (fun _=>.inl rfl) nofun X.st X.esc gl ⟨nv,hnc⟩
  | dq=>exact post h tk r ts te .dq ⟨Nat.le_refl _,fun _ _ e _=>e⟩ X.has rfl (fun _=>.inr rfl) nofun X.st X.esc gl ⟨nv,hnc⟩
  | ea=>exact post h tk r ts te .ea ⟨Nat.le_refl _,fun _ _ e _=>e⟩ X.has rfl nofun (fun _=>.inl rfl) X.st X.esc gl ⟨nv,hnc⟩
  | eq=>exact post h tk r ts te .eq ⟨Nat.le_refl _,fun _ _ e _=>e⟩ X.has rfl nofun (fun _=>.inr rfl) X.st X.esc gl ⟨nv,hnc⟩
 | cons c cs ih=>
  intro m tok qd r h tk ts te nv X hnc k post
  cases m with
  | sp=>
   obtain ⟨e5,e6⟩:=X.mo
   subst e5 e6
   exact FJ hA hD ih X hnc k post
  | a=>
   cases tok with
   | nil=>exact FN hA hD ih X hnc k post
   | cons x xs=>exact FP hA hD ih X hnc k post
  | sq=>
   cases tok with
   | nil=>exact BP hA hD ih X hnc k post
   | cons x xs=>exact BR hA hD ih X hnc k post
  | dq=>
   cases tok with
   | nil=>exact BW hA hD ih X hnc k post
   | cons x xs=>exact BX hA hD ih X hnc k post
  | ea=>
   cases tok with
   | nil=>exact BZ hA hD ih X hnc k post
   | cons x xs=>exact Ca hA hD ih X hnc k post
  | eq=>
   cases tok with
   | nil=>exact Cd hA hD ih X hnc k post
   | cons x xs=>exact Ce hA hD ih X hnc k post
theorem zJ (hA:A.handled=none) (hD:A.depth+4<recursionLimit) {r:RS} {h:Heap} {tk:Nat} (H:Has w h r) (est:r.st=.none) (qZ:r.tok=S []) (Ro:r.qd=false) (enc:r.nc=none) (hp:r.p=r.buf.length) (b1:r.buf.length<1000) (b2:2≤r.buf.length) (k:au w h)
  (post:Brk w g d os R h r false [] false []):codeAny (model pw w) A (bk r.loc) R ⟨h,g,d,tk,os⟩:=by
 refine lu hA hD k (ts:=0) (te:=0) (nv:=.none) (H.cast (RS.upd est enc rfl qZ Ro)) hp b1 b2 ?_
 intro h' tk' aV aD aH aq ao bY tp K H'
 exact post h' tk' _ 0 K H' rfl rfl rfl rfl (by rw [List.drop_eq_nil_iff];simp [Str.length] at hp ⊢;lia) (by show r.p≤r.buf.length;lia) ⟨_,rfl⟩
theorem FT (hA:A.handled=none) (hD:A.depth+4<recursionLimit) {c:Nat} {cs:List Nat} (ih:Ih w g d os A R cs) {r:RS} {h:Heap} {tk ts te:Nat} (X:At w h r .sp [] false (c::cs) ts te) (hnc:r.nc=none) (k:au w h)
  (post:Post w g d os A R h r (rt (c::cs) .sp [] false)):codeAny (model pw w) A (bk r.loc) R ⟨h,g,d,tk,os⟩:=by
 obtain ⟨gc,gd⟩:=cj X.hcs
 rcases U6 c (X.sg c (mem_cons_self ..)) with hc | hc | hc | hc | hc | hc | hc
 ·refine qN hc hA hD k (ts:=ts) (te:=te) (nv:=.none) (X.has.cast (RS.upd X.st hnc rfl X.tok X.qd)) gc X.b1 X.b2 ?_
  intro h' tk' aV aD aH aq ao bY tp K H'
  exact aW ih X k gc gd post .sp [] false (iu.get (P:=fun c=>rt (c::cs) .sp [] false=rt cs .sp [] false) hc ⟨rfl,rfl,rfl,trivial⟩) ⟨rfl,rfl⟩ (HS _) tk' ts aD (.str (S [c]) aH) H' K rfl rfl rfl trivial rfl rfl rfl
 ·refine pB  hA hD k (ts:=ts) (te:=te) (nv:=.none) (X.has.cast (RS.upd X.st hnc rfl X.tok X.qd)) (hc ▸ gc) X.b1 X.b2 ?_
  intro h' tk' aV aD aH aq ao bY tp K H'
  exact aW ih X k gc gd post .sp [] false (sb (P:=fun c=>rt (c::cs) .sp [] false=rt cs .sp [] false) hc.symm rfl) ⟨rfl,rfl⟩ (HS _) tk' ts aD (.str (S [10]) aH) H' K rfl rfl rfl trivial rfl rfl rfl
 ·refine oO  hA hD k (ts:=ts) (te:=te) (nv:=.none) (X.has.cast (RS.upd X.st hnc rfl X.tok X.qd)) (hc ▸ gc) X.b1 X.b2 ?_
  intro h' tk' aV aD aH aq ao bY tp K H'
  exact aW ih X k gc gd post .sq [] false (sb (P:=fun c=>rt (c::cs) .sp [] false=rt cs .sq [] false) hc.symm rfl) trivial (HS _) tk' aV aD (.str (S [39]) aH) H' K rfl rfl rfl trivial rfl rfl rfl
 ·refine oH  hA hD k (ts:=ts) (te:=te) (nv:=.none) (X.has.cast (RS.upd X.st hnc rfl X.tok X.qd)) (hc ▸ gc) X.b1 X.b2 ?_
  intro h' tk' aV aD aH aq ao bY tp K H'
  exact aW ih X k gc gd post .dq [] false (sb (P:=fun c=>rt (c::cs) .sp [] false=rt cs .dq [] false) hc.symm rfl) trivial (HS _) tk' aV aD (.str (S [34]) aH) H' K rfl rfl rfl trivial rfl rfl rfl
 ·refine o7  hA hD k (ts:=ts) (te:=te) (nv:=.none) (X.has.cast (RS.upd X.st hnc rfl X.tok X.qd)) (hc ▸ gc) X.b1 X.b2 ?_
  intro h' tk' aV aD aH aq ao bY tp K H'
  exact aW ih X k gc gd post .ea [] false (sb (P:=fun c=>rt (c::cs) .sp [] false=rt cs .ea [] false) hc.symm rfl) trivial (HS _) tk' aV aD (.str (S [92]) aH) H' K rfl rfl rfl rfl rfl rfl rfl
 ·refine qH hc hA hD k (ts:=ts) (te:=te) (nv:=.none) (X.has.cast (RS.upd X.st hnc rfl X.tok X.qd)) gc X.b1 X.b2 ?_
  intro h' tk' aV aD aH aq ao bY tp K H'
  exact aW ih X k gc gd post .a [c] false (iu.get (P:=fun c=>rt (c::cs) .sp [] false=rt cs .a [c] false) hc ⟨rfl,rfl,rfl,rfl,trivial⟩) (Dz [] _ _) (le2 [] _) tk' aV aD (.str (S [c]) aH) H' K rfl rfl rfl trivial rfl rfl rfl
 ·refine qT hc hA hD k (ts:=ts) (te:=te) (nv:=.none) (X.has.cast (RS.upd X.st hnc rfl X.tok X.qd)) gc X.b1 X.b2 ?_
  intro h' tk' aV aD aH aq ao bY tp K H'
  exact aW ih X k gc gd post .a [c] false (iu.get (P:=fun c=>rt (c::cs) .sp [] false=rt cs .a [c] false) hc ⟨rfl,rfl,rfl,trivial⟩) (Dz [] _ _) (le2 [] _) tk' aV aD (.str (S [c]) aH) H' K rfl rfl rfl trivial rfl rfl rfl
theorem KH (hA:A.handled=none) (hD:A.depth+4<recursionLimit) (cs:List Nat) (r:RS) (h:Heap) (tk ts te:Nat) (X:At w h r .sp [] false cs ts te) (hnc:r.nc=none) (k:au w h)
  (post:Post w g d os A R h r (rt cs .sp [] false)):codeAny (model pw w) A (bk r.loc) R ⟨h,g,d,tk,os⟩:=by
 cases cs with
 | nil=>
  refine mH hA hD k (ts:=ts) (te:=te) (nv:=.none) (X.has.cast (RS.upd X.st hnc rfl X.tok X.qd)) X.eof X.b1 X.b2 ?_
  intro h' tk' aV aD aH aq ao bY tp K H'
  exact post h' tk' _ 0 K H' rfl rfl rfl rfl X.hcs X.p ⟨_,rfl⟩
 | cons c cs=>exact FT hA hD (Rp hA hD cs) X hnc k post
end
structure Lex (w:World) (h:Heap) (r:RS):Prop where
 own:∀ q∈(r.led w.params).tail,h.get? q.1=some q.2
 nd:((r.led w.params).tail.map Prod.fst).Nodup
 lo:∀ q∈(r.led w.params).tail,845≤q.1
noncomputable def gw (r:RS):=(r.self,r.sd,r.mq,r.sS,r.sU,r.bh,r.vt,r.buf)
theorem Rq {a b:RS} (e:eZ a=eZ b):gw a=gw b:=congrArg (fun t=>(t.2.1,t.2.2.1,t.2.2.2.1,t.2.2.2.2.1,t.2.2.2.2.2.1,t.2.2.2.2.2.2.1,t.2.2.2.2.2.2.2.2.1,t.2.2.2.2.2.2.2.2.2)) e
theorem eX {a b:RS} (e:gw a=gw b):(a.self,a.sd,a.mq,a.sS,a.sU,a.bh)=(b.self,b.sd,b.mq,b.sS,b.sU,b.bh):=congrArg (fun t=>(t.1,t.2.1,t.2.2.1,t.2.2.2.1,t.2.2.2.2.1,t.2.2.2.2.2.1)) e
theorem t8d {a b:RS} (e:gw a=gw b):a.sd=b.sd:=congrArg (·.2.1) e
theorem t8s {a b:RS} (e:gw a=gw b):a.bh=b.bh:=congrArg (·.2.2.2.2.2.1) e
theorem t8b {a b:RS} (e:gw a=gw b):a.buf=b.buf:=congrArg (·.2.2.2.2.2.2.2) e
theorem tD {P:Params} {r r':RS} (e:(r'.self,r'.sd,r'.mq,r'.sS,r'.sU,r'.bh)=(r.self,r.sd,r.mq,r.sS,r.sU,r.bh)):(r'.led P).tail.map Prod.fst=(r.led P).tail.map Prod.fst:=congrArg (fun t:Nat × Nat × Nat × Nat × Nat × Nat=>[t.1,t.2.1,t.2.2.1,t.2.2.2.1,t.2.2.2.2.1,t.2.2.2.2.2]) e
theorem Lex.lo2 {w:World} {h:Heap} {r:RS} (X:Lex w h r):∀ a∈[r.sd,r.bh],845≤a:=Dy (X.lo (r.sd,kY w.params r) U0) (bK (X.lo (r.bh,_) mc5))
theorem RS.hm2 {P:Params} (r:RS):∀ a∈[r.sd,r.bh],a∈(r.led P).tail.map Prod.fst:=Dy (.tail _ (.head _)) (bK (.tail _ (.tail _ (.tail _ (.tail _ (.tail _ (.head _)))))))
theorem Has.after {w:World} {h₀ h h':Heap} {gv:List Addr} {nx:Nat} {r r':RS} (R:Rep (K w) h₀ gv (r.led w.params) nx h) (H:Has w h r) (k:Keeps [r.loc,r.sd,r.bh] h h') (H':Has w h' r') (e:r.at r'):Rep (K w) h₀ gv (r'.led w.params) h'.objs.size h':=by
 refine R.after k (news:=[]) (mods H) (RS.fst e) (fun a ha=>?_) (fun p hp=>.inr (H'.own p hp)) aX aX (by simp)
 simp only [mem_cons,not_mem_nil,or_false] at ha
 simp only [RS.led,map_cons,map_nil,mem_cons]
 rcases ha with rfl | rfl | rfl <;> simp
theorem ac0 {a b:RS} (e:eZ a=eZ b):(a.loc,a.self,a.sd,a.mq,a.sS,a.sU,a.bh)=(b.loc,b.self,b.sd,b.mq,b.sS,b.sU,b.bh):=congrArg (fun t=>(t.1,t.2.1,t.2.2.1,t.2.2.2.1,t.2.2.2.2.1,t.2.2.2.2.2.1,t.2.2.2.2.2.2.1)) e
theorem jz {r r':RS} (e:eZ r'=eZ r):r.at r':=ac0 e
theorem Rep.cast {K:Nat→Option Obj} {h₀ h:Heap} {gv:List Addr} {L L':Led} {nx:Nat} (R:Rep K h₀ gv L nx h) (e:L=L'):Rep K h₀ gv L' nx h:=e ▸ R
def FW (w:World) (n tk:Nat) (r:RS):Rs:=aQ w [] 690 (Mp w.params) ⟨[.ref r.self],[]⟩ (r.led w.params).tail n tk [0,1,1] [1,1,1,1,1]
def inLoop (L:Led) (loc:Nat) (r:RS):RS:={r with loc:=loc,qd:=false,esc:=.str (S [32]) (dg L 0 2),nc:=none,kt:=fun i=>if i=19 then rQ L 0 0 else if i=20 then rQ L 0 1 else if i=21 then rQ L 0 2 else r.kt i}
theorem Lex.has {h1:Heap} {r:RS} {n nx:Nat} {L:Led} (X:Lex w h r) (R:Rep (K w) h ((r.led w.params).tail.map Prod.fst) ((inLoop L (n+845) r).led w.params) nx h1):Has w h1 (inLoop L (n+845) r):=by
 refine ⟨R.own,R.nd,fun q hq=>?_⟩
 have lo:=X.lo
 simp only [RS.led,List.tail_cons,mem_cons,not_mem_nil,or_false,forall_eq_or_imp,forall_eq] at lo
 obtain ⟨l1,l2,l3,l4,l5,l6⟩:=lo
 simp only [RS.led,mem_cons,not_mem_nil,or_false] at hq
 rcases hq with rfl | rfl | rfl | rfl | rfl | rfl | rfl
 ·exact Nat.le_add_left 845 n
 ·exact l1
 ·exact l2
 ·exact l3
 ·exact l4
 ·exact l5
 ·exact l6
theorem Lex.next {h':Heap} {r r':RS} {L:Led} {nx:Nat} (X:Lex w h r) (R:Rep (K w) h ((r.led w.params).tail.map Prod.fst) L nx h') (m:Nat) (e:L.drop m=(r'.led w.params).tail) (ha:(r'.self,r'.sd,r'.mq,r'.sS,r'.sU,r'.bh)=(r.self,r.sd,r.mq,r.sS,r.sU,r.bh)) :
  Keeps [r.sd,r.bh] h h'∧Lex w h' r':=by
 simp only [Prod.mk.injEq] at ha
 obtain ⟨e1,e2,e3,e4,e5,e6⟩:=ha
 have ef:(r'.led w.params).tail.map Prod.fst=(r.led w.params).tail.map Prod.fst:=by
  simp only [RS.led,List.tail_cons,map_cons,map_nil]
  rw [e1,e2,e3,e4,e5,e6]
 obtain ⟨a,b⟩:=R.done (G:=(r.led w.params).tail) (mod:=[r.sd,r.bh]) m e rfl X.own (fun p hp=>by
  simp only [RS.led,List.tail_cons,mem_cons,not_mem_nil,or_false] at hp ⊢
  rw [e1,e2,e3,e4,e5,e6]
  rcases hp with rfl | rfl | rfl | rfl | rfl | rfl <;> simp)
 refine ⟨a,b,by rw [ef];exact X.nd,fun q hq=>?_⟩
 have:q.1∈(r.led w.params).tail.map Prod.fst:=by rw [← ef];exact mem_map_of_mem hq
 obtain ⟨p,hp,e⟩:=List.mem_map.mp this
 rw [← e];exact X.lo p hp
def Pk (w:World) (n tk:Nat) (r:RS) (q:Rs) (aC:List Nat):Rs:=aB w [] q (.ok .next) (r.led w.params) n tk aC
theorem rm {r:RS} {cs:List Nat} {ts:Nat} (hA:A.handled=none) (hD:A.depth+6<recursionLimit) (k:au w h) (X:Lex w h r) (qZ:r.tok=S []) (hcs:r.buf.cps.toList.drop r.p=cs) (hp:r.p≤r.buf.length) (sg:∀ c∈cs,c∈sgn)
  (len:2*cs.length<8000) (b1:r.buf.length<1000) (b2:2≤r.buf.length) (b:Bool) (est:r.st=if b then .str (S [32]) ts else .none) (hb:b=false→cs=[])
  {sp:Bool} {tok:List Nat} {qd:Bool} {rest:List Nat} (ho:(if b then rt cs .sp [] false else .brk false [] false [])=.brk sp tok qd rest)
  (post:∀ h' tk' r' t' t,Keeps [r.sd,r.bh] h h'→Lex w h' r'→gw r'=gw r→r'.st=(if sp then .str (S [32]) t else .none)→r'.tok=S []→r'.buf.cps.toList.drop r'.p=rest→r'.p≤r'.buf.length →
   R (.ok (.ret (if tok=[]∧qd=false then .none else .str (S tok) t'))) ⟨h',g,d,tk',os⟩) :
  codeAny (model pw w) A (.call (.ref 690) ⟨[.ref r.self],[]⟩) R ⟨h,g,d,tk,os⟩:=by
 obtain ⟨n0,R0⟩:=(Rep.start k X.own X.nd X.lo).up
 refine dJ (FW w (n0+845) tk r) .nil hA (by lia) R0 (n:=1) (c:=bk (n0+845)) (by symm) (by symm) (by symm) ?_ rfl
 intro A1 h1 bT hD1 R1
 have cN:=R1.cast (L':=(inLoop (FW w (n0+845) tk r).L (n0+845) r).led w.params) (by symm)
 have H1:=X.has cN
 have k1:au w h1:=R1.old
 revert cN H1;refine gen (inLoop (FW w (n0+845) tk r).L (n0+845) r) fun r1 er=>?_;intro cN H1
 have e10:gw r1=gw r:=by rw [← er];rfl
 have uL:r1.loc=n0+845:=by rw [← er];rfl
 have f1:r1.st=r.st:=by rw [← er];rfl
 have f2:r1.tok=r.tok:=by rw [← er];rfl
 have f3:r1.p=r.p:=by rw [← er];rfl
 have f4:r1.buf=r.buf:=by rw [← er];rfl
 have f5:r1.nc=none:=by rw [← er];rfl
 have f6:r1.qd=false:=by rw [← er];rfl
 have main:Brk w g d os (fun r' s'=>Mn (xc w g d os A R) (aL (FW w (n0+845) tk r)) (aR (FW w (n0+845) tk r) r') s') h1 r1 sp tok qd rest:=by
  intro h2 tk2 r2 t K2 H2 s2 a1 a2 a3 a4 a5 ⟨nv,a6⟩
  obtain ⟨n2,R2⟩:=(Has.after cN H1 K2 H2 (jz s2)).up
  have e8:gw r2=gw r:=(Rq s2).trans e10
  cases qd with
  | true=>
   have M8:r2={r2 with loc:=n0+845,qd:=true,nc:=some nv}:=RS.upl ((BL s2).trans uL) a3 a6 rfl
   rw [M8] at R2
   refine cI (Pk w (n2+845) tk2 {r2 with loc:=n0+845,qd:=true,nc:=some nv} _ (og 0x110030220002000021130220002000021333020002020020000211130220002000021)) .nil hA R2 (y:=.ok (.ret (.str r2.tok r2.ao))) (by symm) (fun h3 R3=>?_) rfl
   obtain ⟨K3,L3⟩:=Lex.next (r':={r2 with tok:=S [],ao:=dg (Pk w (n2+845) tk2 {r2 with loc:=n0+845,qd:=true,nc:=some nv} (FW w (n0+845) tk r) (og 0x110030220002000021130220002000021333020002020020000211130220002000021)).L 2 15}) X R3 1 (by symm) (eX e8)
   have ev:(if tok=[]∧true=false then Value.none else .str (S tok) r2.ao)=.str r2.tok r2.ao:=by rw [if_neg (by simp),a2]
   rw [← ev]
   exact post h3 _ _ r2.ao t K3 L3 e8 a1 rfl a4 a5
  | false=>
   cases tok with
   | nil=>
    have M8:r2={r2 with loc:=n0+845,qd:=false,nc:=some nv,tok:=S []}:=RS.upl ((BL s2).trans uL) a3 a6 a2
    rw [M8] at R2
    refine cI (Pk w (n2+845) tk2 {r2 with loc:=n0+845,qd:=false,nc:=some nv,tok:=S []} _ (og 0x11003022000200002111001130220002000021333020002020020000211130220002000021)) .nil hA R2 (y:=.ok (.ret .none)) (by symm) (fun h3 R3=>?_) rfl
    obtain ⟨K3,L3⟩:=Lex.next (r':={r2 with tok:=S [],ao:=dg (Pk w (n2+845) tk2 {r2 with loc:=n0+845,qd:=false,nc:=some nv,tok:=S []} (FW w (n0+845) tk r) (og 0x11003022000200002111001130220002000021333020002020020000211130220002000021)).L 2 15}) X R3 1 (by symm) (eX e8)
    exact post h3 _ _ 0 t K3 L3 e8 a1 rfl a4 a5
   | cons x0 xs=>
    have M8:r2={r2 with loc:=n0+845,qd:=false,nc:=some nv,tok:=S (x0::xs)}:=RS.upl ((BL s2).trans uL) a3 a6 a2
    rw [M8] at R2
    refine cI (Pk w (n2+845) tk2 {r2 with loc:=n0+845,qd:=false,nc:=some nv,tok:=S (x0::xs)} _ (og 0x110030220002000021001130220002000021333020002020020000211130220002000021)) .nil hA R2 (y:=.ok (.ret (.str (S (x0::xs)) r2.ao))) (by symm) (fun h3 R3=>?_) rfl
    obtain ⟨K3,L3⟩:=Lex.next (r':={r2 with tok:=S [],ao:=dg (Pk w (n2+845) tk2 {r2 with loc:=n0+845,qd:=false,nc:=some nv,tok:=S (x0::xs)} (FW w (n0+845) tk r) (og 0x110030220002000021001130220002000021333020002020020000211130220002000021)).L 2 15}) X R3 1 (by symm) (eX e8)
    have ev:(if x0::xs=[]∧false=false then Value.none else .str (S (x0::xs)) r2.ao)=.str (S (x0::xs)) r2.ao:=by rw [if_neg (by simp)]
    rw [← ev]
    exact post h3 _ _ r2.ao t K3 L3 e8 a1 rfl a4 a5
 suffices z:codeAny (model pw w) A1 (bk r1.loc) (fun r' s'=>Mn (xc w g d os A R) (aL (FW w (n0+845) tk r)) (aR (FW w (n0+845) tk r) r') s') ⟨h1,g,d,(FW w (n0+845) tk r).tk,os⟩ by
  rw [uL] at z;exact z
 cases b with
 | false=>
  have e:=hb rfl
  subst e
  simp only [Bool.false_eq_true,if_false,Out.brk.injEq] at ho
  obtain ⟨rfl,rfl,rfl,rfl⟩:=ho
  refine zJ bT (by lia) H1 (by rw [f1];exact est) (by rw [f2];exact qZ) f6 f5 ?_ (by rw [f4];exact b1) (by rw [f4];exact b2) k1 main
  rw [f3,f4]
  rw [List.drop_eq_nil_iff] at hcs
  simp [Str.length] at hcs hp ⊢
  lia
 | true=>
  simp only [if_true] at ho est
  refine KH bT (by lia) cs r1 h1 _ ts 0 ⟨H1,by rw [f3,f4];exact hcs,by rw [f3,f4];exact hp,sg,⟨rfl,rfl⟩,by rw [f1];exact est,trivial,by rw [f2];exact qZ,f6,by simpa using len,by rw [f4];exact b1,by rw [f4];exact b2⟩ f5 k1 ?_
  rw [ho];exact main
noncomputable def FZ (b:Bool) (cs:List Nat):Out:=if b then rt cs .sp [] false else .brk false [] false []
theorem Io:∀ (cs:List Nat) (m:Mo) (tok:List Nat) (qd:Bool) {sp:Bool} {t:List Nat} {q:Bool} {rest:List Nat},rt cs m tok qd=.brk sp t q rest→(∀ c∈rest,c∈cs)∧rest.length≤cs.length∧(sp=false→rest=[]):=by
 intro cs
 induction cs with
 | nil=>
  intro m tok qd sp t q rest e
  cases m <;> simp [rt] at e <;> (obtain ⟨rfl,rfl,rfl,rfl⟩:=e;simp)
 | cons c cs ih=>
  intro m tok qd sp t q rest e
  have up:∀ {m tok qd},rt cs m tok qd=.brk sp t q rest→(∀ c'∈rest,c'∈c::cs)∧rest.length≤(c::cs).length∧(sp=false→rest=[]):=by
   intro m tok qd e
   obtain ⟨a,b,d⟩:=ih m tok qd e
   exact ⟨fun c' h=>mem_cons_of_mem _ (a c' h),Nat.le_succ_of_le b,d⟩
  cases m <;> simp only [rt] at e
  ·split at e
   ·exact up e
   ·split at e
    ·exact up e
    ·split at e
     ·exact up e
     ·split at e
      ·exact up e
      ·exact up e
  ·split at e
   ·injection e with e1 e2 e3 e4
    subst e1 e4
    exact ⟨fun c' h=>mem_cons_of_mem _ h,Nat.le_succ _,by simp⟩
   ·split at e
    ·exact up e
    ·split at e
     ·exact up e
     ·split at e
      ·exact up e
      ·exact up e
  ·split at e
   ·exact up e
   ·exact up e
  ·split at e
   ·exact up e
   ·split at e
    ·exact up e
    ·exact up e
  ·exact up e
  ·exact up e
structure zc (w:World) (h:Heap) (r:RS) (b:Bool) (cs:List Nat):Prop where
 lex:Lex w h r
 tok:r.tok=S []
 hcs:r.buf.cps.toList.drop r.p=cs
 p:r.p≤r.buf.length
 sg:∀ c∈cs,c∈sgn
 len:2*cs.length<8000
 b1:r.buf.length<1000
 b2:2≤r.buf.length
 st:∃ t,r.st=if b then .str (S [32]) t else .none
 nb:b=false→cs=[]
theorem zc.next {w:World} {h h':Heap} {r r':RS} {b:Bool} {cs:List Nat} {sp:Bool} {tok:List Nat} {qd:Bool} {rest:List Nat} (X:zc w h r b cs) (ho:FZ b cs=.brk sp tok qd rest) {t:Nat}
  (L:Lex w h' r') (e:gw r'=gw r) (est:r'.st=(if sp then .str (S [32]) t else .none)) (qZ:r'.tok=S []) (hcs:r'.buf.cps.toList.drop r'.p=rest) (hp:r'.p≤r'.buf.length):zc w h' r' sp rest:=by
 have eb:r'.buf=r.buf:=t8b e
 have key:(∀ c∈rest,c∈cs)∧rest.length≤cs.length∧(sp=false→rest=[]):=by
  cases b with
  | true=>exact Io _ _ _ _ ho
  | false=>
   simp only [FZ,Bool.false_eq_true,if_false,Out.brk.injEq] at ho
   obtain ⟨rfl,rfl,rfl,rfl⟩:=ho
   simp
 obtain ⟨k1,k2,k3⟩:=key
 exact ⟨L,qZ,hcs,hp,fun c hc=>X.sg c (k1 c hc),by have:=X.len;lia,by rw [eb];exact X.b1,by rw [eb];exact X.b2,⟨t,est⟩,k3⟩
theorem Lex.of {w:World} {h h1:Heap} {r:RS} {pre:Led} {gv:List Addr} {h₀:Heap} {nx:Nat} (X:Lex w h r) (R:Rep (K w) h₀ gv (pre++(r.led w.params).tail) nx h1):Lex w h1 r:=
 ⟨fun q hq=>R.own q (List.mem_append_right _ hq),X.nd,X.lo⟩
theorem Lex.after {w:World} {h₀ h h':Heap} {gv:List Addr} {nx:Nat} {pre:Led} {r r':RS} (R:Rep (K w) h₀ gv (pre++(r.led w.params).tail) nx h) (X:Lex w h r) (k:Keeps [r.sd,r.bh] h h') (X':Lex w h' r') (e:gw r'=gw r):Rep (K w) h₀ gv (pre++(r'.led w.params).tail) h'.objs.size h':=by
 have ef:=tD (P:=w.params) (eX e)
 refine R.after k (news:=[]) X.lo2 (by show List.map Prod.fst (pre++_)=_;rw [List.map_append,List.map_append,ef]) (fun a ha=>?_) (fun p hp=>?_) aX aX (by simp)
 ·rw [List.map_append,List.mem_append]
  exact .inr (RS.hm2 r a ha)
 ·rcases List.mem_append.mp hp with hp | hp
  ·left
   refine ⟨List.mem_append_left _ hp,fun hm=>?_⟩
   have nd:=R.nd
   rw [List.map_append,List.nodup_append] at nd
   exact nd.2.2 _ (mem_map_of_mem hp) _ (RS.hm2 r _ hm) rfl
  ·exact .inr (X'.own p hp)
noncomputable def RS.like (r2 r:RS):RS:={r2 with self:=r.self,sd:=r.sd,mq:=r.mq,sS:=r.sS,sU:=r.sU,bh:=r.bh}
theorem RS.like_eq {r2 r:RS} (e:gw r2=gw r):r2=r2.like r:=by
 simp only [gw,Prod.mk.injEq] at e
 obtain ⟨e1,e2,e3,e4,e5,e6,_,_⟩:=e
 cases r2
 simp_all [RS.like]
def gt1 (w:World) (n tk:Nat) (r:RS):Rs:=aQ w [] 683 (Ml w.params) ⟨[.ref r.self],[]⟩ (r.led w.params).tail n tk [0,1,1] (og 0x11032000020002000215050505530220002000021)
def nx1 (w:World) (n tk:Nat) (r:RS):Rs:=aQ w [] 719 (Mr w.params) ⟨[.ref r.self],[]⟩ (r.led w.params).tail n tk [0,1,1] (og 0x1103200002000200021)
theorem jW {r:RS} {cs:List Nat} {b:Bool} (hA:A.handled=none) (hD:A.depth+7<recursionLimit) (k:au w h) (X:zc w h r b cs)
  {sp:Bool} {tok:List Nat} {qd:Bool} {rest:List Nat} (ho:FZ b cs=.brk sp tok qd rest)
  (post:∀ h' tk' r' t',Keeps [r.sd,r.bh] h h'→zc w h' r' sp rest→gw r'=gw r→R (.ok (.ret (if tok=[]∧qd=false then .none else .str (S tok) t'))) ⟨h',g,d,tk',os⟩) :
  codeAny (model pw w) A (.call (.ref 683) ⟨[.ref r.self],[]⟩) R ⟨h,g,d,tk,os⟩:=by
 obtain ⟨n0,R0⟩:=(Rep.start k X.lex.own X.lex.nd X.lex.lo).up
 refine dJ (gt1 w (n0+845) tk r) .nil hA (by lia) R0 (n:=1) (c:=.call (.ref 690) ⟨[.ref r.self],[]⟩) (by symm) (by symm) (by symm) ?_ rfl
 intro A1 h1 bT hD1 R1
 have cN:=R1.cast (L':=(gt1 w (n0+845) tk r).L.take 1++(r.led w.params).tail) (by symm)
 have L1:=X.lex.of cN
 obtain ⟨t0,est⟩:=X.st
 refine rm bT (by lia) R1.old L1 X.tok X.hcs X.p X.sg X.len X.b1 X.b2 b est X.nb ho ?_
 intro h2 tk2 r2 t2 t3 K2 L2 e8 a1 a2 a3 a4
 obtain ⟨n2,R2⟩:=(Lex.after cN L1 K2 L2 e8).up
 have X2:=X.next ho L2 e8 a1 a2 a3 a4
 have er:=RS.like_eq e8
 have Pn:gw (r2.like r)=gw r:=by rw [← er];exact e8
 have U9:zc w h2 (r2.like r) sp rest:=by rw [← er];exact X2
 rw [er] at R2
 by_cases hn:tok=[]∧qd=false
 ·rw [if_pos hn]
  refine cI _ .nil hA R2 (aC:=[1,1,1,2,0,0,0,0,2,0,0,0,2,2,0,3,0,1,1,2,0,0,0,0,2,0,0,0,2,2,0,3,0,0,1,2,0,0,0,0,2,0,0,0,2,2,0,3,6,6,0,6,0,6,0,6,1,2,0,0,0,0,2,0,0,0,2,2,0,3]) (y:=.ok (.ret .none)) (by symm) (fun h3 R3=>?_) rfl
  obtain ⟨K3,L3⟩:=Lex.next (r':=r2.like r) X.lex R3 1 (by symm) rfl
  have ev:(if tok=[]∧qd=false then Value.none else .str (S tok) 0)=.none:=if_pos hn
  rw [← ev]
  exact post h3 _ (r2.like r) 0 K3 {U9 with lex:=L3} Pn
 ·rw [if_neg hn]
  refine cI _ .nil hA R2 (aC:=[1,1,1,2,0,0,0,0,2,0,0,0,2,2,0,3,0,1,1,2,0,0,0,0,2,0,0,0,2,2,0,3,0,0,0,0,1,2,0,0,0,0,2,0,0,0,2,2,0,3,0,0,1]) (y:=.ok (.ret (.str (S tok) t2))) (by symm) (fun h3 R3=>?_) rfl
  obtain ⟨K3,L3⟩:=Lex.next (r':=r2.like r) X.lex R3 1 (by symm) rfl
  have ev:(if tok=[]∧qd=false then Value.none else .str (S tok) t2)=.str (S tok) t2:=if_neg hn
  rw [← ev]
  exact post h3 _ (r2.like r) t2 K3 {U9 with lex:=L3} Pn
theorem Cg {r:RS} {cs:List Nat} {b:Bool} (hA:A.handled=none) (hD:A.depth+8<recursionLimit) (k:au w h) (X:zc w h r b cs)
  {sp:Bool} {tok:List Nat} {qd:Bool} {rest:List Nat} (ho:FZ b cs=.brk sp tok qd rest) (hn:¬ (tok=[]∧qd=false))
  (post:∀ h' tk' r' t',Keeps [r.sd,r.bh] h h'→zc w h' r' sp rest→gw r'=gw r→R (.ok (.ret (.str (S tok) t'))) ⟨h',g,d,tk',os⟩) :
  codeAny (model pw w) A (.call (.ref 719) ⟨[.ref r.self],[]⟩) R ⟨h,g,d,tk,os⟩:=by
 obtain ⟨n0,R0⟩:=(Rep.start k X.lex.own X.lex.nd X.lex.lo).up
 refine dJ (nx1 w (n0+845) tk r) .nil hA (by lia) R0 (n:=1) (c:=.call (.ref 683) ⟨[.ref r.self],[]⟩) (by symm) (by symm) (by symm) ?_ rfl
 intro A1 h1 bT hD1 R1
 have cN:=R1.cast (L':=(nx1 w (n0+845) tk r).L.take 1++(r.led w.params).tail) (by symm)
 have L1:=X.lex.of cN
 refine jW bT (by lia) R1.old {X with lex:=L1} ho ?_
 intro h2 tk2 r2 t2 K2 X2 e8
 obtain ⟨n2,R2⟩:=(Lex.after cN L1 K2 X2.lex e8).up
 have er:=RS.like_eq e8
 have Pn:gw (r2.like r)=gw r:=by rw [← er];exact e8
 have U9:zc w h2 (r2.like r) sp rest:=by rw [← er];exact X2
 rw [er] at R2
 rw [if_neg hn]
 refine cI _ .nil hA R2 (aC:=[1,1,1,1,2,0,0,0,0,2,0,0,0,2,2,0,3,0,0,0,0,1]) (y:=.ok (.ret (.str (S tok) t2))) (by symm) (fun h3 R3=>?_) rfl
 obtain ⟨K3,L3⟩:=Lex.next (r':=r2.like r) X.lex R3 1 (by symm) rfl
 exact post h3 _ (r2.like r) t2 K3 {U9 with lex:=L3} Pn
noncomputable def dI:Obj:=⟨.type "dict",none,.dict ⟨[]⟩ 0,⟨[]⟩⟩
theorem Rep.fresh {h₀ h:Heap} {L:Led} {nx:Nat} (R:Rep (K w) h₀ [] L nx h):Keeps [] h₀ h∧∀ p∈L,h₀.objs.size≤p.1∧h.get? p.1=some p.2:=
 ⟨R.keeps (G:=[]) (G':=[]) (mod:=[]) rfl aX aX aX,fun p hp=>⟨(R.new p hp).resolve_left not_mem_nil,R.own p hp⟩⟩
def nw1 (w:World) (n tk:Nat) (s:Str) (ts:Nat):Rs:=aQ w [] 80 (o80 w.params) ⟨[.ref 587,.str s ts],[]⟩ [] n tk [0,1,1,1,1,1,1] (og 0x100000000000000000000000000000000000000010000010001)
theorem zK {s:Str} {ts:Nat} (hA:A.handled=none) (hD:A.depth+1<recursionLimit) (k:au w h)
  (post:∀ h' tk' a dx,Keeps [] h h'→h.objs.size≤a→h.objs.size≤dx→a≠dx→h'.get? a=some (inst 587 dx)→h'.get? dx=some dI→R (.ok (.ret (.ref a))) ⟨h',g,d,tk',os⟩) :
  codeAny (model pw w) A (.call (.ref 80) ⟨[.ref 587,.str s ts],[]⟩) R ⟨h,g,d,tk,os⟩:=by
 obtain ⟨n0,R0⟩:=(Rep.nil k).up
 refine bV (nw1 w (n0+845) tk s ts) .nil hA (by lia) R0 (y:=.ok (.ret (.ref (n0+845+4)))) (by symm) (by symm) (by symm) (fun h' R'=>?_) rfl
 obtain ⟨K1,own⟩:=R'.fresh
 have s1:=own (n0+845+4,inst 587 (n0+845+3)) (List.mem_of_getElem? (i:=0) (by symm))
 have s2:=own (n0+845+3,dI) (List.mem_of_getElem? (i:=1) (by symm))
 exact post h' _ _ _ K1 s1.1 s2.1 (by lia) s1.2 s2.2
theorem rD {a dx t1 t2 t3 tn tb tp ts:Nat} {s:Str} (hA:A.handled=none) (hD:A.depth+1<recursionLimit) (k:au w h) (la:845≤a) (ld:845≤dx) (ne:a≠dx)
  (ga:h.get? a=some (inst 587 dx)) (gd:h.get? dx=some (eE w.params t1 t2 t3 tn tb tp (S []) 0))
  (post:∀ h' tk',Keeps [] h h'→R (.ok (.ret (.str s ts))) ⟨h',g,d,tk',os⟩) :
  codeAny (model pw w) A (.call (.ref 364) ⟨[.ref a,.str s ts],[]⟩) R ⟨h,g,d,tk,os⟩:=by
 have own:∀ q∈([(a,inst 587 dx),(dx,eE w.params t1 t2 t3 tn tb tp (S []) 0)]:Led),h.get? q.1=some q.2:=by simp [ga,gd]
 refine bV (aQ w [] 364 (QH w.params) ⟨[.ref a,.str s ts],[]⟩ [(a,inst 587 dx),(dx,eE w.params t1 t2 t3 tn tb tp (S []) 0)] h.objs.size tk [0,1,1,1,1] (og 0x110010011113022000000020000000021)) .nil hA (by lia) (Rep.start k own (lG ne) (by simp [la,ld])) (y:=.ok (.ret (.str s ts)))
  (by symm) (by symm) (by symm) (fun h' R'=>post h' _ (R'.done 1 (G':=[(a,inst 587 dx),(dx,eE w.params t1 t2 t3 tn tb tp (S []) 0)]) (mod:=[]) (by symm) rfl own (fun p hp=>.inr hp)).1) rfl
def DG (w:World) (n tk a dx:Nat) (s:Str) (ts:Nat):Rs:=aQ w [] 357 (QG w.params) ⟨[.ref a,.str s ts],[]⟩ [(a,inst 587 dx),(dx,dI)] n tk [0,0,1,1,1,1,1,1] (og 0x11013200002000000020000000211333020000000202002000000002133302000000020200200000000213330200000002020020000000021100001001001001100001001)
def si2 (w:World) (n tk:Nat) (s:Str) (ts:Nat) (q:Rs):Rs:=aB w [] q (.ok (.ret (.str s ts))) q.L n tk (og 0x13330200000002020020000000021)
theorem wk {a dx ts:Nat} {s:Str} (hA:A.handled=none) (hD:A.depth+2<recursionLimit) (k:au w h) (la:845≤a) (ld:845≤dx) (ne:a≠dx)
  (ga:h.get? a=some (inst 587 dx)) (gd:h.get? dx=some dI)
  (post:∀ h' tk' t1 t2 t3 tn tp,Keeps [dx] h h'→h'.get? dx=some (eE w.params t1 t2 t3 tn ts tp s 0)→R (.ok (.ret .none)) ⟨h',g,d,tk',os⟩) :
  codeAny (model pw w) A (.call (.ref 357) ⟨[.ref a,.str s ts],[]⟩) R ⟨h,g,d,tk,os⟩:=by
 have own:∀ q∈([(a,inst 587 dx),(dx,dI)]:Led),h.get? q.1=some q.2:=by simp [ga,gd]
 obtain ⟨n0,R0⟩:=(Rep.start k own (lG ne) (by simp [la,ld])).up
 refine dJ (DG w (n0+845) tk a dx s ts) .nil hA (by lia) R0 (n:=1) (c:=.call (.ref 364) ⟨[.ref a,.str s ts],[]⟩) (by symm) (by symm) (by symm) ?_ rfl
 intro A1 h1 bT hD1 R1
 refine rD (t1:=rQ (DG w (n0+845) tk a dx s ts).L 2 0) (t2:=rQ (DG w (n0+845) tk a dx s ts).L 2 1) (t3:=rQ (DG w (n0+845) tk a dx s ts).L 2 2) (tn:=dg (DG w (n0+845) tk a dx s ts).L 2 0) (tb:=dg (DG w (n0+845) tk a dx s ts).L 2 1) (tp:=dg (DG w (n0+845) tk a dx s ts).L 2 2)
  bT (by lia) R1.old la ld ne (R1.at 1 (by symm)) (R1.at 2 (by symm)) ?_
 intro h2 tk2 K2
 obtain ⟨n2,R2⟩:=(R1.after0 K2).up
 refine cI (si2 w (n2+845) tk2 s ts _) .nil hA R2 (y:=.ok (.ret .none)) (by symm) (fun h3 R3=>?_) rfl
 obtain ⟨K3,o3⟩:=R3.done 1 (G':=[(a,inst 587 dx),(dx,eE w.params (rQ (DG w (n0+845) tk a dx s ts).L 2 0) (rQ (DG w (n0+845) tk a dx s ts).L 2 1) (rQ (DG w (n0+845) tk a dx s ts).L 2 2) (dg (DG w (n0+845) tk a dx s ts).L 2 0) ts (dg (DG w (n0+845) tk a dx s ts).L 2 2) s 0)]) (mod:=[dx]) (by symm) rfl own (by simp)
 exact post h3 _ _ _ _ _ _ K3 (o3 (dx,_) (mem_cons_of_mem _ (mem_cons_self ..)))
def Ga (P:Params) (r:RS):Obj:=
 ⟨.type "dict",none,.dict ⟨[dE P (lits "instream") (r.kt 0) (.ref r.mq),dE P (lits "infile") (r.kt 1) .none,dE P (lits "posix") (r.kt 2) (.bool true),dE P (lits "eof") (r.kt 3) .none,
  dE P (lits "commenters") (r.kt 4) (.str (S [35]) (r.vt 0)),
  dE P (lits "wordchars") (r.kt 5) (.str (lits "abcdfeghijklmnopqrstuvwxyzABCDEFGHIJKLMNOPQRSTUVWXYZ0123456789_ßàáâãäåæçèéêëìíîïðñòóôõöøùúûüýþÿÀÁÂÃÄÅÆÇÈÉÊËÌÍÎÏÐÑÒÓÔÕÖØÙÚÛÜÝÞ") (r.vt 1)),
  dE P (lits "whitespace") (r.kt 6) (.str (S [32,9,13,10]) (r.vt 2)),dE P (lits "whitespace_split") (r.kt 7) (.bool false),dE P (lits "quotes") (r.kt 8) (.str (S [39,34]) (r.vt 3)),
  dE P (lits "escape") (r.kt 9) (.str (S [92]) (r.vt 4)),dE P (lits "escapedquotes") (r.kt 10) (.str (S [34]) (r.vt 5)),dE P (lits "state") (r.kt 11) r.st,dE P (lits "pushback") (r.kt 12) (.ref r.sS),
  dE P (lits "lineno") (r.kt 13) (.int r.ln r.bY),dE P (lits "debug") (r.kt 14) (.int 0 (r.vt 6)),dE P (lits "token") (r.kt 15) (.str r.tok r.ao),dE P (lits "filestack") (r.kt 16) (.ref r.sU),
  dE P (lits "source") (r.kt 17) .none,dE P (lits "_punctuation_chars") (r.kt 18) (.str (S []) (r.vt 7))]⟩ 19,⟨[]⟩⟩
def RS.led0 (P:Params) (r:RS):Led:=
 [(r.sU,U4),(r.sS,U4),(r.mq,inst 587 r.bh),(r.bh,eE P (r.vt 8) (r.vt 9) (r.vt 10) (r.vt 11) (r.vt 12) r.tp r.buf r.p)]
def in1 (w:World) (n tk a dx:Nat) (s:Str) (ts:Nat):Rs:=aQ w [] 646 (QL w.params) ⟨[.ref a,.str s ts],[(lits "posix",.bool true)]⟩ [(a,inst 722 dx),(dx,dI)] n tk (og 0x1111111111100) (og 0x110000000000000000000000000000001000000100)
def Va (w:World) (n tk:Nat) (L:Led) (q:Rs):Rs:=aB w [] q (.ok (.ret .none)) L n tk (og 0x100057770600060600600006555557770600060600600006577706000606006000065111010110000066605000505005000054666050005050050000546660500050500500005466605000505005000054111010110000055504000404004000043555040004040040000435550400040400400004355504000404004000043555040004040040000435550400040400400004355504000404004000040050440004000043504400040000435550400040400400004355504000404004000043555040004040040000433555040004040040000433555040004040040000433555040004040040000433333)
def newR (L:Led) (a dx b bx n t1 t2 t3 tn tp ts:Nat) (s:Str):RS:=
 {loc:=0,self:=a,sd:=dx,mq:=b,sS:=n,sU:=n+1,bh:=bx,kt:=fun i=>rQ L 6 i,
  vt:=fun i=>if i=0 then dg L 6 4 else if i=1 then dg L 6 5 else if i=2 then dg L 6 6 else if i=3 then dg L 6 8 else if i=4 then dg L 6 9 else if i=5 then dg L 6 10 else if i=6 then dg L 6 14 else if i=7 then dg L 6 18 else if i=8 then t1 else if i=9 then t2 else if i=10 then t3 else if i=11 then tn else ts,
  st:=.str (S [32]) (dg L 6 11),ln:=1,bY:=dg L 6 13,tok:=S [],ao:=dg L 6 15,qd:=false,esc:=.none,nc:=none,fj:=0,buf:=s,p:=0,tp:=tp}
theorem wu {a dx ts:Nat} {s:Str} (hA:A.handled=none) (hD:A.depth+6<recursionLimit) (k:au w h) (la:845≤a) (ld:845≤dx) (ne:a≠dx)
  (ga:h.get? a=some (inst 722 dx)) (gd:h.get? dx=some dI)
  (post:∀ h' tk' r,r.self=a→r.sd=dx→Keeps [dx] h h'→h'.get? dx=some (Ga w.params r)→(∀ p∈r.led0 w.params,h.objs.size≤p.1∧h'.get? p.1=some p.2)→((r.led0 w.params).map Prod.fst).Nodup→r.buf=s→r.p=0→r.tok=S []→(∃ t,r.st=.str (S [32]) t)→R (.ok (.ret .none)) ⟨h',g,d,tk',os⟩) :
  codeAny (model pw w) A (.call (.ref 646) ⟨[.ref a,.str s ts],[(lits "posix",.bool true)]⟩) R ⟨h,g,d,tk,os⟩:=by
 have own:∀ q∈([(a,inst 722 dx),(dx,dI)]:Led),h.get? q.1=some q.2:=by simp [ga,gd]
 obtain ⟨n0,R0⟩:=(Rep.start k own (lG ne) (by simp [la,ld])).up
 refine dJ (in1 w (n0+845) tk a dx s ts) .nil hA (by lia) R0 (n:=2) (c:=.call (.ref 80) ⟨[.ref 587,.str s ts],[]⟩) (by symm) (by symm) (by symm) ?_ rfl
 intro A1 h1 bT hD1 R1
 refine zK bT (by lia) R1.old ?_
 intro h2 tk2 b bx K2 lb lbx neb gb gbx
 have Ip:=R1.afterN K2 [(b,inst 587 bx),(bx,dI)] (by simp [lb,lbx]) (by simp [gb,gbx]) (lG neb)
 obtain ⟨n2,R2⟩:=Ip.up
 refine mD (aB w [] (in1 w (n0+845) tk a dx s ts) (.ok (.ret (.ref b))) ([(b,inst 587 bx),(bx,dI)]++(in1 w (n0+845) tk a dx s ts).L) (n2+845) tk2 [1,0,1,0,0,0,0,1]) .nil hA R2 (n:=2) (c:=.call (.ref 357) ⟨[.ref b,.str s ts],[]⟩) (by symm) ?_ rfl
 intro A3 h3 iY lJ R3
 have lb':845≤b:=Nat.le_trans (au.size (w:=w) R1.old) lb
 have Rr:845≤bx:=Nat.le_trans (au.size (w:=w) R1.old) lbx
 refine wk iY (by lia) R3.old lb' Rr neb (R3.at 0 (by symm)) (R3.at 1 (by symm)) ?_
 intro h4 tk4 t1 t2 t3 tn tp K4 G4
 obtain ⟨n4,R4⟩:=(R3.after1 (o:=dI) 1 (by symm) K4 Rr G4).up
 revert R4;refine gen (aB w [] (in1 w (n0+845) tk a dx s ts) (.ok (.ret (.ref b))) ([(b,inst 587 bx),(bx,dI)]++(in1 w (n0+845) tk a dx s ts).L) (n2+845) tk2 [1,0,1,0,0,0,0,1]) fun q2 eq2=>?_;intro R4
 refine cI (Va w (n4+845) tk4 (q2.L.set 1 (bx,eE w.params t1 t2 t3 tn ts tp s 0)) q2) .nil hA R4 (y:=.ok (.ret .none)) (by refine sb eq2 ?_;symm) (fun h5 R5=>?_) rfl
 obtain ⟨K5,o5⟩:=R5.done 5 (G':=[(a,inst 722 dx),(dx,Ga w.params (newR (Va w (n4+845) tk4 (q2.L.set 1 (bx,eE w.params t1 t2 t3 tn ts tp s 0)) q2).L a dx b bx (n4+845) t1 t2 t3 tn tp ts s))]) (mod:=[dx]) (by refine sb eq2 ?_;symm) rfl own (by simp)
 have et:(Va w (n4+845) tk4 (q2.L.set 1 (bx,eE w.params t1 t2 t3 tn ts tp s 0)) q2).L.take 4=(newR (Va w (n4+845) tk4 (q2.L.set 1 (bx,eE w.params t1 t2 t3 tn ts tp s 0)) q2).L a dx b bx (n4+845) t1 t2 t3 tn tp ts s).led0 w.params:=by refine sb eq2 ?_;symm
 have g1:h.objs.size≤h1.objs.size:=R1.grow
 have g4:h.objs.size≤n4+845:=R4.size ▸ R4.grow
 refine post h5 _ _ rfl rfl K5 (o5 (dx,_) (mem_cons_of_mem _ (mem_cons_self ..))) (fun p hp=>⟨?_,R5.own p (List.mem_of_mem_take (i:=4) (by rw [et];exact hp))⟩) ?_ rfl rfl rfl ⟨_,rfl⟩
 ·simp only [RS.led0,newR,mem_cons,not_mem_nil,or_false] at hp
  rcases hp with rfl | rfl | rfl | rfl
  ·exact Nat.le_succ_of_le g4
  ·exact g4
  ·exact Nat.le_trans g1 lb
  ·exact Nat.le_trans g1 lbx
 ·rw [← et]
  exact (R5.nd.sublist ((List.take_sublist 4 _).map _))
theorem wz {a:Nat} (hA:A.handled=none) (hD:A.depth+1<recursionLimit) (k:au w h)
  (post:∀ h' tk',Keeps [] h h'→R (.ok (.ret (.ref a))) ⟨h',g,d,tk',os⟩) :
  codeAny (model pw w) A (.call (.ref 712) ⟨[.ref a],[]⟩) R ⟨h,g,d,tk,os⟩:=by
 obtain ⟨n0,R0⟩:=(Rep.nil k).up
 exact bV (aQ w [] 712 (Mq w.params) ⟨[.ref a],[]⟩ [] (n0+845) tk [0,1,1] [1]) .nil hA (by lia) R0 (y:=.ok (.ret (.ref a))) (by symm) (by symm) (by symm) (fun h' R'=>post h' _ R'.fresh.1) rfl
noncomputable def vp (loc:Nat):Env:={scope:=zq (cm 19 10),locals:=loc,globals:=3,cells:=[],qual:=lits "shlex.__next__.<locals>.",func:=some 719,code:=.ref 718,frame:=some loc,builtins:=0}
def Ir (w:World) (n tk:Nat) (r:RS):Rs:=ig w 719 (fdOf (Mr w.params)) ⟨[.ref r.self],[]⟩ (r.led w.params).tail n tk [0,1,1]
def Vb (w:World) (n tk:Nat) (r:RS) (q:Rs):Rs:=bL w [] (wV (iJ (cm 19 10)) (vp n)) q.L q.nx q.tk (og 0x1103200002000200021)
def ns2 (w:World) (n tk:Nat) (q:Rs) (L:Led):Rs:=aB w [] q (.ok (.ret .none)) L n tk (og 0x11000000030220002000021111)
noncomputable def Gb:Obj:=⟨.type "tuple",none,.seq ⟨[]⟩ 0,⟨[]⟩⟩
def ns3 (w:World) (n tk:Nat) (q:Rs) (L:Led) (e t:Nat):Rs:=aB w [] q (.ok (.ret (.ref e))) ([(e,fM "StopIteration" t .none .none .none (.bool false) .none),(t,Gb)]++L) n tk (og 0x1113333e7f3e7f3e7f3e7f3e7f442200022222222220011011)
theorem mL {P:Params} (r:RS):∀ p∈(r.led P).tail,p.2.cls≠.type "frame" := by
 intro p hp
 simp only [RS.led,List.tail_cons,mem_cons,not_mem_nil,or_false] at hp
 rcases hp with rfl | rfl | rfl | rfl | rfl | rfl
 ·intro q;cases q
 ·exact (by decide:Value.type "dict" ≠ .type "frame")
 ·intro q;cases q
 ·exact (by decide:Value.type "collections.deque" ≠ .type "frame")
 ·exact (by decide:Value.type "collections.deque" ≠ .type "frame")
 ·exact (by decide:Value.type "dict" ≠ .type "frame")
theorem Lex.lt {r r':RS} (X:Lex w h r) (e:(r'.self,r'.sd,r'.mq,r'.sS,r'.sU,r'.bh)=(r.self,r.sd,r.mq,r.sS,r.sU,r.bh)):∀ q∈(r'.led w.params).tail,q.1<h.objs.size:=by
 have ef:=tD (P:=w.params) e
 intro q hq
 have:q.1∈(r.led w.params).tail.map Prod.fst:=by rw [← ef];exact mem_map_of_mem hq
 obtain ⟨p,hp,e⟩:=List.mem_map.mp this
 rw [← e];exact Heap.lt_size (X.own p hp)
theorem tE {r:RS} {cs:List Nat} {b:Bool} {l:List Env} (hA:A.handled=none) (hD:A.depth+8<recursionLimit) (hfr:A.frames=some l) (F:aG h l) (k:au w h) (X:zc w h r b cs)
  {sp:Bool} {rest:List Nat} (ho:FZ b cs=.brk sp [] false rest)
  (post:∀ h' tk' r' e t T f pl,ak [r.sd,r.bh] h h'→zc w h' r' sp rest→gw r'=gw r→dz h h' "StopIteration" [] e t T .none f .none pl→R (.error (.ref e)) ⟨h',g,d,tk',os⟩) :
  codeAny (model pw w) A (.call (.ref 719) ⟨[.ref r.self],[]⟩) R ⟨h,g,d,tk,os⟩:=by
 obtain ⟨n0,R0⟩:=(Rep.start k X.lex.own X.lex.nd X.lex.lo).up
 refine fC (Ir w (n0+845) tk r) hA (by lia) R0 (body:=iJ (cm 19 10)) (env:=vp (n0+845)) (by symm) (by symm) (by symm) ?_ rfl
 intro h1 R1
 have apart:=F.apart X.lex.own (mL r)
 refine bG ?_
 refine bA (Vb w (n0+845) tk r (Ir w (n0+845) tk r)) .nil hA R1 (n:=0) (c:=.call (.ref 683) ⟨[.ref r.self],[]⟩) (by symm) ?_ rfl
 intro A1 h2 bT hD1 R2
 have DK:=R2.cast (L':=(Vb w (n0+845) tk r (Ir w (n0+845) tk r)).L.take 1++(r.led w.params).tail) (by symm)
 have L2:=X.lex.of DK
 have Ge:A1.depth=A.depth+1:=hD1
 refine jW bT (by lia) R2.old {X with lex:=L2} ho ?_
 intro h3 tk3 r3 t3 K3 X3 e8
 obtain ⟨n3,R3⟩:=(Lex.after DK L2 K3 X3.lex e8).up
 have er:=RS.like_eq e8
 have Pn:gw (r3.like r)=gw r:=by rw [← er];exact e8
 have X3':zc w h3 (r3.like r) sp rest:=by rw [← er];exact X3
 rw [er] at R3
 rw [if_pos ⟨rfl,rfl⟩]
 refine aK (ns2 w (n3+845) tk3 (Vb w (n0+845) tk r (Ir w (n0+845) tk r)) _) .nil hA R3 (n:=0) (c:=.builtin "Exception.__new__" ⟨[.type "StopIteration"],[]⟩) (by symm) ?_ rfl
 intro A4 h4 hA4 hD4 R4
 refine uK ?_
 obtain ⟨n4,Vc⟩:=R4.up
 have Rt:h4.objs.size=n4+845:=Vc.size
 have R5:=(Vc.push (o:=Gb) rfl).push (o:=fM "StopIteration" (n4+845) .none .none .none (.bool false) .none) rfl
 rw [Rt]
 refine fB (ns3 w (n4+845+1+1) _ (ns2 w (n3+845) tk3 (Vb w (n0+845) tk r (Ir w (n0+845) tk r)) _) _ (n4+845+1) (n4+845)) .nil hA R5 (v:=.ref (n4+845+1)) (by symm) ?_ rfl
 intro h6 R6
 have G6:h6.get? (n4+845+1)=some (fM "StopIteration" (n4+845+1+1) .none .none .none (.bool false) .none):=R6.at 1 (by symm)
 have G6t:h6.get? (n4+845+1+1)=some Gb:=R6.at 0 (by symm)
 have F6:aG h6 (vp (n0+845)::l):=R6.frCons (R6.fr F apart) 3 (a:=n0+845) (by symm)
 refine jk (Around.frames_deeper hfr) F6 rfl G6 (.inl rfl) ?_
 intro h7 pl z1 z2 z3 z4
 have g4:h.objs.size≤n4+845:=by rw [← Rt];exact R4.grow
 have g6:n4+845+1+1<h6.objs.size:=Heap.lt_size G6t
 have g6':n4+845+1<h6.objs.size:=Heap.lt_size G6
 obtain ⟨K6,L6⟩:=Lex.next (r':=r3.like r) X.lex R6 4 (by symm) rfl
 have K7:=K6.f.late (z2.f z1) (by simp;lia)
 have L7:Lex w h7 (r3.like r):=⟨fun q hq=>(z2.get q.1 (Nat.ne_of_lt (Nat.lt_of_lt_of_le (X.lex.lt (r':=r3.like r) rfl q hq) (Nat.le_succ_of_le g4))) q.2 (L6.own q hq)).1 (mL _ q hq),L6.nd,L6.lo⟩
 exact post h7 _ (r3.like r) (n4+845+1) (n4+845+1+1) h6.objs.size _ pl K7 {X3' with lex:=L7} Pn ⟨⟨by lia,by lia,R6.grow⟩,⟨Nat.ne_of_lt (Nat.lt_succ_self _),Nat.ne_of_lt g6',Nat.ne_of_lt g6⟩,z3,(z2.get (n4+845+1+1) (Nat.ne_of_gt (Nat.lt_succ_self _)) _ G6t).1 (by decide),z4⟩
section
variable {w:World} {g:Array GenState} {d:Drawn} {os:OsState} {A:Around} {R:Result→Shared→Prop} {Q:Fin→Shared→Prop} {E:Value→Shared→Prop} {h₀ h:Heap} {gv:List Addr}
noncomputable abbrev zL (r:Rs) (n:Nat) (c:Code) (fr:List Env) (u:Nat):Prop:=fU r n c∧(M4 (aL r),Pj (aL r))=(fr,u)
theorem bQ {t:Sem Fin} {L:Led} {nx tk:Nat} {n:Nat} {c:Code} {fr:List Env} {u:Nat} {aC:List Nat} {H:List Hk} (q:Rs) (HH:aF w H) (hA:A.handled=none) (rep:Rep (K w) h₀ gv L nx h)
  (ok:zL q n c fr u)
  (k:∀ A' h,A'.handled=none→A'.depth=A.depth+n→(∀ l,A.frames=some l→A'.frames=some (fr++l))→A'.units=A.units+u→Rep (K w) h₀ gv q.L q.nx h→codeAny (model pw w) A' c (fun r' s'=>Mn (xg w g d os A Q E) (aL q) (aR q r') s') ⟨h,g,d,q.tk,os⟩)
  (e:q=bL w H t L nx tk aC):wpAny (model pw w) A t Q E ⟨h,g,d,tk,os⟩:=by
 subst e
 exact wg HH aC hA rep ok.1.good (mK (V:=xg w g d os A Q E) hA ok.1 ok.2 k)
theorem cJ {r:Rs} {x:Result} {L:Led} {nx tk:Nat} {n:Nat} {c:Code} {fr:List Env} {u:Nat} {aC:List Nat} {H:List Hk} (q:Rs) (HH:aF w H) (hA:A.handled=none) (rep:Rep (K w) h₀ gv L nx h)
  (ok:zL q n c fr u)
  (k:∀ A' h,A'.handled=none→A'.depth=A.depth+n→(∀ l,A.frames=some l→A'.frames=some (fr++l))→A'.units=A.units+u→Rep (K w) h₀ gv q.L q.nx h→codeAny (model pw w) A' c (fun r' s'=>Mn (xg w g d os A Q E) (aL q) (aR q r') s') ⟨h,g,d,q.tk,os⟩)
  (e:q=aB w H r x L nx tk aC):Mn (xg w g d os A Q E) (aL r) (aR r x) ⟨h,g,d,tk,os⟩:=by
 subst e
 exact rT HH aC hA rep ok.1.good (mK (V:=xg w g d os A Q E) hA ok.1 ok.2 k)
theorem Gf {r:Rs} {x:Result} {L:Led} {nx tk:Nat} {n:Nat} {c:Code} {fr:List Env} {u:Nat} {aC:List Nat} {H:List Hk} (q:Rs) (HH:aF w H) (hA:A.handled=none) (rep:Rep (K w) h₀ gv L nx h)
  (ok:zL q n c fr u)
  (k:∀ A' h,A'.handled=none→A'.depth=A.depth+n→(∀ l,A.frames=some l→A'.frames=some (fr++l))→A'.units=A.units+u→Rep (K w) h₀ gv q.L q.nx h→codeAny (model pw w) A' c (fun r' s'=>Mn (xc w g d os A R) (aL q) (aR q r') s') ⟨h,g,d,q.tk,os⟩)
  (e:q=aB w H r x L nx tk aC):Mn (xc w g d os A R) (aL r) (aR r x) ⟨h,g,d,tk,os⟩:=by
 subst e
 exact vX HH aC hA rep ok.1.good (mK (V:=xc w g d os A R) hA ok.1 ok.2 k)
theorem xR {L:Led} {nx tk:Nat} {f:Nat} {ob:Obj} {args:Args} {n:Nat} {c:Code} {fr:List Env} {u:Nat} {o1 o2:List Nat} {H:List Hk} (q:Rs) (HH:aF w H) (hA:A.handled=none) (hroom:A.depth<recursionLimit) (rep:Rep (K w) h₀ gv L nx h)
  (hf:Fp w f ob) (pre:iB (ig w f (fdOf ob) args L nx tk o1)) (ok:zL q n c fr u)
  (k:∀ A' h,A'.handled=none→A'.depth=A.depth+n→(∀ l,A.frames=some l→A'.frames=some (fr++l))→A'.units=A.units+u→Rep (K w) h₀ gv q.L q.nx h→codeAny (model pw w) A' c (fun r' s'=>Mn (xc w g d os A R) (aL q) (aR q r') s') ⟨h,g,d,q.tk,os⟩)
  (e:q=aQ w H f ob args L nx tk o1 o2):codeAny (model pw w) A (.call (.ref f) args) R ⟨h,g,d,tk,os⟩:=by
 unfold aQ at e
 subst e
 obtain ⟨a,hf⟩:=Prod.mk.inj hf
 obtain ⟨b,hf⟩:=Prod.mk.inj hf
 obtain ⟨e1,e2⟩:=Prod.mk.inj hf
 exact zu _ _ HH hA hroom rep o1 o2 a b e1 e2 rfl pre.good pre.ok rfl ok.1.good (mK (V:=xc w g d os A R) hA ok.1 ok.2 k)
noncomputable abbrev cU (r:Rs) (f:Fin):Prop:=lR r=(r.ps.map Prod.snd,r.ts.map Prod.snd,r.cs.map Prod.snd,.fin f)
theorem cU.good {r:Rs} {v:Fin} (h:cU r v):Good r:=by
 obtain ⟨a,h⟩:=Prod.mk.inj h
 obtain ⟨b,h⟩:=Prod.mk.inj h
 obtain ⟨c,_⟩:=Prod.mk.inj h
 exact Prod.ext a (Prod.ext b c)
theorem aO {r:Rs} {x:Result} {v:Fin} {L:Led} {nx tk:Nat} {aC:List Nat} {H:List Hk} (q:Rs) (HH:aF w H) (hA:A.handled=none) (rep:Rep (K w) h₀ gv L nx h)
  (ok:cU q v) (k:∀ h,Rep (K w) h₀ gv q.L q.nx h→Q v ⟨h,g,d,q.tk,os⟩)
  (e:q=aB w H r x L nx tk aC):Mn (xg w g d os A Q E) (aL r) (aR r x) ⟨h,g,d,tk,os⟩:=by
 subst e
 exact rT HH aC hA rep ok.good (lH (V:=xg w g d os A Q E) (Prod.mk.inj (Prod.mk.inj (Prod.mk.inj ok).2).2).2 k)
theorem fZ {t:Sem Fin} {v:Fin} {L:Led} {nx tk:Nat} {aC:List Nat} {H:List Hk} (q:Rs) (HH:aF w H) (hA:A.handled=none) (rep:Rep (K w) h₀ gv L nx h)
  (ok:cU q v) (k:∀ h,Rep (K w) h₀ gv q.L q.nx h→Q v ⟨h,g,d,q.tk,os⟩)
  (e:q=bL w H t L nx tk aC):wpAny (model pw w) A t Q E ⟨h,g,d,tk,os⟩:=by
 subst e
 exact wg HH aC hA rep ok.good (lH (V:=xg w g d os A Q E) (Prod.mk.inj (Prod.mk.inj (Prod.mk.inj ok).2).2).2 k)
end
noncomputable def lo (L:Led) (i:Nat):Obj:=match L[i]? with | some p=>p.2 | none=>default
noncomputable def jH (esc:Bool):Str:=if esc then lits "No escaped character" else lits "No closing quotation"
noncomputable def dz.three {h h':Heap} {cls:String} {args:List Value} {e t T:Addr} {hd:Value} {f:Addr} {fl:Value} {pl:List Value} (_:dz h h' cls args e t T hd f fl pl):Led:=
 [(e,fM cls t (.ref T) .none .none (.bool false) .none),(t,⟨.type "tuple",none,.seq ⟨args⟩ 0,⟨[]⟩⟩),(T,qj hd f fl pl)]
theorem dz.n1 {h h' h1:Heap} {cls:String} {args:List Value} {e t T:Addr} {hd:Value} {f:Addr} {fl:Value} {pl:List Value} (X:dz h h' cls args e t T hd f fl pl) (s:h1.objs.size≤h.objs.size):∀ p∈X.three,h1.objs.size≤p.1:=by
 obtain ⟨a,b,c⟩:=X.lo
 intro p hp
 simp only [dz.three,mem_cons,not_mem_nil,or_false] at hp
 rcases hp with rfl | rfl | rfl <;> (show h1.objs.size≤_) <;> lia
theorem dz.n2 {h h':Heap} {cls:String} {args:List Value} {e t T:Addr} {hd:Value} {f:Addr} {fl:Value} {pl:List Value} (X:dz h h' cls args e t T hd f fl pl):∀ p∈X.three,h'.get? p.1=some p.2:=by
 intro p hp
 simp only [dz.three,mem_cons,not_mem_nil,or_false] at hp
 rcases hp with rfl | rfl | rfl
 ·exact X.exc
 ·exact X.tup
 ·exact X.tb
theorem dz.n3 {h h':Heap} {cls:String} {args:List Value} {e t T:Addr} {hd:Value} {f:Addr} {fl:Value} {pl:List Value} (X:dz h h' cls args e t T hd f fl pl):(X.three.map Prod.fst).Nodup:=by
 obtain ⟨a,b,c⟩:=X.ne
 simp only [dz.three,map_cons,map_nil,nodup_cons,mem_cons,not_mem_nil,or_false,not_or,not_false_eq_true,List.nodup_nil,and_true]
 exact ⟨⟨a,b⟩,c⟩
def whT:Code→Sem Fin
 | .whileLoop t b o env=>PySem.W.ZFast.zw12362719219628433562 t b o env
 | _=>default
theorem zM {t:Expr} {b o:List Stmt} {env:Env} {s:Shared}
  (z:wpAny (model pw w) A (whT (.whileLoop t b o env)) (fun fin s'=>match fin with | .done f=>R (.ok f) s' | .again c'=>c'.quiet=true∧codeAny (model pw w) A c' R s')
   (fun e s'=>wpAny (model pw w) A (noteFrame e env) (fun _ s''=>R (.error e) s'') (fun x s''=>R (.error x) s'') s') s):codeAny (model pw w) A (.whileLoop t b o env) R s:=by
 refine codeAny_of_tree ?_
 show wpAny _ A ((whileTurn t b o env).onRaise (fun x=>do noteFrame x env;theTreesLotGoes x)) _ _ s
 refine wpAny_noted ?_
 rw [PySem.W.ZFast.ze12362719219628433562]
 exact z
def Ru (w:World) (n tk:Nat) (r:RS):Rs:=bL w [] (whT (bk r.loc)) (r.led w.params) n tk (og 0x110000000000002000021)
def bq2 (w:World) (n tk:Nat) (r:RS) (q:Rs):Rs:=aB w [] q (.ok (.ret (.str (S []) (r.vt 7)))) q.L n tk (og 0x1107400004000000040000000430220002000021000)
noncomputable def tG (w:World) (g:Array GenState) (d:Drawn) (os:OsState) (R:Result→Shared→Prop) (h:Heap) (r:RS) (msg:Str):Prop:=
 ∀ h' tk' r' e t T pl tm sl,ak [r.loc,r.sd,r.bh] h h'→eZ r'=eZ r→h'.get? r.loc=some ⟨(xK w.params r').cls,(xK w.params r').dict,(xK w.params r').data,sl⟩→(∃ v,r'.nc=some v)→Lex w h' r'→dz h h' "ValueError" [.str msg tm] e t T .none r.loc (rawInt r.loc) pl→R (.error (.ref e)) ⟨h',g,d,tk',os⟩
theorem Has.lt {r r2:RS} (H:Has w h r) (e:r.at r2):∀ q∈r2.led w.params,q.1<h.objs.size:=by
 intro q hq
 have:q.1∈(r.led w.params).map Prod.fst:=by rw [← RS.fst e];exact mem_map_of_mem hq
 obtain ⟨p,hp,e⟩:=List.mem_map.mp this
 rw [← e];exact Heap.lt_size (H.own p hp)
theorem Iu {msg:Str} {r r2:RS} {tm e t:Nat} {h7:Heap} {l:List Env} {E:Value→Shared→Prop} (H:Has w h r) (he:eZ r2=eZ r) (K7:Keeps [r.loc,r.sd,r.bh] h h7) (H7:Has w h7 r2) (hnc:∃ v,r2.nc=some v)
  (ge:h7.get? e=some (fM "ValueError" t .none .none .none (.bool false) .none)) (gt:h7.get? t=some ⟨.type "tuple",none,.seq ⟨[.str msg tm]⟩ 0,⟨[]⟩⟩) (lo1:h.objs.size≤e) (lo2:h.objs.size≤t) (ne:e≠t)
  (hfr:A.frames=some (gG r.loc::l)) (F7:aG h7 (gG r.loc::l)) (post:tG w g d os R h r msg):wpAny (model pw w) A (noteFrame (.ref e) (gG r.loc)) (fun _ s''=>R (.error (.ref e)) s'') E ⟨h7,g,d,tk,os⟩:=by
 refine jU hfr F7 rfl ge (.inl rfl) fun h8 pl z1 z2 z3 z4=>?_
 have lt:=H.lt (r2:=r2) (jz he)
 have el:r2.loc=r.loc:=congrArg Prod.fst he
 have lt':∀ q∈r2.led w.params,q.1≠e:=fun q hq=>Nat.ne_of_lt (Nat.lt_of_lt_of_le (lt q hq) lo1)
 have g1:=H7.own (r2.loc,xK w.params r2) (mem_cons_self ..)
 obtain ⟨_,sl,hsl⟩:=z2.get r2.loc (lt' (r2.loc,xK w.params r2) (mem_cons_self ..)) _ g1
 rw [el] at hsl
 refine post h8 _ r2 e t h7.objs.size pl tm sl (K7.f.late (z2.f z1) (bK lo1)) he hsl hnc ⟨fun q hq=>?_,?_,fun q hq=>H7.lo q (List.mem_of_mem_tail hq)⟩ ⟨⟨lo1,lo2,K7.size⟩,⟨ne,Nat.ne_of_lt (Heap.lt_size ge),Nat.ne_of_lt (Heap.lt_size gt)⟩,z3,(z2.get t (Ne.symm ne) _ gt).1 (show Value.type "tuple" ≠ .type "frame" by decide),z4⟩
 ·exact (z2.get q.1 (lt' q (List.mem_of_mem_tail hq)) q.2 (H7.own q (List.mem_of_mem_tail hq))).1 (mL _ q hq)
 ·have nd:=H7.nd
  simp only [RS.led,map_cons,nodup_cons,List.tail_cons] at nd ⊢
  exact nd.2
def Pq (w:World) (r:RS) (n tk n2 tk2:Nat):Rs:=bq2 w (n2+845) tk2 r (Ru w (n+845) tk r)
def Iv (w:World) (r:RS) (o:List Nat) (n tk n2 tk2 n4 tk4 t4:Nat):Rs:=aB w [] (Pq w r n tk n2 tk2) (.ok (.ret (.str (S []) t4))) (Pq w r n tk n2 tk2).L (n4+845) tk4 o
def KJ (w:World) (q5:Rs) (n5:Nat) (msg:Str) (tm:Nat):Rs:=aB w [] q5 (.ok (.ret (.ref (n5+845+1)))) ((n5+845+1,fM "ValueError" (n5+845) .none .none .none (.bool false) .none)::(n5+845,⟨.type "tuple",none,.seq ⟨[.str msg tm]⟩ 0,⟨[]⟩⟩)::q5.L) (n5+845+1+1) q5.tk (og 0x1333e7f3e7f3e7f3e7f3e7f3e7f3e7f44222222222011011)
theorem M9 {r:RS} {n tk:Nat}:fU (Ru w (n+845) tk r) 0 (.call (.ref 653) ⟨[.ref r.self],[]⟩)∧(Ru w (n+845) tk r).L[1]? = some (r.self,inst 722 r.sd)∧(Ru w (n+845) tk r).L[2]? = some (r.sd,kY w.params r):=by obtain ⟨a1,a2,a3,a4,a5,a6,a7,a8,a9,b1,b2,b3,b4,b5,b6,b7,b8,b9,c1,c2,c3⟩:=r;cases b8 <;> exact ⟨by symm,by symm,by symm⟩
theorem Nb {r:RS} {n tk n2 tk2:Nat}:fU (Pq w r n tk n2 tk2) 0 (.call (.ref 533) ⟨[.ref r.mq,.int 1 (tk2+3)],[]⟩)∧(Pq w r n tk n2 tk2).L[3]? = some (r.mq,inst 587 r.bh)∧(Pq w r n tk n2 tk2).L[6]? = some (r.bh,eE w.params (r.vt 8) (r.vt 9) (r.vt 10) (r.vt 11) (r.vt 12) r.tp r.buf r.p):=by obtain ⟨a1,a2,a3,a4,a5,a6,a7,a8,a9,b1,b2,b3,b4,b5,b6,b7,b8,b9,c1,c2,c3⟩:=r;cases b8 <;> exact ⟨by symm,by symm,by symm⟩
theorem kh {r:RS} {l:List Env} {msg:Str} (c:Nat) (o:List Nat) (f:Nat→Nat→RS) (hA:A.handled=none) (hD:A.depth+4<recursionLimit) (hfr:A.frames=some (gG r.loc::l)) (FF:aG h l) (k:au w h) (H:Has w h r) (hl:∀ env∈l,∀ a,env.frame=some a→a∉(r.led w.params).map Prod.fst) (hch:r.p=r.buf.length) (hb:r.buf.length<1000)
  (post:tG w g d os R h r msg)
  (ok:∀ n n2 tk2 n4 tk4 t4,fU (Iv w r o n tk n2 tk2 n4 tk4 t4) 0 (.builtin "ValueError.__new__" ⟨[.type "ValueError",.str msg (tk4+c)],[]⟩))
  (ok2:∀ n n2 tk2 n4 tk4 t4 n5,wj (KJ w (Iv w r o n tk n2 tk2 n4 tk4 t4) n5 msg (tk4+c)) (.ref (n5+845+1)) ∧
   (((KJ w (Iv w r o n tk n2 tk2 n4 tk4 t4) n5 msg (tk4+c)).L[3]?.map fun p=>(p.1,p.2.cls,eV p.2),(gG r.loc).frame,gY (gG r.loc))=(some (r.loc,.type "frame",true),some r.loc,true)) ∧
   (KJ w (Iv w r o n tk n2 tk2 n4 tk4 t4) n5 msg (tk4+c)).L.drop 3=(f t4 (rQ (KJ w (Iv w r o n tk n2 tk2 n4 tk4 t4) n5 msg (tk4+c)).L 3 3)).led w.params ∧
   (KJ w (Iv w r o n tk n2 tk2 n4 tk4 t4) n5 msg (tk4+c)).L[1]? = some (n5+845+1,fM "ValueError" (n5+845+1+1) .none .none .none (.bool false) .none) ∧
   (KJ w (Iv w r o n tk n2 tk2 n4 tk4 t4) n5 msg (tk4+c)).L[0]? = some (n5+845+1+1,⟨.type "tuple",none,.seq ⟨[.str msg (tk4+c)]⟩ 0,⟨[]⟩⟩))
  (he:∀ a b,r.at (f a b)∧eZ (f a b)=eZ r∧∃ v,(f a b).nc=some v) :
  codeAny (model pw w) A (bk r.loc) R ⟨h,g,d,tk,os⟩:=by
 obtain ⟨n0,R0⟩:=(Rep.start k H.own H.nd H.lo).up
 obtain ⟨lo2,BJ,MP,Fv,Ph,Fw⟩:=H.two
 have lo1:845≤r.loc:=H.lo _ (mem_cons_self ..)
 refine zM ?_
 refine bA (Ru w (n0+845) tk r) .nil hA R0 (n:=0) (c:=.call (.ref 653) ⟨[.ref r.self],[]⟩) M9.1 ?_ rfl
 intro A1 h1 bT hD1 R1
 refine jT (r:=r) bT (by lia) R1.old ⟨R1.at 1 M9.2.1,R1.at 2 M9.2.2,lo2,BJ,MP⟩ ?_
 intro h2 tk2 K2
 obtain ⟨n2,R2⟩:=(R1.after0 K2).up
 refine aK (Pq w r n0 tk n2 tk2) .nil hA R2 (n:=0) Nb.1 ?_ rfl
 intro A3 h3 iY lJ R3
 refine sO iY (by lia) R3.old Fv Ph Fw (R3.at 3 Nb.2.1) (R3.at 6 Nb.2.2) hch hb ?_
 intro h4 tk4 t4 K4
 obtain ⟨n4,R4⟩:=(R3.after0 K4).up
 refine aK (Iv w r o n0 tk n2 tk2 n4 tk4 t4) .nil hA R4 (n:=0) (ok n0 n2 tk2 n4 tk4 t4) ?_ rfl
 intro A5 h5 vY xM R5
 have ok7:=ok2 n0 n2 tk2 n4 tk4 t4
 revert R5 ok7;refine yZ (Iv w r o n0 tk n2 tk2 n4 tk4 t4) fun q5=>?_;intro R5 ok7
 refine codeAny_exc_new F.excCall_ValueError.toExcNewFacts ?_
 obtain ⟨n5,R5u⟩:=R5.up
 have DN:h5.objs.size=n5+845:=R5u.size
 have R6:=(R5u.push (o:=⟨.type "tuple",none,.seq ⟨[.str msg (tk4+c)]⟩ 0,⟨[]⟩⟩) rfl).push (o:=fM "ValueError" (n5+845) .none .none .none (.bool false) .none) rfl
 rw [DN]
 obtain ⟨o1,o2,o3,o4,o5⟩:=ok7 n5
 refine fB (KJ w q5 n5 msg (tk4+c)) .nil hA R6 (v:=.ref (n5+845+1)) o1 ?_ rfl
 intro h7 R7
 revert o2 o3 o4 o5 R7;refine yZ (KJ w q5 n5 msg (tk4+c)) fun q7=>?_;intro o2 o3 o4 o5 R7
 have F7:aG h7 (gG r.loc::l):=R7.frCons (R7.fr FF hl) 3 (a:=r.loc) o2 lo1
 obtain ⟨e1,e2,e3⟩:=he t4 (rQ q7.L 3 3)
 obtain ⟨K7,H7⟩:=H.next R7 3 _ o3 e1
 have g5:h.objs.size≤n5+845:=by rw [← DN];exact R5.grow
 exact Iu (r:=r) (e:=n5+845+1) (t:=n5+845+1+1) (tm:=tk4+c) H e2 K7 H7 e3 (R7.at 1 o4) (R7.at 0 o5) (by lia) (by lia) (Nat.ne_of_lt (Nat.lt_succ_self _)) hfr F7 post
theorem xT {r:RS} {ts te:Nat} {nv:Value} {l:List Env} (hA:A.handled=none) (hD:A.depth+4<recursionLimit) (hfr:A.frames=some (gG r.loc::l)) (FF:aG h l) (k:au w h) (H:Has w h {r with st:=.str (S [39]) ts,nc:=some nv}) (hl:∀ env∈l,∀ a,env.frame=some a→a∉(r.led w.params).map Prod.fst) (hch:r.p=r.buf.length) (hb:r.buf.length<1000)
  (post:tG w g d os R h {r with st:=.str (S [39]) ts,nc:=some nv} (lits "No closing quotation")) :
  codeAny (model pw w) A (bk r.loc) R ⟨h,g,d,tk,os⟩:=
 kh (r:={r with st:=.str (S [39]) ts,nc:=some nv}) 14 (og 0x11000000030220002000021000111003022000200002130220002000021003022000200002130220002000021003022000200002100111) (fun a b=>{r with st:=.str (S [39]) ts,nc:=some (.str (S []) a),fj:=b,qd:=true}) hA hD hfr FF k H hl hch hb post (fun _ _ _ _ _ _=>by symm) (fun _ _ _ _ _ _ _=>⟨by symm,by symm,by symm,by symm,by symm⟩) (fun _ _=>⟨rfl,rfl,_,rfl⟩)
theorem xU {r:RS} {ts te:Nat} {nv:Value} {l:List Env} (hA:A.handled=none) (hD:A.depth+4<recursionLimit) (hfr:A.frames=some (gG r.loc::l)) (FF:aG h l) (k:au w h) (H:Has w h {r with st:=.str (S [34]) ts,nc:=some nv}) (hl:∀ env∈l,∀ a,env.frame=some a→a∉(r.led w.params).map Prod.fst) (hch:r.p=r.buf.length) (hb:r.buf.length<1000)
  (post:tG w g d os R h {r with st:=.str (S [34]) ts,nc:=some nv} (lits "No closing quotation")) :
  codeAny (model pw w) A (bk r.loc) R ⟨h,g,d,tk,os⟩:=
 kh (r:={r with st:=.str (S [34]) ts,nc:=some nv}) 14 (og 0x11000000030220002000021000111003022000200002130220002000021003022000200002130220002000021003022000200002100111) (fun a b=>{r with st:=.str (S [34]) ts,nc:=some (.str (S []) a),fj:=b,qd:=true}) hA hD hfr FF k H hl hch hb post (fun _ _ _ _ _ _=>by symm) (fun _ _ _ _ _ _ _=>⟨by symm,by symm,by symm,by symm,by symm⟩) (fun _ _=>⟨rfl,rfl,_,rfl⟩)
theorem xV {r:RS} {ts te:Nat} {nv:Value} {l:List Env} (hA:A.handled=none) (hD:A.depth+4<recursionLimit) (hfr:A.frames=some (gG r.loc::l)) (FF:aG h l) (k:au w h) (H:Has w h {r with st:=.str (S [92]) ts,nc:=some nv,esc:=.str (S [97]) te}) (hl:∀ env∈l,∀ a,env.frame=some a→a∉(r.led w.params).map Prod.fst) (hch:r.p=r.buf.length) (hb:r.buf.length<1000)
  (post:tG w g d os R h {r with st:=.str (S [92]) ts,nc:=some nv,esc:=.str (S [97]) te} (lits "No escaped character")) :
  codeAny (model pw w) A (bk r.loc) R ⟨h,g,d,tk,os⟩:=
 kh (r:={r with st:=.str (S [92]) ts,nc:=some nv,esc:=.str (S [97]) te}) 15 (og 0x110000000302200020000210001003022000200002130220002000021003022000200002130220002000021003022000200002130220002000021003022000200002100111) (fun a b=>{r with st:=.str (S [92]) ts,nc:=some (.str (S []) a),fj:=b,esc:=.str (S [97]) te}) hA hD hfr FF k H hl hch hb post (fun _ _ _ _ _ _=>by symm) (fun _ _ _ _ _ _ _=>⟨by symm,by symm,by symm,by symm,by symm⟩) (fun _ _=>⟨rfl,rfl,_,rfl⟩)
theorem xW {r:RS} {ts te:Nat} {nv:Value} {l:List Env} (hA:A.handled=none) (hD:A.depth+4<recursionLimit) (hfr:A.frames=some (gG r.loc::l)) (FF:aG h l) (k:au w h) (H:Has w h {r with st:=.str (S [92]) ts,nc:=some nv,esc:=.str (S [34]) te}) (hl:∀ env∈l,∀ a,env.frame=some a→a∉(r.led w.params).map Prod.fst) (hch:r.p=r.buf.length) (hb:r.buf.length<1000)
  (post:tG w g d os R h {r with st:=.str (S [92]) ts,nc:=some nv,esc:=.str (S [34]) te} (lits "No escaped character")) :
  codeAny (model pw w) A (bk r.loc) R ⟨h,g,d,tk,os⟩:=
 kh (r:={r with st:=.str (S [92]) ts,nc:=some nv,esc:=.str (S [34]) te}) 15 (og 0x110000000302200020000210001003022000200002130220002000021003022000200002130220002000021003022000200002130220002000021003022000200002100111) (fun a b=>{r with st:=.str (S [92]) ts,nc:=some (.str (S []) a),fj:=b,esc:=.str (S [34]) te}) hA hD hfr FF k H hl hch hb post (fun _ _ _ _ _ _=>by symm) (fun _ _ _ _ _ _ _=>⟨by symm,by symm,by symm,by symm,by symm⟩) (fun _ _=>⟨rfl,rfl,_,rfl⟩)
theorem Gg {m:Mo} {r:RS} {ts te:Nat} {nv:Value} {l:List Env} {esc:Bool} (hA:A.handled=none) (hD:A.depth+4<recursionLimit) (hfr:A.frames=some (gG r.loc::l)) (FF:aG h l) (k:au w h) (H:Has w h r) (hl:∀ env∈l,∀ a,env.frame=some a→a∉(r.led w.params).map Prod.fst) (hch:r.p=r.buf.length) (hb:r.buf.length<1000)
  (m1:esc=false→m=.sq∨m=.dq) (m2:esc=true→m=.ea∨m=.eq) (est:r.st=KD m ts) (Rn:vo m r.esc te) (enc:r.nc=some nv) (post:tG w g d os R h r (jH esc)):codeAny (model pw w) A (bk r.loc) R ⟨h,g,d,tk,os⟩:=by
 cases esc with
 | false=>
  rcases m1 rfl with rfl | rfl
  ·have er:r={r with st:=.str (S [39]) ts,nc:=some nv}:=by cases r;simp_all [KD]
   rw [er] at H post
   exact xT (te:=te) hA hD hfr FF k H hl hch hb post
  ·have er:r={r with st:=.str (S [34]) ts,nc:=some nv}:=by cases r;simp_all [KD]
   rw [er] at H post
   exact xU (te:=te) hA hD hfr FF k H hl hch hb post
 | true=>
  rcases m2 rfl with rfl | rfl
  ·have er:r={r with st:=.str (S [92]) ts,nc:=some nv,esc:=.str (S [97]) te}:=by cases r;simp_all [KD,vo]
   rw [er] at H post
   exact xV (te:=te) hA hD hfr FF k H hl hch hb post
  ·have er:r={r with st:=.str (S [92]) ts,nc:=some nv,esc:=.str (S [34]) te}:=by cases r;simp_all [KD,vo]
   rw [er] at H post
   exact xW (te:=te) hA hD hfr FF k H hl hch hb post
def Vd (w:World) (n tk:Nat) (r:RS):Rs:=ig w 690 (fdOf (Mp w.params)) ⟨[.ref r.self],[]⟩ (r.led w.params).tail n tk [0,1,1]
def Nf (w:World) (n tk:Nat) (r:RS):Rs:=bL w [] (wV (iJ (cm 19 6)) (gG n)) (Vd w n tk r).L (Vd w n tk r).nx (Vd w n tk r).tk [1,1,1,1,1]
def rb2 (w:World) (n tk:Nat) (q:Rs) (L:Led) (e:Nat):Rs:=aB w [] q (.error (.ref e)) L n tk [1,1,3,3]
noncomputable def xX (o:Obj) (sl:Array (Option Value)):Obj:=⟨o.cls,o.dict,o.data,sl⟩
theorem lA {r:RS} {cs:List Nat} {ts:Nat} {l:List Env} {esc:Bool} (hA:A.handled=none) (hD:A.depth+6<recursionLimit) (hfr:A.frames=some l) (FF:aG h l) (k:au w h) (X:Lex w h r) (qZ:r.tok=S []) (hcs:r.buf.cps.toList.drop r.p=cs) (hp:r.p≤r.buf.length) (sg:∀ c∈cs,c∈sgn)
  (len:2*cs.length<8000) (b1:r.buf.length<1000) (b2:2≤r.buf.length) (est:r.st=.str (S [32]) ts) (ho:rt cs .sp [] false=.bad esc)
  (post:∀ h' tk' r' e t T hd f pl tm,ak [r.sd,r.bh] h h'→Lex w h' r'→gw r'=gw r→dz h h' "ValueError" [.str (jH esc) tm] e t T hd f .none pl→R (.error (.ref e)) ⟨h',g,d,tk',os⟩) :
  codeAny (model pw w) A (.call (.ref 690) ⟨[.ref r.self],[]⟩) R ⟨h,g,d,tk,os⟩:=by
 obtain ⟨n0,R0⟩:=(Rep.start k X.own X.nd X.lo).up
 have apart:=FF.apart X.own (mL r)
 refine fC (Vd w (n0+845) tk r) hA (by lia) R0 (body:=iJ (cm 19 6)) (env:=gG (n0+845)) (by symm) (by symm) (by symm) ?_ rfl
 intro h0 Gh
 refine bG ?_
 refine bQ (Nf w (n0+845) tk r) .nil hA Gh (n:=0) (c:=bk (n0+845)) (fr:=[]) (u:=0) ⟨by symm,by symm⟩ ?_ rfl
 intro A1 h1 bT hD1 ql _ R1
 have cN:=R1.cast (L':=(inLoop (Nf w (n0+845) tk r).L (n0+845) r).led w.params) (by symm)
 have H1:=X.has cN
 have k1:au w h1:=R1.old
 revert cN H1;refine gen (inLoop (Nf w (n0+845) tk r).L (n0+845) r) fun r1 er=>?_;intro cN H1
 have e10:gw r1=gw r:=by rw [← er];rfl
 have uL:r1.loc=n0+845:=by rw [← er];rfl
 have f1:r1.st=r.st:=by rw [← er];rfl
 have f2:r1.tok=r.tok:=by rw [← er];rfl
 have f3:r1.p=r.p:=by rw [← er];rfl
 have f4:r1.buf=r.buf:=by rw [← er];rfl
 have f5:r1.nc=none:=by rw [← er];rfl
 have f6:r1.qd=false:=by rw [← er];rfl
 have ac2:A1.frames=some (gG (n0+845)::l):=ql _ (Around.frames_deeper hfr)
 have F1:aG h1 l:=R1.fr FF apart
 have apart1:∀ env∈l,∀ a,env.frame=some a→a∉(r1.led w.params).map Prod.fst:=fun env he a ea hm=>by
  obtain ⟨_,L,o,e1,e2,_,_⟩:=FF env he
  rw [ea] at e1
  obtain rfl:=Option.some.inj e1
  have lt:=Heap.lt_size e2
  simp only [RS.led,map_cons,mem_cons] at hm
  rcases hm with rfl | hm
  ·rw [uL] at lt
   exact absurd lt (by rw [R0.size];exact Nat.lt_irrefl _)
  ·refine apart env he _ ea ?_
   simp only [gw,Prod.mk.injEq] at e10
   obtain ⟨z1,z2,z3,z4,z5,z6,_,_⟩:=e10
   rw [z1,z2,z3,z4,z5,z6] at hm
   simpa [RS.led] using hm
 have Ge:A1.depth=A.depth+1:=hD1
 suffices z:codeAny (model pw w) A1 (bk r1.loc) (fun r' s'=>Mn (xg w g d os (A.deeper (gG (n0+845))) _ _) (aL (Nf w (n0+845) tk r)) (aR (Nf w (n0+845) tk r) r') s') ⟨h1,g,d,(Nf w (n0+845) tk r).tk,os⟩ by
  rw [uL] at z;exact z
 refine KH bT (by lia) cs r1 h1 _ ts 0 ⟨H1,by rw [f3,f4];exact hcs,by rw [f3,f4];exact hp,sg,⟨rfl,rfl⟩,by rw [f1];exact est,trivial,by rw [f2];exact qZ,f6,by simpa using len,by rw [f4];exact b1,by rw [f4];exact b2⟩ f5 k1 ?_
 rw [ho]
 intro h2 tk2 r2 t u m K2 H2 s2 m1 m2 a1 a2 a3 ⟨nv,a4⟩
 have el2:r2.loc=r1.loc:=congrArg Prod.fst s2
 have ef2:=RS.fst (P:=w.params) (jz s2)
 have F2:aG h2 l:=F1.keeps fun env he a ea=>K2.f.get a fun hm=>apart1 env he a ea (by
  simp only [RS.led,map_cons,map_nil,mem_cons,not_mem_nil,or_false] at hm ⊢
  rcases hm with rfl | rfl | rfl <;> simp)
 rw [← el2]
 refine Gg bT (by lia) (by rw [el2,uL];exact ac2) F2 (K2.kok k1 (mods H1)) H2 (by rw [ef2];exact apart1) a3 (by rw [M6 s2,f4];exact b1) m1 m2 a1 a2 a4 ?_
 intro h3 tk3 r3 e te T pl tm sl K3 s3 G3 ⟨nv3,aN2⟩ L3 FL
 have Rv:r2.loc=n0+845:=el2.trans uL
 have s3':=s3.trans s2
 rw [BL s2,Rk s2,Rm s2] at K3
 have Ci:h1.objs.size≤h2.objs.size:=K2.size
 have lo:=FL.lo
 have g1:h.objs.size≤h1.objs.size:=R1.grow
 obtain ⟨hs,S1,R3a⟩:=cN.afterF (h':=h3) (L':=(r1.loc,xX (xK w.params r3) sl)::(r3.led w.params).tail) (news:=FL.three) (K2.f.trans K3) (mods H1)
  (by have:=RS.fst (P:=w.params) (jz s3');simp only [RS.led,map_cons,List.tail_cons] at this ⊢;exact List.cons_eq_cons.mpr ⟨rfl,(List.cons_eq_cons.mp this).2⟩)
  (fun a ha=>by
   simp only [mem_cons,not_mem_nil,or_false] at ha
   simp only [RS.led,map_cons,map_nil,mem_cons]
   rcases ha with rfl | rfl | rfl <;> simp)
  (fun p hp=>by
   rcases List.mem_cons.mp hp with rfl | hp
   ·refine .inr ?_
    rw [← el2];exact G3
   ·exact .inr (L3.own p hp)) (FL.n1 Ci) FL.n2 FL.n3
 obtain ⟨n3,R3⟩:=R3a.up
 rw [Rv] at FL G3
 have er3:gw r3=gw r:=(Rq s3').trans e10
 have X':Lex w hs r:=⟨fun q hq=>(S1.get q.1 q.2 (X.own q hq)).1 (mL r q hq),X.nd,X.lo⟩
 have iZ:=R3.cast (L':=[(e,fM "ValueError" te (.ref T) .none .none (.bool false) .none),(te,⟨.type "tuple",none,.seq ⟨[.str (jH esc) tm]⟩ 0,⟨[]⟩⟩),(T,qj .none (n0+845) (rawInt (n0+845:Nat)) pl),(n0+845,xX (xK w.params r3) sl)]++(r3.led w.params).tail) (by rw [uL];simp [dz.three,Rv])
 refine fB (rb2 w (n3+845) tk3 (Nf w (n0+845) tk r) _ e) .nil hA iZ (v:=.ref e) (by symm) ?_ rfl
 intro h4 R4
 have Rw:h4.get? e=some (fM "ValueError" te (.ref T) .none .none (.bool false) .none):=R4.at 0 (by symm)
 have Ve:h4.get? te=some ⟨.type "tuple",none,.seq ⟨[.str (jH esc) tm]⟩ 0,⟨[]⟩⟩:=R4.at 1 (by symm)
 have G4T:h4.get? T=some (qj .none (n0+845) (rawInt (n0+845:Nat)) pl):=R4.at 2 (by symm)
 refine leave_held (L:=n0+845) rfl Rw G4T ?_
 intro h5 z1 z2 z3
 have ea:(r3.self,r3.sd,r3.mq,r3.sS,r3.sU,r3.bh)=(r.self,r.sd,r.mq,r.sS,r.sU,r.bh):=eX er3
 obtain ⟨K4,L4⟩:=Lex.next (r':=r3) X' R4 4 (by symm) ea
 have lt:=X.lt ea
 have nT:∀ q∈(r3.led w.params).tail,q.1≠T:=fun q hq=>Nat.ne_of_lt (Nat.lt_of_lt_of_le (lt q hq) (Nat.le_trans g1 (Nat.le_trans Ci lo.2.2)))
 have K5:ak [r.sd,r.bh] h h5:=(S1.keeps K4.f).late (m':=[T]) ⟨Nat.le_of_eq z1.symm,fun b hb o ho=>by
  have:h5.get? b=some o:=(z2 b (by simpa using hb)).trans ho
  exact ⟨fun _=>this,o.slots,this⟩,fun b o _ hb ho=>(z2 b (by simpa using hb)).trans ho⟩ (by simp only [mem_singleton,forall_eq];exact Nat.le_trans g1 (Nat.le_trans Ci lo.2.2))
 exact post h5 _ r3 e te T .none (n0+845) pl tm K5 ⟨fun q hq=>(z2 q.1 (nT q hq)).trans (L4.own q hq),L4.nd,L4.lo⟩ er3
  ⟨⟨Nat.le_trans g1 (Nat.le_trans Ci lo.1),Nat.le_trans g1 (Nat.le_trans Ci lo.2.1),Nat.le_trans g1 (Nat.le_trans Ci lo.2.2)⟩,FL.ne,(z2 e FL.ne.2.1).trans Rw,(z2 te FL.ne.2.2).trans Ve,z3⟩
noncomputable abbrev zN (w:World) (A:Around) (env:Env) (R:Result→Shared→Prop):Value→Shared→Prop:=fun e s'=>wpAny (model pw w) (A.deeper env) (leaving env e) (fun _ s''=>R (.error e) s'') (fun e' s''=>R (.error e') s'') s'
theorem Bf {q:Rs} {Q:Fin→Shared→Prop} {env:Env} {loc:Nat} {o:Obj} {l:List Env} {r r':RS} {nx:Nat} {h1 h2:Heap} {cls:String} {args:List Value} {e t T:Nat} {hd:Value} {f:Nat} {pl:List Value}
  (hA:A.handled=none) (hfr:A.frames=some l) (FF:aG h l) (X:Lex w h r) (R1:Rep (K w) h ((r.led w.params).tail.map Prod.fst) ((loc,o)::(r.led w.params).tail) nx h1)
  (ho:(o.cls,eV o,env.frame,gY env)=(.type "frame",true,some loc,true)) (K2:ak [r.sd,r.bh] h1 h2) (L2:Lex w h2 r') (e8:gw r'=gw r) (FL:dz h1 h2 cls args e t T hd f .none pl)
  (er:∀ L' n tk,wj (aB w [] q (.error (.ref e)) L' n tk []) (.ref e)∧(aB w [] q (.error (.ref e)) L' n tk []).L=L')
  (post:∀ h3 tk3 T3 Iw,ak [r.sd,r.bh] h h3→Lex w h3 r'→dz h h3 cls args e t T3 (.ref T) loc .none Iw→R (.error (.ref e)) ⟨h3,g,d,tk3,os⟩) (ll:845≤loc:=by first | exact Nat.le_add_left _ _ | (show (845:Nat)≤_;lia)) :
  Mn (xg w g d os (A.deeper env) Q (zN w A env R)) (aL q) (aR q (.error (.ref e))) ⟨h2,g,d,tk,os⟩:=by
 obtain ⟨o1,ho⟩:=Prod.mk.inj ho
 obtain ⟨o2,ho⟩:=Prod.mk.inj ho
 obtain ⟨o3,o4⟩:=Prod.mk.inj ho
 have hm:=RS.hm2 (P:=w.params) r
 have nd:=R1.nd
 simp only [map_cons,nodup_cons] at nd
 obtain ⟨sl,hs,S1,Ip⟩:=R1.fly (L':=(r'.led w.params).tail) (news:=FL.three) K2 (fun x=>nd.1 (hm _ x))
  X.lo2 (tD (eX e8)) hm (fun p hp=>.inr (L2.own p hp)) (FL.n1 (Nat.le_refl _)) FL.n2 FL.n3
 obtain ⟨n2,R2⟩:=Ip.up
 have apart:=FF.apart X.own (mL r)
 have X':Lex w hs r:=⟨fun q hq=>(S1.get q.1 q.2 (X.own q hq)).1 (mL r q hq),X.nd,X.lo⟩
 refine fB (aB w [] q (.error (.ref e)) _ (n2+845) tk []) .nil hA R2 (er _ _ _).1 ?_ rfl
 intro h4 R4
 rw [(er _ _ _).2] at R4
 have F4:aG h4 (env::l):=(R4.fr (S1.fr FF) apart).cons (by intro x;unfold gY at o4;rw [x] at o4;cases o4) o3 (R4.at 3 rfl) o1 (by intro vs x;have x':o.data=.fields vs:=x;unfold eV at o2;rw [x'] at o2;cases o2) ll
 have Rw:h4.get? e=some (fM cls t (.ref T) .none .none (.bool false) .none):=R4.at 0 rfl
 have Ve:h4.get? t=some ⟨.type "tuple",none,.seq ⟨args⟩ 0,⟨[]⟩⟩:=R4.at 1 rfl
 have G4T:h4.get? T=some (qj hd f .none pl):=R4.at 2 rfl
 refine jk (Around.frames_deeper hfr) F4 o3 Rw (.inr ⟨T,f,pl,hd,rfl,Ne.symm FL.ne.2.1,G4T⟩) ?_
 intro h5 pl5 z1 z2 z3 z4
 have ea:=eX e8
 have lt:=X.lt ea
 have tH:=FL.lo
 have g1:h.objs.size≤h1.objs.size:=R1.grow
 have ge:=Nat.le_trans g1 tH.1
 have gt:=Nat.le_trans g1 tH.2.1
 obtain ⟨K4,L4⟩:=Lex.next (r':=r') X' R4 4 rfl ea
 have K5:ak [r.sd,r.bh] h h5:=(S1.keeps K4.f).late (z2.f z1) (bK ge)
 have g4:h.objs.size≤h4.objs.size:=(S1.keeps K4.f).size
 exact post h5 _ h4.objs.size pl5 K5 ⟨fun q hq=>(z2.get q.1 (Nat.ne_of_lt (Nat.lt_of_lt_of_le (lt q hq) ge)) q.2 (L4.own q hq)).1 (mL _ q hq),L4.nd,L4.lo⟩
  ⟨⟨ge,gt,g4⟩,⟨FL.ne.1,Nat.ne_of_lt (Heap.lt_size Rw),Nat.ne_of_lt (Heap.lt_size Ve)⟩,z3,(z2.get t (Ne.symm FL.ne.1) _ Ve).1 (show Value.type "tuple" ≠ .type "frame" by decide),z4⟩
noncomputable def Gi (loc:Nat):Env:={scope:=zq (cm 19 5),locals:=loc,globals:=3,cells:=[],qual:=lits "shlex.get_token.<locals>.",func:=some 683,code:=.ref 682,frame:=some loc,builtins:=0}
def Vf (w:World) (n tk:Nat) (r:RS):Rs:=ig w 683 (fdOf (Ml w.params)) ⟨[.ref r.self],[]⟩ (r.led w.params).tail n tk [0,1,1]
def gb1 (w:World) (n tk:Nat) (r:RS):Rs:=bL w [] (wV (iJ (cm 19 5)) (Gi n)) (Vf w n tk r).L (Vf w n tk r).nx (Vf w n tk r).tk (og 0x11032000020002000215050505530220002000021)
theorem lU {r:RS} {cs:List Nat} {b:Bool} {l:List Env} {esc:Bool} (hA:A.handled=none) (hD:A.depth+7<recursionLimit) (hfr:A.frames=some l) (FF:aG h l) (k:au w h) (X:zc w h r b cs) (ho:FZ b cs=.bad esc)
  (post:∀ h' tk' r' e t T hd f pl tm,ak [r.sd,r.bh] h h'→Lex w h' r'→gw r'=gw r→dz h h' "ValueError" [.str (jH esc) tm] e t T hd f .none pl→R (.error (.ref e)) ⟨h',g,d,tk',os⟩) :
  codeAny (model pw w) A (.call (.ref 683) ⟨[.ref r.self],[]⟩) R ⟨h,g,d,tk,os⟩:=by
 obtain ⟨n0,R0⟩:=(Rep.start k X.lex.own X.lex.nd X.lex.lo).up
 refine fC (Vf w (n0+845) tk r) hA (by lia) R0 (body:=iJ (cm 19 5)) (env:=Gi (n0+845)) (by symm) (by symm) (by symm) ?_ rfl
 intro h0 Gh
 refine bG ?_
 refine bQ (gb1 w (n0+845) tk r) .nil hA Gh (n:=0) (c:=.call (.ref 690) ⟨[.ref r.self],[]⟩) (fr:=[]) (u:=0) ⟨by symm,by symm⟩ ?_ rfl
 intro A1 h1 bT hD1 ql _ R1
 have Ge:A1.depth=A.depth+1:=hD1
 have cN:=R1.cast (L':=(n0+845,lo (gb1 w (n0+845) tk r).L 0)::(r.led w.params).tail) (by symm)
 have L1:=X.lex.of (pre:=[_]) cN
 have hb:b=true:=by cases b with | true=>rfl | false=>simp [FZ] at ho
 subst hb
 obtain ⟨t0,est⟩:=X.st
 have apart:=FF.apart X.lex.own (mL r)
 refine lA (l:=Gi (n0+845)::l) bT (by lia) (ql _ (Around.frames_deeper hfr)) (R1.frCons (R1.fr FF apart) 0 (a:=n0+845) (by symm)) R1.old L1 X.tok X.hcs X.p X.sg X.len X.b1 X.b2 est ho ?_
 intro h2 tk2 r2 e t T hd f pl tm K2 L2 e8 FL
 exact Bf hA hfr FF X.lex cN (by symm) K2 L2 e8 FL (fun L' n tk'=>⟨by symm,by symm⟩) (fun h3 tk3 T3 Iw K3 L3 F3=>post h3 tk3 r2 e t T3 _ _ Iw tm K3 L3 e8 F3)
def nb1 (w:World) (n tk:Nat) (r:RS):Rs:=bL w [] (wV (iJ (cm 19 10)) (vp n)) (Ir w n tk r).L (Ir w n tk r).nx (Ir w n tk r).tk (og 0x1103200002000200021)
theorem uM {r:RS} {cs:List Nat} {b:Bool} {l:List Env} {esc:Bool} (hA:A.handled=none) (hD:A.depth+8<recursionLimit) (hfr:A.frames=some l) (FF:aG h l) (k:au w h) (X:zc w h r b cs) (ho:FZ b cs=.bad esc)
  (post:∀ h' tk' r' e t T hd f pl tm,ak [r.sd,r.bh] h h'→Lex w h' r'→gw r'=gw r→dz h h' "ValueError" [.str (jH esc) tm] e t T hd f .none pl→R (.error (.ref e)) ⟨h',g,d,tk',os⟩) :
  codeAny (model pw w) A (.call (.ref 719) ⟨[.ref r.self],[]⟩) R ⟨h,g,d,tk,os⟩:=by
 obtain ⟨n0,R0⟩:=(Rep.start k X.lex.own X.lex.nd X.lex.lo).up
 refine fC (Ir w (n0+845) tk r) hA (by lia) R0 (body:=iJ (cm 19 10)) (env:=vp (n0+845)) (by symm) (by symm) (by symm) ?_ rfl
 intro h0 Gh
 refine bG ?_
 refine bQ (nb1 w (n0+845) tk r) .nil hA Gh (n:=0) (c:=.call (.ref 683) ⟨[.ref r.self],[]⟩) (fr:=[]) (u:=0) ⟨by symm,by symm⟩ ?_ rfl
 intro A1 h1 bT hD1 ql _ R1
 have Ge:A1.depth=A.depth+1:=hD1
 have cN:=R1.cast (L':=(n0+845,lo (nb1 w (n0+845) tk r).L 0)::(r.led w.params).tail) (by symm)
 have L1:=X.lex.of (pre:=[_]) cN
 have apart:=FF.apart X.lex.own (mL r)
 refine lU (l:=vp (n0+845)::l) bT (by lia) (ql _ (Around.frames_deeper hfr)) (R1.frCons (R1.fr FF apart) 0 (a:=n0+845) (by symm)) R1.old {X with lex:=L1} ho ?_
 intro h2 tk2 r2 e t T hd f pl tm K2 L2 e8 FL
 exact Bf hA hfr FF X.lex cN (by symm) K2 L2 e8 FL (fun L' n tk'=>⟨by symm,by symm⟩) (fun h3 tk3 T3 Iw K3 L3 F3=>post h3 tk3 r2 e t T3 _ _ Iw tm K3 L3 e8 F3)
inductive Reads:Bool→List Nat→List (List Nat)→Option Bool→Prop
 | stop {b sp:Bool} {cs rest:List Nat} (ho:FZ b cs=.brk sp [] false rest):Reads b cs [] none
 | bad {b esc:Bool} {cs:List Nat} (ho:FZ b cs=.bad esc):Reads b cs [] (some esc)
 | word {b sp qd:Bool} {cs tok rest:List Nat} {ws:List (List Nat)} {r:Option Bool} (ho:FZ b cs=.brk sp tok qd rest) (hn:¬ (tok=[]∧qd=false)) (t:Reads sp rest ws r):Reads b cs (tok::ws) r
noncomputable def Rx (tok:List Nat) (v:Value):Prop:=∃ t,v=.str (Mine.S tok) t
noncomputable def words:List (List Nat)→List Value→Prop
 | [],[]=>True
 | t::ts,v::vs=>Rx t v∧words ts vs
 | _,_=>False
noncomputable def aj (vs:Array Value) (c:Nat):Obj:=⟨.type "list",none,.seq vs c,⟨[]⟩⟩
def nxT (it:Value):Sem Fin:=PySem.W.ZFast.zw9404975358583537561 it >>= fun o=>Sem.pure (.done (match o with | some v=>.ret v | none=>.brk))
section
variable {E:Value→Shared→Prop}
theorem zO {it:Value} {P:Option Value→Shared→Prop} {s:Shared} (z:wpAny (model pw w) A (nxT it) (fun fin s'=>match fin with | .done (.ret v)=>P (some v) s' | .done .brk=>P none s' | _=>False) E s):wpAny (model pw w) A (pyNext it) P E s:=by
 intro Γ p hΓ
 have h:=z Γ p hΓ
 unfold nxT at h
 rw [← PySem.W.ZFast.ze9404975358583537561,Sem.wp_bind'] at h
 refine Sem.wp_mono _ Γ _ (fun o p' s' h'=>?_) (fun _ _ _ x=>x) p s h
 cases o <;> exact h'
theorem Lex.afterF {h₀ h h':Heap} {gv:List Addr} {nx:Nat} {news:Led} {r r':RS} (R:Rep (K w) h₀ gv (r.led w.params).tail nx h) (X:Lex w h r) (k:ak [r.sd,r.bh] h h') (X':Lex w h' r') (e:gw r'=gw r) (n1:∀ p∈news,h.objs.size≤p.1) (n2:∀ p∈news,h'.get? p.1=some p.2) (n3:(news.map Prod.fst).Nodup) :
  ∃ h₁,xQ h₀ h₁∧Rep (K w) h₁ gv (news++(r'.led w.params).tail) h'.objs.size h':=by
 exact R.afterF k X.lo2 (tD (eX e)) (RS.hm2 r) (fun p hp=>.inr (X'.own p hp)) n1 n2 n3
theorem Lex.slid {h h':Heap} {r:RS} (X:Lex w h r) (S1:xQ h h'):Lex w h' r:=⟨fun q hq=>(S1.get q.1 q.2 (X.own q hq)).1 (mL r q hq),X.nd,X.lo⟩
theorem vq {h:Heap} {S:Nat} {acc:Array Value} {c:Nat} {v:Value} (hS:h.get? S=some (aj acc c)):Keeps [S] h (h.update S (Obj.mapSeq (·.push v)))∧(h.update S (Obj.mapSeq (·.push v))).get? S=some (aj (acc.push v) (c+1)):=
 ⟨⟨by rw [Heap.size_after_update];exact Nat.le_refl _,fun b o e hb=>(Heap.get?_update_other _ _ (Ne.symm (by simpa using hb))).trans e⟩,by
  rw [Heap.get?_update_self _ hS rfl]
  simp [Obj.mapSeq,aj]⟩
def Pr (w:World) (n tk:Nat) (r:RS):Rs:=bL w [] (nxT (.ref r.self)) (r.led w.params).tail n tk [1,0,0,0,0,1]
theorem Gj {b:Bool} {cs:List Nat} {ws:List (List Nat)} {fin:Option Bool} (rd:Reads b cs ws fin):∀ {r:RS} {h:Heap} {tk:Nat} {acc:Array Value} {c:Nat} {l:List Env} {S:Nat} {res:Value},A.handled=none→A.depth+8<recursionLimit→A.frames=some l→aG h l→au w h→zc w h r b cs →
  h.get? S=some (aj acc c)→845≤S→S∉(r.led w.params).tail.map Prod.fst→acc.size+ws.length≤1000 →
  (match fin with
   | none=>∀ h' tk' r' (vs:List Value) c',ak [S,r.sd,r.bh] h h'→Lex w h' r'→gw r'=gw r→h'.get? S=some (aj (acc++vs.toArray) c')→words ws vs→R (.ok (.ret res)) ⟨h',g,d,tk',os⟩
   | some esc=>∀ h' tk' r' e t T hd f pl tm,ak [S,r.sd,r.bh] h h'→Lex w h' r'→gw r'=gw r→dz h h' "ValueError" [.str (jH esc) tm] e t T hd f .none pl→R (.error (.ref e)) ⟨h',g,d,tk',os⟩) →
  codeAny (model pw w) A (.builtin "list.extend.loop" ⟨[.ref S,.ref r.self,res],[]⟩) R ⟨h,g,d,tk,os⟩:=by
 induction rd with
 | @stop b sp cs rest ho=>
  intro r h tk acc c l S res hA hD hfr FF k X hS lS nS hz post
  refine codeAny_builtin F.entry_extend_loop ?_
  rw [Around.under_plainId F.plain_extend_loop _]
  show wpAny _ A.in1 (pyNext (.ref r.self) >>= _) _ _ _
  refine wpAny_bind (zO ?_)
  obtain ⟨n0,R0⟩:=(Rep.start k X.lex.own X.lex.nd X.lex.lo).up
  refine bQ (Pr w (n0+845) tk r) .nil hA R0 (n:=0) (c:=.call (.ref 719) ⟨[.ref r.self],[]⟩) (fr:=[]) (u:=0) ⟨by symm,by symm⟩ ?_ rfl
  intro A1 h1 bT hD1 ql _ R1
  have cN:=R1.cast (L':=[]++(r.led w.params).tail) (by symm)
  have L1:=X.lex.of cN
  have apart:=FF.apart X.lex.own (mL r)
  refine tE bT (by rw [hD1];exact hD) (ql _ hfr) (R1.fr FF apart) R1.old {X with lex:=L1} ho ?_
  intro h2 tk2 r2 e t T f pl K2 X2 e8 FL
  obtain ⟨hs,S1,Ip⟩:=Lex.afterF cN L1 K2 X2.lex e8 (FL.n1 (Nat.le_refl _)) FL.n2 FL.n3
  obtain ⟨n2,R2⟩:=Ip.up
  refine aO (aB w [] (Pr w (n0+845) tk r) (.error (.ref e)) _ (n2+845) tk2 [1]) .nil hA R2 (v:=.done .brk) (by symm) ?_ rfl
  intro h4 R4
  obtain ⟨K4,L4⟩:=Lex.next (r':=r2) (X.lex.slid S1) R4 3 (by symm) (eX e8)
  have K5:=S1.keeps K4.f
  have nS':S∉[r.sd,r.bh]:=fun hm=>nS (RS.hm2 r _ hm)
  refine wpAny_pure (post h4 _ r2 [] c (K5.mono (by simp)) L4 e8 ?_ trivial)
  have:=(K5.get S nS' _ hS).1 (show Value.type "list" ≠ .type "frame" by decide)
  simpa using this
 | @bad b esc cs ho=>
  intro r h tk acc c l S res hA hD hfr FF k X hS lS nS hz post
  refine codeAny_builtin F.entry_extend_loop ?_
  rw [Around.under_plainId F.plain_extend_loop _]
  show wpAny _ A.in1 (pyNext (.ref r.self) >>= _) _ _ _
  refine wpAny_bind (zO ?_)
  obtain ⟨n0,R0⟩:=(Rep.start k X.lex.own X.lex.nd X.lex.lo).up
  refine bQ (Pr w (n0+845) tk r) .nil hA R0 (n:=0) (c:=.call (.ref 719) ⟨[.ref r.self],[]⟩) (fr:=[]) (u:=0) ⟨by symm,by symm⟩ ?_ rfl
  intro A1 h1 bT hD1 ql _ R1
  have cN:=R1.cast (L':=[]++(r.led w.params).tail) (by symm)
  have L1:=X.lex.of cN
  have apart:=FF.apart X.lex.own (mL r)
  refine uM bT (by rw [hD1];exact hD) (ql _ hfr) (R1.fr FF apart) R1.old {X with lex:=L1} ho ?_
  intro h2 tk2 r2 e t T hd f pl tm K2 X2 e8 FL
  obtain ⟨hs,S1,Ip⟩:=Lex.afterF cN L1 K2 X2 e8 (FL.n1 (Nat.le_refl _)) FL.n2 FL.n3
  obtain ⟨n2,R2⟩:=Ip.up
  refine fB (aB w [] (Pr w (n0+845) tk r) (.error (.ref e)) _ (n2+845) tk2 [1]) .nil hA R2 (v:=.ref e) (by symm) ?_ rfl
  intro h4 R4
  obtain ⟨K4,L4⟩:=Lex.next (r':=r2) (X.lex.slid S1) R4 3 (by symm) (eX e8)
  have K5:=S1.keeps K4.f
  have g1:h.objs.size≤h1.objs.size:=R1.grow
  have lo:=FL.lo
  exact post h4 _ r2 e t T hd f pl tm (K5.mono (by simp)) L4 e8 ⟨⟨Nat.le_trans g1 lo.1,Nat.le_trans g1 lo.2.1,Nat.le_trans g1 lo.2.2⟩,FL.ne,R4.at 0 (by symm),R4.at 1 (by symm),R4.at 2 (by symm)⟩
 | @word b sp qd cs tok rest ws fin ho hn t ih=>
  intro r h tk acc c l S res hA hD hfr FF k X hS lS nS hz post
  refine codeAny_builtin F.entry_extend_loop ?_
  rw [Around.under_plainId F.plain_extend_loop _]
  show wpAny _ A.in1 (pyNext (.ref r.self) >>= _) _ _ _
  refine wpAny_bind (zO ?_)
  obtain ⟨n0,R0⟩:=(Rep.start k X.lex.own X.lex.nd X.lex.lo).up
  refine bQ (Pr w (n0+845) tk r) .nil hA R0 (n:=0) (c:=.call (.ref 719) ⟨[.ref r.self],[]⟩) (fr:=[]) (u:=0) ⟨by symm,by symm⟩ ?_ rfl
  intro A1 h1 bT hD1 ql _ R1
  have cN:=R1.cast (L':=[]++(r.led w.params).tail) (by symm)
  have L1:=X.lex.of cN
  refine Cg bT (by rw [hD1];exact hD) R1.old {X with lex:=L1} ho hn ?_
  intro h2 tk2 r2 t2 K2 X2 e8
  obtain ⟨n2,R2⟩:=(Lex.after cN L1 K2 X2.lex e8).up
  refine aO (aB w [] (Pr w (n0+845) tk r) (.ok (.ret (.str (Mine.S tok) t2))) _ (n2+845) tk2 []) .nil hA R2 (v:=.done (.ret (.str (Mine.S tok) t2))) (by symm) ?_ rfl
  intro h4 R4
  obtain ⟨K4,L4⟩:=Lex.next (r':=r2) X.lex R4 0 (by symm) (eX e8)
  have nS':S∉[r.sd,r.bh]:=fun hm=>nS (RS.hm2 r _ hm)
  have hS4:=K4.get S _ hS nS'
  show wpAny _ A.in1 (updateSeq S (·.push _) >>= _) _ _ _
  obtain ⟨K5,hS5⟩:=vq (v:=.str (Mine.S tok) t2) hS4
  have nS2:S∉(r2.led w.params).tail.map Prod.fst:=by
   rw [tD (eX e8)];exact nS
  have k4:au w h4:=R4.old
  have FF4:aG h4 l:=R4.fr FF (FF.apart X.lex.own (mL r))
  have L5:Lex w (h4.update S (Obj.mapSeq (·.push (.str (Mine.S tok) t2)))) r2:=⟨fun q hq=>K5.get q.1 q.2 (L4.own q hq) (fun hm=>nS2 (by rw [mem_singleton] at hm;rw [← hm];exact mem_map_of_mem hq)),L4.nd,L4.lo⟩
  have FF5:aG (h4.update S (Obj.mapSeq (·.push (.str (Mine.S tok) t2)))) l:=FF4.keeps fun env he a ea=>K5.f.get a fun hm=>by
   obtain ⟨_,L,o,x1,x2,x3,_⟩:=FF4 env he
   rw [ea] at x1
   obtain rfl:=Option.some.inj x1
   rw [mem_singleton] at hm
   rw [hm,hS4] at x2
   rw [← Option.some.inj x2] at x3
   exact absurd x3.1 (show Value.type "list" ≠ .type "frame" by decide)
  simp only [List.length_cons] at hz
  have hsz:2000≤sizeLine:=by decide
  refine wpAny_bind (wpAny_updateSeq hS4 rfl (wpAny_pure ⟨plainId_quiet F.plain_extend_loop _,?_⟩) (by lia) (by simp;lia))
  rw [← show r2.self=r.self from congrArg (·.1) e8]
  refine ih hA hD hfr FF5 (K5.kok k4 (bK lS)) {X2 with lex:=L5} hS5 lS nS2 (by simp;lia) ?_
  have KK:ak [S,r.sd,r.bh] h (h4.update S (Obj.mapSeq (·.push (.str (Mine.S tok) t2)))):=(K4.f.mono (by simp)).trans (K5.f.mono (by simp))
  rw [t8d e8,t8s e8]
  cases fin with
  | none=>
   intro h6 lg r6 vs c6 K6 L6 e6' hS6 hw
   refine post h6 lg r6 (.str (Mine.S tok) t2::vs) c6 (KK.trans K6) L6 (e6'.trans e8) ?_ ⟨⟨t2,rfl⟩,hw⟩
   simpa using hS6
  | some esc=>
   intro h6 lg r6 e t T hd f pl tm K6 L6 e6' FL
   have g:=KK.size
   have lo:=FL.lo
   exact post h6 lg r6 e t T hd f pl tm (KK.trans K6) L6 (e6'.trans e8) ⟨⟨Nat.le_trans g lo.1,Nat.le_trans g lo.2.1,Nat.le_trans g lo.2.2⟩,FL.ne,FL.exc,FL.tup,FL.tb⟩
end
def zP (it:Value) (name:Str):Sem Fin:=PySem.W.ZFast.zw4214721358667687652 it name >>= fun o=>Sem.pure (.done (match o with | some v=>.ret v | none=>.brk))
section
variable {w:World} {g:Array GenState} {d:Drawn} {os:OsState} {A:Around} {R:Result→Shared→Prop} {E:Value→Shared→Prop} {h h₀:Heap} {tk:Nat} {gv:List Addr}
theorem Iz {it:Value} {name:Str} {P:Option Value→Shared→Prop} {s:Shared} (z:wpAny (model pw w) A (zP it name) (fun fin s'=>match fin with | .done (.ret v)=>P (some v) s' | .done .brk=>P none s' | _=>False) E s):wpAny (model pw w) A (specialOf it name) P E s:=by
 intro Γ p hΓ
 have h:=z Γ p hΓ
 unfold zP at h
 rw [← PySem.W.ZFast.ze4214721358667687652,Sem.wp_bind'] at h
 refine Sem.wp_mono _ Γ _ (fun o p' s' h'=>?_) (fun _ _ _ x=>x) p s h
 cases o <;> exact h'
theorem lW {it v:Value} {name:Str} {P:Option Value→Shared→Prop} {L:Led} {nx:Nat} {aC:List Nat} (hA:A.handled=none) (rep:Rep (K w) h₀ gv L nx h)
  (ok:cU (bL w [] (zP it name) L nx tk aC) (.done (.ret v))) (e:((bL w [] (zP it name) L nx tk aC).L,(bL w [] (zP it name) L nx tk aC).nx,(bL w [] (zP it name) L nx tk aC).tk)=(L,nx,tk))
  (k:∀ h',Rep (K w) h₀ gv L nx h'→P (some v) ⟨h',g,d,tk,os⟩):wpAny (model pw w) A (specialOf it name) P E ⟨h,g,d,tk,os⟩:=by
 refine Iz (fZ (bL w [] (zP it name) L nx tk aC) .nil hA rep ok (fun h' R'=>?_) rfl)
 simp only [Prod.mk.injEq] at e
 obtain ⟨e1,e2,e3⟩:=e
 rw [e1,e2] at R'
 rw [e3]
 exact k h' R'
theorem rE:plainId "list.__init__" = true:=by decide +kernel
theorem Gk {I sd:Nat} {P:Value→Shared→Prop} {L:Led} {nx:Nat} (hA:A.handled=none) (hD:A.depth+1<recursionLimit) (rep:Rep (K w) h₀ gv ((I,inst 722 sd)::L) nx h)
  (post:∀ h' nx' tk',Rep (K w) h₀ gv ((I,inst 722 sd)::L) nx' h'→P (.ref I) ⟨h',g,d,tk',os⟩):wpAny (model pw w) A (pyIter (.ref I)) P E ⟨h,g,d,tk,os⟩:=by
 obtain ⟨n0,R0⟩:=rep.up
 have Ry:∀ {h':Heap} {L' nx'},Rep (K w) h₀ gv L' nx' h'→h'.get? 712=some (Mq w.params):=fun R=>R.old 712 _ (by symm)
 unfold pyIter
 refine wpAny_bind (lW (v:=.ref 712) (aC:=[1,0,0,0]) hA R0 (by symm) (by symm) fun h1 R1=>?_)
 simp only [callSpecialIfBoundUnlessNone?,bindSpecialIfBound?]
 refine wpAny_bind (wpAny_holding (wpAny_bind (wpAny_bind (lW (v:=.ref 712) (aC:=[1,0,0,0]) hA R1 (by symm) (by symm) fun h2 R2=>?_))))
 have fin:wpAny (model pw w) A (call (.ref 712) [.ref I]) (fun v s'=>wpAny (model pw w) A (specialOf v "__next__") (fun o s''=>∃ u,o=some u∧P v s'') E s') E ⟨h2,g,d,tk,os⟩:=by
  refine wpAny_call (wz hA hD R2.old fun h3 tk3 K3=>?_)
  obtain ⟨n3,R3⟩:=(R2.after0 K3).up
  exact lW (v:=.ref 719) (aC:=[1,0,0,0]) hA R3 (by symm) (by symm) fun h4 R4=>⟨_,rfl,post h4 _ tk3 R4⟩
 have fin':=wpAny_mono fin (fun v s' z=>z) (fun _ _ x=>x)
 refine wpAny_bind (wpAny_askSetting (wpAny_ite ?_))
 have fin2:∀ F:Option Value→Sem Value,(∀ v s',wpAny (model pw w) A (specialOf v "__next__") (fun o s''=>∃ u,o=some u∧P v s'') E s'→wpAny (model pw w) A (F (some v)) P E s') →
   wpAny (model pw w) A (call (.ref 712) [.ref I] >>= fun v=>pure (some v)) (fun a s'=>wpAny (model pw w) A (F a) P E s') E ⟨h2,g,d,tk,os⟩:=fun F hF=>
  wpAny_bind (wpAny_mono fin (fun v s' z=>wpAny_pure (hF v s' z)) fun _ _ x=>x)
 split
 ·exact wpAny_bind (wpAny_bindSpecial_def (s:=⟨h2,g,d,tk,os⟩) (Ry R2) rfl (wpAny_pure (fin2 _ fun v s' z=>wpAny_bind (wpAny_mono z (fun o s'' zz=>by obtain ⟨u,rfl,zz⟩:=zz;exact wpAny_pure zz) fun _ _ x=>x))))
 ·exact wpAny_tryCatch (wpAny_bind (wpAny_bindSpecial_def (s:=⟨h2,g,d,tk,os⟩) (Ry R2) rfl (wpAny_pure (fin2 _ fun v s' z=>wpAny_bind (wpAny_mono z (fun o s'' zz=>by obtain ⟨u,rfl,zz⟩:=zz;exact wpAny_pure zz) fun _ _ x=>x)))))
def lhT (it:Value):Sem Fin:=PySem.W.ZFast.zw15112759502256325868 it >>= fun b=>Sem.pure (.done (.ret (.bool b)))
theorem Ng {it:Value} {P:Bool→Shared→Prop} {s:Shared} (z:wpAny (model pw w) A (lhT it) (fun fin s'=>match fin with | .done (.ret (.bool b))=>P b s' | _=>False) E s):wpAny (model pw w) A (Builtin.List.listLengthHint it) P E s:=by
 intro Γ p hΓ
 have h:=z Γ p hΓ
 unfold lhT at h
 rw [← PySem.W.ZFast.ze15112759502256325868,Sem.wp_bind'] at h
 exact Sem.wp_mono _ Γ _ (fun o p' s' h'=>h') (fun _ _ _ x=>x) p s h
theorem tK {S I sd:Nat} (hA:A.handled=none) (hD:A.depth+1<recursionLimit) (k:au w h) (lI:845≤I) (lS:845≤S) (ne:S≠I) (gI:h.get? I=some (inst 722 sd)) (gS:h.get? S=some (aj #[] 0))
  (go:∀ h' tk' c,Keeps [S] h h'→h'.get? S=some (aj #[] c)→codeAny (model pw w) A (.builtin "list.extend.loop" ⟨[.ref S,.ref I,.none],[]⟩) R ⟨h',g,d,tk',os⟩) :
  codeAny (model pw w) A (.builtin "list.__init__" ⟨[.ref S,.ref I],[]⟩) R ⟨h,g,d,tk,os⟩:=by
 refine codeAny_builtin F.entry_list_init ?_
 rw [Around.under_plainId rE _]
 show wpAny _ A.in1 (do let old ← Builtin.List.listItems (.ref S);Builtin.List.listUpdate (.ref S) (fun _=>#[]);letGo old.toList.reverse;Builtin.List.listExtendWith (.ref S) (.ref I) .none) _ _ _
 refine wpAny_bind ?_
 unfold Builtin.List.listItems
 refine wpAny_bind (wpAny_seqItems gS rfl (wpAny_pure ?_))
 show wpAny _ A.in1 (updateSeq S (fun _=>#[]) >>= fun _=>letGo (#[]:Array Value).toList.reverse >>= fun _=>Builtin.List.listExtendWith (.ref S) (.ref I) .none) _ _ _
 refine wpAny_bind (wpAny_updateSeq gS rfl ?_)
 refine wpAny_bind (wpAny_letGo ?_)
 have K2:Keeps [S] h (h.update S (Obj.mapSeq (fun _=>(#[]:Array Value)))):=⟨by rw [Heap.size_after_update];exact Nat.le_refl _,fun b o e hb=>(Heap.get?_update_other _ _ (Ne.symm (by simpa using hb))).trans e⟩
 have vA:(h.update S (Obj.mapSeq (fun _=>(#[]:Array Value)))).get? S=some (aj #[] 0):=Heap.get?_update_self _ gS rfl
 have Rz:=K2.get I _ gI (cZ (Ne.symm ne))
 have k2:au w (h.update S (Obj.mapSeq (fun _=>(#[]:Array Value)))):=K2.kok k (bK lS)
 revert K2 vA Rz k2;refine yZ (h.update S (Obj.mapSeq (fun _=>(#[]:Array Value)))) ?_;intro h2;intro K2 vA Rz k2
 unfold Builtin.List.listExtendWith
 refine wpAny_bind (wpAny_typeOf_ref Rz ?_)
 have h1:Builtin.List.listSameRef (.ref S) (.ref I)=false:=by simp [Builtin.List.listSameRef,ne]
 have h2':((inst 722 sd).cls == Value.type "list")=false:=by show (Value.ref 722 == Value.type "list")=false;decide
 have h3':((inst 722 sd).cls == Value.type "tuple")=false:=by show (Value.ref 722 == Value.type "tuple")=false;decide
 simp only [h1,h2',h3',Bool.or_false,Bool.false_eq_true,if_false]
 have R0:=Rep.start (L:=[(I,inst 722 sd),(S,aj #[] 0)]) k2 (by simp [Rz,vA]) (lG (Ne.symm ne)) (by simp [lI,lS])
 refine wpAny_bind (Gk hA hD R0 fun h3 n3 tk3 R3a=>?_)
 refine wpAny_bind (wpAny_holding ?_)
 obtain ⟨n3,R3⟩:=R3a.up
 refine Ng (fZ (bL w [] (lhT (.ref I)) [(I,inst 722 sd),(S,aj #[] 0)] (n3+845) tk3 [1,0,0,0,1,0,0,0]) (v:=.done (.ret (.bool true))) .nil hA R3 (by symm) (fun h4 R4=>?_) rfl)
 show wpAny _ A.in1 (rule "list.extend.makes-room" >>= fun _=>Builtin.List.listTouch (.ref S) >>= fun _=>again (.builtin "list.extend.loop" ⟨[.ref S,.ref I,.none],[]⟩)) _ _ _
 refine wpAny_bind (wpAny_rule ?_)
 refine wpAny_bind ?_
 have Pu:h4.get? S=some (aj #[] 0):=R4.at 1 (by symm)
 show wpAny _ A.in1 (updateSeq S (·.push .none) >>= fun _=>updateSeq S (·.pop)) _ _ _
 obtain ⟨K5,Vg⟩:=vq (v:=.none) Pu
 refine wpAny_bind (wpAny_updateSeq Pu rfl ?_)
 refine wpAny_updateSeq Vg rfl ?_
 have K4:Keeps [S] h h4:=K2.trans (R4.done (G:=[(I,inst 722 sd),(S,aj #[] 0)]) 0 (G':=[(I,inst 722 sd),(S,aj #[] 0)]) (mod:=[S]) (by symm) rfl (by simp [Rz,vA]) (by simp)).1
 revert K5 Vg;refine yZ (h4.update S (Obj.mapSeq (·.push Value.none))) fun h5=>?_;intro K5 Vg
 have K6:Keeps [S] h5 (h5.update S (Obj.mapSeq (·.pop))):=⟨by rw [Heap.size_after_update];exact Nat.le_refl _,fun b o e hb=>(Heap.get?_update_other _ _ (Ne.symm (by simpa using hb))).trans e⟩
 refine wpAny_pure ⟨plainId_quiet F.plain_extend_loop _,go _ _ 2 (K4.trans (K5.trans K6)) ?_⟩
 rw [Heap.get?_update_self _ Vg rfl]
 rfl
end
theorem tM {a:Value} (post:R (.ok (.ret (.ref h.objs.size))) ⟨h.push (aj #[] 0),g,d,tk,os⟩) :
  codeAny (model pw w) A (.call (.builtin "list.__new__") ⟨[.type "list",a],[]⟩) R ⟨h,g,d,tk,os⟩:=by
 refine codeAny_mono (code_list_new a (Q₁:=fun v s'=>R (.ok (.ret v)) s') (E:=fun _ _=>False) post) fun r s' z=>?_
 cases r with
 | error e=>exact z.elim
 | ok f=>cases f <;> first | exact z | exact z.elim
noncomputable def xY (loc:Nat):Env:={scope:=zq (fs 20),locals:=loc,globals:=3,cells:=[],qual:=lits "split.<locals>.",func:=some 734,code:=.ref 733,frame:=some loc,builtins:=0}
def Vh (w:World) (n tk:Nat) (s:Str) (ts:Nat):Rs:=ig w 734 (fdOf (QS w.params)) ⟨[.str s ts],[]⟩ [] n tk [0,0,1,1,1,1,1,1]
def KN (w:World) (n tk:Nat) (s:Str) (ts:Nat):Rs:=bL w [] (wV (iJ (fs 20)) (xY n)) (Vh w n tk s ts).L (Vh w n tk s ts).nx (Vh w n tk s ts).tk (og 0x1100001010000000000000000000000000000000001101)
def RB (w:World) (n tk:Nat) (q:Rs) (L:Led):Rs:=aB w [] q (.ok (.ret .none)) L n tk (og 0x11007006660500050500500005776660500050500500005777)
def sp3 (w:World) (n tk:Nat) (q:Rs) (L:Led) (S:Nat):Rs:=aB w [] q (.ok (.ret (.ref S))) L n tk [1,1,0,1,1]
noncomputable def IK (r:RS) (t:Nat):RS:={r with vt:=fun i=>if i=0 then t else r.vt i}
theorem Nh {hs h6:Heap} {r1:RS} {S a b loc:Nat} {o o' ol:Obj} (c1:r1.self=a) (c2:r1.sd=b) (Gl:(((S,o)::(r1.led0 w.params++[(a,inst 722 b),(b,kY w.params r1),(loc,ol)])).map Prod.fst).Nodup) (hsz:845≤hs.objs.size)
  (g5:∀ p∈(S,o)::(r1.led0 w.params++[(a,inst 722 b),(b,kY w.params r1),(loc,ol)]),hs.objs.size≤p.1) (zQ:∀ p∈(S,o')::(r1.led0 w.params++[(a,inst 722 b),(b,kY w.params r1),(loc,ol)]),h6.get? p.1=some p.2):Lex w h6 r1∧S∉(r1.led w.params).tail.map Prod.fst∧S≠a∧loc≠S∧hs.objs.size≤S∧hs.objs.size≤b∧hs.objs.size≤r1.bh∧hs.objs.size≤loc∧loc≠b∧loc≠r1.bh:=by
 subst c1 c2
 simp only [RS.led0,List.cons_append,List.nil_append,map_cons,map_nil,nodup_cons,mem_cons,not_mem_nil,or_false,not_or,not_false_eq_true,List.nodup_nil,and_true] at Gl
 simp only [RS.led0,List.cons_append,List.nil_append,mem_cons,not_mem_nil,or_false,forall_eq_or_imp,forall_eq] at g5 zQ
 refine ⟨⟨?_,?_,?_⟩,?_,Gl.1.2.2.2.2.1,Ne.symm Gl.1.2.2.2.2.2.2,g5.1,g5.2.2.2.2.2.2.1,g5.2.2.2.2.1,g5.2.2.2.2.2.2.2,Ne.symm Gl.2.2.2.2.2.2,Ne.symm Gl.2.2.2.2.1.2.2⟩
 ·exact Dy zQ.2.2.2.2.2.1 (Dy zQ.2.2.2.2.2.2.1 (Dy zQ.2.2.2.1 (Dy zQ.2.2.1 (Dy zQ.2.1 (bK zQ.2.2.2.2.1)))))
 ·simp only [RS.led,List.tail_cons,map_cons,map_nil,nodup_cons,mem_cons,not_mem_nil,or_false,not_or,not_false_eq_true,List.nodup_nil,and_true]
  grind
 ·exact Dy (Nat.le_trans hsz g5.2.2.2.2.2.1) (Dy (Nat.le_trans hsz g5.2.2.2.2.2.2.1) (Dy (Nat.le_trans hsz g5.2.2.2.1) (Dy (Nat.le_trans hsz g5.2.2.1) (Dy (Nat.le_trans hsz g5.2.1) (bK (Nat.le_trans hsz g5.2.2.2.2.1))))))
 ·simp only [RS.led,List.tail_cons,map_cons,map_nil,mem_cons,not_mem_nil,or_false,not_or]
  exact ⟨Gl.1.2.2.2.2.1,Gl.1.2.2.2.2.2.1,Gl.1.2.2.1,Gl.1.2.1,Gl.1.1,Gl.1.2.2.2.1⟩
theorem tO {s:Str} {ts:Nat} {l:List Env} {cs:List Nat} {ws:List (List Nat)} {fin:Option Bool} (hA:A.handled=none) (hD:A.depth+12<recursionLimit) (hfr:A.frames=some l) (FF:aG h l) (k:au w h)
  (ecs:s.cps.toList=cs) (sg:∀ c∈cs,c∈sgn) (b1:s.length<1000) (b2:2≤s.length) (rd:Reads true cs ws fin) (hw:ws.length≤900)
  (xZ:fin=none→∀ h' tk' S vs c,ak [] h h'→h.objs.size≤S→h'.get? S=some (aj vs.toArray c)→words ws vs→R (.ok (.ret (.ref S))) ⟨h',g,d,tk',os⟩)
  (post2:∀ esc,fin=some esc→∀ h' tk' e t T hd f pl tm,ak [] h h'→dz h h' "ValueError" [.str (jH esc) tm] e t T hd f .none pl→R (.error (.ref e)) ⟨h',g,d,tk',os⟩) :
  codeAny (model pw w) A (.call (.ref 734) ⟨[.str s ts],[]⟩) R ⟨h,g,d,tk,os⟩:=by
 obtain ⟨n0,R0⟩:=(Rep.nil k).up
 refine fC (Vh w (n0+845) tk s ts) hA (by lia) R0 (body:=iJ (fs 20)) (env:=xY (n0+845)) (by symm) (by symm) (by symm) ?_ rfl
 intro h0 Gh
 refine bG ?_
 refine bQ (KN w (n0+845) tk s ts) .nil hA Gh (n:=1) (c:=.call (.ref 646) ⟨[.ref (n0+845+2),.str s ts],[(lits "posix",.bool true)]⟩) (fr:=[]) (u:=1) ⟨by symm,by symm⟩ ?_ rfl
 intro A1 h1 bT hD1 ql _ R1
 have Ge:A1.depth=A.depth+2:=hD1
 have cN:=R1.cast (L':=[(n0+845+2,inst 722 (n0+845+1)),(n0+845+1,dI),(n0+845,lo (KN w (n0+845) tk s ts).L 2)]) (by symm)
 refine wu bT (by lia) R1.old (a:=n0+845+2) (dx:=n0+845+1) (by lia) (by lia) (by lia) (cN.at 0 rfl) (cN.at 1 rfl) ?_
 intro h2 tk2 r ea ed K2 Gd IV IW eb ep et ⟨t0,est⟩
 obtain ⟨r,rfl⟩:∃ r',r={r' with self:=n0+845+2,sd:=n0+845+1}:=⟨r,by cases r;simp_all⟩
 revert Gd IV IW eb ep et est;refine gen ({r with self:=n0+845+2,sd:=n0+845+1}:RS) fun r0 er0=>?_;intro Gd IV IW eb ep et est
 have Ip:=cN.after (news:=r0.led0 w.params) (L':=[(n0+845+2,inst 722 (n0+845+1)),(n0+845+1,Ga w.params r0),(n0+845,lo (KN w (n0+845) tk s ts).L 2)]) (mod:=[n0+845+1]) K2 (by simp) (by simp) (by simp) (by
  intro p hp
  simp only [mem_cons,not_mem_nil,or_false] at hp ⊢
  rcases hp with rfl | rfl | rfl
  ·exact .inl ⟨.inl rfl,by simp⟩
  ·exact .inr Gd
  ·exact .inl ⟨.inr (.inr rfl),by simp⟩) (fun p hp=>(IV p hp).1) (fun p hp=>(IV p hp).2) IW
 obtain ⟨n2,R2⟩:=Ip.up
 refine cJ (RB w (n2+845) tk2 (KN w (n0+845) tk s ts) _) .nil hA R2 (n:=0) (c:=.call (.builtin "list.__new__") ⟨[.type "list",.ref (n0+845+2)],[]⟩) (fr:=[]) (u:=1) ⟨by symm,by symm⟩ ?_ rfl
 intro A3 h3 iY lJ I3 _ R3
 refine tM ?_
 obtain ⟨n3,wA⟩:=R3.up
 have Ni:h3.objs.size=n3+845:=wA.size
 have R4:=wA.push (o:=aj #[] 0) rfl
 rw [Ni]
 refine cJ (sp3 w (n3+845+1) _ (RB w (n2+845) tk2 (KN w (n0+845) tk s ts) _) ((n3+845,aj #[] 0)::(RB w (n2+845) tk2 (KN w (n0+845) tk s ts) _).L) (n3+845)) .nil hA R4 (n:=0) (c:=.builtin "list.__init__" ⟨[.ref (n3+845),.ref (n0+845+2)],[]⟩) (fr:=[]) (u:=1) ⟨by symm,by symm⟩ ?_ rfl
 intro A5 h5 vY xM Vi _ R5
 have aN5:A5.depth=A.depth+1:=xM
 revert R5;refine gen (sp3 w (n3+845+1) _ (RB w (n2+845) tk2 (KN w (n0+845) tk s ts) _) ((n3+845,aj #[] 0)::(RB w (n2+845) tk2 (KN w (n0+845) tk s ts) _).L) (n3+845)) ?_;intro q3 eq3;intro R5
 have qm:=R5.cast (L':=(n3+845,aj #[] 0)::((IK r0 (dg q3.L 6 4)).led0 w.params++[(n0+845+2,inst 722 (n0+845+1)),(n0+845+1,kY w.params (IK r0 (dg q3.L 6 4))),(n0+845,lo q3.L 7)])) (by refine sb eq3 ?_;symm)
 have F5a:aG h5 (xY (n0+845)::l):=R5.frCons (R5.fr FF (fun _ _ _ _ x=>nomatch x)) 7 (a:=n0+845) (by refine sb eq3 ?_;symm)
 have c1:(IK r0 (dg q3.L 6 4)).self=n0+845+2:=by rw [← er0];rfl
 have c2:(IK r0 (dg q3.L 6 4)).sd=n0+845+1:=by rw [← er0];rfl
 have c3:(IK r0 (dg q3.L 6 4)).buf=s:=eb
 have c4:(IK r0 (dg q3.L 6 4)).p=0:=ep
 have c5:(IK r0 (dg q3.L 6 4)).tok=Mine.S []:=et
 have c6:(IK r0 (dg q3.L 6 4)).st=.str (Mine.S [32]) t0:=est
 revert qm c1 c2 c3 c4 c5 c6;refine yZ (IK r0 (dg q3.L 6 4)) fun r1=>?_;intro qm c1 c2 c3 c4 c5 c6
 have g5:∀ p∈(n3+845,aj #[] 0)::(r1.led0 w.params++[(n0+845+2,inst 722 (n0+845+1)),(n0+845+1,kY w.params r1),(n0+845,lo q3.L 7)]),h.objs.size≤p.1:=fun p hp=>(qm.fresh.2 p hp).1
 have hsz:845≤h.objs.size:=k.size
 have m5:(n3+845:Nat)≠n0+845+2:=fun x=>(List.nodup_cons.mp qm.nd).1 (by show n3+845∈_;rw [x];exact .tail _ (.tail _ (.tail _ (.tail _ (.head _)))))
 refine tK vY (by lia) R5.old (I:=n0+845+2) (S:=n3+845) (sd:=n0+845+1) (by lia) (by lia) m5 (qm.at 5 rfl) (qm.at 0 rfl) ?_
 intro h6 lg c K6 gS6
 have R6:=qm.after1 (o':=aj #[] c) 0 rfl K6 (Nat.le_add_left 845 n3) gS6
 have Gm:∀ env∈l,∀ a,env.frame=some a→a∉([]:List Addr):=fun _ _ _ _ x=>nomatch x
 have oL:(lo q3.L 7).cls=.type "frame" := by refine sb eq3 ?_;symm
 have oD:eV (lo q3.L 7)=true:=by refine sb eq3 ?_;symm
 have F6:aG h6 (xY (n0+845)::l):=(R6.fr FF Gm).cons (by intro x;cases x) rfl (R6.at 7 rfl) oL (by intro vs x;unfold eV at oD;rw [x] at oD;cases oD)
 obtain ⟨L6,nS6,_,nS,s1,s7,s5,s8,i1,e3⟩:=Nh c1 c2 qm.nd hsz g5 R6.own
 have X6:zc w h6 r1 true cs:=⟨L6,c5,by rw [c3,c4,ecs];rfl,by rw [c4];exact Nat.zero_le _,sg,by
  have:cs.length=s.length:=by rw [← ecs];simp [Str.length]
  lia,by rw [c3];exact b1,by rw [c3];exact b2,⟨t0,by simpa using c6⟩,by simp⟩
 have zR:Keeps [] h h6:=R6.fresh.1
 have late:∀ {h7},ak [n3+845,r1.sd,r1.bh] h6 h7→ak [] h h7:=fun K7=>zR.f.late K7 (by
  simp only [mem_cons,not_mem_nil,or_false,forall_eq_or_imp,forall_eq]
  rw [c2]
  exact ⟨s1,s7,s5⟩)
 rw [← c1]
 refine Gj rd vY (by lia) (Vi _ (Around.frames_deeper hfr)) F6 R6.old X6 gS6 (by lia) nS6 (by simp;lia) ?_
 cases fin with
 | none=>
  intro h7 Cj r7 vs c7 K7 L7 e7 hS7 hw
  obtain ⟨hs,S1,R7a⟩:=(Rep.nil k).afterF (late K7) aX (L':=[]) rfl aX aX (news:=[(n3+845,aj (#[]++vs.toArray) c7)]) (bK s1) (bK hS7) fV
  obtain ⟨n7,R7⟩:=R7a.up
  refine aO (aB w [] q3 (.ok (.ret .none)) _ (n7+845) Cj []) .nil hA R7 (v:=.done (.ret (.ref (n3+845)))) (by refine sb eq3 ?_;symm) ?_ rfl
  intro h8 R8
  refine xZ rfl h8 _ (n3+845) vs c7 (S1.keeps R8.fresh.1.f) s1 ?_ hw
  have:=R8.at (a:=n3+845) (o:=aj (#[]++vs.toArray) c7) 0 (by refine sb eq3 ?_;symm)
  simpa using this
 | some esc=>
  intro h7 Cj r7 e t T hd f pl tm K7 L7 e7 FL
  have nl:n0+845∉[n3+845,r1.sd,r1.bh]:=by
   simp only [mem_cons,not_mem_nil,or_false,not_or]
   rw [c2]
   exact ⟨nS,i1,e3⟩
  obtain ⟨_,sl,hsl⟩:=K7.get (n0+845) nl _ (R6.at 7 rfl)
  have g6:h.objs.size≤h6.objs.size:=zR.size
  have tH:=FL.lo
  have lt6:n0+845<h6.objs.size:=Heap.lt_size (R6.at 7 rfl)
  obtain ⟨hs,S1,R7a⟩:=(Rep.nil k).afterF (late K7) aX (L':=[]) rfl aX aX (news:=FL.three++[(n0+845,xX (lo q3.L 7) sl)])
   (fun p hp=>by
    rcases List.mem_append.mp hp with hp | hp
    ·exact FL.n1 g6 p hp
    ·simp only [mem_singleton] at hp;rw [hp];exact s8)
   (fun p hp=>by
    rcases List.mem_append.mp hp with hp | hp
    ·exact FL.n2 p hp
    ·simp only [mem_singleton] at hp;rw [hp];exact hsl)
   (by
    rw [List.map_append,List.nodup_append]
    refine ⟨FL.n3,fV,fun a ha b hb=>?_⟩
    obtain ⟨p,hp,rfl⟩:=List.mem_map.mp ha
    simp only [map_cons,map_nil,mem_singleton] at hb
    rw [hb]
    exact Nat.ne_of_gt (Nat.lt_of_lt_of_le lt6 (FL.n1 (Nat.le_refl _) p hp)))
  obtain ⟨n7,R7⟩:=R7a.up
  have Nj:=R7.cast (L':=[(e,fM "ValueError" t (.ref T) .none .none (.bool false) .none),(t,⟨.type "tuple",none,.seq ⟨[.str (jH esc) tm]⟩ 0,⟨[]⟩⟩),(T,qj hd f .none pl),(n0+845,xX (lo q3.L 7) sl)]) (by simp [dz.three])
  refine fB (aB w [] q3 (.error (.ref e)) _ (n7+845) Cj []) .nil hA Nj (v:=.ref e) (by refine sb eq3 ?_;symm) ?_ rfl
  intro h8 R8
  have yc:=R8.cast (L':=[(e,fM "ValueError" t (.ref T) .none .none (.bool false) .none),(t,⟨.type "tuple",none,.seq ⟨[.str (jH esc) tm]⟩ 0,⟨[]⟩⟩),(T,qj hd f .none pl),(n0+845,xX (lo q3.L 7) sl)]) (by refine sb eq3 ?_;symm)
  have F8:aG h8 (xY (n0+845)::l):=(yc.fr (S1.fr FF) Gm).cons (by intro x;cases x) rfl (yc.at 3 rfl) oL (by intro vs x;have x':(lo q3.L 7).data=.fields vs:=x;unfold eV at oD;rw [x'] at oD;cases oD)
  have G8e:=yc.at (a:=e) (o:=fM "ValueError" t (.ref T) .none .none (.bool false) .none) 0 rfl
  have G8t:=yc.at (a:=t) (o:=⟨.type "tuple",none,.seq ⟨[.str (jH esc) tm]⟩ 0,⟨[]⟩⟩) 1 rfl
  refine jk (Around.frames_deeper hfr) F8 rfl G8e (.inr ⟨T,f,pl,hd,rfl,Ne.symm FL.ne.2.1,yc.at 2 rfl⟩) ?_
  intro h9 pl9 z1 z2 z3 z4
  have ge:=Nat.le_trans g6 tH.1
  have K8:ak [] h h8:=S1.keeps R8.fresh.1.f
  exact post2 esc rfl h9 _ e t h8.objs.size (.ref T) (n0+845) pl9 tm (K8.late (z2.f z1) (bK ge))
   ⟨⟨ge,Nat.le_trans g6 tH.2.1,K8.size⟩,⟨FL.ne.1,Nat.ne_of_lt (Heap.lt_size G8e),Nat.ne_of_lt (Heap.lt_size G8t)⟩,z3,(z2.get t (Ne.symm FL.ne.1) _ G8t).1 (show Value.type "tuple" ≠ .type "frame" by decide),z4⟩
noncomputable def cu (i:Nat) (t:Nat) (s:List Nat) (u:Nat):Obj:=⟨.type "tuple",none,.seq ⟨[.int (Int.ofNat i) t,.str (S s) u]⟩ 0,⟨[]⟩⟩
noncomputable def gZ (L:Led) (i j:Nat):Nat:=match L[i]? with
 | some (_,o)=>match o.data with
  | .seq vs _=>match vs.toList[j]? with
   | some v=>tokV v
   | none=>0
  | _=>0
 | none=>0
noncomputable def bM (st c:Nat):Nat × List Nat:=
 if st<2 then
  if c=32∨c=9∨c=13∨c=10 then (0,List.replicate st 0) else if c=92 then (4,[]) else if c=39 then (2,[]) else if c=34 then (3,[]) else (1,[c])
 else if st=2 then (if c=39 then (1,[]) else (2,[c]))
 else if st=3 then (if c=34 then (1,[]) else if c=92 then (5,[]) else (3,[c]))
 else if st=4 then (1,[c])
 else (3,if c=34∨c=92 then [c] else [92,c])
noncomputable def bI (g:Array GenState) (d:Drawn) (os:OsState) (R:Result→Shared→Prop) (h:Heap) (p:Nat × List Nat):Prop:=
 ∀ h' tk' T t u,Keeps [] h h'→h.objs.size≤T→h'.get? T=some (cu p.1 t p.2 u)→R (.ok (.ret (.ref T))) ⟨h',g,d,tk',os⟩
theorem mO {c:Nat} (hc:c∈[32,9,13,10]) {ts tc:Nat} (hA:A.handled=none) (hD:A.depth<recursionLimit) (k:au w h) (post:bI g d os R h (0,[])) :
  codeAny (model pw w) A (.call (.ref 806) ⟨[.int 0 ts,.str (S [c]) tc],[]⟩) R ⟨h,g,d,tk,os⟩:=by
 obtain ⟨n0,R0⟩:=(Rep.nil k).up
 exact bV (aQ w [hB "str.__contains__" (S [32,9,13,10]) (S [c]) true] 806 (bN w.params) ⟨[.int 0 ts,.str (S [c]) tc],[]⟩ [] (n0+845) tk [0,1,1,1,1] (og 0x10000121001)) (inC hc (by symm) (aF.nil)) hA hD R0 (y:=.ok (.ret (.ref (n0+845+1)))) (by symm) (by symm) (by symm)
  (fun h' R'=>post h' _ _ (gZ (aQ w [hB "str.__contains__" (S [32,9,13,10]) (S [c]) true] 806 (bN w.params) ⟨[.int 0 ts,.str (S [c]) tc],[]⟩ [] (n0+845) tk [0,1,1,1,1] (og 0x10000121001)).L 0 0) (gZ (aQ w [hB "str.__contains__" (S [32,9,13,10]) (S [c]) true] 806 (bN w.params) ⟨[.int 0 ts,.str (S [c]) tc],[]⟩ [] (n0+845) tk [0,1,1,1,1] (og 0x10000121001)).L 0 1) R'.fresh.1 (by rw [R0.size];lia) (R'.at 0 (by symm))) rfl
theorem Ck {ts tc:Nat} (hA:A.handled=none) (hD:A.depth<recursionLimit) (k:au w h) (post:bI g d os R h (4,[])) :
  codeAny (model pw w) A (.call (.ref 806) ⟨[.int 0 ts,.str (S [92]) tc],[]⟩) R ⟨h,g,d,tk,os⟩:=by
 obtain ⟨n0,R0⟩:=(Rep.nil k).up
 exact bV (aQ w [] 806 (bN w.params) ⟨[.int 0 ts,.str (S [92]) tc],[]⟩ [] (n0+845) tk [0,1,1,1,1] [1,0,0,1,0,0,1,0,0]) (aF.nil) hA hD R0 (y:=.ok (.ret (.ref (n0+845+1)))) (by symm) (by symm) (by symm)
  (fun h' R'=>post h' _ _ (gZ (aQ w [] 806 (bN w.params) ⟨[.int 0 ts,.str (S [92]) tc],[]⟩ [] (n0+845) tk [0,1,1,1,1] [1,0,0,1,0,0,1,0,0]).L 0 0) (gZ (aQ w [] 806 (bN w.params) ⟨[.int 0 ts,.str (S [92]) tc],[]⟩ [] (n0+845) tk [0,1,1,1,1] [1,0,0,1,0,0,1,0,0]).L 0 1) R'.fresh.1 (by rw [R0.size];lia) (R'.at 0 (by symm))) rfl
theorem Cm {ts tc:Nat} (hA:A.handled=none) (hD:A.depth<recursionLimit) (k:au w h) (post:bI g d os R h (2,[])) :
  codeAny (model pw w) A (.call (.ref 806) ⟨[.int 0 ts,.str (S [39]) tc],[]⟩) R ⟨h,g,d,tk,os⟩:=by
 obtain ⟨n0,R0⟩:=(Rep.nil k).up
 exact bV (aQ w [] 806 (bN w.params) ⟨[.int 0 ts,.str (S [39]) tc],[]⟩ [] (n0+845) tk [0,1,1,1,1] (og 0x1001001001001)) (aF.nil) hA hD R0 (y:=.ok (.ret (.ref (n0+845+1)))) (by symm) (by symm) (by symm)
  (fun h' R'=>post h' _ _ (gZ (aQ w [] 806 (bN w.params) ⟨[.int 0 ts,.str (S [39]) tc],[]⟩ [] (n0+845) tk [0,1,1,1,1] (og 0x1001001001001)).L 0 0) (gZ (aQ w [] 806 (bN w.params) ⟨[.int 0 ts,.str (S [39]) tc],[]⟩ [] (n0+845) tk [0,1,1,1,1] (og 0x1001001001001)).L 0 1) R'.fresh.1 (by rw [R0.size];lia) (R'.at 0 (by symm))) rfl
theorem Cp {ts tc:Nat} (hA:A.handled=none) (hD:A.depth<recursionLimit) (k:au w h) (post:bI g d os R h (3,[])) :
  codeAny (model pw w) A (.call (.ref 806) ⟨[.int 0 ts,.str (S [34]) tc],[]⟩) R ⟨h,g,d,tk,os⟩:=by
 obtain ⟨n0,R0⟩:=(Rep.nil k).up
 exact bV (aQ w [] 806 (bN w.params) ⟨[.int 0 ts,.str (S [34]) tc],[]⟩ [] (n0+845) tk [0,1,1,1,1] (og 0x1001001001001001)) (aF.nil) hA hD R0 (y:=.ok (.ret (.ref (n0+845+1)))) (by symm) (by symm) (by symm)
  (fun h' R'=>post h' _ _ (gZ (aQ w [] 806 (bN w.params) ⟨[.int 0 ts,.str (S [34]) tc],[]⟩ [] (n0+845) tk [0,1,1,1,1] (og 0x1001001001001001)).L 0 0) (gZ (aQ w [] 806 (bN w.params) ⟨[.int 0 ts,.str (S [34]) tc],[]⟩ [] (n0+845) tk [0,1,1,1,1] (og 0x1001001001001001)).L 0 1) R'.fresh.1 (by rw [R0.size];lia) (R'.at 0 (by symm))) rfl
theorem iC {c:Nat} (hc:c∈[97,98,120,233,35,36,160]) {ts tc:Nat} (hA:A.handled=none) (hD:A.depth<recursionLimit) (k:au w h) (post:bI g d os R h (1,[c])) :
  codeAny (model pw w) A (.call (.ref 806) ⟨[.int 0 ts,.str (S [c]) tc],[]⟩) R ⟨h,g,d,tk,os⟩:=by
 obtain ⟨n0,R0⟩:=(Rep.nil k).up
 exact bV (aQ w [hB "str.__contains__" (S [32,9,13,10]) (S [c]) false,hB "str.__eq__" (S [c]) (S [92]) false,hB "str.__eq__" (S [c]) (S [39]) false,hB "str.__eq__" (S [c]) (S [34]) false] 806 (bN w.params) ⟨[.int 0 ts,.str (S [c]) tc],[]⟩ [] (n0+845) tk [0,1,1,1,1] (og 0x1151413121001)) (inC hc (by symm) (aF.cons (kZ hc (by symm)) (aF.cons (kZ hc (by symm)) (aF.cons (kZ hc (by symm)) (aF.nil))))) hA hD R0 (y:=.ok (.ret (.ref (n0+845+1)))) (by symm) (by symm) (by symm)
  (fun h' R'=>post h' _ _ (gZ (aQ w [hB "str.__contains__" (S [32,9,13,10]) (S [c]) false,hB "str.__eq__" (S [c]) (S [92]) false,hB "str.__eq__" (S [c]) (S [39]) false,hB "str.__eq__" (S [c]) (S [34]) false] 806 (bN w.params) ⟨[.int 0 ts,.str (S [c]) tc],[]⟩ [] (n0+845) tk [0,1,1,1,1] (og 0x1151413121001)).L 0 0) (gZ (aQ w [hB "str.__contains__" (S [32,9,13,10]) (S [c]) false,hB "str.__eq__" (S [c]) (S [92]) false,hB "str.__eq__" (S [c]) (S [39]) false,hB "str.__eq__" (S [c]) (S [34]) false] 806 (bN w.params) ⟨[.int 0 ts,.str (S [c]) tc],[]⟩ [] (n0+845) tk [0,1,1,1,1] (og 0x1151413121001)).L 0 1) R'.fresh.1 (by rw [R0.size];lia) (R'.at 0 (by symm))) rfl
theorem mQ {c:Nat} (hc:c∈[32,9,13,10]) {ts tc:Nat} (hA:A.handled=none) (hD:A.depth<recursionLimit) (k:au w h) (post:bI g d os R h (0,[0])) :
  codeAny (model pw w) A (.call (.ref 806) ⟨[.int 1 ts,.str (S [c]) tc],[]⟩) R ⟨h,g,d,tk,os⟩:=by
 obtain ⟨n0,R0⟩:=(Rep.nil k).up
 exact bV (aQ w [hB "str.__contains__" (S [32,9,13,10]) (S [c]) true] 806 (bN w.params) ⟨[.int 1 ts,.str (S [c]) tc],[]⟩ [] (n0+845) tk [0,1,1,1,1] (og 0x10000121001)) (inC hc (by symm) (aF.nil)) hA hD R0 (y:=.ok (.ret (.ref (n0+845+1)))) (by symm) (by symm) (by symm)
  (fun h' R'=>post h' _ _ (gZ (aQ w [hB "str.__contains__" (S [32,9,13,10]) (S [c]) true] 806 (bN w.params) ⟨[.int 1 ts,.str (S [c]) tc],[]⟩ [] (n0+845) tk [0,1,1,1,1] (og 0x10000121001)).L 0 0) (gZ (aQ w [hB "str.__contains__" (S [32,9,13,10]) (S [c]) true] 806 (bN w.params) ⟨[.int 1 ts,.str (S [c]) tc],[]⟩ [] (n0+845) tk [0,1,1,1,1] (og 0x10000121001)).L 0 1) R'.fresh.1 (by rw [R0.size];lia) (R'.at 0 (by symm))) rfl
theorem Cq {ts tc:Nat} (hA:A.handled=none) (hD:A.depth<recursionLimit) (k:au w h) (post:bI g d os R h (4,[])) :
  codeAny (model pw w) A (.call (.ref 806) ⟨[.int 1 ts,.str (S [92]) tc],[]⟩) R ⟨h,g,d,tk,os⟩:=by
 obtain ⟨n0,R0⟩:=(Rep.nil k).up
 exact bV (aQ w [] 806 (bN w.params) ⟨[.int 1 ts,.str (S [92]) tc],[]⟩ [] (n0+845) tk [0,1,1,1,1] [1,0,0,1,0,0,1,0,0]) (aF.nil) hA hD R0 (y:=.ok (.ret (.ref (n0+845+1)))) (by symm) (by symm) (by symm)
  (fun h' R'=>post h' _ _ (gZ (aQ w [] 806 (bN w.params) ⟨[.int 1 ts,.str (S [92]) tc],[]⟩ [] (n0+845) tk [0,1,1,1,1] [1,0,0,1,0,0,1,0,0]).L 0 0) (gZ (aQ w [] 806 (bN w.params) ⟨[.int 1 ts,.str (S [92]) tc],[]⟩ [] (n0+845) tk [0,1,1,1,1] [1,0,0,1,0,0,1,0,0]).L 0 1) R'.fresh.1 (by rw [R0.size];lia) (R'.at 0 (by symm))) rfl
theorem Cr {ts tc:Nat} (hA:A.handled=none) (hD:A.depth<recursionLimit) (k:au w h) (post:bI g d os R h (2,[])) :
  codeAny (model pw w) A (.call (.ref 806) ⟨[.int 1 ts,.str (S [39]) tc],[]⟩) R ⟨h,g,d,tk,os⟩:=by
 obtain ⟨n0,R0⟩:=(Rep.nil k).up
 exact bV (aQ w [] 806 (bN w.params) ⟨[.int 1 ts,.str (S [39]) tc],[]⟩ [] (n0+845) tk [0,1,1,1,1] (og 0x1001001001001)) (aF.nil) hA hD R0 (y:=.ok (.ret (.ref (n0+845+1)))) (by symm) (by symm) (by symm)
  (fun h' R'=>post h' _ _ (gZ (aQ w [] 806 (bN w.params) ⟨[.int 1 ts,.str (S [39]) tc],[]⟩ [] (n0+845) tk [0,1,1,1,1] (og 0x1001001001001)).L 0 0) (gZ (aQ w [] 806 (bN w.params) ⟨[.int 1 ts,.str (S [39]) tc],[]⟩ [] (n0+845) tk [0,1,1,1,1] (og 0x1001001001001)).L 0 1) R'.fresh.1 (by rw [R0.size];lia) (R'.at 0 (by symm))) rfl
theorem Cu {ts tc:Nat} (hA:A.handled=none) (hD:A.depth<recursionLimit) (k:au w h) (post:bI g d os R h (3,[])) :
  codeAny (model pw w) A (.call (.ref 806) ⟨[.int 1 ts,.str (S [34]) tc],[]⟩) R ⟨h,g,d,tk,os⟩:=by
 obtain ⟨n0,R0⟩:=(Rep.nil k).up
 exact bV (aQ w [] 806 (bN w.params) ⟨[.int 1 ts,.str (S [34]) tc],[]⟩ [] (n0+845) tk [0,1,1,1,1] (og 0x1001001001001001)) (aF.nil) hA hD R0 (y:=.ok (.ret (.ref (n0+845+1)))) (by symm) (by symm) (by symm)
  (fun h' R'=>post h' _ _ (gZ (aQ w [] 806 (bN w.params) ⟨[.int 1 ts,.str (S [34]) tc],[]⟩ [] (n0+845) tk [0,1,1,1,1] (og 0x1001001001001001)).L 0 0) (gZ (aQ w [] 806 (bN w.params) ⟨[.int 1 ts,.str (S [34]) tc],[]⟩ [] (n0+845) tk [0,1,1,1,1] (og 0x1001001001001001)).L 0 1) R'.fresh.1 (by rw [R0.size];lia) (R'.at 0 (by symm))) rfl
theorem iD {c:Nat} (hc:c∈[97,98,120,233,35,36,160]) {ts tc:Nat} (hA:A.handled=none) (hD:A.depth<recursionLimit) (k:au w h) (post:bI g d os R h (1,[c])) :
  codeAny (model pw w) A (.call (.ref 806) ⟨[.int 1 ts,.str (S [c]) tc],[]⟩) R ⟨h,g,d,tk,os⟩:=by
 obtain ⟨n0,R0⟩:=(Rep.nil k).up
 exact bV (aQ w [hB "str.__contains__" (S [32,9,13,10]) (S [c]) false,hB "str.__eq__" (S [c]) (S [92]) false,hB "str.__eq__" (S [c]) (S [39]) false,hB "str.__eq__" (S [c]) (S [34]) false] 806 (bN w.params) ⟨[.int 1 ts,.str (S [c]) tc],[]⟩ [] (n0+845) tk [0,1,1,1,1] (og 0x1151413121001)) (inC hc (by symm) (aF.cons (kZ hc (by symm)) (aF.cons (kZ hc (by symm)) (aF.cons (kZ hc (by symm)) (aF.nil))))) hA hD R0 (y:=.ok (.ret (.ref (n0+845+1)))) (by symm) (by symm) (by symm)
  (fun h' R'=>post h' _ _ (gZ (aQ w [hB "str.__contains__" (S [32,9,13,10]) (S [c]) false,hB "str.__eq__" (S [c]) (S [92]) false,hB "str.__eq__" (S [c]) (S [39]) false,hB "str.__eq__" (S [c]) (S [34]) false] 806 (bN w.params) ⟨[.int 1 ts,.str (S [c]) tc],[]⟩ [] (n0+845) tk [0,1,1,1,1] (og 0x1151413121001)).L 0 0) (gZ (aQ w [hB "str.__contains__" (S [32,9,13,10]) (S [c]) false,hB "str.__eq__" (S [c]) (S [92]) false,hB "str.__eq__" (S [c]) (S [39]) false,hB "str.__eq__" (S [c]) (S [34]) false] 806 (bN w.params) ⟨[.int 1 ts,.str (S [c]) tc],[]⟩ [] (n0+845) tk [0,1,1,1,1] (og 0x1151413121001)).L 0 1) R'.fresh.1 (by rw [R0.size];lia) (R'.at 0 (by symm))) rfl
theorem Cv {ts tc:Nat} (hA:A.handled=none) (hD:A.depth<recursionLimit) (k:au w h) (post:bI g d os R h (1,[])) :
  codeAny (model pw w) A (.call (.ref 806) ⟨[.int 2 ts,.str (S [39]) tc],[]⟩) R ⟨h,g,d,tk,os⟩:=by
 obtain ⟨n0,R0⟩:=(Rep.nil k).up
 exact bV (aQ w [] 806 (bN w.params) ⟨[.int 2 ts,.str (S [39]) tc],[]⟩ [] (n0+845) tk [0,1,1,1,1] [1,0,0,1,0,0,1,0,0]) (aF.nil) hA hD R0 (y:=.ok (.ret (.ref (n0+845+1)))) (by symm) (by symm) (by symm)
  (fun h' R'=>post h' _ _ (gZ (aQ w [] 806 (bN w.params) ⟨[.int 2 ts,.str (S [39]) tc],[]⟩ [] (n0+845) tk [0,1,1,1,1] [1,0,0,1,0,0,1,0,0]).L 0 0) (gZ (aQ w [] 806 (bN w.params) ⟨[.int 2 ts,.str (S [39]) tc],[]⟩ [] (n0+845) tk [0,1,1,1,1] [1,0,0,1,0,0,1,0,0]).L 0 1) R'.fresh.1 (by rw [R0.size];lia) (R'.at 0 (by symm))) rfl
theorem cW {c:Nat} (hc:c∈[32,9,13,10,34,92,97,98,120,233,35,36,160]) {ts tc:Nat} (hA:A.handled=none) (hD:A.depth<recursionLimit) (k:au w h) (post:bI g d os R h (2,[c])) :
  codeAny (model pw w) A (.call (.ref 806) ⟨[.int 2 ts,.str (S [c]) tc],[]⟩) R ⟨h,g,d,tk,os⟩:=by
 obtain ⟨n0,R0⟩:=(Rep.nil k).up
 exact bV (aQ w [hB "str.__eq__" (S [c]) (S [39]) false] 806 (bN w.params) ⟨[.int 2 ts,.str (S [c]) tc],[]⟩ [] (n0+845) tk [0,1,1,1,1] [1,0,0,1,0,0,1,2,1]) (aF.cons (kZ hc (by symm)) (aF.nil)) hA hD R0 (y:=.ok (.ret (.ref (n0+845+1)))) (by symm) (by symm) (by symm)
  (fun h' R'=>post h' _ _ (gZ (aQ w [hB "str.__eq__" (S [c]) (S [39]) false] 806 (bN w.params) ⟨[.int 2 ts,.str (S [c]) tc],[]⟩ [] (n0+845) tk [0,1,1,1,1] [1,0,0,1,0,0,1,2,1]).L 0 0) (gZ (aQ w [hB "str.__eq__" (S [c]) (S [39]) false] 806 (bN w.params) ⟨[.int 2 ts,.str (S [c]) tc],[]⟩ [] (n0+845) tk [0,1,1,1,1] [1,0,0,1,0,0,1,2,1]).L 0 1) R'.fresh.1 (by rw [R0.size];lia) (R'.at 0 (by symm))) rfl
theorem Cw {ts tc:Nat} (hA:A.handled=none) (hD:A.depth<recursionLimit) (k:au w h) (post:bI g d os R h (1,[])) :
  codeAny (model pw w) A (.call (.ref 806) ⟨[.int 3 ts,.str (S [34]) tc],[]⟩) R ⟨h,g,d,tk,os⟩:=by
 obtain ⟨n0,R0⟩:=(Rep.nil k).up
 exact bV (aQ w [] 806 (bN w.params) ⟨[.int 3 ts,.str (S [34]) tc],[]⟩ [] (n0+845) tk [0,1,1,1,1] (og 0x1001001001001)) (aF.nil) hA hD R0 (y:=.ok (.ret (.ref (n0+845+1)))) (by symm) (by symm) (by symm)
  (fun h' R'=>post h' _ _ (gZ (aQ w [] 806 (bN w.params) ⟨[.int 3 ts,.str (S [34]) tc],[]⟩ [] (n0+845) tk [0,1,1,1,1] (og 0x1001001001001)).L 0 0) (gZ (aQ w [] 806 (bN w.params) ⟨[.int 3 ts,.str (S [34]) tc],[]⟩ [] (n0+845) tk [0,1,1,1,1] (og 0x1001001001001)).L 0 1) R'.fresh.1 (by rw [R0.size];lia) (R'.at 0 (by symm))) rfl
theorem Cx {ts tc:Nat} (hA:A.handled=none) (hD:A.depth<recursionLimit) (k:au w h) (post:bI g d os R h (5,[])) :
  codeAny (model pw w) A (.call (.ref 806) ⟨[.int 3 ts,.str (S [92]) tc],[]⟩) R ⟨h,g,d,tk,os⟩:=by
 obtain ⟨n0,R0⟩:=(Rep.nil k).up
 exact bV (aQ w [] 806 (bN w.params) ⟨[.int 3 ts,.str (S [92]) tc],[]⟩ [] (n0+845) tk [0,1,1,1,1] (og 0x1001001001001001)) (aF.nil) hA hD R0 (y:=.ok (.ret (.ref (n0+845+1)))) (by symm) (by symm) (by symm)
  (fun h' R'=>post h' _ _ (gZ (aQ w [] 806 (bN w.params) ⟨[.int 3 ts,.str (S [92]) tc],[]⟩ [] (n0+845) tk [0,1,1,1,1] (og 0x1001001001001001)).L 0 0) (gZ (aQ w [] 806 (bN w.params) ⟨[.int 3 ts,.str (S [92]) tc],[]⟩ [] (n0+845) tk [0,1,1,1,1] (og 0x1001001001001001)).L 0 1) R'.fresh.1 (by rw [R0.size];lia) (R'.at 0 (by symm))) rfl
theorem dB {c:Nat} (hc:c∈[32,9,13,10,39,97,98,120,233,35,36,160]) {ts tc:Nat} (hA:A.handled=none) (hD:A.depth<recursionLimit) (k:au w h) (post:bI g d os R h (3,[c])) :
  codeAny (model pw w) A (.call (.ref 806) ⟨[.int 3 ts,.str (S [c]) tc],[]⟩) R ⟨h,g,d,tk,os⟩:=by
 obtain ⟨n0,R0⟩:=(Rep.nil k).up
 exact bV (aQ w [hB "str.__eq__" (S [c]) (S [34]) false,hB "str.__eq__" (S [c]) (S [92]) false] 806 (bN w.params) ⟨[.int 3 ts,.str (S [c]) tc],[]⟩ [] (n0+845) tk [0,1,1,1,1] (og 0x113121001001001)) (aF.cons (kZ hc (by symm)) (aF.cons (kZ hc (by symm)) (aF.nil))) hA hD R0 (y:=.ok (.ret (.ref (n0+845+1)))) (by symm) (by symm) (by symm)
  (fun h' R'=>post h' _ _ (gZ (aQ w [hB "str.__eq__" (S [c]) (S [34]) false,hB "str.__eq__" (S [c]) (S [92]) false] 806 (bN w.params) ⟨[.int 3 ts,.str (S [c]) tc],[]⟩ [] (n0+845) tk [0,1,1,1,1] (og 0x113121001001001)).L 0 0) (gZ (aQ w [hB "str.__eq__" (S [c]) (S [34]) false,hB "str.__eq__" (S [c]) (S [92]) false] 806 (bN w.params) ⟨[.int 3 ts,.str (S [c]) tc],[]⟩ [] (n0+845) tk [0,1,1,1,1] (og 0x113121001001001)).L 0 1) R'.fresh.1 (by rw [R0.size];lia) (R'.at 0 (by symm))) rfl
theorem cM {c:Nat} (hc:c∈[32,9,13,10,39,34,92,97,98,120,233,35,36,160]) {ts tc:Nat} (hA:A.handled=none) (hD:A.depth<recursionLimit) (k:au w h) (post:bI g d os R h (1,[c])) :
  codeAny (model pw w) A (.call (.ref 806) ⟨[.int 4 ts,.str (S [c]) tc],[]⟩) R ⟨h,g,d,tk,os⟩:=by
 obtain ⟨n0,R0⟩:=(Rep.nil k).up
 exact bV (aQ w [] 806 (bN w.params) ⟨[.int 4 ts,.str (S [c]) tc],[]⟩ [] (n0+845) tk [0,1,1,1,1] (og 0x11001001001001)) (aF.nil) hA hD R0 (y:=.ok (.ret (.ref (n0+845+1)))) (by symm) (by symm) (by symm)
  (fun h' R'=>post h' _ _ (gZ (aQ w [] 806 (bN w.params) ⟨[.int 4 ts,.str (S [c]) tc],[]⟩ [] (n0+845) tk [0,1,1,1,1] (og 0x11001001001001)).L 0 0) (gZ (aQ w [] 806 (bN w.params) ⟨[.int 4 ts,.str (S [c]) tc],[]⟩ [] (n0+845) tk [0,1,1,1,1] (og 0x11001001001001)).L 0 1) R'.fresh.1 (by rw [R0.size];lia) (R'.at 0 (by symm))) rfl
theorem Cy {ts tc:Nat} (hA:A.handled=none) (hD:A.depth<recursionLimit) (k:au w h) (post:bI g d os R h (3,[34])) :
  codeAny (model pw w) A (.call (.ref 806) ⟨[.int 5 ts,.str (S [34]) tc],[]⟩) R ⟨h,g,d,tk,os⟩:=by
 obtain ⟨n0,R0⟩:=(Rep.nil k).up
 exact bV (aQ w [] 806 (bN w.params) ⟨[.int 5 ts,.str (S [34]) tc],[]⟩ [] (n0+845) tk [0,1,1,1,1] (og 0x11001001001001001)) (aF.nil) hA hD R0 (y:=.ok (.ret (.ref (n0+845+1)))) (by symm) (by symm) (by symm)
  (fun h' R'=>post h' _ _ (gZ (aQ w [] 806 (bN w.params) ⟨[.int 5 ts,.str (S [34]) tc],[]⟩ [] (n0+845) tk [0,1,1,1,1] (og 0x11001001001001001)).L 0 0) (gZ (aQ w [] 806 (bN w.params) ⟨[.int 5 ts,.str (S [34]) tc],[]⟩ [] (n0+845) tk [0,1,1,1,1] (og 0x11001001001001001)).L 0 1) R'.fresh.1 (by rw [R0.size];lia) (R'.at 0 (by symm))) rfl
theorem Cz {ts tc:Nat} (hA:A.handled=none) (hD:A.depth<recursionLimit) (k:au w h) (post:bI g d os R h (3,[92])) :
  codeAny (model pw w) A (.call (.ref 806) ⟨[.int 5 ts,.str (S [92]) tc],[]⟩) R ⟨h,g,d,tk,os⟩:=by
 obtain ⟨n0,R0⟩:=(Rep.nil k).up
 exact bV (aQ w [] 806 (bN w.params) ⟨[.int 5 ts,.str (S [92]) tc],[]⟩ [] (n0+845) tk [0,1,1,1,1] (og 0x11001001001001001)) (aF.nil) hA hD R0 (y:=.ok (.ret (.ref (n0+845+1)))) (by symm) (by symm) (by symm)
  (fun h' R'=>post h' _ _ (gZ (aQ w [] 806 (bN w.params) ⟨[.int 5 ts,.str (S [92]) tc],[]⟩ [] (n0+845) tk [0,1,1,1,1] (og 0x11001001001001001)).L 0 0) (gZ (aQ w [] 806 (bN w.params) ⟨[.int 5 ts,.str (S [92]) tc],[]⟩ [] (n0+845) tk [0,1,1,1,1] (og 0x11001001001001001)).L 0 1) R'.fresh.1 (by rw [R0.size];lia) (R'.at 0 (by symm))) rfl
theorem dD {c:Nat} (hc:c∈[32,9,13,10,39,97,98,120,233,35,36,160]) {ts tc:Nat} (hA:A.handled=none) (hD:A.depth<recursionLimit) (k:au w h) (post:bI g d os R h (3,[92,c])) :
  codeAny (model pw w) A (.call (.ref 806) ⟨[.int 5 ts,.str (S [c]) tc],[]⟩) R ⟨h,g,d,tk,os⟩:=by
 obtain ⟨n0,R0⟩:=(Rep.nil k).up
 exact bV (aQ w [hB "str.__contains__" (S [34,92]) (S [c]) false,hAdd (S [92]) (S [c]) (S [92,c])] 806 (bN w.params) ⟨[.int 5 ts,.str (S [c]) tc],[]⟩ [] (n0+845) tk [0,1,1,1,1] (og 0x13121001001001001)) (inC hc (by symm) (aF.cons (mG rfl (by simp [S]) (by simp [S]) (by simp [S,Str.length,sizeLine])) (aF.nil))) hA hD R0 (y:=.ok (.ret (.ref (n0+845+1)))) (by symm) (by symm) (by symm)
  (fun h' R'=>post h' _ _ (gZ (aQ w [hB "str.__contains__" (S [34,92]) (S [c]) false,hAdd (S [92]) (S [c]) (S [92,c])] 806 (bN w.params) ⟨[.int 5 ts,.str (S [c]) tc],[]⟩ [] (n0+845) tk [0,1,1,1,1] (og 0x13121001001001001)).L 0 0) (gZ (aQ w [hB "str.__contains__" (S [34,92]) (S [c]) false,hAdd (S [92]) (S [c]) (S [92,c])] 806 (bN w.params) ⟨[.int 5 ts,.str (S [c]) tc],[]⟩ [] (n0+845) tk [0,1,1,1,1] (og 0x13121001001001001)).L 0 1) R'.fresh.1 (by rw [R0.size];lia) (R'.at 0 (by symm))) rfl
theorem vB {st c ts tc:Nat} (hst:st<6) (hc:c∈sgn) (hA:A.handled=none) (hD:A.depth<recursionLimit) (k:au w h) (post:bI g d os R h (bM st c)) :
  codeAny (model pw w) A (.call (.ref 806) ⟨[.int (Int.ofNat st) ts,.str (S [c]) tc],[]⟩) R ⟨h,g,d,tk,os⟩:=by
 have m:∀ l:List Nat,(∀ x∈sgn,x∈l∨¬ x∈l):=fun l x _=>Decidable.em _
 have hs:st=0∨st=1∨st=2∨st=3∨st=4∨st=5:=by lia
 have hc':=hc
 simp only [sgn,mem_cons,not_mem_nil,or_false] at hc'
 rcases hs with rfl | rfl | rfl | rfl | rfl | rfl <;> rcases hc' with rfl | rfl | rfl | rfl | rfl | rfl | rfl | rfl | rfl | rfl | rfl | rfl | rfl | rfl
 ·exact mO (c:=32) (by decide) hA hD k post
 ·exact mO (c:=9) (by decide) hA hD k post
 ·exact mO (c:=13) (by decide) hA hD k post
 ·exact mO (c:=10) (by decide) hA hD k post
 ·exact Cm hA hD k post
 ·exact Cp hA hD k post
 ·exact Ck hA hD k post
 ·exact iC (c:=97) (by decide) hA hD k post
 ·exact iC (c:=98) (by decide) hA hD k post
 ·exact iC (c:=120) (by decide) hA hD k post
 ·exact iC (c:=233) (by decide) hA hD k post
 ·exact iC (c:=35) (by decide) hA hD k post
 ·exact iC (c:=36) (by decide) hA hD k post
 ·exact iC (c:=160) (by decide) hA hD k post
 ·exact mQ (c:=32) (by decide) hA hD k post
 ·exact mQ (c:=9) (by decide) hA hD k post
 ·exact mQ (c:=13) (by decide) hA hD k post
 ·exact mQ (c:=10) (by decide) hA hD k post
 ·exact Cr hA hD k post
 ·exact Cu hA hD k post
 ·exact Cq hA hD k post
 ·exact iD (c:=97) (by decide) hA hD k post
 ·exact iD (c:=98) (by decide) hA hD k post
 ·exact iD (c:=120) (by decide) hA hD k post
 ·exact iD (c:=233) (by decide) hA hD k post
 ·exact iD (c:=35) (by decide) hA hD k post
 ·exact iD (c:=36) (by decide) hA hD k post
 ·exact iD (c:=160) (by decide) hA hD k post
 ·exact cW (c:=32) (by decide) hA hD k post
 ·exact cW (c:=9) (by decide) hA hD k post
 ·exact cW (c:=13) (by decide) hA hD k post
 ·exact cW (c:=10) (by decide) hA hD k post
 ·exact Cv hA hD k post
 ·exact cW (c:=34) (by decide) hA hD k post
 ·exact cW (c:=92) (by decide) hA hD k post
 ·exact cW (c:=97) (by decide) hA hD k post
 ·exact cW (c:=98) (by decide) hA hD k post
 ·exact cW (c:=120) (by decide) hA hD k post
 ·exact cW (c:=233) (by decide) hA hD k post
 ·exact cW (c:=35) (by decide) hA hD k post
 ·exact cW (c:=36) (by decide) hA hD k post
 ·exact cW (c:=160) (by decide) hA hD k post
 ·exact dB (c:=32) (by decide) hA hD k post
 ·exact dB (c:=9) (by decide) hA hD k post
 ·exact dB (c:=13) (by decide) hA hD k post
 ·exact dB (c:=10) (by decide) hA hD k post
 ·exact dB (c:=39) (by decide) hA hD k post
 ·exact Cw hA hD k post
 ·exact Cx hA hD k post
 ·exact dB (c:=97) (by decide) hA hD k post
 ·exact dB (c:=98) (by decide) hA hD k post
 ·exact dB (c:=120) (by decide) hA hD k post
 ·exact dB (c:=233) (by decide) hA hD k post
 ·exact dB (c:=35) (by decide) hA hD k post
 ·exact dB (c:=36) (by decide) hA hD k post
 ·exact dB (c:=160) (by decide) hA hD k post
 ·exact cM (c:=32) (by decide) hA hD k post
 ·exact cM (c:=9) (by decide) hA hD k post
 ·exact cM (c:=13) (by decide) hA hD k post
 ·exact cM (c:=10) (by decide) hA hD k post
 ·exact cM (c:=39) (by decide) hA hD k post
 ·exact cM (c:=34) (by decide) hA hD k post
 ·exact cM (c:=92) (by decide) hA hD k post
 ·exact cM (c:=97) (by decide) hA hD k post
 ·exact cM (c:=98) (by decide) hA hD k post
 ·exact cM (c:=120) (by decide) hA hD k post
 ·exact cM (c:=233) (by decide) hA hD k post
 ·exact cM (c:=35) (by decide) hA hD k post
 ·exact cM (c:=36) (by decide) hA hD k post
 ·exact cM (c:=160) (by decide) hA hD k post
 ·exact dD (c:=32) (by decide) hA hD k post
 ·exact dD (c:=9) (by decide) hA hD k post
 ·exact dD (c:=13) (by decide) hA hD k post
 ·exact dD (c:=10) (by decide) hA hD k post
 ·exact dD (c:=39) (by decide) hA hD k post
 ·exact Cy hA hD k post
 ·exact Cz hA hD k post
 ·exact dD (c:=97) (by decide) hA hD k post
 ·exact dD (c:=98) (by decide) hA hD k post
 ·exact dD (c:=120) (by decide) hA hD k post
 ·exact dD (c:=233) (by decide) hA hD k post
 ·exact dD (c:=35) (by decide) hA hD k post
 ·exact dD (c:=36) (by decide) hA hD k post
 ·exact dD (c:=160) (by decide) hA hD k post
section
open PySem.Builtin PySem.Builtin.Str
noncomputable def jN (l:Nat) (i:Nat):Obj:=⟨.type "list_iterator",none,.fields ⟨[.ref l,.int (Int.ofNat i) 0]⟩,⟨[]⟩⟩
noncomputable def sTy (x:Str):String:=if x.cps.all (· < 128) then "str_ascii_iterator" else "str_iterator"
noncomputable def rF (ty:String) (x:Str) (t:Nat) (i:Nat):Obj:=⟨.type ty,none,.fields ⟨[.str x t,.int (Int.ofNat i) 0]⟩,⟨[]⟩⟩
noncomputable def uN (x:Str) (t:Nat) (i:Nat):Obj:=rF (sTy x) x t i
theorem fG (x:Str):sTy x = "str_ascii_iterator" ∨ sTy x = "str_iterator" := by
 unfold sTy
 split
 ·exact .inl rfl
 ·exact .inr rfl
theorem Rep.drop {K:Nat→Option Obj} {h₀ h:Heap} {gv:List Addr} {x:Addr × Obj} {L:Led} {nx:Nat} (R:Rep K h₀ gv (x::L) nx h) (new:h₀.objs.size≤x.1):Rep K h₀ gv L nx h:=by
 refine ⟨R.size,R.old,fun p hp=>R.own p (mem_cons_of_mem _ hp),?_,fun p hp=>R.apart p (mem_cons_of_mem _ hp),fun b o e hb=>?_,R.grow,fun p hp=>R.new p (mem_cons_of_mem _ hp)⟩
 ·have:=R.nd
  rw [map_cons,nodup_cons] at this
  exact this.2
 ·refine R.frame b o e fun hm=>?_
  rw [map_cons,mem_cons] at hm
  rcases hm with rfl | hm
  ·exact absurd (Heap.lt_size e) (Nat.not_lt.mpr new)
  ·exact hb hm
theorem Rep.afterG {w:World} {h₀ h h':Heap} {gv mod:List Addr} {L L' news:Led} {nx:Nat} (R:Rep (K w) h₀ gv L nx h) (q:Keeps mod h h') (hm:∀ a∈mod,845≤a) (e1:L'.map Prod.fst=L.map Prod.fst) (hmod:∀ a∈mod,a∈L.map Prod.fst∨h₀.objs.size≤a)
  (own:∀ p∈L',(p∈L∧p.1∉mod)∨h'.get? p.1=some p.2) (n1:∀ p∈news,h.objs.size≤p.1) (n2:∀ p∈news,h'.get? p.1=some p.2) (n3:(news.map Prod.fst).Nodup):Rep (K w) h₀ gv (news++L') h'.objs.size h':=by
 have lt:∀ p∈L',p.1<h.objs.size:=fun p hp=>by
  have:p.1∈L.map Prod.fst:=e1 ▸ mem_map_of_mem hp
  obtain ⟨p',hp',e⟩:=List.mem_map.mp this
  exact e ▸ Heap.lt_size (R.own p' hp')
 have k:=R.old
 have low:∀ a o,K w a=some o→a<h.objs.size:=fun a o e=>Heap.lt_size (k a o e)
 refine ⟨rfl,q.kok (w:=w) k hm,fun p hp=>?_,?_,fun p hp=>?_,fun b o e hb=>?_,Nat.le_trans R.grow q.size,fun p hp=>?_⟩
 ·rcases List.mem_append.mp hp with hp | hp
  ·exact n2 p hp
  ·rcases own p hp with ⟨x,y⟩ | x
   ·exact q.get _ _ (R.own p x) y
   ·exact x
 ·rw [List.map_append,List.nodup_append]
  refine ⟨n3,by rw [e1];exact R.nd,fun a ha b hb=>?_⟩
  obtain ⟨p,hp,rfl⟩:=List.mem_map.mp ha
  obtain ⟨p',hp',rfl⟩:=List.mem_map.mp hb
  intro e
  have x:=lt p' hp'
  rw [← e] at x
  exact absurd (n1 p hp) (Nat.not_le.mpr x)
 ·rcases List.mem_append.mp hp with hp | hp
  ·cases e:K w p.1 with
   | none=>rfl
   | some o=>exact absurd (n1 p hp) (Nat.not_le.mpr (low _ _ e))
  ·have:p.1∈L.map Prod.fst:=e1 ▸ mem_map_of_mem hp
   obtain ⟨p',hp',e⟩:=List.mem_map.mp this
   rw [← e];exact R.apart p' hp'
 ·rw [List.map_append,List.mem_append,not_or,e1] at hb
  exact q.get _ _ (R.frame b o e hb.2) fun m=>by
   rcases hmod b m with x | x
   ·exact hb.2 x
   ·exact absurd (Heap.lt_size e) (Nat.not_lt.mpr x)
 ·rcases List.mem_append.mp hp with hp | hp
  ·exact .inr (Nat.le_trans R.grow (n1 p hp))
  ·have:p.1∈L.map Prod.fst:=e1 ▸ mem_map_of_mem hp
   obtain ⟨p',hp',e⟩:=List.mem_map.mp this
   rw [← e];exact R.new p' hp'
theorem Rep.afterI {w:World} {h₀ h h':Heap} {gv:List Addr} {it a:Addr} {oi o o':Obj} {L:Led} {nx:Nat} (R:Rep (K w) h₀ gv ((it,oi)::L) nx h) (new:h₀.objs.size≤it) (li:845≤it) (i:Nat) (hi:L[i]? = some (a,o)) (q:Keeps [it,a] h h') (ha:845≤a) (g:h'.get? a=some o'):Rep (K w) h₀ gv (L.set i (a,o')) h'.objs.size h':=by
 obtain ⟨hl,he⟩:=List.getElem?_eq_some_iff.mp hi
 have nd:=R.nd
 rw [map_cons,nodup_cons] at nd
 refine (R.drop new).afterG q (news:=[]) (by simp [li,ha]) ?_ (fun b hb=>?_) (fun p hp=>?_) aX aX (by simp)
 ·rw [List.map_set]
  have:(L.map Prod.fst)[i]? = some a:=by rw [List.getElem?_map,hi];rfl
  obtain ⟨hl',he'⟩:=List.getElem?_eq_some_iff.mp this
  show (L.map Prod.fst).set i a=_
  rw [← he']
  exact List.set_getElem_self hl'
 ·simp only [mem_cons,not_mem_nil,or_false] at hb
  rcases hb with rfl | rfl
  ·exact .inr new
  ·exact .inl (List.mem_map.mpr ⟨_,he ▸ List.getElem_mem hl,rfl⟩)
 ·obtain ⟨j,hj,rfl⟩:=List.getElem_of_mem hp
  rw [List.getElem_set]
  by_cases e:i=j
  ·right;simp [e,g]
  ·left
   rw [if_neg e]
   have hj':j<L.length:=by simpa using hj
   refine ⟨List.getElem_mem hj',fun z=>?_⟩
   simp only [mem_cons,not_mem_nil,or_false] at z
   rcases z with z | z
   ·have m:(L[j]).1∈L.map Prod.fst:=mem_map_of_mem (List.getElem_mem hj')
    rw [z] at m
    exact nd.1 m
   ·refine e ?_
    have n:=List.pairwise_iff_getElem.mp nd.2
    have q':(L.map Prod.fst)[j]'(by simpa using hj')=(L.map Prod.fst)[i]'(by simpa using hl):=by simp only [List.getElem_map];rw [z,he]
    rcases Nat.lt_trichotomy i j with c | c | c
    ·exact absurd q'.symm (n i j _ _ c)
    ·exact c
    ·exact absurd q' (n j i _ _ c)
noncomputable def wW (x left:Int):Obj:=⟨.type "range_iterator",none,.fields ⟨[.int x 0,.int left 0,.int 1 0]⟩,⟨[]⟩⟩
section
variable {E:Value→Shared→Prop} {Q:Option Value→Shared→Prop}
theorem bJ {it:Nat} {f:Obj→Obj}:Keeps [it] h (h.update it f):=⟨by rw [Heap.size_after_update];exact Nat.le_refl _,fun b o e hb=>(Heap.get?_update_other _ _ (Ne.symm (by simpa using hb))).trans e⟩
theorem bH {o:Obj} {m:List Addr}:Keeps m h (h.push o):=⟨by rw [Heap.size_push];exact Nat.le_succ _,fun b o' e _=>Heap.get?_push_of_some _ e⟩
theorem gj {it l i c:Nat} {vs:Array Value} {x:Value} (hit:h.get? it=some (jN l i)) (hl:h.get? l=some (aj vs c)) (hx:vs[i]? = some x)
  (hQ:∀ h',Keeps [it] h h'→h'.get? it=some (jN l (i+1))→Q (some x) ⟨h',g,d,tk,os⟩):wpAny (model pw w) A (pyNext (.ref it)) Q E ⟨h,g,d,tk,os⟩:=by
 have hT:Shared.TypeIs ⟨h,g,d,tk,os⟩ (.ref it) "list_iterator" := ⟨_,hit,rfl⟩
 unfold pyNext
 refine wpAny_bind (wpAny_attempt (wpAny_callSpecial?_slot (name:=Str.ofString "__next__") hT slot_listiter_next
  (wpAny_call_entry slot_listiter_next hT entry_listiter_next ?_ (args_listiter_next _))))
 show wpAny _ _ (field (.ref it) 0 >>= _) _ _ _
 refine wpAny_bind (wpAny_field hit rfl (x:=.ref l) rfl ?_)
 show wpAny _ _ (if (Value.ref l == Value.none)=true then _ else _) _ _ _
 rw [if_neg (show ¬ ((Value.ref l == Value.none)=true) from Bool.false_ne_true)]
 show wpAny _ _ (field (.ref it) 1 >>= _) _ _ _
 refine wpAny_bind (wpAny_field hit rfl (x:=.int (Int.ofNat i) 0) rfl ?_)
 show wpAny _ _ (seqItems? (.ref l) >>= _) _ _ _
 refine wpAny_bind (wpAny_seqItems hl rfl ?_)
 simp only [Int.ofNat_eq_natCast,Int.toNat_natCast,hx]
 refine wpAny_bind (wpAny_setField hit rfl (by simp) (wpAny_pure ⟨x,rfl,wpAny_pure (hQ _ bJ ?_)⟩))
 rw [Heap.get?_update_self _ hit rfl]
 simp [Obj.mapFields,jN,rawInt]
theorem iy {it l i c:Nat} {vs:Array Value} (hA:A.handled=none) (hit:h.get? it=some (jN l i)) (hl:h.get? l=some (aj vs c)) (hx:vs[i]? = none)
  (hQ:∀ h',Keeps [it] h h'→Q none ⟨h',g,d,tk,os⟩):wpAny (model pw w) A (pyNext (.ref it)) Q E ⟨h,g,d,tk,os⟩:=by
 have hT:Shared.TypeIs ⟨h,g,d,tk,os⟩ (.ref it) "list_iterator" := ⟨_,hit,rfl⟩
 unfold pyNext
 refine wpAny_bind (wpAny_attempt (wpAny_callSpecial?_slot (name:=Str.ofString "__next__") hT slot_listiter_next
  (wpAny_call_entry slot_listiter_next hT entry_listiter_next ?_ (args_listiter_next _))))
 show wpAny _ _ (field (.ref it) 0 >>= _) _ _ _
 refine wpAny_bind (wpAny_field hit rfl (x:=.ref l) rfl ?_)
 show wpAny _ _ (if (Value.ref l == Value.none)=true then _ else _) _ _ _
 rw [if_neg (show ¬ ((Value.ref l == Value.none)=true) from Bool.false_ne_true)]
 show wpAny _ _ (field (.ref it) 1 >>= _) _ _ _
 refine wpAny_bind (wpAny_field hit rfl (x:=.int (Int.ofNat i) 0) rfl ?_)
 show wpAny _ _ (seqItems? (.ref l) >>= _) _ _ _
 refine wpAny_bind (wpAny_seqItems hl rfl ?_)
 simp only [Int.ofNat_eq_natCast,Int.toNat_natCast,hx]
 refine wpAny_bind (wpAny_rule (wpAny_bind (wpAny_setField hit rfl (by simp) ?_)))
 show wpAny _ _ (newExc (.type "StopIteration") [] >>= _) _ _ _
 refine wpAny_bind ?_
 simp only [newExc,newTuple]
 refine wpAny_bind (wpAny_newObj_type ?_ (by size_fits))
 refine wpAny_bind (m:=firstArgMember _ _) (wpAny_of_eq (a:=Value.none) (by first | rfl | (simp only [firstArgMember];rfl)) ?_)
 refine wpAny_newObj_type ?_ (by size_fits)
 simp only [raiseNew]
 refine wpAny_bind (wpAny_handled ?_)
 rw [show A.in1.handled=none from hA]
 refine wpAny_bind (wpAny_pure (wpAny_throw ?_))
 refine wpAny_bind (wpAny_isInstance (T:="StopIteration") (b:=true) ⟨_,Heap.get?_push_size _ rfl,rfl⟩ isSubtype_stop ?_)
 exact wpAny_pure (hQ _ (bJ.trans (bH.trans bH)))
theorem lX {it i t c:Nat} {x:Str} (hit:h.get? it=some (uN x t i)) (hx:x.cps[i]? = some c)
  (hQ:∀ h',Keeps [it] h h'→h'.get? it=some (uN x t (i+1))→Q (some (.str (Mine.S [c]) tk)) ⟨h',g,d,tk+1,os⟩):wpAny (model pw w) A (pyNext (.ref it)) Q E ⟨h,g,d,tk,os⟩:=by
 have hT:Shared.TypeIs ⟨h,g,d,tk,os⟩ (.ref it) (sTy x):=⟨_,hit,rfl⟩
 unfold sTy at hT
 unfold pyNext
 by_cases ha:x.cps.all (· < 128)=true
 ·rw [if_pos ha] at hT
  refine wpAny_bind (wpAny_attempt (wpAny_callSpecial?_slot (name:=Str.ofString "__next__") hT F.slot_str_ascii_iterator_next
   (wpAny_call_entry F.slot_str_ascii_iterator_next hT F.entry_str_ascii_iterator_next ?_ (F.args_str_ascii_iterator_next_1 _))))
  show wpAny _ _ (field (.ref it) 0 >>= _) _ _ _
  refine wpAny_bind (wpAny_field hit rfl (x:=.str x t) rfl ?_)
  show wpAny _ _ (field (.ref it) 1 >>= _) _ _ _
  refine wpAny_bind (wpAny_field hit rfl (x:=.int (Int.ofNat i) 0) rfl ?_)
  simp only [Int.ofNat_eq_natCast,Int.toNat_natCast,hx]
  refine wpAny_bind (wpAny_setField hit rfl (by simp) (wpAny_bind (wpAny_mkStr (wpAny_pure ⟨_,rfl,wpAny_pure (hQ _ bJ ?_)⟩) (by show 1≤sizeLine;decide))))
  rw [Heap.get?_update_self _ hit rfl]
  simp [Obj.mapFields,uN,rF,rawInt]
 ·rw [if_neg ha] at hT
  refine wpAny_bind (wpAny_attempt (wpAny_callSpecial?_slot (name:=Str.ofString "__next__") hT F.slot_str_iterator_next
   (wpAny_call_entry F.slot_str_iterator_next hT F.entry_str_iterator_next ?_ (F.args_str_iterator_next_1 _))))
  show wpAny _ _ (field (.ref it) 0 >>= _) _ _ _
  refine wpAny_bind (wpAny_field hit rfl (x:=.str x t) rfl ?_)
  show wpAny _ _ (field (.ref it) 1 >>= _) _ _ _
  refine wpAny_bind (wpAny_field hit rfl (x:=.int (Int.ofNat i) 0) rfl ?_)
  simp only [Int.ofNat_eq_natCast,Int.toNat_natCast,hx]
  refine wpAny_bind (wpAny_setField hit rfl (by simp) (wpAny_bind (wpAny_mkStr (wpAny_pure ⟨_,rfl,wpAny_pure (hQ _ bJ ?_)⟩) (by show 1≤sizeLine;decide))))
  rw [Heap.get?_update_self _ hit rfl]
  simp [Obj.mapFields,uN,rF,rawInt]
theorem kj {it i t:Nat} {x:Str} (hA:A.handled=none) (hit:h.get? it=some (uN x t i)) (hx:x.cps[i]? = none)
  (hQ:∀ h',Keeps [it] h h'→Q none ⟨h',g,d,tk,os⟩):wpAny (model pw w) A (pyNext (.ref it)) Q E ⟨h,g,d,tk,os⟩:=by
 have hT:Shared.TypeIs ⟨h,g,d,tk,os⟩ (.ref it) (sTy x):=⟨_,hit,rfl⟩
 unfold sTy at hT
 unfold pyNext
 by_cases ha:x.cps.all (· < 128)=true
 ·rw [if_pos ha] at hT
  refine wpAny_bind (wpAny_attempt (wpAny_callSpecial?_slot (name:=Str.ofString "__next__") hT F.slot_str_ascii_iterator_next
   (wpAny_call_entry F.slot_str_ascii_iterator_next hT F.entry_str_ascii_iterator_next ?_ (F.args_str_ascii_iterator_next_1 _))))
  show wpAny _ _ (field (.ref it) 0 >>= _) _ _ _
  refine wpAny_bind (wpAny_field hit rfl (x:=.str x t) rfl ?_)
  show wpAny _ _ (field (.ref it) 1 >>= _) _ _ _
  refine wpAny_bind (wpAny_field hit rfl (x:=.int (Int.ofNat i) 0) rfl ?_)
  simp only [Int.ofNat_eq_natCast,Int.toNat_natCast,hx]
  refine wpAny_bind (wpAny_rule (wpAny_bind (wpAny_setField hit rfl (by simp) (wpAny_bind (wpAny_letGo ?_)))))
  show wpAny _ _ (newExc (.type "StopIteration") [] >>= _) _ _ _
  refine wpAny_bind ?_
  simp only [newExc,newTuple]
  refine wpAny_bind (wpAny_newObj_type ?_ (by size_fits))
  refine wpAny_bind (m:=firstArgMember _ _) (wpAny_of_eq (a:=Value.none) (by first | rfl | (simp only [firstArgMember];rfl)) ?_)
  refine wpAny_newObj_type ?_ (by size_fits)
  simp only [raiseNew]
  refine wpAny_bind (wpAny_handled ?_)
  rw [show A.in1.handled=none from hA]
  refine wpAny_bind (wpAny_pure (wpAny_throw ?_))
  refine wpAny_bind (wpAny_isInstance (T:="StopIteration") (b:=true) ⟨_,Heap.get?_push_size _ rfl,rfl⟩ isSubtype_stop ?_)
  exact wpAny_pure (hQ _ (bJ.trans (bH.trans bH)))
 ·rw [if_neg ha] at hT
  refine wpAny_bind (wpAny_attempt (wpAny_callSpecial?_slot (name:=Str.ofString "__next__") hT F.slot_str_iterator_next
   (wpAny_call_entry F.slot_str_iterator_next hT F.entry_str_iterator_next ?_ (F.args_str_iterator_next_1 _))))
  show wpAny _ _ (field (.ref it) 0 >>= _) _ _ _
  refine wpAny_bind (wpAny_field hit rfl (x:=.str x t) rfl ?_)
  show wpAny _ _ (field (.ref it) 1 >>= _) _ _ _
  refine wpAny_bind (wpAny_field hit rfl (x:=.int (Int.ofNat i) 0) rfl ?_)
  simp only [Int.ofNat_eq_natCast,Int.toNat_natCast,hx]
  refine wpAny_bind (wpAny_rule (wpAny_bind (wpAny_setField hit rfl (by simp) (wpAny_bind (wpAny_letGo ?_)))))
  show wpAny _ _ (newExc (.type "StopIteration") [] >>= _) _ _ _
  refine wpAny_bind ?_
  simp only [newExc,newTuple]
  refine wpAny_bind (wpAny_newObj_type ?_ (by size_fits))
  refine wpAny_bind (m:=firstArgMember _ _) (wpAny_of_eq (a:=Value.none) (by first | rfl | (simp only [firstArgMember];rfl)) ?_)
  refine wpAny_newObj_type ?_ (by size_fits)
  simp only [raiseNew]
  refine wpAny_bind (wpAny_handled ?_)
  rw [show A.in1.handled=none from hA]
  refine wpAny_bind (wpAny_pure (wpAny_throw ?_))
  refine wpAny_bind (wpAny_isInstance (T:="StopIteration") (b:=true) ⟨_,Heap.get?_push_size _ rfl,rfl⟩ isSubtype_stop ?_)
  exact wpAny_pure (hQ _ (bJ.trans (bH.trans bH)))
theorem iG {it:Nat} {x left:Int} (hit:h.get? it=some (wW x left)) (hl:0<left)
  (hQ:∀ h',Keeps [it] h h'→h'.get? it=some (wW (x+1) (left - 1))→Q (some (.int x tk)) ⟨h',g,d,tk+1,os⟩):wpAny (model pw w) A (pyNext (.ref it)) Q E ⟨h,g,d,tk,os⟩:=by
 have hit':IsRangeIter (Shared.mk h g d tk os).heap it x left 1:=hit
 have hT:Shared.TypeIs ⟨h,g,d,tk,os⟩ (.ref it) "range_iterator" := ⟨_,hit,rfl⟩
 unfold pyNext
 refine wpAny_bind (wpAny_attempt (wpAny_callSpecial?_slot (name:=Str.ofString "__next__") hT F.slot_range_iterator_next
  (call_meets F.slot_range_iterator_next hT F.entry_range_iterator_next (F.args_range_iterator_next_1 _) (AutoRange.range_iterator___next___range_iterator_1 it x left 1 (by lia)) ⟨hit',?_⟩)))
 refine wpAny_pure (hQ _ (bJ.trans bJ) ?_)
 rw [Heap.get?_update_self _ (Heap.get?_update_self _ hit rfl) rfl]
 rfl
theorem kE {it:Nat} {x left:Int} (hA:A.handled=none) (hit:h.get? it=some (wW x left)) (hl:left≤0)
  (hQ:∀ h',Keeps [it] h h'→Q none ⟨h',g,d,tk,os⟩):wpAny (model pw w) A (pyNext (.ref it)) Q E ⟨h,g,d,tk,os⟩:=by
 have hT:Shared.TypeIs ⟨h,g,d,tk,os⟩ (.ref it) "range_iterator" := ⟨_,hit,rfl⟩
 unfold pyNext
 refine wpAny_bind (wpAny_attempt (wpAny_callSpecial?_slot (name:=Str.ofString "__next__") hT F.slot_range_iterator_next
  (wpAny_call_entry F.slot_range_iterator_next hT F.entry_range_iterator_next ?_ (F.args_range_iterator_next_1 _))))
 show wpAny _ _ (field (.ref it) 0 >>= _) _ _ _
 refine wpAny_bind (wpAny_field hit rfl (x:=rawInt x) rfl ?_)
 show wpAny _ _ (field (.ref it) 1 >>= _) _ _ _
 refine wpAny_bind (wpAny_field hit rfl (x:=rawInt left) rfl ?_)
 show wpAny _ _ (field (.ref it) 2 >>= _) _ _ _
 refine wpAny_bind (wpAny_field hit rfl (x:=rawInt 1) rfl ?_)
 show wpAny _ _ (if left≤0 then _ else _) _ _ _
 rw [if_pos hl]
 refine wpAny_bind (wpAny_rule ?_)
 refine wpAny_bind ?_
 show wpAny _ _ (newExc (.type "StopIteration") [] >>= _) _ _ _
 refine wpAny_bind ?_
 simp only [newExc,newTuple]
 refine wpAny_bind (wpAny_newObj_type ?_ (by size_fits))
 refine wpAny_bind (m:=firstArgMember _ _) (wpAny_of_eq (a:=Value.none) (by first | rfl | (simp only [firstArgMember];rfl)) ?_)
 refine wpAny_newObj_type ?_ (by size_fits)
 simp only [raiseNew]
 refine wpAny_bind (wpAny_handled ?_)
 rw [show A.in1.handled=none from hA]
 refine wpAny_bind (wpAny_pure (wpAny_throw ?_))
 refine wpAny_bind (wpAny_isInstance (T:="StopIteration") (b:=true) ⟨_,Heap.get?_push_size _ rfl,rfl⟩ isSubtype_stop ?_)
 exact wpAny_pure (hQ _ (bH.trans bH))
theorem eF {x:Str} {t:Nat} (post:R (.ok (.ret (.ref h.objs.size))) ⟨h.push (uN x t 0),g,d,tk,os⟩) :
  codeAny (model pw w) A (.call (.builtin "str.__iter__") ⟨[.str x t],[]⟩) R ⟨h,g,d,tk,os⟩:=by
 refine codeAny_call_builtin F.slot_str_iter.plain F.entry_str_iter (F.slot_str_iter.check _ _ _ _ _ _ _ _ (typeIs_str _ x t) (F.args_str_iter_1 _) ?_)
 show wpAny _ _ (do ret (← newFields (if (true && x.cps.all (· < 128))=true then "str_ascii_iterator" else "str_iterator") [.str x t,rawInt 0])) _ _ _
 refine wpAny_bind (wpAny_newObj_type (wpAny_pure ?_))
 rw [Bool.true_and]
 exact post
theorem bO {l c:Nat} {vs:Array Value} {x:Value} (hl:h.get? l=some (aj vs c)) (hz:vs.size≤10000)
  (post:∀ h',Keeps [l] h h'→h'.get? l=some (aj (vs.push x) (c+1))→R (.ok (.ret .none)) ⟨h',g,d,tk,os⟩) :
  codeAny (model pw w) A (.call (.builtin "list.append") ⟨[.ref l,x],[]⟩) R ⟨h,g,d,tk,os⟩:=by
 have hT:Shared.TypeIs ⟨h,g,d,tk,os⟩ (.ref l) "list" := ⟨_,hl,rfl⟩
 refine codeAny_call_builtin slot_list_append.plain entry_list_append (slot_list_append.check _ _ _ _ _ _ _ _ hT (args_list_append _ _) ?_)
 show wpAny _ _ (updateSeq l (·.push x) >>= fun _=>ret .none) _ _ _
 refine wpAny_bind ?_
 have hsz:20000≤sizeLine:=by decide
 refine wpAny_updateSeq hl rfl (wpAny_pure (post _ bJ ?_)) (by lia) (by simp;lia)
 rw [Heap.get?_update_self _ hl rfl]
 simp [Obj.mapSeq,aj]
noncomputable def FQ (w:World) (A:Around) (R:Result→Shared→Prop):Fin→Shared→Prop:=fun fin s'=>match fin with | .done f=>R (.ok f) s' | .again c'=>c'.quiet=true∧codeAny (model pw w) A c' R s'
noncomputable def NE (w:World) (A:Around) (env:Env) (R:Result→Shared→Prop):Value→Shared→Prop:=notedBy (model pw w) A env fun e s'=>R (.error e) s'
def jX (target:Expr) (it v:Value) (body orelse:List Stmt) (env:Env):Sem Fin:=
 PySem.W.ZFast.zw1578499551869305889 target it v >>= fun _=>PySem.W.ZFast.zw17772580674575903948 target env v >>= fun _=>PySem.W.ZFast.zw12563942051412417395 body env >>= fun f=>match f with
  | .next=>PySem.W.ZFast.zw12377390311714414960 (.forLoop target it body orelse env)
  | .cont=>PySem.W.ZFast.zw12377390311714414960 (.forLoop target it body orelse env)
  | .brk=>pure (.done .next)
  | .ret v=>pure (.done (.ret v))
theorem tQ {env:Env} {s:Shared} (z:R (.ok .next) s):codeAny (model pw w) A (.block [] env) R s:=by
 refine codeAny_of_tree ?_
 show wpAny _ A (do return Fin.done (← (execs [] env).onRaise (fun x=>do noteFrame x env;theTreesLotGoes x))) _ _ _
 exact wpAny_bind (wpAny_noted (wpAny_execs_nil (wpAny_pure z)))
theorem cg {target:Expr} {it:Value} {body:List Stmt} {env:Env} {s:Shared}
  (z:wpAny (model pw w) A (pyNext it) (fun o s1=>match o with
   | none=>R (.ok .next) s1
   | some v=>wpAny (model pw w) A (jX target it v body [] env) (FQ w A R) (NE w A env R) s1) (NE w A env R) s):codeAny (model pw w) A (.forLoop target it body [] env) R s:=by
 refine codeAny_of_tree ?_
 show wpAny _ A ((forTurn target it body [] env).onRaise (fun x=>do noteFrame x env;theTreesLotGoes x)) _ _ s
 refine wpAny_noted ?_
 unfold forTurn
 refine wpAny_bind (wpAny_standAt (wpAny_bind (wpAny_onRaise (wpAny_mono z (fun o s1 z1=>?_) fun _ _ x=>wpAny_standAt x))))
 cases o with
 | none=>exact wpAny_pure ⟨rfl,tQ z1⟩
 | some v=>
  unfold jX at z1
  rw [← PySem.W.ZFast.ze1578499551869305889,← PySem.W.ZFast.ze17772580674575903948,← PySem.W.ZFast.ze12563942051412417395,← PySem.W.ZFast.ze12377390311714414960] at z1
  exact z1
def jl (elt target:Expr) (it acc v:Value) (env:Env) (e:Expr):Sem Fin:=
 PySem.W.ZFast.zw1578499551869305889 target it v >>= fun _=>PySem.W.ZFast.zw17772580674575903948 target env v >>= fun _=>
  (PySem.W.ZFast.zw14044960220447912780 elt env >>= fun x=>PySem.W.ZFast.zw11478286150595567475 (.builtin "list.append") [acc,x] [] >>= fun _=>pure ()) >>= fun _=>PySem.W.ZFast.zw12377390311714414960 (.compLoop e 0 it acc env)
theorem dH {elt target iter:Expr} {scope:Scope} {pos:Pos} {it acc:Value} {env:Env} {s:Shared}
  (z:wpAny (model pw w) A (pyNext it) (fun o s1=>match o with
   | none=>R (.ok .next) s1
   | some v=>wpAny (model pw w) A (jl elt target it acc v env (.ListComp elt [⟨target,iter,[],0⟩] scope pos)) (FQ w A R) (NE w A env R) s1) (NE w A env R) s) :
  codeAny (model pw w) A (.compLoop (.ListComp elt [⟨target,iter,[],0⟩] scope pos) 0 it acc env) R s:=by
 refine codeAny_of_tree ?_
 show wpAny _ A ((compTurn (.ListComp elt [⟨target,iter,[],0⟩] scope pos) 0 it acc env).onRaise (fun x=>do noteFrame x env;theTreesLotGoes x)) _ _ s
 refine wpAny_noted ?_
 rw [compTurn_list1]
 refine wpAny_bind (wpAny_standAt (wpAny_bind (wpAny_mono z (fun o s1 z1=>?_) fun _ _ x=>x)))
 cases o with
 | none=>exact wpAny_pure z1
 | some v=>
  unfold jl at z1
  rw [← PySem.W.ZFast.ze1578499551869305889,← PySem.W.ZFast.ze17772580674575903948,← PySem.W.ZFast.ze14044960220447912780,← PySem.W.ZFast.ze11478286150595567475,← PySem.W.ZFast.ze12377390311714414960] at z1
  exact z1
theorem dF {elt target iter:Expr} {scope:Scope} {pos:Pos} {it:Nat} {acc:Value} {env:Env}
  (hself:∀ E',wpAny (model pw w) A (pyIter (.ref it)) (fun v s'=>v=.ref it∧s'=⟨h,g,d,tk,os⟩) E' ⟨h,g,d,tk,os⟩)
  (z:codeAny (model pw w) A (.compLoop (.ListComp elt [⟨target,iter,[],0⟩] scope pos) 0 (.ref it) acc env) R ⟨h,g,d,tk,os⟩) :
  codeAny (model pw w) A (.compStart (.ListComp elt [⟨target,iter,[],0⟩] scope pos) 0 (.ref it) acc env) R ⟨h,g,d,tk,os⟩:=
 codeAny_compStart_list z (wpAny_mono (hself _) (fun v s' x=>by obtain ⟨rfl,rfl⟩:=x;exact z) fun _ _ x=>x)
theorem lY {it l i:Nat} {Q:Value→Shared→Prop} (hit:h.get? it=some (jN l i)) (hQ:Q (.ref it) ⟨h,g,d,tk,os⟩):wpAny (model pw w) A (pyIter (.ref it)) Q E ⟨h,g,d,tk,os⟩:=by
 refine wpAny_pyIter_listiter (l:=l) (i:=i) ⟨_,hit,rfl,rfl⟩ hQ
theorem zT {it t i:Nat} {x:Str} {Q:Value→Shared→Prop} (hit:h.get? it=some (uN x t i)) (hQ:Q (.ref it) ⟨h,g,d,tk,os⟩):wpAny (model pw w) A (pyIter (.ref it)) Q E ⟨h,g,d,tk,os⟩:=by
 by_cases ha:x.cps.all (· < 128)=true
 ·exact wpAny_pyIter_striter_ascii (x:=x) (t:=t) (i:=i) ⟨_,hit,by simp [uN,rF,sTy,ha],rfl⟩ hQ
 ·exact wpAny_pyIter_striter_wide (x:=x) (t:=t) (i:=i) ⟨_,hit,by simp [uN,rF,sTy,ha],rfl⟩ hQ
end
end
def ents (P:Params):List String→List Value→(Nat→Nat)→Nat→List DictEntry
 | n::ns,v::vs,k,i=>dE P (lits n) (k i) v::ents P ns vs k (i+1)
 | _,_,_,_=>[]
def bB (P:Params) (ns:List String) (k:Nat→Nat) (vs:List Value):Obj:=⟨.type "frame",none,.dict ⟨ents P ns vs k 0⟩ vs.length,⟨[]⟩⟩
noncomputable def kOf (L:Led) (i:Nat):Nat→Nat:=fun j=>rQ L i j
noncomputable def eY (s:Stmt):Expr:=Eb s
noncomputable def eG (s:Stmt):List Stmt:=iJ s
noncomputable def aY:List String:=["piece","row","begun","out","state","sign","told"]
noncomputable def d7 (loc:Nat):Env:={scope:=zq (fs 33),locals:=loc,globals:=3,cells:=[],qual:=lits "_law_row.<locals>.",func:=some 813,code:=.ref 812,frame:=some loc,builtins:=0}
noncomputable def jm:Stmt:=gC (iJ (fs 33)) 1
noncomputable def qp:Stmt:=gC (eG jm) 1
noncomputable def jJ (loc it:Nat):Code:=.forLoop (eY qp) (.ref it) (eG qp) [] (d7 loc)
noncomputable def iH (loc it:Nat):Code:=.forLoop (eY jm) (.ref it) (eG jm) [] (d7 loc)
def ri1 (w:World) (n tk:Nat) (loc it:Nat) (k:Nat→Nat) (vs:List Value) (v:Value):Rs:=bL w [] (jX (eY qp) (.ref it) v (eG qp) [] (d7 loc)) [(loc,bB w.params aY k vs)] n tk [1,1,0,1,1,0,1]
def KQ (w:World) (H:List Hk) (n tk:Nat) (q:Rs) (T:Nat) (p:Nat) (t:Nat) (s:List Nat) (u:Nat) (aC:List Nat):Rs:=aB w H q (.ok (.ret (.ref T))) ((T,cu p t s u)::q.L) n tk aC
theorem Rep.loc1 {h h':Heap} {loc nx:Nat} {L:Led} {o o':Obj} (R:Rep (K w) h [loc] L nx h') (m:Nat) (e:L.drop m=[(loc,o')]) (gl:h.get? loc=some o):Keeps [loc] h h'∧h'.get? loc=some o':=by
 obtain ⟨a,b⟩:=R.done (G:=[(loc,o)]) (G':=[(loc,o')]) (mod:=[loc]) m e rfl (bK gl) (by simp)
 exact ⟨a,b _ (mem_cons_self ..)⟩
theorem CG {loc it st ts Bg c t1 t2:Nat} {row:Nat} {piece:Str} {k:Nat→Nat} {bg:Value} (hst:st<6) (hc:c∈sgn) (hA:A.handled=none) (hD:A.depth+1<recursionLimit) (kk:au w h) (ll:845≤loc)
  (gl:h.get? loc=some (bB w.params aY k [.str piece t1,.ref row,bg,.str (S []) Bg,.int (Int.ofNat st) ts]))
  (post:∀ h' tk' k' ta tb tc td,Keeps [loc] h h'→h'.get? loc=some (bB w.params aY k' [.str piece t1,.ref row,bg,.str (S (bM st c).2) tb,.int (Int.ofNat (bM st c).1) ta,.str (S [c]) tc,.str (S (bM st c).2) td])→codeAny (model pw w) A (jJ loc it) R ⟨h',g,d,tk',os⟩) :
  wpAny (model pw w) A (jX (eY qp) (.ref it) (.str (S [c]) t2) (eG qp) [] (d7 loc)) (FQ w A R) (NE w A (d7 loc) R) ⟨h,g,d,tk,os⟩:=by
 obtain ⟨n0,R0⟩:=(Rep.start kk (L:=[(loc,bB w.params aY k [.str piece t1,.ref row,bg,.str (S []) Bg,.int (Int.ofNat st) ts])]) (bK gl) fV (bK ll)).up
 refine bA (ri1 w (n0+845) tk loc it k [.str piece t1,.ref row,bg,.str (S []) Bg,.int (Int.ofNat st) ts] (.str (S [c]) t2)) .nil hA R0 (n:=0) (c:=.call (.ref 806) ⟨[.int (Int.ofNat st) ts,.str (S [c]) t2],[]⟩) (by symm) ?_ rfl
 intro A1 h1 bT hD1 R1
 refine vB hst hc bT (by lia) R1.old ?_
 intro h2 tk2 T t u K2 lT gT
 obtain ⟨n2,R2⟩:=(R1.afterN K2 [(T,cu (bM st c).1 t (bM st c).2 u)] (bK lT) (bK gT) fV).up
 revert post gT R2;refine yZ (bM st c) fun p=>?_;intro post gT R2
 obtain ⟨p1,p2⟩:=p
 refine aO (KQ w [] (n2+845) tk2 _ T p1 t p2 u (og 0x11550055555511121101011121101011121101011010111)) .nil hA R2 (v:=.again (jJ loc it)) (by symm) ?_ rfl
 intro h3 R3
 revert R3;refine gen (KQ w [] (n2+845) tk2 _ T p1 t p2 u (og 0x11550055555511121101011121101011121101011010111)) ?_;intro q3 eq3;intro R3
 obtain ⟨K3,g3⟩:=R3.loc1 4 (o':=bB w.params aY (kOf q3.L 4) [.str piece t1,.ref row,bg,.str (S p2) (dg q3.L 4 3),.int (Int.ofNat p1) (dg q3.L 4 4),.str (S [c]) (dg q3.L 4 5),.str (S p2) (dg q3.L 4 6)]) (by refine sb eq3 ?_;symm) gl
 exact ⟨rfl,post h3 _ _ _ _ _ _ K3 g3⟩
theorem kJ (st c:Nat) (h:st<6):(bM st c).2.length≤2:=by
 unfold bM
 split
 ·split
  ·simp;lia
  ·repeat (first | split | simp)
 ·repeat (first | (split <;> simp) | split | simp)
theorem CJ {loc it st ts Bg c t1 t2:Nat} {row:Nat} {piece:Str} {k:Nat→Nat} {bg v6 v7:Value} {out:List Nat} (hst:st<6) (hc:c∈sgn) (hA:A.handled=none) (hD:A.depth+1<recursionLimit) (kk:au w h) (ll:845≤loc) (hl:out.length<10000)
  (gl:h.get? loc=some (bB w.params aY k [.str piece t1,.ref row,bg,.str (S out) Bg,.int (Int.ofNat st) ts,v6,v7]))
  (post:∀ h' tk' k' ta tb tc td,Keeps [loc] h h'→h'.get? loc=some (bB w.params aY k' [.str piece t1,.ref row,bg,.str (S (out++(bM st c).2)) tb,.int (Int.ofNat (bM st c).1) ta,.str (S [c]) tc,.str (S (bM st c).2) td])→codeAny (model pw w) A (jJ loc it) R ⟨h',g,d,tk',os⟩) :
  wpAny (model pw w) A (jX (eY qp) (.ref it) (.str (S [c]) t2) (eG qp) [] (d7 loc)) (FQ w A R) (NE w A (d7 loc) R) ⟨h,g,d,tk,os⟩:=by
 obtain ⟨n0,R0⟩:=(Rep.start kk (L:=[(loc,bB w.params aY k [.str piece t1,.ref row,bg,.str (S out) Bg,.int (Int.ofNat st) ts,v6,v7])]) (bK gl) fV (bK ll)).up
 refine bA (ri1 w (n0+845) tk loc it k [.str piece t1,.ref row,bg,.str (S out) Bg,.int (Int.ofNat st) ts,v6,v7] (.str (S [c]) t2)) .nil hA R0 (n:=0) (c:=.call (.ref 806) ⟨[.int (Int.ofNat st) ts,.str (S [c]) t2],[]⟩) (by symm) ?_ rfl
 intro A1 h1 bT hD1 R1
 refine vB hst hc bT (by lia) R1.old ?_
 intro h2 tk2 T t u K2 lT gT
 obtain ⟨n2,R2⟩:=(R1.afterN K2 [(T,cu (bM st c).1 t (bM st c).2 u)] (bK lT) (bK gT) fV).up
 have len:=kJ st c hst
 revert post gT R2 len;refine yZ (bM st c) fun p=>?_;intro post gT R2 len
 obtain ⟨p1,p2⟩:=p
 cases out with
 | nil=>
  refine aO (KQ w [] (n2+845) tk2 _ T p1 t p2 u (og 0x11550055555511121101011121101011121101011010111)) .nil hA R2 (v:=.again (jJ loc it)) (by symm) ?_ rfl
  intro h3 R3
  revert R3;refine gen (KQ w [] (n2+845) tk2 _ T p1 t p2 u (og 0x11550055555511121101011121101011121101011010111)) ?_;intro q3 eq3;intro R3
  obtain ⟨K3,g3⟩:=R3.loc1 4 (o':=bB w.params aY (kOf q3.L 4) [.str piece t1,.ref row,bg,.str (S p2) (dg q3.L 4 3),.int (Int.ofNat p1) (dg q3.L 4 4),.str (S [c]) (dg q3.L 4 5),.str (S p2) (dg q3.L 4 6)]) (by refine sb eq3 ?_;symm) gl
  exact ⟨rfl,post h3 _ _ _ _ _ _ K3 g3⟩
 | cons x0 xs=>
  cases p2 with
  | nil=>
   refine aO (KQ w [] (n2+845) tk2 _ T p1 t [] u (og 0x11550055555511121101011121101011121101011010111)) .nil hA R2 (v:=.again (jJ loc it)) (by symm) ?_ rfl
   intro h3 R3
   revert R3;refine gen (KQ w [] (n2+845) tk2 _ T p1 t [] u (og 0x11550055555511121101011121101011121101011010111)) ?_;intro q3 eq3;intro R3
   obtain ⟨K3,g3⟩:=R3.loc1 4 (o':=bB w.params aY (kOf q3.L 4) [.str piece t1,.ref row,bg,.str (S (x0::xs)) (dg q3.L 4 3),.int (Int.ofNat p1) (dg q3.L 4 4),.str (S [c]) (dg q3.L 4 5),.str (S []) (dg q3.L 4 6)]) (by refine sb eq3 ?_;symm) gl
   exact ⟨rfl,post h3 _ _ _ _ _ _ K3 (by simpa using g3)⟩
  | cons y0 ys=>
   simp only [List.length_cons] at len hl
   have hz:20000≤sizeLine:=by decide
   refine aO (KQ w [hAdd (S (x0::xs)) (S (y0::ys)) (S (x0::xs++y0::ys))] (n2+845) tk2 _ T p1 t (y0::ys) u (og 0x1155255555511121101011121101011121101011010111)) (aF.cons (mG rfl (by simp [S]) (by simp [S]) (by simp [S,Str.length];lia)) aF.nil) hA R2 (v:=.again (jJ loc it)) (by symm) ?_ rfl
   intro h3 R3
   revert R3;refine gen (KQ w [hAdd (S (x0::xs)) (S (y0::ys)) (S (x0::xs++y0::ys))] (n2+845) tk2 _ T p1 t (y0::ys) u (og 0x1155255555511121101011121101011121101011010111)) ?_;intro q3 eq3;intro R3
   obtain ⟨K3,g3⟩:=R3.loc1 4 (o':=bB w.params aY (kOf q3.L 4) [.str piece t1,.ref row,bg,.str (S (x0::xs++y0::ys)) (dg q3.L 4 3),.int (Int.ofNat p1) (dg q3.L 4 4),.str (S [c]) (dg q3.L 4 5),.str (S (y0::ys)) (dg q3.L 4 6)]) (by refine sb eq3 ?_;symm) gl
   exact ⟨rfl,post h3 _ _ _ _ _ _ K3 g3⟩
noncomputable def aP:Nat→List Nat→Nat × List Nat
 | st,[]=>(st,[])
 | st,c::cs=>let p:=bM st c;let q:=aP p.1 cs;(q.1,p.2++q.2)
theorem mR {st c:Nat} (h:st<6):(bM st c).1<6:=by
 unfold bM
 repeat (first | (split <;> simp) | split | simp)
theorem rU:∀ (cs:List Nat) {st:Nat},st<6→(aP st cs).1<6
 | [],_,h=>h
 | _::cs,_,h=>rU cs (mR h)
theorem mV:∀ (cs:List Nat) {st:Nat},st<6→(aP st cs).2.length≤2*cs.length
 | [],_,h=>Nat.le_refl _
 | c::cs,st,h=>by
  have a:=kJ st c h
  have b:=mV cs (mR (c:=c) h)
  simp only [aP,List.length_append,List.length_cons]
  lia
theorem Bh {loc it:Nat} {row:Nat} {piece:Str} {bg:Value} {t1 tp:Nat} (hA:A.handled=none) (hD:A.depth+1<recursionLimit) (ll:845≤loc) (li:845≤it) (ne:it≠loc) (sg:∀ c∈piece.cps.toList,c∈sgn) :
  ∀ (cs:List Nat) {i st ts Bg:Nat} {out:List Nat} {k:Nat→Nat} {v6 v7:Value} {h:Heap} {tk:Nat},piece.cps.toList.drop i=cs→st<6→out.length+2*cs.length<10000→au w h →
   h.get? it=some (uN piece tp i)→h.get? loc=some (bB w.params aY k [.str piece t1,.ref row,bg,.str (S out) Bg,.int (Int.ofNat st) ts,v6,v7]) →
   (∀ h' tk' k' ta tb v6 v7,Keeps [it,loc] h h'→h'.get? loc=some (bB w.params aY k' [.str piece t1,.ref row,bg,.str (S (out++(aP st cs).2)) tb,.int (Int.ofNat (aP st cs).1) ta,v6,v7])→R (.ok .next) ⟨h',g,d,tk',os⟩) →
   codeAny (model pw w) A (jJ loc it) R ⟨h,g,d,tk,os⟩:=by
 intro cs
 induction cs with
 | nil=>
  intro i st ts Bg out k v6 v7 h tk e hst hl kk gi gl post
  refine cg (kj hA gi (by rw [List.drop_eq_nil_iff] at e;simpa using e) fun h' K'=>?_)
  exact post h' _ k ts Bg v6 v7 ⟨K'.size,fun b o eo hb=>K'.get b o eo (by simp at hb ⊢;exact hb.1)⟩ (by
   have:=K'.get loc _ gl (cZ (Ne.symm ne))
   simpa [aP] using this)
 | cons c cs ih=>
  intro i st ts Bg out k v6 v7 h tk e hst hl kk gi gl post
  obtain ⟨gc,gd⟩:=cj e
  have hc:c∈sgn:=sg c (List.mem_of_mem_drop (i:=i) (by rw [e];exact mem_cons_self ..))
  refine cg (lX gi (c:=c) (by simpa using gc) fun h1 K1 jK=>?_)
  have fP:=K1.get loc _ gl (cZ (Ne.symm ne))
  simp only [List.length_cons] at hl
  refine CJ hst hc hA hD (K1.kok kk (bK li)) ll (by lia) fP ?_
  intro h2 tk2 k2 ta tb tc td K2 dX
  have DP:=K2.get it _ jK (cZ ne)
  have nJ:Keeps [it,loc] h h2:=⟨Nat.le_trans K1.size K2.size,fun b o eo hb=>K2.get b o (K1.get b o eo (by simp at hb ⊢;exact hb.1)) (by simp at hb ⊢;exact hb.2)⟩
  have sl:=kJ st c hst
  refine ih gd (mR hst) (by simp only [List.length_append];lia) (nJ.kok kk (by simp [ll,li])) DP dX ?_
  intro h3 tk3 k3 ta3 tb3 w6 w7 K3 iz
  refine post h3 tk3 k3 ta3 tb3 w6 w7 (nJ.trans K3) ?_
  simpa [aP,List.append_assoc] using iz
def DQ (w:World) (n tk:Nat) (loc itR row b tb c:Nat) (k:Nat→Nat) (vals:List Value) (vs:Array Value):Rs:=bL w [] (jX (eY jm) (.ref itR) (.int (Int.ofNat b) tb) (eG jm) [] (d7 loc)) [(loc,bB w.params aY k vals),(row,aj vs c)] n tk (og 0x115555511121101011121101011121101011010111111)
def KR (w:World) (n tk:Nat) (q:Rs) (it:Nat) (ty:String) (x:Str) (t:Nat):Rs:=aB w [] q (.ok (.ret (.ref it))) ((it,rF ty x t 0)::q.L) n tk [1,1]
def KY (w:World) (n tk:Nat) (q:Rs) (L:Led):Rs:=aB w [] q (.ok .next) L n tk [5,6,6,6,6,5,5,1]
def KZ (w:World) (n tk:Nat) (q:Rs) (L:Led):Rs:=aB w [] q (.ok (.ret .none)) L n tk []
theorem I4 {loc it:Nat} {row:Nat} {piece:Str} {bg:Value} {t1 tp c:Nat} {cs:List Nat} (hA:A.handled=none) (hD:A.depth+1<recursionLimit) (ll:845≤loc) (li:845≤it) (ne:it≠loc) (sg:∀ c∈piece.cps.toList,c∈sgn)
  {st ts Bg:Nat} {k:Nat→Nat} (e:piece.cps.toList=c::cs) (hst:st<6) (hl:2*cs.length<9000) (kk:au w h)
  (gi:h.get? it=some (uN piece tp 0)) (gl:h.get? loc=some (bB w.params aY k [.str piece t1,.ref row,bg,.str (S []) Bg,.int (Int.ofNat st) ts]))
  (post:∀ h' tk' k' ta tb v6 v7,Keeps [it,loc] h h'→h'.get? loc=some (bB w.params aY k' [.str piece t1,.ref row,bg,.str (S (aP st piece.cps.toList).2) tb,.int (Int.ofNat (aP st piece.cps.toList).1) ta,v6,v7])→R (.ok .next) ⟨h',g,d,tk',os⟩) :
  codeAny (model pw w) A (jJ loc it) R ⟨h,g,d,tk,os⟩:=by
 have e0:piece.cps.toList.drop 0=c::cs:=e
 obtain ⟨gc,gd⟩:=cj e0
 have hc:c∈sgn:=sg c (by rw [e];exact mem_cons_self ..)
 refine cg (lX gi (c:=c) (by simpa using gc) fun h1 K1 jK=>?_)
 have fP:=K1.get loc _ gl (cZ (Ne.symm ne))
 refine CG hst hc hA hD (K1.kok kk (bK li)) ll fP ?_
 intro h2 tk2 k2 ta tb tc td K2 dX
 have DP:=K2.get it _ jK (cZ ne)
 have nJ:Keeps [it,loc] h h2:=⟨Nat.le_trans K1.size K2.size,fun b o eo hb=>K2.get b o (K1.get b o eo (by simp at hb ⊢;exact hb.1)) (by simp at hb ⊢;exact hb.2)⟩
 have sl:=kJ st c hst
 refine Bh hA hD ll li ne sg cs gd (mR hst) (by lia) (nJ.kok kk (by simp [ll,li])) DP dX ?_
 intro h3 tk3 k3 ta3 tb3 w6 w7 K3 iz
 exact post h3 tk3 k3 ta3 tb3 w6 w7 (nJ.trans K3) (by rw [e];simpa [aP] using iz)
theorem zU {loc itR row b tb c t1:Nat} {piece:Str} {vs:Array Value} {k:Nat→Nat} {pc:Nat} {gk:List Nat} (hb:b<6) (hA:A.handled=none) (hD:A.depth+1<recursionLimit) (kk:au w h) (ll:845≤loc) (lr:845≤row) (ne:loc≠row) (sg:∀ c∈piece.cps.toList,c∈sgn) (hp:piece.cps.toList=pc::gk) (hl:2*piece.cps.toList.length<9000) (hz:vs.size≤1000)
  (gl:h.get? loc=some (bB w.params aY k [.str piece t1,.ref row])) (gr:h.get? row=some (aj vs c))
  (post:∀ h' tk' k' bg ta tb' v6 v7 T t u,Keeps [loc,row] h h'→h'.get? loc=some (bB w.params aY k' [.str piece t1,.ref row,bg,.str (S (aP b piece.cps.toList).2) tb',.int (Int.ofNat (aP b piece.cps.toList).1) ta,v6,v7])→h'.get? row=some (aj (vs.push (.ref T)) (c+1))→h.objs.size≤T→h'.get? T=some (cu (aP b piece.cps.toList).1 t (aP b piece.cps.toList).2 u)→codeAny (model pw w) A (iH loc itR) R ⟨h',g,d,tk',os⟩) :
  wpAny (model pw w) A (jX (eY jm) (.ref itR) (.int (Int.ofNat b) tb) (eG jm) [] (d7 loc)) (FQ w A R) (NE w A (d7 loc) R) ⟨h,g,d,tk,os⟩:=by
 have own:∀ q∈([(loc,bB w.params aY k [.str piece t1,.ref row]),(row,aj vs c)]:Led),h.get? q.1=some q.2:=by simp [gl,gr]
 obtain ⟨n0,R0⟩:=(Rep.start kk own (lG ne) (by simp [ll,lr])).up
 refine bA (DQ w (n0+845) tk loc itR row b tb c k [.str piece t1,.ref row] vs) .nil hA R0 (n:=0) (c:=.call (.builtin "str.__iter__") ⟨[.str piece t1],[]⟩) (by symm) ?_ rfl
 intro A1 h1 bT hD1 R1
 refine eF ?_
 obtain ⟨n1,lC⟩:=R1.up
 have mW:h1.objs.size=n1+845:=lC.size
 have R2:=lC.push (o:=rF (sTy piece) piece t1 0) rfl
 rw [mW]
 have g1:h.objs.size≤n1+845:=by rw [← mW];exact R1.grow
 have Gn:uN piece t1 0=rF (sTy piece) piece t1 0:=rfl
 rw [Gn]
 have hty:=fG piece
 revert R2 hty;refine gen (sTy piece) fun ty ety=>?_;intro R2 hty
 refine aK (KR w (n1+845+1) _ (DQ w (n0+845) tk loc itR row b tb c k [.str piece t1,.ref row] vs) (n1+845) ty piece t1) .nil hA R2 (n:=0) (c:=jJ loc (n1+845)) (by rcases hty with rfl | rfl <;> symm) ?_ rfl
 intro A3 h3 iY lJ R3
 revert R3;refine gen (KR w (n1+845+1) _ (DQ w (n0+845) tk loc itR row b tb c k [.str piece t1,.ref row] vs) (n1+845) ty piece t1) ?_;intro q2 eq2;intro R3
 have iZ:=R3.cast (L':=(n1+845,rF ty piece t1 0)::q2.L.tail) (by refine sb eq2 ?_;refine so hty ?_ ?_ <;> symm)
 have Gp:h3.get? (n1+845)=some (uN piece t1 0):=by rw [Gn,ety];exact iZ.at 0 rfl
 have Nk:loc<n1+845:=Nat.lt_of_lt_of_le (Heap.lt_size gl) g1
 have RD:row<n1+845:=Nat.lt_of_lt_of_le (Heap.lt_size gr) g1
 have el:q2.L.tail[4]? = some (loc,bB w.params aY (kOf q2.L 5) [.str piece t1,.ref row,.int (Int.ofNat b) tb,.str (S []) (dg q2.L 5 3),.int (Int.ofNat b) (dg q2.L 5 4)]):=by refine sb eq2 ?_;refine so hty ?_ ?_ <;> symm
 have iz:=iZ.at (a:=loc) 5 el
 refine I4 iY (by lia) ll (Nat.le_add_left 845 n1) (Nat.ne_of_gt Nk) sg hp hb (by rw [hp] at hl;simp at hl;lia) R3.old Gp iz ?_
 intro h4 tk4 k4 RG RJ v6 v7 K4 jc
 obtain ⟨n4,R4⟩:=(iZ.afterI g1 (Nat.le_add_left 845 n1) 4 el K4 ll jc).up
 refine aK (KY w (n4+845) tk4 q2 _) .nil hA R4 (n:=0) (c:=.call (.builtin "list.append") ⟨[.ref row,.ref (n4+845)],[]⟩) (by refine sb eq2 ?_;refine so hty ?_ ?_ <;> symm) ?_ rfl
 intro A5 h5 vY xM R5
 revert R5;refine gen (KY w (n4+845) tk4 q2 _) ?_;intro q3 eq3;intro R5
 have La:h5.get? row=some (aj vs c):=R5.at 6 (by refine sb eq3 (sb eq2 ?_);refine so hty ?_ ?_ <;> symm)
 refine bO La (by lia) ?_
 intro h6 K6 Nm
 obtain ⟨n6,R6⟩:=(R5.after1 (o:=aj vs c) 6 (by refine sb eq3 (sb eq2 ?_);refine so hty ?_ ?_ <;> symm) K6 lr Nm).up
 refine aO (KZ w (n6+845) _ q3 _) .nil hA R6 (v:=.again (iH loc itR)) (by refine sb eq3 (sb eq2 ?_);refine so hty ?_ ?_ <;> symm) ?_ rfl
 intro h7 R7
 revert R7;refine gen (KZ w (n6+845) _ q3 _) ?_;intro q4 eq4;intro R7
 have fin:=R7.done 5 (G:=[(loc,bB w.params aY k [.str piece t1,.ref row]),(row,aj vs c)]) (G':=[(loc,bB w.params aY k4 [.str piece t1,.ref row,.int (Int.ofNat b) tb,.str (S (aP b piece.cps.toList).2) RJ,.int (Int.ofNat (aP b piece.cps.toList).1) RG,v6,v7]),(row,aj (vs.push (.ref (n4+845))) (c+1))]) (mod:=[loc,row]) (by refine sb eq4 (sb eq3 (sb eq2 ?_));refine so hty ?_ ?_ <;> symm) rfl own (by simp)
 refine ⟨rfl,post h7 _ _ _ _ _ v6 v7 (n4+845) RG RJ fin.1 (fin.2 _ (mem_cons_self ..)) (fin.2 _ (mem_cons_of_mem _ (mem_cons_self ..))) ?_ (R7.at 0 (by refine sb eq4 (sb eq3 (sb eq2 ?_));refine so hty ?_ ?_ <;> symm))⟩
 rw [← R4.size]
 exact Nat.le_trans (Nat.le_trans R3.grow K4.size) (Nat.le_refl _)
theorem zV {loc itR row b tb c t1:Nat} {piece:Str} {vs:Array Value} {k:Nat→Nat} {b0 s0 o0 wX wY:Value} {pc:Nat} {gk:List Nat} (hb:b<6) (hA:A.handled=none) (hD:A.depth+1<recursionLimit) (kk:au w h) (ll:845≤loc) (lr:845≤row) (ne:loc≠row) (sg:∀ c∈piece.cps.toList,c∈sgn) (hp:piece.cps.toList=pc::gk) (hl:2*piece.cps.toList.length<9000) (hz:vs.size≤1000)
  (gl:h.get? loc=some (bB w.params aY k [.str piece t1,.ref row,b0,o0,s0,wX,wY])) (gr:h.get? row=some (aj vs c))
  (post:∀ h' tk' k' bg ta tb' v6 v7 T t u,Keeps [loc,row] h h'→h'.get? loc=some (bB w.params aY k' [.str piece t1,.ref row,bg,.str (S (aP b piece.cps.toList).2) tb',.int (Int.ofNat (aP b piece.cps.toList).1) ta,v6,v7])→h'.get? row=some (aj (vs.push (.ref T)) (c+1))→h.objs.size≤T→h'.get? T=some (cu (aP b piece.cps.toList).1 t (aP b piece.cps.toList).2 u)→codeAny (model pw w) A (iH loc itR) R ⟨h',g,d,tk',os⟩) :
  wpAny (model pw w) A (jX (eY jm) (.ref itR) (.int (Int.ofNat b) tb) (eG jm) [] (d7 loc)) (FQ w A R) (NE w A (d7 loc) R) ⟨h,g,d,tk,os⟩:=by
 have own:∀ q∈([(loc,bB w.params aY k [.str piece t1,.ref row,b0,o0,s0,wX,wY]),(row,aj vs c)]:Led),h.get? q.1=some q.2:=by simp [gl,gr]
 obtain ⟨n0,R0⟩:=(Rep.start kk own (lG ne) (by simp [ll,lr])).up
 refine bA (DQ w (n0+845) tk loc itR row b tb c k [.str piece t1,.ref row,b0,o0,s0,wX,wY] vs) .nil hA R0 (n:=0) (c:=.call (.builtin "str.__iter__") ⟨[.str piece t1],[]⟩) (by symm) ?_ rfl
 intro A1 h1 bT hD1 R1
 refine eF ?_
 obtain ⟨n1,lC⟩:=R1.up
 have mW:h1.objs.size=n1+845:=lC.size
 have R2:=lC.push (o:=rF (sTy piece) piece t1 0) rfl
 rw [mW]
 have g1:h.objs.size≤n1+845:=by rw [← mW];exact R1.grow
 have Gn:uN piece t1 0=rF (sTy piece) piece t1 0:=rfl
 rw [Gn]
 have hty:=fG piece
 revert R2 hty;refine gen (sTy piece) fun ty ety=>?_;intro R2 hty
 refine aK (KR w (n1+845+1) _ (DQ w (n0+845) tk loc itR row b tb c k [.str piece t1,.ref row,b0,o0,s0,wX,wY] vs) (n1+845) ty piece t1) .nil hA R2 (n:=0) (c:=jJ loc (n1+845)) (by rcases hty with rfl | rfl <;> symm) ?_ rfl
 intro A3 h3 iY lJ R3
 revert R3;refine gen (KR w (n1+845+1) _ (DQ w (n0+845) tk loc itR row b tb c k [.str piece t1,.ref row,b0,o0,s0,wX,wY] vs) (n1+845) ty piece t1) ?_;intro q2 eq2;intro R3
 have iZ:=R3.cast (L':=(n1+845,rF ty piece t1 0)::q2.L.tail) (by refine sb eq2 ?_;refine so hty ?_ ?_ <;> symm)
 have Gp:h3.get? (n1+845)=some (uN piece t1 0):=by rw [Gn,ety];exact iZ.at 0 rfl
 have Nk:loc<n1+845:=Nat.lt_of_lt_of_le (Heap.lt_size gl) g1
 have RD:row<n1+845:=Nat.lt_of_lt_of_le (Heap.lt_size gr) g1
 have el:q2.L.tail[4]? = some (loc,bB w.params aY (kOf q2.L 5) [.str piece t1,.ref row,.int (Int.ofNat b) tb,.str (S []) (dg q2.L 5 3),.int (Int.ofNat b) (dg q2.L 5 4),wX,wY]):=by refine sb eq2 ?_;refine so hty ?_ ?_ <;> symm
 have iz:=iZ.at (a:=loc) 5 el
 refine Bh iY (by lia) ll (Nat.le_add_left 845 n1) (Nat.ne_of_gt Nk) sg piece.cps.toList rfl hb (by show 0+2*piece.cps.toList.length<10000;lia) R3.old Gp iz ?_
 intro h4 tk4 k4 RG RJ v6 v7 K4 jc
 obtain ⟨n4,R4⟩:=(iZ.afterI g1 (Nat.le_add_left 845 n1) 4 el K4 ll jc).up
 refine aK (KY w (n4+845) tk4 q2 _) .nil hA R4 (n:=0) (c:=.call (.builtin "list.append") ⟨[.ref row,.ref (n4+845)],[]⟩) (by refine sb eq2 ?_;refine so hty ?_ ?_ <;> symm) ?_ rfl
 intro A5 h5 vY xM R5
 revert R5;refine gen (KY w (n4+845) tk4 q2 _) ?_;intro q3 eq3;intro R5
 have La:h5.get? row=some (aj vs c):=R5.at 6 (by refine sb eq3 (sb eq2 ?_);refine so hty ?_ ?_ <;> symm)
 refine bO La (by lia) ?_
 intro h6 K6 Nm
 obtain ⟨n6,R6⟩:=(R5.after1 (o:=aj vs c) 6 (by refine sb eq3 (sb eq2 ?_);refine so hty ?_ ?_ <;> symm) K6 lr Nm).up
 refine aO (KZ w (n6+845) _ q3 _) .nil hA R6 (v:=.again (iH loc itR)) (by refine sb eq3 (sb eq2 ?_);refine so hty ?_ ?_ <;> symm) ?_ rfl
 intro h7 R7
 revert R7;refine gen (KZ w (n6+845) _ q3 _) ?_;intro q4 eq4;intro R7
 have fin:=R7.done 5 (G:=[(loc,bB w.params aY k [.str piece t1,.ref row,b0,o0,s0,wX,wY]),(row,aj vs c)]) (G':=[(loc,bB w.params aY k4 [.str piece t1,.ref row,.int (Int.ofNat b) tb,.str (S (aP b piece.cps.toList).2) RJ,.int (Int.ofNat (aP b piece.cps.toList).1) RG,v6,v7]),(row,aj (vs.push (.ref (n4+845))) (c+1))]) (mod:=[loc,row]) (by refine sb eq4 (sb eq3 (sb eq2 ?_));refine so hty ?_ ?_ <;> symm) rfl own (by simp)
 refine ⟨rfl,post h7 _ _ _ _ _ v6 v7 (n4+845) RG RJ fin.1 (fin.2 _ (mem_cons_self ..)) (fin.2 _ (mem_cons_of_mem _ (mem_cons_self ..))) ?_ (R7.at 0 (by refine sb eq4 (sb eq3 (sb eq2 ?_));refine so hty ?_ ?_ <;> symm))⟩
 rw [← R4.size]
 exact Nat.le_trans (Nat.le_trans R3.grow K4.size) (Nat.le_refl _)
theorem zW {loc itR row b tb c t1:Nat} {piece:Str} {vs:Array Value} {k:Nat→Nat} (hb:b<6) (hA:A.handled=none) (hD:A.depth+1<recursionLimit) (kk:au w h) (ll:845≤loc) (lr:845≤row) (ne:loc≠row) (sg:∀ c∈piece.cps.toList,c∈sgn) (hp:piece.cps.toList=[]) (hl:2*piece.cps.toList.length<9000) (hz:vs.size≤1000)
  (gl:h.get? loc=some (bB w.params aY k [.str piece t1,.ref row])) (gr:h.get? row=some (aj vs c))
  (post:∀ h' tk' k' bg ta tb' T t u,Keeps [loc,row] h h'→h'.get? loc=some (bB w.params aY k' [.str piece t1,.ref row,bg,.str (S (aP b piece.cps.toList).2) tb',.int (Int.ofNat (aP b piece.cps.toList).1) ta])→h'.get? row=some (aj (vs.push (.ref T)) (c+1))→h.objs.size≤T→h'.get? T=some (cu (aP b piece.cps.toList).1 t (aP b piece.cps.toList).2 u)→codeAny (model pw w) A (iH loc itR) R ⟨h',g,d,tk',os⟩) :
  wpAny (model pw w) A (jX (eY jm) (.ref itR) (.int (Int.ofNat b) tb) (eG jm) [] (d7 loc)) (FQ w A R) (NE w A (d7 loc) R) ⟨h,g,d,tk,os⟩:=by
 have own:∀ q∈([(loc,bB w.params aY k [.str piece t1,.ref row]),(row,aj vs c)]:Led),h.get? q.1=some q.2:=by simp [gl,gr]
 obtain ⟨n0,R0⟩:=(Rep.start kk own (lG ne) (by simp [ll,lr])).up
 refine bA (DQ w (n0+845) tk loc itR row b tb c k [.str piece t1,.ref row] vs) .nil hA R0 (n:=0) (c:=.call (.builtin "str.__iter__") ⟨[.str piece t1],[]⟩) (by symm) ?_ rfl
 intro A1 h1 bT hD1 R1
 refine eF ?_
 obtain ⟨n1,lC⟩:=R1.up
 have mW:h1.objs.size=n1+845:=lC.size
 have R2:=lC.push (o:=rF (sTy piece) piece t1 0) rfl
 rw [mW]
 have g1:h.objs.size≤n1+845:=by rw [← mW];exact R1.grow
 have Gn:uN piece t1 0=rF (sTy piece) piece t1 0:=rfl
 rw [Gn]
 have hty:=fG piece
 revert R2 hty;refine gen (sTy piece) fun ty ety=>?_;intro R2 hty
 refine aK (KR w (n1+845+1) _ (DQ w (n0+845) tk loc itR row b tb c k [.str piece t1,.ref row] vs) (n1+845) ty piece t1) .nil hA R2 (n:=0) (c:=jJ loc (n1+845)) (by rcases hty with rfl | rfl <;> symm) ?_ rfl
 intro A3 h3 iY lJ R3
 revert R3;refine gen (KR w (n1+845+1) _ (DQ w (n0+845) tk loc itR row b tb c k [.str piece t1,.ref row] vs) (n1+845) ty piece t1) ?_;intro q2 eq2;intro R3
 have iZ:=R3.cast (L':=(n1+845,rF ty piece t1 0)::q2.L.tail) (by refine sb eq2 ?_;refine so hty ?_ ?_ <;> symm)
 have Gp:h3.get? (n1+845)=some (uN piece t1 0):=by rw [Gn,ety];exact iZ.at 0 rfl
 have Nk:loc<n1+845:=Nat.lt_of_lt_of_le (Heap.lt_size gl) g1
 have RD:row<n1+845:=Nat.lt_of_lt_of_le (Heap.lt_size gr) g1
 have el:q2.L.tail[4]? = some (loc,bB w.params aY (kOf q2.L 5) [.str piece t1,.ref row,.int (Int.ofNat b) tb,.str (S []) (dg q2.L 5 3),.int (Int.ofNat b) (dg q2.L 5 4)]):=by refine sb eq2 ?_;refine so hty ?_ ?_ <;> symm
 have iz:=iZ.at (a:=loc) 5 el
 refine cg (kj iY Gp (by simp [Array.getElem?_eq_none_iff];simpa using hp) fun h4 Np=>?_)
 have K4:Keeps [n1+845,loc] h3 h4:=⟨Np.size,fun b o eo hb=>Np.get b o eo (by simp at hb ⊢;exact hb.1)⟩
 have jc:=Np.get loc _ iz (cZ (Nat.ne_of_lt Nk))
 obtain ⟨n4,R4⟩:=(iZ.afterI g1 (Nat.le_add_left 845 n1) 4 el K4 ll jc).up
 refine aK (KY w (n4+845) q2.tk q2 _) .nil hA R4 (n:=0) (c:=.call (.builtin "list.append") ⟨[.ref row,.ref (n4+845)],[]⟩) (by refine sb eq2 ?_;refine so hty ?_ ?_ <;> symm) ?_ rfl
 intro A5 h5 vY xM R5
 revert R5;refine gen (KY w (n4+845) q2.tk q2 _) ?_;intro q3 eq3;intro R5
 have La:h5.get? row=some (aj vs c):=R5.at 6 (by refine sb eq3 (sb eq2 ?_);refine so hty ?_ ?_ <;> symm)
 refine bO La (by lia) ?_
 intro h6 K6 Nm
 obtain ⟨n6,R6⟩:=(R5.after1 (o:=aj vs c) 6 (by refine sb eq3 (sb eq2 ?_);refine so hty ?_ ?_ <;> symm) K6 lr Nm).up
 refine aO (KZ w (n6+845) _ q3 _) .nil hA R6 (v:=.again (iH loc itR)) (by refine sb eq3 (sb eq2 ?_);refine so hty ?_ ?_ <;> symm) ?_ rfl
 intro h7 R7
 revert R7;refine gen (KZ w (n6+845) _ q3 _) ?_;intro q4 eq4;intro R7
 have fin:=R7.done 5 (G:=[(loc,bB w.params aY k [.str piece t1,.ref row]),(row,aj vs c)]) (G':=[(loc,bB w.params aY (kOf q2.L 5) [.str piece t1,.ref row,.int (Int.ofNat b) tb,.str (S []) (dg q2.L 5 3),.int (Int.ofNat b) (dg q2.L 5 4)]),(row,aj (vs.push (.ref (n4+845))) (c+1))]) (mod:=[loc,row]) (by refine sb eq4 (sb eq3 (sb eq2 ?_));refine so hty ?_ ?_ <;> symm) rfl own (by simp)
 rw [hp] at post
 refine ⟨rfl,post h7 _ _ _ _ _ (n4+845) (dg q2.L 5 4) (dg q2.L 5 3) fin.1 (fin.2 _ (mem_cons_self ..)) (fin.2 _ (mem_cons_of_mem _ (mem_cons_self ..))) ?_ (R7.at 0 (by refine sb eq4 (sb eq3 (sb eq2 ?_));refine so hty ?_ ?_ <;> symm))⟩
 rw [← R4.size]
 exact Nat.le_trans (Nat.le_trans R3.grow K4.size) (Nat.le_refl _)
theorem zX {loc itR row b tb c t1:Nat} {piece:Str} {vs:Array Value} {k:Nat→Nat} {b0 s0 o0:Value} (hb:b<6) (hA:A.handled=none) (hD:A.depth+1<recursionLimit) (kk:au w h) (ll:845≤loc) (lr:845≤row) (ne:loc≠row) (sg:∀ c∈piece.cps.toList,c∈sgn) (hp:piece.cps.toList=[]) (hl:2*piece.cps.toList.length<9000) (hz:vs.size≤1000)
  (gl:h.get? loc=some (bB w.params aY k [.str piece t1,.ref row,b0,o0,s0])) (gr:h.get? row=some (aj vs c))
  (post:∀ h' tk' k' bg ta tb' T t u,Keeps [loc,row] h h'→h'.get? loc=some (bB w.params aY k' [.str piece t1,.ref row,bg,.str (S (aP b piece.cps.toList).2) tb',.int (Int.ofNat (aP b piece.cps.toList).1) ta])→h'.get? row=some (aj (vs.push (.ref T)) (c+1))→h.objs.size≤T→h'.get? T=some (cu (aP b piece.cps.toList).1 t (aP b piece.cps.toList).2 u)→codeAny (model pw w) A (iH loc itR) R ⟨h',g,d,tk',os⟩) :
  wpAny (model pw w) A (jX (eY jm) (.ref itR) (.int (Int.ofNat b) tb) (eG jm) [] (d7 loc)) (FQ w A R) (NE w A (d7 loc) R) ⟨h,g,d,tk,os⟩:=by
 have own:∀ q∈([(loc,bB w.params aY k [.str piece t1,.ref row,b0,o0,s0]),(row,aj vs c)]:Led),h.get? q.1=some q.2:=by simp [gl,gr]
 obtain ⟨n0,R0⟩:=(Rep.start kk own (lG ne) (by simp [ll,lr])).up
 refine bA (DQ w (n0+845) tk loc itR row b tb c k [.str piece t1,.ref row,b0,o0,s0] vs) .nil hA R0 (n:=0) (c:=.call (.builtin "str.__iter__") ⟨[.str piece t1],[]⟩) (by symm) ?_ rfl
 intro A1 h1 bT hD1 R1
 refine eF ?_
 obtain ⟨n1,lC⟩:=R1.up
 have mW:h1.objs.size=n1+845:=lC.size
 have R2:=lC.push (o:=rF (sTy piece) piece t1 0) rfl
 rw [mW]
 have g1:h.objs.size≤n1+845:=by rw [← mW];exact R1.grow
 have Gn:uN piece t1 0=rF (sTy piece) piece t1 0:=rfl
 rw [Gn]
 have hty:=fG piece
 revert R2 hty;refine gen (sTy piece) fun ty ety=>?_;intro R2 hty
 refine aK (KR w (n1+845+1) _ (DQ w (n0+845) tk loc itR row b tb c k [.str piece t1,.ref row,b0,o0,s0] vs) (n1+845) ty piece t1) .nil hA R2 (n:=0) (c:=jJ loc (n1+845)) (by rcases hty with rfl | rfl <;> symm) ?_ rfl
 intro A3 h3 iY lJ R3
 revert R3;refine gen (KR w (n1+845+1) _ (DQ w (n0+845) tk loc itR row b tb c k [.str piece t1,.ref row,b0,o0,s0] vs) (n1+845) ty piece t1) ?_;intro q2 eq2;intro R3
 have iZ:=R3.cast (L':=(n1+845,rF ty piece t1 0)::q2.L.tail) (by refine sb eq2 ?_;refine so hty ?_ ?_ <;> symm)
 have Gp:h3.get? (n1+845)=some (uN piece t1 0):=by rw [Gn,ety];exact iZ.at 0 rfl
 have Nk:loc<n1+845:=Nat.lt_of_lt_of_le (Heap.lt_size gl) g1
 have RD:row<n1+845:=Nat.lt_of_lt_of_le (Heap.lt_size gr) g1
 have el:q2.L.tail[4]? = some (loc,bB w.params aY (kOf q2.L 5) [.str piece t1,.ref row,.int (Int.ofNat b) tb,.str (S []) (dg q2.L 5 3),.int (Int.ofNat b) (dg q2.L 5 4)]):=by refine sb eq2 ?_;refine so hty ?_ ?_ <;> symm
 have iz:=iZ.at (a:=loc) 5 el
 refine cg (kj iY Gp (by simp [Array.getElem?_eq_none_iff];simpa using hp) fun h4 Np=>?_)
 have K4:Keeps [n1+845,loc] h3 h4:=⟨Np.size,fun b o eo hb=>Np.get b o eo (by simp at hb ⊢;exact hb.1)⟩
 have jc:=Np.get loc _ iz (cZ (Nat.ne_of_lt Nk))
 obtain ⟨n4,R4⟩:=(iZ.afterI g1 (Nat.le_add_left 845 n1) 4 el K4 ll jc).up
 refine aK (KY w (n4+845) q2.tk q2 _) .nil hA R4 (n:=0) (c:=.call (.builtin "list.append") ⟨[.ref row,.ref (n4+845)],[]⟩) (by refine sb eq2 ?_;refine so hty ?_ ?_ <;> symm) ?_ rfl
 intro A5 h5 vY xM R5
 revert R5;refine gen (KY w (n4+845) q2.tk q2 _) ?_;intro q3 eq3;intro R5
 have La:h5.get? row=some (aj vs c):=R5.at 6 (by refine sb eq3 (sb eq2 ?_);refine so hty ?_ ?_ <;> symm)
 refine bO La (by lia) ?_
 intro h6 K6 Nm
 obtain ⟨n6,R6⟩:=(R5.after1 (o:=aj vs c) 6 (by refine sb eq3 (sb eq2 ?_);refine so hty ?_ ?_ <;> symm) K6 lr Nm).up
 refine aO (KZ w (n6+845) _ q3 _) .nil hA R6 (v:=.again (iH loc itR)) (by refine sb eq3 (sb eq2 ?_);refine so hty ?_ ?_ <;> symm) ?_ rfl
 intro h7 R7
 revert R7;refine gen (KZ w (n6+845) _ q3 _) ?_;intro q4 eq4;intro R7
 have fin:=R7.done 5 (G:=[(loc,bB w.params aY k [.str piece t1,.ref row,b0,o0,s0]),(row,aj vs c)]) (G':=[(loc,bB w.params aY (kOf q2.L 5) [.str piece t1,.ref row,.int (Int.ofNat b) tb,.str (S []) (dg q2.L 5 3),.int (Int.ofNat b) (dg q2.L 5 4)]),(row,aj (vs.push (.ref (n4+845))) (c+1))]) (mod:=[loc,row]) (by refine sb eq4 (sb eq3 (sb eq2 ?_));refine so hty ?_ ?_ <;> symm) rfl own (by simp)
 rw [hp] at post
 refine ⟨rfl,post h7 _ _ _ _ _ (n4+845) (dg q2.L 5 4) (dg q2.L 5 3) fin.1 (fin.2 _ (mem_cons_self ..)) (fin.2 _ (mem_cons_of_mem _ (mem_cons_self ..))) ?_ (R7.at 0 (by refine sb eq4 (sb eq3 (sb eq2 ?_));refine so hty ?_ ?_ <;> symm))⟩
 rw [← R4.size]
 exact Nat.le_trans (Nat.le_trans R3.grow K4.size) (Nat.le_refl _)
noncomputable def aM (h:Heap):List Nat→List (Nat × List Nat)→Prop
 | [],[]=>True
 | T::Ts,p::ps=>(∃ t u,h.get? T=some (cu p.1 t p.2 u))∧aM h Ts ps
 | _,_=>False
theorem aM.get {h:Heap}:∀ {Ts:List Nat} {ρ:List (Nat × List Nat)},aM h Ts ρ→∀ T∈Ts,∃ (p:Nat × List Nat) (t u:Nat),h.get? T=some (cu p.1 t p.2 u)
 | [],_,_,_,hT=>nomatch hT
 | T'::Ts,[],X,_,_=>X.elim
 | T'::Ts,p::ps,X,T,hT=>by
  rcases List.mem_cons.mp hT with rfl | hT
  ·obtain ⟨⟨t,u,e⟩,_⟩:=X
   exact ⟨p,t,u,e⟩
  ·exact aM.get X.2 T hT
theorem aM.same {h h':Heap}:∀ {Ts:List Nat} {ρ:List (Nat × List Nat)},aM h Ts ρ→(∀ T∈Ts,∀ o,h.get? T=some o→o.cls=.type "tuple" → h'.get? T=some o)→aM h' Ts ρ
 | [],[],_,_=>trivial
 | [],_::_,X,_=>X.elim
 | _::_,[],X,_=>X.elim
 | T::Ts,p::ps,X,q=>by
  obtain ⟨⟨t,u,e⟩,X⟩:=X
  exact ⟨⟨t,u,q T (mem_cons_self ..) _ e rfl⟩,X.same fun T hT=>q T (mem_cons_of_mem _ hT)⟩
noncomputable def aA (h:Heap) (mod:List Addr):Prop:=∀ m∈mod,∀ o,h.get? m=some o→o.cls≠.type "tuple"
theorem aM.keeps {h h':Heap} {mod:List Addr} {Ts:List Nat} {ρ:List (Nat × List Nat)} (X:aM h Ts ρ) (K:Keeps mod h h') (n:aA h mod):aM h' Ts ρ:=
 X.same fun T hT o e c=>K.get T o e fun hm=>n T hm o e c
theorem aM.keepsF {h h':Heap} {mod:List Addr} {Ts:List Nat} {ρ:List (Nat × List Nat)} (X:aM h Ts ρ) (K:ak mod h h') (n:aA h mod):aM h' Ts ρ:=
 X.same fun T hT o e c=>(K.get T (fun hm=>n T hm o e c) o e).1 (by rw [c];decide)
theorem aM.len {h:Heap}:∀ {Ts:List Nat} {ρ:List (Nat × List Nat)},aM h Ts ρ→Ts.length=ρ.length
 | [],[],_=>rfl
 | [],_::_,X=>X.elim
 | _::_,[],X=>X.elim
 | T::Ts,p::ps,X=>by simp [X.2.len]
theorem aM.snoc {h:Heap} {T:Nat} {p:Nat × List Nat} (e:∃ t u,h.get? T=some (cu p.1 t p.2 u)):∀ {Ts:List Nat} {ρ:List (Nat × List Nat)},aM h Ts ρ→aM h (Ts++[T]) (ρ++[p])
 | [],[],_=>⟨e,trivial⟩
 | [],_::_,X=>X.elim
 | _::_,[],X=>X.elim
 | T'::Ts,p'::ps,X=>⟨X.1,aM.snoc e X.2⟩
theorem aA.of {h:Heap} {m:List Addr} (z:∀ a∈m,∃ o,h.get? a=some o∧o.cls≠.type "tuple"):aA h m:=fun a ha o e=>by
 obtain ⟨o',e',ne⟩:=z a ha
 rw [e] at e'
 exact Option.some.inj e' ▸ ne
theorem Keeps.late {h h1 h2:Heap} {m m':List Addr} (a:Keeps m h h1) (b:Keeps m' h1 h2) (lo:∀ e∈m',h.objs.size≤e):Keeps m h h2:=⟨Nat.le_trans a.size b.size,fun x o e hx=>b.get x o (a.get x o e hx) fun hm=>absurd (lo x hm) (Nat.not_le.mpr (Heap.lt_size e))⟩
structure aJ (h:Heap) (a:Nat) (ρ:List (Nat × List Nat)) (Ts:List Nat):Prop where
 list:∃ c,h.get? a=some (aj (Ts.map Value.ref).toArray c)
 items:aM h Ts ρ
 lo:∀ x∈a::Ts,845≤x
 nd:Ts.Nodup
noncomputable def rowOf (cs:List Nat):List (Nat × List Nat):=(List.range 6).map fun b=>aP b cs
theorem yd {loc itR row t1 I5:Nat} {piece:Str} {pc:Nat} {gk:List Nat} (hA:A.handled=none) (hD:A.depth+1<recursionLimit) (ll:845≤loc) (lr:845≤row) (li:845≤itR) (ne:loc≠row) (nl:itR≠loc) (nr:itR≠row) (sg:∀ c∈piece.cps.toList,c∈sgn) (hp:piece.cps.toList=pc::gk) (hl:2*piece.cps.toList.length<9000) :
  ∀ (m b:Nat) {c:Nat} {Ts:List Nat} {k:Nat→Nat} {b0 o0 s0 wX wY:Value} {h:Heap} {tk:Nat},b+m=6→au w h→I5≤h.objs.size→h.get? itR=some (wW (Int.ofNat b) (Int.ofNat m))→h.get? loc=some (bB w.params aY k [.str piece t1,.ref row,b0,o0,s0,wX,wY]) →
   h.get? row=some (aj (Ts.map Value.ref).toArray c)→aM h Ts ((List.range b).map fun i=>aP i piece.cps.toList)→(∀ T∈Ts,I5≤T)→Ts.Nodup →
   (∀ h' tk' k' c' wZ b0 o0 s0 wX wY,Keeps [itR,loc,row] h h'→h'.get? loc=some (bB w.params aY k' [.str piece t1,.ref row,b0,o0,s0,wX,wY])→h'.get? row=some (aj (wZ.map Value.ref).toArray c')→aM h' wZ (rowOf piece.cps.toList)→(∀ T∈wZ,I5≤T)→wZ.Nodup→R (.ok .next) ⟨h',g,d,tk',os⟩) →
   codeAny (model pw w) A (iH loc itR) R ⟨h,g,d,tk,os⟩:=by
 intro m
 induction m with
 | zero=>
  intro b c Ts k b0 o0 s0 wX wY h tk e kk hlo gi gl gr X lo nd post
  have hb:b=6:=by lia
  subst hb
  refine cg (kE hA gi (by simp) fun h' K'=>?_)
  have RK:=K'.get loc _ gl (cZ (Ne.symm nl))
  have gr':=K'.get row _ gr (cZ (Ne.symm nr))
  refine post h' tk k c Ts b0 o0 s0 wX wY ⟨K'.size,fun b o eo hb=>K'.get b o eo (by simp at hb ⊢;exact hb.1)⟩ RK gr' (X.keeps K' (aA.of ?_)) lo nd
  simp only [mem_singleton,forall_eq]
  exact ⟨_,gi,(by show Value.type "range_iterator" ≠ .type "tuple";decide)⟩
 | succ m ih=>
  intro b c Ts k b0 o0 s0 wX wY h tk e kk hlo gi gl gr X lo nd post
  refine cg (iG gi (by show (0:Int)<Int.ofNat (m+1);first | (simp;done) | (simp;lia)) fun h1 K1 jK=>?_)
  have fP:=K1.get loc _ gl (cZ (Ne.symm nl))
  have Nq:=K1.get row _ gr (cZ (Ne.symm nr))
  have n0:aA h [itR]:=aA.of (by
   simp only [mem_singleton,forall_eq]
   exact ⟨_,gi,(by show Value.type "range_iterator" ≠ .type "tuple";decide)⟩)
  have X1:=X.keeps K1 n0
  have len:Ts.length=b:=by have:=X.len;simpa using this
  refine zV (b:=b) (by lia) hA hD (K1.kok kk (bK li)) ll lr ne sg hp hl (by simp;lia) fP Nq ?_
  intro h2 tk2 k2 bg ta tb v6 v7 T t u K2 dX Px lT gT
  have DP:=K2.get itR _ jK (by simp [nl,nr])
  have n1:aA h1 [loc,row]:=aA.of (by
   simp only [mem_cons,not_mem_nil,or_false,forall_eq_or_imp,forall_eq]
   exact ⟨⟨_,fP,(by show Value.type "frame" ≠ .type "tuple";decide)⟩,⟨_,Nq,(by show Value.type "list" ≠ .type "tuple";decide)⟩⟩)
  have X2:=aM.snoc (p:=aP b piece.cps.toList) ⟨t,u,gT⟩ (X1.keeps K2 n1)
  have nJ:Keeps [itR,loc,row] h h2:=⟨Nat.le_trans K1.size K2.size,fun b o eo hb=>K2.get b o (K1.get b o eo (by simp at hb ⊢;exact hb.1)) (by simp at hb ⊢;exact hb.2)⟩
  have Nr:h2.get? itR=some (wW (Int.ofNat (b+1)) (Int.ofNat m)):=by
   rw [DP]
   simp only [wW,Int.ofNat_eq_natCast]
   congr 6 <;> simp <;> lia
  refine ih (b+1) (by lia) (nJ.kok kk (by simp [li,ll,lr])) (Nat.le_trans hlo nJ.size) Nr dX (Ts:=Ts++[T]) (c:=c+1) (by simpa using Px) (by rw [List.range_succ,List.map_append];exact X2) (fun T' hT'=>?_) ?_ ?_
  ·rcases List.mem_append.mp hT' with x | x
   ·exact lo T' x
   ·rw [mem_singleton] at x
    rw [x]
    exact Nat.le_trans hlo (Nat.le_trans K1.size lT)
  ·rw [List.nodup_append]
   refine ⟨nd,Kv,fun x hx y hy=>?_⟩
   rw [mem_singleton] at hy
   rw [hy]
   obtain ⟨_,_,_,ex⟩:=X1.get x hx
   exact Nat.ne_of_lt (Nat.lt_of_lt_of_le (Heap.lt_size ex) lT)
  ·intro h3 tk3 k3 c3 Ts3 b3 o3 s3 v63 v73 K3 iz Nt X3 BJ I6
   exact post h3 tk3 k3 c3 Ts3 _ _ _ _ _ (nJ.trans K3) iz Nt X3 BJ I6
theorem yg {loc itR row t1 I5:Nat} {piece:Str} (hA:A.handled=none) (hD:A.depth+1<recursionLimit) (ll:845≤loc) (lr:845≤row) (li:845≤itR) (ne:loc≠row) (nl:itR≠loc) (nr:itR≠row) (sg:∀ c∈piece.cps.toList,c∈sgn) (hp:piece.cps.toList=[]) (hl:2*piece.cps.toList.length<9000) :
  ∀ (m b:Nat) {c:Nat} {Ts:List Nat} {k:Nat→Nat} {b0 o0 s0:Value} {h:Heap} {tk:Nat},b+m=6→au w h→I5≤h.objs.size→h.get? itR=some (wW (Int.ofNat b) (Int.ofNat m))→h.get? loc=some (bB w.params aY k [.str piece t1,.ref row,b0,o0,s0]) →
   h.get? row=some (aj (Ts.map Value.ref).toArray c)→aM h Ts ((List.range b).map fun i=>aP i piece.cps.toList)→(∀ T∈Ts,I5≤T)→Ts.Nodup →
   (∀ h' tk' k' c' wZ b0 o0 s0,Keeps [itR,loc,row] h h'→h'.get? loc=some (bB w.params aY k' [.str piece t1,.ref row,b0,o0,s0])→h'.get? row=some (aj (wZ.map Value.ref).toArray c')→aM h' wZ (rowOf piece.cps.toList)→(∀ T∈wZ,I5≤T)→wZ.Nodup→R (.ok .next) ⟨h',g,d,tk',os⟩) →
   codeAny (model pw w) A (iH loc itR) R ⟨h,g,d,tk,os⟩:=by
 intro m
 induction m with
 | zero=>
  intro b c Ts k b0 o0 s0 h tk e kk hlo gi gl gr X lo nd post
  have hb:b=6:=by lia
  subst hb
  refine cg (kE hA gi (by simp) fun h' K'=>?_)
  have RK:=K'.get loc _ gl (cZ (Ne.symm nl))
  have gr':=K'.get row _ gr (cZ (Ne.symm nr))
  refine post h' tk k c Ts b0 o0 s0 ⟨K'.size,fun b o eo hb=>K'.get b o eo (by simp at hb ⊢;exact hb.1)⟩ RK gr' (X.keeps K' (aA.of ?_)) lo nd
  simp only [mem_singleton,forall_eq]
  exact ⟨_,gi,(by show Value.type "range_iterator" ≠ .type "tuple";decide)⟩
 | succ m ih=>
  intro b c Ts k b0 o0 s0 h tk e kk hlo gi gl gr X lo nd post
  refine cg (iG gi (by show (0:Int)<Int.ofNat (m+1);first | (simp;done) | (simp;lia)) fun h1 K1 jK=>?_)
  have fP:=K1.get loc _ gl (cZ (Ne.symm nl))
  have Nq:=K1.get row _ gr (cZ (Ne.symm nr))
  have n0:aA h [itR]:=aA.of (by
   simp only [mem_singleton,forall_eq]
   exact ⟨_,gi,(by show Value.type "range_iterator" ≠ .type "tuple";decide)⟩)
  have X1:=X.keeps K1 n0
  have len:Ts.length=b:=by have:=X.len;simpa using this
  refine zX (b:=b) (by lia) hA hD (K1.kok kk (bK li)) ll lr ne sg hp hl (by simp;lia) fP Nq ?_
  intro h2 tk2 k2 bg ta tb T t u K2 dX Px lT gT
  have DP:=K2.get itR _ jK (by simp [nl,nr])
  have n1:aA h1 [loc,row]:=aA.of (by
   simp only [mem_cons,not_mem_nil,or_false,forall_eq_or_imp,forall_eq]
   exact ⟨⟨_,fP,(by show Value.type "frame" ≠ .type "tuple";decide)⟩,⟨_,Nq,(by show Value.type "list" ≠ .type "tuple";decide)⟩⟩)
  have X2:=aM.snoc (p:=aP b piece.cps.toList) ⟨t,u,gT⟩ (X1.keeps K2 n1)
  have nJ:Keeps [itR,loc,row] h h2:=⟨Nat.le_trans K1.size K2.size,fun b o eo hb=>K2.get b o (K1.get b o eo (by simp at hb ⊢;exact hb.1)) (by simp at hb ⊢;exact hb.2)⟩
  have Nr:h2.get? itR=some (wW (Int.ofNat (b+1)) (Int.ofNat m)):=by
   rw [DP]
   simp only [wW,Int.ofNat_eq_natCast]
   congr 6 <;> simp <;> lia
  refine ih (b+1) (by lia) (nJ.kok kk (by simp [li,ll,lr])) (Nat.le_trans hlo nJ.size) Nr dX (Ts:=Ts++[T]) (c:=c+1) (by simpa using Px) (by rw [List.range_succ,List.map_append];exact X2) (fun T' hT'=>?_) ?_ ?_
  ·rcases List.mem_append.mp hT' with x | x
   ·exact lo T' x
   ·rw [mem_singleton] at x
    rw [x]
    exact Nat.le_trans hlo (Nat.le_trans K1.size lT)
  ·rw [List.nodup_append]
   refine ⟨nd,Kv,fun x hx y hy=>?_⟩
   rw [mem_singleton] at hy
   rw [hy]
   obtain ⟨_,_,_,ex⟩:=X1.get x hx
   exact Nat.ne_of_lt (Nat.lt_of_lt_of_le (Heap.lt_size ex) lT)
  ·intro h3 tk3 k3 c3 Ts3 b3 o3 s3 K3 iz Nt X3 BJ I6
   exact post h3 tk3 k3 c3 Ts3 _ _ _ (nJ.trans K3) iz Nt X3 BJ I6
def RL (w:World) (n tk:Nat) (piece:Str) (ts:Nat):Rs:=aQ w [] 813 (Q5 w.params) ⟨[.str piece ts],[]⟩ [] n tk [0,1,1] (og 0x1111110101110101100000022)
theorem Gq {piece:Str} {ts:Nat} (hA:A.handled=none) (hD:A.depth+2<recursionLimit) (kk:au w h) (sg:∀ c∈piece.cps.toList,c∈sgn) (hl:2*piece.cps.toList.length<9000)
  (post:∀ h' tk' a Ts,Keeps [] h h'→aJ h' a (rowOf piece.cps.toList) Ts→(∀ x∈a::Ts,h.objs.size≤x)→R (.ok (.ret (.ref a))) ⟨h',g,d,tk',os⟩) :
  codeAny (model pw w) A (.call (.ref 813) ⟨[.str piece ts],[]⟩) R ⟨h,g,d,tk,os⟩:=by
 obtain ⟨n0,R0⟩:=(Rep.nil kk).up
 have dW:h.objs.size=n0+845:=R0.size
 refine dJ (RL w (n0+845) tk piece ts) .nil hA (by lia) R0 (n:=1) (c:=iH (n0+845) (n0+845+1+1+1)) (by symm) (by symm) (by symm) ?_ rfl
 intro A1 h1 bT hD1 R1
 have cN:=R1.cast (L':=[(n0+845+1+1+1,wW 0 6),(n0+845+1+1,lo (RL w (n0+845) tk piece ts).L 1),(n0+845+1,aj #[] 0),(n0+845,bB w.params aY (kOf (RL w (n0+845) tk piece ts).L 3) [.str piece ts,.ref (n0+845+1)])]) (by symm)
 have jK:=cN.at (a:=n0+845+1+1+1) (o:=wW 0 6) 0 rfl
 have Nq:=cN.at (a:=n0+845+1) (o:=aj #[] 0) 2 rfl
 have fP:=cN.at (a:=n0+845) 3 rfl
 have K1:=cN.fresh.1
 refine cg (iG jK (by decide) fun h2 K2 DP=>?_)
 have dX:=K2.get _ _ fP (by simp)
 have Px:=K2.get _ _ Nq (by simp)
 have low:∀ a,n0+845≤a→h.objs.size≤a:=fun a ha=>by rw [dW];exact ha
 cases hp:piece.cps.toList with
 | cons pc gk=>
  refine zU (b:=0) (by lia) bT (by lia) (K2.kok R1.old (by simp)) (by lia) (by lia) (by simp) sg hp hl (by simp) dX Px ?_
  intro h3 tk3 k3 bg ta tb v6 v7 T t u K3 iz Nt lT gT
  have Gp:=K3.get _ _ DP (by simp)
  have mz:Keeps [n0+845+1+1+1,n0+845,n0+845+1] h1 h3:=⟨Nat.le_trans K2.size K3.size,fun b o eo hb=>K3.get b o (K2.get b o eo (by simp at hb ⊢;exact hb.1)) (by simp at hb ⊢;exact hb.2)⟩
  refine yd (I5:=h1.objs.size) bT (by lia) (by lia) (by lia) (by lia) (by simp) (by simp) (by simp) sg hp hl 5 1 (Ts:=[T]) (c:=1) (by lia) (mz.kok R1.old (by simp)) mz.size Gp iz (by simpa using Nt) ⟨⟨t,u,gT⟩,trivial⟩ (by simp only [mem_singleton,forall_eq];exact Nat.le_trans K2.size lT) Kv ?_
  intro h4 tk4 k4 c4 Ts4 b0 o0 s0 wX wY K4 jc gr4 X4 Fv nd4
  have kO:Keeps [] h h4:=K1.late (mz.trans K4) (by simp only [mem_cons,not_mem_nil,or_false,forall_eq_or_imp,forall_eq];exact ⟨low _ (by lia),low _ (by lia),low _ (by lia)⟩)
  have Vj:au w h4:=kO.kok kk aX
  have dK:∀ q∈([(n0+845,bB w.params aY k4 [.str piece ts,.ref (n0+845+1),b0,o0,s0,wX,wY])]:Led),h4.get? q.1=some q.2:=bK jc
  obtain ⟨n4,R4⟩:=(Rep.start Vj dK fV (by simp)).up
  refine cI (aB w [] (RL w (n0+845) tk piece ts) (.ok .next) [(n0+845,bB w.params aY k4 [.str piece ts,.ref (n0+845+1),b0,o0,s0,wX,wY])] (n4+845) tk4 [1]) .nil hA R4 (y:=.ok (.ret (.ref (n0+845+1)))) (by symm) (fun h5 R5=>?_) rfl
  have K5:Keeps [] h4 h5:=(R5.done 0 (G':=[(n0+845,bB w.params aY k4 [.str piece ts,.ref (n0+845+1),b0,o0,s0,wX,wY])]) (mod:=[]) (by symm) rfl dK (by simp)).1
  exact post h5 _ (n0+845+1) Ts4 (kO.trans K5) ⟨⟨c4,K5.get _ _ gr4 not_mem_nil⟩,X4.keeps K5 (by simp [aA]),by
   intro x hx
   rcases List.mem_cons.mp hx with rfl | hx
   ·lia
   ·exact Nat.le_trans (au.size (w:=w) R1.old) (Fv x hx),nd4⟩ (by
   intro x hx
   rcases List.mem_cons.mp hx with rfl | hx
   ·exact low _ (by lia)
   ·exact Nat.le_trans K1.size (Fv x hx))
 | nil=>
  refine zW (b:=0) (by lia) bT (by lia) (K2.kok R1.old (by simp)) (by lia) (by lia) (by simp) sg hp hl (by simp) dX Px ?_
  intro h3 tk3 k3 bg ta tb T t u K3 iz Nt lT gT
  have Gp:=K3.get _ _ DP (by simp)
  have mz:Keeps [n0+845+1+1+1,n0+845,n0+845+1] h1 h3:=⟨Nat.le_trans K2.size K3.size,fun b o eo hb=>K3.get b o (K2.get b o eo (by simp at hb ⊢;exact hb.1)) (by simp at hb ⊢;exact hb.2)⟩
  refine yg (I5:=h1.objs.size) bT (by lia) (by lia) (by lia) (by lia) (by simp) (by simp) (by simp) sg hp hl 5 1 (Ts:=[T]) (c:=1) (by lia) (mz.kok R1.old (by simp)) mz.size Gp iz (by simpa using Nt) ⟨⟨t,u,gT⟩,trivial⟩ (by simp only [mem_singleton,forall_eq];exact Nat.le_trans K2.size lT) Kv ?_
  intro h4 tk4 k4 c4 Ts4 b0 o0 s0 K4 jc gr4 X4 Fv nd4
  have kO:Keeps [] h h4:=K1.late (mz.trans K4) (by simp only [mem_cons,not_mem_nil,or_false,forall_eq_or_imp,forall_eq];exact ⟨low _ (by lia),low _ (by lia),low _ (by lia)⟩)
  have Vj:au w h4:=kO.kok kk aX
  have dK:∀ q∈([(n0+845,bB w.params aY k4 [.str piece ts,.ref (n0+845+1),b0,o0,s0])]:Led),h4.get? q.1=some q.2:=bK jc
  obtain ⟨n4,R4⟩:=(Rep.start Vj dK fV (by simp)).up
  refine cI (aB w [] (RL w (n0+845) tk piece ts) (.ok .next) [(n0+845,bB w.params aY k4 [.str piece ts,.ref (n0+845+1),b0,o0,s0])] (n4+845) tk4 [1]) .nil hA R4 (y:=.ok (.ret (.ref (n0+845+1)))) (by symm) (fun h5 R5=>?_) rfl
  have K5:Keeps [] h4 h5:=(R5.done 0 (G':=[(n0+845,bB w.params aY k4 [.str piece ts,.ref (n0+845+1),b0,o0,s0])]) (mod:=[]) (by symm) rfl dK (by simp)).1
  exact post h5 _ (n0+845+1) Ts4 (kO.trans K5) ⟨⟨c4,K5.get _ _ gr4 not_mem_nil⟩,X4.keeps K5 (by simp [aA]),by
   intro x hx
   rcases List.mem_cons.mp hx with rfl | hx
   ·lia
   ·exact Nat.le_trans (au.size (w:=w) R1.old) (Fv x hx),nd4⟩ (by
   intro x hx
   rcases List.mem_cons.mp hx with rfl | hx
   ·exact low _ (by lia)
   ·exact Nat.le_trans K1.size (Fv x hx))
def dh (P:Params) (ns:List String) (k:Nat→Nat) (vs:List Value):Obj:=⟨.type "dict",none,.dict ⟨ents P ns vs k 0⟩ vs.length,⟨[]⟩⟩
noncomputable def yh (a:Nat):Obj:=⟨.type "cell",none,.cell (some (.ref a)),⟨[]⟩⟩
noncomputable def jo (e:Expr):Expr:=(ev e).1
noncomputable def rG (e:Expr):Expr:=((ev e).2.2.1.map (·.target)).headD default
noncomputable def ad9 (e:Expr):Expr:=((ev e).2.2.1.map (·.iter)).headD default
noncomputable def I7 (e:Expr):Scope:=(ev e).2.2.2.1
noncomputable def RM (e:Expr):Pos:=Kw e
noncomputable def jd (e:Expr):Expr:=.ListComp (jo e) [⟨rG e,ad9 e,[],0⟩] (I7 e) (RM e)
noncomputable def ae0 (s:Stmt):Expr:=Eb s
noncomputable def jL:Expr:=ae0 (gC (iJ (fs 34)) 0)
theorem dO {l c t:Nat} {k:Int} {vs:Array Value} {x:Value} (hl:h.get? l=some (aj vs c)) (h0:0≤k) (hf:Builtin.List.listFitsIndex k=true) (hx:vs[k.toNat]? = some x) (post:R (.ok (.ret x)) ⟨h,g,d,tk,os⟩) :
  codeAny (model pw w) A (.call (.builtin "list.__getitem__") ⟨[.ref l,.int k t],[]⟩) R ⟨h,g,d,tk,os⟩:=by
 have hT:Shared.TypeIs ⟨h,g,d,tk,os⟩ (.ref l) "list" := ⟨_,hl,rfl⟩
 refine codeAny_call_builtin slot_list_getitem.plain entry_list_getitem (slot_list_getitem.check _ _ _ _ _ _ _ _ hT (args_list_getitem _ _) ?_)
 show wpAny _ _ (Builtin.List.listSubscript? (.int k t) >>= _) _ _ _
 refine wpAny_bind (wpAny_listSubscript_int hf ?_)
 clear hf
 obtain ⟨j,rfl⟩:=Int.eq_ofNat_of_zero_le h0
 have hx':vs[j]? = some x:=hx
 show wpAny _ _ ((seqItemAt l j >>= fun r=>pure (r.map (j,·))) >>= _) _ _ _
 refine wpAny_bind (wpAny_bind (wpAny_seqItemAt hl rfl (wpAny_pure ?_)))
 rw [hx']
 first
  | exact wpAny_bind (wpAny_pure (wpAny_pure post))
  | exact wpAny_pure post
theorem Gr {i:Nat} (hi:i<100000):Builtin.List.listFitsIndex (Int.ofNat i)=true:=by
 unfold Builtin.List.listFitsIndex
 simp only [Bool.and_eq_true,decide_eq_true_eq,Int.ofNat_eq_natCast]
 lia
theorem bU {l c i t:Nat} {vs:Array Value} {x:Value} (hl:h.get? l=some (aj vs c)) (hx:vs[i]? = some x) (hi:i<100000) (post:R (.ok (.ret x)) ⟨h,g,d,tk,os⟩) :
  codeAny (model pw w) A (.call (.builtin "list.__getitem__") ⟨[.ref l,.int (Int.ofNat i) t],[]⟩) R ⟨h,g,d,tk,os⟩:=
 dO hl (Int.natCast_nonneg i) (Gr hi) hx post
noncomputable def I8:List String:=["state","out"]
noncomputable def RN (e:Expr):Scope:={I7 e with names:=(I7 e).names.map fun x=>match x with | (n,.free)=>(n,.cell) | y=>y}
noncomputable def wB (loc cl ce:Nat):Env:={scope:=RN jL,locals:=cl,globals:=3,cells:=[(lits "second",ce)],qual:=lits "_law_joined.<locals>.",func:=none,code:=.ref 817,frame:=some loc,builtins:=0}
noncomputable def vC (loc cl ce it acc:Nat):Code:=.compLoop (jd jL) 0 (.ref it) (.ref acc) (wB loc cl ce)
def jq (P:Params) (k:Nat→Nat) (vals:List Value) (cl ce s2 U T it a1 i c2:Nat) (gA:List Nat) (q p:Nat × List Nat) (q1 q2 p1 p2:Nat):Led:=
 [(cl,dh P I8 k vals),(ce,yh s2),(s2,aj (gA.map Value.ref).toArray c2),(U,cu q.1 q1 q.2 q2),(T,cu p.1 p1 p.2 p2),(it,jN a1 i)]
def Vk (w:World) (n tk:Nat) (loc cl ce it acc T:Nat) (L:Led):Rs:=bL w [] (jl (jo jL) (rG jL) (.ref it) (.ref acc) (.ref T) (wB loc cl ce) (jd jL)) L n tk (og 0x11666454444111611010111611010111611010110505556)
def Vl (w:World) (n tk:Nat) (q:Rs) (U:Nat):Rs:=aB w [] q (.ok (.ret (.ref U))) q.L n tk (og 0x1166645407070777)
def jP (w:World) (H:List Hk) (n tk:Nat) (q:Rs) (U:Nat) (aC:List Nat):Rs:=aB w H q (.ok (.ret (.ref U))) q.L n tk aC
def Vm (w:World) (n tk:Nat) (q:Rs) (L:Led):Rs:=aB w [] q (.ok (.ret .none)) L n tk [1]
noncomputable def jY (ρ2:List (Nat × List Nat)) (p:Nat × List Nat):Nat × List Nat:=let q:=(ρ2[p.1]?).getD (0,[]);(q.1,p.2++q.2)
theorem Rep.rest {K:Nat→Option Obj} {h₀ h:Heap} {gv:List Addr} {L:Led} {nx:Nat} (R:Rep K h₀ gv L nx h) {b:Addr} {o:Obj} (e:h₀.get? b=some o) (nb:b∉gv):h.get? b=some o:=
 R.frame b o e fun hm=>by
  obtain ⟨p,hp,rfl⟩:=List.mem_map.mp hm
  rcases R.new p hp with x | x
  ·exact nb x
  ·exact absurd (Heap.lt_size e) (Nat.not_lt.mpr x)
theorem Keeps.mono {m m':List Addr} {h h':Heap} (a:Keeps m h h') (hm:∀ b∈m,b∈m'):Keeps m' h h':=⟨a.size,fun b o e hb=>a.get b o e fun x=>hb (hm b x)⟩
theorem Keeps.to {m:List Addr} {h h1 h2:Heap} {m1 m2:List Addr} (a:Keeps m1 h h1) (b:Keeps m2 h1 h2) (q1:∀ x∈m1,x∈m∨h.objs.size≤x) (q2:∀ x∈m2,x∈m∨h.objs.size≤x):Keeps m h h2:=⟨Nat.le_trans a.size b.size,fun x o e hx=>by
 have f:∀ {l:List Addr},(∀ x∈l,x∈m∨h.objs.size≤x)→x∉l:=fun q hm=>(q x hm).elim hx fun z=>absurd (Heap.lt_size e) (Nat.not_lt.mpr z)
 exact b.get x o (a.get x o e (f q1)) (f q2)⟩
noncomputable abbrev Nu (w:World) (g:Array GenState) (d:Drawn) (os:OsState) (A:Around) (R:Result→Shared→Prop) (h:Heap) (loc cl ce it acc c:Nat) (vs:Array Value) (p q:Nat × List Nat):Prop:=
 ∀ h' tk' k' s' o' V t u,Keeps [cl,acc] h h'→h'.get? cl=some (dh w.params I8 k' [s',o'])→h'.get? acc=some (aj (vs.push (.ref V)) (c+1))→h.objs.size≤V→h'.get? V=some (cu q.1 t (p.2++q.2) u)→codeAny (model pw w) A (vC loc cl ce it acc) R ⟨h',g,d,tk',os⟩
noncomputable def DR (L:Led) (i j:Nat):Value:=match L[i]? with
 | some (_,o)=>match o.data with
  | .dict es _=>match es.toList[j]? with
   | some e=>e.val
   | none=>.none
  | _=>.none
 | none=>.none
theorem yj {loc cl ce it acc a1 s2 U T i c2 c q1 q2 p1 p2:Nat} {gA:List Nat} {k:Nat→Nat} {vs:Array Value} {p q:Nat × List Nat} (hA:A.handled=none) (kk:au w h) (nd:([cl,ce,s2,U,T,it]:List Nat).Nodup) (low:∀ x∈([cl,ce,s2,U,T,it]:List Nat),845≤x) (la:845≤acc) (na:acc∉([cl,ce,s2,U,T,it]:List Nat))
  (own:∀ y∈jq w.params k [] cl ce s2 U T it a1 i c2 gA q p q1 q2 p1 p2,h.get? y.1=some y.2) (ga:h.get? acc=some (aj vs c)) (hz:vs.size≤1000)
  (hx:gA[p.1]? = some U) (hp:p.1<100000) (hl:p.2.length+q.2.length<20000) (post:Nu w g d os A R h loc cl ce it acc c vs p q) :
  wpAny (model pw w) A (jl (jo jL) (rG jL) (.ref it) (.ref acc) (.ref T) (wB loc cl ce) (jd jL)) (FQ w A R) (NE w A (wB loc cl ce) R) ⟨h,g,d,tk,os⟩:=by
 obtain ⟨pa,pb⟩:=p
 obtain ⟨qa,qb⟩:=q
 obtain ⟨n0,R0⟩:=(Rep.start kk (L:=jq w.params k [] cl ce s2 U T it a1 i c2 gA (qa,qb) (pa,pb) q1 q2 p1 p2) own nd (fun y hy=>low y.1 (mem_map_of_mem (f:=Prod.fst) hy))).up
 refine bA (Vk w (n0+845) tk loc cl ce it acc T (jq w.params k [] cl ce s2 U T it a1 i c2 gA (qa,qb) (pa,pb) q1 q2 p1 p2)) .nil hA R0 (n:=0) (c:=.call (.builtin "list.__getitem__") ⟨[.ref s2,.int (Int.ofNat pa) p1],[]⟩) (by symm) ?_ rfl
 intro A1 h1 bT hD1 R1
 revert R1;refine gen (Vk w (n0+845) tk loc cl ce it acc T (jq w.params k [] cl ce s2 U T it a1 i c2 gA (qa,qb) (pa,pb) q1 q2 p1 p2)) fun r1 eq1=>?_;intro R1
 have hx':(gA.map Value.ref).toArray[pa]? = some (.ref U):=by simpa using hx
 have g1:h1.get? s2=some (aj (gA.map Value.ref).toArray c2):=R1.at 5 (by refine sb eq1 ?_;symm)
 refine bU g1 hx' hp ?_
 obtain ⟨n1,lC⟩:=R1.up
 refine aK (Vl w (n1+845) r1.tk r1 U) .nil hA lC (n:=0) (c:=.call (.builtin "list.__getitem__") ⟨[.ref s2,.int (Int.ofNat pa) p1],[]⟩) (by refine sb eq1 ?_;symm) ?_ rfl
 intro A3 h3 iY lJ R3
 revert R3;refine gen (Vl w (n1+845) r1.tk r1 U) fun r2 eq2=>?_;intro R3
 have g3:h3.get? s2=some (aj (gA.map Value.ref).toArray c2):=R3.at 5 (by refine sb eq2 (sb eq1 ?_);symm)
 refine bU g3 hx' hp ?_
 obtain ⟨n3,wA⟩:=R3.up
 have finish:∀ (r3:Rs) (A5:Around) (h5:Heap) (k5:Nat→Nat) (s5 o5:Value) (V5 t5 u5:Nat),Rep (K w) h [cl,ce,s2,U,T,it] r3.L r3.nx h5 →
   r3.L.drop 4=jq w.params k5 [s5,o5] cl ce s2 U T it a1 i c2 gA (qa,qb) (pa,pb) q1 q2 p1 p2→r3.L[0]? = some (V5,cu qa t5 (pb++qb) u5)→h.objs.size≤V5 →
   (∀ n tk',cU (Vm w n tk' r3 []) (.again (vC loc cl ce it acc))) →
   codeAny (model pw w) A5 (.call (.builtin "list.append") ⟨[.ref acc,.ref V5],[]⟩) (fun r' s'=>Mn (xg w g d os A (FQ w A R) (NE w A (wB loc cl ce) R)) (aL r3) (aR r3 r') s') ⟨h5,g,d,r3.tk,os⟩:=by
  intro r3 A5 h5 k5 s5 o5 V5 t5 u5 R5 e1 e2 lV mX
  have fin:=R5.done 4 (G:=jq w.params k [] cl ce s2 U T it a1 i c2 gA (qa,qb) (pa,pb) q1 q2 p1 p2) (G':=jq w.params k5 [s5,o5] cl ce s2 U T it a1 i c2 gA (qa,qb) (pa,pb) q1 q2 p1 p2) (mod:=[cl]) e1 rfl own (by simp [jq])
  have ga5:=R5.rest ga na
  refine bO ga5 (by lia) ?_
  intro h6 K6 ga6
  have gc5:=fin.2 (cl,dh w.params I8 k5 [s5,o5]) (by simp [jq])
  have gc6:=K6.get cl _ gc5 (by simp only [mem_singleton];intro x;exact na (by rw [x];exact mem_cons_self))
  have k6:au w h6:=K6.kok R5.old (bK la)
  obtain ⟨n6,R6⟩:=(Rep.nil k6).up
  refine aO (Vm w (n6+845) _ r3 []) .nil hA R6 (mX _ _) ?_ rfl
  intro h7 R7
  have K7:=R7.fresh.1
  have gV:=K6.get V5 _ (R5.own (V5,cu qa t5 (pb++qb) u5) (List.mem_of_getElem? e2)) (by simp only [mem_singleton];intro x;exact absurd (Heap.lt_size ga) (Nat.not_lt.mpr (x ▸ lV)))
  refine ⟨rfl,post h7 _ k5 s5 o5 V5 t5 u5 (fin.1.to (K6.to (m:=[acc]) K7 (by simp) aX) (by simp) (by simp)) (K7.get _ _ gc6 not_mem_nil) (K7.get _ _ ga6 not_mem_nil) lV (K7.get _ _ gV not_mem_nil)⟩
 have lV:h.objs.size≤n3+845:=by rw [← wA.size];exact wA.grow
 cases pb with
 | nil=>
  refine aK (jP w [] (n3+845) r2.tk r2 U (og 0x110007070777)) .nil hA wA (n:=0) (c:=.call (.builtin "list.append") ⟨[.ref acc,.ref (n3+845)],[]⟩) (by refine sb eq2 (sb eq1 ?_);symm) ?_ rfl
  intro A5 h5 vY xM R5
  exact finish _ A5 h5 (kOf (jP w [] (n3+845) r2.tk r2 U (og 0x110007070777)).L 4) (DR (jP w [] (n3+845) r2.tk r2 U (og 0x110007070777)).L 4 0) (DR (jP w [] (n3+845) r2.tk r2 U (og 0x110007070777)).L 4 1) (n3+845) (gZ (jP w [] (n3+845) r2.tk r2 U (og 0x110007070777)).L 0 0) (gZ (jP w [] (n3+845) r2.tk r2 U (og 0x110007070777)).L 0 1) R5 (by refine sb eq2 (sb eq1 ?_);symm) (by refine sb eq2 (sb eq1 ?_);symm) lV (fun n tk'=>by refine sb eq2 (sb eq1 ?_);symm)
 | cons x0 xs=>
  cases qb with
  | nil=>
   rw [List.append_nil] at finish
   refine aK (jP w [] (n3+845) r2.tk r2 U (og 0x110007070777)) .nil hA wA (n:=0) (c:=.call (.builtin "list.append") ⟨[.ref acc,.ref (n3+845)],[]⟩) (by refine sb eq2 (sb eq1 ?_);symm) ?_ rfl
   intro A5 h5 vY xM R5
   exact finish _ A5 h5 (kOf (jP w [] (n3+845) r2.tk r2 U (og 0x110007070777)).L 4) (DR (jP w [] (n3+845) r2.tk r2 U (og 0x110007070777)).L 4 0) (DR (jP w [] (n3+845) r2.tk r2 U (og 0x110007070777)).L 4 1) (n3+845) (gZ (jP w [] (n3+845) r2.tk r2 U (og 0x110007070777)).L 0 0) (gZ (jP w [] (n3+845) r2.tk r2 U (og 0x110007070777)).L 0 1) R5 (by refine sb eq2 (sb eq1 ?_);symm) (by refine sb eq2 (sb eq1 ?_);symm) lV (fun n tk'=>by refine sb eq2 (sb eq1 ?_);symm)
  | cons y0 ys=>
   simp only [List.length_cons] at hl
   have hz:40000≤sizeLine:=by decide
   refine aK (jP w [hAdd (S (x0::xs)) (S (y0::ys)) (S (x0::xs++y0::ys))] (n3+845) r2.tk r2 U (og 0x11207070777)) (aF.cons (mG rfl (by simp [S]) (by simp [S]) (by simp [S,Str.length];lia)) aF.nil) hA wA (n:=0) (c:=.call (.builtin "list.append") ⟨[.ref acc,.ref (n3+845)],[]⟩) (by refine sb eq2 (sb eq1 ?_);symm) ?_ rfl
   intro A5 h5 vY xM R5
   exact finish _ A5 h5 (kOf (jP w [hAdd (S (x0::xs)) (S (y0::ys)) (S (x0::xs++y0::ys))] (n3+845) r2.tk r2 U (og 0x11207070777)).L 4) (DR (jP w [hAdd (S (x0::xs)) (S (y0::ys)) (S (x0::xs++y0::ys))] (n3+845) r2.tk r2 U (og 0x11207070777)).L 4 0) (DR (jP w [hAdd (S (x0::xs)) (S (y0::ys)) (S (x0::xs++y0::ys))] (n3+845) r2.tk r2 U (og 0x11207070777)).L 4 1) (n3+845) (gZ (jP w [hAdd (S (x0::xs)) (S (y0::ys)) (S (x0::xs++y0::ys))] (n3+845) r2.tk r2 U (og 0x11207070777)).L 0 0) (gZ (jP w [hAdd (S (x0::xs)) (S (y0::ys)) (S (x0::xs++y0::ys))] (n3+845) r2.tk r2 U (og 0x11207070777)).L 0 1) R5 (by refine sb eq2 (sb eq1 ?_);symm) (by refine sb eq2 (sb eq1 ?_);symm) lV (fun n tk'=>by refine sb eq2 (sb eq1 ?_);symm)
theorem yp {loc cl ce it acc a1 s2 U T i c2 c q1 q2 p1 p2:Nat} {gA:List Nat} {k:Nat→Nat} {vs:Array Value} {p q:Nat × List Nat} {b0 o0:Value} (hA:A.handled=none) (kk:au w h) (nd:([cl,ce,s2,U,T,it]:List Nat).Nodup) (low:∀ x∈([cl,ce,s2,U,T,it]:List Nat),845≤x) (la:845≤acc) (na:acc∉([cl,ce,s2,U,T,it]:List Nat))
  (own:∀ y∈jq w.params k [b0,o0] cl ce s2 U T it a1 i c2 gA q p q1 q2 p1 p2,h.get? y.1=some y.2) (ga:h.get? acc=some (aj vs c)) (hz:vs.size≤1000)
  (hx:gA[p.1]? = some U) (hp:p.1<100000) (hl:p.2.length+q.2.length<20000) (post:Nu w g d os A R h loc cl ce it acc c vs p q) :
  wpAny (model pw w) A (jl (jo jL) (rG jL) (.ref it) (.ref acc) (.ref T) (wB loc cl ce) (jd jL)) (FQ w A R) (NE w A (wB loc cl ce) R) ⟨h,g,d,tk,os⟩:=by
 obtain ⟨pa,pb⟩:=p
 obtain ⟨qa,qb⟩:=q
 obtain ⟨n0,R0⟩:=(Rep.start kk (L:=jq w.params k [b0,o0] cl ce s2 U T it a1 i c2 gA (qa,qb) (pa,pb) q1 q2 p1 p2) own nd (fun y hy=>low y.1 (mem_map_of_mem (f:=Prod.fst) hy))).up
 refine bA (Vk w (n0+845) tk loc cl ce it acc T (jq w.params k [b0,o0] cl ce s2 U T it a1 i c2 gA (qa,qb) (pa,pb) q1 q2 p1 p2)) .nil hA R0 (n:=0) (c:=.call (.builtin "list.__getitem__") ⟨[.ref s2,.int (Int.ofNat pa) p1],[]⟩) (by symm) ?_ rfl
 intro A1 h1 bT hD1 R1
 revert R1;refine gen (Vk w (n0+845) tk loc cl ce it acc T (jq w.params k [b0,o0] cl ce s2 U T it a1 i c2 gA (qa,qb) (pa,pb) q1 q2 p1 p2)) fun r1 eq1=>?_;intro R1
 have hx':(gA.map Value.ref).toArray[pa]? = some (.ref U):=by simpa using hx
 have g1:h1.get? s2=some (aj (gA.map Value.ref).toArray c2):=R1.at 5 (by refine sb eq1 ?_;symm)
 refine bU g1 hx' hp ?_
 obtain ⟨n1,lC⟩:=R1.up
 refine aK (Vl w (n1+845) r1.tk r1 U) .nil hA lC (n:=0) (c:=.call (.builtin "list.__getitem__") ⟨[.ref s2,.int (Int.ofNat pa) p1],[]⟩) (by refine sb eq1 ?_;symm) ?_ rfl
 intro A3 h3 iY lJ R3
 revert R3;refine gen (Vl w (n1+845) r1.tk r1 U) fun r2 eq2=>?_;intro R3
 have g3:h3.get? s2=some (aj (gA.map Value.ref).toArray c2):=R3.at 5 (by refine sb eq2 (sb eq1 ?_);symm)
 refine bU g3 hx' hp ?_
 obtain ⟨n3,wA⟩:=R3.up
 have finish:∀ (r3:Rs) (A5:Around) (h5:Heap) (k5:Nat→Nat) (s5 o5:Value) (V5 t5 u5:Nat),Rep (K w) h [cl,ce,s2,U,T,it] r3.L r3.nx h5 →
   r3.L.drop 4=jq w.params k5 [s5,o5] cl ce s2 U T it a1 i c2 gA (qa,qb) (pa,pb) q1 q2 p1 p2→r3.L[0]? = some (V5,cu qa t5 (pb++qb) u5)→h.objs.size≤V5 →
   (∀ n tk',cU (Vm w n tk' r3 []) (.again (vC loc cl ce it acc))) →
   codeAny (model pw w) A5 (.call (.builtin "list.append") ⟨[.ref acc,.ref V5],[]⟩) (fun r' s'=>Mn (xg w g d os A (FQ w A R) (NE w A (wB loc cl ce) R)) (aL r3) (aR r3 r') s') ⟨h5,g,d,r3.tk,os⟩:=by
  intro r3 A5 h5 k5 s5 o5 V5 t5 u5 R5 e1 e2 lV mX
  have fin:=R5.done 4 (G:=jq w.params k [b0,o0] cl ce s2 U T it a1 i c2 gA (qa,qb) (pa,pb) q1 q2 p1 p2) (G':=jq w.params k5 [s5,o5] cl ce s2 U T it a1 i c2 gA (qa,qb) (pa,pb) q1 q2 p1 p2) (mod:=[cl]) e1 rfl own (by simp [jq])
  have ga5:=R5.rest ga na
  refine bO ga5 (by lia) ?_
  intro h6 K6 ga6
  have gc5:=fin.2 (cl,dh w.params I8 k5 [s5,o5]) (by simp [jq])
  have gc6:=K6.get cl _ gc5 (by simp only [mem_singleton];intro x;exact na (by rw [x];exact mem_cons_self))
  have k6:au w h6:=K6.kok R5.old (bK la)
  obtain ⟨n6,R6⟩:=(Rep.nil k6).up
  refine aO (Vm w (n6+845) _ r3 []) .nil hA R6 (mX _ _) ?_ rfl
  intro h7 R7
  have K7:=R7.fresh.1
  have gV:=K6.get V5 _ (R5.own (V5,cu qa t5 (pb++qb) u5) (List.mem_of_getElem? e2)) (by simp only [mem_singleton];intro x;exact absurd (Heap.lt_size ga) (Nat.not_lt.mpr (x ▸ lV)))
  refine ⟨rfl,post h7 _ k5 s5 o5 V5 t5 u5 (fin.1.to (K6.to (m:=[acc]) K7 (by simp) aX) (by simp) (by simp)) (K7.get _ _ gc6 not_mem_nil) (K7.get _ _ ga6 not_mem_nil) lV (K7.get _ _ gV not_mem_nil)⟩
 have lV:h.objs.size≤n3+845:=by rw [← wA.size];exact wA.grow
 cases pb with
 | nil=>
  refine aK (jP w [] (n3+845) r2.tk r2 U (og 0x110007070777)) .nil hA wA (n:=0) (c:=.call (.builtin "list.append") ⟨[.ref acc,.ref (n3+845)],[]⟩) (by refine sb eq2 (sb eq1 ?_);symm) ?_ rfl
  intro A5 h5 vY xM R5
  exact finish _ A5 h5 (kOf (jP w [] (n3+845) r2.tk r2 U (og 0x110007070777)).L 4) (DR (jP w [] (n3+845) r2.tk r2 U (og 0x110007070777)).L 4 0) (DR (jP w [] (n3+845) r2.tk r2 U (og 0x110007070777)).L 4 1) (n3+845) (gZ (jP w [] (n3+845) r2.tk r2 U (og 0x110007070777)).L 0 0) (gZ (jP w [] (n3+845) r2.tk r2 U (og 0x110007070777)).L 0 1) R5 (by refine sb eq2 (sb eq1 ?_);symm) (by refine sb eq2 (sb eq1 ?_);symm) lV (fun n tk'=>by refine sb eq2 (sb eq1 ?_);symm)
 | cons x0 xs=>
  cases qb with
  | nil=>
   rw [List.append_nil] at finish
   refine aK (jP w [] (n3+845) r2.tk r2 U (og 0x110007070777)) .nil hA wA (n:=0) (c:=.call (.builtin "list.append") ⟨[.ref acc,.ref (n3+845)],[]⟩) (by refine sb eq2 (sb eq1 ?_);symm) ?_ rfl
   intro A5 h5 vY xM R5
   exact finish _ A5 h5 (kOf (jP w [] (n3+845) r2.tk r2 U (og 0x110007070777)).L 4) (DR (jP w [] (n3+845) r2.tk r2 U (og 0x110007070777)).L 4 0) (DR (jP w [] (n3+845) r2.tk r2 U (og 0x110007070777)).L 4 1) (n3+845) (gZ (jP w [] (n3+845) r2.tk r2 U (og 0x110007070777)).L 0 0) (gZ (jP w [] (n3+845) r2.tk r2 U (og 0x110007070777)).L 0 1) R5 (by refine sb eq2 (sb eq1 ?_);symm) (by refine sb eq2 (sb eq1 ?_);symm) lV (fun n tk'=>by refine sb eq2 (sb eq1 ?_);symm)
  | cons y0 ys=>
   simp only [List.length_cons] at hl
   have hz:40000≤sizeLine:=by decide
   refine aK (jP w [hAdd (S (x0::xs)) (S (y0::ys)) (S (x0::xs++y0::ys))] (n3+845) r2.tk r2 U (og 0x11207070777)) (aF.cons (mG rfl (by simp [S]) (by simp [S]) (by simp [S,Str.length];lia)) aF.nil) hA wA (n:=0) (c:=.call (.builtin "list.append") ⟨[.ref acc,.ref (n3+845)],[]⟩) (by refine sb eq2 (sb eq1 ?_);symm) ?_ rfl
   intro A5 h5 vY xM R5
   exact finish _ A5 h5 (kOf (jP w [hAdd (S (x0::xs)) (S (y0::ys)) (S (x0::xs++y0::ys))] (n3+845) r2.tk r2 U (og 0x11207070777)).L 4) (DR (jP w [hAdd (S (x0::xs)) (S (y0::ys)) (S (x0::xs++y0::ys))] (n3+845) r2.tk r2 U (og 0x11207070777)).L 4 0) (DR (jP w [hAdd (S (x0::xs)) (S (y0::ys)) (S (x0::xs++y0::ys))] (n3+845) r2.tk r2 U (og 0x11207070777)).L 4 1) (n3+845) (gZ (jP w [hAdd (S (x0::xs)) (S (y0::ys)) (S (x0::xs++y0::ys))] (n3+845) r2.tk r2 U (og 0x11207070777)).L 0 0) (gZ (jP w [hAdd (S (x0::xs)) (S (y0::ys)) (S (x0::xs++y0::ys))] (n3+845) r2.tk r2 U (og 0x11207070777)).L 0 1) R5 (by refine sb eq2 (sb eq1 ?_);symm) (by refine sb eq2 (sb eq1 ?_);symm) lV (fun n tk'=>by refine sb eq2 (sb eq1 ?_);symm)
theorem aM.at {h:Heap}:∀ {Ts:List Nat} {ρ:List (Nat × List Nat)} {j:Nat} {q:Nat × List Nat},aM h Ts ρ→ρ[j]? = some q→∃ U,Ts[j]? = some U∧∃ t u,h.get? U=some (cu q.1 t q.2 u)
 | [],[],_,_,_,e=>by simp at e
 | [],_::_,_,_,X,_=>X.elim
 | _::_,[],_,_,X,_=>X.elim
 | T::Ts,p::ps,0,q,X,e=>by
  simp at e
  subst e
  exact ⟨T,rfl,X.1⟩
 | T::Ts,p::ps,j+1,q,X,e=>by
  have:=aM.at X.2 (j:=j) (by simpa using e)
  simpa using this
theorem ne_of_cls {h:Heap} {a b:Nat} {o o':Obj} (ha:h.get? a=some o) (hb:h.get? b=some o') (ne:o.cls≠o'.cls):a≠b:=fun e=>by
 rw [e,hb] at ha
 exact ne (congrArg Obj.cls (Option.some.inj ha)).symm
structure Nv (w:World) (h:Heap) (k:Nat→Nat) (vals:List Value) (cl ce s2 it a1 i acc c:Nat) (Vs qt gA:List Nat) (ρ1 ρ2 done:List (Nat × List Nat)):Prop where
 cl:h.get? cl=some (dh w.params I8 k vals)
 ce:h.get? ce=some (yh s2)
 it:h.get? it=some (jN a1 i)
 acc:h.get? acc=some (aj (Vs.map Value.ref).toArray c)
 r1:aJ h a1 ρ1 qt
 r2:aJ h s2 ρ2 gA
 vs:aM h Vs done
theorem Nv.own {k:Nat→Nat} {vals:List Value} {cl ce s2 it a1 i acc c:Nat} {Vs qt gA:List Nat} {ρ1 ρ2 done:List (Nat × List Nat)} (X:Nv w h k vals cl ce s2 it a1 i acc c Vs qt gA ρ1 ρ2 done) {U T c2:Nat} {q p:Nat × List Nat} {q1 q2 p1 p2 i':Nat}
  (g2:h.get? s2=some (aj (gA.map Value.ref).toArray c2)) (gU:h.get? U=some (cu q.1 q1 q.2 q2)) (gT:h.get? T=some (cu p.1 p1 p.2 p2)) (gi:h.get? it=some (jN a1 i')) :
  ∀ y∈jq w.params k vals cl ce s2 U T it a1 i' c2 gA q p q1 q2 p1 p2,h.get? y.1=some y.2:=by
 intro y hy
 simp only [jq,mem_cons,not_mem_nil,or_false] at hy
 rcases hy with rfl | rfl | rfl | rfl | rfl | rfl
 ·exact X.cl
 ·exact X.ce
 ·exact g2
 ·exact gU
 ·exact gT
 ·exact gi
theorem CK {loc cl ce it acc a1 s2 i c:Nat} {Vs qt gA:List Nat} {ρ1 ρ2 done:List (Nat × List Nat)} {k:Nat→Nat} {vals:List Value} {p:Nat × List Nat} (hv:vals=[]∨∃ b0 o0,vals=[b0,o0]) (hA:A.handled=none) (kk:au w h)
  (low:845≤cl∧845≤ce∧845≤it∧845≤acc) (nas:acc≠s2∧acc≠a1) (dis:∀ x∈qt,x∉gA) (l2:∀ q∈ρ2,q.2.length<5000) (l1:∀ p∈ρ1,p.2.length<5000∧p.1<ρ2.length) (hz:Vs.length≤100)
  (X:Nv w h k vals cl ce s2 it a1 i acc c Vs qt gA ρ1 ρ2 done) (hi:ρ1[i]? = some p) (hlen:ρ2.length<1000)
  (post:∀ h' tk' k' s' o' V,Keeps [cl,acc,it] h h'→h.objs.size≤V→Nv w h' k' [s',o'] cl ce s2 it a1 (i+1) acc (c+1) (Vs++[V]) qt gA ρ1 ρ2 (done++[jY ρ2 p])→codeAny (model pw w) A (vC loc cl ce it acc) R ⟨h',g,d,tk',os⟩) :
  codeAny (model pw w) A (vC loc cl ce it acc) R ⟨h,g,d,tk,os⟩:=by
 obtain ⟨c1,g1⟩:=X.r1.list
 obtain ⟨T,hT,p1,p2,gT⟩:=aM.at X.r1.items hi
 have hp:=l1 p (List.mem_of_getElem? hi)
 obtain ⟨q,hq⟩:∃ q,ρ2[p.1]? = some q:=⟨_,List.getElem?_eq_getElem hp.2⟩
 obtain ⟨U,hU,q1,q2,gU⟩:=aM.at X.r2.items hq
 obtain ⟨c2,g2⟩:=X.r2.list
 have hq2:=l2 q (List.mem_of_getElem? hq)
 refine dH (gj X.it g1 (x:=.ref T) (by simpa using hT) fun h1 K1 jK=>?_)
 have fr:∀ {a:Nat} {o:Obj},h.get? a=some o→o.cls≠.type "list_iterator" → h1.get? a=some o:=fun {a o} e ne=>K1.get a o e (by
  simp only [mem_singleton]
  exact ne_of_cls e X.it (by rw [show (jN a1 i).cls=.type "list_iterator" from rfl];exact ne))
 have n0:aA h [it]:=aA.of (by
  simp only [mem_singleton,forall_eq]
  exact ⟨_,X.it,(by show Value.type "list_iterator" ≠ .type "tuple";decide)⟩)
 have jA:=fr X.cl (by show Value.type "dict" ≠ .type "list_iterator";decide)
 have uO:=fr X.ce (by show Value.type "cell" ≠ .type "list_iterator";decide)
 have vD:=fr X.acc (by show Value.type "list" ≠ .type "list_iterator";decide)
 have g11:=fr g1 (by show Value.type "list" ≠ .type "list_iterator";decide)
 have I9:=fr g2 (by show Value.type "list" ≠ .type "list_iterator";decide)
 have Ja:=fr gT (by show Value.type "tuple" ≠ .type "list_iterator";decide)
 have Jb:=fr gU (by show Value.type "tuple" ≠ .type "list_iterator";decide)
 have X1:Nv w h1 k vals cl ce s2 it a1 (i+1) acc c Vs qt gA ρ1 ρ2 done:=⟨jA,uO,jK,vD,⟨⟨c1,g11⟩,X.r1.items.keeps K1 n0,X.r1.lo,X.r1.nd⟩,⟨⟨c2,I9⟩,X.r2.items.keeps K1 n0,X.r2.lo,X.r2.nd⟩,X.vs.keeps K1 n0⟩
 have mT:T∈qt:=List.mem_of_getElem? hT
 have mU:U∈gA:=List.mem_of_getElem? hU
 have own:=X1.own (c2:=c2) I9 Jb Ja jK
 have rH:∀ {a b:Nat} {o o':Obj} (s s':String),h1.get? a=some o→h1.get? b=some o'→o.cls=.type s→o'.cls=.type s'→s≠s'→a≠b:=fun {a b o o'} s s' ea eb ca cb ne=>ne_of_cls ea eb (by rw [ca,cb];intro x;exact ne (Value.type.inj x))
 have nd:([cl,ce,s2,U,T,it]:List Nat).Nodup:=by
  simp only [nodup_cons,mem_cons,not_mem_nil,or_false,not_or,not_false_eq_true,List.nodup_nil,and_true]
  exact ⟨⟨rH "dict" "cell" jA uO rfl rfl (by decide),rH "dict" "list" jA I9 rfl rfl (by decide),rH "dict" "tuple" jA Jb rfl rfl (by decide),rH "dict" "tuple" jA Ja rfl rfl (by decide),rH "dict" "list_iterator" jA jK rfl rfl (by decide)⟩,
   ⟨rH "cell" "list" uO I9 rfl rfl (by decide),rH "cell" "tuple" uO Jb rfl rfl (by decide),rH "cell" "tuple" uO Ja rfl rfl (by decide),rH "cell" "list_iterator" uO jK rfl rfl (by decide)⟩,
   ⟨rH "list" "tuple" I9 Jb rfl rfl (by decide),rH "list" "tuple" I9 Ja rfl rfl (by decide),rH "list" "list_iterator" I9 jK rfl rfl (by decide)⟩,
   ⟨fun e=>dis T mT (e ▸ mU),rH "tuple" "list_iterator" Jb jK rfl rfl (by decide)⟩,rH "tuple" "list_iterator" Ja jK rfl rfl (by decide)⟩
 have na:acc∉([cl,ce,s2,U,T,it]:List Nat):=by
  simp only [mem_cons,not_mem_nil,or_false,not_or]
  exact ⟨rH "list" "dict" vD jA rfl rfl (by decide),rH "list" "cell" vD uO rfl rfl (by decide),nas.1,rH "list" "tuple" vD Jb rfl rfl (by decide),rH "list" "tuple" vD Ja rfl rfl (by decide),rH "list" "list_iterator" vD jK rfl rfl (by decide)⟩
 have lo:∀ x∈([cl,ce,s2,U,T,it]:List Nat),845≤x:=by
  simp only [mem_cons,not_mem_nil,or_false,forall_eq_or_imp,forall_eq]
  exact ⟨low.1,low.2.1,X.r2.lo s2 (mem_cons_self ..),X.r2.lo U (mem_cons_of_mem _ mU),X.r1.lo T (mem_cons_of_mem _ mT),low.2.2.1⟩
 have fin:Nu w g d os A R h1 loc cl ce it acc c (Vs.map Value.ref).toArray p q:=by
  intro h2 tk2 k2 s2' o2 V t u K2 iI CN lV gV
  have n1:aA h1 [cl,acc]:=aA.of (by
   simp only [mem_cons,not_mem_nil,or_false,forall_eq_or_imp,forall_eq]
   exact ⟨⟨_,jA,(by show Value.type "dict" ≠ .type "tuple";decide)⟩,⟨_,vD,(by show Value.type "list" ≠ .type "tuple";decide)⟩⟩)
  have Vn:∀ {a:Nat} {o:Obj},h1.get? a=some o→a≠cl→a≠acc→h2.get? a=some o:=fun {a o} e n1 n2=>K2.get a o e (by simp [n1,n2])
  have eqj:jY ρ2 p=(q.1,p.2++q.2):=by simp [jY,hq]
  have bc:a1≠cl:=rH "list" "dict" g11 jA rfl rfl (by decide)
  have bd:s2≠cl:=rH "list" "dict" I9 jA rfl rfl (by decide)
  refine post h2 tk2 k2 s2' o2 V (K1.to K2 (by simp) (by simp)) (Nat.le_trans K1.size lV)
   ⟨iI,Vn uO (rH "cell" "dict" uO jA rfl rfl (by decide)) (rH "cell" "list" uO vD rfl rfl (by decide)),Vn jK (rH "list_iterator" "dict" jK jA rfl rfl (by decide)) (rH "list_iterator" "list" jK vD rfl rfl (by decide)),by simpa using CN,
    ⟨⟨c1,Vn g11 bc (Ne.symm nas.2)⟩,X1.r1.items.keeps K2 n1,X.r1.lo,X.r1.nd⟩,⟨⟨c2,Vn I9 bd (Ne.symm nas.1)⟩,X1.r2.items.keeps K2 n1,X.r2.lo,X.r2.nd⟩,?_⟩
  rw [eqj]
  exact aM.snoc ⟨t,u,gV⟩ (X1.vs.keeps K2 n1)
 have Jc:au w h1:=K1.kok kk (bK low.2.2.1)
 rcases hv with rfl | ⟨b0,o0,rfl⟩
 ·exact yj hA Jc nd lo low.2.2.2 na own vD (by simp;lia) hU (by lia) (by lia) fin
 ·exact yp hA Jc nd lo low.2.2.2 na own vD (by simp;lia) hU (by lia) (by lia) fin
theorem join_loop {loc cl ce it acc a1 s2 base:Nat} {qt gA:List Nat} {ρ1 ρ2:List (Nat × List Nat)} (hA:A.handled=none)
  (low:845≤cl∧845≤ce∧845≤it∧845≤acc) (nas:acc≠s2∧acc≠a1) (dis:∀ x∈qt,x∉gA) (l2:∀ q∈ρ2,q.2.length<5000) (l1:∀ p∈ρ1,p.2.length<5000∧p.1<ρ2.length) (hlen:ρ2.length<1000) (hl1:ρ1.length≤50) :
  ∀ (rem:List (Nat × List Nat)) {i c:Nat} {Vs:List Nat} {k:Nat→Nat} {vals:List Value} {h:Heap} {tk:Nat},ρ1.drop i=rem→(vals=[]∨∃ b0 o0,vals=[b0,o0])→au w h→base≤h.objs.size →
   Nv w h k vals cl ce s2 it a1 i acc c Vs qt gA ρ1 ρ2 ((ρ1.take i).map (jY ρ2))→(∀ x∈Vs,base≤x)→Vs.Nodup →
   (∀ h' tk' k' vals' c' Vo,Keeps [cl,acc,it] h h'→((rem≠[]∨∃ b0 o0,vals=[b0,o0])→∃ b0 o0,vals'=[b0,o0])→h'.get? cl=some (dh w.params I8 k' vals')→h'.get? acc=some (aj (Vo.map Value.ref).toArray c')→aM h' Vo (ρ1.map (jY ρ2))→(∀ x∈Vo,base≤x)→Vo.Nodup→R (.ok .next) ⟨h',g,d,tk',os⟩) →
   codeAny (model pw w) A (vC loc cl ce it acc) R ⟨h,g,d,tk,os⟩:=by
 intro rem
 induction rem with
 | nil=>
  intro i c Vs k vals h tk e hv kk hb X lo nd post
  rw [List.drop_eq_nil_iff] at e
  obtain ⟨c1,g1⟩:=X.r1.list
  have len:=X.r1.items.len
  refine dH (iy hA X.it g1 (by simp;lia) fun h1 K1=>?_)
  have n0:aA h [it]:=aA.of (by
   simp only [mem_singleton,forall_eq]
   exact ⟨_,X.it,(by show Value.type "list_iterator" ≠ .type "tuple";decide)⟩)
  have fr:∀ {a:Nat} {o:Obj},h.get? a=some o→o.cls≠.type "list_iterator" → h1.get? a=some o:=fun {a o} e ne=>K1.get a o e (by
   simp only [mem_singleton]
   exact ne_of_cls e X.it (by rw [show (jN a1 i).cls=.type "list_iterator" from rfl];exact ne))
  refine post h1 tk k vals c Vs (K1.mono (by simp)) (fun x=>x.elim (fun y=>absurd rfl y) id) (fr X.cl (by show Value.type "dict" ≠ .type "list_iterator";decide)) (fr X.acc (by show Value.type "list" ≠ .type "list_iterator";decide)) ?_ lo nd
  have et:ρ1.take i=ρ1:=List.take_of_length_le e
  have:=X.vs.keeps K1 n0
  rw [et] at this
  exact this
 | cons p rem ih=>
  intro i c Vs k vals h tk e hv kk hb X lo nd post
  have hi:ρ1[i]? = some p:=by
   have h1:(ρ1.drop i)[0]? = some p:=by rw [e];rfl
   simpa using h1
  have e':ρ1.drop (i+1)=rem:=by rw [← List.drop_drop,e];rfl
  have lv:Vs.length≤50:=by
   have:=X.vs.len
   simp at this
   lia
  refine CK hv hA kk low nas dis l2 l1 (by lia) X hi hlen ?_
  intro h2 tk2 k2 s2' o2 V K2 lV X2
  have et:ρ1.take (i+1)=ρ1.take i++[p]:=by rw [List.take_add_one,hi];rfl
  refine ih e' (.inr ⟨s2',o2,rfl⟩) (K2.kok kk (by simp [low])) (Nat.le_trans hb K2.size) (by rw [et,List.map_append];exact X2) (fun x hx=>?_) ?_ ?_
  ·rcases List.mem_append.mp hx with hx | hx
   ·exact lo x hx
   ·rw [mem_singleton] at hx
    rw [hx];exact Nat.le_trans hb lV
  ·rw [List.nodup_append]
   refine ⟨nd,Kv,fun x hx y hy=>?_⟩
   rw [mem_singleton] at hy
   rw [hy]
   obtain ⟨_,_,_,ex⟩:=X.vs.get x hx
   exact Nat.ne_of_lt (Nat.lt_of_lt_of_le (Heap.lt_size ex) lV)
  ·intro h3 tk3 k3 vals3 c3 Vs3 K3 hv3 ae6 RP X3 BJ I6
   exact post h3 tk3 k3 vals3 c3 Vs3 (K2.trans K3) (fun _=>hv3 (.inr ⟨s2',o2,rfl⟩)) ae6 RP X3 BJ I6
def jf1 (w:World) (n tk:Nat) (a1 s2 c1 c2:Nat) (v1 v2:Array Value):Rs:=aQ w [] 818 (Q6 w.params) ⟨[.ref a1,.ref s2],[]⟩ [(a1,aj v1 c1),(s2,aj v2 c2)] n tk [0,2,2,1,1] [2,3,3,0,3,0,1,1]
noncomputable def eH (ρ1 ρ2:List (Nat × List Nat)):List (Nat × List Nat):=ρ1.map (jY ρ2)
theorem yq {a1 s2:Nat} {qt gA:List Nat} {ρ1 ρ2:List (Nat × List Nat)} (hA:A.handled=none) (hD:A.depth+1<recursionLimit) (kk:au w h) (r1:aJ h a1 ρ1 qt) (r2:aJ h s2 ρ2 gA) (ne:a1≠s2) (dis:∀ x∈qt,x∉gA)
  (l2:∀ q∈ρ2,q.2.length<5000) (l1:∀ p∈ρ1,p.2.length<5000∧p.1<ρ2.length) (hlen:ρ2.length<1000) (hl1:ρ1.length≤50) (n1:ρ1≠[])
  (post:∀ h' tk' a Ts,Keeps [] h h'→aJ h' a (eH ρ1 ρ2) Ts→(∀ x∈a::Ts,h.objs.size≤x)→R (.ok (.ret (.ref a))) ⟨h',g,d,tk',os⟩) :
  codeAny (model pw w) A (.call (.ref 818) ⟨[.ref a1,.ref s2],[]⟩) R ⟨h,g,d,tk,os⟩:=by
 obtain ⟨c1,g1⟩:=r1.list
 obtain ⟨c2,g2⟩:=r2.list
 have la1:=r1.lo a1 (mem_cons_self ..)
 have ls2:=r2.lo s2 (mem_cons_self ..)
 have own:∀ q∈([(a1,aj (qt.map Value.ref).toArray c1),(s2,aj (gA.map Value.ref).toArray c2)]:Led),h.get? q.1=some q.2:=by simp [g1,g2]
 obtain ⟨n0,R0⟩:=(Rep.start kk own (lG ne) (by simp [la1,ls2])).up
 have dW:h.objs.size=n0+845:=R0.size
 refine dJ (jf1 w (n0+845) tk a1 s2 c1 c2 (qt.map Value.ref).toArray (gA.map Value.ref).toArray) .nil hA (by lia) R0 (n:=1)
  (c:=.compStart (jd jL) 0 (.ref (n0+845+1+1)) (.ref (n0+845+1+1+1)) (wB (n0+845) (n0+845+1+1+1+1) (n0+845+1))) (by symm) (by symm) (by symm) ?_ rfl
 intro A1 h1 bT hD1 R1
 revert R1;refine gen (jf1 w (n0+845) tk a1 s2 c1 c2 (qt.map Value.ref).toArray (gA.map Value.ref).toArray) fun r eq1=>?_;intro R1
 have je:=R1.at (a:=n0+845+1+1+1+1) (o:=dh w.params I8 (kOf r.L 0) []) 0 (by refine sb eq1 ?_;symm)
 have gac:=R1.at (a:=n0+845+1+1+1) (o:=aj #[] 0) 1 (by refine sb eq1 ?_;symm)
 have git:=R1.at (a:=n0+845+1+1) (o:=jN a1 0) 2 (by refine sb eq1 ?_;symm)
 have gce:=R1.at (a:=n0+845+1) (o:=yh s2) 3 (by refine sb eq1 ?_;symm)
 have K1:Keeps [] h h1:=(R1.done 5 (G':=[(a1,aj (qt.map Value.ref).toArray c1),(s2,aj (gA.map Value.ref).toArray c2)]) (mod:=[]) (by refine sb eq1 ?_;symm) rfl own (by simp)).1
 have RD:a1<n0+845:=by rw [← dW];exact Heap.lt_size g1
 have lt2:s2<n0+845:=by rw [← dW];exact Heap.lt_size g2
 have X1:Nv w h1 (kOf r.L 0) [] (n0+845+1+1+1+1) (n0+845+1) s2 (n0+845+1+1) a1 0 (n0+845+1+1+1) 0 [] qt gA ρ1 ρ2 ((ρ1.take 0).map (jY ρ2)):=
  ⟨je,gce,git,gac,⟨⟨c1,K1.get _ _ g1 not_mem_nil⟩,r1.items.keeps K1 (by simp [aA]),r1.lo,r1.nd⟩,⟨⟨c2,K1.get _ _ g2 not_mem_nil⟩,r2.items.keeps K1 (by simp [aA]),r2.lo,r2.nd⟩,trivial⟩
 refine dF (fun E'=>lY git ⟨rfl,rfl⟩) ?_
 refine join_loop (base:=h1.objs.size) bT ⟨by lia,by lia,by lia,by lia⟩ ⟨by lia,by lia⟩ dis l2 l1 hlen hl1 ρ1 rfl (.inl rfl) R1.old (Nat.le_refl _) X1 aX (by simp) ?_
 intro h2 tk2 k2 vals2 c' Vs K2 hv iI zY X2 lo2 IW
 obtain ⟨b0,o0,rfl⟩:=hv (.inl n1)
 have low:∀ a,n0+845≤a→h.objs.size≤a:=fun a ha=>by rw [dW];exact ha
 have jr:Keeps [] h h2:=K1.late K2 (by simp only [mem_cons,not_mem_nil,or_false,forall_eq_or_imp,forall_eq];exact ⟨low _ (by lia),low _ (by lia),low _ (by lia)⟩)
 have bW:∀ q∈([(n0+845+1+1+1+1,dh w.params I8 k2 [b0,o0])]:Led),h2.get? q.1=some q.2:=bK iI
 obtain ⟨n2,R2⟩:=(Rep.start (jr.kok kk aX) bW fV (by simp)).up
 refine cI (aB w [] r (.ok .next) [(n0+845+1+1+1+1,dh w.params I8 k2 [b0,o0])] (n2+845) tk2 [1,1,1,1,1,1]) .nil hA R2 (y:=.ok (.ret (.ref (n0+845+1+1+1)))) (by refine sb eq1 ?_;symm) (fun h3 R3=>?_) rfl
 have K3:Keeps [n0+845+1+1+1+1] h2 h3:=R3.keeps (G':=[]) (mod:=[n0+845+1+1+1+1]) rfl bW aX (by simp)
 have nt:aA h2 [n0+845+1+1+1+1]:=aA.of (by
  simp only [mem_singleton,forall_eq]
  exact ⟨_,iI,(by show Value.type "dict" ≠ .type "tuple";decide)⟩)
 have RQ:∀ x∈(n0+845+1+1+1)::Vs,h.objs.size≤x:=fun x hx=>by
  rcases List.mem_cons.mp hx with rfl | hx
  ·exact low _ (by lia)
  ·exact Nat.le_trans K1.size (lo2 x hx)
 exact post h3 _ (n0+845+1+1+1) Vs (jr.late K3 (by simp only [mem_singleton,forall_eq];exact low _ (by lia))) ⟨⟨c',K3.get _ _ zY (by simp)⟩,X2.keeps K3 nt,fun x hx=>Nat.le_trans (au.size (w:=w) kk) (RQ x hx),IW⟩ RQ
noncomputable abbrev aZ:=List (Nat × List Nat)
noncomputable def GR (N:Nat) (ρ:aZ):Prop:=ρ.length=6∧∀ p∈ρ,p.1<6∧p.2.length≤N
theorem tR {N1 N2:Nat} {ρ1 ρ2:aZ} (h1:GR N1 ρ1) (h2:GR N2 ρ2):GR (N1+N2) (eH ρ1 ρ2):=by
 refine ⟨by simp [eH,h1.1],fun p hp=>?_⟩
 obtain ⟨q,hq,rfl⟩:=List.mem_map.mp hp
 obtain ⟨a,b⟩:=h1.2 q hq
 have e:ρ2[q.1]? = some (ρ2[q.1]'(by rw [h2.1];exact a)):=List.getElem?_eq_getElem _
 obtain ⟨c,d⟩:=h2.2 _ (List.mem_of_getElem? e)
 simp only [jY,e,Option.getD_some,List.length_append]
 exact ⟨c,by lia⟩
theorem Jd (cs:List Nat):GR (2*cs.length) (rowOf cs):=by
 refine ⟨by simp [rowOf],fun p hp=>?_⟩
 obtain ⟨b,hb,rfl⟩:=List.mem_map.mp hp
 have:=List.mem_range.mp hb
 exact ⟨rU cs this,mV cs this⟩
noncomputable def comb (fa:Nat) (ac el:aZ):aZ:=if fa=818 then eH ac el else eH el ac
theorem Je {N1 N2 fa:Nat} {ρ1 ρ2:aZ} (h1:GR N1 ρ1) (h2:GR N2 ρ2):GR (N1+N2) (comb fa ρ1 ρ2):=by
 unfold comb
 split
 ·exact tR h1 h2
 ·rw [Nat.add_comm];exact tR h2 h1
theorem pF {a1 s2 N1 N2:Nat} {qt gA:List Nat} {ρ1 ρ2:aZ} (hA:A.handled=none) (hD:A.depth+1<recursionLimit) (kk:au w h) (r1:aJ h a1 ρ1 qt) (r2:aJ h s2 ρ2 gA) (ne:a1≠s2) (dis:∀ x∈qt,x∉gA)
  (G1:GR N1 ρ1) (G2:GR N2 ρ2) (b1:N1<5000) (b2:N2<5000)
  (post:∀ h' tk' a Ts,Keeps [] h h'→aJ h' a (eH ρ1 ρ2) Ts→(∀ x∈a::Ts,h.objs.size≤x)→R (.ok (.ret (.ref a))) ⟨h',g,d,tk',os⟩) :
  codeAny (model pw w) A (.call (.ref 818) ⟨[.ref a1,.ref s2],[]⟩) R ⟨h,g,d,tk,os⟩:=by
 refine yq hA hD kk r1 r2 ne dis (fun q hq=>by have:=(G2.2 q hq).2;lia) (fun p hp=>by have:=G1.2 p hp;rw [G2.1];lia) (by rw [G2.1];lia) (by rw [G1.1];lia) (fun e=>?_) post
 have:=G1.1
 rw [e] at this
 simp at this
def pf1 (w:World) (n tk:Nat) (a b:Nat):Rs:=aQ w [] 825 (Q7 w.params) ⟨[.ref a,.ref b],[]⟩ [] n tk [0,1,1,1,1] [0,1,1,0,1]
theorem tU {a1 s2 N1 N2:Nat} {qt gA:List Nat} {ρ1 ρ2:aZ} (hA:A.handled=none) (hD:A.depth+2<recursionLimit) (kk:au w h) (r1:aJ h a1 ρ1 qt) (r2:aJ h s2 ρ2 gA) (ne:a1≠s2) (dis:∀ x∈qt,x∉gA)
  (G1:GR N1 ρ1) (G2:GR N2 ρ2) (b1:N1<5000) (b2:N2<5000)
  (post:∀ h' tk' a Ts,Keeps [] h h'→aJ h' a (eH ρ1 ρ2) Ts→(∀ x∈a::Ts,h.objs.size≤x)→R (.ok (.ret (.ref a))) ⟨h',g,d,tk',os⟩) :
  codeAny (model pw w) A (.call (.ref 825) ⟨[.ref s2,.ref a1],[]⟩) R ⟨h,g,d,tk,os⟩:=by
 obtain ⟨n0,R0⟩:=(Rep.nil kk).up
 refine dJ (pf1 w (n0+845) tk s2 a1) .nil hA (by lia) R0 (n:=1) (c:=.call (.ref 818) ⟨[.ref a1,.ref s2],[]⟩) (by symm) (by symm) (by symm) ?_ rfl
 intro A1 h1 bT hD1 R1
 have K1:=R1.fresh.1
 have keep:∀ {a:Nat} {ρ:aZ} {Ts:List Nat} {h h':Heap},Keeps [] h h'→aJ h a ρ Ts→aJ h' a ρ Ts:=fun K r=>⟨r.list.imp fun c e=>K.get _ _ e not_mem_nil,r.items.keeps K (by simp [aA]),r.lo,r.nd⟩
 refine pF bT (by lia) R1.old (keep K1 r1) (keep K1 r2) ne dis G1 G2 b1 b2 ?_
 intro h2 tk2 a Ts K2 r fr
 obtain ⟨n2,R2⟩:=(Rep.nil (K2.kok R1.old aX)).up
 refine cI (aB w [] (pf1 w (n0+845) tk s2 a1) (.ok (.ret (.ref a))) [] (n2+845) tk2 []) .nil hA R2 (y:=.ok (.ret (.ref a))) (by symm) (fun h3 R3=>?_) rfl
 have K3:=R3.fresh.1
 exact post h3 _ a Ts (K1.trans (K2.trans K3)) (keep K3 r) (fun x hx=>Nat.le_trans K1.size (fr x hx))
theorem aJ.keeps {h h':Heap} {a:Nat} {ρ:aZ} {Ts:List Nat} {m:List Addr} (r:aJ h a ρ Ts) (K:Keeps m h h') (nt:aA h m) (na:a∉m):aJ h' a ρ Ts:=⟨r.list.imp fun c e=>K.get _ _ e na,r.items.keeps K nt,r.lo,r.nd⟩
theorem aJ.lt {h:Heap} {a:Nat} {ρ:aZ} {Ts:List Nat} (r:aJ h a ρ Ts):∀ x∈a::Ts,x<h.objs.size:=fun x hx=>by
 rcases List.mem_cons.mp hx with rfl | hx
 ·obtain ⟨c,e⟩:=r.list
  exact Heap.lt_size e
 ·obtain ⟨_,_,_,e⟩:=r.items.get x hx
  exact Heap.lt_size e
theorem vG {fa v e N1 N2:Nat} {Tv Te:List Nat} {ρv ρe:aZ} (hfa:fa=818∨fa=825) (hA:A.handled=none) (hD:A.depth+2<recursionLimit) (kk:au w h) (rv:aJ h v ρv Tv) (re:aJ h e ρe Te) (ne:v≠e) (dis:∀ x∈Tv,x∉Te)
  (G1:GR N1 ρv) (G2:GR N2 ρe) (b1:N1<5000) (b2:N2<5000)
  (post:∀ h' tk' a Ts,Keeps [] h h'→aJ h' a (comb fa ρv ρe) Ts→(∀ x∈a::Ts,h.objs.size≤x)→R (.ok (.ret (.ref a))) ⟨h',g,d,tk',os⟩) :
  codeAny (model pw w) A (.call (.ref fa) ⟨[.ref v,.ref e],[]⟩) R ⟨h,g,d,tk,os⟩:=by
 rcases hfa with rfl | rfl
 ·exact pF hA (by lia) kk rv re ne dis G1 G2 b1 b2 post
 ·exact tU hA hD kk re rv (Ne.symm ne) (fun x hx hy=>dis x hy hx) G2 G1 b2 b1 post
noncomputable def bR:List String:=["function","sequence","initial","it","value","element"]
noncomputable def fW (loc:Nat):Env:={scope:=zq (fs 23),locals:=loc,globals:=3,cells:=[],qual:=lits "reduce.<locals>.",func:=some 743,code:=.ref 742,frame:=some loc,builtins:=0}
noncomputable def Lb:Stmt:=gC (iJ (fs 23)) 2
noncomputable def jf (loc it:Nat):Code:=.forLoop (eY Lb) (.ref it) (eG Lb) [] (fW loc)
def uP (w:World) (n tk:Nat) (loc it:Nat) (k:Nat→Nat) (vs:List Value) (e:Nat):Rs:=bL w [] (jX (eY Lb) (.ref it) (.ref e) (eG Lb) [] (fW loc)) [(loc,bB w.params bR k vs)] n tk [1,1,1,1,1,0,1]
def CP (w:World) (n tk:Nat) (q:Rs) (c:Nat) (L:Led):Rs:=aB w [] q (.ok (.ret (.ref c))) L n tk [1,1,1]
theorem CQ {fa loc it e v N1 N2:Nat} {k:Nat→Nat} {sq ini:Value} {Tv Te:List Nat} {ρv ρe:aZ} (hfa:fa=818∨fa=825) (hA:A.handled=none) (hD:A.depth+2<recursionLimit) (kk:au w h) (ll:845≤loc)
  (gl:h.get? loc=some (bB w.params bR k [.ref fa,sq,ini,.ref it,.ref v])) (rv:aJ h v ρv Tv) (re:aJ h e ρe Te) (ne:v≠e) (dis:∀ x∈Tv,x∉Te) (G1:GR N1 ρv) (G2:GR N2 ρe) (b1:N1<5000) (b2:N2<5000)
  (post:∀ h' tk' k' c Tc,Keeps [loc] h h'→h'.get? loc=some (bB w.params bR k' [.ref fa,sq,ini,.ref it,.ref c,.ref e])→aJ h' c (comb fa ρv ρe) Tc→(∀ x∈c::Tc,h.objs.size≤x)→codeAny (model pw w) A (jf loc it) R ⟨h',g,d,tk',os⟩) :
  wpAny (model pw w) A (jX (eY Lb) (.ref it) (.ref e) (eG Lb) [] (fW loc)) (FQ w A R) (NE w A (fW loc) R) ⟨h,g,d,tk,os⟩:=by
 have own:∀ q∈([(loc,bB w.params bR k [.ref fa,sq,ini,.ref it,.ref v])]:Led),h.get? q.1=some q.2:=bK gl
 obtain ⟨n0,R0⟩:=(Rep.start kk own fV (bK ll)).up
 refine bA (uP w (n0+845) tk loc it k [.ref fa,sq,ini,.ref it,.ref v] e) .nil hA R0 (n:=0) (c:=.call (.ref fa) ⟨[.ref v,.ref e],[]⟩) (by rcases hfa with rfl | rfl <;> symm) ?_ rfl
 intro A1 h1 bT hD1 R1
 have cN:=R1.cast (L':=[(loc,bB w.params bR (kOf (uP w (n0+845) tk loc it k [.ref fa,sq,ini,.ref it,.ref v] e).L 0) [.ref fa,sq,ini,.ref it,.ref v,.ref e])]) (by rcases hfa with rfl | rfl <;> symm)
 obtain ⟨K1,fP⟩:=cN.loc1 0 (o':=bB w.params bR (kOf (uP w (n0+845) tk loc it k [.ref fa,sq,ini,.ref it,.ref v] e).L 0) [.ref fa,sq,ini,.ref it,.ref v,.ref e]) rfl gl
 have nt:aA h [loc]:=aA.of (by
  simp only [mem_singleton,forall_eq]
  exact ⟨_,gl,(by show Value.type "frame" ≠ .type "tuple";decide)⟩)
 have nl:∀ {a:Nat} {ρ:aZ} {Ts:List Nat},aJ h a ρ Ts→a∉[loc]:=fun r=>by
  obtain ⟨c,e⟩:=r.list
  simp only [mem_singleton]
  exact ne_of_cls e gl (by show Value.type "list" ≠ .type "frame";decide)
 refine vG hfa bT (by rw [hD1];exact hD) R1.old (rv.keeps K1 nt (nl rv)) (re.keeps K1 nt (nl re)) ne dis G1 G2 b1 b2 ?_
 intro h2 tk2 c Tc K2 rc fr
 have dX:=K2.get _ _ fP not_mem_nil
 have bW:∀ q∈([(loc,bB w.params bR (kOf (uP w (n0+845) tk loc it k [.ref fa,sq,ini,.ref it,.ref v] e).L 0) [.ref fa,sq,ini,.ref it,.ref v,.ref e])]:Led),h2.get? q.1=some q.2:=bK dX
 obtain ⟨n2,R2⟩:=(Rep.start (K2.kok R1.old aX) bW fV (bK ll)).up
 revert dX bW R2;refine gen (uP w (n0+845) tk loc it k [.ref fa,sq,ini,.ref it,.ref v] e) fun r1 eq1=>?_;intro dX bW R2
 refine aO (CP w (n2+845) tk2 r1 c [(loc,bB w.params bR (kOf r1.L 0) [.ref fa,sq,ini,.ref it,.ref v,.ref e])]) .nil hA R2 (v:=.again (jf loc it)) (by refine sb eq1 ?_;refine so hfa ?_ ?_ <;> symm) ?_ rfl
 intro h3 R3
 have iZ:=R3.cast (L':=[(loc,bB w.params bR (kOf (CP w (n2+845) tk2 r1 c [(loc,bB w.params bR (kOf r1.L 0) [.ref fa,sq,ini,.ref it,.ref v,.ref e])]).L 0) [.ref fa,sq,ini,.ref it,.ref c,.ref e])]) (by refine sb eq1 ?_;refine so hfa ?_ ?_ <;> symm)
 obtain ⟨K3,iz⟩:=iZ.loc1 0 (o':=bB w.params bR (kOf (CP w (n2+845) tk2 r1 c [(loc,bB w.params bR (kOf r1.L 0) [.ref fa,sq,ini,.ref it,.ref v,.ref e])]).L 0) [.ref fa,sq,ini,.ref it,.ref c,.ref e]) rfl dX
 have nt2:aA h2 [loc]:=aA.of (by
  simp only [mem_singleton,forall_eq]
  exact ⟨_,dX,(by show Value.type "frame" ≠ .type "tuple";decide)⟩)
 have nl2:c∉[loc]:=by
  obtain ⟨cc,e⟩:=rc.list
  simp only [mem_singleton]
  exact ne_of_cls e dX (by show Value.type "list" ≠ .type "frame";decide)
 exact ⟨rfl,post h3 _ _ c Tc (K1.to (K2.to (m:=[loc]) K3 aX (by simp)) (by simp) (by simp)) iz (rc.keeps K3 nt2 nl2) (fun x hx=>Nat.le_trans K1.size (fr x hx))⟩
theorem CT {fa loc it e v N1 N2:Nat} {k:Nat→Nat} {sq ini el:Value} {Tv Te:List Nat} {ρv ρe:aZ} (hfa:fa=818∨fa=825) (hA:A.handled=none) (hD:A.depth+2<recursionLimit) (kk:au w h) (ll:845≤loc)
  (gl:h.get? loc=some (bB w.params bR k [.ref fa,sq,ini,.ref it,.ref v,el])) (rv:aJ h v ρv Tv) (re:aJ h e ρe Te) (ne:v≠e) (dis:∀ x∈Tv,x∉Te) (G1:GR N1 ρv) (G2:GR N2 ρe) (b1:N1<5000) (b2:N2<5000)
  (post:∀ h' tk' k' c Tc,Keeps [loc] h h'→h'.get? loc=some (bB w.params bR k' [.ref fa,sq,ini,.ref it,.ref c,.ref e])→aJ h' c (comb fa ρv ρe) Tc→(∀ x∈c::Tc,h.objs.size≤x)→codeAny (model pw w) A (jf loc it) R ⟨h',g,d,tk',os⟩) :
  wpAny (model pw w) A (jX (eY Lb) (.ref it) (.ref e) (eG Lb) [] (fW loc)) (FQ w A R) (NE w A (fW loc) R) ⟨h,g,d,tk,os⟩:=by
 have own:∀ q∈([(loc,bB w.params bR k [.ref fa,sq,ini,.ref it,.ref v,el])]:Led),h.get? q.1=some q.2:=bK gl
 obtain ⟨n0,R0⟩:=(Rep.start kk own fV (bK ll)).up
 refine bA (uP w (n0+845) tk loc it k [.ref fa,sq,ini,.ref it,.ref v,el] e) .nil hA R0 (n:=0) (c:=.call (.ref fa) ⟨[.ref v,.ref e],[]⟩) (by rcases hfa with rfl | rfl <;> symm) ?_ rfl
 intro A1 h1 bT hD1 R1
 have cN:=R1.cast (L':=[(loc,bB w.params bR (kOf (uP w (n0+845) tk loc it k [.ref fa,sq,ini,.ref it,.ref v,el] e).L 0) [.ref fa,sq,ini,.ref it,.ref v,.ref e])]) (by rcases hfa with rfl | rfl <;> symm)
 obtain ⟨K1,fP⟩:=cN.loc1 0 (o':=bB w.params bR (kOf (uP w (n0+845) tk loc it k [.ref fa,sq,ini,.ref it,.ref v,el] e).L 0) [.ref fa,sq,ini,.ref it,.ref v,.ref e]) rfl gl
 have nt:aA h [loc]:=aA.of (by
  simp only [mem_singleton,forall_eq]
  exact ⟨_,gl,(by show Value.type "frame" ≠ .type "tuple";decide)⟩)
 have nl:∀ {a:Nat} {ρ:aZ} {Ts:List Nat},aJ h a ρ Ts→a∉[loc]:=fun r=>by
  obtain ⟨c,e⟩:=r.list
  simp only [mem_singleton]
  exact ne_of_cls e gl (by show Value.type "list" ≠ .type "frame";decide)
 refine vG hfa bT (by rw [hD1];exact hD) R1.old (rv.keeps K1 nt (nl rv)) (re.keeps K1 nt (nl re)) ne dis G1 G2 b1 b2 ?_
 intro h2 tk2 c Tc K2 rc fr
 have dX:=K2.get _ _ fP not_mem_nil
 have bW:∀ q∈([(loc,bB w.params bR (kOf (uP w (n0+845) tk loc it k [.ref fa,sq,ini,.ref it,.ref v,el] e).L 0) [.ref fa,sq,ini,.ref it,.ref v,.ref e])]:Led),h2.get? q.1=some q.2:=bK dX
 obtain ⟨n2,R2⟩:=(Rep.start (K2.kok R1.old aX) bW fV (bK ll)).up
 revert dX bW R2;refine gen (uP w (n0+845) tk loc it k [.ref fa,sq,ini,.ref it,.ref v,el] e) fun r1 eq1=>?_;intro dX bW R2
 refine aO (CP w (n2+845) tk2 r1 c [(loc,bB w.params bR (kOf r1.L 0) [.ref fa,sq,ini,.ref it,.ref v,.ref e])]) .nil hA R2 (v:=.again (jf loc it)) (by refine sb eq1 ?_;refine so hfa ?_ ?_ <;> symm) ?_ rfl
 intro h3 R3
 have iZ:=R3.cast (L':=[(loc,bB w.params bR (kOf (CP w (n2+845) tk2 r1 c [(loc,bB w.params bR (kOf r1.L 0) [.ref fa,sq,ini,.ref it,.ref v,.ref e])]).L 0) [.ref fa,sq,ini,.ref it,.ref c,.ref e])]) (by refine sb eq1 ?_;refine so hfa ?_ ?_ <;> symm)
 obtain ⟨K3,iz⟩:=iZ.loc1 0 (o':=bB w.params bR (kOf (CP w (n2+845) tk2 r1 c [(loc,bB w.params bR (kOf r1.L 0) [.ref fa,sq,ini,.ref it,.ref v,.ref e])]).L 0) [.ref fa,sq,ini,.ref it,.ref c,.ref e]) rfl dX
 have nt2:aA h2 [loc]:=aA.of (by
  simp only [mem_singleton,forall_eq]
  exact ⟨_,dX,(by show Value.type "frame" ≠ .type "tuple";decide)⟩)
 have nl2:c∉[loc]:=by
  obtain ⟨cc,e⟩:=rc.list
  simp only [mem_singleton]
  exact ne_of_cls e dX (by show Value.type "list" ≠ .type "frame";decide)
 exact ⟨rfl,post h3 _ _ c Tc (K1.to (K2.to (m:=[loc]) K3 aX (by simp)) (by simp) (by simp)) iz (rc.keeps K3 nt2 nl2) (fun x hx=>Nat.le_trans K1.size (fr x hx))⟩
noncomputable def bC (h:Heap):List Nat→List aZ→List (List Nat)→Prop
 | [],[],[]=>True
 | a::as,ρ::ρs,Ts::bF=>aJ h a ρ Ts∧bC h as ρs bF
 | _,_,_=>False
theorem bC.keeps {h h':Heap} {m:List Addr} (K:Keeps m h h') (nt:aA h m):∀ {as:List Nat} {ρs:List aZ} {bF:List (List Nat)},bC h as ρs bF→(∀ a∈as,a∉m)→bC h' as ρs bF
 | [],[],[],_,_=>trivial
 | a::as,ρ::ρs,Ts::bF,X,na=>⟨X.1.keeps K nt (na a (mem_cons_self ..)),bC.keeps K nt X.2 fun a ha=>na a (mem_cons_of_mem _ ha)⟩
 | [],[],_::_,X,_=>X.elim
 | [],_::_,_,X,_=>X.elim
 | _::_,[],_,X,_=>X.elim
 | _::_,_::_,[],X,_=>X.elim
theorem bC.len {h:Heap}:∀ {as:List Nat} {ρs:List aZ} {bF:List (List Nat)},bC h as ρs bF→as.length=ρs.length
 | [],[],[],_=>rfl
 | a::as,ρ::ρs,Ts::bF,X=>by simp [bC.len X.2]
 | [],[],_::_,X=>X.elim
 | [],_::_,_,X=>X.elim
 | _::_,[],_,X=>X.elim
 | _::_,_::_,[],X=>X.elim
theorem bC.lt {h:Heap}:∀ {as:List Nat} {ρs:List aZ} {bF:List (List Nat)},bC h as ρs bF→(∀ a∈as,a<h.objs.size)∧∀ Ts∈bF,∀ x∈Ts,x<h.objs.size
 | [],[],[],_=>⟨aX,aX⟩
 | a::as,ρ::ρs,Ts::bF,X=>by
  have h1:=X.1.lt
  have h2:=bC.lt X.2
  refine ⟨fun b hb=>?_,fun T hT x hx=>?_⟩
  ·rcases List.mem_cons.mp hb with rfl | hb
   ·exact h1 _ (mem_cons_self ..)
   ·exact h2.1 b hb
  ·rcases List.mem_cons.mp hT with rfl | hT
   ·exact h1 x (mem_cons_of_mem _ hx)
   ·exact h2.2 T hT x hx
 | [],[],_::_,X=>X.elim
 | [],_::_,_,X=>X.elim
 | _::_,[],_,X=>X.elim
 | _::_,_::_,[],X=>X.elim
noncomputable def Jf (fa it v:Nat) (sq ini:Value) (tl:List Value):List Value:=[.ref fa,sq,ini,.ref it,.ref v]++tl
noncomputable def Nx (tl:List Value):Prop:=tl=[]∨∃ el,tl=[el]
theorem Jg {fa loc it l c base:Nat} {as:List Nat} {sq ini:Value} (hfa:fa=818∨fa=825) (hA:A.handled=none) (hD:A.depth+2<recursionLimit) (ll:845≤loc) (li:845≤it) :
  ∀ (rem:List Nat) {ρs:List aZ} {bF:List (List Nat)} {i v M:Nat} {ρv:aZ} {Tv:List Nat} {k:Nat→Nat} {tl:List Value} {h:Heap} {tk:Nat},as.drop i=rem→au w h→base≤h.objs.size→Nx tl→bC h rem ρs bF→(∀ ρ∈ρs,GR 60 ρ)→GR M ρv→M+60*ρs.length<4900 →
   aJ h v ρv Tv→(∀ Ts∈bF,∀ x∈Tv,x∉Ts)→v∉rem→h.get? it=some (jN l i)→h.get? l=some (aj (as.map Value.ref).toArray c)→h.get? loc=some (bB w.params bR k (Jf fa it v sq ini tl)) →
   (∀ h' tk' k' v' T' tl',Keeps [loc,it] h h'→Nx tl'→h'.get? loc=some (bB w.params bR k' (Jf fa it v' sq ini tl'))→aJ h' v' (ρs.foldl (comb fa) ρv) T'→(rem=[]→v'=v∧T'=Tv)→(rem≠[]→∀ x∈v'::T',base≤x)→R (.ok .next) ⟨h',g,d,tk',os⟩) →
   codeAny (model pw w) A (jf loc it) R ⟨h,g,d,tk,os⟩:=by
 intro rem
 induction rem with
 | nil=>
  intro ρs bF i v M ρv Tv k tl h tk e kk hb htl X hG GM hM rv dis nv gi gl jO post
  have:ρs=[]:=by
   have:=X.len
   simp at this
   exact List.length_eq_zero_iff.mp this.symm
  subst this
  rw [List.drop_eq_nil_iff] at e
  refine cg (iy hA gi gl (by simpa using e) fun h1 K1=>?_)
  have nt:aA h [it]:=aA.of (by
   simp only [mem_singleton,forall_eq]
   exact ⟨_,gi,(by show Value.type "list_iterator" ≠ .type "tuple";decide)⟩)
  have nl:v∉[it]:=by
   obtain ⟨cc,e⟩:=rv.list
   simp only [mem_singleton]
   exact ne_of_cls e gi (by show Value.type "list" ≠ .type "list_iterator";decide)
  exact post h1 tk k v Tv tl (K1.mono (by simp)) htl (K1.get _ _ jO (by simp only [mem_singleton];exact ne_of_cls jO gi (by show Value.type "frame" ≠ .type "list_iterator";decide))) (rv.keeps K1 nt nl) (fun _=>⟨rfl,rfl⟩) (fun x=>absurd rfl x)
 | cons a rem ih=>
  intro ρs bF i v M ρv Tv k tl h tk e kk hb htl X hG GM hM rv dis nv gi gl jO post
  match ρs,bF,X with
  | ρ::ρs,Ts::bF,X=>
   have hi:as[i]? = some a:=by
    have h1:(as.drop i)[0]? = some a:=by rw [e];rfl
    simpa using h1
   have e':as.drop (i+1)=rem:=by rw [← List.drop_drop,e];rfl
   refine cg (gj gi gl (x:=.ref a) (by simpa using hi) fun h1 K1 jK=>?_)
   have nt:aA h [it]:=aA.of (by
    simp only [mem_singleton,forall_eq]
    exact ⟨_,gi,(by show Value.type "list_iterator" ≠ .type "tuple";decide)⟩)
   have nl:∀ {b:Nat} {ρ:aZ} {Ts:List Nat},aJ h b ρ Ts→b∉[it]:=fun r=>by
    obtain ⟨cc,e⟩:=r.list
    simp only [mem_singleton]
    exact ne_of_cls e gi (by show Value.type "list" ≠ .type "list_iterator";decide)
   have nla:∀ b∈a::rem,b∉[it]:=by
    have:∀ {bs:List Nat} {ρs:List aZ} {bF:List (List Nat)},bC h bs ρs bF→∀ b∈bs,b∉[it]:=by
     intro bs
     induction bs with
     | nil=>intro _ _ _ b hb;exact nomatch hb
     | cons b' bs ihb=>
      intro ρs bF X b hb
      match ρs,bF,X with
      | ρ::ρs,Ts::bF,X=>
       rcases List.mem_cons.mp hb with rfl | hb
       ·exact nl X.1
       ·exact ihb X.2 b hb
    exact this X
   have X1:=X.keeps K1 nt nla
   have rv1:=rv.keeps K1 nt (nl rv)
   have vH:=K1.get _ _ jO (by simp only [mem_singleton];exact ne_of_cls jO gi (by show Value.type "frame" ≠ .type "list_iterator";decide))
   have fP:=K1.get _ _ gl (by simp only [mem_singleton];exact ne_of_cls gl gi (by show Value.type "list" ≠ .type "list_iterator";decide))
   have Jc:=K1.kok kk (bK li)
   have nav:v≠a:=fun x=>nv (x ▸ mem_cons_self ..)
   simp only [List.length_cons] at hM
   have fin:∀ h2 tk2 k2 c2 Tc,Keeps [loc] h1 h2→h2.get? loc=some (bB w.params bR k2 [.ref fa,sq,ini,.ref it,.ref c2,.ref a])→aJ h2 c2 (comb fa ρv ρ) Tc→(∀ x∈c2::Tc,h1.objs.size≤x)→codeAny (model pw w) A (jf loc it) R ⟨h2,g,d,tk2,os⟩:=by
    intro h2 tk2 k2 c2 Tc K2 mY rc fr
    have nt1:aA h1 [loc]:=aA.of (by
     simp only [mem_singleton,forall_eq]
     exact ⟨_,vH,(by show Value.type "frame" ≠ .type "tuple";decide)⟩)
    have Vp:∀ {bs:List Nat} {ρs:List aZ} {bF:List (List Nat)},bC h1 bs ρs bF→∀ b∈bs,b∉[loc]:=by
     intro bs
     induction bs with
     | nil=>intro _ _ _ b hb;exact nomatch hb
     | cons b' bs ihb=>
      intro ρs bF X b hb
      match ρs,bF,X with
      | ρ::ρs,Ts::bF,X=>
       rcases List.mem_cons.mp hb with rfl | hb
       ·obtain ⟨cc,e⟩:=X.1.list
        simp only [mem_singleton]
        exact ne_of_cls e vH (by show Value.type "list" ≠ .type "frame";decide)
       ·exact ihb X.2 b hb
    have X2:=X1.2.keeps K2 nt1 (Vp X1.2)
    have lt2:=X1.2.lt
    have DP:=K2.get _ _ jK (by simp only [mem_singleton];exact ne_of_cls jK vH (by show Value.type "list_iterator" ≠ .type "frame";decide))
    have dX:=K2.get _ _ fP (by simp only [mem_singleton];exact ne_of_cls fP vH (by show Value.type "list" ≠ .type "frame";decide))
    have sz:base≤h1.objs.size:=Nat.le_trans hb K1.size
    refine ih e' (K2.kok Jc (bK ll)) (Nat.le_trans sz K2.size) (tl:=[.ref a]) (.inr ⟨_,rfl⟩) X2 (fun ρ' h'=>hG ρ' (mem_cons_of_mem _ h')) (Je GM (hG ρ (mem_cons_self ..))) (by lia) rc ?_ ?_ DP dX mY ?_
    ·intro wZ hT' x hx hm
     exact absurd (lt2.2 wZ hT' x hm) (Nat.not_lt.mpr (fr x (mem_cons_of_mem _ hx)))
    ·intro hm
     exact absurd (lt2.1 c2 hm) (Nat.not_lt.mpr (fr c2 (mem_cons_self ..)))
    ·intro h3 tk3 k3 v3 T3 tl3 K3 af3 RT r3 f0 f1
     refine post h3 tk3 k3 v3 T3 tl3 (K1.to (K2.to (m:=[loc,it]) K3 (by simp) (by simp)) (by simp) (by simp)) af3 RT r3 (fun x=>nomatch x) (fun _ x hx=>?_)
     cases rem with
     | nil=>
      obtain ⟨rfl,rfl⟩:=f0 rfl
      exact Nat.le_trans sz (fr x hx)
     | cons b bs=>exact f1 (by simp) x hx
   rcases htl with rfl | ⟨el,rfl⟩
   ·exact CQ hfa hA hD Jc ll vH rv1 X1.1 nav (dis Ts (mem_cons_self ..)) GM (hG ρ (mem_cons_self ..)) (by lia) (by lia) fin
   ·exact CT hfa hA hD Jc ll vH rv1 X1.1 nav (dis Ts (mem_cons_self ..)) GM (hG ρ (mem_cons_self ..)) (by lia) (by lia) fin
theorem Keeps.refl0 (h:Heap):Keeps [] h h:=⟨Nat.le_refl _,fun _ _ e _=>e⟩
theorem aJ.notin {h:Heap} {a b:Nat} {ρ:aZ} {Ts:List Nat} (r:aJ h a ρ Ts) {o:Obj} (e:h.get? b=some o) (ne:o.cls≠.type "list"):a≠b:=by
 obtain ⟨c,e1⟩:=r.list
 exact ne_of_cls e1 e (fun x=>ne x.symm)
def Py (w:World) (fa n tk:Nat) (args:List Value) (L:Led) (pre aC:List Nat):Rs:=aQ w [] 743 (Ms w.params) ⟨.ref fa::args,[]⟩ L n tk pre aC
theorem zZ {fa l c loc it M a0 i0:Nat} {as rest:List Nat} {sq ini:Value} {ρ0:aZ} {ρs:List aZ} {rI:List Nat} {bF:List (List Nat)} {q:Rs} {k1:Nat→Nat} {A1:Around} {h1:Heap} {tk1:Nat} (hfa:fa=818∨fa=825) (hA:A.handled=none) (bT:A1.handled=none) (hD:A1.depth+2<recursionLimit) (kk:au w h) (Jc:au w h1)
  (K1:Keeps [it] h h1) (tV:h.objs.size≤loc) (nit:∀ m∈[it],845≤m) (e:as.drop i0=rest) (X:bC h1 rest ρs bF) (hG:∀ ρ∈ρs,GR 60 ρ) (GM:GR M ρ0) (hM:M+60*ρs.length<4900) (r0:aJ h1 a0 ρ0 rI) (dis:∀ Ts∈bF,∀ x∈rI,x∉Ts) (na:a0∉rest)
  (gi:h1.get? it=some (jN l i0)) (gl:h1.get? l=some (aj (as.map Value.ref).toArray c)) (jO:h1.get? loc=some (bB w.params bR k1 (Jf fa it a0 sq ini [])))
  (mX:∀ v k tl n tk,Nx tl→uI (aB w [] q (.ok .next) [(loc,bB w.params bR k (Jf fa it v sq ini tl))] n tk [1]) (.ok (.ret (.ref v))))
  (post:∀ h' tk' v T,Keeps [it] h h'→aJ h' v (ρs.foldl (comb fa) ρ0) T→(rest=[]→v=a0∧T=rI)→(rest≠[]→∀ x∈v::T,h.objs.size≤x)→R (.ok (.ret (.ref v))) ⟨h',g,d,tk',os⟩) :
  codeAny (model pw w) A1 (jf loc it) (fun r' s'=>Mn (xc w g d os A R) (aL q) (aR q r') s') ⟨h1,g,d,tk1,os⟩:=by
 refine Jg (base:=h.objs.size) hfa bT hD (Nat.le_trans (au.size (w:=w) kk) tV) (nit it (mem_cons_self ..)) rest e Jc K1.size (.inl rfl) X hG GM hM r0 dis na gi gl jO ?_
 intro h2 tk2 k2 v T tl K2 htl mY rv f0 f1
 have bW:∀ q∈([(loc,bB w.params bR k2 (Jf fa it v sq ini tl))]:Led),h2.get? q.1=some q.2:=bK mY
 have RV:845≤loc:=Nat.le_trans (au.size (w:=w) kk) tV
 have Ld:au w h2:=K2.kok Jc (by simp only [mem_cons,not_mem_nil,or_false,forall_eq_or_imp,forall_eq];exact ⟨RV,nit it (mem_cons_self ..)⟩)
 obtain ⟨n2,R2⟩:=(Rep.start Ld bW fV (bK RV)).up
 refine cI (aB w [] q (.ok .next) [(loc,bB w.params bR k2 (Jf fa it v sq ini tl))] (n2+845) tk2 [1]) .nil hA R2 (y:=.ok (.ret (.ref v))) (mX v k2 tl _ _ htl) (fun h3 R3=>?_) rfl
 have K3:Keeps [loc] h2 h3:=R3.keeps (G':=[]) (mod:=[loc]) rfl bW aX (by simp)
 have nt:aA h2 [loc]:=aA.of (by
  simp only [mem_singleton,forall_eq]
  exact ⟨_,mY,(by show Value.type "frame" ≠ .type "tuple";decide)⟩)
 have mz:Keeps [it] h h3:=K1.to (K2.to (m:=[loc,it]) K3 (by simp) (by simp)) (by simp) (fun x hx=>by
  simp only [mem_cons,not_mem_nil,or_false] at hx
  rcases hx with rfl | rfl
  ·exact .inr tV
  ·exact .inl (mem_cons_self ..))
 exact post h3 _ v T mz (rv.keeps K3 nt (by simp only [mem_singleton];exact rv.notin mY (by show Value.type "frame" ≠ .type "list";decide))) f0 f1
theorem qu {fa l c a0:Nat} {rest:List Nat} {ρ0:aZ} {ρs:List aZ} {rI:List Nat} {bF:List (List Nat)} (hfa:fa=818∨fa=825) (hA:A.handled=none) (hD:A.depth+3<recursionLimit) (kk:au w h) (ll:845≤l)
  (gl:h.get? l=some (aj ((a0::rest).map Value.ref).toArray c)) (r0:aJ h a0 ρ0 rI) (X:bC h rest ρs bF) (hG:∀ ρ∈ρs,GR 60 ρ) (G0:GR 60 ρ0) (hM:60+60*ρs.length<4900) (dis:∀ Ts∈bF,∀ x∈rI,x∉Ts) (na:a0∉rest)
  (post:∀ h' tk' v T,Keeps [] h h'→aJ h' v (ρs.foldl (comb fa) ρ0) T→(rest=[]→v=a0∧T=rI)→(rest≠[]→∀ x∈v::T,h.objs.size≤x)→R (.ok (.ret (.ref v))) ⟨h',g,d,tk',os⟩) :
  codeAny (model pw w) A (.call (.ref 743) ⟨[.ref fa,.ref l],[]⟩) R ⟨h,g,d,tk,os⟩:=by
 have own:∀ q∈([(l,aj (Value.ref a0::rest.map Value.ref).toArray c)]:Led),h.get? q.1=some q.2:=bK gl
 obtain ⟨n0,R0⟩:=(Rep.start kk own fV (bK ll)).up
 have dW:h.objs.size=n0+845:=R0.size
 refine dJ (Py w fa (n0+845) tk [.ref l] [(l,aj (Value.ref a0::rest.map Value.ref).toArray c)] [0,0,1,1,1,1,1,1] (og 0x11101011222113110101100200022210202200100)) .nil hA (by lia) R0 (n:=1) (c:=jf (n0+845) (n0+845+1))
  (by symm) (by rcases hfa with rfl | rfl <;> symm) (by rcases hfa with rfl | rfl <;> symm) ?_ rfl
 intro A1 h1 bT hD1 R1
 revert R1;refine gen (Py w fa (n0+845) tk [.ref l] [(l,aj (Value.ref a0::rest.map Value.ref).toArray c)] [0,0,1,1,1,1,1,1] (og 0x11101011222113110101100200022210202200100)) fun q eq1=>?_;intro R1
 have gi:=R1.at (a:=n0+845+1) (o:=jN l 1) 0 (by refine sb eq1 ?_;refine so hfa ?_ ?_ <;> symm)
 have jO:=R1.at (a:=n0+845) (o:=bB w.params bR (kOf q.L 1) (Jf fa (n0+845+1) a0 (.ref l) (.ref 735) [])) 1 (by refine sb eq1 ?_;refine so hfa ?_ ?_ <;> symm)
 have K1:Keeps [] h h1:=(R1.done 2 (G':=[(l,aj (Value.ref a0::rest.map Value.ref).toArray c)]) (mod:=[]) (by refine sb eq1 ?_;refine so hfa ?_ ?_ <;> symm) rfl own (by simp)).1
 have fP:=K1.get _ _ gl not_mem_nil
 refine zZ (as:=a0::rest) (i0:=1) hfa hA bT (by lia) kk R1.old (K1.mono aX) (by rw [dW];exact Nat.le_refl _) (by simp) rfl (X.keeps K1 (by simp [aA]) (by simp)) hG G0 hM (r0.keeps K1 (by simp [aA]) not_mem_nil) dis na gi fP jO
  (fun v k tl n tk' htl=>by refine sb eq1 ?_;refine se htl ?_ (fun _=>?_) <;> refine so hfa ?_ ?_ <;> symm) ?_
 intro h' tk' v T K' rv f0 f1
 exact post h' tk' v T ((Keeps.refl0 h).to K' aX (by simp only [mem_singleton,forall_eq];right;rw [dW];lia)) rv f0 f1
theorem jt {fa l c a0:Nat} {as:List Nat} {ρ0:aZ} {ρs:List aZ} {rI:List Nat} {bF:List (List Nat)} (hfa:fa=818∨fa=825) (hA:A.handled=none) (hD:A.depth+3<recursionLimit) (kk:au w h) (ll:845≤l) (nl:l≠a0)
  (gl:h.get? l=some (aj (as.map Value.ref).toArray c)) (r0:aJ h a0 ρ0 rI) (X:bC h as ρs bF) (hG:∀ ρ∈ρs,GR 60 ρ) (G0:GR 60 ρ0) (hM:60+60*ρs.length<4900) (dis:∀ Ts∈bF,∀ x∈rI,x∉Ts) (na:a0∉as)
  (post:∀ h' tk' v T,Keeps [] h h'→aJ h' v (ρs.foldl (comb fa) ρ0) T→(as=[]→v=a0∧T=rI)→(as≠[]→∀ x∈v::T,h.objs.size≤x)→R (.ok (.ret (.ref v))) ⟨h',g,d,tk',os⟩) :
  codeAny (model pw w) A (.call (.ref 743) ⟨[.ref fa,.ref l,.ref a0],[]⟩) R ⟨h,g,d,tk,os⟩:=by
 obtain ⟨c0,g0⟩:=r0.list
 obtain ⟨m0,e0⟩:=cH (r0.lo a0 (mem_cons_self ..))
 have own:∀ q∈([(l,aj (as.map Value.ref).toArray c),(a0,aj (rI.map Value.ref).toArray c0)]:Led),h.get? q.1=some q.2:=by simp [gl,g0]
 obtain ⟨n0,R0⟩:=(Rep.start kk own (lG nl) (by simp [ll,r0.lo a0 (mem_cons_self ..)])).up
 have dW:h.objs.size=n0+845:=R0.size
 subst e0
 refine dJ (Py w fa (n0+845) tk [.ref l,.ref (m0+845)] [(l,aj (as.map Value.ref).toArray c),(m0+845,aj (rI.map Value.ref).toArray c0)] [0,0,1,1,1,1,1,1] (og 0x11101011222204022210202200100)) .nil hA (by lia) R0 (n:=1) (c:=jf (n0+845) (n0+845+1))
  (by symm) (by rcases hfa with rfl | rfl <;> symm) (by rcases hfa with rfl | rfl <;> symm) ?_ rfl
 intro A1 h1 bT hD1 R1
 revert R1;refine gen (Py w fa (n0+845) tk [.ref l,.ref (m0+845)] [(l,aj (as.map Value.ref).toArray c),(m0+845,aj (rI.map Value.ref).toArray c0)] [0,0,1,1,1,1,1,1] (og 0x11101011222204022210202200100)) fun q eq1=>?_;intro R1
 have gi:=R1.at (a:=n0+845+1) (o:=jN l 0) 0 (by refine sb eq1 ?_;refine so hfa ?_ ?_ <;> symm)
 have jO:=R1.at (a:=n0+845) (o:=bB w.params bR (kOf q.L 1) (Jf fa (n0+845+1) (m0+845) (.ref l) (.ref (m0+845)) [])) 1 (by refine sb eq1 ?_;refine so hfa ?_ ?_ <;> symm)
 have K1:Keeps [] h h1:=(R1.done 2 (G':=[(l,aj (as.map Value.ref).toArray c),(m0+845,aj (rI.map Value.ref).toArray c0)]) (mod:=[]) (by refine sb eq1 ?_;refine so hfa ?_ ?_ <;> symm) rfl own (by simp)).1
 have fP:=K1.get _ _ gl not_mem_nil
 refine zZ (as:=as) (i0:=0) hfa hA bT (by lia) kk R1.old (K1.mono aX) (by rw [dW];exact Nat.le_refl _) (by simp) rfl (X.keeps K1 (by simp [aA]) (by simp)) hG G0 hM (r0.keeps K1 (by simp [aA]) not_mem_nil) dis na gi fP jO
  (fun v k tl n tk' htl=>by refine sb eq1 ?_;refine se htl ?_ (fun _=>?_) <;> refine so hfa ?_ ?_ <;> symm) ?_
 intro h' tk' v T K' rv f0 f1
 exact post h' tk' v T ((Keeps.refl0 h).to K' aX (by simp only [mem_singleton,forall_eq];right;rw [dW];lia)) rv f0 f1
theorem pG {fa l c a0 it:Nat} {rest:List Nat} {ρ0:aZ} {ρs:List aZ} {rI:List Nat} {bF:List (List Nat)} (hfa:fa=818∨fa=825) (hA:A.handled=none) (hD:A.depth+3<recursionLimit) (kk:au w h) (ll:845≤l) (lit:845≤it)
  (git:h.get? it=some (jN l 0)) (gl:h.get? l=some (aj ((a0::rest).map Value.ref).toArray c)) (r0:aJ h a0 ρ0 rI) (X:bC h rest ρs bF) (hG:∀ ρ∈ρs,GR 60 ρ) (G0:GR 60 ρ0) (hM:60+60*ρs.length<4900) (dis:∀ Ts∈bF,∀ x∈rI,x∉Ts) (na:a0∉rest)
  (post:∀ h' tk' v T,Keeps [it] h h'→aJ h' v (ρs.foldl (comb fa) ρ0) T→(rest=[]→v=a0∧T=rI)→(rest≠[]→∀ x∈v::T,h.objs.size≤x)→R (.ok (.ret (.ref v))) ⟨h',g,d,tk',os⟩) :
  codeAny (model pw w) A (.call (.ref 743) ⟨[.ref fa,.ref it],[]⟩) R ⟨h,g,d,tk,os⟩:=by
 have nil:it≠l:=ne_of_cls git gl (by show Value.type "list_iterator" ≠ .type "list";decide)
 have own:∀ q∈([(it,jN l 0),(l,aj (Value.ref a0::rest.map Value.ref).toArray c)]:Led),h.get? q.1=some q.2:=by simp [git];simpa using gl
 obtain ⟨n0,R0⟩:=(Rep.start kk own (lG nil) (by simp [ll,lit])).up
 have dW:h.objs.size=n0+845:=R0.size
 refine dJ (Py w fa (n0+845) tk [.ref it] [(it,jN l 0),(l,aj (Value.ref a0::rest.map Value.ref).toArray c)] [0,0,1,1,1,1,1,1] (og 0x11202022111223220202200100011120202200100)) .nil hA (by lia) R0 (n:=1) (c:=jf (n0+845) it)
  (by symm) (by rcases hfa with rfl | rfl <;> symm) (by rcases hfa with rfl | rfl <;> symm) ?_ rfl
 intro A1 h1 bT hD1 R1
 revert R1;refine gen (Py w fa (n0+845) tk [.ref it] [(it,jN l 0),(l,aj (Value.ref a0::rest.map Value.ref).toArray c)] [0,0,1,1,1,1,1,1] (og 0x11202022111223220202200100011120202200100)) fun q eq1=>?_;intro R1
 have jO:=R1.at (a:=n0+845) (o:=bB w.params bR (kOf q.L 0) (Jf fa it a0 (.ref it) (.ref 735) [])) 0 (by refine sb eq1 ?_;refine so hfa ?_ ?_ <;> symm)
 have fin:=R1.done 1 (G':=[(it,jN l 1),(l,aj (Value.ref a0::rest.map Value.ref).toArray c)]) (mod:=[it]) (by refine sb eq1 ?_;refine so hfa ?_ ?_ <;> symm) rfl own (by simp)
 have gi:=fin.2 (it,jN l 1) mem_cons_self
 have K1:=fin.1
 have fP:=K1.get _ _ gl (cZ (Ne.symm nil))
 have nt:aA h [it]:=aA.of (by
  simp only [mem_singleton,forall_eq]
  exact ⟨_,git,(by show Value.type "list_iterator" ≠ .type "tuple";decide)⟩)
 have nl:∀ {b:Nat} {ρ:aZ} {Ts:List Nat},aJ h b ρ Ts→b∉[it]:=fun r=>by
  simp only [mem_singleton]
  exact r.notin git (by show Value.type "list_iterator" ≠ .type "list";decide)
 have nla:∀ {bs:List Nat} {ρs:List aZ} {bF:List (List Nat)},bC h bs ρs bF→∀ b∈bs,b∉[it]:=by
  intro bs
  induction bs with
  | nil=>intro _ _ _ b hb;exact nomatch hb
  | cons b' bs ihb=>
   intro ρs bF X b hb
   match ρs,bF,X with
   | ρ::ρs,Ts::bF,X=>
    rcases List.mem_cons.mp hb with rfl | hb
    ·exact nl X.1
    ·exact ihb X.2 b hb
 refine zZ (as:=a0::rest) (i0:=1) hfa hA bT (by lia) kk R1.old K1 (by rw [dW];exact Nat.le_refl _) (bK lit) rfl (X.keeps K1 nt (nla X)) hG G0 hM (r0.keeps K1 nt (nl r0)) dis na gi fP jO
  (fun v k tl n tk' htl=>by refine sb eq1 ?_;refine se htl ?_ (fun _=>?_) <;> refine so hfa ?_ ?_ <;> symm) ?_
 intro h' tk' v T K' rv f0 f1
 exact post h' tk' v T K' rv f0 f1
theorem Jh {h₀:Heap} {gv:List Addr} {L:Led} {nx:Nat} {f:Nat} {ob:Obj} {args:Args} {H:List Hk} (r1 r2:Rs) (HH:aF w H) (hA:A.handled=none) (hroom:A.depth<recursionLimit) (rep:Rep (K w) h₀ gv L nx h)
  (o1 o2:List Nat) (gf:h.get? f=some ob) (hf:ob.data=.func (fdOf ob)) (hg:(fdOf ob).scope.isGenerator=false) (hc:(fdOf ob).scope.isCoroutine=false)
  (e1:r1=ig w f (fdOf ob) args L nx tk o1) (ok1:Good r1) (p1:u0 r1=true)
  (e2:r2=xG w H (iR r1) r1.L r1.nx r1.tk o2) (ok2:Good r2) (ou:gQ (xc w g d os A R) h₀ gv r2) :
  codeAny (model pw w) A (.call (.ref f) args) R ⟨h,g,d,tk,os⟩:=by
 unfold ig at e1
 subst e1 e2
 refine jQ gf hf hg hc hroom ?_
 let V:XC:={prog:=pw,w,K:=K w,g,d,os,A₀:=A.under (.call (.ref f) args),Q₀:=fun fin s'=>s'.heap.NoLimit∧∃ c,fin=.again c∧c.quiet=true∧codeAny (model pw w) A c R s',E₀:=fun e s'=>R (.error e) s',R₀:=fun _ _=>False}
 refine (sim_sound V h₀ gv hA [] aF.nil 2000 .base (Bt f (fdOf ob) args) L nx tk o1 [] [] [] ok1.ok ?_).2 h rep
 obtain ⟨q1,q2⟩:=sE p1
 refine lH q1 fun h' R'=>⟨au.noLimit R'.old,_,rfl,q2,?_⟩
 exact su HH o2 hA R' ok2 ou
noncomputable abbrev RW (ob:Obj):Prop:=(ob.data,(fdOf ob).scope.isGenerator,(fdOf ob).scope.isCoroutine)=(.func (fdOf ob),false,false)
theorem yr {h₀:Heap} {gv:List Addr} {L:Led} {nx:Nat} {f:Nat} {ob:Obj} {args:Args} {n:Nat} {c:Code} {o1 o2:List Nat} {H:List Hk} (q:Rs) (HH:aF w H) (hA:A.handled=none) (hroom:A.depth<recursionLimit) (rep:Rep (K w) h₀ gv L nx h)
  (gf:h.get? f=some ob) (hf:RW ob) (pre:iB (ig w f (fdOf ob) args L nx tk o1)) (ok:fU q n c)
  (k:∀ A' h,A'.handled=none→A'.depth=A.depth+n→Rep (K w) h₀ gv q.L q.nx h→codeAny (model pw w) A' c (fun r' s'=>Mn (xc w g d os A R) (aL q) (aR q r') s') ⟨h,g,d,q.tk,os⟩)
  (e:q=aQ w H f ob args L nx tk o1 o2):codeAny (model pw w) A (.call (.ref f) args) R ⟨h,g,d,tk,os⟩:=by
 unfold aQ at e
 subst e
 obtain ⟨b,hf⟩:=Prod.mk.inj hf
 obtain ⟨e1,e2⟩:=Prod.mk.inj hf
 exact Jh _ _ HH hA hroom rep o1 o2 gf b e1 e2 rfl pre.good pre.ok rfl ok.good (j9 hA ok k)
section
open PySem.Builtin
structure TP where
 stm:Nat
 sd:Nat
 fn:Nat
 cd:Nat
 c1:Nat
 c2:Nat
 ct:Nat
 kv:Nat
 kr:Nat
 v:Nat
 tv:Nat
 b:List UInt8
 tb:Nat
 x0:Value
 tq:Nat
 xs:List Value
noncomputable def Gs:Stmt:=gC (iJ (fs 29)) 1
def TP.sdO (P:Params) (t:TP):Obj:=⟨.type "dict",none,.dict ⟨[dE P (lits "value") t.kv (.int (Int.ofNat t.v) t.tv),dE P (lits "read") t.kr (.ref t.fn)]⟩ 2,⟨[]⟩⟩
noncomputable def TP.fnO (t:TP):Obj:=⟨.type "function",none,.func ⟨lits "take",lits "_law_stream.<locals>.take",fnA Gs,.stmts (iJ Gs),zq Gs,3,[(lits "stream",t.c1),(lits "octets",t.c2)],.none,.none,.none,.str (lits "law_il0183_01") 1215,none,.ref t.cd,.ref t.ct,0⟩,⟨[]⟩⟩
noncomputable def TP.cdO (t:TP):Obj:=⟨.type "code",none,.fields ⟨t.x0::.str (lits "_law_stream.<locals>.take") t.tq::t.xs⟩,⟨[]⟩⟩
def TP.led (P:Params) (t:TP):Led:=[(t.stm,inst 774 t.sd),(t.sd,t.sdO P),(t.fn,t.fnO),(t.cd,t.cdO),(t.c1,yh t.stm),(t.c2,⟨.type "cell",none,.cell (some (.bytes ⟨t.b⟩ t.tb)),⟨[]⟩⟩)]
structure cV (w:World) (h:Heap) (t:TP):Prop where
 own:∀ q∈t.led w.params,h.get? q.1=some q.2
 nd:((t.led w.params).map Prod.fst).Nodup
 lo:∀ q∈t.led w.params,845≤q.1
 v:t.v≤t.b.length
 len:t.b.length<100000
def vI (a b:Int):Hk:=⟨false,fun c _=>(.call (.builtin "int.__add__") ⟨[.int a (tokV (iK c 0)),.int b (tokV (iK c 1))],[]⟩,default),fun _ _ tk=>.int (a+b) tk,1⟩
def tW (x:List UInt8):Hk:=⟨false,fun c _=>(.call (.builtin "len") ⟨[.bytes ⟨x⟩ (tokV (iK c 0))],[]⟩,default),fun _ _ tk=>.int (Int.ofNat x.length) (tk+1),2⟩
theorem tX {a b:Int}:gB pw w (K w) (vI a b):=by
 intro g d os A R h tk c p hA e _ _ post
 obtain ⟨ec,_⟩:=Prod.mk.inj e
 rw [ec]
 exact dw F.slot_int_add (typeIs_int _ _ _) F.entry_int_add (F.args_int_add_2 _ _) (AutoIntG4.int___add___int_int_0 a _ b _) (dN post)
theorem tY {x:List UInt8} (hx:x.length<2 ^ 62):gB pw w (K w) (tW x):=by
 intro g d os A R h tk c p hA e _ _ post
 obtain ⟨ec,_⟩:=Prod.mk.inj e
 rw [ec]
 refine iT kind_len plain_len entry_len (args_len1 _) ?_
 unfold Builtin.«len»
 refine wpAny_bind (m:=oneArg "len" _) (wpAny_pure ?_)
 refine yZ (tokV (iK c 0)) fun t=>?_
 refine wpAny_bind (m:=callSpecial? (.bytes ⟨x⟩ t) (Str.ofString "__len__")) (wpAny_callSpecial?_slot (name:=Str.ofString "__len__") (typeIs_bytes _ ⟨x⟩ t) FB.slot_bytes_len (call_gives FB.slot_bytes_len (typeIs_bytes _ ⟨x⟩ t) FB.entry_bytes_len (FB.args_bytes_len_1 _) (gives_bytes_len ⟨x⟩ t) ?_))
 show wpAny _ _ _ _ _ ⟨h,g,d,tk+1,os⟩
 refine wpAny_bind (wpAny_holding (wpAny_pure ?_))
 refine wpAny_bind (wpAny_letGo ?_)
 have e:((⟨x⟩:Array UInt8).size:Int)=(x.length:Int):=rfl
 rw [e]
 show wpAny _ _ (if (x.length:Int)<0 then _ else _) _ _ _
 rw [if_neg (by lia)]
 show wpAny _ _ (if (x.length:Int) ≥ 2 ^ 63 then _ else _) _ _ _
 rw [if_neg (by lia)]
 exact wpAny_bind (wpAny_mkInt (wpAny_pure ⟨_,rfl,dN post⟩))
theorem yt {a:Nat} {b:List UInt8} {t p q t1 t2:Nat} (hs:h.get? a=some ⟨.type "slice",none,.fields ⟨[.int (Int.ofNat p) t1,.int (Int.ofNat q) t2,.none]⟩,⟨[]⟩⟩) (hp:p≤b.length) (hq:q≤b.length) (hz:b.length<100000)
  (post:∀ t' tk',R (.ok (.ret (.bytes ⟨(b.drop p).take (q - p)⟩ t'))) ⟨h,g,d,tk',os⟩) :
  codeAny (model pw w) A (.call (.builtin "bytes.__getitem__") ⟨[.bytes ⟨b⟩ t,.ref a],[]⟩) R ⟨h,g,d,tk,os⟩:=by
 have c1:∀ {x:Nat},x≤b.length→clipAt b.length (Int.ofNat x)=x:=fun {x} hx=>by
  unfold clipAt
  rw [if_neg (by simp)]
  simp only [Int.ofNat_eq_natCast]
  lia
 have e:KBy.picked ⟨b⟩ (some (Int.ofNat p)) (some (Int.ofNat q))=⟨(b.drop p).take (q - p)⟩:=by
  rw [KBc.picked_eq]
  simp only [Option.elim]
  show ((b.drop (clipAt b.length (Int.ofNat p))).take (clipAt b.length (Int.ofNat q) - clipAt b.length (Int.ofNat p))).toArray=_
  rw [c1 hp,c1 hq]
 have hsz:200000≤sizeLine:=by decide
 refine mF FB.slot_bytes_getitem (typeIs_bytes _ _ _) FB.entry_bytes_getitem (FB.args_bytes_getitem_2 _ _) (KBc.meets_slice2 ⟨b⟩ t a (.int (Int.ofNat p) t1) (.int (Int.ofNat q) t2)) ⟨⟨_,hs,rfl,rfl⟩,?_,fun t' k=>?_⟩
 ·have:=KBc.size_picked_le ⟨b⟩ (some (Int.ofNat p)) (some (Int.ofNat q))
  have e2:(⟨b⟩:Array UInt8).size=b.length:=rfl
  lia
 ·rw [e];exact post t' k
def tk1 (w:World) (H:List Hk) (t:TP) (n tn nx tk:Nat) (aC:List Nat):Rs:=aQ w H t.fn t.fnO ⟨[.int (Int.ofNat n) tn],[]⟩ (t.led w.params) nx tk [4,1,1] aC
noncomputable def Vq (L:Led) (i j:Nat):Nat:=match L[i]? with
 | some (_,o)=>match o.data with
  | .fields vs=>match vs.toList[j]? with
   | some v=>tokV v
   | none=>0
  | _=>0
 | none=>0
theorem Gw {t:TP} {n v' jB t1 t2 sl:Nat} {A1:Around} {h1:Heap} {q:Rs} (hA:A.handled=none) (bT:A1.handled=none) (kk:au w h) (X:cV w h t) (hn:n<1000) (R1:Rep (K w) h ((t.led w.params).map Prod.fst) q.L q.nx h1)
  (hv':v'=min (t.v+n) t.b.length) (hle:v'≤t.b.length) (e0:q.L[0]? = some (sl,⟨.type "slice",none,.fields ⟨[.int (Int.ofNat t.v) t1,.int (Int.ofNat v') t2,.none]⟩,⟨[]⟩⟩)) (e1:q.L.drop 7=({t with v:=v',tv:=jB}:TP).led w.params)
  (mX:∀ b n tk',uI (aB w [] q (.ok (.ret b)) [] n tk' []) (.ok (.ret b)))
  (post:∀ h' tk' t' u jB,Keeps [t.sd] h h'→t'={t with v:=min (t.v+n) t.b.length,tv:=jB}→cV w h' t'→R (.ok (.ret (.bytes ⟨(t.b.drop t.v).take n⟩ u))) ⟨h',g,d,tk',os⟩) :
  codeAny (model pw w) A1 (.call (.builtin "bytes.__getitem__") ⟨[.bytes ⟨t.b⟩ t.tb,.ref sl],[]⟩) (fun r' s'=>Mn (xc w g d os A R) (aL q) (aR q r') s') ⟨h1,g,d,q.tk,os⟩:=by
 have hv:=X.v
 refine yt (R1.at 0 e0) hv hle X.len fun u tk2=>?_
 have fin:=R1.done 7 (G:=t.led w.params) (G':=({t with v:=v',tv:=jB}:TP).led w.params) (mod:=[t.sd]) e1 rfl X.own (by
  intro p hp
  simp only [TP.led,mem_cons,not_mem_nil,or_false] at hp ⊢
  rcases hp with rfl | rfl | rfl | rfl | rfl | rfl <;> simp [TP.fnO,TP.cdO])
 have X1:cV w h1 {t with v:=v',tv:=jB}:=⟨fin.2,X.nd,fun q hq=>by
  have hq':q.1∈(({t with v:=v',tv:=jB}:TP).led w.params).map Prod.fst:=mem_map_of_mem hq
  have:q.1∈(t.led w.params).map Prod.fst:=hq'
  obtain ⟨p,hp,e⟩:=List.mem_map.mp this
  rw [← e];exact X.lo p hp,hle,X.len⟩
 obtain ⟨n2,R2⟩:=(Rep.nil (w:=w) R1.old).up
 refine cI (aB w [] q (.ok (.ret (.bytes ⟨(t.b.drop t.v).take (v' - t.v)⟩ u))) [] (n2+845) tk2 []) .nil hA R2 (mX _ _ _) (fun h3 R3=>?_) rfl
 have K3:=R3.fresh.1
 have eb:(t.b.drop t.v).take (v' - t.v)=(t.b.drop t.v).take n:=by
  rw [hv']
  by_cases c:t.v+n≤t.b.length
  ·rw [Nat.min_eq_left c,Nat.add_sub_cancel_left]
  ·rw [Nat.min_eq_right (by lia),List.take_of_length_le (by simp),List.take_of_length_le (by simp;lia)]
 have ev:(.ok (.ret (.bytes ⟨(t.b.drop t.v).take (v' - t.v)⟩ u)):Result)=.ok (.ret (.bytes ⟨(t.b.drop t.v).take n⟩ u)):=by rw [eb]
 rw [ev]
 refine post h3 _ {t with v:=v',tv:=jB} u jB (fin.1.trans (K3.mono aX)) (by rw [hv']) ⟨fun q hq=>K3.get _ _ (X1.own q hq) not_mem_nil,X1.nd,X1.lo,X1.v,X1.len⟩
theorem kW {t:TP} {n tn:Nat} (hA:A.handled=none) (hD:A.depth+1<recursionLimit) (kk:au w h) (X:cV w h t) (hn:n<1000)
  (post:∀ h' tk' t' u jB,Keeps [t.sd] h h'→t'={t with v:=min (t.v+n) t.b.length,tv:=jB}→cV w h' t'→R (.ok (.ret (.bytes ⟨(t.b.drop t.v).take n⟩ u))) ⟨h',g,d,tk',os⟩) :
  codeAny (model pw w) A (.call (.ref t.fn) ⟨[.int (Int.ofNat n) tn],[]⟩) R ⟨h,g,d,tk,os⟩:=by
 obtain ⟨n0,R0⟩:=(Rep.start kk X.own X.nd X.lo).up
 have gf:=X.own (t.fn,t.fnO) (by simp [TP.led])
 have hv:=X.v
 have hlen:=X.len
 by_cases c:t.v+n≤t.b.length
 ·refine yr (tk1 w [vI (Int.ofNat t.v) (Int.ofNat n),tW t.b,iM "int.__lt__" (Int.ofNat t.b.length) (Int.ofNat t.v+Int.ofNat n) false] t n tn (n0+845) tk (og 0x118077000700007b6c8880700070700700007b33312232202021042232202021011122322020210101011003700211001130220002000026)) (aF.cons tX (aF.cons (tY (by lia)) (aF.cons (nQ (by simp;lia)) aF.nil))) hA (by lia) R0 gf (by symm)
   (n:=1) (c:=.call (.builtin "bytes.__getitem__") ⟨[.bytes ⟨t.b⟩ t.tb,.ref (n0+851)],[]⟩) (by symm) (by symm) ?_ rfl
  intro A1 h1 bT hD1 R1
  revert R1;refine gen (tk1 w [vI (Int.ofNat t.v) (Int.ofNat n),tW t.b,iM "int.__lt__" (Int.ofNat t.b.length) (Int.ofNat t.v+Int.ofNat n) false] t n tn (n0+845) tk (og 0x118077000700007b6c8880700070700700007b33312232202021042232202021011122322020210101011003700211001130220002000026)) fun q1 eq1=>?_;intro R1
  exact Gw hA bT kk X hn R1 (jB:=dg q1.L 8 0) (t1:=Vq q1.L 0 0) (t2:=Vq q1.L 0 1) (v':=t.v+n) (by lia) (by lia) (by refine sb eq1 ?_;symm) (by refine sb eq1 ?_;symm) (fun b n tk'=>by refine sb eq1 ?_;symm) post
 ·refine yr (tk1 w [vI (Int.ofNat t.v) (Int.ofNat n),tW t.b,iM "int.__lt__" (Int.ofNat t.b.length) (Int.ofNat t.v+Int.ofNat n) true] t n tn (n0+845) tk (og 0x118077000700007b6c8880700070700700007b33312232202021011142232202021011122322020210101011003700211001130220002000026)) (aF.cons tX (aF.cons (tY (by lia)) (aF.cons (nQ (by simp;lia)) aF.nil))) hA (by lia) R0 gf (by symm)
   (n:=1) (c:=.call (.builtin "bytes.__getitem__") ⟨[.bytes ⟨t.b⟩ t.tb,.ref (n0+851)],[]⟩) (by symm) (by symm) ?_ rfl
  intro A1 h1 bT hD1 R1
  revert R1;refine gen (tk1 w [vI (Int.ofNat t.v) (Int.ofNat n),tW t.b,iM "int.__lt__" (Int.ofNat t.b.length) (Int.ofNat t.v+Int.ofNat n) true] t n tn (n0+845) tk (og 0x118077000700007b6c8880700070700700007b33312232202021011142232202021011122322020210101011003700211001130220002000026)) fun q1 eq1=>?_;intro R1
  exact Gw hA bT kk X hn R1 (jB:=dg q1.L 8 0) (t1:=Vq q1.L 0 0) (t2:=Vq q1.L 0 1) (v':=t.b.length) (by lia) (by lia) (by refine sb eq1 ?_;symm) (by refine sb eq1 ?_;symm) (fun b n tk'=>by refine sb eq1 ?_;symm) post
end
def exD (P:Params) (kv:Nat) (v:Int) (tv:Nat):Obj:=⟨.type "dict",none,.dict ⟨[dE P (lits "value") kv (.int v tv)]⟩ 1,⟨[]⟩⟩
noncomputable def pH (L:Led) (i:Nat):List Value:=match L[i]? with
 | some (_,o)=>match o.data with
  | .fields vs=>vs.toList
  | _=>[]
 | none=>[]
theorem Rep.startK {L:Led} (k:au w h) (own:∀ p∈L,h.get? p.1=some p.2) (nd:(L.map Prod.fst).Nodup) (ap:∀ p∈L,K w p.1=none):Rep (K w) h (L.map Prod.fst) L h.objs.size h:=
 ⟨rfl,k,own,nd,ap,fun _ _ e _=>e,Nat.le_refl _,fun p hp=>.inl (mem_map_of_mem hp)⟩
def RX (w:World) (n tk a dx:Nat) (v:Int) (tv:Nat):Rs:=aQ w [] 771 (QW w.params) ⟨[.ref a,.int v tv],[]⟩ [(a,inst 774 dx),(dx,dI)] n tk [0,1,1,1,1] (og 0x1333020002020020000211)
theorem z7 {a dx tv:Nat} {v:Int} (hA:A.handled=none) (hD:A.depth<recursionLimit) (k:au w h) (la:845≤a) (ld:845≤dx) (ne:a≠dx) (ga:h.get? a=some (inst 774 dx)) (gd:h.get? dx=some dI)
  (post:∀ h' tk' kv,Keeps [dx] h h'→h'.get? dx=some (exD w.params kv v tv)→R (.ok (.ret .none)) ⟨h',g,d,tk',os⟩) :
  codeAny (model pw w) A (.call (.ref 771) ⟨[.ref a,.int v tv],[]⟩) R ⟨h,g,d,tk,os⟩:=by
 have own:∀ q∈([(a,inst 774 dx),(dx,dI)]:Led),h.get? q.1=some q.2:=by simp [ga,gd]
 obtain ⟨n0,R0⟩:=(Rep.start k own (lG ne) (by simp [la,ld])).up
 refine bV (RX w (n0+845) tk a dx v tv) .nil hA hD R0 (y:=.ok (.ret .none)) (by symm) (by symm) (by symm) (fun h' R'=>?_) rfl
 have fin:=R'.done 1 (G':=[(a,inst 774 dx),(dx,exD w.params (rQ (RX w (n0+845) tk a dx v tv).L 2 0) v tv)]) (mod:=[dx]) (by symm) rfl own (by simp)
 exact post h' _ _ fin.1 (fin.2 _ (mem_cons_of_mem _ (mem_cons_self ..)))
def sm1 (w:World) (n tk:Nat) (b:List UInt8) (tb:Nat):Rs:=aQ w [] 785 (QX w.params) ⟨[.bytes ⟨b⟩ tb],[]⟩ [(780,sG)] n tk [0,2,2] (og 0x1100001010000000000000000000000000000000000)
def sm2 (w:World) (n tk:Nat) (q:Rs) (L:Led):Rs:=aB w [] q (.ok (.ret .none)) L n tk (og 0x1baaa0900090900900009bddd000ddd7033)
theorem RZ {w:World}:K w 780=none:=by symm
theorem yu {b:List UInt8} {tb:Nat} (hA:A.handled=none) (hD:A.depth+2<recursionLimit) (kk:au w h) (Gx:h.get? 780=some sG) (hb:b.length<100000)
  (post:∀ h' tk' t,Keeps [780] h h'→cV w h' t→t.v=0→t.b=b→(∀ q∈t.led w.params,h.objs.size≤q.1)→(∃ m,h'.get? 780=some (zx m))→R (.ok (.ret (.ref t.stm))) ⟨h',g,d,tk',os⟩) :
  codeAny (model pw w) A (.call (.ref 785) ⟨[.bytes ⟨b⟩ tb],[]⟩) R ⟨h,g,d,tk,os⟩:=by
 have own:∀ q∈([(780,sG)]:Led),h.get? q.1=some q.2:=bK Gx
 obtain ⟨n0,R0⟩:=(Rep.startK kk own fV (bK RZ)).up
 have dW:h.objs.size=n0+845:=R0.size
 refine dJ (sm1 w (n0+845) tk b tb) .nil hA (by lia) R0 (n:=2) (c:=.call (.ref 771) ⟨[.ref (n0+845+4),.int 0 tk],[]⟩) (by symm) (by symm) (by symm) ?_ rfl
 intro A1 h1 bT hD1 R1
 have cN:=R1.cast (L':=[(n0+845+4,inst 774 (n0+845+3)),(n0+845+3,dI)]++(sm1 w (n0+845) tk b tb).L.drop 2) (by symm)
 refine z7 bT (by lia) R1.old (a:=n0+845+4) (dx:=n0+845+3) (by lia) (by lia) (by lia) (cN.at 0 rfl) (cN.at 1 rfl) ?_
 intro h2 tk2 kv K2 G2
 obtain ⟨n2,R2⟩:=(cN.after1 (o:=dI) 1 rfl K2 (Nat.le_trans (Nat.le_add_left 845 n0) (Nat.le_add_right _ 3)) G2).up
 revert R2;refine gen (sm1 w (n0+845) tk b tb) fun q1 eq1=>?_;intro R2
 refine cI (sm2 w (n2+845) tk2 q1 _) .nil hA R2 (y:=.ok (.ret (.ref (n0+845+4)))) (by refine sb eq1 ?_;symm) (fun h3 R3=>?_) rfl
 revert R3;refine gen (sm2 w (n2+845) tk2 q1 _) ?_;intro q2 eq2;intro R3
 have lt:n0+845+4<n2+845:=by
  have a:=Heap.lt_size (cN.at (a:=n0+845+4) 0 rfl)
  rw [← R2.size]
  exact Nat.lt_of_lt_of_le a K2.size
 have f0:q2.L[0]? = some (n2+845+7,({stm:=n0+845+4,sd:=n0+845+3,fn:=n2+845+7,cd:=n2+845+6,c1:=n0+845+2,c2:=n0+845+1,ct:=n2+845,kv:=rQ q2.L 9 0,kr:=rQ q2.L 9 1,v:=0,tv:=tk,b:=b,tb:=tb,x0:=((pH q2.L 1)[0]?).getD .none,tq:=tokV (((pH q2.L 1)[1]?).getD .none),xs:=(pH q2.L 1).drop 2}:TP).fnO):=by refine sb eq2 (sb eq1 ?_);symm
 have f1:q2.L[1]? = some (n2+845+6,({stm:=n0+845+4,sd:=n0+845+3,fn:=n2+845+7,cd:=n2+845+6,c1:=n0+845+2,c2:=n0+845+1,ct:=n2+845,kv:=rQ q2.L 9 0,kr:=rQ q2.L 9 1,v:=0,tv:=tk,b:=b,tb:=tb,x0:=((pH q2.L 1)[0]?).getD .none,tq:=tokV (((pH q2.L 1)[1]?).getD .none),xs:=(pH q2.L 1).drop 2}:TP).cdO):=by refine sb eq2 (sb eq1 ?_);symm
 have f8:q2.L[8]? = some (n0+845+4,inst 774 (n0+845+3)):=by refine sb eq2 (sb eq1 ?_);symm
 have f9:q2.L[9]? = some (n0+845+3,({stm:=n0+845+4,sd:=n0+845+3,fn:=n2+845+7,cd:=n2+845+6,c1:=n0+845+2,c2:=n0+845+1,ct:=n2+845,kv:=rQ q2.L 9 0,kr:=rQ q2.L 9 1,v:=0,tv:=tk,b:=b,tb:=tb,x0:=((pH q2.L 1)[0]?).getD .none,tq:=tokV (((pH q2.L 1)[1]?).getD .none),xs:=(pH q2.L 1).drop 2}:TP).sdO w.params):=by refine sb eq2 (sb eq1 ?_);symm
 have f10:q2.L[10]? = some (n0+845+2,yh (n0+845+4)):=by refine sb eq2 (sb eq1 ?_);symm
 have f11:q2.L[11]? = some (n0+845+1,⟨.type "cell",none,.cell (some (.bytes ⟨b⟩ tb)),⟨[]⟩⟩):=by refine sb eq2 (sb eq1 ?_);symm
 have f12:q2.L[13]? = some (780,zx (pH q2.L 13)):=by refine sb eq2 (sb eq1 ?_);symm
 revert f0 f1 f9;refine gen (({stm:=n0+845+4,sd:=n0+845+3,fn:=n2+845+7,cd:=n2+845+6,c1:=n0+845+2,c2:=n0+845+1,ct:=n2+845,kv:=rQ q2.L 9 0,kr:=rQ q2.L 9 1,v:=0,tv:=tk,b:=b,tb:=tb,x0:=((pH q2.L 1)[0]?).getD .none,tq:=tokV (((pH q2.L 1)[1]?).getD .none),xs:=(pH q2.L 1).drop 2}:TP)) fun t et=>?_;intro f0 f1 f9
 have e1:t.stm=n0+845+4:=by rw [← et]
 have e2:t.sd=n0+845+3:=by rw [← et]
 have e3:t.fn=n2+845+7:=by rw [← et]
 have e4:t.cd=n2+845+6:=by rw [← et]
 have e5:t.c1=n0+845+2:=by rw [← et]
 have e6:t.c2=n0+845+1:=by rw [← et]
 have e7:t.v=0:=by rw [← et]
 have e8:t.b=b:=by rw [← et]
 have e9:t.tb=tb:=by rw [← et]
 have low:∀ q∈t.led w.params,n0+845≤q.1:=by
  intro q hq
  simp only [TP.led,mem_cons,not_mem_nil,or_false] at hq
  rcases hq with rfl | rfl | rfl | rfl | rfl | rfl <;> simp only [e1,e2,e3,e4,e5,e6] <;> lia
 have X:cV w h3 t:=by
  refine ⟨fun q hq=>?_,?_,fun q hq=>Nat.le_trans (Nat.le_add_left 845 n0) (low q hq),by rw [e7];exact Nat.zero_le _,by rw [e8];exact hb⟩
  ·simp only [TP.led,mem_cons,not_mem_nil,or_false] at hq
   rw [e1,e2,e3,e4,e5,e6,e8,e9] at hq
   rcases hq with rfl | rfl | rfl | rfl | rfl | rfl
   ·exact R3.at 8 f8
   ·exact R3.at 9 f9
   ·exact R3.at 0 f0
   ·exact R3.at 1 f1
   ·exact R3.at 10 f10
   ·exact R3.at 11 f11
  ·simp only [TP.led,map_cons,map_nil,e1,e2,e3,e4,e5,e6,nodup_cons,mem_cons,not_mem_nil,or_false,not_or,not_false_eq_true,List.nodup_nil,and_true]
   refine ⟨⟨?_,?_,?_,?_,?_⟩,⟨?_,?_,?_,?_⟩,⟨?_,?_,?_⟩,⟨?_,?_⟩,?_⟩ <;> (intro x;have x':@Eq Nat _ _:=x;lia)
 have K3:Keeps [780] h h3:=R3.keeps (G':=[]) (mod:=[780]) rfl own aX (by simp)
 rw [← e1]
 exact post h3 _ t K3 X e7 e8 (fun q hq=>by rw [dW];exact low q hq) ⟨_,R3.at 13 f12⟩
noncomputable def gn (args:List Value):Obj:=⟨.type "tuple",none,.seq ⟨args⟩ 0,⟨[]⟩⟩
section
variable {Q:Fin→Shared→Prop}
def Pz (w:World) (q5:Rs) (args:List Value) (loc:Nat) (o5:Obj) (aC:List Nat) (n tk:Nat):Rs:=aB w [] q5 (.ok (.ret (.ref (n+845+1)))) [(n+845+1,fM "ValueError" (n+845) .none .none .none (.bool false) .none),(n+845,gn args),(loc,o5)] (n+845+1+1) tk aC
noncomputable abbrev Sd (w:World) (q5:Rs) (args:List Value) (loc:Nat) (o5:Obj) (aC:List Nat):Prop:=∀ n tk,wj (Pz w q5 args loc o5 aC n tk) (.ref (n+845+1))∧(Pz w q5 args loc o5 aC n tk).L[1]? = some (n+845+1,fM "ValueError" (n+845+1+1) .none .none .none (.bool false) .none)∧(Pz w q5 args loc o5 aC n tk).L[0]? = some (n+845+1+1,gn args)∧(Pz w q5 args loc o5 aC n tk).L[3]? = some (loc,o5)
theorem pI {q5:Rs} {env:Env} {loc:Nat} {o5:Obj} {args:List Value} {l:List Env} {A5:Around} {h5:Heap} {aC:List Nat} (hA:A.handled=none) (hfr:A.frames=some l) (F5:aG h5 l) (k5:au w h5) (gl:h5.get? loc=some o5) (ll:845≤loc)
  (ho:(o5.cls,eV o5,env.frame,gY env)=(.type "frame",true,some loc,true)) (hargs:args.length≤10) (nl:∀ e∈l,∀ a,e.frame=some a→a≠loc) (mX:Sd w q5 args loc o5 aC)
  (post:∀ h' tk' e t T pl,ak [] h5 h'→dz h5 h' "ValueError" args e t T .none loc .none pl→R (.error (.ref e)) ⟨h',g,d,tk',os⟩) :
  codeAny (model pw w) A5 (.builtin "ValueError.__new__" ⟨.type "ValueError" :: args,[]⟩) (fun r' s'=>Mn (xg w g d os (A.deeper env) Q (zN w A env R)) (aL q5) (aR q5 r') s') ⟨h5,g,d,q5.tk,os⟩:=by
 obtain ⟨o1,ho⟩:=Prod.mk.inj ho
 obtain ⟨o2,ho⟩:=Prod.mk.inj ho
 obtain ⟨o3,o4⟩:=Prod.mk.inj ho
 have hz:10≤sizeLine:=by decide
 refine codeAny_exc_new F.excCall_ValueError.toExcNewFacts ?_ (by lia)
 have own:∀ q∈([(loc,o5)]:Led),h5.get? q.1=some q.2:=bK gl
 obtain ⟨n5,R5⟩:=(Rep.start k5 own fV (bK ll)).up
 have DN:h5.objs.size=n5+845:=R5.size
 have R6:=(R5.push (o:=gn args) rfl).push (o:=fM "ValueError" (n5+845) .none .none .none (.bool false) .none) rfl
 obtain ⟨c1,c2,c3,c4⟩:=mX n5 q5.tk
 rw [DN]
 refine fB (Pz w q5 args loc o5 aC n5 q5.tk) .nil hA R6 c1 ?_ rfl
 intro h7 R7
 have G7e:=R7.at 1 c2
 have G7t:=R7.at 0 c3
 have F7:aG h7 (env::l):=(R7.fr F5 (fun e he a ea=>by simpa using nl e he a ea)).cons (by intro x;unfold gY at o4;rw [x] at o4;cases o4) o3 (R7.at 3 c4) o1 (by intro vs x;unfold eV at o2;rw [x] at o2;cases o2)
 refine jk (Around.frames_deeper hfr) F7 o3 G7e (.inl rfl) ?_
 intro h8 pl z1 z2 z3 z4
 have K7:Keeps [] h5 h7:=(R7.done (G:=[(loc,o5)]) 3 (G':=(Pz w q5 args loc o5 aC n5 q5.tk).L.drop 3) (mod:=[]) rfl rfl own (fun p hp=>.inr (by
  simp only [mem_singleton] at hp
  rw [hp]
  exact List.mem_of_getElem? (i:=0) (by rw [List.getElem?_drop];exact c4)))).1
 have g5:h5.objs.size≤n5+845:=by rw [DN];exact Nat.le_refl _
 refine post h8 _ (n5+845+1) (n5+845+1+1) h7.objs.size pl (K7.f.late (z2.f z1) (by simp only [mem_singleton,forall_eq];lia)) ⟨⟨by lia,by lia,K7.size⟩,⟨Nat.ne_of_lt (Nat.lt_succ_self _),Nat.ne_of_lt (Heap.lt_size G7e),Nat.ne_of_lt (Heap.lt_size G7t)⟩,z3,(z2.get (n5+845+1+1) (Nat.ne_of_gt (Nat.lt_succ_self _)) _ G7t).1 (show Value.type "tuple" ≠ .type "frame" by decide),z4⟩
theorem Gy {q:Rs} {env:Env} {loc:Nat} {l:List Env} {h2:Heap} {cls:String} {args:List Value} {e t T:Nat} {hd:Value} {f:Nat} {pl:List Value}
  (hA:A.handled=none) (hfr:A.frames=some l) (F2:aG h2 (env::l)) (k2:au w h2) (ef:env.frame=some loc)
  (low:845≤e∧845≤t∧845≤T) (ne:e≠t∧e≠T∧t≠T) (ge:h2.get? e=some (fM cls t (.ref T) .none .none (.bool false) .none)) (gt:h2.get? t=some (gn args)) (gT:h2.get? T=some (qj hd f .none pl))
  (er:∀ L' n tk,wj (aB w [] q (.error (.ref e)) L' n tk []) (.ref e)∧(aB w [] q (.error (.ref e)) L' n tk []).L=L')
  (post:∀ h3 tk3 T3 Iw,ak [e] h2 h3→h2.objs.size≤T3→h3.get? e=some (fM cls t (.ref T3) .none .none (.bool false) .none)→h3.get? t=some (gn args)→h3.get? T3=some (qj (.ref T) loc .none Iw)→R (.error (.ref e)) ⟨h3,g,d,tk3,os⟩) :
  Mn (xg w g d os (A.deeper env) Q (zN w A env R)) (aL q) (aR q (.error (.ref e))) ⟨h2,g,d,tk,os⟩:=by
 have own:∀ q∈([(e,fM cls t (.ref T) .none .none (.bool false) .none),(t,gn args),(T,qj hd f .none pl)]:Led),h2.get? q.1=some q.2:=by simp [ge,gt,gT]
 obtain ⟨n2,R2⟩:=(Rep.start k2 own (by simp [ne]) (by simp [low])).up
 refine fB (aB w [] q (.error (.ref e)) _ (n2+845) tk []) .nil hA R2 (er _ _ _).1 ?_ rfl
 intro h4 R4
 rw [(er _ _ _).2] at R4
 have K4:Keeps [] h2 h4:=(R4.done 0 (G':=[(e,fM cls t (.ref T) .none .none (.bool false) .none),(t,gn args),(T,qj hd f .none pl)]) (mod:=[]) rfl rfl own (by simp)).1
 have F4:aG h4 (env::l):=F2.keeps fun _ _ a _=>K4.f.get a not_mem_nil
 have g4e:=R4.at (a:=e) 0 rfl
 have g4t:=R4.at (a:=t) 1 rfl
 refine jk (Around.frames_deeper hfr) F4 ef g4e (.inr ⟨T,f,pl,hd,rfl,Ne.symm ne.2.1,R4.at 2 rfl⟩) ?_
 intro h5 pl5 z1 z2 z3 z4
 refine post h5 _ h4.objs.size pl5 ((K4.f.mono aX).trans (z2.f z1)) K4.size z3 ((z2.get t (Ne.symm ne.1) _ g4t).1 (show Value.type "tuple" ≠ .type "frame" by decide)) z4
end
noncomputable def Gz (loc:Nat):Env:={scope:=zq (fs 25),locals:=loc,globals:=3,cells:=[],qual:=lits "read_uint1.<locals>.",func:=some 750,code:=.ref 749,frame:=some loc,builtins:=0}
def Vr (w:World) (n tk:Nat) (t:TP):Rs:=ig w 750 (fdOf (QT w.params)) ⟨[.ref t.stm],[]⟩ ((t.led w.params).take 3) n tk [0,1,1]
def Ji (w:World) (n tk:Nat) (t:TP):Rs:=bL w [] (wV (iJ (fs 25)) (Gz n)) (Vr w n tk t).L (Vr w n tk t).nx (Vr w n tk t).tk (og 0x11430220002000020002000200021)
def u12 (w:World) (n tk:Nat) (q:Rs) (b:List UInt8) (u:Nat) (L:Led) (aC:List Nat):Rs:=aB w [] q (.ok (.ret (.bytes ⟨b⟩ u))) L n tk aC
noncomputable def gJ:Str:=lits "not enough data in stream to read uint1"
theorem cV.keeps {h h':Heap} {t:TP} (X:cV w h t) (K:Keeps [] h h'):cV w h' t:=⟨fun q hq=>K.get _ _ (X.own q hq) not_mem_nil,X.nd,X.lo,X.v,X.len⟩
theorem cV.keepsF {h h':Heap} {t:TP} {m:List Addr} (X:cV w h t) (K:ak m h h') (nm:∀ q∈t.led w.params,q.1∉m):cV w h' t:=⟨fun q hq=>(K.get _ (nm q hq) _ (X.own q hq)).1 (by
  simp only [TP.led,mem_cons,not_mem_nil,or_false] at hq
  rcases hq with rfl | rfl | rfl | rfl | rfl | rfl
  ·intro x;cases x
  ·exact (by decide:Value.type "dict" ≠ .type "frame")
  ·exact (by decide:Value.type "function" ≠ .type "frame")
  ·exact (by decide:Value.type "code" ≠ .type "frame")
  ·exact (by decide:Value.type "cell" ≠ .type "frame")
  ·exact (by decide:Value.type "cell" ≠ .type "frame")),X.nd,X.lo,X.v,X.len⟩
theorem cV.three {t:TP} (X:cV w h t):(∀ q∈(t.led w.params).take 3,h.get? q.1=some q.2)∧(((t.led w.params).take 3).map Prod.fst).Nodup∧∀ q∈(t.led w.params).take 3,845≤q.1:=
 ⟨fun q hq=>X.own q (List.mem_of_mem_take hq),X.nd.sublist ((List.take_sublist 3 _).map _),fun q hq=>X.lo q (List.mem_of_mem_take hq)⟩
theorem cV.apart {t:TP} {l:List Env} (X:cV w h t) (F:aG h l):∀ env∈l,∀ a,env.frame=some a→a∉(t.led w.params).map Prod.fst:=F.apart X.own (by
  intro p hp
  simp only [TP.led,mem_cons,not_mem_nil,or_false] at hp
  rcases hp with rfl | rfl | rfl | rfl | rfl | rfl
  ·intro x;cases x
  ·exact (by decide:Value.type "dict" ≠ .type "frame")
  ·exact (by decide:Value.type "function" ≠ .type "frame")
  ·exact (by decide:Value.type "code" ≠ .type "frame")
  ·exact (by decide:Value.type "cell" ≠ .type "frame")
  ·exact (by decide:Value.type "cell" ≠ .type "frame"))
theorem z8 {t:TP} {l:List Env} (hA:A.handled=none) (hD:A.depth+3<recursionLimit) (hfr:A.frames=some l) (FF:aG h l) (kk:au w h) (X:cV w h t)
  (xZ:∀ x rest,t.b.drop t.v=x::rest→∀ h' tk' t' u jB,Keeps [t.sd] h h'→t'={t with v:=t.v+1,tv:=jB}→cV w h' t'→R (.ok (.ret (.int (Int.ofNat x.toNat) u))) ⟨h',g,d,tk',os⟩)
  (post2:t.b.drop t.v=[]→∀ h' tk' t' e t0 T hd f pl tm jB,ak [t.sd] h h'→t'={t with tv:=jB}→cV w h' t'→dz h h' "ValueError" [.str gJ tm] e t0 T hd f .none pl→R (.error (.ref e)) ⟨h',g,d,tk',os⟩) :
  codeAny (model pw w) A (.call (.ref 750) ⟨[.ref t.stm],[]⟩) R ⟨h,g,d,tk,os⟩:=by
 obtain ⟨jC,I6,BJ⟩:=X.three
 obtain ⟨n0,R0⟩:=(Rep.start kk jC I6 BJ).up
 have dW:h.objs.size=n0+845:=R0.size
 refine fC (Vr w (n0+845) tk t) hA (by lia) R0 (body:=iJ (fs 25)) (env:=Gz (n0+845)) (by symm) (by symm) (by symm) ?_ rfl
 intro h0 Gh
 refine bG ?_
 refine bQ (Ji w (n0+845) tk t) .nil hA Gh (n:=0) (c:=.call (.ref t.fn) ⟨[.int 1 (tk+2)],[]⟩) (fr:=[]) (u:=0) ⟨by symm,by symm⟩ ?_ rfl
 intro A1 h1 bT hD1 ql _ R1
 have K1:Keeps [] h h1:=(R1.done 1 (G:=(t.led w.params).take 3) (G':=(t.led w.params).take 3) (mod:=[]) (by symm) rfl jC (fun p hp=>.inr hp)).1
 have fP:=R1.at (a:=n0+845) (o:=lo (Ji w (n0+845) tk t).L 0) 0 (by symm)
 have hv:=X.v
 refine kW bT (by rw [hD1];show A.depth+1+0+1<_;lia) R1.old (X.keeps K1) (n:=1) (by lia) ?_
 intro h2 tk2 t2 u pJ K2 zf X2
 have lsd:t.sd<n0+845:=by rw [← dW];exact Heap.lt_size (X.own (t.sd,t.sdO w.params) (by simp [TP.led]))
 have dX:=K2.get _ _ fP (by simp only [mem_singleton];intro x;have x':@Eq Nat _ _:=x;lia)
 have jr:Keeps [t.sd] h h2:=K1.to (m:=[t.sd]) K2 aX (by simp)
 have bW:∀ q∈([(n0+845,lo (Ji w (n0+845) tk t).L 0)]:Led),h2.get? q.1=some q.2:=bK dX
 have Ld:au w h2:=jr.kok kk (bK (X.lo (t.sd,t.sdO w.params) (by simp [TP.led])))
 obtain ⟨n2,R2⟩:=(Rep.start Ld bW fV (by simp)).up
 have tV:∀ q∈t2.led w.params,q.1≠n0+845:=fun q hq x=>by
  have e:(t2.led w.params).map Prod.fst=(t.led w.params).map Prod.fst:=by rw [zf];rfl
  have hm:q.1∈(t.led w.params).map Prod.fst:=by rw [← e];exact mem_map_of_mem hq
  obtain ⟨p,hp,ep⟩:=List.mem_map.mp hm
  have:=Heap.lt_size (X.own p hp)
  rw [ep,x,dW] at this
  exact absurd this (Nat.lt_irrefl _)
 cases e:t.b.drop t.v with
 | cons x rest=>
  rw [show (x::rest).take 1=[x] from rfl]
  refine aO (u12 w (n2+845) tk2 (Ji w (n0+845) tk t) [x] u [(n0+845,lo (Ji w (n0+845) tk t).L 0)] [1,1,1,0,0,0,1,0,0]) .nil hA R2 (v:=.done (.ret (.int (Int.ofNat x.toNat) (tk2+4)))) (by symm) ?_ rfl
  intro h3 R3
  have K3:Keeps [n0+845] h2 h3:=R3.keeps (G':=[]) (mod:=[n0+845]) rfl bW aX (by simp)
  have lt:t.v<t.b.length:=by
   have:=congrArg List.length e
   simp at this
   lia
  exact xZ x rest e h3 _ t2 _ pJ (jr.to K3 (by simp) (by simp [dW])) (by rw [zf,Nat.min_eq_left (by lia)]) (X2.keepsF K3.f (fun q hq=>by simp only [mem_singleton];intro x;exact tV q hq x))
 | nil=>
  have lt:t.v=t.b.length:=by
   rw [List.drop_eq_nil_iff] at e
   lia
  refine cJ (u12 w (n2+845) tk2 (Ji w (n0+845) tk t) [] u [(n0+845,lo (Ji w (n0+845) tk t).L 0)] (og 0x1100000000111)) .nil hA R2 (n:=0) (c:=.builtin "ValueError.__new__" ⟨[.type "ValueError",.str gJ (tk2+3)],[]⟩) (fr:=[]) (u:=1) ⟨by symm,by symm⟩ ?_ rfl
  intro A3 h3 iY lJ I3 _ R3
  have K3:Keeps [n0+845] h2 h3:=R3.keeps (G':=[]) (mod:=[n0+845]) rfl bW aX (by simp)
  have qw:Keeps [t.sd] h h3:=jr.to K3 (by simp) (by simp [dW])
  have F3:aG h3 l:=FF.keeps fun env he a ea=>qw.f.get a fun hm=>X.apart FF env he a ea (by
   simp only [mem_singleton] at hm
   rw [hm]
   simp [TP.led])
  refine pI (env:=Gz (n0+845)) (args:=[.str gJ (tk2+3)]) (aC:=[1,1,0,1,1,0,2,2,2,2,2,2,2,2,2,4,4,999,999,999,999,999,3,3,3,1,1]) hA hfr F3 R3.old (R3.at (a:=n0+845) (o:=lo (u12 w (n2+845) tk2 (Ji w (n0+845) tk t) [] u [(n0+845,lo (Ji w (n0+845) tk t).L 0)] (og 0x1100000000111)).L 0) 0 (by symm)) (Nat.le_add_left 845 n0) (by symm) (by simp) (fun env he a ea x=>?_) (fun n tk'=>⟨by symm,by symm,by symm,by symm⟩) ?_
  ·obtain ⟨_,L,o,e1,e2,_,_⟩:=FF env he
   rw [ea] at e1
   obtain rfl:=Option.some.inj e1
   have:=Heap.lt_size e2
   rw [dW,x] at this
   exact absurd this (Nat.lt_irrefl _)
  ·intro h4 tk4 e0 t0 T pl K4 FL
   have kO:ak [t.sd] h h4:=qw.f.trans (K4.mono aX)
   have tH:=FL.lo
   have g3:=qw.size
   exact post2 e h4 _ t2 e0 t0 T .none (n0+845) pl (tk2+3) pJ kO (by rw [zf,Nat.min_eq_right (by lia),← lt]) ((X2.keepsF K3.f (fun q hq=>by simp only [mem_singleton];intro x;exact tV q hq x)).keepsF K4 (by simp)) ⟨⟨Nat.le_trans g3 tH.1,Nat.le_trans g3 tH.2.1,Nat.le_trans g3 tH.2.2⟩,FL.ne,FL.exc,FL.tup,FL.tb⟩
section
open PySem.Builtin
theorem z9 {α:Type} (b:List UInt8) (F:Nat→(Nat × Array Nat × α)→Sem (ForInStep (Nat × Array Nat × α))) (x:α)
  (hF:∀ i p out,p<b.length→out.size=p→F i (p,out,x)=pure (ForInStep.yield (p+1,out ++ #[(b.toArray.getD p 0).toNat],x))) :
  ∀ (k p i:Nat) (out:Array Nat),p+k=b.length→out.size=p→forIn (List.range' i k) (p,out,x) F=(pure (b.length,out++((b.drop p).map UInt8.toNat).toArray,x):Sem (Nat × Array Nat × α)):=by
 intro k
 induction k with
 | zero=>
  intro p i out h1 h2
  have:p=b.length:=by lia
  subst this
  simp
 | succ k ih=>
  intro p i out h1 h2
  rw [List.range'_succ,List.forIn_cons,hF i p out (by lia) h2]
  show forIn (List.range' (i+1) k) (p+1,out ++ #[(b.toArray.getD p 0).toNat],x) F=_
  rw [ih (p+1) (i+1) _ (by lia) (by simp [h2])]
  have lt:p<b.length:=by lia
  have e:b.drop p=b[p]::b.drop (p+1):=List.drop_eq_getElem_cons lt
  rw [e]
  have e2:b.toArray.getD p 0=b[p]:=by simp [Array.getD,lt]
  rw [e2,map_cons]
  have:∀ (y:Nat) (l:List Nat),(out ++ #[y])++l.toArray=out++(y::l).toArray:=fun y l=>by rw [Array.append_assoc];congr 1;simp
  rw [this]
theorem CV (id:String) (b:List UInt8) (hb:b.length≤1000):_codecs.runDecoder id _codecs.latin1Decoder none true b.toArray 0 []=pure ((b.map UInt8.toNat).toArray,b.length):=by
 unfold _codecs.runDecoder
 simp only [Std.Legacy.Range.forIn_eq_forIn_range']
 have hz:2000≤sizeLine:=by decide
 have e:[:b.toArray.size].size=b.length:=by simp [Std.Legacy.Range.size]
 rw [e]
 refine (congrArg (fun z:Sem (Nat × Array Nat × _codecs.Faults)=>z >>= fun s=>pure (s.2.1,s.1)) (z9 b _ {} (fun i p out lt hs=>?hF) b.length 0 0 #[] (by simp) rfl)).trans ?fin
 case fin=>
  show (pure (#[]++((b.drop 0).map UInt8.toNat).toArray,b.length):Sem (Array Nat × Nat))=_
  simp
 case hF=>
  show (if out.size > sizeLine then _ else _)=_
  rw [if_neg (by lia)]
  show (if p ≥ b.toArray.size then _ else _)=_
  rw [if_neg (by simp;lia)]
  rfl
theorem Aa {b:Array UInt8} {id:String}:_codecs.decodeRoad id b (PySem.Str.ofString "latin-1") none []=(_codecs.runDecoder id _codecs.latin1Decoder none true b 0 [] >>= fun r=>mkStr ⟨r.1⟩):=by symm
theorem CW {c:UInt8} {cs:List UInt8} {t t2:Tok}:«bytes.decode» ⟨[.bytes (c::cs).toArray t,.str (PySem.Str.ofString "latin-1") t2],[]⟩=(mkStr (PySem.Str.ofString "utf-8") >>= fun _=>mkStr (PySem.Str.ofString "latin-1") >>= fun e=>mkStr (PySem.Str.ofString "bytes.decode") >>= fun d=>
  call (.builtin "_codecs.decode.text") [.bytes (c::cs).toArray t,e,.none,d] >>= fun v=>ret v):=by symm
theorem Ab {t t2:Tok}:«bytes.decode» ⟨[.bytes #[] t,.str (PySem.Str.ofString "latin-1") t2],[]⟩=(rule "bytes.decode.empty" >>= fun _=>retStr Str.empty):=by symm
theorem CX (a b:Value):argsOk "bytes.decode" ⟨[a,b],[]⟩:=by
 unfold argsOk;rw [signature?_of (id:="bytes.decode") (n:=['e','d','o','c','e','d']) (o:=['s','e','t','y','b']) (by symm) FB.owner_bytes];symm
theorem yw {b:List UInt8} {t t2:Nat} (hb:b.length≤1000) (post:∀ t' tk',R (.ok (.ret (.str (S (b.map UInt8.toNat)) t'))) ⟨h,g,d,tk',os⟩) :
  codeAny (model pw w) A (.call (.builtin "bytes.decode") ⟨[.bytes ⟨b⟩ t,.str (PySem.Str.ofString "latin-1") t2],[]⟩) R ⟨h,g,d,tk,os⟩:=by
 have hz:2000≤sizeLine:=by decide
 refine codeAny_call_builtin FB.slot_bytes_decode.plain FB.entry_bytes_decode (FB.slot_bytes_decode.check _ _ _ _ _ _ _ _ (typeIs_bytes _ _ _) (CX _ _) ?_)
 cases b with
 | nil=>
  show wpAny _ _ («bytes.decode» ⟨[.bytes #[] t,.str (PySem.Str.ofString "latin-1") t2],[]⟩) _ _ _
  rw [Ab]
  refine wpAny_bind (wpAny_rule ?_)
  exact wpAny_bind (wpAny_mkStr (wpAny_pure (post _ _)) (by decide))
 | cons c cs=>
  show wpAny _ _ («bytes.decode» ⟨[.bytes (c::cs).toArray t,.str (PySem.Str.ofString "latin-1") t2],[]⟩) _ _ _
  rw [CW]
  refine wpAny_bind (wpAny_mkStr ?_ (by decide))
  refine wpAny_bind (wpAny_mkStr ?_ (by decide))
  refine wpAny_bind (wpAny_mkStr ?_ (by decide))
  refine wpAny_bind (wpAny_call (iT KBd.kind_text KBd.plain_text KBd.entry_text (KBd.args_text _ _ _ _) ?_))
  show wpAny _ _ (Bytes.bytesLike _ (.bytes (c::cs).toArray _) >>= fun r=>_) _ _ _
  refine wpAny_bind (wpAny_of_eq KBd.like_eq ?_)
  refine wpAny_bind (wpAny_of_eq KBd.held_eq ?_)
  show wpAny _ _ (_codecs.decodeRoad _ (c::cs).toArray (PySem.Str.ofString "latin-1") none [] >>= fun v=>_) _ _ _
  rw [Aa,CV _ _ hb]
  refine wpAny_bind (wpAny_bind (wpAny_pure ?_))
  exact wpAny_mkStr (wpAny_pure ⟨_,rfl,wpAny_pure (post _ _)⟩) (by show ((c::cs).map UInt8.toNat).length≤sizeLine;simp at hb ⊢;lia)
end
noncomputable def qx (loc:Nat):Env:={scope:=zq (fs 26),locals:=loc,globals:=3,cells:=[],qual:=lits "read_string1.<locals>.",func:=some 757,code:=.ref 756,frame:=some loc,builtins:=0}
def Vt (w:World) (n tk:Nat) (t:TP):Rs:=ig w 757 (fdOf (QV w.params)) ⟨[.ref t.stm],[]⟩ ((t.led w.params).take 3) n tk [0,1,1]
def uQ (w:World) (n tk:Nat) (t:TP):Rs:=bL w [] (wV (iJ (fs 26)) (qx n)) (Vt w n tk t).L (Vt w n tk t).nx (Vt w n tk t).tk [0,1,0,1]
def PB (w:World) (H:List Hk) (n tk:Nat) (q:Rs) (x:Nat) (u:Nat) (L:Led) (aC:List Nat):Rs:=aB w H q (.ok (.ret (.int (Int.ofNat x) u))) L n tk aC
def PJ (w:World) (H:List Hk) (n tk:Nat) (q:Rs) (b:List UInt8) (u:Nat) (L:Led) (aC:List Nat):Rs:=aB w H q (.ok (.ret (.bytes ⟨b⟩ u))) L n tk aC
noncomputable def jZ:Str:=lits "expected 2 bytes in a string1, but only 1 remain"
noncomputable def fJ:Str:=lits "expected 200 bytes in a string1, but only 0 remain"
theorem cV.led_lt {t t2:TP} (X:cV w h t) (e:(t2.led w.params).map Prod.fst=(t.led w.params).map Prod.fst):∀ q∈t2.led w.params,q.1<h.objs.size:=fun q hq=>by
 have hm:q.1∈(t.led w.params).map Prod.fst:=by rw [← e];exact mem_map_of_mem hq
 obtain ⟨p,hp,ep⟩:=List.mem_map.mp hm
 rw [← ep];exact Heap.lt_size (X.own p hp)
theorem aG.old {h:Heap} {l:List Env} (F:aG h l) {a:Nat} (ha:h.objs.size≤a):∀ env∈l,∀ b,env.frame=some b→b≠a:=fun env he b eb x=>by
 obtain ⟨_,L,o,e1,e2,_,_⟩:=F env he
 rw [eb] at e1
 obtain rfl:=Option.some.inj e1
 rw [x] at e2
 exact absurd (Heap.lt_size e2) (Nat.not_lt.mpr ha)
theorem aG.sd {h h':Heap} {l:List Env} {t:TP} (X:cV w h t) (F:aG h l) (K:ak [t.sd] h h'):aG h' l:=F.keeps fun env he a ea=>K.get a fun hm=>X.apart F env he a ea (by
  simp only [mem_singleton] at hm
  rw [hm]
  simp [TP.led])
theorem mZ {t:TP} {l:List Env} (hA:A.handled=none) (hD:A.depth+4<recursionLimit) (hfr:A.frames=some l) (FF:aG h l) (kk:au w h) (X:cV w h t)
  (xZ:∀ x rest,t.b.drop t.v=x::rest→x.toNat≤rest.length→∀ h' tk' t' u jB,Keeps [t.sd] h h'→t'={t with v:=t.v+1+x.toNat,tv:=jB}→cV w h' t'→R (.ok (.ret (.str (S ((rest.take x.toNat).map UInt8.toNat)) u))) ⟨h',g,d,tk',os⟩)
  (post2:∀ msg,(t.b.drop t.v=[]∧msg=gJ)∨(t.b.drop t.v=[2,39]∧msg=jZ)∨(t.b.drop t.v=[200]∧msg=fJ)→∀ h' tk' t' e t0 T hd f pl tm jB,ak [t.sd] h h'→t'={t with v:=t.b.length,tv:=jB}→cV w h' t'→dz h h' "ValueError" [.str msg tm] e t0 T hd f .none pl→R (.error (.ref e)) ⟨h',g,d,tk',os⟩)
  (cases:t.b.drop t.v=[]∨(∃ x rest,t.b.drop t.v=x::rest∧x.toNat≤rest.length)∨t.b.drop t.v=[2,39]∨t.b.drop t.v=[200]) :
  codeAny (model pw w) A (.call (.ref 757) ⟨[.ref t.stm],[]⟩) R ⟨h,g,d,tk,os⟩:=by
 obtain ⟨jC,I6,BJ⟩:=X.three
 obtain ⟨n0,R0⟩:=(Rep.start kk jC I6 BJ).up
 have dW:h.objs.size=n0+845:=R0.size
 refine fC (Vt w (n0+845) tk t) hA (by lia) R0 (body:=iJ (fs 26)) (env:=qx (n0+845)) (by symm) (by symm) (by symm) ?_ rfl
 intro h0 Gh
 refine bG ?_
 refine bQ (uQ w (n0+845) tk t) .nil hA Gh (n:=0) (c:=.call (.ref 750) ⟨[.ref t.stm],[]⟩) (fr:=[]) (u:=0) ⟨by symm,by symm⟩ ?_ rfl
 intro A1 h1 bT hD1 ql _ R1
 have K1:Keeps [] h h1:=(R1.done 1 (G:=(t.led w.params).take 3) (G':=(t.led w.params).take 3) (mod:=[]) (by symm) rfl jC (fun p hp=>.inr hp)).1
 have fP:=R1.at (a:=n0+845) (o:=lo (uQ w (n0+845) tk t).L 0) 0 (by symm)
 have hv:=X.v
 have low:∀ a∈[n0+845],h.objs.size≤a:=by simp [dW]
 have lsd:t.sd<n0+845:=by rw [← dW];exact Heap.lt_size (X.own (t.sd,t.sdO w.params) (by simp [TP.led]))
 have DW:n0+845∉[t.sd]:=by simp only [mem_singleton];intro x;have x':@Eq Nat _ _:=x;lia
 have yx:∀ a∈[t.sd],845≤a:=bK (X.lo (t.sd,t.sdO w.params) (by simp [TP.led]))
 have F1:aG h1 l:=FF.keeps fun env he a ea=>K1.f.get a not_mem_nil
 have ho1:((lo (uQ w (n0+845) tk t).L 0).cls,eV (lo (uQ w (n0+845) tk t).L 0),(qx (n0+845)).frame,gY (qx (n0+845)))=(.type "frame",true,some (n0+845),true):=by symm
 have Ge:A1.depth=A.depth+1:=hD1
 have X1:=X.keeps K1
 refine z8 (l:=qx (n0+845)::l) bT (by lia) (ql _ (Around.frames_deeper hfr)) (R1.frCons (R1.fr FF (fun env he a ea hm=>X.apart FF env he a ea (by
  obtain ⟨p,hp,e⟩:=List.mem_map.mp hm
  exact List.mem_map.mpr ⟨p,List.mem_of_mem_take hp,e⟩))) 0 (a:=n0+845) (by symm)) R1.old X1 ?_ ?_
 ·intro x rest ed h2 tk2 t2 u pJ K2 zf X2
  subst zf
  have dX:=K2.get _ _ fP DW
  have ltl:=X.led_lt (t2:={t with v:=t.v+1,tv:=pJ}) rfl
  have tV:∀ q∈({t with v:=t.v+1,tv:=pJ}:TP).led w.params,q.1≠n0+845:=fun q hq x=>by
   have:=ltl q hq
   rw [x,dW] at this
   exact absurd this (Nat.lt_irrefl _)
  obtain ⟨o2,IW,lo2⟩:=X2.three
  have bW:∀ q∈(n0+845,lo (uQ w (n0+845) tk t).L 0)::(({t with v:=t.v+1,tv:=pJ}:TP).led w.params).take 3,h2.get? q.1=some q.2:=fun q hq=>by
   rcases List.mem_cons.mp hq with rfl | hq
   ·exact dX
   ·exact o2 q hq
  have k2:au w h2:=K2.kok R1.old yx
  have jr:Keeps [t.sd] h h2:=K1.to (m:=[t.sd]) K2 aX (by simp)
  obtain ⟨n2,R2⟩:=(Rep.start k2 bW (by
   rw [map_cons,nodup_cons]
   refine ⟨fun hm=>?_,IW⟩
   obtain ⟨p,hp,e⟩:=List.mem_map.mp hm
   exact tV p (List.mem_of_mem_take hp) e) (fun q hq=>by
   rcases List.mem_cons.mp hq with rfl | hq
   ·exact Nat.le_add_left 845 n0
   ·exact lo2 q hq)).up
  have e3:t.b.drop (t.v+1)=rest:=by rw [← List.drop_drop,ed];rfl
  rcases cases with c | ⟨x',rest',ed',hle⟩ | c | c
  ·rw [ed] at c;cases c
  ·rw [ed] at ed'
   obtain ⟨rfl,rfl⟩:=List.cons.inj ed'
   have hx:x.toNat<256:=x.toNat_lt
   refine cJ (PB w [iM "int.__ge__" (Int.ofNat x.toNat) 0 true] (n2+845) tk2 (uQ w (n0+845) tk t) x.toNat u ((n0+845,lo (uQ w (n0+845) tk t).L 0)::(({t with v:=t.v+1,tv:=pJ}:TP).led w.params).take 3) (og 0x1141302200020000200020002000212111)) (aF.cons (sJ (by simp)) aF.nil) hA R2 (n:=0) (c:=.call (.ref t.fn) ⟨[.int (Int.ofNat x.toNat) u],[]⟩) (fr:=[]) (u:=0) ⟨by symm,by symm⟩ ?_ rfl
   intro A3 h3 iY lJ I3 _ R3
   revert R3;refine gen (PB w [iM "int.__ge__" (Int.ofNat x.toNat) 0 true] (n2+845) tk2 (uQ w (n0+845) tk t) x.toNat u ((n0+845,lo (uQ w (n0+845) tk t).L 0)::(({t with v:=t.v+1,tv:=pJ}:TP).led w.params).take 3) (og 0x1141302200020000200020002000212111)) fun q3 eq3=>?_;intro R3
   have yC:=R3.done 1 (G:=(n0+845,lo (uQ w (n0+845) tk t).L 0)::(({t with v:=t.v+1,tv:=pJ}:TP).led w.params).take 3) (G':=(({t with v:=t.v+1,tv:=pJ}:TP).led w.params).take 3) (mod:=[n0+845]) (by refine sb eq3 ?_;symm) rfl bW (fun p hp=>by
    rcases List.mem_cons.mp hp with rfl | hp
    ·exact .inl mem_cons_self
    ·exact .inr hp)
   have iz:=R3.at (a:=n0+845) (o:=lo q3.L 0) 0 (by refine sb eq3 ?_;symm)
   have X3:=X2.keepsF yC.1.f (fun q hq=>by simp only [mem_singleton];exact tV q hq)
   have Jj:A3.depth=A.depth+1:=lJ
   refine kW (t:={t with v:=t.v+1,tv:=pJ}) iY (by lia) R3.old X3 (n:=x.toNat) (by lia) ?_
   intro h4 tk4 t4 u4 Ny K4 Le X4
   show Mn _ _ (aR q3 (.ok (.ret (.bytes ⟨(t.b.drop (t.v+1)).take x.toNat⟩ u4)))) _
   rw [e3]
   have jc:=K4.get _ _ iz DW
   have dK:∀ q∈([(n0+845,lo q3.L 0)]:Led),h4.get? q.1=some q.2:=bK jc
   have k4:au w h4:=K4.kok R3.old yx
   obtain ⟨n4,R4⟩:=(Rep.start k4 dK fV (by simp)).up
   have ld:(rest.take x.toNat).length=x.toNat:=by rw [List.length_take];lia
   refine cJ (PJ w [iM "int.__ge__" (Int.ofNat x.toNat) 0 true,tW (rest.take x.toNat),iM "int.__eq__" (Int.ofNat (rest.take x.toNat).length) (Int.ofNat x.toNat) true] (n4+845) tk4 q3 (rest.take x.toNat) u4 [(n0+845,lo q3.L 0)] (og 0x11141310011)) (aF.cons (sJ (by simp)) (aF.cons (tY (by lia)) (aF.cons (zB (by rw [ld];simp)) aF.nil))) hA R4 (n:=0) (c:=.call (.builtin "bytes.decode") ⟨[.bytes ⟨rest.take x.toNat⟩ u4,.str (PySem.Str.ofString "latin-1") (tk4+3)],[]⟩) (fr:=[]) (u:=0) ⟨by refine sb eq3 ?_;symm,by refine sb eq3 ?_;symm⟩ ?_ rfl
   intro A5 h5 vY xM Vi _ R5
   refine yw (by lia) fun u6 lg=>?_
   have K5:Keeps [n0+845] h4 h5:=R5.keeps (G':=[]) (mod:=[n0+845]) rfl dK aX (by simp)
   obtain ⟨n5,qm⟩:=(Rep.nil (w:=w) R5.old).up
   refine aO (aB w [] (PJ w [iM "int.__ge__" (Int.ofNat x.toNat) 0 true,tW (rest.take x.toNat),iM "int.__eq__" (Int.ofNat (rest.take x.toNat).length) (Int.ofNat x.toNat) true] (n4+845) tk4 q3 (rest.take x.toNat) u4 [(n0+845,lo q3.L 0)] (og 0x11141310011)) (.ok (.ret (.str (S ((rest.take x.toNat).map UInt8.toNat)) u6))) [] (n5+845) lg []) .nil hA qm (v:=.done (.ret (.str (S ((rest.take x.toNat).map UInt8.toNat)) u6))) (by refine sb eq3 ?_;symm) ?_ rfl
   intro h6 R6
   have K6:=R6.fresh.1
   have lt:t.v+1+x.toNat≤t.b.length:=by
    have:=congrArg List.length ed
    simp at this
    lia
   have kO:Keeps [t.sd] h h4:=(jr.to yC.1 (m:=[t.sd]) (by simp) (fun y hy=>.inr (low y hy))).to K4 (by simp) (by simp)
   refine xZ x rest ed hle h6 _ t4 u6 Ny ((kO.to (m:=[t.sd]) K5 (by simp) (fun y hy=>.inr (low y hy))).to K6 (by simp) aX) (by rw [Le,Nat.min_eq_left lt]) ((X4.keepsF K5.f (fun q hq=>?_)).keeps K6)
   simp only [mem_singleton]
   have:=X.led_lt (t2:=t4) (by rw [Le];rfl) q hq
   rw [dW] at this
   exact Nat.ne_of_lt this
  ·rw [ed] at c
   obtain ⟨rfl,rfl⟩:=List.cons.inj c
   refine cJ (PB w [] (n2+845) tk2 (uQ w (n0+845) tk t) (2:UInt8).toNat u ((n0+845,lo (uQ w (n0+845) tk t).L 0)::(({t with v:=t.v+1,tv:=pJ}:TP).led w.params).take 3) (og 0x11413022000200002000200020002100111)) .nil hA R2 (n:=0) (c:=.call (.ref t.fn) ⟨[.int (Int.ofNat 2) u],[]⟩) (fr:=[]) (u:=0) ⟨by symm,by symm⟩ ?_ rfl
   intro A3 h3 iY lJ I3 _ R3
   revert R3;refine gen (PB w [] (n2+845) tk2 (uQ w (n0+845) tk t) (2:UInt8).toNat u ((n0+845,lo (uQ w (n0+845) tk t).L 0)::(({t with v:=t.v+1,tv:=pJ}:TP).led w.params).take 3) (og 0x11413022000200002000200020002100111)) fun q3 eq3=>?_;intro R3
   have yC:=R3.done 1 (G:=(n0+845,lo (uQ w (n0+845) tk t).L 0)::(({t with v:=t.v+1,tv:=pJ}:TP).led w.params).take 3) (G':=(({t with v:=t.v+1,tv:=pJ}:TP).led w.params).take 3) (mod:=[n0+845]) (by refine sb eq3 ?_;symm) rfl bW (fun p hp=>by
    rcases List.mem_cons.mp hp with rfl | hp
    ·exact .inl mem_cons_self
    ·exact .inr hp)
   have iz:=R3.at (a:=n0+845) (o:=lo q3.L 0) 0 (by refine sb eq3 ?_;symm)
   have X3:=X2.keepsF yC.1.f (fun q hq=>by simp only [mem_singleton];exact tV q hq)
   have Jj:A3.depth=A.depth+1:=lJ
   refine kW (t:={t with v:=t.v+1,tv:=pJ}) iY (by lia) R3.old X3 (n:=2) (by lia) ?_
   intro h4 tk4 t4 u4 Ny K4 Le X4
   show Mn _ _ (aR q3 (.ok (.ret (.bytes ⟨(t.b.drop (t.v+1)).take 2⟩ u4)))) _
   rw [e3]
   have jc:=K4.get _ _ iz DW
   have dK:∀ q∈([(n0+845,lo q3.L 0)]:Led),h4.get? q.1=some q.2:=bK jc
   have k4:au w h4:=K4.kok R3.old yx
   obtain ⟨n4,R4⟩:=(Rep.start k4 dK fV (by simp)).up
   rw [show ([39]:List UInt8).take 2=[39] from rfl]
   refine cJ (PJ w [] (n4+845) tk4 q3 [39] u4 [(n0+845,lo q3.L 0)] (og 0x11000000011110010000100100001000010011)) .nil hA R4 (n:=0) (c:=.builtin "ValueError.__new__" ⟨[.type "ValueError",.str jZ (tk4+10)],[]⟩) (fr:=[]) (u:=1) ⟨by refine sb eq3 ?_;symm,by refine sb eq3 ?_;symm⟩ ?_ rfl
   intro A5 h5 vY xM Vi _ R5
   have K5:Keeps [n0+845] h4 h5:=R5.keeps (G':=[]) (mod:=[n0+845]) rfl dK aX (by simp)
   have kO:Keeps [t.sd] h h4:=(jr.to yC.1 (m:=[t.sd]) (by simp) (fun y hy=>.inr (low y hy))).to K4 (by simp) (by simp)
   have qy:Keeps [t.sd] h h5:=kO.to K5 (by simp) (fun y hy=>.inr (low y hy))
   have X5:cV w h5 t4:=X4.keepsF K5.f (fun q hq=>by
    simp only [mem_singleton]
    have:=X.led_lt (t2:=t4) (by rw [Le];rfl) q hq
    rw [dW] at this
    exact Nat.ne_of_lt this)
   refine pI (env:=qx (n0+845)) (args:=[.str jZ (tk4+10)]) (aC:=[1,1,0,1,1,0,2,2,2,2,2,2,2,2,2,5,5,999,999,999,999,3,3,3,1,1]) hA hfr (FF.sd X qy.f) R5.old (R5.at (a:=n0+845) (o:=lo (PJ w [] (n4+845) tk4 q3 [39] u4 [(n0+845,lo q3.L 0)] (og 0x11000000011110010000100100001000010011)).L 1) 1 (by refine sb eq3 ?_;symm)) (Nat.le_add_left 845 n0) (by refine sb eq3 ?_;symm) (by simp) (FF.old (by rw [dW];exact Nat.le_refl _)) (fun n tk'=>⟨by refine sb eq3 ?_;symm,by refine sb eq3 ?_;symm,by refine sb eq3 ?_;symm,by refine sb eq3 ?_;symm⟩) ?_
   intro h6 lg e0 t0 T pl K6 FL
   have tH:=FL.lo
   have g5:=qy.size
   have hb:t.b.length=t.v+2:=by
    have:=congrArg List.length ed
    simp at this
    lia
   exact post2 jZ (.inr (.inl ⟨ed,rfl⟩)) h6 _ t4 e0 t0 T .none (n0+845) pl (tk4+10) Ny (qy.f.trans (K6.mono aX)) (by rw [Le];show ({t with v:=min (t.v+1+2) t.b.length,tv:=Ny}:TP)=_;rw [Nat.min_eq_right (by lia)]) (X5.keepsF K6 (by simp)) ⟨⟨Nat.le_trans g5 tH.1,Nat.le_trans g5 tH.2.1,Nat.le_trans g5 tH.2.2⟩,FL.ne,FL.exc,FL.tup,FL.tb⟩
  ·rw [ed] at c
   obtain ⟨rfl,rfl⟩:=List.cons.inj c
   refine cJ (PB w [] (n2+845) tk2 (uQ w (n0+845) tk t) (200:UInt8).toNat u ((n0+845,lo (uQ w (n0+845) tk t).L 0)::(({t with v:=t.v+1,tv:=pJ}:TP).led w.params).take 3) (og 0x11413022000200002000200020002100111)) .nil hA R2 (n:=0) (c:=.call (.ref t.fn) ⟨[.int (Int.ofNat 200) u],[]⟩) (fr:=[]) (u:=0) ⟨by symm,by symm⟩ ?_ rfl
   intro A3 h3 iY lJ I3 _ R3
   revert R3;refine gen (PB w [] (n2+845) tk2 (uQ w (n0+845) tk t) (200:UInt8).toNat u ((n0+845,lo (uQ w (n0+845) tk t).L 0)::(({t with v:=t.v+1,tv:=pJ}:TP).led w.params).take 3) (og 0x11413022000200002000200020002100111)) fun q3 eq3=>?_;intro R3
   have yC:=R3.done 1 (G:=(n0+845,lo (uQ w (n0+845) tk t).L 0)::(({t with v:=t.v+1,tv:=pJ}:TP).led w.params).take 3) (G':=(({t with v:=t.v+1,tv:=pJ}:TP).led w.params).take 3) (mod:=[n0+845]) (by refine sb eq3 ?_;symm) rfl bW (fun p hp=>by
    rcases List.mem_cons.mp hp with rfl | hp
    ·exact .inl mem_cons_self
    ·exact .inr hp)
   have iz:=R3.at (a:=n0+845) (o:=lo q3.L 0) 0 (by refine sb eq3 ?_;symm)
   have X3:=X2.keepsF yC.1.f (fun q hq=>by simp only [mem_singleton];exact tV q hq)
   have Jj:A3.depth=A.depth+1:=lJ
   refine kW (t:={t with v:=t.v+1,tv:=pJ}) iY (by lia) R3.old X3 (n:=200) (by lia) ?_
   intro h4 tk4 t4 u4 Ny K4 Le X4
   show Mn _ _ (aR q3 (.ok (.ret (.bytes ⟨(t.b.drop (t.v+1)).take 200⟩ u4)))) _
   rw [e3]
   have jc:=K4.get _ _ iz DW
   have dK:∀ q∈([(n0+845,lo q3.L 0)]:Led),h4.get? q.1=some q.2:=bK jc
   have k4:au w h4:=K4.kok R3.old yx
   obtain ⟨n4,R4⟩:=(Rep.start k4 dK fV (by simp)).up
   rw [show ([]:List UInt8).take 200=[] from rfl]
   refine cJ (PJ w [] (n4+845) tk4 q3 [] u4 [(n0+845,lo q3.L 0)] (og 0x11000000011110010000100100001000010011)) .nil hA R4 (n:=0) (c:=.builtin "ValueError.__new__" ⟨[.type "ValueError",.str fJ (tk4+10)],[]⟩) (fr:=[]) (u:=1) ⟨by refine sb eq3 ?_;symm,by refine sb eq3 ?_;symm⟩ ?_ rfl
   intro A5 h5 vY xM Vi _ R5
   have K5:Keeps [n0+845] h4 h5:=R5.keeps (G':=[]) (mod:=[n0+845]) rfl dK aX (by simp)
   have kO:Keeps [t.sd] h h4:=(jr.to yC.1 (m:=[t.sd]) (by simp) (fun y hy=>.inr (low y hy))).to K4 (by simp) (by simp)
   have qy:Keeps [t.sd] h h5:=kO.to K5 (by simp) (fun y hy=>.inr (low y hy))
   have X5:cV w h5 t4:=X4.keepsF K5.f (fun q hq=>by
    simp only [mem_singleton]
    have:=X.led_lt (t2:=t4) (by rw [Le];rfl) q hq
    rw [dW] at this
    exact Nat.ne_of_lt this)
   refine pI (env:=qx (n0+845)) (args:=[.str fJ (tk4+10)]) (aC:=[1,1,0,1,1,0,2,2,2,2,2,2,2,2,2,5,5,999,999,999,999,3,3,3,1,1]) hA hfr (FF.sd X qy.f) R5.old (R5.at (a:=n0+845) (o:=lo (PJ w [] (n4+845) tk4 q3 [] u4 [(n0+845,lo q3.L 0)] (og 0x11000000011110010000100100001000010011)).L 1) 1 (by refine sb eq3 ?_;symm)) (Nat.le_add_left 845 n0) (by refine sb eq3 ?_;symm) (by simp) (FF.old (by rw [dW];exact Nat.le_refl _)) (fun n tk'=>⟨by refine sb eq3 ?_;symm,by refine sb eq3 ?_;symm,by refine sb eq3 ?_;symm,by refine sb eq3 ?_;symm⟩) ?_
   intro h6 lg e0 t0 T pl K6 FL
   have tH:=FL.lo
   have g5:=qy.size
   have hb:t.b.length=t.v+1:=by
    have:=congrArg List.length ed
    simp at this
    lia
   exact post2 fJ (.inr (.inr ⟨ed,rfl⟩)) h6 _ t4 e0 t0 T .none (n0+845) pl (tk4+10) Ny (qy.f.trans (K6.mono aX)) (by rw [Le];show ({t with v:=min (t.v+1+200) t.b.length,tv:=Ny}:TP)=_;rw [Nat.min_eq_right (by lia)]) (X5.keepsF K6 (by simp)) ⟨⟨Nat.le_trans g5 tH.1,Nat.le_trans g5 tH.2.1,Nat.le_trans g5 tH.2.2⟩,FL.ne,FL.exc,FL.tup,FL.tb⟩
 ·intro ed h2 tk2 t2 e t0 T hd f pl tm pJ K2 zf X2 FL
  have tH:=FL.lo
  have g1:=K1.size
  have k2:au w h2:=K2.kok R1.old yx
  obtain ⟨_,sl,hsl⟩:=K2.get (n0+845) DW _ fP
  have F2:aG h2 (qx (n0+845)::l):=by
   obtain ⟨o1,ho⟩:=Prod.mk.inj ho1
   obtain ⟨o2,ho⟩:=Prod.mk.inj ho
   refine (F1.sd X1 K2).cons (by intro x;cases x) rfl hsl o1 ?_
   intro vs x
   have x':(lo (uQ w (n0+845) tk t).L 0).data=.fields vs:=x
   unfold eV at o2
   rw [x'] at o2
   cases o2
  refine Gy hA hfr F2 k2 rfl ⟨Nat.le_trans (au.size (w:=w) R1.old) tH.1,Nat.le_trans (au.size (w:=w) R1.old) tH.2.1,Nat.le_trans (au.size (w:=w) R1.old) tH.2.2⟩ FL.ne FL.exc FL.tup FL.tb (fun L' n tk'=>⟨by symm,by symm⟩) ?_
  intro h3 tk3 T3 Iw K3 lT3 z1 z2 z3
  have lv:t.v=t.b.length:=by
   rw [List.drop_eq_nil_iff] at ed
   lia
  have ge:=Nat.le_trans g1 tH.1
  have qw:ak [t.sd] h h3:=((K1.f.mono aX).trans K2).late K3 (bK ge)
  have ltl:=X.led_lt (t2:=t2) (by rw [zf];rfl)
  refine post2 gJ (.inl ⟨ed,rfl⟩) h3 _ t2 e t0 T3 (.ref T) (n0+845) Iw tm pJ qw (by rw [zf,lv]) (X2.keepsF K3 (fun q hq=>by simp only [mem_singleton];exact Nat.ne_of_lt (Nat.lt_of_lt_of_le (ltl q hq) ge)))
   ⟨⟨ge,Nat.le_trans g1 tH.2.1,Nat.le_trans g1 (Nat.le_trans K2.size lT3)⟩,⟨FL.ne.1,Nat.ne_of_lt (Nat.lt_of_lt_of_le (Heap.lt_size FL.exc) lT3),Nat.ne_of_lt (Nat.lt_of_lt_of_le (Heap.lt_size FL.tup) lT3)⟩,z1,z2,z3⟩
def vJ (e:Expr) (env:Env):Sem Fin:=PySem.W.ZFast.zw14044960220447912780 e env >>= fun v=>Sem.pure (.done (.ret v))
section
variable {E:Value→Shared→Prop}
theorem dR {e:Expr} {env:Env} {P:Value→Shared→Prop} {s:Shared} (z:wpAny (model pw w) A (vJ e env) (fun fin s'=>match fin with | .done (.ret v)=>P v s' | _=>False) E s):wpAny (model pw w) A (eval e env) P E s:=by
 intro Γ p hΓ
 have h:=z Γ p hΓ
 unfold vJ at h
 rw [← PySem.W.ZFast.ze14044960220447912780,Sem.wp_bind'] at h
 exact Sem.wp_mono _ Γ _ (fun o p' s' h'=>h') (fun _ _ _ x=>x) p s h
theorem yD:isSubtype (.type "ValueError") (.type "BaseException")=pure true:=by rw [isSubtype_type];symm
theorem GC:isSubtype (.type "ValueError") (.type "ValueError")=pure true:=by rw [isSubtype_type];symm
theorem yE:isSubtype (.type ((Manifest.find? "ValueError").elim "type" fun x=>x.metatype)) (.type "tuple")=pure false:=by rw [isSubtype_type];symm
theorem GD:isSubtype (.type "TypeError") (.type "BaseException")=pure true:=by rw [isSubtype_type];symm
theorem Nz:isSubtype (.type "TypeError") (.type "TypeError")=pure true:=by rw [isSubtype_type];symm
theorem GF:isSubtype (.type ((Manifest.find? "TypeError").elim "type" fun x=>x.metatype)) (.type "tuple")=pure false:=by rw [isSubtype_type];symm
theorem GJ:isSubtype (.type "StopIteration") (.type "BaseException")=pure true:=by rw [isSubtype_type];symm
theorem NK:isSubtype (.type "StopIteration") (.type "StopIteration")=pure true:=by rw [isSubtype_type];symm
theorem GK:isSubtype (.type ((Manifest.find? "StopIteration").elim "type" fun x=>x.metatype)) (.type "tuple")=pure false:=by rw [isSubtype_type];symm
theorem GP {env:Env} {l:List Env} {e t:Nat} {cls:String} {tb c2 c3 c4 c5:Value} {L:Nat} {te:Expr} {n:Str} {b₀:Stmt} {suite:List Stmt} {pos:Pos} {Q:Flow→Shared→Prop}
  (hexc:isSubtype (.type cls) (.type "BaseException")=pure true) (hnt:isSubtype (.type ((Manifest.find? cls).elim "type" fun x=>x.metatype)) (.type "tuple")=pure false) (hsub:isSubtype (.type cls) (.type cls)=pure true)
  (hfr:A.frames=some (env::l)) (F:aG h (env::l)) (ef:env.frame=some L) (ge:h.get? e=some (fM cls t tb c2 c3 c4 c5)) (ht:headOk h e tb .none)
  (k:∀ h2 pl,h2.objs.size=h.objs.size+1→vg e h h2→h2.get? e=some (fM cls t (.ref h.objs.size) c2 c3 c4 c5)→h2.get? h.objs.size=some (qj tb L .none pl) →
   wpAny (model pw w) (A.mark (some (.ref e))) (eval te env) (fun c s₁=>c=.type cls∧s₁.TypeIs (.ref e) cls ∧
    wpAny (model pw w) (A.mark (some (.ref e))) (setFlight (.ref e) none) (fun _ s₂=>
     wpAny (model pw w) (A.mark (some (.ref e))) (storeName env n (.ref e)) (fun _ s₃=>
      wpAny (model pw w) (A.mark (some (.ref e))) (execs (b₀::suite) env)
       (fun f s₄=>wpAny (model pw w) A (do bindName env n .none;unbindBehindTheSuite env n pos) (fun _ s₅=>Q f s₅) E s₄)
       (fun _ _=>False) s₃) (fun _ _=>False) s₂) (fun _ _=>False) s₁) (fun _ _=>False) ⟨h2,g,d,tk,os⟩) :
  wpAny (model pw w) A (noteFrame (.ref e) env) (fun _ s₂=>wpAny (model pw w) A (setFlight (.ref e) none) (fun _ s₃=>wpAny (model pw w) A (handleBy (.ref e) env [.ExceptHandler (some te) (some n) (b₀::suite) pos]) Q E s₃) E s₂) E ⟨h,g,d,tk,os⟩:=by
 refine jU hfr F ef ge ht fun h1 pl z1 z2 z3 z4=>?_
 refine land z3 z4 fun h2 y1 y2 y3=>?_
 have ne:e≠h.objs.size:=Nat.ne_of_lt (Heap.lt_size ge)
 refine wpAny_handleBy_builtin_as hexc hnt hsub (b:=true) ?_
 have z:=k h2 pl (y1.trans z1) ⟨fun b hb o ho=>by
  have nb:b≠h.objs.size:=Nat.ne_of_lt (Heap.lt_size ho)
  obtain ⟨x1,sl,x2⟩:=z2.get b hb o ho
  exact ⟨fun nf=>(y2 b nb).trans (x1 nf),sl,(y2 b nb).trans x2⟩,fun b o lb hb ho=>(y2 b (Nat.ne_of_lt (Heap.lt_size ho))).trans (z2.low b o lb hb ho)⟩ ((y2 e ne).trans z3) y3
 refine wpAny_mono z (fun c s₁ zz=>⟨zz.1,zz.2.1,?_⟩) fun _ _ x=>x.elim
 rw [if_pos rfl]
 refine wpAny_mono zz.2.2 (fun _ s₂ z2=>?_) fun _ _ x=>x.elim
 refine wpAny_mono z2 (fun _ s₃ z3=>?_) fun _ _ x=>x.elim
 exact wpAny_mono z3 (fun _ _ x=>x) fun _ _ x=>x.elim
end
theorem Bj:ExcStrFacts "ValueError" "ValueError" :=
 ⟨Slot.of (owner:="BaseException") (n:="__str__") (by rw [typeLookup_type,builtinLookup_eq_fast];symm) (by decide +kernel) (by decide +kernel) (by decide +kernel) (by decide +kernel) (by rw [isSubtype_type];symm),
  Slot.of (owner:="BaseException") (n:="__repr__") (by rw [typeLookup_type,builtinLookup_eq_fast];symm) (by decide +kernel) (by decide +kernel) (by decide +kernel) (by decide +kernel) (by rw [isSubtype_type];symm),by symm,by decide +kernel⟩
theorem Jk:ExcStrFacts "TypeError" "TypeError" :=
 ⟨Slot.of (owner:="BaseException") (n:="__str__") (by rw [typeLookup_type,builtinLookup_eq_fast];symm) (by decide +kernel) (by decide +kernel) (by decide +kernel) (by decide +kernel) (by rw [isSubtype_type];symm),
  Slot.of (owner:="BaseException") (n:="__repr__") (by rw [typeLookup_type,builtinLookup_eq_fast];symm) (by decide +kernel) (by decide +kernel) (by decide +kernel) (by decide +kernel) (by rw [isSubtype_type];symm),by symm,by decide +kernel⟩
section
variable {w:World} {g:Array GenState} {d:Drawn} {os:OsState} {A:Around} {R:Result→Shared→Prop} {h h₀:Heap} {gv:List Addr} {tk:Nat} {Q:Fin→Shared→Prop} {E:Value→Shared→Prop}
theorem wC {cls n:String} {e t:Nat} {tb c2 c3 c4 c5:Value} {m:Str} {tm:Nat} (FX:ExcStrFacts cls n) (hu:A.units+1<cLine) (ge:h.get? e=some (fM cls t tb c2 c3 c4 c5)) (gt:h.get? t=some (gn [.str m tm]))
  (post:R (.ok (.ret (.str m tm))) ⟨h,g,d,tk,os⟩):codeAny (model pw w) A (.call (.builtin "str.__new__") ⟨[.type "str",.ref e],[]⟩) R ⟨h,g,d,tk,os⟩:=by
 refine codeAny_call_builtin F.called_str.plain F.entry_str_new (wpAny_of_eq (F.newCall_str_1 _) ?_)
 rw [str_new_tree]
 refine wpAny_bind (wpAny_pure ?_)
 refine wpAny_bind (wpAny_of_eq isSubtype_str_str ?_)
 have x:h.ExcAt e cls (.ref t):=⟨_,_,ge,rfl,rfl,rfl⟩
 have y:h.TupAt t [.str m tm]:=⟨_,_,gt,rfl,rfl⟩
 exact wpAny_bind (strOf_exc_one FX (show A.units+1<cLine from hu) x y (wpAny_pure post))
def lM (r:Rs) (e:Value):=(r.ps.map Prod.fst,r.ts.map Prod.fst,r.cs.map Prod.fst,sy r,p7 r,p8 r,xq (some e) (aL r),Ra (aL r),M4 (aL r),Pj (aL r))
noncomputable abbrev CZ (r:Rs) (e:Value) (n:Nat) (c:Code) (fr:List Env) (u:Nat):Prop:=
 lM r e=(r.ps.map Prod.snd,r.ts.map Prod.snd,r.cs.map Prod.snd,true,c,none,some e,n,fr,u)
theorem CZ.good {r:Rs} {e:Value} {n:Nat} {c:Code} {fr:List Env} {u:Nat} (h:CZ r e n c fr u):Good r:=by
 obtain ⟨a,h⟩:=Prod.mk.inj h
 obtain ⟨b,h⟩:=Prod.mk.inj h
 obtain ⟨c,_⟩:=Prod.mk.inj h
 exact Prod.ext a (Prod.ext b c)
theorem GQ {V:XC} {r:Rs} {e:Value} {n:Nat} {c:Code} {fr:List Env} {u:Nat} (hA:V.A₀.handled=some e) (h:CZ r e n c fr u)
  (k:∀ A' h,A'.handled=some e→A'.depth=V.A₀.depth+n→(∀ l,V.A₀.frames=some l→A'.frames=some (fr++l))→A'.units=V.A₀.units+u→Rep V.K h₀ gv r.L r.nx h→codeAny (model V.prog V.w) A' c (fun r' s'=>Mn V (aL r) (aR r r') s') ⟨h,V.g,V.d,r.tk,V.os⟩):gQ V h₀ gv r:=by
 obtain ⟨_,h⟩:=Prod.mk.inj h
 obtain ⟨_,h⟩:=Prod.mk.inj h
 obtain ⟨_,h⟩:=Prod.mk.inj h
 obtain ⟨h,x⟩:=Prod.mk.inj h
 obtain ⟨ec,x⟩:=Prod.mk.inj x
 obtain ⟨eh,x⟩:=Prod.mk.inj x
 obtain ⟨eo,x⟩:=Prod.mk.inj x
 obtain ⟨en,x⟩:=Prod.mk.inj x
 obtain ⟨f1,f2⟩:=Prod.mk.inj x
 have k':=k (ar V (aL r))
 rw [fY V hA,mC V,tB V,eo,en,f2] at k'
 have k'':=fun h=>k' h rfl rfl (fun l hl=>by rw [pD V hl,f1]) rfl
 unfold gQ
 unfold sy at h
 cases q:r.ou with
 | pend c' hd k₀ κ=>
  have e1:p7 r=c':=by unfold p7;rw [q]
  have e2:p8 r=hd:=by unfold p8;rw [q]
  have e3:aL r=κ:=by unfold aL;rw [q]
  have e4:∀ x,aR r x=k₀ x:=by intro x;unfold aR;rw [q]
  have hc:c'=c:=e1.symm.trans ec
  have hh:hd=none:=e2.symm.trans eh
  subst hc hh e3
  intro h₁ R
  have z:=k'' h₁ R
  exact codeAny_mono z fun x s' y=>by rw [e4] at y;exact y
 | _=>rw [q] at h;cases h
theorem yF {e:Value} {t:Sem Fin} {L:Led} {nx tk:Nat} {n:Nat} {c:Code} {fr:List Env} {u:Nat} {aC:List Nat} (q:Rs) (hA:A.handled=some e) (rep:Rep (K w) h₀ gv L nx h)
  (ok:CZ q e n c fr u)
  (k:∀ A' h,A'.handled=some e→A'.depth=A.depth+n→(∀ l,A.frames=some l→A'.frames=some (fr++l))→A'.units=A.units+u→Rep (K w) h₀ gv q.L q.nx h→codeAny (model pw w) A' c (fun r' s'=>Mn (xg w g d os A Q E) (aL q) (aR q r') s') ⟨h,g,d,q.tk,os⟩)
  (x:q=uJ w e t L nx tk aC):wpAny (model pw w) A t Q E ⟨h,g,d,tk,os⟩:=by
 subst x
 exact Fx aC hA rep ok.good (GQ (V:=xg w g d os A Q E) hA ok k)
theorem Ac {e:Value} {t:Sem Fin} {v:Fin} {L:Led} {nx tk:Nat} {aC:List Nat} (q:Rs) (hA:A.handled=some e) (rep:Rep (K w) h₀ gv L nx h)
  (ok:cU q v) (k:∀ h,Rep (K w) h₀ gv q.L q.nx h→Q v ⟨h,g,d,q.tk,os⟩)
  (x:q=uJ w e t L nx tk aC):wpAny (model pw w) A t Q E ⟨h,g,d,tk,os⟩:=by
 subst x
 exact Fx aC hA rep ok.good (lH (V:=xg w g d os A Q E) (Prod.mk.inj (Prod.mk.inj (Prod.mk.inj ok).2).2).2 k)
theorem Bk {e:Value} {r:Rs} {x:Result} {v:Fin} {L:Led} {nx tk:Nat} {aC:List Nat} (q:Rs) (hA:A.handled=some e) (rep:Rep (K w) h₀ gv L nx h)
  (ok:cU q v) (k:∀ h,Rep (K w) h₀ gv q.L q.nx h→Q v ⟨h,g,d,q.tk,os⟩)
  (y:q=vf w e r x L nx tk aC):Mn (xg w g d os A Q E) (aL r) (aR r x) ⟨h,g,d,tk,os⟩:=by
 subst y
 exact Il aC hA rep ok.good (lH (V:=xg w g d os A Q E) (Prod.mk.inj (Prod.mk.inj (Prod.mk.inj ok).2).2).2 k)
end
def snT (env:Env) (n:Str) (v:Value):Sem Fin:=PySem.W.ZFast.zw7998390705656384164 env n v >>= fun _=>Sem.pure (.done .next)
def ubT (env:Env) (n:Str) (pos:Pos):Sem Fin:=PySem.W.ZFast.zw7536695828754713326 env n .none >>= fun _=>PySem.W.ZFast.zw14851354246082423155 env n pos >>= fun _=>Sem.pure (.done .next)
section
variable {M:Model} {A:Around} {E:Value→Shared→Prop} {s:Shared}
theorem NP {env:Env} {n:Str} {v:Value} {P:Shared→Prop} (z:wpAny M A (snT env n v) (fun _ s'=>P s') E s):wpAny M A (storeName env n v) (fun _ s'=>P s') E s:=by
 intro Γ p hΓ
 have h:=z Γ p hΓ
 unfold snT at h
 rw [← PySem.W.ZFast.ze7998390705656384164,Sem.wp_bind'] at h
 exact Sem.wp_mono _ Γ _ (fun o p' s' h'=>h') (fun _ _ _ x=>x) p s h
theorem NQ {env:Env} {n:Str} {pos:Pos} {P:Shared→Prop} (z:wpAny M A (ubT env n pos) (fun _ s'=>P s') E s):wpAny M A (do bindName env n .none;unbindBehindTheSuite env n pos) (fun _ s'=>P s') E s:=by
 intro Γ p hΓ
 have h:=z Γ p hΓ
 unfold ubT at h
 rw [← PySem.W.ZFast.ze7536695828754713326,Sem.wp_bind'] at h
 rw [Sem.wp_bind']
 refine Sem.wp_mono _ Γ _ (fun o p' s' h'=>?_) (fun _ _ _ x=>x) p s h
 rw [← PySem.W.ZFast.ze14851354246082423155,Sem.wp_bind'] at h'
 exact Sem.wp_mono _ _ _ (fun o p' s' h'=>h') (fun _ _ _ x=>x) _ _ h'
end
inductive pK:List UInt8→List (List Nat)→Str→Prop
 | nil:pK [] [] gJ
 | two:pK [2,39] [] jZ
 | big:pK [200] [] fJ
 | item {x:UInt8} {rest:List UInt8} {ps:List (List Nat)} {msg:Str} (hl:x.toNat≤rest.length) (t:pK (rest.drop x.toNat) ps msg):pK (x::rest) ((rest.take x.toNat).map UInt8.toNat::ps) msg
noncomputable def Sg (s:Stmt):Expr:=Eb s
noncomputable def NT (s:Stmt):List Stmt:=iJ s
noncomputable def wD (s:Stmt):List Stmt:=iJ s
noncomputable def GX (s:Stmt):Pos:=Qo s
noncomputable def Lf (s:Stmt):Expr:=(hv (sv s).2.2.2.2.2.2.1).1.getD default
noncomputable def NZ (s:Stmt):Str:=(hv (sv s).2.2.2.2.2.2.1).2.1.getD default
noncomputable def hnB (s:Stmt):List Stmt:=(hv (sv s).2.2.2.2.2.2.1).2.2.1
noncomputable def N5 (s:Stmt):Pos:=(hv (sv s).2.2.2.2.2.2.1).2.2.2
def vK (P:Params) (ns:List String) (k:Nat→Nat) (vs:List Value) (sl:Array (Option Value)):Obj:=⟨.type "frame",none,.dict ⟨ents P ns vs k 0⟩ vs.length,sl⟩
def Sh (w:World) (e:Nat) (Y:Stmt) (env:Env) (n tk:Nat):Rs:=uJ w (.ref e) (vJ (Lf Y) env) [] n tk [0,0]
def DX (w:World) (e:Nat) (Y:Stmt) (env:Env) (o2:List Nat) (loc:Nat) (o:Obj) (n tk:Nat):Rs:=uJ w (.ref e) (snT env (NZ Y) (.ref e)) [(loc,o)] n tk o2
def PK (w:World) (e:Nat) (Y:Stmt) (env:Env) (o3:List Nat) (loc:Nat) (o:Obj) (n tk:Nat):Rs:=uJ w (.ref e) (wV [gC (hnB Y) 0] env) [(loc,o)] n tk o3
def Vu (w:World) (e:Nat) (o4:List Nat) (q:Rs) (m:Str) (tm:Nat) (n tk:Nat):Rs:=vf w (.ref e) q (.ok (.ret (.str m tm))) q.L n tk o4
def cq5 (w:World) (Y:Stmt) (env:Env) (o5:List Nat) (L:Led) (n tk:Nat):Rs:=bL w [] (ubT env (NZ Y) (N5 Y)) L n tk o5
structure m6 (w:World) (cls:String) (Y:Stmt) (env:Env) (loc:Nat) (o:Array (Option Value)→Obj) (m:Str) (v:Nat→Nat→Nat→Value) (news:Nat→Nat→Nat→Led) (j:Nat) (o2 o3 o4 o5:List Nat):Prop where
 sl:∀ s s',(o s).cls=.type "frame" ∧ (⟨(o s).cls,(o s).dict,(o s).data,s'⟩:Obj)=o s'
 c1:∀ e n tk,cU (Sh w e Y env n tk) (.done (.ret (.type cls)))
 c2:∀ e n tk s,cU (DX w e Y env o2 loc (o s) n tk) (.done .next)∧(DX w e Y env o2 loc (o s) n tk).L=[(loc,lo (DX w e Y env o2 loc (o s) n tk).L 0)]
 c3:∀ e n tk s n3 tk3,CZ (PK w (e+845) Y env o3 loc (lo (DX w (e+845) Y env o2 loc (o s) n tk).L 0) n3 tk3) (.ref (e+845)) 0 (.call (.builtin "str.__new__") ⟨[.type "str",.ref (e+845)],[]⟩) [] 1∧(PK w (e+845) Y env o3 loc (lo (DX w (e+845) Y env o2 loc (o s) n tk).L 0) n3 tk3).L=[(loc,lo (DX w (e+845) Y env o2 loc (o s) n tk).L 0)]
 c4:∀ e n tk s n3 tk3 tm n4 tk4,cU (Vu w (e+845) o4 (PK w (e+845) Y env o3 loc (lo (DX w (e+845) Y env o2 loc (o s) n tk).L 0) n3 tk3) m tm (n4+845) tk4) (.done (.ret (v n4 tk4 tm)))
 c5:∀ e n tk s n3 tk3 tm n4 tk4 n5 lB,cU (cq5 w Y env o5 (Vu w (e+845) o4 (PK w (e+845) Y env o3 loc (lo (DX w (e+845) Y env o2 loc (o s) n tk).L 0) n3 tk3) m tm (n4+845) tk4).L n5 lB) (.done .next)∧(cq5 w Y env o5 (Vu w (e+845) o4 (PK w (e+845) Y env o3 loc (lo (DX w (e+845) Y env o2 loc (o s) n tk).L 0) n3 tk3) m tm (n4+845) tk4).L n5 lB).L.take j=news n4 tk4 tm
theorem ak.to {m:List Addr} {h h1 h2:Heap} {m1 m2:List Addr} (a:ak m1 h h1) (b:ak m2 h1 h2) (q1:∀ x∈m1,x∈m∨h.objs.size≤x) (q2:∀ x∈m2,x∈m∨h.objs.size≤x):ak m h h2:=⟨Nat.le_trans a.size b.size,fun x hx o e=>by
 have f:∀ {l:List Addr},(∀ x∈l,x∈m∨h.objs.size≤x)→x∉l:=fun q hm=>(q x hm).elim hx fun z=>absurd (Heap.lt_size e) (Nat.not_lt.mpr z)
 exact (a.get x (f q1)).trans (b.get x (f q2)) o e,fun x o l hx e=>by
 have f:∀ {l:List Addr},(∀ x∈l,x∈m∨h.objs.size≤x)→x∉l:=fun q hm=>(q x hm).elim hx fun z=>absurd (Heap.lt_size e) (Nat.not_lt.mpr z)
 exact b.low x o l (f q2) (a.low x o l (f q1) e)⟩
section
variable {w:World} {g:Array GenState} {d:Drawn} {os:OsState} {A:Around} {h:Heap} {tk:Nat} {Q:Flow→Shared→Prop} {E:Value→Shared→Prop}
theorem pL {env:Env} {l:List Env} {e t loc tm:Nat} {cls nm:String} {tb c2 c3 c4 c5:Value} {Y:Stmt} {o:Array (Option Value)→Obj} {m:Str} {v:Nat→Nat→Nat→Value} {news:Nat→Nat→Nat→Led} {j:Nat} {o2 o3 o4 o5:List Nat}
  (hexc:isSubtype (.type cls) (.type "BaseException")=pure true) (hnt:isSubtype (.type ((Manifest.find? cls).elim "type" fun x=>x.metatype)) (.type "tuple")=pure false) (hsub:isSubtype (.type cls) (.type cls)=pure true) (FX:ExcStrFacts cls nm) (hcl:Value.type cls≠.type "frame")
  (hA:A.handled=none) (hu:A.units+2<cLine) (hfr:A.frames=some (env::l)) (F:aG h (env::l)) (kk:au w h) (ef:env.frame=some loc) (ll:845≤loc) (le:845≤e) (ge:h.get? e=some (fM cls t tb c2 c3 c4 c5)) (gt:h.get? t=some (gn [.str m tm])) (ht:headOk h e tb .none)
  (gl:∃ sl,h.get? loc=some (o sl)) (mX:m6 w cls Y env loc o m v news j o2 o3 o4 o5)
  (post:∀ h' tk' n4 tk4,ak [e,loc] h h'→h.objs.size≤n4+845→(∀ q∈news n4 tk4 tm,h'.get? q.1=some q.2)→Q (.ret (v n4 tk4 tm)) ⟨h',g,d,tk',os⟩) :
  wpAny (model pw w) A (noteFrame (.ref e) env) (fun _ s₂=>wpAny (model pw w) A (setFlight (.ref e) none) (fun _ s₃=>wpAny (model pw w) A (handleBy (.ref e) env [.ExceptHandler (some (Lf Y)) (some (NZ Y)) (gC (hnB Y) 0::[]) (N5 Y)]) Q E s₃) E s₂) E ⟨h,g,d,tk,os⟩:=by
 obtain ⟨e',rfl⟩:=cH le
 refine GP hexc hnt hsub hfr F ef ge ht ?_
 intro h2 pl z1 z2 z3 z4
 have K2:ak [e'+845] h h2:=z2.f z1
 have k2:au w h2:=K2.kok kk (bK le)
 obtain ⟨s0,gl⟩:=gl
 have nel:loc≠e'+845:=fun x=>by
  rw [x,ge] at gl
  have:=congrArg Obj.cls (Option.some.inj gl)
  rw [(mX.sl s0 s0).1] at this
  exact hcl this
 have nte:t≠e'+845:=fun x=>by
  rw [x,ge] at gt
  have:=congrArg Obj.data (Option.some.inj gt)
  cases this
 obtain ⟨s1,dX⟩:∃ s,h2.get? loc=some (o s):=by
  obtain ⟨_,s,x⟩:=K2.get loc (cZ nel) _ gl
  exact ⟨s,x.trans (congrArg some (mX.sl s0 s).2)⟩
 have gt2:=(K2.get t (cZ nte) _ gt).1 (show Value.type "tuple" ≠ .type "frame" by decide)
 refine dR ?_
 obtain ⟨n2,R2⟩:=(Rep.nil (w:=w) k2).up
 refine Ac (e:=.ref (e'+845)) (Sh w (e'+845) Y env (n2+845) tk) rfl R2 (mX.c1 _ _ _) ?_ rfl
 intro h3 R3
 have K3:=R3.fresh.1
 have z3':=K3.get _ _ z3 not_mem_nil
 have z4':=K3.get _ _ z4 not_mem_nil
 refine ⟨rfl,⟨_,z3',rfl⟩,?_⟩
 refine land z3' z4' ?_
 intro h4 y1 y2 y3
 have K4:Keeps [h.objs.size] h3 h4:=⟨by rw [y1];exact Nat.le_refl _,fun b ob eb nb=>(y2 b (by simpa using nb)).trans eb⟩
 have sz:845≤h.objs.size:=au.size (w:=w) kk
 have k4:au w h4:=K4.kok R3.old (bK sz)
 have Sq:Keeps [h.objs.size] h2 h4:=K3.to K4 aX (fun x hx=>.inl hx)
 have ns:∀ {b:Nat} {ob:Obj},h.get? b=some ob→b∉[h.objs.size]:=fun eb=>by
  simp only [mem_singleton]
  exact Nat.ne_of_lt (Heap.lt_size eb)
 have jc:=Sq.get _ _ dX (ns gl)
 have ge4:=Sq.get _ _ z3 (ns ge)
 have gt4:=Sq.get _ _ gt2 (ns gt)
 refine NP ?_
 have dK:∀ q∈([(loc,o s1)]:Led),h4.get? q.1=some q.2:=bK jc
 obtain ⟨n4,R4⟩:=(Rep.start k4 dK fV (bK ll)).up
 refine Ac (e:=.ref (e'+845)) (DX w (e'+845) Y env o2 loc (o s1) (n4+845) _) rfl R4 (mX.c2 _ _ _ _).1 ?_ rfl
 intro h5 R5
 have c2L:=(mX.c2 (e'+845) (n4+845) (Sh w (e'+845) Y env (n2+845) tk).tk s1).2
 have K5:Keeps [loc] h4 h5:=R5.keeps (G':=[]) (mod:=[loc]) rfl dK aX (by simp)
 have GZ:=(R5.cast c2L).at (a:=loc) 0 rfl
 have ge5:=K5.get _ _ ge4 (cZ (Ne.symm nel))
 have Vv:t≠loc:=fun x=>by
  rw [x,jc] at gt4
  have:=congrArg Obj.cls (Option.some.inj gt4)
  rw [(mX.sl s1 s1).1] at this
  exact absurd this (show Value.type "frame" ≠ .type "tuple" by decide)
 have gt5:=K5.get _ _ gt4 (cZ Vv)
 refine bG ?_
 have Dc:∀ q∈([(loc,lo (DX w (e'+845) Y env o2 loc (o s1) (n4+845) (Sh w (e'+845) Y env (n2+845) tk).tk).L 0)]:Led),h5.get? q.1=some q.2:=bK GZ
 obtain ⟨n5,qm⟩:=(Rep.start R5.old Dc fV (bK ll)).up
 have DN:h5.objs.size=n5+845:=qm.size
 refine yF (e:=.ref (e'+845)) (PK w (e'+845) Y env o3 loc _ (n5+845) _) rfl qm (mX.c3 _ _ _ _ _ _).1 ?_ rfl
 intro A6 h6 hA6 hD6 _ hu6 R6
 have N6:=R6.cast (mX.c3 _ _ _ _ _ _).2
 have K6:Keeps [] h5 h6:=N6.keeps (G':=[(loc,lo (DX w (e'+845) Y env o2 loc (o s1) (n4+845) (Sh w (e'+845) Y env (n2+845) tk).tk).L 0)]) (mod:=[]) rfl Dc (fun _ h=>h) (by simp)
 refine wC FX (by rw [hu6];exact hu) (K6.get _ _ ge5 not_mem_nil) (K6.get _ _ gt5 not_mem_nil) ?_
 obtain ⟨n6,R6u⟩:=R6.up
 have sz6:h6.objs.size=n6+845:=R6u.size
 refine Bk (e:=.ref (e'+845)) (Vu w (e'+845) o4 _ m tm (n6+845) _) rfl R6u (mX.c4 _ _ _ _ _ _ _ _ _) ?_ rfl
 intro h7 R7
 refine NQ ?_
 obtain ⟨n7,R7u⟩:=R7.up
 refine fZ (cq5 w Y env o5 _ (n7+845) _) .nil hA R7u (mX.c5 _ _ _ _ _ _ _ _ _ _ _).1 ?_ rfl
 intro h8 R8
 have K8:Keeps [loc] h5 h8:=R8.keeps (G':=[]) (mod:=[loc]) rfl Dc aX (by simp)
 have KK:ak [e'+845,loc] h h8:=(K2.late (m:=[e'+845]) Sq.f (by simp)).mono (m':=[e'+845,loc]) (by simp) |>.trans ((K5.trans K8).f.mono (by simp))
 refine post h8 _ n6 _ KK ?_ (fun q hq=>?_)
 ·rw [← sz6]
  exact Nat.le_trans (Nat.le_trans K2.size Sq.size) (Nat.le_trans K5.size K6.size)
 ·rw [← (mX.c5 _ _ _ _ _ _ _ _ _ _ _).2] at hq
  exact R8.own q (List.mem_of_mem_take hq)
end
noncomputable def j4:List String:=["stream","told"]
noncomputable def lD (loc:Nat):Env:={scope:=zq (fs 31),locals:=loc,globals:=3,cells:=[],qual:=lits "_law_read.<locals>.",func:=some 799,code:=.ref 798,frame:=some loc,builtins:=0}
noncomputable def Ss:Stmt:=gC (iJ (fs 31)) 1
noncomputable def Lg:Stmt:=gC (NT Ss) 0
noncomputable def tZ (loc:Nat):Code:=.whileLoop (Sg Ss) (NT Ss) [] (lD loc)
theorem Bl:NT Ss=[.Try (wD Lg) [.ExceptHandler (some (Lf Lg)) (some (NZ Lg)) (gC (hnB Lg) 0::[]) (N5 Lg)] [] [] (GX Lg)]:=by symm
def lr0 (w:World) (n tk:Nat) (stm:Nat):Rs:=aQ w [] 799 (Q0 w.params) ⟨[.ref stm],[]⟩ [] n tk [0,1,1] [2,2,1]
def Vw (w:World) (n tk:Nat) (loc S:Nat) (k:Nat→Nat) (vs:List Value) (acc:Array Value) (c:Nat):Rs:=bL w [] (wV (wD Lg) (lD loc)) [(loc,bB w.params j4 k vs),(S,aj acc c)] n tk [1,2,2,2,2,0,1,0,1]
def lr2 (w:World) (n tk:Nat) (q:Rs) (p:List Nat) (u:Nat) (L:Led):Rs:=aB w [] q (.ok (.ret (.str (S p) u))) L n tk [1]
def lr3 (w:World) (n tk:Nat) (q:Rs) (L:Led):Rs:=aB w [] q (.ok (.ret .none)) L n tk [1]
theorem G7 {stm S:Nat} {m:Str} {k:Nat→Nat} {loc:Nat}:m6 w "ValueError" Lg (lD (loc+845)) (loc+845) (vK w.params j4 k [.ref stm,.ref S]) m (fun n _ _=>.ref (n+845)) (fun n _ tm=>[(n+845,gn [.ref S,.str m tm])]) 1 [1,1,1] [1,0,0,1,0,0,1] [0,0] [2,2,2,2] where
 sl:=fun _ _=>⟨rfl,rfl⟩
 c1:=fun _ _ _=>by symm
 c2:=fun _ _ _ _=>⟨by symm,by symm⟩
 c3:=fun _ _ _ _ _ _=>⟨by symm,by symm⟩
 c4:=fun _ _ _ _ _ _ _ _ _=>by symm
 c5:=fun _ _ _ _ _ _ _ _ _ _ _=>⟨by symm,by symm⟩
noncomputable abbrev Jl (e:Expr):Prop:=e=.Constant (.bool true) (ev e).2.2.2.2.1 (Kw e)
theorem Jm {e:Expr} (h:Jl e):∃ k pos,e=.Constant (.bool true) k pos:=⟨_,_,h⟩
theorem Bm:Jl (Sg Ss):=by symm
def lrE (w:World) (q:Rs) (e:Nat) (L:Led) (n tk:Nat):Rs:=aB w [] q (.error (.ref e)) L n tk []
noncomputable def WQ (w:World) (A:Around) (R:Result→Shared→Prop) (t:Expr) (b:List Stmt) (env:Env):Flow→Shared→Prop:=fun f s₃=>match f with
 | .next=>codeAny (model pw w) A (.whileLoop t b [] env) R s₃
 | .cont=>codeAny (model pw w) A (.whileLoop t b [] env) R s₃
 | .brk=>R (.ok .next) s₃
 | .ret v=>R (.ok (.ret v)) s₃
theorem Ad {t:Expr} {b:List Stmt} {env:Env} {s:Shared} (ht:Jl t) (z:wpAny (model pw w) A (execs b env) (WQ w A R t b env) (NE w A env R) s):codeAny (model pw w) A (.whileLoop t b [] env) R s:=by
 refine codeAny_of_tree ?_
 show wpAny _ A ((whileTurn t b [] env).onRaise (fun x=>do noteFrame x env;theTreesLotGoes x)) _ _ s
 refine wpAny_noted ?_
 unfold whileTurn
 obtain ⟨k0,p0,rfl⟩:=Jm ht
 refine wpAny_bind (wpAny_isTrue_value (wpAny_Constant_bool (wpAny_truthy_bool ?_)))
 rw [if_pos rfl]
 refine wpAny_bind (wpAny_mono z (fun f s₃ z3=>?_) fun _ _ x=>x)
 cases f with
 | next=>exact wpAny_pure ⟨rfl,z3⟩
 | cont=>exact wpAny_pure ⟨rfl,z3⟩
 | brk=>exact wpAny_pure z3
 | ret v=>exact wpAny_pure z3
theorem j5 {t:Expr} {b tb:List Stmt} {h0:ExceptHandler} {p:Pos} {env:Env} {s:Shared} (ht:Jl t) (hb:b=[.Try tb [h0] [] [] p])
  (z:wpAny (model pw w) A (execs tb env) (WQ w A R t b env) (fun e s₁=>wpAny (model pw w) A (noteFrame e env) (fun _ s₂=>wpAny (model pw w) A (setFlight e none) (fun _ s₃=>wpAny (model pw w) A (handleBy e env [h0]) (WQ w A R t b env) (NE w A env R) s₃) (NE w A env R) s₂) (NE w A env R) s₁) s) :
  codeAny (model pw w) A (.whileLoop t b [] env) R s:=by
 refine Ad ht ?_
 revert z
 refine yZ (WQ w A R t b env) fun P=>?_
 intro z
 rw [hb]
 have nx:∀ f s',P f s'→(match (generalizing:=false) f with | .next=>wpAny (model pw w) A (execs [] env) P (NE w A env R) s' | f=>P f s'):=fun f s' x=>by
  cases f
  case next=>exact wpAny_execs_nil x
  all_goals exact x
 refine wpAny_execs_cons (wpAny_Try_except (wpAny_mono z (fun f s' x=>?_) fun e s' x=>?_))
 ·cases f
  case next=>exact wpAny_execs_nil (wpAny_execs_nil x)
  all_goals exact x
 ·refine wpAny_mono x (fun _ _ x=>?_) fun _ _ x=>x
  refine wpAny_mono x (fun _ _ x=>?_) fun _ _ x=>x
  refine wpAny_mono x (fun f _ x=>?_) fun _ _ x=>x
  cases f
  case next=>exact wpAny_execs_nil x
  all_goals exact x
theorem aG.noKey {l:List Env} {t:TP} {S c:Nat} {acc:Array Value} (F:aG h l) (X:cV w h t) (gS:h.get? S=some (aj acc c)):∀ env∈l,∀ a,env.frame=some a→a∉[t.sd,S]:=fun env he a ea hm=>by
 simp only [mem_cons,not_mem_nil,or_false] at hm
 rcases hm with rfl | rfl
 ·exact X.apart F env he _ ea (by simp [TP.led])
 ·obtain ⟨_,L,o,e1,e2,e3,_⟩:=F env he
  rw [ea] at e1
  obtain rfl:=Option.some.inj e1
  rw [gS] at e2
  rw [← Option.some.inj e2] at e3
  exact absurd e3.1 (show Value.type "list" ≠ .type "frame" by decide)
theorem Jo {t:TP} {l:List Env} {loc S c:Nat} {k:Nat→Nat} {acc:Array Value} {x:UInt8} {rest:List UInt8} (eb:t.b.drop t.v=x::rest) (hl:x.toNat≤rest.length) (hA:A.handled=none) (hD:A.depth+5<recursionLimit) (hfr:A.frames=some (lD loc::l)) (FF:aG h l) (kk:au w h) (X:cV w h t)
  (ll:845≤loc) (lS:845≤S) (gl:h.get? loc=some (bB w.params j4 k [.ref t.stm,.ref S])) (gS:h.get? S=some (aj acc c)) (nq:∀ q∈t.led w.params,q.1≠loc∧q.1≠S) (hz:acc.size≤1000)
  (post:∀ h' tk' t' u jB c',Keeps [t.sd,S] h h'→t'={t with v:=t.v+1+x.toNat,tv:=jB}→cV w h' t'→h'.get? loc=some (bB w.params j4 k [.ref t.stm,.ref S])→h'.get? S=some (aj (acc.push (.str (Mine.S ((rest.take x.toNat).map UInt8.toNat)) u)) c')→codeAny (model pw w) A (tZ loc) R ⟨h',g,d,tk',os⟩) :
  codeAny (model pw w) A (tZ loc) R ⟨h,g,d,tk,os⟩:=by
 refine j5 Bm Bl (bG ?_)
 obtain ⟨cG,rfl⟩:=cH ll
 obtain ⟨S',rfl⟩:=cH lS
 have N7:cG+845≠S'+845:=ne_of_cls gl gS (show Value.type "frame" ≠ .type "list" by decide)
 have uc:∀ q∈([(cG+845,bB w.params j4 k [.ref t.stm,.ref (S'+845)]),(S'+845,aj acc c)]:Led),h.get? q.1=some q.2:=by simp [gl,gS]
 obtain ⟨n0,R0⟩:=(Rep.start kk uc (lG N7) (by simp)).up
 refine bQ (Vw w (n0+845) tk (cG+845) (S'+845) k [.ref t.stm,.ref (S'+845)] acc c) .nil hA R0 (n:=0) (c:=.call (.ref 757) ⟨[.ref t.stm],[]⟩) (fr:=[]) (u:=0) ⟨by symm,by symm⟩ ?_ rfl
 intro A1 h1 bT hD1 ql _ R1
 have cN:=R1.cast (L':=[(cG+845,bB w.params j4 k [.ref t.stm,.ref (S'+845)]),(S'+845,aj acc c)]) (by symm)
 have K1:Keeps [] h h1:=(cN.done 0 (mod:=[]) rfl rfl uc (fun p hp=>.inr hp)).1
 have F1:aG h1 (lD (cG+845)::l):=cN.frCons (FF.keeps fun env he a _=>K1.f.get a not_mem_nil) 0 (a:=cG+845) (by symm)
 refine mZ bT (by have:A1.depth=A.depth:=hD1;lia) (ql _ hfr) F1 R1.old (X.keeps K1) ?_ ?_ (.inr (.inl ⟨x,rest,eb,hl⟩))
 ·intro x' rest' ed _ h2 tk2 t2 u pJ K2 zf X2
  rw [eb] at ed
  obtain ⟨rfl,rfl⟩:=List.cons.inj ed
  have nk:∀ b∈[cG+845,S'+845],b∉[t.sd]:=fun b hb hm=>by
   simp only [mem_cons,not_mem_nil,or_false] at hm hb
   have z:=nq (t.sd,t.sdO w.params) (by simp [TP.led])
   rcases hb with rfl | rfl
   ·exact z.1 hm.symm
   ·exact z.2 hm.symm
  have bW:∀ q∈([(cG+845,bB w.params j4 k [.ref t.stm,.ref (S'+845)]),(S'+845,aj acc c)]:Led),h2.get? q.1=some q.2:=fun q hq=>K2.get _ _ (cN.own q hq) (nk _ (by
   simp only [mem_cons,not_mem_nil,or_false] at hq
   rcases hq with rfl | rfl <;> simp))
  have k2:au w h2:=K2.kok R1.old (bK (X.lo (t.sd,t.sdO w.params) (by simp [TP.led])))
  obtain ⟨n2,R2⟩:=(Rep.start k2 bW (lG N7) (by simp)).up
  revert R1;refine gen (Vw w (n0+845) tk (cG+845) (S'+845) k [.ref t.stm,.ref (S'+845)] acc c) fun q1 eq1=>?_;intro R1
  refine cJ (lr2 w (n2+845) tk2 q1 ((rest.take x.toNat).map UInt8.toNat) u [(cG+845,bB w.params j4 k [.ref t.stm,.ref (S'+845)]),(S'+845,aj acc c)]) .nil hA R2 (n:=0) (c:=.call (.builtin "list.append") ⟨[.ref (S'+845),.str (S ((rest.take x.toNat).map UInt8.toNat)) u],[]⟩) (fr:=[]) (u:=0) ⟨by refine sb eq1 ?_;symm,by refine sb eq1 ?_;symm⟩ ?_ rfl
  intro A3 h3 iY lJ _ _ R3
  have iZ:=R3.cast (L':=[(cG+845,bB w.params j4 k [.ref t.stm,.ref (S'+845)]),(S'+845,aj acc c)]) (by refine sb eq1 ?_;symm)
  have K3:Keeps [] h2 h3:=(iZ.done 0 (mod:=[]) rfl rfl bW (fun p hp=>.inr hp)).1
  refine bO (iZ.at 1 rfl) (by lia) ?_
  intro h4 K4 Pu
  have X4:cV w h4 t2:=(X2.keeps K3).keepsF K4.f (fun q hq=>by
   have el:(t2.led w.params).map Prod.fst=(t.led w.params).map Prod.fst:=by rw [zf];rfl
   have hm:q.1∈(t.led w.params).map Prod.fst:=by rw [← el];exact mem_map_of_mem hq
   obtain ⟨p,hp,e⟩:=List.mem_map.mp hm
   rw [← e]
   exact cZ ((nq p hp).2))
  have dK:∀ q∈([(cG+845,bB w.params j4 k [.ref t.stm,.ref (S'+845)]),(S'+845,aj (acc.push (.str (S ((rest.take x.toNat).map UInt8.toNat)) u)) (c+1))]:Led),h4.get? q.1=some q.2:=by
   have jc:=K4.get _ _ (iZ.at 0 rfl) (cZ N7)
   simp [jc,Pu]
  obtain ⟨n4,R4⟩:=(Rep.start (K4.kok R3.old (bK lS)) dK (lG N7) (by simp)).up
  refine aO (lr3 w (n4+845) _ (lr2 w (n2+845) tk2 q1 ((rest.take x.toNat).map UInt8.toNat) u [(cG+845,bB w.params j4 k [.ref t.stm,.ref (S'+845)]),(S'+845,aj acc c)]) _) .nil hA R4 (v:=.done .next) (by refine sb eq1 ?_;symm) ?_ rfl
  intro h5 R5
  have qm:=R5.cast (L':=[(cG+845,bB w.params j4 k [.ref t.stm,.ref (S'+845)]),(S'+845,aj (acc.push (.str (S ((rest.take x.toNat).map UInt8.toNat)) u)) (c+1))]) (by refine sb eq1 ?_;symm)
  have K5:Keeps [] h4 h5:=(qm.done 0 (mod:=[]) rfl rfl dK (fun p hp=>.inr hp)).1
  refine post h5 _ t2 u pJ (c+1) ?_ zf (X4.keeps K5) (qm.at 0 rfl) (qm.at 1 rfl)
  exact (((K1.mono aX).trans (K2.mono (by simp))).trans (K3.mono (by simp))).trans ((K4.mono (by simp)).trans (K5.mono (by simp)))
 ·intro msg hm
  rw [eb] at hm
  exfalso
  rcases hm with ⟨c,_⟩ | ⟨c,_⟩ | ⟨c,_⟩
  ·cases c
  ·obtain ⟨rfl,rfl⟩:=List.cons.inj c
   exact absurd hl (by decide)
  ·obtain ⟨rfl,rfl⟩:=List.cons.inj c
   exact absurd hl (by decide)
theorem Ae {t:TP} {l:List Env} {loc S c:Nat} {k:Nat→Nat} {acc:Array Value} {msg:Str} (eb:(t.b.drop t.v=[]∧msg=gJ)∨(t.b.drop t.v=[2,39]∧msg=jZ)∨(t.b.drop t.v=[200]∧msg=fJ)) (hA:A.handled=none) (hD:A.depth+5<recursionLimit) (hu:A.units+2<cLine) (hfr:A.frames=some (lD loc::l)) (FF:aG h l) (kk:au w h) (X:cV w h t)
  (ll:845≤loc) (lS:845≤S) (gl:h.get? loc=some (bB w.params j4 k [.ref t.stm,.ref S])) (gS:h.get? S=some (aj acc c)) (nq:∀ q∈t.led w.params,q.1≠loc∧q.1≠S)
  (post:∀ h' tk' t' c' T tm jB,ak [t.sd,S,loc] h h'→t'={t with v:=t.b.length,tv:=jB}→cV w h' t'→h'.get? S=some (aj acc c')→h'.get? T=some (gn [.ref S,.str msg tm])→h.objs.size≤T→R (.ok (.ret (.ref T))) ⟨h',g,d,tk',os⟩) :
  codeAny (model pw w) A (tZ loc) R ⟨h,g,d,tk,os⟩:=by
 refine j5 Bm Bl (bG ?_)
 obtain ⟨cG,rfl⟩:=cH ll
 obtain ⟨S',rfl⟩:=cH lS
 have N7:cG+845≠S'+845:=ne_of_cls gl gS (show Value.type "frame" ≠ .type "list" by decide)
 have uc:∀ q∈([(cG+845,bB w.params j4 k [.ref t.stm,.ref (S'+845)]),(S'+845,aj acc c)]:Led),h.get? q.1=some q.2:=by simp [gl,gS]
 obtain ⟨n0,R0⟩:=(Rep.start kk uc (lG N7) (by simp)).up
 refine bQ (Vw w (n0+845) tk (cG+845) (S'+845) k [.ref t.stm,.ref (S'+845)] acc c) .nil hA R0 (n:=0) (c:=.call (.ref 757) ⟨[.ref t.stm],[]⟩) (fr:=[]) (u:=0) ⟨by symm,by symm⟩ ?_ rfl
 intro A1 h1 bT hD1 ql _ R1
 have cN:=R1.cast (L':=[(cG+845,bB w.params j4 k [.ref t.stm,.ref (S'+845)]),(S'+845,aj acc c)]) (by symm)
 have K1:Keeps [] h h1:=(cN.done 0 (mod:=[]) rfl rfl uc (fun p hp=>.inr hp)).1
 have F1:aG h1 l:=FF.keeps fun env he a _=>K1.f.get a not_mem_nil
 have Vx:aG h1 (lD (cG+845)::l):=cN.frCons F1 0 (a:=cG+845) (by symm)
 have X1:=X.keeps K1
 refine mZ bT (by have:A1.depth=A.depth:=hD1;lia) (ql _ hfr) Vx R1.old X1 ?_ ?_ ?_
 ·intro x rest ed hle
  exfalso
  rcases eb with ⟨eb,_⟩ | ⟨eb,_⟩ | ⟨eb,_⟩ <;> rw [eb] at ed
  ·cases ed
  ·obtain ⟨rfl,rfl⟩:=List.cons.inj ed
   exact absurd hle (by decide)
  ·obtain ⟨rfl,rfl⟩:=List.cons.inj ed
   exact absurd hle (by decide)
 ·intro msg' hm h2 tk2 t2 e t0 T hd f pl tm pJ K2 zf X2 FL
  have em:msg'=msg:=by
   rcases eb with ⟨eb,rfl⟩ | ⟨eb,rfl⟩ | ⟨eb,rfl⟩ <;> rw [eb] at hm <;> rcases hm with ⟨c,rfl⟩ | ⟨c,rfl⟩ | ⟨c,rfl⟩ <;> first | rfl | cases c
  subst em
  have nk:∀ b∈[cG+845,S'+845],b∉[t.sd]:=fun b hb hm=>by
   simp only [mem_cons,not_mem_nil,or_false] at hm hb
   have z:=nq (t.sd,t.sdO w.params) (by simp [TP.led])
   rcases hb with rfl | rfl
   ·exact z.1 hm.symm
   ·exact z.2 hm.symm
  have k2:au w h2:=K2.kok R1.old (bK (X.lo (t.sd,t.sdO w.params) (by simp [TP.led])))
  obtain ⟨_,s2,dX⟩:=K2.get _ (nk (cG+845) mem_cons_self) _ (cN.at 0 rfl)
  have vA:=(K2.get _ (nk (S'+845) U0) _ (cN.at 1 rfl)).1 (show Value.type "list" ≠ .type "frame" by decide)
  have lo:=FL.lo
  have N8:(845:Nat)≤h1.objs.size:=au.size (w:=w) R1.old
  have bW:∀ q∈([(e,fM "ValueError" t0 (.ref T) .none .none (.bool false) .none),(T,qj hd f .none pl)]:Led),h2.get? q.1=some q.2:=by simp [FL.exc,FL.tb]
  obtain ⟨n2,R2⟩:=(Rep.start k2 bW (lG FL.ne.2.1) (by simp;exact ⟨Nat.le_trans N8 lo.1,Nat.le_trans N8 lo.2.2⟩)).up
  revert R1;refine gen (Vw w (n0+845) tk (cG+845) (S'+845) k [.ref t.stm,.ref (S'+845)] acc c) fun q1 eq1=>?_;intro R1
  refine fB (lrE w q1 e _ (n2+845) tk2) .nil hA R2 (v:=.ref e) (by refine sb eq1 ?_;symm) ?_ rfl
  intro h3 R3
  have iZ:=R3.cast (L':=[(e,fM "ValueError" t0 (.ref T) .none .none (.bool false) .none),(T,qj hd f .none pl)]) (by refine sb eq1 ?_;symm)
  have K3:Keeps [] h2 h3:=(iZ.done 0 (mod:=[]) rfl rfl bW (fun p hp=>.inr hp)).1
  have F3:aG h3 (lD (cG+845)::l):=(aG.sd X1 F1 K2 |>.keeps fun env he a _=>K3.f.get a not_mem_nil).cons (Vx _ (mem_cons_self ..)).1 rfl (K3.get _ _ dX not_mem_nil) rfl (by intro vs x;cases x)
  refine pL yD yE GC Bj (by decide) hA hu hfr F3 R3.old rfl ll (Nat.le_trans N8 lo.1) (iZ.at 0 rfl) (K3.get _ _ FL.tup not_mem_nil) (.inr ⟨T,f,pl,hd,rfl,Ne.symm FL.ne.2.1,iZ.at 1 rfl⟩) ⟨s2,K3.get _ _ dX not_mem_nil⟩ (G7 (stm:=t.stm) (S:=S'+845) (m:=msg') (k:=k) (loc:=cG)) ?_
  intro h4 tk4 n4 aQ1 K4 ln gN
  have g01:h.objs.size≤h3.objs.size:=Nat.le_trans K1.size (Nat.le_trans K2.size K3.size)
  have Pu:=(K4.get (S'+845) (by
   simp only [mem_cons,not_mem_nil,or_false,not_or]
   refine ⟨fun x=>?_,Ne.symm N7⟩
   have:=Heap.lt_size (cN.at (a:=S'+845) 1 rfl)
   rw [x] at this
   exact absurd lo.1 (Nat.not_le.mpr this)) _ (K3.get _ _ vA not_mem_nil)).1 (show Value.type "list" ≠ .type "frame" by decide)
  refine post h4 tk4 t2 c (n4+845) tm pJ ?_ zf ?_ Pu (gN _ (mem_cons_self ..)) (Nat.le_trans g01 ln)
  ·have mz:ak [t.sd] h h3:=((K1.f.mono (m':=[t.sd]) aX).trans K2).trans (K3.f.mono aX)
   refine mz.to K4 (fun x hx=>.inl (by simp only [mem_singleton] at hx;simp [hx])) (fun x hx=>?_)
   simp only [mem_cons,not_mem_nil,or_false] at hx
   rcases hx with rfl | rfl
   ·exact .inr (Nat.le_trans K1.size lo.1)
   ·exact .inl mc2
  ·refine (X2.keeps K3).keepsF K4 (fun q hq hm=>?_)
   have el:(t2.led w.params).map Prod.fst=(t.led w.params).map Prod.fst:=by rw [zf];rfl
   have hm':q.1∈(t.led w.params).map Prod.fst:=by rw [← el];exact mem_map_of_mem hq
   obtain ⟨p,hp,ep⟩:=List.mem_map.mp hm'
   simp only [mem_cons,not_mem_nil,or_false] at hm
   rcases hm with x | x
   ·have:=X1.led_lt el q hq
    rw [x] at this
    exact absurd lo.1 (Nat.not_le.mpr this)
   ·exact (nq p hp).1 (ep.trans x)
 ·rcases eb with ⟨eb,_⟩ | ⟨eb,_⟩ | ⟨eb,_⟩
  ·exact .inl eb
  ·exact .inr (.inr (.inl eb))
  ·exact .inr (.inr (.inr eb))
theorem Jp {b:List UInt8} {ps:List (List Nat)} {msg:Str} (tp:pK b ps msg):∀ {t:TP} {h:Heap} {tk:Nat} {l:List Env} {loc S c:Nat} {k:Nat→Nat} {acc:Array Value},t.b.drop t.v=b→A.handled=none→A.depth+5<recursionLimit→A.units+2<cLine→A.frames=some (lD loc::l)→aG h l→au w h→cV w h t →
  845≤loc→845≤S→h.get? loc=some (bB w.params j4 k [.ref t.stm,.ref S])→h.get? S=some (aj acc c)→(∀ q∈t.led w.params,q.1≠loc∧q.1≠S)→acc.size+ps.length≤1000 →
  (∀ h' tk' t' (vs:List Value) c' T tm jB,ak [t.sd,S,loc] h h'→t'={t with v:=t.b.length,tv:=jB}→cV w h' t'→h'.get? S=some (aj (acc++vs.toArray) c')→words ps vs→h'.get? T=some (gn [.ref S,.str msg tm])→h.objs.size≤T→R (.ok (.ret (.ref T))) ⟨h',g,d,tk',os⟩) →
  codeAny (model pw w) A (tZ loc) R ⟨h,g,d,tk,os⟩:=by
 induction tp with
 | nil=>
  intro t h tk l loc S c k acc eb hA hD hu hfr FF kk X ll lS gl gS nq hz post
  exact Ae (.inl ⟨eb,rfl⟩) hA hD hu hfr FF kk X ll lS gl gS nq fun h' tk' t' c' T tm jB K et X' Sv gT lT=>post h' tk' t' [] c' T tm jB K et X' (by simpa using Sv) trivial gT lT
 | two=>
  intro t h tk l loc S c k acc eb hA hD hu hfr FF kk X ll lS gl gS nq hz post
  exact Ae (.inr (.inl ⟨eb,rfl⟩)) hA hD hu hfr FF kk X ll lS gl gS nq fun h' tk' t' c' T tm jB K et X' Sv gT lT=>post h' tk' t' [] c' T tm jB K et X' (by simpa using Sv) trivial gT lT
 | big=>
  intro t h tk l loc S c k acc eb hA hD hu hfr FF kk X ll lS gl gS nq hz post
  exact Ae (.inr (.inr ⟨eb,rfl⟩)) hA hD hu hfr FF kk X ll lS gl gS nq fun h' tk' t' c' T tm jB K et X' Sv gT lT=>post h' tk' t' [] c' T tm jB K et X' (by simpa using Sv) trivial gT lT
 | @item x rest ps msg hl _ ih=>
  intro t h tk l loc S c k acc eb hA hD hu hfr FF kk X ll lS gl gS nq hz post
  have hx:x.toNat<256:=x.toNat_lt
  have len:t.v+1+x.toNat≤t.b.length:=by
   have:=congrArg List.length eb
   simp at this
   have:=X.v
   lia
  refine Jo eb hl hA hD hfr FF kk X ll lS gl gS nq (by simp at hz;lia) ?_
  intro h1 tk1 t1 u tv1 c1 K1 et X1 fP Lh
  have e1:t1.b.drop t1.v=rest.drop x.toNat:=by
   rw [et]
   show t.b.drop (t.v+1+x.toNat)=_
   rw [← List.drop_drop,← List.drop_drop,eb]
   rfl
  have el:t1.led w.params=({t with v:=t.v+1+x.toNat,tv:=tv1}:TP).led w.params:=by rw [et]
  refine ih e1 hA hD hu hfr ?_ (K1.kok kk ?_) X1 ll lS (by rw [et];exact fP) Lh ?_ (by simp at hz ⊢;lia) ?_
  ·exact FF.keeps fun env he a ea=>K1.f.get a (aG.noKey FF X gS env he a ea)
  ·intro a ha
   simp only [mem_cons,not_mem_nil,or_false] at ha
   rcases ha with rfl | rfl
   ·exact X.lo (t.sd,t.sdO w.params) (by simp [TP.led])
   ·exact lS
  ·intro q hq
   have:q.1∈(t.led w.params).map Prod.fst:=by
    rw [el] at hq
    have:=mem_map_of_mem (f:=Prod.fst) hq
    exact this
   obtain ⟨p,hp,e⟩:=List.mem_map.mp this
   rw [← e]
   exact nq p hp
  ·intro h' tk' t' vs c' T tm jB K2 zf X2 vA hw gT lT
   refine post h' tk' t' (.str (Mine.S ((rest.take x.toNat).map UInt8.toNat)) u::vs) c' T tm jB ?_ ?_ X2 (by simpa using vA) ⟨⟨u,rfl⟩,hw⟩ gT (Nat.le_trans K1.size lT)
   ·rw [et] at K2
    exact (K1.f.mono (by simp)).trans (K2.mono (by simp))
   ·rw [zf,et]
theorem lE {t:TP} {l:List Env} {ps:List (List Nat)} {msg:Str} (hA:A.handled=none) (hD:A.depth+6<recursionLimit) (hu:A.units+5<cLine) (hfr:A.frames=some l) (FF:aG h l) (kk:au w h) (X:cV w h t) (tp:pK (t.b.drop t.v) ps msg) (hz:ps.length≤1000)
  (post:∀ h' tk' t' (vs:List Value) c' S T tm jB,ak [t.sd] h h'→t'={t with v:=t.b.length,tv:=jB}→cV w h' t'→h'.get? S=some (aj vs.toArray c')→words ps vs→h'.get? T=some (gn [.ref S,.str msg tm])→h.objs.size≤S→h.objs.size≤T→R (.ok (.ret (.ref T))) ⟨h',g,d,tk',os⟩) :
  codeAny (model pw w) A (.call (.ref 799) ⟨[.ref t.stm],[]⟩) R ⟨h,g,d,tk,os⟩:=by
 obtain ⟨n0,R0⟩:=(Rep.nil (w:=w) kk).up
 have dW:h.objs.size=n0+845:=R0.size
 refine xR (lr0 w (n0+845) tk t.stm) .nil hA (by lia) R0 (n:=1) (c:=tZ (n0+845)) (fr:=[lD (n0+845)]) (u:=3) (by symm) (by symm) ⟨by symm,by symm⟩ ?_ rfl
 intro A1 h1 bT hD1 ql PL R1
 have K1:=R1.fresh.1
 have gl:=R1.at (a:=n0+845) (o:=bB w.params j4 (kOf (lr0 w (n0+845) tk t.stm).L 1) [.ref t.stm,.ref (n0+845+1)]) 1 (by symm)
 have gS:=R1.at (a:=n0+845+1) (o:=aj #[] 0) 0 (by symm)
 have X1:=X.keeps K1
 have lt:=X.led_lt (t2:=t) rfl
 refine Jp tp (S:=n0+845+1) (acc:=#[]) rfl bT (by lia) (by lia) (ql _ hfr) (FF.keeps fun env he a _=>K1.f.get a not_mem_nil) R1.old X1 (Nat.le_add_left _ _) (Nat.le_trans (Nat.le_add_left 845 n0) (Nat.le_succ _)) gl gS (fun q hq=>?_) (by simpa using hz) ?_
 ·have:=lt q hq
  rw [dW] at this
  exact ⟨Nat.ne_of_lt this,Nat.ne_of_lt (Nat.lt_succ_of_lt this)⟩
 ·intro h2 tk2 t2 vs c2 T tm tv K2 et X2 vA hw gT lT
  revert R1;refine gen (lr0 w (n0+845) tk t.stm) fun q0 eq0=>?_;intro R1
  obtain ⟨n2,R2⟩:=(Rep.nil (w:=w) (K2.kok R1.old (by
   simp only [mem_cons,not_mem_nil,or_false,forall_eq_or_imp,forall_eq]
   exact ⟨X.lo (t.sd,t.sdO w.params) (by simp [TP.led]),Nat.le_trans (Nat.le_add_left 845 n0) (Nat.le_succ _),Nat.le_add_left _ _⟩))).up
  refine cI (aB w [] q0 (.ok (.ret (.ref T))) [] (n2+845) tk2 []) .nil hA R2 (y:=.ok (.ret (.ref T))) (by refine sb eq0 ?_;symm) (fun h3 R3=>?_) rfl
  have K3:=R3.fresh.1
  refine post h3 _ t2 vs c2 (n0+845+1) T tm tv ?_ et (X2.keeps K3) (K3.get _ _ (by simpa using vA) not_mem_nil) hw (K3.get _ _ gT not_mem_nil) (by rw [dW];exact Nat.le_succ _) (Nat.le_trans K1.size lT)
  have nJ:ak [t.sd] h h2:=K1.f.to K2 aX (fun x hx=>?_)
  ·exact nJ.trans (K3.f.mono aX)
  simp only [mem_cons,not_mem_nil,or_false] at hx
  rw [dW]
  rcases hx with rfl | rfl | rfl
  ·exact .inl mem_cons_self
  ·exact .inr (Nat.le_succ _)
  ·exact .inr (Nat.le_refl _)
section
open PySem.Builtin PySem.Builtin.Str
noncomputable def bD:List Nat→List (List Nat)
 | []=>[[]]
 | x::xs=>if x=0 then []::bD xs else match bD xs with
  | p::ps=>(x::p)::ps
  | []=>[[x]]
theorem pN (l:List Nat):bD l≠[]:=by
 cases l with
 | nil=>simp [bD]
 | cons x xs=>
  unfold bD
  split
  ·simp
  ·split <;> simp
noncomputable def zeros:List Nat→Nat→List Nat
 | [],_=>[]
 | x::xs,k=>if x=0 then k::zeros xs (k+1) else zeros xs (k+1)
theorem ag8 (l:List Nat) (i:Nat) (hi:i<l.length):subAt (S l) (S [0]) i=decide (l[i]'hi=0):=by
 show ((S l).cps.extract i (i+1) == (S [0]).cps)=_
 have e:(S l).cps.extract i (i+1) = #[l[i]]:=by
  apply Array.ext'
  show ((S l).cps.extract i (i+1)).toList=_
  simp only [S,Array.toList_extract,List.extract_eq_take_drop,Nat.add_sub_cancel_left]
  rw [List.drop_eq_getElem_cons hi]
  rfl
 rw [e]
 by_cases c:l[i]=0
 ·simp [c,S]
 ·simp [c,S]
open StrLaws in
theorem Jq (l:List Nat):∀ (r:List Nat) (k:Nat) (f:Array Nat) (free:Nat),l.drop k=r→free≤k→k≤l.length→f.size≤k →
  (forIn (List.range' k (l.length+1 - k)) (f,free) (occBody (S l) (S [0]) l.length (l.length+1))).run.fst.toList=f.toList++zeros r k:=by
 intro r
 induction r with
 | nil=>
  intro k f free hd hf hk hs
  have:k=l.length:=by
   have:=congrArg List.length hd
   simp at this
   lia
  subst this
  rw [show l.length+1 - l.length=0+1 by lia,List.range'_succ,List.forIn_cons]
  have e:occBody (S l) (S [0]) l.length (l.length+1) l.length (f,free)=pure (ForInStep.yield (f,free)):=if_neg (fun z=>by
   have h1:l.length+1≤l.length:=z.1.2
   lia)
  rw [e]
  simp [zeros]
 | cons x xs ih=>
  intro k f free hd hf hk hs
  have lt:k<l.length:=by
   have:=congrArg List.length hd
   simp at this
   lia
  have hx:l[k]=x:=by
   rw [List.drop_eq_getElem_cons lt] at hd
   exact (List.cons.inj hd).1
  have hd':l.drop (k+1)=xs:=by
   rw [List.drop_eq_getElem_cons lt] at hd
   exact (List.cons.inj hd).2
  rw [show l.length+1 - k=(l.length+1 - (k+1))+1 by lia,List.range'_succ,List.forIn_cons]
  have hs0:=ag8 l k lt
  rw [hx] at hs0
  unfold zeros
  by_cases c:x=0
  ·have e:occBody (S l) (S [0]) l.length (l.length+1) k (f,free)=pure (ForInStep.yield (f.push k,k+1)):=if_pos ⟨⟨⟨by show f.size<_;lia,hf⟩,by show k+1≤_;lia⟩,by rw [hs0];simp [c]⟩
   rw [e,if_pos c]
   have:=ih (k+1) (f.push k) (k+1) hd' (Nat.le_refl _) lt (by simp;lia)
   simpa using this
  ·have e:occBody (S l) (S [0]) l.length (l.length+1) k (f,free)=pure (ForInStep.yield (f,free)):=if_neg (fun z=>c (by
    have z2:=z.2
    rw [hs0] at z2
    simpa using z2))
   rw [e,if_neg c]
   have:=ih (k+1) f free hd' (by lia) lt (by lia)
   simpa using this
theorem Dd (l:List Nat):occurrences (S l) (S [0]) 0 (S l).length ((S l).length+1)=zeros l 0:=by
 rw [StrLaws.occ_eq]
 have:=Jq l l 0 #[] 0 rfl (Nat.le_refl _) (Nat.zero_le _) (Nat.zero_le _)
 simpa [S,Str.length] using this
theorem Df (l:List Nat):∀ (r:List Nat) (k s:Nat),l.drop k=r→s≤k→k≤l.length →
  ((s::(zeros r k).map (· + 1)).zip (zeros r k++[l.length])).map (fun p=>strSub (S l) p.1 p.2)=match bD r with
   | p::ps=>S ((l.drop s).take (k - s)++p)::ps.map S
   | []=>[]:=by
 intro r
 induction r with
 | nil=>
  intro k s hd hs hk
  have:k=l.length:=by
   have:=congrArg List.length hd
   simp at this
   lia
  subst this
  simp [zeros,bD,strSub,S]
 | cons x xs ih=>
  intro k s hd hs hk
  have lt:k<l.length:=by
   have:=congrArg List.length hd
   simp at this
   lia
  have hx:l[k]=x:=by
   rw [List.drop_eq_getElem_cons lt] at hd
   exact (List.cons.inj hd).1
  have hd':l.drop (k+1)=xs:=by
   rw [List.drop_eq_getElem_cons lt] at hd
   exact (List.cons.inj hd).2
  unfold zeros bD
  by_cases c:x=0
  ·rw [if_pos c,if_pos c]
   have:=ih (k+1) (k+1) hd' (Nat.le_refl _) lt
   simp only [map_cons,List.cons_append,List.zip_cons_cons]
   rw [this]
   have ne:=pN xs
   cases e:bD xs with
   | nil=>exact absurd e ne
   | cons p ps=>simp [strSub,S]
  ·rw [if_neg c,if_neg c]
   have:=ih (k+1) s hd' (by lia) lt
   rw [this]
   have ne:=pN xs
   cases e:bD xs with
   | nil=>exact absurd e ne
   | cons p ps=>
    have:(l.drop s).take (k+1 - s)=(l.drop s).take (k - s)++[x]:=by
     rw [show k+1 - s=(k - s)+1 by lia,List.take_add_one]
     congr 1
     rw [List.getElem?_drop,show s+(k - s)=k by lia,List.getElem?_eq_getElem lt,hx]
     rfl
    simp [this]
theorem yG (l:List Nat):partsBetween (S l) (zeros l 0) (S [0]).length=(bD l).map S:=by
 have:=Df l l 0 0 rfl (Nat.le_refl _) (Nat.zero_le _)
 have ne:=pN l
 unfold partsBetween
 show ((0::(zeros l 0).map (· + 1)).zip (zeros l 0++[l.length])).map _=_
 rw [this]
 cases e:bD l with
 | nil=>exact absurd e ne
 | cons p ps=>simp
theorem Sw (x y:List Nat):S (x++y)=S x++S y:=by
 show (⟨⟨x++y⟩⟩:Str)=⟨(⟨x⟩:Array Nat)++⟨y⟩⟩
 simp
theorem gK {x y:List Nat} {t u:Nat} (hz:x.length+y.length≤100000) (post:∀ t' tk',R (.ok (.ret (.str (S (x++y)) t'))) ⟨h,g,d,tk',os⟩) :
  codeAny (model pw w) A (.call (.builtin "str.__add__") ⟨[.str (S x) t,.str (S y) u],[]⟩) R ⟨h,g,d,tk,os⟩:=by
 have hsz:200000≤sizeLine:=by decide
 refine codeAny_call_builtin F.slot_str_add.plain F.entry_str_add (F.slot_str_add.check _ _ _ _ _ _ _ _ (typeIs_str _ _ _) (F.args_str_add_2 _ _) ?_)
 show wpAny _ _ (if (true && (S x).length == 0)=true then (do rule "str.__add__.left-empty";ret (.str (S y) u)) else
  if (true && (S y).length == 0)=true then (do rule "str.__add__.right-empty";ret (.str (S x) t)) else retStr (S x++S y)) _ _ _
 cases x with
 | nil=>
  rw [if_pos (show (true && (S []).length == 0)=true from rfl)]
  exact wpAny_bind (wpAny_rule (wpAny_pure (by simpa using post _ _)))
 | cons a x=>
  rw [if_neg (by simp [S,Str.length])]
  cases y with
  | nil=>
   rw [if_pos (show (true && (S []).length == 0)=true from rfl)]
   exact wpAny_bind (wpAny_rule (wpAny_pure (by simpa using post _ _)))
  | cons b y=>
   rw [if_neg (by simp [S,Str.length])]
   refine wpAny_bind (wpAny_mkStr (wpAny_pure ?_) ?_)
   ·have:=post tk (tk+1)
    rw [Sw] at this
    exact this
   ·show ((a::x).toArray++(b::y).toArray).size≤_
    simp at hz ⊢
    lia
theorem qz:∀ {l:List Nat} {k:Nat},zeros l k=[]→bD l=[l]
 | [],_,_=>rfl
 | x::xs,k,e=>by
  unfold zeros at e
  split at e
  ·cases e
  ·rename_i c
   unfold bD
   rw [if_neg c,qz e]
theorem ud:∀ (ws:List (List Nat)) (t:Nat),words ws (strsFrom t (ws.map S))
 | [],_=>trivial
 | w::ws,t=>⟨⟨t,rfl⟩,ud ws (t+1)⟩
theorem uf (l:List Nat):(bD l).length≤l.length+1:=by
 induction l with
 | nil=>simp [bD]
 | cons x xs ih=>
  unfold bD
  split
  ·simp;lia
  ·split
   ·rename_i e
    rw [e] at ih
    simp at ih ⊢
    lia
   ·simp
theorem yH (l:List Nat):∀ p∈bD l,p.length≤l.length:=by
 induction l with
 | nil=>simp [bD]
 | cons x xs ih=>
  unfold bD
  split
  ·intro p hp
   rcases List.mem_cons.mp hp with rfl | hp
   ·simp
   ·have:=ih p hp
    simp
    lia
  ·split
   ·rename_i q qs e
    rw [e] at ih
    intro p hp
    rcases List.mem_cons.mp hp with rfl | hp
    ·have:=ih q (mem_cons_self ..)
     simp
     lia
    ·have:=ih p (mem_cons_of_mem _ hp)
     simp
     lia
   ·simp
theorem uR {l:List Nat} {t u:Nat} (hz:l.length≤100000) (post:∀ vs tk',words (bD l) vs→R (.ok (.ret (.ref h.objs.size))) ⟨h.push (aj vs.toArray 0),g,d,tk',os⟩) :
  codeAny (model pw w) A (.call (.builtin "str.split") ⟨[.str (S l) t,.str (S [0]) u],[]⟩) R ⟨h,g,d,tk,os⟩:=by
 have hsz:200000≤sizeLine:=by decide
 refine codeAny_call_builtin F.slot_str_split.plain F.entry_str_split (F.slot_str_split.check _ _ _ _ _ _ _ _ (typeIs_str _ _ _) (F.args_str_split_2 _ _) ?_)
 obtain ⟨raising,htree⟩:=split_sep_tree (S l) (S [0]) t u
 rw [htree,Dd,yG]
 have one:bD l=[l]→wpAny (model pw w) A.in1 (do ret (← newList [Value.str (S l) t])) (fun fin s'=>match fin with | .done f=>R (.ok f) s' | .again c'=>c'.quiet=true∧codeAny (model pw w) A c' R s') (fun e s'=>R (.error e) s') ⟨h,g,d,tk,os⟩:=fun e=>
  wpAny_bind (wpAny_newList (wpAny_pure (post [.str (S l) t] tk (by rw [e];exact ⟨⟨t,rfl⟩,trivial⟩))) (by show 1≤sizeLine;lia))
 split
 ·rename_i c
  refine wpAny_bind (wpAny_rule ?_)
  refine one ?_
  cases l with
  | nil=>rfl
  | cons x xs=>
   exfalso
   have:Str.strKind (S [0])=1:=by unfold Str.strKind;simp [S]
   rw [this] at c
   have k1:1≤Str.strKind (S (x::xs)):=by unfold Str.strKind;split <;> (try split) <;> lia
   have k2:¬ Str.strKind (S (x::xs))<1:=by lia
   simp [S,Str.length] at c
   exact absurd c (by simpa [S] using k2)
 ·rw [if_neg (by decide)]
  split
  ·rename_i c
   refine wpAny_bind (wpAny_rule ?_)
   refine one (qz (k:=0) ?_)
   simpa using c
  ·refine wpAny_bind (wpAny_mapM_mkStr _ _ _ (fun p hp=>?_) (wpAny_bind (wpAny_newList (wpAny_pure (post _ _ (ud _ _))) ?_)))
   ·obtain ⟨q,hq,rfl⟩:=List.mem_map.mp hp
    have:=yH l q hq
    show q.length≤_
    lia
   ·rw [strsFrom_length,List.length_map]
    have:=uf l
    lia
theorem gq {l sl c:Nat} {items:Array Value} {vl vu vs:Value} {lo hi st:Option Int} {dd:Option Addr} {ss:Array (Option Value)} (hl:h.get? l=some (aj items c)) (hs:h.get? sl=some ⟨.type "slice",dd,.fields #[vl,vu,vs],ss⟩) (pl:IsPart vl lo) (pu:IsPart vu hi) (ps:IsPart vs st) (h0:st≠some 0) (hz:items.size≤100000)
  (post:R (.ok (.ret (.ref h.objs.size))) ⟨h.push (aj (slicePick items lo hi st) 0),g,d,tk,os⟩) :
  codeAny (model pw w) A (.call (.builtin "list.__getitem__") ⟨[.ref l,.ref sl],[]⟩) R ⟨h,g,d,tk,os⟩:=by
 have hsz:200000≤sizeLine:=by decide
 have hT:Shared.TypeIs ⟨h,g,d,tk,os⟩ (.ref l) "list" := ⟨_,hl,rfl⟩
 have hTs:Shared.TypeIs ⟨h,g,d,tk,os⟩ (.ref sl) "slice" := ⟨_,hs,rfl⟩
 refine codeAny_call_builtin slot_list_getitem.plain entry_list_getitem (slot_list_getitem.check _ _ _ _ _ _ _ _ hT (args_list_getitem _ _) ?_)
 show wpAny _ _ (Builtin.List.listSubscript? (.ref sl) >>= _) _ _ _
 refine wpAny_bind ?_
 unfold Builtin.List.listSubscript?
 refine wpAny_bind (wpAny_specialOf hTs slice_no_index ?_)
 simp only [Option.isNone_none,if_true]
 refine wpAny_pure ?_
 show wpAny _ _ (typeOf (.ref sl) >>= _) _ _ _
 refine wpAny_bind (wpAny_typeOf hTs ?_)
 rw [if_neg (by decide)]
 rw [listSliceParts_eq]
 have hstep:¬ ((rawPart st == rawInt 0)=true):=by
  cases st with
  | none=>exact Bool.false_ne_true
  | some c=>
   intro hh
   have:c=0:=by simpa [rawPart,rawInt] using hh
   exact h0 (by rw [this])
 refine wpAny_bind (wpAny_bind (wpAny_field hs rfl (x:=vs) rfl (wpAny_bind (wpAny_listPart ps ?_))))
 rw [if_neg hstep]
 refine wpAny_bind (wpAny_field hs rfl (x:=vl) rfl (wpAny_bind (wpAny_listPart pl ?_)))
 refine wpAny_bind (wpAny_field hs rfl (x:=vu) rfl (wpAny_bind (wpAny_listPart pu (wpAny_pure ?_))))
 refine wpAny_bind (m:=Builtin.List.listItems (.ref l)) ?_
 unfold Builtin.List.listItems
 refine wpAny_bind (wpAny_seqItems hl rfl (wpAny_pure ?_))
 refine wpAny_bind (wpAny_of_eq (sliceIndices_raw lo hi st items.size h0) ?_)
 exact wpAny_bind (wpAny_newObj_type (wpAny_pure post) (Nat.le_trans (slicePick_size_le items lo hi st) (by lia)))
theorem yI {l b c c2:Nat} {xs ys:List Value} {ws:List (List Nat)} (hu:A.units<cLine) (hl:h.get? l=some (aj xs.toArray c)) (hb:h.get? b=some (aj ys.toArray c2)) (hx:words ws xs) (hy:words ws ys):PySem.SeqAt.RcNeAt A ⟨h,g,d,tk,os⟩ (.ref l) (.ref b) false:=by
 have len:∀ {ws:List (List Nat)} {xs:List Value},words ws xs→xs.length=ws.length:=by
  intro ws
  induction ws with
  | nil=>intro xs h;cases xs with | nil=>rfl | cons=>cases h
  | cons w ws ih=>intro xs h;cases xs with | nil=>cases h | cons x xs=>simp [ih h.2]
 have get:∀ {ws:List (List Nat)} {xs:List Value} {i:Nat} (hi:i<xs.length) (hw:i<ws.length),words ws xs→∃ t,xs[i]=.str (S ws[i]) t:=by
  intro ws
  induction ws with
  | nil=>intro xs i hi hw;cases hw
  | cons w ws ih=>
   intro xs i hi hw h
   cases xs with
   | nil=>cases h
   | cons x xs=>
    cases i with
    | zero=>exact h.1
    | succ i=>exact ih (by simpa using hi) (by simpa using hw) h.2
 have lx:=len hx
 have ly:=len hy
 have:=PySem.SeqAt.RcNeAt.lists (A:=A) (s:=⟨h,g,d,tk,os⟩) (l:=l) (b:=b) (items:=xs.toArray) (items2:=ys.toArray) (e:=fun _=>true) ⟨_,hl,rfl,_,rfl⟩ ⟨_,hb,rfl,_,rfl⟩ (by simp [lx,ly]) hu (fun j h1 h2=>by
  obtain ⟨t,e1⟩:=get (i:=j) (by simpa using h1) (by simp at h1;lia) hx
  obtain ⟨u,e2⟩:=get (i:=j) (by simpa using h2) (by simp at h1;lia) hy
  simp only [List.getElem_toArray]
  rw [e1,e2]
  have:=PySem.SeqAt.EqAt.str_str (A:=A.in1) (s:=⟨h,g,d,tk,os⟩) (S (ws[j]'(by simp at h1;lia))) t (S (ws[j]'(by simp at h1;lia))) u
  simpa using this)
 have e:(!(List.range xs.toArray.size).all fun _=>true)=false:=by simp [List.all_eq_true]
 rw [e] at this
 exact this
end
section
open PySem.SeqAt (RcNeAt)
noncomputable def wF (s:Stmt):Expr:=(ev (Eb s)).1
noncomputable def uT (s:Stmt):Expr:=U3 (Eb s)
noncomputable def isNe (s:Stmt):Prop:=s=.If (.Compare (wF s) [.NotEq] [uT s] (Kw (Eb s))) (iJ s) [] (Qo s)∧behindInMarks .NotEq (uT s)=false
noncomputable def d8 (L:Led) (i:Nat):Array Value:=match L[i]? with
 | some (_,o)=>match o.data with
  | .seq vs _=>vs
  | _=>#[]
 | none=>#[]
theorem six {st:Nat} (h:st<6):st=0∨st=1∨st=2∨st=3∨st=4∨st=5:=by lia
section
variable {E:Value→Shared→Prop} {Q:Flow→Shared→Prop}
theorem Bo {st:Stmt} {env:Env} {s:Shared} (hs:isNe st) (z:wpAny (model pw w) A (eval (wF st) env) (fun a s1=>wpAny (model pw w) A (eval (uT st) env) (fun b s2=>RcNeAt A s2 a b false∧Q .next s2) E s1) E s):wpAny (model pw w) A (exec st env) Q E s:=by
 refine sb (congrArg (exec · env) hs.1.symm) ?_
 refine wpAny_If (wpAny_isTrue_Compare1 (wpAny_mono z (fun a s1 z1=>wpAny_mono z1 (fun b s2 z2=>?_) fun _ _ x=>x) fun _ _ x=>x) hs.2)
 refine z2.1 _ _ _ _ (wpAny_truthy_bool ?_)
 rw [if_neg (by decide)]
 exact wpAny_execs_nil z2.2
theorem fX {st:Stmt} {env:Env} {s:Shared} (z:wpAny (model pw w) A (execs [st] env) Q E s):wpAny (model pw w) A (exec st env) Q E s:=fun Γ p hΓ=>by
 have h:=z Γ p hΓ
 rw [execs_cons,Sem.wp_bind'] at h
 refine Sem.wp_mono _ Γ _ (fun f p' s' h'=>?_) (fun _ _ _ h'=>h') _ _ h
 cases f <;> exact h'
noncomputable def gM:List String:=["line","state","out","due","error"]
noncomputable def fK (loc:Nat):Env:={scope:=zq (fs 37),locals:=loc,globals:=3,cells:=[],qual:=lits "_law_tells.<locals>.",func:=some 839,code:=.ref 838,frame:=some loc,builtins:=0}
noncomputable def pO (i:Nat):Stmt:=gC (iJ (fs 37)) i
noncomputable def iV (st:Nat):List Nat:=match st with
 | 0=>[]
 | 1=>[0]
 | 2=>[0]
 | 3=>[0]
 | 4=>[120,0]
 | _=>[92,120,0]
noncomputable def bf (st:Nat):List Nat:=match st with
 | 0=>[]
 | 1=>[]
 | 2=>[39]
 | 3=>[34]
 | 4=>[120]
 | _=>[120,34]
theorem Jr:iJ (fs 37)=[pO 0,pO 1,pO 2,.Try (wD (pO 3)) [.ExceptHandler (some (Lf (pO 3))) (some (NZ (pO 3))) (gC (hnB (pO 3)) 0::[]) (N5 (pO 3))] [] [] (GX (pO 3)),pO 4]:=by symm
theorem Sx:isNe (pO 1):=⟨by symm,by symm⟩
def tl0 (w:World) (n tk:Nat) (cs:List Nat) (tl:Nat) (st ts:Nat) (out:List Nat) (to:Nat):Rs:=ig w 839 (fdOf (Q9 w.params)) ⟨[.str (S cs) tl,.int (Int.ofNat st) ts,.str (S out) to],[]⟩ [] n tk [0,1,1,1,1,1,1]
def tl1 (w:World) (n tk:Nat) (loc:Nat) (o:Obj):Rs:=bL w [] (wV [pO 0] (fK loc)) [(loc,o)] n tk [1,2,1,1,1,1]
def Vy (w:World) (n tk:Nat) (q:Rs) (x:List Nat) (t:Nat) (aC:List Nat):Rs:=aB w [] q (.ok (.ret (.str (S x) t))) q.L n tk aC
def tl4 (w:World) (n tk:Nat) (loc:Nat) (o:Obj):Rs:=bL w [] (vJ (wF (pO 1)) (fK loc)) [(loc,o)] n tk [0,1,2,1,1,1,1]
def tl7 (w:World) (n tk:Nat) (q:Rs) (a:Nat) (L:Led) (aC:List Nat):Rs:=aB w [] q (.ok (.ret (.ref a))) L n tk aC
def tl8 (w:World) (n tk:Nat) (loc:Nat) (o:Obj):Rs:=bL w [] (vJ (uT (pO 1)) (fK loc)) [(loc,o)] n tk [1,1]
def tl9 (w:World) (H:List Hk) (n tk:Nat) (loc:Nat) (o:Obj) (aC:List Nat):Rs:=bL w H (wV [pO 2] (fK loc)) [(loc,o)] n tk aC
def ag9 (w:World) (n tk:Nat) (loc:Nat) (o:Obj):Rs:=bL w [] (wV (wD (pO 3)) (fK loc)) [(loc,o)] n tk [0,1,0,1]
theorem Oa {loc:Nat} {k:Nat→Nat} {cs out:List Nat} {st tl ts to:Nat} (hst:st<6) (hA:A.handled=none) (kk:au w h) (ho:out.length≤50000)
  (gl:h.get? (loc+845)=some (bB w.params gM k [.str (S cs) tl,.int (Int.ofNat st) ts,.str (S out) to]))
  (post:∀ h' tk' k' td,Keeps [loc+845] h h'→h'.get? (loc+845)=some (bB w.params gM k' [.str (S cs) tl,.int (Int.ofNat st) ts,.str (S out) to,.str (S (out++iV st)) td])→Q .next ⟨h',g,d,tk',os⟩) :
  wpAny (model pw w) A (exec (pO 0) (fK (loc+845))) Q E ⟨h,g,d,tk,os⟩:=by
 refine fX (bG ?_)
 have own:∀ q∈([(loc+845,bB w.params gM k [.str (S cs) tl,.int (Int.ofNat st) ts,.str (S out) to])]:Led),h.get? q.1=some q.2:=bK gl
 obtain ⟨n0,R0⟩:=(Rep.start kk own fV (by simp)).up
 refine gen (tl1 w (n0+845) tk (loc+845) (bB w.params gM k [.str (S cs) tl,.int (Int.ofNat st) ts,.str (S out) to])) fun q1 e1=>?_
 refine bA q1 .nil hA R0 (n:=0) (c:=.call (.builtin "list.__getitem__") ⟨[.ref (n0+845),.int (Int.ofNat st) ts],[]⟩) (by refine sb e1 ?_;symm) ?_ e1.symm
 intro A1 h1 bT hD1 R1
 have g0:=R1.at (a:=n0+845) (o:=aj (d8 q1.L 0) 0) 0 (by refine sb e1 ?_;symm)
 have hx:(d8 q1.L 0)[st]? = some (.str (S (iV st)) (tk+st)):=by
  subst e1
  rcases six hst with rfl | rfl | rfl | rfl | rfl | rfl <;> symm
 refine bU g0 hx (by lia) ?_
 obtain ⟨n1,lC⟩:=R1.up
 refine gen (Vy w (n1+845) q1.tk q1 (iV st) (tk+st) [0,1]) fun q2 e2=>?_
 refine aK q2 .nil hA lC (n:=0) (c:=.call (.builtin "str.__add__") ⟨[.str (S out) to,.str (S (iV st)) (tk+st)],[]⟩) (by refine sb e2 (sb e1 ?_);symm) ?_ e2.symm
 intro A2 h2 PN hD2 R2
 have hd:(iV st).length≤3:=by unfold iV;split <;> simp
 refine gK (by lia) ?_
 intro td tk2
 obtain ⟨n2,Ob⟩:=R2.up
 refine gen (Vy w (n2+845) tk2 q2 (out++iV st) td [2,2]) fun q3 e3=>?_
 refine aO q3 .nil hA Ob (v:=.done .next) (by refine sb e3 (sb e2 (sb e1 ?_));symm) ?_ e3.symm
 intro h3 R3
 obtain ⟨K3,g3⟩:=R3.loc1 1 (o':=bB w.params gM (kOf q3.L 1) [.str (S cs) tl,.int (Int.ofNat st) ts,.str (S out) to,.str (S (out++iV st)) td]) (by refine sb e3 (sb e2 (sb e1 ?_));symm) gl
 exact post h3 _ _ _ K3 g3
theorem aG.keepsL {h h':Heap} {l:List Env} {loc:Nat} {o:Obj} (F:aG h l) (gl:h.get? loc=some o) (K:Keeps [loc] h h') (nl:∀ env∈l,∀ a,env.frame=some a→a≠loc):aG h' l:=F.keeps fun env he a ea=>K.f.get a (cZ (nl env he a ea))
theorem Js {loc:Nat} {k:Nat→Nat} {cs out due:List Nat} {st tl ts to td:Nat} {ws:List (List Nat)} {l:List Env} {Q:Value→Shared→Prop} (hst:st<6) (hA:A.handled=none) (hD:A.depth+12<recursionLimit) (hfr:A.frames=some (fK (loc+845)::l)) (FF:aG h l) (nl:∀ env∈l,∀ a,env.frame=some a→a≠loc+845) (kk:au w h)
  (sg:∀ c∈cs++bf st,c∈sgn) (b1:cs.length≤900) (b2:2≤cs.length) (rd:Reads true (cs++bf st) ws none) (hw:ws.length≤900)
  (gl:h.get? (loc+845)=some (bB w.params gM k [.str (S cs) tl,.int (Int.ofNat st) ts,.str (S out) to,.str (S due) td]))
  (post:∀ h' tk' S1 vs c sl,ak [loc+845] h h'→h'.get? (loc+845)=some (vK w.params gM k [.str (S cs) tl,.int (Int.ofNat st) ts,.str (S out) to,.str (S due) td] sl)→h.objs.size≤S1→h'.get? S1=some (aj vs.toArray c)→words ws vs→Q (.ref S1) ⟨h',g,d,tk',os⟩) :
  wpAny (model pw w) A (eval (wF (pO 1)) (fK (loc+845))) Q E ⟨h,g,d,tk,os⟩:=by
 refine dR ?_
 have own:∀ q∈([(loc+845,bB w.params gM k [.str (S cs) tl,.int (Int.ofNat st) ts,.str (S out) to,.str (S due) td])]:Led),h.get? q.1=some q.2:=bK gl
 obtain ⟨n0,R0⟩:=(Rep.start kk own fV (by simp)).up
 refine gen (tl4 w (n0+845) tk (loc+845) (bB w.params gM k [.str (S cs) tl,.int (Int.ofNat st) ts,.str (S out) to,.str (S due) td])) fun q1 e1=>?_
 refine bA q1 .nil hA R0 (n:=0) (c:=.call (.builtin "list.__getitem__") ⟨[.ref (n0+845),.int (Int.ofNat st) ts],[]⟩) (by refine sb e1 ?_;symm) ?_ e1.symm
 intro A1 h1 bT hD1 R1
 have g0:=R1.at (a:=n0+845) (o:=aj (d8 q1.L 0) 0) 0 (by refine sb e1 ?_;symm)
 have hx:(d8 q1.L 0)[st]? = some (.str (S (bf st)) (tk+st)):=by
  subst e1
  rcases six hst with rfl | rfl | rfl | rfl | rfl | rfl <;> symm
 refine bU g0 hx (by lia) ?_
 obtain ⟨n1,lC⟩:=R1.up
 refine gen (Vy w (n1+845) q1.tk q1 (bf st) (tk+st) [0,1]) fun q2 e2=>?_
 refine aK q2 .nil hA lC (n:=0) (c:=.call (.builtin "str.__add__") ⟨[.str (S cs) tl,.str (S (bf st)) (tk+st)],[]⟩) (by refine sb e2 (sb e1 ?_);symm) ?_ e2.symm
 intro A2 h2 PN hD2 R2
 have hd:(bf st).length≤2:=by unfold bf;split <;> simp
 refine gK (by lia) ?_
 intro td2 tk2
 obtain ⟨n2,Ob⟩:=R2.up
 refine gen (Vy w (n2+845) tk2 q2 (cs++bf st) td2 [0,1]) fun q3 e3=>?_
 refine cJ q3 .nil hA Ob (n:=0) (c:=.call (.ref 734) ⟨[.str (S (cs++bf st)) td2],[]⟩) (fr:=[]) (u:=0) ⟨by refine sb e3 (sb e2 (sb e1 ?_));symm,by refine sb e3 (sb e2 (sb e1 ?_));symm⟩ ?_ e3.symm
 intro A3 h3 iY lJ I3 _ R3
 obtain ⟨K3,g3⟩:=R3.loc1 1 (o':=bB w.params gM k [.str (S cs) tl,.int (Int.ofNat st) ts,.str (S out) to,.str (S due) td]) (by refine sb e3 (sb e2 (sb e1 ?_));symm) gl
 have F3:aG h3 (fK (loc+845)::l):=R3.frCons (FF.keepsL gl K3 nl) 1 (a:=loc+845) (by refine sb e3 (sb e2 (sb e1 ?_));symm)
 have Jj:A3.depth=A.depth:=lJ
 refine tO (s:=S (cs++bf st)) iY (by lia) (I3 _ hfr) F3 R3.old (cs:=cs++bf st) rfl sg (by show (cs++bf st).length<1000;simp;lia) (by show 2≤(cs++bf st).length;simp;lia) rd hw ?_ (fun esc x=>nomatch x)
 intro _ h4 tk4 S1 vs c K4 l4 g4 hwv
 obtain ⟨_,sl,jc⟩:=K4.get _ not_mem_nil _ g3
 obtain ⟨n4,R4⟩:=(Rep.nil (w:=w) (K4.kok R3.old aX)).up
 refine aO (aB w [] q3 (.ok (.ret (.ref S1))) [] (n4+845) tk4 []) .nil hA R4 (v:=.done (.ret (.ref S1))) (by refine sb e3 (sb e2 (sb e1 ?_));symm) ?_ rfl
 intro h5 R5
 have K5:=R5.fresh.1
 exact post h5 _ S1 vs c sl ((K3.f.trans (K4.mono aX)).trans (K5.f.mono aX)) (K5.get _ _ jc not_mem_nil) (Nat.le_trans K3.size l4) (K5.get _ _ g4 not_mem_nil) hwv
theorem filterMap_get {α:Type} (xs:List α):∀ (k a:Nat),a+k≤xs.length→((List.range' a k).filterMap fun i=>xs[i]?)=(xs.drop a).take k
 | 0,a,_=>by simp
 | k+1,a,h=>by
  rw [List.range'_succ,List.filterMap_cons,List.getElem?_eq_getElem (by lia),filterMap_get xs k (a+1) (by lia),List.drop_eq_getElem_cons (i:=a) (by lia)]
  rfl
theorem yJ {vs:List Value} {lo hi st:Option Int} {a b:Nat} (e:sliceBounds lo hi st vs.length=(Int.ofNat a,Int.ofNat b,1)) (hab:a≤b) (hb:b≤vs.length):slicePick vs.toArray lo hi st=((vs.drop a).take (b - a)).toArray:=by
 unfold slicePick
 rw [show vs.toArray.size=vs.length by simp,e]
 congr 1
 have c:sliceRange (Int.ofNat a) (Int.ofNat b) 1=List.range' a (b - a):=by
  unfold sliceRange
  have e2:(if (1:Int) > 0 then if Int.ofNat a<Int.ofNat b then (Int.ofNat b - Int.ofNat a+1 - 1) / 1 else 0 else if Int.ofNat a > Int.ofNat b then (Int.ofNat a - Int.ofNat b - 1 - 1) / -1 else 0).toNat=b - a:=by
   rw [if_pos (by decide)]
   simp only [Int.ofNat_eq_natCast]
   split <;> lia
  show (List.range (Int.toNat _)).map _=_
  rw [e2,List.range'_eq_map_range]
  refine List.map_congr_left fun k hk=>?_
  simp only [Int.ofNat_eq_natCast]
  lia
 rw [c]
 show ((List.range' a (b - a)).filterMap fun i=>vs.toArray[i]?)=_
 simpa using filterMap_get vs (b - a) a (by lia)
theorem Dg {vs:List Value} (ne:vs≠[]):slicePick vs.toArray none (some (-1)) none=vs.dropLast.toArray:=by
 have hl:1≤vs.length:=by
  cases vs with
  | nil=>exact absurd rfl ne
  | cons=>simp
 rw [yJ (a:=0) (b:=vs.length - 1) ?_ (Nat.zero_le _) (by lia),List.drop_zero,Nat.sub_zero,← List.dropLast_eq_take]
 unfold sliceBounds
 simp only [Option.getD_none]
 rw [if_pos (by decide),if_pos (by decide)]
 have:(-1:Int)<0:=by decide
 simp only [this,if_true]
 congr 2
 simp only [Int.ofNat_eq_natCast]
 lia
theorem pP:∀ {ws:List (List Nat)} {xs:List Value},words ws xs→xs.length=ws.length
 | [],[],_=>rfl
 | [],_::_,h=>by cases h
 | _::_,[],h=>by cases h
 | _::_,_::_,h=>by simp [pP h.2]
theorem ug:∀ {ws:List (List Nat)} {x:List Nat} {vs:List Value},words (ws++[x]) vs→vs≠[]∧words ws vs.dropLast
 | [],x,[v],_=>⟨by simp,trivial⟩
 | [],x,[],h=>by cases h
 | [],x,_::_::_,h=>by cases h.2
 | w::ws,x,[],h=>by cases h
 | w::ws,x,[v],h=>by
  have:=h.2
  cases ws <;> cases this
 | w::ws,x,v::u::vs,h=>by
  have ih:=ug (ws:=ws) (vs:=u::vs) h.2
  exact ⟨by simp,h.1,ih.2⟩
theorem G8 {loc:Nat} {k:Nat→Nat} {sl:Array (Option Value)} {cs out due:List Nat} {st tl ts to td:Nat} {ws:List (List Nat)} {Q:Value→Shared→Prop} (hA:A.handled=none) (kk:au w h) (hd:due.length≤50000) (hs:bD due=ws++[[]])
  (gl:h.get? (loc+845)=some (vK w.params gM k [.str (S cs) tl,.int (Int.ofNat st) ts,.str (S out) to,.str (S due) td] sl))
  (post:∀ h' tk' S1 vs c,Keeps [] h h'→h'.get? S1=some (aj vs.toArray c)→words ws vs→Q (.ref S1) ⟨h',g,d,tk',os⟩) :
  wpAny (model pw w) A (eval (uT (pO 1)) (fK (loc+845))) Q E ⟨h,g,d,tk,os⟩:=by
 refine dR ?_
 have own:∀ q∈([(loc+845,vK w.params gM k [.str (S cs) tl,.int (Int.ofNat st) ts,.str (S out) to,.str (S due) td] sl)]:Led),h.get? q.1=some q.2:=bK gl
 obtain ⟨n0,R0⟩:=(Rep.start kk own fV (by simp)).up
 refine gen (tl8 w (n0+845) tk (loc+845) (vK w.params gM k [.str (S cs) tl,.int (Int.ofNat st) ts,.str (S out) to,.str (S due) td] sl)) fun q1 e1=>?_
 refine bA q1 .nil hA R0 (n:=0) (c:=.call (.builtin "str.split") ⟨[.str (S due) td,.str (S [0]) tk],[]⟩) (by refine sb e1 ?_;symm) ?_ e1.symm
 intro A1 h1 bT hD1 R1
 refine uR (by lia) ?_
 intro vs tk1 hw
 rw [hs] at hw
 have hw0:=hw
 obtain ⟨ne,hw⟩:=ug hw
 obtain ⟨n1,lC⟩:=R1.up
 have mW:h1.objs.size=n1+845:=lC.size
 have R2:=lC.push (o:=aj vs.toArray 0) rfl
 rw [mW]
 refine gen (tl7 w (n1+845+1) tk1 q1 (n1+845) ((n1+845,aj vs.toArray 0)::q1.L) [0,0,2,2,2,1]) fun q2 e2=>?_
 refine aK q2 .nil hA R2 (n:=0) (c:=.call (.builtin "list.__getitem__") ⟨[.ref (n1+845),.ref (n1+845+1)],[]⟩) (by refine sb e2 (sb e1 ?_);symm) ?_ e2.symm
 intro A2 h2 PN hD2 R3
 have hz:vs.length≤100000:=by
  have a:=pP hw0
  have b:=uf due
  rw [hs] at b
  lia
 refine gq (vl:=.none) (vu:=.int (-1) (tk1+1)) (vs:=.none) (c:=0) (R3.at (a:=n1+845) (o:=aj vs.toArray 0) 1 (by refine sb e2 (sb e1 ?_);symm)) (R3.at (a:=n1+845+1) (o:=⟨.type "slice",none,.fields #[.none,.int (-1) (tk1+1),.none],⟨[]⟩⟩) 0 (by refine sb e2 (sb e1 ?_);symm)) .none (.int _ _) .none (by simp) (by simpa using hz) ?_
 obtain ⟨n3,wA⟩:=R3.up
 have Ni:h2.objs.size=n3+845:=wA.size
 rw [Dg ne]
 have R4:=wA.push (o:=aj vs.dropLast.toArray 0) rfl
 rw [Ni]
 refine gen (tl7 w (n3+845+1) q2.tk q2 (n3+845) ((n3+845,aj vs.dropLast.toArray 0)::q2.L) [0]) fun q3 e3=>?_
 refine aO q3 .nil hA R4 (v:=.done (.ret (.ref (n3+845)))) (by refine sb e3 (sb e2 (sb e1 ?_));symm) ?_ e3.symm
 intro h5 R5
 have K5:Keeps [] h h5:=(R5.done 3 (G:=[(loc+845,vK w.params gM k [.str (S cs) tl,.int (Int.ofNat st) ts,.str (S out) to,.str (S due) td] sl)]) (G':=[(loc+845,vK w.params gM k [.str (S cs) tl,.int (Int.ofNat st) ts,.str (S out) to,.str (S due) td] sl)]) (mod:=[]) (by refine sb e3 (sb e2 (sb e1 ?_));symm) rfl own (by simp)).1
 exact post h5 _ (n3+845) vs.dropLast 0 K5 (R5.at 0 (by refine sb e3 (sb e2 (sb e1 ?_));symm)) hw
theorem Sy {loc:Nat} {k:Nat→Nat} {sl:Array (Option Value)} {cs out due:List Nat} {st tl ts to td:Nat} (hA:A.handled=none) (kk:au w h)
  (gl:h.get? (loc+845)=some (vK w.params gM k [.str (S cs) tl,.int (Int.ofNat st) ts,.str (S out) to,.str (S due) td] sl))
  (post:∀ h' tk',Keeps [] h h'→Q (if st<2 then .ret (.bool true) else .next) ⟨h',g,d,tk',os⟩) :
  wpAny (model pw w) A (exec (pO 2) (fK (loc+845))) Q E ⟨h,g,d,tk,os⟩:=by
 refine fX (bG ?_)
 have own:∀ q∈([(loc+845,vK w.params gM k [.str (S cs) tl,.int (Int.ofNat st) ts,.str (S out) to,.str (S due) td] sl)]:Led),h.get? q.1=some q.2:=bK gl
 obtain ⟨n0,R0⟩:=(Rep.start kk own fV (by simp)).up
 by_cases c:st<2
 ·refine fZ (tl9 w [iM "int.__lt__" (Int.ofNat st) 2 true] (n0+845) tk (loc+845) _ [1,2,0]) (aF.cons (nQ (by simp only [Int.ofNat_eq_natCast,decide_eq_true_eq];lia)) aF.nil) hA R0 (v:=.done (.ret (.bool true))) (by symm) ?_ rfl
  intro h1 R1
  simp only [if_pos c] at post
  exact post h1 _ (R1.done 0 (mod:=[]) (G':=[(loc+845,vK w.params gM k [.str (S cs) tl,.int (Int.ofNat st) ts,.str (S out) to,.str (S due) td] sl)]) (by symm) rfl own (by simp)).1
 ·refine fZ (tl9 w [iM "int.__lt__" (Int.ofNat st) 2 false] (n0+845) tk (loc+845) _ [1,2,0]) (aF.cons (nQ (by simp only [Int.ofNat_eq_natCast,decide_eq_false_iff_not];lia)) aF.nil) hA R0 (v:=.done .next) (by symm) ?_ rfl
  intro h1 R1
  simp only [if_neg c] at post
  exact post h1 _ (R1.done 0 (mod:=[]) (G':=[(loc+845,vK w.params gM k [.str (S cs) tl,.int (Int.ofNat st) ts,.str (S out) to,.str (S due) td] sl)]) (by symm) rfl own (by simp)).1
theorem Hf {cs out due:List Nat} {tl ts to td:Nat} {k:Nat→Nat} {loc:Nat} (st:Nat) (esc:Bool) (hs:(st=2∨st=3)∧esc=false∨(st=4∨st=5)∧esc=true) :
  m6 w "ValueError" (pO 3) (fK (loc+845)) (loc+845) (vK w.params gM k [.str (S cs) tl,.int (Int.ofNat st) ts,.str (S out) to,.str (S due) td]) (jH esc) (fun _ _ _=>.bool true) (fun _ _ _=>[]) 0 [1,1] [0,0,1,0,0,1] [0,0,1,0,0,0,0] [1,1,1,1]:=by
 rcases hs with ⟨rfl | rfl,rfl⟩ | ⟨rfl | rfl,rfl⟩
 all_goals exact {
  sl:=fun _ _=>⟨rfl,rfl⟩
  c1:=fun _ _ _=>by symm
  c2:=fun _ _ _ _=>⟨by symm,by symm⟩
  c3:=fun _ _ _ _ _ _=>⟨by symm,by symm⟩
  c4:=fun _ _ _ _ _ _ _ _ _=>by symm
  c5:=fun _ _ _ _ _ _ _ _ _ _ _=>⟨by symm,by symm⟩}
theorem Oc {loc:Nat} {k:Nat→Nat} {sl:Array (Option Value)} {cs out due:List Nat} {st tl ts to td:Nat} {ws:List (List Nat)} {l:List Env} {esc:Bool} (hs:(st=2∨st=3)∧esc=false∨(st=4∨st=5)∧esc=true) (hA:A.handled=none) (hD:A.depth+12<recursionLimit) (hu:A.units+2<cLine) (hfr:A.frames=some (fK (loc+845)::l)) (FF:aG h l) (kk:au w h)
  (sg:∀ c∈cs,c∈sgn) (b1:cs.length≤900) (b2:2≤cs.length) (rd:Reads true cs ws (some esc)) (hw:ws.length≤900)
  (gl:h.get? (loc+845)=some (vK w.params gM k [.str (S cs) tl,.int (Int.ofNat st) ts,.str (S out) to,.str (S due) td] sl))
  (post:∀ h' tk',ak [loc+845] h h'→Q (.ret (.bool true)) ⟨h',g,d,tk',os⟩) :
  wpAny (model pw w) A (exec (.Try (wD (pO 3)) [.ExceptHandler (some (Lf (pO 3))) (some (NZ (pO 3))) (gC (hnB (pO 3)) 0::[]) (N5 (pO 3))] [] [] (GX (pO 3))) (fK (loc+845))) Q E ⟨h,g,d,tk,os⟩:=by
 refine wpAny_Try_except (bG ?_)
 have own:∀ q∈([(loc+845,vK w.params gM k [.str (S cs) tl,.int (Int.ofNat st) ts,.str (S out) to,.str (S due) td] sl)]:Led),h.get? q.1=some q.2:=bK gl
 obtain ⟨n0,R0⟩:=(Rep.start kk own fV (by simp)).up
 refine gen (ag9 w (n0+845) tk (loc+845) (vK w.params gM k [.str (S cs) tl,.int (Int.ofNat st) ts,.str (S out) to,.str (S due) td] sl)) fun q1 e1=>?_
 refine bQ q1 .nil hA R0 (n:=0) (c:=.call (.ref 734) ⟨[.str (S cs) tl],[]⟩) (fr:=[]) (u:=0) ⟨by refine sb e1 ?_;symm,by refine sb e1 ?_;symm⟩ ?_ e1.symm
 intro A3 h3 iY lJ I3 _ R3
 have K3:Keeps [] h h3:=(R3.done 0 (G:=[(loc+845,vK w.params gM k [.str (S cs) tl,.int (Int.ofNat st) ts,.str (S out) to,.str (S due) td] sl)]) (G':=[(loc+845,vK w.params gM k [.str (S cs) tl,.int (Int.ofNat st) ts,.str (S out) to,.str (S due) td] sl)]) (mod:=[]) (by refine sb e1 ?_;symm) rfl own (by simp)).1
 have F3':aG h3 l:=FF.keeps fun env he a ea=>K3.f.get a not_mem_nil
 have F3:aG h3 (fK (loc+845)::l):=R3.frCons F3' 0 (a:=loc+845) (by refine sb e1 ?_;symm)
 have Jj:A3.depth=A.depth:=lJ
 refine tO (s:=S cs) iY (by lia) (I3 _ hfr) F3 R3.old (cs:=cs) rfl sg (by show cs.length<1000;lia) b2 rd hw (fun x=>nomatch x) ?_
 intro aQ6 ee h4 tk4 e t T hd f pl tm K4 FL
 obtain rfl:=Option.some.inj ee
 have g3:=K3.get _ _ gl not_mem_nil
 obtain ⟨_,s4,jc⟩:=K4.get _ not_mem_nil _ g3
 have k4:au w h4:=K4.kok R3.old aX
 have lo:=FL.lo
 have N8:(845:Nat)≤h3.objs.size:=au.size (w:=w) R3.old
 have dK:∀ q∈([(e,fM "ValueError" t (.ref T) .none .none (.bool false) .none),(T,qj hd f .none pl)]:Led),h4.get? q.1=some q.2:=by simp [FL.exc,FL.tb]
 obtain ⟨n4,R4⟩:=(Rep.start k4 dK (lG FL.ne.2.1) (by simp;exact ⟨Nat.le_trans N8 lo.1,Nat.le_trans N8 lo.2.2⟩)).up
 refine fB (lrE w q1 e _ (n4+845) tk4) .nil hA R4 (v:=.ref e) (by refine sb e1 ?_;symm) ?_ rfl
 intro h5 R5
 have qm:=R5.cast (L':=[(e,fM "ValueError" t (.ref T) .none .none (.bool false) .none),(T,qj hd f .none pl)]) (by refine sb e1 ?_;symm)
 have K5:Keeps [] h4 h5:=(qm.done 0 (mod:=[]) rfl rfl dK (fun p hp=>.inr hp)).1
 have F5:aG h5 (fK (loc+845)::l):=(F3'.keeps fun env he a _=>(K4.trans K5.f).get a not_mem_nil).cons (F3 _ (mem_cons_self ..)).1 rfl (K5.get _ _ jc not_mem_nil) rfl (by intro vs x;cases x)
 refine pL yD yE GC Bj (by decide) hA hu hfr F5 R5.old rfl (Nat.le_add_left _ _) (Nat.le_trans N8 lo.1) (qm.at 0 rfl) (K5.get _ _ FL.tup not_mem_nil) (.inr ⟨T,f,pl,hd,rfl,Ne.symm FL.ne.2.1,qm.at 1 rfl⟩) ⟨s4,K5.get _ _ jc not_mem_nil⟩ (Hf (cs:=cs) (out:=out) (due:=due) (tl:=tl) (ts:=ts) (to:=to) (td:=td) (k:=k) (loc:=loc) st esc hs) ?_
 intro h6 lg n6 aQ7 K6 ln gN
 refine post h6 lg ?_
 have K35:ak [loc+845] h h5:=((K3.f.trans K4).trans K5.f).mono aX
 refine K35.to K6 (fun x hx=>.inl hx) (fun x hx=>?_)
 simp only [mem_cons,not_mem_nil,or_false] at hx
 rcases hx with rfl | rfl
 ·exact .inr (Nat.le_trans K3.size lo.1)
 ·exact .inl mem_cons_self
theorem Af {cs out:List Nat} {st tl ts to:Nat} {ws ws':List (List Nat)} {l:List Env} (hst:st<6) (hA:A.handled=none) (hD:A.depth+14<recursionLimit) (hu:A.units+9<cLine) (hfr:A.frames=some l) (FF:aG h l) (kk:au w h)
  (sg:∀ c∈cs++bf st,c∈sgn) (b1:cs.length≤900) (b2:2≤cs.length) (bo:out.length≤40000) (rd:Reads true (cs++bf st) ws none) (hw:ws.length≤900) (hs:bD (out++iV st)=ws++[[]])
  (rd':2≤st→Reads true cs ws' (some (decide (4≤st)))) (hw':ws'.length≤900)
  (post:∀ h' tk',ak [] h h'→R (.ok (.ret (.bool true))) ⟨h',g,d,tk',os⟩) :
  codeAny (model pw w) A (.call (.ref 839) ⟨[.str (S cs) tl,.int (Int.ofNat st) ts,.str (S out) to],[]⟩) R ⟨h,g,d,tk,os⟩:=by
 obtain ⟨n0,R0⟩:=(Rep.nil (w:=w) kk).up
 have dW:h.objs.size=n0+845:=R0.size
 refine fC (tl0 w (n0+845) tk cs tl st ts out to) hA (by lia) R0 (body:=iJ (fs 37)) (env:=fK (n0+845)) (by symm) (by symm) (by symm) ?_ rfl
 intro h1 R1
 have K1:=R1.fresh.1
 have gl:=R1.at (a:=n0+845) (o:=bB w.params gM (kOf (tl0 w (n0+845) tk cs tl st ts out to).L 0) [.str (S cs) tl,.int (Int.ofNat st) ts,.str (S out) to]) 0 (by symm)
 have hU:(A.deeper (fK (n0+845))).units=A.units+3:=rfl
 have Vz:(A.deeper (fK (n0+845))).depth=A.depth+1:=rfl
 have nl:=FF.old (a:=n0+845) (by rw [dW];exact Nat.le_refl _)
 have F1:aG h1 l:=FF.keeps fun env he a _=>K1.f.get a not_mem_nil
 have hd:(iV st).length≤3:=by unfold iV;split <;> simp
 have new:∀ x∈[n0+845],x∈([]:List Addr)∨h.objs.size≤x:=by simp [dW]
 rw [Jr]
 refine wpAny_execs_cons (Oa hst hA R1.old (by lia) gl ?_)
 intro h2 tk2 k2 td K2 dX
 have F2:aG h2 l:=F1.keepsL gl K2 nl
 have Ld:au w h2:=K2.kok R1.old (by simp)
 refine wpAny_execs_cons (Bo Sx (Js hst hA (by lia) (Around.frames_deeper hfr) F2 nl Ld sg b1 b2 rd hw dX ?_))
 intro h3 tk3 S1 vs c sl K3 iz lS gS hwv
 have kk3:au w h3:=K3.kok Ld (by simp)
 refine G8 hA kk3 (by simp;lia) hs iz ?_
 intro h4 tk4 S2 ys c2 K4 vA hwy
 refine ⟨yI (by lia) (K4.get _ _ gS not_mem_nil) vA hwv hwy,?_⟩
 have PX:au w h4:=K4.kok kk3 aX
 have jc:=K4.get _ _ iz not_mem_nil
 have kO:ak [] h h4:=((K1.f.to K2.f aX new).to K3 aX new).to K4.f aX aX
 refine wpAny_execs_cons (Sy hA PX jc ?_)
 intro h5 lB K5
 have qy:ak [] h h5:=kO.trans K5.f
 by_cases c:st<2
 ·rw [if_pos c]
  exact post h5 lB qy
 ·rw [if_neg c]
  have F5:aG h5 l:=FF.keeps fun env he a _=>qy.get a not_mem_nil
  refine wpAny_execs_cons (Oc (esc:=decide (4≤st)) ?_ hA (by lia) (by lia) (Around.frames_deeper hfr) F5 (K5.kok PX aX) (fun x hx=>sg x (List.mem_append_left _ hx)) b1 b2 (rd' (by lia)) hw' (K5.get _ _ jc not_mem_nil) ?_)
  ·rcases six hst with rfl | rfl | rfl | rfl | rfl | rfl
   ·lia
   ·lia
   ·exact .inl ⟨.inl rfl,rfl⟩
   ·exact .inl ⟨.inr rfl,rfl⟩
   ·exact .inr ⟨.inl rfl,rfl⟩
   ·exact .inr ⟨.inr rfl,rfl⟩
  ·intro h6 lg K6
   exact post h6 lg (qy.to K6 aX new)
end
end
noncomputable def SJ (s:Stmt):Prop:=s=.If (.Compare (wF s) [.Is] [uT s] (Kw (Eb s))) (iJ s) (sv s).2.2.2.2.2.1 (Qo s)∧behindInMarks .Is (uT s)=false
noncomputable def ifB (s:Stmt):List Stmt:=iJ s
section
variable {E:Value→Shared→Prop} {Q:Flow→Shared→Prop}
theorem Dh {env:Env} {e T t L:Nat} {nm:String} {c2 c3 c4 c5 hd:Value} {pl:List Value} {s:Shared} {E:Value→Shared→Prop} (he:s.heap.get? e=some (fM nm t (.ref T) c2 c3 c4 c5)) (hT:s.heap.get? T=some (qj hd L (rawInt L) pl)) (h:E (.ref e) s) (ef:env.frame=some L:=by rfl):cameBackBy (model pw w) A env E (.ref e) s:=by
 unfold cameBackBy
 refine wpAny_bind (wpAny_field he rfl (i:=1) (x:=.ref T) rfl ?_)
 rw [if_neg (by simp),ef]
 unfold setFlight
 refine wpAny_bind (wpAny_field he rfl (i:=1) (x:=.ref T) rfl ?_)
 rw [if_pos (by simp)]
 refine wpAny_setField hT rfl (by simp) ?_
 show E (.ref e) {s with heap:=s.heap.update T (Obj.mapFields (·.setIfInBounds 3 (rawInt L)))}
 rw [Heap.update_setField_same _ T _ _ 3 (rawInt L) hT rfl rfl]
 exact h
theorem aG.stepF {h h':Heap} {l:List Env} {m:List Addr} (F:aG h l) (K:ak m h h') (nm:∀ a∈m,∀ o,h.get? a=some o→o.cls≠.type "frame"):aG h' l:=F.keeps fun env he a ea=>K.get a fun hm=>by
 obtain ⟨_,L,o,e1,e2,e3,_⟩:=F env he
 rw [ea] at e1
 obtain rfl:=Option.some.inj e1
 exact nm _ hm _ e2 e3.1
theorem Od {Q:Fin→Shared→Prop} {h₀:Heap} {gv:List Addr} {t:Sem Fin} {v:Value} {L:Led} {nx tk:Nat} {aC:List Nat} {H:List Hk} (q:Rs) (HH:aF w H) (hA:A.handled=none) (rep:Rep (K w) h₀ gv L nx h)
  (ok:wj q v) (k:∀ h,Rep (K w) h₀ gv q.L q.nx h→E v ⟨h,g,d,q.tk,os⟩)
  (e:q=bL w H t L nx tk aC):wpAny (model pw w) A t Q E ⟨h,g,d,tk,os⟩:=by
 subst e
 refine wg HH aC hA rep ok.good ?_
 have e:=(Prod.mk.inj (Prod.mk.inj (Prod.mk.inj ok).2).2).2
 unfold gQ
 rw [e]
 exact k
theorem Jt {st:Stmt} {env:Env} {s:Shared} (hs:SJ st) (z:wpAny (model pw w) A (eval (wF st) env) (fun a s1=>wpAny (model pw w) A (eval (uT st) env) (fun b s2=>(∃ x,a=.ref x∧b=.ref x)∧wpAny (model pw w) A (execs (ifB st) env) Q E s2) E s1) E s):wpAny (model pw w) A (exec st env) Q E s:=by
 refine sb (congrArg (exec · env) hs.1.symm) ?_
 refine wpAny_If (wpAny_isTrue_Compare1 (wpAny_mono z (fun a s1 z1=>wpAny_mono z1 (fun b s2 z2=>?_) fun _ _ x=>x) fun _ _ x=>x) hs.2)
 obtain ⟨⟨x,rfl,rfl⟩,z2⟩:=z2
 show wpAny _ _ (do return Value.bool (← isSame (.ref x) (.ref x))) _ _ _
 refine wpAny_bind (wpAny_of_eq (a:=true) (by unfold isSame;simp) (wpAny_pure (wpAny_truthy_bool ?_)))
 rw [if_pos rfl]
 exact z2
section
variable {s:Shared} {E:Value→Shared→Prop}
theorem uU:entryFor table "proto.unchain" = some Builtin.«proto.unchain»:=entryFor_of_tree (by symm)
theorem uV:plainId "proto.unchain" = true:=by decide +kernel
theorem Ag {cls c1:String} (F:ExcRaiseFacts cls) {x c:Sem Value} {env:Env} {e1 t1:Nat} {SM a3 a4 a5:Value} {Q:Flow→Shared→Prop} (hh:A.handled=some (.ref e1)) (hc:∀ s (Q:Value→Shared→Prop),Q .none s→wpAny (model pw w) A c Q E s)
  (h:wpAny (model pw w) A x (fun v s₁=>∃ e t,v=.ref e∧e≠e1∧s₁.heap.get? e=some (fM cls t .none .none .none (.bool false) .none)∧s₁.heap.get? e1=some (fM c1 t1 SM .none a3 a4 a5) ∧
   ∀ h',Keeps [e] s₁.heap h'→h'.get? e=some (fM cls t .none (.ref e1) .none (.bool true) .none)→E (.ref e) {s₁ with heap:=h'}) E s) :
  wpAny (model pw w) A (raiseStmt env (some x) (some c)) Q E s:=by
 unfold raiseStmt
 refine wpAny_bind (wpAny_mono h (fun v s₁ h₁=>?_) fun _ _ x=>x)
 obtain ⟨e,t,rfl,ne,he,he1,hE⟩:=h₁
 obtain ⟨hp,g,d,tk,os⟩:=s₁
 have hsub:=F.isExc
 have hmeta:=F.plainMeta
 refine wpAny_bind (wpAny_holding (hc _ _ (wpAny_bind (wpAny_pure ?_))))
 refine wpAny_bind (m:=holding _ _) ?_
 repeat (first | refine wpAny_loadPart he ?_ | wp_step)
 refine wpAny_of_eq F.isExc ?_
 rw [if_pos rfl]
 refine wpAny_pure ?_
 show wpAny _ _ (if (Value.none == Value.none)=true then _ else _) _ _ _
 rw [if_pos (show (Value.none == Value.none)=true from rfl)]
 refine wpAny_bind (wpAny_pure ?_)
 refine wpAny_bind (wpAny_setField he rfl (by simp) ?_)
 rw [Heap.update_setField_same _ e _ _ 3 .none he rfl rfl]
 refine wpAny_bind (wpAny_setField he rfl (by simp) ?_)
 have he2:(hp.update e (Obj.mapFields (·.setIfInBounds 4 (Value.bool true)))).get? e=some (fM cls t .none .none .none (.bool true) .none):=by
  rw [Heap.get?_update_self _ he rfl];rfl
 have Oe:(hp.update e (Obj.mapFields (·.setIfInBounds 4 (Value.bool true)))).get? e1=some (fM c1 t1 SM .none a3 a4 a5):=(Heap.get?_update_other _ _ ne).trans he1
 revert he2 Oe
 refine gen (hp.update e (Obj.mapFields (·.setIfInBounds 4 (Value.bool true)))) fun h2 eh=>?_
 intro he2 Oe
 repeat (first | refine wpAny_loadPart he2 ?_ | wp_step)
 unfold raiseNew
 refine wpAny_bind (wpAny_handled ?_)
 rw [hh]
 show wpAny _ _ (if (Value.ref e1 != Value.ref e)=true then _ else _) _ _ _
 rw [if_pos (show (Value.ref e1 != Value.ref e)=true by simpa using Ne.symm ne)]
 refine wpAny_bind (wpAny_holding (wpAny_runValue (codeAny_builtin uU ?_)))
 rw [Around.under_plainId uV _]
 unfold Builtin.«proto.unchain»
 refine wpAny_bind (wpAny_field Oe rfl (x:=.none) rfl ?_)
 rw [if_pos (show (Value.none == Value.none)=true from rfl)]
 refine wpAny_pure ?_
 unfold updateField
 refine wpAny_bind (wpAny_bind (wpAny_load he2 ?_))
 show wpAny _ _ (if 2<6 then _ else _) _ _ _
 rw [if_pos (by decide)]
 refine wpAny_update he2 ?_
 refine wpAny_throw (hE _ ?_ ?_)
 ·rw [← eh]
  exact bJ.trans bJ
 ·rw [Heap.get?_update_self _ he2 rfl]
  rfl
noncomputable def VB (s:Stmt):Expr:=Eb s
noncomputable def raC (s:Stmt):Expr:=(sv s).2.2.2.1
noncomputable abbrev Li (s:Stmt):Prop:=s=.Raise (some (VB s)) (some (.Constant .none (ev (raC s)).2.2.2.2.1 (Kw (raC s)))) (Qo s)
theorem rJ {st:Stmt} {cls c1:String} (F:ExcRaiseFacts cls) {env:Env} {e1 t1:Nat} {SM a3 a4 a5:Value} {Q:Flow→Shared→Prop} (hs:Li st) (hh:A.handled=some (.ref e1))
  (h:wpAny (model pw w) A (eval (VB st) env) (fun v s₁=>∃ e t,v=.ref e∧e≠e1∧s₁.heap.get? e=some (fM cls t .none .none .none (.bool false) .none)∧s₁.heap.get? e1=some (fM c1 t1 SM .none a3 a4 a5) ∧
   ∀ h',Keeps [e] s₁.heap h'→h'.get? e=some (fM cls t .none (.ref e1) .none (.bool true) .none)→E (.ref e) {s₁ with heap:=h'}) E s) :
  wpAny (model pw w) A (exec st env) Q E s:=by
 obtain ⟨x,k,p,pos,ex,es⟩:∃ x k p pos,VB st=x∧st=.Raise (some x) (some (.Constant .none k p)) pos:=⟨_,_,_,_,rfl,hs⟩
 rw [ex] at h
 refine sb (congrArg (exec · env) es.symm) ?_
 rw [arm_exec_Raise]
 show wpAny _ _ (do standAt pos;raiseStmt env (some (do let v ← eval x env;standAt pos;pure v)) (some (do let v ← eval (.Constant .none k p) env;standAt pos;pure v))) _ _ _
 exact wpAny_bind (wpAny_standAt (Ag F hh (fun s Q hq=>wpAny_bind (wpAny_Constant_none (wpAny_bind (wpAny_standAt (wpAny_pure hq))))) (wpAny_bind (wpAny_mono h (fun v s₁ h₁=>wpAny_bind (wpAny_standAt (wpAny_pure h₁))) fun _ _ x=>x))))
end
noncomputable def Lj (i:Nat):Stmt:=gC (iJ (fs 23)) i
noncomputable def Ju:Stmt:=gC (ifB (Lj 1)) 0
theorem Jv:iJ (fs 23)=Lj 0::Lj 1::(iJ (fs 23)).drop 2:=by symm
theorem SN:SJ (Lj 1):=⟨by symm,by symm⟩
theorem Og:ifB (Lj 1)=[.Try (wD Ju) [.ExceptHandler (some (Lf Ju)) none (gC (hnB Ju) 0::[]) (N5 Ju)] [] [] (GX Ju)]:=by symm
def SQ (w:World) (n tk:Nat) (l c:Nat):Rs:=ig w 743 (fdOf (Ms w.params)) ⟨[.ref 818,.ref l],[]⟩ [(l,aj #[] c)] n tk [0,0,1,1,1,1,1,1]
def VD (w:World) (n tk:Nat) (loc:Nat) (o:Obj) (l c:Nat):Rs:=bL w [] (wV [Lj 0] (fW loc)) [(loc,o),(l,aj #[] c)] n tk (og 0x12210202200100)
def rn2 (w:World) (n tk:Nat) (loc:Nat) (o:Obj):Rs:=bL w [] (vJ (wF (Lj 1)) (fW loc)) [(loc,o)] n tk [1]
def rn3 (w:World) (n tk:Nat) (loc:Nat) (o:Obj):Rs:=bL w [] (vJ (uT (Lj 1)) (fW loc)) [(loc,o)] n tk [0]
def VF (w:World) (n tk:Nat) (loc:Nat) (o:Obj) (it l c:Nat):Rs:=bL w [] (wV (wD Ju) (fW loc)) [(loc,o),(it,jN l 0),(l,aj #[] c)] n tk (og 0x12223220202200100)
def rn5 (w:World) (e n tk loc:Nat):Rs:=uJ w (.ref e) (vJ (Lf Ju) (fW loc)) [] n tk [0,0]
def VG (w:World) (e n tk loc:Nat):Rs:=uJ w (.ref e) (vJ (VB (gC (hnB Ju) 0)) (fW loc)) [] n tk [0,0,0,0,0,1]
noncomputable def uW:Str:=lits "reduce() of empty iterable with no initial value"
def rn7 (w:World) (e n tk:Nat) (q:Rs) (a:Nat) (L:Led):Rs:=vf w (.ref e) q (.ok (.ret (.ref a))) L n tk [1,1,0,1,1,0,2,2,2]
section
variable (n tk loc l c it e t T:Nat) (k:Nat→Nat) (f:Nat) (fl:Value) (pl:List Value)
theorem ah5:iB (SQ w (n+845) tk (l+845) c):=by symm
theorem SX:(SQ w (n+845) tk (l+845) c).L[0]? = some (n+845,bB w.params bR (kOf (SQ w (n+845) tk (l+845) c).L 0) [.ref 818,.ref (l+845),.ref 735]):=by symm
theorem ah6:cU (VD w (n+845) tk (loc+845) (bB w.params bR k [.ref 818,.ref (l+845),.ref 735]) (l+845) c) (.done .next):=by symm
theorem S5:(VD w (n+845) tk (loc+845) (bB w.params bR k [.ref 818,.ref (l+845),.ref 735]) (l+845) c).L=[(n+845,jN (l+845) 0),(loc+845,bB w.params bR (kOf (VD w (n+845) tk (loc+845) (bB w.params bR k [.ref 818,.ref (l+845),.ref 735]) (l+845) c).L 1) [.ref 818,.ref (l+845),.ref 735,.ref (n+845)]),(l+845,aj #[] c)]:=by symm
theorem ah7:cU (rn2 w (n+845) tk (loc+845) (bB w.params bR k [.ref 818,.ref (l+845),.ref 735,.ref (it+845)])) (.done (.ret (.ref 735))):=by symm
theorem ah8:cU (rn3 w (n+845) tk (loc+845) (bB w.params bR k [.ref 818,.ref (l+845),.ref 735,.ref (it+845)])) (.done (.ret (.ref 735))):=by symm
theorem ah9:wj (VF w (n+845) tk (loc+845) (bB w.params bR k [.ref 818,.ref (l+845),.ref 735,.ref (it+845)]) (it+845) (l+845) c) (.ref (n+845+1)):=by symm
theorem S6:(VF w (n+845) tk (loc+845) (bB w.params bR k [.ref 818,.ref (l+845),.ref 735,.ref (it+845)]) (it+845) (l+845) c).L=[(n+845+1,fM "StopIteration" (n+845) .none .none .none (.bool false) .none),(n+845,gn []),(loc+845,bB w.params bR k [.ref 818,.ref (l+845),.ref 735,.ref (it+845)]),(it+845,lo (VF w (n+845) tk (loc+845) (bB w.params bR k [.ref 818,.ref (l+845),.ref 735,.ref (it+845)]) (it+845) (l+845) c).L 3),(l+845,aj #[] c)]:=by symm
theorem ai0:cU (rn5 w e (n+845) tk loc) (.done (.ret (.type "StopIteration"))):=by symm
theorem ai1:CZ (VG w (e+845) (n+845) tk (loc+845)) (.ref (e+845)) 0 (.builtin "TypeError.__new__" ⟨[.type "TypeError",.str uW tk],[]⟩) [] 1:=by symm
theorem ai2 (q:Rs) (tm:Nat) (e6:VG w (e+845) (it+845) tm (loc+845)=q):cU (rn7 w (e+845) (n+845+1+1) tk q (n+845+1) [(n+845+1,fM "TypeError" (n+845) .none .none .none (.bool false) .none),(n+845,gn [.str uW tm])]) (.done (.ret (.ref (n+845+1)))):=by refine sb e6 ?_;symm
theorem S8 (q:Rs) (tm:Nat) (e6:VG w (e+845) (it+845) tm (loc+845)=q):(rn7 w (e+845) (n+845+1+1) tk q (n+845+1) [(n+845+1,fM "TypeError" (n+845) .none .none .none (.bool false) .none),(n+845,gn [.str uW tm])]).L.take 2=[(n+845+1+1,gn [.str uW tm]),(n+845+1,fM "TypeError" (n+845+1+1) .none .none .none (.bool false) .none)]:=by refine sb e6 ?_;symm
theorem ai3:Li (gC (hnB Ju) 0):=by symm
end
theorem pQ {l c:Nat} {fr:List Env} (hA:A.handled=none) (hD:A.depth+1<recursionLimit) (hfr:A.frames=some fr) (FF:aG h fr) (kk:au w h) (ll:845≤l) (gl:h.get? l=some (aj #[] c))
  (post:∀ h' tk' e t T f pl c2 c3 c4 c5 tm,ak [] h h'→h.objs.size≤e→h.objs.size≤t→T≠e→h'.get? e=some (fM "TypeError" t (.ref T) c2 c3 c4 c5)→h'.get? t=some (gn [.str uW tm])→h'.get? T=some (qj .none f .none pl)→R (.error (.ref e)) ⟨h',g,d,tk',os⟩) :
  codeAny (model pw w) A (.call (.ref 743) ⟨[.ref 818,.ref l],[]⟩) R ⟨h,g,d,tk,os⟩:=by
 obtain ⟨l',rfl⟩:=cH ll
 have uc:∀ q∈([(l'+845,aj #[] c)]:Led),h.get? q.1=some q.2:=bK gl
 obtain ⟨n0,R0⟩:=(Rep.start kk uc fV (by simp)).up
 have dW:h.objs.size=n0+845:=R0.size
 refine fC (SQ w (n0+845) tk (l'+845) c) hA (by lia) R0 (body:=iJ (fs 23)) (env:=fW (n0+845)) (by symm) (ah5 _ _ _ _) (by symm) ?_ rfl
 intro h1 R1
 have hfr':=Around.frames_deeper (env:=fW (n0+845)) hfr
 have K1:Keeps [] h h1:=(R1.done 1 (G':=[(l'+845,aj #[] c)]) (mod:=[]) (by symm) rfl uc (by simp)).1
 have jO:=R1.at (a:=n0+845) 0 (SX _ _ _ _)
 have fP:=K1.get _ _ gl not_mem_nil
 have nll:n0+845≠l'+845:=ne_of_cls jO fP (show Value.type "frame" ≠ .type "list" by decide)
 rw [Jv]
 refine wpAny_execs_cons (fX (bG ?_))
 revert jO;refine gen (kOf (SQ w (n0+845) tk (l'+845) c).L 0) fun k ek=>?_;intro jO
 have own1:∀ q∈([(n0+845,bB w.params bR k [.ref 818,.ref (l'+845),.ref 735]),(l'+845,aj #[] c)]:Led),h1.get? q.1=some q.2:=by simp [jO,fP]
 obtain ⟨n1,cN⟩:=(Rep.start R1.old own1 (lG nll) (by simp)).up
 have mW:h1.objs.size=n1+845:=cN.size
 refine fZ (VD w (n1+845) _ (n0+845) (bB w.params bR k [.ref 818,.ref (l'+845),.ref 735]) (l'+845) c) .nil hA cN (ah6 _ _ _ _ _ _) ?_ rfl
 intro h2 R2
 have DK:=R2.cast (S5 _ _ _ _ _ _)
 revert DK;refine yZ (kOf _ 1) ?_;intro k2;intro DK
 have K2:Keeps [n0+845] h1 h2:=DK.keeps (G':=[(l'+845,aj #[] c)]) (mod:=[n0+845]) rfl own1 (by simp) (by simp)
 have git:=DK.at (a:=n1+845) 0 rfl
 have mY:=DK.at (a:=n0+845) 1 rfl
 have dX:=DK.at (a:=l'+845) 2 rfl
 refine wpAny_execs_cons (Jt SN (dR ?_))
 have bW:∀ q∈([(n0+845,bB w.params bR k2 [.ref 818,.ref (l'+845),.ref 735,.ref (n1+845)])]:Led),h2.get? q.1=some q.2:=bK mY
 obtain ⟨n2,R3⟩:=(Rep.start R2.old bW fV (by simp)).up
 refine fZ (rn2 w (n2+845) _ (n0+845) (bB w.params bR k2 [.ref 818,.ref (l'+845),.ref 735,.ref (n1+845)])) .nil hA R3 (ah7 _ _ _ _ _ _) ?_ rfl
 intro h3 R4
 have K3:Keeps [] h2 h3:=(R4.done 0 (G':=[(n0+845,bB w.params bR k2 [.ref 818,.ref (l'+845),.ref 735,.ref (n1+845)])]) (mod:=[]) (by symm) rfl bW (by simp)).1
 refine dR ?_
 have jC:∀ q∈([(n0+845,bB w.params bR k2 [.ref 818,.ref (l'+845),.ref 735,.ref (n1+845)])]:Led),h3.get? q.1=some q.2:=fun q hq=>K3.get _ _ (bW q hq) not_mem_nil
 obtain ⟨n3,R5⟩:=(Rep.start R4.old jC fV (by simp)).up
 refine fZ (rn3 w (n3+845) _ (n0+845) (bB w.params bR k2 [.ref 818,.ref (l'+845),.ref 735,.ref (n1+845)])) .nil hA R5 (ah8 _ _ _ _ _ _) ?_ rfl
 intro h4 R6
 have K4:Keeps [] h3 h4:=(R6.done 0 (G':=[(n0+845,bB w.params bR k2 [.ref 818,.ref (l'+845),.ref 735,.ref (n1+845)])]) (mod:=[]) (by symm) rfl jC (by simp)).1
 refine ⟨⟨735,rfl,rfl⟩,?_⟩
 have S9:=K3.trans K4
 rw [Og]
 refine wpAny_execs_cons (wpAny_Try_except (bG ?_))
 have dK:∀ q∈([(n0+845,bB w.params bR k2 [.ref 818,.ref (l'+845),.ref 735,.ref (n1+845)]),(n1+845,jN (l'+845) 0),(l'+845,aj #[] c)]:Led),h4.get? q.1=some q.2:=fun q hq=>by
  simp only [mem_cons,not_mem_nil,or_false] at hq
  rcases hq with rfl | rfl | rfl
  ·exact S9.get _ _ mY not_mem_nil
  ·exact S9.get _ _ git not_mem_nil
  ·exact S9.get _ _ dX not_mem_nil
 have nli:n0+845≠n1+845:=ne_of_cls mY git (by show Value.type "frame" ≠ .type "list_iterator";decide)
 have nil:n1+845≠l'+845:=ne_of_cls git dX (by show Value.type "list_iterator" ≠ .type "list";decide)
 obtain ⟨n4,R7⟩:=(Rep.start R6.old dK (by
  simp only [map_cons,map_nil,nodup_cons,mem_cons,not_mem_nil,or_false,not_or,not_false_eq_true,List.nodup_nil,and_true]
  exact ⟨⟨nli,nll⟩,nil⟩) (by simp)).up
 have Rt:h4.objs.size=n4+845:=R7.size
 refine Od (VF w (n4+845) _ (n0+845) (bB w.params bR k2 [.ref 818,.ref (l'+845),.ref 735,.ref (n1+845)]) (n1+845) (l'+845) c) .nil hA R7 (ah9 _ _ _ _ _ _ _) ?_ rfl
 intro h5 R8
 have yc:=R8.cast (S6 _ _ _ _ _ _ _)
 revert yc;refine yZ (lo _ 3) ?_;intro oi;intro yc
 have ge1:=yc.at (a:=n4+845+1) 0 rfl
 have K5:Keeps [n1+845] h4 h5:=yc.keeps (G':=[(n0+845,bB w.params bR k2 [.ref 818,.ref (l'+845),.ref 735,.ref (n1+845)]),(l'+845,aj #[] c)]) (mod:=[n1+845]) rfl dK (by simp) (by simp)
 have jr:Keeps [] h h2:=K1.to (m:=[]) K2 (fun _ hx=>.inl hx) (by simp [dW])
 have qy:Keeps [] h h5:=(jr.trans S9).to (m:=[]) K5 (fun _ hx=>.inl hx) (by
  simp only [mem_singleton,forall_eq]
  exact .inr (by rw [← mW];exact K1.size))
 have F5':aG h5 fr:=FF.keeps fun env he a _=>qy.f.get a not_mem_nil
 have F5:aG h5 (fW (n0+845)::fr):=yc.frCons F5' 2 (a:=n0+845) (by symm)
 have g45:h.objs.size≤n4+845:=by
  rw [← Rt]
  exact Nat.le_trans K1.size (Nat.le_trans K2.size S9.size)
 refine jU hfr' F5 rfl ge1 (.inl rfl) ?_
 intro h6 pl6 z1 z2 z3 z4
 refine land z3 z4 ?_
 intro h7 y1 y2 y3
 refine wpAny_handleBy_builtin GJ GK NK (b:=true) (dR ?_)
 have K6:ak [n4+845+1] h5 h6:=z2.f z1
 have K7:Keeps [h5.objs.size] h6 h7:=⟨by rw [y1];exact Nat.le_refl _,fun b ob eb nb=>(y2 b (by simpa using nb)).trans eb⟩
 have l5:845≤h5.objs.size:=au.size (w:=w) R8.old
 have k6:au w h6:=K6.kok R8.old (by simp)
 have k7:au w h7:=K7.kok k6 (bK l5)
 have Td:n4+845+1≠h5.objs.size:=Nat.ne_of_lt (Heap.lt_size ge1)
 have ge7:=K7.get _ _ z3 (cZ Td)
 obtain ⟨n7,R9⟩:=(Rep.nil (w:=w) k7).up
 refine Ac (e:=.ref (n4+845+1)) (rn5 w (n4+845+1) (n7+845) _ (n0+845)) rfl R9 (ai0 _ _ _ _) ?_ rfl
 intro h8 VH
 have K8:=VH.fresh.1
 have ge8:=K8.get _ _ ge7 not_mem_nil
 refine ⟨rfl,⟨_,ge8,rfl⟩,?_⟩
 rw [if_pos rfl]
 refine land ge8 (K8.get _ _ y3 not_mem_nil) ?_
 intro h9 x1 x2 x3
 have K9:Keeps [h5.objs.size] h8 h9:=⟨by rw [x1];exact Nat.le_refl _,fun b ob eb nb=>(x2 b (by simpa using nb)).trans eb⟩
 have k9:au w h9:=K9.kok VH.old (bK l5)
 have ge9:=K9.get _ _ ge8 (cZ Td)
 refine wpAny_execs_cons (rJ (c1:="StopIteration") (t1:=n4+845) (SM:=.ref h5.objs.size) (a3:=.none) (a4:=.bool false) (a5:=.none) F.excRaise_TypeError ai3 rfl (dR ?_))
 obtain ⟨n9,R11⟩:=(Rep.nil (w:=w) k9).up
 have e41:n4+845+1=n4+1+845:=by lia
 rw [e41] at ge9 ⊢
 refine gen ((rn5 w (n4+845+1) (n7+845) _ (n0+845)).tk) ?_;intro lB e5
 refine gen (VG w (n4+1+845) (n9+845) lB (n0+845)) fun q6 e6=>?_
 refine yF (e:=.ref (n4+1+845)) q6 rfl R11 (n:=0) (c:=.builtin "TypeError.__new__" ⟨[.type "TypeError",.str uW lB],[]⟩) (fr:=[]) (u:=1) (e6 ▸ ai1 _ _ _ _) ?_ e6.symm
 intro A10 h10 aR4 aR5 _ _ VJ
 refine codeAny_exc_new F.excCall_TypeError.toExcNewFacts ?_ (by show 1≤sizeLine;decide)
 have Ah:Keeps [] h9 h10:=VJ.fresh.1
 have Ai:∃ n,h10.objs.size=n+845:=cH (au.size (w:=w) VJ.old)
 obtain ⟨n10,Ai⟩:=Ai
 obtain ⟨_,R13⟩:=(Rep.nil (w:=w) VJ.old).up
 have R13:Rep (K w) h10 [] [] (n10+845) h10:=Ai ▸ Rep.nil (w:=w) VJ.old
 have R14:=(R13.push (o:=gn [.str uW lB]) rfl).push (o:=fM "TypeError" (n10+845) .none .none .none (.bool false) .none) rfl
 rw [Ai]
 refine Bk (e:=.ref (n4+1+845)) (rn7 w (n4+1+845) (n10+845+1+1) q6.tk q6 (n10+845+1) _) rfl R14 (ai2 _ _ _ _ _ _ _ e6) ?_ rfl
 intro h11 R15
 have vL:Keeps [] h10 h11:=R15.fresh.1
 have Tf:∀ p∈[(n10+845+1+1,gn [.str uW lB]),(n10+845+1,fM "TypeError" (n10+845+1+1) .none .none .none (.bool false) .none)],h11.get? p.1=some p.2:=fun p hp=>by
  rw [← S8 (w:=w) _ _ _ _ _ _ _ e6] at hp
  exact R15.own p (List.mem_of_mem_take hp)
 have gt2:=Tf (n10+845+1+1,gn [.str uW lB]) mem_cons_self
 have ge2:=Tf (n10+845+1,fM "TypeError" (n10+845+1+1) .none .none .none (.bool false) .none) U0
 have ge10:=Ah.get _ _ ge9 not_mem_nil
 have RD:n4+1+845<n10+845:=by rw [← Ai];exact Heap.lt_size ge10
 have ai6:n10+845+1≠n4+1+845:=by lia
 refine ⟨_,_,rfl,ai6,ge2,vL.get _ _ ge10 not_mem_nil,fun h12 nJ Tg=>?_⟩
 have Ti:h5.objs.size≤h10.objs.size:=Nat.le_trans K6.size (Nat.le_trans K7.size (Nat.le_trans K8.size (Nat.le_trans K9.size Ah.size)))
 have K57:ak [n4+845+1] h5 h7:=K6.late K7.f (by simp)
 have K59:ak [n4+845+1] h5 h9:=(K57.trans (K8.f.mono aX)).late K9.f (by simp)
 have ai8:ak [n4+845+1] h5 h11:=(K59.trans (Ah.f.mono aX)).trans (vL.f.mono aX)
 have Tj:ak [n4+845+1] h5 h12:=ai8.late nJ.f (by
  simp only [mem_singleton,forall_eq]
  exact Nat.le_trans Ti (by rw [Ai];exact Nat.le_succ _))
 have F12:aG h12 (fW (n0+845)::fr):=F5.stepF Tj (by
  simp only [mem_singleton,forall_eq]
  intro o ho
  rw [ge1] at ho
  rw [← Option.some.inj ho]
  exact (show Value.type "StopIteration" ≠ .type "frame" by decide))
 have Tn:ak [] h h12:=qy.f.to Tj aX (by
  simp only [mem_singleton,forall_eq]
  exact .inr (Nat.le_succ_of_le g45))
 show wpAny (model pw w) _ (noteFrame (.ref (n10+845+1)) (fW (n0+845))) _ _ _
 refine jU (env:=fW (n0+845)) (outer:=fr) hfr' F12 rfl Tg (.inl rfl) ?_
 intro h13 ai9 w1 w2 w3 w4
 refine Dh (nm:="TypeError") w3 w4 ?_
 refine leave_held rfl w3 w4 ?_
 intro h14 u1 u2 u3
 have mz:ak [n10+845+1] h12 h13:=w2.f w1
 have zj:Keeps [h12.objs.size] h13 h14:=⟨by rw [u1];exact Nat.le_refl _,fun b ob eb nb=>(u2 b (by simpa using nb)).trans eb⟩
 have s05:h.objs.size≤h5.objs.size:=qy.size
 have Oh:h.objs.size≤n10+845:=by rw [← Ai];exact Nat.le_trans s05 Ti
 have Jw:ak [] h h13:=Tn.late mz (by
  simp only [mem_singleton,forall_eq]
  exact Nat.le_succ_of_le Oh)
 have aj0:ak [] h h14:=Jw.late zj.f (by
  simp only [mem_singleton,forall_eq]
  exact Tn.size)
 have Tp:n10+845+1≠h12.objs.size:=Nat.ne_of_lt (Heap.lt_size Tg)
 have Tq:=nJ.get _ _ gt2 (by simp)
 have aj1:=(w2.get (n10+845+1+1) (Nat.ne_of_gt (Nat.lt_succ_self _)) _ Tq).1 (show Value.type "tuple" ≠ .type "frame" by decide)
 refine post h14 _ (n10+845+1) (n10+845+1+1) h12.objs.size (n0+845) ai9 _ _ _ _ lB aj0 (Nat.le_succ_of_le Oh) (Nat.le_succ_of_le (Nat.le_succ_of_le Oh)) (Ne.symm Tp) ((u2 _ Tp).trans w3) ((u2 _ (Nat.ne_of_lt (Heap.lt_size Tq))).trans aj1) u3
noncomputable def m7 (loc:Nat):Env:={scope:=zq (fs 36),locals:=loc,globals:=3,cells:=[],qual:=lits "_law_of_none_refused.<locals>.",func:=some 832,code:=.ref 831,frame:=some loc,builtins:=0}
noncomputable def Lk:Stmt:=gC (iJ (fs 36)) 0
theorem Jx:iJ (fs 36)=[.Try (wD Lk) [.ExceptHandler (some (Lf Lk)) (some (NZ Lk)) (gC (hnB Lk) 0::[]) (N5 Lk)] [] [] (GX Lk),gC (iJ (fs 36)) 1]:=by symm
def nf0 (w:World) (n tk:Nat):Rs:=ig w 832 (fdOf (Q8 w.params)) ⟨[],[]⟩ [] n tk [0]
def nf1 (w:World) (n tk loc:Nat):Rs:=bL w [] (wV (wD Lk) (m7 loc)) [] n tk [0,0,0,1]
theorem Hg {k:Nat→Nat} {loc:Nat}:m6 w "TypeError" Lk (m7 (loc+845)) (loc+845) (vK w.params ["error"] k []) uW (fun _ _ _=>.bool true) (fun _ _ _=>[]) 0 [1,1] [0,0,1,0,0,1] [0,0,0,0] [1,1,1,1] where
 sl:=fun _ _=>⟨rfl,rfl⟩
 c1:=fun _ _ _=>by symm
 c2:=fun _ _ _ _=>⟨by symm,by symm⟩
 c3:=fun _ _ _ _ _ _=>⟨by symm,by symm⟩
 c4:=fun _ _ _ _ _ _ _ _ _=>by symm
 c5:=fun _ _ _ _ _ _ _ _ _ _ _=>⟨by symm,by symm⟩
theorem m9 {l:List Env} (hA:A.handled=none) (hD:A.depth+3<recursionLimit) (hu:A.units+6<cLine) (hfr:A.frames=some l) (FF:aG h l) (kk:au w h)
  (post:∀ h' tk',ak [] h h'→R (.ok (.ret (.bool true))) ⟨h',g,d,tk',os⟩) :
  codeAny (model pw w) A (.call (.ref 832) ⟨[],[]⟩) R ⟨h,g,d,tk,os⟩:=by
 obtain ⟨n0,R0⟩:=(Rep.nil (w:=w) kk).up
 have dW:h.objs.size=n0+845:=R0.size
 refine fC (nf0 w (n0+845) tk) hA (by lia) R0 (body:=iJ (fs 36)) (env:=m7 (n0+845)) (by symm) (by symm) (by symm) ?_ rfl
 intro h1 R1
 have K1:=R1.fresh.1
 have gl:=R1.at (a:=n0+845) (o:=vK w.params ["error"] (fun _=>0) [] ⟨[]⟩) 0 (by symm)
 have hU:(A.deeper (m7 (n0+845))).units=A.units+3:=rfl
 have Vz:(A.deeper (m7 (n0+845))).depth=A.depth+1:=rfl
 have F1:aG h1 l:=FF.keeps fun env he a _=>K1.f.get a not_mem_nil
 rw [Jx]
 refine wpAny_execs_cons (wpAny_Try_except (bG ?_))
 obtain ⟨n1,cN⟩:=(Rep.nil (w:=w) R1.old).up
 have mW:h1.objs.size=n1+845:=cN.size
 generalize e1:nf1 w (n1+845) _ (n0+845)=q1
 refine bQ q1 .nil hA cN (n:=0) (c:=.call (.ref 743) ⟨[.ref 818,.ref (n1+845)],[]⟩) (fr:=[]) (u:=0) ⟨by refine sb e1 ?_;symm,by refine sb e1 ?_;symm⟩ ?_ e1.symm
 intro A2 h2 PN hD2 hF2 _ R2
 have K2:=R2.fresh.1
 have gL:=R2.at (a:=n1+845) (o:=aj #[] 0) 0 (by refine sb e1 ?_;symm)
 have F2':aG h2 l:=F1.keeps fun env he a _=>K2.f.get a not_mem_nil
 have dX:=K2.get _ _ gl not_mem_nil
 have ev:(gY (m7 (n0+845)),(m7 (n0+845)).frame)=(true,some (n0+845)):=by symm
 have F2:aG h2 (m7 (n0+845)::l):=F2'.cons (by
  intro x
  have e:=(Prod.mk.inj ev).1
  unfold gY at e
  rw [x] at e
  cases e) (Prod.mk.inj ev).2 dX rfl (by intro vs x;cases x)
 have aS4:A2.depth=A.depth+1:=hD2
 refine pQ PN (by lia) (hF2 _ (Around.frames_deeper hfr)) F2 R2.old (Nat.le_add_left _ _) gL ?_
 intro h3 tk3 e t T f pl c2 c3 c4 c5 tm K3 le lt nTe ge gt gT
 obtain ⟨_,s3,iz⟩:=K3.get _ not_mem_nil _ dX
 have l2:(845:Nat)≤h2.objs.size:=au.size (w:=w) R2.old
 have jC:∀ q∈([(e,fM "TypeError" t (.ref T) c2 c3 c4 c5)]:Led),h3.get? q.1=some q.2:=bK ge
 obtain ⟨n3,R3⟩:=(Rep.start (K3.kok R2.old aX) jC fV (bK (Nat.le_trans l2 le))).up
 refine fB (lrE w q1 e _ (n3+845) tk3) .nil hA R3 (v:=.ref e) (by refine sb e1 ?_;symm) ?_ rfl
 intro h4 R4
 have Tt:=R4.cast (L':=[(e,fM "TypeError" t (.ref T) c2 c3 c4 c5)]) (by refine sb e1 ?_;symm)
 have K4:Keeps [] h3 h4:=(Tt.done 0 (mod:=[]) rfl rfl jC (fun p hp=>.inr hp)).1
 have jc:=K4.get _ _ iz not_mem_nil
 have zj:ak [] h1 h4:=(K2.f.trans K3).trans K4.f
 have F4:aG h4 (m7 (n0+845)::l):=(F1.keeps fun env he a _=>zj.get a not_mem_nil).cons (F2 _ (mem_cons_self ..)).1 (Prod.mk.inj ev).2 jc rfl (by intro vs x;cases x)
 refine pL GD GF Nz Jk (by decide) hA (by lia) (Around.frames_deeper hfr) F4 R4.old (Prod.mk.inj ev).2 (Nat.le_add_left _ _) (Nat.le_trans l2 le) (Tt.at 0 rfl) (K4.get _ _ gt not_mem_nil) (.inr ⟨T,f,pl,.none,rfl,nTe,K4.get _ _ gT not_mem_nil⟩) ⟨s3,jc⟩ (Hg (k:=fun _=>0) (loc:=n0)) ?_
 intro h5 lB n5 aS6 K5 _ _
 refine post h5 lB ?_
 have kO:ak [] h h4:=K1.f.trans zj
 refine kO.to K5 aX (fun x hx=>?_)
 simp only [mem_cons,not_mem_nil,or_false] at hx
 rcases hx with rfl | rfl
 ·exact .inr (Nat.le_trans K1.size (Nat.le_trans K2.size le))
 ·exact .inr (by rw [dW];exact Nat.le_refl _)
end
def vM (a b:Int):Hk:=⟨false,fun c _=>(.call (.builtin "int.__mod__") ⟨[.int a (tokV (iK c 0)),.int b (tokV (iK c 1))],[]⟩,default),fun _ _ tk=>.int (a.fmod b) tk,1⟩
def Hh (a b:Int):Hk:=⟨false,fun c _=>(.call (.builtin "int.__floordiv__") ⟨[.int a (tokV (iK c 0)),.int b (tokV (iK c 1))],[]⟩,default),fun _ _ tk=>.int (a.fdiv b) tk,1⟩
theorem j6 {a b:Int} (hb:¬(b == 0)=true):gB pw w (K w) (vM a b):=by
 intro g d os A R h tk c p hA e _ _ post
 obtain ⟨ec,_⟩:=Prod.mk.inj e
 rw [ec]
 exact dw F.slot_int_mod (typeIs_int _ _ _) F.entry_int_mod (F.args_int_mod_2 _ _) (AutoIntG6.int___mod___int_int_1 a _ b _ hb) (dN post)
theorem yK {a b:Int} (hb:¬(b == 0)=true) (hp:¬(Builtin.divisionGoesByPylong a b)=true):gB pw w (K w) (Hh a b):=by
 intro g d os A R h tk c p hA e _ _ post
 obtain ⟨ec,_⟩:=Prod.mk.inj e
 rw [ec]
 exact dw F.slot_int_floordiv (typeIs_int _ _ _) F.entry_int_floordiv (F.args_int_floordiv_2 _ _) (AutoIntG4.int___floordiv___int_int_1 a _ b _ hb hp) (dN post)
theorem uh {n:Nat} (hn:0<n):seqIndex? (Int.negSucc 0) n=some (n - 1):=by
 have h0:Int.negSucc 0<0:=by decide
 have h1:Int.negSucc 0+(n:Int)=((n - 1:Nat):Int):=by
  have:Int.negSucc 0 = -1:=rfl
  lia
 unfold seqIndex?
 simp only [h0,if_true,h1]
 rw [if_pos (by simp;lia)]
 simp
theorem nj {l c t:Nat} {vs:Array Value} {x:Value} (hl:h.get? l=some (aj vs c)) (hx:vs[vs.size - 1]? = some x) (post:R (.ok (.ret x)) ⟨h,g,d,tk,os⟩) :
  codeAny (model pw w) A (.call (.builtin "list.__getitem__") ⟨[.ref l,.int (-1) t],[]⟩) R ⟨h,g,d,tk,os⟩:=by
 have hT:Shared.TypeIs ⟨h,g,d,tk,os⟩ (.ref l) "list" := ⟨_,hl,rfl⟩
 have hn:0<vs.size:=by
  obtain ⟨h,_⟩:=Array.getElem?_eq_some_iff.mp hx
  lia
 refine gen (-1:Int) fun k ek=>?_
 refine codeAny_call_builtin slot_list_getitem.plain entry_list_getitem (slot_list_getitem.check _ _ _ _ _ _ _ _ hT (args_list_getitem _ _) ?_)
 show wpAny _ _ (Builtin.List.listSubscript? (.int k t) >>= _) _ _ _
 refine wpAny_bind (wpAny_listSubscript_int (by subst ek;decide) ?_)
 obtain rfl:k=Int.negSucc 0:=ek.symm
 show wpAny _ _ ((Builtin.List.listItems (.ref l) >>= fun xs=>pure ((seqIndex? (Int.negSucc 0) xs.size).bind fun j=>xs[j]?.map (j,·))) >>= _) _ _ _
 unfold Builtin.List.listItems
 refine wpAny_bind (wpAny_bind (wpAny_bind (wpAny_seqItems hl rfl (wpAny_pure (wpAny_pure ?_)))))
 show wpAny _ _ (match (seqIndex? (Int.negSucc 0) vs.size).bind fun j=>vs[j]?.map (j,·) with | some (_,x)=>_ | none=>_) _ _ _
 rw [uh hn,Option.bind_some,hx]
 exact wpAny_pure post
theorem nu {l c t:Nat} {vs:Array Value} {x:Value} (hl:h.get? l=some (aj vs c)) (hn:0<vs.size) (post:∀ h' c',Keeps [l] h h'→h'.get? l=some (aj (vs.setIfInBounds (vs.size - 1) x) c')→R (.ok (.ret .none)) ⟨h',g,d,tk,os⟩) :
  codeAny (model pw w) A (.call (.builtin "list.__setitem__") ⟨[.ref l,.int (-1) t,x],[]⟩) R ⟨h,g,d,tk,os⟩:=by
 have hT:Shared.TypeIs ⟨h,g,d,tk,os⟩ (.ref l) "list" := ⟨_,hl,rfl⟩
 refine gen (-1:Int) fun k ek=>?_
 refine codeAny_call_builtin slot_list_setitem.plain entry_list_setitem (slot_list_setitem.check _ _ _ _ _ _ _ _ hT (args_list_setitem _ _ _) ?_)
 show wpAny _ _ (Builtin.List.listSubscript? (.int k t) >>= _) _ _ _
 refine wpAny_bind (wpAny_listSubscript_int (by subst ek;decide) ?_)
 obtain rfl:k=Int.negSucc 0:=ek.symm
 show wpAny _ _ ((Builtin.List.listItems (.ref l) >>= fun xs=>pure ((seqIndex? (Int.negSucc 0) xs.size).bind fun j=>xs[j]?.map (j,·))) >>= _) _ _ _
 unfold Builtin.List.listItems
 refine wpAny_bind (wpAny_bind (wpAny_bind (wpAny_seqItems hl rfl (wpAny_pure (wpAny_pure ?_)))))
 have hj:vs[vs.size - 1]? = some (vs[vs.size - 1]'(by lia)):=Array.getElem?_eq_getElem (by lia)
 rw [uh hn,Option.bind_some,hj]
 show wpAny _ _ (setSeqItemAt l (vs.size - 1) x >>= _) _ _ _
 refine wpAny_bind (wpAny_setSeqItemAt hl rfl (wpAny_pure (post _ _ bJ ((Heap.get?_update_self _ hl rfl).trans rfl))))
noncomputable def Jy:List String:=["script","signs","pieces","x"]
noncomputable def vN (loc:Nat):Env:={scope:=zq (fs 30),locals:=loc,globals:=3,cells:=[],qual:=lits "_law_pieces.<locals>.",func:=some 792,code:=.ref 791,frame:=some loc,builtins:=0}
noncomputable def P0:Stmt:=gC (iJ (fs 30)) 2
noncomputable def um (loc it:Nat):Code:=.forLoop (eY P0) (.ref it) (eG P0) [] (vN loc)
noncomputable def gO:List Nat:=[32,39,34,92,97,35,10,36,39,34,92,233,39,9,13,160]
noncomputable def Aj (x:Int):Nat:=gO.getD (x.fmod 16).toNat 0
noncomputable def cQ (ps:List (List Nat)) (x:Int):List (List Nat):=
 let ps':=ps.dropLast++[ps.getLastD []++[Aj x]]
 if (x.fdiv 16).fmod 3=0 then ps'++[[]] else ps'
def pc1 (w:World) (n tk loc it:Nat) (v:Value) (L:Led):Rs:=bL w [] (jX (eY P0) (.ref it) v (eG P0) [] (vN loc)) L n tk [1,1,1,0,0,2,2,1]
def pc2 (w:World) (H:List Hk) (n tk:Nat) (q:Rs) (v:Value) (L:Led) (aC:List Nat):Rs:=aB w H q (.ok (.ret v)) L n tk aC
section
variable (n tk loc gk sg it:Nat) (k:Nat→Nat) (sc:Value) (x:Int) (tx:Nat) (rest:List Value) (vs:Array Value) (c:Nat) (sv:Array Value) (c2:Nat)
def jx (P:Params) (loc gk sg:Nat) (k:Nat→Nat) (sc:Value) (rest:List Value) (vs:Array Value) (c:Nat) (sv:Array Value) (c2:Nat):Led:=[(loc,bB P Jy k (sc::.ref sg::.ref gk::rest)),(gk,aj vs c),(sg,aj sv c2)]
theorem aj2 (hr:rest=[]∨∃ v,rest=[v]):fU (pc1 w (n+845) tk (loc+845) it (.int x tx) (jx w.params (loc+845) (gk+845) (sg+845) k sc rest vs c sv c2)) 0 (.call (.builtin "list.__getitem__") ⟨[.ref (gk+845),.int (-1) (tk+2)],[]⟩) ∧
  (pc1 w (n+845) tk (loc+845) it (.int x tx) (jx w.params (loc+845) (gk+845) (sg+845) k sc rest vs c sv c2)).L=jx w.params (loc+845) (gk+845) (sg+845) (kOf (pc1 w (n+845) tk (loc+845) it (.int x tx) (jx w.params (loc+845) (gk+845) (sg+845) k sc rest vs c sv c2)).L 0) sc [.int x tx] vs c sv c2:=by rcases hr with rfl | ⟨v,rfl⟩ <;> exact ⟨by symm,by symm⟩
end
theorem uo:∀ {ws:List (List Nat)} {x:List Nat} {vs:List Value},words (ws++[x]) vs→∃ us v,vs=us++[v]∧words ws us∧∃ t,v=.str (S x) t
 | [],x,[v],h=>⟨[],v,rfl,trivial,h.1⟩
 | [],x,[],h=>by cases h
 | [],x,_::_::_,h=>by cases h.2
 | w::ws,x,[],h=>by cases h
 | w::ws,x,v::vs,h=>by
  obtain ⟨us,u,e,h1,h2⟩:=uo h.2
  exact ⟨v::us,u,by rw [e];rfl,⟨h.1,h1⟩,h2⟩
theorem pR:∀ {ws ws':List (List Nat)} {vs vs':List Value},words ws vs→words ws' vs'→words (ws++ws') (vs++vs')
 | [],_,[],_,_,h=>h
 | [],_,_::_,_,h,_=>by cases h
 | _::_,_,[],_,h,_=>by cases h
 | _::_,_,_::_,_,h,h'=>⟨h.1,pR h.2 h'⟩
theorem Rep.pcK {h h':Heap} {loc gk sg nx c c' c2:Nat} {k k':Nat→Nat} {sc:Value} {rest rest':List Value} {vs vs' sv:Array Value} (R:Rep (K w) h ((jx w.params loc gk sg k sc rest vs c sv c2).map Prod.fst) (jx w.params loc gk sg k' sc rest' vs' c' sv c2) nx h') (own:∀ q∈jx w.params loc gk sg k sc rest vs c sv c2,h.get? q.1=some q.2):Keeps [loc,gk] h h':=
 R.keeps (G':=[(sg,aj sv c2)]) (mod:=[loc,gk]) rfl own (by simp [jx]) (by simp [jx])
theorem Jz {loc it gk sg c c2 tx:Nat} {k:Nat→Nat} {sc:Value} {x:Int} {rest:List Value} {ps:List (List Nat)} {vs:List Value} {sv:Array Value} (hA:A.handled=none) (kk:au w h) (ll:845≤loc) (lp:845≤gk) (ls:845≤sg) (hr:rest=[]∨∃ v,rest=[v])
  (own:∀ q∈jx w.params loc gk sg k sc rest vs.toArray c sv c2,h.get? q.1=some q.2) (nd:loc≠gk∧loc≠sg∧gk≠sg) (hw:words ps vs) (hps:ps≠[]) (hlen:(ps.getLastD []).length<1000) (hvs:vs.length≤1000) (hsv:∀ i<16,∃ t,sv[i]? = some (.str (S [gO.getD i 0]) t))
  (post:∀ h' tk' k' vs' c',Keeps [loc,gk] h h'→(∀ q∈jx w.params loc gk sg k' sc [.int x tx] vs'.toArray c' sv c2,h'.get? q.1=some q.2)→words (cQ ps x) vs'→codeAny (model pw w) A (um loc it) R ⟨h',g,d,tk',os⟩) :
  wpAny (model pw w) A (jX (eY P0) (.ref it) (.int x tx) (eG P0) [] (vN loc)) (FQ w A R) (NE w A (vN loc) R) ⟨h,g,d,tk,os⟩:=by
 obtain ⟨cG,rfl⟩:=cH ll
 obtain ⟨dM,rfl⟩:=cH lp
 obtain ⟨vO,rfl⟩:=cH ls
 obtain ⟨n0,R0⟩:=(Rep.start kk own (by simp only [jx,map_cons,map_nil,nodup_cons,mem_cons,not_mem_nil,or_false,not_or,not_false_eq_true,List.nodup_nil,and_true];exact ⟨⟨nd.1,nd.2.1⟩,nd.2.2⟩) (by simp [jx])).up
 refine gen (pc1 w (n0+845) tk (cG+845) it (.int x tx) (jx w.params (cG+845) (dM+845) (vO+845) k sc rest vs.toArray c sv c2)) fun q1 e1=>?_
 obtain ⟨f1,f2⟩:=aj2 (w:=w) n0 tk cG dM vO it k sc x tx rest vs.toArray c sv c2 hr
 rw [e1] at f1 f2
 refine bA q1 .nil hA R0 (n:=0) f1 ?_ e1.symm
 intro A1 h1 bT hD1 R1
 have cN:=R1.cast f2
 revert cN;refine yZ (kOf q1.L 0) fun k1=>?_;intro cN
 obtain ⟨ws,last,rfl⟩:∃ ws last,ps=ws++[last]:=⟨_,_,(List.dropLast_concat_getLast hps).symm⟩
 have ax7:last.length<1000:=by simpa using hlen
 obtain ⟨us,v0,rfl,hus,tl,rfl⟩:=uo hw
 refine nj (x:=.str (S last) tl) (cN.at 1 rfl) (by simp) ?_
 obtain ⟨n1,lC⟩:=cN.up
 have TF:¬((16:Int) == 0)=true:=by decide
 have m0:0≤x.fmod 16:=Int.fmod_nonneg_of_pos x (by decide)
 have m1:x.fmod 16<16:=Int.fmod_lt_of_pos x (by decide)
 refine gen (pc2 w [vM x 16] (n1+845) q1.tk q1 (.str (S last) tl) (jx w.params (cG+845) (dM+845) (vO+845) k1 sc [.int x tx] (us++[Value.str (S last) tl]).toArray c sv c2) [1,1,2,3,3,3,1]) fun q2 e2=>?_
 refine aK q2 (aF.cons (j6 TF) aF.nil) hA lC (n:=0) (c:=.call (.builtin "list.__getitem__") ⟨[.ref (vO+845),.int (x.fmod 16) (q1.tk+1)],[]⟩) (by refine sb e2 (sb e1 ?_);refine se hr ?_ (fun _=>?_) <;> symm) ?_ e2.symm
 intro A2 h2 PN hD2 R2
 have DK:=R2.cast (L':=jx w.params (cG+845) (dM+845) (vO+845) k1 sc [.int x tx] (us++[Value.str (S last) tl]).toArray c sv c2) (by refine sb e2 (sb e1 ?_);refine se hr ?_ (fun _=>?_) <;> symm)
 obtain ⟨ts,hs⟩:=hsv (x.fmod 16).toNat (by lia)
 refine dO (DK.at 2 rfl) m0 (by unfold Builtin.List.listFitsIndex;simp;lia) hs ?_
 obtain ⟨n2,Ob⟩:=DK.up
 refine gen (pc2 w [] (n2+845) q2.tk q2 (.str (S [gO.getD (x.fmod 16).toNat 0]) ts) (jx w.params (cG+845) (dM+845) (vO+845) k1 sc [.int x tx] (us++[Value.str (S last) tl]).toArray c sv c2) [1]) fun q3 e3=>?_
 refine aK q3 .nil hA Ob (n:=0) (c:=.call (.builtin "str.__add__") ⟨[.str (S last) tl,.str (S [gO.getD (x.fmod 16).toNat 0]) ts],[]⟩) (by refine sb e3 (sb e2 (sb e1 ?_));refine se hr ?_ (fun _=>?_) <;> symm) ?_ e3.symm
 intro A3 h3 iY lJ R3
 have iZ:=R3.cast (L':=jx w.params (cG+845) (dM+845) (vO+845) k1 sc [.int x tx] (us++[Value.str (S last) tl]).toArray c sv c2) (by refine sb e3 (sb e2 (sb e1 ?_));refine se hr ?_ (fun _=>?_) <;> symm)
 refine gK (by simp;lia) ?_
 intro t4 tk4
 obtain ⟨n3,wA⟩:=iZ.up
 refine gen (pc2 w [] (n3+845) tk4 q3 (.str (S (last++[gO.getD (x.fmod 16).toNat 0])) t4) (jx w.params (cG+845) (dM+845) (vO+845) k1 sc [.int x tx] (us++[Value.str (S last) tl]).toArray c sv c2) [2,2,1]) fun q4 e4=>?_
 refine aK q4 .nil hA wA (n:=0) (c:=.call (.builtin "list.__setitem__") ⟨[.ref (dM+845),.int (-1) (tk+2),.str (S (last++[gO.getD (x.fmod 16).toNat 0])) t4],[]⟩) (by refine sb e4 (sb e3 (sb e2 (sb e1 ?_)));refine se hr ?_ (fun _=>?_) <;> symm) ?_ e4.symm
 intro A4 h4 hA4 hD4 R4
 have Tt:=R4.cast (L':=jx w.params (cG+845) (dM+845) (vO+845) k1 sc [.int x tx] (us++[Value.str (S last) tl]).toArray c sv c2) (by refine sb e4 (sb e3 (sb e2 (sb e1 ?_)));refine se hr ?_ (fun _=>?_) <;> symm)
 refine nu (Tt.at 1 rfl) (by simp) ?_
 intro h5 c5 K5 g5
 have ea:((us++[Value.str (S last) tl]).toArray.setIfInBounds ((us++[Value.str (S last) tl]).toArray.size - 1) (.str (S (last++[gO.getD (x.fmod 16).toNat 0])) t4))=(us++[Value.str (S (last++[gO.getD (x.fmod 16).toNat 0])) t4]).toArray:=by simp
 rw [ea] at g5
 obtain ⟨n5,R5⟩:=(Tt.after1 (o:=aj (us++[Value.str (S last) tl]).toArray c) 1 rfl K5 lp g5).up
 have qm:=R5.cast (L':=jx w.params (cG+845) (dM+845) (vO+845) k1 sc [.int x tx] (us++[Value.str (S (last++[gO.getD (x.fmod 16).toNat 0])) t4]).toArray c5 sv c2) rfl
 have TJ:¬(Builtin.divisionGoesByPylong x 16)=true:=by
  unfold Builtin.divisionGoesByPylong
  simp only [Bool.and_eq_true,decide_eq_true_eq,not_and]
  intro y
  exact absurd y (by decide)
 have hw5:words (ws++[last++[Aj x]]) (us++[Value.str (S (last++[gO.getD (x.fmod 16).toNat 0])) t4]):=pR hus ⟨⟨t4,rfl⟩,trivial⟩
 by_cases cz:(x.fdiv 16).fmod 3=0
 ·refine gen (pc2 w [Hh x 16,vM (x.fdiv 16) 3,iM "int.__eq__" ((x.fdiv 16).fmod 3) 0 true] (n5+845) q4.tk q4 .none (jx w.params (cG+845) (dM+845) (vO+845) k1 sc [.int x tx] (us++[Value.str (S (last++[gO.getD (x.fmod 16).toNat 0])) t4]).toArray c5 sv c2) (og 0x11222214321)) fun q5 e5=>?_
  refine aK q5 (aF.cons (yK TF TJ) (aF.cons (j6 (by decide)) (aF.cons (zB (by simp [cz])) aF.nil))) hA qm (n:=0) (c:=.call (.builtin "list.append") ⟨[.ref (dM+845),.str (S []) (q4.tk+5)],[]⟩) (by refine sb e5 (sb e4 (sb e3 (sb e2 (sb e1 ?_))));refine se hr ?_ (fun _=>?_) <;> symm) ?_ e5.symm
  intro A6 h6 hA6 hD6 R6
  have N6:=R6.cast (L':=jx w.params (cG+845) (dM+845) (vO+845) k1 sc [.int x tx] (us++[Value.str (S (last++[gO.getD (x.fmod 16).toNat 0])) t4]).toArray c5 sv c2) (by refine sb e5 (sb e4 (sb e3 (sb e2 (sb e1 ?_))));refine se hr ?_ (fun _=>?_) <;> symm)
  refine bO (N6.at 1 rfl) (by simp at hvs ⊢;lia) ?_
  intro h7 K7 g7
  have eb:(us++[Value.str (S (last++[gO.getD (x.fmod 16).toNat 0])) t4]).toArray.push (.str (S []) (q4.tk+5))=(us++[Value.str (S (last++[gO.getD (x.fmod 16).toNat 0])) t4]++[Value.str (S []) (q4.tk+5)]).toArray:=by simp
  rw [eb] at g7
  obtain ⟨n7,R7⟩:=(N6.after1 (o:=aj (us++[Value.str (S (last++[gO.getD (x.fmod 16).toNat 0])) t4]).toArray c5) 1 rfl K7 lp g7).up
  have Nj:=R7.cast (L':=jx w.params (cG+845) (dM+845) (vO+845) k1 sc [.int x tx] (us++[Value.str (S (last++[gO.getD (x.fmod 16).toNat 0])) t4]++[Value.str (S []) (q4.tk+5)]).toArray (c5+1) sv c2) rfl
  refine gen (pc2 w [] (n7+845) q5.tk q5 .none (jx w.params (cG+845) (dM+845) (vO+845) k1 sc [.int x tx] (us++[Value.str (S (last++[gO.getD (x.fmod 16).toNat 0])) t4]++[Value.str (S []) (q4.tk+5)]).toArray (c5+1) sv c2) [1]) fun q6 e6=>?_
  refine aO q6 .nil hA Nj (v:=.again (um (cG+845) it)) (by refine sb e6 (sb e5 (sb e4 (sb e3 (sb e2 (sb e1 ?_)))));refine se hr ?_ (fun _=>?_) <;> symm) ?_ e6.symm
  intro h8 R8
  have yc:=R8.cast (L':=jx w.params (cG+845) (dM+845) (vO+845) k1 sc [.int x tx] (us++[Value.str (S (last++[gO.getD (x.fmod 16).toNat 0])) t4]++[Value.str (S []) (q4.tk+5)]).toArray (c5+1) sv c2) (by refine sb e6 (sb e5 (sb e4 (sb e3 (sb e2 (sb e1 ?_)))));refine se hr ?_ (fun _=>?_) <;> symm)
  refine ⟨rfl,post h8 _ k1 _ (c5+1) (yc.pcK own) yc.own ?_⟩
  have:cQ (ws++[last]) x=ws++[last++[Aj x]]++[[]]:=by simp [cQ,cz]
  rw [this]
  exact pR hw5 ⟨⟨_,rfl⟩,trivial⟩
 ·refine gen (pc2 w [Hh x 16,vM (x.fdiv 16) 3,iM "int.__eq__" ((x.fdiv 16).fmod 3) 0 false] (n5+845) q4.tk q4 .none (jx w.params (cG+845) (dM+845) (vO+845) k1 sc [.int x tx] (us++[Value.str (S (last++[gO.getD (x.fmod 16).toNat 0])) t4]).toArray c5 sv c2) [1,2,3,4,1]) fun q5 e5=>?_
  refine aO q5 (aF.cons (yK TF TJ) (aF.cons (j6 (by decide)) (aF.cons (zB (by simp [cz])) aF.nil))) hA qm (v:=.again (um (cG+845) it)) (by refine sb e5 (sb e4 (sb e3 (sb e2 (sb e1 ?_))));refine se hr ?_ (fun _=>?_) <;> symm) ?_ e5.symm
  intro h6 R6
  have N6:=R6.cast (L':=jx w.params (cG+845) (dM+845) (vO+845) k1 sc [.int x tx] (us++[Value.str (S (last++[gO.getD (x.fmod 16).toNat 0])) t4]).toArray c5 sv c2) (by refine sb e5 (sb e4 (sb e3 (sb e2 (sb e1 ?_))));refine se hr ?_ (fun _=>?_) <;> symm)
  refine ⟨rfl,post h6 _ k1 _ c5 (N6.pcK own) N6.own ?_⟩
  have:cQ (ws++[last]) x=ws++[last++[Aj x]]:=by simp [cQ,cz]
  rw [this]
  exact hw5
noncomputable def dZ:List Int→List Value→Prop
 | [],[]=>True
 | x::xs,v::vs=>(∃ t,v=.int x t)∧dZ xs vs
 | _,_=>False
theorem vP (ps:List (List Nat)) (x:Int):cQ ps x≠[]:=by
 unfold cQ
 simp only
 split <;> simp
theorem yL (ps:List (List Nat)) (x:Int):((cQ ps x).getLastD []).length≤(ps.getLastD []).length+1:=by
 unfold cQ
 simp only
 split <;> simp
theorem uq {ps:List (List Nat)} (x:Int) (ne:ps≠[]):(cQ ps x).length≤ps.length+1:=by
 have:0<ps.length:=List.length_pos_iff.mpr ne
 unfold cQ
 simp only
 split <;> simp <;> lia
theorem JB {loc it gk sg c0 c2 D:Nat} {sc:Value} {sv:Array Value} {items:List Value} (hA:A.handled=none) (ll:845≤loc) (lp:845≤gk) (ls:845≤sg) (li:845≤it) (hsv:∀ i<16,∃ t,sv[i]? = some (.str (S [gO.getD i 0]) t)) (VK:gk≠sg) (nD:D≠gk) :
  ∀ (rs:List Int) {rem:List Value} {i c:Nat} {ps:List (List Nat)} {vs:List Value} {k:Nat→Nat} {rest:List Value} {h:Heap} {tk:Nat},items.drop i=rem→dZ rs rem→au w h→(rest=[]∨∃ v,rest=[v])→(∀ q∈jx w.params loc gk sg k sc rest vs.toArray c sv c2,h.get? q.1=some q.2) →
   h.get? it=some (jN D i)→h.get? D=some (aj items.toArray c0)→words ps vs→ps≠[]→(ps.getLastD []).length+rs.length<1000→ps.length+rs.length≤1000 →
   (∀ h' tk' k' rest' vs' c',Keeps [it,loc,gk] h h'→(rest'=[]∨∃ v,rest'=[v])→(∀ q∈jx w.params loc gk sg k' sc rest' vs'.toArray c' sv c2,h'.get? q.1=some q.2)→words (rs.foldl cQ ps) vs'→R (.ok .next) ⟨h',g,d,tk',os⟩) →
   codeAny (model pw w) A (um loc it) R ⟨h,g,d,tk,os⟩:=by
 intro rs
 induction rs with
 | nil=>
  intro rem i c ps vs k rest h tk e hi kk hr own gi gD hw hps b1 b2 post
  have er:rem=[]:=by cases rem with | nil=>rfl | cons=>cases hi
  rw [er,List.drop_eq_nil_iff] at e
  have gl:=own _ (mem_cons_self ..)
  have gp:=own (gk,aj vs.toArray c) (by simp [jx])
  have gs:=own (sg,aj sv c2) (by simp [jx])
  have n1:loc≠it:=ne_of_cls gl gi (by show Value.type "frame" ≠ .type "list_iterator";decide)
  have n2:gk≠it:=ne_of_cls gp gi (by show Value.type "list" ≠ .type "list_iterator";decide)
  have n3:sg≠it:=ne_of_cls gs gi (by show Value.type "list" ≠ .type "list_iterator";decide)
  refine cg (iy hA gi gD (by simpa using e) fun h1 K1=>?_)
  refine post h1 tk k rest vs c (K1.mono (by simp)) hr (fun q hq=>K1.get _ _ (own q hq) ?_) hw
  simp only [jx,mem_cons,not_mem_nil,or_false] at hq
  rcases hq with rfl | rfl | rfl <;> simp [n1,n2,n3]
 | cons x rs ih=>
  intro rem i c ps vs k rest h tk e hi kk hr own gi gD hw hps b1 b2 post
  match rem,hi with
  | v::rem,hi=>
  obtain ⟨⟨tx,rfl⟩,hi⟩:=hi
  have hx:items[i]? = some (.int x tx):=by
   have h1:(items.drop i)[0]? = some (.int x tx):=by rw [e];rfl
   simpa using h1
  have e':items.drop (i+1)=rem:=by rw [← List.drop_drop,e];rfl
  have gl:=own _ (mem_cons_self ..)
  have gp:=own (gk,aj vs.toArray c) (by simp [jx])
  have gs:=own (sg,aj sv c2) (by simp [jx])
  have n1:loc≠it:=ne_of_cls gl gi (by show Value.type "frame" ≠ .type "list_iterator";decide)
  have n2:gk≠it:=ne_of_cls gp gi (by show Value.type "list" ≠ .type "list_iterator";decide)
  have n3:sg≠it:=ne_of_cls gs gi (by show Value.type "list" ≠ .type "list_iterator";decide)
  have n4:loc≠gk:=ne_of_cls gl gp (by show Value.type "frame" ≠ .type "list";decide)
  have n5:loc≠sg:=ne_of_cls gl gs (by show Value.type "frame" ≠ .type "list";decide)
  have n6:D≠it:=ne_of_cls gD gi (by show Value.type "list" ≠ .type "list_iterator";decide)
  have n7:D≠loc:=ne_of_cls gD gl (by show Value.type "list" ≠ .type "frame";decide)
  simp only [List.length_cons] at b1 b2
  have lv:=pP hw
  refine cg (gj gi gD (x:=.int x tx) (by simpa using hx) fun h1 K1 jK=>?_)
  have own1:∀ q∈jx w.params loc gk sg k sc rest vs.toArray c sv c2,h1.get? q.1=some q.2:=fun q hq=>K1.get _ _ (own q hq) (by
   simp only [jx,mem_cons,not_mem_nil,or_false] at hq
   rcases hq with rfl | rfl | rfl <;> simp [n1,n2,n3])
  refine Jz hA (K1.kok kk (bK li)) ll lp ls hr own1 ⟨n4,n5,VK⟩ hw hps (by lia) (by lia) hsv ?_
  intro h2 tk2 k2 vs2 c3 K2 bW hw2
  have Ld:au w h2:=K2.kok (K1.kok kk (bK li)) (by simp [ll,lp])
  refine ih e' hi Ld (.inr ⟨_,rfl⟩) bW (K2.get _ _ jK (by simp [Ne.symm n1,Ne.symm n2])) (K2.get _ _ (K1.get _ _ gD (cZ n6)) (by simp [n7,nD])) hw2 (vP ps x) ?_ ?_ ?_
  ·have:=yL ps x
   lia
  ·have:=uq x hps
   lia
  ·intro h' tk' k' rest' vs' c' K3 hr3 jC hw3
   exact post h' tk' k' rest' vs' c' (((K1.mono (by simp)).trans (K2.mono (by simp))).trans (K3.mono (by simp))) hr3 jC hw3
noncomputable def pieces (xs:List Int):List (List Nat):=(xs.take 18).foldl cQ [[98,32],[],[]]
theorem JC (vs:List Value):slicePick vs.toArray none (some 18) none=(vs.take 18).toArray:=by
 have e:sliceBounds none (some 18) none vs.length=(Int.ofNat 0,Int.ofNat (min 18 vs.length),1):=by
  unfold sliceBounds
  simp only [Option.getD_none]
  rw [if_pos (by decide),if_pos (by decide)]
  simp only [Int.ofNat_eq_natCast,if_pos (show (1:Int) > 0 by decide)]
  rw [if_neg (by decide)]
  congr 2
  lia
 rw [yJ e (Nat.zero_le _) (Nat.min_le_right _ _),List.drop_zero,Nat.sub_zero]
 congr 1
 rcases Nat.le_total 18 vs.length with c | c
 ·rw [Nat.min_eq_left c]
 ·rw [Nat.min_eq_right c,List.take_of_length_le c,List.take_of_length_le (Nat.le_refl _)]
theorem ur:∀ {xs:List Int} {vs:List Value} (n:Nat),dZ xs vs→dZ (xs.take n) (vs.take n)
 | [],[],n,_=>by simp [dZ]
 | [],_::_,_,h=>by cases h
 | _::_,[],_,h=>by cases h
 | _::_,_::_,0,_=>trivial
 | _::_,_::_,n+1,h=>⟨h.1,ur n h.2⟩
def pp0 (w:World) (n tk sc:Nat) (items:Array Value) (c:Nat):Rs:=aQ w [] 792 (QZ w.params) ⟨[.ref sc],[]⟩ [(sc,aj items c)] n tk [0,1,1] [2,2,3,3,3,5,5,5,1]
noncomputable def lo2 (L:Led) (i:Nat):Addr × Obj:=(L[i]?).getD (0,default)
noncomputable def JD (vs:Array Value) (i:Nat):Nat:=match vs[i]? with
 | some (.str _ t)=>t
 | _=>0
theorem sixteen:∀ {i:Nat},i<16→i=0∨i=1∨i=2∨i=3∨i=4∨i=5∨i=6∨i=7∨i=8∨i=9∨i=10∨i=11∨i=12∨i=13∨i=14∨i=15:=by decide
theorem yM {sc c:Nat} {xs:List Int} {items:List Value} (hA:A.handled=none) (hD:A.depth+1<recursionLimit) (kk:au w h) (lsc:845≤sc) (JF:h.get? sc=some (aj items.toArray c)) (hi:dZ xs items) (hz:items.length≤1000)
  (post:∀ h' tk' a vs c',Keeps [] h h'→h.objs.size≤a→h'.get? a=some (aj vs.toArray c')→words (pieces xs) vs→R (.ok (.ret (.ref a))) ⟨h',g,d,tk',os⟩) :
  codeAny (model pw w) A (.call (.ref 792) ⟨[.ref sc],[]⟩) R ⟨h,g,d,tk,os⟩:=by
 obtain ⟨sc',rfl⟩:=cH lsc
 have uc:∀ q∈([(sc'+845,aj items.toArray c)]:Led),h.get? q.1=some q.2:=bK JF
 obtain ⟨n0,R0⟩:=(Rep.start kk uc fV (by simp)).up
 have dW:h.objs.size=n0+845:=R0.size
 refine gen (pp0 w (n0+845) tk (sc'+845) items.toArray c) fun q0 e0=>?_
 refine xR q0 .nil hA (by lia) R0 (n:=1) (c:=.call (.builtin "list.__getitem__") ⟨[.ref (sc'+845),.ref (n0+845+3)],[]⟩) (fr:=[vN (n0+845)]) (u:=3) (by symm) (by symm) ⟨by refine sb e0 ?_;symm,by refine sb e0 ?_;symm⟩ ?_ e0.symm
 intro A1 h1 bT hD1 ql PL R1
 refine gq (vl:=.none) (vu:=.int 18 (tk+22)) (vs:=.none) (R1.at (a:=sc'+845) (o:=aj items.toArray c) 4 (by refine sb e0 ?_;symm)) (R1.at (a:=n0+845+3) (o:=⟨.type "slice",none,.fields #[.none,.int 18 (tk+22),.none],⟨[]⟩⟩) 0 (by refine sb e0 ?_;symm)) .none (.int _ _) .none (by simp) (by simp;lia) ?_
 rw [JC]
 obtain ⟨n1,lC⟩:=R1.up
 have mW:h1.objs.size=n1+845:=lC.size
 have R2:=lC.push (o:=aj (items.take 18).toArray 0) rfl
 rw [mW]
 refine gen (aB w [] q0 (.ok (.ret (.ref (n1+845)))) ((n1+845,aj (items.take 18).toArray 0)::q0.L) (n1+845+1) q0.tk [1,1,0,1,0,1,1]) fun q1 e1=>?_
 refine Gf q1 .nil hA R2 (n:=1) (c:=um (n0+845) (n1+845+1)) (fr:=[vN (n0+845)]) (u:=3) ⟨by refine sb e1 (sb e0 ?_);symm,by refine sb e1 (sb e0 ?_);symm⟩ ?_ e1.symm
 intro A3 h3 iY lJ I3 hU3 R3
 have iZ:=R3.cast (L':=[(n1+845+1,jN (n1+845) 0),(n1+845,aj (items.take 18).toArray 0),lo2 q1.L 2,(n0+845+2,aj (d8 q1.L 3) 0),(n0+845+1,aj (d8 q1.L 4) 0),(n0+845,bB w.params Jy (kOf q1.L 5) [.ref (sc'+845),.ref (n0+845+1),.ref (n0+845+2)]),(sc'+845,aj items.toArray c)]) (by refine sb e1 (sb e0 ?_);symm)
 have jC:∀ q∈jx w.params (n0+845) (n0+845+2) (n0+845+1) (kOf q1.L 5) (.ref (sc'+845)) [] (d8 q1.L 3).toList.toArray 0 (d8 q1.L 4) 0,h3.get? q.1=some q.2:=fun q hq=>iZ.own q (by
  simp only [jx,mem_cons,not_mem_nil,or_false] at hq
  rcases hq with rfl | rfl | rfl <;> simp)
 have low:∀ x∈[n1+845+1,n0+845,n0+845+2],h.objs.size≤x:=by
  have g1:n0+845≤n1+845:=by rw [← dW,← mW];exact R1.grow
  simp only [mem_cons,not_mem_nil,or_false,forall_eq_or_imp,forall_eq]
  rw [dW]
  lia
 have qw:Keeps [] h h3:=(iZ.done 6 (mod:=[]) rfl rfl uc (fun p hp=>.inr hp)).1
 have e3:(d8 q1.L 3).toList=[.str (S [98,32]) (JD (d8 q1.L 3) 0),.str (S []) (JD (d8 q1.L 3) 1),.str (S []) (JD (d8 q1.L 3) 2)]:=by refine sb e1 (sb e0 ?_);symm
 have hw0:words [[98,32],[],[]] (d8 q1.L 3).toList:=by
  rw [e3]
  exact ⟨⟨_,rfl⟩,⟨_,rfl⟩,⟨_,rfl⟩,trivial⟩
 have hsg:∀ i<16,∃ t,(d8 q1.L 4)[i]? = some (.str (S [gO.getD i 0]) t):=fun i hi=>⟨JD (d8 q1.L 4) i,by
  rcases sixteen hi with rfl | rfl | rfl | rfl | rfl | rfl | rfl | rfl | rfl | rfl | rfl | rfl | rfl | rfl | rfl | rfl <;> subst e1 e0 <;> symm⟩
 refine JB (D:=n1+845) (items:=items.take 18) iY (Nat.le_add_left _ _) (Nat.le_trans (Nat.le_add_left 845 n0) (Nat.le_add_right _ 2)) (Nat.le_trans (Nat.le_add_left 845 n0) (Nat.le_add_right _ 1)) (Nat.le_trans (Nat.le_add_left 845 n1) (Nat.le_add_right _ 1)) hsg ?_ ?_ (xs.take 18) (i:=0) rfl (ur 18 hi) R3.old (.inl rfl) jC (iZ.at 0 rfl) (iZ.at 1 rfl) hw0 (by simp) ?_ ?_ ?_
 ·intro x
  have x':@Eq Nat _ _:=x
  lia
 ·have gS:=R1.at (a:=n0+845+2) (o:=lo q0.L 1) 1 (by refine sb e0 ?_;symm)
  intro x
  have l:=Heap.lt_size gS
  rw [mW,← x] at l
  exact absurd l (Nat.lt_irrefl _)
 ·have:(xs.take 18).length≤18:=List.length_take_le ..
  simp at this ⊢
  lia
 ·have:(xs.take 18).length≤18:=List.length_take_le ..
  simp at this ⊢
  lia
 ·intro h4 tk4 k4 Ln Lp c4 K4 VL dK hw4
  have jc:=dK _ (mem_cons_self ..)
  have gp4:=dK (n0+845+2,aj Lp.toArray c4) (by simp [jx])
  have Lq:∀ q∈([(n0+845,bB w.params Jy k4 (.ref (sc'+845)::.ref (n0+845+1)::.ref (n0+845+2)::Ln))]:Led),h4.get? q.1=some q.2:=bK jc
  have PX:au w h4:=K4.kok R3.old (by
   intro a ha
   have:=low a ha
   exact Nat.le_trans (au.size (w:=w) kk) this)
  obtain ⟨n4,R4⟩:=(Rep.start PX Lq fV (by simp)).up
  refine cI (aB w [] q1 (.ok .next) [(n0+845,bB w.params Jy k4 (.ref (sc'+845)::.ref (n0+845+1)::.ref (n0+845+2)::Ln))] (n4+845) tk4 [1]) .nil hA R4 (y:=.ok (.ret (.ref (n0+845+2)))) (by refine sb e1 (sb e0 ?_);refine se VL ?_ (fun _=>?_) <;> symm) (fun h5 R5=>?_) rfl
  have K5:Keeps [n0+845] h4 h5:=R5.keeps (G':=[]) (mod:=[n0+845]) rfl Lq aX (by simp)
  have kO:Keeps [] h h4:=qw.late K4 low
  refine post h5 _ (n0+845+2) Lp c4 (kO.late K5 (by simp [dW])) (by rw [dW];exact Nat.le_add_right _ 2) (K5.get _ _ gp4 ?_) hw4
  simp only [mem_singleton]
  intro x
  have x':@Eq Nat _ _:=x
  lia
theorem nA {prog:Program} {w:World} {A:Around} {R:Result→Shared→Prop} {s:Shared} {id:String} {b:Builtin} {args:List Value} (hk:builtinKind id=none) (hp:plainId id=true) (hb:entryFor table id=some b) (ha:argsOk id ⟨args,[]⟩)
  (hc:wpAny (model prog w) A.in1 (b ⟨args,[]⟩) (fun fin s'=>match fin with
   | .done f=>R (.ok f) s'
   | .again c'=>c'.quiet=true∧codeAny (model prog w) A c' R s') (fun e s'=>R (.error e) s') s):codeAny (model prog w) A (.call (.builtin id) ⟨args,[]⟩) R s:=by
 refine codeAny_call_builtin hp hb ?_
 simp only [checkBuiltinCall,hk]
 cases hsig:Manifest.signature? id with
 | none=>exact wpAny_pure hc
 | some sig=>
  simp only [argsOk,hsig] at ha
  have h2:Bind.checkArgs id sig ⟨args,[]⟩=pure ():=ha
  show wpAny _ A.in1 (Bind.checkArgs id sig ⟨args,[]⟩) _ _ s
  rw [h2];exact wpAny_pure hc
section
variable {w:World} {g:Array GenState} {d:Drawn} {os:OsState} {A:Around} {R:Result→Shared→Prop}
theorem Hi {I S D c0:Nat} {items:List Value} {base:Nat} (hA:A.handled=none) (nIS:I≠S) (nDS:D≠S) (lI:base≤I) (lS:base≤S) :
  ∀ (rs:List Int) {rem:List Value} {i c:Nat} {acc:Int} {tA:Nat} {st:Int} {h:Heap} {tk:Nat},items.drop i=rem→dZ rs rem→(st=0∨st=2)→h.get? I=some (jN D i)→h.get? D=some (aj items.toArray c0)→h.get? S=some (aj #[.int acc tA] c) →
   (∀ h' tk' t',Keeps [I,S] h h'→R (.ok (.ret (.int (acc+rs.sum) t'))) ⟨h',g,d,tk',os⟩) →
   codeAny (model pw w) A (.builtin "sum.loop" ⟨[.ref I,.ref S,rawInt st,rawInt 0],[]⟩) R ⟨h,g,d,tk,os⟩:=by
 intro rs
 induction rs with
 | nil=>
  intro rem i c acc tA st h tk e hi hst gI gD gS post
  have er:rem=[]:=by cases rem with | nil=>rfl | cons=>cases hi
  rw [er,List.drop_eq_nil_iff] at e
  refine codeAny_builtin F.entry_sum_loop ?_
  rw [Around.under_plainId F.plain_sum_loop _]
  show wpAny _ A.in1 (seqItems? (.ref S) >>= _) _ _ _
  refine wpAny_bind (wpAny_seqItems gS rfl ?_)
  show wpAny _ A.in1 (tryCatch (pyNext (.ref I)) _ >>= _) _ _ _
  refine wpAny_bind (wpAny_tryCatch (iy hA gI gD (by simpa using e) fun h1 K1=>?_))
  have:=post h1 tk tA (K1.mono (by simp))
  simp only [List.sum_nil,Int.add_zero] at this
  exact wpAny_pure this
 | cons x rs ih=>
  intro rem i c acc tA st h tk e hi hst gI gD gS post
  match rem,hi with
  | v::rem,hi=>
  obtain ⟨⟨tx,rfl⟩,hi⟩:=hi
  have hx:items[i]? = some (.int x tx):=by
   have h1:(items.drop i)[0]? = some (.int x tx):=by rw [e];rfl
   simpa using h1
  have e':items.drop (i+1)=rem:=by rw [← List.drop_drop,e];rfl
  have nDI:D≠I:=ne_of_cls gD gI (by show Value.type "list" ≠ .type "list_iterator";decide)
  refine codeAny_builtin F.entry_sum_loop ?_
  rw [Around.under_plainId F.plain_sum_loop _]
  show wpAny _ A.in1 (seqItems? (.ref S) >>= _) _ _ _
  refine wpAny_bind (wpAny_seqItems gS rfl ?_)
  show wpAny _ A.in1 (tryCatch (pyNext (.ref I)) _ >>= _) _ _ _
  refine wpAny_bind (wpAny_tryCatch (gj gI gD (x:=.int x tx) (by simpa using hx) fun h1 K1 gI1=>?_))
  have Lh:=K1.get _ _ gS (cZ (Ne.symm nIS))
  have gD1:=K1.get _ _ gD (cZ nDI)
  have es:acc+x+rs.sum=acc+(x::rs).sum:=by rw [List.sum_cons];lia
  have fin:∀ (h2:Heap) (tk2:Nat) (c2:Nat) (st2:Int),(st2=0∨st2=2)→Keeps [S] h1 h2→∀ t2,h2.get? S=some (aj #[.int (acc+x) t2] c2)→codeAny (model pw w) A (.builtin "sum.loop" ⟨[.ref I,.ref S,rawInt st2,rawInt 0],[]⟩) R ⟨h2,g,d,tk2,os⟩:=fun h2 tk2 c2 st2 hs2 K2 t2 g2=>
   ih e' hi hs2 (K2.get _ _ gI1 (cZ nIS)) (K2.get _ _ gD1 (cZ nDS)) g2 fun h' tk' t' K'=>by
    have:=post h' tk' t' (((K1.mono (by simp)).trans (K2.mono (by simp))).trans K')
    rw [← es] at this
    exact this
  have q:plainId "sum.loop" = true:=F.plain_sum_loop
  rcases hst with rfl | rfl
  ·show wpAny _ A.in1 (if (_:Bool)=true then (mkInt (acc+x) >>= _) else _) _ _ _
   split
   ·refine wpAny_bind (wpAny_mkInt ?_)
    show wpAny _ A.in1 (updateSeq S (fun _=>#[.int (acc+x) tk]) >>= _) _ _ _
    refine wpAny_bind (wpAny_updateSeq Lh rfl (wpAny_pure ⟨plainId_quiet F.plain_sum_loop _,fin _ _ _ 0 (.inl rfl) bJ tk ((Heap.get?_update_self _ Lh rfl).trans rfl)⟩))
   ·refine wpAny_bind (wpAny_rule ?_)
    refine wpAny_bind (wpAny_attempt (wpAny_holding (wpAny_add_int ?_)))
    show wpAny _ A.in1 (updateSeq S (fun _=>#[.int (acc+x) tk]) >>= _) _ _ _
    refine wpAny_bind (wpAny_updateSeq Lh rfl ?_)
    have vA:(h1.update S (Obj.mapSeq fun _=>#[Value.int (acc+x) tk])).get? S=some (aj #[.int (acc+x) tk] _):=(Heap.get?_update_self _ Lh rfl).trans rfl
    refine wpAny_bind (wpAny_letGo ?_)
    refine wpAny_bind (wpAny_updateSeq vA rfl (wpAny_pure ⟨plainId_quiet F.plain_sum_loop _,fin _ _ _ 2 (.inr rfl) (bJ.trans bJ) tk ((Heap.get?_update_self _ vA rfl).trans rfl)⟩))
  ·show wpAny _ A.in1 ((holding [Value.int x tx] (binaryOp .Add (.int acc tA) (.int x tx))).attempt >>= _) _ _ _
   refine wpAny_bind (wpAny_attempt (wpAny_holding (wpAny_add_int ?_)))
   show wpAny _ A.in1 (updateSeq S (fun _=>#[.int (acc+x) tk]) >>= _) _ _ _
   refine wpAny_bind (wpAny_updateSeq Lh rfl ?_)
   have vA:(h1.update S (Obj.mapSeq fun _=>#[Value.int (acc+x) tk])).get? S=some (aj #[.int (acc+x) tk] _):=(Heap.get?_update_self _ Lh rfl).trans rfl
   refine wpAny_bind (wpAny_letGo ?_)
   refine wpAny_bind (wpAny_updateSeq vA rfl (wpAny_pure ⟨plainId_quiet F.plain_sum_loop _,fin _ _ _ 2 (.inr rfl) (bJ.trans bJ) tk ((Heap.get?_update_self _ vA rfl).trans rfl)⟩))
theorem yN {h:Heap} {tk D c0:Nat} {items:List Value} {xs:List Int} (hA:A.handled=none) (gD:h.get? D=some (aj items.toArray c0)) (hi:dZ xs items)
  (post:∀ h' tk' t',Keeps [] h h'→R (.ok (.ret (.int xs.sum t'))) ⟨h',g,d,tk',os⟩) :
  codeAny (model pw w) A (.call (.builtin "sum") ⟨[.ref D],[]⟩) R ⟨h,g,d,tk,os⟩:=by
 refine nA F.kind_sum F.plain_sum F.entry_sum (F.args_sum1 _) ?_
 unfold Builtin.«sum»
 simp only [List.length_cons,List.length_nil]
 rw [if_neg (by decide)]
 refine wpAny_bind (wpAny_of_eq (show Builtin.Builtins.bindParams "sum" ["start"] 0 {}=pure [none] from rfl) ?_)
 refine wpAny_bind (wpAny_pyIter_list ⟨_,gD,rfl,_,rfl⟩ ?_)
 refine wpAny_bind (wpAny_mkInt ?_)
 refine wpAny_bind (wpAny_pure ?_)
 simp only [List.forIn_cons,List.forIn_nil]
 refine wpAny_bind (wpAny_bind (wpAny_bind (wpAny_isInstance (T:="int") (b:=false) (typeIs_int _ _ _) PySem.sub_int_str ?_)))
 simp only [Bool.false_eq_true,if_false]
 refine wpAny_pure (wpAny_bind (wpAny_bind (wpAny_isInstance (T:="int") (b:=false) (typeIs_int _ _ _) PySem.sub_int_bytes ?_)))
 simp only [Bool.false_eq_true,if_false]
 refine wpAny_pure (wpAny_bind (wpAny_bind (wpAny_isInstance (T:="int") (b:=false) (typeIs_int _ _ _) PySem.sub_int_bytearray ?_)))
 simp only [Bool.false_eq_true,if_false]
 refine wpAny_pure (wpAny_pure ?_)
 refine wpAny_bind (wpAny_newObj_type ?_)
 have mW:(h.push (jN D 0)).objs.size=h.objs.size+1:=Heap.size_push ..
 refine wpAny_pure ⟨plainId_quiet F.plain_sum_loop _,?_⟩
 have P1:Keeps [] h ((h.push (jN D 0)).push (aj #[.int 0 tk] 0)):=bH.trans bH
 have main:=Hi (w:=w) (g:=g) (d:=d) (os:=os) (R:=R) (I:=h.objs.size) (S:=(h.push (jN D 0)).objs.size) (D:=D) (c0:=c0) (base:=h.objs.size) hA (by rw [mW];exact Nat.ne_of_lt (Nat.lt_succ_self _)) (by rw [mW];exact Nat.ne_of_lt (Nat.lt_succ_of_lt (Heap.lt_size gD))) (Nat.le_refl _) (by rw [mW];exact Nat.le_succ _) xs (rem:=items) (i:=0) (c:=0) (acc:=0) (tA:=tk) (st:=0) (h:=(h.push (jN D 0)).push (aj #[.int 0 tk] 0)) (tk:=tk+1) rfl hi (.inl rfl) (Heap.get?_push_of_some _ (Heap.get?_push_size _ rfl)) (P1.get _ _ gD not_mem_nil) (Heap.get?_push_size _ rfl) (fun h' tk' t' K'=>by
   have:=post h' tk' t' (P1.late K' (by
    simp only [mem_cons,not_mem_nil,or_false,forall_eq_or_imp,forall_eq]
    rw [mW]
    exact ⟨Nat.le_refl _,Nat.le_succ _⟩))
   simpa using this)
 exact main
end
section
open PySem.Builtin
theorem jM:Slot "bytes" "join" "bytes.join" :=
 Slot.of (owner:="bytes") (n:="join") (by rw [typeLookup_type,builtinLookup_eq_fast];symm) (by decide +kernel) (by decide +kernel) (by decide +kernel) (by first | exact .inl (by decide +kernel) | exact .inr (by decide +kernel)) (by rw [isSubtype_type];symm)
theorem pU:entryFor table "bytes.join" = some Builtin.«bytes.join»:=entryFor_of_tree (by symm)
theorem rK (a b:Value):argsOk "bytes.join" ⟨[a,b],[]⟩:=by
 unfold argsOk;rw [signature?_of (id:="bytes.join") (n:=['n','i','o','j']) (o:=['s','e','t','y','b']) (by symm) FB.owner_bytes];symm
section
variable {M:Model} {w:World} {g:Array GenState} {d:Drawn} {os:OsState} {A:Around} {R:Result→Shared→Prop} {h:Heap} {tk:Nat} {E:Value→Shared→Prop}
theorem Ak {id:String} {b:Array UInt8} {t:Nat}:Bytes.takeBuffer? id (.bytes b t) 0=pure (some (b,none)):=by
 unfold Bytes.takeBuffer?
 rw [KBy.special_eq KBy.look_buffer]
 simp only [pure_bind,KBy.own_buffer]
 rw [if_neg (by decide),show ((0:Int) == Bytes.fullReadOnly)=false from by decide,KBy.buffer_eq]
 rfl
theorem Al {id:String} {b:Array UInt8} {t:Nat}:Bytes.takeBufferQuiet? id (.bytes b t) 0=pure (some (b,none)):=by
 unfold Bytes.takeBufferQuiet?
 rw [Ak]
 rfl
noncomputable def jD:List (List UInt8)→List Value→Prop
 | [],[]=>True
 | b::bs,v::vs=>(∃ t,v=.bytes ⟨b⟩ t)∧jD bs vs
 | _,_=>False
theorem lZ:∀ {bs:List (List UInt8)} {vs:List Value},jD bs vs→vs.length=bs.length
 | [],[],_=>rfl
 | [],_::_,h=>by cases h
 | _::_,[],h=>by cases h
 | _::_,_::_,h=>by simp [lZ h.2]
theorem Bp:∀ (taken:List (Value × Option Value)) {keep:List Value} {Q:Unit→Shared→Prop} {s:Shared},(∀ p∈taken,p.2=none)→Q () s→wpAny M A (Bytes.joinLetGo taken keep) Q E s
 | [],_,_,_,_,h=>wpAny_pure h
 | (x,w)::rest,keep,Q,s,hn,h=>by
  obtain rfl:w=none:=hn (x,w) (mem_cons_self ..)
  unfold Bytes.joinLetGo
  refine wpAny_bind (wpAny_letGo ?_)
  exact Bp rest (fun p hp=>hn p (mem_cons_of_mem _ hp)) h
theorem qC:∀ (parts:List (Array UInt8)) (k:Nat) (acc:Array UInt8),((parts.zipIdx k).foldl (fun out (p,i)=>(if i > 0 then out++(#[]:Array UInt8) else out)++p) acc)=acc++(parts.map Array.toList).flatten.toArray
 | [],_,acc=>by simp
 | p::ps,k,acc=>by
  rw [List.zipIdx_cons,List.foldl_cons,qC ps (k+1)]
  simp
  cases p
  simp
theorem uw:∀ {bs:List (List UInt8)} {vs:List Value} {i:Nat},jD bs vs→i<bs.length→∃ t,vs[i]? = some (.bytes ⟨bs[i]?.getD []⟩ t)
 | [],[],_,_,h=>by cases h
 | [],_::_,_,h,_=>by cases h
 | _::_,[],_,h,_=>by cases h
 | b::bs,v::vs,0,h,_=>by
  obtain ⟨t,rfl⟩:=h.1
  exact ⟨t,rfl⟩
 | b::bs,v::vs,i+1,h,hi=>by simpa using uw (i:=i) h.2 (by simpa using hi)
theorem Am {bs:List (List UInt8)} {vs:List Value} {s:Shared} (F:Nat→(Array (Array UInt8) × List (Value × Option Value))→Sem (ForInStep (Array (Array UInt8) × List (Value × Option Value)))) (hv:jD bs vs)
  (hF:∀ i parts taken (Q:ForInStep (Array (Array UInt8) × List (Value × Option Value))→Shared→Prop) t,vs[i]? = some (.bytes ⟨bs[i]?.getD []⟩ t)→(∀ p∈taken,p.2=none∧p.1.onHeap=false)→Q (.yield (parts.push ⟨bs[i]?.getD []⟩,taken++[(.bytes ⟨bs[i]?.getD []⟩ t,none)])) s→wpAny M A (F i (parts,taken)) Q E s)
  {Q:(Array (Array UInt8) × List (Value × Option Value))→Shared→Prop} (hQ:∀ taken,(∀ p∈taken,p.2=none)→Q ((bs.map List.toArray).toArray,taken) s) :
  ∀ (k i:Nat) (parts:Array (Array UInt8)) (taken:List (Value × Option Value)),i+k=bs.length→parts=((bs.take i).map List.toArray).toArray→(∀ p∈taken,p.2=none∧p.1.onHeap=false)→wpAny M A (forIn (List.range' i k) (parts,taken) F) Q E s:=by
 intro k
 induction k with
 | zero=>
  intro i parts taken hi hp ht
  have:i=bs.length:=by lia
  subst this
  rw [List.take_length] at hp
  subst hp
  exact wpAny_pure (hQ taken fun p hp=>(ht p hp).1)
 | succ k ih=>
  intro i parts taken hi hp ht
  rw [List.range'_succ,List.forIn_cons]
  obtain ⟨t,et⟩:=uw (i:=i) hv (by lia)
  refine wpAny_bind (hF i parts taken _ t et ht ?_)
  refine ih (i+1) _ _ (by lia) ?_ (fun p hp=>?_)
  ·rw [hp,List.take_add_one]
   have:i<bs.length:=by lia
   rw [List.getElem?_eq_getElem this]
   show (((bs.take i).map List.toArray).toArray).push (List.toArray bs[i])=((bs.take i++[bs[i]]).map List.toArray).toArray
   rw [List.map_append,List.push_toArray]
   rfl
  ·rcases List.mem_append.mp hp with hp | hp
   ·exact ht p hp
   ·simp only [mem_singleton] at hp
    subst hp
    exact ⟨rfl,rfl⟩
theorem Ao (bs:List (List UInt8)) (n:Nat):Array.foldl (fun x1 x2=>x1+x2.size) ((#[]:Array UInt8).size*n) (bs.map List.toArray).toArray=bs.flatten.length:=by
 have gen:∀ (bs:List (List UInt8)) (a:Nat),(bs.map List.toArray).foldl (fun x1 x2=>x1+x2.size) a=a+bs.flatten.length:=by
  intro bs
  induction bs with
  | nil=>simp
  | cons b bs ih=>
   intro a
   rw [map_cons,List.foldl_cons,ih]
   simp
   lia
 have:=gen bs 0
 simpa using this
theorem rM {D c:Nat} {vs:List Value} {bs:List (List UInt8)} {t:Nat} (gD:h.get? D=some (aj vs.toArray c)) (hv:jD bs vs) (h2:2≤bs.length) (hz:bs.flatten.length≤100000)
  (post:∀ t' tk',R (.ok (.ret (.bytes ⟨bs.flatten⟩ t'))) ⟨h,g,d,tk',os⟩) :
  codeAny (model pw w) A (.call (.builtin "bytes.join") ⟨[.bytes #[] t,.ref D],[]⟩) R ⟨h,g,d,tk,os⟩:=by
 have hsz:200000≤sizeLine:=by decide
 have hT:Shared.TypeIs ⟨h,g,d,tk,os⟩ (.ref D) "list" := ⟨_,gD,rfl⟩
 refine codeAny_call_builtin jM.plain pU (jM.check _ _ _ _ _ _ _ _ (typeIs_bytes _ _ _) (rK _ _) ?_)
 match bs,vs,hv,h2 with
 | b0::b1::bs,v0::v1::vs,hv,_=>
 unfold Builtin.«bytes.join» Bytes.joinM
 show wpAny _ _ (Bytes.joinItems (.ref D) >>= _) _ _ _
 refine wpAny_bind ?_
 unfold Bytes.joinItems
 refine wpAny_bind (wpAny_typeOf hT ?_)
 rw [if_pos (by decide)]
 refine wpAny_pure ?_
 show wpAny _ _ (seqItems? (.ref D) >>= _) _ _ _
 refine wpAny_bind (wpAny_seqItems gD rfl ?_)
 have e1:[:(v0::v1::vs).toArray.size].size=(b0::b1::bs).length:=by simp [Std.Legacy.Range.size,lZ hv.2.2]
 show wpAny _ _ (forIn [:(v0::v1::vs).toArray.size] ((#[]:Array (Array UInt8)),([]:List (Value × Option Value))) _ >>= _) _ _ _
 refine wpAny_bind ?_
 simp only [Std.Legacy.Range.forIn_eq_forIn_range']
 rw [e1]
 refine Am (bs:=b0::b1::bs) (vs:=v0::v1::vs) _ hv (fun i parts taken Q t et ht hQ=>?_) (fun taken ht=>?_) _ 0 _ _ (by simp) rfl aX
 ·refine wpAny_bind (wpAny_seqItems gD rfl ?_)
  have eg:(v0::v1::vs).toArray.getD i .none=.bytes ⟨(b0::b1::bs)[i]?.getD []⟩ t:=by
   rw [Array.getD_eq_getD_getElem?]
   simp only [List.getElem?_toArray,et]
   rfl
  have ea:(taken.any fun x=>x.1.onHeap)=false:=by
   rw [List.any_eq_false]
   intro p hp
   simp [(ht p hp).2]
  dsimp only
  rw [ea,eg]
  rw [if_neg (by decide)]
  refine wpAny_bind (wpAny_holding (wpAny_of_eq Al ?_))
  refine wpAny_bind (wpAny_seqItems gD rfl ?_)
  dsimp only
  rw [if_neg (by simp)]
  exact wpAny_pure hQ
 ·refine wpAny_bind (wpAny_pure ?_)
  have ef:((((b0::b1::bs).map List.toArray).toArray.toList).map Array.toList).flatten=(b0::b1::bs).flatten:=by
   rw [List.toList_toArray,List.map_map]
   congr 1
   exact List.map_id'' (fun _=>rfl) _
  have el:(Array.foldl (fun x1 x2=>x1+x2.size) ((#[]:Array UInt8).size*(((b0::b1::bs).map List.toArray).toArray.size - 1)) ((b0::b1::bs).map List.toArray).toArray)=(b0::b1::bs).flatten.length:=by
   exact Ao (b0::b1::bs) _
  rw [el,if_neg (by unfold Bytes.tooLong;simp only [decide_eq_true_eq];lia)]
  have ej:Bytes.joined #[] ((b0::b1::bs).map List.toArray).toArray.toList=⟨(b0::b1::bs).flatten⟩:=by
   have:=qC ((b0::b1::bs).map List.toArray).toArray.toList 0 #[]
   rw [ef] at this
   unfold Bytes.joined
   rw [this]
   simp
  rw [ej]
  refine wpAny_bind (wpAny_mkBytes ?_ (by show (b0::b1::bs).flatten.length≤_;lia))
  refine wpAny_bind (wpAny_holding (wpAny_point ?_))
  refine wpAny_bind (Bp _ ht ?_)
  exact wpAny_pure (post _ _)
theorem intsAre_of:∀ {xs:List Int} {vs:List Value},dZ xs vs→IntsAre vs xs
 | [],[],_=>.nil
 | [],_::_,h=>by cases h
 | _::_,[],h=>by cases h
 | x::xs,v::vs,h=>by
  obtain ⟨⟨t,rfl⟩,h2⟩:=h
  exact .cons x t (intsAre_of h2)
theorem ux {D c:Nat} {vs:List Value} {ns:List Int} (hA:A.handled=none) (gD:h.get? D=some (aj vs.toArray c)) (hi:dZ ns vs) (hr:∀ n∈ns,0≤n∧n<256) (hz:ns.length≤100000) (hs:h.objs.size=D+1)
  (post:∀ h' tk' t,Keeps [] h h'→R (.ok (.ret (.bytes (byteArr ns) t))) ⟨h',g,d,tk',os⟩) :
  codeAny (model pw w) A (.call (.builtin "bytes.__new__") ⟨[.type "bytes",.ref D],[]⟩) R ⟨h,g,d,tk,os⟩:=by
 have hsz:200000≤sizeLine:=by decide
 refine codeAny_mono (bm_new (Q:=fun v s'=>R (.ok (.ret v)) s') (E:=fun _ _=>False) hA ⟨_,gD,rfl,_,rfl⟩ (intsAre_of hi) hr (by lia) fun h' t k hk=>post h' k t ⟨?_,fun b o e _=>hk b o e⟩) (fun r s' hx=>?_)
 ·have:=Heap.lt_size (hk D _ gD)
  rw [hs]
  exact this
 ·cases r with
  | error e=>exact hx.elim
  | ok f=>
   cases f with
   | ret v=>exact hx
   | next=>exact hx.elim
   | brk=>exact hx.elim
   | cont=>exact hx.elim
theorem uy {b c:List UInt8} {t u:Nat} (hz:b.length+c.length≤100000) (post:∀ t' tk',R (.ok (.ret (.bytes ⟨b++c⟩ t'))) ⟨h,g,d,tk',os⟩) :
  codeAny (model pw w) A (.call (.builtin "bytes.__add__") ⟨[.bytes ⟨b⟩ t,.bytes ⟨c⟩ u],[]⟩) R ⟨h,g,d,tk,os⟩:=by
 refine dw FB.slot_bytes_add (typeIs_bytes _ _ _) FB.entry_bytes_add (FB.args_bytes_add_2 _ _) (KBy.gives_bytes_add (KBy.tooLong_not (show b.length+c.length≤16777216 by lia))) ?_
 have hsz:200000≤sizeLine:=by decide
 cases b with
 | nil=>
  rw [if_pos (show (⟨[]⟩:Array UInt8).isEmpty=true from rfl)]
  exact post u tk
 | cons x b=>
  rw [if_neg (by simp)]
  cases c with
  | nil=>
   rw [if_pos (show (⟨[]⟩:Array UInt8).isEmpty=true from rfl)]
   have:=post t tk
   rw [List.append_nil] at this
   exact this
  | cons y c=>
   rw [if_neg (by simp)]
   refine ⟨?_,?_⟩
   ·show ((x::b).toArray++(y::c).toArray).size≤_
    simp at hz ⊢
    lia
   ·have:=post tk (tk+1)
    simpa using this
theorem uz:∀ {ws:List (List Nat)} {vs:List Value},words ws vs→∃ l:List (Str × Tok),strValues l=vs∧l.map (·.1)=ws.map S
 | [],[],_=>⟨[],rfl,rfl⟩
 | [],_::_,h=>by cases h
 | _::_,[],h=>by cases h
 | w::ws,v::vs,h=>by
  obtain ⟨⟨t,rfl⟩,h2⟩:=h
  obtain ⟨l,e1,e2⟩:=uz h2
  exact ⟨(S w,t)::l,by rw [← e1];rfl,by simp [e2]⟩
theorem uD (ws:List (List Nat)):Builtin.Str.glued (S []) (ws.map S)=S ws.flatten:=by
 have gen:∀ (ps:List (List Nat)) (acc:List Nat),(ps.map S).foldl (fun acc p=>acc++(S []).cps++p.cps) (⟨acc⟩:Array Nat)=⟨acc++ps.flatten⟩:=by
  intro ps
  induction ps with
  | nil=>intro acc;simp
  | cons p ps ih=>
   intro acc
   rw [map_cons,List.foldl_cons]
   have:(⟨acc⟩:Array Nat)++(S []).cps++(S p).cps=⟨acc++p⟩:=by simp [S]
   rw [this,ih]
   simp
 unfold Builtin.Str.glued
 cases ws with
 | nil=>rfl
 | cons w ws=>
  simp only [map_cons,List.drop_succ_cons,List.drop_zero,List.headD_cons]
  have:=gen ws w
  show (⟨(ws.map S).foldl (fun acc p=>acc++(S []).cps++p.cps) (⟨w⟩:Array Nat)⟩:Str)=_
  rw [this]
  rfl
theorem wG {D c:Nat} {vs:List Value} {ws:List (List Nat)} {t:Nat} (gD:h.get? D=some (aj vs.toArray c)) (hw:words ws vs) (h2:2≤ws.length) (hz:ws.flatten.length≤100000)
  (post:∀ t' tk',R (.ok (.ret (.str (S ws.flatten) t'))) ⟨h,g,d,tk',os⟩) :
  codeAny (model pw w) A (.call (.builtin "str.join") ⟨[.str (S []) t,.ref D],[]⟩) R ⟨h,g,d,tk,os⟩:=by
 have hsz:200000≤sizeLine:=by decide
 obtain ⟨l,rfl,e2⟩:=uz hw
 have ef:(l.map (·.1)).toArray.foldl (· + ·.length+(S []).length) 0=ws.flatten.length:=by
  rw [e2]
  have gen:∀ (ws:List (List Nat)) (a:Nat),(ws.map S).foldl (· + ·.length+(S []).length) a=a+ws.flatten.length:=by
   intro ws
   induction ws with
   | nil=>simp
   | cons w ws ih=>
    intro a
    rw [map_cons,List.foldl_cons,ih]
    simp [S,Str.length]
    lia
  have:=gen ws 0
  simpa using this
 refine mF F.slot_str_join (typeIs_str _ _ _) F.entry_str_join (F.args_str_join_2 _ _) (meets_str_join_list (S []) t D l ?_) ⟨⟨_,gD,rfl,_,rfl⟩,?_⟩
 ·rw [ef]
  unfold Builtin.Str.tooLong
  simp only [decide_eq_false_iff_not]
  lia
 ·have ll:l.length=ws.length:=by
   have:=congrArg List.length e2
   simpa using this
  match l,ll,e2 with
  | [],ll,_=>simp at ll;lia
  | [_],ll,_=>simp at ll;lia
  | p::q::l,ll,e2=>
   refine ⟨?_,?_⟩
   ·rw [e2,uD]
    show ws.flatten.length≤_
    lia
   ·rw [e2,uD]
    exact post _ _
theorem wH {a b ca cb:Nat} {xs ys:Array Value} (ga:h.get? a=some (aj xs ca)) (gb:h.get? b=some (aj ys cb)) (hz:xs.size+ys.size≤100000)
  (post:R (.ok (.ret (.ref h.objs.size))) ⟨h.push (aj (xs++ys) 0),g,d,tk,os⟩) :
  codeAny (model pw w) A (.call (.builtin "list.__add__") ⟨[.ref a,.ref b],[]⟩) R ⟨h,g,d,tk,os⟩:=by
 have hsz:200000≤sizeLine:=by decide
 exact mF F.slot_list_add ⟨_,ga,rfl⟩ F.entry_list_add (F.args_list_add_2 _ _) (AutoSeq1.list___add___list_list_0 a xs ca b ys cb (by lia)) ⟨ga,gb,post⟩
end
end
noncomputable def aj4:List String:=["script","pieces","torn","octets","stream","told","why","nothing","refusals","rows","start","whole","half","line","heads","state"]
noncomputable def aU (loc:Nat):Env:={scope:=zq (fs 38),locals:=loc,globals:=3,cells:=[],qual:=lits "law.<locals>.",func:=some 844,code:=.ref 843,frame:=some loc,builtins:=0}
@[irreducible] noncomputable def dU (i:Nat):Stmt:=gC (iJ (fs 38)) i
def cX (P:Params) (k:Nat→Nat) (vs:List Value) (sl:Array (Option Value)):Obj:=vK P aj4 k vs sl
theorem JG:iJ (fs 38)=[dU 0,dU 1,dU 2,dU 3,dU 4,dU 5,dU 6,dU 7,dU 8,dU 9,dU 10,dU 11,dU 12,dU 13,dU 14,dU 15,dU 16,dU 17,dU 18]:=by symm
section
variable {E:Value→Shared→Prop} {Q:Flow→Shared→Prop}
def wI (w:World) (H:List Hk) (i:Nat) (loc:Nat) (L:Led) (n tk:Nat) (aC:List Nat):Rs:=bL w H (wV [dU i] (aU loc)) L n tk aC
def w5 (w:World) (H:List Hk) (q:Rs) (v:Value) (L:Led) (n tk:Nat) (aC:List Nat):Rs:=aB w H q (.ok (.ret v)) L n tk aC
theorem lw0 {loc sc c:Nat} {k:Nat→Nat} {sl:Array (Option Value)} {xs:List Int} {items:List Value} (hA:A.handled=none) (hD:A.depth+1<recursionLimit) (kk:au w h) (lsc:845≤sc) (JF:h.get? sc=some (aj items.toArray c)) (hi:dZ xs items) (hz:items.length≤1000)
  (gl:h.get? (loc+845)=some (cX w.params k [.ref sc] sl))
  (post:∀ h' tk' k' a vs c',Keeps [loc+845] h h'→h'.get? (loc+845)=some (cX w.params k' [.ref sc,.ref a] sl)→h.objs.size≤a→h'.get? a=some (aj vs.toArray c')→words (pieces xs) vs→Q .next ⟨h',g,d,tk',os⟩) :
  wpAny (model pw w) A (exec (dU 0) (aU (loc+845))) Q E ⟨h,g,d,tk,os⟩:=by
 refine fX (bG ?_)
 have own:∀ q∈([(loc+845,cX w.params k [.ref sc] sl)]:Led),h.get? q.1=some q.2:=bK gl
 obtain ⟨n0,R0⟩:=(Rep.start kk own fV (by simp)).up
 refine gen (wI w [] 0 (loc+845) [(loc+845,cX w.params k [.ref sc] sl)] (n0+845) tk [0,1,0,1]) fun q1 e1=>?_
 refine bA q1 .nil hA R0 (n:=0) (c:=.call (.ref 792) ⟨[.ref sc],[]⟩) (by refine sb e1 ?_;symm) ?_ e1.symm
 intro A1 h1 bT hD1 R1
 obtain ⟨K1,g1⟩:=R1.loc1 0 (o':=cX w.params k [.ref sc] sl) (by refine sb e1 ?_;symm) gl
 refine yM bT (by rw [hD1];exact hD) R1.old lsc (K1.get _ _ JF (cZ (ne_of_cls JF gl (show Value.type "list" ≠ .type "frame" by decide)))) hi hz ?_
 intro h2 tk2 a vs c' K2 la ga hw
 have bW:∀ q∈([(loc+845,cX w.params k [.ref sc] sl)]:Led),h2.get? q.1=some q.2:=bK (K2.get _ _ g1 (by simp))
 obtain ⟨n2,R2⟩:=(Rep.start (K2.kok R1.old aX) bW fV (by simp)).up
 refine gen (w5 w [] q1 (.ref a) [(loc+845,cX w.params k [.ref sc] sl)] (n2+845) tk2 [1,1]) fun q2 e2=>?_
 refine aO q2 .nil hA R2 (v:=.done .next) (by refine sb e2 (sb e1 ?_);symm) ?_ e2.symm
 intro h3 R3
 obtain ⟨K3,g3⟩:=R3.loc1 0 (o':=cX w.params (kOf q2.L 0) [.ref sc,.ref a] sl) (by refine sb e2 (sb e1 ?_);symm) (K2.get _ _ g1 not_mem_nil)
 have na:a≠loc+845:=ne_of_cls ga (K2.get _ _ g1 not_mem_nil) (show Value.type "list" ≠ .type "frame" by decide)
 exact post h3 _ _ a vs c' ((K1.trans (K2.mono aX)).trans K3) g3 (Nat.le_trans K1.size la) (K3.get _ _ ga (cZ na)) hw
theorem lw1 {loc sc c:Nat} {k:Nat→Nat} {sl:Array (Option Value)} {xs:List Int} {items:List Value} {gk:Value} (hA:A.handled=none) (kk:au w h) (JF:h.get? sc=some (aj items.toArray c)) (hi:dZ xs items)
  (gl:h.get? (loc+845)=some (cX w.params k [.ref sc,gk] sl))
  (post:∀ h' tk' k' t,Keeps [loc+845] h h'→h'.get? (loc+845)=some (cX w.params k' [.ref sc,gk,.int (xs.sum.fmod 3) t] sl)→Q .next ⟨h',g,d,tk',os⟩) :
  wpAny (model pw w) A (exec (dU 1) (aU (loc+845))) Q E ⟨h,g,d,tk,os⟩:=by
 refine fX (bG ?_)
 have own:∀ q∈([(loc+845,cX w.params k [.ref sc,gk] sl)]:Led),h.get? q.1=some q.2:=bK gl
 obtain ⟨n0,R0⟩:=(Rep.start kk own fV (by simp)).up
 refine gen (wI w [] 1 (loc+845) [(loc+845,cX w.params k [.ref sc,gk] sl)] (n0+845) tk [0,0,1,1]) fun q1 e1=>?_
 refine bA q1 .nil hA R0 (n:=0) (c:=.call (.builtin "sum") ⟨[.ref sc],[]⟩) (by refine sb e1 ?_;symm) ?_ e1.symm
 intro A1 h1 bT hD1 R1
 obtain ⟨K1,g1⟩:=R1.loc1 0 (o':=cX w.params k [.ref sc,gk] sl) (by refine sb e1 ?_;symm) gl
 refine yN bT (K1.get _ _ JF (cZ (ne_of_cls JF gl (show Value.type "list" ≠ .type "frame" by decide)))) hi ?_
 intro h2 tk2 t K2
 have bW:∀ q∈([(loc+845,cX w.params k [.ref sc,gk] sl)]:Led),h2.get? q.1=some q.2:=bK (K2.get _ _ g1 (by simp))
 obtain ⟨n2,R2⟩:=(Rep.start (K2.kok R1.old aX) bW fV (by simp)).up
 refine gen (w5 w [vM xs.sum 3] q1 (.int xs.sum t) [(loc+845,cX w.params k [.ref sc,gk] sl)] (n2+845) tk2 [2,1,1]) fun q2 e2=>?_
 refine aO q2 (aF.cons (j6 (by decide)) aF.nil) hA R2 (v:=.done .next) (by refine sb e2 (sb e1 ?_);symm) ?_ e2.symm
 intro h3 R3
 obtain ⟨K3,g3⟩:=R3.loc1 0 (o':=cX w.params (kOf q2.L 0) [.ref sc,gk,.int (xs.sum.fmod 3) (dg q2.L 0 2)] sl) (by refine sb e2 (sb e1 ?_);symm) (K2.get _ _ g1 not_mem_nil)
 exact post h3 _ _ _ ((K1.trans (K2.mono aX)).trans K3) g3
end
section
open PySem.Builtin
noncomputable def asV (s:Stmt):Expr:=Eb s
noncomputable def Lr (e:Expr):Expr:=U3 e
noncomputable def aj6 (e:Expr):Expr:=U3 e
noncomputable def ocE:Expr:=Lr (asV (dU 2))
noncomputable def Di:Expr:=aj6 (Lr (jo ocE))
noncomputable def vQ (e:Expr) (cl loc:Nat):Env:={scope:=I7 e,locals:=cl,globals:=3,cells:=[],qual:=lits "law.<locals>.",func:=none,code:=.ref 843,frame:=some loc,builtins:=0}
def TQ (c:Nat):Hk:=⟨false,fun cd _=>(.call (.builtin "ord") ⟨[.str (S [c]) (tokV (iK cd 0))],[]⟩,default),fun _ _ tk=>.int (Int.ofNat c) tk,1⟩
section
variable {E:Value→Shared→Prop} {Q:Flow→Shared→Prop}
theorem JH {c:Nat}:gB pw w (K w) (TQ c):=by
 intro g d os A R h tk cd p hA e _ _ post
 obtain ⟨ec,_⟩:=Prod.mk.inj e
 rw [ec]
 exact nA F.kind_ord F.plain_ord F.entry_ord (F.args_ord1 _) (gives_ord c _ pw w A R _ (dN post))
def od1 (w:World) (c t n tk cl loc it acc:Nat) (k:Nat→Nat) (vs:List Value):Rs:=bL w [TQ c] (jl (jo Di) (rG Di) (.ref it) (.ref acc) (.str (S [c]) t) (vQ Di cl loc) (jd Di)) [(cl,dh w.params ["sign"] k vs)] n tk [1,1,0,0,1,2,1]
def od2 (w:World) (q:Rs) (n tk cl:Nat) (o:Obj):Rs:=aB w [] q (.ok (.ret .none)) [(cl,o)] n tk [1]
noncomputable def Aq (cl loc it acc:Nat):Code:=.compLoop (jd Di) 0 (.ref it) (.ref acc) (vQ Di cl loc)
noncomputable def ju (vs:List Value):Prop:=vs=[]∨∃ v,vs=[v]
theorem uE:∀ {xs:List Int} {vs:List Value} {x:Int} {t:Nat},dZ xs vs→dZ (xs++[x]) (vs++[Value.int x t])
 | [],[],x,t,_=>⟨⟨t,rfl⟩,trivial⟩
 | [],_::_,_,_,h=>by cases h
 | _::_,[],_,_,h=>by cases h
 | _::_,_::_,_,_,h=>⟨h.1,uE h.2⟩
theorem pW:∀ {xs:List Int} {vs:List Value},dZ xs vs→vs.length=xs.length
 | [],[],_=>rfl
 | [],_::_,h=>by cases h
 | _::_,[],h=>by cases h
 | _::_,_::_,h=>by simp [pW h.2]
theorem JK {cl loc it acc c t cc:Nat} {k:Nat→Nat} {vs:List Value} {d9:List Value} (hr:ju vs) (hA:A.handled=none) (kk:au w h) (lc:845≤cl) (la:845≤acc) (je:h.get? cl=some (dh w.params ["sign"] k vs)) (ga:h.get? acc=some (aj d9.toArray cc)) (hz:d9.length≤1000)
  (post:∀ h' tk' k' v t' c',Keeps [cl,acc] h h'→h'.get? cl=some (dh w.params ["sign"] k' [v])→h'.get? acc=some (aj (d9++[Value.int (Int.ofNat c) t']).toArray c')→codeAny (model pw w) A (Aq cl loc it acc) R ⟨h',g,d,tk',os⟩) :
  wpAny (model pw w) A (jl (jo Di) (rG Di) (.ref it) (.ref acc) (.str (S [c]) t) (vQ Di cl loc) (jd Di)) (FQ w A R) (NE w A (vQ Di cl loc) R) ⟨h,g,d,tk,os⟩:=by
 obtain ⟨iw,rfl⟩:=cH lc
 have own:∀ q∈([(iw+845,dh w.params ["sign"] k vs)]:Led),h.get? q.1=some q.2:=bK je
 obtain ⟨n0,R0⟩:=(Rep.start kk own fV (by simp)).up
 refine gen (od1 w c t (n0+845) tk (iw+845) loc it acc k vs) fun q1 e1=>?_
 refine bA q1 (aF.cons JH aF.nil) hA R0 (n:=0) (c:=.call (.builtin "list.append") ⟨[.ref acc,.int (Int.ofNat c) (tk+1)],[]⟩) (by refine sb e1 ?_;refine se hr ?_ (fun _=>?_) <;> symm) ?_ e1.symm
 intro A1 h1 bT hD1 R1
 obtain ⟨K1,g1⟩:=R1.loc1 0 (o':=dh w.params ["sign"] (kOf q1.L 0) [.str (S [c]) t]) (by refine sb e1 ?_;refine se hr ?_ (fun _=>?_) <;> symm) je
 have DY:acc≠iw+845:=ne_of_cls ga je (by show Value.type "list" ≠ .type "dict";decide)
 refine bO (K1.get _ _ ga (cZ DY)) (by simpa using (by lia:d9.length≤10000)) ?_
 intro h2 K2 CN
 have g2:=K2.get _ _ g1 (cZ (Ne.symm DY))
 have bW:∀ q∈([(iw+845,dh w.params ["sign"] (kOf q1.L 0) [.str (S [c]) t])]:Led),h2.get? q.1=some q.2:=bK g2
 obtain ⟨n2,R2⟩:=(Rep.start (K2.kok R1.old (bK la)) bW fV (by simp)).up
 refine gen (od2 w q1 (n2+845) q1.tk (iw+845) (dh w.params ["sign"] (kOf q1.L 0) [.str (S [c]) t])) fun q2 e2=>?_
 refine aO q2 .nil hA R2 (v:=.again (Aq (iw+845) loc it acc)) (by refine sb e2 (sb e1 ?_);refine se hr ?_ (fun _=>?_) <;> symm) ?_ e2.symm
 intro h3 R3
 have K3:Keeps [] h2 h3:=(R3.done 0 (mod:=[]) (G':=[(iw+845,dh w.params ["sign"] (kOf q1.L 0) [.str (S [c]) t])]) (by refine sb e2 (sb e1 ?_);refine se hr ?_ (fun _=>?_) <;> symm) rfl bW (by simp)).1
 refine ⟨rfl,post h3 _ _ _ (tk+1) _ (((K1.mono (by simp)).trans (K2.mono (by simp))).trans (K3.mono aX)) (K3.get _ _ g2 not_mem_nil) (K3.get _ _ (by simpa using CN) not_mem_nil)⟩
theorem JL {cl loc it acc tp:Nat} {p:List Nat} (hA:A.handled=none) (lc:845≤cl) (la:845≤acc) (li:845≤it) (hp:p.length≤900) :
  ∀ (rem:List Nat) {i cc:Nat} {k:Nat→Nat} {vs d9:List Value} {h:Heap} {tk:Nat},p.drop i=rem→ju vs→au w h→h.get? cl=some (dh w.params ["sign"] k vs)→h.get? it=some (uN (S p) tp i)→h.get? acc=some (aj d9.toArray cc)→dZ ((p.take i).map Int.ofNat) d9 →
   (∀ h' tk' k' vs' nC c',Keeps [cl,acc,it] h h'→ju vs'→((rem≠[]∨vs≠[])→∃ v,vs'=[v])→(rem=[]→vs'=vs)→h'.get? cl=some (dh w.params ["sign"] k' vs')→h'.get? acc=some (aj nC.toArray c')→dZ (p.map Int.ofNat) nC→R (.ok .next) ⟨h',g,d,tk',os⟩) →
   codeAny (model pw w) A (Aq cl loc it acc) R ⟨h,g,d,tk,os⟩:=by
 intro rem
 induction rem with
 | nil=>
  intro i cc k vs d9 h tk e hr kk je gi ga hv post
  rw [List.drop_eq_nil_iff] at e
  have n1:cl≠it:=ne_of_cls je gi (by show Value.type "dict" ≠ .type (sTy (S p));rcases fG (S p) with x | x <;> rw [x] <;> decide)
  have n2:acc≠it:=ne_of_cls ga gi (by show Value.type "list" ≠ .type (sTy (S p));rcases fG (S p) with x | x <;> rw [x] <;> decide)
  refine dH (kj hA gi (by simpa [S] using e) fun h1 K1=>?_)
  rw [List.take_of_length_le e] at hv
  exact post h1 tk k vs d9 cc (K1.mono (by simp)) hr (fun x=>x.elim (fun y=>absurd rfl y) (fun y=>hr.elim (fun z=>absurd z y) id)) (fun _=>rfl) (K1.get _ _ je (cZ n1)) (K1.get _ _ ga (cZ n2)) hv
 | cons x rem ih=>
  intro i cc k vs d9 h tk e hr kk je gi ga hv post
  have hx:p[i]? = some x:=by
   have h1:(p.drop i)[0]? = some x:=by rw [e];rfl
   simpa using h1
  have hi:i<p.length:=(List.getElem?_eq_some_iff.mp hx).1
  have e':p.drop (i+1)=rem:=by rw [← List.drop_drop,e];rfl
  have n1:cl≠it:=ne_of_cls je gi (by show Value.type "dict" ≠ .type (sTy (S p));rcases fG (S p) with x | x <;> rw [x] <;> decide)
  have n2:acc≠it:=ne_of_cls ga gi (by show Value.type "list" ≠ .type (sTy (S p));rcases fG (S p) with x | x <;> rw [x] <;> decide)
  have hl:=pW hv
  refine dH (lX gi (c:=x) (by simpa [S] using hx) fun h1 K1 jK=>?_)
  refine JK hr hA (K1.kok kk (bK li)) lc la (K1.get _ _ je (cZ n1)) (K1.get _ _ ga (cZ n2)) (by simp at hl;lia) ?_
  intro h2 tk2 k2 v t2 c2 K2 iI CN
  have et:p.take (i+1)=p.take i++[x]:=by rw [List.take_add_one,hx];rfl
  refine ih e' (.inr ⟨v,rfl⟩) (K2.kok (K1.kok kk (bK li)) (by simp [lc,la])) iI (K2.get _ _ jK (by simp [Ne.symm n1,Ne.symm n2])) CN (by rw [et,List.map_append];exact uE hv) ?_
  intro h' tk' k' vs' nC c' K' hr' hne hnil Ar Oi hv'
  exact post h' tk' k' vs' nC c' (((K1.mono (by simp)).trans (K2.mono (by simp))).trans K') hr' (fun _=>hne (.inr (by simp))) (fun y=>by cases y) Ar Oi hv'
noncomputable def wJ (cl loc it acc:Nat):Code:=.compLoop (jd ocE) 0 (.ref it) (.ref acc) (vQ ocE cl loc)
def TV (w:World) (p:List Nat) (t n tk cl loc it acc:Nat) (k:Nat→Nat) (vs:List Value):Rs:=bL w [hLen (S p) p.length] (jl (jo ocE) (rG ocE) (.ref it) (.ref acc) (.str (S p) t) (vQ ocE cl loc) (jd ocE)) [(cl,dh w.params ["piece"] k vs)] n tk (og 0x11221000011)
def TX (w:World) (q:Rs) (it:Nat) (o:Obj) (n tk:Nat):Rs:=aB w [] q (.ok (.ret (.ref it))) ((it,o)::q.L) n tk [1,1]
def HW (w:World) (q:Rs) (r:Result) (L:Led) (n tk:Nat) (aC:List Nat):Rs:=aB w [] q r L n tk aC
section
variable (n tk cl loc it acc t n1 tk1 m D n2 tk2 n3 tk3 n4 tk4 t5:Nat) (k k2:Nat→Nat) (vs:List Value) (p:List Nat) (ty:String) (v:Value) (av:Array Value) (ca:Nat) (b:Array UInt8)
theorem ocA (hr:ju vs):fU (TV w p t (n+845) tk (cl+845) loc it acc k vs) 0 (.call (.builtin "str.__iter__") ⟨[.str (S p) t],[]⟩):=by rcases hr with rfl | ⟨v,rfl⟩ <;> symm
theorem ocB (hr:ju vs) (hty:ty = "str_ascii_iterator" ∨ ty = "str_iterator") (q:Rs) (e:TV w p t (n+845) tk (cl+845) loc it acc k vs=q):fU (TX w q (n1+845) (rF ty (S p) t 0) (n1+845+1) tk1) 0 (.compStart (jd Di) 0 (.ref (n1+845)) (.ref (n1+845+1)) (vQ Di (n1+845+1+1) loc)) ∧
  (TX w q (n1+845) (rF ty (S p) t 0) (n1+845+1) tk1).L=[(n1+845+1+1,dh w.params ["sign"] (fun _=>0) []),(n1+845+1,aj #[] 0),(n1+845,rF ty (S p) t 0),(n+845,aj #[.int (Int.ofNat p.length) (tk+2)] 0),(cl+845,dh w.params ["piece"] (kOf q.L 1) [.str (S p) t])]:=by refine sb e ?_;refine se hr ?_ (fun _=>?_) <;> refine so hty ?_ ?_ <;> exact ⟨by symm,by symm⟩
noncomputable def ocO (vs2:List Value):List Nat:=match vs2 with
 | []=>[1,3,2,3,1]
 | _=>[1,1,1,3,2,3,1]
theorem ocC (hr:ju vs) (hty:ty = "str_ascii_iterator" ∨ ty = "str_iterator") (vs2:List Value) (hr2:ju vs2) (q:Rs) (e:TV w p t (n+845) tk (cl+845) loc it acc k vs=q) (q2:Rs) (e2:TX w q (n1+845) (rF ty (S p) t 0) (n1+845+1) tk1=q2) (q3:Rs)
  (e3:HW w q2 (.ok .next) [(n1+845+1+1,dh w.params ["sign"] k2 vs2),(n1+845+1,aj av ca),(n+845,aj #[.int (Int.ofNat p.length) (tk+2)] 0),(cl+845,dh w.params ["piece"] (kOf q.L 1) [.str (S p) t])] (n2+845) tk2 (ocO vs2)=q3) :
  fU q3 0 (.call (.builtin "list.__add__") ⟨[.ref (n+845),.ref (n1+845+1)],[]⟩)∧q3.L.drop 1=[(n1+845+1,aj av ca),(n+845,aj #[.int (Int.ofNat p.length) (tk+2)] 0),(cl+845,dh w.params ["piece"] (kOf q.L 1) [.str (S p) t])]:=by refine sb e3 (sb e2 (sb e ?_));refine se hr ?_ (fun _=>?_) <;> refine so hty ?_ ?_ <;> refine se hr2 ?_ (fun _=>?_) <;> exact ⟨by symm,by symm⟩
theorem ocD (hr:ju vs) (hty:ty = "str_ascii_iterator" ∨ ty = "str_iterator") (vs2:List Value) (hr2:ju vs2) (q:Rs) (e:TV w p t (n+845) tk (cl+845) loc it acc k vs=q) (q2:Rs) (e2:TX w q (n1+845) (rF ty (S p) t 0) (n1+845+1) tk1=q2) (q3:Rs)
  (e3:HW w q2 (.ok .next) [(n1+845+1+1,dh w.params ["sign"] k2 vs2),(n1+845+1,aj av ca),(n+845,aj #[.int (Int.ofNat p.length) (tk+2)] 0),(cl+845,dh w.params ["piece"] (kOf q.L 1) [.str (S p) t])] (n2+845) tk2 (ocO vs2)=q3) (q4:Rs)
  (e4:HW w q3 (.ok (.ret (.ref (n3+845)))) [(n3+845,aj (#[.int (Int.ofNat p.length) (tk+2)]++av) 0),(cl+845,dh w.params ["piece"] (kOf q.L 1) [.str (S p) t])] (n3+845+1) tk3 [0,0,1]=q4) (q5:Rs)
  (e5:HW w q4 (.ok (.ret (.bytes b t5))) [(cl+845,dh w.params ["piece"] (kOf q.L 1) [.str (S p) t])] (n4+845) tk4 [0,0,1]=q5) :
  fU q4 0 (.call (.builtin "bytes.__new__") ⟨[.type "bytes",.ref (n3+845)],[]⟩)∧(q4.nx,q4.L)=(n3+845+1,[(n3+845,aj (#[.int (Int.ofNat p.length) (tk+2)]++av) 0),(cl+845,dh w.params ["piece"] (kOf q.L 1) [.str (S p) t])]) ∧
  fU q5 0 (.call (.builtin "list.append") ⟨[.ref acc,.bytes b t5],[]⟩)∧q5.L=[(cl+845,dh w.params ["piece"] (kOf q.L 1) [.str (S p) t])] ∧
  ∀ n6 lg,cU (HW w q5 (.ok (.ret .none)) [(cl+845,dh w.params ["piece"] (kOf q.L 1) [.str (S p) t])] (n6+845) lg [1]) (.again (wJ (cl+845) loc it acc))∧(HW w q5 (.ok (.ret .none)) [(cl+845,dh w.params ["piece"] (kOf q.L 1) [.str (S p) t])] (n6+845) lg [1]).L=[(cl+845,dh w.params ["piece"] (kOf q.L 1) [.str (S p) t])]:=by
 refine sb e5 (sb e4 (sb e3 (sb e2 (sb e ?_))));refine se hr ?_ (fun _=>?_) <;> refine so hty ?_ ?_ <;> refine se hr2 ?_ (fun _=>?_) <;> exact ⟨by symm,by symm,by symm,by symm,fun n6 lg=>⟨by symm,by symm⟩⟩
end
noncomputable def iQ (p:List Nat):List UInt8:=p.length.toUInt8::p.map Nat.toUInt8
theorem yO (p:List Nat):byteArr (Int.ofNat p.length::p.map Int.ofNat)=⟨iQ p⟩:=by
 unfold byteArr iQ
 simp
theorem qD:∀ {bs:List (List UInt8)} {vs:List Value} {b:List UInt8} {t:Nat},jD bs vs→jD (bs++[b]) (vs++[Value.bytes ⟨b⟩ t])
 | [],[],b,t,_=>⟨⟨t,rfl⟩,trivial⟩
 | [],_::_,_,_,h=>by cases h
 | _::_,[],_,_,h=>by cases h
 | _::_,_::_,_,_,h=>⟨h.1,qD h.2⟩
theorem JM {cl loc it acc t cc:Nat} {p:List Nat} {k:Nat→Nat} {vs d9:List Value} (hr:ju vs) (hA:A.handled=none) (kk:au w h) (lc:845≤cl) (la:845≤acc) (hp:p.length≤200) (hs:∀ x∈p,x<256) (je:h.get? cl=some (dh w.params ["piece"] k vs)) (ga:h.get? acc=some (aj d9.toArray cc)) (hz:d9.length≤1000)
  (post:∀ h' tk' k' v t' c',Keeps [cl,acc] h h'→h'.get? cl=some (dh w.params ["piece"] k' [v])→h'.get? acc=some (aj (d9++[Value.bytes ⟨iQ p⟩ t']).toArray c')→codeAny (model pw w) A (wJ cl loc it acc) R ⟨h',g,d,tk',os⟩) :
  wpAny (model pw w) A (jl (jo ocE) (rG ocE) (.ref it) (.ref acc) (.str (S p) t) (vQ ocE cl loc) (jd ocE)) (FQ w A R) (NE w A (vQ ocE cl loc) R) ⟨h,g,d,tk,os⟩:=by
 obtain ⟨iw,rfl⟩:=cH lc
 have own:∀ q∈([(iw+845,dh w.params ["piece"] k vs)]:Led),h.get? q.1=some q.2:=bK je
 obtain ⟨n0,R0⟩:=(Rep.start kk own fV (by simp)).up
 have dW:h.objs.size=n0+845:=R0.size
 refine gen (TV w p t (n0+845) tk (iw+845) loc it acc k vs) fun q1 e1=>?_
 refine bA q1 (aF.cons (rP rfl (by show p.length<_;lia)) aF.nil) hA R0 (n:=0) (c:=.call (.builtin "str.__iter__") ⟨[.str (S p) t],[]⟩) (e1 ▸ ocA _ _ _ _ _ _ _ _ _ _ hr) ?_ e1.symm
 intro A1 h1 bT hD1 R1
 refine eF ?_
 obtain ⟨n1,lC⟩:=R1.up
 have mW:h1.objs.size=n1+845:=lC.size
 have R2:=lC.push (o:=rF (sTy (S p)) (S p) t 0) rfl
 rw [mW]
 refine gen (TX w q1 (n1+845) (rF (sTy (S p)) (S p) t 0) (n1+845+1) q1.tk) fun q2 e2=>?_
 obtain ⟨fB1,fB2⟩:=ocB (w:=w) n0 tk iw loc it acc t n1 q1.tk k vs p (sTy (S p)) hr (fG _) q1 e1
 rw [e2] at fB1 fB2
 refine aK q2 .nil hA R2 (n:=0) fB1 ?_ e2.symm
 intro A3 h3 iY lJ R3
 have iZ:=R3.cast fB2
 have g01:h.objs.size≤n1+845:=by rw [← mW];exact R1.grow
 have gi:=iZ.at (a:=n1+845) (o:=uN (S p) t 0) 2 rfl
 have iI:=iZ.at (a:=n1+845+1+1) 0 rfl
 have gac:=iZ.at (a:=n1+845+1) 1 rfl
 have gL3:=iZ.at (a:=n0+845) 3 rfl
 have VN:=iZ.at (a:=iw+845) 4 rfl
 have qw:Keeps [iw+845] h h3:=iZ.keeps (G':=[]) (mod:=[iw+845]) rfl own aX (by simp)
 have DY:acc≠iw+845:=ne_of_cls ga je (by show Value.type "list" ≠ .type "dict";decide)
 have RP:=qw.get _ _ ga (cZ DY)
 refine dF (fun E'=>zT gi ⟨rfl,rfl⟩) ?_
 refine JL (p:=p) iY (by lia) (by lia) (by lia) (by lia) p (i:=0) (vs:=[]) (d9:=[]) rfl (.inl rfl) R3.old iI gi gac trivial ?_
 intro h4 tk4 k4 Lp zm c4 K4 VL _ _ aj8 aj9 hv4
 have lt3:n0+845<n1+845:=by
  have:=Heap.lt_size (R1.at (a:=n0+845) (o:=lo q1.L 0) 0 (by refine sb e1 ?_;refine se hr ?_ (fun _=>?_) <;> symm))
  rw [mW] at this
  exact this
 have TY:iw+845<n0+845:=by rw [← dW];exact Heap.lt_size je
 have gL4:=K4.get _ _ gL3 (by intro hm;simp only [mem_cons,not_mem_nil,or_false] at hm;rcases hm with x | x | x <;> (have x':@Eq Nat _ _:=x;lia))
 have T4:=K4.get _ _ VN (by intro hm;simp only [mem_cons,not_mem_nil,or_false] at hm;rcases hm with x | x | x <;> (have x':@Eq Nat _ _:=x;lia))
 have ak0:∀ x∈[n1+845+1+1,n1+845+1,n1+845],h.objs.size≤x:=by
  simp only [mem_cons,not_mem_nil,or_false,forall_eq_or_imp,forall_eq]
  lia
 have kO:Keeps [iw+845] h h4:=qw.late K4 ak0
 have PX:au w h4:=kO.kok kk (by simp)
 have dK:∀ q∈([(n1+845+1+1,dh w.params ["sign"] k4 Lp),(n1+845+1,aj zm.toArray c4),(n0+845,aj #[.int (Int.ofNat p.length) (tk+2)] 0),(iw+845,dh w.params ["piece"] (kOf q1.L 1) [.str (S p) t])]:Led),h4.get? q.1=some q.2:=by simp [aj8,aj9,gL4,T4]
 obtain ⟨n4,R4⟩:=(Rep.start PX dK (by
  simp only [map_cons,map_nil,nodup_cons,mem_cons,not_mem_nil,or_false,not_or,not_false_eq_true,List.nodup_nil,and_true]
  refine ⟨⟨?_,?_,?_⟩,⟨?_,?_⟩,?_⟩ <;> (intro x;have x':@Eq Nat _ _:=x;lia)) (by
  simp only [mem_cons,not_mem_nil,or_false,forall_eq_or_imp,forall_eq]
  refine ⟨?_,?_,?_,?_⟩ <;> (show (845:Nat)≤_;lia))).up
 refine gen (HW w q2 (.ok .next) [(n1+845+1+1,dh w.params ["sign"] k4 Lp),(n1+845+1,aj zm.toArray c4),(n0+845,aj #[.int (Int.ofNat p.length) (tk+2)] 0),(iw+845,dh w.params ["piece"] (kOf q1.L 1) [.str (S p) t])] (n4+845) tk4 (ocO Lp)) fun q3 e3=>?_
 obtain ⟨fC1,fC2⟩:=ocC (w:=w) n0 tk iw loc it acc t n1 q1.tk n4 tk4 k k4 vs p (sTy (S p)) zm.toArray c4 hr (fG _) Lp VL q1 e1 q2 e2 q3 e3
 refine aK q3 .nil hA R4 (n:=0) fC1 ?_ e3.symm
 intro A5 h5 vY xM R5
 have g5:∀ q∈([(n1+845+1,aj zm.toArray c4),(n0+845,aj #[.int (Int.ofNat p.length) (tk+2)] 0),(iw+845,dh w.params ["piece"] (kOf q1.L 1) [.str (S p) t])]:Led),h5.get? q.1=some q.2:=fun q hq=>R5.own q (List.mem_of_mem_drop (i:=1) (by rw [fC2];exact hq))
 have K5:Keeps [n1+845+1+1] h4 h5:=R5.keeps (G':=[(n1+845+1,aj zm.toArray c4),(n0+845,aj #[.int (Int.ofNat p.length) (tk+2)] 0),(iw+845,dh w.params ["piece"] (kOf q1.L 1) [.str (S p) t])]) (mod:=[n1+845+1+1]) rfl dK (fun q hq=>List.mem_of_mem_drop (i:=1) (by rw [fC2];exact hq)) (by simp)
 have la4:=pW hv4
 refine wH (g5 (n0+845,aj #[.int (Int.ofNat p.length) (tk+2)] 0) U0) (g5 (n1+845+1,aj zm.toArray c4) mem_cons_self) (by simp at la4 ⊢;lia) ?_
 obtain ⟨n5,DN⟩:=cH (au.size (w:=w) R5.old)
 have g6:∀ q∈([(n5+845,aj (#[.int (Int.ofNat p.length) (tk+2)]++zm.toArray) 0),(iw+845,dh w.params ["piece"] (kOf q1.L 1) [.str (S p) t])]:Led),(h5.push (aj (#[.int (Int.ofNat p.length) (tk+2)]++zm.toArray) 0)).get? q.1=some q.2:=fun q hq=>by
  simp only [mem_cons,not_mem_nil,or_false] at hq
  rcases hq with rfl | rfl
  ·rw [← DN];exact Heap.get?_push_size _ rfl
  ·exact Heap.get?_push_of_some _ (g5 _ mc2)
 have KP:Keeps [] h5 (h5.push (aj (#[.int (Int.ofNat p.length) (tk+2)]++zm.toArray) 0)):=bH
 have La:h.objs.size≤n5+845:=by rw [← DN];exact Nat.le_trans kO.size K5.size
 have R6:=Rep.start (KP.kok R5.old aX) g6 (by simp;lia) (by simp)
 rw [show (h5.push (aj (#[.int (Int.ofNat p.length) (tk+2)]++zm.toArray) 0)).objs.size=n5+845+1 by rw [Heap.size_push,DN]] at R6
 rw [DN]
 refine gen (HW w q3 (.ok (.ret (.ref (n5+845)))) [(n5+845,aj (#[.int (Int.ofNat p.length) (tk+2)]++zm.toArray) 0),(iw+845,dh w.params ["piece"] (kOf q1.L 1) [.str (S p) t])] (n5+845+1) q3.tk [0,0,1]) fun q4 e4=>?_
 have fD:=fun n6 lg b t5=>ocD (w:=w) n0 tk iw loc it acc t n1 q1.tk n4 tk4 n5 q3.tk n6 lg t5 k k4 vs p (sTy (S p)) zm.toArray c4 b hr (fG _) Lp VL q1 e1 q2 e2 q3 e3 q4 e4 _ rfl
 refine aK q4 .nil hA R6 (n:=0) (fD 0 0 #[] 0).1 ?_ e4.symm
 intro A7 h7 hA7 hD7 R7
 obtain ⟨f1,f2⟩:=Prod.mk.inj (fD 0 0 #[] 0).2.1
 have sz7:h7.objs.size=n5+845+1:=R7.size.trans f1
 have Nj:=R7.cast f2
 have K7:Keeps [] (h5.push (aj (#[.int (Int.ofNat p.length) (tk+2)]++zm.toArray) 0)) h7:=(Nj.done 0 (mod:=[]) rfl rfl g6 (fun p hp=>.inr hp)).1
 have ea:(#[Value.int (Int.ofNat p.length) (tk+2)]++zm.toArray)=(Value.int (Int.ofNat p.length) (tk+2)::zm).toArray:=by simp
 refine ux (ns:=Int.ofNat p.length::p.map Int.ofNat) (vs:=Value.int (Int.ofNat p.length) (tk+2)::zm) (c:=0) hA7 (by rw [← ea];exact Nj.at 0 rfl) ⟨⟨_,rfl⟩,hv4⟩ (fun x hx=>?_) (by simp;lia) sz7 ?_
 ·rcases List.mem_cons.mp hx with rfl | hx
  ·simp only [Int.ofNat_eq_natCast];lia
  ·obtain ⟨y,hy,rfl⟩:=List.mem_map.mp hx
   have:=hs y hy
   simp only [Int.ofNat_eq_natCast];lia
 ·intro h8 Ls t8 K8
  rw [yO]
  have gP8:=K8.get _ _ (Nj.at (a:=iw+845) 1 rfl) not_mem_nil
  have Hj:∀ q∈([(iw+845,dh w.params ["piece"] (kOf q1.L 1) [.str (S p) t])]:Led),h8.get? q.1=some q.2:=bK gP8
  obtain ⟨n8,R8⟩:=(Rep.start (K8.kok R7.old aX) Hj fV (by simp)).up
  obtain ⟨_,_,fE1,fE2,VP⟩:=fD n8 Ls ⟨iQ p⟩ t8
  revert fE1 fE2 VP;refine gen (HW w q4 (.ok (.ret (.bytes ⟨iQ p⟩ t8))) [(iw+845,dh w.params ["piece"] (kOf q1.L 1) [.str (S p) t])] (n8+845) Ls [0,0,1]) fun q5 e5=>?_;intro fE1 fE2 VP
  refine aK q5 .nil hA R8 (n:=0) fE1 ?_ e5.symm
  intro A9 h9 hA9 hD9 R9
  have R9':=R9.cast fE2
  have K9:Keeps [] h8 h9:=(R9'.done 0 (mod:=[]) rfl rfl Hj (fun p hp=>.inr hp)).1
  have Hl:Keeps [iw+845] h h9:=(((kO.late K5 (by simp only [mem_singleton,forall_eq];lia)).trans (KP.mono aX)).trans (K7.mono aX)).trans ((K8.trans K9).mono aX)
  refine bO (Hl.get _ _ ga (cZ DY)) (by simpa using (by lia:d9.length≤10000)) ?_
  intro h10 Ah ak4
  have ak5:=Ah.get _ _ (R9'.at (a:=iw+845) 0 rfl) (cZ (Ne.symm DY))
  have Lw:∀ q∈([(iw+845,dh w.params ["piece"] (kOf q1.L 1) [.str (S p) t])]:Led),h10.get? q.1=some q.2:=bK ak5
  obtain ⟨n10,VH⟩:=(Rep.start (Ah.kok R9.old (bK la)) Lw fV (by simp)).up
  refine aO (HW w q5 (.ok (.ret .none)) [(iw+845,dh w.params ["piece"] (kOf q1.L 1) [.str (S p) t])] (n10+845) q5.tk [1]) .nil hA VH (v:=.again (wJ (iw+845) loc it acc)) (VP _ _).1 ?_ rfl
  intro h11 R11
  have Ua:=R11.cast (VP _ _).2
  have vL:Keeps [] h10 h11:=(Ua.done 0 (mod:=[]) rfl rfl Lw (fun p hp=>.inr hp)).1
  exact ⟨rfl,post h11 _ _ _ t8 _ (((Hl.mono (by simp)).trans (Ah.mono (by simp))).trans (vL.mono aX)) (Ua.at 0 rfl) (vL.get _ _ (by simpa using ak4) not_mem_nil)⟩
theorem JN {cl loc it acc D c0:Nat} {items:List Value} {ps:List (List Nat)} (hA:A.handled=none) (lc:845≤cl) (la:845≤acc) (li:845≤it) (nDa:D≠acc) (hps:ps.length≤900) (hpl:∀ p∈ps,p.length≤200∧∀ x∈p,x<256) :
  ∀ (rem:List (List Nat)) {ri:List Value} {i cc:Nat} {k:Nat→Nat} {vs d9:List Value} {h:Heap} {tk:Nat},ps.drop i=rem→items.drop i=ri→words rem ri→ju vs→au w h→h.get? cl=some (dh w.params ["piece"] k vs)→h.get? it=some (jN D i)→h.get? D=some (aj items.toArray c0)→h.get? acc=some (aj d9.toArray cc)→jD ((ps.take i).map iQ) d9 →
   (∀ h' tk' k' vs' nC c',Keeps [cl,acc,it] h h'→((rem≠[]∨∃ v,vs=[v])→∃ v,vs'=[v])→h'.get? cl=some (dh w.params ["piece"] k' vs')→h'.get? acc=some (aj nC.toArray c')→jD (ps.map iQ) nC→R (.ok .next) ⟨h',g,d,tk',os⟩) →
   codeAny (model pw w) A (wJ cl loc it acc) R ⟨h,g,d,tk,os⟩:=by
 intro rem
 induction rem with
 | nil=>
  intro ri i cc k vs d9 h tk e ei hw hr kk je gi gD ga hv post
  have er:ri=[]:=by cases ri with | nil=>rfl | cons=>cases hw
  rw [List.drop_eq_nil_iff] at e
  rw [er,List.drop_eq_nil_iff] at ei
  have n1:cl≠it:=ne_of_cls je gi (by show Value.type "dict" ≠ .type "list_iterator";decide)
  have n2:acc≠it:=ne_of_cls ga gi (by show Value.type "list" ≠ .type "list_iterator";decide)
  refine dH (iy hA gi gD (by simpa using ei) fun h1 K1=>?_)
  rw [List.take_of_length_le e] at hv
  exact post h1 tk k vs d9 cc (K1.mono (by simp)) (fun x=>x.elim (fun y=>absurd rfl y) id) (K1.get _ _ je (cZ n1)) (K1.get _ _ ga (cZ n2)) hv
 | cons x rem ih=>
  intro ri i cc k vs d9 h tk e ei hw hr kk je gi gD ga hv post
  match ri,hw with
  | v::ri,hw=>
  obtain ⟨⟨tx,rfl⟩,hw⟩:=hw
  have hx:ps[i]? = some x:=by
   have h1:(ps.drop i)[0]? = some x:=by rw [e];rfl
   simpa using h1
  have hxi:items[i]? = some (.str (S x) tx):=by
   have h1:(items.drop i)[0]? = some (.str (S x) tx):=by rw [ei];rfl
   simpa using h1
  have hm:x∈ps:=List.mem_of_getElem? hx
  have hi:i<ps.length:=(List.getElem?_eq_some_iff.mp hx).1
  have e':ps.drop (i+1)=rem:=by rw [← List.drop_drop,e];rfl
  have ei':items.drop (i+1)=ri:=by rw [← List.drop_drop,ei];rfl
  have n1:cl≠it:=ne_of_cls je gi (by show Value.type "dict" ≠ .type "list_iterator";decide)
  have n2:acc≠it:=ne_of_cls ga gi (by show Value.type "list" ≠ .type "list_iterator";decide)
  have n3:D≠it:=ne_of_cls gD gi (by show Value.type "list" ≠ .type "list_iterator";decide)
  have n4:D≠cl:=ne_of_cls gD je (by show Value.type "list" ≠ .type "dict";decide)
  have hl:=lZ hv
  refine dH (gj gi gD (x:=.str (S x) tx) (by simpa using hxi) fun h1 K1 jK=>?_)
  refine JM hr hA (K1.kok kk (bK li)) lc la (hpl x hm).1 (hpl x hm).2 (K1.get _ _ je (cZ n1)) (K1.get _ _ ga (cZ n2)) (by simp at hl;lia) ?_
  intro h2 tk2 k2 v t2 c2 K2 iI CN
  have et:ps.take (i+1)=ps.take i++[x]:=by rw [List.take_add_one,hx];rfl
  refine ih e' ei' hw (.inr ⟨v,rfl⟩) (K2.kok (K1.kok kk (bK li)) (by simp [lc,la])) iI (K2.get _ _ jK (by simp [Ne.symm n1,Ne.symm n2])) (K2.get _ _ (K1.get _ _ gD (cZ n3)) (by simp [n4,nDa])) CN (by rw [et,List.map_append];exact qD hv) ?_
  intro h' tk' k' vs' nC c' K' hne Ar Oi hv'
  exact post h' tk' k' vs' nC c' (((K1.mono (by simp)).trans (K2.mono (by simp))).trans K') (fun _=>hne (.inr ⟨v,rfl⟩)) Ar Oi hv'
theorem lw2 {loc gk c:Nat} {k:Nat→Nat} {sl:Array (Option Value)} {v0 v2:Value} {ps:List (List Nat)} {vs:List Value} (hA:A.handled=none) (kk:au w h) (lp:845≤gk) (gp:h.get? gk=some (aj vs.toArray c)) (hw:words ps vs) (h2:2≤ps.length) (hps:ps.length≤900) (hpl:∀ p∈ps,p.length≤200∧∀ x∈p,x<256) (hz:(ps.map iQ).flatten.length≤50000)
  (gl:h.get? (loc+845)=some (cX w.params k [v0,.ref gk,v2] sl))
  (post:∀ h' tk' k' t,Keeps [loc+845] h h'→h'.get? (loc+845)=some (cX w.params k' [v0,.ref gk,v2,.bytes ⟨(ps.map iQ).flatten⟩ t] sl)→Q .next ⟨h',g,d,tk',os⟩) :
  wpAny (model pw w) A (exec (dU 2) (aU (loc+845))) Q E ⟨h,g,d,tk,os⟩:=by
 obtain ⟨dM,rfl⟩:=cH lp
 refine fX (bG ?_)
 have nlp:loc+845≠dM+845:=ne_of_cls gl gp (show Value.type "frame" ≠ .type "list" by decide)
 have own:∀ q∈([(loc+845,cX w.params k [v0,.ref (dM+845),v2] sl),(dM+845,aj vs.toArray c)]:Led),h.get? q.1=some q.2:=by simp [gl,gp]
 obtain ⟨n0,R0⟩:=(Rep.start kk own (lG nlp) (by simp)).up
 have dW:h.objs.size=n0+845:=R0.size
 refine gen (wI w [] 2 (loc+845) [(loc+845,cX w.params k [v0,.ref (dM+845),v2] sl),(dM+845,aj vs.toArray c)] (n0+845) tk [1,2,2,0,2,0,1,1]) fun q1 e1=>?_
 refine bA q1 .nil hA R0 (n:=0) (c:=.compStart (jd ocE) 0 (.ref (n0+845)) (.ref (n0+845+1)) (vQ ocE (n0+845+1+1) (loc+845))) (by refine sb e1 ?_;symm) ?_ e1.symm
 intro A1 h1 bT hD1 R1
 have cN:=R1.cast (L':=[(n0+845+1+1,dh w.params ["piece"] (fun _=>0) []),(n0+845+1,aj #[] 0),(n0+845,jN (dM+845) 0),(loc+845,cX w.params k [v0,.ref (dM+845),v2] sl),(dM+845,aj vs.toArray c)]) (by refine sb e1 ?_;symm)
 have K1:Keeps [] h h1:=(cN.done 3 (mod:=[]) rfl rfl own (fun p hp=>.inr hp)).1
 have gi:=cN.at (a:=n0+845) 2 rfl
 refine dF (fun E'=>lY gi ⟨rfl,rfl⟩) ?_
 have TY:loc+845<n0+845:=by rw [← dW];exact Heap.lt_size gl
 have lt5:dM+845<n0+845:=by rw [← dW];exact Heap.lt_size gp
 refine JN (ps:=ps) (items:=vs) bT (by lia) (by lia) (by lia) (by intro x;have x':@Eq Nat _ _:=x;lia) hps hpl ps (i:=0) (vs:=[]) (d9:=[]) rfl rfl hw (.inl rfl) R1.old (cN.at (a:=n0+845+1+1) 0 rfl) gi (cN.at (a:=dM+845) 4 rfl) (cN.at (a:=n0+845+1) 1 rfl) trivial ?_
 intro h2' tk2 k2 vs2 av2 c2 K2 hne iI zY hv2
 obtain ⟨v,rfl⟩:=hne (.inl (by intro x;rw [x] at h2;simp at h2))
 have low:∀ x∈[n0+845+1+1,n0+845+1,n0+845],h.objs.size≤x:=by
  simp only [mem_cons,not_mem_nil,or_false,forall_eq_or_imp,forall_eq]
  lia
 have jr:Keeps [] h h2':=K1.late K2 low
 have bW:∀ q∈([(n0+845+1+1,dh w.params ["piece"] k2 [v]),(loc+845,cX w.params k [v0,.ref (dM+845),v2] sl)]:Led),h2'.get? q.1=some q.2:=by simp [iI,jr.get _ _ gl]
 obtain ⟨n2,R2⟩:=(Rep.start (jr.kok kk aX) bW (by
  simp only [map_cons,map_nil,nodup_cons,mem_cons,not_mem_nil,or_false,not_false_eq_true,List.nodup_nil,and_true]
  intro x;have x':@Eq Nat _ _:=x;lia) (by
  simp only [mem_cons,not_mem_nil,or_false,forall_eq_or_imp,forall_eq]
  refine ⟨?_,?_⟩ <;> (show (845:Nat)≤_;lia))).up
 refine gen (aB w [] q1 (.ok .next) [(n0+845+1+1,dh w.params ["piece"] k2 [v]),(loc+845,cX w.params k [v0,.ref (dM+845),v2] sl)] (n2+845) tk2 [1,1,1,1]) fun q2 e2=>?_
 refine aK q2 .nil hA R2 (n:=0) (c:=.call (.builtin "bytes.join") ⟨[.bytes #[] tk,.ref (n0+845+1)],[]⟩) (by refine sb e2 (sb e1 ?_);symm) ?_ e2.symm
 intro A3 h3 iY lJ R3
 have K3:Keeps [n0+845+1+1] h2' h3:=R3.keeps (G':=[(loc+845,cX w.params k [v0,.ref (dM+845),v2] sl)]) (mod:=[n0+845+1+1]) rfl bW (by
  intro p hp
  exact List.mem_of_mem_drop (i:=1) (by rw [show q2.L.drop 1=[(loc+845,cX w.params k [v0,.ref (dM+845),v2] sl)] by refine sb e2 (sb e1 ?_);symm];exact hp)) (by simp)
 have qw:Keeps [] h h3:=jr.late K3 (by simp only [mem_singleton,forall_eq];lia)
 refine rM (K3.get _ _ zY (by intro hm;simp only [mem_singleton] at hm;have x':@Eq Nat _ _:=hm;lia)) hv2 (by simpa using h2) (by lia) ?_
 intro t4 tk4
 have iz:=qw.get _ _ gl not_mem_nil
 have dK:∀ q∈([(loc+845,cX w.params k [v0,.ref (dM+845),v2] sl)]:Led),h3.get? q.1=some q.2:=bK iz
 obtain ⟨n4,R4⟩:=(Rep.start R3.old dK fV (by simp)).up
 refine gen (w5 w [] q2 (.bytes ⟨(ps.map iQ).flatten⟩ t4) [(loc+845,cX w.params k [v0,.ref (dM+845),v2] sl)] (n4+845) tk4 [1,1]) fun q4 e4=>?_
 refine aO q4 .nil hA R4 (v:=.done .next) (by refine sb e4 (sb e2 (sb e1 ?_));symm) ?_ e4.symm
 intro h5 R5
 obtain ⟨K5,g5⟩:=R5.loc1 0 (o':=cX w.params (kOf q4.L 0) [v0,.ref (dM+845),v2,.bytes ⟨(ps.map iQ).flatten⟩ t4] sl) (by refine sb e4 (sb e2 (sb e1 ?_));symm) iz
 exact post h5 _ _ t4 ((qw.mono aX).trans K5) g5
end
end
noncomputable def nG (x:Int):List UInt8:=if x=0 then [] else if x=1 then [2,39] else [200]
noncomputable def pX (x:Int):Str:=if x=0 then gJ else if x=1 then jZ else fJ
section
variable {E:Value→Shared→Prop} {Q:Flow→Shared→Prop}
theorem Keeps.kokN {h h':Heap} {mod:List Addr} (q:Keeps mod h h') (k:au w h) (hm:∀ a∈mod,K w a=none):au w h':=fun a o e=>q.get a o (k a o e) fun m=>by rw [hm a m] at e;cases e
theorem three {x:Int} (h0:0≤x) (h1:x<3):x=0∨x=1∨x=2:=by lia
theorem lw3 {loc:Nat} {k:Nat→Nat} {sl:Array (Option Value)} {v0 v1:Value} {x:Int} {t0 t1:Nat} {b:List UInt8} (h0:0≤x) (h1:x<3) (hA:A.handled=none) (hD:A.depth+2<recursionLimit) (kk:au w h) (Gx:h.get? 780=some sG) (hb:b.length≤60000)
  (gl:h.get? (loc+845)=some (cX w.params k [v0,v1,.int x t0,.bytes ⟨b⟩ t1] sl))
  (post:∀ h' tk' k' t,Keeps [loc+845,780] h h'→au w h'→h'.get? (loc+845)=some (cX w.params k' [v0,v1,.int x t0,.bytes ⟨b⟩ t1,.ref t.stm] sl)→cV w h' t→t.v=0→t.b=b++nG x→(∀ q∈t.led w.params,h.objs.size≤q.1)→(∃ m,h'.get? 780=some (zx m))→Q .next ⟨h',g,d,tk',os⟩) :
  wpAny (model pw w) A (exec (dU 3) (aU (loc+845))) Q E ⟨h,g,d,tk,os⟩:=by
 refine fX (bG ?_)
 have own:∀ q∈([(loc+845,cX w.params k [v0,v1,.int x t0,.bytes ⟨b⟩ t1] sl)]:Led),h.get? q.1=some q.2:=bK gl
 obtain ⟨n0,R0⟩:=(Rep.start kk own fV (by simp)).up
 refine gen (wI w [] 3 (loc+845) [(loc+845,cX w.params k [v0,v1,.int x t0,.bytes ⟨b⟩ t1] sl)] (n0+845) tk [0,1,2,1,1,1,1]) fun q1 e1=>?_
 refine bA q1 .nil hA R0 (n:=0) (c:=.call (.builtin "list.__getitem__") ⟨[.ref (n0+845),.int x t0],[]⟩) (by refine sb e1 ?_;symm) ?_ e1.symm
 intro A1 h1' bT hD1 R1
 have hx:(d8 q1.L 0)[x.toNat]? = some (.bytes ⟨nG x⟩ (tk+x.toNat)):=by
  subst e1
  rcases three h0 h1 with rfl | rfl | rfl <;> symm
 refine dO (c:=0) (R1.at 0 (by refine sb e1 ?_;symm)) h0 (by unfold Builtin.List.listFitsIndex;simp;lia) hx ?_
 obtain ⟨n1,lC⟩:=R1.up
 refine gen (w5 w [] q1 (.bytes ⟨nG x⟩ (tk+x.toNat)) q1.L (n1+845) q1.tk [0,1]) fun q2 e2=>?_
 refine aK q2 .nil hA lC (n:=0) (c:=.call (.builtin "bytes.__add__") ⟨[.bytes ⟨b⟩ t1,.bytes ⟨nG x⟩ (tk+x.toNat)],[]⟩) (by refine sb e2 (sb e1 ?_);symm) ?_ e2.symm
 intro A2 h2 PN hD2 R2
 have ht:(nG x).length≤2:=by unfold nG;split <;> (try split) <;> simp
 refine uy (by lia) ?_
 intro t2 tk2
 obtain ⟨n2,Ob⟩:=R2.up
 refine gen (w5 w [] q2 (.bytes ⟨b++nG x⟩ t2) q2.L (n2+845) tk2 [0,1]) fun q3 e3=>?_
 refine aK q3 .nil hA Ob (n:=0) (c:=.call (.ref 785) ⟨[.bytes ⟨b++nG x⟩ t2],[]⟩) (by refine sb e3 (sb e2 (sb e1 ?_));symm) ?_ e3.symm
 intro A3 h3 iY lJ R3
 obtain ⟨K3,g3⟩:=R3.loc1 1 (o':=cX w.params k [v0,v1,.int x t0,.bytes ⟨b⟩ t1] sl) (by refine sb e3 (sb e2 (sb e1 ?_));symm) gl
 have JQ:(780:Nat)∉[loc+845]:=by simp only [mem_singleton];lia
 refine yu iY (by rw [lJ];exact hD) R3.old (K3.get _ _ Gx JQ) (by simp;lia) ?_
 intro h4 tk4 t K4 X4 ev eb low ⟨tm,gm⟩
 have nl:loc+845∉[(780:Nat)]:=by simp only [mem_singleton];lia
 have g4:=K4.get _ _ g3 nl
 have dK:∀ q∈([(loc+845,cX w.params k [v0,v1,.int x t0,.bytes ⟨b⟩ t1] sl)]:Led),h4.get? q.1=some q.2:=bK g4
 have k4:au w h4:=K4.kokN R3.old (bK RZ)
 obtain ⟨n4,R4⟩:=(Rep.start k4 dK fV (by simp)).up
 refine gen (w5 w [] q3 (.ref t.stm) [(loc+845,cX w.params k [v0,v1,.int x t0,.bytes ⟨b⟩ t1] sl)] (n4+845) tk4 [1,1]) fun q4 e4=>?_
 refine aO q4 .nil hA R4 (v:=.done .next) (by refine sb e4 (sb e3 (sb e2 (sb e1 ?_)));symm) ?_ e4.symm
 intro h5 R5
 obtain ⟨K5,g5⟩:=R5.loc1 0 (o':=cX w.params (kOf q4.L 0) [v0,v1,.int x t0,.bytes ⟨b⟩ t1,.ref t.stm] sl) (by refine sb e4 (sb e3 (sb e2 (sb e1 ?_)));symm) g4
 have l3:loc+845<h3.objs.size:=Heap.lt_size g3
 refine post h5 _ _ t (((K3.mono (by simp)).trans (K4.mono (by simp))).trans (K5.mono (by simp))) R5.old g5 (X4.keepsF K5.f fun q hq hm=>?_) ev eb (fun q hq=>Nat.le_trans K3.size (low q hq)) ⟨tm,K5.get _ _ gm JQ⟩
 simp only [mem_singleton] at hm
 have:=low q hq
 rw [hm] at this
 exact absurd l3 (Nat.not_lt.mpr this)
theorem lw4 {loc:Nat} {k:Nat→Nat} {sl:Array (Option Value)} {v0 v1 v2 v3:Value} {t:TP} {l:List Env} {ps:List (List Nat)} {msg:Str} (hA:A.handled=none) (hD:A.depth+6<recursionLimit) (hu:A.units+5<cLine) (hfr:A.frames=some (aU (loc+845)::l)) (FF:aG h l) (kk:au w h) (X:cV w h t) (tp:pK (t.b.drop t.v) ps msg) (hz:ps.length≤1000)
  (gl:h.get? (loc+845)=some (cX w.params k [v0,v1,v2,v3,.ref t.stm] sl))
  (post:∀ h' tk' k' sl' t' (vs:List Value) c' S tm jB,ak [loc+845,t.sd] h h'→h'.get? (loc+845)=some (cX w.params k' [v0,v1,v2,v3,.ref t.stm,.ref S,.str msg tm] sl')→t'={t with v:=t.b.length,tv:=jB}→cV w h' t'→h'.get? S=some (aj vs.toArray c')→words ps vs→h.objs.size≤S→Q .next ⟨h',g,d,tk',os⟩) :
  wpAny (model pw w) A (exec (dU 4) (aU (loc+845))) Q E ⟨h,g,d,tk,os⟩:=by
 refine fX (bG ?_)
 have own:∀ q∈([(loc+845,cX w.params k [v0,v1,v2,v3,.ref t.stm] sl)]:Led),h.get? q.1=some q.2:=bK gl
 obtain ⟨n0,R0⟩:=(Rep.start kk own fV (by simp)).up
 refine gen (wI w [] 4 (loc+845) [(loc+845,cX w.params k [v0,v1,v2,v3,.ref t.stm] sl)] (n0+845) tk [0,1,0,1]) fun q1 e1=>?_
 refine bQ q1 .nil hA R0 (n:=0) (c:=.call (.ref 799) ⟨[.ref t.stm],[]⟩) (fr:=[]) (u:=0) ⟨by refine sb e1 ?_;symm,by refine sb e1 ?_;symm⟩ ?_ e1.symm
 intro A1 h1 bT hD1 ql PL R1
 have K1:Keeps [] h h1:=(R1.done 0 (G':=[(loc+845,cX w.params k [v0,v1,v2,v3,.ref t.stm] sl)]) (mod:=[]) (by refine sb e1 ?_;symm) rfl own (by simp)).1
 have g1:=K1.get _ _ gl not_mem_nil
 have Vx:aG h1 l:=FF.keeps fun env he a _=>K1.f.get a not_mem_nil
 have F1:aG h1 (aU (loc+845)::l):=R1.frCons Vx 0 (a:=loc+845) (by refine sb e1 ?_;symm)
 have X1:=X.keeps K1
 have Qa:∀ q∈t.led w.params,q.1≠loc+845:=fun q hq x=>by
  have a:=X.own q hq
  rw [x,gl] at a
  have b:=congrArg Obj.cls (Option.some.inj a)
  simp only [TP.led,mem_cons,not_mem_nil,or_false] at hq
  rcases hq with rfl | rfl | rfl | rfl | rfl | rfl
  ·exact absurd b (by intro y;cases y)
  ·exact absurd b (show Value.type "frame" ≠ .type "dict" by decide)
  ·exact absurd b (show Value.type "frame" ≠ .type "function" by decide)
  ·exact absurd b (show Value.type "frame" ≠ .type "code" by decide)
  ·exact absurd b (show Value.type "frame" ≠ .type "cell" by decide)
  ·exact absurd b (show Value.type "frame" ≠ .type "cell" by decide)
 refine lE bT (by rw [hD1];exact hD) (by rw [PL];exact hu) (ql _ hfr) F1 R1.old X1 tp hz ?_
 intro h2 tk2 t2 vs c2 S T tm tv K2 et X2 gS hw gT lS lT
 have DW:loc+845∉[t.sd]:=by
  simp only [mem_singleton]
  exact fun x=>Qa (t.sd,t.sdO w.params) (by simp [TP.led]) x.symm
 obtain ⟨_,s2,dX⟩:=K2.get _ DW _ g1
 have bW:∀ q∈([(T,gn [.ref S,.str msg tm]),(loc+845,cX w.params k [v0,v1,v2,v3,.ref t.stm] s2)]:Led),h2.get? q.1=some q.2:=by
  intro q hq
  simp only [mem_cons,not_mem_nil,or_false] at hq
  rcases hq with rfl | rfl
  ·exact gT
  ·exact dX
 have k2:au w h2:=K2.kok R1.old (bK (X.lo (t.sd,t.sdO w.params) (by simp [TP.led])))
 have lT':845≤T:=Nat.le_trans (au.size (w:=w) R1.old) lT
 obtain ⟨T',rfl⟩:=cH lT'
 have nTl:T'+845≠loc+845:=ne_of_cls gT dX (show Value.type "tuple" ≠ .type "frame" by decide)
 obtain ⟨n2,R2⟩:=(Rep.start k2 bW (lG nTl) (by simp)).up
 refine gen (w5 w [] q1 (.ref (T'+845)) [(T'+845,gn [.ref S,.str msg tm]),(loc+845,cX w.params k [v0,v1,v2,v3,.ref t.stm] s2)] (n2+845) tk2 (og 0x1555511121101011121101011121101011010111)) fun q2 e2=>?_
 refine aO q2 .nil hA R2 (v:=.done .next) (by refine sb e2 (sb e1 ?_);symm) ?_ e2.symm
 intro h3 R3
 have K3:Keeps [loc+845] h2 h3:=R3.keeps (G':=[(T'+845,gn [.ref S,.str msg tm])]) (mod:=[loc+845]) rfl bW (by
  intro p hp
  simp only [mem_singleton] at hp
  rw [hp]
  exact List.mem_of_getElem? (i:=3) (by refine sb e2 (sb e1 ?_);symm)) (by simp)
 have g3:=R3.at (a:=loc+845) (o:=cX w.params (kOf q2.L 4) [v0,v1,v2,v3,.ref t.stm,.ref S,.str msg tm] s2) 4 (by refine sb e2 (sb e1 ?_);symm)
 have nS:S≠loc+845:=ne_of_cls gS dX (show Value.type "list" ≠ .type "frame" by decide)
 refine post h3 _ _ s2 t2 vs c2 S tm tv (((K1.f.mono (by simp)).trans (K2.mono (by simp))).trans (K3.f.mono (by simp))) g3 et (X2.keepsF K3.f fun q hq hm=>?_) (K3.get _ _ gS (cZ nS)) hw (Nat.le_trans K1.size lS)
 simp only [mem_singleton] at hm
 have el:(t2.led w.params).map Prod.fst=(t.led w.params).map Prod.fst:=by rw [et];rfl
 have hm':q.1∈(t.led w.params).map Prod.fst:=by rw [← el];exact mem_map_of_mem hq
 obtain ⟨p,hp,ep⟩:=List.mem_map.mp hm'
 exact Qa p hp (ep.trans hm)
theorem lw5 {loc:Nat} {k:Nat→Nat} {sl:Array (Option Value)} {v0 v1 v2 v3 v4 v5 v6:Value} (hA:A.handled=none) (kk:au w h)
  (gl:h.get? (loc+845)=some (cX w.params k [v0,v1,v2,v3,v4,v5,v6] sl))
  (post:∀ h' tk' k' t,Keeps [loc+845] h h'→h'.get? (loc+845)=some (cX w.params k' [v0,v1,v2,v3,v4,v5,v6,.str gJ t] sl)→Q .next ⟨h',g,d,tk',os⟩) :
  wpAny (model pw w) A (exec (dU 5) (aU (loc+845))) Q E ⟨h,g,d,tk,os⟩:=by
 refine fX (bG ?_)
 have own:∀ q∈([(loc+845,cX w.params k [v0,v1,v2,v3,v4,v5,v6] sl)]:Led),h.get? q.1=some q.2:=bK gl
 obtain ⟨n0,R0⟩:=(Rep.start kk own fV (by simp)).up
 refine gen (wI w [] 5 (loc+845) [(loc+845,cX w.params k [v0,v1,v2,v3,v4,v5,v6] sl)] (n0+845) tk [1,1]) fun q1 e1=>?_
 refine fZ q1 .nil hA R0 (v:=.done .next) (by refine sb e1 ?_;symm) ?_ e1.symm
 intro h1 R1
 obtain ⟨K1,g1⟩:=R1.loc1 0 (o':=cX w.params (kOf q1.L 0) [v0,v1,v2,v3,v4,v5,v6,.str gJ tk] sl) (by refine sb e1 ?_;symm) gl
 exact post h1 _ _ tk K1 g1
theorem lw6 {loc:Nat} {k:Nat→Nat} {sl:Array (Option Value)} {v0 v1 v2 v3 v4 v5 v6:Value} {t:Nat} (hA:A.handled=none) (kk:au w h)
  (gl:h.get? (loc+845)=some (cX w.params k [v0,v1,v2,v3,v4,v5,v6,.str gJ t] sl))
  (post:∀ h' tk' k' a t1 t2,Keeps [loc+845] h h'→h'.get? (loc+845)=some (cX w.params k' [v0,v1,v2,v3,v4,v5,v6,.str gJ t,.ref a] sl)→h.objs.size≤a→h'.get? a=some (aj #[.str gJ t,.str jZ t1,.str fJ t2] 0)→Q .next ⟨h',g,d,tk',os⟩) :
  wpAny (model pw w) A (exec (dU 6) (aU (loc+845))) Q E ⟨h,g,d,tk,os⟩:=by
 refine fX (bG ?_)
 have own:∀ q∈([(loc+845,cX w.params k [v0,v1,v2,v3,v4,v5,v6,.str gJ t] sl)]:Led),h.get? q.1=some q.2:=bK gl
 obtain ⟨n0,R0⟩:=(Rep.start kk own fV (by simp)).up
 have dW:h.objs.size=n0+845:=R0.size
 refine gen (wI w [] 6 (loc+845) [(loc+845,cX w.params k [v0,v1,v2,v3,v4,v5,v6,.str gJ t] sl)] (n0+845) tk [1,2,2]) fun q1 e1=>?_
 refine fZ q1 .nil hA R0 (v:=.done .next) (by refine sb e1 ?_;symm) ?_ e1.symm
 intro h1 R1
 obtain ⟨K1,g1⟩:=R1.loc1 1 (o':=cX w.params (kOf q1.L 1) [v0,v1,v2,v3,v4,v5,v6,.str gJ t,.ref (n0+845)] sl) (by refine sb e1 ?_;symm) gl
 exact post h1 _ _ (n0+845) tk (tk+1) K1 g1 (by rw [dW];exact Nat.le_refl _) (R1.at 0 (by refine sb e1 ?_;symm))
end
section
open PySem.SeqAt (RcNeAt RcAt EqAt)
noncomputable def Dj (s:Stmt):List Expr:=(ev (Eb s)).2.1
noncomputable abbrev ak9 (s:Stmt):Prop:=s=.If (.BoolOp .Or (Dj s) (Kw (Eb s))) (iJ s) [] (Qo s)
noncomputable def Ho (e:Expr):Expr:=(ev e).1
noncomputable def Dk (e:Expr):Expr:=U3 e
noncomputable def al2 (e:Expr):Prop:=e=.Compare (Ho e) [.NotEq] [Dk e] (Kw e)∧behindInMarks .NotEq (Dk e)=false
noncomputable def jg (st:Stmt) (i:Nat):Expr:=((Dj st)[i]?).getD default
section
variable {E:Value→Shared→Prop} {Q:Flow→Shared→Prop}
theorem wK {st:Stmt} {env:Env} {s:Shared} (hs:ak9 st) (z:wpAny (model pw w) A (allTrue .Or (Dj st) env) (fun b s'=>b=false∧Q .next s') E s):wpAny (model pw w) A (exec st env) Q E s:=by
 refine sb (congrArg (exec · env) hs.symm) ?_
 refine wpAny_If (wpAny_isTrue_BoolOp (wpAny_mono z (fun b s' z'=>?_) fun _ _ x=>x))
 rw [z'.1,if_neg (by decide)]
 exact wpAny_execs_nil z'.2
theorem yP {x:Expr} {rest:List Expr} {env:Env} {s:Shared} {Q:Bool→Shared→Prop} (hx:al2 x) (z:wpAny (model pw w) A (eval (Ho x) env) (fun a s1=>wpAny (model pw w) A (eval (Dk x) env) (fun b s2=>RcNeAt A s2 a b false∧wpAny (model pw w) A (allTrue .Or rest env) Q E s2) E s1) E s) :
  wpAny (model pw w) A (allTrue .Or (x::rest) env) Q E s:=by
 refine sb (congrArg (fun x=>allTrue .Or (x::rest) env) hx.1.symm) ?_
 refine wpAny_allTrue_Or_cons (wpAny_isTrue_Compare1 (wpAny_mono z (fun a s1 z1=>wpAny_mono z1 (fun b s2 z2=>?_) fun _ _ x=>x) fun _ _ x=>x) hx.2)
 refine z2.1 _ _ _ _ (wpAny_truthy_bool ?_)
 rw [if_neg (by decide)]
 exact z2.2
theorem uF {e:Expr} {env:Env} {loc:Nat} {o:Obj} {v:Value} {P:Value→Shared→Prop} (aC:List Nat) (hA:A.handled=none) (kk:au w h) (gl:h.get? (loc+845)=some o)
  (mX:∀ n,cU (bL w [] (vJ e env) [(loc+845,o)] (n+845) tk aC) (.done (.ret v))∧(bL w [] (vJ e env) [(loc+845,o)] (n+845) tk aC).L=[(loc+845,o)])
  (post:∀ h' tk',Keeps [] h h'→au w h'→h'.get? (loc+845)=some o→P v ⟨h',g,d,tk',os⟩):wpAny (model pw w) A (eval e env) P E ⟨h,g,d,tk,os⟩:=by
 refine dR ?_
 have own:∀ q∈([(loc+845,o)]:Led),h.get? q.1=some q.2:=bK gl
 obtain ⟨n0,R0⟩:=(Rep.start kk own fV (by simp)).up
 obtain ⟨c1,c2⟩:=mX n0
 refine fZ _ .nil hA R0 (v:=.done (.ret v)) c1 (fun h' R'=>?_) rfl
 obtain ⟨K,G⟩:=R'.done 0 (G':=[(loc+845,o)]) (mod:=[]) c2 rfl own (fun p hp=>.inr hp)
 exact post h' _ K R'.old (G _ (mem_cons_self ..))
theorem JR {T T2 S1 S2 c1 c2:Nat} {m:Str} {t1 t2:Nat} {s:Shared} (hu:A.units+2<cLine) (gT:s.heap.get? T=some (gn [.ref S1,.str m t1])) (gS:s.heap.get? S1=some (aj #[] c1)) (gT2:s.heap.get? T2=some (gn [.ref S2,.str m t2])) (vA:s.heap.get? S2=some (aj #[] c2)) (ne:S1≠S2):RcNeAt A s (.ref T) (.ref T2) false:=by
 have:=RcNeAt.tuples (A:=A) (s:=s) (e:=fun _=>true) ⟨_,gT,rfl,_,rfl⟩ ⟨_,gT2,rfl,_,rfl⟩ (by lia) (fun j h1 h2=>by
  have hj:j=0∨j=1:=by simp at h1;lia
  rcases hj with rfl | rfl
  ·have:=RcAt.lists (A:=A.in1) (s:=s) (e:=fun _=>true) ⟨_,gS,rfl,_,rfl⟩ ⟨_,vA,rfl,_,rfl⟩ rfl (by show A.units+1<cLine;lia) (fun j h1 h2=>by simp at h1)
   exact EqAt.of_refs ne this
  ·have:=EqAt.str_str (A:=A.in1) (s:=s) m t1 m t2
   simpa using this)
 exact this
def JT (w:World) (e:Expr) (loc:Nat) (L:Led) (n tk:Nat) (aC:List Nat):Rs:=bL w [] (vJ e (aU loc)) L n tk aC
theorem Oj:Dj (dU 7)=[jg (dU 7) 0,jg (dU 7) 1,jg (dU 7) 2]:=by symm
theorem lw7 {loc c cP cR tt tw tn t1 t2 t3 P S F:Nat} {k:Nat→Nat} {sl:Array (Option Value)} {v0 v3:Value} {x:Int} {t:TP} {l:List Env} {ps:List (List Nat)} {us vs:List Value} (hx0:0≤x) (hx1:x<3) (hA:A.handled=none) (hD:A.depth+6<recursionLimit) (hu:A.units+5<cLine) (hfr:A.frames=some (aU (loc+845)::l)) (FF:aG h l) (kk:au w h) (X:cV w h t) (ev:t.v=t.b.length)
  (gl:h.get? (loc+845)=some (cX w.params k [v0,.ref P,.int x tt,v3,.ref t.stm,.ref S,.str (pX x) tw,.str gJ tn,.ref F] sl))
  (gP:h.get? P=some (aj us.toArray cP)) (wP:words ps us) (gS:h.get? S=some (aj vs.toArray c)) (wS:words ps vs) (lF:845≤F) (gF:h.get? F=some (aj #[.str gJ t1,.str jZ t2,.str fJ t3] cR))
  (post:∀ h' tk' sl',ak [loc+845,t.sd] h h'→au w h'→h'.get? (loc+845)=some (cX w.params k [v0,.ref P,.int x tt,v3,.ref t.stm,.ref S,.str (pX x) tw,.str gJ tn,.ref F] sl')→Q .next ⟨h',g,d,tk',os⟩) :
  wpAny (model pw w) A (exec (dU 7) (aU (loc+845))) Q E ⟨h,g,d,tk,os⟩:=by
 have cL:20<cLine:=by decide
 have Qa:∀ q∈t.led w.params,q.1≠loc+845:=fun q hq x=>by
  have a:=X.own q hq
  rw [x,gl] at a
  have b:=congrArg Obj.cls (Option.some.inj a)
  simp only [TP.led,mem_cons,not_mem_nil,or_false] at hq
  rcases hq with rfl | rfl | rfl | rfl | rfl | rfl
  ·exact absurd b (by intro y;cases y)
  ·exact absurd b (show Value.type "frame" ≠ .type "dict" by decide)
  ·exact absurd b (show Value.type "frame" ≠ .type "function" by decide)
  ·exact absurd b (show Value.type "frame" ≠ .type "code" by decide)
  ·exact absurd b (show Value.type "frame" ≠ .type "cell" by decide)
  ·exact absurd b (show Value.type "frame" ≠ .type "cell" by decide)
 refine wK (by symm) ?_
 rw [Oj]
 refine yP ⟨by symm,by symm⟩ (uF (v:=.ref S) [1] hA kk gl (fun n=>⟨by symm,by symm⟩) fun h1 tk1 K1 k1 fP=>uF (v:=.ref P) [1] hA k1 fP (fun n=>⟨by symm,by symm⟩) fun h2 tk2 K2 k2 dX=>?_)
 have jr:=K1.trans K2
 refine ⟨yI (by lia) (jr.get _ _ gS not_mem_nil) (jr.get _ _ gP not_mem_nil) wS wP,?_⟩
 refine yP ⟨by symm,by symm⟩ (uF (v:=.str (pX x) tw) [1] hA k2 dX (fun n=>⟨by symm,by symm⟩) fun h3 tk3 K3 k3 iz=>dR ?_)
 have qw:=jr.trans K3
 have gF3:=qw.get _ _ gF not_mem_nil
 have nF:F≠loc+845:=ne_of_cls gF gl (show Value.type "list" ≠ .type "frame" by decide)
 obtain ⟨o,eo⟩:∃ o,cX w.params k [v0,.ref P,.int x tt,v3,.ref t.stm,.ref S,.str (pX x) tw,.str gJ tn,.ref F] sl=o:=⟨_,rfl⟩
 rw [eo] at iz
 obtain ⟨of,ef⟩:∃ o,aj #[.str gJ t1,.str jZ t2,.str fJ t3] cR=o:=⟨_,rfl⟩
 rw [ef] at gF3
 have jC:∀ q∈([(loc+845,o),(F,of)]:Led),h3.get? q.1=some q.2:=by simp [iz,gF3]
 obtain ⟨m3,R3⟩:=(Rep.start k3 jC (lG (Ne.symm nF)) (by simpa using lF)).up
 refine gen (JT w (Dk (jg (dU 7) 1)) (loc+845) [(loc+845,o),(F,of)] (m3+845) tk3 [1,1,2,2,2,1]) fun q1 e1=>?_
 refine bA q1 .nil hA R3 (n:=0) (c:=.call (.builtin "list.__getitem__") ⟨[.ref F,.int x tt],[]⟩) (by refine sb e1 (sb eo (sb ef ?_));symm) ?_ e1.symm
 intro A4 h4 hA4 hD4 R4
 have K4:Keeps [] h3 h4:=(R4.done 0 (G':=[(loc+845,o),(F,of)]) (mod:=[]) (by refine sb e1 (sb eo (sb ef ?_));symm) rfl jC (by simp)).1
 have hx:∃ tr,(#[.str gJ t1,.str jZ t2,.str fJ t3]:Array Value)[x.toNat]? = some (.str (pX x) tr):=by
  rcases three hx0 hx1 with rfl | rfl | rfl
  ·exact ⟨t1,by symm⟩
  ·exact ⟨t2,by symm⟩
  ·exact ⟨t3,by symm⟩
 obtain ⟨tr,hx⟩:=hx
 refine dO (c:=cR) (by rw [ef];exact K4.get _ _ gF3 not_mem_nil) hx0 (by unfold Builtin.List.listFitsIndex;simp;lia) hx ?_
 obtain ⟨n4,Vc⟩:=R4.up
 refine gen (w5 w [] q1 (.str (pX x) tr) q1.L (n4+845) q1.tk [0]) fun q2 e2=>?_
 refine aO q2 .nil hA Vc (v:=.done (.ret (.str (pX x) tr))) (by refine sb e2 (sb e1 (sb eo (sb ef ?_)));symm) ?_ e2.symm
 intro h5 R5
 obtain ⟨K5,G5⟩:=R5.done 0 (G':=[(loc+845,o),(F,of)]) (mod:=[]) (by refine sb e2 (sb e1 (sb eo (sb ef ?_)));symm) rfl jC (by simp)
 have GZ:=G5 _ (mem_cons_self ..)
 have qy:=qw.trans K5
 have k5:au w h5:=R5.old
 refine ⟨by simpa using RcNeAt.str_str (A:=A) (s:=⟨h5,g,d,q2.tk,os⟩) (pX x) tw (pX x) tr,?_⟩
 refine yP ⟨by symm,by symm⟩ (dR ?_)
 have Dc:∀ q∈([(loc+845,o)]:Led),h5.get? q.1=some q.2:=bK GZ
 obtain ⟨m5,qm⟩:=(Rep.start k5 Dc fV (by simp)).up
 refine gen (JT w (Ho (jg (dU 7) 2)) (loc+845) [(loc+845,o)] (m5+845) q2.tk [0,1,0,1]) fun q3 e3=>?_
 refine bQ q3 .nil hA qm (n:=0) (c:=.call (.ref 799) ⟨[.ref t.stm],[]⟩) (fr:=[]) (u:=0) ⟨by refine sb e3 (sb eo ?_);symm,by refine sb e3 (sb eo ?_);symm⟩ ?_ e3.symm
 intro A6 h6 hA6 hD6 hF6 hU6 R6
 have K6:Keeps [] h5 h6:=(R6.done 0 (G':=[(loc+845,o)]) (mod:=[]) (by refine sb e3 (sb eo ?_);symm) rfl Dc (by simp)).1
 have zR:=qy.trans K6
 have JV:=K6.get _ _ GZ not_mem_nil
 have F6':aG h6 l:=FF.keeps fun env he a _=>zR.f.get a not_mem_nil
 have F6:aG h6 (aU (loc+845)::l):=R6.frCons F6' 0 (a:=loc+845) (by refine sb e3 (sb eo ?_);symm)
 have X6:=X.keeps zR
 refine lE hA6 (by rw [hD6];exact hD) (by rw [hU6];exact hu) (hF6 _ hfr) F6 R6.old X6 (ps:=[]) (msg:=gJ) (by rw [ev,List.drop_length];exact .nil) (by simp) ?_
 intro h7 Cj t7 vs7 c7 S7 T7 tm tv K7 et X7 VR hw gT7 lS7 lT7
 cases vs7 with
 | cons a b=>cases hw
 | nil=>
 have DW:loc+845∉[t.sd]:=by
  simp only [mem_singleton]
  exact fun x=>Qa (t.sd,t.sdO w.params) (by simp [TP.led]) x.symm
 obtain ⟨_,s7,Qc⟩:=K7.get _ DW _ JV
 have k7:au w h7:=K7.kok R6.old (bK (X.lo (t.sd,t.sdO w.params) (by simp [TP.led])))
 obtain ⟨n7,R7⟩:=(Rep.nil (w:=w) k7).up
 refine aO (w5 w [] q3 (.ref T7) [] (n7+845) Cj []) .nil hA R7 (v:=.done (.ret (.ref T7))) (by refine sb e3 (sb eo ?_);symm) ?_ rfl
 intro h8 R8
 have K8:=R8.fresh.1
 subst eo
 have Lx:=K8.get _ _ Qc not_mem_nil
 refine dR ?_
 obtain ⟨o,eo⟩:∃ o,cX w.params k [v0,.ref P,.int x tt,v3,.ref t.stm,.ref S,.str (pX x) tw,.str gJ tn,.ref F] s7=o:=⟨_,rfl⟩
 have al4:h8.get? (loc+845)=some o:=by rw [← eo];exact Lx
 have Hj:∀ q∈([(loc+845,o)]:Led),h8.get? q.1=some q.2:=bK al4
 obtain ⟨m8,yc⟩:=(Rep.start R8.old Hj fV (by simp)).up
 have sz8:h8.objs.size=m8+845:=yc.size
 refine gen (JT w (Dk (jg (dU 7) 2)) (loc+845) [(loc+845,o)] (m8+845) (w5 w [] q3 (.ref T7) [] (n7+845) Cj []).tk [2]) fun q4 e4=>?_
 refine fZ q4 .nil hA yc (v:=.done (.ret (.ref (m8+845+1)))) (by refine sb e4 (sb eo ?_);symm) ?_ e4.symm
 intro h9 R9
 obtain ⟨K9,G9⟩:=R9.done 2 (G':=[(loc+845,o)]) (mod:=[]) (by refine sb e4 (sb eo ?_);symm) rfl Hj (by simp)
 have Qd:=G9 _ (mem_cons_self ..)
 have gT9:=R9.at (a:=m8+845+1) (o:=gn [.ref (m8+845),.str gJ tn]) 0 (by refine sb e4 (sb eo ?_);symm)
 have V0:=R9.at (a:=m8+845) (o:=aj #[] 0) 1 (by refine sb e4 (sb eo ?_);symm)
 have K79:=K8.trans K9
 have lS:S7<m8+845:=by
  rw [← sz8]
  exact Heap.lt_size (K8.get _ _ VR not_mem_nil)
 refine ⟨JR (by lia) (K79.get _ _ gT7 not_mem_nil) (K79.get _ _ VR not_mem_nil) gT9 V0 (Nat.ne_of_lt lS),wpAny_allTrue_Or_nil ⟨rfl,?_⟩⟩
 rw [← eo] at Qd
 exact post h9 _ s7 (((zR.f.mono (by simp)).trans (K7.mono (by simp))).trans (K79.f.mono aX)) R9.old Qd
end
end
noncomputable def Dl:Expr:=asV (dU 8)
noncomputable def wL (cl loc it acc:Nat):Code:=.compLoop (jd Dl) 0 (.ref it) (.ref acc) (vQ Dl cl loc)
structure bw (h:Heap) (B:Nat) (as:List Nat) (ρs:List aZ) (bF:List (List Nat)):Prop where
 rows:bC h as ρs bF
 nd:as.Nodup
 dj:bF.Pairwise fun Ts Us=>∀ x∈Ts,x∉Us
 lo:(∀ a∈as,B≤a)∧∀ Ts∈bF,∀ x∈Ts,B≤x
theorem bC.snoc {h:Heap} {a:Nat} {ρ:aZ} {Ts:List Nat} (r:aJ h a ρ Ts):∀ {as:List Nat} {ρs:List aZ} {bF:List (List Nat)},bC h as ρs bF→bC h (as++[a]) (ρs++[ρ]) (bF++[Ts])
 | [],[],[],_=>⟨r,trivial⟩
 | _::_,_::_,_::_,X=>⟨X.1,bC.snoc r X.2⟩
 | [],[],_::_,X=>X.elim
 | [],_::_,_,X=>X.elim
 | _::_,[],_,X=>X.elim
 | _::_,_::_,[],X=>X.elim
theorem bw.keeps {h h':Heap} {B:Nat} {m:List Addr} {as:List Nat} {ρs:List aZ} {bF:List (List Nat)} (X:bw h B as ρs bF) (K:Keeps m h h') (nt:aA h m) (na:∀ a∈as,a∉m):bw h' B as ρs bF:=⟨X.rows.keeps K nt na,X.nd,X.dj,X.lo⟩
theorem bw.snoc {h h':Heap} {B:Nat} {m:List Addr} {as:List Nat} {ρs:List aZ} {bF:List (List Nat)} {a:Nat} {ρ:aZ} {Ts:List Nat} (X:bw h B as ρs bF) (hB:B≤h.objs.size) (K:Keeps m h h') (nt:aA h m) (na:∀ a∈as,a∉m) (r:aJ h' a ρ Ts) (lo:∀ x∈a::Ts,h.objs.size≤x):bw h' B (as++[a]) (ρs++[ρ]) (bF++[Ts]):=by
 obtain ⟨l1,l2⟩:=X.rows.lt
 refine ⟨(X.rows.keeps K nt na).snoc r,?_,?_,?_,?_⟩
 ·rw [List.nodup_append]
  refine ⟨X.nd,Kv,fun x hx y hy e=>?_⟩
  rw [mem_singleton] at hy
  exact absurd (l1 x hx) (Nat.not_lt.mpr (e ▸ hy ▸ lo a (mem_cons_self ..)))
 ·rw [List.pairwise_append]
  refine ⟨X.dj,by simp,fun Us hU Vs hV x hx hy=>?_⟩
  rw [mem_singleton] at hV
  subst hV
  exact absurd (l2 Us hU x hx) (Nat.not_lt.mpr (lo x (mem_cons_of_mem _ hy)))
 ·intro x hx
  rcases List.mem_append.mp hx with hx | hx
  ·exact X.lo.1 x hx
  ·rw [mem_singleton] at hx
   exact hx ▸ Nat.le_trans hB (lo a (mem_cons_self ..))
 ·intro Us hU x hx
  rcases List.mem_append.mp hU with hU | hU
  ·exact X.lo.2 Us hU x hx
  ·rw [mem_singleton] at hU
   subst hU
   exact Nat.le_trans hB (lo x (mem_cons_of_mem _ hx))
noncomputable def JW (p:List Nat):Prop:=(∀ c∈p,c∈sgn)∧p.length≤30
def Qe (w:World) (p:List Nat) (t n tk cl loc it acc:Nat) (k:Nat→Nat) (vs:List Value):Rs:=bL w [] (jl (jo Dl) (rG Dl) (.ref it) (.ref acc) (.str (S p) t) (vQ Dl cl loc) (jd Dl)) [(cl,dh w.params ["piece"] k vs)] n tk [1,1,0,1,0,1]
section
variable (w:World) (n tk cl loc it acc t n1 tk1 a n2 tk2:Nat) (k:Nat→Nat) (vs:List Value) (p:List Nat)
theorem rqA (hr:ju vs):fU (Qe w p t (n+845) tk (cl+845) loc it acc k vs) 0 (.call (.ref 813) ⟨[.str (S p) t],[]⟩)∧(Qe w p t (n+845) tk (cl+845) loc it acc k vs).L=[(cl+845,dh w.params ["piece"] (kOf (Qe w p t (n+845) tk (cl+845) loc it acc k vs).L 0) [.str (S p) t])]:=by rcases hr with rfl | ⟨v,rfl⟩ <;> exact ⟨by symm,by symm⟩
theorem rqB (hr:ju vs) (q:Rs) (e:Qe w p t (n+845) tk (cl+845) loc it acc k vs=q):fU (aB w [] q (.ok (.ret (.ref a))) [] (n1+845) tk1 [1]) 0 (.call (.builtin "list.append") ⟨[.ref acc,.ref a],[]⟩)∧(aB w [] q (.ok (.ret (.ref a))) [] (n1+845) tk1 [1]).L=[]:=by refine sb e ?_;refine se hr ?_ (fun _=>?_) <;> exact ⟨by symm,by symm⟩
theorem rqC (hr:ju vs) (q:Rs) (e:Qe w p t (n+845) tk (cl+845) loc it acc k vs=q) (q2:Rs) (e2:aB w [] q (.ok (.ret (.ref a))) [] (n1+845) tk1 [1]=q2):cU (aB w [] q2 (.ok (.ret .none)) [] (n2+845) tk2 []) (.again (wL (cl+845) loc it acc))∧(aB w [] q2 (.ok (.ret .none)) [] (n2+845) tk2 []).L=[]:=by refine sb e2 (sb e ?_);refine se hr ?_ (fun _=>?_) <;> exact ⟨by symm,by symm⟩
end
section
variable {E:Value→Shared→Prop} {Q:Flow→Shared→Prop}
theorem JX {cl loc it acc t cc:Nat} {p:List Nat} {k:Nat→Nat} {vs d9:List Value} (hr:ju vs) (hA:A.handled=none) (hD:A.depth+2<recursionLimit) (kk:au w h) (lc:845≤cl) (la:845≤acc) (hp:JW p) (je:h.get? cl=some (dh w.params ["piece"] k vs)) (ga:h.get? acc=some (aj d9.toArray cc)) (hz:d9.length≤1000)
  (post:∀ h' tk' k' v a Ts c',Keeps [cl,acc] h h'→h'.get? cl=some (dh w.params ["piece"] k' [v])→h'.get? acc=some (aj (d9++[Value.ref a]).toArray c')→aJ h' a (rowOf p) Ts→(∀ x∈a::Ts,h.objs.size≤x)→codeAny (model pw w) A (wL cl loc it acc) R ⟨h',g,d,tk',os⟩) :
  wpAny (model pw w) A (jl (jo Dl) (rG Dl) (.ref it) (.ref acc) (.str (S p) t) (vQ Dl cl loc) (jd Dl)) (FQ w A R) (NE w A (vQ Dl cl loc) R) ⟨h,g,d,tk,os⟩:=by
 obtain ⟨iw,rfl⟩:=cH lc
 have own:∀ q∈([(iw+845,dh w.params ["piece"] k vs)]:Led),h.get? q.1=some q.2:=bK je
 obtain ⟨n0,R0⟩:=(Rep.start kk own fV (by simp)).up
 obtain ⟨cA,cL⟩:=rqA w n0 tk iw loc it acc t k vs p hr
 revert cA cL;refine gen (Qe w p t (n0+845) tk (iw+845) loc it acc k vs) fun q1 e1=>?_;intro cA cL
 refine bA q1 .nil hA R0 (n:=0) cA ?_ e1.symm
 intro A1 h1 bT hD1 R1
 obtain ⟨K1,g1⟩:=R1.loc1 0 cL je
 have DY:acc≠iw+845:=ne_of_cls ga je (by show Value.type "list" ≠ .type "dict";decide)
 refine Gq (piece:=S p) bT (by rw [hD1];exact hD) R1.old hp.1 (by have:=hp.2;show 2*p.length<9000;lia) ?_
 intro h2 tk2 a Ts K2 r lo
 have k2:au w h2:=K2.kok R1.old aX
 obtain ⟨n2,R2⟩:=(Rep.nil (w:=w) k2).up
 obtain ⟨cB,Dm⟩:=rqB w n0 tk iw loc it acc t n2 tk2 a k vs p hr q1 e1
 revert cB Dm;refine gen (aB w [] q1 (.ok (.ret (.ref a))) [] (n2+845) tk2 [1]) fun q2 e2=>?_;intro cB Dm
 refine aK q2 .nil hA R2 (n:=0) cB ?_ e2.symm
 intro A3 h3 iY lJ R3
 have K3:=(R3.cast Dm).fresh.1
 have qw:Keeps [iw+845] h h3:=K1.trans ((K2.trans K3).mono aX)
 have RP:=qw.get _ _ ga (cZ DY)
 refine bO RP (by simpa using (by lia:d9.length≤10000)) ?_
 intro h4 K4 ga4
 have k4:au w h4:=K4.kok R3.old (bK la)
 obtain ⟨n4,R4⟩:=(Rep.nil (w:=w) k4).up
 obtain ⟨cC,cL3⟩:=rqC w n0 tk iw loc it acc t n2 tk2 a n4 q2.tk k vs p hr q1 e1 q2 e2
 refine aO _ .nil hA R4 (v:=.again (wL (iw+845) loc it acc)) cC ?_ rfl
 intro h5 R5
 have K5:=(R5.cast cL3).fresh.1
 have lt:acc<h.objs.size:=Heap.lt_size ga
 have lo':∀ x∈a::Ts,h.objs.size≤x:=fun x hx=>Nat.le_trans K1.size (lo x hx)
 have r3:=r.keeps K3 (by simp [aA]) not_mem_nil
 have r4:=r3.keeps K4 (aA.of (by
  simp only [mem_singleton,forall_eq]
  exact ⟨_,RP,(by show Value.type "list" ≠ .type "tuple";decide)⟩)) (by
  simp only [mem_singleton]
  exact fun x=>absurd lt (Nat.not_lt.mpr (x ▸ lo' a (mem_cons_self ..))))
 refine ⟨rfl,post h5 _ _ _ a Ts _ (((qw.mono (by simp)).trans (K4.mono (by simp))).trans (K5.mono aX)) (K5.get _ _ (K4.get _ _ (K3.get _ _ (K2.get _ _ g1 not_mem_nil) not_mem_nil) (cZ (Ne.symm DY))) not_mem_nil) (K5.get _ _ (by simpa using ga4) not_mem_nil) (r4.keeps K5 (by simp [aA]) not_mem_nil) lo'⟩
theorem aA.one {h:Heap} {a:Nat} {o:Obj} (g:h.get? a=some o) (ne:o.cls≠.type "tuple"):aA h [a]:=aA.of (by
 simp only [mem_singleton,forall_eq]
 exact ⟨_,g,ne⟩)
theorem bw.apart {h:Heap} {B b:Nat} {o:Obj} {as:List Nat} {ρs:List aZ} {bF:List (List Nat)} (X:bw h B as ρs bF) (g:h.get? b=some o) (ne:o.cls≠.type "list"):∀ a∈as,a∉[b]:=by
 have:=X.rows
 clear X
 induction as generalizing ρs bF with
 | nil=>intro a ha;cases ha
 | cons a as ih=>
  match ρs,bF,this with
  | ρ::ρs,Ts::bF,X=>
   intro b' hb
   rcases List.mem_cons.mp hb with rfl | hb
   ·simp only [mem_singleton];exact X.1.notin g ne
   ·exact ih X.2 b' hb
theorem aA.two {h:Heap} {a b:Nat} {o p:Obj} (g:h.get? a=some o) (ne:o.cls≠.type "tuple") (g':h.get? b=some p) (ne':p.cls≠.type "tuple"):aA h [a,b]:=aA.of (by
 intro x hx
 rcases List.mem_cons.mp hx with rfl | hx
 ·exact ⟨_,g,ne⟩
 ·rw [mem_singleton] at hx
  exact ⟨_,hx ▸ g',ne'⟩)
theorem JZ {cl loc it acc D c0 B:Nat} {items:List Value} {ps:List (List Nat)} (hA:A.handled=none) (hD:A.depth+2<recursionLimit) (lc:845≤cl) (la:845≤acc) (li:845≤it) (nDa:D≠acc) (hps:ps.length≤900) (hpl:∀ p∈ps,JW p) :
  ∀ (rem:List (List Nat)) {ri:List Value} {i cc:Nat} {k:Nat→Nat} {vs:List Value} {as:List Nat} {bF:List (List Nat)} {h:Heap} {tk:Nat},ps.drop i=rem→items.drop i=ri→words rem ri→ju vs→au w h→h.get? cl=some (dh w.params ["piece"] k vs)→h.get? it=some (jN D i)→h.get? D=some (aj items.toArray c0)→h.get? acc=some (aj (as.map Value.ref).toArray cc)→bw h B as ((ps.take i).map rowOf) bF→B≤h.objs.size→acc∉as →
   (∀ h' tk' k' vs' as' Ol c',Keeps [cl,acc,it] h h'→((rem≠[]∨∃ v,vs=[v])→∃ v,vs'=[v])→h'.get? cl=some (dh w.params ["piece"] k' vs')→h'.get? acc=some (aj (as'.map Value.ref).toArray c')→bw h' B as' (ps.map rowOf) Ol→R (.ok .next) ⟨h',g,d,tk',os⟩) →
   codeAny (model pw w) A (wL cl loc it acc) R ⟨h,g,d,tk,os⟩:=by
 intro rem
 induction rem with
 | nil=>
  intro ri i cc k vs as bF h tk e ei hw hr kk je gi gD ga X hB naa post
  have er:ri=[]:=by cases ri with | nil=>rfl | cons=>cases hw
  rw [List.drop_eq_nil_iff] at e
  rw [er,List.drop_eq_nil_iff] at ei
  have n1:cl≠it:=ne_of_cls je gi (by show Value.type "dict" ≠ .type "list_iterator";decide)
  have n2:acc≠it:=ne_of_cls ga gi (by show Value.type "list" ≠ .type "list_iterator";decide)
  refine dH (iy hA gi gD (by simpa using ei) fun h1 K1=>?_)
  rw [List.take_of_length_le e] at X
  exact post h1 tk k vs as bF cc (K1.mono (by simp)) (fun x=>x.elim (fun y=>absurd rfl y) id) (K1.get _ _ je (cZ n1)) (K1.get _ _ ga (cZ n2)) (X.keeps K1 (aA.one gi (show Value.type "list_iterator" ≠ .type "tuple" by decide)) (X.apart gi (show Value.type "list_iterator" ≠ .type "list" by decide)))
 | cons x rem ih=>
  intro ri i cc k vs as bF h tk e ei hw hr kk je gi gD ga X hB naa post
  match ri,hw with
  | v::ri,hw=>
  obtain ⟨⟨tx,rfl⟩,hw⟩:=hw
  have hx:ps[i]? = some x:=by
   have h1:(ps.drop i)[0]? = some x:=by rw [e];rfl
   simpa using h1
  have hxi:items[i]? = some (.str (S x) tx):=by
   have h1:(items.drop i)[0]? = some (.str (S x) tx):=by rw [ei];rfl
   simpa using h1
  have hm:x∈ps:=List.mem_of_getElem? hx
  have hi:i<ps.length:=(List.getElem?_eq_some_iff.mp hx).1
  have e':ps.drop (i+1)=rem:=by rw [← List.drop_drop,e];rfl
  have ei':items.drop (i+1)=ri:=by rw [← List.drop_drop,ei];rfl
  have n1:cl≠it:=ne_of_cls je gi (by show Value.type "dict" ≠ .type "list_iterator";decide)
  have n2:acc≠it:=ne_of_cls ga gi (by show Value.type "list" ≠ .type "list_iterator";decide)
  have n3:D≠it:=ne_of_cls gD gi (by show Value.type "list" ≠ .type "list_iterator";decide)
  have n4:D≠cl:=ne_of_cls gD je (by show Value.type "list" ≠ .type "dict";decide)
  have hl:=X.rows.len
  rw [List.length_map,List.length_take] at hl
  refine dH (gj gi gD (x:=.str (S x) tx) (by simpa using hxi) fun h1 K1 jK=>?_)
  have jA:=K1.get _ _ je (cZ n1)
  have vD:=K1.get _ _ ga (cZ n2)
  have X1:=X.keeps K1 (aA.one gi (show Value.type "list_iterator" ≠ .type "tuple" by decide)) (X.apart gi (show Value.type "list_iterator" ≠ .type "list" by decide))
  have hB1:=Nat.le_trans hB K1.size
  refine JX hr hA hD (K1.kok kk (bK li)) lc la (hpl x hm) jA vD (by simp at hl ⊢;lia) ?_
  intro h2 tk2 k2 v a Ts c2 K2 iI CN r lo
  have et:(ps.take (i+1)).map rowOf=(ps.take i).map rowOf++[rowOf x]:=by rw [List.take_add_one,hx,List.map_append];rfl
  have X2:=X1.snoc hB1 K2 (aA.two jA (show Value.type "dict" ≠ .type "tuple" by decide) vD (show Value.type "list" ≠ .type "tuple" by decide)) (fun b hb hc=>by
   rcases List.mem_cons.mp hc with rfl | hc
   ·exact X1.apart jA (show Value.type "dict" ≠ .type "list" by decide) _ hb mem_cons_self
   ·rw [mem_singleton] at hc
    exact naa (hc ▸ hb)) r lo
  refine ih (as:=as++[a]) e' ei' hw (.inr ⟨v,rfl⟩) (K2.kok (K1.kok kk (bK li)) (by simp [lc,la])) iI (K2.get _ _ jK (by simp [Ne.symm n1,Ne.symm n2])) (K2.get _ _ (K1.get _ _ gD (cZ n3)) (by simp [n4,nDa])) (by simpa using CN) (by rw [et];exact X2) (Nat.le_trans hB1 K2.size) (fun hm=>by
   rcases List.mem_append.mp hm with hm | hm
   ·exact naa hm
   ·rw [mem_singleton] at hm
    have l1:acc<h1.objs.size:=Heap.lt_size vD
    exact absurd l1 (Nat.not_lt.mpr (hm ▸ lo a (mem_cons_self ..)))) ?_
  intro h' tk' k' vs' as' Ol c' K' hne Ar Oi X'
  exact post h' tk' k' vs' as' Ol c' (((K1.mono (by simp)).trans (K2.mono (by simp))).trans K') (fun _=>hne (.inr ⟨v,rfl⟩)) Ar Oi X'
end
section
variable (w:World) (n tk loc P n2 tk2:Nat) (k k2:Nat→Nat) (c:Nat) (v0 v1 v2 v3 v4 v6 v7 v8 v:Value) (vs:Array Value) (sl:Array (Option Value))
theorem rwA:fU (wI w [] 8 (loc+845) [(loc+845,cX w.params k [v0,v1,v2,v3,v4,.ref (P+845),v6,v7,v8] sl),(P+845,aj vs c)] (n+845) tk [1,2,2,0,2,0,1,1]) 0 (.compStart (jd Dl) 0 (.ref (n+845)) (.ref (n+845+1)) (vQ Dl (n+845+1+1) (loc+845))) ∧
  (wI w [] 8 (loc+845) [(loc+845,cX w.params k [v0,v1,v2,v3,v4,.ref (P+845),v6,v7,v8] sl),(P+845,aj vs c)] (n+845) tk [1,2,2,0,2,0,1,1]).L=[(n+845+1+1,dh w.params ["piece"] (fun _=>0) []),(n+845+1,aj #[] 0),(n+845,jN (P+845) 0),(loc+845,cX w.params k [v0,v1,v2,v3,v4,.ref (P+845),v6,v7,v8] sl),(P+845,aj vs c)]:=⟨by symm,by symm⟩
theorem rwB (q:Rs) (e:wI w [] 8 (loc+845) [(loc+845,cX w.params k [v0,v1,v2,v3,v4,.ref (P+845),v6,v7,v8] sl),(P+845,aj vs c)] (n+845) tk [1,2,2,0,2,0,1,1]=q) (q2:Rs)
  (e2:aB w [] q (.ok .next) [(n+845+1+1,dh w.params ["piece"] k2 [v]),(loc+845,cX w.params k [v0,v1,v2,v3,v4,.ref (P+845),v6,v7,v8] sl)] (n2+845) tk2 [2,2,1,1,1]=q2) :
  cU q2 (.done .next)∧q2.L.drop 1=[(loc+845,cX w.params (kOf q2.L 1) [v0,v1,v2,v3,v4,.ref (P+845),v6,v7,v8,.ref (n+845+1)] sl)]:=by refine sb e2 (sb e ?_);exact ⟨by symm,by symm⟩
end
section
variable {E:Value→Shared→Prop} {Q:Flow→Shared→Prop}
theorem lw8 {loc P c:Nat} {k:Nat→Nat} {sl:Array (Option Value)} {v0 v1 v2 v3 v4 v6 v7 v8:Value} {ps:List (List Nat)} {vs:List Value} (hA:A.handled=none) (hD:A.depth+2<recursionLimit) (kk:au w h) (lp:845≤P) (gp:h.get? P=some (aj vs.toArray c)) (hw:words ps vs) (h1:ps≠[]) (hps:ps.length≤900) (hpl:∀ p∈ps,JW p)
  (gl:h.get? (loc+845)=some (cX w.params k [v0,v1,v2,v3,v4,.ref P,v6,v7,v8] sl))
  (post:∀ h' tk' k' rows c' as bF,Keeps [loc+845] h h'→h'.get? (loc+845)=some (cX w.params k' [v0,v1,v2,v3,v4,.ref P,v6,v7,v8,.ref rows] sl)→h.objs.size≤rows→h'.get? rows=some (aj (as.map Value.ref).toArray c')→bw h' h.objs.size as (ps.map rowOf) bF→Q .next ⟨h',g,d,tk',os⟩) :
  wpAny (model pw w) A (exec (dU 8) (aU (loc+845))) Q E ⟨h,g,d,tk,os⟩:=by
 obtain ⟨P',rfl⟩:=cH lp
 refine fX (bG ?_)
 have nlp:loc+845≠P'+845:=ne_of_cls gl gp (show Value.type "frame" ≠ .type "list" by decide)
 have own:∀ q∈([(loc+845,cX w.params k [v0,v1,v2,v3,v4,.ref (P'+845),v6,v7,v8] sl),(P'+845,aj vs.toArray c)]:Led),h.get? q.1=some q.2:=by simp [gl,gp]
 obtain ⟨n0,R0⟩:=(Rep.start kk own (lG nlp) (by simp)).up
 have dW:h.objs.size=n0+845:=R0.size
 obtain ⟨cA,cL⟩:=rwA w n0 tk loc P' k c v0 v1 v2 v3 v4 v6 v7 v8 vs.toArray sl
 revert cA cL;refine gen (wI w [] 8 (loc+845) [(loc+845,cX w.params k [v0,v1,v2,v3,v4,.ref (P'+845),v6,v7,v8] sl),(P'+845,aj vs.toArray c)] (n0+845) tk [1,2,2,0,2,0,1,1]) fun q1 e1=>?_;intro cA cL
 refine bA q1 .nil hA R0 (n:=0) cA ?_ e1.symm
 intro A1 h1' bT hD1 R1
 have cN:=R1.cast cL
 have K1:Keeps [] h h1':=(cN.done 3 (mod:=[]) rfl rfl own (fun p hp=>.inr hp)).1
 have gi:=cN.at (a:=n0+845) 2 rfl
 refine dF (fun E'=>lY gi ⟨rfl,rfl⟩) ?_
 have TY:loc+845<n0+845:=by rw [← dW];exact Heap.lt_size gl
 have lt5:P'+845<n0+845:=by rw [← dW];exact Heap.lt_size gp
 refine JZ (ps:=ps) (items:=vs) (B:=n0+845) bT (by rw [hD1];exact hD) (by lia) (by lia) (by lia) (by intro x;have x':@Eq Nat _ _:=x;lia) hps hpl ps (i:=0) (vs:=[]) (as:=[]) (bF:=[]) rfl rfl hw (.inl rfl) R1.old (cN.at (a:=n0+845+1+1) 0 rfl) gi (cN.at (a:=P'+845) 4 rfl) (cN.at (a:=n0+845+1) 1 rfl) ⟨trivial,by simp,by simp,(⟨aX,aX⟩)⟩ (dW ▸ K1.size) not_mem_nil ?_
 intro h2 tk2 k2 vs2 as bF c2 K2 hne iI zY X2
 obtain ⟨v,rfl⟩:=hne (.inl h1)
 have low:∀ x∈[n0+845+1+1,n0+845+1,n0+845],h.objs.size≤x:=by
  simp only [mem_cons,not_mem_nil,or_false,forall_eq_or_imp,forall_eq]
  lia
 have jr:Keeps [] h h2:=K1.late K2 low
 have bW:∀ q∈([(n0+845+1+1,dh w.params ["piece"] k2 [v]),(loc+845,cX w.params k [v0,v1,v2,v3,v4,.ref (P'+845),v6,v7,v8] sl)]:Led),h2.get? q.1=some q.2:=by simp [iI,jr.get _ _ gl]
 have ncl:n0+845+1+1≠loc+845:=by lia
 obtain ⟨n2,R2⟩:=(Rep.start (jr.kok kk aX) bW (lG ncl) (by simp)).up
 obtain ⟨cB,Dm⟩:=rwB w n0 tk loc P' n2 tk2 k k2 c v0 v1 v2 v3 v4 v6 v7 v8 v vs.toArray sl q1 e1 _ rfl
 revert cB Dm;refine gen (aB w [] q1 (.ok .next) [(n0+845+1+1,dh w.params ["piece"] k2 [v]),(loc+845,cX w.params k [v0,v1,v2,v3,v4,.ref (P'+845),v6,v7,v8] sl)] (n2+845) tk2 [2,2,1,1,1]) fun q2 e2=>?_;intro cB Dm
 refine aO q2 .nil hA R2 (v:=.done .next) cB ?_ e2.symm
 intro h3 R3
 have K3:Keeps [n0+845+1+1,loc+845] h2 h3:=R3.keeps (G':=[]) (mod:=[n0+845+1+1,loc+845]) rfl bW aX (by simp)
 have g3:=R3.own _ (List.mem_of_mem_drop (i:=1) (by rw [Dm];exact mem_cons_self ..))
 have qw:Keeps [loc+845] h h3:=jr.to K3 aX (by
  simp only [mem_cons,not_mem_nil,or_false,forall_eq_or_imp,forall_eq]
  exact ⟨.inr (by lia),.inl (by trivial)⟩)
 have dX:=jr.get _ _ gl not_mem_nil
 refine post h3 _ _ (n0+845+1) c2 as bF qw g3 (by lia) (K3.get _ _ zY (by
  simp only [mem_cons,not_mem_nil,or_false]
  intro x
  rcases x with x | x <;> (have x':@Eq Nat _ _:=x;lia))) ?_
 rw [dW]
 refine X2.keeps K3 (aA.two iI (show Value.type "dict" ≠ .type "tuple" by decide) dX (show Value.type "frame" ≠ .type "tuple" by decide)) (fun b hb hc=>?_)
 rcases List.mem_cons.mp hc with rfl | hc
 ·exact X2.apart iI (show Value.type "dict" ≠ .type "list" by decide) _ hb mem_cons_self
 ·exact X2.apart dX (show Value.type "frame" ≠ .type "list" by decide) _ hb hc
end
noncomputable def Dn:Expr:=asV (dU 9)
noncomputable def wM (cl loc it acc:Nat):Code:=.compLoop (jd Dn) 0 (.ref it) (.ref acc) (vQ Dn cl loc)
noncomputable def fL:aZ:=(List.range 6).map fun i=>(i,[])
def Ub (w:World) (i t n tk cl loc it acc:Nat) (k:Nat→Nat) (vs:List Value):Rs:=bL w [] (jl (jo Dn) (rG Dn) (.ref it) (.ref acc) (.int (Int.ofNat i) t) (vQ Dn cl loc) (jd Dn)) [(cl,dh w.params ["state"] k vs)] n tk [1,1,1,1]
section
variable (w:World) (i n tk cl loc it acc t n1 tk1 n2 tk2:Nat) (k:Nat→Nat) (vs:List Value)
theorem sqA (hr:ju vs):fU (Ub w i t (n+845) tk (cl+845) loc it acc k vs) 0 (.call (.builtin "list.append") ⟨[.ref acc,.ref (n+845)],[]⟩)∧(Ub w i t (n+845) tk (cl+845) loc it acc k vs).L=[(n+845,cu i t [] (tk+1)),(cl+845,dh w.params ["state"] (kOf (Ub w i t (n+845) tk (cl+845) loc it acc k vs).L 1) [.int (Int.ofNat i) t])]:=by rcases hr with rfl | ⟨v,rfl⟩ <;> exact ⟨by symm,by symm⟩
theorem sqB (hr:ju vs) (q:Rs) (e:Ub w i t (n+845) tk (cl+845) loc it acc k vs=q):cU (aB w [] q (.ok (.ret .none)) [] (n2+845) tk2 []) (.again (wM (cl+845) loc it acc))∧(aB w [] q (.ok (.ret .none)) [] (n2+845) tk2 []).L=[]:=by refine sb e ?_;refine se hr ?_ (fun _=>?_) <;> exact ⟨by symm,by symm⟩
end
section
variable {E:Value→Shared→Prop} {Q:Flow→Shared→Prop}
theorem J0 {cl loc it acc t i cc:Nat} {k:Nat→Nat} {vs d9:List Value} (hr:ju vs) (hA:A.handled=none) (kk:au w h) (lc:845≤cl) (la:845≤acc) (je:h.get? cl=some (dh w.params ["state"] k vs)) (ga:h.get? acc=some (aj d9.toArray cc)) (hz:d9.length≤1000)
  (post:∀ h' tk' k' v T u c',Keeps [cl,acc] h h'→h'.get? cl=some (dh w.params ["state"] k' [v])→h'.get? acc=some (aj (d9++[Value.ref T]).toArray c')→h'.get? T=some (cu i t [] u)→h.objs.size≤T→codeAny (model pw w) A (wM cl loc it acc) R ⟨h',g,d,tk',os⟩) :
  wpAny (model pw w) A (jl (jo Dn) (rG Dn) (.ref it) (.ref acc) (.int (Int.ofNat i) t) (vQ Dn cl loc) (jd Dn)) (FQ w A R) (NE w A (vQ Dn cl loc) R) ⟨h,g,d,tk,os⟩:=by
 obtain ⟨iw,rfl⟩:=cH lc
 have own:∀ q∈([(iw+845,dh w.params ["state"] k vs)]:Led),h.get? q.1=some q.2:=bK je
 obtain ⟨n0,R0⟩:=(Rep.start kk own fV (by simp)).up
 have dW:h.objs.size=n0+845:=R0.size
 obtain ⟨cA,cL⟩:=sqA w i n0 tk iw loc it acc t k vs hr
 revert cA cL;refine gen (Ub w i t (n0+845) tk (iw+845) loc it acc k vs) fun q1 e1=>?_;intro cA cL
 refine bA q1 .nil hA R0 (n:=0) cA ?_ e1.symm
 intro A1 h1 bT hD1 R1
 obtain ⟨K1,g1⟩:=R1.loc1 1 (o':=dh w.params ["state"] (kOf q1.L 1) [.int (Int.ofNat i) t]) (by rw [cL];rfl) je
 have gT:=R1.at (a:=n0+845) (o:=cu i t [] (tk+1)) 0 (by rw [cL];rfl)
 have DY:acc≠iw+845:=ne_of_cls ga je (by show Value.type "list" ≠ .type "dict";decide)
 have vD:=K1.get _ _ ga (cZ DY)
 refine bO vD (by simpa using (by lia:d9.length≤10000)) ?_
 intro h2 K2 CN
 obtain ⟨n2,R2⟩:=(Rep.nil (w:=w) (K2.kok R1.old (bK la))).up
 obtain ⟨cB,Dm⟩:=sqB w i n0 tk iw loc it acc t n2 q1.tk k vs hr q1 e1
 refine aO _ .nil hA R2 (v:=.again (wM (iw+845) loc it acc)) cB ?_ rfl
 intro h3 R3
 have K3:=(R3.cast Dm).fresh.1
 have nT:n0+845≠acc:=by
  intro x
  have:=Heap.lt_size ga
  rw [← x,dW] at this
  exact absurd this (Nat.lt_irrefl _)
 refine ⟨rfl,post h3 _ _ _ (n0+845) _ _ (((K1.mono (by simp)).trans (K2.mono (by simp))).trans (K3.mono aX)) (K3.get _ _ (K2.get _ _ g1 (cZ (Ne.symm DY))) not_mem_nil) (K3.get _ _ (by simpa using CN) not_mem_nil) (K3.get _ _ (K2.get _ _ gT (cZ nT)) not_mem_nil) (by rw [dW];exact Nat.le_refl _)⟩
theorem J1 {cl loc it acc B:Nat} (hA:A.handled=none) (lc:845≤cl) (la:845≤acc) (li:845≤it) :
  ∀ (m b:Nat) {cc:Nat} {k:Nat→Nat} {vs:List Value} {Ts:List Nat} {h:Heap} {tk:Nat},b+m=6→ju vs→au w h→h.get? cl=some (dh w.params ["state"] k vs)→h.get? it=some (wW (Int.ofNat b) (Int.ofNat m))→h.get? acc=some (aj (Ts.map Value.ref).toArray cc)→aM h Ts ((List.range b).map fun i=>(i,[]))→B≤h.objs.size→(∀ T∈Ts,B≤T)→Ts.Nodup →
   (∀ h' tk' k' vs' wZ c',Keeps [cl,acc,it] h h'→((0<m∨∃ v,vs=[v])→∃ v,vs'=[v])→h'.get? cl=some (dh w.params ["state"] k' vs')→h'.get? acc=some (aj (wZ.map Value.ref).toArray c')→aM h' wZ fL→(∀ T∈wZ,B≤T)→wZ.Nodup→R (.ok .next) ⟨h',g,d,tk',os⟩) →
   codeAny (model pw w) A (wM cl loc it acc) R ⟨h,g,d,tk,os⟩:=by
 intro m
 induction m with
 | zero=>
  intro b cc k vs Ts h tk hb hr kk je gi ga X hB lo nd post
  obtain rfl:b=6:=hb
  have n1:cl≠it:=ne_of_cls je gi (by show Value.type "dict" ≠ .type "range_iterator";decide)
  have n2:acc≠it:=ne_of_cls ga gi (by show Value.type "list" ≠ .type "range_iterator";decide)
  refine dH (kE hA gi (by decide) fun h1 K1=>?_)
  exact post h1 tk k vs Ts cc (K1.mono (by simp)) (fun x=>x.elim (fun y=>absurd y (Nat.lt_irrefl _)) id) (K1.get _ _ je (cZ n1)) (K1.get _ _ ga (cZ n2)) (X.keeps K1 (aA.one gi (show Value.type "range_iterator" ≠ .type "tuple" by decide))) lo nd
 | succ m ih=>
  intro b cc k vs Ts h tk hb hr kk je gi ga X hB lo nd post
  have n1:cl≠it:=ne_of_cls je gi (by show Value.type "dict" ≠ .type "range_iterator";decide)
  have n2:acc≠it:=ne_of_cls ga gi (by show Value.type "list" ≠ .type "range_iterator";decide)
  have hl:=X.len
  rw [List.length_map,List.length_range] at hl
  refine dH (iG gi (by simp only [Int.ofNat_eq_natCast];lia) fun h1 K1 jK=>?_)
  have jA:=K1.get _ _ je (cZ n1)
  have vD:=K1.get _ _ ga (cZ n2)
  have X1:=X.keeps K1 (aA.one gi (show Value.type "range_iterator" ≠ .type "tuple" by decide))
  refine J0 hr hA (K1.kok kk (bK li)) lc la jA vD (by simp [hl];lia) ?_
  intro h2 tk2 k2 v T u c2 K2 iI CN gT lT
  have X2:=X1.keeps K2 (aA.two jA (show Value.type "dict" ≠ .type "tuple" by decide) vD (show Value.type "list" ≠ .type "tuple" by decide))
  have X3:=aM.snoc (p:=(b,[])) ⟨_,u,gT⟩ X2
  have e1:Int.ofNat b+1=Int.ofNat (b+1):=rfl
  have e2:Int.ofNat (m+1) - 1=Int.ofNat m:=by simp only [Int.ofNat_eq_natCast];lia
  rw [e1,e2] at jK
  refine ih (b+1) (Ts:=Ts++[T]) (by lia) (.inr ⟨v,rfl⟩) (K2.kok (K1.kok kk (bK li)) (by simp [lc,la])) iI (K2.get _ _ jK (by simp [Ne.symm n1,Ne.symm n2])) (by simpa using CN) (by rw [List.range_succ,List.map_append];exact X3) (Nat.le_trans hB (Nat.le_trans K1.size K2.size)) (fun T' hT'=>?_) ?_ ?_
  ·rcases List.mem_append.mp hT' with x | x
   ·exact lo T' x
   ·rw [mem_singleton] at x
    rw [x]
    exact Nat.le_trans hB (Nat.le_trans K1.size lT)
  ·rw [List.nodup_append]
   refine ⟨nd,Kv,fun x hx y hy=>?_⟩
   rw [mem_singleton] at hy
   rw [hy]
   obtain ⟨_,_,_,ex⟩:=X1.get x hx
   exact Nat.ne_of_lt (Nat.lt_of_lt_of_le (Heap.lt_size ex) lT)
  ·intro h' tk' k' vs' wZ c' K' hne Ar Oi X' lo' nd'
   exact post h' tk' k' vs' wZ c' (((K1.mono (by simp)).trans (K2.mono (by simp))).trans K') (fun _=>hne (.inr ⟨v,rfl⟩)) Ar Oi X' lo' nd'
end
section
variable (w:World) (n tk loc n2 tk2:Nat) (k k2:Nat→Nat) (v0 v1 v2 v3 v4 v5 v6 v7 v8 v9 v:Value) (sl:Array (Option Value))
def Uc (w:World) (n tk loc:Nat) (k:Nat→Nat) (vs:List Value) (sl:Array (Option Value)):Rs:=wI w [] 9 loc [(loc,cX w.params k vs sl)] n tk (og 0x11111101011101011000000)
theorem saA:fU (Uc w (n+845) tk (loc+845) k [v0,v1,v2,v3,v4,v5,v6,v7,v8,v9] sl) 0 (.compStart (jd Dn) 0 (.ref (n+845+1)) (.ref (n+845+1+1)) (vQ Dn (n+845+1+1+1) (loc+845))) ∧
  ((Uc w (n+845) tk (loc+845) k [v0,v1,v2,v3,v4,v5,v6,v7,v8,v9] sl).L.take 3=[(n+845+1+1+1,dh w.params ["state"] (fun _=>0) []),(n+845+1+1,aj #[] 0),(n+845+1,wW 0 6)]) ∧
  ((Uc w (n+845) tk (loc+845) k [v0,v1,v2,v3,v4,v5,v6,v7,v8,v9] sl).L.drop 4=[(loc+845,cX w.params k [v0,v1,v2,v3,v4,v5,v6,v7,v8,v9] sl)]):=⟨by symm,by symm,by symm⟩
theorem saB (q:Rs) (e:Uc w (n+845) tk (loc+845) k [v0,v1,v2,v3,v4,v5,v6,v7,v8,v9] sl=q) (q2:Rs)
  (e2:aB w [] q (.ok .next) [(n+845+1+1+1,dh w.params ["state"] k2 [v]),(loc+845,cX w.params k [v0,v1,v2,v3,v4,v5,v6,v7,v8,v9] sl)] (n2+845) tk2 [2,2,1,1,1]=q2) :
  cU q2 (.done .next)∧q2.L.drop 1=[(loc+845,cX w.params (kOf q2.L 1) [v0,v1,v2,v3,v4,v5,v6,v7,v8,v9,.ref (n+845+1+1)] sl)]:=by refine sb e2 (sb e ?_);exact ⟨by symm,by symm⟩
end
section
variable {E:Value→Shared→Prop} {Q:Flow→Shared→Prop}
theorem Av {it:Nat} {x left:Int} {E:Value→Shared→Prop} {Q:Value→Shared→Prop} (hit:h.get? it=some (wW x left)) (hQ:Q (.ref it) ⟨h,g,d,tk,os⟩):wpAny (model pw w) A (pyIter (.ref it)) Q E ⟨h,g,d,tk,os⟩:=by
 have hit':IsRangeIter (Shared.mk h g d tk os).heap it x left 1:=hit
 exact wpAny_pyIter_rangeiter hit' hQ
theorem lw9 {loc:Nat} {k:Nat→Nat} {sl:Array (Option Value)} {v0 v1 v2 v3 v4 v5 v6 v7 v8 v9:Value} (hA:A.handled=none) (kk:au w h)
  (gl:h.get? (loc+845)=some (cX w.params k [v0,v1,v2,v3,v4,v5,v6,v7,v8,v9] sl))
  (post:∀ h' tk' k' a Ts,Keeps [loc+845] h h'→h'.get? (loc+845)=some (cX w.params k' [v0,v1,v2,v3,v4,v5,v6,v7,v8,v9,.ref a] sl)→aJ h' a fL Ts→(∀ x∈a::Ts,h.objs.size≤x)→Q .next ⟨h',g,d,tk',os⟩) :
  wpAny (model pw w) A (exec (dU 9) (aU (loc+845))) Q E ⟨h,g,d,tk,os⟩:=by
 refine fX (bG ?_)
 have own:∀ q∈([(loc+845,cX w.params k [v0,v1,v2,v3,v4,v5,v6,v7,v8,v9] sl)]:Led),h.get? q.1=some q.2:=bK gl
 obtain ⟨n0,R0⟩:=(Rep.start kk own fV (by simp)).up
 have dW:h.objs.size=n0+845:=R0.size
 obtain ⟨cA,cT,cD⟩:=saA w n0 tk loc k v0 v1 v2 v3 v4 v5 v6 v7 v8 v9 sl
 revert cA cT cD;refine gen (Uc w (n0+845) tk (loc+845) k [v0,v1,v2,v3,v4,v5,v6,v7,v8,v9] sl) fun q1 e1=>?_;intro cA cT cD
 refine bA q1 .nil hA R0 (n:=0) cA ?_ e1.symm
 intro A1 h1 bT hD1 R1
 have own1:∀ q∈[(n0+845+1+1+1,dh w.params ["state"] (fun _=>0) []),(n0+845+1+1,aj #[] 0),(n0+845+1,wW 0 6)],h1.get? q.1=some q.2:=fun q hq=>R1.own q (List.mem_of_mem_take (i:=3) (by rw [cT];exact hq))
 have K1:Keeps [] h h1:=(R1.done 4 (mod:=[]) cD rfl own (fun p hp=>.inr hp)).1
 have gi:=own1 _ (mem_cons_of_mem _ (mem_cons_of_mem _ (mem_cons_self ..)))
 refine dF (fun E'=>Av gi ⟨rfl,rfl⟩) ?_
 have TY:loc+845<n0+845:=by rw [← dW];exact Heap.lt_size gl
 refine J1 (B:=n0+845) bT (by lia) (by lia) (by lia) 6 0 (vs:=[]) (Ts:=[]) rfl (.inl rfl) R1.old (own1 _ (mem_cons_self ..)) gi (own1 _ (mem_cons_of_mem _ (mem_cons_self ..))) trivial (dW ▸ K1.size) aX (by simp) ?_
 intro h2 tk2 k2 vs2 Ts c2 K2 hne iI zY X2 lo2 IW
 obtain ⟨v,rfl⟩:=hne (.inl (by decide))
 have low:∀ x∈[n0+845+1+1+1,n0+845+1+1,n0+845+1],h.objs.size≤x:=by
  simp only [mem_cons,not_mem_nil,or_false,forall_eq_or_imp,forall_eq]
  lia
 have jr:Keeps [] h h2:=K1.late K2 low
 have dX:=jr.get _ _ gl not_mem_nil
 have bW:∀ q∈([(n0+845+1+1+1,dh w.params ["state"] k2 [v]),(loc+845,cX w.params k [v0,v1,v2,v3,v4,v5,v6,v7,v8,v9] sl)]:Led),h2.get? q.1=some q.2:=by simp [iI,dX]
 have ncl:n0+845+1+1+1≠loc+845:=by lia
 obtain ⟨n2,R2⟩:=(Rep.start (jr.kok kk aX) bW (lG ncl) (by simp)).up
 obtain ⟨cB,Dm⟩:=saB w n0 tk loc n2 tk2 k k2 v0 v1 v2 v3 v4 v5 v6 v7 v8 v9 v sl q1 e1 _ rfl
 revert cB Dm;refine gen (aB w [] q1 (.ok .next) [(n0+845+1+1+1,dh w.params ["state"] k2 [v]),(loc+845,cX w.params k [v0,v1,v2,v3,v4,v5,v6,v7,v8,v9] sl)] (n2+845) tk2 [2,2,1,1,1]) fun q2 e2=>?_;intro cB Dm
 refine aO q2 .nil hA R2 (v:=.done .next) cB ?_ e2.symm
 intro h3 R3
 have K3:Keeps [n0+845+1+1+1,loc+845] h2 h3:=R3.keeps (G':=[]) (mod:=[n0+845+1+1+1,loc+845]) rfl bW aX (by simp)
 have g3:=R3.own _ (List.mem_of_mem_drop (i:=1) (by rw [Dm];exact mem_cons_self ..))
 have qw:Keeps [loc+845] h h3:=jr.to K3 aX (by
  simp only [mem_cons,not_mem_nil,or_false,forall_eq_or_imp,forall_eq]
  exact ⟨.inr (by lia),.inl (by trivial)⟩)
 refine post h3 _ _ (n0+845+1+1) Ts qw g3 ⟨⟨c2,K3.get _ _ zY (by
  simp only [mem_cons,not_mem_nil,or_false]
  intro x
  rcases x with x | x <;> (have x':@Eq Nat _ _:=x;lia))⟩,X2.keeps K3 (aA.two iI (show Value.type "dict" ≠ .type "tuple" by decide) dX (show Value.type "frame" ≠ .type "tuple" by decide)),?_,IW⟩ ?_
 ·intro x hx
  rcases List.mem_cons.mp hx with rfl | hx
  ·lia
  ·exact Nat.le_trans (by lia) (lo2 x hx)
 ·intro x hx
  rw [dW]
  rcases List.mem_cons.mp hx with rfl | hx
  ·lia
  ·exact lo2 x hx
end
section
open PySem.SeqAt (RcNeAt RcAt EqAt)
section
variable {E:Value→Shared→Prop} {Q:Fin→Shared→Prop} {H:List Hk} {G:Led}
structure Own (w:World) (h:Heap) (G:Led):Prop where
 kk:au w h
 own:∀ p∈G,h.get? p.1=some p.2
 nd:(G.map Prod.fst).Nodup
 lo:∀ p∈G,845≤p.1
theorem Own.one {a:Nat} {o:Obj} (kk:au w h) (e:h.get? a=some o) (l:845≤a):Own w h [(a,o)]:=⟨kk,fun p hp=>by rw [mem_singleton] at hp;rw [hp];exact e,fV,fun p hp=>by rw [mem_singleton] at hp;rw [hp];exact l⟩
theorem Own.two {a b:Nat} {o p:Obj} (kk:au w h) (e:h.get? a=some o) (l:845≤a) (e':h.get? b=some p) (l':845≤b) (ne:a≠b):Own w h [(a,o),(b,p)]:=by
 refine ⟨kk,fun q hq=>?_,(lG ne),fun q hq=>?_⟩
 all_goals
  rcases List.mem_cons.mp hq with rfl | hq
  ·first | exact e | exact l
  ·rw [mem_singleton] at hq
   rw [hq]
   first | exact e' | exact l'
theorem Own.cons {a:Nat} {o:Obj} (X:Own w h G) (e:h.get? a=some o) (l:845≤a) (ne:a∉G.map Prod.fst):Own w h ((a,o)::G):=by
 refine ⟨X.kk,fun q hq=>?_,by rw [map_cons,nodup_cons];exact ⟨ne,X.nd⟩,fun q hq=>?_⟩
 all_goals
  rcases List.mem_cons.mp hq with rfl | hq
  ·first | exact e | exact l
  ·first | exact X.own q hq | exact X.lo q hq
theorem Own.nil (kk:au w h):Own w h []:=⟨kk,aX,by simp,aX⟩
theorem Own.next {h':Heap} (X:Own w h G) (K:Keeps [] h h'):Own w h' G:=⟨K.kok X.kk aX,fun p hp=>K.get _ _ (X.own p hp) not_mem_nil,X.nd,X.lo⟩
noncomputable abbrev bZ (q:Rs) (c:Code) (L:Led):Prop:=zL q 0 c [] 0∧q.L=L
structure Ran (w:World) (A A':Around) (h h':Heap) (n:Nat) (news:Led):Prop where
 sz:h.objs.size=n
 hA:A'.handled=none
 hD:A'.depth=A.depth
 hF:∀ l,A.frames=some l→A'.frames=some l
 hU:A'.units=A.units
 K:Keeps [] h h'
 kk:au w h'
 own:∀ p∈news,h'.get? p.1=some p.2
theorem vR {q:Rs} {n:Nat} {A':Around} {h':Heap} {news:Led} {l0:Led} (X:Own w h G) (R':Rep (K w) h (G.map Prod.fst) q.L q.nx h') (eL:q.L=news++G):Keeps [] h h'∧au w h'∧∀ p∈news,h'.get? p.1=some p.2:=
 ⟨R'.keeps (G':=G) (mod:=[]) rfl X.own (fun p hp=>by rw [eL];exact List.mem_append_right _ hp) (fun p hp=>.inr hp),R'.old,fun p hp=>R'.own p (by rw [eL];exact List.mem_append_left _ hp)⟩
theorem eN {t:Sem Fin} (aC:List Nat) (news:Nat→Led) (c:Nat→Code) (X:Own w h G) (HH:aF w H) (hA:A.handled=none)
  (mX:∀ n,bZ (bL w H t G (n+845) tk aC) (c (n+845)) (news (n+845)++G))
  (k:∀ n q A' h',Ran w A A' h h' (n+845) (news (n+845))→bL w H t G (n+845) tk aC=q→codeAny (model pw w) A' (c (n+845)) (fun r' s'=>Mn (xg w g d os A Q E) (aL q) (aR q r') s') ⟨h',g,d,q.tk,os⟩) :
  wpAny (model pw w) A t Q E ⟨h,g,d,tk,os⟩:=by
 obtain ⟨n,R0⟩:=(Rep.start X.kk X.own X.nd X.lo).up
 obtain ⟨c1,c2⟩:=mX n
 have sz:h.objs.size=n+845:=R0.size
 revert c1 c2;refine gen (bL w H t G (n+845) tk aC) fun q e=>?_;intro c1 c2
 refine bQ q HH hA R0 (n:=0) (fr:=[]) (u:=0) c1 (fun A' h' hA' hD' hF' hU' R'=>?_) e.symm
 obtain ⟨K1,k1,o1⟩:=vR (n:=n) (A':=A') (l0:=G) X R' c2
 exact k n q A' h' ⟨sz,hA',hD',fun l x=>hF' l x,hU',K1,k1,o1⟩ e
theorem cY {r:Rs} {x:Result} (aC:List Nat) (news:Nat→Led) (c:Nat→Code) (X:Own w h G) (HH:aF w H) (hA:A.handled=none)
  (mX:∀ n,bZ (aB w H r x G (n+845) tk aC) (c (n+845)) (news (n+845)++G))
  (k:∀ n q A' h',Ran w A A' h h' (n+845) (news (n+845))→aB w H r x G (n+845) tk aC=q→codeAny (model pw w) A' (c (n+845)) (fun r' s'=>Mn (xg w g d os A Q E) (aL q) (aR q r') s') ⟨h',g,d,q.tk,os⟩) :
  Mn (xg w g d os A Q E) (aL r) (aR r x) ⟨h,g,d,tk,os⟩:=by
 obtain ⟨n,R0⟩:=(Rep.start X.kk X.own X.nd X.lo).up
 obtain ⟨c1,c2⟩:=mX n
 have sz:h.objs.size=n+845:=R0.size
 revert c1 c2;refine gen (aB w H r x G (n+845) tk aC) fun q e=>?_;intro c1 c2
 refine cJ q HH hA R0 (n:=0) (fr:=[]) (u:=0) c1 (fun A' h' hA' hD' hF' hU' R'=>?_) e.symm
 obtain ⟨K1,k1,o1⟩:=vR (n:=n) (A':=A') (l0:=G) X R' c2
 exact k n q A' h' ⟨sz,hA',hD',fun l x=>hF' l x,hU',K1,k1,o1⟩ e
theorem dG {r:Rs} {x:Result} {v:Fin} (aC:List Nat) (mod:List Addr) (G':Nat→Rs→Led) (X:Own w h G) (HH:aF w H) (hA:A.handled=none) (un:∀ n q,∀ p∈G,p.1∈mod∨p∈G' n q)
  (mX:∀ n,cU (aB w H r x G (n+845) tk aC) v∧(aB w H r x G (n+845) tk aC).L=G' (n+845) (aB w H r x G (n+845) tk aC))
  (k:∀ n q h',h.objs.size=n+845→Keeps mod h h'→au w h'→(∀ p∈G' (n+845) q,h'.get? p.1=some p.2)→Q v ⟨h',g,d,q.tk,os⟩) :
  Mn (xg w g d os A Q E) (aL r) (aR r x) ⟨h,g,d,tk,os⟩:=by
 obtain ⟨n,R0⟩:=(Rep.start X.kk X.own X.nd X.lo).up
 obtain ⟨c1,c2⟩:=mX n
 have sz:h.objs.size=n+845:=R0.size
 revert c1 c2;refine gen (aB w H r x G (n+845) tk aC) fun q e=>?_;intro c1 c2
 refine aO q HH hA R0 (v:=v) c1 (fun h' R'=>?_) e.symm
 refine k n q h' sz (R'.keeps (G':=G' (n+845) q) (mod:=mod) rfl X.own (fun p hp=>c2 ▸ hp) (un _ q)) R'.old (fun p hp=>R'.own p (c2 ▸ hp))
end
section
variable {E:Value→Shared→Prop}
theorem aM.nth {h:Heap}:∀ {Ts:List Nat} {ρ:aZ},aM h Ts ρ→∀ (j:Nat) (h1:j<Ts.length) (h2:j<ρ.length),∃ t u,h.get? Ts[j]=some (cu ρ[j].1 t ρ[j].2 u)
 | [],_,_,_,h1,_=>by cases h1
 | _::_,[],X,_,_,_=>X.elim
 | _::_,_::_,X,0,_,_=>X.1
 | _::_,_::_,X,j+1,h1,h2=>X.2.nth j (Nat.lt_of_succ_lt_succ h1) (Nat.lt_of_succ_lt_succ h2)
theorem J2 {T U p t u t' u':Nat} {x:List Nat} {s:Shared} (hu:A.units<cLine) (gT:s.heap.get? T=some (cu p t x u)) (gU:s.heap.get? U=some (cu p t' x u')):EqAt A s (.ref T) (.ref U) true:=by
 by_cases c:T=U
 ·subst c;exact EqAt.same _
 ·have:=RcAt.tuples (A:=A) (s:=s) (e:=fun _=>true) ⟨_,gT,rfl,_,rfl⟩ ⟨_,gU,rfl,_,rfl⟩ hu (fun j h1 h2=>by
   have hj:j=0∨j=1:=by simp at h1;lia
   rcases hj with rfl | rfl
   ·simpa using EqAt.int_int (A:=A.in1) (s:=s) (Int.ofNat p) t (Int.ofNat p) t'
   ·simpa using EqAt.str_str (A:=A.in1) (s:=s) (S x) u (S x) u')
  exact EqAt.of_refs c this
theorem wN {a b:Nat} {ρ:aZ} {Ts Us:List Nat} {s:Shared} (hu:A.units+1<cLine) (ra:aJ s.heap a ρ Ts) (rb:aJ s.heap b ρ Us):RcNeAt A s (.ref a) (.ref b) false:=by
 obtain ⟨c1,g1⟩:=ra.list
 obtain ⟨c2,g2⟩:=rb.list
 have l1:=ra.items.len
 have l2:=rb.items.len
 have:=RcNeAt.lists (A:=A) (s:=s) (e:=fun _=>true) ⟨_,g1,rfl,_,rfl⟩ ⟨_,g2,rfl,_,rfl⟩ (by simp [l1,l2]) (Nat.lt_of_succ_lt hu) (fun j h1 h2=>by
  simp only [List.size_toArray,List.length_map] at h1 h2
  obtain ⟨t,u,e1⟩:=ra.items.nth j h1 (l1 ▸ h1)
  obtain ⟨t',u',e2⟩:=rb.items.nth j h2 (l1 ▸ h1)
  simp only [List.getElem_toArray,List.getElem_map]
  exact J2 (A:=A.in1) hu e1 e2)
 have e:(!(List.range (Ts.map Value.ref).toArray.size).all fun _=>true)=false:=by simp [List.all_eq_true]
 rw [e] at this
 exact this
theorem Bq {vs:List Value} {m:Nat} (hm:m≤vs.length):slicePick vs.toArray none (some (Int.ofNat m)) none=(vs.take m).toArray:=by
 rw [kms_pick_eq]
 have e1:kms_lo none vs.length=0:=rfl
 have e2:kms_hi (some (Int.ofNat m)) vs.length=m:=by
  show (if Int.ofNat m<0 then vs.length - (-Int.ofNat m).toNat else min (Int.ofNat m).toNat vs.length)=m
  rw [if_neg (by simp only [Int.ofNat_eq_natCast];lia)]
  exact Nat.min_eq_left hm
 unfold kms_pick
 simp only [e1,e2,List.drop_zero,Nat.sub_zero]
theorem pick_from {vs:List Value} {m:Nat} (hm:m≤vs.length):slicePick vs.toArray (some (Int.ofNat m)) none none=(vs.drop m).toArray:=by
 rw [kms_pick_eq]
 have e1:kms_hi none vs.length=vs.length:=rfl
 have e2:kms_lo (some (Int.ofNat m)) vs.length=m:=by
  show (if Int.ofNat m<0 then vs.length - (-Int.ofNat m).toNat else min (Int.ofNat m).toNat vs.length)=m
  rw [if_neg (by simp only [Int.ofNat_eq_natCast];lia)]
  exact Nat.min_eq_left hm
 unfold kms_pick
 simp only [e1,e2]
 congr 1
 exact List.take_of_length_le (by simp)
theorem uX {l c:Nat} {vs:Array Value} (hl:h.get? l=some (aj vs c)) (hz:vs.size≤100000) (post:∀ t' tk',R (.ok (.ret (.int (Int.ofNat vs.size) t'))) ⟨h,g,d,tk',os⟩) :
  codeAny (model pw w) A (.call (.builtin "len") ⟨[.ref l],[]⟩) R ⟨h,g,d,tk,os⟩:=by
 have hT:Shared.TypeIs ⟨h,g,d,tk,os⟩ (.ref l) "list" := ⟨_,hl,rfl⟩
 refine iT kind_len plain_len entry_len (args_len1 _) ?_
 unfold Builtin.«len»
 refine wpAny_bind (m:=oneArg "len" _) (wpAny_pure ?_)
 refine wpAny_bind (m:=callSpecial? (.ref l) (Str.ofString "__len__")) (wpAny_callSpecial?_slot (name:=Str.ofString "__len__") hT slot_list_len
  (wpAny_call_entry slot_list_len hT entry_list_len ?_ (args_list_len _)))
 show wpAny _ _ (do retInt (← seqSize l)) _ _ _
 unfold seqSize
 refine wpAny_bind (wpAny_bind (wpAny_load hl ?_))
 refine wpAny_pure (wpAny_bind (wpAny_mkInt (wpAny_pure ⟨_,rfl,?_⟩)))
 refine wpAny_bind (wpAny_holding (wpAny_pure ?_))
 refine wpAny_bind (wpAny_letGo ?_)
 show wpAny _ _ (if ((vs.size:Nat):Int)<0 then _ else _) _ _ _
 rw [if_neg (by lia)]
 show wpAny _ _ (if ((vs.size:Nat):Int) ≥ 2 ^ 63 then _ else _) _ _ _
 rw [if_neg (by lia)]
 exact wpAny_bind (wpAny_mkInt (wpAny_pure ⟨_,rfl,post _ _⟩))
def Ly (a b:Int):Hk:=⟨false,fun c _=>(.call (.builtin "int.__sub__") ⟨[.int a (tokV (iK c 0)),.int b (tokV (iK c 1))],[]⟩,default),fun _ _ tk=>.int (a - b) tk,1⟩
theorem Hp {a b:Int}:gB pw w (K w) (Ly a b):=by
 intro g d os A R h tk c p hA e _ _ post
 obtain ⟨ec,_⟩:=Prod.mk.inj e
 rw [ec]
 exact dw F.slot_int_sub (typeIs_int _ _ _) F.entry_int_sub (F.args_int_sub_2 _ _) (AutoIntG9.int___sub___int_int_0 a _ b _) (dN post)
end
end
section
open PySem.SeqAt (RcNeAt RcAt EqAt)
structure LV where
 v:Nat→Value
 sc:Nat
 told:Nat
 rows:Nat
 st:Nat
 W:Nat
 hi:Int
 ht:Nat
 ln:List Nat
 lt:Nat
 hd:Nat
 si:Nat
 tt:Nat
noncomputable def LV.l (x:LV):List Value:=[.ref (x.sc+845),x.v 1,x.v 2,x.v 3,x.v 4,.ref (x.told+845),x.v 6,x.v 7,x.v 8,.ref (x.rows+845),.ref (x.st+845),.ref (x.W+845),.int x.hi x.ht,.str (S x.ln) x.lt,.ref (x.hd+845),.int (Int.ofNat x.si) x.tt]
def LV.o (x:LV) (P:Params) (k:Nat→Nat) (sl:Array (Option Value)) (m:Nat):Obj:=cX P k (x.l.take m) sl
theorem wO:comb 818=eH:=by funext a b;simp [comb]
theorem J3:comb 825=fun a b=>eH b a:=by funext a b;simp [comb]
section
variable (w:World) (x:LV) (k:Nat→Nat) (sl:Array (Option Value)) (ar:Array Value) (c loc n tk a t2:Nat) (y z:Int)
def l10:Rs:=wI w [] 10 (loc+845) [(loc+845,x.o w.params k sl 11),(x.rows+845,aj ar c)] n tk (og 0x1101020220010000)
theorem c10:bZ (l10 w x k sl ar c loc (n+845) tk) (.call (.ref 743) ⟨[.ref 818,.ref (n+845)],[]⟩) ([(n+845,jN (x.rows+845) 0)]++[(loc+845,x.o w.params k sl 11),(x.rows+845,aj ar c)]):=⟨⟨by symm,by symm⟩,by symm⟩
theorem d10 (W:Nat) (q:Rs) (e:l10 w x k sl ar c loc (n+845) tk=q) (n2 tk2:Nat):cU (aB w [] q (.ok (.ret (.ref (W+845)))) [(loc+845,x.o w.params k sl 11)] (n2+845) tk2 [1,1]) (.done .next)∧(aB w [] q (.ok (.ret (.ref (W+845)))) [(loc+845,x.o w.params k sl 11)] (n2+845) tk2 [1,1]).L=[(loc+845,({x with W:=W}:LV).o w.params (kOf (aB w [] q (.ok (.ret (.ref (W+845)))) [(loc+845,x.o w.params k sl 11)] (n2+845) tk2 [1,1]).L 0) sl 12)]:=by refine sb e ?_;exact ⟨by symm,by symm⟩
def l11:Rs:=wI w [] 11 (loc+845) [(loc+845,x.o w.params k sl 12)] n tk [0,0,1,1]
theorem c11:bZ (l11 w x k sl loc (n+845) tk) (.call (.builtin "sum") ⟨[.ref (x.sc+845)],[]⟩) ([]++[(loc+845,x.o w.params k sl 12)]):=⟨⟨by symm,by symm⟩,by symm⟩
def m11 (w:World) (x:LV) (k:Nat→Nat) (sl:Array (Option Value)) (loc:Nat) (q:Rs) (y:Int) (t n tk:Nat):Rs:=aB w [] q (.ok (.ret (.int y t))) [(loc+845,x.o w.params k sl 12)] n tk [0,0,1,1]
theorem d11 (q:Rs) (e:l11 w x k sl loc (n+845) tk=q) (t n2 tk2:Nat):bZ (m11 w x k sl loc q y t (n2+845) tk2) (.call (.builtin "len") ⟨[.ref (x.rows+845)],[]⟩) ([]++[(loc+845,x.o w.params k sl 12)]):=by refine sb e ?_;exact ⟨⟨by symm,by symm⟩,by symm⟩
def f11 (w:World) (x:LV) (k:Nat→Nat) (sl:Array (Option Value)) (loc:Nat) (q:Rs) (y z:Int) (t n tk:Nat):Rs:=aB w [Ly z 1,vM y (z - 1),vI 1 (y.fmod (z - 1))] q (.ok (.ret (.int z t))) [(loc+845,x.o w.params k sl 12)] n tk [2,3,4,1,1]
theorem e11 (q:Rs) (e:l11 w x k sl loc (n+845) tk=q) (t n2 tk2:Nat) (q2:Rs) (e2:m11 w x k sl loc q y t (n2+845) tk2=q2) (n3 tk3 t3:Nat):cU (f11 w x k sl loc q2 y z t3 (n3+845) tk3) (.done .next)∧(f11 w x k sl loc q2 y z t3 (n3+845) tk3).L=[(loc+845,({x with hi:=1+y.fmod (z - 1),ht:=dg (f11 w x k sl loc q2 y z t3 (n3+845) tk3).L 0 12}:LV).o w.params (kOf (f11 w x k sl loc q2 y z t3 (n3+845) tk3).L 0) sl 13)]:=by refine sb e2 (sb e ?_);exact ⟨by symm,by symm⟩
end
section
variable {w:World} {g:Array GenState} {d:Drawn} {os:OsState} {A:Around} {h:Heap} {tk loc:Nat} {k:Nat→Nat} {sl:Array (Option Value)} {x:LV} {E:Value→Shared→Prop} {Q:Flow→Shared→Prop}
theorem jw {a:Nat} {o:Obj} {m:Nat} (gl:h.get? (loc+845)=some (x.o w.params k sl m)) (e:h.get? a=some o) (ne:o.cls≠.type "frame"):a≠loc+845:=ne_of_cls e gl fun q=>ne q
theorem bw.head {B a0:Nat} {as:List Nat} {ρ0:aZ} {ρs:List aZ} {rI:List Nat} {bF:List (List Nat)} (X:bw h B (a0::as) (ρ0::ρs) (rI::bF)):aJ h a0 ρ0 rI∧bC h as ρs bF∧(∀ Ts∈bF,∀ x∈rI,x∉Ts)∧a0∉as:=
 ⟨X.rows.1,X.rows.2,(List.pairwise_cons.mp X.dj).1,(List.nodup_cons.mp X.nd).1⟩
theorem al9 {c B a0:Nat} {as:List Nat} {ρ0:aZ} {ρs:List aZ} {rI:List Nat} {bF:List (List Nat)} (hA:A.handled=none) (hD:A.depth+3<recursionLimit) (kk:au w h) (gl:h.get? (loc+845)=some (x.o w.params k sl 11))
  (gR:h.get? (x.rows+845)=some (aj ((a0::as).map Value.ref).toArray c)) (X:bw h B (a0::as) (ρ0::ρs) (rI::bF)) (hG:∀ ρ∈ρ0::ρs,GR 60 ρ) (hl:ρs.length≤50) (ne:as≠[])
  (post:∀ h' tk' k' W T,Keeps [loc+845] h h'→au w h'→h'.get? (loc+845)=some (({x with W:=W}:LV).o w.params k' sl 12)→aJ h' (W+845) (ρs.foldl eH ρ0) T→(∀ y∈(W+845)::T,h.objs.size≤y)→Q .next ⟨h',g,d,tk',os⟩) :
  wpAny (model pw w) A (exec (dU 10) (aU (loc+845))) Q E ⟨h,g,d,tk,os⟩:=by
 have nR:=jw gl gR (show Value.type "list" ≠ .type "frame" by decide)
 have O:=Own.two kk gl (Nat.le_add_left ..) gR (Nat.le_add_left ..) (Ne.symm nR)
 refine fX (bG (eN _ (fun n=>[(n,jN (x.rows+845) 0)]) (fun n=>.call (.ref 743) ⟨[.ref 818,.ref n],[]⟩) O .nil hA (fun n=>c10 w x k sl _ c loc n tk) fun n q A1 h1 Z e=>?_))
 obtain ⟨r0,rs,dj,na⟩:=X.head
 have gi:=Z.own _ (mem_cons_self ..)
 refine pG (.inl rfl) Z.hA (Z.hD ▸ hD) Z.kk (Nat.le_add_left ..) (Nat.le_add_left ..) gi (Z.K.get _ _ gR not_mem_nil) (r0.keeps Z.K (by simp [aA]) not_mem_nil) (rs.keeps Z.K (by simp [aA]) (by simp)) (fun ρ hρ=>hG ρ (mem_cons_of_mem _ hρ)) (hG _ (mem_cons_self ..)) (by lia) dj na ?_
 intro h2 tk2 v T K2 rv f0 f1
 obtain ⟨W,rfl⟩:=cH (rv.lo v (mem_cons_self ..))
 have jr:Keeps [] h h2:=Z.K.late K2 (by simp [Z.sz])
 have dX:=jr.get _ _ gl not_mem_nil
 have k2:au w h2:=jr.kok kk aX
 refine dG _ [loc+845] (fun n q=>[(loc+845,({x with W:=W}:LV).o w.params (kOf q.L 0) sl 12)]) (Own.one k2 dX (Nat.le_add_left ..)) .nil hA (by simp) (fun n2=>d10 w x k sl _ c loc n tk W q e n2 tk2) fun n3 q3 h3 Ni K3 k3 o3=>?_
 rw [wO] at rv
 exact post h3 _ _ W T (jr.to K3 aX (by simp)) k3 (o3 _ (mem_cons_self ..)) (rv.keeps K3 (aA.one dX (show Value.type "frame" ≠ .type "tuple" by decide)) (cZ (rv.notin dX (show Value.type "frame" ≠ .type "list" by decide)))) (fun y hy=>Nat.le_trans Z.K.size (f1 ne y hy))
theorem am0 {c c2:Nat} {ns:List Int} {items as:List Value} (hA:A.handled=none) (kk:au w h) (gl:h.get? (loc+845)=some (x.o w.params k sl 12))
  (gS:h.get? (x.sc+845)=some (aj items.toArray c)) (hi:dZ ns items) (gR:h.get? (x.rows+845)=some (aj as.toArray c2)) (h2:2≤as.length) (hz:as.length≤1000)
  (post:∀ h' tk' k' t,Keeps [loc+845] h h'→au w h'→h'.get? (loc+845)=some (({x with hi:=1+ns.sum.fmod (Int.ofNat as.length - 1),ht:=t}:LV).o w.params k' sl 13)→Q .next ⟨h',g,d,tk',os⟩) :
  wpAny (model pw w) A (exec (dU 11) (aU (loc+845))) Q E ⟨h,g,d,tk,os⟩:=by
 have O:=Own.one kk gl (Nat.le_add_left ..)
 refine fX (bG (eN _ (fun n=>[]) (fun n=>.call (.builtin "sum") ⟨[.ref (x.sc+845)],[]⟩) O .nil hA (fun n=>c11 w x k sl loc n tk) fun n q A1 h1 Z e=>?_))
 refine yN Z.hA (Z.K.get _ _ gS not_mem_nil) hi ?_
 intro h2' tk2 t K2
 have O2:=(O.next Z.K).next K2
 refine cY _ (fun n=>[]) (fun n=>.call (.builtin "len") ⟨[.ref (x.rows+845)],[]⟩) O2 .nil hA (fun n2=>d11 w x k sl loc n tk _ q e t n2 tk2) fun n3 q3 A3 h3 Z3 e3=>?_
 refine uX (Z3.K.get _ _ ((Z.K.trans K2).get _ _ gR not_mem_nil) not_mem_nil) (by simp;lia) ?_
 intro t4 tk4
 have O4:=O2.next Z3.K
 refine dG _ [loc+845] (fun n q=>[(loc+845,({x with hi:=1+ns.sum.fmod (Int.ofNat as.length - 1),ht:=dg q.L 0 12}:LV).o w.params (kOf q.L 0) sl 13)]) O4 (aF.cons Hp (aF.cons (j6 (by simp;lia)) (aF.cons tX aF.nil))) hA (by simp) (fun n4=>e11 w x k sl loc n tk ns.sum (Int.ofNat as.length) q e t n3 tk2 q3 e3 n4 tk4 t4) fun n5 q5 h5 DN K5 k5 o5=>?_
 exact post h5 _ _ _ (((Z.K.trans K2).trans Z3.K).to K5 aX (by simp)) k5 (o5 _ (mem_cons_self ..))
end
end
section
open PySem.SeqAt (RcNeAt RcAt EqAt)
noncomputable def am1 (e:Expr):Prop:=e=.Compare (Ho e) [.IsNot] [Dk e] (Kw e)∧behindInMarks .IsNot (Dk e)=false
theorem Aw (l:Addr):isSame (.ref l) (.ref l)=pure true:=if_pos (by simp)
theorem J4:Dj (dU 12)=[jg (dU 12) 0,jg (dU 12) 1]:=by symm
theorem J5:Dj (dU 14)=[jg (dU 14) 0,jg (dU 14) 1]:=by symm
section
variable (w:World) (x:LV) (k:Nat→Nat) (sl:Array (Option Value)) (ar:Array Value) (c loc n tk a t2:Nat) (y z:Int)
noncomputable def Lz (a b c:Value):Obj:=⟨.type "slice",none,.fields #[a,b,c],⟨[]⟩⟩
theorem am2 (m:Nat) (hm:m=13):cU (bL w [] (vJ (Ho (jg (dU 12) 0)) (aU (loc+845))) [(loc+845,x.o w.params k sl 13)] (n+845) tk [1]) (.done (.ret (.ref (x.W+845))))∧(bL w [] (vJ (Ho (jg (dU 12) 0)) (aU (loc+845))) [(loc+845,x.o w.params k sl 13)] (n+845) tk [1]).L=[(loc+845,x.o w.params k sl 13)]:=⟨by symm,by symm⟩
theorem am3:cU (bL w [] (vJ (Ho (jg (dU 12) 1)) (aU (loc+845))) [(loc+845,x.o w.params k sl 13)] (n+845) tk [1]) (.done (.ret (.ref (x.W+845))))∧(bL w [] (vJ (Ho (jg (dU 12) 1)) (aU (loc+845))) [(loc+845,x.o w.params k sl 13)] (n+845) tk [1]).L=[(loc+845,x.o w.params k sl 13)]:=⟨by symm,by symm⟩
theorem am4:cU (bL w [] (vJ (wF (dU 13)) (aU (loc+845))) [(loc+845,x.o w.params k sl 13)] (n+845) tk [1]) (.done (.ret (.ref (x.W+845))))∧(bL w [] (vJ (wF (dU 13)) (aU (loc+845))) [(loc+845,x.o w.params k sl 13)] (n+845) tk [1]).L=[(loc+845,x.o w.params k sl 13)]:=⟨by symm,by symm⟩
def r12:Rs:=JT w (Dk (jg (dU 12) 0)) (loc+845) [(loc+845,x.o w.params k sl 13)] n tk [0,0,1,1,0,1]
theorem d12:bZ (r12 w x k sl loc (n+845) tk) (.call (.ref 743) ⟨[.ref 818,.ref (x.rows+845),.ref (x.st+845)],[]⟩) ([]++[(loc+845,x.o w.params k sl 13)]):=⟨⟨by symm,by symm⟩,by symm⟩
theorem e12 (q:Rs) (e:r12 w x k sl loc (n+845) tk=q) (n2 tk2:Nat):cU (aB w [] q (.ok (.ret (.ref a))) [] (n2+845) tk2 []) (.done (.ret (.ref a)))∧(aB w [] q (.ok (.ret (.ref a))) [] (n2+845) tk2 []).L=[]:=by refine sb e ?_;exact ⟨by symm,by symm⟩
def Om:Rs:=JT w (Dk (jg (dU 12) 1)) (loc+845) [(loc+845,x.o w.params k sl 13),(x.rows+845,aj ar c)] n tk [0,0,1,0,0,3,3,3,1]
theorem f12:bZ (Om w x k sl ar c loc (n+845) tk) (.call (.builtin "list.__getitem__") ⟨[.ref (x.rows+845),.ref (n+845)],[]⟩) ([(n+845,Lz .none .none (.int (-1) (tk+1)))]++[(loc+845,x.o w.params k sl 13),(x.rows+845,aj ar c)]):=⟨⟨by symm,by symm⟩,by symm⟩
theorem g12 (q:Rs) (e:Om w x k sl ar c loc (n+845) tk=q) (n2 tk2:Nat):bZ (aB w [] q (.ok (.ret (.ref a))) [] (n2+845) tk2 [0,1]) (.call (.ref 743) ⟨[.ref 825,.ref a],[]⟩) ([]++[]):=by refine sb e ?_;exact ⟨⟨by symm,by symm⟩,by symm⟩
theorem h12 (q:Rs) (e:Om w x k sl ar c loc (n+845) tk=q) (n2 tk2:Nat) (q2:Rs) (e2:aB w [] q (.ok (.ret (.ref a))) [] (n2+845) tk2 [0,1]=q2) (b n3 tk3:Nat):cU (aB w [] q2 (.ok (.ret (.ref b))) [] (n3+845) tk3 []) (.done (.ret (.ref b)))∧(aB w [] q2 (.ok (.ret (.ref b))) [] (n3+845) tk3 []).L=[]:=by refine sb e2 (sb e ?_);exact ⟨by symm,by symm⟩
end
section
variable {w:World} {g:Array GenState} {d:Drawn} {os:OsState} {A:Around} {R:Result→Shared→Prop} {h:Heap} {tk loc:Nat} {k:Nat→Nat} {sl:Array (Option Value)} {x:LV} {E:Value→Shared→Prop} {Q:Flow→Shared→Prop}
theorem LC {e:Expr} {rest:List Expr} {env:Env} {s:Shared} {Q:Bool→Shared→Prop} (hx:am1 e) (z:wpAny (model pw w) A (eval (Ho e) env) (fun a s1=>wpAny (model pw w) A (eval (Dk e) env) (fun b s2=>(∃ l,a=.ref l∧b=.ref l)∧wpAny (model pw w) A (allTrue .Or rest env) Q E s2) E s1) E s) :
  wpAny (model pw w) A (allTrue .Or (e::rest) env) Q E s:=by
 refine sb (congrArg (fun x=>allTrue .Or (x::rest) env) hx.1.symm) ?_
 refine wpAny_allTrue_Or_cons (wpAny_isTrue_Compare1 (wpAny_mono z (fun a s1 z1=>wpAny_mono z1 (fun b s2 z2=>?_) fun _ _ x=>x) fun _ _ x=>x) hx.2)
 obtain ⟨⟨l,rfl,rfl⟩,z2⟩:=z2
 show wpAny _ _ (do return Value.bool (!(← isSame (.ref l) (.ref l)))) _ _ _
 rw [Aw]
 refine wpAny_bind (wpAny_pure (wpAny_pure (wpAny_truthy_bool ?_)))
 rw [if_neg (by decide)]
 exact z2
theorem bC.rev {h:Heap}:∀ {as:List Nat} {ρs:List aZ} {bF:List (List Nat)},bC h as ρs bF→bC h as.reverse ρs.reverse bF.reverse
 | [],[],[],_=>trivial
 | a::as,ρ::ρs,Ts::bF,X=>by
  simp only [List.reverse_cons]
  exact (bC.rev X.2).snoc X.1
 | [],[],_::_,X=>X.elim
 | [],_::_,_,X=>X.elim
 | _::_,[],_,X=>X.elim
 | _::_,_::_,[],X=>X.elim
theorem bw.rev {B:Nat} {as:List Nat} {ρs:List aZ} {bF:List (List Nat)} (X:bw h B as ρs bF):bw h B as.reverse ρs.reverse bF.reverse:=
 ⟨X.rows.rev,by
  rw [List.Nodup,List.pairwise_reverse]
  exact X.nd.imp fun z=>Ne.symm z,by
  rw [List.pairwise_reverse]
  exact X.dj.imp fun {a b} z y hy hz=>z y hz hy,fun a ha=>X.lo.1 a (List.mem_reverse.mp ha),fun T hT=>X.lo.2 T (List.mem_reverse.mp hT)⟩
theorem am5 {c B:Nat} {as:List Nat} {ρs:List aZ} {bF:List (List Nat)} {whole:aZ} {Tw Us:List Nat} (hA:A.handled=none) (hD:A.depth+3<recursionLimit) (hu:A.units+3<cLine) (kk:au w h) (gl:h.get? (loc+845)=some (x.o w.params k sl 13))
  (gR:h.get? (x.rows+845)=some (aj (as.map Value.ref).toArray c)) (X:bw h B as ρs bF) (hG:∀ ρ∈ρs,GR 60 ρ) (hl:ρs.length≤50) (nas:as≠[]) (rW:aJ h (x.W+845) whole Tw) (rS:aJ h (x.st+845) fL Us) (gS:GR 60 fL) (sep:∀ Ts∈bF,∀ y∈Us,y∉Ts) (sa:x.st+845∉as) (Ud:x.rows≠x.st)
  (p1:ρs.foldl eH fL=whole) (ρr:aZ) (ρq:List aZ) (er:ρs.reverse=ρr::ρq) (p2:ρq.foldl (fun a b=>eH b a) ρr=whole)
  (post:∀ h' tk',Keeps [] h h'→au w h'→Q .next ⟨h',g,d,tk',os⟩) :
  wpAny (model pw w) A (exec (dU 12) (aU (loc+845))) Q E ⟨h,g,d,tk,os⟩:=by
 have nR:=jw gl gR (show Value.type "list" ≠ .type "frame" by decide)
 have row:=fun {h h':Heap} {a:Nat} {ρ:aZ} {Ts:List Nat} (r:aJ h a ρ Ts) (K:Keeps [] h h')=>r.keeps K (by simp [aA]) not_mem_nil
 refine wK (by symm) ?_
 rw [J4]
 refine yP ⟨by symm,by symm⟩ (uF (v:=.ref (x.W+845)) [1] hA kk gl (fun n=>am2 w x k sl loc n tk 13 rfl) fun h1 tk1 K1 k1 fP=>dR ?_)
 refine eN _ (fun n=>[]) (fun n=>.call (.ref 743) ⟨[.ref 818,.ref (x.rows+845),.ref (x.st+845)],[]⟩) (Own.one k1 fP (Nat.le_add_left ..)) .nil hA (fun n=>d12 w x k sl loc n tk1) fun n q A2 h2 Z e=>?_
 have jr:=K1.trans Z.K
 refine jt (.inl rfl) Z.hA (Z.hD ▸ hD) Z.kk (Nat.le_add_left ..) (by simpa using Ud) (jr.get _ _ gR not_mem_nil) (row rS jr) (X.rows.keeps jr (by simp [aA]) (by simp)) hG gS (by lia) sep sa ?_
 intro h3 tk3 v T K3 rv _ _
 rw [wO,p1] at rv
 have qw:=jr.trans K3
 refine dG _ [] (fun _ _=>[]) (Own.nil (qw.kok kk aX)) .nil hA (by simp) (fun n2=>e12 w x k sl loc n tk1 v q e n2 tk3) fun n4 q4 h4 Rt K4 k4 o4=>?_
 have kO:=qw.trans K4
 refine ⟨wN (by lia) (row rW kO) (row rv K4),?_⟩
 have jc:=kO.get _ _ gl not_mem_nil
 have gR4:=kO.get _ _ gR not_mem_nil
 refine yP ⟨by symm,by symm⟩ (uF (v:=.ref (x.W+845)) [1] hA k4 jc (fun n=>am3 w x k sl loc n _) fun h5 lB K5 k5 GZ=>dR ?_)
 have gR5:=K5.get _ _ gR4 not_mem_nil
 refine eN _ (fun n=>[(n,Lz .none .none (.int (-1) (lB+1)))]) (fun n=>.call (.builtin "list.__getitem__") ⟨[.ref (x.rows+845),.ref n],[]⟩) (Own.two k5 GZ (Nat.le_add_left ..) gR5 (Nat.le_add_left ..) (Ne.symm nR)) .nil hA (fun n=>f12 w x k sl _ c loc n lB) fun n6 q6 A6 h6 Z6 e6=>?_
 have zR:=(kO.trans K5).trans Z6.K
 have gR6:=zR.get _ _ gR not_mem_nil
 have zl:(as.map Value.ref).toArray.size≤100000:=by
  have:=X.rows.len
  simp
  lia
 refine gq gR6 (Z6.own _ (mem_cons_self ..)) .none .none (.int _ _) (by simp) zl ?_
 rw [krv_pick]
 obtain ⟨b,eb⟩:=cH (au.size (w:=w) Z6.kk)
 have eR:(as.map Value.ref).toArray.toList.reverse=as.reverse.map Value.ref:=by simp
 rw [eR]
 have K7:Keeps [] h6 (h6.push (aj (as.reverse.map Value.ref).toArray 0)):=bH
 have k7:au w (h6.push (aj (as.reverse.map Value.ref).toArray 0)):=K7.kok Z6.kk aX
 have g7:(h6.push (aj (as.reverse.map Value.ref).toArray 0)).get? (b+845)=some (aj (as.reverse.map Value.ref).toArray 0):=by rw [← eb];exact Heap.get?_push_size _ rfl
 rw [eb]
 refine cY _ (fun n=>[]) (fun n=>.call (.ref 743) ⟨[.ref 825,.ref (b+845)],[]⟩) (Own.nil k7) .nil hA (fun n8=>g12 w x k sl _ c loc n6 lB (b+845) q6 e6 n8 q6.tk) fun n8 q8 A8 h8 Z8 e8=>?_
 have J6:=(zR.trans K7).trans Z8.K
 have X8:=(X.keeps J6 (by simp [aA]) (by simp)).rev
 rw [er] at X8
 have g8:=Z8.K.get _ _ g7 not_mem_nil
 cases ea:as.reverse with
 | nil=>exact absurd (List.reverse_eq_nil_iff.mp ea) nas
 | cons a0 ar=>
 rw [ea] at X8 g8
 have am8:∃ T0 Tr,bF.reverse=T0::Tr:=by
  cases et:bF.reverse with
  | nil=>rw [et] at X8;exact X8.rows.elim
  | cons a b=>exact ⟨a,b,rfl⟩
 obtain ⟨T0,Tr,et⟩:=am8
 rw [et] at X8
 obtain ⟨r0,rs,dj,na⟩:=X8.head
 have hGr:∀ ρ∈ρr::ρq,GR 60 ρ:=fun ρ hρ=>hG ρ (by rw [← er] at hρ;exact List.mem_reverse.mp hρ)
 have lq:ρq.length≤50:=by
  have:=congrArg List.length er
  simp at this
  lia
 refine qu (.inr rfl) Z8.hA (Z8.hD ▸ hD) Z8.kk (Nat.le_add_left ..) g8 r0 rs (fun ρ hρ=>hGr ρ (mem_cons_of_mem _ hρ)) (hGr _ (mem_cons_self ..)) (by lia) dj na ?_
 intro h9 tk9 v9 T9 K9 rv9 _ _
 rw [J3,p2] at rv9
 have Hl:=J6.trans K9
 refine dG _ [] (fun _ _=>[]) (Own.nil (Hl.kok kk aX)) .nil hA (by simp) (fun n10=>h12 w x k sl _ c loc n6 lB (b+845) q6 e6 n8 q6.tk q8 e8 v9 n10 tk9) fun n11 q11 h11 an0 vL k11 o11=>?_
 have yQ:=Hl.trans vL
 exact ⟨wN (by lia) (row rW yQ) (row rv9 vL),wpAny_allTrue_Or_nil ⟨rfl,post h11 _ yQ k11⟩⟩
end
end
section
open PySem.SeqAt (RcNeAt RcAt EqAt)
theorem J7:isNe (dU 13):=⟨by symm,by symm⟩
section
variable (w:World) (x:LV) (k:Nat→Nat) (sl:Array (Option Value)) (ar:Array Value) (c loc n tk a b v n2 tk2 n3 tk3 n4 tk4 n5 lB n6 lg:Nat)
def rA (w:World) (x:LV) (k:Nat→Nat) (sl:Array (Option Value)) (loc n tk:Nat) (ar:Array Value) (c:Nat):Rs:=JT w (uT (dU 13)) (loc+845) [(loc+845,x.o w.params k sl 13),(x.rows+845,aj ar c)] n tk [0,0,0,1,1,3,3,3,1]
theorem cA:bZ (rA w x k sl loc (n+845) tk ar c) (.call (.builtin "list.__getitem__") ⟨[.ref (x.rows+845),.ref (n+845)],[]⟩) ([(n+845,Lz .none (.int x.hi x.ht) .none)]++[(loc+845,x.o w.params k sl 13),(x.rows+845,aj ar c)]):=⟨⟨by symm,by symm⟩,by symm⟩
def rB (w:World) (q:Rs) (a n tk:Nat):Rs:=aB w [] q (.ok (.ret (.ref a))) [] n tk [0,1]
section
variable (q:Rs) (e:rA w x k sl loc (n+845) tk ar c=q)
include e
theorem cB:bZ (rB w q a (n2+845) tk2) (.call (.ref 743) ⟨[.ref 818,.ref a],[]⟩) ([]++[]):=by refine sb e ?_;exact ⟨⟨by symm,by symm⟩,by symm⟩
def rC (w:World) (x:LV) (k:Nat→Nat) (sl:Array (Option Value)) (loc n tk:Nat) (ar:Array Value) (c:Nat) (q:Rs) (v:Nat):Rs:=aB w [] q (.ok (.ret (.ref v))) [(loc+845,x.o w.params k sl 13),(x.rows+845,aj ar c)] n tk [0,0,1,1,3,3,3,1]
variable (q2:Rs) (e2:rB w q a (n2+845) tk2=q2)
include e2
theorem cC:bZ (rC w x k sl loc (n3+845) tk3 ar c q2 v) (.call (.builtin "list.__getitem__") ⟨[.ref (x.rows+845),.ref (n3+845)],[]⟩) ([(n3+845,Lz (.int x.hi x.ht) .none .none)]++[(loc+845,x.o w.params k sl 13),(x.rows+845,aj ar c)]):=by refine sb e2 (sb e ?_);exact ⟨⟨by symm,by symm⟩,by symm⟩
variable (q3:Rs) (e3:rC w x k sl loc (n3+845) tk3 ar c q2 v=q3)
include e3
theorem cD:bZ (rB w q3 b (n4+845) tk4) (.call (.ref 743) ⟨[.ref 818,.ref b],[]⟩) ([]++[]):=by refine sb e3 (sb e2 (sb e ?_));exact ⟨⟨by symm,by symm⟩,by symm⟩
variable (q4:Rs) (e4:rB w q3 b (n4+845) tk4=q4) (u:Nat)
include e4
theorem cE:bZ (aB w [] q4 (.ok (.ret (.ref u))) [] (n5+845) lB [0,1]) (.call (.ref 818) ⟨[.ref v,.ref u],[]⟩) ([]++[]):=by refine sb e4 (sb e3 (sb e2 (sb e ?_)));exact ⟨⟨by symm,by symm⟩,by symm⟩
variable (q5:Rs) (e5:aB w [] q4 (.ok (.ret (.ref u))) [] (n5+845) lB [0,1]=q5) (z:Nat)
include e5
theorem cF:cU (aB w [] q5 (.ok (.ret (.ref z))) [] (n6+845) lg []) (.done (.ret (.ref z)))∧(aB w [] q5 (.ok (.ret (.ref z))) [] (n6+845) lg []).L=[]:=by refine sb e5 (sb e4 (sb e3 (sb e2 (sb e ?_))));exact ⟨by symm,by symm⟩
end
end
section
variable {w:World} {g:Array GenState} {d:Drawn} {os:OsState} {A:Around} {R:Result→Shared→Prop} {h:Heap} {tk loc:Nat} {k:Nat→Nat} {sl:Array (Option Value)} {x:LV} {E:Value→Shared→Prop} {Q:Flow→Shared→Prop}
theorem J8 {M:Nat} {ρ:aZ} {ρs:List aZ} (h0:GR M ρ) (hs:∀ ρ∈ρs,GR 60 ρ):GR (M+60*ρs.length) (ρs.foldl eH ρ):=by
 induction ρs generalizing M ρ with
 | nil=>simpa using h0
 | cons a as ih=>
  have:=ih (tR h0 (hs a (mem_cons_self ..))) fun b hb=>hs b (mem_cons_of_mem _ hb)
  rw [List.length_cons,show M+60*(as.length+1)=M+60+60*as.length by lia]
  exact this
theorem bC.take {h:Heap} (m:Nat):∀ {as:List Nat} {ρs:List aZ} {bF:List (List Nat)},bC h as ρs bF→bC h (as.take m) (ρs.take m) (bF.take m)∧bC h (as.drop m) (ρs.drop m) (bF.drop m):=by
 induction m with
 | zero=>intro as ρs bF X;exact ⟨trivial,X⟩
 | succ m ih=>
  intro as ρs bF X
  match as,ρs,bF,X with
  | [],[],[],_=>exact ⟨trivial,trivial⟩
  | a::as,ρ::ρs,Ts::bF,X=>
   obtain ⟨y,z⟩:=ih X.2
   exact ⟨⟨X.1,y⟩,z⟩
theorem bw.take {B m:Nat} {as:List Nat} {ρs:List aZ} {bF:List (List Nat)} (X:bw h B as ρs bF):bw h B (as.take m) (ρs.take m) (bF.take m):=
 ⟨(X.rows.take m).1,X.nd.sublist (List.take_sublist ..),X.dj.sublist (List.take_sublist ..),fun a ha=>X.lo.1 a (List.mem_of_mem_take ha),fun T hT=>X.lo.2 T (List.mem_of_mem_take hT)⟩
theorem bw.drop {B m:Nat} {as:List Nat} {ρs:List aZ} {bF:List (List Nat)} (X:bw h B as ρs bF):bw h B (as.drop m) (ρs.drop m) (bF.drop m):=
 ⟨(X.rows.take m).2,X.nd.sublist (List.drop_sublist ..),X.dj.sublist (List.drop_sublist ..),fun a ha=>X.lo.1 a (List.mem_of_mem_drop ha),fun T hT=>X.lo.2 T (List.mem_of_mem_drop hT)⟩
theorem bw.cut {B m:Nat} {as:List Nat} {ρs:List aZ} {bF:List (List Nat)} (X:bw h B as ρs bF):(∀ a∈as.take m,a∉as.drop m)∧∀ Ts∈bF.take m,∀ Us∈bF.drop m,∀ y∈Ts,y∉Us:=by
 constructor
 ·intro a ha hb
  have:=X.nd
  rw [← List.take_append_drop m as,List.nodup_append] at this
  exact this.2.2 a ha a hb rfl
 ·have:=X.dj
  rw [← List.take_append_drop m bF,List.pairwise_append] at this
  exact this.2.2
theorem bw.first {B:Nat} {as:List Nat} {ρs:List aZ} {bF:List (List Nat)} (X:bw h B as ρs bF) (ne:as≠[]):∃ a0 ar ρ0 ρr T0 Tr,as=a0::ar∧ρs=ρ0::ρr∧bF=T0::Tr:=by
 have:=X.rows
 cases as with
 | nil=>exact absurd rfl ne
 | cons a as=>
  match ρs,bF,this with
  | ρ::ρs,Ts::bF,_=>exact ⟨a,as,ρ,ρs,Ts,bF,rfl,rfl,rfl⟩
theorem uG {l c B:Nat} {as:List Nat} {ρs:List aZ} {bF:List (List Nat)} (hA:A.handled=none) (hD:A.depth+3<recursionLimit) (kk:au w h) (ll:845≤l) (gl:h.get? l=some (aj (as.map Value.ref).toArray c)) (X:bw h B as ρs bF) (hG:∀ ρ∈ρs,GR 60 ρ) (hl:ρs.length≤60) (ne:as≠[])
  (post:∀ h' tk' v T ρ0 ρr,Keeps [] h h'→ρs=ρ0::ρr→aJ h' v (ρr.foldl eH ρ0) T→GR 3700 (ρr.foldl eH ρ0)→(v∈as∧T∈bF∨∀ y∈v::T,h.objs.size≤y)→(as.length=1→as=[v])→R (.ok (.ret (.ref v))) ⟨h',g,d,tk',os⟩) :
  codeAny (model pw w) A (.call (.ref 743) ⟨[.ref 818,.ref l],[]⟩) R ⟨h,g,d,tk,os⟩:=by
 obtain ⟨a0,ar,ρ0,ρr,T0,Tr,rfl,rfl,rfl⟩:=X.first ne
 obtain ⟨r0,rs,dj,na⟩:=X.head
 simp only [List.length_cons] at hl
 refine qu (.inl rfl) hA hD kk ll gl r0 rs (fun ρ hρ=>hG ρ (mem_cons_of_mem _ hρ)) (hG _ (mem_cons_self ..)) (by lia) dj na ?_
 intro h' tk' v T K rv f0 f1
 rw [wO] at rv
 have G:=J8 (hG _ (mem_cons_self ..)) fun ρ hρ=>hG ρ (mem_cons_of_mem ρ0 hρ)
 refine post h' tk' v T ρ0 ρr K rfl rv ⟨G.1,fun p hp=>⟨(G.2 p hp).1,Nat.le_trans (G.2 p hp).2 (by lia)⟩⟩ ?_ (fun e1=>?_)
 ·by_cases e:ar=[]
  ·obtain ⟨rfl,rfl⟩:=f0 e
   exact .inl ⟨mem_cons_self ..,mem_cons_self ..⟩
  ·exact .inr (f1 e)
 ·have e2:ar=[]:=by simpa using e1
  obtain ⟨rfl,rfl⟩:=f0 e2
  rw [e2]
theorem an1 {c B m:Nat} {as:List Nat} {ρs:List aZ} {bF:List (List Nat)} {whole:aZ} {Tw:List Nat} (hA:A.handled=none) (hD:A.depth+3<recursionLimit) (hu:A.units+3<cLine) (kk:au w h) (gl:h.get? (loc+845)=some (x.o w.params k sl 13))
  (hh:x.hi=Int.ofNat m) (m1:1≤m) (m2:m<as.length) (gR:h.get? (x.rows+845)=some (aj (as.map Value.ref).toArray c)) (X:bw h B as ρs bF) (hG:∀ ρ∈ρs,GR 60 ρ) (hl:ρs.length≤50) (rW:aJ h (x.W+845) whole Tw)
  (p:∀ ρ0 ρr ρ1 ρq,ρs.take m=ρ0::ρr→ρs.drop m=ρ1::ρq→eH (ρr.foldl eH ρ0) (ρq.foldl eH ρ1)=whole)
  (post:∀ h' tk',Keeps [] h h'→au w h'→Q .next ⟨h',g,d,tk',os⟩) :
  wpAny (model pw w) A (exec (dU 13) (aU (loc+845))) Q E ⟨h,g,d,tk,os⟩:=by
 have nR:=jw gl gR (show Value.type "list" ≠ .type "frame" by decide)
 have row:=fun {h h':Heap} {a:Nat} {ρ:aZ} {Ts:List Nat} (r:aJ h a ρ Ts) (K:Keeps [] h h')=>r.keeps K (by simp [aA]) not_mem_nil
 have lx:=X.rows.len
 have zl:(as.map Value.ref).toArray.size≤100000:=by simp;lia
 refine Bo J7 (uF (v:=.ref (x.W+845)) [1] hA kk gl (fun n=>am4 w x k sl loc n tk) fun h1 tk1 K1 k1 fP=>dR ?_)
 refine eN _ (fun n=>[(n,Lz .none (.int x.hi x.ht) .none)]) (fun n=>.call (.builtin "list.__getitem__") ⟨[.ref (x.rows+845),.ref n],[]⟩) (Own.two k1 fP (Nat.le_add_left ..) (K1.get _ _ gR not_mem_nil) (Nat.le_add_left ..) (Ne.symm nR)) .nil hA (fun n=>cA w x k sl _ c loc n tk1) fun n q A2 h2 Z e=>?_
 have jr:=K1.trans Z.K
 refine gq (jr.get _ _ gR not_mem_nil) (Z.own _ (mem_cons_self ..)) .none (.int _ _) .none (by simp) zl ?_
 rw [hh,Bq (by simp;lia),← List.map_take]
 obtain ⟨b,eb⟩:=cH (au.size (w:=w) Z.kk)
 have K3:Keeps [] h2 (h2.push (aj ((as.take m).map Value.ref).toArray 0)):=bH
 have k3:au w (h2.push (aj ((as.take m).map Value.ref).toArray 0)):=K3.kok Z.kk aX
 have g3:(h2.push (aj ((as.take m).map Value.ref).toArray 0)).get? (b+845)=some (aj ((as.take m).map Value.ref).toArray 0):=by rw [← eb];exact Heap.get?_push_size _ rfl
 rw [eb]
 refine cY _ (fun n=>[]) (fun n=>.call (.ref 743) ⟨[.ref 818,.ref (b+845)],[]⟩) (Own.nil k3) .nil hA (fun n4=>cB w x k sl _ c loc n tk1 (b+845) n4 q.tk q e) fun n4 q4 A4 h4 Z4 e4=>?_
 have kO:=(jr.trans K3).trans Z4.K
 have X4:=X.keeps kO (by simp [aA]) (by simp)
 have net:as.take m≠[]:=by
  intro q
  have:=congrArg List.length q
  rw [List.length_take,List.length_nil] at this
  lia
 refine uG Z4.hA (Z4.hD ▸ hD) Z4.kk (Nat.le_add_left ..) (Z4.K.get _ _ g3 not_mem_nil) (X4.take (m:=m)) (fun ρ hρ=>hG ρ (List.mem_of_mem_take hρ)) (by rw [List.length_take];lia) net ?_
 intro h5 lB v T ρ0 ρr K5 er rv Gv fv _
 have qy:=kO.trans K5
 have GZ:=qy.get _ _ gl not_mem_nil
 have gR5:=qy.get _ _ gR not_mem_nil
 have k5:au w h5:=qy.kok kk aX
 refine cY _ (fun n=>[(n,Lz (.int x.hi x.ht) .none .none)]) (fun n=>.call (.builtin "list.__getitem__") ⟨[.ref (x.rows+845),.ref n],[]⟩) (Own.two k5 GZ (Nat.le_add_left ..) gR5 (Nat.le_add_left ..) (Ne.symm nR)) .nil hA (fun n6=>cC w x k sl _ c loc n tk1 (b+845) v n4 q.tk n6 lB q e q4 e4) fun n6 q6 A6 h6 Z6 e6=>?_
 have zR:=qy.trans Z6.K
 refine gq (zR.get _ _ gR not_mem_nil) (Z6.own _ (mem_cons_self ..)) (.int _ _) .none .none (by simp) zl ?_
 rw [hh,pick_from (by simp;lia),← List.map_drop]
 obtain ⟨b2,V1⟩:=cH (au.size (w:=w) Z6.kk)
 have K7:Keeps [] h6 (h6.push (aj ((as.drop m).map Value.ref).toArray 0)):=bH
 have k7:au w (h6.push (aj ((as.drop m).map Value.ref).toArray 0)):=K7.kok Z6.kk aX
 have g7:(h6.push (aj ((as.drop m).map Value.ref).toArray 0)).get? (b2+845)=some (aj ((as.drop m).map Value.ref).toArray 0):=by rw [← V1];exact Heap.get?_push_size _ rfl
 rw [V1]
 refine cY _ (fun n=>[]) (fun n=>.call (.ref 743) ⟨[.ref 818,.ref (b2+845)],[]⟩) (Own.nil k7) .nil hA (fun n8=>cD w x k sl _ c loc n tk1 (b+845) (b2+845) v n4 q.tk n6 lB n8 q6.tk q e q4 e4 q6 e6) fun n8 q8 A8 h8 Z8 e8=>?_
 have K58:=(Z6.K.trans K7).trans Z8.K
 have J6:=qy.trans K58
 have X8:=X.keeps J6 (by simp [aA]) (by simp)
 have ned:as.drop m≠[]:=by
  intro q
  have:=congrArg List.length q
  rw [List.length_drop,List.length_nil] at this
  lia
 refine uG Z8.hA (Z8.hD ▸ hD) Z8.kk (Nat.le_add_left ..) (Z8.K.get _ _ g7 not_mem_nil) (X8.drop (m:=m)) (fun ρ hρ=>hG ρ (List.mem_of_mem_drop hρ)) (by rw [List.length_drop];lia) ned ?_
 intro h9 tk9 u U ρ1 ρq K9 M8 ru Gu fu _
 have Hl:=J6.trans K9
 have k9:au w h9:=Hl.kok kk aX
 refine cY _ (fun n=>[]) (fun n=>.call (.ref 818) ⟨[.ref v,.ref u],[]⟩) (Own.nil k9) .nil hA (fun n10=>cE w x k sl _ c loc n tk1 (b+845) (b2+845) v n4 q.tk n6 lB n8 q6.tk n10 tk9 q e q4 e4 q6 e6 q8 e8 u) fun n10 q10 A10 h10 Qf e10=>?_
 have K59:=K58.trans K9
 have lt5:=rv.lt
 have rv8:=row rv K58
 have lt8:=rv8.lt
 obtain ⟨an3,an4⟩:=X.cut (m:=m)
 have old:=X4.rows.lt
 have vu:v≠u∧∀ y∈T,y∉U:=by
  rcases fu with ⟨fu1,fu2⟩ | fu
  ·rcases fv with ⟨fv1,fv2⟩ | fv
   ·exact ⟨fun q=>an3 v fv1 (q ▸ fu1),fun y hy hz=>an4 T fv2 U fu2 y hy hz⟩
   ·refine ⟨fun q=>?_,fun y hy hz=>?_⟩
    ·exact absurd (old.1 u (List.mem_of_mem_drop fu1)) (Nat.not_lt.mpr (q ▸ fv v (mem_cons_self ..)))
    ·exact absurd (old.2 U (List.mem_of_mem_drop fu2) y hz) (Nat.not_lt.mpr (fv y (mem_cons_of_mem _ hy)))
  ·refine ⟨fun q=>?_,fun y hy hz=>?_⟩
   ·exact absurd (lt8 v (mem_cons_self ..)) (Nat.not_lt.mpr (q ▸ fu u (mem_cons_self ..)))
   ·exact absurd (lt8 y (mem_cons_of_mem _ hy)) (Nat.not_lt.mpr (fu y (mem_cons_of_mem _ hz)))
 refine pF Qf.hA (by rw [Qf.hD];lia) Qf.kk (row (row rv K59) Qf.K) (row ru Qf.K) vu.1 vu.2 Gv Gu (by lia) (by lia) ?_
 intro h11 Ue z Tz vL rz _
 have yQ:=(Hl.trans Qf.K).trans vL
 refine dG _ [] (fun _ _=>[]) (Own.nil (yQ.kok kk aX)) .nil hA (by simp) (fun n12=>cF w x k sl _ c loc n tk1 (b+845) (b2+845) v n4 q.tk n6 lB n8 q6.tk n10 tk9 n12 Ue q e q4 e4 q6 e6 q8 e8 u q10 e10 z) fun n13 q13 h13 aZ1 mz k13 o13=>?_
 have Jw:=yQ.trans mz
 rw [p _ _ _ _ er M8] at rz
 exact ⟨wN (by lia) (row rW Jw) (row rz mz),post h13 _ Jw k13⟩
end
end
section
open PySem.SeqAt (RcNeAt RcAt EqAt)
section
variable (w:World) (x:LV) (k:Nat→Nat) (sl:Array (Option Value)) (ar:Array Value) (c loc n tk a b v n2 tk2 n3 tk3 n4 tk4 n5 lB n6 lg:Nat)
def sA (w:World) (x:LV) (k:Nat→Nat) (sl:Array (Option Value)) (loc n tk:Nat) (ar:Array Value) (c:Nat):Rs:=JT w (Ho (jg (dU 14) 0)) (loc+845) [(loc+845,x.o w.params k sl 13),(x.rows+845,aj ar c)] n tk [0,0,1,3,3,3,1]
theorem an5:bZ (sA w x k sl loc (n+845) tk ar c) (.call (.builtin "list.__getitem__") ⟨[.ref (x.rows+845),.ref (n+845)],[]⟩) ([(n+845,Lz .none (.int 1 tk) .none)]++[(loc+845,x.o w.params k sl 13),(x.rows+845,aj ar c)]):=⟨⟨by symm,by symm⟩,by symm⟩
theorem an6 (q:Rs) (e:sA w x k sl loc (n+845) tk ar c=q):bZ (rB w q a (n2+845) tk2) (.call (.ref 743) ⟨[.ref 818,.ref a],[]⟩) ([]++[]):=by refine sb e ?_;exact ⟨⟨by symm,by symm⟩,by symm⟩
theorem an7 (q:Rs) (e:sA w x k sl loc (n+845) tk ar c=q) (q2:Rs) (e2:rB w q a (n2+845) tk2=q2):cU (aB w [] q2 (.ok (.ret (.ref v))) [] (n3+845) tk3 []) (.done (.ret (.ref v)))∧(aB w [] q2 (.ok (.ret (.ref v))) [] (n3+845) tk3 []).L=[]:=by refine sb e2 (sb e ?_);exact ⟨by symm,by symm⟩
def sB (w:World) (x:LV) (k:Nat→Nat) (sl:Array (Option Value)) (loc n tk:Nat) (ar:Array Value) (c:Nat):Rs:=JT w (Dk (jg (dU 14) 0)) (loc+845) [(loc+845,x.o w.params k sl 13),(x.rows+845,aj ar c)] n tk [1,2,2,2,1]
theorem an8:bZ (sB w x k sl loc (n+845) tk ar c) (.call (.builtin "list.__getitem__") ⟨[.ref (x.rows+845),.int 0 tk],[]⟩) ([]++[(loc+845,x.o w.params k sl 13),(x.rows+845,aj ar c)]):=⟨⟨by symm,by symm⟩,by symm⟩
theorem an9 (q:Rs) (e:sB w x k sl loc (n+845) tk ar c=q):cU (aB w [] q (.ok (.ret (.ref v))) [] (n3+845) tk3 []) (.done (.ret (.ref v)))∧(aB w [] q (.ok (.ret (.ref v))) [] (n3+845) tk3 []).L=[]:=by refine sb e ?_;exact ⟨by symm,by symm⟩
def sC (w:World) (x:LV) (k:Nat→Nat) (sl:Array (Option Value)) (loc n tk:Nat):Rs:=JT w (Ho (jg (dU 14) 1)) (loc+845) [(loc+845,x.o w.params k sl 13)] n tk [0,0,2,0,1]
theorem ao0:bZ (sC w x k sl loc (n+845) tk) (.call (.ref 743) ⟨[.ref 818,.ref (n+845),.ref (x.st+845)],[]⟩) ([(n+845,aj #[] 0)]++[(loc+845,x.o w.params k sl 13)]):=⟨⟨by symm,by symm⟩,by symm⟩
theorem ao1 (q:Rs) (e:sC w x k sl loc (n+845) tk=q):cU (aB w [] q (.ok (.ret (.ref v))) [] (n3+845) tk3 []) (.done (.ret (.ref v)))∧(aB w [] q (.ok (.ret (.ref v))) [] (n3+845) tk3 []).L=[]:=by refine sb e ?_;exact ⟨by symm,by symm⟩
theorem ao2:cU (bL w [] (vJ (Dk (jg (dU 14) 1)) (aU (loc+845))) [(loc+845,x.o w.params k sl 13)] (n+845) tk [1]) (.done (.ret (.ref (x.st+845))))∧(bL w [] (vJ (Dk (jg (dU 14) 1)) (aU (loc+845))) [(loc+845,x.o w.params k sl 13)] (n+845) tk [1]).L=[(loc+845,x.o w.params k sl 13)]:=⟨by symm,by symm⟩
end
section
variable {w:World} {g:Array GenState} {d:Drawn} {os:OsState} {A:Around} {R:Result→Shared→Prop} {h:Heap} {tk loc:Nat} {k:Nat→Nat} {sl:Array (Option Value)} {x:LV} {E:Value→Shared→Prop} {Q:Flow→Shared→Prop}
theorem ao3 {c B:Nat} {as:List Nat} {ρs:List aZ} {bF:List (List Nat)} {Us:List Nat} (hA:A.handled=none) (hD:A.depth+3<recursionLimit) (kk:au w h) (gl:h.get? (loc+845)=some (x.o w.params k sl 13))
  (m1:1≤as.length) (gR:h.get? (x.rows+845)=some (aj (as.map Value.ref).toArray c)) (X:bw h B as ρs bF) (hG:∀ ρ∈ρs,GR 60 ρ) (hl:ρs.length≤50) (rS:aJ h (x.st+845) fL Us) (gS:GR 60 fL)
  (post:∀ h' tk',Keeps [] h h'→au w h'→Q .next ⟨h',g,d,tk',os⟩) :
  wpAny (model pw w) A (exec (dU 14) (aU (loc+845))) Q E ⟨h,g,d,tk,os⟩:=by
 have nR:=jw gl gR (show Value.type "list" ≠ .type "frame" by decide)
 have row:=fun {h h':Heap} {a:Nat} {ρ:aZ} {Ts:List Nat} (r:aJ h a ρ Ts) (K:Keeps [] h h')=>r.keeps K (by simp [aA]) not_mem_nil
 have lx:=X.rows.len
 have zl:(as.map Value.ref).toArray.size≤100000:=by simp;lia
 refine wK (by symm) ?_
 rw [J5]
 refine LC ⟨by symm,by symm⟩ (dR ?_)
 refine eN _ (fun n=>[(n,Lz .none (.int 1 tk) .none)]) (fun n=>.call (.builtin "list.__getitem__") ⟨[.ref (x.rows+845),.ref n],[]⟩) (Own.two kk gl (Nat.le_add_left ..) gR (Nat.le_add_left ..) (Ne.symm nR)) .nil hA (fun n=>an5 w x k sl _ c loc n tk) fun n q A2 h2 Z e=>?_
 refine gq (Z.K.get _ _ gR not_mem_nil) (Z.own _ (mem_cons_self ..)) .none (.int _ _) .none (by simp) zl ?_
 rw [show (1:Int)=Int.ofNat 1 from rfl,Bq (by simpa using m1),← List.map_take]
 obtain ⟨b,eb⟩:=cH (au.size (w:=w) Z.kk)
 have K3:Keeps [] h2 (h2.push (aj ((as.take 1).map Value.ref).toArray 0)):=bH
 have k3:au w (h2.push (aj ((as.take 1).map Value.ref).toArray 0)):=K3.kok Z.kk aX
 have g3:(h2.push (aj ((as.take 1).map Value.ref).toArray 0)).get? (b+845)=some (aj ((as.take 1).map Value.ref).toArray 0):=by rw [← eb];exact Heap.get?_push_size _ rfl
 rw [eb]
 refine cY _ (fun n=>[]) (fun n=>.call (.ref 743) ⟨[.ref 818,.ref (b+845)],[]⟩) (Own.nil k3) .nil hA (fun n4=>an6 w x k sl _ c loc n tk (b+845) n4 q.tk q e) fun n4 q4 A4 h4 Z4 e4=>?_
 have kO:=(Z.K.trans K3).trans Z4.K
 have X4:=X.keeps kO (by simp [aA]) (by simp)
 obtain ⟨a0,ar,ρ0,ρr,T0,Tr,ea,er,et⟩:=X.first (by intro q;rw [q] at m1;simp at m1)
 have e1:as.take 1=[a0]:=by rw [ea];rfl
 refine uG Z4.hA (Z4.hD ▸ hD) Z4.kk (Nat.le_add_left ..) (Z4.K.get _ _ g3 not_mem_nil) (X4.take (m:=1)) (fun ρ hρ=>hG ρ (List.mem_of_mem_take hρ)) (by rw [List.length_take];lia) (by rw [e1];simp) ?_
 intro h5 lB v T ρ1 ρq K5 _ _ _ _ fe
 have fe:=fe (by rw [e1];rfl)
 rw [e1] at fe
 obtain rfl:a0=v:=by simpa using fe
 have qy:=kO.trans K5
 refine dG _ [] (fun _ _=>[]) (Own.nil (qy.kok kk aX)) .nil hA (by simp) (fun n6=>an7 w x k sl _ c loc n tk (b+845) a0 n4 q.tk n6 lB q e q4 e4) fun n6 q6 h6 sz6 K6 k6 o6=>?_
 have zR:=qy.trans K6
 have JV:=zR.get _ _ gl not_mem_nil
 have gR6:=zR.get _ _ gR not_mem_nil
 refine dR (eN _ (fun n=>[]) (fun n=>.call (.builtin "list.__getitem__") ⟨[.ref (x.rows+845),.int 0 q6.tk],[]⟩) (Own.two k6 JV (Nat.le_add_left ..) gR6 (Nat.le_add_left ..) (Ne.symm nR)) .nil hA (fun n=>an8 w x k sl _ c loc n q6.tk) fun n7 q7 A7 h7 Z7 e7=>?_)
 have K07:=zR.trans Z7.K
 refine dO (K07.get _ _ gR not_mem_nil) (Int.le_refl _) (by decide) (x:=.ref a0) (by rw [ea];rfl) ?_
 refine dG _ [] (fun _ _=>[]) (Own.nil Z7.kk) .nil hA (by simp) (fun n8=>an9 w x k sl _ c loc n7 q6.tk a0 n8 q7.tk q7 e7) fun n8 q8 h8 sz8 K8 k8 o8=>?_
 have J6:=K07.trans K8
 refine ⟨⟨a0,rfl,rfl⟩,?_⟩
 refine LC ⟨by symm,by symm⟩ (dR ?_)
 have Lx:=J6.get _ _ gl not_mem_nil
 refine eN _ (fun n=>[(n,aj #[] 0)]) (fun n=>.call (.ref 743) ⟨[.ref 818,.ref n,.ref (x.st+845)],[]⟩) (Own.one k8 Lx (Nat.le_add_left ..)) .nil hA (fun n=>ao0 w x k sl loc n q8.tk) fun n9 q9 A9 h9 Z9 e9=>?_
 have Hl:=J6.trans Z9.K
 have gE:=Z9.own _ (mem_cons_self ..)
 have rS9:=row rS Hl
 have nES:n9+845≠x.st+845:=by
  intro q
  have l1:=(row rS J6).lt _ (mem_cons_self ..)
  rw [Z9.sz,← q] at l1
  exact absurd l1 (Nat.lt_irrefl _)
 refine jt (as:=[]) (ρs:=[]) (bF:=[]) (.inl rfl) Z9.hA (Z9.hD ▸ hD) Z9.kk (Nat.le_add_left ..) nES gE rS9 trivial aX gS (by simp) aX not_mem_nil ?_
 intro h10 Ug u U Ah _ f0 _
 obtain ⟨rfl,_⟩:=f0 rfl
 have Uh:=Hl.trans Ah
 refine dG _ [] (fun _ _=>[]) (Own.nil (Uh.kok kk aX)) .nil hA (by simp) (fun n11=>ao1 w x k sl loc n9 q8.tk (x.st+845) n11 Ug q9 e9) fun n11 q11 h11 an0 vL k11 o11=>?_
 have yQ:=Uh.trans vL
 refine uF (v:=.ref (x.st+845)) [1] hA k11 (yQ.get _ _ gl not_mem_nil) (fun n=>ao2 w x k sl loc n _) fun h12 ao4 nJ k12 Ax=>?_
 exact ⟨⟨_,rfl,rfl⟩,wpAny_allTrue_Or_nil ⟨rfl,post h12 _ (yQ.trans nJ) k12⟩⟩
end
end
section
open PySem.SeqAt (RcNeAt RcAt EqAt)
noncomputable def Hq (p:List Nat) (t:Nat) (q:List Nat) (u:Nat):Obj:=⟨.type "tuple",none,.seq ⟨[.str (S p) t,.str (S q) u]⟩ 0,⟨[]⟩⟩
noncomputable def j7 (i:Nat):List Nat:=match i with
 | 0=>[]
 | 1=>[120]
 | 2=>[39]
 | 3=>[34]
 | 4=>[92]
 | _=>[34,92]
noncomputable def nM (i:Nat):List Nat:=match i with
 | 1=>[120]
 | _=>[]
noncomputable def vU:Stmt:=dU 17
noncomputable def wQ (loc it:Nat):Code:=.forLoop (eY vU) (.ref it) (eG vU) [] (aU loc)
structure wR (cs:List Nat) (st:Nat) (out:List Nat):Prop where
 hst:st<6
 sg:∀ c∈cs++bf st,c∈sgn
 b1:cs.length≤900
 b2:2≤cs.length
 bo:out.length≤40000
 ex:∃ ws ws',Reads true (cs++bf st) ws none∧ws.length≤900∧bD (out++iV st)=ws++[[]]∧(2≤st→Reads true cs ws' (some (decide (4≤st))))∧ws'.length≤900
section
variable (w:World) (x:LV) (k k2:Nat→Nat) (sl:Array (Option Value)) (ar:Array Value) (c loc n tk n2 tk2 n3 tk3 n4 tk4 n5 lB n6 lg n7 Cj n8 Ls:Nat)
def u15 (w:World) (x:LV) (k:Nat→Nat) (sl:Array (Option Value)) (loc n tk:Nat):Rs:=wI w [] 15 (loc+845) [(loc+845,x.o w.params k sl 13)] n tk [1,1]
theorem c15:bZ (u15 w x k sl loc (n+845) tk) (.call (.builtin "str.join") ⟨[.str (S []) tk,.ref (x.told+845)],[]⟩) ([]++[(loc+845,x.o w.params k sl 13)]):=⟨⟨by symm,by symm⟩,by symm⟩
theorem d15 (q:Rs) (e:u15 w x k sl loc (n+845) tk=q) (xs:List Nat) (t:Nat):cU (aB w [] q (.ok (.ret (.str (S xs) t))) [(loc+845,x.o w.params k sl 13)] (n2+845) tk2 [1,1]) (.done .next)∧(aB w [] q (.ok (.ret (.str (S xs) t))) [(loc+845,x.o w.params k sl 13)] (n2+845) tk2 [1,1]).L=[(loc+845,({x with ln:=xs,lt:=t}:LV).o w.params (kOf (aB w [] q (.ok (.ret (.str (S xs) t))) [(loc+845,x.o w.params k sl 13)] (n2+845) tk2 [1,1]).L 0) sl 14)]:=by refine sb e ?_;exact ⟨by symm,by symm⟩
def u16 (w:World) (x:LV) (k:Nat→Nat) (sl:Array (Option Value)) (loc n tk:Nat):Rs:=wI w [] 16 (loc+845) [(loc+845,x.o w.params k sl 14)] n tk [8,8]
theorem c16:cU (u16 w x k sl loc (n+845) tk) (.done .next)∧(u16 w x k sl loc (n+845) tk).L=[(n+6+845,aj #[.ref (n+845),.ref (n+1+845),.ref (n+2+845),.ref (n+3+845),.ref (n+4+845),.ref (n+5+845)] 0),(n+5+845,Hq (j7 5) (tk+10) (nM 5) (tk+11)),(n+4+845,Hq (j7 4) (tk+8) (nM 4) (tk+9)),(n+3+845,Hq (j7 3) (tk+6) (nM 3) (tk+7)),(n+2+845,Hq (j7 2) (tk+4) (nM 2) (tk+5)),(n+1+845,Hq (j7 1) (tk+2) (nM 1) (tk+3)),(n+845,Hq (j7 0) tk (nM 0) (tk+1)),(loc+845,({x with hd:=n+6}:LV).o w.params (kOf (u16 w x k sl loc (n+845) tk).L 7) sl 15)]:=⟨by symm,by symm⟩
variable (it st t m:Nat) (hm:m=15∨m=16) (T t1 u1:Nat) (p q:List Nat)
include hm
def a1 (w:World) (x:LV) (k:Nat→Nat) (sl:Array (Option Value)) (ar:Array Value) (c loc n tk it st t m:Nat):Rs:=bL w [] (jX (eY vU) (.ref (it+845)) (.int (Int.ofNat st) t) (eG vU) [] (aU (loc+845))) [(loc+845,x.o w.params k sl m),(x.hd+845,aj ar c)] n tk [1,1,0,1,1,2,2,2,1]
theorem ca1:zL (a1 w x k sl ar c loc (n+845) tk it st t m) 0 (.call (.builtin "list.__getitem__") ⟨[.ref (x.hd+845),.int (Int.ofNat st) t],[]⟩) [] 0∧(a1 w x k sl ar c loc (n+845) tk it st t m).L=[(loc+845,({x with si:=st,tt:=t}:LV).o w.params (kOf (a1 w x k sl ar c loc (n+845) tk it st t m).L 0) sl 16),(x.hd+845,aj ar c)]:=by rcases hm with rfl | rfl <;> exact ⟨⟨by symm,by symm⟩,by symm⟩
variable (q1:Rs) (e1:a1 w x k sl ar c loc (n+845) tk it st t m=q1) (y:LV)
include e1
def a2 (w:World) (y:LV) (k2:Nat→Nat) (sl:Array (Option Value)) (loc n tk:Nat) (q1:Rs) (T t1 u1:Nat) (p q:List Nat):Rs:=w5 w [] q1 (.ref (T+845)) [(loc+845,y.o w.params k2 sl 16),(T+845,Hq p t1 q u1)] n tk (og 0x11102020222)
theorem ca2:bZ (a2 w y k2 sl loc (n2+845) tk2 q1 T t1 u1 p q) (.call (.builtin "str.__add__") ⟨[.str (S p) t1,.str (S y.ln) y.lt],[]⟩) ([]++[(loc+845,y.o w.params k2 sl 16),(T+845,Hq p t1 q u1)]):=by refine sb e1 ?_;refine so hm ?_ ?_ <;> exact ⟨⟨by symm,by symm⟩,by symm⟩
variable (q2:Rs) (e2:a2 w y k2 sl loc (n2+845) tk2 q1 T t1 u1 p q=q2) (xs:List Nat) (s3:Nat) (br:Array Value) (c3:Nat)
include e2
def a3 (w:World) (y:LV) (k2:Nat→Nat) (sl:Array (Option Value)) (loc n tk:Nat) (q2:Rs) (xs:List Nat) (s3:Nat) (br:Array Value) (c3:Nat):Rs:=w5 w [] q2 (.str (S xs) s3) [(loc+845,y.o w.params k2 sl 16),(y.W+845,aj br c3)] n tk [1,1,2,2,2,1]
theorem ca3:bZ (a3 w y k2 sl loc (n3+845) tk3 q2 xs s3 br c3) (.call (.builtin "list.__getitem__") ⟨[.ref (y.W+845),.int (Int.ofNat y.si) y.tt],[]⟩) ([]++[(loc+845,y.o w.params k2 sl 16),(y.W+845,aj br c3)]):=by refine sb e2 (sb e1 ?_);refine so hm ?_ ?_ <;> exact ⟨⟨by symm,by symm⟩,by symm⟩
variable (q3:Rs) (e3:a3 w y k2 sl loc (n3+845) tk3 q2 xs s3 br c3=q3) (U sx t4 u4:Nat) (ou:List Nat)
include e3
def a4 (w:World) (y:LV) (k2:Nat→Nat) (sl:Array (Option Value)) (loc n tk:Nat) (q3:Rs) (U sx t4 u4:Nat) (ou:List Nat) (ar:Array Value) (c:Nat):Rs:=w5 w [] q3 (.ref (U+845)) [(loc+845,y.o w.params k2 sl 16),(U+845,cu sx t4 ou u4),(y.hd+845,aj ar c)] n tk (og 0x113331102020222)
theorem ca4:bZ (a4 w y k2 sl loc (n4+845) tk4 q3 U sx t4 u4 ou ar c) (.call (.builtin "list.__getitem__") ⟨[.ref (y.hd+845),.int (Int.ofNat y.si) y.tt],[]⟩) ([]++[(loc+845,y.o w.params k2 sl 16),(U+845,cu sx t4 ou u4),(y.hd+845,aj ar c)]):=by refine sb e3 (sb e2 (sb e1 ?_));refine so hm ?_ ?_ <;> exact ⟨⟨by symm,by symm⟩,by symm⟩
variable (q4:Rs) (e4:a4 w y k2 sl loc (n4+845) tk4 q3 U sx t4 u4 ou ar c=q4)
include e4
def a5 (w:World) (y:LV) (k2:Nat→Nat) (sl:Array (Option Value)) (loc n tk:Nat) (q4:Rs) (T t1 u1:Nat) (p q:List Nat) (br:Array Value) (c3:Nat):Rs:=w5 w [] q4 (.ref (T+845)) [(loc+845,y.o w.params k2 sl 16),(T+845,Hq p t1 q u1),(y.W+845,aj br c3)] n tk (og 0x113331102020222)
theorem ca5:bZ (a5 w y k2 sl loc (n5+845) lB q4 T t1 u1 p q br c3) (.call (.builtin "list.__getitem__") ⟨[.ref (y.W+845),.int (Int.ofNat y.si) y.tt],[]⟩) ([]++[(loc+845,y.o w.params k2 sl 16),(T+845,Hq p t1 q u1),(y.W+845,aj br c3)]):=by refine sb e4 (sb e3 (sb e2 (sb e1 ?_)));refine so hm ?_ ?_ <;> exact ⟨⟨by symm,by symm⟩,by symm⟩
variable (q5:Rs) (e5:a5 w y k2 sl loc (n5+845) lB q4 T t1 u1 p q br c3=q5)
include e5
def a6 (w:World) (n tk:Nat) (q5:Rs) (U sx t4 u4:Nat) (ou:List Nat):Rs:=w5 w [] q5 (.ref (U+845)) [(U+845,cu sx t4 ou u4)] n tk [1,1,1,0,1,0,1,0,1]
theorem ca6:bZ (a6 w (n6+845) lg q5 U sx t4 u4 ou) (.call (.builtin "str.__add__") ⟨[.str (S q) u1,.str (S ou) u4],[]⟩) ([]++[(U+845,cu sx t4 ou u4)]):=by refine sb e5 (sb e4 (sb e3 (sb e2 (sb e1 ?_))));refine so hm ?_ ?_ <;> exact ⟨⟨by symm,by symm⟩,by symm⟩
variable (q6:Rs) (e6:a6 w (n6+845) lg q5 U sx t4 u4 ou=q6) (ys:List Nat) (s7:Nat)
include e6
def a7 (w:World) (n tk:Nat) (q6:Rs) (ys:List Nat) (s7:Nat):Rs:=w5 w [] q6 (.str (S ys) s7) [] n tk [0,1]
theorem ca7:bZ (a7 w (n7+845) Cj q6 ys s7) (.call (.ref 839) ⟨[.str (S xs) s3,.int (Int.ofNat sx) t4,.str (S ys) s7],[]⟩) ([]++[]):=by refine sb e6 (sb e5 (sb e4 (sb e3 (sb e2 (sb e1 ?_)))));refine so hm ?_ ?_ <;> exact ⟨⟨by symm,by symm⟩,by symm⟩
variable (q7:Rs) (e7:a7 w (n7+845) Cj q6 ys s7=q7)
include e7
theorem ca8:cU (w5 w [] q7 (.bool true) [] (n8+845) Ls []) (.again (wQ (loc+845) (it+845)))∧(w5 w [] q7 (.bool true) [] (n8+845) Ls []).L=[]:=by refine sb e7 (sb e6 (sb e5 (sb e4 (sb e3 (sb e2 (sb e1 ?_))))));refine so hm ?_ ?_ <;> exact ⟨by symm,by symm⟩
end
end
section
open PySem.SeqAt (RcNeAt RcAt EqAt)
section
variable {w:World} {g:Array GenState} {d:Drawn} {os:OsState} {A:Around} {R:Result→Shared→Prop} {h:Heap} {tk loc:Nat} {k:Nat→Nat} {sl:Array (Option Value)} {x:LV} {E:Value→Shared→Prop} {Q:Flow→Shared→Prop}
theorem ao5 {c:Nat} {ps:List (List Nat)} {vs:List Value} (hA:A.handled=none) (kk:au w h) (gl:h.get? (loc+845)=some (x.o w.params k sl 13)) (gT:h.get? (x.told+845)=some (aj vs.toArray c)) (hw:words ps vs) (h2:2≤ps.length) (hz:ps.flatten.length≤100000)
  (post:∀ h' tk' k' t,Keeps [loc+845] h h'→au w h'→h'.get? (loc+845)=some (({x with ln:=ps.flatten,lt:=t}:LV).o w.params k' sl 14)→Q .next ⟨h',g,d,tk',os⟩) :
  wpAny (model pw w) A (exec (dU 15) (aU (loc+845))) Q E ⟨h,g,d,tk,os⟩:=by
 have O:=Own.one kk gl (Nat.le_add_left ..)
 refine fX (bG (eN _ (fun n=>[]) (fun n=>.call (.builtin "str.join") ⟨[.str (S []) tk,.ref (x.told+845)],[]⟩) O .nil hA (fun n=>c15 w x k sl loc n tk) fun n q A1 h1 Z e=>?_))
 refine wG (Z.K.get _ _ gT not_mem_nil) hw h2 hz ?_
 intro t tk2
 refine dG _ [loc+845] (fun n q=>[(loc+845,({x with ln:=ps.flatten,lt:=t}:LV).o w.params (kOf q.L 0) sl 14)]) (O.next Z.K) .nil hA (by simp) (fun n2=>d15 w x k sl loc n tk n2 tk2 q e _ t) fun n3 q3 h3 Ni K3 k3 o3=>?_
 exact post h3 _ _ t (Z.K.to K3 aX (by simp)) k3 (o3 _ (mem_cons_self ..))
structure Ay (h:Heap) (H:Nat):Prop where
 list:∃ ar c,h.get? H=some (aj ar c)∧∀ i,i<6→∃ T t u,ar[i]? = some (.ref (T+845))∧h.get? (T+845)=some (Hq (j7 i) t (nM i) u)
theorem Ay.keepsF {h':Heap} {H:Nat} {m:List Addr} (X:Ay h H) (K:ak m h h') (nH:H∉m) (nt:∀ a∈m,∀ o,h.get? a=some o→o.cls≠.type "tuple"):Ay h' H:=by
 obtain ⟨ar,c,g,f⟩:=X.list
 refine ⟨ar,c,(K.get H nH _ g).1 (show Value.type "list" ≠ .type "frame" by decide),fun i hi=>?_⟩
 obtain ⟨T,t,u,e1,e2⟩:=f i hi
 exact ⟨T,t,u,e1,(K.get _ (fun hm=>nt _ hm _ e2 rfl) _ e2).1 (show Value.type "tuple" ≠ .type "frame" by decide)⟩
theorem ao6 (hA:A.handled=none) (kk:au w h) (gl:h.get? (loc+845)=some (x.o w.params k sl 14))
  (post:∀ h' tk' k' H,Keeps [loc+845] h h'→au w h'→h'.get? (loc+845)=some (({x with hd:=H}:LV).o w.params k' sl 15)→Ay h' (H+845)→Q .next ⟨h',g,d,tk',os⟩) :
  wpAny (model pw w) A (exec (dU 16) (aU (loc+845))) Q E ⟨h,g,d,tk,os⟩:=by
 have O:=Own.one kk gl (Nat.le_add_left ..)
 refine fX ?_
 refine bG ?_
 obtain ⟨n,R0⟩:=(Rep.start O.kk O.own O.nd O.lo).up
 obtain ⟨c1,c2⟩:=c16 w x k sl loc n tk
 revert c1 c2;refine gen (u16 w x k sl loc (n+845) tk) fun q e=>?_;intro c1 c2
 refine fZ q .nil hA R0 (v:=.done .next) c1 (fun h' R'=>?_) e.symm
 have own:∀ p∈q.L,h'.get? p.1=some p.2:=R'.own
 rw [c2] at own
 simp only [mem_cons,not_mem_nil,or_false,forall_eq_or_imp,forall_eq] at own
 obtain ⟨g6,g5,g4,g3,g2,g1,g0,RK⟩:=own
 have K:Keeps [loc+845] h h':=R'.keeps (G':=[]) (mod:=[loc+845]) rfl O.own aX (by simp)
 refine post h' _ _ (n+6) K R'.old RK ⟨_,_,g6,fun i hi=>?_⟩
 rcases six hi with rfl | rfl | rfl | rfl | rfl | rfl
 ·exact ⟨n,_,_,rfl,g0⟩
 ·exact ⟨n+1,_,_,rfl,g1⟩
 ·exact ⟨n+2,_,_,rfl,g2⟩
 ·exact ⟨n+3,_,_,rfl,g3⟩
 ·exact ⟨n+4,_,_,rfl,g4⟩
 ·exact ⟨n+5,_,_,rfl,g5⟩
theorem J9 (a:Nat):(aU a).scope.kind≠.module:=by
 intro x
 have z:gY (aU a)=true:=by symm
 unfold gY at z
 rw [x] at z
 cases z
theorem aG.lw {l:List Env} {m:Nat} (F:aG h l) (gl:h.get? (loc+845)=some (x.o w.params k sl m)):aG h (aU (loc+845)::l):=F.cons (J9 _) rfl gl rfl (fun vs q=>by cases q)
theorem Ke {it i t m sx:Nat} {l:List Env} {whole:aZ} {Tw ou:List Nat} (hm:m=15∨m=16) (hi:i<6) (hA:A.handled=none) (hD:A.depth+14<recursionLimit) (hu:A.units+9<cLine) (hfr:A.frames=some (aU (loc+845)::l)) (FF:aG h l) (nl:∀ env∈l,∀ a,env.frame=some a→a≠loc+845) (kk:au w h)
  (gl:h.get? (loc+845)=some (x.o w.params k sl m)) (XH:Ay h (x.hd+845)) (rW:aJ h (x.W+845) whole Tw) (hw:whole[i]? = some (sx,ou)) (tell:wR (j7 i++x.ln) sx (nM i++ou)) (V2:x.ln.length≤1000) (hou:ou.length≤30000)
  (post:∀ h' tk' k' sl',ak [loc+845] h h'→au w h'→h'.get? (loc+845)=some (({x with si:=i,tt:=t}:LV).o w.params k' sl' 16)→codeAny (model pw w) A (wQ (loc+845) (it+845)) R ⟨h',g,d,tk',os⟩) :
  wpAny (model pw w) A (jX (eY vU) (.ref (it+845)) (.int (Int.ofNat i) t) (eG vU) [] (aU (loc+845))) (FQ w A R) (NE w A (aU (loc+845)) R) ⟨h,g,d,tk,os⟩:=by
 obtain ⟨ar,c,gH,fH⟩:=XH.list
 obtain ⟨T,t1,u1,eT,gT⟩:=fH i hi
 obtain ⟨c3,gW⟩:=rW.list
 have lT:=rW.items.len
 have li:i<whole.length:=(List.getElem?_eq_some_iff.mp hw).1
 obtain ⟨t4,u4,gU⟩:=rW.items.nth i (lT ▸ li) li
 have ew:whole[i]=(sx,ou):=(List.getElem?_eq_some_iff.mp hw).2
 rw [ew] at gU
 obtain ⟨U,eU⟩:=cH (rW.lo _ (mem_cons_of_mem _ (List.getElem_mem (lT ▸ li))))
 rw [eU] at gU
 have hx:((Tw.map Value.ref).toArray)[i]? = some (.ref (U+845)):=by
  rw [List.getElem?_toArray,List.getElem?_map,List.getElem?_eq_getElem (lT ▸ li),eU]
  rfl
 have nf:∀ {a:Nat} {o:Obj},h.get? a=some o→o.cls≠.type "frame" → a≠loc+845:=fun e ne=>jw gl e ne
 have nH:=nf gH (show Value.type "list" ≠ .type "frame" by decide)
 have nT:=nf gT (show Value.type "tuple" ≠ .type "frame" by decide)
 have nW:=nf gW (show Value.type "list" ≠ .type "frame" by decide)
 have nU:=nf gU (show Value.type "tuple" ≠ .type "frame" by decide)
 have nTW:T+845≠x.W+845:=ne_of_cls gT gW (show Value.type "tuple" ≠ .type "list" by decide)
 have nUH:U+845≠x.hd+845:=ne_of_cls gU gH (show Value.type "tuple" ≠ .type "list" by decide)
 have le:=fun (a:Nat)=>Nat.le_add_left 845 a
 have O0:=Own.two kk gl (le _) gH (le _) (Ne.symm nH)
 obtain ⟨n,R0⟩:=(Rep.start O0.kk O0.own O0.nd O0.lo).up
 obtain ⟨cc1,cl1⟩:=ca1 w x k sl ar c loc n tk it i t m hm
 revert cc1 cl1;refine gen (a1 w x k sl ar c loc (n+845) tk it i t m) fun q1 e1=>?_;intro cc1 cl1
 refine bQ q1 .nil hA R0 (n:=0) (fr:=[]) (u:=0) cc1 (fun A1 h1 bT hD1 ql PL R1=>?_) e1.symm
 have cN:=R1.cast cl1
 have K1:Keeps [loc+845] h h1:=cN.keeps (G':=[(x.hd+845,aj ar c)]) (mod:=[loc+845]) rfl O0.own (by simp) (by simp)
 revert post cN;refine gen ({x with si:=i,tt:=t}:LV) fun y ey=>?_;intro post cN
 revert cN;refine gen (kOf q1.L 0) fun k2 ek=>?_;intro cN
 have fP:=cN.at (a:=loc+845) (o:=y.o w.params k2 sl 16) 0 rfl
 have k1:au w h1:=R1.old
 have V3:y.hd=x.hd:=by rw [← ey]
 have Oo:y.W=x.W:=by rw [← ey]
 have eyl:y.ln=x.ln:=by rw [← ey]
 have Qg:y.si=i:=by rw [← ey]
 have eyt:y.tt=t:=by rw [← ey]
 have Ui:=K1.get _ _ gH (cZ nH)
 have Ja:=K1.get _ _ gT (cZ nT)
 have V4:=K1.get _ _ gW (cZ nW)
 have Jb:=K1.get _ _ gU (cZ nU)
 have hi':i<100000:=Nat.lt_of_lt_of_le hi (by decide)
 have lp:(j7 i).length≤2:=by unfold j7;split <;> simp
 have lq:(nM i).length≤1:=by unfold nM;split <;> simp
 refine bU Ui eT hi' ?_
 refine cY _ (fun n=>[]) (fun n=>.call (.builtin "str.__add__") ⟨[.str (S (j7 i)) t1,.str (S y.ln) y.lt],[]⟩) (Own.two k1 fP (le _) Ja (le _) (Ne.symm nT)) .nil hA (fun n2=>ca2 w x k k2 sl ar c loc n tk n2 q1.tk it i t m hm T t1 u1 (j7 i) (nM i) q1 e1 y) fun n2 q2 A2 h2 Z2 e2=>?_
 refine gK (by rw [eyl];lia) ?_
 intro s3 tk3
 have dX:=Z2.K.get _ _ fP not_mem_nil
 have gW2:=Z2.K.get _ _ V4 not_mem_nil
 refine cY _ (fun n=>[]) (fun n=>.call (.builtin "list.__getitem__") ⟨[.ref (y.W+845),.int (Int.ofNat y.si) y.tt],[]⟩) (Own.two Z2.kk dX (le _) (Oo.symm ▸ gW2) (le _) (Oo.symm ▸ Ne.symm nW)) .nil hA (fun n3=>ca3 w x k k2 sl ar c loc n tk n2 q1.tk n3 tk3 it i t m hm T t1 u1 (j7 i) (nM i) q1 e1 y q2 e2 _ s3 _ c3) fun n3 q3 A3 h3 Z3 e3=>?_
 have mz:=Z2.K.trans Z3.K
 refine bU (Oo.symm ▸ mz.get _ _ V4 not_mem_nil) (Qg.symm ▸ hx) (Qg.symm ▸ hi') ?_
 have O4:=(Own.two (h:=h3) Z3.kk (mz.get _ _ Jb not_mem_nil) (le _) (V3.symm ▸ mz.get _ _ Ui not_mem_nil) (le y.hd) (V3.symm ▸ nUH)).cons (mz.get _ _ fP not_mem_nil) (le _) (by simp only [map_cons,map_nil,mem_cons,not_mem_nil,or_false,not_or];exact ⟨Ne.symm nU,V3.symm ▸ Ne.symm nH⟩)
 refine cY _ (fun n=>[]) (fun n=>.call (.builtin "list.__getitem__") ⟨[.ref (y.hd+845),.int (Int.ofNat y.si) y.tt],[]⟩) O4 .nil hA (fun n4=>ca4 w x k k2 sl ar c loc n tk n2 q1.tk n3 tk3 n4 q3.tk it i t m hm T t1 u1 (j7 i) (nM i) q1 e1 y q2 e2 _ s3 _ c3 q3 e3 U sx t4 u4 ou) fun n4 q4 A4 h4 Z4 e4=>?_
 have zj:=mz.trans Z4.K
 refine bU (V3.symm ▸ zj.get _ _ Ui not_mem_nil) (Qg.symm ▸ eT) (Qg.symm ▸ hi') ?_
 have O5:=(Own.two (h:=h4) Z4.kk (zj.get _ _ Ja not_mem_nil) (le _) (Oo.symm ▸ zj.get _ _ V4 not_mem_nil) (le y.W) (Oo.symm ▸ nTW)).cons (zj.get _ _ fP not_mem_nil) (le _) (by simp only [map_cons,map_nil,mem_cons,not_mem_nil,or_false,not_or];exact ⟨Ne.symm nT,Oo.symm ▸ Ne.symm nW⟩)
 refine cY _ (fun n=>[]) (fun n=>.call (.builtin "list.__getitem__") ⟨[.ref (y.W+845),.int (Int.ofNat y.si) y.tt],[]⟩) O5 .nil hA (fun n5=>ca5 w x k k2 sl ar c loc n tk n2 q1.tk n3 tk3 n4 q3.tk n5 q4.tk it i t m hm T t1 u1 (j7 i) (nM i) q1 e1 y q2 e2 _ s3 _ c3 q3 e3 U sx t4 u4 ou q4 e4) fun n5 q5 A5 h5 Z5 e5=>?_
 have Uj:=zj.trans Z5.K
 refine bU (Oo.symm ▸ Uj.get _ _ V4 not_mem_nil) (Qg.symm ▸ hx) (Qg.symm ▸ hi') ?_
 refine cY _ (fun n=>[]) (fun n=>.call (.builtin "str.__add__") ⟨[.str (S (nM i)) u1,.str (S ou) u4],[]⟩) (Own.one Z5.kk (Uj.get _ _ Jb not_mem_nil) (le _)) .nil hA (fun n6=>ca6 w x k k2 sl ar c loc n tk n2 q1.tk n3 tk3 n4 q3.tk n5 q4.tk n6 q5.tk it i t m hm T t1 u1 (j7 i) (nM i) q1 e1 y q2 e2 _ s3 _ c3 q3 e3 U sx t4 u4 ou q4 e4 q5 e5) fun n6 q6 A6 h6 Z6 e6=>?_
 refine gK (by lia) ?_
 intro s7 Cj
 refine cY _ (fun n=>[]) (fun n=>.call (.ref 839) ⟨[.str (S (j7 i++y.ln)) s3,.int (Int.ofNat sx) t4,.str (S (nM i++ou)) s7],[]⟩) (Own.nil Z6.kk) .nil hA (fun n7=>ca7 w x k k2 sl ar c loc n tk n2 q1.tk n3 tk3 n4 q3.tk n5 q4.tk n6 q5.tk n7 Cj it i t m hm T t1 u1 (j7 i) (nM i) q1 e1 y q2 e2 _ s3 _ c3 q3 e3 U sx t4 u4 ou q4 e4 q5 e5 q6 e6 _ s7) fun n7 q7 A7 h7 Z7 e7=>?_
 have LK:=(Uj.trans Z6.K).trans Z7.K
 have FF7:aG h7 (aU (loc+845)::l):=((FF.keepsL gl K1 nl).keeps fun env he a _=>LK.f.get a not_mem_nil).lw (LK.get _ _ fP not_mem_nil)
 rw [eyl]
 obtain ⟨ws,ws',rd,hws,hs,rd',ao8⟩:=tell.ex
 refine Af tell.hst Z7.hA (by rw [Z7.hD];exact hD) (by rw [Z7.hU];exact hu) (Z7.hF _ hfr) FF7 Z7.kk tell.sg tell.b1 tell.b2 tell.bo rd hws hs rd' ao8 ?_
 intro h8 Ls K8
 have k8:au w h8:=K8.kok Z7.kk aX
 refine dG _ [] (fun _ _=>[]) (Own.nil k8) .nil hA (by simp) (fun n9=>ca8 w x k k2 sl ar c loc n tk n2 q1.tk n3 tk3 n4 q3.tk n5 q4.tk n6 q5.tk n7 Cj n9 Ls it i t m hm T t1 u1 (j7 i) (nM i) q1 e1 y q2 e2 _ s3 _ c3 q3 e3 U sx t4 u4 ou q4 e4 q5 e5 q6 e6 _ s7 q7 e7) fun n9 q9 h9 sz9 K9 k9 o9=>?_
 obtain ⟨_,sl8,Lx⟩:=K8.get _ not_mem_nil _ (LK.get _ _ fP not_mem_nil)
 exact ⟨rfl,post h9 _ k2 sl8 ((K1.f.trans ((LK.f.mono aX).trans (K8.mono aX))).trans (K9.f.mono aX)) k9 (K9.get _ _ Lx not_mem_nil)⟩
theorem aJ.keepsF {h':Heap} {a:Nat} {ρ:aZ} {Ts:List Nat} {m:List Addr} (r:aJ h a ρ Ts) (K:ak m h h') (nt:aA h m) (na:a∉m):aJ h' a ρ Ts:=⟨r.list.imp fun c e=>(K.get a na _ e).1 (show Value.type "list" ≠ .type "frame" by decide),r.items.keepsF K nt,r.lo,r.nd⟩
theorem Kf {it:Nat} {l:List Env} {whole:aZ} {Tw ln:List Nat} {W hd:Nat} (hA:A.handled=none) (hD:A.depth+14<recursionLimit) (hu:A.units+9<cLine) (hfr:A.frames=some (aU (loc+845)::l)) (V2:ln.length≤1000) (nl:∀ env∈l,∀ a,env.frame=some a→a≠loc+845) (ni:∀ env∈l,∀ a,env.frame=some a→a≠it+845) :
  ∀ (r b:Nat) {x:LV} {k:Nat→Nat} {sl:Array (Option Value)} {m:Nat} {h:Heap} {tk:Nat},b+r=6→m=15∨m=16→(x.ln,x.W,x.hd)=(ln,W,hd)→aG h l→au w h→h.get? (it+845)=some (wW (Int.ofNat b) (Int.ofNat r))→h.get? (loc+845)=some (x.o w.params k sl m)→Ay h (hd+845)→aJ h (W+845) whole Tw →
   (∀ i,b≤i→i<6→∃ sx ou,whole[i]? = some (sx,ou)∧wR (j7 i++ln) sx (nM i++ou)∧ou.length≤30000) →
   (∀ h' tk' x' k' sl' m',ak [loc+845,it+845] h h'→au w h'→h'.get? (loc+845)=some ((x':LV).o w.params k' sl' m')→R (.ok .next) ⟨h',g,d,tk',os⟩) →
   codeAny (model pw w) A (wQ (loc+845) (it+845)) R ⟨h,g,d,tk,os⟩:=by
 intro r
 induction r with
 | zero=>
  intro b x k sl m h tk hb hm ex FF kk gi gl XH rW tell post
  refine cg (kE hA gi (Int.le_refl _) fun h1 K1=>?_)
  exact post h1 tk x k sl m (K1.f.mono (by simp)) (K1.kok kk (by simp)) (K1.get _ _ gl (cZ (ne_of_cls gl gi (show Value.type "frame" ≠ .type "range_iterator" by decide))))
 | succ r ih=>
  intro b x k sl m h tk hb hm ex FF kk gi gl XH rW tell post
  obtain ⟨e1,ex⟩:=Prod.mk.inj ex
  obtain ⟨e2,e3⟩:=Prod.mk.inj ex
  have b6:b<6:=by lia
  refine cg (iG gi (by simp only [Int.ofNat_eq_natCast];lia) fun h1 K1 jK=>?_)
  have nti:=aA.one gi (show Value.type "range_iterator" ≠ .type "tuple" by decide)
  obtain ⟨ar,c,gH,_⟩:=XH.list
  obtain ⟨c3,gW⟩:=rW.list
  have Vp:loc+845∉[it+845]:=cZ (ne_of_cls gl gi (show Value.type "frame" ≠ .type "range_iterator" by decide))
  have fP:=K1.get _ _ gl Vp
  have XH1:=XH.keepsF K1.f (cZ (ne_of_cls gH gi (show Value.type "list" ≠ .type "range_iterator" by decide))) nti
  have rW1:=rW.keepsF K1.f nti (cZ (ne_of_cls gW gi (show Value.type "list" ≠ .type "range_iterator" by decide)))
  have F1:=FF.keepsL gi K1 ni
  obtain ⟨sx,ou,hw,tl,hou⟩:=tell b (Nat.le_refl _) b6
  refine Ke (l:=l) hm b6 hA hD hu hfr F1 nl (K1.kok kk (by simp)) fP (e3 ▸ XH1) (e2 ▸ rW1) hw (e1 ▸ tl) (e1 ▸ V2) hou ?_
  intro h2 tk2 k2 sl2 K2 k2' dX
  have Vv:=aA.one fP (show Value.type "frame" ≠ .type "tuple" by decide)
  obtain ⟨ar1,c1,Ui,_⟩:=XH1.list
  have eb1:Int.ofNat b+1=Int.ofNat (b+1):=rfl
  have V1:Int.ofNat (r+1) - 1=Int.ofNat r:=by simp only [Int.ofNat_eq_natCast];lia
  rw [eb1,V1] at jK
  have F2:aG h2 l:=F1.keeps fun env he a ea=>K2.get a (cZ (nl env he a ea))
  refine ih (b+1) (by lia) (.inr rfl) (by rw [← e1,← e2,← e3]) F2 k2' ((K2.get _ (cZ (Ne.symm (by simpa using Vp))) _ jK).1 (show Value.type "range_iterator" ≠ .type "frame" by decide)) dX (XH1.keepsF K2 (cZ (jw fP Ui (show Value.type "list" ≠ .type "frame" by decide))) Vv) (rW1.keepsF K2 Vv (cZ (rW1.notin fP (show Value.type "frame" ≠ .type "list" by decide)))) (fun i hi=>tell i (Nat.le_of_succ_le hi)) ?_
  intro h3 tk3 x3 k3' sl3 m3 K3 k3 iz
  exact post h3 tk3 x3 k3' sl3 m3 (((K1.f.mono (by simp)).trans (K2.mono (by simp))).trans K3) k3 iz
end
section
variable (w:World) (x:LV) (k:Nat→Nat) (sl:Array (Option Value)) (loc n tk n2 tk2:Nat)
def Uk (w:World) (x:LV) (k:Nat→Nat) (sl:Array (Option Value)) (loc n tk:Nat):Rs:=wI w [] 17 (loc+845) [(loc+845,x.o w.params k sl 15)] n tk (og 0x11111101011101011000000)
theorem c17:zL (Uk w x k sl loc (n+845) tk) 0 (wQ (loc+845) (n+1+845)) [] 0∧(Uk w x k sl loc (n+845) tk).L.take 1=[(n+1+845,wW 0 6)]∧(Uk w x k sl loc (n+845) tk).L.drop 2=[(loc+845,x.o w.params k sl 15)]:=⟨⟨by symm,by symm⟩,by symm,by symm⟩
theorem d17 (q:Rs) (e:Uk w x k sl loc (n+845) tk=q):cU (aB w [] q (.ok .next) [] (n2+845) tk2 []) (.done .next)∧(aB w [] q (.ok .next) [] (n2+845) tk2 []).L=[]:=by refine sb e ?_;exact ⟨by symm,by symm⟩
theorem c18:bZ (wI w [] 18 (loc+845) [] (n+845) tk [0,0,1]) (.call (.ref 832) ⟨[],[]⟩) ([]++[]):=⟨⟨by symm,by symm⟩,by symm⟩
theorem d18 (q:Rs) (e:wI w [] 18 (loc+845) [] (n+845) tk [0,0,1]=q):cU (aB w [] q (.ok (.ret (.bool true))) [] (n2+845) tk2 []) (.done (.ret (.bool true)))∧(aB w [] q (.ok (.ret (.bool true))) [] (n2+845) tk2 []).L=[]:=by refine sb e ?_;exact ⟨by symm,by symm⟩
end
section
variable {w:World} {g:Array GenState} {d:Drawn} {os:OsState} {A:Around} {R:Result→Shared→Prop} {h:Heap} {tk loc:Nat} {k:Nat→Nat} {sl:Array (Option Value)} {x:LV} {E:Value→Shared→Prop} {Q:Flow→Shared→Prop}
theorem ap1 {l:List Env} {whole:aZ} {Tw:List Nat} (hA:A.handled=none) (hD:A.depth+14<recursionLimit) (hu:A.units+9<cLine) (hfr:A.frames=some (aU (loc+845)::l)) (FF:aG h l) (nl:∀ env∈l,∀ a,env.frame=some a→a≠loc+845) (kk:au w h) (gl:h.get? (loc+845)=some (x.o w.params k sl 15)) (XH:Ay h (x.hd+845)) (rW:aJ h (x.W+845) whole Tw) (V2:x.ln.length≤1000)
  (tell:∀ i,i<6→∃ sx ou,whole[i]? = some (sx,ou)∧wR (j7 i++x.ln) sx (nM i++ou)∧ou.length≤30000)
  (post:∀ h' tk' x' k' sl' m',ak [loc+845] h h'→au w h'→h'.get? (loc+845)=some ((x':LV).o w.params k' sl' m')→Q .next ⟨h',g,d,tk',os⟩) :
  wpAny (model pw w) A (exec (dU 17) (aU (loc+845))) Q E ⟨h,g,d,tk,os⟩:=by
 have O:=Own.one kk gl (Nat.le_add_left ..)
 refine fX ?_
 refine bG ?_
 obtain ⟨n,R0⟩:=(Rep.start O.kk O.own O.nd O.lo).up
 have dW:h.objs.size=n+845:=R0.size
 obtain ⟨c1,c2,c3⟩:=c17 w x k sl loc n tk
 revert c1 c2 c3;refine gen (Uk w x k sl loc (n+845) tk) fun q e=>?_;intro c1 c2 c3
 refine bQ q .nil hA R0 (n:=0) (fr:=[]) (u:=0) c1 (fun A1 h1 bT hD1 ql PL R1=>?_) e.symm
 have gi:h1.get? (n+1+845)=some (wW 0 6):=R1.own _ (List.mem_of_mem_take (i:=1) (by rw [c2];exact mem_cons_self ..))
 have K1:Keeps [] h h1:=(R1.done 2 (mod:=[]) c3 rfl O.own (fun p hp=>.inr hp)).1
 have fP:=K1.get _ _ gl not_mem_nil
 obtain ⟨ar,c,gH,_⟩:=XH.list
 have ni:∀ env∈l,∀ a,env.frame=some a→a≠n+1+845:=FF.old (by rw [dW];lia)
 refine Kf (l:=l) bT (by rw [hD1];exact hD) (by rw [PL];exact hu) (ql _ hfr) V2 nl ni 6 0 rfl (.inl rfl) rfl (FF.keeps fun env he a _=>K1.f.get a not_mem_nil) R1.old gi fP (XH.keepsF K1.f not_mem_nil aX) (rW.keepsF K1.f (by simp [aA]) not_mem_nil) (fun i _ hi=>tell i hi) ?_
 intro h2 tk2 x2 k2' sl2 m2 K2 k2 dX
 refine dG _ [] (fun _ _=>[]) (Own.nil k2) .nil hA (by simp) (fun n2=>d17 w x k sl loc n tk n2 tk2 q e) fun n3 q3 h3 Ni K3 k3 o3=>?_
 exact post h3 _ x2 k2' sl2 m2 ((K1.f.to (m:=[loc+845]) K2 aX (by
  intro y hy
  simp only [mem_cons,not_mem_nil,or_false] at hy
  rcases hy with rfl | rfl
  ·exact .inl mem_cons_self
  ·exact .inr (by rw [dW];lia))).trans (K3.f.mono aX)) k3 (K3.get _ _ dX not_mem_nil)
theorem ap2 {l:List Env} (hA:A.handled=none) (hD:A.depth+3<recursionLimit) (hu:A.units+6<cLine) (hfr:A.frames=some (aU (loc+845)::l)) (FF:aG h (aU (loc+845)::l)) (kk:au w h)
  (post:∀ h' tk',ak [] h h'→Q (.ret (.bool true)) ⟨h',g,d,tk',os⟩) :
  wpAny (model pw w) A (exec (dU 18) (aU (loc+845))) Q E ⟨h,g,d,tk,os⟩:=by
 refine fX ?_
 refine bG ?_
 refine eN _ (fun n=>[]) (fun n=>.call (.ref 832) ⟨[],[]⟩) (Own.nil kk) .nil hA (fun n=>c18 w loc n tk) fun n q A1 h1 Z e=>?_
 refine m9 Z.hA (by rw [Z.hD];exact hD) (by rw [Z.hU];exact hu) (Z.hF _ hfr) (FF.keeps fun env he a _=>Z.K.f.get a not_mem_nil) Z.kk ?_
 intro h2 tk2 K2
 refine dG _ [] (fun _ _=>[]) (Own.nil (K2.kok Z.kk aX)) .nil hA (by simp) (fun n2=>d18 w loc n tk n2 tk2 q e) fun n3 q3 h3 Ni K3 k3 o3=>?_
 exact post h3 _ ((Z.K.f.trans K2).trans K3.f)
end
end
theorem iW:∀ (p q:List Nat) (st:Nat),aP st (p++q)=((aP (aP st p).1 q).1,(aP st p).2++(aP (aP st p).1 q).2)
 | [],q,st=>rfl
 | c::p,q,st=>by
  simp only [List.cons_append,aP,iW p q,List.append_assoc]
theorem Br (p:List Nat) {i:Nat} (h:i<6):(rowOf p)[i]? = some (aP i p):=by
 unfold rowOf
 rw [List.getElem?_map,List.getElem?_range h]
 rfl
theorem pY (p q:List Nat):eH (rowOf p) (rowOf q)=rowOf (p++q):=by
 show ((List.range 6).map fun b=>aP b p).map (jY (rowOf q))=(List.range 6).map fun b=>aP b (p++q)
 rw [List.map_map]
 refine List.map_congr_left fun b hb=>?_
 show jY (rowOf q) (aP b p)=_
 unfold jY
 rw [Br q (rU p (List.mem_range.mp hb)),iW]
 rfl
theorem Dp:fL=rowOf []:=rfl
theorem j8:∀ (qs:List (List Nat)) (p:List Nat),(qs.map rowOf).foldl eH (rowOf p)=rowOf (p++qs.flatten)
 | [],p=>by simp
 | q::qs,p=>by
  rw [map_cons,List.foldl_cons,pY,j8 qs,List.flatten_cons,List.append_assoc]
theorem yR:∀ (qs:List (List Nat)) (p:List Nat),(qs.map rowOf).foldl (fun a b=>eH b a) (rowOf p)=rowOf (qs.reverse.flatten++p)
 | [],p=>by simp
 | q::qs,p=>by
  rw [map_cons,List.foldl_cons,pY,yR qs,List.reverse_cons,List.flatten_append]
  simp
noncomputable def Kg:Out→List (List Nat)→Option Bool→Prop
 | .brk sp t q rest,ws,fin=>(t=[]∧q=false∧ws=[]∧fin=none)∨(¬ (t=[]∧q=false)∧∃ Qm,ws=t::Qm∧Reads sp rest Qm fin)
 | .bad esc,ws,fin=>ws=[]∧fin=some esc
theorem Kg.reads {cs:List Nat} {ws:List (List Nat)} {fin:Option Bool} (h:Kg (rt cs .sp [] false) ws fin):Reads true cs ws fin:=by
 cases e:rt cs .sp [] false with
 | brk sp t q rest=>
  rw [e] at h
  rcases h with ⟨rfl,rfl,rfl,rfl⟩ | ⟨hn,Qm,rfl,r⟩
  ·exact .stop e
  ·exact .word e hn r
 | bad esc=>
  rw [e] at h
  obtain ⟨rfl,rfl⟩:=h
  exact .bad e
theorem mj:∀ {tok:List Nat} (rest:List Nat),(∀ c∈tok,c≠0)→bD (tok++0::rest)=tok::bD rest
 | [],rest,_=>by simp [bD]
 | c::tok,rest,h=>by
  have h0:c≠0:=h c (mem_cons_self ..)
  rw [List.cons_append,bD,if_neg h0,mj rest fun x hx=>h x (mem_cons_of_mem _ hx)]
noncomputable def mi:Mo→Nat
 | .sp=>0
 | .a=>1
 | .sq=>2
 | .dq=>3
 | .ea=>4
 | .eq=>5
noncomputable def Goes (m:Mo) (tok:List Nat) (qd:Bool) (cs:List Nat):Prop:=
 ((aP (mi m) cs).1<2→∃ ws,Kg (rt cs m tok qd) ws none∧bD (tok++(aP (mi m) cs).2++List.replicate (aP (mi m) cs).1 0)=ws++[[]]∧ws.length≤cs.length+1) ∧
 (2≤(aP (mi m) cs).1→∃ ws,Kg (rt cs m tok qd) ws (some (decide (4≤(aP (mi m) cs).1)))∧ws.length≤cs.length+1)
theorem Goes.step {m m':Mo} {tok tok' o:List Nat} {qd M7:Bool} {c:Nat} {cs:List Nat} (h:Goes m' tok' M7 cs) (e1:bM (mi m) c=(mi m',o)) (e2:rt (c::cs) m tok qd=rt cs m' tok' M7) (e3:tok'=tok++o):Goes m tok qd (c::cs):=by
 have e:aP (mi m) (c::cs)=((aP (mi m') cs).1,o++(aP (mi m') cs).2):=by
  show (let a:=bM (mi m) c;let b:=aP a.1 cs;(b.1,a.2++b.2))=_
  rw [e1]
 unfold Goes
 rw [e,e2]
 obtain ⟨h1,h2⟩:=h
 refine ⟨fun x=>?_,fun x=>?_⟩
 ·obtain ⟨ws,a,b,c⟩:=h1 x
  refine ⟨ws,a,?_,Nat.le_succ_of_le c⟩
  rw [← b,e3]
  simp only [List.append_assoc]
 ·obtain ⟨ws,a,c⟩:=h2 x
  exact ⟨ws,a,Nat.le_succ_of_le c⟩
theorem goes:∀ (cs:List Nat) (m:Mo) (tok:List Nat) (qd:Bool),Fz m tok qd→(∀ c∈tok,c≠0)→(∀ c∈cs,c≠0)→Goes m tok qd cs:=by
 intro cs
 induction cs with
 | nil=>
  intro m tok qd hm ht _
  cases m with
  | sp=>
   obtain ⟨rfl,rfl⟩:=hm
   exact ⟨fun _=>⟨[],.inl ⟨rfl,rfl,rfl,rfl⟩,rfl,by simp⟩,fun x=>absurd x (by decide)⟩
  | a=>
   refine ⟨fun _=>⟨[tok],.inr ⟨fun x=>?_,[],rfl,.stop (sp:=false) (rest:=[]) rfl⟩,?_,by simp⟩,fun x=>absurd x (by decide)⟩
   ·have:=hm x.1
    rw [x.2] at this
    cases this
   ·show bD (tok++[]++[0])=_
    rw [List.append_nil,mj [] ht]
    rfl
  | sq=>exact ⟨fun x=>absurd x (by decide),fun _=>⟨[],⟨rfl,rfl⟩,by simp⟩⟩
  | dq=>exact ⟨fun x=>absurd x (by decide),fun _=>⟨[],⟨rfl,rfl⟩,by simp⟩⟩
  | ea=>exact ⟨fun x=>absurd x (by decide),fun _=>⟨[],⟨rfl,rfl⟩,by simp⟩⟩
  | eq=>exact ⟨fun x=>absurd x (by decide),fun _=>⟨[],⟨rfl,rfl⟩,by simp⟩⟩
 | cons c cs ih=>
  intro m tok qd hm ht hc
  have c0:c≠0:=hc c (mem_cons_self ..)
  have hc':∀ x∈cs,x≠0:=fun x hx=>hc x (mem_cons_of_mem _ hx)
  have app:∀ {l:List Nat},(∀ x∈l,x≠0)→∀ x∈tok++l,x≠0:=fun hl x hx=>by
   rcases List.mem_append.mp hx with h | h
   ·exact ht x h
   ·exact hl x h
  have one:∀ x∈[c],x≠0:=bK c0
  have nn:∀ {l:List Nat},tok++[c]++l=[]→False:=by simp
  cases m with
  | sp=>
   obtain ⟨rfl,rfl⟩:=hm
   by_cases w:c=32∨c=9∨c=13∨c=10
   ·exact (ih .sp [] false ⟨rfl,rfl⟩ aX hc').step (o:=[]) (by simp [bM,mi,w]) (by rw [rt,if_pos w]) rfl
   by_cases b:c=92
   ·exact (ih .ea [] false trivial aX hc').step (o:=[]) (by simp [bM,mi,w,b]) (by rw [rt,if_neg w,if_pos b]) rfl
   by_cases s:c=39
   ·exact (ih .sq [] false trivial aX hc').step (o:=[]) (by simp [bM,mi,w,b,s]) (by rw [rt,if_neg w,if_neg b,if_pos s]) rfl
   by_cases d:c=34
   ·exact (ih .dq [] false trivial aX hc').step (o:=[]) (by simp [bM,mi,w,b,s,d]) (by rw [rt,if_neg w,if_neg b,if_neg s,if_pos d]) rfl
   exact (ih .a [c] false (by intro x;cases x) one hc').step (o:=[c]) (by simp [bM,mi,w,b,s,d]) (by rw [rt,if_neg w,if_neg b,if_neg s,if_neg d]) rfl
  | a=>
   by_cases w:c=32∨c=9∨c=13∨c=10
   ·have g:=ih .sp [] false ⟨rfl,rfl⟩ aX hc'
    have e:aP 1 (c::cs)=((aP 0 cs).1,0::(aP 0 cs).2):=by
     show (let a:=bM 1 c;let b:=aP a.1 cs;(b.1,a.2++b.2))=_
     simp [bM,w]
    have e2:rt (c::cs) .a tok qd=.brk true tok qd cs:=by rw [rt,if_pos w]
    have nw:¬ (tok=[]∧qd=false):=fun x=>by
     have:=hm x.1
     rw [x.2] at this
     cases this
    unfold Goes
    rw [show mi .a=1 from rfl,e,e2]
    refine ⟨fun x=>?_,fun x=>?_⟩
    ·obtain ⟨ws,p,q,r⟩:=g.1 x
     refine ⟨tok::ws,.inr ⟨nw,ws,rfl,p.reads⟩,?_,Nat.succ_le_succ r⟩
     simp only [List.append_assoc,List.cons_append]
     rw [mj _ ht]
     have q':bD ((aP 0 cs).2++List.replicate (aP 0 cs).1 0)=ws++[[]]:=q
     rw [q']
    ·obtain ⟨ws,p,r⟩:=g.2 x
     exact ⟨tok::ws,.inr ⟨nw,ws,rfl,p.reads⟩,Nat.succ_le_succ r⟩
   by_cases b:c=92
   ·exact (ih .ea tok qd trivial ht hc').step (o:=[]) (by simp [bM,mi,w,b]) (by rw [rt,if_neg w,if_pos b]) (by simp)
   by_cases s:c=39
   ·exact (ih .sq tok qd trivial ht hc').step (o:=[]) (by simp [bM,mi,w,b,s]) (by rw [rt,if_neg w,if_neg b,if_pos s]) (by simp)
   by_cases d:c=34
   ·exact (ih .dq tok qd trivial ht hc').step (o:=[]) (by simp [bM,mi,w,b,s,d]) (by rw [rt,if_neg w,if_neg b,if_neg s,if_pos d]) (by simp)
   exact (ih .a (tok++[c]) qd (by intro x;simp at x) (app one) hc').step (o:=[c]) (by simp [bM,mi,w,b,s,d]) (by rw [rt,if_neg w,if_neg b,if_neg s,if_neg d]) rfl
  | sq=>
   by_cases s:c=39
   ·exact (ih .a tok true (fun _=>rfl) ht hc').step (o:=[]) (by simp [bM,mi,s]) (by rw [rt,if_pos s]) (by simp)
   exact (ih .sq (tok++[c]) true trivial (app one) hc').step (o:=[c]) (by simp [bM,mi,s]) (by rw [rt,if_neg s]) rfl
  | dq=>
   by_cases d:c=34
   ·exact (ih .a tok true (fun _=>rfl) ht hc').step (o:=[]) (by simp [bM,mi,d]) (by rw [rt,if_pos d]) (by simp)
   by_cases b:c=92
   ·exact (ih .eq tok true trivial ht hc').step (o:=[]) (by simp [bM,mi,d,b]) (by rw [rt,if_neg d,if_pos b]) (by simp)
   exact (ih .dq (tok++[c]) true trivial (app one) hc').step (o:=[c]) (by simp [bM,mi,d,b]) (by rw [rt,if_neg d,if_neg b]) rfl
  | ea=>exact (ih .a (tok++[c]) qd (by intro x;simp at x) (app one) hc').step (o:=[c]) (by simp [bM,mi]) rfl rfl
  | eq=>
   by_cases b:c=34∨c=92
   ·exact (ih .dq (tok++[c]) qd trivial (app one) hc').step (o:=[c]) (by simp [bM,mi,b]) (by rw [rt,if_pos b]) rfl
   exact (ih .dq (tok++[92]++[c]) qd trivial (by rw [List.append_assoc];exact app (by simpa using c0)) hc').step (o:=[92,c]) (by simp [bM,mi,b]) (by rw [rt,if_neg b]) (by simp)
theorem Dq {st:Nat} (h:st<6):∃ e,e<2∧aP st (bf st)=(e,(aP st (bf st)).2)∧(aP st (bf st)).2++List.replicate e 0=iV st:=by
 rcases six h with rfl | rfl | rfl | rfl | rfl | rfl
 ·exact ⟨0,by decide,rfl,rfl⟩
 ·exact ⟨1,by decide,rfl,rfl⟩
 ·exact ⟨1,by decide,rfl,rfl⟩
 ·exact ⟨1,by decide,rfl,rfl⟩
 ·exact ⟨1,by decide,rfl,rfl⟩
 ·exact ⟨1,by decide,rfl,rfl⟩
theorem Hr {i:Nat} (h:i<6):aP 0 (j7 i)=(i,nM i):=by
 rcases six h with rfl | rfl | rfl | rfl | rfl | rfl <;> rfl
theorem Ht {c:Nat} (h:c∈sgn):c≠0:=by
 intro x
 subst x
 exact absurd h (by decide)
theorem Oq (i:Nat):∀ c∈j7 i,c∈sgn:=by unfold j7;split <;> decide
theorem Ot (i:Nat):∀ c∈bf i,c∈sgn:=by unfold bf;split <;> decide
theorem Ov (i:Nat):(bf i).length≤2:=by unfold bf;split <;> decide
theorem Ow (i:Nat):(j7 i).length≤2∧(nM i).length≤1:=by unfold j7 nM;constructor <;> split <;> decide
theorem Kh {i:Nat} {line:List Nat} (hi:i<6) (sg:∀ c∈line,c∈sgn) (h2:2≤line.length) (hl:line.length≤100):wR (j7 i++line) (aP i line).1 (nM i++(aP i line).2):=by
 have hst:=rU line hi
 have lo:=mV line hi
 obtain ⟨lp,lq⟩:=Ow i
 have vO:∀ c∈j7 i++line,c∈sgn:=fun c hc=>(List.mem_append.mp hc).elim (Oq i c) (sg c)
 have hr:aP 0 (j7 i++line)=((aP i line).1,nM i++(aP i line).2):=by rw [iW,Hr hi]
 have sgc:∀ c∈j7 i++line++bf (aP i line).1,c∈sgn:=fun c hc=>(List.mem_append.mp hc).elim (vO c) (Ot _ c)
 have cl:=Ov (aP i line).1
 obtain ⟨e,e2,er,ed⟩:=Dq hst
 have g1:=goes (j7 i++line++bf (aP i line).1) .sp [] false ⟨rfl,rfl⟩ aX fun c hc=>Ht (sgc c hc)
 have g2:=goes (j7 i++line) .sp [] false ⟨rfl,rfl⟩ aX fun c hc=>Ht (vO c hc)
 have hr1:aP 0 (j7 i++line++bf (aP i line).1)=(e,nM i++(aP i line).2++(aP (aP i line).1 (bf (aP i line).1)).2):=by
  rw [iW,hr]
  have ef:(aP (aP i line).1 (bf (aP i line).1)).1=e:=congrArg Prod.fst er
  exact Prod.ext ef rfl
 unfold Goes at g1 g2
 rw [show mi .sp=0 from rfl] at g1 g2
 rw [hr1] at g1
 rw [hr] at g2
 obtain ⟨ws,o1,s1,w1⟩:=g1.1 e2
 have s1':bD (nM i++(aP i line).2++iV (aP i line).1)=ws++[[]]:=by
  rw [← ed]
  simpa only [List.nil_append,List.append_assoc] using s1
 have len1:(j7 i++line++bf (aP i line).1).length≤104:=by simp only [List.length_append];lia
 have len2:(j7 i++line).length≤102:=by simp only [List.length_append];lia
 refine ⟨hst,sgc,by lia,by simp only [List.length_append];lia,by simp only [List.length_append];lia,?_⟩
 by_cases c:2≤(aP i line).1
 ·obtain ⟨ws',o2,w2⟩:=g2.2 c
  exact ⟨ws,ws',o1.reads,by lia,s1',fun _=>o2.reads,by lia⟩
 ·exact ⟨ws,[],o1.reads,by lia,s1',fun x=>absurd x c,by simp⟩
theorem Hu (x:Int):Aj x∈sgn:=by
 unfold Aj
 have all:∀ j,gO.getD j 0=0∨gO.getD j 0∈sgn:=by
  intro j
  by_cases h:j<16
  ·right
   have:∀ j,j<16→gO.getD j 0∈sgn:=by decide
   exact this j h
  ·left
   rw [List.getD_eq_getElem?_getD,List.getElem?_eq_none (by show 16≤j;lia)]
   rfl
 have b0:=Int.fmod_nonneg_of_pos x (show (0:Int)<16 by decide)
 have b1:=Int.fmod_lt_of_pos x (show (0:Int)<16 by decide)
 have:∀ j,j<16→gO.getD j 0∈sgn:=by decide
 exact this _ (by lia)
theorem pZ:∀ {ps:List (List Nat)} (s:Nat),ps≠[]→(ps.dropLast++[ps.getLastD []++[s]]).flatten=ps.flatten++[s]
 | [p],s,_=>by simp
 | p::q::ps,s,_=>by
  have:=pZ (ps:=q::ps) s (by simp)
  simp only [List.dropLast_cons_cons,List.cons_append,List.flatten_cons,List.getLastD_cons] at this ⊢
  simp only [List.append_assoc] at this ⊢
  rw [← this]
theorem yS {ps:List (List Nat)} (x:Int) (ne:ps≠[]):(cQ ps x).flatten=ps.flatten++[Aj x]:=by
 unfold cQ
 simp only
 split
 ·rw [List.flatten_append,pZ _ ne]
  simp
 ·exact pZ _ ne
theorem yU {ps:List (List Nat)} (x:Int) (ne:ps≠[]):ps.length≤(cQ ps x).length:=by
 have:1≤ps.length:=by
  cases ps with
  | nil=>exact absurd rfl ne
  | cons=>simp
 unfold cQ
 simp only
 split <;> simp <;> lia
theorem vV:∀ (l:List Int) {ps:List (List Nat)},ps≠[]→(∀ c∈ps.flatten,c∈sgn)→(∀ c∈(l.foldl cQ ps).flatten,c∈sgn)∧(l.foldl cQ ps).flatten.length=ps.flatten.length+l.length∧ps.length≤(l.foldl cQ ps).length∧(l.foldl cQ ps).length≤ps.length+l.length
 | [],ps,_,h=>⟨h,rfl,Nat.le_refl _,Nat.le_refl _⟩
 | x::l,ps,ne,h=>by
  have f:=yS x ne
  obtain ⟨a,b,c,d⟩:=vV l (vP ps x) (by
   intro y hy
   rw [f] at hy
   rcases List.mem_append.mp hy with z | z
   ·exact h y z
   ·rw [mem_singleton] at z
    rw [z]
    exact Hu x)
  have l1:=uq x ne
  have l2:=yU x ne
  rw [List.foldl_cons,b,f]
  refine ⟨a,by simp only [List.length_append,List.length_cons,List.length_nil];lia,by lia,by simp only [List.length_cons];lia⟩
structure Ox (ps:List (List Nat)):Prop where
 n3:3≤ps.length
 n21:ps.length≤21
 sg:∀ c∈ps.flatten,c∈sgn
 l2:2≤ps.flatten.length
 Qh:ps.flatten.length≤20
theorem Dr (xs:List Int):Ox (pieces xs):=by
 obtain ⟨a,b,c,d⟩:=vV (xs.take 18) (ps:=[[98,32],[],[]]) (by simp) (by decide)
 have l:(xs.take 18).length≤18:=by rw [List.length_take];lia
 have e1:([[98,32],[],[]]:List (List Nat)).length=3:=rfl
 have e2:([[98,32],[],[]]:List (List Nat)).flatten.length=2:=rfl
 rw [e2] at b
 rw [e1] at c d
 exact ⟨c,by unfold pieces;lia,a,by unfold pieces;lia,by unfold pieces;lia⟩
theorem Hv {ps:List (List Nat)} {p:List Nat} (h:p∈ps):p.length≤ps.flatten.length∧∀ c∈p,c∈ps.flatten:=by
 induction ps with
 | nil=>cases h
 | cons q ps ih=>
  rw [List.flatten_cons,List.length_append]
  rcases List.mem_cons.mp h with rfl | h
  ·exact ⟨Nat.le_add_right _ _,fun c hc=>List.mem_append_left _ hc⟩
  ·obtain ⟨a,b⟩:=ih h
   exact ⟨by lia,fun c hc=>List.mem_append_right _ (b c hc)⟩
theorem Ox.pc {ps:List (List Nat)} (h:Ox ps) {p:List Nat} (hp:p∈ps):JW p∧p.length≤20:=by
 obtain ⟨a,b⟩:=Hv hp
 exact ⟨⟨fun c hc=>h.sg c (b c hc),by have:=h.Qh;lia⟩,by have:=h.Qh;lia⟩
theorem Hw {c:Nat} (h:c∈sgn):c<256:=by
 have:∀ c∈sgn,c<256:=by decide
 exact this c h
theorem u8 {n:Nat} (h:n<256):n.toUInt8.toNat=n:=by
 show (UInt8.ofNat n).toNat=n
 rw [UInt8.toNat_ofNat']
 exact Nat.mod_eq_of_lt h
theorem yV {tail:List UInt8} {msg:Str} (t:pK tail [] msg):∀ (ps:List (List Nat)),(∀ p∈ps,p.length<256∧∀ c∈p,c<256)→pK ((ps.map iQ).flatten++tail) ps msg
 | [],_=>t
 | p::ps,h=>by
  have ih:=yV t ps fun q hq=>h q (mem_cons_of_mem _ hq)
  obtain ⟨h1,h2⟩:=h p (mem_cons_self ..)
  have e:((p::ps).map iQ).flatten++tail=p.length.toUInt8::(p.map Nat.toUInt8++((ps.map iQ).flatten++tail)):=by
   simp [iQ]
  rw [e]
  have l:p.length.toUInt8.toNat=(p.map Nat.toUInt8).length:=by rw [u8 h1,List.length_map]
  have t1:((p.map Nat.toUInt8++((ps.map iQ).flatten++tail)).take p.length.toUInt8.toNat).map UInt8.toNat=p:=by
   rw [l,List.take_left',List.map_map]
   ·have:∀ c∈p,(UInt8.toNat ∘ Nat.toUInt8) c=id c:=fun c hc=>u8 (h2 c hc)
    rw [List.map_congr_left this,List.map_id]
   ·rfl
  have t2:(p.map Nat.toUInt8++((ps.map iQ).flatten++tail)).drop p.length.toUInt8.toNat=(ps.map iQ).flatten++tail:=by
   rw [l,List.drop_left']
   rfl
  have:=pK.item (x:=p.length.toUInt8) (rest:=p.map Nat.toUInt8++((ps.map iQ).flatten++tail)) (ps:=ps) (msg:=msg) (by rw [l,List.length_append];lia) (by rw [t2];exact ih)
  rw [t1] at this
  exact this
theorem Ds {x:Int} (h0:0≤x) (h1:x<3):pK (nG x) [] (pX x):=by
 rcases three h0 h1 with rfl | rfl | rfl
 ·exact .nil
 ·exact .two
 ·exact .big
theorem wU:∀ {ps:List (List Nat)},(ps.map iQ).flatten.length=ps.length+ps.flatten.length
 | []=>rfl
 | p::ps=>by
  rw [map_cons,List.flatten_cons,List.length_append,wU (ps:=ps),List.flatten_cons,List.length_append]
  simp [iQ]
  lia
section
variable {w:World} {g:Array GenState} {d:Drawn} {os:OsState} {A:Around} {R:Result→Shared→Prop} {h h':Heap} {tk:Nat}
def Qi (w:World) (n tk sc:Nat):Rs:=ig w 844 (fdOf (Ia w.params)) ⟨[.ref (sc+845)],[]⟩ [] n tk [0,1,1]
theorem Ul (n tk' sc:Nat):Fp w 844 (Ia w.params)∧iB (Qi w (n+845) tk' sc)∧iR (Qi w (n+845) tk' sc)=.func (iJ (fs 38)) (aU (n+845))∧(Qi w (n+845) tk' sc).L=[(n+845,cX w.params (kOf (Qi w (n+845) tk' sc).L 0) [.ref (sc+845)] ⟨[]⟩)]:=⟨by symm,by symm,by symm,by symm⟩
theorem past {l a:Nat} {o f:Obj} (K:Keeps [l] h h') (gl:h.get? l=some f) (ef:f.cls=.type "frame") (e:h.get? a=some o) (ne:o.cls≠.type "frame"):h'.get? a=some o:=
 K.get a o e (cZ (ne_of_cls e gl (fun q=>ne (q.trans ef))))
theorem Bs {m:List Addr} {a:Nat} {o:Obj} (K:ak m h h') (e:h.get? a=some o) (ne:o.cls≠.type "frame") (na:a∉m):h'.get? a=some o:=(K.get a na _ e).1 ne
theorem aJ.past {l a:Nat} {f:Obj} {ρ:aZ} {Ts:List Nat} (r:aJ h a ρ Ts) (K:Keeps [l] h h') (gl:h.get? l=some f) (ef:f.cls=.type "frame"):aJ h' a ρ Ts:=
 r.keeps K (aA.one gl (by rw [ef];decide)) (cZ (r.notin gl (by rw [ef];decide)))
theorem bw.past {l B:Nat} {f:Obj} {as:List Nat} {ρs:List aZ} {bF:List (List Nat)} (X:bw h B as ρs bF) (K:Keeps [l] h h') (gl:h.get? l=some f) (ef:f.cls=.type "frame"):bw h' B as ρs bF:=
 X.keeps K (aA.one gl (by rw [ef];decide)) (X.apart gl (by rw [ef];decide))
theorem Hx {p:List Nat} (h:p.length≤30):GR 60 (rowOf p):=by
 obtain ⟨a,b⟩:=Jd p
 exact ⟨a,fun q hq=>⟨(b q hq).1,Nat.le_trans (b q hq).2 (by lia)⟩⟩
theorem Hy {s:Int} {n:Nat} (h:2≤n):∃ m:Nat,1+s.fmod (Int.ofNat n - 1)=Int.ofNat m∧1≤m∧m<n:=by
 have hp:(0:Int)<Int.ofNat n - 1:=by simp only [Int.ofNat_eq_natCast];lia
 have a:=Int.fmod_nonneg_of_pos s hp
 have b:=Int.fmod_lt_of_pos s hp
 obtain ⟨m,e⟩:=Int.eq_ofNat_of_zero_le (Int.add_nonneg (by decide) a:0≤1+s.fmod (Int.ofNat n - 1))
 refine ⟨m,e,?_,?_⟩
 ·have:(1:Int)≤(m:Int):=by rw [← e];lia
  lia
 ·have:(m:Int)<(n:Int):=by
   rw [← e]
   simp only [Int.ofNat_eq_natCast] at b ⊢
   lia
  lia
theorem Hz {sc c:Nat} {xs:List Int} {items:List Value} (hA:A.handled=none) (hD:A.depth+17<recursionLimit) (hu:A.units+15<cLine) (hfr:A.frames=some []) (kk:au w h) (Gx:h.get? 780=some sG) (JF:h.get? (sc+845)=some (aj items.toArray c)) (hi:dZ xs items) (hz:items.length≤1000)
  (post:∀ h' tk',ak [780] h h'→(∃ m,h'.get? 780=some (zx m))→R (.ok (.ret (.bool true))) ⟨h',g,d,tk',os⟩) :
  codeAny (model pw w) A (.call (.ref 844) ⟨[.ref (sc+845)],[]⟩) R ⟨h,g,d,tk,os⟩:=by
 have ok:=Dr xs
 obtain ⟨n0,R0⟩:=(Rep.nil (w:=w) kk).up
 have dW:h.objs.size=n0+845:=R0.size
 obtain ⟨f1,f2,f3,f4⟩:=Ul (w:=w) n0 tk sc
 refine fC (Qi w (n0+845) tk sc) hA (by lia) R0 (body:=iJ (fs 38)) (env:=aU (n0+845)) f1 f2 f3 ?_ rfl
 intro h1 R1
 have K1:=R1.fresh.1
 have fP:=R1.at (a:=n0+845) (o:=cX w.params (kOf (Qi w (n0+845) tk sc).L 0) [.ref (sc+845)] ⟨[]⟩) 0 (by rw [f4];rfl)
 have hA':(A.deeper (aU (n0+845))).handled=none:=hA
 have hU:(A.deeper (aU (n0+845))).units=A.units+3:=rfl
 have Vz:(A.deeper (aU (n0+845))).depth=A.depth+1:=rfl
 have Qj:(A.deeper (aU (n0+845))).frames=some (aU (n0+845)::[]):=Around.frames_deeper hfr
 revert hA' hU Vz Qj;refine yZ (A.deeper (aU (n0+845))) fun A1=>?_;intro hA' hU Vz Qj
 have fr:∀ {k:Nat→Nat} {vs:List Value} {sl:Array (Option Value)},(cX w.params k vs sl).cls=.type "frame" := rfl
 have nl:Value.type "list" ≠ .type "frame" := by decide
 have k1:au w h1:=R1.old
 have gs1:=K1.get _ _ JF not_mem_nil
 have Oz:=K1.get _ _ Gx not_mem_nil
 have JQ:∀ {f:Obj} {h:Heap},f.cls=.type "frame" → h.get? (n0+845)=some f→(780:Nat)∉[n0+845]:=by simp
 rw [JG]
 refine wpAny_execs_cons (lw0 hA' (by lia) k1 (Nat.le_add_left ..) gs1 hi hz fP ?_)
 intro h2 tk2 k2' P us cP K2 dX lP gP wP
 have k2:au w h2:=K2.kok k1 (by simp)
 have gs2:=past K2 fP fr gs1 nl
 obtain ⟨P,rfl⟩:=cH (Nat.le_trans (au.size (w:=w) k1) lP)
 refine wpAny_execs_cons (lw1 hA' k2 gs2 hi dX ?_)
 intro h3 tk3 k3' tt K3 iz
 have k3:au w h3:=K3.kok k2 (by simp)
 have VN:=past K3 dX fr gP nl
 have gs3:=past K3 dX fr gs2 nl
 refine wpAny_execs_cons (lw2 hA' k3 (Nat.le_add_left ..) VN wP (by have:=ok.n3;lia) (by have:=ok.n21;lia) (fun p hp=>⟨by have:=(ok.pc hp).2;lia,fun x hx=>Hw ((ok.pc hp).1.1 x hx)⟩) (by rw [wU];have:=ok.n21;have:=ok.Qh;lia) iz ?_)
 intro h4 tk4 Vj t4 K4 jc
 have k4:au w h4:=K4.kok k3 (by simp)
 have T4:=past K4 iz fr VN nl
 have gs4:=past K4 iz fr gs3 nl
 have KA:Keeps [n0+845] h1 h4:=(K2.trans K3).trans K4
 have HB:=KA.get _ _ Oz (JQ fr fP)
 have x0:=Int.fmod_nonneg_of_pos xs.sum (show (0:Int)<3 by decide)
 have x3:=Int.fmod_lt_of_pos xs.sum (show (0:Int)<3 by decide)
 revert iz jc x0 x3;refine yZ (xs.sum.fmod 3) fun X=>?_;intro iz jc x0 x3
 refine wpAny_execs_cons (lw3 x0 x3 hA' (by lia) k4 HB (by rw [wU];have:=ok.n21;have:=ok.Qh;lia) jc ?_)
 intro h5 lB k5' t K5 k5 GZ T5 ev eb low ⟨tm,gm5⟩
 have n2:∀ {a:Nat} {o:Obj},h4.get? a=some o→o.cls≠.type "frame" → o.cls≠.none→a∉[n0+845,780]:=fun e n1 n2=>by
  simp only [mem_cons,not_mem_nil,or_false,not_or]
  exact ⟨ne_of_cls e jc n1,ne_of_cls e HB n2⟩
 have gP5:=K5.get _ _ T4 (n2 T4 nl (by intro x;cases x))
 have gs5:=K5.get _ _ gs4 (n2 gs4 nl (by intro x;cases x))
 have TY:n0+845<h4.objs.size:=Heap.lt_size jc
 have Qa:∀ q∈t.led w.params,q.1≠n0+845:=fun q hq x=>absurd TY (Nat.not_lt.mpr (x ▸ low q hq))
 have tp:pK (t.b.drop t.v) (pieces xs) (pX X):=by
  rw [ev,eb,List.drop_zero]
  exact yV (Ds x0 x3) _ fun p hp=>⟨by have:=(ok.pc hp).2;lia,fun x hx=>Hw ((ok.pc hp).1.1 x hx)⟩
 refine wpAny_execs_cons (lw4 hA' (by lia) (by lia) Qj aG.nil k5 T5 tp (by have:=ok.n21;lia) GZ ?_)
 intro h6 lg k6' sl6 t' vs cS S tw jB K6 JV et T6 gS wS lS
 have Kl:h4.objs.size≤t.sd:=low (t.sd,t.sdO w.params) (by simp [TP.led])
 have k6:au w h6:=K6.kok k5 (by
  simp only [mem_cons,not_mem_nil,or_false,forall_eq_or_imp,forall_eq]
  exact ⟨Nat.le_add_left ..,Nat.le_trans (au.size (w:=w) k4) Kl⟩)
 have n6:∀ {a:Nat} {o:Obj},h4.get? a=some o→h5.get? a=some o→o.cls≠.type "frame" → a∉[n0+845,t.sd]:=fun e e5 n1=>by
  simp only [mem_cons,not_mem_nil,or_false,not_or]
  exact ⟨ne_of_cls e5 GZ n1,fun q=>absurd (Heap.lt_size e) (Nat.not_lt.mpr (q ▸ Kl))⟩
 have gP6:=Bs K6 gP5 nl (n6 T4 gP5 nl)
 have gs6:=Bs K6 gs5 nl (n6 gs4 gs5 nl)
 obtain ⟨S,rfl⟩:=cH (Nat.le_trans (au.size (w:=w) k5) lS)
 have ap4:t'.stm=t.stm:=by rw [et]
 have esd:t'.sd=t.sd:=by rw [et]
 have evb:t'.v=t'.b.length:=by rw [et]
 have led':∀ q∈t'.led w.params,q.1≠n0+845:=fun q hq=>by
  have el:(t'.led w.params).map Prod.fst=(t.led w.params).map Prod.fst:=by rw [et];rfl
  have hm:q.1∈(t.led w.params).map Prod.fst:=by rw [← el];exact mem_map_of_mem hq
  obtain ⟨p,hp,ep⟩:=List.mem_map.mp hm
  exact ep ▸ Qa p hp
 rw [← ap4] at JV
 refine wpAny_execs_cons (lw5 hA' k6 JV ?_)
 intro h7 Cj k7' tn K7 Qc
 have k7:au w h7:=K7.kok k6 (by simp)
 have gP7:=past K7 JV fr gP6 nl
 have gs7:=past K7 JV fr gs6 nl
 have VR:=past K7 JV fr gS nl
 have T7:=T6.keepsF K7.f fun q hq hm=>led' q hq (by simpa using hm)
 refine wpAny_execs_cons (lw6 hA' k7 Qc ?_)
 intro h8 Ls k8' F tf1 tf2 K8 Lx lF gF
 have k8:au w h8:=K8.kok k7 (by simp)
 have gP8:=past K8 Qc fr gP7 nl
 have gs8:=past K8 Qc fr gs7 nl
 have gS8:=past K8 Qc fr VR nl
 have T8:=T7.keepsF K8.f fun q hq hm=>led' q hq (by simpa using hm)
 refine wpAny_execs_cons (lw7 x0 x3 hA' (by lia) (by lia) Qj aG.nil k8 T8 evb Lx gP8 wP gS8 wS (Nat.le_trans (au.size (w:=w) k7) lF) gF ?_)
 intro h9 tk9 sl9 K9 k9 Qd
 have n8:∀ {a:Nat} {o:Obj},h8.get? a=some o→o.cls≠.type "frame" → o.cls≠.type "dict" → a∉[n0+845,t'.sd]:=fun e n1 n2=>by
  simp only [mem_cons,not_mem_nil,or_false,not_or]
  exact ⟨ne_of_cls e Lx n1,ne_of_cls e (T8.own (t'.sd,t'.sdO w.params) (by simp [TP.led])) n2⟩
 have nd:Value.type "list" ≠ .type "dict" := by decide
 have gs9:=Bs K9 gs8 nl (n8 gs8 nl nd)
 have V0:=Bs K9 gS8 nl (n8 gS8 nl nd)
 have VK:pieces xs≠[]:=fun q=>by have:=ok.n3;rw [q] at this;simp at this
 refine wpAny_execs_cons (lw8 hA' (by lia) k9 (Nat.le_add_left ..) V0 wS VK (by have:=ok.n21;lia) (fun p hp=>(ok.pc hp).1) Qd ?_)
 intro h10 Ug bc2 rows cR as bF Ah HD lR gR X10
 have k10:au w h10:=Ah.kok k9 (by simp)
 have ap7:=past Ah Qd fr gs9 nl
 have ap8:=past Ah Qd fr V0 nl
 obtain ⟨rows,rfl⟩:=cH (Nat.le_trans (au.size (w:=w) k9) lR)
 refine wpAny_execs_cons (lw9 hA' k10 HD ?_)
 intro h11 Ue ap9 st Us vL Um rS lSt
 have k11:au w h11:=vL.kok k10 (by simp)
 have Un:=past vL HD fr ap7 nl
 have Uo:=past vL HD fr ap8 nl
 have OD:=past vL HD fr gR nl
 have V6:=X10.past vL HD fr
 have lt10:=X10.rows.lt
 obtain ⟨st,rfl⟩:=cH (rS.lo st (mem_cons_self ..))
 have sep:∀ Ts∈bF,∀ y∈Us,y∉Ts:=fun Ts hT y hy hz=>absurd (lt10.2 Ts hT y hz) (Nat.not_lt.mpr (lSt y (mem_cons_of_mem _ hy)))
 have sa:st+845∉as:=fun hm=>absurd (lt10.1 _ hm) (Nat.not_lt.mpr (lSt _ (mem_cons_self ..)))
 have Ud:rows≠st:=fun q=>absurd (Heap.lt_size gR) (Nat.not_lt.mpr (q ▸ lSt _ (mem_cons_self ..)))
 obtain ⟨x,ex⟩:∃ x:LV,x={v:=fun i=>[Value.none,.ref (P+845),.int X tt,.bytes ⟨((pieces xs).map iQ).flatten⟩ t4,.ref t'.stm,.none,.str (pX X) tw,.str gJ tn,.ref F].getD i .none,sc:=sc,told:=S,rows:=rows,st:=st,W:=0,hi:=0,ht:=0,ln:=[],lt:=0,hd:=0,si:=0,tt:=0}:=⟨_,rfl⟩
 have Dt:h11.get? (n0+845)=some (x.o w.params ap9 sl9 11):=by rw [ex];exact Um
 have e1:x.sc=sc:=by rw [ex]
 have e2:x.told=S:=by rw [ex]
 have e3:x.rows=rows:=by rw [ex]
 have e4:x.st=st:=by rw [ex]
 rw [← e1] at Un
 rw [← e2] at Uo
 rw [← e3] at OD
 rw [← e4] at rS sa
 rw [← e3,← e4] at Ud
 clear ex Um e1 e2 e3 e4
 generalize hps:pieces xs=ps at *
 have fx:∀ {x:LV} {k:Nat→Nat} {m:Nat},(x.o w.params k sl9 m).cls=.type "frame" := rfl
 have Uq:as.length=ps.length:=by rw [V6.rows.len,List.length_map]
 have n3:=ok.n3
 have n21:=ok.n21
 have Qh:=ok.Qh
 have hG:∀ ρ∈ps.map rowOf,GR 60 ρ:=fun ρ hρ=>by
  obtain ⟨p,hp,rfl⟩:=List.mem_map.mp hρ
  exact Hx (ok.pc hp).1.2
 have hl:(ps.map rowOf).length≤50:=by rw [List.length_map];lia
 have nas:as≠[]:=fun q=>by rw [q] at Uq;simp at Uq;lia
 obtain ⟨a0,ar,ρ0,ρr,T0,Tr,ea,eρ,et⟩:=V6.first nas
 cases ps with
 | nil=>simp at n3
 | cons p0 ps=>
 obtain ⟨rfl,rfl⟩:=List.cons.inj eρ
 subst ea et
 simp only [List.length_cons] at Uq n3 n21
 refine wpAny_execs_cons (al9 hA' (by lia) k11 Dt OD V6 hG (by rw [List.length_map];lia) (fun q=>by rw [q] at Uq;simp only [List.length_nil] at Uq;lia) ?_)
 intro h12 ao4 bc3 W Tw nJ k12 Ax rW _
 rw [j8 ps p0] at rW
 have eW:p0++ps.flatten=(p0::ps).flatten:=rfl
 rw [eW] at rW
 have aq1:=past nJ Dt fx Un nl
 have aq2:=past nJ Dt fx Uo nl
 have Ur:=past nJ Dt fx OD nl
 have X12:=V6.past nJ Dt fx
 have aq3:=rS.past nJ Dt fx
 refine wpAny_execs_cons (am0 (x:={x with W:=W}) (as:=(a0::ar).map Value.ref) hA' k12 Ax aq1 hi Ur (by simp;lia) (by simp;lia) ?_)
 intro h13 bc5 aq4 ht mz k13 Km
 have Ut:=past mz Ax fx aq2 nl
 have Ko:=past mz Ax fx Ur nl
 have X13:=X12.past mz Ax fx
 have OJ:=aq3.past mz Ax fx
 have Kp:=rW.past mz Ax fx
 rw [List.length_map] at Km
 obtain ⟨m,em,m1,m2⟩:=Hy (s:=xs.sum) (n:=(a0::ar).length) (by simp;lia)
 rw [em] at Km
 obtain ⟨y,ey⟩:∃ y:LV,y={x with W:=W,hi:=Int.ofNat m,ht:=ht}:=⟨_,rfl⟩
 have Kq:h13.get? (n0+845)=some (y.o w.params aq4 sl9 13):=by rw [ey];exact Km
 have y1:y.told=x.told:=by rw [ey]
 have y2:y.rows=x.rows:=by rw [ey]
 have y3:y.st=x.st:=by rw [ey]
 have y4:y.W=W:=by rw [ey]
 have y5:y.hi=Int.ofNat m:=by rw [ey]
 rw [← y1] at Ut
 rw [← y2] at Ko
 rw [← y3] at OJ sa
 rw [← y2,← y3] at Ud
 rw [← y4] at Kp
 clear ey Km
 have gSR:GR 60 fL:=Hx (p:=[]) (by simp)
 cases er:(p0::ps).reverse with
 | nil=>exact absurd (List.reverse_eq_nil_iff.mp er) VK
 | cons pr pq=>
 refine wpAny_execs_cons (am5 hA' (by lia) (by lia) k13 Kq Ko X13 hG hl nas Kp OJ gSR sep sa Ud (by rw [Dp,j8];rfl) (rowOf pr) (pq.map rowOf) (by rw [← List.map_reverse,er];rfl) (by
  rw [yR]
  have:=congrArg List.reverse er
  rw [List.reverse_reverse,List.reverse_cons] at this
  rw [this,List.flatten_append]
  simp) ?_)
 intro h14 bc6 zj k14
 have keep:=fun {h h':Heap} {a:Nat} {o:Obj} (K:Keeps [] h h') (e:h.get? a=some o)=>K.get a o e not_mem_nil
 have O1:=fun {h h':Heap} {a:Nat} {ρ:aZ} {Ts:List Nat} (K:Keeps [] h h') (r:aJ h a ρ Ts)=>r.keeps K (by simp [aA]) not_mem_nil
 have LQ:=fun {h h':Heap} {B:Nat} {as:List Nat} {ρs:List aZ} {bF:List (List Nat)} (K:Keeps [] h h') (X:bw h B as ρs bF)=>X.keeps K (by simp [aA]) (by simp)
 refine wpAny_execs_cons (an1 hA' (by lia) (by lia) k14 (keep zj Kq) y5 m1 m2 (keep zj Ko) (LQ zj X13) hG hl (O1 zj Kp) (fun ρ0 ρr ρ1 ρq h1 h2=>by
  rw [← List.map_take] at h1
  rw [← List.map_drop] at h2
  cases e1:(p0::ps).take m with
  | nil=>rw [e1] at h1;cases h1
  | cons q0 qs=>
  cases e2:(p0::ps).drop m with
  | nil=>rw [e2] at h2;cases h2
  | cons r0 rs=>
  rw [e1] at h1
  rw [e2] at h2
  obtain ⟨rfl,rfl⟩:=List.cons.inj h1
  obtain ⟨rfl,rfl⟩:=List.cons.inj h2
  rw [j8,j8,pY]
  congr 1
  rw [← List.take_append_drop m (p0::ps),e1,e2,List.flatten_append]
  rfl) ?_)
 intro h15 bc7 Uj k15
 have Uu:=zj.trans Uj
 refine wpAny_execs_cons (ao3 hA' (by lia) k15 (keep Uu Kq) (by simp) (keep Uu Ko) (LQ Uu X13) hG hl (O1 Uu OJ) gSR ?_)
 intro TF bc9 K16 k16
 have Uv:=Uu.trans K16
 have Uw:=keep Uv Kq
 refine wpAny_execs_cons (ao5 hA' k16 Uw (keep Uv Ut) wS (by simp;lia) (by lia) ?_)
 intro h17 bd3 bd4 lt LK k17 O6
 have Ux:=(O1 Uv Kp).past LK Uw fx
 obtain ⟨z,ez⟩:∃ z:LV,z={y with ln:=(p0::ps).flatten,lt:=lt}:=⟨_,rfl⟩
 rw [← ez] at O6
 have z1:z.ln=(p0::ps).flatten:=by rw [ez]
 have z2:z.W=y.W:=by rw [ez]
 rw [← z2] at Ux
 clear ez
 refine wpAny_execs_cons (ao6 hA' k17 O6 ?_)
 intro h18 bd6 bd7 H K18 k18 Uy XH
 have Uz:=Ux.past K18 O6 fx
 obtain ⟨u,eu⟩:∃ u:LV,u={z with hd:=H}:=⟨_,rfl⟩
 rw [← eu] at Uy
 have u1:u.ln=(p0::ps).flatten:=by rw [eu];exact z1
 have u2:u.W=z.W:=by rw [eu]
 have u3:u.hd=H:=by rw [eu]
 rw [← u2] at Uz
 rw [← u3] at XH
 clear eu
 refine wpAny_execs_cons (ap1 hA' (by lia) (by lia) Qj aG.nil aX k18 Uy XH Uz (by rw [u1];lia) (fun i hi=>⟨_,_,Br _ hi,by rw [u1];exact Kh hi ok.sg ok.l2 (by lia),by have:=mV (p0::ps).flatten hi;lia⟩) ?_)
 intro h19 bd9 x19 be0 be1 m19 K19 k19 aq7
 refine wpAny_execs_cons (ap2 hA' (by lia) (by lia) Qj (aG.nil.lw aq7) k19 ?_)
 intro h20 aq8 K20
 have old:h.objs.size≤h4.objs.size:=Nat.le_trans K1.size KA.size
 have q0:∀ x∈([]:List Addr),x∈[(780:Nat)]∨h.objs.size≤x:=fun _ z=>nomatch z
 have q1:∀ x∈[n0+845],x∈[(780:Nat)]∨h.objs.size≤x:=fun x hx=>by
  rw [mem_singleton] at hx
  exact .inr (by rw [dW,hx];exact Nat.le_refl _)
 have q2:∀ x∈[(780:Nat)],x∈[(780:Nat)]∨h.objs.size≤x:=fun x hx=>.inl hx
 have q3:∀ x∈[n0+845,780],x∈[(780:Nat)]∨h.objs.size≤x:=fun x hx=>by
  rcases List.mem_cons.mp hx with rfl | hx
  ·exact q1 _ (mem_cons_self ..)
  ·exact .inl hx
 have q4:∀ {s:Nat},s=t.sd→∀ x∈[n0+845,s],x∈[(780:Nat)]∨h.objs.size≤x:=fun es x hx=>by
  rcases List.mem_cons.mp hx with rfl | hx
  ·exact q1 _ (mem_cons_self ..)
  ·rw [mem_singleton] at hx
   exact .inr (by rw [hx,es];exact Nat.le_trans old Kl)
 have Ka:ak [780] h h5:=(K1.f.to KA.f q0 q1).to K5.f q2 q3
 have Kb:ak [780] h h9:=((Ka.to K6 q2 (q4 rfl)).to (K7.trans K8).f q2 q1).to K9 q2 (q4 esd)
 have Kc:ak [780] h TF:=(Kb.to (((Ah.trans vL).trans nJ).trans mz).f q2 q1).to Uv.f q2 q0
 have Kd:ak [780] h h20:=((Kc.to (LK.trans K18).f q2 q1).to K19 q2 q1).to K20 q2 q0
 have V7:(780:Nat)∉[n0+845]:=by simp
 have DW:∀ {s:Nat},s=t.sd→(780:Nat)∉[n0+845,s]:=fun es hm=>by
  simp only [mem_cons,not_mem_nil,or_false] at hm
  rcases hm with x | x
  ·have x':@Eq Nat _ _:=x;lia
  ·exact absurd (au.size (w:=w) k4) (Nat.not_le.mpr (Nat.lt_of_le_of_lt Kl (by rw [← es,← x];decide)))
 have g9:=K9.low _ _ (by decide) (DW esd) ((K7.trans K8).get _ _ (K6.low _ _ (by decide) (DW rfl) gm5) V7)
 have g16:=Uv.get _ _ ((((Ah.trans vL).trans nJ).trans mz).get _ _ g9 V7) not_mem_nil
 have g20:=K20.low _ _ (by decide) not_mem_nil (K19.low _ _ (by decide) V7 ((LK.trans K18).get _ _ g16 V7))
 exact post h20 aq8 Kd ⟨tm,g20⟩
end
def O7 (s:Shared):Nat × Option Obj × List (Option Obj):=(s.heap.objs.size,s.heap.get? 780,addrs.map s.heap.get?)
def Yis (w:World):Nat × Option Obj × List (Option Obj):=(845,some sG,addrs.map (K w))
theorem Kr:pw.main.body.any namesNumpy=false:=by symm
theorem HF:addrs.all (Nat.blt · 845)=true:=by symm
theorem Du (p:Params):(nO (kt p) 1 0).all (fun x=>addrs.contains x)=true:=by symm
theorem Az (w:World):addrs.all (fun a=>(K w a).isSome)=true:=by symm
theorem yW {p:Program} {s s1:Shared} (h:fenceAll? (importedModules p.main.body) s=some s1) (n:p.main.body.any namesNumpy=false):fenceModules? p s=some s1:=by
 unfold fenceModules?
 rw [h,n]
 rfl
theorem Ks {s:SharedT} {a:Nat} {o:Obj} (h:a<s.n) (e:(s.tree.get a).bind alive=some o):s.abs.heap.get? a=some o:=by
 obtain ⟨o',e1,e2⟩:=Option.bind_eq_some_iff.mp e
 exact (abs_get h e1).trans e2
theorem left:LeftO pw qv loose (fun _=>true) O7 Yis 5500:=fun w=>by
 obtain ⟨sB,hB,h2⟩:=Option.bind_eq_some_iff.mp (Rf w)
 obtain ⟨sT,hT,e⟩:=Option.map_eq_some_iff.mp h2
 obtain ⟨sA,hA,hF⟩:=Option.bind_eq_some_iff.mp hB
 have eB:=congrArg Prod.fst e
 have eT:=congrArg Prod.snd e
 have b1:sB.n=29:=congrArg Prod.fst eB
 have b2:(sB.abs.heap.isNs mainGlobals && sB.abs.gens.size == 0)=true:=congrArg (fun x=>x.2.1) eB
 have b3:sB.abs.heap.nsMap mainGlobals "__annotations__" = some (.ref 6):=congrArg (fun x=>x.2.2) eB
 have t1:(staticsOk Bu sB.abs.heap sT.abs.heap && namesBound pw sT.abs.heap && gensDone sT.abs && laidKept sB.abs.heap sT.abs.heap)=true:=congrArg Prod.fst eT
 have t2:PySem.W.Fast.tw4187177175401517315 qv loose Bu (fun _=>true) true sT.abs=openGood qv loose:=congrArg (fun x=>x.2.1) eT
 have t3:sT.n=845:=congrArg (fun x=>x.2.2.1) eT
 have t4:(sT.tree.get 780).bind alive=some sG:=congrArg (fun x=>x.2.2.2.1) eT
 have t5:(addrs.map fun a=>(sT.tree.get a).bind alive)=addrs.map (K w):=congrArg (fun x=>x.2.2.2.2) eT
 have i1:importEnds table (opening pw) w 5500 (start (opening pw)).1 (start (opening pw)).2=some sA.abs:=by
  have z:=u9 hA
  rw [Ie] at z
  exact z
 have i2:fenceModules? pw sA.abs=some sB.abs:=yW (jR hF) Kr
 have i3:topFrom table pw w 5500 sB.abs=some sT.abs:=by
  unfold topFrom
  have hs:sB.abs.heap.objs.size=29:=(absHeap_size _ _ _).trans b1
  rw [b2,b3,hs]
  show ((topRun table pw w 29 (some (.ref 6)) 5500 sB.abs (topStub pw)).bind _)=_
  rw [vd hT]
  show (match staticsOk Bu sB.abs.heap sT.abs.heap && namesBound pw sT.abs.heap && gensDone sT.abs && laidKept sB.abs.heap sT.abs.heap with | true=>some sT.abs | false=>none)=_
  rw [t1]
 have i4:openEnds table pw w 5500=some sT.abs:=by
  unfold openEnds fencedOpening
  rw [i1]
  show (fenceModules? pw sA.abs).bind _=_
  rw [i2]
  exact i3
 rw [← table_eq_tree,i4]
 show some (openSeen qv loose Bu (fun _=>true) true sT.abs,O7 sT.abs)=_
 rw [PySem.W.Fast.te4187177175401517315,t2]
 have y1:sT.abs.heap.get? 780=some sG:=Ks (by rw [t3];decide) t4
 have y2:addrs.map sT.abs.heap.get? = addrs.map (K w):=by
  rw [← t5]
  refine List.map_congr_left fun a ha=>?_
  have la:a<sT.n:=by
   rw [t3]
   exact Nat.le_of_ble_eq_true (List.all_eq_true.mp HF a ha)
  cases g:sT.tree.get a with
  | some o=>exact abs_get la g
  | none=>
   have q:=List.map_inj_left.mp t5 a ha
   rw [g] at q
   have z:=List.all_eq_true.mp (Az w) a ha
   rw [← q] at z
   cases z
 have y0:sT.abs.heap.objs.size=845:=(absHeap_size _ _ _).trans t3
 show some (_,sT.abs.heap.objs.size,sT.abs.heap.get? 780,addrs.map sT.abs.heap.get?)=_
 rw [y0,y1,y2]
 rfl
noncomputable def YP (w:World) (h:Heap):Prop:=au w h∧h.get? 780=some sG
theorem UG (w:World) (s:Shared) (e:O7 s=Yis w):YP w s.heap:=⟨fun a o k=>by
 have z:=jy (s:=1) (b:=0) (t:=kt w.params) (j:=a) k
 rw [Nat.one_mul,Nat.add_zero] at z
 have m:=List.contains_iff_mem.mp (List.all_eq_true.mp (Du w.params) a z)
 exact (List.map_inj_left.mp (congrArg (fun x=>x.2.2) e) a m).trans k,congrArg (fun x=>x.2.1) e⟩
theorem Ku (w:World) (h h':Heap) (y:YP w h) (k:∀ b o,h.get? b=some o→h'.get? b=some o):YP w h':=⟨fun a o e=>k a o (y.1 a o e),k _ _ y.2⟩
theorem lay_ints {R:WRecords} {cl:Str→Option Addr} {P:Params} {ord:List DictEntry→List DictEntry}:∀ {ns:List Int} {s s':Shared} {vs:List Value},layAllW R cl P ord (ns.map .int) s=some (vs,s')→dZ ns vs∧s'.heap=s.heap
 | [],s,s',vs,e=>by
  cases e
  exact ⟨trivial,rfl⟩
 | n::ns,s,s',vs,e=>by
  have e:(match layAllW R cl P ord (ns.map .int) {s with toks:=s.toks+1} with
   | some r=>some ((.int n s.toks:Value)::r.1,r.2)
   | none=>none)=some (vs,s'):=e
  cases h:layAllW R cl P ord (ns.map .int) {s with toks:=s.toks+1} with
  | none=>rw [h] at e;cases e
  | some r=>
   rw [h] at e
   cases e
   obtain ⟨a,b⟩:=lay_ints h
   exact ⟨⟨⟨_,rfl⟩,a⟩,b⟩
theorem HJ {R:WRecords} {cl:Str→Option Addr} {P:Params} {ord:List DictEntry→List DictEntry} {ns:List Int} {s s':Shared} {vs:List Value} (e:layAllW R cl P ord [.list (ns.map .int)] s=some (vs,s')) :
  ∃ items,vs=[.ref s.heap.objs.size]∧s'.heap=s.heap.push (aj items.toArray 0)∧dZ ns items:=by
 have e:(match (match layAllW R cl P ord (ns.map .int) s with
   | some r=>some ((.ref r.2.heap.objs.size:Value),({r.2 with heap:=r.2.heap.push {cls:=.type "list",data:=.seq r.1.toArray}}:Shared))
   | none=>none) with
  | some a=>some ([a.1],a.2)
  | none=>none)=some (vs,s'):=e
 cases h:layAllW R cl P ord (ns.map .int) s with
 | none=>rw [h] at e;cases e
 | some r=>
  rw [h] at e
  cases e
  obtain ⟨a,b⟩:=lay_ints h
  exact ⟨r.1,by rw [b],by rw [b];rfl,a⟩
theorem yX:∀ {ns:List Int} {vs:List Value},dZ ns vs→vs.length=ns.length
 | [],[],_=>rfl
 | _::_,_::_,h=>congrArg (· + 1) (yX h.2)
theorem few {ns:List Int} (h:WTm.holds uY.row.records uY.row.pre {args:=[.list (ns.map .int)]}=true):ns.length≤63:=by
 have e:uY.row.pre=.and (.not (.lt (.lit (.int 63)) (.len (.arg 0)))) (.lit (.bool true)):=rfl
 rw [e] at h
 unfold WTm.holds at h
 simp only [WTm.value,List.getElem?_cons_zero,less?,Num.less?,Option.map_some,List.length_map] at h
 by_cases q:(63:Int)<(ns.length:Int)
 ·simp [q] at h
 ·lia
theorem aq9 (w:World):K w 784=some (Fj w.params):=by symm
theorem K3 (w:World):K w 3=some (o3 w.params):=by symm
def UJ (P:Params):Array Value:=match (Fj P).data with | .fields vs=>vs | _=>#[]
theorem O8 (w:World):(Fj w.params).cls=.type "code" ∧ (Fj w.params).data=.fields (UJ w.params)∧(UJ w.params)[11]? = some (.ref 780):=⟨by symm,by symm,by symm⟩
noncomputable def e3:Data→Array DictEntry | .dict es _=>es | _=>#[]
theorem O9 (P:Params):nsFind (e3 (o3 P).data) uY.row.name=some (.ref 844):=by symm
theorem Pa (w:World) {h:Heap} {m:Str→Option Value} (k:au w h) (n:h.Ns mainGlobals m):m uY.row.name=some (.ref 844):=by
 obtain ⟨o,es,ep,e1,e2,_,e4⟩:=n
 rw [← e4]
 have e5:h.get? mainGlobals=some (o3 w.params):=k 3 _ (K3 w)
 obtain rfl:=Option.some.inj (e1.symm.trans e5)
 have z:=O9 w.params
 rw [e2] at z
 exact z
theorem Pb {w:World} {h h':Heap} (y:YP w h) (K:ak [780] h h') (t:∃ m,h'.get? 780=some (zx m)) (Pg:∀ b o,845≤b→h.get? b=some o→o.cls≠.type "frame"):OldK h h':=by
 obtain ⟨m,em⟩:=t
 have keep:∀ b o,b≠780→h.get? b=some o→h'.get? b=some o:=fun b o hb e=>by
  by_cases lb:b<845
  ·exact K.low b o lb (by simpa using hb) e
  ·exact (K.get b (by simpa using hb) o e).1 (Pg b o (Nat.not_lt.mp lb) e)
 refine ⟨fun b o e=>?_,fun b o e=>?_⟩
 ·by_cases hb:b=780
  ·subst hb
   obtain rfl:=Option.some.inj (e.symm.trans y.2)
   obtain ⟨c1,c2,c3⟩:=O8 w
   refine .inr (.inl ⟨⟨784,_,_,y.1 784 _ (aq9 w),c1,c2,c3⟩,rfl,#[],⟨m⟩,rfl,em.trans ?_⟩)
   simp [sG,zx]
  ·exact .inl (keep b o hb e)
 ·by_cases hb:b=780
  ·subst hb
   exact ⟨_,em⟩
  ·exact ⟨o,keep b o hb e⟩
noncomputable abbrev uH:=uY.row
theorem okL:(chainsOk qv && opensWell pw)=true:=by symm
theorem UL:pw.bare:=⟨rfl,rfl,rfl,rfl,rfl,by symm⟩
theorem LR:uH.toRowW.promised:=⟨[.list []],by decide +kernel,by decide +kernel⟩
theorem idL (a b:List Whence):uH.toRowW.claim.ident a b=true:=ident_freeW rfl rfl rfl a b
theorem Dv {h:Heap} {cl:Str→Option Addr}:ReadsW uH.records cl h (.bool true) (.bool true) []:=.bool _
theorem UW (a b:List WData):uH.toRowW.claim.post a (.bool true) b=true:=by
 have e:uH.post=.eq .res (.lit (.bool true)):=rfl
 show (WShape.has uH.records (.bool true) .bool && WTm.holds uH.records uH.post {args:=a,res:=some (.bool true),after:=b})=true
 rw [e]
 simp [WTm.holds,WTm.value,WShape.has,WShape.arms,same]
theorem ar0:∃ d kwd,defOf qv uH.name=some (d,kwd)∧pw.theDef uH.name=some (d.params,d.body,d.scope)∧kwWritten? d.params.kwonlyargs d.params.kw_defaults=some kwd:=⟨_,_,by rfl,by rfl,by rfl⟩
theorem Dw {w:World} {s₀ s₁:Shared} {mg:Str→Option Value} {args:List WData} {vs:List Value} {as:List Addr} (hs:s₀.heap.objs.size=845) (Y:YP w s₁.heap) (hg:s₁.heap.Ns mainGlobals mg) (hp:uH.toRowW.claim.pre args=true) (L:Laid uH.records w s₀ s₁ args vs as) :
  wpAny (model pw w) callerA (PySem.call (.ref 844) vs) (fun v s'=>GoodWG uH.toRowW.claim (classAt s₀.heap) (ExcName.means s₀.heap) args s₁ (.ok (.ret v)) s')
   (fun e s'=>GoodWG uH.toRowW.claim (classAt s₀.heap) (ExcName.means s₀.heap) args s₁ (.error e) s') s₁:=by
 obtain ⟨h1,h2⟩:=pre_splitW hp
 obtain ⟨d,r,rfl,hd,hr⟩:=hasAllW_cons h1
 obtain rfl:=hasAllW_nil hr
 obtain ⟨xs,rfl,hx⟩:=hasW_list hd
 obtain ⟨ns,rfl⟩:=items_int hx
 have hn:=few h2
 obtain ⟨ord,_,hl⟩:=L.laid
 obtain ⟨items,e1,e2,hi⟩:=HJ hl
 subst e1
 have gl:s₁.heap.get? (0+845)=some (aj items.toArray 0):=by
  rw [e2]
  have z:(s₀.heap.push (aj items.toArray 0)).get? s₀.heap.objs.size=some (aj items.toArray 0):=Heap.get?_push_size _ rfl
  rw [hs] at z
  exact z
 have Pg:∀ b o,845≤b→s₁.heap.get? b=some o→o.cls≠.type "frame" := fun b o hb e=>by
  have lt:=Heap.lt_size e
  have sz:s₁.heap.objs.size=s₀.heap.objs.size+1:=by rw [e2];exact Array.size_push ..
  rw [sz,hs] at lt
  obtain rfl:b=0+845:=Nat.le_antisymm (Nat.le_of_lt_succ lt) hb
  rw [gl] at e
  rw [← Option.some.inj e]
  exact (show Value.type "list" ≠ .type "frame" by decide)
 rw [hs]
 refine enter_call ?_
 obtain ⟨h,g,dr,tk,os⟩:=s₁
 refine Hz (sc:=0) (c:=0) (items:=items) rfl (by decide) (by decide) rfl Y.1 Y.2 gl hi (by rw [yX hi];lia) fun h' tk' K t=>?_
 exact ⟨.inl ⟨_,.bool true,[],rfl,fun _=>rfl,Dv,UW _ _,fun _=>⟨List.nodup_nil,fun a ha=>nomatch ha⟩⟩,Pb Y K t Pg,rfl,.of_eq L.gens⟩
theorem Ql (k1:uH.wellSaid=true):uH.Holds:=by
 obtain ⟨hch,o1⟩:=Bool.and_eq_true_iff.mp okL
 refine ⟨k1,LR,⟨UL,o1,rfl⟩,LR.witness,fun w=>?_⟩
 have B:=left.behind (XP:=fun _ _=>True) (fun _ _=>trivial) hch w
 refine ⟨B.1,fun s' hs'=>?_⟩
 obtain ⟨s₀,hf,hg0,s,hT,hz,hgens,hg,G,y⟩:=B.2 s' hs'
 have hgens:s.gens = #[]:=Array.eq_empty_of_size_eq_zero (beq_iff_eq.mp hgens)
 have hsz:s.heap.objs.size=845:=congrArg Prod.fst y
 refine ⟨s₀,hf,hg0,s,hT,fun n hn=>?_,fun x hx=>(nomatch hx),fun x hx=>(nomatch hx),?_⟩
 ·obtain rfl:n=uH.name:=List.mem_singleton.mp hn
  obtain ⟨d,kwd,a,b,c⟩:=ar0
  exact pinned_of_view hg G a b c
 refine ClaimW.callFrom_of_specG (c:=uH.toRowW.claim) (tree:=fun vs=>do match ← nsGet mainNs uH.name with
   | some f=>do ret (← PySem.call f vs)
   | none=>unsupported "claim.caller:no-such-global") hz hgens fun args hpre hlay ord hord=>?_
 obtain ⟨⟨vs,s₁⟩,hlaid⟩:=Option.isSome_iff_exists.mp (layAllW_isSome (P:=w.params) (ord:=ord) G.has args uH.args s (pre_splitW hpre).1)
 have keeps:=layAllW_keeps _ _ _ hlaid
 have hal:=layAllW_rest _ _ _ hlaid
 obtain ⟨as,hrd,hin,hold⟩:=reads_layAllW hord _ _ _ hlaid hlay s₁.heap (fun _ _ e=>e)
 have L:Laid uH.records w s s₁ args vs as:=⟨⟨ord,hord,hlaid⟩,hrd,hin,hold,keeps,hal.1.trans hgens,hal.2.2.1⟩
 have Y:YP w s₁.heap:=Ku _ _ _ (UG w s y) keeps
 have N:=(G.keeps (fun _ _ _ _ _=>trivial) keeps).T.g
 have z:=Dw hsz Y N hpre L
 refine ⟨vs,s₁,hlaid,wpAny_bind (wpAny_nsGet N ?_)⟩
 rw [Pa w Y.1 N]
 refine wpAny_bind (wpAny_mono z (fun v s' g=>wpAny_pure ⟨_,rfl,?_⟩) fun e s' g=>?_)
 ·have z:=g.laid (c:=uH.toRowW.claim) rfl rfl idL L
  exact ⟨z.1,z.2.1,z.2.2,fun q=>(nomatch q)⟩
 ·have z:=g.laid (c:=uH.toRowW.claim) rfl rfl idL L
  exact ⟨z.1,z.2.1,z.2.2,fun q=>(nomatch q)⟩
end Mine
end
theorem PySem.Challenge.cw_il0183_01_holds : PySem.Challenge.rw_il0183_01.Holds :=
  holds_law Mine.ws Mine.Ql
