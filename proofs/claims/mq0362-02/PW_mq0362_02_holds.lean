import PyProof.Rows.All
import Wide.All
import OpenK.AllK
import Wide.FinOn
import Lean
import PySem.Challenge.RW_mq0362_02
set_option maxRecDepth 100000
set_option maxHeartbeats 4000000
set_option Elab.async false
set_option linter.all false
namespace Mine
open List renaming map_append→A0,length_map→B0,map_cons→H0,length_cons→J0,length_append→N0,getElem?_eq_getElem→O0,map_nil→P0,mem_append_right→R0,append_nil→U0,getElem?_map→V0,mem_map_of_mem→X0,mem_append_left→Y0,mem_cons→Z0,mem_append→A1,getElem?_eq_some_iff→C1,mem_map→E1,getD_eq_getElem?_getD→I1,mem_of_getElem?→J1,length_singleton→O1,nodup_cons→S1,map_map→U1,pairwise_append→V1,filter_cons→W1,take_succ_eq_append_getElem→Y1,map_congr_left→Z1,perm_middle→A2,sublist_append_left→C2,mem_singleton→I2,append_assoc→U2,take_length→C3,all_eq_true→E3,sum_cons→J3,mem_range→K3,sublist_cons_self→O3,nodup_append→P3,getElem?_append_right→Q3,mem_filter→R3,perm_append_comm→U3,getElem?_eq_none→V3,length_nil→Z3,length_take→C4,nodup_nil→I4,length_filter_le→J4,getElem?_toArray→K4,pairwise_iff_getElem→L4,nil_append→Q4,contains_iff_mem→S4,length_range→U4,cons_append→V4,sublist_append_right→X4,foldl_cons→Z4,map_id→B5,size_toArray→E5,foldl_append→H5,sum_append→J5,filterMap_cons→L5,map_id'→O5,pairwise_map→S5,pairwise_singleton→U5,not_mem_nil→V5,mem_reverse→W5,getElem?_cons_succ→X5,find?_cons→B6,mem_iff_getElem?→G6,mem_cons_of_mem→H6,getElem?_range→I6,filter_eq_self→J6,append_of_mem→M6,sum_nil→P6,filter_congr→Q6,any_map→R6,zipIdx_cons→V6,getElem_mem→W6,any_eq_true→X6,filter_nil→C7,dropLast_concat_getLast→E7,replicate→L7,perm_ext_iff_of_nodup→M7,perm_append_singleton→O7,forIn_nil→P7,exists_cons_of_ne_nil→Q7,getElem?_append_left→S7,drop_eq_getElem_cons→U7,map_take→W7,contains_eq_any_beq→X7,length_eq_zero_iff→Z7,getElem?_cons_zero→A8,filter_cons_of_pos→B8,filter_cons_of_neg→C8,toArray→E8,take_of_length_le→G8,length_eq_one_iff→H8,pairwise_reverse→M8,eraseIdx_append→Q8,reverse_append→T8,length_pos_iff→U8,filter_append→X8,reverse_perm→Z8,mapM_toArray→A9,getElem?_nil→B9,ext_getElem?→C9,zipIdx_succ→E9,nil_sublist→G9,mem_flatMap→H9,isEmpty_nil→I9,getElem_map→J9,range_succ→K9,length_zip→L9,forIn_cons→M9,mapM_cons→P9,foldl_nil→Q9
open PySem renaming wpAny_bind→C0,wpAny_pure→I0,codeAny_call_builtin→M1
open List.Perm renaming refl→E0,of_eq→P1
open Nat renaming le_trans→M0,add_zero→Q0,le_refl→S0,zero_add→P2,succ_le_succ→A3,le_of_ble_eq_true→I3,zero_le→Y3,le_of_lt→B4,le_add_right→O4,le_of_not_lt→W4,le_succ→C5,le_add_left→K5,lt_of_lt_of_le→P5,lt_or_ge→A6,lt_irrefl→L6,lt_trichotomy→S6,le_succ_of_le→U6,min_le_right→Z6,lt_succ_self→A7,blt→K7,add_assoc→Y7,ne_of_lt→K8,min_self→L8
open Int renaming toNat_natCast→W0,le_refl→V8
open PySem.Heap renaming get?_push_of_some→B1,get?_push_size→B2,size_after_update→E2,get?_update_self→M2,get?_update_other→Y2,size_push→M3,lt_size→P4,SameBut→I8
open Bool renaming false_ne_true→R1,false_eq_true→J2,and_eq_true_iff→B3,and_eq_true→Y5,eq_iff_iff→C6,not_false→R7,or_eq_true_iff→W8
open PySem.PyData renaming canLayAll0→O2,canLay0→X3,depthAll→Y4,eqv→M5,depth→K6,eqvAll→J7,strOk→V7
open Option renaming map_eq_some_iff→V2,map_some→Y8
open PySem.Sem renaming wp_mono→W2,wp_bind'→M4,wp_iff_runs→A5,wp_bind→I5,wp_unsupported→O6,wp_pure→B7,wp_pure'→J8,finPost→R8,bind→S8,wp_cmd_load→O9
open Array renaming length_toList→A4,getElem?_eq_none_iff→E4,getElem?_eq_getElem→Q5,ext'→Z5,getElem?_toList→E6,getD_eq_getD_getElem?→G7,perm_iff_toList_perm→I7,toArray_toList→O8
open List.Sublist renaming cons_cons→Y6
open PySem.Heap.SameBut renaming update→H7
open Array.Perm renaming refl→P8
open PySem PySem.W
theorem gl {P:Prop} (h:∀G:Prop,(P→G)→G):P:=h P id
theorem lk {a b c:Nat} (h:a≤b) (e:Nat.ble b c=true):a≤c:=M0 h (I3 e)
theorem oM {a b c k:Nat} (h:a≤b) (e:Nat.ble (b+k) c=true):a+k≤c:=M0 (Nat.add_le_add_right h k) (I3 e)
theorem eA {a m b c k:Nat} (h:a≤m+k) (g:m≤b) (e:Nat.ble (b+k) c=true):a≤c:=M0 h (oM g e)
theorem j8 {a b m c:Nat} (h:a=b) (g:b≤m) (e:Nat.ble m c=true):a≤c:=h▸lk g e
theorem zb {a d m c:Nat} (k:a≤d) (g:d≤m) (e:Nat.ble m c=true):a≤c:=M0 k (lk g e)
theorem lka {a b m:Nat} (h:a=b+m):b≤a:=h▸O4 b m
noncomputable def den:Code→Sem Fin:=PySem.W.Fast.tw11892475500146522536 PySem.W.Fast.tw14364793385576792824
theorem xR:denote table=den:=by
  unfold den
  rw [table_eq_tree,←PySem.W.Fast.te11892475500146522536,←PySem.W.Fast.te14364793385576792824]
noncomputable def yN (b:List Stmt) (env:Env):Sem Fin:=R.bindR (PySem.W.Fast.tw12563942051412417395 b env) fun f=>.pure (.done f)
theorem qb (b:List Stmt) (env:Env):yN b env=(execs b env).bind fun f=>.pure (.done f):=by
  unfold yN
  rw [←R.bindR_eq,←PySem.W.Fast.te12563942051412417395]
noncomputable abbrev KT:=PySem.W.X.KT
noncomputable def eq (kt:KT) (h:Heap):Prop:=∀a o,kt.get a=some o→h.get? a=some o
inductive Side where
  | nat (a:Nat)
  | code (c:Code)
  | obj (o:Obj)
  | val (v:Option Value)
noncomputable abbrev mX:=Side × Side
noncomputable def AllEq (es:List mX):Prop:=∀e∈es,e.1=e.2
theorem ry {es:List mX} (h:es.map (·.1)=es.map (·.2)):AllEq es:=by
  induction es with
  | nil=>intro e he;cases he
  | cons x es ih=>
    rw [H0,H0] at h
    injection h with h1 h2
    intro e he
    cases he with
    | head=>exact h1
    | tail _ he=>exact ih h2 e he
theorem AllEq.tail {e:mX} {es:List mX} (h:AllEq (e::es)):AllEq es:=fun x hx=>h x (H6 _ hx)
structure bX where
  code:Code
  hd:Option Value:=none
  need:List (Nat × Obj)
  upd:List (Nat × Obj):= []
  news:List Obj:= []
  res:Result
  toks:Nat:=0
  sz:Option Nat:=none
  tk:Option Nat:=none
noncomputable def adr (as:List Nat) (k N j:Nat):Nat:=match K7 j k with
  | true=>as.getD j 0
  | false=>N+(j - k)
noncomputable abbrev K:=List (Ctx × Pos × (Result→Sem Fin))
structure yD where
  Γ:Ctx
  κ:K
  p:Pos
  t:Sem Fin
inductive Out where
  | stop (n:Nat) (a:Nat)
  | fin (r:Result) (T:BT) (m i:Nat) (es:List mX)
  | at (c:yD) (T:BT) (m i:Nat) (es:List mX)
structure Pm where
  prog:Program
  w:World
  kt:KT
  as:List Nat
  k:Nat
  N:Nat
  tk:Nat
  B:Nat
  effs:List bX
noncomputable def fP (self:Addr) (fd:FuncData) (args:Args):Sem Fin:=
  R.bindR (match fd.code with
    | .none=>.pure fd.qualname
    | c=>R.bindR (PySem.W.Fast.tw6609576154772507232 c 1) fun
      | .str q _=>.pure q
      | _=>.pure fd.qualname) fun compiled=>
  R.bindR (PySem.W.Fast.tw9782568553167038054 fd args) fun binds=>
  R.bindR (PySem.W.Fast.tw11113344188204177931 fd.scope fd.globals fd.closure binds (compiled++".<locals>.") (some self) fd.code none fd.builtins) fun env=>
  R.bindR currentRecursionLimit fun lim=>
  match Nat.beq lim 1000 with
  | false=>.unsupported "room"
  | true=>match fd.scope.isGenerator,fd.scope.isCoroutine with
    | false,false=>.pure (.again (match fd.body with
      | .stmts b=>.func b env
      | .expr e=>.expr e env))
    | _,_=>.unsupported "generator"
noncomputable abbrev nC:=BT→Nat→Nat→List Nat→List mX→Out
noncomputable abbrev nE:=Ctx→K→Pos→Sem Fin→nC
noncomputable def no (n:Nat):nC:=fun _ _ _ _ _=>.stop n 0
noncomputable def yU (c:yD):nC:=fun T m i _ es=>.at c T m i es
noncomputable def wF (ih:nE) (r:Result):K→nC
  | []=>fun T m i _ es=>.fin r T m i es
  | (Γ,p,k)::κ=>ih Γ κ p (k r)
noncomputable def ml (ih:nE) (Γ:Ctx) (κ:K) (p:Pos) (c:Code):nC:=fun T m i hs es=>match hs with
  | []=>.at ⟨Γ,κ,p,.pure (.again c)⟩ T m i es
  | _::hs=>ih Γ κ p (den c) T m i hs es
noncomputable def iw (P:Pm) (ih:nE) (Γ:Ctx) (κ:K) (p:Pos) (c:Code):nC:=match c with
  | .call f args=>match f with
    | .ref a=>fun T m i hs es=>match hs with
      | []=>.at ⟨Γ,κ,p,.pure (.again c)⟩ T m i es
      | h::hs=>match h with
        | 0=>ih Γ κ p (den c) T m i hs es
        | h+1=>match Nat.ble (κ.length+P.B) 150 with
          | false=>.stop 70 0
          | true=>match h with
            | 0=>match P.kt.get a with
              | some o=>match o.data with
                | .func fd=>ih Γ κ p (fP a fd args) T m i hs es
                | _=>.stop 71 a
              | none=>.stop 72 a
            | j+1=>match T.get j with
              | some o=>match o.data with
                | .func fd=>ih Γ κ p (fP a fd args) T m i hs ((.nat a,.nat (adr P.as P.k P.N j))::es)
                | _=>.stop 71 a
              | none=>.stop 73 a
    | _=>ih Γ κ p (den c)
  | .forLoop ..=>ml ih Γ κ p c
  | .whileLoop ..=>ml ih Γ κ p c
  | .compLoop ..=>ml ih Γ κ p c
  | .func ..=>ml ih Γ κ p c
  | _=>ih Γ κ p (den c)
noncomputable def mh (T:BT):List (Nat × Obj)→List mX→Option (List mX)
  | [],es=>some es
  | (j,o)::l,es=>match T.get j with
    | some o'=>mh T l ((.obj o',.obj o)::es)
    | none=>none
noncomputable def qu:Option Nat→Nat→List mX→List mX
  | none,_,es=>es
  | some z,n,es=>(.nat n,.nat z)::es
noncomputable def ie (T:BT):List (Nat × Obj)→Option BT
  | []=>some T
  | (j,o)::l=>match T.get j with
    | some _=>match o.isFreed with
      | false=>ie (T.set j fun _=>o) l
      | true=>none
    | none=>none
noncomputable def ii (T:BT) (k m:Nat):List Obj→Option (BT × Nat)
  | []=>some (T,m)
  | o::l=>match o.isFreed with
    | true=>none
    | false=>match (T.ins (k+m) o).get (k+m) with
      | some _=>ii (T.ins (k+m) o) k (m+1) l
      | none=>none
noncomputable def nL (P:Pm) (ih:nE) (Γ:Ctx) (κ:K) (p:Pos) (t:Sem Fin):nC:=match t with
  | .pure fin=>match fin with
    | .done f=>wF ih (.ok f) κ
    | .again c=>match c.quiet with
      | true=>iw P ih (Γ.goto c) κ p c
      | false=>no 5
  | .raise e=>wF ih (.error e) κ
  | .rule _ k=>ih Γ κ p (k ())
  | .at p' k=>ih Γ κ p' (k ())
  | .point _ k=>ih Γ κ p (k ())
  | .ask k=>ih Γ κ p (k ⟨P.prog,P.w.params⟩)
  | .load a pt k=>fun T m i hs es=>match hs with
    | []=>.at ⟨Γ,κ,p,.load a pt k⟩ T m i es
    | h::hs=>match h with
      | 0=>match P.kt.get a with
        | some o=>ih Γ κ p (k o) T m i hs es
        | none=>.stop 1 a
      | j+1=>match T.get j with
        | some o=>ih Γ κ p (k o) T m i hs ((.nat a,.nat (adr P.as P.k P.N j))::es)
        | none=>.stop 2 a
  | .loadIfAlive a k=>fun T m i hs es=>match hs with
    | []=>.at ⟨Γ,κ,p,.loadIfAlive a k⟩ T m i es
    | h::hs=>match h with
      | 0=>match P.kt.get a with
        | some o=>ih Γ κ p (k (some o)) T m i hs es
        | none=>.stop 1 a
      | j+1=>match T.get j with
        | some o=>ih Γ κ p (k (some o)) T m i hs ((.nat a,.nat (adr P.as P.k P.N j))::es)
        | none=>.stop 2 a
  | .alloc o k=>fun T m i hs es=>match o.isFreed with
    | true=>.stop 3 0
    | false=>match (T.ins (P.k+m) o).get (P.k+m) with
      | some _=>ih Γ κ p (k (P.N+m)) (T.ins (P.k+m) o) (m+1) i hs es
      | none=>.stop 4 m
  | .update a pt f k=>fun T m i hs es=>match hs with
    | []=>.at ⟨Γ,κ,p,.update a pt f k⟩ T m i es
    | h::hs=>match h with
      | 0=>.stop 6 a
      | j+1=>match T.get j with
        | some o=>match (f o).isFreed with
          | true=>.stop 7 a
          | false=>ih Γ κ p (k ()) (T.set j f) m i hs ((.nat a,.nat (adr P.as P.k P.N j))::es)
        | none=>.stop 8 a
  | .fresh k=>fun T m i hs es=>ih Γ κ p (k (P.tk+i)) T m (i+1) hs es
  | .handled own k=>ih Γ κ p (k (match own with | true=>Γ.own | false=>Γ.handled))
  | .stack k=>ih Γ κ p (k ((Γ.code,p)::Γ.below))
  | .call c h g l k=>fun T m i hs es=>match hs with
    | []=>.at ⟨Γ,κ,p,.call c h g l k⟩ T m i es
    | x::hs=>match x with
      | 0=>iw P ih (Γ.enter c h p) ((Γ,p,k)::κ) p c T m i hs es
      | e+1=>match Nat.ble (κ.length+P.B) 150 with
        | false=>.stop 70 1
        | true=>match P.effs[e]? with
          | none=>.stop 9 e
          | some E=>match mh T E.need es with
            | none=>.stop 10 e
            | some es'=>match ie T E.upd with
              | none=>.stop 11 e
              | some T'=>match ii T' P.k m E.news with
                | none=>.stop 12 e
                | some (T'',m')=>ih Γ κ p (k E.res) T'' m' (i+E.toks) hs ((.code c,.code E.code)::(.val (Γ.enter c h p).handled,.val E.hd)::qu E.sz (P.N+m) (qu E.tk (P.tk+i) es'))
  | .unsupported _=>no 50
  | .finish _=>no 30
  | .register ..=>no 31
  | .choose ..=>no 32
  | .os ..=>no 33
  | .fork ..=>no 34
  | .thread _=>no 35
  | .await ..=>no 36
  | .newGen ..=>no 37
  | .genState ..=>no 38
  | .resume ..=>no 39
  | .yield ..=>no 40
noncomputable def ex (P:Pm):Nat→nE
  | 0=>fun Γ κ p t=>yU ⟨Γ,κ,p,t⟩
  | n+1=>nL P (ex P n)
theorem rq (a b:Nat):K7 a b=decide (a < b):=by
  cases h:K7 a b with
  | true=>exact (decide_eq_true (I3 h)).symm
  | false=>
    symm;apply decide_eq_false
    intro q
    have:K7 a b=true:=Nat.ble_eq_true_of_le q
    rw [this] at h;cases h
theorem gF {as:List Nat} {k N j:Nat} (h:j < k):adr as k N j=as.getD j 0:=by
  unfold adr;rw [rq,decide_eq_true h]
theorem dw {as:List Nat} {k N j:Nat} (h:k≤j):adr as k N j=N+(j - k):=by
  unfold adr;rw [rq,decide_eq_false (Nat.not_lt.mpr h)]
structure Okay (P:Pm):Prop where
  k:P.as.length=P.k
  nodup:P.as.Nodup
  lt:∀a∈P.as,a < P.N
  ktA:∀a∈P.as,P.kt.get a=none
  ktN:∀a,P.N≤a→P.kt.get a=none
noncomputable abbrev Pm.adr (P:Pm) (j:Nat):Nat:=Mine.adr P.as P.k P.N j
theorem Okay.mem {P:Pm} (O:Okay P) {j:Nat} (h:j < P.k):P.adr j∈P.as:=by
  rw [Pm.adr,gF h]
  rw [←O.k] at h
  rw [I1,O0 h]
  exact W6 h
theorem Okay.inj {P:Pm} (O:Okay P) {i j:Nat} (e:P.adr i=P.adr j):i=j:=by
  by_cases hi:i < P.k
  · by_cases hj:j < P.k
    · rw [Pm.adr,Pm.adr,gF hi,gF hj] at e
      rw [←O.k] at hi hj
      rw [I1,I1,O0 hi,O0 hj] at e
      have pw:=L4.mp O.nodup
      have e:P.as[i]=P.as[j]:=e
      by_cases hlt:i < j
      · exact absurd e (pw i j hi hj hlt)
      · by_cases hgt:j < i
        · exact absurd e.symm (pw j i hj hi hgt)
        · lia
    · have h1:=O.lt _ (O.mem hi)
      rw [e,Pm.adr,dw (W4 hj)] at h1
      lia
  · by_cases hj:j < P.k
    · have h1:=O.lt _ (O.mem hj)
      rw [←e,Pm.adr,dw (W4 hi)] at h1
      lia
    · rw [Pm.adr,Pm.adr,dw (W4 hi),dw (W4 hj)] at e
      lia
theorem Okay.kt {P:Pm} (O:Okay P) (j:Nat):P.kt.get (P.adr j)=none:=by
  by_cases h:j < P.k
  · exact O.ktA _ (O.mem h)
  · apply O.ktN;rw [Pm.adr,dw (W4 h)];exact O4 _ _
theorem Okay.low {P:Pm} (O:Okay P) {j:Nat} (h:P.adr j < P.N):P.adr j∈P.as:=by
  by_cases hj:j < P.k
  · exact O.mem hj
  · rw [Pm.adr,dw (W4 hj)] at h;lia
structure Rel (P:Pm) (h₀ h:Heap) (T:BT) (m:Nat):Prop where
  size:h.objs.size=P.N+m
  size₀:h₀.objs.size=P.N
  own:∀j o,T.get j=some o→j < P.k+m∧h.get? (P.adr j)=some o
  kt:eq P.kt h
  keep:∀b o,h₀.get? b=some o→b∉P.as→h.get? b=some o
theorem Rel.update {P:Pm} (O:Okay P) {h₀ h:Heap} {T:BT} {m:Nat} (R:Rel P h₀ h T m) {j:Nat} {o:Obj} {f:Obj→Obj} (e:T.get j=some o) (hf:(f o).isFreed=false):
    Rel P h₀ (h.update (P.adr j) f) (T.set j f) m:=by
  have z:=R.own _ _ e
  refine ⟨by rw [E2];exact R.size,R.size₀,fun i o' e'=>?_,fun a o' e'=>?_,fun b o' e' hb=>?_⟩
  · rw [BT.get_set] at e'
    by_cases hi:i=j
    · subst hi
      rw [if_pos rfl,e] at e'
      cases e'
      exact ⟨z.1,M2 f z.2 hf⟩
    · rw [if_neg hi] at e'
      have y:=R.own _ _ e'
      exact ⟨y.1,(Y2 h f fun q=>hi (O.inj q.symm)).trans y.2⟩
  · have hne:P.adr j≠a:=by
      intro q
      have:=O.kt j
      rw [q,e'] at this;cases this
    exact (Y2 h f hne).trans (R.kt a o' e')
  · have hne:P.adr j≠b:=by
      intro q
      apply hb
      rw [←q]
      apply O.low
      rw [q,←R.size₀]
      exact P4 e'
    exact (Y2 h f hne).trans (R.keep b o' e' hb)
theorem oe {P:Pm} (m:Nat):P.adr (P.k+m)=P.N+m:=by
  rw [Pm.adr,dw (O4 ..)];lia
theorem Rel.alloc {P:Pm} {h₀ h:Heap} {T:BT} {m:Nat} (R:Rel P h₀ h T m) {o:Obj} (hf:o.isFreed=false) (hg:((T.ins (P.k+m) o).get (P.k+m)).isSome=true):
    Rel P h₀ (h.push o) (T.ins (P.k+m) o) (m+1):=by
  refine ⟨by rw [M3,R.size];rfl,R.size₀,fun i o' e'=>?_,fun a o' e'=>B1 _ (R.kt a o' e'),fun b o' e' hb=>B1 _ (R.keep b o' e' hb)⟩
  rw [BT.get_ins o T _ hg] at e'
  by_cases hi:i=P.k+m
  · subst hi
    rw [if_pos rfl] at e'
    cases e'
    refine ⟨by exact S0 _,?_⟩
    rw [oe,←R.size]
    exact B2 _ hf
  · rw [if_neg hi] at e'
    have y:=R.own _ _ e'
    exact ⟨by lia,B1 _ y.2⟩
noncomputable def bF (P:Pm) (E:bX) (h h':Heap):Prop:=
  h'.objs.size=h.objs.size+E.news.length∧
  (∀b o,h.get? b=some o→(∀q∈E.upd,P.adr q.1≠b)→h'.get? b=some o)∧
  (∀q∈E.upd,h'.get? (P.adr q.1)=some q.2)∧
  ∀i o,E.news[i]?=some o→h'.get? (h.objs.size+i)=some o
noncomputable def aC (P:Pm) (E:bX):Prop:=
  ∀(Γ:Ctx) (p:Pos) (s:Shared),Γ.code=E.code→Γ.handled=E.hd→Γ.below.length≤151→(∀q∈E.need,s.heap.get? (P.adr q.1)=some q.2)→eq P.kt s.heap→(∀z,E.sz=some z→s.heap.objs.size=z)→(∀z,E.tk=some z→s.toks=z)→
    ∃h',Returns (model P.prog P.w) Γ p s E.res ⟨h',s.gens,s.drawn,s.toks+E.toks,s.os⟩∧bF P E s.heap h'
theorem ju {o:Option Nat} {n:Nat} {es:List mX} (h:AllEq (qu o n es)):AllEq es∧∀z,o=some z→n=z:=by
  cases o with
  | none=>exact ⟨h,fun _ e=>(nomatch e)⟩
  | some z=>
    have e:Side.nat n=Side.nat z:=h _ (.head _)
    injection e with e
    exact ⟨AllEq.tail h,fun z' e'=>by cases e';exact e⟩
theorem jy {T:BT}:∀{l:List (Nat × Obj)} {es es':List mX},mh T l es=some es'→AllEq es'→AllEq es∧∀q∈l,T.get q.1=some q.2
  | [],es,es',h,a=>by cases h;exact ⟨a,fun _ hq=>nomatch hq⟩
  | (j,o)::l,es,es',h,a=>by
    unfold mh at h
    cases g:T.get j with
    | none=>rw [g] at h;cases h
    | some o'=>
      rw [g] at h
      obtain ⟨a',hl⟩:=jy h a
      refine ⟨a'.tail,fun q hq=>?_⟩
      cases hq with
      | head=>
        have:(Side.obj o')=(Side.obj o):=a' _ (.head _)
        injection this with e
        rw [g,e]
      | tail _ hq=>exact hl q hq
theorem m6 {T:BT}:∀{l:List (Nat × Obj)} {T':BT},ie T l=some T'→
    (∀q∈l,(T.get q.1).isSome=true)∧∀i o,T'.get i=some o→(∃q∈l,q.1=i∧q.2=o)∨(T.get i=some o∧∀q∈l,q.1≠i):=by
  intro l
  induction l generalizing T with
  | nil=>intro T' h;cases h;exact ⟨fun _ hq=>(nomatch hq),fun i o e=>Or.inr ⟨e,fun _ hq=>(nomatch hq)⟩⟩
  | cons x l ih=>
    obtain ⟨j,o₁⟩:=x
    intro T' h
    unfold ie at h
    cases g:T.get j with
    | none=>rw [g] at h;cases h
    | some o'=>
      rw [g] at h
      cases f:o₁.isFreed with
      | true=>rw [f] at h;cases h
      | false=>
        rw [f] at h
        obtain ⟨h1,h2⟩:=ih h
        refine ⟨fun q hq=>?_,fun i o e=>?_⟩
        · cases hq with
          | head=>show (T.get j).isSome=true;rw [g];rfl
          | tail _ hq=>
            have:=h1 q hq
            rw [BT.get_set] at this
            by_cases e:q.1=j
            · rw [e,g];rfl
            · rw [if_neg e] at this;exact this
        · rcases h2 i o e with ⟨q,hq,hq1,hq2⟩ | ⟨e1,e2⟩
          · exact .inl ⟨q,.tail _ hq,hq1,hq2⟩
          · rw [BT.get_set] at e1
            by_cases e:i=j
            · rw [if_pos e,g] at e1
              injection e1 with e1
              exact .inl ⟨(j,o₁),.head _,e.symm,e1⟩
            · rw [if_neg e] at e1
              refine .inr ⟨e1,fun q hq=>?_⟩
              cases hq with
              | head=>exact fun z=>e z.symm
              | tail _ hq=>exact e2 q hq
theorem mf {k:Nat}:∀{l:List Obj} {T:BT} {m:Nat} {T':BT} {m':Nat},ii T k m l=some (T',m')→
    m'=m+l.length∧∀i o,T'.get i=some o→T.get i=some o∨∃n,i=k+m+n∧l[n]?=some o:=by
  intro l
  induction l with
  | nil=>intro T m T' m' h;cases h;exact ⟨rfl,fun i o e=>.inl e⟩
  | cons x l ih=>
    intro T m T' m' h
    unfold ii at h
    cases f:x.isFreed with
    | true=>rw [f] at h;cases h
    | false=>
      rw [f] at h
      cases g:(T.ins (k+m) x).get (k+m) with
      | none=>rw [g] at h;cases h
      | some y=>
        rw [g] at h
        obtain ⟨h1,h2⟩:=ih h
        refine ⟨by rw [h1,J0];lia,fun i o e=>?_⟩
        rcases h2 i o e with e1 | ⟨n,e1,e2⟩
        · rw [BT.get_ins x T _ (by rw [g];rfl)] at e1
          by_cases z:i=k+m
          · rw [if_pos z] at e1
            injection e1 with e1
            subst e1
            exact .inr ⟨0,by exact z,rfl⟩
          · rw [if_neg z] at e1;exact .inl e1
        · exact .inr ⟨n+1,by lia,by rw [X5];exact e2⟩
theorem Rel.eff {P:Pm} (O:Okay P) {h₀ h h':Heap} {T T' T'':BT} {m m':Nat} {E:bX} (R:Rel P h₀ h T m) (hp:ie T E.upd=some T') (hn:ii T' P.k m E.news=some (T'',m')) (H:bF P E h h'):
    Rel P h₀ h' T'' m':=by
  obtain ⟨p1,p2⟩:=m6 hp
  obtain ⟨n1,n2⟩:=mf hn
  obtain ⟨H1,H2,H3,H4⟩:=H
  refine ⟨by rw [H1,R.size,n1];lia,R.size₀,fun j o e=>?_,fun a o e=>?_,fun b o e hb=>?_⟩
  · rcases n2 j o e with e1 | ⟨n,e1,e2⟩
    · rcases p2 j o e1 with ⟨q,hq,q1,q2⟩ | ⟨e2,e3⟩
      · have y:=H3 q hq
        rw [q1,q2] at y
        have:=p1 q hq
        rw [q1] at this
        cases g:T.get j with
        | none=>rw [g] at this;cases this
        | some o'=>exact ⟨by have:=(R.own j o' g).1;lia,y⟩
      · have y:=R.own j o e2
        exact ⟨by lia,H2 _ _ y.2 fun q hq z=>e3 q hq (O.inj z)⟩
    · have y:=H4 n o e2
      have hlen:n < E.news.length:=by
        rcases C1.mp e2 with ⟨hl,_⟩;exact hl
      subst e1
      refine ⟨by lia,?_⟩
      rw [Y7,oe,←Y7,←R.size]
      exact y
  · refine H2 _ _ (R.kt a o e) fun q hq z=>?_
    have:=O.kt q.1
    rw [z,e] at this;cases this
  · refine H2 _ _ (R.keep b o e hb) fun q hq z=>?_
    apply hb
    rw [←z]
    apply O.low
    rw [z,←R.size₀]
    exact P4 e
open Sem (wp)
theorem le3 {c:Prop} [Decidable c] {t:c→Nat} {e:¬c→Nat} (h1:∀h,t h≤3) (h2:∀h,e h≤3):dite c t e≤3:=by
  by_cases h:c
  · rw [dif_pos h];exact h1 h
  · rw [dif_neg h];exact h2 h
theorem xh {b:Bool}:(if b=true then 1 else 0)≤3:=by cases b<;>decide
theorem eV (c:Code):c.frames≤3:=by
  cases c with
  | builtin id a=>
    unfold Code.frames Code.frames.match_1
    dsimp only
    repeat' (refine le3 ?_ ?_<;>intro h)
    all_goals first | exact xh | (subst h;decide)
  | compStart a b c d e=>exact xh (b:=(Code.compStart a b c d e).isFrame)
  | compLoop a b c d e=>exact xh (b:=(Code.compLoop a b c d e).isFrame)
  | _=>exact I3 rfl
theorem nc (l:List Code):(l.map (·.frames)).sum≤3 * l.length:=by
  induction l with
  | nil=>exact S0 _
  | cons c l ih=>rw [H0,J3,J0];have:=eV c;lia
theorem kh {M:Model} {Γ:Ctx} {Q:Unit→Pos→Shared→Prop} {E:Value→Pos→Shared→Prop} {p:Pos} {s:Shared} (hb:Γ.below.length≤160)
    (h:wp M Γ currentRecursionLimit (fun lim p' s'=>lim=1000∧Q () p' s') E p s):wp M Γ enterFrame Q E p s:=by
  unfold enterFrame
  rw [M4]
  unfold PySem.stack
  rw [Sem.wp_stack,B7]
  show wp M Γ (currentRecursionLimit>>=_) Q E p s
  rw [M4]
  refine W2 M Γ _ ?_ (fun _ _ _ x=>x) p s h
  rintro lim p' s' ⟨rfl,hQ⟩
  generalize hl:List.map (fun x=>x.fst) ((Γ.code,p)::Γ.below)=l
  have hlen:l.length≤161:=by rw [←hl,B0,J0];exact oM hb rfl
  have h1:=nc l
  have h2:∀q:Code→Bool,(l.filter q).length≤l.length:=fun q=>J4 ..
  have near:∀n,n≤4 * 161→nearTheLimitUnderAClaim l n 1000=false:=by
    intro n hn
    unfold nearTheLimitUnderAClaim claimMargin
    rw [decide_eq_false (by lia)];rfl
  have h3:∀q:Code→Bool,(List.map (fun x=>x.frames) l).sum - 0+(l.filter q).length≤4 * 161:=fun q=>by have:=h2 q;rw [Nat.sub_zero];lia
  rw [near _ (h3 _),if_neg R1]
  rw [if_neg fun h=>absurd (M0 h (M0 (O4 _ _) (h3 fun _=>true))) (by decide)]
  rw [if_neg fun h=>absurd (M0 h (h3 _)) (by decide)]
  exact hQ
theorem bm {M:Model} {Γ:Ctx} {α β:Type} {m:Sem α} {f g:α→Sem β} {Q:β→Pos→Shared→Prop} {E:Value→Pos→Shared→Prop} {p:Pos} {s:Shared} (h:wp M Γ (m.bind f) Q E p s)
    (k:∀a p s,wp M Γ (f a) Q E p s→wp M Γ (g a) Q E p s):wp M Γ (m>>=g) Q E p s:=by
  rw [I5] at h
  rw [M4]
  exact W2 _ Γ _ (fun a p s=>k a p s) (fun _ _ _ x=>x) p s h
theorem bmB {M:Model} {Γ:Ctx} {β γ:Type} {m:Sem Value} {f:Value→Sem γ} {F:γ→Sem β} {g:Value→Sem β} {Q:β→Pos→Shared→Prop} {E:Value→Pos→Shared→Prop} {p:Pos} {s:Shared} (h:wp M Γ ((m.bind f).bind F) Q E p s)
    (k:∀a p s,wp M Γ ((f a).bind F) Q E p s→wp M Γ (g a) Q E p s):wp M Γ (m>>=g) Q E p s:=by
  rw [I5,I5] at h
  rw [M4]
  exact W2 _ Γ _ (fun a p s h=>k a p s (by rw [I5];exact h)) (fun _ _ _ x=>x) p s h
theorem bmV {M:Model} {Γ:Ctx} {K1 K2:Str→Sem Fin} {q0:Str} {Q:Fin→Pos→Shared→Prop} {E:Value→Pos→Shared→Prop} (k:∀a p s,wp M Γ (K1 a) Q E p s→wp M Γ (K2 a) Q E p s)
    (v:Value) (p:Pos) (s:Shared) (h:wp M Γ ((match v with | .str q _=>.pure q | _=>.pure q0:Sem Str).bind K1) Q E p s):wp M Γ (match (generalizing:=false) v with | .str q _=>pure q>>=K2 | _=>pure q0>>=K2) Q E p s:=by
  cases v<;>exact k _ _ _ h
theorem bmC {M:Model} {Γ:Ctx} {K1 K2:Str→Sem Fin} {q0:Str} {Q:Fin→Pos→Shared→Prop} {E:Value→Pos→Shared→Prop} (k:∀a p s,wp M Γ (K1 a) Q E p s→wp M Γ (K2 a) Q E p s)
    (c:Value) {p:Pos} {s:Shared} (h:wp M Γ ((match c with | .none=>.pure q0 | c=>(field c 1).bind fun | .str q _=>.pure q | _=>.pure q0:Sem Str).bind K1) Q E p s):
    wp M Γ (match (generalizing:=false) c with | .none=>pure q0>>=K2 | c=>field c 1>>=fun v=>match v with | .str q _=>pure q>>=K2 | _=>pure q0>>=K2) Q E p s:=by
  cases c with
  | none=>exact k _ _ _ h
  | _=>exact bmB h (bmV k)
theorem oo {prog:Program} {w:World} {Γ:Ctx} {Q:Fin→Pos→Shared→Prop} {E:Value→Pos→Shared→Prop} {p:Pos} {s:Shared} {a:Addr} {fd:FuncData} {args:Args} (hb:Γ.below.length≤160)
    (h:wp (model prog w) Γ (fP a fd args) Q E p s):wp (model prog w) Γ (callFunction a fd args) Q E p s:=by
  unfold fP at h
  rw [←PySem.W.Fast.te6609576154772507232,←PySem.W.Fast.te9782568553167038054,←PySem.W.Fast.te11113344188204177931,←R.bindR_eq] at h
  refine bmC (K2:=fun compiled=>do
      let env ←newFunctionEnv fd.scope fd.globals fd.closure (←bindArgs fd args) (compiled++".<locals>.") (some a) fd.code none fd.builtins
      enterFrame
      match fd.scope.isGenerator,fd.scope.isCoroutine with
      | false,false=>again (match fd.body with
        | .stmts b=>.func b env
        | .expr e=>.expr e env)
      | true,false=>ret (←newGenerator (match fd.body with
        | .stmts b=>.func b env
        | .expr e=>.expr e env) fd.name fd.qualname)
      | false,true=>ret (←newCoroutine (match fd.body with
        | .stmts b=>.func b env
        | .expr e=>.expr e env) fd.name fd.qualname)
      | true,true=>ret (←newAsyncGenerator (match fd.body with
        | .stmts b=>.func b env
        | .expr e=>.expr e env) fd.name fd.qualname)) (fun compiled p1 s1 h=>bm h fun binds p2 s2 h=>bm h fun env p3 s3 h=>?_) fd.code h
  rw [I5] at h
  rw [M4]
  refine kh hb (W2 _ Γ _ (fun lim p4 s4 h=>?_) (fun _ _ _ x=>x) p3 s3 h)
  rw [BT.beq_eq] at h
  by_cases hl:lim=1000
  · refine ⟨hl,?_⟩
    rw [decide_eq_true hl] at h
    generalize fd.scope.isGenerator=g at h⊢
    generalize fd.scope.isCoroutine=k at h⊢
    cases g
    · cases k
      · exact h
      · rw [O6] at h;exact h.elim
    · cases k<;>(rw [O6] at h;exact h.elim)
  · rw [decide_eq_false hl] at h
    rw [O6] at h
    exact h.elim
theorem iH {prog:Program} {w:World} {Γ:Ctx} {p:Pos} {s s':Shared} {r:Result} {a:Addr} {o:Obj} {fd:FuncData} {args:Args} (hb:Γ.below.length≤160) (ho:s.heap.get? a=some o) (hd:o.data= .func fd)
    (h:Runs (model prog w) Γ p (fP a fd args) [] s (.ret r) s'):Runs (model prog w) Γ p (denote table (.call (.ref a) args)) [] s (.ret r) s':=by
  have h1:=(A5 (model prog w) Γ (fP a fd args) (fun r' s''=>r'=r∧s''=s') p s).mpr ⟨r,s',h,rfl,rfl⟩
  have h2:=oo hb h1
  have h3:wp (model prog w) Γ (denote table (.call (.ref a) args)) (R8 (model prog w) Γ fun r' s''=>r'=r∧s''=s') (fun e _ s''=>Except.error e=r∧s''=s') p s:=by
    show wp (model prog w) Γ (callAny (.ref a) args) _ _ p s
    unfold callAny
    rw [M4,O9]
    refine ⟨o,ho,?_⟩
    simp only [hd]
    exact h2
  obtain ⟨r',s'',hr,rfl,rfl⟩:=(A5 (model prog w) Γ _ (fun r' s''=>r'=r∧s''=s') p s).mp h3
  exact hr
noncomputable def Goes (M:Model):K→Ctx→Pos→Sem Fin→Shared→(Result→Shared→Prop)→Prop
  | [],Γ,p,t,s,Q=>∃r s',Runs M Γ p t [] s (.ret r) s'∧Q r s'
  | (Γ₀,p₀,k)::κ,Γ,p,t,s,Q=>∃r s',Runs M Γ p t [] s (.ret r) s'∧Goes M κ Γ₀ p₀ (k r) s' Q
theorem Goes.head {M:Model} {κ:K} {Γ Γ':Ctx} {p p':Pos} {t t':Sem Fin} {s s₁:Shared} {Q:Result→Shared→Prop}
    (h:∀r s',Runs M Γ' p' t' [] s₁ (.ret r) s'→Runs M Γ p t [] s (.ret r) s') (g:Goes M κ Γ' p' t' s₁ Q):Goes M κ Γ p t s Q:=by
  cases κ with
  | nil=>obtain ⟨r,s',a,b⟩:=g;exact ⟨r,s',h r s' a,b⟩
  | cons x κ=>obtain ⟨r,s',a,b⟩:=g;exact ⟨r,s',h r s' a,b⟩
theorem Goes.callIn {M:Model} {κ:K} {Γ:Ctx} {p:Pos} {c:Code} {h:Option Value} {g:Bool} {l:List Value} {k:Result→Sem Fin} {s:Shared} {Q:Result→Shared→Prop}
    (H:Goes M ((Γ,p,k)::κ) (Γ.enter c h p) p (M.den c) s Q):Goes M κ Γ p (.call c h g l k) s Q:=by
  obtain ⟨r,s',a,b⟩:=H
  exact Goes.head (fun r' s'' q=>.call a q) b
theorem Goes.told {M:Model} {κ:K} {Γ:Ctx} {p:Pos} {c:Code} {h:Option Value} {g:Bool} {l:List Value} {k:Result→Sem Fin} {s s₁:Shared} {r:Result} {Q:Result→Shared→Prop}
    (a:Returns M (Γ.enter c h p) p s r s₁) (b:Goes M κ Γ p (k r) s₁ Q):Goes M κ Γ p (.call c h g l k) s Q:=by
  exact Goes.head (fun r' s'' q=>.call a q) b
theorem Goes.back {M:Model} {κ:K} {Γ Γ₀:Ctx} {p p₀:Pos} {k:Result→Sem Fin} {t:Sem Fin} {r:Result} {s:Shared} {Q:Result→Shared→Prop}
    (a:Runs M Γ p t [] s (.ret r) s) (b:Goes M κ Γ₀ p₀ (k r) s Q):Goes M ((Γ₀,p₀,k)::κ) Γ p t s Q:=⟨r,s,a,b⟩
section
variable {P:Pm} (O:Okay P) {h₀:Heap} {gs:Array GenState} {dr:Drawn} {os:OsState} {b:Nat} (hB:b≤P.B)
noncomputable def zG (P:Pm) (h₀:Heap) (gs:Array GenState) (dr:Drawn) (os:OsState) (Q:Result→Shared→Prop):Out→Prop
  | .stop ..=>True
  | .fin r T m i es=>AllEq es→∀h,Rel P h₀ h T m→Q r ⟨h,gs,dr,P.tk+i,os⟩
  | .at c T m i es=>AllEq es→∀h,Rel P h₀ h T m→Goes (model P.prog P.w) c.κ c.Γ c.p c.t ⟨h,gs,dr,P.tk+i,os⟩ Q
noncomputable def mz:Out→List mX
  | .stop ..=> []
  | .fin _ _ _ _ es=>es
  | .at _ _ _ _ es=>es
noncomputable def qQ:Out→Bool
  | .stop ..=>true
  | _=>false
noncomputable def Deep (b:Nat) (Γ:Ctx) (κ:K):Prop:=Γ.below.length=κ.length+b∧∀x∈κ.zipIdx,x.1.1.below.length+x.2+1=κ.length+b
theorem Deep.push {b:Nat} {Γ:Ctx} {κ:K} (d:Deep b Γ κ) (c:Code) (h:Option Value) (p:Pos) (k:Result→Sem Fin):Deep b (Γ.enter c h p) ((Γ,p,k)::κ):=by
  refine ⟨by show Γ.below.length+1=κ.length+1+b;rw [d.1];lia,fun x hx=>?_⟩
  rw [V6] at hx
  cases hx with
  | head=>show Γ.below.length+0+1=κ.length+1+b;rw [d.1];lia
  | tail _ hx=>
    rw [P2] at hx
    have e:((κ.zipIdx 1))=κ.zipIdx.map fun x=>(x.1,x.2+1):=by
      rw [E9]
    rw [e] at hx
    obtain ⟨y,hy,rfl⟩:=E1.mp hx
    have:=d.2 y hy
    show y.1.1.below.length+(y.2+1)+1=κ.length+1+b
    lia
theorem Deep.pop {b:Nat} {Γ Γ₀:Ctx} {κ:K} {p₀:Pos} {k:Result→Sem Fin} (d:Deep b Γ ((Γ₀,p₀,k)::κ)):Deep b Γ₀ κ:=by
  have h1:=d.2 ((Γ₀,p₀,k),0) (by rw [V6];exact .head _)
  refine ⟨by have:Γ₀.below.length+0+1=κ.length+1+b:=h1;lia,fun x hx=>?_⟩
  have:=d.2 (x.1,x.2+1) (by
    rw [V6]
    refine .tail _ ?_
    rw [P2,E9]
    exact E1.mpr ⟨x,hx,rfl⟩)
  have:x.1.1.below.length+(x.2+1)+1=κ.length+1+b:=this
  lia
end
noncomputable def oj (b:Nat):Out→Prop
  | .at c _ _ _ _=>Deep b c.Γ c.κ
  | _=>True
noncomputable def Snd (P:Pm) (h₀:Heap) (gs:Array GenState) (dr:Drawn) (os:OsState) (b:Nat) (Γ:Ctx) (κ:K) (p:Pos) (t:Sem Fin) (T:BT) (m i:Nat) (es:List mX) (o:Out):Prop:=
  AllEq (mz o)→qQ o=false→oj b o∧AllEq es∧∀h Q,Rel P h₀ h T m→zG P h₀ gs dr os Q o→Goes (model P.prog P.w) κ Γ p t ⟨h,gs,dr,P.tk+i,os⟩ Q
noncomputable def vY (P:Pm) (h₀:Heap) (gs:Array GenState) (dr:Drawn) (os:OsState) (b:Nat) (ih:nE):Prop:=
  ∀Γ κ p t T m i hs es,Deep b Γ κ→Snd P h₀ gs dr os b Γ κ p t T m i es (ih Γ κ p t T m i hs es)
theorem l4 {M:Model} {Γ:Ctx} {p:Pos} {c:Code} {s s':Shared} {r:Result} (h:Runs M Γ p (.pure (.again c)) [] s (.ret r) s'):Returns M (Γ.goto c) p s r s':=by
  obtain ⟨_,r',s'',hr,rfl,rfl⟩:=(A5 M Γ (.pure (.again c)) (fun r' s''=>r'=r∧s''=s') p s).mpr ⟨r,s',h,rfl,rfl⟩
  exact hr
theorem oR {Γ:Ctx} {c:Code} (hc:Γ.code=c):Γ.goto c=Γ:=by obtain ⟨c0,x1,x2,x3,x4⟩:=Γ;cases hc;rfl
section
variable {P:Pm} {h₀:Heap} {gs:Array GenState} {dr:Drawn} {os:OsState} {b:Nat} {Γ Γ':Ctx} {κ:K} {p p':Pos} {t t':Sem Fin} {T:BT} {m i:Nat} {hs:List Nat} {es:List mX} {o:Out}
theorem Snd.stop {x y:Nat}:Snd P h₀ gs dr os b Γ κ p t T m i es (.stop x y):=fun _ n=>nomatch n
theorem Snd.ask (d:Deep b Γ κ):Snd P h₀ gs dr os b Γ κ p t T m i es (.at ⟨Γ,κ,p,t⟩ T m i es):=fun a _=>⟨d,a,fun h _ R G=>G a h R⟩
theorem Snd.hd (f:∀h,Rel P h₀ h T m→∀r s',Runs (model P.prog P.w) Γ' p' t' [] ⟨h,gs,dr,P.tk+i,os⟩ (.ret r) s'→Runs (model P.prog P.w) Γ p t [] ⟨h,gs,dr,P.tk+i,os⟩ (.ret r) s')
    (z:Snd P h₀ gs dr os b Γ' κ p' t' T m i es o):Snd P h₀ gs dr os b Γ κ p t T m i es o:=
  fun a n=>⟨(z a n).1,(z a n).2.1,fun h Q R G=>Goes.head (f h R) ((z a n).2.2 h Q R G)⟩
theorem Snd.hdE {a j:Nat} (z:Snd P h₀ gs dr os b Γ' κ p' t' T m i ((.nat a,.nat j)::es) o)
    (f:a=j→∀h,Rel P h₀ h T m→∀r s',Runs (model P.prog P.w) Γ' p' t' [] ⟨h,gs,dr,P.tk+i,os⟩ (.ret r) s'→Runs (model P.prog P.w) Γ p t [] ⟨h,gs,dr,P.tk+i,os⟩ (.ret r) s'):Snd P h₀ gs dr os b Γ κ p t T m i es o:=
  fun x n=>⟨(z x n).1,(z x n).2.1.tail,fun h Q R G=>Goes.head (f (by have e:Side.nat a=Side.nat j:=(z x n).2.1 _ (.head _);injection e) h R) ((z x n).2.2 h Q R G)⟩
theorem Snd.opt {α:Type} {v:Option α} {f:α→Out} {x y:Nat} (h:∀a,v=some a→Snd P h₀ gs dr os b Γ κ p t T m i es (f a)):Snd P h₀ gs dr os b Γ κ p t T m i es (Option.rec (.stop x y) f v):=by
  cases v
  · exact Snd.stop
  · exact h _ rfl
theorem Snd.fn {D:Data} {f:FuncData→Out} {x y:Nat} (h:∀fd,D= .func fd→Snd P h₀ gs dr os b Γ κ p t T m i es (f fd)):Snd P h₀ gs dr os b Γ κ p t T m i es (match (generalizing:=false) D with | .func fd=>f fd | _=>.stop x y):=by
  cases D with
  | func fd=>exact h _ rfl
  | _=>exact Snd.stop
theorem Snd.tt {v:Bool} {x y:Nat} (h:v=true→Snd P h₀ gs dr os b Γ κ p t T m i es o):Snd P h₀ gs dr os b Γ κ p t T m i es (Bool.rec (.stop x y) o v):=by
  cases v
  · exact Snd.stop
  · exact h rfl
theorem Snd.ff {v:Bool} {x y:Nat} (h:v=false→Snd P h₀ gs dr os b Γ κ p t T m i es o):Snd P h₀ gs dr os b Γ κ p t T m i es (Bool.rec o (.stop x y) v):=by
  cases v
  · exact h rfl
  · exact Snd.stop
end
section
variable {P:Pm} (O:Okay P) {h₀:Heap} {gs:Array GenState} {dr:Drawn} {os:OsState} {b:Nat} (hB:b≤P.B) (hE:∀E∈P.effs,aC P E) {ih:nE} (IH:vY P h₀ gs dr os b ih)
  {Γ:Ctx} {κ:K} {p:Pos} {t:Sem Fin} {c:Code} {T:BT} {m i:Nat} {hs:List Nat} {es:List mX} (d:Deep b Γ κ)
include IH d
theorem jq {r:Result} (ht:∀s,Runs (model P.prog P.w) Γ p t [] s (.ret r) s):Snd P h₀ gs dr os b Γ κ p t T m i es (wF ih r κ T m i hs es):=by
  cases κ with
  | nil=>exact fun a _=>⟨trivial,a,fun h Q R G=>⟨r,_,ht _,G a h R⟩⟩
  | cons x κ=>exact fun a n=>⟨((IH _ _ _ _ T m i hs es d.pop) a n).1,((IH _ _ _ _ T m i hs es d.pop) a n).2.1,fun h Q R G=>Goes.back (ht _) (((IH _ _ _ _ T m i hs es d.pop) a n).2.2 h Q R G)⟩
theorem fm:Snd P h₀ gs dr os b Γ κ p (denote table c) T m i es (ih Γ κ p (den c) T m i hs es):=by
  rw [xR]
  exact IH Γ κ p (den c) T m i hs es d
omit IH in
theorem iJ (hc:Γ.code=c):Snd P h₀ gs dr os b Γ κ p (denote table c) T m i es (.at ⟨Γ,κ,p,.pure (.again c)⟩ T m i es):=
  Snd.hd (fun h R r s' q=>by have q:=l4 q;rw [oR hc] at q;unfold Returns at q;rw [hc] at q;exact q) (Snd.ask d)
theorem ez (hc:Γ.code=c):Snd P h₀ gs dr os b Γ κ p (denote table c) T m i es (ml ih Γ κ p c T m i hs es):=by
  cases hs with
  | nil=>exact iJ d hc
  | cons x hs=>exact fm IH d
include hB
set_option smartUnfolding false in
theorem gZ (hc:Γ.code=c):Snd P h₀ gs dr os b Γ κ p (denote table c) T m i es (iw P ih Γ κ p c T m i hs es):=by
  cases c with
  | call f args=>
    cases f with
    | ref ad=>
      cases hs with
      | nil=>exact iJ d hc
      | cons x hs=>
        cases x with
        | zero=>exact fm IH d
        | succ x=>
          refine Snd.tt (v:=Nat.ble (κ.length+P.B) 150) fun q=>?_
          have hb:Γ.below.length≤160:=by
            have q':κ.length+P.B≤150:=I3 q
            rw [d.1];lia
          cases x with
          | zero=>
            refine Snd.opt (v:=P.kt.get ad) fun o g=>?_
            exact Snd.fn (D:=o.data) fun fd hd=>Snd.hd (fun h R r s' q=>iH hb (R.kt _ _ g) hd q) (IH Γ κ p (fP ad fd args) T m i hs es d)
          | succ j=>
            refine Snd.opt (v:=T.get j) fun o g=>?_
            exact Snd.fn (D:=o.data) fun fd hd=>Snd.hdE (IH Γ κ p (fP ad fd args) T m i hs _ d) fun e h R r s' q=>iH hb (by rw [e];exact (R.own _ _ g).2) hd q
    | _=>exact fm IH d
  | forLoop=>exact ez IH d hc
  | whileLoop=>exact ez IH d hc
  | compLoop=>exact ez IH d hc
  | func=>exact ez IH d hc
  | _=>exact fm IH d
include hE O
set_option smartUnfolding false in
set_option maxHeartbeats 1000000 in
theorem lR:Snd P h₀ gs dr os b Γ κ p t T m i es (nL P ih Γ κ p t T m i hs es):=by
  cases t with
  | pure fin=>
    cases fin with
    | done f=>exact jq IH d fun _=>.done
    | again c=>
      cases q:c.quiet with
      | false=>exact (show nL P ih Γ κ p (.pure (.again c)) T m i hs es= .stop 5 0 by show (match c.quiet with | true=>iw P ih (Γ.goto c) κ p c | false=>no 5) T m i hs es=_;rw [q];rfl)▸Snd.stop
      | true=>exact (show nL P ih Γ κ p (.pure (.again c)) T m i hs es=iw P ih (Γ.goto c) κ p c T m i hs es by show (match c.quiet with | true=>iw P ih (Γ.goto c) κ p c | false=>no 5) T m i hs es=_;rw [q])▸Snd.hd (fun h R r s' x=>.again q x) (gZ (Γ:=Γ.goto c) hB IH d rfl)
  | raise e=>exact jq IH d fun _=>.raise
  | rule tag k=>exact Snd.hd (fun h R r s' x=>.rule x) (IH Γ κ p (k ()) T m i hs es d)
  | «at» p' k=>exact Snd.hd (fun h R r s' x=>.at x) (IH Γ κ p' (k ()) T m i hs es d)
  | point l k=>exact Snd.hd (fun h R r s' x=>.point x) (IH Γ κ p (k ()) T m i hs es d)
  | ask k=>exact Snd.hd (fun h R r s' x=>.ask x) (IH Γ κ p (k ⟨P.prog,P.w.params⟩) T m i hs es d)
  | stack k=>exact Snd.hd (fun h R r s' x=>.stack x) (IH Γ κ p (k ((Γ.code,p)::Γ.below)) T m i hs es d)
  | handled own k=>exact Snd.hd (fun h R r s' x=>.handled (by cases own<;>exact x)) (IH Γ κ p (k (match own with | true=>Γ.own | false=>Γ.handled)) T m i hs es d)
  | fresh k=>exact fun a n=>⟨(IH Γ κ p (k (P.tk+i)) T m (i+1) hs es d a n).1,(IH Γ κ p (k (P.tk+i)) T m (i+1) hs es d a n).2.1,fun h Q R G=>Goes.head (fun r s' x=>.fresh x) ((IH Γ κ p (k (P.tk+i)) T m (i+1) hs es d a n).2.2 h Q R G)⟩
  | load ad pt k=>
    cases hs with
    | nil=>exact Snd.ask d
    | cons x hs=>
      cases x with
      | zero=>exact Snd.opt (v:=P.kt.get ad) fun o g=>Snd.hd (fun h R r s' x=>.load (R.kt _ _ g) x) (IH Γ κ p (k o) T m i hs es d)
      | succ j=>exact Snd.opt (v:=T.get j) fun o g=>Snd.hdE (IH Γ κ p (k o) T m i hs _ d) fun e h R r s' x=>.load (by rw [e];exact (R.own _ _ g).2) x
  | loadIfAlive ad k=>
    cases hs with
    | nil=>exact Snd.ask d
    | cons x hs=>
      cases x with
      | zero=>exact Snd.opt (v:=P.kt.get ad) fun o g=>Snd.hd (fun h R r s' x=>.loadIfAlive (by rw [R.kt _ _ g];exact x)) (IH Γ κ p (k (some o)) T m i hs es d)
      | succ j=>exact Snd.opt (v:=T.get j) fun o g=>Snd.hdE (IH Γ κ p (k (some o)) T m i hs _ d) fun e h R r s' x=>.loadIfAlive (by rw [e,(R.own _ _ g).2];exact x)
  | alloc o k=>
    refine Snd.ff (v:=o.isFreed) fun f=>Snd.opt (v:=(T.ins (P.k+m) o).get (P.k+m)) fun y g=>fun a n=>?_
    have z:=IH Γ κ p (k (P.N+m)) (T.ins (P.k+m) o) (m+1) i hs es d a n
    refine ⟨z.1,z.2.1,fun h Q R G=>Goes.head (fun r s' x=>.alloc ?_) (z.2.2 (h.push o) Q (R.alloc f (by rw [g];rfl)) G)⟩
    show Runs _ Γ p (k h.objs.size) [] _ _ _
    rw [R.size]
    exact x
  | update ad pt f k=>
    cases hs with
    | nil=>exact Snd.ask d
    | cons x hs=>
      cases x with
      | zero=>exact Snd.stop
      | succ j=>
        refine Snd.opt (v:=T.get j) fun o g=>Snd.ff (v:=(f o).isFreed) fun hf=>fun a n=>?_
        have z:=IH Γ κ p (k ()) (T.set j f) m i hs _ d a n
        have e:Side.nat ad=Side.nat (P.adr j):=z.2.1 _ (.head _)
        injection e with e
        refine ⟨z.1,z.2.1.tail,fun h Q R G=>Goes.head (fun r s' x=>.update ?_ ?_) (z.2.2 (h.update (P.adr j) f) Q (R.update O g hf) G)⟩
        · show (h.get? ad).isSome=true
          rw [e,(R.own _ _ g).2];rfl
        · rw [e];exact x
  | call c hd gg l k=>
    cases hs with
    | nil=>exact Snd.ask d
    | cons x hs=>
      cases x with
      | zero=>exact fun a n=>
          have z:=gZ (Γ:=Γ.enter c hd p) (κ:=(Γ,p,k)::κ) (p:=p) hB IH (d.push c hd p k) rfl a n
          ⟨z.1,z.2.1,fun h Q R G=>Goes.callIn (z.2.2 h Q R G)⟩
      | succ e=>
        refine Snd.tt (v:=Nat.ble (κ.length+P.B) 150) fun q=>Snd.opt (v:=P.effs[e]?) fun E ge=>Snd.opt (v:=mh T E.need es) fun es' gn=>Snd.opt (v:=ie T E.upd) fun T' gp=>Snd.opt (v:=ii T' P.k m E.news) fun x gw=>fun a n=>?_
        have z:=IH Γ κ p (k E.res) x.1 x.2 (i+E.toks) hs _ d a n
        have e1:Side.code c=Side.code E.code:=z.2.1 _ (.head _)
        have e2:Side.val (Γ.enter c hd p).handled=Side.val E.hd:=z.2.1 _ (.tail _ (.head _))
        obtain ⟨a1,o1⟩:=ju z.2.1.tail.tail
        obtain ⟨a2,o2⟩:=ju a1
        obtain ⟨a'',hn⟩:=jy gn a2
        refine ⟨z.1,a'',fun h Q R G=>?_⟩
        obtain ⟨h',hr,hh⟩:=hE E (J1 ge) (Γ.enter c hd p) p ⟨h,gs,dr,P.tk+i,os⟩ (by injection e1) (by injection e2)
          (by show Γ.below.length+1≤151;have q':κ.length+P.B≤150:=I3 q;rw [d.1];lia) (fun q hq=>(R.own _ _ (hn q hq)).2) R.kt (fun z hz=>R.size.trans (o1 z hz)) o2
        have z':=z.2.2 h' Q (R.eff O gp gw hh) G
        rw [←Y7] at z'
        exact Goes.told hr z'
  | _=>exact Snd.stop
omit IH d in
theorem mt:∀n,vY P h₀ gs dr os b (ex P n)
  | 0=>fun _ _ _ _ _ _ _ _ _ d=>Snd.ask d
  | n+1=>fun _ _ _ _ _ _ _ _ _ d=>lR O hB hE (mt n) d
end
theorem jE (o:Obj):∀(t:BT) (n:Nat),(∀i,i < n→(t.get i).isSome=true)→(t.ins n o).get n=some o
  | .nil,n,h=>by
    cases n with
    | zero=>rfl
    | succ n=>have:=h 0 (by exact K5 _ _);cases this
  | .node v l r,n,h=>by
    rw [BT.ins_node]
    by_cases h0:n=0
    · subst h0;rw [if_pos rfl,BT.get_node,if_pos rfl]
    · rw [if_neg h0]
      by_cases p:n % 2=1
      · rw [if_pos p,BT.get_node,if_neg h0,if_pos p]
        refine jE o l _ fun i hi=>?_
        have:=h (2 * i+1) (by lia)
        rw [BT.get_node,if_neg (by lia),if_pos (by lia)] at this
        have e:(2 * i+1) / 2=i:=by lia
        rw [e] at this;exact this
      · rw [if_neg p,BT.get_node,if_neg h0,if_neg p]
        refine jE o r _ fun i hi=>?_
        have:=h (2 * i+2) (by lia)
        rw [BT.get_node,if_neg (by lia),if_neg (by lia)] at this
        have e:(2 * i+2) / 2 - 1=i:=by lia
        rw [e] at this;exact this
noncomputable def vo:List Obj→Nat→BT→BT
  | [],_,t=>t
  | o::l,i,t=>vo l (i+1) (t.ins i o)
noncomputable def bt (l:List Obj):BT:=vo l 0 .nil
theorem mR:∀(l:List Obj) (pre:List Obj) (t:BT),(∀j,t.get j=pre[j]?)→∀j,(vo l pre.length t).get j=(pre++l)[j]?
  | [],pre,t,h,j=>by rw [U0];exact h j
  | o::l,pre,t,h,j=>by
    have hf:∀i,i < pre.length→(t.get i).isSome=true:=fun i hi=>by rw [h,O0 hi];rfl
    have hg:=jE o t pre.length hf
    have h':∀i,(t.ins pre.length o).get i=(pre++ [o])[i]?:=fun i=>by
      rw [BT.get_ins o t _ (by rw [hg];rfl),h]
      by_cases e:i=pre.length
      · subst e;rw [if_pos rfl,Q3 (S0 _)];simp
      · rw [if_neg e]
        by_cases q:i < pre.length
        · rw [S7 q]
        · rw [V3 (by lia),V3 (by rw [N0,O1];lia)]
    have:=mR l (pre++ [o]) _ h' j
    rw [N0,O1] at this
    show (vo l (pre.length+1) (t.ins pre.length o)).get j=_
    rw [this,U2];rfl
theorem yg (l:List Obj) (j:Nat):(bt l).get j=l[j]?:=mR l [] .nil (fun j=>by cases j<;>rfl) j
noncomputable def Led (h:Heap):List (Nat × Obj)→Prop
  | []=>True
  | q::l=>h.get? q.1=some q.2∧Led h l
theorem Led.get {h:Heap} {l:List (Nat × Obj)} (H:Led h l):∀q∈l,h.get? q.1=some q.2:=by
  induction l with
  | nil=>intro q hq;cases hq
  | cons y l ih=>
    intro q hq
    rcases Z0.mp hq with e | hq
    · rw [e];exact H.1
    · exact ih H.2 q hq
noncomputable def W3 (w:World) (b₁ b₂ b₃:Bool):World:=
  ⟨w.draws,{w.2 with followText:=fun r=>cond (Nat.beq (PySem.W.S.codeS r) 10139888712337904147300001983332972444938612) b₁ (cond (Nat.beq (PySem.W.S.codeS r) 2510650655181157320538776789020469319833841985448949215332) b₂ (cond (Nat.beq (PySem.W.S.codeS r) 2128753998966767838836) b₃ (w.2.followText r)))}⟩
theorem iy {a b:String} (h:Nat.beq (PySem.W.S.codeS a) (PySem.W.S.codeS b)=true):a=b:=by
  have:=Nat.eq_of_beq_eq_true h
  rw [←PySem.W.S.code_S,←PySem.W.S.code_S] at this
  exact PySem.code_inj _ _ this
theorem vB (w:World):W3 w (w.2.followText "special-get-raises") (w.2.followText "comprehension-iter-twice") (w.2.followText "set-order")=w:=by
  obtain ⟨dr,pa⟩:=w
  have e1:PySem.W.S.codeS "special-get-raises"=10139888712337904147300001983332972444938612:=by decide+kernel
  have e2:PySem.W.S.codeS "comprehension-iter-twice"=2510650655181157320538776789020469319833841985448949215332:=by decide+kernel
  have e3:PySem.W.S.codeS "set-order"=2128753998966767838836:=by decide+kernel
  have:(fun r=>cond (Nat.beq (PySem.W.S.codeS r) 10139888712337904147300001983332972444938612) (pa.followText "special-get-raises") (cond (Nat.beq (PySem.W.S.codeS r) 2510650655181157320538776789020469319833841985448949215332) (pa.followText "comprehension-iter-twice") (cond (Nat.beq (PySem.W.S.codeS r) 2128753998966767838836) (pa.followText "set-order") (pa.followText r))))=pa.followText:=by
    funext r
    cases h1:Nat.beq (PySem.W.S.codeS r) 10139888712337904147300001983332972444938612 with
    | true=>rw [←e1] at h1;rw [iy h1];rfl
    | false=>
      cases h2:Nat.beq (PySem.W.S.codeS r) 2510650655181157320538776789020469319833841985448949215332 with
      | true=>rw [←e2] at h2;rw [iy h2];rfl
      | false=>
        cases h3:Nat.beq (PySem.W.S.codeS r) 2128753998966767838836 with
        | true=>rw [←e3] at h3;rw [iy h3];rfl
        | false=>rfl
  show (⟨dr,{pa with followText:=_}⟩:World)=⟨dr,pa⟩
  rw [this]
noncomputable def wi (as:List Nat) (k N:Nat) (js:List Nat):Out→Option (Result × Nat × Nat × List (Nat × Option Obj))
  | .fin r T m i _=>some (r,m,i,js.map fun j=>(adr as k N j,T.get j))
  | _=>none
noncomputable def dz:List (Nat × Obj)→List (Nat × Option Obj)
  | []=> []
  | q::l=>(q.1,some q.2)::dz l
noncomputable def jK (o:Out):Prop:=(mz o).map (·.1)=(mz o).map (·.2)
theorem oB {P:Pm} {h:Heap} (L:List (Nat × Obj)) (hk:P.k=L.length) (ha:P.as=L.map (·.1)) (hN:h.objs.size=P.N) (kt:eq P.kt h) (led:Led h L):Rel P h h (bt (L.map (·.2))) 0:=by
  refine ⟨hN,hN,fun j o e=>?_,kt,fun b o e _=>e⟩
  rw [yg,V0] at e
  cases q:L[j]? with
  | none=>rw [q] at e;cases e
  | some x=>
    rw [q] at e
    cases e
    obtain ⟨hj,_⟩:=C1.mp q
    refine ⟨by rw [hk];exact hj,?_⟩
    have:P.adr j=x.1:=by
      rw [Pm.adr,gF (by rw [hk];exact hj),ha,I1,V0,q];rfl
    rw [this]
    exact led.get x (J1 q)
theorem fg {h:Heap} {as:List Nat} {k N:Nat} {T:BT} (H:∀j o,T.get j=some o→h.get? (adr as k N j)=some o):∀{js:List Nat} {L:List (Nat × Obj)},(js.map fun j=>(adr as k N j,T.get j))=dz L→Led h L
  | [],[],_=>trivial
  | [],_::_,e=>by cases e
  | _::_,[],e=>by cases e
  | j::js,q::L,e=>by
    rw [H0] at e
    have e':((adr as k N j,T.get j)::js.map fun j=>(adr as k N j,T.get j))=(q.1,some q.2)::dz L:=e
    injection e' with e1 e2
    injection e1 with e3 e4
    refine ⟨?_,fg H e2⟩
    rw [←e3];exact H j _ e4
theorem lJ {α:Type} {a:α} {G:Prop} (h:none=some a):G:=nomatch h
theorem lN {as:List Nat} {k N:Nat} {js:List Nat} {o:Out} {r:Result} {m i:Nat} {l:List (Nat × Option Obj)} {G:Out→Prop} (h:wi as k N js o=some (r,m,i,l)) (H:∀T es,(js.map fun j=>(adr as k N j,T.get j))=l→G (.fin r T m i es)):G o:=by
  cases o with
  | stop=>exact lJ h
  | «at»=>exact lJ h
  | fin r' T m' i' es=>cases h;exact H T es rfl
section
variable {P:Pm} (O:Okay P) (hE:∀E∈P.effs,aC P E) {κ:K} {Γ:Ctx} {p:Pos} {t:Sem Fin} {s:Shared} {Q:Result→Shared→Prop} (L:List (Nat × Obj)) (n:Nat) (hs js:List Nat) {c:Code} {r:Result} {m i:Nat} {L':List (Nat × Obj)}
    (hk:P.k=L.length) (ha:P.as=L.map (·.1)) (hN:s.heap.objs.size=P.N) (ht:s.toks=P.tk) (kt:eq P.kt s.heap) (led:Led s.heap L)
    (b:Nat) (hB:b≤P.B) (d:Deep b Γ κ)
include O hE hk ha hN ht kt led hB d
theorem n9 {o:Out} (ho:ex P n Γ κ p t (bt (L.map (·.2))) 0 0 hs []=o) (he:jK o) (hs':qQ o=false):oj b o∧(zG P s.heap s.gens s.drawn s.os Q o→Goes (model P.prog P.w) κ Γ p t s Q):=by
  have S:=mt (h₀:=s.heap) (gs:=s.gens) (dr:=s.drawn) (os:=s.os) O hB hE n Γ κ p t (bt (L.map (·.2))) 0 0 hs [] d
  rw [ho] at S
  have S:=S (ry he) hs'
  have S2:=S.2.2 s.heap Q (oB L hk ha hN kt led)
  rw [Q0,←ht] at S2
  exact ⟨S.1,S2⟩
theorem tw (hv:wi P.as P.k P.N js (ex P n Γ κ p t (bt (L.map (·.2))) 0 0 hs [])=some (r,m,i,dz L'))
    (he:jK (ex P n Γ κ p t (bt (L.map (·.2))) 0 0 hs []))
    (H:∀h':Heap,h'.objs.size=s.heap.objs.size+m→Led h' L'→eq P.kt h'→(∀b o,s.heap.get? b=some o→b∉P.as→h'.get? b=some o)→Q r ⟨h',s.gens,s.drawn,s.toks+i,s.os⟩):
    Goes (model P.prog P.w) κ Γ p t s Q:=by
  refine lN (G:=fun o=>ex P n Γ κ p t (bt (L.map (·.2))) 0 0 hs []=o→jK o→Goes (model P.prog P.w) κ Γ p t s Q) hv (fun T es hl ho he=>?_) rfl he
  refine (n9 (Q:=Q) O hE L n hs hk ha hN ht kt led b hB d ho he rfl).2 fun _ h' R'=>?_
  rw [←ht]
  exact H h' (by rw [R'.size,hN]) (fg (fun j o q=>(R'.own j o q).2) hl) R'.kt R'.keep
noncomputable def fz:Out→yD
  | .at c _ _ _ _=>c
  | _=>⟨⟨.builtin "" {},none,none,[],none⟩,[],default,.unsupported ""⟩
noncomputable def kOf (c:yD) (r:Result):Sem Fin:=match c.t with
  | .call _ _ _ _ k=>k r
  | _=>.unsupported ""
noncomputable def n8 (as:List Nat) (k N:Nat) (js:List Nat):Out→Option (Code × Nat × Nat × List (Nat × Option Obj))
  | .at c T m i _=>match c.t with
    | .call c' h _ _ _=>match c.Γ.handled,c.Γ.own,c.Γ.past,h with
      | none,none,none,none=>match Nat.ble c.κ.length 8 with
        | true=>some (c',m,i,js.map fun j=>(adr as k N j,T.get j))
        | false=>none
      | _,_,_,_=>none
    | _=>none
  | _=>none
omit O hE hk ha hN ht kt led hB d in
theorem jm {as:List Nat} {k N:Nat} {o:Out} {l:List (Nat × Option Obj)} {G:Out→Prop} (h:n8 as k N js o=some (c,m,i,l))
    (H:∀c0 bl κ p hd g l' T es,κ.length≤8→(js.map fun j=>(adr as k N j,T.get j))=l→G (.at ⟨⟨c0,none,none,bl,none⟩,κ,p,.call c none hd g l'⟩ T m i es)):G o:=by
  cases o with
  | stop=>exact lJ h
  | fin=>exact lJ h
  | «at» C T m' i' es=>
    obtain ⟨⟨c0,h1,h2,bl,h3⟩,κ,p,t⟩:=C
    cases t with
    | call c' h4 hd g l'=>
      cases h1 with
      | some=>exact lJ h
      | none=>cases h2 with
        | some=>exact lJ h
        | none=>cases h3 with
          | some=>exact lJ h
          | none=>cases h4 with
            | some=>exact lJ h
            | none=>
              have h:(match Nat.ble κ.length 8 with | true=>some (c',m',i',js.map fun j=>(adr as k N j,T.get j)) | false=>none)=some (c,m,i,l):=h
              cases q:Nat.ble κ.length 8 with
              | false=>rw [q] at h;exact lJ h
              | true=>rw [q] at h;cases h;exact H _ _ _ _ _ _ _ _ _ (I3 q) rfl
    | _=>exact lJ h
theorem wj (hv:n8 P.as P.k P.N js (ex P n Γ κ p t (bt (L.map (·.2))) 0 0 hs [])=some (c,m,i,dz L'))
    (he:jK (ex P n Γ κ p t (bt (L.map (·.2))) 0 0 hs []))
    (H:∀(h':Heap) (C:yD),C=fz (ex P n Γ κ p t (bt (L.map (·.2))) 0 0 hs [])→Deep b C.Γ C.κ→((C.Γ.code,C.p)::C.Γ.below).length≤b+9→h'.objs.size=s.heap.objs.size+m→Led h' L'→eq P.kt h'→(∀b o,s.heap.get? b=some o→b∉P.as→h'.get? b=some o)→
      ∃r s₂,Returns (model P.prog P.w) ⟨c,none,none,(C.Γ.code,C.p)::C.Γ.below,none⟩ C.p ⟨h',s.gens,s.drawn,s.toks+i,s.os⟩ r s₂∧Goes (model P.prog P.w) C.κ C.Γ C.p (kOf C r) s₂ Q):
    Goes (model P.prog P.w) κ Γ p t s Q:=by
  refine jm (G:=fun o=>ex P n Γ κ p t (bt (L.map (·.2))) 0 0 hs []=o→jK o→Goes (model P.prog P.w) κ Γ p t s Q) js hv (fun c0 bl κ' p' hd g l' T es hle hl ho he=>?_) rfl he
  have U:=n9 (Q:=Q) O hE L n hs hk ha hN ht kt led b hB d ho he rfl
  refine U.2 fun _ h' R'=>?_
  obtain ⟨r,s₂,hr,hg⟩:=H h' _ (by rw [ho];rfl) U.1 (by show bl.length+1≤b+9;have:=U.1.1;have:bl.length=κ'.length+b:=this;lia) (by rw [R'.size,hN]) (fg (fun j o q=>(R'.own j o q).2) hl) R'.kt R'.keep
  rw [←ht]
  exact Goes.told hr hg
noncomputable def jl (as:List Nat) (k N:Nat) (js:List Nat):Out→Option (Code × Nat × Nat × List (Nat × Option Obj))
  | .at c T m i _=>match c.t with
    | .pure fin=>match fin with
      | .again c'=>match c.Γ.handled,c.Γ.own,c.Γ.past,c.κ with
        | none,none,none,[]=>some (c',m,i,js.map fun j=>(adr as k N j,T.get j))
        | _,_,_,_=>none
      | _=>none
    | _=>none
  | _=>none
omit O hE hk ha hN ht kt led hB d in
theorem gI {as:List Nat} {k N:Nat} {o:Out} {l:List (Nat × Option Obj)} {G:Out→Prop} (h:jl as k N js o=some (c,m,i,l))
    (H:∀c0 bl p T es,(js.map fun j=>(adr as k N j,T.get j))=l→G (.at ⟨⟨c0,none,none,bl,none⟩,[],p,.pure (.again c)⟩ T m i es)):G o:=by
  cases o with
  | stop=>exact lJ h
  | fin=>exact lJ h
  | «at» C T m' i' es=>
    obtain ⟨⟨c0,h1,h2,bl,h3⟩,κ,p,t⟩:=C
    cases t with
    | pure fin=>
      cases fin with
      | again c'=>
        cases h1 with
        | some=>exact lJ h
        | none=>cases h2 with
          | some=>exact lJ h
          | none=>cases h3 with
            | some=>exact lJ h
            | none=>cases κ with
              | cons=>exact lJ h
              | nil=>cases h;exact H _ _ _ _ _ rfl
      | _=>exact lJ h
    | _=>exact lJ h
end
theorem aa {c:Code} {below:List (Code × Pos)}:Deep below.length ⟨c,none,none,below,none⟩ []:=⟨by show below.length=0+below.length;exact (P2 _).symm,fun x hx=>nomatch hx⟩
noncomputable abbrev S (l:List Nat):PySem.Str:=⟨⟨l⟩⟩
noncomputable def lst (vs:List Value) (ep:Nat):Obj:=⟨.type "list",none,.seq ⟨vs⟩ ep,#[]⟩
noncomputable def aS (vs:List Value):Obj:=⟨.type "tuple",none,.seq ⟨vs⟩ 0,#[]⟩
noncomputable def aP (c d:Nat):Obj:=⟨.ref c,some d,.plain,#[]⟩
noncomputable def aE (P:Params) (x:PySem.Str) (t:Nat) (v:Value):DictEntry:=⟨PyData.keyHash P x,.str x t,v⟩
noncomputable def jx (es:List DictEntry) (ep:Nat):Obj:=⟨.type "dict",none,.dict ⟨es⟩ ep,#[]⟩
noncomputable def bY (x:Int × Nat × Value):DictEntry:=⟨hashInt x.1,.int x.1 x.2.1,x.2.2⟩
noncomputable def ak (l:List (Int × Nat × Value)) (ep:Nat):Obj:=⟨.type "dict",none,.dict ⟨l.map bY⟩ ep,#[]⟩
noncomputable abbrev s5:=S [115,101,108,102]
noncomputable abbrev s6:=S [47,99,108,97,105,109,47,99,117,116,46,112,121]
noncomputable abbrev s7:=S [97,98,111,118,101]
noncomputable abbrev s8:=S [115,111,114,116,101,114]
noncomputable abbrev s9:=S [112,114,101,100,101,99,101,115,115,111,114,115]
noncomputable abbrev sa:=S [110,111,100,101]
noncomputable abbrev sb:=S [110,111,100,101,50,115,116,97,99,107,105]
noncomputable abbrev sd:=S [108,97,115,116]
noncomputable abbrev sf:=S [115,99,114,105,112,116]
noncomputable abbrev sg:=S [105,116,115,116,97,99,107]
noncomputable abbrev sh:=S [110,111,100,101,105,110,102,111]
noncomputable abbrev si:=S [99,112,121,51,49,51,46,103,114,97,112,104,108,105,98]
noncomputable abbrev sj:=S [110,117,109,98,101,114,115]
noncomputable abbrev sk:=S [110,50,105]
noncomputable abbrev sm:=S [115,116,97,99,107]
noncomputable abbrev sn:=S [60,108,97,109,98,100,97,62]
noncomputable abbrev so:=S [108,105,110,101]
noncomputable abbrev sq:=S [115,108,97,115,104,101,115]
noncomputable abbrev sr:=S [115,101,101,110]
noncomputable abbrev su:=S [103,111,110,101]
noncomputable abbrev sw:=S [115,117,99,99,101,115,115,111,114,95,105,110,102,111]
noncomputable abbrev sy:=S [105]
noncomputable abbrev sA:=S [116,101,115,116]
noncomputable abbrev sB:=S [115,117,99,99,101,115,115,111,114]
noncomputable abbrev sC:=S [84,111,112,111,108,111,103,105,99,97,108,83,111,114,116,101,114,46,95,102,105,110,100,95,99,121,99,108,101]
noncomputable abbrev sD:=S [84,111,112,111,108,111,103,105,99,97,108,83,111,114,116,101,114]
noncomputable abbrev sE:=S [95,108,97,119,95,97,100,100,114,101,115,115,101,115]
noncomputable abbrev sF:=S [84,111,112,111,108,111,103,105,99,97,108,83,111,114,116,101,114,46,103,101,116,95,114,101,97,100,121]
noncomputable abbrev sG:=S [98,97,115,101]
noncomputable abbrev sH:=S [84,111,112,111,108,111,103,105,99,97,108,83,111,114,116,101,114,46,105,115,95,97,99,116,105,118,101]
noncomputable abbrev sI:=S [108,97,119,95,109,113,48,51,54,50,95,48,50]
noncomputable abbrev sJ:=S [110,111,100,101,115]
noncomputable abbrev sK:=S [84,111,112,111,108,111,103,105,99,97,108,83,111,114,116,101,114,46,112,114,101,112,97,114,101]
noncomputable abbrev sL:=S [72,84,84,80,80,97,115,115,119,111,114,100,77,103,114,46,105,115,95,115,117,98,117,114,105]
noncomputable abbrev sM:=S [114,111,119]
noncomputable abbrev sN:=S [72,84,84,80,80,97,115,115,119,111,114,100,77,103,114]
noncomputable abbrev sO:=S [95,108,97,119,95,97,100,100,114,101,115,115]
noncomputable abbrev sP:=S [112,114,101,102,105,120]
noncomputable abbrev sQ:=S [84,111,112,111,108,111,103,105,99,97,108,83,111,114,116,101,114,46,100,111,110,101]
noncomputable abbrev sR:=S [95,95,105,110,105,116,95,95]
noncomputable abbrev sS:=S [84,111,112,111,108,111,103,105,99,97,108,83,111,114,116,101,114,46,95,103,101,116,95,110,111,100,101,105,110,102,111]
noncomputable abbrev sT:=S [84,111,112,111,108,111,103,105,99,97,108,83,111,114,116,101,114,46,97,100,100]
noncomputable abbrev sU:=S [99,112,121,51,49,51,46,117,114,108,108,105,98,46,114,101,113,117,101,115,116]
noncomputable abbrev sV:=S [95,95,115,116,97,116,105,99,95,97,116,116,114,105,98,117,116,101,115,95,95]
noncomputable abbrev sW:=S [112,97,116,104]
noncomputable abbrev sX:=S [100,101,101,112]
noncomputable abbrev sY:=S [95,108,97,119,95,99,104,97,105,110]
noncomputable abbrev sZ:=S [84,111,112,111,108,111,103,105,99,97,108,83,111,114,116,101,114,46,95,95,105,110,105,116,95,95]
noncomputable abbrev yz:=S [95,108,97,119,95,119,97,108,107]
noncomputable abbrev yR:=S [112,114,101,100,95,105,110,102,111]
noncomputable abbrev s12:=S [72,84,84,80,80,97,115,115,119,111,114,100,77,103,114,46,95,95,105,110,105,116,95,95]
noncomputable abbrev s13:=S [95,95,102,105,114,115,116,108,105,110,101,110,111,95,95]
noncomputable abbrev wv:=S [114,101,115,117,108,116]
noncomputable abbrev yQ:=S [95,78,111,100,101,73,110,102,111]
noncomputable abbrev s16:=S [110,112,114,101,100,101,99,101,115,115,111,114,115]
noncomputable abbrev dP:=S [107]
noncomputable abbrev rV:=S [119,105,100,101]
noncomputable abbrev s19:=S [95,103,101,116,95,110,111,100,101,105,110,102,111]
noncomputable abbrev s1a:=S [95,78,111,100,101,73,110,102,111,46,95,95,105,110,105,116,95,95]
noncomputable abbrev tN:=S [115,116,97,116]
noncomputable abbrev s1c:=S [95,102,105,110,100,95,99,121,99,108,101]
noncomputable abbrev s1d:=S [115,117,99,99,101,115,115,111,114,115]
noncomputable abbrev yP:=S [95,95,100,111,99,95,95]
noncomputable abbrev s1f:=S [95,95,109,111,100,117,108,101,95,95]
noncomputable abbrev wu:=S [112,114,101,100]
noncomputable abbrev fF:=S [106]
noncomputable abbrev s1i:=S [105,115,95,115,117,98,117,114,105]
noncomputable abbrev s1j:=S [103,101,116,95,114,101,97,100,121]
noncomputable abbrev tM:=S [107,101,121]
noncomputable abbrev s1l:=S [105,115,95,97,99,116,105,118,101]
noncomputable abbrev s1m:=S [112,97,115,115,119,100]
noncomputable abbrev eJ:=S [47]
noncomputable abbrev s1o:=S [112,114,101,112,97,114,101]
noncomputable abbrev s1p:=S [109,97,110,97,103,101,114]
noncomputable abbrev s1q:=S [99,104,97,105,110,115]
noncomputable abbrev yy:=S [108,97,119]
noncomputable abbrev lb:=S [110]
noncomputable abbrev s1t:=S [95,114,101,97,100,121,95,110,111,100,101,115]
noncomputable abbrev s1u:=S [95,110,112,97,115,115,101,100,111,117,116]
noncomputable abbrev s1v:=S [95,110,102,105,110,105,115,104,101,100]
noncomputable abbrev s1w:=S [95,110,111,100,101,50,105,110,102,111]
noncomputable abbrev s1x:=S []
theorem az {P:Pm} {E:bX} (h:∀(A:Around) (s:Shared),A.handled=E.hd→A.units≤1510→(∀q∈E.need,s.heap.get? (P.adr q.1)=some q.2)→eq P.kt s.heap→(∀z,E.sz=some z→s.heap.objs.size=z)→(∀z,E.tk=some z→s.toks=z)→
    codeAny (model P.prog P.w) A E.code (fun r s'=>r=E.res∧∃h',s'=⟨h',s.gens,s.drawn,s.toks+E.toks,s.os⟩∧bF P E s.heap h') s):aC P E:=by
  intro Γ p s hc hh hb hn hk hz htk
  have hu:unitsOf Γ.below≤1510:=by
    have:∀l:List (Code × Pos),unitsOf l≤10 * l.length:=by
      intro l
      induction l with
      | nil=>exact S0 _
      | cons x l ih=>
        obtain ⟨c,q⟩:=x
        rw [unitsOf_cons,J0]
        have:c.cUnits≤10:=by
          have hf:=eV c
          cases c<;>(unfold Code.cUnits;dsimp only;(first | decide | exact K5 _ _ | lia))
        lia
    have:=this Γ.below
    lia
  obtain ⟨r,s',hr,he,h',hs,hH⟩:=h ⟨Γ.handled,frameCount Γ.below,none,none,unitsOf Γ.below⟩ s hh hu hn hk hz htk Γ p hc ⟨rfl,S0 _,fun _ x=>(nomatch x),fun _ x=>(nomatch x),S0 _⟩
  subst he hs
  exact ⟨h',hr,hH⟩
theorem a8 {P:Pm}:∀E∈([]:List bX),aC P E:=fun _ h=>nomatch h
theorem a9 {P:Pm} {E:bX} {l:List bX} (h:aC P E) (t:∀E∈l,aC P E):∀E'∈E::l,aC P E':=by
  intro E' hE
  rcases Z0.mp hE with e | hE
  · rw [e];exact h
  · exact t E' hE
theorem aG {P:Pm} {E:bX} {h:Heap} (hu:E.upd= []) (hn:E.news= []):bF P E h h:=by
  unfold bF
  rw [hu,hn]
  exact ⟨rfl,fun _ _ e _=>e,fun _ hq=>(nomatch hq),fun _ _ hq=>(nomatch hq)⟩
theorem bH {P:Pm} {E:bX} {h:Heap} {j a:Nat} {o:Obj} {f:Obj→Obj} {o':Obj} (hj:P.adr j=a) (hu:E.upd= [(j,o')]) (hn:E.news= []) (ho:h.get? a=some o) (hf:f o=o') (hfree:o'.isFreed=false):bF P E h (h.update a f):=by
  unfold bF
  rw [hu,hn]
  refine ⟨by simp,fun b o e hne=>?_,fun q hq=>?_,fun _ _ hq=>(nomatch hq)⟩
  · have:=hne (j,o') (.head _)
    rw [hj] at this
    exact (Y2 h f this).trans e
  · rcases Z0.mp hq with rfl | hq
    · rw [hj,←hf]
      exact M2 f ho (by rw [hf];exact hfree)
    · cases hq
theorem b0 {prog:Program} {w:World} {A:Around} {s:Shared} {T:String} {name:Str} {id:String} {B:Builtin} {self:Value} {rest:List Value} {S:Spec} {R:Result→Shared→Prop} (slot:Slot T name id) (hT:s.TypeIs self T)
    (entry:entryFor table id=some B) (args:argsOk id ⟨self::rest,[]⟩) (g:MeetsIn prog w (B ⟨self::rest,[]⟩) S) (h:S A R s):
    codeAny (model prog w) A (.call (.builtin id) ⟨self::rest,[]⟩) R s:=
  M1 slot.plain entry (slot.check _ _ _ _ _ _ _ _ hT args (g A R s h))
noncomputable def bC (l:List (Int × Nat × Value)) (k:Int):Option Value:=(l.find? fun x=>x.1==k).map (·.2.2)
theorem fh {prog:Program} {w:World} (l:List (Int × Nat × Value)):KeysOf (intKind prog w) ⟨l.map bY⟩:=by
  intro e he
  have he:e∈l.map bY:=by simpa using he
  obtain ⟨x,_,rfl⟩:=E1.mp he
  exact ⟨x.1,by show (x.1==x.1)=true;simp,rfl⟩
theorem gV {prog:Program} {w:World} (l:List (Int × Nat × Value)) (k:Int):findBy (intKind prog w).is ⟨l.map bY⟩ k=bC l k:=by
  unfold findBy bC
  have:((⟨l.map bY⟩:Array DictEntry).find? fun e=>(intKind prog w).is k e.key)=(l.find? fun x=>x.1==k).map bY:=by
    have e:(⟨l.map bY⟩:Array DictEntry)=(l.map bY).toArray:=rfl
    rw [e,List.find?_toArray,List.find?_map]
    rfl
  rw [this,Option.map_map]
  rfl
theorem ey {prog:Program} {w:World} {h:Heap} {d:Nat} {l:List (Int × Nat × Value)} {ep:Nat} (ho:h.get? d=some (ak l ep)):h.MapOf (intKind prog w) d (bC l):=
  ⟨_,_,ep,ho,⟨rfl,rfl,rfl⟩,rfl,fh l,gV l⟩
theorem ay {s:Shared} {d:Nat} {o:Obj} {T:String} (ho:s.heap.get? d=some o) (hc:o.cls= .type T):s.TypeIs (.ref d) T:=⟨o,ho,hc⟩
theorem fq {P:Pm} {j d:Nat} (hd:d≠1) (l:List (Int × Nat × Value)) (ep:Nat) (k:Int) (t:Nat) {v:Value} (hv:(bC l k).getD .none=v) (hj:P.adr j=d:=by rfl):
    aC P {code:=.call (.builtin "dict.get") ⟨[.ref d,.int k t],[]⟩,need:= [(j,ak l ep)],res:=.ok (.ret v),toks:=1}:=by
  refine az fun A s _ _ hn _ _ _=>?_
  have ho:s.heap.get? d=some (ak l ep):=by have:=hn _ (.head _);rw [hj] at this;exact this
  refine b0 F.slot_dict_get (ay ho rfl) F.entry_dict_get (F.args_dict_get_2 _ _) (meets_dict_get (intKind P.prog P.w) (k:=k) d (by show (k==k)=true;simp) (by simpa [sysModules] using hd)) ⟨bC l,ey ho,?_⟩
  exact ⟨by rw [hv],_,rfl,aG rfl rfl⟩
theorem bp {P:Pm} {j d:Nat} (l:List (Int × Nat × Value)) (ep:Nat) (k:Int) (t:Nat) {v:Value} (hv:bC l k=some v) (hj:P.adr j=d:=by rfl):
    aC P {code:=.call (.builtin "dict.__getitem__") ⟨[.ref d,.int k t],[]⟩,need:= [(j,ak l ep)],res:=.ok (.ret v),toks:=1}:=by
  refine az fun A s _ _ hn _ _ _=>?_
  have ho:s.heap.get? d=some (ak l ep):=by have:=hn _ (.head _);rw [hj] at this;exact this
  exact b0 F.slot_dict_getitem (ay ho rfl) F.entry_dict_getitem (F.args_dict_getitem_2 _ _) (meets_dict_getitem (intKind P.prog P.w) (k:=k) d (by show (k==k)=true;simp)) ⟨bC l,v,ey ho,hv,rfl,_,rfl,aG rfl rfl⟩
theorem hK {P:Pm} {j d:Nat} (hd:d≠1) (l:List (Int × Nat × Value)) (ep:Nat) (k:Int) (t:Nat) {b:Bool} (hv:(bC l k).isSome=b) (hj:P.adr j=d:=by rfl):
    aC P {code:=.call (.builtin "dict.__contains__") ⟨[.ref d,.int k t],[]⟩,need:= [(j,ak l ep)],res:=.ok (.ret (.bool b)),toks:=1}:=by
  refine az fun A s _ _ hn _ _ _=>?_
  have ho:s.heap.get? d=some (ak l ep):=by have:=hn _ (.head _);rw [hj] at this;exact this
  refine b0 F.slot_dict_contains (ay ho rfl) F.entry_dict_contains (F.args_dict_contains_2 _ _) (meets_dict_contains (intKind P.prog P.w) (k:=k) d (by show (k==k)=true;simp) (by simpa [sysModules] using hd)) ⟨bC l,ey ho,?_⟩
  exact ⟨by rw [hv],_,rfl,aG rfl rfl⟩
theorem lr {prog:Program} {w:World} {l:List (Int × Nat × Value)} {k:Int} (h:bC l k=none):((⟨l.map bY⟩:Array DictEntry).findIdx? fun e=>(intKind prog w).is k e.key)=none:=by
  have e:=gV (prog:=prog) (w:=w) l k
  rw [findBy_of_findIdx?,h] at e
  cases q:(⟨l.map bY⟩:Array DictEntry).findIdx? fun e=>(intKind prog w).is k e.key with
  | none=>rfl
  | some i=>
    rw [q] at e
    exfalso
    have hlt:i < (⟨l.map bY⟩:Array DictEntry).size:=(Array.findIdx?_eq_some_iff_findIdx_eq.mp q).1
    dsimp only at e
    rw [Q5 hlt] at e
    cases e
theorem dF {P:Pm} {j d:Nat} (l:List (Int × Nat × Value)) (ep:Nat) (k:Int) (t:Nat) (v:Value) (hv:bC l k=none) (hl:l.length≤1000) (hj:P.adr j=d:=by rfl):
    aC P {code:=.call (.builtin "dict.__setitem__") ⟨[.ref d,.int k t,v],[]⟩,need:= [(j,ak l ep)],upd:= [(j,ak (l++ [(k,t,v)]) (ep+1))],res:=.ok (.ret .none),toks:=1}:=by
  refine az fun A s _ _ hn _ _ _=>?_
  have ho:s.heap.get? d=some (ak l ep):=by have:=hn _ (.head _);rw [hj] at this;exact this
  have hz:(⟨l.map bY⟩:Array DictEntry).size≤sizeLine:=by
    show (l.map bY).length≤sizeLine
    rw [B0];unfold sizeLine;exact lk hl rfl
  refine b0 F.slot_dict_setitem (ay ho rfl) F.entry_dict_setitem (F.args_dict_setitem_3 _ _ _) (S:=fun A R s=>s.heap.get? d=some (ak l ep)∧R (.ok (.ret .none)) {s with heap:=s.heap.update d (Obj.mapDictKeys (·.push ⟨hashInt k,.int k t,v⟩)),toks:=s.toks+1}) ?_ ⟨ho,?_⟩
  · refine .of_wp fun A R s ⟨ho,h⟩=>?_
    have hm:s.heap.MapOf (intKind P.prog P.w) d (bC l):=ey ho
    show wpAny _ _ (Builtin.Dict.notOrdered "__setitem__" ⟨[.ref d,.int k t,v],[]⟩>>=_) _ _ s
    refine C0 (wpAny_notOrdered_dict hm.typeIs ?_)
    show wpAny _ _ (dictSet d (.int k t) v>>=_) _ _ s
    refine C0 ?_
    unfold dictSet
    refine wpAny_holding ?_
    refine C0 ((intKind P.prog P.w).pyHash (k:=k) (by show (k==k)=true;simp) ?_)
    unfold dictSetHashed
    refine wpAny_holding ?_
    refine C0 (wpAny_dictFind_of (knd:=intKind P.prog P.w) (s:={s with toks:=s.toks+1}) (k:=k) (by show (k==k)=true;simp) ho rfl (fh l) ?_)
    rw [lr hv]
    exact C0 (wpAny_rule (wpAny_updateDictKeys (s:={s with toks:=s.toks+1}) (hz:=hz) ho rfl (I0 ⟨.none,rfl,h⟩)))
  · refine ⟨rfl,_,rfl,bH hj rfl rfl ho ?_ rfl⟩
    show (⟨_,_,.dict ((⟨l.map bY⟩:Array DictEntry).push ⟨hashInt k,.int k t,v⟩) (ep+1),_⟩:Obj)=_
    have:(⟨l.map bY⟩:Array DictEntry).push ⟨hashInt k,.int k t,v⟩=⟨(l++ [(k,t,v)]).map bY⟩:=by
      rw [A0]
      simp [bY]
    rw [this]
    rfl
theorem bz {P:Pm} {j l:Nat} (vs:List Value) (ep:Nat) (x:Value) (hl:vs.length≤1000) (hj:P.adr j=l:=by rfl):
    aC P {code:=.call (.builtin "list.append") ⟨[.ref l,x],[]⟩,need:= [(j,lst vs ep)],upd:= [(j,lst (vs++ [x]) (ep+1))],res:=.ok (.ret .none)}:=by
  refine az fun A s _ _ hn _ _ _=>?_
  have ho:s.heap.get? l=some (lst vs ep):=by have:=hn _ (.head _);rw [hj] at this;exact this
  refine b0 F.slot_list_append (ay ho rfl) F.entry_list_append (F.args_list_append_2 _ _) ((list_append l ⟨vs⟩ ep x (by show vs.length≤sizeLine;unfold sizeLine;exact lk hl rfl)).inModel _ _) ⟨ho,rfl,_,rfl,bH hj rfl rfl ho ?_ rfl⟩
  have:(⟨vs⟩:Array Value).push x=⟨vs++ [x]⟩:=by simp
  show (⟨_,_,.seq ((⟨vs⟩:Array Value).push x) (if (((⟨vs⟩:Array Value).push x).size==(⟨vs⟩:Array Value).size)=true then ep else ep+1),_⟩:Obj)=lst (vs++ [x]) (ep+1)
  rw [if_neg (by rw [Array.size_push];simp),this]
  rfl
noncomputable def b8 (T:String) (q:Value) (i:Nat):Obj:=⟨.type T,none,.fields ⟨[q,.int i 0]⟩,#[]⟩
noncomputable def dy (t:Nat):Obj:=⟨.type "StopIteration",none,.fields ⟨[.ref t,.none,.none,.none,.bool false,.none]⟩,#[]⟩
theorem km {P:Pm} {j l it a:Nat} (vs:List Value) (ep i:Nat) {x:Value} (hx:vs[i]?=some x) (hj:P.adr j=it:=by rfl) (hl:P.adr l=a:=by rfl):
    aC P {code:=.call (.builtin "list_iterator.__next__") ⟨[.ref it],[]⟩,need:= [(j,b8 "list_iterator" (.ref a) i),(l,lst vs ep)],upd:= [(j,b8 "list_iterator" (.ref a) (i+1))],res:=.ok (.ret x)}:=by
  refine az fun A s _ _ hn _ _ _=>?_
  have ho:s.heap.get? it=some (b8 "list_iterator" (.ref a) i):=by have:=hn _ (.head _);rw [hj] at this;exact this
  have hol:s.heap.get? a=some (lst vs ep):=by have:=hn _ (.tail _ (.head _));rw [hl] at this;exact this
  refine M1 slot_listiter_next.plain entry_listiter_next (slot_listiter_next.check _ _ _ _ _ _ _ _ (ay ho rfl) (args_listiter_next _) ?_)
  show wpAny _ _ (field (.ref it) 0>>=_) _ _ s
  refine C0 (wpAny_field ho rfl (x:=.ref a) rfl ?_)
  show wpAny _ _ (if (Value.ref a==Value.none)=true then _ else _) _ _ s
  rw [if_neg (show ¬((Value.ref a==Value.none)=true) from R1)]
  show wpAny _ _ (field (.ref it) 1>>=_) _ _ s
  refine C0 (wpAny_field ho rfl (x:=.int i 0) rfl ?_)
  show wpAny _ _ (seqItems? (.ref a)>>=_) _ _ s
  refine C0 (wpAny_seqItems hol rfl ?_)
  have hx':(⟨vs⟩:Array Value)[i]?=some x:=by rw [←hx];simp
  simp only [W0,hx']
  refine C0 (wpAny_setField ho rfl (by simp) (I0 ⟨rfl,_,rfl,bH hj rfl rfl ho ?_ rfl⟩))
  rfl
theorem jN {P:Pm} {j l it a:Nat} (vs:List Value) (i:Nat) {x:Value} (hx:vs[i]?=some x) (hj:P.adr j=it:=by rfl) (hl:P.adr l=a:=by rfl):
    aC P {code:=.call (.builtin "tuple_iterator.__next__") ⟨[.ref it],[]⟩,need:= [(j,b8 "tuple_iterator" (.ref a) i),(l,aS vs)],upd:= [(j,b8 "tuple_iterator" (.ref a) (i+1))],res:=.ok (.ret x)}:=by
  refine az fun A s _ _ hn _ _ _=>?_
  have ho:s.heap.get? it=some (b8 "tuple_iterator" (.ref a) i):=by have:=hn _ (.head _);rw [hj] at this;exact this
  have hol:s.heap.get? a=some (aS vs):=by have:=hn _ (.tail _ (.head _));rw [hl] at this;exact this
  refine M1 F.slot_tuple_iterator_next.plain F.entry_tuple_iterator_next (F.slot_tuple_iterator_next.check _ _ _ _ _ _ _ _ (ay ho rfl) (F.args_tuple_iterator_next_1 _) ?_)
  show wpAny _ _ (field (.ref it) 0>>=_) _ _ s
  refine C0 (wpAny_field ho rfl (x:=.ref a) rfl ?_)
  show wpAny _ _ (if (Value.ref a==Value.none)=true then _ else _) _ _ s
  rw [if_neg (show ¬((Value.ref a==Value.none)=true) from R1)]
  show wpAny _ _ (field (.ref it) 1>>=_) _ _ s
  refine C0 (wpAny_field ho rfl (x:=.int i 0) rfl ?_)
  show wpAny _ _ (seqItems? (.ref a)>>=_) _ _ s
  refine C0 (wpAny_seqItems hol rfl ?_)
  have hx':(⟨vs⟩:Array Value)[i]?=some x:=by rw [←hx];simp
  simp only [W0,hx']
  refine C0 (wpAny_setField ho rfl (by simp) (I0 ⟨rfl,_,rfl,bH hj rfl rfl ho ?_ rfl⟩))
  rfl
theorem dc {P:Pm} {E:bX} {h:Heap} {j a:Nat} {o:Obj} {f:Obj→Obj} {o' x y:Obj} (hj:P.adr j=a) (hu:E.upd= [(j,o')]) (hn:E.news= [x,y]) (ho:h.get? a=some o) (hf:f o=o') (hfree:o'.isFreed=false)
    (hx:x.isFreed=false) (hy:y.isFreed=false):bF P E h (((h.update a f).push x).push y):=by
  unfold bF
  rw [hu,hn]
  have hlt:=P4 ho
  refine ⟨by simp,fun b o e hne=>?_,fun q hq=>?_,fun i z hz=>?_⟩
  · have:=hne (j,o') (.head _)
    rw [hj] at this
    exact B1 _ (B1 _ ((Y2 h f this).trans e))
  · rcases Z0.mp hq with rfl | hq
    · rw [hj,←hf]
      exact B1 _ (B1 _ (M2 f ho (by rw [hf];exact hfree)))
    · cases hq
  · match i,hz with
    | 0,hz=>
      cases hz
      have:=B2 (h.update a f) hx
      rw [E2] at this
      exact B1 _ this
    | 1,hz=>
      cases hz
      have:=B2 ((h.update a f).push x) hy
      rw [M3,E2] at this
      exact this
    | n+2,hz=>simp at hz
theorem c4 {M:Model} {A:Around} {α:Type} {s:Shared} {z:Nat} {Q:α→Shared→Prop} {E:Value→Shared→Prop} (hh:A.handled=none) (hz:s.heap.objs.size=z)
    (h:E (.ref (z+1)) ⟨(s.heap.push (aS [])).push (dy z),s.gens,s.drawn,s.toks,s.os⟩):wpAny M A (newExc (.type "StopIteration") []>>=fun e=>(raiseNew e:Sem α)) Q E s:=by
  refine C0 ?_
  unfold newExc newTuple
  refine C0 (wpAny_newObj_type ?_ (by size_fits))
  refine C0 (m:=firstArgMember _ _) (wpAny_of_eq (a:=Value.none) rfl ?_)
  refine wpAny_newObj_type ?_ (by size_fits)
  unfold raiseNew
  refine C0 (wpAny_handled ?_)
  rw [hh]
  refine C0 (I0 (wpAny_throw ?_))
  rw [M3,hz]
  exact h
theorem lw {P:Pm} {j l it a:Nat} (vs:List Value) (ep i z:Nat) (hx:vs.length≤i) (hj:P.adr j=it:=by rfl) (hl:P.adr l=a:=by rfl):
    aC P {code:=.call (.builtin "list_iterator.__next__") ⟨[.ref it],[]⟩,need:= [(j,b8 "list_iterator" (.ref a) i),(l,lst vs ep)],upd:= [(j,b8 "list_iterator" .none i)],news:= [aS [],dy z],res:=.error (.ref (z+1)),sz:=some z}:=by
  refine az fun A s hh _ hn _ hz _=>?_
  have ho:s.heap.get? it=some (b8 "list_iterator" (.ref a) i):=by have:=hn _ (.head _);rw [hj] at this;exact this
  have hol:s.heap.get? a=some (lst vs ep):=by have:=hn _ (.tail _ (.head _));rw [hl] at this;exact this
  have hz:=hz z rfl
  refine M1 slot_listiter_next.plain entry_listiter_next (slot_listiter_next.check _ _ _ _ _ _ _ _ (ay ho rfl) (args_listiter_next _) ?_)
  show wpAny _ _ (field (.ref it) 0>>=_) _ _ s
  refine C0 (wpAny_field ho rfl (x:=.ref a) rfl ?_)
  show wpAny _ _ (if (Value.ref a==Value.none)=true then _ else _) _ _ s
  rw [if_neg (show ¬((Value.ref a==Value.none)=true) from R1)]
  show wpAny _ _ (field (.ref it) 1>>=_) _ _ s
  refine C0 (wpAny_field ho rfl (x:=.int i 0) rfl ?_)
  show wpAny _ _ (seqItems? (.ref a)>>=_) _ _ s
  refine C0 (wpAny_seqItems hol rfl ?_)
  have hx':(⟨vs⟩:Array Value)[i]?=none:=by
    rw [E4];exact hx
  simp only [W0,hx']
  refine C0 (wpAny_rule (C0 (wpAny_setField ho rfl (by simp) ?_)))
  exact c4 hh (by rw [E2];exact hz) ⟨rfl,_,rfl,dc hj rfl rfl ho rfl rfl rfl rfl⟩
theorem kn {P:Pm} {j l it a:Nat} (vs:List Value) (i z:Nat) (hx:vs.length≤i) (hj:P.adr j=it:=by rfl) (hl:P.adr l=a:=by rfl):
    aC P {code:=.call (.builtin "tuple_iterator.__next__") ⟨[.ref it],[]⟩,need:= [(j,b8 "tuple_iterator" (.ref a) i),(l,aS vs)],upd:= [(j,b8 "tuple_iterator" .none i)],news:= [aS [],dy z],res:=.error (.ref (z+1)),sz:=some z}:=by
  refine az fun A s hh _ hn _ hz _=>?_
  have ho:s.heap.get? it=some (b8 "tuple_iterator" (.ref a) i):=by have:=hn _ (.head _);rw [hj] at this;exact this
  have hol:s.heap.get? a=some (aS vs):=by have:=hn _ (.tail _ (.head _));rw [hl] at this;exact this
  have hz:=hz z rfl
  refine M1 F.slot_tuple_iterator_next.plain F.entry_tuple_iterator_next (F.slot_tuple_iterator_next.check _ _ _ _ _ _ _ _ (ay ho rfl) (F.args_tuple_iterator_next_1 _) ?_)
  show wpAny _ _ (field (.ref it) 0>>=_) _ _ s
  refine C0 (wpAny_field ho rfl (x:=.ref a) rfl ?_)
  show wpAny _ _ (if (Value.ref a==Value.none)=true then _ else _) _ _ s
  rw [if_neg (show ¬((Value.ref a==Value.none)=true) from R1)]
  show wpAny _ _ (field (.ref it) 1>>=_) _ _ s
  refine C0 (wpAny_field ho rfl (x:=.int i 0) rfl ?_)
  show wpAny _ _ (seqItems? (.ref a)>>=_) _ _ s
  refine C0 (wpAny_seqItems hol rfl ?_)
  have hx':(⟨vs⟩:Array Value)[i]?=none:=by
    rw [E4];exact hx
  simp only [W0,hx']
  refine C0 (wpAny_rule (C0 (wpAny_setField ho rfl (by simp) ?_)))
  exact c4 hh (by rw [E2];exact hz) ⟨rfl,_,rfl,dc hj rfl rfl ho rfl rfl rfl rfl⟩
noncomputable abbrev pw:Program:=PySem.Challenge.pw_mq0362_02
noncomputable def aY (i:Nat):Stmt:=pw.main.body.getD i (.Pass default)
noncomputable def oCls {α:Type} (s:Stmt) (f:List Stmt→α) (e:α):α:=if h:s.ctorIdx=2 then Stmt.ClassDef.elim (motive_2:=fun _=>α) s h fun _ _ _ b _ _ _ _ _ _ _=>f b else e
noncomputable def wZ {α:Type} (s:Stmt) (f:Arguments→List Stmt→Scope→α) (e:α):α:=if h:s.ctorIdx=0 then Stmt.FunctionDef.elim (motive_2:=fun _=>α) s h fun _ a b _ _ _ c _ _ _=>f a b c else e
noncomputable def bj (s:Stmt) (j:Nat):Stmt:=oCls s (fun b=>b.getD j (.Pass default)) s
noncomputable def ga (s:Stmt):Arguments:=wZ s (fun a _ _=>a) default
noncomputable def bW (s:Stmt):List Stmt:=wZ s (fun _ b _=>b) []
noncomputable def cE (s:Stmt):Scope:=wZ s (fun _ _ c=>c) default
noncomputable def o0 (P:Params):Obj:=⟨(.type "dict"),none,.dict ⟨[aE P (S [95,95,110,97,109,101,95,95]) 1 (.str (S [98,117,105,108,116,105,110,115]) 160),aE P yP 2 (.builtin "builtins.__doc__:str#opaque"),aE P (S [95,95,112,97,99,107,97,103,101,95,95]) 3 (.builtin "builtins.__package__:str#opaque"),aE P (S [95,95,108,111,97,100,101,114,95,95]) 4 (.builtin "builtins.__loader__:shared#opaque"),aE P (S [95,95,115,112,101,99,95,95]) 5 (.builtin "builtins.__spec__#opaque"),aE P (S [95,95,98,117,105,108,100,95,99,108,97,115,115,95,95]) 6 (.builtin "__build_class__"),aE P (S [95,95,105,109,112,111,114,116,95,95]) 7 (.builtin "__import__"),aE P (S [97,98,115]) 8 (.builtin "abs"),aE P (S [97,108,108]) 9 (.builtin "all"),aE P (S [97,110,121]) 10 (.builtin "any"),aE P (S [97,115,99,105,105]) 11 (.builtin "ascii"),aE P (S [98,105,110]) 12 (.builtin "bin"),aE P (S [98,114,101,97,107,112,111,105,110,116]) 13 (.builtin "breakpoint"),aE P (S [99,97,108,108,97,98,108,101]) 14 (.builtin "callable"),aE P (S [99,104,114]) 15 (.builtin "chr"),aE P (S [99,111,109,112,105,108,101]) 16 (.builtin "compile"),aE P (S [100,101,108,97,116,116,114]) 17 (.builtin "delattr"),aE P (S [100,105,114]) 18 (.builtin "dir"),aE P (S [100,105,118,109,111,100]) 19 (.builtin "divmod"),aE P (S [101,118,97,108]) 20 (.builtin "eval"),aE P (S [101,120,101,99]) 21 (.builtin "exec"),aE P (S [102,111,114,109,97,116]) 22 (.builtin "format"),aE P (S [103,101,116,97,116,116,114]) 23 (.builtin "getattr"),aE P (S [103,108,111,98,97,108,115]) 24 (.builtin "globals"),aE P (S [104,97,115,97,116,116,114]) 25 (.builtin "hasattr"),aE P (S [104,97,115,104]) 26 (.builtin "hash"),aE P (S [104,101,120]) 27 (.builtin "hex"),aE P (S [105,100]) 28 (.builtin "id"),aE P (S [105,110,112,117,116]) 29 (.builtin "input"),aE P (S [105,115,105,110,115,116,97,110,99,101]) 30 (.builtin "isinstance"),aE P (S [105,115,115,117,98,99,108,97,115,115]) 31 (.builtin "issubclass"),aE P (S [105,116,101,114]) 32 (.builtin "iter"),aE P (S [97,105,116,101,114]) 33 (.builtin "aiter"),aE P (S [108,101,110]) 34 (.builtin "len"),aE P (S [108,111,99,97,108,115]) 35 (.builtin "locals"),aE P (S [109,97,120]) 36 (.builtin "max"),aE P (S [109,105,110]) 37 (.builtin "min"),aE P (S [110,101,120,116]) 38 (.builtin "next"),aE P (S [97,110,101,120,116]) 39 (.builtin "anext"),aE P (S [111,99,116]) 40 (.builtin "oct"),aE P (S [111,114,100]) 41 (.builtin "ord"),aE P (S [112,111,119]) 42 (.builtin "pow"),aE P (S [112,114,105,110,116]) 43 (.builtin "print"),aE P (S [114,101,112,114]) 44 (.builtin "repr"),aE P (S [114,111,117,110,100]) 45 (.builtin "round"),aE P (S [115,101,116,97,116,116,114]) 46 (.builtin "setattr"),aE P (S [115,111,114,116,101,100]) 47 (.builtin "sorted"),aE P (S [115,117,109]) 48 (.builtin "sum"),aE P (S [118,97,114,115]) 49 (.builtin "vars"),aE P (S [78,111,110,101]) 50 .none,aE P (S [69,108,108,105,112,115,105,115]) 51 .ellipsis,aE P (S [78,111,116,73,109,112,108,101,109,101,110,116,101,100]) 52 .notImplemented,aE P (S [70,97,108,115,101]) 53 (.bool false),aE P (S [84,114,117,101]) 54 (.bool true),aE P (S [98,111,111,108]) 55 (.type "bool"),aE P (S [109,101,109,111,114,121,118,105,101,119]) 56 (.type "memoryview"),aE P (S [98,121,116,101,97,114,114,97,121]) 57 (.type "bytearray"),aE P (S [98,121,116,101,115]) 58 (.type "bytes"),aE P (S [99,108,97,115,115,109,101,116,104,111,100]) 59 (.type "classmethod"),aE P (S [99,111,109,112,108,101,120]) 60 (.type "complex"),aE P (S [100,105,99,116]) 61 (.type "dict"),aE P (S [101,110,117,109,101,114,97,116,101]) 62 (.type "enumerate"),aE P (S [102,105,108,116,101,114]) 63 (.type "filter"),aE P (S [102,108,111,97,116]) 64 (.type "float"),aE P (S [102,114,111,122,101,110,115,101,116]) 65 (.type "frozenset"),aE P (S [112,114,111,112,101,114,116,121]) 66 (.type "property"),aE P (S [105,110,116]) 67 (.type "int"),aE P (S [108,105,115,116]) 68 (.type "list"),aE P (S [109,97,112]) 69 (.type "map"),aE P (S [111,98,106,101,99,116]) 70 (.type "object"),aE P (S [114,97,110,103,101]) 71 (.type "range"),aE P (S [114,101,118,101,114,115,101,100]) 72 (.type "reversed"),aE P (S [115,101,116]) 73 (.type "set"),aE P (S [115,108,105,99,101]) 74 (.type "slice"),aE P (S [115,116,97,116,105,99,109,101,116,104,111,100]) 75 (.type "staticmethod"),aE P (S [115,116,114]) 76 (.type "str"),aE P (S [115,117,112,101,114]) 77 (.type "super"),aE P (S [116,117,112,108,101]) 78 (.type "tuple"),aE P (S [116,121,112,101]) 79 (.type "type"),aE P (S [122,105,112]) 80 (.type "zip"),aE P (S [95,95,100,101,98,117,103,95,95]) 81 (.bool true),aE P (S [66,97,115,101,69,120,99,101,112,116,105,111,110]) 82 (.type "BaseException"),aE P (S [66,97,115,101,69,120,99,101,112,116,105,111,110,71,114,111,117,112]) 83 (.type "BaseExceptionGroup"),aE P (S [69,120,99,101,112,116,105,111,110]) 84 (.type "Exception"),aE P (S [71,101,110,101,114,97,116,111,114,69,120,105,116]) 85 (.type "GeneratorExit"),aE P (S [75,101,121,98,111,97,114,100,73,110,116,101,114,114,117,112,116]) 86 (.type "KeyboardInterrupt"),aE P (S [83,121,115,116,101,109,69,120,105,116]) 87 (.type "SystemExit"),aE P (S [65,114,105,116,104,109,101,116,105,99,69,114,114,111,114]) 88 (.type "ArithmeticError"),aE P (S [65,115,115,101,114,116,105,111,110,69,114,114,111,114]) 89 (.type "AssertionError"),aE P (S [65,116,116,114,105,98,117,116,101,69,114,114,111,114]) 90 (.type "AttributeError"),aE P (S [66,117,102,102,101,114,69,114,114,111,114]) 91 (.type "BufferError"),aE P (S [69,79,70,69,114,114,111,114]) 92 (.type "EOFError"),aE P (S [73,109,112,111,114,116,69,114,114,111,114]) 93 (.type "ImportError"),aE P (S [76,111,111,107,117,112,69,114,114,111,114]) 94 (.type "LookupError"),aE P (S [77,101,109,111,114,121,69,114,114,111,114]) 95 (.type "MemoryError"),aE P (S [78,97,109,101,69,114,114,111,114]) 96 (.type "NameError"),aE P (S [79,83,69,114,114,111,114]) 97 (.type "OSError"),aE P (S [82,101,102,101,114,101,110,99,101,69,114,114,111,114]) 98 (.type "ReferenceError"),aE P (S [82,117,110,116,105,109,101,69,114,114,111,114]) 99 (.type "RuntimeError"),aE P (S [83,116,111,112,65,115,121,110,99,73,116,101,114,97,116,105,111,110]) 100 (.type "StopAsyncIteration"),aE P (S [83,116,111,112,73,116,101,114,97,116,105,111,110]) 101 (.type "StopIteration"),aE P (S [83,121,110,116,97,120,69,114,114,111,114]) 102 (.type "SyntaxError"),aE P (S [83,121,115,116,101,109,69,114,114,111,114]) 103 (.type "SystemError"),aE P (S [84,121,112,101,69,114,114,111,114]) 104 (.type "TypeError"),aE P (S [86,97,108,117,101,69,114,114,111,114]) 105 (.type "ValueError"),aE P (S [87,97,114,110,105,110,103]) 106 (.type "Warning"),aE P (S [70,108,111,97,116,105,110,103,80,111,105,110,116,69,114,114,111,114]) 107 (.type "FloatingPointError"),aE P (S [79,118,101,114,102,108,111,119,69,114,114,111,114]) 108 (.type "OverflowError"),aE P (S [90,101,114,111,68,105,118,105,115,105,111,110,69,114,114,111,114]) 109 (.type "ZeroDivisionError"),aE P (S [66,121,116,101,115,87,97,114,110,105,110,103]) 110 (.type "BytesWarning"),aE P (S [68,101,112,114,101,99,97,116,105,111,110,87,97,114,110,105,110,103]) 111 (.type "DeprecationWarning"),aE P (S [69,110,99,111,100,105,110,103,87,97,114,110,105,110,103]) 112 (.type "EncodingWarning"),aE P (S [70,117,116,117,114,101,87,97,114,110,105,110,103]) 113 (.type "FutureWarning"),aE P (S [73,109,112,111,114,116,87,97,114,110,105,110,103]) 114 (.type "ImportWarning"),aE P (S [80,101,110,100,105,110,103,68,101,112,114,101,99,97,116,105,111,110,87,97,114,110,105,110,103]) 115 (.type "PendingDeprecationWarning"),aE P (S [82,101,115,111,117,114,99,101,87,97,114,110,105,110,103]) 116 (.type "ResourceWarning"),aE P (S [82,117,110,116,105,109,101,87,97,114,110,105,110,103]) 117 (.type "RuntimeWarning"),aE P (S [83,121,110,116,97,120,87,97,114,110,105,110,103]) 118 (.type "SyntaxWarning"),aE P (S [85,110,105,99,111,100,101,87,97,114,110,105,110,103]) 119 (.type "UnicodeWarning"),aE P (S [85,115,101,114,87,97,114,110,105,110,103]) 120 (.type "UserWarning"),aE P (S [66,108,111,99,107,105,110,103,73,79,69,114,114,111,114]) 121 (.type "BlockingIOError"),aE P (S [67,104,105,108,100,80,114,111,99,101,115,115,69,114,114,111,114]) 122 (.type "ChildProcessError"),aE P (S [67,111,110,110,101,99,116,105,111,110,69,114,114,111,114]) 123 (.type "ConnectionError"),aE P (S [70,105,108,101,69,120,105,115,116,115,69,114,114,111,114]) 124 (.type "FileExistsError"),aE P (S [70,105,108,101,78,111,116,70,111,117,110,100,69,114,114,111,114]) 125 (.type "FileNotFoundError"),aE P (S [73,110,116,101,114,114,117,112,116,101,100,69,114,114,111,114]) 126 (.type "InterruptedError"),aE P (S [73,115,65,68,105,114,101,99,116,111,114,121,69,114,114,111,114]) 127 (.type "IsADirectoryError"),aE P (S [78,111,116,65,68,105,114,101,99,116,111,114,121,69,114,114,111,114]) 128 (.type "NotADirectoryError"),aE P (S [80,101,114,109,105,115,115,105,111,110,69,114,114,111,114]) 129 (.type "PermissionError"),aE P (S [80,114,111,99,101,115,115,76,111,111,107,117,112,69,114,114,111,114]) 130 (.type "ProcessLookupError"),aE P (S [84,105,109,101,111,117,116,69,114,114,111,114]) 131 (.type "TimeoutError"),aE P (S [73,110,100,101,110,116,97,116,105,111,110,69,114,114,111,114]) 132 (.type "IndentationError"),aE P (S [95,73,110,99,111,109,112,108,101,116,101,73,110,112,117,116,69,114,114,111,114]) 133 (.type "_IncompleteInputError"),aE P (S [73,110,100,101,120,69,114,114,111,114]) 134 (.type "IndexError"),aE P (S [75,101,121,69,114,114,111,114]) 135 (.type "KeyError"),aE P (S [77,111,100,117,108,101,78,111,116,70,111,117,110,100,69,114,114,111,114]) 136 (.type "ModuleNotFoundError"),aE P (S [78,111,116,73,109,112,108,101,109,101,110,116,101,100,69,114,114,111,114]) 137 (.type "NotImplementedError"),aE P (S [80,121,116,104,111,110,70,105,110,97,108,105,122,97,116,105,111,110,69,114,114,111,114]) 138 (.type "PythonFinalizationError"),aE P (S [82,101,99,117,114,115,105,111,110,69,114,114,111,114]) 139 (.type "RecursionError"),aE P (S [85,110,98,111,117,110,100,76,111,99,97,108,69,114,114,111,114]) 140 (.type "UnboundLocalError"),aE P (S [85,110,105,99,111,100,101,69,114,114,111,114]) 141 (.type "UnicodeError"),aE P (S [66,114,111,107,101,110,80,105,112,101,69,114,114,111,114]) 142 (.type "BrokenPipeError"),aE P (S [67,111,110,110,101,99,116,105,111,110,65,98,111,114,116,101,100,69,114,114,111,114]) 143 (.type "ConnectionAbortedError"),aE P (S [67,111,110,110,101,99,116,105,111,110,82,101,102,117,115,101,100,69,114,114,111,114]) 144 (.type "ConnectionRefusedError"),aE P (S [67,111,110,110,101,99,116,105,111,110,82,101,115,101,116,69,114,114,111,114]) 145 (.type "ConnectionResetError"),aE P (S [84,97,98,69,114,114,111,114]) 146 (.type "TabError"),aE P (S [85,110,105,99,111,100,101,68,101,99,111,100,101,69,114,114,111,114]) 147 (.type "UnicodeDecodeError"),aE P (S [85,110,105,99,111,100,101,69,110,99,111,100,101,69,114,114,111,114]) 148 (.type "UnicodeEncodeError"),aE P (S [85,110,105,99,111,100,101,84,114,97,110,115,108,97,116,101,69,114,114,111,114]) 149 (.type "UnicodeTranslateError"),aE P (S [69,120,99,101,112,116,105,111,110,71,114,111,117,112]) 150 (.type "ExceptionGroup"),aE P (S [69,110,118,105,114,111,110,109,101,110,116,69,114,114,111,114]) 151 (.type "OSError"),aE P (S [73,79,69,114,114,111,114]) 152 (.type "OSError"),aE P (S [111,112,101,110]) 153 (.builtin "open"),aE P (S [113,117,105,116]) 154 (.builtin "builtins.quit#opaque"),aE P (S [101,120,105,116]) 155 (.builtin "builtins.exit#opaque"),aE P (S [99,111,112,121,114,105,103,104,116]) 156 (.builtin "builtins.copyright#opaque"),aE P (S [99,114,101,100,105,116,115]) 157 (.builtin "builtins.credits#opaque"),aE P (S [108,105,99,101,110,115,101]) 158 (.builtin "builtins.license#opaque"),aE P (S [104,101,108,112]) 159 (.builtin "builtins.help#opaque")]⟩ 159,⟨[]⟩⟩
noncomputable def o2 (P:Params):Obj:=⟨.none,none,.dict ⟨[]⟩ 0,⟨[]⟩⟩
noncomputable def o3 (P:Params):Obj:=⟨(.type "dict"),none,.dict ⟨[aE P (S [95,95,110,97,109,101,95,95]) 165 (.str sI 445),aE P yP 166 .none,aE P (S [95,95,112,97,99,107,97,103,101,95,95]) 167 .none,aE P (S [95,95,108,111,97,100,101,114,95,95]) 168 (.builtin "__main__.__loader__#opaque"),aE P (S [95,95,115,112,101,99,95,95]) 169 .none,aE P (S [95,95,97,110,110,111,116,97,116,105,111,110,115,95,95]) 170 (.ref 6),aE P (S [95,95,98,117,105,108,116,105,110,115,95,95]) 171 (.ref 4),aE P (S [95,95,102,105,108,101,95,95]) 173 (.str s6 172),aE P (S [95,95,99,97,99,104,101,100,95,95]) 174 .none,aE P (S [95,119,97,108,108]) 193 (.ref 21),aE P sN 262 (.ref 67),aE P (S [95,78,79,68,69,95,79,85,84]) 267 (.int (Int.negSucc 0) 266),aE P (S [95,78,79,68,69,95,68,79,78,69]) 270 (.int (Int.negSucc 1) 269),aE P yQ 307 (.ref 90),aE P (S [67,121,99,108,101,69,114,114,111,114]) 325 (.ref 105),aE P sD 444 (.ref 187),aE P sO 452 (.ref 196),aE P sE 461 (.ref 203),aE P sY 467 (.ref 208),aE P yz 473 (.ref 213),aE P yy 479 (.ref 218)]⟩ 21,⟨[]⟩⟩
noncomputable def o4 (P:Params):Obj:=⟨(.type "module"),(some 0),.plain,⟨[]⟩⟩
noncomputable def o34 (P:Params):Obj:=⟨(.type "code"),none,.fields ⟨[(.str sR 208),(.str s12 209),(.str s6 210),(.int (Int.ofNat 7) 0),(.int (Int.ofNat 1) 0),(.int (Int.ofNat 0) 0),(.int (Int.ofNat 0) 0),(.int (Int.ofNat 3) 0),(.ref 29),(.bool true),(.int (Int.ofNat 181) 0),(.ref 30),.none,(.ref 31),(.ref 32),(.ref 33),(.int (Int.ofNat 212) 0),(.int (Int.ofNat 7) 0),(.str s6 213)]⟩,⟨[]⟩⟩
noncomputable def o35 (P:Params):Obj:=⟨(.type "function"),none,.func {name:=sR,qualname:=s12,params:=ga (bj (aY 2) 0),body:=.stmts (bW (bj (aY 2) 0)),scope:=cE (bj (aY 2) 0),globals:=3,closure:= [],defaults:=Value.none,kwdefaults:=Value.none,doc:=Value.none,pyModule:=(.str sU 194),annotations:=none,code:=(.ref 34),closureTuple:=Value.none,builtins:=0},⟨[]⟩⟩
noncomputable def o63 (P:Params):Obj:=⟨(.type "code"),none,.fields ⟨[(.str s1i 244),(.str sL 245),(.str s6 246),(.int (Int.ofNat 19) 0),(.int (Int.ofNat 3) 0),(.int (Int.ofNat 0) 0),(.int (Int.ofNat 0) 0),(.int (Int.ofNat 3) 0),(.ref 58),(.bool true),(.int (Int.ofNat 181) 0),(.ref 59),.none,(.ref 60),(.ref 61),(.ref 62),(.int (Int.ofNat 251) 0),(.int (Int.ofNat 19) 0),(.str s6 252)]⟩,⟨[]⟩⟩
noncomputable def o64 (P:Params):Obj:=⟨(.type "function"),none,.func {name:=s1i,qualname:=sL,params:=ga (bj (aY 2) 4),body:=.stmts (bW (bj (aY 2) 4)),scope:=cE (bj (aY 2) 4),globals:=3,closure:= [],defaults:=Value.none,kwdefaults:=Value.none,doc:=Value.none,pyModule:=(.str sU 194),annotations:=none,code:=(.ref 63),closureTuple:=Value.none,builtins:=0},⟨[]⟩⟩
noncomputable def o66 (P:Params):Obj:=⟨(.type "dict"),none,.dict ⟨[aE P s1f 203 (.str sU 194),aE P s13 207 (.int (Int.ofNat 5) 206),aE P sR 214 (.ref 35),aE P (S [97,100,100,95,112,97,115,115,119,111,114,100]) 225 (.ref 42),aE P (S [102,105,110,100,95,117,115,101,114,95,112,97,115,115,119,111,114,100]) 234 (.ref 49),aE P (S [114,101,100,117,99,101,95,117,114,105]) 243 (.ref 57),aE P s1i 253 (.ref 64),aE P sV 255 (.ref 65),aE P (S [95,95,100,105,99,116,95,95]) 257 (.ref 68),aE P (S [95,95,119,101,97,107,114,101,102,95,95]) 259 (.ref 69),aE P yP 260 .none]⟩ 4,⟨[]⟩⟩
noncomputable def o67 (P:Params):Obj:=⟨(.type "type"),none,.cls {name:=sN,bases:= [(.type "object")],mro:= [(.ref 67),(.type "object")],ns:=66,qualname:=sN,hasDict:=true,slotNames:= [],subclasses:= [],abstract:=false,collection:=none,hasDel:=false},⟨[none,none,(some (.str sN 196)),(some (.str sN 204)),(some (.builtin "object.__new__")),(some (.bool true))]⟩⟩
noncomputable def o85 (P:Params):Obj:=⟨(.type "code"),none,.fields ⟨[(.str sR 287),(.str s1a 288),(.str s6 289),(.int (Int.ofNat 34) 0),(.int (Int.ofNat 2) 0),(.int (Int.ofNat 0) 0),(.int (Int.ofNat 0) 0),(.int (Int.ofNat 3) 0),(.ref 80),(.bool true),(.int (Int.ofNat 181) 0),(.ref 81),.none,(.ref 82),(.ref 83),(.ref 84),(.int (Int.ofNat 292) 0),(.int (Int.ofNat 34) 0),(.str s6 293)]⟩,⟨[]⟩⟩
noncomputable def o86 (P:Params):Obj:=⟨(.type "function"),none,.func {name:=sR,qualname:=s1a,params:=ga (bj (aY 6) 1),body:=.stmts (bW (bj (aY 6) 1)),scope:=cE (bj (aY 6) 1),globals:=3,closure:= [],defaults:=Value.none,kwdefaults:=Value.none,doc:=Value.none,pyModule:=(.str si 263),annotations:=none,code:=(.ref 85),closureTuple:=Value.none,builtins:=0},⟨[]⟩⟩
noncomputable def o89 (P:Params):Obj:=⟨(.type "dict"),none,.dict ⟨[aE P s1f 278 (.str si 263),aE P s13 282 (.int (Int.ofNat 31) 281),aE P (S [95,95,115,108,111,116,115,95,95]) 286 (.ref 79),aE P sR 294 (.ref 86),aE P sV 298 (.ref 87),aE P sa 300 (.ref 91),aE P s16 302 (.ref 92),aE P s1d 304 (.ref 93),aE P yP 305 .none]⟩ 5,⟨[]⟩⟩
noncomputable def o90 (P:Params):Obj:=⟨(.type "type"),none,.cls {name:=yQ,bases:= [(.type "object")],mro:= [(.ref 90),(.type "object")],ns:=89,qualname:=yQ,hasDict:=false,slotNames:= [sa,s16,s1d],subclasses:= [],abstract:=false,collection:=none,hasDel:=false},⟨[none,none,(some (.str yQ 271)),(some (.str yQ 279)),(some (.builtin "object.__new__")),(some (.bool false))]⟩⟩
noncomputable def o91 (P:Params):Obj:=⟨(.type "member_descriptor"),none,.fields ⟨[(.str sa 299),(.ref 90),(.builtin "proto.slot"),(.builtin "proto.slot#set"),(.int (Int.ofNat 2) 0)]⟩,⟨[]⟩⟩
noncomputable def o92 (P:Params):Obj:=⟨(.type "member_descriptor"),none,.fields ⟨[(.str s16 301),(.ref 90),(.builtin "proto.slot"),(.builtin "proto.slot#set"),(.int (Int.ofNat 1) 0)]⟩,⟨[]⟩⟩
noncomputable def o93 (P:Params):Obj:=⟨(.type "member_descriptor"),none,.fields ⟨[(.str s1d 303),(.ref 90),(.builtin "proto.slot"),(.builtin "proto.slot#set"),(.int (Int.ofNat 0) 0)]⟩,⟨[]⟩⟩
noncomputable def o116 (P:Params):Obj:=⟨(.type "tuple"),none,.seq ⟨[.none]⟩ 0,⟨[]⟩⟩
noncomputable def o122 (P:Params):Obj:=⟨(.type "code"),none,.fields ⟨[(.str sR 338),(.str sZ 339),(.str s6 340),(.int (Int.ofNat 42) 0),(.int (Int.ofNat 2) 0),(.int (Int.ofNat 0) 0),(.int (Int.ofNat 0) 0),(.int (Int.ofNat 3) 0),(.ref 117),(.bool true),(.int (Int.ofNat 181) 0),(.ref 118),.none,(.ref 119),(.ref 120),(.ref 121),(.int (Int.ofNat 345) 0),(.int (Int.ofNat 42) 0),(.str s6 346)]⟩,⟨[]⟩⟩
noncomputable def o123 (P:Params):Obj:=⟨(.type "function"),none,.func {name:=sR,qualname:=sZ,params:=ga (bj (aY 8) 0),body:=.stmts (bW (bj (aY 8) 0)),scope:=cE (bj (aY 8) 0),globals:=3,closure:= [],defaults:=(.ref 116),kwdefaults:=Value.none,doc:=Value.none,pyModule:=(.str si 263),annotations:=none,code:=(.ref 122),closureTuple:=Value.none,builtins:=0},⟨[]⟩⟩
noncomputable def o129 (P:Params):Obj:=⟨(.type "code"),none,.fields ⟨[(.str s19 348),(.str sS 349),(.str s6 350),(.int (Int.ofNat 51) 0),(.int (Int.ofNat 2) 0),(.int (Int.ofNat 0) 0),(.int (Int.ofNat 0) 0),(.int (Int.ofNat 3) 0),(.ref 124),(.bool true),(.int (Int.ofNat 181) 0),(.ref 125),.none,(.ref 126),(.ref 127),(.ref 128),(.int (Int.ofNat 354) 0),(.int (Int.ofNat 51) 0),(.str s6 355)]⟩,⟨[]⟩⟩
noncomputable def o130 (P:Params):Obj:=⟨(.type "function"),none,.func {name:=s19,qualname:=sS,params:=ga (bj (aY 8) 1),body:=.stmts (bW (bj (aY 8) 1)),scope:=cE (bj (aY 8) 1),globals:=3,closure:= [],defaults:=Value.none,kwdefaults:=Value.none,doc:=Value.none,pyModule:=(.str si 263),annotations:=none,code:=(.ref 129),closureTuple:=Value.none,builtins:=0},⟨[]⟩⟩
noncomputable def o136 (P:Params):Obj:=⟨(.type "code"),none,.fields ⟨[(.str (S [97,100,100]) 357),(.str sT 358),(.str s6 359),(.int (Int.ofNat 56) 0),(.int (Int.ofNat 2) 0),(.int (Int.ofNat 0) 0),(.int (Int.ofNat 0) 0),(.int (Int.ofNat 7) 0),(.ref 131),(.bool true),(.int (Int.ofNat 181) 0),(.ref 132),.none,(.ref 133),(.ref 134),(.ref 135),(.int (Int.ofNat 366) 0),(.int (Int.ofNat 56) 0),(.str s6 367)]⟩,⟨[]⟩⟩
noncomputable def o137 (P:Params):Obj:=⟨(.type "function"),none,.func {name:=(S [97,100,100]),qualname:=sT,params:=ga (bj (aY 8) 2),body:=.stmts (bW (bj (aY 8) 2)),scope:=cE (bj (aY 8) 2),globals:=3,closure:= [],defaults:=Value.none,kwdefaults:=Value.none,doc:=Value.none,pyModule:=(.str si 263),annotations:=none,code:=(.ref 136),closureTuple:=Value.none,builtins:=0},⟨[]⟩⟩
noncomputable def o141 (P:Params):Obj:=⟨(.type "code"),none,.fields ⟨[(.str s1o 369),(.str sK 370),(.str s6 371),(.int (Int.ofNat 65) 0),(.int (Int.ofNat 1) 0),(.int (Int.ofNat 0) 0),(.int (Int.ofNat 0) 0),(.int (Int.ofNat 3) 0),(.ref 138),(.bool true),(.int (Int.ofNat 181) 0),(.ref 139),.none,.none,.none,(.ref 140),(.int (Int.ofNat 372) 0),(.int (Int.ofNat 65) 0),(.str s6 373)]⟩,⟨[]⟩⟩
noncomputable def o142 (P:Params):Obj:=⟨(.type "function"),none,.func {name:=s1o,qualname:=sK,params:=ga (bj (aY 8) 3),body:=.stmts (bW (bj (aY 8) 3)),scope:=cE (bj (aY 8) 3),globals:=3,closure:= [],defaults:=Value.none,kwdefaults:=Value.none,doc:=Value.none,pyModule:=(.str si 263),annotations:=none,code:=(.ref 141),closureTuple:=Value.none,builtins:=0},⟨[]⟩⟩
noncomputable def o148 (P:Params):Obj:=⟨(.type "code"),none,.fields ⟨[(.str s1j 375),(.str sF 376),(.str s6 377),(.int (Int.ofNat 73) 0),(.int (Int.ofNat 1) 0),(.int (Int.ofNat 0) 0),(.int (Int.ofNat 0) 0),(.int (Int.ofNat 3) 0),(.ref 143),(.bool true),(.int (Int.ofNat 181) 0),(.ref 144),.none,(.ref 145),(.ref 146),(.ref 147),(.int (Int.ofNat 382) 0),(.int (Int.ofNat 73) 0),(.str s6 383)]⟩,⟨[]⟩⟩
noncomputable def o149 (P:Params):Obj:=⟨(.type "function"),none,.func {name:=s1j,qualname:=sF,params:=ga (bj (aY 8) 4),body:=.stmts (bW (bj (aY 8) 4)),scope:=cE (bj (aY 8) 4),globals:=3,closure:= [],defaults:=Value.none,kwdefaults:=Value.none,doc:=Value.none,pyModule:=(.str si 263),annotations:=none,code:=(.ref 148),closureTuple:=Value.none,builtins:=0},⟨[]⟩⟩
noncomputable def o155 (P:Params):Obj:=⟨(.type "code"),none,.fields ⟨[(.str s1l 385),(.str sH 386),(.str s6 387),(.int (Int.ofNat 84) 0),(.int (Int.ofNat 1) 0),(.int (Int.ofNat 0) 0),(.int (Int.ofNat 0) 0),(.int (Int.ofNat 3) 0),(.ref 150),(.bool true),(.int (Int.ofNat 181) 0),(.ref 151),.none,(.ref 152),(.ref 153),(.ref 154),(.int (Int.ofNat 389) 0),(.int (Int.ofNat 84) 0),(.str s6 390)]⟩,⟨[]⟩⟩
noncomputable def o156 (P:Params):Obj:=⟨(.type "function"),none,.func {name:=s1l,qualname:=sH,params:=ga (bj (aY 8) 5),body:=.stmts (bW (bj (aY 8) 5)),scope:=cE (bj (aY 8) 5),globals:=3,closure:= [],defaults:=Value.none,kwdefaults:=Value.none,doc:=Value.none,pyModule:=(.str si 263),annotations:=none,code:=(.ref 155),closureTuple:=Value.none,builtins:=0},⟨[]⟩⟩
noncomputable def o169 (P:Params):Obj:=⟨(.type "code"),none,.fields ⟨[(.str (S [100,111,110,101]) 399),(.str sQ 400),(.str s6 401),(.int (Int.ofNat 92) 0),(.int (Int.ofNat 1) 0),(.int (Int.ofNat 0) 0),(.int (Int.ofNat 0) 0),(.int (Int.ofNat 7) 0),(.ref 164),(.bool true),(.int (Int.ofNat 181) 0),(.ref 165),.none,(.ref 166),(.ref 167),(.ref 168),(.int (Int.ofNat 410) 0),(.int (Int.ofNat 92) 0),(.str s6 411)]⟩,⟨[]⟩⟩
noncomputable def o170 (P:Params):Obj:=⟨(.type "function"),none,.func {name:=(S [100,111,110,101]),qualname:=sQ,params:=ga (bj (aY 8) 7),body:=.stmts (bW (bj (aY 8) 7)),scope:=cE (bj (aY 8) 7),globals:=3,closure:= [],defaults:=Value.none,kwdefaults:=Value.none,doc:=Value.none,pyModule:=(.str si 263),annotations:=none,code:=(.ref 169),closureTuple:=Value.none,builtins:=0},⟨[]⟩⟩
noncomputable def o176 (P:Params):Obj:=⟨(.type "code"),none,.fields ⟨[(.str s1c 413),(.str sC 414),(.str s6 415),(.int (Int.ofNat 115) 0),(.int (Int.ofNat 1) 0),(.int (Int.ofNat 0) 0),(.int (Int.ofNat 0) 0),(.int (Int.ofNat 3) 0),(.ref 171),(.bool true),(.int (Int.ofNat 181) 0),(.ref 172),.none,(.ref 173),(.ref 174),(.ref 175),(.int (Int.ofNat 423) 0),(.int (Int.ofNat 115) 0),(.str s6 424)]⟩,⟨[]⟩⟩
noncomputable def o177 (P:Params):Obj:=⟨(.type "function"),none,.func {name:=s1c,qualname:=sC,params:=ga (bj (aY 8) 8),body:=.stmts (bW (bj (aY 8) 8)),scope:=cE (bj (aY 8) 8),globals:=3,closure:= [],defaults:=Value.none,kwdefaults:=Value.none,doc:=Value.none,pyModule:=(.str si 263),annotations:=none,code:=(.ref 176),closureTuple:=Value.none,builtins:=0},⟨[]⟩⟩
noncomputable def o186 (P:Params):Obj:=⟨(.type "dict"),none,.dict ⟨[aE P s1f 333 (.str si 263),aE P s13 337 (.int (Int.ofNat 40) 336),aE P sR 347 (.ref 123),aE P s19 356 (.ref 130),aE P (S [97,100,100]) 368 (.ref 137),aE P s1o 374 (.ref 142),aE P s1j 384 (.ref 149),aE P s1l 391 (.ref 156),aE P (S [95,95,98,111,111,108,95,95]) 398 (.ref 163),aE P (S [100,111,110,101]) 412 (.ref 170),aE P s1c 425 (.ref 177),aE P (S [115,116,97,116,105,99,95,111,114,100,101,114]) 432 (.ref 184),aE P sV 437 (.ref 185),aE P (S [95,95,100,105,99,116,95,95]) 439 (.ref 188),aE P (S [95,95,119,101,97,107,114,101,102,95,95]) 441 (.ref 189),aE P yP 442 .none]⟩ 4,⟨[]⟩⟩
noncomputable def o187 (P:Params):Obj:=⟨(.type "type"),none,.cls {name:=sD,bases:= [(.type "object")],mro:= [(.ref 187),(.type "object")],ns:=186,qualname:=sD,hasDict:=true,slotNames:= [],subclasses:= [],abstract:=false,collection:=none,hasDel:=false},⟨[none,none,(some (.str sD 326)),(some (.str sD 334)),(some (.builtin "object.__new__")),(some (.bool true))]⟩⟩
noncomputable def o195 (P:Params):Obj:=⟨(.type "code"),none,.fields ⟨[(.str sO 447),(.str sO 448),(.str s6 449),(.int (Int.ofNat 147) 0),(.int (Int.ofNat 1) 0),(.int (Int.ofNat 0) 0),(.int (Int.ofNat 0) 0),(.int (Int.ofNat 3) 0),(.ref 192),(.bool true),(.int (Int.ofNat 181) 0),(.ref 193),.none,.none,.none,(.ref 194),(.int (Int.ofNat 450) 0),(.int (Int.ofNat 147) 0),(.str s6 451)]⟩,⟨[]⟩⟩
noncomputable def o196 (P:Params):Obj:=⟨(.type "function"),none,.func {name:=sO,qualname:=sO,params:=ga (aY 10),body:=.stmts (bW (aY 10)),scope:=cE (aY 10),globals:=3,closure:= [],defaults:=Value.none,kwdefaults:=Value.none,doc:=Value.none,pyModule:=(.str sI 445),annotations:=none,code:=(.ref 195),closureTuple:=Value.none,builtins:=0},⟨[]⟩⟩
noncomputable def o202 (P:Params):Obj:=⟨(.type "code"),none,.fields ⟨[(.str sE 453),(.str sE 454),(.str s6 455),(.int (Int.ofNat 150) 0),(.int (Int.ofNat 1) 0),(.int (Int.ofNat 0) 0),(.int (Int.ofNat 0) 0),(.int (Int.ofNat 3) 0),(.ref 197),(.bool true),(.int (Int.ofNat 181) 0),(.ref 198),.none,(.ref 199),(.ref 200),(.ref 201),(.int (Int.ofNat 459) 0),(.int (Int.ofNat 150) 0),(.str s6 460)]⟩,⟨[]⟩⟩
noncomputable def o203 (P:Params):Obj:=⟨(.type "function"),none,.func {name:=sE,qualname:=sE,params:=ga (aY 11),body:=.stmts (bW (aY 11)),scope:=cE (aY 11),globals:=3,closure:= [],defaults:=Value.none,kwdefaults:=Value.none,doc:=Value.none,pyModule:=(.str sI 445),annotations:=none,code:=(.ref 202),closureTuple:=Value.none,builtins:=0},⟨[]⟩⟩
noncomputable def yX (P:Params):Obj:=⟨(.type "code"),none,.fields ⟨[(.str sY 462),(.str sY 463),(.str s6 464),(.int (Int.ofNat 156) 0),(.int (Int.ofNat 2) 0),(.int (Int.ofNat 0) 0),(.int (Int.ofNat 0) 0),(.int (Int.ofNat 3) 0),(.ref 204),(.bool true),(.int (Int.ofNat 181) 0),(.ref 205),.none,.none,.none,(.ref 206),(.int (Int.ofNat 465) 0),(.int (Int.ofNat 156) 0),(.str s6 466)]⟩,⟨[]⟩⟩
noncomputable def o208 (P:Params):Obj:=⟨(.type "function"),none,.func {name:=sY,qualname:=sY,params:=ga (aY 12),body:=.stmts (bW (aY 12)),scope:=cE (aY 12),globals:=3,closure:= [],defaults:=Value.none,kwdefaults:=Value.none,doc:=Value.none,pyModule:=(.str sI 445),annotations:=none,code:=(.ref 207),closureTuple:=Value.none,builtins:=0},⟨[]⟩⟩
noncomputable def o212 (P:Params):Obj:=⟨(.type "code"),none,.fields ⟨[(.str yz 468),(.str yz 469),(.str s6 470),(.int (Int.ofNat 162) 0),(.int (Int.ofNat 2) 0),(.int (Int.ofNat 0) 0),(.int (Int.ofNat 0) 0),(.int (Int.ofNat 3) 0),(.ref 209),(.bool true),(.int (Int.ofNat 181) 0),(.ref 210),.none,.none,.none,(.ref 211),(.int (Int.ofNat 471) 0),(.int (Int.ofNat 162) 0),(.str s6 472)]⟩,⟨[]⟩⟩
noncomputable def o213 (P:Params):Obj:=⟨(.type "function"),none,.func {name:=yz,qualname:=yz,params:=ga (aY 13),body:=.stmts (bW (aY 13)),scope:=cE (aY 13),globals:=3,closure:= [],defaults:=Value.none,kwdefaults:=Value.none,doc:=Value.none,pyModule:=(.str sI 445),annotations:=none,code:=(.ref 212),closureTuple:=Value.none,builtins:=0},⟨[]⟩⟩
noncomputable def yW (P:Params):Obj:=⟨(.type "code"),none,.fields ⟨[(.str yy 474),(.str yy 475),(.str s6 476),(.int (Int.ofNat 183) 0),(.int (Int.ofNat 1) 0),(.int (Int.ofNat 0) 0),(.int (Int.ofNat 0) 0),(.int (Int.ofNat 3) 0),(.ref 214),(.bool true),(.int (Int.ofNat 181) 0),(.ref 215),.none,.none,.none,(.ref 216),(.int (Int.ofNat 477) 0),(.int (Int.ofNat 183) 0),(.str s6 478)]⟩,⟨[]⟩⟩
noncomputable def o218 (P:Params):Obj:=⟨(.type "function"),none,.func {name:=yy,qualname:=yy,params:=ga (aY 14),body:=.stmts (bW (aY 14)),scope:=cE (aY 14),globals:=3,closure:= [],defaults:=Value.none,kwdefaults:=Value.none,doc:=Value.none,pyModule:=(.str sI 445),annotations:=none,code:=(.ref 217),closureTuple:=Value.none,builtins:=0},⟨[]⟩⟩
noncomputable def g9 (P:Params):PySem.W.X.KT:=(.node (some (o0 P)) (.node none (.node (some (o3 P)) (.node none (.node none (.node none (.node (some (o63 P)) .nil .nil) .nil) (.node none (.node none .nil (.node (some (yX P)) .nil .nil)) .nil)) .nil) (.node none (.node none (.node (some (o35 P)) (.node (some (o67 P)) .nil (.node (some (o195 P)) .nil .nil)) .nil) .nil) (.node none (.node none (.node none .nil (.node (some (o203 P)) .nil .nil)) .nil) (.node none (.node (some (o91 P)) (.node (some (o155 P)) .nil .nil) .nil) (.node (some (o123 P)) (.node (some (o187 P)) .nil .nil) .nil))))) (.node none (.node none (.node none (.node none (.node none (.node (some (o129 P)) .nil .nil) .nil) .nil) (.node none .nil (.node none (.node (some (o177 P)) .nil .nil) .nil))) (.node none (.node none (.node none (.node (some (o137 P)) .nil .nil) .nil) (.node none (.node (some (o169 P)) .nil .nil) .nil)) (.node none (.node (some (o89 P)) .nil (.node (some (yW P)) .nil .nil)) .nil))) (.node none (.node none .nil (.node none (.node (some (o85 P)) (.node (some (o149 P)) .nil .nil) (.node (some (o213 P)) .nil .nil)) .nil)) (.node none (.node none (.node none (.node (some (o141 P)) .nil .nil) .nil) .nil) (.node none (.node (some (o93 P)) .nil .nil) .nil))))) (.node (some (o2 P)) (.node (some (o4 P)) (.node none (.node none (.node none (.node (some (o64 P)) .nil .nil) .nil) (.node none (.node none .nil (.node (some (o208 P)) .nil .nil)) (.node none (.node (some (o176 P)) .nil .nil) .nil))) (.node none (.node none (.node none (.node (some (o136 P)) .nil .nil) .nil) .nil) .nil)) (.node none (.node none (.node none (.node none .nil (.node (some (o196 P)) .nil .nil)) .nil) (.node none (.node none (.node (some (o148 P)) .nil .nil) (.node (some (o212 P)) .nil .nil)) (.node (some (o116 P)) .nil .nil))) (.node none .nil (.node none (.node (some (o92 P)) (.node (some (o156 P)) .nil .nil) .nil) .nil)))) (.node none (.node none (.node none (.node (some (o34 P)) (.node (some (o66 P)) (.node (some (o130 P)) .nil .nil) .nil) .nil) .nil) (.node none (.node none (.node none .nil (.node (some (o202 P)) .nil .nil)) (.node none (.node (some (o170 P)) .nil .nil) .nil)) (.node none (.node (some (o90 P)) .nil (.node (some (o218 P)) .nil .nil)) (.node (some (o122 P)) (.node (some (o186 P)) .nil .nil) .nil)))) (.node none (.node none .nil (.node none (.node (some (o86 P)) .nil .nil) .nil)) (.node none (.node none (.node none (.node (some (o142 P)) .nil .nil) .nil) .nil) .nil)))))
noncomputable abbrev bM:Nat:=187
noncomputable abbrev aNI:Nat:=90
noncomputable abbrev aPM:Nat:=67
noncomputable abbrev aJ:Nat:=219
noncomputable abbrev yM:Nat:=266
noncomputable abbrev qa:Nat:=269
noncomputable abbrev pm (w:World) (L:List (Nat × Obj)) (N tk B:Nat) (effs:List bX):Pm:=⟨pw,w,g9 w.2,L.map (·.1),L.length,N,tk,B,effs⟩
noncomputable def aB (P:Params) (t1 t2 t3 t4 n2i:Nat) (rdy a f:Value) (ep:Nat):Obj:=jx [aE P s1w t1 (.ref n2i),aE P s1t t2 rdy,aE P s1u t3 a,aE P s1v t4 f] ep
noncomputable def bg (d:Nat) (k:Int) (t:Nat) (np:Value) (sl:Nat):Obj:=⟨.ref aNI,some d,.plain,⟨[some (.int k t),some np,some (.ref sl)]⟩⟩
noncomputable def qz {α:Type} (s:Stmt) (f:Expr→Expr→List Stmt→List Stmt→Pos→α) (e:α):α:=if h:s.ctorIdx=9 then Stmt.For.elim (motive_2:=fun _=>α) s h f else e
noncomputable def oWh {α:Type} (s:Stmt) (f:Expr→List Stmt→List Stmt→Pos→α) (e:α):α:=if h:s.ctorIdx=11 then Stmt.While.elim (motive_2:=fun _=>α) s h f else e
noncomputable def oIf {α:Type} (s:Stmt) (f:Expr→List Stmt→List Stmt→Pos→α) (e:α):α:=if h:s.ctorIdx=12 then Stmt.If.elim (motive_2:=fun _=>α) s h f else e
noncomputable def u9 {α:Type} (s:Stmt) (f:List Stmt→List ExceptHandler→List Stmt→List Stmt→Pos→α) (e:α):α:=if h:s.ctorIdx=17 then Stmt.Try.elim (motive_2:=fun _=>α) s h f else e
noncomputable def eT:Expr:=.Name "" default
noncomputable def wW {α:Type} (s:Expr) (f:Pos→α) (e:α):α:=if h:s.ctorIdx=23 then Expr.Name.elim (motive_1:=fun _=>α) s h fun _ p=>f p else e
noncomputable def pLc {α:Type} (s:Expr) (f:Expr→List Comprehension→Scope→Pos→α) (e:α):α:=if h:s.ctorIdx=8 then Expr.ListComp.elim (motive_1:=fun _=>α) s h f else e
noncomputable def cC (s:Stmt):List Stmt:=qz s (fun _ _ b _ _=>b) (oWh s (fun _ b _ _=>b) (oIf s (fun _ b _ _=>b) (u9 s (fun b _ _ _ _=>b) [])))
noncomputable def qh (s:Stmt):List Stmt:=qz s (fun _ _ _ b _=>b) (oWh s (fun _ _ b _=>b) (oIf s (fun _ _ b _=>b) (u9 s (fun _ _ b _ _=>b) [])))
noncomputable def cB (s:Stmt):Expr:=oWh s (fun t _ _ _=>t) (oIf s (fun t _ _ _=>t) eT)
noncomputable def dI (s:Stmt):Expr:=
  if h:s.ctorIdx=5 then Stmt.Assign.elim (motive_2:=fun _=>Expr) s h fun _ e _=>e
  else if h:s.ctorIdx=3 then Stmt.Return.elim (motive_2:=fun _=>Expr) s h fun e _=>e.getD eT
  else if h:s.ctorIdx=24 then Stmt.Expr.elim (motive_2:=fun _=>Expr) s h fun e _=>e
  else if h:s.ctorIdx=7 then Stmt.AugAssign.elim (motive_2:=fun _=>Expr) s h fun _ _ e _=>e
  else qz s (fun _ e _ _ _=>e) eT
noncomputable def fQ (l:List Stmt) (j:Nat):Stmt:=l.getD j (.Pass default)
noncomputable def dj (s:Expr):Expr:=pLc s (fun e _ _ _=>e) s
noncomputable def aL (s:Expr):List Comprehension:=pLc s (fun _ g _ _=>g) []
noncomputable def bD (s:Expr):Scope:=pLc s (fun _ _ c _=>c) default
noncomputable def pD (l:List Comprehension) (j:Nat):Expr:=match l.getD j ⟨.Name "" default,.Name "" default,[],0⟩ with | ⟨_,i,_,_⟩=>i
noncomputable def gTg (l:List Comprehension) (j:Nat):Expr:=match l.getD j ⟨.Name "" default,.Name "" default,[],0⟩ with | ⟨t,_,_,_⟩=>t
noncomputable def jF (l:List Comprehension) (j:Nat):Expr:=match l.getD j ⟨.Name "" default,.Name "" default,[],0⟩ with | ⟨_,_,c,_⟩=>c.getD 0 (.Name "" default)
noncomputable def bA (s:Expr) (j:Nat):Expr:=
  if h:s.ctorIdx=16 then Expr.Call.elim (motive_1:=fun _=>Expr) s h fun _ l _ _=>l.getD j eT
  else if h:s.ctorIdx=0 then Expr.BoolOp.elim (motive_1:=fun _=>Expr) s h fun _ l _=>l.getD j eT
  else if h:s.ctorIdx=15 then Expr.Compare.elim (motive_1:=fun _=>Expr) s h fun l _ r _=>(l::r).getD j eT
  else if h:s.ctorIdx=2 then Expr.BinOp.elim (motive_1:=fun _=>Expr) s h fun l _ r _=> [l,r].getD j eT
  else if h:s.ctorIdx=25 then Expr.Tuple.elim (motive_1:=fun _=>Expr) s h fun l _ _=>l.getD j eT
  else if h:s.ctorIdx=21 then Expr.Subscript.elim (motive_1:=fun _=>Expr) s h fun v x _=> [v,x].getD j eT
  else if h:s.ctorIdx=5 then Expr.IfExp.elim (motive_1:=fun _=>Expr) s h fun t b o _=> [t,b,o].getD j eT
  else s
noncomputable def d0 (s:Stmt):Pos:=qz s (fun t _ _ _ _=>wW t (fun p=>p) default) default
noncomputable def dm (l:List Comprehension) (j:Nat):Pos:=wW (gTg l j) (fun p=>p) default
noncomputable def j3 (s:Expr):Pos:=pLc s (fun _ _ _ p=>p) default
noncomputable def j0 (st:Stmt) (q:PySem.Str) (f c L:Nat):Env:={scope:=cE st,locals:=L,globals:=3,cells:= [],qual:=q++".<locals>.",func:=some f,code:=.ref c,frame:=some L,builtins:=0}
noncomputable abbrev ri:Stmt:=(bj (aY 2) 4)
noncomputable abbrev lE:Nat:=64
noncomputable abbrev yf:Nat:=63
noncomputable abbrev wK:PySem.Str:=sL
noncomputable abbrev bQ (L:Nat):Env:=j0 ri wK lE yf L
noncomputable abbrev bu (j:Nat):Stmt:=fQ (bW ri) j
noncomputable abbrev fw:Nat:=130
noncomputable abbrev nZ:Stmt:=(bj (aY 8) 2)
noncomputable abbrev aM:Nat:=137
noncomputable abbrev vl:Nat:=136
noncomputable abbrev tW:PySem.Str:=sT
noncomputable abbrev be (L:Nat):Env:=j0 nZ tW aM vl L
noncomputable abbrev aD (j:Nat):Stmt:=fQ (bW nZ) j
noncomputable abbrev mG:Stmt:=(bj (aY 8) 3)
noncomputable abbrev i5:Nat:=142
noncomputable abbrev mP:Nat:=141
noncomputable abbrev m4:PySem.Str:=sK
noncomputable abbrev cH (L:Nat):Env:=j0 mG m4 i5 mP L
noncomputable abbrev dh (j:Nat):Stmt:=fQ (bW mG) j
noncomputable abbrev kT:Stmt:=(bj (aY 8) 4)
noncomputable abbrev eY:Nat:=149
noncomputable abbrev pf:Nat:=148
noncomputable abbrev oE:PySem.Str:=sF
noncomputable abbrev cF (L:Nat):Env:=j0 kT oE eY pf L
noncomputable abbrev aT (j:Nat):Stmt:=fQ (bW kT) j
noncomputable abbrev o5:Stmt:=(bj (aY 8) 5)
noncomputable abbrev i7:Nat:=156
noncomputable abbrev vm:Nat:=155
noncomputable abbrev tX:PySem.Str:=sH
noncomputable abbrev fZ (L:Nat):Env:=j0 o5 tX i7 vm L
noncomputable abbrev eF (j:Nat):Stmt:=fQ (bW o5) j
noncomputable abbrev mH:Stmt:=(bj (aY 8) 7)
noncomputable abbrev i6:Nat:=170
noncomputable abbrev rp:Nat:=169
noncomputable abbrev qn:PySem.Str:=sQ
noncomputable abbrev aW (L:Nat):Env:=j0 mH qn i6 rp L
noncomputable abbrev cQ (j:Nat):Stmt:=fQ (bW mH) j
noncomputable abbrev nY:Stmt:=(bj (aY 8) 8)
noncomputable abbrev jd:Nat:=177
noncomputable abbrev vk:Nat:=176
noncomputable abbrev tV:PySem.Str:=sC
noncomputable abbrev aA (L:Nat):Env:=j0 nY tV jd vk L
noncomputable abbrev bE (j:Nat):Stmt:=fQ (bW nY) j
noncomputable abbrev kR:Stmt:=(aY 10)
noncomputable abbrev eX:Nat:=196
noncomputable abbrev kX:Nat:=195
noncomputable abbrev kD:PySem.Str:=sO
noncomputable abbrev mA (L:Nat):Env:=j0 kR kD eX kX L
noncomputable abbrev bw (j:Nat):Stmt:=fQ (bW kR) j
noncomputable abbrev iQ:Stmt:=(aY 11)
noncomputable abbrev eG:Nat:=203
noncomputable abbrev mO:Nat:=202
noncomputable abbrev m3:PySem.Str:=sE
noncomputable abbrev aR (L:Nat):Env:=j0 iQ m3 eG mO L
noncomputable abbrev cI (j:Nat):Stmt:=fQ (bW iQ) j
noncomputable abbrev nX:Stmt:=(aY 12)
noncomputable abbrev jc:Nat:=208
noncomputable abbrev hY:Nat:=207
noncomputable abbrev f9:PySem.Str:=sY
noncomputable abbrev oW (L:Nat):Env:=j0 nX f9 jc hY L
noncomputable abbrev bn (j:Nat):Stmt:=fQ (bW nX) j
noncomputable abbrev rh:Stmt:=(aY 13)
noncomputable abbrev k8:Nat:=213
noncomputable abbrev nz:Nat:=212
noncomputable abbrev nh:PySem.Str:=yz
noncomputable abbrev ax (L:Nat):Env:=j0 rh nh k8 nz L
noncomputable abbrev c6 (j:Nat):Stmt:=fQ (bW rh) j
noncomputable abbrev vQ:Stmt:=(aY 14)
noncomputable abbrev rS:Nat:=218
noncomputable abbrev o8:Nat:=217
noncomputable abbrev iI:PySem.Str:=yy
noncomputable abbrev uE (L:Nat):Env:=j0 vQ iI rS o8 L
noncomputable abbrev bN (j:Nat):Stmt:=fQ (bW vQ) j
structure Run where
  P:Pm
  Γ:Ctx
  κ:K
  p:Pos
  t:Sem Fin
  L:List Obj
  n:Nat
  hs:List Nat
  js:List Nat
noncomputable def Run.out (R:Run):Out:=ex R.P R.n R.Γ R.κ R.p R.t (bt R.L) 0 0 R.hs []
noncomputable abbrev zE:=Option (Result × Nat × Nat × List (Nat × Option Obj)) × List Side
noncomputable def Run.lhs (R:Run):zE:=(wi R.P.as R.P.k R.P.N R.js R.out,(mz R.out).map (·.1))
noncomputable def Run.rhs (R:Run) (r:Result) (m i:Nat) (L':List (Nat × Obj)):zE:=(some (r,m,i,dz L'),(mz R.out).map (·.2))
noncomputable abbrev nB:=Option (Code × Nat × Nat × List (Nat × Option Obj)) × List Side
noncomputable def Run.lhsA (R:Run):nB:=(n8 R.P.as R.P.k R.P.N R.js R.out,(mz R.out).map (·.1))
noncomputable def Run.rhsA (R:Run) (c:Code) (m i:Nat) (L':List (Nat × Obj)):nB:=(some (c,m,i,dz L'),(mz R.out).map (·.2))
theorem fB {α:Type} {f g:Bool→α} (h:(f true,f false)=(g true,g false)):∀b,f b=g b:=by
  injection h with h1 h2
  intro b;cases b<;>assumption
noncomputable def yB:KT→Nat
  | .nil=>0
  | .node _ l r=>max 1 (max (2 * yB l) (2 * yB r+1))
theorem hZ:∀(t:KT) (i:Nat),yB t≤i→t.get i=none
  | .nil,i,_=>rfl
  | .node v l r,i,h=>by
    unfold yB at h
    have h0:i≠0:=by lia
    rw [PySem.W.X.KT.get_node,if_neg h0]
    by_cases p:i % 2=1
    · rw [if_pos p];exact hZ l _ (by lia)
    · rw [if_neg p];exact hZ r _ (by lia)
noncomputable def Lo (n a:Nat):Prop:=n≤a∨a=205∨a=215
noncomputable def Apart (n N:Nat):List Nat→Prop
  | []=>True
  | a::l=>Lo n a∧a < N∧(∀b∈l,a≠b)∧Apart n N l
theorem Apart.all {n N:Nat}:∀{l:List Nat},Apart n N l→l.Nodup∧∀a∈l,Lo n a∧a < N
  | [],_=>⟨I4,fun _ h=>nomatch h⟩
  | a::l,h=>by
    obtain ⟨h1,h2,h3,h4⟩:=h
    obtain ⟨h5,h6⟩:=h4.all
    refine ⟨S1.mpr ⟨fun hm=>h3 a hm rfl,h5⟩,fun b hb=>?_⟩
    rcases Z0.mp hb with rfl | hb
    · exact ⟨h1,h2⟩
    · exact h6 b hb
theorem u8 {P:Pm} {n:Nat} (hk:P.as.length=P.k) (ha:Apart n P.N P.as) (hb:yB P.kt≤n) (hN:n≤P.N) (h1:P.kt.get 205=none) (h2:P.kt.get 215=none):Okay P:=
  ⟨hk,ha.all.1,fun a h=>(ha.all.2 a h).2,fun a h=>(ha.all.2 a h).1.elim (fun e=>hZ _ _ (M0 hb e)) fun e=>e.elim (fun e=>e▸h1) (fun e=>e▸h2),fun a h=>hZ _ _ (M0 hb (M0 hN h))⟩
theorem nN {R:Run} {L:List (Nat × Obj)} {s:Shared} {Q:Result→Shared→Prop} {r:Result} {m i:Nat} {L':List (Nat × Obj)} (b:Nat)
    (O:Okay R.P) (hE:∀E∈R.P.effs,aC R.P E) (hL:R.L=L.map (·.2)) (hk:R.P.k=L.length) (ha:R.P.as=L.map (·.1)) (hN:s.heap.objs.size=R.P.N) (ht:s.toks=R.P.tk) (kt:eq R.P.kt s.heap) (led:Led s.heap L)
    (hB:b≤R.P.B) (d:Deep b R.Γ R.κ) (hv:R.lhs=R.rhs r m i L')
    (H:∀h':Heap,h'.objs.size=s.heap.objs.size+m→Led h' L'→eq R.P.kt h'→(∀b o,s.heap.get? b=some o→b∉R.P.as→h'.get? b=some o)→Q r ⟨h',s.gens,s.drawn,s.toks+i,s.os⟩):
    Goes (model R.P.prog R.P.w) R.κ R.Γ R.p R.t s Q:=by
  obtain ⟨P,Γ,κ,p,t,Lo,n,hs,js⟩:=R
  dsimp only at *
  subst hL
  injection hv with h1 h2
  exact tw O hE L n hs js hk ha hN ht kt led b hB d h1 h2 H
theorem qk {R:Run} {L:List (Nat × Obj)} {s:Shared} {Q:Result→Shared→Prop} {c:Code} {m i:Nat} {L':List (Nat × Obj)} (b:Nat)
    (O:Okay R.P) (hE:∀E∈R.P.effs,aC R.P E) (hL:R.L=L.map (·.2)) (hk:R.P.k=L.length) (ha:R.P.as=L.map (·.1)) (hN:s.heap.objs.size=R.P.N) (ht:s.toks=R.P.tk) (kt:eq R.P.kt s.heap) (led:Led s.heap L)
    (hB:b≤R.P.B) (d:Deep b R.Γ R.κ) (hv:R.lhsA=R.rhsA c m i L')
    (H:∀(h':Heap) (C:yD),C=fz R.out→Deep b C.Γ C.κ→((C.Γ.code,C.p)::C.Γ.below).length≤b+9→h'.objs.size=s.heap.objs.size+m→Led h' L'→eq R.P.kt h'→(∀b o,s.heap.get? b=some o→b∉R.P.as→h'.get? b=some o)→
      ∃r s₂,Returns (model R.P.prog R.P.w) ⟨c,none,none,(C.Γ.code,C.p)::C.Γ.below,none⟩ C.p ⟨h',s.gens,s.drawn,s.toks+i,s.os⟩ r s₂∧Goes (model R.P.prog R.P.w) C.κ C.Γ C.p (kOf C r) s₂ Q):
    Goes (model R.P.prog R.P.w) R.κ R.Γ R.p R.t s Q:=by
  obtain ⟨P,Γ,κ,p,t,Lo,n,hs,js⟩:=R
  dsimp only at *
  subst hL
  injection hv with h1 h2
  exact wj O hE L n hs js hk ha hN ht kt led b hB d h1 h2 H
noncomputable def Run.lhsL (R:Run):nB:=(jl R.P.as R.P.k R.P.N R.js R.out,(mz R.out).map (·.1))
theorem Apart.sub {n N:Nat} {l l':List Nat} (h:l'.Sublist l) (a:Apart n N l):Apart n N l':=by
  induction h with
  | slnil=>exact a
  | cons x h ih=>exact ih a.2.2.2
  | cons_cons x h ih=>exact ⟨a.1,a.2.1,fun b hb=>a.2.2.1 b (h.mem hb),ih a.2.2.2⟩
theorem Apart.mono {n N N':Nat} {l:List Nat} (a:Apart n N l) (h:N≤N'):Apart n N' l:=by
  induction l with
  | nil=>trivial
  | cons x l ih=>exact ⟨a.1,P5 a.2.1 h,a.2.2.1,ih a.2.2.2⟩
theorem Apart.of {n N:Nat} {l:List Nat} (h1:l.Nodup) (h2:∀a∈l,Lo n a∧a < N):Apart n N l:=by
  induction l with
  | nil=>trivial
  | cons x l ih=>
    obtain ⟨h3,h4⟩:=S1.mp h1
    exact ⟨(h2 x (.head _)).1,(h2 x (.head _)).2,fun b hb e=>h3 (e▸hb),ih h4 fun a ha=>h2 a (.tail _ ha)⟩
noncomputable abbrev iv (q:Int × Nat):Value:=.int q.1 q.2
structure NI where
  key:Int
  tk:Nat
  d:Nat
  a:Nat
  np:Int
  npt:Nat
  sl:Nat
  succ:List (Int × Nat)
  sep:Nat
noncomputable def NI.obj (x:NI):Obj:=bg x.d x.key x.tk (.int x.np x.npt) x.sl
noncomputable def NI.lst (x:NI):Obj:=Mine.lst (x.succ.map iv) x.sep
structure So where
  s:Nat
  d:Nat
  n2i:Nat
  t1:Nat
  t2:Nat
  t3:Nat
  t4:Nat
  ep:Nat
  ep':Nat
  rdy:Value
  pas:Int × Nat
  fin:Int × Nat
  nodes:List NI
noncomputable def So.tab (G:So):List (Int × Nat × Value):=G.nodes.map fun x=>(x.key,x.tk,.ref x.a)
noncomputable def So.dict (w:World) (G:So):Obj:=aB w.2 G.t1 G.t2 G.t3 G.t4 G.n2i G.rdy (iv G.pas) (iv G.fin) G.ep
noncomputable def adrs (l:List NI):List Nat:=l.flatMap fun x=> [x.a,x.sl]
noncomputable def So.adr (G:So):List Nat:=G.s::G.d::G.n2i::adrs G.nodes
structure So.In (w:World) (h:Heap) (G:So):Prop where
  s:h.get? G.s=some (aP bM G.d)
  d:h.get? G.d=some (G.dict w)
  n2i:h.get? G.n2i=some (ak G.tab G.ep')
  nodes:∀x∈G.nodes,h.get? x.a=some x.obj∧h.get? x.sl=some x.lst
structure Kp (w:World) (s s':Shared) (W:List Nat):Prop where
  size:s.heap.objs.size≤s'.heap.objs.size
  keep:∀b o,s.heap.get? b=some o→b∉W→s'.heap.get? b=some o
  kt:eq (g9 w.2) s'.heap
  gens:s'.gens=s.gens
  drawn:s'.drawn=s.drawn
  os:s'.os=s.os
theorem Kp.trans {w:World} {s s₁ s₂:Shared} {W W':List Nat} (a:Kp w s s₁ W) (b:Kp w s₁ s₂ W') (h:∀x∈W',x∈W∨s.heap.objs.size≤x):Kp w s s₂ W:=
  ⟨M0 a.size b.size,fun x o e hx=>b.keep x o (a.keep x o e hx) fun hm=>by
    rcases h x hm with h | h
    · exact hx h
    · exact absurd (P4 e) (Nat.not_lt.mpr h),b.kt,b.gens.trans a.gens,b.drawn.trans a.drawn,b.os.trans a.os⟩
noncomputable abbrev AN:=Int × Int × List Int
noncomputable def So.abs (G:So):List AN:=G.nodes.map fun x=>(x.key,x.np,x.succ.map (·.1))
theorem kG {G:So} {k:Int} (h:(G.nodes.map (·.key)).Nodup):(∃x∈G.nodes,x.key=k∧bC G.tab k=some (.ref x.a))∨((∀x∈G.nodes,x.key≠k)∧bC G.tab k=none):=by
  unfold So.tab bC
  generalize G.nodes=l at h
  induction l with
  | nil=>exact .inr ⟨fun _ h=>(nomatch h),rfl⟩
  | cons y l ih=>
    rw [H0,S1] at h
    rw [H0,B6]
    by_cases e:y.key=k
    · refine .inl ⟨y,.head _,e,?_⟩
      rw [show ((y.key,y.tk,Value.ref y.a).1==k)=true by simpa using e]
      rfl
    · rw [show ((y.key,y.tk,Value.ref y.a).1==k)=false by simpa using e]
      rcases ih h.2 with ⟨x,hx,h1,h2⟩ | ⟨h1,h2⟩
      · exact .inl ⟨x,.tail _ hx,h1,h2⟩
      · exact .inr ⟨fun x hx=>by rcases Z0.mp hx with rfl | hx;exact e;exact h1 x hx,h2⟩
noncomputable def updN (l:List NI) (k:Int) (f:NI→NI):List NI:=l.map fun y=>if y.key=k then f y else y
noncomputable abbrev nR (w:World) (b1 b2 b3:Bool) (L:List (Nat × Obj)) (N tk B:Nat) (effs:List bX):Pm:=⟨pw,W3 w b1 b2 b3,g9 w.2,L.map (·.1),L.length,N,tk,B,effs⟩
theorem mS (P:Params):yB (g9 P)≤aJ:=I3 (by kernel_rfl!)
theorem gQ {w:World} {b1 b2 b3:Bool} {L:List (Nat × Obj)} {N tk B:Nat} {effs:List bX} (h:Apart aJ N (L.map (·.1))) (hN:aJ≤N):Okay (nR w b1 b2 b3 L N tk B effs):=
  u8 (by show (L.map (·.1)).length=L.length;rw [B0]) h (mS _) hN (by kernel_rfl!) (by kernel_rfl!)
noncomputable abbrev af:=List (Nat × Obj)
noncomputable abbrev ag:=List (Code × Pos)
theorem Led.iff {h:Heap} {L:af}:Led h L↔∀q∈L,h.get? q.1=some q.2:=by
  refine ⟨fun H=>H.get,fun H=>?_⟩
  induction L with
  | nil=>trivial
  | cons q L ih=>exact ⟨H q (.head _),ih fun x hx=>H x (.tail _ hx)⟩
structure St (w:World) (s:Shared) (L:af):Prop where
  kt:eq (g9 w.2) s.heap
  big:aJ≤s.heap.objs.size
  led:Led s.heap L
  ap:Apart aJ s.heap.objs.size (L.map (·.1))
structure To (w:World) (s s':Shared) (L L':af):Prop where
  st:St w s' L'
  kp:Kp w s s' (L.map (·.1))
  new:∀a∈L'.map (·.1),a∈L.map (·.1)∨s.heap.objs.size≤a
theorem St.sub {w:World} {s:Shared} {L M:af} (h:St w s L) (hs:M.Sublist L):St w s M:=
  ⟨h.kt,h.big,Led.iff.mpr fun q hq=>Led.iff.mp h.led q (hs.mem hq),h.ap.sub (hs.map _)⟩
theorem St.perm {w:World} {s:Shared} {L M:af} (h:St w s L) (hp:L.Perm M):St w s M:=
  ⟨h.kt,h.big,Led.iff.mpr fun q hq=>Led.iff.mp h.led q (hp.mem_iff.mpr hq),Apart.of ((hp.map _).nodup_iff.mp h.ap.all.1) fun a ha=>h.ap.all.2 a ((hp.map _).mem_iff.mpr ha)⟩
theorem Kp.wide {w:World} {s s':Shared} {W W':List Nat} (h:Kp w s s' W) (hw:∀a∈W,a∈W'):Kp w s s' W':=
  ⟨h.size,fun b o e hb=>h.keep b o e fun hm=>hb (hw b hm),h.kt,h.gens,h.drawn,h.os⟩
theorem To.trans {w:World} {s s₁ s₂:Shared} {L L₁ L₂:af} (a:To w s s₁ L L₁) (b:To w s₁ s₂ L₁ L₂):To w s s₂ L L₂:=
  ⟨b.st,a.kp.trans b.kp a.new,fun x hx=>by
    rcases b.new x hx with h | h
    · exact a.new x h
    · exact .inr (M0 a.kp.size h)⟩
theorem To.frame {w:World} {s s':Shared} {L L' F:af} (h:St w s (L++F)) (t:To w s s' L L'):To w s s' (L++F) (L'++F):=by
  have nd:=h.ap.all.1
  rw [A0] at nd
  obtain ⟨n1,n2,n3⟩:=P3.mp nd
  have hF:∀q∈F,q.1∉L.map (·.1):=fun q hq hm=>n3 _ hm _ (X0 hq) rfl
  have lt:∀q∈F,Lo aJ q.1∧q.1 < s.heap.objs.size:=fun q hq=>h.ap.all.2 _ (X0 (R0 _ hq))
  refine ⟨⟨t.st.kt,t.st.big,Led.iff.mpr fun q hq=>?_,?_⟩,t.kp.wide fun a ha=>by rw [A0];exact Y0 _ ha,fun a ha=>?_⟩
  · rcases A1.mp hq with hq | hq
    · exact Led.iff.mp t.st.led q hq
    · exact t.kp.keep _ _ (Led.iff.mp h.led q (R0 _ hq)) (hF q hq)
  · rw [A0]
    refine Apart.of (P3.mpr ⟨t.st.ap.all.1,n2,fun a ha b hb e=>?_⟩) fun a ha=>?_
    · subst e
      obtain ⟨q,hq,rfl⟩:=E1.mp hb
      rcases t.new _ ha with h' | h'
      · exact hF q hq h'
      · have:=(lt q hq).2;lia
    · rcases A1.mp ha with ha | ha
      · exact t.st.ap.all.2 a ha
      · obtain ⟨q,hq,rfl⟩:=E1.mp ha
        exact ⟨(lt q hq).1,P5 (lt q hq).2 t.kp.size⟩
  · rw [A0] at ha⊢
    rcases A1.mp ha with ha | ha
    · exact (t.new a ha).imp_left (Y0 _)
    · exact .inl (R0 _ ha)
theorem To.permL {w:World} {s s':Shared} {L M L':af} (t:To w s s' L L') (hp:L.Perm M):To w s s' M L':=
  ⟨t.st,t.kp.wide fun a ha=>(hp.map _).mem_iff.mp ha,fun a ha=>(t.new a ha).imp_left (hp.map _).mem_iff.mp⟩
theorem To.permR {w:World} {s s':Shared} {L L' M':af} (t:To w s s' L L') (hp:L'.Perm M'):To w s s' L M':=
  ⟨t.st.perm hp,t.kp,fun a ha=>t.new a ((hp.map _).mem_iff.mpr ha)⟩
theorem To.subR {w:World} {s s':Shared} {L L' M':af} (t:To w s s' L L') (hs:M'.Sublist L'):To w s s' L M':=
  ⟨t.st.sub hs,t.kp,fun a ha=>t.new a ((hs.map _).mem ha)⟩
theorem To.refl {w:World} {s:Shared} {L:af} (h:St w s L):To w s s L L:=
  ⟨h,⟨S0 _,fun _ _ e _=>e,h.kt,rfl,rfl,rfl⟩,fun a ha=>.inl ha⟩
theorem Goes.mono {M:Model} {κ:K} {Γ:Ctx} {p:Pos} {t:Sem Fin} {s:Shared} {Q Q':Result→Shared→Prop} (h:Goes M κ Γ p t s Q) (hq:∀r s',Q r s'→Q' r s'):Goes M κ Γ p t s Q':=by
  induction κ generalizing Γ p t s with
  | nil=>obtain ⟨r,s',a,b⟩:=h;exact ⟨r,s',a,hq r s' b⟩
  | cons x κ ih=>obtain ⟨r,s',a,b⟩:=h;exact ⟨r,s',a,ih b⟩
noncomputable def Con (w:World) (b1 b2 b3:Bool) (bel:ag→Prop) (c:Code) (L:af) (Q:Result→af→Prop):Prop:=
  ∀s,St w s L→∀below p,bel below→∃r s' L',Returns (model pw (W3 w b1 b2 b3)) ⟨c,none,none,below,none⟩ p s r s'∧To w s s' L L'∧Q r L'
noncomputable def Gos (w:World) (b1 b2 b3:Bool) (κ:K) (Γ:Ctx) (p:Pos) (t:Sem Fin) (L:af) (Q:Result→af→Prop):Prop:=
  ∀s,St w s L→Goes (model pw (W3 w b1 b2 b3)) κ Γ p t s fun r s'=>∃L',To w s s' L L'∧Q r L'
section
variable {w:World} {b1 b2 b3:Bool} {bel:ag→Prop} {c:Code} {L:af} {Q:Result→af→Prop}
theorem Con.of (h:∀below p,bel below→Gos w b1 b2 b3 [] ⟨c,none,none,below,none⟩ p (.pure (.again c)) L Q):Con w b1 b2 b3 bel c L Q:=by
  intro s hs below p hb
  obtain ⟨r,s',hr,L',hT,hq⟩:=h below p hb s hs
  exact ⟨r,s',L',l4 hr,hT,hq⟩
theorem Con.mono {Q':Result→af→Prop} (h:Con w b1 b2 b3 bel c L Q) (hq:∀r L',Q r L'→Q' r L'):Con w b1 b2 b3 bel c L Q':=fun s hs below p hb=>
  let ⟨r,s',L',a,t,q⟩:=h s hs below p hb
  ⟨r,s',L',a,t,hq r L' q⟩
theorem Con.perm {M:af} (h:Con w b1 b2 b3 bel c L Q) (hp:L.Perm M):Con w b1 b2 b3 bel c M Q:=fun s hs below p hb=>
  let ⟨r,s',L',a,t,q⟩:=h s (hs.perm hp.symm) below p hb
  ⟨r,s',L',a,t.permL hp,q⟩
theorem Con.frame {F:af} (h:Con w b1 b2 b3 bel c L fun r L'=>Q r (L'++F)):Con w b1 b2 b3 bel c (L++F) Q:=fun s hs below p hb=>
  let ⟨r,s',L',a,t,q⟩:=h s (hs.sub (C2 _ _)) below p hb
  ⟨r,s',L'++F,a,t.frame hs,q⟩
theorem Con.out {Q':Result→af→Prop} (h:Con w b1 b2 b3 bel c L Q) (hq:∀r L',Q r L'→∃M F,L'.Perm (M++F)∧Q' r M):Con w b1 b2 b3 bel c L Q':=fun s hs below p hb=>
  let ⟨r,s',L',a,t,q⟩:=h s hs below p hb
  let ⟨M,F,hp,hq'⟩:=hq r L' q
  ⟨r,s',M,a,(t.permR hp).subR (C2 _ _),hq'⟩
theorem Con.use {M F:af} {Q':Result→af→Prop} (h:Con w b1 b2 b3 bel c L Q) (hp:(L++F).Perm M) (hq:∀r L',Q r L'→Q' r (L'++F)):Con w b1 b2 b3 bel c M Q':=
  (Con.frame (F:=F) (h.mono hq)).perm hp
variable {κ:K} {Γ:Ctx} {p:Pos} {t:Sem Fin}
theorem Gos.mono {Q':Result→af→Prop} (h:Gos w b1 b2 b3 κ Γ p t L Q) (hq:∀r L',Q r L'→Q' r L'):Gos w b1 b2 b3 κ Γ p t L Q':=fun s hs=>
  (h s hs).mono fun r s' ⟨L',a,q⟩=>⟨L',a,hq r L' q⟩
theorem Gos.perm {M:af} (h:Gos w b1 b2 b3 κ Γ p t L Q) (hp:L.Perm M):Gos w b1 b2 b3 κ Γ p t M Q:=fun s hs=>
  (h s (hs.perm hp.symm)).mono fun r s' ⟨L',a,q⟩=>⟨L',a.permL hp,q⟩
theorem Gos.frame {F:af} (h:Gos w b1 b2 b3 κ Γ p t L fun r L'=>Q r (L'++F)):Gos w b1 b2 b3 κ Γ p t (L++F) Q:=fun s hs=>
  (h s (hs.sub (C2 _ _))).mono fun r s' ⟨L',a,q⟩=>⟨L'++F,a.frame hs,q⟩
theorem Gos.drop {M:af} (h:Gos w b1 b2 b3 κ Γ p t M Q) (hs':M.Sublist L):Gos w b1 b2 b3 κ Γ p t L Q:=fun s hs=>
  (h s (hs.sub hs')).mono fun r s' ⟨L',a,q⟩=>⟨L',⟨a.st,a.kp.wide fun x hx=>(hs'.map _).mem hx,fun x hx=>(a.new x hx).imp_left (hs'.map _).mem⟩,q⟩
end
theorem ou {P:Pm} (O:Okay P) (hE:∀E∈P.effs,aC P E) {Γ:Ctx} {p:Pos} {t:Sem Fin} {s:Shared} {Q:Result→Shared→Prop} (L:List (Nat × Obj)) (n:Nat) (hs js:List Nat) {c:Code} {m i:Nat} {L':List (Nat × Obj)} {below:ag}
    (hk:P.k=L.length) (ha:P.as=L.map (·.1)) (hN:s.heap.objs.size=P.N) (ht:s.toks=P.tk) (kt:eq P.kt s.heap) (led:Led s.heap L)
    (b:Nat) (hB:b≤P.B) (d:Deep b Γ [])
    (hv:jl P.as P.k P.N js (ex P n Γ [] p t (bt (L.map (·.2))) 0 0 hs [])=some (c,m,i,dz L'))
    (he:jK (ex P n Γ [] p t (bt (L.map (·.2))) 0 0 hs [])) (hbl:(fz (ex P n Γ [] p t (bt (L.map (·.2))) 0 0 hs [])).Γ.below=below) (hq:c.quiet=true)
    (H:∀(h':Heap) (p':Pos),h'.objs.size=s.heap.objs.size+m→Led h' L'→eq P.kt h'→(∀b o,s.heap.get? b=some o→b∉P.as→h'.get? b=some o)→
      ∃r s',Returns (model P.prog P.w) ⟨c,none,none,below,none⟩ p' ⟨h',s.gens,s.drawn,s.toks+i,s.os⟩ r s'∧Q r s'):
    Goes (model P.prog P.w) [] Γ p t s Q:=by
  refine gI (G:=fun o=>ex P n Γ [] p t (bt (L.map (·.2))) 0 0 hs []=o→jK o→(fz o).Γ.below=below→Goes (model P.prog P.w) [] Γ p t s Q) js hv (fun c0 bl p' T es hl ho he hbl=>?_) rfl he hbl
  have hbl:bl=below:=hbl
  subst hbl
  refine (n9 (Q:=Q) O hE L n hs hk ha hN ht kt led b hB d ho he rfl).2 fun _ h' R'=>?_
  obtain ⟨r,s₂,hr,hq'⟩:=H h' p' (by rw [R'.size,hN]) (fg (fun j o q=>(R'.own j o q).2) hl) R'.kt R'.keep
  rw [←ht]
  exact ⟨r,s₂,.again hq hr,hq'⟩
theorem oz {R:Run} {L:List (Nat × Obj)} {s:Shared} {Q:Result→Shared→Prop} {c:Code} {m i:Nat} {L':List (Nat × Obj)} {below:ag} (b:Nat) (hκ:R.κ= [])
    (O:Okay R.P) (hE:∀E∈R.P.effs,aC R.P E) (hL:R.L=L.map (·.2)) (hk:R.P.k=L.length) (ha:R.P.as=L.map (·.1)) (hN:s.heap.objs.size=R.P.N) (ht:s.toks=R.P.tk) (kt:eq R.P.kt s.heap) (led:Led s.heap L)
    (hB:b≤R.P.B) (d:Deep b R.Γ R.κ) (hv:R.lhsL=R.rhsA c m i L') (hbl:(fz R.out).Γ.below=below) (hq:c.quiet=true)
    (H:∀(h':Heap) (p':Pos),h'.objs.size=s.heap.objs.size+m→Led h' L'→eq R.P.kt h'→(∀b o,s.heap.get? b=some o→b∉R.P.as→h'.get? b=some o)→
      ∃r s',Returns (model R.P.prog R.P.w) ⟨c,none,none,below,none⟩ p' ⟨h',s.gens,s.drawn,s.toks+i,s.os⟩ r s'∧Q r s'):
    Goes (model R.P.prog R.P.w) R.κ R.Γ R.p R.t s Q:=by
  obtain ⟨P,Γ,κ,p,t,Lo,n,hs,js⟩:=R
  dsimp only at *
  subst hL hκ
  injection hv with h1 h2
  exact ou O hE L n hs js hk ha hN ht kt led b hB d h1 h2 hbl hq H
noncomputable def qO:List Nat→Nat→Bool
  | [],_=>true
  | j::l,n=>match K7 j n with
    | true=>match l.all fun x=>!(Nat.beq x j) with
      | true=>qO l n
      | false=>false
    | false=>false
theorem qN {n:Nat}:∀{js:List Nat},qO js n=true→js.Nodup∧∀j∈js,j < n
  | [],_=>⟨I4,fun _ h=>nomatch h⟩
  | j::l,h=>by
    unfold qO at h
    split at h
    · rename_i h1
      split at h
      · rename_i h2
        obtain ⟨h3,h4⟩:=qN h
        have h1:j < n:=by simpa using h1
        rw [E3] at h2
        refine ⟨S1.mpr ⟨fun hm=>?_,h3⟩,fun x hx=>?_⟩
        · have:=h2 j hm;simp at this
        · rcases Z0.mp hx with rfl | hx
          · exact h1
          · exact h4 x hx
      · cases h
    · cases h
theorem fD {L:af} {as:List Nat} {k N:Nat} {T:BT}:∀{js:List Nat},(js.map fun j=>(adr as k N j,T.get j))=dz L→L.map (·.1)=js.map (adr as k N):=by
  induction L with
  | nil=>intro js h;cases js with
    | nil=>rfl
    | cons j js=>cases h
  | cons q L ih=>intro js h;cases js with
    | nil=>cases h
    | cons j js=>
      have h:((adr as k N j,T.get j)::js.map fun j=>(adr as k N j,T.get j))=(q.1,some q.2)::dz L:=h
      injection h with h1 h2
      rw [H0,H0,ih h2]
      injection h1 with h1 _
      rw [h1]
theorem ym {n N m:Nat} {as js:List Nat} (h:Apart n N as) (hn:n≤N) (hj:qO js (as.length+m)=true):Apart n (N+m) (js.map (adr as as.length N))∧∀a∈js.map (adr as as.length N),a∈as∨N≤a:=by
  obtain ⟨h1,h2⟩:=qN hj
  obtain ⟨h3,h4⟩:=h.all
  have lo:∀j,j < as.length→adr as as.length N j∈as:=fun j hj=>by
    rw [gF hj,I1,O0 hj];exact W6 hj
  have inj:∀i j,i < as.length+m→j < as.length+m→adr as as.length N i=adr as as.length N j→i=j:=fun i j hi hj e=>by
    rcases A6 i as.length with a | a<;>rcases A6 j as.length with b | b
    · rw [gF a,gF b,I1,I1,O0 a,O0 b] at e
      have pw':=L4.mp h3
      rcases S6 i j with l | l | l
      · exact absurd e (pw' i j a b l)
      · exact l
      · exact absurd e.symm (pw' j i b a l)
    · have:=(h4 _ (lo i a)).2;rw [e,dw b] at this;lia
    · have:=(h4 _ (lo j b)).2;rw [←e,dw a] at this;lia
    · rw [dw a,dw b] at e;lia
  refine ⟨Apart.of ?_ fun a ha=>?_,fun a ha=>?_⟩
  · have:∀l:List Nat,l.Nodup→(∀j∈l,j < as.length+m)→(l.map (adr as as.length N)).Nodup:=by
      intro l
      induction l with
      | nil=>intro _ _;exact I4
      | cons x l ih=>
        intro n1 n2
        obtain ⟨n3,n4⟩:=S1.mp n1
        rw [H0]
        refine S1.mpr ⟨fun hm=>?_,ih n4 fun j hj=>n2 j (.tail _ hj)⟩
        obtain ⟨y,hy,e⟩:=E1.mp hm
        exact n3 (inj y x (n2 y (.tail _ hy)) (n2 x (.head _)) e▸hy)
    exact this js h1 h2
  · obtain ⟨j,hj,rfl⟩:=E1.mp ha
    rcases A6 j as.length with a | a
    · exact ⟨(h4 _ (lo j a)).1,P5 (h4 _ (lo j a)).2 (O4 _ _)⟩
    · have:=h2 j hj;rw [dw a];exact ⟨.inl (by lia),by lia⟩
  · obtain ⟨j,hj,rfl⟩:=E1.mp ha
    rcases A6 j as.length with a | a
    · exact .inl (lo j a)
    · rw [dw a];exact .inr (by exact O4 _ _)
noncomputable abbrev rn (w:World) (b1 b2 b3:Bool) (L:af) (N tk:Nat) (effs:List bX) (κ:K) (Γ:Ctx) (p:Pos) (t:Sem Fin) (hs js:List Nat):Run:=
  ⟨nR w b1 b2 b3 L N tk 100 effs,Γ,κ,p,t,L.map (·.2),20000,hs,js⟩
noncomputable abbrev rc (w:World) (b1 b2 b3:Bool) (L:af) (N tk:Nat) (effs:List bX) (c:Code) (below:ag) (p:Pos) (hs js:List Nat):Run:=
  rn w b1 b2 b3 L N tk effs [] ⟨c,none,none,below,none⟩ p (.pure (.again c)) hs js
noncomputable abbrev Run.bel (R:Run):ag:=((fz R.out).Γ.code,(fz R.out).p)::(fz R.out).Γ.below
theorem Out.led_fst {R:Run} {c:Code} {m i:Nat} {L':af} (h:R.lhsA=R.rhsA c m i L'):L'.map (·.1)=R.js.map (adr R.P.as R.P.k R.P.N):=by
  injection h with h _
  exact jm (G:=fun _=>_) _ h fun _ _ _ _ _ _ _ _ _ _ hl=>fD hl
theorem Out.led_fstL {R:Run} {c:Code} {m i:Nat} {L':af} (h:R.lhsL=R.rhsA c m i L'):L'.map (·.1)=R.js.map (adr R.P.as R.P.k R.P.N):=by
  injection h with h _
  exact gI (G:=fun _=>_) _ h fun _ _ _ _ _ hl=>fD hl
theorem Out.led_fstF {R:Run} {r:Result} {m i:Nat} {L':af} (h:R.lhs=R.rhs r m i L'):L'.map (·.1)=R.js.map (adr R.P.as R.P.k R.P.N):=by
  injection h with h _
  exact lN (G:=fun _=>_) h fun _ _ hl=>fD hl
section
variable {w:World} {b1 b2 b3:Bool} {bel:ag→Prop} {c:Code} {L:af} {Q:Result→af→Prop} {κ:K} {Γ:Ctx} {p:Pos} {t:Sem Fin} {hs js:List Nat}
theorem lP {s:Shared} {h':Heap} {m i:Nat} {L':af} (hst:St w s L) (hf:L'.map (·.1)=js.map (adr (L.map (·.1)) L.length s.heap.objs.size)) (hj:qO js (L.length+m)=true)
    (h1:h'.objs.size=s.heap.objs.size+m) (h2:Led h' L') (h3:eq (g9 w.2) h') (h4:∀b o,s.heap.get? b=some o→b∉L.map (·.1)→h'.get? b=some o):To w s ⟨h',s.gens,s.drawn,s.toks+i,s.os⟩ L L':=by
  have e:L.length=(L.map (·.1)).length:=(B0 _).symm
  rw [e] at hf hj
  obtain ⟨a1,a2⟩:=ym hst.ap hst.big hj
  rw [←hf] at a1 a2
  exact ⟨⟨h3,by show aJ≤h'.objs.size;have:=hst.big;lia,h2,by show Apart _ h'.objs.size _;rw [h1];exact a1⟩,⟨by show _≤h'.objs.size;exact lka h1,h4,h3,rfl,rfl,rfl⟩,a2⟩
end
section
variable {w:World} {b1 b2 b3:Bool} {bel:ag→Prop} {c:Code} {L F M:af} {Q:Result→af→Prop} {κ:K} {Γ:Ctx} {p:Pos} {t:Sem Fin} {hs js:List Nat}
noncomputable abbrev EffsOk (w:World) (b1 b2 b3:Bool) (L:af) (effs:Nat→Nat→List bX):Prop:=
  ∀N tk,aJ≤N→(∀a∈L.map (·.1),Lo aJ a∧a < N)→∀E∈effs N tk,aC (nR w b1 b2 b3 L N tk 100 (effs N tk)) E
theorem EffsOk.none:EffsOk w b1 b2 b3 L fun _ _=> []:=fun _ _ _ _ E h=>nomatch h
theorem gW {b:Nat} (effs:Nat→Nat→List bX) (r:Nat→Nat→Result) (m:Nat→Nat→Nat) (i:Nat→Nat→Nat) (L':Nat→Nat→af) (hp:(L++F).Perm M) (d:Deep b Γ κ) (hb:b≤100)
    (hE:EffsOk w b1 b2 b3 L effs)
    (hv:∀N tk,(rn w b1 b2 b3 L N tk (effs N tk) κ Γ p t hs js).lhs=(rn w b1 b2 b3 L N tk (effs N tk) κ Γ p t hs js).rhs (r N tk) (m N tk) (i N tk) (L' N tk))
    (hj:∀N tk,qO js (L.length+m N tk)=true) (hQ:∀N tk,Q (r N tk) (L' N tk++F)):Gos w b1 b2 b3 κ Γ p t M Q:=Gos.perm (L:=L++F) (fun s hs0=>by
  have hs':=hs0.sub (C2 L F)
  have O:Okay (nR w b1 b2 b3 L s.heap.objs.size s.toks 100 (effs s.heap.objs.size s.toks)):=gQ hs'.ap hs'.big
  exact nN (R:=rn w b1 b2 b3 L s.heap.objs.size s.toks (effs _ _) κ Γ p t hs js) (L:=L) b O (fun E hE'=>hE _ _ hs'.big hs'.ap.all.2 E hE') rfl rfl rfl rfl rfl hs'.kt hs'.led hb d (hv _ _)
    fun h' h1 h2 h3 h4=>⟨_,(lP hs' (Out.led_fstF (hv s.heap.objs.size s.toks)) (hj _ _) h1 h2 h3 h4).frame hs0,hQ _ _⟩) hp
end
noncomputable abbrev cx (c:Code) (below:ag):Ctx:=⟨c,none,none,below,none⟩
noncomputable def Tr (w:World) (b1 b2 b3:Bool) (Γ:Ctx) {α:Type} (m:Sem α) (L:af) (Q:α→af→Prop):Prop:=
  ∀s,St w s L→∀p,Sem.wp (model pw (W3 w b1 b2 b3)) Γ m (fun a _ s'=>∃L',To w s s' L L'∧Q a L') (fun _ _ _=>False) p s
section
variable {α β:Type} {w:World} {b1 b2 b3:Bool} {Γ:Ctx} {m:Sem α} {f:α→Sem β} {L M F:af} {Q Q':α→af→Prop} {Q2:β→af→Prop} {bel:ag→Prop}
theorem Tr.mono (h:Tr w b1 b2 b3 Γ m L Q) (hq:∀a L',Q a L'→Q' a L'):Tr w b1 b2 b3 Γ m L Q':=fun s hs p=>
  W2 _ _ _ (fun a _ s' ⟨L',t,q⟩=>⟨L',t,hq a L' q⟩) (fun _ _ _ x=>x) p s (h s hs p)
theorem Tr.gq (h:∀Q':α→af→Prop,(∀a L',Q a L'→Q' a L')→Tr w b1 b2 b3 Γ m L Q'):Tr w b1 b2 b3 Γ m L Q:=h Q fun _ _ x=>x
theorem Con.gq {c:Code} {Q:Result→af→Prop} (h:∀Q':Result→af→Prop,(∀a L',Q a L'→Q' a L')→Con w b1 b2 b3 bel c L Q'):Con w b1 b2 b3 bel c L Q:=h Q fun _ _ x=>x
theorem Tr.bind (h:Tr w b1 b2 b3 Γ m L fun a L1=>Tr w b1 b2 b3 Γ (f a) L1 Q2):Tr w b1 b2 b3 Γ (m>>=f) L Q2:=by
  intro s hs p
  rw [M4]
  refine W2 _ _ _ ?_ (fun _ _ _ x=>x) p s (h s hs p)
  rintro a p' s' ⟨L1,t,q⟩
  refine W2 _ _ _ ?_ (fun _ _ _ x=>x) p' s' (q s' t.st p')
  rintro b p'' s'' ⟨L2,t2,q2⟩
  exact ⟨L2,t.trans t2,q2⟩
theorem Tr.pure {a:α} (h:Q a L):Tr w b1 b2 b3 Γ (Pure.pure a:Sem α) L Q:=fun s hs p=>by
  rw [J8];exact ⟨L,.refl hs,h⟩
theorem Tr.perm (h:Tr w b1 b2 b3 Γ m L Q) (hp:L.Perm M):Tr w b1 b2 b3 Γ m M Q:=fun s hs p=>
  W2 _ _ _ (fun a _ s' ⟨L',t,q⟩=>⟨L',t.permL hp,q⟩) (fun _ _ _ x=>x) p s (h s (hs.perm hp.symm) p)
theorem Tr.frame (h:Tr w b1 b2 b3 Γ m L fun r L'=>Q r (L'++F)):Tr w b1 b2 b3 Γ m (L++F) Q:=fun s hs p=>
  W2 _ _ _ (fun a _ s' ⟨L',t,q⟩=>⟨L'++F,t.frame hs,q⟩) (fun _ _ _ x=>x) p s (h s (hs.sub (C2 _ _)) p)
theorem Tr.use (h:Tr w b1 b2 b3 Γ m L Q) (hp:(L++F).Perm M) (hq:∀r L',Q r L'→Q' r (L'++F)):Tr w b1 b2 b3 Γ m M Q':=
  (Tr.frame (F:=F) (h.mono hq)).perm hp
theorem Tr.out (h:Tr w b1 b2 b3 Γ m L Q) (hq:∀r L',Q r L'→∃M F,L'.Perm (M++F)∧Q' r M):Tr w b1 b2 b3 Γ m L Q':=fun s hs p=>
  W2 _ _ _ (fun a _ s' ⟨L',t,q⟩=>let ⟨M,F,hp,hq'⟩:=hq a L' q;⟨M,(t.permR hp).subR (C2 _ _),hq'⟩) (fun _ _ _ x=>x) p s (h s hs p)
theorem Tr.of_gos {enc:α→Flow} (hi:∀a b,enc a=enc b→a=b) (h:∀p,Gos w b1 b2 b3 [] Γ p (m.bind fun a=>.pure (.done (enc a))) L fun r L'=>∃a,r= .ok (enc a)∧Q a L'):Tr w b1 b2 b3 Γ m L Q:=by
  intro s hs p
  have:=(A5 _ Γ _ _ p s).mpr (h p s hs)
  rw [I5] at this
  refine W2 _ _ _ ?_ ?_ p s this
  · rintro a p' s' hf
    rw [B7] at hf
    obtain ⟨L',t,a',e,q⟩:=hf
    injection e with e
    have:=hi _ _ e
    subst this
    exact ⟨L',t,q⟩
  · rintro e p' s' ⟨L',t,a',e',q⟩
    cases e'
theorem Con.of_wp {c:Code} {Q:Result→af→Prop} (h:∀below,bel below→∀s,St w s L→∀p,Sem.wp (model pw (W3 w b1 b2 b3)) (cx c below) (denote table c) (R8 (model pw (W3 w b1 b2 b3)) (cx c below) fun r s'=>∃L',To w s s' L L'∧Q r L') (fun e _ s'=>∃L',To w s s' L L'∧Q (.error e) L') p s):
    Con w b1 b2 b3 bel c L Q:=by
  intro s hs below p hb
  obtain ⟨r,s',hr,L',t,q⟩:=(A5 _ (cx c below) _ (fun r s'=>∃L',To w s s' L L'∧Q r L') p s).mp (h below hb s hs p)
  exact ⟨r,s',L',hr,t,q⟩
inductive OkF (Q:Flow→af→Prop) (r:Result) (L:af):Prop | mk (f:Flow) (_:r= .ok f) (_:Q f L):OkF Q r L
theorem Tr.run {c c0:Code} {below:ag} {Q:Flow→af→Prop} (h:Con w b1 b2 b3 bel c L (OkF Q)) (hb:∀p,bel ((c0,p)::below)):Tr w b1 b2 b3 (cx c0 below) (PySem.run c) L Q:=by
  intro s hs p
  rw [Sem.wp_run]
  obtain ⟨r,s',L',hr,t,f,rfl,q⟩:=h s hs ((c0,p)::below) p (hb p)
  exact ⟨_,s',hr,L',t,q⟩
theorem Tr.onRaise {k:Value→Sem Unit} (h:Tr w b1 b2 b3 Γ m L Q):Tr w b1 b2 b3 Γ (m.onRaise k) L Q:=by
  intro s hs p
  rw [Sem.wp_onRaise]
  exact W2 _ _ _ (fun _ _ _ x=>x) (fun _ _ _ x=>x.elim) p s (h s hs p)
theorem Tr.standAt {q:Pos} {Q:Unit→af→Prop} (h:Q () L):Tr w b1 b2 b3 Γ (PySem.standAt q) L Q:=fun s hs p=>by
  rw [Sem.wp_cmd_standAt];exact ⟨L,.refl hs,h⟩
theorem Tr.rule {q:String} {Q:Unit→af→Prop} (h:Q () L):Tr w b1 b2 b3 Γ (PySem.rule q) L Q:=fun s hs p=>by
  rw [Sem.wp_cmd_rule];exact ⟨L,.refl hs,h⟩
theorem Tr.point {Q:Unit→af→Prop} (h:Q () L):Tr w b1 b2 b3 Γ PySem.point L Q:=fun s hs p=>by
  rw [Sem.wp_cmd_point];exact ⟨L,.refl hs,h⟩
theorem Con.done {c:Code} {t:Sem Fin} {Q:Result→af→Prop} (e:denote table c=t) (h:∀below,bel below→Tr w b1 b2 b3 (cx c below) t L fun fin L'=>match fin with | .done f=>Q (.ok f) L' | .again c'=>c'.quiet=true∧Con w b1 b2 b3 bel c' L' Q):Con w b1 b2 b3 bel c L Q:=by
  refine Con.of_wp fun below hb s hs p=>?_
  rw [e]
  refine W2 _ _ _ ?_ (fun _ _ _ x=>x.elim) p s (h below hb s hs p)
  rintro fin p' s' ⟨L1,t1,q⟩
  cases fin with
  | done f=>exact ⟨L1,t1,q⟩
  | again c'=>
    obtain ⟨hq,q⟩:=q
    refine ⟨hq,?_⟩
    obtain ⟨r,s'',L2,hr,t2,q2⟩:=q s' t1.st below p' hb
    exact ⟨r,s'',hr,L2,t1.trans t2,q2⟩
noncomputable abbrev FnQ (Q:Result→af→Prop) (f:Flow) (L:af):Prop:=match f with | .ret v=>Q (.ok (.ret v)) L | _=>Q (.ok (.ret .none)) L
theorem Con.func {body:List Stmt} {env:Env} {Q:Result→af→Prop} (h:∀below,bel below→Tr w b1 b2 b3 (cx (.func body env) below) (execs body env) L (FnQ Q)):Con w b1 b2 b3 bel (.func body env) L Q:=by
  refine Con.done (t:=do PySem.point;match ←(execs body env).onRaise (leaving env) with | .ret v=>ret v | _=>ret .none) rfl fun below hb=>?_
  refine Tr.bind (Tr.point (Tr.bind (Tr.onRaise (Tr.mono (h below hb) ?_))))
  intro f L' q
  cases f<;>exact Tr.pure (a:=Fin.done _) q
theorem Tr.nil {env:Env} {Q:Flow→af→Prop} (h:Q .next L):Tr w b1 b2 b3 Γ (execs [] env) L Q:=by
  exact Tr.pure (a:=Flow.next) h
theorem Tr.seq {s:Stmt} {rest:List Stmt} {env:Env} {Q:Flow→af→Prop} (h:Tr w b1 b2 b3 Γ (exec s env) L fun f L'=>match f with | .next=>Tr w b1 b2 b3 Γ (execs rest env) L' Q | f=>Q f L'):Tr w b1 b2 b3 Γ (execs (s::rest) env) L Q:=by
  rw [PySem.execs_cons]
  refine Tr.bind (h.mono ?_)
  intro f L' q
  cases f
  · exact q
  all_goals exact Tr.pure q
theorem Tr.one {s:Stmt} {env:Env} {Q:Flow→af→Prop} (h:Tr w b1 b2 b3 Γ (execs [s] env) L Q):Tr w b1 b2 b3 Γ (exec s env) L Q:=by
  intro st hs p
  have:=h st hs p
  rw [PySem.execs_cons] at this
  rw [M4] at this
  refine W2 _ _ _ ?_ (fun _ _ _ x=>x) p st this
  intro f p' s' q
  cases f
  · rw [PySem.execs_nil,J8] at q;exact q
  all_goals (rw [J8] at q;exact q)
noncomputable def evT (e:Expr) (env:Env):Sem Fin:=R.bindR (PySem.W.Fast.tw14044960220447912780 e env) fun v=>.pure (.done (.ret v))
noncomputable def itT (e:Expr) (env:Env):Sem Fin:=R.bindR (PySem.W.Fast.tw15418851999007992765 e env (PySem.W.Fast.tw14044960220447912780 e env)) fun b=>.pure (.done (.ret (.bool b)))
noncomputable def pC (it:Value):Sem Fin:=R.bindR (PySem.W.Fast.tw9404975358583537561 it) fun o=>.pure (.done (match o with | none=>.next | some v=>.ret v))
noncomputable def asT (tgt:Expr) (env:Env) (x:Value) (body:List Stmt):Sem Fin:=R.bindR (PySem.W.Fast.tw17772580674575903948 tgt env x) fun _=>R.bindR (PySem.W.Fast.tw12563942051412417395 body env) fun f=>.pure (.done f)
noncomputable def asI (tgt:Expr) (env:Env) (x:Value) (c:Expr):Sem Fin:=R.bindR (PySem.W.Fast.tw17772580674575903948 tgt env x) fun _=>itT c env
noncomputable def asE (tgt:Expr) (env:Env) (x:Value) (c:Expr):Sem Fin:=R.bindR (PySem.W.Fast.tw17772580674575903948 tgt env x) fun _=>evT c env
noncomputable def wV (x:Value):Sem Fin:=R.bindR (PySem.W.Fast.tw8711993805878244202 x) fun v=>.pure (.done (.ret v))
noncomputable def clT (f:Value) (vs:List Value):Sem Fin:=.call (.call f ⟨vs,[]⟩) none false [] fun | .ok (.ret v)=>.pure (.done (.ret v)) | .ok _=>.unsupported "internal:call-without-return-value" | .error e=>.raise e
theorem bS {γ:Type} (m:Sem α) (f:α→Sem β) (g:β→Sem γ):(m.bind f).bind g=m.bind fun a=>(f a).bind g:=by
  induction m<;>simp only [S8, *]
theorem Tr.ev {e:Expr} {env:Env} {Q:Value→af→Prop} (h:∀p,Gos w b1 b2 b3 [] Γ p (evT e env) L fun r L'=>∃v,r= .ok (.ret v)∧Q v L'):Tr w b1 b2 b3 Γ (eval e env) L Q:=by
  refine Tr.of_gos (enc:=.ret) (fun a b e=>by injection e) fun p=>?_
  have:=h p
  unfold evT at this
  rw [←R.bindR_eq,←PySem.W.Fast.te14044960220447912780] at this
  exact this
theorem Tr.it {e:Expr} {env:Env} {Q:Bool→af→Prop} (h:∀p,Gos w b1 b2 b3 [] Γ p (itT e env) L fun r L'=>∃b,r= .ok (.ret (.bool b))∧Q b L'):Tr w b1 b2 b3 Γ (isTrue e env (eval e env)) L Q:=by
  refine Tr.of_gos (enc:=fun b=>.ret (.bool b)) (fun a b e=>by injection e with e;injection e) fun p=>?_
  have:=h p
  unfold itT at this
  rw [←R.bindR_eq,←PySem.W.Fast.te14044960220447912780,←PySem.W.Fast.te15418851999007992765] at this
  exact this
noncomputable def ix:Option Value→Flow
  | none=>.next
  | some v=>.ret v
theorem Tr.nx {it:Value} {Q:Option Value→af→Prop} (h:∀p,Gos w b1 b2 b3 [] Γ p (pC it) L fun r L'=>∃o,r= .ok (ix o)∧Q o L'):Tr w b1 b2 b3 Γ (pyNext it) L Q:=by
  refine Tr.of_gos (enc:=ix) (fun a b e=>by cases a<;>cases b<;>simp_all [ix]) fun p=>?_
  have:=h p
  unfold pC at this
  rw [←R.bindR_eq,←PySem.W.Fast.te9404975358583537561] at this
  exact this
theorem Tr.pi {x:Value} {Q:Value→af→Prop} (h:∀p,Gos w b1 b2 b3 [] Γ p (wV x) L fun r L'=>∃v,r= .ok (.ret v)∧Q v L'):Tr w b1 b2 b3 Γ (pyIter x) L Q:=by
  refine Tr.of_gos (enc:=.ret) (fun a b e=>by injection e) fun p=>?_
  have:=h p
  unfold wV at this
  rw [←R.bindR_eq,←PySem.W.Fast.te8711993805878244202] at this
  exact this
theorem Tr.st {body:List Stmt} {env:Env} {Q:Flow→af→Prop} (h:∀p,Gos w b1 b2 b3 [] Γ p (yN body env) L fun r L'=>∃f,r= .ok f∧Q f L'):Tr w b1 b2 b3 Γ (execs body env) L Q:=by
  refine Tr.of_gos (enc:=id) (fun a b e=>e) fun p=>?_
  have:=h p
  rw [qb] at this
  exact this
theorem Tr.as {tgt:Expr} {env:Env} {x:Value} {body:List Stmt} {Q:Flow→af→Prop} (h:∀p,Gos w b1 b2 b3 [] Γ p (asT tgt env x body) L fun r L'=>∃f,r= .ok f∧Q f L'):Tr w b1 b2 b3 Γ (assign tgt env x>>=fun _=>execs body env) L Q:=by
  refine Tr.of_gos (enc:=id) (fun a b e=>e) fun p=>?_
  have:=h p
  unfold asT at this
  rw [←R.bindR_eq,←PySem.W.Fast.te17772580674575903948,←PySem.W.Fast.te12563942051412417395] at this
  show Gos w b1 b2 b3 [] Γ p (((assign tgt env x).bind fun _=>execs body env).bind _) L _
  rw [bS]
  exact this
theorem Tr.asIt {tgt:Expr} {env:Env} {x:Value} {c:Expr} {Q:Bool→af→Prop} (h:∀p,Gos w b1 b2 b3 [] Γ p (asI tgt env x c) L fun r L'=>∃b,r= .ok (.ret (.bool b))∧Q b L'):Tr w b1 b2 b3 Γ (assign tgt env x>>=fun _=>isTrue c env (eval c env)) L Q:=by
  refine Tr.of_gos (enc:=fun b=>.ret (.bool b)) (fun a b e=>by injection e with e;injection e) fun p=>?_
  have:=h p
  unfold asI itT at this
  rw [←R.bindR_eq,←PySem.W.Fast.te17772580674575903948,←PySem.W.Fast.te14044960220447912780,←PySem.W.Fast.te15418851999007992765] at this
  show Gos w b1 b2 b3 [] Γ p (((assign tgt env x).bind fun _=>isTrue c env (eval c env)).bind _) L _
  rw [bS]
  exact this
theorem Tr.asEv {tgt:Expr} {env:Env} {x:Value} {c:Expr} {Q:Value→af→Prop} (h:∀p,Gos w b1 b2 b3 [] Γ p (asE tgt env x c) L fun r L'=>∃v,r= .ok (.ret v)∧Q v L'):Tr w b1 b2 b3 Γ (assign tgt env x>>=fun _=>eval c env) L Q:=by
  refine Tr.of_gos (enc:=.ret) (fun a b e=>by injection e) fun p=>?_
  have:=h p
  unfold asE evT at this
  rw [←R.bindR_eq,←PySem.W.Fast.te17772580674575903948,←PySem.W.Fast.te14044960220447912780] at this
  show Gos w b1 b2 b3 [] Γ p (((assign tgt env x).bind fun _=>eval c env).bind _) L _
  rw [bS]
  exact this
theorem Tr.cl {f:Value} {vs:List Value} {Q:Value→af→Prop} (h:∀p,Gos w b1 b2 b3 [] Γ p (clT f vs) L fun r L'=>∃v,r= .ok (.ret v)∧Q v L'):Tr w b1 b2 b3 Γ (PySem.call f vs) L Q:=by
  refine Tr.of_gos (enc:=.ret) (fun a b e=>by injection e) fun p=>?_
  have e:(PySem.call f vs).bind (fun a=>.pure (.done (.ret a)))=clT f vs:=by
    unfold PySem.call PySem.runValue PySem.run clT
    show (S8 (S8 _ _) _)=_
    simp only [S8]
    congr 1
    funext r
    rcases r with e | f
    · rfl
    · cases f<;>rfl
  rw [e];exact h p
end
noncomputable def xx (P:Params) (e:Nat→Nat):Nat→List (PySem.Str × Value)→List DictEntry
  | _,[]=> []
  | i,q::l=>aE P q.1 (e i) q.2::xx P e (i+1) l
theorem lB {P:Pm} {E:bX} {h:Heap} {o0 o':Obj} {f:Obj→Obj} (hu:E.upd= []) (hn:E.news= [o']) (hf0:o0.isFreed=false) (hf:f o0=o') (hfree:o'.isFreed=false):bF P E h ((h.push o0).update h.objs.size f):=by
  unfold bF
  rw [hu,hn]
  refine ⟨by rw [E2,M3];rfl,fun b o e _=>(Y2 _ _ (Nat.ne_of_gt (P4 e))).trans (B1 _ e),fun _ hq=>(nomatch hq),fun i z hz=>?_⟩
  match i,hz with
  | 0,hz=>
    cases hz
    rw [←hf]
    exact M2 f (B2 _ hf0) (by rw [hf];exact hfree)
  | n+1,hz=>simp at hz
theorem lA {P:Pm} {E:bX} {h:Heap} {o0 o' y:Obj} {f:Obj→Obj} (hu:E.upd= []) (hn:E.news= [o',y]) (hf0:o0.isFreed=false) (hf:f o0=o') (hfree:o'.isFreed=false) (hy:y.isFreed=false):bF P E h (((h.push o0).update h.objs.size f).push y):=by
  unfold bF
  rw [hu,hn]
  refine ⟨by rw [M3,E2,M3];rfl,fun b o e _=>B1 _ ((Y2 _ _ (Nat.ne_of_gt (P4 e))).trans (B1 _ e)),fun _ hq=>(nomatch hq),fun i z hz=>?_⟩
  match i,hz with
  | 0,hz=>
    cases hz
    rw [←hf]
    exact B1 _ (M2 f (B2 _ hf0) (by rw [hf];exact hfree))
  | 1,hz=>
    cases hz
    have:=B2 ((h.push o0).update h.objs.size f) hy
    rw [E2,M3] at this
    exact this
  | n+2,hz=>simp at hz
theorem dd {P:Pm} {E:bX} {h:Heap} {y:Obj} (hu:E.upd= []) (hn:E.news= [y]) (hy:y.isFreed=false):bF P E h (h.push y):=by
  unfold bF
  rw [hu,hn]
  refine ⟨by rw [M3];rfl,fun b o e _=>B1 _ e,fun _ hq=>(nomatch hq),fun i z hz=>?_⟩
  match i,hz with
  | 0,hz=>
    cases hz
    exact B2 h hy
  | n+1,hz=>simp at hz
noncomputable def lv:List Value→Nat
  | []=>0
  | _::_=>1
theorem g6 (vs:List Value):Obj.mapSeq (·++(⟨vs⟩:Array Value)) {cls:=.type "list",data:=.seq #[] 0}=lst vs (lv vs):=by
  show (⟨_,_,.seq (#[]++(⟨vs⟩:Array Value)) (if ((#[]++(⟨vs⟩:Array Value)).size==(#[]:Array Value).size)=true then 0 else 0+1),_⟩:Obj)=_
  have e:(#[]++(⟨vs⟩:Array Value))=⟨vs⟩:=by simp
  rw [e]
  cases vs with
  | nil=>rfl
  | cons x vs=>rfl
theorem hP {prog:Program} {w:World} {A:Around} {s:Shared} {R:Result→Shared→Prop} {l:Nat} (o:Obj) (T:String) (vs:List Value) (n:Nat) (hT:T="list"∨T="tuple") (hc:o.cls= .type T) (hd:o.data= .seq ⟨vs⟩ n) (hl:vs.length≤1000) (ho:s.heap.get? l=some o)
    (hR:R (.ok (.ret (.ref s.heap.objs.size))) {s with heap:=(s.heap.push {cls:=.type "list",data:=.seq ([]:List Value).toArray}).update s.heap.objs.size (Obj.mapSeq (·++(⟨vs⟩:Array Value)))}):
    codeAny (model prog w) A (.builtin "proto.collect" ⟨[.ref l],[]⟩) R s:=by
  refine codeAny_builtin F.entry_proto_collect ?_
  rw [Around.under_plainId F.plain_proto_collect _]
  show wpAny _ A.in1 (newList []>>=fun l'=>again (.builtin "list.__iadd__" ⟨[l',.ref l],[]⟩)) _ _ s
  refine C0 (wpAny_newObj_type ?_)
  refine I0 ⟨plainId_quiet F.plain_list_iadd _,codeAny_builtin F.entry_list_iadd ?_⟩
  rw [Around.under_plainId F.plain_list_iadd _]
  have hS:(s.heap.push {cls:=.type "list",data:=.seq ([]:List Value).toArray}).get? s.heap.objs.size=some {cls:=.type "list",data:=.seq #[] 0}:=B2 _ rfl
  exact wpAny_extend_seq (R:=R) (hsz:=by show vs.length≤sizeLine;unfold sizeLine;exact lk hl rfl) (A:=A)
    (s:={s with heap:=s.heap.push {cls:=.type "list",data:=.seq ([]:List Value).toArray}}) _ l _ 0 hT hS (B1 _ ho) hc hd hR
theorem aV {P:Pm} {j l:Nat} (o:Obj) (T:String) (vs:List Value) (n z:Nat) (hT:T="list"∨T="tuple") (hc:o.cls= .type T) (hd:o.data= .seq ⟨vs⟩ n) (hl:vs.length≤1000) (hj:P.adr j=l:=by rfl):
    aC P {code:=.builtin "proto.collect" ⟨[.ref l],[]⟩,need:= [(j,o)],news:= [lst vs (lv vs)],res:=.ok (.ret (.ref z)),sz:=some z}:=by
  refine az fun A s hh _ hn _ hz _=>?_
  have ho:s.heap.get? l=some o:=by have:=hn _ (.head _);rw [hj] at this;exact this
  have hz:=hz z rfl
  subst hz
  exact hP o T vs n hT hc hd hl ho ⟨rfl,_,rfl,lB rfl rfl rfl (g6 vs) rfl⟩
theorem jL {P:Pm} {j l:Nat} (vs:List Value) (n z:Nat) (hl:vs.length≤1000) (hj:P.adr j=l:=by rfl):
    aC P {code:=.call (.builtin "tuple.__new__") ⟨[.type "tuple",.ref l],[]⟩,need:= [(j,lst vs n)],news:= [lst vs (lv vs),aS vs],res:=.ok (.ret (.ref (z+1))),sz:=some z}:=by
  refine az fun A s hh _ hn _ hz _=>?_
  have ht:s.heap.get? l=some (lst vs n):=by have:=hn _ (.head _);rw [hj] at this;exact this
  have hz:=hz z rfl
  subst hz
  refine M1 (by decide+kernel) F.entry_tuple_new ?_
  rw [F.newCall_tuple_1]
  refine I0 ?_
  obtain ⟨hp,g,d,tk,os⟩:=s
  have hsub:=sub_tuple_self
  have hinit:=init_tuple_lookup
  have hmh:=madeHere_tuple
  have hT:Shared.TypeIs ⟨hp,g,d,tk,os⟩ (.ref l) "list":=⟨_,ht,rfl⟩
  have hcol:∀{A':Around} {Q:List Value→Shared→Prop} {E:Value→Shared→Prop},Q vs ⟨(hp.push {cls:=.type "list",data:=.seq ([]:List Value).toArray}).update hp.objs.size (Obj.mapSeq (·++(⟨vs⟩:Array Value))),g,d,tk,os⟩→wpAny (model P.prog P.w) A' (collect (.ref l)) Q E ⟨hp,g,d,tk,os⟩:=by
    intro A' Q E hq
    unfold collect
    refine C0 (wpAny_runValue (hP _ "list" vs n (.inl rfl) rfl rfl hl ht ?_))
    have hS:(hp.push {cls:=.type "list",data:=.seq ([]:List Value).toArray}).get? hp.objs.size=some {cls:=.type "list",data:=.seq #[] 0}:=B2 _ rfl
    have hS₂:=M2 (Obj.mapSeq (·++(⟨vs⟩:Array Value))) hS (by rw [g6];rfl)
    rw [g6] at hS₂
    show wpAny _ A' (load hp.objs.size>>=_) _ _ _
    exact C0 (wpAny_load hS₂ (I0 hq))
  wp_walk using AutoSeq1.wpAny_loadPart' ht,wpAny_typeOf hT,hcol
  rw [if_neg (by simp only [E5];unfold sizeLine;lia)]
  simp only [newObjAsIs]
  refine C0 (wpAny_alloc (I0 (I0 ⟨?_,_,rfl,lA rfl rfl rfl (g6 vs) rfl rfl⟩)))
  simp only [E2,M3]
noncomputable def clr (n:Nat):List Value→Nat
  | []=>n
  | _::_=>n+1
theorem kQ {P:Pm} {j l:Nat} (vs:List Value) (n:Nat) (hl:vs.length≤1000) (hj:P.adr j=l:=by rfl):
    aC P {code:=.call (.builtin "list.clear") ⟨[.ref l],[]⟩,need:= [(j,lst vs n)],upd:= [(j,lst [] (clr n vs))],res:=.ok (.ret .none)}:=by
  refine az fun A s _ _ hn _ _ _=>?_
  have ho:s.heap.get? l=some (lst vs n):=by have:=hn _ (.head _);rw [hj] at this;exact this
  refine b0 F.slot_list_clear (ay ho rfl) F.entry_list_clear (F.args_list_clear_1 _) ((AutoSeq1.list_clear_list_0 l ⟨vs⟩ n (by show vs.length≤sizeLine;unfold sizeLine;exact lk hl rfl)).inModel _ _) ⟨ho,rfl,_,rfl,bH hj rfl rfl ho ?_ rfl⟩
  cases vs<;>rfl
theorem uY {prog:Program} {w:World} {A:Around} {s:Shared} {id:String} {b:Builtin} {args:List Value} {R:Result→Shared→Prop} (hk:builtinKind id=none) (hp:plainId id=true)
    (hb:entryFor table id=some b) (ha:argsOk id ⟨args,[]⟩)
    (hc:wpAny (model prog w) A.in1 (b ⟨args,[]⟩) (fun fin s'=>match fin with | .done f=>R (.ok f) s' | .again c'=>c'.quiet=true∧codeAny (model prog w) A c' R s') (fun e s'=>R (.error e) s') s):codeAny (model prog w) A (.call (.builtin id) ⟨args,[]⟩) R s:=by
  refine M1 hp hb ?_
  simp only [checkBuiltinCall,hk]
  cases hsig:Manifest.signature? id with
  | none=>exact I0 hc
  | some sig=>
    simp only [argsOk,hsig] at ha
    have h2:Bind.checkArgs id sig ⟨args,[]⟩=pure ():=ha
    show wpAny _ A.in1 (Bind.checkArgs id sig ⟨args,[]⟩) _ _ s
    rw [h2]
    exact I0 hc
theorem jY {prog:Program} {w:World} {A:Around} {s:Shared} {R:Result→Shared→Prop} {T id:String} {B:Builtin} {v:Value} {n:Int} {S:Spec} (hT:s.TypeIs v T) (slot:Slot T "__len__" id)
    (entry:entryFor table id=some B) (args:argsOk id ⟨[v],[]⟩) (g:Meets (B ⟨[v],[]⟩) S)
    (hS:∀A' R',R' (.ok (.ret (.int n s.toks))) {s with toks:=s.toks+1}→S A' R' s) (h0:¬n < 0) (hfit:¬n≥2 ^ 63)
    (h:R (.ok (.ret (.int n (s.toks+1)))) {s with toks:=s.toks+1+1}):codeAny (model prog w) A (.call (.builtin "len") ⟨[v],[]⟩) R s:=by
  refine uY kind_len plain_len entry_len (args_len1 _) ?_
  unfold Builtin.«len»
  refine C0 (m:=oneArg "len" _) (I0 ?_)
  refine C0 (m:=callSpecial? v (Str.ofString "__len__")) (wpAny_callSpecial?_slot (name:=Str.ofString "__len__") hT slot (call_meets slot hT entry args g (hS _ _ ?_)))
  show wpAny _ _ _ _ _ {s with toks:=s.toks+1}
  refine C0 (wpAny_holding (I0 ?_))
  refine C0 (wpAny_letGo ?_)
  show wpAny _ _ (if n < 0 then _ else _) _ _ _
  rw [if_neg h0]
  show wpAny _ _ (if n≥2 ^ 63 then _ else _) _ _ _
  rw [if_neg hfit]
  exact C0 (wpAny_mkInt (I0 h))
theorem eL {P:Pm} {j l:Nat} (vs:List Value) (z:Nat) (hl:vs.length≤1000) (hj:P.adr j=l:=by rfl):
    aC P {code:=.call (.builtin "len") ⟨[.ref l],[]⟩,need:= [(j,aS vs)],res:=.ok (.ret (.int (vs.length:Nat) (z+1))),toks:=2,tk:=some z}:=by
  refine az fun A s _ _ hn _ _ htk=>?_
  have ho:s.heap.get? l=some (aS vs):=by have:=hn _ (.head _);rw [hj] at this;exact this
  have htk:=htk z rfl
  subst htk
  refine jY (n:=(vs.length:Nat)) (ay ho rfl) F.slot_tuple_len F.entry_tuple_len (F.args_tuple_len_1 _) (AutoSeq1.tuple___len___tuple_0 l ⟨vs⟩ 0) (fun A' R' h=>⟨ho,h⟩) (by lia) (by lia) ⟨rfl,_,rfl,aG rfl rfl⟩
theorem bR {P:Pm} {j l:Nat} (vs:List Value) (n z:Nat) (hl:vs.length≤1000) (hj:P.adr j=l:=by rfl):
    aC P {code:=.call (.builtin "len") ⟨[.ref l],[]⟩,need:= [(j,lst vs n)],res:=.ok (.ret (.int (vs.length:Nat) (z+1))),toks:=2,tk:=some z}:=by
  refine az fun A s _ _ hn _ _ htk=>?_
  have ho:s.heap.get? l=some (lst vs n):=by have:=hn _ (.head _);rw [hj] at this;exact this
  have htk:=htk z rfl
  subst htk
  refine jY (n:=(vs.length:Nat)) (ay ho rfl) F.slot_list_len F.entry_list_len (F.args_list_len_1 _) (AutoListH.list___len___list_0 l ⟨vs⟩ n) (fun A' R' h=>⟨ho,h⟩) (by lia) (by lia) ⟨rfl,_,rfl,aG rfl rfl⟩
section
variable {w:World} {b1 b2 b3:Bool} {Γ:Ctx} {L M F:af} {bel:ag→Prop}
structure Iter {α:Type} (w:World) (b1 b2 b3:Bool) (it:Nat) (items:List α) (kl:α→Value→Prop) (src:Nat→af) (fin:af):Prop where
  next:∀i x,items[i]?=some x→∀c below,below.length≤96→Tr w b1 b2 b3 (cx c below) (pyNext (.ref it)) (src i) fun o L'=>∃v,o=some v∧kl x v∧L'=src (i+1)
  stop:∀c below,below.length≤96→Tr w b1 b2 b3 (cx c below) (pyNext (.ref it)) (src items.length) fun o L'=>o=none∧L'=fin
  self:∀c below,below.length≤96→Tr w b1 b2 b3 (cx c below) (pyIter (.ref it)) (src 0) fun v L'=>v= .ref it∧L'=src 0
theorem Tr.again {c:Code} {Q:Fin→af→Prop} (h:Q (.again c) L):Tr w b1 b2 b3 Γ (PySem.again c) L Q:=Tr.pure (a:=Fin.again c) h
theorem Con.blockNil {env:Env} {Q:Result→af→Prop} (h:Q (.ok .next) L):Con w b1 b2 b3 bel (.block [] env) L Q:=by
  refine Con.done (t:=do return .done (←(execs [] env).onRaise (fun x=>do noteFrame x env;theTreesLotGoes x))) rfl fun below hb=>?_
  exact Tr.bind (Tr.onRaise (Tr.nil (Tr.pure h)))
inductive FoQ (s:af) (I:af→Prop) (Q:Result→af→Prop) (f:Flow) (L:af):Prop
  | inl (_:(f= .next∨f= .cont)∧∃L2,L.Perm (s++L2)∧I L2):FoQ s I Q f L
  | inr (_:(f= .brk∧Q (.ok .next) L)∨∃v,f= .ret v∧Q (.ok (.ret v)) L):FoQ s I Q f L
inductive WhQ (n:Nat) (I:Nat→af→Prop) (Q:Result→af→Prop) (f:Flow) (L:af):Prop
  | inl (_:(f= .next∨f= .cont)∧∃m,m < n∧I m L):WhQ n I Q f L
  | inr (_:(f= .brk∧Q (.ok .next) L)∨∃v,f= .ret v∧Q (.ok (.ret v)) L):WhQ n I Q f L
theorem dS {x:Str} {px:Pos} {it:Nat} {body:List Stmt} {env:Env} {α:Type} {items:List α} {kl:α→Value→Prop} {src:Nat→af} {fin:af} {Q:Result→af→Prop} (I:Nat→af→Prop) (hb:∀l,bel l→l.length≤96)
    (hit:Iter w b1 b2 b3 it items kl src fin)
    (hbody:∀i q,items[i]?=some q→∀v,kl q v→∀L,I i L→∀below,bel below→Tr w b1 b2 b3 (cx (.forLoop (.Name x px) (.ref it) body [] env) below) (assign (.Name x px) env v>>=fun _=>execs body env) (src (i+1)++L)
      (FoQ (src (i+1)) (I (i+1)) Q))
    (hend:∀L,I items.length L→Q (.ok .next) (fin++L)):∀n i L,items.length=i+n→I i L→Con w b1 b2 b3 bel (.forLoop (.Name x px) (.ref it) body [] env) (src i++L) Q
  | 0,i,L,hn,hI=>by
    have hi:i=items.length:=by exact hn.symm
    subst hi
    refine Con.done (t:=(forTurn (.Name x px) (.ref it) body [] env).onRaise (fun x=>do noteFrame x env;theTreesLotGoes x)) rfl fun below ao=>Tr.onRaise ?_
    unfold forTurn
    refine Tr.bind (Tr.standAt (Tr.bind (Tr.onRaise ((hit.stop _ below (hb _ ao)).use (F:=L) (E0 _) ?_))))
    rintro o L' ⟨rfl,rfl⟩
    exact Tr.again ⟨rfl,Con.blockNil (hend L hI)⟩
  | n+1,i,L,hn,hI=>by
    obtain ⟨q,hq⟩:∃q,items[i]?=some q:=⟨items[i],O0 (by lia)⟩
    refine Con.done (t:=(forTurn (.Name x px) (.ref it) body [] env).onRaise (fun x=>do noteFrame x env;theTreesLotGoes x)) rfl fun below ao=>Tr.onRaise ?_
    unfold forTurn
    refine Tr.bind (Tr.standAt (Tr.bind (Tr.onRaise ((hit.next i q hq _ below (hb _ ao)).use (F:=L) (E0 _) ?_))))
    rintro o L' ⟨v,rfl,hrel,rfl⟩
    have H:=hbody i q hq v hrel L hI below ao
    show Tr w b1 b2 b3 _ (letOwnedTupleGo (.Name x px) (.ref it) v>>=fun _=>assign (.Name x px) env v>>=fun _=>execs body env>>=_) _ _
    have e:∀g:Flow→Sem Fin,(assign (.Name x px) env v>>=fun _=>execs body env>>=g)=((assign (.Name x px) env v>>=fun _=>execs body env)>>=g):=fun g=>(bS _ _ _).symm
    rw [e]
    refine Tr.bind (m:=letOwnedTupleGo (.Name x px) (.ref it) v) (Tr.pure (Tr.bind (H.mono ?_)))
    rintro f L' (⟨hf,L'',hp,hI'⟩ | ⟨rfl,hq⟩ | ⟨v',rfl,hq⟩)
    · have nx:=(dS I hb hit hbody hend n (i+1) L'' (by lia) hI').perm hp.symm
      rcases hf with rfl | rfl<;>exact Tr.again ⟨rfl,nx⟩
    · exact Tr.pure hq
    · exact Tr.pure hq
theorem ia {test:Expr} {body orelse:List Stmt} {env:Env} {Q:Result→af→Prop} (I:Nat→af→Prop)
    (h:∀n L,I n L→∀below,bel below→Tr w b1 b2 b3 (cx (.whileLoop test body orelse env) below) (isTrue test env (eval test env)) L fun b L1=>match b with
      | true=>Tr w b1 b2 b3 (cx (.whileLoop test body orelse env) below) (execs body env) L1 (WhQ n I Q)
      | false=>Tr w b1 b2 b3 (cx (.whileLoop test body orelse env) below) (execs orelse env) L1 fun f L'=>Q (.ok f) L'):∀n L,I n L→Con w b1 b2 b3 bel (.whileLoop test body orelse env) L Q:=by
  intro n
  induction n using Nat.strongRecOn with
  | ind n ih=>
    intro L hI
    refine Con.done (t:=(whileTurn test body orelse env).onRaise (fun x=>do noteFrame x env;theTreesLotGoes x)) rfl fun below ao=>Tr.onRaise ?_
    unfold whileTurn
    refine Tr.bind ((h n L hI below ao).mono ?_)
    intro b L1 hb
    cases b with
    | true=>
      refine Tr.bind (hb.mono ?_)
      rintro f L' (⟨hf,m,hm,hI'⟩ | ⟨rfl,hq⟩ | ⟨v',rfl,hq⟩)
      · rcases hf with rfl | rfl<;>exact Tr.again ⟨rfl,ih m hm L' hI'⟩
      · exact Tr.pure hq
      · exact Tr.pure hq
    | false=>exact Tr.bind (hb.mono fun f L' q=>Tr.pure q)
theorem vL {test:Expr} {body orelse:List Stmt} {pos:Pos} {env:Env} {Q:Flow→af→Prop} (h:Tr w b1 b2 b3 Γ (isTrue test env (eval test env)) L fun b L1=>match b with
      | true=>Tr w b1 b2 b3 Γ (execs body env) L1 Q
      | false=>Tr w b1 b2 b3 Γ (execs orelse env) L1 Q):Tr w b1 b2 b3 Γ (exec (.If test body orelse pos) env) L Q:=by
  rw [PySem.exec_If]
  refine Tr.bind (Tr.standAt (Tr.bind (h.mono ?_)))
  intro b L1 hb
  cases b<;>exact hb
theorem jV {elt:Expr} {tgt iter c:Expr} {scope:Scope} {pos:Pos} {it acc:Value} {env:Env}:compTurn (.ListComp elt [⟨tgt,iter,[c],0⟩] scope pos) 0 it acc env=(do
    standAt iter.pos
    match ←pyNext it with
    | none=>pure (.done .next)
    | some v=>
      letOwnedTupleGo tgt it v
      (assign tgt env v>>=fun _=>isTrue c env (eval c env))>>=fun b=>match b with
        | true=>do let x ←eval elt env;let _ ←call (.builtin "list.append") [acc,x];again (.compLoop (.ListComp elt [⟨tgt,iter,[c],0⟩] scope pos) 0 it acc env)
        | false=>again (.compLoop (.ListComp elt [⟨tgt,iter,[c],0⟩] scope pos) 0 it acc env)):=by
  unfold compTurn
  simp only [A8,X5,B9,bne_self_eq_false,J2,↓reduceIte,bind_assoc,M9,P7,pure_bind]
  congr 1
  funext _
  congr 1
  funext o
  cases o with
  | none=>rfl
  | some v=>
    dsimp only
    congr 1
    funext _
    congr 1
    funext _
    congr 1
    funext b
    cases b<;>simp
theorem jW {elt:Expr} {tgt iter:Expr} {scope:Scope} {pos:Pos} {it acc:Value} {env:Env}:compTurn (.ListComp elt [⟨tgt,iter,[],0⟩] scope pos) 0 it acc env=(do
    standAt iter.pos
    match ←pyNext it with
    | none=>pure (.done .next)
    | some v=>
      letOwnedTupleGo tgt it v
      (assign tgt env v>>=fun _=>eval elt env)>>=fun x=>do let _ ←call (.builtin "list.append") [acc,x];again (.compLoop (.ListComp elt [⟨tgt,iter,[],0⟩] scope pos) 0 it acc env)):=by
  unfold compTurn
  simp only [A8,X5,B9,bne_self_eq_false,J2,↓reduceIte,bind_assoc,P7,pure_bind]
  rfl
noncomputable abbrev zC (w:World) (b1 b2 b3:Bool) (acc ep:Nat) (vs:List Value) (x:Value) (c:Code) (below:ag) (p:Pos) (N tk:Nat):Run:=
  rn w b1 b2 b3 [(acc,lst vs ep)] N tk [{code:=.call (.builtin "list.append") ⟨[.ref acc,x],[]⟩,need:= [(0,lst vs ep)],upd:= [(0,lst (vs++ [x]) (ep+1))],res:=.ok (.ret .none)}] [] (cx c below) p (clT (.builtin "list.append") [.ref acc,x]) [1] [0]
theorem rx (w:World) (b1 b2 b3:Bool) (acc ep:Nat) (vs:List Value) (x:Value) (c:Code) (below:ag) (p:Pos) (N tk:Nat):(zC w b1 b2 b3 acc ep vs x c below p N tk).lhs=(zC w b1 b2 b3 acc ep vs x c below p N tk).rhs (.ok (.ret .none)) 0 0 [(acc,lst (vs++ [x]) (ep+1))]:=by kernel_rfl!
theorem ru {c:Code} {below:ag} {acc ep:Nat} {vs:List Value} {x:Value} (hl:vs.length≤1000) (hb:below.length≤100):Tr w b1 b2 b3 (cx c below) (call (.builtin "list.append") [.ref acc,x]) [(acc,lst vs ep)] fun r L'=>r= .none∧L'= [(acc,lst (vs++ [x]) (ep+1))]:=
  Tr.cl fun p=>gW (F:= []) (fun N tk=>_) _ _ _ _ (by rw [U0]) aa hb (fun N tk hN hap=>a9 (bz vs ep x hl) a8) (fun N tk=>rx w b1 b2 b3 acc ep vs x c below p N tk) (fun _ _=>rfl) fun N tk=>⟨_,rfl,rfl,by rw [U0]⟩
theorem Tr.ask {Q:Setting→af→Prop} (h:Q ⟨pw,(W3 w b1 b2 b3).params⟩ L):Tr w b1 b2 b3 Γ PySem.ask L Q:=fun s hs p=>by
  rw [Sem.wp_cmd_ask];exact ⟨L,.refl hs,h⟩
theorem cO {α:Type} {items:List α} {kl:α→Value→Prop} {src:Nat→af} {fin:af} {elt:Expr} {g:Comprehension} {scope:Scope} {pos:Pos} {it:Nat} {acc:Value} {env:Env} {Q:Result→af→Prop} (hb:∀l,bel l→l.length≤96) (hit:Iter w b1 b2 b3 it items kl src fin) (hg:g.is_async=0)
    (hp:(src 0++F).Perm L) (h:Con w b1 b2 b3 bel (.compLoop (.ListComp elt [g] scope pos) 0 (.ref it) acc env) L Q):Con w b1 b2 b3 bel (.compStart (.ListComp elt [g] scope pos) 0 (.ref it) acc env) L Q:=by
  refine Con.done (t:=(compStart (.ListComp elt [g] scope pos) 0 (.ref it) acc env).onRaise (fun x=>do noteFrame x env;standAt theWindowsPlace)) rfl fun below ao=>Tr.onRaise ?_
  unfold compStart
  rw [show (((clausesOf (.ListComp elt [g] scope pos))[0]?).elim false fun x=>x.is_async !=0)=false by show (g.is_async !=0)=false;rw [hg];rfl]
  simp only [J2,if_false]
  refine Tr.bind (Tr.ask ?_)
  dsimp only
  split
  · exact Tr.again ⟨rfl,h⟩
  · refine Tr.bind (Tr.rule ?_)
    show Tr w b1 b2 b3 _ (standAt g.iter.pos>>=fun _=>pyIter (.ref it)>>=fun v=>PySem.again (.compLoop (.ListComp elt [g] scope pos) 0 v acc env)) L _
    refine Tr.bind (Tr.standAt (Tr.bind ((hit.self _ below (hb _ ao)).use (F:=F) hp ?_)))
    rintro v L' ⟨rfl,rfl⟩
    exact (Tr.again ⟨rfl,h⟩).perm hp.symm
theorem g4 {x:Str} {px:Pos} {elt iter c:Expr} {scope:Scope} {pos:Pos} {it acc:Nat} {env:Env} {α:Type} {items:List α} {kl:α→Value→Prop} {src:Nat→af} {fin:af} {Q:Result→af→Prop} (I:Nat→List Value→af→Prop) (hb:∀l,bel l→l.length≤96) (hlen:items.length≤900)
    (hit:Iter w b1 b2 b3 it items kl src fin)
    (hbody:∀i q,items[i]?=some q→∀v,kl q v→∀vs L,I i vs L→∀below,bel below→Tr w b1 b2 b3 (cx (.compLoop (.ListComp elt [⟨.Name x px,iter,[c],0⟩] scope pos) 0 (.ref it) (.ref acc) env) below) (assign (.Name x px) env v>>=fun _=>isTrue c env (eval c env)) (src (i+1)++L)
      fun b L1=>match b with
        | true=>Tr w b1 b2 b3 (cx (.compLoop (.ListComp elt [⟨.Name x px,iter,[c],0⟩] scope pos) 0 (.ref it) (.ref acc) env) below) (eval elt env) L1 fun y L'=>∃L'',L'.Perm (src (i+1)++L'')∧I (i+1) (vs++ [y]) L''
        | false=>∃L'',L1.Perm (src (i+1)++L'')∧I (i+1) vs L'')
    (hend:∀vs ep L,I items.length vs L→Q (.ok .next) ((acc,lst vs ep)::(fin++L))):∀n i vs ep L,items.length=i+n→vs.length≤i→I i vs L→Con w b1 b2 b3 bel (.compLoop (.ListComp elt [⟨.Name x px,iter,[c],0⟩] scope pos) 0 (.ref it) (.ref acc) env) ((acc,lst vs ep)::(src i++L)) Q
  | 0,i,vs,ep,L,hn,hvs,hI=>by
    have hi:i=items.length:=by exact hn.symm
    subst hi
    refine Con.done (t:=(compTurn (.ListComp elt [⟨.Name x px,iter,[c],0⟩] scope pos) 0 (.ref it) (.ref acc) env).onRaise (fun x=>do noteFrame x env;theTreesLotGoes x)) rfl fun below ao=>Tr.onRaise ?_
    rw [jV]
    refine Tr.bind (Tr.standAt (Tr.bind ((hit.stop _ below (hb _ ao)).use (F:=(acc,lst vs ep)::L) A2 ?_)))
    rintro o L' ⟨rfl,rfl⟩
    exact (Tr.pure (a:=Fin.done .next) (hend vs ep L hI)).perm A2.symm
  | n+1,i,vs,ep,L,hn,hvs,hI=>by
    obtain ⟨q,hq⟩:∃q,items[i]?=some q:=⟨items[i],O0 (by lia)⟩
    refine Con.done (t:=(compTurn (.ListComp elt [⟨.Name x px,iter,[c],0⟩] scope pos) 0 (.ref it) (.ref acc) env).onRaise (fun x=>do noteFrame x env;theTreesLotGoes x)) rfl fun below ao=>Tr.onRaise ?_
    rw [jV]
    refine Tr.bind (Tr.standAt (Tr.bind ((hit.next i q hq _ below (hb _ ao)).use (F:=(acc,lst vs ep)::L) A2 ?_)))
    rintro o L' ⟨v,rfl,hrel,rfl⟩
    refine Tr.bind (m:=letOwnedTupleGo (.Name x px) (.ref it) v) (Tr.pure (Tr.bind ((hbody i q hq v hrel vs L hI below ao).use (F:= [(acc,lst vs ep)]) ?_ ?_)))
    · exact U3.trans (show ((acc,lst vs ep)::(src (i+1)++L)).Perm (src (i+1)++(acc,lst vs ep)::L) from A2.symm)
    · intro b L1 hb1
      cases b with
      | true=>
        refine Tr.bind (hb1.use (F:= [(acc,lst vs ep)]) (E0 _) ?_)
        rintro y L2 ⟨L'',hp,hI'⟩
        refine Tr.bind ((ru (vs:=vs) (x:=y) (by lia) (M0 (hb _ ao) (by decide))).use (F:=L2) U3 ?_)
        rintro r L3 ⟨rfl,rfl⟩
        refine Tr.again ⟨rfl,?_⟩
        exact (g4 I hb hlen hit hbody hend n (i+1) (vs++ [y]) (ep+1) L'' (by lia) (by rw [N0];exact A3 hvs) hI').perm (List.Perm.cons _ hp.symm)
      | false=>
        obtain ⟨L'',hp,hI'⟩:=hb1
        refine Tr.again ⟨rfl,?_⟩
        exact (g4 I hb hlen hit hbody hend n (i+1) vs ep L'' (by lia) (by lia) hI').perm ((List.Perm.cons _ hp.symm).trans (show ([(acc,lst vs ep)]++L1).Perm (L1++ [(acc,lst vs ep)]) from U3))
theorem g5 {x:Str} {px:Pos} {elt iter:Expr} {scope:Scope} {pos:Pos} {it acc:Nat} {env:Env} {α:Type} {items:List α} {kl:α→Value→Prop} {src:Nat→af} {fin:af} {Q:Result→af→Prop} (I:Nat→List Value→af→Prop) (hb:∀l,bel l→l.length≤96) (hlen:items.length≤900)
    (hit:Iter w b1 b2 b3 it items kl src fin)
    (hbody:∀i q,items[i]?=some q→∀v,kl q v→∀vs L,I i vs L→∀below,bel below→Tr w b1 b2 b3 (cx (.compLoop (.ListComp elt [⟨.Name x px,iter,[],0⟩] scope pos) 0 (.ref it) (.ref acc) env) below) (assign (.Name x px) env v>>=fun _=>eval elt env) (src (i+1)++L)
      fun y L'=>∃L'',L'.Perm (src (i+1)++L'')∧I (i+1) (vs++ [y]) L'')
    (hend:∀vs ep L,I items.length vs L→Q (.ok .next) ((acc,lst vs ep)::(fin++L))):∀n i vs ep L,items.length=i+n→vs.length≤i→I i vs L→Con w b1 b2 b3 bel (.compLoop (.ListComp elt [⟨.Name x px,iter,[],0⟩] scope pos) 0 (.ref it) (.ref acc) env) ((acc,lst vs ep)::(src i++L)) Q
  | 0,i,vs,ep,L,hn,hvs,hI=>by
    have hi:i=items.length:=by exact hn.symm
    subst hi
    refine Con.done (t:=(compTurn (.ListComp elt [⟨.Name x px,iter,[],0⟩] scope pos) 0 (.ref it) (.ref acc) env).onRaise (fun x=>do noteFrame x env;theTreesLotGoes x)) rfl fun below ao=>Tr.onRaise ?_
    rw [jW]
    refine Tr.bind (Tr.standAt (Tr.bind ((hit.stop _ below (hb _ ao)).use (F:=(acc,lst vs ep)::L) A2 ?_)))
    rintro o L' ⟨rfl,rfl⟩
    exact (Tr.pure (a:=Fin.done .next) (hend vs ep L hI)).perm A2.symm
  | n+1,i,vs,ep,L,hn,hvs,hI=>by
    obtain ⟨q,hq⟩:∃q,items[i]?=some q:=⟨items[i],O0 (by lia)⟩
    refine Con.done (t:=(compTurn (.ListComp elt [⟨.Name x px,iter,[],0⟩] scope pos) 0 (.ref it) (.ref acc) env).onRaise (fun x=>do noteFrame x env;theTreesLotGoes x)) rfl fun below ao=>Tr.onRaise ?_
    rw [jW]
    refine Tr.bind (Tr.standAt (Tr.bind ((hit.next i q hq _ below (hb _ ao)).use (F:=(acc,lst vs ep)::L) A2 ?_)))
    rintro o L' ⟨v,rfl,hrel,rfl⟩
    refine Tr.bind (m:=letOwnedTupleGo (.Name x px) (.ref it) v) (Tr.pure (Tr.bind ((hbody i q hq v hrel vs L hI below ao).use (F:= [(acc,lst vs ep)]) ?_ ?_)))
    · exact U3.trans (show ((acc,lst vs ep)::(src (i+1)++L)).Perm (src (i+1)++(acc,lst vs ep)::L) from A2.symm)
    · rintro y L2 ⟨L'',hp,hI'⟩
      refine Tr.bind ((ru (vs:=vs) (x:=y) (by lia) (M0 (hb _ ao) (by decide))).use (F:=L2) U3 ?_)
      rintro r L3 ⟨rfl,rfl⟩
      refine Tr.again ⟨rfl,?_⟩
      exact (g5 I hb hlen hit hbody hend n (i+1) (vs++ [y]) (ep+1) L'' (by lia) (by rw [N0];exact A3 hvs) hI').perm (List.Perm.cons _ hp.symm)
end
noncomputable def gA (es:List DictEntry) (fe:Nat) (sl:Array (Option Value)):Obj:=⟨.type "frame",none,.dict ⟨es⟩ fe,sl⟩
noncomputable def FrE (P:Params) (l:List (PySem.Str × Value)) (es:List DictEntry):Prop:=∃e,es=xx P e 0 l
noncomputable def Fr (P:Params) (l:List (PySem.Str × Value)) (F:Obj):Prop:=∃es fe sl,F=gA es fe sl∧FrE P l es
noncomputable def FrV:List (PySem.Str × Value)→List PySem.Str→(List (PySem.Str × Value)→Prop)→Prop
  | l,[],k=>k l
  | l,x::xs,k=>∃v,FrV (l++ [(x,v)]) xs k
noncomputable def FrO (P:Params):List (PySem.Str × Value)→List (List PySem.Str)→Obj→Prop
  | l,[],F=>Fr P l F
  | l,g::gs,F=>Fr P l F∨FrV l g fun l'=>FrO P l' gs F
theorem FrO.of {P:Params} {l:List (PySem.Str × Value)} {F:Obj}:∀{gs:List (List PySem.Str)},Fr P l F→FrO P l gs F
  | [],h=>h
  | _::_,h=>.inl h
theorem gb {n:Nat} (h:n≤96):n≤100:=by exact lk h rfl
theorem oT (w:World) (b1 b2 b3:Bool) {L F M:af} {Q:Result→af→Prop} {κ:K} {Γ:Ctx} {p:Pos} {t:Sem Fin} {hs js:List Nat} {b:Nat} (effs:Nat→Nat→List bX) (r:Nat→Nat→Result) (m:Nat→Nat→Nat) (i:Nat→Nat→Nat) (L':Nat→Nat→af) (hp:(L++F).Perm M) (d:Deep b Γ κ) (hb:b≤100)
    (hE:EffsOk w b1 b2 b3 L effs)
    (hv:∀N tk,(rn w b1 b2 b3 L N tk (effs N tk) κ Γ p t hs js).lhs=(rn w b1 b2 b3 L N tk (effs N tk) κ Γ p t hs js).rhs (r N tk) (m N tk) (i N tk) (L' N tk))
    (hj:∀N tk,qO js (L.length+m N tk)=true) (hQ:∀N tk,Q (r N tk) (L' N tk++F)):Gos w b1 b2 b3 κ Γ p t M Q:=gW effs r m i L' hp d hb hE hv hj hQ
noncomputable def dno (es:List DictEntry) (fe:Nat):Obj:=⟨.type "dict",none,.dict ⟨es⟩ fe,#[]⟩
noncomputable def Dr (P:Params) (l:List (PySem.Str × Value)) (F:Obj):Prop:=∃es fe,F=dno es fe∧FrE P l es
noncomputable def bx (P:Params):List (PySem.Str × Value)→List (List PySem.Str)→Obj→Prop
  | l,[],F=>Dr P l F
  | l,g::gs,F=>Dr P l F∨FrV l g fun l'=>bx P l' gs F
noncomputable def bL (e:Nat→Nat) (m:Nat) (ts:List Nat) (i:Nat):Nat:=match K7 i m with
  | true=>e i
  | false=>ts.getD (i - m) 0
section
variable {P:Params} {l:List (PySem.Str × Value)} {g:List PySem.Str} {gs:List (List PySem.Str)} {x y z:PySem.Str} {a:Nat} {q:Nat × Obj} {A F:Obj} {L X M:af} {G:Prop}
theorem fO (e:Nat→Nat) (fe:Nat) (sl:Array (Option Value)):FrO P l gs (gA (xx P e 0 l) fe sl):=FrO.of ⟨_,fe,sl,rfl,e,rfl⟩
theorem fR (v:Value) (h:FrO P (l++ [(x,v)]) gs F):FrO P l ([x]::gs) F:=.inr ⟨v,h⟩
theorem vP (v u:Value) (h:FrO P (l++ [(x,v)]++ [(y,u)]) gs F):FrO P l ([x,y]::gs) F:=.inr ⟨v,u,h⟩
theorem dO (e:Nat→Nat) (fe:Nat):bx P l gs (dno (xx P e 0 l) fe):=match gs with
  | []=>⟨_,fe,rfl,e,rfl⟩
  | _::_=>.inl ⟨_,fe,rfl,e,rfl⟩
theorem dR (v:Value) (h:bx P (l++ [(x,v)]) gs F):bx P l ([x]::gs) F:=.inr ⟨v,h⟩
theorem aZ (h:FrO P l [] A) (hp:(((a,A)::L)++X).Perm M) (k:∀e fe sl,(((a,gA (xx P e 0 l) fe sl)::L)++X).Perm M→G):G:=
  let ⟨_,fe,sl,e1,e,e2⟩:=h;k e fe sl (by subst e1 e2;exact hp)
theorem jG (h:FrO P l [] A) (hp:((q::(a,A)::L)++X).Perm M) (k:∀e fe sl,((q::(a,gA (xx P e 0 l) fe sl)::L)++X).Perm M→G):G:=
  let ⟨_,fe,sl,e1,e,e2⟩:=h;k e fe sl (by subst e1 e2;exact hp)
theorem cR (h:bx P l [] A) (hp:(((a,A)::L)++X).Perm M) (k:∀e fe,(((a,dno (xx P e 0 l) fe)::L)++X).Perm M→G):G:=
  let ⟨_,fe,e1,e,e2⟩:=h;k e fe (by subst e1 e2;exact hp)
theorem li (h:FrO P l ([x]::gs) F) (k0:FrO P l [] F→G) (k1:∀v,FrO P (l++ [(x,v)]) gs F→G):G:=h.elim k0 fun ⟨v,h⟩=>k1 v h
theorem or2 (h:FrO P l ([x,y]::gs) F) (k0:FrO P l [] F→G) (k1:∀v u,FrO P (l++ [(x,v)]++ [(y,u)]) gs F→G):G:=h.elim k0 fun ⟨v,u,h⟩=>k1 v u h
theorem du (h:bx P l ([x]::gs) F) (k0:bx P l [] F→G) (k1:∀v,bx P (l++ [(x,v)]) gs F→G):G:=h.elim k0 fun ⟨v,h⟩=>k1 v h
end
theorem oU {T0 T1:Type} {p:T0→T1→Prop} {G:Prop} (h:∃a0 a1,p a0 a1) (k:∀a0 a1,p a0 a1→G):G:=let ⟨a0,a1,h⟩:=h;k a0 a1 h
theorem pE {T0 T1 T2:Type} {p:T0→T1→T2→Prop} {G:Prop} (h:∃a0 a1 a2,p a0 a1 a2) (k:∀a0 a1 a2,p a0 a1 a2→G):G:=let ⟨a0,a1,a2,h⟩:=h;k a0 a1 a2 h
theorem ex4 {T0 T1 T2 T3:Type} {p:T0→T1→T2→T3→Prop} {G:Prop} (h:∃a0 a1 a2 a3,p a0 a1 a2 a3) (k:∀a0 a1 a2 a3,p a0 a1 a2 a3→G):G:=let ⟨a0,a1,a2,a3,h⟩:=h;k a0 a1 a2 a3 h
theorem ex5 {T0 T1 T2 T3 T4:Type} {p:T0→T1→T2→T3→T4→Prop} {G:Prop} (h:∃a0 a1 a2 a3 a4,p a0 a1 a2 a3 a4) (k:∀a0 a1 a2 a3 a4,p a0 a1 a2 a3 a4→G):G:=let ⟨a0,a1,a2,a3,a4,h⟩:=h;k a0 a1 a2 a3 a4 h
theorem ex6 {T0 T1 T2 T3 T4 T5:Type} {p:T0→T1→T2→T3→T4→T5→Prop} {G:Prop} (h:∃a0 a1 a2 a3 a4 a5,p a0 a1 a2 a3 a4 a5) (k:∀a0 a1 a2 a3 a4 a5,p a0 a1 a2 a3 a4 a5→G):G:=let ⟨a0,a1,a2,a3,a4,a5,h⟩:=h;k a0 a1 a2 a3 a4 a5 h
theorem ex7 {T0 T1 T2 T3 T4 T5 T6:Type} {p:T0→T1→T2→T3→T4→T5→T6→Prop} {G:Prop} (h:∃a0 a1 a2 a3 a4 a5 a6,p a0 a1 a2 a3 a4 a5 a6) (k:∀a0 a1 a2 a3 a4 a5 a6,p a0 a1 a2 a3 a4 a5 a6→G):G:=let ⟨a0,a1,a2,a3,a4,a5,a6,h⟩:=h;k a0 a1 a2 a3 a4 a5 a6 h
theorem ex8 {T0 T1 T2 T3 T4 T5 T6 T7:Type} {p:T0→T1→T2→T3→T4→T5→T6→T7→Prop} {G:Prop} (h:∃a0 a1 a2 a3 a4 a5 a6 a7,p a0 a1 a2 a3 a4 a5 a6 a7) (k:∀a0 a1 a2 a3 a4 a5 a6 a7,p a0 a1 a2 a3 a4 a5 a6 a7→G):G:=let ⟨a0,a1,a2,a3,a4,a5,a6,a7,h⟩:=h;k a0 a1 a2 a3 a4 a5 a6 a7 h
noncomputable def cK (R:Bool→Run) (b:Bool):K:=(fz (R b).out).κ
noncomputable def cG (R:Bool→Run) (b:Bool):Ctx:=(fz (R b).out).Γ
noncomputable def cP (R:Bool→Run) (b:Bool):Pos:=(fz (R b).out).p
noncomputable def cT (R:Bool→Run) (r:Result) (b:Bool):Sem Fin:=kOf (fz (R b).out) r
structure Stp (w:World) (b1 b2 b3:Bool) (κ:Bool→K) (Γ:Bool→Ctx) (p:Bool→Pos) (t:Bool→Sem Fin) (M:af) (N tk:Nat) (Q:Result→af→Prop):Prop where
  go:∀s,St w s M→s.heap.objs.size=N→s.toks=tk→Goes (model pw (W3 w b1 b2 b3)) (κ b1) (Γ b1) (p b1) (t b1) s fun r s'=>∃L',To w s s' M L'∧Q r L'
structure GoA (w:World) (b1 b2 b3:Bool) (R:Bool→Run) (b:Nat) (r:Result) (L:af) (Q:Result→af→Prop):Prop where
  go:Deep b (cG R b1) (cK R b1)→Gos w b1 b2 b3 (cK R b1) (cG R b1) (cP R b1) (cT R r b1) L Q
noncomputable def rN (w:World) (b2 b3:Bool) (L:af) (N tk:Nat) (effs:List bX) (κ:Bool→K) (Γ:Bool→Ctx) (p:Bool→Pos) (t:Bool→Sem Fin) (hs js:List Nat) (b1:Bool):Run:=rn w b1 b2 b3 L N tk effs (κ b1) (Γ b1) (p b1) (t b1) hs js
noncomputable def rC (w:World) (b2 b3:Bool) (L:af) (N tk:Nat) (effs:List bX) (c:Code) (below:ag) (p:Pos) (hs js:List Nat) (b1:Bool):Run:=rc w b1 b2 b3 L N tk effs c below p hs js
noncomputable def RF (R:Bool→Run) (b:Bool) (r:Result) (m i:Nat) (L':af):Prop:=(R b).lhs=(R b).rhs r m i L'
noncomputable def RA (R:Bool→Run) (b:Bool) (c:Code) (m i:Nat) (L':af):Prop:=(R b).lhsA=(R b).rhsA c m i L'
noncomputable def RL (R:Bool→Run) (b:Bool) (c:Code) (m i:Nat) (L':af) (below:ag):Prop:=((R b).lhsL,(cG R b).below)=((R b).rhsA c m i L',below)
noncomputable def RB (R:Bool→Run) (b:Bool) (c:Code) (m i:Nat) (L':af) (c0:Code) (below:ag):Prop:=((R b).lhsA,(cG R b).code,(cG R b).below)=((R b).rhsA c m i L',c0,below)
section
variable {R:Bool→Run} {b:Bool} {r:Result} {m i:Nat} {L':af} {c c0:Code} {below:ag}
theorem rf (h:((R true).lhs,(R false).lhs)=((R true).rhs r m i L',(R false).rhs r m i L')):RF R b r m i L':=by
  cases b with
  | true=>exact congrArg Prod.fst h
  | false=>exact congrArg Prod.snd h
theorem ra (h:((R true).lhsA,(R false).lhsA)=((R true).rhsA c m i L',(R false).rhsA c m i L')):RA R b c m i L':=by
  cases b with
  | true=>exact congrArg Prod.fst h
  | false=>exact congrArg Prod.snd h
theorem rl (h:(((R true).lhsL,(cG R true).below),((R false).lhsL,(cG R false).below))=(((R true).rhsA c m i L',below),((R false).rhsA c m i L',below))):RL R b c m i L' below:=by
  cases b with
  | true=>exact congrArg Prod.fst h
  | false=>exact congrArg Prod.snd h
theorem rb (h:(((R true).lhsA,(cG R true).code,(cG R true).below),((R false).lhsA,(cG R false).code,(cG R false).below))=(((R true).rhsA c m i L',c0,below),((R false).rhsA c m i L',c0,below))):RB R b c m i L' c0 below:=by
  cases b with
  | true=>exact congrArg Prod.fst h
  | false=>exact congrArg Prod.snd h
end
section
variable {w:World} {b1 b2 b3:Bool} {bel:ag→Prop} {c c0:Code} {below:ag} {L F M:af} {Q:Result→af→Prop} {κ:Bool→K} {Γ:Bool→Ctx} {p:Bool→Pos} {t:Bool→Sem Fin} {N tk b:Nat}
theorem aK {κ:K} {Γ:Ctx} {p:Pos} {t:Sem Fin} (h:∀N tk,aJ≤N→Stp w b1 b2 b3 (fun _=>κ) (fun _=>Γ) (fun _=>p) (fun _=>t) M N tk Q):Gos w b1 b2 b3 κ Γ p t M Q:=fun s hs=>(h _ _ hs.big).go s hs rfl rfl
theorem Stp.perm (h:Stp w b1 b2 b3 κ Γ p t L N tk Q) (hp:L.Perm M):Stp w b1 b2 b3 κ Γ p t M N tk Q:=⟨fun s hs h1 h2=>
  (h.go s (hs.perm hp.symm) h1 h2).mono fun r s' ⟨L',a,q⟩=>⟨L',a.permL hp,q⟩⟩
theorem Stp.fin (hs js:List Nat) (effs:List bX) (r:Result) (m i:Nat) (L':af) (hp:(L++F).Perm M) (d:Deep b (Γ b1) (κ b1)) (hb:b≤96)
    (hE:(∀a∈L.map (·.1),Lo aJ a∧a < N)→∀E∈effs,aC (nR w b1 b2 b3 L N tk 100 effs) E)
    (hj:qO js (L.length+m)=true) (hQ:Q r (L'++F)) (hv:RF (rN w b2 b3 L N tk effs κ Γ p t hs js) b1 r m i L'):Stp w b1 b2 b3 κ Γ p t M N tk Q:=Stp.perm (L:=L++F) (.mk fun s hs0 e1 e2=>by
  subst e1 e2
  have hs':=hs0.sub (C2 L F)
  have O:Okay (nR w b1 b2 b3 L s.heap.objs.size s.toks 100 effs):=gQ hs'.ap hs'.big
  exact nN (R:=rN w b2 b3 L s.heap.objs.size s.toks effs κ Γ p t hs js b1) (L:=L) b O (fun E hE'=>hE hs'.ap.all.2 E hE') rfl rfl rfl rfl rfl hs'.kt hs'.led (gb hb) d hv
    fun h' h1 h2 h3 h4=>⟨_,(lP hs' (Out.led_fstF hv) hj h1 h2 h3 h4).frame hs0,hQ⟩) hp
theorem Stp.at (hs js:List Nat) (effs:List bX) (c':Code) (m i:Nat) (L':af) (hp:(L++F).Perm M) (d:Deep b (Γ b1) (κ b1)) (hb:b≤96)
    (hE:(∀a∈L.map (·.1),Lo aJ a∧a < N)→∀E∈effs,aC (nR w b1 b2 b3 L N tk 100 effs) E)
    (hj:qO js (L.length+m)=true) (ao:∀l:ag,l.length≤b+9→bel l) {Q1:Result→af→Prop} (hC:Con w b1 b2 b3 bel c' (L'++F) Q1)
    (H:∀r L₂,Q1 r L₂→GoA w b1 b2 b3 (rN w b2 b3 L N tk effs κ Γ p t hs js) b r L₂ Q) (hv:RA (rN w b2 b3 L N tk effs κ Γ p t hs js) b1 c' m i L'):Stp w b1 b2 b3 κ Γ p t M N tk Q:=Stp.perm (L:=L++F) (.mk fun s hs0 e1 e2=>by
  subst e1 e2
  have hs':=hs0.sub (C2 L F)
  have O:Okay (nR w b1 b2 b3 L s.heap.objs.size s.toks 100 effs):=gQ hs'.ap hs'.big
  refine qk (R:=rN w b2 b3 L s.heap.objs.size s.toks effs κ Γ p t hs js b1) (L:=L) b O (fun E hE'=>hE hs'.ap.all.2 E hE') rfl rfl rfl rfl rfl hs'.kt hs'.led (gb hb) d hv
    fun h' C hC' hD hle h1 h2 h3 h4=>?_
  have T1:=(lP (i:=i) hs' (Out.led_fst hv) hj h1 h2 h3 h4).frame hs0
  obtain ⟨r,s₂,L₂,hr,T2,hq⟩:=hC _ T1.st ((C.Γ.code,C.p)::C.Γ.below) C.p (ao _ hle)
  refine ⟨r,s₂,hr,?_⟩
  subst hC'
  refine ((H r L₂ hq).go hD s₂ T2.st).mono ?_
  rintro r' s₃ ⟨L₃,T3,hq'⟩
  exact ⟨L₃,(T1.trans T2).trans T3,hq'⟩) hp
theorem Stp.atx (hs js:List Nat) (effs:List bX) (c':Code) (m i:Nat) (L':af) (hp:(L++F).Perm M) (d:Deep b (Γ b1) (κ b1)) (hb:b≤96)
    (hE:(∀a∈L.map (·.1),Lo aJ a∧a < N)→∀E∈effs,aC (nR w b1 b2 b3 L N tk 100 effs) E)
    (hj:qO js (L.length+m)=true) (ao:∀q,bel ((c0,q)::below)) {Q1:Result→af→Prop} (hC:Con w b1 b2 b3 bel c' (L'++F) Q1)
    (H:∀r L₂,Q1 r L₂→GoA w b1 b2 b3 (rN w b2 b3 L N tk effs κ Γ p t hs js) b r L₂ Q) (hv:RB (rN w b2 b3 L N tk effs κ Γ p t hs js) b1 c' m i L' c0 below):Stp w b1 b2 b3 κ Γ p t M N tk Q:=Stp.perm (L:=L++F) (.mk fun s hs0 e1 e2=>by
  subst e1 e2
  have hs':=hs0.sub (C2 L F)
  have O:Okay (nR w b1 b2 b3 L s.heap.objs.size s.toks 100 effs):=gQ hs'.ap hs'.big
  have hv1:(rN w b2 b3 L s.heap.objs.size s.toks effs κ Γ p t hs js b1).lhsA=(rN w b2 b3 L s.heap.objs.size s.toks effs κ Γ p t hs js b1).rhsA c' m i L':=congrArg Prod.fst hv
  have hv2:(cG (rN w b2 b3 L s.heap.objs.size s.toks effs κ Γ p t hs js) b1).code=c0:=congrArg (fun x=>x.2.1) hv
  have hv3:(cG (rN w b2 b3 L s.heap.objs.size s.toks effs κ Γ p t hs js) b1).below=below:=congrArg (fun x=>x.2.2) hv
  refine qk (R:=rN w b2 b3 L s.heap.objs.size s.toks effs κ Γ p t hs js b1) (L:=L) b O (fun E hE'=>hE hs'.ap.all.2 E hE') rfl rfl rfl rfl rfl hs'.kt hs'.led (gb hb) d hv1
    fun h' C hC' hD hle h1 h2 h3 h4=>?_
  have T1:=(lP (i:=i) hs' (Out.led_fst hv1) hj h1 h2 h3 h4).frame hs0
  subst hC'
  obtain ⟨r,s₂,L₂,hr,T2,hq⟩:=hC _ T1.st (((cG (rN w b2 b3 L s.heap.objs.size s.toks effs κ Γ p t hs js) b1).code,cP (rN w b2 b3 L s.heap.objs.size s.toks effs κ Γ p t hs js) b1)::(cG (rN w b2 b3 L s.heap.objs.size s.toks effs κ Γ p t hs js) b1).below) (cP (rN w b2 b3 L s.heap.objs.size s.toks effs κ Γ p t hs js) b1) (by rw [hv2,hv3];exact ao _)
  refine ⟨r,s₂,hr,?_⟩
  refine ((H r L₂ hq).go hD s₂ T2.st).mono ?_
  rintro r' s₃ ⟨L₃,T3,hq'⟩
  exact ⟨L₃,(T1.trans T2).trans T3,hq'⟩) hp
theorem Stp.loop {p:Pos} (hs js:List Nat) (effs:List bX) (c':Code) (m i:Nat) (L':af) (hp:(L++F).Perm M) (hb:below.length≤96)
    (hE:(∀a∈L.map (·.1),Lo aJ a∧a < N)→∀E∈effs,aC (nR w b1 b2 b3 L N tk 100 effs) E)
    (hj:qO js (L.length+m)=true) (hq:c'.quiet=true) (ao:bel below) (hC:Con w b1 b2 b3 bel c' (L'++F) Q)
    (hv:RL (rC w b2 b3 L N tk effs c below p hs js) b1 c' m i L' below):Stp w b1 b2 b3 (fun _=> []) (fun _=>⟨c,none,none,below,none⟩) (fun _=>p) (fun _=>.pure (.again c)) M N tk Q:=Stp.perm (L:=L++F) (.mk fun s hs0 e1 e2=>by
  subst e1 e2
  have hs':=hs0.sub (C2 L F)
  have O:Okay (nR w b1 b2 b3 L s.heap.objs.size s.toks 100 effs):=gQ hs'.ap hs'.big
  have hv1:(rc w b1 b2 b3 L s.heap.objs.size s.toks effs c below p hs js).lhsL=(rc w b1 b2 b3 L s.heap.objs.size s.toks effs c below p hs js).rhsA c' m i L':=congrArg Prod.fst hv
  have hv2:(cG (rC w b2 b3 L s.heap.objs.size s.toks effs c below p hs js) b1).below=below:=congrArg Prod.snd hv
  refine oz (R:=rc w b1 b2 b3 L s.heap.objs.size s.toks effs c below p hs js) (L:=L) below.length rfl O (fun E hE'=>hE hs'.ap.all.2 E hE') rfl rfl rfl rfl rfl hs'.kt hs'.led (gb hb) aa hv1 hv2 hq
    fun h' p' h1 h2 h3 h4=>?_
  have T1:=(lP (i:=i) hs' (Out.led_fstL hv1) hj h1 h2 h3 h4).frame hs0
  obtain ⟨r,s₂,L₂,hr,T2,hq⟩:=hC _ T1.st below p' ao
  exact ⟨r,s₂,hr,L₂,T1.trans T2,hq⟩) hp
theorem c9 {R:Bool→Run} {r res:Result} (hr:r=res) (h:Deep b (cG R b1) (cK R b1)→∀N tk,aJ≤N→Stp w b1 b2 b3 (cK R) (cG R) (cP R) (cT R res) L N tk Q):GoA w b1 b2 b3 R b r L Q:=⟨fun hD=>hr▸fun s hs=>(h hD _ _ hs.big).go s hs rfl rfl⟩
end
theorem fs {prog:Program} {w:World} {A:Around} {s:Shared} {T:String} {name:Str} {id:String} {B:Builtin} {self:Value} {rest:List Value} {m:Made} {R:Result→Shared→Prop} (slot:Slot T name id) (hT:s.TypeIs self T)
    (entry:entryFor table id=some B) (args:argsOk id ⟨self::rest,[]⟩) (g:Gives (B ⟨self::rest,[]⟩) m) (h:m.post (fun v s'=>R (.ok (.ret v)) s') s):
    codeAny (model prog w) A (.call (.builtin id) ⟨self::rest,[]⟩) R s:=
  M1 slot.plain entry (slot.check _ _ _ _ _ _ _ _ hT args (g _ _ A R s h))
theorem dE {P:Pm} {id:String} {name:Str} {B:Builtin} (slot:Slot "int" name id) (entry:entryFor table id=some B) (a b:Int) (t u z:Nat) (r:Int) (args:argsOk id ⟨[.int a t,.int b u],[]⟩) (g:Gives (B ⟨[.int a t,.int b u],[]⟩) (.int r)):
    aC P {code:=.call (.builtin id) ⟨[.int a t,.int b u],[]⟩,need:= [],res:=.ok (.ret (.int r z)),toks:=1,tk:=some z}:=by
  refine az fun A s _ _ hn _ _ htk=>?_
  have htk:=htk z rfl
  subst htk
  exact fs slot (typeIs_int s a t) entry args g ⟨rfl,_,rfl,aG rfl rfl⟩
theorem fK {P:Pm} {id:String} {name:Str} {B:Builtin} (slot:Slot "int" name id) (entry:entryFor table id=some B) (a b:Int) (t u:Nat) (v:Value) (args:argsOk id ⟨[.int a t,.int b u],[]⟩) (g:Gives (B ⟨[.int a t,.int b u],[]⟩) (.val v)):
    aC P {code:=.call (.builtin id) ⟨[.int a t,.int b u],[]⟩,need:= [],res:=.ok (.ret v)}:=by
  refine az fun A s _ _ hn _ _ htk=>?_
  exact fs slot (typeIs_int s a t) entry args g ⟨rfl,_,rfl,aG rfl rfl⟩
theorem cS {P:Pm} (a b:Int) (t u z:Nat):aC P {code:=.call (.builtin "int.__sub__") ⟨[.int a t,.int b u],[]⟩,need:= [],res:=.ok (.ret (.int (a - b) z)),toks:=1,tk:=some z}:=
  dE F.slot_int_sub F.entry_int_sub a b t u z _ (F.args_int_sub_2 _ _) (AutoIntG9.int___sub___int_int_0 a t b u)
theorem aN {P:Pm} (a b:Int) (t u:Nat) (β:Bool) (h:(a==b)=β):aC P {code:=.call (.builtin "int.__eq__") ⟨[.int a t,.int b u],[]⟩,need:= [],res:=.ok (.ret (.bool β))}:=
  fK F.slot_int_eq F.entry_int_eq a b t u _ (F.args_int_eq_2 _ _) (by rw [←h];exact AutoIntG7.int___eq___int_int_0 a t b u)
noncomputable def cN (x left:Int):Obj:=⟨.type "range_iterator",none,.fields ⟨[.int x 0,.int left 0,.int 1 0]⟩,#[]⟩
theorem lz {P:Pm} {E:bX} {h:Heap} {j a:Nat} {o o1:Obj} {f g:Obj→Obj} {o':Obj} (hj:P.adr j=a) (hu:E.upd= [(j,o')]) (hn:E.news= []) (ho:h.get? a=some o) (hf:f o=o1) (h1:o1.isFreed=false) (hg:g o1=o') (hfree:o'.isFreed=false):bF P E h ((h.update a f).update a g):=by
  unfold bF
  rw [hu,hn]
  refine ⟨by simp,fun b o e hne=>?_,fun q hq=>?_,fun _ _ hq=>(nomatch hq)⟩
  · have:=hne (j,o') (.head _)
    rw [hj] at this
    exact (Y2 _ g this).trans ((Y2 h f this).trans e)
  · rcases Z0.mp hq with rfl | hq
    · rw [hj,←hg]
      refine M2 g (o:=o1) ?_ (by rw [hg];exact hfree)
      rw [←hf]
      exact M2 f ho (by rw [hf];exact h1)
    · cases hq
theorem jO {P:Pm} {j it:Nat} (x left:Int) (z:Nat) (hl:0 < left) (hj:P.adr j=it:=by rfl):
    aC P {code:=.call (.builtin "range_iterator.__next__") ⟨[.ref it],[]⟩,need:= [(j,cN x left)],upd:= [(j,cN (x+1) (left - 1))],res:=.ok (.ret (.int x z)),toks:=1,tk:=some z}:=by
  refine az fun A s _ _ hn _ _ htk=>?_
  have ho:s.heap.get? it=some (cN x left):=by have:=hn _ (.head _);rw [hj] at this;exact this
  have htk:=htk z rfl
  subst htk
  refine b0 F.slot_range_iterator_next (ay ho rfl) F.entry_range_iterator_next (F.args_range_iterator_next_1 _) ((AutoRange.range_iterator___next___range_iterator_1 it x left 1 (by lia)).inModel _ _) ⟨ho,rfl,_,rfl,?_⟩
  exact lz (o1:=cN (x+1) left) hj rfl rfl ho rfl rfl rfl rfl
theorem ku {P:Pm} {E:bX} {h:Heap} {x y:Obj} (hu:E.upd= []) (hn:E.news= [x,y]) (hx:x.isFreed=false) (hy:y.isFreed=false):bF P E h ((h.push x).push y):=by
  unfold bF
  rw [hu,hn]
  refine ⟨by simp,fun b o e hne=>B1 _ (B1 _ e),fun q hq=>(nomatch hq),fun i z hz=>?_⟩
  match i,hz with
  | 0,hz=>cases hz;exact B1 _ (B2 h hx)
  | 1,hz=>
    cases hz
    have:=B2 (h.push x) hy
    rw [M3] at this
    exact this
  | n+2,hz=>simp at hz
theorem ko {P:Pm} {j it:Nat} (x left:Int) (z:Nat) (hl:left≤0) (hj:P.adr j=it:=by rfl):
    aC P {code:=.call (.builtin "range_iterator.__next__") ⟨[.ref it],[]⟩,need:= [(j,cN x left)],news:= [aS [],dy z],res:=.error (.ref (z+1)),sz:=some z}:=by
  refine az fun A s hh _ hn _ hz _=>?_
  have ho:s.heap.get? it=some (cN x left):=by have:=hn _ (.head _);rw [hj] at this;exact this
  have hz:=hz z rfl
  refine M1 F.slot_range_iterator_next.plain F.entry_range_iterator_next (F.slot_range_iterator_next.check _ _ _ _ _ _ _ _ (ay ho rfl) (F.args_range_iterator_next_1 _) ?_)
  show wpAny _ _ (field (.ref it) 0>>=_) _ _ s
  refine C0 (wpAny_field ho rfl (x:=.int x 0) rfl ?_)
  show wpAny _ _ (field (.ref it) 1>>=_) _ _ s
  refine C0 (wpAny_field ho rfl (x:=.int left 0) rfl ?_)
  show wpAny _ _ (field (.ref it) 2>>=_) _ _ s
  refine C0 (wpAny_field ho rfl (x:=.int 1 0) rfl ?_)
  show wpAny _ _ (if left≤0 then _ else _) _ _ s
  rw [if_pos hl]
  refine C0 (wpAny_rule ?_)
  refine C0 ?_
  exact c4 hh hz ⟨rfl,_,rfl,ku rfl rfl rfl rfl⟩
noncomputable abbrev pM (j l it a:Nat) (vs:List Value) (ep i:Nat) (x:Value):bX:={code:=.call (.builtin "list_iterator.__next__") ⟨[.ref it],[]⟩,need:= [(j,b8 "list_iterator" (.ref a) i),(l,lst vs ep)],upd:= [(j,b8 "list_iterator" (.ref a) (i+1))],res:=.ok (.ret x)}
noncomputable abbrev vH (j l it a:Nat) (vs:List Value) (ep i z:Nat):bX:={code:=.call (.builtin "list_iterator.__next__") ⟨[.ref it],[]⟩,need:= [(j,b8 "list_iterator" (.ref a) i),(l,lst vs ep)],upd:= [(j,b8 "list_iterator" .none i)],news:= [aS [],dy z],res:=.error (.ref (z+1)),sz:=some z}
noncomputable abbrev pK (j l it a:Nat) (vs:List Value) (i:Nat) (x:Value):bX:={code:=.call (.builtin "tuple_iterator.__next__") ⟨[.ref it],[]⟩,need:= [(j,b8 "tuple_iterator" (.ref a) i),(l,aS vs)],upd:= [(j,b8 "tuple_iterator" (.ref a) (i+1))],res:=.ok (.ret x)}
noncomputable abbrev vF (j l it a:Nat) (vs:List Value) (i z:Nat):bX:={code:=.call (.builtin "tuple_iterator.__next__") ⟨[.ref it],[]⟩,need:= [(j,b8 "tuple_iterator" (.ref a) i),(l,aS vs)],upd:= [(j,b8 "tuple_iterator" .none i)],news:= [aS [],dy z],res:=.error (.ref (z+1)),sz:=some z}
noncomputable abbrev pL (j it:Nat) (x left:Int) (z:Nat):bX:={code:=.call (.builtin "range_iterator.__next__") ⟨[.ref it],[]⟩,need:= [(j,cN x left)],upd:= [(j,cN (x+1) (left - 1))],res:=.ok (.ret (.int x z)),toks:=1,tk:=some z}
noncomputable abbrev vG (j it:Nat) (x left:Int) (z:Nat):bX:={code:=.call (.builtin "range_iterator.__next__") ⟨[.ref it],[]⟩,need:= [(j,cN x left)],news:= [aS [],dy z],res:=.error (.ref (z+1)),sz:=some z}
noncomputable abbrev om (j d:Nat) (l:List (Int × Nat × Value)) (ep:Nat) (k:Int) (t:Nat) (v:Value):bX:={code:=.call (.builtin "dict.get") ⟨[.ref d,.int k t],[]⟩,need:= [(j,ak l ep)],res:=.ok (.ret v),toks:=1}
noncomputable abbrev rY (j d:Nat) (l:List (Int × Nat × Value)) (ep:Nat) (k:Int) (t:Nat) (v:Value):bX:={code:=.call (.builtin "dict.__getitem__") ⟨[.ref d,.int k t],[]⟩,need:= [(j,ak l ep)],res:=.ok (.ret v),toks:=1}
noncomputable abbrev xInD (j d:Nat) (l:List (Int × Nat × Value)) (ep:Nat) (k:Int) (t:Nat) (b:Bool):bX:={code:=.call (.builtin "dict.__contains__") ⟨[.ref d,.int k t],[]⟩,need:= [(j,ak l ep)],res:=.ok (.ret (.bool b)),toks:=1}
noncomputable abbrev pH (j d:Nat) (l:List (Int × Nat × Value)) (ep:Nat) (k:Int) (t:Nat) (v:Value):bX:={code:=.call (.builtin "dict.__setitem__") ⟨[.ref d,.int k t,v],[]⟩,need:= [(j,ak l ep)],upd:= [(j,ak (l++ [(k,t,v)]) (ep+1))],res:=.ok (.ret .none),toks:=1}
noncomputable abbrev jj (j l:Nat) (vs:List Value) (ep:Nat) (x:Value):bX:={code:=.call (.builtin "list.append") ⟨[.ref l,x],[]⟩,need:= [(j,lst vs ep)],upd:= [(j,lst (vs++ [x]) (ep+1))],res:=.ok (.ret .none)}
noncomputable abbrev xTup (j l:Nat) (vs:List Value) (n z:Nat):bX:={code:=.call (.builtin "tuple.__new__") ⟨[.type "tuple",.ref l],[]⟩,need:= [(j,lst vs n)],news:= [lst vs (lv vs),aS vs],res:=.ok (.ret (.ref (z+1))),sz:=some z}
noncomputable abbrev g7 (j l:Nat) (o:Obj) (vs:List Value) (z:Nat):bX:={code:=.builtin "proto.collect" ⟨[.ref l],[]⟩,need:= [(j,o)],news:= [lst vs (lv vs)],res:=.ok (.ret (.ref z)),sz:=some z}
noncomputable abbrev yJ (j l:Nat) (vs:List Value) (n:Nat):bX:={code:=.call (.builtin "list.clear") ⟨[.ref l],[]⟩,need:= [(j,lst vs n)],upd:= [(j,lst [] (clr n vs))],res:=.ok (.ret .none)}
noncomputable abbrev pN (j l:Nat) (vs:List Value) (z:Nat):bX:={code:=.call (.builtin "len") ⟨[.ref l],[]⟩,need:= [(j,aS vs)],res:=.ok (.ret (.int (vs.length:Nat) (z+1))),toks:=2,tk:=some z}
noncomputable abbrev iD (j l:Nat) (vs:List Value) (n z:Nat):bX:={code:=.call (.builtin "len") ⟨[.ref l],[]⟩,need:= [(j,lst vs n)],res:=.ok (.ret (.int (vs.length:Nat) (z+1))),toks:=2,tk:=some z}
noncomputable abbrev ol (a b:Int) (t u z:Nat):bX:={code:=.call (.builtin "int.__sub__") ⟨[.int a t,.int b u],[]⟩,need:= [],res:=.ok (.ret (.int (a - b) z)),toks:=1,tk:=some z}
noncomputable abbrev on (a b:Int) (t u z:Nat):bX:={code:=.call (.builtin "int.__add__") ⟨[.int a t,.int b u],[]⟩,need:= [],res:=.ok (.ret (.int (a+b) z)),toks:=1,tk:=some z}
noncomputable abbrev l7 (a b:Int) (t u z:Nat) (r:Int):bX:={code:=.call (.builtin "int.__floordiv__") ⟨[.int a t,.int b u],[]⟩,need:= [],res:=.ok (.ret (.int r z)),toks:=1,tk:=some z}
noncomputable abbrev dX (a b:Int) (t u z:Nat) (r:Int):bX:={code:=.call (.builtin "int.__mod__") ⟨[.int a t,.int b u],[]⟩,need:= [],res:=.ok (.ret (.int r z)),toks:=1,tk:=some z}
noncomputable abbrev pI (b:Int) (t u z:Nat) (r:Int):bX:={code:=.call (.builtin "int.__pow__") ⟨[.int 2 t,.int b u],[]⟩,need:= [],res:=.ok (.ret (.int r z)),toks:=1,tk:=some z}
noncomputable abbrev yF (a b:Int) (t u:Nat) (β:Bool):bX:={code:=.call (.builtin "int.__ne__") ⟨[.int a t,.int b u],[]⟩,need:= [],res:=.ok (.ret (.bool β))}
noncomputable abbrev yG (a b:Int) (t u:Nat) (β:Bool):bX:={code:=.call (.builtin "int.__lt__") ⟨[.int a t,.int b u],[]⟩,need:= [],res:=.ok (.ret (.bool β))}
theorem cU {P:Pm} (a b:Int) (t u z:Nat):aC P (on a b t u z):=
  dE F.slot_int_add F.entry_int_add a b t u z _ (F.args_int_add_2 _ _) (AutoIntG4.int___add___int_int_0 a t b u)
theorem ca {P:Pm} (a b:Int) (t u z:Nat) (r:Int) (h0:b≠0) (h1:Builtin.divisionGoesByPylong a b=false) (hr:a.fdiv b=r):aC P (l7 a b t u z r):=
  dE F.slot_int_floordiv F.entry_int_floordiv a b t u z _ (F.args_int_floordiv_2 _ _) (by rw [←hr];exact AutoIntG4.int___floordiv___int_int_1 a t b u (by simpa using h0) (by rw [h1];simp))
theorem aI {P:Pm} (a b:Int) (t u z:Nat) (r:Int) (h0:b≠0) (hr:a.fmod b=r):aC P (dX a b t u z r):=
  dE F.slot_int_mod F.entry_int_mod a b t u z _ (F.args_int_mod_2 _ _) (by rw [←hr];exact AutoIntG6.int___mod___int_int_1 a t b u (by simpa using h0))
theorem fo {P:Pm} (a b:Int) (t u:Nat) (β:Bool) (h:(a !=b)=β):aC P (yF a b t u β):=
  fK F.slot_int_ne F.entry_int_ne a b t u _ (F.args_int_ne_2 _ _) (by rw [←h];exact AutoIntG6.int___ne___int_int_0 a t b u)
theorem fp {P:Pm} (a b:Int) (t u:Nat) (β:Bool) (h:decide (a < b)=β):aC P (yG a b t u β):=
  fK F.slot_int_lt F.entry_int_lt a b t u _ (F.args_int_lt_2 _ _) (by rw [←h];exact AutoIntG1.int___lt___int_int_0 a t b u)
theorem eE {P:Pm} (k:Nat) (t u z:Nat) (r:Int) (h:k≤60) (hr:(2:Int) ^ k=r):aC P (pI (k:Int) t u z r):=by
  refine dE F.slot_int_pow F.entry_int_pow 2 k t u z r (F.args_int_pow_2 _ _) ?_
  rw [←hr]
  by_cases h0:k=0
  · subst h0;exact AutoIntG9.int___pow___int_int_0 2 t 0 u (by decide) rfl
  · have:=AutoIntG2.int___pow___int_int_4 2 t (k:Int) u (by lia) (by simpa using h0) (by decide) (by decide) (by
      have e:Builtin.Int.intBits 2=2:=by decide+kernel
      rw [e];unfold Builtin.Int.intTooBig bitsLine;rw [decide_eq_true_eq];lia)
    exact this
noncomputable abbrev kc (a b:Int) (t u:Nat) (β:Bool):bX:={code:=.call (.builtin "int.__eq__") ⟨[.int a t,.int b u],[]⟩,need:= [],res:=.ok (.ret (.bool β))}
noncomputable abbrev z4 (w:World) (b1 b2 b3:Bool) (it a i ep:Nat) (vs:List Value) (x:Value) (c:Code) (below:ag) (p:Pos) (N tk:Nat):Run:=rn w b1 b2 b3 [(it,b8 "list_iterator" (.ref a) i),(a,lst vs ep)] N tk [pM 0 1 it a vs ep i x] [] (cx c below) p (pC (.ref it)) [1,1] [0,1]
theorem qE (w:World) (b2 b3:Bool) (it a i ep:Nat) (vs:List Value) (x:Value) (c:Code) (below:ag) (p:Pos) (N tk:Nat):∀b1,(z4 w b1 b2 b3 it a i ep vs x c below p N tk).lhs=(z4 w b1 b2 b3 it a i ep vs x c below p N tk).rhs (.ok (ix (some x))) 0 0 [(it,b8 "list_iterator" (.ref a) (i+1)),(a,lst vs ep)]:=fB (by kernel_rfl!)
theorem nS {w:World} {b1 b2 b3:Bool} (it a i ep:Nat) (vs:List Value) (x:Value) (hx:vs[i]?=some x) {c:Code} {below:ag} {F M:af} {Q:Option Value→af→Prop} (hb:below.length≤96) (hp:([(it,b8 "list_iterator" (.ref a) i),(a,lst vs ep)]++F).Perm M) (hQ:∀N tk:Nat,Q (some x) ([(it,b8 "list_iterator" (.ref a) (i+1)),(a,lst vs ep)]++F)):Tr w b1 b2 b3 (cx c below) (pyNext (.ref it)) M Q:=
  Tr.nx fun p=>gW (fun N tk=> [pM 0 1 it a vs ep i x]) _ _ _ _ hp aa (M0 hb (by lia)) (fun N tk hN hap=>a9 (km _ _ _ hx) a8) (fun N tk=>qE w b2 b3 it a i ep vs x c below p N tk b1) (fun _ _=>rfl) (fun N tk=>⟨_,rfl,hQ N tk⟩)
noncomputable abbrev enL (w:World) (b1 b2 b3:Bool) (it a i ep:Nat) (vs:List Value) (c:Code) (below:ag) (p:Pos) (N tk:Nat):Run:=rn w b1 b2 b3 [(it,b8 "list_iterator" (.ref a) i),(a,lst vs ep)] N tk [vH 0 1 it a vs ep i N] [] (cx c below) p (pC (.ref it)) [1,1,4] [0,1]
theorem uI (w:World) (b2 b3:Bool) (it a i ep:Nat) (vs:List Value) (c:Code) (below:ag) (p:Pos) (N tk:Nat):∀b1,(enL w b1 b2 b3 it a i ep vs c below p N tk).lhs=(enL w b1 b2 b3 it a i ep vs c below p N tk).rhs (.ok (ix none)) 2 0 [(it,b8 "list_iterator" .none i),(a,lst vs ep)]:=fB (by kernel_rfl!)
theorem r8 {w:World} {b1 b2 b3:Bool} (it a i ep:Nat) (vs:List Value) (hx:vs.length≤i) {c:Code} {below:ag} {F M:af} {Q:Option Value→af→Prop} (hb:below.length≤96) (hp:([(it,b8 "list_iterator" (.ref a) i),(a,lst vs ep)]++F).Perm M) (hQ:∀N tk:Nat,Q none ([(it,b8 "list_iterator" .none i),(a,lst vs ep)]++F)):Tr w b1 b2 b3 (cx c below) (pyNext (.ref it)) M Q:=
  Tr.nx fun p=>gW (fun N tk=> [vH 0 1 it a vs ep i N]) _ _ _ _ hp aa (M0 hb (by lia)) (fun N tk hN hap=>a9 (lw _ _ _ _ hx) a8) (fun N tk=>uI w b2 b3 it a i ep vs c below p N tk b1) (fun _ _=>rfl) (fun N tk=>⟨_,rfl,hQ N tk⟩)
noncomputable abbrev yZ (w:World) (b1 b2 b3:Bool) (it a i:Nat) (vs:List Value) (x:Value) (c:Code) (below:ag) (p:Pos) (N tk:Nat):Run:=rn w b1 b2 b3 [(it,b8 "tuple_iterator" (.ref a) i),(a,aS vs)] N tk [pK 0 1 it a vs i x] [] (cx c below) p (pC (.ref it)) [1,1] [0,1]
theorem qC (w:World) (b2 b3:Bool) (it a i:Nat) (vs:List Value) (x:Value) (c:Code) (below:ag) (p:Pos) (N tk:Nat):∀b1,(yZ w b1 b2 b3 it a i vs x c below p N tk).lhs=(yZ w b1 b2 b3 it a i vs x c below p N tk).rhs (.ok (ix (some x))) 0 0 [(it,b8 "tuple_iterator" (.ref a) (i+1)),(a,aS vs)]:=fB (by kernel_rfl!)
theorem ub {w:World} {b1 b2 b3:Bool} (it a i:Nat) (vs:List Value) (x:Value) (hx:vs[i]?=some x) {c:Code} {below:ag} {F M:af} {Q:Option Value→af→Prop} (hb:below.length≤96) (hp:([(it,b8 "tuple_iterator" (.ref a) i),(a,aS vs)]++F).Perm M) (hQ:∀N tk:Nat,Q (some x) ([(it,b8 "tuple_iterator" (.ref a) (i+1)),(a,aS vs)]++F)):Tr w b1 b2 b3 (cx c below) (pyNext (.ref it)) M Q:=
  Tr.nx fun p=>gW (fun N tk=> [pK 0 1 it a vs i x]) _ _ _ _ hp aa (M0 hb (by lia)) (fun N tk hN hap=>a9 (jN _ _ hx) a8) (fun N tk=>qC w b2 b3 it a i vs x c below p N tk b1) (fun _ _=>rfl) (fun N tk=>⟨_,rfl,hQ N tk⟩)
noncomputable abbrev enT (w:World) (b1 b2 b3:Bool) (it a i:Nat) (vs:List Value) (c:Code) (below:ag) (p:Pos) (N tk:Nat):Run:=rn w b1 b2 b3 [(it,b8 "tuple_iterator" (.ref a) i),(a,aS vs)] N tk [vF 0 1 it a vs i N] [] (cx c below) p (pC (.ref it)) [1,1,4] [0,1]
theorem uG (w:World) (b2 b3:Bool) (it a i:Nat) (vs:List Value) (c:Code) (below:ag) (p:Pos) (N tk:Nat):∀b1,(enT w b1 b2 b3 it a i vs c below p N tk).lhs=(enT w b1 b2 b3 it a i vs c below p N tk).rhs (.ok (ix none)) 2 0 [(it,b8 "tuple_iterator" .none i),(a,aS vs)]:=fB (by kernel_rfl!)
theorem xD {w:World} {b1 b2 b3:Bool} (it a i:Nat) (vs:List Value) (hx:vs.length≤i) {c:Code} {below:ag} {F M:af} {Q:Option Value→af→Prop} (hb:below.length≤96) (hp:([(it,b8 "tuple_iterator" (.ref a) i),(a,aS vs)]++F).Perm M) (hQ:∀N tk:Nat,Q none ([(it,b8 "tuple_iterator" .none i),(a,aS vs)]++F)):Tr w b1 b2 b3 (cx c below) (pyNext (.ref it)) M Q:=
  Tr.nx fun p=>gW (fun N tk=> [vF 0 1 it a vs i N]) _ _ _ _ hp aa (M0 hb (by lia)) (fun N tk hN hap=>a9 (kn _ _ _ hx) a8) (fun N tk=>uG w b2 b3 it a i vs c below p N tk b1) (fun _ _=>rfl) (fun N tk=>⟨_,rfl,hQ N tk⟩)
noncomputable abbrev z0 (w:World) (b1 b2 b3:Bool) (it:Nat) (x left:Int) (c:Code) (below:ag) (p:Pos) (N tk:Nat):Run:=rn w b1 b2 b3 [(it,cN x left)] N tk [pL 0 it x left tk] [] (cx c below) p (pC (.ref it)) [1,1] [0]
theorem qD (w:World) (b2 b3:Bool) (it:Nat) (x left:Int) (c:Code) (below:ag) (p:Pos) (N tk:Nat):∀b1,(z0 w b1 b2 b3 it x left c below p N tk).lhs=(z0 w b1 b2 b3 it x left c below p N tk).rhs (.ok (ix (some (.int x tk)))) 0 1 [(it,cN (x+1) (left - 1))]:=fB (by kernel_rfl!)
theorem uc {w:World} {b1 b2 b3:Bool} (it:Nat) (x left:Int) (hx:0 < left) {c:Code} {below:ag} {F M:af} {Q:Option Value→af→Prop} (hb:below.length≤96) (hp:([(it,cN x left)]++F).Perm M) (hQ:∀N tk:Nat,Q (some (.int x tk)) ([(it,cN (x+1) (left - 1))]++F)):Tr w b1 b2 b3 (cx c below) (pyNext (.ref it)) M Q:=
  Tr.nx fun p=>gW (fun N tk=> [pL 0 it x left tk]) _ _ _ _ hp aa (M0 hb (by lia)) (fun N tk hN hap=>a9 (jO _ _ _ hx) a8) (fun N tk=>qD w b2 b3 it x left c below p N tk b1) (fun _ _=>rfl) (fun N tk=>⟨_,rfl,hQ N tk⟩)
noncomputable abbrev enR (w:World) (b1 b2 b3:Bool) (it:Nat) (x left:Int) (c:Code) (below:ag) (p:Pos) (N tk:Nat):Run:=rn w b1 b2 b3 [(it,cN x left)] N tk [vG 0 it x left N] [] (cx c below) p (pC (.ref it)) [1,1,3] [0]
theorem uH (w:World) (b2 b3:Bool) (it:Nat) (x left:Int) (c:Code) (below:ag) (p:Pos) (N tk:Nat):∀b1,(enR w b1 b2 b3 it x left c below p N tk).lhs=(enR w b1 b2 b3 it x left c below p N tk).rhs (.ok (ix none)) 2 0 [(it,cN x left)]:=fB (by kernel_rfl!)
theorem xE {w:World} {b1 b2 b3:Bool} (it:Nat) (x left:Int) (hx:left≤0) {c:Code} {below:ag} {F M:af} {Q:Option Value→af→Prop} (hb:below.length≤96) (hp:([(it,cN x left)]++F).Perm M) (hQ:∀N tk:Nat,Q none ([(it,cN x left)]++F)):Tr w b1 b2 b3 (cx c below) (pyNext (.ref it)) M Q:=
  Tr.nx fun p=>gW (fun N tk=> [vG 0 it x left N]) _ _ _ _ hp aa (M0 hb (by lia)) (fun N tk hN hap=>a9 (ko _ _ _ hx) a8) (fun N tk=>uH w b2 b3 it x left c below p N tk b1) (fun _ _=>rfl) (fun N tk=>⟨_,rfl,hQ N tk⟩)
noncomputable abbrev slL (w:World) (b1 b2 b3:Bool) (it:Nat) (q:Value) (i:Nat) (c:Code) (below:ag) (p:Pos) (N tk:Nat):Run:=rn w b1 b2 b3 [(it,b8 "list_iterator" q i)] N tk [] [] (cx c below) p (wV (.ref it)) [1,1,0,1,1] [0]
theorem tK (w:World) (b2 b3:Bool) (it:Nat) (q:Value) (i:Nat) (c:Code) (below:ag) (p:Pos) (N tk:Nat):∀b1,(slL w b1 b2 b3 it q i c below p N tk).lhs=(slL w b1 b2 b3 it q i c below p N tk).rhs (.ok (.ret (.ref it))) 0 0 [(it,b8 "list_iterator" q i)]:=fB (by kernel_rfl!)
theorem qd {w:World} {b1 b2 b3:Bool} (it:Nat) (q:Value) (i:Nat) {c:Code} {below:ag} {F M:af} {Q:Value→af→Prop} (hb:below.length≤96) (hp:([(it,b8 "list_iterator" q i)]++F).Perm M) (hQ:∀N tk:Nat,Q (.ref it) ([(it,b8 "list_iterator" q i)]++F)):Tr w b1 b2 b3 (cx c below) (pyIter (.ref it)) M Q:=
  Tr.pi fun p=>gW (fun N tk=> []) _ _ _ _ hp aa (M0 hb (by lia)) (fun N tk hN hap=>a8) (fun N tk=>tK w b2 b3 it q i c below p N tk b1) (fun _ _=>rfl) (fun N tk=>⟨_,rfl,hQ N tk⟩)
noncomputable abbrev slT (w:World) (b1 b2 b3:Bool) (it:Nat) (q:Value) (i:Nat) (c:Code) (below:ag) (p:Pos) (N tk:Nat):Run:=rn w b1 b2 b3 [(it,b8 "tuple_iterator" q i)] N tk [] [] (cx c below) p (wV (.ref it)) [1,1,0,1,1] [0]
theorem tI (w:World) (b2 b3:Bool) (it:Nat) (q:Value) (i:Nat) (c:Code) (below:ag) (p:Pos) (N tk:Nat):∀b1,(slT w b1 b2 b3 it q i c below p N tk).lhs=(slT w b1 b2 b3 it q i c below p N tk).rhs (.ok (.ret (.ref it))) 0 0 [(it,b8 "tuple_iterator" q i)]:=fB (by kernel_rfl!)
theorem wq {w:World} {b1 b2 b3:Bool} (it:Nat) (q:Value) (i:Nat) {c:Code} {below:ag} {F M:af} {Q:Value→af→Prop} (hb:below.length≤96) (hp:([(it,b8 "tuple_iterator" q i)]++F).Perm M) (hQ:∀N tk:Nat,Q (.ref it) ([(it,b8 "tuple_iterator" q i)]++F)):Tr w b1 b2 b3 (cx c below) (pyIter (.ref it)) M Q:=
  Tr.pi fun p=>gW (fun N tk=> []) _ _ _ _ hp aa (M0 hb (by lia)) (fun N tk hN hap=>a8) (fun N tk=>tI w b2 b3 it q i c below p N tk b1) (fun _ _=>rfl) (fun N tk=>⟨_,rfl,hQ N tk⟩)
noncomputable abbrev slR (w:World) (b1 b2 b3:Bool) (it:Nat) (x left:Int) (c:Code) (below:ag) (p:Pos) (N tk:Nat):Run:=rn w b1 b2 b3 [(it,cN x left)] N tk [] [] (cx c below) p (wV (.ref it)) [1,1,0,1,1] [0]
theorem tJ (w:World) (b2 b3:Bool) (it:Nat) (x left:Int) (c:Code) (below:ag) (p:Pos) (N tk:Nat):∀b1,(slR w b1 b2 b3 it x left c below p N tk).lhs=(slR w b1 b2 b3 it x left c below p N tk).rhs (.ok (.ret (.ref it))) 0 0 [(it,cN x left)]:=fB (by kernel_rfl!)
theorem wr {w:World} {b1 b2 b3:Bool} (it:Nat) (x left:Int) {c:Code} {below:ag} {F M:af} {Q:Value→af→Prop} (hb:below.length≤96) (hp:([(it,cN x left)]++F).Perm M) (hQ:∀N tk:Nat,Q (.ref it) ([(it,cN x left)]++F)):Tr w b1 b2 b3 (cx c below) (pyIter (.ref it)) M Q:=
  Tr.pi fun p=>gW (fun N tk=> []) _ _ _ _ hp aa (M0 hb (by lia)) (fun N tk hN hap=>a8) (fun N tk=>tJ w b2 b3 it x left c below p N tk b1) (fun _ _=>rfl) (fun N tk=>⟨_,rfl,hQ N tk⟩)
section
variable {w:World} {b1 b2 b3:Bool}
theorem Iter.list (it a ep:Nat) (vs:List Value):Iter w b1 b2 b3 it vs Eq (fun i=> [(it,b8 "list_iterator" (.ref a) i),(a,lst vs ep)]) [(it,b8 "list_iterator" .none vs.length),(a,lst vs ep)] where
  next i x hx c below hb:=nS it a i ep vs x hx (F:= []) hb (P1 (U0 _)) fun N tk=>⟨x,rfl,rfl,U0 _⟩
  stop c below hb:=r8 it a vs.length ep vs (S0 _) (F:= []) hb (P1 (U0 _)) fun N tk=>⟨rfl,U0 _⟩
  self c below hb:=qd it (.ref a) 0 (F:= [(a,lst vs ep)]) hb (E0 _) fun N tk=>⟨rfl,rfl⟩
theorem Iter.tuple (it a:Nat) (vs:List Value):Iter w b1 b2 b3 it vs Eq (fun i=> [(it,b8 "tuple_iterator" (.ref a) i),(a,aS vs)]) [(it,b8 "tuple_iterator" .none vs.length),(a,aS vs)] where
  next i x hx c below hb:=ub it a i vs x hx (F:= []) hb (P1 (U0 _)) fun N tk=>⟨x,rfl,rfl,U0 _⟩
  stop c below hb:=xD it a vs.length vs (S0 _) (F:= []) hb (P1 (U0 _)) fun N tk=>⟨rfl,U0 _⟩
  self c below hb:=wq it (.ref a) 0 (F:= [(a,aS vs)]) hb (E0 _) fun N tk=>⟨rfl,rfl⟩
noncomputable def isI (k:Int) (v:Value):Prop:=∃t,v= .int k t
noncomputable def wk (a:Int) (n:Nat):List Int:=(List.range n).map fun (k:Nat)=>a+(k:Int)
theorem nb (a:Int) (n:Nat):(wk a n).length=n:=by unfold wk;rw [B0,U4]
theorem tC {a:Int} {n i:Nat} {x:Int} (h:(wk a n)[i]?=some x):i < n∧x=a+(i:Int):=by
  unfold wk at h
  rw [V0] at h
  by_cases hi:i < n
  · rw [I6 hi] at h
    exact ⟨hi,by injection h with h;exact h.symm⟩
  · rw [V3 (by rw [U4];lia)] at h
    cases h
theorem Iter.range (it:Nat) (a:Int) (n:Nat):Iter w b1 b2 b3 it (wk a n) isI (fun i=> [(it,cN (a+(i:Int)) ((n:Int) - (i:Int)))]) [(it,cN (a+(n:Int)) 0)] where
  next i x hx c below hb:=by
    obtain ⟨hi,rfl⟩:=tC hx
    refine uc it _ _ (by lia) (F:= []) hb (P1 (U0 _)) fun N tk=>⟨_,rfl,⟨_,rfl⟩,?_⟩
    have e1:a+(i:Int)+1=a+((i+1:Nat):Int):=by lia
    have e2:(n:Int) - (i:Int) - 1=(n:Int) - ((i+1:Nat):Int):=by lia
    rw [e1,e2];rfl
  stop c below hb:=by
    rw [nb]
    have e:(n:Int) - (n:Int)=0:=by lia
    rw [e]
    exact xE it _ _ (V8 _) (F:= []) hb (P1 (U0 _)) fun N tk=>⟨rfl,U0 _⟩
  self c below hb:=wr it _ _ (F:= []) hb (P1 (U0 _)) fun N tk=>⟨rfl,U0 _⟩
end
inductive PT where
  | z
  | l (is:List Nat) (t:PT)
  | v (i:Nat)
  | a (s t:PT)
noncomputable def PT.nth {β:Type}:List β→Nat→Option β
  | [],_=>none
  | x::_,0=>some x
  | _::r,n+1=>nth r n
noncomputable def PT.ge (V:List af):Nat→af
  | 0=>V.headD []
  | n+1=>ge V.tail n
noncomputable def PT.cn {β:Type}:Option β→List β→List β
  | none,r=>r
  | some x,r=>x::r
noncomputable def PT.gs (C r:af):List Nat→af
  | []=>r
  | i::is=>PT.cn (PT.nth C i) (gs C r is)
noncomputable def PT.den (C:af) (V:List af):PT→af
  | .z=> []
  | .l is t=>PT.gs C (den C V t) is
  | .v i=>PT.ge V i
  | .a s t=>den C V s++den C V t
noncomputable def PT.flat:PT→List Nat→List Nat
  | .z,r=>r
  | .l is t,r=>is.map (2 * ·)++t.flat r
  | .v i,r=>(2 * i+1)::r
  | .a s t,r=>s.flat (t.flat r)
noncomputable def PT.at (C:af) (V:List af) (k:Nat):af:=if k % 2=0 then PT.cn (PT.nth C (k / 2)) [] else PT.ge V (k / 2)
noncomputable def PT.all (C:af) (V:List af) (l:List Nat):af:=l.flatMap (PT.at C V)
theorem PT.cn_app {β:Type} (o:Option β) (r:List β):PT.cn o r=PT.cn o []++r:=by cases o<;>rfl
theorem PT.all_map (C:af) (V:List af) (r:List Nat) (t:af) (X:af) (h:PT.all C V r=t++X):∀is:List Nat,PT.all C V (is.map (2 * ·)++r)=PT.gs C t is++X
  | []=>h
  | i::is=>by
    have h':PT.at C V (2 * i)=PT.cn (PT.nth C i) []:=by
      unfold PT.at
      rw [if_pos (by lia),show 2 * i / 2=i by lia]
    show PT.at C V (2 * i)++PT.all C V (is.map (2 * ·)++r)=PT.cn (PT.nth C i) (PT.gs C t is)++_
    rw [PT.all_map C V r t X h is,h',PT.cn_app (PT.nth C i) (PT.gs C t is),U2]
theorem PT.flat_den (C:af) (V:List af):∀(t:PT) (r:List Nat),PT.all C V (t.flat r)=t.den C V++PT.all C V r
  | .z,r=>rfl
  | .l is t,r=>PT.all_map C V _ _ _ (PT.flat_den C V t r) is
  | .v i,r=>by
    show PT.at C V (2 * i+1)++PT.all C V r=PT.ge V i++_
    have h:PT.at C V (2 * i+1)=PT.ge V i:=by
      unfold PT.at
      rw [if_neg (by lia),show (2 * i+1) / 2=i by lia]
    rw [h]
  | .a s t,r=>by
    show PT.all C V (s.flat (t.flat r))=(s.den C V++t.den C V)++_
    rw [PT.flat_den C V s,PT.flat_den C V t,U2]
theorem PT.of (C:af) (V:List af) {s t:PT} (h:(s.flat []).isPerm (t.flat [])=true):(s.den C V).Perm (t.den C V):=by
  have e:=(List.isPerm_iff.mp h).flatMap_right (PT.at C V)
  have a:(s.flat []).flatMap (PT.at C V)=s.den C V:=(PT.flat_den C V s []).trans (U0 _)
  have b:(t.flat []).flatMap (PT.at C V)=t.den C V:=(PT.flat_den C V t []).trans (U0 _)
  rw [a,b] at e
  exact e
theorem pe {x y:Nat × Obj} (h:x=y): [x].Perm [y]:=h▸E0 _
theorem aO (C:af) (V:List af) (s t:PT) (h:(s.flat []).isPerm (t.flat [])=true):(s.den C V).Perm (t.den C V):=PT.of C V h
theorem bk (C:af) (V:List af) (s t u v:PT) (e:(u.den C V).Perm (v.den C V)) (h:((PT.a s v).flat []).isPerm ((PT.a t u).flat [])=true):(s.den C V).Perm (t.den C V):=
  (List.perm_append_right_iff (v.den C V)).mp ((PT.of C V h).trans (e.append_left _))
open Classical in
theorem u7 {α:Type} {l m:List α} (h:∀p:α→Bool,l.countP p=m.countP p):l.Perm m:=by
  rw [List.perm_iff_count]
  intro a
  exact h _
theorem jU {α:Type} (p:α→Bool) (l:List α):l.countP p=(l.map fun x=>if p x then 1 else 0).sum:=by
  induction l with
  | nil=>rfl
  | cons x l ih=>rw [List.countP_cons,ih,H0,J3,Nat.add_comm]
theorem gP {α:Type} {l m:List α} (h:∀g:α→Nat,(l.map g).sum=(m.map g).sum):l.Perm m:=u7 fun p=>by rw [jU,jU];exact h _
theorem lQ {α:Type} {l m:List α} (h:l.Perm m) (g:α→Nat):(l.map g).sum=(m.map g).sum:=by
  induction h with
  | nil=>rfl
  | cons x _ ih=>rw [H0,H0,J3,J3,ih]
  | swap x y l=>simp only [H0,J3];lia
  | trans _ _ a b=>exact a.trans b
theorem ma {A B C D:Nat} (h:C=D) (e:A+D=B+C):A=B:=by lia
theorem yA {a:Nat} (h:Lo aJ a):a≠1:=fun e=>h.elim (fun h=>absurd (M0 h (Nat.le_of_eq e)) (by decide)) fun h=>h.elim (fun h=>absurd (h.symm.trans e) (by decide)) (fun h=>absurd (h.symm.trans e) (by decide))
noncomputable def bs (l:List NI):af:=l.map fun x=>(x.a,x.obj)
noncomputable def b6 (l:List NI):af:=l.map fun x=>(x.sl,x.lst)
noncomputable def cD (w:World) (G:So):af:= [(G.s,aP bM G.d),(G.d,G.dict w),(G.n2i,ak G.tab G.ep')]
noncomputable def aU (w:World) (G:So):af:=cD w G++(bs G.nodes++b6 G.nodes)
noncomputable def cZ (A:List AN) (p:Int):List AN:=if A.any (fun x=>x.1==p) then A else A++ [(p,0,[])]
noncomputable def fA (A:List AN) (p:Int) (f:AN→AN):List AN:=A.map fun x=>if x.1=p then f x else x
noncomputable def iL (k:Int) (A:List AN) (p:Int):List AN:=fA (cZ A p) p fun x=>(x.1,x.2.1,x.2.2++ [k])
noncomputable def kz (A:List AN) (k:Int) (ps:List Int):List AN:=ps.foldl (iL k) (fA (cZ A k) k fun x=>(x.1,x.2.1+ps.length,x.2.2))
noncomputable def npOf (A:List AN) (k:Int):Int:=((A.find? (·.1==k)).map (·.2.1)).getD 0
noncomputable def scOf (A:List AN) (k:Int):List Int:=((A.find? (·.1==k)).map (·.2.2)).getD []
noncomputable def Bd (G:So) (c:Nat):Prop:=G.nodes.length≤c∧∀x∈G.nodes,x.succ.length≤c
structure Is (G:So) (A:List AN) (c:Nat):Prop where
  abs:G.abs=A
  keys:(G.nodes.map (·.key)).Nodup
  bd:Bd G c
noncomputable abbrev deep (b:Nat):ag→Prop:=fun l=>l.length≤b
theorem rR (l:List NI) (k:Int) (f:NI→NI) (g:AN→AN) (h:∀x:NI,((f x).key,(f x).np,(f x).succ.map (·.1))=g (x.key,x.np,x.succ.map (·.1))):
    (updN l k f).map (fun x=>(x.key,x.np,x.succ.map (·.1)))=fA (l.map fun x=>(x.key,x.np,x.succ.map (·.1))) k g:=by
  unfold updN fA
  rw [U1,U1]
  refine Z1 fun y hy=>?_
  show (_,_,_)=if y.key=k then _ else _
  by_cases e:y.key=k
  · simp only [if_pos e];exact h y
  · simp only [if_neg e]
theorem oN (l:List NI) (k:Int) (f:NI→NI) (h:∀x,(f x).key=x.key):(updN l k f).map (·.key)=l.map (·.key):=by
  unfold updN
  rw [U1]
  refine Z1 fun y hy=>?_
  show (if y.key=k then f y else y).key=y.key
  by_cases e:y.key=k
  · rw [if_pos e,h]
  · rw [if_neg e]
noncomputable def f6 (l:List NI):List (Int × Nat × Value):=l.map fun x=>(x.key,x.tk,.ref x.a)
theorem am (G:So):G.tab=f6 G.nodes:=rfl
theorem eR (l:List NI) (k:Int) (f:NI→NI) (h:∀x,(f x).key=x.key∧(f x).tk=x.tk∧(f x).a=x.a):f6 (updN l k f)=f6 l:=by
  unfold f6 updN
  rw [U1]
  refine Z1 fun y hy=>?_
  show ((if y.key=k then f y else y).key,(if y.key=k then f y else y).tk,Value.ref (if y.key=k then f y else y).a)=_
  by_cases e:y.key=k
  · rw [if_pos e,(h y).1,(h y).2.1,(h y).2.2]
  · rw [if_neg e]
theorem na {pre post:List NI} {x:NI} {f:NI→NI} (h:((pre++x::post).map (·.key)).Nodup):updN (pre++x::post) x.key f=pre++f x::post:=by
  have hne:∀y,y∈pre∨y∈post→y.key≠x.key:=by
    rw [A0,H0] at h
    obtain ⟨h1,h2,h3⟩:=P3.mp h
    obtain ⟨h4,h5⟩:=S1.mp h2
    rintro y (hy | hy) e
    · exact h3 _ (X0 hy) _ (.head _) e
    · exact h4 (e▸X0 hy)
  unfold updN
  rw [A0,H0,if_pos rfl]
  congr 1
  · exact (Z1 fun y hy=>if_neg (hne y (.inl hy))).trans (B5 _)
  · congr 1
    exact (Z1 fun y hy=>if_neg (hne y (.inr hy))).trans (B5 _)
theorem m9 {l:List NI} {x:NI} (hx:x∈l) (hk:(l.map (·.key)).Nodup) (q:NI→Nat × Obj):∃R:af,(l.map q).Perm (q x::R)∧∀f:NI→NI,((updN l x.key f).map q).Perm (q (f x)::R):=by
  obtain ⟨pre,post,rfl⟩:=M6 hx
  refine ⟨pre.map q++post.map q,?_,fun f=>?_⟩
  · rw [A0,H0];exact A2
  · rw [na hk,A0,H0];exact A2
theorem lW {l:List NI} {k:Int} {f:NI→NI} {q:NI→Nat × Obj} (h:∀x,q (f x)=q x):(updN l k f).map q=l.map q:=by
  unfold updN
  rw [U1]
  refine Z1 fun y hy=>?_
  show q (if y.key=k then f y else y)=q y
  by_cases e:y.key=k
  · rw [if_pos e,h]
  · rw [if_neg e]
theorem fU (A:List AN) (k:Int) (f:AN→AN) (hf:∀x,(f x).1=x.1):(fA A k f).map (·.1)=A.map (·.1):=by
  unfold fA
  rw [U1]
  refine Z1 fun y hy=>?_
  show (if y.1=k then f y else y).1=y.1
  by_cases e:y.1=k
  · rw [if_pos e,hf]
  · rw [if_neg e]
theorem Is.updN {G:So} {A:List AN} {c c':Nat} (h:Is G A c) (k:Int) (f:NI→NI) (g:AN→AN) (hc:c≤c') (hf:∀x:NI,(f x).key=x.key) (hs:∀x∈G.nodes,x.succ.length≤c→(f x).succ.length≤c') (hg:∀x:NI,((f x).key,(f x).np,(f x).succ.map (·.1))=g (x.key,x.np,x.succ.map (·.1))):
    Is {G with nodes:=Mine.updN G.nodes k f} (fA A k g) c':=by
  refine ⟨?_,?_,?_,?_⟩
  · rw [←h.abs]
    exact rR _ _ _ _ hg
  · show ((Mine.updN G.nodes k f).map (·.key)).Nodup
    rw [oN _ _ _ hf];exact h.keys
  · show (Mine.updN G.nodes k f).length≤c'
    unfold Mine.updN;rw [B0];exact M0 h.bd.1 hc
  · intro x hx
    obtain ⟨y,hy,rfl⟩:=E1.mp hx
    by_cases e:y.key=k
    · simp only [if_pos e];exact hs y hy (h.bd.2 y hy)
    · simp only [if_neg e];exact M0 (h.bd.2 y hy) hc
theorem Is.find {G:So} {A:List AN} {c:Nat} (h:Is G A c) {k:Int} (hk:k∈A.map (·.1)):∃x∈G.nodes,x.key=k∧bC G.tab k=some (.ref x.a):=by
  rcases kG (G:=G) (k:=k) h.keys with ⟨x,h1,h2,h3⟩ | ⟨h1,_⟩
  · exact ⟨x,h1,h2,h3⟩
  · rw [←h.abs] at hk
    obtain ⟨y,hy,e⟩:=E1.mp hk
    obtain ⟨z,hz,rfl⟩:=E1.mp hy
    exact absurd e (h1 z hz)
theorem mV {l:List NI} {y:NI} (hy:y∈l) (hk:(l.map (·.key)).Nodup):(l.map fun x=>(x.key,x.np,x.succ.map (·.1))).find? (·.1==y.key)=some (y.key,y.np,y.succ.map (·.1)):=by
  induction l with
  | nil=>cases hy
  | cons z l ih=>
    rw [H0,S1] at hk
    rw [H0,B6]
    by_cases e:z.key=y.key
    · rw [show ((z.key,z.np,z.succ.map (·.1)).1==y.key)=true by simpa using e]
      rcases Z0.mp hy with rfl | hy
      · rfl
      · exact absurd (e▸X0 hy) hk.1
    · rw [show ((z.key,z.np,z.succ.map (·.1)).1==y.key)=false by simpa using e]
      rcases Z0.mp hy with rfl | hy
      · exact absurd rfl e
      · exact ih hy hk.2
theorem Is.npOf {G:So} {A:List AN} {c:Nat} (h:Is G A c) {y:NI} (hy:y∈G.nodes):npOf A y.key=y.np:=by
  rw [←h.abs];unfold Mine.npOf So.abs;rw [mV hy h.keys];rfl
theorem Is.scOf {G:So} {A:List AN} {c:Nat} (h:Is G A c) {y:NI} (hy:y∈G.nodes):scOf A y.key=y.succ.map (·.1):=by
  rw [←h.abs];unfold Mine.scOf So.abs;rw [mV hy h.keys];rfl
theorem ov {l:List NI} {x:NI} {p:Int} (hx:x∈l) (e:x.key=p):cZ (l.map fun x=>(x.key,x.np,x.succ.map (·.1))) p=l.map fun x=>(x.key,x.np,x.succ.map (·.1)):=by
  unfold cZ
  rw [if_pos]
  rw [X6]
  exact ⟨_,X0 hx,by simpa using e⟩
theorem ow {l:List NI} {p:Int} (h:∀x∈l,x.key≠p):cZ (l.map fun x=>(x.key,x.np,x.succ.map (·.1))) p=(l.map fun x=>(x.key,x.np,x.succ.map (·.1)))++ [(p,0,[])]:=by
  unfold cZ
  rw [if_neg]
  rw [X6]
  rintro ⟨y,hy,e⟩
  obtain ⟨z,hz,rfl⟩:=E1.mp hy
  exact h z hz (by simpa using e)
noncomputable abbrev zn (w:World) (b1 b2 b3:Bool) (below:ag) (p:Pos) (N tk:Nat):Run:=rc w b1 b2 b3 [] N tk [] (.call (.ref bM) ⟨[],[]⟩) below p [0,0,0,0,0,0,0,0,0,0,0,0,0,0,0,0,0,0,0,0,0,0,0,2,0,2,0,0,0,0,0,1,0,0,3,3,3,3,0,0,3,2,0,0,0,0,2,0,2,0,2,0,0,0,2,0,1,1,1,3,2,0,0,0,0,2,0,2,0,2,0,0,0,2,0,1,1,1,3,2,0,0,0,0,2,0,2,0,2,0,0,0,2,0,1,1,1,3,2,0,0,0,0,2,0,2,0,2,0,0,0,2,0,1,1,1,3] [0,1,3]
theorem qS (w:World) (b2 b3:Bool) (below:ag) (p:Pos) (N tk:Nat):∀b1,(zn w b1 b2 b3 below p N tk).lhs=(zn w b1 b2 b3 below p N tk).rhs (.ok (.ret (.ref (N+1)))) 4 12 [(N+0,aB w.2 (tk+3) (tk+5) (tk+8) (tk+11) (N+3) .none (.int 0 (tk+6)) (.int 0 (tk+9)) 4),(N+1,aP bM (N+0)),(N+3,ak [] 0)]:=fB (by kernel_rfl!)
theorem qT {w:World} {b1 b2 b3:Bool} {bel:ag→Prop} {F M:af} {Q:Result→af→Prop} (hb:∀l,bel l→l.length≤96) (hp:([]++F).Perm M) (hQ:∀(N tk:Nat),Q (.ok (.ret (.ref (N+1)))) ([(N+0,aB w.2 (tk+3) (tk+5) (tk+8) (tk+11) (N+3) .none (.int 0 (tk+6)) (.int 0 (tk+9)) 4),(N+1,aP bM (N+0)),(N+3,ak [] 0)]++F)):Con w b1 b2 b3 bel (.call (.ref bM) ⟨[],[]⟩) M Q:=
  Con.of fun below p ao=>gW (fun N tk=> []) _ _ _ _ hp aa (M0 (hb _ ao) (by lia)) (fun N tk hN hap=>a8) (fun N tk=>qS w b2 b3 below p N tk b1) (fun _ _=>rfl) (fun N tk=>(hQ N tk))
noncomputable abbrev zt (w:World) (b1 b2 b3:Bool) (s d n2i t1 t2 t3 t4 ep ep':Nat) (rdy pa fi:Value) (l:List (Int × Nat × Value)) (k:Int) (t x:Nat) (below:ag) (p:Pos) (N tk:Nat):Run:=rc w b1 b2 b3 [(s,aP bM d),(d,aB w.2 t1 t2 t3 t4 n2i rdy pa fi ep),(n2i,ak l ep')] N tk [om 2 n2i l ep' k t (.ref x)] (.call (.ref fw) ⟨[.ref s,.int k t],[]⟩) below p [1,0,4,4,4,4,0,0,4,1,0,0,0,0,1,0,0,0,1,1,0,2,3,3,3,3,4,1,4,4,4] [0,1,2]
theorem qY (w:World) (b2 b3:Bool) (s d n2i t1 t2 t3 t4 ep ep':Nat) (rdy pa fi:Value) (l:List (Int × Nat × Value)) (k:Int) (t x:Nat) (below:ag) (p:Pos) (N tk:Nat):∀b1,(zt w b1 b2 b3 s d n2i t1 t2 t3 t4 ep ep' rdy pa fi l k t x below p N tk).lhs=(zt w b1 b2 b3 s d n2i t1 t2 t3 t4 ep ep' rdy pa fi l k t x below p N tk).rhs (.ok (.ret (.ref x))) 1 5 [(s,aP bM d),(d,aB w.2 t1 t2 t3 t4 n2i rdy pa fi ep),(n2i,ak l ep')]:=fB (by kernel_rfl!)
theorem qZ {w:World} {b1 b2 b3:Bool} (s d n2i t1 t2 t3 t4 ep ep':Nat) (rdy pa fi:Value) (l:List (Int × Nat × Value)) (k:Int) (t x:Nat) (hx:bC l k=some (.ref x)) {bel:ag→Prop} {F M:af} {Q:Result→af→Prop} (hb:∀l,bel l→l.length≤96) (hp:([(s,aP bM d),(d,aB w.2 t1 t2 t3 t4 n2i rdy pa fi ep),(n2i,ak l ep')]++F).Perm M) (hQ:∀(N tk:Nat),Q (.ok (.ret (.ref x))) ([(s,aP bM d),(d,aB w.2 t1 t2 t3 t4 n2i rdy pa fi ep),(n2i,ak l ep')]++F)):Con w b1 b2 b3 bel (.call (.ref fw) ⟨[.ref s,.int k t],[]⟩) M Q:=
  Con.of fun below p ao=>gW (fun N tk=> [om 2 n2i l ep' k t (.ref x)]) _ _ _ _ hp aa (M0 (hb _ ao) (by lia)) (fun N tk hN hap=>a9 (fq (yA (hap n2i (by simp)).1) _ _ _ _ (by rw [hx];rfl)) a8) (fun N tk=>qY w b2 b3 s d n2i t1 t2 t3 t4 ep ep' rdy pa fi l k t x below p N tk b1) (fun _ _=>rfl) (fun N tk=>(hQ N tk))
noncomputable abbrev zr (w:World) (b1 b2 b3:Bool) (s d n2i t1 t2 t3 t4 ep ep':Nat) (rdy pa fi:Value) (l:List (Int × Nat × Value)) (k:Int) (t:Nat) (below:ag) (p:Pos) (N tk:Nat):Run:=rc w b1 b2 b3 [(s,aP bM d),(d,aB w.2 t1 t2 t3 t4 n2i rdy pa fi ep),(n2i,ak l ep')] N tk [om 2 n2i l ep' k t .none,pH 2 n2i l ep' k t (.ref (N+2))] (.call (.ref fw) ⟨[.ref s,.int k t],[]⟩) below p [1,0,4,4,4,4,0,0,4,1,0,0,0,0,1,0,0,0,1,1,0,2,3,3,3,3,4,1,4,4,0,4,0,0,0,0,0,0,0,0,0,0,0,0,0,0,0,0,0,0,0,0,0,0,0,0,0,0,0,0,0,0,0,6,0,6,0,0,0,0,0,1,0,7,7,7,7,0,0,7,7,6,0,0,0,0,6,0,6,0,6,0,0,0,0,0,0,0,0,0,6,0,0,0,0,0,6,0,6,7,6,0,0,0,0,6,0,6,0,6,0,0,0,0,0,0,0,0,0,6,0,0,0,0,0,6,0,6,7,6,0,0,0,0,6,0,6,0,6,0,0,0,0,0,0,0,0,0,6,0,0,0,0,0,6,0,6,4,1,0,0,0,0,1,0,0,0,1,1,0,2,4,3,3,2,4,4,4] [0,1,2,5,7]
theorem qW (w:World) (b2 b3:Bool) (s d n2i t1 t2 t3 t4 ep ep':Nat) (rdy pa fi:Value) (l:List (Int × Nat × Value)) (k:Int) (t:Nat) (below:ag) (p:Pos) (N tk:Nat):∀b1,(zr w b1 b2 b3 s d n2i t1 t2 t3 t4 ep ep' rdy pa fi l k t below p N tk).lhs=(zr w b1 b2 b3 s d n2i t1 t2 t3 t4 ep ep' rdy pa fi l k t below p N tk).rhs (.ok (.ret (.ref (N+2)))) 5 14 [(s,aP bM d),(d,aB w.2 t1 t2 t3 t4 n2i rdy pa fi ep),(n2i,ak (l++ [(k,t,.ref (N+2))]) (ep'+1)),(N+2,bg (N+1) k t (.int 0 (tk+8)) (N+4)),(N+4,lst [] 0)]:=fB (by kernel_rfl!)
theorem qX {w:World} {b1 b2 b3:Bool} (s d n2i t1 t2 t3 t4 ep ep':Nat) (rdy pa fi:Value) (l:List (Int × Nat × Value)) (k:Int) (t:Nat) (hx:bC l k=none) (hl:l.length≤1000) {bel:ag→Prop} {F M:af} {Q:Result→af→Prop} (hb:∀l,bel l→l.length≤96) (hp:([(s,aP bM d),(d,aB w.2 t1 t2 t3 t4 n2i rdy pa fi ep),(n2i,ak l ep')]++F).Perm M) (hQ:∀(N tk:Nat),Q (.ok (.ret (.ref (N+2)))) ([(s,aP bM d),(d,aB w.2 t1 t2 t3 t4 n2i rdy pa fi ep),(n2i,ak (l++ [(k,t,.ref (N+2))]) (ep'+1)),(N+2,bg (N+1) k t (.int 0 (tk+8)) (N+4)),(N+4,lst [] 0)]++F)):Con w b1 b2 b3 bel (.call (.ref fw) ⟨[.ref s,.int k t],[]⟩) M Q:=
  Con.of fun below p ao=>gW (fun N tk=> [om 2 n2i l ep' k t .none,pH 2 n2i l ep' k t (.ref (N+2))]) _ _ _ _ hp aa (M0 (hb _ ao) (by lia)) (fun N tk hN hap=>a9 (fq (yA (hap n2i (by simp)).1) _ _ _ _ (by rw [hx];rfl)) (a9 (dF _ _ _ _ _ hx hl) a8)) (fun N tk=>qW w b2 b3 s d n2i t1 t2 t3 t4 ep ep' rdy pa fi l k t below p N tk b1) (fun _ _=>rfl) (fun N tk=>(hQ N tk))
inductive yC {α:Type} (Q:α→af→Prop) (r:α) (L:af):Prop | mk (M F:af) (_:L.Perm (M++F)) (_:Q r M):yC Q r L
theorem Con.lax {w:World} {b1 b2 b3:Bool} {bel:ag→Prop} {c:Code} {L:af} {Q:Result→af→Prop} (h:Con w b1 b2 b3 bel c L (yC Q)):Con w b1 b2 b3 bel c L Q:=Con.out h fun r L' ⟨M,F,a,b⟩=>⟨M,F,a,b⟩
theorem Tr.lax {w:World} {b1 b2 b3:Bool} {Γ:Ctx} {α:Type} {m:Sem α} {L:af} {Q:α→af→Prop} (h:Tr w b1 b2 b3 Γ m L (yC Q)):Tr w b1 b2 b3 Γ m L Q:=Tr.out h fun r L' ⟨M,F,a,b⟩=>⟨M,F,a,b⟩
theorem bK {α:Type} {L M:af} {Q:α→af→Prop} {r:α} (hp:L.Perm M) (h:Q r M):yC Q r L:=⟨M,[],by rw [U0];exact hp,h⟩
structure Hd (G G':So):Prop where
  s:G'.s=G.s
  d:G'.d=G.d
  n2i:G'.n2i=G.n2i
  rdy:G'.rdy=G.rdy
  pas:G'.pas=G.pas
  fin:G'.fin=G.fin
theorem Hd.refl (G:So):Hd G G:=⟨rfl,rfl,rfl,rfl,rfl,rfl⟩
theorem Hd.trans {G G' G'':So} (a:Hd G G') (b:Hd G' G''):Hd G G'':=⟨b.s.trans a.s,b.d.trans a.d,b.n2i.trans a.n2i,b.rdy.trans a.rdy,b.pas.trans a.pas,b.fin.trans a.fin⟩
theorem dC {l:List NI} {x:NI} (hx:x∈l) (hk:(l.map (·.key)).Nodup):∃R:af,(bs l).Perm ((x.a,x.obj)::R)∧∀f:NI→NI,(bs (updN l x.key f)).Perm (((f x).a,(f x).obj)::R):=m9 hx hk _
theorem gO {l:List NI} {x:NI} (hx:x∈l) (hk:(l.map (·.key)).Nodup):∃R:af,(b6 l).Perm ((x.sl,x.lst)::R)∧∀f:NI→NI,(b6 (updN l x.key f)).Perm (((f x).sl,(f x).lst)::R):=m9 hx hk _
theorem qe {l:List NI} {k:Int} {f:NI→NI} (h:∀x,((f x).a,(f x).obj)=(x.a,x.obj)):bs (updN l k f)=bs l:=lW h
theorem gM {l:List NI} {k:Int} {f:NI→NI} (h:∀x,((f x).sl,(f x).lst)=(x.sl,x.lst)):b6 (updN l k f)=b6 l:=lW h
section
variable {w:World} {b1 b2 b3:Bool} {bel:ag→Prop} {F M:af} {Q:Result→af→Prop}
theorem uC (hb:∀l,bel l→l.length≤96) (hp:F.Perm M)
    (hQ:∀G:So,G.rdy= .none→G.pas.1=0→G.fin.1=0→Is G [] 0→Q (.ok (.ret (.ref G.s))) (aU w G++F)):Con w b1 b2 b3 bel (.call (.ref bM) ⟨[],[]⟩) M Q:=by
  refine Con.lax (qT (F:=F) hb hp fun N tk=>bK ?_ (hQ ⟨N+1,N+0,N+3,tk+3,tk+5,tk+8,tk+11,4,0,.none,(0,tk+6),(0,tk+9),[]⟩ rfl rfl rfl ⟨rfl,I4,Y3 _,fun x hx=>nomatch hx⟩))
  exact aO [_,_,_] [_] (.a (.l [0,1,2] .z) (.v 0)) (.a (.a (.l [1,0,2] .z) (.a .z .z)) (.v 0)) rfl
theorem qV (hb:∀l,bel l→l.length≤96) (k:Int) (t:Nat) {G:So} {A:List AN} {c:Nat} (is:Is G A c) (hc:c≤900) (hp:(aU w G++F).Perm M)
    (hQ:∀(G':So) (x:NI),x∈G'.nodes→x.key=k→Hd G G'→Is G' (cZ A k) (c+1)→Q (.ok (.ret (.ref x.a))) (aU w G'++F)):
    Con w b1 b2 b3 bel (.call (.ref fw) ⟨[.ref G.s,.int k t],[]⟩) M Q:=by
  rcases kG (G:=G) (k:=k) is.keys with ⟨x,hx,rfl,hl⟩ | ⟨hne,hl⟩
  · refine Con.lax (qZ (F:=bs G.nodes++b6 G.nodes++F) G.s G.d G.n2i G.t1 G.t2 G.t3 G.t4 G.ep G.ep' G.rdy (iv G.pas) (iv G.fin) G.tab x.key t x.a hl hb (List.Perm.trans ?_ hp) fun N tk=>bK ?_ (hQ G x hx rfl (Hd.refl G) ⟨?_,is.keys,U6 is.bd.1,fun y hy=>U6 (is.bd.2 y hy)⟩))
    · exact aO [_,_,_] [_,_,_] (.a (.l [0,1,2] .z) (.a (.a (.v 0) (.v 1)) (.v 2))) (.a (.a (.l [0,1,2] .z) (.a (.v 0) (.v 1))) (.v 2)) rfl
    · exact aO [_,_,_] [_,_,_] (.a (.l [0,1,2] .z) (.a (.a (.v 0) (.v 1)) (.v 2))) (.a (.a (.l [0,1,2] .z) (.a (.v 0) (.v 1))) (.v 2)) rfl
    · rw [←is.abs]
      exact (ov hx rfl).symm
  · refine Con.lax (qX (F:=bs G.nodes++b6 G.nodes++F) G.s G.d G.n2i G.t1 G.t2 G.t3 G.t4 G.ep G.ep' G.rdy (iv G.pas) (iv G.fin) G.tab k t hl ?_ hb (List.Perm.trans ?_ hp) fun N tk=>?_)
    · have:=is.bd.1;show (G.nodes.map _).length≤1000;rw [B0];exact zb this hc rfl
    · exact aO [_,_,_] [_,_,_] (.a (.l [0,1,2] .z) (.a (.a (.v 0) (.v 1)) (.v 2))) (.a (.a (.l [0,1,2] .z) (.a (.v 0) (.v 1))) (.v 2)) rfl
    · have:=hQ {G with nodes:=G.nodes++ [⟨k,t,N+1,N+2,0,tk+8,N+4,[],0⟩],ep':=G.ep'+1} ⟨k,t,N+1,N+2,0,tk+8,N+4,[],0⟩ (R0 _ (.head _)) rfl ⟨rfl,rfl,rfl,rfl,rfl,rfl⟩ ⟨?_,?_,?_,?_⟩
      · refine bK ?_ this
        have e:f6 (G.nodes++ [⟨k,t,N+1,N+2,0,tk+8,N+4,[],0⟩])=f6 G.nodes++ [(k,t,.ref (N+2))]:=by unfold f6;rw [A0];rfl
        (first | (refine gP fun g=>?_;simp only [Q0,iv,am,aU,cD,So.dict,A0,H0,P0,J5,J3,P6,V4,Q4,e,bs,b6,NI.obj,NI.lst]<;>(first | ac_rfl | omega)) | (refine gP fun g=>?_;simp only [iv,am,aU,cD,So.dict,A0,H0,P0,J5,J3,P6,V4,Q4,e,bs,b6,NI.obj,NI.lst]<;>omega))
      · rw [←is.abs]
        unfold So.abs
        rw [ow hne,A0];rfl
      · rw [A0]
        refine P3.mpr ⟨is.keys,S1.mpr ⟨fun h=>(nomatch h),I4⟩,fun a ha b hb e=>?_⟩
        obtain ⟨y,hy,rfl⟩:=E1.mp ha
        rcases Z0.mp hb with rfl | hb
        · exact hne y hy e
        · cases hb
      · show (G.nodes++ [_]).length≤c+1
        rw [N0];exact A3 is.bd.1
      · intro y hy
        rcases A1.mp hy with hy | hy
        · exact U6 (is.bd.2 y hy)
        · rcases Z0.mp hy with rfl | hy
          · exact Y3 _
          · cases hy
end
section
variable {w:World} {b1 b2 b3:Bool} {bel bel':ag→Prop} {c:Code} {below:ag} {F M:af}
noncomputable abbrev iq:Stmt:=aD 3
noncomputable abbrev i1 (j:Nat):Stmt:=fQ (cC iq) j
noncomputable abbrev mj (it fr:Nat):Code:=.forLoop (.Name wu (d0 iq)) (.ref it) [i1 0,i1 1] [] (be fr)
theorem rO (s t:Nat) (k:Int) {Q:Result→af→Prop} (hb:∀l,bel l→l.length≤96) (hp:([]++F).Perm M) (H:∀(N tk:Nat) (iY:Obj),aJ≤N→FrO w.2 [(s5,.ref s),(sa,.int k t),(s9,.ref (N+0))] [] iY→Con w b1 b2 b3 bel (.func [aD 0,aD 1,aD 2,aD 3] (be (N+1))) ([(N+0,⟨.type "tuple",none,.seq #[] 0,#[]⟩),(N+1,iY)]++F) Q):Con w b1 b2 b3 bel (.call (.ref aM) ⟨[.ref s,.int k t],[]⟩) M Q:=
  Con.of fun below p ao=>aK fun N tk hN=>Stp.loop [1,0,2,2,2,2,2,2,0] [0,1] [] _ 2 3 _ hp (hb _ ao) (fun hap=>a8) rfl (by rfl) ao (H N tk _ hN (fO (bL id 0 [tk+0,tk+1,tk+2]) 3 (#[]))) (rl (by kernel_rfl!))
theorem rM (s t:Nat) (k:Int) (v0:Value) {Q:Result→af→Prop} (hb:∀l,bel l→l.length≤96) (hp:([]++F).Perm M) (H:∀(N tk:Nat) (iY:Obj),aJ≤N→FrO w.2 [(s5,.ref s),(sa,.int k t),(s9,.ref (N+0))] [] iY→Con w b1 b2 b3 bel (.func [aD 0,aD 1,aD 2,aD 3] (be (N+1))) ([(N+0,⟨.type "tuple",none,.seq #[v0] 0,#[]⟩),(N+1,iY)]++F) Q):Con w b1 b2 b3 bel (.call (.ref aM) ⟨[.ref s,.int k t,v0],[]⟩) M Q:=
  Con.of fun below p ao=>aK fun N tk hN=>Stp.loop [1,0,2,2,2,2,2,2,0] [0,1] [] _ 2 3 _ hp (hb _ ao) (fun hap=>a8) rfl (by rfl) ao (H N tk _ hN (fO (bL id 0 [tk+0,tk+1,tk+2]) 3 (#[]))) (rl (by kernel_rfl!))
theorem rL (s t:Nat) (k:Int) (v0 v1:Value) {Q:Result→af→Prop} (hb:∀l,bel l→l.length≤96) (hp:([]++F).Perm M) (H:∀(N tk:Nat) (iY:Obj),aJ≤N→FrO w.2 [(s5,.ref s),(sa,.int k t),(s9,.ref (N+0))] [] iY→Con w b1 b2 b3 bel (.func [aD 0,aD 1,aD 2,aD 3] (be (N+1))) ([(N+0,⟨.type "tuple",none,.seq #[v0,v1] 0,#[]⟩),(N+1,iY)]++F) Q):Con w b1 b2 b3 bel (.call (.ref aM) ⟨[.ref s,.int k t,v0,v1],[]⟩) M Q:=
  Con.of fun below p ao=>aK fun N tk hN=>Stp.loop [1,0,2,2,2,2,2,2,0] [0,1] [] _ 2 3 _ hp (hb _ ao) (fun hap=>a8) rfl (by rfl) ao (H N tk _ hN (fO (bL id 0 [tk+0,tk+1,tk+2]) 3 (#[]))) (rl (by kernel_rfl!))
theorem rK (s t:Nat) (k:Int) (v0 v1 v2:Value) {Q:Result→af→Prop} (hb:∀l,bel l→l.length≤96) (hp:([]++F).Perm M) (H:∀(N tk:Nat) (iY:Obj),aJ≤N→FrO w.2 [(s5,.ref s),(sa,.int k t),(s9,.ref (N+0))] [] iY→Con w b1 b2 b3 bel (.func [aD 0,aD 1,aD 2,aD 3] (be (N+1))) ([(N+0,⟨.type "tuple",none,.seq #[v0,v1,v2] 0,#[]⟩),(N+1,iY)]++F) Q):Con w b1 b2 b3 bel (.call (.ref aM) ⟨[.ref s,.int k t,v0,v1,v2],[]⟩) M Q:=
  Con.of fun below p ao=>aK fun N tk hN=>Stp.loop [1,0,2,2,2,2,2,2,0] [0,1] [] _ 2 3 _ hp (hb _ ao) (fun hap=>a8) rfl (by rfl) ao (H N tk _ hN (fO (bL id 0 [tk+0,tk+1,tk+2]) 3 (#[]))) (rl (by kernel_rfl!))
theorem rJ (s t:Nat) (k:Int) (v0 v1 v2 v3:Value) {Q:Result→af→Prop} (hb:∀l,bel l→l.length≤96) (hp:([]++F).Perm M) (H:∀(N tk:Nat) (iY:Obj),aJ≤N→FrO w.2 [(s5,.ref s),(sa,.int k t),(s9,.ref (N+0))] [] iY→Con w b1 b2 b3 bel (.func [aD 0,aD 1,aD 2,aD 3] (be (N+1))) ([(N+0,⟨.type "tuple",none,.seq #[v0,v1,v2,v3] 0,#[]⟩),(N+1,iY)]++F) Q):Con w b1 b2 b3 bel (.call (.ref aM) ⟨[.ref s,.int k t,v0,v1,v2,v3],[]⟩) M Q:=
  Con.of fun below p ao=>aK fun N tk hN=>Stp.loop [1,0,2,2,2,2,2,2,0] [0,1] [] _ 2 3 _ hp (hb _ ao) (fun hap=>a8) rfl (by rfl) ao (H N tk _ hN (fO (bL id 0 [tk+0,tk+1,tk+2]) 3 (#[]))) (rl (by kernel_rfl!))
theorem rI (s t:Nat) (k:Int) (v0 v1 v2 v3 v4:Value) {Q:Result→af→Prop} (hb:∀l,bel l→l.length≤96) (hp:([]++F).Perm M) (H:∀(N tk:Nat) (iY:Obj),aJ≤N→FrO w.2 [(s5,.ref s),(sa,.int k t),(s9,.ref (N+0))] [] iY→Con w b1 b2 b3 bel (.func [aD 0,aD 1,aD 2,aD 3] (be (N+1))) ([(N+0,⟨.type "tuple",none,.seq #[v0,v1,v2,v3,v4] 0,#[]⟩),(N+1,iY)]++F) Q):Con w b1 b2 b3 bel (.call (.ref aM) ⟨[.ref s,.int k t,v0,v1,v2,v3,v4],[]⟩) M Q:=
  Con.of fun below p ao=>aK fun N tk hN=>Stp.loop [1,0,2,2,2,2,2,2,0] [0,1] [] _ 2 3 _ hp (hb _ ao) (fun hap=>a8) rfl (by rfl) ao (H N tk _ hN (fO (bL id 0 [tk+0,tk+1,tk+2]) 3 (#[]))) (rl (by kernel_rfl!))
theorem rH (s t:Nat) (k:Int) (v0 v1 v2 v3 v4 v5:Value) {Q:Result→af→Prop} (hb:∀l,bel l→l.length≤96) (hp:([]++F).Perm M) (H:∀(N tk:Nat) (iY:Obj),aJ≤N→FrO w.2 [(s5,.ref s),(sa,.int k t),(s9,.ref (N+0))] [] iY→Con w b1 b2 b3 bel (.func [aD 0,aD 1,aD 2,aD 3] (be (N+1))) ([(N+0,⟨.type "tuple",none,.seq #[v0,v1,v2,v3,v4,v5] 0,#[]⟩),(N+1,iY)]++F) Q):Con w b1 b2 b3 bel (.call (.ref aM) ⟨[.ref s,.int k t,v0,v1,v2,v3,v4,v5],[]⟩) M Q:=
  Con.of fun below p ao=>aK fun N tk hN=>Stp.loop [1,0,2,2,2,2,2,2,0] [0,1] [] _ 2 3 _ hp (hb _ ao) (fun hap=>a8) rfl (by rfl) ao (H N tk _ hN (fO (bL id 0 [tk+0,tk+1,tk+2]) 3 (#[]))) (rl (by kernel_rfl!))
theorem rG (s t:Nat) (k:Int) (v0 v1 v2 v3 v4 v5 v6:Value) {Q:Result→af→Prop} (hb:∀l,bel l→l.length≤96) (hp:([]++F).Perm M) (H:∀(N tk:Nat) (iY:Obj),aJ≤N→FrO w.2 [(s5,.ref s),(sa,.int k t),(s9,.ref (N+0))] [] iY→Con w b1 b2 b3 bel (.func [aD 0,aD 1,aD 2,aD 3] (be (N+1))) ([(N+0,⟨.type "tuple",none,.seq #[v0,v1,v2,v3,v4,v5,v6] 0,#[]⟩),(N+1,iY)]++F) Q):Con w b1 b2 b3 bel (.call (.ref aM) ⟨[.ref s,.int k t,v0,v1,v2,v3,v4,v5,v6],[]⟩) M Q:=
  Con.of fun below p ao=>aK fun N tk hN=>Stp.loop [1,0,2,2,2,2,2,2,0] [0,1] [] _ 2 3 _ hp (hb _ ao) (fun hap=>a8) rfl (by rfl) ao (H N tk _ hN (fO (bL id 0 [tk+0,tk+1,tk+2]) 3 (#[]))) (rl (by kernel_rfl!))
theorem yr (fr:Nat) (k:Int) (t tu:Nat) (s d n2i t1 t2 t3 t4 ep:Nat) (pa fi:Value) {al:Obj} (ai:FrO w.2 [(s5,.ref s),(sa,.int k t),(s9,.ref tu)] [] al) {Q:Flow→af→Prop} (hb:below.length≤96) (hp:([(fr,al),(s,aP bM d),(d,aB w.2 t1 t2 t3 t4 n2i .none pa fi ep)]++F).Perm M) (H:∀(N tk:Nat) (aq:Obj),FrO w.2 [(s5,.ref s),(sa,.int k t),(s9,.ref tu)] [] aq→Q (.next) ([(fr,aq),(s,aP bM d),(d,aB w.2 t1 t2 t3 t4 n2i .none pa fi ep)]++F)):Tr w b1 b2 b3 (cx c below) (execs [aD 0] (be fr)) M Q:=
  Tr.st fun p=>aZ ai hp fun aw ah aj av=>aK fun N tk hN=>Stp.fin [1,2,0,0,0,0,2,0,0,0,2,2,0,3] [0,1,2] [] _ 0 1 _ av aa hb (fun hap=>a8) rfl ⟨_,rfl,(H N tk _ (fO aw ah aj))⟩ (rf (by kernel_rfl!))
theorem yq (fr:Nat) (k:Int) (t tu:Nat) (s d n2i t1 t2 t3 t4 ep:Nat) (pa fi:Value) {al:Obj} (ai:FrO w.2 [(s5,.ref s),(sa,.int k t),(s9,.ref tu)] [] al) {Q:Flow→af→Prop} (hb:below.length≤96) (au:∀l:ag,l.length≤below.length+9→bel' l) (hp:([(fr,al),(s,aP bM d),(d,aB w.2 t1 t2 t3 t4 n2i .none pa fi ep)]++F).Perm M) (H:∀(N tk:Nat) (aq:Obj),aJ≤N→FrO w.2 [(s5,.ref s),(sa,.int k t),(s9,.ref tu)] [] aq→Con w b1 b2 b3 bel' (.call (.ref fw) ⟨[.ref s,.int k t],[]⟩) ([(fr,aq),(s,aP bM d),(d,aB w.2 t1 t2 t3 t4 n2i .none pa fi ep)]++F) fun r L₂=>∃(x:Nat) (cb:Obj) (X1:af),r= .ok (.ret (.ref x))∧FrO w.2 [(s5,.ref s),(sa,.int k t),(s9,.ref tu)] [] cb∧([(fr,cb)]++X1).Perm L₂∧(∀(N1 tk1:Nat) (iX:Obj),FrO w.2 [(s5,.ref s),(sa,.int k t),(s9,.ref tu),(sh,.ref x)] [] iX→Q (.next) ([(fr,iX)]++X1))):Tr w b1 b2 b3 (cx c below) (execs [aD 1] (be fr)) M Q:=
  Tr.st fun p=>aZ ai hp fun aw ah aj av=>aK fun N tk hN=>Stp.at [1,2,0,0,0,2,0,0,0,2,0,0,0,0,2,3,1,0] [0,1,2] [] _ 0 0 _ av aa hb (fun hap=>a8) rfl au (H N tk _ hN (fO aw ah aj)) (fun r L₂ hq=>pE hq fun x cb X1 hh1=>aZ hh1.2.1 hh1.2.2.1 fun eP bZ ea bO=>c9 hh1.1 fun aQ N1 tk1 hN=>Stp.fin [1,1] [0] [] _ 0 1 _ bO aQ hb (fun hap=>a8) rfl ⟨_,rfl,(hh1.2.2.2 N1 tk1 _ (fO (bL eP 3 [tk1+0]) (bZ+1) ea))⟩ (rf (by kernel_rfl!))) (ra (by kernel_rfl!))
theorem yp (fr:Nat) (k:Int) (t tu s x xd:Nat) (kx:Int) (tx:Nat) (np:Int) (u sl:Nat) (vs:List Value) (hv:vs.length≤1000) {al:Obj} (ai:FrO w.2 [(s5,.ref s),(sa,.int k t),(s9,.ref tu),(sh,.ref x)] [] al) {Q:Flow→af→Prop} (hb:below.length≤96) (hp:([(fr,al),(x,bg xd kx tx (.int np u) sl),(tu,aS vs)]++F).Perm M) (H:∀(N tk:Nat) (aq:Obj),FrO w.2 [(s5,.ref s),(sa,.int k t),(s9,.ref tu),(sh,.ref x)] [] aq→Q (.next) ([(fr,aq),(x,bg xd kx tx (.int (np+(vs.length:Nat)) (tk+3)) sl),(tu,aS vs)]++F)):Tr w b1 b2 b3 (cx c below) (execs [aD 2] (be fr)) M Q:=
  Tr.st fun p=>aZ ai hp fun aw ah aj av=>aK fun N tk hN=>Stp.fin [1,2,0,0,0,0,2,0,0,0,0,0,0,0,0,0,0,0,0,2,0,0,0,0,0,2,0,2,0,0,1,1,2,2,0,0,0,0,2,0,2,0,2,0,0,0,0,0,0,0,0,0,2,0,0,0,0,0,2,0,2] [0,1,2] [pN 2 tu vs (tk+1),on np (vs.length:Nat) u (tk+2) (tk+3)] _ 0 5 _ av aa hb (fun hap=>a9 (eL _ _ hv) (a9 (cU _ _ _ _ _) a8)) rfl ⟨_,rfl,(H N tk _ (fO aw ah aj))⟩ (rf (by kernel_rfl!))
theorem yo (fr:Nat) (k:Int) (t tu s x:Nat) (vs:List Value) {al:Obj} (ai:FrO w.2 [(s5,.ref s),(sa,.int k t),(s9,.ref tu),(sh,.ref x)] [] al) {Q:Flow→af→Prop} (hb:below.length≤96) (au:∀l:ag,l.length≤below.length+9→bel' l) (hp:([(fr,al),(tu,aS vs)]++F).Perm M) (H:∀(N tk:Nat) (aq:Obj),aJ≤N→FrO w.2 [(s5,.ref s),(sa,.int k t),(s9,.ref tu),(sh,.ref x)] [] aq→Con w b1 b2 b3 bel' (mj (N+0) fr) ([(fr,aq),(tu,aS vs),(N+0,b8 "tuple_iterator" (.ref tu) 0)]++F) fun r L₂=>r= .ok .next∧Q (.next) L₂):Tr w b1 b2 b3 (cx c below) (execs [aD 3] (be fr)) M Q:=
  Tr.st fun p=>aZ ai hp fun aw ah aj av=>aK fun N tk hN=>Stp.at [1,2,2,0,2,3] [0,1,2] [] _ 1 0 _ av aa hb (fun hap=>a8) rfl au (H N tk _ hN (fO aw ah aj)) (fun r L₂ hq=>c9 hq.1 fun aQ N1 tk1 hN=>Stp.fin [] [] [] _ 0 0 [] (E0 ([]++L₂)) aQ hb (fun hap=>a8) rfl ⟨_,rfl,((fun _ _=>hq.2) N1 tk1)⟩ (rf (by kernel_rfl!))) (ra (by kernel_rfl!))
theorem yn (fr:Nat) (k:Int) (t tu x:Nat) (kk:Int) (kt:Nat) (s d n2i t1 t2 t3 t4 ep:Nat) (pa fi:Value) {al:Obj} (ai:FrO w.2 [(s5,.ref s),(sa,.int k t),(s9,.ref tu),(sh,.ref x)] [[wu,yR]] al) {Q:Flow→af→Prop} (hb:below.length≤96) (au:∀l:ag,l.length≤below.length+9→bel' l) (hp:([(fr,al),(s,aP bM d),(d,aB w.2 t1 t2 t3 t4 n2i .none pa fi ep)]++F).Perm M) (H:∀(N tk:Nat) (aq:Obj),aJ≤N→FrO w.2 [(s5,.ref s),(sa,.int k t),(s9,.ref tu),(sh,.ref x),(wu,.int kk kt)] [[yR]] aq→Con w b1 b2 b3 bel' (.call (.ref fw) ⟨[.ref s,.int kk kt],[]⟩) ([(fr,aq),(s,aP bM d),(d,aB w.2 t1 t2 t3 t4 n2i .none pa fi ep)]++F) fun r L₂=>∃(y yd:Nat) (ky:Int) (ty:Nat) (np:Int) (u sl:Nat) (vs:List Value) (ve:Nat) (cb:Obj) (X1:af),vs.length≤1000∧r= .ok (.ret (.ref y))∧FrO w.2 [(s5,.ref s),(sa,.int k t),(s9,.ref tu),(sh,.ref x),(wu,.int kk kt)] [[yR]] cb∧([(fr,cb),(y,bg yd ky ty (.int np u) sl),(sl,lst vs ve)]++X1).Perm L₂∧(∀(N1 tk1:Nat) (iX:Obj),FrO w.2 [(s5,.ref s),(sa,.int k t),(s9,.ref tu),(sh,.ref x)] [[wu,yR]] iX→Q (.next) ([(fr,iX),(y,bg yd ky ty (.int np u) sl),(sl,lst (vs++ [.int k t]) (ve+1))]++X1))):Tr w b1 b2 b3 (cx c below) (assign (.Name wu (d0 iq)) (be fr) (.int kk kt)>>=fun _=>execs [i1 0,i1 1] (be fr)) M Q:=
  Tr.as fun p=>or2 ai (fun h00=>aZ h00 hp fun aw ah aj av=>aK fun N tk hN=>Stp.at [1,1,1,2,0,0,0,2,0,0,0,2,0,0,0,0,2,3,1,0] [0,1,2] [] _ 0 1 _ av aa hb (fun hap=>a8) rfl au (H N tk _ hN (fO (bL aw 4 [tk+0]) (ah+1) aj)) (fun r L₂ hq=>ex8 hq fun y yd ky ty np u sl vs hh1=>pE hh1 fun ve cb X1 hh1=>have hl:=hh1.1;li hh1.2.2.1 (fun h10=>aZ h10 hh1.2.2.2.1 fun eP bZ ea bO=>c9 hh1.2.1 fun aQ N1 tk1 hN=>Stp.fin [1,1,1,2,0,0,0,0,2,0,0,0,0,0,0,0,0,0,0,0,0,2,0,0,0,0,0,2,0,2,3,3,3,3,1,1] [0,1,2] [jj 2 sl vs ve (.int k t)] _ 0 2 _ bO aQ hb (fun hap=>a9 (bz _ _ _ hl) a8) rfl ⟨_,rfl,(hh1.2.2.2.2 N1 tk1 _ (vP (.int kk kt) (.ref y) (fO (bL eP 5 [tk1+0]) (bZ+1) ea)))⟩ (rf (by kernel_rfl!))) (fun o10_0 h10=>aZ h10 hh1.2.2.2.1 fun eP bZ ea bO=>c9 hh1.2.1 fun aQ N1 tk1 hN=>Stp.fin [1,1,1,2,0,0,0,0,2,0,0,0,0,0,0,0,0,0,0,0,0,2,0,0,0,0,0,2,0,2,3,3,3,3,1,1] [0,1,2] [jj 2 sl vs ve (.int k t)] _ 0 2 _ bO aQ hb (fun hap=>a9 (bz _ _ _ hl) a8) rfl ⟨_,rfl,(hh1.2.2.2.2 N1 tk1 _ (vP (.int kk kt) (.ref y) (fO eP bZ ea)))⟩ (rf (by kernel_rfl!)))) (ra (by kernel_rfl!))) (fun o00_0 o00_1 h00=>aZ h00 hp fun aw ah aj av=>aK fun N tk hN=>Stp.at [1,1,1,2,0,0,0,2,0,0,0,2,0,0,0,0,2,3,1,0] [0,1,2] [] _ 0 1 _ av aa hb (fun hap=>a8) rfl au (H N tk _ hN (fR o00_1 (fO aw ah aj))) (fun r L₂ hq=>ex8 hq fun y yd ky ty np u sl vs hh1=>pE hh1 fun ve cb X1 hh1=>have hl:=hh1.1;li hh1.2.2.1 (fun h10=>aZ h10 hh1.2.2.2.1 fun eP bZ ea bO=>c9 hh1.2.1 fun aQ N1 tk1 hN=>Stp.fin [1,1,1,2,0,0,0,0,2,0,0,0,0,0,0,0,0,0,0,0,0,2,0,0,0,0,0,2,0,2,3,3,3,3,1,1] [0,1,2] [jj 2 sl vs ve (.int k t)] _ 0 2 _ bO aQ hb (fun hap=>a9 (bz _ _ _ hl) a8) rfl ⟨_,rfl,(hh1.2.2.2.2 N1 tk1 _ (vP (.int kk kt) (.ref y) (fO (bL eP 5 [tk1+0]) (bZ+1) ea)))⟩ (rf (by kernel_rfl!))) (fun o10_0 h10=>aZ h10 hh1.2.2.2.1 fun eP bZ ea bO=>c9 hh1.2.1 fun aQ N1 tk1 hN=>Stp.fin [1,1,1,2,0,0,0,0,2,0,0,0,0,0,0,0,0,0,0,0,0,2,0,0,0,0,0,2,0,2,3,3,3,3,1,1] [0,1,2] [jj 2 sl vs ve (.int k t)] _ 0 2 _ bO aQ hb (fun hap=>a9 (bz _ _ _ hl) a8) rfl ⟨_,rfl,(hh1.2.2.2.2 N1 tk1 _ (vP (.int kk kt) (.ref y) (fO eP bZ ea)))⟩ (rf (by kernel_rfl!)))) (ra (by kernel_rfl!)))
end
section
variable {w:World} {b1 b2 b3:Bool} {bel:ag→Prop} {F M:af} {Q:Result→af→Prop}
noncomputable abbrev frA (w:World) (s x tu:Nat) (k:Int) (t:Nat) (F0:Obj):Prop:=FrO w.2 [(s5,.ref s),(sa,.int k t),(s9,.ref tu),(sh,.ref x)] [[wu,yR]] F0
theorem mm (A:List AN) (k p:Int):iL k A p=fA (cZ A p) p fun x=>(x.1,x.2.1,x.2.2++ [k]):=rfl
inductive adI (w:World) (F:af) (k:Int) (t:Nat) (ps:List (Int × Nat)) (fr:Nat) (tu:Nat) (x:Nat) (G:So) (A:List AN) (c:Nat) (i:Nat) (L:af):Prop | mk (G':So) (F':Obj) (_:L=(fr,F')::(aU w G'++F)) (_:frA w G.s x tu k t F') (_:Hd G G') (_:Is G' (((ps.take i).map (·.1)).foldl (iL k) A) (c+2 * i)):adI w F k t ps fr tu x G A c i L
theorem rA (hb:∀l,bel l→l.length≤80) (k:Int) (t:Nat) (ps:List (Int × Nat)) (fr it tu x:Nat) {G:So} {A:List AN} {c:Nat} {F0:Obj} (is:Is G A c) (hr:G.rdy= .none) (hc:c+2 * ps.length≤900) (hF:frA w G.s x tu k t F0)
    (hp:([(it,b8 "tuple_iterator" (.ref tu) 0),(tu,aS (ps.map iv)),(fr,F0)]++(aU w G++F)).Perm M)
    (hQ:∀(G':So),Hd G G'→Is G' ((ps.map (·.1)).foldl (iL k) A) (c+2 * ps.length)→Q (.ok .next) (aU w G'++F)):Con w b1 b2 b3 bel (mj it fr) M Q:=by
  have hb':∀l,bel l→l.length≤96:=fun l h=>M0 (hb l h) (by decide)
  refine Con.perm ?_ hp
  refine Con.perm (L:= [(it,b8 "tuple_iterator" (.ref tu) 0),(tu,aS (ps.map iv))]++((fr,F0)::(aU w G++F))) ?_ (by exact aO [_,_,_] [_,_] (.a (.l [0,1] .z) (.l [2] (.a (.v 0) (.v 1)))) (.a (.l [0,1,2] .z) (.a (.v 0) (.v 1))) rfl)
  refine Con.lax (dS (adI w F k t ps fr tu x G A c) hb' (Iter.tuple it tu (ps.map iv)) ?_ ?_ ps.length 0 _ (by rw [B0];exact (P2 _).symm) ⟨G,F0,rfl,hF,Hd.refl G,is⟩)
  · rintro i q hq v rfl L ⟨G',F',rfl,hF',hd,is'⟩ below ao
    rw [V0] at hq
    obtain ⟨⟨kk,kt⟩,hps,rfl⟩:=V2.mp hq
    have hi:i < ps.length:=(C1.mp hps).1
    refine yn fr k t tu x kk kt G'.s G'.d G'.n2i G'.t1 G'.t2 G'.t3 G'.t4 G'.ep (iv G'.pas) (iv G'.fin) (al:=F') (by rw [hd.s];exact hF') (hb' _ ao) (bel':=fun l=>l.length≤96) (fun l hl=>by have:=hb _ ao;exact eA hl this rfl) (F:= [(it,b8 "tuple_iterator" (.ref tu) (i+1)),(tu,aS (ps.map iv)),(G'.n2i,ak G'.tab G'.ep')]++(bs G'.nodes++b6 G'.nodes++F)) ?_ ?_
    · have e:=hd.rdy.trans hr
      exact bk [_,_,_,_,_,_,_] [_,_,_] (.a (.l [0,1,2] .z) (.a (.l [3,4,5] .z) (.a (.a (.v 0) (.v 1)) (.v 2)))) (.a (.l [3,4] .z) (.l [0] (.a (.a (.l [1,6,5] .z) (.a (.v 0) (.v 1))) (.v 2)))) (.l [2] .z) (.l [6] .z) ((pe (by simp only [e,iv,am,aU,cD,So.dict,NI.obj,NI.lst,Q0,A0,H0,P0]))) rfl
    · intro N tk G0 hN hG0
      refine qV (fun l h=>h) kk kt is' (by lia) (F:= [(it,b8 "tuple_iterator" (.ref tu) (i+1)),(tu,aS (ps.map iv)),(fr,G0)]++F) ?_ ?_
      · have e:=hd.rdy.trans hr
        exact bk [_,_,_,_,_,_,_] [_,_,_] (.a (.a (.l [0,1,2] .z) (.a (.v 0) (.v 1))) (.a (.l [3,4,5] .z) (.v 2))) (.a (.l [5,0,6] .z) (.a (.l [3,4,2] .z) (.a (.a (.v 0) (.v 1)) (.v 2)))) (.l [1] .z) (.l [6] .z) ((pe (by simp only [e,iv,am,aU,cD,So.dict,NI.obj,NI.lst,Q0,A0,H0,P0]))) rfl
      · intro G2 y hy hk hd2 is2
        obtain ⟨R,hR,hR'⟩:=gO hy is2.keys
        obtain ⟨R2,hR2,hR2'⟩:=dC hy is2.keys
        refine ⟨y.a,y.d,y.key,y.tk,y.np,y.npt,y.sl,y.succ.map iv,y.sep,G0,[(it,b8 "tuple_iterator" (.ref tu) (i+1)),(tu,aS (ps.map iv))]++(cD w G2++R++R2++F),?_,rfl,hG0,?_,fun N1 tk1 G1 hG1=>.inl ⟨.inl rfl,?_⟩⟩
        · rw [B0];have:=is2.bd.2 y hy;lia
        · exact bk [_,_,_,_,_,_,_,_] [_,_,_,_,_] (.a (.l [2,1,0] .z) (.a (.l [3,4] .z) (.a (.a (.a (.l [5,6,7] .z) (.v 1)) (.v 3)) (.v 4)))) (.a (.a (.l [5,6,7] .z) (.a (.v 2) (.v 0))) (.a (.l [3,4,2] .z) (.v 4))) (.a (.l [0] (.v 1)) (.l [1] (.v 3))) (.a (.v 0) (.v 2)) (((hR.symm).append (hR2.symm))) rfl
        · let f:NI→NI:=fun z=>{z with succ:=z.succ++ [(k,t)],sep:=z.sep+1}
          have e:f6 (updN G2.nodes y.key f)=f6 G2.nodes:=eR _ _ _ fun z=>⟨rfl,rfl,rfl⟩
          have e2:bs (updN G2.nodes y.key f)=bs G2.nodes:=qe fun z=>rfl
          have h3:=hR' f
          refine ⟨(fr,G1)::(aU w {G2 with nodes:=updN G2.nodes y.key f}++F),?_,{G2 with nodes:=updN G2.nodes y.key f},G1,rfl,by rw [←hd.s];exact hG1,hd.trans ⟨hd2.s,hd2.d,hd2.n2i,hd2.rdy,hd2.pas,hd2.fin⟩,?_⟩
          · have e4:(y.succ++ [(k,t)]).map iv=y.succ.map iv++ [.int k t]:=by rw [A0];rfl
            exact bk [_,_,_,_,_,_,_,_,_,_] [_,_,_,_,_,_] (.a (.l [2,0,3] .z) (.a (.l [4,5] .z) (.a (.a (.a (.l [6,7,8] .z) (.v 3)) (.v 1)) (.v 4)))) (.a (.l [4,5] .z) (.l [2] (.a (.a (.l [6,7,9] .z) (.a (.v 5) (.v 2))) (.v 4)))) (.a (.a (.a (.a (.l [0] (.v 1)) (.l [1] (.v 3))) (.v 0)) (.l [3] .z)) (.l [8] .z)) (.a (.a (.a (.a (.v 0) (.v 2)) (.v 5)) (.l [1] .z)) (.l [9] .z)) (((((((((hR2.symm).append (h3.symm))).append ((P1 (e2 ..)).symm))).append ((pe (by simp only [e,NI.obj,NI.lst,e2,f,e4]))))).append ((pe (by simp only [e,NI.obj,NI.lst,e2,f,e4,iv,am,aU,cD,So.dict,NI.obj,NI.lst,Q0,A0,H0,P0]))))) rfl
          · have hi2:i < ps.length:=hi
            rw [Y1 hi2,A0,H5]
            have e5:ps[i]=(kk,kt):=by have:=hps;rw [O0 hi2] at this;injection this
            rw [e5]
            show Is _ (iL k _ kk) _
            rw [mm,←hk]
            rw [←hk] at is2
            exact is2.updN y.key f (fun x=>(x.1,x.2.1,x.2.2++ [k])) (by exact C5 _) (fun z=>rfl) (fun z _ h=>by show (z.succ++ [(k,t)]).length≤_;rw [N0];exact A3 h) fun z=>by
              show (z.key,z.np,(z.succ++ [(k,t)]).map (·.1))=_
              rw [A0];rfl
  · rintro L ⟨G',F',rfl,hF',hd,is'⟩
    rw [B0,C3] at is'
    exact ⟨_,[(fr,F'),(it,b8 "tuple_iterator" .none (ps.map iv).length),(tu,aS (ps.map iv))],by exact aO [_,_,_] [_,_] (.a (.l [0,1] .z) (.l [2] (.a (.v 0) (.v 1)))) (.a (.a (.v 0) (.v 1)) (.l [2,0,1] .z)) rfl,hQ G' hd is'⟩
end
section
variable {w:World} {b1 b2 b3:Bool} {bel:ag→Prop} {Γ:Ctx} {L M F:af}
inductive rT (w:World) (b1 b2 b3:Bool) (Γ:Ctx) (rest:List Stmt) (env:Env) (Q:Flow→af→Prop) (f:Flow) (L:af):Prop
  | inl (_:f= .next∧Tr w b1 b2 b3 Γ (execs rest env) L Q):rT w b1 b2 b3 Γ rest env Q f L
  | inr (_:f≠.next∧Q f L):rT w b1 b2 b3 Γ rest env Q f L
theorem Tr.cons {s:Stmt} {rest:List Stmt} {env:Env} {Q:Flow→af→Prop} (h:Tr w b1 b2 b3 Γ (execs [s] env) L (rT w b1 b2 b3 Γ rest env Q)):Tr w b1 b2 b3 Γ (execs (s::rest) env) L Q:=by
  refine Tr.seq ((Tr.one h).mono ?_)
  rintro f L' (⟨rfl,h⟩ | ⟨hf,h⟩)
  · exact h
  · cases f
    · exact absurd rfl hf
    all_goals exact h
theorem execs_cons (env:Env) (s:Stmt) (l:List Stmt):execs (s::l) env=(exec s env).bind fun f=>match f with | .next=>execs l env | f=>.pure f:=by
  rfl
theorem dT (env:Env) (rest:List Stmt):∀a:List Stmt,execs (a++rest) env=(execs a env).bind fun f=>match f with | .next=>execs rest env | f=>.pure f
  | []=>rfl
  | s::a=>by
    show (exec s env).bind _=((exec s env).bind _).bind _
    rw [bS]
    congr 1
    funext f
    cases f
    · exact dT env rest a
    all_goals rfl
theorem Tr.app {a rest:List Stmt} {env:Env} {Q:Flow→af→Prop} (h:Tr w b1 b2 b3 Γ (execs a env) L (rT w b1 b2 b3 Γ rest env Q)):Tr w b1 b2 b3 Γ (execs (a++rest) env) L Q:=by
  rw [dT]
  refine Tr.bind (m:=execs a env) (h.mono ?_)
  rintro f L' (⟨rfl,h⟩ | ⟨hf,h⟩)
  · exact h
  · cases f
    · exact absurd rfl hf
    all_goals exact Tr.pure h
end
section
variable {w:World} {b1 b2 b3:Bool} {bel:ag→Prop} {F M:af} {Q:Result→af→Prop}
theorem rB (hb:∀l,bel l→l.length≤70) (k:Int) (t:Nat) (ps:List (Int × Nat)) (fr tu:Nat) {G:So} {A:List AN} {c:Nat} {F0:Obj} (is:Is G A c) (hr:G.rdy= .none) (hc:c+2 * ps.length≤800) (hF:FrO w.2 [(s5,.ref G.s),(sa,.int k t),(s9,.ref tu)] [] F0)
    (hp:([(tu,aS (ps.map iv)),(fr,F0)]++(aU w G++F)).Perm M)
    (hQ:∀(G':So),Hd G G'→Is G' (kz A k (ps.map (·.1))) (c+1+2 * ps.length)→Q (.ok (.ret .none)) (aU w G'++F)):Con w b1 b2 b3 bel (.func [aD 0,aD 1,aD 2,aD 3] (be fr)) M Q:=by
  refine Con.func fun below ao=>?_
  have hbl:=hb _ ao
  refine Tr.cons (yr fr k t tu G.s G.d G.n2i G.t1 G.t2 G.t3 G.t4 G.ep (iv G.pas) (iv G.fin) hF (by exact lk hbl rfl) (F:= [(tu,aS (ps.map iv)),(G.n2i,ak G.tab G.ep')]++(bs G.nodes++b6 G.nodes++F)) ?_ fun N tk F1 hF1=>.inl ⟨rfl,?_⟩)
  · refine List.Perm.trans ?_ hp
    exact bk [_,_,_,_,_,_] [_,_,_] (.a (.l [0,1,2] .z) (.a (.l [3,4] .z) (.a (.a (.v 0) (.v 1)) (.v 2)))) (.a (.l [3,0] .z) (.a (.a (.l [1,5,4] .z) (.a (.v 0) (.v 1))) (.v 2))) (.l [2] .z) (.l [5] .z) ((pe (by simp only [hr,iv,am,aU,cD,So.dict,NI.obj,NI.lst,Q0,A0,H0,P0]))) rfl
  refine Tr.cons (yq fr k t tu G.s G.d G.n2i G.t1 G.t2 G.t3 G.t4 G.ep (iv G.pas) (iv G.fin) hF1 (by exact lk hbl rfl) (bel':=fun l=>l.length≤96) (fun l hl=>by exact eA hl hbl rfl) (E0 _) fun N tk F2 hN hF2=>?_)
  refine qV (fun l h=>h) k t is (by lia) (F:= [(fr,F2),(tu,aS (ps.map iv))]++F) ?_ fun G2 x hx hk hd is2=>?_
  · exact bk [_,_,_,_,_,_] [_,_,_] (.a (.a (.l [0,1,2] .z) (.a (.v 0) (.v 1))) (.a (.l [3,4] .z) (.v 2))) (.a (.l [3,0,5] .z) (.a (.l [4,2] .z) (.a (.a (.v 0) (.v 1)) (.v 2)))) (.l [1] .z) (.l [5] .z) ((pe (by simp only [hr,iv,am,aU,cD,So.dict,NI.obj,NI.lst,Q0,A0,H0,P0]))) rfl
  subst hk
  refine ⟨x.a,F2,aU w G2++([(tu,aS (ps.map iv))]++F),rfl,hF2,by exact aO [_,_] [_,_] (.a (.l [0] .z) (.a (.v 0) (.a (.l [1] .z) (.v 1)))) (.a (.v 0) (.a (.l [0,1] .z) (.v 1))) rfl,fun N1 tk1 F3 hF3=>.inl ⟨rfl,?_⟩⟩
  obtain ⟨R,hR,hR'⟩:=dC hx is2.keys
  refine Tr.cons (yp fr x.key t tu G.s x.a x.d x.key x.tk x.np x.npt x.sl (ps.map iv) (by rw [B0];lia) hF3 (by exact lk hbl rfl) (F:=cD w G2++R++b6 G2.nodes++F) ?_ fun N2 tk2 F4 hF4=>.inl ⟨rfl,?_⟩)
  · exact bk [_,_,_,_,_,_] [_,_,_,_] (.a (.l [1,0,2] .z) (.a (.a (.a (.l [3,4,5] .z) (.v 1)) (.v 2)) (.v 3))) (.a (.l [1] .z) (.a (.a (.l [3,4,5] .z) (.a (.v 0) (.v 2))) (.a (.l [2] .z) (.v 3)))) (.l [0] (.v 1)) (.v 0) (hR.symm) rfl
  let f:NI→NI:=fun z=>{z with np:=z.np+((ps.map iv).length:Nat),npt:=tk2+3}
  have h3:=hR' f
  have e1:f6 (updN G2.nodes x.key f)=f6 G2.nodes:=eR _ _ _ fun z=>⟨rfl,rfl,rfl⟩
  have e2:b6 (updN G2.nodes x.key f)=b6 G2.nodes:=gM fun z=>rfl
  have is3:Is {G2 with nodes:=updN G2.nodes x.key f} (fA (cZ A x.key) x.key fun y=>(y.1,y.2.1+(ps.map (·.1)).length,y.2.2)) (c+1):=is2.updN x.key f _ (S0 _) (fun z=>rfl) (fun z _ h=>h) fun z=>by
    show (z.key,z.np+((ps.map iv).length:Nat),_)=(z.key,z.np+((ps.map (·.1)).length:Nat),_)
    rw [B0,B0]
  refine yo fr x.key t tu G.s x.a (ps.map iv) hF4 (by exact lk hbl rfl) (bel':=fun l=>l.length≤80) (fun l hl=>by exact eA hl hbl rfl) (F:=aU w {G2 with nodes:=updN G2.nodes x.key f}++F) ?_ fun N3 tk3 F5 hN3 hF5=>?_
  · exact bk [_,_,_,_,_,_,_] [_,_,_,_,_] (.a (.l [1,2] .z) (.a (.a (.l [3,4,5] .z) (.a (.v 0) (.v 2))) (.v 3))) (.a (.l [1,0,2] .z) (.a (.a (.a (.l [3,4,6] .z) (.v 1)) (.v 4)) (.v 3))) (.a (.a (.v 0) (.v 2)) (.l [5] .z)) (.a (.a (.l [0] (.v 1)) (.v 4)) (.l [6] .z)) ((((h3.append ((P1 (e2 ..))))).append ((pe (by simp only [NI.obj,e1,e2,f,iv,am,aU,cD,So.dict,NI.obj,NI.lst,Q0,A0,H0,P0]))))) rfl
  have hF6:frA w (So.s {G2 with nodes:=updN G2.nodes x.key f}) x.a tu x.key t F5:=by
    show frA w G2.s x.a tu x.key t F5
    rw [hd.s];exact .inl hF5
  refine rA (bel:=fun l=>l.length≤80) (fun l h=>h) x.key t ps fr (N3+0) tu x.a is3 (hd.rdy.trans hr) (by lia) hF6 (F:=F) ?_ ?_
  · exact aO [_,_,_] [_,_] (.a (.l [0,1,2] .z) (.a (.v 0) (.v 1))) (.a (.l [2,1,0] .z) (.a (.v 0) (.v 1))) rfl
  · intro G' hd' is'
    refine ⟨rfl,hQ G' ?_ is'⟩
    exact ⟨hd'.s.trans hd.s,hd'.d.trans hd.d,hd'.n2i.trans hd.n2i,hd'.rdy.trans hd.rdy,hd'.pas.trans hd.pas,hd'.fin.trans hd.fin⟩
set_option maxHeartbeats 1000000 in
theorem rz (hb:∀l,bel l→l.length≤70) (k:Int) (t:Nat) (ps:List (Int × Nat)) (hps:ps.length≤7) {G:So} {A:List AN} {c:Nat} (is:Is G A c) (hr:G.rdy= .none) (hc:c≤700) (hp:(aU w G++F).Perm M)
    (hQ:∀(G':So),Hd G G'→Is G' (kz A k (ps.map (·.1))) (c+1+2 * ps.length)→Q (.ok (.ret .none)) (aU w G'++F)):Con w b1 b2 b3 bel (.call (.ref aM) ⟨.ref G.s::.int k t::ps.map iv,[]⟩) M Q:=by
  have hb':∀l,bel l→l.length≤96:=fun l h=>M0 (hb l h) (by decide)
  have key:∀(N:Nat) (F0:Obj) (M':af),FrO w.2 [(s5,.ref G.s),(sa,.int k t),(s9,.ref (N+0))] [] F0→([(N+0,aS (ps.map iv)),(N+1,F0)]++M).Perm M'→Con w b1 b2 b3 bel (.func [aD 0,aD 1,aD 2,aD 3] (be (N+1))) M' Q:=
    fun N F0 M' hF0 hM'=>rB hb k t ps (N+1) (N+0) is hr (by lia) hF0 ((List.Perm.append_left _ hp).trans hM') hQ
  rcases ps with _ | ⟨v0,_ | ⟨v1,_ | ⟨v2,_ | ⟨v3,_ | ⟨v4,_ | ⟨v5,_ | ⟨v6,_ | ⟨v7,ps⟩⟩⟩⟩⟩⟩⟩⟩
  · exact rO G.s t k hb' (F:=M) (E0 _) fun N tk F0 hN hF0=>key N F0 _ hF0 (E0 _)
  · exact rM G.s t k (iv v0) hb' (F:=M) (E0 _) fun N tk F0 hN hF0=>key N F0 _ hF0 (E0 _)
  · exact rL G.s t k (iv v0) (iv v1) hb' (F:=M) (E0 _) fun N tk F0 hN hF0=>key N F0 _ hF0 (E0 _)
  · exact rK G.s t k (iv v0) (iv v1) (iv v2) hb' (F:=M) (E0 _) fun N tk F0 hN hF0=>key N F0 _ hF0 (E0 _)
  · exact rJ G.s t k (iv v0) (iv v1) (iv v2) (iv v3) hb' (F:=M) (E0 _) fun N tk F0 hN hF0=>key N F0 _ hF0 (E0 _)
  · exact rI G.s t k (iv v0) (iv v1) (iv v2) (iv v3) (iv v4) hb' (F:=M) (E0 _) fun N tk F0 hN hF0=>key N F0 _ hF0 (E0 _)
  · exact rH G.s t k (iv v0) (iv v1) (iv v2) (iv v3) (iv v4) (iv v5) hb' (F:=M) (E0 _) fun N tk F0 hN hF0=>key N F0 _ hF0 (E0 _)
  · exact rG G.s t k (iv v0) (iv v1) (iv v2) (iv v3) (iv v4) (iv v5) (iv v6) hb' (F:=M) (E0 _) fun N tk F0 hN hF0=>key N F0 _ hF0 (E0 _)
  · exact absurd hps (by simp only [J0];lia)
end
section
variable {w:World} {b1 b2 b3:Bool} {bel bel':ag→Prop} {c:Code} {below:ag} {F M:af}
noncomputable abbrev fH:Stmt:=aT 3
noncomputable abbrev k5 (j:Nat):Stmt:=fQ (cC fH) j
noncomputable abbrev jB (it fr:Nat):Code:=.forLoop (.Name sa (d0 fH)) (.ref it) [k5 0] [] (cF fr)
theorem tU (s:Nat) {Q:Result→af→Prop} (hb:∀l,bel l→l.length≤96) (hp:([]++F).Perm M) (H:∀(N tk:Nat) (aq:Obj),aJ≤N→FrO w.2 [(s5,.ref s)] [] aq→Con w b1 b2 b3 bel (.func [aT 0,aT 1,aT 2,aT 3,aT 4,aT 5,aT 6] (cF (N+0))) ([(N+0,aq)]++F) Q):Con w b1 b2 b3 bel (.call (.ref eY) ⟨[.ref s],[]⟩) M Q:=
  Con.of fun below p ao=>aK fun N tk hN=>Stp.loop [1,0,1,1,0] [0] [] _ 1 1 _ hp (hb _ ao) (fun hap=>a8) rfl (by rfl) ao (H N tk _ hN (fO (bL id 0 [tk+0]) 1 (#[]))) (rl (by kernel_rfl!))
theorem wJ (fr:Nat) (s d n2i r t1 t2 t3 t4 ep:Nat) (pa fi:Value) (vs:List Value) (er:Nat) (hv:vs.length≤1000) {al:Obj} (ai:FrO w.2 [(s5,.ref s)] [] al) {Q:Flow→af→Prop} (hb:below.length≤96) (hp:([(fr,al),(s,aP bM d),(d,aB w.2 t1 t2 t3 t4 n2i (.ref r) pa fi ep),(r,lst vs er)]++F).Perm M) (H:∀(N tk:Nat) (aq:Obj),FrO w.2 [(s5,.ref s),(wv,.ref (N+1)),(sk,.ref n2i)] [] aq→Q (.next) ([(fr,aq),(s,aP bM d),(d,aB w.2 t1 t2 t3 t4 n2i (.ref r) pa fi ep),(r,lst vs er),(N+1,aS vs)]++F)):Tr w b1 b2 b3 (cx c below) (execs [aT 0,aT 1,aT 2] (cF fr)) M Q:=
  Tr.st fun p=>aZ ai hp fun aw ah aj av=>aK fun N tk hN=>Stp.fin [1,2,0,0,0,0,2,0,0,0,2,2,0,3,0,0,1,2,0,0,0,0,2,0,0,0,2,2,0,3,0,1,6,6,0,6,6,1,1,1,2,0,0,0,0,2,0,0,0,2,2,0,3,1,1] [0,1,2,3,5] [xTup 3 r vs er N] _ 2 5 _ av aa hb (fun hap=>a9 (jL vs er N hv) a8) rfl ⟨_,rfl,(H N tk _ (fO (bL aw 1 [tk+2,tk+4]) (ah+1+1) aj))⟩ (rf (by kernel_rfl!))
theorem wI (fr s n2i tu:Nat) (vs:List Value) {al:Obj} (ai:FrO w.2 [(s5,.ref s),(wv,.ref tu),(sk,.ref n2i)] [] al) {Q:Flow→af→Prop} (hb:below.length≤96) (au:∀l:ag,l.length≤below.length+9→bel' l) (hp:([(fr,al),(tu,aS vs)]++F).Perm M) (H:∀(N tk:Nat) (aq:Obj),aJ≤N→FrO w.2 [(s5,.ref s),(wv,.ref tu),(sk,.ref n2i)] [[sa]] aq→Con w b1 b2 b3 bel' (jB (N+0) fr) ([(fr,aq),(tu,aS vs),(N+0,b8 "tuple_iterator" (.ref tu) 0)]++F) fun r L₂=>r= .ok .next∧Q (.next) L₂):Tr w b1 b2 b3 (cx c below) (execs [aT 3] (cF fr)) M Q:=
  Tr.st fun p=>aZ ai hp fun aw ah aj av=>aK fun N tk hN=>Stp.at [1,2,2,0,2,3] [0,1,2] [] _ 1 0 _ av aa hb (fun hap=>a8) rfl au (H N tk _ hN (fO aw ah aj)) (fun r L₂ hq=>c9 hq.1 fun aQ N1 tk1 hN=>Stp.fin [] [] [] _ 0 0 [] (E0 ([]++L₂)) aQ hb (fun hap=>a8) rfl ⟨_,rfl,((fun _ _=>hq.2) N1 tk1)⟩ (rf (by kernel_rfl!))) (ra (by kernel_rfl!))
theorem wG (fr s n2i tu:Nat) (k:Int) (t x xd:Nat) (tx:Nat) (np:Value) (sl:Nat) (l:List (Int × Nat × Value)) (ep':Nat) (hx:bC l k=some (.ref x)) {al:Obj} (ai:FrO w.2 [(s5,.ref s),(wv,.ref tu),(sk,.ref n2i)] [[sa]] al) {Q:Flow→af→Prop} (hb:below.length≤96) (hp:([(fr,al),(n2i,ak l ep'),(x,bg xd k tx np sl)]++F).Perm M) (H:∀(N tk:Nat) (aq:Obj),FrO w.2 [(s5,.ref s),(wv,.ref tu),(sk,.ref n2i)] [[sa]] aq→Q (.next) ([(fr,aq),(n2i,ak l ep'),(x,bg xd k tx (.int (-1) yM) sl)]++F)):Tr w b1 b2 b3 (cx c below) (assign (.Name sa (d0 fH)) (cF fr) (.int k t)>>=fun _=>execs [k5 0] (cF fr)) M Q:=
  Tr.as fun p=>li ai (fun h00=>aZ h00 hp fun aw ah aj av=>aK fun N tk hN=>Stp.fin [1,1,0,1,1,2,2,2,1,3,0,0,0,0,3,0,3,0,3,0,0,0,0,0,0,0,0,0,3,0,0,0,0,0,3,0,3] [0,1,2] [rY 1 n2i l ep' k t (.ref x)] _ 0 3 _ av aa hb (fun hap=>a9 (bp _ _ _ _ hx) a8) rfl ⟨_,rfl,(H N tk _ (fR (.int k t) (fO (bL aw 3 [tk+0]) (ah+1) aj)))⟩ (rf (by kernel_rfl!))) (fun o00_0 h00=>aZ h00 hp fun aw ah aj av=>aK fun N tk hN=>Stp.fin [1,1,0,1,1,2,2,2,1,3,0,0,0,0,3,0,3,0,3,0,0,0,0,0,0,0,0,0,3,0,0,0,0,0,3,0,3] [0,1,2] [rY 1 n2i l ep' k t (.ref x)] _ 0 3 _ av aa hb (fun hap=>a9 (bp _ _ _ _ hx) a8) rfl ⟨_,rfl,(H N tk _ (fR (.int k t) (fO aw ah aj)))⟩ (rf (by kernel_rfl!)))
theorem wH (fr tu:Nat) (s d n2i r t1 t2 t3 t4 ep:Nat) (fi:Value) (vs:List Value) (er:Nat) (pa:Int) (pt:Nat) (hv:vs.length≤1000) {al:Obj} (ai:FrO w.2 [(s5,.ref s),(wv,.ref tu),(sk,.ref n2i)] [[sa]] al) {Q:Flow→af→Prop} (hb:below.length≤96) (hp:([(fr,al),(s,aP bM d),(d,aB w.2 t1 t2 t3 t4 n2i (.ref r) (.int pa pt) fi ep),(r,lst vs er),(tu,aS vs)]++F).Perm M) (H:∀(N tk:Nat),Q (.ret (.ref tu)) ([(s,aP bM d),(d,aB w.2 t1 t2 t3 t4 n2i (.ref r) (.int (pa+(vs.length:Nat)) (tk+4)) fi ep),(r,lst [] (clr er vs)),(tu,aS vs)]++F)):Tr w b1 b2 b3 (cx c below) (execs [aT 4,aT 5,aT 6] (cF fr)) M Q:=
  Tr.st fun p=>li ai (fun h00=>aZ h00 hp fun aw ah aj av=>aK fun N tk hN=>Stp.fin [1,2,0,0,0,0,2,0,0,0,2,2,0,3,4,4,4,4,1,1,2,0,0,0,0,2,0,0,0,2,2,0,3,0,0,1,2,3,2,0,0,0,0,2,0,2,0,2,0,0,0,2,0,3,3,3,1] [1,2,3,4] [yJ 3 r vs er,pN 4 tu vs (tk+2),on pa (vs.length:Nat) pt (tk+3) (tk+4)] _ 0 7 _ av aa hb (fun hap=>a9 (kQ _ _ hv) (a9 (eL _ _ hv) (a9 (cU _ _ _ _ _) a8))) rfl ⟨_,rfl,(H N tk)⟩ (rf (by kernel_rfl!))) (fun o00_0 h00=>aZ h00 hp fun aw ah aj av=>aK fun N tk hN=>Stp.fin [1,2,0,0,0,0,2,0,0,0,2,2,0,3,4,4,4,4,1,1,2,0,0,0,0,2,0,0,0,2,2,0,3,0,0,1,2,3,2,0,0,0,0,2,0,2,0,2,0,0,0,2,0,3,3,3,1] [1,2,3,4] [yJ 3 r vs er,pN 4 tu vs (tk+2),on pa (vs.length:Nat) pt (tk+3) (tk+4)] _ 0 7 _ av aa hb (fun hap=>a9 (kQ _ _ hv) (a9 (eL _ _ hv) (a9 (cU _ _ _ _ _) a8))) rfl ⟨_,rfl,(H N tk)⟩ (rf (by kernel_rfl!)))
end
noncomputable def ig (A:List AN) (k:Int):List AN:=fA A k fun x=>(x.1,-1,x.2.2)
theorem oI (A:List AN) (k:Int):(ig A k).map (·.1)=A.map (·.1):=fU A k _ fun _=>rfl
structure Hr (G G':So):Prop where
  s:G'.s=G.s
  d:G'.d=G.d
  n2i:G'.n2i=G.n2i
  rdy:G'.rdy=G.rdy
theorem cj {α β:Type} (f:β→α→β) (b:β) (l:List α) (i:Nat) (x:α) (h:l[i]?=some x):(l.take (i+1)).foldl f b=f ((l.take i).foldl f b) x:=by
  obtain ⟨hi,e⟩:=C1.mp h
  rw [Y1 hi,H5,e];rfl
section
variable {w:World} {b1 b2 b3:Bool} {bel:ag→Prop} {F M:af} {Q:Result→af→Prop}
noncomputable abbrev frR (w:World) (s tu n2i:Nat) (F0:Obj):Prop:=FrO w.2 [(s5,.ref s),(wv,.ref tu),(sk,.ref n2i)] [[sa]] F0
inductive rdI (w:World) (F:af) (vs:List (Int × Nat)) (fr:Nat) (tu:Nat) (G:So) (A:List AN) (c:Nat) (i:Nat) (L:af):Prop | mk (G':So) (F':Obj) (_:L=(fr,F')::(aU w G'++F)) (_:frR w G.s tu G.n2i F') (_:Hd G G') (_:Is G' (((vs.map (·.1)).take i).foldl ig A) c):rdI w F vs fr tu G A c i L
theorem qm (hb:∀l,bel l→l.length≤80) (vs:List (Int × Nat)) (fr it tu:Nat) {G:So} {A:List AN} {c:Nat} {F0:Obj} (is:Is G A c) (hin:∀q∈vs,q.1∈A.map (·.1)) (hF:frR w G.s tu G.n2i F0)
    (hp:([(it,b8 "tuple_iterator" (.ref tu) 0),(tu,aS (vs.map iv)),(fr,F0)]++(aU w G++F)).Perm M)
    (hQ:∀(G':So) (F':Obj),Hd G G'→Is G' ((vs.map (·.1)).foldl ig A) c→frR w G.s tu G.n2i F'→Q (.ok .next) ([(tu,aS (vs.map iv)),(fr,F')]++(aU w G'++F))):Con w b1 b2 b3 bel (jB it fr) M Q:=by
  have hb':∀l,bel l→l.length≤96:=fun l h=>M0 (hb l h) (by decide)
  refine Con.perm (L:= [(it,b8 "tuple_iterator" (.ref tu) 0),(tu,aS (vs.map iv))]++((fr,F0)::(aU w G++F))) ?_ (List.Perm.trans (by exact aO [_,_,_] [_,_] (.a (.l [0,1] .z) (.l [2] (.a (.v 0) (.v 1)))) (.a (.l [0,1,2] .z) (.a (.v 0) (.v 1))) rfl) hp)
  refine Con.lax (dS (rdI w F vs fr tu G A c) hb' (Iter.tuple it tu (vs.map iv)) ?_ ?_ vs.length 0 _ (by rw [B0];exact (P2 _).symm) ⟨G,F0,rfl,hF,Hd.refl G,is⟩)
  · rintro i q hq v rfl L ⟨G',F',rfl,hF',hd,is'⟩ below ao
    rw [V0] at hq
    obtain ⟨⟨kk,kt⟩,hps,rfl⟩:=V2.mp hq
    have hk0:kk∈(((vs.map (·.1)).take i).foldl ig A).map (·.1):=by
      have:∀(l:List Int) (B:List AN),(l.foldl ig B).map (·.1)=B.map (·.1):=fun l=>by
        induction l with
        | nil=>intro B;rfl
        | cons x l ih=>intro B;rw [Z4,ih,oI]
      rw [this]
      exact hin _ (J1 hps)
    obtain ⟨x,hx,rfl,hl⟩:=is'.find hk0
    obtain ⟨R,hR,hR'⟩:=dC hx is'.keys
    refine wG fr G.s G'.n2i tu x.key kt x.a x.d x.tk (.int x.np x.npt) x.sl G'.tab G'.ep' hl (al:=F') (by rw [hd.n2i];exact hF') (hb' _ ao) (F:= [(it,b8 "tuple_iterator" (.ref tu) (i+1)),(tu,aS (vs.map iv)),(G'.s,aP bM G'.d),(G'.d,G'.dict w)]++(R++b6 G'.nodes++F)) ?_ fun N tk G1 hG1=>.inl ⟨.inl rfl,?_⟩
    · exact bk [_,_,_,_,_,_,_] [_,_,_,_] (.a (.l [1,2,0] .z) (.a (.l [3,4,5,6] .z) (.a (.a (.v 1) (.v 2)) (.v 3)))) (.a (.l [3,4] .z) (.l [1] (.a (.a (.l [5,6,2] .z) (.a (.v 0) (.v 2))) (.v 3)))) (.l [0] (.v 1)) (.v 0) (hR.symm) rfl
    · let f:NI→NI:=fun z=>{z with np:=-1,npt:=yM}
      have e:f6 (updN G'.nodes x.key f)=f6 G'.nodes:=eR _ _ _ fun z=>⟨rfl,rfl,rfl⟩
      have e2:b6 (updN G'.nodes x.key f)=b6 G'.nodes:=gM fun z=>rfl
      have h3:=hR' f
      refine ⟨(fr,G1)::(aU w {G' with nodes:=updN G'.nodes x.key f}++F),?_,{G' with nodes:=updN G'.nodes x.key f},G1,rfl,by rw [←hd.n2i];exact hG1,⟨hd.s,hd.d,hd.n2i,hd.rdy,hd.pas,hd.fin⟩,?_⟩
      · exact bk [_,_,_,_,_,_,_,_] [_,_,_,_,_] (.a (.l [1,2,0] .z) (.a (.l [3,4,5,6] .z) (.a (.a (.v 1) (.v 2)) (.v 3)))) (.a (.l [3,4] .z) (.l [1] (.a (.a (.l [5,6,7] .z) (.a (.v 0) (.v 4))) (.v 3)))) (.a (.a (.l [0] (.v 1)) (.v 2)) (.l [2] .z)) (.a (.a (.v 0) (.v 4)) (.l [7] .z)) (((((h3.symm).append ((P1 (e2 ..)).symm))).append ((pe (by simp only [e,NI.obj,e2,f,iv,am,aU,cD,So.dict,NI.obj,NI.lst,Q0,A0,H0,P0]))))) rfl
      · rw [cj _ _ _ _ x.key (by rw [V0,hps];rfl)]
        exact is'.updN x.key f (fun x=>(x.1,-1,x.2.2)) (S0 _) (fun z=>rfl) (fun z _ h=>h) fun z=>rfl
  · rintro L ⟨G',F',rfl,hF',hd,is'⟩
    rw [B0,G8 (by rw [B0];exact S0 _)] at is'
    exact ⟨_,[(it,b8 "tuple_iterator" .none (vs.map iv).length)],by exact aO [_,_,_] [_,_] (.a (.l [0,1] .z) (.l [2] (.a (.v 0) (.v 1)))) (.a (.a (.l [1,2] .z) (.a (.v 0) (.v 1))) (.l [0] .z)) rfl,hQ G' F' hd is' hF'⟩
theorem m0 (hb:∀l,bel l→l.length≤70) (vs:List (Int × Nat)) (r er:Nat) {G:So} {A:List AN} {c:Nat} (is:Is G A c) (hr:G.rdy= .ref r) (hv:vs.length≤900) (hin:∀q∈vs,q.1∈A.map (·.1)) (hp:([(r,lst (vs.map iv) er)]++(aU w G++F)).Perm M)
    (hQ:∀(G':So) (tu er':Nat),Hr G G'→G'.fin=G.fin→G'.pas.1=G.pas.1+(vs.length:Int)→Is G' ((vs.map (·.1)).foldl ig A) c→Q (.ok (.ret (.ref tu))) ([(tu,aS (vs.map iv)),(r,lst [] er')]++(aU w G'++F))):Con w b1 b2 b3 bel (.call (.ref eY) ⟨[.ref G.s],[]⟩) M Q:=by
  have hb':∀l,bel l→l.length≤96:=fun l h=>M0 (hb l h) (by decide)
  have hlen:(vs.map iv).length≤1000:=by rw [B0];exact lk hv rfl
  refine tU G.s hb' (F:=M) (E0 _) fun N tk F0 hN hF0=>?_
  generalize N+0=fr at *
  refine Con.func fun below ao=>?_
  have hbl:=hb _ ao
  refine Tr.lax ?_
  refine Tr.app (a:= [aT 0,aT 1,aT 2]) (rest:= [aT 3,aT 4,aT 5,aT 6]) (wJ fr G.s G.d G.n2i r G.t1 G.t2 G.t3 G.t4 G.ep (iv G.pas) (iv G.fin) (vs.map iv) er hlen hF0 (by exact lk hbl rfl) (F:= [(G.n2i,ak G.tab G.ep')]++(bs G.nodes++b6 G.nodes++F)) ?_ fun N1 tk1 F1 hF1=>.inl ⟨rfl,?_⟩)
  · exact bk [_,_,_,_,_,_] [_,_,_,_] (.a (.l [4,1,5,0] .z) (.a (.l [3] .z) (.a (.a (.v 0) (.v 1)) (.v 2)))) (.a (.l [4] .z) (.v 3)) (.a (.a (.l [0] .z) (.a (.a (.l [1,2,3] .z) (.a (.v 0) (.v 1))) (.v 2))) (.l [5] .z)) (.a (.v 3) (.l [2] .z)) ((hp.append ((pe (by simp only [hr,iv,am,aU,cD,So.dict,NI.obj,NI.lst,Q0,A0,H0,P0]))))) rfl
  generalize N1+1=tu at *
  refine Tr.cons (wI fr G.s G.n2i tu (vs.map iv) hF1 (by exact lk hbl rfl) (bel':=fun l=>l.length≤80) (fun l hl=>by exact eA hl hbl rfl) (F:= [(r,lst (vs.map iv) er)]++(aU w G++F)) ?_ fun N2 tk2 F2 hN2 hF2=>?_)
  · exact bk [_,_,_,_,_,_,_] [_,_,_] (.a (.l [0,1] .z) (.a (.l [2] .z) (.a (.a (.l [3,4,5] .z) (.a (.v 0) (.v 1))) (.v 2)))) (.a (.l [0,3,6,2,1] .z) (.a (.l [5] .z) (.a (.a (.v 0) (.v 1)) (.v 2)))) (.l [4] .z) (.l [6] .z) ((pe (by simp only [hr,iv,am,aU,cD,So.dict,NI.obj,NI.lst,Q0,A0,H0,P0]))) rfl
  refine qm (bel:=fun l=>l.length≤80) (fun l h=>h) vs fr (N2+0) tu is hin hF2 (F:= [(r,lst (vs.map iv) er)]++F) ?_ fun G' F' hd is' hF'=>⟨rfl,.inl ⟨rfl,?_⟩⟩
  · exact aO [_,_,_,_] [_,_] (.a (.l [0,1,2] .z) (.a (.v 0) (.a (.l [3] .z) (.v 1)))) (.a (.l [2,1,0] .z) (.a (.l [3] .z) (.a (.v 0) (.v 1)))) rfl
  have hr':=hd.rdy.trans hr
  refine wH fr tu G'.s G'.d G'.n2i r G'.t1 G'.t2 G'.t3 G'.t4 G'.ep (iv G'.fin) (vs.map iv) er G'.pas.1 G'.pas.2 hlen (al:=F') (by rw [hd.s,hd.n2i];exact hF') (by exact lk hbl rfl) (F:= [(G'.n2i,ak G'.tab G'.ep')]++(bs G'.nodes++b6 G'.nodes++F)) ?_ fun N3 tk3=>?_
  · exact bk [_,_,_,_,_,_,_] [_,_,_] (.a (.l [0,1,2,3,4] .z) (.a (.l [5] .z) (.a (.a (.v 0) (.v 1)) (.v 2)))) (.a (.l [4,0] .z) (.a (.a (.l [1,6,5] .z) (.a (.v 0) (.v 1))) (.a (.l [3] .z) (.v 2)))) (.l [2] .z) (.l [6] .z) ((pe (by simp only [hr',iv,am,aU,cD,So.dict,NI.obj,NI.lst,Q0,A0,H0,P0]))) rfl
  have:=hQ {G' with pas:=(G'.pas.1+((vs.map iv).length:Nat),tk3+4)} tu (clr er (vs.map iv)) ⟨hd.s,hd.d,hd.n2i,hd.rdy⟩ hd.fin (by show G'.pas.1+_=_;rw [hd.pas,B0]) ⟨is'.abs,is'.keys,is'.bd⟩
  refine bK ?_ this
  exact bk [_,_,_,_,_,_] [_,_,_] (.a (.l [0,1,2,3] .z) (.a (.l [4] .z) (.a (.a (.v 0) (.v 1)) (.v 2)))) (.a (.l [3,2] .z) (.a (.a (.l [0,5,4] .z) (.a (.v 0) (.v 1))) (.v 2))) (.l [1] .z) (.l [5] .z) ((pe (by simp only [hr',iv,am,aU,cD,So.dict,NI.obj,NI.lst,Q0,A0,H0,P0]))) rfl
end
section
variable {w:World} {b1 b2 b3:Bool} {bel bel':ag→Prop} {c:Code} {below:ag} {F M:af}
noncomputable abbrev ef:Stmt:=cQ 2
noncomputable abbrev aF (j:Nat):Stmt:=fQ (cC ef) j
noncomputable abbrev oL (it fr:Nat):Code:=.forLoop (.Name sa (d0 ef)) (.ref it) [aF 0,aF 1,aF 2,aF 3,aF 4,aF 5] [] (aW fr)
noncomputable abbrev eC:Stmt:=aF 4
noncomputable abbrev cg (j:Nat):Stmt:=fQ (cC eC) j
noncomputable abbrev jC (it fr:Nat):Code:=.forLoop (.Name sB (d0 eC)) (.ref it) [cg 0,cg 1,cg 2] [] (aW fr)
theorem uM (s t:Nat) (k:Int) {Q:Result→af→Prop} (hb:∀l,bel l→l.length≤96) (hp:([]++F).Perm M) (H:∀(N tk:Nat) (iY:Obj),aJ≤N→FrO w.2 [(s5,.ref s),(sJ,.ref (N+0))] [] iY→Con w b1 b2 b3 bel (.func [cQ 0,cQ 1,cQ 2] (aW (N+1))) ([(N+0,aS [.int k t]),(N+1,iY)]++F) Q):Con w b1 b2 b3 bel (.call (.ref i6) ⟨[.ref s,.int k t],[]⟩) M Q:=
  Con.of fun below p ao=>aK fun N tk hN=>Stp.loop [1,0,2,2,2,2,0] [0,1] [] _ 2 2 _ hp (hb _ ao) (fun hap=>a8) rfl (by rfl) ao (H N tk _ hN (fO (bL id 0 [tk+0,tk+1]) 2 (#[]))) (rl (by kernel_rfl!))
theorem xP (fr tu:Nat) (s d n2i r t1 t2 t3 t4 ep:Nat) (pa:Value) (fi:Value) {al:Obj} (ai:FrO w.2 [(s5,.ref s),(sJ,.ref tu)] [] al) {Q:Flow→af→Prop} (hb:below.length≤96) (hp:([(fr,al),(s,aP bM d),(d,aB w.2 t1 t2 t3 t4 n2i (.ref r) pa fi ep)]++F).Perm M) (H:∀(N tk:Nat) (aq:Obj),FrO w.2 [(s5,.ref s),(sJ,.ref tu),(sk,.ref n2i)] [] aq→Q (.next) ([(fr,aq),(s,aP bM d),(d,aB w.2 t1 t2 t3 t4 n2i (.ref r) pa fi ep)]++F)):Tr w b1 b2 b3 (cx c below) (execs [cQ 0,cQ 1] (aW fr)) M Q:=
  Tr.st fun p=>aZ ai hp fun aw ah aj av=>aK fun N tk hN=>Stp.fin [1,2,0,0,0,0,2,0,0,0,2,2,0,3,1,2,0,0,0,0,2,0,0,0,2,2,0,3,1,1] [0,1,2] [] _ 0 3 _ av aa hb (fun hap=>a8) rfl ⟨_,rfl,(H N tk _ (fO (bL aw 2 [tk+2]) (ah+1) aj))⟩ (rf (by kernel_rfl!))
theorem xO (fr s n2i tu:Nat) (vs:List Value) {al:Obj} (ai:FrO w.2 [(s5,.ref s),(sJ,.ref tu),(sk,.ref n2i)] [] al) {Q:Flow→af→Prop} (hb:below.length≤96) (au:∀l:ag,l.length≤below.length+9→bel' l) (hp:([(fr,al),(tu,aS vs)]++F).Perm M) (H:∀(N tk:Nat) (aq:Obj),aJ≤N→FrO w.2 [(s5,.ref s),(sJ,.ref tu),(sk,.ref n2i)] [] aq→Con w b1 b2 b3 bel' (oL (N+0) fr) ([(fr,aq),(tu,aS vs),(N+0,b8 "tuple_iterator" (.ref tu) 0)]++F) fun r L₂=>r= .ok .next∧Q (.next) L₂):Tr w b1 b2 b3 (cx c below) (execs [cQ 2] (aW fr)) M Q:=
  Tr.st fun p=>aZ ai hp fun aw ah aj av=>aK fun N tk hN=>Stp.at [1,2,2,0,2,3] [0,1,2] [] _ 1 0 _ av aa hb (fun hap=>a8) rfl au (H N tk _ hN (fO aw ah aj)) (fun r L₂ hq=>c9 hq.1 fun aQ N1 tk1 hN=>Stp.fin [] [] [] _ 0 0 [] (E0 ([]++L₂)) aQ hb (fun hap=>a8) rfl ⟨_,rfl,((fun _ _=>hq.2) N1 tk1)⟩ (rf (by kernel_rfl!))) (ra (by kernel_rfl!))
theorem xN (fr s n2i tu:Nat) (k:Int) (t x xd:Nat) (kx:Int) (tx u sl:Nat) (l:List (Int × Nat × Value)) (ep':Nat) (hx:bC l k=some (.ref x)) {al:Obj} (ai:FrO w.2 [(s5,.ref s),(sJ,.ref tu),(sk,.ref n2i)] [] al) {Q:Flow→af→Prop} (hb:below.length≤96) (hp:([(fr,al),(n2i,ak l ep'),(x,bg xd kx tx (.int (-1) u) sl)]++F).Perm M) (H:∀(N tk:Nat) (aq:Obj),FrO w.2 [(s5,.ref s),(sJ,.ref tu),(sk,.ref n2i),(sa,.int k t),(sh,.ref x),(tN,.int (-1) u)] [] aq→Q (.next) ([(fr,aq),(n2i,ak l ep'),(x,bg xd kx tx (.int (-2) qa) sl)]++F)):Tr w b1 b2 b3 (cx c below) (assign (.Name sa (d0 ef)) (aW fr) (.int k t)>>=fun _=>execs [aF 0,aF 1,aF 2,aF 3] (aW fr)) M Q:=
  Tr.as fun p=>aZ ai hp fun aw ah aj av=>aK fun N tk hN=>Stp.fin [1,1,1,2,2,2,2,1,1,1,1,1,3,0,0,0,0,3,0,0,0,0,0,0,0,0,0,0,0,0,3,0,0,0,0,0,3,0,3,1,1,1,0,0,0,1,3,0,0,0,0,3,0,3,0,3,0,0,0,0,0,0,0,0,0,3,0,0,0,0,0,3,0,3] [0,1,2] [om 1 n2i l ep' k t (.ref x)] _ 0 6 _ av aa hb (fun hap=>a9 (fq (yA (hap n2i (by simp)).1) _ _ _ _ (by rw [hx];rfl)) a8) rfl ⟨_,rfl,(H N tk _ (fO (bL aw 3 [tk+0,tk+(1+(om 1 n2i l ep' k t (.ref x)).toks),tk+4]) (ah+1+1+1) aj))⟩ (rf (by kernel_rfl!))
theorem xM (fr s n2i tu:Nat) (k:Int) (t x xd:Nat) (kx:Int) (tx u sl:Nat) (np:Value) (ss:List Value) (se:Nat) {al:Obj} (ai:FrO w.2 [(s5,.ref s),(sJ,.ref tu),(sk,.ref n2i),(sa,.int k t),(sh,.ref x),(tN,.int (-1) u)] [] al) {Q:Flow→af→Prop} (hb:below.length≤96) (au:∀l:ag,l.length≤below.length+9→bel' l) (hp:([(fr,al),(x,bg xd kx tx np sl),(sl,lst ss se)]++F).Perm M) (H:∀(N tk:Nat) (aq:Obj),aJ≤N→FrO w.2 [(s5,.ref s),(sJ,.ref tu),(sk,.ref n2i),(sa,.int k t),(sh,.ref x),(tN,.int (-1) u)] [[sB,sw]] aq→Con w b1 b2 b3 bel' (jC (N+0) fr) ([(fr,aq),(x,bg xd kx tx np sl),(sl,lst ss se),(N+0,b8 "list_iterator" (.ref sl) 0)]++F) fun r L₂=>r= .ok .next∧Q (.next) L₂):Tr w b1 b2 b3 (cx c below) (execs [aF 4] (aW fr)) M Q:=
  Tr.st fun p=>aZ ai hp fun aw ah aj av=>aK fun N tk hN=>Stp.at [1,2,0,0,0,0,2,0,0,0,0,0,0,0,0,0,0,0,0,2,0,0,0,0,0,2,0,2,3,3,0,3,4] [0,1,2,3] [] _ 1 1 _ av aa hb (fun hap=>a8) rfl au (H N tk _ hN (fO aw ah aj)) (fun r L₂ hq=>c9 hq.1 fun aQ N1 tk1 hN=>Stp.fin [] [] [] _ 0 0 [] (E0 ([]++L₂)) aQ hb (fun hap=>a8) rfl ⟨_,rfl,((fun _ _=>hq.2) N1 tk1)⟩ (rf (by kernel_rfl!))) (ra (by kernel_rfl!))
theorem xK (fr tu:Nat) (s d n2i r t1 t2 t3 t4 ep:Nat) (pa:Value) (fi:Value) (k:Int) (t x u:Nat) (l:List (Int × Nat × Value)) (ep':Nat) (kk:Int) (kt y yd:Nat) (ky:Int) (ty:Nat) (np:Int) (v ysl:Nat) (vs:List Value) (er:Nat) (hx:bC l kk=some (.ref y)) (h0:(np - 1==0)=true) (hv:vs.length≤1000) {al:Obj} (ai:FrO w.2 [(s5,.ref s),(sJ,.ref tu),(sk,.ref n2i),(sa,.int k t),(sh,.ref x),(tN,.int (-1) u)] [[sB,sw]] al) {Q:Flow→af→Prop} (hb:below.length≤96) (hp:([(fr,al),(s,aP bM d),(d,aB w.2 t1 t2 t3 t4 n2i (.ref r) pa fi ep),(n2i,ak l ep'),(y,bg yd ky ty (.int np v) ysl),(r,lst vs er)]++F).Perm M) (H:∀(N tk:Nat) (aq:Obj),FrO w.2 [(s5,.ref s),(sJ,.ref tu),(sk,.ref n2i),(sa,.int k t),(sh,.ref x),(tN,.int (-1) u)] [[sB,sw]] aq→Q (.next) ([(fr,aq),(s,aP bM d),(d,aB w.2 t1 t2 t3 t4 n2i (.ref r) pa fi ep),(n2i,ak l ep'),(y,bg yd ky ty (.int (np - 1) (tk+5)) ysl),(r,lst (vs++ [.int kk kt]) (er+1))]++F)):Tr w b1 b2 b3 (cx c below) (assign (.Name sB (d0 eC)) (aW fr) (.int kk kt)>>=fun _=>execs [cg 0,cg 1,cg 2] (aW fr)) M Q:=
  Tr.as fun p=>or2 ai (fun h00=>aZ h00 hp fun aw ah aj av=>aK fun N tk hN=>Stp.fin [1,1,1,1,4,4,4,1,1,1,1,5,0,0,0,0,5,0,0,0,0,0,0,0,0,0,0,0,0,5,0,0,0,0,0,5,0,5,2,5,0,0,0,0,5,0,5,0,5,0,0,0,0,0,0,0,0,0,5,0,0,0,0,0,5,0,5,1,5,0,0,0,0,5,0,0,0,0,0,0,0,0,0,0,0,0,5,0,0,0,0,0,5,0,5,3,1,2,0,0,0,0,2,0,0,0,2,2,0,3,6,6,6,6,1,4] [0,1,2,3,4,5] [rY 3 n2i l ep' kk kt (.ref y),ol np 1 v (tk+4) (tk+5),kc (np - 1) 0 (tk+5) (tk+8) true,jj 5 r vs er (.int kk kt)] _ 0 10 _ av aa hb (fun hap=>a9 (bp _ _ _ _ hx) (a9 (cS _ _ _ _ _) (a9 (aN _ _ _ _ _ h0) (a9 (bz _ _ _ hv) a8)))) rfl ⟨_,rfl,(H N tk _ (vP (.int kk kt) (.ref y) (fO (bL aw 6 [tk+0,tk+(1+(rY 3 n2i l ep' kk kt (.ref y)).toks)]) (ah+1+1) aj)))⟩ (rf (by kernel_rfl!))) (fun o00_0 o00_1 h00=>aZ h00 hp fun aw ah aj av=>aK fun N tk hN=>Stp.fin [1,1,1,1,4,4,4,1,1,1,1,5,0,0,0,0,5,0,0,0,0,0,0,0,0,0,0,0,0,5,0,0,0,0,0,5,0,5,2,5,0,0,0,0,5,0,5,0,5,0,0,0,0,0,0,0,0,0,5,0,0,0,0,0,5,0,5,1,5,0,0,0,0,5,0,0,0,0,0,0,0,0,0,0,0,0,5,0,0,0,0,0,5,0,5,3,1,2,0,0,0,0,2,0,0,0,2,2,0,3,6,6,6,6,1,4] [0,1,2,3,4,5] [rY 3 n2i l ep' kk kt (.ref y),ol np 1 v (tk+4) (tk+5),kc (np - 1) 0 (tk+5) (tk+8) true,jj 5 r vs er (.int kk kt)] _ 0 10 _ av aa hb (fun hap=>a9 (bp _ _ _ _ hx) (a9 (cS _ _ _ _ _) (a9 (aN _ _ _ _ _ h0) (a9 (bz _ _ _ hv) a8)))) rfl ⟨_,rfl,(H N tk _ (vP (.int kk kt) (.ref y) (fO aw ah aj)))⟩ (rf (by kernel_rfl!)))
theorem xJ (fr tu:Nat) (s d n2i r t1 t2 t3 t4 ep:Nat) (pa:Value) (fi:Value) (k:Int) (t x u:Nat) (l:List (Int × Nat × Value)) (ep':Nat) (kk:Int) (kt y yd:Nat) (ky:Int) (ty:Nat) (np:Int) (v ysl:Nat) (hx:bC l kk=some (.ref y)) (h0:(np - 1==0)=false) {al:Obj} (ai:FrO w.2 [(s5,.ref s),(sJ,.ref tu),(sk,.ref n2i),(sa,.int k t),(sh,.ref x),(tN,.int (-1) u)] [[sB,sw]] al) {Q:Flow→af→Prop} (hb:below.length≤96) (hp:([(fr,al),(s,aP bM d),(d,aB w.2 t1 t2 t3 t4 n2i (.ref r) pa fi ep),(n2i,ak l ep'),(y,bg yd ky ty (.int np v) ysl)]++F).Perm M) (H:∀(N tk:Nat) (aq:Obj),FrO w.2 [(s5,.ref s),(sJ,.ref tu),(sk,.ref n2i),(sa,.int k t),(sh,.ref x),(tN,.int (-1) u)] [[sB,sw]] aq→Q (.next) ([(fr,aq),(s,aP bM d),(d,aB w.2 t1 t2 t3 t4 n2i (.ref r) pa fi ep),(n2i,ak l ep'),(y,bg yd ky ty (.int (np - 1) (tk+5)) ysl)]++F)):Tr w b1 b2 b3 (cx c below) (assign (.Name sB (d0 eC)) (aW fr) (.int kk kt)>>=fun _=>execs [cg 0,cg 1,cg 2] (aW fr)) M Q:=
  Tr.as fun p=>or2 ai (fun h00=>aZ h00 hp fun aw ah aj av=>aK fun N tk hN=>Stp.fin [1,1,1,1,4,4,4,1,1,1,1,5,0,0,0,0,5,0,0,0,0,0,0,0,0,0,0,0,0,5,0,0,0,0,0,5,0,5,2,5,0,0,0,0,5,0,5,0,5,0,0,0,0,0,0,0,0,0,5,0,0,0,0,0,5,0,5,1,5,0,0,0,0,5,0,0,0,0,0,0,0,0,0,0,0,0,5,0,0,0,0,0,5,0,5,3] [0,1,2,3,4] [rY 3 n2i l ep' kk kt (.ref y),ol np 1 v (tk+4) (tk+5),kc (np - 1) 0 (tk+5) (tk+8) false] _ 0 9 _ av aa hb (fun hap=>a9 (bp _ _ _ _ hx) (a9 (cS _ _ _ _ _) (a9 (aN _ _ _ _ _ h0) a8))) rfl ⟨_,rfl,(H N tk _ (vP (.int kk kt) (.ref y) (fO (bL aw 6 [tk+0,tk+(1+(rY 3 n2i l ep' kk kt (.ref y)).toks)]) (ah+1+1) aj)))⟩ (rf (by kernel_rfl!))) (fun o00_0 o00_1 h00=>aZ h00 hp fun aw ah aj av=>aK fun N tk hN=>Stp.fin [1,1,1,1,4,4,4,1,1,1,1,5,0,0,0,0,5,0,0,0,0,0,0,0,0,0,0,0,0,5,0,0,0,0,0,5,0,5,2,5,0,0,0,0,5,0,5,0,5,0,0,0,0,0,0,0,0,0,5,0,0,0,0,0,5,0,5,1,5,0,0,0,0,5,0,0,0,0,0,0,0,0,0,0,0,0,5,0,0,0,0,0,5,0,5,3] [0,1,2,3,4] [rY 3 n2i l ep' kk kt (.ref y),ol np 1 v (tk+4) (tk+5),kc (np - 1) 0 (tk+5) (tk+8) false] _ 0 9 _ av aa hb (fun hap=>a9 (bp _ _ _ _ hx) (a9 (cS _ _ _ _ _) (a9 (aN _ _ _ _ _ h0) a8))) rfl ⟨_,rfl,(H N tk _ (vP (.int kk kt) (.ref y) (fO aw ah aj)))⟩ (rf (by kernel_rfl!)))
theorem xL (fr tu:Nat) (s d n2i r t1 t2 t3 t4 ep:Nat) (pa:Value) (fi:Int) (ft:Nat) (k:Int) (t x u:Nat) {al:Obj} (ai:FrO w.2 [(s5,.ref s),(sJ,.ref tu),(sk,.ref n2i),(sa,.int k t),(sh,.ref x),(tN,.int (-1) u)] [[sB,sw]] al) {Q:Flow→af→Prop} (hb:below.length≤96) (hp:([(fr,al),(s,aP bM d),(d,aB w.2 t1 t2 t3 t4 n2i (.ref r) pa (.int fi ft) ep)]++F).Perm M) (H:∀(N tk:Nat),Q (.next) ([(s,aP bM d),(d,aB w.2 t1 t2 t3 t4 n2i (.ref r) pa (.int (fi+1) (tk+2)) ep)]++F)):Tr w b1 b2 b3 (cx c below) (execs [aF 5] (aW fr)) M Q:=
  Tr.st fun p=>or2 ai (fun h00=>aZ h00 hp fun aw ah aj av=>aK fun N tk hN=>Stp.fin [1,2,0,0,0,0,2,0,0,0,2,2,0,3,0,2,0,0,0,0,2,0,2,0,2,0,0,0,2,0,3,3,3] [1,2] [on fi 1 ft 199 (tk+2)] _ 0 5 _ av aa hb (fun hap=>a9 (cU _ _ _ _ _) a8) rfl ⟨_,rfl,(H N tk)⟩ (rf (by kernel_rfl!))) (fun o00_0 o00_1 h00=>aZ h00 hp fun aw ah aj av=>aK fun N tk hN=>Stp.fin [1,2,0,0,0,0,2,0,0,0,2,2,0,3,0,2,0,0,0,0,2,0,2,0,2,0,0,0,2,0,3,3,3] [1,2] [on fi 1 ft 199 (tk+2)] _ 0 5 _ av aa hb (fun hap=>a9 (cU _ _ _ _ _) a8) rfl ⟨_,rfl,(H N tk)⟩ (rf (by kernel_rfl!)))
end
noncomputable def fL (S:List AN × List Int) (k:Int):List AN × List Int:=(fA S.1 k fun x=>(x.1,x.2.1 - 1,x.2.2),if npOf S.1 k - 1=0 then S.2++ [k] else S.2)
noncomputable def df (S:List AN × List Int) (k:Int):List AN × List Int:=(scOf S.1 k).foldl fL (fA S.1 k fun x=>(x.1,-2,x.2.2),S.2)
theorem p7 (S:List AN × List Int) (k:Int):(fL S k).1.map (·.1)=S.1.map (·.1):=fU _ _ _ fun _=>rfl
theorem dM:∀(l:List Int) (S:List AN × List Int),(l.foldl fL S).1.map (·.1)=S.1.map (·.1)
  | [],S=>rfl
  | x::l,S=>by rw [Z4,dM l,p7]
theorem fI:∀(l:List Int) (S:List AN × List Int),(l.foldl fL S).2.length≤S.2.length+l.length
  | [],S=>S0 _
  | x::l,S=>by
    rw [Z4,J0]
    have h1:=fI l (fL S x)
    have h2:(fL S x).2.length≤S.2.length+1:=by
      show (if _ then _ else _:List Int).length≤_
      split
      · rw [N0];exact S0 _
      · exact C5 _
    lia
section
variable {w:World} {b1 b2 b3:Bool} {bel:ag→Prop} {F M:af} {Q:Result→af→Prop}
noncomputable abbrev frD (w:World) (s tu n2i x:Nat) (k:Int) (t u:Nat) (F0:Obj):Prop:=FrO w.2 [(s5,.ref s),(sJ,.ref tu),(sk,.ref n2i),(sa,.int k t),(sh,.ref x),(tN,.int (-1) u)] [[sB,sw]] F0
inductive dnI (w:World) (F LS:af) (x0:NI) (fr tu r:Nat) (k:Int) (t u:Nat) (G:So) (A:List AN) (c:Nat) (vs:List (Int × Nat)) (i:Nat) (L:af):Prop | mk (G':So) (F':Obj) (vs':List (Int × Nat)) (er':Nat) (_:L=(fr,F')::(r,lst (vs'.map iv) er')::(cD w G'++(bs G'.nodes++(LS++F)))) (_:b6 G'.nodes=b6 G.nodes) (_:frD w G.s tu G.n2i x0.a k t u F') (_:Hd G G') (_:Is G' (((x0.succ.map (·.1)).take i).foldl fL (A,vs.map (·.1))).1 c) (_:vs'.map (·.1)=(((x0.succ.map (·.1)).take i).foldl fL (A,vs.map (·.1))).2):dnI w F LS x0 fr tu r k t u G A c vs i L
theorem p0 (hb:∀l,bel l→l.length≤90) (x0:NI) (fr it tu r:Nat) (k:Int) (t u:Nat) {G:So} {A:List AN} {c:Nat} {F0:Obj} (is:Is G A c) (hx0:x0∈G.nodes) (hr:G.rdy= .ref r) (hin:∀q∈x0.succ,q.1∈A.map (·.1)) (vs:List (Int × Nat)) (er:Nat) (hv:vs.length+x0.succ.length≤900) (hF:frD w G.s tu G.n2i x0.a k t u F0)
    (hp:([(it,b8 "list_iterator" (.ref x0.sl) 0),(fr,F0),(r,lst (vs.map iv) er)]++(aU w G++F)).Perm M)
    (hQ:∀(G':So) (F':Obj) (vs':List (Int × Nat)) (er':Nat),Hd G G'→frD w G.s tu G.n2i x0.a k t u F'→Is G' ((x0.succ.map (·.1)).foldl fL (A,vs.map (·.1))).1 c→vs'.map (·.1)=((x0.succ.map (·.1)).foldl fL (A,vs.map (·.1))).2→Q (.ok .next) ([(fr,F'),(r,lst (vs'.map iv) er')]++(aU w G'++F))):Con w b1 b2 b3 bel (jC it fr) M Q:=by
  have hb':∀l,bel l→l.length≤96:=fun l h=>M0 (hb l h) (by decide)
  obtain ⟨pre,post,hpp⟩:=M6 hx0
  let LS:af:=b6 pre++b6 post
  have hls:b6 G.nodes=b6 pre++(x0.sl,x0.lst)::b6 post:=by rw [hpp];unfold b6;rw [A0,H0]
  refine Con.perm (L:= [(it,b8 "list_iterator" (.ref x0.sl) 0),(x0.sl,lst (x0.succ.map iv) x0.sep)]++((fr,F0)::(r,lst (vs.map iv) er)::(cD w G++(bs G.nodes++(LS++F))))) ?_ (List.Perm.trans (by exact bk [_,_,_,_,_,_,_] [_,_,_,_,_] (.a (.l [0,1] .z) (.l [2,3] (.a (.l [4,5,6] .z) (.a (.v 0) (.a (.a (.v 1) (.v 2)) (.v 3)))))) (.a (.l [0,2,3] .z) (.a (.a (.l [4,5,6] .z) (.a (.v 0) (.v 4))) (.v 3))) (.a (.v 1) (.l [1] (.v 2))) (.v 4) ((P1 (hls ..)).symm) rfl) hp)
  refine Con.lax (dS (dnI w F LS x0 fr tu r k t u G A c vs) hb' (Iter.list it x0.sl x0.sep (x0.succ.map iv)) ?_ ?_ x0.succ.length 0 _ (by rw [B0];exact (P2 _).symm) ⟨G,F0,vs,er,rfl,rfl,hF,Hd.refl G,is,rfl⟩)
  · rintro i q hq v rfl L ⟨G',F',vs',er',rfl,hlst,hF',hd,is',hvs'⟩ below ao
    rw [V0] at hq
    obtain ⟨⟨kk,kt⟩,hps,rfl⟩:=V2.mp hq
    have hi:i < x0.succ.length:=(C1.mp hps).1
    have hget:(x0.succ.map (·.1))[i]?=some kk:=by rw [V0,hps];rfl
    have hk0:kk∈(((x0.succ.map (·.1)).take i).foldl fL (A,vs.map (·.1))).1.map (·.1):=by
      rw [dM]
      exact hin _ (J1 hps)
    obtain ⟨y,hy,rfl,hl⟩:=is'.find hk0
    obtain ⟨R,hR,hR'⟩:=dC hy is'.keys
    have hr':=hd.rdy.trans hr
    have hnp:=is'.npOf hy
    have hlen:vs'.length≤vs.length+i:=by
      have h1:=fI ((x0.succ.map (·.1)).take i) (A,vs.map (·.1))
      rw [←hvs',B0,C4,B0] at h1
      have h2:(A,vs.map (·.1)).2.length=vs.length:=B0 _
      lia
    have step:∀(T:Nat) (vs2:List (Int × Nat)) (er2:Nat) (G1:Obj),frD w G.s tu G'.n2i x0.a k t u G1→vs2.map (·.1)=(fL (((x0.succ.map (·.1)).take i).foldl fL (A,vs.map (·.1))) y.key).2→∀L':af,L'.Perm ([(fr,G1),(G'.s,aP bM G'.d),(G'.d,aB w.2 G'.t1 G'.t2 G'.t3 G'.t4 G'.n2i (.ref r) (iv G'.pas) (iv G'.fin) G'.ep),(G'.n2i,ak G'.tab G'.ep'),(y.a,bg y.d y.key y.tk (.int (y.np - 1) T) y.sl),(r,lst (vs2.map iv) er2)]++([(it,b8 "list_iterator" (.ref x0.sl) (i+1)),(x0.sl,lst (x0.succ.map iv) x0.sep)]++(R++(LS++F))))→
        ∃L'',L'.Perm ([(it,b8 "list_iterator" (.ref x0.sl) (i+1)),(x0.sl,lst (x0.succ.map iv) x0.sep)]++L'')∧dnI w F LS x0 fr tu r k t u G A c vs (i+1) L'':=by
      intro T vs2 er2 G1 hG1 hvs2 L' hL'
      let f:NI→NI:=fun z=>{z with np:=z.np - 1,npt:=T}
      have e:f6 (updN G'.nodes y.key f)=f6 G'.nodes:=eR _ _ _ fun z=>⟨rfl,rfl,rfl⟩
      have e2:b6 (updN G'.nodes y.key f)=b6 G'.nodes:=gM fun z=>rfl
      have h3:=hR' f
      refine ⟨_,hL'.trans ?_,{G' with nodes:=updN G'.nodes y.key f},G1,vs2,er2,rfl,e2.trans hlst,by rw [←hd.n2i];exact hG1,⟨hd.s,hd.d,hd.n2i,hd.rdy,hd.pas,hd.fin⟩,?_,?_⟩
      · exact bk [_,_,_,_,_,_,_,_,_,_] [_,_,_,_,_] (.a (.l [1,2,3,4,0,5] .z) (.a (.l [6,7] .z) (.a (.v 1) (.a (.a (.v 2) (.v 3)) (.v 4))))) (.a (.l [6,7] .z) (.l [1,5] (.a (.l [2,8,9] .z) (.a (.v 0) (.a (.a (.v 2) (.v 3)) (.v 4)))))) (.a (.a (.l [0] (.v 1)) (.l [3] .z)) (.l [4] .z)) (.a (.a (.v 0) (.l [8] .z)) (.l [9] .z)) (((((h3.symm).append ((pe (by simp only [e,NI.obj,e2,f,hr',iv,am,aU,cD,So.dict,NI.obj,NI.lst,Q0,A0,H0,P0]))))).append ((pe (by simp only [e,NI.obj,e2,f,hr',iv,am,aU,cD,So.dict,NI.obj,NI.lst,Q0,A0,H0,P0]))))) rfl
      · rw [cj _ _ _ _ _ hget]
        exact is'.updN y.key f (fun x=>(x.1,x.2.1 - 1,x.2.2)) (S0 _) (fun z=>rfl) (fun z _ h=>h) fun z=>rfl
      · rw [cj _ _ _ _ _ hget];exact hvs2
    by_cases h0:y.np - 1=0
    · refine xK fr tu G'.s G'.d G'.n2i r G'.t1 G'.t2 G'.t3 G'.t4 G'.ep (iv G'.pas) (iv G'.fin) k t x0.a u G'.tab G'.ep' y.key kt y.a y.d y.key y.tk y.np y.npt y.sl (vs'.map iv) er' hl (by simpa using h0) (by rw [B0];lia) (al:=F') (by rw [hd.s,hd.n2i];exact hF') (hb' _ ao) (F:= [(it,b8 "list_iterator" (.ref x0.sl) (i+1)),(x0.sl,lst (x0.succ.map iv) x0.sep)]++(R++(LS++F))) ?_ fun N tk G1 hG1=>.inl ⟨.inl rfl,?_⟩
      · exact bk [_,_,_,_,_,_,_,_,_] [_,_,_,_,_] (.a (.l [1,2,3,4,0,5] .z) (.a (.l [6,7] .z) (.a (.v 1) (.a (.a (.v 2) (.v 3)) (.v 4))))) (.a (.l [6,7] .z) (.l [1,5] (.a (.l [2,8,4] .z) (.a (.v 0) (.a (.a (.v 2) (.v 3)) (.v 4)))))) (.a (.l [0] (.v 1)) (.l [3] .z)) (.a (.v 0) (.l [8] .z)) (((hR.symm).append ((pe (by simp only [NI.obj,hr',iv,am,aU,cD,So.dict,NI.obj,NI.lst,Q0,A0,H0,P0]))))) rfl
      · refine step (tk+5) (vs'++ [(y.key,kt)]) (er'+1) G1 (by rw [←hd.s];exact hG1) ?_ _ ?_
        · rw [A0,hvs']
          show _=if _ then _ else _
          rw [hnp,if_pos h0];rfl
        · rw [A0]
          exact E0 _
    · refine xJ fr tu G'.s G'.d G'.n2i r G'.t1 G'.t2 G'.t3 G'.t4 G'.ep (iv G'.pas) (iv G'.fin) k t x0.a u G'.tab G'.ep' y.key kt y.a y.d y.key y.tk y.np y.npt y.sl hl (by simpa using h0) (al:=F') (by rw [hd.s,hd.n2i];exact hF') (hb' _ ao) (F:= [(r,lst (vs'.map iv) er'),(it,b8 "list_iterator" (.ref x0.sl) (i+1)),(x0.sl,lst (x0.succ.map iv) x0.sep)]++(R++(LS++F))) ?_ fun N tk G1 hG1=>.inl ⟨.inl rfl,?_⟩
      · exact bk [_,_,_,_,_,_,_,_,_] [_,_,_,_,_] (.a (.l [1,2,3,4,0] .z) (.a (.l [5,6,7] .z) (.a (.v 1) (.a (.a (.v 2) (.v 3)) (.v 4))))) (.a (.l [6,7] .z) (.l [1,5] (.a (.l [2,8,4] .z) (.a (.v 0) (.a (.a (.v 2) (.v 3)) (.v 4)))))) (.a (.l [0] (.v 1)) (.l [3] .z)) (.a (.v 0) (.l [8] .z)) (((hR.symm).append ((pe (by simp only [NI.obj,hr',iv,am,aU,cD,So.dict,NI.obj,NI.lst,Q0,A0,H0,P0]))))) rfl
      · refine step (tk+5) vs' er' G1 (by rw [←hd.s];exact hG1) ?_ _ ?_
        · rw [hvs']
          show _=if _ then _ else _
          rw [hnp,if_neg h0]
        · exact aO [_,_,_,_,_,_,_,_] [_,_,_] (.a (.l [0,1,2,3,4] .z) (.a (.l [5,6,7] .z) (.a (.v 0) (.a (.v 1) (.v 2))))) (.a (.l [0,1,2,3,4,5] .z) (.a (.l [6,7] .z) (.a (.v 0) (.a (.v 1) (.v 2))))) rfl
  · rintro L ⟨G',F',vs',er',rfl,hlst,hF',hd,is',hvs'⟩
    rw [B0,G8 (by rw [B0];exact S0 _)] at is' hvs'
    refine ⟨_,[(it,b8 "list_iterator" .none (x0.succ.map iv).length)],?_,hQ G' F' vs' er' hd hF' is' hvs'⟩
    have:=hlst.trans hls
    exact bk [_,_,_,_,_,_,_] [_,_,_,_,_] (.a (.l [0,1] .z) (.l [2,3] (.a (.l [4,5,6] .z) (.a (.v 0) (.a (.a (.v 1) (.v 2)) (.v 3)))))) (.a (.a (.l [2,3] .z) (.a (.a (.l [4,5,6] .z) (.a (.v 0) (.v 4))) (.v 3))) (.l [0] .z)) (.a (.v 1) (.l [1] (.v 2))) (.v 4) ((P1 (this ..)).symm) rfl
theorem uL (hb:∀l,bel l→l.length≤60) (k:Int) (t:Nat) (vs:List (Int × Nat)) (r er:Nat) {G:So} {A:List AN} {c:Nat} (is:Is G A c) (hr:G.rdy= .ref r) (hk:k∈A.map (·.1)) (hn:npOf A k= -1) (hin:∀q∈scOf A k,q∈A.map (·.1)) (hv:vs.length≤400) (hc:c≤400) (hp:([(r,lst (vs.map iv) er)]++(aU w G++F)).Perm M)
    (hQ:∀(G':So) (vs':List (Int × Nat)) (er':Nat),Hr G G'→G'.pas=G.pas→G'.fin.1=G.fin.1+1→Is G' (df (A,vs.map (·.1)) k).1 c→vs'.map (·.1)=(df (A,vs.map (·.1)) k).2→Q (.ok (.ret .none)) ([(r,lst (vs'.map iv) er')]++(aU w G'++F))):Con w b1 b2 b3 bel (.call (.ref i6) ⟨[.ref G.s,.int k t],[]⟩) M Q:=by
  have hb':∀l,bel l→l.length≤96:=fun l h=>M0 (hb l h) (by decide)
  refine uM G.s t k hb' (F:=M) (E0 _) fun N tk F0 hN hF0=>?_
  generalize N+0=tu at *
  generalize N+1=fr at *
  refine Con.func fun below ao=>?_
  have hbl:=hb _ ao
  refine Tr.lax ?_
  refine Tr.app (a:= [cQ 0,cQ 1]) (rest:= [cQ 2]) (xP fr tu G.s G.d G.n2i r G.t1 G.t2 G.t3 G.t4 G.ep (iv G.pas) (iv G.fin) hF0 (by exact lk hbl rfl) (F:= [(tu,aS [.int k t]),(r,lst (vs.map iv) er),(G.n2i,ak G.tab G.ep')]++(bs G.nodes++b6 G.nodes++F)) ?_ fun N1 tk1 F1 hF1=>.inl ⟨rfl,?_⟩)
  · refine List.Perm.trans ?_ (hp.append_left _)
    exact bk [_,_,_,_,_,_,_] [_,_,_] (.a (.l [0,1,2] .z) (.a (.l [3,4,5] .z) (.a (.a (.v 0) (.v 1)) (.v 2)))) (.a (.l [3,0] .z) (.a (.l [4] .z) (.a (.a (.l [1,6,5] .z) (.a (.v 0) (.v 1))) (.v 2)))) (.l [2] .z) (.l [6] .z) ((pe (by simp only [hr,iv,am,aU,cD,So.dict,NI.obj,NI.lst,Q0,A0,H0,P0]))) rfl
  refine xO fr G.s G.n2i tu [.int k t] hF1 (by exact lk hbl rfl) (bel':=fun l=>l.length≤75) (fun l hl=>by exact eA hl hbl rfl) (F:= [(r,lst (vs.map iv) er)]++(aU w G++F)) ?_ fun N2 tk2 F2 hN2 hF2=>?_
  · exact bk [_,_,_,_,_,_,_] [_,_,_] (.a (.l [0,1] .z) (.a (.l [2] .z) (.a (.a (.l [3,4,5] .z) (.a (.v 0) (.v 1))) (.v 2)))) (.a (.l [0,3,6] .z) (.a (.l [1,2,5] .z) (.a (.a (.v 0) (.v 1)) (.v 2)))) (.l [4] .z) (.l [6] .z) ((pe (by simp only [hr,iv,am,aU,cD,So.dict,NI.obj,NI.lst,Q0,A0,H0,P0]))) rfl
  generalize N2+0=it at *
  obtain ⟨x,hx,rfl,hl⟩:=is.find hk
  have hnp:=is.npOf hx
  have hsc:=is.scOf hx
  obtain ⟨R,hR,hR'⟩:=dC hx is.keys
  refine Con.perm (L:= [(it,b8 "tuple_iterator" (.ref tu) 0),(tu,aS [.int x.key t])]++((fr,F2)::(r,lst (vs.map iv) er)::(aU w G++F))) ?_ (by exact aO [_,_,_,_] [_,_] (.a (.l [0,1] .z) (.l [2,3] (.a (.v 0) (.v 1)))) (.a (.l [2,1,0] .z) (.a (.l [3] .z) (.a (.v 0) (.v 1)))) rfl)
  refine (dS (fun i L=>(i=0∧L=(fr,F2)::(r,lst (vs.map iv) er)::(aU w G++F))∨(i=1∧∃(G':So) (vs':List (Int × Nat)) (er':Nat) (Y:af),L=Y++((r,lst (vs'.map iv) er')::(aU w G'++F))∧Hr G G'∧G'.pas=G.pas∧G'.fin.1=G.fin.1+1∧Is G' (df (A,vs.map (·.1)) x.key).1 c∧vs'.map (·.1)=(df (A,vs.map (·.1)) x.key).2)) (fun l h=>M0 h (by decide)) (Iter.tuple it tu [.int x.key t]) ?_ ?_ 1 0 _ rfl (.inl ⟨rfl,rfl⟩))
  · rintro i q hq v rfl L hI below2 hbel2
    have hi0:i=0:=by
      have:=(C1.mp hq).1
      simp only [J0,Z3] at this;lia
    subst hi0
    have hqe:q= .int x.key t:=by injection hq with hq;exact hq.symm
    subst hqe
    rcases hI with ⟨_,rfl⟩ | ⟨h,_⟩
    case inr=>cases h
    have e1:(assign (.Name sa (d0 ef)) (aW fr) (.int x.key t)>>=fun _=>execs [aF 0,aF 1,aF 2,aF 3,aF 4,aF 5] (aW fr))=((assign (.Name sa (d0 ef)) (aW fr) (.int x.key t)>>=fun _=>execs [aF 0,aF 1,aF 2,aF 3] (aW fr))>>=fun f=>match f with | .next=>execs [aF 4,aF 5] (aW fr) | f=>.pure f):=by
      show (assign _ _ _).bind _=((assign _ _ _).bind _).bind _
      rw [bS]
      congr 1
      funext _
      exact dT _ [aF 4,aF 5] [aF 0,aF 1,aF 2,aF 3]
    rw [e1]
    refine Tr.bind (xN fr G.s G.n2i tu x.key t x.a x.d x.key x.tk x.npt x.sl G.tab G.ep' hl hF2 (by exact lk hbel2 rfl) (F:= [(it,b8 "tuple_iterator" (.ref tu) (0+1)),(tu,aS [.int x.key t]),(r,lst (vs.map iv) er),(G.s,aP bM G.d),(G.d,G.dict w)]++(R++b6 G.nodes++F)) ?_ fun N3 tk3 F3 hF3=>?_)
    · have:x.np= -1:=hnp.symm.trans hn
      exact bk [_,_,_,_,_,_,_,_,_] [_,_,_,_] (.a (.l [1,2,3] .z) (.a (.l [4,5,6,7,8] .z) (.a (.a (.v 1) (.v 2)) (.v 3)))) (.a (.l [4,5] .z) (.l [1,6] (.a (.a (.l [7,8,2] .z) (.a (.v 0) (.v 2))) (.v 3)))) (.a (.l [0] (.v 1)) (.l [3] .z)) (.a (.v 0) (.l [0] .z)) (((hR.symm).append ((pe (by simp only [NI.obj,this]))))) rfl
    let f:NI→NI:=fun z=>{z with np:=-2,npt:=qa}
    let G2:So:={G with nodes:=updN G.nodes x.key f}
    have e:f6 (updN G.nodes x.key f)=f6 G.nodes:=eR _ _ _ fun z=>⟨rfl,rfl,rfl⟩
    have e2:b6 (updN G.nodes x.key f)=b6 G.nodes:=gM fun z=>rfl
    have h3:=hR' f
    have is2:Is G2 (fA A x.key fun y=>(y.1,-2,y.2.2)) c:=is.updN x.key f _ (S0 _) (fun z=>rfl) (fun z _ h=>h) fun z=>rfl
    have hx2:f x∈G2.nodes:=E1.mpr ⟨x,hx,if_pos rfl⟩
    obtain ⟨R4,hR4,_⟩:=dC hx2 is2.keys
    obtain ⟨R5,hR5,_⟩:=gO hx2 is2.keys
    have hRR:R.Perm R4:=(h3.symm.trans hR4).cons_inv
    refine Tr.cons (xM fr G.s G.n2i tu x.key t x.a x.d x.key x.tk x.npt x.sl (.int (-2) qa) (x.succ.map iv) x.sep hF3 (by exact lk hbel2 rfl) (bel':=fun l=>l.length≤90) (fun l hl=>by exact eA hl hbel2 rfl) (F:= [(it,b8 "tuple_iterator" (.ref tu) (0+1)),(tu,aS [.int x.key t]),(r,lst (vs.map iv) er)]++(cD w G++(R4++(R5++F)))) ?_ fun N4 tk4 F4 hN4 hF4=>?_)
    · exact bk [_,_,_,_,_,_,_,_,_] [_,_,_,_,_,_] (.a (.l [1,2,0] .z) (.a (.l [3,4,5] .z) (.a (.l [6,7,8] .z) (.a (.v 1) (.a (.v 3) (.v 4)))))) (.a (.l [1,8,2] .z) (.a (.l [3,4,5,6,7] .z) (.a (.a (.v 0) (.v 5)) (.v 4)))) (.a (.a (.v 1) (.l [0] (.v 3))) (.v 2)) (.a (.a (.v 0) (.v 2)) (.v 5)) (((((hRR.symm).append (hR5.symm))).append ((P1 (e2 ..))))) rfl
    refine p0 (bel:=fun l=>l.length≤90) (fun l h=>h) (f x) fr (N4+0) tu r x.key t x.npt is2 hx2 hr ?_ vs er (by have:=is.bd.2 x hx;show vs.length+x.succ.length≤900;lia) hF4 (F:= [(it,b8 "tuple_iterator" (.ref tu) (0+1)),(tu,aS [.int x.key t])]++F) ?_ fun G' F' vs' er' hd' hF' is' hvs'=>⟨rfl,.inl ⟨rfl,?_⟩⟩
    · intro q hq
      rw [fU _ _ (fun y:AN=>(y.1,(-2:Int),y.2.2)) fun _=>rfl]
      exact hin q.1 (by rw [hsc];exact X0 hq)
    · exact bk [_,_,_,_,_,_,_,_,_,_,_] [_,_,_,_,_] (.a (.l [2,3,4] .z) (.a (.a (.l [5,6,7] .z) (.a (.v 0) (.v 2))) (.a (.l [8,9] .z) (.v 4)))) (.a (.l [3,0,1,2] .z) (.a (.l [8,9,4] .z) (.a (.l [5,6,10] .z) (.a (.v 1) (.a (.v 3) (.v 4)))))) (.a (.a (.v 0) (.v 2)) (.l [7] .z)) (.a (.a (.l [0] (.v 1)) (.l [1] (.v 3))) (.l [10] .z)) ((((hR4.append hR5)).append ((pe (by simp only [NI.obj,NI.lst,e2,e,f,G2,iv,am,aU,cD,So.dict,NI.obj,NI.lst,Q0,A0,H0,P0]))))) rfl
    have hr':=hd'.rdy.trans hr
    refine xL fr tu G'.s G'.d G'.n2i r G'.t1 G'.t2 G'.t3 G'.t4 G'.ep (iv G'.pas) G'.fin.1 G'.fin.2 x.key t x.a x.npt (al:=F') (by rw [hd'.s,hd'.n2i];exact hF') (by exact lk hbel2 rfl) (F:= [(it,b8 "tuple_iterator" (.ref tu) (0+1)),(tu,aS [.int x.key t]),(r,lst (vs'.map iv) er'),(G'.n2i,ak G'.tab G'.ep')]++(bs G'.nodes++b6 G'.nodes++F)) ?_ fun N5 tk5=>.inl ⟨.inl rfl,?_⟩
    · exact bk [_,_,_,_,_,_,_,_] [_,_,_] (.a (.l [0,1,2] .z) (.a (.l [3,4,5,6] .z) (.a (.a (.v 0) (.v 1)) (.v 2)))) (.a (.l [0,5] .z) (.a (.a (.l [1,7,6] .z) (.a (.v 0) (.v 1))) (.a (.l [3,4] .z) (.v 2)))) (.l [2] .z) (.l [7] .z) ((pe (by simp only [hr',iv,am,aU,cD,So.dict,NI.obj,NI.lst,Q0,A0,H0,P0]))) rfl
    refine ⟨[(r,lst (vs'.map iv) er')]++(aU w {G' with fin:=(G'.fin.1+1,tk5+2)}++F),?_,.inr ⟨rfl,{G' with fin:=(G'.fin.1+1,tk5+2)},vs',er',[],rfl,⟨hd'.s,hd'.d,hd'.n2i,hd'.rdy⟩,hd'.pas,?_,⟨?_,is'.keys,is'.bd⟩,?_⟩⟩
    · exact bk [_,_,_,_,_,_,_] [_,_,_] (.a (.l [0,1] .z) (.a (.l [2,3,4,5] .z) (.a (.a (.v 0) (.v 1)) (.v 2)))) (.a (.l [2,3] .z) (.a (.l [4] .z) (.a (.a (.l [0,6,5] .z) (.a (.v 0) (.v 1))) (.v 2)))) (.l [1] .z) (.l [6] .z) ((pe (by simp only [hr',iv,am,aU,cD,So.dict,NI.obj,NI.lst,Q0,A0,H0,P0]))) rfl
    · show G'.fin.1+1=_
      rw [hd'.fin]
    · show So.abs G'=_
      rw [is'.abs]
      unfold df
      rw [hsc]
    · rw [hvs']
      unfold df
      rw [hsc]
  · rintro L (⟨h,_⟩ | ⟨_,G',vs',er',Y,rfl,h1,h2,h3,h4,h5⟩)
    · cases h
    · exact ⟨rfl,_,Y++ [(it,b8 "tuple_iterator" .none [Value.int x.key t].length),(tu,aS [.int x.key t])],by exact aO [_,_,_] [_,_,_] (.a (.l [0,1] .z) (.a (.v 0) (.l [2] (.a (.v 1) (.v 2))))) (.a (.a (.l [2] .z) (.a (.v 1) (.v 2))) (.a (.v 0) (.l [0,1] .z))) rfl,hQ G' vs' er' h1 h2 h3 h4 h5⟩
end
noncomputable def cW (T:String) (d:Value) (i n ep:Nat):Obj:=⟨.type T,none,.fields ⟨[d,.int i 0,.int n 0,.int ep 0]⟩,#[]⟩
noncomputable def zv (d:Nat):Obj:=⟨.type "dict_values",none,.fields ⟨[.ref d]⟩,#[]⟩
noncomputable abbrev vE (j d:Nat) (l:List (Int × Nat × Value)) (ep z:Nat):bX:={code:=.call (.builtin "dict.values") ⟨[.ref d],[]⟩,need:= [(j,ak l ep)],news:= [zv d],res:=.ok (.ret (.ref z)),sz:=some z}
noncomputable abbrev yH (j d:Nat) (l:List (Int × Nat × Value)) (ep z:Nat):bX:={code:=.call (.builtin "dict.__iter__") ⟨[.ref d],[]⟩,need:= [(j,ak l ep)],news:= [cW "dict_keyiterator" (.ref d) 0 l.length ep],res:=.ok (.ret (.ref z)),sz:=some z}
noncomputable abbrev n5 (j m it d i:Nat) (l:List (Int × Nat × Value)) (ep:Nat) (x:Value):bX:={code:=.call (.builtin "dict_keyiterator.__next__") ⟨[.ref it],[]⟩,need:= [(j,cW "dict_keyiterator" (.ref d) i l.length ep),(m,ak l ep)],upd:= [(j,cW "dict_keyiterator" (.ref d) (i+1) l.length ep)],res:=.ok (.ret x)}
noncomputable abbrev n0 (j m it d i:Nat) (l:List (Int × Nat × Value)) (ep:Nat) (x:Value):bX:={code:=.call (.builtin "dict_valueiterator.__next__") ⟨[.ref it],[]⟩,need:= [(j,cW "dict_valueiterator" (.ref d) i l.length ep),(m,ak l ep)],upd:= [(j,cW "dict_valueiterator" (.ref d) (i+1) l.length ep)],res:=.ok (.ret x)}
noncomputable abbrev pS (j m it d i:Nat) (l:List (Int × Nat × Value)) (ep z:Nat):bX:={code:=.call (.builtin "dict_keyiterator.__next__") ⟨[.ref it],[]⟩,need:= [(j,cW "dict_keyiterator" (.ref d) i l.length ep),(m,ak l ep)],upd:= [(j,cW "dict_keyiterator" .none i l.length ep)],news:= [aS [],dy z],res:=.error (.ref (z+1)),sz:=some z}
noncomputable abbrev pR (j m it d i:Nat) (l:List (Int × Nat × Value)) (ep z:Nat):bX:={code:=.call (.builtin "dict_valueiterator.__next__") ⟨[.ref it],[]⟩,need:= [(j,cW "dict_valueiterator" (.ref d) i l.length ep),(m,ak l ep)],upd:= [(j,cW "dict_valueiterator" .none i l.length ep)],news:= [aS [],dy z],res:=.error (.ref (z+1)),sz:=some z}
theorem cA (l:List (Int × Nat × Value)):(⟨l.map bY⟩:Array DictEntry).size=l.length:=B0 _
theorem j1 {P:Pm} {j d:Nat} (hd:d≠1) (l:List (Int × Nat × Value)) (ep z:Nat) (hj:P.adr j=d:=by rfl):aC P (vE j d l ep z):=by
  refine az fun A s _ _ hn _ hz _=>?_
  have ho:s.heap.get? d=some (ak l ep):=by have:=hn _ (.head _);rw [hj] at this;exact this
  have hz:=hz z rfl
  refine M1 F.slot_dict_values.plain F.entry_dict_values (F.slot_dict_values.check _ _ _ _ _ _ _ _ (ay ho rfl) (F.args_dict_values_1 _) ?_)
  refine C0 ?_
  unfold Builtin.Dict.noArgs
  refine C0 (wpAny_notOrdered_dict (ay ho rfl) ?_)
  show wpAny _ _ (pure d) _ _ s
  refine I0 ?_
  show wpAny _ _ (Builtin.Dict.showsAll d>>=_) _ _ s
  unfold Builtin.Dict.showsAll
  rw [if_neg (by simpa [sysModules] using hd)]
  refine C0 (I0 ?_)
  refine C0 (wpAny_newObj_type (I0 ⟨?_,_,rfl,dd rfl rfl rfl⟩))
  rw [hz]
theorem kq {P:Pm} {j d:Nat} (hd:d≠1) (l:List (Int × Nat × Value)) (ep z:Nat) (hj:P.adr j=d:=by rfl):aC P (yH j d l ep z):=by
  refine az fun A s _ _ hn _ hz _=>?_
  have ho:s.heap.get? d=some (ak l ep):=by have:=hn _ (.head _);rw [hj] at this;exact this
  have hz:=hz z rfl
  refine M1 F.slot_dict_iter.plain F.entry_dict_iter (F.slot_dict_iter.check _ _ _ _ _ _ _ _ (ay ho rfl) (F.args_dict_iter_1 _) ?_)
  unfold Builtin.«dict.__iter__»
  refine C0 ?_
  unfold Builtin.Dict.dictSlotNone
  refine C0 (wpAny_notOrdered_dict (ay ho rfl) ?_)
  show wpAny _ _ (pure (Value.ref d)) _ _ s
  refine I0 ?_
  show wpAny _ _ (Builtin.Dict.showsAll d>>=_) _ _ s
  unfold Builtin.Dict.showsAll
  rw [if_neg (by simpa [sysModules] using hd)]
  refine C0 (I0 ?_)
  refine C0 (wpAny_dictEntries ho rfl ?_)
  refine C0 (wpAny_dictEpoch ho rfl ?_)
  refine C0 (wpAny_newObj_type (I0 ⟨?_,_,rfl,dd rfl ?_ rfl⟩))
  · rw [hz]
  · show [cW _ _ _ _ _]= [_]
    unfold cW rawInt
    rw [cA]
    rfl
theorem nt {P:Pm} {j m it d:Nat} (i:Nat) (l:List (Int × Nat × Value)) (ep:Nat) {q:Int × Nat × Value} (hx:l[i]?=some q) (hj:P.adr j=it:=by rfl) (hm:P.adr m=d:=by rfl):aC P (n5 j m it d i l ep (.int q.1 q.2.1)):=by
  refine az fun A s hh _ hn _ hz _=>?_
  have ho:s.heap.get? it=some (cW "dict_keyiterator" (.ref d) i l.length ep):=by have:=hn _ (.head _);rw [hj] at this;exact this
  have hod:s.heap.get? d=some (ak l ep):=by have:=hn _ (.tail _ (.head _));rw [hm] at this;exact this
  have hT:s.TypeIs (.ref it) "dict_keyiterator":=ay ho rfl
  refine M1 F.slot_dict_keyiterator_next.plain F.entry_dict_keyiterator_next (F.slot_dict_keyiterator_next.check _ _ _ _ _ _ _ _ hT (F.args_dict_keyiterator_next_1 _) ?_)
  refine C0 (I0 ?_)
  refine C0 ?_
  refine C0 ?_
  refine C0 (wpAny_typeNameOfWhole_keyiter hT (I0 ?_))
  refine C0 (wpAny_fieldsOf ho rfl ?_)
  have hown:Builtin.Dict_items.ownsTuple "dict_keyiterator"=false:=by decide
  simp only [hown,J2,if_false]
  show wpAny _ _ (if (Value.ref d==Value.none)=true then _ else _) _ _ s
  rw [if_neg (show ¬((Value.ref d==Value.none)=true) from R1)]
  refine C0 (I0 ?_)
  refine C0 (wpAny_dictEntries hod rfl ?_)
  rw [if_neg (by rw [cA];simp)]
  refine C0 (I0 ?_)
  refine C0 (wpAny_dictEpoch hod rfl ?_)
  rw [if_neg (by simp)]
  refine I0 ?_
  have hlt:i < l.length:=(C1.mp hx).1
  have hx':(⟨l.map bY⟩:Array DictEntry)[i]?=some (bY q):=by
    show (l.map bY).toArray[i]?=_
    rw [K4,V0,hx];rfl
  simp only [show ¬((i:Int) < 0) from by lia,if_false,W0,hx']
  refine C0 ?_
  refine C0 (wpAny_typeNameOfWhole_keyiter hT (I0 ?_))
  refine C0 (wpAny_isOneOf_keyiter hT ?_)
  show wpAny _ _ (setField (.ref it) 1 (rawInt ((i:Int)+1))>>=_) _ _ s
  refine C0 (wpAny_setField ho rfl (by simp) ?_)
  have ho':(s.heap.update it (Obj.mapFields (·.setIfInBounds 1 (rawInt ((i:Int)+1))))).get? it=some (cW "dict_keyiterator" (.ref d) (i+1) l.length ep):=M2 _ ho rfl
  refine C0 (wpAny_holding ?_)
  refine C0 (wpAny_isOneOf_keyiter (s:={s with heap:=s.heap.update it (Obj.mapFields (·.setIfInBounds 1 (rawInt ((i:Int)+1))))}) (ay ho' rfl) ?_)
  show wpAny _ _ (pure (bY q).key) _ _ _
  exact I0 (I0 ⟨rfl,_,rfl,bH hj rfl rfl ho rfl rfl⟩)
theorem oZ {P:Pm} {j m it d:Nat} (i:Nat) (l:List (Int × Nat × Value)) (ep z:Nat) (hx:l.length≤i) (hj:P.adr j=it:=by rfl) (hm:P.adr m=d:=by rfl):aC P (pS j m it d i l ep z):=by
  refine az fun A s hh _ hn _ hz _=>?_
  have ho:s.heap.get? it=some (cW "dict_keyiterator" (.ref d) i l.length ep):=by have:=hn _ (.head _);rw [hj] at this;exact this
  have hod:s.heap.get? d=some (ak l ep):=by have:=hn _ (.tail _ (.head _));rw [hm] at this;exact this
  have hT:s.TypeIs (.ref it) "dict_keyiterator":=ay ho rfl
  refine M1 F.slot_dict_keyiterator_next.plain F.entry_dict_keyiterator_next (F.slot_dict_keyiterator_next.check _ _ _ _ _ _ _ _ hT (F.args_dict_keyiterator_next_1 _) ?_)
  refine C0 (I0 ?_)
  refine C0 ?_
  refine C0 ?_
  refine C0 (wpAny_typeNameOfWhole_keyiter hT (I0 ?_))
  refine C0 (wpAny_fieldsOf ho rfl ?_)
  have hown:Builtin.Dict_items.ownsTuple "dict_keyiterator"=false:=by decide
  simp only [hown,J2,if_false]
  show wpAny _ _ (if (Value.ref d==Value.none)=true then _ else _) _ _ s
  rw [if_neg (show ¬((Value.ref d==Value.none)=true) from R1)]
  refine C0 (I0 ?_)
  refine C0 (wpAny_dictEntries hod rfl ?_)
  rw [if_neg (by rw [cA];simp)]
  refine C0 (I0 ?_)
  refine C0 (wpAny_dictEpoch hod rfl ?_)
  rw [if_neg (by simp)]
  refine I0 ?_
  have hz:=hz z rfl
  have hx':(⟨l.map bY⟩:Array DictEntry)[i]?=none:=by
    rw [E4,cA];exact hx
  simp only [show ¬((i:Int) < 0) from by lia,if_false,W0,hx']
  refine C0 ?_
  refine C0 (wpAny_typeNameOfWhole_keyiter hT (I0 ?_))
  show wpAny _ _ (setField (.ref it) 0 .none>>=_) _ _ s
  refine C0 (wpAny_setField ho rfl (by simp) ?_)
  exact c4 hh (by rw [E2];exact hz) ⟨rfl,_,rfl,dc hj rfl rfl ho rfl rfl rfl rfl⟩
theorem nr {P:Pm} {j m it d:Nat} (i:Nat) (l:List (Int × Nat × Value)) (ep:Nat) {q:Int × Nat × Value} (hx:l[i]?=some q) (hj:P.adr j=it:=by rfl) (hm:P.adr m=d:=by rfl):aC P (n0 j m it d i l ep q.2.2):=by
  refine az fun A s hh _ hn _ hz _=>?_
  have ho:s.heap.get? it=some (cW "dict_valueiterator" (.ref d) i l.length ep):=by have:=hn _ (.head _);rw [hj] at this;exact this
  have hod:s.heap.get? d=some (ak l ep):=by have:=hn _ (.tail _ (.head _));rw [hm] at this;exact this
  have hT:s.TypeIs (.ref it) "dict_valueiterator":=ay ho rfl
  refine M1 F.slot_dict_valueiterator_next.plain F.entry_dict_valueiterator_next (F.slot_dict_valueiterator_next.check _ _ _ _ _ _ _ _ hT (F.args_dict_valueiterator_next_1 _) ?_)
  refine C0 (I0 ?_)
  refine C0 ?_
  refine C0 ?_
  refine C0 (wpAny_typeNameOfWhole_valiter hT (I0 ?_))
  refine C0 (wpAny_fieldsOf ho rfl ?_)
  have hown:Builtin.Dict_items.ownsTuple "dict_valueiterator"=false:=by decide
  simp only [hown,J2,if_false]
  show wpAny _ _ (if (Value.ref d==Value.none)=true then _ else _) _ _ s
  rw [if_neg (show ¬((Value.ref d==Value.none)=true) from R1)]
  refine C0 (I0 ?_)
  refine C0 (wpAny_dictEntries hod rfl ?_)
  rw [if_neg (by rw [cA];simp)]
  refine C0 (I0 ?_)
  refine C0 (wpAny_dictEpoch hod rfl ?_)
  rw [if_neg (by simp)]
  refine I0 ?_
  have hlt:i < l.length:=(C1.mp hx).1
  have hx':(⟨l.map bY⟩:Array DictEntry)[i]?=some (bY q):=by
    show (l.map bY).toArray[i]?=_
    rw [K4,V0,hx];rfl
  simp only [show ¬((i:Int) < 0) from by lia,if_false,W0,hx']
  refine C0 ?_
  refine C0 (wpAny_typeNameOfWhole_valiter hT (I0 ?_))
  refine C0 (wpAny_isOneOf_valiter hT ?_)
  show wpAny _ _ (setField (.ref it) 1 (rawInt ((i:Int)+1))>>=_) _ _ s
  refine C0 (wpAny_setField ho rfl (by simp) ?_)
  have ho':(s.heap.update it (Obj.mapFields (·.setIfInBounds 1 (rawInt ((i:Int)+1))))).get? it=some (cW "dict_valueiterator" (.ref d) (i+1) l.length ep):=M2 _ ho rfl
  refine C0 (wpAny_holding ?_)
  refine C0 (wpAny_isOneOf_valiter (s:={s with heap:=s.heap.update it (Obj.mapFields (·.setIfInBounds 1 (rawInt ((i:Int)+1))))}) (ay ho' rfl) ?_)
  refine C0 (wpAny_isOneOf_valiter (s:={s with heap:=s.heap.update it (Obj.mapFields (·.setIfInBounds 1 (rawInt ((i:Int)+1))))}) (ay ho' rfl) ?_)
  show wpAny _ _ (pure (bY q).val) _ _ _
  exact I0 (I0 ⟨rfl,_,rfl,bH hj rfl rfl ho rfl rfl⟩)
theorem oY {P:Pm} {j m it d:Nat} (i:Nat) (l:List (Int × Nat × Value)) (ep z:Nat) (hx:l.length≤i) (hj:P.adr j=it:=by rfl) (hm:P.adr m=d:=by rfl):aC P (pR j m it d i l ep z):=by
  refine az fun A s hh _ hn _ hz _=>?_
  have ho:s.heap.get? it=some (cW "dict_valueiterator" (.ref d) i l.length ep):=by have:=hn _ (.head _);rw [hj] at this;exact this
  have hod:s.heap.get? d=some (ak l ep):=by have:=hn _ (.tail _ (.head _));rw [hm] at this;exact this
  have hT:s.TypeIs (.ref it) "dict_valueiterator":=ay ho rfl
  refine M1 F.slot_dict_valueiterator_next.plain F.entry_dict_valueiterator_next (F.slot_dict_valueiterator_next.check _ _ _ _ _ _ _ _ hT (F.args_dict_valueiterator_next_1 _) ?_)
  refine C0 (I0 ?_)
  refine C0 ?_
  refine C0 ?_
  refine C0 (wpAny_typeNameOfWhole_valiter hT (I0 ?_))
  refine C0 (wpAny_fieldsOf ho rfl ?_)
  have hown:Builtin.Dict_items.ownsTuple "dict_valueiterator"=false:=by decide
  simp only [hown,J2,if_false]
  show wpAny _ _ (if (Value.ref d==Value.none)=true then _ else _) _ _ s
  rw [if_neg (show ¬((Value.ref d==Value.none)=true) from R1)]
  refine C0 (I0 ?_)
  refine C0 (wpAny_dictEntries hod rfl ?_)
  rw [if_neg (by rw [cA];simp)]
  refine C0 (I0 ?_)
  refine C0 (wpAny_dictEpoch hod rfl ?_)
  rw [if_neg (by simp)]
  refine I0 ?_
  have hz:=hz z rfl
  have hx':(⟨l.map bY⟩:Array DictEntry)[i]?=none:=by
    rw [E4,cA];exact hx
  simp only [show ¬((i:Int) < 0) from by lia,if_false,W0,hx']
  refine C0 ?_
  refine C0 (wpAny_typeNameOfWhole_valiter hT (I0 ?_))
  show wpAny _ _ (setField (.ref it) 0 .none>>=_) _ _ s
  refine C0 (wpAny_setField ho rfl (by simp) ?_)
  exact c4 hh (by rw [E2];exact hz) ⟨rfl,_,rfl,dc hj rfl rfl ho rfl rfl rfl rfl⟩
noncomputable abbrev bG (j l:Nat) (vs:List Value) (ep:Nat) (k:Int) (t:Nat) (x:Value):bX:={code:=.call (.builtin "list.__getitem__") ⟨[.ref l,.int k t],[]⟩,need:= [(j,lst vs ep)],res:=.ok (.ret x)}
noncomputable abbrev xPop (j l:Nat) (vs:List Value) (ep:Nat) (x:Value):bX:={code:=.call (.builtin "list.pop") ⟨[.ref l],[]⟩,need:= [(j,lst (vs++ [x]) ep)],upd:= [(j,lst vs (ep+1))],res:=.ok (.ret x)}
noncomputable abbrev yI (j d:Nat) (l:List (Int × Nat × Value)) (ep:Nat) (k:Int) (t u:Nat) (v:Value):bX:={code:=.call (.builtin "dict.__delitem__") ⟨[.ref d,.int k u],[]⟩,need:= [(j,ak (l++ [(k,t,v)]) ep)],upd:= [(j,ak l (ep+1))],res:=.ok (.ret .none),toks:=1}
noncomputable abbrev n7 (j d:Nat) (o:Obj) (k:Int) (t:Nat) (b:Bool):bX:={code:=.call (.builtin "set.__contains__") ⟨[.ref d,.int k t],[]⟩,need:= [(j,o)],res:=.ok (.ret (.bool b)),toks:=1}
theorem kP {P:Pm} {j l:Nat} (vs:List Value) (ep:Nat) (k:Int) (t:Nat) {x:Value} (h0:0≤k) (hfit:k < 2 ^ 63) (hx:vs[k.toNat]?=some x) (hj:P.adr j=l:=by rfl):aC P (bG j l vs ep k t x):=by
  refine az fun A s hh _ hn _ _ _=>?_
  have ho:s.heap.get? l=some (lst vs ep):=by have:=hn _ (.head _);rw [hj] at this;exact this
  refine M1 F.slot_list_getitem.plain F.entry_list_getitem (F.slot_list_getitem.check _ _ _ _ _ _ _ _ (ay ho rfl) (F.args_list_getitem_2 _ _) ?_)
  show wpAny _ _ (Builtin.List.listSubscript? (.int k t)>>=_) _ _ s
  refine C0 (wpAny_listSubscript_int (fitsIndex_of h0 hfit) ?_)
  clear hfit
  obtain ⟨i,rfl⟩:=Int.eq_ofNat_of_zero_le h0
  have hx':(⟨vs⟩:Array Value)[i]?=some x:=by show vs.toArray[i]?=_;rw [K4];exact hx
  show wpAny _ _ ((seqItemAt l i>>=fun r=>pure (r.map (i,·)))>>=_) _ _ s
  refine C0 (C0 (wpAny_seqItemAt ho rfl (I0 ?_)))
  rw [hx']
  first
    | exact C0 (I0 (I0 ⟨rfl,_,rfl,aG rfl rfl⟩))
    | exact I0 ⟨rfl,_,rfl,aG rfl rfl⟩
theorem aX {P:Pm} {j l:Nat} (vs:List Value) (ep i:Nat) (k:Int) (t:Nat) {x:Value} (hk:k=(i:Int)) (hx:vs[i]?=some x) (hl:vs.length≤1000) (hj:P.adr j=l:=by rfl):aC P (bG j l vs ep k t x):=by
  have hi:i < vs.length:=(C1.mp hx).1
  exact kP vs ep k t (by lia) (by lia) (by rw [hk];exact hx) hj
theorem hJ {P:Pm} {j l:Nat} (vs:List Value) (ep t:Nat) (x:Value) (hl:vs.length≤1000) (hj:P.adr j=l:=by rfl):aC P (bG j l (vs++ [x]) ep (-1) t x):=by
  refine az fun A s hh _ hn _ _ _=>?_
  have ho:s.heap.get? l=some (lst (vs++ [x]) ep):=by have:=hn _ (.head _);rw [hj] at this;exact this
  have hsz:(⟨vs++ [x]⟩:Array Value).size=vs.length+1:=by show (vs++ [x]).length=_;rw [N0];rfl
  refine M1 F.slot_list_getitem.plain F.entry_list_getitem (F.slot_list_getitem.check _ _ _ _ _ _ _ _ (ay ho rfl) (F.args_list_getitem_2 _ _) ?_)
  show wpAny _ _ (Builtin.List.listSubscript? (.int (-1) t)>>=_) _ _ s
  refine C0 (wpAny_listSubscript_int (fitsIndex_neg (by decide) (by decide)) ?_)
  have hidx:seqIndex? (-1) (⟨vs++ [x]⟩:Array Value).size=some vs.length:=by
    rw [hsz,seqIndex_neg (by decide) (by lia)];congr 1;lia
  show wpAny _ _ ((Builtin.List.listItems (.ref l)>>=fun xs=>pure ((seqIndex? (Int.negSucc 0) xs.size).bind fun i=>xs[i]?.map (i,·)))>>=_) _ _ s
  refine C0 (C0 ?_)
  show wpAny _ _ (seqItems? (.ref l)>>=_) _ _ s
  refine C0 (wpAny_seqItems ho rfl (I0 (I0 ?_)))
  have hx':(⟨vs++ [x]⟩:Array Value)[vs.length]?=some x:=by show (vs++ [x]).toArray[vs.length]?=_;rw [K4,Q3 (S0 _)];simp
  have hidx':seqIndex? (Int.negSucc 0) (⟨vs++ [x]⟩:Array Value).size=some vs.length:=hidx
  rw [hidx']
  simp only [Option.bind_some,hx',Y8]
  first
    | exact C0 (I0 (I0 ⟨rfl,_,rfl,aG rfl rfl⟩))
    | exact I0 ⟨rfl,_,rfl,aG rfl rfl⟩
theorem uK {P:Pm} {j l:Nat} (vs:List Value) (ep:Nat) (x:Value) (hl:vs.length≤1000) (hj:P.adr j=l:=by rfl) (h:Option Value:=none):aC P {xPop j l vs ep x with hd:=h}:=by
  refine az fun A s _ _ hn _ _ _=>?_
  have ho:s.heap.get? l=some (lst (vs++ [x]) ep):=by have:=hn _ (.head _);rw [hj] at this;exact this
  have hsz:(⟨vs++ [x]⟩:Array Value).size=vs.length+1:=by show (vs++ [x]).length=_;rw [N0];rfl
  have hx':(⟨vs++ [x]⟩:Array Value)[(⟨vs++ [x]⟩:Array Value).size - 1]?=some x:=by
    rw [hsz]
    show (vs++ [x]).toArray[vs.length+1 - 1]?=_
    rw [K4,Q3 (by exact S0 _)];simp
  refine b0 F.slot_list_pop (ay ho rfl) F.entry_list_pop (F.args_list_pop_1 _) ((PySem.MeetsSeq.list_pop_last l ⟨vs++ [x]⟩ ep x hx' (by rw [hsz];unfold sizeLine;exact oM hl rfl)).inModel _ _) ⟨ho,rfl,_,rfl,bH hj rfl rfl ho ?_ rfl⟩
  show (⟨_,_,.seq ((⟨vs++ [x]⟩:Array Value).eraseIdxIfInBounds _) (if _ then _ else _),_⟩:Obj)=_
  have e:(⟨vs++ [x]⟩:Array Value).eraseIdxIfInBounds ((⟨vs++ [x]⟩:Array Value).size - 1)=⟨vs⟩:=by
    rw [hsz]
    apply Z5
    show ((vs++ [x]).toArray.eraseIdxIfInBounds (vs.length+1 - 1)).toList=vs
    simp [Q8]
  have h2:((⟨vs⟩:Array Value).size==(⟨vs++ [x]⟩:Array Value).size)=false:=by
    rw [hsz];show (vs.length==vs.length+1)=false;simp
  have key:∀a:Array Value,a=⟨vs⟩→(⟨.type "list",none,.seq a (if (a.size==(⟨vs++ [x]⟩:Array Value).size)=true then ep else ep+1),#[]⟩:Obj)=lst vs (ep+1):=by
    rintro _ rfl;rw [h2];rfl
  exact key _ e
noncomputable abbrev nH (j l:Nat) (vs:List Value) (n z:Nat) (r:Int):bX:={code:=.builtin "len" ⟨[.ref l],[]⟩,need:= [(j,lst vs n)],res:=.ok (.ret (.int r (z+1))),toks:=2,tk:=some z}
theorem jP {P:Pm} {j l:Nat} (vs:List Value) (n z:Nat) (r:Int) (hr:((vs.length:Nat):Int)=r) (hl:vs.length≤1000) (hj:P.adr j=l:=by rfl):aC P (nH j l vs n z r):=by
  subst hr
  refine az fun A s _ _ hn _ _ htk=>?_
  have ho:s.heap.get? l=some (lst vs n):=by have:=hn _ (.head _);rw [hj] at this;exact this
  have htk:=htk z rfl
  subst htk
  refine codeAny_builtin entry_len ?_
  rw [Around.under_plainId plain_len _]
  unfold Builtin.«len»
  refine C0 (m:=oneArg "len" _) (I0 ?_)
  refine C0 (m:=callSpecial? (.ref l) (Str.ofString "__len__")) (wpAny_callSpecial?_slot (name:=Str.ofString "__len__") (ay ho rfl) F.slot_list_len (call_meets F.slot_list_len (ay ho rfl) F.entry_list_len (F.args_list_len_1 _) (AutoListH.list___len___list_0 l ⟨vs⟩ n) ⟨ho,?_⟩))
  show wpAny _ _ _ _ _ {s with toks:=s.toks+1}
  refine C0 (wpAny_holding (I0 ?_))
  refine C0 (wpAny_letGo ?_)
  show wpAny _ _ (if ((vs.length:Nat):Int) < 0 then _ else _) _ _ _
  rw [if_neg (by lia)]
  show wpAny _ _ (if ((vs.length:Nat):Int)≥2 ^ 63 then _ else _) _ _ _
  rw [if_neg (by lia)]
  exact C0 (wpAny_mkInt (I0 ⟨rfl,_,rfl,aG rfl rfl⟩))
theorem lu {prog:Program} {w:World} {l:List (Int × Nat × Value)} {k:Int} {t:Nat} {v:Value} (h:bC l k=none):((⟨(l++ [(k,t,v)]).map bY⟩:Array DictEntry).findIdx? fun e=>(intKind prog w).is k e.key)=some l.length:=by
  show ((l++ [(k,t,v)]).map bY).toArray.findIdx? _=_
  rw [List.findIdx?_toArray,List.findIdx?_map,List.findIdx?_append]
  have:(l.findIdx? ((fun e=>(intKind prog w).is k e.key)∘bY))=none:=by
    rw [List.findIdx?_eq_none_iff]
    intro x hx
    show (x.1==k)=false
    unfold bC at h
    rw [Option.map_eq_none_iff,List.find?_eq_none] at h
    have:=h x hx
    simpa using this
  rw [this]
  have:(intKind prog w).is k (bY (k,t,v)).key=true:=by show (k==k)=true;simp
  simp [List.findIdx?_cons,this]
theorem lx {P:Pm} {j d:Nat} (l:List (Int × Nat × Value)) (ep:Nat) (k:Int) (t u:Nat) (v:Value) (hv:bC l k=none) (hl:l.length≤1000) (hj:P.adr j=d:=by rfl) (hh:Option Value:=none):aC P {yI j d l ep k t u v with hd:=hh}:=by
  refine az fun A s _ _ hn _ _ _=>?_
  have ho:s.heap.get? d=some (ak (l++ [(k,t,v)]) ep):=by have:=hn _ (.head _);rw [hj] at this;exact this
  have hz:(⟨(l++ [(k,t,v)]).map bY⟩:Array DictEntry).size≤sizeLine:=by
    rw [cA,N0];show l.length+1≤sizeLine;unfold sizeLine;exact oM hl rfl
  refine M1 F.slot_dict_delitem.plain F.entry_dict_delitem (F.slot_dict_delitem.check _ _ _ _ _ _ _ _ (ay ho rfl) (F.args_dict_delitem_2 _ _) ?_)
  unfold Builtin.«dict.__delitem__»
  refine C0 ?_
  unfold Builtin.Dict.dictSlotArgs
  refine C0 (wpAny_notOrdered_dict (ay ho rfl) ?_)
  show wpAny _ _ (pure (Value.ref d,Value.int k u)) _ _ s
  refine I0 ?_
  show wpAny _ _ (Builtin.Dict.takeOut d (.int k u)>>=_) _ _ s
  refine C0 ?_
  unfold Builtin.Dict.takeOut
  refine wpAny_holding ?_
  refine C0 ((intKind P.prog P.w).pyHash (k:=k) (by show (k==k)=true;simp) ?_)
  refine C0 (wpAny_dictFind_of (knd:=intKind P.prog P.w) (s:={s with toks:=s.toks+1}) (k:=k) (by show (k==k)=true;simp) ho rfl (fh _) ?_)
  rw [lu hv]
  refine C0 (wpAny_dictEntries (s:={s with toks:=s.toks+1}) ho rfl ?_)
  have he:(⟨(l++ [(k,t,v)]).map bY⟩:Array DictEntry)[l.length]?=some (bY (k,t,v)):=by
    show ((l++ [(k,t,v)]).map bY).toArray[l.length]?=_
    rw [K4,V0,Q3 (S0 _)];simp
  rw [he]
  refine C0 (wpAny_updateDictKeys (hz:=hz) (s:={s with toks:=s.toks+1}) ho rfl (I0 ?_))
  refine C0 (wpAny_letGo (I0 ⟨rfl,_,rfl,bH hj rfl rfl ho ?_ rfl⟩))
  show (⟨_,_,.dict ((⟨(l++ [(k,t,v)]).map bY⟩:Array DictEntry).eraseIdxIfInBounds l.length) _,_⟩:Obj)=_
  have e:(⟨(l++ [(k,t,v)]).map bY⟩:Array DictEntry).eraseIdxIfInBounds l.length=⟨l.map bY⟩:=by
    apply Z5
    show (((l++ [(k,t,v)]).map bY).toArray.eraseIdxIfInBounds l.length).toList=l.map bY
    simp [A0,Q8]
  rw [e];rfl
theorem Con.code {w:World} {b1 b2 b3:Bool} {bel:ag→Prop} {c:Code} {L:af} {Q:Result→af→Prop} (hb:∀l,bel l→l.length≤150)
    (h:∀(A:Around) (s:Shared),A.handled=none→A.units≤1510→St w s L→codeAny (model pw (W3 w b1 b2 b3)) A c (fun r s'=>∃L',To w s s' L L'∧Q r L') s):Con w b1 b2 b3 bel c L Q:=by
  intro s hs below p ao
  have hu:unitsOf below≤1510:=by
    have:∀l:List (Code × Pos),unitsOf l≤10 * l.length:=by
      intro l
      induction l with
      | nil=>exact S0 _
      | cons x l ih=>
        obtain ⟨c,q⟩:=x
        rw [unitsOf_cons,J0]
        have:c.cUnits≤10:=by
          have hf:=eV c
          cases c<;>(unfold Code.cUnits;dsimp only;(first | decide | exact K5 _ _ | lia))
        lia
    have:=this below
    have:=hb below ao
    lia
  obtain ⟨r,s',hr,L',hT,hq⟩:=h ⟨none,frameCount below,none,none,unitsOf below⟩ s rfl hu hs ⟨c,none,none,below,none⟩ p rfl ⟨rfl,S0 _,fun _ x=>(nomatch x),fun _ x=>(nomatch x),S0 _⟩
  exact ⟨r,s',L',hr,hT,hq⟩
theorem uo {P:Params} {b:Nat} {o:Obj} (h:(g9 P).get b=some o):¬Lo aJ b:=fun hl=>by
  rcases hl with h1 | rfl | rfl
  · rw [hZ _ _ (M0 (mS P) h1)] at h;cases h
  · have e:(g9 P).get 205=none:=by kernel_rfl!
    rw [e] at h;cases h
  · have e:(g9 P).get 215=none:=by kernel_rfl!
    rw [e] at h;cases h
theorem To.same {w:World} {s:Shared} {a:Nat} {o o':Obj} {h':Heap} {n:Nat} (hs:St w s [(a,o)]) (hb:I8 a s.heap h') (ho:h'.get? a=some o'):To w s ⟨h',s.gens,s.drawn,s.toks+n,s.os⟩ [(a,o)] [(a,o')]:=by
  have ha:=(hs.ap.all.2 a (.head _)).1
  have hk:∀b o1,s.heap.get? b=some o1→b∉ [a]→h'.get? b=some o1:=fun b o1 e hne=>by rw [hb.2 b (fun e=>hne (by rw [e];exact .head _))];exact e
  have hkt:eq (g9 w.2) h':=fun b o1 e=>hk b o1 (hs.kt b o1 e) (fun hm=>by
    have:=uo e
    rcases Z0.mp hm with rfl | hm
    · exact this ha
    · cases hm)
  refine ⟨⟨hkt,by show aJ≤h'.objs.size;rw [hb.1];exact hs.big,⟨ho,trivial⟩,by show Apart _ h'.objs.size _;rw [hb.1];exact hs.ap⟩,⟨by show _≤h'.objs.size;rw [hb.1];exact S0 _,hk,hkt,rfl,rfl,rfl⟩,fun x hx=>.inl hx⟩
noncomputable def SetI (b1 b2 b3:Bool) (w:World) (o:Obj) (S:List Int) (n:Nat):Prop:=
  ∃es ep t,o.ExactSet∧o.data= .set es ep t∧ElemsOf (intKind pw (W3 w b1 b2 b3)) es.toList∧(∀k:Int,k∈S↔∃e∈es.toList,(intKind pw (W3 w b1 b2 b3)).is k e.2=true)∧es.size < scanBound∧t.fits es.size=true∧es.size=n
theorem SetI.of {b1 b2 b3:Bool} {w:World} {o:Obj} {S:List Int} {n:Nat} {h:Heap} {a:Nat} (H:SetI b1 b2 b3 w o S n) (ho:h.get? a=some o):h.SetOf (intKind pw (W3 w b1 b2 b3)) a (fun k=>decide (k∈S)) n:=by
  obtain ⟨es,ep,t,h1,h2,h3,h4,h5⟩:=H
  exact ⟨o,es,ep,t,ho,h1,h2,h3,fun k=>by rw [decide_eq_true_eq];exact h4 k,h5⟩
theorem SetI.back {b1 b2 b3:Bool} {w:World} {S:List Int} {T:Int→Bool} {n:Nat} {h:Heap} {a:Nat} (H:h.SetOf (intKind pw (W3 w b1 b2 b3)) a T n) (hT:∀k,T k=true↔k∈S):∃o,h.get? a=some o∧SetI b1 b2 b3 w o S n:=by
  obtain ⟨o,es,ep,t,ho,h1,h2,h3,h4,h5⟩:=H
  exact ⟨o,ho,es,ep,t,h1,h2,h3,fun k=>(hT k).symm.trans (h4 k),h5⟩
theorem lV (k:Int) (t:Nat):(Value.int k t).scannable=true:=rfl
theorem dq {w:World} {b1 b2 b3:Bool} {L:af} {N tk:Nat} {E:List bX} {j d:Nat} {o:Obj} {S:List Int} {n:Nat} (H:SetI b1 b2 b3 w o S n) (k:Int) (t:Nat) {b:Bool} (hb:decide (k∈S)=b) (hj:(nR w b1 b2 b3 L N tk 100 E).adr j=d:=by rfl):aC (nR w b1 b2 b3 L N tk 100 E) (n7 j d o k t b):=by
  refine az fun A s _ _ hn _ _ _=>?_
  have ho:s.heap.get? d=some o:=by have:=hn _ (.head _);rw [hj] at this;exact this
  have hS:=H.of (h:=s.heap) ho
  have hk:(intKind pw (W3 w b1 b2 b3)).is k (.int k t)=true:=by show (k==k)=true;simp
  refine M1 F.slot_set_contains.plain entry_set_contains (F.slot_set_contains.check _ _ _ _ _ _ _ _ hS.typeIs (F.args_set_contains_2 _ _) ?_)
  unfold Builtin.«frozenset.__contains__» Builtin.Frozenset.oneOther
  simp only [I9,bind_assoc]
  unfold Builtin.Frozenset.addrOf Builtin.Frozenset.withSetAsKey setContains
  refine C0 (I0 ?_)
  try dsimp only
  refine C0 (I0 ?_)
  try dsimp only
  refine C0 (wpAny_tryCatch ?_)
  refine wpAny_holding ?_
  refine C0 ((intKind pw (W3 w b1 b2 b3)).pyHash hk ?_)
  refine C0 (wpAny_setFind_of (s:={s with toks:=s.toks+1}) hk (lV k t) hS fun r hr=>?_)
  refine I0 ?_
  show wpAny _ _ (ret (Value.bool r.isSome)) _ _ _
  rw [hr,hb]
  exact I0 ⟨rfl,_,rfl,aG rfl rfl⟩
theorem lU {w:World} {b1 b2 b3:Bool} {bel:ag→Prop} {X M:af} {Q:Result→af→Prop} {d:Nat} {o:Obj} {S:List Int} {n:Nat} (hb:∀l,bel l→l.length≤96) (H:SetI b1 b2 b3 w o S n) (hn:n≤1000) (k:Int) (t:Nat) (hk:k∉S) (hp:([(d,o)]++X).Perm M)
    (hQ:∀o',SetI b1 b2 b3 w o' (k::S) (n+1)→Q (.ok (.ret .none)) ([(d,o')]++X)):Con w b1 b2 b3 bel (.call (.builtin "set.add") ⟨[.ref d,.int k t],[]⟩) M Q:=by
  refine (Con.code (L:= [(d,o)]) (Q:=fun r L'=>r= .ok (.ret .none)∧∃o',L'= [(d,o')]∧SetI b1 b2 b3 w o' (k::S) (n+1)) (fun l h=>M0 (hb l h) (by decide)) fun A s hA hu hs=>?_).use hp ?_
  · have ho:s.heap.get? d=some o:=hs.led.1
    have hS:=H.of (h:=s.heap) ho
    have hkk:(intKind pw (W3 w b1 b2 b3)).is k (.int k t)=true:=by show (k==k)=true;simp
    refine M1 F.slot_set_add.plain F.entry_set_add (F.slot_set_add.check _ _ _ _ _ _ _ _ hS.typeIs (F.args_set_add_2 _ _) ?_)
    unfold Builtin.«set.add» Builtin.Frozenset.oneOther
    simp only [I9,bind_assoc]
    unfold Builtin.Frozenset.addrOf setAdd
    refine C0 (I0 ?_)
    try dsimp only
    refine C0 (I0 ?_)
    try dsimp only
    refine C0 ?_
    refine wpAny_holding ?_
    refine C0 ((intKind pw (W3 w b1 b2 b3)).pyHash hkk ?_)
    refine wpAny_setAddHashed_of (s:={s with toks:=s.toks+1}) hkk (lV k t) hS (by unfold scanBound;lia) fun h' hsb hS'=>?_
    show wpAny _ _ (ret Value.none) _ _ _
    rw [if_neg (by simpa using hk)] at hS'
    obtain ⟨o',ho',hI⟩:=SetI.back (S:=k::S) hS' (fun k'=>by simp only [Bool.or_eq_true,decide_eq_true_eq,Z0];exact Or.comm)
    exact I0 ⟨_,To.same (n:=1) hs hsb ho',rfl,o',rfl,hI⟩
  · rintro r L' ⟨rfl,o',rfl,h⟩
    exact hQ o' h
noncomputable abbrev z5 (w:World) (b1 b2 b3:Bool) (it d i ep:Nat) (l:List (Int × Nat × Value)) (q:Int × Nat × Value) (c:Code) (below:ag) (p:Pos) (N tk:Nat):Run:=rn w b1 b2 b3 [(it,cW "dict_keyiterator" (.ref d) i l.length ep),(d,ak l ep)] N tk [n5 0 1 it d i l ep (.int q.1 q.2.1)] [] (cx c below) p (pC (.ref it)) [1,1] [0,1]
theorem qF (w:World) (b2 b3:Bool) (it d i ep:Nat) (l:List (Int × Nat × Value)) (q:Int × Nat × Value) (c:Code) (below:ag) (p:Pos) (N tk:Nat):∀b1,(z5 w b1 b2 b3 it d i ep l q c below p N tk).lhs=(z5 w b1 b2 b3 it d i ep l q c below p N tk).rhs (.ok (ix (some (.int q.1 q.2.1)))) 0 0 [(it,cW "dict_keyiterator" (.ref d) (i+1) l.length ep),(d,ak l ep)]:=fB (by kernel_rfl!)
theorem ud {w:World} {b1 b2 b3:Bool} (it d i ep:Nat) (l:List (Int × Nat × Value)) (q:Int × Nat × Value) (hx:l[i]?=some q) {c:Code} {below:ag} {F M:af} {Q:Option Value→af→Prop} (hb:below.length≤96) (hp:([(it,cW "dict_keyiterator" (Value.ref d) i l.length ep),(d,ak l ep)]++F).Perm M) (H:∀(N tk:Nat),Q (some (Value.int q.1 q.2.1)) ([(it,cW "dict_keyiterator" (Value.ref d) (i+1) l.length ep),(d,ak l ep)]++F)):Tr w b1 b2 b3 (cx c below) (pyNext (Value.ref it)) M Q:=
  Tr.nx fun p=>@oT w b1 b2 b3 _ _ _ _ _ _ _ _ _ _ _ (fun N tk=> [n5 0 1 it d i l ep (Value.int q.1 q.2.1)]) _ _ _ _ hp aa (gb hb) (fun N tk hN hap=>a9 (nt _ _ _ hx) a8) (fun N tk=>qF w b2 b3 it d i ep l q c below p N tk b1) (fun _ _=>rfl) (fun N tk=>⟨_,rfl,(H N tk)⟩)
noncomputable abbrev enK (w:World) (b1 b2 b3:Bool) (it d i ep:Nat) (l:List (Int × Nat × Value)) (c:Code) (below:ag) (p:Pos) (N tk:Nat):Run:=rn w b1 b2 b3 [(it,cW "dict_keyiterator" (.ref d) i l.length ep),(d,ak l ep)] N tk [pS 0 1 it d i l ep N] [] (cx c below) p (pC (.ref it)) [1,1,4] [0,1]
theorem uJ (w:World) (b2 b3:Bool) (it d i ep:Nat) (l:List (Int × Nat × Value)) (c:Code) (below:ag) (p:Pos) (N tk:Nat):∀b1,(enK w b1 b2 b3 it d i ep l c below p N tk).lhs=(enK w b1 b2 b3 it d i ep l c below p N tk).rhs (.ok (ix none)) 2 0 [(it,cW "dict_keyiterator" .none i l.length ep),(d,ak l ep)]:=fB (by kernel_rfl!)
theorem xF {w:World} {b1 b2 b3:Bool} (it d i ep:Nat) (l:List (Int × Nat × Value)) (hx:l.length≤i) {c:Code} {below:ag} {F M:af} {Q:Option Value→af→Prop} (hb:below.length≤96) (hp:([(it,cW "dict_keyiterator" (Value.ref d) i l.length ep),(d,ak l ep)]++F).Perm M) (H:∀(N tk:Nat),Q none ([(it,cW "dict_keyiterator" .none i l.length ep),(d,ak l ep)]++F)):Tr w b1 b2 b3 (cx c below) (pyNext (Value.ref it)) M Q:=
  Tr.nx fun p=>@oT w b1 b2 b3 _ _ _ _ _ _ _ _ _ _ _ (fun N tk=> [pS 0 1 it d i l ep N]) _ _ _ _ hp aa (gb hb) (fun N tk hN hap=>a9 (oZ _ _ _ _ hx) a8) (fun N tk=>uJ w b2 b3 it d i ep l c below p N tk b1) (fun _ _=>rfl) (fun N tk=>⟨_,rfl,(H N tk)⟩)
noncomputable abbrev slK (w:World) (b1 b2 b3:Bool) (it d i n ep:Nat) (c:Code) (below:ag) (p:Pos) (N tk:Nat):Run:=rn w b1 b2 b3 [(it,cW "dict_keyiterator" (.ref d) i n ep)] N tk [] [] (cx c below) p (wV (.ref it)) [1,1,0,1,1] [0]
theorem tL (w:World) (b2 b3:Bool) (it d i n ep:Nat) (c:Code) (below:ag) (p:Pos) (N tk:Nat):∀b1,(slK w b1 b2 b3 it d i n ep c below p N tk).lhs=(slK w b1 b2 b3 it d i n ep c below p N tk).rhs (.ok (.ret (.ref it))) 0 0 [(it,cW "dict_keyiterator" (.ref d) i n ep)]:=fB (by kernel_rfl!)
theorem wt {w:World} {b1 b2 b3:Bool} (it d i n ep:Nat) {c:Code} {below:ag} {F M:af} {Q:Value→af→Prop} (hb:below.length≤96) (hp:([(it,cW "dict_keyiterator" (Value.ref d) i n ep)]++F).Perm M) (H:∀(N tk:Nat),Q (Value.ref it) ([(it,cW "dict_keyiterator" (Value.ref d) i n ep)]++F)):Tr w b1 b2 b3 (cx c below) (pyIter (Value.ref it)) M Q:=
  Tr.pi fun p=>@oT w b1 b2 b3 _ _ _ _ _ _ _ _ _ _ _ (fun N tk=> []) _ _ _ _ hp aa (gb hb) (fun N tk hN hap=>a8) (fun N tk=>tL w b2 b3 it d i n ep c below p N tk b1) (fun _ _=>rfl) (fun N tk=>⟨_,rfl,(H N tk)⟩)
noncomputable abbrev yY (w:World) (b1 b2 b3:Bool) (it d i ep:Nat) (l:List (Int × Nat × Value)) (q:Int × Nat × Value) (c:Code) (below:ag) (p:Pos) (N tk:Nat):Run:=rn w b1 b2 b3 [(it,cW "dict_valueiterator" (.ref d) i l.length ep),(d,ak l ep)] N tk [n0 0 1 it d i l ep (q.2.2)] [] (cx c below) p (pC (.ref it)) [1,1] [0,1]
theorem qB (w:World) (b2 b3:Bool) (it d i ep:Nat) (l:List (Int × Nat × Value)) (q:Int × Nat × Value) (c:Code) (below:ag) (p:Pos) (N tk:Nat):∀b1,(yY w b1 b2 b3 it d i ep l q c below p N tk).lhs=(yY w b1 b2 b3 it d i ep l q c below p N tk).rhs (.ok (ix (some (q.2.2)))) 0 0 [(it,cW "dict_valueiterator" (.ref d) (i+1) l.length ep),(d,ak l ep)]:=fB (by kernel_rfl!)
theorem ua {w:World} {b1 b2 b3:Bool} (it d i ep:Nat) (l:List (Int × Nat × Value)) (q:Int × Nat × Value) (hx:l[i]?=some q) {c:Code} {below:ag} {F M:af} {Q:Option Value→af→Prop} (hb:below.length≤96) (hp:([(it,cW "dict_valueiterator" (Value.ref d) i l.length ep),(d,ak l ep)]++F).Perm M) (H:∀(N tk:Nat),Q (some (q.2.2)) ([(it,cW "dict_valueiterator" (Value.ref d) (i+1) l.length ep),(d,ak l ep)]++F)):Tr w b1 b2 b3 (cx c below) (pyNext (Value.ref it)) M Q:=
  Tr.nx fun p=>@oT w b1 b2 b3 _ _ _ _ _ _ _ _ _ _ _ (fun N tk=> [n0 0 1 it d i l ep (q.2.2)]) _ _ _ _ hp aa (gb hb) (fun N tk hN hap=>a9 (nr _ _ _ hx) a8) (fun N tk=>qB w b2 b3 it d i ep l q c below p N tk b1) (fun _ _=>rfl) (fun N tk=>⟨_,rfl,(H N tk)⟩)
noncomputable abbrev enV (w:World) (b1 b2 b3:Bool) (it d i ep:Nat) (l:List (Int × Nat × Value)) (c:Code) (below:ag) (p:Pos) (N tk:Nat):Run:=rn w b1 b2 b3 [(it,cW "dict_valueiterator" (.ref d) i l.length ep),(d,ak l ep)] N tk [pR 0 1 it d i l ep N] [] (cx c below) p (pC (.ref it)) [1,1,4] [0,1]
theorem uF (w:World) (b2 b3:Bool) (it d i ep:Nat) (l:List (Int × Nat × Value)) (c:Code) (below:ag) (p:Pos) (N tk:Nat):∀b1,(enV w b1 b2 b3 it d i ep l c below p N tk).lhs=(enV w b1 b2 b3 it d i ep l c below p N tk).rhs (.ok (ix none)) 2 0 [(it,cW "dict_valueiterator" .none i l.length ep),(d,ak l ep)]:=fB (by kernel_rfl!)
theorem xC {w:World} {b1 b2 b3:Bool} (it d i ep:Nat) (l:List (Int × Nat × Value)) (hx:l.length≤i) {c:Code} {below:ag} {F M:af} {Q:Option Value→af→Prop} (hb:below.length≤96) (hp:([(it,cW "dict_valueiterator" (Value.ref d) i l.length ep),(d,ak l ep)]++F).Perm M) (H:∀(N tk:Nat),Q none ([(it,cW "dict_valueiterator" .none i l.length ep),(d,ak l ep)]++F)):Tr w b1 b2 b3 (cx c below) (pyNext (Value.ref it)) M Q:=
  Tr.nx fun p=>@oT w b1 b2 b3 _ _ _ _ _ _ _ _ _ _ _ (fun N tk=> [pR 0 1 it d i l ep N]) _ _ _ _ hp aa (gb hb) (fun N tk hN hap=>a9 (oY _ _ _ _ hx) a8) (fun N tk=>uF w b2 b3 it d i ep l c below p N tk b1) (fun _ _=>rfl) (fun N tk=>⟨_,rfl,(H N tk)⟩)
noncomputable abbrev slV (w:World) (b1 b2 b3:Bool) (it d i n ep:Nat) (c:Code) (below:ag) (p:Pos) (N tk:Nat):Run:=rn w b1 b2 b3 [(it,cW "dict_valueiterator" (.ref d) i n ep)] N tk [] [] (cx c below) p (wV (.ref it)) [1,1,0,1,1] [0]
theorem tH (w:World) (b2 b3:Bool) (it d i n ep:Nat) (c:Code) (below:ag) (p:Pos) (N tk:Nat):∀b1,(slV w b1 b2 b3 it d i n ep c below p N tk).lhs=(slV w b1 b2 b3 it d i n ep c below p N tk).rhs (.ok (.ret (.ref it))) 0 0 [(it,cW "dict_valueiterator" (.ref d) i n ep)]:=fB (by kernel_rfl!)
theorem wo {w:World} {b1 b2 b3:Bool} (it d i n ep:Nat) {c:Code} {below:ag} {F M:af} {Q:Value→af→Prop} (hb:below.length≤96) (hp:([(it,cW "dict_valueiterator" (Value.ref d) i n ep)]++F).Perm M) (H:∀(N tk:Nat),Q (Value.ref it) ([(it,cW "dict_valueiterator" (Value.ref d) i n ep)]++F)):Tr w b1 b2 b3 (cx c below) (pyIter (Value.ref it)) M Q:=
  Tr.pi fun p=>@oT w b1 b2 b3 _ _ _ _ _ _ _ _ _ _ _ (fun N tk=> []) _ _ _ _ hp aa (gb hb) (fun N tk hN hap=>a8) (fun N tk=>tH w b2 b3 it d i n ep c below p N tk b1) (fun _ _=>rfl) (fun N tk=>⟨_,rfl,(H N tk)⟩)
section
variable {w:World} {b1 b2 b3:Bool}
theorem Iter.dkeys (it d ep:Nat) (l:List (Int × Nat × Value)):Iter w b1 b2 b3 it l (fun q v=>v= .int q.1 q.2.1) (fun i=> [(it,cW "dict_keyiterator" (.ref d) i l.length ep),(d,ak l ep)]) [(it,cW "dict_keyiterator" .none l.length l.length ep),(d,ak l ep)] where
  next i x hx c below hb:=ud it d i ep l x hx (F:= []) hb (P1 (U0 _)) fun N tk=>⟨_,rfl,rfl,U0 _⟩
  stop c below hb:=xF it d l.length ep l (S0 _) (F:= []) hb (P1 (U0 _)) fun N tk=>⟨rfl,U0 _⟩
  self c below hb:=wt it d 0 l.length ep (F:= [(d,ak l ep)]) hb (E0 _) fun N tk=>⟨rfl,rfl⟩
theorem Iter.dvals (it d ep:Nat) (l:List (Int × Nat × Value)):Iter w b1 b2 b3 it l (fun q v=>v=q.2.2) (fun i=> [(it,cW "dict_valueiterator" (.ref d) i l.length ep),(d,ak l ep)]) [(it,cW "dict_valueiterator" .none l.length l.length ep),(d,ak l ep)] where
  next i x hx c below hb:=ua it d i ep l x hx (F:= []) hb (P1 (U0 _)) fun N tk=>⟨_,rfl,rfl,U0 _⟩
  stop c below hb:=xC it d l.length ep l (S0 _) (F:= []) hb (P1 (U0 _)) fun N tk=>⟨rfl,U0 _⟩
  self c below hb:=wo it d 0 l.length ep (F:= [(d,ak l ep)]) hb (E0 _) fun N tk=>⟨rfl,rfl⟩
end
noncomputable def All2 {α:Type} (f:α→Value→Prop):List α→List Value→Prop
  | [],[]=>True
  | a::l,v::vs=>f a v∧All2 f l vs
  | _,_=>False
theorem All2.snoc {α:Type} {f:α→Value→Prop} {a:α} {v:Value} (h:f a v):∀{l:List α} {vs:List Value},All2 f l vs→All2 f (l++ [a]) (vs++ [v])
  | [],[],_=>⟨h,trivial⟩
  | _::_,_::_,⟨h1,h2⟩=>⟨h1,All2.snoc h h2⟩
  | [],_::_,h=>h.elim
  | _::_,[],h=>h.elim
theorem All2.length {α:Type} {f:α→Value→Prop}:∀{l:List α} {vs:List Value},All2 f l vs→vs.length=l.length
  | [],[],_=>rfl
  | _::_,_::_,⟨_,h⟩=>by rw [J0,J0,h.length]
  | [],_::_,h=>h.elim
  | _::_,[],h=>h.elim
theorem All2.mono {α:Type} {f g:α→Value→Prop} (hfg:∀a v,f a v→g a v):∀{l:List α} {vs:List Value},All2 f l vs→All2 g l vs
  | [],[],_=>trivial
  | _::_,_::_,⟨h1,h2⟩=>⟨hfg _ _ h1,All2.mono hfg h2⟩
  | [],_::_,h=>h.elim
  | _::_,[],h=>h.elim
theorem All2.ints {α:Type} {g:α→Int}:∀{l:List α} {vs:List Value},All2 (fun a v=>∃t,v= .int (g a) t) l vs→∃ps:List (Int × Nat),vs=ps.map iv∧ps.map (·.1)=l.map g
  | [],[],_=>⟨[],rfl,rfl⟩
  | a::_,_::_,⟨⟨t,rfl⟩,h⟩=>by
    obtain ⟨ps,rfl,h2⟩:=All2.ints h
    exact ⟨(g a,t)::ps,rfl,by rw [H0,H0,h2]⟩
  | [],_::_,h=>h.elim
  | _::_,[],h=>h.elim
theorem All2.get {α:Type} {f:α→Value→Prop}:∀{l:List α} {vs:List Value} {i:Nat} {a:α},All2 f l vs→l[i]?=some a→∃v,vs[i]?=some v∧f a v
  | _::_,v::_,0,_,⟨h,_⟩,e=>by cases e;exact ⟨v,rfl,h⟩
  | _::_,_::_,i+1,_,⟨_,h⟩,e=>All2.get (i:=i) h e
  | [],_,_,_,_,e=>by cases e
  | _::_,[],_,_,h,_=>h.elim
theorem cL {α:Type} (t:α→Bool) (l:List α) (i:Nat) (q:α) (h:l[i]?=some q):(l.take (i+1)).filter t=(l.take i).filter t++(if t q then [q] else []):=by
  obtain ⟨hi,e⟩:=C1.mp h
  rw [Y1 hi,X8,e]
  congr 1
  by_cases ht:t q=true
  · rw [if_pos ht,B8 ht];rfl
  · rw [if_neg ht,C8 ht];rfl
section
variable {w:World} {b1 b2 b3:Bool} {bel:ag→Prop} {R M:af} {Q:Result→af→Prop} {α:Type} {items:List α} {kl:α→Value→Prop} {src:Nat→af} {fin:af}
theorem jX {x:PySem.Str} {px:Pos} {elt iter c:Expr} {scope:Scope} {pos:Pos} {it acc lc:Nat} {env:Env} (t:α→Bool) (f:α→Value→Prop) (I:Obj→Prop) {D0:Obj} (ip:I D0) (hb:∀l,bel l→l.length≤96) (hlen:items.length≤900) (hit:Iter w b1 b2 b3 it items kl src fin)
    (hbody:∀i q,items[i]?=some q→∀v,kl q v→∀D,I D→∀c' below,below.length≤96→Tr w b1 b2 b3 (cx c' below) (assign (.Name x px) env v>>=fun _=>isTrue c env (eval c env)) (src (i+1)++((lc,D)::R))
      fun b L1=>b=t q∧match b with
        | true=>Tr w b1 b2 b3 (cx c' below) (eval elt env) L1 fun y L'=>f q y∧∃D',I D'∧L'.Perm (src (i+1)++((lc,D')::R))
        | false=>∃D',I D'∧L1.Perm (src (i+1)++((lc,D')::R)))
    (hp:((acc,lst [] 0)::(src 0++((lc,D0)::R))).Perm M)
    (hQ:∀vs ep D,I D→All2 f (items.filter t) vs→Q (.ok .next) ((acc,lst vs ep)::(fin++((lc,D)::R)))):Con w b1 b2 b3 bel (.compStart (.ListComp elt [⟨.Name x px,iter,[c],0⟩] scope pos) 0 (.ref it) (.ref acc) env) M Q:=by
  refine cO (F:=(acc,lst [] 0)::((lc,D0)::R)) hb hit rfl ?_ ((g4 (fun i vs L=>∃D,I D∧L=(lc,D)::R∧All2 f ((items.take i).filter t) vs) hb hlen hit ?_ ?_ items.length 0 [] 0 ((lc,D0)::R) (by exact (P2 _).symm) (S0 _) ⟨D0,ip,rfl,trivial⟩).perm hp)
  · exact A2.trans hp
  · rintro i q hq v hv vs L ⟨D,hD,rfl,ha⟩ below ao
    refine (hbody i q hq v hv D hD _ below (hb _ ao)).mono ?_
    rintro b L1 ⟨hbt,h⟩
    cases b with
    | true=>
      refine Tr.mono h ?_
      rintro y L' ⟨hf,D',hD',hp'⟩
      refine ⟨_,hp',D',hD',rfl,?_⟩
      rw [cL t items i q hq,←hbt,if_pos rfl]
      exact ha.snoc hf
    | false=>
      obtain ⟨D',hD',hp'⟩:=h
      refine ⟨_,hp',D',hD',rfl,?_⟩
      rw [cL t items i q hq,←hbt,if_neg (by simp),U0]
      exact ha
  · rintro vs ep L ⟨D,hD,rfl,ha⟩
    rw [C3] at ha
    exact hQ vs ep D hD ha
theorem dv {x:PySem.Str} {px:Pos} {elt iter:Expr} {scope:Scope} {pos:Pos} {it acc lc:Nat} {env:Env} (f:α→Value→Prop) (I:Obj→Prop) {D0:Obj} (ip:I D0) (hb:∀l,bel l→l.length≤96) (hlen:items.length≤900) (hit:Iter w b1 b2 b3 it items kl src fin)
    (hbody:∀i q,items[i]?=some q→∀v,kl q v→∀D,I D→∀c' below,below.length≤96→Tr w b1 b2 b3 (cx c' below) (assign (.Name x px) env v>>=fun _=>eval elt env) (src (i+1)++((lc,D)::R))
      fun y L'=>f q y∧∃D',I D'∧L'.Perm (src (i+1)++((lc,D')::R)))
    (hp:((acc,lst [] 0)::(src 0++((lc,D0)::R))).Perm M)
    (hQ:∀vs ep D,I D→All2 f items vs→Q (.ok .next) ((acc,lst vs ep)::(fin++((lc,D)::R)))):Con w b1 b2 b3 bel (.compStart (.ListComp elt [⟨.Name x px,iter,[],0⟩] scope pos) 0 (.ref it) (.ref acc) env) M Q:=by
  refine cO (F:=(acc,lst [] 0)::((lc,D0)::R)) hb hit rfl ?_ ((g5 (fun i vs L=>∃D,I D∧L=(lc,D)::R∧All2 f (items.take i) vs) hb hlen hit ?_ ?_ items.length 0 [] 0 ((lc,D0)::R) (by exact (P2 _).symm) (S0 _) ⟨D0,ip,rfl,trivial⟩).perm hp)
  · exact A2.trans hp
  · rintro i q hq v hv vs L ⟨D,hD,rfl,ha⟩ below ao
    refine (hbody i q hq v hv D hD _ below (hb _ ao)).mono ?_
    rintro y L' ⟨hf,D',hD',hp'⟩
    refine ⟨_,hp',D',hD',rfl,?_⟩
    obtain ⟨hi,e⟩:=C1.mp hq
    rw [Y1 hi,e]
    exact ha.snoc hf
  · rintro vs ep L ⟨D,hD,rfl,ha⟩
    rw [C3] at ha
    exact hQ vs ep D hD ha
end
section
variable {α β:Type} {w:World} {b1 b2 b3:Bool} {Γ:Ctx} {L M F:af} {bel:ag→Prop}
noncomputable def TrX (w:World) (b1 b2 b3:Bool) (Γ:Ctx) {α:Type} (m:Sem α) (L:af) (Q:α→af→Prop) (E:Value→af→Prop):Prop:=
  ∀s,St w s L→∀p,Sem.wp (model pw (W3 w b1 b2 b3)) Γ m (fun a _ s'=>∃L',To w s s' L L'∧Q a L') (fun e _ s'=>∃L',To w s s' L L'∧E e L') p s
theorem TrX.of_gos {m:Sem α} {Q:α→af→Prop} {E:Value→af→Prop} {enc:α→Flow} (hi:∀a b,enc a=enc b→a=b) (h:∀p,Gos w b1 b2 b3 [] Γ p (m.bind fun a=>.pure (.done (enc a))) L fun r L'=>(∃a,r= .ok (enc a)∧Q a L')∨(∃e,r= .error e∧E e L')):TrX w b1 b2 b3 Γ m L Q E:=by
  intro s hs p
  have:=(A5 _ Γ _ _ p s).mpr (h p s hs)
  rw [I5] at this
  refine W2 _ _ _ ?_ ?_ p s this
  · rintro a p' s' hf
    rw [B7] at hf
    obtain ⟨L',t,(⟨a',e,q⟩ | ⟨e',e,q⟩)⟩:=hf
    · injection e with e
      have:=hi _ _ e
      subst this
      exact ⟨L',t,q⟩
    · cases e
  · rintro e p' s' ⟨L',t,(⟨a',e',q⟩ | ⟨e',e'',q⟩)⟩
    · cases e'
    · injection e'' with e'';subst e'';exact ⟨L',t,q⟩
theorem TrX.st {body:List Stmt} {env:Env} {Q:Flow→af→Prop} {E:Value→af→Prop} (h:∀p,Gos w b1 b2 b3 [] Γ p (yN body env) L fun r L'=>(∃f,r= .ok f∧Q f L')∨(∃e,r= .error e∧E e L')):TrX w b1 b2 b3 Γ (execs body env) L Q E:=by
  refine TrX.of_gos (enc:=id) (fun a b e=>e) fun p=>?_
  have:=h p
  rw [qb] at this
  exact this
theorem TrX.stE {body:List Stmt} {env:Env} {E:Value→af→Prop} (h:∀p,Gos w b1 b2 b3 [] Γ p (yN body env) L fun r L'=>∃e,r= .error e∧E e L'):TrX w b1 b2 b3 Γ (execs body env) L (fun _ _=>False) E:=
  TrX.st fun p=>(h p).mono fun r L' h=>.inr h
theorem TrX.mono {m:Sem α} {Q Q':α→af→Prop} {E E':Value→af→Prop} (h:TrX w b1 b2 b3 Γ m L Q E) (hq:∀a L',Q a L'→Q' a L') (he:∀a L',E a L'→E' a L'):TrX w b1 b2 b3 Γ m L Q' E':=fun s hs p=>
  W2 _ _ _ (fun a _ s' ⟨L',t,q⟩=>⟨L',t,hq a L' q⟩) (fun e _ s' ⟨L',t,q⟩=>⟨L',t,he e L' q⟩) p s (h s hs p)
theorem Tr.attempt {m:Sem α} {Q:Except Value α→af→Prop} (h:TrX w b1 b2 b3 Γ m L (fun a L'=>Q (.ok a) L') (fun e L'=>Q (.error e) L')):Tr w b1 b2 b3 Γ m.attempt L Q:=by
  intro s hs p
  rw [Sem.wp_attempt]
  exact h s hs p
theorem Tr.keep {m:Sem α} {vs:List Value} {Q:α→af→Prop} (h:Tr w b1 b2 b3 Γ m L Q):Tr w b1 b2 b3 Γ (m.keep vs) L Q:=by
  intro s hs p
  rw [Sem.wp_keep];exact h s hs p
theorem Tr.holding {m:Sem α} {vs:List Value} {Q:α→af→Prop} (h:Tr w b1 b2 b3 Γ m L Q):Tr w b1 b2 b3 Γ (holding vs m) L Q:=by
  unfold PySem.holding
  split
  · exact h
  · exact Tr.keep h
theorem Tr.load {a:Nat} {o:Obj} {Q:Obj→af→Prop} (h:(a,o)∈L) (hq:Q o L):Tr w b1 b2 b3 Γ (PySem.load a) L Q:=fun s hs p=>by
  rw [O9]
  exact ⟨o,Led.iff.mp hs.led _ h,L,.refl hs,hq⟩
theorem Tr.stack {Q:ag→af→Prop} (h:∀p,Q ((Γ.code,p)::Γ.below) L):Tr w b1 b2 b3 Γ PySem.stack L Q:=fun s hs p=>by
  unfold PySem.stack
  rw [Sem.wp_stack,B7]
  exact ⟨L,.refl hs,h p⟩
theorem Tr.update {a:Nat} {o:Obj} {f:Obj→Obj} {Q:Unit→af→Prop} (hf:(f o).isFreed=false) (hq:Q () ((a,f o)::F)):Tr w b1 b2 b3 Γ (PySem.update a f) ((a,o)::F) Q:=fun s hs p=>by
  rw [Sem.wp_cmd_update]
  have ho:s.heap.get? a=some o:=hs.led.1
  refine ⟨by rw [ho];rfl,(a,f o)::F,?_,hq⟩
  have h1:=To.same (w:=w) (s:=s) (n:=0) (hs.sub (Y6 (a,o) (G9 F))) (H7 s.heap a f) (M2 f ho hf)
  exact h1.frame (F:=F) hs
theorem Tr.alloc {o:Obj} {Q:Nat→af→Prop} (hf:o.isFreed=false) (hq:∀N,Q N ((N,o)::L)):Tr w b1 b2 b3 Γ (PySem.alloc o) L Q:=fun s hs p=>by
  rw [Sem.wp_cmd_alloc]
  refine ⟨(s.heap.objs.size,o)::L,?_,hq _⟩
  have hk:∀b o1,s.heap.get? b=some o1→(s.heap.push o).get? b=some o1:=fun b o1 e=>B1 _ e
  have hkt:eq (g9 w.2) (s.heap.push o):=fun b o1 e=>hk b o1 (hs.kt b o1 e)
  have hsz:(s.heap.push o).objs.size=s.heap.objs.size+1:=M3 _ _
  refine ⟨⟨hkt,by show aJ≤(s.heap.push o).objs.size;rw [hsz];have:=hs.big;lia,⟨B2 _ hf,?_⟩,?_⟩,⟨by show _≤(s.heap.push o).objs.size;rw [hsz];exact C5 _,fun b o1 e _=>hk b o1 e,hkt,rfl,rfl,rfl⟩,?_⟩
  · exact Led.iff.mpr fun q hq=>hk _ _ (Led.iff.mp hs.led q hq)
  · show Apart aJ (s.heap.push o).objs.size (s.heap.objs.size::L.map (·.1))
    rw [hsz]
    refine ⟨.inl hs.big,by exact S0 _,fun b hb e=>?_,hs.ap.mono (by exact C5 _)⟩
    have:=(hs.ap.all.2 b hb).2
    lia
  · intro a ha
    rcases Z0.mp ha with rfl | ha
    · exact .inr (S0 _)
    · exact .inl ha
theorem Tr.field {a i:Nat} {o:Obj} {vs:Array Value} {x:Value} {Q:Value→af→Prop} (h:(a,o)∈L) (hd:o.data= .fields vs) (hx:vs[i]?=some x) (hq:Q x L):Tr w b1 b2 b3 Γ (PySem.field (.ref a) i) L Q:=by
  unfold PySem.field fieldsOf
  refine Tr.bind (Tr.bind (Tr.load h ?_))
  rw [hd]
  refine Tr.pure ?_
  rw [hx]
  exact Tr.pure hq
theorem Tr.setField {a i:Nat} {o:Obj} {vs:Array Value} {x:Value} {Q:Unit→af→Prop} (hd:o.data= .fields vs) (hi:i < vs.size) (hf:(Obj.mapFields (·.setIfInBounds i x) o).isFreed=false) (hq:Q () ((a,Obj.mapFields (·.setIfInBounds i x) o)::F)):Tr w b1 b2 b3 Γ (PySem.setField (.ref a) i x) ((a,o)::F) Q:=by
  unfold PySem.setField updateField
  refine Tr.bind (Tr.load (.head _) ?_)
  rw [hd]
  dsimp only
  rw [if_pos hi]
  exact Tr.update hf hq
noncomputable def cX (l:ag):List Env:=(l.filter (·.1.isFrame)).filterMap (·.1.env?)
theorem iu {c:Code} {p:Pos} {l:ag} (h:c.isFrame=false):cX ((c,p)::l)=cX l:=by
  unfold cX
  rw [C8 (by rw [h];exact R1)]
theorem fY {b:List Stmt} {env:Env} {p:Pos} {l:ag}:cX ((.func b env,p)::l)=env::cX l:=by
  unfold cX
  rw [B8 (by rfl),L5];rfl
theorem Tr.frameEnvs {Q:List Env→af→Prop} (h:Q (cX ((Γ.code,default)::Γ.below)) L):Tr w b1 b2 b3 Γ PySem.frameEnvs L Q:=by
  unfold PySem.frameEnvs
  refine Tr.bind (Tr.stack fun p=>Tr.pure ?_)
  have:∀q q':Pos,cX ((Γ.code,q)::Γ.below)=cX ((Γ.code,q')::Γ.below):=fun q q'=>by
    unfold cX
    rw [W1,W1]
    by_cases hc:Γ.code.isFrame=true
    · rw [if_pos (show (Γ.code,q).1.isFrame=true from hc),if_pos (show (Γ.code,q').1.isFrame=true from hc),L5,L5]
    · rw [if_neg (show ¬(Γ.code,q).1.isFrame=true from hc),if_neg (show ¬(Γ.code,q').1.isFrame=true from hc)]
  show Q (cX ((Γ.code,p)::Γ.below)) L
  rw [this p default]
  exact h
structure dH (e:Env) (f:Nat):Prop where
  fr:e.frame=some f
  kind:(e.scope.kind != .module)=true
  gen:e.scope.isGenerator=false
  cor:e.scope.isCoroutine=false
noncomputable def FrLed:List Env→af→Prop
  | [],L=>L= []
  | e::es,L=>∃f es' fe sl L',dH e f∧L=(f,gA es' fe sl)::L'∧FrLed es L'
noncomputable def FrSame:af→af→Prop
  | [],L=>L= []
  | q::l,L=>∃es fe sl sl' L',q.2=gA es fe sl∧L=(q.1,gA es fe sl')::L'∧FrSame l L'
theorem FrSame.refl {es:List Env} {L:af} (h:FrLed es L):FrSame L L:=by
  induction es generalizing L with
  | nil=>cases h;rfl
  | cons e es ih=>obtain ⟨f,es',fe,sl,L',_,rfl,h⟩:=h;exact ⟨es',fe,sl,sl,L',rfl,rfl,ih h⟩
theorem lm {G:Prop} {es es':List DictEntry} {fe fe':Nat} {sl sl':Array (Option Value)} (h:gA es fe sl=gA es' fe' sl') (k:es=es'→fe=fe'→G):G:=by
  injection h with _ _ h _
  injection h with h1 h2
  injection h1 with h1
  exact k h1 h2
theorem FrSame.trans {L L' L'':af} (h:FrSame L L') (h':FrSame L' L''):FrSame L L'':=by
  induction L generalizing L' L'' with
  | nil=>cases h;exact h'
  | cons q l ih=>
    obtain ⟨es,fe,sl,sl',L1,e1,rfl,h⟩:=h
    obtain ⟨es2,fe2,sl2,sl2',L2,e2,rfl,h2⟩:=h'
    refine lm e2 fun e3 e4=>?_
    subst e3 e4
    exact ⟨es,fe,sl,sl2',L2,e1,rfl,ih h h2⟩
theorem FrLed.same {es:List Env} {L L':af} (h:FrLed es L) (h':FrSame L L'):FrLed es L':=by
  induction es generalizing L L' with
  | nil=>cases h;exact h'
  | cons e es ih=>
    obtain ⟨f,es',fe,sl,L1,hp,rfl,h⟩:=h
    obtain ⟨es2,fe2,sl2,sl2',L2,e1,rfl,h2⟩:=h'
    exact ⟨f,es2,fe2,sl2',L2,hp,rfl,ih h h2⟩
theorem lC {e:Env} {f:Nat} (h:dH e f) (outer:List Env):behindIsImport e outer=pure false:=by
  unfold behindIsImport
  rw [h.kind];rfl
theorem Tr.any_stack {Q:Bool→af→Prop} (h:∀b,Q b L):Tr w b1 b2 b3 Γ underTheClaimsCaller L Q:=by
  unfold underTheClaimsCaller
  exact Tr.bind (Tr.stack fun p=>Tr.pure (h _))
theorem vp {e:Env} {f:Nat} {es:List Env} (hp:dH e f) {Q':Value→af→Prop} {L0:af} (hQ':∀v,Q' v L0):Tr w b1 b2 b3 Γ (keptBack e false es) L0 Q':=by
  unfold keptBack
  cases es with
  | nil=>
    rw [hp.gen,hp.cor]
    exact Tr.bind (Tr.any_stack fun b=>Tr.pure (hQ' _))
  | cons c l=>exact Tr.pure (hQ' _)
theorem ql (es:List Env) (L X:af) (Q:Unit→af→Prop) (h:FrLed es L) (hq:∀L',FrSame L L'→Q () (L'++X)):Tr w b1 b2 b3 Γ (readyFrames es) (L++X) Q:=by
  induction es generalizing L X Q with
  | nil=>cases h;exact Tr.pure (hq [] rfl)
  | cons e es ih=>
    obtain ⟨f,es',fe,sl,L',hp,rfl,h⟩:=h
    unfold readyFrames
    rw [hp.fr]
    dsimp only
    refine Tr.bind (Tr.load (o:=gA es' fe sl) (.head _) ?_)
    by_cases hs:((gA es' fe sl).slots.getD 3 none).isSome=true
    · rw [if_pos hs]
      exact Tr.pure (hq _ ⟨es',fe,sl,sl,L',rfl,rfl,FrSame.refl h⟩)
    · rw [if_neg hs,lC hp]
      refine Tr.bind (Tr.pure (Tr.bind (vp hp fun v=>?_)))
      refine Tr.bind (Tr.update (a:=f) (o:=gA es' fe sl) (F:=L'++X) rfl ?_)
      generalize hsl:(#[some e.code,some (.ref e.globals),(gA es' fe sl).slots.getD 2 none,some v,(gA es' fe sl).slots.getD 4 none,e.func.map Value.ref,some (.ref e.builtins)]++(e.cells.map fun c=>some (.ref c.2)).toArray)=sl'
      refine Tr.lax (Tr.perm (ih L' ((f,gA es' fe sl')::X) (yC Q) h fun L2 h2=>bK A2 (hq ((f,gA es' fe sl')::L2) ⟨es',fe,sl,sl',L2,rfl,rfl,h2⟩)) ?_)
      subst hsl
      exact A2
theorem FrLed.mem {e:Env} {f:Nat} {es:List Env} {L:af} (h:FrLed (e::es) L):∃f,e.frame=some f:=by
  obtain ⟨f,_,_,_,_,hp,_⟩:=h
  exact ⟨f,hp.fr⟩
theorem nm {env:Env} {es:List Env} {f:Nat} {L X:af} {Q:Value→af→Prop} (hf:env.frame=some f) (hs:cX ((Γ.code,default)::Γ.below)=env::es) (h:FrLed (env::es) L) (hq:∀L',FrSame L L'→Q (.ref f) (L'++X)):Tr w b1 b2 b3 Γ (frameOf env) (L++X) Q:=by
  unfold frameOf
  refine Tr.bind (Tr.frameEnvs ?_)
  rw [hs]
  have e1:(env::es).dropWhile (fun x=>x.frame !=env.frame)=env::es:=by rw [List.dropWhile_cons_of_neg (by simp)]
  rw [e1]
  unfold frameObject
  refine Tr.bind (Tr.bind (ql (env::es) L X _ h fun L' h'=>?_))
  refine Tr.pure ?_
  rw [hf]
  exact Tr.pure (hq L' h')
theorem qp {f:Nat} {n:Bool} {Q:List Value→af→Prop} (h:∀l:List Value,l.length≤6→Q l L):Tr w b1 b2 b3 Γ (entryPlaceOf f n) L Q:=by
  unfold entryPlaceOf
  refine Tr.bind (Tr.stack fun p=>?_)
  dsimp only
  split
  · refine Tr.pure (h _ ?_)
    split
    · exact Y3 _
    · rw [N0]
      have:(EntryCells.cells f n ((Γ.code,p)::Γ.below)).length≤2:=by
        unfold EntryCells.cells
        split<;>simp
      simp only [J0,Z3]
      lia
  · exact Tr.pure (h _ (Y3 _))
theorem lj {ty:String} {vs:List Value} {Q:Value→af→Prop} (hv:vs.length≤100) (h:∀N,Q (.ref N) ((N,⟨.type ty,none,.fields vs.toArray,#[]⟩)::L)):Tr w b1 b2 b3 Γ (newFields ty vs) L Q:=by
  unfold newFields newObj
  dsimp only
  rw [if_neg (by rw [E5];unfold sizeLine;lia)]
  unfold newObjAsIs
  refine Tr.bind (Tr.alloc rfl fun N=>?_)
  exact Tr.pure (h N)
noncomputable def jH (T:String) (args:Value) (tb:Value):Obj:=⟨.type T,none,.fields ⟨[args,tb,.none,.none,.bool false,.none]⟩,#[]⟩
theorem ue {env:Env} {es:List Env} {f e:Nat} {T:String} {args:Value} {L X:af} {Q:Unit→af→Prop} (hf:env.frame=some f) (hs:cX ((Γ.code,default)::Γ.below)=env::es) (h:FrLed (env::es) L)
    (hq:∀(L':af) (tb:Nat) (vs:List Value),FrSame L L'→5≤vs.length→vs.length≤20→Q () ((e,jH T args (.ref tb))::((tb,⟨.type "traceback",none,.fields vs.toArray,#[]⟩)::(L'++X)))):Tr w b1 b2 b3 Γ (noteFrame (.ref e) env) ((e,jH T args .none)::(L++X)) Q:=by
  unfold noteFrame
  rw [hf]
  dsimp only
  refine Tr.bind (Tr.field (o:=jH T args .none) (.head _) rfl (x:=.none) rfl ?_)
  refine Tr.lax ?_
  refine Tr.bind (Tr.perm (nm (X:=(e,jH T args .none)::X) hf hs h fun L' h'=>?_) A2)
  refine Tr.bind (qp fun l hl=>?_)
  unfold EntryCells.newEntry
  have hlen:([Value.none,.ref f,.none,rawInt f,.none]++(if l.isEmpty=true then L7 6 Value.none else l)).length≤11∧5≤([Value.none,.ref f,.none,rawInt f,.none]++(if l.isEmpty=true then L7 6 Value.none else l)).length:=by
    rw [N0]
    split
    · simp
    · simp only [J0,Z3];lia
  generalize hvs:([Value.none,.ref f,.none,rawInt f,.none]++(if l.isEmpty=true then L7 6 Value.none else l))=vs0 at hlen
  refine Tr.bind (lj (by exact lk hlen.1 rfl) fun N=>?_)
  refine Tr.perm (L:=(e,jH T args .none)::((N,⟨.type "traceback",none,.fields vs0.toArray,#[]⟩)::(L'++X))) (Tr.setField (vs:=⟨[args,.none,.none,.none,.bool false,.none]⟩) rfl (by simp) rfl ?_) ?_
  · exact bK (E0 _) (hq L' N vs0 h' hlen.2 (by exact lk hlen.1 rfl))
  · exact aO [_,_] [_,_] (.l [0,1] (.a (.v 0) (.v 1))) (.l [1] (.a (.v 0) (.l [0] (.v 1)))) rfl
theorem Tr.asApp {tgt:Expr} {env:Env} {v:Value} {a b:List Stmt} {Q:Flow→af→Prop} (h:Tr w b1 b2 b3 Γ (assign tgt env v>>=fun _=>execs a env) L (rT w b1 b2 b3 Γ b env Q)):Tr w b1 b2 b3 Γ (assign tgt env v>>=fun _=>execs (a++b) env) L Q:=by
  have e1:(assign tgt env v>>=fun _=>execs (a++b) env)=((assign tgt env v>>=fun _=>execs a env)>>=fun f=>match f with | .next=>execs b env | f=>.pure f):=by
    show (assign _ _ _).bind _=((assign _ _ _).bind _).bind _
    rw [bS]
    congr 1
    funext _
    exact dT _ b a
  rw [e1]
  refine Tr.bind (h.mono ?_)
  rintro f L' (⟨rfl,h⟩ | ⟨hf,h⟩)
  · exact h
  · cases f
    · exact absurd rfl hf
    all_goals exact Tr.pure h
noncomputable def zF (o:Obj):Prop:=∃v0 v1 v2 v3 vs,o=⟨.type "traceback",none,.fields ⟨v0::v1::v2::v3::vs⟩,#[]⟩
theorem uq {vs:List Value} (h:5≤vs.length):zF (Obj.mapFields (fun x=>x.setIfInBounds 3 ((none:Option Addr).elim .none fun f=>rawInt f)) ⟨.type "traceback",none,.fields vs.toArray,#[]⟩):=by
  rcases vs with _ | ⟨a0,_ | ⟨a1,_ | ⟨a2,_ | ⟨a3,vs⟩⟩⟩⟩
  · simp at h
  · simp at h
  · simp at h
  · simp at h
  · refine ⟨a0,a1,a2,.none,vs,?_⟩
    show (⟨_,_,.fields ((a0::a1::a2::a3::vs).toArray.setIfInBounds 3 .none),_⟩:Obj)=_
    have:(a0::a1::a2::a3::vs).toArray.setIfInBounds 3 Value.none=⟨a0::a1::a2::.none::vs⟩:=by
      apply Z5
      simp
    rw [this]
theorem TrX.of_tr {m:Sem α} {Q:α→af→Prop} {E:Value→af→Prop} (h:Tr w b1 b2 b3 Γ m L Q):TrX w b1 b2 b3 Γ m L Q E:=fun s hs p=>
  W2 _ _ _ (fun _ _ _ x=>x) (fun _ _ _ x=>x.elim) p s (h s hs p)
theorem Tr.single {s:Stmt} {env:Env} {Q:Flow→af→Prop} (h:Tr w b1 b2 b3 Γ (exec s env) L Q):Tr w b1 b2 b3 Γ (execs [s] env) L Q:=by
  refine Tr.seq (h.mono ?_)
  intro f L' q
  cases f
  · exact Tr.nil q
  all_goals exact q
theorem FrO.same {P:Params} {l:List (PySem.Str × Value)} {es:List DictEntry} {fe:Nat} {sl sl':Array (Option Value)} (h:FrO P l [] (gA es fe sl)):FrO P l [] (gA es fe sl'):=by
  obtain ⟨es2,fe2,sl2,e,h⟩:=h
  refine lm e fun e1 e2=>?_
  subst e1 e2
  exact ⟨es,fe,sl',rfl,h⟩
theorem FrO.shape {P:Params} {l:List (PySem.Str × Value)} {F:Obj} (h:FrO P l [] F):∃es fe sl,F=gA es fe sl:=by
  obtain ⟨es,fe,sl,e,_⟩:=h
  exact ⟨es,fe,sl,e⟩
theorem jk {c0:Code} {below:ag} {test:Expr} {body orelse:List Stmt} {pos:Pos} {env:Env} {Q:Flow→af→Prop} (h:Con w b1 b2 b3 bel (.whileLoop test body orelse env) L (OkF Q)) (hb:∀p,bel ((c0,p)::below)):Tr w b1 b2 b3 (cx c0 below) (exec (.While test body orelse pos) env) L Q:=by
  rw [PySem.exec_While]
  exact Tr.bind (Tr.standAt (Tr.onRaise (Tr.run h hb)))
theorem xA {c0:Code} {below:ag} {x n:PySem.Str} {px pn pos:Pos} {body orelse:List Stmt} {env:Env} {Q:Flow→af→Prop} (h:Tr w b1 b2 b3 (cx c0 below) (eval (.Name n pn) env) L fun v L1=>Tr w b1 b2 b3 (cx c0 below) (pyIter v) L1 fun it L2=>Con w b1 b2 b3 bel (.forLoop (.Name x px) it body orelse env) L2 (OkF Q)) (hb:∀p,bel ((c0,p)::below)):Tr w b1 b2 b3 (cx c0 below) (exec (.For (.Name x px) (.Name n pn) body orelse pos) env) L Q:=by
  show Tr w b1 b2 b3 _ ((standAt pos).bind _) L Q
  refine Tr.bind (Tr.standAt (Tr.bind (h.mono ?_)))
  intro v L1 hv
  exact Tr.bind (m:=foldedSetIterable (.Name n pn) env v) (Tr.pure (a:=v) (Tr.bind (Tr.standAt (Tr.bind (Tr.holding (hv.mono fun it L2 hc=>Tr.onRaise (Tr.run hc hb)))))))
theorem wl {body orelse:List Stmt} {hd:List ExceptHandler} {pos:Pos} {env:Env} {es:List Env} {f:Nat} {T:String} {L:af} {Q:Flow→af→Prop} (hh:hd.isEmpty=false) (hf:env.frame=some f) (hs:cX ((Γ.code,default)::Γ.below)=env::es)
    (h:TrX w b1 b2 b3 Γ (execs body env) L (fun f L'=>f≠.next∧Q f L') fun e L'=>∃(a:Nat) (args:Value) (FL X:af),e= .ref a∧FrLed (env::es) FL∧L'.Perm ((a,jH T args .none)::(FL++X))∧
      ∀(FL':af) (tb:Nat) (o:Obj),FrSame FL FL'→zF o→Tr w b1 b2 b3 Γ (handleBy (.ref a) env hd) ((a,jH T args (.ref tb))::((tb,o)::(FL'++X))) Q):Tr w b1 b2 b3 Γ (exec (.Try body hd orelse [] pos) env) L Q:=by
  show Tr w b1 b2 b3 _ ((standAt pos).bind fun _=>tryStmt false (execs body env) hd (execs orelse env) [] env) L Q
  refine Tr.bind (Tr.standAt ?_)
  show Tr w b1 b2 b3 Γ ((execs body env).attempt>>=_) L Q
  refine Tr.bind (Tr.attempt ?_)
  intro s hst p
  refine W2 _ _ _ ?_ ?_ p s (h s hst p)
  · rintro f p' s' ⟨L',t,hne,q⟩
    refine ⟨L',t,?_⟩
    cases f
    · exact absurd rfl hne
    all_goals exact Tr.pure q
  · rintro e p' s' ⟨L',t,a,args,FL,X,rfl,hFL,hp,hH⟩
    refine ⟨L',t,?_⟩
    refine Tr.perm (Tr.bind (ue (T:=T) (args:=args) (X:=X) hf hs hFL fun FL' tb vs hsm h1 h2=>?_)) hp.symm
    rw [hh,if_neg R1]
    refine Tr.bind ?_
    unfold setFlight
    refine Tr.bind (Tr.field (o:=jH T args (.ref tb)) (.head _) rfl (x:=.ref tb) rfl ?_)
    show Tr w b1 b2 b3 Γ (if (Value.ref tb !=Value.none)=true then _ else _) _ _
    rw [if_pos (show (Value.ref tb !=Value.none)=true from rfl)]
    refine Tr.perm (L:=(tb,⟨.type "traceback",none,.fields vs.toArray,#[]⟩)::((a,jH T args (.ref tb))::(FL'++X))) (Tr.setField (vs:=vs.toArray) rfl (by rw [E5];exact B4 h1) rfl ?_) (List.Perm.swap _ _ _)
    exact Tr.perm (hH FL' tb _ hsm (uq h1)) (List.Perm.swap _ _ _)
end
section
variable {w:World} {b1 b2 b3:Bool} {bel bel':ag→Prop} {c:Code} {below:ag} {F M:af}
noncomputable abbrev dg:Expr:=dI (dh 1)
noncomputable abbrev gX (fr lc:Nat):Env:={scope:=bD dg,locals:=lc,globals:=3,cells:= [],qual:=m4++".<locals>.",func:=none,code:=.ref mP,frame:=some fr,builtins:=0}
noncomputable abbrev un:Expr:=.ListComp (dj dg) [⟨.Name sy (dm (aL dg) 0),pD (aL dg) 0,[jF (aL dg) 0],0⟩] (bD dg) (j3 dg)
noncomputable abbrev uW (it acc fr lc:Nat):Code:=.compStart un 0 (.ref it) (.ref acc) (gX fr lc)
theorem tZ (s:Nat) {Q:Result→af→Prop} (hb:∀l,bel l→l.length≤96) (hp:([]++F).Perm M) (H:∀(N tk:Nat) (aq:Obj),aJ≤N→FrO w.2 [(s5,.ref s)] [] aq→Con w b1 b2 b3 bel (.func [dh 0,dh 1,dh 2,dh 3] (cH (N+0))) ([(N+0,aq)]++F) Q):Con w b1 b2 b3 bel (.call (.ref i5) ⟨[.ref s],[]⟩) M Q:=
  Con.of fun below p ao=>aK fun N tk hN=>Stp.loop [1,0,1,1,0] [0] [] _ 1 1 _ hp (hb _ ao) (fun hap=>a8) rfl (by rfl) ao (H N tk _ hN (fO (bL id 0 [tk+0]) 1 (#[]))) (rl (by kernel_rfl!))
theorem wU (fr:Nat) (s d n2i t1 t2 t3 t4 ep:Nat) (pa fi:Value) {al:Obj} (ai:FrO w.2 [(s5,.ref s)] [] al) {Q:Flow→af→Prop} (hb:below.length≤96) (hp:([(fr,al),(s,aP bM d),(d,aB w.2 t1 t2 t3 t4 n2i .none pa fi ep)]++F).Perm M) (H:∀(N tk:Nat) (aq:Obj),FrO w.2 [(s5,.ref s)] [] aq→Q (.next) ([(fr,aq),(s,aP bM d),(d,aB w.2 t1 t2 t3 t4 n2i .none pa fi ep)]++F)):Tr w b1 b2 b3 (cx c below) (execs [dh 0] (cH fr)) M Q:=
  Tr.st fun p=>aZ ai hp fun aw ah aj av=>aK fun N tk hN=>Stp.fin [1,2,0,0,0,0,2,0,0,0,2,2,0,3] [0,1,2] [] _ 0 1 _ av aa hb (fun hap=>a8) rfl ⟨_,rfl,(H N tk _ (fO aw ah aj))⟩ (rf (by kernel_rfl!))
theorem wT (fr:Nat) (s d n2i t1 t2 t3 t4 ep:Nat) (pa fi:Value) (l:List (Int × Nat × Value)) (ep':Nat) {al:Obj} (ai:FrO w.2 [(s5,.ref s)] [] al) {Q:Flow→af→Prop} (hb:below.length≤96) (au:∀l:ag,l.length≤below.length+9→bel' l) (hp:([(fr,al),(s,aP bM d),(d,aB w.2 t1 t2 t3 t4 n2i .none pa fi ep),(n2i,ak l ep')]++F).Perm M) (H:∀(N tk:Nat) (aq:Obj) (G07:Obj),aJ≤N→FrO w.2 [(s5,.ref s)] [] aq→bx w.2 [] [[sy]] G07→Con w b1 b2 b3 bel' (uW (N+1) (N+2) fr (N+3)) ([(fr,aq),(s,aP bM d),(d,aB w.2 t1 t2 t3 t4 n2i .none pa fi ep),(n2i,ak l ep'),(N+1,cW "dict_valueiterator" (.ref n2i) 0 (l.map bY).length ep'),(N+2,lst [] 0),(N+3,G07)]++F) fun r L₂=>∃(cb:Obj) (fT:Obj) (X1:af),r= .ok .next∧bx w.2 [] [[sy]] cb∧FrO w.2 [(s5,.ref s)] [] fT∧([((N+3),cb),(fr,fT),(s,aP bM d),(d,aB w.2 t1 t2 t3 t4 n2i .none pa fi ep)]++X1).Perm L₂∧(∀(N1 tk1:Nat) (k9:Obj),FrO w.2 [(s5,.ref s)] [] k9→Q (.next) ([(fr,k9),(s,aP bM d),(d,aB w.2 t1 t2 t3 t4 n2i (.ref (N+2)) pa fi ep)]++X1))):Tr w b1 b2 b3 (cx c below) (execs [dh 1] (cH fr)) M Q:=
  Tr.st fun p=>aZ ai hp fun aw ah aj av=>aK fun N tk hN=>Stp.at [1,2,0,0,0,0,2,0,0,0,2,2,0,3,4,4,4,4,1,5,5,0,5,5,4,4,6] [0,1,2,3,5,6,7] [vE 3 n2i l ep' N] _ 4 1 _ av aa hb (fun hap=>a9 (j1 (yA (hap n2i (by simp)).1) _ _ _) a8) rfl au (H N tk _ _ hN (fO aw ah aj) (dO (bL id 0 []) 0)) (fun r L₂ hq=>pE hq fun cb fT X1 hh1=>du hh1.2.1 (fun h10=>cR h10 hh1.2.2.2.1 fun eP bZ bO=>jG hh1.2.2.1 bO fun jQ d8 d7 bO=>c9 hh1.1 fun aQ N1 tk1 hN=>Stp.fin [1,2,3,0,0,0,0,3,0,3,0,3,0,0,0,3,0,4,4,4] [1,2,3] [] _ 0 2 _ bO aQ hb (fun hap=>a8) rfl ⟨_,rfl,(hh1.2.2.2.2 N1 tk1 _ (fO jQ d8 d7))⟩ (rf (by kernel_rfl!))) (fun o10_0 h10=>cR h10 hh1.2.2.2.1 fun eP bZ bO=>jG hh1.2.2.1 bO fun jQ d8 d7 bO=>c9 hh1.1 fun aQ N1 tk1 hN=>Stp.fin [1,1,1,2,3,0,0,0,0,3,0,3,0,3,0,0,0,3,0,4,4,4] [1,2,3] [] _ 0 2 _ bO aQ hb (fun hap=>a8) rfl ⟨_,rfl,(hh1.2.2.2.2 N1 tk1 _ (fO jQ d8 d7))⟩ (rf (by kernel_rfl!)))) (ra (by kernel_rfl!))
theorem wP (fr lc x xd:Nat) (kx:Int) (tx:Nat) (np:Int) (u sl:Nat) (β:Bool) (h0:(np==0)=β) {al:Obj} (ai:bx w.2 [] [[sy]] al) {Q:Bool→af→Prop} (hb:below.length≤96) (hp:([(lc,al),(x,bg xd kx tx (.int np u) sl)]++F).Perm M) (H:∀(N tk:Nat) (aq:Obj),bx w.2 [(sy,.ref x)] [] aq→Q (β) ([(lc,aq),(x,bg xd kx tx (.int np u) sl)]++F)):Tr w b1 b2 b3 (cx c below) (assign (.Name sy (dm (aL dg) 0)) (gX fr lc) (.ref x)>>=fun _=>isTrue (jF (aL dg) 0) (gX fr lc) (eval (jF (aL dg) 0) (gX fr lc))) M Q:=
  Tr.asIt fun p=>du ai (fun h00=>cR h00 hp fun aw ah av=>aK fun N tk hN=>Stp.fin [1,1,1,2,0,0,0,0,2,0,0,0,0,0,0,0,0,0,0,0,0,2,0,0,0,0,0,2,0,2,1] [0,1] [kc np 0 u (tk+2) β] _ 0 3 _ av aa hb (fun hap=>a9 (aN _ _ _ _ _ h0) a8) rfl ⟨_,rfl,(H N tk _ (dO (bL id 0 [tk+0]) (ah+1)))⟩ (rf (by kernel_rfl!))) (fun o00_0 h00=>cR h00 hp fun aw ah av=>aK fun N tk hN=>Stp.fin [1,1,1,2,0,0,0,0,2,0,0,0,0,0,0,0,0,0,0,0,0,2,0,0,0,0,0,2,0,2,1] [0,1] [kc np 0 u (tk+2) β] _ 0 3 _ av aa hb (fun hap=>a9 (aN _ _ _ _ _ h0) a8) rfl ⟨_,rfl,(H N tk _ (dO aw ah))⟩ (rf (by kernel_rfl!)))
theorem wQ (fr lc x xd:Nat) (kx:Int) (tx:Nat) (np:Int) (u sl:Nat) {al:Obj} (ai:bx w.2 [(sy,.ref x)] [] al) {Q:Value→af→Prop} (hb:below.length≤96) (hp:([(lc,al),(x,bg xd kx tx (.int np u) sl)]++F).Perm M) (H:∀(N tk:Nat) (aq:Obj),bx w.2 [] [[sy]] aq→Q (.int kx tx) ([(lc,aq),(x,bg xd kx tx (.int np u) sl)]++F)):Tr w b1 b2 b3 (cx c below) (eval (dj dg) (gX fr lc)) M Q:=
  Tr.ev fun p=>cR ai hp fun aw ah av=>aK fun N tk hN=>Stp.fin [1,2,0,0,0,0,2,0,0,0,0,0,0,0,0,0,0,0,0,2,0,0,0,0,0,2,0,2] [0,1] [] _ 0 1 _ av aa hb (fun hap=>a8) rfl ⟨_,rfl,(H N tk _ (dR (.ref x) (dO aw ah)))⟩ (rf (by kernel_rfl!))
theorem wS (fr r:Nat) (s d n2i t1 t2 t3 t4 ep:Nat) (pa fi:Value) {al:Obj} (ai:FrO w.2 [(s5,.ref s)] [] al) {Q:Flow→af→Prop} (hb:below.length≤96) (au:∀q,bel' ((c,q)::below)) (hp:([(fr,al),(s,aP bM d),(d,aB w.2 t1 t2 t3 t4 n2i (.ref r) pa fi ep)]++F).Perm M) (H:∀(N tk:Nat) (aq:Obj),aJ≤N→FrO w.2 [(s5,.ref s)] [] aq→Con w b1 b2 b3 bel' (.call (.ref jd) ⟨[.ref s],[]⟩) ([(fr,aq),(s,aP bM d),(d,aB w.2 t1 t2 t3 t4 n2i (.ref r) pa fi ep)]++F) fun r L₂=>∃(cb:Obj) (X1:af),r= .ok (.ret .none)∧FrO w.2 [(s5,.ref s)] [] cb∧([(fr,cb)]++X1).Perm L₂∧(∀(N1 tk1:Nat) (iX:Obj),FrO w.2 [(s5,.ref s),((S [99,121,99,108,101]),.none)] [] iX→Q (.next) ([(fr,iX)]++X1))):Tr w b1 b2 b3 (cx c below) (execs [dh 2] (cH fr)) M Q:=
  Tr.st fun p=>aZ ai hp fun aw ah aj av=>aK fun N tk hN=>Stp.atx [1,2,0,0,0,2,0,0,0,2,0,0,0,0,2,3,0] [0,1,2] [] _ 0 0 _ av aa hb (fun hap=>a8) rfl au (H N tk _ hN (fO aw ah aj)) (fun r L₂ hq=>oU hq fun cb X1 hh1=>aZ hh1.2.1 hh1.2.2.1 fun eP bZ ea bO=>c9 hh1.1 fun aQ N1 tk1 hN=>Stp.fin [1,1] [0] [] _ 0 1 _ bO aQ hb (fun hap=>a8) rfl ⟨_,rfl,(hh1.2.2.2 N1 tk1 _ (fO (bL eP 1 [tk1+0]) (bZ+1) ea))⟩ (rf (by kernel_rfl!))) (rb (by kernel_rfl!))
theorem wR (fr s:Nat) {al:Obj} (ai:FrO w.2 [(s5,.ref s),((S [99,121,99,108,101]),.none)] [] al) {Q:Flow→af→Prop} (hb:below.length≤96) (hp:([(fr,al)]++F).Perm M) (H:∀(N tk:Nat) (aq:Obj),FrO w.2 [(s5,.ref s),((S [99,121,99,108,101]),.none)] [] aq→Q (.next) ([(fr,aq)]++F)):Tr w b1 b2 b3 (cx c below) (execs [dh 3] (cH fr)) M Q:=
  Tr.st fun p=>aZ ai hp fun aw ah aj av=>aK fun N tk hN=>Stp.fin [1] [0] [] _ 0 0 _ av aa hb (fun hap=>a8) rfl ⟨_,rfl,(H N tk _ (fO aw ah aj))⟩ (rf (by kernel_rfl!))
end
noncomputable def mZ (it:Nat):Obj:=⟨.type "method-wrapper",none,.fields ⟨[.builtin "list_iterator.__next__",.ref it]⟩,#[]⟩
noncomputable def j4 (es:Array (Int × Value)) (ep:Nat) (t:SetTable):Obj:=⟨.type "set",none,.set es ep t,#[]⟩
theorem SetI.shape {b1 b2 b3:Bool} {w:World} {o:Obj} {S:List Int} {n:Nat} (H:SetI b1 b2 b3 w o S n):∃es ep t,o=j4 es ep t:=by
  obtain ⟨es,ep,t,h1,h2,_⟩:=H
  refine ⟨es,ep,t,?_⟩
  obtain ⟨c,d,dt,sl⟩:=o
  obtain ⟨e1,e2,e3⟩:=h1
  dsimp only at e1 e2 e3 h2
  subst e1 e2 e3 h2
  rfl
theorem SetI.fresh (b1 b2 b3:Bool) (w:World) (led:Bool):SetI b1 b2 b3 w (j4 #[] 0 (SetTable.fresh 0 0 led)) [] 0:=
  ⟨#[],0,SetTable.fresh 0 0 led,⟨rfl,rfl,rfl⟩,rfl,fun e he=>(nomatch he),fun k=>⟨fun h=>(nomatch h),fun ⟨e,he,_⟩=>(nomatch he)⟩,by unfold scanBound;decide,by cases led<;>rfl,rfl⟩
theorem ny (it:Nat):checkBoundCall "list_iterator.__next__" ⟨[.ref it],[]⟩=pure ():=by first | kernel_rfl | rfl
noncomputable abbrev pT (m j l mw it a:Nat) (vs:List Value) (ep i:Nat) (x:Value):bX:={code:=.call (.ref mw) ⟨[],[]⟩,need:= [(m,mZ it),(j,b8 "list_iterator" (.ref a) i),(l,lst vs ep)],upd:= [(j,b8 "list_iterator" (.ref a) (i+1))],res:=.ok (.ret x)}
noncomputable abbrev pU (m j l mw it a:Nat) (vs:List Value) (ep i z:Nat):bX:={code:=.call (.ref mw) ⟨[],[]⟩,need:= [(m,mZ it),(j,b8 "list_iterator" (.ref a) i),(l,lst vs ep)],upd:= [(j,b8 "list_iterator" .none i)],news:= [aS [],dy z],res:=.error (.ref (z+1)),sz:=some z}
theorem jZ {prog:Program} {w:World} {A:Around} {s:Shared} {R:Result→Shared→Prop} {mw it:Nat} (ho:s.heap.get? mw=some (mZ it)) (h:codeAny (model prog w) A (.builtin "list_iterator.__next__" ⟨[.ref it],[]⟩) R s):codeAny (model prog w) A (.call (.ref mw) ⟨[],[]⟩) R s:=by
  refine codeAny_of_tree ?_
  show wpAny _ A.in1 (callAny (.ref mw) ⟨[],[]⟩) _ _ s
  unfold callAny
  refine C0 (wpAny_load ho ?_)
  simp only [mZ,show (Value.type "method-wrapper"==Value.type "method")=false by decide,show (Value.type "method-wrapper"==Value.type "builtin_function_or_method")=false by decide,show (Value.type "method-wrapper"==Value.type "method-wrapper")=true by decide,Bool.false_or,Bool.or_true,if_true]
  show wpAny _ _ (if (Value.type "method-wrapper" !=Value.type "method")=true then _ else _) _ _ s
  rw [if_pos (by decide)]
  refine C0 (m:=checkBoundCall "list_iterator.__next__" ⟨[.ref it],[]⟩) ?_
  rw [ny]
  exact I0 (I0 ⟨plainId_quiet slot_listiter_next.plain _,h⟩)
theorem kr {P:Pm} {m j l mw it a:Nat} (vs:List Value) (ep i:Nat) {x:Value} (hx:vs[i]?=some x) (hm:P.adr m=mw:=by rfl) (hj:P.adr j=it:=by rfl) (hl:P.adr l=a:=by rfl):aC P (pT m j l mw it a vs ep i x):=by
  refine az fun A s _ _ hn _ _ _=>?_
  have hw:s.heap.get? mw=some (mZ it):=by have:=hn _ (.head _);rw [hm] at this;exact this
  have ho:s.heap.get? it=some (b8 "list_iterator" (.ref a) i):=by have:=hn _ (.tail _ (.head _));rw [hj] at this;exact this
  have hol:s.heap.get? a=some (lst vs ep):=by have:=hn _ (.tail _ (.tail _ (.head _)));rw [hl] at this;exact this
  refine jZ hw (codeAny_builtin entry_listiter_next ?_)
  rw [Around.under_plainId slot_listiter_next.plain _]
  show wpAny _ _ (PySem.field (.ref it) 0>>=_) _ _ s
  refine C0 (wpAny_field ho rfl (x:=.ref a) rfl ?_)
  show wpAny _ _ (if (Value.ref a==Value.none)=true then _ else _) _ _ s
  rw [if_neg (show ¬((Value.ref a==Value.none)=true) from R1)]
  show wpAny _ _ (PySem.field (.ref it) 1>>=_) _ _ s
  refine C0 (wpAny_field ho rfl (x:=.int i 0) rfl ?_)
  show wpAny _ _ (seqItems? (.ref a)>>=_) _ _ s
  refine C0 (wpAny_seqItems hol rfl ?_)
  have hx':(⟨vs⟩:Array Value)[i]?=some x:=by rw [←hx];simp
  simp only [W0,hx']
  refine C0 (wpAny_setField ho rfl (by simp) (I0 ⟨rfl,_,rfl,bH hj rfl rfl ho ?_ rfl⟩))
  rfl
theorem ly {P:Pm} {m j l mw it a:Nat} (vs:List Value) (ep i z:Nat) (hx:vs.length≤i) (hm:P.adr m=mw:=by rfl) (hj:P.adr j=it:=by rfl) (hl:P.adr l=a:=by rfl):aC P (pU m j l mw it a vs ep i z):=by
  refine az fun A s hh _ hn _ hz _=>?_
  have hw:s.heap.get? mw=some (mZ it):=by have:=hn _ (.head _);rw [hm] at this;exact this
  have ho:s.heap.get? it=some (b8 "list_iterator" (.ref a) i):=by have:=hn _ (.tail _ (.head _));rw [hj] at this;exact this
  have hol:s.heap.get? a=some (lst vs ep):=by have:=hn _ (.tail _ (.tail _ (.head _)));rw [hl] at this;exact this
  have hz:=hz z rfl
  refine jZ hw (codeAny_builtin entry_listiter_next ?_)
  rw [Around.under_plainId slot_listiter_next.plain _]
  show wpAny _ _ (PySem.field (.ref it) 0>>=_) _ _ s
  refine C0 (wpAny_field ho rfl (x:=.ref a) rfl ?_)
  show wpAny _ _ (if (Value.ref a==Value.none)=true then _ else _) _ _ s
  rw [if_neg (show ¬((Value.ref a==Value.none)=true) from R1)]
  show wpAny _ _ (PySem.field (.ref it) 1>>=_) _ _ s
  refine C0 (wpAny_field ho rfl (x:=.int i 0) rfl ?_)
  show wpAny _ _ (seqItems? (.ref a)>>=_) _ _ s
  refine C0 (wpAny_seqItems hol rfl ?_)
  have hx':(⟨vs⟩:Array Value)[i]?=none:=by
    rw [E4];exact hx
  simp only [W0,hx']
  refine C0 (wpAny_rule (C0 (wpAny_setField ho rfl (by simp) ?_)))
  exact c4 hh (by rw [E2];exact hz) ⟨rfl,_,rfl,dc hj rfl rfl ho rfl rfl rfl rfl⟩
noncomputable abbrev pJ (h:Value) (j l:Nat) (vs:List Value) (ep:Nat) (x:Value):bX:={code:=.call (.builtin "list.pop") ⟨[.ref l],[]⟩,hd:=some h,need:= [(j,lst (vs++ [x]) ep)],upd:= [(j,lst vs (ep+1))],res:=.ok (.ret x)}
noncomputable abbrev vI (h:Value) (j d:Nat) (l:List (Int × Nat × Value)) (ep:Nat) (k:Int) (t u:Nat) (v:Value):bX:={code:=.call (.builtin "dict.__delitem__") ⟨[.ref d,.int k u],[]⟩,hd:=some h,need:= [(j,ak (l++ [(k,t,v)]) ep)],upd:= [(j,ak l (ep+1))],res:=.ok (.ret .none),toks:=1}
theorem mC {P:Pm} (h:Value) {j l:Nat} (vs:List Value) (ep:Nat) (x:Value) (hl:vs.length≤1000) (hj:P.adr j=l:=by rfl):aC P (pJ h j l vs ep x):=uK vs ep x hl hj (some h)
theorem r9 {P:Pm} (h:Value) {j d:Nat} (l:List (Int × Nat × Value)) (ep:Nat) (k:Int) (t u:Nat) (v:Value) (hv:bC l k=none) (hl:l.length≤1000) (hj:P.adr j=d:=by rfl):aC P (vI h j d l ep k t u v):=lx l ep k t u v hv hl hj (some h)
section
variable {w:World} {b1 b2 b3:Bool} {bel bel':ag→Prop} {c:Code} {below:ag} {F M:af}
noncomputable abbrev eB:Stmt:=bE 5
noncomputable abbrev iz (j:Nat):Stmt:=fQ (cC eB) j
noncomputable def qf (s:Stmt):Pos:=qz s (fun _ _ _ _ p=>p) (oWh s (fun _ _ _ p=>p) (u9 s (fun _ _ _ _ p=>p) default))
noncomputable def qg (s:Stmt):List ExceptHandler:=u9 s (fun _ h _ _ _=>h) []
noncomputable def z6 (s:Expr):Pos:=wW s (fun p=>p) default
theorem Tr.hb {Γ:Ctx} {L:af} {e:Value} {env:Env} {hs:List ExceptHandler} {Q:Flow→af→Prop} (h:∀p,Gos w b1 b2 b3 [] Γ p ((handleBy e env hs).bind fun f=>.pure (.done f)) L fun r L'=>∃f,r= .ok f∧Q f L'):Tr w b1 b2 b3 Γ (handleBy e env hs) L Q:=
  Tr.of_gos (enc:=id) (fun _ _ e=>e) h
noncomputable abbrev f0:Stmt:=iz 1
noncomputable abbrev jS:Stmt:=fQ (cC f0) 0
noncomputable abbrev cY:Stmt:=fQ (cC f0) 1
noncomputable abbrev dx:Stmt:=fQ (cC cY) 0
noncomputable abbrev wm:Stmt:=.Try [fQ (cC dx) 0,fQ (cC dx) 1] (qg dx) [] [] (qf dx)
noncomputable abbrev tv:Stmt:=.While (cB cY) [wm] (qh cY) (qf cY)
noncomputable abbrev wh:Stmt:=.While (cB f0) [jS,tv] [] (qf f0)
noncomputable abbrev xB:Stmt:=.For (.Name sa (d0 eB)) (.Name sk (z6 (dI eB))) [iz 0,wh] [] (qf eB)
theorem uT (s:Nat) {Q:Result→af→Prop} (hb:∀l,bel l→l.length≤96) (hp:([]++F).Perm M) (H:∀(N tk:Nat) (aq:Obj),aJ≤N→FrO w.2 [(s5,.ref s)] [] aq→Con w b1 b2 b3 bel (.func [bE 0,bE 1,bE 2,bE 3,bE 4,xB,bE 6] (aA (N+0))) ([(N+0,aq)]++F) Q):Con w b1 b2 b3 bel (.call (.ref jd) ⟨[.ref s],[]⟩) M Q:=
  Con.of fun below p ao=>aK fun N tk hN=>Stp.loop [1,0,1,1,0] [0] [] _ 1 1 _ hp (hb _ ao) (fun hap=>a8) rfl (by rfl) ao (H N tk _ hN (fO (bL id 0 [tk+0]) 1 (#[]))) (rl (by kernel_rfl!))
theorem y1 (fr:Nat) (s d n2i t1 t2 t3 t4 ep:Nat) (pa fi rdy:Value) {al:Obj} (ai:FrO w.2 [(s5,.ref s)] [] al) {Q:Flow→af→Prop} (hb:below.length≤96) (hp:([(fr,al),(s,aP bM d),(d,aB w.2 t1 t2 t3 t4 n2i rdy pa fi ep)]++F).Perm M) (H:∀(N tk:Nat) (aq:Obj),FrO w.2 [(s5,.ref s),(sk,.ref n2i),(sm,.ref (N+0)),(sg,.ref (N+1)),(sr,.ref (N+2)),(sb,.ref (N+3))] [] aq→Q (.next) ([(fr,aq),(s,aP bM d),(d,aB w.2 t1 t2 t3 t4 n2i rdy pa fi ep),(N+0,lst [] 0),(N+1,lst [] 0),(N+2,⟨.type "set",none,.set #[] 0 (SetTable.fresh 0 0 (!b3)),#[]⟩),(N+3,ak [] 0)]++F)):Tr w b1 b2 b3 (cx c below) (execs [bE 0,bE 1,bE 2,bE 3,bE 4] (aA fr)) M Q:=
  Tr.st fun p=>aZ ai hp fun aw ah aj av=>aK fun N tk hN=>Stp.fin [1,2,0,0,0,0,2,0,0,0,2,2,0,3,1,1,1,1,1,1,0,0,0,0,6,6,0,6,6,6,6,1,1,1,1] [0,1,2,3,4,5,6] [] _ 4 6 _ av aa hb (fun hap=>a8) rfl ⟨_,rfl,(H N tk _ (fO (bL aw 1 [tk+1,tk+2,tk+3,tk+4,tk+5]) (ah+1+1+1+1+1) aj))⟩ (rf (by kernel_rfl!))
theorem xX (fr s n2i st its se ns:Nat) {al:Obj} (ai:FrO w.2 [(s5,.ref s),(sk,.ref n2i),(sm,.ref st),(sg,.ref its),(sr,.ref se),(sb,.ref ns)] [[sa]] al) {Q:Value→af→Prop} (hb:below.length≤96) (hp:([(fr,al)]++F).Perm M) (H:∀(N tk:Nat) (aq:Obj),FrO w.2 [(s5,.ref s),(sk,.ref n2i),(sm,.ref st),(sg,.ref its),(sr,.ref se),(sb,.ref ns)] [[sa]] aq→Q (.ref n2i) ([(fr,aq)]++F)):Tr w b1 b2 b3 (cx c below) (eval (.Name sk (z6 (dI eB))) (aA fr)) M Q:=
  Tr.ev fun p=>li ai (fun h00=>aZ h00 hp fun aw ah aj av=>aK fun N tk hN=>Stp.fin [1] [0] [] _ 0 0 _ av aa hb (fun hap=>a8) rfl ⟨_,rfl,(H N tk _ (fO aw ah aj))⟩ (rf (by kernel_rfl!))) (fun o00_0 h00=>aZ h00 hp fun aw ah aj av=>aK fun N tk hN=>Stp.fin [1] [0] [] _ 0 0 _ av aa hb (fun hap=>a8) rfl ⟨_,rfl,(H N tk _ (fR o00_0 (fO aw ah aj)))⟩ (rf (by kernel_rfl!)))
theorem xY (n2i:Nat) (l:List (Int × Nat × Value)) (ep':Nat) {Q:Value→af→Prop} (hb:below.length≤96) (hp:([(n2i,ak l ep')]++F).Perm M) (H:∀(N tk:Nat),Q (.ref (N+0)) ([(n2i,ak l ep'),(N+0,cW "dict_keyiterator" (.ref n2i) 0 l.length ep')]++F)):Tr w b1 b2 b3 (cx c below) (pyIter (.ref n2i)) M Q:=
  Tr.pi fun p=>aK fun N tk hN=>Stp.fin [1,1,1,2] [0,1] [yH 0 n2i l ep' N] _ 1 0 _ hp aa hb (fun hap=>a9 (kq (yA (hap n2i (by simp)).1) _ _ _) a8) rfl ⟨_,rfl,(H N tk)⟩ (rf (by kernel_rfl!))
theorem uU (fr s n2i st its se ns:Nat) (k:Int) (t:Nat) (sae:Array (Int × Value)) (sep:Nat) (ts:SetTable) (Sx:List Int) (n:Nat) (hS:SetI b1 b2 b3 w (j4 sae sep ts) Sx n) (hk:decide (k∈Sx)=true) {al:Obj} (ai:FrO w.2 [(s5,.ref s),(sk,.ref n2i),(sm,.ref st),(sg,.ref its),(sr,.ref se),(sb,.ref ns)] [[sa]] al) {Q:Flow→af→Prop} (hb:below.length≤96) (hp:([(fr,al),(se,j4 sae sep ts)]++F).Perm M) (H:∀(N tk:Nat) (aq:Obj),FrO w.2 [(s5,.ref s),(sk,.ref n2i),(sm,.ref st),(sg,.ref its),(sr,.ref se),(sb,.ref ns),(sa,.int k t)] [] aq→Q (.cont) ([(fr,aq),(se,j4 sae sep ts)]++F)):Tr w b1 b2 b3 (cx c below) (assign (.Name sa (d0 eB)) (aA fr) (.int k t)>>=fun _=>execs [iz 0] (aA fr)) M Q:=
  Tr.as fun p=>li ai (fun h00=>aZ h00 hp fun aw ah aj av=>aK fun N tk hN=>Stp.fin [1,1,1,1,2,2,1] [0,1] [n7 1 se (j4 sae sep ts) k t true] _ 0 2 _ av aa hb (fun hap=>a9 (dq hS _ _ hk) a8) rfl ⟨_,rfl,(H N tk _ (fO (bL aw 6 [tk+0]) (ah+1) aj))⟩ (rf (by kernel_rfl!))) (fun o00_0 h00=>aZ h00 hp fun aw ah aj av=>aK fun N tk hN=>Stp.fin [1,1,1,1,2,2,1] [0,1] [n7 1 se (j4 sae sep ts) k t true] _ 0 2 _ av aa hb (fun hap=>a9 (dq hS _ _ hk) a8) rfl ⟨_,rfl,(H N tk _ (fO aw ah aj))⟩ (rf (by kernel_rfl!)))
theorem uV (fr s n2i st its se ns:Nat) (k:Int) (t:Nat) (sae:Array (Int × Value)) (sep:Nat) (ts:SetTable) (Sx:List Int) (n:Nat) (hS:SetI b1 b2 b3 w (j4 sae sep ts) Sx n) (hk:decide (k∈Sx)=false) {al:Obj} (ai:FrO w.2 [(s5,.ref s),(sk,.ref n2i),(sm,.ref st),(sg,.ref its),(sr,.ref se),(sb,.ref ns)] [[sa]] al) {Q:Flow→af→Prop} (hb:below.length≤96) (hp:([(fr,al),(se,j4 sae sep ts)]++F).Perm M) (H:∀(N tk:Nat) (aq:Obj),FrO w.2 [(s5,.ref s),(sk,.ref n2i),(sm,.ref st),(sg,.ref its),(sr,.ref se),(sb,.ref ns),(sa,.int k t)] [] aq→Q (.next) ([(fr,aq),(se,j4 sae sep ts)]++F)):Tr w b1 b2 b3 (cx c below) (assign (.Name sa (d0 eB)) (aA fr) (.int k t)>>=fun _=>execs [iz 0] (aA fr)) M Q:=
  Tr.as fun p=>li ai (fun h00=>aZ h00 hp fun aw ah aj av=>aK fun N tk hN=>Stp.fin [1,1,1,1,2,2,1] [0,1] [n7 1 se (j4 sae sep ts) k t false] _ 0 2 _ av aa hb (fun hap=>a9 (dq hS _ _ hk) a8) rfl ⟨_,rfl,(H N tk _ (fO (bL aw 6 [tk+0]) (ah+1) aj))⟩ (rf (by kernel_rfl!))) (fun o00_0 h00=>aZ h00 hp fun aw ah aj av=>aK fun N tk hN=>Stp.fin [1,1,1,1,2,2,1] [0,1] [n7 1 se (j4 sae sep ts) k t false] _ 0 2 _ av aa hb (fun hap=>a9 (dq hS _ _ hk) a8) rfl ⟨_,rfl,(H N tk _ (fO aw ah aj))⟩ (rf (by kernel_rfl!)))
theorem xU (fr:Nat) {Q:Bool→af→Prop} (hb:below.length≤96) (hp:([]++F).Perm M) (H:∀(N tk:Nat),Q true ([]++F)):Tr w b1 b2 b3 (cx c below) (isTrue (cB f0) (aA fr) (eval (cB f0) (aA fr))) M Q:=
  Tr.it fun p=>aK fun N tk hN=>Stp.fin [] [] [] _ 0 0 [] hp aa hb (fun hap=>a8) rfl ⟨_,rfl,(H N tk)⟩ (rf (by kernel_rfl!))
theorem xV (fr s n2i st its se ns:Nat) (k:Int) (t:Nat) (nl:List (Int × Nat × Value)) (nep:Nat) (sae:Array (Int × Value)) (sep:Nat) (ts:SetTable) (Sx:List Int) (n:Nat) (hS:SetI b1 b2 b3 w (j4 sae sep ts) Sx n) (hk:decide (k∈Sx)=true) (hn:bC nl k=none) {al:Obj} (ai:FrO w.2 [(s5,.ref s),(sk,.ref n2i),(sm,.ref st),(sg,.ref its),(sr,.ref se),(sb,.ref ns),(sa,.int k t)] [] al) {Q:Flow→af→Prop} (hb:below.length≤96) (hp:([(fr,al),(se,j4 sae sep ts),(ns,ak nl nep)]++F).Perm M) (H:∀(N tk:Nat) (aq:Obj),FrO w.2 [(s5,.ref s),(sk,.ref n2i),(sm,.ref st),(sg,.ref its),(sr,.ref se),(sb,.ref ns),(sa,.int k t)] [] aq→Q (.next) ([(fr,aq),(se,j4 sae sep ts),(ns,ak nl nep)]++F)):Tr w b1 b2 b3 (cx c below) (execs [jS] (aA fr)) M Q:=
  Tr.st fun p=>aZ ai hp fun aw ah aj av=>aK fun N tk hN=>Stp.fin [1,1,2,2,1,1,1,3,3,2] [0,1,2] [n7 1 se (j4 sae sep ts) k t true,xInD 2 ns nl nep k t false] _ 0 2 _ av aa hb (fun hap=>a9 (dq hS _ _ hk) (a9 (hK (yA (hap ns (by simp)).1) _ _ _ _ (by rw [hn];rfl)) a8)) rfl ⟨_,rfl,(H N tk _ (fO aw ah aj))⟩ (rf (by kernel_rfl!))
theorem xW (fr s n2i st its se ns:Nat) (k:Int) (t:Nat) (sae:Array (Int × Value)) (sep:Nat) (ts:SetTable) (Sx:List Int) (n:Nat) (hS:SetI b1 b2 b3 w (j4 sae sep ts) Sx n) (hk:decide (k∈Sx)=false) {al:Obj} (ai:FrO w.2 [(s5,.ref s),(sk,.ref n2i),(sm,.ref st),(sg,.ref its),(sr,.ref se),(sb,.ref ns),(sa,.int k t)] [] al) {Q:Flow→af→Prop} (hb:below.length≤96) (au:∀l:ag,l.length≤below.length+9→bel' l) (hp:([(fr,al),(se,j4 sae sep ts)]++F).Perm M) (H:∀(N tk:Nat) (aq:Obj),aJ≤N→FrO w.2 [(s5,.ref s),(sk,.ref n2i),(sm,.ref st),(sg,.ref its),(sr,.ref se),(sb,.ref ns),(sa,.int k t)] [] aq→Con w b1 b2 b3 bel' (.call (.builtin "set.add") ⟨[.ref se,.int k t],[]⟩) ([(fr,aq),(se,j4 sae sep ts)]++F) fun r L₂=>∃(l:List (Int × Nat × Value)) (ep':Nat) (x xd:Nat) (kx:Int) (tx:Nat) (np:Value) (sl:Nat) (ss:List Value) (sse:Nat) (sv xv:List Value) (se1 se2:Nat) (nl:List (Int × Nat × Value)) (nep:Nat) (cb:Obj) (X1:af),bC l k=some (.ref x)∧bC nl k=none∧xv.length≤1000∧sv.length≤1000∧nl.length≤1000∧r= .ok (.ret .none)∧FrO w.2 [(s5,.ref s),(sk,.ref n2i),(sm,.ref st),(sg,.ref its),(sr,.ref se),(sb,.ref ns),(sa,.int k t)] [] cb∧([(fr,cb),(n2i,ak l ep'),(x,bg xd kx tx np sl),(sl,lst ss sse),(st,lst sv se1),(its,lst xv se2),(ns,ak nl nep)]++X1).Perm L₂∧(∀(N1 tk1:Nat) (iX:Obj),FrO w.2 [(s5,.ref s),(sk,.ref n2i),(sm,.ref st),(sg,.ref its),(sr,.ref se),(sb,.ref ns),(sa,.int k t)] [] iX→Q (.next) ([(fr,iX),(n2i,ak l ep'),(x,bg xd kx tx np sl),(sl,lst ss sse),(st,lst (sv++ [.int k t]) (se1+1)),(its,lst (xv++ [.ref (N1+1)]) (se2+1)),(ns,ak (nl++ [(k,t,.int (sv.length:Nat) (tk1+4))]) (nep+1)),(N1+0,b8 "list_iterator" (.ref sl) 0),(N1+1,mZ (N1+0))]++X1))):Tr w b1 b2 b3 (cx c below) (execs [jS] (aA fr)) M Q:=
  Tr.st fun p=>aZ ai hp fun aw ah aj av=>aK fun N tk hN=>Stp.at [1,1,2,2,1,1,2,2,2,2,1] [0,1] [n7 1 se (j4 sae sep ts) k t false] _ 0 1 _ av aa hb (fun hap=>a9 (dq hS _ _ hk) a8) rfl au (H N tk _ hN (fO aw ah aj)) (fun r L₂ hq=>ex8 hq fun l ep' x xd kx tx np sl hh1=>ex8 hh1 fun ss sse sv xv se1 se2 nl nep hh1=>oU hh1 fun cb X1 hh1=>have hl:=hh1.1;have hn:=hh1.2.1;have hx:=hh1.2.2.1;have hv:=hh1.2.2.2.1;have hnl:=hh1.2.2.2.2.1;aZ hh1.2.2.2.2.2.2.1 hh1.2.2.2.2.2.2.2.1 fun eP bZ ea bO=>c9 hh1.2.2.2.2.2.1 fun aQ N1 tk1 hN=>Stp.fin [1,6,6,6,6,0,0,1,1,2,2,2,1,3,0,0,0,0,3,0,0,0,0,0,0,0,0,0,0,0,0,3,0,0,0,0,0,3,0,3,0,0,4,4,0,4,8,8,0,8,8,8,8,0,8,0,2,0,0,1,3,1,1,7,7,4,1,5,5,5,5,1,5] [0,1,2,3,4,5,6,7,8] [rY 1 n2i l ep' k t (.ref x),jj 5 its xv se2 (.ref (N1+1)),iD 4 st sv se1 (tk1+3),pH 6 ns nl nep k t (.int (sv.length:Nat) (tk1+4)),jj 4 st sv se1 (.int k t)] _ 2 6 _ bO aQ hb (fun hap=>a9 (bp _ _ _ _ hl) (a9 (bz _ _ _ hx) (a9 (bR _ _ _ hv) (a9 (dF _ _ _ _ _ hn hnl) (a9 (bz _ _ _ hv) a8))))) rfl ⟨_,rfl,(hh1.2.2.2.2.2.2.2.2 N1 tk1 _ (fO eP bZ ea))⟩ (rf (by kernel_rfl!))) (ra (by kernel_rfl!))
theorem uR (fr s n2i st its se ns:Nat) (k:Int) (t:Nat) (sv:List Value) (v:Value) (e1:Nat) (hv:sv.length+1≤1000) {al:Obj} (ai:FrO w.2 [(s5,.ref s),(sk,.ref n2i),(sm,.ref st),(sg,.ref its),(sr,.ref se),(sb,.ref ns),(sa,.int k t)] [] al) {Q:Bool→af→Prop} (hb:below.length≤96) (hp:([(fr,al),(st,lst (sv++ [v]) e1)]++F).Perm M) (H:∀(N tk:Nat) (aq:Obj),FrO w.2 [(s5,.ref s),(sk,.ref n2i),(sm,.ref st),(sg,.ref its),(sr,.ref se),(sb,.ref ns),(sa,.int k t)] [] aq→Q true ([(fr,aq),(st,lst (sv++ [v]) e1)]++F)):Tr w b1 b2 b3 (cx c below) (isTrue (cB cY) (aA fr) (eval (cB cY) (aA fr))) M Q:=
  Tr.it fun p=>aZ ai hp fun aw ah aj av=>aK fun N tk hN=>Stp.fin [1,2,2,1] [0,1] [nH 1 st (sv++ [v]) e1 tk ((sv.length:Nat)+1)] _ 0 2 _ av aa hb (fun hap=>a9 (jP _ _ _ _ (by rw [N0];rfl) (by rw [N0];exact hv)) a8) rfl ⟨_,rfl,(H N tk _ (fO aw ah aj))⟩ (rf (by kernel_rfl!))
theorem uS (fr s n2i st its se ns:Nat) (k:Int) (t:Nat) (e1:Nat) {al:Obj} (ai:FrO w.2 [(s5,.ref s),(sk,.ref n2i),(sm,.ref st),(sg,.ref its),(sr,.ref se),(sb,.ref ns),(sa,.int k t)] [] al) {Q:Bool→af→Prop} (hb:below.length≤96) (hp:([(fr,al),(st,lst [] e1)]++F).Perm M) (H:∀(N tk:Nat) (aq:Obj),FrO w.2 [(s5,.ref s),(sk,.ref n2i),(sm,.ref st),(sg,.ref its),(sr,.ref se),(sb,.ref ns),(sa,.int k t)] [] aq→Q false ([(fr,aq),(st,lst [] e1)]++F)):Tr w b1 b2 b3 (cx c below) (isTrue (cB cY) (aA fr) (eval (cB cY) (aA fr))) M Q:=
  Tr.it fun p=>aZ ai hp fun aw ah aj av=>aK fun N tk hN=>Stp.fin [1,2,2,0,2,0,2,2] [0,1] [] _ 0 2 _ av aa hb (fun hap=>a8) rfl ⟨_,rfl,(H N tk _ (fO aw ah aj))⟩ (rf (by kernel_rfl!))
theorem uP (fr s n2i st its se ns:Nat) (k:Int) (t:Nat) (xv:List Value) (e2 mw it sl i:Nat) (ss:List Value) (sse:Nat) (k2:Int) (kt2:Nat) (hx:xv.length≤1000) (hn:ss[i]?=some (.int k2 kt2)) {al:Obj} (ai:FrO w.2 [(s5,.ref s),(sk,.ref n2i),(sm,.ref st),(sg,.ref its),(sr,.ref se),(sb,.ref ns),(sa,.int k t)] [] al) {Q:Flow→af→Prop} (hb:below.length≤96) (hp:([(fr,al),(its,lst (xv++ [.ref mw]) e2),(mw,mZ it),(it,b8 "list_iterator" (.ref sl) i),(sl,lst ss sse)]++F).Perm M) (H:∀(N tk:Nat) (aq:Obj),FrO w.2 [(s5,.ref s),(sk,.ref n2i),(sm,.ref st),(sg,.ref its),(sr,.ref se),(sb,.ref ns),(sa,.int k2 kt2)] [] aq→Q (.brk) ([(fr,aq),(its,lst (xv++ [.ref mw]) e2),(mw,mZ it),(it,b8 "list_iterator" (.ref sl) (i+1)),(sl,lst ss sse)]++F)):Tr w b1 b2 b3 (cx c below) (execs [fQ (cC dx) 0,fQ (cC dx) 1] (aA fr)) M Q:=
  Tr.st fun p=>aZ ai hp fun aw ah aj av=>aK fun N tk hN=>Stp.fin [1,0,2,2,2,1,3,2,1,1] [0,1,2,3,4] [bG 1 its (xv++ [.ref mw]) e2 (-1) (tk+1) (.ref mw),pT 2 3 4 mw it sl ss sse i (.int k2 kt2)] _ 0 3 _ av aa hb (fun hap=>a9 (hJ _ _ _ _ hx) (a9 (kr _ _ _ hn) a8)) rfl ⟨_,rfl,(H N tk _ (fO aw ah aj))⟩ (rf (by kernel_rfl!))
theorem uQ (fr s n2i st its se ns:Nat) (k:Int) (t:Nat) (xv:List Value) (e2 mw it sl i:Nat) (ss:List Value) (sse:Nat) (hx:xv.length≤1000) (hn:ss.length≤i) {al:Obj} (ai:FrO w.2 [(s5,.ref s),(sk,.ref n2i),(sm,.ref st),(sg,.ref its),(sr,.ref se),(sb,.ref ns),(sa,.int k t)] [] al) {Q:Value→af→Prop} (hb:below.length≤96) (hp:([(fr,al),(its,lst (xv++ [.ref mw]) e2),(mw,mZ it),(it,b8 "list_iterator" (.ref sl) i),(sl,lst ss sse)]++F).Perm M) (H:∀(N tk:Nat) (aq:Obj),FrO w.2 [(s5,.ref s),(sk,.ref n2i),(sm,.ref st),(sg,.ref its),(sr,.ref se),(sb,.ref ns),(sa,.int k t)] [] aq→Q (.ref (N+1)) ([(fr,aq),(its,lst (xv++ [.ref mw]) e2),(mw,mZ it),(it,b8 "list_iterator" .none i),(sl,lst ss sse),(N+1,jH "StopIteration" (.ref N) .none)]++F)):TrX w b1 b2 b3 (cx c below) (execs [fQ (cC dx) 0,fQ (cC dx) 1] (aA fr)) M (fun _ _=>False) Q:=
  TrX.stE fun p=>aZ ai hp fun aw ah aj av=>aK fun N tk hN=>Stp.fin [1,0,2,2,2,1,3,2] [0,1,2,3,4,6] [bG 1 its (xv++ [.ref mw]) e2 (-1) (tk+1) (.ref mw),pU 2 3 4 mw it sl ss sse i N] _ 2 2 _ av aa hb (fun hap=>a9 (hJ _ _ _ _ hx) (a9 (ly _ _ _ _ hn) a8)) rfl ⟨_,rfl,(H N tk _ (fO aw ah aj))⟩ (rf (by kernel_rfl!))
theorem xZ (fr s n2i st its se ns:Nat) (k:Int) (t:Nat) (a tb:Nat) (args:Value) (v0 v1 v2 v3:Value) (tvs:List Value) (sv:List Value) (k2:Int) (kt2 e1:Nat) (xv:List Value) (mw e2:Nat) (nl:List (Int × Nat × Value)) (nep u:Nat) (vn:Value) (hv:sv.length≤1000) (hx:xv.length≤1000) (hn:bC nl k2=none) (hnl:nl.length≤1000) {al:Obj} (ai:FrO w.2 [(s5,.ref s),(sk,.ref n2i),(sm,.ref st),(sg,.ref its),(sr,.ref se),(sb,.ref ns),(sa,.int k t)] [] al) {Q:Flow→af→Prop} (hb:below.length≤96) (hp:([(fr,al),(a,jH "StopIteration" args (.ref tb)),(tb,⟨.type "traceback",none,.fields ⟨v0::v1::v2::v3::tvs⟩,#[]⟩),(st,lst (sv++ [.int k2 kt2]) e1),(its,lst (xv++ [.ref mw]) e2),(ns,ak (nl++ [(k2,u,vn)]) nep)]++F).Perm M) (H:∀(N tk:Nat) (aq:Obj),FrO w.2 [(s5,.ref s),(sk,.ref n2i),(sm,.ref st),(sg,.ref its),(sr,.ref se),(sb,.ref ns),(sa,.int k t)] [] aq→Q (.next) ([(fr,aq),(st,lst sv (e1+1)),(its,lst xv (e2+1)),(ns,ak nl (nep+1))]++F)):Tr w b1 b2 b3 (cx c below) (handleBy (.ref a) (aA fr) (qg dx)) M Q:=
  Tr.hb fun p=>aZ ai hp fun aw ah aj av=>aK fun N tk hN=>Stp.fin [0,0,0,2,0,2,3,3,1,1,4,4,4,4,1,6,6,2,1,5,5,5,5,3,0] [0,3,4,5] [pJ (.ref a) 3 st sv e1 (.int k2 kt2),vI (.ref a) 5 ns nl nep k2 u kt2 vn,pJ (.ref a) 4 its xv e2 (.ref mw)] _ 0 1 _ av aa hb (fun hap=>a9 (mC _ _ _ _ hv) (a9 (r9 _ _ _ _ _ _ _ hn hnl) (a9 (mC _ _ _ _ hx) a8))) rfl ⟨_,rfl,(H N tk _ (fO aw ah aj))⟩ (rf (by kernel_rfl!))
theorem y0 (fr:Nat) {Q:Flow→af→Prop} (hb:below.length≤96) (hp:([]++F).Perm M) (H:∀(N tk:Nat),Q (.brk) ([]++F)):Tr w b1 b2 b3 (cx c below) (execs (qh cY) (aA fr)) M Q:=
  Tr.st fun p=>aK fun N tk hN=>Stp.fin [] [] [] _ 0 0 [] hp aa hb (fun hap=>a8) rfl ⟨_,rfl,(H N tk)⟩ (rf (by kernel_rfl!))
theorem xT (fr:Nat) {Q:Flow→af→Prop} (hb:below.length≤96) (hp:([]++F).Perm M) (H:∀(N tk:Nat),Q (.ret .none) ([]++F)):Tr w b1 b2 b3 (cx c below) (execs [bE 6] (aA fr)) M Q:=
  Tr.st fun p=>aK fun N tk hN=>Stp.fin [] [] [] _ 0 0 [] hp aa hb (fun hap=>a8) rfl ⟨_,rfl,(H N tk)⟩ (rf (by kernel_rfl!))
end
structure En where
  x:NI
  t:Nat
  mw:Nat
  it:Nat
  p:Nat
  u:Nat
noncomputable def jw:Nat→List En→List (Int × Nat × Value)
  | _,[]=> []
  | i,e::l=>(e.x.key,e.t,.int (i:Int) e.u)::jw (i+1) l
noncomputable def oP (stk:List En):af:=stk.flatMap fun e=> [(e.mw,mZ e.it),(e.it,b8 "list_iterator" (.ref e.x.sl) e.p)]
noncomputable def mY (stk:List En):List Value:=stk.map fun e=>.int e.x.key e.t
noncomputable def lK (stk:List En):List Value:=stk.map fun e=>.ref e.mw
theorem fG:∀(i:Nat) (l:List En) (e:En),jw i (l++ [e])=jw i l++ [(e.x.key,e.t,.int ((i+l.length:Nat):Int) e.u)]
  | i,[],e=>rfl
  | i,a::l,e=>by
    rw [V4]
    unfold jw
    rw [fG (i+1) l e,J0,V4,show i+1+l.length=i+(l.length+1) from by lia]
theorem gv:∀(i:Nat) (l:List En),(jw i l).length=l.length
  | _,[]=>rfl
  | i,a::l=>by unfold jw;rw [J0,J0,gv]
theorem jv:∀(i:Nat) (l:List En) (k:Int),(∀e∈l,e.x.key≠k)→bC (jw i l) k=none
  | _,[],k,_=>rfl
  | i,a::l,k,h=>by
    unfold jw bC
    rw [List.find?_cons_of_neg (by simpa using h a (.head _))]
    exact jv (i+1) l k fun e he=>h e (.tail _ he)
theorem dD (l:List En) (e:En):oP (l++ [e])=oP l++ [(e.mw,mZ e.it),(e.it,b8 "list_iterator" (.ref e.x.sl) e.p)]:=by
  unfold oP;rw [List.flatMap_append];rfl
theorem d6 (l:List En) (e:En):mY (l++ [e])=mY l++ [.int e.x.key e.t]:=by unfold mY;rw [A0];rfl
theorem eU (l:List En) (e:En):lK (l++ [e])=lK l++ [.ref e.mw]:=by unfold lK;rw [A0];rfl
theorem f7 (l:List En):(mY l).length=l.length:=B0 _
theorem fj (l:List En):(lK l).length=l.length:=B0 _
noncomputable def dZ (f:NI→Nat) (S:List Int) (l:List NI):Nat:=((l.filter fun x=>!decide (x.key∈S)).map f).sum
theorem iE (f:NI→Nat) (S:List Int) (k:Int):∀l:List NI,(∀x∈l,x.key≠k)→dZ f (k::S) l=dZ f S l
  | [],_=>rfl
  | y::l,h=>by
    have ih:=iE f S k l fun x hx=>h x (.tail _ hx)
    have hy:=h y (.head _)
    unfold dZ at ih⊢
    have e:decide (y.key∈k::S)=decide (y.key∈S):=by
      by_cases h1:y.key∈S
      · rw [decide_eq_true h1,decide_eq_true (H6 _ h1)]
      · rw [decide_eq_false h1,decide_eq_false (fun hm=>by rcases Z0.mp hm with h2 | h2;exact hy h2;exact h1 h2)]
    rw [W1,W1,e]
    by_cases h1:y.key∈S
    · rw [decide_eq_true h1];simpa using ih
    · rw [decide_eq_false h1];simp only [R7,if_true,H0,J3];lia
theorem fC (f:NI→Nat) (S:List Int):∀(l:List NI) (x:NI),x∈l→(l.map (·.key)).Nodup→x.key∉S→dZ f (x.key::S) l+f x=dZ f S l
  | [],x,h,_,_=>nomatch h
  | y::l,x,hx,hk,hS=>by
    rw [H0,S1] at hk
    rcases Z0.mp hx with rfl | hx
    · have h1:=iE f S x.key l fun z hz e=>hk.1 (e▸X0 hz)
      unfold dZ at h1⊢
      rw [W1,W1,decide_eq_false hS,decide_eq_true (List.mem_cons_self)]
      simp only [Bool.not_true,J2,if_false,R7,if_true,H0,J3]
      lia
    · have ih:=fC f S l x hx hk.2 hS
      have hyx:y.key≠x.key:=fun e=>hk.1 (e▸X0 hx)
      have e:decide (y.key∈x.key::S)=decide (y.key∈S):=by
        by_cases h1:y.key∈S
        · rw [decide_eq_true h1,decide_eq_true (H6 _ h1)]
        · rw [decide_eq_false h1,decide_eq_false (fun hm=>by rcases Z0.mp hm with h2 | h2;exact hyx h2;exact h1 h2)]
      unfold dZ at ih⊢
      rw [W1,W1,e]
      by_cases h1:y.key∈S
      · rw [decide_eq_true h1];simpa using ih
      · rw [decide_eq_false h1];simp only [R7,if_true,H0,J3];lia
theorem iK {α:Type} (l:List α):l= []∨∃l' a,l=l'++ [a]:=by
  rcases List.eq_nil_or_concat l with h | ⟨l',a,h⟩
  · exact .inl h
  · exact .inr ⟨l',a,by rw [h,List.concat_eq_append]⟩
noncomputable def tF (stk:List En):Nat:=(stk.map fun e=>1+e.x.succ.length - e.p).sum
theorem ib (l:List En) (e:En):tF (l++ [e])=tF l+(1+e.x.succ.length - e.p):=by
  unfold tF;rw [A0,J5];simp
noncomputable def rW (G:So) (stk:List En) (S:List Int):Nat:=dZ (fun x=>2+x.succ.length) S G.nodes+tF stk
structure StkOk (G:So) (rank:Int→Nat) (stk:List En) (S:List Int):Prop where
  mem:∀e∈stk,e.x∈G.nodes
  dec:stk.Pairwise fun a b=>rank b.x.key < rank a.x.key
  le:∀e∈stk,e.p≤e.x.succ.length
  few:stk.length≤S.length
  cnt:S.length+dZ (fun _=>1) S G.nodes=G.nodes.length
theorem StkOk.pop {G:So} {rank:Int→Nat} {stk:List En} {e:En} {S:List Int} (h:StkOk G rank (stk++ [e]) S):StkOk G rank stk S:=
  ⟨fun a ha=>h.mem a (Y0 _ ha),(V1.mp h.dec).1,fun a ha=>h.le a (Y0 _ ha),by have:=h.few;rw [N0] at this;simp at this;exact B4 this,h.cnt⟩
theorem StkOk.apart {G:So} {rank:Int→Nat} {stk:List En} {e:En} {S:List Int} (h:StkOk G rank (stk++ [e]) S) {k:Int} (hk:rank k≤rank e.x.key):∀a∈stk,a.x.key≠k:=fun a ha ek=>by
  have:=(V1.mp h.dec).2.2 a ha e (.head _)
  rw [ek] at this;lia
section
variable {w:World} {b1 b2 b3:Bool} {bel:ag→Prop} {F M:af} {Q:Result→af→Prop}
noncomputable abbrev xz (w:World) (s n2i st its se ns:Nat) (k:Int) (t:Nat) (F0:Obj):Prop:=FrO w.2 [(s5,.ref s),(sk,.ref n2i),(sm,.ref st),(sg,.ref its),(sr,.ref se),(sb,.ref ns),(sa,.int k t)] [] F0
noncomputable def dL (fr st its se ns:Nat) (F0 oS:Obj) (stk:List En) (e1 e2 e3:Nat):af:= [(fr,F0),(st,lst (mY stk) e1),(its,lst (lK stk) e2),(se,oS),(ns,ak (jw 0 stk) e3)]++oP stk
noncomputable abbrev wc2 (fr:Nat):Code:=.whileLoop (cB cY) [wm] (qh cY) (aA fr)
noncomputable abbrev wc1 (fr:Nat):Code:=.whileLoop (cB f0) [jS,tv] [] (aA fr)
theorem qr (fr:Nat):dH (aA fr) fr:=⟨rfl,by kernel_rfl!,by kernel_rfl!,by kernel_rfl!⟩
theorem qU:(qg dx).isEmpty=false:=by kernel_rfl!
inductive ciP (w:World) (rank:Int→Nat) (es:List Env) (fr st its se ns:Nat) (G:So) (S:List Int) (oS:Obj) (OL0 X:af) (φ n:Nat) (L:af):Prop | mk (F0:Obj) (k:Int) (t:Nat) (stk:List En) (e1 e2 e3:Nat) (OL:af) (_:L.Perm (dL fr st its se ns F0 oS stk e1 e2 e3++(OL++(aU w G++X)))) (_:xz w G.s G.n2i st its se ns k t F0) (_:StkOk G rank stk S) (_:rW G stk S≤φ) (_:FrLed es OL) (_:FrSame OL0 OL) (_:stk.length=n):ciP w rank es fr st its se ns G S oS OL0 X φ n L
set_option maxHeartbeats 4000000 in
theorem p9 {rank:Int→Nat} {es:List Env} {fr st its se ns:Nat} {G:So} {A:List AN} {c:Nat} (is:Is G A c) (hc:c≤800) (hG:∀x∈G.nodes,∀q∈x.succ,rank q.1 < rank x.key) {S:List Int} {oS:Obj} {OL0 X:af} (φ:Nat)
    (hb:∀l,bel l→l.length≤85∧cX l=aA fr::es)
    (hN:∀(F0:Obj) (k:Int) (t:Nat) (stk:List En) (e:En) (e1 e2 e3:Nat) (OL:af),xz w G.s G.n2i st its se ns k t F0→StkOk G rank (stk++ [e]) S→rW G (stk++ [e]) S < φ→(∃i:Nat,e.x.succ[i]?=some (k,t))→FrLed es OL→FrSame OL0 OL→Q (.ok .next) (dL fr st its se ns F0 oS (stk++ [e]) e1 e2 e3++(OL++(aU w G++X))))
    (hE:∀(F0:Obj) (k:Int) (t:Nat) (e1 e2 e3:Nat) (OL:af),xz w G.s G.n2i st its se ns k t F0→StkOk G rank [] S→FrLed es OL→FrSame OL0 OL→Q (.ok .brk) (dL fr st its se ns F0 oS [] e1 e2 e3++(OL++(aU w G++X)))):
    ∀(n:Nat) (L:af),ciP w rank es fr st its se ns G S oS OL0 X φ n L→Con w b1 b2 b3 bel (wc2 fr) L Q:=by
  have hcn:G.nodes.length≤800:=M0 is.bd.1 hc
  intro n L hI
  refine Con.lax (ia (I:=ciP w rank es fr st its se ns G S oS OL0 X φ) ?_ n L hI)
  clear hI L n
  rintro n L ⟨F0,k,t,stk,e1,e2,e3,OL,hL,hF,ok,hφ,hfl,hsm,rfl⟩ below ao
  obtain ⟨hbl,hfe⟩:=hb _ ao
  have hfe':cX ((wc2 fr,default)::below)=aA fr::es:=by rw [iu rfl];exact hfe
  rcases iK stk with rfl | ⟨stk,e,rfl⟩
  · refine uS fr G.s G.n2i st its se ns k t e1 hF (by exact lk hbl rfl) (F:= [(its,lst (lK []) e2),(se,oS),(ns,ak (jw 0 []) e3)]++(OL++(aU w G++X))) ?_ fun N tk G1 hG1=>?_
    · refine List.Perm.trans ?_ hL.symm
      exact aO [_,_,_,_,_,_,_,_] [_,_,_,_] (.a (.l [0,1] .z) (.a (.l [2,3,4] .z) (.a (.v 0) (.a (.a (.l [5,6,7] .z) (.a (.v 1) (.v 2))) (.v 3))))) (.a (.a (.l [0,1,2,3,4] .z) .z) (.a (.v 0) (.a (.a (.l [5,6,7] .z) (.a (.v 1) (.v 2))) (.v 3)))) rfl
    · refine y0 fr (by exact lk hbl rfl) (F:= [(fr,G1),(st,lst [] e1),(its,lst (lK []) e2),(se,oS),(ns,ak (jw 0 []) e3)]++(OL++(aU w G++X))) (by exact aO [_,_,_,_,_] [_,_,_] (.a .z (.a (.l [0,1,2,3,4] .z) (.a (.v 0) (.a (.v 1) (.v 2))))) (.a (.l [0,1] .z) (.a (.l [2,3,4] .z) (.a (.v 0) (.a (.v 1) (.v 2))))) rfl) fun N1 tk1=>bK ?_ (hE G1 k t e1 e2 e3 OL hG1 ok hfl hsm)
      exact aO [_,_,_,_,_,_,_,_] [_,_,_,_] (.a .z (.a (.l [0,1,2,3,4] .z) (.a (.v 0) (.a (.a (.l [5,6,7] .z) (.a (.v 1) (.v 2))) (.v 3))))) (.a (.a (.l [0,1,2,3,4] .z) .z) (.a (.v 0) (.a (.a (.l [5,6,7] .z) (.a (.v 1) (.v 2))) (.v 3)))) rfl
  · have hlen:stk.length+1≤900:=by
      have h1:=ok.few
      have h2:=ok.cnt
      rw [N0] at h1
      simp only [J0,Z3] at h1
      lia
    refine uR fr G.s G.n2i st its se ns k t (mY stk) (.int e.x.key e.t) e1 (by rw [f7];exact lk hlen rfl) hF (by exact lk hbl rfl) (F:= [(its,lst (lK (stk++ [e])) e2),(se,oS),(ns,ak (jw 0 (stk++ [e])) e3)]++(oP (stk++ [e])++(OL++(aU w G++X)))) ?_ fun N tk G1 hG1=>?_
    · refine List.Perm.trans ?_ hL.symm
      exact bk [_,_,_,_,_,_,_,_,_] [_,_,_,_,_] (.a (.l [0,1] .z) (.a (.l [2,3,4] .z) (.a (.v 0) (.a (.v 1) (.a (.a (.l [5,6,7] .z) (.a (.v 2) (.v 3))) (.v 4)))))) (.a (.a (.l [0,8,2,3,4] .z) (.v 0)) (.a (.v 1) (.a (.a (.l [5,6,7] .z) (.a (.v 2) (.v 3))) (.v 4)))) (.l [1] .z) (.l [8] .z) ((pe (by simp only [dL,d6]))) rfl
    · show Tr _ _ _ _ _ (execs [wm] (aA fr)) _ _
      refine Tr.gq fun QQ qq=>?_
      refine Tr.single (wl (es:=es) (f:=fr) (T:="StopIteration") qU rfl hfe' ?_)
      have hx:=ok.mem e (R0 _ (.head _))
      obtain ⟨R,hR,_⟩:=gO hx is.keys
      by_cases hp:e.p < e.x.succ.length
      · -- one more follower
        obtain ⟨k2,t2,hq⟩:∃k2 t2,e.x.succ[e.p]?=some (k2,t2):=⟨e.x.succ[e.p].1,e.x.succ[e.p].2,by rw [O0 hp]⟩
        refine TrX.of_tr (uP fr G.s G.n2i st its se ns k t (lK stk) e2 e.mw e.it e.x.sl e.p (e.x.succ.map iv) e.x.sep k2 t2 (by rw [fj];lia) (by rw [V0,hq];rfl) hG1 (by exact lk hbl rfl) (F:= [(st,lst (mY (stk++ [e])) e1),(se,oS),(ns,ak (jw 0 (stk++ [e])) e3)]++(oP stk++(OL++(cD w G++(bs G.nodes++R)++X)))) ?_ fun N1 tk1 G2 hG2=>⟨by simp,qq _ _ (.inr (.inl ⟨rfl,?_⟩))⟩)
        · exact bk [_,_,_,_,_,_,_,_,_,_,_,_,_] [_,_,_,_,_,_,_] (.a (.l [1,2,3,4,0] .z) (.a (.l [5,6,7] .z) (.a (.v 2) (.a (.v 3) (.a (.a (.l [8,9,10] .z) (.a (.v 4) (.v 1))) (.v 5)))))) (.a (.l [1,11] .z) (.a (.l [12,6,7] .z) (.a (.v 6) (.a (.v 3) (.a (.a (.l [8,9,10] .z) (.a (.v 4) (.v 0))) (.v 5)))))) (.a (.a (.a (.l [0] (.v 1)) (.a (.v 2) (.l [3,4] .z))) (.l [2] .z)) (.l [5] .z)) (.a (.a (.a (.v 0) (.v 6)) (.l [12] .z)) (.l [11] .z)) (((((((hR.symm).append ((P1 (dD ..)).symm))).append ((pe (by simp only [d6,eU,dD,NI.lst]))))).append ((pe (by simp only [d6,eU,dD,NI.lst]))))) rfl
        · have ok':StkOk G rank (stk++ [{e with p:=e.p+1}]) S:=by
            refine ⟨fun a ha=>?_,?_,fun a ha=>?_,by have:=ok.few;simpa using this,ok.cnt⟩
            · rcases A1.mp ha with ha | ha
              · exact ok.mem a (Y0 _ ha)
              · rcases Z0.mp ha with rfl | ha
                · exact hx
                · cases ha
            · refine V1.mpr ⟨(V1.mp ok.dec).1,U5 _ _,fun a ha b hb=>?_⟩
              rcases Z0.mp hb with rfl | hb
              · exact (V1.mp ok.dec).2.2 a ha e (.head _)
              · cases hb
            · rcases A1.mp ha with ha | ha
              · exact ok.le a (Y0 _ ha)
              · rcases Z0.mp ha with rfl | ha
                · exact hp
                · cases ha
          refine bK ?_ (hN G2 k2 t2 stk {e with p:=e.p+1} e1 e2 e3 OL hG2 ok' ?_ ⟨e.p,hq⟩ hfl hsm)
          · (simp only [dL,d6,eU,dD,fG];exact bk [_,_,_,_,_,_,_,_,_,_,_] [_,_,_,_,_,_] (.a (.l [1,2,3,4,0] .z) (.a (.l [5,6,7] .z) (.a (.v 2) (.a (.v 3) (.a (.a (.l [8,9,10] .z) (.a (.v 4) (.v 1))) (.v 5)))))) (.a (.a (.l [1,5,2,6,7] .z) (.a (.v 2) (.l [3,4] .z))) (.a (.v 3) (.a (.a (.l [8,9,10] .z) (.a (.v 4) (.v 0))) (.v 5)))) (.l [0] (.v 1)) (.v 0) (hR.symm) rfl)
          · unfold rW at hφ⊢
            rw [ib] at hφ⊢
            show _+(_+(1+e.x.succ.length - (e.p+1))) < φ
            lia
      · -- the followers are at an end
        have hn:(e.x.succ.map iv).length≤e.p:=by rw [B0];lia
        refine TrX.mono (uQ fr G.s G.n2i st its se ns k t (lK stk) e2 e.mw e.it e.x.sl e.p (e.x.succ.map iv) e.x.sep (by rw [fj];lia) hn hG1 (by exact lk hbl rfl) (F:= [(st,lst (mY (stk++ [e])) e1),(se,oS),(ns,ak (jw 0 (stk++ [e])) e3)]++(oP stk++(OL++(cD w G++(bs G.nodes++R)++X)))) ?_ fun N1 tk1 G2 hG2=>?_) (fun _ _ h=>h.elim) fun _ _ h=>h
        · exact bk [_,_,_,_,_,_,_,_,_,_,_,_,_] [_,_,_,_,_,_,_] (.a (.l [1,2,3,4,0] .z) (.a (.l [5,6,7] .z) (.a (.v 2) (.a (.v 3) (.a (.a (.l [8,9,10] .z) (.a (.v 4) (.v 1))) (.v 5)))))) (.a (.l [1,11] .z) (.a (.l [12,6,7] .z) (.a (.v 6) (.a (.v 3) (.a (.a (.l [8,9,10] .z) (.a (.v 4) (.v 0))) (.v 5)))))) (.a (.a (.a (.l [0] (.v 1)) (.a (.v 2) (.l [3,4] .z))) (.l [2] .z)) (.l [5] .z)) (.a (.a (.a (.v 0) (.v 6)) (.l [12] .z)) (.l [11] .z)) (((((((hR.symm).append ((P1 (dD ..)).symm))).append ((pe (by simp only [d6,eU,dD,NI.lst]))))).append ((pe (by simp only [d6,eU,dD,NI.lst]))))) rfl
        · obtain ⟨es',fe,sl,rfl⟩:=FrO.shape hG2
          have hfl2:FrLed (aA fr::es) ((fr,gA es' fe sl)::OL):=⟨fr,_,_,_,OL,qr fr,rfl,hfl⟩
          refine ⟨N1+1,.ref N1,_,[(its,lst (lK stk++ [.ref e.mw]) e2),(e.mw,mZ e.it),(e.it,b8 "list_iterator" .none e.p),(e.x.sl,lst (e.x.succ.map iv) e.x.sep)]++([(st,lst (mY (stk++ [e])) e1),(se,oS),(ns,ak (jw 0 (stk++ [e])) e3)]++(oP stk++(cD w G++(bs G.nodes++R)++X))),rfl,hfl2,?_,?_⟩
          · exact aO [_,_,_,_,_,_,_,_,_] [_,_,_,_,_,_] (.a (.l [0,1,2,3,4,5] .z) (.a (.l [6,7,8] .z) (.a (.v 0) (.a (.v 1) (.a (.a (.v 2) (.a (.v 3) (.v 4))) (.v 5)))))) (.l [5] (.a (.l [0] (.v 1)) (.a (.l [1,2,3,4] .z) (.a (.l [6,7,8] .z) (.a (.v 0) (.a (.a (.v 2) (.a (.v 3) (.v 4))) (.v 5))))))) rfl
          · rintro FL' tb o ⟨es2,fe2,sl2,sl2',OL',h1,rfl,hsm2⟩ ⟨v0,v1,v2,v3,tvs,rfl⟩
            injection h1 with _ _ h1 _
            injection h1 with h1 h2
            injection h1 with h1
            subst h1 h2
            have hF2:=FrO.same (sl':=sl2') hG2
            refine Tr.lax (xZ fr G.s G.n2i st its se ns k t (N1+1) tb (.ref N1) v0 v1 v2 v3 tvs (mY stk) e.x.key e.t e1 (lK stk) e.mw e2 (jw 0 stk) e3 e.t (.int ((0+stk.length:Nat):Int) e.u) (by rw [f7];lia) (by rw [fj];lia) (jv 0 stk _ (ok.apart (S0 _))) (by rw [gv];lia) hF2 (by exact lk hbl rfl) (F:= [(e.mw,mZ e.it),(e.it,b8 "list_iterator" .none e.p),(e.x.sl,lst (e.x.succ.map iv) e.x.sep),(se,oS)]++(oP stk++(OL'++(cD w G++(bs G.nodes++R)++X)))) ?_ fun N2 tk2 G2 hG2=>⟨dL fr st its se ns G2 oS stk (e1+1) (e2+1) (e3+1)++(OL'++(aU w G++X)),[(e.mw,mZ e.it),(e.it,b8 "list_iterator" .none e.p)],?_,qq _ _ (.inl ⟨.inl rfl,stk.length,by rw [N0];simp,?_⟩)⟩)
            · exact bk [_,_,_,_,_,_,_,_,_,_,_,_,_,_,_] [_,_,_,_,_] (.a (.l [0,1,2,3,4,5] .z) (.a (.l [6,7,8,9] .z) (.a (.v 0) (.a (.v 1) (.a (.a (.l [10,11,12] .z) (.a (.v 2) (.v 3))) (.v 4)))))) (.l [1,2] (.a (.l [0] (.v 1)) (.a (.l [4,6,7,8] .z) (.a (.l [13,9,14] .z) (.a (.v 0) (.a (.a (.l [10,11,12] .z) (.a (.v 2) (.v 3))) (.v 4))))))) (.a (.l [3] .z) (.l [5] .z)) (.a (.l [13] .z) (.l [14] .z)) ((((pe (by simp only [d6,fG]))).append ((pe (by simp only [d6,fG]))))) rfl
            · exact bk [_,_,_,_,_,_,_,_,_,_,_] [_,_,_,_,_,_] (.a (.l [1,2,3,4] .z) (.a (.l [5,6,0,7] .z) (.a (.v 2) (.a (.v 3) (.a (.a (.l [8,9,10] .z) (.a (.v 4) (.v 1))) (.v 5)))))) (.a (.a (.a (.l [1,2,3,7,4] .z) (.v 2)) (.a (.v 3) (.a (.a (.l [8,9,10] .z) (.a (.v 4) (.v 0))) (.v 5)))) (.l [5,6] .z)) (.l [0] (.v 1)) (.v 0) (hR.symm) rfl
            · refine ⟨G2,k,t,stk,e1+1,e2+1,e3+1,OL',E0 _,hG2,ok.pop,?_,hfl.same hsm2,hsm.trans hsm2,rfl⟩
              unfold rW at hφ⊢
              rw [ib] at hφ
              lia
end
section
variable {w:World} {b1 b2 b3:Bool} {bel:ag→Prop} {F M:af} {Q:Result→af→Prop}
noncomputable def TopOk (rank:Int→Nat) (stk:List En) (S:List Int) (k:Int):Prop:=(stk= []∧k∉S)∨∃pre e,stk=pre++ [e]∧rank k < rank e.x.key
theorem TopOk.apart {G:So} {rank:Int→Nat} {stk:List En} {S:List Int} {k:Int} (h:TopOk rank stk S k) (ok:StkOk G rank stk S):∀a∈stk,rank k < rank a.x.key:=by
  rcases h with ⟨rfl,_⟩ | ⟨pre,e,rfl,hk⟩
  · exact fun a ha=>nomatch ha
  · intro a ha
    rcases A1.mp ha with ha | ha
    · have:=(V1.mp ok.dec).2.2 a ha e (.head _);lia
    · rcases Z0.mp ha with rfl | ha
      · exact hk
      · cases ha
theorem StkOk.push {G:So} {rank:Int→Nat} {stk:List En} {S:List Int} {e:En} (ok:StkOk G rank stk S) (hk:(G.nodes.map (·.key)).Nodup) (hx:e.x∈G.nodes) (hS:e.x.key∉S) (hr:∀a∈stk,rank e.x.key < rank a.x.key) (hp:e.p=0):StkOk G rank (stk++ [e]) (e.x.key::S):=by
  refine ⟨fun a ha=>?_,V1.mpr ⟨ok.dec,U5 _ _,fun a ha b hb=>?_⟩,fun a ha=>?_,?_,?_⟩
  · rcases A1.mp ha with ha | ha
    · exact ok.mem a ha
    · rcases Z0.mp ha with rfl | ha
      · exact hx
      · cases ha
  · rcases Z0.mp hb with rfl | hb
    · exact hr a ha
    · cases hb
  · rcases A1.mp ha with ha | ha
    · exact ok.le a ha
    · rcases Z0.mp ha with rfl | ha
      · rw [hp];exact Y3 _
      · cases ha
  · rw [N0,J0];exact A3 ok.few
  · have h1:=fC (fun _=>1) S G.nodes e.x hx hk hS
    have h2:=ok.cnt
    rw [J0];lia
inductive cyP (w:World) (b1 b2 b3:Bool) (rank:Int→Nat) (es:List Env) (fr st its se ns:Nat) (G:So) (A:List AN) (OL0 X:af) (n:Nat) (L:af):Prop | mk (F0 oS:Obj) (k:Int) (t:Nat) (stk:List En) (S:List Int) (e1 e2 e3:Nat) (OL:af) (_:L.Perm (dL fr st its se ns F0 oS stk e1 e2 e3++(OL++(aU w G++X)))) (_:xz w G.s G.n2i st its se ns k t F0) (_:StkOk G rank stk S) (_:SetI b1 b2 b3 w oS S S.length) (_:k∈A.map (·.1)) (_:TopOk rank stk S k) (_:FrLed es OL) (_:FrSame OL0 OL) (_:rW G stk S=n):cyP w b1 b2 b3 rank es fr st its se ns G A OL0 X n L
set_option maxHeartbeats 4000000 in
theorem p8 {rank:Int→Nat} {es:List Env} {fr st its se ns:Nat} {G:So} {A:List AN} {c:Nat} (is:Is G A c) (hc:c≤800) (hG:∀x∈G.nodes,∀q∈x.succ,rank q.1 < rank x.key) (hin:∀x∈G.nodes,∀q∈x.succ,q.1∈A.map (·.1)) {OL0 X:af}
    (hb:∀l,bel l→l.length≤75∧cX l=aA fr::es)
    (hQ:∀(F0 oS:Obj) (k:Int) (t:Nat) (S:List Int) (e1 e2 e3:Nat) (OL:af),xz w G.s G.n2i st its se ns k t F0→StkOk G rank [] S→SetI b1 b2 b3 w oS S S.length→FrLed es OL→FrSame OL0 OL→Q (.ok .next) (dL fr st its se ns F0 oS [] e1 e2 e3++(OL++(aU w G++X)))):
    ∀(n:Nat) (L:af),cyP w b1 b2 b3 rank es fr st its se ns G A OL0 X n L→Con w b1 b2 b3 bel (wc1 fr) L Q:=by
  have hcn:G.nodes.length≤800:=M0 is.bd.1 hc
  intro n L hI
  refine ia (I:=cyP w b1 b2 b3 rank es fr st its se ns G A OL0 X) ?_ n L hI
  clear hI L n
  rintro n L ⟨F0,oS,k,t,stk,S,e1,e2,e3,OL,hL,hF,ok,hS,hk,htop,hfl,hsm,rfl⟩ below ao
  obtain ⟨hbl,hfe⟩:=hb _ ao
  have hSn:S.length≤800:=by have:=ok.cnt;lia
  have hap:=htop.apart ok
  have hnone:bC (jw 0 stk) k=none:=jv 0 stk k fun a ha e=>by have:=hap a ha;rw [e] at this;lia
  have hstk:stk.length≤800:=M0 ok.few hSn
  refine xU fr (by exact lk hbl rfl) (F:=L) (E0 _) fun N tk=>?_
  show Tr _ _ _ _ _ (execs [jS,tv] (aA fr)) _ _
  refine Tr.gq fun QQ qq=>Tr.perm (L:=dL fr st its se ns F0 oS stk e1 e2 e3++(OL++(aU w G++X))) ?_ hL.symm
  have inner:∀(F1 oS':Obj) (stk':List En) (S':List Int) (f1 f2 f3:Nat) (L1:af),L1.Perm (dL fr st its se ns F1 oS' stk' f1 f2 f3++(OL++(aU w G++X)))→xz w G.s G.n2i st its se ns k t F1→StkOk G rank stk' S'→SetI b1 b2 b3 w oS' S' S'.length→rW G stk' S'≤rW G stk S→
      Tr w b1 b2 b3 (cx (wc1 fr) below) (execs [tv] (aA fr)) L1 QQ:=by
    intro F1 oS' stk' S' f1 f2 f3 L1 hL1 hF1 ok' hS' hpot
    refine Tr.perm ?_ hL1.symm
    refine Tr.single (jk (bel:=fun l=>l.length≤85∧cX l=aA fr::es) (p9 is hc hG (rW G stk S) (fun l h=>h) ?_ ?_ stk'.length _ ⟨F1,k,t,stk',f1,f2,f3,OL,E0 _,hF1,ok',hpot,hfl,hsm,rfl⟩) fun p=>⟨by rw [J0];exact oM hbl rfl,by rw [iu rfl];exact hfe⟩)
    · intro F2 k2 t2 stk2 e g1 g2 g3 OL2 hF2 ok2 hp2 ⟨i,hi⟩ hfl2 hsm2
      have hq:=J1 hi
      have hx:=ok2.mem e (R0 _ (.head _))
      exact ⟨.next,rfl,qq _ _ (.inl ⟨.inl rfl,_,hp2,F2,oS',k2,t2,stk2++ [e],S',g1,g2,g3,OL2,E0 _,hF2,ok2,hS',hin _ hx _ hq,.inr ⟨stk2,e,rfl,hG _ hx _ hq⟩,hfl2,hsm2,rfl⟩)⟩
    · intro F2 k2 t2 g1 g2 g3 OL2 hF2 ok2 hfl2 hsm2
      exact ⟨.brk,rfl,qq _ _ (.inr (.inl ⟨rfl,hQ F2 oS' k2 t2 S' g1 g2 g3 OL2 hF2 ok2 hS' hfl2 hsm2⟩))⟩
  obtain ⟨sae,sep,ts,rfl⟩:=hS.shape
  by_cases hkS:k∈S
  · refine Tr.cons (xV fr G.s G.n2i st its se ns k t (jw 0 stk) e3 sae sep ts S S.length hS (decide_eq_true hkS) hnone hF (by exact lk hbl rfl) (F:= [(st,lst (mY stk) e1),(its,lst (lK stk) e2)]++(oP stk++(OL++(aU w G++X)))) ?_ fun N1 tk1 F1 hF1=>.inl ⟨rfl,inner F1 _ stk S e1 e2 e3 _ ?_ hF1 ok hS (S0 _)⟩)
    · exact aO [_,_,_,_,_,_,_,_] [_,_,_,_,_] (.a (.l [0,1,2] .z) (.a (.l [3,4] .z) (.a (.v 0) (.a (.v 1) (.a (.a (.l [5,6,7] .z) (.a (.v 2) (.v 3))) (.v 4)))))) (.a (.a (.l [0,3,4,1,2] .z) (.v 0)) (.a (.v 1) (.a (.a (.l [5,6,7] .z) (.a (.v 2) (.v 3))) (.v 4)))) rfl
    · exact aO [_,_,_,_,_,_,_,_] [_,_,_,_,_] (.a (.l [0,1,2] .z) (.a (.l [3,4] .z) (.a (.v 0) (.a (.v 1) (.a (.a (.l [5,6,7] .z) (.a (.v 2) (.v 3))) (.v 4)))))) (.a (.a (.l [0,3,4,1,2] .z) (.v 0)) (.a (.v 1) (.a (.a (.l [5,6,7] .z) (.a (.v 2) (.v 3))) (.v 4)))) rfl
  · obtain ⟨x,hx,rfl,hl⟩:=is.find hk
    obtain ⟨R,hR,_⟩:=dC hx is.keys
    obtain ⟨R2,hR2,_⟩:=gO hx is.keys
    refine Tr.cons (xW fr G.s G.n2i st its se ns x.key t sae sep ts S S.length hS (decide_eq_false hkS) hF (by exact lk hbl rfl) (bel':=fun l=>l.length≤96) (fun l hl=>by exact eA hl hbl rfl) (F:= [(st,lst (mY stk) e1),(its,lst (lK stk) e2),(ns,ak (jw 0 stk) e3)]++(oP stk++(OL++(aU w G++X)))) ?_ fun N1 tk1 F1 hN1 hF1=>?_)
    · exact aO [_,_,_,_,_,_,_,_] [_,_,_,_,_] (.a (.l [0,1] .z) (.a (.l [2,3,4] .z) (.a (.v 0) (.a (.v 1) (.a (.a (.l [5,6,7] .z) (.a (.v 2) (.v 3))) (.v 4)))))) (.a (.a (.l [0,2,3,1,4] .z) (.v 0)) (.a (.v 1) (.a (.a (.l [5,6,7] .z) (.a (.v 2) (.v 3))) (.v 4)))) rfl
    · refine lU (fun l h=>h) hS (by exact lk hSn rfl) x.key t hkS (X:= [(fr,F1),(st,lst (mY stk) e1),(its,lst (lK stk) e2),(ns,ak (jw 0 stk) e3)]++(oP stk++(OL++(aU w G++X)))) (by exact aO [_,_,_,_,_] [_,_,_,_] (.a (.l [0] .z) (.a (.l [1,2,3,4] .z) (.a (.v 0) (.a (.v 1) (.a (.v 2) (.v 3)))))) (.a (.l [1,0] .z) (.a (.l [2,3,4] .z) (.a (.v 0) (.a (.v 1) (.a (.v 2) (.v 3)))))) rfl) fun o' hS'=>?_
      refine ⟨G.tab,G.ep',x.a,x.d,x.key,x.tk,.int x.np x.npt,x.sl,x.succ.map iv,x.sep,mY stk,lK stk,e1,e2,jw 0 stk,e3,F1,[(se,o')]++(oP stk++(OL++([(G.s,aP bM G.d),(G.d,G.dict w)]++(R++R2++X)))),hl,hnone,by rw [fj];exact lk hstk rfl,by rw [f7];exact lk hstk rfl,by rw [gv];exact lk hstk rfl,rfl,hF1,?_,fun N2 tk2 F2 hF2=>.inl ⟨rfl,inner F2 o' (stk++ [⟨x,t,N2+1,N2+0,0,tk2+4⟩]) (x.key::S) (e1+1) (e2+1) (e3+1) _ ?_ hF2 (ok.push is.keys hx hkS hap rfl) hS' ?_⟩⟩
      · exact bk [_,_,_,_,_,_,_,_,_,_] [_,_,_,_,_,_,_] (.a (.l [2,3,0,1,4,5,6] .z) (.a (.l [7] .z) (.a (.v 4) (.a (.v 5) (.a (.l [8,9] .z) (.a (.a (.v 1) (.v 3)) (.v 6))))))) (.a (.l [7] .z) (.a (.l [2,4,5,6] .z) (.a (.v 4) (.a (.v 5) (.a (.a (.l [8,9,3] .z) (.a (.v 0) (.v 2))) (.v 6)))))) (.a (.l [0] (.v 1)) (.l [1] (.v 3))) (.a (.v 0) (.v 2)) (((hR.symm).append (hR2.symm))) rfl
      · (simp only [dL,d6,eU,fG,dD,f7,P2];exact bk [_,_,_,_,_,_,_,_,_,_,_,_] [_,_,_,_,_,_,_] (.a (.l [2,3,0,1,4,5,6,7,8] .z) (.a (.l [9] .z) (.a (.v 4) (.a (.v 5) (.a (.l [10,11] .z) (.a (.a (.v 1) (.v 3)) (.v 6))))))) (.a (.a (.l [2,4,5,9,6] .z) (.a (.v 4) (.l [8,7] .z))) (.a (.v 5) (.a (.a (.l [10,11,3] .z) (.a (.v 0) (.v 2))) (.v 6)))) (.a (.l [0] (.v 1)) (.l [1] (.v 3))) (.a (.v 0) (.v 2)) (((hR.symm).append (hR2.symm))) rfl)
      · unfold rW
        have h1:=fC (fun x=>2+x.succ.length) S G.nodes x hx is.keys hkS
        rw [ib]
        show _+(_+(1+x.succ.length - 0))≤_
        lia
end
section
variable {w:World} {b1 b2 b3:Bool} {bel:ag→Prop} {F M:af} {Q:Result→af→Prop}
noncomputable abbrev xy (w:World) (s n2i st its se ns:Nat) (F0:Obj):Prop:=FrO w.2 [(s5,.ref s),(sk,.ref n2i),(sm,.ref st),(sg,.ref its),(sr,.ref se),(sb,.ref ns)] [[sa]] F0
theorem vN {s n2i st its se ns:Nat} {k:Int} {t:Nat} {F0:Obj} (h:xz w s n2i st its se ns k t F0):xy w s n2i st its se ns F0:=.inr ⟨_,h⟩
inductive Jcf (w:World) (b1:Bool) (b2:Bool) (b3:Bool) (rank:Int→Nat) (es:List Env) (fr:Nat) (st:Nat) (its:Nat) (se:Nat) (ns:Nat) (G:So) (OL0:af) (X:af) (i:Nat) (L:af):Prop | mk (F0 oS:Obj) (S:List Int) (e1 e2 e3:Nat) (OL:af) (_:L=dL fr st its se ns F0 oS [] e1 e2 e3++(OL++([(G.s,aP bM G.d),(G.d,G.dict w)]++(bs G.nodes++b6 G.nodes++X)))) (_:xy w G.s G.n2i st its se ns F0) (_:StkOk G rank [] S) (_:SetI b1 b2 b3 w oS S S.length) (_:FrLed es OL) (_:FrSame OL0 OL):Jcf w b1 b2 b3 rank es fr st its se ns G OL0 X i L
set_option maxHeartbeats 4000000 in
theorem uO {rank:Int→Nat} {es:List Env} {fr st its se ns it:Nat} {G:So} {A:List AN} {c:Nat} (is:Is G A c) (hc:c≤800) (hG:∀x∈G.nodes,∀q∈x.succ,rank q.1 < rank x.key) (hin:∀x∈G.nodes,∀q∈x.succ,q.1∈A.map (·.1)) {OL0 X:af}
    (hb:∀l,bel l→l.length≤65∧cX l=aA fr::es) (hfl0:FrLed es OL0) {F0 oS:Obj} {e1 e2 e3:Nat} (hF0:xy w G.s G.n2i st its se ns F0) (hS0:SetI b1 b2 b3 w oS [] 0)
    (hp:([(it,cW "dict_keyiterator" (.ref G.n2i) 0 G.tab.length G.ep')]++(dL fr st its se ns F0 oS [] e1 e2 e3++(OL0++(aU w G++X)))).Perm M)
    (hQ:∀OL,FrSame OL0 OL→Q (.ok .next) (OL++(aU w G++X))):Con w b1 b2 b3 bel (.forLoop (.Name sa (d0 eB)) (.ref it) [iz 0,wh] [] (aA fr)) M Q:=by
  have hcn:G.nodes.length≤800:=M0 is.bd.1 hc
  have htl:G.tab.length=G.nodes.length:=B0 _
  refine Con.perm (L:= [(it,cW "dict_keyiterator" (.ref G.n2i) 0 G.tab.length G.ep'),(G.n2i,ak G.tab G.ep')]++(dL fr st its se ns F0 oS [] e1 e2 e3++(OL0++([(G.s,aP bM G.d),(G.d,G.dict w)]++(bs G.nodes++b6 G.nodes++X))))) ?_ (List.Perm.trans (by exact aO [_,_,_,_] [_,_,_,_,_] (.a (.l [0,1] .z) (.a (.v 0) (.a (.v 1) (.a (.l [2,3] .z) (.a (.a (.v 2) (.v 3)) (.v 4)))))) (.a (.l [0] .z) (.a (.v 0) (.a (.v 1) (.a (.a (.l [2,3,1] .z) (.a (.v 2) (.v 3))) (.v 4))))) rfl) hp)
  refine Con.lax (dS (items:=G.tab) (Jcf w b1 b2 b3 rank es fr st its se ns G OL0 X) (fun l h=>by have:=(hb l h).1;exact lk this rfl) (Iter.dkeys it G.n2i G.ep' G.tab) ?_ ?_ G.tab.length 0 _ (by exact (P2 _).symm) ⟨F0,oS,[],e1,e2,e3,OL0,rfl,hF0,⟨(fun e he=>nomatch he),List.Pairwise.nil,(fun e he=>nomatch he),S0 _,?_⟩,hS0,hfl0,FrSame.refl hfl0⟩)
  · rintro i q hq v rfl L ⟨F1,oS1,S,f1,f2,f3,OL,rfl,hF1,ok,hS,hfl,hsm⟩ below ao
    obtain ⟨hbl,hfe⟩:=hb _ ao
    obtain ⟨sae,sep,ts,rfl⟩:=hS.shape
    have hk:q.1∈A.map (·.1):=by
      rw [←is.abs]
      have:=J1 hq
      obtain ⟨x,hx,rfl⟩:=E1.mp this
      exact E1.mpr ⟨_,E1.mpr ⟨x,hx,rfl⟩,rfl⟩
    refine Tr.asApp (a:= [iz 0]) (b:= [wh]) ?_
    by_cases hkS:q.1∈S
    · refine uU fr G.s G.n2i st its se ns q.1 q.2.1 sae sep ts S S.length hS (decide_eq_true hkS) hF1 (by exact lk hbl rfl) (F:= [(it,cW "dict_keyiterator" (.ref G.n2i) (i+1) G.tab.length G.ep'),(G.n2i,ak G.tab G.ep'),(st,lst (mY []) f1),(its,lst (lK []) f2),(ns,ak (jw 0 []) f3)]++(OL++([(G.s,aP bM G.d),(G.d,G.dict w)]++(bs G.nodes++b6 G.nodes++X)))) ?_ fun N tk F2 hF2=>.inr ⟨by simp,.inl ⟨.inr rfl,_,?_,F2,j4 sae sep ts,S,f1,f2,f3,OL,rfl,vN hF2,ok,hS,hfl,hsm⟩⟩
      · exact aO [_,_,_,_,_,_,_,_,_] [_,_,_,_] (.a (.l [0,1] .z) (.a (.l [2,3,4,5,6] .z) (.a (.v 0) (.a (.l [7,8] .z) (.a (.a (.v 1) (.v 2)) (.v 3)))))) (.a (.l [2,3] .z) (.a (.a (.l [0,4,5,1,6] .z) .z) (.a (.v 0) (.a (.l [7,8] .z) (.a (.a (.v 1) (.v 2)) (.v 3)))))) rfl
      · exact aO [_,_,_,_,_,_,_,_,_] [_,_,_,_] (.a (.l [0,1] .z) (.a (.l [2,3,4,5,6] .z) (.a (.v 0) (.a (.l [7,8] .z) (.a (.a (.v 1) (.v 2)) (.v 3)))))) (.a (.l [2,3] .z) (.a (.a (.l [0,4,5,1,6] .z) .z) (.a (.v 0) (.a (.l [7,8] .z) (.a (.a (.v 1) (.v 2)) (.v 3)))))) rfl
    · refine uV fr G.s G.n2i st its se ns q.1 q.2.1 sae sep ts S S.length hS (decide_eq_false hkS) hF1 (by exact lk hbl rfl) (F:= [(it,cW "dict_keyiterator" (.ref G.n2i) (i+1) G.tab.length G.ep'),(G.n2i,ak G.tab G.ep'),(st,lst (mY []) f1),(its,lst (lK []) f2),(ns,ak (jw 0 []) f3)]++(OL++([(G.s,aP bM G.d),(G.d,G.dict w)]++(bs G.nodes++b6 G.nodes++X)))) ?_ fun N tk F2 hF2=>.inl ⟨rfl,?_⟩
      · exact aO [_,_,_,_,_,_,_,_,_] [_,_,_,_] (.a (.l [0,1] .z) (.a (.l [2,3,4,5,6] .z) (.a (.v 0) (.a (.l [7,8] .z) (.a (.a (.v 1) (.v 2)) (.v 3)))))) (.a (.l [2,3] .z) (.a (.a (.l [0,4,5,1,6] .z) .z) (.a (.v 0) (.a (.l [7,8] .z) (.a (.a (.v 1) (.v 2)) (.v 3)))))) rfl
      · refine Tr.single (jk (bel:=fun l=>l.length≤75∧cX l=aA fr::es) (p8 is hc hG hin (X:= [(it,cW "dict_keyiterator" (.ref G.n2i) (i+1) G.tab.length G.ep')]++X) (OL0:=OL0) (fun l h=>h) ?_ (rW G [] S) _ ⟨F2,j4 sae sep ts,q.1,q.2.1,[],S,f1,f2,f3,OL,?_,hF2,ok,hS,hk,.inl ⟨rfl,hkS⟩,hfl,hsm,rfl⟩) fun p=>⟨by rw [J0];exact oM hbl rfl,by rw [iu rfl];exact hfe⟩)
        · intro F3 oS3 k3 t3 S3 g1 g2 g3 OL3 hF3 ok3 hS3 hfl3 hsm3
          refine ⟨.next,rfl,.inl ⟨.inl rfl,_,?_,F3,oS3,S3,g1,g2,g3,OL3,rfl,vN hF3,ok3,hS3,hfl3,hsm3⟩⟩
          exact aO [_,_,_,_,_,_,_,_,_] [_,_,_,_] (.a (.a (.l [0,1,2,3,4] .z) .z) (.a (.v 0) (.a (.a (.l [5,6,7] .z) (.a (.v 1) (.v 2))) (.a (.l [8] .z) (.v 3))))) (.a (.l [8,7] .z) (.a (.a (.l [0,1,2,3,4] .z) .z) (.a (.v 0) (.a (.l [5,6] .z) (.a (.a (.v 1) (.v 2)) (.v 3)))))) rfl
        · exact aO [_,_,_,_,_,_,_,_,_] [_,_,_,_] (.a (.l [0,1] .z) (.a (.l [2,3,4,5,6] .z) (.a (.v 0) (.a (.l [7,8] .z) (.a (.a (.v 1) (.v 2)) (.v 3)))))) (.a (.a (.l [0,4,5,1,6] .z) .z) (.a (.v 0) (.a (.a (.l [7,8,3] .z) (.a (.v 1) (.v 2))) (.a (.l [2] .z) (.v 3))))) rfl
  · rintro L ⟨F1,oS1,S,f1,f2,f3,OL,rfl,hF1,ok,hS,hfl,hsm⟩
    exact ⟨_,[(it,cW "dict_keyiterator" .none G.tab.length G.tab.length G.ep')]++dL fr st its se ns F1 oS1 [] f1 f2 f3,by exact aO [_,_,_,_] [_,_,_,_,_] (.a (.l [0,1] .z) (.a (.v 0) (.a (.v 1) (.a (.l [2,3] .z) (.a (.a (.v 2) (.v 3)) (.v 4)))))) (.a (.a (.v 1) (.a (.a (.l [2,3,1] .z) (.a (.v 2) (.v 3))) (.v 4))) (.a (.l [0] .z) (.v 0))) rfl,hQ OL hsm⟩
  · have:dZ (fun _=>1) [] G.nodes=G.nodes.length:=by
      unfold dZ
      have e:G.nodes.filter (fun x=>!decide (x.key∈([]:List Int)))=G.nodes:=J6.mpr fun x _=>by simp
      rw [e]
      induction G.nodes with
      | nil=>rfl
      | cons x l ih=>rw [H0,J3,ih,J0];lia
    rw [this];simp
set_option maxHeartbeats 4000000 in
theorem xS {es:List Env} {OL:af} (rank:Int→Nat) {G:So} {A:List AN} {c:Nat} (is:Is G A c) (hc:c≤800) (hA:∀a∈A,∀k∈a.2.2,rank k < rank a.1∧k∈A.map (·.1)) (hb:∀l,bel l→l.length≤50∧cX l=es) (hfl:FrLed es OL)
    (hp:(OL++(aU w G++F)).Perm M) (hQ:∀OL',FrSame OL OL'→Q (.ok (.ret .none)) (OL'++(aU w G++F))):Con w b1 b2 b3 bel (.call (.ref jd) ⟨[.ref G.s],[]⟩) M Q:=by
  have hb':∀l,bel l→l.length≤96:=fun l h=>by have:=(hb l h).1;exact lk this rfl
  have hnode:∀x∈G.nodes,(x.key,x.np,x.succ.map (·.1))∈A:=fun x hx=>by rw [←is.abs];exact E1.mpr ⟨x,hx,rfl⟩
  have hG:∀x∈G.nodes,∀q∈x.succ,rank q.1 < rank x.key:=fun x hx q hq=>(hA _ (hnode x hx) q.1 (X0 hq)).1
  have hin:∀x∈G.nodes,∀q∈x.succ,q.1∈A.map (·.1):=fun x hx q hq=>(hA _ (hnode x hx) q.1 (X0 hq)).2
  refine uT G.s hb' (F:=M) (E0 _) fun N tk F0 hN hF0=>?_
  generalize N+0=fr at *
  refine Con.func fun below ao=>?_
  obtain ⟨hbl,hfe⟩:=hb _ ao
  refine Tr.lax ?_
  refine Tr.app (a:= [bE 0,bE 1,bE 2,bE 3,bE 4]) (rest:= [xB,bE 6]) (y1 fr G.s G.d G.n2i G.t1 G.t2 G.t3 G.t4 G.ep (iv G.pas) (iv G.fin) G.rdy hF0 (by exact lk hbl rfl) (F:= [(G.n2i,ak G.tab G.ep')]++(OL++(bs G.nodes++b6 G.nodes++F))) ?_ fun N1 tk1 F1 hF1=>.inl ⟨rfl,?_⟩)
  · exact bk [_,_,_,_] [_,_,_,_,_] (.a (.l [3,0,1] .z) (.a (.l [2] .z) (.a (.v 0) (.a (.a (.v 1) (.v 2)) (.v 3))))) (.a (.l [3] .z) (.v 4)) (.a (.v 0) (.a (.a (.l [0,1,2] .z) (.a (.v 1) (.v 2))) (.v 3))) (.v 4) hp rfl
  refine Tr.cons ((?_:Tr _ _ _ _ _ (execs [xB] (aA fr)) _ _))
  refine Tr.single (xA (bel:=fun l=>l.length≤65∧cX l=aA fr::es) ?_ fun p=>⟨by rw [J0];exact oM hbl rfl,by rw [fY,hfe]⟩)
  refine xX fr G.s G.n2i (N1+0) (N1+1) (N1+2) (N1+3) (.inl hF1) (by exact lk hbl rfl) (F:= [(G.s,aP bM G.d),(G.d,G.dict w),(N1+0,lst [] 0),(N1+1,lst [] 0),(N1+2,j4 #[] 0 (SetTable.fresh 0 0 (!b3))),(N1+3,ak [] 0)]++([(G.n2i,ak G.tab G.ep')]++(OL++(bs G.nodes++b6 G.nodes++F)))) (by exact aO [_,_,_,_,_,_,_,_] [_,_,_,_] (.a (.l [0] .z) (.a (.l [1,2,3,4,5,6] .z) (.a (.l [7] .z) (.a (.v 0) (.a (.a (.v 1) (.v 2)) (.v 3)))))) (.a (.l [0,1,2,3,4,5,6] .z) (.a (.l [7] .z) (.a (.v 0) (.a (.a (.v 1) (.v 2)) (.v 3))))) rfl) fun N2 tk2 F2 hF2=>?_
  refine xY G.n2i G.tab G.ep' (by exact lk hbl rfl) (F:= [(fr,F2),(G.s,aP bM G.d),(G.d,G.dict w),(N1+0,lst [] 0),(N1+1,lst [] 0),(N1+2,j4 #[] 0 (SetTable.fresh 0 0 (!b3))),(N1+3,ak [] 0)]++(OL++(bs G.nodes++b6 G.nodes++F))) (by exact aO [_,_,_,_,_,_,_,_] [_,_,_,_] (.a (.l [0] .z) (.a (.l [1,2,3,4,5,6,7] .z) (.a (.v 0) (.a (.a (.v 1) (.v 2)) (.v 3))))) (.a (.l [1] .z) (.a (.l [2,3,4,5,6,7] .z) (.a (.l [0] .z) (.a (.v 0) (.a (.a (.v 1) (.v 2)) (.v 3)))))) rfl) fun N3 tk3=>?_
  refine uO (it:=N3+0) (es:=es) (fr:=fr) is hc hG hin (X:=F) (fun l h=>h) hfl hF2 (SetI.fresh b1 b2 b3 w (!b3)) (e1:=0) (e2:=0) (e3:=0) (st:=N1+0) (its:=N1+1) (se:=N1+2) (ns:=N1+3) ?_ fun OL' hsm=>⟨.next,rfl,.inl ⟨rfl,?_⟩⟩
  · exact aO [_,_,_,_,_,_,_,_,_] [_,_,_,_] (.a (.l [0] .z) (.a (.a (.l [1,2,3,4,5] .z) .z) (.a (.v 0) (.a (.a (.l [6,7,8] .z) (.a (.v 1) (.v 2))) (.v 3))))) (.a (.l [8,0] .z) (.a (.l [1,6,7,2,3,4,5] .z) (.a (.v 0) (.a (.a (.v 1) (.v 2)) (.v 3))))) rfl
  · exact xT fr (by exact lk hbl rfl) (F:=OL'++(aU w G++F)) (E0 _) fun N4 tk4=>bK (by exact aO [] [_,_,_] (.a .z (.a (.v 0) (.a (.v 1) (.v 2)))) (.a (.v 0) (.a (.v 1) (.v 2))) rfl) (hQ OL' hsm)
end
noncomputable def dJ (A:List AN):List Int:=(A.filter fun a=>a.2.1==0).map (·.1)
theorem oD {G:So} {A:List AN} {c:Nat} (is:Is G A c):(G.tab.filter fun q=>npOf A q.1==0).map (·.1)=dJ A:=by
  have key:∀l:List NI,(∀x∈l,x∈G.nodes)→((f6 l).filter fun q=>npOf A q.1==0).map (·.1)=((l.map fun x=>(x.key,x.np,x.succ.map (·.1))).filter fun a:AN=>a.2.1==0).map (·.1):=by
    intro l
    induction l with
    | nil=>intro _;rfl
    | cons x l ih=>
      intro h
      have hx:=is.npOf (h x (.head _))
      have ih:=ih fun y hy=>h y (.tail _ hy)
      show (((x.key,x.tk,Value.ref x.a)::f6 l).filter fun q=>npOf A q.1==0).map (·.1)=_
      rw [H0,W1,W1]
      dsimp only
      rw [hx]
      by_cases h0:x.np==0
      · rw [if_pos h0,if_pos h0,H0,H0,ih]
      · rw [if_neg h0,if_neg h0,ih]
  have:=key G.nodes fun x h=>h
  rw [am,this]
  unfold dJ
  rw [←is.abs];rfl
section
variable {w:World} {b1 b2 b3:Bool} {bel:ag→Prop} {F M:af} {Q:Result→af→Prop}
set_option maxHeartbeats 4000000 in
theorem tY {es:List Env} {OL:af} (rank:Int→Nat) {G:So} {A:List AN} {c:Nat} (is:Is G A c) (hr:G.rdy= .none) (hc:c≤800) (hA:∀a∈A,∀k∈a.2.2,rank k < rank a.1∧k∈A.map (·.1)) (hb:∀l,bel l→l.length≤40∧cX l=es) (hfl:FrLed es OL)
    (hp:(OL++(aU w G++F)).Perm M) (hQ:∀(OL':af) (G':So) (r er:Nat) (vs:List (Int × Nat)),FrSame OL OL'→G'.s=G.s→G'.rdy= .ref r→G'.pas=G.pas→G'.fin=G.fin→Is G' A c→vs.map (·.1)=dJ A→Q (.ok (.ret .none)) (OL'++([(r,lst (vs.map iv) er)]++(aU w G'++F)))):Con w b1 b2 b3 bel (.call (.ref i5) ⟨[.ref G.s],[]⟩) M Q:=by
  have hb':∀l,bel l→l.length≤96:=fun l h=>by have:=(hb l h).1;exact lk this rfl
  have hcn:G.nodes.length≤800:=M0 is.bd.1 hc
  have htl:G.tab.length=G.nodes.length:=B0 _
  refine tZ G.s hb' (F:=M) (E0 _) fun N tk F0 hN hF0=>?_
  generalize N+0=fr at *
  refine Con.func fun below ao=>?_
  obtain ⟨hbl,hfe⟩:=hb _ ao
  refine Tr.lax ?_
  refine Tr.cons (wU fr G.s G.d G.n2i G.t1 G.t2 G.t3 G.t4 G.ep (iv G.pas) (iv G.fin) hF0 (by exact lk hbl rfl) (F:= [(G.n2i,ak G.tab G.ep')]++(OL++(bs G.nodes++b6 G.nodes++F))) ?_ fun N1 tk1 F1 hF1=>.inl ⟨rfl,?_⟩)
  · exact bk [_,_,_,_,_] [_,_,_,_,_] (.a (.l [3,0,4] .z) (.a (.l [2] .z) (.a (.v 0) (.a (.a (.v 1) (.v 2)) (.v 3))))) (.a (.l [3] .z) (.v 4)) (.a (.a (.v 0) (.a (.a (.l [0,1,2] .z) (.a (.v 1) (.v 2))) (.v 3))) (.l [4] .z)) (.a (.v 4) (.l [1] .z)) ((hp.append ((pe (by simp only [hr,iv,am,aU,cD,So.dict,NI.obj,NI.lst,Q0,A0,H0,P0]))))) rfl
  refine Tr.cons (wT fr G.s G.d G.n2i G.t1 G.t2 G.t3 G.t4 G.ep (iv G.pas) (iv G.fin) G.tab G.ep' hF1 (by exact lk hbl rfl) (bel':=fun l=>l.length≤96) (fun l hl=>by exact eA hl hbl rfl) (F:=OL++(bs G.nodes++b6 G.nodes++F)) (by exact aO [_,_,_,_] [_,_,_,_] (.a (.l [0,1,2,3] .z) (.a (.v 0) (.a (.a (.v 1) (.v 2)) (.v 3)))) (.a (.l [0,1,2] .z) (.a (.l [3] .z) (.a (.v 0) (.a (.a (.v 1) (.v 2)) (.v 3))))) rfl) fun N2 tk2 F2 D0 hN2 hF2 ip=>?_)
  refine jX (lc:=N2+3) (R:= [(fr,F2),(G.s,aP bM G.d),(G.d,aB w.2 G.t1 G.t2 G.t3 G.t4 G.n2i .none (iv G.pas) (iv G.fin) G.ep)]++(OL++(bs G.nodes++b6 G.nodes++F))) (fun q:Int × Nat × Value=>npOf A q.1==0) (fun q y=>∃t,y= .int q.1 t) (fun D=>bx w.2 [] [[sy]] D) ip (fun l h=>h) (by rw [htl];exact lk hcn rfl) (Iter.dvals (N2+1) G.n2i G.ep' G.tab) ?_ ?_ ?_
  · rintro i q hq v rfl D hD c' below2 hbl2
    have hq':=J1 hq
    obtain ⟨x,hx,rfl⟩:=E1.mp hq'
    have hnp:=is.npOf hx
    obtain ⟨R,hR,_⟩:=dC hx is.keys
    refine wP fr (N2+3) x.a x.d x.key x.tk x.np x.npt x.sl (npOf A x.key==0) (by rw [hnp]) hD hbl2 (F:= [(N2+1,cW "dict_valueiterator" (.ref G.n2i) (i+1) G.tab.length G.ep'),(G.n2i,ak G.tab G.ep'),(fr,F2),(G.s,aP bM G.d),(G.d,aB w.2 G.t1 G.t2 G.t3 G.t4 G.n2i .none (iv G.pas) (iv G.fin) G.ep)]++(OL++(R++b6 G.nodes++F))) ?_ fun N3 tk3 D1 aQ=>⟨rfl,?_⟩
    · exact bk [_,_,_,_,_,_,_] [_,_,_,_,_] (.a (.l [1,0] .z) (.a (.l [2,3,4,5,6] .z) (.a (.v 2) (.a (.a (.v 1) (.v 3)) (.v 4))))) (.a (.l [2,3] .z) (.l [1] (.a (.l [4,5,6] .z) (.a (.v 2) (.a (.a (.v 0) (.v 3)) (.v 4)))))) (.l [0] (.v 1)) (.v 0) (hR.symm) rfl
    · split
      · refine wQ fr (N2+3) x.a x.d x.key x.tk x.np x.npt x.sl aQ hbl2 (F:= [(N2+1,cW "dict_valueiterator" (.ref G.n2i) (i+1) G.tab.length G.ep'),(G.n2i,ak G.tab G.ep'),(fr,F2),(G.s,aP bM G.d),(G.d,aB w.2 G.t1 G.t2 G.t3 G.t4 G.n2i .none (iv G.pas) (iv G.fin) G.ep)]++(OL++(R++b6 G.nodes++F))) (E0 _) fun N4 tk4 D2 gT=>⟨⟨_,rfl⟩,D2,gT,?_⟩
        exact bk [_,_,_,_,_,_,_] [_,_,_,_,_] (.a (.l [1,0] .z) (.a (.l [2,3,4,5,6] .z) (.a (.v 2) (.a (.a (.v 1) (.v 3)) (.v 4))))) (.a (.l [2,3] .z) (.l [1] (.a (.l [4,5,6] .z) (.a (.v 2) (.a (.a (.v 0) (.v 3)) (.v 4)))))) (.l [0] (.v 1)) (.v 0) (hR.symm) rfl
      · refine ⟨D1,.inr ⟨_,aQ⟩,?_⟩
        exact bk [_,_,_,_,_,_,_] [_,_,_,_,_] (.a (.l [1,0] .z) (.a (.l [2,3,4,5,6] .z) (.a (.v 2) (.a (.a (.v 1) (.v 3)) (.v 4))))) (.a (.l [2,3] .z) (.l [1] (.a (.l [4,5,6] .z) (.a (.v 2) (.a (.a (.v 0) (.v 3)) (.v 4)))))) (.l [0] (.v 1)) (.v 0) (hR.symm) rfl
  · exact bk [_,_,_,_,_,_,_,_] [_,_,_,_] (.l [0] (.a (.l [1,2] .z) (.l [3] (.a (.l [4,5,6] .z) (.a (.v 0) (.a (.a (.v 1) (.v 2)) (.v 3))))))) (.a (.l [4,5,6,2,7,0,3] .z) (.a (.v 0) (.a (.a (.v 1) (.v 2)) (.v 3)))) (.l [1] .z) (.l [7] .z) ((pe (by simp only [B0]))) rfl
  · intro vs ep D hD ha
    obtain ⟨ps,rfl,hps⟩:=All2.ints ha
    rw [oD is] at hps
    refine ⟨D,F2,(N2+2,lst (ps.map iv) ep)::([(N2+1,cW "dict_valueiterator" .none G.tab.length G.tab.length G.ep'),(G.n2i,ak G.tab G.ep')]++(OL++(bs G.nodes++b6 G.nodes++F))),rfl,hD,hF2,by exact aO [_,_,_,_,_,_,_] [_,_,_,_] (.a (.l [0,1,2,3] .z) (.l [4] (.a (.l [5,6] .z) (.a (.v 0) (.a (.a (.v 1) (.v 2)) (.v 3)))))) (.l [4] (.a (.l [5,6] .z) (.l [0] (.a (.l [1,2,3] .z) (.a (.v 0) (.a (.a (.v 1) (.v 2)) (.v 3))))))) rfl,fun N3 tk3 F3 hF3=>.inl ⟨rfl,?_⟩⟩
    obtain ⟨es3,fe3,sl3,rfl⟩:=FrO.shape hF3
    have henv:dH (cH fr) fr:=⟨rfl,by kernel_rfl!,by kernel_rfl!,by kernel_rfl!⟩
    refine Tr.cons (wS fr (N2+2) G.s G.d G.n2i G.t1 G.t2 G.t3 G.t4 G.ep (iv G.pas) (iv G.fin) hF3 (by exact lk hbl rfl) (bel':=fun l=>l.length≤50∧cX l=cH fr::es) (fun q=>⟨by rw [J0];exact oM hbl rfl,by rw [fY,hfe]⟩) (F:= [(N2+2,lst (ps.map iv) ep),(G.n2i,ak G.tab G.ep')]++(OL++(bs G.nodes++b6 G.nodes++([(N2+1,cW "dict_valueiterator" .none G.tab.length G.tab.length G.ep')]++F)))) (by exact aO [_,_,_,_,_,_] [_,_,_,_] (.a (.l [0,1,2] .z) (.a (.l [3,4] .z) (.a (.v 0) (.a (.a (.v 1) (.v 2)) (.a (.l [5] .z) (.v 3)))))) (.a (.l [0,1,2] .z) (.l [3] (.a (.l [5,4] .z) (.a (.v 0) (.a (.a (.v 1) (.v 2)) (.v 3)))))) rfl) fun N4 tk4 F4 hN4 hF4=>?_)
    obtain ⟨es4,fe4,sl4,rfl⟩:=FrO.shape hF4
    refine xS (es:=cH fr::es) (OL:=(fr,gA es4 fe4 sl4)::OL) rank (G:={G with rdy:=.ref (N2+2)}) (A:=A) (c:=c) ⟨is.abs,is.keys,is.bd⟩ hc hA (fun l h=>h) ⟨fr,es4,fe4,sl4,OL,henv,rfl,hfl⟩ (F:= [(N2+2,lst (ps.map iv) ep)]++([(N2+1,cW "dict_valueiterator" .none G.tab.length G.tab.length G.ep')]++F)) (by exact aO [_,_,_,_,_,_] [_,_,_,_] (.a (.l [0] (.v 0)) (.a (.a (.l [1,2,3] .z) (.a (.v 1) (.v 2))) (.a (.l [4] .z) (.a (.l [5] .z) (.v 3))))) (.a (.l [0,1,2] .z) (.a (.l [4,3] .z) (.a (.v 0) (.a (.a (.v 1) (.v 2)) (.a (.l [5] .z) (.v 3)))))) rfl) ?_
    rintro OL2 ⟨es5,fe5,sl5,sl5',OL3,e5,rfl,hsm⟩
    injection e5 with _ _ e5 _
    injection e5 with e5 e6
    injection e5 with e5
    subst e5 e6
    refine ⟨gA es4 fe4 sl5',OL3++(aU w {G with rdy:=.ref (N2+2)}++([(N2+2,lst (ps.map iv) ep)]++([(N2+1,cW "dict_valueiterator" .none G.tab.length G.tab.length G.ep')]++F))),rfl,FrO.same hF4,by exact aO [_,_,_] [_,_,_] (.a (.l [0] .z) (.a (.v 0) (.a (.v 1) (.a (.l [1] .z) (.a (.l [2] .z) (.v 2)))))) (.a (.l [0] (.v 0)) (.a (.v 1) (.a (.l [1] .z) (.a (.l [2] .z) (.v 2))))) rfl,fun N5 tk5 F5 hF5=>.inl ⟨rfl,?_⟩⟩
    refine wR fr G.s hF5 (by exact lk hbl rfl) (F:=OL3++(aU w {G with rdy:=.ref (N2+2)}++([(N2+2,lst (ps.map iv) ep)]++([(N2+1,cW "dict_valueiterator" .none G.tab.length G.tab.length G.ep')]++F)))) (E0 _) fun N6 tk6 F6 hF6=>?_
    refine ⟨_,[(fr,F6),(N2+1,cW "dict_valueiterator" .none G.tab.length G.tab.length G.ep')],?_,hQ OL3 {G with rdy:=.ref (N2+2)} (N2+2) ep ps hsm rfl rfl rfl rfl ⟨is.abs,is.keys,is.bd⟩ hps⟩
    exact aO [_,_,_] [_,_,_] (.a (.l [0] .z) (.a (.v 0) (.a (.v 1) (.a (.l [1] .z) (.a (.l [2] .z) (.v 2)))))) (.a (.a (.v 0) (.a (.l [1] .z) (.a (.v 1) (.v 2)))) (.l [0,2] .z)) rfl
end
section
variable {α:Type} {w:World} {b1 b2 b3:Bool} {c:Code} {below:ag} {L M F:af} {Γ:Ctx}
theorem l8:∀l:List (Code × Pos),unitsOf l≤10 * l.length:=by
  intro l
  induction l with
  | nil=>exact S0 _
  | cons x l ih=>
    obtain ⟨c,q⟩:=x
    rw [unitsOf_cons,J0]
    have:c.cUnits≤10:=by
      have hf:=eV c
      cases c<;>(unfold Code.cUnits;dsimp only;(first | decide | exact K5 _ _ | lia))
    lia
theorem mQ (c:Code):c.cUnits≤10:=by
  have hf:=eV c
  cases c<;>(unfold Code.cUnits;dsimp only;(first | decide | exact K5 _ _ | lia))
theorem Tr.any {m:Sem α} {Q:α→af→Prop} (hb:below.length≤150) (h:∀(A:Around) (s:Shared),A.handled=none→A.units≤1520→St w s L→wpAny (model pw (W3 w b1 b2 b3)) A m (fun a s'=>∃L',To w s s' L L'∧Q a L') (fun _ _=>False) s):Tr w b1 b2 b3 (cx c below) m L Q:=by
  intro s hs p
  have hu:(cx c below).units≤1520:=by
    have h1:=l8 below
    have h2:=mQ c
    show c.cUnits+unitsOf below≤1520
    lia
  exact h ⟨none,frameCount below+c.weight,none,none,(cx c below).units⟩ s rfl hu hs (cx c below) p ⟨rfl,S0 _,fun _ x=>(nomatch x),fun _ x=>(nomatch x),S0 _⟩
noncomputable def Rd (w:World) (L:af) (v:Value) (d:PyData):Prop:=∀s,St w s L→∃as,Reads s.heap v d as
noncomputable def RdAll (w:World) (L:af) (vs:List Value) (ds:List PyData):Prop:=∀s,St w s L→∃as,ReadsAll s.heap vs ds as
theorem RdAll.nil:RdAll w L [] []:=fun _ _=>⟨_,.nil⟩
theorem RdAll.cons {v:Value} {vs:List Value} {d:PyData} {ds:List PyData} (h:Rd w L v d) (h2:RdAll w L vs ds):RdAll w L (v::vs) (d::ds):=fun s hs=>let ⟨_,a⟩:=h s hs;let ⟨_,b⟩:=h2 s hs;⟨_,.cons a b⟩
theorem Rd.int (i:Int) (t:Nat):Rd w L (.int i t) (.int i):=fun _ _=>⟨_,.int i t⟩
theorem Rd.str (x:PySem.Str) (t:Nat):Rd w L (.str x t) (.str x):=fun _ _=>⟨_,.str x t⟩
theorem Rd.tuple {a:Nat} {vs:List Value} {ds:List PyData} (h:(a,aS vs)∈L) (hr:RdAll w L vs ds):Rd w L (.ref a) (.tuple ds):=fun s hs=>let ⟨_,b⟩:=hr s hs;⟨_,.tuple (Led.iff.mp hs.led _ h) rfl rfl b⟩
theorem Rd.list {a n:Nat} {vs:List Value} {ds:List PyData} (h:(a,lst vs n)∈L) (hr:RdAll w L vs ds):Rd w L (.ref a) (.list ds):=fun s hs=>let ⟨_,b⟩:=hr s hs;⟨_,.list (Led.iff.mp hs.led _ h) rfl rfl b⟩
theorem Rd.perm {v:Value} {d:PyData} (h:Rd w L v d) (hp:L.Perm M):Rd w M v d:=fun s hs=>h s (hs.perm hp.symm)
theorem Rd.sub {v:Value} {d:PyData} (h:Rd w L v d) (hp:L.Sublist M):Rd w M v d:=fun s hs=>h s (hs.sub hp)
theorem RdAll.ints:∀ps:List (Int × Nat),RdAll w L (ps.map iv) (ps.map fun q=>PyData.int q.1)
  | []=>.nil
  | q::l=>.cons (.int q.1 q.2) (RdAll.ints l)
theorem mN {a b:Value} {da db:PyData} {Q:Value→af→Prop} (hb:below.length≤150) (ha:Rd w L a da) (hb':Rd w L b db) (h1:da.canLay0=true) (h2:db.canLay0=true) (hd:min da.depth db.depth≤1000) (h:Q (.bool (M5 da db)) L):Tr w b1 b2 b3 (cx c below) (compareOp .Eq a b) L Q:=
  Tr.any hb fun A s _ hu hs=>by
    obtain ⟨_,ra⟩:=ha s hs
    obtain ⟨_,rb⟩:=hb' s hs
    exact SeqAt.rcAt_reads ra rb h1 h2 (by unfold cLine;lia) _ _ _ _ ⟨L,.refl hs,h⟩
theorem rm {a b:Value} {da db:PyData} {Q:Value→af→Prop} (hb:below.length≤150) (ha:Rd w L a da) (hb':Rd w L b db) (h1:da.canLay0=true) (h2:db.canLay0=true) (hd:min da.depth db.depth≤1000) (h:Q (.bool (!PyData.eqv da db)) L):Tr w b1 b2 b3 (cx c below) (compareOp .NotEq a b) L Q:=
  Tr.any hb fun A s _ hu hs=>by
    obtain ⟨_,ra⟩:=ha s hs
    obtain ⟨_,rb⟩:=hb' s hs
    exact SeqAt.rcNeAt_reads ra rb h1 h2 (by unfold cLine;lia) _ _ _ _ ⟨L,.refl hs,h⟩
theorem Tr.release {vs keep:List Value} {Q:Unit→af→Prop} (h:Q () L):Tr w b1 b2 b3 Γ (release vs keep) L Q:=fun s hs p=>by
  rw [Sem.wp_release];exact ⟨L,.refl hs,h⟩
theorem Tr.operate {m:Sem Value} {vs:List Value} {Q:Value→af→Prop} (h:Tr w b1 b2 b3 Γ m L Q):Tr w b1 b2 b3 Γ (operate vs m) L Q:=
  Tr.bind ((Tr.holding h).mono fun v L' q=>Tr.bind (Tr.release (Tr.pure q)))
theorem gm {l r:Expr} {op:CmpOp} {pos:Pos} {env:Env} {Q:Bool→af→Prop} (hm:behindInMarks op r=false)
    (h:Tr w b1 b2 b3 Γ (eval l env) L fun a L1=>Tr w b1 b2 b3 Γ (eval r env) L1 fun b L2=>Tr w b1 b2 b3 Γ (compareOp op a b) L2 fun v L3=>∃β,v= .bool β∧Q β L3):Tr w b1 b2 b3 Γ (isTrue (.Compare l [op] [r] pos) env (eval (.Compare l [op] [r] pos) env)) L Q:=by
  rw [PySem.isTrue_Compare1,PySem.markedBehindIn_of_false hm]
  refine Tr.bind (h.mono fun a L1 h=>Tr.bind (Tr.holding (h.mono fun b L2 h=>Tr.bind (Tr.standAt (Tr.bind (Tr.operate (h.mono ?_)))))))
  rintro v L3 ⟨β,rfl,q⟩
  exact Tr.holding (Tr.pure q)
theorem jI {l r:Expr} {op:CmpOp} {pos:Pos} {env:Env} {Q:Value→af→Prop} (hm:behindInMarks op r=false)
    (h:Tr w b1 b2 b3 Γ (eval l env) L fun a L1=>Tr w b1 b2 b3 Γ (eval r env) L1 fun b L2=>Tr w b1 b2 b3 Γ (compareOp op a b) L2 Q):Tr w b1 b2 b3 Γ (eval (.Compare l [op] [r] pos) env) L Q:=by
  rw [PySem.eval_Compare1,PySem.markedBehindIn_of_false hm]
  exact Tr.bind (h.mono fun a L1 h=>Tr.bind (Tr.holding (h.mono fun b L2 h=>Tr.bind (Tr.standAt (Tr.operate h)))))
theorem wE {e:Expr} {pos:Pos} {env:Env} {Q:Flow→af→Prop} (h:Tr w b1 b2 b3 Γ (eval e env) L fun v L1=>Q (.ret v) L1):Tr w b1 b2 b3 Γ (exec (.Return (some e) pos) env) L Q:=by
  rw [PySem.exec_Return_some]
  exact Tr.bind (Tr.standAt (Tr.bind (h.mono fun v L1 h=>Tr.pure h)))
end
open PySem.Builtin PySem.Builtin.Str
noncomputable abbrev inl (s:Scope):Scope:={s with names:=s.names.map fun q=>(q.1,match q.2 with | .free=>.cell | k=>k)}
noncomputable abbrev ac (v:Value):Obj:=⟨.type "cell",none,.cell (some v),#[]⟩
noncomputable abbrev wn (l u:Value):Obj:=⟨.type "slice",none,.fields ⟨[l,u,.none]⟩,#[]⟩
noncomputable abbrev rZ (x y:PySem.Str) (t u:Nat) (β:Bool):bX:={code:=.call (.builtin "str.__eq__") ⟨[.str x t,.str y u],[]⟩,need:= [],res:=.ok (.ret (.bool β))}
noncomputable abbrev n6 (x y:PySem.Str) (t u:Nat) (β:Bool):bX:={code:=.call (.builtin "str.__ne__") ⟨[.str x t,.str y u],[]⟩,need:= [],res:=.ok (.ret (.bool β))}
noncomputable abbrev yE (x y:PySem.Str) (t u:Nat) (β:Bool):bX:={code:=.call (.builtin "str.startswith") ⟨[.str x t,.str y u],[]⟩,need:= [],res:=.ok (.ret (.bool β))}
noncomputable abbrev nI (x y:PySem.Str) (t u z:Nat):bX:={code:=.call (.builtin "str.__add__") ⟨[.str x t,.str y u],[]⟩,need:= [],res:=.ok (.ret (.str (x++y) z)),toks:=1,tk:=some z}
noncomputable abbrev eZ (x y:PySem.Str) (t u:Nat) (v:Value):bX:={code:=.call (.builtin "str.__add__") ⟨[.str x t,.str y u],[]⟩,need:= [],res:=.ok (.ret v)}
noncomputable abbrev pO (x:PySem.Str) (t z:Nat) (n:Int):bX:={code:=.call (.builtin "len") ⟨[.str x t],[]⟩,need:= [],res:=.ok (.ret (.int n (z+1))),toks:=2,tk:=some z}
noncomputable abbrev pQ (x:PySem.Str) (t:Nat) (k:Int) (u z:Nat) (c:PySem.Str):bX:={code:=.call (.builtin "str.__getitem__") ⟨[.str x t,.int k u],[]⟩,need:= [],res:=.ok (.ret (.str c z)),toks:=1,tk:=some z}
noncomputable abbrev jf (j a:Nat) (x:PySem.Str) (t:Nat) (l u:Value) (z:Nat) (c:PySem.Str):bX:={code:=.call (.builtin "str.__getitem__") ⟨[.str x t,.ref a],[]⟩,need:= [(j,wn l u)],res:=.ok (.ret (.str c z)),toks:=1,tk:=some z}
noncomputable abbrev gk (j a:Nat) (x:PySem.Str) (t:Nat) (l u:Value):bX:={code:=.call (.builtin "str.__getitem__") ⟨[.str x t,.ref a],[]⟩,need:= [(j,wn l u)],res:=.ok (.ret (.str x t))}
noncomputable abbrev lL (j a:Nat) (s:PySem.Str) (t:Nat) (l:List (PySem.Str × Nat)) (ep z:Nat) (c:PySem.Str):bX:={code:=.call (.builtin "str.join") ⟨[.str s t,.ref a],[]⟩,need:= [(j,lst (l.map fun p=>.str p.1 p.2) ep)],res:=.ok (.ret (.str c z)),toks:=1,tk:=some z}
noncomputable abbrev jg (j a:Nat) (s:PySem.Str) (t:Nat) (l:List (PySem.Str × Nat)) (ep:Nat) (v:Value):bX:={code:=.call (.builtin "str.join") ⟨[.str s t,.ref a],[]⟩,need:= [(j,lst (l.map fun p=>.str p.1 p.2) ep)],res:=.ok (.ret v)}
noncomputable abbrev ji (j m a b:Nat) (l r:List Value) (n n2 z:Nat):bX:={code:=.call (.builtin "list.__add__") ⟨[.ref a,.ref b],[]⟩,need:= [(j,lst l n),(m,lst r n2)],news:= [lst (l++r) 0],res:=.ok (.ret (.ref z)),sz:=some z}
noncomputable abbrev jh (j a:Nat) (x y left:Int) (t u v z:Nat):bX:={code:=.call (.builtin "range.__iter__") ⟨[.ref a],[]⟩,need:= [(j,⟨.type "range",none,.fields ⟨[.int x t,.int y u,.int 1 v]⟩,#[]⟩)],news:= [cN x left],res:=.ok (.ret (.ref z)),sz:=some z}
noncomputable abbrev lM (a b:Int) (t u z:Nat) (r:Int):bX:={code:=.call (.builtin "int.__add__") ⟨[.int a t,.int b u],[]⟩,need:= [],res:=.ok (.ret (.int r z)),toks:=1,tk:=some z}
theorem dU {P:Pm} (a b:Int) (t u z:Nat) (r:Int) (hr:a+b=r):aC P (lM a b t u z r):=by rw [←hr];exact cU a b t u z
theorem kB (x y:PySem.Str):(x.cps.toList==y.cps.toList)=decide (x=y):=by
  rw [C6,beq_iff_eq,decide_eq_true_iff]
  refine ⟨fun h=>?_,fun h=>by rw [h]⟩
  cases x;cases y
  congr 1
  exact Z5 h
theorem h9 {P:Pm} {id:String} {name:PySem.Str} {B:Builtin} (slot:Slot "str" name id) (entry:entryFor table id=some B) (x:PySem.Str) (t:Nat) (b v:Value) (args:argsOk id ⟨[.str x t,b],[]⟩) (g:Gives (B ⟨[.str x t,b],[]⟩) (.val v)):
    aC P {code:=.call (.builtin id) ⟨[.str x t,b],[]⟩,need:= [],res:=.ok (.ret v)}:=by
  refine az fun A s _ _ hn _ _ htk=>?_
  exact fs slot (typeIs_str s x t) entry args g ⟨rfl,_,rfl,aG rfl rfl⟩
theorem mB {P:Pm} {id:String} {name:PySem.Str} {B:Builtin} (slot:Slot "str" name id) (entry:entryFor table id=some B) (x c:PySem.Str) (t z:Nat) (b:Value) (args:argsOk id ⟨[.str x t,b],[]⟩) (hc:c.length≤sizeLine) (g:Gives (B ⟨[.str x t,b],[]⟩) (.str c)):
    aC P {code:=.call (.builtin id) ⟨[.str x t,b],[]⟩,need:= [],res:=.ok (.ret (.str c z)),toks:=1,tk:=some z}:=by
  refine az fun A s _ _ hn _ _ htk=>?_
  have htk:=htk z rfl
  subst htk
  exact fs slot (typeIs_str s x t) entry args g ⟨hc,rfl,_,rfl,aG rfl rfl⟩
theorem gC {P:Pm} (x y:PySem.Str) (t u:Nat) (β:Bool) (h:decide (x=y)=β):aC P (rZ x y t u β):=
  h9 F.slot_str_eq F.entry_str_eq x t _ _ (F.args_str_eq_2 _ _) (by rw [←h,←kB];exact gives_str_eq x y t u)
theorem dn {P:Pm} (x y:PySem.Str) (t u:Nat) (β:Bool) (h:(!decide (x=y))=β):aC P (n6 x y t u β):=
  h9 F.slot_str_ne F.entry_str_ne x t _ _ (F.args_str_ne_2 _ _) (by rw [←h,←kB];exact gives_str_ne x y t u)
theorem jM {P:Pm} (x y:PySem.Str) (t u:Nat) (β:Bool) (h:(decide (0+y.length≤x.length) && subAt x y 0)=β):aC P (yE x y t u β):=
  h9 F.slot_str_startswith F.entry_str_startswith x t _ _ (F.args_str_startswith_2 _ _) (by rw [←h];exact gives_str_startswith x y t u)
theorem fJ {P:Pm} (x y:PySem.Str) (t u z:Nat) (hx:(x.length==0)=false) (hy:(y.length==0)=false) (hl:(x++y).length≤1000):aC P (nI x y t u z):=
  mB F.slot_str_add F.entry_str_add x _ t z _ (F.args_str_add_2 _ _) (by unfold sizeLine;exact lk hl rfl) (by have:=gives_str_add x y t u;rw [hx,hy] at this;exact this)
theorem d9 {P:Pm} (x y:PySem.Str) (t u:Nat) (hx:(x.length==0)=true):aC P (eZ x y t u (.str y u)):=
  h9 F.slot_str_add F.entry_str_add x t _ _ (F.args_str_add_2 _ _) (by have:=gives_str_add x y t u;rw [hx] at this;exact this)
theorem h8 {P:Pm} (x y:PySem.Str) (t u:Nat) (hx:(x.length==0)=false) (hy:(y.length==0)=true):aC P (eZ x y t u (.str x t)):=
  h9 F.slot_str_add F.entry_str_add x t _ _ (F.args_str_add_2 _ _) (by have:=gives_str_add x y t u;rw [hx,hy] at this;exact this)
theorem iP {P:Pm} (x:PySem.Str) (t:Nat) (k:Int) (u z c:Nat) (h0:0≤k) (h1:k < 2 ^ 63) (hc:(seqIndex? k x.length).bind (x.cps[·]?)=some c):aC P (pQ x t k u z ⟨#[c]⟩):=
  mB F.slot_str_getitem F.entry_str_getitem x _ t z _ (F.args_str_getitem_2 _ _) (show 1≤sizeLine by decide) (gives_str_getitem x k t u c (by rw [Bool.or_eq_false_iff];constructor<;>(rw [decide_eq_false_iff_not];lia)) hc)
theorem iO {P:Pm} (x:PySem.Str) (t z:Nat) (n:Int) (hn:(x.length:Int)=n) (hl:x.length≤1000):aC P (pO x t z n):=by
  refine az fun A s _ _ _ _ _ htk=>?_
  have htk:=htk z rfl
  subst htk
  exact jY (n:=n) (typeIs_str s x t) F.slot_str_len F.entry_str_len (F.args_str_len_1 _) (gives_str_len x t).meets (fun A' R' h=>by rw [hn];exact h) (by lia) (by lia) ⟨rfl,_,rfl,aG rfl rfl⟩
theorem ck {P:Pm} {j a:Nat} (x:PySem.Str) (t:Nat) (l u:Option (Int × Nat)) (z:Nat) (c:PySem.Str) (hm:sliceMade x t l u none= .str c) (hc:c.length≤1000) (hj:P.adr j=a:=by rfl):aC P (jf j a x t (partValue l) (partValue u) z c):=by
  refine az fun A s _ _ hn _ _ htk=>?_
  have htk:=htk z rfl
  subst htk
  have ho:s.heap.get? a=some (wn (partValue l) (partValue u)):=by have:=hn _ (.head _);rw [hj] at this;exact this
  refine b0 F.slot_str_getitem (typeIs_str s x t) F.entry_str_getitem (F.args_str_getitem_2 _ _) ((meets_str_getitem_slice x t a l u none rfl).inModel _ _) ⟨⟨_,ho,rfl,rfl⟩,?_⟩
  rw [hm]
  exact ⟨by unfold sizeLine;exact lk hc rfl,rfl,_,rfl,aG rfl rfl⟩
theorem c5 {P:Pm} {j a:Nat} (x:PySem.Str) (t:Nat) (l u:Option (Int × Nat)) (hm:sliceMade x t l u none= .val (.str x t)) (hj:P.adr j=a:=by rfl):aC P (gk j a x t (partValue l) (partValue u)):=by
  refine az fun A s _ _ hn _ _ htk=>?_
  have ho:s.heap.get? a=some (wn (partValue l) (partValue u)):=by have:=hn _ (.head _);rw [hj] at this;exact this
  refine b0 F.slot_str_getitem (typeIs_str s x t) F.entry_str_getitem (F.args_str_getitem_2 _ _) ((meets_str_getitem_slice x t a l u none rfl).inModel _ _) ⟨⟨_,ho,rfl,rfl⟩,?_⟩
  rw [hm]
  exact ⟨rfl,_,rfl,aG rfl rfl⟩
theorem mD {P:Pm} {j a:Nat} (s0:PySem.Str) (t:Nat) (l:List (PySem.Str × Nat)) (ep z:Nat) (c:PySem.Str) (hl:tooLong ((l.map (·.1)).toArray.foldl (·+·.length+s0.length) 0)=false) (hm:joinMade s0 l= .str c) (hc:c.length≤1000) (hj:P.adr j=a:=by rfl):aC P (lL j a s0 t l ep z c):=by
  refine az fun A s _ _ hn _ _ htk=>?_
  have htk:=htk z rfl
  subst htk
  have ho:s.heap.get? a=some (lst (l.map fun p=>.str p.1 p.2) ep):=by have:=hn _ (.head _);rw [hj] at this;exact this
  refine b0 F.slot_str_join (typeIs_str s s0 t) F.entry_str_join (F.args_str_join_2 _ _) ((meets_str_join_list s0 t a l hl).inModel _ _) ⟨⟨_,ho,rfl,_,rfl⟩,?_⟩
  rw [hm]
  exact ⟨by unfold sizeLine;exact lk hc rfl,rfl,_,rfl,aG rfl rfl⟩
theorem kO {P:Pm} {j a:Nat} (s0:PySem.Str) (t:Nat) (p:PySem.Str × Nat) (ep:Nat) (hl:p.1.length≤1000∧s0.length≤1000) (hj:P.adr j=a:=by rfl):aC P (jg j a s0 t [p] ep (.str p.1 p.2)):=by
  refine az fun A s _ _ hn _ _ htk=>?_
  have ho:s.heap.get? a=some (lst ([p].map fun p=>.str p.1 p.2) ep):=by have:=hn _ (.head _);rw [hj] at this;exact this
  refine b0 F.slot_str_join (typeIs_str s s0 t) F.entry_str_join (F.args_str_join_2 _ _) ((meets_str_join_list s0 t a [p] (by
    show tooLong (0+p.1.length+s0.length)=false
    unfold tooLong sizeLine
    rw [decide_eq_false_iff_not];lia)).inModel _ _) ⟨⟨_,ho,rfl,_,rfl⟩,?_⟩
  exact ⟨rfl,_,rfl,aG rfl rfl⟩
theorem b9 {P:Pm} {j a:Nat} (x y left:Int) (t u v z:Nat) (hx:0≤x∧x≤1000) (hy:0≤y∧y≤1000) (hl:left=if x < y then y - x else 0) (hj:P.adr j=a:=by rfl):aC P (jh j a x y left t u v z):=by
  refine az fun A s _ _ hn _ hz _=>?_
  have hz:=hz z rfl
  subst hz
  have ho:s.heap.get? a=some ⟨.type "range",none,.fields ⟨[.int x t,.int y u,.int 1 v]⟩,#[]⟩:=by have:=hn _ (.head _);rw [hj] at this;exact this
  have hs:Builtin.Range.rangeSize x y 1=left:=by
    unfold Builtin.Range.rangeSize
    rw [hl]
    simp
  have hf:∀k:Int,-10≤k→k≤3000→Builtin.Range.rangeFitsLong k=true:=by
    intro k h1 h2
    unfold Builtin.Range.rangeFitsLong
    simp
    constructor<;>lia
  have hc:(Builtin.Range.rangeFitsLong x && Builtin.Range.rangeFitsLong y && Builtin.Range.rangeFitsLong 1 && Builtin.Range.rangeFitsLong (Builtin.Range.rangeSize x y 1) && (Builtin.Range.rangeSize x y 1==0 || if (1:Int) > 0 then Builtin.Range.rangeFitsLong (y+(1 - 1)) else Builtin.Range.rangeFitsLong (y+(1+1))))=true:=by
    rw [hs,hf x (by lia) (by lia),hf y (by lia) (by lia),hf 1 (by decide) (by decide),hf left (by split at hl<;>lia) (by split at hl<;>lia),if_pos (by decide),hf (y+(1 - 1)) (by lia) (by lia)]
    simp
  refine b0 F.slot_range_iter (ay ho rfl) F.entry_range_iter (F.args_range_iter_1 _) ((AutoRange.range___iter___range_1 a x y 1 t u v (by rw [hc];decide)).inModel _ _) ⟨ho,rfl,_,rfl,?_⟩
  rw [if_pos hc,hs]
  exact dd rfl rfl rfl
theorem dB {P:Pm} {j m a b:Nat} (l r:List Value) (n n2 z:Nat) (hl:l.length+r.length≤1000) (hj:P.adr j=a:=by rfl) (hm:P.adr m=b:=by rfl):aC P (ji j m a b l r n n2 z):=by
  refine az fun A s _ _ hn _ hz _=>?_
  have hz:=hz z rfl
  subst hz
  have ho:s.heap.get? a=some (lst l n):=by have:=hn _ (.head _);rw [hj] at this;exact this
  have ho2:s.heap.get? b=some (lst r n2):=by have:=hn _ (.tail _ (.head _));rw [hm] at this;exact this
  refine b0 F.slot_list_add (ay ho rfl) F.entry_list_add (F.args_list_add_2 _ _) ((AutoSeq1.list___add___list_list_0 a ⟨l⟩ n b ⟨r⟩ n2 (by show l.length+r.length≤_;unfold sizeLine;exact lk hl rfl)).inModel _ _) ⟨ho,ho2,?_⟩
  have e:(⟨l⟩++⟨r⟩:Array Value)=⟨l++r⟩:=by apply Z5;simp
  rw [e]
  exact ⟨rfl,_,rfl,dd rfl rfl rfl⟩
section
variable {w:World} {b1 b2 b3:Bool} {bel bel':ag→Prop} {c:Code} {below:ag} {F M:af}
theorem ur (m a b:Nat) {Q:Result→af→Prop} (hb:∀l,bel l→l.length≤96) (hp:([]++F).Perm M) (H:∀(N tk:Nat) (aq:Obj),aJ≤N→FrO w.2 [(s5,.ref m),(sG,.ref a),(sA,.ref b)] [] aq→Con w b1 b2 b3 bel (.func [bu 0,bu 1,bu 2,bu 3,bu 4] (bQ (N+0))) ([(N+0,aq)]++F) Q):Con w b1 b2 b3 bel (.call (.ref lE) ⟨[.ref m,.ref a,.ref b],[]⟩) M Q:=
  Con.of fun below p ao=>aK fun N tk hN=>Stp.loop [1,0,1,1,1,1,1,1,0] [0] [] _ 1 3 _ hp (hb _ ao) (fun hap=>a8) rfl (by rfl) ao (H N tk _ hN (fO (bL id 0 [tk+0,tk+1,tk+2]) 3 (#[]))) (rl (by kernel_rfl!))
theorem uA (fr m a b:Nat) {al:Obj} (ai:FrO w.2 [(s5,.ref m),(sG,.ref a),(sA,.ref b)] [] al) {Q:Value→af→Prop} (hb:below.length≤96) (hp:([(fr,al)]++F).Perm M) (H:∀(N tk:Nat) (aq:Obj),FrO w.2 [(s5,.ref m),(sG,.ref a),(sA,.ref b)] [] aq→Q (.ref a) ([(fr,aq)]++F)):Tr w b1 b2 b3 (cx c below) (eval (bA (cB (bu 0)) 0) (bQ fr)) M Q:=
  Tr.ev fun p=>aZ ai hp fun aw ah aj av=>aK fun N tk hN=>Stp.fin [1] [0] [] _ 0 0 _ av aa hb (fun hap=>a8) rfl ⟨_,rfl,(H N tk _ (fO aw ah aj))⟩ (rf (by kernel_rfl!))
theorem uz (fr m a b:Nat) {al:Obj} (ai:FrO w.2 [(s5,.ref m),(sG,.ref a),(sA,.ref b)] [] al) {Q:Value→af→Prop} (hb:below.length≤96) (hp:([(fr,al)]++F).Perm M) (H:∀(N tk:Nat) (aq:Obj),FrO w.2 [(s5,.ref m),(sG,.ref a),(sA,.ref b)] [] aq→Q (.ref b) ([(fr,aq)]++F)):Tr w b1 b2 b3 (cx c below) (eval (bA (cB (bu 0)) 1) (bQ fr)) M Q:=
  Tr.ev fun p=>aZ ai hp fun aw ah aj av=>aK fun N tk hN=>Stp.fin [1] [0] [] _ 0 0 _ av aa hb (fun hap=>a8) rfl ⟨_,rfl,(H N tk _ (fO aw ah aj))⟩ (rf (by kernel_rfl!))
theorem uB (fr m a b:Nat) {al:Obj} (ai:FrO w.2 [(s5,.ref m),(sG,.ref a),(sA,.ref b)] [] al) {Q:Flow→af→Prop} (hb:below.length≤96) (hp:([(fr,al)]++F).Perm M) (H:∀(N tk:Nat) (aq:Obj),FrO w.2 [(s5,.ref m),(sG,.ref a),(sA,.ref b)] [] aq→Q (.ret (.bool true)) ([(fr,aq)]++F)):Tr w b1 b2 b3 (cx c below) (execs [fQ (cC (bu 0)) 0] (bQ fr)) M Q:=
  Tr.st fun p=>aZ ai hp fun aw ah aj av=>aK fun N tk hN=>Stp.fin [] [0] [] _ 0 0 _ av aa hb (fun hap=>a8) rfl ⟨_,rfl,(H N tk _ (fO aw ah aj))⟩ (rf (by kernel_rfl!))
theorem ux (fr:Nat) (m a b:Nat) (h1 p1 h2 p2:PySem.Str) (t1 t2 t3 t4:Nat) (h0:(!decide (h1=h2))=true) {al:Obj} (ai:FrO w.2 [(s5,.ref m),(sG,.ref a),(sA,.ref b)] [] al) {Q:Flow→af→Prop} (hb:below.length≤96) (hp:([(fr,al),(a,aS [.str h1 t1,.str p1 t2]),(b,aS [.str h2 t3,.str p2 t4])]++F).Perm M) (H:∀(N tk:Nat) (aq:Obj),FrO w.2 [(s5,.ref m),(sG,.ref a),(sA,.ref b)] [] aq→Q (.ret (.bool false)) ([(fr,aq),(a,aS [.str h1 t1,.str p1 t2]),(b,aS [.str h2 t3,.str p2 t4])]++F)):Tr w b1 b2 b3 (cx c below) (execs [bu 1] (bQ fr)) M Q:=
  Tr.st fun p=>aZ ai hp fun aw ah aj av=>aK fun N tk hN=>Stp.fin [1,2,2,2,0,2,2,1,3,3,3,0,3,3,1] [0,1,2] [n6 h1 h2 t1 t3 true] _ 0 2 _ av aa hb (fun hap=>a9 (dn _ _ _ _ _ h0) a8) rfl ⟨_,rfl,(H N tk _ (fO aw ah aj))⟩ (rf (by kernel_rfl!))
theorem uy (fr:Nat) (m a b:Nat) (h1 p1 h2 p2:PySem.Str) (t1 t2 t3 t4:Nat) (h0:(!decide (h1=h2))=false) {al:Obj} (ai:FrO w.2 [(s5,.ref m),(sG,.ref a),(sA,.ref b)] [] al) {Q:Flow→af→Prop} (hb:below.length≤96) (hp:([(fr,al),(a,aS [.str h1 t1,.str p1 t2]),(b,aS [.str h2 t3,.str p2 t4])]++F).Perm M) (H:∀(N tk:Nat) (aq:Obj),FrO w.2 [(s5,.ref m),(sG,.ref a),(sA,.ref b)] [] aq→Q (.next) ([(fr,aq),(a,aS [.str h1 t1,.str p1 t2]),(b,aS [.str h2 t3,.str p2 t4])]++F)):Tr w b1 b2 b3 (cx c below) (execs [bu 1] (bQ fr)) M Q:=
  Tr.st fun p=>aZ ai hp fun aw ah aj av=>aK fun N tk hN=>Stp.fin [1,2,2,2,0,2,2,1,3,3,3,0,3,3,1] [0,1,2] [n6 h1 h2 t1 t3 false] _ 0 2 _ av aa hb (fun hap=>a9 (dn _ _ _ _ _ h0) a8) rfl ⟨_,rfl,(H N tk _ (fO aw ah aj))⟩ (rf (by kernel_rfl!))
theorem xj (fr:Nat) (m a b:Nat) (h1 p1 h2 p2:PySem.Str) (t1 t2 t3 t4:Nat) {al:Obj} (ai:FrO w.2 [(s5,.ref m),(sG,.ref a),(sA,.ref b)] [] al) {Q:Flow→af→Prop} (hb:below.length≤96) (hp:([(fr,al),(a,aS [.str h1 t1,.str p1 t2]),(b,aS [.str h2 t3,.str p2 t4])]++F).Perm M) (H:∀(N tk:Nat) (aq:Obj),FrO w.2 [(s5,.ref m),(sG,.ref a),(sA,.ref b),(sP,.str p1 t2)] [] aq→Q (.next) ([(fr,aq),(a,aS [.str h1 t1,.str p1 t2]),(b,aS [.str h2 t3,.str p2 t4])]++F)):Tr w b1 b2 b3 (cx c below) (execs [bu 2] (bQ fr)) M Q:=
  Tr.st fun p=>aZ ai hp fun aw ah aj av=>aK fun N tk hN=>Stp.fin [1,2,2,2,0,2,2,1,1] [0,1,2] [] _ 0 2 _ av aa hb (fun hap=>a8) rfl ⟨_,rfl,(H N tk _ (fO (bL aw 3 [tk+1]) (ah+1) aj))⟩ (rf (by kernel_rfl!))
theorem uu (fr m a b:Nat) (p1:PySem.Str) (t2:Nat) (sx:Nat) (hs:∀t,sliceMade p1 t2 (some (-1,t)) none none= .str ⟨#[sx]⟩) (h0:(!decide ((⟨#[sx]⟩:PySem.Str)=eJ))=false) {al:Obj} (ai:FrO w.2 [(s5,.ref m),(sG,.ref a),(sA,.ref b),(sP,.str p1 t2)] [] al) {Q:Flow→af→Prop} (hb:below.length≤96) (hp:([(fr,al)]++F).Perm M) (H:∀(N tk:Nat) (aq:Obj),FrO w.2 [(s5,.ref m),(sG,.ref a),(sA,.ref b),(sP,.str p1 t2)] [] aq→Q (.next) ([(fr,aq)]++F)):Tr w b1 b2 b3 (cx c below) (execs [bu 3] (bQ fr)) M Q:=
  Tr.st fun p=>aZ ai hp fun aw ah aj av=>aK fun N tk hN=>Stp.fin [1,0,1,2] [0] [jf 1 N p1 t2 (.int (Int.negSucc 0) (tk+1)) .none (tk+2) ⟨#[sx]⟩,n6 ⟨#[sx]⟩ eJ (tk+2) (tk+3) false] _ 1 4 _ av aa hb (fun hap=>a9 (ck p1 t2 (some (-1,tk+1)) none _ _ (hs _) (by show 1≤1000;decide)) (a9 (dn _ _ _ _ _ h0) a8)) rfl ⟨_,rfl,(H N tk _ (fO aw ah aj))⟩ (rf (by kernel_rfl!))
theorem ut (fr m a b:Nat) (p1:PySem.Str) (t2:Nat) (hs:∀t,sliceMade p1 t2 (some (-1,t)) none none= .val (.str p1 t2)) (h0:(!decide (p1=eJ))=false) {al:Obj} (ai:FrO w.2 [(s5,.ref m),(sG,.ref a),(sA,.ref b),(sP,.str p1 t2)] [] al) {Q:Flow→af→Prop} (hb:below.length≤96) (hp:([(fr,al)]++F).Perm M) (H:∀(N tk:Nat) (aq:Obj),FrO w.2 [(s5,.ref m),(sG,.ref a),(sA,.ref b),(sP,.str p1 t2)] [] aq→Q (.next) ([(fr,aq)]++F)):Tr w b1 b2 b3 (cx c below) (execs [bu 3] (bQ fr)) M Q:=
  Tr.st fun p=>aZ ai hp fun aw ah aj av=>aK fun N tk hN=>Stp.fin [1,0,1,2] [0] [gk 1 N p1 t2 (.int (Int.negSucc 0) (tk+1)) .none,n6 p1 eJ t2 (tk+2) false] _ 1 3 _ av aa hb (fun hap=>a9 (c5 p1 t2 (some (-1,tk+1)) none (hs _)) (a9 (dn _ _ _ _ _ h0) a8)) rfl ⟨_,rfl,(H N tk _ (fO aw ah aj))⟩ (rf (by kernel_rfl!))
theorem uw (fr m a b:Nat) (p1:PySem.Str) (t2:Nat) (sx:Nat) (hs:∀t,sliceMade p1 t2 (some (-1,t)) none none= .str ⟨#[sx]⟩) (h0:(!decide ((⟨#[sx]⟩:PySem.Str)=eJ))=true) (h1:(p1.length==0)=false) (h2:(p1++eJ).length≤1000) {al:Obj} (ai:FrO w.2 [(s5,.ref m),(sG,.ref a),(sA,.ref b),(sP,.str p1 t2)] [] al) {Q:Flow→af→Prop} (hb:below.length≤96) (hp:([(fr,al)]++F).Perm M) (H:∀(N tk:Nat) (aq:Obj),FrO w.2 [(s5,.ref m),(sG,.ref a),(sA,.ref b),(sP,.str (p1++eJ) (tk+5))] [] aq→Q (.next) ([(fr,aq)]++F)):Tr w b1 b2 b3 (cx c below) (execs [bu 3] (bQ fr)) M Q:=
  Tr.st fun p=>aZ ai hp fun aw ah aj av=>aK fun N tk hN=>Stp.fin [1,0,1,2,1,3,1,1] [0] [jf 1 N p1 t2 (.int (Int.negSucc 0) (tk+1)) .none (tk+2) ⟨#[sx]⟩,n6 ⟨#[sx]⟩ eJ (tk+2) (tk+3) true,nI p1 eJ t2 (tk+4) (tk+5)] _ 1 7 _ av aa hb (fun hap=>a9 (ck p1 t2 (some (-1,tk+1)) none _ _ (hs _) (by show 1≤1000;decide)) (a9 (dn _ _ _ _ _ h0) (a9 (fJ _ _ _ _ _ h1 rfl h2) a8))) rfl ⟨_,rfl,(H N tk _ (fO aw ah aj))⟩ (rf (by kernel_rfl!))
theorem uv (fr m a b:Nat) (p1:PySem.Str) (t2:Nat) (hs:∀t,sliceMade p1 t2 (some (-1,t)) none none= .val (.str p1 t2)) (h0:(!decide (p1=eJ))=true) (h1:(p1.length==0)=true) {al:Obj} (ai:FrO w.2 [(s5,.ref m),(sG,.ref a),(sA,.ref b),(sP,.str p1 t2)] [] al) {Q:Flow→af→Prop} (hb:below.length≤96) (hp:([(fr,al)]++F).Perm M) (H:∀(N tk:Nat) (aq:Obj),FrO w.2 [(s5,.ref m),(sG,.ref a),(sA,.ref b),(sP,.str eJ (tk+3))] [] aq→Q (.next) ([(fr,aq)]++F)):Tr w b1 b2 b3 (cx c below) (execs [bu 3] (bQ fr)) M Q:=
  Tr.st fun p=>aZ ai hp fun aw ah aj av=>aK fun N tk hN=>Stp.fin [1,0,1,2,1,3,1,1] [0] [gk 1 N p1 t2 (.int (Int.negSucc 0) (tk+1)) .none,n6 p1 eJ t2 (tk+2) true,eZ p1 eJ t2 (tk+3) (.str eJ (tk+3))] _ 1 5 _ av aa hb (fun hap=>a9 (c5 p1 t2 (some (-1,tk+1)) none (hs _)) (a9 (dn _ _ _ _ _ h0) (a9 (d9 _ _ _ _ h1) a8))) rfl ⟨_,rfl,(H N tk _ (fO aw ah aj))⟩ (rf (by kernel_rfl!))
theorem xi (fr m:Nat) (a b:Nat) (h2 p2 px:PySem.Str) (t3 t4 tx:Nat) (β:Bool) (h0:(decide (0+px.length≤p2.length) && Builtin.Str.subAt p2 px 0)=β) {al:Obj} (ai:FrO w.2 [(s5,.ref m),(sG,.ref a),(sA,.ref b),(sP,.str px tx)] [] al) {Q:Flow→af→Prop} (hb:below.length≤96) (hp:([(fr,al),(b,aS [.str h2 t3,.str p2 t4])]++F).Perm M) (H:∀(N tk:Nat),Q (.ret (.bool β)) ([(b,aS [.str h2 t3,.str p2 t4])]++F)):Tr w b1 b2 b3 (cx c below) (execs [bu 4] (bQ fr)) M Q:=
  Tr.st fun p=>aZ ai hp fun aw ah aj av=>aK fun N tk hN=>Stp.fin [1,2,2,2,0,2,2,1,1] [1] [yE p2 px t4 tx β] _ 0 1 _ av aa hb (fun hap=>a9 (jM _ _ _ _ _ h0) a8) rfl ⟨_,rfl,(H N tk)⟩ (rf (by kernel_rfl!))
end
open PySem.Builtin PySem.Builtin.Str
theorem ki:∀n < 20,strSliceIndices (some (-1)) none 1 n=if n=0 then [] else [n - 1]:=by decide+kernel
theorem nf (p:PySem.Str) (t u:Nat) (hp:p.length < 20):sliceMade p t (some (-1,u)) none none=if p.length≤1 then .val (.str p t) else .str ⟨#[p.cps.getD (p.length - 1) 0]⟩:=by
  have e:slicePicked p (some (-1,u)) none none=if p.length=0 then [] else [p.length - 1]:=ki _ hp
  unfold sliceMade
  rw [e]
  by_cases h0:p.length=0
  · rw [if_pos h0,if_pos (by rw [h0];rfl),if_pos (by lia)]
  · rw [if_neg h0]
    by_cases h1:p.length=1
    · rw [if_pos (by rw [h1];rfl),if_pos (by lia)]
    · rw [if_neg (by
        intro h
        have h:=(B3.mp h).2
        have h:=beq_iff_eq.mp h
        exact h1 h.symm),if_neg (by lia)]
      have hs:p.length=p.cps.size:=rfl
      have:p.cps[p.length - 1]?=some (p.cps.getD (p.length - 1) 0):=by
        rw [G7,Q5 (by lia)];rfl
      simp only [L5,this,List.filterMap_nil]
noncomputable def dK (p:PySem.Str):PySem.Str:=if p.length=0 then eJ else if p.cps.getD (p.length - 1) 0=47 then p else p++eJ
noncomputable def z7 (h1 p1 h2 p2:PySem.Str):Bool:=
  if h1=h2∧p1=p2 then true else if h1≠h2 then false else decide (0+(dK p1).length≤p2.length) && subAt p2 (dK p1) 0
theorem qw {p:PySem.Str} (h:p.length=1):p=⟨#[p.cps.getD (p.length - 1) 0]⟩:=by
  obtain ⟨⟨l⟩⟩:=p
  rcases l with _ | ⟨a,_ | ⟨b,l⟩⟩
  · cases h
  · rfl
  · cases h
theorem eH (x y:PySem.Str):(x++y).length=x.length+y.length:=by
  show (x.cps++y.cps).size=_
  rw [Array.size_append];rfl
theorem x5 {w:World} {b1 b2 b3:Bool} {bel:ag→Prop} {F M:af} {Q:Result→af→Prop} (m a b:Nat) (h1 p1 h2 p2:PySem.Str) (t1 t2 t3 t4:Nat) (hl:p1.length < 20) (h1c:p1.length=1→p1.cps.getD (p1.length - 1) 0=47) (hk:X3 (.tuple [.str h1,.str p1])=true) (hk2:X3 (.tuple [.str h2,.str p2])=true) (hb:∀l,bel l→l.length≤90)
    (hp:([(a,aS [.str h1 t1,.str p1 t2]),(b,aS [.str h2 t3,.str p2 t4])]++F).Perm M) (hQ:Q (.ok (.ret (.bool (z7 h1 p1 h2 p2)))) ([(a,aS [.str h1 t1,.str p1 t2]),(b,aS [.str h2 t3,.str p2 t4])]++F)):Con w b1 b2 b3 bel (.call (.ref lE) ⟨[.ref m,.ref a,.ref b],[]⟩) M Q:=by
  have hb':∀l,bel l→l.length≤96:=fun l h=>by have:=hb l h;exact lk this rfl
  refine ur m a b hb' (F:=M) (E0 _) fun N tk F0 hN hF0=>?_
  generalize N+0=fr at *
  refine Con.func fun below ao=>?_
  have hbl:below.length≤96:=hb' _ ao
  refine Tr.lax (Tr.gq fun QQ qq=>?_)
  have hM:([(fr,F0)]++M).Perm ([(fr,F0),(a,aS [.str h1 t1,.str p1 t2]),(b,aS [.str h2 t3,.str p2 t4])]++F):=by exact bk [_,_,_] [_,_] (.a (.l [2] .z) (.v 1)) (.a (.l [2,0,1] .z) (.v 0)) (.v 1) (.a (.l [0,1] .z) (.v 0)) (hp.symm) rfl
  refine Tr.cons (Tr.single (vL (L:= [(fr,F0)]++M) (test:=cB (bu 0)) (body:= [fQ (cC (bu 0)) 0]) (orelse:= []) (gm (l:=bA (cB (bu 0)) 0) (r:=bA (cB (bu 0)) 1) (op:=.Eq) rfl
    (uA fr m a b hF0 hbl (F:=M) (E0 _) fun N1 tk1 F1 hF1=>uz fr m a b hF1 hbl (F:=M) (E0 _) fun N2 tk2 F2 hF2=>?_))))
  have e:M5 (.tuple [.str h1,.str p1]) (.tuple [.str h2,.str p2])=decide (h1=h2∧p1=p2):=by
    show ((h1==h2) && ((p1==p2) && true))=_
    rw [C6]
    simp
  have hM2:([(fr,F2)]++M).Perm ([(fr,F2),(a,aS [.str h1 t1,.str p1 t2]),(b,aS [.str h2 t3,.str p2 t4])]++F):=by exact bk [_,_,_] [_,_] (.a (.l [2] .z) (.v 1)) (.a (.l [2,0,1] .z) (.v 0)) (.v 1) (.a (.l [0,1] .z) (.v 0)) (hp.symm) rfl
  refine mN (da:=.tuple [.str h1,.str p1]) (db:=.tuple [.str h2,.str p2]) (by exact lk hbl rfl) (Rd.tuple (vs:= [.str h1 t1,.str p1 t2]) (hM2.mem_iff.mpr (by simp)) (.cons (.str _ _) (.cons (.str _ _) .nil))) (Rd.tuple (vs:= [.str h2 t3,.str p2 t4]) (hM2.mem_iff.mpr (by simp)) (.cons (.str _ _) (.cons (.str _ _) .nil))) hk hk2 (by simp [K6,Y4]) ⟨_,rfl,?_⟩
  rw [e]
  by_cases hE:h1=h2∧p1=p2
  · rw [decide_eq_true hE]
    refine uB fr m a b hF2 hbl (F:=M) (E0 _) fun N3 tk3 F3 hF3=>.inr ⟨by simp,?_⟩
    refine qq _ _ ⟨_,[(fr,F3)],?_,(by have:=hQ;unfold z7 at this;rw [if_pos hE] at this;exact this)⟩
    exact bk [_,_,_] [_,_] (.a (.l [2] .z) (.v 1)) (.a (.a (.l [0,1] .z) (.v 0)) (.l [2] .z)) (.v 1) (.a (.l [0,1] .z) (.v 0)) (hp.symm) rfl
  · rw [decide_eq_false hE]
    refine Tr.nil (.inl ⟨rfl,?_⟩)
    have hm:z7 h1 p1 h2 p2=if h1≠h2 then false else decide (0+(dK p1).length≤p2.length) && subAt p2 (dK p1) 0:=by unfold z7;rw [if_neg hE]
    by_cases hh:h1=h2
    · rw [if_neg (by simpa using hh)] at hm
      refine Tr.cons (uy fr m a b h1 p1 h2 p2 t1 t2 t3 t4 (by simpa using hh) hF2 hbl (F:=F) hM2.symm fun N3 tk3 F3 hF3=>.inl ⟨rfl,?_⟩)
      refine Tr.cons (xj fr m a b h1 p1 h2 p2 t1 t2 t3 t4 hF3 hbl (F:=F) (E0 _) fun N4 tk4 F4 hF4=>.inl ⟨rfl,?_⟩)
      have fin:∀(F5:Obj) (tx:Nat),FrO w.2 [(s5,.ref m),(sG,.ref a),(sA,.ref b),(sP,.str (dK p1) tx)] [] F5→Tr w b1 b2 b3 (cx (.func [bu 0,bu 1,bu 2,bu 3,bu 4] (bQ fr)) below) (execs [bu 4] (bQ fr)) ([(fr,F5),(a,aS [.str h1 t1,.str p1 t2]),(b,aS [.str h2 t3,.str p2 t4])]++F) QQ:=by
        intro F5 tx hF5
        refine xi fr m a b h2 p2 (dK p1) t3 t4 tx _ rfl hF5 hbl (F:= [(a,aS [.str h1 t1,.str p1 t2])]++F) (by exact aO [_,_,_] [_] (.a (.l [0,1] .z) (.a (.l [2] .z) (.v 0))) (.a (.l [0,2,1] .z) (.v 0)) rfl) fun N6 tk6=>?_
        refine qq _ _ ⟨_,[],?_,(by rw [hm] at hQ;exact hQ)⟩
        exact aO [_,_] [_] (.a (.l [0] .z) (.a (.l [1] .z) (.v 0))) (.a (.a (.l [1,0] .z) (.v 0)) .z) rfl
      have hsl:=fun t=>nf p1 t2 t hl
      by_cases h0:p1.length=0
      · have hpre:dK p1=eJ:=by unfold dK;rw [if_pos h0]
        rw [hpre] at fin
        refine Tr.cons (uv fr m a b p1 t2 (fun t=>by rw [hsl,if_pos (by lia)]) (by
          have:p1≠eJ:=fun e=>by rw [e] at h0;cases h0
          simpa using this) (by rw [h0];rfl) hF4 hbl (F:= [(a,aS [.str h1 t1,.str p1 t2]),(b,aS [.str h2 t3,.str p2 t4])]++F) (by exact aO [_,_,_] [_] (.a (.l [0] .z) (.a (.l [1,2] .z) (.v 0))) (.a (.l [0,1,2] .z) (.v 0)) rfl) fun N5 tk5 F5 hF5=>.inl ⟨rfl,?_⟩)
        exact fin F5 _ hF5
      · by_cases hc:p1.cps.getD (p1.length - 1) 0=47
        · have hpre:dK p1=p1:=by unfold dK;rw [if_neg h0,if_pos hc]
          rw [hpre] at fin
          by_cases h1':p1.length=1
          · refine Tr.cons (ut fr m a b p1 t2 (fun t=>by rw [hsl,if_pos (by lia)]) (by
              have:p1=eJ:=by rw [qw h1',hc]
              simpa using this) hF4 hbl (F:= [(a,aS [.str h1 t1,.str p1 t2]),(b,aS [.str h2 t3,.str p2 t4])]++F) (by exact aO [_,_,_] [_] (.a (.l [0] .z) (.a (.l [1,2] .z) (.v 0))) (.a (.l [0,1,2] .z) (.v 0)) rfl) fun N5 tk5 F5 hF5=>.inl ⟨rfl,?_⟩)
            exact fin F5 _ hF5
          · refine Tr.cons (uu fr m a b p1 t2 47 (fun t=>by rw [hsl,if_neg (by lia),hc]) rfl hF4 hbl (F:= [(a,aS [.str h1 t1,.str p1 t2]),(b,aS [.str h2 t3,.str p2 t4])]++F) (by exact aO [_,_,_] [_] (.a (.l [0] .z) (.a (.l [1,2] .z) (.v 0))) (.a (.l [0,1,2] .z) (.v 0)) rfl) fun N5 tk5 F5 hF5=>.inl ⟨rfl,?_⟩)
            exact fin F5 _ hF5
        · have hpre:dK p1=p1++eJ:=by unfold dK;rw [if_neg h0,if_neg hc]
          rw [hpre] at fin
          refine Tr.cons (uw fr m a b p1 t2 (p1.cps.getD (p1.length - 1) 0) (fun t=>by rw [hsl,if_neg (by have:p1.length≠1:=fun e=>hc (h1c e);lia)]) (by
            have:¬(⟨#[p1.cps.getD (p1.length - 1) 0]⟩:PySem.Str)=eJ:=fun e=>hc (by
              have:=congrArg (fun s:PySem.Str=>s.cps.getD 0 0) e
              exact this)
            simpa using this) (by simpa using h0) (by rw [eH];show p1.length+1≤1000;exact lk hl rfl) hF4 hbl (F:= [(a,aS [.str h1 t1,.str p1 t2]),(b,aS [.str h2 t3,.str p2 t4])]++F) (by exact aO [_,_,_] [_] (.a (.l [0] .z) (.a (.l [1,2] .z) (.v 0))) (.a (.l [0,1,2] .z) (.v 0)) rfl) fun N5 tk5 F5 hF5=>.inl ⟨rfl,?_⟩)
          exact fin F5 _ hF5
    · rw [if_pos (by simpa using hh)] at hm
      refine Tr.cons (ux fr m a b h1 p1 h2 p2 t1 t2 t3 t4 (by simpa using hh) hF2 hbl (F:=F) hM2.symm fun N3 tk3 F3 hF3=>.inr ⟨by simp,?_⟩)
      refine qq _ _ ⟨_,[(fr,F3)],?_,(by rw [hm] at hQ;exact hQ)⟩
      exact aO [_,_,_] [_] (.a (.l [0,1,2] .z) (.v 0)) (.a (.a (.l [1,2] .z) (.v 0)) (.l [0] .z)) rfl
noncomputable def eO (n i:Nat):Obj:=cN (i:Int) ((n:Int) - (i:Int))
noncomputable def bT (n:Nat):List Int:=(List.range n).map fun (k:Nat)=>(k:Int)
theorem aH (n:Nat):(bT n).length=n:=by unfold bT;rw [B0,U4]
theorem cJ {n i:Nat} {x:Int} (h:(bT n)[i]?=some x):i < n∧x=(i:Int):=by
  unfold bT at h
  rw [V0] at h
  by_cases hi:i < n
  · rw [I6 hi] at h
    exact ⟨hi,by injection h with h;exact h.symm⟩
  · rw [V3 (by rw [U4];lia)] at h
    cases h
theorem tB (n:Nat):bT n=wk 0 n:=by
  unfold bT wk
  congr 1
  funext k
  lia
theorem Iter.rangeN {w:World} {b1 b2 b3:Bool} (it:Nat) (n:Nat):Iter w b1 b2 b3 it (bT n) isI (fun i=> [(it,eO n i)]) [(it,cN (n:Int) 0)]:=by
  have h:=Iter.range (w:=w) (b1:=b1) (b2:=b2) (b3:=b3) it 0 n
  rw [←tB] at h
  have e1:(fun i:Nat=> [(it,cN (0+(i:Int)) ((n:Int) - (i:Int)))])=fun i=> [(it,eO n i)]:=by
    funext i
    unfold eO
    rw [show (0:Int)+(i:Int)=(i:Int) by lia]
  rw [e1,show (0:Int)+(n:Int)=(n:Int) by lia] at h
  exact h
theorem me {s r:Int} (h:r.natAbs < 2 ^ 60):Builtin.divisionGoesByPylong s r=false:=by
  unfold Builtin.divisionGoesByPylong
  have:(if (r==0)=true then 0 else r.natAbs.log2 / 30+1)≤300:=by
    split
    · decide
    · rename_i h0
      have h0:r.natAbs≠0:=fun e=>h0 (by rw [Int.natAbs_eq_zero.mp e];rfl)
      have:=(Nat.log2_lt h0).mpr h
      lia
  simp only [Bool.and_eq_false_iff,decide_eq_false_iff_not]
  left;lia
theorem Iter.listI {w:World} {b1 b2 b3:Bool} (it a ep:Nat) (ps:List (Int × Nat)):Iter w b1 b2 b3 it (ps.map (·.1)) isI (fun i=> [(it,b8 "list_iterator" (.ref a) i),(a,lst (ps.map iv) ep)]) [(it,b8 "list_iterator" .none ps.length),(a,lst (ps.map iv) ep)] where
  next i x hx c below hb:=by
    rw [V0] at hx
    obtain ⟨q,hq,rfl⟩:=V2.mp hx
    exact nS it a i ep (ps.map iv) (iv q) (by rw [V0,hq];rfl) (F:= []) hb (P1 (U0 _)) fun N tk=>⟨iv q,rfl,⟨q.2,rfl⟩,U0 _⟩
  stop c below hb:=by
    rw [B0]
    exact r8 it a ps.length ep (ps.map iv) (by rw [B0];exact S0 _) (F:= []) hb (P1 (U0 _)) fun N tk=>⟨rfl,U0 _⟩
  self c below hb:=qd it (.ref a) 0 (F:= [(a,lst (ps.map iv) ep)]) hb (E0 _) fun N tk=>⟨rfl,rfl⟩
section
variable {w:World} {b1 b2 b3:Bool} {bel:ag→Prop}
end
open PySem.Builtin PySem.Builtin.Str
noncomputable def sv (q:PySem.Str × Nat):Value:=.str q.1 q.2
noncomputable abbrev pP (j a:Nat) (l:List (PySem.Str × Nat)) (ep:Nat) (k:PySem.Str) (t:Nat) (β:Bool):bX:={code:=.call (.builtin "list.__contains__") ⟨[.ref a,.str k t],[]⟩,need:= [(j,lst (l.map sv) ep)],res:=.ok (.ret (.bool β))}
theorem oX {P:Pm} {j a:Nat} (l:List (PySem.Str × Nat)) (ep:Nat) (k:PySem.Str) (t:Nat) (β:Bool) (h:(l.map (·.1)).contains k=β) (hj:P.adr j=a:=by rfl):aC P (pP j a l ep k t β):=by
  refine az fun A s _ _ hn _ _ _=>?_
  have ho:s.heap.get? a=some (lst (l.map sv) ep):=by have:=hn _ (.head _);rw [hj] at this;exact this
  let e:Value→Bool:=fun y=>match y with | .str i _=>i==k | _=>false
  refine b0 F.slot_list_contains (ay ho rfl) F.entry_list_contains (F.args_list_contains_2 _ _) ((SeqAt.list_containsAt a ⟨l.map sv⟩ ep none #[] (.str k t) e).inModel _ _) ⟨ho,?_,?_⟩
  · intro y hy
    obtain ⟨q,_,rfl⟩:=E1.mp (show y∈l.map sv from Array.mem_toList_iff.mpr hy)
    exact SeqAt.EqAt.str_str q.1 q.2 k t
  · have e1:(⟨l.map sv⟩:Array Value).any e=β:=by
      rw [←Array.any_toList,←h]
      show (l.map sv).any e=_
      rw [R6,X7,R6]
      congr 1
      funext q
      show (q.1==k)=(k==q.1)
      exact Bool.beq_comm
    rw [e1]
    exact ⟨rfl,_,rfl,aG rfl rfl⟩
theorem All2.strs {α:Type} {g:α→PySem.Str}:∀{l:List α} {vs:List Value},All2 (fun a v=>∃t,v= .str (g a) t) l vs→∃ps:List (PySem.Str × Nat),vs=ps.map sv∧ps.map (·.1)=l.map g
  | [],[],_=>⟨[],rfl,rfl⟩
  | a::_,_::_,⟨⟨t,rfl⟩,h⟩=>by
    obtain ⟨ps,rfl,h2⟩:=All2.strs h
    exact ⟨(g a,t)::ps,rfl,by rw [H0,H0,h2]⟩
  | [],_::_,h=>h.elim
  | _::_,[],h=>h.elim
noncomputable def gd (p:PySem.Str) (k:Int):List Nat:=strSliceIndices none (some k) 1 p.length
noncomputable def eW (p:PySem.Str) (k:Int):PySem.Str:=if (gd p k).length=p.length then p else ⟨((gd p k).filterMap (p.cps[·]?)).toArray⟩
theorem j9 {p:PySem.Str} {k:Int} (t u:Nat) (h:(gd p k).length=p.length):sliceMade p t none (some (k,u)) none= .val (.str p t)∧eW p k=p:=by
  refine ⟨?_,if_pos h⟩
  unfold sliceMade
  rw [if_pos]
  show ((1==1) && ((gd p k).length==p.length))=true
  rw [h];simp
theorem o6 {p:PySem.Str} {k:Int} (t u:Nat) (h:(gd p k).length≠p.length):sliceMade p t none (some (k,u)) none= .str (eW p k):=by
  unfold sliceMade eW
  rw [if_neg h,if_neg]
  · rfl
  · intro h2
    exact h (beq_iff_eq.mp (B3.mp h2).2)
theorem pc:∀n < 20,∀k < 20,(strSliceIndices none (some ((k:Nat):Int)) 1 n).length≤20:=by decide+kernel
theorem kW {p:PySem.Str} {k:Nat} (hp:p.length < 20) (hk:k < 20):(eW p k).length≤1000:=by
  unfold eW
  split
  · lia
  · have h1:=pc p.length hp k hk
    have h2:=List.length_filterMap_le (p.cps[·]?) (gd p k)
    have h3:(gd p k).length≤20:=h1
    show (E8 _).size≤1000
    rw [E5];exact zb h2 h3 rfl
section
variable {w:World} {b1 b2 b3:Bool} {bel bel':ag→Prop} {c:Code} {below:ag} {F M:af}
noncomputable abbrev ba (fr cl:Nat):Env:={mA fr with cells:= [(lb,cl)]}
noncomputable abbrev gi:Expr:=(bA (dI (bw 0)) 0)
noncomputable abbrev my (fr lc cl:Nat):Env:={scope:=inl (bD gi),locals:=lc,globals:=3,cells:= [(lb,cl)],qual:=kD++".<locals>.",func:=none,code:=.ref kX,frame:=some fr,builtins:=0}
noncomputable abbrev zl:Expr:=.ListComp (dj gi) [⟨.Name dP (dm (aL gi) 0),pD (aL gi) 0,[],0⟩] (bD gi) (j3 gi)
noncomputable abbrev rk (it acc fr lc cl:Nat):Code:=.compStart zl 0 (.ref it) (.ref acc) (my fr lc cl)
theorem vv (n:Int) (tn:Nat) {Q:Result→af→Prop} (hb:∀l,bel l→l.length≤96) (hp:([]++F).Perm M) (H:∀(N tk:Nat) (aq:Obj),aJ≤N→FrO w.2 [] [] aq→Con w b1 b2 b3 bel (.func [bw 0,bw 1] (ba (N+0) (N+1))) ([(N+0,aq),(N+1,ac (.int n tn))]++F) Q):Con w b1 b2 b3 bel (.call (.ref eX) ⟨[.int n tn],[]⟩) M Q:=
  Con.of fun below p ao=>aK fun N tk hN=>Stp.loop [1,0,2,2,0] [0,1] [] _ 2 0 _ hp (hb _ ao) (fun hap=>a8) rfl (by rfl) ao (H N tk _ hN (fO (bL id 0 []) 0 (#[]))) (rl (by kernel_rfl!))
theorem vx (fr cl:Nat) (n:Int) (tn z:Nat) (hm:n.fmod 4=(z:Int)) (hz:z≤3) {al:Obj} (ai:FrO w.2 [] [] al) {Q:Flow→af→Prop} (hb:below.length≤96) (au:∀l:ag,l.length≤below.length+9→bel' l) (hp:([(fr,al),(cl,ac (.int n tn))]++F).Perm M) (H:∀(N tk:Nat) (aq:Obj) (mW:Obj),aJ≤N→FrO w.2 [] [] aq→bx w.2 [] [[dP]] mW→Con w b1 b2 b3 bel' (rk (N+1) (N+2) fr (N+3) cl) ([(fr,aq),(cl,ac (.int n tn)),(N+1,cN 0 z),(N+2,lst [] 0),(N+3,mW)]++F) fun r L₂=>∃(ps:List (PySem.Str × Nat)) (er:Nat) (cs:PySem.Str) (cb:Obj) (fT:Obj) (X1:af),Builtin.Str.tooLong ((ps.map (·.1)).toArray.foldl (·+·.length+s1x.length) 0)=false∧joinMade s1x ps= .str cs∧cs.length≤1000∧r= .ok .next∧bx w.2 [] [[dP]] cb∧FrO w.2 [] [] fT∧([((N+3),cb),(fr,fT),((N+2),lst (ps.map sv) er)]++X1).Perm L₂∧(∀(N1 tk1:Nat) (k9:Obj),FrO w.2 [(sW,.str cs tk1)] [] k9→Q (.next) ([(fr,k9)]++X1))):Tr w b1 b2 b3 (cx c below) (execs [bw 0] (ba fr cl)) M Q:=
  Tr.st fun p=>aZ ai hp fun aw ah aj av=>aK fun N tk hN=>Stp.at [0,0,2,1,0,0,3,3,0,3,3,3,3,2,4] [0,1,3,4,5] [dX n 4 tn (tk+1) (tk+2) z,jh 2 N 0 z z (tk+3) (tk+2) (tk+4) (N+1)] _ 4 5 _ av aa hb (fun hap=>a9 (aI _ _ _ _ _ _ (by decide) hm) (a9 (b9 0 z z _ _ _ _ ⟨by decide,by decide⟩ ⟨by omega,by omega⟩ (by split<;>omega)) a8)) rfl au (H N tk _ _ hN (fO (bL id 0 []) ah aj) (dO (bL id 0 []) 0)) (fun r L₂ hq=>ex6 hq fun ps er cs cb fT X1 hh1=>have hl:=hh1.1;have hj:=hh1.2.1;have hc:=hh1.2.2.1;du hh1.2.2.2.2.1 (fun h10=>cR h10 hh1.2.2.2.2.2.2.1 fun eP bZ bO=>jG hh1.2.2.2.2.2.1 bO fun jQ d8 d7 bO=>c9 hh1.2.2.2.1 fun aQ N1 tk1 hN=>Stp.fin [1,1,2,2] [1] [lL 2 (N+2) s1x tk ps er tk1 cs] _ 0 2 _ bO aQ hb (fun hap=>a9 (mD _ _ ps _ _ _ hl hj hc) a8) rfl ⟨_,rfl,(hh1.2.2.2.2.2.2.2 N1 tk1 _ (fO (bL id 0 [tk1+(0+(lL 2 (N+2) s1x tk ps er tk1 cs).toks)]) (d8+1) d7))⟩ (rf (by kernel_rfl!))) (fun o10_0 h10=>cR h10 hh1.2.2.2.2.2.2.1 fun eP bZ bO=>jG hh1.2.2.2.2.2.1 bO fun jQ d8 d7 bO=>c9 hh1.2.2.2.1 fun aQ N1 tk1 hN=>Stp.fin [1,1,1,1,2,2] [1] [lL 2 (N+2) s1x tk ps er tk1 cs] _ 0 2 _ bO aQ hb (fun hap=>a9 (mD _ _ ps _ _ _ hl hj hc) a8) rfl ⟨_,rfl,(hh1.2.2.2.2.2.2.2 N1 tk1 _ (fO (bL id 0 [tk1+(0+(lL 2 (N+2) s1x tk ps er tk1 cs).toks)]) (d8+1) d7))⟩ (rf (by kernel_rfl!)))) (ra (by kernel_rfl!))
theorem vw (fr cl:Nat) (n:Int) (tn z:Nat) (hm:n.fmod 4=(z:Int)) (hz:z≤3) {al:Obj} (ai:FrO w.2 [] [] al) {Q:Flow→af→Prop} (hb:below.length≤96) (au:∀l:ag,l.length≤below.length+9→bel' l) (hp:([(fr,al),(cl,ac (.int n tn))]++F).Perm M) (H:∀(N tk:Nat) (aq:Obj) (mW:Obj),aJ≤N→FrO w.2 [] [] aq→bx w.2 [] [[dP]] mW→Con w b1 b2 b3 bel' (rk (N+1) (N+2) fr (N+3) cl) ([(fr,aq),(cl,ac (.int n tn)),(N+1,cN 0 z),(N+2,lst [] 0),(N+3,mW)]++F) fun r L₂=>∃(q:PySem.Str) (u er:Nat) (cb:Obj) (fT:Obj) (X1:af),q.length≤1000∧r= .ok .next∧bx w.2 [] [[dP]] cb∧FrO w.2 [] [] fT∧([((N+3),cb),(fr,fT),((N+2),lst [.str q u] er)]++X1).Perm L₂∧(∀(N1 tk1:Nat) (k9:Obj),FrO w.2 [(sW,.str q u)] [] k9→Q (.next) ([(fr,k9)]++X1))):Tr w b1 b2 b3 (cx c below) (execs [bw 0] (ba fr cl)) M Q:=
  Tr.st fun p=>aZ ai hp fun aw ah aj av=>aK fun N tk hN=>Stp.at [0,0,2,1,0,0,3,3,0,3,3,3,3,2,4] [0,1,3,4,5] [dX n 4 tn (tk+1) (tk+2) z,jh 2 N 0 z z (tk+3) (tk+2) (tk+4) (N+1)] _ 4 5 _ av aa hb (fun hap=>a9 (aI _ _ _ _ _ _ (by decide) hm) (a9 (b9 0 z z _ _ _ _ ⟨by decide,by decide⟩ ⟨by omega,by omega⟩ (by split<;>omega)) a8)) rfl au (H N tk _ _ hN (fO (bL id 0 []) ah aj) (dO (bL id 0 []) 0)) (fun r L₂ hq=>ex6 hq fun q u er cb fT X1 hh1=>have hq:=hh1.1;du hh1.2.2.1 (fun h10=>cR h10 hh1.2.2.2.2.1 fun eP bZ bO=>jG hh1.2.2.2.1 bO fun jQ d8 d7 bO=>c9 hh1.2.1 fun aQ N1 tk1 hN=>Stp.fin [1,1,2,2] [1] [jg 2 (N+2) s1x tk [(q,u)] er (.str q u)] _ 0 1 _ bO aQ hb (fun hap=>a9 (kO _ _ (q,u) _ ⟨hq,by decide⟩) a8) rfl ⟨_,rfl,(hh1.2.2.2.2.2 N1 tk1 _ (fO (bL id 0 [tk1+(0+(jg 2 (N+2) s1x tk [(q,u)] er (.str q u)).toks)]) (d8+1) d7))⟩ (rf (by kernel_rfl!))) (fun o10_0 h10=>cR h10 hh1.2.2.2.2.1 fun eP bZ bO=>jG hh1.2.2.2.1 bO fun jQ d8 d7 bO=>c9 hh1.2.1 fun aQ N1 tk1 hN=>Stp.fin [1,1,1,1,2,2] [1] [jg 2 (N+2) s1x tk [(q,u)] er (.str q u)] _ 0 1 _ bO aQ hb (fun hap=>a9 (kO _ _ (q,u) _ ⟨hq,by decide⟩) a8) rfl ⟨_,rfl,(hh1.2.2.2.2.2 N1 tk1 _ (fO (bL id 0 [tk1+(0+(jg 2 (N+2) s1x tk [(q,u)] er (.str q u)).toks)]) (d8+1) d7))⟩ (rf (by kernel_rfl!)))) (ra (by kernel_rfl!))
theorem pq (fr cl:Nat) (n:Int) (tn:Nat) (pp:PySem.Str) (tp:Nat) (m7 m5:Int) (h7:n.fmod 7=m7) (h7b:(m7==6)=true) (h5:n.fmod 5=m5) (h5b:(m5==4)=true) (hp0:(pp.length==0)=true) {al:Obj} (ai:FrO w.2 [(sW,.str pp tp)] [] al) {Q:Flow→af→Prop} (hb:below.length≤96) (hp:([(fr,al),(cl,ac (.int n tn))]++F).Perm M) (H:∀(N tk:Nat),Q (.ret (.ref N)) ([(N+0,aS [.str dP (tk+3),.str eJ (tk+7)])]++F)):Tr w b1 b2 b3 (cx c below) (execs [bw 1] (ba fr cl)) M Q:=
  Tr.st fun p=>aZ ai hp fun aw ah aj av=>aK fun N tk hN=>Stp.fin [2,1,2,1,2,3,4,5] [2] [dX n 7 tn tk (tk+1) m7,kc m7 6 (tk+1) (tk+2) true,dX n 5 tn (tk+4) (tk+5) m5,kc m5 4 (tk+5) (tk+6) true,eZ pp eJ tp (tk+7) (.str eJ (tk+7))] _ 1 8 _ av aa hb (fun hap=>a9 (aI _ _ _ _ _ _ (by decide) h7) (a9 (aN _ _ _ _ _ h7b) (a9 (aI _ _ _ _ _ _ (by decide) h5) (a9 (aN _ _ _ _ _ h5b) (a9 (d9 _ _ _ _ hp0) a8))))) rfl ⟨_,rfl,(H N tk)⟩ (rf (by kernel_rfl!))
theorem po (fr cl:Nat) (n:Int) (tn:Nat) (pp:PySem.Str) (tp:Nat) (m7 m5:Int) (h7:n.fmod 7=m7) (h7b:(m7==6)=true) (h5:n.fmod 5=m5) (h5b:(m5==4)=true) (hp0:(pp.length==0)=false) (hp1:(pp++eJ).length≤1000) {al:Obj} (ai:FrO w.2 [(sW,.str pp tp)] [] al) {Q:Flow→af→Prop} (hb:below.length≤96) (hp:([(fr,al),(cl,ac (.int n tn))]++F).Perm M) (H:∀(N tk:Nat),Q (.ret (.ref N)) ([(N+0,aS [.str dP (tk+3),.str (pp++eJ) (tk+8)])]++F)):Tr w b1 b2 b3 (cx c below) (execs [bw 1] (ba fr cl)) M Q:=
  Tr.st fun p=>aZ ai hp fun aw ah aj av=>aK fun N tk hN=>Stp.fin [2,1,2,1,2,3,4,5] [2] [dX n 7 tn tk (tk+1) m7,kc m7 6 (tk+1) (tk+2) true,dX n 5 tn (tk+4) (tk+5) m5,kc m5 4 (tk+5) (tk+6) true,nI pp eJ tp (tk+7) (tk+8)] _ 1 9 _ av aa hb (fun hap=>a9 (aI _ _ _ _ _ _ (by decide) h7) (a9 (aN _ _ _ _ _ h7b) (a9 (aI _ _ _ _ _ _ (by decide) h5) (a9 (aN _ _ _ _ _ h5b) (a9 (fJ _ _ _ _ _ hp0 rfl hp1) a8))))) rfl ⟨_,rfl,(H N tk)⟩ (rf (by kernel_rfl!))
theorem pu (fr cl:Nat) (n:Int) (tn:Nat) (pp:PySem.Str) (tp:Nat) (m7 m5:Int) (h7:n.fmod 7=m7) (h7b:(m7==6)=true) (h5:n.fmod 5=m5) (h5b:(m5==4)=false) (hp0:(pp.length==0)=true) {al:Obj} (ai:FrO w.2 [(sW,.str pp tp)] [] al) {Q:Flow→af→Prop} (hb:below.length≤96) (hp:([(fr,al),(cl,ac (.int n tn))]++F).Perm M) (H:∀(N tk:Nat),Q (.ret (.ref N)) ([(N+0,aS [.str dP (tk+3),.str s1x (tk+7)])]++F)):Tr w b1 b2 b3 (cx c below) (execs [bw 1] (ba fr cl)) M Q:=
  Tr.st fun p=>aZ ai hp fun aw ah aj av=>aK fun N tk hN=>Stp.fin [2,1,2,1,2,3,4,5] [2] [dX n 7 tn tk (tk+1) m7,kc m7 6 (tk+1) (tk+2) true,dX n 5 tn (tk+4) (tk+5) m5,kc m5 4 (tk+5) (tk+6) false,eZ pp s1x tp (tk+7) (.str s1x (tk+7))] _ 1 8 _ av aa hb (fun hap=>a9 (aI _ _ _ _ _ _ (by decide) h7) (a9 (aN _ _ _ _ _ h7b) (a9 (aI _ _ _ _ _ _ (by decide) h5) (a9 (aN _ _ _ _ _ h5b) (a9 (d9 _ _ _ _ hp0) a8))))) rfl ⟨_,rfl,(H N tk)⟩ (rf (by kernel_rfl!))
theorem pr (fr cl:Nat) (n:Int) (tn:Nat) (pp:PySem.Str) (tp:Nat) (m7 m5:Int) (h7:n.fmod 7=m7) (h7b:(m7==6)=true) (h5:n.fmod 5=m5) (h5b:(m5==4)=false) (hp0:(pp.length==0)=false) {al:Obj} (ai:FrO w.2 [(sW,.str pp tp)] [] al) {Q:Flow→af→Prop} (hb:below.length≤96) (hp:([(fr,al),(cl,ac (.int n tn))]++F).Perm M) (H:∀(N tk:Nat),Q (.ret (.ref N)) ([(N+0,aS [.str dP (tk+3),.str pp tp])]++F)):Tr w b1 b2 b3 (cx c below) (execs [bw 1] (ba fr cl)) M Q:=
  Tr.st fun p=>aZ ai hp fun aw ah aj av=>aK fun N tk hN=>Stp.fin [2,1,2,1,2,3,4,5] [2] [dX n 7 tn tk (tk+1) m7,kc m7 6 (tk+1) (tk+2) true,dX n 5 tn (tk+4) (tk+5) m5,kc m5 4 (tk+5) (tk+6) false,eZ pp s1x tp (tk+7) (.str pp tp)] _ 1 8 _ av aa hb (fun hap=>a9 (aI _ _ _ _ _ _ (by decide) h7) (a9 (aN _ _ _ _ _ h7b) (a9 (aI _ _ _ _ _ _ (by decide) h5) (a9 (aN _ _ _ _ _ h5b) (a9 (h8 _ _ _ _ hp0 rfl) a8))))) rfl ⟨_,rfl,(H N tk)⟩ (rf (by kernel_rfl!))
theorem py (fr cl:Nat) (n:Int) (tn:Nat) (pp:PySem.Str) (tp:Nat) (m7 m5:Int) (h7:n.fmod 7=m7) (h7b:(m7==6)=false) (h5:n.fmod 5=m5) (h5b:(m5==4)=true) (hp0:(pp.length==0)=true) {al:Obj} (ai:FrO w.2 [(sW,.str pp tp)] [] al) {Q:Flow→af→Prop} (hb:below.length≤96) (hp:([(fr,al),(cl,ac (.int n tn))]++F).Perm M) (H:∀(N tk:Nat),Q (.ret (.ref N)) ([(N+0,aS [.str (S [104]) (tk+3),.str eJ (tk+7)])]++F)):Tr w b1 b2 b3 (cx c below) (execs [bw 1] (ba fr cl)) M Q:=
  Tr.st fun p=>aZ ai hp fun aw ah aj av=>aK fun N tk hN=>Stp.fin [2,1,2,1,2,3,4,5] [2] [dX n 7 tn tk (tk+1) m7,kc m7 6 (tk+1) (tk+2) false,dX n 5 tn (tk+4) (tk+5) m5,kc m5 4 (tk+5) (tk+6) true,eZ pp eJ tp (tk+7) (.str eJ (tk+7))] _ 1 8 _ av aa hb (fun hap=>a9 (aI _ _ _ _ _ _ (by decide) h7) (a9 (aN _ _ _ _ _ h7b) (a9 (aI _ _ _ _ _ _ (by decide) h5) (a9 (aN _ _ _ _ _ h5b) (a9 (d9 _ _ _ _ hp0) a8))))) rfl ⟨_,rfl,(H N tk)⟩ (rf (by kernel_rfl!))
theorem pv (fr cl:Nat) (n:Int) (tn:Nat) (pp:PySem.Str) (tp:Nat) (m7 m5:Int) (h7:n.fmod 7=m7) (h7b:(m7==6)=false) (h5:n.fmod 5=m5) (h5b:(m5==4)=true) (hp0:(pp.length==0)=false) (hp1:(pp++eJ).length≤1000) {al:Obj} (ai:FrO w.2 [(sW,.str pp tp)] [] al) {Q:Flow→af→Prop} (hb:below.length≤96) (hp:([(fr,al),(cl,ac (.int n tn))]++F).Perm M) (H:∀(N tk:Nat),Q (.ret (.ref N)) ([(N+0,aS [.str (S [104]) (tk+3),.str (pp++eJ) (tk+8)])]++F)):Tr w b1 b2 b3 (cx c below) (execs [bw 1] (ba fr cl)) M Q:=
  Tr.st fun p=>aZ ai hp fun aw ah aj av=>aK fun N tk hN=>Stp.fin [2,1,2,1,2,3,4,5] [2] [dX n 7 tn tk (tk+1) m7,kc m7 6 (tk+1) (tk+2) false,dX n 5 tn (tk+4) (tk+5) m5,kc m5 4 (tk+5) (tk+6) true,nI pp eJ tp (tk+7) (tk+8)] _ 1 9 _ av aa hb (fun hap=>a9 (aI _ _ _ _ _ _ (by decide) h7) (a9 (aN _ _ _ _ _ h7b) (a9 (aI _ _ _ _ _ _ (by decide) h5) (a9 (aN _ _ _ _ _ h5b) (a9 (fJ _ _ _ _ _ hp0 rfl hp1) a8))))) rfl ⟨_,rfl,(H N tk)⟩ (rf (by kernel_rfl!))
theorem pA (fr cl:Nat) (n:Int) (tn:Nat) (pp:PySem.Str) (tp:Nat) (m7 m5:Int) (h7:n.fmod 7=m7) (h7b:(m7==6)=false) (h5:n.fmod 5=m5) (h5b:(m5==4)=false) (hp0:(pp.length==0)=true) {al:Obj} (ai:FrO w.2 [(sW,.str pp tp)] [] al) {Q:Flow→af→Prop} (hb:below.length≤96) (hp:([(fr,al),(cl,ac (.int n tn))]++F).Perm M) (H:∀(N tk:Nat),Q (.ret (.ref N)) ([(N+0,aS [.str (S [104]) (tk+3),.str s1x (tk+7)])]++F)):Tr w b1 b2 b3 (cx c below) (execs [bw 1] (ba fr cl)) M Q:=
  Tr.st fun p=>aZ ai hp fun aw ah aj av=>aK fun N tk hN=>Stp.fin [2,1,2,1,2,3,4,5] [2] [dX n 7 tn tk (tk+1) m7,kc m7 6 (tk+1) (tk+2) false,dX n 5 tn (tk+4) (tk+5) m5,kc m5 4 (tk+5) (tk+6) false,eZ pp s1x tp (tk+7) (.str s1x (tk+7))] _ 1 8 _ av aa hb (fun hap=>a9 (aI _ _ _ _ _ _ (by decide) h7) (a9 (aN _ _ _ _ _ h7b) (a9 (aI _ _ _ _ _ _ (by decide) h5) (a9 (aN _ _ _ _ _ h5b) (a9 (d9 _ _ _ _ hp0) a8))))) rfl ⟨_,rfl,(H N tk)⟩ (rf (by kernel_rfl!))
theorem pz (fr cl:Nat) (n:Int) (tn:Nat) (pp:PySem.Str) (tp:Nat) (m7 m5:Int) (h7:n.fmod 7=m7) (h7b:(m7==6)=false) (h5:n.fmod 5=m5) (h5b:(m5==4)=false) (hp0:(pp.length==0)=false) {al:Obj} (ai:FrO w.2 [(sW,.str pp tp)] [] al) {Q:Flow→af→Prop} (hb:below.length≤96) (hp:([(fr,al),(cl,ac (.int n tn))]++F).Perm M) (H:∀(N tk:Nat),Q (.ret (.ref N)) ([(N+0,aS [.str (S [104]) (tk+3),.str pp tp])]++F)):Tr w b1 b2 b3 (cx c below) (execs [bw 1] (ba fr cl)) M Q:=
  Tr.st fun p=>aZ ai hp fun aw ah aj av=>aK fun N tk hN=>Stp.fin [2,1,2,1,2,3,4,5] [2] [dX n 7 tn tk (tk+1) m7,kc m7 6 (tk+1) (tk+2) false,dX n 5 tn (tk+4) (tk+5) m5,kc m5 4 (tk+5) (tk+6) false,eZ pp s1x tp (tk+7) (.str pp tp)] _ 1 8 _ av aa hb (fun hap=>a9 (aI _ _ _ _ _ _ (by decide) h7) (a9 (aN _ _ _ _ _ h7b) (a9 (aI _ _ _ _ _ _ (by decide) h5) (a9 (aN _ _ _ _ _ h5b) (a9 (h8 _ _ _ _ hp0 rfl) a8))))) rfl ⟨_,rfl,(H N tk)⟩ (rf (by kernel_rfl!))
theorem rF (fr lc cl:Nat) (n:Int) (tn x tx:Nat) (r0 r1 r2:Int) (he0:n.fdiv 4=r0) (hx:x≤60) (he1:(2:Int) ^ x=r1) (he2:r1≠0) (he3:Builtin.divisionGoesByPylong r0 r1=false) (he4:r0.fdiv r1=r2) (he5:r2.fmod 2=0) {al:Obj} (ai:bx w.2 [] [[dP]] al) {Q:Value→af→Prop} (hb:below.length≤96) (hp:([(lc,al),(cl,ac (.int n tn))]++F).Perm M) (H:∀(N tk:Nat) (aq:Obj),bx w.2 [(dP,.int x tx)] [] aq→Q (.str (S [47,97]) (tk+11)) ([(lc,aq),(cl,ac (.int n tn))]++F)):Tr w b1 b2 b3 (cx c below) (assign (.Name dP (dm (aL gi) 0)) (my fr lc cl) (.int x tx)>>=fun _=>eval (dj gi) (my fr lc cl)) M Q:=
  Tr.asEv fun p=>du ai (fun h00=>cR h00 hp fun aw ah av=>aK fun N tk hN=>Stp.fin [1,1,2,1,1,2,3,4,3,3,3,0,3,3,0,0] [0,1] [l7 n 4 tn (tk+4) (tk+5) r0,pI (x:Int) (tk+6) tx (tk+7) r1,l7 r0 r1 (tk+5) (tk+7) (tk+8) r2,dX r2 2 (tk+8) (tk+9) (tk+10) 0] _ 1 12 _ av aa hb (fun hap=>a9 (ca _ _ _ _ _ _ (by decide) (by rfl) he0) (a9 (eE x _ _ _ r1 hx he1) (a9 (ca _ _ _ _ _ _ he2 he3 he4) (a9 (aI _ _ _ _ _ _ (by decide) he5) a8)))) rfl ⟨_,rfl,(H N tk _ (dO (bL id 0 [tk+0]) (ah+1)))⟩ (rf (by kernel_rfl!))) (fun o00_0 h00=>cR h00 hp fun aw ah av=>aK fun N tk hN=>Stp.fin [1,1,2,1,1,2,3,4,3,3,3,0,3,3,0,0] [0,1] [l7 n 4 tn (tk+4) (tk+5) r0,pI (x:Int) (tk+6) tx (tk+7) r1,l7 r0 r1 (tk+5) (tk+7) (tk+8) r2,dX r2 2 (tk+8) (tk+9) (tk+10) 0] _ 1 12 _ av aa hb (fun hap=>a9 (ca _ _ _ _ _ _ (by decide) (by rfl) he0) (a9 (eE x _ _ _ r1 hx he1) (a9 (ca _ _ _ _ _ _ he2 he3 he4) (a9 (aI _ _ _ _ _ _ (by decide) he5) a8)))) rfl ⟨_,rfl,(H N tk _ (dO aw ah))⟩ (rf (by kernel_rfl!)))
theorem rE (fr lc cl:Nat) (n:Int) (tn x tx:Nat) (r0 r1 r2:Int) (he0:n.fdiv 4=r0) (hx:x≤60) (he1:(2:Int) ^ x=r1) (he2:r1≠0) (he3:Builtin.divisionGoesByPylong r0 r1=false) (he4:r0.fdiv r1=r2) (he5:r2.fmod 2=1) {al:Obj} (ai:bx w.2 [] [[dP]] al) {Q:Value→af→Prop} (hb:below.length≤96) (hp:([(lc,al),(cl,ac (.int n tn))]++F).Perm M) (H:∀(N tk:Nat) (aq:Obj),bx w.2 [(dP,.int x tx)] [] aq→Q (.str (S [47,97,98]) (tk+11)) ([(lc,aq),(cl,ac (.int n tn))]++F)):Tr w b1 b2 b3 (cx c below) (assign (.Name dP (dm (aL gi) 0)) (my fr lc cl) (.int x tx)>>=fun _=>eval (dj gi) (my fr lc cl)) M Q:=
  Tr.asEv fun p=>du ai (fun h00=>cR h00 hp fun aw ah av=>aK fun N tk hN=>Stp.fin [1,1,2,1,1,2,3,4,3,3,3,0,3,3,0,0] [0,1] [l7 n 4 tn (tk+4) (tk+5) r0,pI (x:Int) (tk+6) tx (tk+7) r1,l7 r0 r1 (tk+5) (tk+7) (tk+8) r2,dX r2 2 (tk+8) (tk+9) (tk+10) 1] _ 1 12 _ av aa hb (fun hap=>a9 (ca _ _ _ _ _ _ (by decide) (by rfl) he0) (a9 (eE x _ _ _ r1 hx he1) (a9 (ca _ _ _ _ _ _ he2 he3 he4) (a9 (aI _ _ _ _ _ _ (by decide) he5) a8)))) rfl ⟨_,rfl,(H N tk _ (dO (bL id 0 [tk+0]) (ah+1)))⟩ (rf (by kernel_rfl!))) (fun o00_0 h00=>cR h00 hp fun aw ah av=>aK fun N tk hN=>Stp.fin [1,1,2,1,1,2,3,4,3,3,3,0,3,3,0,0] [0,1] [l7 n 4 tn (tk+4) (tk+5) r0,pI (x:Int) (tk+6) tx (tk+7) r1,l7 r0 r1 (tk+5) (tk+7) (tk+8) r2,dX r2 2 (tk+8) (tk+9) (tk+10) 1] _ 1 12 _ av aa hb (fun hap=>a9 (ca _ _ _ _ _ _ (by decide) (by rfl) he0) (a9 (eE x _ _ _ r1 hx he1) (a9 (ca _ _ _ _ _ _ he2 he3 he4) (a9 (aI _ _ _ _ _ _ (by decide) he5) a8)))) rfl ⟨_,rfl,(H N tk _ (dO aw ah))⟩ (rf (by kernel_rfl!)))
end
open PySem.Builtin PySem.Builtin.Str
noncomputable def wd (b:Bool):PySem.Str:=if b then S [47,97,98] else S [47,97]
noncomputable def gc:List Bool→PySem.Str
  | [b]=>wd b
  | l=>glued s1x (l.map wd)
noncomputable def pg (n:Int) (k:Int):Bool:=((n.fdiv 4).fdiv ((2:Int) ^ k.toNat)).fmod 2==1
noncomputable def dG (n:Int):List Bool:=(bT (n.fmod 4).toNat).map (pg n)
noncomputable def bb (n:Int):PySem.Str:=if n.fmod 7=6 then dP else S [104]
noncomputable def c7 (t:Bool) (p:PySem.Str):PySem.Str:=if t then (if p.length=0 then eJ else p++eJ) else (if p.length=0 then s1x else p)
noncomputable def bB (n:Int):PySem.Str:=c7 (n.fmod 5==4) (gc (dG n))
theorem fl (n m:Int) (hm:0 < m):0≤n.fmod m∧n.fmod m < m:=by
  rw [Int.fmod_eq_emod_of_nonneg _ (Int.le_of_lt hm)]
  exact ⟨Int.emod_nonneg _ (by lia),Int.emod_lt_of_pos _ hm⟩
theorem rt {P:List Bool→Prop} (h0:P []) (h1:∀a,P [a]) (h2:∀a b,P [a,b]) (h3:∀a b c,P [a,b,c]):∀l:List Bool,l.length≤3→P l
  | [],_=>h0
  | [a],_=>h1 a
  | [a,b],_=>h2 a b
  | [a,b,c],_=>h3 a b c
  | _::_::_::_::l,h=>by simp only [J0] at h;lia
theorem qP:∀l:List Bool,l.length≤3→tooLong ((l.map wd).toArray.foldl (·+·.length+s1x.length) 0)=false∧(gc l).length≤9:=by
  refine rt (by decide+kernel) ?_ ?_ ?_
  all_goals decide+kernel
theorem fu (n:Int):(dG n).length≤3:=by
  unfold dG
  rw [B0,aH]
  have:=fl n 4 (by decide)
  lia
theorem ni {i:Nat} (hi:i≤50):(2:Int) ^ i≠0∧((2:Int) ^ i).natAbs < 2 ^ 60:=by
  have hpos:(0:Int) < 2 ^ i:=Int.pow_pos (by decide)
  have hlt:(2:Int) ^ i < 2 ^ 60:=by
    have:(2:Nat) ^ i < 2 ^ 60:=Nat.pow_lt_pow_right (by decide) (by lia)
    exact_mod_cast this
  exact ⟨by lia,by lia⟩
section
variable {w:World} {b1 b2 b3:Bool} {bel:ag→Prop} {F M:af}
theorem og {fr cl:Nat} (n:Int) (tn:Nat) (pp:PySem.Str) (tp:Nat) (hpp:pp.length≤900) {F0:Obj} (hF0:FrO w.2 [(sW,.str pp tp)] [] F0) {c:Code} {below:ag} {Q:Flow→af→Prop} (hb:below.length≤96)
    (hp:([(fr,F0),(cl,ac (.int n tn))]++F).Perm M) (hQ:∀r t u,Q (.ret (.ref r)) ([(r,aS [.str (bb n) t,.str (c7 (n.fmod 5==4) pp) u])]++F)):Tr w b1 b2 b3 (cx c below) (execs [bw 1] (ba fr cl)) M Q:=by
  by_cases h7:n.fmod 7=6
  · have e7:bb n=dP:=if_pos h7
    have b7:(n.fmod 7==6)=true:=by rw [h7];rfl
    rw [e7] at hQ
    by_cases h5:n.fmod 5=4
    · have b5:(n.fmod 5==4)=true:=by rw [h5];rfl
      rw [b5] at hQ
      by_cases h0:pp.length=0
      · have e:c7 true pp=eJ:=by unfold c7;rw [if_pos rfl,if_pos h0]
        rw [e] at hQ
        exact pq fr cl n tn pp tp _ _ rfl b7 rfl b5 (by simpa using h0) hF0 hb hp fun N tk=>hQ N (tk+3) (tk+7)
      · have e:c7 true pp=pp++eJ:=by unfold c7;rw [if_pos rfl,if_neg h0]
        rw [e] at hQ
        exact po fr cl n tn pp tp _ _ rfl b7 rfl b5 (by simpa using h0) (by rw [eH];show pp.length+1≤1000;exact oM hpp rfl) hF0 hb hp fun N tk=>hQ N (tk+3) (tk+8)
    · have b5:(n.fmod 5==4)=false:=by simpa using h5
      rw [b5] at hQ
      by_cases h0:pp.length=0
      · have e:c7 false pp=s1x:=by unfold c7;rw [if_neg (by decide),if_pos h0]
        rw [e] at hQ
        exact pu fr cl n tn pp tp _ _ rfl b7 rfl b5 (by simpa using h0) hF0 hb hp fun N tk=>hQ N (tk+3) (tk+7)
      · have e:c7 false pp=pp:=by unfold c7;rw [if_neg (by decide),if_neg h0]
        rw [e] at hQ
        exact pr fr cl n tn pp tp _ _ rfl b7 rfl b5 (by simpa using h0) hF0 hb hp fun N tk=>hQ N (tk+3) tp
  · have e7:bb n=S [104]:=if_neg h7
    have b7:(n.fmod 7==6)=false:=by simpa using h7
    rw [e7] at hQ
    by_cases h5:n.fmod 5=4
    · have b5:(n.fmod 5==4)=true:=by rw [h5];rfl
      rw [b5] at hQ
      by_cases h0:pp.length=0
      · have e:c7 true pp=eJ:=by unfold c7;rw [if_pos rfl,if_pos h0]
        rw [e] at hQ
        exact py fr cl n tn pp tp _ _ rfl b7 rfl b5 (by simpa using h0) hF0 hb hp fun N tk=>hQ N (tk+3) (tk+7)
      · have e:c7 true pp=pp++eJ:=by unfold c7;rw [if_pos rfl,if_neg h0]
        rw [e] at hQ
        exact pv fr cl n tn pp tp _ _ rfl b7 rfl b5 (by simpa using h0) (by rw [eH];show pp.length+1≤1000;exact oM hpp rfl) hF0 hb hp fun N tk=>hQ N (tk+3) (tk+8)
    · have b5:(n.fmod 5==4)=false:=by simpa using h5
      rw [b5] at hQ
      by_cases h0:pp.length=0
      · have e:c7 false pp=s1x:=by unfold c7;rw [if_neg (by decide),if_pos h0]
        rw [e] at hQ
        exact pA fr cl n tn pp tp _ _ rfl b7 rfl b5 (by simpa using h0) hF0 hb hp fun N tk=>hQ N (tk+3) (tk+7)
      · have e:c7 false pp=pp:=by unfold c7;rw [if_neg (by decide),if_neg h0]
        rw [e] at hQ
        exact pz fr cl n tn pp tp _ _ rfl b7 rfl b5 (by simpa using h0) hF0 hb hp fun N tk=>hQ N (tk+3) tp
theorem oh {fr cl it acc lc:Nat} (n:Int) (tn:Nat) {D0:Obj} (ip:bx w.2 [] [[dP]] D0) {Q:Result→af→Prop} (hb:∀l,bel l→l.length≤96)
    (hp:([(it,cN 0 ((n.fmod 4).toNat:Int)),(acc,lst [] 0),(lc,D0),(cl,ac (.int n tn))]++F).Perm M)
    (hQ:∀(ps:List (PySem.Str × Nat)) er D,bx w.2 [] [[dP]] D→ps.map (·.1)=(dG n).map wd→Q (.ok .next) ([(acc,lst (ps.map sv) er),(it,cN ((n.fmod 4).toNat:Int) 0),(lc,D),(cl,ac (.int n tn))]++F)):Con w b1 b2 b3 bel (rk it acc fr lc cl) M Q:=by
  have hr:=fl n 4 (by decide)
  refine Con.lax (dv (lc:=lc) (R:= [(cl,ac (.int n tn))]++F) (fun q y=>∃t,y= .str (wd (pg n q)) t) (fun D=>bx w.2 [] [[dP]] D) ip hb (by rw [aH];lia) (Iter.rangeN it (n.fmod 4).toNat) ?_ ?_ ?_)
  · rintro i q hq v ⟨tx,rfl⟩ D hD c' below2 hbl2
    obtain ⟨hi,rfl⟩:=cJ hq
    obtain ⟨hp0,hp1⟩:=ni (i:=i) (by lia)
    have hbr:=fl ((n.fdiv 4).fdiv ((2:Int) ^ i)) 2 (by decide)
    by_cases hbit:((n.fdiv 4).fdiv ((2:Int) ^ i)).fmod 2=1
    · have e:wd (pg n i)=S [47,97,98]:=by unfold pg;rw [W0,hbit];rfl
      rw [e]
      refine rE fr lc cl n tn i tx _ _ _ rfl (by lia) rfl hp0 (me hp1) rfl hbit hD hbl2 (F:= [(it,eO (n.fmod 4).toNat (i+1))]++F) (by exact aO [_,_,_] [_] (.a (.l [0,1] .z) (.a (.l [2] .z) (.v 0))) (.a (.l [2] .z) (.l [0] (.a (.l [1] .z) (.v 0)))) rfl) fun N tk D1 aQ=>⟨⟨_,rfl⟩,D1,.inr ⟨_,aQ⟩,?_⟩
      exact aO [_,_,_] [_] (.a (.l [0,1] .z) (.a (.l [2] .z) (.v 0))) (.a (.l [2] .z) (.l [0] (.a (.l [1] .z) (.v 0)))) rfl
    · have hbit0:((n.fdiv 4).fdiv ((2:Int) ^ i)).fmod 2=0:=by lia
      have e:wd (pg n i)=S [47,97]:=by unfold pg;rw [W0,hbit0];rfl
      rw [e]
      refine rF fr lc cl n tn i tx _ _ _ rfl (by lia) rfl hp0 (me hp1) rfl hbit0 hD hbl2 (F:= [(it,eO (n.fmod 4).toNat (i+1))]++F) (by exact aO [_,_,_] [_] (.a (.l [0,1] .z) (.a (.l [2] .z) (.v 0))) (.a (.l [2] .z) (.l [0] (.a (.l [1] .z) (.v 0)))) rfl) fun N tk D1 aQ=>⟨⟨_,rfl⟩,D1,.inr ⟨_,aQ⟩,?_⟩
      exact aO [_,_,_] [_] (.a (.l [0,1] .z) (.a (.l [2] .z) (.v 0))) (.a (.l [2] .z) (.l [0] (.a (.l [1] .z) (.v 0)))) rfl
  · exact bk [_,_,_,_] [_,_] (.l [1] (.a (.l [0] .z) (.l [2] (.a (.l [3] .z) (.v 0))))) (.v 1) (.a (.l [0,1,2,3] .z) (.v 0)) (.v 1) hp rfl
  · intro vs ep D hD ha
    obtain ⟨ps,rfl,hps⟩:=All2.strs ha
    refine ⟨_,[],?_,hQ ps ep D hD (by rw [hps];unfold dG;rw [U1];rfl)⟩
    exact aO [_,_,_,_] [_] (.l [0] (.a (.l [1] .z) (.l [2] (.a (.l [3] .z) (.v 0))))) (.a (.a (.l [0,1,2,3] .z) (.v 0)) .z) rfl
theorem k7 (n:Int) (tn:Nat) {Q:Result→af→Prop} (hb:∀l,bel l→l.length≤80) (hp:F.Perm M)
    (hQ:∀r t u,Q (.ok (.ret (.ref r))) ([(r,aS [.str (bb n) t,.str (bB n) u])]++F)):Con w b1 b2 b3 bel (.call (.ref eX) ⟨[.int n tn],[]⟩) M Q:=by
  have hb':∀l,bel l→l.length≤96:=fun l h=>by have:=hb l h;exact lk this rfl
  have hr:=fl n 4 (by decide)
  have hz:n.fmod 4=((n.fmod 4).toNat:Int):=by lia
  obtain ⟨ok1,ok2⟩:=qP (dG n) (fu n)
  refine vv n tn hb' (F:=M) (E0 _) fun N tk F0 hN hF0=>?_
  generalize N+0=fr at *
  generalize N+1=cl at *
  refine Con.func fun below ao=>?_
  have hbl:=hb _ ao
  refine Tr.lax ?_
  by_cases h1:(dG n).length=1
  · refine Tr.cons (vw fr cl n tn (n.fmod 4).toNat hz (by lia) hF0 (by exact lk hbl rfl) (bel':=fun l=>l.length≤96) (fun l hl=>by exact eA hl hbl rfl) (F:=M) (E0 _) fun N2 tk2 F2 D0 hN2 hF2 ip=>?_)
    refine oh n tn ip (fun l h=>h) (F:= [(fr,F2)]++M) (by exact aO [_,_,_,_,_] [_] (.a (.l [0,1,2,3] .z) (.a (.l [4] .z) (.v 0))) (.a (.l [4,3,0,1,2] .z) (.v 0)) rfl) fun ps er D hD hps=>?_
    obtain ⟨b,hb1⟩:=H8.mp h1
    have hpl:ps.length=1:=by have:=congrArg List.length hps;rw [B0,B0] at this;exact this.trans h1
    obtain ⟨q,rfl⟩:=H8.mp hpl
    have hq:q.1=gc (dG n):=by
      rw [hb1] at hps⊢
      injection hps
    refine ⟨q.1,q.2,er,D,F2,[(N2+1,cN ((n.fmod 4).toNat:Int) 0),(cl,ac (.int n tn))]++M,by rw [hq];exact lk ok2 rfl,rfl,hD,hF2,?_,fun N3 tk3 F3 hF3=>.inl ⟨rfl,?_⟩⟩
    · show ([(N2+3,D),(fr,F2),(N2+2,lst ([q].map sv) er)]++_).Perm _
      exact aO [_,_,_,_,_] [_] (.a (.l [0,1,2] .z) (.a (.l [3,4] .z) (.v 0))) (.a (.l [2,3,0,4] .z) (.a (.l [1] .z) (.v 0))) rfl
    · rw [hq] at hF3
      refine og n tn (gc (dG n)) q.2 (by exact lk ok2 rfl) hF3 (by exact lk hbl rfl) (F:= [(N2+1,cN ((n.fmod 4).toNat:Int) 0)]++M) (by exact aO [_,_,_] [_] (.a (.l [0,1] .z) (.a (.l [2] .z) (.v 0))) (.a (.l [0] .z) (.a (.l [2,1] .z) (.v 0))) rfl) fun r t u=>⟨_,[(N2+1,cN ((n.fmod 4).toNat:Int) 0)],?_,hQ r t u⟩
      show ([(r,aS [.str (bb n) t,.str (bB n) u])]++_).Perm _
      exact bk [_,_] [_,_] (.a (.l [0] .z) (.a (.l [1] .z) (.v 1))) (.a (.a (.l [0] .z) (.v 0)) (.l [1] .z)) (.v 1) (.v 0) (hp.symm) rfl
  · refine Tr.cons (vx fr cl n tn (n.fmod 4).toNat hz (by lia) hF0 (by exact lk hbl rfl) (bel':=fun l=>l.length≤96) (fun l hl=>by exact eA hl hbl rfl) (F:=M) (E0 _) fun N2 tk2 F2 D0 hN2 hF2 ip=>?_)
    refine oh n tn ip (fun l h=>h) (F:= [(fr,F2)]++M) (by exact aO [_,_,_,_,_] [_] (.a (.l [0,1,2,3] .z) (.a (.l [4] .z) (.v 0))) (.a (.l [4,3,0,1,2] .z) (.v 0)) rfl) fun ps er D hD hps=>?_
    have hpl:ps.length=(dG n).length:=by have:=congrArg List.length hps;rw [B0,B0] at this;exact this
    have hj:joinMade s1x ps= .str (gc (dG n)):=by
      have e1:joinMade s1x ps= .str (glued s1x (ps.map (·.1))):=by
        rcases ps with _ | ⟨a,_ | ⟨b,l⟩⟩
        · rfl
        · exact absurd hpl (fun e=>h1 e.symm)
        · rfl
      have e2:gc (dG n)=glued s1x ((dG n).map wd):=by
        generalize dG n=l at h1
        rcases l with _ | ⟨a,_ | ⟨b,l⟩⟩
        · rfl
        · exact absurd rfl h1
        · rfl
      rw [e1,e2,hps]
    refine ⟨ps,er,gc (dG n),D,F2,[(N2+1,cN ((n.fmod 4).toNat:Int) 0),(cl,ac (.int n tn))]++M,by rw [hps];exact ok1,hj,by exact lk ok2 rfl,rfl,hD,hF2,by exact aO [_,_,_,_,_] [_] (.a (.l [0,1,2] .z) (.a (.l [3,4] .z) (.v 0))) (.a (.l [2,3,0,4] .z) (.a (.l [1] .z) (.v 0))) rfl,fun N3 tk3 F3 hF3=>.inl ⟨rfl,?_⟩⟩
    refine og n tn (gc (dG n)) tk3 (by exact lk ok2 rfl) hF3 (by exact lk hbl rfl) (F:= [(N2+1,cN ((n.fmod 4).toNat:Int) 0)]++M) (by exact aO [_,_,_] [_] (.a (.l [0,1] .z) (.a (.l [2] .z) (.v 0))) (.a (.l [0] .z) (.a (.l [2,1] .z) (.v 0))) rfl) fun r t u=>⟨_,[(N2+1,cN ((n.fmod 4).toNat:Int) 0)],?_,hQ r t u⟩
    show ([(r,aS [.str (bb n) t,.str (bB n) u])]++_).Perm _
    exact bk [_,_] [_,_] (.a (.l [0] .z) (.a (.l [1] .z) (.v 1))) (.a (.a (.l [0] .z) (.v 0)) (.l [1] .z)) (.v 1) (.v 0) (hp.symm) rfl
end
open PySem PySem.W PySem.Calls PyProof.Rows
theorem qR:∀{vs:List Value} {ns:List Int},IntsAre vs ns→∃ps:List (Int × Nat),vs=ps.map iv∧ps.map (·.1)=ns:=by
  intro vs ns h
  induction h with
  | nil=>exact ⟨[],rfl,rfl⟩
  | cons n t _ ih=>
    obtain ⟨ps,rfl,rfl⟩:=ih
    exact ⟨(n,t)::ps,rfl,rfl⟩
section
variable {w:World} {b1 b2 b3:Bool} {bel bel':ag→Prop} {c:Code} {below:ag} {F M:af}
noncomputable abbrev lp:Stmt:=(cI 1)
noncomputable abbrev o9 (j:Nat):Stmt:=fQ (cC lp) j
noncomputable abbrev z9 (it fr:Nat):Code:=.forLoop (.Name lb (d0 lp)) (.ref it) [o9 0] [] (aR fr)
noncomputable abbrev oa:Stmt:=o9 0
noncomputable abbrev mT (j:Nat):Expr:=bA (cB oa) j
theorem tP (a:Nat) {Q:Result→af→Prop} (hb:∀l,bel l→l.length≤96) (hp:([]++F).Perm M) (H:∀(N tk:Nat) (aq:Obj),aJ≤N→FrO w.2 [(sj,.ref a)] [] aq→Con w b1 b2 b3 bel (.func [cI 0,cI 1,cI 2] (aR (N+0))) ([(N+0,aq)]++F) Q):Con w b1 b2 b3 bel (.call (.ref eG) ⟨[.ref a],[]⟩) M Q:=
  Con.of fun below p ao=>aK fun N tk hN=>Stp.loop [1,0,1,1,0] [0] [] _ 1 1 _ hp (hb _ ao) (fun hap=>a8) rfl (by rfl) ao (H N tk _ hN (fO (bL id 0 [tk+0]) 1 (#[]))) (rl (by kernel_rfl!))
theorem wD (fr a:Nat) {al:Obj} (ai:FrO w.2 [(sj,.ref a)] [] al) {Q:Flow→af→Prop} (hb:below.length≤96) (hp:([(fr,al)]++F).Perm M) (H:∀(N tk:Nat) (aq:Obj),FrO w.2 [(sj,.ref a),(sM,.ref N)] [] aq→Q (.next) ([(fr,aq),(N+0,lst [] 0)]++F)):Tr w b1 b2 b3 (cx c below) (execs [cI 0] (aR fr)) M Q:=
  Tr.st fun p=>aZ ai hp fun aw ah aj av=>aK fun N tk hN=>Stp.fin [1,1] [0,1] [] _ 1 1 _ av aa hb (fun hap=>a8) rfl ⟨_,rfl,(H N tk _ (fO (bL aw 1 [tk+0]) (ah+1) aj))⟩ (rf (by kernel_rfl!))
theorem wC (fr a rw:Nat) (vs:List Value) (ep:Nat) {al:Obj} (ai:FrO w.2 [(sj,.ref a),(sM,.ref rw)] [] al) {Q:Flow→af→Prop} (hb:below.length≤96) (au:∀l:ag,l.length≤below.length+9→bel' l) (hp:([(fr,al),(a,lst vs ep)]++F).Perm M) (H:∀(N tk:Nat) (aq:Obj),aJ≤N→FrO w.2 [(sj,.ref a),(sM,.ref rw)] [] aq→Con w b1 b2 b3 bel' (z9 N fr) ([(fr,aq),(a,lst vs ep),(N+0,b8 "list_iterator" (.ref a) 0)]++F) fun r L₂=>r= .ok .next∧Q (.next) L₂):Tr w b1 b2 b3 (cx c below) (execs [cI 1] (aR fr)) M Q:=
  Tr.st fun p=>aZ ai hp fun aw ah aj av=>aK fun N tk hN=>Stp.at [1,2,2,0,2,3] [0,1,2] [] _ 1 0 _ av aa hb (fun hap=>a8) rfl au (H N tk _ hN (fO aw ah aj)) (fun r L₂ hq=>c9 hq.1 fun aQ N1 tk1 hN=>Stp.fin [] [] [] _ 0 0 [] (E0 ([]++L₂)) aQ hb (fun hap=>a8) rfl ⟨_,rfl,((fun _ _=>hq.2) N1 tk1)⟩ (rf (by kernel_rfl!))) (ra (by kernel_rfl!))
theorem wx (fr a rw tx:Nat) (x:Int) {al:Obj} (ai:FrO w.2 [(sj,.ref a),(sM,.ref rw)] [[lb]] al) {Q:Flow→af→Prop} (hb:below.length≤96) (hp:([(fr,al)]++F).Perm M) (H:∀(N tk:Nat) (aq:Obj),FrO w.2 [(sj,.ref a),(sM,.ref rw),(lb,.int x tx)] [] aq→Q (.next) ([(fr,aq)]++F)):Tr w b1 b2 b3 (cx c below) (assign (.Name lb (d0 lp)) (aR fr) (.int x tx)>>=fun _=>execs [] (aR fr)) M Q:=
  Tr.as fun p=>li ai (fun h00=>aZ h00 hp fun aw ah aj av=>aK fun N tk hN=>Stp.fin [1,1] [0] [] _ 0 1 _ av aa hb (fun hap=>a8) rfl ⟨_,rfl,(H N tk _ (fO (bL aw 2 [tk+0]) (ah+1) aj))⟩ (rf (by kernel_rfl!))) (fun o00_0 h00=>aZ h00 hp fun aw ah aj av=>aK fun N tk hN=>Stp.fin [1,1] [0] [] _ 0 1 _ av aa hb (fun hap=>a8) rfl ⟨_,rfl,(H N tk _ (fO aw ah aj))⟩ (rf (by kernel_rfl!)))
theorem wy (fr a rw tx:Nat) (x:Int) (vs:List Value) (ep:Nat) (β:Bool) (hl:vs.length≤1000) (h0:decide (((vs.length:Nat):Int) < 8)=β) {al:Obj} (ai:FrO w.2 [(sj,.ref a),(sM,.ref rw),(lb,.int x tx)] [] al) {Q:Bool→af→Prop} (hb:below.length≤96) (hp:([(fr,al),(rw,lst vs ep)]++F).Perm M) (H:∀(N tk:Nat) (aq:Obj),FrO w.2 [(sj,.ref a),(sM,.ref rw),(lb,.int x tx)] [] aq→Q (β) ([(fr,aq),(rw,lst vs ep)]++F)):Tr w b1 b2 b3 (cx c below) (isTrue (mT 0) (aR fr) (eval (mT 0) (aR fr))) M Q:=
  Tr.it fun p=>aZ ai hp fun aw ah aj av=>aK fun N tk hN=>Stp.fin [0,0,1,1,2] [0,1] [iD 1 rw vs ep tk,yG (vs.length:Nat) 8 (tk+1) (tk+2) β] _ 0 3 _ av aa hb (fun hap=>a9 (bR _ _ _ hl) (a9 (fp _ _ _ _ _ h0) a8)) rfl ⟨_,rfl,(H N tk _ (fO aw ah aj))⟩ (rf (by kernel_rfl!))
theorem wA (fr a rw tx:Nat) (x:Int) {al:Obj} (ai:FrO w.2 [(sj,.ref a),(sM,.ref rw),(lb,.int x tx)] [] al) {Q:Value→af→Prop} (hb:below.length≤96) (au:∀l:ag,l.length≤below.length+9→bel' l) (hp:([(fr,al)]++F).Perm M) (H:∀(N tk:Nat) (aq:Obj),aJ≤N→FrO w.2 [(sj,.ref a),(sM,.ref rw),(lb,.int x tx)] [] aq→Con w b1 b2 b3 bel' (.call (.ref eX) ⟨[.int x tx],[]⟩) ([(fr,aq)]++F) fun r L₂=>∃(ar:Nat) (X1:af),r= .ok (.ret (.ref ar))∧(([]:af)++X1).Perm L₂∧(∀(N1 tk1:Nat),Q (.ref ar) ([]++X1))):Tr w b1 b2 b3 (cx c below) (eval (bA (mT 1) 0) (aR fr)) M Q:=
  Tr.ev fun p=>aZ ai hp fun aw ah aj av=>aK fun N tk hN=>Stp.at [0,1,0] [0] [] _ 0 0 _ av aa hb (fun hap=>a8) rfl au (H N tk _ hN (fO aw ah aj)) (fun r L₂ hq=>oU hq fun ar X1 hh1=>c9 hh1.1 fun aQ N1 tk1 hN=>Stp.fin [] [] [] _ 0 0 [] hh1.2.1 aQ hb (fun hap=>a8) rfl ⟨_,rfl,(hh1.2.2 N1 tk1)⟩ (rf (by kernel_rfl!))) (ra (by kernel_rfl!))
theorem ww (fr a rw tx:Nat) (x:Int) {al:Obj} (ai:FrO w.2 [(sj,.ref a),(sM,.ref rw),(lb,.int x tx)] [] al) {Q:Value→af→Prop} (hb:below.length≤96) (hp:([(fr,al)]++F).Perm M) (H:∀(N tk:Nat) (aq:Obj),FrO w.2 [(sj,.ref a),(sM,.ref rw),(lb,.int x tx)] [] aq→Q (.ref rw) ([(fr,aq)]++F)):Tr w b1 b2 b3 (cx c below) (eval (bA (mT 1) 1) (aR fr)) M Q:=
  Tr.ev fun p=>aZ ai hp fun aw ah aj av=>aK fun N tk hN=>Stp.fin [1] [0] [] _ 0 0 _ av aa hb (fun hap=>a8) rfl ⟨_,rfl,(H N tk _ (fO aw ah aj))⟩ (rf (by kernel_rfl!))
theorem wz (fr a rw tx:Nat) (x:Int) (vs:List Value) (ep:Nat) {al:Obj} (ai:FrO w.2 [(sj,.ref a),(sM,.ref rw),(lb,.int x tx)] [] al) {Q:Flow→af→Prop} (hb:below.length≤96) (au:∀l:ag,l.length≤below.length+9→bel' l) (hp:([(fr,al),(rw,lst vs ep)]++F).Perm M) (H:∀(N tk:Nat) (aq:Obj),aJ≤N→FrO w.2 [(sj,.ref a),(sM,.ref rw),(lb,.int x tx)] [] aq→Con w b1 b2 b3 bel' (.call (.ref eX) ⟨[.int x tx],[]⟩) ([(fr,aq),(rw,lst vs ep)]++F) fun r L₂=>∃(ar:Nat) (X1:af),vs.length≤1000∧r= .ok (.ret (.ref ar))∧([(rw,lst vs ep)]++X1).Perm L₂∧(∀(N1 tk1:Nat),Q (.next) ([(rw,lst (vs++ [.ref ar]) (ep+1))]++X1))):Tr w b1 b2 b3 (cx c below) (execs [fQ (cC oa) 0] (aR fr)) M Q:=
  Tr.st fun p=>aZ ai hp fun aw ah aj av=>aK fun N tk hN=>Stp.at [1,2,2,2,2,0,1,0] [0,1] [] _ 0 0 _ av aa hb (fun hap=>a8) rfl au (H N tk _ hN (fO aw ah aj)) (fun r L₂ hq=>oU hq fun ar X1 hh1=>have hl:=hh1.1;c9 hh1.2.1 fun aQ N1 tk1 hN=>Stp.fin [1] [0] [jj 0 rw vs ep (.ref ar)] _ 0 0 _ hh1.2.2.1 aQ hb (fun hap=>a9 (bz vs ep (.ref ar) hl) a8) rfl ⟨_,rfl,(hh1.2.2.2 N1 tk1)⟩ (rf (by kernel_rfl!))) (ra (by kernel_rfl!))
theorem wB (fr a rw:Nat) {al:Obj} (ai:FrO w.2 [(sj,.ref a),(sM,.ref rw)] [[lb]] al) {Q:Flow→af→Prop} (hb:below.length≤96) (hp:([(fr,al)]++F).Perm M) (H:∀(N tk:Nat),Q (.ret (.ref rw)) ([]++F)):Tr w b1 b2 b3 (cx c below) (execs [cI 2] (aR fr)) M Q:=
  Tr.st fun p=>li ai (fun h00=>aZ h00 hp fun aw ah aj av=>aK fun N tk hN=>Stp.fin [1] [] [] _ 0 0 [] av aa hb (fun hap=>a8) rfl ⟨_,rfl,(H N tk)⟩ (rf (by kernel_rfl!))) (fun o00_0 h00=>aZ h00 hp fun aw ah aj av=>aK fun N tk hN=>Stp.fin [1] [] [] _ 0 0 [] av aa hb (fun hap=>a8) rfl ⟨_,rfl,(H N tk)⟩ (rf (by kernel_rfl!)))
end
section
variable {w:World} {b1 b2 b3:Bool} {bel:ag→Prop} {F M L:af} {Γ:Ctx}
theorem i3 {y:Expr} {ys:List Expr} {env:Env} {Q:Bool→af→Prop} (h:Tr w b1 b2 b3 Γ (isTrue y env (eval y env)) L fun β L1=>match β with
      | true=>Tr w b1 b2 b3 Γ (allTrue .And ys env) L1 Q
      | false=>Q false L1):Tr w b1 b2 b3 Γ (allTrue .And (y::ys) env) L Q:=by
  refine Tr.bind (m:=isTrue y env (eval y env)) (h.mono ?_)
  intro β L1 h
  cases β
  · exact Tr.pure h
  · exact h
theorem vr {x y:Expr} {pos:Pos} {env:Env} {Q:Bool→af→Prop} (h:Tr w b1 b2 b3 Γ (isTrue x env (eval x env)) L fun β L1=>match β with
      | true=>Tr w b1 b2 b3 Γ (isTrue y env (eval y env)) L1 Q
      | false=>Q false L1):Tr w b1 b2 b3 Γ (isTrue (.BoolOp .And [x,y] pos) env (eval (.BoolOp .And [x,y] pos) env)) L Q:=
  i3 (h.mono fun β L1 h=>match β,h with
   | false,h=>h
   | true,h=>i3 (ys:= []) (Tr.mono h fun β L1 h=>match β,h with
     | false,h=>h
     | true,h=>Tr.pure h))
theorem mM {a b:Value} {c:Code} {below:ag} {xs:List PyData} {d:PyData} {Q:Value→af→Prop} (hb:below.length≤150) (ha:Rd w L b (.list xs)) (hb':Rd w L a d) (h1:O2 xs=true) (h2:d.canLay0=true) (hd:min (Y4 xs) d.depth≤1000) (h:Q (.bool (!xs.any fun y=>M5 y d)) L):Tr w b1 b2 b3 (cx c below) (compareOp .NotIn a b) L Q:=
  Tr.any hb fun A s _ hu hs=>by
    obtain ⟨_,ra⟩:=ha s hs
    obtain ⟨_,rb⟩:=hb' s hs
    exact SeqAt.notIn_list_reads ra rb h1 h2 (by unfold cLine;lia) ⟨L,.refl hs,h⟩
structure Ad where
  a:Nat
  h:PySem.Str
  p:PySem.Str
  t:Nat
  u:Nat
noncomputable def Ad.obj (q:Ad):Obj:=aS [.str q.h q.t,.str q.p q.u]
noncomputable def Ad.key (q:Ad):PySem.Str × PySem.Str:=(q.h,q.p)
noncomputable def Ad.dat (q:Ad):PyData:=.tuple [.str q.h,.str q.p]
noncomputable def bV (rs:List Ad):af:=rs.map fun q=>(q.a,q.obj)
noncomputable def bJ (rs:List Ad):List Value:=rs.map fun q=>.ref q.a
noncomputable def okS (s:PySem.Str):Prop:=V7 s=true∧s.length < 15∧(s.length=1→s.cps.getD (s.length - 1) 0=47)
theorem wY:∀l:List Bool,l.length≤3→∀t,okS (c7 t (gc l)):=by
  refine rt ?_ ?_ ?_ ?_
  all_goals (unfold okS;decide+kernel)
theorem qx (n:Int):V7 (bb n)=true:=by
  unfold bb
  split<;>decide+kernel
theorem yV (n:Int):okS (bB n):=wY _ (fu n) _
theorem lX {L:af}:∀(rs:List Ad),(∀q∈rs,(q.a,q.obj)∈L)→RdAll w L (bJ rs) (rs.map Ad.dat)
  | [],_=>.nil
  | q::l,h=>.cons (Rd.tuple (vs:= [.str q.h q.t,.str q.p q.u]) (h q (.head _)) (.cons (.str _ _) (.cons (.str _ _) .nil))) (lX l fun x hx=>h x (.tail _ hx))
theorem tO {rs:List Ad} {q:Ad} (h:q∈rs):(q.a,q.obj)∈bV rs:=X0 (f:=fun q:Ad=>(q.a,q.obj)) h
noncomputable def fy (rs:List Ad):Prop:=∀q∈rs,V7 q.h=true∧okS q.p
theorem kE:∀{rs:List Ad},fy rs→O2 (rs.map Ad.dat)=true
  | [],_=>by simp [O2]
  | q::l,h=>by
    have h1:=h q (.head _)
    have h2:=kE (rs:=l) fun x hx=>h x (.tail _ hx)
    simp only [H0,O2,h2,Bool.and_true,Ad.dat,X3,h1.1,h1.2.1,Bool.and_self]
theorem tQ (rs:List Ad) (h p:PySem.Str):((rs.map Ad.dat).any fun y=>M5 y (.tuple [.str h,.str p]))=(rs.map Ad.key).contains (h,p):=by
  rw [R6,X7,R6]
  congr 1
  funext q
  show ((q.h==h) && ((q.p==p) && true))=((h,p)==(q.h,q.p))
  rw [C6]
  simp
  constructor
  · rintro ⟨rfl,rfl⟩;exact ⟨rfl,rfl⟩
  · rintro ⟨rfl,rfl⟩;exact ⟨rfl,rfl⟩
end
noncomputable def e9 (row:List (PySem.Str × PySem.Str)) (n:Int):List (PySem.Str × PySem.Str):=if decide (((row.length:Nat):Int) < 8) && !row.contains (bb n,bB n) then row++ [(bb n,bB n)] else row
noncomputable def gG (l:List Int):List (PySem.Str × PySem.Str):=l.foldl e9 []
section
variable {w:World} {b1 b2 b3:Bool} {bel:ag→Prop} {F M:af} {Q:Result→af→Prop}
theorem vq {fr a rw tx:Nat} (x:Int) (rs:List Ad) (er:Nat) (hok:fy rs) (hl:rs.length≤20) {F1:Obj} (hF1:FrO w.2 [(sj,.ref a),(sM,.ref rw)] [[lb]] F1) {c:Code} {below:ag} {Q:Flow→af→Prop} (hb:below.length≤70)
    (hp:([(fr,F1),(rw,lst (bJ rs) er)]++(bV rs++F)).Perm M)
    (hQ:∀(rs':List Ad) (er':Nat) (F2:Obj),fy rs'→rs'.map Ad.key=e9 (rs.map Ad.key) x→FrO w.2 [(sj,.ref a),(sM,.ref rw),(lb,.int x tx)] [] F2→Q .next ([(fr,F2),(rw,lst (bJ rs') er')]++(bV rs'++F))):
    Tr w b1 b2 b3 (cx c below) (assign (.Name lb (d0 lp)) (aR fr) (.int x tx)>>=fun _=>execs [o9 0] (aR fr)) M (yC Q):=by
  have hvl:(bJ rs).length=rs.length:=B0 _
  have hkl:(rs.map Ad.key).length=rs.length:=B0 _
  refine Tr.asApp (a:= []) (b:= [o9 0]) (wx fr a rw tx x hF1 (by exact lk hb rfl) (F:= [(rw,lst (bJ rs) er)]++(bV rs++F)) (by exact bk [_,_] [_,_,_] (.a (.l [0] .z) (.a (.l [1] .z) (.a (.v 0) (.v 1)))) (.v 2) (.a (.l [0,1] .z) (.a (.v 0) (.v 1))) (.v 2) hp rfl) fun N tk F2 hF2=>.inl ⟨rfl,?_⟩)
  refine Tr.single (vL (test:=cB oa) (body:= [fQ (cC oa) 0]) (orelse:= []) (vr (x:=mT 0) (y:=mT 1) (wy fr a rw tx x (bJ rs) er _ (by exact j8 hvl hl rfl) rfl hF2 (by exact lk hb rfl) (F:=bV rs++F) (by exact aO [_,_] [_,_] (.a (.l [0,1] .z) (.a (.v 0) (.v 1))) (.a (.l [0] .z) (.a (.l [1] .z) (.a (.v 0) (.v 1)))) rfl) fun N3 tk3 F3 hF3=>?_)))
  rw [hvl]
  cases hlt:decide (((rs.length:Nat):Int) < 8)
  · refine Tr.nil ⟨_,[],?_,hQ rs er F3 hok ?_ hF3⟩
    · exact aO [_,_] [_,_] (.a (.l [0,1] .z) (.a (.v 0) (.v 1))) (.a (.a (.l [0,1] .z) (.a (.v 0) (.v 1))) .z) rfl
    · unfold e9;rw [hkl,hlt];rfl
  · refine gm (l:=bA (mT 1) 0) (r:=bA (mT 1) 1) (op:=.NotIn) rfl ?_
    refine wA fr a rw tx x hF3 (by exact lk hb rfl) (bel':=fun l=>l.length≤80) (fun l hl=>by exact eA hl hb rfl) (F:= [(rw,lst (bJ rs) er)]++(bV rs++F)) (by exact aO [_,_] [_,_] (.a (.l [0] .z) (.a (.l [1] .z) (.a (.v 0) (.v 1)))) (.a (.l [0,1] .z) (.a (.v 0) (.v 1))) rfl) fun N4 tk4 F4 hN4 hF4=>?_
    refine k7 x tx (fun l h=>h) (E0 _) fun r t u=>?_
    refine ⟨r,[(r,aS [.str (bb x) t,.str (bB x) u]),(fr,F4),(rw,lst (bJ rs) er)]++(bV rs++F),rfl,by exact aO [_,_,_] [_,_] (.a .z (.a (.l [0,1,2] .z) (.a (.v 0) (.v 1)))) (.a (.l [0] .z) (.a (.l [1] .z) (.a (.l [2] .z) (.a (.v 0) (.v 1))))) rfl,fun N5 tk5=>?_⟩
    refine ww fr a rw tx x hF4 (by exact lk hb rfl) (F:= [(r,aS [.str (bb x) t,.str (bB x) u]),(rw,lst (bJ rs) er)]++(bV rs++F)) (by exact aO [_,_,_] [_,_] (.a (.l [0] .z) (.a (.l [1,2] .z) (.a (.v 0) (.v 1)))) (.a .z (.a (.l [1,0,2] .z) (.a (.v 0) (.v 1)))) rfl) fun N6 tk6 F6 hF6=>?_
    refine mM (xs:=rs.map Ad.dat) (d:=.tuple [.str (bb x),.str (bB x)]) (by exact lk hb rfl) (Rd.list (vs:=bJ rs) (n:=er) (by simp) (lX rs fun q hq=>by
      have:=tO hq
      simp [this])) (Rd.tuple (vs:= [.str (bb x) t,.str (bB x) u]) (by simp) (.cons (.str _ _) (.cons (.str _ _) .nil))) (kE hok) (by simp [X3,O2,qx x,(yV x).1]) (by simp [K6,Y4];lia) ⟨_,rfl,?_⟩
    rw [tQ]
    cases hc:(rs.map Ad.key).contains (bb x,bB x)
    · refine wz fr a rw tx x (bJ rs) er hF6 (by exact lk hb rfl) (bel':=fun l=>l.length≤80) (fun l hl=>by exact eA hl hb rfl) (F:= [(r,aS [.str (bb x) t,.str (bB x) u])]++(bV rs++F)) (by exact aO [_,_,_] [_,_] (.a (.l [0,1] .z) (.a (.l [2] .z) (.a (.v 0) (.v 1)))) (.a (.l [0] .z) (.a (.l [2,1] .z) (.a (.v 0) (.v 1)))) rfl) fun N7 tk7 F7 hN7 hF7=>?_
      refine k7 x tx (fun l h=>h) (E0 _) fun r2 t2 u2=>?_
      refine ⟨r2,[(fr,F7),(r2,aS [.str (bb x) t2,.str (bB x) u2]),(r,aS [.str (bb x) t,.str (bB x) u])]++(bV rs++F),by exact j8 hvl hl rfl,rfl,by exact aO [_,_,_,_] [_,_] (.a (.l [0] .z) (.a (.l [1,2,3] .z) (.a (.v 0) (.v 1)))) (.a (.l [2] .z) (.a (.l [1,0] .z) (.a (.l [3] .z) (.a (.v 0) (.v 1))))) rfl,fun N8 tk8=>?_⟩
      refine ⟨_,[(r,aS [.str (bb x) t,.str (bB x) u])],?_,hQ (rs++ [⟨r2,bb x,bB x,t2,u2⟩]) (er+1) F7 ?_ ?_ hF7⟩
      · have e1:bJ (rs++ [⟨r2,bb x,bB x,t2,u2⟩])=bJ rs++ [.ref r2]:=by unfold bJ;rw [A0];rfl
        have e2:bV (rs++ [⟨r2,bb x,bB x,t2,u2⟩])=bV rs++ [(r2,aS [.str (bb x) t2,.str (bB x) u2])]:=by unfold bV;rw [A0];rfl
        rw [e1,e2]
        exact aO [_,_,_,_] [_,_] (.a (.l [0] .z) (.a (.l [1,2,3] .z) (.a (.v 0) (.v 1)))) (.a (.a (.l [1,0] .z) (.a (.a (.v 0) (.l [2] .z)) (.v 1))) (.l [3] .z)) rfl
      · intro q hq
        rcases A1.mp hq with hq | hq
        · exact hok q hq
        · rcases Z0.mp hq with rfl | hq
          · exact ⟨qx x,yV x⟩
          · cases hq
      · unfold e9;rw [hkl,hlt,hc,A0];rfl
    · refine Tr.nil ⟨_,[(r,aS [.str (bb x) t,.str (bB x) u])],?_,hQ rs er F6 hok ?_ hF6⟩
      · exact aO [_,_,_] [_,_] (.a (.l [0] .z) (.a (.l [1,2] .z) (.a (.v 0) (.v 1)))) (.a (.a (.l [0,2] .z) (.a (.v 0) (.v 1))) (.l [1] .z)) rfl
      · unfold e9;rw [hkl,hlt,hc];rfl
theorem oy (row:List (PySem.Str × PySem.Str)) (n:Int) (h:row.length≤8):(e9 row n).length≤8:=by
  unfold e9
  split
  · rename_i hc
    have:=of_decide_eq_true (B3.mp hc).1
    rw [N0,J0,Z3]
    lia
  · exact h
inductive Jas (w:World) (F:af) (a:Nat) (ps:List (Int × Nat)) (fr:Nat) (N1:Nat) (i:Nat) (L:af):Prop | mk (rs:List Ad) (er:Nat) (F3:Obj) (_:fy rs) (_:rs.length≤8) (_:rs.map Ad.key=((ps.map (·.1)).take i).foldl e9 []) (_:FrO w.2 [(sj,.ref a),(sM,.ref N1)] [[lb]] F3) (_:L= [(fr,F3),(N1,lst (bJ rs) er)]++(bV rs++F)):Jas w F a ps fr N1 i L
theorem lD (a ep:Nat) (ps:List (Int × Nat)) (hps:ps.length≤100) (hb:∀l,bel l→l.length≤50) (hp:([(a,lst (ps.map iv) ep)]++F).Perm M)
    (hQ:∀(r er:Nat) (rs:List Ad),fy rs→rs.length≤8→rs.map Ad.key=gG (ps.map (·.1))→Q (.ok (.ret (.ref r))) ([(r,lst (bJ rs) er)]++(bV rs++([(a,lst (ps.map iv) ep)]++F)))):Con w b1 b2 b3 bel (.call (.ref eG) ⟨[.ref a],[]⟩) M Q:=by
  have hb':∀l,bel l→l.length≤96:=fun l h=>by have:=hb l h;exact lk this rfl
  refine tP a hb' (F:=M) (E0 _) fun N tk F0 hN hF0=>?_
  generalize N+0=fr at *
  refine Con.func fun below ao=>?_
  have hbl:=hb _ ao
  refine Tr.lax ?_
  refine Tr.cons (wD fr a hF0 (by exact lk hbl rfl) (F:=M) (E0 _) fun N1 tk1 F1 hF1=>.inl ⟨rfl,?_⟩)
  refine Tr.cons (wC fr a N1 (ps.map iv) ep hF1 (by exact lk hbl rfl) (bel':=fun l=>l.length≤70) (fun l hl=>by exact eA hl hbl rfl) (F:= [(N1+0,lst [] 0)]++F) (by exact bk [_,_,_] [_,_] (.a (.l [1,0] .z) (.a (.l [2] .z) (.v 0))) (.a (.l [1,2] .z) (.v 1)) (.a (.l [0] .z) (.v 0)) (.v 1) hp rfl) fun N2 tk2 F2 hN2 hF2=>?_)
  refine Con.lax (Con.perm (dS (Jas w F a ps fr N1) (fun l h=>by exact lk h rfl) (Iter.listI N2 a ep ps) ?_ ?_ (ps.map (·.1)).length 0 ([(fr,F2),(N1,lst [] 0)]++F) (by exact (P2 _).symm) ⟨[],0,F2,(fun q hq=>(nomatch hq)),by simp,rfl,.inl hF2,rfl⟩) (by exact bk [_,_,_,_,_,_] [_] (.a (.l [0,1] .z) (.a (.l [2,3] .z) (.v 0))) (.a (.l [2,1,4] .z) (.a (.l [5] .z) (.v 0))) (.a (.l [0] .z) (.l [3] .z)) (.a (.l [4] .z) (.l [5] .z)) ((((pe (by rfl))).append ((pe (by rfl))))) rfl))
  · rintro i x hx v ⟨tx,rfl⟩ L ⟨rs,er,F3,hok,hrl,hk,hF3,rfl⟩ below2 hbl2
    refine Tr.mono (Tr.lax (vq (tx:=tx) x rs er hok (by exact lk hrl rfl) hF3 (by exact hbl2) (F:= [(N2,b8 "list_iterator" (.ref a) (i+1)),(a,lst (ps.map iv) ep)]++F) (by exact aO [_,_,_,_] [_,_] (.a (.l [0,1] .z) (.a (.v 0) (.a (.l [2,3] .z) (.v 1)))) (.a (.l [2,3] .z) (.a (.l [0,1] .z) (.a (.v 0) (.v 1)))) rfl) (Q:=fun f L'=>f= .next∧∃L'',L'.Perm ([(N2,b8 "list_iterator" (.ref a) (i+1)),(a,lst (ps.map iv) ep)]++L'')∧Jas w F a ps fr N1 (i+1) L'') fun rs' er' F4 hok' hk' hF4=>⟨rfl,[(fr,F4),(N1,lst (bJ rs') er')]++(bV rs'++F),by exact aO [_,_,_,_] [_,_] (.a (.l [0,1] .z) (.a (.v 0) (.a (.l [2,3] .z) (.v 1)))) (.a (.l [2,3] .z) (.a (.l [0,1] .z) (.a (.v 0) (.v 1)))) rfl,rs',er',F4,hok',?_,?_,.inr ⟨_,hF4⟩,rfl⟩)) fun f L' ⟨h1,L2,h2,h3⟩=>.inl ⟨.inl h1,L2,h2,h3⟩
    · have h1:=congrArg List.length hk'
      rw [B0] at h1
      rw [h1]
      exact oy _ _ (by rw [B0];exact hrl)
    · obtain ⟨hi,e⟩:=C1.mp hx
      rw [hk',hk,Y1 hi,H5,e];rfl
  · rintro L ⟨rs,er,F3,hok,hrl,hk,hF3,rfl⟩
    rw [C3] at hk
    refine ⟨_,[],by rw [U0],rfl,.inl ⟨rfl,?_⟩⟩
    refine wB fr a N1 hF3 (by exact lk hbl rfl) (F:= [(N2,b8 "list_iterator" .none ps.length),(a,lst (ps.map iv) ep),(N1,lst (bJ rs) er)]++(bV rs++F)) (by exact aO [_,_,_,_] [_,_] (.a (.l [0] .z) (.a (.l [1,2,3] .z) (.a (.v 0) (.v 1)))) (.a (.l [1,2] .z) (.a (.l [0,3] .z) (.a (.v 0) (.v 1)))) rfl) fun N4 tk4=>⟨_,[(N2,b8 "list_iterator" .none ps.length)],?_,hQ N1 er rs hok hrl hk⟩
    exact aO [_,_,_] [_,_] (.a .z (.a (.l [0,1,2] .z) (.a (.v 0) (.v 1)))) (.a (.a (.l [2] .z) (.a (.v 0) (.a (.l [1] .z) (.v 1)))) (.l [0] .z)) rfl
end
section
variable {w:World} {b1 b2 b3:Bool} {bel bel':ag→Prop} {c:Code} {below:ag} {F M:af}
theorem vA (s:Nat) {Q:Result→af→Prop} (hb:∀l,bel l→l.length≤96) (hp:([]++F).Perm M) (H:∀(N tk:Nat) (aq:Obj),aJ≤N→FrO w.2 [(s5,.ref s)] [] aq→Con w b1 b2 b3 bel (.func [eF 0,eF 1] (fZ (N+0))) ([(N+0,aq)]++F) Q):Con w b1 b2 b3 bel (.call (.ref i7) ⟨[.ref s],[]⟩) M Q:=
  Con.of fun below p ao=>aK fun N tk hN=>Stp.loop [1,0,1,1,0] [0] [] _ 1 1 _ hp (hb _ ao) (fun hap=>a8) rfl (by rfl) ao (H N tk _ hN (fO (bL id 0 [tk+0]) 1 (#[]))) (rl (by kernel_rfl!))
theorem yt (fr:Nat) (s d n2i r t1 t2 t3 t4 ep:Nat) (pa:Int) (pt:Nat) (fi:Int) (ft:Nat) (h0:decide (fi < pa)=true) {al:Obj} (ai:FrO w.2 [(s5,.ref s)] [] al) {Q:Flow→af→Prop} (hb:below.length≤96) (hp:([(fr,al),(s,aP bM d),(d,aB w.2 t1 t2 t3 t4 n2i (.ref r) (.int pa pt) (.int fi ft) ep)]++F).Perm M) (H:∀(N tk:Nat),Q (.ret (.bool true)) ([(s,aP bM d),(d,aB w.2 t1 t2 t3 t4 n2i (.ref r) (.int pa pt) (.int fi ft) ep)]++F)):Tr w b1 b2 b3 (cx c below) (execs [eF 0,eF 1] (fZ fr)) M Q:=
  Tr.st fun p=>aZ ai hp fun aw ah aj av=>aK fun N tk hN=>Stp.fin [1,2,0,0,0,0,2,0,0,0,2,2,0,3,1,2,0,0,0,0,2,0,0,0,2,2,0,3,1,2,0,0,0,0,2,0,0,0,2,2,0,3,1] [1,2] [yG fi pa ft pt true] _ 0 3 _ av aa hb (fun hap=>a9 (fp _ _ _ _ _ h0) a8) rfl ⟨_,rfl,(H N tk)⟩ (rf (by kernel_rfl!))
theorem vz (fr:Nat) (s d n2i r t1 t2 t3 t4 ep:Nat) (pa:Int) (pt:Nat) (fi:Int) (ft:Nat) (er:Nat) (h0:decide (fi < pa)=false) {al:Obj} (ai:FrO w.2 [(s5,.ref s)] [] al) {Q:Flow→af→Prop} (hb:below.length≤96) (hp:([(fr,al),(s,aP bM d),(d,aB w.2 t1 t2 t3 t4 n2i (.ref r) (.int pa pt) (.int fi ft) ep),(r,lst ([]:List Value) er)]++F).Perm M) (H:∀(N tk:Nat),Q (.ret (.bool false)) ([(s,aP bM d),(d,aB w.2 t1 t2 t3 t4 n2i (.ref r) (.int pa pt) (.int fi ft) ep),(r,lst ([]:List Value) er)]++F)):Tr w b1 b2 b3 (cx c below) (execs [eF 0,eF 1] (fZ fr)) M Q:=
  Tr.st fun p=>aZ ai hp fun aw ah aj av=>aK fun N tk hN=>Stp.fin [1,2,0,0,0,0,2,0,0,0,2,2,0,3,1,2,0,0,0,0,2,0,0,0,2,2,0,3,1,2,0,0,0,0,2,0,0,0,2,2,0,3,1,0,0,1,2,0,0,0,0,2,0,0,0,2,2,0,3,0,0,4,4,2,0] [1,2,3] [yG fi pa ft pt false,nH 3 r ([]:List Value) er (tk+4) 0] _ 0 6 _ av aa hb (fun hap=>a9 (fp _ _ _ _ _ h0) (a9 (jP _ _ _ _ rfl (Y3 _)) a8)) rfl ⟨_,rfl,(H N tk)⟩ (rf (by kernel_rfl!))
theorem vy (fr:Nat) (s d n2i r t1 t2 t3 t4 ep:Nat) (pa:Int) (pt:Nat) (fi:Int) (ft:Nat) (v:Value) (vs:List Value) (er:Nat) (h0:decide (fi < pa)=false) (hv:vs.length+1≤1000) {al:Obj} (ai:FrO w.2 [(s5,.ref s)] [] al) {Q:Flow→af→Prop} (hb:below.length≤96) (hp:([(fr,al),(s,aP bM d),(d,aB w.2 t1 t2 t3 t4 n2i (.ref r) (.int pa pt) (.int fi ft) ep),(r,lst (v::vs) er)]++F).Perm M) (H:∀(N tk:Nat),Q (.ret (.bool true)) ([(s,aP bM d),(d,aB w.2 t1 t2 t3 t4 n2i (.ref r) (.int pa pt) (.int fi ft) ep),(r,lst (v::vs) er)]++F)):Tr w b1 b2 b3 (cx c below) (execs [eF 0,eF 1] (fZ fr)) M Q:=
  Tr.st fun p=>aZ ai hp fun aw ah aj av=>aK fun N tk hN=>Stp.fin [1,2,0,0,0,0,2,0,0,0,2,2,0,3,1,2,0,0,0,0,2,0,0,0,2,2,0,3,1,2,0,0,0,0,2,0,0,0,2,2,0,3,1,0,0,1,2,0,0,0,0,2,0,0,0,2,2,0,3,0,0,4,4,2,0] [1,2,3] [yG fi pa ft pt false,nH 3 r (v::vs) er (tk+4) ((vs.length:Nat)+1)] _ 0 6 _ av aa hb (fun hap=>a9 (fp _ _ _ _ _ h0) (a9 (jP _ _ _ _ rfl hv) a8)) rfl ⟨_,rfl,(H N tk)⟩ (rf (by kernel_rfl!))
end
section
variable {w:World} {b1 b2 b3:Bool} {bel:ag→Prop} {F M:af} {Q:Result→af→Prop}
theorem rP (hb:∀l,bel l→l.length≤90) (vs:List Value) (r er:Nat) {G:So} (hr:G.rdy= .ref r) (hv:vs.length≤900) (hp:([(r,lst vs er)]++(aU w G++F)).Perm M)
    (hQ:∀β,β=(decide (G.fin.1 < G.pas.1) || !vs.isEmpty)→Q (.ok (.ret (.bool β))) ([(r,lst vs er)]++(aU w G++F))):Con w b1 b2 b3 bel (.call (.ref i7) ⟨[.ref G.s],[]⟩) M Q:=by
  have hb':∀l,bel l→l.length≤96:=fun l h=>M0 (hb l h) (by decide)
  refine vA G.s hb' (F:=M) (E0 _) fun N tk F0 hN hF0=>?_
  generalize N+0=fr at *
  refine Con.func fun below ao=>?_
  have hbl:=hb _ ao
  refine Tr.lax ?_
  cases h:decide (G.fin.1 < G.pas.1) with
  | true=>
    refine yt fr G.s G.d G.n2i r G.t1 G.t2 G.t3 G.t4 G.ep G.pas.1 G.pas.2 G.fin.1 G.fin.2 h hF0 (by exact lk hbl rfl) (F:= [(r,lst vs er),(G.n2i,ak G.tab G.ep')]++(bs G.nodes++b6 G.nodes++F)) ?_ fun N1 tk1=>bK ?_ (hQ true (by rw [h];rfl))
    · exact bk [_,_,_,_,_,_] [_,_,_,_] (.a (.l [4,1,5] .z) (.a (.l [0,3] .z) (.a (.a (.v 0) (.v 1)) (.v 2)))) (.a (.l [4] .z) (.v 3)) (.a (.a (.l [0] .z) (.a (.a (.l [1,2,3] .z) (.a (.v 0) (.v 1))) (.v 2))) (.l [5] .z)) (.a (.v 3) (.l [2] .z)) ((hp.append ((pe (by simp only [hr,iv,am,aU,cD,So.dict,NI.obj,NI.lst,Q0,A0,H0,P0]))))) rfl
    · exact bk [_,_,_,_,_] [_,_,_] (.a (.l [0,1] .z) (.a (.l [2,3] .z) (.a (.a (.v 0) (.v 1)) (.v 2)))) (.a (.l [2] .z) (.a (.a (.l [0,4,3] .z) (.a (.v 0) (.v 1))) (.v 2))) (.l [1] .z) (.l [4] .z) ((pe (by simp only [hr,iv,am,aU,cD,So.dict,NI.obj,NI.lst,Q0,A0,H0,P0]))) rfl
  | false=>
    cases vs with
    | nil=>
      refine vz fr G.s G.d G.n2i r G.t1 G.t2 G.t3 G.t4 G.ep G.pas.1 G.pas.2 G.fin.1 G.fin.2 er h hF0 (by exact lk hbl rfl) (F:= [(G.n2i,ak G.tab G.ep')]++(bs G.nodes++b6 G.nodes++F)) ?_ fun N1 tk1=>bK ?_ (hQ false (by rw [h];rfl))
      · exact bk [_,_,_,_,_,_] [_,_,_,_] (.a (.l [4,1,5,0] .z) (.a (.l [3] .z) (.a (.a (.v 0) (.v 1)) (.v 2)))) (.a (.l [4] .z) (.v 3)) (.a (.a (.l [0] .z) (.a (.a (.l [1,2,3] .z) (.a (.v 0) (.v 1))) (.v 2))) (.l [5] .z)) (.a (.v 3) (.l [2] .z)) ((hp.append ((pe (by simp only [hr,iv,am,aU,cD,So.dict,NI.obj,NI.lst,Q0,A0,H0,P0]))))) rfl
      · exact bk [_,_,_,_,_] [_,_,_] (.a (.l [0,1,2] .z) (.a (.l [3] .z) (.a (.a (.v 0) (.v 1)) (.v 2)))) (.a (.l [2] .z) (.a (.a (.l [0,4,3] .z) (.a (.v 0) (.v 1))) (.v 2))) (.l [1] .z) (.l [4] .z) ((pe (by simp only [hr,iv,am,aU,cD,So.dict,NI.obj,NI.lst,Q0,A0,H0,P0]))) rfl
    | cons v vs=>
      refine vy fr G.s G.d G.n2i r G.t1 G.t2 G.t3 G.t4 G.ep G.pas.1 G.pas.2 G.fin.1 G.fin.2 v vs er h (by exact lk hv rfl) hF0 (by exact lk hbl rfl) (F:= [(G.n2i,ak G.tab G.ep')]++(bs G.nodes++b6 G.nodes++F)) ?_ fun N1 tk1=>bK ?_ (hQ true (by rw [h];rfl))
      · exact bk [_,_,_,_,_,_] [_,_,_,_] (.a (.l [4,1,5,0] .z) (.a (.l [3] .z) (.a (.a (.v 0) (.v 1)) (.v 2)))) (.a (.l [4] .z) (.v 3)) (.a (.a (.l [0] .z) (.a (.a (.l [1,2,3] .z) (.a (.v 0) (.v 1))) (.v 2))) (.l [5] .z)) (.a (.v 3) (.l [2] .z)) ((hp.append ((pe (by simp only [hr,iv,am,aU,cD,So.dict,NI.obj,NI.lst,Q0,A0,H0,P0]))))) rfl
      · exact bk [_,_,_,_,_] [_,_,_] (.a (.l [0,1,2] .z) (.a (.l [3] .z) (.a (.a (.v 0) (.v 1)) (.v 2)))) (.a (.l [2] .z) (.a (.a (.l [0,4,3] .z) (.a (.v 0) (.v 1))) (.v 2))) (.l [1] .z) (.l [4] .z) ((pe (by simp only [hr,iv,am,aU,cD,So.dict,NI.obj,NI.lst,Q0,A0,H0,P0]))) rfl
end
noncomputable abbrev nG (j i l a:Nat) (vs:List Value) (n:Nat) (lo hi:Option (Int × Nat)) (out:List Value) (z:Nat):bX:={code:=.call (.builtin "list.__getitem__") ⟨[.ref l,.ref a],[]⟩,need:= [(j,lst vs n),(i,wn (partValue lo) (partValue hi))],news:= [lst out 0],res:=.ok (.ret (.ref z)),sz:=some z}
theorem kI (o:Option (Int × Nat)):IsPart (partValue o) (o.map (·.1)):=by
  cases o with
  | none=>exact .none
  | some q=>exact .int _ _
theorem dN {P:Pm} {j i l a:Nat} (vs:List Value) (n:Nat) (lo hi:Option (Int × Nat)) (out:List Value) (z:Nat) (hl:vs.length≤16777216) (hout:slicePick vs.toArray (lo.map (·.1)) (hi.map (·.1)) none=out.toArray) (hj:P.adr j=l:=by rfl) (hi':P.adr i=a:=by rfl):aC P (nG j i l a vs n lo hi out z):=by
  refine az fun A s _ _ hn _ hz _=>?_
  have ho:s.heap.get? l=some (lst vs n):=by have:=hn _ (.head _);rw [hj] at this;exact this
  have hos:s.heap.get? a=some (wn (partValue lo) (partValue hi)):=by have:=hn _ (.tail _ (.head _));rw [hi'] at this;exact this
  have hz:=hz z rfl
  subst hz
  refine b0 F.slot_list_getitem (ay ho rfl) F.entry_list_getitem (F.args_list_getitem_2 _ _) (S:=fun A R s=>s.heap.get? l=some (lst vs n)∧s.heap.get? a=some (wn (partValue lo) (partValue hi))∧R (.ok (.ret (.ref s.heap.objs.size))) {s with heap:=s.heap.push (lst out 0)}) ?_ ⟨ho,hos,?_⟩
  · refine .of_wp fun A R s ⟨ho,hos,h⟩=>?_
    have hTs:s.TypeIs (.ref a) "slice":=⟨_,hos,rfl⟩
    show wpAny _ _ (Builtin.List.listSubscript? (.ref a)>>=_) _ _ s
    refine C0 ?_
    unfold Builtin.List.listSubscript?
    refine C0 (wpAny_specialOf hTs slice_no_index ?_)
    simp only [Option.isNone_none,if_true]
    refine I0 ?_
    show wpAny _ _ (typeOf (.ref a)>>=_) _ _ s
    refine C0 (wpAny_typeOf hTs ?_)
    rw [if_neg (by decide)]
    rw [listSliceParts_eq]
    refine C0 (C0 (wpAny_field hos rfl (x:=.none) rfl (C0 (wpAny_listPart .none ?_))))
    rw [if_neg (by decide)]
    refine C0 (wpAny_field hos rfl (x:=partValue lo) rfl (C0 (wpAny_listPart (kI lo) ?_)))
    refine C0 (wpAny_field hos rfl (x:=partValue hi) rfl (C0 (wpAny_listPart (kI hi) (I0 ?_))))
    refine C0 (m:=Builtin.List.listItems (.ref l)) ?_
    unfold Builtin.List.listItems
    refine C0 (wpAny_seqItems ho rfl (I0 ?_))
    refine C0 (wpAny_of_eq (sliceIndices_raw (lo.map (·.1)) (hi.map (·.1)) none vs.toArray.size (by simp)) ?_)
    refine C0 (wpAny_newObj_type (I0 ⟨_,rfl,?_⟩) (M0 (slicePick_size_le vs.toArray (lo.map (·.1)) (hi.map (·.1)) none) (by show vs.length≤sizeLine;exact hl)))
    have e2:({cls:=.type "list",data:=.seq (slicePick vs.toArray (lo.map (·.1)) (hi.map (·.1)) none)}:Obj)=lst out 0:=by rw [hout];rfl
    rw [←e2] at h
    exact h
  · exact ⟨rfl,_,rfl,dd rfl rfl rfl⟩
theorem oF (vs:List Value) (b:Nat):slicePick vs.toArray none (some (b:Int)) none=(vs.take b).toArray:=slicePick_upto' _ _
theorem oH (vs:List Value) (v:Value):slicePick (vs++ [v]).toArray none (some (-1)) none=vs.toArray:=by
  have h:=slicePick_butLast (vs++ [v]).toArray 1 (S0 _)
  rw [show (-((1:Nat):Int))= -1 from rfl] at h
  rw [h]
  simp
theorem oG (vs:List Value) (v:Value):slicePick (v::vs).toArray (some 1) none none=vs.toArray:=by
  have h:=slicePick_from' (v::vs).toArray 1
  rw [show ((1:Nat):Int)=1 from rfl] at h
  rw [h]
  simp
section
variable {w:World} {b1 b2 b3:Bool} {bel bel':ag→Prop} {c:Code} {below:ag} {F M:af}
noncomputable abbrev g8 (f s:Nat):Obj:=⟨.type "method",none,.fields ⟨[.ref f,.ref s]⟩,#[]⟩
noncomputable abbrev nn:Stmt:=(c6 1)
noncomputable abbrev vX (j:Nat):Stmt:=fQ (cC nn) j
noncomputable abbrev vK (it fr:Nat):Code:=.forLoop (.Name sy (d0 nn)) (.ref it) [vX 0] [] (ax fr)
noncomputable abbrev eK:Stmt:=(c6 2)
noncomputable abbrev i0 (j:Nat):Stmt:=fQ (cC eK) j
noncomputable abbrev vJ (it fr:Nat):Code:=.forLoop (.Name sy (d0 eK)) (.ref it) [i0 0] [] (ax fr)
noncomputable abbrev gH:Stmt:=(c6 6)
noncomputable abbrev bU (j:Nat):Stmt:=fQ (cC gH) j
noncomputable abbrev whW:Stmt:=.While (cB gH) [bU 0,bU 1,bU 2,bU 3,bU 4] [] (qf gH)
noncomputable abbrev wcW (fr:Nat):Code:=.whileLoop (cB gH) [bU 0,bU 1,bU 2,bU 3,bU 4] [] (ax fr)
noncomputable abbrev iT:Expr:=dI (c6 4)
noncomputable abbrev r4 (fr lc:Nat):Env:={scope:=bD iT,locals:=lc,globals:=3,cells:= [],qual:=nh++".<locals>.",func:=none,code:=.ref nz,frame:=some fr,builtins:=0}
noncomputable abbrev zd:Expr:=.ListComp (dj iT) [⟨.Name sy (dm (aL iT) 0),pD (aL iT) 0,[],0⟩] (bD iT) (j3 iT)
noncomputable abbrev vS (it acc fr lc:Nat):Code:=.compStart zd 0 (.ref it) (.ref acc) (r4 fr lc)
noncomputable abbrev iS:Expr:=bA (dI (fQ (cC gH) 4)) 1
noncomputable abbrev r3 (fr lc:Nat):Env:={scope:=bD iS,locals:=lc,globals:=3,cells:= [],qual:=nh++".<locals>.",func:=none,code:=.ref nz,frame:=some fr,builtins:=0}
noncomputable abbrev zc:Expr:=.ListComp (dj iS) [⟨.Name sy (dm (aL iS) 0),pD (aL iS) 0,[],0⟩] (bD iS) (j3 iS)
noncomputable abbrev vR (it acc fr lc:Nat):Code:=.compStart zc 0 (.ref it) (.ref acc) (r3 fr lc)
theorem te (a:Nat) (la:Bool) {Q:Result→af→Prop} (hb:∀l,bel l→l.length≤96) (hp:([]++F).Perm M) (H:∀(N tk:Nat) (aq:Obj),aJ≤N→FrO w.2 [(s7,.ref a),(sd,.bool la)] [] aq→Con w b1 b2 b3 bel (.func [c6 0,c6 1,c6 2,c6 3,c6 4,c6 5,whW,c6 7,c6 8] (ax (N+0))) ([(N+0,aq)]++F) Q):Con w b1 b2 b3 bel (.call (.ref k8) ⟨[.ref a,.bool la],[]⟩) M Q:=
  Con.of fun below p ao=>aK fun N tk hN=>Stp.loop [1,0,1,1,1,1,0] [0] [] _ 1 2 _ hp (hb _ ao) (fun hap=>a8) rfl (by rfl) ao (H N tk _ hN (fO (bL id 0 [tk+0,tk+1]) 2 (#[]))) (rl (by kernel_rfl!))
theorem wg (fr a:Nat) (la:Bool) {al:Obj} (ai:FrO w.2 [(s7,.ref a),(sd,.bool la)] [] al) {Q:Flow→af→Prop} (hb:below.length≤96) (au:∀l:ag,l.length≤below.length+9→bel' l) (hp:([(fr,al)]++F).Perm M) (H:∀(N tk:Nat) (aq:Obj),aJ≤N→FrO w.2 [(s7,.ref a),(sd,.bool la)] [] aq→Con w b1 b2 b3 bel' (.call (.ref bM) ⟨[],[]⟩) ([(fr,aq)]++F) fun r L₂=>∃(s:Nat) (cb:Obj) (X1:af),r= .ok (.ret (.ref s))∧FrO w.2 [(s7,.ref a),(sd,.bool la)] [] cb∧([(fr,cb)]++X1).Perm L₂∧(∀(N1 tk1:Nat) (iX:Obj),FrO w.2 [(s7,.ref a),(sd,.bool la),(s8,.ref s)] [] iX→Q (.next) ([(fr,iX)]++X1))):Tr w b1 b2 b3 (cx c below) (execs [c6 0] (ax fr)) M Q:=
  Tr.st fun p=>aZ ai hp fun aw ah aj av=>aK fun N tk hN=>Stp.at [0,0,0] [0] [] _ 0 0 _ av aa hb (fun hap=>a8) rfl au (H N tk _ hN (fO aw ah aj)) (fun r L₂ hq=>pE hq fun s cb X1 hh1=>aZ hh1.2.1 hh1.2.2.1 fun eP bZ ea bO=>c9 hh1.1 fun aQ N1 tk1 hN=>Stp.fin [1,1] [0] [] _ 0 1 _ bO aQ hb (fun hap=>a8) rfl ⟨_,rfl,(hh1.2.2.2 N1 tk1 _ (fO (bL eP 2 [tk1+0]) (bZ+1) ea))⟩ (rf (by kernel_rfl!))) (ra (by kernel_rfl!))
theorem wf (fr a:Nat) (la:Bool) (s:Nat) (vs:List Value) (epv:Nat) (hl:vs.length≤1000) {al:Obj} (ai:FrO w.2 [(s7,.ref a),(sd,.bool la),(s8,.ref s)] [] al) {Q:Flow→af→Prop} (hb:below.length≤96) (au:∀l:ag,l.length≤below.length+9→bel' l) (hp:([(fr,al),(a,lst vs epv)]++F).Perm M) (H:∀(N tk:Nat) (aq:Obj),aJ≤N→FrO w.2 [(s7,.ref a),(sd,.bool la),(s8,.ref s)] [] aq→Con w b1 b2 b3 bel' (vK (N+1) fr) ([(fr,aq),(a,lst vs epv),(N+1,cN 0 (vs.length:Nat))]++F) fun r L₂=>r= .ok .next∧Q (.next) L₂):Tr w b1 b2 b3 (cx c below) (execs [c6 1] (ax fr)) M Q:=
  Tr.st fun p=>aZ ai hp fun aw ah aj av=>aK fun N tk hN=>Stp.at [0,0,0,0,1,1,0,0,3,3,0,3,3,3,3,2,4] [0,1,3] [iD 1 a vs epv tk,jh 2 N 0 (vs.length:Nat) (vs.length:Nat) (tk+2) (tk+1) (tk+3) (N+1)] _ 2 4 _ av aa hb (fun hap=>a9 (bR _ _ _ hl) (a9 (b9 0 (vs.length:Nat) (vs.length:Nat) _ _ _ _ ⟨by decide,by decide⟩ ⟨by lia,by lia⟩ (by split<;>(first | rfl | lia))) a8)) rfl au (H N tk _ hN (fO aw ah aj)) (fun r L₂ hq=>c9 hq.1 fun aQ N1 tk1 hN=>Stp.fin [] [] [] _ 0 0 [] (E0 ([]++L₂)) aQ hb (fun hap=>a8) rfl ⟨_,rfl,((fun _ _=>hq.2) N1 tk1)⟩ (rf (by kernel_rfl!))) (ra (by kernel_rfl!))
theorem wc (fr a:Nat) (la:Bool) (s:Nat) (vs:List Value) (epv:Nat) (hl:vs.length≤1000) {al:Obj} (ai:FrO w.2 [(s7,.ref a),(sd,.bool la),(s8,.ref s)] [[sy]] al) {Q:Flow→af→Prop} (hb:below.length≤96) (au:∀l:ag,l.length≤below.length+9→bel' l) (hp:([(fr,al),(a,lst vs epv)]++F).Perm M) (H:∀(N tk:Nat) (aq:Obj),aJ≤N→FrO w.2 [(s7,.ref a),(sd,.bool la),(s8,.ref s)] [[sy]] aq→Con w b1 b2 b3 bel' (vJ (N+1) fr) ([(fr,aq),(a,lst vs epv),(N+1,cN 0 (vs.length:Nat))]++F) fun r L₂=>r= .ok .next∧Q (.next) L₂):Tr w b1 b2 b3 (cx c below) (execs [c6 2] (ax fr)) M Q:=
  Tr.st fun p=>li ai (fun h00=>aZ h00 hp fun aw ah aj av=>aK fun N tk hN=>Stp.at [0,0,0,0,1,1,0,0,3,3,0,3,3,3,3,2,4] [0,1,3] [iD 1 a vs epv tk,jh 2 N 0 (vs.length:Nat) (vs.length:Nat) (tk+2) (tk+1) (tk+3) (N+1)] _ 2 4 _ av aa hb (fun hap=>a9 (bR _ _ _ hl) (a9 (b9 0 (vs.length:Nat) (vs.length:Nat) _ _ _ _ ⟨by decide,by decide⟩ ⟨by lia,by lia⟩ (by split<;>(first | rfl | lia))) a8)) rfl au (H N tk _ hN (fO aw ah aj)) (fun r L₂ hq=>c9 hq.1 fun aQ N1 tk1 hN=>Stp.fin [] [] [] _ 0 0 [] (E0 ([]++L₂)) aQ hb (fun hap=>a8) rfl ⟨_,rfl,((fun _ _=>hq.2) N1 tk1)⟩ (rf (by kernel_rfl!))) (ra (by kernel_rfl!))) (fun o00_0 h00=>aZ h00 hp fun aw ah aj av=>aK fun N tk hN=>Stp.at [0,0,0,0,1,1,0,0,3,3,0,3,3,3,3,2,4] [0,1,3] [iD 1 a vs epv tk,jh 2 N 0 (vs.length:Nat) (vs.length:Nat) (tk+2) (tk+1) (tk+3) (N+1)] _ 2 4 _ av aa hb (fun hap=>a9 (bR _ _ _ hl) (a9 (b9 0 (vs.length:Nat) (vs.length:Nat) _ _ _ _ ⟨by decide,by decide⟩ ⟨by lia,by lia⟩ (by split<;>(first | rfl | lia))) a8)) rfl au (H N tk _ hN (fR o00_0 (fO aw ah aj))) (fun r L₂ hq=>c9 hq.1 fun aQ N1 tk1 hN=>Stp.fin [] [] [] _ 0 0 [] (E0 ([]++L₂)) aQ hb (fun hap=>a8) rfl ⟨_,rfl,((fun _ _=>hq.2) N1 tk1)⟩ (rf (by kernel_rfl!))) (ra (by kernel_rfl!)))
theorem w7 (fr a:Nat) (la:Bool) (s d n2i t1 t2 t3 t4 ep:Nat) (pa fi:Value) (x:Int) (tx:Nat) {al:Obj} (ai:FrO w.2 [(s7,.ref a),(sd,.bool la),(s8,.ref s)] [[sy]] al) {Q:Flow→af→Prop} (hb:below.length≤96) (au:∀l:ag,l.length≤below.length+9→bel' l) (hp:([(fr,al),(s,aP bM d),(d,aB w.2 t1 t2 t3 t4 n2i .none pa fi ep)]++F).Perm M) (H:∀(N tk:Nat) (aq:Obj),aJ≤N→FrO w.2 [(s7,.ref a),(sd,.bool la),(s8,.ref s),(sy,.int x tx)] [] aq→Con w b1 b2 b3 bel' (.call (.ref aM) ⟨[.ref s,.int x tx],[]⟩) ([(fr,aq),(s,aP bM d),(d,aB w.2 t1 t2 t3 t4 n2i .none pa fi ep)]++F) fun r L₂=>r= .ok (.ret .none)∧Q (.next) L₂):Tr w b1 b2 b3 (cx c below) (assign (.Name sy (d0 nn)) (ax fr) (.int x tx)>>=fun _=>execs [vX 0] (ax fr)) M Q:=
  Tr.as fun p=>li ai (fun h00=>aZ h00 hp fun aw ah aj av=>aK fun N tk hN=>Stp.at [1,1,1,2,0,0,0,2,0,0,0,2,0,0,0,0,2,3,1,0] [0,1,2] [] _ 0 1 _ av aa hb (fun hap=>a8) rfl au (H N tk _ hN (fO (bL aw 3 [tk+0]) (ah+1) aj)) (fun r L₂ hq=>c9 hq.1 fun aQ N1 tk1 hN=>Stp.fin [] [] [] _ 0 0 [] (E0 ([]++L₂)) aQ hb (fun hap=>a8) rfl ⟨_,rfl,((fun _ _=>hq.2) N1 tk1)⟩ (rf (by kernel_rfl!))) (ra (by kernel_rfl!))) (fun o00_0 h00=>aZ h00 hp fun aw ah aj av=>aK fun N tk hN=>Stp.at [1,1,1,2,0,0,0,2,0,0,0,2,0,0,0,0,2,3,1,0] [0,1,2] [] _ 0 1 _ av aa hb (fun hap=>a8) rfl au (H N tk _ hN (fO aw ah aj)) (fun r L₂ hq=>c9 hq.1 fun aQ N1 tk1 hN=>Stp.fin [] [] [] _ 0 0 [] (E0 ([]++L₂)) aQ hb (fun hap=>a8) rfl ⟨_,rfl,((fun _ _=>hq.2) N1 tk1)⟩ (rf (by kernel_rfl!))) (ra (by kernel_rfl!)))
theorem tr (fr a:Nat) (la:Bool) (s d n2i t1 t2 t3 t4 ep:Nat) (pa fi:Value) (x:Int) (tx k:Nat) (cs:List Value) (ce0 rr re:Nat) (h0:x=(k:Int)) (h1:cs[k]?=some (.ref rr)) (h2:cs.length≤1000) {al:Obj} (ai:FrO w.2 [(s7,.ref a),(sd,.bool la),(s8,.ref s)] [[sy]] al) {Q:Flow→af→Prop} (hb:below.length≤96) (au:∀l:ag,l.length≤below.length+9→bel' l) (hp:([(fr,al),(s,aP bM d),(d,aB w.2 t1 t2 t3 t4 n2i .none pa fi ep),(a,lst cs ce0),(rr,lst [] re)]++F).Perm M) (H:∀(N tk:Nat) (aq:Obj),aJ≤N→FrO w.2 [(s7,.ref a),(sd,.bool la),(s8,.ref s),(sy,.int x tx)] [] aq→Con w b1 b2 b3 bel' (.call (.ref N) ⟨[.int x tx],[]⟩) ([(fr,aq),(s,aP bM d),(d,aB w.2 t1 t2 t3 t4 n2i .none pa fi ep),(a,lst cs ce0),(rr,lst [] re),(N+0,g8 aM s)]++F) fun r L₂=>r= .ok (.ret .none)∧Q (.next) L₂):Tr w b1 b2 b3 (cx c below) (assign (.Name sy (d0 eK)) (ax fr) (.int x tx)>>=fun _=>execs [i0 0] (ax fr)) M Q:=
  Tr.as fun p=>li ai (fun h00=>aZ h00 hp fun aw ah aj av=>aK fun N tk hN=>Stp.at [1,1,1,2,0,0,0,0,2,0,0,0,0,0,0,2,2,0,3,0,0,0,0,0,1,1,1,4,4,4,1,5,2,7,6,0] [0,1,2,3,4,5] [bG 3 a cs ce0 x tx (.ref rr),g7 4 rr (lst [] re) [] (N+1)] _ 2 2 _ av aa hb (fun hap=>a9 (aX cs ce0 k x tx h0 h1 h2) (a9 (aV _ "list" _ re _ (.inl rfl) rfl rfl (by simp)) a8)) rfl au (H N tk _ hN (fO (bL aw 3 [tk+0]) (ah+1) aj)) (fun r L₂ hq=>c9 hq.1 fun aQ N1 tk1 hN=>Stp.fin [] [] [] _ 0 0 [] (E0 ([]++L₂)) aQ hb (fun hap=>a8) rfl ⟨_,rfl,((fun _ _=>hq.2) N1 tk1)⟩ (rf (by kernel_rfl!))) (ra (by kernel_rfl!))) (fun o00_0 h00=>aZ h00 hp fun aw ah aj av=>aK fun N tk hN=>Stp.at [1,1,1,2,0,0,0,0,2,0,0,0,0,0,0,2,2,0,3,0,0,0,0,0,1,1,1,4,4,4,1,5,2,7,6,0] [0,1,2,3,4,5] [bG 3 a cs ce0 x tx (.ref rr),g7 4 rr (lst [] re) [] (N+1)] _ 2 2 _ av aa hb (fun hap=>a9 (aX cs ce0 k x tx h0 h1 h2) (a9 (aV _ "list" _ re _ (.inl rfl) rfl rfl (by simp)) a8)) rfl au (H N tk _ hN (fO aw ah aj)) (fun r L₂ hq=>c9 hq.1 fun aQ N1 tk1 hN=>Stp.fin [] [] [] _ 0 0 [] (E0 ([]++L₂)) aQ hb (fun hap=>a8) rfl ⟨_,rfl,((fun _ _=>hq.2) N1 tk1)⟩ (rf (by kernel_rfl!))) (ra (by kernel_rfl!)))
theorem q5 (m s:Nat) (x:Int) (tx:Nat) {Q:Result→af→Prop} (hb:∀l,bel l→l.length≤96) (hp:([(m,g8 aM s)]++F).Perm M) (H:∀(N tk:Nat),aJ≤N→Con w b1 b2 b3 bel (.call (.ref aM) ⟨[.ref s,.int x tx],[]⟩) ([]++F) Q):Con w b1 b2 b3 bel (.call (.ref m) ⟨[.int x tx],[]⟩) M Q:=
  Con.of fun below p ao=>aK fun N tk hN=>Stp.loop [0,1] [] [] _ 0 0 _ hp (hb _ ao) (fun hap=>a8) rfl (by rfl) ao (H N tk hN) (rl (by kernel_rfl!))
theorem tq (fr a:Nat) (la:Bool) (s d n2i t1 t2 t3 t4 ep:Nat) (pa fi:Value) (x:Int) (tx k:Nat) (cs:List Value) (ce0 rr re:Nat) (v0:Int) (u0:Nat) (h0:x=(k:Int)) (h1:cs[k]?=some (.ref rr)) (h2:cs.length≤1000) {al:Obj} (ai:FrO w.2 [(s7,.ref a),(sd,.bool la),(s8,.ref s)] [[sy]] al) {Q:Flow→af→Prop} (hb:below.length≤96) (au:∀l:ag,l.length≤below.length+9→bel' l) (hp:([(fr,al),(s,aP bM d),(d,aB w.2 t1 t2 t3 t4 n2i .none pa fi ep),(a,lst cs ce0),(rr,lst [.int v0 u0] re)]++F).Perm M) (H:∀(N tk:Nat) (aq:Obj),aJ≤N→FrO w.2 [(s7,.ref a),(sd,.bool la),(s8,.ref s),(sy,.int x tx)] [] aq→Con w b1 b2 b3 bel' (.call (.ref N) ⟨[.int x tx,.int v0 u0],[]⟩) ([(fr,aq),(s,aP bM d),(d,aB w.2 t1 t2 t3 t4 n2i .none pa fi ep),(a,lst cs ce0),(rr,lst [.int v0 u0] re),(N+0,g8 aM s)]++F) fun r L₂=>r= .ok (.ret .none)∧Q (.next) L₂):Tr w b1 b2 b3 (cx c below) (assign (.Name sy (d0 eK)) (ax fr) (.int x tx)>>=fun _=>execs [i0 0] (ax fr)) M Q:=
  Tr.as fun p=>li ai (fun h00=>aZ h00 hp fun aw ah aj av=>aK fun N tk hN=>Stp.at [1,1,1,2,0,0,0,0,2,0,0,0,0,0,0,2,2,0,3,0,0,0,0,0,1,1,1,4,4,4,1,5,2,7,6,0] [0,1,2,3,4,5] [bG 3 a cs ce0 x tx (.ref rr),g7 4 rr (lst [.int v0 u0] re) [.int v0 u0] (N+1)] _ 2 2 _ av aa hb (fun hap=>a9 (aX cs ce0 k x tx h0 h1 h2) (a9 (aV _ "list" _ re _ (.inl rfl) rfl rfl (by simp)) a8)) rfl au (H N tk _ hN (fO (bL aw 3 [tk+0]) (ah+1) aj)) (fun r L₂ hq=>c9 hq.1 fun aQ N1 tk1 hN=>Stp.fin [] [] [] _ 0 0 [] (E0 ([]++L₂)) aQ hb (fun hap=>a8) rfl ⟨_,rfl,((fun _ _=>hq.2) N1 tk1)⟩ (rf (by kernel_rfl!))) (ra (by kernel_rfl!))) (fun o00_0 h00=>aZ h00 hp fun aw ah aj av=>aK fun N tk hN=>Stp.at [1,1,1,2,0,0,0,0,2,0,0,0,0,0,0,2,2,0,3,0,0,0,0,0,1,1,1,4,4,4,1,5,2,7,6,0] [0,1,2,3,4,5] [bG 3 a cs ce0 x tx (.ref rr),g7 4 rr (lst [.int v0 u0] re) [.int v0 u0] (N+1)] _ 2 2 _ av aa hb (fun hap=>a9 (aX cs ce0 k x tx h0 h1 h2) (a9 (aV _ "list" _ re _ (.inl rfl) rfl rfl (by simp)) a8)) rfl au (H N tk _ hN (fO aw ah aj)) (fun r L₂ hq=>c9 hq.1 fun aQ N1 tk1 hN=>Stp.fin [] [] [] _ 0 0 [] (E0 ([]++L₂)) aQ hb (fun hap=>a8) rfl ⟨_,rfl,((fun _ _=>hq.2) N1 tk1)⟩ (rf (by kernel_rfl!))) (ra (by kernel_rfl!)))
theorem q4 (m s:Nat) (x:Int) (tx:Nat) (v0:Int) (u0:Nat) {Q:Result→af→Prop} (hb:∀l,bel l→l.length≤96) (hp:([(m,g8 aM s)]++F).Perm M) (H:∀(N tk:Nat),aJ≤N→Con w b1 b2 b3 bel (.call (.ref aM) ⟨[.ref s,.int x tx,.int v0 u0],[]⟩) ([]++F) Q):Con w b1 b2 b3 bel (.call (.ref m) ⟨[.int x tx,.int v0 u0],[]⟩) M Q:=
  Con.of fun below p ao=>aK fun N tk hN=>Stp.loop [0,1] [] [] _ 0 0 _ hp (hb _ ao) (fun hap=>a8) rfl (by rfl) ao (H N tk hN) (rl (by kernel_rfl!))
theorem to (fr a:Nat) (la:Bool) (s d n2i t1 t2 t3 t4 ep:Nat) (pa fi:Value) (x:Int) (tx k:Nat) (cs:List Value) (ce0 rr re:Nat) (v0:Int) (u0:Nat) (v1:Int) (u1:Nat) (h0:x=(k:Int)) (h1:cs[k]?=some (.ref rr)) (h2:cs.length≤1000) {al:Obj} (ai:FrO w.2 [(s7,.ref a),(sd,.bool la),(s8,.ref s)] [[sy]] al) {Q:Flow→af→Prop} (hb:below.length≤96) (au:∀l:ag,l.length≤below.length+9→bel' l) (hp:([(fr,al),(s,aP bM d),(d,aB w.2 t1 t2 t3 t4 n2i .none pa fi ep),(a,lst cs ce0),(rr,lst [.int v0 u0,.int v1 u1] re)]++F).Perm M) (H:∀(N tk:Nat) (aq:Obj),aJ≤N→FrO w.2 [(s7,.ref a),(sd,.bool la),(s8,.ref s),(sy,.int x tx)] [] aq→Con w b1 b2 b3 bel' (.call (.ref N) ⟨[.int x tx,.int v0 u0,.int v1 u1],[]⟩) ([(fr,aq),(s,aP bM d),(d,aB w.2 t1 t2 t3 t4 n2i .none pa fi ep),(a,lst cs ce0),(rr,lst [.int v0 u0,.int v1 u1] re),(N+0,g8 aM s)]++F) fun r L₂=>r= .ok (.ret .none)∧Q (.next) L₂):Tr w b1 b2 b3 (cx c below) (assign (.Name sy (d0 eK)) (ax fr) (.int x tx)>>=fun _=>execs [i0 0] (ax fr)) M Q:=
  Tr.as fun p=>li ai (fun h00=>aZ h00 hp fun aw ah aj av=>aK fun N tk hN=>Stp.at [1,1,1,2,0,0,0,0,2,0,0,0,0,0,0,2,2,0,3,0,0,0,0,0,1,1,1,4,4,4,1,5,2,7,6,0] [0,1,2,3,4,5] [bG 3 a cs ce0 x tx (.ref rr),g7 4 rr (lst [.int v0 u0,.int v1 u1] re) [.int v0 u0,.int v1 u1] (N+1)] _ 2 2 _ av aa hb (fun hap=>a9 (aX cs ce0 k x tx h0 h1 h2) (a9 (aV _ "list" _ re _ (.inl rfl) rfl rfl (by simp)) a8)) rfl au (H N tk _ hN (fO (bL aw 3 [tk+0]) (ah+1) aj)) (fun r L₂ hq=>c9 hq.1 fun aQ N1 tk1 hN=>Stp.fin [] [] [] _ 0 0 [] (E0 ([]++L₂)) aQ hb (fun hap=>a8) rfl ⟨_,rfl,((fun _ _=>hq.2) N1 tk1)⟩ (rf (by kernel_rfl!))) (ra (by kernel_rfl!))) (fun o00_0 h00=>aZ h00 hp fun aw ah aj av=>aK fun N tk hN=>Stp.at [1,1,1,2,0,0,0,0,2,0,0,0,0,0,0,2,2,0,3,0,0,0,0,0,1,1,1,4,4,4,1,5,2,7,6,0] [0,1,2,3,4,5] [bG 3 a cs ce0 x tx (.ref rr),g7 4 rr (lst [.int v0 u0,.int v1 u1] re) [.int v0 u0,.int v1 u1] (N+1)] _ 2 2 _ av aa hb (fun hap=>a9 (aX cs ce0 k x tx h0 h1 h2) (a9 (aV _ "list" _ re _ (.inl rfl) rfl rfl (by simp)) a8)) rfl au (H N tk _ hN (fO aw ah aj)) (fun r L₂ hq=>c9 hq.1 fun aQ N1 tk1 hN=>Stp.fin [] [] [] _ 0 0 [] (E0 ([]++L₂)) aQ hb (fun hap=>a8) rfl ⟨_,rfl,((fun _ _=>hq.2) N1 tk1)⟩ (rf (by kernel_rfl!))) (ra (by kernel_rfl!)))
theorem q3 (m s:Nat) (x:Int) (tx:Nat) (v0:Int) (u0:Nat) (v1:Int) (u1:Nat) {Q:Result→af→Prop} (hb:∀l,bel l→l.length≤96) (hp:([(m,g8 aM s)]++F).Perm M) (H:∀(N tk:Nat),aJ≤N→Con w b1 b2 b3 bel (.call (.ref aM) ⟨[.ref s,.int x tx,.int v0 u0,.int v1 u1],[]⟩) ([]++F) Q):Con w b1 b2 b3 bel (.call (.ref m) ⟨[.int x tx,.int v0 u0,.int v1 u1],[]⟩) M Q:=
  Con.of fun below p ao=>aK fun N tk hN=>Stp.loop [0,1] [] [] _ 0 0 _ hp (hb _ ao) (fun hap=>a8) rfl (by rfl) ao (H N tk hN) (rl (by kernel_rfl!))
theorem tm (fr a:Nat) (la:Bool) (s d n2i t1 t2 t3 t4 ep:Nat) (pa fi:Value) (x:Int) (tx k:Nat) (cs:List Value) (ce0 rr re:Nat) (v0:Int) (u0:Nat) (v1:Int) (u1:Nat) (v2:Int) (u2:Nat) (h0:x=(k:Int)) (h1:cs[k]?=some (.ref rr)) (h2:cs.length≤1000) {al:Obj} (ai:FrO w.2 [(s7,.ref a),(sd,.bool la),(s8,.ref s)] [[sy]] al) {Q:Flow→af→Prop} (hb:below.length≤96) (au:∀l:ag,l.length≤below.length+9→bel' l) (hp:([(fr,al),(s,aP bM d),(d,aB w.2 t1 t2 t3 t4 n2i .none pa fi ep),(a,lst cs ce0),(rr,lst [.int v0 u0,.int v1 u1,.int v2 u2] re)]++F).Perm M) (H:∀(N tk:Nat) (aq:Obj),aJ≤N→FrO w.2 [(s7,.ref a),(sd,.bool la),(s8,.ref s),(sy,.int x tx)] [] aq→Con w b1 b2 b3 bel' (.call (.ref N) ⟨[.int x tx,.int v0 u0,.int v1 u1,.int v2 u2],[]⟩) ([(fr,aq),(s,aP bM d),(d,aB w.2 t1 t2 t3 t4 n2i .none pa fi ep),(a,lst cs ce0),(rr,lst [.int v0 u0,.int v1 u1,.int v2 u2] re),(N+0,g8 aM s)]++F) fun r L₂=>r= .ok (.ret .none)∧Q (.next) L₂):Tr w b1 b2 b3 (cx c below) (assign (.Name sy (d0 eK)) (ax fr) (.int x tx)>>=fun _=>execs [i0 0] (ax fr)) M Q:=
  Tr.as fun p=>li ai (fun h00=>aZ h00 hp fun aw ah aj av=>aK fun N tk hN=>Stp.at [1,1,1,2,0,0,0,0,2,0,0,0,0,0,0,2,2,0,3,0,0,0,0,0,1,1,1,4,4,4,1,5,2,7,6,0] [0,1,2,3,4,5] [bG 3 a cs ce0 x tx (.ref rr),g7 4 rr (lst [.int v0 u0,.int v1 u1,.int v2 u2] re) [.int v0 u0,.int v1 u1,.int v2 u2] (N+1)] _ 2 2 _ av aa hb (fun hap=>a9 (aX cs ce0 k x tx h0 h1 h2) (a9 (aV _ "list" _ re _ (.inl rfl) rfl rfl (by simp)) a8)) rfl au (H N tk _ hN (fO (bL aw 3 [tk+0]) (ah+1) aj)) (fun r L₂ hq=>c9 hq.1 fun aQ N1 tk1 hN=>Stp.fin [] [] [] _ 0 0 [] (E0 ([]++L₂)) aQ hb (fun hap=>a8) rfl ⟨_,rfl,((fun _ _=>hq.2) N1 tk1)⟩ (rf (by kernel_rfl!))) (ra (by kernel_rfl!))) (fun o00_0 h00=>aZ h00 hp fun aw ah aj av=>aK fun N tk hN=>Stp.at [1,1,1,2,0,0,0,0,2,0,0,0,0,0,0,2,2,0,3,0,0,0,0,0,1,1,1,4,4,4,1,5,2,7,6,0] [0,1,2,3,4,5] [bG 3 a cs ce0 x tx (.ref rr),g7 4 rr (lst [.int v0 u0,.int v1 u1,.int v2 u2] re) [.int v0 u0,.int v1 u1,.int v2 u2] (N+1)] _ 2 2 _ av aa hb (fun hap=>a9 (aX cs ce0 k x tx h0 h1 h2) (a9 (aV _ "list" _ re _ (.inl rfl) rfl rfl (by simp)) a8)) rfl au (H N tk _ hN (fO aw ah aj)) (fun r L₂ hq=>c9 hq.1 fun aQ N1 tk1 hN=>Stp.fin [] [] [] _ 0 0 [] (E0 ([]++L₂)) aQ hb (fun hap=>a8) rfl ⟨_,rfl,((fun _ _=>hq.2) N1 tk1)⟩ (rf (by kernel_rfl!))) (ra (by kernel_rfl!)))
theorem pZ (m s:Nat) (x:Int) (tx:Nat) (v0:Int) (u0:Nat) (v1:Int) (u1:Nat) (v2:Int) (u2:Nat) {Q:Result→af→Prop} (hb:∀l,bel l→l.length≤96) (hp:([(m,g8 aM s)]++F).Perm M) (H:∀(N tk:Nat),aJ≤N→Con w b1 b2 b3 bel (.call (.ref aM) ⟨[.ref s,.int x tx,.int v0 u0,.int v1 u1,.int v2 u2],[]⟩) ([]++F) Q):Con w b1 b2 b3 bel (.call (.ref m) ⟨[.int x tx,.int v0 u0,.int v1 u1,.int v2 u2],[]⟩) M Q:=
  Con.of fun below p ao=>aK fun N tk hN=>Stp.loop [0,1] [] [] _ 0 0 _ hp (hb _ ao) (fun hap=>a8) rfl (by rfl) ao (H N tk hN) (rl (by kernel_rfl!))
theorem tl (fr a:Nat) (la:Bool) (s d n2i t1 t2 t3 t4 ep:Nat) (pa fi:Value) (x:Int) (tx k:Nat) (cs:List Value) (ce0 rr re:Nat) (v0:Int) (u0:Nat) (v1:Int) (u1:Nat) (v2:Int) (u2:Nat) (v3:Int) (u3:Nat) (h0:x=(k:Int)) (h1:cs[k]?=some (.ref rr)) (h2:cs.length≤1000) {al:Obj} (ai:FrO w.2 [(s7,.ref a),(sd,.bool la),(s8,.ref s)] [[sy]] al) {Q:Flow→af→Prop} (hb:below.length≤96) (au:∀l:ag,l.length≤below.length+9→bel' l) (hp:([(fr,al),(s,aP bM d),(d,aB w.2 t1 t2 t3 t4 n2i .none pa fi ep),(a,lst cs ce0),(rr,lst [.int v0 u0,.int v1 u1,.int v2 u2,.int v3 u3] re)]++F).Perm M) (H:∀(N tk:Nat) (aq:Obj),aJ≤N→FrO w.2 [(s7,.ref a),(sd,.bool la),(s8,.ref s),(sy,.int x tx)] [] aq→Con w b1 b2 b3 bel' (.call (.ref N) ⟨[.int x tx,.int v0 u0,.int v1 u1,.int v2 u2,.int v3 u3],[]⟩) ([(fr,aq),(s,aP bM d),(d,aB w.2 t1 t2 t3 t4 n2i .none pa fi ep),(a,lst cs ce0),(rr,lst [.int v0 u0,.int v1 u1,.int v2 u2,.int v3 u3] re),(N+0,g8 aM s)]++F) fun r L₂=>r= .ok (.ret .none)∧Q (.next) L₂):Tr w b1 b2 b3 (cx c below) (assign (.Name sy (d0 eK)) (ax fr) (.int x tx)>>=fun _=>execs [i0 0] (ax fr)) M Q:=
  Tr.as fun p=>li ai (fun h00=>aZ h00 hp fun aw ah aj av=>aK fun N tk hN=>Stp.at [1,1,1,2,0,0,0,0,2,0,0,0,0,0,0,2,2,0,3,0,0,0,0,0,1,1,1,4,4,4,1,5,2,7,6,0] [0,1,2,3,4,5] [bG 3 a cs ce0 x tx (.ref rr),g7 4 rr (lst [.int v0 u0,.int v1 u1,.int v2 u2,.int v3 u3] re) [.int v0 u0,.int v1 u1,.int v2 u2,.int v3 u3] (N+1)] _ 2 2 _ av aa hb (fun hap=>a9 (aX cs ce0 k x tx h0 h1 h2) (a9 (aV _ "list" _ re _ (.inl rfl) rfl rfl (by simp)) a8)) rfl au (H N tk _ hN (fO (bL aw 3 [tk+0]) (ah+1) aj)) (fun r L₂ hq=>c9 hq.1 fun aQ N1 tk1 hN=>Stp.fin [] [] [] _ 0 0 [] (E0 ([]++L₂)) aQ hb (fun hap=>a8) rfl ⟨_,rfl,((fun _ _=>hq.2) N1 tk1)⟩ (rf (by kernel_rfl!))) (ra (by kernel_rfl!))) (fun o00_0 h00=>aZ h00 hp fun aw ah aj av=>aK fun N tk hN=>Stp.at [1,1,1,2,0,0,0,0,2,0,0,0,0,0,0,2,2,0,3,0,0,0,0,0,1,1,1,4,4,4,1,5,2,7,6,0] [0,1,2,3,4,5] [bG 3 a cs ce0 x tx (.ref rr),g7 4 rr (lst [.int v0 u0,.int v1 u1,.int v2 u2,.int v3 u3] re) [.int v0 u0,.int v1 u1,.int v2 u2,.int v3 u3] (N+1)] _ 2 2 _ av aa hb (fun hap=>a9 (aX cs ce0 k x tx h0 h1 h2) (a9 (aV _ "list" _ re _ (.inl rfl) rfl rfl (by simp)) a8)) rfl au (H N tk _ hN (fO aw ah aj)) (fun r L₂ hq=>c9 hq.1 fun aQ N1 tk1 hN=>Stp.fin [] [] [] _ 0 0 [] (E0 ([]++L₂)) aQ hb (fun hap=>a8) rfl ⟨_,rfl,((fun _ _=>hq.2) N1 tk1)⟩ (rf (by kernel_rfl!))) (ra (by kernel_rfl!)))
theorem pY (m s:Nat) (x:Int) (tx:Nat) (v0:Int) (u0:Nat) (v1:Int) (u1:Nat) (v2:Int) (u2:Nat) (v3:Int) (u3:Nat) {Q:Result→af→Prop} (hb:∀l,bel l→l.length≤96) (hp:([(m,g8 aM s)]++F).Perm M) (H:∀(N tk:Nat),aJ≤N→Con w b1 b2 b3 bel (.call (.ref aM) ⟨[.ref s,.int x tx,.int v0 u0,.int v1 u1,.int v2 u2,.int v3 u3],[]⟩) ([]++F) Q):Con w b1 b2 b3 bel (.call (.ref m) ⟨[.int x tx,.int v0 u0,.int v1 u1,.int v2 u2,.int v3 u3],[]⟩) M Q:=
  Con.of fun below p ao=>aK fun N tk hN=>Stp.loop [0,1] [] [] _ 0 0 _ hp (hb _ ao) (fun hap=>a8) rfl (by rfl) ao (H N tk hN) (rl (by kernel_rfl!))
theorem tj (fr a:Nat) (la:Bool) (s d n2i t1 t2 t3 t4 ep:Nat) (pa fi:Value) (x:Int) (tx k:Nat) (cs:List Value) (ce0 rr re:Nat) (v0:Int) (u0:Nat) (v1:Int) (u1:Nat) (v2:Int) (u2:Nat) (v3:Int) (u3:Nat) (v4:Int) (u4:Nat) (h0:x=(k:Int)) (h1:cs[k]?=some (.ref rr)) (h2:cs.length≤1000) {al:Obj} (ai:FrO w.2 [(s7,.ref a),(sd,.bool la),(s8,.ref s)] [[sy]] al) {Q:Flow→af→Prop} (hb:below.length≤96) (au:∀l:ag,l.length≤below.length+9→bel' l) (hp:([(fr,al),(s,aP bM d),(d,aB w.2 t1 t2 t3 t4 n2i .none pa fi ep),(a,lst cs ce0),(rr,lst [.int v0 u0,.int v1 u1,.int v2 u2,.int v3 u3,.int v4 u4] re)]++F).Perm M) (H:∀(N tk:Nat) (aq:Obj),aJ≤N→FrO w.2 [(s7,.ref a),(sd,.bool la),(s8,.ref s),(sy,.int x tx)] [] aq→Con w b1 b2 b3 bel' (.call (.ref N) ⟨[.int x tx,.int v0 u0,.int v1 u1,.int v2 u2,.int v3 u3,.int v4 u4],[]⟩) ([(fr,aq),(s,aP bM d),(d,aB w.2 t1 t2 t3 t4 n2i .none pa fi ep),(a,lst cs ce0),(rr,lst [.int v0 u0,.int v1 u1,.int v2 u2,.int v3 u3,.int v4 u4] re),(N+0,g8 aM s)]++F) fun r L₂=>r= .ok (.ret .none)∧Q (.next) L₂):Tr w b1 b2 b3 (cx c below) (assign (.Name sy (d0 eK)) (ax fr) (.int x tx)>>=fun _=>execs [i0 0] (ax fr)) M Q:=
  Tr.as fun p=>li ai (fun h00=>aZ h00 hp fun aw ah aj av=>aK fun N tk hN=>Stp.at [1,1,1,2,0,0,0,0,2,0,0,0,0,0,0,2,2,0,3,0,0,0,0,0,1,1,1,4,4,4,1,5,2,7,6,0] [0,1,2,3,4,5] [bG 3 a cs ce0 x tx (.ref rr),g7 4 rr (lst [.int v0 u0,.int v1 u1,.int v2 u2,.int v3 u3,.int v4 u4] re) [.int v0 u0,.int v1 u1,.int v2 u2,.int v3 u3,.int v4 u4] (N+1)] _ 2 2 _ av aa hb (fun hap=>a9 (aX cs ce0 k x tx h0 h1 h2) (a9 (aV _ "list" _ re _ (.inl rfl) rfl rfl (by simp)) a8)) rfl au (H N tk _ hN (fO (bL aw 3 [tk+0]) (ah+1) aj)) (fun r L₂ hq=>c9 hq.1 fun aQ N1 tk1 hN=>Stp.fin [] [] [] _ 0 0 [] (E0 ([]++L₂)) aQ hb (fun hap=>a8) rfl ⟨_,rfl,((fun _ _=>hq.2) N1 tk1)⟩ (rf (by kernel_rfl!))) (ra (by kernel_rfl!))) (fun o00_0 h00=>aZ h00 hp fun aw ah aj av=>aK fun N tk hN=>Stp.at [1,1,1,2,0,0,0,0,2,0,0,0,0,0,0,2,2,0,3,0,0,0,0,0,1,1,1,4,4,4,1,5,2,7,6,0] [0,1,2,3,4,5] [bG 3 a cs ce0 x tx (.ref rr),g7 4 rr (lst [.int v0 u0,.int v1 u1,.int v2 u2,.int v3 u3,.int v4 u4] re) [.int v0 u0,.int v1 u1,.int v2 u2,.int v3 u3,.int v4 u4] (N+1)] _ 2 2 _ av aa hb (fun hap=>a9 (aX cs ce0 k x tx h0 h1 h2) (a9 (aV _ "list" _ re _ (.inl rfl) rfl rfl (by simp)) a8)) rfl au (H N tk _ hN (fO aw ah aj)) (fun r L₂ hq=>c9 hq.1 fun aQ N1 tk1 hN=>Stp.fin [] [] [] _ 0 0 [] (E0 ([]++L₂)) aQ hb (fun hap=>a8) rfl ⟨_,rfl,((fun _ _=>hq.2) N1 tk1)⟩ (rf (by kernel_rfl!))) (ra (by kernel_rfl!)))
theorem pX (m s:Nat) (x:Int) (tx:Nat) (v0:Int) (u0:Nat) (v1:Int) (u1:Nat) (v2:Int) (u2:Nat) (v3:Int) (u3:Nat) (v4:Int) (u4:Nat) {Q:Result→af→Prop} (hb:∀l,bel l→l.length≤96) (hp:([(m,g8 aM s)]++F).Perm M) (H:∀(N tk:Nat),aJ≤N→Con w b1 b2 b3 bel (.call (.ref aM) ⟨[.ref s,.int x tx,.int v0 u0,.int v1 u1,.int v2 u2,.int v3 u3,.int v4 u4],[]⟩) ([]++F) Q):Con w b1 b2 b3 bel (.call (.ref m) ⟨[.int x tx,.int v0 u0,.int v1 u1,.int v2 u2,.int v3 u3,.int v4 u4],[]⟩) M Q:=
  Con.of fun below p ao=>aK fun N tk hN=>Stp.loop [0,1] [] [] _ 0 0 _ hp (hb _ ao) (fun hap=>a8) rfl (by rfl) ao (H N tk hN) (rl (by kernel_rfl!))
theorem tg (fr a:Nat) (la:Bool) (s d n2i t1 t2 t3 t4 ep:Nat) (pa fi:Value) (x:Int) (tx k:Nat) (cs:List Value) (ce0 rr re:Nat) (v0:Int) (u0:Nat) (v1:Int) (u1:Nat) (v2:Int) (u2:Nat) (v3:Int) (u3:Nat) (v4:Int) (u4:Nat) (v5:Int) (u5:Nat) (h0:x=(k:Int)) (h1:cs[k]?=some (.ref rr)) (h2:cs.length≤1000) {al:Obj} (ai:FrO w.2 [(s7,.ref a),(sd,.bool la),(s8,.ref s)] [[sy]] al) {Q:Flow→af→Prop} (hb:below.length≤96) (au:∀l:ag,l.length≤below.length+9→bel' l) (hp:([(fr,al),(s,aP bM d),(d,aB w.2 t1 t2 t3 t4 n2i .none pa fi ep),(a,lst cs ce0),(rr,lst [.int v0 u0,.int v1 u1,.int v2 u2,.int v3 u3,.int v4 u4,.int v5 u5] re)]++F).Perm M) (H:∀(N tk:Nat) (aq:Obj),aJ≤N→FrO w.2 [(s7,.ref a),(sd,.bool la),(s8,.ref s),(sy,.int x tx)] [] aq→Con w b1 b2 b3 bel' (.call (.ref N) ⟨[.int x tx,.int v0 u0,.int v1 u1,.int v2 u2,.int v3 u3,.int v4 u4,.int v5 u5],[]⟩) ([(fr,aq),(s,aP bM d),(d,aB w.2 t1 t2 t3 t4 n2i .none pa fi ep),(a,lst cs ce0),(rr,lst [.int v0 u0,.int v1 u1,.int v2 u2,.int v3 u3,.int v4 u4,.int v5 u5] re),(N+0,g8 aM s)]++F) fun r L₂=>r= .ok (.ret .none)∧Q (.next) L₂):Tr w b1 b2 b3 (cx c below) (assign (.Name sy (d0 eK)) (ax fr) (.int x tx)>>=fun _=>execs [i0 0] (ax fr)) M Q:=
  Tr.as fun p=>li ai (fun h00=>aZ h00 hp fun aw ah aj av=>aK fun N tk hN=>Stp.at [1,1,1,2,0,0,0,0,2,0,0,0,0,0,0,2,2,0,3,0,0,0,0,0,1,1,1,4,4,4,1,5,2,7,6,0] [0,1,2,3,4,5] [bG 3 a cs ce0 x tx (.ref rr),g7 4 rr (lst [.int v0 u0,.int v1 u1,.int v2 u2,.int v3 u3,.int v4 u4,.int v5 u5] re) [.int v0 u0,.int v1 u1,.int v2 u2,.int v3 u3,.int v4 u4,.int v5 u5] (N+1)] _ 2 2 _ av aa hb (fun hap=>a9 (aX cs ce0 k x tx h0 h1 h2) (a9 (aV _ "list" _ re _ (.inl rfl) rfl rfl (by simp)) a8)) rfl au (H N tk _ hN (fO (bL aw 3 [tk+0]) (ah+1) aj)) (fun r L₂ hq=>c9 hq.1 fun aQ N1 tk1 hN=>Stp.fin [] [] [] _ 0 0 [] (E0 ([]++L₂)) aQ hb (fun hap=>a8) rfl ⟨_,rfl,((fun _ _=>hq.2) N1 tk1)⟩ (rf (by kernel_rfl!))) (ra (by kernel_rfl!))) (fun o00_0 h00=>aZ h00 hp fun aw ah aj av=>aK fun N tk hN=>Stp.at [1,1,1,2,0,0,0,0,2,0,0,0,0,0,0,2,2,0,3,0,0,0,0,0,1,1,1,4,4,4,1,5,2,7,6,0] [0,1,2,3,4,5] [bG 3 a cs ce0 x tx (.ref rr),g7 4 rr (lst [.int v0 u0,.int v1 u1,.int v2 u2,.int v3 u3,.int v4 u4,.int v5 u5] re) [.int v0 u0,.int v1 u1,.int v2 u2,.int v3 u3,.int v4 u4,.int v5 u5] (N+1)] _ 2 2 _ av aa hb (fun hap=>a9 (aX cs ce0 k x tx h0 h1 h2) (a9 (aV _ "list" _ re _ (.inl rfl) rfl rfl (by simp)) a8)) rfl au (H N tk _ hN (fO aw ah aj)) (fun r L₂ hq=>c9 hq.1 fun aQ N1 tk1 hN=>Stp.fin [] [] [] _ 0 0 [] (E0 ([]++L₂)) aQ hb (fun hap=>a8) rfl ⟨_,rfl,((fun _ _=>hq.2) N1 tk1)⟩ (rf (by kernel_rfl!))) (ra (by kernel_rfl!)))
theorem pW (m s:Nat) (x:Int) (tx:Nat) (v0:Int) (u0:Nat) (v1:Int) (u1:Nat) (v2:Int) (u2:Nat) (v3:Int) (u3:Nat) (v4:Int) (u4:Nat) (v5:Int) (u5:Nat) {Q:Result→af→Prop} (hb:∀l,bel l→l.length≤96) (hp:([(m,g8 aM s)]++F).Perm M) (H:∀(N tk:Nat),aJ≤N→Con w b1 b2 b3 bel (.call (.ref aM) ⟨[.ref s,.int x tx,.int v0 u0,.int v1 u1,.int v2 u2,.int v3 u3,.int v4 u4,.int v5 u5],[]⟩) ([]++F) Q):Con w b1 b2 b3 bel (.call (.ref m) ⟨[.int x tx,.int v0 u0,.int v1 u1,.int v2 u2,.int v3 u3,.int v4 u4,.int v5 u5],[]⟩) M Q:=
  Con.of fun below p ao=>aK fun N tk hN=>Stp.loop [0,1] [] [] _ 0 0 _ hp (hb _ ao) (fun hap=>a8) rfl (by rfl) ao (H N tk hN) (rl (by kernel_rfl!))
theorem tf (fr a:Nat) (la:Bool) (s d n2i t1 t2 t3 t4 ep:Nat) (pa fi:Value) (x:Int) (tx k:Nat) (cs:List Value) (ce0 rr re:Nat) (v0:Int) (u0:Nat) (v1:Int) (u1:Nat) (v2:Int) (u2:Nat) (v3:Int) (u3:Nat) (v4:Int) (u4:Nat) (v5:Int) (u5:Nat) (v6:Int) (u6:Nat) (h0:x=(k:Int)) (h1:cs[k]?=some (.ref rr)) (h2:cs.length≤1000) {al:Obj} (ai:FrO w.2 [(s7,.ref a),(sd,.bool la),(s8,.ref s)] [[sy]] al) {Q:Flow→af→Prop} (hb:below.length≤96) (au:∀l:ag,l.length≤below.length+9→bel' l) (hp:([(fr,al),(s,aP bM d),(d,aB w.2 t1 t2 t3 t4 n2i .none pa fi ep),(a,lst cs ce0),(rr,lst [.int v0 u0,.int v1 u1,.int v2 u2,.int v3 u3,.int v4 u4,.int v5 u5,.int v6 u6] re)]++F).Perm M) (H:∀(N tk:Nat) (aq:Obj),aJ≤N→FrO w.2 [(s7,.ref a),(sd,.bool la),(s8,.ref s),(sy,.int x tx)] [] aq→Con w b1 b2 b3 bel' (.call (.ref N) ⟨[.int x tx,.int v0 u0,.int v1 u1,.int v2 u2,.int v3 u3,.int v4 u4,.int v5 u5,.int v6 u6],[]⟩) ([(fr,aq),(s,aP bM d),(d,aB w.2 t1 t2 t3 t4 n2i .none pa fi ep),(a,lst cs ce0),(rr,lst [.int v0 u0,.int v1 u1,.int v2 u2,.int v3 u3,.int v4 u4,.int v5 u5,.int v6 u6] re),(N+0,g8 aM s)]++F) fun r L₂=>r= .ok (.ret .none)∧Q (.next) L₂):Tr w b1 b2 b3 (cx c below) (assign (.Name sy (d0 eK)) (ax fr) (.int x tx)>>=fun _=>execs [i0 0] (ax fr)) M Q:=
  Tr.as fun p=>li ai (fun h00=>aZ h00 hp fun aw ah aj av=>aK fun N tk hN=>Stp.at [1,1,1,2,0,0,0,0,2,0,0,0,0,0,0,2,2,0,3,0,0,0,0,0,1,1,1,4,4,4,1,5,2,7,6,0] [0,1,2,3,4,5] [bG 3 a cs ce0 x tx (.ref rr),g7 4 rr (lst [.int v0 u0,.int v1 u1,.int v2 u2,.int v3 u3,.int v4 u4,.int v5 u5,.int v6 u6] re) [.int v0 u0,.int v1 u1,.int v2 u2,.int v3 u3,.int v4 u4,.int v5 u5,.int v6 u6] (N+1)] _ 2 2 _ av aa hb (fun hap=>a9 (aX cs ce0 k x tx h0 h1 h2) (a9 (aV _ "list" _ re _ (.inl rfl) rfl rfl (by simp)) a8)) rfl au (H N tk _ hN (fO (bL aw 3 [tk+0]) (ah+1) aj)) (fun r L₂ hq=>c9 hq.1 fun aQ N1 tk1 hN=>Stp.fin [] [] [] _ 0 0 [] (E0 ([]++L₂)) aQ hb (fun hap=>a8) rfl ⟨_,rfl,((fun _ _=>hq.2) N1 tk1)⟩ (rf (by kernel_rfl!))) (ra (by kernel_rfl!))) (fun o00_0 h00=>aZ h00 hp fun aw ah aj av=>aK fun N tk hN=>Stp.at [1,1,1,2,0,0,0,0,2,0,0,0,0,0,0,2,2,0,3,0,0,0,0,0,1,1,1,4,4,4,1,5,2,7,6,0] [0,1,2,3,4,5] [bG 3 a cs ce0 x tx (.ref rr),g7 4 rr (lst [.int v0 u0,.int v1 u1,.int v2 u2,.int v3 u3,.int v4 u4,.int v5 u5,.int v6 u6] re) [.int v0 u0,.int v1 u1,.int v2 u2,.int v3 u3,.int v4 u4,.int v5 u5,.int v6 u6] (N+1)] _ 2 2 _ av aa hb (fun hap=>a9 (aX cs ce0 k x tx h0 h1 h2) (a9 (aV _ "list" _ re _ (.inl rfl) rfl rfl (by simp)) a8)) rfl au (H N tk _ hN (fO aw ah aj)) (fun r L₂ hq=>c9 hq.1 fun aQ N1 tk1 hN=>Stp.fin [] [] [] _ 0 0 [] (E0 ([]++L₂)) aQ hb (fun hap=>a8) rfl ⟨_,rfl,((fun _ _=>hq.2) N1 tk1)⟩ (rf (by kernel_rfl!))) (ra (by kernel_rfl!)))
theorem pV (m s:Nat) (x:Int) (tx:Nat) (v0:Int) (u0:Nat) (v1:Int) (u1:Nat) (v2:Int) (u2:Nat) (v3:Int) (u3:Nat) (v4:Int) (u4:Nat) (v5:Int) (u5:Nat) (v6:Int) (u6:Nat) {Q:Result→af→Prop} (hb:∀l,bel l→l.length≤96) (hp:([(m,g8 aM s)]++F).Perm M) (H:∀(N tk:Nat),aJ≤N→Con w b1 b2 b3 bel (.call (.ref aM) ⟨[.ref s,.int x tx,.int v0 u0,.int v1 u1,.int v2 u2,.int v3 u3,.int v4 u4,.int v5 u5,.int v6 u6],[]⟩) ([]++F) Q):Con w b1 b2 b3 bel (.call (.ref m) ⟨[.int x tx,.int v0 u0,.int v1 u1,.int v2 u2,.int v3 u3,.int v4 u4,.int v5 u5,.int v6 u6],[]⟩) M Q:=
  Con.of fun below p ao=>aK fun N tk hN=>Stp.loop [0,1] [] [] _ 0 0 _ hp (hb _ ao) (fun hap=>a8) rfl (by rfl) ao (H N tk hN) (rl (by kernel_rfl!))
theorem wb (fr a:Nat) (la:Bool) (s d n2i t1 t2 t3 t4 ep:Nat) (pa fi:Value) (iv0:Value) {al:Obj} (ai:FrO w.2 [(s7,.ref a),(sd,.bool la),(s8,.ref s),(sy,iv0)] [] al) {Q:Flow→af→Prop} (hb:below.length≤96) (au:∀q,bel' ((c,q)::below)) (hp:([(fr,al),(s,aP bM d),(d,aB w.2 t1 t2 t3 t4 n2i .none pa fi ep)]++F).Perm M) (H:∀(N tk:Nat) (aq:Obj),aJ≤N→FrO w.2 [(s7,.ref a),(sd,.bool la),(s8,.ref s),(sy,iv0)] [] aq→Con w b1 b2 b3 bel' (.call (.ref i5) ⟨[.ref s],[]⟩) ([(fr,aq),(s,aP bM d),(d,aB w.2 t1 t2 t3 t4 n2i .none pa fi ep)]++F) fun r L₂=>r= .ok (.ret .none)∧Q (.next) L₂):Tr w b1 b2 b3 (cx c below) (execs [c6 3] (ax fr)) M Q:=
  Tr.st fun p=>aZ ai hp fun aw ah aj av=>aK fun N tk hN=>Stp.atx [1,2,0,0,0,2,0,0,0,2,0,0,0,0,2,3,0] [0,1,2] [] _ 0 0 _ av aa hb (fun hap=>a8) rfl au (H N tk _ hN (fO aw ah aj)) (fun r L₂ hq=>c9 hq.1 fun aQ N1 tk1 hN=>Stp.fin [] [] [] _ 0 0 [] (E0 ([]++L₂)) aQ hb (fun hap=>a8) rfl ⟨_,rfl,((fun _ _=>hq.2) N1 tk1)⟩ (rf (by kernel_rfl!))) (rb (by kernel_rfl!))
theorem wa (fr a r:Nat) (la:Bool) (s d n2i t1 t2 t3 t4 ep:Nat) (pa fi:Value) (iv0:Value) {al:Obj} (ai:FrO w.2 [(s7,.ref a),(sd,.bool la),(s8,.ref s),(sy,iv0)] [] al) {Q:Flow→af→Prop} (hb:below.length≤96) (au:∀l:ag,l.length≤below.length+9→bel' l) (hp:([(fr,al),(s,aP bM d),(d,aB w.2 t1 t2 t3 t4 n2i (.ref r) pa fi ep)]++F).Perm M) (H:∀(N tk:Nat) (aq:Obj),aJ≤N→FrO w.2 [(s7,.ref a),(sd,.bool la),(s8,.ref s),(sy,iv0)] [] aq→Con w b1 b2 b3 bel' (.call (.ref eY) ⟨[.ref s],[]⟩) ([(fr,aq),(s,aP bM d),(d,aB w.2 t1 t2 t3 t4 n2i (.ref r) pa fi ep)]++F) fun r L₂=>∃(tu:Nat) (vs:List Value) (cb:Obj) (X1:af),r= .ok (.ret (.ref tu))∧FrO w.2 [(s7,.ref a),(sd,.bool la),(s8,.ref s),(sy,iv0)] [] cb∧([(fr,cb),(tu,aS vs)]++X1).Perm L₂∧(∀(N1 tk1:Nat) (iX:Obj) (zH:Obj),aJ≤N1→FrO w.2 [(s7,.ref a),(sd,.bool la),(s8,.ref s),(sy,iv0)] [] iX→bx w.2 [] [[sy]] zH→Con w b1 b2 b3 bel' (vS (N1+0) (N1+1) fr (N1+2)) ([(fr,iX),(tu,aS vs),(N1+0,b8 "tuple_iterator" (.ref tu) 0),(N1+1,lst [] 0),(N1+2,zH)]++X1) fun r L₂=>∃(pG:Obj) (pF:Obj) (X2:af),r= .ok .next∧bx w.2 [] [[sy]] pG∧FrO w.2 [(s7,.ref a),(sd,.bool la),(s8,.ref s),(sy,iv0)] [] pF∧([((N1+2),pG),(fr,pF)]++X2).Perm L₂∧(∀(N2 tk2:Nat) (w0:Obj),FrO w.2 [(s7,.ref a),(sd,.bool la),(s8,.ref s),(sy,iv0),(so,.ref (N1+1))] [] w0→Q (.next) ([(fr,w0)]++X2)))):Tr w b1 b2 b3 (cx c below) (execs [c6 4] (ax fr)) M Q:=
  Tr.st fun p=>aZ ai hp fun aw ah aj av=>aK fun N tk hN=>Stp.at [1,2,0,0,0,2,0,0,0,2,0,0,0,0,2,3,0] [0,1,2] [] _ 0 0 _ av aa hb (fun hap=>a8) rfl au (H N tk _ hN (fO aw ah aj)) (fun r L₂ hq=>ex4 hq fun tu vs cb X1 hh1=>aZ hh1.2.1 hh1.2.2.1 fun eP bZ ea bO=>c9 hh1.1 fun aQ N1 tk1 hN=>Stp.at [2,2,0,2,3] [0,1,2,3,4] [] _ 3 0 _ bO aQ hb (fun hap=>a8) rfl au (hh1.2.2.2 N1 tk1 _ _ hN (fO eP bZ ea) (dO (bL id 0 []) 0)) (fun r L₂ hq=>pE hq fun pG pF X2 hh2=>du hh2.2.1 (fun h20=>cR h20 hh2.2.2.2.1 fun xG nq gu=>jG hh2.2.2.1 gu fun nu gB gr gu=>c9 hh2.1 fun gT N2 tk2 hN=>Stp.fin [2,2,1] [1] [] _ 0 1 _ gu gT hb (fun hap=>a8) rfl ⟨_,rfl,(hh2.2.2.2.2 N2 tk2 _ (fO (bL nu 4 [tk2+0]) (gB+1) gr))⟩ (rf (by kernel_rfl!))) (fun o20_0 h20=>cR h20 hh2.2.2.2.1 fun xG nq gu=>jG hh2.2.2.1 gu fun nu gB gr gu=>c9 hh2.1 fun gT N2 tk2 hN=>Stp.fin [2,2,1,1,1] [1] [] _ 0 1 _ gu gT hb (fun hap=>a8) rfl ⟨_,rfl,(hh2.2.2.2.2 N2 tk2 _ (fO (bL nu 4 [tk2+0]) (gB+1) gr))⟩ (rf (by kernel_rfl!)))) (ra (by kernel_rfl!))) (ra (by kernel_rfl!))
theorem w9 (fr a:Nat) (la:Bool) (s ln:Nat) (iv0:Value) {al:Obj} (ai:FrO w.2 [(s7,.ref a),(sd,.bool la),(s8,.ref s),(sy,iv0),(so,.ref ln)] [] al) {Q:Flow→af→Prop} (hb:below.length≤96) (hp:([(fr,al)]++F).Perm M) (H:∀(N tk:Nat) (aq:Obj),FrO w.2 [(s7,.ref a),(sd,.bool la),(s8,.ref s),(sy,iv0),(so,.ref ln),(su,.ref N)] [] aq→Q (.next) ([(fr,aq),(N+0,lst [] 0)]++F)):Tr w b1 b2 b3 (cx c below) (execs [c6 5] (ax fr)) M Q:=
  Tr.st fun p=>aZ ai hp fun aw ah aj av=>aK fun N tk hN=>Stp.fin [1,1] [0,1] [] _ 1 1 _ av aa hb (fun hap=>a8) rfl ⟨_,rfl,(H N tk _ (fO (bL aw 5 [tk+0]) (ah+1) aj))⟩ (rf (by kernel_rfl!))
theorem t8 (fr a:Nat) (la:Bool) (s ln gn:Nat) (iv0:Value) {al:Obj} (ai:FrO w.2 [(s7,.ref a),(sd,.bool la),(s8,.ref s),(sy,iv0),(so,.ref ln),(su,.ref gn)] [] al) {Q:Value→af→Prop} (hb:below.length≤96) (hp:([(fr,al)]++F).Perm M) (H:∀(N tk:Nat) (aq:Obj),FrO w.2 [(s7,.ref a),(sd,.bool la),(s8,.ref s),(sy,iv0),(so,.ref ln),(su,.ref gn)] [] aq→Q (.ref ln) ([(fr,aq)]++F)):Tr w b1 b2 b3 (cx c below) (eval (bA (cB gH) 0) (ax fr)) M Q:=
  Tr.ev fun p=>aZ ai hp fun aw ah aj av=>aK fun N tk hN=>Stp.fin [1] [0] [] _ 0 0 _ av aa hb (fun hap=>a8) rfl ⟨_,rfl,(H N tk _ (fO aw ah aj))⟩ (rf (by kernel_rfl!))
theorem t7 (fr:Nat) {Q:Value→af→Prop} (hb:below.length≤96) (hp:([]++F).Perm M) (H:∀(N tk:Nat),Q (.ref N) ([(N+0,lst [] 0)]++F)):Tr w b1 b2 b3 (cx c below) (eval (bA (cB gH) 1) (ax fr)) M Q:=
  Tr.ev fun p=>aK fun N tk hN=>Stp.fin [] [0] [] _ 1 0 _ hp aa hb (fun hap=>a8) rfl ⟨_,rfl,(H N tk)⟩ (rf (by kernel_rfl!))
theorem w6 (fr a r:Nat) (la:Bool) (ln gn:Nat) (s d n2i t1 t2 t3 t4 ep:Nat) (pa fi:Value) (iv0:Value) {al:Obj} (ai:FrO w.2 [(s7,.ref a),(sd,.bool la),(s8,.ref s),(sy,iv0),(so,.ref ln),(su,.ref gn)] [] al) {Q:Flow→af→Prop} (hb:below.length≤96) (au:∀l:ag,l.length≤below.length+9→bel' l) (hp:([(fr,al),(s,aP bM d),(d,aB w.2 t1 t2 t3 t4 n2i (.ref r) pa fi ep)]++F).Perm M) (H:∀(N tk:Nat) (aq:Obj),aJ≤N→FrO w.2 [(s7,.ref a),(sd,.bool la),(s8,.ref s),(sy,iv0),(so,.ref ln),(su,.ref gn)] [] aq→Con w b1 b2 b3 bel' (.call (.ref i7) ⟨[.ref s],[]⟩) ([(fr,aq),(s,aP bM d),(d,aB w.2 t1 t2 t3 t4 n2i (.ref r) pa fi ep)]++F) fun r L₂=>r= .ok (.ret (.bool true))∧Q (.next) L₂):Tr w b1 b2 b3 (cx c below) (execs [bU 0] (ax fr)) M Q:=
  Tr.st fun p=>aZ ai hp fun aw ah aj av=>aK fun N tk hN=>Stp.at [1,2,0,0,0,2,0,0,0,2,0,0,0,0,2,3,0] [0,1,2] [] _ 0 0 _ av aa hb (fun hap=>a8) rfl au (H N tk _ hN (fO aw ah aj)) (fun r L₂ hq=>c9 hq.1 fun aQ N1 tk1 hN=>Stp.fin [] [] [] _ 0 0 [] (E0 ([]++L₂)) aQ hb (fun hap=>a8) rfl ⟨_,rfl,((fun _ _=>hq.2) N1 tk1)⟩ (rf (by kernel_rfl!))) (ra (by kernel_rfl!))
theorem w3 (fr a r:Nat) (la:Bool) (ln gn:Nat) (s d n2i t1 t2 t3 t4 ep:Nat) (pa fi:Value) (iv0:Value) {al:Obj} (ai:FrO w.2 [(s7,.ref a),(sd,.bool la),(s8,.ref s),(sy,iv0),(so,.ref ln),(su,.ref gn)] [] al) {Q:Flow→af→Prop} (hb:below.length≤96) (au:∀l:ag,l.length≤below.length+9→bel' l) (hp:([(fr,al),(s,aP bM d),(d,aB w.2 t1 t2 t3 t4 n2i (.ref r) pa fi ep)]++F).Perm M) (H:∀(N tk:Nat) (aq:Obj),aJ≤N→FrO w.2 [(s7,.ref a),(sd,.bool la),(s8,.ref s),(sy,iv0),(so,.ref ln),(su,.ref gn)] [] aq→Con w b1 b2 b3 bel' (.call (.ref i7) ⟨[.ref s],[]⟩) ([(fr,aq),(s,aP bM d),(d,aB w.2 t1 t2 t3 t4 n2i (.ref r) pa fi ep)]++F) fun r L₂=>r= .ok (.ret (.bool false))∧Q (.next) L₂):Tr w b1 b2 b3 (cx c below) (execs [c6 7] (ax fr)) M Q:=
  Tr.st fun p=>aZ ai hp fun aw ah aj av=>aK fun N tk hN=>Stp.at [1,2,0,0,0,2,0,0,0,2,0,0,0,0,2,3,0] [0,1,2] [] _ 0 0 _ av aa hb (fun hap=>a8) rfl au (H N tk _ hN (fO aw ah aj)) (fun r L₂ hq=>c9 hq.1 fun aQ N1 tk1 hN=>Stp.fin [] [] [] _ 0 0 [] (E0 ([]++L₂)) aQ hb (fun hap=>a8) rfl ⟨_,rfl,((fun _ _=>hq.2) N1 tk1)⟩ (rf (by kernel_rfl!))) (ra (by kernel_rfl!))
theorem tc (fr a:Nat) (s ln gn:Nat) (iv0:Value) (ls:List Value) (x:Int) (tx le:Nat) (gs:List Value) (ge:Nat) (hl:ls.length≤1000) (hg:gs.length≤1000) {al:Obj} (ai:FrO w.2 [(s7,.ref a),(sd,.bool true),(s8,.ref s),(sy,iv0),(so,.ref ln),(su,.ref gn)] [] al) {Q:Flow→af→Prop} (hb:below.length≤96) (hp:([(fr,al),(ln,lst (ls++ [.int x tx]) le),(gn,lst gs ge)]++F).Perm M) (H:∀(N tk:Nat) (aq:Obj),FrO w.2 [(s7,.ref a),(sd,.bool true),(s8,.ref s),(sy,iv0),(so,.ref ln),(su,.ref gn)] [] aq→Q (.next) ([(fr,aq),(ln,lst (ls++ [.int x tx]) le),(gn,lst (gs++ [.int x tx]) (ge+1))]++F)):Tr w b1 b2 b3 (cx c below) (execs [bU 1] (ax fr)) M Q:=
  Tr.st fun p=>aZ ai hp fun aw ah aj av=>aK fun N tk hN=>Stp.fin [1,3,3,3,3,1,1,0,2,2,2,1,2] [0,1,2] [bG 1 ln (ls++ [.int x tx]) le (-1) (tk+1) (.int x tx),jj 2 gn gs ge (.int x tx)] _ 0 2 _ av aa hb (fun hap=>a9 (hJ ls le _ _ hl) (a9 (bz gs ge _ hg) a8)) rfl ⟨_,rfl,(H N tk _ (fO aw ah aj))⟩ (rf (by kernel_rfl!))
theorem t9 (fr a:Nat) (s ln gn:Nat) (iv0:Value) (ls:List Value) (x:Int) (tx le:Nat) (hl:ls.length≤1000) {al:Obj} (ai:FrO w.2 [(s7,.ref a),(sd,.bool true),(s8,.ref s),(sy,iv0),(so,.ref ln),(su,.ref gn)] [] al) {Q:Flow→af→Prop} (hb:below.length≤96) (hp:([(fr,al),(ln,lst (ls++ [.int x tx]) le)]++F).Perm M) (H:∀(N tk:Nat) (aq:Obj),FrO w.2 [(s7,.ref a),(sd,.bool true),(s8,.ref s),(sy,iv0),(so,.ref (N+1)),(su,.ref gn)] [] aq→Q (.next) ([(fr,aq),(N+1,lst ls 0)]++F)):Tr w b1 b2 b3 (cx c below) (execs [bU 2] (ax fr)) M Q:=
  Tr.st fun p=>aZ ai hp fun aw ah aj av=>aK fun N tk hN=>Stp.fin [1,1,0,2,2,2,1,1,1] [0,3] [nG 1 2 ln N (ls++ [.int x tx]) le none (some (-1,tk+1)) ls (N+1)] _ 2 3 _ av aa hb (fun hap=>a9 (dN _ _ _ _ _ _ (by simp;exact lk hl rfl) (oH ls _)) a8) rfl ⟨_,rfl,(H N tk _ (fO aw ah aj))⟩ (rf (by kernel_rfl!))
theorem td (fr a:Nat) (s ln gn:Nat) (iv0:Value) (ls:List Value) (x:Int) (tx le:Nat) (gs:List Value) (ge:Nat) (hl:ls.length≤1000) (hg:gs.length≤1000) {al:Obj} (ai:FrO w.2 [(s7,.ref a),(sd,.bool false),(s8,.ref s),(sy,iv0),(so,.ref ln),(su,.ref gn)] [] al) {Q:Flow→af→Prop} (hb:below.length≤96) (hp:([(fr,al),(ln,lst (.int x tx::ls) le),(gn,lst gs ge)]++F).Perm M) (H:∀(N tk:Nat) (aq:Obj),FrO w.2 [(s7,.ref a),(sd,.bool false),(s8,.ref s),(sy,iv0),(so,.ref ln),(su,.ref gn)] [] aq→Q (.next) ([(fr,aq),(ln,lst (.int x tx::ls) le),(gn,lst (gs++ [.int x tx]) (ge+1))]++F)):Tr w b1 b2 b3 (cx c below) (execs [bU 1] (ax fr)) M Q:=
  Tr.st fun p=>aZ ai hp fun aw ah aj av=>aK fun N tk hN=>Stp.fin [1,3,3,3,3,1,1,2,2,2,1,2] [0,1,2] [bG 1 ln (.int x tx::ls) le 0 (tk+0) (.int x tx),jj 2 gn gs ge (.int x tx)] _ 0 1 _ av aa hb (fun hap=>a9 (kP (.int x tx::ls) le 0 _ (V8 _) (by decide) rfl) (a9 (bz gs ge _ hg) a8)) rfl ⟨_,rfl,(H N tk _ (fO aw ah aj))⟩ (rf (by kernel_rfl!))
theorem ta (fr a:Nat) (s ln gn:Nat) (iv0:Value) (ls:List Value) (x:Int) (tx le:Nat) (hl:ls.length≤1000) {al:Obj} (ai:FrO w.2 [(s7,.ref a),(sd,.bool false),(s8,.ref s),(sy,iv0),(so,.ref ln),(su,.ref gn)] [] al) {Q:Flow→af→Prop} (hb:below.length≤96) (hp:([(fr,al),(ln,lst (.int x tx::ls) le)]++F).Perm M) (H:∀(N tk:Nat) (aq:Obj),FrO w.2 [(s7,.ref a),(sd,.bool false),(s8,.ref s),(sy,iv0),(so,.ref (N+1)),(su,.ref gn)] [] aq→Q (.next) ([(fr,aq),(N+1,lst ls 0)]++F)):Tr w b1 b2 b3 (cx c below) (execs [bU 2] (ax fr)) M Q:=
  Tr.st fun p=>aZ ai hp fun aw ah aj av=>aK fun N tk hN=>Stp.fin [1,1,2,2,2,1,1,1] [0,3] [nG 1 2 ln N (.int x tx::ls) le (some (1,tk+0)) none ls (N+1)] _ 2 2 _ av aa hb (fun hap=>a9 (dN _ _ _ _ _ _ (by simp;exact lk hl rfl) (oG ls _)) a8) rfl ⟨_,rfl,(H N tk _ (fO aw ah aj))⟩ (rf (by kernel_rfl!))
theorem w5 (fr a r:Nat) (la:Bool) (ln gn:Nat) (s d n2i t1 t2 t3 t4 ep:Nat) (pa fi:Value) (iv0:Value) (gs:List Value) (x:Int) (tx ge:Nat) (hg:gs.length≤1000) {al:Obj} (ai:FrO w.2 [(s7,.ref a),(sd,.bool la),(s8,.ref s),(sy,iv0),(so,.ref ln),(su,.ref gn)] [] al) {Q:Flow→af→Prop} (hb:below.length≤96) (au:∀l:ag,l.length≤below.length+9→bel' l) (hp:([(fr,al),(s,aP bM d),(d,aB w.2 t1 t2 t3 t4 n2i (.ref r) pa fi ep),(gn,lst (gs++ [.int x tx]) ge)]++F).Perm M) (H:∀(N tk:Nat) (aq:Obj),aJ≤N→FrO w.2 [(s7,.ref a),(sd,.bool la),(s8,.ref s),(sy,iv0),(so,.ref ln),(su,.ref gn)] [] aq→Con w b1 b2 b3 bel' (.call (.ref i6) ⟨[.ref s,.int x tx],[]⟩) ([(fr,aq),(s,aP bM d),(d,aB w.2 t1 t2 t3 t4 n2i (.ref r) pa fi ep),(gn,lst (gs++ [.int x tx]) ge)]++F) fun r L₂=>r= .ok (.ret .none)∧Q (.next) L₂):Tr w b1 b2 b3 (cx c below) (execs [bU 3] (ax fr)) M Q:=
  Tr.st fun p=>aZ ai hp fun aw ah aj av=>aK fun N tk hN=>Stp.at [1,2,0,0,0,2,0,0,0,2,0,0,0,0,2,3,1,0,4,4,4,1,0] [0,1,2,3] [bG 3 gn (gs++ [.int x tx]) ge (-1) (tk+1) (.int x tx)] _ 0 2 _ av aa hb (fun hap=>a9 (hJ gs ge _ _ hg) a8) rfl au (H N tk _ hN (fO aw ah aj)) (fun r L₂ hq=>c9 hq.1 fun aQ N1 tk1 hN=>Stp.fin [] [] [] _ 0 0 [] (E0 ([]++L₂)) aQ hb (fun hap=>a8) rfl ⟨_,rfl,((fun _ _=>hq.2) N1 tk1)⟩ (rf (by kernel_rfl!))) (ra (by kernel_rfl!))
theorem w4 (fr a r:Nat) (la:Bool) (ln gn:Nat) (s d n2i t1 t2 t3 t4 ep:Nat) (pa fi:Value) (iv0:Value) {al:Obj} (ai:FrO w.2 [(s7,.ref a),(sd,.bool la),(s8,.ref s),(sy,iv0),(so,.ref ln),(su,.ref gn)] [] al) {Q:Flow→af→Prop} (hb:below.length≤96) (au:∀l:ag,l.length≤below.length+9→bel' l) (hp:([(fr,al),(s,aP bM d),(d,aB w.2 t1 t2 t3 t4 n2i (.ref r) pa fi ep)]++F).Perm M) (H:∀(N tk:Nat) (aq:Obj),aJ≤N→FrO w.2 [(s7,.ref a),(sd,.bool la),(s8,.ref s),(sy,iv0),(so,.ref ln),(su,.ref gn)] [] aq→Con w b1 b2 b3 bel' (.call (.ref eY) ⟨[.ref s],[]⟩) ([(fr,aq),(s,aP bM d),(d,aB w.2 t1 t2 t3 t4 n2i (.ref r) pa fi ep)]++F) fun r L₂=>∃(tu:Nat) (vs:List Value) (cb:Obj) (X1:af),r= .ok (.ret (.ref tu))∧FrO w.2 [(s7,.ref a),(sd,.bool la),(s8,.ref s),(sy,iv0),(so,.ref ln),(su,.ref gn)] [] cb∧([(fr,cb),(tu,aS vs)]++X1).Perm L₂∧(∀(N1 tk1:Nat) (iX:Obj) (zH:Obj),aJ≤N1→FrO w.2 [(s7,.ref a),(sd,.bool la),(s8,.ref s),(sy,iv0),(so,.ref ln),(su,.ref gn)] [] iX→bx w.2 [] [[sy]] zH→Con w b1 b2 b3 bel' (vR (N1+0) (N1+1) fr (N1+2)) ([(fr,iX),(tu,aS vs),(N1+0,b8 "tuple_iterator" (.ref tu) 0),(N1+1,lst [] 0),(N1+2,zH)]++X1) fun r L₂=>∃(vs3 vs4:List Value) (ep3 ep4:Nat) (pG:Obj) (pF:Obj) (X2:af),vs3.length+vs4.length≤1000∧r= .ok .next∧bx w.2 [] [[sy]] pG∧FrO w.2 [(s7,.ref a),(sd,.bool la),(s8,.ref s),(sy,iv0),(so,.ref ln),(su,.ref gn)] [] pF∧([((N1+2),pG),(fr,pF),(ln,lst vs3 ep3),((N1+1),lst vs4 ep4)]++X2).Perm L₂∧(∀(N2 tk2:Nat) (w0:Obj),FrO w.2 [(s7,.ref a),(sd,.bool la),(s8,.ref s),(sy,iv0),(so,.ref N2),(su,.ref gn)] [] w0→Q (.next) ([(fr,w0),(N2+0,lst (vs3++vs4) 0)]++X2)))):Tr w b1 b2 b3 (cx c below) (execs [bU 4] (ax fr)) M Q:=
  Tr.st fun p=>aZ ai hp fun aw ah aj av=>aK fun N tk hN=>Stp.at [1,1,2,0,0,0,2,0,0,0,2,0,0,0,0,2,3,0] [0,1,2] [] _ 0 0 _ av aa hb (fun hap=>a8) rfl au (H N tk _ hN (fO aw ah aj)) (fun r L₂ hq=>ex4 hq fun tu vs cb X1 hh1=>aZ hh1.2.1 hh1.2.2.1 fun eP bZ ea bO=>c9 hh1.1 fun aQ N1 tk1 hN=>Stp.at [2,2,0,2,3] [0,1,2,3,4] [] _ 3 0 _ bO aQ hb (fun hap=>a8) rfl au (hh1.2.2.2 N1 tk1 _ _ hN (fO eP bZ ea) (dO (bL id 0 []) 0)) (fun r L₂ hq=>ex7 hq fun vs3 vs4 ep3 ep4 pG pF X2 hh2=>have hl:=hh2.1;du hh2.2.2.1 (fun h20=>cR h20 hh2.2.2.2.2.1 fun xG nq gu=>jG hh2.2.2.2.1 gu fun nu gB gr gu=>c9 hh2.2.1 fun gT N2 tk2 hN=>Stp.fin [1,3,4,3,1,2,2] [1,4] [ji 2 3 ln (N1+1) vs3 vs4 ep3 ep4 N2] _ 1 1 _ gu gT hb (fun hap=>a9 (dB _ _ _ _ _ hl) a8) rfl ⟨_,rfl,(hh2.2.2.2.2.2 N2 tk2 _ (fO nu gB gr))⟩ (rf (by kernel_rfl!))) (fun o20_0 h20=>cR h20 hh2.2.2.2.2.1 fun xG nq gu=>jG hh2.2.2.2.1 gu fun nu gB gr gu=>c9 hh2.2.1 fun gT N2 tk2 hN=>Stp.fin [1,1,1,3,4,3,1,2,2] [1,4] [ji 2 3 ln (N1+1) vs3 vs4 ep3 ep4 N2] _ 1 1 _ gu gT hb (fun hap=>a9 (dB _ _ _ _ _ hl) a8) rfl ⟨_,rfl,(hh2.2.2.2.2.2 N2 tk2 _ (fO nu gB gr))⟩ (rf (by kernel_rfl!)))) (ra (by kernel_rfl!))) (ra (by kernel_rfl!))
theorem w8 (fr a:Nat) (la:Bool) (s ln gn:Nat) (iv0:Value) {al:Obj} (ai:FrO w.2 [(s7,.ref a),(sd,.bool la),(s8,.ref s),(sy,iv0),(so,.ref ln),(su,.ref gn)] [] al) {Q:Flow→af→Prop} (hb:below.length≤96) (hp:([(fr,al)]++F).Perm M) (H:∀(N tk:Nat),Q (.ret (.ref gn)) ([]++F)):Tr w b1 b2 b3 (cx c below) (execs [c6 8] (ax fr)) M Q:=
  Tr.st fun p=>aZ ai hp fun aw ah aj av=>aK fun N tk hN=>Stp.fin [1] [] [] _ 0 0 [] av aa hb (fun hap=>a8) rfl ⟨_,rfl,(H N tk)⟩ (rf (by kernel_rfl!))
theorem wO (fr lc:Nat) (x:Int) (tx:Nat) {al:Obj} (ai:bx w.2 [] [[sy]] al) {Q:Value→af→Prop} (hb:below.length≤96) (hp:([(lc,al)]++F).Perm M) (H:∀(N tk:Nat) (aq:Obj),bx w.2 [] [[sy]] aq→Q (.int x tx) ([(lc,aq)]++F)):Tr w b1 b2 b3 (cx c below) (assign (.Name sy (dm (aL iT) 0)) (r4 fr lc) (.int x tx)>>=fun _=>eval (dj iT) (r4 fr lc)) M Q:=
  Tr.asEv fun p=>du ai (fun h00=>cR h00 hp fun aw ah av=>aK fun N tk hN=>Stp.fin [1,1,1] [0] [] _ 0 1 _ av aa hb (fun hap=>a8) rfl ⟨_,rfl,(H N tk _ (dR (.int x tx) (dO (bL id 0 [tk+0]) (ah+1))))⟩ (rf (by kernel_rfl!))) (fun o00_0 h00=>cR h00 hp fun aw ah av=>aK fun N tk hN=>Stp.fin [1,1,1] [0] [] _ 0 1 _ av aa hb (fun hap=>a8) rfl ⟨_,rfl,(H N tk _ (dR (.int x tx) (dO aw ah)))⟩ (rf (by kernel_rfl!)))
theorem wM (fr lc:Nat) (x:Int) (tx:Nat) {al:Obj} (ai:bx w.2 [] [[sy]] al) {Q:Value→af→Prop} (hb:below.length≤96) (hp:([(lc,al)]++F).Perm M) (H:∀(N tk:Nat) (aq:Obj),bx w.2 [] [[sy]] aq→Q (.int x tx) ([(lc,aq)]++F)):Tr w b1 b2 b3 (cx c below) (assign (.Name sy (dm (aL iS) 0)) (r3 fr lc) (.int x tx)>>=fun _=>eval (dj iS) (r3 fr lc)) M Q:=
  Tr.asEv fun p=>du ai (fun h00=>cR h00 hp fun aw ah av=>aK fun N tk hN=>Stp.fin [1,1,1] [0] [] _ 0 1 _ av aa hb (fun hap=>a8) rfl ⟨_,rfl,(H N tk _ (dR (.int x tx) (dO (bL id 0 [tk+0]) (ah+1))))⟩ (rf (by kernel_rfl!))) (fun o00_0 h00=>cR h00 hp fun aw ah av=>aK fun N tk hN=>Stp.fin [1,1,1] [0] [] _ 0 1 _ av aa hb (fun hap=>a8) rfl ⟨_,rfl,(H N tk _ (dR (.int x tx) (dO aw ah)))⟩ (rf (by kernel_rfl!)))
end
noncomputable def bv (cv:List (Nat × List (Int × Nat) × Nat)):af:=cv.map fun q=>(q.1,lst (q.2.1.map iv) q.2.2)
noncomputable def cq (cv:List (Nat × List (Int × Nat) × Nat)):List (List Int):=cv.map fun q=>q.2.1.map (·.1)
noncomputable def bI (cv:List (Nat × List (Int × Nat) × Nat)):List Value:=cv.map fun q=>.ref q.1
theorem ed {α β:Type} (f:α→β) {l:List α} {q:α} (h:q∈l):∃R,(l.map f).Perm (f q::R):=by
  obtain ⟨l1,l2,rfl⟩:=M6 h
  exact ⟨(l1++l2).map f,by rw [A0,A0,H0];exact A2⟩
theorem mF:∀(l:List Int) (S:List AN × List Int) (x:Int),x∈(l.foldl fL S).2→x∈S.2∨x∈l
  | [],S,x,h=>.inl h
  | y::l,S,x,h=>by
    rcases mF l _ x h with h | h
    · have h:x∈(if npOf S.1 y - 1=0 then S.2++ [y] else S.2):=h
      split at h
      · rcases A1.mp h with h | h
        · exact .inl h
        · rcases Z0.mp h with rfl | h
          · exact .inr (.head _)
          · cases h
      · exact .inl h
    · exact .inr (.tail _ h)
theorem nv (S:List AN × List Int) (k:Int):(df S k).1.map (·.1)=S.1.map (·.1):=by
  unfold df
  rw [dM]
  exact fU _ _ _ fun _=>rfl
theorem Is.rdyLen {G:So} {A:List AN} {c:Nat} (is:Is G A c):(dJ A).length≤c:=by
  unfold dJ
  rw [B0]
  refine M0 (J4 _ _) ?_
  rw [←is.abs]
  unfold So.abs
  rw [B0]
  exact is.bd.1
section
variable {w:World} {b1 b2 b3:Bool} {bel:ag→Prop} {F M:af} {Q:Result→af→Prop}
theorem Iter.tupleI (it a:Nat) (ps:List (Int × Nat)):Iter w b1 b2 b3 it (ps.map (·.1)) isI (fun i=> [(it,b8 "tuple_iterator" (.ref a) i),(a,aS (ps.map iv))]) [(it,b8 "tuple_iterator" .none ps.length),(a,aS (ps.map iv))] where
  next i x hx c below hb:=by
    rw [V0] at hx
    obtain ⟨q,hq,rfl⟩:=V2.mp hx
    exact ((Iter.tuple (w:=w) (b1:=b1) (b2:=b2) (b3:=b3) it a (ps.map iv)).next i (iv q) (by rw [V0,hq];rfl) c below hb).mono fun o L' ⟨v,h1,h2,h3⟩=>⟨v,h1,⟨q.2,h2.symm⟩,h3⟩
  stop c below hb:=by
    have:=(Iter.tuple (w:=w) (b1:=b1) (b2:=b2) (b3:=b3) it a (ps.map iv)).stop c below hb
    rw [B0] at this⊢
    exact this
  self c below hb:=(Iter.tuple (w:=w) (b1:=b1) (b2:=b2) (b3:=b3) it a (ps.map iv)).self c below hb
theorem wN {it acc fr lc tu:Nat} (ps:List (Int × Nat)) {D0:Obj} (ip:bx w.2 [] [[sy]] D0) (hb:∀l,bel l→l.length≤96) (hl:ps.length≤900)
    (hp:([(it,b8 "tuple_iterator" (.ref tu) 0),(tu,aS (ps.map iv)),(acc,lst [] 0),(lc,D0)]++F).Perm M)
    (hQ:∀(ps':List (Int × Nat)) (ep:Nat) (D:Obj),ps'.map (·.1)=ps.map (·.1)→bx w.2 [] [[sy]] D→Q (.ok .next) ([(it,b8 "tuple_iterator" .none ps.length),(tu,aS (ps.map iv)),(acc,lst (ps'.map iv) ep),(lc,D)]++F)):Con w b1 b2 b3 bel (vS it acc fr lc) M Q:=by
  refine Con.lax (dv (lc:=lc) (R:=F) (fun q y=>∃t,y= .int q t) (fun D=>bx w.2 [] [[sy]] D) ip hb (by rw [B0];exact hl) (Iter.tupleI it tu ps) ?_ ?_ ?_)
  · rintro i q hq v ⟨tx,rfl⟩ D hD c' below2 hbl2
    refine wO fr lc q tx hD hbl2 (F:= [(it,b8 "tuple_iterator" (.ref tu) (i+1)),(tu,aS (ps.map iv))]++F) (by exact aO [_,_,_] [_] (.a (.l [0] .z) (.a (.l [1,2] .z) (.v 0))) (.a (.l [1,2] .z) (.l [0] (.v 0))) rfl) fun N tk D1 aQ=>⟨⟨_,rfl⟩,D1,aQ,by exact aO [_,_,_] [_] (.a (.l [0] .z) (.a (.l [1,2] .z) (.v 0))) (.a (.l [1,2] .z) (.l [0] (.v 0))) rfl⟩
  · exact bk [_,_,_,_] [_,_] (.l [2] (.a (.l [0,1] .z) (.l [3] (.v 0)))) (.v 1) (.a (.l [0,1,2,3] .z) (.v 0)) (.v 1) hp rfl
  · intro vs ep D hD ha
    obtain ⟨ps',rfl,hps⟩:=All2.ints ha
    exact bK (by exact aO [_,_,_,_] [_] (.l [0] (.a (.l [1,2] .z) (.l [3] (.v 0)))) (.a (.l [1,2,0,3] .z) (.v 0)) rfl) (hQ ps' ep D (by rw [hps,O5]) hD)
theorem wL {it acc fr lc tu:Nat} (ps:List (Int × Nat)) {D0:Obj} (ip:bx w.2 [] [[sy]] D0) (hb:∀l,bel l→l.length≤96) (hl:ps.length≤900)
    (hp:([(it,b8 "tuple_iterator" (.ref tu) 0),(tu,aS (ps.map iv)),(acc,lst [] 0),(lc,D0)]++F).Perm M)
    (hQ:∀(ps':List (Int × Nat)) (ep:Nat) (D:Obj),ps'.map (·.1)=ps.map (·.1)→bx w.2 [] [[sy]] D→Q (.ok .next) ([(it,b8 "tuple_iterator" .none ps.length),(tu,aS (ps.map iv)),(acc,lst (ps'.map iv) ep),(lc,D)]++F)):Con w b1 b2 b3 bel (vR it acc fr lc) M Q:=by
  refine Con.lax (dv (lc:=lc) (R:=F) (fun q y=>∃t,y= .int q t) (fun D=>bx w.2 [] [[sy]] D) ip hb (by rw [B0];exact hl) (Iter.tupleI it tu ps) ?_ ?_ ?_)
  · rintro i q hq v ⟨tx,rfl⟩ D hD c' below2 hbl2
    refine wM fr lc q tx hD hbl2 (F:= [(it,b8 "tuple_iterator" (.ref tu) (i+1)),(tu,aS (ps.map iv))]++F) (by exact aO [_,_,_] [_] (.a (.l [0] .z) (.a (.l [1,2] .z) (.v 0))) (.a (.l [1,2] .z) (.l [0] (.v 0))) rfl) fun N tk D1 aQ=>⟨⟨_,rfl⟩,D1,aQ,by exact aO [_,_,_] [_] (.a (.l [0] .z) (.a (.l [1,2] .z) (.v 0))) (.a (.l [1,2] .z) (.l [0] (.v 0))) rfl⟩
  · exact bk [_,_,_,_] [_,_] (.l [2] (.a (.l [0,1] .z) (.l [3] (.v 0)))) (.v 1) (.a (.l [0,1,2,3] .z) (.v 0)) (.v 1) hp rfl
  · intro vs ep D hD ha
    obtain ⟨ps',rfl,hps⟩:=All2.ints ha
    exact bK (by exact aO [_,_,_,_] [_] (.l [0] (.a (.l [1,2] .z) (.l [3] (.v 0)))) (.a (.l [1,2,0,3] .z) (.v 0)) rfl) (hQ ps' ep D (by rw [hps,O5]) hD)
noncomputable def eN (n i:Nat):List AN:=((bT n).take i).foldl (fun A j=>kz A j []) []
noncomputable def en (C:List (List Int)) (i:Nat):List AN:=((bT C.length).take i).foldl (fun A j=>kz A j (C.getD j.toNat [])) (eN C.length C.length)
noncomputable def cy (C:List (List Int)):List AN:=en C C.length
noncomputable abbrev vO (a:Nat) (la:Bool) (s:Nat):List (PySem.Str × Value):= [(s7,.ref a),(sd,.bool la),(s8,.ref s)]
inductive Jk1 (w:World) (F:af) (fr a:Nat) (la:Bool) (n:Nat) (G:So) (i:Nat) (L:af):Prop | mk (G':So) (F1:Obj) (_:L= [(fr,F1)]++(aU w G'++F)) (_:G'.s=G.s) (_:G'.rdy= .none) (_:G'.pas=G.pas∧G'.fin=G.fin) (_:Is G' (eN n i) i) (_:FrO w.2 (vO a la G.s) [[sy]] F1):Jk1 w F fr a la n G i L
theorem t6 {fr a it n:Nat} {la:Bool} {G:So} (is:Is G [] 0) (hr:G.rdy= .none) (hb:∀l,bel l→l.length≤40) (hn:n≤20) {F0:Obj} (hF0:FrO w.2 (vO a la G.s) [] F0)
    (hp:([(it,cN 0 (n:Nat)),(fr,F0)]++(aU w G++F)).Perm M)
    (hQ:∀(G':So) (F1:Obj),G'.s=G.s→G'.rdy= .none→(G'.pas=G.pas∧G'.fin=G.fin)→Is G' (eN n n) n→FrO w.2 (vO a la G.s) [[sy]] F1→Q (.ok .next) ([(fr,F1)]++(aU w G'++F))):Con w b1 b2 b3 bel (vK it fr) M Q:=by
  have hb':∀l,bel l→l.length≤96:=fun l h=>M0 (hb l h) (by decide)
  refine Con.lax (Con.perm (dS (Jk1 w F fr a la n G) hb' (Iter.rangeN it n) ?_ ?_ n 0 ([(fr,F0)]++(aU w G++F)) (by rw [aH];exact (P2 _).symm) ⟨G,F0,rfl,rfl,hr,⟨rfl,rfl⟩,is,.inl hF0⟩) (List.Perm.trans (by exact aO [_,_] [_,_] (.a (.l [0] .z) (.a (.l [1] .z) (.a (.v 0) (.v 1)))) (.a (.l [0,1] .z) (.a (.v 0) (.v 1))) rfl) hp))
  · rintro i x hx v ⟨tx,rfl⟩ L ⟨G',F1,rfl,hs',hr',hpf,is',hF1⟩ below ao
    have hbl:=hb _ ao
    obtain ⟨hi,rfl⟩:=cJ hx
    have hstep:eN n (i+1)=kz (eN n i) (i:Int) []:=by
      unfold eN
      rw [cj _ _ _ _ (i:Int) hx]
    refine w7 fr a la G.s G'.d G'.n2i G'.t1 G'.t2 G'.t3 G'.t4 G'.ep (iv G'.pas) (iv G'.fin) (i:Int) tx hF1 (by exact lk hbl rfl) (bel':=fun l=>l.length≤60) (fun l hl=>by exact eA hl hbl rfl) (F:= [(it,eO n (i+1)),(G'.n2i,ak G'.tab G'.ep')]++(bs G'.nodes++b6 G'.nodes++F)) (by exact bk [_,_,_,_,_,_,_] [_,_,_] (.a (.l [0,1,2] .z) (.a (.l [3,4] .z) (.a (.a (.v 0) (.v 1)) (.v 2)))) (.a (.l [3] .z) (.a (.l [0] .z) (.a (.a (.l [5,6,4] .z) (.a (.v 0) (.v 1))) (.v 2)))) (.a (.l [1] .z) (.l [2] .z)) (.a (.l [5] .z) (.l [6] .z)) ((((pe (by simp only [hs',hr']))).append ((pe (by simp only [hs',hr',iv,am,aU,cD,So.dict,NI.obj,NI.lst,Q0,A0,H0,P0]))))) rfl) fun N tk F2 hN hF2=>?_
    rw [←hs']
    refine rz (fun l h=>by exact lk h rfl) (i:Int) tx [] (Y3 _) is' hr' (by lia) (F:= [(fr,F2),(it,eO n (i+1))]++F) (by exact bk [_,_,_,_,_,_] [_,_,_] (.a (.a (.l [0,1,2] .z) (.a (.v 0) (.v 1))) (.a (.l [3,4] .z) (.v 2))) (.a (.l [3,0,5] .z) (.a (.l [4,2] .z) (.a (.a (.v 0) (.v 1)) (.v 2)))) (.l [1] .z) (.l [5] .z) ((pe (by simp only [hs',hr',iv,am,aU,cD,So.dict,NI.obj,NI.lst,Q0,A0,H0,P0]))) rfl) fun G2 hd is2=>⟨rfl,.inl ⟨.inl rfl,[(fr,F2)]++(aU w G2++F),?_,G2,F2,rfl,hd.s.trans hs',hd.rdy.trans hr',⟨hd.pas.trans hpf.1,hd.fin.trans hpf.2⟩,?_,.inr ⟨_,hF2⟩⟩⟩
    · exact aO [_,_] [_,_] (.a (.v 0) (.a (.l [0,1] .z) (.v 1))) (.a (.l [1] .z) (.a (.l [0] .z) (.a (.v 0) (.v 1)))) rfl
    · rw [hstep]
      exact ⟨is2.abs,is2.keys,by have:=is2.bd.1;simp only [Z3] at this;lia,fun y hy=>by have:=is2.bd.2 y hy;simp only [Z3] at this;lia⟩
  · rintro L ⟨G',F1,rfl,hs',hr',hpf,is',hF1⟩
    rw [aH] at is'
    exact ⟨_,[(it,cN (n:Nat) 0)],by exact aO [_,_] [_,_] (.a (.l [0] .z) (.a (.l [1] .z) (.a (.v 0) (.v 1)))) (.a (.a (.l [1] .z) (.a (.v 0) (.v 1))) (.l [0] .z)) rfl,hQ G' F1 hs' hr' hpf is' hF1⟩
inductive Jk2 (w:World) (F:af) (fr a ae:Nat) (la:Bool) (cv:List (Nat × List (Int × Nat) × Nat)) (G:So) (i:Nat) (L:af):Prop | mk (G':So) (F1:Obj) (_:L= [(a,lst (bI cv) ae),(fr,F1)]++(aU w G'++(bv cv++F))) (_:G'.s=G.s) (_:G'.rdy= .none) (_:G'.pas=G.pas∧G'.fin=G.fin) (_:Is G' (en (cq cv) i) (cv.length+15 * i)) (_:FrO w.2 (vO a la G.s) [[sy]] F1) (_:0 < i→∃v,FrO w.2 (vO a la G.s++ [(sy,v)]) [] F1):Jk2 w F fr a ae la cv G i L
theorem t5 {fr a it ae:Nat} {la:Bool} (cv:List (Nat × List (Int × Nat) × Nat)) {G:So} (is:Is G (eN cv.length cv.length) cv.length) (hr:G.rdy= .none) (hb:∀l,bel l→l.length≤40) (hn:cv.length≤20) (hrow:∀q∈cv,q.2.1.length≤7) {F0:Obj} (hF0:FrO w.2 (vO a la G.s) [[sy]] F0)
    (hp:([(it,cN 0 (cv.length:Nat)),(a,lst (bI cv) ae),(fr,F0)]++(aU w G++(bv cv++F))).Perm M)
    (hQ:∀(G':So) (F1:Obj),G'.s=G.s→G'.rdy= .none→(G'.pas=G.pas∧G'.fin=G.fin)→Is G' (cy (cq cv)) (16 * cv.length)→(0 < cv.length→∃v,FrO w.2 (vO a la G.s++ [(sy,v)]) [] F1)→Q (.ok .next) ([(a,lst (bI cv) ae),(fr,F1)]++(aU w G'++(bv cv++F)))):Con w b1 b2 b3 bel (vJ it fr) M Q:=by
  have hb':∀l,bel l→l.length≤96:=fun l h=>M0 (hb l h) (by decide)
  have hCl:(cq cv).length=cv.length:=B0 _
  refine Con.lax (Con.perm (dS (Jk2 w F fr a ae la cv G) hb' (Iter.rangeN it cv.length) ?_ ?_ cv.length 0 ([(a,lst (bI cv) ae),(fr,F0)]++(aU w G++(bv cv++F))) (by rw [aH];exact (P2 _).symm) ⟨G,F0,rfl,rfl,hr,⟨rfl,rfl⟩,(by unfold en;rw [hCl];exact is),hF0,fun h=>absurd h (L6 0)⟩) (List.Perm.trans (by exact aO [_,_,_] [_,_,_] (.a (.l [0] .z) (.a (.l [1,2] .z) (.a (.v 0) (.a (.v 1) (.v 2))))) (.a (.l [0,1,2] .z) (.a (.v 0) (.a (.v 1) (.v 2)))) rfl) hp))
  · rintro i x hx v ⟨tx,rfl⟩ L ⟨G',F1,rfl,hs',hr',hpf,is',hF1,_⟩ below ao
    have hbl:=hb _ ao
    obtain ⟨hi,rfl⟩:=cJ hx
    obtain ⟨q,hq⟩:∃q,cv[i]?=some q:=⟨cv[i],O0 hi⟩
    have hqm:=J1 hq
    obtain ⟨R,hR⟩:=ed (fun q:Nat × List (Int × Nat) × Nat=>((q.1,lst (q.2.1.map iv) q.2.2):Nat × Obj)) hqm
    have hR':(bv cv).Perm ((q.1,lst (q.2.1.map iv) q.2.2)::R):=hR
    have hv:(bI cv)[i]?=some (.ref q.1):=by unfold bI;rw [V0,hq];rfl
    have hT:(cq cv).getD ((i:Nat):Int).toNat []=q.2.1.map (·.1):=by
      unfold cq
      rw [W0,I1,V0,hq];rfl
    have hstep:en (cq cv) (i+1)=kz (en (cq cv) i) (i:Int) (q.2.1.map (·.1)):=by
      unfold en
      rw [cj _ _ _ _ (i:Int) (by rw [hCl];exact hx),hT]
    have hrl:=hrow q hqm
    have hvl:(bI cv).length=cv.length:=B0 _
    refine Tr.gq fun QQ qq=>?_
    have key:∀(F2:Obj) (M':af),FrO w.2 (vO a la G.s++ [(sy,.int (i:Int) tx)]) [] F2→([(fr,F2),(it,eO cv.length (i+1)),(a,lst (bI cv) ae)]++(aU w G'++(bv cv++F))).Perm M'→
        Con w b1 b2 b3 (fun l=>l.length≤60) (.call (.ref aM) ⟨.ref G.s::.int (i:Int) tx::q.2.1.map iv,[]⟩) M' fun r L₂=>r= .ok (.ret .none)∧QQ .next L₂:=by
      intro F2 M' hF2 hM'
      rw [←hs']
      refine rz (fun l h=>by exact lk h rfl) (i:Int) tx q.2.1 hrl is' hr' (by lia) (F:= [(fr,F2),(it,eO cv.length (i+1)),(a,lst (bI cv) ae)]++(bv cv++F)) (List.Perm.trans (by exact aO [_,_,_] [_,_,_] (.a (.v 0) (.a (.l [0,1,2] .z) (.a (.v 1) (.v 2)))) (.a (.l [0,1,2] .z) (.a (.v 0) (.a (.v 1) (.v 2)))) rfl) hM') fun G2 hd is2=>?_
      refine ⟨rfl,qq _ _ (.inl ⟨.inl rfl,[(a,lst (bI cv) ae),(fr,F2)]++(aU w G2++(bv cv++F)),?_,G2,F2,rfl,hd.s.trans hs',hd.rdy.trans hr',⟨hd.pas.trans hpf.1,hd.fin.trans hpf.2⟩,?_,.inr ⟨_,hF2⟩,fun _=>⟨_,hF2⟩⟩)⟩
      · exact aO [_,_,_] [_,_,_] (.a (.v 0) (.a (.l [0,1,2] .z) (.a (.v 1) (.v 2)))) (.a (.l [1] .z) (.a (.l [2,0] .z) (.a (.v 0) (.a (.v 1) (.v 2))))) rfl
      · rw [hstep]
        exact ⟨is2.abs,is2.keys,by have:=is2.bd.1;lia,fun y hy=>by have:=is2.bd.2 y hy;lia⟩
    obtain ⟨rr,vs,re⟩:=q
    dsimp only at *
    rcases vs with _ | ⟨v0,_ | ⟨v1,_ | ⟨v2,_ | ⟨v3,_ | ⟨v4,_ | ⟨v5,_ | ⟨v6,_ | ⟨v7,vs⟩⟩⟩⟩⟩⟩⟩⟩
    · refine tr fr a la G.s G'.d G'.n2i G'.t1 G'.t2 G'.t3 G'.t4 G'.ep (iv G'.pas) (iv G'.fin) (i:Int) tx i (bI cv) ae rr re rfl hv (by exact j8 hvl hn rfl) hF1 (by exact lk hbl rfl) (bel':=fun l=>l.length≤60) (fun l hl=>by exact eA hl hbl rfl) (F:= [(it,eO cv.length (i+1)),(G'.n2i,ak G'.tab G'.ep')]++(bs G'.nodes++b6 G'.nodes++(R++F))) (by exact bk [_,_,_,_,_,_,_,_,_] [_,_,_,_,_] (.a (.l [1,2,3,4,0] .z) (.a (.l [5,6] .z) (.a (.a (.v 2) (.v 3)) (.a (.v 1) (.v 4))))) (.a (.l [5] .z) (.a (.l [4,1] .z) (.a (.a (.l [7,8,6] .z) (.a (.v 2) (.v 3))) (.a (.v 0) (.v 4))))) (.a (.a (.l [0] (.v 1)) (.l [2] .z)) (.l [3] .z)) (.a (.a (.v 0) (.l [7] .z)) (.l [8] .z)) (((((hR'.symm).append ((pe (by simp only [hs',hr']))))).append ((pe (by simp only [hs',hr',iv,am,aU,cD,So.dict,NI.obj,NI.lst,Q0,A0,H0,P0]))))) rfl) fun N tk F2 hN hF2=>?_
      exact q5 (N+0) G.s i tx (fun l h=>by exact lk h rfl) (F:= [(fr,F2),(it,eO cv.length (i+1)),(a,lst (bI cv) ae)]++(aU w G'++(bv cv++F))) (by exact bk [_,_,_,_,_,_,_,_,_,_] [_,_,_,_,_] (.a (.l [1] .z) (.a (.l [2,3,4] .z) (.a (.a (.l [5,6,7] .z) (.a (.v 2) (.v 3))) (.a (.v 0) (.v 4))))) (.a (.l [2,8,9,4,0,1] .z) (.a (.l [3,7] .z) (.a (.a (.v 2) (.v 3)) (.a (.v 1) (.v 4))))) (.a (.a (.v 0) (.l [5] .z)) (.l [6] .z)) (.a (.a (.l [0] (.v 1)) (.l [8] .z)) (.l [9] .z)) ((((hR'.append ((pe (by simp only [hs',hr']))))).append ((pe (by simp only [hs',hr',iv,am,aU,cD,So.dict,NI.obj,NI.lst,Q0,A0,H0,P0]))))) rfl) fun N2 tk2 hN2=>key F2 _ hF2 (E0 _)
    · refine tq fr a la G.s G'.d G'.n2i G'.t1 G'.t2 G'.t3 G'.t4 G'.ep (iv G'.pas) (iv G'.fin) (i:Int) tx i (bI cv) ae rr re v0.1 v0.2 rfl hv (by exact j8 hvl hn rfl) hF1 (by exact lk hbl rfl) (bel':=fun l=>l.length≤60) (fun l hl=>by exact eA hl hbl rfl) (F:= [(it,eO cv.length (i+1)),(G'.n2i,ak G'.tab G'.ep')]++(bs G'.nodes++b6 G'.nodes++(R++F))) (by exact bk [_,_,_,_,_,_,_,_,_] [_,_,_,_,_] (.a (.l [1,2,3,4,0] .z) (.a (.l [5,6] .z) (.a (.a (.v 2) (.v 3)) (.a (.v 1) (.v 4))))) (.a (.l [5] .z) (.a (.l [4,1] .z) (.a (.a (.l [7,8,6] .z) (.a (.v 2) (.v 3))) (.a (.v 0) (.v 4))))) (.a (.a (.l [0] (.v 1)) (.l [2] .z)) (.l [3] .z)) (.a (.a (.v 0) (.l [7] .z)) (.l [8] .z)) (((((hR'.symm).append ((pe (by simp only [hs',hr']))))).append ((pe (by simp only [hs',hr',iv,am,aU,cD,So.dict,NI.obj,NI.lst,Q0,A0,H0,P0]))))) rfl) fun N tk F2 hN hF2=>?_
      exact q4 (N+0) G.s i tx v0.1 v0.2 (fun l h=>by exact lk h rfl) (F:= [(fr,F2),(it,eO cv.length (i+1)),(a,lst (bI cv) ae)]++(aU w G'++(bv cv++F))) (by exact bk [_,_,_,_,_,_,_,_,_,_] [_,_,_,_,_] (.a (.l [1] .z) (.a (.l [2,3,4] .z) (.a (.a (.l [5,6,7] .z) (.a (.v 2) (.v 3))) (.a (.v 0) (.v 4))))) (.a (.l [2,8,9,4,0,1] .z) (.a (.l [3,7] .z) (.a (.a (.v 2) (.v 3)) (.a (.v 1) (.v 4))))) (.a (.a (.v 0) (.l [5] .z)) (.l [6] .z)) (.a (.a (.l [0] (.v 1)) (.l [8] .z)) (.l [9] .z)) ((((hR'.append ((pe (by simp only [hs',hr']))))).append ((pe (by simp only [hs',hr',iv,am,aU,cD,So.dict,NI.obj,NI.lst,Q0,A0,H0,P0]))))) rfl) fun N2 tk2 hN2=>key F2 _ hF2 (E0 _)
    · refine to fr a la G.s G'.d G'.n2i G'.t1 G'.t2 G'.t3 G'.t4 G'.ep (iv G'.pas) (iv G'.fin) (i:Int) tx i (bI cv) ae rr re v0.1 v0.2 v1.1 v1.2 rfl hv (by exact j8 hvl hn rfl) hF1 (by exact lk hbl rfl) (bel':=fun l=>l.length≤60) (fun l hl=>by exact eA hl hbl rfl) (F:= [(it,eO cv.length (i+1)),(G'.n2i,ak G'.tab G'.ep')]++(bs G'.nodes++b6 G'.nodes++(R++F))) (by exact bk [_,_,_,_,_,_,_,_,_] [_,_,_,_,_] (.a (.l [1,2,3,4,0] .z) (.a (.l [5,6] .z) (.a (.a (.v 2) (.v 3)) (.a (.v 1) (.v 4))))) (.a (.l [5] .z) (.a (.l [4,1] .z) (.a (.a (.l [7,8,6] .z) (.a (.v 2) (.v 3))) (.a (.v 0) (.v 4))))) (.a (.a (.l [0] (.v 1)) (.l [2] .z)) (.l [3] .z)) (.a (.a (.v 0) (.l [7] .z)) (.l [8] .z)) (((((hR'.symm).append ((pe (by simp only [hs',hr']))))).append ((pe (by simp only [hs',hr',iv,am,aU,cD,So.dict,NI.obj,NI.lst,Q0,A0,H0,P0]))))) rfl) fun N tk F2 hN hF2=>?_
      exact q3 (N+0) G.s i tx v0.1 v0.2 v1.1 v1.2 (fun l h=>by exact lk h rfl) (F:= [(fr,F2),(it,eO cv.length (i+1)),(a,lst (bI cv) ae)]++(aU w G'++(bv cv++F))) (by exact bk [_,_,_,_,_,_,_,_,_,_] [_,_,_,_,_] (.a (.l [1] .z) (.a (.l [2,3,4] .z) (.a (.a (.l [5,6,7] .z) (.a (.v 2) (.v 3))) (.a (.v 0) (.v 4))))) (.a (.l [2,8,9,4,0,1] .z) (.a (.l [3,7] .z) (.a (.a (.v 2) (.v 3)) (.a (.v 1) (.v 4))))) (.a (.a (.v 0) (.l [5] .z)) (.l [6] .z)) (.a (.a (.l [0] (.v 1)) (.l [8] .z)) (.l [9] .z)) ((((hR'.append ((pe (by simp only [hs',hr']))))).append ((pe (by simp only [hs',hr',iv,am,aU,cD,So.dict,NI.obj,NI.lst,Q0,A0,H0,P0]))))) rfl) fun N2 tk2 hN2=>key F2 _ hF2 (E0 _)
    · refine tm fr a la G.s G'.d G'.n2i G'.t1 G'.t2 G'.t3 G'.t4 G'.ep (iv G'.pas) (iv G'.fin) (i:Int) tx i (bI cv) ae rr re v0.1 v0.2 v1.1 v1.2 v2.1 v2.2 rfl hv (by exact j8 hvl hn rfl) hF1 (by exact lk hbl rfl) (bel':=fun l=>l.length≤60) (fun l hl=>by exact eA hl hbl rfl) (F:= [(it,eO cv.length (i+1)),(G'.n2i,ak G'.tab G'.ep')]++(bs G'.nodes++b6 G'.nodes++(R++F))) (by exact bk [_,_,_,_,_,_,_,_,_] [_,_,_,_,_] (.a (.l [1,2,3,4,0] .z) (.a (.l [5,6] .z) (.a (.a (.v 2) (.v 3)) (.a (.v 1) (.v 4))))) (.a (.l [5] .z) (.a (.l [4,1] .z) (.a (.a (.l [7,8,6] .z) (.a (.v 2) (.v 3))) (.a (.v 0) (.v 4))))) (.a (.a (.l [0] (.v 1)) (.l [2] .z)) (.l [3] .z)) (.a (.a (.v 0) (.l [7] .z)) (.l [8] .z)) (((((hR'.symm).append ((pe (by simp only [hs',hr']))))).append ((pe (by simp only [hs',hr',iv,am,aU,cD,So.dict,NI.obj,NI.lst,Q0,A0,H0,P0]))))) rfl) fun N tk F2 hN hF2=>?_
      exact pZ (N+0) G.s i tx v0.1 v0.2 v1.1 v1.2 v2.1 v2.2 (fun l h=>by exact lk h rfl) (F:= [(fr,F2),(it,eO cv.length (i+1)),(a,lst (bI cv) ae)]++(aU w G'++(bv cv++F))) (by exact bk [_,_,_,_,_,_,_,_,_,_] [_,_,_,_,_] (.a (.l [1] .z) (.a (.l [2,3,4] .z) (.a (.a (.l [5,6,7] .z) (.a (.v 2) (.v 3))) (.a (.v 0) (.v 4))))) (.a (.l [2,8,9,4,0,1] .z) (.a (.l [3,7] .z) (.a (.a (.v 2) (.v 3)) (.a (.v 1) (.v 4))))) (.a (.a (.v 0) (.l [5] .z)) (.l [6] .z)) (.a (.a (.l [0] (.v 1)) (.l [8] .z)) (.l [9] .z)) ((((hR'.append ((pe (by simp only [hs',hr']))))).append ((pe (by simp only [hs',hr',iv,am,aU,cD,So.dict,NI.obj,NI.lst,Q0,A0,H0,P0]))))) rfl) fun N2 tk2 hN2=>key F2 _ hF2 (E0 _)
    · refine tl fr a la G.s G'.d G'.n2i G'.t1 G'.t2 G'.t3 G'.t4 G'.ep (iv G'.pas) (iv G'.fin) (i:Int) tx i (bI cv) ae rr re v0.1 v0.2 v1.1 v1.2 v2.1 v2.2 v3.1 v3.2 rfl hv (by exact j8 hvl hn rfl) hF1 (by exact lk hbl rfl) (bel':=fun l=>l.length≤60) (fun l hl=>by exact eA hl hbl rfl) (F:= [(it,eO cv.length (i+1)),(G'.n2i,ak G'.tab G'.ep')]++(bs G'.nodes++b6 G'.nodes++(R++F))) (by exact bk [_,_,_,_,_,_,_,_,_] [_,_,_,_,_] (.a (.l [1,2,3,4,0] .z) (.a (.l [5,6] .z) (.a (.a (.v 2) (.v 3)) (.a (.v 1) (.v 4))))) (.a (.l [5] .z) (.a (.l [4,1] .z) (.a (.a (.l [7,8,6] .z) (.a (.v 2) (.v 3))) (.a (.v 0) (.v 4))))) (.a (.a (.l [0] (.v 1)) (.l [2] .z)) (.l [3] .z)) (.a (.a (.v 0) (.l [7] .z)) (.l [8] .z)) (((((hR'.symm).append ((pe (by simp only [hs',hr']))))).append ((pe (by simp only [hs',hr',iv,am,aU,cD,So.dict,NI.obj,NI.lst,Q0,A0,H0,P0]))))) rfl) fun N tk F2 hN hF2=>?_
      exact pY (N+0) G.s i tx v0.1 v0.2 v1.1 v1.2 v2.1 v2.2 v3.1 v3.2 (fun l h=>by exact lk h rfl) (F:= [(fr,F2),(it,eO cv.length (i+1)),(a,lst (bI cv) ae)]++(aU w G'++(bv cv++F))) (by exact bk [_,_,_,_,_,_,_,_,_,_] [_,_,_,_,_] (.a (.l [1] .z) (.a (.l [2,3,4] .z) (.a (.a (.l [5,6,7] .z) (.a (.v 2) (.v 3))) (.a (.v 0) (.v 4))))) (.a (.l [2,8,9,4,0,1] .z) (.a (.l [3,7] .z) (.a (.a (.v 2) (.v 3)) (.a (.v 1) (.v 4))))) (.a (.a (.v 0) (.l [5] .z)) (.l [6] .z)) (.a (.a (.l [0] (.v 1)) (.l [8] .z)) (.l [9] .z)) ((((hR'.append ((pe (by simp only [hs',hr']))))).append ((pe (by simp only [hs',hr',iv,am,aU,cD,So.dict,NI.obj,NI.lst,Q0,A0,H0,P0]))))) rfl) fun N2 tk2 hN2=>key F2 _ hF2 (E0 _)
    · refine tj fr a la G.s G'.d G'.n2i G'.t1 G'.t2 G'.t3 G'.t4 G'.ep (iv G'.pas) (iv G'.fin) (i:Int) tx i (bI cv) ae rr re v0.1 v0.2 v1.1 v1.2 v2.1 v2.2 v3.1 v3.2 v4.1 v4.2 rfl hv (by exact j8 hvl hn rfl) hF1 (by exact lk hbl rfl) (bel':=fun l=>l.length≤60) (fun l hl=>by exact eA hl hbl rfl) (F:= [(it,eO cv.length (i+1)),(G'.n2i,ak G'.tab G'.ep')]++(bs G'.nodes++b6 G'.nodes++(R++F))) (by exact bk [_,_,_,_,_,_,_,_,_] [_,_,_,_,_] (.a (.l [1,2,3,4,0] .z) (.a (.l [5,6] .z) (.a (.a (.v 2) (.v 3)) (.a (.v 1) (.v 4))))) (.a (.l [5] .z) (.a (.l [4,1] .z) (.a (.a (.l [7,8,6] .z) (.a (.v 2) (.v 3))) (.a (.v 0) (.v 4))))) (.a (.a (.l [0] (.v 1)) (.l [2] .z)) (.l [3] .z)) (.a (.a (.v 0) (.l [7] .z)) (.l [8] .z)) (((((hR'.symm).append ((pe (by simp only [hs',hr']))))).append ((pe (by simp only [hs',hr',iv,am,aU,cD,So.dict,NI.obj,NI.lst,Q0,A0,H0,P0]))))) rfl) fun N tk F2 hN hF2=>?_
      exact pX (N+0) G.s i tx v0.1 v0.2 v1.1 v1.2 v2.1 v2.2 v3.1 v3.2 v4.1 v4.2 (fun l h=>by exact lk h rfl) (F:= [(fr,F2),(it,eO cv.length (i+1)),(a,lst (bI cv) ae)]++(aU w G'++(bv cv++F))) (by exact bk [_,_,_,_,_,_,_,_,_,_] [_,_,_,_,_] (.a (.l [1] .z) (.a (.l [2,3,4] .z) (.a (.a (.l [5,6,7] .z) (.a (.v 2) (.v 3))) (.a (.v 0) (.v 4))))) (.a (.l [2,8,9,4,0,1] .z) (.a (.l [3,7] .z) (.a (.a (.v 2) (.v 3)) (.a (.v 1) (.v 4))))) (.a (.a (.v 0) (.l [5] .z)) (.l [6] .z)) (.a (.a (.l [0] (.v 1)) (.l [8] .z)) (.l [9] .z)) ((((hR'.append ((pe (by simp only [hs',hr']))))).append ((pe (by simp only [hs',hr',iv,am,aU,cD,So.dict,NI.obj,NI.lst,Q0,A0,H0,P0]))))) rfl) fun N2 tk2 hN2=>key F2 _ hF2 (E0 _)
    · refine tg fr a la G.s G'.d G'.n2i G'.t1 G'.t2 G'.t3 G'.t4 G'.ep (iv G'.pas) (iv G'.fin) (i:Int) tx i (bI cv) ae rr re v0.1 v0.2 v1.1 v1.2 v2.1 v2.2 v3.1 v3.2 v4.1 v4.2 v5.1 v5.2 rfl hv (by exact j8 hvl hn rfl) hF1 (by exact lk hbl rfl) (bel':=fun l=>l.length≤60) (fun l hl=>by exact eA hl hbl rfl) (F:= [(it,eO cv.length (i+1)),(G'.n2i,ak G'.tab G'.ep')]++(bs G'.nodes++b6 G'.nodes++(R++F))) (by exact bk [_,_,_,_,_,_,_,_,_] [_,_,_,_,_] (.a (.l [1,2,3,4,0] .z) (.a (.l [5,6] .z) (.a (.a (.v 2) (.v 3)) (.a (.v 1) (.v 4))))) (.a (.l [5] .z) (.a (.l [4,1] .z) (.a (.a (.l [7,8,6] .z) (.a (.v 2) (.v 3))) (.a (.v 0) (.v 4))))) (.a (.a (.l [0] (.v 1)) (.l [2] .z)) (.l [3] .z)) (.a (.a (.v 0) (.l [7] .z)) (.l [8] .z)) (((((hR'.symm).append ((pe (by simp only [hs',hr']))))).append ((pe (by simp only [hs',hr',iv,am,aU,cD,So.dict,NI.obj,NI.lst,Q0,A0,H0,P0]))))) rfl) fun N tk F2 hN hF2=>?_
      exact pW (N+0) G.s i tx v0.1 v0.2 v1.1 v1.2 v2.1 v2.2 v3.1 v3.2 v4.1 v4.2 v5.1 v5.2 (fun l h=>by exact lk h rfl) (F:= [(fr,F2),(it,eO cv.length (i+1)),(a,lst (bI cv) ae)]++(aU w G'++(bv cv++F))) (by exact bk [_,_,_,_,_,_,_,_,_,_] [_,_,_,_,_] (.a (.l [1] .z) (.a (.l [2,3,4] .z) (.a (.a (.l [5,6,7] .z) (.a (.v 2) (.v 3))) (.a (.v 0) (.v 4))))) (.a (.l [2,8,9,4,0,1] .z) (.a (.l [3,7] .z) (.a (.a (.v 2) (.v 3)) (.a (.v 1) (.v 4))))) (.a (.a (.v 0) (.l [5] .z)) (.l [6] .z)) (.a (.a (.l [0] (.v 1)) (.l [8] .z)) (.l [9] .z)) ((((hR'.append ((pe (by simp only [hs',hr']))))).append ((pe (by simp only [hs',hr',iv,am,aU,cD,So.dict,NI.obj,NI.lst,Q0,A0,H0,P0]))))) rfl) fun N2 tk2 hN2=>key F2 _ hF2 (E0 _)
    · refine tf fr a la G.s G'.d G'.n2i G'.t1 G'.t2 G'.t3 G'.t4 G'.ep (iv G'.pas) (iv G'.fin) (i:Int) tx i (bI cv) ae rr re v0.1 v0.2 v1.1 v1.2 v2.1 v2.2 v3.1 v3.2 v4.1 v4.2 v5.1 v5.2 v6.1 v6.2 rfl hv (by exact j8 hvl hn rfl) hF1 (by exact lk hbl rfl) (bel':=fun l=>l.length≤60) (fun l hl=>by exact eA hl hbl rfl) (F:= [(it,eO cv.length (i+1)),(G'.n2i,ak G'.tab G'.ep')]++(bs G'.nodes++b6 G'.nodes++(R++F))) (by exact bk [_,_,_,_,_,_,_,_,_] [_,_,_,_,_] (.a (.l [1,2,3,4,0] .z) (.a (.l [5,6] .z) (.a (.a (.v 2) (.v 3)) (.a (.v 1) (.v 4))))) (.a (.l [5] .z) (.a (.l [4,1] .z) (.a (.a (.l [7,8,6] .z) (.a (.v 2) (.v 3))) (.a (.v 0) (.v 4))))) (.a (.a (.l [0] (.v 1)) (.l [2] .z)) (.l [3] .z)) (.a (.a (.v 0) (.l [7] .z)) (.l [8] .z)) (((((hR'.symm).append ((pe (by simp only [hs',hr']))))).append ((pe (by simp only [hs',hr',iv,am,aU,cD,So.dict,NI.obj,NI.lst,Q0,A0,H0,P0]))))) rfl) fun N tk F2 hN hF2=>?_
      exact pV (N+0) G.s i tx v0.1 v0.2 v1.1 v1.2 v2.1 v2.2 v3.1 v3.2 v4.1 v4.2 v5.1 v5.2 v6.1 v6.2 (fun l h=>by exact lk h rfl) (F:= [(fr,F2),(it,eO cv.length (i+1)),(a,lst (bI cv) ae)]++(aU w G'++(bv cv++F))) (by exact bk [_,_,_,_,_,_,_,_,_,_] [_,_,_,_,_] (.a (.l [1] .z) (.a (.l [2,3,4] .z) (.a (.a (.l [5,6,7] .z) (.a (.v 2) (.v 3))) (.a (.v 0) (.v 4))))) (.a (.l [2,8,9,4,0,1] .z) (.a (.l [3,7] .z) (.a (.a (.v 2) (.v 3)) (.a (.v 1) (.v 4))))) (.a (.a (.v 0) (.l [5] .z)) (.l [6] .z)) (.a (.a (.l [0] (.v 1)) (.l [8] .z)) (.l [9] .z)) ((((hR'.append ((pe (by simp only [hs',hr']))))).append ((pe (by simp only [hs',hr',iv,am,aU,cD,So.dict,NI.obj,NI.lst,Q0,A0,H0,P0]))))) rfl) fun N2 tk2 hN2=>key F2 _ hF2 (E0 _)
    · exact absurd hrl (by simp only [J0];lia)
  · rintro L ⟨G',F1,rfl,hs',hr',hpf,is',hF1,hF2⟩
    rw [aH] at is' hF2
    have:cy (cq cv)=en (cq cv) cv.length:=by unfold cy;rw [hCl]
    exact ⟨_,[(it,cN (cv.length:Nat) 0)],by exact aO [_,_,_] [_,_,_] (.a (.l [0] .z) (.a (.l [1,2] .z) (.a (.v 0) (.a (.v 1) (.v 2))))) (.a (.a (.l [1,2] .z) (.a (.v 0) (.a (.v 1) (.v 2)))) (.l [0] .z)) rfl,hQ G' F1 hs' hr' hpf (by rw [this];exact ⟨is'.abs,is'.keys,by have:=is'.bd.1;lia,fun y hy=>by have:=is'.bd.2 y hy;lia⟩) hF2⟩
end
noncomputable abbrev VS:=List AN × List Int × List Int
noncomputable def bh (la:Bool) (l:List Int):Int:=match la with | true=>l.getLastD 0 | false=>l.headD 0
noncomputable def bP (la:Bool) (l:List Int):List Int:=match la with | true=>l.dropLast | false=>l.tail
noncomputable def jn (la:Bool) (S:VS):VS:=((df (S.1,[]) (bh la S.2.1)).2.foldl ig (df (S.1,[]) (bh la S.2.1)).1,bP la S.2.1++(df (S.1,[]) (bh la S.2.1)).2,S.2.2++ [bh la S.2.1])
noncomputable def eI (C:List (List Int)):VS:=((dJ (cy C)).foldl ig (cy C),dJ (cy C),[])
inductive RunV (la:Bool):Nat→VS→List Int→Prop
  | stop (A:List AN) (g:List Int):RunV la 0 (A,[],g) g
  | step {n:Nat} {S:VS} {g:List Int} (h:S.2.1≠ []) (hk:bh la S.2.1∈S.1.map (·.1)) (hn:npOf S.1 (bh la S.2.1)= -1) (hs:∀q∈scOf S.1 (bh la S.2.1),q∈S.1.map (·.1)) (r:RunV la n (jn la S) g):RunV la (n+1) S g
theorem lh (la:Bool) {l:List Int} (h:l≠ []):l.length=(bP la l).length+1:=by
  have h1:0 < l.length:=U8.mpr h
  cases la
  · show l.length=l.tail.length+1
    rw [List.length_tail];lia
  · show l.length=l.dropLast.length+1
    rw [List.length_dropLast];lia
theorem RunV.len {la:Bool} {n:Nat} {S:VS} {g:List Int} (h:RunV la n S g):S.2.1.length≤n∧g.length=S.2.2.length+n:=by
  induction h with
  | stop A g=>exact ⟨S0 _,rfl⟩
  | @step n S g h hk hn hs r ih=>
    have h1:=lh la h
    have h2:(jn la S).2.1.length=(bP la S.2.1).length+(df (S.1,[]) (bh la S.2.1)).2.length:=N0
    have h3:(jn la S).2.2.length=S.2.2.length+1:=N0
    lia
theorem mn:∀ps:List (Int × Nat),O2 (ps.map fun q=>PyData.int q.1)=true
  | []=>by simp [O2]
  | q::l=>by simp [O2,X3,mn l]
section
variable {w:World} {b1 b2 b3:Bool} {bel:ag→Prop} {F M:af} {Q:Result→af→Prop}
noncomputable abbrev fWg (a:Nat) (la:Bool) (s:Nat) (v:Value) (ln gn:Nat):List (PySem.Str × Value):= [(s7,.ref a),(sd,.bool la),(s8,.ref s),(sy,v),(so,.ref ln),(su,.ref gn)]
theorem w2 {c:Code} {below:ag} {Q:Flow→af→Prop} {fr a s ln gn le ge:Nat} {la:Bool} (iv0:Value) (ls gs:List (Int × Nat)) (h:ls.map (·.1)≠ []) (hl:ls.length≤1000) (hg:gs.length≤1000) (hb:below.length≤96) {F0:Obj} (hF0:FrO w.2 (fWg a la s iv0 ln gn) [] F0)
    (hp:([(fr,F0),(ln,lst (ls.map iv) le),(gn,lst (gs.map iv) ge)]++F).Perm M)
    (hQ:∀(x:Int) (tx:Nat) (rs:List (Int × Nat)) (N:Nat) (F1:Obj),x=bh la (ls.map (·.1))→rs.map (·.1)=bP la (ls.map (·.1))→ls.length=rs.length+1→FrO w.2 (fWg a la s iv0 N gn) [] F1→Q .next ([(fr,F1),(N,lst (rs.map iv) 0),(gn,lst ((gs++ [(x,tx)]).map iv) (ge+1))]++F)):
    Tr w b1 b2 b3 (cx c below) (execs [bU 1,bU 2] (ax fr)) M Q:=by
  have hgl:(gs.map iv).length≤1000:=by rw [B0];exact hg
  have hls:ls≠ []:=fun e=>h (by rw [e];rfl)
  have eg:∀q:Int × Nat,(gs++ [q]).map iv=gs.map iv++ [.int q.1 q.2]:=fun q=>by rw [A0];rfl
  cases la with
  | true=>
    rcases iK ls with rfl | ⟨rs,q,rfl⟩
    · exact absurd rfl hls
    have hrl:(rs.map iv).length≤1000:=by rw [B0];rw [N0] at hl;exact M0 (O4 _ _) hl
    have e:(rs++ [q]).map iv=rs.map iv++ [.int q.1 q.2]:=by rw [A0];rfl
    rw [e] at hp
    refine Tr.cons (tc fr a s ln gn iv0 (rs.map iv) q.1 q.2 le (gs.map iv) ge hrl hgl hF0 hb (F:=F) hp fun N tk F1 hF1=>.inl ⟨rfl,?_⟩)
    refine t9 fr a s ln gn iv0 (rs.map iv) q.1 q.2 le hrl hF1 hb (F:= [(gn,lst (gs.map iv++ [.int q.1 q.2]) (ge+1))]++F) (by exact aO [_,_,_] [_] (.a (.l [0,1] .z) (.a (.l [2] .z) (.v 0))) (.a (.l [0,1,2] .z) (.v 0)) rfl) fun N1 tk1 F2 hF2=>?_
    have hq:=hQ q.1 q.2 rs (N1+1) F2 (by rw [A0];show _=(rs.map (·.1)++ [q.1]).getLastD 0;rw [List.getLastD_concat]) (by rw [A0];show _=(rs.map (·.1)++ [q.1]).dropLast;rw [List.dropLast_concat]) (by rw [N0];rfl) hF2
    rw [eg] at hq
    exact hq
  | false=>
    obtain ⟨q,rs,rfl⟩:=Q7 hls
    have hrl:(rs.map iv).length≤1000:=by rw [B0];exact M0 (C5 _) hl
    refine Tr.cons (td fr a s ln gn iv0 (rs.map iv) q.1 q.2 le (gs.map iv) ge hrl hgl hF0 hb (F:=F) hp fun N tk F1 hF1=>.inl ⟨rfl,?_⟩)
    refine ta fr a s ln gn iv0 (rs.map iv) q.1 q.2 le hrl hF1 hb (F:= [(gn,lst (gs.map iv++ [.int q.1 q.2]) (ge+1))]++F) (by exact aO [_,_,_] [_] (.a (.l [0,1] .z) (.a (.l [2] .z) (.v 0))) (.a (.l [0,1,2] .z) (.v 0)) rfl) fun N1 tk1 F2 hF2=>?_
    have hq:=hQ q.1 q.2 rs (N1+1) F2 rfl rfl rfl hF2
    rw [eg] at hq
    exact hq
end
section
variable {w:World} {b1 b2 b3:Bool} {bel:ag→Prop} {F M:af} {Q:Result→af→Prop}
inductive Jwl (w:World) (F:af) (fr a:Nat) (la:Bool) (s r gn:Nat) (iv0:Value) (g:List Int) (c n:Nat) (L:af):Prop
  | mk (S:VS) (G:So) (F1:Obj) (ln le ge er:Nat) (ls gs:List (Int × Nat)) (X:af) (_:RunV la n S g) (_:L.Perm ([(fr,F1),(ln,lst (ls.map iv) le),(gn,lst (gs.map iv) ge),(r,lst [] er)]++(aU w G++(F++X)))) (_:G.s=s) (_:G.rdy= .ref r) (_:Is G S.1 c) (_:G.pas.1=G.fin.1+(ls.length:Int)) (_:ls.map (·.1)=S.2.1) (_:gs.map (·.1)=S.2.2) (_:FrO w.2 (fWg a la s iv0 ln gn) [] F1):Jwl w F fr a la s r gn iv0 g c n L
theorem t0 {fr a s r gn c:Nat} {la:Bool} (iv0:Value) (g:List Int) (hb:∀l,bel l→l.length≤40) (hc:c≤400) (hg:g.length≤100)
    (hQ:∀(G:So) (F1:Obj) (ln le ge er:Nat) (gs:List (Int × Nat)) (X:af),gs.map (·.1)=g→G.s=s→G.rdy= .ref r→G.pas.1=G.fin.1→FrO w.2 (fWg a la s iv0 ln gn) [] F1→Q (.ok .next) ([(fr,F1),(ln,lst [] le),(gn,lst (gs.map iv) ge),(r,lst [] er)]++(aU w G++(F++X)))):
    ∀(n:Nat) (L:af),Jwl w F fr a la s r gn iv0 g c n L→Con w b1 b2 b3 bel (wcW fr) L Q:=by
  intro n L hI
  refine Con.lax (ia (I:=Jwl w F fr a la s r gn iv0 g c) ?_ n L hI)
  clear hI L n
  rintro n L ⟨S,G,F1,ln,le,ge,er,ls,gs,X,hr,hL,rfl,hrd,is,hpf,hls,hgs,hF1⟩ below ao
  have hbl:=hb _ ao
  obtain ⟨hl1,hl2⟩:=hr.len
  have hln:ls.length≤100:=by
    have:=congrArg List.length hls
    rw [B0] at this
    lia
  have hgn:gs.length≤100:=by
    have:=congrArg List.length hgs
    rw [B0] at this
    lia
  refine Tr.perm (L:= [(fr,F1),(ln,lst (ls.map iv) le),(gn,lst (gs.map iv) ge),(r,lst [] er)]++(aU w G++(F++X))) ?_ hL.symm
  refine gm (l:=bA (cB gH) 0) (r:=bA (cB gH) 1) (op:=.NotEq) rfl (t8 fr a la G.s ln gn iv0 hF1 (by exact lk hbl rfl) (F:= [(ln,lst (ls.map iv) le),(gn,lst (gs.map iv) ge),(r,lst [] er)]++(aU w G++(F++X))) (E0 _) fun N tk F2 hF2=>t7 fr (by exact lk hbl rfl) (E0 _) fun N1 tk1=>?_)
  refine rm (da:=.list (ls.map fun q=>.int q.1)) (db:=.list []) (by exact lk hbl rfl) (Rd.list (vs:=ls.map iv) (n:=le) (by simp) (RdAll.ints ls)) (Rd.list (vs:= []) (n:=0) (.head _) .nil) (by show O2 _=true;exact mn ls) rfl (M0 (Z6 _ _) (by decide)) ⟨_,rfl,?_⟩
  cases hr with
  | stop A g=>
    have e:ls= []:=List.map_eq_nil_iff.mp hls
    subst e
    refine Tr.nil ?_
    refine bK ?_ (hQ G F2 ln le ge er gs ([(N1+0,lst [] 0)]++X) hgs rfl hrd ?_ hF2)
    · exact aO [_,_,_,_,_] [_,_,_] (.a (.l [0] .z) (.l [1] (.a .z (.a (.l [2,3,4] .z) (.a (.v 0) (.a (.v 1) (.v 2))))))) (.a (.l [1,2,3,4] .z) (.a (.v 0) (.a (.v 1) (.a (.l [0] .z) (.v 2))))) rfl
    · rw [hpf];simp
  | @step n S g h hk hn hs r'=>
    have hne:ls.map (·.1)≠ []:=by rw [hls];exact h
    have hls0:ls≠ []:=fun e=>hne (by rw [e];rfl)
    have hpos:0 < ls.length:=U8.mpr hls0
    have e1:(!PyData.eqv (.list (ls.map fun q=>.int q.1)) (.list []))=true:=by
      obtain ⟨q0,l0,rfl⟩:=Q7 hls0
      rfl
    rw [e1]
    show Tr w b1 b2 b3 (cx (wcW fr) below) (execs [bU 0,bU 1,bU 2,bU 3,bU 4] (ax fr)) _ _
    refine Tr.gq fun QQ qq=>?_
    have eg:∀q:Int × Nat,(gs++ [q]).map iv=gs.map iv++ [.int q.1 q.2]:=fun q=>by rw [A0];rfl
    have hgl:(gs.map iv).length≤1000:=by rw [B0];exact lk hgn rfl
    refine Tr.cons (w6 fr a r la ln gn G.s G.d G.n2i G.t1 G.t2 G.t3 G.t4 G.ep (iv G.pas) (iv G.fin) iv0 hF2 (by exact lk hbl rfl) (bel':=fun l=>l.length≤60) (fun l hl=>by exact eA hl hbl rfl) (F:= [(N1+0,lst [] 0),(ln,lst (ls.map iv) le),(gn,lst (gs.map iv) ge),(r,lst [] er),(G.n2i,ak G.tab G.ep')]++(bs G.nodes++b6 G.nodes++(F++X))) (by exact bk [_,_,_,_,_,_,_,_,_] [_,_,_,_] (.a (.l [0,1,2] .z) (.a (.l [3,4,5,6,7] .z) (.a (.a (.v 0) (.v 1)) (.a (.v 2) (.v 3))))) (.a (.l [3] .z) (.l [0] (.a .z (.a (.l [4,5,6] .z) (.a (.a (.l [1,8,7] .z) (.a (.v 0) (.v 1))) (.a (.v 2) (.v 3))))))) (.l [2] .z) (.l [8] .z) ((pe (by simp only [hrd,iv,am,aU,cD,So.dict,NI.obj,NI.lst,Q0,A0,H0,P0]))) rfl) fun N2 tk2 F3 hN2 hF3=>?_)
    refine rP (fun l h=>by exact lk h rfl) [] r er hrd (Y3 _) (F:= [(fr,F3),(N1+0,lst [] 0),(ln,lst (ls.map iv) le),(gn,lst (gs.map iv) ge)]++(F++X)) (by exact bk [_,_,_,_,_,_,_,_,_] [_,_,_,_] (.a (.l [0] .z) (.a (.a (.l [1,2,3] .z) (.a (.v 0) (.v 1))) (.a (.l [4,5,6,7] .z) (.a (.v 2) (.v 3))))) (.a (.l [4,1,8] .z) (.a (.l [5,6,7,0,3] .z) (.a (.a (.v 0) (.v 1)) (.a (.v 2) (.v 3))))) (.l [2] .z) (.l [8] .z) ((pe (by simp only [hrd,iv,am,aU,cD,So.dict,NI.obj,NI.lst,Q0,A0,H0,P0]))) rfl) fun β hβ=>?_
    have hβ:β=true:=by rw [hβ,decide_eq_true (by lia)];rfl
    subst hβ
    refine ⟨rfl,.inl ⟨rfl,?_⟩⟩
    refine Tr.app (a:= [bU 1,bU 2]) (rest:= [bU 3,bU 4]) (w2 iv0 ls gs hne (by exact lk hln rfl) (by exact lk hgn rfl) (by exact lk hbl rfl) hF3 (F:= [(N1+0,lst [] 0),(r,lst [] er)]++(aU w G++(F++X))) (by exact bk [_,_,_,_,_,_,_,_,_,_] [_,_,_,_] (.a (.l [0,1,2] .z) (.a (.l [3,4] .z) (.a (.a (.l [5,6,7] .z) (.a (.v 0) (.v 1))) (.a (.v 2) (.v 3))))) (.a (.l [4] .z) (.a (.a (.l [5,6,7] .z) (.a (.v 0) (.v 1))) (.a (.l [0,3,8,9] .z) (.a (.v 2) (.v 3))))) (.a (.l [1] .z) (.l [2] .z)) (.a (.l [8] .z) (.l [9] .z)) ((((pe (by rfl))).append ((pe (by rfl))))) rfl) fun x tx rs N3 F4 hx hrs hrl hF4=>.inl ⟨rfl,?_⟩)
    rw [hls] at hx hrs
    rw [eg]
    refine Tr.cons (w5 fr a r la N3 gn G.s G.d G.n2i G.t1 G.t2 G.t3 G.t4 G.ep (iv G.pas) (iv G.fin) iv0 (gs.map iv) x tx (ge+1) hgl hF4 (by exact lk hbl rfl) (bel':=fun l=>l.length≤60) (fun l hl=>by exact eA hl hbl rfl) (F:= [(N3,lst (rs.map iv) 0),(N1+0,lst [] 0),(r,lst [] er),(G.n2i,ak G.tab G.ep')]++(bs G.nodes++b6 G.nodes++(F++X))) (by exact bk [_,_,_,_,_,_,_,_,_] [_,_,_,_] (.a (.l [0,1,2,3] .z) (.a (.l [4,5,6,7] .z) (.a (.a (.v 0) (.v 1)) (.a (.v 2) (.v 3))))) (.a (.l [0,4,3] .z) (.a (.l [5,6] .z) (.a (.a (.l [1,8,7] .z) (.a (.v 0) (.v 1))) (.a (.v 2) (.v 3))))) (.l [2] .z) (.l [8] .z) ((pe (by simp only [hrd,iv,am,aU,cD,So.dict,NI.obj,NI.lst,Q0,A0,H0,P0]))) rfl) fun N4 tk4 F5 hN4 hF5=>?_)
    refine uL (fun l h=>h) x tx [] r er is hrd (by rw [hx];exact hk) (by rw [hx];exact hn) (by rw [hx];exact hs) (by simp) hc (F:= [(fr,F5),(N3,lst (rs.map iv) 0),(gn,lst (gs.map iv++ [.int x tx]) (ge+1)),(N1+0,lst [] 0)]++(F++X)) (by exact bk [_,_,_,_,_,_,_,_,_] [_,_,_,_] (.a (.l [0] .z) (.a (.a (.l [1,2,3] .z) (.a (.v 0) (.v 1))) (.a (.l [4,5,6,7] .z) (.a (.v 2) (.v 3))))) (.a (.l [4,1,8,6] .z) (.a (.l [5,7,0,3] .z) (.a (.a (.v 0) (.v 1)) (.a (.v 2) (.v 3))))) (.l [2] .z) (.l [8] .z) ((pe (by simp only [hrd,iv,am,aU,cD,So.dict,NI.obj,NI.lst,Q0,A0,H0,P0]))) rfl) fun G2 vs2 er2 h2 hpas hfin is2 hvs2=>⟨rfl,.inl ⟨rfl,?_⟩⟩
    have hvs2:vs2.map (·.1)=(df (S.1,[]) x).2:=hvs2
    have is2:Is G2 (df (S.1,[]) x).1 c:=is2
    have hrd2:=h2.rdy.trans hrd
    have hn2:rs.length+vs2.length≤n:=by
      have h1:=r'.len.1
      have h3:(jn la S).2.1=rs.map (·.1)++vs2.map (·.1):=by rw [hrs,hvs2,hx];rfl
      rw [h3,N0,B0,B0] at h1
      exact h1
    have hn100:n≤99:=by lia
    refine w4 fr a r la N3 gn G2.s G2.d G2.n2i G2.t1 G2.t2 G2.t3 G2.t4 G2.ep (iv G2.pas) (iv G2.fin) iv0 (by rw [h2.s];exact hF5) (by exact lk hbl rfl) (bel':=fun l=>l.length≤60) (fun l hl=>by exact eA hl hbl rfl) (F:= [(N3,lst (rs.map iv) 0),(gn,lst (gs.map iv++ [.int x tx]) (ge+1)),(N1+0,lst [] 0),(r,lst (vs2.map iv) er2),(G2.n2i,ak G2.tab G2.ep')]++(bs G2.nodes++b6 G2.nodes++(F++X))) (by exact bk [_,_,_,_,_,_,_,_,_] [_,_,_,_] (.a (.l [0,1,2] .z) (.a (.l [3,4,5,6,7] .z) (.a (.a (.v 0) (.v 1)) (.a (.v 2) (.v 3))))) (.a (.l [6] .z) (.a (.a (.l [1,8,7] .z) (.a (.v 0) (.v 1))) (.a (.l [0,3,4,5] .z) (.a (.v 2) (.v 3))))) (.l [2] .z) (.l [8] .z) ((pe (by simp only [hrd2,iv,am,aU,cD,So.dict,NI.obj,NI.lst,Q0,A0,H0,P0]))) rfl) fun N5 tk5 F6 hN5 hF6=>?_
    refine m0 (fun l h=>by exact lk h rfl) vs2 r er2 is2 hrd2 (by lia) ?_ (F:= [(fr,F6),(N3,lst (rs.map iv) 0),(gn,lst (gs.map iv++ [.int x tx]) (ge+1)),(N1+0,lst [] 0)]++(F++X)) (by exact bk [_,_,_,_,_,_,_,_,_] [_,_,_,_] (.a (.l [0] .z) (.a (.a (.l [1,2,3] .z) (.a (.v 0) (.v 1))) (.a (.l [4,5,6,7] .z) (.a (.v 2) (.v 3))))) (.a (.l [4,1,8] .z) (.a (.l [5,6,7,0,3] .z) (.a (.a (.v 0) (.v 1)) (.a (.v 2) (.v 3))))) (.l [2] .z) (.l [8] .z) ((pe (by simp only [hrd2,iv,am,aU,cD,So.dict,NI.obj,NI.lst,Q0,A0,H0,P0]))) rfl) fun G3 tu er3 h3 hfin3 hpas3 is3=>?_
    · intro q hq
      have hq:q.1∈(df (S.1,[]) x).2:=by rw [←hvs2];exact X0 hq
      rw [nv]
      rcases mF _ _ _ hq with h | h
      · cases h
      · exact hs _ (by rw [←hx];exact h)
    have hrd3:=h3.rdy.trans hrd2
    refine ⟨tu,vs2.map iv,F6,[(r,lst [] er3),(N3,lst (rs.map iv) 0),(gn,lst (gs.map iv++ [.int x tx]) (ge+1)),(N1+0,lst [] 0)]++(aU w G3++(F++X)),rfl,hF6,by exact aO [_,_,_,_,_,_] [_,_,_] (.a (.l [0,1] .z) (.a (.l [2,3,4,5] .z) (.a (.v 0) (.a (.v 1) (.v 2))))) (.a (.l [1,2] .z) (.a (.v 0) (.a (.l [0,3,4,5] .z) (.a (.v 1) (.v 2))))) rfl,fun N7 tk7 F7 D7 hN7 hF7 xp=>?_⟩
    refine wL (tu:=tu) vs2 xp (fun l h=>by exact lk h rfl) (by lia) (F:= [(fr,F7),(r,lst [] er3),(N3,lst (rs.map iv) 0),(gn,lst (gs.map iv++ [.int x tx]) (ge+1)),(N1+0,lst [] 0)]++(aU w G3++(F++X))) (by exact aO [_,_,_,_,_,_,_,_,_] [_,_,_] (.a (.l [0,1,2,3] .z) (.a (.l [4,5,6,7,8] .z) (.a (.v 0) (.a (.v 1) (.v 2))))) (.a (.l [4,1,0,2,3] .z) (.a (.l [5,6,7,8] .z) (.a (.v 0) (.a (.v 1) (.v 2))))) rfl) fun vs8 ep8 D8 hvs8 xo=>?_
    have hl8:vs8.length=vs2.length:=by
      have h1:=congrArg List.length hvs8
      rw [B0,B0] at h1
      exact h1
    refine ⟨rs.map iv,vs8.map iv,0,ep8,D8,F7,[(N7+0,b8 "tuple_iterator" .none vs2.length),(tu,aS (vs2.map iv)),(r,lst [] er3),(gn,lst (gs.map iv++ [.int x tx]) (ge+1)),(N1+0,lst [] 0)]++(aU w G3++(F++X)),by rw [B0,B0];lia,rfl,xo,hF7,by exact aO [_,_,_,_,_,_,_,_,_] [_,_,_] (.a (.l [0,1,2,3] .z) (.a (.l [4,5,6,7,8] .z) (.a (.v 0) (.a (.v 1) (.v 2))))) (.a (.l [4,5,3,0] .z) (.a (.l [1,6,2,7,8] .z) (.a (.v 0) (.a (.v 1) (.v 2))))) rfl,fun N9 tk9 F9 hF9=>qq _ _ (.inl ⟨.inl rfl,n,A7 _,jn la S,G3,F9,N9,0,ge+1,er3,rs++vs8,gs++ [(x,tx)],[(N7+0,b8 "tuple_iterator" .none vs2.length),(tu,aS (vs2.map iv)),(N1+0,lst [] 0)]++X,r',?_,h3.s.trans h2.s,hrd3,?_,?_,?_,?_,?_⟩)⟩
    · rw [eg,A0]
      exact bk [_,_,_,_,_,_,_,_,_,_,_] [_,_,_,_] (.a (.l [0,1] .z) (.a (.l [2,3,4,5,6] .z) (.a (.a (.l [7,8,9] .z) (.a (.v 0) (.v 1))) (.a (.v 2) (.v 3))))) (.a (.l [0,10,5,4] .z) (.a (.a (.l [7,8,9] .z) (.a (.v 0) (.v 1))) (.a (.v 2) (.a (.l [2,3,6] .z) (.v 3))))) (.l [1] .z) (.l [10] .z) ((pe (by rfl))) rfl
    · show Is G3 ((df (S.1,[]) (bh la S.2.1)).2.foldl ig (df (S.1,[]) (bh la S.2.1)).1) c
      rw [←hx,←hvs2]
      exact is3
    · rw [hpas3,hpas,hpf,hfin3,hfin,N0,hl8,hrl]
      push_cast
      lia
    · rw [A0,hrs,hvs8,hvs2,hx];rfl
    · rw [A0,hgs,hx];rfl
    · rw [←h2.s] at *;exact hF9
end
section
variable {w:World} {b1 b2 b3:Bool} {bel:ag→Prop} {F M:af} {Q:Result→af→Prop}
theorem nK {es:List Env} {OL:af} {a ae:Nat} (la:Bool) (rank:Int→Nat) (cv:List (Nat × List (Int × Nat) × Nat)) (hb:∀l,bel l→l.length≤20∧cX l=es) (hfl:FrLed es OL) (hn0:0 < cv.length) (hn:cv.length≤8) (hrow:∀q∈cv,q.2.1.length≤7)
    (hA:∀a∈cy (cq cv),∀k∈a.2.2,rank k < rank a.1∧k∈(cy (cq cv)).map (·.1)) {n:Nat} {g:List Int} (hrun:RunV la n (eI (cq cv)) g) (hg:g.length≤100)
    (hp:(OL++([(a,lst (bI cv) ae)]++(bv cv++F))).Perm M)
    (hQ:∀(OL':af) (r er:Nat) (gs:List (Int × Nat)),FrSame OL OL'→gs.map (·.1)=g→Q (.ok (.ret (.ref r))) (OL'++([(r,lst (gs.map iv) er),(a,lst (bI cv) ae)]++(bv cv++F)))):Con w b1 b2 b3 bel (.call (.ref k8) ⟨[.ref a,.bool la],[]⟩) M Q:=by
  have hb':∀l,bel l→l.length≤96:=fun l h=>by have:=(hb l h).1;exact lk this rfl
  have hvl:(bI cv).length=cv.length:=B0 _
  refine te a la hb' (F:=M) (E0 _) fun N tk F0 hN hF0=>?_
  generalize N+0=fr at *
  refine Con.func fun below ao=>?_
  obtain ⟨hbl,hfe⟩:=hb _ ao
  refine Tr.lax ?_
  refine Tr.cons (wg fr a la hF0 (by exact lk hbl rfl) (bel':=fun l=>l.length≤60) (fun l hl=>by exact eA hl hbl rfl) (F:=M) (E0 _) fun N1 tk1 F1 hN1 hF1=>?_)
  refine uC (fun l h=>by exact lk h rfl) (F:= [(fr,F1)]++M) (E0 _) fun G hr hpas hfin is=>?_
  refine ⟨G.s,F1,aU w G++M,rfl,hF1,by exact aO [_] [_,_] (.a (.l [0] .z) (.a (.v 0) (.v 1))) (.a (.v 0) (.a (.l [0] .z) (.v 1))) rfl,fun N2 tk2 F2 hF2=>.inl ⟨rfl,?_⟩⟩
  refine Tr.cons (wf fr a la G.s (bI cv) ae (by exact j8 hvl hn rfl) hF2 (by exact lk hbl rfl) (bel':=fun l=>l.length≤40) (fun l hl=>by exact eA hl hbl rfl) (F:=OL++(aU w G++(bv cv++F))) (by exact bk [_,_] [_,_,_,_,_] (.a (.l [1,0] .z) (.a (.v 0) (.a (.v 4) (.a (.v 1) (.v 2))))) (.a (.l [1] .z) (.a (.v 4) (.v 3))) (.a (.v 0) (.a (.l [0] .z) (.a (.v 1) (.v 2)))) (.v 3) hp rfl) fun N3 tk3 F3 hN3 hF3=>?_)
  rw [hvl]
  refine t6 is hr (fun l h=>h) (by exact lk hn rfl) hF3 (F:= [(a,lst (bI cv) ae)]++(OL++(bv cv++F))) (by exact aO [_,_,_] [_,_,_,_] (.a (.l [0,1] .z) (.a (.v 0) (.a (.l [2] .z) (.a (.v 1) (.a (.v 2) (.v 3)))))) (.a (.l [1,2,0] .z) (.a (.v 1) (.a (.v 0) (.a (.v 2) (.v 3))))) rfl) fun G1 F4 hs1 hr1 hpf1 is1 hF4=>⟨rfl,.inl ⟨rfl,?_⟩⟩
  rw [←hs1] at hF4
  refine Tr.cons (wc fr a la G1.s (bI cv) ae (by exact j8 hvl hn rfl) hF4 (by exact lk hbl rfl) (bel':=fun l=>l.length≤40) (fun l hl=>by exact eA hl hbl rfl) (F:=OL++(aU w G1++(bv cv++F))) (by exact aO [_,_] [_,_,_,_] (.a (.l [0,1] .z) (.a (.v 0) (.a (.v 1) (.a (.v 2) (.v 3))))) (.a (.l [0] .z) (.a (.v 1) (.a (.l [1] .z) (.a (.v 0) (.a (.v 2) (.v 3)))))) rfl) fun N4 tk4 F5 hN4 hF5=>?_)
  rw [hvl]
  refine t5 cv is1 hr1 (fun l h=>h) (by exact lk hn rfl) hrow hF5 (F:=OL++F) (by exact bk [_,_,_,_,_,_,_] [_,_,_,_,_] (.a (.l [0,1,2] .z) (.a (.a (.l [3,4,5] .z) (.a (.v 0) (.v 1))) (.a (.v 2) (.a (.v 3) (.v 4))))) (.a (.l [2,6,0] .z) (.a (.v 3) (.a (.a (.l [3,4,5] .z) (.a (.v 0) (.v 1))) (.a (.v 2) (.v 4))))) (.l [1] .z) (.l [6] .z) ((pe (by rfl))) rfl) fun G2 F6 hs2 hr2 hpf2 is2 hF6=>⟨rfl,.inl ⟨rfl,?_⟩⟩
  obtain ⟨iv0,hF6⟩:=hF6 hn0
  rw [←hs2] at hF6
  have henv:dH (ax fr) fr:=⟨rfl,by kernel_rfl!,by kernel_rfl!,by kernel_rfl!⟩
  refine Tr.cons (wb fr a la G2.s G2.d G2.n2i G2.t1 G2.t2 G2.t3 G2.t4 G2.ep (iv G2.pas) (iv G2.fin) iv0 hF6 (by exact lk hbl rfl) (bel':=fun l=>l.length≤40∧cX l=ax fr::es) (fun q=>⟨by rw [J0];exact oM hbl rfl,by rw [fY,hfe]⟩) (F:= [(a,lst (bI cv) ae),(G2.n2i,ak G2.tab G2.ep')]++(bs G2.nodes++b6 G2.nodes++(OL++(bv cv++F)))) (by exact bk [_,_,_,_,_,_] [_,_,_,_,_] (.a (.l [0,1,2] .z) (.a (.l [3,4] .z) (.a (.a (.v 0) (.v 1)) (.a (.v 2) (.a (.v 3) (.v 4)))))) (.a (.l [3,0] .z) (.a (.a (.l [1,5,4] .z) (.a (.v 0) (.v 1))) (.a (.v 3) (.a (.v 2) (.v 4))))) (.l [2] .z) (.l [5] .z) ((pe (by simp only [hr2,iv,am,aU,cD,So.dict,NI.obj,NI.lst,Q0,A0,H0,P0]))) rfl) fun N5 tk5 F7 hN5 hF7=>?_)
  obtain ⟨es5,fe5,sl5,rfl⟩:=FrO.shape hF7
  refine tY (es:=ax fr::es) (OL:=(fr,gA es5 fe5 sl5)::OL) rank (G:=G2) is2 hr2 (by lia) hA (fun l h=>h) ⟨fr,es5,fe5,sl5,OL,henv,rfl,hfl⟩ (F:= [(a,lst (bI cv) ae)]++(bv cv++F)) (by exact bk [_,_,_,_,_,_] [_,_,_,_,_] (.a (.l [0] (.v 0)) (.a (.a (.l [1,2,3] .z) (.a (.v 1) (.v 2))) (.a (.l [4] .z) (.a (.v 3) (.v 4))))) (.a (.l [0,1,5] .z) (.a (.l [4,3] .z) (.a (.a (.v 1) (.v 2)) (.a (.v 0) (.a (.v 3) (.v 4)))))) (.l [2] .z) (.l [5] .z) ((pe (by simp only [hr2,iv,am,aU,cD,So.dict,NI.obj,NI.lst,Q0,A0,H0,P0]))) rfl) ?_
  rintro OL2 G3 r er vs ⟨es6,fe6,sl6,sl6',OL3,e6,rfl,hsm⟩ hs3 hr3 hpas3 hfin3 is3 hvs
  refine lm e6 fun e7 e8=>?_
  subst e7 e8
  refine ⟨rfl,.inl ⟨rfl,?_⟩⟩
  have hF8:FrO w.2 [(s7,.ref a),(sd,.bool la),(s8,.ref G3.s),(sy,iv0)] [] (gA es5 fe5 sl6'):=by rw [hs3];exact FrO.same hF7
  generalize gA es5 fe5 sl6'=F8 at *
  have hvl3:vs.length≤128:=by
    have h1:=congrArg List.length hvs
    rw [B0] at h1
    have h2:=is3.rdyLen
    lia
  refine Tr.cons (wa fr a r la G3.s G3.d G3.n2i G3.t1 G3.t2 G3.t3 G3.t4 G3.ep (iv G3.pas) (iv G3.fin) iv0 hF8 (by exact lk hbl rfl) (bel':=fun l=>l.length≤40) (fun l hl=>by exact eA hl hbl rfl) (F:= [(a,lst (bI cv) ae),(r,lst (vs.map iv) er),(G3.n2i,ak G3.tab G3.ep')]++(bs G3.nodes++b6 G3.nodes++(OL3++(bv cv++F)))) (by exact bk [_,_,_,_,_,_,_] [_,_,_,_,_] (.a (.l [0,1,2] .z) (.a (.l [3,4,5] .z) (.a (.a (.v 0) (.v 1)) (.a (.v 2) (.a (.v 3) (.v 4)))))) (.a (.l [0] (.v 2)) (.a (.l [4] .z) (.a (.a (.l [1,6,5] .z) (.a (.v 0) (.v 1))) (.a (.l [3] .z) (.a (.v 3) (.v 4)))))) (.l [2] .z) (.l [6] .z) ((pe (by simp only [hr3,iv,am,aU,cD,So.dict,NI.obj,NI.lst,Q0,A0,H0,P0]))) rfl) fun N6 tk6 F9 hN6 hF9=>?_)
  refine m0 (fun l h=>by exact lk h rfl) vs r er is3 hr3 (by exact lk hvl3 rfl) ?_ (F:= [(fr,F9),(a,lst (bI cv) ae)]++(OL3++(bv cv++F))) (by exact bk [_,_,_,_,_,_,_] [_,_,_,_,_] (.a (.l [0] .z) (.a (.a (.l [1,2,3] .z) (.a (.v 0) (.v 1))) (.a (.l [4,5] .z) (.a (.v 2) (.a (.v 3) (.v 4)))))) (.a (.l [4,1,6] .z) (.a (.l [5,0,3] .z) (.a (.a (.v 0) (.v 1)) (.a (.v 2) (.a (.v 3) (.v 4)))))) (.l [2] .z) (.l [6] .z) ((pe (by simp only [hr3,iv,am,aU,cD,So.dict,NI.obj,NI.lst,Q0,A0,H0,P0]))) rfl) fun G4 tu er4 h4 hfin4 hpas4 is4=>?_
  · intro q hq
    have hq:q.1∈dJ (cy (cq cv)):=by rw [←hvs];exact X0 hq
    unfold dJ at hq
    obtain ⟨x,hx,e⟩:=E1.mp hq
    exact e▸X0 (R3.mp hx).1
  have hr4:=h4.rdy.trans hr3
  refine ⟨tu,vs.map iv,F9,[(r,lst [] er4),(a,lst (bI cv) ae)]++(aU w G4++(OL3++(bv cv++F))),rfl,hF9,by exact aO [_,_,_,_] [_,_,_,_] (.a (.l [0,1] .z) (.a (.l [2,3] .z) (.a (.v 0) (.a (.v 1) (.a (.v 2) (.v 3)))))) (.a (.l [1,2] .z) (.a (.v 0) (.a (.l [0,3] .z) (.a (.v 1) (.a (.v 2) (.v 3)))))) rfl,fun N7 tk7 cb D10 hN7 xn hD10=>?_⟩
  refine wN (tu:=tu) vs hD10 (fun l h=>by exact lk h rfl) (by exact lk hvl3 rfl) (F:= [(fr,cb),(r,lst [] er4),(a,lst (bI cv) ae)]++(aU w G4++(OL3++(bv cv++F)))) (by exact aO [_,_,_,_,_,_,_] [_,_,_,_] (.a (.l [0,1,2,3] .z) (.a (.l [4,5,6] .z) (.a (.v 0) (.a (.v 1) (.a (.v 2) (.v 3)))))) (.a (.l [4,1,0,2,3] .z) (.a (.l [5,6] .z) (.a (.v 0) (.a (.v 1) (.a (.v 2) (.v 3)))))) rfl) fun ls lep D11 hls hD11=>?_
  refine ⟨D11,cb,[(N7+0,b8 "tuple_iterator" .none vs.length),(tu,aS (vs.map iv)),(N7+1,lst (ls.map iv) lep),(r,lst [] er4),(a,lst (bI cv) ae)]++(aU w G4++(OL3++(bv cv++F))),rfl,hD11,xn,by exact aO [_,_,_,_,_,_,_] [_,_,_,_] (.a (.l [0,1] .z) (.a (.l [2,3,4,5,6] .z) (.a (.v 0) (.a (.v 1) (.a (.v 2) (.v 3)))))) (.a (.l [2,3,4,0] .z) (.a (.l [1,5,6] .z) (.a (.v 0) (.a (.v 1) (.a (.v 2) (.v 3)))))) rfl,fun N8 tk8 fT xm=>.inl ⟨rfl,?_⟩⟩
  have hll:ls.length=vs.length:=by
    have h1:=congrArg List.length hls
    rw [B0,B0] at h1
    exact h1
  generalize N7+1=ln at *
  refine Tr.cons (w9 fr a la G3.s ln iv0 xm (by exact lk hbl rfl) (F:= [(N7+0,b8 "tuple_iterator" .none vs.length),(tu,aS (vs.map iv)),(ln,lst (ls.map iv) lep),(r,lst [] er4),(a,lst (bI cv) ae)]++(aU w G4++(OL3++(bv cv++F)))) (by exact aO [_,_,_,_,_,_] [_,_,_,_] (.a (.l [0] .z) (.a (.l [1,2,3,4,5] .z) (.a (.v 0) (.a (.v 1) (.a (.v 2) (.v 3)))))) (.a (.l [0] .z) (.a (.l [1,2,3,4,5] .z) (.a (.v 0) (.a (.v 1) (.a (.v 2) (.v 3)))))) rfl) fun N9 tk9 F12 xl=>.inl ⟨rfl,?_⟩)
  refine Tr.cons (show Tr _ _ _ _ _ (execs [whW] (ax fr)) _ _ from Tr.single (jk (bel:=fun l=>l.length≤40) (Con.perm (t0 (F:= [(a,lst (bI cv) ae)]++(OL3++(bv cv++F))) (la:=la) (a:=a) (fr:=fr) (s:=G3.s) (r:=r) (gn:=N9) (c:=16 * cv.length) iv0 g (fun l h=>h) (by lia) hg (fun G5 F13 ln5 le5 ge5 er5 gs X hgs hs5 hr5 hpf5 uD=>⟨.next,rfl,.inl ⟨rfl,?_⟩⟩) n _ ⟨eI (cq cv),G4,F12,ln,lep,0,er4,ls,[],[(N7+0,b8 "tuple_iterator" .none vs.length),(tu,aS (vs.map iv))],hrun,E0 _,h4.s,hr4,?_,?_,?_,rfl,xl⟩) ?_) fun q=>by show List.length (_::_)≤40;rw [J0];exact oM hbl rfl))
  · rw [←hs5] at uD
    refine Tr.cons (w3 fr a r la ln5 N9 G5.s G5.d G5.n2i G5.t1 G5.t2 G5.t3 G5.t4 G5.ep (iv G5.pas) (iv G5.fin) iv0 uD (by exact lk hbl rfl) (bel':=fun l=>l.length≤60) (fun l hl=>by exact eA hl hbl rfl) (F:= [(ln5,lst [] le5),(N9,lst (gs.map iv) ge5),(r,lst [] er5),(G5.n2i,ak G5.tab G5.ep')]++(bs G5.nodes++b6 G5.nodes++([(a,lst (bI cv) ae)]++(OL3++(bv cv++F))++X))) (by exact bk [_,_,_,_,_,_,_,_,_] [_,_,_,_,_,_] (.a (.l [0,1,2] .z) (.a (.l [3,4,5,6] .z) (.a (.a (.v 0) (.v 1)) (.a (.a (.l [7] .z) (.a (.v 2) (.a (.v 3) (.v 4)))) (.v 5))))) (.a (.l [0,3,4,5] .z) (.a (.a (.l [1,8,6] .z) (.a (.v 0) (.v 1))) (.a (.a (.l [7] .z) (.a (.v 2) (.a (.v 3) (.v 4)))) (.v 5)))) (.l [2] .z) (.l [8] .z) ((pe (by simp only [hr5,iv,am,aU,cD,So.dict,NI.obj,NI.lst,Q0,A0,H0,P0]))) rfl) fun N10 tk10 F14 hN10 xk=>?_)
    refine rP (fun l h=>by exact lk h rfl) [] r er5 hr5 (Y3 _) (F:= [(fr,F14),(ln5,lst [] le5),(N9,lst (gs.map iv) ge5),(a,lst (bI cv) ae)]++(OL3++(bv cv++F)++X)) (by exact bk [_,_,_,_,_,_,_,_,_] [_,_,_,_,_,_] (.a (.l [0] .z) (.a (.a (.l [1,2,3] .z) (.a (.v 0) (.v 1))) (.a (.l [4,5,6,7] .z) (.a (.a (.v 2) (.a (.v 3) (.v 4))) (.v 5))))) (.a (.l [4,1,8] .z) (.a (.l [5,6,0,3] .z) (.a (.a (.v 0) (.v 1)) (.a (.a (.l [7] .z) (.a (.v 2) (.a (.v 3) (.v 4)))) (.v 5))))) (.l [2] .z) (.l [8] .z) ((pe (by simp only [hr5,iv,am,aU,cD,So.dict,NI.obj,NI.lst,Q0,A0,H0,P0]))) rfl) fun β hβ=>?_
    have hβ:β=false:=by rw [hβ,decide_eq_false (by lia)];rfl
    subst hβ
    refine ⟨rfl,.inl ⟨rfl,?_⟩⟩
    refine w8 fr a la G5.s ln5 N9 iv0 xk (by exact lk hbl rfl) (F:= [(r,lst [] er5),(ln5,lst [] le5),(N9,lst (gs.map iv) ge5),(a,lst (bI cv) ae)]++(aU w G5++(OL3++(bv cv++F)++X))) (by exact aO [_,_,_,_,_] [_,_,_,_,_] (.a (.l [0] .z) (.a (.l [1,2,3,4] .z) (.a (.v 0) (.a (.a (.v 1) (.a (.v 2) (.v 3))) (.v 4))))) (.a (.l [1] .z) (.a (.v 0) (.a (.l [0,2,3,4] .z) (.a (.a (.v 1) (.a (.v 2) (.v 3))) (.v 4))))) rfl) fun N11 tk11=>⟨OL3++([(N9,lst (gs.map iv) ge5),(a,lst (bI cv) ae)]++(bv cv++F)),[(r,lst [] er5),(ln5,lst [] le5)]++(aU w G5++X),?_,hQ OL3 N9 ge5 gs hsm hgs⟩
    exact aO [_,_,_,_] [_,_,_,_,_] (.a .z (.a (.l [0,1,2,3] .z) (.a (.v 0) (.a (.a (.v 1) (.a (.v 2) (.v 3))) (.v 4))))) (.a (.a (.v 1) (.a (.l [2,3] .z) (.a (.v 2) (.v 3)))) (.a (.l [0,1] .z) (.a (.v 0) (.v 4)))) rfl
  · show Is G4 ((dJ (cy (cq cv))).foldl ig (cy (cq cv))) _
    rw [←hvs];exact is4
  · rw [hpas4,hpas3,hpf2.1,hpf1.1,hpas,hfin4,hfin3,hpf2.2,hpf1.2,hfin,hll]
  · rw [hls,hvs];rfl
  · exact bk [_,_,_,_,_,_,_,_,_,_,_] [_,_,_,_,_] (.a (.l [0,1,2,3] .z) (.a (.a (.l [4,5,6] .z) (.a (.v 0) (.v 1))) (.a (.a (.l [7] .z) (.a (.v 2) (.a (.v 3) (.v 4)))) (.l [8,9] .z)))) (.a (.l [0,10] .z) (.a (.l [8,9,1,3,7] .z) (.a (.a (.l [4,5,6] .z) (.a (.v 0) (.v 1))) (.a (.v 2) (.a (.v 3) (.v 4)))))) (.l [2] .z) (.l [10] .z) ((pe (by rfl))) rfl
end
open PySem PySem.W PySem.Calls PyProof.Rows
noncomputable def et:List Int→List Int→Bool
  | [],ys=>!ys.isEmpty
  | _::_,[]=>false
  | x::xs,y::ys=>if x=y then et xs ys else decide (x < y)
theorem dA:plainId "list.__eq__.loop"=true:=by decide+kernel
theorem lZ {A:Around} {E:Value→Shared→Prop} {s:Shared} {prog:Program} {w:World} (a b:Int) (t u:Nat) {Q:Value→Shared→Prop} (h:Q (.bool (decide (a < b))) s):wpAny (model prog w) A (richCompare .Lt (.int a t) (.int b u)) Q E s:=
  richCompare_gives (typeIs_int s a t) (typeIs_int s b u) F.slot_int_lt F.entry_int_lt (F.args_int_lt_2 _ _) (AutoIntG1.int___lt___int_int_0 a t b u) (by first | trivial | rfl | decide | simp [Made.takes]) h
theorem uk (l:List Int):et [] l=decide (0 < l.length):=by cases l<;>rfl
theorem uj (l b:Nat) (xs ys:List (Int × Nat)) (n n2:Nat) (k:Nat):∀i:Nat,xs.length - i=k→i≤xs.length→i≤ys.length→Meets (Builtin.«list.__eq__.loop» ⟨[.ref l,.ref b,rawInt i,rawInt 0],[]⟩)
    (fun _ R s=>s.heap.get? l=some (lst (xs.map iv) n)∧s.heap.get? b=some (lst (ys.map iv) n2)∧R (.ok (.ret (.bool (et ((xs.map (·.1)).drop i) ((ys.map (·.1)).drop i))))) s):=by
  induction k with
  | zero=>
    intro i hk hx hy prog w A R s h
    obtain ⟨hp,g,d,tk,os⟩:=s;obtain ⟨hl,hb,h⟩:=h
    wp_walk using AutoSeq1.wpAny_loadPart' hl,AutoSeq1.wpAny_loadPart' hb
    have h1:(⟨xs.map iv⟩:Array Value)[((i:Nat):Int).toNat]?=none:=by simp;omega
    have hd:(xs.map (·.1)).drop i= []:=by simp;omega
    rw [hd,uk,List.length_drop,B0] at h
    have e:decide (0 < ys.length - i)=decide ((⟨xs.map iv⟩:Array Value).size < (⟨ys.map iv⟩:Array Value).size):=by
      simp;omega
    rw [e] at h
    rw [h1]
    cases h2:(⟨ys.map iv⟩:Array Value)[((i:Nat):Int).toNat]? with
    | none=>
      wp_walk using AutoSeq1.wpAny_loadPart' hl,AutoSeq1.wpAny_loadPart' hb
      exact h
    | some y=>
      wp_walk using AutoSeq1.wpAny_loadPart' hl,AutoSeq1.wpAny_loadPart' hb
      exact h
  | succ k ih=>
    intro i hk hx hy prog w A R s h
    obtain ⟨hp,g,d,tk,os⟩:=s;obtain ⟨hl,hb,h⟩:=h
    wp_walk using AutoSeq1.wpAny_loadPart' hl,AutoSeq1.wpAny_loadPart' hb
    have hi:i < xs.length:=by omega
    have h1:(⟨xs.map iv⟩:Array Value)[((i:Nat):Int).toNat]?=some (.int xs[i].1 xs[i].2):=by simp [hi,iv]
    have hd:(xs.map (·.1)).drop i=xs[i].1::(xs.map (·.1)).drop (i+1):=by
      rw [U7 (by rw [B0];exact hi),J9]
    rw [hd] at h
    rw [h1]
    by_cases hj:i < ys.length
    · have h2:(⟨ys.map iv⟩:Array Value)[((i:Nat):Int).toNat]?=some (.int ys[i].1 ys[i].2):=by simp [hj,iv]
      have hd2:(ys.map (·.1)).drop i=ys[i].1::(ys.map (·.1)).drop (i+1):=by
        rw [U7 (by rw [B0];exact hj),J9]
      rw [hd2] at h
      rw [h2]
      refine C0 (MeetsSeq.EqGives.int xs[i].1 ys[i].1 xs[i].2 ys[i].2 prog w _ _ _ _ ?_)
      have hc:((i:Int)+1)=((i+1:Nat):Int):=by push_cast;rfl
      unfold et at h
      by_cases he:xs[i].1=ys[i].1
      · rw [if_pos he] at h
        rw [show (xs[i].1==ys[i].1)=true by simpa using he]
        wp_walk
        rw [hc]
        exact ⟨plainId_quiet dA _,codeAny_builtin MeetsSeq3.entry_eq_loop (by
          rw [Around.under_plainId dA _]
          exact ih (i+1) (by omega) (by exact hi) (by exact hj) prog w A R _ ⟨hl,hb,h⟩)⟩
      · rw [if_neg he] at h
        rw [show (xs[i].1==ys[i].1)=false by simpa using he]
        wp_walk using AutoSeq1.wpAny_loadPart' hl,AutoSeq1.wpAny_loadPart' hb
        rw [h1,h2]
        dsimp only
        refine C0 (lZ _ _ _ _ ?_)
        wp_walk
        exact h
    · have h2:(⟨ys.map iv⟩:Array Value)[((i:Nat):Int).toNat]?=none:=by simp;omega
      have hd2:(ys.map (·.1)).drop i= []:=by simp;omega
      rw [hd2] at h
      rw [h2]
      wp_walk using AutoSeq1.wpAny_loadPart' hl,AutoSeq1.wpAny_loadPart' hb
      have e:decide ((⟨xs.map iv⟩:Array Value).size < (⟨ys.map iv⟩:Array Value).size)=false:=by simp;omega
      show R (.ok (.ret (.bool (decide ((⟨xs.map iv⟩:Array Value).size < (⟨ys.map iv⟩:Array Value).size))))) _
      rw [e]
      exact h
theorem ul (l b:Nat) (xs ys:List (Int × Nat)) (n n2:Nat):Meets (Builtin.«list.__lt__» ⟨[.ref l,.ref b],[]⟩)
    (fun _ R s=>s.heap.get? l=some (lst (xs.map iv) n)∧s.heap.get? b=some (lst (ys.map iv) n2)∧R (.ok (.ret (.bool (et (xs.map (·.1)) (ys.map (·.1)))))) s):=by
  intro prog w A R s h
  obtain ⟨hp,g,d,tk,os⟩:=s;obtain ⟨hl,hb,h⟩:=h
  have f3:=AutoSeq1.sub_list_list
  wp_walk using AutoSeq1.wpAny_loadPart' hl,AutoSeq1.wpAny_loadPart' hb
  rw [show (lst (ys.map iv) n2).cls= .type "list" from rfl]
  wp_walk using AutoSeq1.wpAny_loadPart' hl,AutoSeq1.wpAny_loadPart' hb
  exact ⟨plainId_quiet dA _,codeAny_builtin MeetsSeq3.entry_eq_loop (by
    rw [Around.under_plainId dA _]
    exact uj l b xs ys n n2 _ 0 rfl (Y3 _) (Y3 _) prog w A R _ ⟨hl,hb,h⟩)⟩
theorem nj {A:Around} {E:Value→Shared→Prop} {s:Shared} {prog:Program} {w:World} {l b:Nat} (xs ys:List (Int × Nat)) (n n2:Nat) (hu:A.units < cLine) (hl:s.heap.get? l=some (lst (xs.map iv) n)) (hb:s.heap.get? b=some (lst (ys.map iv) n2)) {Q:Bool→Shared→Prop}
    (h:Q (et (xs.map (·.1)) (ys.map (·.1))) s):wpAny (model prog w) A (oneLt' true (.ref l) (.ref b)) Q E s:=by
  rw [oneLt'_eq]
  simp only [if_true]
  refine C0 (wpAny_cRoomFor hu ?_)
  refine C0 (wpAny_callSpecialIfBound?_slot (ay hl rfl) F.slot_list_lt (call_meets F.slot_list_lt (ay hl rfl) F.entry_list_lt (F.args_list_lt_2 _ _) (ul l b xs ys n n2) ⟨hl,hb,?_⟩))
  exact wpAny_truthy_bool h
open PySem PySem.W PySem.Calls PyProof.Rows
@[reducible] def rkK (ρ:Value→Option Int):PyProof.Rows.KeyKind where
  α:=Int
  blt a b:=decide (a < b)
  irrefl a:=decide_eq_false (Int.lt_irrefl a)
  trans a b c h1 h2:=decide_eq_true (Int.lt_trans (of_decide_eq_true h1) (of_decide_eq_true h2))
  negTrans a b c h:=by
    have h:=of_decide_eq_true h
    by_cases hab:a < b
    · exact .inl (decide_eq_true hab)
    · exact .inr (decide_eq_true (by lia))
  total a b h1 h2:=by
    have h1:=of_decide_eq_false h1
    have h2:=of_decide_eq_false h2
    lia
  keyOf:=ρ
  dflt:=0
noncomputable def iW (prog:Program) (w:World) (A:Around) (s:Shared) (ρ:Value→Option Int):Prop:=
  ∀(E:Value→Shared→Prop) (x y:Value) (a b:Int) (Q:Bool→Shared→Prop),ρ x=some a→ρ y=some b→Q (decide (a < b)) s→wpAny (model prog w) A (oneLt' true x y) Q E s
section
variable {prog:Program} {w:World} {A:Around} {E:Value→Shared→Prop} {s:Shared} {a₀:Array Keyed} {ρ:Value→Option Int}
noncomputable abbrev eu (ρ:Value→Option Int) (st:SortSt) (i:Nat):Int:=KK (rkK ρ) (arrOf st) i
theorem z8 {st:SortSt} {i j:Nat} {Q:Option Bool→SortSt→Prop} (hO:iW prog w A s ρ) (h0:KeysOf (rkK ρ) a₀) (hB:SBase a₀ st) (hi:i < a₀.size) (hj:j < a₀.size)
    (h:Q (some (decide (eu ρ st i < eu ρ st j))) st):wpS (model prog w) A E s (ltAt' i j) Q st:=by
  obtain ⟨x,p,a,e1,ha,ka⟩:=hB.atK h0 hi
  obtain ⟨y,q,b,e2,hb,kb⟩:=hB.atK h0 hj
  unfold eu at h
  rw [ka,kb] at h
  rw [ltAt'_eq]
  refine wpS_bind (wpS_get ?_)
  show wpS _ _ _ _ (do let u ←elem' (arrOf st) i;let v ←elem' (arrOf st) j;lt' u v) Q st
  rw [elem'_eq,elem'_eq,e1,e2]
  refine wpS_bind (wpS_pure (wpS_bind (wpS_pure ?_)))
  rw [lt'_eq]
  refine wpS_bind (wpS_get ?_)
  rw [hB.kind,keyLt'_oneType]
  exact wpS_bind (wpS_lift (wpAny_attempt (hO _ x y a b _ ha hb ⟨rfl,wpS_pure h⟩)))
noncomputable def Up (f:Nat→Int) (k:Nat):Prop:=∀i j,i < j→j < k→f i < f j
noncomputable def Dn (f:Nat→Int) (k:Nat):Prop:=∀i j,i < j→j < k→f j < f i
theorem Up.more {f:Nat→Int} {k:Nat} (h:Up f k) (hk:0 < k→f (k - 1) < f k):Up f (k+1):=by
  intro i j hij hj
  by_cases e:j < k
  · exact h i j hij e
  · have:j=k:=by lia
    subst this
    have h1:=hk (by lia)
    by_cases e2:i=j - 1
    · subst e2;exact h1
    · have:=h i (j - 1) (by lia) (by lia);lia
theorem Dn.more {f:Nat→Int} {k:Nat} (h:Dn f k) (hk:0 < k→f k < f (k - 1)):Dn f (k+1):=by
  intro i j hij hj
  by_cases e:j < k
  · exact h i j hij e
  · have:j=k:=by lia
    subst this
    have h1:=hk (by lia)
    by_cases e2:i=j - 1
    · subst e2;exact h1
    · have:=h i (j - 1) (by lia) (by lia);lia
noncomputable def yx (ρ:Value→Option Int) (a₀:Array Keyed):Prop:=∀st,SBase a₀ st→∀i j,i < a₀.size→j < a₀.size→i≠j→eu ρ st i≠eu ρ st j
theorem zB {st:SortSt} {a nrem:Nat} {Q:AscSt→SortSt→Prop} (hO:iW prog w A s ρ) (h0:KeysOf (rkK ρ) a₀) (hd:yx ρ a₀) (hn:nrem≤a₀.size) (ha:1≤a) (han:a≤nrem) (hB:SBase a₀ st) (hs:Up (eu ρ st) a)
    (h:∀n,a≤n→n≤nrem→Up (eu ρ st) n→(n < nrem→eu ρ st n < eu ρ st (n - 1))→Q (none,n) st):wpS (model prog w) A E s (ascLoop a nrem) Q st:=by
  unfold ascLoop
  refine wpS_forRange (I:=fun x c st'=>st'=st∧c=(none,x)∧Up (eu ρ st) x) ?_ ?_ ⟨rfl,rfl,hs⟩
  · rintro x c st' hax hxn ⟨rfl,rfl,hs'⟩
    dsimp only
    refine wpS_bind (z8 hO h0 hB (by exact M0 hxn hn) (by lia) ?_)
    by_cases hl:eu ρ st' x < eu ρ st' (x - 1)
    · rw [decide_eq_true hl]
      simp only [if_true]
      exact wpS_pure (h x hax (by exact B4 hxn) hs' fun _=>hl)
    · rw [decide_eq_false hl]
      simp only [J2,if_false]
      have:=hd st' hB x (x - 1) (by exact M0 hxn hn) (by lia) (by lia)
      exact wpS_pure ⟨rfl,rfl,hs'.more fun _=>by lia⟩
  · rintro c st' ⟨rfl,rfl,hs'⟩
    have e:max a nrem=nrem:=by lia
    rw [e] at hs'⊢
    exact h nrem han (S0 _) hs' fun x=>absurd x (L6 _)
theorem yL {st:SortSt} {n nrem:Nat} {Q:Option Nat→SortSt→Prop} (hO:iW prog w A s ρ) (h0:KeysOf (rkK ρ) a₀) (hd:yx ρ a₀) (hn:nrem≤a₀.size) (h1:1≤n) (hnn:n≤nrem) (hB:SBase a₀ st) (hs:Dn (eu ρ st) n)
    (h:∀m st',SBase a₀ st'→1≤m→m≤nrem→Up (eu ρ st') m→Q (some m) st'):wpS (model prog w) A E s (tail3 n nrem) Q st:=by
  unfold tail3
  have hsz:n≤(arrOf st).size:=by rw [hB.size];exact M0 hnn hn
  have hB':SBase a₀ (setArr st (mirror (arrOf st) 0 n ((n - 0) / 2))):=hB.setArr (mirror_perm _ _ _ _)
  refine wpS_bind (wpS_reverse (wpS_bind (zB hO h0 hd hn h1 hnn hB' ?_ fun m hm1 hm2 hsm _=>wpS_pure (h m _ hB' (by exact M0 h1 hm1) hm2 hsm))))
  intro i j hij hj
  show KK (rkK ρ) (mirror (arrOf st) 0 n ((n - 0) / 2)) i < KK (rkK ρ) (mirror (arrOf st) 0 n ((n - 0) / 2)) j
  rw [KK_mirror hsz,KK_mirror hsz,if_pos (by lia),if_pos (by lia)]
  exact hs _ _ (by lia) (by lia)
theorem zu {st:SortSt} {nrem:Nat} {Q:Option Nat→SortSt→Prop} (hO:iW prog w A s ρ) (h0:KeysOf (rkK ρ) a₀) (hd:yx ρ a₀) (hn:nrem≤a₀.size) (hnn:2≤nrem) (hB:SBase a₀ st) (hs:Dn (eu ρ st) 2)
    (h:∀m st',SBase a₀ st'→1≤m→m≤nrem→Up (eu ρ st') m→Q (some m) st'):wpS (model prog w) A E s (descPart 1 nrem) Q st:=by
  unfold descPart
  refine wpS_bind (wpS_lift (wpAny_rule ⟨rfl,?_⟩))
  refine wpS_bind (wpS_mono (Q:=fun c st'=>st'=st∧∃m,c=(none,m,0)∧2≤m∧m≤nrem∧Dn (eu ρ st) m) ?_ ?_)
  · unfold descLoop
    refine wpS_forRange (I:=fun x c st'=>st'=st∧c=(none,x,0)∧Dn (eu ρ st) x) ?_ ?_ ⟨rfl,rfl,hs⟩
    · rintro x c st' hax hxn ⟨rfl,rfl,hs'⟩
      dsimp only
      refine wpS_bind (z8 hO h0 hB (by exact M0 hxn hn) (by lia) ?_)
      by_cases hl:eu ρ st' x < eu ρ st' (x - 1)
      · rw [decide_eq_true hl]
        simp only [if_true]
        rw [if_neg (L6 0)]
        exact wpS_pure ⟨rfl,rfl,hs'.more fun _=>hl⟩
      · rw [decide_eq_false hl]
        simp only [J2,if_false]
        have:=hd st' hB x (x - 1) (by exact M0 hxn hn) (by lia) (by lia)
        refine wpS_bind (z8 hO h0 hB (by lia) (by exact M0 hxn hn) ?_)
        rw [decide_eq_true (show eu ρ st' (x - 1) < eu ρ st' x by lia)]
        simp only [if_true]
        exact wpS_pure ⟨rfl,x,rfl,hax,by exact B4 hxn,hs'⟩
    · rintro c st' ⟨rfl,rfl,hs'⟩
      have e:max (1+1) nrem=nrem:=by lia
      rw [e] at hs'⊢
      exact ⟨rfl,nrem,rfl,hnn,S0 _,hs'⟩
  · rintro c st' ⟨rfl,m,rfl,hm1,hm2,hs'⟩
    dsimp only
    rw [if_neg (L6 0)]
    exact yL hO h0 hd hn (by exact B4 hm1) hm2 hB hs' h
theorem y3 {st:SortSt} {nrem:Nat} {Q:Option Nat→SortSt→Prop} (hO:iW prog w A s ρ) (h0:KeysOf (rkK ρ) a₀) (hd:yx ρ a₀) (hn:nrem≤a₀.size) (h1:1≤nrem) (hB:SBase a₀ st)
    (h:∀m st',SBase a₀ st'→1≤m→m≤nrem→Up (eu ρ st') m→Q (some m) st'):wpS (model prog w) A E s (countRun' 0 nrem) Q st:=by
  rw [countRun0_eq]
  refine wpS_bind (zB hO h0 hd hn (S0 1) h1 hB (fun i j hij hj=>by lia) fun n hn1 hn2 hsn hor=>?_)
  dsimp only
  by_cases hnn:n=nrem
  · rw [if_pos (by simpa using hnn)]
    exact wpS_pure (h n st hB hn1 hn2 hsn)
  · rw [if_neg (by simpa using hnn)]
    have hlt:=hor (by lia)
    by_cases hgt:n > 1
    · rw [if_pos hgt]
      refine wpS_bind (z8 hO h0 hB (by exact M0 h1 hn) (by lia) ?_)
      rw [decide_eq_true (hsn 0 (n - 1) (by lia) (by lia))]
      simp only [if_true]
      exact wpS_pure (h n st hB hn1 hn2 hsn)
    · rw [if_neg hgt]
      have e:n=1:=by lia
      subst e
      refine zu hO h0 hd hn (by lia) hB (fun i j hij hj=>?_) h
      have hi:i=0:=by lia
      have hj':j=1:=by lia
      subst hi hj'
      exact hlt
theorem binR {st:SortSt} {n ok:Nat} {Q:Bool→SortSt→Prop} (hO:iW prog w A s ρ) (h0:KeysOf (rkK ρ) a₀) (hd:yx ρ a₀) (hn:n≤a₀.size) (hok:ok≤n) (hB:SBase a₀ st) (hs:Up (eu ρ st) ok)
    (h:∀st',SBase a₀ st'→Up (eu ρ st') n→Q true st'):wpS (model prog w) A E s (binarySort' 0 n ok) Q st:=by
  rw [binarySort'_eq]
  simp only [P2]
  refine wpS_bind (wpS_mono (Q:=fun c st'=>c=(none,())∧SBase a₀ st'∧Up (eu ρ st') n) (wpS_forRange (I:=fun k c st'=>c=(none,())∧SBase a₀ st'∧Up (eu ρ st') (min k n)) ?_ ?_ ?_) ?_)
  · rintro k c st1 hak hkn ⟨rfl,hB1,hs1⟩
    rw [show min k n=k by lia] at hs1
    have hk:k < a₀.size:=by exact M0 hkn hn
    refine wpS_bind (wpS_mono (Q:=fun c st2=>st2=st1∧∃l r,c=(none,l,r)∧l≤k∧(∀i,i < l→eu ρ st1 i < eu ρ st1 k)∧(∀i,l≤i→i < k→eu ρ st1 k < eu ρ st1 i))
      (wpS_forRange (I:=fun x c st2=>st2=st1∧∃l r,c=(none,l,r)∧l≤r∧r≤k∧r - l≤k - x∧(∀i,i < l→eu ρ st1 i < eu ρ st1 k)∧(∀i,r≤i→i < k→eu ρ st1 k < eu ρ st1 i)) ?_ ?_ ⟨rfl,0,k,rfl,Y3 _,S0 _,S0 _,fun i hi=>absurd hi (Nat.not_lt_zero _),fun i a b=>by lia⟩) ?_)
    · rintro x c st2 _ hxk ⟨rfl,l,r,rfl,hlr,hrk,hm,hlo,hhi⟩
      dsimp only
      by_cases hge:l≥r
      · rw [if_pos hge]
        exact wpS_pure ⟨rfl,l,r,rfl,by exact M0 hlr hrk,hlo,fun i a b=>hhi i (by exact M0 hge a) b⟩
      · rw [if_neg hge]
        refine wpS_bind (z8 hO h0 hB1 hk (by lia) ?_)
        have mono:∀i j,i≤j→j < k→eu ρ st2 i≤eu ρ st2 j:=fun i j hij hj=>by
          by_cases e:i=j
          · subst e;exact V8 _
          · exact Int.le_of_lt (hs1 i j (by lia) hj)
        by_cases hl:eu ρ st2 k < eu ρ st2 ((l+r) / 2)
        · rw [decide_eq_true hl]
          simp only [if_true]
          exact wpS_pure ⟨rfl,l,(l+r) / 2,rfl,by lia,by lia,by lia,hlo,fun i a b=>by have:=mono _ _ a b;lia⟩
        · rw [decide_eq_false hl]
          simp only [J2,if_false]
          have hne:=hd st2 hB1 k ((l+r) / 2) hk (by lia) (by lia)
          exact wpS_pure ⟨rfl,(l+r) / 2+1,r,rfl,by lia,by exact hrk,by lia,fun i a=>by have:=mono i ((l+r) / 2) (by lia) (by lia);lia,hhi⟩
    · rintro c st2 ⟨rfl,l,r,rfl,hlr,hrk,hm,hlo,hhi⟩
      exact ⟨rfl,l,r,rfl,by exact M0 hlr hrk,hlo,fun i a b=>hhi i (by lia) b⟩
    · rintro c st2 ⟨rfl,l,r,rfl,hlk,hlo,hhi⟩
      show wpS _ _ _ _ (do moveDown' k l;pure (ForInStep.yield (none,()))) _ _
      rw [moveDown'_eq]
      refine wpS_bind (wpS_modify (wpS_pure ⟨rfl,hB1.setArr (bubble_perm _ _ _),?_⟩))
      rw [show min (k+1) n=k+1 by lia]
      have hks:k < (arrOf st2).size:=by rw [hB1.size];exact hk
      have el:k - (k - l)=l:=by lia
      intro i j hij hj
      show KK (rkK ρ) (bubble (arrOf st2) k (k - l)) i < KK (rkK ρ) (bubble (arrOf st2) k (k - l)) j
      rw [KK_bubble hks (Nat.sub_le _ _),KK_bubble hks (Nat.sub_le _ _),el]
      by_cases a1:i=l
      · rw [if_pos a1,if_neg (by lia),if_pos (by lia)]
        exact hhi _ (by lia) (by lia)
      · rw [if_neg a1]
        by_cases a2:l < i∧i≤k
        · rw [if_pos a2,if_neg (by lia),if_pos (by lia)]
          exact hs1 _ _ (by lia) (by lia)
        · rw [if_neg a2]
          by_cases a3:j=l
          · rw [if_pos a3];exact hlo _ (by lia)
          · rw [if_neg a3]
            by_cases a4:l < j∧j≤k
            · rw [if_pos a4]
              by_cases a5:i=j - 1
              · lia
              · exact hs1 _ _ (by lia) (by lia)
            · rw [if_neg a4];exact hs1 _ _ hij (by lia)
  · rintro c st' ⟨hc,hB',hs'⟩
    refine ⟨hc,hB',?_⟩
    rwa [show min (max (max ok 1) n) n=n by lia] at hs'
  · refine ⟨rfl,hB,fun i j hij hj=>?_⟩
    by_cases h1:ok=0
    · lia
    · exact hs i j hij (by lia)
  · rintro c st' ⟨rfl,hB',hs'⟩
    exact wpS_pure (h st' hB' hs')
theorem yO {st:SortSt} {Q:Unit→SortSt→Prop} (hO:iW prog w A s ρ) (h0:KeysOf (rkK ρ) a₀) (hd:yx ρ a₀) (hB:SBase a₀ st) (h2:2≤a₀.size) (h64:a₀.size < 64)
    (h:∀st',(arrOf st').Perm a₀→failedOf st'=none→Up (eu ρ st') a₀.size→Q () st'):wpS (model prog w) A E s sortRuns' Q st:=by
  have done:∀st1,SBase a₀ st1→Up (eu ρ st1) a₀.size→(arrOf (setPending st1 ((pendingOf st1).push (0,a₀.size,0)))).Perm a₀∧failedOf (setPending st1 ((pendingOf st1).push (0,a₀.size,0)))=none∧pendingOf (setPending st1 ((pendingOf st1).push (0,a₀.size,0)))=#[(0,a₀.size,0)]∧Up (eu ρ (setPending st1 ((pendingOf st1).push (0,a₀.size,0)))) a₀.size:=fun st1 b u=>
    ⟨b.perm,b.failed,by show (pendingOf st1).push _=_;rw [b.pend];rfl,u⟩
  rw [sortRuns'_eq]
  refine wpS_bind (wpS_get ?_)
  dsimp only
  have hmr:minRun' a₀.size a₀.size 0=a₀.size:=by
    obtain ⟨f,hf⟩:∃f,a₀.size=f+1:=⟨a₀.size - 1,by lia⟩
    rw [hf,minRun'_succ,if_pos (by lia)]
  rw [hB.size,hmr]
  refine wpS_bind (wpS_mono (Q:=fun c st1=>c=(none,a₀.size)∧(arrOf st1).Perm a₀∧failedOf st1=none∧pendingOf st1=#[(0,a₀.size,0)]∧Up (eu ρ st1) a₀.size)
    (wpS_forRange (I:=fun x c st1=>(x=0∧c=(none,0)∧SBase a₀ st1)∨(1≤x∧c=(none,a₀.size)∧(arrOf st1).Perm a₀∧failedOf st1=none∧pendingOf st1=#[(0,a₀.size,0)]∧Up (eu ρ st1) a₀.size)) ?_ ?_ (.inl ⟨rfl,rfl,hB⟩)) ?_)
  · rintro x c st1 _ hx (⟨rfl,rfl,hB1⟩ | ⟨hx1,rfl,hD⟩)
    · dsimp only
      rw [if_neg (by lia)]
      simp only [Nat.sub_zero,L8,P2]
      refine wpS_bind (y3 hO h0 hd (S0 _) (by exact hx) hB1 fun m st2 hB2 hm1 hm2 hs2=>?_)
      dsimp only
      by_cases hlt:m < a₀.size
      · rw [if_pos hlt]
        refine wpS_bind (wpS_lift (wpAny_rule ⟨rfl,?_⟩))
        refine wpS_bind (binR hO h0 hd (S0 _) hm2 hB2 hs2 fun st3 hB3 hs3=>?_)
        simp only [Bool.not_true,J2,if_false]
        refine wpS_bind (wpS_get ?_)
        have hb:(pendingOf st3).back?=none:=by rw [hB3.pend];rfl
        rw [hb]
        exact wpS_bind (wpS_modify (wpS_pure (.inr ⟨S0 _,rfl,done st3 hB3 hs3⟩)))
      · rw [if_neg hlt]
        have hm:m=a₀.size:=by lia
        subst hm
        refine wpS_bind (wpS_get ?_)
        have hb:(pendingOf st2).back?=none:=by rw [hB2.pend];rfl
        rw [hb]
        exact wpS_bind (wpS_modify (wpS_pure (.inr ⟨S0 _,rfl,done st2 hB2 hs2⟩)))
    · dsimp only
      rw [if_pos (S0 _)]
      exact wpS_pure ⟨rfl,hD⟩
  · rintro c st1 (⟨hx,_,_⟩ | ⟨_,hc,hD⟩)
    · lia
    · exact ⟨hc,hD⟩
  · rintro c st1 ⟨rfl,hD⟩
    dsimp only
    refine wpS_bind (wpS_mono (Q:=fun c st2=>st2=st1∧c=(none,())) (wpS_forRange (I:=fun _ c st2=>st2=st1∧c=(none,())) ?_ (fun _ _ z=>z) ⟨rfl,rfl⟩) ?_)
    · rintro x c st2 _ _ ⟨rfl,rfl⟩
      refine wpS_bind (wpS_get ?_)
      rw [if_pos (by rw [hD.2.2.1];exact S0 1)]
      exact wpS_pure ⟨rfl,rfl⟩
    · rintro c st2 ⟨rfl,rfl⟩
      exact wpS_pure (h _ hD.1 hD.2.1 hD.2.2.2)
end
open PySem PySem.W PySem.Calls PyProof.Rows
noncomputable def f8 (ρ:Value→Option Int) (v:Value):Int:=(ρ v).getD 0
theorem oi {ρ:Value→Option Int} {xs:Array Keyed} {i:Nat} (h:i < xs.size):KK (rkK ρ) xs i=f8 ρ xs[i].1:=by
  unfold KK;rw [getElem?_pos xs i h];rfl
theorem rX {ks vs:List Value} (hl:ks.length=vs.length) {xs:Array Keyed} (hp:xs.Perm (ks.toArray.zip vs.toArray)) (ρ:Value→Option Int):(xs.toList.map fun p=>f8 ρ p.1).Perm (ks.map (f8 ρ)):=by
  have h1:xs.toList.Perm (ks.zip vs):=by
    have:=I7.mp hp
    rwa [ksk_zip] at this
  have h2:=h1.map fun p=>f8 ρ p.1
  have e:(ks.zip vs).map (fun p=>f8 ρ p.1)=ks.map (f8 ρ):=by
    have:(ks.zip vs).map (fun p=>f8 ρ p.1)=((ks.zip vs).map Prod.fst).map (f8 ρ):=by rw [U1];rfl
    rw [this,List.map_fst_zip (Nat.le_of_eq hl)]
  rwa [e] at h2
theorem yh {ρ:Value→Option Int} {ks vs:List Value} (hl:ks.length=vs.length) (hn:(ks.map (f8 ρ)).Nodup):yx ρ (ks.toArray.zip vs.toArray):=by
  intro st hB i j hi hj hij e
  have hsz:=hB.perm.size_eq
  have h1:=(rX hl hB.perm ρ).nodup_iff.mpr hn
  have hi':i < (arrOf st).size:=by lia
  have hj':j < (arrOf st).size:=by lia
  unfold eu at e
  rw [oi hi',oi hj'] at e
  have hl1:i < ((arrOf st).toList.map fun p=>f8 ρ p.1).length:=by simpa using hi'
  have hl2:j < ((arrOf st).toList.map fun p=>f8 ρ p.1).length:=by simpa using hj'
  have pw':=L4.mp h1
  rcases S6 i j with l | l | l
  · exact pw' i j hl1 hl2 l (by simpa using e)
  · exact hij l
  · exact pw' j i hl2 hl1 l (by simpa using e.symm)
theorem tA {ρ:Value→Option Int} {xs:Array Keyed} (h:Up (fun i=>KK (rkK ρ) xs i) xs.size):xs.toList.Pairwise fun p q=>f8 ρ p.1 < f8 ρ q.1:=by
  rw [L4]
  intro i j hi hj hij
  have hi':i < xs.size:=by simpa using hi
  have hj':j < xs.size:=by simpa using hj
  have q:=h i j hij hj'
  dsimp only at q
  rw [oi hi',oi hj'] at q
  simpa using q
theorem oO {ρ:Value→Option Int} {ks vs:List Value} (h:∀k∈ks,∃a,ρ k=some a):PyProof.Rows.KeysOf (rkK ρ) (ks.toArray.zip vs.toArray):=by
  intro p hp
  rw [ksk_zip] at hp
  obtain ⟨x,y⟩:=p
  exact h x (List.of_mem_zip hp).1
inductive lF (Q:Value→af→Prop) (r:Result) (L:af):Prop | mk (v:Value) (_:r= .ok (.ret v)) (_:Q v L):lF Q r L
section
variable {α β:Type} {w:World} {b1 b2 b3:Bool} {Γ:Ctx} {bel:ag→Prop} {c0:Code} {below:ag} {L F M:af}
theorem Tr.nd {α:Type} {m:Sem α} {Q:α→af→Prop} (h:(L.map (·.1)).Nodup→Tr w b1 b2 b3 Γ m L Q):Tr w b1 b2 b3 Γ m L Q:=fun s hs p=>h hs.ap.all.1 s hs p
theorem Tr.runV {c:Code} {Q:Value→af→Prop} (h:Con w b1 b2 b3 bel c L (lF Q)) (hb:∀p,bel ((c0,p)::below)):Tr w b1 b2 b3 (cx c0 below) (PySem.runValue c) L Q:=by
  unfold PySem.runValue
  refine Tr.bind (Tr.mono (Tr.run (Q:=fun f L'=>∃v,f= .ret v∧Q v L') (h.mono ?_) hb) ?_)
  · rintro r L' ⟨v,rfl,q⟩;exact ⟨.ret v,rfl,v,rfl,q⟩
  · rintro f L' ⟨v,rfl,q⟩;exact Tr.pure q
theorem Con.bi {id:String} {args:Args} {b:Builtin} {Q:Result→af→Prop} (h150:∀l,bel l→l.length≤150) (hp:plainId id=true) (he:entryFor table id=some b)
    (hck:∀(A:Around) (s:Shared),St w s L→∀Q':Unit→Shared→Prop,Q' () s→wpAny (model pw (W3 w b1 b2 b3)) A (checkBuiltinCall id args) Q' (fun _ _=>False) s)
    (h:∀below,bel below→Tr w b1 b2 b3 (cx (.builtin id args) below) (b args) L fun fin L'=>∃f,fin= .done f∧Q (.ok f) L'):Con w b1 b2 b3 bel (.call (.builtin id) args) L Q:=by
  refine Con.done (t:=do checkBuiltinCall id args;again (.builtin id args)) rfl fun below hb=>?_
  refine Tr.bind (Tr.any (h150 _ hb) fun A s _ _ hs=>hck A s hs _ ⟨L,.refl hs,?_⟩)
  refine Tr.again ⟨plainId_quiet hp _,Con.done (t:=b args) ?_ fun below' hb'=>Tr.mono (h below' hb') ?_⟩
  · show (match entryFor table id with | some b=>b args | none=>unsupported ((withoutEnding? id "#data").getD id))=b args
    rw [he]
  · rintro fin L' ⟨f,rfl,q⟩
    exact q
theorem To.push {s:Shared} {o:Obj} (hs:St w s L) (hf:o.isFreed=false):To w s {s with heap:=s.heap.push o} L ((s.heap.objs.size,o)::L):=by
  have hk:∀b o1,s.heap.get? b=some o1→(s.heap.push o).get? b=some o1:=fun b o1 e=>B1 _ e
  have hkt:eq (g9 w.2) (s.heap.push o):=fun b o1 e=>hk b o1 (hs.kt b o1 e)
  have hsz:(s.heap.push o).objs.size=s.heap.objs.size+1:=M3 _ _
  refine ⟨⟨hkt,by show aJ≤(s.heap.push o).objs.size;rw [hsz];have:=hs.big;lia,⟨B2 _ hf,?_⟩,?_⟩,⟨by show _≤(s.heap.push o).objs.size;rw [hsz];exact C5 _,fun b o1 e _=>hk b o1 e,hkt,rfl,rfl,rfl⟩,?_⟩
  · exact Led.iff.mpr fun q hq=>hk _ _ (Led.iff.mp hs.led q hq)
  · show Apart aJ (s.heap.push o).objs.size (s.heap.objs.size::L.map (·.1))
    rw [hsz]
    refine ⟨.inl hs.big,by exact S0 _,fun b hb e=>?_,hs.ap.mono (by exact C5 _)⟩
    have:=(hs.ap.all.2 b hb).2
    lia
  · intro a ha
    rcases Z0.mp ha with rfl | ha
    · exact .inr (S0 _)
    · exact .inl ha
variable (hbl:below.length≤150)
include hbl
theorem Tr.newList {vs:List Value} {Q:Value→af→Prop} (hl:vs.length≤1000) (hq:∀D,Q (.ref D) ((D,lst vs 0)::L)):Tr w b1 b2 b3 (cx c0 below) (PySem.newList vs) L Q:=
  Tr.any hbl fun A s _ _ hs=>wpAny_newList ⟨_,To.push hs rfl,hq _⟩ (by rw [sizeLine_eq];exact lk hl rfl)
theorem Tr.newTuple {vs:List Value} {Q:Value→af→Prop} (hl:vs.length≤1000) (hq:∀D,Q (.ref D) ((D,aS vs)::L)):Tr w b1 b2 b3 (cx c0 below) (PySem.newTuple vs) L Q:=
  Tr.any hbl fun A s _ _ hs=>wpAny_newTuple ⟨_,To.push hs rfl,hq _⟩ (by rw [sizeLine_eq];exact lk hl rfl)
theorem Tr.lItems {a n:Nat} {vs:List Value} {Q:Array Value→af→Prop} (h:(a,lst vs n)∈L) (hq:Q ⟨vs⟩ L):Tr w b1 b2 b3 (cx c0 below) (Builtin.List.listItems (.ref a)) L Q:=
  Tr.any hbl fun A s _ _ hs=>listItems_at (Led.iff.mp hs.led _ h) rfl ⟨_,.refl hs,hq⟩
theorem Tr.sEpoch {a n:Nat} {vs:List Value} {Q:Nat→af→Prop} (h:(a,lst vs n)∈L) (hq:Q n L):Tr w b1 b2 b3 (cx c0 below) (seqEpoch a) L Q:=
  Tr.any hbl fun A s _ _ hs=>seqEpoch_at (Led.iff.mp hs.led _ h) rfl ⟨_,.refl hs,hq⟩
theorem Tr.lUpd {a n:Nat} {vs us:List Value} {g:Array Value→Array Value} {Q:Unit→af→Prop} (hg:g ⟨vs⟩=⟨us⟩) (h1:vs.length≤1000) (h2:us.length≤1000) (hq:∀e,Q () ((a,lst us e)::F)):Tr w b1 b2 b3 (cx c0 below) (Builtin.List.listUpdate (.ref a) g) ((a,lst vs n)::F) Q:=
  Tr.any hbl fun A s _ _ hs=>by
    have ho:s.heap.get? a=some (lst vs n):=hs.led.1
    refine listUpdate_at ho rfl ⟨_,?_,hq (if (g ⟨vs⟩).size==(⟨vs⟩:Array Value).size then n else n+1)⟩ (by show vs.length≤_;rw [sizeLine_eq];exact lk h1 rfl) (by rw [hg];show us.length≤_;rw [sizeLine_eq];exact lk h2 rfl)
    have h1:=To.same (w:=w) (s:=s) (n:=0) (o':=lst us (if (g ⟨vs⟩).size==(⟨vs⟩:Array Value).size then n else n+1)) (hs.sub (Y6 (a,lst vs n) (G9 F))) (H7 s.heap a (Obj.mapSeq g)) (by
      have:=get?_update_seq (h:=s.heap) (a:=a) (c:="list") (xs:=⟨vs⟩) (n:=n) ho g
      rw [this,hg];rfl)
    exact h1.frame (F:=F) hs
theorem Tr.letGo {a b:List Value} {Q:Unit→af→Prop} (h:Q () L):Tr w b1 b2 b3 (cx c0 below) (PySem.letGo a b) L Q:=
  Tr.any hbl fun A s _ _ hs=>wpAny_letGo ⟨_,.refl hs,h⟩
omit hbl in
theorem Tr.eachKey {vs:List Value} {I:List Value→af→Prop} {body:Value→PUnit→Sem (ForInStep PUnit)} {Q:PUnit→af→Prop}
    (hs:∀ks v L,vs[ks.length]?=some v→I ks L→Tr w b1 b2 b3 (cx c0 below) (body v ⟨⟩) L fun r L'=>r= .yield ⟨⟩∧∃k,I (ks++ [k]) L')
    (hq:∀ks L,ks.length=vs.length→I ks L→Q ⟨⟩ L):∀(us:List Value) (ks:List Value) (L:af),vs=vs.take ks.length++us→ks.length+us.length=vs.length→I ks L→Tr w b1 b2 b3 (cx c0 below) (forIn us PUnit.unit body) L Q
  | [],ks,L,he,hl,hI=>by
    rw [P7]
    exact Tr.pure (hq ks L (by simpa using hl) hI)
  | u::us,ks,L,he,hl,hI=>by
    rw [M9]
    have hlt:ks.length < vs.length:=by rw [J0] at hl;lia
    have hu:vs[ks.length]?=some u:=by
      have h1:(vs.take ks.length).length=ks.length:=by rw [C4];lia
      rw [he,Q3 (by lia),h1,Nat.sub_self];rfl
    refine Tr.bind (Tr.mono (hs ks u L hu hI) ?_)
    rintro r L' ⟨rfl,k,hk⟩
    refine Tr.eachKey hs hq us (ks++ [k]) L' ?_ ?_ hk
    · rw [N0,O1]
      obtain ⟨h3,h4⟩:=C1.mp hu
      rw [Y1 hlt,h4,U2]
      exact he
    · rw [N0,O1];rw [J0] at hl;lia
structure pB (w:World) (b1 b2 b3:Bool) (ks:List Value) (L:af) (ρ:Value→Option Int):Prop where
  one:∀(A:Around) (s:Shared),A.units≤1520→St w s L→iW pw (W3 w b1 b2 b3) A s ρ
  kind:2≤ks.length→∀(A:Around) (s:Shared) (E:Value→Shared→Prop) (Q:SortKind→Shared→Prop),St w s L→Q oneType' s→wpAny (model pw (W3 w b1 b2 b3)) A (keyKind' ks.toArray) Q E s
  has:∀k∈ks,∃a,ρ k=some a
  apt:(ks.map (f8 ρ)).Nodup
theorem ne {D kS n e:Nat} {vs ks:List Value} {ρ:Value→Option Int} {Q:Fin→af→Prop} (hl:ks.length=vs.length) (h64:vs.length < 64) (K:pB w b1 b2 b3 ks L ρ)
    (hq:∀ps:List (Value × Value),ps.Perm (ks.zip vs)→ps.Pairwise (fun p q=>f8 ρ p.1 < f8 ρ q.1)→∀e,Q (.done (.ret .none)) ((D,lst (ps.map (·.2)) e)::L)):
    Tr w b1 b2 b3 (cx c0 below) (ksk_end D false vs.toArray n (.ref kS) ks.toArray) ((kS,lst ks e)::(D,lst [] n)::L) Q:=by
  have tail:∀st:SortSt,(arrOf st).Perm (ks.toArray.zip vs.toArray)→failedOf st=none→(arrOf st).toList.Pairwise (fun p q=>f8 ρ p.1 < f8 ρ q.1)→
      Tr w b1 b2 b3 (cx c0 below) (ksk_tail D false n (.ref kS) st) ((kS,lst ks e)::(D,lst [] n)::L) Q:=by
    intro st hp hf hs
    have hpl:(arrOf st).toList.Perm (ks.zip vs):=by
      have:=I7.mp hp
      rwa [ksk_zip] at this
    have hsz:(arrOf st).toList.length=vs.length:=by rw [hpl.length_eq,L9,hl,L8]
    unfold ksk_tail
    dsimp only
    refine Tr.bind (Tr.lUpd hbl (us:= []) rfl (by lia) (by decide) fun e2=>?_)
    refine Tr.bind (Tr.letGo hbl ?_)
    refine Tr.bind (Tr.sEpoch hbl (.tail _ (.head _)) ?_)
    refine Tr.bind (Tr.perm (Tr.lUpd hbl (a:=D) (n:=n) (vs:= []) (us:=(arrOf st).toList.map (·.2)) (F:=(kS,lst [] e2)::L) ?_ (by decide) (by rw [B0,hsz];lia) fun e3=>?_) (List.Perm.swap _ _ _))
    · apply Z5;simp
    rw [hf]
    simp only [bne_self_eq_false,J2,if_false]
    refine Tr.out (Tr.pure (a:=Fin.done (.ret .none)) (Q:=fun a L'=>a= .done (.ret .none)∧L'=(D,lst ((arrOf st).toList.map (·.2)) e3)::(kS,lst [] e2)::L) ⟨rfl,rfl⟩) ?_
    rintro r L' ⟨rfl,rfl⟩
    exact ⟨(D,lst ((arrOf st).toList.map (·.2)) e3)::L,[(kS,lst [] e2)],by
      refine List.Perm.cons _ ?_
      exact (O7 _ _).symm,hq _ hpl hs e3⟩
  have hzs:(ks.toArray.zip vs.toArray).size=vs.length:=by
    rw [←A4,ksk_zip,L9,hl,L8]
  have h0:=oO (vs:=vs) K.has
  unfold ksk_end
  dsimp only
  rw [if_neg R1,if_neg R1]
  by_cases h2:vs.toArray.size < 2
  · rw [if_pos h2,if_pos h2]
    refine Tr.bind (Tr.pure ?_)
    rw [StateT.run_pure]
    refine Tr.bind (Tr.pure ?_)
    dsimp only
    refine tail _ (P8 _) rfl ?_
    have:(arrOf (SortSt.mk' general' (ks.toArray.zip vs.toArray) #[] 7 none)).toList.length < 2:=by
      show (ks.toArray.zip vs.toArray).toList.length < 2
      rw [A4,hzs];simpa using h2
    match hm:(arrOf (SortSt.mk' general' (ks.toArray.zip vs.toArray) #[] 7 none)).toList,this with
    | [],_=>exact .nil
    | [x],_=>exact U5 _ _
    | _::_::_,h=>simp only [J0] at h;lia
  · rw [if_neg h2,if_neg h2]
    have h2':2≤(ks.toArray.zip vs.toArray).size:=by rw [hzs];simp at h2;exact h2
    have hs':∀s,St w s ((kS,lst ks e)::(D,lst [] n)::L)→St w s L:=fun s hs=>hs.sub ((O3 _ _).trans (O3 _ _))
    refine Tr.bind (Tr.any hbl fun A s _ hu hs=>K.kind (by rw [hl];simp at h2;exact h2) A s _ _ (hs' s hs) ⟨_,.refl hs,?_⟩)
    refine Tr.bind (Tr.any hbl (Q:=fun r L'=>L'=(kS,lst ks e)::(D,lst [] n)::L∧(arrOf r.2).Perm (ks.toArray.zip vs.toArray)∧failedOf r.2=none∧(arrOf r.2).toList.Pairwise fun p q=>f8 ρ p.1 < f8 ρ q.1) (fun A s _ hu hs=>?_) |>.mono ?_)
    · have key:wpS (model pw (W3 w b1 b2 b3)) A (fun _ _=>False) s sortRuns' (fun _ st'=>(arrOf st').Perm (ks.toArray.zip vs.toArray)∧failedOf st'=none∧(arrOf st').toList.Pairwise fun p q=>f8 ρ p.1 < f8 ρ q.1) (SortSt.mk' oneType' (ks.toArray.zip vs.toArray) #[] 7 none):=
        yO (K.one A s hu (hs' s hs)) h0 (yh hl K.apt) ⟨P8 _,rfl,rfl,rfl⟩ h2' (by rw [hzs];exact h64) fun st' h1 h2 h3=>⟨h1,h2,tA (by rw [h1.size_eq];exact h3)⟩
      unfold wpS at key
      refine wpAny_mono key (fun r s' h=>?_) (fun _ _ h=>h)
      obtain ⟨rfl,h⟩:=h
      exact ⟨_,.refl hs,rfl,h⟩
    · rintro ⟨⟨⟩,st⟩ L' ⟨rfl,h1,h2,h3⟩
      exact tail st h1 h2 h3
inductive KsI (I:List Value→af→Prop) (D n kS hd:Nat) (vs ks:List Value) (L:af):Prop
  | mk (e:Nat) (L1:af) (_:ks.length≤vs.length) (_:I ks L1) (_:L=(kS,lst ks e)::((hd,aS vs)::(D,lst [] n)::L1)):KsI I D n kS hd vs ks L
theorem qc {D n f:Nat} {vs:List Value} {I:List Value→af→Prop} {Q:Fin→af→Prop} {bel2:ag→Prop} (h64:vs.length < 64) (hI:I [] L) (hb2:∀p,bel2 ((c0,p)::below))
    (hs:∀ks v L,vs[ks.length]?=some v→I ks L→Con w b1 b2 b3 bel2 (.call (.ref f) ⟨[v],[]⟩) L (lF fun k L'=>I (ks++ [k]) L'))
    (he:∀ks L,ks.length=vs.length→I ks L→(L.map (·.1)).Nodup→∃ρ,pB w b1 b2 b3 ks L ρ∧∀ps:List (Value × Value),ps.Perm (ks.zip vs)→ps.Pairwise (fun p q=>f8 ρ p.1 < f8 ρ q.1)→∀e,Q (.done (.ret .none)) ((D,lst (ps.map (·.2)) e)::L)):
    Tr w b1 b2 b3 (cx c0 below) (ksk_tree D (.ref f) false) ((D,lst vs n)::L) Q:=by
  unfold ksk_tree
  refine Tr.bind (Tr.lItems hbl (.head _) ?_)
  refine Tr.bind (Tr.lUpd hbl (us:= []) rfl (by lia) (by decide) fun e1=>?_)
  refine Tr.bind (Tr.sEpoch hbl (.head _) ?_)
  refine Tr.bind (Tr.newTuple hbl (by show vs.length≤_;lia) fun hd=>?_)
  refine Tr.bind (Tr.newList hbl (by decide) fun kS=>?_)
  refine Tr.holding ?_
  unfold ksk_rest
  refine Tr.bind (Tr.rule ?_)
  show Tr w b1 b2 b3 (cx c0 below) (forIn (E8 vs) PUnit.unit _>>=_) _ Q
  rw [List.forIn_toArray]
  refine Tr.bind (Tr.mono (Tr.eachKey (vs:=vs) (I:=KsI I D e1 kS hd vs) (Q:=fun _ L'=>∃ks,ks.length=vs.length∧KsI I D e1 kS hd vs ks L') ?_ (fun ks L hl h=>⟨ks,hl,h⟩) vs [] _ rfl (by simp) ⟨0,L,Y3 _,hI,?_⟩) ?_)
  · rintro ks v _ hv ⟨e,L1,hkl,hI1,rfl⟩
    obtain ⟨hlt,_⟩:=C1.mp hv
    refine Tr.bind (Tr.attempt (TrX.of_tr (Tr.runV (bel:=bel2) (Con.use (hs ks v L1 hv hI1) (F:= [(kS,lst ks e),(hd,aS vs),(D,lst [] e1)]) U3 (Q':=lF fun k L'=>∃L2,I (ks++ [k]) L2∧L'=L2++ [(kS,lst ks e),(hd,aS vs),(D,lst [] e1)]) ?_) hb2 |>.mono ?_)))
    · rintro r L' ⟨k,rfl,h⟩
      exact ⟨k,rfl,_,h,rfl⟩
    · rintro k L' ⟨L2,hI2,rfl⟩
      dsimp only
      refine Tr.bind (Tr.perm (Tr.lUpd hbl (a:=kS) (n:=e) (vs:=ks) (us:=ks++ [k]) (F:=(hd,aS vs)::(D,lst [] e1)::L2) (by simp) (by lia) (by rw [N0,O1];lia) fun e2=>?_) (U3 (l₁:= [(kS,lst ks e),(hd,aS vs),(D,lst [] e1)])))
      exact Tr.pure ⟨rfl,k,e2,L2,by rw [N0,O1];exact hlt,hI2,rfl⟩
  · rfl
  · rintro ⟨⟩ L' ⟨ks,hkl,e,L1,_,hI1,rfl⟩
    refine Tr.bind (Tr.lItems hbl (.head _) ?_)
    refine Tr.nd fun hnd=>?_
    obtain ⟨ρ,K,hq⟩:=he ks L1 hkl hI1 (hnd.sublist (List.Sublist.map _ ((O3 _ _).trans ((O3 _ _).trans (O3 _ _)))))
    have K':pB w b1 b2 b3 ks ((hd,aS vs)::L1) ρ:=⟨fun A s hu hs=>K.one A s hu (hs.sub (O3 _ _)),fun h2 A s E Q hs hq=>K.kind h2 A s E Q (hs.sub (O3 _ _)) hq,K.has,K.apt⟩
    refine Tr.out (Tr.perm (ne (D:=D) (kS:=kS) (n:=e1) (e:=e) (L:=(hd,aS vs)::L1) (Q:=fun fin L'=>∃ps e,ps.Perm (ks.zip vs)∧ps.Pairwise (fun p q=>f8 ρ p.1 < f8 ρ q.1)∧fin= .done (.ret .none)∧L'=(D,lst (ps.map (·.2)) e)::(hd,aS vs)::L1) hbl hkl h64 K' fun ps h1 h2 e=>⟨ps,e,h1,h2,rfl,rfl⟩) (List.Perm.cons _ (List.Perm.swap _ _ _))) ?_
    rintro r L' ⟨ps,e,h1,h2,rfl,rfl⟩
    exact ⟨(D,lst (ps.map (·.2)) e)::L1,[(hd,aS vs)],by
      refine List.Perm.cons _ ?_
      exact (O7 _ _).symm,hq ps h1 h2 e⟩
end
open PySem PySem.W PySem.Calls PyProof.Rows
section
variable {prog:Program} {w:World} {A:Around} {E:Value→Shared→Prop} {s:Shared}
theorem iN {T:String} (hT:(Value.type T !=Value.type "tuple")=true):∀(ks:List Value) {Q:List (Option Value)→Shared→Prop},(∀k∈ks,s.TypeIs k T)→Q (ks.map fun _=>none) s→wpAny (model prog w) A (ks.mapM firstOfTuple') Q E s
  | [],Q,_,hq=>by rw [List.mapM_nil];exact I0 hq
  | k::ks,Q,h,hq=>by
    rw [P9]
    refine C0 ?_
    show wpAny _ _ (typeOf k>>=fun t=>if (t != .type "tuple")=true then pure none else Builtin.List.listItems k>>=fun r=>pure r[0]?) _ _ _
    refine C0 (wpAny_typeOf (h k (.head _)) ?_)
    rw [if_pos hT]
    refine I0 (C0 (iN hT ks (fun x hx=>h x (.tail _ hx)) (I0 hq)))
theorem kA {T:String}:∀(ks:List Value) {Q:List Value→Shared→Prop},(∀k∈ks,s.TypeIs k T)→Q (ks.map fun _=>Value.type T) s→wpAny (model prog w) A (ks.mapM typeOf) Q E s
  | [],Q,_,hq=>by rw [List.mapM_nil];exact I0 hq
  | k::ks,Q,h,hq=>by
    rw [P9]
    exact C0 (wpAny_typeOf (h k (.head _)) (C0 (kA ks (fun x hx=>h x (.tail _ hx)) (I0 hq))))
theorem jD {T:String} (hT:(Value.type T !=Value.type "tuple")=true) {ks:List Value} (h2:2≤ks.length) (h:∀k∈ks,s.TypeIs k T) {Q:SortKind→Shared→Prop} (hq:Q oneType' s):wpAny (model prog w) A (keyKind' ks.toArray) Q E s:=by
  obtain ⟨k,r,rfl⟩:∃k r,ks=k::r:=by
    cases ks with
    | nil=>simp at h2
    | cons k r=>exact ⟨k,r,rfl⟩
  rw [keyKind'_eq,A9]
  refine C0 ?_
  rw [map_eq_pure_bind]
  refine C0 (iN hT _ h (I0 ?_))
  rw [if_neg (by simp),if_neg (by simp)]
  rw [oneTypeOnly'_eq,A9]
  refine C0 (C0 ?_)
  rw [map_eq_pure_bind]
  refine C0 (kA _ h (I0 ?_))
  have h0:(List.map (fun _=>Value.type T) (k::r)).toArray[0]?=some (Value.type T):=by simp
  have hall:((List.map (fun _=>Value.type T) (k::r)).toArray.all fun x=>x==Value.type T)=true:=by
    simp only [List.all_toArray,List.all_map,E3]
    intro _ _
    exact beq_self_eq_true _
  rw [h0]
  simp only [hall,if_true]
  exact I0 (I0 hq)
end
theorem cJ? (n j:Nat):(bT n)[j]?=if j < n then some (j:Int) else none:=by
  unfold bT
  rw [V0]
  by_cases h:j < n
  · rw [if_pos h,I6 h];rfl
  · rw [if_neg h,V3 (by rw [U4];lia)];rfl
section
variable {w:World} {b1 b2 b3:Bool} {bel:ag→Prop} {c0:Code} {below:ag} {L F M:af}
theorem To.grow {s:Shared} {h':Heap} {tk:Nat} (hs:St w s L) (hk:∀b o,s.heap.get? b=some o→h'.get? b=some o) (hsz:s.heap.objs.size≤h'.objs.size):To w s {s with heap:=h',toks:=tk} L L:=by
  have hkt:eq (g9 w.2) h':=fun b o1 e=>hk b o1 (hs.kt b o1 e)
  exact ⟨⟨hkt,M0 hs.big hsz,Led.iff.mpr fun q hq=>hk _ _ (Led.iff.mp hs.led q hq),hs.ap.mono hsz⟩,⟨hsz,fun b o1 e _=>hk b o1 e,hkt,rfl,rfl,rfl⟩,fun a ha=>.inl ha⟩
noncomputable abbrev iZ (n t u v:Nat):Obj:=⟨.type "range",none,.fields ⟨[.int 0 t,.int (n:Nat) u,.int 1 v]⟩,#[]⟩
theorem mJ (hbl:below.length≤150) {r n t u v:Nat} (hn:n≤100) (h:(r,iZ n t u v)∈L):Tr w b1 b2 b3 (cx c0 below) (collect (.ref r)) L fun xs L'=>L'=L∧∃ps:List (Int × Nat),xs=ps.map iv∧ps.map (·.1)=bT n:=
  Tr.any hbl fun A s hh hu hs=>by
    have hr:IsRange s.heap r 0 (n:Int) 1 t u v:=Led.iff.mp hs.led _ h
    have hrs:Builtin.Range.rangeSize 0 (n:Int) 1=n:=rangeSize_nat _ _
    have hsm:Builtin.Range.small 0 (n:Int) 1=true:=small_one (by decide) (by decide) (by lia) (by lia)
    unfold collect
    refine C0 (wpAny_runValue (codeAny_builtin entry_proto_collect' ?_))
    rw [Around.under_plainId PySem.F.plain_proto_collect _]
    refine C0 (m:=newList []) (wpAny_newObj_type (I0 ⟨plainId_quiet PySem.F.plain_list_iadd _,codeAny_builtin entry_list_iadd' ?_⟩))
    rw [Around.under_plainId PySem.F.plain_list_iadd _]
    have hnew:(s.heap.push {cls:=.type "list",data:=.seq ([]:List Value).toArray}).get? s.heap.objs.size=some {cls:=.type "list",data:=.seq #[]}:=B2 _ rfl
    have key:=wpAny_extend_range (prog:=pw) (w:=W3 w b1 b2 b3) (A:=A) (s:={s with heap:=s.heap.push {cls:=.type "list",data:=.seq ([]:List Value).toArray}})
      (R:=fun (r:Result) (s':Shared)=>∃(h':Heap) (tk:Nat) (acc:Array Value) (c':Nat),r= .ok (.ret (.ref s.heap.objs.size))∧s'={s with heap:=h',toks:=tk}∧(∀b o,s.heap.get? b=some o→h'.get? b=some o)∧h'.get? s.heap.objs.size=some {cls:=.type "list",dict:=none,data:=.seq acc c',slots:=#[]}∧∃ps:List (Int × Nat),acc.toList=ps.map iv∧ps.map (·.1)=bT n)
      hh (B1 _ hr) hsm hrs (by exact lk hn rfl) s.heap.objs.size (.ref s.heap.objs.size) 0 hnew (fun h' tk acc c' hk hS hacc=>⟨h',tk,acc,c',rfl,rfl,fun b o e=>hk b o (K8 (P4 e)) (B1 _ e),hS,by
        refine ⟨acc.toList.map fun v=>(numOf v,match v with | .int _ t=>t | _=>0),?_,?_⟩
        · rw [U1]
          refine (O5 _).symm.trans (Z1 fun v hv=>?_)
          obtain ⟨j,hj⟩:=G6.mp hv
          obtain ⟨t',rfl⟩:=hacc.2 j v (by rw [←E6];exact hj)
          rfl
        · rw [U1]
          refine C9 fun j=>?_
          rw [V0,cJ?]
          by_cases hj:j < n
          · have hj':j < acc.toList.length:=by rw [A4,hacc.1];exact hj
            rw [O0 hj',if_pos hj]
            obtain ⟨t',e⟩:=hacc.2 j acc.toList[j] (by rw [←E6];exact O0 hj')
            rw [e]
            simp [numOf]
          · rw [V3 (by rw [A4,hacc.1];lia),if_neg hj];rfl⟩)
    have last:∀(r:Result) (s':Shared),(∃(h':Heap) (tk:Nat) (acc:Array Value) (c':Nat),r= .ok (.ret (.ref s.heap.objs.size))∧s'={s with heap:=h',toks:=tk}∧(∀b o,s.heap.get? b=some o→h'.get? b=some o)∧h'.get? s.heap.objs.size=some {cls:=.type "list",dict:=none,data:=.seq acc c',slots:=#[]}∧∃ps:List (Int × Nat),acc.toList=ps.map iv∧ps.map (·.1)=bT n)→
        r= .ok (.ret (.ref s.heap.objs.size))∧wpAny (model pw (W3 w b1 b2 b3)) A (PySem.load s.heap.objs.size>>=fun o=>match o.data with
          | .seq xs _=>pure xs.toList
          | _=>unsupported "internal:collect") (fun xs s'=>∃L',To w s s' L L'∧L'=L∧∃ps:List (Int × Nat),xs=ps.map iv∧ps.map (·.1)=bT n) (fun _ _=>False) s':=by
      rintro r s' ⟨h',tk,acc,c',rfl,rfl,hk,hS,hI⟩
      exact ⟨rfl,C0 (wpAny_load hS (I0 ⟨L,.grow hs hk (B4 (P4 hS)),rfl,hI⟩))⟩
    refine wpAny_mono key (fun fin s' x=>?_) fun e s' ⟨_,_,_,_,e',_⟩=>nomatch e'
    cases fin with
    | done f=>
      obtain ⟨e,y⟩:=last _ _ x
      cases e
      exact y
    | again c₁=>
      refine ⟨x.1,codeAny_mono x.2 fun q s₂ z=>?_⟩
      obtain ⟨rfl,y⟩:=last _ _ z
      exact y
theorem mK (hbl:below.length≤150) {r n:Nat} {vs:List Value} (hn:vs.length≤100) (h:(r,lst vs n)∈L):Tr w b1 b2 b3 (cx c0 below) (collect (.ref r)) L fun xs L'=>L'=L∧xs=vs:=
  Tr.any hbl fun A s hh hu hs=>by
    have hr:s.heap.get? r=some (lst vs n):=Led.iff.mp hs.led _ h
    refine collect_list (l:=r) (vs:=vs) ⟨_,hr,rfl,n,rfl⟩ ⟨L,?_,rfl,rfl⟩ (by rw [sizeLine_eq];exact lk hn rfl)
    refine To.grow (tk:=s.toks) hs (fun b o e=>?_) ?_
    · have hlt:b < s.heap.objs.size:=P4 e
      rw [Heap.get?_update_ne _ _ _ _ (K8 hlt),Heap.get?_push_ne _ _ _ (K8 hlt)]
      exact e
    · rw [Heap.size_update,size_push'];exact C5 _
end
open PySem PySem.W PySem.Calls PyProof.Rows
theorem mi:tM=Str.ofString "key":=by kernel_rfl!
section
variable {w:World} {b1 b2 b3:Bool} {bel bel2:ag→Prop} {L F M:af}
noncomputable def vZ (w:World) (b1 b2 b3:Bool) (bel2:ag→Prop) (f:Nat) (vs:List Value) (L:af) (Q:Nat→List (Value × Value)→af→Prop):Prop:=
  vs.length < 64∧∃I:List Value→af→Prop,I [] L∧(∀ks v L,vs[ks.length]?=some v→I ks L→Con w b1 b2 b3 bel2 (.call (.ref f) ⟨[v],[]⟩) L (lF fun k L'=>I (ks++ [k]) L'))∧
    ∀ks L,ks.length=vs.length→I ks L→(L.map (·.1)).Nodup→∃ρ,pB w b1 b2 b3 ks L ρ∧∀ps:List (Value × Value),ps.Perm (ks.zip vs)→ps.Pairwise (fun p q=>f8 ρ p.1 < f8 ρ q.1)→∀D e,Q D ps ((D,lst (ps.map (·.2)) e)::L)
theorem ll {D n f:Nat} {vs:List Value} {Q:af→Prop} (hb:∀l,bel l→l.length≤145) (hb2:∀c p l,bel l→bel2 ((c,p)::l))
    (hk:vZ w b1 b2 b3 bel2 f vs L fun D' ps L'=>D'=D→Q L'):Con w b1 b2 b3 bel (.call (.builtin "list.sort") ⟨[.ref D],[(tM,.ref f)]⟩) ((D,lst vs n)::L) (lF fun v L'=>v= .none∧Q L'):=by
  obtain ⟨h64,I,hI,hs,he⟩:=hk
  rw [mi]
  refine Con.bi (fun l h=>M0 (hb l h) (by decide)) slot_list_sort.plain entry_list_sort (fun A s hs Q' hq=>?_) fun below ao=>?_
  · have ho:s.heap.get? D=some (lst vs n):=hs.led.1
    exact slot_list_sort.check _ _ _ _ _ _ _ _ ⟨_,ho,rfl⟩ (ksk_l1 _ _) hq
  · rw [ksk_t1]
    refine Tr.mono (qc (Q:=fun fin L'=>fin= .done (.ret .none)∧Q L') (by have:=hb _ ao;exact lk this rfl) h64 hI (fun p=>hb2 _ p _ ao) hs fun ks L hl hi hn=>?_) ?_
    · obtain ⟨ρ,K,h⟩:=he ks L hl hi hn
      exact ⟨ρ,K,fun ps h1 h2 e=>⟨rfl,h ps h1 h2 D e rfl⟩⟩
    · rintro fin L' ⟨rfl,h⟩
      exact ⟨_,rfl,.none,rfl,rfl,h⟩
theorem iF {l f:Nat} {C:List Value→af→Prop} {Q:Result→af→Prop} (hb:∀l,bel l→l.length≤140) (hb2:∀c p c' p' l,bel l→bel2 ((c',p')::(c,p)::l))
    (hc:∀c0 below,below.length≤150→Tr w b1 b2 b3 (cx c0 below) (collect (.ref l)) L C)
    (hk:∀vs L1,C vs L1→vZ w b1 b2 b3 bel2 f vs L1 fun D ps L'=>Q (.ok (.ret (.ref D))) L'):Con w b1 b2 b3 bel (.call (.builtin "sorted") ⟨[.ref l],[(tM,.ref f)]⟩) L Q:=by
  refine Con.bi (fun l h=>M0 (hb l h) (by decide)) plain_sorted entry_sorted (fun A s hs Q' hq=>?_) fun below ao=>?_
  · rw [mi]
    simp only [checkBuiltinCall,kind_sorted]
    cases hsig:Manifest.signature? "sorted" with
    | none=>exact I0 hq
    | some sig=>
      have ha':Bind.checkArgs "sorted" sig ⟨[.ref l],[(Str.ofString "key",.ref f)]⟩=pure ():=by
        have:=ksk_s1 (.ref l) (.ref f)
        simpa only [argsOk,hsig] using this
      simp only [ha']
      exact I0 hq
  · have hbl:=hb _ ao
    unfold Builtin.«sorted»
    refine Tr.bind (m:=checkCount "sorted" 1 1 _) (Tr.pure ?_)
    refine Tr.bind (Tr.mono (hc _ _ (by exact lk hbl rfl)) ?_)
    intro vs L1 hC
    have K:=hk vs L1 hC
    refine Tr.bind (Tr.newList (by exact lk hbl rfl) (by have:=K.1;lia) fun D=>?_)
    refine Tr.bind (Tr.mono (Tr.holding (Tr.runV (bel:=fun l=>∃c p l',bel l'∧l=(c,p)::l') (ll (bel2:=bel2) (Q:=Q (.ok (.ret (.ref D)))) ?_ ?_ ?_) fun p=>⟨_,p,_,ao,rfl⟩)) ?_)
    · rintro _ ⟨c,p,l',h,rfl⟩
      have:=hb _ h
      rw [J0];exact oM this rfl
    · rintro c' p' _ ⟨c,p,l',h,rfl⟩
      exact hb2 c p c' p' l' h
    · obtain ⟨h64,I,hI,hs,he⟩:=K
      refine ⟨h64,I,hI,hs,fun ks L hl hi hn=>?_⟩
      obtain ⟨ρ,K,h⟩:=he ks L hl hi hn
      exact ⟨ρ,K,fun ps h1 h2 D' e eD=>eD▸h ps h1 h2 D' e⟩
    · rintro v L' ⟨rfl,h⟩
      exact Tr.pure (a:=Fin.done (.ret (.ref D))) ⟨_,rfl,h⟩
end
open PySem PySem.W PySem.Calls PyProof.Rows
theorem fc:∀x:List Int,et x x=false
  | []=>rfl
  | a::x=>by unfold et;rw [if_pos rfl];exact fc x
theorem ik:∀{x y z:List Int},et x y=true→et y z=true→et x z=true
  | [],[],_,h,_=>by cases h
  | _::_,[],_,h,_=>by cases h
  | _,_::_,[],_,h=>by simp [et] at h
  | [],_::_,_::_,_,_=>rfl
  | a::x,b::y,c::z,h1,h2=>by
    unfold et at h1 h2⊢
    by_cases e1:a=b
    · subst e1
      rw [if_pos rfl] at h1
      by_cases e2:a=c
      · rw [if_pos e2] at h2⊢;exact ik h1 h2
      · rw [if_neg e2] at h2⊢;exact h2
    · rw [if_neg e1] at h1
      have h1:=of_decide_eq_true h1
      by_cases e2:b=c
      · subst e2;rw [if_neg e1];exact decide_eq_true h1
      · rw [if_neg e2] at h2
        have h2:=of_decide_eq_true h2
        rw [if_neg (by omega)];exact decide_eq_true (by omega)
theorem il:∀{x y:List Int},x≠y→et x y=true∨et y x=true
  | [],[],h=>absurd rfl h
  | [],_::_,_=>.inl rfl
  | _::_,[],_=>.inr rfl
  | a::x,b::y,h=>by
    unfold et
    by_cases e:a=b
    · subst e;rw [if_pos rfl,if_pos rfl];exact il fun e=>h (by rw [e])
    · rw [if_neg e,if_neg (fun e'=>e e'.symm)]
      rcases Int.lt_trichotomy a b with l | l | l
      · exact .inl (decide_eq_true l)
      · exact absurd l e
      · exact .inr (decide_eq_true l)
noncomputable def ng (T:List (List Int)) (x:List Int):Nat:=(T.filter fun y=>et y x).length
theorem kM {α:Type} {p q:α→Bool} (h:∀a,p a=true→q a=true):∀T:List α,(T.filter p).length≤(T.filter q).length
  | []=>S0 _
  | a::T=>by
    rw [W1,W1]
    have:=kM h T
    by_cases hp:p a=true
    · rw [if_pos hp,if_pos (h a hp),J0,J0];exact A3 this
    · rw [if_neg hp]
      by_cases hq:q a=true
      · rw [if_pos hq,J0];omega
      · rw [if_neg hq];exact this
theorem ir {α:Type} {p q:α→Bool} (h:∀a,p a=true→q a=true) {x:α} (hp:p x=false) (hq:q x=true):∀{T:List α},x∈T→(T.filter p).length < (T.filter q).length
  | a::T,hx=>by
    rw [W1,W1]
    rcases Z0.mp hx with rfl | hx
    · rw [if_neg (by simp [hp]),if_pos hq,J0]
      have:=kM h T;exact A3 this
    · have:=ir h hp hq hx
      by_cases hp':p a=true
      · rw [if_pos hp',if_pos (h a hp'),J0,J0];exact A3 this
      · rw [if_neg hp']
        by_cases hq':q a=true
        · rw [if_pos hq',J0];omega
        · rw [if_neg hq'];exact this
theorem ld {T:List (List Int)} {x y:List Int} (hx:x∈T) (h:et x y=true):ng T x < ng T y:=
  ir (p:=fun z=>et z x) (q:=fun z=>et z y) (x:=x) (fun a ha=>ik ha h) (fc x) h hx
theorem nQ {T:List (List Int)} {x y:List Int} (hx:x∈T) (hy:y∈T):decide ((ng T x:Int) < (ng T y:Int))=et x y:=by
  cases h:et x y
  · refine decide_eq_false fun hl=>?_
    by_cases e:x=y
    · subst e;omega
    · rcases il e with h' | h'
      · rw [h] at h';cases h'
      · have:=ld hy h';omega
  · exact decide_eq_true (by have:=ld hx h;omega)
theorem kC {T:List (List Int)}:∀{S:List (List Int)},S.Nodup→(∀x∈S,x∈T)→(S.map fun x=>(ng T x:Int)).Nodup
  | [],_,_=>I4
  | x::S,hn,hs=>by
    obtain ⟨h1,h2⟩:=S1.mp hn
    rw [H0]
    refine S1.mpr ⟨fun hm=>?_,kC h2 fun y hy=>hs y (.tail _ hy)⟩
    obtain ⟨y,hy,e⟩:=E1.mp hm
    have hne:x≠y:=fun e=>h1 (e▸hy)
    rcases il hne with h | h
    · have:=ld (hs x (.head _)) h;omega
    · have:=ld (hs y (.tail _ hy)) h;omega
noncomputable def yS:Value→Option Int
  | .int a _=>some a
  | _=>none
noncomputable def lg (cv:List (Nat × List (Int × Nat) × Nat)):Value→Option Int
  | .ref a=>(cv.find? fun q=>q.1==a).map fun q=>(ng (cq cv) (q.2.1.map (·.1)):Int)
  | _=>none
theorem nW:∀{cv:List (Nat × List (Int × Nat) × Nat)} {q:Nat × List (Int × Nat) × Nat},(cv.map (·.1)).Nodup→q∈cv→cv.find? (fun r=>r.1==q.1)=some q
  | r::cv,q,hn,hq=>by
    obtain ⟨h1,h2⟩:=S1.mp hn
    rw [B6]
    rcases Z0.mp hq with rfl | hq
    · rw [show (q.1==q.1)=true from beq_self_eq_true _]
    · have hne:(r.1==q.1)=false:=by
        rw [beq_eq_false_iff_ne];intro e;exact h1 (by show r.1∈_;rw [e];exact X0 (f:=fun q=>q.1) hq)
      rw [hne]
      exact nW h2 hq
theorem lf {cv:List (Nat × List (Int × Nat) × Nat)} {q:Nat × List (Int × Nat) × Nat} (hn:(cv.map (·.1)).Nodup) (hq:q∈cv):lg cv (.ref q.1)=some (ng (cq cv) (q.2.1.map (·.1)):Int):=by
  show (cv.find? _).map _=_
  rw [nW hn hq];rfl
section
variable {w:World} {b1 b2 b3:Bool} {L:af}
theorem oQ (ps:List (Int × Nat)) (hn:(ps.map (·.1)).Nodup):pB w b1 b2 b3 (ps.map iv) L yS where
  one:=fun A s _ _ E x y a b Q hx hy h=>by
    cases x<;>try cases hx
    cases y<;>try cases hy
    exact oneLt_int h
  kind:=fun h2 A s E Q _ hq=>jD (T:="int") (by decide) h2 (fun k hk=>by obtain ⟨q,_,rfl⟩:=E1.mp hk;exact typeIs_int s _ _) hq
  has:=fun k hk=>by obtain ⟨q,_,rfl⟩:=E1.mp hk;exact ⟨q.1,rfl⟩
  apt:=by
    rw [U1]
    exact hn
theorem nk (cv:List (Nat × List (Int × Nat) × Nat)) (hT:(cq cv).Nodup) (hL:∀q∈bv cv,q∈L) (hn:(cv.map (·.1)).Nodup):pB w b1 b2 b3 (bI cv) L (lg cv) where
  one:=fun A s hu hs E x y a b Q hx hy h=>by
    have hq:∀(z:Value) (c:Int),lg cv z=some c→∃q∈cv,z= .ref q.1∧c=(ng (cq cv) (q.2.1.map (·.1)):Int):=by
      intro z c hz
      cases z<;>try cases hz
      rename_i a
      have hz:(cv.find? _).map _=some c:=hz
      obtain ⟨q,hq,rfl⟩:=V2.mp hz
      have h1:=List.find?_some hq
      have h2:=List.mem_of_find?_eq_some hq
      exact ⟨q,h2,by rw [beq_iff_eq.mp h1],rfl⟩
    obtain ⟨q,hqm,rfl,rfl⟩:=hq x a hx
    obtain ⟨r,hrm,rfl,rfl⟩:=hq y b hy
    have m1:q.2.1.map (·.1)∈cq cv:=X0 hqm
    have m2:r.2.1.map (·.1)∈cq cv:=X0 hrm
    rw [nQ m1 m2] at h
    have g1:s.heap.get? q.1=some (lst (q.2.1.map iv) q.2.2):=Led.iff.mp hs.led _ (hL _ (X0 (f:=fun q=>(q.1,lst (q.2.1.map iv) q.2.2)) hqm))
    have g2:s.heap.get? r.1=some (lst (r.2.1.map iv) r.2.2):=Led.iff.mp hs.led _ (hL _ (X0 (f:=fun q=>(q.1,lst (q.2.1.map iv) q.2.2)) hrm))
    exact nj _ _ _ _ (by unfold cLine;omega) g1 g2 h
  kind:=fun h2 A s E Q hs hq=>jD (T:="list") (by decide) h2 (fun k hk=>by
    obtain ⟨q,hqm,rfl⟩:=E1.mp hk
    exact ⟨_,Led.iff.mp hs.led _ (hL _ (X0 (f:=fun q=>(q.1,lst (q.2.1.map iv) q.2.2)) hqm)),rfl⟩) hq
  has:=fun k hk=>by
    obtain ⟨q,hqm,rfl⟩:=E1.mp hk
    exact ⟨_,lf hn hqm⟩
  apt:=by
    have e:(bI cv).map (f8 (lg cv))=(cq cv).map fun x=>(ng (cq cv) x:Int):=by
      unfold bI
      conv=>rhs;unfold cq
      rw [U1,U1]
      refine Z1 fun q hq=>?_
      show f8 (lg cv) (.ref q.1)=_
      unfold f8
      rw [lf hn hq];rfl
    rw [e]
    exact kC hT fun x hx=>hx
end
section
variable {w:World} {b1 b2 b3:Bool} {bel bel':ag→Prop} {c:Code} {below:ag} {F M:af}
noncomputable def kwV (s:Expr):Expr:=if h:s.ctorIdx=16 then Expr.Call.elim (motive_1:=fun _=>Expr) s h fun _ _ ks _=>match ks with | ⟨_,v,_⟩::_=>v | []=>eT else eT
noncomputable def wX {α:Type} (s:Expr) (f:Arguments→Expr→Scope→Pos→α) (e:α):α:=if h:s.ctorIdx=4 then Expr.Lambda.elim (motive_1:=fun _=>α) s h f else e
noncomputable def lmP (s:Expr):Arguments:=wX s (fun a _ _ _=>a) default
noncomputable def lmB (s:Expr):Expr:=wX s (fun _ b _ _=>b) eT
noncomputable def lmS (s:Expr):Scope:=wX s (fun _ _ c _=>c) default
noncomputable def xg (e:Expr) (q:PySem.Str) (cl:List (PySem.Str × Nat)) (c t:Nat):Obj:=⟨.type "function",none,.func {name:=sn,qualname:=q++".<locals>."++"<lambda>",params:=lmP e,body:=.expr (lmB e),scope:=lmS e,globals:=3,closure:=cl,defaults:=.none,kwdefaults:=.none,doc:=.none,pyModule:=.str sI 445,annotations:=none,code:=.ref c,closureTuple:=.ref t,builtins:=0},#[]⟩
noncomputable abbrev lm_k:Expr:=kwV (bA (dI (bn 4)) 0)
noncomputable def zA (x:Value) (q:PySem.Str) (t:Nat) (l:List Value):Obj:=⟨.type "code",none,.fields ⟨x::.str q t::l⟩,#[]⟩
noncomputable abbrev xf (q:PySem.Str):PySem.Str:=q++".<locals>."++"<lambda>"
noncomputable abbrev kN:PySem.Str:=s6
noncomputable abbrev gE (x:Value) (t:Nat) (l:List Value):Obj:=zA x (xf f9) t l
noncomputable def uZ (N tk line:Nat):List Value:= [.str kN (tk+2),.int line 0,.int 1 0,.int 0 0,.int 0 0,.int 19 0,.ref (N+1),.bool true,.int 181 0,.ref (N+2),.none,.ref (N+3),.ref (N+4),.ref (N+5),.int (tk+5:Nat) 0,.int line 0,.str kN (tk+6)]
noncomputable abbrev gz (cr c t:Nat):Obj:=xg lm_k f9 [(sM,cr)] c t
noncomputable abbrev br (vs:List Value):Obj:=⟨.none,none,.fields ⟨vs⟩,#[]⟩
noncomputable abbrev bf (o:Option Value):Obj:=⟨.type "cell",none,.cell o,#[]⟩
noncomputable abbrev cf (fr cu cp ch ci cr:Nat):Env:={oW fr with cells:= [((S [99,117,116,115]),cu),(sW,cp),((S [104,111,115,116]),ch),(sy,ci),(sM,cr)]}
noncomputable abbrev fN:Expr:=dI (bn 1)
noncomputable abbrev mx (fr lc cp:Nat):Env:={scope:=inl (bD fN),locals:=lc,globals:=3,cells:= [(sW,cp)],qual:=f9++".<locals>.",func:=none,code:=.ref hY,frame:=some fr,builtins:=0}
noncomputable abbrev zh:Expr:=.ListComp (dj fN) [⟨.Name dP (dm (aL fN) 0),pD (aL fN) 0,[jF (aL fN) 0],0⟩] (bD fN) (j3 fN)
noncomputable abbrev zy (it acc fr lc cp:Nat):Code:=.compStart zh 0 (.ref it) (.ref acc) (mx fr lc cp)
noncomputable abbrev gh:Expr:=bA (dI (bn 2)) 0
noncomputable abbrev mv (fr lc cp:Nat):Env:={scope:=inl (bD gh),locals:=lc,globals:=3,cells:= [(sW,cp)],qual:=f9++".<locals>.",func:=none,code:=.ref hY,frame:=some fr,builtins:=0}
noncomputable abbrev zg:Expr:=.ListComp (dj gh) [⟨.Name dP (dm (aL gh) 0),pD (aL gh) 0,[],0⟩] (bD gh) (j3 gh)
noncomputable abbrev zx (it acc fr lc cp:Nat):Code:=.compStart zg 0 (.ref it) (.ref acc) (mv fr lc cp)
noncomputable abbrev gf:Expr:=bA (dI (bn 2)) 1
noncomputable abbrev mu (fr lc cp:Nat):Env:={scope:=inl (bD gf),locals:=lc,globals:=3,cells:= [(sW,cp)],qual:=f9++".<locals>.",func:=none,code:=.ref hY,frame:=some fr,builtins:=0}
noncomputable abbrev zf:Expr:=.ListComp (dj gf) [⟨.Name dP (dm (aL gf) 0),pD (aL gf) 0,[],0⟩] (bD gf) (j3 gf)
noncomputable abbrev zw (it acc fr lc cp:Nat):Code:=.compStart zf 0 (.ref it) (.ref acc) (mu fr lc cp)
noncomputable abbrev dk:Expr:=dI (bn 3)
noncomputable abbrev gY (fr lc cr ci ch cu:Nat):Env:={scope:=inl (bD dk),locals:=lc,globals:=3,cells:= [(sM,cr),(sy,ci),((S [104,111,115,116]),ch),((S [99,117,116,115]),cu)],qual:=f9++".<locals>.",func:=none,code:=.ref hY,frame:=some fr,builtins:=0}
noncomputable abbrev ze:Expr:=.ListComp (dj dk) [⟨.Name fF (dm (aL dk) 0),pD (aL dk) 0,[jF (aL dk) 0],0⟩] (bD dk) (j3 dk)
noncomputable abbrev vT (it acc fr lc cr ci ch cu:Nat):Code:=.compStart ze 0 (.ref it) (.ref acc) (gY fr lc cr ci ch cu)
theorem vf (rw:Nat) (x:Int) (tx:Nat) {Q:Result→af→Prop} (hb:∀l,bel l→l.length≤96) (hp:([]++F).Perm M) (H:∀(N tk:Nat) (aq:Obj),aJ≤N→FrO w.2 [] [] aq→Con w b1 b2 b3 bel (.func [bn 0,bn 1,bn 2,bn 3,bn 4] (cf (N+0) (N+5) (N+4) (N+3) (N+2) (N+1))) ([(N+0,aq),(N+1,ac (.ref rw)),(N+2,ac (.int x tx)),(N+3,bf none),(N+4,bf none),(N+5,bf none)]++F) Q):Con w b1 b2 b3 bel (.call (.ref jc) ⟨[.ref rw,.int x tx],[]⟩) M Q:=
  Con.of fun below p ao=>aK fun N tk hN=>Stp.loop [1,0,2,2,3,3,0] [0,1,2,3,4,5] [] _ 6 0 _ hp (hb _ ao) (fun hap=>a8) rfl (by rfl) ao (H N tk _ hN (fO (bL id 0 []) 0 (#[]))) (rl (by kernel_rfl!))
theorem yb (fr cu cp ch ci cr:Nat) (rw re n a:Nat) (rv:List Value) (x:Int) (tx:Nat) (hs ps:PySem.Str) (t1 t2:Nat) (h0:x=(n:Int)) (h1:rv[n]?=some (.ref a)) (h4:rv.length≤1000) {al:Obj} (ai:FrO w.2 [] [] al) {Q:Flow→af→Prop} (hb:below.length≤96) (hp:([(fr,al),(cr,ac (.ref rw)),(ci,ac (.int x tx)),(rw,lst rv re),(a,aS [.str hs t1,.str ps t2]),(ch,bf none),(cp,bf none)]++F).Perm M) (H:∀(N tk:Nat) (aq:Obj),FrO w.2 [] [] aq→Q (.next) ([(fr,aq),(cr,ac (.ref rw)),(ci,ac (.int x tx)),(rw,lst rv re),(a,aS [.str hs t1,.str ps t2]),(ch,ac (.str hs t1)),(cp,ac (.str ps t2))]++F)):Tr w b1 b2 b3 (cx c below) (execs [bn 0] (cf fr cu cp ch ci cr)) M Q:=
  Tr.st fun p=>aZ ai hp fun aw ah aj av=>aK fun N tk hN=>Stp.fin [2,3,4,4,4,1,5,5,5,0,5,8,8,0,8,8,8,5,8,8,8,0,8,8,8,5,8,8,8,0,8,8,8,5,8,8,10,6,6,7,7] [0,1,2,3,4,5,6] [bG 3 rw rv re x tx (.ref a)] _ 3 0 _ av aa hb (fun hap=>a9 (aX rv re n x tx h0 h1 h4) a8) rfl ⟨_,rfl,(H N tk _ (fO (bL id 0 []) ah aj))⟩ (rf (by kernel_rfl!))
theorem ya (fr cu cp ch ci cr:Nat) (n:Nat) (sp:PySem.Str) (ts:Nat) (hn:sp.length=n) (hz:n≤50) {al:Obj} (ai:FrO w.2 [] [] al) {Q:Flow→af→Prop} (hb:below.length≤96) (au:∀l:ag,l.length≤below.length+9→bel' l) (hp:([(fr,al),(cp,ac (.str sp ts))]++F).Perm M) (H:∀(N tk:Nat) (aq:Obj) (mW:Obj),aJ≤N→FrO w.2 [] [] aq→bx w.2 [] [[dP]] mW→Con w b1 b2 b3 bel' (zy (N+1) (N+2) fr (N+3) cp) ([(fr,aq),(cp,ac (.str sp ts)),(N+1,cN 0 n),(N+2,lst [] 0),(N+3,mW)]++F) fun r L₂=>∃(cb:Obj) (fT:Obj) (X1:af),r= .ok .next∧bx w.2 [] [[dP]] cb∧FrO w.2 [] [] fT∧([((N+3),cb),(fr,fT)]++X1).Perm L₂∧(∀(N1 tk1:Nat) (k9:Obj),FrO w.2 [(sq,.ref (N+2))] [] k9→Q (.next) ([(fr,k9)]++X1))):Tr w b1 b2 b3 (cx c below) (execs [bn 1] (cf fr cu cp ch ci cr)) M Q:=
  Tr.st fun p=>aZ ai hp fun aw ah aj av=>aK fun N tk hN=>Stp.at [0,0,0,0,2,1,0,0,3,3,0,3,3,3,3,2,4] [0,1,3,4,5] [pO sp ts tk n,jh 2 N 0 n n (tk+2) (tk+1) (tk+3) (N+1)] _ 4 4 _ av aa hb (fun hap=>a9 (iO _ _ _ _ (by rw [hn]) (by lia)) (a9 (b9 0 n n _ _ _ _ ⟨by decide,by decide⟩ ⟨by lia,by lia⟩ (by split<;>lia)) a8)) rfl au (H N tk _ _ hN (fO (bL id 0 []) ah aj) (dO (bL id 0 []) 0)) (fun r L₂ hq=>pE hq fun cb fT X1 hh1=>du hh1.2.1 (fun h10=>cR h10 hh1.2.2.2.1 fun eP bZ bO=>jG hh1.2.2.1 bO fun jQ d8 d7 bO=>c9 hh1.1 fun aQ N1 tk1 hN=>Stp.fin [2,2,1] [1] [] _ 0 1 _ bO aQ hb (fun hap=>a8) rfl ⟨_,rfl,(hh1.2.2.2.2 N1 tk1 _ (fO (bL id 0 [tk1+0]) (d8+1) d7))⟩ (rf (by kernel_rfl!))) (fun o10_0 h10=>cR h10 hh1.2.2.2.1 fun eP bZ bO=>jG hh1.2.2.1 bO fun jQ d8 d7 bO=>c9 hh1.1 fun aQ N1 tk1 hN=>Stp.fin [2,2,1,1,1] [1] [] _ 0 1 _ bO aQ hb (fun hap=>a8) rfl ⟨_,rfl,(hh1.2.2.2.2 N1 tk1 _ (fO (bL id 0 [tk1+0]) (d8+1) d7))⟩ (rf (by kernel_rfl!)))) (ra (by kernel_rfl!))
theorem y4 (fr lc cp:Nat) (sp:PySem.Str) (ts:Nat) (x tx cc:Nat) (β:Bool) (h0:x≤50) (h1:(seqIndex? x sp.length).bind (sp.cps[·]?)=some cc) (h2:decide ((⟨#[cc]⟩:PySem.Str)=eJ)=β) {al:Obj} (ai:bx w.2 [] [[dP]] al) {Q:Bool→af→Prop} (hb:below.length≤96) (hp:([(lc,al),(cp,ac (.str sp ts))]++F).Perm M) (H:∀(N tk:Nat) (aq:Obj),bx w.2 [(dP,.int x tx)] [] aq→Q (β) ([(lc,aq),(cp,ac (.str sp ts))]++F)):Tr w b1 b2 b3 (cx c below) (assign (.Name dP (dm (aL fN) 0)) (mx fr lc cp) (.int x tx)>>=fun _=>isTrue (jF (aL fN) 0) (mx fr lc cp) (eval (jF (aL fN) 0) (mx fr lc cp))) M Q:=
  Tr.asIt fun p=>du ai (fun h00=>cR h00 hp fun aw ah av=>aK fun N tk hN=>Stp.fin [1,1,2,1,1,2] [0,1] [pQ sp ts x tx (tk+1) ⟨#[cc]⟩,rZ ⟨#[cc]⟩ eJ (tk+1) (tk+2) β] _ 0 3 _ av aa hb (fun hap=>a9 (iP sp ts x tx _ cc (by lia) (by lia) h1) (a9 (gC _ _ _ _ _ h2) a8)) rfl ⟨_,rfl,(H N tk _ (dO (bL id 0 [tk+0]) (ah+1)))⟩ (rf (by kernel_rfl!))) (fun o00_0 h00=>cR h00 hp fun aw ah av=>aK fun N tk hN=>Stp.fin [1,1,2,1,1,2] [0,1] [pQ sp ts x tx (tk+1) ⟨#[cc]⟩,rZ ⟨#[cc]⟩ eJ (tk+1) (tk+2) β] _ 0 3 _ av aa hb (fun hap=>a9 (iP sp ts x tx _ cc (by lia) (by lia) h1) (a9 (gC _ _ _ _ _ h2) a8)) rfl ⟨_,rfl,(H N tk _ (dO aw ah))⟩ (rf (by kernel_rfl!)))
theorem y5 (fr lc cp:Nat) (x tx:Nat) {al:Obj} (ai:bx w.2 [(dP,.int x tx)] [] al) {Q:Value→af→Prop} (hb:below.length≤96) (hp:([(lc,al)]++F).Perm M) (H:∀(N tk:Nat) (aq:Obj),bx w.2 [] [[dP]] aq→Q (.int x tx) ([(lc,aq)]++F)):Tr w b1 b2 b3 (cx c below) (eval (dj fN) (mx fr lc cp)) M Q:=
  Tr.ev fun p=>cR ai hp fun aw ah av=>aK fun N tk hN=>Stp.fin [1] [0] [] _ 0 0 _ av aa hb (fun hap=>a8) rfl ⟨_,rfl,(H N tk _ (dR (.int (Int.ofNat x) tx) (dO aw ah)))⟩ (rf (by kernel_rfl!))
theorem y9 (fr cu cp ch ci cr:Nat) (sl:Nat) (vs:List Value) (ep:Nat) {al:Obj} (ai:FrO w.2 [(sq,.ref sl)] [] al) {Q:Flow→af→Prop} (hb:below.length≤96) (au:∀l:ag,l.length≤below.length+9→bel' l) (hp:([(fr,al),(sl,lst vs ep)]++F).Perm M) (H:∀(N tk:Nat) (aq:Obj) (G04:Obj),aJ≤N→FrO w.2 [(sq,.ref sl)] [] aq→bx w.2 [] [[dP]] G04→Con w b1 b2 b3 bel' (zx (N+0) (N+1) fr (N+2) cp) ([(fr,aq),(sl,lst vs ep),(N+0,b8 "list_iterator" (.ref sl) 0),(N+1,lst [] 0),(N+2,G04)]++F) fun r L₂=>∃(vs1:List Value) (lv:Nat) (cb:Obj) (fT:Obj) (X1:af),r= .ok .next∧bx w.2 [] [[dP]] cb∧FrO w.2 [(sq,.ref sl)] [] fT∧([((N+2),cb),(fr,fT),((N+1),lst vs1 lv),(sl,lst vs ep)]++X1).Perm L₂∧(∀(N1 tk1:Nat) (k9:Obj) (G16:Obj),aJ≤N1→FrO w.2 [(sq,.ref sl)] [] k9→bx w.2 [] [[dP]] G16→Con w b1 b2 b3 bel' (zw (N1+0) (N1+1) fr (N1+2) cp) ([(fr,k9),((N+1),lst vs1 lv),(sl,lst vs ep),(N1+0,b8 "list_iterator" (.ref sl) 0),(N1+1,lst [] 0),(N1+2,G16)]++X1) fun r L₂=>∃(vs2:List Value) (ep2:Nat) (pG:Obj) (pF:Obj) (X2:af),vs1.length+vs2.length≤1000∧r= .ok .next∧bx w.2 [] [[dP]] pG∧FrO w.2 [(sq,.ref sl)] [] pF∧([((N1+2),pG),(fr,pF),((N+1),lst vs1 lv),((N1+1),lst vs2 ep2),(cu,bf none)]++X2).Perm L₂∧(∀(N2 tk2:Nat) (w0:Obj),FrO w.2 [(sq,.ref sl)] [] w0→Q (.next) ([(fr,w0),(cu,ac (.ref N2)),(N2+0,lst (vs1++vs2) 0)]++X2)))):Tr w b1 b2 b3 (cx c below) (execs [bn 2] (cf fr cu cp ch ci cr)) M Q:=
  Tr.st fun p=>aZ ai hp fun aw ah aj av=>aK fun N tk hN=>Stp.at [1,2,2,0,2,3] [0,1,2,3,4] [] _ 3 0 _ av aa hb (fun hap=>a8) rfl au (H N tk _ _ hN (fO aw ah aj) (dO (bL id 0 []) 0)) (fun r L₂ hq=>ex5 hq fun vs1 lv cb fT X1 hh1=>du hh1.2.1 (fun h10=>cR h10 hh1.2.2.2.1 fun eP bZ bO=>jG hh1.2.2.1 bO fun jQ d8 d7 bO=>c9 hh1.1 fun aQ N1 tk1 hN=>Stp.at [1,2,4,4,0,4,5] [1,2,3,4,5,6] [] _ 3 0 _ bO aQ hb (fun hap=>a8) rfl au (hh1.2.2.2.2 N1 tk1 _ _ hN (fO jQ d8 d7) (dO (bL id 0 []) 0)) (fun r L₂ hq=>ex5 hq fun vs2 ep2 pG pF X2 hh2=>have hl:=hh2.1;du hh2.2.2.1 (fun h20=>cR h20 hh2.2.2.2.2.1 fun xG nq gu=>jG hh2.2.2.2.1 gu fun nu gB gr gu=>c9 hh2.2.1 fun gT N2 tk2 hN=>Stp.fin [1,3,4,3,1,5,5] [1,4,5] [ji 2 3 (N+1) (N1+1) vs1 vs2 lv ep2 N2] _ 1 0 _ gu gT hb (fun hap=>a9 (dB _ _ _ _ _ hl) a8) rfl ⟨_,rfl,(hh2.2.2.2.2.2 N2 tk2 _ (fO nu gB gr))⟩ (rf (by kernel_rfl!))) (fun o20_0 h20=>cR h20 hh2.2.2.2.2.1 fun xG nq gu=>jG hh2.2.2.2.1 gu fun nu gB gr gu=>c9 hh2.2.1 fun gT N2 tk2 hN=>Stp.fin [1,1,1,3,4,3,1,5,5] [1,4,5] [ji 2 3 (N+1) (N1+1) vs1 vs2 lv ep2 N2] _ 1 0 _ gu gT hb (fun hap=>a9 (dB _ _ _ _ _ hl) a8) rfl ⟨_,rfl,(hh2.2.2.2.2.2 N2 tk2 _ (fO nu gB gr))⟩ (rf (by kernel_rfl!)))) (ra (by kernel_rfl!))) (fun o10_0 h10=>cR h10 hh1.2.2.2.1 fun eP bZ bO=>jG hh1.2.2.1 bO fun jQ d8 d7 bO=>c9 hh1.1 fun aQ N1 tk1 hN=>Stp.at [1,1,1,2,4,4,0,4,5] [1,2,3,4,5,6] [] _ 3 0 _ bO aQ hb (fun hap=>a8) rfl au (hh1.2.2.2.2 N1 tk1 _ _ hN (fO jQ d8 d7) (dO (bL id 0 []) 0)) (fun r L₂ hq=>ex5 hq fun vs2 ep2 pG pF X2 hh2=>have hl:=hh2.1;du hh2.2.2.1 (fun h20=>cR h20 hh2.2.2.2.2.1 fun xG nq gu=>jG hh2.2.2.2.1 gu fun nu gB gr gu=>c9 hh2.2.1 fun gT N2 tk2 hN=>Stp.fin [1,3,4,3,1,5,5] [1,4,5] [ji 2 3 (N+1) (N1+1) vs1 vs2 lv ep2 N2] _ 1 0 _ gu gT hb (fun hap=>a9 (dB _ _ _ _ _ hl) a8) rfl ⟨_,rfl,(hh2.2.2.2.2.2 N2 tk2 _ (fO nu gB gr))⟩ (rf (by kernel_rfl!))) (fun o20_0 h20=>cR h20 hh2.2.2.2.2.1 fun xG nq gu=>jG hh2.2.2.2.1 gu fun nu gB gr gu=>c9 hh2.2.1 fun gT N2 tk2 hN=>Stp.fin [1,1,1,3,4,3,1,5,5] [1,4,5] [ji 2 3 (N+1) (N1+1) vs1 vs2 lv ep2 N2] _ 1 0 _ gu gT hb (fun hap=>a9 (dB _ _ _ _ _ hl) a8) rfl ⟨_,rfl,(hh2.2.2.2.2.2 N2 tk2 _ (fO nu gB gr))⟩ (rf (by kernel_rfl!)))) (ra (by kernel_rfl!)))) (ra (by kernel_rfl!))
theorem vj (fr lc cp:Nat) (sp:PySem.Str) (ts:Nat) (x tx:Nat) (cs:PySem.Str) (hs:∀u,sliceMade sp ts none (some ((x:Int),u)) none= .str cs) (hc:cs.length≤1000) {al:Obj} (ai:bx w.2 [] [[dP]] al) {Q:Value→af→Prop} (hb:below.length≤96) (hp:([(lc,al),(cp,ac (.str sp ts))]++F).Perm M) (H:∀(N tk:Nat) (aq:Obj),bx w.2 [(dP,.int x tx)] [] aq→Q (.str cs (tk+1)) ([(lc,aq),(cp,ac (.str sp ts))]++F)):Tr w b1 b2 b3 (cx c below) (assign (.Name dP (dm (aL gh) 0)) (mv fr lc cp) (.int x tx)>>=fun _=>eval (dj gh) (mv fr lc cp)) M Q:=
  Tr.asEv fun p=>du ai (fun h00=>cR h00 hp fun aw ah av=>aK fun N tk hN=>Stp.fin [1,1,2,1,1] [0,1] [jf 2 N sp ts .none (.int x tx) (tk+1) cs] _ 1 2 _ av aa hb (fun hap=>a9 (ck sp ts none (some (x,tx)) _ cs (hs _) hc) a8) rfl ⟨_,rfl,(H N tk _ (dO (bL id 0 [tk+0]) (ah+1)))⟩ (rf (by kernel_rfl!))) (fun o00_0 h00=>cR h00 hp fun aw ah av=>aK fun N tk hN=>Stp.fin [1,1,2,1,1] [0,1] [jf 2 N sp ts .none (.int x tx) (tk+1) cs] _ 1 2 _ av aa hb (fun hap=>a9 (ck sp ts none (some (x,tx)) _ cs (hs _) hc) a8) rfl ⟨_,rfl,(H N tk _ (dO aw ah))⟩ (rf (by kernel_rfl!)))
theorem vi (fr lc cp:Nat) (sp:PySem.Str) (ts:Nat) (x tx:Nat) (hs:∀u,sliceMade sp ts none (some ((x:Int),u)) none= .val (.str sp ts)) {al:Obj} (ai:bx w.2 [] [[dP]] al) {Q:Value→af→Prop} (hb:below.length≤96) (hp:([(lc,al),(cp,ac (.str sp ts))]++F).Perm M) (H:∀(N tk:Nat) (aq:Obj),bx w.2 [(dP,.int x tx)] [] aq→Q (.str sp ts) ([(lc,aq),(cp,ac (.str sp ts))]++F)):Tr w b1 b2 b3 (cx c below) (assign (.Name dP (dm (aL gh) 0)) (mv fr lc cp) (.int x tx)>>=fun _=>eval (dj gh) (mv fr lc cp)) M Q:=
  Tr.asEv fun p=>du ai (fun h00=>cR h00 hp fun aw ah av=>aK fun N tk hN=>Stp.fin [1,1,2,1,1] [0,1] [gk 2 N sp ts .none (.int x tx)] _ 1 1 _ av aa hb (fun hap=>a9 (c5 sp ts none (some (x,tx)) (hs _)) a8) rfl ⟨_,rfl,(H N tk _ (dO (bL id 0 [tk+0]) (ah+1)))⟩ (rf (by kernel_rfl!))) (fun o00_0 h00=>cR h00 hp fun aw ah av=>aK fun N tk hN=>Stp.fin [1,1,2,1,1] [0,1] [gk 2 N sp ts .none (.int x tx)] _ 1 1 _ av aa hb (fun hap=>a9 (c5 sp ts none (some (x,tx)) (hs _)) a8) rfl ⟨_,rfl,(H N tk _ (dO aw ah))⟩ (rf (by kernel_rfl!)))
theorem vh (fr lc cp:Nat) (sp:PySem.Str) (ts:Nat) (x tx:Nat) (x1:Nat) (cs:PySem.Str) (hx1:(x:Int)+1=x1) (hs:∀u,sliceMade sp ts none (some ((x1:Int),u)) none= .str cs) (hc:cs.length≤1000) {al:Obj} (ai:bx w.2 [] [[dP]] al) {Q:Value→af→Prop} (hb:below.length≤96) (hp:([(lc,al),(cp,ac (.str sp ts))]++F).Perm M) (H:∀(N tk:Nat) (aq:Obj),bx w.2 [(dP,.int x tx)] [] aq→Q (.str cs (tk+3)) ([(lc,aq),(cp,ac (.str sp ts))]++F)):Tr w b1 b2 b3 (cx c below) (assign (.Name dP (dm (aL gf) 0)) (mu fr lc cp) (.int x tx)>>=fun _=>eval (dj gf) (mu fr lc cp)) M Q:=
  Tr.asEv fun p=>du ai (fun h00=>cR h00 hp fun aw ah av=>aK fun N tk hN=>Stp.fin [1,1,2,1,1,2] [0,1] [lM x 1 tx (tk+1) (tk+2) x1,jf 2 N sp ts .none (.int x1 (tk+2)) (tk+3) cs] _ 1 4 _ av aa hb (fun hap=>a9 (dU _ _ _ _ _ _ hx1) (a9 (ck sp ts none (some (x1,(tk+2))) _ cs (hs _) hc) a8)) rfl ⟨_,rfl,(H N tk _ (dO (bL id 0 [tk+0]) (ah+1)))⟩ (rf (by kernel_rfl!))) (fun o00_0 h00=>cR h00 hp fun aw ah av=>aK fun N tk hN=>Stp.fin [1,1,2,1,1,2] [0,1] [lM x 1 tx (tk+1) (tk+2) x1,jf 2 N sp ts .none (.int x1 (tk+2)) (tk+3) cs] _ 1 4 _ av aa hb (fun hap=>a9 (dU _ _ _ _ _ _ hx1) (a9 (ck sp ts none (some (x1,(tk+2))) _ cs (hs _) hc) a8)) rfl ⟨_,rfl,(H N tk _ (dO aw ah))⟩ (rf (by kernel_rfl!)))
theorem vg (fr lc cp:Nat) (sp:PySem.Str) (ts:Nat) (x tx:Nat) (x1:Nat) (hx1:(x:Int)+1=x1) (hs:∀u,sliceMade sp ts none (some ((x1:Int),u)) none= .val (.str sp ts)) {al:Obj} (ai:bx w.2 [] [[dP]] al) {Q:Value→af→Prop} (hb:below.length≤96) (hp:([(lc,al),(cp,ac (.str sp ts))]++F).Perm M) (H:∀(N tk:Nat) (aq:Obj),bx w.2 [(dP,.int x tx)] [] aq→Q (.str sp ts) ([(lc,aq),(cp,ac (.str sp ts))]++F)):Tr w b1 b2 b3 (cx c below) (assign (.Name dP (dm (aL gf) 0)) (mu fr lc cp) (.int x tx)>>=fun _=>eval (dj gf) (mu fr lc cp)) M Q:=
  Tr.asEv fun p=>du ai (fun h00=>cR h00 hp fun aw ah av=>aK fun N tk hN=>Stp.fin [1,1,2,1,1,2] [0,1] [lM x 1 tx (tk+1) (tk+2) x1,gk 2 N sp ts .none (.int x1 (tk+2))] _ 1 3 _ av aa hb (fun hap=>a9 (dU _ _ _ _ _ _ hx1) (a9 (c5 sp ts none (some (x1,(tk+2))) (hs _)) a8)) rfl ⟨_,rfl,(H N tk _ (dO (bL id 0 [tk+0]) (ah+1)))⟩ (rf (by kernel_rfl!))) (fun o00_0 h00=>cR h00 hp fun aw ah av=>aK fun N tk hN=>Stp.fin [1,1,2,1,1,2] [0,1] [lM x 1 tx (tk+1) (tk+2) x1,gk 2 N sp ts .none (.int x1 (tk+2))] _ 1 3 _ av aa hb (fun hap=>a9 (dU _ _ _ _ _ _ hx1) (a9 (c5 sp ts none (some (x1,(tk+2))) (hs _)) a8)) rfl ⟨_,rfl,(H N tk _ (dO aw ah))⟩ (rf (by kernel_rfl!)))
theorem y8 (fr cu cp ch ci cr:Nat) (rw re sl:Nat) (rv:List Value) (hl:rv.length≤1000) {al:Obj} (ai:FrO w.2 [(sq,.ref sl)] [] al) {Q:Flow→af→Prop} (hb:below.length≤96) (au:∀l:ag,l.length≤below.length+9→bel' l) (hp:([(fr,al),(cr,ac (.ref rw)),(rw,lst rv re)]++F).Perm M) (H:∀(N tk:Nat) (aq:Obj) (zI:Obj),aJ≤N→FrO w.2 [(sq,.ref sl)] [] aq→bx w.2 [] [[fF]] zI→Con w b1 b2 b3 bel' (vT (N+1) (N+2) fr (N+3) cr ci ch cu) ([(fr,aq),(cr,ac (.ref rw)),(rw,lst rv re),(N+1,cN 0 (rv.length:Nat)),(N+2,lst [] 0),(N+3,zI)]++F) fun r L₂=>∃(cb:Obj) (fT:Obj) (X1:af),r= .ok .next∧bx w.2 [] [[fF]] cb∧FrO w.2 [(sq,.ref sl)] [] fT∧([((N+3),cb),(fr,fT)]++X1).Perm L₂∧(∀(N1 tk1:Nat) (k9:Obj),FrO w.2 [(sq,.ref sl),(s7,.ref (N+2))] [] k9→Q (.next) ([(fr,k9)]++X1))):Tr w b1 b2 b3 (cx c below) (execs [bn 3] (cf fr cu cp ch ci cr)) M Q:=
  Tr.st fun p=>aZ ai hp fun aw ah aj av=>aK fun N tk hN=>Stp.at [0,0,0,0,2,1,0,0,4,4,0,4,4,4,4,2,5] [0,1,2,4,5,6] [iD 2 rw rv re tk,jh 3 N 0 (rv.length:Nat) (rv.length:Nat) (tk+2) (tk+1) (tk+3) (N+1)] _ 4 4 _ av aa hb (fun hap=>a9 (bR _ _ _ hl) (a9 (b9 0 (rv.length:Nat) (rv.length:Nat) _ _ _ _ ⟨by decide,by decide⟩ ⟨by lia,by lia⟩ (by split<;>lia)) a8)) rfl au (H N tk _ _ hN (fO aw ah aj) (dO (bL id 0 []) 0)) (fun r L₂ hq=>pE hq fun cb fT X1 hh1=>du hh1.2.1 (fun h10=>cR h10 hh1.2.2.2.1 fun eP bZ bO=>jG hh1.2.2.1 bO fun jQ d8 d7 bO=>c9 hh1.1 fun aQ N1 tk1 hN=>Stp.fin [2,2,1] [1] [] _ 0 1 _ bO aQ hb (fun hap=>a8) rfl ⟨_,rfl,(hh1.2.2.2.2 N1 tk1 _ (fO (bL jQ 1 [tk1+0]) (d8+1) d7))⟩ (rf (by kernel_rfl!))) (fun o10_0 h10=>cR h10 hh1.2.2.2.1 fun eP bZ bO=>jG hh1.2.2.1 bO fun jQ d8 d7 bO=>c9 hh1.1 fun aQ N1 tk1 hN=>Stp.fin [2,2,1,1,1] [1] [] _ 0 1 _ bO aQ hb (fun hap=>a8) rfl ⟨_,rfl,(hh1.2.2.2.2 N1 tk1 _ (fO (bL jQ 1 [tk1+0]) (d8+1) d7))⟩ (rf (by kernel_rfl!)))) (ra (by kernel_rfl!))
theorem xr (fr lc cr ci ch cu:Nat) (x:Int) (tx:Nat) (y:Int) (ty:Nat) (β:Bool) (h0:(x !=y)=β) {al:Obj} (ai:bx w.2 [] [[fF]] al) {Q:Bool→af→Prop} (hb:below.length≤96) (hp:([(lc,al),(ci,ac (.int y ty))]++F).Perm M) (H:∀(N tk:Nat) (aq:Obj),bx w.2 [(fF,.int x tx)] [] aq→Q (β) ([(lc,aq),(ci,ac (.int y ty))]++F)):Tr w b1 b2 b3 (cx c below) (assign (.Name fF (dm (aL dk) 0)) (gY fr lc cr ci ch cu) (.int x tx)>>=fun _=>isTrue (bA (jF (aL dk) 0) 0) (gY fr lc cr ci ch cu) (eval (bA (jF (aL dk) 0) 0) (gY fr lc cr ci ch cu))) M Q:=
  Tr.asIt fun p=>du ai (fun h00=>cR h00 hp fun aw ah av=>aK fun N tk hN=>Stp.fin [1,1,1,2,1] [0,1] [yF x y tx ty β] _ 0 1 _ av aa hb (fun hap=>a9 (fo _ _ _ _ _ h0) a8) rfl ⟨_,rfl,(H N tk _ (dO (bL id 0 [tk+0]) (ah+1)))⟩ (rf (by kernel_rfl!))) (fun o00_0 h00=>cR h00 hp fun aw ah av=>aK fun N tk hN=>Stp.fin [1,1,1,2,1] [0,1] [yF x y tx ty β] _ 0 1 _ av aa hb (fun hap=>a9 (fo _ _ _ _ _ h0) a8) rfl ⟨_,rfl,(H N tk _ (dO aw ah))⟩ (rf (by kernel_rfl!)))
theorem xu (fr lc cr ci ch cu:Nat) (x:Int) (tx:Nat) (rw re n a:Nat) (rv:List Value) (hs ps g:PySem.Str) (t1 t2 t3:Nat) (β:Bool) (h0:x=(n:Int)) (h1:rv[n]?=some (.ref a)) (h4:rv.length≤1000) (h2:decide (hs=g)=β) {al:Obj} (ai:bx w.2 [(fF,.int x tx)] [] al) {Q:Bool→af→Prop} (hb:below.length≤96) (hp:([(lc,al),(cr,ac (.ref rw)),(rw,lst rv re),(a,aS [.str hs t1,.str ps t2]),(ch,ac (.str g t3))]++F).Perm M) (H:∀(N tk:Nat) (aq:Obj),bx w.2 [(fF,.int x tx)] [] aq→Q (β) ([(lc,aq),(cr,ac (.ref rw)),(rw,lst rv re),(a,aS [.str hs t1,.str ps t2]),(ch,ac (.str g t3))]++F)):Tr w b1 b2 b3 (cx c below) (isTrue (bA (jF (aL dk) 0) 1) (gY fr lc cr ci ch cu) (eval (bA (jF (aL dk) 0) 1) (gY fr lc cr ci ch cu))) M Q:=
  Tr.it fun p=>cR ai hp fun aw ah av=>aK fun N tk hN=>Stp.fin [2,1,3,3,3,1,4,4,4,0,4,4,0,5,2] [0,1,2,3,4] [bG 2 rw rv re x tx (.ref a),rZ hs g t1 t3 β] _ 0 1 _ av aa hb (fun hap=>a9 (aX rv re n x tx h0 h1 h4) (a9 (gC _ _ _ _ _ h2) a8)) rfl ⟨_,rfl,(H N tk _ (dO aw ah))⟩ (rf (by kernel_rfl!))
theorem xw (fr lc cr ci ch cu:Nat) (x:Int) (tx:Nat) (rw re n a cw ce:Nat) (rv:List Value) (hs ps:PySem.Str) (t1 t2:Nat) (vs:List (PySem.Str × Nat)) (β:Bool) (h0:x=(n:Int)) (h1:rv[n]?=some (.ref a)) (h4:rv.length≤1000) (h3:(vs.map (·.1)).contains ps=β) {al:Obj} (ai:bx w.2 [(fF,.int x tx)] [] al) {Q:Bool→af→Prop} (hb:below.length≤96) (hp:([(lc,al),(cr,ac (.ref rw)),(rw,lst rv re),(a,aS [.str hs t1,.str ps t2]),(cu,ac (.ref cw)),(cw,lst (vs.map sv) ce)]++F).Perm M) (H:∀(N tk:Nat) (aq:Obj),bx w.2 [(fF,.int x tx)] [] aq→Q (β) ([(lc,aq),(cr,ac (.ref rw)),(rw,lst rv re),(a,aS [.str hs t1,.str ps t2]),(cu,ac (.ref cw)),(cw,lst (vs.map sv) ce)]++F)):Tr w b1 b2 b3 (cx c below) (isTrue (bA (jF (aL dk) 0) 2) (gY fr lc cr ci ch cu) (eval (bA (jF (aL dk) 0) 2) (gY fr lc cr ci ch cu))) M Q:=
  Tr.it fun p=>cR ai hp fun aw ah av=>aK fun N tk hN=>Stp.fin [2,1,3,3,3,1,4,4,4,0,4,4,0,5,6,6,2] [0,1,2,3,4,5] [bG 2 rw rv re x tx (.ref a),pP 5 cw vs ce ps t2 β] _ 0 1 _ av aa hb (fun hap=>a9 (aX rv re n x tx h0 h1 h4) (a9 (oX _ _ _ _ _ h3) a8)) rfl ⟨_,rfl,(H N tk _ (dO aw ah))⟩ (rf (by kernel_rfl!))
theorem xt (fr lc cr ci ch cu:Nat) (x:Int) (tx:Nat) {al:Obj} (ai:bx w.2 [(fF,.int x tx)] [] al) {Q:Value→af→Prop} (hb:below.length≤96) (hp:([(lc,al)]++F).Perm M) (H:∀(N tk:Nat) (aq:Obj),bx w.2 [] [[fF]] aq→Q (.int x tx) ([(lc,aq)]++F)):Tr w b1 b2 b3 (cx c below) (eval (dj dk) (gY fr lc cr ci ch cu)) M Q:=
  Tr.ev fun p=>cR ai hp fun aw ah av=>aK fun N tk hN=>Stp.fin [1] [0] [] _ 0 0 _ av aa hb (fun hap=>a8) rfl ⟨_,rfl,(H N tk _ (dR (.int x tx) (dO aw ah)))⟩ (rf (by kernel_rfl!))
theorem y7 (fr cu cp ch ci cr:Nat) (ab:Nat) (sl:Nat) {al:Obj} (ai:FrO w.2 [(sq,.ref sl),(s7,.ref ab)] [] al) {Q:Flow→af→Prop} (hb:below.length≤96) (au:∀l:ag,l.length≤below.length+9→bel' l) (hp:([(fr,al),(205,br [])]++F).Perm M) (H:∀(N tk:Nat),aJ≤N→Con w b1 b2 b3 bel' (.call (.builtin "sorted") ⟨[.ref ab],[(tM,.ref (N+7))]⟩) ([(205,br [.int 161 0,.int 29 0,.ref (N+6)]),(N+6,gE (.str sn tk) (tk+1) (uZ N tk 161)),(N+7,gz cr (N+6) (N+0))]++F) fun r L₂=>∃(D de:Nat) (vs:List Value) (x:Int) (tx:Nat) (X1:af),vs.length+ [Value.int x tx].length≤1000∧r= .ok (.ret (.ref D))∧([(D,lst vs de),(ci,ac (.int x tx))]++X1).Perm L₂∧(∀(N1 tk1:Nat),Q (.ret (.ref (N1+1))) ([(N1+1,lst (vs++ [.int x tx]) 0)]++X1))):Tr w b1 b2 b3 (cx c below) (execs [bn 4] (cf fr cu cp ch ci cr)) M Q:=
  Tr.st fun p=>aZ ai hp fun aw ah aj av=>aK fun N tk hN=>Stp.at [0,0,1,0,2,2,2,2,0,0,0] [1,8,9] [] _ 8 7 _ av aa hb (fun hap=>a8) rfl au (H N tk hN) (fun r L₂ hq=>ex6 hq fun D de vs x tx X1 hh1=>have hl:=hh1.1;c9 hh1.2.1 fun aQ N1 tk1 hN=>Stp.fin [2,1,3,1,1] [3] [ji 0 2 D N1 vs [.int x tx] de 0 (N1+1)] _ 2 0 _ hh1.2.2.1 aQ hb (fun hap=>a9 (dB _ _ _ _ _ hl) a8) rfl ⟨_,rfl,(hh1.2.2.2 N1 tk1)⟩ (rf (by kernel_rfl!))) (ra (by kernel_rfl!))
theorem y6 (fr cu cp ch ci cr:Nat) (ab:Nat) (sl k:Nat) {al:Obj} (ai:FrO w.2 [(sq,.ref sl),(s7,.ref ab)] [] al) {Q:Flow→af→Prop} (hb:below.length≤96) (au:∀l:ag,l.length≤below.length+9→bel' l) (hp:([(fr,al),(205,br [.int 161 0,.int 29 0,.ref k])]++F).Perm M) (H:∀(N tk:Nat),aJ≤N→Con w b1 b2 b3 bel' (.call (.builtin "sorted") ⟨[.ref ab],[(tM,.ref (N+1))]⟩) ([(205,br [.int 161 0,.int 29 0,.ref k]),(N+1,gz cr k (N+0))]++F) fun r L₂=>∃(D de:Nat) (vs:List Value) (x:Int) (tx:Nat) (X1:af),vs.length+ [Value.int x tx].length≤1000∧r= .ok (.ret (.ref D))∧([(D,lst vs de),(ci,ac (.int x tx))]++X1).Perm L₂∧(∀(N1 tk1:Nat),Q (.ret (.ref (N1+1))) ([(N1+1,lst (vs++ [.int x tx]) 0)]++X1))):Tr w b1 b2 b3 (cx c below) (execs [bn 4] (cf fr cu cp ch ci cr)) M Q:=
  Tr.st fun p=>aZ ai hp fun aw ah aj av=>aK fun N tk hN=>Stp.at [0,0,1,0,2,0,0,0] [1,3] [] _ 2 0 _ av aa hb (fun hap=>a8) rfl au (H N tk hN) (fun r L₂ hq=>ex6 hq fun D de vs x tx X1 hh1=>have hl:=hh1.1;c9 hh1.2.1 fun aQ N1 tk1 hN=>Stp.fin [2,1,3,1,1] [3] [ji 0 2 D N1 vs [.int x tx] de 0 (N1+1)] _ 2 0 _ hh1.2.2.1 aQ hb (fun hap=>a9 (dB _ _ _ _ _ hl) a8) rfl ⟨_,rfl,(hh1.2.2.2 N1 tk1)⟩ (rf (by kernel_rfl!))) (ra (by kernel_rfl!))
theorem vd (f cr co t rw re n a ln ct:Nat) (cx:Value) (cl:List Value) (x:Int) (tx:Nat) (rv:List Value) (hs ps:PySem.Str) (t1 t2:Nat) (h0:x=(n:Int)) (h1:rv[n]?=some (.ref a)) (h4:rv.length≤1000) (h2:ps.length=ln) (h3:ln≤50) {Q:Result→af→Prop} (hb:∀l,bel l→l.length≤96) (hp:([(f,gz cr co t),(co,gE cx ct cl),(cr,ac (.ref rw)),(rw,lst rv re),(a,aS [.str hs t1,.str ps t2])]++F).Perm M) (H:∀(N tk:Nat),Q (.ok (.ret (.int ln (tk+3)))) ([(f,gz cr co t),(co,gE cx ct cl),(cr,ac (.ref rw)),(rw,lst rv re),(a,aS [.str hs t1,.str ps t2])]++F)):Con w b1 b2 b3 bel (.call (.ref f) ⟨[.int x tx],[]⟩) M Q:=
  Con.of fun below p ao=>aK fun N tk hN=>Stp.fin [2,2,6,6,0,0,0,3,6,4,4,4,1,5,5,5,0,5,5,0,2] [0,1,2,3,4] [bG 3 rw rv re x tx (.ref a),pO ps t2 (tk+2) ln] _ 1 4 _ hp aa (hb _ ao) (fun hap=>a9 (aX rv re n x tx h0 h1 h4) (a9 (iO _ _ _ _ (by rw [h2]) (by lia)) a8)) rfl (H N tk) (rf (by kernel_rfl!))
end
noncomputable def gL (p:PySem.Str):List Int:=(bT p.length).filter fun k=>p.cps.getD k.toNat 0==47
noncomputable def kU (p:PySem.Str):List PySem.Str:=(gL p).map (fun k=>eW p k)++(gL p).map (fun k=>eW p (k+1))
theorem fE {p:PySem.Str} {k:Int} (h:k∈gL p):∃n:Nat,k=n∧n < p.length:=by
  have:=(R3.mp h).1
  obtain ⟨n,hn,rfl⟩:=E1.mp this
  exact ⟨n,rfl,K3.mp hn⟩
theorem jo (p:PySem.Str):(gL p).length≤p.length:=by
  have:=J4 (fun k:Int=>p.cps.getD k.toNat 0==47) (bT p.length)
  rw [aH] at this
  exact this
theorem jp:∀n < 20,∀k < n,seqIndex? ((k:Nat):Int) n=some k:=by decide+kernel
theorem va (c:Nat):decide ((⟨#[c]⟩:PySem.Str)=eJ)=(c==47):=by
  rw [C6,decide_eq_true_iff,beq_iff_eq]
  constructor
  · intro h
    exact congrArg (fun s:PySem.Str=>s.cps.getD 0 0) h
  · rintro rfl;rfl
noncomputable abbrev Ky:=PySem.Str × PySem.Str
noncomputable def ew (a b:Ky):Bool:=z7 a.1 a.2 b.1 b.2
noncomputable def j2 (a b:Ky):Bool:=decide (a.1=b.1) && (kU b.2).contains a.2
noncomputable def atK (K:List Ky) (j:Nat):Ky:=K.getD j (s1x,s1x)
noncomputable def gt (n:Nat) (r:Nat→Nat→Bool) (i:Int):List Int:=(bT n).filter fun j=>j !=i && r j.toNat i.toNat
noncomputable def ox (n:Nat) (r:Nat→Nat→Bool):List (List Int):=(bT n).map (gt n r)
theorem yT {α β:Type} (f:α→β) {l:List α} {i j:Nat} {x y:α} (hi:l[i]?=some x) (hj:l[j]?=some y) (hne:i≠j):∃R,(l.map f).Perm (f x::f y::R):=by
  have key:∀(l:List α) (i j:Nat) (x y:α),i < j→l[i]?=some x→l[j]?=some y→∃R,(l.map f).Perm (f x::f y::R):=by
    intro l
    induction l with
    | nil=>intro i j x y _ h;cases h
    | cons z l ih=>
      intro i j x y hij h1 h2
      cases j with
      | zero=>lia
      | succ j=>
        have h2:l[j]?=some y:=h2
        cases i with
        | zero=>
          cases h1
          obtain ⟨R,hR⟩:=ed f (J1 h2)
          exact ⟨R,List.Perm.cons _ hR⟩
        | succ i=>
          have h1:l[i]?=some x:=h1
          obtain ⟨R,hR⟩:=ih i j x y (by lia) h1 h2
          refine ⟨f z::R,?_⟩
          rw [H0]
          refine (List.Perm.cons _ hR).trans ?_
          exact (List.Perm.swap _ _ _).trans (List.Perm.cons _ (List.Perm.swap _ _ _))
  rcases Nat.lt_or_gt_of_ne hne with h | h
  · exact key l i j x y h hi hj
  · obtain ⟨R,hR⟩:=key l j i y x h hj hi
    exact ⟨R,hR.trans (List.Perm.swap _ _ _)⟩
section
variable {w:World} {b1 b2 b3:Bool} {bel:ag→Prop} {F M:af} {Q:Result→af→Prop}
theorem pk {Γ:Ctx} {L:af} {tgt:Expr} {v:Value} {x y:Expr} {pos:Pos} {env:Env} {Q:Bool→af→Prop} (h:Tr w b1 b2 b3 Γ (assign tgt env v>>=fun _=>isTrue x env (eval x env)) L fun β L1=>match β with
      | true=>Tr w b1 b2 b3 Γ (isTrue y env (eval y env)) L1 Q
      | false=>Q false L1):Tr w b1 b2 b3 Γ (assign tgt env v>>=fun _=>isTrue (.BoolOp .And [x,y] pos) env (eval (.BoolOp .And [x,y] pos) env)) L Q:=by
  have e:isTrue (.BoolOp .And [x,y] pos) env (eval (.BoolOp .And [x,y] pos) env)=isTrue x env (eval x env)>>=fun b=>if (b=true)=True then allTrue .And [y] env else pure false:=by
    rw [PySem.isTrue]
    conv=>lhs;unfold allTrue
    congr 1
    funext b
    cases b<;>rfl
  rw [e]
  show Tr w b1 b2 b3 Γ ((assign tgt env v).bind fun _=>(isTrue x env (eval x env)).bind _) L Q
  rw [←bS]
  refine Tr.bind (Tr.mono h ?_)
  intro β L1 h
  cases β
  · exact Tr.pure h
  · show Tr w b1 b2 b3 Γ (allTrue .And [y] env) L1 Q
    unfold allTrue
    refine Tr.bind (Tr.mono h ?_)
    intro β L2 h
    cases β
    · exact Tr.pure h
    · show Tr w b1 b2 b3 Γ (allTrue .And [] env) L2 Q
      unfold allTrue
      exact Tr.pure h
theorem ic {rs:List Ad} {n:Nat} {q:Ad} (h:rs[n]?=some q):(bJ rs)[n]?=some (.ref q.a):=by unfold bJ;rw [V0,h];rfl
theorem iA {rs:List Ad} {n:Nat} {q:Ad} (h:rs[n]?=some q):atK (rs.map Ad.key) n=(q.h,q.p):=by
  unfold atK
  rw [I1,V0,h];rfl
theorem rD {rs:List Ad} (hok:fy rs) {q:Ad} (h:q∈rs):X3 (.tuple [.str q.h,.str q.p])=true:=by
  have h1:=hok q h
  simp [X3,O2,h1.1,h1.2.1]
theorem pj {Γ:Ctx} {L:af} {tgt:Expr} {v:Value} {x y z:Expr} {pos:Pos} {env:Env} {Q:Bool→af→Prop} (h:Tr w b1 b2 b3 Γ (assign tgt env v>>=fun _=>isTrue x env (eval x env)) L fun β L1=>match β with
      | true=>Tr w b1 b2 b3 Γ (isTrue y env (eval y env)) L1 fun β L2=>match β with
        | true=>Tr w b1 b2 b3 Γ (isTrue z env (eval z env)) L2 Q
        | false=>Q false L2
      | false=>Q false L1):Tr w b1 b2 b3 Γ (assign tgt env v>>=fun _=>isTrue (.BoolOp .And [x,y,z] pos) env (eval (.BoolOp .And [x,y,z] pos) env)) L Q:=by
  have e:isTrue (.BoolOp .And [x,y,z] pos) env (eval (.BoolOp .And [x,y,z] pos) env)=isTrue x env (eval x env)>>=fun b=>if (b=true)=True then allTrue .And [y,z] env else pure false:=by
    rw [PySem.isTrue]
    conv=>lhs;unfold allTrue
    congr 1
    funext b
    cases b<;>rfl
  rw [e]
  show Tr w b1 b2 b3 Γ ((assign tgt env v).bind fun _=>(isTrue x env (eval x env)).bind _) L Q
  rw [←bS]
  refine Tr.bind (Tr.mono h ?_)
  intro β L1 h
  cases β
  · exact Tr.pure h
  · show Tr w b1 b2 b3 Γ (allTrue .And [y,z] env) L1 Q
    unfold allTrue
    refine Tr.bind (Tr.mono h ?_)
    intro β L2 h
    cases β
    · exact Tr.pure h
    · show Tr w b1 b2 b3 Γ (allTrue .And [z] env) L2 Q
      unfold allTrue
      refine Tr.bind (Tr.mono h ?_)
      intro β L3 h
      cases β
      · exact Tr.pure h
      · show Tr w b1 b2 b3 Γ (allTrue .And [] env) L3 Q
        unfold allTrue
        exact Tr.pure h
theorem iR {R:af} {α:Type} {items:List α} {kl:α→Value→Prop} {src:Nat→af} {fin:af} {x:PySem.Str} {px:Pos} {elt iter c:Expr} {scope:Scope} {pos:Pos} {it acc lc:Nat} {env:Env} (t:α→Bool) (f:α→Value→Prop) (I:Obj→Prop) {D0:Obj} (ip:I D0) (hb:∀l,bel l→l.length≤96) (hlen:items.length≤900) (hit:Iter w b1 b2 b3 it items kl src fin)
    (hbody:∀i q,items[i]?=some q→∀v,kl q v→∀D,I D→∀c' below,bel below→Tr w b1 b2 b3 (cx c' below) (assign (.Name x px) env v>>=fun _=>isTrue c env (eval c env)) (src (i+1)++((lc,D)::R))
      fun b L1=>b=t q∧match b with
        | true=>Tr w b1 b2 b3 (cx c' below) (eval elt env) L1 fun y L'=>f q y∧∃D',I D'∧L'.Perm (src (i+1)++((lc,D')::R))
        | false=>∃D',I D'∧L1.Perm (src (i+1)++((lc,D')::R)))
    (hp:((acc,lst [] 0)::(src 0++((lc,D0)::R))).Perm M)
    (hQ:∀vs ep D,I D→All2 f (items.filter t) vs→Q (.ok .next) ((acc,lst vs ep)::(fin++((lc,D)::R)))):Con w b1 b2 b3 bel (.compStart (.ListComp elt [⟨.Name x px,iter,[c],0⟩] scope pos) 0 (.ref it) (.ref acc) env) M Q:=by
  refine cO (F:=(acc,lst [] 0)::((lc,D0)::R)) hb hit rfl ?_ ((g4 (fun i vs L=>∃D,I D∧L=(lc,D)::R∧All2 f ((items.take i).filter t) vs) hb hlen hit ?_ ?_ items.length 0 [] 0 ((lc,D0)::R) (by exact (P2 _).symm) (S0 _) ⟨D0,ip,rfl,trivial⟩).perm hp)
  · exact A2.trans hp
  · rintro i q hq v hv vs L ⟨D,hD,rfl,ha⟩ below ao
    refine (hbody i q hq v hv D hD _ below ao).mono ?_
    rintro b L1 ⟨hbt,h⟩
    cases b with
    | true=>
      refine Tr.mono h ?_
      rintro y L' ⟨hf,D',hD',hp'⟩
      refine ⟨_,hp',D',hD',rfl,?_⟩
      rw [cL t items i q hq,←hbt,if_pos rfl]
      exact ha.snoc hf
    | false=>
      obtain ⟨D',hD',hp'⟩:=h
      refine ⟨_,hp',D',hD',rfl,?_⟩
      rw [cL t items i q hq,←hbt,if_neg (by simp),U0]
      exact ha
  · rintro vs ep L ⟨D,hD,rfl,ha⟩
    rw [C3] at ha
    exact hQ vs ep D hD ha
end
section
variable {w:World} {b1 b2 b3:Bool} {bel:ag→Prop} {F M:af}
theorem vc {c:Code} {below:ag} {Q:Flow→af→Prop} {fr cu cp ch ci cr:Nat} (p:PySem.Str) (ts:Nat) (hl:p.length < 15) {F0:Obj} (hF0:FrO w.2 [] [] F0) (hb:below.length≤60)
    (hp:([(fr,F0),(cp,ac (.str p ts)),(cu,bf none)]++F).Perm M)
    (hQ:∀(sl r er:Nat) (vs:List (PySem.Str × Nat)) (F1:Obj) (X:af),vs.map (·.1)=kU p→FrO w.2 [(sq,.ref sl)] [] F1→Q .next ([(fr,F1),(cp,ac (.str p ts)),(cu,ac (.ref r)),(r,lst (vs.map sv) er)]++(F++X))):
    Tr w b1 b2 b3 (cx c below) (execs [bn 1,bn 2] (cf fr cu cp ch ci cr)) M Q:=by
  refine Tr.lax ?_
  refine Tr.cons (ya fr cu cp ch ci cr p.length p ts rfl (by lia) hF0 (by exact lk hb rfl) (bel':=fun l=>l.length≤96) (fun l hl=>by exact eA hl hb rfl) (F:=(cu,bf none)::F) (by exact bk [_,_,_] [_,_] (.a (.l [0,1] .z) (.l [2] (.v 0))) (.v 1) (.a (.l [0,1,2] .z) (.v 0)) (.v 1) hp rfl) fun N2 tk2 F2 D0 hN2 hF2 ip=>?_)
  refine jX (lc:=N2+3) (R:= [(fr,F2),(cp,ac (.str p ts)),(cu,bf none)]++F) (fun k:Int=>p.cps.getD k.toNat 0==47) (fun q y=>∃t,y= .int q t) (fun D=>bx w.2 [] [[dP]] D) ip (fun l h=>h) (by rw [aH];lia) (Iter.rangeN (N2+1) p.length) ?_ ?_ ?_
  · rintro i q hq v ⟨tx,rfl⟩ D hD c' below2 hbl2
    obtain ⟨hi,rfl⟩:=cJ hq
    have hch:(seqIndex? ((i:Nat):Int) p.length).bind (p.cps[·]?)=some (p.cps.getD i 0):=by
      rw [jp _ (by exact lk hl rfl) i hi]
      have hs:p.length=p.cps.size:=rfl
      show p.cps[i]?=_
      rw [G7,Q5 (by exact hi)];rfl
    refine y4 fr (N2+3) cp p ts i tx _ _ (by lia) hch (va _) hD hbl2 (F:= [(N2+1,eO p.length (i+1)),(fr,F2),(cu,bf none)]++F) (by exact aO [_,_,_,_,_] [_] (.a (.l [0,1] .z) (.a (.l [2,3,4] .z) (.v 0))) (.a (.l [2] .z) (.l [0] (.a (.l [3,1,4] .z) (.v 0)))) rfl) fun N3 tk3 D1 aQ=>⟨by rw [W0],?_⟩
    split
    · refine y5 fr (N2+3) cp i tx aQ hbl2 (F:= [(cp,ac (.str p ts)),(N2+1,eO p.length (i+1)),(fr,F2),(cu,bf none)]++F) (by exact aO [_,_,_,_,_] [_] (.a (.l [0] .z) (.a (.l [1,2,3,4] .z) (.v 0))) (.a (.l [0,1] .z) (.a (.l [2,3,4] .z) (.v 0))) rfl) fun N4 tk4 D2 gT=>⟨⟨_,rfl⟩,D2,gT,?_⟩
      exact aO [_,_,_,_,_] [_] (.a (.l [0] .z) (.a (.l [1,2,3,4] .z) (.v 0))) (.a (.l [2] .z) (.l [0] (.a (.l [3,1,4] .z) (.v 0)))) rfl
    · refine ⟨D1,.inr ⟨_,aQ⟩,?_⟩
      exact aO [_,_,_,_,_] [_] (.a (.l [0,1] .z) (.a (.l [2,3,4] .z) (.v 0))) (.a (.l [2] .z) (.l [0] (.a (.l [3,1,4] .z) (.v 0)))) rfl
  · exact aO [_,_,_,_,_,_] [_] (.l [0] (.a (.l [1] .z) (.l [2] (.a (.l [3,4,5] .z) (.v 0))))) (.a (.l [3,4,1,0,2] .z) (.l [5] (.v 0))) rfl
  · intro vs ep D hD ha
    obtain ⟨ps,rfl,hps⟩:=All2.ints ha
    have hps':ps.map (·.1)=gL p:=by rw [hps,O5];rfl
    have hpl:ps.length < 15:=by
      have h1:=congrArg List.length hps'
      rw [B0] at h1
      have:=jo p
      lia
    have hpn:∀x:Int,x∈ps.map (·.1)→∃n:Nat,x=n∧n < p.length:=fun x hx=>fE (by rw [←hps'];exact hx)
    refine ⟨D,F2,[(N2+2,lst (ps.map iv) ep),(N2+1,cN p.length 0),(cp,ac (.str p ts)),(cu,bf none)]++F,rfl,hD,hF2,by exact aO [_,_,_,_,_,_] [_] (.a (.l [0,1] .z) (.a (.l [2,3,4,5] .z) (.v 0))) (.l [2] (.a (.l [3] .z) (.l [0] (.a (.l [1,4,5] .z) (.v 0))))) rfl,fun N3 tk3 F3 hF3=>.inl ⟨rfl,?_⟩⟩
    refine y9 fr cu cp ch ci cr (N2+2) (ps.map iv) ep hF3 (by exact lk hb rfl) (bel':=fun l=>l.length≤96) (fun l hl=>by exact eA hl hb rfl) (F:= [(N2+1,cN p.length 0),(cp,ac (.str p ts)),(cu,bf none)]++F) (by exact aO [_,_,_,_,_] [_] (.a (.l [0,1] .z) (.a (.l [2,3,4] .z) (.v 0))) (.a (.l [0] .z) (.a (.l [1,2,3,4] .z) (.v 0))) rfl) fun N4 tk4 F4 D4 hN4 hF4 zq=>?_
    refine dv (lc:=N4+2) (R:= [(fr,F4),(cp,ac (.str p ts)),(cu,bf none),(N2+1,cN p.length 0)]++F) (fun q y=>∃t,y= .str (eW p q) t) (fun D=>bx w.2 [] [[dP]] D) zq (fun l h=>h) (by rw [B0];lia) (Iter.listI (N4+0) (N2+2) ep ps) ?_ ?_ ?_
    · rintro i q hq v ⟨tx,rfl⟩ D hD c' below2 hbl2
      obtain ⟨n,rfl,hn⟩:=hpn q (J1 hq)
      by_cases hw:(gd p n).length=p.length
      · refine vi fr (N4+2) cp p ts n tx (fun u=>(j9 ts u hw).1) hD hbl2 (F:= [(N4+0,b8 "list_iterator" (.ref (N2+2)) (i+1)),(N2+2,lst (ps.map iv) ep),(fr,F4),(cu,bf none),(N2+1,cN p.length 0)]++F) (by exact aO [_,_,_,_,_,_,_] [_] (.a (.l [0,1] .z) (.a (.l [2,3,4,5,6] .z) (.v 0))) (.a (.l [2,3] .z) (.l [0] (.a (.l [4,1,5,6] .z) (.v 0)))) rfl) fun N5 tk5 D5 zp=>⟨⟨_,by rw [(j9 ts 0 hw).2]⟩,D5,.inr ⟨_,zp⟩,?_⟩
        exact aO [_,_,_,_,_,_,_] [_] (.a (.l [0,1] .z) (.a (.l [2,3,4,5,6] .z) (.v 0))) (.a (.l [2,3] .z) (.l [0] (.a (.l [4,1,5,6] .z) (.v 0)))) rfl
      · refine vj fr (N4+2) cp p ts n tx (eW p n) (fun u=>o6 ts u hw) (kW (by exact lk hl rfl) (by lia)) hD hbl2 (F:= [(N4+0,b8 "list_iterator" (.ref (N2+2)) (i+1)),(N2+2,lst (ps.map iv) ep),(fr,F4),(cu,bf none),(N2+1,cN p.length 0)]++F) (by exact aO [_,_,_,_,_,_,_] [_] (.a (.l [0,1] .z) (.a (.l [2,3,4,5,6] .z) (.v 0))) (.a (.l [2,3] .z) (.l [0] (.a (.l [4,1,5,6] .z) (.v 0)))) rfl) fun N5 tk5 D5 zp=>⟨⟨_,rfl⟩,D5,.inr ⟨_,zp⟩,?_⟩
        exact aO [_,_,_,_,_,_,_] [_] (.a (.l [0,1] .z) (.a (.l [2,3,4,5,6] .z) (.v 0))) (.a (.l [2,3] .z) (.l [0] (.a (.l [4,1,5,6] .z) (.v 0)))) rfl
    · exact aO [_,_,_,_,_,_,_,_] [_] (.l [0] (.a (.l [1,2] .z) (.l [3] (.a (.l [4,5,6,7] .z) (.v 0))))) (.a (.l [4,2,1,0,3] .z) (.a (.l [7,5,6] .z) (.v 0))) rfl
    · intro vs1 lv D5 zp ha1
      refine ⟨vs1,lv,D5,F4,[(N4+0,b8 "list_iterator" .none ps.length),(cp,ac (.str p ts)),(cu,bf none),(N2+1,cN p.length 0)]++F,rfl,zp,hF4,by exact aO [_,_,_,_,_,_,_,_] [_] (.a (.l [0,1,2,3] .z) (.a (.l [4,5,6,7] .z) (.v 0))) (.l [2] (.a (.l [4,3] .z) (.l [0] (.a (.l [1,5,6,7] .z) (.v 0))))) rfl,fun N6 tk6 F6 D6 hN6 hF6 hD6=>?_⟩
      refine dv (lc:=N6+2) (R:= [(fr,F6),(N4+1,lst vs1 lv),(cp,ac (.str p ts)),(cu,bf none),(N4+0,b8 "list_iterator" .none ps.length),(N2+1,cN p.length 0)]++F) (fun q y=>∃t,y= .str (eW p (q+1)) t) (fun D=>bx w.2 [] [[dP]] D) hD6 (fun l h=>h) (by rw [B0];lia) (Iter.listI (N6+0) (N2+2) ep ps) ?_ ?_ ?_
      · rintro i q hq v ⟨tx,rfl⟩ D hD c' below2 hbl2
        obtain ⟨n,rfl,hn⟩:=hpn q (J1 hq)
        have e1:(n:Int)+1=((n+1:Nat):Int):=by rfl
        rw [e1]
        by_cases hw:(gd p ((n+1:Nat):Int)).length=p.length
        · refine vg fr (N6+2) cp p ts n tx (n+1) e1 (fun u=>(j9 ts u hw).1) hD hbl2 (F:= [(N6+0,b8 "list_iterator" (.ref (N2+2)) (i+1)),(N2+2,lst (ps.map iv) ep),(fr,F6),(N4+1,lst vs1 lv),(cu,bf none),(N4+0,b8 "list_iterator" .none ps.length),(N2+1,cN p.length 0)]++F) (by exact aO [_,_,_,_,_,_,_,_,_] [_] (.a (.l [0,1] .z) (.a (.l [2,3,4,5,6,7,8] .z) (.v 0))) (.a (.l [2,3] .z) (.l [0] (.a (.l [4,5,1,6,7,8] .z) (.v 0)))) rfl) fun N7 tk7 D7 xp=>⟨⟨_,by rw [(j9 ts 0 hw).2]⟩,D7,.inr ⟨_,xp⟩,?_⟩
          exact aO [_,_,_,_,_,_,_,_,_] [_] (.a (.l [0,1] .z) (.a (.l [2,3,4,5,6,7,8] .z) (.v 0))) (.a (.l [2,3] .z) (.l [0] (.a (.l [4,5,1,6,7,8] .z) (.v 0)))) rfl
        · refine vh fr (N6+2) cp p ts n tx (n+1) (eW p ((n+1:Nat):Int)) e1 (fun u=>o6 ts u hw) (kW (by exact lk hl rfl) (by lia)) hD hbl2 (F:= [(N6+0,b8 "list_iterator" (.ref (N2+2)) (i+1)),(N2+2,lst (ps.map iv) ep),(fr,F6),(N4+1,lst vs1 lv),(cu,bf none),(N4+0,b8 "list_iterator" .none ps.length),(N2+1,cN p.length 0)]++F) (by exact aO [_,_,_,_,_,_,_,_,_] [_] (.a (.l [0,1] .z) (.a (.l [2,3,4,5,6,7,8] .z) (.v 0))) (.a (.l [2,3] .z) (.l [0] (.a (.l [4,5,1,6,7,8] .z) (.v 0)))) rfl) fun N7 tk7 D7 xp=>⟨⟨_,rfl⟩,D7,.inr ⟨_,xp⟩,?_⟩
          exact aO [_,_,_,_,_,_,_,_,_] [_] (.a (.l [0,1] .z) (.a (.l [2,3,4,5,6,7,8] .z) (.v 0))) (.a (.l [2,3] .z) (.l [0] (.a (.l [4,5,1,6,7,8] .z) (.v 0)))) rfl
      · exact aO [_,_,_,_,_,_,_,_,_,_] [_] (.l [0] (.a (.l [1,2] .z) (.l [3] (.a (.l [4,5,6,7,8,9] .z) (.v 0))))) (.a (.l [4,5,2,1,0,3] .z) (.a (.l [8,6,7,9] .z) (.v 0))) rfl
      · intro vs2 ep2 D8 xo ha2
        have hl1:=ha1.length
        have hl2:=ha2.length
        rw [B0] at hl1 hl2
        refine ⟨vs2,ep2,D8,F6,[(N6+0,b8 "list_iterator" .none ps.length),(N2+2,lst (ps.map iv) ep),(cp,ac (.str p ts)),(N4+0,b8 "list_iterator" .none ps.length),(N2+1,cN p.length 0)]++F,by lia,rfl,xo,hF6,by exact aO [_,_,_,_,_,_,_,_,_,_] [_] (.a (.l [0,1,2,3,4] .z) (.a (.l [5,6,7,8,9] .z) (.v 0))) (.l [3] (.a (.l [5,6] .z) (.l [0] (.a (.l [1,2,7,4,8,9] .z) (.v 0))))) rfl,fun N9 tk9 F9 hF9=>?_⟩
        obtain ⟨q1,rfl,hq1⟩:=All2.strs ha1
        obtain ⟨q2,rfl,hq2⟩:=All2.strs ha2
        have e:(q1++q2).map sv=q1.map sv++q2.map sv:=A0
        have h:=hQ (N2+2) N9 0 (q1++q2) F9 [(N6+0,b8 "list_iterator" .none ps.length),(N2+2,lst (ps.map iv) ep),(N4+0,b8 "list_iterator" .none ps.length),(N2+1,cN p.length 0)] (by rw [A0,hq1,hq2,hps'];rfl) hF9
        exact ⟨_,[],by rw [←e];exact bk [_,_,_,_,_,_,_,_,_] [_] (.a (.l [0,1,2] .z) (.a (.l [3,4,5,6,7] .z) (.v 0))) (.a (.a (.l [0,5,1,8] .z) (.a (.v 0) (.l [3,4,6,7] .z))) .z) (.l [2] .z) (.l [8] .z) ((pe (by rfl))) rfl,h⟩
end
section
variable {w:World} {b1 b2 b3:Bool} {bel:ag→Prop} {F M:af}
theorem xq {Q:Result→af→Prop} {fr lc cr ci ch cu it acc rw re cw ce:Nat} (rs:List Ad) (hrl:rs.length≤20) (y ty:Nat) (hy:y < rs.length) {qy:Ad} (hqy:rs[y]?=some qy) (vs:List (PySem.Str × Nat)) (hvs:vs.map (·.1)=kU qy.p) (th:Nat) {D0:Obj} (ip:bx w.2 [] [[fF]] D0) (hb:∀l,bel l→l.length≤90)
    (hp:([(it,cN 0 (rs.length:Nat)),(acc,lst [] 0),(lc,D0),(ci,ac (.int y ty)),(cr,ac (.ref rw)),(rw,lst (bJ rs) re),(ch,ac (.str qy.h th)),(cu,ac (.ref cw)),(cw,lst (vs.map sv) ce)]++(bV rs++F)).Perm M)
    (hQ:∀(ps:List (Int × Nat)) (ep:Nat) (D:Obj),bx w.2 [] [[fF]] D→ps.map (·.1)=gt rs.length (fun a b=>j2 (atK (rs.map Ad.key) a) (atK (rs.map Ad.key) b)) y→Q (.ok .next) ([(acc,lst (ps.map iv) ep),(lc,D),(ci,ac (.int y ty)),(cr,ac (.ref rw)),(rw,lst (bJ rs) re),(ch,ac (.str qy.h th)),(cu,ac (.ref cw)),(cw,lst (vs.map sv) ce)]++(bV rs++F))):Con w b1 b2 b3 bel (vT it acc fr lc cr ci ch cu) M Q:=by
  have hb':∀l,bel l→l.length≤96:=fun l h=>by have:=hb l h;exact lk this rfl
  have hvl:(bJ rs).length=rs.length:=B0 _
  refine Con.lax (iR (bel:=bel) (lc:=lc) (R:= [(ci,ac (.int y ty)),(cr,ac (.ref rw)),(rw,lst (bJ rs) re),(ch,ac (.str qy.h th)),(cu,ac (.ref cw)),(cw,lst (vs.map sv) ce)]++(bV rs++F)) (fun j=>j !=(y:Int) && j2 (atK (rs.map Ad.key) j.toNat) (atK (rs.map Ad.key) (y:Int).toNat)) (fun q z=>∃t,z= .int q t) (fun D=>bx w.2 [] [[fF]] D) ip hb' (by rw [aH];exact lk hrl rfl) (Iter.rangeN it rs.length) ?_ ?_ ?_)
  · rintro i q hq v ⟨tx,rfl⟩ D hD c' below2 hbel2
    have hbl2:=hb _ hbel2
    obtain ⟨hi,rfl⟩:=cJ hq
    refine pj (x:=bA (jF (aL dk) 0) 0) (y:=bA (jF (aL dk) 0) 1) (z:=bA (jF (aL dk) 0) 2) (xr fr lc cr ci ch cu i tx y ty _ rfl hD (by exact lk hbl2 rfl) (F:= [(it,eO rs.length (i+1)),(cr,ac (.ref rw)),(rw,lst (bJ rs) re),(ch,ac (.str qy.h th)),(cu,ac (.ref cw)),(cw,lst (vs.map sv) ce)]++(bV rs++F)) (by exact aO [_,_,_,_,_,_,_,_] [_,_] (.a (.l [0,1] .z) (.a (.l [2,3,4,5,6,7] .z) (.a (.v 0) (.v 1)))) (.a (.l [2] .z) (.l [0] (.a (.l [1,3,4,5,6,7] .z) (.a (.v 0) (.v 1))))) rfl) fun N tk D1 aQ=>?_)
    cases hne:((i:Int) !=(y:Int))
    · exact ⟨rfl,D1,.inr ⟨_,aQ⟩,by exact aO [_,_,_,_,_,_,_,_] [_,_] (.a (.l [0,1] .z) (.a (.l [2,3,4,5,6,7] .z) (.a (.v 0) (.v 1)))) (.a (.l [2] .z) (.l [0] (.a (.l [1,3,4,5,6,7] .z) (.a (.v 0) (.v 1))))) rfl⟩
    · obtain ⟨qi,hqi⟩:∃q,rs[i]?=some q:=⟨rs[i],O0 hi⟩
      have hqim:=J1 hqi
      obtain ⟨R,hR⟩:=ed (fun q:Ad=>(q.a,q.obj)) hqim
      have hR:(bV rs).Perm ((qi.a,aS [.str qi.h qi.t,.str qi.p qi.u])::R):=hR
      have hcov:j2 (atK (rs.map Ad.key) ((i:Nat):Int).toNat) (atK (rs.map Ad.key) ((y:Nat):Int).toNat)=(decide (qi.h=qy.h) && (vs.map (·.1)).contains qi.p):=by
        rw [W0,W0,iA hqi,iA hqy,hvs];rfl
      refine xu fr lc cr ci ch cu i tx rw re i qi.a (bJ rs) qi.h qi.p qy.h qi.t qi.u th (decide (qi.h=qy.h)) rfl (ic hqi) (by exact j8 hvl hrl rfl) rfl aQ (by exact lk hbl2 rfl) (F:= [(it,eO rs.length (i+1)),(ci,ac (.int y ty)),(cu,ac (.ref cw)),(cw,lst (vs.map sv) ce)]++(R++F)) (by exact bk [_,_,_,_,_,_,_,_,_] [_,_,_] (.a (.l [1,2,3,0,4] .z) (.a (.l [5,6,7,8] .z) (.a (.v 1) (.v 2)))) (.a (.l [1,6] .z) (.a (.l [5,2,3,4,7,8] .z) (.a (.v 0) (.v 2)))) (.l [0] (.v 1)) (.v 0) (hR.symm) rfl) fun N2 tk2 D2 gT=>?_
      cases hh:decide (qi.h=qy.h)
      · exact ⟨by rw [hcov,hh];rfl,D2,.inr ⟨_,gT⟩,by exact bk [_,_,_,_,_,_,_,_,_] [_,_,_] (.a (.l [1,2,3,0,4] .z) (.a (.l [5,6,7,8] .z) (.a (.v 1) (.v 2)))) (.a (.l [5] .z) (.l [1] (.a (.l [6,2,3,4,7,8] .z) (.a (.v 0) (.v 2))))) (.l [0] (.v 1)) (.v 0) (hR.symm) rfl⟩
      · refine xw fr lc cr ci ch cu i tx rw re i qi.a cw ce (bJ rs) qi.h qi.p qi.t qi.u vs _ rfl (ic hqi) (by exact j8 hvl hrl rfl) rfl gT (by exact lk hbl2 rfl) (F:= [(it,eO rs.length (i+1)),(ci,ac (.int y ty)),(ch,ac (.str qy.h th))]++(R++F)) (by (first | (refine gP fun g=>?_;have hh0:=lQ hR g;simp only [Q0,iv,am,aU,cD,So.dict,A0,H0,P0,J5,J3,P6,V4,Q4] at hh0⊢<;>(first | exact ma hh0 (by ac_rfl) | exact ma hh0.symm (by ac_rfl) | lia)) | (refine gP fun g=>?_;have hh0:=lQ hR g;simp only [iv,am,aU,cD,So.dict,A0,H0,P0,J5,J3,P6,V4,Q4] at hh0⊢<;>lia))) fun N3 tk3 D3 vM=>⟨by rw [hcov,hh];rfl,?_⟩
        split
        · refine xt fr lc cr ci ch cu i tx vM (by exact lk hbl2 rfl) (F:= [(it,eO rs.length (i+1)),(ci,ac (.int y ty)),(cr,ac (.ref rw)),(rw,lst (bJ rs) re),(ch,ac (.str qy.h th)),(cu,ac (.ref cw)),(cw,lst (vs.map sv) ce)]++(bV rs++F)) (by exact bk [_,_,_,_,_,_,_,_,_] [_,_,_] (.a (.l [1] .z) (.a (.l [2,3,4,5,6,7,8] .z) (.a (.v 0) (.v 2)))) (.a (.l [1,4,5,0,7,8] .z) (.a (.l [2,3,6] .z) (.a (.v 1) (.v 2)))) (.v 0) (.l [0] (.v 1)) hR rfl) fun N4 tk4 D4 zq=>⟨⟨_,rfl⟩,D4,zq,by exact aO [_,_,_,_,_,_,_,_] [_,_] (.a (.l [0] .z) (.a (.l [1,2,3,4,5,6,7] .z) (.a (.v 0) (.v 1)))) (.a (.l [1] .z) (.l [0] (.a (.l [2,3,4,5,6,7] .z) (.a (.v 0) (.v 1))))) rfl⟩
        · exact ⟨D3,.inr ⟨_,vM⟩,by exact bk [_,_,_,_,_,_,_,_,_] [_,_,_] (.a (.l [1,2,3,0,4,5] .z) (.a (.l [6,7,8] .z) (.a (.v 1) (.v 2)))) (.a (.l [6] .z) (.l [1] (.a (.l [7,2,3,8,4,5] .z) (.a (.v 0) (.v 2))))) (.l [0] (.v 1)) (.v 0) (hR.symm) rfl⟩
  · exact List.Perm.trans (by exact aO [_,_,_,_,_,_,_,_,_] [_,_] (.l [0] (.a (.l [1] .z) (.l [2] (.a (.l [3,4,5,6,7,8] .z) (.a (.v 0) (.v 1)))))) (.a (.l [1,0,2,3,4,5,6,7,8] .z) (.a (.v 0) (.v 1))) rfl) hp
  · intro vs ep D hD ha
    obtain ⟨ps,rfl,hps⟩:=All2.ints ha
    exact ⟨_,[(it,cN (rs.length:Nat) 0)],by exact aO [_,_,_,_,_,_,_,_,_] [_,_] (.l [0] (.a (.l [1] .z) (.l [2] (.a (.l [3,4,5,6,7,8] .z) (.a (.v 0) (.v 1)))))) (.a (.a (.l [0,2,3,4,5,6,7,8] .z) (.a (.v 0) (.v 1))) (.l [1] .z)) rfl,hQ ps ep D hD (by rw [hps,O5];rfl)⟩
end
open PySem.Builtin PySem.Builtin.Str
noncomputable def kK (p:PySem.Str) (m:Nat):PySem.Str:=⟨(p.cps.toList.take m).toArray⟩
theorem fk {p:PySem.Str} {m:Nat} (h:m≤p.length):(kK p m).length=m:=by
  show (E8 _).size=m
  rw [E5,C4]
  have:p.length=p.cps.toList.length:=(A4).symm
  lia
theorem mI:∀n < 16,∀k < 17,strSliceIndices none (some ((k:Nat):Int)) 1 n=List.range (min k n):=by decide+kernel
theorem jr {α:Type} (l:List α):∀m,(List.range m).filterMap (l[·]?)=l.take m
  | 0=>rfl
  | m+1=>by
    rw [K9,List.filterMap_append,jr l m,List.take_add_one]
    congr 1
theorem jT {p:PySem.Str} (hp:p.length < 16) {k:Nat} (hk:k < 17):eW p k=kK p (min k p.length):=by
  have hl:p.length=p.cps.toList.length:=(A4).symm
  unfold eW
  have e:gd p k=List.range (min k p.length):=mI _ hp _ hk
  rw [e,U4]
  split
  · rename_i h
    rw [h]
    unfold kK
    rw [hl,C3,O8]
  · unfold kK
    congr 2
    have:=jr p.cps.toList (min k p.length)
    rw [←this]
    refine congrArg (fun f=>List.filterMap f _) (funext fun i=>?_)
    exact E6.symm
theorem gD {p s:PySem.Str} (hp:p.length < 15) (h:s∈kU p):∃m,m≤p.length∧s=kK p m:=by
  rcases A1.mp h with h | h
  · obtain ⟨k,hk,rfl⟩:=E1.mp h
    obtain ⟨n,rfl,hn⟩:=fE hk
    exact ⟨_,Z6 _ _,jT (by exact lk hp rfl) (by lia)⟩
  · obtain ⟨k,hk,rfl⟩:=E1.mp h
    obtain ⟨n,rfl,hn⟩:=fE hk
    have:=jT (p:=p) (k:=n+1) (by exact lk hp rfl) (by lia)
    exact ⟨_,Z6 _ _,this⟩
theorem pb {p s t:PySem.Str} (hp:p.length < 15) (h1:s∈kU p) (h2:t∈kU p) (hl:s.length=t.length):s=t:=by
  obtain ⟨m,hm,rfl⟩:=gD hp h1
  obtain ⟨n,hn,rfl⟩:=gD hp h2
  rw [fk hm,fk hn] at hl
  rw [hl]
noncomputable def cM (K:List Ky) (j:Int):Int:=((atK K j.toNat).2.length:Nat)
noncomputable def di (K:List Ky) (y:Int):List Int:=gt K.length (fun a b=>j2 (atK K a) (atK K b)) y
noncomputable def lH (K:List Ky) (y:Int) (c:List Int):Prop:=∃zs:List Int,c=zs++ [y]∧zs.Perm (di K y)∧zs.Pairwise fun a b=>cM K a < cM K b
theorem i2 {K:List Ky} (hn:K.Nodup) {i j:Nat} (hi:i < K.length) (hj:j < K.length) (e:atK K i=atK K j):i=j:=by
  unfold atK at e
  rw [I1,I1,O0 hi,O0 hj] at e
  have e:K[i]=K[j]:=e
  have pw':=L4.mp hn
  rcases S6 i j with l | l | l
  · exact absurd e (pw' i j hi hj l)
  · exact l
  · exact absurd e.symm (pw' j i hj hi l)
theorem gN {n:Nat} {r:Nat→Nat→Bool} {y j:Int} (h:j∈gt n r y):∃i:Nat,j=i∧i < n∧j≠y∧r i y.toNat=true:=by
  unfold gt at h
  obtain ⟨h1,h2⟩:=R3.mp h
  obtain ⟨i,hi,rfl⟩:=E1.mp h1
  rw [Y5] at h2
  exact ⟨i,rfl,K3.mp hi,by simpa using h2.1,h2.2⟩
theorem dW (n:Nat):(bT n).Nodup:=by
  unfold bT
  have:∀l:List Nat,l.Nodup→(l.map fun (k:Nat)=>(k:Int)).Nodup:=by
    intro l
    induction l with
    | nil=>exact fun _=>I4
    | cons a l ih=>
      intro h
      obtain ⟨h1,h2⟩:=S1.mp h
      refine S1.mpr ⟨fun hm=>?_,ih h2⟩
      obtain ⟨b,hb,e⟩:=E1.mp hm
      have e:(b:Int)=(a:Int):=e
      exact h1 (by have:b=a:=by lia
                   exact this▸hb)
  exact this _ List.nodup_range
theorem fb {α β:Type} {f:α→β}:∀{l:List α},l.Nodup→(∀x∈l,∀y∈l,f x=f y→x=y)→(l.map f).Nodup
  | [],_,_=>I4
  | a::l,h,hf=>by
    obtain ⟨h1,h2⟩:=S1.mp h
    refine S1.mpr ⟨fun hm=>?_,fb h2 fun x hx y hy=>hf x (.tail _ hx) y (.tail _ hy)⟩
    obtain ⟨b,hb,e⟩:=E1.mp hm
    exact h1 (hf b (.tail _ hb) a (.head _) e▸hb)
theorem rQ {K:List Ky} (hn:K.Nodup) {y:Int} (hp:(atK K y.toNat).2.length < 15):((di K y).map (cM K)).Nodup:=by
  refine fb ((dW _).filter _) fun a ha b hb e=>?_
  obtain ⟨i,rfl,hi,_,hc1⟩:=gN ha
  obtain ⟨j,rfl,hj,_,hc2⟩:=gN hb
  unfold j2 at hc1 hc2
  simp only [Y5,decide_eq_true_eq,S4] at hc1 hc2
  unfold cM at e
  rw [W0,W0] at e
  have h2:=pb hp hc1.2 hc2.2 (by lia)
  have h1:atK K i=atK K j:=Prod.ext (hc1.1.trans hc2.1.symm) h2
  rw [i2 hn hi hj h1]
theorem je {ρ:Value→Option Int} {g:Int→Int} {ps:List (Int × Nat)} {ks:List Value} (hr:ks.map (f8 ρ)=ps.map fun q=>g q.1) {qs:List (Value × Value)} (hp:qs.Perm (ks.zip (ps.map iv))) (hs:qs.Pairwise fun p q=>f8 ρ p.1 < f8 ρ q.1):
    ∃zs:List (Int × Nat),qs.map (·.2)=zs.map iv∧zs.Perm ps∧zs.Pairwise fun a b=>g a.1 < g b.1:=by
  have hl:ks.length=ps.length:=by have:=congrArg List.length hr;simpa using this
  have hz:∀q∈qs,∃z:Int × Nat,q.2=iv z∧f8 ρ q.1=g z.1:=by
    intro q hq
    have hq:=hp.mem_iff.mp hq
    obtain ⟨i,hi⟩:=G6.mp hq
    rw [List.getElem?_zip_eq_some] at hi
    obtain ⟨h1,h2⟩:=hi
    rw [V0] at h2
    obtain ⟨z,hz,e⟩:=V2.mp h2
    refine ⟨z,e.symm,?_⟩
    have:=congrArg (fun l:List Int=>l[i]?) hr
    simp only [V0,h1,hz,Y8] at this
    exact Option.some.inj this
  let dec:Value→Int × Nat:=fun v=>match v with | .int a t=>(a,t) | _=>(0,0)
  have hd:∀z:Int × Nat,dec (iv z)=z:=fun _=>rfl
  refine ⟨qs.map fun q=>dec q.2,?_,?_,?_⟩
  · rw [U1]
    refine Z1 fun q hq=>?_
    obtain ⟨z,e,_⟩:=hz q hq
    show q.2=iv (dec q.2)
    rw [e,hd]
  · have h1:=hp.map fun q=>dec q.2
    have e:(ks.zip (ps.map iv)).map (fun q=>dec q.2)=ps:=by
      have:(ks.zip (ps.map iv)).map (fun q=>dec q.2)=((ks.zip (ps.map iv)).map Prod.snd).map dec:=by rw [U1];rfl
      rw [this,List.map_snd_zip (by rw [B0];lia),U1]
      exact (Z1 fun z _=>hd z).trans (B5 _)
    rwa [e] at h1
  · rw [S5]
    refine hs.imp_of_mem fun {a b} ha hb h=>?_
    obtain ⟨z,e1,e2⟩:=hz a ha
    obtain ⟨z',e3,e4⟩:=hz b hb
    rw [e1,e3,hd,hd,←e2,←e4]
    exact h
noncomputable abbrev vC:=Option (Nat × Value × Nat × List Value)
noncomputable def c8:vC→af
  | none=> [(205,br [])]
  | some (k,x,t,l)=> [(205,br [.int 161 0,.int 29 0,.ref k]),(k,gE x t l)]
section
variable {w:World} {b1 b2 b3:Bool} {bel:ag→Prop} {F M:af} {Q:Result→af→Prop}
theorem o7 {ab e f cr k t ct rw re:Nat} {x:Value} {l:List Value} (rs:List Ad) (hok:fy rs) (hrl:rs.length≤20) (hnd:(rs.map Ad.key).Nodup) (y:Nat) (hy:y < rs.length) (ps:List (Int × Nat)) (hps:ps.map (·.1)=di (rs.map Ad.key) y) (hb:∀l,bel l→l.length≤90)
    (hp:([(ab,lst (ps.map iv) e),(f,gz cr k t),(k,gE x ct l),(cr,ac (.ref rw)),(rw,lst (bJ rs) re)]++(bV rs++F)).Perm M)
    (hQ:∀(D de:Nat) (zs:List (Int × Nat)),(zs.map (·.1)).Perm (di (rs.map Ad.key) y)→(zs.map (·.1)).Pairwise (fun a b=>cM (rs.map Ad.key) a < cM (rs.map Ad.key) b)→Q (.ok (.ret (.ref D))) ([(D,lst (zs.map iv) de),(ab,lst (ps.map iv) e),(f,gz cr k t),(k,gE x ct l),(cr,ac (.ref rw)),(rw,lst (bJ rs) re)]++(bV rs++F))):
    Con w b1 b2 b3 bel (.call (.builtin "sorted") ⟨[.ref ab],[(tM,.ref f)]⟩) M Q:=by
  have hvl:(bJ rs).length=rs.length:=B0 _
  have hkl:(rs.map Ad.key).length=rs.length:=B0 _
  have hpl:ps.length≤20:=by
    have h1:=congrArg List.length hps
    rw [B0] at h1
    have h2:(di (rs.map Ad.key) y).length≤(rs.map Ad.key).length:=by
      unfold di gt
      refine M0 (J4 _ _) ?_
      rw [aH];exact S0 _
    lia
  have hgl:((di (rs.map Ad.key) y).map (cM (rs.map Ad.key))).Nodup:=rQ hnd (by
    rw [W0]
    obtain ⟨q,hq⟩:∃q,rs[y]?=some q:=⟨rs[y],O0 hy⟩
    rw [iA hq]
    exact (hok q (J1 hq)).2.2.1)
  refine Con.perm (iF (bel2:=fun l=>l.length≤96) (C:=fun xs L'=>L'= [(ab,lst (ps.map iv) e),(f,gz cr k t),(k,gE x ct l),(cr,ac (.ref rw)),(rw,lst (bJ rs) re)]++(bV rs++F)∧xs=ps.map iv) (fun l h=>by have:=hb l h;exact lk this rfl) (fun c p c' p' l h=>by have:=hb l h;rw [J0,J0];lia) (fun c0 below h=>mK h (by rw [B0];exact lk hpl rfl) (.head _)) ?_) hp
  rintro vs L1 ⟨rfl,rfl⟩
  refine ⟨by rw [B0];lia,fun ks L=>(∃us:List (Int × Nat),ks=us.map iv∧us.map (·.1)=(ps.take ks.length).map fun q=>cM (rs.map Ad.key) q.1)∧L= [(ab,lst (ps.map iv) e),(f,gz cr k t),(k,gE x ct l),(cr,ac (.ref rw)),(rw,lst (bJ rs) re)]++(bV rs++F),⟨⟨[],rfl,rfl⟩,rfl⟩,?_,?_⟩
  · rintro ks v L hv ⟨⟨us,rfl,hus⟩,rfl⟩
    rw [V0] at hv
    obtain ⟨q,hq,rfl⟩:=V2.mp hv
    have hqm:q.1∈di (rs.map Ad.key) y:=by rw [←hps];exact X0 (J1 hq)
    obtain ⟨j,hj,hjl,_⟩:=gN hqm
    rw [hkl] at hjl
    obtain ⟨qj,hqj⟩:∃q,rs[j]?=some q:=⟨rs[j],O0 hjl⟩
    have hqjm:=J1 hqj
    obtain ⟨R,hR⟩:=ed (fun q:Ad=>(q.a,q.obj)) hqjm
    have hR:(bV rs).Perm ((qj.a,aS [.str qj.h qj.t,.str qj.p qj.u])::R):=hR
    have hlen:=(hok qj hqjm).2.2.1
    refine Con.lax (vd f cr k t rw re j qj.a qj.p.length ct x l q.1 q.2 (bJ rs) qj.h qj.p qj.t qj.u hj (ic hqj) (by exact j8 hvl hrl rfl) rfl (by lia) (fun l h=>h) (F:=(ab,lst (ps.map iv) e)::(R++F)) (by exact bk [_,_,_,_,_,_] [_,_,_] (.a (.l [1,2,3,4,0] .z) (.l [5] (.a (.v 1) (.v 2)))) (.a (.l [5,1,2,3,4] .z) (.a (.v 0) (.v 2))) (.l [0] (.v 1)) (.v 0) (hR.symm) rfl) fun N tk=>⟨[(ab,lst (ps.map iv) e),(f,gz cr k t),(k,gE x ct l),(cr,ac (.ref rw)),(rw,lst (bJ rs) re)]++(bV rs++F),[],by exact bk [_,_,_,_,_,_] [_,_,_] (.a (.l [1,2,3,4,0] .z) (.l [5] (.a (.v 1) (.v 2)))) (.a (.a (.l [5,1,2,3,4] .z) (.a (.v 0) (.v 2))) .z) (.l [0] (.v 1)) (.v 0) (hR.symm) rfl,_,rfl,⟨us++ [(((qj.p.length:Nat):Int),tk+3)],by rw [A0];rfl,?_⟩,rfl⟩)
    · obtain ⟨h1,h2⟩:=C1.mp hq
      rw [N0,O1,Y1 h1,A0,A0,hus,h2]
      congr 1
      show [((qj.p.length:Nat):Int)]= [cM (rs.map Ad.key) q.1]
      unfold cM
      rw [hj,W0,iA hqj]
  · rintro ks L hl ⟨⟨us,rfl,hus⟩,rfl⟩ _
    rw [B0,B0] at hl
    rw [B0,hl,C3] at hus
    have hus2:us.map (·.1)=(di (rs.map Ad.key) y).map (cM (rs.map Ad.key)):=by
      rw [hus,←hps,U1];rfl
    refine ⟨yS,oQ us (by rw [hus2];exact hgl),fun qs h1 h2 D de=>?_⟩
    obtain ⟨zs,e1,e2,e3⟩:=je (g:=cM (rs.map Ad.key)) (by rw [U1];exact hus) h1 h2
    rw [e1]
    exact hQ D de zs (by rw [←hps];exact e2.map _) (by rw [S5];exact e3)
end
section
variable {w:World} {b1 b2 b3:Bool} {bel:ag→Prop} {F M:af} {Q:Result→af→Prop}
theorem vb {c:Code} {below:ag} {Q:Flow→af→Prop} {fr cu cp ch ci cr sl ab e rw re ti:Nat} (m:vC) (rs:List Ad) (hok:fy rs) (hrl:rs.length≤20) (hnd:(rs.map Ad.key).Nodup) (y:Nat) (hy:y < rs.length) (ps:List (Int × Nat)) (hps:ps.map (·.1)=di (rs.map Ad.key) y) {F0:Obj} (hF0:FrO w.2 [(sq,.ref sl),(s7,.ref ab)] [] F0) (hb:below.length≤70)
    (hp:([(fr,F0),(ab,lst (ps.map iv) e),(ci,ac (.int y ti)),(cr,ac (.ref rw)),(rw,lst (bJ rs) re)]++(bV rs++(c8 m++F))).Perm M)
    (hQ:∀(D de:Nat) (cs:List (Int × Nat)) (m':vC) (X:af),lH (rs.map Ad.key) y (cs.map (·.1))→Q (.ret (.ref D)) ([(D,lst (cs.map iv) de),(rw,lst (bJ rs) re)]++(bV rs++(c8 m'++(F++X))))):
    Tr w b1 b2 b3 (cx c below) (execs [bn 4] (cf fr cu cp ch ci cr)) M Q:=by
  have fin:∀(D de N1:Nat) (zs:List (Int × Nat)) (m':vC) (X:af),(zs.map (·.1)).Perm (di (rs.map Ad.key) y)→(zs.map (·.1)).Pairwise (fun a b=>cM (rs.map Ad.key) a < cM (rs.map Ad.key) b)→
      Q (.ret (.ref (N1+1))) ([(N1+1,lst (zs.map iv++ [.int y ti]) 0),(rw,lst (bJ rs) re)]++(bV rs++(c8 m'++(F++X)))):=by
    intro D de N1 zs m' X h1 h2
    have h:=hQ (N1+1) 0 (zs++ [((y:Int),ti)]) m' X ⟨zs.map (·.1),by rw [A0];rfl,h1,h2⟩
    rw [A0] at h
    exact h
  have hzl:∀zs:List (Int × Nat),(zs.map (·.1)).Perm (di (rs.map Ad.key) y)→(zs.map iv).length+ [Value.int y ti].length≤1000:=by
    intro zs hz
    have h1:=hz.length_eq
    have h2:(di (rs.map Ad.key) y).length≤(rs.map Ad.key).length:=by
      unfold di gt
      refine M0 (J4 _ _) ?_
      rw [aH];exact S0 _
    rw [B0] at h1 h2⊢
    simp only [J0,Z3]
    lia
  refine Tr.lax ?_
  match m with
  | none=>
    have hp:([(fr,F0),(ab,lst (ps.map iv) e),(ci,ac (.int y ti)),(cr,ac (.ref rw)),(rw,lst (bJ rs) re)]++(bV rs++([(205,br [])]++F))).Perm M:=hp
    refine y7 fr cu cp ch ci cr ab sl hF0 (by exact lk hb rfl) (bel':=fun l=>l.length≤90) (fun l hl=>by exact eA hl hb rfl) (F:= [(ab,lst (ps.map iv) e),(ci,ac (.int y ti)),(cr,ac (.ref rw)),(rw,lst (bJ rs) re)]++(bV rs++F)) (by exact bk [_,_,_,_,_,_] [_,_,_] (.a (.l [0,5] .z) (.a (.l [1,2,3,4] .z) (.a (.v 0) (.v 1)))) (.v 2) (.a (.l [0,1,2,3,4] .z) (.a (.v 0) (.a (.l [5] .z) (.v 1)))) (.v 2) hp rfl) fun N tk hN=>?_
    refine o7 rs hok hrl hnd y hy ps hps (fun l h=>h) (F:= [(205,br [.int 161 0,.int 29 0,.ref (N+6)]),(ci,ac (.int y ti))]++F) (by exact bk [_,_,_,_,_,_,_,_,_,_,_,_] [_,_] (.a (.l [0,1,2,3,4] .z) (.a (.v 0) (.a (.l [5,6] .z) (.v 1)))) (.a (.l [5,7,8] .z) (.a (.l [9,6,10,11] .z) (.a (.v 0) (.v 1)))) (.a (.a (.a (.a (.l [0] .z) (.l [1] .z)) (.l [2] .z)) (.l [3] .z)) (.l [4] .z)) (.a (.a (.a (.a (.l [9] .z) (.l [8] .z)) (.l [7] .z)) (.l [10] .z)) (.l [11] .z)) ((((((((((pe (by rfl))).append ((pe (by rfl))))).append ((pe (by rfl))))).append ((pe (by rfl))))).append ((pe (by rfl))))) rfl) fun D de zs h1 h2=>?_
    refine ⟨D,de,zs.map iv,y,ti,[(205,br [.int 161 0,.int 29 0,.ref (N+6)]),(N+6,gE (.str sn tk) (tk+1) (uZ N tk 161)),(rw,lst (bJ rs) re),(ab,lst (ps.map iv) e),(N+7,gz cr (N+6) (N+0)),(cr,ac (.ref rw))]++(bV rs++F),hzl zs h1,rfl,by exact aO [_,_,_,_,_,_,_,_] [_,_] (.a (.l [0,1] .z) (.a (.l [2,3,4,5,6,7] .z) (.a (.v 0) (.v 1)))) (.a (.l [0,5,6,3,7,4] .z) (.a (.v 0) (.a (.l [2,1] .z) (.v 1)))) rfl,fun N1 tk1=>?_⟩
    have h:Q (.ret (.ref (N1+1))) ([(N1+1,lst (zs.map iv++ [.int y ti]) 0),(rw,lst (bJ rs) re)]++(bV rs++([(205,br [.int 161 0,.int 29 0,.ref (N+6)]),(N+6,gE (.str sn tk) (tk+1) (uZ N tk 161))]++(F++ [(ab,lst (ps.map iv) e),(N+7,gz cr (N+6) (N+0)),(cr,ac (.ref rw))])))):=fin D de N1 zs (some (N+6,.str sn tk,tk+1,uZ N tk 161)) [(ab,lst (ps.map iv) e),(N+7,gz cr (N+6) (N+0)),(cr,ac (.ref rw))] h1 h2
    exact ⟨_,[],by exact aO [_,_,_,_,_,_,_] [_,_] (.a (.l [0] .z) (.a (.l [1,2,3,4,5,6] .z) (.a (.v 0) (.v 1)))) (.a (.a (.l [0,3] .z) (.a (.v 0) (.a (.l [1,2] .z) (.a (.v 1) (.l [4,5,6] .z))))) .z) rfl,h⟩
  | some (k,x,t,l)=>
    have hp:([(fr,F0),(ab,lst (ps.map iv) e),(ci,ac (.int y ti)),(cr,ac (.ref rw)),(rw,lst (bJ rs) re)]++(bV rs++([(205,br [.int 161 0,.int 29 0,.ref k]),(k,gE x t l)]++F))).Perm M:=hp
    refine y6 fr cu cp ch ci cr ab sl k hF0 (by exact lk hb rfl) (bel':=fun l=>l.length≤90) (fun l hl=>by exact eA hl hb rfl) (F:= [(ab,lst (ps.map iv) e),(ci,ac (.int y ti)),(cr,ac (.ref rw)),(rw,lst (bJ rs) re),(k,gE x t l)]++(bV rs++F)) (by exact bk [_,_,_,_,_,_,_] [_,_,_] (.a (.l [0,5] .z) (.a (.l [1,2,3,4,6] .z) (.a (.v 0) (.v 1)))) (.v 2) (.a (.l [0,1,2,3,4] .z) (.a (.v 0) (.a (.l [5,6] .z) (.v 1)))) (.v 2) hp rfl) fun N tk hN=>?_
    refine o7 rs hok hrl hnd y hy ps hps (fun l h=>h) (F:= [(205,br [.int 161 0,.int 29 0,.ref k]),(ci,ac (.int y ti))]++F) (by exact bk [_,_,_,_,_,_,_,_,_,_,_,_] [_,_] (.a (.l [0,1,2,3,4] .z) (.a (.v 0) (.a (.l [5,6] .z) (.v 1)))) (.a (.l [5,7] .z) (.a (.l [8,6,9,10,11] .z) (.a (.v 0) (.v 1)))) (.a (.a (.a (.a (.l [0] .z) (.l [1] .z)) (.l [2] .z)) (.l [3] .z)) (.l [4] .z)) (.a (.a (.a (.a (.l [8] .z) (.l [7] .z)) (.l [11] .z)) (.l [9] .z)) (.l [10] .z)) ((((((((((pe (by rfl))).append ((pe (by rfl))))).append ((pe (by rfl))))).append ((pe (by rfl))))).append ((pe (by rfl))))) rfl) fun D de zs h1 h2=>?_
    refine ⟨D,de,zs.map iv,y,ti,[(205,br [.int 161 0,.int 29 0,.ref k]),(k,gE x t l),(rw,lst (bJ rs) re),(ab,lst (ps.map iv) e),(N+1,gz cr k (N+0)),(cr,ac (.ref rw))]++(bV rs++F),hzl zs h1,rfl,by exact aO [_,_,_,_,_,_,_,_] [_,_] (.a (.l [0,1] .z) (.a (.l [2,3,4,5,6,7] .z) (.a (.v 0) (.v 1)))) (.a (.l [0,5,6,3,7,4] .z) (.a (.v 0) (.a (.l [2,1] .z) (.v 1)))) rfl,fun N1 tk1=>?_⟩
    have h:Q (.ret (.ref (N1+1))) ([(N1+1,lst (zs.map iv++ [.int y ti]) 0),(rw,lst (bJ rs) re)]++(bV rs++([(205,br [.int 161 0,.int 29 0,.ref k]),(k,gE x t l)]++(F++ [(ab,lst (ps.map iv) e),(N+1,gz cr k (N+0)),(cr,ac (.ref rw))])))):=fin D de N1 zs (some (k,x,t,l)) [(ab,lst (ps.map iv) e),(N+1,gz cr k (N+0)),(cr,ac (.ref rw))] h1 h2
    exact ⟨_,[],by exact aO [_,_,_,_,_,_,_] [_,_] (.a (.l [0] .z) (.a (.l [1,2,3,4,5,6] .z) (.a (.v 0) (.v 1)))) (.a (.a (.l [0,3] .z) (.a (.v 0) (.a (.l [1,2] .z) (.a (.v 1) (.l [4,5,6] .z))))) .z) rfl,h⟩
theorem ro {rw re ti:Nat} (m:vC) (rs:List Ad) (hok:fy rs) (hrl:rs.length≤20) (hnd:(rs.map Ad.key).Nodup) (y:Nat) (hy:y < rs.length) (hb:∀l,bel l→l.length≤50)
    (hp:([(rw,lst (bJ rs) re)]++(bV rs++(c8 m++F))).Perm M)
    (hQ:∀(D de:Nat) (cs:List (Int × Nat)) (m':vC) (X:af),lH (rs.map Ad.key) y (cs.map (·.1))→Q (.ok (.ret (.ref D))) ([(D,lst (cs.map iv) de),(rw,lst (bJ rs) re)]++(bV rs++(c8 m'++(F++X))))):
    Con w b1 b2 b3 bel (.call (.ref jc) ⟨[.ref rw,.int y ti],[]⟩) M Q:=by
  have hb':∀l,bel l→l.length≤96:=fun l h=>by have:=hb l h;exact lk this rfl
  have hvl:(bJ rs).length=rs.length:=B0 _
  obtain ⟨qy,hqy⟩:∃q,rs[y]?=some q:=⟨rs[y],O0 hy⟩
  have hqym:=J1 hqy
  obtain ⟨R,hR⟩:=ed (fun q:Ad=>(q.a,q.obj)) hqym
  have hR:(bV rs).Perm ((qy.a,aS [.str qy.h qy.t,.str qy.p qy.u])::R):=hR
  have hlen:=(hok qy hqym).2.2.1
  refine vf rw y ti hb' (F:=M) (E0 _) fun N tk F0 hN hF0=>?_
  generalize N+0=fr at *
  generalize N+1=cr at *
  generalize N+2=ci at *
  generalize N+3=ch at *
  generalize N+4=cp at *
  generalize N+5=cu at *
  refine Con.func fun below ao=>?_
  have hbl:=hb _ ao
  refine Tr.lax ?_
  refine Tr.cons (yb fr cu cp ch ci cr rw re y qy.a (bJ rs) y ti qy.h qy.p qy.t qy.u rfl (ic hqy) (by exact j8 hvl hrl rfl) hF0 (by exact lk hbl rfl) (F:=(cu,bf none)::(R++(c8 m++F))) (by exact bk [_,_,_,_,_,_,_,_] [_,_,_,_,_] (.a (.l [2,3,4,0,1,5,6] .z) (.l [7] (.a (.v 4) (.a (.v 1) (.v 2))))) (.a (.l [2,3,4,5,6,7] .z) (.v 3)) (.a (.a (.l [0] .z) (.a (.v 0) (.a (.v 1) (.v 2)))) (.l [1] (.v 4))) (.a (.v 3) (.v 0)) ((hp.append (hR.symm))) rfl) fun N1 tk1 F1 hF1=>?_)
  refine .inl ⟨rfl,?_⟩
  refine Tr.app (a:= [bn 1,bn 2]) (rest:= [bn 3,bn 4]) (vc qy.p qy.u hlen hF1 (by exact lk hbl rfl) (F:= [(cr,ac (.ref rw)),(ci,ac (.int y ti)),(rw,lst (bJ rs) re),(ch,ac (.str qy.h qy.t))]++(bV rs++(c8 m++F))) (by exact bk [_,_,_,_,_,_,_,_] [_,_,_,_] (.a (.l [1,2,3] .z) (.a (.l [4,5,6,7] .z) (.a (.v 0) (.a (.v 2) (.v 3))))) (.a (.l [1,4,5,6,0,7,2] .z) (.l [3] (.a (.v 1) (.a (.v 2) (.v 3))))) (.v 0) (.l [0] (.v 1)) hR rfl) fun sl cw ce vs F2 X hvs hF2=>?_)
  refine .inl ⟨rfl,?_⟩
  refine Tr.cons (y8 fr cu cp ch ci cr rw re sl (bJ rs) (by exact j8 hvl hrl rfl) hF2 (by exact lk hbl rfl) (bel':=fun l=>l.length≤90) (fun l hl=>by exact eA hl hbl rfl) (F:= [(cp,ac (.str qy.p qy.u)),(cu,ac (.ref cw)),(cw,lst (vs.map sv) ce),(ci,ac (.int y ti)),(ch,ac (.str qy.h qy.t))]++(bV rs++(c8 m++(F++X)))) (by exact aO [_,_,_,_,_,_,_,_] [_,_,_,_] (.a (.l [0,1,2] .z) (.a (.l [3,4,5,6,7] .z) (.a (.v 0) (.a (.v 1) (.a (.v 2) (.v 3)))))) (.a (.l [0,3,4,5] .z) (.a (.a (.l [1,6,2,7] .z) (.a (.v 0) (.a (.v 1) (.v 2)))) (.v 3))) rfl) fun N3 tk3 F3 D3 hN3 hF3 vM=>?_)
  rw [hvl]
  refine xq rs hrl y ti hy hqy vs hvs qy.t vM (fun l h=>h) (F:= [(fr,F3),(cp,ac (.str qy.p qy.u))]++(c8 m++(F++X))) (by exact bk [_,_,_,_,_,_,_,_,_,_,_,_,_,_,_] [_,_,_,_] (.a (.l [0,1,2,3,4,5,6,7,8] .z) (.a (.v 0) (.a (.l [9,10] .z) (.a (.v 1) (.a (.v 2) (.v 3)))))) (.a (.l [9,11,12,0,1,2] .z) (.a (.l [10,13,14,3,6] .z) (.a (.v 0) (.a (.v 1) (.a (.v 2) (.v 3)))))) (.a (.a (.a (.l [4] .z) (.l [5] .z)) (.l [7] .z)) (.l [8] .z)) (.a (.a (.a (.l [11] .z) (.l [12] .z)) (.l [13] .z)) (.l [14] .z)) ((((((((pe (by rfl))).append ((pe (by rfl))))).append ((pe (by rfl))))).append ((pe (by rfl))))) rfl) fun ps ep D4 zq hps=>?_
  refine ⟨D4,F3,[(N3+2,lst (ps.map iv) ep),(ci,ac (.int y ti)),(cr,ac (.ref rw)),(rw,lst (bJ rs) re),(ch,ac (.str qy.h qy.t)),(cu,ac (.ref cw)),(cw,lst (vs.map sv) ce),(cp,ac (.str qy.p qy.u))]++(bV rs++(c8 m++(F++X))),rfl,zq,hF3,by exact aO [_,_,_,_,_,_,_,_,_,_] [_,_,_,_] (.a (.l [0,1] .z) (.a (.l [2,3,4,5,6,7,8,9] .z) (.a (.v 0) (.a (.v 1) (.a (.v 2) (.v 3)))))) (.a (.l [2,0,3,4,5,6,7,8] .z) (.a (.v 0) (.a (.l [1,9] .z) (.a (.v 1) (.a (.v 2) (.v 3)))))) rfl,fun N5 tk5 F5 hF5=>?_⟩
  refine .inl ⟨rfl,?_⟩
  refine vb m rs hok hrl hnd y hy ps (by unfold di;rw [B0];exact hps) hF5 (by exact lk hbl rfl) (F:= [(ch,ac (.str qy.h qy.t)),(cu,ac (.ref cw)),(cw,lst (vs.map sv) ce),(cp,ac (.str qy.p qy.u))]++(F++X)) (by exact bk [_,_,_,_,_,_,_,_,_,_,_,_,_] [_,_,_,_] (.a (.l [0,1,2,3,4] .z) (.a (.v 0) (.a (.v 1) (.a (.l [5,6,7,8] .z) (.a (.v 2) (.v 3)))))) (.a (.l [0] .z) (.a (.l [9,10,11,12,5,6,7,8] .z) (.a (.v 0) (.a (.v 1) (.a (.v 2) (.v 3)))))) (.a (.a (.a (.l [1] .z) (.l [2] .z)) (.l [3] .z)) (.l [4] .z)) (.a (.a (.a (.l [9] .z) (.l [10] .z)) (.l [11] .z)) (.l [12] .z)) ((((((((pe (by rfl))).append ((pe (by rfl))))).append ((pe (by rfl))))).append ((pe (by rfl))))) rfl) fun D de cs m' X' hc=>?_
  have h:=hQ D de cs m' ([(ch,ac (.str qy.h qy.t)),(cu,ac (.ref cw)),(cw,lst (vs.map sv) ce),(cp,ac (.str qy.p qy.u))]++(X++X')) hc
  exact ⟨_,[],by exact aO [_,_,_,_,_,_] [_,_,_,_,_] (.a (.l [0,1] .z) (.a (.v 0) (.a (.v 1) (.a (.a (.l [2,3,4,5] .z) (.a (.v 2) (.v 3))) (.v 4))))) (.a (.a (.l [0,1] .z) (.a (.v 0) (.a (.v 1) (.a (.v 2) (.a (.l [2,3,4,5] .z) (.a (.v 3) (.v 4))))))) .z) rfl,h⟩
end
section
variable {w:World} {b1 b2 b3:Bool} {bel bel':ag→Prop} {c:Code} {below:ag} {F M:af}
noncomputable abbrev bc (fr cc cm cz cr:Nat):Env:={uE fr with cells:= [(s1q,cc),(s1p,cm),((S [115,105,122,101]),cz),(sM,cr)]}
noncomputable abbrev hW:Expr:=dI (bN 3)
noncomputable abbrev r7 (fr lc ci cz cr cm:Nat):Env:={scope:=inl (bD hW),locals:=lc,globals:=3,cells:= [(sy,ci),((S [115,105,122,101]),cz),(sM,cr),(s1p,cm)],qual:=iI++".<locals>.",func:=none,code:=.ref o8,frame:=some fr,builtins:=0}
noncomputable abbrev zm:Expr:=.ListComp (dj hW) [⟨.Name sy (dm (aL hW) 0),pD (aL hW) 0,[],0⟩] (bD hW) (j3 hW)
noncomputable abbrev vW (it acc:Nat) (fr lc ci cz cr cm:Nat):Code:=.compStart zm 0 (.ref it) (.ref acc) (r7 fr lc ci cz cr cm)
noncomputable abbrev em:Expr:=dj hW
noncomputable abbrev jJ (fr lc cr cm ci:Nat):Env:={scope:=inl (bD em),locals:=lc,globals:=3,cells:= [(sM,cr),(s1p,cm),(sy,ci)],qual:=iI++".<locals>.",func:=none,code:=.ref o8,frame:=some fr,builtins:=0}
noncomputable abbrev zk:Expr:=.ListComp (dj em) [⟨.Name fF (dm (aL em) 0),pD (aL em) 0,[jF (aL em) 0],0⟩] (bD em) (j3 em)
noncomputable abbrev vV (it acc:Nat) (fr lc cr cm ci:Nat):Code:=.compStart zk 0 (.ref it) (.ref acc) (jJ fr lc cr cm ci)
noncomputable abbrev iV:Expr:=dI (bN 4)
noncomputable abbrev r6 (fr lc cr:Nat):Env:={scope:=inl (bD iV),locals:=lc,globals:=3,cells:= [(sM,cr)],qual:=iI++".<locals>.",func:=none,code:=.ref o8,frame:=some fr,builtins:=0}
noncomputable abbrev zj:Expr:=.ListComp (dj iV) [⟨.Name sy (dm (aL iV) 0),pD (aL iV) 0,[],0⟩] (bD iV) (j3 iV)
noncomputable abbrev vU (it acc:Nat) (fr lc cr:Nat):Code:=.compStart zj 0 (.ref it) (.ref acc) (r6 fr lc cr)
noncomputable abbrev za:Expr:=kwV (dI (bN 5))
noncomputable abbrev lm_w:Expr:=kwV (dI (bN 6))
noncomputable abbrev im (cc c t:Nat):Obj:=xg za iI [(s1q,cc)] c t
noncomputable abbrev mo (cc c t:Nat):Obj:=xg lm_w iI [(s1q,cc)] c t
noncomputable def nw (N tk line:Nat):List Value:= [.str kN (tk+4),.int line 0,.int 1 0,.int 0 0,.int 0 0,.int 19 0,.ref (N+2),.bool true,.int 181 0,.ref (N+3),.none,.none,.none,.ref (N+4),.int (tk+6:Nat) 0,.int line 0,.str kN (tk+7)]
noncomputable def v8 (N tk line:Nat):List Value:= [.str kN (tk+4),.int line 0,.int 1 0,.int 0 0,.int 0 0,.int 19 0,.ref (N+2),.bool true,.int 181 0,.ref (N+3),.none,.ref (N+4),.ref (N+5),.ref (N+6),.int (tk+7:Nat) 0,.int line 0,.str kN (tk+8)]
noncomputable abbrev eM (x:Value) (t:Nat) (l:List Value):Obj:=zA x (xf iI) t l
noncomputable abbrev iU:Expr:=lmB za
noncomputable abbrev r5 (fr lc co:Nat):Env:={scope:=bD iU,locals:=lc,globals:=3,cells:= [],qual:=xf iI++".<locals>.",func:=none,code:=.ref co,frame:=some fr,builtins:=0}
noncomputable abbrev zi:Expr:=.ListComp (dj iU) [⟨.Name fF (dm (aL iU) 0),pD (aL iU) 0,[],0⟩] (bD iU) (j3 iU)
noncomputable abbrev zz (it acc:Nat) (fr lc co:Nat):Code:=.compStart zi 0 (.ref it) (.ref acc) (r5 fr lc co)
theorem ug (sc:Nat) {Q:Result→af→Prop} (hb:∀l,bel l→l.length≤96) (hp:([]++F).Perm M) (H:∀(N tk:Nat) (aq:Obj),aJ≤N→FrO w.2 [(sf,.ref sc)] [] aq→Con w b1 b2 b3 bel (.func [bN 0,bN 1,bN 2,bN 3,bN 4,bN 5,bN 6,bN 7] (bc (N+0) (N+4) (N+3) (N+2) (N+1))) ([(N+0,aq),(N+1,bf none),(N+2,bf none),(N+3,bf none),(N+4,bf none)]++F) Q):Con w b1 b2 b3 bel (.call (.ref rS) ⟨[.ref sc],[]⟩) M Q:=
  Con.of fun below p ao=>aK fun N tk hN=>Stp.loop [1,0,1,1,0] [0,1,2,3,4] [] _ 5 1 _ hp (hb _ ao) (fun hap=>a8) rfl (by rfl) ao (H N tk _ hN (fO (bL id 0 [tk+0]) 1 (#[]))) (rl (by kernel_rfl!))
theorem xc (fr cc cm cz cr sc:Nat) (vs:List Value) (ve:Nat) (hl:vs.length≤16777216) {al:Obj} (ai:FrO w.2 [(sf,.ref sc)] [] al) {Q:Flow→af→Prop} (hb:below.length≤96) (au:∀l:ag,l.length≤below.length+9→bel' l) (hp:([(fr,al),(sc,lst vs ve),(cr,bf none)]++F).Perm M) (H:∀(N tk:Nat) (aq:Obj),aJ≤N→FrO w.2 [(sf,.ref sc)] [] aq→Con w b1 b2 b3 bel' (.call (.ref eG) ⟨[.ref (N+3)],[]⟩) ([(fr,aq),(sc,lst vs ve),(cr,bf none),(N+3,lst ([.int 2 tk,.int 1 (tk+1)]++vs.take 14) 0)]++F) fun r L₂=>∃(rw:Nat) (X1:af),r= .ok (.ret (.ref rw))∧([(cr,bf none)]++X1).Perm L₂∧(∀(N1 tk1:Nat),Q (.next) ([(cr,ac (.ref rw))]++X1))):Tr w b1 b2 b3 (cx c below) (execs [bN 0] (bc fr cc cm cz cr)) M Q:=
  Tr.st fun p=>aZ ai hp fun aw ah aj av=>aK fun N tk hN=>Stp.at [0,1,2,2,2,1,4,6,4,2,0] [0,1,2,6] [nG 1 4 sc (N+1) vs ve none (some (14,tk+2)) (vs.take 14) (N+2),ji 3 5 N (N+2) [.int 2 tk,.int 1 (tk+1)] (vs.take 14) 0 0 (N+3)] _ 4 3 _ av aa hb (fun hap=>a9 (dN _ _ _ _ _ _ hl (oF vs 14)) (a9 (dB _ _ _ _ _ (by rw [C4];simp only [J0,Z3];omega)) a8)) rfl au (H N tk _ hN (fO aw ah aj)) (fun r L₂ hq=>oU hq fun rw X1 hh1=>c9 hh1.1 fun aQ N1 tk1 hN=>Stp.fin [1,1] [0] [] _ 0 0 _ hh1.2.1 aQ hb (fun hap=>a8) rfl ⟨_,rfl,(hh1.2.2 N1 tk1)⟩ (rf (by kernel_rfl!))) (ra (by kernel_rfl!))
theorem xb (fr cc cm cz cr sc:Nat) (rw re:Nat) (vs:List Value) (hl:vs.length≤1000) {al:Obj} (ai:FrO w.2 [(sf,.ref sc)] [] al) {Q:Flow→af→Prop} (hb:below.length≤96) (hp:([(fr,al),(cr,ac (.ref rw)),(rw,lst vs re),(cz,bf none)]++F).Perm M) (H:∀(N tk:Nat) (aq:Obj),FrO w.2 [(sf,.ref sc)] [] aq→Q (.next) ([(fr,aq),(cr,ac (.ref rw)),(rw,lst vs re),(cz,ac (.int (vs.length:Nat) (tk+1)))]++F)):Tr w b1 b2 b3 (cx c below) (execs [bN 1] (bc fr cc cm cz cr)) M Q:=
  Tr.st fun p=>aZ ai hp fun aw ah aj av=>aK fun N tk hN=>Stp.fin [0,0,2,1,4,4] [0,1,2,3] [iD 2 rw vs re tk] _ 0 2 _ av aa hb (fun hap=>a9 (bR _ _ _ hl) a8) rfl ⟨_,rfl,(H N tk _ (fO aw ah aj))⟩ (rf (by kernel_rfl!))
theorem xa (fr cc cm cz cr sc:Nat) {al:Obj} (ai:FrO w.2 [(sf,.ref sc)] [] al) {Q:Flow→af→Prop} (hb:below.length≤96) (au:∀l:ag,l.length≤below.length+9→bel' l) (hp:([(fr,al),(cm,bf none)]++F).Perm M) (H:∀(N tk:Nat) (aq:Obj),aJ≤N→FrO w.2 [(sf,.ref sc)] [] aq→Con w b1 b2 b3 bel' (.call (.ref aPM) ⟨[],[]⟩) ([(fr,aq),(cm,bf none)]++F) fun r L₂=>∃(mg:Nat) (X1:af),r= .ok (.ret (.ref mg))∧([(cm,bf none)]++X1).Perm L₂∧(∀(N1 tk1:Nat),Q (.next) ([(cm,ac (.ref mg))]++X1))):Tr w b1 b2 b3 (cx c below) (execs [bN 2] (bc fr cc cm cz cr)) M Q:=
  Tr.st fun p=>aZ ai hp fun aw ah aj av=>aK fun N tk hN=>Stp.at [0,0,0] [0,1] [] _ 0 0 _ av aa hb (fun hap=>a8) rfl au (H N tk _ hN (fO aw ah aj)) (fun r L₂ hq=>oU hq fun mg X1 hh1=>c9 hh1.1 fun aQ N1 tk1 hN=>Stp.fin [1,1] [0] [] _ 0 0 _ hh1.2.1 aQ hb (fun hap=>a8) rfl ⟨_,rfl,(hh1.2.2 N1 tk1)⟩ (rf (by kernel_rfl!))) (ra (by kernel_rfl!))
theorem x9 (fr cc cm cz cr sc:Nat) (z:Int) (tz:Nat) (hz:0≤z∧z≤1000) {al:Obj} (ai:FrO w.2 [(sf,.ref sc)] [] al) {Q:Flow→af→Prop} (hb:below.length≤96) (au:∀l:ag,l.length≤below.length+9→bel' l) (hp:([(fr,al),(cz,ac (.int z tz))]++F).Perm M) (H:∀(N tk:Nat) (aq:Obj) (mW:Obj),aJ≤N→FrO w.2 [(sf,.ref sc)] [] aq→bx w.2 [] [] mW→Con w b1 b2 b3 bel' (vW (N+1) (N+2) fr (N+3) (N+4) cz cr cm) ([(fr,aq),(cz,ac (.int z tz)),(N+1,cN 0 z),(N+2,lst [] 0),(N+3,mW),(N+4,bf none)]++F) fun r L₂=>∃(cb:Obj) (fT:Obj) (X1:af),r= .ok .next∧bx w.2 [] [] cb∧FrO w.2 [(sf,.ref sc)] [] fT∧([((N+3),cb),(fr,fT)]++X1).Perm L₂∧(∀(N1 tk1:Nat) (k9:Obj),FrO w.2 [(sf,.ref sc),(s7,.ref (N+2))] [] k9→Q (.next) ([(fr,k9)]++X1))):Tr w b1 b2 b3 (cx c below) (execs [bN 3] (bc fr cc cm cz cr)) M Q:=
  Tr.st fun p=>aZ ai hp fun aw ah aj av=>aK fun N tk hN=>Stp.at [0,0,2,0,0,3,3,0,3,3,3,3,1,4] [0,1,3,4,5,6] [jh 2 N 0 z z tk tz (tk+1) (N+1)] _ 5 2 _ av aa hb (fun hap=>a9 (b9 0 z z _ _ _ _ ⟨by decide,by decide⟩ hz (by split<;>omega)) a8) rfl au (H N tk _ _ hN (fO aw ah aj) (dO (bL id 0 []) 0)) (fun r L₂ hq=>pE hq fun cb fT X1 hh1=>cR hh1.2.1 hh1.2.2.2.1 fun eP bZ bO=>jG hh1.2.2.1 bO fun jQ d8 d7 bO=>c9 hh1.1 fun aQ N1 tk1 hN=>Stp.fin [2,2] [1] [] _ 0 1 _ bO aQ hb (fun hap=>a8) rfl ⟨_,rfl,(hh1.2.2.2.2 N1 tk1 _ (fO (bL jQ 1 [tk1+0]) (d8+1) d7))⟩ (rf (by kernel_rfl!))) (ra (by kernel_rfl!))
theorem x8 (fr cc cm cz cr sc:Nat) (ab:Nat) (z:Int) (tz:Nat) (hz:0≤z∧z≤1000) {al:Obj} (ai:FrO w.2 [(sf,.ref sc),(s7,.ref ab)] [] al) {Q:Flow→af→Prop} (hb:below.length≤96) (au:∀l:ag,l.length≤below.length+9→bel' l) (hp:([(fr,al),(cz,ac (.int z tz))]++F).Perm M) (H:∀(N tk:Nat) (aq:Obj) (mW:Obj),aJ≤N→FrO w.2 [(sf,.ref sc),(s7,.ref ab)] [] aq→bx w.2 [] [[sy]] mW→Con w b1 b2 b3 bel' (vU (N+1) (N+2) fr (N+3) cr) ([(fr,aq),(cz,ac (.int z tz)),(N+1,cN 0 z),(N+2,lst [] 0),(N+3,mW)]++F) fun r L₂=>∃(cb:Obj) (fT:Obj) (X1:af),r= .ok .next∧bx w.2 [] [[sy]] cb∧FrO w.2 [(sf,.ref sc),(s7,.ref ab)] [] fT∧([((N+3),cb),(fr,fT),(cc,bf none)]++X1).Perm L₂∧(∀(N1 tk1:Nat) (k9:Obj),FrO w.2 [(sf,.ref sc),(s7,.ref ab)] [] k9→Q (.next) ([(fr,k9),(cc,ac (.ref (N+2)))]++X1))):Tr w b1 b2 b3 (cx c below) (execs [bN 4] (bc fr cc cm cz cr)) M Q:=
  Tr.st fun p=>aZ ai hp fun aw ah aj av=>aK fun N tk hN=>Stp.at [0,0,2,0,0,3,3,0,3,3,3,3,1,4] [0,1,3,4,5] [jh 2 N 0 z z tk tz (tk+1) (N+1)] _ 4 2 _ av aa hb (fun hap=>a9 (b9 0 z z _ _ _ _ ⟨by decide,by decide⟩ hz (by split<;>omega)) a8) rfl au (H N tk _ _ hN (fO aw ah aj) (dO (bL id 0 []) 0)) (fun r L₂ hq=>pE hq fun cb fT X1 hh1=>du hh1.2.1 (fun h10=>cR h10 hh1.2.2.2.1 fun eP bZ bO=>jG hh1.2.2.1 bO fun jQ d8 d7 bO=>c9 hh1.1 fun aQ N1 tk1 hN=>Stp.fin [1,3,3] [1,2] [] _ 0 0 _ bO aQ hb (fun hap=>a8) rfl ⟨_,rfl,(hh1.2.2.2.2 N1 tk1 _ (fO jQ d8 d7))⟩ (rf (by kernel_rfl!))) (fun o10_0 h10=>cR h10 hh1.2.2.2.1 fun eP bZ bO=>jG hh1.2.2.1 bO fun jQ d8 d7 bO=>c9 hh1.1 fun aQ N1 tk1 hN=>Stp.fin [1,1,1,3,3] [1,2] [] _ 0 0 _ bO aQ hb (fun hap=>a8) rfl ⟨_,rfl,(hh1.2.2.2.2 N1 tk1 _ (fO jQ d8 d7))⟩ (rf (by kernel_rfl!)))) (ra (by kernel_rfl!))
theorem uf {Q:Result→af→Prop} (hb:∀l,bel l→l.length≤96) (hp:([]++F).Perm M) (H:∀(N tk:Nat),Q (.ok (.ret (.ref (N+1)))) ([(N+0,jx [aE w.2 s1m (tk+2) (.ref (N+3))] 1),(N+1,⟨.ref 67,some (N+0),.plain,#[]⟩)]++F)):Con w b1 b2 b3 bel (.call (.ref aPM) ⟨[],[]⟩) M Q:=
  Con.of fun below p ao=>aK fun N tk hN=>Stp.fin [0,0,0,0,0,0,0,0,0,0,0,0,0,0,0,0,0,0,0,0,0,0,0,2,0,2,0,0,0,0,0,1,0,3,3,0,0,3,2,0,0,0,0,2,0,2,0,2,0,0,0,2,0,1,1,1] [0,1] [] _ 4 3 _ hp aa (hb _ ao) (fun hap=>a8) rfl (H N tk) (rf (by kernel_rfl!))
theorem yv (fr lc ci cz cr cm:Nat) (oc:Option Value) (x:Int) (tx:Nat) (z:Int) (tz:Nat) (hz:0≤z∧z≤1000) {al:Obj} (ai:bx w.2 [] [] al) {Q:Value→af→Prop} (hb:below.length≤96) (au:∀l:ag,l.length≤below.length+9→bel' l) (hp:([(lc,al),(cz,ac (.int z tz)),(ci,bf oc)]++F).Perm M) (H:∀(N tk:Nat) (aq:Obj) (zI:Obj),aJ≤N→bx w.2 [] [] aq→bx w.2 [] [[fF]] zI→Con w b1 b2 b3 bel' (vV (N+1) (N+2) fr (N+3) cr cm ci) ([(lc,aq),(cz,ac (.int z tz)),(ci,ac (.int x tx)),(N+1,cN 0 z),(N+2,lst [] 0),(N+3,zI)]++F) fun r L₂=>∃(cb:Obj) (X1:af),r= .ok .next∧bx w.2 [] [[fF]] cb∧([((N+3),cb)]++X1).Perm L₂∧(∀(N1 tk1:Nat),Q (.ref (N+2)) ([]++X1))):Tr w b1 b2 b3 (cx c below) (assign (.Name sy (dm (aL hW) 0)) (r7 fr lc ci cz cr cm) (.int x tx)>>=fun _=>eval (dj hW) (r7 fr lc ci cz cr cm)) M Q:=
  Tr.asEv fun p=>cR ai hp fun aw ah av=>aK fun N tk hN=>Stp.at [3,3,0,0,2,0,0,4,4,0,4,4,4,4,1,5] [0,1,2,4,5,6] [jh 3 N 0 z z tk tz (tk+1) (N+1)] _ 4 2 _ av aa hb (fun hap=>a9 (b9 0 z z _ _ _ _ ⟨by decide,by decide⟩ hz (by split<;>omega)) a8) rfl au (H N tk _ _ hN (dO (bL id 0 []) ah) (dO (bL id 0 []) 0)) (fun r L₂ hq=>oU hq fun cb X1 hh1=>du hh1.2.1 (fun h10=>cR h10 hh1.2.2.1 fun eP bZ bO=>c9 hh1.1 fun aQ N1 tk1 hN=>Stp.fin [1] [] [] _ 0 0 [] bO aQ hb (fun hap=>a8) rfl ⟨_,rfl,(hh1.2.2.2 N1 tk1)⟩ (rf (by kernel_rfl!))) (fun o10_0 h10=>cR h10 hh1.2.2.1 fun eP bZ bO=>c9 hh1.1 fun aQ N1 tk1 hN=>Stp.fin [1,1,1] [] [] _ 0 0 [] bO aQ hb (fun hap=>a8) rfl ⟨_,rfl,(hh1.2.2.2 N1 tk1)⟩ (rf (by kernel_rfl!)))) (ra (by kernel_rfl!))
theorem yk (fr lc cr cm ci:Nat) (x:Int) (tx:Nat) (y:Int) (ty:Nat) (β:Bool) (h0:(x !=y)=β) {al:Obj} (ai:bx w.2 [] [[fF]] al) {Q:Bool→af→Prop} (hb:below.length≤96) (hp:([(lc,al),(ci,ac (.int y ty))]++F).Perm M) (H:∀(N tk:Nat) (aq:Obj),bx w.2 [(fF,.int x tx)] [] aq→Q (β) ([(lc,aq),(ci,ac (.int y ty))]++F)):Tr w b1 b2 b3 (cx c below) (assign (.Name fF (dm (aL em) 0)) (jJ fr lc cr cm ci) (.int x tx)>>=fun _=>isTrue (bA (jF (aL em) 0) 0) (jJ fr lc cr cm ci) (eval (bA (jF (aL em) 0) 0) (jJ fr lc cr cm ci))) M Q:=
  Tr.asIt fun p=>du ai (fun h00=>cR h00 hp fun aw ah av=>aK fun N tk hN=>Stp.fin [1,1,1,2,1] [0,1] [yF x y tx ty β] _ 0 1 _ av aa hb (fun hap=>a9 (fo _ _ _ _ _ h0) a8) rfl ⟨_,rfl,(H N tk _ (dO (bL id 0 [tk+0]) (ah+1)))⟩ (rf (by kernel_rfl!))) (fun o00_0 h00=>cR h00 hp fun aw ah av=>aK fun N tk hN=>Stp.fin [1,1,1,2,1] [0,1] [yF x y tx ty β] _ 0 1 _ av aa hb (fun hap=>a9 (fo _ _ _ _ _ h0) a8) rfl ⟨_,rfl,(H N tk _ (dO aw ah))⟩ (rf (by kernel_rfl!)))
theorem yl (fr lc cr cm ci:Nat) (x:Int) (tx:Nat) {al:Obj} (ai:bx w.2 [(fF,.int x tx)] [] al) {Q:Value→af→Prop} (hb:below.length≤96) (hp:([(lc,al)]++F).Perm M) (H:∀(N tk:Nat) (aq:Obj),bx w.2 [] [[fF]] aq→Q (.int x tx) ([(lc,aq)]++F)):Tr w b1 b2 b3 (cx c below) (eval (dj em) (jJ fr lc cr cm ci)) M Q:=
  Tr.ev fun p=>cR ai hp fun aw ah av=>aK fun N tk hN=>Stp.fin [1] [0] [] _ 0 0 _ av aa hb (fun hap=>a8) rfl ⟨_,rfl,(H N tk _ (dR (.int x tx) (dO aw ah)))⟩ (rf (by kernel_rfl!))
theorem yj (fr lc cr cm ci:Nat) (x:Int) (tx:Nat) (y:Int) (ty:Nat) (rw re n k a1 a2 mg md:Nat) (rv:List Value) (e0 e2:Nat) (e1:Value) (h0:x=(n:Int)) (h1:rv[n]?=some (.ref a1)) (h2:y=(k:Int)) (h3:rv[k]?=some (.ref a2)) (h4:rv.length≤1000) {al:Obj} (ai:bx w.2 [(fF,.int x tx)] [] al) {Q:Bool→af→Prop} (hb:below.length≤96) (au:∀l:ag,l.length≤below.length+9→bel' l) (hp:([(lc,al),(ci,ac (.int y ty)),(cr,ac (.ref rw)),(rw,lst rv re),(cm,ac (.ref mg)),(mg,⟨.ref 67,some md,.plain,#[]⟩),(md,jx [aE w.2 s1m e0 e1] e2)]++F).Perm M) (H:∀(N tk:Nat) (aq:Obj),aJ≤N→bx w.2 [(fF,.int x tx)] [] aq→Con w b1 b2 b3 bel' (.call (.ref lE) ⟨[.ref mg,.ref a1,.ref a2],[]⟩) ([(lc,aq),(ci,ac (.int y ty)),(cr,ac (.ref rw)),(rw,lst rv re),(cm,ac (.ref mg)),(mg,⟨.ref 67,some md,.plain,#[]⟩),(md,jx [aE w.2 s1m e0 e1] e2)]++F) fun r L₂=>∃(β:Bool) (X1:af),r= .ok (.ret (.bool β))∧(([]:af)++X1).Perm L₂∧(∀(N1 tk1:Nat),Q (β) ([]++X1))):Tr w b1 b2 b3 (cx c below) (isTrue (bA (jF (aL em) 0) 1) (jJ fr lc cr cm ci) (eval (bA (jF (aL em) 0) 1) (jJ fr lc cr cm ci))) M Q:=
  Tr.it fun p=>cR ai hp fun aw ah av=>aK fun N tk hN=>Stp.at [5,6,0,0,0,6,0,0,0,6,0,0,0,0,6,7,3,1,4,4,4,1,3,2,4,4,4,2,0] [0,1,2,3,4,5,6] [bG 3 rw rv re x tx (.ref a1),bG 3 rw rv re y ty (.ref a2)] _ 0 0 _ av aa hb (fun hap=>a9 (aX rv re n x tx h0 h1 h4) (a9 (aX rv re k y ty h2 h3 h4) a8)) rfl au (H N tk _ hN (dO aw ah)) (fun r L₂ hq=>oU hq fun β X1 hh1=>c9 hh1.1 fun aQ N1 tk1 hN=>Stp.fin [] [] [] _ 0 0 [] hh1.2.1 aQ hb (fun hap=>a8) rfl ⟨_,rfl,(hh1.2.2 N1 tk1)⟩ (rf (by kernel_rfl!))) (ra (by kernel_rfl!))
theorem ye (fr lc cr rw:Nat) (x:Int) (tx:Nat) {al:Obj} (ai:bx w.2 [] [[sy]] al) {Q:Value→af→Prop} (hb:below.length≤96) (au:∀l:ag,l.length≤below.length+9→bel' l) (hp:([(lc,al),(cr,ac (.ref rw))]++F).Perm M) (H:∀(N tk:Nat) (aq:Obj),aJ≤N→bx w.2 [(sy,.int x tx)] [] aq→Con w b1 b2 b3 bel' (.call (.ref jc) ⟨[.ref rw,.int x tx],[]⟩) ([(lc,aq),(cr,ac (.ref rw))]++F) fun r L₂=>∃(D:Nat) (X1:af),r= .ok (.ret (.ref D))∧(([]:af)++X1).Perm L₂∧(∀(N1 tk1:Nat),Q (.ref D) ([]++X1))):Tr w b1 b2 b3 (cx c below) (assign (.Name sy (dm (aL iV) 0)) (r6 fr lc cr) (.int x tx)>>=fun _=>eval (dj iV) (r6 fr lc cr)) M Q:=
  Tr.asEv fun p=>du ai (fun h00=>cR h00 hp fun aw ah av=>aK fun N tk hN=>Stp.at [1,1,0,2,1,0] [0,1] [] _ 0 1 _ av aa hb (fun hap=>a8) rfl au (H N tk _ hN (dO (bL id 0 [tk+0]) (ah+1))) (fun r L₂ hq=>oU hq fun D X1 hh1=>c9 hh1.1 fun aQ N1 tk1 hN=>Stp.fin [] [] [] _ 0 0 [] hh1.2.1 aQ hb (fun hap=>a8) rfl ⟨_,rfl,(hh1.2.2 N1 tk1)⟩ (rf (by kernel_rfl!))) (ra (by kernel_rfl!))) (fun o00_0 h00=>cR h00 hp fun aw ah av=>aK fun N tk hN=>Stp.at [1,1,0,2,1,0] [0,1] [] _ 0 1 _ av aa hb (fun hap=>a8) rfl au (H N tk _ hN (dO aw ah)) (fun r L₂ hq=>oU hq fun D X1 hh1=>c9 hh1.1 fun aQ N1 tk1 hN=>Stp.fin [] [] [] _ 0 0 [] hh1.2.1 aQ hb (fun hap=>a8) rfl ⟨_,rfl,(hh1.2.2 N1 tk1)⟩ (rf (by kernel_rfl!))) (ra (by kernel_rfl!)))
theorem x7 (fr cc cm cz cr sc:Nat) (ab:Nat) (n tz:Nat) {al:Obj} (ai:FrO w.2 [(sf,.ref sc),(s7,.ref ab)] [] al) {Q:Flow→af→Prop} (hb:below.length≤96) (au:∀l:ag,l.length≤below.length+9→bel' l) (hp:([(fr,al),(cz,ac (.int n tz)),(215,br [])]++F).Perm M) (H:∀(N tk:Nat) (aq:Obj),aJ≤N→FrO w.2 [(sf,.ref sc),(s7,.ref ab)] [] aq→Con w b1 b2 b3 bel' (.call (.builtin "sorted") ⟨[.ref N],[(tM,.ref (N+6))]⟩) ([(fr,aq),(cz,ac (.int n tz)),(215,br [.int 189 0,.int 35 0,.ref (N+5)]),(N+0,iZ n tk tz (tk+1)),(N+5,eM (.str sn (tk+2)) (tk+3) (nw N tk 189)),(N+6,im cc (N+5) (N+1))]++F) fun r L₂=>∃(dp:Nat) (cb:Obj) (X1:af),r= .ok (.ret (.ref dp))∧FrO w.2 [(sf,.ref sc),(s7,.ref ab)] [] cb∧([(fr,cb)]++X1).Perm L₂∧(∀(N1 tk1:Nat) (iX:Obj),FrO w.2 [(sf,.ref sc),(s7,.ref ab),(sX,.ref dp)] [] iX→Q (.next) ([(fr,iX)]++X1))):Tr w b1 b2 b3 (cx c below) (execs [bN 5] (bc fr cc cm cz cr)) M Q:=
  Tr.st fun p=>aZ ai hp fun aw ah aj av=>aK fun N tk hN=>Stp.at [0,0,0,0,2,0,0,4,4,0,4,4,0,3,3,3,3,0,0,0] [0,1,2,3,8,9] [] _ 7 8 _ av aa hb (fun hap=>a8) rfl au (H N tk _ hN (fO aw ah aj)) (fun r L₂ hq=>pE hq fun dp cb X1 hh1=>aZ hh1.2.1 hh1.2.2.1 fun eP bZ ea bO=>c9 hh1.1 fun aQ N1 tk1 hN=>Stp.fin [1,1] [0] [] _ 0 1 _ bO aQ hb (fun hap=>a8) rfl ⟨_,rfl,(hh1.2.2.2 N1 tk1 _ (fO (bL eP 2 [tk1+0]) (bZ+1) ea))⟩ (rf (by kernel_rfl!))) (ra (by kernel_rfl!))
theorem x6 (fr cc cm cz cr sc:Nat) (ab dp k:Nat) (n tz:Nat) {al:Obj} (ai:FrO w.2 [(sf,.ref sc),(s7,.ref ab),(sX,.ref dp)] [] al) {Q:Flow→af→Prop} (hb:below.length≤96) (au:∀l:ag,l.length≤below.length+9→bel' l) (hp:([(fr,al),(cz,ac (.int n tz)),(215,br [.int 189 0,.int 35 0,.ref k])]++F).Perm M) (H:∀(N tk:Nat) (aq:Obj),aJ≤N→FrO w.2 [(sf,.ref sc),(s7,.ref ab),(sX,.ref dp)] [] aq→Con w b1 b2 b3 bel' (.call (.builtin "sorted") ⟨[.ref N],[(tM,.ref (N+8))]⟩) ([(fr,aq),(cz,ac (.int n tz)),(215,br [.int 189 0,.int 35 0,.ref k,.int 190 0,.int 35 0,.ref (N+7)]),(N+0,iZ n tk tz (tk+1)),(N+7,eM (.str sn (tk+2)) (tk+3) (v8 N tk 190)),(N+8,mo cc (N+7) (N+1))]++F) fun r L₂=>∃(wd:Nat) (cb:Obj) (X1:af),r= .ok (.ret (.ref wd))∧FrO w.2 [(sf,.ref sc),(s7,.ref ab),(sX,.ref dp)] [] cb∧([(fr,cb)]++X1).Perm L₂∧(∀(N1 tk1:Nat) (iX:Obj),FrO w.2 [(sf,.ref sc),(s7,.ref ab),(sX,.ref dp),(rV,.ref wd)] [] iX→Q (.next) ([(fr,iX)]++X1))):Tr w b1 b2 b3 (cx c below) (execs [bN 6] (bc fr cc cm cz cr)) M Q:=
  Tr.st fun p=>aZ ai hp fun aw ah aj av=>aK fun N tk hN=>Stp.at [0,0,0,0,2,0,0,4,4,0,4,4,0,3,3,3,3,0,0,0] [0,1,2,3,10,11] [] _ 9 9 _ av aa hb (fun hap=>a8) rfl au (H N tk _ hN (fO aw ah aj)) (fun r L₂ hq=>pE hq fun wd cb X1 hh1=>aZ hh1.2.1 hh1.2.2.1 fun eP bZ ea bO=>c9 hh1.1 fun aQ N1 tk1 hN=>Stp.fin [1,1] [0] [] _ 0 1 _ bO aQ hb (fun hap=>a8) rfl ⟨_,rfl,(hh1.2.2.2 N1 tk1 _ (fO (bL eP 3 [tk1+0]) (bZ+1) ea))⟩ (rf (by kernel_rfl!))) (ra (by kernel_rfl!))
theorem uN (f cc co t c0 ce0 n rr re ct:Nat) (cx:Value) (cl:List Value) (x:Int) (tx:Nat) (cs vs:List Value) (h0:x=(n:Int)) (h1:cs[n]?=some (.ref rr)) (h4:cs.length≤1000) {Q:Result→af→Prop} (hb:∀l,bel l→l.length≤96) (au:∀l l':ag,bel l→l'.length≤l.length+9→bel' l') (hp:([(f,im cc co t),(co,eM cx ct cl),(cc,ac (.ref c0)),(c0,lst cs ce0),(rr,lst vs re)]++F).Perm M) (H:∀(N tk:Nat) (mW:Obj) (G08:Obj),aJ≤N→FrO w.2 [(sy,.int x tx)] [] mW→bx w.2 [] [[fF]] G08→Con w b1 b2 b3 bel' (zz (N+1) (N+2) (N+0) (N+3) co) ([(f,im cc co t),(co,eM cx ct cl),(cc,ac (.ref c0)),(c0,lst cs ce0),(rr,lst vs re),(N+0,mW),(N+1,b8 "list_iterator" (.ref rr) 0),(N+2,lst [] 0),(N+3,G08)]++F) fun r L₂=>∃(cb:Obj) (X1:af),r= .ok .next∧bx w.2 [] [[fF]] cb∧([((N+3),cb)]++X1).Perm L₂∧(∀(N1 tk1:Nat),Q (.ok (.ret (.ref (N+2)))) ([]++X1))):Con w b1 b2 b3 bel (.call (.ref f) ⟨[.int x tx],[]⟩) M Q:=
  Con.of fun below p ao=>aK fun N tk hN=>Stp.at [2,2,6,6,0,3,6,4,4,4,1,5,5,0,5,7] [0,1,2,3,4,5,6,7,8] [bG 3 c0 cs ce0 x tx (.ref rr)] _ 4 1 _ hp aa (hb _ ao) (fun hap=>a9 (aX cs ce0 n x tx h0 h1 h4) a8) rfl (fun l h=>au _ l ao h) (H N tk _ _ hN (fO (bL id 0 [tk+0]) 1 (#[])) (dO (bL id 0 []) 0)) (fun r L₂ hq=>oU hq fun cb X1 hh1=>du hh1.2.1 (fun h10=>cR h10 hh1.2.2.1 fun eP bZ bO=>c9 hh1.1 fun aQ N1 tk1 hN=>Stp.fin [1] [] [] _ 0 0 [] bO aQ (hb _ ao) (fun hap=>a8) rfl (hh1.2.2.2 N1 tk1) (rf (by kernel_rfl!))) (fun o10_0 h10=>cR h10 hh1.2.2.1 fun eP bZ bO=>c9 hh1.1 fun aQ N1 tk1 hN=>Stp.fin [1,1,1] [] [] _ 0 0 [] bO aQ (hb _ ao) (fun hap=>a8) rfl (hh1.2.2.2 N1 tk1) (rf (by kernel_rfl!)))) (ra (by kernel_rfl!))
theorem xQ (fr lc co:Nat) (x:Int) (tx:Nat) {al:Obj} (ai:bx w.2 [] [[fF]] al) {Q:Value→af→Prop} (hb:below.length≤96) (hp:([(lc,al)]++F).Perm M) (H:∀(N tk:Nat) (aq:Obj),bx w.2 [(fF,.int x tx)] [] aq→Q (.int (0 - x) (tk+2)) ([(lc,aq)]++F)):Tr w b1 b2 b3 (cx c below) (assign (.Name fF (dm (aL iU) 0)) (r5 fr lc co) (.int x tx)>>=fun _=>eval (dj iU) (r5 fr lc co)) M Q:=
  Tr.asEv fun p=>du ai (fun h00=>cR h00 hp fun aw ah av=>aK fun N tk hN=>Stp.fin [1,1,1,1] [0] [ol 0 x (tk+1) tx (tk+2)] _ 0 3 _ av aa hb (fun hap=>a9 (cS _ _ _ _ _) a8) rfl ⟨_,rfl,(H N tk _ (dO (bL id 0 [tk+0]) (ah+1)))⟩ (rf (by kernel_rfl!))) (fun o00_0 h00=>cR h00 hp fun aw ah av=>aK fun N tk hN=>Stp.fin [1,1,1,1] [0] [ol 0 x (tk+1) tx (tk+2)] _ 0 3 _ av aa hb (fun hap=>a9 (cS _ _ _ _ _) a8) rfl ⟨_,rfl,(H N tk _ (dO aw ah))⟩ (rf (by kernel_rfl!)))
theorem q6 (f cc co t c0 ce0 n rr re ct:Nat) (cx:Value) (cl:List Value) (x:Int) (tx:Nat) (cs vs:List Value) (h0:x=(n:Int)) (h1:cs[n]?=some (.ref rr)) (h4:cs.length≤1000) (h5:vs.length≤100) {Q:Result→af→Prop} (hb:∀l,bel l→l.length≤96) (hp:([(f,mo cc co t),(co,eM cx ct cl),(cc,ac (.ref c0)),(c0,lst cs ce0),(rr,lst vs re)]++F).Perm M) (H:∀(N tk:Nat),Q (.ok (.ret (.ref (N+2)))) ([(f,mo cc co t),(co,eM cx ct cl),(cc,ac (.ref c0)),(c0,lst cs ce0),(rr,lst vs re),(N+2,lst ([.int (vs.length:Nat) (tk+2)]++vs) 0)]++F)):Con w b1 b2 b3 bel (.call (.ref f) ⟨[.int x tx],[]⟩) M Q:=
  Con.of fun below p ao=>aK fun N tk hN=>Stp.fin [2,2,6,6,0,0,0,3,6,4,4,4,1,2,3,6,4,4,4,1,7,5,7,3] [0,1,2,3,4,7] [bG 3 c0 cs ce0 x tx (.ref rr),iD 4 rr vs re (tk+1),ji 6 4 (N+1) rr [.int (vs.length:Nat) (tk+2)] vs 0 re (N+2)] _ 3 3 _ hp aa (hb _ ao) (fun hap=>a9 (aX cs ce0 n x tx h0 h1 h4) (a9 (bR _ _ _ (by exact lk h5 rfl)) (a9 (dB _ _ _ _ _ (by simp;omega)) a8))) rfl (H N tk) (rf (by kernel_rfl!))
theorem ui (fr cc cm cz cr sc:Nat) (ab dp wd:Nat) {al:Obj} (ai:FrO w.2 [(sf,.ref sc),(s7,.ref ab),(sX,.ref dp),(rV,.ref wd)] [] al) {Q:Value→af→Prop} (hb:below.length≤96) (au:∀q,bel' ((c,q)::below)) (hp:([(fr,al)]++F).Perm M) (H:∀(N tk:Nat) (aq:Obj),aJ≤N→FrO w.2 [(sf,.ref sc),(s7,.ref ab),(sX,.ref dp),(rV,.ref wd)] [] aq→Con w b1 b2 b3 bel' (.call (.ref k8) ⟨[.ref ab,.bool true],[]⟩) ([(fr,aq)]++F) fun r L₂=>∃(g0:Nat) (X1:af),r= .ok (.ret (.ref g0))∧(([]:af)++X1).Perm L₂∧(∀(N1 tk1:Nat),Q (.ref g0) ([]++X1))):Tr w b1 b2 b3 (cx c below) (eval (bA (bA (dI (bN 7)) 0) 0) (bc fr cc cm cz cr)) M Q:=
  Tr.ev fun p=>aZ ai hp fun aw ah aj av=>aK fun N tk hN=>Stp.atx [0,1,0] [0] [] _ 0 0 _ av aa hb (fun hap=>a8) rfl au (H N tk _ hN (fO aw ah aj)) (fun r L₂ hq=>oU hq fun g0 X1 hh1=>c9 hh1.1 fun aQ N1 tk1 hN=>Stp.fin [] [] [] _ 0 0 [] hh1.2.1 aQ hb (fun hap=>a8) rfl ⟨_,rfl,(hh1.2.2 N1 tk1)⟩ (rf (by kernel_rfl!))) (rb (by kernel_rfl!))
theorem qI (fr cc cm cz cr sc:Nat) (ab dp wd:Nat) {al:Obj} (ai:FrO w.2 [(sf,.ref sc),(s7,.ref ab),(sX,.ref dp),(rV,.ref wd)] [] al) {Q:Value→af→Prop} (hb:below.length≤96) (hp:([(fr,al)]++F).Perm M) (H:∀(N tk:Nat) (aq:Obj),FrO w.2 [(sf,.ref sc),(s7,.ref ab),(sX,.ref dp),(rV,.ref wd)] [] aq→Q (.ref dp) ([(fr,aq)]++F)):Tr w b1 b2 b3 (cx c below) (eval (bA (bA (dI (bN 7)) 0) 1) (bc fr cc cm cz cr)) M Q:=
  Tr.ev fun p=>aZ ai hp fun aw ah aj av=>aK fun N tk hN=>Stp.fin [1] [0] [] _ 0 0 _ av aa hb (fun hap=>a8) rfl ⟨_,rfl,(H N tk _ (fO aw ah aj))⟩ (rf (by kernel_rfl!))
theorem uh (fr cc cm cz cr sc:Nat) (ab dp wd:Nat) {al:Obj} (ai:FrO w.2 [(sf,.ref sc),(s7,.ref ab),(sX,.ref dp),(rV,.ref wd)] [] al) {Q:Value→af→Prop} (hb:below.length≤96) (au:∀q,bel' ((c,q)::below)) (hp:([(fr,al)]++F).Perm M) (H:∀(N tk:Nat) (aq:Obj),aJ≤N→FrO w.2 [(sf,.ref sc),(s7,.ref ab),(sX,.ref dp),(rV,.ref wd)] [] aq→Con w b1 b2 b3 bel' (.call (.ref k8) ⟨[.ref ab,.bool false],[]⟩) ([(fr,aq)]++F) fun r L₂=>∃(g0:Nat) (X1:af),r= .ok (.ret (.ref g0))∧(([]:af)++X1).Perm L₂∧(∀(N1 tk1:Nat),Q (.ref g0) ([]++X1))):Tr w b1 b2 b3 (cx c below) (eval (bA (bA (dI (bN 7)) 1) 0) (bc fr cc cm cz cr)) M Q:=
  Tr.ev fun p=>aZ ai hp fun aw ah aj av=>aK fun N tk hN=>Stp.atx [0,1,0] [0] [] _ 0 0 _ av aa hb (fun hap=>a8) rfl au (H N tk _ hN (fO aw ah aj)) (fun r L₂ hq=>oU hq fun g0 X1 hh1=>c9 hh1.1 fun aQ N1 tk1 hN=>Stp.fin [] [] [] _ 0 0 [] hh1.2.1 aQ hb (fun hap=>a8) rfl ⟨_,rfl,(hh1.2.2 N1 tk1)⟩ (rf (by kernel_rfl!))) (rb (by kernel_rfl!))
theorem qH (fr cc cm cz cr sc:Nat) (ab dp wd:Nat) {al:Obj} (ai:FrO w.2 [(sf,.ref sc),(s7,.ref ab),(sX,.ref dp),(rV,.ref wd)] [] al) {Q:Value→af→Prop} (hb:below.length≤96) (hp:([(fr,al)]++F).Perm M) (H:∀(N tk:Nat) (aq:Obj),FrO w.2 [(sf,.ref sc),(s7,.ref ab),(sX,.ref dp),(rV,.ref wd)] [] aq→Q (.ref wd) ([(fr,aq)]++F)):Tr w b1 b2 b3 (cx c below) (eval (bA (bA (dI (bN 7)) 1) 1) (bc fr cc cm cz cr)) M Q:=
  Tr.ev fun p=>aZ ai hp fun aw ah aj av=>aK fun N tk hN=>Stp.fin [1] [0] [] _ 0 0 _ av aa hb (fun hap=>a8) rfl ⟨_,rfl,(H N tk _ (fO aw ah aj))⟩ (rf (by kernel_rfl!))
end
section
variable {w:World} {b1 b2 b3:Bool} {bel:ag→Prop} {F M:af} {Q:Result→af→Prop}
noncomputable abbrev i8 (md:Nat):Obj:=⟨.ref 67,some md,.plain,#[]⟩
noncomputable abbrev i9 (w:World) (e0:Nat) (e1:Value) (e2:Nat):Obj:=jx [aE w.2 s1m e0 e1] e2
theorem yi {fr lc cr cm ci it acc rw re mg md e0 e2:Nat} {e1:Value} (rs:List Ad) (hok:fy rs) (hrl:rs.length≤20) (y ty:Nat) (hy:y < rs.length) {D0:Obj} (ip:bx w.2 [] [[fF]] D0) (hb:∀l,bel l→l.length≤45)
    (hp:([(it,cN 0 (rs.length:Nat)),(acc,lst [] 0),(lc,D0),(ci,ac (.int y ty)),(cr,ac (.ref rw)),(rw,lst (bJ rs) re),(cm,ac (.ref mg)),(mg,i8 md),(md,i9 w e0 e1 e2)]++(bV rs++F)).Perm M)
    (hQ:∀(ps:List (Int × Nat)) (ep:Nat) (D:Obj),bx w.2 [] [[fF]] D→ps.map (·.1)=gt rs.length (fun a b=>ew (atK (rs.map Ad.key) a) (atK (rs.map Ad.key) b)) y→Q (.ok .next) ([(acc,lst (ps.map iv) ep),(lc,D),(ci,ac (.int y ty)),(cr,ac (.ref rw)),(rw,lst (bJ rs) re),(cm,ac (.ref mg)),(mg,i8 md),(md,i9 w e0 e1 e2)]++(bV rs++F))):Con w b1 b2 b3 bel (vV it acc fr lc cr cm ci) M Q:=by
  have hb':∀l,bel l→l.length≤96:=fun l h=>by have:=hb l h;exact lk this rfl
  have hvl:(bJ rs).length=rs.length:=B0 _
  obtain ⟨qy,hqy⟩:∃q,rs[y]?=some q:=⟨rs[y],O0 hy⟩
  have hqym:=J1 hqy
  refine Con.lax (iR (bel:=bel) (lc:=lc) (R:= [(ci,ac (.int y ty)),(cr,ac (.ref rw)),(rw,lst (bJ rs) re),(cm,ac (.ref mg)),(mg,i8 md),(md,i9 w e0 e1 e2)]++(bV rs++F)) (fun j=>j !=(y:Int) && ew (atK (rs.map Ad.key) j.toNat) (atK (rs.map Ad.key) (y:Int).toNat)) (fun q z=>∃t,z= .int q t) (fun D=>bx w.2 [] [[fF]] D) ip hb' (by rw [aH];exact lk hrl rfl) (Iter.rangeN it rs.length) ?_ ?_ ?_)
  · rintro i q hq v ⟨tx,rfl⟩ D hD c' below2 hbel2
    have hbl2:=hb _ hbel2
    obtain ⟨hi,rfl⟩:=cJ hq
    refine pk (x:=bA (jF (aL em) 0) 0) (y:=bA (jF (aL em) 0) 1) (yk fr lc cr cm ci i tx y ty _ rfl hD (by exact lk hbl2 rfl) (F:= [(it,eO rs.length (i+1)),(cr,ac (.ref rw)),(rw,lst (bJ rs) re),(cm,ac (.ref mg)),(mg,i8 md),(md,i9 w e0 e1 e2)]++(bV rs++F)) (by exact aO [_,_,_,_,_,_,_,_] [_,_] (.a (.l [0,1] .z) (.a (.l [2,3,4,5,6,7] .z) (.a (.v 0) (.v 1)))) (.a (.l [2] .z) (.l [0] (.a (.l [1,3,4,5,6,7] .z) (.a (.v 0) (.v 1))))) rfl) fun N tk D1 aQ=>?_)
    cases hne:((i:Int) !=(y:Int))
    · exact ⟨rfl,D1,.inr ⟨_,aQ⟩,by exact aO [_,_,_,_,_,_,_,_] [_,_] (.a (.l [0,1] .z) (.a (.l [2,3,4,5,6,7] .z) (.a (.v 0) (.v 1)))) (.a (.l [2] .z) (.l [0] (.a (.l [1,3,4,5,6,7] .z) (.a (.v 0) (.v 1))))) rfl⟩
    · have hne':i≠y:=fun e=>by rw [e] at hne;simp at hne
      obtain ⟨qi,hqi⟩:∃q,rs[i]?=some q:=⟨rs[i],O0 hi⟩
      have hqim:=J1 hqi
      obtain ⟨R,hR⟩:=yT (fun q:Ad=>(q.a,q.obj)) hqi hqy hne'
      have hR:(bV rs).Perm ((qi.a,aS [.str qi.h qi.t,.str qi.p qi.u])::(qy.a,aS [.str qy.h qy.t,.str qy.p qy.u])::R):=hR
      have okq:=(hok qi hqim).2
      have okr:=(hok qy hqym).2
      refine yj fr lc cr cm ci i tx y ty rw re i y qi.a qy.a mg md (bJ rs) e0 e2 e1 rfl (ic hqi) rfl (ic hqy) (by exact j8 hvl hrl rfl) aQ (by exact lk hbl2 rfl) (bel':=fun l=>l.length≤60) (fun l hl=>by exact eA hl hbl2 rfl) (F:= [(it,eO rs.length (i+1))]++(bV rs++F)) (by exact aO [_,_,_,_,_,_,_,_] [_,_] (.a (.l [0,1,2,3,4,5,6] .z) (.a (.l [7] .z) (.a (.v 0) (.v 1)))) (.a (.l [0,1] .z) (.a (.l [7,2,3,4,5,6] .z) (.a (.v 0) (.v 1)))) rfl) fun N2 tk2 D2 hN2 gT=>?_
      refine x5 mg qi.a qy.a qi.h qi.p qy.h qy.p qi.t qi.u qy.t qy.u (by have:=okq.2.1;exact lk this rfl) okq.2.2 (rD hok hqim) (rD hok hqym) (fun l h=>by exact lk h rfl) (F:= [(it,eO rs.length (i+1)),(lc,D2),(ci,ac (.int y ty)),(cr,ac (.ref rw)),(rw,lst (bJ rs) re),(cm,ac (.ref mg)),(mg,i8 md),(md,i9 w e0 e1 e2)]++(R++F)) (by exact bk [_,_,_,_,_,_,_,_,_,_] [_,_,_] (.a (.l [0,1] .z) (.a (.l [2,3,4,5,6,7,8,9] .z) (.a (.v 1) (.v 2)))) (.a (.l [3,4,5,6,7,8,9] .z) (.a (.l [2] .z) (.a (.v 0) (.v 2)))) (.l [0,1] (.v 1)) (.v 0) (hR.symm) rfl) ?_
      refine ⟨_,[(it,eO rs.length (i+1)),(lc,D2),(ci,ac (.int y ty)),(cr,ac (.ref rw)),(rw,lst (bJ rs) re),(cm,ac (.ref mg)),(mg,i8 md),(md,i9 w e0 e1 e2)]++(bV rs++F),rfl,by exact bk [_,_,_,_,_,_,_,_,_,_] [_,_,_] (.a .z (.a (.l [2,3,4,5,6,7,8,9] .z) (.a (.v 0) (.v 2)))) (.a (.l [0,1] .z) (.a (.l [2,3,4,5,6,7,8,9] .z) (.a (.v 1) (.v 2)))) (.v 0) (.l [0,1] (.v 1)) hR rfl,fun N3 tk3=>⟨?_,?_⟩⟩
      · rw [W0,W0,iA hqi,iA hqy];rfl
      · split
        · refine yl fr lc cr cm ci i tx gT (by exact lk hbl2 rfl) (F:= [(it,eO rs.length (i+1)),(ci,ac (.int y ty)),(cr,ac (.ref rw)),(rw,lst (bJ rs) re),(cm,ac (.ref mg)),(mg,i8 md),(md,i9 w e0 e1 e2)]++(bV rs++F)) (by exact aO [_,_,_,_,_,_,_,_] [_,_] (.a (.l [0] .z) (.a (.l [1,2,3,4,5,6,7] .z) (.a (.v 0) (.v 1)))) (.a .z (.a (.l [1,0,2,3,4,5,6,7] .z) (.a (.v 0) (.v 1)))) rfl) fun N4 tk4 D3 vM=>⟨⟨_,rfl⟩,D3,vM,by exact aO [_,_,_,_,_,_,_,_] [_,_] (.a (.l [0] .z) (.a (.l [1,2,3,4,5,6,7] .z) (.a (.v 0) (.v 1)))) (.a (.l [1] .z) (.l [0] (.a (.l [2,3,4,5,6,7] .z) (.a (.v 0) (.v 1))))) rfl⟩
        · exact ⟨D2,.inr ⟨_,gT⟩,by exact aO [_,_,_,_,_,_,_,_] [_,_] (.a .z (.a (.l [0,1,2,3,4,5,6,7] .z) (.a (.v 0) (.v 1)))) (.a (.l [0] .z) (.l [1] (.a (.l [2,3,4,5,6,7] .z) (.a (.v 0) (.v 1))))) rfl⟩
  · exact List.Perm.trans (by exact aO [_,_,_,_,_,_,_,_,_] [_,_] (.l [0] (.a (.l [1] .z) (.l [2] (.a (.l [3,4,5,6,7,8] .z) (.a (.v 0) (.v 1)))))) (.a (.l [1,0,2,3,4,5,6,7,8] .z) (.a (.v 0) (.v 1))) rfl) hp
  · intro vs ep D hD ha
    obtain ⟨ps,rfl,hps⟩:=All2.ints ha
    exact ⟨_,[(it,cN (rs.length:Nat) 0)],by exact aO [_,_,_,_,_,_,_,_,_] [_,_] (.l [0] (.a (.l [1] .z) (.l [2] (.a (.l [3,4,5,6,7,8] .z) (.a (.v 0) (.v 1)))))) (.a (.a (.l [0,2,3,4,5,6,7,8] .z) (.a (.v 0) (.v 1))) (.l [1] .z)) rfl,hQ ps ep D hD (by rw [hps,O5];rfl)⟩
theorem yu {fr lc cr cm ci cz it acc rw re tz mg md e0 e2:Nat} {e1:Value} (rs:List Ad) (hok:fy rs) (hrl:rs.length≤20) {D0:Obj} (ip:bx w.2 [] [] D0) (hb:∀l,bel l→l.length≤30)
    (hp:([(it,cN 0 (rs.length:Nat)),(acc,lst [] 0),(lc,D0),(ci,bf none),(cz,ac (.int (rs.length:Nat) tz)),(cr,ac (.ref rw)),(rw,lst (bJ rs) re),(cm,ac (.ref mg)),(mg,i8 md),(md,i9 w e0 e1 e2)]++(bV rs++F)).Perm M)
    (hQ:∀(cv:List (Nat × List (Int × Nat) × Nat)) (ep:Nat) (D:Obj),bx w.2 [] [] D→cq cv=ox rs.length (fun a b=>ew (atK (rs.map Ad.key) a) (atK (rs.map Ad.key) b))→Q (.ok .next) ([(acc,lst (bI cv) ep),(lc,D),(cz,ac (.int (rs.length:Nat) tz)),(cr,ac (.ref rw)),(rw,lst (bJ rs) re),(cm,ac (.ref mg)),(mg,i8 md),(md,i9 w e0 e1 e2)]++(bV rs++(bv cv++F)))):Con w b1 b2 b3 bel (vW it acc fr lc ci cz cr cm) M Q:=by
  have hb':∀l,bel l→l.length≤96:=fun l h=>by have:=hb l h;exact lk this rfl
  refine Con.lax (cO (F:= [(acc,lst [] 0)]++([(lc,D0),(ci,bf none),(cz,ac (.int (rs.length:Nat) tz)),(cr,ac (.ref rw)),(rw,lst (bJ rs) re),(cm,ac (.ref mg)),(mg,i8 md),(md,i9 w e0 e1 e2)]++(bV rs++F))) hb' (Iter.rangeN it rs.length) rfl (List.Perm.trans (by exact aO [_,_,_,_,_,_,_,_,_,_] [_,_] (.a (.l [0] .z) (.a (.l [1] .z) (.a (.l [2,3,4,5,6,7,8,9] .z) (.a (.v 0) (.v 1))))) (.a (.l [0,1,2,3,4,5,6,7,8,9] .z) (.a (.v 0) (.v 1))) rfl) hp) (Con.perm (g5 (fun i vs L=>∃(cv:List (Nat × List (Int × Nat) × Nat)) (D:Obj) (o:Option Value) (X:af),vs=bI cv∧cq cv=((bT rs.length).take i).map (gt rs.length (fun a b=>ew (atK (rs.map Ad.key) a) (atK (rs.map Ad.key) b)))∧bx w.2 [] [] D∧L= [(lc,D),(ci,bf o),(cz,ac (.int (rs.length:Nat) tz)),(cr,ac (.ref rw)),(rw,lst (bJ rs) re),(cm,ac (.ref mg)),(mg,i8 md),(md,i9 w e0 e1 e2)]++(bV rs++(bv cv++(F++X)))) hb' (by rw [aH];exact lk hrl rfl) (Iter.rangeN it rs.length) ?_ ?_ rs.length 0 [] 0 ([(lc,D0),(ci,bf none),(cz,ac (.int (rs.length:Nat) tz)),(cr,ac (.ref rw)),(rw,lst (bJ rs) re),(cm,ac (.ref mg)),(mg,i8 md),(md,i9 w e0 e1 e2)]++(bV rs++F)) (by rw [aH];exact (P2 _).symm) (S0 _) ⟨[],D0,none,[],rfl,rfl,ip,by rw [U0];rfl⟩) (List.Perm.trans (by exact aO [_,_,_,_,_,_,_,_,_,_] [_,_] (.l [0] (.a (.l [1] .z) (.a (.l [2,3,4,5,6,7,8,9] .z) (.a (.v 0) (.v 1))))) (.a (.l [1,0,2,3,4,5,6,7,8,9] .z) (.a (.v 0) (.v 1))) rfl) hp)))
  · rintro i q hq v ⟨tx,rfl⟩ vs L ⟨cv,D,o,X,rfl,hT,hD,rfl⟩ below ao
    have hbl:=hb _ ao
    obtain ⟨hi,rfl⟩:=cJ hq
    refine yv fr lc ci cz cr cm o i tx (rs.length:Nat) tz ⟨by lia,by lia⟩ hD (by exact lk hbl rfl) (bel':=fun l=>l.length≤45) (fun l hl=>by exact eA hl hbl rfl) (F:= [(it,eO rs.length (i+1)),(cr,ac (.ref rw)),(rw,lst (bJ rs) re),(cm,ac (.ref mg)),(mg,i8 md),(md,i9 w e0 e1 e2)]++(bV rs++(bv cv++(F++X)))) (by exact aO [_,_,_,_,_,_,_,_,_] [_,_,_,_] (.a (.l [0,1,2] .z) (.a (.l [3,4,5,6,7,8] .z) (.a (.v 0) (.a (.v 1) (.a (.v 2) (.v 3)))))) (.a (.l [3] .z) (.a (.l [0,2,1,4,5,6,7,8] .z) (.a (.v 0) (.a (.v 1) (.a (.v 2) (.v 3)))))) rfl) fun N tk D1 D2 hN aQ gT=>?_
    refine yi (rw:=rw) (re:=re) (mg:=mg) (md:=md) (e0:=e0) (e1:=e1) (e2:=e2) rs hok hrl i tx hi gT (fun l h=>h) (F:= [(it,eO rs.length (i+1)),(lc,D1),(cz,ac (.int (rs.length:Nat) tz))]++(bv cv++(F++X))) (by exact aO [_,_,_,_,_,_,_,_,_,_,_,_] [_,_,_,_] (.a (.l [0,1,2,3,4,5,6,7,8] .z) (.a (.v 0) (.a (.l [9,10,11] .z) (.a (.v 1) (.a (.v 2) (.v 3)))))) (.a (.l [10,11,3,0,1,2] .z) (.a (.l [9,4,5,6,7,8] .z) (.a (.v 0) (.a (.v 1) (.a (.v 2) (.v 3)))))) rfl) fun ps ep D3 vM hps=>?_
    refine ⟨D3,[(it,eO rs.length (i+1)),(N+2,lst (ps.map iv) ep),(lc,D1),(ci,ac (.int i tx)),(cz,ac (.int (rs.length:Nat) tz)),(cr,ac (.ref rw)),(rw,lst (bJ rs) re),(cm,ac (.ref mg)),(mg,i8 md),(md,i9 w e0 e1 e2)]++(bV rs++(bv cv++(F++X))),rfl,vM,by exact aO [_,_,_,_,_,_,_,_,_,_,_] [_,_,_,_] (.a (.l [0] .z) (.a (.l [1,2,3,4,5,6,7,8,9,10] .z) (.a (.v 0) (.a (.v 1) (.a (.v 2) (.v 3)))))) (.a (.l [2,0,4,6,7,8,9,10] .z) (.a (.v 0) (.a (.l [1,3,5] .z) (.a (.v 1) (.a (.v 2) (.v 3)))))) rfl,fun N2 tk2=>?_⟩
    refine ⟨[(lc,D1),(ci,bf (some (.int i tx))),(cz,ac (.int (rs.length:Nat) tz)),(cr,ac (.ref rw)),(rw,lst (bJ rs) re),(cm,ac (.ref mg)),(mg,i8 md),(md,i9 w e0 e1 e2)]++(bV rs++(bv (cv++ [(N+2,ps,ep)])++(F++X))),?_,cv++ [(N+2,ps,ep)],D1,_,X,?_,?_,aQ,rfl⟩
    · have e:bv (cv++ [(N+2,ps,ep)])=bv cv++ [(N+2,lst (ps.map iv) ep)]:=by unfold bv;rw [A0];rfl
      exact bk [_,_,_,_,_,_,_,_,_,_] [_,_,_,_,_] (.a .z (.a (.l [0,1,2,3,4,5,6,7,8,9] .z) (.a (.v 0) (.a (.v 1) (.a (.v 2) (.v 3)))))) (.a (.l [0] .z) (.a (.l [2,3,4,5,6,7,8,9] .z) (.a (.v 0) (.a (.v 4) (.a (.v 2) (.v 3)))))) (.a (.v 1) (.l [1] .z)) (.v 4) ((P1 (e ..)).symm) rfl
    · unfold bI;rw [A0];rfl
    · have e:cq (cv++ [(N+2,ps,ep)])=cq cv++ [ps.map (·.1)]:=by unfold cq;rw [A0];rfl
      obtain ⟨hi',e2⟩:=C1.mp hq
      rw [e,hT,hps,Y1 hi',A0,e2];rfl
  · rintro vs ep L ⟨cv,D,o,X,rfl,hT,hD,rfl⟩
    rw [C3] at hT
    exact ⟨_,[(it,cN (rs.length:Nat) 0),(ci,bf o)]++X,by exact aO [_,_,_,_,_,_,_,_,_,_] [_,_,_,_] (.l [0] (.a (.l [1] .z) (.a (.l [2,3,4,5,6,7,8,9] .z) (.a (.v 0) (.a (.v 1) (.a (.v 2) (.v 3))))))) (.a (.a (.l [0,2,4,5,6,7,8,9] .z) (.a (.v 0) (.a (.v 1) (.v 2)))) (.a (.l [1,3] .z) (.v 3))) rfl,hQ cv ep D hD hT⟩
noncomputable def fx (K:List Ky) (C:List (List Int)):Prop:=∀(j:Nat) (c:List Int),C[j]?=some c→lH K j c
theorem yc {fr lc cr it acc rw re:Nat} (rs:List Ad) (hok:fy rs) (hrl:rs.length≤20) (hnd:(rs.map Ad.key).Nodup) {D0:Obj} (ip:bx w.2 [] [[sy]] D0) (hb:∀l,bel l→l.length≤30)
    (hp:([(it,cN 0 (rs.length:Nat)),(acc,lst [] 0),(lc,D0),(cr,ac (.ref rw)),(rw,lst (bJ rs) re)]++(bV rs++(c8 none++F))).Perm M)
    (hQ:∀(cw:List (Nat × List (Int × Nat) × Nat)) (ep:Nat) (D:Obj) (m:vC) (X:af),bx w.2 [] [[sy]] D→cw.length=rs.length→fx (rs.map Ad.key) (cq cw)→Q (.ok .next) ([(acc,lst (bI cw) ep),(lc,D),(cr,ac (.ref rw)),(rw,lst (bJ rs) re)]++(bV rs++(bv cw++(c8 m++(F++X)))))):Con w b1 b2 b3 bel (vU it acc fr lc cr) M Q:=by
  have hb':∀l,bel l→l.length≤96:=fun l h=>by have:=hb l h;exact lk this rfl
  refine Con.lax (cO (F:= [(acc,lst [] 0)]++([(lc,D0),(cr,ac (.ref rw)),(rw,lst (bJ rs) re)]++(bV rs++(c8 none++F)))) hb' (Iter.rangeN it rs.length) rfl (List.Perm.trans (by exact aO [_,_,_,_,_] [_,_,_] (.a (.l [0] .z) (.a (.l [1] .z) (.a (.l [2,3,4] .z) (.a (.v 0) (.a (.v 1) (.v 2)))))) (.a (.l [0,1,2,3,4] .z) (.a (.v 0) (.a (.v 1) (.v 2)))) rfl) hp) (Con.perm (g5 (fun i vs L=>∃(cw:List (Nat × List (Int × Nat) × Nat)) (D:Obj) (m:vC) (X:af),vs=bI cw∧cw.length=((bT rs.length).take i).length∧fx (rs.map Ad.key) (cq cw)∧bx w.2 [] [[sy]] D∧L= [(lc,D),(cr,ac (.ref rw)),(rw,lst (bJ rs) re)]++(bV rs++(c8 m++(bv cw++(F++X))))) hb' (by rw [aH];exact lk hrl rfl) (Iter.rangeN it rs.length) ?_ ?_ rs.length 0 [] 0 ([(lc,D0),(cr,ac (.ref rw)),(rw,lst (bJ rs) re)]++(bV rs++(c8 none++F))) (by rw [aH];exact (P2 _).symm) (S0 _) ⟨[],D0,none,[],rfl,rfl,fun j c h=>(nomatch h),ip,by rw [U0];rfl⟩) (List.Perm.trans (by exact aO [_,_,_,_,_] [_,_,_] (.l [0] (.a (.l [1] .z) (.a (.l [2,3,4] .z) (.a (.v 0) (.a (.v 1) (.v 2)))))) (.a (.l [1,0,2,3,4] .z) (.a (.v 0) (.a (.v 1) (.v 2)))) rfl) hp)))
  · rintro i q hq v ⟨tx,rfl⟩ vs L ⟨cw,D,m,X,rfl,hl,hC,hD,rfl⟩ below ao
    have hbl:=hb _ ao
    obtain ⟨hi,rfl⟩:=cJ hq
    have hli:cw.length=i:=by rw [hl,C4,aH];lia
    refine ye fr lc cr rw i tx hD (by exact lk hbl rfl) (bel':=fun l=>l.length≤45) (fun l hl=>by exact eA hl hbl rfl) (F:= [(it,eO rs.length (i+1)),(rw,lst (bJ rs) re)]++(bV rs++(c8 m++(bv cw++(F++X))))) (by exact aO [_,_,_,_] [_,_,_,_,_] (.a (.l [0,1] .z) (.a (.l [2,3] .z) (.a (.v 0) (.a (.v 1) (.a (.v 2) (.a (.v 3) (.v 4))))))) (.a (.l [2] .z) (.a (.l [0,1,3] .z) (.a (.v 0) (.a (.v 1) (.a (.v 2) (.a (.v 3) (.v 4))))))) rfl) fun N tk D1 hN aQ=>?_
    refine ro (re:=re) m rs hok hrl hnd i hi (fun l h=>by exact lk h rfl) (F:= [(it,eO rs.length (i+1)),(lc,D1),(cr,ac (.ref rw))]++(bv cw++(F++X))) (by exact aO [_,_,_,_] [_,_,_,_,_] (.a (.l [0] .z) (.a (.v 0) (.a (.v 1) (.a (.l [1,2,3] .z) (.a (.v 2) (.a (.v 3) (.v 4))))))) (.a (.l [2,3] .z) (.a (.l [1,0] .z) (.a (.v 0) (.a (.v 1) (.a (.v 2) (.a (.v 3) (.v 4))))))) rfl) fun d de cs m' X' hc=>?_
    refine ⟨d,[(it,eO rs.length (i+1)),(d,lst (cs.map iv) de),(lc,D1),(cr,ac (.ref rw)),(rw,lst (bJ rs) re)]++(bV rs++(c8 m'++(bv cw++(F++(X++X'))))),rfl,by exact aO [_,_,_,_,_] [_,_,_,_,_,_] (.a .z (.a (.l [0,1,2,3,4] .z) (.a (.v 0) (.a (.v 1) (.a (.v 2) (.a (.v 3) (.a (.v 4) (.v 5)))))))) (.a (.l [1,4] .z) (.a (.v 0) (.a (.v 1) (.a (.a (.l [0,2,3] .z) (.a (.v 2) (.a (.v 3) (.v 4)))) (.v 5))))) rfl,fun N2 tk2=>?_⟩
    refine ⟨[(lc,D1),(cr,ac (.ref rw)),(rw,lst (bJ rs) re)]++(bV rs++(c8 m'++(bv (cw++ [(d,cs,de)])++(F++(X++X'))))),?_,cw++ [(d,cs,de)],D1,m',X++X',?_,?_,?_,.inr ⟨_,aQ⟩,rfl⟩
    · have e:bv (cw++ [(d,cs,de)])=bv cw++ [(d,lst (cs.map iv) de)]:=by unfold bv;rw [A0];rfl
      exact bk [_,_,_,_,_] [_,_,_,_,_,_,_] (.a .z (.a (.l [0,1,2,3,4] .z) (.a (.v 0) (.a (.v 1) (.a (.v 2) (.a (.v 3) (.a (.v 4) (.v 5)))))))) (.a (.l [0] .z) (.a (.l [2,3,4] .z) (.a (.v 0) (.a (.v 1) (.a (.v 6) (.a (.v 3) (.a (.v 4) (.v 5)))))))) (.a (.v 2) (.l [1] .z)) (.v 6) ((P1 (e ..)).symm) rfl
    · unfold bI;rw [A0];rfl
    · obtain ⟨hi',e2⟩:=C1.mp hq
      rw [N0,O1,hl,C4,C4,aH];lia
    · have e:cq (cw++ [(d,cs,de)])=cq cw++ [cs.map (·.1)]:=by unfold cq;rw [A0];rfl
      have hcl:(cq cw).length=cw.length:=B0 _
      intro j c hj
      rw [e] at hj
      by_cases h:j < cw.length
      · rw [S7 (by lia)] at hj
        exact hC j c hj
      · have hj2:=hj
        rw [Q3 (by lia)] at hj2
        have h0:j - (cq cw).length=0:=by
          obtain ⟨hh,_⟩:=C1.mp hj2
          simpa using hh
        have hj3:j=i:=by lia
        rw [h0] at hj2
        cases hj2
        rw [hj3]
        exact hc
  · rintro vs ep L ⟨cw,D,m,X,rfl,hl,hC,hD,rfl⟩
    rw [C3,aH] at hl
    exact ⟨_,[(it,cN (rs.length:Nat) 0)],by exact aO [_,_,_,_,_] [_,_,_,_,_] (.l [0] (.a (.l [1] .z) (.a (.l [2,3,4] .z) (.a (.v 0) (.a (.v 1) (.a (.v 2) (.a (.v 3) (.v 4)))))))) (.a (.a (.l [0,2,3,4] .z) (.a (.v 0) (.a (.v 2) (.a (.v 1) (.a (.v 3) (.v 4)))))) (.l [1] .z)) rfl,hQ cw ep D m X hD hl hC⟩
end
noncomputable def ee (c:List Int):List Int:=c.map fun j=>0 - j
noncomputable def dY (c:List Int):List Int:=(c.length:Nat)::c
noncomputable def gS (g:List Int→List Int) (C:List (List Int)) (j:Int):List Int:=g (C.getD j.toNat [])
theorem tR {kv:List (Nat × List (Int × Nat) × Nat)} (hn:(kv.map (·.1)).Nodup) (T:List (List Int)) (hT:T=cq kv):(bI kv).map (f8 (lg kv))=(cq kv).map fun x=>(ng T x:Int):=by
  subst hT
  unfold bI
  conv=>rhs;arg 2;unfold cq
  rw [U1,U1]
  refine Z1 fun q hq=>?_
  show f8 (lg kv) (.ref q.1)=_
  unfold f8
  rw [lf hn hq];rfl
theorem ij (g:List Int→List Int) (C:List (List Int)) {β:Type} (h:List Int→β):(bT C.length).map (fun j=>h (gS g C j))=(C.map g).map h:=by
  refine C9 fun j=>?_
  rw [V0,cJ?,V0,V0]
  by_cases hj:j < C.length
  · rw [if_pos hj,O0 hj]
    show some (h (g (C.getD (Int.toNat (j:Int)) [])))=some (h (g C[j]))
    rw [W0,I1,O0 hj];rfl
  · rw [if_neg hj,V3 (by lia)];rfl
noncomputable def l6 (g:List Int→List Int) (C:List (List Int)) (zs:List Int):Prop:=zs.Perm (bT C.length)∧zs.Pairwise fun a b=>et (gS g C a) (gS g C b)=true
section
variable {w:World} {b1 b2 b3:Bool} {bel bel2:ag→Prop} {F M B:af} {Q:Result→af→Prop}
theorem mq {rg t u v f:Nat} (g:List Int→List Int) (cw:List (Nat × List (Int × Nat) × Nat)) (hn:cw.length≤20) (hg:((cq cw).map g).Nodup) (hb:∀l,bel l→l.length≤70) (hb2:∀l:ag,l.length≤72→bel2 l)
    (hcall:∀(x tx:Nat) (q:Nat × List (Int × Nat) × Nat),cw[x]?=some q→∀(F':af),Con w b1 b2 b3 bel2 (.call (.ref f) ⟨[.int x tx],[]⟩) (B++(bv cw++F')) (lF fun k L'=>∃(r er:Nat) (us:List (Int × Nat)) (X:af),k= .ref r∧us.map (·.1)=g (q.2.1.map (·.1))∧L'=(r,lst (us.map iv) er)::(B++(bv cw++(F'++X)))))
    (hp:([(rg,iZ cw.length t u v)]++(B++(bv cw++F))).Perm M)
    (hQ:∀(D de:Nat) (zs:List (Int × Nat)) (X:af),l6 g (cq cw) (zs.map (·.1))→Q (.ok (.ret (.ref D))) ([(D,lst (zs.map iv) de)]++(B++(bv cw++(F++X))))):
    Con w b1 b2 b3 bel (.call (.builtin "sorted") ⟨[.ref rg],[(tM,.ref f)]⟩) M Q:=by
  have hcl:(cq cw).length=cw.length:=B0 _
  refine Con.lax (Con.perm (iF (L:=B++(bv cw++([(rg,iZ cw.length t u v)]++(F++(bv ([]:List (Nat × List (Int × Nat) × Nat))++ []))))) (bel2:=bel2) (C:=fun xs L'=>L'=B++(bv cw++([(rg,iZ cw.length t u v)]++(F++(bv ([]:List (Nat × List (Int × Nat) × Nat))++ []))))∧∃ps:List (Int × Nat),xs=ps.map iv∧ps.map (·.1)=bT cw.length) (fun l h=>by have:=hb l h;exact lk this rfl) (fun c p c' p' l h=>hb2 _ (by have:=hb l h;rw [J0,J0];lia)) (fun c0 below h=>mJ h (t:=t) (u:=u) (v:=v) (by exact lk hn rfl) (by simp)) ?_) (List.Perm.trans (by exact aO [_] [_,_,_] (.a (.v 0) (.a (.v 1) (.a (.l [0] .z) (.a (.v 2) (.a .z .z))))) (.a (.l [0] .z) (.a (.v 0) (.a (.v 1) (.v 2)))) rfl) hp))
  rintro _ _ ⟨rfl,ps,rfl,hps⟩
  have hpl:ps.length=cw.length:=by have:=congrArg List.length hps;rwa [B0,aH] at this
  refine ⟨by rw [B0];lia,fun ks L=>∃(kv:List (Nat × List (Int × Nat) × Nat)) (X:af),ks=bI kv∧cq kv=((cq cw).take ks.length).map g∧L=B++(bv cw++([(rg,iZ cw.length t u v)]++(F++(bv kv++X)))),?_,?_,?_⟩
  · exact ⟨[],[],rfl,rfl,rfl⟩
  · rintro _ v _ hv ⟨kv,X,rfl,hT,rfl⟩
    have hvl:(bI kv).length=kv.length:=B0 _
    rw [hvl,V0] at hv
    obtain ⟨q,hq,rfl⟩:=V2.mp hv
    have hq1:(bT cw.length)[kv.length]?=some q.1:=by rw [←hps,V0,hq];rfl
    obtain ⟨hlt,e1⟩:=cJ hq1
    have hc:=hcall kv.length q.2 cw[kv.length] (O0 hlt) ([(rg,iZ cw.length t u v)]++(F++(bv kv++X)))
    have e2:iv q= .int (kv.length:Nat) q.2:=by rw [←e1]
    rw [e2]
    refine Con.out hc ?_
    rintro _ _ ⟨k,rfl,r,er,us,X',rfl,hus,rfl⟩
    refine ⟨B++(bv cw++([(rg,iZ cw.length t u v)]++(F++(bv (kv++ [(r,us,er)])++(X++X'))))),[],?_,_,rfl,kv++ [(r,us,er)],X++X',?_,?_,rfl⟩
    · have e:bv (kv++ [(r,us,er)])=bv kv++ [(r,lst (us.map iv) er)]:=by unfold bv;rw [A0];rfl
      exact bk [_,_] [_,_,_,_,_,_,_] (.l [0] (.a (.v 0) (.a (.v 1) (.a (.a (.l [1] .z) (.a (.v 2) (.a (.v 3) (.v 4)))) (.v 5))))) (.a (.a (.v 0) (.a (.v 1) (.a (.l [1] .z) (.a (.v 2) (.a (.v 6) (.a (.v 4) (.v 5))))))) .z) (.a (.v 3) (.l [0] .z)) (.v 6) ((P1 (e ..)).symm) rfl
    · unfold bI;rw [A0];rfl
    · have e:cq (kv++ [(r,us,er)])=cq kv++ [us.map (·.1)]:=by unfold cq;rw [A0];rfl
      rw [e,hT,hvl,N0,O1,hvl,Y1 (by lia),A0,hus]
      congr 2
      simp [cq]
  · rintro _ _ hl ⟨kv,X,rfl,hT,rfl⟩ hnd
    have hvl:(bI kv).length=kv.length:=B0 _
    rw [B0,hvl] at hl
    rw [hvl,hl,hpl,←hcl,C3] at hT
    have hsub:(bv kv).Sublist (B++(bv cw++([(rg,iZ cw.length t u v)]++(F++(bv kv++X))))):=(C2 _ X).trans ((X4 F _).trans ((X4 [(rg,iZ cw.length t u v)] _).trans ((X4 (bv cw) _).trans (X4 B _))))
    have hka:(kv.map (·.1)).Nodup:=by
      have:=hnd.sublist (hsub.map _)
      have e:(bv kv).map (·.1)=kv.map (·.1):=by unfold bv;rw [U1];rfl
      rwa [e] at this
    refine ⟨lg kv,nk kv (by rw [hT];exact hg) (fun q hq=>hsub.subset hq) hka,fun qs h1 h2 D de=>?_⟩
    have hr:(bI kv).map (f8 (lg kv))=ps.map fun q=>(fun j=>(ng (cq kv) (gS g (cq cw) j):Int)) q.1:=by
      rw [tR hka _ rfl]
      have e3:(ps.map fun q=>(fun j=>(ng (cq kv) (gS g (cq cw) j):Int)) q.1)=(ps.map (·.1)).map fun j=>(ng (cq kv) (gS g (cq cw) j):Int):=by rw [U1];rfl
      rw [e3,hps,←hcl,ij g (cq cw) (fun x=>(ng (cq kv) x:Int)),←hT]
    obtain ⟨zs,z1,z2,z3⟩:=je (g:=fun j=>(ng (cq kv) (gS g (cq cw) j):Int)) hr h1 h2
    rw [z1]
    have hzm:∀z∈zs,gS g (cq cw) z.1∈cq kv:=by
      intro z hz
      have h3:z.1∈bT (cq cw).length:=by rw [hcl,←hps];exact X0 (z2.mem_iff.mp hz)
      rw [hT,←B5 ((cq cw).map g),←ij g (cq cw) id]
      exact X0 (f:=fun j=>id (gS g (cq cw) j)) h3
    have hS:l6 g (cq cw) (zs.map (·.1)):=⟨by rw [hcl,←hps];exact z2.map _,by
      rw [S5]
      refine z3.imp_of_mem fun {a b} ha hb h=>?_
      rw [←nQ (hzm a ha) (hzm b hb)]
      exact decide_eq_true h⟩
    exact ⟨_,[],by exact aO [_,_] [_,_,_,_,_] (.l [0] (.a (.v 0) (.a (.v 1) (.a (.l [1] .z) (.a (.v 2) (.a (.v 3) (.v 4))))))) (.a (.a (.l [0] .z) (.a (.v 0) (.a (.v 1) (.a (.v 2) (.a (.l [1] .z) (.a (.v 3) (.v 4))))))) .z) rfl,hQ D de zs ([(rg,iZ cw.length t u v)]++(bv kv++X)) hS⟩
end
section
variable {w:World} {b1 b2 b3:Bool} {bel:ag→Prop} {F M:af} {Q:Result→af→Prop}
theorem rj {cw:List (Nat × List (Int × Nat) × Nat)} {n:Nat} {q:Nat × List (Int × Nat) × Nat} (h:cw[n]?=some q):(bI cw)[n]?=some (.ref q.1):=by unfold bI;rw [V0,h];rfl
theorem p6 {f cc co tt c0 ce ct:Nat} {cv:Value} {cl:List Value} (cw:List (Nat × List (Int × Nat) × Nat)) (hn:cw.length≤20) (hr:∀q∈cw,q.2.1.length≤100) (x tx:Nat) (q:Nat × List (Int × Nat) × Nat) (hq:cw[x]?=some q) (F':af):
    Con w b1 b2 b3 (fun l=>l.length≤80) (.call (.ref f) ⟨[.int x tx],[]⟩) ([(f,im cc co tt),(co,eM cv ct cl),(cc,ac (.ref c0)),(c0,lst (bI cw) ce)]++(bv cw++F')) (lF fun k L'=>∃(r er:Nat) (us:List (Int × Nat)) (X:af),k= .ref r∧us.map (·.1)=ee (q.2.1.map (·.1))∧L'=(r,lst (us.map iv) er)::([(f,im cc co tt),(co,eM cv ct cl),(cc,ac (.ref c0)),(c0,lst (bI cw) ce)]++(bv cw++(F'++X)))):=by
  have hvl:(bI cw).length=cw.length:=B0 _
  have hqm:=J1 hq
  obtain ⟨R,hR⟩:=ed (fun q:Nat × List (Int × Nat) × Nat=>(q.1,lst (q.2.1.map iv) q.2.2)) hqm
  have hR:(bv cw).Perm ((q.1,lst (q.2.1.map iv) q.2.2)::R):=hR
  have hql:=hr q hqm
  refine Con.lax (uN f cc co tt c0 ce x q.1 q.2.2 ct cv cl x tx (bI cw) (q.2.1.map iv) rfl (rj hq) (by omega) (fun l h=>by omega) (bel':=fun l=>l.length≤89) (fun l l' h h'=>by omega) (F:=R++F') (by exact bk [_,_,_,_,_] [_,_,_] (.a (.l [1,2,3,4,0] .z) (.a (.v 1) (.v 2))) (.a (.l [1,2,3,4] .z) (.a (.v 0) (.v 2))) (.l [0] (.v 1)) (.v 0) (hR.symm) rfl) fun N tk F5 D8 hN hF5 xo=>?_)
  refine dv (lc:=N+3) (R:= [(f,im cc co tt),(co,eM cv ct cl),(cc,ac (.ref c0)),(c0,lst (bI cw) ce),(N+0,F5)]++(R++F')) (fun q y=>∃t,y= .int (0 - q) t) (fun D=>bx w.2 [] [[fF]] D) xo (fun l h=>by omega) (by rw [B0];omega) (Iter.listI (N+1) q.1 q.2.2 q.2.1) ?_ ?_ ?_
  · rintro i y hy v ⟨ty,rfl⟩ D hD c' below2 hbl2
    refine xQ (N+0) (N+3) co y ty hD (by omega) (F:= [(N+1,b8 "list_iterator" (.ref q.1) (i+1)),(q.1,lst (q.2.1.map iv) q.2.2),(f,im cc co tt),(co,eM cv ct cl),(cc,ac (.ref c0)),(c0,lst (bI cw) ce),(N+0,F5)]++(R++F')) (by exact aO [_,_,_,_,_,_,_,_] [_,_] (.a (.l [0] .z) (.a (.l [1,2,3,4,5,6,7] .z) (.a (.v 0) (.v 1)))) (.a (.l [1,2] .z) (.l [0] (.a (.l [3,4,5,6,7] .z) (.a (.v 0) (.v 1))))) rfl) fun N2 tk2 D2 gT=>⟨⟨_,rfl⟩,D2,.inr ⟨_,gT⟩,?_⟩
    exact aO [_,_,_,_,_,_,_,_] [_,_] (.a (.l [0] .z) (.a (.l [1,2,3,4,5,6,7] .z) (.a (.v 0) (.v 1)))) (.a (.l [1,2] .z) (.l [0] (.a (.l [3,4,5,6,7] .z) (.a (.v 0) (.v 1))))) rfl
  · exact aO [_,_,_,_,_,_,_,_,_] [_,_] (.l [0] (.a (.l [1,2] .z) (.l [3] (.a (.l [4,5,6,7,8] .z) (.a (.v 0) (.v 1)))))) (.a (.l [4,5,6,7,2,8,1,0,3] .z) (.a (.v 0) (.v 1))) rfl
  · intro vs ep D hD ha
    obtain ⟨us,rfl,hus⟩:=All2.ints ha
    refine ⟨D,[(N+2,lst (us.map iv) ep),(N+1,b8 "list_iterator" .none q.2.1.length),(q.1,lst (q.2.1.map iv) q.2.2),(f,im cc co tt),(co,eM cv ct cl),(cc,ac (.ref c0)),(c0,lst (bI cw) ce),(N+0,F5)]++(R++F'),rfl,hD,by exact aO [_,_,_,_,_,_,_,_,_] [_,_] (.a (.l [0] .z) (.a (.l [1,2,3,4,5,6,7,8] .z) (.a (.v 0) (.v 1)))) (.l [1] (.a (.l [2,3] .z) (.l [0] (.a (.l [4,5,6,7,8] .z) (.a (.v 0) (.v 1)))))) rfl,fun N1 tk1=>?_⟩
    exact ⟨_,[],by exact bk [_,_,_,_,_,_,_,_] [_,_,_] (.a .z (.a (.l [1,2,0,3,4,5,6,7] .z) (.a (.v 1) (.v 2)))) (.a (.l [1] (.a (.l [3,4,5,6] .z) (.a (.v 0) (.a (.v 2) (.l [2,7] .z))))) .z) (.l [0] (.v 1)) (.v 0) (hR.symm) rfl,_,rfl,N+2,ep,us,[(N+1,b8 "list_iterator" .none q.2.1.length),(N+0,F5)],rfl,by rw [hus];rfl,rfl⟩
theorem ot {f cc co tt c0 ce ct:Nat} {cv:Value} {cl:List Value} (cw:List (Nat × List (Int × Nat) × Nat)) (hn:cw.length≤20) (hr:∀q∈cw,q.2.1.length≤100) (x tx:Nat) (q:Nat × List (Int × Nat) × Nat) (hq:cw[x]?=some q) (F':af):
    Con w b1 b2 b3 (fun l=>l.length≤80) (.call (.ref f) ⟨[.int x tx],[]⟩) ([(f,mo cc co tt),(co,eM cv ct cl),(cc,ac (.ref c0)),(c0,lst (bI cw) ce)]++(bv cw++F')) (lF fun k L'=>∃(r er:Nat) (us:List (Int × Nat)) (X:af),k= .ref r∧us.map (·.1)=dY (q.2.1.map (·.1))∧L'=(r,lst (us.map iv) er)::([(f,mo cc co tt),(co,eM cv ct cl),(cc,ac (.ref c0)),(c0,lst (bI cw) ce)]++(bv cw++(F'++X)))):=by
  have hvl:(bI cw).length=cw.length:=B0 _
  have hqm:=J1 hq
  obtain ⟨R,hR⟩:=ed (fun q:Nat × List (Int × Nat) × Nat=>(q.1,lst (q.2.1.map iv) q.2.2)) hqm
  have hR:(bv cw).Perm ((q.1,lst (q.2.1.map iv) q.2.2)::R):=hR
  have hql:=hr q hqm
  have hml:(q.2.1.map iv).length=q.2.1.length:=B0 _
  refine Con.lax (q6 f cc co tt c0 ce x q.1 q.2.2 ct cv cl x tx (bI cw) (q.2.1.map iv) rfl (rj hq) (by omega) (by omega) (fun l h=>by omega) (F:=R++F') (by exact bk [_,_,_,_,_] [_,_,_] (.a (.l [1,2,3,4,0] .z) (.a (.v 1) (.v 2))) (.a (.l [1,2,3,4] .z) (.a (.v 0) (.v 2))) (.l [0] (.v 1)) (.v 0) (hR.symm) rfl) fun N tk=>?_)
  refine ⟨(N+2,lst (((((q.2.1.length:Nat):Int),tk+2)::q.2.1).map iv) 0)::([(f,mo cc co tt),(co,eM cv ct cl),(cc,ac (.ref c0)),(c0,lst (bI cw) ce)]++(bv cw++(F'++ []))),[],?_,_,rfl,N+2,0,(((q.2.1.length:Nat):Int),tk+2)::q.2.1,[],rfl,?_,rfl⟩
  · have e: [Value.int ((q.2.1.map iv).length:Nat) (tk+2)]++q.2.1.map iv=((((q.2.1.length:Nat):Int),tk+2)::q.2.1).map iv:=by rw [hml];rfl
    rw [e]
    exact bk [_,_,_,_,_,_] [_,_,_] (.a (.l [1,2,3,4,0,5] .z) (.a (.v 1) (.v 2))) (.a (.l [5] (.a (.l [1,2,3,4] .z) (.a (.v 0) (.a (.v 2) .z)))) .z) (.l [0] (.v 1)) (.v 0) (hR.symm) rfl
  · show _=dY _
    unfold dY
    rw [B0];rfl
end
noncomputable def kj (r:List Int):PyData:=.list (r.map .int)
theorem nP (ps:List (Int × Nat)):kj (ps.map (·.1))= .list (ps.map fun q=>.int q.1):=by
  unfold kj;rw [U1];rfl
theorem io:∀l:List Int,O2 (l.map .int)=true
  | []=>by simp [O2]
  | q::l=>by simp only [H0,O2,X3,io l,Bool.and_self]
theorem iM:∀l:List Int,Y4 (l.map .int)=0
  | []=>by simp [Y4]
  | q::l=>by simp [Y4,K6,iM l]
theorem kJ:∀l:List Int,J7 (l.map .int) (l.map .int)=true
  | []=>by simp [J7]
  | q::l=>by simp [J7,M5,kJ l]
theorem oV (x y:Expr) (pos:Pos) (env:Env):eval (.BoolOp .And [x,y] pos) env=(eval x env>>=fun v=>standAt pos>>=fun _=>holding [v] (truthy v)>>=fun t=>match BoolOp.And,t with | .And,false | .Or,true=>pure v | _,_=>eval y env):=rfl
noncomputable def eQ (K:List Ky):List (List Int):=ox K.length fun a b=>ew (atK K a) (atK K b)
structure lG (K:List Ky):Prop where
  pos:0 < K.length
  nd:K.Nodup
  row:∀r∈eQ K,r.length≤7
  rank:∃rank:Int→Nat,∀a∈cy (eQ K),∀k∈a.2.2,rank k < rank a.1∧k∈(cy (eQ K)).map (·.1)
  deep:∀C:List (List Int),C.length=K.length→fx K C→(C.map ee).Nodup∧∀zs,l6 ee C zs→∃n,RunV true n (eI (eQ K)) zs
  wide:∀C:List (List Int),C.length=K.length→fx K C→(C.map dY).Nodup∧∀zs,l6 dY C zs→∃n,RunV false n (eI (eQ K)) zs
section
variable {w:World} {b1 b2 b3:Bool} {bel:ag→Prop} {F M:af} {Q:Result→af→Prop}
theorem vt {L:af} {x y:Expr} {pos:Pos} {env:Env} {c:Code} {below:ag} (hbl:below.length≤150) {Q:Value→af→Prop} (h:Tr w b1 b2 b3 (cx c below) (eval x env) L fun v L1=>v= .bool true∧Tr w b1 b2 b3 (cx c below) (eval y env) L1 Q):Tr w b1 b2 b3 (cx c below) (eval (.BoolOp .And [x,y] pos) env) L Q:=by
  rw [oV]
  refine Tr.bind (Tr.mono h ?_)
  rintro v L1 ⟨rfl,h⟩
  refine Tr.bind (Tr.standAt (Tr.bind (Tr.holding (Tr.any hbl fun A s _ _ hs=>wpAny_truthy_bool ⟨_,.refl hs,?_⟩))))
  exact h
theorem mL {c:Code} {below:ag} {Q:Value→af→Prop} {L:af} {g0 d ge de:Nat} (hbl:below.length≤150) (gs ds:List (Int × Nat)) (he:gs.map (·.1)=ds.map (·.1)) (h1:(g0,lst (gs.map iv) ge)∈L) (h2:(d,lst (ds.map iv) de)∈L) (h:Q (.bool true) L):Tr w b1 b2 b3 (cx c below) (compareOp .Eq (.ref g0) (.ref d)) L Q:=by
  have e7:M5 (kj (gs.map (·.1))) (kj (ds.map (·.1)))=true:=by rw [he];unfold kj;rw [M5,kJ]
  refine mN (da:=kj (gs.map (·.1))) (db:=kj (ds.map (·.1))) hbl (by rw [nP];exact Rd.list h1 (RdAll.ints gs)) (by rw [nP];exact Rd.list h2 (RdAll.ints ds)) (by unfold kj;rw [X3];exact io _) (by unfold kj;rw [X3];exact io _) (by simp only [kj,K6,iM];omega) ?_
  rw [e7]
  exact h
end
section
variable {w:World} {b1 b2 b3:Bool} {bel:ag→Prop} {F M:af} {Q:Result→af→Prop}
noncomputable abbrev fL3 (sc ab dp wd:Nat):List (PySem.Str × Value):= [(sf,.ref sc),(s7,.ref ab),(sX,.ref dp),(rV,.ref wd)]
theorem qK {fr cc cm cz cr sc ab dp wd ae de we:Nat} {below:ag} {c:Code} {Q:Flow→af→Prop} (cv:List (Nat × List (Int × Nat) × Nat)) (hn0:0 < cv.length) (hn8:cv.length≤8) (hrow:∀q∈cv,q.2.1.length≤7) (rank:Int→Nat)
    (hA:∀a∈cy (cq cv),∀k∈a.2.2,rank k < rank a.1∧k∈(cy (cq cv)).map (·.1)) (ds ws:List (Int × Nat)) (hdl:ds.length≤100) (hwl:ws.length≤100) {n1 n2:Nat} (r1:RunV true n1 (eI (cq cv)) (ds.map (·.1))) (r2:RunV false n2 (eI (cq cv)) (ws.map (·.1)))
    (henv:dH (bc fr cc cm cz cr) fr) (hfe':∀q,cX ((c,q)::below)= [bc fr cc cm cz cr]) (hbl:below.length≤8) {F0:Obj} (hF0:FrO w.2 (fL3 sc ab dp wd) [] F0)
    (hp:([(fr,F0),(ab,lst (bI cv) ae),(dp,lst (ds.map iv) de),(wd,lst (ws.map iv) we)]++(bv cv++F)).Perm M)
    (hQ:∀X,Q (.ret (.bool true)) (F++X)):Tr w b1 b2 b3 (cx c below) (execs [bN 7] (bc fr cc cm cz cr)) M Q:=by
  refine Tr.lax ?_
  refine Tr.single (wE (vt (x:=bA (dI (bN 7)) 0) (y:=bA (dI (bN 7)) 1) (by omega) ?_))
  refine jI (l:=bA (bA (dI (bN 7)) 0) 0) (r:=bA (bA (dI (bN 7)) 0) 1) (op:=.Eq) rfl ?_
  refine ui fr cc cm cz cr sc ab dp wd hF0 (by omega) (bel':=fun l=>l.length≤20∧cX l= [bc fr cc cm cz cr]) (fun q=>⟨by rw [J0];omega,hfe' q⟩) (F:= [(ab,lst (bI cv) ae),(dp,lst (ds.map iv) de),(wd,lst (ws.map iv) we)]++(bv cv++F)) (by exact bk [_,_,_,_] [_,_,_] (.a (.l [0] .z) (.a (.l [1,2,3] .z) (.a (.v 0) (.v 1)))) (.v 2) (.a (.l [0,1,2,3] .z) (.a (.v 0) (.v 1))) (.v 2) hp rfl) fun N1 tk1 F1 hN1 hF1=>?_
  obtain ⟨es1,fe1,sl1,rfl⟩:=FrO.shape hF1
  refine nK (es:= [bc fr cc cm cz cr]) (OL:= [(fr,gA es1 fe1 sl1)]) true rank cv (fun l h=>h) ⟨fr,es1,fe1,sl1,[],henv,rfl,rfl⟩ hn0 hn8 hrow hA r1 (by rw [B0];exact hdl) (ae:=ae) (F:= [(dp,lst (ds.map iv) de),(wd,lst (ws.map iv) we)]++F) (by exact aO [_,_,_,_] [_,_] (.a (.l [0] .z) (.a (.l [1] .z) (.a (.v 0) (.a (.l [2,3] .z) (.v 1))))) (.a (.l [0] .z) (.a (.l [1,2,3] .z) (.a (.v 0) (.v 1)))) rfl) ?_
  rintro OL2 g1 ge1 gs ⟨es2,fe2,sl2,sl2',OL3,xI,rfl,hOL3⟩ hg1
  injection xI with _ _ xI _
  injection xI with xI e15
  injection xI with xI
  subst xI e15
  cases hOL3
  refine ⟨g1,[(g1,lst (gs.map iv) ge1),(fr,gA es1 fe1 sl2'),(ab,lst (bI cv) ae),(dp,lst (ds.map iv) de),(wd,lst (ws.map iv) we)]++(bv cv++F),rfl,by exact aO [_,_,_,_,_] [_,_] (.a .z (.a (.l [0,1,2,3,4] .z) (.a (.v 0) (.v 1)))) (.a (.l [1] .z) (.a (.l [0,2] .z) (.a (.v 0) (.a (.l [3,4] .z) (.v 1))))) rfl,fun N2 tk2=>?_⟩
  refine qI fr cc cm cz cr sc ab dp wd (FrO.same hF1:FrO w.2 (fL3 sc ab dp wd) [] (gA es1 fe1 sl2')) (by omega) (F:= [(g1,lst (gs.map iv) ge1),(ab,lst (bI cv) ae),(dp,lst (ds.map iv) de),(wd,lst (ws.map iv) we)]++(bv cv++F)) (by exact aO [_,_,_,_,_] [_,_] (.a (.l [0] .z) (.a (.l [1,2,3,4] .z) (.a (.v 0) (.v 1)))) (.a .z (.a (.l [1,0,2,3,4] .z) (.a (.v 0) (.v 1)))) rfl) fun N3 tk3 F3 hF3=>?_
  refine mL (by omega) gs ds hg1 (ge:=ge1) (de:=de) (by simp) (by simp) ⟨rfl,?_⟩
  refine jI (l:=bA (bA (dI (bN 7)) 1) 0) (r:=bA (bA (dI (bN 7)) 1) 1) (op:=.Eq) rfl ?_
  refine uh fr cc cm cz cr sc ab dp wd hF3 (by omega) (bel':=fun l=>l.length≤20∧cX l= [bc fr cc cm cz cr]) (fun q=>⟨by rw [J0];omega,hfe' q⟩) (E0 _) fun N4 tk4 F4 hN4 hF4=>?_
  obtain ⟨es4,fe4,sl4,rfl⟩:=FrO.shape hF4
  refine nK (es:= [bc fr cc cm cz cr]) (OL:= [(fr,gA es4 fe4 sl4)]) false rank cv (fun l h=>h) ⟨fr,es4,fe4,sl4,[],henv,rfl,rfl⟩ hn0 hn8 hrow hA r2 (by rw [B0];exact hwl) (ae:=ae) (F:= [(g1,lst (gs.map iv) ge1),(dp,lst (ds.map iv) de),(wd,lst (ws.map iv) we)]++F) (by exact aO [_,_,_,_,_] [_,_] (.a (.l [0] .z) (.a (.l [1] .z) (.a (.v 0) (.a (.l [2,3,4] .z) (.v 1))))) (.a (.l [0] .z) (.a (.l [2,1,3,4] .z) (.a (.v 0) (.v 1)))) rfl) ?_
  rintro OL5 g2 ge2 hs ⟨es5,fe5,sl5,sl5',OL6,xH,rfl,hOL6⟩ hg2
  injection xH with _ _ xH _
  injection xH with xH e17
  injection xH with xH
  subst xH e17
  cases hOL6
  refine ⟨g2,[(g2,lst (hs.map iv) ge2),(fr,gA es4 fe4 sl5'),(g1,lst (gs.map iv) ge1),(ab,lst (bI cv) ae),(dp,lst (ds.map iv) de),(wd,lst (ws.map iv) we)]++(bv cv++F),rfl,by exact aO [_,_,_,_,_,_] [_,_] (.a .z (.a (.l [0,1,2,3,4,5] .z) (.a (.v 0) (.v 1)))) (.a (.l [1] .z) (.a (.l [0,3] .z) (.a (.v 0) (.a (.l [2,4,5] .z) (.v 1))))) rfl,fun N5 tk5=>?_⟩
  refine qH fr cc cm cz cr sc ab dp wd (FrO.same hF4:FrO w.2 (fL3 sc ab dp wd) [] (gA es4 fe4 sl5')) (by omega) (F:= [(g2,lst (hs.map iv) ge2),(g1,lst (gs.map iv) ge1),(ab,lst (bI cv) ae),(dp,lst (ds.map iv) de),(wd,lst (ws.map iv) we)]++(bv cv++F)) (by exact aO [_,_,_,_,_,_] [_,_] (.a (.l [0] .z) (.a (.l [1,2,3,4,5] .z) (.a (.v 0) (.v 1)))) (.a .z (.a (.l [1,0,2,3,4,5] .z) (.a (.v 0) (.v 1)))) rfl) fun N6 tk6 F6 hF6=>?_
  refine mL (by omega) hs ws hg2 (ge:=ge2) (de:=we) (by simp) (by simp) ?_
  exact ⟨F++([(fr,F6),(g2,lst (hs.map iv) ge2),(g1,lst (gs.map iv) ge1),(ab,lst (bI cv) ae),(dp,lst (ds.map iv) de),(wd,lst (ws.map iv) we)]++bv cv),[],by exact aO [_,_,_,_,_,_] [_,_] (.a (.l [0] .z) (.a (.l [1,2,3,4,5] .z) (.a (.v 0) (.v 1)))) (.a (.a (.v 1) (.a (.l [0,1,2,3,4,5] .z) (.v 0))) .z) rfl,hQ _⟩
end
section
variable {w:World} {b1 b2 b3:Bool} {bel:ag→Prop} {F M:af} {Q:Result→af→Prop}
theorem xe {sc ve:Nat} (ps:List (Int × Nat)) (hpl:ps.length≤1000) (hgood:∀K:List Ky,K=gG (2::1::(ps.map (·.1)).take 14)→lG K)
    (hb:∀l,bel l→l.length≤3∧cX l= []) (hp:([(sc,lst (ps.map iv) ve)]++(c8 none++([(215,br [])]++F))).Perm M)
    (hQ:∀(m:vC) (ms:List Value) (X:af),Q (.ok (.ret (.bool true))) ([(sc,lst (ps.map iv) ve)]++(c8 m++([(215,br ms)]++X)))):Con w b1 b2 b3 bel (.call (.ref rS) ⟨[.ref sc],[]⟩) M Q:=by
  have hb':∀l,bel l→l.length≤96:=fun l h=>by have:=(hb l h).1;exact lk this rfl
  refine ug sc hb' (F:=M) (E0 _) fun N tk F0 hN hF0=>?_
  have henv:dH (bc (N+0) (N+4) (N+3) (N+2) (N+1)) (N+0):=⟨rfl,by kernel_rfl!,by kernel_rfl!,by kernel_rfl!⟩
  generalize N+0=fr at *
  generalize N+4=cc at *
  generalize N+3=cm at *
  generalize N+2=cz at *
  generalize N+1=cr at *
  refine Con.func fun below ao=>?_
  obtain ⟨hbl,hfe⟩:=hb _ ao
  refine Tr.lax ?_
  refine Tr.cons (xc fr cc cm cz cr sc (ps.map iv) ve (by rw [B0];exact lk hpl rfl) hF0 (by exact lk hbl rfl) (bel':=fun l=>l.length≤20) (fun l hl=>by exact eA hl hbl rfl) (F:= [(cc,bf none),(cm,bf none),(cz,bf none),(215,br [])]++(c8 none++F)) (by exact bk [_,_,_,_,_,_,_] [_,_,_] (.a (.l [2,0,3] .z) (.a (.l [4,5,6,1] .z) (.a (.v 0) (.v 1)))) (.a (.l [2,3,6,5,4] .z) (.v 2)) (.a (.l [0] .z) (.a (.v 0) (.a (.l [1] .z) (.v 1)))) (.v 2) hp rfl) fun N1 tk1 F1 hN1 hF1=>?_)
  have e1:([.int 2 tk1,.int 1 (tk1+1)]++(ps.map iv).take 14:List Value)=(((2:Int),tk1)::(1,tk1+1)::ps.take 14).map iv:=by rw [H0,H0,W7];rfl
  rw [e1]
  refine lD (N1+3) 0 (((2:Int),tk1)::(1,tk1+1)::ps.take 14) (by simp only [J0,C4];lia) (fun l h=>by exact lk h rfl) (F:= [(fr,F1),(sc,lst (ps.map iv) ve),(cr,bf none),(cc,bf none),(cm,bf none),(cz,bf none),(215,br [])]++(c8 none++F)) (by exact aO [_,_,_,_,_,_,_,_] [_,_] (.a (.l [0] .z) (.a (.l [1,2,3,4,5,6,7] .z) (.a (.v 0) (.v 1)))) (.a (.l [1,2,3,0] .z) (.a (.l [4,5,6,7] .z) (.a (.v 0) (.v 1)))) rfl) fun rw_ re rs hok hrl hk=>?_
  have hk:rs.map Ad.key=gG (2::1::(ps.map (·.1)).take 14):=by rw [hk,H0,H0,W7]
  have P:=hgood _ hk
  have hkl:(rs.map Ad.key).length=rs.length:=B0 _
  refine ⟨rw_,[(rw_,lst (bJ rs) re),(fr,F1),(sc,lst (ps.map iv) ve),(cc,bf none),(cm,bf none),(cz,bf none),(215,br [])]++(bV rs++(c8 none++(F++ [(N1+3,lst ((((2:Int),tk1)::(1,tk1+1)::ps.take 14).map iv) 0)]))),rfl,by exact aO [_,_,_,_,_,_,_,_,_] [_,_,_] (.a (.l [0] .z) (.a (.l [1,2,3,4,5,6,7] .z) (.a (.v 0) (.a (.v 1) (.a (.v 2) (.l [8] .z)))))) (.a (.l [1] .z) (.a (.v 0) (.a (.l [8] .z) (.a (.l [2,3,0,4,5,6,7] .z) (.a (.v 1) (.v 2)))))) rfl,fun N2 tk2=>.inl ⟨rfl,?_⟩⟩
  generalize F++ [(N1+3,lst ((((2:Int),tk1)::(1,tk1+1)::ps.take 14).map iv) 0)]=F
  have hvl:(bJ rs).length=rs.length:=B0 _
  refine Tr.cons (xb fr cc cm cz cr sc rw_ re (bJ rs) (by exact j8 hvl hrl rfl) hF1 (by exact lk hbl rfl) (F:= [(sc,lst (ps.map iv) ve),(cc,bf none),(cm,bf none),(215,br [])]++(bV rs++(c8 none++F))) (by exact aO [_,_,_,_,_,_,_,_] [_,_,_] (.a (.l [0,1,2,3] .z) (.a (.l [4,5,6,7] .z) (.a (.v 0) (.a (.v 1) (.v 2))))) (.a (.l [1] .z) (.a (.l [2,0,4,5,6,3,7] .z) (.a (.v 0) (.a (.v 1) (.v 2))))) rfl) fun N3 tk3 F3 hF3=>.inl ⟨rfl,?_⟩)
  rw [hvl]
  generalize tk3+1=tz
  refine Tr.cons (xa fr cc cm cz cr sc hF3 (by exact lk hbl rfl) (bel':=fun l=>l.length≤20) (fun l hl=>by exact eA hl hbl rfl) (F:= [(sc,lst (ps.map iv) ve),(cc,bf none),(cz,ac (.int (rs.length:Nat) tz)),(cr,ac (.ref rw_)),(rw_,lst (bJ rs) re),(215,br [])]++(bV rs++(c8 none++F))) (by exact aO [_,_,_,_,_,_,_,_] [_,_,_] (.a (.l [0,1] .z) (.a (.l [2,3,4,5,6,7] .z) (.a (.v 0) (.a (.v 1) (.v 2))))) (.a (.l [0,5,6,4] .z) (.a (.l [2,3,1,7] .z) (.a (.v 0) (.a (.v 1) (.v 2))))) rfl) fun N4 tk4 F4 hN4 hF4=>?_)
  refine uf (fun l h=>by exact lk h rfl) (F:= [(fr,F4),(cm,bf none),(sc,lst (ps.map iv) ve),(cc,bf none),(cz,ac (.int (rs.length:Nat) tz)),(cr,ac (.ref rw_)),(rw_,lst (bJ rs) re),(215,br [])]++(bV rs++(c8 none++F))) (by exact aO [_,_,_,_,_,_,_,_] [_,_,_] (.a .z (.a (.l [0,1,2,3,4,5,6,7] .z) (.a (.v 0) (.a (.v 1) (.v 2))))) (.a (.l [0,1] .z) (.a (.l [2,3,4,5,6,7] .z) (.a (.v 0) (.a (.v 1) (.v 2))))) rfl) fun N5 tk5=>?_
  refine ⟨N5+1,[(N5+1,i8 (N5+0)),(N5+0,i9 w (tk5+2) (.ref (N5+3)) 1),(fr,F4),(sc,lst (ps.map iv) ve),(cc,bf none),(cz,ac (.int (rs.length:Nat) tz)),(cr,ac (.ref rw_)),(rw_,lst (bJ rs) re),(215,br [])]++(bV rs++(c8 none++F)),rfl,by exact aO [_,_,_,_,_,_,_,_,_,_] [_,_,_] (.a (.l [0] .z) (.a (.l [1,2,3,4,5,6,7,8,9] .z) (.a (.v 0) (.a (.v 1) (.v 2))))) (.a (.l [2,1] .z) (.a (.l [3,0,4,5,6,7,8,9] .z) (.a (.v 0) (.a (.v 1) (.v 2))))) rfl,fun N6 tk6=>.inl ⟨rfl,?_⟩⟩
  generalize N5+1=mg at *
  generalize N5+0=md at *
  generalize tk5+2=e0 at *
  generalize Value.ref (N5+3)=v1 at *
  refine Tr.cons (x9 fr cc cm cz cr sc (rs.length:Nat) tz ⟨by lia,by lia⟩ hF4 (by exact lk hbl rfl) (bel':=fun l=>l.length≤20) (fun l hl=>by exact eA hl hbl rfl) (F:= [(mg,i8 md),(md,i9 w e0 v1 1),(sc,lst (ps.map iv) ve),(cc,bf none),(cm,ac (.ref mg)),(cr,ac (.ref rw_)),(rw_,lst (bJ rs) re),(215,br [])]++(bV rs++(c8 none++F))) (by exact aO [_,_,_,_,_,_,_,_,_,_] [_,_,_] (.a (.l [0,1] .z) (.a (.l [2,3,4,5,6,7,8,9] .z) (.a (.v 0) (.a (.v 1) (.v 2))))) (.a (.l [6] .z) (.a (.l [2,3,0,4,5,1,7,8,9] .z) (.a (.v 0) (.a (.v 1) (.v 2))))) rfl) fun N7 tk7 F7 D7 hN7 hF7 xp=>?_)
  refine yu (rw:=rw_) (re:=re) (mg:=mg) (md:=md) (e0:=e0) (e1:=v1) (e2:=1) rs hok (by exact lk hrl rfl) xp (fun l h=>by exact lk h rfl) (F:= [(fr,F7),(sc,lst (ps.map iv) ve),(cc,bf none),(215,br [])]++(c8 none++F)) (by exact bk [_,_,_,_,_,_,_,_,_,_,_,_,_,_,_] [_,_,_] (.a (.l [0,1,2,3,4,5,6,7,8,9] .z) (.a (.v 0) (.a (.l [10,11,12,13] .z) (.a (.v 1) (.v 2))))) (.a (.l [10,14,0,1,2,3] .z) (.a (.l [8,9,11,12,7,5,6,13] .z) (.a (.v 0) (.a (.v 1) (.v 2))))) (.l [4] .z) (.l [14] .z) ((pe (by rfl))) rfl) fun cv ae D8 xo hT=>?_
  refine ⟨D8,F7,[(N7+2,lst (bI cv) ae),(mg,i8 md),(md,i9 w e0 v1 1),(sc,lst (ps.map iv) ve),(cc,bf none),(cm,ac (.ref mg)),(cz,ac (.int (rs.length:Nat) tz)),(cr,ac (.ref rw_)),(rw_,lst (bJ rs) re),(215,br [])]++(bV rs++(bv cv++(c8 none++F))),rfl,xo,hF7,by exact aO [_,_,_,_,_,_,_,_,_,_,_,_] [_,_,_,_] (.a (.l [0,1] .z) (.a (.l [2,3,4,5,6,7,8,9,10,11] .z) (.a (.v 0) (.a (.v 1) (.a (.v 2) (.v 3)))))) (.a (.l [2,0,8,9,10,7,3,4] .z) (.a (.v 0) (.a (.v 1) (.a (.l [1,5,6,11] .z) (.a (.v 2) (.v 3)))))) rfl,fun N8 tk8 F8 hF8=>.inl ⟨rfl,?_⟩⟩
  generalize N7+2=ab at *
  have hT:cq cv=eQ (rs.map Ad.key):=by rw [hT];unfold eQ;rw [hkl]
  refine Tr.cons (x8 fr cc cm cz cr sc ab (rs.length:Nat) tz ⟨by lia,by lia⟩ hF8 (by exact lk hbl rfl) (bel':=fun l=>l.length≤20) (fun l hl=>by exact eA hl hbl rfl) (F:= [(ab,lst (bI cv) ae),(mg,i8 md),(md,i9 w e0 v1 1),(sc,lst (ps.map iv) ve),(cc,bf none),(cm,ac (.ref mg)),(cr,ac (.ref rw_)),(rw_,lst (bJ rs) re),(215,br [])]++(bV rs++(bv cv++(c8 none++F)))) (by exact aO [_,_,_,_,_,_,_,_,_,_,_] [_,_,_,_] (.a (.l [0,1] .z) (.a (.l [2,3,4,5,6,7,8,9,10] .z) (.a (.v 0) (.a (.v 1) (.a (.v 2) (.v 3)))))) (.a (.l [0] .z) (.a (.l [2,3,4,5,6,7,1,8,9,10] .z) (.a (.v 0) (.a (.v 1) (.a (.v 2) (.v 3)))))) rfl) fun N9 tk9 F9 D9 hN9 hF9 hD9=>?_)
  refine yc (rw:=rw_) (re:=re) rs hok (by exact lk hrl rfl) P.nd hD9 (fun l h=>by exact lk h rfl) (F:= [(fr,F9),(ab,lst (bI cv) ae),(mg,i8 md),(md,i9 w e0 v1 1),(sc,lst (ps.map iv) ve),(cc,bf none),(cm,ac (.ref mg)),(cz,ac (.int (rs.length:Nat) tz)),(215,br [])]++(bv cv++F)) (by exact aO [_,_,_,_,_,_,_,_,_,_,_,_,_,_] [_,_,_,_] (.a (.l [0,1,2,3,4] .z) (.a (.v 0) (.a (.v 1) (.a (.l [5,6,7,8,9,10,11,12,13] .z) (.a (.v 2) (.v 3)))))) (.a (.l [5,12,0,1,2] .z) (.a (.l [6,7,8,9,10,11,3,4,13] .z) (.a (.v 0) (.a (.v 2) (.a (.v 1) (.v 3)))))) rfl) fun cw ce D10 m X10 hD10 hwl hC=>?_
  refine ⟨D10,F9,[(N9+2,lst (bI cw) ce),(ab,lst (bI cv) ae),(mg,i8 md),(md,i9 w e0 v1 1),(sc,lst (ps.map iv) ve),(cm,ac (.ref mg)),(cz,ac (.int (rs.length:Nat) tz)),(cr,ac (.ref rw_)),(rw_,lst (bJ rs) re),(215,br [])]++(bV rs++(bv cv++(bv cw++(c8 m++(F++X10))))),rfl,hD10,hF9,by exact aO [_,_,_,_,_,_,_,_,_,_,_,_,_] [_,_,_,_,_,_] (.a (.l [0,1,2] .z) (.a (.l [3,4,5,6,7,8,9,10,11,12] .z) (.a (.v 0) (.a (.v 1) (.a (.v 2) (.a (.v 3) (.a (.v 4) (.v 5)))))))) (.a (.l [3,0,10,11] .z) (.a (.v 0) (.a (.v 2) (.a (.v 3) (.a (.a (.l [1,4,5,6,7,2,8,9,12] .z) (.a (.v 1) (.v 4))) (.v 5)))))) rfl,fun N10 tk10 cb xn=>.inl ⟨rfl,?_⟩⟩
  generalize N9+2=c0 at *
  generalize F++X10=F
  have hcl:(cq cw).length=cw.length:=B0 _
  have hCl:(cq cw).length=(rs.map Ad.key).length:=by rw [hcl,hkl,hwl]
  obtain ⟨hdn,hdr⟩:=P.deep _ hCl hC
  obtain ⟨hwn,hwr⟩:=P.wide _ hCl hC
  have hrw:∀q∈cw,q.2.1.length≤100:=by
    intro q hq
    obtain ⟨j,hj⟩:=G6.mp hq
    have h1:(cq cw)[j]?=some (q.2.1.map (·.1)):=by unfold cq;rw [V0,hj];rfl
    obtain ⟨zs,e,hz,_⟩:=hC j _ h1
    have h2:=congrArg List.length e
    have h3:=hz.length_eq
    have h4:(di (rs.map Ad.key) j).length≤(rs.map Ad.key).length:=by
      unfold di gt
      refine M0 (J4 _ _) ?_
      rw [aH];exact S0 _
    rw [B0,N0,O1] at h2
    lia
  refine Tr.cons (x7 fr cc cm cz cr sc ab rs.length tz xn (by exact lk hbl rfl) (bel':=fun l=>l.length≤20) (fun l hl=>by exact eA hl hbl rfl) (F:= [(cc,ac (.ref c0)),(c0,lst (bI cw) ce),(ab,lst (bI cv) ae),(mg,i8 md),(md,i9 w e0 v1 1),(sc,lst (ps.map iv) ve),(cm,ac (.ref mg)),(cr,ac (.ref rw_)),(rw_,lst (bJ rs) re)]++(bV rs++(bv cv++(bv cw++(c8 m++F))))) (by exact aO [_,_,_,_,_,_,_,_,_,_,_,_] [_,_,_,_,_] (.a (.l [0,1,2] .z) (.a (.l [3,4,5,6,7,8,9,10,11] .z) (.a (.v 0) (.a (.v 1) (.a (.v 2) (.a (.v 3) (.v 4))))))) (.a (.l [0,3] .z) (.a (.l [4,5,6,7,8,9,1,10,11,2] .z) (.a (.v 0) (.a (.v 1) (.a (.v 2) (.a (.v 3) (.v 4))))))) rfl) fun N11 tk11 fT hN11 xm=>?_)
  rw [←hwl]
  refine mq (bel2:=fun l=>l.length≤80) ee cw (by exact j8 hwl hrl rfl) hdn (fun l h=>by exact lk h rfl) (fun l h=>by exact lk h rfl) (p6 (f:=N11+6) (cc:=cc) (co:=N11+5) (tt:=N11+1) (c0:=c0) (ce:=ce) (cv:=(.str sn (tk11+2))) (ct:=tk11+3) (cl:=nw N11 tk11 189) cw (by exact j8 hwl hrl rfl) hrw) (rg:=N11+0) (t:=tk11) (u:=tz) (v:=tk11+1) (F:= [(fr,fT),(cz,ac (.int (cw.length:Nat) tz)),(215,br [.int 189 0,.int 35 0,.ref (N11+5)]),(ab,lst (bI cv) ae),(mg,i8 md),(md,i9 w e0 v1 1),(sc,lst (ps.map iv) ve),(cm,ac (.ref mg)),(cr,ac (.ref rw_)),(rw_,lst (bJ rs) re)]++(bV rs++(bv cv++(c8 m++F)))) (by exact aO [_,_,_,_,_,_,_,_,_,_,_,_,_,_,_] [_,_,_,_,_] (.a (.l [0] .z) (.a (.l [1,2,3,4] .z) (.a (.v 0) (.a (.l [5,6,7,8,9,10,11,12,13,14] .z) (.a (.v 1) (.a (.v 2) (.a (.v 3) (.v 4)))))))) (.a (.l [5,6,7,0,2,1] .z) (.a (.l [3,4,8,9,10,11,12,13,14] .z) (.a (.v 1) (.a (.v 2) (.a (.v 0) (.a (.v 3) (.v 4))))))) rfl) fun dp de ds X11 hds=>?_
  refine ⟨dp,fT,[(dp,lst (ds.map iv) de),(N11+6,im cc (N11+5) (N11+1)),(N11+5,eM (.str sn (tk11+2)) (tk11+3) (nw N11 tk11 189)),(cc,ac (.ref c0)),(c0,lst (bI cw) ce),(cz,ac (.int (cw.length:Nat) tz)),(215,br [.int 189 0,.int 35 0,.ref (N11+5)]),(ab,lst (bI cv) ae),(mg,i8 md),(md,i9 w e0 v1 1),(sc,lst (ps.map iv) ve),(cm,ac (.ref mg)),(cr,ac (.ref rw_)),(rw_,lst (bJ rs) re)]++(bV rs++(bv cv++(bv cw++(c8 m++(F++X11))))),rfl,xm,by exact aO [_,_,_,_,_,_,_,_,_,_,_,_,_,_,_] [_,_,_,_,_,_] (.a (.l [0] .z) (.a (.l [1,2,3,4,5,6,7,8,9,10,11,12,13,14] .z) (.a (.v 0) (.a (.v 1) (.a (.v 2) (.a (.v 3) (.a (.v 4) (.v 5)))))))) (.a (.l [1] .z) (.a (.l [2,3,4,5] .z) (.a (.v 2) (.a (.a (.l [0,6,7,8,9,10,11,12,13,14] .z) (.a (.v 0) (.a (.v 1) (.a (.v 3) (.v 4))))) (.v 5))))) rfl,fun N12 tk12 F12 xl=>.inl ⟨rfl,?_⟩⟩
  refine Tr.cons (x6 fr cc cm cz cr sc ab dp (N11+5) cw.length tz xl (by exact lk hbl rfl) (bel':=fun l=>l.length≤20) (fun l hl=>by exact eA hl hbl rfl) (F:= [(dp,lst (ds.map iv) de),(N11+6,im cc (N11+5) (N11+1)),(N11+5,eM (.str sn (tk11+2)) (tk11+3) (nw N11 tk11 189)),(cc,ac (.ref c0)),(c0,lst (bI cw) ce),(ab,lst (bI cv) ae),(mg,i8 md),(md,i9 w e0 v1 1),(sc,lst (ps.map iv) ve),(cm,ac (.ref mg)),(cr,ac (.ref rw_)),(rw_,lst (bJ rs) re)]++(bV rs++(bv cv++(bv cw++(c8 m++(F++X11)))))) (by exact aO [_,_,_,_,_,_,_,_,_,_,_,_,_,_,_] [_,_,_,_,_,_] (.a (.l [0,1,2] .z) (.a (.l [3,4,5,6,7,8,9,10,11,12,13,14] .z) (.a (.v 0) (.a (.v 1) (.a (.v 2) (.a (.v 3) (.a (.v 4) (.v 5)))))))) (.a (.l [0] .z) (.a (.l [3,4,5,6,7,1,2,8,9,10,11,12,13,14] .z) (.a (.v 0) (.a (.v 1) (.a (.v 2) (.a (.v 3) (.a (.v 4) (.v 5)))))))) rfl) fun N13 tk13 F13 hN13 uD=>?_)
  refine mq (bel2:=fun l=>l.length≤80) dY cw (by exact j8 hwl hrl rfl) hwn (fun l h=>by exact lk h rfl) (fun l h=>by exact lk h rfl) (ot (f:=N13+8) (cc:=cc) (co:=N13+7) (tt:=N13+1) (c0:=c0) (ce:=ce) (cv:=(.str sn (tk13+2))) (ct:=tk13+3) (cl:=v8 N13 tk13 190) cw (by exact j8 hwl hrl rfl) hrw) (rg:=N13+0) (t:=tk13) (u:=tz) (v:=tk13+1) (F:= [(fr,F13),(cz,ac (.int (cw.length:Nat) tz)),(215,br [.int 189 0,.int 35 0,.ref (N11+5),.int 190 0,.int 35 0,.ref (N13+7)]),(dp,lst (ds.map iv) de),(N11+6,im cc (N11+5) (N11+1)),(N11+5,eM (.str sn (tk11+2)) (tk11+3) (nw N11 tk11 189)),(ab,lst (bI cv) ae),(mg,i8 md),(md,i9 w e0 v1 1),(sc,lst (ps.map iv) ve),(cm,ac (.ref mg)),(cr,ac (.ref rw_)),(rw_,lst (bJ rs) re)]++(bV rs++(bv cv++(c8 m++(F++X11))))) (by exact aO [_,_,_,_,_,_,_,_,_,_,_,_,_,_,_,_,_,_] [_,_,_,_,_,_] (.a (.l [0] .z) (.a (.l [1,2,3,4] .z) (.a (.v 0) (.a (.l [5,6,7,8,9,10,11,12,13,14,15,16,17] .z) (.a (.v 1) (.a (.v 2) (.a (.v 3) (.a (.v 4) (.v 5))))))))) (.a (.l [5,6,7,0,2,1] .z) (.a (.l [8,9,10,3,4,11,12,13,14,15,16,17] .z) (.a (.v 1) (.a (.v 2) (.a (.v 0) (.a (.v 3) (.a (.v 4) (.v 5)))))))) rfl) fun wd we ws X13 hws=>?_
  refine ⟨wd,F13,[(wd,lst (ws.map iv) we),(N13+8,mo cc (N13+7) (N13+1)),(N13+7,eM (.str sn (tk13+2)) (tk13+3) (v8 N13 tk13 190)),(cc,ac (.ref c0)),(c0,lst (bI cw) ce),(cz,ac (.int (cw.length:Nat) tz)),(215,br [.int 189 0,.int 35 0,.ref (N11+5),.int 190 0,.int 35 0,.ref (N13+7)]),(dp,lst (ds.map iv) de),(N11+6,im cc (N11+5) (N11+1)),(N11+5,eM (.str sn (tk11+2)) (tk11+3) (nw N11 tk11 189)),(ab,lst (bI cv) ae),(mg,i8 md),(md,i9 w e0 v1 1),(sc,lst (ps.map iv) ve),(cm,ac (.ref mg)),(cr,ac (.ref rw_)),(rw_,lst (bJ rs) re)]++(bV rs++(bv cv++(bv cw++(c8 m++(F++(X11++X13)))))),rfl,uD,by exact aO [_,_,_,_,_,_,_,_,_,_,_,_,_,_,_,_,_,_] [_,_,_,_,_,_,_] (.a (.l [0] .z) (.a (.l [1,2,3,4,5,6,7,8,9,10,11,12,13,14,15,16,17] .z) (.a (.v 0) (.a (.v 1) (.a (.v 2) (.a (.v 3) (.a (.v 4) (.a (.v 5) (.v 6))))))))) (.a (.l [1] .z) (.a (.l [2,3,4,5] .z) (.a (.v 2) (.a (.a (.l [0,6,7,8,9,10,11,12,13,14,15,16,17] .z) (.a (.v 0) (.a (.v 1) (.a (.v 3) (.a (.v 4) (.v 5)))))) (.v 6))))) rfl,fun N14 tk14 F14 xk=>.inl ⟨rfl,?_⟩⟩
  obtain ⟨n1,r1⟩:=hdr _ hds
  obtain ⟨n2,r2⟩:=hwr _ hws
  rw [←hT] at r1 r2
  obtain ⟨rank,hA⟩:=P.rank
  rw [←hT] at hA
  have hTl:(cq cv).length=cv.length:=B0 _
  have hnl:cv.length=rs.length:=by rw [←hTl,hT];unfold eQ ox;rw [B0,aH,hkl]
  have hrow:∀q∈cv,q.2.1.length≤7:=fun q hq=>by
    have:=P.row (q.2.1.map (·.1)) (by rw [←hT];exact X0 (f:=fun q:Nat × List (Int × Nat) × Nat=>q.2.1.map (·.1)) hq)
    rw [B0] at this;exact this
  have hpos:=P.pos
  have hdl:ds.length≤100:=by have:=hds.1.length_eq;rw [B0,aH] at this;lia
  have hwl2:ws.length≤100:=by have:=hws.1.length_eq;rw [B0,aH] at this;lia
  refine qK cv (by lia) (by exact j8 hnl hrl rfl) hrow rank hA ds ws hdl hwl2 r1 r2 henv (fun q=>by rw [fY,hfe]) (by exact lk hbl rfl) xk (ae:=ae) (de:=de) (we:=we) (F:= [(sc,lst (ps.map iv) ve)]++(c8 m++([(215,br [.int 189 0,.int 35 0,.ref (N11+5),.int 190 0,.int 35 0,.ref (N13+7)])]++([(N13+8,mo cc (N13+7) (N13+1)),(N13+7,eM (.str sn (tk13+2)) (tk13+3) (v8 N13 tk13 190)),(cc,ac (.ref c0)),(c0,lst (bI cw) ce),(cz,ac (.int (cw.length:Nat) tz)),(N11+6,im cc (N11+5) (N11+1)),(N11+5,eM (.str sn (tk11+2)) (tk11+3) (nw N11 tk11 189)),(mg,i8 md),(md,i9 w e0 v1 1),(cm,ac (.ref mg)),(cr,ac (.ref rw_)),(rw_,lst (bJ rs) re)]++(bV rs++(bv cw++(F++(X11++X13)))))))) (by exact aO [_,_,_,_,_,_,_,_,_,_,_,_,_,_,_,_,_,_] [_,_,_,_,_,_,_] (.a (.l [0,1,2,3] .z) (.a (.v 0) (.a (.l [4] .z) (.a (.v 1) (.a (.l [5] .z) (.a (.l [6,7,8,9,10,11,12,13,14,15,16,17] .z) (.a (.v 2) (.a (.v 3) (.a (.v 4) (.a (.v 5) (.v 6))))))))))) (.a (.l [0] .z) (.a (.l [3,6,7,8,9,10,5,2,11,12,1,13,14,4,15,16,17] .z) (.a (.v 2) (.a (.v 0) (.a (.v 3) (.a (.v 1) (.a (.v 4) (.a (.v 5) (.v 6))))))))) rfl) fun X=>?_
  exact ⟨_,[],by rw [U0],by rw [U2,U2,U2];exact hQ m _ _⟩
end
noncomputable def bitLs:List (List Bool):= [[],[false],[true],[false,false],[false,true],[true,false],[true,true],[false,false,false],[false,false,true],[false,true,false],[false,true,true],[true,false,false],[true,false,true],[true,true,false],[true,true,true]]
noncomputable def ads:List Ky:= [S [104],dP].flatMap fun h=> [false,true].flatMap fun t=>bitLs.map fun l=>(h,c7 t (gc l))
theorem vu:ads.length=60:=by decide+kernel
theorem ph:∀l:List Bool,l.length≤3→l∈bitLs:=by
  refine rt ?_ ?_ ?_ ?_<;>decide
theorem nA (n:Int):(bb n,bB n)∈ads:=by
  unfold ads
  refine H9.mpr ⟨bb n,?_,H9.mpr ⟨n.fmod 5==4,?_,E1.mpr ⟨dG n,ph _ (fu n),rfl⟩⟩⟩
  · unfold bb;split<;>simp
  · cases (n.fmod 5==4)<;>simp
noncomputable def K0:List Ky:= [(bb 2,bB 2),(bb 1,bB 1)]
theorem mr:∀(l:List Int) (K:List Ky),(∃X,K=K0++X∧(∀x∈X,x∈ads)∧K.Nodup∧K.length≤8)→∃X,l.foldl e9 K=K0++X∧(∀x∈X,x∈ads)∧(l.foldl e9 K).Nodup∧(l.foldl e9 K).length≤8
  | [],K,h=>h
  | n::l,K,h=>by
    refine mr l (e9 K n) ?_
    obtain ⟨X,rfl,h1,h2,h3⟩:=h
    unfold e9
    split
    · rename_i hc
      obtain ⟨c1,c2⟩:=B3.mp hc
      have c1:=of_decide_eq_true c1
      have c2:(bb n,bB n)∉K0++X:=by simpa using c2
      refine ⟨X++ [(bb n,bB n)],(U2 _ _ _),fun x hx=>?_,?_,?_⟩
      · rcases A1.mp hx with hx | hx
        · exact h1 x hx
        · rw [I2.mp hx];exact nA n
      · refine P3.mpr ⟨h2,by simp,fun a ha b hb e=>?_⟩
        rw [I2.mp hb] at e
        exact c2 (e▸ha)
      · rw [N0,O1];omega
    · exact ⟨X,rfl,h1,h2,h3⟩
theorem vD: [(2:Int),1].foldl e9 []=K0:=by decide+kernel
theorem rU:K0.Nodup:=by decide+kernel
theorem mU (l:List Int):∃X,gG (2::1::l)=K0++X∧(∀x∈X,x∈ads)∧(K0++X).Nodup∧(K0++X).length≤8:=by
  have e:gG (2::1::l)=l.foldl e9 K0:=by
    unfold gG
    rw [←vD];rfl
  obtain ⟨X,h1,h2,h3,h4⟩:=mr l K0 ⟨[],by rw [U0],fun _ h=>(nomatch h),rU,by decide+kernel⟩
  rw [e,h1]
  rw [h1] at h3 h4
  exact ⟨X,rfl,h2,h3,h4⟩
noncomputable def kl (i j:Nat):Bool:=ew (atK ads i) (atK ads j)
theorem tT:((List.range 60).all fun i=>(List.range 60).all fun j=>i==j || (ew (atK ads i) (atK ads j)==j2 (atK ads i) (atK ads j)))=true:=by decide+kernel
noncomputable def bigM:Nat:=2552433257170972796462362798803749338107635493286307876312083489058695154011262373818156989495451649942507791866967308903774245919523790236770368842688576237645461922658760825643994213157418169808452670682536799077305480892817007096697065401591378810541000674283061317769543839184099677863105376829806523697880594700323382539076875115097271731291790425365142863274014584202005880701978464369137177539842340722472276754525933859691626109872160856590812613167923224625916095678476401334624350229389187609717979030691487115020653721303692654461880857676244635899894475640905103923037067700432993552102625009105140346105056297417726833407820039965451922471557159852295310276503305693399399595426425970415224660143971289832104311655146661482399135420991179231080980032945766559212732801718084858434225428659559948592509281639477589855161027028221305849028157561438755470108295893937649015577712195919128436100822791070196338796365598783186629231821189732508526000979515650591565788349103235001759727477112243994804331084632599350275496959618705256067941375908462456885049246762914101067775
noncomputable def bitM (i j:Nat):Bool:=Nat.beq (bigM / 2 ^ (60 * i+j) % 2) 1
theorem tS:((List.range 60).all fun i=>(List.range 60).all fun j=>ew (atK ads i) (atK ads j)==bitM i j)=true:=by decide+kernel
theorem gx {i j:Nat} (hi:i < 60) (hj:j < 60):ew (atK ads i) (atK ads j)=bitM i j:=by
  have h:=tS
  rw [E3] at h
  have h:=h i (K3.mpr hi)
  rw [E3] at h
  exact beq_iff_eq.mp (h j (K3.mpr hj))
theorem y2 {i j:Nat} (hi:i < 60) (hj:j < 60) (hne:i≠j):j2 (atK ads i) (atK ads j)=ew (atK ads i) (atK ads j):=by
  have h:=tT
  rw [E3] at h
  have h:=h i (K3.mpr hi)
  rw [E3] at h
  have h:=h j (K3.mpr hj)
  rcases W8.mp h with h | h
  · exact absurd (beq_iff_eq.mp h) hne
  · exact (beq_iff_eq.mp h).symm
theorem fS {x:Ky} (h:x∈ads):∃j,j < 60∧atK ads j=x:=by
  obtain ⟨j,hj,e⟩:=List.getElem_of_mem h
  refine ⟨j,by rw [←vu];exact hj,?_⟩
  unfold atK
  rw [I1,O0 hj,e];rfl
theorem oA:((List.range 60).all fun i=>(List.range 60).all fun j=>!bitM i j || (List.range 60).all fun k=>!bitM j k || bitM i k)=true:=by decide+kernel
theorem oC:((List.range 60).all fun i=>(List.range 60).all fun k=>!bitM i k || (List.range 60).all fun j=>!bitM j k || bitM i j || bitM j i)=true:=by decide+kernel
theorem pl:(ads.all fun x=>decide (x.2.length≤14))=true:=by decide+kernel
noncomputable def dQ (n:Nat) (f:Int→Int) (D:Int→List Int):List AN:=(bT n).map fun i=>(i,f i,D i)
theorem bo {n:Nat} {f f':Int→Int} {D D':Int→List Int} (h:∀i∈bT n,f i=f' i∧D i=D' i):dQ n f D=dQ n f' D':=
  Z1 fun i hi=>by rw [(h i hi).1,(h i hi).2]
theorem jz (n:Nat) (f:Int→Int) (D:Int→List Int):(dQ n f D).map (·.1)=bT n:=by
  unfold dQ;rw [U1];exact B5 _
theorem fV (n:Nat) (f:Int→Int) (D:Int→List Int) (p:Int) (v:Int→Int) (s:List Int→List Int):fA (dQ n f D) p (fun y=>(y.1,v y.2.1,s y.2.2))=dQ n (fun i=>if i=p then v (f i) else f i) (fun i=>if i=p then s (D i) else D i):=by
  unfold fA dQ
  rw [U1]
  refine Z1 fun i _=>?_
  show (if i=p then (i,v (f i),s (D i)) else (i,f i,D i))=(i,(if i=p then v (f i) else f i),(if i=p then s (D i) else D i))
  by_cases h:i=p
  · rw [if_pos h,if_pos h,if_pos h]
  · rw [if_neg h,if_neg h,if_neg h]
theorem lq (f:Int→Int) (D:Int→List Int) {k:Int}:∀{l:List Int},k∈l→(l.map fun i=>((i,f i,D i):AN)).find? (·.1==k)=some (k,f k,D k)
  | i::l,h=>by
    rw [H0,B6]
    by_cases e:i=k
    · subst e
      rw [show ((i,f i,D i):AN).1==i from beq_self_eq_true _]
    · rw [show (((i,f i,D i):AN).1==k)=false from beq_eq_false_iff_ne.mpr e]
      rcases Z0.mp h with rfl | h
      · exact absurd rfl e
      · exact lq f D h
theorem nT {n:Nat} {f:Int→Int} {D:Int→List Int} {k:Int} (h:k∈bT n):npOf (dQ n f D) k=f k:=by
  unfold npOf dQ;rw [lq f D h];rfl
theorem nM {n:Nat} {f:Int→Int} {D:Int→List Int} {k:Int} (h:k∈bT n):scOf (dQ n f D) k=D k:=by
  unfold scOf dQ;rw [lq f D h];rfl
theorem lO {n:Nat} {f:Int→Int} {D:Int→List Int} {k:Int} (h:k∈bT n):cZ (dQ n f D) k=dQ n f D:=by
  unfold cZ
  rw [if_pos]
  rw [X6]
  exact ⟨(k,f k,D k),X0 (f:=fun i=>((i,f i,D i):AN)) h,beq_self_eq_true _⟩
theorem gK (n:Nat):bT (n+1)=bT n++ [(n:Int)]:=by
  unfold bT;rw [K9,A0];rfl
theorem upN_mem {n:Nat} {k:Int}:k∈bT n↔∃i:Nat,k=i∧i < n:=by
  unfold bT
  constructor
  · intro h
    obtain ⟨i,hi,rfl⟩:=E1.mp h
    exact ⟨i,rfl,K3.mp hi⟩
  · rintro ⟨i,rfl,hi⟩
    exact X0 (f:=fun (k:Nat)=>(k:Int)) (K3.mpr hi)
theorem gJ {n i:Nat} (h:i≤n):(bT n).take i=bT i:=by
  unfold bT
  rw [←W7,List.take_range,Nat.min_eq_left h]
theorem kY {n:Nat}:∀i,i≤n→eN n i=dQ i (fun _=>0) (fun _=> [])
  | 0,_=>rfl
  | i+1,h=>by
    unfold eN
    rw [gJ h,gK,H5]
    have ih:=kY (n:=n) i (by exact B4 h)
    unfold eN at ih
    rw [gJ (n:=n) (i:=i) (by exact B4 h)] at ih
    rw [ih]
    show kz (dQ i _ _) i []=_
    unfold kz
    show fA (cZ (dQ i _ _) (i:Int)) (i:Int) (fun x=>(x.1,x.2.1+(0:Nat),x.2.2))=_
    have e:cZ (dQ i (fun _=>0) (fun _=> [])) (i:Int)=dQ (i+1) (fun _=>0) (fun _=> []):=by
      unfold cZ
      rw [if_neg]
      · unfold dQ;rw [gK,A0];rfl
      · rw [Bool.not_eq_true,List.any_eq_false]
        intro x hx
        obtain ⟨k,hk,rfl⟩:=E1.mp hx
        obtain ⟨j,rfl,hj⟩:=upN_mem.mp hk
        simp only [beq_iff_eq]
        lia
    rw [e,fV (i+1) (fun _=>0) (fun _=> []) (i:Int) (fun a=>a+(0:Nat)) (fun s=>s)]
    refine bo fun k _=>⟨?_,?_⟩
    · split<;>rfl
    · split<;>rfl
theorem um {n:Nat} {f:Int→Int} {D:Int→List Int} {k p:Int} (h:p∈bT n):iL k (dQ n f D) p=dQ n f (fun i=>if i=p then D i++ [k] else D i):=by
  unfold iL
  rw [lO h,fV n f D p (fun a=>a) (fun s=>s++ [k])]
  exact bo fun i _=>⟨by split<;>rfl,rfl⟩
theorem kH {n:Nat} {f:Int→Int} {k:Int}:∀(ps:List Int) (D:Int→List Int),ps.Nodup→(∀p∈ps,p∈bT n)→ps.foldl (iL k) (dQ n f D)=dQ n f (fun i=>if i∈ps then D i++ [k] else D i)
  | [],D,_,_=>bo fun i _=>⟨rfl,by rw [if_neg (V5)]⟩
  | p::ps,D,hn,h=>by
    obtain ⟨h1,h2⟩:=S1.mp hn
    rw [Z4,um (h p (.head _)),kH ps _ h2 fun q hq=>h q (.tail _ hq)]
    refine bo fun i _=>⟨rfl,?_⟩
    by_cases e:i=p
    · subst e
      rw [if_neg h1,if_pos rfl,if_pos (.head _)]
    · rw [if_neg e]
      by_cases e2:i∈ps
      · rw [if_pos e2,if_pos (.tail _ e2)]
      · rw [if_neg e2,if_neg (fun hm=>by rcases Z0.mp hm with rfl | hm;exact e rfl;exact e2 hm)]
noncomputable def f5 (T:List (List Int)) (k:Int):List Int:=T.getD k.toNat []
noncomputable def jR (T:List (List Int)) (m:Nat) (p:Int):List Int:=(bT m).filter fun k=>(f5 T k).contains p
theorem kZ {T:List (List Int)} (hU:∀k∈bT T.length,(f5 T k).Nodup∧∀p∈f5 T k,p∈bT T.length):∀i,i≤T.length→en T i=dQ T.length (fun q=>if q < (i:Int) then ((f5 T q).length:Nat) else 0) (jR T i)
  | 0,_=>by
    unfold en
    rw [List.take_zero,Q9,kY _ (S0 _)]
    refine bo fun q hq=>⟨?_,rfl⟩
    obtain ⟨j,rfl,_⟩:=upN_mem.mp hq
    rw [if_neg (by lia)]
  | i+1,h=>by
    unfold en
    rw [gJ h,gK,H5]
    have ih:=kZ hU i (by exact B4 h)
    unfold en at ih
    rw [gJ (n:=T.length) (i:=i) (by exact B4 h)] at ih
    rw [ih]
    have hi:(i:Int)∈bT T.length:=upN_mem.mpr ⟨i,rfl,by exact h⟩
    obtain ⟨h1,h2⟩:=hU _ hi
    show kz (dQ T.length _ _) (i:Int) (f5 T i)=_
    unfold kz
    rw [lO hi,fV _ _ _ (i:Int) (fun a=>a+((f5 T i).length:Nat)) (fun s=>s),kH _ _ h1 h2]
    refine bo fun q hq=>⟨?_,?_⟩
    · obtain ⟨j,rfl,hj⟩:=upN_mem.mp hq
      by_cases e:(j:Int)=i
      · rw [if_pos e,if_neg (by lia),if_pos (by lia),e];lia
      · rw [if_neg e]
        by_cases e2:(j:Int) < i
        · rw [if_pos e2,if_pos (by lia)]
        · rw [if_neg e2,if_neg (by lia)]
    · unfold jR
      rw [gK,X8]
      have e1:(if q=(i:Int) then (bT i).filter (fun k=>(f5 T k).contains q) else (bT i).filter fun k=>(f5 T k).contains q)=(bT i).filter fun k=>(f5 T k).contains q:=by split<;>rfl
      rw [e1]
      by_cases e:q∈f5 T i
      · rw [if_pos e,W1,if_pos (S4.mpr e),C7]
      · rw [if_neg e,W1,if_neg (fun hc=>e (S4.mp hc)),C7,U0]
theorem l3 {T:List (List Int)} (hU:∀k∈bT T.length,(f5 T k).Nodup∧∀p∈f5 T k,p∈bT T.length):cy T=dQ T.length (fun q=>((f5 T q).length:Nat)) (jR T T.length):=by
  unfold cy
  rw [kZ hU _ (S0 _)]
  refine bo fun q hq=>⟨?_,rfl⟩
  obtain ⟨j,rfl,hj⟩:=upN_mem.mp hq
  rw [if_pos (by lia)]
theorem jt {n:Nat} {D:Int→List Int}:∀(l:List Int) (f:Int→Int),l.foldl ig (dQ n f D)=dQ n (fun i=>if i∈l then -1 else f i) D
  | [],f=>bo fun i _=>⟨by rw [if_neg (V5)],rfl⟩
  | p::l,f=>by
    have e:ig (dQ n f D) p=dQ n (fun i=>if i=p then -1 else f i) D:=by
      unfold ig
      rw [fV n f D p (fun _=>-1) (fun s=>s)]
      exact bo fun i _=>⟨rfl,by split<;>rfl⟩
    rw [Z4,e,jt l]
    refine bo fun i _=>⟨?_,rfl⟩
    by_cases e1:i∈l
    · rw [if_pos e1,if_pos (.tail _ e1)]
    · rw [if_neg e1]
      by_cases e2:i=p
      · rw [if_pos e2,if_pos (by rw [e2];exact .head _)]
      · rw [if_neg e2,if_neg (fun hm=>by rcases Z0.mp hm with rfl | hm;exact e2 rfl;exact e1 hm)]
theorem mE {n:Nat} {D:Int→List Int}:∀(l:List Int) (f:Int→Int) (R:List Int),l.Nodup→(∀p∈l,p∈bT n)→l.foldl fL (dQ n f D,R)=(dQ n (fun i=>if i∈l then f i - 1 else f i) D,R++l.filter fun k=>decide (f k - 1=0))
  | [],f,R,_,_=>by
    rw [Q9,C7,U0]
    exact Prod.ext (bo fun i _=>⟨by rw [if_neg (V5)],rfl⟩) rfl
  | p::l,f,R,hn,h=>by
    obtain ⟨h1,h2⟩:=S1.mp hn
    have e:fL (dQ n f D,R) p=(dQ n (fun i=>if i=p then f i - 1 else f i) D,if f p - 1=0 then R++ [p] else R):=by
      unfold fL
      refine Prod.ext ?_ ?_
      · show fA (dQ n f D) p _=_
        rw [fV n f D p (fun a=>a - 1) (fun s=>s)]
        exact bo fun i _=>⟨rfl,by split<;>rfl⟩
      · show (if npOf (dQ n f D) p - 1=0 then R++ [p] else R)=_
        rw [nT (h p (.head _))]
    rw [Z4,e,mE l _ _ h2 fun q hq=>h q (.tail _ hq)]
    refine Prod.ext (bo fun i _=>⟨?_,rfl⟩) ?_
    · by_cases e1:i=p
      · subst e1
        rw [if_neg h1,if_pos rfl,if_pos (.head _)]
      · rw [if_neg e1]
        by_cases e2:i∈l
        · rw [if_pos e2,if_pos (.tail _ e2)]
        · rw [if_neg e2,if_neg (fun hm=>by rcases Z0.mp hm with rfl | hm;exact e1 rfl;exact e2 hm)]
    · dsimp only
      have e3:(l.filter fun k=>decide ((if k=p then f k - 1 else f k) - 1=0))=l.filter fun k=>decide (f k - 1=0):=by
        refine Q6 fun k hk=>?_
        rw [if_neg (fun e:k=p=>h1 (e▸hk))]
      rw [e3,W1]
      by_cases e4:f p - 1=0
      · rw [if_pos e4,if_pos (decide_eq_true e4),U2];rfl
      · rw [if_neg e4,if_neg (by simpa using e4)]
noncomputable def k4 (g l:List Int):Nat:=(l.filter fun p=>!g.contains p).length
theorem fM {g:List Int} {x:Int}:∀{l:List Int},l.Nodup→k4 (g++ [x]) l+(if x∈l∧x∉g then 1 else 0)=k4 g l
  | [],_=>by simp [k4]
  | a::l,hn=>by
    obtain ⟨h1,h2⟩:=S1.mp hn
    have ih:=fM (g:=g) (x:=x) h2
    unfold k4 at ih⊢
    rw [W1,W1]
    by_cases ha:a∈g
    · have e1:(!(g++ [x]).contains a)=false:=by simp [ha]
      have e2:(!g.contains a)=false:=by simp [ha]
      rw [e1,e2,if_neg R1,if_neg R1,←ih]
      by_cases hx:x∈l∧x∉g
      · rw [if_pos hx,if_pos ⟨.tail _ hx.1,hx.2⟩]
      · rw [if_neg hx,if_neg]
        rintro ⟨hm,hg⟩
        rcases Z0.mp hm with rfl | hm
        · exact hg ha
        · exact hx ⟨hm,hg⟩
    · have e2:(!g.contains a)=true:=by simp [ha]
      rw [e2,if_pos rfl,J0,←ih]
      by_cases hax:a=x
      · subst hax
        have e1:(!(g++ [a]).contains a)=false:=by simp
        rw [e1,if_neg R1,if_pos ⟨.head _,ha⟩,if_neg (fun h=>h1 h.1)]
      · have e1:(!(g++ [x]).contains a)=true:=by simp [ha,hax]
        rw [e1,if_pos rfl,J0]
        have hc:(x∈a::l∧x∉g)↔(x∈l∧x∉g):=⟨fun h=>⟨(Z0.mp h.1).resolve_left fun e=>hax e.symm,h.2⟩,fun h=>⟨.tail _ h.1,h.2⟩⟩
        simp only [hc]
        lia
theorem cnt_zero {g l:List Int}:k4 g l=0↔∀p∈l,p∈g:=by
  unfold k4
  rw [Z7,List.filter_eq_nil_iff]
  constructor
  · intro h p hp
    have:=h p hp
    simpa using this
  · intro h p hp
    simp [h p hp]
noncomputable def lI (T:List (List Int)) (g l:List Int) (i:Int):Int:=if i∈g then -2 else if i∈l then -1 else (k4 g (f5 T i):Nat)
noncomputable def kd (T:List (List Int)) (g:List Int) (x:Int):List Int:=(jR T T.length x).filter fun k=>decide (((k4 g (f5 T k):Nat):Int) - 1=0)
structure gj (T:List (List Int)):Prop where
  nd:∀k∈bT T.length,(f5 T k).Nodup
  sub:∀k∈bT T.length,∀p∈f5 T k,p∈bT T.length∧p≠k
theorem dn_mem {T:List (List Int)} {x k:Int}:k∈jR T T.length x↔k∈bT T.length∧x∈f5 T k:=by
  unfold jR
  rw [R3,S4]
theorem j5 {T:List (List Int)} (H:gj T) {g:List Int} {x k:Int} (hx:x∉g):k∈kd T g x↔k∈bT T.length∧x∈f5 T k∧∀p∈f5 T k,p∈g++ [x]:=by
  unfold kd
  rw [R3,dn_mem,decide_eq_true_eq]
  constructor
  · rintro ⟨⟨h1,h2⟩,h3⟩
    have h4:=fM (g:=g) (x:=x) (H.nd k h1)
    rw [if_pos ⟨h2,hx⟩] at h4
    exact ⟨h1,h2,cnt_zero.mp (by lia)⟩
  · rintro ⟨h1,h2,h3⟩
    have h4:=fM (g:=g) (x:=x) (H.nd k h1)
    rw [if_pos ⟨h2,hx⟩,cnt_zero.mpr h3] at h4
    exact ⟨⟨h1,h2⟩,by lia⟩
theorem tG {T:List (List Int)} (H:gj T) (la:Bool) {g l:List Int} (hx:bh la l∈bT T.length) (hxg:bh la l∉g) (hl:∀i,i∈l↔i=bh la l∨i∈bP la l) (hxr:bh la l∉bP la l)
    (hup:∀i∈g++l,∀j∈f5 T i,j∈g):jn la (dQ T.length (lI T g l) (jR T T.length),l,g)=(dQ T.length (lI T (g++ [bh la l]) (bP la l++kd T g (bh la l))) (jR T T.length),bP la l++kd T g (bh la l),g++ [bh la l]):=by
  generalize hxe:bh la l=x at *
  generalize hre:bP la l=r at *
  have hdn:(jR T T.length x).Nodup:=(dW _).filter _
  have hds:∀p∈jR T T.length x,p∈bT T.length:=fun p hp=>(dn_mem.mp hp).1
  have hD:∀k∈jR T T.length x,k∉g∧k∉l∧k≠x:=fun k hk=>by
    obtain ⟨h1,h2⟩:=dn_mem.mp hk
    refine ⟨fun hg=>hxg (hup k (Y0 _ hg) x h2),fun hg=>hxg (hup k (R0 _ hg) x h2),fun e=>(H.sub k h1 x h2).2 e.symm⟩
  have e0:fA (dQ T.length (lI T g l) (jR T T.length)) x (fun y=>(y.1,-2,y.2.2))=dQ T.length (fun i=>if i=x then -2 else lI T g l i) (jR T T.length):=by
    rw [fV _ _ _ x (fun _=>-2) (fun s=>s)]
    exact bo fun i _=>⟨rfl,by split<;>rfl⟩
  have e1:df (dQ T.length (lI T g l) (jR T T.length),[]) x=(dQ T.length (fun i=>if i∈jR T T.length x then (if i=x then -2 else lI T g l i) - 1 else (if i=x then -2 else lI T g l i)) (jR T T.length),kd T g x):=by
    unfold df
    dsimp only
    rw [nM hx,e0,mE _ _ _ hdn hds,Q4]
    refine Prod.ext rfl ?_
    unfold kd
    refine Q6 fun k hk=>?_
    obtain ⟨h1,h2,h3⟩:=hD k hk
    unfold lI
    rw [if_neg h3,if_neg h1,if_neg h2]
  unfold jn
  dsimp only
  rw [hxe,hre,e1]
  dsimp only
  rw [jt]
  refine Prod.ext (bo fun i hi=>⟨?_,rfl⟩) rfl
  by_cases h1:i=x
  · subst h1
    have hnd:i∉jR T T.length i:=fun h=>(hD i h).2.2 rfl
    have hnn:i∉kd T g i:=fun h=>hnd (R3.mp h).1
    rw [if_neg hnn,if_neg hnd,if_pos rfl]
    unfold lI
    rw [if_pos (by simp)]
  · by_cases h2:i∈g
    · have hnd:i∉jR T T.length x:=fun h=>(hD i h).1 h2
      have hnn:i∉kd T g x:=fun h=>hnd (R3.mp h).1
      rw [if_neg hnn,if_neg hnd,if_neg h1]
      unfold lI
      rw [if_pos h2,if_pos (Y0 _ h2)]
    · have h2':i∉g++ [x]:=by simp [h2,h1]
      by_cases h3:i∈l
      · have hnd:i∉jR T T.length x:=fun h=>(hD i h).2.1 h3
        have hnn:i∉kd T g x:=fun h=>hnd (R3.mp h).1
        rw [if_neg hnn,if_neg hnd,if_neg h1]
        have hir:i∈r:=((hl i).mp h3).resolve_left h1
        unfold lI
        rw [if_neg h2,if_pos h3,if_neg h2',if_pos (Y0 _ hir)]
      · have hir:i∉r:=fun h=>h3 ((hl i).mpr (.inr h))
        by_cases h4:i∈kd T g x
        · rw [if_pos h4]
          unfold lI
          rw [if_neg h2',if_pos (R0 _ h4)]
        · rw [if_neg h4,if_neg h1]
          unfold lI
          have h6:i∉r++kd T g x:=fun h=>by rcases A1.mp h with h | h;exact hir h;exact h4 h
          rw [if_neg h2,if_neg h3,if_neg h2',if_neg h6]
          have hc:=fM (g:=g) (x:=x) (H.nd i hi)
          by_cases h5:i∈jR T T.length x
          · rw [if_pos ⟨(dn_mem.mp h5).2,hxg⟩] at hc
            rw [if_pos h5];lia
          · rw [if_neg (fun h=>h5 (dn_mem.mpr ⟨hi,h.1⟩))] at hc
            rw [if_neg h5];lia
noncomputable def mc (la:Bool) (g l:List Int):List Int:=match la with | true=>g++l.reverse | false=>g++l
structure Iv (T:List (List Int)) (lt:Int→Int→Prop) (la:Bool) (g l:List Int):Prop where
  sub:∀i∈g++l,i∈bT T.length
  up:∀i∈g++l,∀j∈f5 T i,j∈g
  all:∀i∈bT T.length,(∀j∈f5 T i,j∈g)→i∈g++l
  ord:(mc la g l).Pairwise lt
theorem eS (la:Bool) {l:List Int} (h:l≠ []):(la=true∧l=bP la l++ [bh la l])∨(la=false∧l=bh la l::bP la l):=by
  cases la
  · right
    cases l with
    | nil=>exact absurd rfl h
    | cons a l=>exact ⟨rfl,rfl⟩
  · left
    refine ⟨rfl,?_⟩
    show l=l.dropLast++ [l.getLastD 0]
    have e:l.getLastD 0=l.getLast h:=by
      rw [List.getLastD_eq_getLast?,List.getLast?_eq_some_getLast h];rfl
    rw [e,E7]
theorem qt (la:Bool) {g l:List Int} (h:l≠ []):mc la g l=mc la (g++ [bh la l]) (bP la l):=by
  rcases eS la h with ⟨rfl,e⟩ | ⟨rfl,e⟩
  · show g++l.reverse=(g++ [bh true l])++(bP true l).reverse
    conv=>lhs;rw [e]
    rw [T8,U2];rfl
  · show g++l=(g++ [bh false l])++bP false l
    conv=>lhs;rw [e]
    rw [U2];rfl
theorem nO {T:List (List Int)} (H:gj T) (lt:Int→Int→Prop) (irr:∀a,¬lt a a) (la:Bool) (m:Int→Nat) (hm:∀i∈bT T.length,∀j∈f5 T i,m j < m i)
    (hnx:∀g l,Iv T lt la g l→l≠ []→(mc la (g++ [bh la l]) (bP la l++kd T g (bh la l))).Pairwise lt):
    ∀(k:Nat) (g l:List Int),k4 g (bT T.length)≤k→Iv T lt la g l→∃n z,RunV la n (dQ T.length (lI T g l) (jR T T.length),l,g) z∧z.Perm (bT T.length)∧z.Pairwise lt:=by
  have nd:∀l:List Int,l.Pairwise lt→l.Nodup:=fun l h=>List.Pairwise.imp (S:=fun a b=>a≠b) (fun {a b} hab e=>irr a (by subst e;exact hab)) h
  have fin:∀g,Iv T lt la g []→∃n z,RunV la n (dQ T.length (lI T g []) (jR T T.length),[],g) z∧z.Perm (bT T.length)∧z.Pairwise lt:=by
    intro g I
    have ho:g.Pairwise lt:=by
      have:=I.ord
      cases la
      · have h:(g++ []).Pairwise lt:=this
        rwa [U0] at h
      · have h:(g++ []).Pairwise lt:=this
        rwa [U0] at h
    have hall:∀(k:Nat) (i:Int),m i < k→i∈bT T.length→i∈g:=by
      intro k
      induction k with
      | zero=>intro i h;lia
      | succ k ih=>
        intro i h hi
        have:=I.all i hi fun j hj=>ih j (by have:=hm i hi j hj;lia) (H.sub i hi j hj).1
        rwa [U0] at this
    refine ⟨0,g,.stop _ _,(M7 (nd g ho) (dW _)).mpr fun i=>⟨fun h=>I.sub i (Y0 _ h),fun h=>hall (m i+1) i (A7 _) h⟩,ho⟩
  intro k
  induction k with
  | zero=>
    intro g l hk I
    cases l with
    | nil=>exact fin g I
    | cons a l=>
      have h1:=I.sub a (R0 _ (.head _))
      have h2:=cnt_zero.mp (Nat.le_zero.mp hk) a h1
      have h3:(g++a::l).Nodup:=by
        have:=nd _ I.ord
        cases la
        · exact this
        · have h:(g++(a::l).reverse).Nodup:=this
          exact ((Z8 (a::l)).append_left g).nodup_iff.mp h
      exact absurd rfl ((P3.mp h3).2.2 a h2 a (.head _))
  | succ k ih=>
    intro g l hk I
    by_cases hl:l= []
    · subst hl;exact fin g I
    · have hno:=nd _ I.ord
      have hnd:(g++l).Nodup:=by
        cases la
        · exact hno
        · have h:(g++l.reverse).Nodup:=hno
          exact ((Z8 l).append_left g).nodup_iff.mp h
      obtain ⟨n1,n2,n3⟩:=P3.mp hnd
      have hmem:∀i,i∈l↔i=bh la l∨i∈bP la l:=by
        intro i
        rcases eS la hl with ⟨_,e⟩ | ⟨_,e⟩
        · conv=>lhs;rw [e]
          rw [A1,I2];exact Or.comm
        · conv=>lhs;rw [e]
          exact Z0
      have hxr:bh la l∉bP la l:=by
        rcases eS la hl with ⟨_,e⟩ | ⟨_,e⟩
        · rw [e] at n2
          exact fun h=>(P3.mp n2).2.2 _ h _ (.head _) rfl
        · rw [e] at n2
          exact (S1.mp n2).1
      have hxl:bh la l∈l:=(hmem _).mpr (.inl rfl)
      have hxg:bh la l∉g:=fun h=>n3 _ h _ hxl rfl
      have hxn:=I.sub _ (R0 _ hxl)
      have hst:=tG H la hxn hxg hmem hxr I.up
      have hnext:Iv T lt la (g++ [bh la l]) (bP la l++kd T g (bh la l)):=by
        refine ⟨fun i hi=>?_,fun i hi j hj=>?_,fun i hi h=>?_,hnx g l I hl⟩
        · rcases A1.mp hi with h | h
          · rcases A1.mp h with h | h
            · exact I.sub i (Y0 _ h)
            · rw [I2.mp h];exact hxn
          · rcases A1.mp h with h | h
            · exact I.sub i (R0 _ ((hmem i).mpr (.inr h)))
            · exact ((j5 H hxg).mp h).1
        · rcases A1.mp hi with h | h
          · rcases A1.mp h with h | h
            · exact Y0 _ (I.up i (Y0 _ h) j hj)
            · rw [I2.mp h] at hj
              exact Y0 _ (I.up _ (R0 _ hxl) j hj)
          · rcases A1.mp h with h | h
            · exact Y0 _ (I.up i (R0 _ ((hmem i).mpr (.inr h))) j hj)
            · exact ((j5 H hxg).mp h).2.2 j hj
        · by_cases hc:bh la l∈f5 T i
          · exact R0 _ (R0 _ ((j5 H hxg).mpr ⟨hi,hc,h⟩))
          · have h1:=I.all i hi fun j hj=>by
              rcases A1.mp (h j hj) with h2 | h2
              · exact h2
              · rw [I2.mp h2] at hj;exact absurd hj hc
            rcases A1.mp h1 with h1 | h1
            · exact Y0 _ (Y0 _ h1)
            · rcases (hmem i).mp h1 with h1 | h1
              · rw [h1];exact Y0 _ (R0 _ (.head _))
              · exact R0 _ (Y0 _ h1)
      have hcn:=fM (g:=g) (x:=bh la l) (dW T.length)
      rw [if_pos ⟨hxn,hxg⟩] at hcn
      obtain ⟨n,z,hr,hz1,hz2⟩:=ih _ _ (by lia) hnext
      refine ⟨n+1,z,.step hl ?_ ?_ ?_ ?_,hz1,hz2⟩
      · show bh la l∈(dQ _ _ _).map (·.1)
        rw [jz];exact hxn
      · show npOf (dQ _ _ _) (bh la l)= -1
        rw [nT hxn]
        unfold lI
        rw [if_neg hxg,if_pos hxl]
      · show ∀q∈scOf (dQ _ _ _) (bh la l),q∈(dQ _ _ _).map (·.1)
        rw [nM hxn,jz]
        exact fun q hq=>(dn_mem.mp hq).1
      · rw [hst];exact hr
theorem j6:∀a u v:List Int,et (a++u) (a++v)=et u v
  | [],_,_=>rfl
  | x::a,u,v=>by
    show et (x::(a++u)) (x::(a++v))=_
    conv=>lhs;unfold et
    rw [if_pos rfl]
    exact j6 a u v
theorem j7 (u v:Int):et [u] [v]=decide (u < v):=by
  unfold et
  by_cases h:u=v
  · subst h;rw [if_pos rfl,fc];exact (decide_eq_false (Int.lt_irrefl u)).symm
  · rw [if_neg h]
theorem qJ (a:List Int) (u:Int):et a (a++ [u])=true:=by
  have:=j6 a [] [u]
  rw [U0] at this
  rw [this];rfl
theorem nV:∀{a b d:List Int},et a b=true→¬a <+:b→et (a++d) b=true
  | [],b,_,_,h=>absurd (List.nil_prefix) h
  | _::_,[],_,h,_=>by cases h
  | x::a,y::b,d,h,hp=>by
    show et (x::(a++d)) (y::b)=true
    unfold et at h⊢
    by_cases e:x=y
    · subst e
      rw [if_pos rfl] at h⊢
      exact nV h fun hp'=>hp (List.cons_prefix_cons.mpr ⟨rfl,hp'⟩)
    · rw [if_neg e] at h⊢
      exact h
theorem nU:∀{a b d e:List Int},a.length=b.length→et a b=true→et (a++d) (b++e)=true
  | [],[],_,_,_,h=>by cases h
  | [],_::_,_,_,h,_=>by cases h
  | _::_,[],_,_,h,_=>by cases h
  | x::a,y::b,d,e,hl,h=>by
    show et (x::(a++d)) (y::(b++e))=true
    unfold et at h⊢
    by_cases e:x=y
    · rw [if_pos e] at h⊢
      exact nU (by simpa using hl) h
    · rw [if_neg e] at h⊢
      exact h
noncomputable def ke (C:List (List Int)) (i:Int):List Int:=C.getD i.toNat []
structure iC (T C:List (List Int)):Prop where
  root:∀i∈bT T.length,f5 T i= []→ke C i= [i]
  kid:∀i∈bT T.length,f5 T i≠ []→∃p∈f5 T i,ke C i=ke C p++ [i]∧∀y∈f5 T i,y=p∨y∈f5 T p
  mem:∀i∈bT T.length,∀y,y∈ke C i→y=i∨y∈f5 T i
  self:∀i∈bT T.length,i∈ke C i
noncomputable def jA (g:List Int→List Int) (C:List (List Int)) (a b:Int):Prop:=et (g (ke C a)) (g (ke C b))=true
theorem fX (g:List Int→List Int) (C:List (List Int)) (a:Int):¬jA g C a a:=fun h=>by
  unfold jA at h;rw [fc] at h;cases h
theorem kF {g:List Int→List Int} {C:List (List Int)} {a b c:Int} (h1:jA g C a b) (h2:jA g C b c):jA g C a c:=ik h1 h2
theorem qM {T C:List (List Int)} (H:gj T) (Fo:iC T C) {lt:Int→Int→Prop} {la:Bool} {g l:List Int} (I:Iv T lt la g l) {x k:Int} (hxg:x∉g) (hk:k∈kd T g x):ke C k=ke C x++ [k]:=by
  obtain ⟨h1,h2,h3⟩:=(j5 H hxg).mp hk
  obtain ⟨p,hp,hc,hy⟩:=Fo.kid k h1 fun e=>by rw [e] at h2;cases h2
  rcases A1.mp (h3 p hp) with hg | hx
  · exfalso
    rcases hy x h2 with e | e
    · exact hxg (e▸hg)
    · exact hxg (I.up p (Y0 _ hg) x e)
  · rw [I2.mp hx] at hc;exact hc
theorem q9 (n:Nat):(bT n).Pairwise (· < ·):=by
  unfold bT
  rw [S5]
  exact (List.pairwise_lt_range (n:=n)).imp fun h=>by lia
theorem qA (T:List (List Int)) (g:List Int) (x:Int):(kd T g x).Pairwise (· < ·):=((q9 _).filter _).filter _
theorem nF {T:List (List Int)} {lt:Int→Int→Prop} (irr:∀a,¬lt a a) {la:Bool} {g l:List Int} (I:Iv T lt la g l) (hl:l≠ []):bh la l∈l∧bh la l∉g∧(∀a∈g,lt a (bh la l))∧(∀b∈bP la l,lt (bh la l) b)∧(mc la (g++ [bh la l]) (bP la l)).Pairwise lt∧∀b∈bP la l,b∈l:=by
  have ho:=I.ord
  rw [qt la hl] at ho
  have hxl:bh la l∈l:=by
    rcases eS la hl with ⟨_,e⟩ | ⟨_,e⟩
    · exact (congrArg (bh la l∈·) e).mpr (R0 _ (.head _))
    · exact (congrArg (bh la l∈·) e).mpr (.head _)
  have hrl:∀b∈bP la l,b∈l:=by
    intro b hb
    rcases eS la hl with ⟨_,e⟩ | ⟨_,e⟩
    · exact (congrArg (b∈·) e).mpr (Y0 _ hb)
    · exact (congrArg (b∈·) e).mpr (.tail _ hb)
  have h2:(g++ [bh la l]).Pairwise lt∧∀b∈bP la l,lt (bh la l) b:=by
    cases la
    · have h:((g++ [bh false l])++bP false l).Pairwise lt:=ho
      obtain ⟨h1,_,h3⟩:=V1.mp h
      exact ⟨h1,fun b hb=>h3 _ (R0 _ (.head _)) b hb⟩
    · have h:((g++ [bh true l])++(bP true l).reverse).Pairwise lt:=ho
      obtain ⟨h1,_,h3⟩:=V1.mp h
      exact ⟨h1,fun b hb=>h3 _ (R0 _ (.head _)) b (W5.mpr hb)⟩
  have h3:∀a∈g,lt a (bh la l):=fun a ha=>(V1.mp h2.1).2.2 a ha _ (.head _)
  exact ⟨hxl,fun h=>irr _ (h3 _ h),h3,h2.2,ho,hrl⟩
theorem gR (a:List Int) (k:Int):ee (a++ [k])=ee a++ [0 - k]:=by unfold ee;rw [A0];rfl
theorem p5 {T C:List (List Int)} (H:gj T) (Fo:iC T C):∀g l,Iv T (jA ee C) true g l→l≠ []→(mc true (g++ [bh true l]) (bP true l++kd T g (bh true l))).Pairwise (jA ee C):=by
  intro g l I hl
  obtain ⟨hxl,hxg,hgx,hxr,ho,hrl⟩:=nF (fX ee C) I hl
  have hkid:∀k∈kd T g (bh true l),ke C k=ke C (bh true l)++ [k]:=fun k hk=>qM H Fo I hxg hk
  have hxn:=I.sub _ (R0 _ hxl)
  generalize bh true l=x at *
  generalize hr:bP true l=r at *
  show ((g++ [x])++(r++kd T g x).reverse).Pairwise _
  rw [T8]
  have ho:((g++ [x])++r.reverse).Pairwise (jA ee C):=ho
  obtain ⟨o1,o2,o3⟩:=V1.mp ho
  have hxk:∀k∈kd T g x,jA ee C x k:=fun k hk=>by
    unfold jA
    rw [hkid k hk,gR]
    exact qJ _ _
  refine V1.mpr ⟨o1,V1.mpr ⟨?_,o2,fun k hk b hb=>?_⟩,fun a ha b hb=>?_⟩
  · rw [M8]
    refine (qA T g x).imp_of_mem fun {a b} ha hb h=>?_
    unfold jA
    rw [hkid a ha,hkid b hb,gR,gR,j6,j7]
    exact decide_eq_true (by lia)
  · have hk:=W5.mp hk
    have hb:=W5.mp hb
    have h1:=hxr b hb
    unfold jA at h1⊢
    rw [hkid k hk,gR]
    refine nV h1 fun hp=>?_
    have h2:(0 - x)∈ee (ke C b):=hp.subset (X0 (f:=fun j:Int=>0 - j) (Fo.self x hxn))
    obtain ⟨y,hy,e⟩:=E1.mp h2
    have hyx:y=x:=by lia
    subst hyx
    rcases Fo.mem b (I.sub b (R0 _ (hrl b hb))) y hy with e | e
    · have h5:=hxr b hb
      rw [e] at h5
      exact fX ee C b h5
    · exact hxg (I.up b (R0 _ (hrl b hb)) y e)
  · rcases A1.mp hb with hb | hb
    · have hb:=W5.mp hb
      rcases A1.mp ha with ha | ha
      · exact kF (hgx a ha) (hxk b hb)
      · rw [I2.mp ha];exact hxk b hb
    · exact o3 a ha b hb
theorem nJ {a b:List Int} (h:et (dY a) (dY b)=true):a.length < b.length∨(a.length=b.length∧et a b=true):=by
  unfold dY et at h
  by_cases e:((a.length:Nat):Int)=(b.length:Nat)
  · rw [if_pos e] at h
    exact .inr ⟨by lia,h⟩
  · rw [if_neg e] at h
    have:=of_decide_eq_true h
    exact .inl (by lia)
theorem fW {a b:List Int} (h:a.length < b.length∨(a.length=b.length∧et a b=true)):et (dY a) (dY b)=true:=by
  unfold dY et
  rcases h with h | ⟨h1,h2⟩
  · rw [if_neg (by lia)];exact decide_eq_true (by lia)
  · rw [if_pos (by lia)];exact h2
theorem oq {T C:List (List Int)} (H:gj T) (Fo:iC T C):∀g l,Iv T (jA dY C) false g l→l≠ []→(mc false (g++ [bh false l]) (bP false l++kd T g (bh false l))).Pairwise (jA dY C):=by
  intro g l I hl
  obtain ⟨hxl,hxg,hgx,hxr,ho,hrl⟩:=nF (fX dY C) I hl
  have hkid:∀k∈kd T g (bh false l),ke C k=ke C (bh false l)++ [k]:=fun k hk=>qM H Fo I hxg hk
  have hxn:=I.sub _ (R0 _ hxl)
  generalize bh false l=x at *
  generalize hr:bP false l=r at *
  show ((g++ [x])++(r++kd T g x)).Pairwise _
  rw [←U2]
  have ho:((g++ [x])++r).Pairwise (jA dY C):=ho
  have hpos:1≤(ke C x).length:=List.length_pos_of_mem (Fo.self x hxn)
  refine V1.mpr ⟨ho,?_,fun a ha k hk=>?_⟩
  · refine (qA T g x).imp_of_mem fun {a b} ha hb h=>?_
    unfold jA
    rw [hkid a ha,hkid b hb]
    refine fW (.inr ⟨by rw [N0,N0];rfl,?_⟩)
    rw [j6,j7]
    exact decide_eq_true h
  · unfold jA
    rw [hkid k hk]
    have hle:∀y,(y∈g∨y=x)→(ke C y).length≤(ke C x).length:=by
      rintro y (hy | rfl)
      · rcases nJ (hgx y hy) with h | ⟨h,_⟩<;>(first | exact B4 h | lia)
      · exact S0 _
    rcases A1.mp ha with ha | ha
    · have:=hle a (by
        rcases A1.mp ha with h | h
        · exact .inl h
        · exact .inr (I2.mp h))
      exact fW (.inl (by rw [N0,O1];exact A3 this))
    · have han:=I.sub a (R0 _ (hrl a ha))
      by_cases he:f5 T a= []
      · rw [Fo.root a han he]
        exact fW (.inl (by rw [N0,O1,O1];exact A3 hpos))
      · obtain ⟨p,hp,hc,_⟩:=Fo.kid a han he
        have hpg:=I.up a (R0 _ (hrl a ha)) p hp
        rw [hc]
        rcases nJ (hgx p hpg) with h | ⟨h1,h2⟩
        · exact fW (.inl (by rw [N0,N0,O1,O1];exact A3 h))
        · exact fW (.inr ⟨by rw [N0,N0,O1,O1];lia,nU h1 h2⟩)
noncomputable def dl (T:List (List Int)):List Int:=(bT T.length).filter fun i=>(((f5 T i).length:Nat):Int)==0
theorem v9 (l:List Int):k4 [] l=l.length:=by
  unfold k4
  rw [J6.mpr]
  intro a _;rfl
theorem lS {T:List (List Int)} (H:gj T):eI T=(dQ T.length (lI T [] (dl T)) (jR T T.length),dl T,[]):=by
  have hA:=l3 (T:=T) fun k hk=>⟨H.nd k hk,fun p hp=>(H.sub k hk p hp).1⟩
  have hr:dJ (cy T)=dl T:=by
    rw [hA]
    unfold dJ dQ dl
    rw [List.filter_map,U1]
    exact B5 _
  unfold eI
  rw [hr,hA,jt]
  refine Prod.ext (bo fun i hi=>⟨?_,rfl⟩) rfl
  unfold lI
  rw [if_neg (V5),v9]
theorem root_mem {T:List (List Int)} {i:Int}:i∈dl T↔i∈bT T.length∧f5 T i= []:=by
  unfold dl
  rw [R3,beq_iff_eq]
  constructor
  · rintro ⟨h1,h2⟩;exact ⟨h1,Z7.mp (by lia)⟩
  · rintro ⟨h1,h2⟩;exact ⟨h1,by rw [h2];rfl⟩
theorem lT {T:List (List Int)} (lt:Int→Int→Prop) (la:Bool) (h:(mc la [] (dl T)).Pairwise lt):Iv T lt la [] (dl T) where
  sub:=fun i hi=>(root_mem.mp hi).1
  up:=fun i hi j hj=>by rw [(root_mem.mp hi).2] at hj;cases hj
  all:=fun i hi h=>root_mem.mpr ⟨hi,List.eq_nil_iff_forall_not_mem.mpr fun j hj=>by have:=h j hj;cases this⟩
  ord:=h
theorem lY (T:List (List Int)):(dl T).Pairwise (· < ·):=(q9 _).filter _
theorem iG {g:List Int→List Int} {C:List (List Int)} {n:Nat} {z y:List Int} (hz:z.Perm (bT n)) (hz2:z.Pairwise (jA g C)) (hy:y.Perm (bT n)) (hy2:y.Pairwise (jA g C)):z=y:=
  (hz.trans hy.symm).eq_of_pairwise (fun a b _ _ h1 h2=>absurd (kF h1 h2) (fX g C a)) hz2 hy2
theorem rd {T C:List (List Int)} (H:gj T) (Fo:iC T C) (hl:C.length=T.length) (m:Int→Nat) (hm:∀i∈bT T.length,∀j∈f5 T i,m j < m i) (zs:List Int) (hz:l6 ee C zs):∃n,RunV true n (eI T) zs:=by
  rw [lS H]
  obtain ⟨n,z,hr,h1,h2⟩:=nO H (jA ee C) (fX ee C) true m hm (p5 H Fo) _ [] (dl T) (S0 _) (lT _ true (by
    show ([]++(dl T).reverse).Pairwise _
    rw [Q4,M8]
    refine (lY T).imp_of_mem fun {a b} ha hb h=>?_
    unfold jA
    rw [Fo.root a (root_mem.mp ha).1 (root_mem.mp ha).2,Fo.root b (root_mem.mp hb).1 (root_mem.mp hb).2]
    show et [0 - b] [0 - a]=true
    rw [j7];exact decide_eq_true (by lia)))
  have:=iG h1 h2 (by rw [←hl];exact hz.1) hz.2
  rw [this] at hr
  exact ⟨n,hr⟩
theorem q7 {T C:List (List Int)} (H:gj T) (Fo:iC T C) (hl:C.length=T.length) (m:Int→Nat) (hm:∀i∈bT T.length,∀j∈f5 T i,m j < m i) (zs:List Int) (hz:l6 dY C zs):∃n,RunV false n (eI T) zs:=by
  rw [lS H]
  obtain ⟨n,z,hr,h1,h2⟩:=nO H (jA dY C) (fX dY C) false m hm (oq H Fo) _ [] (dl T) (S0 _) (lT _ false (by
    show ([]++dl T).Pairwise _
    rw [Q4]
    refine (lY T).imp_of_mem fun {a b} ha hb h=>?_
    unfold jA
    rw [Fo.root a (root_mem.mp ha).1 (root_mem.mp ha).2,Fo.root b (root_mem.mp hb).1 (root_mem.mp hb).2]
    refine fW (.inr ⟨rfl,?_⟩)
    rw [j7];exact decide_eq_true h))
  have:=iG h1 h2 (by rw [←hl];exact hz.1) hz.2
  rw [this] at hr
  exact ⟨n,hr⟩
theorem od {P:Nat→Nat→Bool} (h:((List.range 60).all fun i=>(List.range 60).all fun j=>P i j)=true) {i j:Nat} (hi:i < 60) (hj:j < 60):P i j=true:=by
  rw [E3] at h
  have h:=h i (K3.mpr hi)
  rw [E3] at h
  exact h j (K3.mpr hj)
theorem oJ {a b c:Ky} (ha:a∈ads) (hb:b∈ads) (hc:c∈ads) (h1:ew a b=true) (h2:ew b c=true):ew a c=true:=by
  obtain ⟨i,hi,rfl⟩:=fS ha
  obtain ⟨j,hj,rfl⟩:=fS hb
  obtain ⟨k,hk,rfl⟩:=fS hc
  rw [gx hi hj] at h1
  rw [gx hj hk] at h2
  rw [gx hi hk]
  have h:=od oA hi hj
  rw [h1] at h
  have h:((List.range 60).all fun k=>!bitM j k || bitM i k)=true:=h
  rw [E3] at h
  have h:=h k (K3.mpr hk)
  rw [h2] at h
  exact h
theorem oK {a b c:Ky} (ha:a∈ads) (hb:b∈ads) (hc:c∈ads) (h1:ew a c=true) (h2:ew b c=true):ew a b=true∨ew b a=true:=by
  obtain ⟨i,hi,rfl⟩:=fS ha
  obtain ⟨j,hj,rfl⟩:=fS hb
  obtain ⟨k,hk,rfl⟩:=fS hc
  rw [gx hi hk] at h1
  rw [gx hj hk] at h2
  rw [gx hi hj,gx hj hi]
  have h:=od oC hi hk
  rw [h1] at h
  have h:((List.range 60).all fun j=>!bitM j k || bitM i j || bitM j i)=true:=h
  rw [E3] at h
  have h:=h j (K3.mpr hj)
  rw [h2] at h
  rcases W8.mp h with h | h
  · exact .inl h
  · exact .inr h
theorem ja {a b:Ky} (ha:a∈ads) (hb:b∈ads) (hne:a≠b):j2 a b=ew a b:=by
  obtain ⟨i,hi,rfl⟩:=fS ha
  obtain ⟨j,hj,rfl⟩:=fS hb
  exact y2 hi hj fun e=>hne (by rw [e])
theorem l5 {a:Ky} (ha:a∈ads):a.2.length≤14:=by
  have:=pl
  rw [E3] at this
  exact of_decide_eq_true (this a ha)
theorem uX {a b:Ky} (hb:b∈ads) (hne:a≠b) (h:j2 a b=true):a.2.length < b.2.length:=by
  unfold j2 at h
  simp only [Y5,decide_eq_true_eq,S4] at h
  have hl:=l5 hb
  obtain ⟨m,hm,e⟩:=gD (by exact A3 hl) h.2
  have h1:a.2.length=m:=by rw [e,fk hm]
  rcases A6 m b.2.length with h2 | h2
  · lia
  · exfalso
    have hmb:m=b.2.length:=by lia
    refine hne (Prod.ext h.1 ?_)
    rw [e,hmb]
    unfold kK
    have hl':b.2.length=b.2.cps.toList.length:=(A4).symm
    rw [hl',C3,O8]
section
variable {K:List Ky}
structure nD (K:List Ky):Prop where
  mem:∀x∈K,x∈ads
  nd:K.Nodup
  le:K.length≤8
theorem c3 {i:Nat} (hi:i < K.length):atK K i∈K:=by
  unfold atK
  rw [I1,O0 hi]
  exact W6 hi
theorem bq:(eQ K).length=K.length:=by unfold eQ ox;rw [B0,aH]
theorem fv (H:nD K) {y j:Nat} (hy:y < K.length):(j:Int)∈di K y↔j < K.length∧j≠y∧ew (atK K j) (atK K y)=true:=by
  unfold di gt
  rw [R3,upN_mem,Y5,W0,W0]
  constructor
  · rintro ⟨⟨i,e,hi⟩,h1,h2⟩
    have e:j=i:=by lia
    subst e
    have hne:j≠y:=fun e=>bne_iff_ne.mp h1 (by rw [e])
    refine ⟨hi,hne,?_⟩
    rw [←ja (H.mem _ (c3 hi)) (H.mem _ (c3 hy)) fun e=>hne (i2 H.nd hi hy e)]
    exact h2
  · rintro ⟨hi,hne,h⟩
    refine ⟨⟨j,rfl,hi⟩,bne_iff_ne.mpr (fun e=>hne (by lia)),?_⟩
    show j2 (atK K j) (atK K y)=true
    rw [ja (H.mem _ (c3 hi)) (H.mem _ (c3 hy)) fun e=>hne (i2 H.nd hi hy e)]
    exact h
theorem f4 (H:nD K) {y:Int} (hy:y∈bT (eQ K).length):f5 (eQ K) y=di K y:=by
  rw [bq] at hy
  obtain ⟨i,rfl,hi⟩:=upN_mem.mp hy
  unfold f5 eQ ox
  rw [I1,W0,V0,cJ?,if_pos hi]
  show gt K.length (fun a b=>ew (atK K a) (atK K b)) (i:Int)=di K i
  unfold di gt
  refine Q6 fun j hj=>?_
  obtain ⟨k,rfl,hk⟩:=upN_mem.mp hj
  rw [W0,W0]
  by_cases e:k=i
  · subst e;simp
  · show (_ && ew (atK K k) (atK K i))=(_ && j2 (atK K k) (atK K i))
    rw [ja (H.mem _ (c3 hk)) (H.mem _ (c3 hi)) fun e'=>e (i2 H.nd hk hi e')]
theorem i4 {y j:Int} (h:j∈di K y):∃i:Nat,j=i∧i < K.length∧j≠y:=by
  obtain ⟨i,e,hi,hne,_⟩:=gN h
  exact ⟨i,e,hi,hne⟩
theorem jb (H:nD K) {y j:Int} (hy:y∈bT K.length) (h:j∈di K y):cM K j < cM K y:=by
  obtain ⟨a,rfl,ha⟩:=upN_mem.mp hy
  obtain ⟨b,rfl,hb,_⟩:=i4 h
  obtain ⟨_,hne,hm⟩:=(fv H ha).mp h
  have hk:atK K b≠atK K a:=fun e=>hne (i2 H.nd hb ha e)
  have:=uX (H.mem _ (c3 ha)) hk (by rw [ja (H.mem _ (c3 hb)) (H.mem _ (c3 ha)) hk];exact hm)
  unfold cM
  rw [W0,W0]
  lia
theorem iB (y:Int):(di K y).Nodup:=(dW _).filter _
theorem l9 (H:nD K):gj (eQ K) where
  nd:=fun k hk=>by rw [f4 H hk];exact iB k
  sub:=fun k hk p hp=>by
    rw [f4 H hk] at hp
    obtain ⟨i,rfl,hi,hne⟩:=i4 hp
    rw [bq]
    exact ⟨upN_mem.mpr ⟨i,rfl,hi⟩,hne⟩
theorem ej {C:List (List Int)} (hl:C.length=K.length) (hC:fx K C) {i:Int} (hi:i∈bT K.length):lH K i (ke C i):=by
  obtain ⟨a,rfl,ha⟩:=upN_mem.mp hi
  have h1:C[a]?=some (ke C a):=by
    unfold ke
    rw [W0,I1,O0 (by lia)];rfl
  exact hC a _ h1
theorem m8 {zs ws:List Int} (hp:zs.Perm ws) (h1:zs.Pairwise fun a b=>cM K a < cM K b) (h2:ws.Pairwise fun a b=>cM K a < cM K b):zs=ws:=
  hp.eq_of_pairwise (fun a b _ _ h3 h4=>by lia) h1 h2
theorem kL (H:nD K) {C:List (List Int)} (hl:C.length=K.length) (hC:fx K C):iC (eQ K) C where
  root:=fun i hi he=>by
    rw [f4 H hi] at he
    rw [bq] at hi
    obtain ⟨zs,e,hz,_⟩:=ej hl hC hi
    rw [he] at hz
    rw [e,hz.eq_nil];rfl
  mem:=fun i hi y hy=>by
    rw [f4 H hi]
    rw [bq] at hi
    obtain ⟨zs,e,hz,_⟩:=ej hl hC hi
    rw [e] at hy
    rcases A1.mp hy with h | h
    · exact .inr (hz.mem_iff.mp h)
    · exact .inl (I2.mp h)
  self:=fun i hi=>by
    rw [bq] at hi
    obtain ⟨zs,e,hz,_⟩:=ej hl hC hi
    rw [e];exact R0 _ (.head _)
  kid:=fun i hi he=>by
    rw [f4 H hi] at he⊢
    have hi':=hi
    rw [bq] at hi'
    obtain ⟨zs,e,hz,hs⟩:=ej hl hC hi'
    have hzn:zs≠ []:=fun h=>he (by rw [h] at hz;exact hz.symm.eq_nil)
    obtain ⟨zs',p,rfl⟩:∃zs' p,zs=zs'++ [p]:=⟨zs.dropLast,zs.getLast hzn,(E7 hzn).symm⟩
    have hpa:p∈di K i:=hz.mem_iff.mp (R0 _ (.head _))
    obtain ⟨a,ei,ha⟩:=upN_mem.mp hi'
    obtain ⟨b,eb,hb,_⟩:=i4 hpa
    have hpn:p∈bT K.length:=upN_mem.mpr ⟨b,eb,hb⟩
    have hpn':p∈bT (eQ K).length:=by rw [bq];exact hpn
    obtain ⟨ws,e2,hw,hs2⟩:=ej hl hC hpn
    obtain ⟨s1,s2,s3⟩:=V1.mp hs
    have hzd:(zs'++ [p]).Nodup:=hz.nodup_iff.mpr (iB i)
    obtain ⟨d1,d2,d3⟩:=P3.mp hzd
    have hpm:=ei▸hpa
    rw [eb] at hpm
    obtain ⟨_,hbne,hbm⟩:=(fv H ha).mp hpm
    have hperm:zs'.Perm ws:=by
      refine ((M7 d1 (iB p)).mpr fun y=>?_).trans hw.symm
      constructor
      · intro hy
        have hya:y∈di K i:=hz.mem_iff.mp (Y0 _ hy)
        have hlt:cM K y < cM K p:=s3 y hy p (.head _)
        obtain ⟨c,ec,hc,_⟩:=i4 hya
        have hym:=ei▸hya
        rw [ec] at hym
        obtain ⟨_,hcne,hcm⟩:=(fv H ha).mp hym
        have hcb:c≠b:=fun e=>by rw [ec,eb,e] at hlt;lia
        rw [ec,eb]
        refine (fv H hb).mpr ⟨hc,hcb,?_⟩
        rcases oK (H.mem _ (c3 hc)) (H.mem _ (c3 hb)) (H.mem _ (c3 ha)) hcm hbm with h | h
        · exact h
        · exfalso
          have h2:(b:Int)∈di K c:=(fv H hc).mpr ⟨hb,fun e=>hcb e.symm,h⟩
          have h3:=jb H (upN_mem.mpr ⟨c,rfl,hc⟩) h2
          rw [ec,eb] at hlt
          lia
      · intro hy
        have hlt:=jb H hpn hy
        have hlt2:=jb H hi' hpa
        obtain ⟨c,ec,hc,hcp⟩:=i4 hy
        have hym:=eb▸hy
        rw [ec] at hym
        obtain ⟨_,hcne,hcm⟩:=(fv H hb).mp hym
        have hca:c≠a:=fun e=>by rw [ec,e,←ei] at hlt;lia
        have h1:(c:Int)∈di K a:=(fv H ha).mpr ⟨hc,hca,oJ (H.mem _ (c3 hc)) (H.mem _ (c3 hb)) (H.mem _ (c3 ha)) hcm hbm⟩
        rw [←ei,←ec] at h1
        rcases A1.mp (hz.mem_iff.mpr h1) with h | h
        · exact h
        · exact absurd (I2.mp h) hcp
    have hws:zs'=ws:=m8 hperm s1 hs2
    refine ⟨p,hpa,by rw [e,e2,hws],fun y hy=>?_⟩
    rw [f4 H hpn']
    rcases A1.mp (hz.mem_iff.mpr hy) with h | h
    · exact .inr (hw.mem_iff.mp (hperm.mem_iff.mp h))
    · exact .inl (I2.mp h)
theorem gy (H:nD K):∀i∈bT (eQ K).length,∀j∈f5 (eQ K) i,(cM K j).toNat < (cM K i).toNat:=by
  intro i hi j hj
  rw [f4 H hi] at hj
  rw [bq] at hi
  have h1:=jb H hi hj
  have h2:0≤cM K j:=Int.natCast_nonneg _
  lia
theorem hV (g:List Int→List Int) (hg:∀a b,g a=g b→a=b) {C:List (List Int)} (hl:C.length=K.length) (hC:fx K C):(C.map g).Nodup:=by
  rw [←B5 (C.map g),←ij g C id]
  refine fb (dW _) fun i hi j hj e=>?_
  rw [hl] at hi hj
  obtain ⟨zs,e1,_⟩:=ej hl hC hi
  obtain ⟨ws,e2,_⟩:=ej hl hC hj
  have e3:ke C i=ke C j:=hg _ _ e
  rw [e1,e2] at e3
  have:=congrArg List.getLast? e3
  simpa using this
theorem qG (a b:List Int) (h:ee a=ee b):a=b:=by
  have h1:∀c:List Int,ee (ee c)=c:=fun c=>by
    unfold ee
    rw [U1]
    refine (Z1 fun x _=>?_).trans (B5 _)
    show 0 - (0 - x)=x
    lia
  rw [←h1 a,h,h1]
theorem q8 (a b:List Int) (h:dY a=dY b):a=b:=by
  unfold dY at h
  exact (List.cons.inj h).2
theorem qo (H:nD K) (hpos:0 < K.length):lG K where
  pos:=hpos
  nd:=H.nd
  row:=fun r hr=>by
    unfold eQ ox at hr
    obtain ⟨y,hy,rfl⟩:=E1.mp hr
    have h1:=ir (p:=fun j:Int=>j !=y && ew (atK K j.toNat) (atK K y.toNat)) (q:=fun _=>true) (x:=y) (fun _ _=>rfl) (by simp) rfl hy
    rw [J6.mpr (fun _ _=>rfl),aH] at h1
    have:=H.le
    show (gt _ _ y).length≤7
    unfold gt
    exact Nat.le_of_lt_succ (P5 h1 this)
  rank:=⟨fun i=>20 - (cM K i).toNat,fun a ha k hk=>by
    have hA:=l3 (T:=eQ K) fun k hk=>⟨(l9 H).nd k hk,fun p hp=>((l9 H).sub k hk p hp).1⟩
    rw [hA] at ha⊢
    rw [jz]
    obtain ⟨i,hi,rfl⟩:=E1.mp ha
    obtain ⟨h1,h2⟩:=dn_mem.mp hk
    refine ⟨?_,h1⟩
    have h3:=gy H k h1 i h2
    have h4:(cM K k).toNat≤14:=by
      rw [bq] at h1
      obtain ⟨c,rfl,hc⟩:=upN_mem.mp h1
      have:=l5 (H.mem _ (c3 hc))
      unfold cM
      rw [W0,W0]
      exact this
    show 20 - (cM K k).toNat < 20 - (cM K i).toNat
    lia⟩
  deep:=fun C hl hC=>⟨hV ee qG hl hC,fun zs hz=>rd (l9 H) (kL H hl hC) (by rw [hl,bq]) (fun i=>(cM K i).toNat) (gy H) zs hz⟩
  wide:=fun C hl hC=>⟨hV dY q8 hl hC,fun zs hz=>q7 (l9 H) (kL H hl hC) (by rw [hl,bq]) (fun i=>(cM K i).toNat) (gy H) zs hz⟩
end
theorem yw:∀x∈K0,x∈ads:=by
  intro x hx
  rcases Z0.mp hx with rfl | hx
  · exact nA 2
  · rw [I2.mp hx];exact nA 1
theorem qL (l:List Int):∀K:List Ky,K=gG (2::1::l)→lG K:=by
  rintro K rfl
  obtain ⟨X,e,hX,hnd,hle⟩:=mU l
  rw [e]
  refine qo ⟨fun x hx=>?_,hnd,hle⟩ ?_
  · rcases A1.mp hx with h | h
    · exact yw x h
    · exact hX x h
  · rw [N0]
    have:K0.length=2:=rfl
    lia
open PySem PySem.W PySem.Calls PyProof.Rows
noncomputable abbrev Γc:PySem.Ctx:=⟨.builtin "claim.caller" {},none,none,[],none⟩
theorem pd {prog:Program} {w:World} {s:Shared} {name:Str} {mg:Str→Option Value} {f:Value} {vs:List Value} {R:Result→Shared→Prop}
    (hg:s.heap.Ns mainGlobals mg) (hf:mg name=some f)
    (h:∀p,∃v s',Returns (model prog w) ⟨.call f ⟨vs,[]⟩,none,none,[(.builtin "claim.caller" {},p)],none⟩ p s (.ok (.ret v)) s'∧R (.ok (.ret v)) s'):
    Sem.wp (model prog w) Γc (do match ←nsGet mainNs name with
      | some f=>do ret (←PySem.call f vs)
      | none=>unsupported "claim.caller:no-such-global") (R8 (model prog w) Γc R) (fun e _ s'=>R (.error e) s') default s:=by
  have h1:wpAny (model prog w) callerA (nsGet mainNs name) (fun o s₁=>o=some f∧s₁=s) (fun _ _=>False) s:=wpAny_nsGet hg ⟨hf,rfl⟩
  rw [M4]
  refine W2 (model prog w) Γc _ ?_ (fun _ _ _ h=>h.elim) default s (h1 Γc default caller_in)
  rintro o p s₁ ⟨rfl,rfl⟩
  dsimp only
  rw [M4]
  refine gl fun Gg kg=>?_
  obtain ⟨v,s',hr,hR⟩:=h p
  refine kg ?_
  refine (Sem.wp_cmd_call (model prog w) Γc _ p s₁ _ _ _ _).mpr ⟨_,s',hr,?_⟩
  exact hR
noncomputable abbrev zD (q:Program) (loose:List Str) (XP:(Str→Option Value)→Heap→Prop) {α:Type} (Yf:Shared→α) (Ya:World→α) (r:RowW) (d:DefRec) (kwd:List (Str × Expr)):Prop:=
  ∀(w:World) (s₀ s₁:Shared) (mg mb:Str→Option Value),Ground q loose r.records XP w s₀ mg mb s₁.heap→Yf s₀=Ya w→∀(a:Addr) (o:Obj) (pm cd doc dV kV:Value),s₁.heap.get? a=some o→
    o.data= .func {docDef d.name d.params d.body d.scope pm cd doc with defaults:=dV,kwdefaults:=kV}→s₁.heap.CodeRec cd d.name→Dflts mg s₁.heap d.params kwd dV kV→mg d.name=some (.ref a)→s₁.gens=#[]→
    ∀(args:List WData) (vals:List Value) (as:List Addr),Laid r.records w s₀ s₁ args vals as→r.claim.pre args=true→WData.layableAll args=true→ReadsAllW r.records (classAt s₀.heap) s₁.heap vals args as→WellAll w.2 s₁.heap vals args→(∀a∈as,(a==sysModules)=false)→
      ∀p,∃v s',Returns (model r.prog w) ⟨.call (.ref a) ⟨vals,[]⟩,none,none,[(.builtin "claim.caller" {},p)],none⟩ p s₁ (.ok (.ret v)) s'∧GoodWG r.claim (classAt s₀.heap) (ExcName.means s₀.heap) args s₁ (.ok (.ret v)) s'
theorem zo {r:OpenRow} {q:Program} {loose:List Str} {Xt:Shared→Bool} {XP:(Str→Option Value)→Heap→Prop} {α:Type} {Yf:Shared→α} {Ya:World→α} {d:DefRec} {kwd:List (Str × Expr)} {N:Nat}
    (left:LeftO r.prog q loose Xt Yf Ya N)
    (hX:∀s,Xt s=true→XP (s.heap.nsMap mainGlobals) s.heap) (hXk:∀mg h h',XP mg h→(∀b o,h.get? b=some o→h'.get? b=some o)→XP mg h')
    (hdef:defOf q r.name=some (d,kwd)) (hp:r.prog.theDef r.name=some (d.params,d.body,d.scope)) (hk:kwWritten? d.params.kwonlyargs d.params.kw_defaults=some kwd) (hRf:∀s,Xt s=true→RecFacts r.records s.heap) (hwr:(!r.writes || r.records.isEmpty)=true)
    (k1:r.wellSaid=true) (ok:(chainsOk q && opensWell r.prog && (frees r.toRowW && r.within.isEmpty))=true) (hb:r.prog.bare) (hw:r.toRowW.promised)
    (call:zD q loose XP Yf Ya r.toRowW d kwd):r.Holds:=by
  obtain ⟨ok1,k6⟩:=B3.mp ok
  obtain ⟨hch,o1⟩:=B3.mp ok1
  obtain ⟨kf,kw⟩:=B3.mp k6
  obtain ⟨hsame,hu,ha,hap,hm⟩:=frees_parts kf
  refine ⟨k1,hw,⟨hb,o1,by show r.makers.map _= [];rw [hm];rfl⟩,hw.witness,fun w=>⟨(left.behind hX hch w).1,fun s' hs'=>?_⟩⟩
  refine gl fun Gg kg=>?_
  obtain ⟨s₀,hf,hg0,s,hT,hz,hgens,hg,GR,y⟩:=(left.behind (XP:=fun mg h=>XP mg h∧RecFacts r.records h) (fun s hs=>⟨hX s hs,hRf s hs⟩) hch w).2 s' hs'
  refine kg ?_
  have G0:Ground q loose [] XP w s (s.heap.nsMap mainGlobals) (s.heap.nsMap builtinsNs) s.heap:=⟨GR.T,GR.B,GR.D,GR.TE,GR.TD,GR.W,GR.X.1,GR.cls,GR.has,GR.apart,GR.once,GR.K⟩
  have RF:=GR.X.2
  have hgens':s.gens=#[]:=Array.eq_empty_of_size_eq_zero (beq_iff_eq.mp hgens)
  have G:Ground q loose r.records XP w s _ _ s.heap:=RF.ground G0
  refine ⟨s₀,hf,hg0,s,hT,(fun n hn=>?_),RF.1,RF.2.1,?_⟩
  · obtain rfl:n=r.name:=by split at hn<;>simp_all
    exact pinned_of_view hg G0 hdef hp hk
  intro args hpre hlay ord hord
  obtain ⟨⟨vs,s₁⟩,hlaid⟩:=Option.isSome_iff_exists.mp (layAllW_isSome (P:=w.2) (ord:=ord) G.has args r.args s (pre_splitW hpre).1)
  have keeps:=layAllW_keeps _ _ _ hlaid
  have hal:=layAllW_rest _ _ _ hlaid
  refine gl fun Gg kg=>?_
  obtain ⟨as,hrd,hin,hold⟩:=reads_layAllW hord _ _ _ hlaid hlay s₁.heap (fun _ _ e=>e)
  refine kg ?_
  have L:Laid r.records w s s₁ args vs as:=⟨⟨ord,hord,hlaid⟩,hrd,hin,hold,keeps,hal.1.trans hgens',hal.2.2.1⟩
  have G₁:=G.keeps hXk keeps
  refine gl fun Gg kg=>?_
  obtain ⟨a,o,pm,cd,doc,dV,kV,h1,h2,h3,h4,h5⟩:=G₁.fn hdef
  refine kg ?_
  have walk:=call w s s₁ _ _ G₁ y a o pm cd doc dV kV h2 h3 h4 h5 (defOf_name hdef▸h1) L.gens args vs as L hpre hlay L.reads L.well (L.low G.low)
  have hi:=ident_freeW hu ha hap
  have hwi:r.claim.within= []:=List.isEmpty_iff.mp kw
  have hwp:=pd (prog:=r.prog) (w:=w) (s:=s₁) (name:=r.name) (f:=.ref a) (vs:=vs)
    (R:=fun res s'=>(r.claim.Ends s args vs s₁ res s'∧s'.os=s.os∧(r.writes=true→namesKept r.prog r.keeps s.heap s'.heap∧∀x∈r.claim.records,∀a,classAt s.heap x.1=some a→recordClass s'.heap a x.1 (x.2.map (·.1))=true))∧leftWithCleanup s'.gens=false)
    G₁.T.g h1 fun p=>by
      obtain ⟨v,s',hr,hgood⟩:=walk p
      refine ⟨v,s',hr,?_⟩
      have z:=hgood.laid (c:=r.claim) hsame hwi hi L
      exact ⟨⟨z.1,z.2.1,fun q=>⟨namesKept_of hT hg r.keeps keeps hgood.2.1.old,noTable hwr q⟩⟩,leftWithCleanup_false_of_bare z.2.2⟩
  refine gl fun Gg kg=>?_
  obtain ⟨k,res,s',s'',hsched,hrun,hfo,hcase,hos,hkp⟩:=wp_halts_full (M:=model r.prog w) (R:=fun res s'=>r.claim.Ends s args vs s₁ res s'∧s'.os=s.os∧(r.writes=true→namesKept r.prog r.keeps s.heap s'.heap∧∀x∈r.claim.records,∀a,classAt s.heap x.1=some a→recordClass s'.heap a x.1 (x.2.map (·.1))=true)) (Shared.asleep_of_life hal.2.2.2 hz) hwp
  refine kg ?_
  refine gl fun Gg kg=>?_
  obtain ⟨eh,_,_,eo,_⟩:=Shared.forget_eq hfo
  refine kg ?_
  have hcase':=hcase.congr eh
  have hlife:s''.heap.life=s.heap.life:=(runN_life _ _ _ hrun).trans hal.2.2.2
  refine ⟨vs,s₁,hlaid,k,_,s'',hsched,?_,(fun _ i x hx=>by rw [hgens'] at hx;simp at hx),?_,by rw [hlife],Shared.rest_eq (eo.trans hos)⟩
  · refine gl fun Gg kg=>?_
    rcases hcase' with ⟨v,rfl,d1,d2,d3,d4,d5⟩ | ⟨e,ob,cls,rfl,d1,d2,d3,d4,d5⟩
    · refine kg ?_
      exact .inl ⟨v,rfl,d1,d2,d3,fun b o y _=>d4 b o y,d5⟩
    · refine kg ?_
      exact .inr ⟨e,ob,cls,rfl,d1,d2,d3,d4,fun b o y _=>d5 b o y⟩
  · intro hq
    rw [eh]
    exact hkp hq
open PySem PySem.W PySem.Calls PyProof.Rows PySem.W.X PySem.W.ZRun
noncomputable def flat:KT→Nat→Nat→Frag
  | .nil,_,_=> []
  | .node v l r,s,b=>(match v with | none=>flat l (2 * s) (s+b)++flat r (2 * s) (2 * s+b) | some o=>(b,o)::(flat l (2 * s) (s+b)++flat r (2 * s) (2 * s+b)))
theorem cV {h:Heap}:∀{A B:Frag},AllIn h (A++B)→AllIn h A∧AllIn h B
  | [],_,H=>⟨trivial,H⟩
  | _::_,_,H=>⟨⟨H.1,(cV H.2).1⟩,(cV H.2).2⟩
theorem gU {h:Heap}:∀(t:KT) (s b:Nat),AllIn h (flat t s b)→KT.Holds h s b t
  | .nil,_,_,_=>trivial
  | .node none l r,s,b,H=>⟨(fun _ e=>nomatch e),gU l _ _ (cV H).1,gU r _ _ (cV H).2⟩
  | .node (some o) l r,s,b,H=>⟨fun _ e=>by cases e;exact H.1,gU l _ _ (cV H.2).1,gU r _ _ (cV H.2).2⟩
noncomputable def tD (P:Params):Frag:=flat (g9 P) 1 0++ [(205,br []),(215,br [])]
noncomputable abbrev yK:List Nat:= [0,3,63,207,35,67,195,203,91,155,123,187,129,177,137,169,89,217,85,149,213,141,93,2,4,64,208,176,136,196,148,212,116,92,156,34,66,130,202,170,90,218,122,186,86,142,205,215]
theorem tE (P:Params):yK=(tD P).map (·.1):=by kernel_rfl!
noncomputable def qv:Program:={pw with main:={pw.main with body:= [aY 0,aY 2,aY 4,aY 5,aY 6,aY 7,aY 8,aY 10,aY 11,aY 12,aY 13,aY 14]}}
set_option maxHeartbeats 0 in
theorem main:PySem.Challenge.rw_mq0362_02.Holds:=by
  w_on
  o_law
  refine zo (q:=qv) (loose:= [Str.ofString "_NodeInfo"]) (Xt:=fun s=>xlAt qv [] s && recOk (RowW.records PySem.Challenge.rw_mq0362_02.row.toRowW) s) (XP:=XL qv []) (Yf:=obsZ yK) (Ya:=valZ tD 219 480) (N:=3230) ?hl (fun s e=>xl_of s (B3.mp e).1) XL.keeps (by rfl) (by rfl) (by rfl) (fun s e=>recFacts_of (B3.mp e).2) (by rfl) (by first | assumption | decide+kernel) (by decide+kernel) ⟨rfl,rfl,rfl,rfl,rfl,by decide+kernel⟩ ?hw ?hc
  case hw=>w_witness2
  case hl=>exact fun w=>by kernel_rfl!
  k_fill
  intro w s₀ s₁ mg mb G y fa o pm cd doc dV kV ho hd hcd hD hmg hg args vals as L hpre hlay hrd hwl hlo
  have hz:=z_facts (K:=tD) tE y
  have ZN:=hz.2.2.1
  have ZT:=hz.2.2.2
  have ZH:∀b o,KT.get (g9 w.2) b=some o→s₁.heap.get? b=some o:=fun b o e=>L.keeps b o (kt_at (gU _ _ _ (cV hz.1).1) e)
  have Z2:=(cV hz.1).2
  have Z205:s₁.heap.get? 205=some (br []):=L.keeps _ _ Z2.1
  have Z215:s₁.heap.get? 215=some (br []):=L.keeps _ _ Z2.2.1
  have KX:Frag.In (tD w.2) s₁.heap:=InK.keeps w s₀.heap s₁.heap hz.2.1 L.keeps
  clear hz
  refine Ground.open G ?_
  intro T B D TE TW
  wrow_args hpre hlay hrd hwl hlo
  obtain ⟨hat,hsz⟩:=script_at L
  have htk:=script_toks L ZT
  rw [ZN] at hat hsz
  subst hat
  x_fa T KX hmg
  clear ho hd hcd hD y TW TE D B hmg T KX G
  rename_i ns a1 a2 a3 a4 a5 b1 b2 its b4 ra hI hr hcond hc2 hL w1 r0
  obtain ⟨ps,rfl,rfl⟩:=qR hI
  have hob:s₁.heap.get? 219=some (lst (ps.map iv) 0):=script_obj L hL
  have hkt:eq (g9 w.2) s₁.heap:=ZH
  have hst:St w s₁ [(219,lst (ps.map iv) 0),(205,br []),(215,br [])]:=⟨hkt,by rw [hsz];decide,⟨hob,Z205,Z215,trivial⟩,by
    rw [hsz]
    exact ⟨.inl (S0 219),A7 219,(fun b hb e=>by subst e;simp at hb),.inr (.inl rfl),by decide,(fun b hb e=>by subst e;simp at hb),.inr (.inr rfl),by decide,(fun _ h=>nomatch h),trivial⟩⟩
  intro p
  have hC:=xe (w:=w) (b1:=w.2.followText "special-get-raises") (b2:=w.2.followText "comprehension-iter-twice") (b3:=w.2.followText "set-order") (bel:=fun l=>∃p,l= [(.builtin "claim.caller" {},p)]) (sc:=219) (ve:=0) (F:= []) (M:= [(219,lst (ps.map iv) 0),(205,br []),(215,br [])])
    (Q:=fun r L'=>r= .ok (.ret (.bool true))∧∃m ms X,L'= [(219,lst (ps.map iv) 0)]++(c8 m++([(215,br ms)]++X))) ps (by rw [B0] at hcond;omega) (qL _)
    (fun l ⟨p,e⟩=>by subst e;exact ⟨by simp,rfl⟩) (E0 _) (fun m ms X=>⟨rfl,m,ms,X,rfl⟩)
  obtain ⟨r,s',L',hr,hT,rfl,m,ms,X,rfl⟩:=hC s₁ hst _ p ⟨p,rfl⟩
  rw [vB] at hr
  have hled:=Led.iff.mp hT.st.led
  have g219:s'.heap.get? 219=some (lst (ps.map iv) 0):=hled _ (.head _)
  obtain ⟨v205,g205⟩:∃vs,s'.heap.get? 205=some (br vs):=by
    cases m with
    | none=>exact ⟨_,hled (205,br []) (R0 _ (Y0 _ (.head _)))⟩
    | some q=>exact ⟨_,hled (205,_) (R0 _ (Y0 _ (.head _)))⟩
  have g215:s'.heap.get? 215=some (br ms):=hled (215,br ms) (R0 _ (R0 _ (.head _)))
  have c205:isCodeTable s₁.heap 205:=⟨207,yX w.2,_,ZH 207 _ (by kernel_rfl!),rfl,rfl,rfl⟩
  have c215:isCodeTable s₁.heap 215:=⟨217,yW w.2,_,ZH 217 _ (by kernel_rfl!),rfl,rfl,rfl⟩
  have tab:∀(b:Nat) (vs:List Value) (o:Obj),isCodeTable s₁.heap b→s₁.heap.get? b=some (br [])→s'.heap.get? b=some (br vs)→s₁.heap.get? b=some o→asItWas s₁.heap s'.heap b o:=by
    intro b vs o hc h1 h2 e
    rw [h1] at e
    cases e
    have e3:(#[]:Array Value)++(⟨vs⟩:Array Value)=⟨vs⟩:=by simp
    exact .inr (.inl ⟨hc,rfl,#[],⟨vs⟩,rfl,by rw [h2,e3]⟩)
  refine ⟨.bool true,s',hr,⟨.inl ⟨_,_,[],rfl,(fun _=>rfl),ReadsW.bool true,?_,fun _=>⟨I4,fun _ hm=>(nomatch hm)⟩⟩,⟨fun b o e=>?_,fun b o e=>?_⟩,hT.kp.os,.of_eq (hT.kp.gens.trans hg)⟩⟩
  · first | rfl | wrow_post
  · by_cases h1:b=219
    · subst h1;rw [hob] at e;cases e;exact .inl g219
    · by_cases h2:b=205
      · subst h2;exact tab 205 v205 o c205 Z205 g205 e
      · by_cases h3:b=215
        · subst h3;exact tab 215 ms o c215 Z215 g215 e
        · exact .inl (hT.kp.keep b o e (by simp [h1,h2,h3]))
  · by_cases h1:b=219
    · subst h1;exact ⟨_,g219⟩
    · by_cases h2:b=205
      · subst h2;exact ⟨_,g205⟩
      · by_cases h3:b=215
        · subst h3;exact ⟨_,g215⟩
        · exact ⟨_,hT.kp.keep b o e (by simp [h1,h2,h3])⟩
end Mine
theorem PySem.Challenge.cw_mq0362_02_holds : PySem.Challenge.rw_mq0362_02.Holds := by
  exact Mine.main
