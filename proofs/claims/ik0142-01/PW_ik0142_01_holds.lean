import PyProof.Rows.All
import Wide.All
import OpenK.AllK
import Wide.FinOn
import PyProof.StrCalls
import PyProof.AutoSeq1
import PyProof.EnumIter
import PyProof.ListIndexOut
import PyProof.RaisesMany
import PyProof.StationsW
import PyProof.SliceList
import PyProof.DictWalks
import PyProof.ListOps
import PyProof.MeetsSeq
import PyProof.AutoListH
import PyProof.FactsLen
import PyProof.MeetsDict
import PyProof.MeetsDictList
import PyProof.FactsDict
import PyProof.FactsAll.dict_1
import PyProof.FactsAll.dict_3
import PyProof.DictIter
import PyProof.DictValues
import PyProof.Comp
import PyProof.SetKind
import PyProof.SetRoads
import PyProof.SetNew
import PyProof.ListIndexNeg
import PyProof.TupleOfSeq
import PyProof.FactsAll.tuple_iterator_1
import PyProof.FactsAll.list_3
import PyProof.Conv_bool
import PyProof.ListTruth
import PyProof.WalkInts
import PyProof.FactsAll.int_1
import PyProof.FactsAll.int_2
import PyProof.FactsAll.int_3
import PyProof.RulesDelMore
import PyProof.TupleCall
import PyProof.TupleOfGen
import PyProof.TupleIter
import PyProof.StrBlockH
import PyProof.FactsAll.tuple_iterator
import PyProof.FactsAll.str_7
import PyProof.MeetsSeq3
import PyProof.MinMaxWalk
import PyProof.EnumStmt
import PyProof.MeetsStr
import PyProof.EnumFor
import PyProof.Rows.SeqMore
import PyProof.NeKinds
import PyProof.FactsAll.list_1
import PyProof.FactsAll.list_2
import PyProof.AutoIntG2
import PyProof.RangeIter
import PyProof.RangeFor
import PyProof.WalksMore
import PyProof.CallTypeRange
import PyProof.EqKinds
import PyProof.SliceMore
import PySem.Challenge.RW_ik0142_01
set_option maxRecDepth 100000
set_option maxHeartbeats 0
set_option Elab.async false
set_option genSizeOf false
set_option bootstrap.genMatcherCode false
set_option linter.all false
set_option maxRecDepth 100000
namespace Mine
open PySem PySem.W PySem.W.X
noncomputable abbrev denZ:Code→Sem Fin:=PySem.W.ZFast.zw11892475500146522536 PySem.W.ZFast.tableZ
theorem denZ_eq:denote table=denZ:=by
 show _=PySem.W.ZFast.zw11892475500146522536 PySem.W.ZFast.tableZ
 rw [← PySem.W.ZFast.ze11892475500146522536,← ZFast.tableZ_eq]
structure Kt where
 code:Code
 hd:Option Value
 k:Result→Sem Fin
noncomputable def ar (A:Around):List Kt→Around
 | [] => A
 | q :: l => ((ar A l).under q.code).mark q.hd
section
variable (prog:Program) (w:World) (A:Around) (R:Result→Shared→Prop)
noncomputable def Go:List Kt→Code→Sem Fin→Shared→Prop
 | [], c, t, s => wpOwn (model prog w) A c t (postC prog w A R) (postE R) s
 | q :: l, c, t, s => wpOwn (model prog w) (ar A (q :: l)) c t (postC prog w (ar A (q :: l)) fun r s' => Go l q.code (q.k r) s') (postE fun r s' => Go l q.code (q.k r) s') s
noncomputable def Rk:List Kt→Result→Shared→Prop
 | [] => R
 | q :: l => fun r s' => Go prog w A R l q.code (q.k r) s'
theorem Go_eq (l:List Kt) (c:Code) (t:Sem Fin) (s:Shared):Go prog w A R l c t s=wpOwn (model prog w) (ar A l) c t (postC prog w (ar A l) (Rk prog w A R l)) (postE (Rk prog w A R l)) s:=by
 cases l <;> rfl
end
section
variable {prog:Program}{w:World}{A:Around}{R:Result→Shared→Prop}{l:List Kt}{c:Code}
theorem go_code {s:Shared}(h:Go prog w A R [] c (denZ c) s):codeAny (model prog w) A c R s:=by
 rw [← denZ_eq] at h
 exact y_code prog w A R s c h
theorem go_again {c':Code}{s:Shared}(hq:c'.quiet=true) (h:codeAny (model prog w) (ar A l) c' (Rk prog w A R l) s):Go prog w A R l c (.pure (.again c')) s:=by
 rw [Go_eq]
 exact y_pure _ _ _ _ _ _ _ _ _ (y_again _ _ _ _ _ _ hq h)
theorem go_againGo {c':Code}{s:Shared}(hq:c'.quiet=true) (h:Go prog w A R l c' (denZ c') s):Go prog w A R l c (.pure (.again c')) s:=by
 refine go_again hq ?_
 rw [← denZ_eq] at h
 rw [Go_eq] at h
 exact y_code _ _ _ _ _ _ h
theorem go_done {q:Kt}{f:Flow}{s:Shared}(h:Go prog w A R l q.code (q.k (.ok f)) s):Go prog w A R (q :: l) c (.pure (.done f)) s :=
 y_pure _ _ _ _ _ _ _ _ _ (y_done _ _ _ _ _ _ h)
theorem go_fail {q:Kt}{e:Value}{s:Shared}(h:Go prog w A R l q.code (q.k (.error e)) s):Go prog w A R (q :: l) c (.raise e) s :=
 y_raise _ _ _ _ _ _ _ _ _ (y_err _ _ _ h)
theorem go_ret {f:Flow}{s:Shared}(h:R (.ok f) s):Go prog w A R [] c (.pure (.done f)) s :=
 y_pure _ _ _ _ _ _ _ _ _ (y_done _ _ _ _ _ _ h)
theorem go_err {e:Value}{s:Shared}(h:R (.error e) s):Go prog w A R [] c (.raise e) s :=
 y_raise _ _ _ _ _ _ _ _ _ (y_err _ _ _ h)
theorem go_skim {s:Shared}(n:Nat){t:Sem Fin}(h:Go prog w A R l c (skim ⟨prog,w.params⟩ n t) s):Go prog w A R l c t s:=by
 rw [Go_eq] at h ⊢
 exact y_skim _ _ _ _ _ _ _ _ _ n h
theorem go_call {c':Code}{hd:Option Value}{g:Bool}{lv:List Value}{k:Result→Sem Fin}{s:Shared}(hnb:hd≠some byPass)
   (h:codeAny (model prog w) (((ar A l).under c).mark hd) c' (fun r s'=>Go prog w A R l c (k r) s') s):Go prog w A R l c (.call c' hd g lv k) s:=by
 rw [Go_eq]
 refine y_call _ _ _ _ _ _ _ _ _ _ _ _ _ hnb (codeAny_mono h fun r s' x=>?_)
 rw [Go_eq] at x
 exact y_ret _ _ _ _ _ _ _ _ _ _ x
theorem go_callGo {c':Code}{hd:Option Value}{g:Bool}{lv:List Value}{k:Result→Sem Fin}{s:Shared}(hnb:hd≠some byPass)
   (h:Go prog w A R (⟨c,hd,k⟩ :: l) c' (denZ c') s):Go prog w A R l c (.call c' hd g lv k) s:=by
 refine go_call hnb ?_
 rw [← denZ_eq] at h
 exact y_code _ _ _ _ _ _ h
section
variable {h:Heap}{g:Array GenState}{d:Drawn}{t:Nat}{os:OsState}
theorem go_fresh {k:Tok→Sem Fin}(x:Go prog w A R l c (k t) ⟨h,g,d,t + 1,os⟩):Go prog w A R l c (.fresh k) ⟨h,g,d,t,os⟩:=by
 rw [Go_eq] at x ⊢
 exact y_fresh _ _ _ _ _ _ _ _ _ _ _ _ _ x
theorem go_handled {s:Shared}{k:Option Value→Sem Fin}(x:Go prog w A R l c (k (ar A l).handled) s):Go prog w A R l c (.handled false k) s:=by
 rw [Go_eq] at x ⊢
 exact y_handled _ _ _ _ _ _ _ _ _ x
theorem go_stack {s:Shared}{k:List (Code×Pos)→Sem Fin}(x:∀ (p:Pos) (below:List (Code×Pos)),Lies ((ar A l).under c) ((c,p) :: below)→Go prog w A R l c (k ((c,p) :: below)) s):Go prog w A R l c (.stack k) s:=by
 rw [Go_eq]
 refine y_stack _ _ _ _ _ _ _ _ _ fun p below L=>?_
 have:=x p below L
 rw [Go_eq] at this
 exact this
theorem go_load {a:Addr}{q:Option Value}{k:Obj→Sem Fin}{o:Obj}(ho:h.get? a=some o) (x:Go prog w A R l c (k o) ⟨h,g,d,t,os⟩):Go prog w A R l c (.load a q k) ⟨h,g,d,t,os⟩:=by
 rw [Go_eq] at x ⊢
 exact y_load _ _ _ _ _ _ _ _ _ _ _ _ _ _ _ _ ho x
theorem go_alive {a:Addr}{k:Option Obj→Sem Fin}{o:Obj}(ho:h.get? a=some o) (x:Go prog w A R l c (k (some o)) ⟨h,g,d,t,os⟩):Go prog w A R l c (.loadIfAlive a k) ⟨h,g,d,t,os⟩:=by
 rw [Go_eq] at x ⊢
 exact y_alive _ _ _ _ _ _ _ _ _ _ _ _ _ _ _ ho x
/-- the heap: what stood,and the cells that are ours -/
structure Hp (B : Addr → Option Obj) (h : Heap) (cs : List (Addr × Obj)) : Prop where
 keep:∀ b o,B b=some o→h.get? b=some o
 own:∀ p∈cs,h.get? p.1=some p.2
 off:∀ p∈cs,B p.1=none
 nd:(cs.map (·.1)).Nodup
theorem Hp.push {B:Addr→Option Obj}{h:Heap}{cs:List (Addr×Obj)}(H:Hp B h cs){o:Obj}(hf:o.isFreed=false):Hp B (h.push o) ((h.objs.size,o) :: cs):=by
 have no : ∀ p ∈ cs, p.1 ≠ h.objs.size := fun p hp e => by
   have:=Heap.lt_size (H.own p hp)
   rw [e] at this
   exact Nat.lt_irrefl _ this
 refine ⟨fun b o' e=>Heap.get?_push_of_some _ (H.keep b o' e),fun p hp=>?_,fun p hp=>?_,?_⟩
 · rcases List.mem_cons.mp hp with rfl | hp
   · exact Heap.get?_push_size _ hf
   · exact Heap.get?_push_of_some _ (H.own p hp)
 · rcases List.mem_cons.mp hp with rfl | hp
   · cases q : B h.objs.size with
     | none => rfl
     | some o' => exact absurd (Heap.lt_size (H.keep _ _ q)) (Nat.lt_irrefl _)
   · exact H.off p hp
 · rw [List.map_cons]
   refine List.nodup_cons.mpr ⟨fun hm=>?_,H.nd⟩
   obtain ⟨p,hp,e⟩:=List.mem_map.mp hm
   exact no p hp e
theorem Hp.put {B:Addr→Option Obj}{h:Heap}{pre post:List (Addr×Obj)}{a:Addr}{o:Obj}(H:Hp B h (pre++(a,o) :: post)){f:Obj→Obj}(hf:(f o).isFreed=false):Hp B (h.update a f) (pre++(a,f o) :: post):=by
 have ho:h.get? a=some o:=H.own (a,o) (by simp)
 have hs:Heap.SameBut a h (h.update a f):=Heap.SameBut.update ..
 have ge:(h.update a f).get? a=some (f o):=Heap.get?_update_self f ho hf
 have hn:=H.nd
 rw [List.map_append,List.map_cons,List.nodup_append] at hn
 obtain ⟨_,n2,n3⟩:=hn
 have na:=(List.nodup_cons.mp n2).1
 have p1:∀ p∈pre,p.1≠a:=fun p hp=>n3 _ (List.mem_map_of_mem hp) _ (.head _)
 have p2:∀ p∈post,p.1≠a:=fun p hp e=>na (by rw [← e];exact List.mem_map.mpr ⟨p,hp,rfl⟩)
 have off:=H.off (a,o) (by simp)
 refine ⟨fun b o' e=>(hs.2 b fun z=>by subst z;rw [e] at off;cases off).trans (H.keep b o' e),fun p hp=>?_,fun p hp=>?_,?_⟩
 · rcases List.mem_append.mp hp with hp | hp
   · exact (hs.2 _ (p1 p hp)).trans (H.own p (by simp [hp]))
   · rcases List.mem_cons.mp hp with rfl | hp
     · exact ge
     · exact (hs.2 _ (p2 p hp)).trans (H.own p (by simp [hp]))
 · rcases List.mem_append.mp hp with hp | hp
   · exact H.off p (by simp [hp])
   · rcases List.mem_cons.mp hp with rfl | hp
     · exact off
     · exact H.off p (by simp [hp])
 · have := H.nd
   rw [List.map_append,List.map_cons] at this ⊢
   exact this
theorem go_alloc {B:Addr→Option Obj}{cs:List (Addr×Obj)}(H:Hp B h cs){o:Obj}{k:Addr→Sem Fin}(hf:o.isFreed=false)
   (x:∀ a h',Hp B h' ((a,o) :: cs)→Go prog w A R l c (k a) ⟨h',g,d,t,os⟩):Go prog w A R l c (.alloc o k) ⟨h,g,d,t,os⟩:=by
 have:=x _ _ (H.push hf)
 rw [Go_eq] at this ⊢
 exact wpOwn_bind (m:=alloc o) (f:=k) (wpOwn_of_wpAny (wpAny_alloc this))
/-- where a cell lies in the list,and the list with it turned -/
inductive Cell : List (Addr × Obj) → Addr → Obj → (Obj → List (Addr × Obj)) → Prop
 | head {a o r} : Cell ((a, o) :: r) a o (fun o' => (a, o') :: r)
 | tail {p r a o F} : Cell r a o F → Cell (p :: r) a o (fun o' => p :: F o')
theorem Cell.split {cs:List (Addr×Obj)}{a:Addr}{o:Obj} {F}(z:Cell cs a o F):∃ pre post,cs=pre++(a,o) :: post∧∀ o',F o'=pre++(a,o') :: post:=by
 induction z with
 | head => exact ⟨[], _, rfl, fun _ => rfl⟩
 | tail _ ih =>
   obtain ⟨pre,post,e,f⟩:=ih
   exact ⟨_ :: pre,post,by rw [e];rfl,fun o'=>by show _ :: _=_;rw [f];rfl⟩
theorem Hp.at {B:Addr→Option Obj}{cs:List (Addr×Obj)}{a:Addr}{o:Obj} {F}(H:Hp B h cs) (z:Cell cs a o F):h.get? a=some o:=by
 obtain ⟨pre,post,rfl,_⟩:=z.split
 exact H.own (a,o) (by simp)
inductive Out where
 | mk (l : List Kt) (c : Code) (t : Sem Fin) (i : Nat)
 | no
noncomputable def adv (st:Setting):Nat→List Kt→Code→Sem Fin→Nat→Out
 | 0, l, c, t, i => .mk l c t i
 | n + 1, l, c, t, i => match (generalizing := false) t with
   | .rule _ k => adv st n l c (k ()) i
   | .at _ k => adv st n l c (k ()) i
   | .point _ k => adv st n l c (k ()) i
   | .ask k => adv st n l c (k st) i
   | .fresh k => adv st n l c (k i) (i + 1)
   | .pure fin => match fin with
     | .done f => match l with
       | [] => .mk [] c (.pure (.done f)) i
       | ⟨code, _, k⟩ :: l => adv st n l code (k (.ok f)) i
     | .again c' => .mk l c (.pure (.again c')) i
   | .raise e => match l with
     | [] => .mk [] c (.raise e) i
     | ⟨code, _, k⟩ :: l => adv st n l code (k (.error e)) i
   | .load a q k => .mk l c (.load a q k) i
   | .update a q f k => .mk l c (.update a q f k) i
   | .alloc o k => .mk l c (.alloc o k) i
   | .call c' hd g lv k => .mk l c (.call c' hd g lv k) i
   | .handled o k => .mk l c (.handled o k) i
   | .stack _ => .mk l c t i
   | .loadIfAlive a k => .mk l c (.loadIfAlive a k) i
   | t => .mk l c t i
noncomputable def GoO (prog:Program) (w:World) (A:Around) (R:Result→Shared→Prop) (h:Heap) (g:Array GenState) (d:Drawn) (os:OsState):Out→Prop
 | .mk l c t i => Go prog w A R l c t ⟨h, g, d, i, os⟩
 | .no => False
theorem adv_sound (h:Heap) (g:Array GenState) (d:Drawn) (os:OsState):∀ (n:Nat) (l:List Kt) (c:Code) (t:Sem Fin) (i:Nat),GoO prog w A R h g d os (adv ⟨prog,w.params⟩ n l c t i)→Go prog w A R l c t ⟨h,g,d,i,os⟩:=by
 intro n
 induction n with
 | zero => intro l c t i x; exact x
 | succ n ih =>
   intro l c t i x
   cases t with
   | rule tag k => exact go_skim 1 (ih _ _ _ _ x)
   | «at» q k => exact go_skim 1 (ih _ _ _ _ x)
   | point q k => exact go_skim 1 (ih _ _ _ _ x)
   | ask k => exact go_skim 1 (ih _ _ _ _ x)
   | fresh k => exact go_fresh (ih _ _ _ _ x)
   | pure fin =>
     cases fin with
     | done f =>
       cases l with
       | nil => exact x
       | cons q l => exact go_done (ih _ _ _ _ x)
     | again c' => exact x
   | raise e =>
     cases l with
     | nil => exact x
     | cons q l => exact go_fail (ih _ _ _ _ x)
   | _ => exact x
theorem go_adv {n:Nat}{t t':Sem Fin}{l':List Kt}{c':Code}{i i':Nat}(e:adv ⟨prog,w.params⟩ n l c t i=.mk l' c' t' i') (x:Go prog w A R l' c' t' ⟨h,g,d,i',os⟩):Go prog w A R l c t ⟨h,g,d,i,os⟩:=by
 refine adv_sound h g d os n l c t i ?_
 rw [e];exact x
end
end
/-- the world with the one decision told apart -/
noncomputable def isSG (row:String):Bool:=Nat.beq (PySem.W.S.codeS row) 10139888712337904147300001983332972444938612
noncomputable def wv (b:Bool) (w:World):World:={ w with params:={ w.params with followText:=fun row=>Bool.rec (w.params.followText row) b (isSG row) } }
theorem wv_self (w:World):wv (w.params.followText "special-get-raises") w=w:=by
 have e:(fun row=>(Bool.rec (w.params.followText row) (w.params.followText "special-get-raises") (isSG row):Bool))=w.params.followText:=by
   funext row
   cases q:isSG row with
   | false => rfl
   | true =>
     have:row="special-get-raises":=PySem.code_inj _ _ ((PySem.W.S.code_S row).trans ((Nat.eq_of_beq_eq_true q).trans (by decide +kernel)))
     rw [this]
 unfold wv
 rw [e]
section
variable {prog:Program}{w:World}{A:Around}{R:Result→Shared→Prop}{l:List Kt}{c:Code}{h:Heap}{g:Array GenState}{d:Drawn}{os:OsState}{b:Bool}
end
noncomputable def enterLite:Sem Unit:=do
 match ← nsGet cStatics "sys.recursionlimit" with
 | none => pure ()
 | some _ => unsupported "a limit"
theorem wp_enterLite {M:Model}{Γ:Ctx}{A:Around}{Q:Unit→Pos→Shared→Prop}{E:Value→Pos→Shared→Prop}{p:Pos}{s:Shared}(hΓ:Γ.In A) (hd:A.depth < recursionLimit)
   (h:Sem.wp M Γ enterLite Q E p s):Sem.wp M Γ (enterFrame 0) Q E p s:=by
 simp only [enterLite,Sem.wp_bind'] at h
 have hsum:((((Γ.code,p) :: Γ.below).map (·.1)).map (·.frames)).sum + ((((Γ.code,p) :: Γ.below).map (·.1)).filter Code.isCreation).length < recursionLimit:=by
   have hge:=frameCount_ge ((Γ.code,p) :: Γ.below)
   rw [frameCount_cons] at hge
   have:=hΓ.2.1
   omega
 have hlt:¬ ((((Γ.code,p) :: Γ.below).map (·.1)).map (·.frames)).sum ≥ recursionLimit:=by omega
 have hlt':¬ ((((Γ.code,p) :: Γ.below).map (·.1)).map (·.frames)).sum + ((((Γ.code,p) :: Γ.below).map (·.1)).filter Code.isCreation).length ≥ recursionLimit:=by omega
 have hnear:=not_nearTheLimit (p:=p) hΓ hd
 simp only [enterFrame,currentRecursionLimit,Sem.wp_bind']
 show Sem.wp M Γ (nsGet cStatics "sys.recursionlimit") _ _ p s
 refine Sem.wp_mono M Γ _ (fun r p' s' x=>?_) (fun _ _ _ x=>x) p s h
 cases r with
 | some v => exact (show False from x).elim
 | none =>
   have x':Q () p' s':=x
   show Sem.wp M Γ (if nearTheLimitUnderAClaim (((Γ.code,p) :: Γ.below).map (·.1)) (((((Γ.code,p) :: Γ.below).map (·.1)).map (·.frames)).sum + ((((Γ.code,p) :: Γ.below).map (·.1)).filter Code.isCreation).length) recursionLimit=true then _ else _) _ _ p' s'
   rw [if_neg (by rw [hnear];exact Bool.false_ne_true)]
   show Sem.wp M Γ (if ((((Γ.code,p) :: Γ.below).map (·.1)).map (·.frames)).sum ≥ recursionLimit then _ else _) _ _ p' s'
   rw [if_neg hlt]
   show Sem.wp M Γ (if ((((Γ.code,p) :: Γ.below).map (·.1)).map (·.frames)).sum + ((((Γ.code,p) :: Γ.below).map (·.1)).filter Code.isCreation).length ≥ recursionLimit then _ else _) _ _ p' s'
   rw [if_neg hlt'];exact x'
/-- a plain def's call,its look at the recursion's limit made short -/
noncomputable def fnLite (a:Addr) (fd:FuncData) (args:Args):Sem Fin:=do
 let compiled ← match fd.code with
   | .none => pure fd.qualname
   | c => do match ← field c 1 with
     | .str q _ => pure q
     | _ => pure fd.qualname
 let env ← newFunctionEnv fd.scope fd.globals fd.closure (← bindArgs fd args) (compiled++".<locals>.") (some a) fd.code none fd.builtins
 enterLite
 match fd.body with
 | .stmts b => again (.func b env)
 | .expr e => again (.expr e env)
noncomputable def fnTree (a:Addr) (fd:FuncData) (args:Args):Sem Fin :=
 PySem.W.R.bindR (match fd.code with
   | .none => .pure fd.qualname
   | c => PySem.W.R.bindR (ZFast.zw6609576154772507232 c 1) fun v => match v with
     | .str q _ => .pure q
     | _ => .pure fd.qualname) fun compiled =>
 PySem.W.R.bindR (ZFast.zw9782568553167038054 fd args) fun binds =>
 PySem.W.R.bindR (ZFast.zw11113344188204177931 fd.scope fd.globals fd.closure binds (compiled++".<locals>.") (some a) fd.code none fd.builtins) fun env =>
 PySem.W.R.bindR (ZFast.zw13143150168775219229 cStatics "sys.recursionlimit") fun r => match r with
   | none => (match fd.body with
     | .stmts b => .pure (.again (.func b env))
     | .expr e => .pure (.again (.expr e env)))
   | some _ => .unsupported "a limit"
theorem fnTree_eq (a:Addr) (fd:FuncData) (args:Args):fnLite a fd args=fnTree a fd args:=by
 unfold fnTree
 rw [← ZFast.ze6609576154772507232,← ZFast.ze9782568553167038054,← ZFast.ze11113344188204177931,← ZFast.ze13143150168775219229]
 simp only [← PySem.W.R.bindR_eq]
 unfold fnLite enterLite
 have e:∀ {α β:Type}(m:Sem α) (f:α→Sem β),m >>= f=m.bind f:=fun _ _=>rfl
 simp only [e,Sem.bind_assoc]
 have tl : ∀ compiled : Str, (bindArgs fd args).bind (fun __do_lift => (newFunctionEnv fd.scope fd.globals fd.closure __do_lift (compiled ++ Str.ofString ".<locals>.") (some a) fd.code none fd.builtins).bind fun env =>
     (nsGet cStatics (Str.ofString "sys.recursionlimit")).bind fun a=>(match a with | none=>pure () | some _=>unsupported "a limit").bind fun _=>match fd.body with | FuncBody.stmts b=>again (Code.func b env) | FuncBody.expr e=>again (Code.expr e env)) =
     (bindArgs fd args).bind fun binds=>(newFunctionEnv fd.scope fd.globals fd.closure binds (compiled++Str.ofString ".<locals>.") (some a) fd.code none fd.builtins).bind fun env =>
     (nsGet cStatics (Str.ofString "sys.recursionlimit")).bind fun r => match r with
       | none => (match fd.body with | FuncBody.stmts b => Sem.pure (Fin.again (Code.func b env)) | FuncBody.expr e => Sem.pure (Fin.again (Code.expr e env)))
       | some _ => Sem.unsupported "a limit" := by
   intro compiled
   refine congrArg _ (funext fun binds=>congrArg _ (funext fun env=>congrArg _ (funext fun r=>?_)))
   cases r with
   | none => cases fd.body <;> rfl
   | some v => rfl
 generalize fd.code=cd at tl ⊢
 cases cd
 case none=>exact tl _
 all_goals
   dsimp only
   rw [Sem.bind_assoc]
   refine congrArg _ (funext fun v=>?_)
   cases v <;> exact tl _
theorem own_enter {M:Model}{A:Around}{c:Code}{α:Type}{m:Sem α}{f:α→Sem Fin}{Q:Fin→Shared→Prop}{E:Value→Shared→Prop}{s:Shared}(hd:A.depth + c.weight < recursionLimit)
   (h:wpOwn M A c (m >>= fun x=>enterLite >>= fun _=>f x) Q E s):wpOwn M A c (m >>= fun x=>enterFrame 0 >>= fun _=>f x) Q E s:=by
 intro Γ p hc hΓ
 have x:=h Γ p hc hΓ
 have hin:Γ.In (A.under c):=hc ▸ hΓ.in
 rw [Sem.wp_bind'] at x ⊢
 refine Sem.wp_mono M Γ m (fun a p' s' y=>?_) (fun _ _ _ y=>y) p s x
 rw [Sem.wp_bind'] at y ⊢
 exact wp_enterLite hin hd y
section
variable {prog:Program}{w:World}{A:Around}{R:Result→Shared→Prop}{l:List Kt}{c:Code}
/-- a call of a plain def -/
theorem go_fn {a:Addr}{args:Args}{o:Obj}{fd:FuncData}{s:Shared}(ho:s.heap.get? a=some o) (hd:o.data=.func fd) (hco:fd.scope.isCoroutine=false) (hgen:fd.scope.isGenerator=false)
   (hroom:(ar A l).depth < recursionLimit) (x:Go prog w A R l (.call (.ref a) args) (fnTree a fd args) s):Go prog w A R l (.call (.ref a) args) (denZ (.call (.ref a) args)) s:=by
 rw [← denZ_eq]
 rw [← fnTree_eq] at x
 rw [Go_eq] at x ⊢
 obtain ⟨oc,od,dt,osl⟩:=o
 dsimp only at hd
 subst hd
 show wpOwn _ _ _ (callAny (.ref a) args) _ _ s
 refine wpOwn_bind (m:=load a) (wpOwn_of_wpAny (wpAny_load ho ?_))
 show wpOwn _ _ _ (callFunction a fd args) _ _ s
 have hw:(ar A l).depth + (Code.call (.ref a) args).weight < recursionLimit:=hroom
 intro Γ p hc hΓ
 have y:=x Γ p hc hΓ
 have hin:Γ.In ((ar A l).under (Code.call (.ref a) args)):=hc ▸ hΓ.in
 have hcall : callFunction a fd args = (do
     let compiled ← match fd.code with
       | .none => pure fd.qualname
       | c => do match ← field c 1 with
         | .str q _ => pure q
         | _ => pure fd.qualname
     let env ← newFunctionEnv fd.scope fd.globals fd.closure (← bindArgs fd args) (compiled++".<locals>.") (some a) fd.code none fd.builtins
     enterFrame
     again (match fd.body with
       | .stmts b => .func b env
       | .expr e => .expr e env)) := by
   unfold callFunction
   simp only [hco,hgen]
   rfl
 rw [hcall]
 unfold fnLite at y
 have tl : ∀ (compiled : Str) (cd : Value) (p : Pos) (s : Shared), Sem.wp (model prog w) Γ (do
     let env ← newFunctionEnv fd.scope fd.globals fd.closure (← bindArgs fd args) (compiled++".<locals>.") (some a) cd none fd.builtins
     enterLite
     match fd.body with
       | .stmts b => again (.func b env)
       | .expr e => again (.expr e env)) (fun a _ s' => postC prog w (ar A l) (Rk prog w A R l) a s') (fun e _ s' => postE (Rk prog w A R l) e s') p s →
     Sem.wp (model prog w) Γ (do
     let env ← newFunctionEnv fd.scope fd.globals fd.closure (← bindArgs fd args) (compiled++".<locals>.") (some a) cd none fd.builtins
     enterFrame
     again (match fd.body with
       | .stmts b => .func b env
       | .expr e => .expr e env)) (fun a _ s' => postC prog w (ar A l) (Rk prog w A R l) a s') (fun e _ s' => postE (Rk prog w A R l) e s') p s := by
   intro compiled cd p s z
   simp only [Sem.wp_bind'] at z ⊢
   refine Sem.wp_mono _ _ _ (fun binds p s z=>?_) (fun _ _ _ z=>z) p s z
   refine Sem.wp_mono _ _ _ (fun env p s z=>?_) (fun _ _ _ z=>z) p s z
   refine Sem.wp_mono _ _ _ (fun _ p s z=>?_) (fun _ _ _ z=>z) p s (wp_enterLite hin hroom z)
   cases hb:fd.body <;> (rw [hb] at z;exact z)
 generalize fd.code=cd at tl y ⊢
 cases cd
 case none=>exact tl _ _ _ _ y
 all_goals
   dsimp only at y ⊢
   rw [Sem.wp_bind'] at y ⊢
   refine Sem.wp_mono _ _ _ (fun v p s z=>?_) (fun _ _ _ z=>z) _ _ y
   cases v <;> exact tl _ _ _ _ z
theorem go_callFn {a:Addr}{args:Args}{o:Obj}{fd:FuncData}{s:Shared}{hd:Option Value}{g:Bool}{lv:List Value}{k:Result→Sem Fin}(hnb:hd≠some byPass) (ho:s.heap.get? a=some o) (hdt:o.data=.func fd) (hco:fd.scope.isCoroutine=false) (hgen:fd.scope.isGenerator=false)
   (hroom:(ar A (⟨c,hd,k⟩ :: l)).depth < recursionLimit) (x:Go prog w A R (⟨c,hd,k⟩ :: l) (.call (.ref a) args) (fnTree a fd args) s):Go prog w A R l c (.call (.call (.ref a) args) hd g lv k) s :=
 go_callGo hnb (go_fn ho hdt hco hgen hroom x)
end
section
variable {prog:Program}{w:World}{A A':Around}{R:Result→Shared→Prop}{l:List Kt}{c:Code}
/-- a call node by a rule of the library for the call -/
theorem go_callW {f:Value}{pos:List Value}{kw:List (Str×Value)}{g:Bool}{lv:List Value}{k:Result→Sem Fin}{s:Shared}
   (h:wpAny (model prog w) ((ar A l).under c) (call f pos kw) (fun v s'=>Go prog w A R l c (k (.ok (.ret v))) s') (fun e s'=>Go prog w A R l c (k (.error e)) s') s):Go prog w A R l c (.call (.call f ⟨pos,kw⟩) none g lv k) s:=by
 rw [Go_eq]
 intro Γ p hc hΓ
 have x:=h Γ p (hc ▸ hΓ.in)
 unfold call at x
 rw [Sem.wp_runValue] at x
 rw [Sem.wp_call]
 refine wpCode_mono (fun r s' y=>?_) x
 cases r with
 | error e =>
   have y':Go prog w A R l c (k (.error e)) s':=y
   rw [Go_eq] at y'
   exact y' Γ p hc hΓ
 | ok fl =>
   cases fl with
   | ret v =>
     have y':Go prog w A R l c (k (.ok (.ret v))) s':=y
     rw [Go_eq] at y'
     exact y' Γ p hc hΓ
   | _ => exact (show False from y).elim
theorem codeAny_weak {M:Model}{R:Result→Shared→Prop}{c:Code}{s:Shared}(h:codeAny M A' c R s) (h1:A.handled=A'.handled) (h2:A.depth≤A'.depth) (h3:A'.frames=none) (h4:A'.guards=none) (h5:A.units≤A'.units):codeAny M A c R s :=
 fun Γ p hc hΓ=>h Γ p hc ⟨hΓ.1.trans h1,Nat.le_trans hΓ.2.1 h2,fun _ e=>(by rw [h3] at e;cases e),fun _ e=>(by rw [h4] at e;cases e),Nat.le_trans hΓ.2.2.2.2 h5⟩
/-- a call node by a contract under the fixed surroundings -/
theorem go_callC {A':Around}{c':Code}{g:Bool}{lv:List Value}{k:Result→Sem Fin}{s:Shared}(h1:(ar A l).handled=A'.handled) (h2:Nat.ble ((ar A l).depth + c.weight) A'.depth=true) (h5:Nat.ble ((ar A l).units + c.cUnits) A'.units=true) (h3:A'.frames=none) (h4:A'.guards=none)
   (h:codeAny (model prog w) A' c' (fun r s'=>Go prog w A R l c (k r) s') s):Go prog w A R l c (.call c' none g lv k) s :=
 go_call (by intro x;cases x) (codeAny_weak h h1 (Nat.le_of_ble_eq_true h2) h3 h4 (Nat.le_of_ble_eq_true h5))
end
/-- what stood stands -/
noncomputable def Keeps (h h':Heap):Prop:=∀ b o,h.get? b=some o→h'.get? b=some o
theorem Hp.nil (h:Heap):Hp h.get? h []:=⟨fun _ _ e=>e,fun _ x=>absurd x (by simp),fun _ x=>absurd x (by simp),List.nodup_nil⟩
theorem Hp.on {B:Addr→Option Obj}{h h':Heap}{cs:List (Addr×Obj)}(H:Hp B h cs) (k:Keeps h h'):Hp B h' cs:=⟨fun b o e=>k b o (H.keep b o e),fun p hp=>k _ _ (H.own p hp),H.off,H.nd⟩
theorem Hp.sub {B:Addr→Option Obj}{h:Heap}{cs cs':List (Addr×Obj)}(H:Hp B h cs) (k:cs'.Sublist cs):Hp B h cs':=⟨H.keep,fun p hp=>H.own p (k.subset hp),fun p hp=>H.off p (k.subset hp),H.nd.sublist (k.map _)⟩
theorem Hp.new {B:Addr→Option Obj}{h h':Heap}{cs new:List (Addr×Obj)}(H:Hp B h cs) (k:Hp h.get? h' new):Hp B h' (new++cs):=by
 refine ⟨fun b o e=>k.keep b o (H.keep b o e),fun p hp=>?_,fun p hp=>?_,?_⟩
 · rcases List.mem_append.mp hp with hp | hp
   · exact k.own p hp
   · exact k.keep _ _ (H.own p hp)
 · rcases List.mem_append.mp hp with hp | hp
   · cases q : B p.1 with
     | none => rfl
     | some o => have := H.keep _ _ q; rw [k.off p hp] at this; cases this
   · exact H.off p hp
 · rw [List.map_append, List.nodup_append]
   refine ⟨k.nd,H.nd,fun a ha b hb e=>?_⟩
   obtain ⟨p,hp,rfl⟩:=List.mem_map.mp ha
   obtain ⟨q,hq,rfl⟩:=List.mem_map.mp hb
   have x:=k.off p hp
   rw [e,H.own q hq] at x
   cases x
/-- a tree with a part that is run first -/
inductive Cx {γ : Type} (m0 m1 : Sem γ) : {α : Type} → Sem α → Sem α → Prop
 | hole : Cx m0 m1 m0 m1
 | bind {α β : Type} {m m' : Sem α} {f : α → Sem β} : Cx m0 m1 m m' → Cx m0 m1 (PySem.W.R.bindR m f) (PySem.W.R.bindR m' f)
 | catchs {α : Type} {m m' : Sem α} {f : Value → Sem α} : Cx m0 m1 m m' → Cx m0 m1 (PySem.W.R.catchR m f) (PySem.W.R.catchR m' f)
 | onRaise {α : Type} {m m' : Sem α} {f : Value → Sem Unit} : Cx m0 m1 m m' → Cx m0 m1 (PySem.W.R.onRaiseR m f) (PySem.W.R.onRaiseR m' f)
 | keep {α : Type} {m m' : Sem α} {vs : List Value} : Cx m0 m1 m m' → Cx m0 m1 (PySem.W.R.keepR vs m) (PySem.W.R.keepR vs m')
theorem Cx.ok {γ:Type}{m0:Sem γ}{v:γ}{α:Type}{m m':Sem α}(r:Cx m0 (.pure v) m m'):∀ (M:Model) (Γ:Ctx) (P:Shared→Prop) (Q:α→Pos→Shared→Prop) (E:Value→Pos→Shared→Prop) (p:Pos) (s:Shared),
   (∀ (Q0:γ→Pos→Shared→Prop) (E0:Value→Pos→Shared→Prop),(∀ p s',P s'→Q0 v p s')→Sem.wp M Γ m0 Q0 E0 p s)→(∀ p s',P s'→Sem.wp M Γ m' Q E p s')→Sem.wp M Γ m Q E p s:=by
 generalize hm:(Sem.pure v:Sem γ)=m1 at r
 induction r with
 | hole =>
   subst hm
   intro M Γ P Q E p s h0 h
   exact h0 Q E h
 | bind r ih =>
   intro M Γ P Q E p s h0 h
   rw [← PySem.W.R.bindR_eq,Sem.wp_bind]
   refine ih _ _ P _ _ _ _ h0 fun p s' x=>?_
   have:=h p s' x
   rwa [← PySem.W.R.bindR_eq,Sem.wp_bind] at this
 | catchs r ih =>
   intro M Γ P Q E p s h0 h
   rw [← PySem.W.R.catchR_eq,Sem.wp_tryCatch]
   refine ih _ _ P _ _ _ _ h0 fun p s' x=>?_
   have:=h p s' x
   rwa [← PySem.W.R.catchR_eq,Sem.wp_tryCatch] at this
 | onRaise r ih =>
   intro M Γ P Q E p s h0 h
   rw [← PySem.W.R.onRaiseR_eq,Sem.wp_onRaise]
   refine ih _ _ P _ _ _ _ h0 fun p s' x=>?_
   have:=h p s' x
   rwa [← PySem.W.R.onRaiseR_eq,Sem.wp_onRaise] at this
 | keep r ih =>
   intro M Γ P Q E p s h0 h
   rw [← PySem.W.R.keepR_eq,Sem.wp_keep]
   refine ih _ _ P _ _ _ _ h0 fun p s' x=>?_
   have:=h p s' x
   rwa [← PySem.W.R.keepR_eq,Sem.wp_keep] at this
theorem go_cx {prog:Program}{w:World}{A:Around}{R:Result→Shared→Prop}{l:List Kt}{c:Code}{t t':Sem Fin}{s:Shared}{γ:Type}{m0:Sem γ}{v:γ}(P:Shared→Prop) (r:Cx m0 (.pure v) t t')
   (h0:wpAny (model prog w) ((ar A l).under c) m0 (fun a s'=>a=v∧P s') (fun _ _=>False) s) (x:∀ s',P s'→Go prog w A R l c t' s'):Go prog w A R l c t s:=by
 rw [Go_eq]
 intro Γ p hc hΓ
 have hin:Γ.In ((ar A l).under c):=hc ▸ hΓ.in
 refine r.ok _ _ P _ _ _ _ (fun Q0 E0 hq=>?_) fun p s' hp=>?_
 · exact Sem.wp_mono _ _ _ (fun a p' s' y=>by obtain ⟨rfl,y⟩:=y;exact hq p' s' y) (fun _ _ _ y=>y.elim) _ _ (h0 Γ p hin)
 · have := x s' hp
   rw [Go_eq] at this
   exact this Γ p hc hΓ
theorem Cx.bindI {γ:Type}{m0 m1:Sem γ}{α β:Type}{m m':Sem α}{f:α→Sem β}(r:Cx m0 m1 m m'):Cx m0 m1 (@Bind.bind Sem PySem.W.ZFast.zw12456147031677567982.toBind α β m f) (PySem.W.R.bindR m' f):=Cx.bind r
end Mine
namespace Mine
open PySem PySem.W PySem.W.X PyProof.Rows
noncomputable def ks (s:String) (t:Nat):Value:=.str (Str.ofString s) t
noncomputable def ki (n:Int):Value:=.int n 0
noncomputable def ke (P:Params) (s:String) (t:Nat) (v:Value):DictEntry:=⟨PyData.keyHash P (Str.ofString s),ks s t,v⟩
noncomputable def kt (vs:List Value):Obj:=⟨.type "tuple",none,.seq vs.toArray 0,#[]⟩
noncomputable def kFl (c:String) (vs:List Value):Obj:=⟨.type c,none,.fields vs.toArray,#[]⟩
noncomputable def kd (n:Nat) (es:List DictEntry):Obj:=⟨.type "dict",none,.dict es.toArray n,#[]⟩
noncomputable def kBd:List Stmt:=PySem.Challenge.rw_ik0142_01.row.prog.main.body
noncomputable def kNt:List Stmt→Nat→Stmt
 | [], _ => .Pass default
 | x :: _, 0 => x
 | _ :: r, n + 1 => kNt r n
noncomputable def kCl (i:Nat):List Stmt:=match kNt kBd i with
 | .ClassDef _ _ _ b _ _ _ _ _ _ _ => b
 | _ => []
noncomputable def kf (st:Stmt) (q:String) (m df:Value) (cd:Addr):Obj:=match st with
 | .FunctionDef n as bd _ _ _ sc _ _ _ => ⟨.type "function", none, .func { name := n, qualname := Str.ofString q, params := as, body := .stmts bd, scope := sc, globals := 3, closure := [], defaults := df, kwdefaults := .none, pyModule := m, code := .ref cd }, #[]⟩
 | _ => default
noncomputable def bEs (P:Params):List (String×Manifest.BuiltinName)→Nat→List DictEntry
 | [], _ => []
 | (n, k) :: r, i => ⟨PyData.keyHash P (Str.ofString n), ks n i, builtinAtStartup n k⟩ :: bEs P r (i + 1)
noncomputable def KK (P:Params):Frag:=[(0,kd 159 (ke P "__name__" 1 (ks "builtins" 160) :: bEs P Manifest.builtinsNames.tail 2)),
 (2,{ cls:=.none,data:=Data.dict #[] }),
 (3,kd 30 [ke P "__name__" 165 (ks "law_ik0142_01" 550),ke P "__doc__" 166 .none,ke P "__package__" 167 .none,ke P "__loader__" 168 (.builtin "__main__.__loader__#opaque"),ke P "__spec__" 169 .none,ke P "__annotations__" 170 (.ref 6),ke P "__builtins__" 171 (.ref 4),ke P "__file__" 173 (ks "/claim/cut.py" 172),ke P "__cached__" 174 .none,ke P "_wall" 193 (.ref 21),ke P "sorted_list_difference" 209 (.ref 28),ke P "unorderable_list_difference" 219 (.ref 35),ke P "_NODE_OUT" 224 (Value.int (-1) 223),ke P "_NODE_DONE" 227 (Value.int (-2) 226),ke P "_NodeInfo" 264 (.ref 54),ke P "CycleError" 282 (.ref 69),ke P "TopologicalSorter" 401 (.ref 151),ke P "_plain_name" 412 (.ref 162),ke P "ABCMeta" 438 (.ref 179),ke P "_ABCLike" 481 (.ref 212),ke P "_abc_plain_meta" 488 (.ref 221),ke P "fspath" 500 (.ref 228),ke P "_check_arg_types" 513 (.ref 235),ke P "_get_sep" 522 (.ref 242),ke P "join" 533 (.ref 249),ke P "dirname" 543 (.ref 256),ke P "commonpath" 549 (.ref 261),ke P "_law_above" 560 (.ref 268),ke P "_law_rounds" 571 (.ref 275),{ hash:=PyData.keyHash P (Str.ofString "law"),key:=ks "law" 577,val:=.ref 280 }]),
 (27,kFl "code" [ks "sorted_list_difference" 196,ks "sorted_list_difference" 197,ks "/claim/cut.py" 198,ki 5,ki 2,ki 0,ki 0,ki 3,.ref 22,.bool Bool.true,ki 181,.ref 23,.none,.ref 24,.ref 25,.ref 26,ki 207,ki 5,ks "/claim/cut.py" 208]),
 (28,kf (kNt kBd 2) "sorted_list_difference" (ks "cpy313.unittest.util" 194) .none 27),
 (34,kFl "code" [ks "unorderable_list_difference" 210,ks "unorderable_list_difference" 211,ks "/claim/cut.py" 212,ki 37,ki 2,ki 0,ki 0,ki 3,.ref 29,.bool Bool.true,ki 181,.ref 30,.none,.ref 31,.ref 32,.ref 33,ki 217,ki 37,ks "/claim/cut.py" 218]),
 (35,kf (kNt kBd 3) "unorderable_list_difference" (ks "cpy313.unittest.util" 194) .none 34),
 (49,kFl "code" [ks "__init__" 244,ks "_NodeInfo.__init__" 245,ks "/claim/cut.py" 246,ki 52,ki 2,ki 0,ki 0,ki 3,.ref 44,.bool Bool.true,ki 181,.ref 45,.none,.ref 46,.ref 47,.ref 48,ki 249,ki 52,ks "/claim/cut.py" 250]),
 (50,kf (kNt (kCl 7) 1) "_NodeInfo.__init__" (ks "cpy313.graphlib" 220) .none 49),
 (53,kd 5 [ke P "__module__" 235 (ks "cpy313.graphlib" 220),ke P "__firstlineno__" 239 (Value.int 49 238),ke P "__slots__" 243 (.ref 43),ke P "__init__" 251 (.ref 50),ke P "__static_attributes__" 255 (.ref 51),ke P "node" 257 (.ref 55),ke P "npredecessors" 259 (.ref 56),ke P "successors" 261 (.ref 57),{ hash:=PyData.keyHash P (Str.ofString "__doc__"),key:=ks "__doc__" 262,val:=.none }]),
 (54,{ cls:=.type "type",data:=Data.cls { name:=Str.ofString "_NodeInfo",bases:=[.type "object"],mro:=[.ref 54,.type "object"],ns:=53,qualname:=Str.ofString "_NodeInfo",hasDict:=Bool.false,slotNames:=[Str.ofString "node",Str.ofString "npredecessors",Str.ofString "successors"] },slots:=#[Option.none,Option.none,Option.some (ks "_NodeInfo" 228),Option.some (ks "_NodeInfo" 236),Option.some (.builtin "object.__new__"),Option.some (.bool Bool.false)] }),
 (55,kFl "member_descriptor" [ks "node" 256,.ref 54,.builtin "proto.slot",.builtin "proto.slot#set",ki 2]),
 (56,kFl "member_descriptor" [ks "npredecessors" 258,.ref 54,.builtin "proto.slot",.builtin "proto.slot#set",ki 1]),
 (57,kFl "member_descriptor" [ks "successors" 260,.ref 54,.builtin "proto.slot",.builtin "proto.slot#set",ki 0]),
 (80,kt [.none]),
 (86,kFl "code" [ks "__init__" 295,ks "TopologicalSorter.__init__" 296,ks "/claim/cut.py" 297,ki 60,ki 2,ki 0,ki 0,ki 3,.ref 81,.bool Bool.true,ki 181,.ref 82,.none,.ref 83,.ref 84,.ref 85,ki 302,ki 60,ks "/claim/cut.py" 303]),
 (87,kf (kNt (kCl 9) 0) "TopologicalSorter.__init__" (ks "cpy313.graphlib" 220) (.ref 80) 86),
 (93,kFl "code" [ks "_get_nodeinfo" 305,ks "TopologicalSorter._get_nodeinfo" 306,ks "/claim/cut.py" 307,ki 69,ki 2,ki 0,ki 0,ki 3,.ref 88,.bool Bool.true,ki 181,.ref 89,.none,.ref 90,.ref 91,.ref 92,ki 311,ki 69,ks "/claim/cut.py" 312]),
 (94,kf (kNt (kCl 9) 1) "TopologicalSorter._get_nodeinfo" (ks "cpy313.graphlib" 220) .none 93),
 (100,kFl "code" [ks "add" 314,ks "TopologicalSorter.add" 315,ks "/claim/cut.py" 316,ki 74,ki 2,ki 0,ki 0,ki 7,.ref 95,.bool Bool.true,ki 181,.ref 96,.none,.ref 97,.ref 98,.ref 99,ki 323,ki 74,ks "/claim/cut.py" 324]),
 (101,kf (kNt (kCl 9) 2) "TopologicalSorter.add" (ks "cpy313.graphlib" 220) .none 100),
 (105,kFl "code" [ks "prepare" 326,ks "TopologicalSorter.prepare" 327,ks "/claim/cut.py" 328,ki 83,ki 1,ki 0,ki 0,ki 3,.ref 102,.bool Bool.true,ki 181,.ref 103,.none,.none,.none,.ref 104,ki 329,ki 83,ks "/claim/cut.py" 330]),
 (106,kf (kNt (kCl 9) 3) "TopologicalSorter.prepare" (ks "cpy313.graphlib" 220) .none 105),
 (112,kFl "code" [ks "get_ready" 332,ks "TopologicalSorter.get_ready" 333,ks "/claim/cut.py" 334,ki 91,ki 1,ki 0,ki 0,ki 3,.ref 107,.bool Bool.true,ki 181,.ref 108,.none,.ref 109,.ref 110,.ref 111,ki 339,ki 91,ks "/claim/cut.py" 340]),
 (113,kf (kNt (kCl 9) 4) "TopologicalSorter.get_ready" (ks "cpy313.graphlib" 220) .none 112),
 (119,kFl "code" [ks "is_active" 342,ks "TopologicalSorter.is_active" 343,ks "/claim/cut.py" 344,ki 102,ki 1,ki 0,ki 0,ki 3,.ref 114,.bool Bool.true,ki 181,.ref 115,.none,.ref 116,.ref 117,.ref 118,ki 346,ki 102,ks "/claim/cut.py" 347]),
 (120,kf (kNt (kCl 9) 5) "TopologicalSorter.is_active" (ks "cpy313.graphlib" 220) .none 119),
 (133,kFl "code" [ks "done" 356,ks "TopologicalSorter.done" 357,ks "/claim/cut.py" 358,ki 110,ki 1,ki 0,ki 0,ki 7,.ref 128,.bool Bool.true,ki 181,.ref 129,.none,.ref 130,.ref 131,.ref 132,ki 367,ki 110,ks "/claim/cut.py" 368]),
 (134,kf (kNt (kCl 9) 7) "TopologicalSorter.done" (ks "cpy313.graphlib" 220) .none 133),
 (140,kFl "code" [ks "_find_cycle" 370,ks "TopologicalSorter._find_cycle" 371,ks "/claim/cut.py" 372,ki 133,ki 1,ki 0,ki 0,ki 3,.ref 135,.bool Bool.true,ki 181,.ref 136,.none,.ref 137,.ref 138,.ref 139,ki 380,ki 133,ks "/claim/cut.py" 381]),
 (141,kf (kNt (kCl 9) 8) "TopologicalSorter._find_cycle" (ks "cpy313.graphlib" 220) .none 140),
 (150,kd 4 [ke P "__module__" 290 (ks "cpy313.graphlib" 220),ke P "__firstlineno__" 294 (Value.int 58 293),ke P "__init__" 304 (.ref 87),ke P "_get_nodeinfo" 313 (.ref 94),ke P "add" 325 (.ref 101),ke P "prepare" 331 (.ref 106),ke P "get_ready" 341 (.ref 113),ke P "is_active" 348 (.ref 120),ke P "__bool__" 355 (.ref 127),ke P "done" 369 (.ref 134),ke P "_find_cycle" 382 (.ref 141),ke P "static_order" 389 (.ref 148),ke P "__static_attributes__" 394 (.ref 149),ke P "__dict__" 396 (.ref 152),ke P "__weakref__" 398 (.ref 153),{ hash:=PyData.keyHash P (Str.ofString "__doc__"),key:=ks "__doc__" 399,val:=.none }]),
 (151,{ cls:=.type "type",data:=Data.cls { name:=Str.ofString "TopologicalSorter",bases:=[.type "object"],mro:=[.ref 151,.type "object"],ns:=150,qualname:=Str.ofString "TopologicalSorter" },slots:=#[Option.none,Option.none,Option.some (ks "TopologicalSorter" 283),Option.some (ks "TopologicalSorter" 291),Option.some (.builtin "object.__new__"),Option.some (.bool Bool.true)] }),
 (227,kFl "code" [ks "fspath" 491,ks "fspath" 492,ks "/claim/cut.py" 493,ki 195,ki 1,ki 0,ki 0,ki 3,.ref 222,.bool Bool.true,ki 181,.ref 223,.none,.ref 224,.ref 225,.ref 226,ki 498,ki 195,ks "/claim/cut.py" 499]),
 (228,kf (kNt kBd 18) "fspath" (ks "os" 489) .none 227),
 (241,kFl "code" [ks "_get_sep" 516,ks "_get_sep" 517,ks "/claim/cut.py" 518,ki 224,ki 1,ki 0,ki 0,ki 3,.ref 236,.bool Bool.true,ki 181,.ref 237,.none,.ref 238,.ref 239,.ref 240,ki 520,ki 224,ks "/claim/cut.py" 521]),
 (242,kf (kNt kBd 22) "_get_sep" (ks "cpy313.posixpath" 514) .none 241),
 (248,kFl "code" [ks "join" 523,ks "join" 524,ks "/claim/cut.py" 525,ki 229,ki 1,ki 0,ki 0,ki 7,.ref 243,.bool Bool.true,ki 181,.ref 244,.none,.ref 245,.ref 246,.ref 247,ki 531,ki 229,ks "/claim/cut.py" 532]),
 (249,kf (kNt kBd 23) "join" (ks "cpy313.posixpath" 514) .none 248),
 (255,kFl "code" [ks "dirname" 534,ks "dirname" 535,ks "/claim/cut.py" 536,ki 246,ki 1,ki 0,ki 0,ki 3,.ref 250,.bool Bool.true,ki 181,.ref 251,.none,.ref 252,.ref 253,.ref 254,ki 541,ki 246,ks "/claim/cut.py" 542]),
 (256,kf (kNt kBd 24) "dirname" (ks "cpy313.posixpath" 514) .none 255),
 (260,kFl "code" [ks "commonpath" 544,ks "commonpath" 545,ks "/claim/cut.py" 546,ki 254,ki 1,ki 0,ki 0,ki 3,.ref 257,.bool Bool.true,ki 181,.ref 258,.none,.none,.none,.ref 259,ki 547,ki 254,ks "/claim/cut.py" 548]),
 (261,kf (kNt kBd 25) "commonpath" (ks "cpy313.posixpath" 514) .none 260),
 (267,kFl "code" [ks "_law_above" 552,ks "_law_above" 553,ks "/claim/cut.py" 554,ki 284,ki 1,ki 0,ki 0,ki 3,.ref 262,.bool Bool.true,ki 181,.ref 263,.none,.ref 264,.ref 265,.ref 266,ki 558,ki 284,ks "/claim/cut.py" 559]),
 (268,kf (kNt kBd 27) "_law_above" (ks "law_ik0142_01" 550) .none 267),
 (274,kFl "code" [ks "_law_rounds" 561,ks "_law_rounds" 562,ks "/claim/cut.py" 563,ki 291,ki 1,ki 0,ki 0,ki 3,.ref 269,.bool Bool.true,ki 181,.ref 270,.none,.ref 271,.ref 272,.ref 273,ki 569,ki 291,ks "/claim/cut.py" 570]),
 (275,kf (kNt kBd 28) "_law_rounds" (ks "law_ik0142_01" 550) .none 274),
 (279,kFl "code" [ks "law" 572,ks "law" 573,ks "/claim/cut.py" 574,ki 305,ki 1,ki 0,ki 0,ki 3,.ref 276,.bool Bool.true,ki 181,.ref 277,.none,.none,.none,.ref 278,ki 575,ki 305,ks "/claim/cut.py" 576]),
 (280,kf (kNt kBd 29) "law" (ks "law_ik0142_01" 550) .none 279)]
noncomputable def kAs:List Addr:=[0,2,3,27,28,34,35,49,50,53,54,55,56,57,80,86,87,93,94,100,101,105,106,112,113,119,120,133,134,140,141,150,151,227,228,241,242,248,249,255,256,260,261,267,268,274,275,279,280]
theorem ws:PySem.Challenge.rw_ik0142_01.wellSaid=true:=by kernel_rfl
noncomputable def kH:Hook where
 α:=List (Option Obj)×Bool
 obs:=fun s=>(kAs.map s.heap.get?,(s.heap.get? sysModules).isSome)
 val:=fun w=>((KK w.params).map fun p=>some p.2,true)
 says:=fun w h=>InK KK w h∧(h.get? sysModules).isSome=true
 of:=fun w s x=>⟨InK.of (as:=kAs) (fun _=>by kernel_rfl) w s (Prod.mk.inj x).1,(Prod.mk.inj x).2⟩
 keeps := fun w h h' x k => ⟨InK.keeps w h h' x.1 k, by
   obtain ⟨o,ho⟩:=Option.isSome_iff_exists.mp x.2
   rw [k _ _ ho];rfl⟩
noncomputable def vq:Program:=view PySem.Challenge.pw_ik0142_01 [0,2,3,5,6,7,8,9,11,13,15,16,18,20,22,23,24,25,27,28,29]
theorem left_ok:LeftO PySem.Challenge.rw_ik0142_01.row.prog vq [Str.ofString "_NodeInfo"] (fun s=>xlAt vq [] s && recOk (RowW.records PySem.Challenge.rw_ik0142_01.row.toRowW) s) kH.obs kH.val 4196:=by
 intro w;kernel_rfl
noncomputable abbrev prg:Program:=PySem.Challenge.rw_ik0142_01.row.prog
noncomputable def Kin (K:Frag) (B:Addr→Option Obj):Prop:=∀ a o,K.lookup a=some o→B a=some o
theorem Kin.on {K:Frag}{B:Addr→Option Obj}{h:Heap}{cs:List (Addr×Obj)}(k:Kin K B) (H:Hp B h cs):Kin K h.get?:=fun a o e=>H.keep _ _ (k a o e)
noncomputable def fdK (K:Frag) (a:Addr):FuncData:=match K.lookup a with
 | some ⟨_, _, .func fd, _⟩ => fd
 | _ => default
noncomputable def fnK (K:Frag) (a:Addr) (dep:Nat):Bool:=match K.lookup a with
 | some ⟨_, _, .func fd, _⟩ => !fd.scope.isCoroutine && !fd.scope.isGenerator && Nat.blt dep recursionLimit
 | _ => false
theorem go_ent {prog:Program}{w:World}{A:Around}{R:Result→Shared→Prop}{K:Frag}{B:Addr→Option Obj}{h:Heap}{cs:List (Addr×Obj)}{g:Array GenState}{d:Drawn}{t:Nat}{os:OsState}{a:Addr}{args:Args}(KX:Kin K B) (H:Hp B h cs) (e:fnK K a (ar A []).depth=true)
   (x:Go prog w A R [] (.call (.ref a) args) (fnTree a (fdK K a) args) ⟨h,g,d,t,os⟩):codeAny (model prog w) A (.call (.ref a) args) R ⟨h,g,d,t,os⟩:=by
 unfold fnK at e
 unfold fdK at x
 split at e
 · rename_i oc od fd osl ho
   rw [ho] at x
   rw [Bool.and_eq_true,Bool.and_eq_true,Bool.not_eq_true',Bool.not_eq_true'] at e
   exact go_code (go_fn (H.keep _ _ (KX _ _ ho)) rfl e.1.1 e.1.2 (Nat.le_of_ble_eq_true e.2) x)
 · cases e
inductive Pt where
 | r
 | a (i : Fin 3)
 | b (i j : Fin 3)
 | c (i j k : Fin 3)
 deriving DecidableEq
noncomputable def sp:Pt→Str
 | .r => ⟨#[47]⟩
 | .a i => ⟨#[47, i.val + 97]⟩
 | .b i j => ⟨#[47, i.val + 97, 47, j.val + 97]⟩
 | .c i j k => ⟨#[47, i.val + 97, 47, j.val + 97, 47, k.val + 97]⟩
noncomputable def par:Pt→Pt
 | .r => .r
 | .a _ => .r
 | .b i _ => .a i
 | .c i j _ => .b i j
noncomputable def isLoop:Code→Bool
 | .whileLoop .. => true
 | .forLoop .. => true
 | .compLoop .. => true
 | .compStart .. => true
 | _ => false
noncomputable def isStop:Code→Bool
 | .handlers .. => true
 | c => isLoop c
theorem turns {M:Model}{A:Around}{R:Result→Shared→Prop}{c:Code}{g:Array GenState}{d:Drawn}{os:OsState}{σ:Type}(Inv:σ→Heap→Nat→Prop) (μ:σ→Nat)
   (step:∀ x h t,Inv x h t→(∀ y h' t',μ y < μ x→Inv y h' t'→codeAny M A c R ⟨h',g,d,t',os⟩)→codeAny M A c R ⟨h,g,d,t,os⟩) (x:σ) (h:Heap) (t:Nat) (i:Inv x h t):codeAny M A c R ⟨h,g,d,t,os⟩:=by
 have:∀ n x h t,μ x < n→Inv x h t→codeAny M A c R ⟨h,g,d,t,os⟩:=by
   intro n
   induction n with
   | zero => intro x h t hn; exact absurd hn (Nat.not_lt_zero _)
   | succ n ih => exact fun x h t hn i => step x h t i fun y h' t' hy i' => ih y h' t' (by omega) i'
 exact this (μ x + 1) x h t (Nat.lt_succ_self _) i
theorem id_is {id:String}(id':String){n:Nat}(hid:Nat.beq (PySem.W.S.codeS id) n=true) (h:PySem.code id'=n):id=id' :=
 PySem.code_inj _ _ ((PySem.W.S.code_S id).trans ((Nat.eq_of_beq_eq_true hid).trans h.symm))
noncomputable abbrev sList:String:=PySem.W.SZ.s9222952809800978799x4
theorem sList_eq:sList="list":=id_is "list" (n:=PySem.code "list") (by decide +kernel) rfl
noncomputable abbrev sDict:String:=PySem.W.SZ.s14018661285674007319x4
theorem sDict_eq:sDict="dict":=id_is "dict" (n:=PySem.code "dict") (by decide +kernel) rfl
noncomputable abbrev sLI:String:=PySem.W.SZ.s3492446563574874994x13
theorem sLI_eq:sLI="list_iterator":=id_is "list_iterator" (n:=PySem.code "list_iterator") (by decide +kernel) rfl
noncomputable abbrev sTup:String:=PySem.W.SZ.s2766695959194262286x5
theorem sTup_eq:sTup="tuple":=id_is "tuple" (n:=PySem.code "tuple") (by decide +kernel) rfl
noncomputable abbrev sTI:String:=PySem.W.SZ.s4096838299382398694x14
theorem sTI_eq:sTI="tuple_iterator":=id_is "tuple_iterator" (n:=PySem.code "tuple_iterator") (by decide +kernel) rfl
noncomputable abbrev sSlice:String:=PySem.W.SZ.s4674234679698826739x5
theorem sSlice_eq:sSlice="slice":=id_is "slice" (n:=PySem.code "slice") (by decide +kernel) rfl
noncomputable abbrev sStop:String:=PySem.W.SZ.s5991306692159431302x13
theorem sStop_eq:sStop="StopIteration":=id_is "StopIteration" (n:=PySem.code "StopIteration") (by decide +kernel) rfl
noncomputable abbrev sSet:String:=PySem.W.SZ.s3642769012341782148x3
theorem sSet_eq:sSet="set":=id_is "set" (n:=PySem.code "set") (by decide +kernel) rfl
noncomputable abbrev sRange:String:=PySem.W.SZ.s1438033511350832697x5
theorem sRange_eq:sRange="range":=id_is "range" (n:=PySem.code "range") (by decide +kernel) rfl
noncomputable abbrev sRI:String:=PySem.W.SZ.s15992201931430999065x14
theorem sRI_eq:sRI="range_iterator":=id_is "range_iterator" (n:=PySem.code "range_iterator") (by decide +kernel) rfl
noncomputable abbrev sIdx:String:=PySem.W.SZ.s7801419657504700863x10
theorem sIdx_eq:sIdx="IndexError":=id_is "IndexError" (n:=PySem.code "IndexError") (by decide +kernel) rfl
noncomputable abbrev sVal:String:=PySem.W.SZ.s6070975301684473832x10
theorem sVal_eq:sVal="ValueError":=id_is "ValueError" (n:=PySem.code "ValueError") (by decide +kernel) rfl
noncomputable def lst (vs:List Value) (n:Nat):Obj:={ cls:=.type sList,data:=.seq vs.toArray n }
noncomputable def itL (q:Addr) (i:Nat):Obj:={ cls:=.type sLI,data:=.fields #[.ref q,.int i 0] }
noncomputable def itD (i:Nat):Obj:={ cls:=.type sLI,data:=.fields #[.none,.int i 0] }
theorem lst_eq (vs:List Value) (n:Nat):lst vs n={ cls:=.type "list",data:=.seq vs.toArray n }:=by unfold lst;rw [sList_eq]
theorem itL_eq (q:Addr) (i:Nat):itL q i={ cls:=.type "list_iterator",data:=.fields #[.ref q,.int i 0] }:=by unfold itL;rw [sLI_eq]
noncomputable def ent (P:Params) (x:String) (tk:Tok) (v:Value):DictEntry:=⟨condFn Int (Str.ofString x).cps.isEmpty 0 (ZFast.zw12210062019545310541 (P.strHash (Str.ofString x).cps)),.str (Str.ofString x) tk,v⟩
noncomputable def locO (es:List DictEntry) (n:Nat):Obj:={ cls:=.type PySem.W.SZ.s658472552662922059x5,data:=.dict es.toArray n }
section
variable {prog:Program}{w:World}{A:Around}{R:Result→Shared→Prop}{l:List Kt}{c:Code}{h:Heap}{g:Array GenState}{d:Drawn}{t:Nat}{os:OsState}{gg:Bool}{lv:List Value}{k:Result→Sem Fin}{id:String}
theorem ct_rfind (hid:Nat.beq (PySem.W.S.codeS id) 1871149494474821039476=true){x y x' y':Str}{t1 t2:Tok}{n:Int}(e:Txt.rfind x' y'=n) (ex:x=x') (ey:y=y') (z:Go prog w A R l c (k (.ok (.ret (.int n t)))) ⟨h,g,d,t + 1,os⟩) :
   Go prog w A R l c (.call (.call (.builtin id) ⟨[.str x t1,.str y t2],[]⟩) none gg lv k) ⟨h,g,d,t,os⟩:=by
 obtain rfl:=id_is "str.rfind" hid (by decide +kernel)
 subst e ex ey
 exact go_callW (SC.rfind z)
theorem ct_rstrip (hid:Nat.beq (PySem.W.S.codeS id) 535591087120007824635252=true){x y x' y':Str}{t1 t2:Tok}{n:Str}(e:Txt.rstripChars x' y'=n) (ex:x=x') (ey:y=y') (hx:x.length≤sizeLine) (z:∀ t1 t2,Go prog w A R l c (k (.ok (.ret (.str n t1)))) ⟨h,g,d,t2,os⟩) :
   Go prog w A R l c (.call (.call (.builtin id) ⟨[.str x t1,.str y t2],[]⟩) none gg lv k) ⟨h,g,d,t,os⟩:=by
 obtain rfl:=id_is "str.rstrip" hid (by decide +kernel)
 subst e ex ey
 exact go_callW (SC.rstripChars (fun t' k=>z t' k) hx)
end
section
variable {prog:Program}{w:World}{A:Around}{R:Result→Shared→Prop}{l:List Kt}{c:Code}{h:Heap}{g:Array GenState}{d:Drawn}{t:Nat}{os:OsState}{gg:Bool}{lv:List Value}{k:Result→Sem Fin}{id:String}
theorem cls_is {cls:String}(cls':String){n:Nat}(hid:Nat.beq (PySem.W.S.codeS cls) n=true) (h:PySem.code cls'=n):cls=cls':=id_is cls' hid h
theorem ct_slice (hid:Nat.beq (PySem.W.S.codeS id) 500416356548588640944365259017385332=true){x x':Str}{t1:Tok}{a:Addr}{cls:String} {dd sl}{lo hi:Option (Int×Tok)}{lo' hi':Option Int}{n:Str}
   (ho:h.get? a=some ⟨.type cls,dd,.fields #[partValue lo,partValue hi,.none],sl⟩) (hc:Nat.beq (PySem.W.S.codeS cls) 439771360628=true) (e:Txt.slice x' lo' hi'=n) (ex:x=x') (elo:lo.map (·.1)=lo') (ehi:hi.map (·.1)=hi') (hx:x.length≤sizeLine)
   (z:∀ t1 t2,Go prog w A R l c (k (.ok (.ret (.str n t1)))) ⟨h,g,d,t2,os⟩) :
   Go prog w A R l c (.call (.call (.builtin id) ⟨[.str x t1,.ref a],[]⟩) none gg lv k) ⟨h,g,d,t,os⟩:=by
 obtain rfl:=id_is "str.__getitem__" hid (by decide +kernel)
 obtain rfl:=cls_is "slice" hc (by decide +kernel)
 subst e ex elo ehi
 refine go_callW (call_meets F.slot_str_getitem (typeIs_str _ x t1) F.entry_str_getitem (F.args_str_getitem_2 _ _) (meets_str_getitem_slice x t1 a lo hi none rfl) ⟨⟨_,ho,rfl,rfl⟩,?_⟩)
 unfold sliceMade slicePicked
 split
 · rename_i h1
   have e1:Txt.slice x (lo.map (·.1)) (hi.map (·.1))=x:=if_pos h1
   rw [e1] at z
   exact z t1 t
 · rename_i h1
   have e1:Txt.slice x (lo.map (·.1)) (hi.map (·.1))=_:=if_neg h1
   have:=Txt.slice_le x (lo.map (·.1)) (hi.map (·.1))
   rw [e1] at z this
   exact ⟨Nat.le_trans this hx,z t (t + 1)⟩
theorem ct_len (hid:Nat.beq (PySem.W.S.codeS id) 7300717=true){x x':Str}{t1:Tok}{n:Nat}(e:x'.length=n) (ex:x=x') (hn:Nat.ble n 1000=true)
   (z:∀ t1 t2,Go prog w A R l c (k (.ok (.ret (.int n t1)))) ⟨h,g,d,t2,os⟩) :
   Go prog w A R l c (.call (.call (.builtin id) ⟨[.str x t1],[]⟩) none gg lv k) ⟨h,g,d,t,os⟩:=by
 obtain rfl:=id_is "len" hid (by decide +kernel)
 subst e ex
 have:=Nat.le_of_ble_eq_true hn
 exact go_callW (P.len_str (by omega) (z _ _))
theorem ct_ne (hid:Nat.beq (PySem.W.S.codeS id) 455125451010842570225012=true){x y x' y':Str}{t1 t2:Tok}{n:Bool}(e:(x'.cps.toList != y'.cps.toList)=n) (ex:x=x') (ey:y=y')
   (z:Go prog w A R l c (k (.ok (.ret (.bool n)))) ⟨h,g,d,t,os⟩) :
   Go prog w A R l c (.call (.call (.builtin id) ⟨[.str x t1,.str y t2],[]⟩) none gg lv k) ⟨h,g,d,t,os⟩:=by
 obtain rfl:=id_is "str.__ne__" hid (by decide +kernel)
 subst e ex ey
 exact go_callW (call_gives F.slot_str_ne (typeIs_str _ _ _) F.entry_str_ne (F.args_str_ne_2 _ _) (gives_str_ne x y t1 t2) z)
theorem ct_lt (hid:Nat.beq (PySem.W.S.codeS id) 455126531311803185722740=true){x y x' y':Str}{t1 t2:Tok}{n:Bool}(e:decide (x'.cps.toList < y'.cps.toList)=n) (ex:x=x') (ey:y=y')
   (z:Go prog w A R l c (k (.ok (.ret (.bool n)))) ⟨h,g,d,t,os⟩) :
   Go prog w A R l c (.call (.call (.builtin id) ⟨[.str x t1,.str y t2],[]⟩) none gg lv k) ⟨h,g,d,t,os⟩:=by
 obtain rfl:=id_is "str.__lt__" hid (by decide +kernel)
 subst e ex ey
 exact go_callW (call_gives F.slot_str_lt (typeIs_str _ _ _) F.entry_str_lt (F.args_str_lt_2 _ _) (gives_str_lt x y t1 t2) z)
theorem ct_gt (hid:Nat.beq (PySem.W.S.codeS id) 455126529904428302169460=true){x y x' y':Str}{t1 t2:Tok}{n:Bool}(e:decide (y'.cps.toList < x'.cps.toList)=n) (ex:x=x') (ey:y=y')
   (z:Go prog w A R l c (k (.ok (.ret (.bool n)))) ⟨h,g,d,t,os⟩) :
   Go prog w A R l c (.call (.call (.builtin id) ⟨[.str x t1,.str y t2],[]⟩) none gg lv k) ⟨h,g,d,t,os⟩:=by
 obtain rfl:=id_is "str.__gt__" hid (by decide +kernel)
 subst e ex ey
 exact go_callW (call_gives F.slot_str_gt (typeIs_str _ _ _) F.entry_str_gt (F.args_str_gt_2 _ _) (gives_str_gt x y t1 t2) z)
theorem ct_eq (hid:Nat.beq (PySem.W.S.codeS id) 455126313168696234964340=true){x y x' y':Str}{t1 t2:Tok}{n:Bool}(e:(x'.cps.toList == y'.cps.toList)=n) (ex:x=x') (ey:y=y')
   (z:Go prog w A R l c (k (.ok (.ret (.bool n)))) ⟨h,g,d,t,os⟩) :
   Go prog w A R l c (.call (.call (.builtin id) ⟨[.str x t1,.str y t2],[]⟩) none gg lv k) ⟨h,g,d,t,os⟩:=by
 obtain rfl:=id_is "str.__eq__" hid (by decide +kernel)
 subst e ex ey
 exact go_callW (call_gives F.slot_str_eq (typeIs_str _ _ _) F.entry_str_eq (F.args_str_eq_2 _ _) (gives_str_eq x y t1 t2) z)
end
section
open PySem.AutoSeq1
theorem meets_next_item (it l:Addr) (i:Nat) (vs:Array Value) (n:Nat) (x:Value) (hx:vs[i]?=some x) :
   Meets (Builtin.«list_iterator.__next__» ⟨[.ref it], []⟩) (fun _ R s => s.heap.get? it = some { cls := .type "list_iterator", data := .fields #[.ref l, .int i 0] } ∧ s.heap.get? l = some { cls := .type "list", data := .seq vs n } ∧
     R (.ok (.ret x)) { s with heap:=s.heap.update it (Obj.mapFields (·.setIfInBounds 1 (rawInt (i + 1)))) }) :=
 .of_wp fun prog w A R s h => by
   obtain ⟨hp,g,d,tk,os⟩:=s;obtain ⟨hit,hl,h⟩:=h
   wp_walk using wpAny_loadPart' hit,wpAny_loadPart' hl
   have hx':vs[(i:Int).toNat]?=some x:=hx
   rw [hx']
   refine wpAny_bind (wpAny_setField hit rfl (by decide:1 < 2) ?_)
   wp_walk
   exact ⟨_,rfl,h⟩
theorem meets_next_end (it l:Addr) (i:Nat) (vs:Array Value) (n:Nat) (hx:vs[i]?=none) :
   Meets (Builtin.«list_iterator.__next__» ⟨[.ref it], []⟩) (fun A R s => A.handled = none ∧ s.heap.get? it = some { cls := .type "list_iterator", data := .fields #[.ref l, .int i 0] } ∧ s.heap.get? l = some { cls := .type "list", data := .seq vs n } ∧
     ∀ h',Keeps ((s.heap.update it (Obj.mapFields (·.setIfInBounds 0 .none)))) h'→∀ e,((s.heap.update it (Obj.mapFields (·.setIfInBounds 0 .none))).get? e=none)→(∃ o,h'.get? e=some o∧o.cls=.type "StopIteration")→R (.error (.ref e)) { s with heap:=h' }):=fun prog w A R s h=>by
   obtain ⟨hp,g,d,tk,os⟩:=s;obtain ⟨hh,hit,hl,h⟩:=h
   wp_walk using wpAny_loadPart' hit,wpAny_loadPart' hl
   have hx':vs[(i:Int).toNat]?=none:=hx
   rw [hx']
   refine wpAny_bind (wpAny_rule (wpAny_bind (wpAny_setField hit rfl (by decide:0 < 2) ?_)))
   show wpAny _ _ (newExc (.type "StopIteration") [] >>= _) _ _ _
   refine wpAny_bind ?_
   simp only [newExc,newTuple]
   refine wpAny_bind (wpAny_newObj_type ?_ (by size_fits))
   refine wpAny_bind (m:=firstArgMember _ _) (wpAny_of_eq (a:=Value.none) (by first | rfl | (simp only [firstArgMember];rfl)) ?_)
   refine wpAny_newObj_type ?_ (by size_fits)
   simp only [raiseNew]
   refine wpAny_bind (wpAny_handled ?_)
   rw [show A.in1.handled=none from hh]
   refine wpAny_bind (wpAny_pure (wpAny_throw ?_))
   refine h _ (fun b o e=>Heap.get?_push_of_some _ (Heap.get?_push_of_some _ e)) _ ?_ ⟨_,Heap.get?_push_size _ rfl,rfl⟩
   cases hq:(hp.update it (Obj.mapFields (·.setIfInBounds 0 .none))).get? _ with
   | none => rfl
   | some o => exact absurd (Heap.lt_size hq) (by simp [Heap.push])
end
section
variable {prog:Program}{w:World}{A:Around}{R:Result→Shared→Prop}{l:List Kt}{c:Code}{h:Heap}{g:Array GenState}{d:Drawn}{t:Nat}{os:OsState}{gg:Bool}{lv:List Value}{k:Result→Sem Fin}{id:String}
theorem ct_meets {id':String}{T:String}{name:Str}{B:Builtin}{self:Value}{rest:List Value}{S:PySem.Spec}{s:Shared}(slot:Slot T name id') (hT:s.TypeIs self T)
   (entry:entryFor table id'=some B) (args:argsOk id' ⟨self :: rest,[]⟩) (gm:Meets (B ⟨self :: rest,[]⟩) S) (hid:id=id')
   (z:S ((ar A l).under c) (wants (fun v s'=>Go prog w A R l c (k (.ok (.ret v))) s') (fun e s'=>Go prog w A R l c (k (.error e)) s')) s) :
   Go prog w A R l c (.call (.call (.builtin id) ⟨self :: rest,[]⟩) none gg lv k) s:=by
 subst hid
 exact go_callW (call_meets slot hT entry args gm z)
theorem ct_next {B:Addr→Option Obj}{cs:List (Addr×Obj)}{Fc:Obj→List (Addr×Obj)}{it q:Addr}{i:Nat}{vs:List Value}{n:Nat}{x:Value}(hid:Nat.beq (PySem.W.S.codeS id) 36058839055461744822429329989390181918337346850548333=true)
   (H:Hp B h cs) (z:Cell cs it (itL q i) Fc) (hq:h.get? q=some (lst vs n)) (hx:vs[i]?=some x)
   (y:∀ h',Hp B h' (Fc (itL q (i + 1)))→Go prog w A R l c (k (.ok (.ret x))) ⟨h',g,d,t,os⟩) :
   Go prog w A R l c (.call (.call (.builtin id) ⟨[.ref it],[]⟩) none gg lv k) ⟨h,g,d,t,os⟩:=by
 have ho:=H.at z
 obtain ⟨pre,post,rfl,e⟩:=z.split
 have H':=H.put (f:=Obj.mapFields (·.setIfInBounds 1 (rawInt (i + 1)))) rfl
 rw [itL_eq] at ho
 rw [lst_eq] at hq
 refine ct_meets slot_listiter_next ⟨_,ho,rfl⟩ entry_listiter_next (args_listiter_next _) (meets_next_item it q i vs.toArray n x (by simpa using hx)) (id_is _ hid (by decide +kernel)) ⟨ho,hq,?_⟩
 refine y _ ?_
 rw [e]
 exact H'
theorem ct_nextEnd {B:Addr→Option Obj}{cs:List (Addr×Obj)}{Fc:Obj→List (Addr×Obj)}{it q:Addr}{i:Nat}{vs:List Value}{n:Nat}(hid:Nat.beq (PySem.W.S.codeS id) 36058839055461744822429329989390181918337346850548333=true)
   (hh:((ar A l).under c).handled=none)
   (H:Hp B h cs) (z:Cell cs it (itL q i) Fc) (hq:h.get? q=some (lst vs n)) (hx:vs[i]?=none)
   (y:∀ h' e d1 d2 d3,Hp B h' ((e,⟨.type sStop,d1,d2,d3⟩) :: Fc (itD i))→Go prog w A R l c (k (.error (.ref e))) ⟨h',g,d,t,os⟩) :
   Go prog w A R l c (.call (.call (.builtin id) ⟨[.ref it],[]⟩) none gg lv k) ⟨h,g,d,t,os⟩:=by
 have ho:=H.at z
 obtain ⟨pre,post,rfl,e⟩:=z.split
 have H':=H.put (f:=Obj.mapFields (·.setIfInBounds 0 .none)) rfl
 rw [itL_eq] at ho
 rw [lst_eq] at hq
 refine ct_meets slot_listiter_next ⟨_,ho,rfl⟩ entry_listiter_next (args_listiter_next _) (meets_next_end it q i vs.toArray n (by simpa using hx)) (id_is _ hid (by decide +kernel)) ⟨hh,ho,hq,?_⟩
 rintro h' hk e' hnew ⟨⟨c1,d1,d2,d3⟩,he,hcl⟩
 dsimp only at hcl
 rw [← sStop_eq] at hcl
 subst hcl
 refine y h' e' d1 d2 d3 ?_
 rw [e]
 refine H'.new (new:=[(e',⟨.type sStop,d1,d2,d3⟩)]) ⟨hk,fun p hp=>?_,fun p hp=>?_,by simp⟩
 · obtain rfl := List.mem_singleton.mp hp
   exact he
 · obtain rfl := List.mem_singleton.mp hp
   exact hnew
end
section
theorem fits_small {i:Nat}(hi:i≤1000):Builtin.List.listFitsIndex (i:Int)=true :=
 fitsIndex_of (Int.natCast_nonneg i) (Int.lt_of_le_of_lt (Int.ofNat_le.mpr hi) (by decide))
theorem meets_item (q:Addr) (k:Int) (i:Nat) (tk:Tok) (vs:Array Value) (n:Nat) (x:Value) (hx:vs[i]?=some x) (hk:k=Int.ofNat i) (hf:Builtin.List.listFitsIndex k=true) :
   Meets (Builtin.«list.__getitem__» ⟨[.ref q,.int k tk],[]⟩) (fun _ R s=>s.heap.get? q=some { cls:=.type "list",data:=.seq vs n }∧R (.ok (.ret x)) s):=by
 refine .of_wp fun prog w A R s h=>?_
 obtain ⟨hl,h⟩:=h
 show wpAny _ _ (Builtin.List.listSubscript? (.int k tk) >>= _) _ _ s
 refine wpAny_bind (wpAny_listSubscript_int hf ?_)
 clear hf
 subst hk
 show wpAny _ _ ((seqItemAt q i >>= fun r=>pure (r.map (i,·))) >>= _) _ _ s
 refine wpAny_bind (wpAny_bind (wpAny_seqItemAt hl rfl (wpAny_pure ?_)))
 rw [hx]
 exact wpAny_pure ⟨_,rfl,h⟩
theorem meets_item_out (q:Addr) (k:Int) (i:Nat) (tk:Tok) (vs:Array Value) (n:Nat) (hx:vs[i]?=none) (hk:k=Int.ofNat i) (hf:Builtin.List.listFitsIndex k=true)  :
   Meets (Builtin.«list.__getitem__» ⟨[.ref q,.int k tk],[]⟩) (fun A R s=>s.heap.get? q=some { cls:=.type "list",data:=.seq vs n }∧raisesNew "IndexError" A R s):=fun prog w A R s h=>by
 obtain ⟨hl,hh,h⟩:=h
 show wpAny _ _ (Builtin.List.listSubscript? (.int k tk) >>= _) _ _ s
 refine wpAny_bind (wpAny_listSubscript_int hf ?_)
 clear hf
 subst hk
 show wpAny _ _ ((seqItemAt q i >>= fun r=>pure (r.map (i,·))) >>= _) _ _ s
 refine wpAny_bind (wpAny_bind (wpAny_seqItemAt hl rfl (wpAny_pure ?_)))
 rw [hx]
 first
   | exact wpAny_bind (wpAny_rule (wpAny_raiseErrorWords (A := A.in1) plainExc_IndexError hh h))
   | exact wpAny_rule (wpAny_raiseErrorWords (A := A.in1) plainExc_IndexError hh h)
   | exact wpAny_bind (wpAny_rule (wpAny_bind (wpAny_raiseErrorWords (A := A.in1) plainExc_IndexError hh h)))
   | exact wpAny_bind (wpAny_bind (wpAny_rule (wpAny_raiseErrorWords (A := A.in1) plainExc_IndexError hh h)))
end
section
variable {prog:Program}{w:World}{A:Around}{R:Result→Shared→Prop}{l:List Kt}{c:Code}{h:Heap}{g:Array GenState}{d:Drawn}{t:Nat}{os:OsState}{gg:Bool}{lv:List Value}{k:Result→Sem Fin}{id:String}
theorem ct_item {q:Addr}{i:Nat}{tk:Tok}{vs:List Value}{n:Nat}{x:Value}(hid:Nat.beq (PySem.W.S.codeS id) 128106587276438692081757506308484131437=true)
   (hq:h.get? q=some (lst vs n)) (hx:vs[i]?=some x) (hi:i≤1000)
   (y:Go prog w A R l c (k (.ok (.ret x))) ⟨h,g,d,t,os⟩) :
   Go prog w A R l c (.call (.call (.builtin id) ⟨[.ref q,.int i tk],[]⟩) none gg lv k) ⟨h,g,d,t,os⟩:=by
 rw [lst_eq] at hq
 have e1:vs.toArray[i]?=some x:=by rw [List.getElem?_toArray];exact hx
 have e2:=fits_small hi
 have e3:(i:Int)=Int.ofNat i:=rfl
 generalize (i:Int)=kk at e2 e3 ⊢
 have m:=meets_item q kk i tk vs.toArray n x e1 e3 e2
 exact ct_meets slot_list_getitem ⟨_,hq,rfl⟩ entry_list_getitem (args_list_getitem _ _) m (id_is _ hid (by decide +kernel)) ⟨hq,y⟩
noncomputable def excO (cls:String) (tt:Value) (dd:Option Addr) (sl:Array (Option Value)):Obj:=⟨.type cls,dd,.fields #[tt,.none,.none,.none,.bool false,.none],sl⟩
theorem ct_itemOut {B:Addr→Option Obj}{cs:List (Addr×Obj)}{q:Addr}{i:Nat}{tk:Tok}{vs:List Value}{n:Nat}(hid:Nat.beq (PySem.W.S.codeS id) 128106587276438692081757506308484131437=true)
   (hh:((ar A l).under c).handled=none) (H:Hp B h cs)
   (hq:h.get? q=some (lst vs n)) (hx:vs[i]?=none) (hi:i≤1000)
   (y:∀ h' t' e tt dd sl,Hp B h' ((e,excO sIdx tt dd sl) :: cs)→Go prog w A R l c (k (.error (.ref e))) ⟨h',g,d,t',os⟩) :
   Go prog w A R l c (.call (.call (.builtin id) ⟨[.ref q,.int i tk],[]⟩) none gg lv k) ⟨h,g,d,t,os⟩:=by
 rw [lst_eq] at hq
 have e1:vs.toArray[i]?=none:=by rw [List.getElem?_toArray];exact hx
 have e2:=fits_small hi
 have e3:(i:Int)=Int.ofNat i:=rfl
 generalize (i:Int)=kk at e2 e3 ⊢
 have m:=meets_item_out q kk i tk vs.toArray n e1 e3 e2
 refine ct_meets slot_list_getitem ⟨_,hq,rfl⟩ entry_list_getitem (args_list_getitem _ _) m (id_is _ hid (by decide +kernel)) ⟨hq,hh,?_⟩
 rintro h' tk e ⟨kp,nw,⟨c1,dd,dt,sl⟩,tt,he,hc,hd⟩
 dsimp only at hc hd
 subst hc hd
 refine y h' tk e tt dd sl (H.new (cs:=cs) (new:=[(e,excO sIdx tt dd sl)]) ⟨kp,fun p hp=>?_,fun p hp=>?_,by simp⟩)
 · obtain rfl := List.mem_singleton.mp hp
   unfold excO;rw [sIdx_eq];exact he
 · obtain rfl := List.mem_singleton.mp hp
   exact nw
end
noncomputable abbrev PT:=Pt×Tok
noncomputable def pv (q:PT):Value:=.str (sp q.1) q.2
noncomputable abbrev pts (L:List PT):List Pt:=L.map (·.1)
theorem pts_snoc (L:List PT) (q:PT):pts (L++[q])=pts L++[q.1]:=by simp [pts]
theorem sp_inj:∀ p q:Pt,sp p=sp q→p=q:=by
 intro p q h
 cases p <;> cases q <;> simp [sp,Fin.ext_iff] at h ⊢ <;> omega
theorem sp_beq (p q:Pt):(sp p == sp q)=decide (p=q):=by
 by_cases h:p=q
 · subst h;simp
 · rw [decide_eq_false h]
   exact beq_eq_false_iff_ne.mpr fun e=>h (sp_inj _ _ e)
theorem strsAre_pv:∀ L:List PT,StrsAre (L.map pv) ((pts L).map sp)
 | [] => .nil
 | q :: L => .cons _ _ (strsAre_pv L)
theorem any_pv (L:List PT) (p:Pt):(L.map pv).toArray.any (isStrOf (sp p))=decide (p∈pts L):=by
 rw [List.any_toArray]
 induction L with
 | nil => rfl
 | cons q L ih =>
   simp only [List.map_cons,List.any_cons,ih,pts,List.mem_cons]
   show ((sp q.1 == sp p) || _)=_
   rw [sp_beq]
   by_cases h:p=q.1
   · subst h;simp
   · have h' : ¬ q.1 = p := fun e => h e.symm
     simp [h,h']
section
variable {prog:Program}{w:World}{A:Around}{R:Result→Shared→Prop}{l:List Kt}{c:Code}{h:Heap}{g:Array GenState}{d:Drawn}{t:Nat}{os:OsState}{gg:Bool}{lv:List Value}{k:Result→Sem Fin}{id:String}
theorem ct_contains {q:Addr}{L:List PT}{n:Nat}{x:Str}{p:Pt}{t1:Tok}(hid:Nat.beq (PySem.W.S.codeS id) 32795317678217157189674408721764467370605=true)
   (hq:h.get? q=some (lst (L.map pv) n)) (e:x=sp p){bb:Bool}(hb:decide (p∈pts L)=bb)
   (y:Go prog w A R l c (k (.ok (.ret (.bool bb)))) ⟨h,g,d,t,os⟩) :
   Go prog w A R l c (.call (.call (.builtin id) ⟨[.ref q,.str x t1],[]⟩) none gg lv k) ⟨h,g,d,t,os⟩:=by
 subst e
 rw [lst_eq] at hq
 refine ct_meets F.slot_list_contains ⟨_,hq,rfl⟩ F.entry_list_contains (F.args_list_contains_2 _ _) (PySem.SeqInW.list_containsW q (L.map pv).toArray n none #[] (.str (sp p) t1) (isStrOf (sp p)) ?_) (id_is _ hid (by decide +kernel)) ⟨hq,?_⟩
 · intro y hy
   have hy':y∈L.map pv:=by simpa using hy
   obtain ⟨r,_,rfl⟩:=List.mem_map.mp hy'
   exact eqGives_str _ _ _ _
 · rw [any_pv,hb];exact y
theorem ct_append {B:Addr→Option Obj}{cs:List (Addr×Obj)}{Fc:Obj→List (Addr×Obj)}{q:Addr}{vs:List Value}{n:Nat}{x:Value}(hid:Nat.beq (PySem.W.S.codeS id) 122627580202994350266018413=true)
   (H:Hp B h cs) (z:Cell cs q (lst vs n) Fc) (hs:vs.length≤1000)
   (y:∀ h' n',Hp B h' (Fc (lst (vs++[x]) n'))→Go prog w A R l c (k (.ok (.ret .none))) ⟨h',g,d,t,os⟩) :
   Go prog w A R l c (.call (.call (.builtin id) ⟨[.ref q,x],[]⟩) none gg lv k) ⟨h,g,d,t,os⟩:=by
 have ho:=H.at z
 rw [lst_eq] at ho
 refine ct_meets F.slot_list_append ⟨_,ho,rfl⟩ F.entry_list_append (F.args_list_append_2 _ _) (AutoListH.list_append_list_val_0 q vs.toArray n x (by simp [sizeLine];omega)) (id_is _ hid (by decide +kernel)) ⟨ho,?_⟩
 obtain ⟨pre,post,rfl,e⟩:=z.split
 have H':=H.put (f:=Obj.mapSeq fun x_1=>x_1.push x) rfl
 refine y _ (n + 1) ?_
 rw [e]
 have e2:Obj.mapSeq (fun x_1=>x_1.push x) (lst vs n)=lst (vs++[x]) (n + 1):=by
   rw [lst_eq,lst_eq]
   show Obj.mk _ _ (.seq (vs.toArray.push x) (if (vs.toArray.push x).size == vs.toArray.size then n else n + 1)) _=_
   rw [if_neg (by simp)]
   simp
 rw [← e2]
 exact H'
theorem ct_sortedG {B:Addr→Option Obj}{cs:List (Addr×Obj)}{q:Addr}{L:List PT}(hid:Nat.beq (PySem.W.S.codeS id) 111490731569268=true) (H:Hp B h cs)
   (hw:∀ {M:Around}{Q:Value→Shared→Prop}{E:Value→Shared→Prop},(∀ (out:Array Value) (ss':List Str),StrsAre out.toList ss'→ss'.Perm ((pts L).map sp)→sortedS ss'=true→Q (.ref (h.objs.size + 1)) ⟨sortedAll h (L.map pv) out,g,d,t,os⟩)→wpAny (model prog w) M (call (.builtin "sorted") [.ref q]) Q E ⟨h,g,d,t,os⟩)
   (y:∀ h' r n' L',Hp B h' ((r,lst (List.map pv L') n') :: cs)→(pts L').Perm (pts L)→sortedS ((pts L').map sp)=true→Go prog w A R l c (k (.ok (.ret (.ref r)))) ⟨h',g,d,t,os⟩) :
   Go prog w A R l c (.call (.call (.builtin id) ⟨[.ref q],[]⟩) none gg lv k) ⟨h,g,d,t,os⟩:=by
 obtain rfl:=id_is "sorted" hid (by decide +kernel)
 refine go_callW (hw fun out ss' h1 h2 h3=>?_)
 obtain ⟨n',hn⟩:=sortedAll_at h (L.map pv) out
 have back:∀ (vs:List Value) (ss:List Str),StrsAre vs ss→(∀ x∈ss,∃ p:Pt,x=sp p)→∃ L':List PT,vs=L'.map pv∧ss=(pts L').map sp:=by
   intro vs ss hS
   induction hS with
   | nil => exact fun _ => ⟨[], rfl, rfl⟩
   | cons x t hS ih =>
     intro hx
     obtain ⟨p,rfl⟩:=hx x (.head _)
     obtain ⟨L',e1,e2⟩:=ih fun y hy=>hx y (.tail _ hy)
     exact ⟨(p,t) :: L',by rw [e1];rfl,by rw [e2];rfl⟩
 obtain ⟨L', e1, e2⟩ := back _ _ h1 fun x hx => by
   obtain ⟨p,_,e⟩:=List.mem_map.mp (h2.mem_iff.mp hx)
   exact ⟨p,e.symm⟩
 subst e2
 have e1':out=(L'.map pv).toArray:=by rw [← e1]
 subst e1'
 have kp:∀ b o,h.get? b=some o→(sortedAll h (L.map pv) (L'.map pv).toArray).get? b=some o:=fun b o e=>sortedAll_old e
 have new:Hp h.get? (sortedAll h (L.map pv) (L'.map pv).toArray) [(h.objs.size + 1,lst (L'.map pv) n')]:=by
   refine ⟨kp,fun p hp=>?_,fun p hp=>?_,by simp⟩
   · obtain rfl := List.mem_singleton.mp hp
     exact hn.trans (congrArg some (lst_eq _ _).symm)
   · obtain rfl := List.mem_singleton.mp hp
     cases hh:h.get? (h.objs.size + 1) with
     | none => rfl
     | some o => exact absurd (Heap.lt_size hh) (Nat.not_lt_of_le (Nat.le_succ _))
 refine y _ _ n' L' (H.new new) ?_ h3
 have inj:∀ (l1 l2:List Pt),(l1.map sp).Perm (l2.map sp)→l1.Perm l2:=by
   intro l1 l2 hp
   have un:∀ l:List Pt,∃ f:Str→Pt,∀ p∈l,f (sp p)=p:=by
     intro l
     induction l with
     | nil => exact ⟨fun _ => .r, fun _ h => absurd h (by simp)⟩
     | cons a l ih =>
       obtain ⟨f,hf⟩:=ih
       refine ⟨fun s=>if s=sp a then a else f s,fun p hp=>?_⟩
       show (if sp p=sp a then a else f (sp p))=p
       by_cases ha:sp p=sp a
       · rw [if_pos ha];exact (sp_inj _ _ ha).symm
       · rw [if_neg ha]
         rcases List.mem_cons.mp hp with rfl | hp
         · exact absurd rfl ha
         · exact hf p hp
   obtain ⟨f,hf⟩:=un (l1++l2)
   have:=hp.map f
   rw [List.map_map,List.map_map] at this
   have e1 : l1.map (f ∘ sp) = l1 := by conv => rhs; rw [← List.map_id l1]
                                        exact List.map_congr_left fun p hp=>hf p (by simp [hp])
   have e2 : l2.map (f ∘ sp) = l2 := by conv => rhs; rw [← List.map_id l2]
                                        exact List.map_congr_left fun p hp=>hf p (by simp [hp])
   rwa [e1,e2] at this
 exact inj _ _ h2
theorem ct_sorted {B:Addr→Option Obj}{cs:List (Addr×Obj)}{q:Addr}{L:List PT}{n:Nat}(hid:Nat.beq (PySem.W.S.codeS id) 111490731569268=true)
   (H:Hp B h cs) (hq:h.get? q=some (lst (L.map pv) n)) (hs:L.length < 64)
   (y:∀ h' r n' L',Hp B h' ((r,lst (List.map pv L') n') :: cs)→(pts L').Perm (pts L)→sortedS ((pts L').map sp)=true→Go prog w A R l c (k (.ok (.ret (.ref r)))) ⟨h',g,d,t,os⟩) :
   Go prog w A R l c (.call (.call (.builtin id) ⟨[.ref q],[]⟩) none gg lv k) ⟨h,g,d,t,os⟩ :=
 ct_sortedG hid H (fun x=>sorted_strs ⟨_,hq.trans (congrArg some (lst_eq _ _)),rfl,_,rfl⟩ (strsAre_pv L) (by simpa using hs) x) y
end
noncomputable def isFr (o:Obj):Bool:=match o.cls with
 | .type n => Nat.beq (PySem.W.S.codeS n) 439938610023
 | _ => false
noncomputable def frO (sl:Array (Option Value)) (o:Obj):Obj:=@Bool.rec (fun _=>Obj) o { o with slots:=sl } (isFr o)
noncomputable def frC (σ:Addr→Array (Option Value)) (p:Addr×Obj):Addr×Obj:=(p.1,frO (σ p.1) p.2)
theorem Hp.slots {B:Addr→Option Obj}{h h':Heap}{cs:List (Addr×Obj)}{S:List Addr}(H:Hp B h cs) (x:Heap.SlotsOnly S h h') (hS:∀ a∈S,B a=none) (hc:∀ p∈cs,p.1∈S→isFr p.2=true) :
   ∃ σ,Hp B h' (cs.map (frC σ)):=by
 refine ⟨fun a=>((h'.get? a).map (·.slots)).getD #[],fun b o e=>?_,fun p hp=>?_,fun p hp=>?_,?_⟩
 · rw [x.2.1 b (fun hb => by rw [hS b hb] at e; cases e)]
   exact H.keep b o e
 · obtain ⟨q, hq, rfl⟩ := List.mem_map.mp hp
   have ho:=H.own q hq
   obtain ⟨sl,hsl⟩:=x.2.2 _ _ ho
   show h'.get? q.1=some (frO _ q.2)
   unfold frO
   cases hf:isFr q.2 with
   | true =>
     show h'.get? q.1=some { q.2 with slots:=((h'.get? q.1).map (·.slots)).getD #[] }
     rw [hsl];rfl
   | false =>
     rw [x.2.1 q.1 (fun hb=>by rw [hc q hq hb] at hf;cases hf)]
     exact ho
 · obtain ⟨q, hq, rfl⟩ := List.mem_map.mp hp
   exact H.off q hq
 · rw [List.map_map]
   exact H.nd
noncomputable def excT (cls:String) (tt cx:Value) (T:Addr) (dd:Option Addr) (sl:Array (Option Value)):Obj:=⟨.type cls,dd,.fields #[tt,.ref T,cx,.none,.bool false,.none],sl⟩
noncomputable def excG (cls:String) (tt cx:Value) (dd:Option Addr) (sl:Array (Option Value)):Obj:=⟨.type cls,dd,.fields #[tt,.none,cx,.none,.bool false,.none],sl⟩
section
variable {prog:Program}{w:World}{A:Around}{s:Shared}
theorem note_first {B:Addr→Option Obj}{cs:List (Addr×Obj)}{Fc:Obj→List (Addr×Obj)}{env:Env}{outer:List Env}{L e:Addr}{cls:String}{tt cx:Value}{dd:Option Addr}{sl:Array (Option Value)}{Q:Unit→Shared→Prop}{E:Value→Shared→Prop}
   (hfr:A.frames=some (env :: outer)) (hf:env.frame=some L) (H:Hp B s.heap cs) (z:Cell cs e (excG cls tt cx dd sl) Fc) (hne:isFr (excG cls tt cx dd sl)=false)
   (hl:s.heap.FunFrames ⟨#[],{}⟩ (env :: outer)) (hS:∀ a∈(env :: outer).filterMap (·.frame),B a=none) (hc:∀ p∈cs,p.1∈(env :: outer).filterMap (·.frame)→isFr p.2=true)
   (h:∀ h' σ T vs,Hp B h' ((T,⟨.type "traceback",none,.fields (.none :: .ref L :: .none :: rawInt L :: .none :: vs).toArray,#[]⟩) :: (Fc (excT cls tt cx T dd sl)).map (frC σ))→Q () { s with heap:=h' }):wpAny (model prog w) A (noteFrame (.ref e) env) Q E s:=by
 have he:=H.at z
 unfold noteFrame
 simp only [hf]
 refine wpAny_bind (wpAny_field he rfl (x:=.none) rfl ?_)
 rw [if_neg (by decide)]
 refine wpAny_bind (wpAny_frameOf_fun hfr hl hf fun h₁ hs₁=>?_)
 refine wpAny_bind (wpAny_entryPlaceOf fun pl hpl=>?_)
 unfold EntryCells.newEntry newFields
 refine wpAny_bind (wpAny_newObj_type ?_ (hpl.sizeOk5 _ _ _ _ _))
 obtain ⟨σ,H1⟩:=H.slots hs₁ hS hc
 obtain ⟨pre,post,rfl,eF⟩:=z.split
 rw [List.map_append,List.map_cons] at H1
 have e1:frC σ (e,excG cls tt cx dd sl)=(e,excG cls tt cx dd sl):=by
   show (e,frO _ _)=_
   unfold frO;rw [hne]
 rw [e1] at H1
 have H2:=H1.push (o:=⟨.type "traceback",none,.fields ([Value.none,.ref L,.none,rawInt L,.none]++(if pl.isEmpty then List.replicate 6 Value.none else pl)).toArray,#[]⟩) rfl
 have H3:=Hp.put (pre:=(_,_) :: pre.map (frC σ)) (f:=Obj.mapFields (·.setIfInBounds 1 (.ref h₁.objs.size))) H2 rfl
 have he3:=H2.own (e,excG cls tt cx dd sl) (by simp)
 refine wpAny_setField he3 rfl (by decide:1 < 6) (h _ σ h₁.objs.size (if pl.isEmpty then List.replicate 6 Value.none else pl) ?_)
 rw [eF,List.map_append,List.map_cons]
 have e2:frC σ (e,excT cls tt cx h₁.objs.size dd sl)=(e,excT cls tt cx h₁.objs.size dd sl):=by
   show (e,frO _ _)=_
   unfold frO
   rw [show isFr (excT cls tt cx h₁.objs.size dd sl)=isFr (excG cls tt cx dd sl) from rfl,hne]
 rw [e2]
 exact H3
end
noncomputable def locS (es:List DictEntry) (n:Nat) (sl:Array (Option Value)):Obj:=⟨.type PySem.W.SZ.s658472552662922059x5,none,.dict es.toArray n,sl⟩
noncomputable def FrsIn (cs:List (Addr×Obj)):List Env→Prop
 | [] => True
 | x :: r => x.scope.kind ≠ .module ∧ (∃ f es n sl F, x.frame = some f ∧ Cell cs f (locS es n sl) F) ∧ FrsIn cs r
theorem FrsIn.cons {cs:List (Addr×Obj)}{x:Env}{r:List Env}{f:Addr}{es:List DictEntry}{n:Nat}{sl:Array (Option Value)}{F:Obj→List (Addr×Obj)}(hk:x.scope.kind≠.module) (hf:x.frame=some f) (z:Cell cs f (locS es n sl) F) (y:FrsIn cs r):FrsIn cs (x :: r):=⟨hk,⟨f,es,n,sl,F,hf,z⟩,y⟩
theorem FrsIn.mem {cs:List (Addr×Obj)}{le:List Env}(x:FrsIn cs le):∀ a∈le.filterMap (·.frame),∃ es n sl F,Cell cs a (locS es n sl) F:=by
 induction le with
 | nil => intro a ha; simp at ha
 | cons y r ih =>
   obtain ⟨_,⟨f,es,n,sl,F,hf,hz⟩,xr⟩:=x
   intro a ha
   rw [List.filterMap_cons,hf] at ha
   rcases List.mem_cons.mp ha with rfl | ha
   · exact ⟨es,n,sl,F,hz⟩
   · exact ih xr a ha
theorem Cell.mem {cs:List (Addr×Obj)}{a:Addr}{o:Obj} {F}(z:Cell cs a o F):(a,o)∈cs:=by
 obtain ⟨pre,post,rfl,_⟩:=z.split
 simp
theorem nodup_key {cs:List (Addr×Obj)}(hn:(cs.map (·.1)).Nodup){a:Addr}{o o':Obj}(h:(a,o)∈cs) (h':(a,o')∈cs):o=o':=by
 induction cs with
 | nil => simp at h
 | cons p r ih =>
   rw [List.map_cons,List.nodup_cons] at hn
   rcases List.mem_cons.mp h with e | h <;> rcases List.mem_cons.mp h' with e' | h'
   · rw [← e] at e';injection e' with _ e';exact e'.symm
   · exact absurd (List.mem_map_of_mem (f:=(·.1)) h') (by rw [← e] at hn;exact hn.1)
   · exact absurd (List.mem_map_of_mem (f:=(·.1)) h) (by rw [← e'] at hn;exact hn.1)
   · exact ih hn.2 h h'
theorem FrsIn.fun {B:Addr→Option Obj}{h:Heap}{cs:List (Addr×Obj)}(H:Hp B h cs):∀ {le:List Env},FrsIn cs le→h.FunFrames ⟨#[],{}⟩ le
 | [], _ => trivial
 | _ :: _, ⟨hk, ⟨f, es, n, sl, F, hf, hz⟩, xr⟩ => ⟨hk, ⟨f, _, hf, rfl, H.at hz, fun vs q => by cases q⟩, FrsIn.fun H xr⟩
section
variable {prog:Program}{w:World}{A:Around}{R:Result→Shared→Prop}{l:List Kt}{c:Code}{h:Heap}{g:Array GenState}{d:Drawn}{t:Nat}{os:OsState}
theorem go_note {B:Addr→Option Obj}{cs:List (Addr×Obj)}{Fc:Obj→List (Addr×Obj)}{env:Env}{outer:List Env}{L e:Addr}{cls:String}{tt cx:Value}{dd:Option Addr}{sl:Array (Option Value)}{tr tr':Sem Fin}
   (r:Cx (ZFast.noteFrameY (.ref e) env) (.pure ()) tr tr') (hfr:((ar A l).under c).frames=some (env :: outer)) (hf:env.frame=some L) (H:Hp B h cs) (z:Cell cs e (excG cls tt cx dd sl) Fc) (hne:isFr (excG cls tt cx dd sl)=false)
   (hl:FrsIn cs (env :: outer))
   (x:∀ h' σ T vs,Hp B h' ((T,⟨.type "traceback",none,.fields (.none :: .ref L :: .none :: rawInt L :: .none :: vs).toArray,#[]⟩) :: (Fc (excT cls tt cx T dd sl)).map (frC σ))→Go prog w A R l c tr' ⟨h',g,d,t,os⟩):Go prog w A R l c tr ⟨h,g,d,t,os⟩:=by
 refine go_cx (fun s'=>∃ h' σ T vs,s'=⟨h',g,d,t,os⟩∧Hp B h' ((T,⟨.type "traceback",none,.fields (.none :: .ref L :: .none :: rawInt L :: .none :: vs).toArray,#[]⟩) :: (Fc (excT cls tt cx T dd sl)).map (frC σ))) r ?_ ?_
 · rw [← ZFast.noteFrameY_eq]
   refine note_first hfr hf H z hne (hl.fun H) (fun a ha=>?_) (fun p hp ha=>?_) fun h' σ T vs H'=>⟨rfl,h',σ,T,vs,rfl,H'⟩
   · obtain ⟨es, n, sl, F, hz⟩ := hl.mem a ha
     exact H.off _ hz.mem
   · obtain ⟨es, n, sl, F, hz⟩ := hl.mem p.1 ha
     have:p.2=locS es n sl:=nodup_key H.nd (a:=p.1) hp hz.mem
     rw [this]
     rfl
 · rintro s' ⟨h', σ, T, vs, rfl, H'⟩
   exact x h' σ T vs H'
end
theorem meets_lslice (q a:Addr) (vs:Array Value) (n:Nat) (vl vu:Value) (lo hi:Option Int) (pl:IsPart vl lo) (pu:IsPart vu hi) (hsz:vs.size≤sizeLine) :
   Meets (Builtin.«list.__getitem__» ⟨[.ref q, .ref a], []⟩) (fun _ R s => s.heap.get? q = some { cls := .type "list", data := .seq vs n } ∧ s.heap.get? a = some { cls := .type "slice", data := .fields #[vl, vu, .none] } ∧
     R (.ok (.ret (.ref s.heap.objs.size))) { s with heap:=s.heap.push { cls:=.type "list",data:=.seq (slicePick vs lo hi none) } }):=by
 refine .of_wp fun prog w A R s h=>?_
 obtain ⟨hl,hs,h⟩:=h
 have hTs:s.TypeIs (.ref a) "slice":=⟨_,hs,rfl⟩
 show wpAny _ _ (Builtin.List.listSubscript? (.ref a) >>= _) _ _ s
 refine wpAny_bind ?_
 unfold Builtin.List.listSubscript?
 refine wpAny_bind (wpAny_specialOf hTs slice_no_index ?_)
 simp only [Option.isNone_none,if_true]
 refine wpAny_pure ?_
 show wpAny _ _ (typeOf (.ref a) >>= _) _ _ s
 refine wpAny_bind (wpAny_typeOf hTs ?_)
 rw [if_neg (by decide)]
 rw [listSliceParts_eq]
 refine wpAny_bind (wpAny_bind (wpAny_field hs rfl (x:=Value.none) rfl (wpAny_bind (wpAny_listPart .none ?_))))
 rw [if_neg (show ¬ ((rawPart none == rawInt 0)=true) from Bool.false_ne_true)]
 refine wpAny_bind (wpAny_field hs rfl (x:=vl) rfl (wpAny_bind (wpAny_listPart pl ?_)))
 refine wpAny_bind (wpAny_field hs rfl (x:=vu) rfl (wpAny_bind (wpAny_listPart pu (wpAny_pure ?_))))
 refine wpAny_bind (m:=Builtin.List.listItems (.ref q)) ?_
 unfold Builtin.List.listItems
 refine wpAny_bind (wpAny_seqItems hl rfl (wpAny_pure ?_))
 refine wpAny_bind (wpAny_of_eq (sliceIndices_raw lo hi none vs.size (by simp)) ?_)
 exact wpAny_bind (wpAny_newObj_type (wpAny_pure ⟨_,rfl,h⟩) (Nat.le_trans (slicePick_size_le vs lo hi none) hsz))
section
variable {prog:Program}{w:World}{A:Around}{R:Result→Shared→Prop}{l:List Kt}{c:Code}{h:Heap}{g:Array GenState}{d:Drawn}{t:Nat}{os:OsState}{gg:Bool}{lv:List Value}{k:Result→Sem Fin}{id:String}
theorem ct_lslice {B:Addr→Option Obj}{cs:List (Addr×Obj)}{q a:Addr}{vs vs':List Value}{n:Nat}{vl vu:Value}{lo hi:Option Int}(hid:Nat.beq (PySem.W.S.codeS id) 128106587276438692081757506308484131437=true)
   (H:Hp B h cs) (hq:h.get? q=some (lst vs n)) (ha:h.get? a=some ⟨.type sSlice,none,.fields #[vl,vu,.none],#[]⟩) (pl:IsPart vl lo) (pu:IsPart vu hi) (e:slicePick vs.toArray lo hi none=vs'.toArray) (hsz:vs.length≤1000)
   (y:∀ h' r,Hp B h' ((r,lst vs' 0) :: cs)→Go prog w A R l c (k (.ok (.ret (.ref r)))) ⟨h',g,d,t,os⟩) :
   Go prog w A R l c (.call (.call (.builtin id) ⟨[.ref q,.ref a],[]⟩) none gg lv k) ⟨h,g,d,t,os⟩:=by
 rw [lst_eq] at hq
 rw [sSlice_eq] at ha
 have m:=meets_lslice q a vs.toArray n vl vu lo hi pl pu (by simp [sizeLine];omega)
 refine ct_meets slot_list_getitem ⟨_,hq,rfl⟩ entry_list_getitem (args_list_getitem _ _) m (id_is _ hid (by decide +kernel)) ⟨hq,ha,?_⟩
 have H':=H.push (o:=lst vs' 0) rfl
 refine y _ _ ?_
 rw [e]
 rw [lst_eq] at H'
 rw [lst_eq]
 exact H'
theorem ct_extend {B:Addr→Option Obj}{cs:List (Addr×Obj)}{Fc:Obj→List (Addr×Obj)}{q a:Addr}{vs vs':List Value}{n n':Nat}(hid:Nat.beq (PySem.W.S.codeS id) 122627580493480924277926509=true)
   (H:Hp B h cs) (z:Cell cs q (lst vs n) Fc) (ha:h.get? a=some (lst vs' n')) (hs:vs.length≤1000) (hs':vs'.length≤1000)
   (y:∀ h' n',Hp B h' (Fc (lst (vs++vs') n'))→Go prog w A R l c (k (.ok (.ret .none))) ⟨h',g,d,t,os⟩) :
   Go prog w A R l c (.call (.call (.builtin id) ⟨[.ref q,.ref a],[]⟩) none gg lv k) ⟨h,g,d,t,os⟩:=by
 have ho:=H.at z
 rw [lst_eq] at ho ha
 have c0:¬ (!vs.toArray.isEmpty && Builtin.List.listTooLong (vs.toArray.size + vs'.toArray.size))=true:=by
   have:Builtin.List.listTooLong (vs.toArray.size + vs'.toArray.size)=false:=by
     simp [Builtin.List.listTooLong,sizeLine];omega
   rw [this];simp
 have c1:vs.toArray.size≤sizeLine:=by simp [sizeLine];omega
 have c2:vs.toArray.size + vs'.toArray.size≤sizeLine + 1:=by simp [sizeLine];omega
 refine ct_meets F.slot_list_extend ⟨_,ho,rfl⟩ F.entry_list_extend (F.args_list_extend_2 _ _) (AutoSeq1.list_extend_list_list_0 q vs.toArray n a vs'.toArray n' c0 c1 c2) (id_is _ hid (by decide +kernel)) ⟨ho,ha,?_⟩
 obtain ⟨pre,post,rfl,e⟩:=z.split
 have H':=H.put (f:=Obj.mapSeq fun x_1=>x_1++vs'.toArray) rfl
 refine y _ (if (vs.toArray++vs'.toArray).size == vs.toArray.size then n else n + 1) ?_
 rw [e]
 have e2:Obj.mapSeq (fun x_1=>x_1++vs'.toArray) (lst vs n)=lst (vs++vs') (if (vs.toArray++vs'.toArray).size == vs.toArray.size then n else n + 1):=by
   rw [lst_eq,lst_eq]
   show Obj.mk _ _ (.seq (vs.toArray++vs'.toArray) (if (vs.toArray++vs'.toArray).size == vs.toArray.size then n else n + 1)) _=_
   rw [show (vs++vs').toArray=vs.toArray++vs'.toArray from (List.append_toArray _ _).symm ▸ rfl]
 rw [← e2]
 exact H'
end
section
open PySem.AutoSeq1
theorem meets_vnext_item (it d:Addr) (i ep:Nat) (es:Array DictEntry) (e:DictEntry) (he:es[i]?=some e) :
   Meets (Builtin.«dict_valueiterator.__next__» ⟨[.ref it], []⟩) (fun _ R s => s.heap.get? it = some { cls := .type "dict_valueiterator", data := .fields #[.ref d, .int i 0, .int es.size 0, .int ep 0] } ∧ s.heap.get? d = some { cls := .type "dict", data := .dict es ep } ∧
     R (.ok (.ret e.val)) { s with heap:=s.heap.update it (Obj.mapFields (·.setIfInBounds 1 (rawInt (i + 1)))) }) :=
 .of_wp fun prog w A R s h => by
   obtain ⟨hp,g,dd,tk,os⟩:=s;obtain ⟨hit,hl,h⟩:=h
   wp_walk using wpAny_loadPart' hit,wpAny_loadPart' hl
   have he':(if (i:Int) < 0 then none else es[(i:Int).toNat]?)=some e:=by rw [if_neg (by omega)];exact he
   rw [he']
   wp_walk using wpAny_loadPart' hit
   refine ⟨_,rfl,?_⟩
   rw [if_neg (by decide +kernel),if_neg (by decide +kernel)]
   exact h
theorem meets_vnext_end (it d:Addr) (i ep:Nat) (es:Array DictEntry) (he:es[i]?=none) :
   Meets (Builtin.«dict_valueiterator.__next__» ⟨[.ref it], []⟩) (fun A R s => A.handled = none ∧ s.heap.get? it = some { cls := .type "dict_valueiterator", data := .fields #[.ref d, .int i 0, .int es.size 0, .int ep 0] } ∧ s.heap.get? d = some { cls := .type "dict", data := .dict es ep } ∧
     ∀ h',Keeps ((s.heap.update it (Obj.mapFields (·.setIfInBounds 0 .none)))) h'→∀ e,((s.heap.update it (Obj.mapFields (·.setIfInBounds 0 .none))).get? e=none)→(∃ o,h'.get? e=some o∧o.cls=.type "StopIteration")→R (.error (.ref e)) { s with heap:=h' }):=fun prog w A R s h=>by
   obtain ⟨hp,g,dd,tk,os⟩:=s;obtain ⟨hh,hit,hl,h⟩:=h
   wp_walk using wpAny_loadPart' hit,wpAny_loadPart' hl
   have he':(if (i:Int) < 0 then none else es[(i:Int).toNat]?)=none:=by rw [if_neg (by omega)];exact he
   rw [he']
   refine wpAny_bind ?_
   wp_walk using wpAny_loadPart' hit
   simp only [raiseNew]
   refine wpAny_bind (wpAny_handled ?_)
   rw [show A.in1.handled=none from hh]
   refine wpAny_bind (wpAny_pure (wpAny_throw ?_))
   rw [if_neg (by decide +kernel)]
   refine h _ (fun b o e=>Heap.get?_push_of_some _ (Heap.get?_push_of_some _ e)) _ ?_ ⟨_,Heap.get?_push_size _ rfl,rfl⟩
   cases hq:(hp.update it (Obj.mapFields (·.setIfInBounds 0 .none))).get? _ with
   | none => rfl
   | some o => exact absurd (Heap.lt_size hq) (by simp [Heap.push])
theorem meets_knext_item (it d:Addr) (i ep:Nat) (es:Array DictEntry) (e:DictEntry) (he:es[i]?=some e) :
   Meets (Builtin.«dict_keyiterator.__next__» ⟨[.ref it], []⟩) (fun _ R s => s.heap.get? it = some { cls := .type "dict_keyiterator", data := .fields #[.ref d, .int i 0, .int es.size 0, .int ep 0] } ∧ s.heap.get? d = some { cls := .type "dict", data := .dict es ep } ∧
     R (.ok (.ret e.key)) { s with heap:=s.heap.update it (Obj.mapFields (·.setIfInBounds 1 (rawInt (i + 1)))) }) :=
 .of_wp fun prog w A R s h => by
   obtain ⟨hp,g,dd,tk,os⟩:=s;obtain ⟨hit,hl,h⟩:=h
   wp_walk using wpAny_loadPart' hit,wpAny_loadPart' hl
   have he':(if (i:Int) < 0 then none else es[(i:Int).toNat]?)=some e:=by rw [if_neg (by omega)];exact he
   rw [he']
   wp_walk using wpAny_loadPart' hit
   refine ⟨_,rfl,?_⟩
   rw [if_neg (by decide +kernel),if_neg (by decide +kernel)]
   exact h
theorem meets_knext_end (it d:Addr) (i ep:Nat) (es:Array DictEntry) (he:es[i]?=none) :
   Meets (Builtin.«dict_keyiterator.__next__» ⟨[.ref it], []⟩) (fun A R s => A.handled = none ∧ s.heap.get? it = some { cls := .type "dict_keyiterator", data := .fields #[.ref d, .int i 0, .int es.size 0, .int ep 0] } ∧ s.heap.get? d = some { cls := .type "dict", data := .dict es ep } ∧
     ∀ h',Keeps ((s.heap.update it (Obj.mapFields (·.setIfInBounds 0 .none)))) h'→∀ e,((s.heap.update it (Obj.mapFields (·.setIfInBounds 0 .none))).get? e=none)→(∃ o,h'.get? e=some o∧o.cls=.type "StopIteration")→R (.error (.ref e)) { s with heap:=h' }):=fun prog w A R s h=>by
   obtain ⟨hp,g,dd,tk,os⟩:=s;obtain ⟨hh,hit,hl,h⟩:=h
   wp_walk using wpAny_loadPart' hit,wpAny_loadPart' hl
   have he':(if (i:Int) < 0 then none else es[(i:Int).toNat]?)=none:=by rw [if_neg (by omega)];exact he
   rw [he']
   refine wpAny_bind ?_
   wp_walk using wpAny_loadPart' hit
   simp only [raiseNew]
   refine wpAny_bind (wpAny_handled ?_)
   rw [show A.in1.handled=none from hh]
   refine wpAny_bind (wpAny_pure (wpAny_throw ?_))
   rw [if_neg (by decide +kernel)]
   refine h _ (fun b o e=>Heap.get?_push_of_some _ (Heap.get?_push_of_some _ e)) _ ?_ ⟨_,Heap.get?_push_size _ rfl,rfl⟩
   cases hq:(hp.update it (Obj.mapFields (·.setIfInBounds 0 .none))).get? _ with
   | none => rfl
   | some o => exact absurd (Heap.lt_size hq) (by simp [Heap.push])
end
set_option genSizeOf false
inductive Qx where
 | a (x : Addr)
 | o (x : Obj)
 | v (x : Value)
 | s (x : Str)
 | i (x : Int)
 | n (x : Nat)
 | l (x : List Value)
 | C (x : Code)
 | L (x : List (Addr × Obj))
 | F (x : Option (List Env))
set_option genInjectivity false
structure Xd where
 n:Nat
 n2:Nat
 n3:Nat
 p:Pos
 q:List (Code×Pos)
 v:Value
 d:Option Addr
 s:Array (Option Value)
 L:List Nat
 D:Data
 O:Obj
 T:Array DictEntry
 n4:Nat
 n5:Nat
 n6:Nat
 t:Nat
 V:List Value
 s2:Array (Option Value)
 s3:Array (Option Value)
 s4:Array (Option Value)
 X:List (Addr×Obj)
 X2:List (Addr×Obj)
 V2:List Value
 L2:List Nat
structure Rp where
 es:List (Qx×Qx)
 P:Prop
 fact:Option (Xd→Prop)
 post:Xd→Result×List (Addr×Obj)×Nat
noncomputable def fac (o:Option (Xd→Prop)) (x:Xd) (F:Prop):Prop:=match o with
 | none => F
 | some f => f x ∧ F
inductive Oq (V : Type) where
 | k
 | c (p : Nat)
 | r (p : Nat)
 | f (p : Nat)
 | g (p : Nat)
 | e
 | n
 | a (j : Nat)
 | b (j : Nat)
 | q
 | t (j : Nat)
 | v (j : Nat) (R : (Nat → Xd) → V)
inductive Ev where
 | mk (l : List Kt) (c : Code) (t : Sem Fin) (i : Nat) (cs : List (Addr × Obj)) (E E' : List Qx) (P F : Prop)
 | ret (r : Result) (i : Nat) (cs : List (Addr × Obj)) (E E' : List Qx) (P F : Prop)
 | ag (c : Code) (i : Nat) (cs : List (Addr × Obj)) (E E' : List Qx) (P F : Prop)
 | no
noncomputable def hdOk:Option Value→Bool
 | none => true
 | some .notImplemented => false
 | some _ => true
theorem hdOk_ne {hd:Option Value}(h:hdOk hd=true):hd≠some byPass:=by
 intro e
 subst e
 exact Bool.noConfusion h
noncomputable def pick:Nat→List (Addr×Obj)→Option (Addr×Obj)
 | _, [] => none
 | 0, x :: _ => some x
 | n + 1, _ :: r => pick n r
noncomputable def putAt:Nat→List (Addr×Obj)→Obj→List (Addr×Obj)
 | _, [], _ => []
 | 0, (a, _) :: r, o => (a, o) :: r
 | n + 1, x :: r, o => x :: putAt n r o
theorem pick_split {x:Addr×Obj}:∀ {cs:List (Addr×Obj)}{p:Nat},pick p cs=some x→∃ pre post,cs=pre++x :: post∧∀ o,putAt p cs o=pre++(x.1,o) :: post:=by
 intro cs
 induction cs with
 | nil => intro p h; cases p <;> exact absurd h (by simp [pick])
 | cons y r ih =>
   intro p h
   cases p with
   | zero =>
     obtain rfl:y=x:=Option.some.inj h
     exact ⟨[],r,rfl,fun _=>rfl⟩
   | succ n =>
     obtain ⟨pre,post,e,f⟩:=ih (p:=n) h
     exact ⟨y :: pre,post,by rw [e];rfl,fun o=>by show y :: putAt n r o=_;rw [f];rfl⟩
noncomputable def forceV {β:Type}(v:Value) (k:Value→β):β:=match v with
 | .str s t => k (.str s t)
 | .int n t => k (.int n t)
 | .ref a => k (.ref a)
 | .bool b => k (.bool b)
 | .none => k .none
 | .type n => k (.type n)
 | .builtin n => k (.builtin n)
 | v => k v
theorem forceV_eq {β:Type}(v:Value) (k:Value→β):forceV v k=k v:=by cases v <;> rfl
noncomputable def forceE {β:Type}:List DictEntry→(List DictEntry→β)→β
 | [], k => k []
 | ⟨h, y, v⟩ :: r, k => forceV v fun v' => forceE r fun r' => k (⟨h, y, v'⟩ :: r')
theorem forceE_eq {β:Type}:∀ (l:List DictEntry) (k:List DictEntry→β),forceE l k=k l
 | [], _ => rfl
 | ⟨h, y, v⟩ :: r, k => by
   unfold forceE
   rw [forceV_eq,forceE_eq r]
noncomputable def forceOp {β:Type}(d:Option Addr) (k:Option Addr→β):β:=match d with
 | none => k none
 | some a => k (some a)
theorem forceOp_eq {β:Type}(d:Option Addr) (k:Option Addr→β):forceOp d k=k d:=by cases d <;> rfl
noncomputable def forceVs {β:Type}:List Value→(List Value→β)→β
 | [], k => k []
 | v :: r, k => forceV v fun v' => forceVs r fun r' => k (v' :: r')
theorem forceVs_eq {β:Type}:∀ (l:List Value) (k:List Value→β),forceVs l k=k l
 | [], _ => rfl
 | v :: r, k => by
   unfold forceVs
   rw [forceV_eq,forceVs_eq r]
noncomputable def forceD {β:Type}(dt:Data) (k:Data→β):β:=match dt with
 | .dict es n => forceE es.toList fun es' => k (.dict ⟨es'⟩ n)
 | .fields es => forceVs es.toList fun es' => k (.fields ⟨es'⟩)
 | dt => k dt
theorem forceD_eq {β:Type}(dt:Data) (k:Data→β):forceD dt k=k dt:=by
 cases dt <;> first | rfl | exact forceVs_eq _ _ | exact forceE_eq _ _
noncomputable def forceQ {β:Type}(dt:Data) (k:Data→β):β:=match dt with
 | .seq es n => forceVs es.toList fun es' => k (.seq ⟨es'⟩ n)
 | dt => k dt
theorem forceQ_eq {β:Type}(dt:Data) (k:Data→β):forceQ dt k=k dt:=by
 cases dt <;> first | rfl | exact forceVs_eq _ _
noncomputable def forceS {β:Type}(o:Obj) (k:Obj→β):β:=match o with
 | ⟨c, d, dt, sl⟩ => forceV c fun c => forceOp d fun d => forceD dt fun dt => k ⟨c, d, dt, sl⟩
theorem forceS_eq {β:Type}(o:Obj) (k:Obj→β):forceS o k=k o:=by
 obtain ⟨c,d,dt,sl⟩:=o
 show (forceV c fun c=>forceOp d fun d=>forceD dt fun dt=>k ⟨c,d,dt,sl⟩)=_
 rw [forceV_eq,forceOp_eq,forceD_eq]
noncomputable def forceOv {β:Type}:List (Option Value)→(List (Option Value)→β)→β
 | [], k => k []
 | x :: r, k => match x with
   | some v => forceV v fun v' => forceOv r fun r' => k (some v' :: r')
   | none => forceOv r fun r' => k (none :: r')
theorem forceOv_eq {β:Type}:∀ (l:List (Option Value)) (k:List (Option Value)→β),forceOv l k=k l
 | [], _ => rfl
 | some v :: r, k => by
   show (forceV v fun v'=>forceOv r fun r'=>k (some v' :: r'))=_
   rw [forceV_eq,forceOv_eq r]
 | none :: r, k => by
   show (forceOv r fun r'=>k (none :: r'))=_
   rw [forceOv_eq r]
noncomputable def forceO {β:Type}(o:Obj) (k:Obj→β):β:=forceS o fun o=>match o with
 | ⟨c, d, dt, sl⟩ => forceOv sl.toList fun sl' => k ⟨c, d, dt, ⟨sl'⟩⟩
theorem forceO_eq {β:Type}(o:Obj) (k:Obj→β):forceO o k=k o:=by
 unfold forceO
 rw [forceS_eq]
 obtain ⟨c,d,dt,sl⟩:=o
 exact forceOv_eq _ _
noncomputable def forceT {β:Type}(o:Obj) (k:Obj→β):β:=forceO o fun o=>match o with
 | ⟨c, d, dt, sl⟩ => forceQ dt fun dt => k ⟨c, d, dt, sl⟩
theorem forceT_eq {β:Type}(o:Obj) (k:Obj→β):forceT o k=k o:=by
 unfold forceT
 rw [forceO_eq]
 obtain ⟨c,d,dt,sl⟩:=o
 exact forceQ_eq _ _
theorem life_code {id:String}(h:id.startsWith "lifetime."=true):PySem.W.S.codeS id % 16777216=6777453:=by
 rw [String.startsWith_string_iff] at h
 obtain ⟨t,e⟩:=h
 have e2:id.toByteArray.data.toList="lifetime.".toByteArray.data.toList++(String.ofList t).toByteArray.data.toList:=by
   have:id="lifetime."++String.ofList t:=by
     rw [← String.ofList_toList (s:=id),← e,String.ofList_append,String.ofList_toList]
   rw [this]
   simp [String.toByteArray_append]
 rw [← PySem.W.S.code_S]
 unfold PySem.code
 rw [e2,List.foldr_append]
 generalize List.foldr (fun (b:UInt8) h=>h * 256 + b.toNat + 1) 0 (String.ofList t).toByteArray.data.toList=x
 have:"lifetime.".toByteArray.data.toList=[108,105,102,101,116,105,109,101,46]:=by decide +kernel
 rw [this]
 simp
 omega
noncomputable def quietB:Code→Bool
 | .builtin id _ => @Bool.rec (fun _ => Bool) true false (Nat.beq (PySem.W.S.codeS id % 16777216) 6777453)
 | c => c.quiet
theorem quietB_ok {c:Code}(h:quietB c=true):c.quiet=true:=by
 cases c with
 | builtin id args =>
   refine Code.quiet_builtin args ?_
   cases hs:id.startsWith "lifetime." with
   | false => rfl
   | true =>
     have e:=life_code hs
     have h':@Bool.rec (fun _=>Bool) true false (Nat.beq (PySem.W.S.codeS id % 16777216) 6777453)=true:=h
     rw [e] at h'
     exact absurd h' (by decide)
 | _ => exact h
noncomputable def fnOk (fd:FuncData) (dep:Nat):Bool:=match fd.scope.isCoroutine with
 | true => false
 | false => match fd.scope.isGenerator with
   | true => false
   | false => Nat.ble (dep + 1) recursionLimit
noncomputable def isBi:Code→Bool
 | .builtin .. => true
 | c => isLoop c
noncomputable def dropK:Nat→List (Addr×Obj)→(List (Addr×Obj)→Ev)→Ev
 | 0, cs, k => k cs
 | _ + 1, [], k => k []
 | n + 1, _ :: r, k => dropK n r k
theorem dropK_ok:∀ (n:Nat) (cs:List (Addr×Obj)) (k:List (Addr×Obj)→Ev),dropK n cs k=k (cs.drop n)
 | 0, _, _ => rfl
 | _ + 1, [], _ => rfl
 | n + 1, _ :: r, k => dropK_ok n r k
noncomputable def selP:List Nat→List (Addr×Obj)→List (Addr×Obj)→(List (Addr×Obj)→Ev)→Ev
 | [], tl, _, k => k tl
 | p :: ps, tl, cs, k => match pick p cs with
   | some x => selP ps tl cs fun r => k (x :: r)
   | none => .no
theorem selP_ok:∀ (ps:List Nat) (tl cs:List (Addr×Obj)) (k:List (Addr×Obj)→Ev),selP ps tl cs k=.no∨∃ out,ps.map (fun p=>pick p cs)=out.map some∧selP ps tl cs k=k (out++tl)
 | [], _, _, _ => .inr ⟨[], rfl, rfl⟩
 | p :: ps, tl, cs, k => by
   unfold selP
   cases h:pick p cs with
   | none => exact .inl rfl
   | some x =>
     rcases selP_ok ps tl cs fun r=>k (x :: r) with e | ⟨out,e,e2⟩
     · exact .inl e
     · exact .inr ⟨x :: out,by rw [List.map_cons,List.map_cons,h,e],e2⟩
structure Ks where
 ps:List Nat
 n:Nat
noncomputable def selL (ks:Ks) (cs:List (Addr×Obj)) (k:List (Addr×Obj)→Ev):Ev:=dropK ks.n cs fun tl=>selP ks.ps tl cs k
noncomputable def addL:List (Qx×Qx)→List Qx→List Qx
 | [], E => E
 | p :: r, E => p.1 :: addL r E
noncomputable def addR:List (Qx×Qx)→List Qx→List Qx
 | [], E => E
 | p :: r, E => p.2 :: addR r E
theorem add_ok:∀ {es:List (Qx×Qx)}{E E':List Qx},addL es E=addR es E'→(∀ p∈es,p.1=p.2)∧E=E'
 | [], _, _, h => ⟨fun _ h => absurd h List.not_mem_nil, h⟩
 | p :: r, E, E', h => by
   obtain ⟨h1,h2⟩:=List.cons.inj h
   obtain ⟨h3,h4⟩:=add_ok h2
   exact ⟨fun q hq=>by rcases List.mem_cons.mp hq with rfl | hq;exact h1;exact h3 q hq,h4⟩
section
variable (prog:Program) (w:World) (A:Around) (R:Result→Shared→Prop) (B:Addr→Option Obj) (g:Array GenState) (d:Drawn) (os:OsState)
structure CallR (l : List Kt) (c : Code) (c' : Code) (cs : List (Addr × Obj)) (fc : Option (Xd → Prop)) (post : Xd → Result × List (Addr × Obj) × Nat) : Prop where
 ok:∀ gg lv k h i,Hp B h cs→(∀ x h',fac fc x True→Hp B h' (post x).2.1→Go prog w A R l c (k (post x).1) ⟨h',g,d,(post x).2.2,os⟩)→Go prog w A R l c (.call c' none gg lv k) ⟨h,g,d,i,os⟩
structure Rul where
 eff:List Kt→Code→Code→List (Addr×Obj)→Option Rp
 ok:∀ l c c' cs rp,eff l c c' cs=some rp→(∀ p∈rp.es,p.1=p.2)→rp.P→CallR prog w A R B g d os l c c' cs rp.fact rp.post
end
noncomputable abbrev xd0:Xd:=⟨0,0,0,⟨0,0,0,0⟩,[],.none,none,#[],[],.plain,⟨.none,none,.plain,#[]⟩,#[],0,0,0,0,[],#[],#[],#[],[],[],[],[]⟩
noncomputable def cut (m:Nat) (α:Nat→Xd) (j:Nat):Xd:=match Nat.blt j m with
 | true => α j
 | false => xd0
noncomputable def onO {α β:Type}(o:Option α) (d:β) (k:α→β):β:=match o with
 | some a => k a
 | none => d
noncomputable def onB {β:Type}(b:Bool) (k:β) (d:β):β:=match b with
 | true => k
 | false => d
theorem onB_ok {α:Type}{b:Bool}{k:Option α}{y:α}(h:onB b k none=some y):b=true∧k=some y:=by
 cases b
 · cases h
 · exact ⟨rfl,h⟩
theorem bo {α β:Type}{x:Option α}{f:α→Option β}{y:β}(h:x.bind f=some y):∃ a,x=some a∧f a=some y:=by
 cases x with
 | none => cases h
 | some a => exact ⟨a, rfl, h⟩
noncomputable def look {V:Type}(K:Frag) (rs cs:List (Addr×Obj)) (a:Addr):Oq V→Option (Obj×List (Qx×Qx))
 | .k => (K.lookup a).bind fun o => some (o, [])
 | .c p => (pick p cs).bind fun (a', o) => some (o, [(.a a', .a a)])
 | .r p => (pick p rs).bind fun (a', o) => some (o, [(.a a', .a a)])
 | _ => none
noncomputable def updM {V:Type}:Oq V→Option (Nat×Nat)
 | .c p => some (0, p)
 | .f p => some (1, p)
 | .g p => some (2, p)
 | _ => none
noncomputable def allM {V:Type}:Oq V→Option (Bool×Nat)
 | .a j => some (false, j)
 | .b j => some (true, j)
 | _ => none
noncomputable def forceM {β:Type}(md:Nat) (o:Obj) (k:Obj→β):β:=match md with
 | 0 => k o
 | 1 => forceO o k
 | _ => forceS o k
theorem forceM_eq {β:Type}(md:Nat) (o:Obj) (k:Obj→β):forceM md o k=k o:=by
 unfold forceM
 split
 · rfl
 · exact forceO_eq _ _
 · exact forceS_eq _ _
noncomputable def forceB {β:Type}(b:Bool) (o:Obj) (k:Obj→β):β:=match b with
 | false => k o
 | true => forceT o k
theorem forceB_eq {β:Type}(b:Bool) (o:Obj) (k:Obj→β):forceB b o k=k o:=by
 cases b
 · rfl
 · exact forceT_eq _ _
noncomputable def hd1 {α:Type}:List α→Option (α×List α)
 | [] => none
 | x :: r => some (x, r)
noncomputable def fnT (K:Frag) (dep:Nat):Code→Option (Sem Fin)
 | .call (.ref a) args => (K.lookup a).bind fun o => match o.data with
   | .func fd => onB (fnOk fd dep) (some (fnTree a fd args)) none
   | _ => none
 | _ => none
inductive Cq (V : Type) where
 | e (t : Sem Fin)
 | v (j : Nat) (Q : V)
noncomputable def callM {V:Type}(K:Frag) (dep:Nat) (α:Nat→Xd) (m:Nat) (hd:Option Value) (c':Code):Oq V→Option (Cq V)
 | .e => onB (hdOk hd) (some (.e (denZ c'))) none
 | .n => onB (hdOk hd) ((fnT K dep c').bind fun t => some (.e t)) none
 | .v j R => onB (onO hd true fun _ => false) (onB (Nat.beq j m) (some (.v j (R (cut m α)))) none) none
 | _ => none
noncomputable def isQ {V:Type}:Oq V→Bool
 | .q => true
 | _ => false
noncomputable def exr {prog:Program}{w:World}{A:Around}{R:Result→Shared→Prop}{B:Addr→Option Obj}{g:Array GenState}{d:Drawn}{os:OsState}(st:Setting) (K:Frag) (rs:List (Addr×Obj)) (ks:Ks) (α:Nat→Xd):Nat→List (Oq (Rul prog w A R B g d os))→List Kt→Code→Sem Fin→Nat→List (Addr×Obj)→Nat→List Qx→List Qx→Prop→Prop→Ev
 | 0, _, l, c, t, i, cs, m, E, E', P, F => selL ks cs fun cs => .mk l c t i cs E E' P F
 | n + 1, r, l, c, t, i, cs, m, E, E', P, F => match (generalizing := false) t with
   | .rule _ k => exr st K rs ks α n r l c (k ()) i cs m E E' P F
   | .at _ k => exr st K rs ks α n r l c (k ()) i cs m E E' P F
   | .point _ k => exr st K rs ks α n r l c (k ()) i cs m E E' P F
   | .ask k => exr st K rs ks α n r l c (k st) i cs m E E' P F
   | .fresh k => exr st K rs ks α n r l c (k i) (i + 1) cs m E E' P F
   | .pure fin => match fin with
     | .done f => match l with
       | [] => match f with
         | .ret v => forceV v fun v => selL ks cs fun cs => .ret (.ok (.ret v)) i cs E E' P F
         | f => selL ks cs fun cs => .ret (.ok f) i cs E E' P F
       | ⟨code, _, k⟩ :: l => exr st K rs ks α n r l code (k (.ok f)) i cs m E E' P F
     | .again c' => onB (quietB c') (match isBi c' with
       | false => exr st K rs ks α n r l c' (denZ c') i cs m E E' P F
       | true => match onO (hd1 r) false (fun p => isQ p.1) with
         | true => exr st K rs ks α n r.tail l c' (denZ c') i cs m E E' P F
         | false => match l with
           | [] => selL ks cs fun cs => .ag c' i cs E E' P F
           | l => selL ks cs fun cs => .mk l c (.pure (.again c')) i cs E E' P F) .no
   | .raise e => match l with
     | [] => selL ks cs fun cs => .ret (.error e) i cs E E' P F
     | ⟨code, _, k⟩ :: l => exr st K rs ks α n r l code (k (.error e)) i cs m E E' P F
   | .load a q k => match r with
     | [] => selL ks cs fun cs => .mk l c (.load a q k) i cs E E' P F
     | o :: r => onO (look K rs cs a o) (selL ks cs fun cs => .mk l c (.load a q k) i cs E E' P F) fun
       | (ob, es) => exr st K rs ks α n r l c (k ob) i cs m (addL es E) (addR es E') P F
   | .loadIfAlive a k => match r with
     | [] => selL ks cs fun cs => .mk l c (.loadIfAlive a k) i cs E E' P F
     | o :: r => onO (look K rs cs a o) (selL ks cs fun cs => .mk l c (.loadIfAlive a k) i cs E E' P F) fun
       | (ob, es) => exr st K rs ks α n r l c (k (some ob)) i cs m (addL es E) (addR es E') P F
   | .update a q f k => match r with
     | [] => selL ks cs fun cs => .mk l c (.update a q f k) i cs E E' P F
     | o :: r => onO (updM o) (selL ks cs fun cs => .mk l c (.update a q f k) i cs E E' P F) fun
       | (md, p) => onO (pick p cs) .no fun
         | (a', ob) => forceM md (f ob) fun o' =>
           onB o'.isFreed .no (exr st K rs ks α n r l c (k ()) i (putAt p cs o') m (.a a' :: E) (.a a :: E') P F)
   | .alloc o k => match r with
     | [] => selL ks cs fun cs => .mk l c (.alloc o k) i cs E E' P F
     | q :: r => onO (allM q) (selL ks cs fun cs => .mk l c (.alloc o k) i cs E E' P F) fun
       | (md, j) => onB (Nat.beq j m) (forceB md o fun o' =>
         onB o'.isFreed .no (exr st K rs ks α n r l c (k (α j).n) i (((α j).n,o') :: cs) (j + 1) E E' P F)) .no
   | .handled false k => exr st K rs ks α n r l c (k (ar A l).handled) i cs m E E' P F
   | .stack k => match r with
     | .t j :: r => onB (Nat.beq j m) (exr st K rs ks α n r l c (k ((c, (α j).p) :: (α j).q)) i cs (j + 1) E E' P F) .no
     | _ => selL ks cs fun cs => .mk l c (.stack k) i cs E E' P F
   | .call c' hd gg lv k => match r with
     | [] => selL ks cs fun cs => .mk l c (.call c' hd gg lv k) i cs E E' P F
     | o :: r => onO (callM K (ar A (⟨c, hd, k⟩ :: l)).depth α m hd c' o) .no fun
       | .e t => exr st K rs ks α n r (⟨c, hd, k⟩ :: l) c' t i cs m E E' P F
       | .v j Q => match Q.eff l c c' cs with
         | some ⟨es, P', fc, post⟩ => match post (α j) with
           | (res, cs', i') => exr st K rs ks α n r l c (k res) i' cs' (j + 1) (addL es E) (addR es E') ((F → P') ∧ P) (fac fc (α j) F)
         | none => .no
   | t => selL ks cs fun cs => .mk l c t i cs E E' P F
noncomputable def Rin (rs:List (Addr×Obj)) (B:Addr→Option Obj):Prop:=∀ p∈rs,B p.1=some p.2
theorem Rin.nil {B:Addr→Option Obj}:Rin [] B:=fun _ h=>absurd h List.not_mem_nil
theorem pick_get:∀ {cs:List (Addr×Obj)}{p:Nat},pick p cs=cs[p]?:=by
 intro cs
 induction cs with
 | nil => intro p; cases p <;> rfl
 | cons y r ih => intro p; cases p with
   | zero => rfl
   | succ n => show pick n r = _; rw [ih]; rfl
theorem Hp.sel {B:Addr→Option Obj}{h:Heap}{cs:List (Addr×Obj)}(H:Hp B h cs) (ps:List Nat) (n:Nat) (hn:ps.Nodup) (hl:∀ p∈ps,p < n){out:List (Addr×Obj)}(e:ps.map (fun p=>pick p cs)=out.map some):Hp B h (out++cs.drop n):=by
 have mem : ∀ x ∈ out, ∃ p ∈ ps, cs[p]? = some x := fun x hx => by
   have:some x∈ps.map fun p=>pick p cs:=by rw [e];exact List.mem_map_of_mem hx
   obtain ⟨p,hp,q⟩:=List.mem_map.mp this
   exact ⟨p,hp,by rw [← pick_get];exact q⟩
 have mem2 : ∀ x ∈ out ++ cs.drop n, x ∈ cs := fun x hx => by
   rcases List.mem_append.mp hx with hx | hx
   · obtain ⟨p, _, q⟩ := mem x hx
     exact List.mem_of_getElem? q
   · exact List.mem_of_mem_drop hx
 have key:∀ {p p':Nat}{x y:Addr×Obj},p≠p'→cs[p]?=some x→cs[p']?=some y→x.1≠y.1:=by
   intro p p' x y hne q1 q2 hk
   obtain ⟨a1,b1⟩:=List.getElem?_eq_some_iff.mp q1
   obtain ⟨a2,b2⟩:=List.getElem?_eq_some_iff.mp q2
   have pw:=List.pairwise_iff_getElem.mp H.nd
   have k1:(cs.map (·.1))[p]'(by simpa using a1)=x.1:=by rw [List.getElem_map,b1]
   have k2:(cs.map (·.1))[p']'(by simpa using a2)=y.1:=by rw [List.getElem_map,b2]
   rcases Nat.lt_or_gt_of_ne hne with hlt | hlt
   · exact pw p p' (by simpa using a1) (by simpa using a2) hlt (by rw [k1,k2,hk])
   · exact pw p' p (by simpa using a2) (by simpa using a1) hlt (by rw [k1,k2,hk])
 refine ⟨H.keep,fun x hx=>H.own x (mem2 x hx),fun x hx=>H.off x (mem2 x hx),?_⟩
 rw [List.map_append,List.nodup_append]
 refine ⟨?_,H.nd.sublist ((List.drop_sublist n cs).map _),fun a ha b hb hab=>?_⟩
 · clear mem mem2 hl
   induction ps generalizing out with
   | nil =>
     cases out with
     | nil => exact List.nodup_nil
     | cons x r => simp at e
   | cons p ps ih =>
     cases out with
     | nil => simp at e
     | cons x r =>
       rw [List.map_cons,List.map_cons] at e
       injection e with e1 e2
       rw [List.map_cons,List.nodup_cons]
       refine ⟨fun hm=>?_,ih (List.nodup_cons.mp hn).2 e2⟩
       obtain ⟨y,hy,hk⟩:=List.mem_map.mp hm
       have:some y∈ps.map fun p=>pick p cs:=by rw [e2];exact List.mem_map_of_mem hy
       obtain ⟨p',hp',q⟩:=List.mem_map.mp this
       rw [pick_get] at q e1
       exact key (fun (hpp:p=p')=>(List.nodup_cons.mp hn).1 (by rw [hpp];exact hp')) e1 q hk.symm
 · obtain ⟨x, hx, rfl⟩ := List.mem_map.mp ha
   obtain ⟨y,hy,rfl⟩:=List.mem_map.mp hb
   obtain ⟨p,hp,q⟩:=mem x hx
   obtain ⟨j,hj,hjy⟩:=List.mem_iff_getElem.mp hy
   rw [List.getElem_drop] at hjy
   have q2:cs[n + j]?=some y:=List.getElem?_eq_some_iff.mpr ⟨by rw [List.length_drop] at hj;omega,hjy⟩
   exact key (fun h=>by have:=hl p hp;omega) q q2 hab
noncomputable def nodupB:List Nat→Bool
 | [] => true
 | p :: r => match r.all fun q => !(Nat.beq p q) with
   | true => nodupB r
   | false => false
theorem nodupB_ok:∀ {ps:List Nat},nodupB ps=true→ps.Nodup
 | [], _ => List.nodup_nil
 | p :: r, h => by
   unfold nodupB at h
   cases e:(r.all fun q=>!(Nat.beq p q)) with
   | false => rw [e] at h; cases h
   | true =>
     rw [e] at h
     refine List.nodup_cons.mpr ⟨fun hm=>?_,nodupB_ok h⟩
     have:=List.all_eq_true.mp e p hm
     simp at this
noncomputable def ksB (ks:Ks):Bool:=match nodupB ks.ps with
 | true => ks.ps.all fun p => Nat.blt p ks.n
 | false => false
structure KsOk (ks : Ks) : Prop where
 nd:ks.ps.Nodup
 lt:∀ p∈ks.ps,p < ks.n
theorem ksB_ok {ks:Ks}(h:ksB ks=true):KsOk ks:=by
 unfold ksB at h
 cases e:nodupB ks.ps with
 | false => rw [e] at h; cases h
 | true =>
   rw [e] at h
   exact ⟨nodupB_ok e,fun p hp=>by simpa using List.all_eq_true.mp h p hp⟩
theorem selL_ok (ks:Ks) (cs:List (Addr×Obj)) (k:List (Addr×Obj)→Ev):selL ks cs k=.no∨∃ out,ks.ps.map (fun p=>pick p cs)=out.map some∧selL ks cs k=k (out++cs.drop ks.n):=by
 unfold selL
 rw [dropK_ok]
 exact selP_ok ks.ps _ cs k
section
variable {prog:Program}{w:World}{A:Around}{R:Result→Shared→Prop}{B:Addr→Option Obj}{g:Array GenState}{d:Drawn}{os:OsState}{K:Frag}{rs:List (Addr×Obj)}{ks:Ks}
theorem fac_of {o:Option (Xd→Prop)}{x:Xd}{F:Prop}(h:fac o x True) (hF:F):fac o x F:=by
 cases o with
 | none => exact hF
 | some f => exact ⟨h.1, hF⟩
noncomputable abbrev xd (a b:Nat):Xd:={ xd0 with n:=a,n2:=b }
variable (prog w A R B g d os) in
noncomputable def EndR:Ev→Prop
 | .mk l c t i cs E E' P F => (E = E' ∧ P) ∧ (F → ∀ h, Hp B h cs → Go prog w A R l c t ⟨h, g, d, i, os⟩)
 | .ret r i cs E E' P F => (E = E' ∧ P) ∧ (F → ∀ h, Hp B h cs → R r ⟨h, g, d, i, os⟩)
 | .ag c i cs E E' P F => (E = E' ∧ P) ∧ (F → ∀ h, Hp B h cs → codeAny (model prog w) A c R ⟨h, g, d, i, os⟩)
 | .no => False
structure Sx where
 l:List Kt
 c:Code
 t:Sem Fin
 i:Nat
 cs:List (Addr×Obj)
 E:List Qx
 E':List Qx
 P:Prop
 F:Prop
variable (prog w A R B g d os) in
structure Sd (x : Sx) : Prop where
 e:x.E=x.E'
 p:x.P
 f:x.F→∀ h,Hp B h x.cs→Go prog w A R x.l x.c x.t ⟨h,g,d,x.i,os⟩
theorem Sd.fin {x:Sx}{G:List (Addr×Obj)→Ev}(hk:KsOk ks) (y:EndR prog w A R B g d os (selL ks x.cs G)) (hG:∀ out,EndR prog w A R B g d os (G out)→Sd prog w A R B g d os { x with cs:=out }):Sd prog w A R B g d os x:=by
 rcases selL_ok ks x.cs G with e | ⟨out,e,e2⟩
 · rw [e] at y;exact y.elim
 · rw [e2] at y
   have z:=hG _ y
   exact ⟨z.e,z.p,fun hF h H=>z.f hF h (H.sel ks.ps ks.n hk.nd hk.lt e)⟩
theorem Sd.stop {x:Sx}(hk:KsOk ks) (y:EndR prog w A R B g d os (selL ks x.cs fun cs=>.mk x.l x.c x.t x.i cs x.E x.E' x.P x.F)):Sd prog w A R B g d os x:=Sd.fin hk y fun _ y=>⟨y.1.1,y.1.2,y.2⟩
theorem Sd.to {x y:Sx}(z:Sd prog w A R B g d os y) (e1:y.E=y.E'→x.E=x.E') (e2:x.P=y.P) (f:y.E=y.E'→∀ h,Hp B h x.cs→(y.F→∀ h,Hp B h y.cs→Go prog w A R y.l y.c y.t ⟨h,g,d,y.i,os⟩)→x.F→Go prog w A R x.l x.c x.t ⟨h,g,d,x.i,os⟩):Sd prog w A R B g d os x :=
 ⟨e1 z.e,e2 ▸ z.p,fun hF h H=>f z.e h H z.f hF⟩
theorem own_pick {cs:List (Addr×Obj)}{p:Nat}{a:Addr}{o:Obj}(e:pick p cs=some (a,o)){h:Heap}(H:Hp B h cs):h.get? a=some o:=H.own _ (by rw [pick_get] at e;exact List.mem_of_getElem? e)
theorem rin_pick {p:Nat}{a:Addr}{o:Obj}(RX:Rin rs B) (e:pick p rs=some (a,o)){h:Heap}{cs:List (Addr×Obj)}(H:Hp B h cs):h.get? a=some o:=H.keep _ _ (RX _ (by rw [pick_get] at e;exact List.mem_of_getElem? e))
theorem go_put {cs:List (Addr×Obj)}{p:Nat}{a:Addr}{o:Obj}{l:List Kt}{c:Code}{q:Option Value}{f:Obj→Obj}{k:Unit→Sem Fin}{i:Nat}(e:pick p cs=some (a,o)){h:Heap}(H:Hp B h cs) (hf:(f o).isFreed=false)
   (x:∀ h',Hp B h' (putAt p cs (f o))→Go prog w A R l c (k ()) ⟨h',g,d,i,os⟩):Go prog w A R l c (.update a q f k) ⟨h,g,d,i,os⟩:=by
 obtain ⟨pre,post,e1,e2⟩:=pick_split e
 have ho:=own_pick e H
 subst e1
 have H':=H.put hf
 have e3:putAt p (pre++(a,o) :: post) (f o)=pre++(a,f o) :: post:=e2 _
 rw [← e3] at H'
 have:=x _ H'
 rw [Go_eq] at this ⊢
 exact wpOwn_bind (m:=updatePart a q f) (f:=k) (wpOwn_of_wpAny (wpAny_updatePart ho this))
noncomputable def setAt (m:Nat) (x:Xd) (α:Nat→Xd):Nat→Xd:=fun j=>if j=m then x else α j
theorem setAt_at (m:Nat) (x:Xd) (α:Nat→Xd):setAt m x α m=x:=if_pos rfl
theorem setAt_lo {m:Nat}{x:Xd}{α:Nat→Xd}{j:Nat}(h:j < m):setAt m x α j=α j:=if_neg (Nat.ne_of_lt h)
theorem cut_eq {m:Nat}{α β:Nat→Xd}(h:∀ j,j < m→α j=β j):cut m α=cut m β:=by
 funext j
 unfold cut
 cases e:Nat.blt j m with
 | false => rfl
 | true => exact h j (by simpa using e)
theorem look_ok (KX:Kin K B) (RX:Rin rs B){V:Type}{o:Oq V}{cs:List (Addr×Obj)}{a:Addr}{y:Obj×List (Qx×Qx)}(e:look K rs cs a o=some y){h:Heap}(H:Hp B h cs) (he:∀ p∈y.2,p.1=p.2):h.get? a=some y.1:=by
 cases o with
 | k =>
   obtain ⟨o',e',e⟩:=bo e
   cases e
   exact H.keep _ _ (KX _ _ e')
 | c p =>
   obtain ⟨o',e',e⟩:=bo e
   cases e
   obtain rfl:=Qx.a.inj (he _ (.head _))
   exact own_pick e' H
 | r p =>
   obtain ⟨o',e',e⟩:=bo e
   cases e
   obtain rfl:=Qx.a.inj (he _ (.head _))
   exact rin_pick RX e' H
 | _ => cases e
theorem fnT_ok {dep:Nat}{c:Code}{t:Sem Fin}(e:fnT K dep c=some t):∃ a args o fd,c=.call (.ref a) args∧K.lookup a=some o∧o.data=.func fd∧fd.scope.isCoroutine=false∧fd.scope.isGenerator=false∧dep < recursionLimit∧t=fnTree a fd args:=by
 unfold fnT at e
 split at e
 · obtain ⟨o, e1, e⟩ := bo e
   split at e
   · rename_i fd e2
     obtain ⟨h4,e⟩:=onB_ok e
     cases e
     unfold fnOk at h4
     cases h1:fd.scope.isCoroutine with
     | true => rw [h1] at h4; cases h4
     | false =>
       rw [h1] at h4
       dsimp only at h4
       cases h2:fd.scope.isGenerator with
       | true => rw [h2] at h4; cases h4
       | false =>
         rw [h2] at h4
         exact ⟨_,_,_,_,rfl,e1,e2,h1,h2,Nat.le_of_ble_eq_true h4,rfl⟩
   · cases e
 · cases e
variable (prog w A R B g d os K rs ks) in
noncomputable def Cl (n:Nat):Prop:=∀ (r:List (Oq (Rul prog w A R B g d os))) (x:Sx) (m:Nat) (α₀:Nat→Xd),
   (∀ α:Nat→Xd,(∀ j,j < m→α j=α₀ j)→EndR prog w A R B g d os (exr ⟨prog,w.params⟩ K rs ks α n r x.l x.c x.t x.i x.cs m x.E x.E' x.P x.F))→Sd prog w A R B g d os x
theorem Cl.new {n:Nat}(ih:Cl prog w A R B g d os K rs ks n){r:List (Oq (Rul prog w A R B g d os))}{x0:Sx}{y:Xd→Sx}{m:Nat}{α₀:Nat→Xd}
   (x:∀ α:Nat→Xd,(∀ j,j < m→α j=α₀ j)→EndR prog w A R B g d os (exr ⟨prog,w.params⟩ K rs ks α n r (y (α m)).l (y (α m)).c (y (α m)).t (y (α m)).i (y (α m)).cs (m + 1) (y (α m)).E (y (α m)).E' (y (α m)).P (y (α m)).F))
   (f:(∀ u,Sd prog w A R B g d os (y u))→Sd prog w A R B g d os x0):Sd prog w A R B g d os x0 :=
 f fun u => ih r (y u) (m + 1) (setAt m u α₀) fun α hα => by
   have e:=hα m (Nat.lt_succ_self m)
   rw [setAt_at] at e
   have:=x α fun j hj=>(hα j (Nat.lt_succ_of_lt hj)).trans (setAt_lo hj)
   rw [e] at this
   exact this
theorem Cl.none {m:Nat}{α₀:Nat→Xd}{C:Prop}(x:∀ α:Nat→Xd,(∀ j,j < m→α j=α₀ j)→EndR prog w A R B g d os .no):C:=(x α₀ fun _ _=>rfl).elim
theorem exr_ok (KX:Kin K B) (RX:Rin rs B) (hk:KsOk ks):∀ n,Cl prog w A R B g d os K rs ks n:=by
 intro n
 induction n with
 | zero => exact fun r x m α₀ y => Sd.stop hk (y α₀ fun _ _ => rfl)
 | succ n ih =>
   rintro r ⟨l,c,t,i,cs,E,E',P,F⟩ m α₀ x
   dsimp only at x
   have st:(∀ α:Nat→Xd,(∀ j,j < m→α j=α₀ j)→EndR prog w A R B g d os (selL ks cs fun cs=>.mk l c t i cs E E' P F))→Sd prog w A R B g d os ⟨l,c,t,i,cs,E,E',P,F⟩:=fun y=>Sd.stop hk (y α₀ fun _ _=>rfl)
   cases t with
   | rule tag k => exact (ih r ⟨l, c, k (), i, cs, E, E', P, F⟩ m α₀ x).to id rfl fun _ h H z hF => go_skim (t := .rule tag k) 1 (z hF h H)
   | «at» q k => exact (ih r ⟨l, c, k (), i, cs, E, E', P, F⟩ m α₀ x).to id rfl fun _ h H z hF => go_skim (t := .at q k) 1 (z hF h H)
   | point q k => exact (ih r ⟨l, c, k (), i, cs, E, E', P, F⟩ m α₀ x).to id rfl fun _ h H z hF => go_skim (t := .point q k) 1 (z hF h H)
   | ask k => exact (ih r ⟨l, c, k _, i, cs, E, E', P, F⟩ m α₀ x).to id rfl fun _ h H z hF => go_skim (t := .ask k) 1 (z hF h H)
   | fresh k => exact (ih r ⟨l, c, k i, i + 1, cs, E, E', P, F⟩ m α₀ x).to id rfl fun _ h H z hF => go_fresh (z hF h H)
   | pure fin =>
     cases fin with
     | done f =>
       cases l with
       | nil =>
         cases f with
         | ret v =>
           have y:EndR prog w A R B g d os (forceV v fun v=>selL ks cs fun cs=>.ret (.ok (.ret v)) i cs E E' P F):=x α₀ fun _ _=>rfl
           rw [forceV_eq] at y
           exact Sd.fin hk y fun _ y=>⟨y.1.1,y.1.2,fun hF h H=>go_ret (y.2 hF h H)⟩
         | _ => exact Sd.fin hk (x α₀ fun _ _ => rfl) fun _ y => ⟨y.1.1, y.1.2, fun hF h H => go_ret (y.2 hF h H)⟩
       | cons q l => exact (ih r ⟨l, q.code, q.k (.ok f), i, cs, E, E', P, F⟩ m α₀ x).to id rfl fun _ h H z hF => go_done (z hF h H)
     | again c' =>
       have x' : ∀ α : Nat → Xd, (∀ j, j < m → α j = α₀ j) → EndR prog w A R B g d os (onB (quietB c') (match isBi c' with
         | false => exr ⟨prog, w.params⟩ K rs ks α n r l c' (denZ c') i cs m E E' P F
         | true => match onO (hd1 r) false (fun p => isQ p.1) with
           | true => exr ⟨prog, w.params⟩ K rs ks α n r.tail l c' (denZ c') i cs m E E' P F
           | false => match (generalizing := false) l with
             | [] => selL ks cs fun cs => .ag c' i cs E E' P F
             | l => selL ks cs fun cs => .mk l c (.pure (.again c')) i cs E E' P F) .no) := x
       clear x
       cases hq:quietB c' with
       | false => rw [hq] at x'; exact Cl.none x'
       | true =>
         rw [hq] at x'
         have go : ∀ {r : List (Oq (Rul prog w A R B g d os))}, (∀ α : Nat → Xd, (∀ j, j < m → α j = α₀ j) → EndR prog w A R B g d os (exr ⟨prog, w.params⟩ K rs ks α n r l c' (denZ c') i cs m E E' P F)) → Sd prog w A R B g d os ⟨l, c, .pure (.again c'), i, cs, E, E', P, F⟩ :=
           fun {r} y=>(ih r ⟨l,c',denZ c',i,cs,E,E',P,F⟩ m α₀ y).to id rfl fun _ h H z hF=>go_againGo (quietB_ok hq) (z hF h H)
         dsimp only [onB] at x'
         cases hb:isBi c' with
         | false => rw [hb] at x'; exact go x'
         | true =>
           rw [hb] at x'
           dsimp only at x'
           cases hr:onO (hd1 r) false (fun p=>isQ p.1) with
           | true => rw [hr] at x'; exact go x'
           | false =>
             rw [hr] at x'
             cases l with
             | cons q l => exact st x'
             | nil => exact Sd.fin hk (x' α₀ fun _ _ => rfl) fun _ y => ⟨y.1.1, y.1.2, fun hF h H => go_again (quietB_ok hq) (y.2 hF h H)⟩
   | raise e =>
     cases l with
     | nil => exact Sd.fin hk (x α₀ fun _ _ => rfl) fun _ y => ⟨y.1.1, y.1.2, fun hF h H => go_err (y.2 hF h H)⟩
     | cons q l => exact (ih r ⟨l, q.code, q.k (.error e), i, cs, E, E', P, F⟩ m α₀ x).to id rfl fun _ h H z hF => go_fail (z hF h H)
   | load a q k =>
     cases r with
     | nil => exact st x
     | cons o r =>
       have x':∀ α:Nat→Xd,(∀ j,j < m→α j=α₀ j)→EndR prog w A R B g d os (onO (look K rs cs a o) (selL ks cs fun cs=>.mk l c (.load a q k) i cs E E' P F) fun | (ob,es)=>exr ⟨prog,w.params⟩ K rs ks α n r l c (k ob) i cs m (addL es E) (addR es E') P F):=x
       cases e:look K rs cs a o with
       | none => rw [e] at x'; exact st x'
       | some y =>
         rw [e] at x'
         exact (ih r ⟨l,c,k y.1,i,cs,addL y.2 E,addR y.2 E',P,F⟩ m α₀ x').to (fun e=>(add_ok e).2) rfl fun he h H z hF=>go_load (look_ok KX RX e H (add_ok he).1) (z hF h H)
   | loadIfAlive a k =>
     cases r with
     | nil => exact st x
     | cons o r =>
       have x':∀ α:Nat→Xd,(∀ j,j < m→α j=α₀ j)→EndR prog w A R B g d os (onO (look K rs cs a o) (selL ks cs fun cs=>.mk l c (.loadIfAlive a k) i cs E E' P F) fun | (ob,es)=>exr ⟨prog,w.params⟩ K rs ks α n r l c (k (some ob)) i cs m (addL es E) (addR es E') P F):=x
       cases e:look K rs cs a o with
       | none => rw [e] at x'; exact st x'
       | some y =>
         rw [e] at x'
         exact (ih r ⟨l,c,k (some y.1),i,cs,addL y.2 E,addR y.2 E',P,F⟩ m α₀ x').to (fun e=>(add_ok e).2) rfl fun he h H z hF=>go_alive (look_ok KX RX e H (add_ok he).1) (z hF h H)
   | update a q f k =>
     cases r with
     | nil => exact st x
     | cons o r =>
       have x' : ∀ α : Nat → Xd, (∀ j, j < m → α j = α₀ j) → EndR prog w A R B g d os (onO (updM o) (selL ks cs fun cs => .mk l c (.update a q f k) i cs E E' P F) fun
         | (md, p) => onO (pick p cs) .no fun
           | (a', ob) => forceM md (f ob) fun o' =>
             onB o'.isFreed .no (exr ⟨prog,w.params⟩ K rs ks α n r l c (k ()) i (putAt p cs o') m (.a a' :: E) (.a a :: E') P F)):=x
       cases e1:updM o with
       | none => rw [e1] at x'; exact st x'
       | some u =>
         rw [e1] at x'
         dsimp only [onO] at x'
         cases e2:pick u.2 cs with
         | none => rw [e2] at x'; exact Cl.none x'
         | some y =>
           rw [e2] at x'
           dsimp only at x'
           have x2 : ∀ α : Nat → Xd, (∀ j, j < m → α j = α₀ j) → EndR prog w A R B g d os (onB (f y.2).isFreed .no (exr ⟨prog, w.params⟩ K rs ks α n r l c (k ()) i (putAt u.2 cs (f y.2)) m (.a y.1 :: E) (.a a :: E') P F)) := fun α hα => by
             have z:=x' α hα
             rw [forceM_eq] at z
             exact z
           clear x' x
           cases e3:(f y.2).isFreed with
           | true => rw [e3] at x2; exact Cl.none x2
           | false =>
             rw [e3] at x2
             refine (ih r ⟨l,c,k (),i,putAt u.2 cs (f y.2),.a y.1 :: E,.a a :: E',P,F⟩ m α₀ x2).to (fun e=>(List.cons.inj e).2) rfl fun he h H z hF=>?_
             obtain rfl:=Qx.a.inj (List.cons.inj he).1
             exact go_put (e2:pick u.2 cs=some (y.1,y.2)) H e3 (z hF)
   | alloc o k =>
     cases r with
     | nil => exact st x
     | cons q r =>
       have x' : ∀ α : Nat → Xd, (∀ j, j < m → α j = α₀ j) → EndR prog w A R B g d os (onO (allM q) (selL ks cs fun cs => .mk l c (.alloc o k) i cs E E' P F) fun
         | (md, j) => onB (Nat.beq j m) (forceB md o fun o' =>
           onB o'.isFreed .no (exr ⟨prog,w.params⟩ K rs ks α n r l c (k (α j).n) i (((α j).n,o') :: cs) (j + 1) E E' P F)) .no):=x
       cases e1:allM q with
       | none => rw [e1] at x'; exact st x'
       | some u =>
         rw [e1] at x'
         dsimp only [onO] at x'
         cases e2:Nat.beq u.2 m with
         | false => rw [e2] at x'; exact Cl.none x'
         | true =>
           have x2 : ∀ α : Nat → Xd, (∀ j, j < m → α j = α₀ j) → EndR prog w A R B g d os (onB o.isFreed .no (exr ⟨prog, w.params⟩ K rs ks α n r l c (k (α m).n) i (((α m).n, o) :: cs) (m + 1) E E' P F)) := fun α hα => by
             have z:=x' α hα
             rw [e2,Nat.eq_of_beq_eq_true e2] at z
             dsimp only [onB] at z
             rw [forceB_eq] at z
             exact z
           clear x' x
           cases e3:o.isFreed with
           | true => rw [e3] at x2; exact Cl.none x2
           | false =>
             rw [e3] at x2
             exact ih.new (y:=fun u=>⟨l,c,k u.n,i,(u.n,o) :: cs,E,E',P,F⟩) x2 fun y=>⟨(y xd0).e,(y xd0).p,fun hF h H=>go_alloc H e3 fun a h' H'=>(y (xd a 0)).f hF h' H'⟩
   | handled ow k =>
     cases ow with
     | false => exact (ih r ⟨l, c, k _, i, cs, E, E', P, F⟩ m α₀ x).to id rfl fun _ h H z hF => go_handled (z hF h H)
     | true => exact st x
   | stack k =>
     cases r with
     | nil => exact st x
     | cons q r =>
       cases q with
       | t j =>
         have x':∀ α:Nat→Xd,(∀ j,j < m→α j=α₀ j)→EndR prog w A R B g d os (onB (Nat.beq j m) (exr ⟨prog,w.params⟩ K rs ks α n r l c (k ((c,(α j).p) :: (α j).q)) i cs (j + 1) E E' P F) .no):=x
         cases e:Nat.beq j m with
         | false => rw [e] at x'; exact Cl.none x'
         | true =>
           obtain rfl:=Nat.eq_of_beq_eq_true e
           rw [e] at x'
           exact ih.new (y:=fun u=>⟨l,c,k ((c,u.p) :: u.q),i,cs,E,E',P,F⟩) x' fun y=>⟨(y xd0).e,(y xd0).p,fun hF h H=>go_stack fun p below _=>(y { xd0 with p:=p,q:=below }).f hF h H⟩
       | _ => exact st x
   | call c' hd gg lv k =>
     cases r with
     | nil => exact st x
     | cons o r =>
       have x' : ∀ α : Nat → Xd, (∀ j, j < m → α j = α₀ j) → EndR prog w A R B g d os (onO (callM K (ar A (⟨c, hd, k⟩ :: l)).depth α m hd c' o) .no fun
         | .e t => exr ⟨prog, w.params⟩ K rs ks α n r (⟨c, hd, k⟩ :: l) c' t i cs m E E' P F
         | .v j Q => match Q.eff l c c' cs with
           | some ⟨es, P', fc, post⟩ => match post (α j) with
             | (res, cs', i') => exr ⟨prog, w.params⟩ K rs ks α n r l c (k res) i' cs' (j + 1) (addL es E) (addR es E') ((F → P') ∧ P) (fac fc (α j) F)
           | none => .no) := x
       clear x
       cases o with
       | e =>
         cases e:hdOk hd with
         | false => exact Cl.none (m := m) (α₀ := α₀) fun α hα => by have z := x' α hα; unfold callM at z; rw [e] at z; exact z
         | true => exact (ih r ⟨⟨c, hd, k⟩ :: l, c', denZ c', i, cs, E, E', P, F⟩ m α₀ fun α hα => by have z := x' α hα; unfold callM at z; rw [e] at z; exact z).to id rfl fun _ h H z hF => go_callGo (hdOk_ne e) (z hF h H)
       | n =>
         cases e:hdOk hd with
         | false => exact Cl.none (m := m) (α₀ := α₀) fun α hα => by have z := x' α hα; unfold callM at z; rw [e] at z; exact z
         | true =>
           cases e2:fnT K (ar A (⟨c,hd,k⟩ :: l)).depth c' with
           | none => exact Cl.none (m := m) (α₀ := α₀) fun α hα => by have z := x' α hα; unfold callM at z; rw [e] at z; dsimp only [onB] at z; rw [e2] at z; exact z
           | some t =>
             have y:=ih r ⟨⟨c,hd,k⟩ :: l,c',t,i,cs,E,E',P,F⟩ m α₀ fun α hα=>by have z:=x' α hα;unfold callM at z;rw [e] at z;dsimp only [onB] at z;rw [e2] at z;exact z
             obtain ⟨a,args,o,fd,rfl,h1,h2,h3,h4,h5,rfl⟩:=fnT_ok e2
             exact y.to id rfl fun _ h H z hF=>go_callFn (hdOk_ne e) (H.keep _ _ (KX _ _ h1)) h2 h3 h4 h5 (z hF h H)
       | v j Q =>
         cases hd with
         | some v => exact Cl.none x'
         | none =>
           cases e:Nat.beq j m with
           | false => exact Cl.none (m := m) (α₀ := α₀) fun α hα => by have z := x' α hα; dsimp only [callM, onO] at z; rw [e] at z; exact z
           | true =>
             have x2 : ∀ α : Nat → Xd, (∀ j, j < m → α j = α₀ j) → EndR prog w A R B g d os (match (Q (cut m α₀)).eff l c c' cs with
                 | some ⟨es, P', fc, post⟩ => match post (α m) with
                   | (res, cs', i') => exr ⟨prog, w.params⟩ K rs ks α n r l c (k res) i' cs' (m + 1) (addL es E) (addR es E') ((F → P') ∧ P) (fac fc (α m) F)
                 | none => .no) := fun α hα => by
               have z:=x' α hα
               dsimp only [callM,onO,onB] at z
               rw [e,cut_eq hα,Nat.eq_of_beq_eq_true e] at z
               exact z
             clear x'
             cases e2:(Q (cut m α₀)).eff l c c' cs with
             | none => rw [e2] at x2; exact Cl.none x2
             | some rp =>
               rw [e2] at x2
               exact ih.new (y := fun u => ⟨l, c, k (rp.post u).1, (rp.post u).2.2, (rp.post u).2.1, addL rp.es E, addR rp.es E', (F → rp.P) ∧ P, fac rp.fact u F⟩) x2 fun y =>
                 ⟨(add_ok (y xd0).e).2,(y xd0).p.2,fun hF h H=>((Q (cut m α₀)).ok _ _ _ _ _ e2 (add_ok (y xd0).e).1 ((y xd0).p.1 hF)).ok gg lv k h i H fun u h' hf H'=>(y u).f (fac_of hf hF) h' H'⟩
       | _ => exact Cl.none x'
   | _ => exact st x
theorem run_sd {h:Heap}{l:List Kt}{c:Code}{t:Sem Fin}{i:Nat}{cs:List (Addr×Obj)}(KX:Kin K B) (RX:Rin rs B) (H:Hp B h cs) (n:Nat) (ks:Ks) (hk:ksB ks=true) (r:List (Oq (Rul prog w A R B g d os))){F:(Nat→Xd)→Ev}
   (e:∀ α,exr ⟨prog,w.params⟩ K rs ks α n r l c t i cs 0 [] [] True True=F α) (x:∀ α,EndR prog w A R B g d os (F α)):Go prog w A R l c t ⟨h,g,d,i,os⟩ :=
 (exr_ok KX RX (ksB_ok hk) n r ⟨l,c,t,i,cs,[],[],True,True⟩ 0 (fun _=>xd0) fun α _=>by dsimp only;rw [e α];exact x α).f trivial h H
noncomputable def eqL:Ev→List Qx
 | .mk _ _ _ _ _ E _ _ _ => E
 | .ret _ _ _ E _ _ _ => E
 | .ag _ _ _ E _ _ _ => E
 | .no => []
noncomputable def eqR:Ev→List Qx
 | .mk _ _ _ _ _ _ E _ _ => E
 | .ret _ _ _ _ E _ _ => E
 | .ag _ _ _ _ E _ _ => E
 | .no => []
inductive Sg where
 | ag (P F : Prop) (c : Code) (cs : List (Addr × Obj))
 | ret (P F : Prop) (r : Result) (cs : List (Addr × Obj))
 | mk
noncomputable def sg:Ev→Sg
 | .ag c _ cs _ _ P F => .ag P F c cs
 | .ret r _ cs _ _ P F => .ret P F r cs
 | _ => .mk
variable {v v':Ev}{P F:Prop}{c:Code}{r:Result}{cs:List (Addr×Obj)}
theorem end_A (e0:eqL v=eqR v) (e:sg v=.ag P F c cs) (p:P) (x:∀ h i,F→Hp B h cs→codeAny (model prog w) A c R ⟨h,g,d,i,os⟩):EndR prog w A R B g d os v:=by
 cases v with
 | ag c0 i cs0 E E' P0 F0 => cases e; exact ⟨⟨e0, p⟩, fun hF h H => x h i hF H⟩
 | _ => cases e
theorem end_R (e0:eqL v=eqR v) (e:sg v=.ret P F r cs) (p:P) (x:∀ h i,F→Hp B h cs→R r ⟨h,g,d,i,os⟩):EndR prog w A R B g d os v:=by
 cases v with
 | ret c0 i cs0 E E' P0 F0 => cases e; exact ⟨⟨e0, p⟩, fun hF h H => x h i hF H⟩
 | _ => cases e
variable (prog w A R B g d os) in
structure EndB (v v' : Ev) : Prop where
 t:EndR prog w A R B g d os v
 f:EndR prog w A R B g d os v'
theorem end_A2 (e0:eqL v=eqR v) (e0':eqL v'=eqR v') (e:sg v=.ag P F c cs) (e':sg v'=.ag P F c cs) (p:P) (x:∀ h i,F→Hp B h cs→codeAny (model prog w) A c R ⟨h,g,d,i,os⟩):EndB prog w A R B g d os v v':=⟨end_A e0 e p x,end_A e0' e' p x⟩
theorem end_R2 (e0:eqL v=eqR v) (e0':eqL v'=eqR v') (e:sg v=.ret P F r cs) (e':sg v'=.ret P F r cs) (p:P) (x:∀ h i,F→Hp B h cs→R r ⟨h,g,d,i,os⟩):EndB prog w A R B g d os v v':=⟨end_R e0 e p x,end_R e0' e' p x⟩
theorem run_T {h:Heap}{l:List Kt}{c:Code}{t:Sem Fin}{i:Nat}{cs:List (Addr×Obj)}(KX:Kin K B) (RX:Rin rs B) (H:Hp B h cs) (n:Nat) (ks:Ks) (hk:ksB ks=true) (r:List (Oq (Rul prog w A R B g d os)))
   (x:∀ α,EndR prog w A R B g d os (exr ⟨prog,w.params⟩ K rs ks α n r l c t i cs 0 [] [] True True)):Go prog w A R l c t ⟨h,g,d,i,os⟩:=run_sd KX RX H n ks hk r (fun _=>rfl) x
theorem run_T2 {b:Bool}{h:Heap}{l:List Kt}{c:Code}{t:Sem Fin}{i:Nat}{cs:List (Addr×Obj)}(KX:Kin K B) (RX:Rin rs B) (H:Hp B h cs) (n:Nat) (ks:Ks) (hk:ksB ks=true) (r:List (Oq (Rul prog (wv b w) A R B g d os)))
   (x:∀ α,EndB prog (wv b w) A R B g d os (exr ⟨prog,(wv true w).params⟩ K rs ks α n r l c t i cs 0 [] [] True True) (exr ⟨prog,(wv false w).params⟩ K rs ks α n r l c t i cs 0 [] [] True True)):Go prog (wv b w) A R l c t ⟨h,g,d,i,os⟩:=by
 cases b
 · exact run_T KX RX H n ks hk r fun α=>(x α).f
 · exact run_T KX RX H n ks hk r fun α=>(x α).t
end
set_option genSizeOf false
set_option genInjectivity false
noncomputable def isB (b:Bool):Option Unit:=match b with
 | true => some ()
 | false => none
theorem isB_ok {b:Bool}{u:Unit}(h:isB b=some u):b=true:=by
 cases b
 · cases h
 · rfl
inductive Lc where
 | c (p : Nat)
 | r (p : Nat)
noncomputable def lk (rs cs:List (Addr×Obj)):Lc→Option (Addr×Obj)
 | .c p => pick p cs
 | .r p => pick p rs
theorem lk_ok {B:Addr→Option Obj}{rs cs:List (Addr×Obj)}(RX:Rin rs B){x:Lc}{a:Addr}{o:Obj}(e:lk rs cs x=some (a,o)){h:Heap}(H:Hp B h cs):h.get? a=some o:=by
 cases x with
 | c p => exact own_pick e H
 | r p => exact rin_pick RX e H
theorem cell_of:∀ {cs:List (Addr×Obj)}{p:Nat}{a:Addr}{o:Obj},pick p cs=some (a,o)→Cell cs a o (putAt p cs):=by
 intro cs
 induction cs with
 | nil => intro p a o h; cases p <;> exact absurd h (by simp [pick])
 | cons y r ih =>
   intro p a o h
   cases p with
   | zero =>
     obtain rfl:y=(a,o):=Option.some.inj h
     exact Cell.head
   | succ n => exact Cell.tail (ih (p := n) h)
noncomputable def lkA (rs cs:List (Addr×Obj)):List Lc→Option (List (Addr×Obj))
 | [] => some []
 | l :: ls => (lk rs cs l).bind fun x => (lkA rs cs ls).bind fun xs => some (x :: xs)
theorem lkA_cons {rs cs:List (Addr×Obj)}{l:Lc}{ls:List Lc}{x:Addr×Obj}{xs:List (Addr×Obj)}(h:lkA rs cs (l :: ls)=some (x :: xs)):lk rs cs l=some x∧lkA rs cs ls=some xs:=by
 obtain ⟨y,h1,h⟩:=bo h
 obtain ⟨ys,h2,h⟩:=bo h
 cases h
 exact ⟨h1,h2⟩
noncomputable def anyS:List Kt→Code→Option Unit:=fun _ _=>some ()
noncomputable def noH (A:Around) (l:List Kt) (c:Code):Option Unit:=match ((ar A l).under c).handled with
 | none => some ()
 | some _ => none
theorem noH_ok {A:Around}{l:List Kt}{c:Code}{u:Unit}(h:noH A l c=some u):((ar A l).under c).handled=none:=by
 unfold noH at h
 cases hq:((ar A l).under c).handled with
 | none => rfl
 | some v => rw [hq] at h; cases h
noncomputable def gRef {β:Type}(v:Value) (k:Addr→Option β):Option β:=match v with
 | .ref a => k a
 | _ => none
noncomputable def gTok {β:Type}(v:Value) (k:Tok→Option β):Option β:=match v with
 | .str _ t => k t
 | .int _ t => k t
 | _ => none
noncomputable def gStr {β:Type}(v:Value) (k:Str→Tok→Option β):Option β:=match v with
 | .str s t => k s t
 | _ => none
noncomputable def gInt {β:Type}(v:Value) (k:Int→Tok→Option β):Option β:=match v with
 | .int n t => k n t
 | _ => none
noncomputable def gNat {β:Type}(v:Value) (k:Nat→Option β):Option β:=match v with
 | .int (.ofNat n) _ => k n
 | _ => none
noncomputable def gPart {β:Type}(v:Value) (k:Option (Int×Tok)→Option β):Option β:=match v with
 | .int i t => k (some (i, t))
 | _ => k none
noncomputable def gHd {α β:Type}(l:List α) (k:α→List α→Option β):Option β:=match l with
 | x :: r => k x r
 | [] => none
noncomputable def gSeq {β:Type}(o:Obj) (k:List Value→Nat→Option β):Option β:=match o with
 | ⟨_, _, .seq ⟨vs⟩ n, _⟩ => k vs n
 | _ => none
noncomputable def gDic {β:Type}(o:Obj) (k:Array DictEntry→Nat→Option β):Option β:=match o with
 | ⟨_, _, .dict es n, _⟩ => k es n
 | _ => none
noncomputable def gFld {β:Type}(o:Obj) (k:List Value→Option β):Option β:=match o with
 | ⟨_, _, .fields ⟨vs⟩, _⟩ => k vs
 | _ => none
noncomputable abbrev Us:=List (Addr×Obj)
noncomputable def s1 (as:List Value) (us:Us) (_:Us):Option (Addr×List Value×Nat):=gHd as fun v _=>gRef v fun q=>gHd us fun c _=>gSeq c.2 fun vs n=>some (q,vs,n)
noncomputable def s2 (as:List Value) (us:Us) (_:Us):Option (Addr×Value×List Value×Nat):=gHd as fun v r=>gRef v fun q=>gHd r fun x _=>forceV x fun x=>gHd us fun c _=>gSeq c.2 fun vs n=>some (q,x,vs,n)
noncomputable def s2t (as:List Value) (us:Us) (_:Us):Option (Addr×Tok×List Value×Nat):=gHd as fun v r=>gRef v fun q=>gHd r fun x _=>gTok x fun t=>gHd us fun c _=>gSeq c.2 fun vs n=>some (q,t,vs,n)
noncomputable def s2n (as:List Value) (us:Us) (_:Us):Option (Addr×Nat×Tok×List Value×Nat):=gHd as fun v r=>gRef v fun q=>gHd r fun x _=>gNat x fun j=>gTok x fun t=>gHd us fun c _=>gSeq c.2 fun vs n=>some (q,j,t,vs,n)
noncomputable def s3 (as:List Value) (us:Us) (_:Us):Option (Addr×Addr×List Value×Nat×List Value×Nat):=gHd as fun v r=>gRef v fun q=>gHd r fun v2 _=>gRef v2 fun q2=>gHd us fun c r=>gSeq c.2 fun vs n=>gHd r fun c _=>gSeq c.2 fun vs2 n2=>some (q,q2,vs,n,vs2,n2)
noncomputable def gSli {β:Type}(o:Obj) (k:Option (Int×Tok)→Option (Int×Tok)→Option β):Option β:=gFld o fun fs=>gHd fs fun a r=>gPart a fun lo=>gHd r fun b _=>gPart b fun hi=>k lo hi
noncomputable def s5 (as:List Value) (us:Us) (_:Us):Option (Addr×Addr×Nat×List Value×Nat):=gHd as fun v _=>gRef v fun it=>gHd us fun c r=>gFld c.2 fun fs=>gHd fs fun f r2=>gRef f fun q=>gHd r2 fun f2 _=>gNat f2 fun j=>gHd r fun c2 _=>gSeq c2.2 fun vs n=>some (it,q,j,vs,n)
noncomputable def sSS (as:List Value) (_:Us) (_:Us):Option (Str×Tok×Str×Tok):=gHd as fun v r=>gStr v fun x t=>gHd r fun u _=>gStr u fun y t2=>some (x,t,y,t2)
inductive Kd where
 | b
 | t
 | p
noncomputable abbrev cdK (k:Kd) (id:String) (vs:List Value):Code:=match k with
 | .b => .call (.builtin id) ⟨vs, []⟩
 | .t => .call (.type id) ⟨vs, []⟩
 | .p => .builtin id ⟨vs, []⟩
noncomputable def hdK:Code→Option (String×List Value)
 | .call (.builtin id) ⟨vs, _⟩ => some (id, vs)
 | .call (.type id) ⟨vs, _⟩ => some (id, vs)
 | .builtin id ⟨vs, _⟩ => some (id, vs)
 | _ => none
structure Rq where
 args:List Value
 us:Us
 P:Prop
 fact:Option (Xd→Prop)
 post:Xd→Result×Us×Nat
section
variable {prog:Program}{w:World}{A:Around}{R:Result→Shared→Prop}{B:Addr→Option Obj}{g:Array GenState}{d:Drawn}{os:OsState}
variable (prog w A R B g d os) in
noncomputable abbrev OkF {σ:Type}(kd:Kd) (n:Nat) (side:List Kt→Code→Option Unit) (rs:Us) (ls:List Lc) (fin:σ→Us→Rq):Prop :=
 ∀ s id l c cs u,Nat.beq (PySem.W.S.codeS id) n=true→side l c=some u→lkA rs cs ls=some (fin s cs).us→(fin s cs).P→CallR prog w A R B g d os l c (cdK kd id (fin s cs).args) cs (fin s cs).fact (fin s cs).post
noncomputable def rF {σ:Type}(kd:Kd) (n:Nat) (side:List Kt→Code→Option Unit) (rs:Us) (ls:List Lc) (sel:List Value→Us→Us→Option σ) (fin:σ→Us→Rq) (ok:OkF prog w A R B g d os kd n side rs ls fin):Rul prog w A R B g d os where
 eff l c c' cs := (hdK c').bind fun x => (isB (Nat.beq (PySem.W.S.codeS x.1) n)).bind fun _ => (side l c).bind fun _ => (lkA rs cs ls).bind fun us => (sel x.2 us cs).bind fun s => match fin s cs with
   | ⟨args, us', P, fact, post⟩ => some ⟨[(.C c', .C (cdK kd x.1 args)), (.L us, .L us')], P, fact, post⟩
 ok l c c' cs rp h he hp:=by
   obtain ⟨x,_,h⟩:=bo h
   obtain ⟨_,h1,h⟩:=bo h
   obtain ⟨_,h2,h⟩:=bo h
   obtain ⟨us,h3,h⟩:=bo h
   obtain ⟨s,_,h⟩:=bo h
   obtain rfl:=Option.some.inj (show some (Rp.mk [(.C c',.C (cdK kd x.1 (fin s cs).args)),(.L us,.L (fin s cs).us)] (fin s cs).P (fin s cs).fact (fin s cs).post)=some rp from h)
   rw [show c'=_ from Qx.C.inj (he _ (.head _))]
   exact ok s _ l c cs _ (isB_ok h1) h2 (h3.trans (congrArg some (Qx.L.inj (he _ (.tail _ (.head _)))))) hp
noncomputable def rFC {σ:Type}(side:List Kt→Code→Option Unit) (rs:Us) (ls:List Lc) (sel:Code→Us→Option σ) (code:σ→Code) (fin:σ→Us→Rq)
   (ok:∀ s l c cs u,side l c=some u→lkA rs cs ls=some (fin s cs).us→(fin s cs).P→CallR prog w A R B g d os l c (code s) cs (fin s cs).fact (fin s cs).post):Rul prog w A R B g d os where
 eff l c c' cs := (side l c).bind fun _ => (lkA rs cs ls).bind fun us => (sel c' us).bind fun s => match fin s cs with
   | ⟨_, us', P, fact, post⟩ => some ⟨[(.C c', .C (code s)), (.L us, .L us')], P, fact, post⟩
 ok l c c' cs rp h he hp:=by
   obtain ⟨_,h2,h⟩:=bo h
   obtain ⟨us,h3,h⟩:=bo h
   obtain ⟨s,_,h⟩:=bo h
   obtain rfl:=Option.some.inj (show some (Rp.mk [(.C c',.C (code s)),(.L us,.L (fin s cs).us)] (fin s cs).P (fin s cs).fact (fin s cs).post)=some rp from h)
   rw [show c'=_ from Qx.C.inj (he _ (.head _))]
   exact ok s l c cs _ h2 (h3.trans (congrArg some (Qx.L.inj (he _ (.tail _ (.head _)))))) hp
theorem Hp.one0 {h h2:Heap}{cs:Us}{e:Addr}{o:Obj}(H:Hp B h cs) (hk:Keeps h h2) (hn:h.get? e=none) (he:h2.get? e=some o):Hp B h2 ((e,o) :: cs) :=
 H.new (new:=[(e,o)]) ⟨hk,fun p hp=>by obtain rfl:=List.mem_singleton.mp hp;exact he,fun p hp=>by obtain rfl:=List.mem_singleton.mp hp;exact hn,by simp⟩
end
section
variable {prog:Program}{w:World}{A:Around}{R:Result→Shared→Prop}{B:Addr→Option Obj}{g:Array GenState}{d:Drawn}{os:OsState}{rs:List (Addr×Obj)}
noncomputable def rSS (n:Nat) (P:Str→Str→Prop) (post:Us→Xd→Result×Us×Nat)
   (ok:∀ l c id x y t1 t2 cs,Nat.beq (PySem.W.S.codeS id) n=true→P x y→CallR prog w A R B g d os l c (.call (.builtin id) ⟨[.str x t1,.str y t2],[]⟩) cs none (post cs)):Rul prog w A R B g d os :=
 rF .b n anyS [] [] sSS (fun s cs=>match s with | (x,t,y,t2)=>⟨[.str x t,.str y t2],[],P x y,none,post cs⟩) fun s id l c cs _ hid _ _ hp=>ok l c id s.1 s.2.2.1 s.2.1 s.2.2.2 cs hid hp
noncomputable def rRfind (n:Int):Rul prog w A R B g d os:=rSS 1871149494474821039476 (fun x y=>Txt.rfind x y=n) (fun cs u=>(.ok (.ret (.int n u.n)),cs,u.n2))
 fun _ _ _ _ _ _ _ _ hid e=>⟨fun _ _ _ _ i H z=>ct_rfind hid e rfl rfl (z (xd i (i + 1)) _ trivial H)⟩
noncomputable def rRstrip (n:Str):Rul prog w A R B g d os:=rSS 535591087120007824635252 (fun x y=>Txt.rstripChars x y=n∧x.length≤sizeLine) (fun cs u=>(.ok (.ret (.str n u.n)),cs,u.n2))
 fun _ _ _ _ _ _ _ _ hid e=>⟨fun _ _ _ _ _ H z=>ct_rstrip hid e.1 rfl rfl e.2 fun t1 t2=>z (xd t1 t2) _ trivial H⟩
noncomputable def rNe (n:Bool):Rul prog w A R B g d os:=rSS 455125451010842570225012 (fun x y=>(x.cps.toList != y.cps.toList)=n) (fun cs u=>(.ok (.ret (.bool n)),cs,u.n))
 fun _ _ _ _ _ _ _ _ hid e=>⟨fun _ _ _ _ i H z=>ct_ne hid e rfl rfl (z (xd i 0) _ trivial H)⟩
noncomputable def rEq (n:Bool):Rul prog w A R B g d os:=rSS 455126313168696234964340 (fun x y=>(x.cps.toList == y.cps.toList)=n) (fun cs u=>(.ok (.ret (.bool n)),cs,u.n))
 fun _ _ _ _ _ _ _ _ hid e=>⟨fun _ _ _ _ i H z=>ct_eq hid e rfl rfl (z (xd i 0) _ trivial H)⟩
noncomputable def rLt (n:Bool):Rul prog w A R B g d os:=rSS 455126531311803185722740 (fun x y=>decide (x.cps.toList < y.cps.toList)=n) (fun cs u=>(.ok (.ret (.bool n)),cs,u.n))
 fun _ _ _ _ _ _ _ _ hid e=>⟨fun _ _ _ _ i H z=>ct_lt hid e rfl rfl (z (xd i 0) _ trivial H)⟩
noncomputable def rGt (n:Bool):Rul prog w A R B g d os:=rSS 455126529904428302169460 (fun x y=>decide (y.cps.toList < x.cps.toList)=n) (fun cs u=>(.ok (.ret (.bool n)),cs,u.n))
 fun _ _ _ _ _ _ _ _ hid e=>⟨fun _ _ _ _ i H z=>ct_gt hid e rfl rfl (z (xd i 0) _ trivial H)⟩
noncomputable def rLen (n:Nat):Rul prog w A R B g d os:=rF .b 7300717 anyS [] [] (fun as _ _=>gHd as fun v _=>gStr v fun x t=>some (x,t)) (fun s cs=>match s with | (x,t)=>⟨[.str x t],[],x.length=n∧Nat.ble n 1000=true,none,fun u=>(.ok (.ret (.int n u.n)),cs,u.n2)⟩)
 fun _ _ _ _ _ _ hid _ _ hp=>⟨fun _ _ _ _ _ H z=>ct_len hid hp.1 rfl hp.2 fun t1 t2=>z (xd t1 t2) _ trivial H⟩
noncomputable def sli (a b:Option (Int×Tok)):Obj:=⟨.type sSlice,none,.fields #[partValue a,partValue b,.none],#[]⟩
noncomputable def rSlice (RX:Rin rs B) (lc:Lc) (n:Str):Rul prog w A R B g d os:=rF .b 500416356548588640944365259017385332 anyS rs [lc] (fun as us _=>gHd as fun v r=>gStr v fun x t=>gHd r fun u _=>gRef u fun a=>gHd us fun c _=>gSli c.2 fun lo hi=>some (x,t,a,lo,hi))
 (fun s cs=>match s with | (x,t,a,lo,hi)=>⟨[.str x t,.ref a],[(a,sli lo hi)],Txt.slice x (lo.map (·.1)) (hi.map (·.1))=n∧x.length≤sizeLine,none,fun u=>(.ok (.ret (.str n u.n)),cs,u.n2)⟩)
 fun _ _ _ _ _ _ hid _ hl hp=>⟨fun _ _ _ _ _ H z=>ct_slice hid (lk_ok RX (lkA_cons hl).1 H) (by rw [sSlice_eq];decide +kernel) hp.1 rfl rfl rfl hp.2 fun t1 t2=>z (xd t1 t2) _ trivial H⟩
noncomputable def rNext (RX:Rin rs B) (p:Nat) (lc:Lc) (x:Value):Rul prog w A R B g d os:=rF .b 36058839055461744822429329989390181918337346850548333 anyS rs [.c p,lc] s5
 (fun s cs=>match s with | (it,q,j,vs,n)=>⟨[.ref it],[(it,itL q j),(q,lst vs n)],vs[j]?=some x,none,fun u=>(.ok (.ret x),putAt p cs (itL q (j + 1)),u.n)⟩)
 fun _ _ _ _ _ _ hid _ hl hp=>⟨fun _ _ _ _ i H y=>ct_next hid H (cell_of (lkA_cons hl).1) (lk_ok RX (lkA_cons (lkA_cons hl).2).1 H) hp fun h' H'=>y (xd i 0) h' trivial H'⟩
noncomputable def rNextEnd (RX:Rin rs B) (p:Nat) (lc:Lc):Rul prog w A R B g d os:=rF .b 36058839055461744822429329989390181918337346850548333 (noH A) rs [.c p,lc] s5
 (fun s cs=>match s with | (it,q,j,vs,n)=>⟨[.ref it],[(it,itL q j),(q,lst vs n)],vs[j]?=none,none,fun u=>(.error (.ref u.n),(u.n,⟨.type sStop,u.d,u.D,u.s⟩) :: putAt p cs (itD j),u.n2)⟩)
 fun _ _ _ _ _ _ hid hn hl hp=>⟨fun _ _ _ _ i H y=>ct_nextEnd hid (noH_ok hn) H (cell_of (lkA_cons hl).1) (lk_ok RX (lkA_cons (lkA_cons hl).2).1 H) hp fun h' e d1 d2 d3 H'=>y { xd e i with d:=d1,s:=d3,D:=d2 } h' trivial H'⟩
noncomputable def rItem (RX:Rin rs B) (lc:Lc) (x:Value):Rul prog w A R B g d os:=rF .b 128106587276438692081757506308484131437 anyS rs [lc] s2n
 (fun s cs=>match s with | (q,j,t,vs,n)=>⟨[.ref q,.int j t],[(q,lst vs n)],vs[j]?=some x∧j≤1000,none,fun u=>(.ok (.ret x),cs,u.n)⟩)
 fun _ _ _ _ _ _ hid _ hl hp=>⟨fun _ _ _ _ i H z=>ct_item hid (lk_ok RX (lkA_cons hl).1 H) hp.1 hp.2 (z (xd i 0) _ trivial H)⟩
noncomputable def rItemOut (RX:Rin rs B) (lc:Lc):Rul prog w A R B g d os:=rF .b 128106587276438692081757506308484131437 (noH A) rs [lc] s2n
 (fun s cs=>match s with | (q,j,t,vs,n)=>⟨[.ref q,.int j t],[(q,lst vs n)],vs[j]?=none∧j≤1000,none,fun u=>(.error (.ref u.n),(u.n,excO sIdx u.v u.d u.s) :: cs,u.n2)⟩)
 fun _ _ _ _ _ _ hid hn hl hp=>⟨fun _ _ _ _ i H y=>ct_itemOut hid (noH_ok hn) H (lk_ok RX (lkA_cons hl).1 H) hp.1 hp.2 fun h' t' e tt dd sl H'=>y { xd e t' with v:=tt,d:=dd,s:=sl } h' trivial H'⟩
noncomputable def rContains (RX:Rin rs B) (lc:Lc) (L:List PT) (p:Pt) (bb:Bool):Rul prog w A R B g d os:=rF .b 32795317678217157189674408721764467370605 anyS rs [lc] s2t
 (fun s cs=>match s with | (q,t,_,n)=>⟨[.ref q,.str (sp p) t],[(q,lst (L.map pv) n)],decide (p∈pts L)=bb,none,fun u=>(.ok (.ret (.bool bb)),cs,u.n)⟩)
 fun _ _ _ _ _ _ hid _ hl hp=>⟨fun _ _ _ _ i H z=>ct_contains hid (lk_ok RX (lkA_cons hl).1 H) rfl hp (z (xd i 0) _ trivial H)⟩
noncomputable def rAppend (p:Nat):Rul prog w A R B g d os:=rF .b 122627580202994350266018413 anyS [] [.c p] s2
 (fun s cs=>match s with | (q,x,vs,n)=>⟨[.ref q,x],[(q,lst vs n)],vs.length≤1000,none,fun u=>(.ok (.ret .none),putAt p cs (lst (vs++[x]) u.n),u.n2)⟩)
 fun _ _ _ _ _ _ hid _ hl hp=>⟨fun _ _ _ _ i H y=>ct_append hid H (cell_of (lkA_cons hl).1) hp fun h' n' H'=>y (xd n' i) h' trivial H'⟩
noncomputable def rExtend (RX:Rin rs B) (p:Nat) (lc:Lc):Rul prog w A R B g d os:=rF .b 122627580493480924277926509 anyS rs [.c p,lc] s3
 (fun s cs=>match s with | (q,q2,vs,n,vs2,n2)=>⟨[.ref q,.ref q2],[(q,lst vs n),(q2,lst vs2 n2)],vs.length≤1000∧vs2.length≤1000,none,fun u=>(.ok (.ret .none),putAt p cs (lst (vs++vs2) u.n),u.n2)⟩)
 fun _ _ _ _ _ _ hid _ hl hp=>⟨fun _ _ _ _ i H y=>ct_extend hid H (cell_of (lkA_cons hl).1) (lk_ok RX (lkA_cons (lkA_cons hl).2).1 H) hp.1 hp.2 fun h' n' H'=>y (xd n' i) h' trivial H'⟩
theorem isPart_pv (x:Option (Int×Tok)):IsPart (partValue x) (x.map (·.1)):=by
 cases x with
 | none => exact .none
 | some p => exact .int _ _
noncomputable def rLslice (RX:Rin rs B) (lc lc2:Lc) (vs':List Value):Rul prog w A R B g d os:=rF .b 128106587276438692081757506308484131437 anyS rs [lc,lc2] (fun as us _=>gHd as fun v r=>gRef v fun q=>gHd r fun v _=>gRef v fun q2=>gHd us fun c r=>gSeq c.2 fun vs n=>gHd r fun c _=>gSli c.2 fun lo hi=>some (q,q2,vs,n,lo,hi))
 (fun s cs=>match s with | (q,q2,vs,n,lo,hi)=>⟨[.ref q,.ref q2],[(q,lst vs n),(q2,sli lo hi)],slicePick vs.toArray (lo.map (·.1)) (hi.map (·.1)) none=vs'.toArray∧vs.length≤1000,none,fun u=>(.ok (.ret (.ref u.n)),(u.n,lst vs' 0) :: cs,u.n2)⟩)
 fun _ _ _ _ _ _ hid _ hl hp=>⟨fun _ _ _ _ i H y=>ct_lslice hid H (lk_ok RX (lkA_cons hl).1 H) (lk_ok RX (lkA_cons (lkA_cons hl).2).1 H) (isPart_pv _) (isPart_pv _) hp.1 hp.2 fun h' r H'=>y (xd r i) h' trivial H'⟩
noncomputable abbrev AD (D:Nat):Around:={ depth:=D,units:=10 * D }
noncomputable def sideB (D:Nat) (A:Around) (l:List Kt) (c:Code):Bool:=match (ar A l).handled with
 | none => match Nat.ble ((ar A l).depth + c.weight) D with
   | true => Nat.ble ((ar A l).units + c.cUnits) (10 * D)
   | false => false
 | some _ => false
theorem go_side {D:Nat}{l:List Kt}{c c':Code}{gg:Bool}{lv:List Value}{k:Result→Sem Fin}{s:Shared}(hs:sideB D A l c=true) (h:codeAny (model prog w) (AD D) c' (fun r s'=>Go prog w A R l c (k r) s') s):Go prog w A R l c (.call c' none gg lv k) s:=by
 unfold sideB at hs
 cases h1:(ar A l).handled with
 | some v => rw [h1] at hs; cases hs
 | none =>
   rw [h1] at hs
   dsimp only at hs
   cases h2:Nat.ble ((ar A l).depth + c.weight) D with
   | false => rw [h2] at hs; cases hs
   | true =>
     rw [h2] at hs
     exact go_callC (A':=AD D) h1 h2 hs rfl rfl h
end
noncomputable def extB (B:Addr→Option Obj) (X:List (Addr×Obj)) (a:Addr):Option Obj:=match X.find? (fun p=>p.1 == a) with
 | some p => some p.2
 | none => B a
theorem extB_off {B:Addr→Option Obj}{X:List (Addr×Obj)}{a:Addr}(h:∀ p∈X,p.1≠a):extB B X a=B a:=by
 unfold extB
 rw [List.find?_eq_none.mpr fun p hp e=>h p hp (by simpa using e)]
theorem extB_mem {B:Addr→Option Obj}{X:List (Addr×Obj)}{p:Addr×Obj}(hn:(X.map (·.1)).Nodup) (hp:p∈X):extB B X p.1=some p.2:=by
 have:X.find? (fun q=>q.1 == p.1)=some p:=by
   induction X with
   | nil => exact absurd hp List.not_mem_nil
   | cons q X ih =>
     rw [List.map_cons,List.nodup_cons] at hn
     rw [List.find?_cons]
     rcases List.mem_cons.mp hp with e | hp
     · rw [e,show (q.1 == q.1)=true from beq_self_eq_true _]
     · rw [show (q.1 == p.1) = false from beq_eq_false_iff_ne.mpr fun e => hn.1 (e ▸ List.mem_map_of_mem hp)]
       exact ih hn.2 hp
 unfold extB
 rw [this]
theorem extB_some {B:Addr→Option Obj}{X:List (Addr×Obj)}{a:Addr}{o:Obj}(h:extB B X a=some o):(a,o)∈X∨B a=some o:=by
 unfold extB at h
 split at h
 · rename_i p hp
   cases h
   have e:p.1=a:=by simpa using List.find?_some hp
   rw [← e]
   exact .inl (List.mem_of_find?_eq_some hp)
 · exact .inr h
theorem extB_old {B:Addr→Option Obj}{h:Heap}{us X:List (Addr×Obj)}(H:Hp B h (us++X)){a:Addr}{o:Obj}(e:B a=some o):extB B X a=some o:=by
 rw [extB_off,e]
 intro p hp z
 have:=H.off p (List.mem_append_right _ hp)
 rw [z,e] at this
 cases this
theorem Hp.in {B:Addr→Option Obj}{h:Heap}{us X:List (Addr×Obj)}(H:Hp B h (us++X)):Hp (extB B X) h us:=by
 have hn:=H.nd
 rw [List.map_append,List.nodup_append] at hn
 refine ⟨fun a o e=>?_,fun p hp=>H.own p (List.mem_append_left _ hp),fun p hp=>?_,hn.1⟩
 · rcases extB_some e with e | e
   · exact H.own (a,o) (List.mem_append_right _ e)
   · exact H.keep a o e
 · rw [extB_off fun q hq e => hn.2.2 _ (List.mem_map_of_mem hp) _ (List.mem_map_of_mem hq) e.symm]
   exact H.off p (List.mem_append_left _ hp)
theorem Hp.out {B:Addr→Option Obj}{h h':Heap}{us us' X:List (Addr×Obj)}(H:Hp B h (us++X)) (H':Hp (extB B X) h' us'):Hp B h' (us'++X):=by
 have hn:=H.nd
 rw [List.map_append,List.nodup_append] at hn
 have key : ∀ p ∈ us', (∀ q ∈ X, q.1 ≠ p.1) ∧ B p.1 = none := fun p hp => by
   have:=H'.off p hp
   have k : ∀ q ∈ X, q.1 ≠ p.1 := fun q hq e => by
     rw [← e,extB_mem hn.2.1 hq] at this
     cases this
   exact ⟨k,by rw [extB_off k] at this;exact this⟩
 refine ⟨fun a o e=>H'.keep a o (extB_old H e),fun p hp=>?_,fun p hp=>?_,?_⟩
 · rcases List.mem_append.mp hp with hp | hp
   · exact H'.own p hp
   · exact H'.keep _ _ (extB_mem hn.2.1 hp)
 · rcases List.mem_append.mp hp with hp | hp
   · exact (key p hp).2
   · exact H.off p (List.mem_append_right _ hp)
 · rw [List.map_append, List.nodup_append]
   refine ⟨H'.nd,hn.2.1,fun a ha b hb e=>?_⟩
   obtain ⟨p,hp,rfl⟩:=List.mem_map.mp ha
   obtain ⟨q,hq,rfl⟩:=List.mem_map.mp hb
   exact (key p hp).1 q hq e.symm
noncomputable def popAt:Nat→List (Addr×Obj)→Option ((Addr×Obj)×List (Addr×Obj))
 | _, [] => none
 | 0, x :: r => some (x, r)
 | n + 1, y :: r => (popAt n r).bind fun p => some (p.1, y :: p.2)
theorem popAt_ok:∀ {n:Nat}{cs:List (Addr×Obj)}{p:(Addr×Obj)×List (Addr×Obj)},popAt n cs=some p→cs.Perm (p.1 :: p.2)
 | _, [], _, h => by cases ‹Nat› <;> cases h
 | 0, x :: r, p, h => by cases h; exact .refl _
 | n + 1, y :: r, p, h => by
   obtain ⟨q,h1,h2⟩:=bo h
   cases h2
   exact ((popAt_ok h1).cons y).trans (.swap _ _ _)
noncomputable def takeP:List Nat→List (Addr×Obj)→Option (List (Addr×Obj)×List (Addr×Obj))
 | [], cs => some ([], cs)
 | p :: ps, cs => (popAt p cs).bind fun x => (takeP ps x.2).bind fun y => some (x.1 :: y.1, y.2)
theorem takeP_ok:∀ {ps:List Nat}{cs:List (Addr×Obj)}{p:List (Addr×Obj)×List (Addr×Obj)},takeP ps cs=some p→cs.Perm (p.1++p.2)
 | [], _, _, h => by cases h; exact .refl _
 | _ :: _, _, _, h => by
   obtain ⟨x,h1,h⟩:=bo h
   obtain ⟨y,h2,h⟩:=bo h
   cases h
   exact (popAt_ok h1).trans ((takeP_ok h2).cons _)
theorem Hp.perm {B:Addr→Option Obj}{h:Heap}{cs cs':List (Addr×Obj)}(H:Hp B h cs) (p:cs'.Perm cs):Hp B h cs' :=
 ⟨H.keep,fun x hx=>H.own x (p.mem_iff.mp hx),fun x hx=>H.off x (p.mem_iff.mp hx),(p.map _).nodup_iff.mpr H.nd⟩
noncomputable abbrev AF (D:Nat) (fr:Option (List Env)):Around:={ AD D with frames:=fr }
structure Ct (prog : Program) (w : World) (D : Nat) (fr : Option (List Env)) (K : Frag) (g : Array GenState) (d : Drawn) (os : OsState) (code : Code) (use : List (Addr × Obj)) (fact : Option (Xd → Prop)) (post : Xd → Result × List (Addr × Obj)) : Prop where
 ok:∀ B h t R,Kin K B→(B sysModules).isSome=true→Hp B h use→(∀ u h',fac fact u True→Hp B h' (post u).2→R (post u).1 ⟨h',g,d,u.t,os⟩)→codeAny (model prog w) (AF D fr) code R ⟨h,g,d,t,os⟩
section
variable {prog:Program}{w:World}{A:Around}{R:Result→Shared→Prop}{B:Addr→Option Obj}{g:Array GenState}{d:Drawn}{os:OsState}{K:Frag}
theorem codeAny_weakF {M:Model}{A A':Around}{R:Result→Shared→Prop}{c:Code}{s:Shared}(h:codeAny M A' c R s) (h1:A.handled=A'.handled) (h2:A.depth≤A'.depth) (h3:A'.frames=none∨A.frames=A'.frames) (h4:A'.guards=none) (h5:A.units≤A'.units):codeAny M A c R s :=
 fun Γ p hc hΓ=>h Γ p hc ⟨hΓ.1.trans h1,Nat.le_trans hΓ.2.1 h2,fun fr e=>h3.elim (fun h=>by rw [h] at e;cases e) fun h=>hΓ.2.2.1 fr (h.trans e),fun _ e=>(by rw [h4] at e;cases e),Nat.le_trans hΓ.2.2.2.2 h5⟩
noncomputable def frQ (a b:Option (List Env)):List (Qx×Qx):=match b with
 | none => []
 | some fr => [(.F a, .F (some fr))]
theorem frQ_ok {a b:Option (List Env)}{es:List (Qx×Qx)}(h:∀ p∈frQ a b++es,p.1=p.2):(b=none∨a=b)∧∀ p∈es,p.1=p.2:=by
 refine ⟨?_,fun p hp=>h p (List.mem_append_right _ hp)⟩
 cases b with
 | none => exact .inl rfl
 | some fr => exact .inr (Qx.F.inj (h _ (.head _)))
theorem Ct.perm {D:Nat}{fr:Option (List Env)}{w:World}{code:Code}{use use':List (Addr×Obj)}{fact:Option (Xd→Prop)}{post:Xd→Result×List (Addr×Obj)}(ct:Ct prog w D fr K g d os code use fact post) (p:use.Perm use'):Ct prog w D fr K g d os code use' fact post :=
 ⟨fun B h t R KX hS H x=>ct.ok B h t R KX hS (H.perm p) x⟩
theorem Ct.frame {D:Nat}{fr:Option (List Env)}{w:World}{code:Code}{use:List (Addr×Obj)}{fact:Option (Xd→Prop)}{post:Xd→Result×List (Addr×Obj)}(ct:Ct prog w D fr K g d os code use fact post) (Y:List (Addr×Obj)):Ct prog w D fr K g d os code (use++Y) fact fun u=>((post u).1,(post u).2++Y) :=
 ⟨fun B h t R KX hS H x=>ct.ok (extB B Y) h t R (fun a o e=>extB_old H (KX a o e)) (by obtain ⟨o,ho⟩:=Option.isSome_iff_exists.mp hS;rw [extB_old H ho];rfl) H.in fun u h' hf H'=>x u h' hf (H.out H')⟩
noncomputable def rC {D:Nat}{fr:Option (List Env)}{code:Code}{use:List (Addr×Obj)}{fact:Option (Xd→Prop)}{post:Xd→Result×List (Addr×Obj)}(KX:Kin K B) (hS:(B sysModules).isSome=true) (ps:List Nat) (n:Nat) (all:Bool) (P:Prop) (ct:P→Ct prog w D fr K g d os code use fact post):Rul prog w A R B g d os where
 eff l c c' cs:=(isB (sideB D A l c)).bind fun _=>(takeP ps cs).bind fun x=>some ⟨frQ ((ar A l).under c).frames fr++[(.C c',.C code),(.L (onB all (x.1++x.2.drop n) x.1),.L use)],P,fact,fun u=>((post u).1,x.2.take n++onB all (post u).2 ((post u).2++x.2.drop n),u.t)⟩
 ok l c c' cs rp h he hp:=by
   obtain ⟨_,h1,h⟩:=bo h
   obtain ⟨x,h2,h⟩:=bo h
   cases h
   obtain ⟨h3,he⟩:=frQ_ok he
   obtain rfl:c'=code:=Qx.C.inj (he _ (.head _))
   have e2:onB all (x.1++x.2.drop n) x.1=use:=Qx.L.inj (he _ (.tail _ (.head _)))
   refine ⟨fun gg lv k h i H y=>go_call (by intro z;cases z) ?_⟩
   obtain ⟨Z,hZ1,hZ2⟩:∃ Z,cs.Perm (use++Z)∧∀ us:List (Addr×Obj),(x.2.take n++onB all us (us++x.2.drop n)).Perm (us++Z):=by
     subst e2
     cases all with
     | true => exact ⟨x.2.take n, (takeP_ok h2).trans (by
         show (x.1++x.2).Perm ((x.1++x.2.drop n)++x.2.take n)
         rw [List.append_assoc]
         exact List.Perm.append_left _ (by conv => lhs; rw [← List.take_append_drop n x.2]
                                           exact List.perm_append_comm)),fun us=>List.perm_append_comm⟩
     | false => exact ⟨x.2, takeP_ok h2, fun us => by
         show (x.2.take n++(us++x.2.drop n)).Perm (us++x.2)
         refine List.perm_append_comm_assoc _ _ _ |>.trans ?_
         rw [List.take_append_drop]⟩
   have H:=H.perm hZ1.symm
   have hs:=isB_ok h1
   unfold sideB at hs
   cases h4:(ar A l).handled with
   | some v => rw [h4] at hs; cases hs
   | none =>
     rw [h4] at hs
     dsimp only at hs
     cases h5:Nat.ble ((ar A l).depth + c.weight) D with
     | false => rw [h5] at hs; cases hs
     | true =>
       rw [h5] at hs
       refine codeAny_weakF (A':=AF D fr) ((ct hp).ok (extB B Z) h i _ (fun a o e=>extB_old H (KX a o e)) ?_ H.in fun u h' hf H'=>y u h' hf ((H.out H').perm (hZ2 _))) h4 (Nat.le_of_ble_eq_true h5) h3 rfl (Nat.le_of_ble_eq_true hs)
       obtain ⟨o,ho⟩:=Option.isSome_iff_exists.mp hS
       rw [extB_old H ho];rfl
end
theorem item_of {L:List PT}{j:Nat}{v:PT}(h:L[j]?=some v):(L.map pv)[j]?=some (pv v):=by rw [List.getElem?_map,h];rfl
theorem item_no {L:List PT}{j:Nat}(h:L[j]?=none):(L.map pv)[j]?=none:=by rw [List.getElem?_map,h];rfl
noncomputable def ltP (p q:Pt):Bool:=decide ((sp p).cps.toList < (sp q).cps.toList)
theorem ltP_eq {p q:Pt}(h:ltP p q=false) (h':ltP q p=false):p=q:=by
 refine sp_inj p q ?_
 cases hp:sp p with | mk x =>
 cases hq:sp q with | mk y =>
 unfold ltP at h h'
 rw [hp,hq] at h h'
 have a:=of_decide_eq_false h
 have b:=of_decide_eq_false h'
 refine congrArg Str.mk (Array.toList_inj.mp ?_)
 exact List.le_antisymm (List.not_lt.mp b) (List.not_lt.mp a)
noncomputable def leP (p q:Pt):Bool:=!ltP q p
theorem leP_iff {p q:Pt}:leP p q=true↔(sp p).cps.toList≤(sp q).cps.toList:=by
 unfold leP ltP
 rw [Bool.not_eq_true',decide_eq_false_iff_not,List.not_lt]
theorem leP_trans (a b c:Pt) (h:leP a b=true) (h':leP b c=true):leP a c=true:=leP_iff.mpr (List.le_trans (leP_iff.mp h) (leP_iff.mp h'))
theorem leP_total (a b:Pt):(leP a b || leP b a)=true:=by
 rw [Bool.or_eq_true,leP_iff,leP_iff]
 exact List.le_total _ _
theorem leP_anti {a b:Pt}(h:leP a b=true) (h':leP b a=true):a=b:=by
 unfold leP at h h'
 rw [Bool.not_eq_true'] at h h'
 exact ltP_eq h' h
noncomputable def srt (L:List Pt):List Pt:=L.mergeSort leP
theorem srt_perm (L:List Pt):(srt L).Perm L:=List.mergeSort_perm L leP
theorem srt_pw (L:List Pt):(srt L).Pairwise fun a b=>leP a b=true:=List.pairwise_mergeSort leP_trans leP_total L
theorem rising_pw:∀ (p:Pt) (L:List Pt),risingS (sp p) (L.map sp)=true→(p :: L).Pairwise fun a b=>leP a b=true
 | p, [], _ => List.pairwise_singleton _ _
 | p, x :: r, h => by
   have h':(!Spec.ltCps (sp x).cps.toList (sp p).cps.toList && risingS (sp x) (r.map sp))=true:=h
   rw [Bool.and_eq_true] at h'
   have ih:=rising_pw x r h'.2
   have hx:leP p x=true:=by
     have:=h'.1
     rw [ltCps_eq] at this
     exact this
   refine List.pairwise_cons.mpr ⟨fun y hy=>?_,ih⟩
   rcases List.mem_cons.mp hy with rfl | hy
   · exact hx
   · exact leP_trans _ _ _ hx ((List.pairwise_cons.mp ih).1 y hy)
theorem sorted_pw:∀ (L:List Pt),sortedS (L.map sp)=true→L.Pairwise fun a b=>leP a b=true
 | [], _ => List.Pairwise.nil
 | p :: L, h => rising_pw p L h
theorem srt_eq {L L':List Pt}(h:L'.Perm L) (s:L'.Pairwise fun a b=>leP a b=true):L'=srt L :=
 List.Perm.eq_of_pairwise (fun _ _ _ _=>leP_anti) s (srt_pw L) (h.trans (srt_perm L).symm)
theorem srt_id {L:List Pt}(s:L.Pairwise fun a b=>leP a b=true):srt L=L:=(srt_eq (.refl L) s).symm
theorem srt_congr {L L':List Pt}(h:L'.Perm L):srt L'=srt L:=srt_eq ((srt_perm L').trans h) (srt_pw L')
noncomputable def tag:List Pt→List Nat→List PT
 | [], _ => []
 | p :: ps, ts => (p, ts.headD 0) :: tag ps ts.tail
theorem pts_tag:∀ (ps:List Pt) (ts:List Nat),pts (tag ps ts)=ps
 | [], _ => rfl
 | p :: ps, ts => congrArg (p :: ·) (pts_tag ps ts.tail)
theorem tag_pts:∀ (L:List PT),tag (pts L) (L.map (·.2))=L
 | [] => rfl
 | p :: L => congrArg (p :: ·) (tag_pts L)
section
variable {prog:Program}{w:World}{A:Around}{R:Result→Shared→Prop}{B:Addr→Option Obj}{g:Array GenState}{d:Drawn}{os:OsState}{rs:List (Addr×Obj)}
noncomputable def rSorted (RX:Rin rs B) (lc:Lc) (L:List PT):Rul prog w A R B g d os:=rF .b 111490731569268 anyS rs [lc] s1
 (fun s cs=>match s with | (q,_,n)=>⟨[.ref q],[(q,lst (L.map pv) n)],L.length < 64,none,fun u=>(.ok (.ret (.ref u.n)),(u.n,lst ((tag (srt (pts L)) u.L).map pv) u.n2) :: cs,u.n3)⟩)
 fun _ _ _ _ _ _ hid _ hl hp => ⟨fun _ _ _ _ i H y => ct_sorted hid H (lk_ok RX (lkA_cons hl).1 H) hp fun h' r n' L' H' hP hS => by
   have e2:tag (srt (pts L)) (L'.map (·.2))=L':=srt_eq hP (sorted_pw _ hS) ▸ tag_pts L'
   rw [← e2] at H'
   exact y { xd r n' with n3:=i,L:=L'.map (·.2) } h' trivial H'⟩
end
section
variable {prog:Program}{w:World}{A:Around}{R:Result→Shared→Prop}{l:List Kt}{c:Code}{h:Heap}{g:Array GenState}{d:Drawn}{t:Nat}{os:OsState}{gg:Bool}{lv:List Value}{k:Result→Sem Fin}{id:String}
theorem ct_meetsIn {id':String}{T:String}{name:Str}{B:Builtin}{self:Value}{rest:List Value}{S:PySem.Spec}{s:Shared}(slot:Slot T name id') (hT:s.TypeIs self T)
   (entry:entryFor table id'=some B) (args:argsOk id' ⟨self :: rest,[]⟩) (gm:MeetsIn prog w (B ⟨self :: rest,[]⟩) S) (hid:id=id')
   (z:S ((ar A l).under c) (wants (fun v s'=>Go prog w A R l c (k (.ok (.ret v))) s') (fun e s'=>Go prog w A R l c (k (.error e)) s')) s) :
   Go prog w A R l c (.call (.call (.builtin id) ⟨self :: rest,[]⟩) none gg lv k) s:=by
 subst hid
 exact go_callW (call_meetsIn slot hT entry args gm z)
end
noncomputable def dents (prog:Program) (w:World):List (Pt×Value)→List Nat→List DictEntry
 | [], _ => []
 | (p, v) :: r, ts => ⟨(strKind prog w).hash (sp p), .str (sp p) (ts.headD 0), v⟩ :: dents prog w r ts.tail
noncomputable def dctP (prog:Program) (w:World) (kvs:List (Pt×Value)) (ts:List Nat) (n:Nat):Obj:=⟨.type sDict,none,.dict (dents prog w kvs ts).toArray n,#[]⟩
noncomputable abbrev spk (kvs:List (Pt×Value)):List (Str×Value):=kvs.map fun q=>(sp q.1,q.2)
section
variable {prog:Program}{w:World}
theorem isStr_sp (p:Pt) (t:Tok):(strKind prog w).is (sp p) (.str (sp p) t)=true:=by
 show Value.isStrOf (sp p) (.str (sp p) t)=true
 simp [Value.isStrOf]
theorem dents_pairs:∀ (kvs:List (Pt×Value)) (ts:List Nat),Pairs (strKind prog w) (dents prog w kvs ts) (spk kvs)
 | [], _ => .nil
 | (p, v) :: r, ts => .cons (isStr_sp p _) rfl (dents_pairs r ts.tail)
theorem dents_keys:∀ (kvs:List (Pt×Value)) (ts:List Nat),∀ e∈dents prog w kvs ts,∃ k,(strKind prog w).is k e.key=true∧e.hash=(strKind prog w).hash k
 | [], _, e, h => absurd h List.not_mem_nil
 | (p, v) :: r, ts, e, h => by
   rcases List.mem_cons.mp h with rfl | h
   · exact ⟨sp p,isStr_sp p _,rfl⟩
   · exact dents_keys r ts.tail e h
theorem pairs_dents:∀ (kvs:List (Pt×Value)) (es:List DictEntry),Pairs (strKind prog w) es (spk kvs)→(∀ e∈es,∃ k,(strKind prog w).is k e.key=true∧e.hash=(strKind prog w).hash k)→∃ ts,es=dents prog w kvs ts
 | [], es, h, _ => by cases h; exact ⟨[], rfl⟩
 | (p, v) :: r, es, h, hk => by
   cases h with
   | @cons e _ es _ h1 h2 h3 =>
     obtain ⟨ts,rfl⟩:=pairs_dents r es h3 fun e he=>hk e (.tail _ he)
     obtain ⟨t,ht⟩:=Value.isStrOf_shape h1
     obtain ⟨k,hk1,hk2⟩:=hk e (.head _)
     have:k=sp p:=(strKind prog w).inj _ _ _ hk1 h1
     subst this
     refine ⟨t :: ts,?_⟩
     obtain ⟨eh,ek,ev⟩:=e
     dsimp only at ht hk2 h2
     subst ht hk2 h2
     rfl
theorem spk_nodup {kvs:List (Pt×Value)}(h:(kvs.map (·.1)).Nodup):((spk kvs).map (·.1)).Nodup:=by
 rw [List.map_map]
 have:(Prod.fst∘fun (q:Pt×Value)=>(sp q.1,q.2))=sp∘Prod.fst:=rfl
 rw [this,← List.map_map]
 exact List.pairwise_map.mpr (h.imp fun hne e=>hne (sp_inj _ _ e))
theorem dct_at {h:Heap}{d:Addr}{kvs:List (Pt×Value)}{ts:List Nat}{n:Nat}(ho:h.get? d=some (dctP prog w kvs ts n)) (hn:(kvs.map (·.1)).Nodup):h.DictAt (strKind prog w) d (spk kvs) n :=
 ⟨_,_,ho,⟨congrArg _ sDict_eq,rfl,rfl⟩,rfl,fun e he=>dents_keys kvs ts e (by simpa using he),by simpa using dents_pairs kvs ts,spk_nodup hn⟩
theorem at_dct {h:Heap}{d:Addr}{kvs:List (Pt×Value)}(x:h.DictOf (strKind prog w) d (spk kvs)):∃ ts n,h.get? d=some (dctP prog w kvs ts n):=by
 obtain ⟨⟨oc,od,dt,osl⟩,es,ep,ho,⟨h1,h2,h3⟩,hd,hk,hp,hn⟩:=x
 dsimp only at h1 h2 h3 hd
 subst h1 h2 h3 hd
 obtain ⟨ts,e⟩:=pairs_dents kvs es.toList hp fun e he=>hk e (by simpa using he)
 refine ⟨ts,ep,?_⟩
 rw [ho]
 unfold dctP
 rw [← e,sDict_eq]
noncomputable def vat (kvs:List (Pt×Value)) (p:Pt):Option Value:=(kvs.find? fun q=>q.1=p).map (·.2)
noncomputable def setK (kvs:List (Pt×Value)) (p:Pt) (v:Value):List (Pt×Value):=if kvs.any (fun q=>q.1=p) then kvs.map (fun q=>if q.1=p then (q.1,v) else q) else kvs++[(p,v)]
noncomputable def delK (kvs:List (Pt×Value)) (p:Pt):List (Pt×Value):=kvs.filter fun q=>decide (q.1≠p)
theorem sp_dec (p q:Pt):decide (sp p=sp q)=decide (p=q):=by
 by_cases h:p=q
 · subst h;simp
 · rw [decide_eq_false h,decide_eq_false fun e=>h (sp_inj _ _ e)]
theorem vat_spk (p:Pt):∀ kvs:List (Pt×Value),valueAt (spk kvs) (sp p)=vat kvs p
 | [] => rfl
 | (q, v) :: r => by
   have ih:=vat_spk p r
   unfold valueAt vat at ih ⊢
   show Option.map (fun x=>x.snd) (List.find? (fun kv=>decide (kv.1=sp p)) ((sp q,v) :: spk r))=_
   rw [List.find?_cons,List.find?_cons]
   dsimp only
   rw [sp_dec]
   cases decide (q=p) with
   | true => rfl
   | false => exact ih
theorem setK_spk (kvs:List (Pt×Value)) (p:Pt) (v:Value):stored (spk kvs) (sp p) v=spk (setK kvs p v):=by
 unfold stored setK
 have e:(spk kvs).any (fun kv=>decide (kv.1=sp p))=kvs.any fun q=>decide (q.1=p):=by
   rw [List.any_map]
   exact congrArg _ (funext fun q=>sp_dec _ _)
 rw [e]
 cases kvs.any fun q=>decide (q.1=p) with
 | false => simp
 | true =>
   simp only [if_true,List.map_map]
   refine List.map_congr_left fun q _=>?_
   show (if sp q.1=sp p then (sp q.1,v) else (sp q.1,q.2))=(sp (if q.1=p then (q.1,v) else q).1,(if q.1=p then (q.1,v) else q).2)
   by_cases h:q.1=p
   · rw [if_pos h,if_pos (by rw [h])]
   · rw [if_neg h,if_neg fun e=>h (sp_inj _ _ e)]
theorem delK_spk (kvs:List (Pt×Value)) (p:Pt):without (spk kvs) (sp p)=spk (delK kvs p):=by
 unfold without delK
 rw [List.filter_map]
 refine congrArg _ (List.filter_congr fun q _=>?_)
 show decide (sp q.1≠sp p)=decide (q.1≠p)
 rw [decide_not,decide_not,sp_dec]
theorem Hp.but {B:Addr→Option Obj}{h h':Heap}{cs:List (Addr×Obj)}{i:Nat}{a:Addr}{o o':Obj}(H:Hp B h cs) (e:pick i cs=some (a,o)) (hs:Heap.SameBut a h h') (ho:h'.get? a=some o'):Hp B h' (putAt i cs o'):=by
 obtain ⟨pre,post,e1,e2⟩:=pick_split e
 subst e1
 rw [e2]
 have hn:=H.nd
 rw [List.map_append,List.map_cons,List.nodup_append] at hn
 obtain ⟨_,n2,n3⟩:=hn
 have na:=(List.nodup_cons.mp n2).1
 have off:B a=none:=H.off (a,o) (by simp)
 refine ⟨fun b ob e=>(hs.2 b fun z=>by rw [z,off] at e;cases e).trans (H.keep b ob e),fun q hq=>?_,fun q hq=>?_,?_⟩
 · rcases List.mem_append.mp hq with hq | hq
   · exact (hs.2 _ (n3 _ (List.mem_map_of_mem hq) _ (.head _))).trans (H.own q (by simp [hq]))
   · rcases List.mem_cons.mp hq with rfl | hq
     · exact ho
     · exact (hs.2 _ fun e=>na (by rw [← e];exact List.mem_map.mpr ⟨q,hq,rfl⟩)).trans (H.own q (by simp [hq]))
 · rcases List.mem_append.mp hq with hq | hq
   · exact H.off q (by simp [hq])
   · rcases List.mem_cons.mp hq with rfl | hq
     · exact off
     · exact H.off q (by simp [hq])
 · have := H.nd
   rw [List.map_append,List.map_cons] at this ⊢
   exact this
end
section
variable {prog:Program}{w:World}{A:Around}{R:Result→Shared→Prop}{B:Addr→Option Obj}{g:Array GenState}{d:Drawn}{os:OsState}{rs:List (Addr×Obj)}
theorem not_sys {h:Heap}{cs:List (Addr×Obj)}(H:Hp B h cs) (hS:(B sysModules).isSome=true){i:Nat}{a:Addr}{o:Obj}(e:pick i cs=some (a,o)):(a == sysModules)=false:=by
 have:=H.off (a,o) (by rw [pick_get] at e;exact List.mem_of_getElem? e)
 refine beq_eq_false_iff_ne.mpr fun z=>?_
 dsimp only at this
 rw [z] at this
 rw [this] at hS
 cases hS
inductive Vs where
 | z
 | c (j : Nat)
noncomputable def vsV (cs:List (Addr×Obj)):Vs→Option Value
 | .z => some .none
 | .c j => (pick j cs).bind fun (a, _) => some (.ref a)
theorem dents_inj:∀ {kvs kvs':List (Pt×Value)}{ts ts':List Nat},dents prog w kvs ts=dents prog w kvs' ts'→kvs=kvs'
 | [], [], _, _, _ => rfl
 | [], (_, _) :: _, _, _, h => by cases h
 | (_, _) :: _, [], _, _, h => by cases h
 | (p, v) :: r, (p', v') :: r', ts, ts', h => by
   obtain ⟨h1,h2⟩:=List.cons.inj h
   injection h1 with h3 h4 h5
   injection h4 with h6 h7
   rw [sp_inj _ _ h6,h5,dents_inj h2]
noncomputable def dO (es:Array DictEntry) (n:Nat):Obj:=⟨.type sDict,none,.dict es n,#[]⟩
noncomputable def s7 (as:List Value) (us:Us) (_:Us):Option (Addr×Tok×Array DictEntry×Nat):=gHd as fun v r=>gRef v fun q=>gHd r fun x _=>gTok x fun t=>gHd us fun c _=>gDic c.2 fun es n=>some (q,t,es,n)
noncomputable def s7a (as:List Value) (us:Us) (_:Us):Option (Addr×Array DictEntry×Nat):=gHd as fun v _=>gRef v fun q=>gHd us fun c _=>gDic c.2 fun es n=>some (q,es,n)
noncomputable def IsD (prog:Program) (w:World) (es:Array DictEntry) (kvs:List (Pt×Value)):Prop:=(kvs.map (·.1)).Nodup∧∃ ts,es=(dents prog w kvs ts).toArray
theorem IsD.at {es:Array DictEntry}{n:Nat}{kvs:List (Pt×Value)}(x:IsD prog w es kvs){h:Heap}{a:Addr}(ho:h.get? a=some (dO es n)):h.DictAt (strKind prog w) a (spk kvs) n:=by
 obtain ⟨hn,ts,rfl⟩:=x
 exact dct_at ho hn
theorem IsD.one {es:Array DictEntry}{kvs kvs':List (Pt×Value)}(x:IsD prog w es kvs) (y:IsD prog w es kvs'):kvs=kvs':=by
 obtain ⟨_,ts,e⟩:=x
 obtain ⟨_,ts',e'⟩:=y
 exact dents_inj (List.toArray_inj (e.symm.trans e'))
theorem setK_nodup {kvs:List (Pt×Value)}{p:Pt}{v:Value}(h:(kvs.map (·.1)).Nodup):((setK kvs p v).map (·.1)).Nodup:=by
 unfold setK
 by_cases hc:(kvs.any fun q=>decide (q.1=p))=true
 · rw [if_pos hc, List.map_map]
   have:(Prod.fst∘fun (q:Pt×Value)=>if q.1=p then (q.1,v) else q)=Prod.fst:=by
     funext q
     show (if q.1=p then (q.1,v) else q).1=q.1
     by_cases hq:q.1=p
     · rw [if_pos hq]
     · rw [if_neg hq]
   rw [this];exact h
 · rw [if_neg hc, List.map_append, List.nodup_append]
   refine ⟨h,by simp,fun a ha b hb e=>hc ?_⟩
   obtain ⟨q,hq,rfl⟩:=List.mem_map.mp ha
   rw [List.map_singleton,List.mem_singleton] at hb
   exact List.any_eq_true.mpr ⟨q,hq,by simp [e,hb]⟩
noncomputable def s7v (x:Vs) (as:List Value) (us cs:Us):Option (Addr×Tok×Array DictEntry×Nat×Value):=(s7 as us cs).bind fun s=>(vsV cs x).bind fun v=>match s with | (q,t,es,n)=>some (q,t,es,n,v)
theorem dget_go {es:Array DictEntry}{n:Nat}{cs:Us}{i:Nat}{a:Addr}{h':Heap}{kvs:List (Pt×Value)}(hl:lkA rs cs [.c i]=some [(a,dO es n)]) (H:Hp B h' cs) (hd:IsD prog w es kvs):h'.DictOf (strKind prog w) a (spk kvs):=(hd.at (own_pick (lkA_cons hl).1 H)).dictOf
noncomputable def rDget (hS:(B sysModules).isSome=true) (i:Nat) (p:Pt) (vs:Vs):Rul prog w A R B g d os:=rF .b 8459563503104322149 anyS [] [.c i] (s7v vs)
 (fun s cs=>match s with | (a,t,es,n,v)=>⟨[.ref a,.str (sp p) t],[(a,dO es n)],∃ kvs,IsD prog w es kvs∧(vat kvs p).getD .none=v,none,fun u=>(.ok (.ret v),cs,u.n)⟩)
 fun _ _ _ _ _ _ hid _ hl hp => ⟨fun _ _ _ h' i' H y => by
   obtain ⟨kvs,hd,hv⟩:=hp
   have hd:=dget_go hl H hd
   refine ct_meetsIn F.slot_dict_get hd.typeIs F.entry_dict_get (F.args_dict_get_2 _ _) (meets_dict_get (strKind prog w) _ (isStr_sp p _) (not_sys H hS (lkA_cons hl).1)) (id_is _ hid (by decide +kernel)) ⟨_,hd.mapOf,?_⟩
   rw [vat_spk,hv]
   exact y (xd (i' + 1) 0) _ trivial H⟩
noncomputable def rDitem (i:Nat) (p:Pt) (vs:Vs):Rul prog w A R B g d os:=rF .b 128106587276438692081757506308483082853 anyS [] [.c i] (s7v vs)
 (fun s cs=>match s with | (a,t,es,n,v)=>⟨[.ref a,.str (sp p) t],[(a,dO es n)],∃ kvs,IsD prog w es kvs∧vat kvs p=some v,none,fun u=>(.ok (.ret v),cs,u.n)⟩)
 fun _ _ _ _ _ _ hid _ hl hp => ⟨fun _ _ _ h' i' H y => by
   obtain ⟨kvs,hd,hv⟩:=hp
   have hd:=dget_go hl H hd
   exact ct_meetsIn F.slot_dict_getitem hd.typeIs F.entry_dict_getitem (F.args_dict_getitem_2 _ _) (meets_dict_getitem (strKind prog w) _ (isStr_sp p _)) (id_is _ hid (by decide +kernel)) ⟨_,_,hd.mapOf,(vat_spk _ _).trans hv,y (xd (i' + 1) 0) _ trivial H⟩⟩
noncomputable def rDset (i:Nat) (p:Pt):Rul prog w A R B g d os:=rF .b 128106587276438692082622197436938218085 anyS [] [.c i] (fun as us _=>gHd as fun v r=>gRef v fun q=>gHd r fun x r=>gTok x fun t=>gHd r fun v _=>forceV v fun v=>gHd us fun c _=>gDic c.2 fun es n=>some (q,t,v,es,n))
 (fun s cs=>match s with | (a,t,v,es,n)=>⟨[.ref a,.str (sp p) t,v],[(a,dO es n)],∃ kvs,IsD prog w es kvs∧kvs.length≤1000,some fun u=>∀ kvs,IsD prog w es kvs→IsD prog w u.T (setK kvs p v),fun u=>(.ok (.ret .none),putAt i cs (dO u.T u.n2),u.n)⟩)
 fun _ _ _ _ _ _ hid _ hl hp => ⟨fun _ _ _ h' i' H y => by
   obtain ⟨kvs,hd0,hz⟩:=hp
   have hd:=dget_go hl H hd0
   refine ct_meetsIn F.slot_dict_setitem hd.typeIs F.entry_dict_setitem (F.args_dict_setitem_3 _ _ _) (meets_dict_setitem_pairs (strKind prog w) _ (isStr_sp p _) _) (id_is _ hid (by decide +kernel)) ⟨_,hd,by rw [List.length_map];exact Nat.le_trans hz (by decide),fun h2 hd2 hs=>?_⟩
   rw [setK_spk] at hd2
   obtain ⟨ts',n',e⟩:=at_dct hd2
   exact y { xd (i' + 1) n' with T := (dents prog w (setK kvs p _) ts').toArray } _ ⟨fun kvs' hk => by
     obtain rfl:=hk.one hd0
     exact ⟨setK_nodup hk.1,_,rfl⟩,trivial⟩ (H.but (lkA_cons hl).1 hs e)⟩
end
noncomputable def tupO (vs:List Value) (n:Nat):Obj:=⟨.type sTup,none,.seq vs.toArray n,#[]⟩
section
variable {prog:Program}{w:World}{A:Around}{R:Result→Shared→Prop}{B:Addr→Option Obj}{g:Array GenState}{d:Drawn}{os:OsState}{rs:List (Addr×Obj)}
noncomputable def rLenT (RX:Rin rs B) (lc:Lc) (m:Nat):Rul prog w A R B g d os:=rF .b 7300717 anyS rs [lc] s1
 (fun s cs=>match s with | (q,vs,n)=>⟨[.ref q],[(q,tupO vs n)],vs.length=m∧m≤1000,none,fun u=>(.ok (.ret (.int (m:Int) u.n)),cs,u.n2)⟩)
 fun s _ _ _ _ _ hid _ hl hp => ⟨fun _ _ _ h i H y => by
   obtain ⟨rfl,hm⟩:=hp
   obtain rfl:=id_is "len" hid (by decide +kernel)
   have ho:=lk_ok RX (lkA_cons hl).1 H
   unfold tupO at ho
   rw [sTup_eq] at ho
   exact go_callW (PyProof.Rows.len_tuple (t:=s.1) (items:=s.2.1.toArray) ⟨_,ho,rfl,_,rfl⟩ (by rw [List.size_toArray];have:s.2.1.length≤1000:=hm;omega) (y (xd (i + 1) (i + 2)) h trivial H))⟩
end
noncomputable abbrev sDVI:String:=PySem.W.SZ.s9642947811633093969x18
theorem sDVI_eq:sDVI="dict_valueiterator":=id_is "dict_valueiterator" (n:=PySem.code "dict_valueiterator") (by decide +kernel) rfl
noncomputable abbrev sDKI:String:=PySem.W.SZ.s6459443594175803420x16
theorem sDKI_eq:sDKI="dict_keyiterator":=id_is "dict_keyiterator" (n:=PySem.code "dict_keyiterator") (by decide +kernel) rfl
noncomputable abbrev sDV:String:=PySem.W.SZ.s11869419709325134290x11
theorem sDV_eq:sDV="dict_values":=id_is "dict_values" (n:=PySem.code "dict_values") (by decide +kernel) rfl
noncomputable def ditO (s:String) (v:Value) (i sz ep:Int):Obj:=⟨.type s,none,.fields #[v,.int i 0,.int sz 0,.int ep 0],#[]⟩
theorem dents_get {prog:Program}{w:World}:∀ {kvs:List (Pt×Value)}{ts:List Nat}{i:Nat}{p:Pt}{v:Value},kvs[i]?=some (p,v)→∃ t,(dents prog w kvs ts)[i]?=some ⟨(strKind prog w).hash (sp p),.str (sp p) t,v⟩
 | [], _, i, _, _, h => by cases i <;> cases h
 | (p, v) :: r, ts, 0, _, _, h => by
   injection h with h;injection h with h1 h2
   subst h1 h2
   exact ⟨_,rfl⟩
 | _ :: r, ts, i + 1, _, _, h => dents_get (kvs := r) h
theorem dents_len {prog:Program}{w:World}:∀ (kvs:List (Pt×Value)) (ts:List Nat),(dents prog w kvs ts).length=kvs.length
 | [], _ => rfl
 | (_, _) :: r, ts => congrArg (· + 1) (dents_len r ts.tail)
theorem IsD.size {prog:Program}{w:World}{es:Array DictEntry}{kvs:List (Pt×Value)}(x:IsD prog w es kvs):es.size=kvs.length:=by
 obtain ⟨_,ts,rfl⟩:=x
 rw [List.size_toArray,dents_len]
theorem IsD.item {prog:Program}{w:World}{es:Array DictEntry}{kvs:List (Pt×Value)}(x:IsD prog w es kvs){i:Nat}{p:Pt}{v:Value}(h:kvs[i]?=some (p,v)):∃ e,es[i]?=some e∧e.val=v∧∃ t,e.key=.str (sp p) t:=by
 obtain ⟨_,ts,rfl⟩:=x
 obtain ⟨t,e⟩:=dents_get (prog:=prog) (w:=w) (ts:=ts) h
 exact ⟨_,by rw [List.getElem?_toArray];exact e,rfl,t,rfl⟩
theorem IsD.none {prog:Program}{w:World}{es:Array DictEntry}{kvs:List (Pt×Value)}(x:IsD prog w es kvs){i:Nat}(h:kvs[i]?=none):es[i]?=none:=by
 rw [Array.getElem?_eq_none_iff,x.size]
 exact List.getElem?_eq_none_iff.mp h
section
variable {prog:Program}{w:World}{A:Around}{R:Result→Shared→Prop}{B:Addr→Option Obj}{g:Array GenState}{d:Drawn}{os:OsState}{rs:List (Addr×Obj)}
noncomputable def rDvals (hS:(B sysModules).isSome=true) (i:Nat):Rul prog w A R B g d os:=rF .b 140719261054343729373276773 anyS [] [.c i] s7a
 (fun s cs=>match s with | (q,es,n)=>⟨[.ref q],[(q,dO es n)],∃ kvs,IsD prog w es kvs,none,fun u=>(.ok (.ret (.ref u.n)),(u.n,⟨.type sDV,none,.fields #[.ref q],#[]⟩) :: cs,u.n2)⟩)
 fun s _ _ _ _ _ hid _ hl hp => ⟨fun _ _ _ h' i' H y => by
   obtain ⟨kvs,hd⟩:=hp
   have hd:=dget_go hl H hd
   have z:=y (xd h'.objs.size i') _ trivial (H.push (o:=⟨.type sDV,none,.fields #[.ref s.1],#[]⟩) rfl)
   rw [sDV_eq] at z
   exact ct_meetsIn F.slot_dict_values hd.typeIs F.entry_dict_values (F.args_dict_values_1 _) (meets_dict_values (strKind prog w) _ (not_sys H hS (lkA_cons hl).1)) (id_is _ hid (by decide +kernel)) ⟨⟨_,hd⟩,z⟩⟩
noncomputable def s6 (as:List Value) (us:Us) (_:Us):Option (Addr×Addr×Nat×Int×Int×Array DictEntry×Nat):=gHd as fun v _=>gRef v fun it=>gHd us fun c r=>gFld c.2 fun fs=>gHd fs fun f fs=>gRef f fun q=>gHd fs fun f fs=>gNat f fun j=>gHd fs fun f fs=>gInt f fun sz _=>gHd fs fun f _=>gInt f fun ep _=>gHd r fun c _=>gDic c.2 fun es n=>some (it,q,j,sz,ep,es,n)
noncomputable def s6v (x:Vs) (as:List Value) (us cs:Us):Option (Addr×Addr×Nat×Int×Int×Array DictEntry×Nat×Value):=(s6 as us cs).bind fun s=>(vsV cs x).bind fun v=>match s with | (it,q,j,sz,ep,es,n)=>some (it,q,j,sz,ep,es,n,v)
theorem dit_next {s:String}{h':Heap}{cs:Us}{i:Nat}{it q:Addr}{j:Nat}{sz ep:Int}(H:Hp B h' cs) (h1:pick i cs=some (it,ditO s (.ref q) j sz ep)):Hp B (h'.update it (Obj.mapFields (·.setIfInBounds 1 (rawInt (j + 1))))) (putAt i cs (ditO s (.ref q) ((j + 1:Nat):Int) sz ep)) :=
 H.but h1 (Heap.SameBut.update _ _ _) (Heap.get?_update_self (Obj.mapFields (·.setIfInBounds 1 (rawInt (j + 1)))) (own_pick h1 H) rfl)
theorem dit_end {s:String}{h':Heap}{cs:Us}{i:Nat}{it q:Addr}{j:Nat}{sz ep:Int}(H:Hp B h' cs) (h1:pick i cs=some (it,ditO s (.ref q) j sz ep)):Hp B (h'.update it (Obj.mapFields (·.setIfInBounds 0 .none))) (putAt i cs (ditO s .none j sz ep)) :=
 H.but h1 (Heap.SameBut.update _ _ _) (Heap.get?_update_self (Obj.mapFields (·.setIfInBounds 0 .none)) (own_pick h1 H) rfl)
theorem Hp.one {h h2:Heap}{cs:Us}{e:Addr}{T:String}(H:Hp B h cs) (hk:Keeps h h2) (hn:h.get? e=none){o:Obj}(he:h2.get? e=some o) (hc:o.cls=.type T):Hp B h2 ((e,⟨.type T,o.dict,o.data,o.slots⟩) :: cs):=by
 obtain ⟨c,d1,d2,d3⟩:=o
 cases hc
 exact H.new (new:=[(e,_)]) ⟨hk,fun p hp=>by obtain rfl:=List.mem_singleton.mp hp;exact he,fun p hp=>by obtain rfl:=List.mem_singleton.mp hp;exact hn,by simp⟩
theorem dit_at {S:String}{h':Heap}{cs:Us}{i k:Nat}{it q:Addr}{j n:Nat}{sz ep:Int}{es:Array DictEntry}(H:Hp B h' cs) (hl:lkA [] cs [.c i,.c k]=some [(it,ditO S (.ref q) j sz ep),(q,dO es n)]) (hz:sz=(es.size:Int)∧ep=(n:Int)) :
   h'.get? it=some (ditO S (.ref q) j es.size n)∧h'.get? q=some ⟨.type "dict",none,.dict es n,#[]⟩:=by
 have h1:=own_pick (lkA_cons hl).1 H
 have h2:=own_pick (lkA_cons (lkA_cons hl).2).1 H
 rw [hz.1,hz.2] at h1
 unfold dO at h2
 rw [sDict_eq] at h2
 exact ⟨h1,h2⟩
noncomputable def rVnext (i k:Nat) (vs:Vs):Rul prog w A R B g d os:=rF .b 39647112825583545393006412691359451730623886891278502357897603685 anyS [] [.c i,.c k] (s6v vs)
 (fun s cs=>match s with | (it,q,j,sz,ep,es,n,v)=>⟨[.ref it],[(it,ditO sDVI (.ref q) j sz ep),(q,dO es n)],(sz=(es.size:Int)∧ep=(n:Int))∧∃ kvs p,IsD prog w es kvs∧kvs[j]?=some (p,v),none,fun u=>(.ok (.ret v),putAt i cs (ditO sDVI (.ref q) ((j + 1:Nat):Int) sz ep),u.n)⟩)
 fun s _ _ _ _ _ hid _ hl hp => ⟨fun _ _ _ h' i' H y => by
   obtain ⟨hz,kvs,p,hd,hx⟩:=hp
   obtain ⟨e,he1,he2,_⟩:=hd.item hx
   obtain ⟨hit,hdd⟩:=dit_at H hl hz
   have z:=y (xd i' 0) _ trivial (dit_next H (lkA_cons hl).1)
   rw [sDVI_eq] at hit
   exact ct_meets F.slot_dict_valueiterator_next ⟨_,hit,rfl⟩ F.entry_dict_valueiterator_next (F.args_dict_valueiterator_next_1 _) (meets_vnext_item s.1 s.2.1 s.2.2.1 s.2.2.2.2.2.2.1 s.2.2.2.2.2.1 e he1) (id_is _ hid (by decide +kernel)) ⟨hit,hdd,by rw [he2];exact z⟩⟩
noncomputable def rVend (i k:Nat):Rul prog w A R B g d os:=rF .b 39647112825583545393006412691359451730623886891278502357897603685 (noH A) [] [.c i,.c k] s6
 (fun s cs=>match s with | (it,q,j,sz,ep,es,n)=>⟨[.ref it],[(it,ditO sDVI (.ref q) j sz ep),(q,dO es n)],(sz=(es.size:Int)∧ep=(n:Int))∧∃ kvs,IsD prog w es kvs∧kvs[j]?=none,none,fun u=>(.error (.ref u.n),(u.n,⟨.type sStop,u.d,u.D,u.s⟩) :: putAt i cs (ditO sDVI .none j sz ep),u.n2)⟩)
 fun s _ _ _ _ _ hid hn hl hp => ⟨fun _ _ _ h' i' H y => by
   obtain ⟨hz,kvs,hd,hx⟩:=hp
   obtain ⟨hit,hdd⟩:=dit_at H hl hz
   have H':=dit_end H (lkA_cons hl).1
   rw [sDVI_eq] at hit
   refine ct_meets F.slot_dict_valueiterator_next ⟨_,hit,rfl⟩ F.entry_dict_valueiterator_next (F.args_dict_valueiterator_next_1 _) (meets_vnext_end s.1 s.2.1 s.2.2.1 s.2.2.2.2.2.2 s.2.2.2.2.2.1 (hd.none hx)) (id_is _ hid (by decide +kernel)) ⟨noH_ok hn,hit,hdd,fun h2' hk e' hnew he=>?_⟩
   obtain ⟨o,he',hcl⟩:=he
   rw [← sStop_eq] at hcl
   exact y { xd e' i' with d:=o.dict,s:=o.slots,D:=o.data } h2' trivial (H'.one hk hnew he' hcl)⟩
noncomputable def rKnext (i k:Nat) (p:Pt):Rul prog w A R B g d os:=rF .b 604966931542717672622778513967276790323241898245050534750821 anyS [] [.c i,.c k] s6
 (fun s cs=>match s with | (it,q,j,sz,ep,es,n)=>⟨[.ref it],[(it,ditO sDKI (.ref q) j sz ep),(q,dO es n)],(sz=(es.size:Int)∧ep=(n:Int))∧∃ kvs v,IsD prog w es kvs∧kvs[j]?=some (p,v),none,fun u=>(.ok (.ret (.str (sp p) u.n2)),putAt i cs (ditO sDKI (.ref q) ((j + 1:Nat):Int) sz ep),u.n)⟩)
 fun s _ _ _ _ _ hid _ hl hp => ⟨fun _ _ _ h' i' H y => by
   obtain ⟨hz,kvs,v,hd,hx⟩:=hp
   obtain ⟨e,he1,_,tk,he3⟩:=hd.item hx
   obtain ⟨hit,hdd⟩:=dit_at H hl hz
   have z:=y (xd i' tk) _ trivial (dit_next H (lkA_cons hl).1)
   rw [sDKI_eq] at hit
   exact ct_meets F.slot_dict_keyiterator_next ⟨_,hit,rfl⟩ F.entry_dict_keyiterator_next (F.args_dict_keyiterator_next_1 _) (meets_knext_item s.1 s.2.1 s.2.2.1 s.2.2.2.2.2.2 s.2.2.2.2.2.1 e he1) (id_is _ hid (by decide +kernel)) ⟨hit,hdd,by rw [he3];exact z⟩⟩
noncomputable def rKend (i k:Nat):Rul prog w A R B g d os:=rF .b 604966931542717672622778513967276790323241898245050534750821 (noH A) [] [.c i,.c k] s6
 (fun s cs=>match s with | (it,q,j,sz,ep,es,n)=>⟨[.ref it],[(it,ditO sDKI (.ref q) j sz ep),(q,dO es n)],(sz=(es.size:Int)∧ep=(n:Int))∧∃ kvs,IsD prog w es kvs∧kvs[j]?=none,none,fun u=>(.error (.ref u.n),(u.n,⟨.type sStop,u.d,u.D,u.s⟩) :: putAt i cs (ditO sDKI .none j sz ep),u.n2)⟩)
 fun s _ _ _ _ _ hid hn hl hp => ⟨fun _ _ _ h' i' H y => by
   obtain ⟨hz,kvs,hd,hx⟩:=hp
   obtain ⟨hit,hdd⟩:=dit_at H hl hz
   have H':=dit_end H (lkA_cons hl).1
   rw [sDKI_eq] at hit
   refine ct_meets F.slot_dict_keyiterator_next ⟨_,hit,rfl⟩ F.entry_dict_keyiterator_next (F.args_dict_keyiterator_next_1 _) (meets_knext_end s.1 s.2.1 s.2.2.1 s.2.2.2.2.2.2 s.2.2.2.2.2.1 (hd.none hx)) (id_is _ hid (by decide +kernel)) ⟨noH_ok hn,hit,hdd,fun h2' hk e' hnew he=>?_⟩
   obtain ⟨o,he',hcl⟩:=he
   rw [← sStop_eq] at hcl
   exact y { xd e' i' with d:=o.dict,s:=o.slots,D:=o.data } h2' trivial (H'.one hk hnew he' hcl)⟩
end
section
variable {prog:Program}{w:World}{A:Around}{R:Result→Shared→Prop}{B:Addr→Option Obj}{h:Heap}{cs:List (Addr×Obj)}{g:Array GenState}{d:Drawn}{t:Nat}{os:OsState}{elt target iter:Expr}{ifs:List Expr}{rest:List Comprehension}{scope:Scope}{pos:PySem.Pos}{it:Addr}{acc:Value}{env:Env}
theorem comp_val {q:Addr}{i n ep:Nat}(H:Hp B h cs) (k:Nat) (e:pick k cs=some (it,ditO sDVI (.ref q) i n ep))
   (h0:codeAny (model prog w) A (.compLoop (.ListComp elt (⟨target,iter,ifs,0⟩ :: rest) scope pos) 0 (.ref it) acc env) R ⟨h,g,d,t,os⟩) :
   codeAny (model prog w) A (.compStart (.ListComp elt (⟨target,iter,ifs,0⟩ :: rest) scope pos) 0 (.ref it) acc env) R ⟨h,g,d,t,os⟩:=by
 have hit:=own_pick e H
 unfold ditO at hit
 rw [sDVI_eq] at hit
 exact codeAny_compStart_list h0 (wpAny_pyIter_valiter ⟨_,hit,rfl,rfl⟩ h0)
theorem comp_lst {q:Addr}{i:Nat}(H:Hp B h cs) (k:Nat) (e:pick k cs=some (it,itL q i))
   (h0:codeAny (model prog w) A (.compLoop (.ListComp elt (⟨target,iter,ifs,0⟩ :: rest) scope pos) 0 (.ref it) acc env) R ⟨h,g,d,t,os⟩) :
   codeAny (model prog w) A (.compStart (.ListComp elt (⟨target,iter,ifs,0⟩ :: rest) scope pos) 0 (.ref it) acc env) R ⟨h,g,d,t,os⟩:=by
 have hit:=own_pick e H
 rw [itL_eq] at hit
 exact codeAny_compStart_list h0 (wpAny_pyIter_listiter ⟨_,hit,rfl,rfl⟩ h0)
end
noncomputable def seO (D:Data):Obj:=⟨.type sSet,none,D,#[]⟩
noncomputable def IsS (prog:Program) (w:World) (D:Data) (L:List Pt):Prop :=
 ∃ es ep t,D=.set es ep t∧ElemsOf (strKind prog w) es.toList∧(∀ k:Str,decide (k∈L.map sp)=true↔∃ e∈es.toList,(strKind prog w).is k e.2=true)∧es.size < scanBound∧t.fits es.size=true∧es.size=L.length
theorem mem_sp {p:Pt}{L:List Pt}:decide (sp p∈L.map sp)=decide (p∈L):=by
 have : sp p ∈ L.map sp ↔ p ∈ L := ⟨fun h => by
   obtain ⟨q,hq,e⟩:=List.mem_map.mp h
   rw [← sp_inj _ _ e];exact hq,List.mem_map_of_mem⟩
 by_cases h:p∈L
 · rw [decide_eq_true h,decide_eq_true (this.mpr h)]
 · rw [decide_eq_false h,decide_eq_false fun z=>h (this.mp z)]
section
variable {prog:Program}{w:World}
theorem IsS.at {D:Data}{L:List Pt}(x:IsS prog w D L){h:Heap}{a:Addr}(ho:h.get? a=some (seO D)):h.SetOf (strKind prog w) a (fun k=>decide (k∈L.map sp)) L.length:=by
 obtain ⟨es,ep,t,rfl,r⟩:=x
 unfold seO at ho
 rw [sSet_eq] at ho
 exact ⟨_,es,ep,t,ho,⟨rfl,rfl,rfl⟩,rfl,r⟩
theorem isS_of {h:Heap}{a:Addr}{S:Str→Bool}{n:Nat}(x:h.SetOf (strKind prog w) a S n){L:List Pt}(hS:∀ k,S k=decide (k∈L.map sp)) (hn:n=L.length):∃ D,h.get? a=some (seO D)∧IsS prog w D L:=by
 obtain ⟨⟨oc,od,dt,osl⟩,es,ep,t,ho,⟨h1,h2,h3⟩,hd,he,hm,hb,hf,hs⟩:=x
 dsimp only at h1 h2 h3 hd
 subst h1 h2 h3 hd
 refine ⟨_,?_,es,ep,t,rfl,he,fun k=>?_,hb,hf,hs.trans hn⟩
 · unfold seO;rw [sSet_eq];exact ho
 · rw [← hS];exact hm k
theorem IsS.same {D:Data}{L L':List Pt}(x:IsS prog w D L) (y:IsS prog w D L'):(∀ k:Str,decide (k∈L.map sp)=decide (k∈L'.map sp))∧L.length=L'.length:=by
 obtain ⟨es,ep,t,rfl,_,h1,_,_,h2⟩:=x
 obtain ⟨es',ep',t',e,_,h1',_,_,h2'⟩:=y
 injection e with e1 e2 e3
 subst e1
 exact ⟨fun k=>Bool.eq_iff_iff.mpr ((h1 k).trans (h1' k).symm),h2.symm.trans h2'⟩
end
theorem sadd_k {L:List Pt}{p:Pt}{k:Str}:(decide (k∈L.map sp) || decide (k=sp p))=decide (k∈(L++[p]).map sp):=by
 rw [List.map_append,List.map_singleton,← Bool.decide_or]
 exact decide_eq_decide.mpr (by rw [List.mem_append,List.mem_singleton])
theorem sadd_i {prog:Program}{w:World}{D D':Data}{L L':List Pt}{p:Pt}(hL':IsS prog w D L') (hd0:IsS prog w D L) (hI:IsS prog w D' (L++[p])):IsS prog w D' (L'++[p]):=by
 obtain ⟨hs1,hs2⟩:=hL'.same hd0
 obtain ⟨es,ep,tt,e,q1,q2,q3,q4,q5⟩:=hI
 refine ⟨es,ep,tt,e,q1,fun k=>?_,q3,q4,?_⟩
 · rw [← q2 k,← sadd_k,← sadd_k,hs1 k]
 · rw [q5,List.length_append,List.length_append,hs2]
section
variable {prog:Program}{w:World}{A:Around}{R:Result→Shared→Prop}{B:Addr→Option Obj}{g:Array GenState}{d:Drawn}{os:OsState}{rs:List (Addr×Obj)}
noncomputable def s8 (as:List Value) (us:Us) (_:Us):Option (Addr×Tok×Data):=gHd as fun v r=>gRef v fun q=>gHd r fun x _=>gTok x fun t=>gHd us fun c _=>some (q,t,c.2.data)
noncomputable def rSadd (i:Nat) (p:Pt):Rul prog w A R B g d os:=rF .b 28540445025199732 anyS [] [.c i] s8
 (fun s cs=>match s with | (a,t,D)=>⟨[.ref a,.str (sp p) t],[(a,seO D)],∃ L,IsS prog w D L∧p ∉ L∧L.length≤1000,some fun u=>∀ L,IsS prog w D L→IsS prog w u.D (L++[p]),fun u=>(.ok (.ret .none),putAt i cs (seO u.D),u.n)⟩)
 fun _ _ _ _ _ _ hid _ hl hp => ⟨fun _ _ _ h' i' H y => by
   obtain ⟨L,hd0,hn,hz⟩:=hp
   obtain rfl:=id_is "set.add" hid (by decide +kernel)
   have h3:=(lkA_cons hl).1
   refine go_callW (call_set_add (isStr_sp p _) rfl (hd0.at (own_pick h3 H)) (by simp only [scanBound];omega) fun h2 hs hS=>?_)
   obtain ⟨D',ho,hI⟩:=isS_of (L:=L++[p]) hS (fun k=>sadd_k) (by rw [mem_sp,decide_eq_false hn];simp)
   exact y { xd (i' + 1) 0 with D:=D' } _ ⟨fun L' hL'=>sadd_i hL' hd0 hI,trivial⟩ (H.but h3 hs ho)⟩
noncomputable def rSnew:Rul prog w A R B g d os:=rF .t 7693940 anyS [] [] (fun _ _ _=>some ())
 (fun _ cs=>⟨[],[],True,some fun u=>IsS prog w u.D [],fun u=>(.ok (.ret (.ref u.n)),(u.n,seO u.D) :: cs,u.n2)⟩)
 fun _ _ _ _ _ _ hid _ _ _ => ⟨fun _ _ _ h' i' H y => by
   obtain rfl:=cls_is "set" hid (by decide +kernel)
   refine go_callW (call_set_0 fun led=>?_)
   have:=y { xd h'.objs.size i' with D:=.set #[] 0 (.fresh 0 0 led) } _ ⟨⟨_,_,_,rfl,fun e h=>absurd h (by simp),fun k=>by simp,by decide,by rfl,rfl⟩,trivial⟩ (H.push (o:=seO (.set #[] 0 (.fresh 0 0 led))) rfl)
   unfold seO at this
   rw [sSet_eq] at this
   exact this⟩
theorem call_set_has {s:Shared}{E:Value→Shared→Prop}{a:Addr}{S:Str→Bool}{n:Nat}{k:Str}{key:Value}{Q:Value→Shared→Prop}(hkey:(strKind prog w).is k key=true) (hsc:key.scannable=true) (hS:s.heap.SetOf (strKind prog w) a S n)
   (h:Q (.bool (S k)) { s with toks:=s.toks + 1 }):wpAny (model prog w) A (call (.builtin "set.__contains__") [.ref a,key]) Q E s:=by
 refine wpAny_call_entry F.slot_set_contains hS.typeIs entry_set_contains ?_ (F.args_set_contains_2 _ _)
 unfold Builtin.«frozenset.__contains__» Builtin.Frozenset.oneOther
 simp only [List.isEmpty_nil,bind_assoc]
 unfold Builtin.Frozenset.addrOf Builtin.Frozenset.withSetAsKey setContains
 refine wpAny_bind (wpAny_pure ?_)
 try dsimp only
 refine wpAny_bind (wpAny_pure ?_)
 try dsimp only
 refine wpAny_bind (wpAny_tryCatch (wpAny_holding (wpAny_bind ((strKind prog w).pyHash hkey ?_))))
 refine wpAny_bind (wpAny_setFind_of (s:={ s with toks:=s.toks + 1 }) hkey hsc hS fun r hr=>wpAny_pure ?_)
 show wpAny _ _ (ret (Value.bool r.isSome)) _ _ _
 rw [hr]
 exact wpAny_pure ⟨_,rfl,h⟩
noncomputable def rShas (i:Nat) (p:Pt) (b:Bool):Rul prog w A R B g d os:=rF .b 128106709680535770272165659069392447092 anyS [] [.c i] s8
 (fun s cs=>match s with | (a,t,D)=>⟨[.ref a,.str (sp p) t],[(a,seO D)],∃ L,IsS prog w D L∧decide (p∈L)=b,none,fun u=>(.ok (.ret (.bool b)),cs,u.n)⟩)
 fun _ _ _ _ _ _ hid _ hl hp => ⟨fun _ _ _ h' i' H y => by
   obtain ⟨L,hd0,hb⟩:=hp
   obtain rfl:=id_is "set.__contains__" hid (by decide +kernel)
   refine go_callW (call_set_has (isStr_sp p _) rfl (hd0.at (own_pick (lkA_cons hl).1 H)) ?_)
   rw [mem_sp,hb]
   exact y (xd (i' + 1) 0) _ trivial H⟩
end
section
variable {prog:Program}{w:World}{A:Around}{R:Result→Shared→Prop}{B:Addr→Option Obj}{g:Array GenState}{d:Drawn}{os:OsState}{rs:List (Addr×Obj)}
theorem call_dict_iter {s:Shared}{E:Value→Shared→Prop}{a:Addr}{kvs:List (Str×Value)}{ep:Nat}{Q:Value→Shared→Prop}(hd:(a == sysModules)=false) (hm:s.heap.DictAt (strKind prog w) a kvs ep)
   (hQ:Q (.ref s.heap.objs.size) { s with heap:=s.heap.push { cls:=.type "dict_keyiterator",data:=.fields #[.ref a,.int 0 0,.int kvs.length 0,.int ep 0] } }) :
   wpAny (model prog w) A (call (.builtin "dict.__iter__") [.ref a]) Q E s:=by
 obtain ⟨o,es,ho,hc,hdat,hk,hp,hn⟩:=id hm
 have hT:s.TypeIs (.ref a) "dict":=hm.dictOf.typeIs
 refine wpAny_call_entry F.slot_dict_iter hT F.entry_dict_iter ?_ (F.args_dict_iter_1 _)
 unfold Builtin.«dict.__iter__»
 refine wpAny_bind ?_
 unfold Builtin.Dict.dictSlotNone
 refine wpAny_bind (wpAny_notOrdered_dict hT (wpAny_pure ?_))
 show wpAny _ _ (Builtin.Dict.showsAll a >>= _) _ _ s
 unfold Builtin.Dict.showsAll
 rw [if_neg (by rw [hd];exact Bool.false_ne_true)]
 refine wpAny_bind (wpAny_pure (wpAny_bind (wpAny_dictEntries ho hdat (wpAny_bind (wpAny_dictEpoch ho hdat ?_)))))
 have hsz:es.size=kvs.length:=by rw [← hp.length];simp
 refine wpAny_bind (wpAny_newObj_type (wpAny_pure ⟨_,rfl,?_⟩))
 simpa [rawInt,hsz] using hQ
noncomputable def rDiter (hS:(B sysModules).isSome=true) (i:Nat):Rul prog w A R B g d os:=rF .b 7635753672628796759583452588645 anyS [] [.c i] s7a
 (fun s cs=>match s with | (q,es,n)=>⟨[.ref q],[(q,dO es n)],∃ kvs,IsD prog w es kvs,none,fun u=>(.ok (.ret (.ref u.n)),(u.n,ditO sDKI (.ref q) ((0:Nat):Int) es.size n) :: cs,u.n2)⟩)
 fun s _ _ _ _ _ hid _ hl hp => ⟨fun _ _ _ h' i' H y => by
   obtain ⟨kvs,hd⟩:=hp
   obtain rfl:=id_is "dict.__iter__" hid (by decide +kernel)
   have h3:=(lkA_cons hl).1
   refine go_callW (call_dict_iter (not_sys H hS h3) (hd.at (own_pick h3 H)) ?_)
   have z:=y (xd h'.objs.size i') _ trivial (H.push (o:=ditO sDKI (.ref s.1) ((0:Nat):Int) s.2.1.size s.2.2) rfl)
   unfold ditO at z
   rw [sDKI_eq] at z
   rw [List.length_map,← hd.size]
   exact z⟩
theorem delK_nodup {kvs:List (Pt×Value)}{p:Pt}(h:(kvs.map (·.1)).Nodup):((delK kvs p).map (·.1)).Nodup:=h.sublist ((List.filter_sublist).map _)
noncomputable def rDdel (i:Nat) (p:Pt):Rul prog w A R B g d os:=rF .b 128106587276438654302609470569207589477 anyS [] [.c i] s7
 (fun s cs=>match s with | (a,t,es,n)=>⟨[.ref a,.str (sp p) t],[(a,dO es n)],∃ kvs,IsD prog w es kvs∧kvs.length≤1000∧(vat kvs p).isSome=true,some fun u=>∀ kvs,IsD prog w es kvs→IsD prog w u.T (delK kvs p),fun u=>(.ok (.ret .none),putAt i cs (dO u.T u.n2),u.n)⟩)
 fun _ _ _ _ _ _ hid _ hl hp => ⟨fun _ _ _ h' i' H y => by
   obtain ⟨kvs,hd0,hz,hv⟩:=hp
   have hd:=dget_go hl H hd0
   refine ct_meetsIn F.slot_dict_delitem hd.typeIs F.entry_dict_delitem (F.args_dict_delitem_2 _ _) (meets_dict_delitem_pairs (strKind prog w) _ (isStr_sp p _)) (id_is _ hid (by decide +kernel)) ⟨_,hd,by rw [List.length_map];exact Nat.le_trans hz (by decide),(congrArg Option.isSome (vat_spk _ _)).trans hv,fun h2 hd2 hs=>?_⟩
   rw [delK_spk] at hd2
   obtain ⟨ts',n',e⟩:=at_dct hd2
   exact y { xd (i' + 1) n' with T := (dents prog w (delK kvs p) ts').toArray } _ ⟨fun kvs' hk => by
     obtain rfl:=hk.one hd0
     exact ⟨delK_nodup hk.1,_,rfl⟩,trivial⟩ (H.but (lkA_cons hl).1 hs e)⟩
theorem mapSeq_lst {f:Array Value→Array Value}{vs vs':List Value}{n:Nat}(h:f vs.toArray=vs'.toArray):∃ n',Obj.mapSeq f (lst vs n)=lst vs' n':=by
 refine ⟨(if (f vs.toArray).size == vs.toArray.size then n else n + 1),?_⟩
 rw [lst_eq,lst_eq,← h]
 rfl
theorem pop_arr {vs vs':List Value}{x:Value}(hx:vs=vs'++[x]):vs.toArray.eraseIdxIfInBounds (vs.toArray.size - 1)=vs'.toArray:=by
 subst hx
 simp [Array.eraseIdxIfInBounds]
 rw [List.eraseIdx_append_of_length_le (Nat.le_refl _)]
 simp
theorem lst_put {f:Array Value→Array Value}{vs vs':List Value}{n i:Nat}{q:Addr}{h:Heap}{cs:Us}(H:Hp B h cs) (h3:pick i cs=some (q,lst vs n)) (e:f vs.toArray=vs'.toArray):∃ n',Hp B (h.update q (Obj.mapSeq f)) (putAt i cs (lst vs' n')):=by
 obtain ⟨n',e3⟩:=mapSeq_lst (n:=n) e
 have hget:=Heap.get?_update_self (Obj.mapSeq f) (own_pick h3 H) (by rw [e3];rfl)
 rw [e3] at hget
 exact ⟨n',H.but h3 (Heap.SameBut.update _ _ _) hget⟩
noncomputable def rPop (i:Nat) (vs':List Value) (x:Value):Rul prog w A R B g d os:=rF .b 8174157772325415533 anyS [] [.c i] s1
 (fun s cs=>match s with | (q,vs,n)=>⟨[.ref q],[(q,lst vs n)],vs=vs'++[x]∧vs.length≤1000,none,fun u=>(.ok (.ret x),putAt i cs (lst vs' u.n),u.n2)⟩)
 fun s _ _ _ _ _ hid _ hl hp => ⟨fun _ _ _ h' i' H y => by
   have hx:s.2.1=vs'++[x]:=hp.1
   have hs:s.2.1.length≤1000:=hp.2
   have h3:=(lkA_cons hl).1
   obtain ⟨n',H'⟩:=lst_put H h3 (f:=fun xs=>xs.eraseIdxIfInBounds (s.2.1.toArray.size - 1)) (vs':=vs') (pop_arr hx)
   have ho:=own_pick h3 H
   rw [lst_eq] at ho
   exact ct_meets F.slot_list_pop ⟨_,ho,rfl⟩ F.entry_list_pop (F.args_list_pop_1 _) (PySem.MeetsSeq.list_pop_last s.1 s.2.1.toArray s.2.2 x (by rw [hx];simp) (by simp [sizeLine] at hs ⊢;omega)) (id_is _ hid (by decide +kernel)) ⟨ho,y (xd n' i') _ trivial H'⟩⟩
end
theorem meets_last (q:Addr) (k:Int) (tk:Tok) (vs:Array Value) (n:Nat) (x:Value) (hk:k=Int.negSucc 0) (hx:vs[vs.size - 1]?=some x) :
   Meets (Builtin.«list.__getitem__» ⟨[.ref q,.int k tk],[]⟩) (fun _ R s=>s.heap.get? q=some { cls:=.type "list",data:=.seq vs n }∧R (.ok (.ret x)) s):=by
 refine .of_wp fun prog w A R s h=>?_
 obtain ⟨hl,h⟩:=h
 have hf:Builtin.List.listFitsIndex k=true:=fitsIndex_neg (by subst hk;decide) (by subst hk;decide)
 show wpAny _ _ (Builtin.List.listSubscript? (.int k tk) >>= _) _ _ s
 refine wpAny_bind (wpAny_listSubscript_int hf ?_)
 clear hf
 subst hk
 show wpAny _ _ ((Builtin.List.listItems (.ref q) >>= fun xs=>pure ((seqIndex? (Int.negSucc 0) xs.size).bind fun i=>xs[i]?.map (i,·))) >>= _) _ _ s
 refine wpAny_bind (wpAny_bind ?_)
 show wpAny _ _ (seqItems? (.ref q) >>= _) _ _ s
 refine wpAny_bind (wpAny_seqItems hl rfl (wpAny_pure (wpAny_pure ?_)))
 have hs:0 < vs.size:=by
   rcases Nat.eq_zero_or_pos vs.size with h0 | h0
   · rw [Array.getElem?_eq_none (by omega)] at hx;cases hx
   · exact h0
 have hidx:seqIndex? (Int.negSucc 0) vs.size=some (vs.size - 1):=by
   rw [seqIndex_neg (by decide) (by omega)]
   congr 1
   omega
 rw [hidx]
 simp only [Option.bind_some,hx,Option.map_some]
 first
   | exact wpAny_bind (wpAny_pure ⟨x, rfl, h⟩)
   | exact wpAny_pure ⟨x, rfl, h⟩
section
variable {prog:Program}{w:World}{A:Around}{R:Result→Shared→Prop}{B:Addr→Option Obj}{g:Array GenState}{d:Drawn}{os:OsState}{rs:List (Addr×Obj)}
noncomputable def s2v (x:Vs) (as:List Value) (us cs:Us):Option (Addr×Tok×List Value×Nat×Value):=(s2t as us cs).bind fun s=>(vsV cs x).bind fun v=>match s with | (q,t,vs,n)=>some (q,t,vs,n,v)
noncomputable def rLast (RX:Rin rs B) (lc:Lc) (vx:Vs):Rul prog w A R B g d os:=rF .b 128106587276438692081757506308484131437 anyS rs [lc] (s2v vx)
 (fun s cs=>match s with | (q,t,vs,n,x)=>⟨[.ref q,.int (Int.negSucc 0) t],[(q,lst vs n)],∃ vs',vs=vs'++[x],none,fun u=>(.ok (.ret x),cs,u.n)⟩)
 fun s _ _ _ _ _ hid _ hl hp => ⟨fun _ _ _ h i H z => by
   obtain ⟨vs',hp⟩:=hp
   have hq:=lk_ok RX (lkA_cons hl).1 H
   rw [lst_eq] at hq
   exact ct_meets slot_list_getitem ⟨_,hq,rfl⟩ entry_list_getitem (args_list_getitem _ _) (meets_last s.1 _ s.2.1 s.2.2.1.toArray s.2.2.2.1 s.2.2.2.2 rfl (by rw [show s.2.2.1=vs'++[s.2.2.2.2] from hp];simp)) (id_is _ hid (by decide +kernel)) ⟨hq,z (xd i 0) _ trivial H⟩⟩
noncomputable def rLenL (RX:Rin rs B) (lc:Lc) (m:Nat):Rul prog w A R B g d os:=rF .b 7300717 anyS rs [lc] s1
 (fun s cs=>match s with | (q,vs,n)=>⟨[.ref q],[(q,lst vs n)],vs.length=m∧m≤1000,none,fun u=>(.ok (.ret (.int (m:Int) u.n)),cs,u.n2)⟩)
 fun s _ _ _ _ _ hid _ hl hp => ⟨fun _ _ _ h i H y => by
   obtain ⟨rfl,hm⟩:=hp
   obtain rfl:=id_is "len" hid (by decide +kernel)
   have ho:=lk_ok RX (lkA_cons hl).1 H
   rw [lst_eq] at ho
   exact go_callW (PyProof.Rows.len_list (l:=s.1) (items:=s.2.1.toArray) ⟨_,ho,rfl,_,rfl⟩ (by rw [List.size_toArray];have:s.2.1.length≤1000:=hm;omega) (y (xd (i + 1) (i + 2)) h trivial H))⟩
noncomputable def rLenB (RX:Rin rs B) (lc:Lc) (m:Nat):Rul prog w A R B g d os:=rF .p 7300717 anyS rs [lc] s1
 (fun s cs=>match s with | (q,vs,n)=>⟨[.ref q],[(q,lst vs n)],vs.length=m∧m≤1000,none,fun u=>(.ok (.ret (.int (m:Int) u.n)),cs,u.n2)⟩)
 fun s _ _ _ _ _ hid _ hl hp => ⟨fun _ _ _ h i H y => by
   obtain ⟨rfl,hm⟩:=hp
   have hm:s.2.1.length≤1000:=hm
   obtain rfl:=id_is "len" hid (by decide +kernel)
   have ho:=lk_ok RX (lkA_cons hl).1 H
   rw [lst_eq] at ho
   refine go_call (by intro x;cases x) (codeAny_builtin entry_len ?_)
   have hl:h.IsList s.1 s.2.1.toArray:=⟨_,ho,rfl,_,rfl⟩
   unfold Builtin.«len»
   refine wpAny_bind (m:=oneArg "len" _) (wpAny_pure ?_)
   refine wpAny_bind (m := callSpecial? (.ref s.1) (Str.ofString "__len__")) (wpAny_callSpecial?_slot (name := Str.ofString "__len__") hl.typeIs slot_list_len
     (wpAny_call_entry slot_list_len hl.typeIs entry_list_len ?_ (args_list_len _)))
   show wpAny _ _ (do retInt (← seqSize s.1)) _ _ _
   unfold seqSize
   refine wpAny_bind (wpAny_bind (wpAny_load ho ?_))
   refine wpAny_pure (wpAny_bind (wpAny_mkInt (wpAny_pure ⟨_,rfl,?_⟩)))
   refine wpAny_bind (wpAny_holding (wpAny_pure ?_))
   refine wpAny_bind (wpAny_letGo ?_)
   simp only [List.size_toArray]
   show wpAny _ _ (if ((s.2.1.length:Nat):Int) < 0 then _ else _) _ _ _
   rw [if_neg (by omega)]
   show wpAny _ _ (if ((s.2.1.length:Nat):Int) ≥ 2 ^ 63 then _ else _) _ _ _
   rw [if_neg (by omega)]
   exact wpAny_bind (wpAny_mkInt (wpAny_pure (y (xd (i + 1) (i + 2)) h trivial H)))⟩
end
section
open PySem.AutoSeq1
theorem meets_next_end2 (it l:Addr) (i:Nat) (vs:Array Value) (n:Nat) (hx:vs[i]?=none) :
   Meets (Builtin.«list_iterator.__next__» ⟨[.ref it], []⟩) (fun A R s => A.handled = none ∧ s.heap.get? it = some { cls := .type "list_iterator", data := .fields #[.ref l, .int i 0] } ∧ s.heap.get? l = some { cls := .type "list", data := .seq vs n } ∧
     ∀ h',Keeps ((s.heap.update it (Obj.mapFields (·.setIfInBounds 0 .none)))) h'→∀ e,((s.heap.update it (Obj.mapFields (·.setIfInBounds 0 .none))).get? e=none)→(∃ tt,h'.get? e=some ⟨.type "StopIteration",none,.fields #[tt,.none,.none,.none,.bool false,.none],#[]⟩)→R (.error (.ref e)) { s with heap:=h' }):=fun prog w A R s h=>by
   obtain ⟨hp,g,d,tk,os⟩:=s;obtain ⟨hh,hit,hl,h⟩:=h
   wp_walk using wpAny_loadPart' hit,wpAny_loadPart' hl
   have hx':vs[(i:Int).toNat]?=none:=hx
   rw [hx']
   refine wpAny_bind (wpAny_rule (wpAny_bind (wpAny_setField hit rfl (by decide:0 < 2) ?_)))
   show wpAny _ _ (newExc (.type "StopIteration") [] >>= _) _ _ _
   refine wpAny_bind ?_
   simp only [newExc,newTuple]
   refine wpAny_bind (wpAny_newObj_type ?_ (by size_fits))
   refine wpAny_bind (m:=firstArgMember _ _) (wpAny_of_eq (a:=Value.none) (by first | rfl | (simp only [firstArgMember];rfl)) ?_)
   refine wpAny_newObj_type ?_ (by size_fits)
   simp only [raiseNew]
   refine wpAny_bind (wpAny_handled ?_)
   rw [show A.in1.handled=none from hh]
   refine wpAny_bind (wpAny_pure (wpAny_throw ?_))
   refine h _ (fun b o e=>Heap.get?_push_of_some _ (Heap.get?_push_of_some _ e)) _ ?_ ⟨_,Heap.get?_push_size _ rfl⟩
   cases hq:(hp.update it (Obj.mapFields (·.setIfInBounds 0 .none))).get? _ with
   | none => rfl
   | some o => exact absurd (Heap.lt_size hq) (by simp [Heap.push])
end
noncomputable def bmO (id:String) (it:Addr):Obj:=⟨.type "method-wrapper",none,.fields #[.builtin id,.ref it],#[]⟩
noncomputable abbrev idLN:String:=toString PySem.W.SZ.s3492446563574874994x13++toString "."++toString (PySem.W.ZFast.zw16320311567567194475 (Str.ofString "__next__"))
theorem idLN_eq:idLN="list_iterator.__next__":=id_is "list_iterator.__next__" (n:=PySem.code "list_iterator.__next__") (by decide +kernel) rfl
section
variable {prog:Program}{w:World}{A:Around}{R:Result→Shared→Prop}{l:List Kt}{c:Code}{h:Heap}{g:Array GenState}{d:Drawn}{t:Nat}{os:OsState}{gg:Bool}{lv:List Value}{k:Result→Sem Fin}{bm it:Addr}
theorem go_bm (hbm:h.get? bm=some (bmO idLN it))
   (x:codeAny (model prog w) (ar A (⟨c,none,k⟩ :: l)) (.builtin idLN ⟨[.ref it],[]⟩) (fun r s'=>Go prog w A R l c (k r) s') ⟨h,g,d,t,os⟩) :
   Go prog w A R l c (.call (.call (.ref bm) ⟨[],[]⟩) none gg lv k) ⟨h,g,d,t,os⟩:=by
 refine go_callGo (by intro z;cases z) ?_
 refine go_load (o:=bmO idLN it) (a:=bm) hbm (go_adv (n:=300) rfl ?_)
 exact go_again (by kernel_rfl) x
end
section
variable {prog:Program}{w:World}{A:Around}{R:Result→Shared→Prop}{B:Addr→Option Obj}{g:Array GenState}{d:Drawn}{os:OsState}{rs:List (Addr×Obj)}
noncomputable def s9 (_:Code) (us:Us):Option (Addr×Addr×Addr×Nat×List Value×Nat):=gHd us fun b r=>gHd r fun c r=>gFld c.2 fun fs=>gHd fs fun f r2=>gRef f fun q=>gHd r2 fun f2 _=>gNat f2 fun j=>gHd r fun c2 _=>gSeq c2.2 fun vs n=>some (b.1,c.1,q,j,vs,n)
noncomputable def rBnext (RX:Rin rs B) (i p:Nat) (lc:Lc) (x:Value):Rul prog w A R B g d os:=rFC anyS rs [.c i,.c p,lc] s9 (fun s=>.call (.ref s.1) ⟨[],[]⟩)
 (fun s cs=>match s with | (bm,it,q,j,vs,n)=>⟨[],[(bm,bmO idLN it),(it,itL q j),(q,lst vs n)],vs[j]?=some x,none,fun u=>(.ok (.ret x),putAt p cs (itL q (j + 1)),u.n)⟩)
 fun s l c _ _ _ hl hp => ⟨fun _ _ kk h' i' H y => go_bm (lk_ok RX (lkA_cons hl).1 H) (by
   have hl:=(lkA_cons hl).2
   have h4:=(lkA_cons hl).1
   have hit:=own_pick h4 H
   have hq:=lk_ok RX (lkA_cons (lkA_cons hl).2).1 H
   have H':=H.but h4 (Heap.SameBut.update _ _ _) (Heap.get?_update_self (Obj.mapFields (·.setIfInBounds 1 (rawInt (s.2.2.2.1 + 1)))) hit rfl)
   have z:=y (xd i' 0) _ trivial H'
   rw [itL_eq] at hit
   rw [lst_eq] at hq
   rw [idLN_eq]
   refine codeAny_builtin entry_listiter_next ?_
   rw [Around.under_plainId slot_listiter_next.plain _]
   exact meets_next_item s.2.1 s.2.2.1 s.2.2.2.1 s.2.2.2.2.1.toArray s.2.2.2.2.2 x (by rw [List.getElem?_toArray];exact hp) prog w _ (fun r s'=>Go prog w A R l c (kk r) s') ⟨h',g,d,i',os⟩ ⟨hit,hq,z⟩)⟩
noncomputable def rBend (RX:Rin rs B) (i p:Nat) (lc:Lc):Rul prog w A R B g d os:=rFC (noH A) rs [.c i,.c p,lc] s9 (fun s=>.call (.ref s.1) ⟨[],[]⟩)
 (fun s cs=>match s with | (bm,it,q,j,vs,n)=>⟨[],[(bm,bmO idLN it),(it,itL q j),(q,lst vs n)],vs[j]?=none,none,fun u=>(.error (.ref u.n),(u.n,excO sStop u.v none #[]) :: putAt p cs (itD j),u.n2)⟩)
 fun s l c _ _ hn hl hp => ⟨fun _ _ kk h' i' H y => go_bm (lk_ok RX (lkA_cons hl).1 H) (by
   have hl:=(lkA_cons hl).2
   have h4:=(lkA_cons hl).1
   have hit:=own_pick h4 H
   have hq:=lk_ok RX (lkA_cons (lkA_cons hl).2).1 H
   have H':=H.but h4 (Heap.SameBut.update _ _ _) (o':=itD s.2.2.2.1) (Heap.get?_update_self (Obj.mapFields (·.setIfInBounds 0 .none)) hit rfl)
   rw [itL_eq] at hit
   rw [lst_eq] at hq
   rw [idLN_eq]
   refine codeAny_builtin entry_listiter_next ?_
   rw [Around.under_plainId slot_listiter_next.plain _]
   refine meets_next_end2 s.2.1 s.2.2.1 s.2.2.2.1 s.2.2.2.2.1.toArray s.2.2.2.2.2 (by rw [List.getElem?_toArray];exact hp) prog w _ (fun r s'=>Go prog w A R l c (kk r) s') ⟨h',g,d,i',os⟩ ⟨noH_ok hn,hit,hq,fun h2' hk e' hnew hex=>?_⟩
   obtain ⟨tt,he'⟩:=hex
   rw [← sStop_eq] at he'
   exact y { xd e' i' with v:=tt } h2' trivial (H'.one0 hk hnew he'))⟩
theorem go_rule {h:Heap}{l:List Kt}{c c':Code}{cs:List (Addr×Obj)}{gg:Bool}{lv:List Value}{k:Result→Sem Fin}{i:Nat}(Q:Rul prog w A R B g d os){es:List (Qx×Qx)}{P:Prop}{fc:Option (Xd→Prop)}{post:Xd→Result×List (Addr×Obj)×Nat}(e:Q.eff l c c' cs=some ⟨es,P,fc,post⟩) (he:addL es []=addR es []) (hp:P) (H:Hp B h cs)
   (x:∀ y h',fac fc y True→Hp B h' (post y).2.1→Go prog w A R l c (k (post y).1) ⟨h',g,d,(post y).2.2,os⟩):Go prog w A R l c (.call c' none gg lv k) ⟨h,g,d,i,os⟩ :=
 (Q.ok _ _ _ _ _ e (add_ok he).1 hp).ok gg lv k h i H x
end
section
open PySem.AutoSeq1
theorem meets_tnext_item (it l:Addr) (i:Nat) (vs:Array Value) (n:Nat) (x:Value) (hx:vs[i]?=some x) :
   Meets (Builtin.«tuple_iterator.__next__» ⟨[.ref it], []⟩) (fun _ R s => s.heap.get? it = some { cls := .type "tuple_iterator", data := .fields #[.ref l, .int i 0] } ∧ s.heap.get? l = some { cls := .type "tuple", data := .seq vs n } ∧
     R (.ok (.ret x)) { s with heap:=s.heap.update it (Obj.mapFields (·.setIfInBounds 1 (rawInt (i + 1)))) }) :=
 .of_wp fun prog w A R s h => by
   obtain ⟨hp,g,d,tk,os⟩:=s;obtain ⟨hit,hl,h⟩:=h
   wp_walk using wpAny_loadPart' hit,wpAny_loadPart' hl
   have hx':vs[(i:Int).toNat]?=some x:=hx
   rw [hx']
   refine wpAny_bind (wpAny_setField hit rfl (by decide:1 < 2) ?_)
   wp_walk
   exact ⟨_,rfl,h⟩
theorem meets_tnext_end2 (it l:Addr) (i:Nat) (vs:Array Value) (n:Nat) (hx:vs[i]?=none) :
   Meets (Builtin.«tuple_iterator.__next__» ⟨[.ref it], []⟩) (fun A R s => A.handled = none ∧ s.heap.get? it = some { cls := .type "tuple_iterator", data := .fields #[.ref l, .int i 0] } ∧ s.heap.get? l = some { cls := .type "tuple", data := .seq vs n } ∧
     ∀ h',Keeps ((s.heap.update it (Obj.mapFields (·.setIfInBounds 0 .none)))) h'→∀ e,((s.heap.update it (Obj.mapFields (·.setIfInBounds 0 .none))).get? e=none)→(∃ tt,h'.get? e=some ⟨.type "StopIteration",none,.fields #[tt,.none,.none,.none,.bool false,.none],#[]⟩)→R (.error (.ref e)) { s with heap:=h' }):=fun prog w A R s h=>by
   obtain ⟨hp,g,d,tk,os⟩:=s;obtain ⟨hh,hit,hl,h⟩:=h
   wp_walk using wpAny_loadPart' hit,wpAny_loadPart' hl
   have hx':vs[(i:Int).toNat]?=none:=hx
   rw [hx']
   refine wpAny_bind (wpAny_rule (wpAny_bind (wpAny_setField hit rfl (by decide:0 < 2) ?_)))
   show wpAny _ _ (newExc (.type "StopIteration") [] >>= _) _ _ _
   refine wpAny_bind ?_
   simp only [newExc,newTuple]
   refine wpAny_bind (wpAny_newObj_type ?_ (by size_fits))
   refine wpAny_bind (m:=firstArgMember _ _) (wpAny_of_eq (a:=Value.none) (by first | rfl | (simp only [firstArgMember];rfl)) ?_)
   refine wpAny_newObj_type ?_ (by size_fits)
   simp only [raiseNew]
   refine wpAny_bind (wpAny_handled ?_)
   rw [show A.in1.handled=none from hh]
   refine wpAny_bind (wpAny_pure (wpAny_throw ?_))
   refine h _ (fun b o e=>Heap.get?_push_of_some _ (Heap.get?_push_of_some _ e)) _ ?_ ⟨_,Heap.get?_push_size _ rfl⟩
   cases hq:(hp.update it (Obj.mapFields (·.setIfInBounds 0 .none))).get? _ with
   | none => rfl
   | some o => exact absurd (Heap.lt_size hq) (by simp [Heap.push])
end
noncomputable def itT (q:Addr) (i:Nat):Obj:=⟨.type sTI,none,.fields #[.ref q,.int i 0],#[]⟩
noncomputable def itTD (i:Nat):Obj:=⟨.type sTI,none,.fields #[.none,.int i 0],#[]⟩
section
variable {prog:Program}{w:World}{A:Around}{R:Result→Shared→Prop}{B:Addr→Option Obj}{g:Array GenState}{d:Drawn}{os:OsState}{rs:List (Addr×Obj)}
noncomputable def rClear (i:Nat):Rul prog w A R B g d os:=rF .b 544887307114752062548589 anyS [] [.c i] s1
 (fun s cs=>match s with | (q,vs,n)=>⟨[.ref q],[(q,lst vs n)],vs.length≤1000,none,fun u=>(.ok (.ret .none),putAt i cs (lst [] u.n),u.n2)⟩)
 fun s _ _ _ _ _ hid _ hl hp => ⟨fun _ _ _ h' i' H y => by
   have hs:s.2.1.length≤1000:=hp
   have h3:=(lkA_cons hl).1
   obtain ⟨n',H'⟩:=lst_put H h3 (f:=fun _=>#[]) (vs':=[]) rfl
   have ho:=own_pick h3 H
   rw [lst_eq] at ho
   exact ct_meets F.slot_list_clear ⟨_,ho,rfl⟩ F.entry_list_clear (F.args_list_clear_1 _) (PySem.AutoSeq1.list_clear_list_0 s.1 s.2.1.toArray s.2.2 (by simp [sizeLine];omega)) (id_is _ hid (by decide +kernel)) ⟨ho,y (xd n' i') _ trivial H'⟩⟩
noncomputable def rTup (RX:Rin rs B) (lc:Lc):Rul prog w A R B g d os:=rF .t 439922816629 anyS rs [lc] s1
 (fun s cs=>match s with | (q,vs,n)=>⟨[.ref q],[(q,lst vs n)],vs.length≤1000,none,fun u=>(.ok (.ret (.ref u.n)),(u.n,tupO vs 0) :: cs,u.n2)⟩)
 fun s _ _ _ cs _ hid _ hl hp => ⟨fun _ _ _ h' i' H y => by
   have hs:s.2.1.length≤1000:=hp
   obtain rfl:=cls_is "tuple" hid (by decide +kernel)
   have ho:=lk_ok RX (lkA_cons hl).1 H
   rw [lst_eq] at ho
   refine go_callW (call_tuple_list (l:=s.1) (items:=s.2.1.toArray) ⟨_,ho,rfl,_,rfl⟩ (fun h2 hk=>?_) (by simp [sizeLine];omega))
   have H2:Hp B h2 cs:=H.on hk
   have:=y (xd h2.objs.size i') _ trivial (H2.push (o:=tupO s.2.1 0) rfl)
   unfold tupO at this
   rw [sTup_eq] at this
   exact this⟩
noncomputable def rTnext (RX:Rin rs B) (p:Nat) (lc:Lc) (x:Value):Rul prog w A R B g d os:=rF .b 9231062798198206674541908477283886571094360729198884469 anyS rs [.c p,lc] s5
 (fun s cs=>match s with | (it,q,j,vs,n)=>⟨[.ref it],[(it,itT q j),(q,tupO vs n)],vs[j]?=some x,none,fun u=>(.ok (.ret x),putAt p cs (itT q (j + 1)),u.n)⟩)
 fun s _ _ _ _ _ hid _ hl hp => ⟨fun _ _ _ h' i' H y => by
   have h2:=(lkA_cons hl).1
   have hit:=own_pick h2 H
   have hq:=lk_ok RX (lkA_cons (lkA_cons hl).2).1 H
   have z:=y (xd i' 0) _ trivial (H.but h2 (Heap.SameBut.update _ _ _) (Heap.get?_update_self (Obj.mapFields (·.setIfInBounds 1 (rawInt (s.2.2.1 + 1)))) hit rfl))
   unfold itT at hit
   unfold tupO at hq
   rw [sTI_eq] at hit
   rw [sTup_eq] at hq
   exact ct_meets F.slot_tuple_iterator_next ⟨_,hit,rfl⟩ F.entry_tuple_iterator_next (F.args_tuple_iterator_next_1 _) (meets_tnext_item s.1 s.2.1 s.2.2.1 s.2.2.2.1.toArray s.2.2.2.2 x (by rw [List.getElem?_toArray];exact hp)) (id_is _ hid (by decide +kernel)) ⟨hit,hq,z⟩⟩
noncomputable def rTend (RX:Rin rs B) (p:Nat) (lc:Lc):Rul prog w A R B g d os:=rF .b 9231062798198206674541908477283886571094360729198884469 (noH A) rs [.c p,lc] s5
 (fun s cs=>match s with | (it,q,j,vs,n)=>⟨[.ref it],[(it,itT q j),(q,tupO vs n)],vs[j]?=none,none,fun u=>(.error (.ref u.n),(u.n,excO sStop u.v none #[]) :: putAt p cs (itTD j),u.n2)⟩)
 fun s _ _ _ _ _ hid hn hl hp => ⟨fun _ _ _ h' i' H y => by
   have h2:=(lkA_cons hl).1
   have hit:=own_pick h2 H
   have hq:=lk_ok RX (lkA_cons (lkA_cons hl).2).1 H
   have H':=H.but h2 (Heap.SameBut.update _ _ _) (o':=itTD s.2.2.1) (Heap.get?_update_self (Obj.mapFields (·.setIfInBounds 0 .none)) hit rfl)
   unfold itT at hit
   unfold tupO at hq
   rw [sTI_eq] at hit
   rw [sTup_eq] at hq
   refine ct_meets F.slot_tuple_iterator_next ⟨_,hit,rfl⟩ F.entry_tuple_iterator_next (F.args_tuple_iterator_next_1 _) (meets_tnext_end2 s.1 s.2.1 s.2.2.1 s.2.2.2.1.toArray s.2.2.2.2 (by rw [List.getElem?_toArray];exact hp)) (id_is _ hid (by decide +kernel)) ⟨noH_ok hn,hit,hq,fun h2' hk e' hnew hex=>?_⟩
   obtain ⟨tt,he'⟩:=hex
   rw [← sStop_eq] at he'
   exact y { xd e' i' with v:=tt } h2' trivial (H'.one0 hk hnew he')⟩
end
theorem meets_bool_list (l:Addr) (vs:Array Value) (n:Nat) (hfit:(vs.size:Int) < 2 ^ 63) :
   Meets (Builtin.«bool.__new__» ⟨[.type "bool",.ref l],[]⟩) (fun _ R s=>s.heap.get? l=some { cls:=.type "list",data:=.seq vs n }∧R (.ok (.ret (.bool (!vs.isEmpty)))) { s with toks:=s.toks + 1 + 1 }) :=
 Meets.of_wp fun prog w A R s hs => by
   obtain ⟨hp,g,d,tk,os⟩:=s
   obtain ⟨hl,hs⟩:=hs
   have f1:=F.conv_sub_bool
   repeat (any_goals (first | assumption | (refine wpAny_bind (m:=truthy _) (wpAny_truthy_list ⟨_,hl,rfl,_,rfl⟩ hfit ?_)) | (refine wpAny_truthy_list ⟨_,hl,rfl,_,rfl⟩ hfit ?_) | wp_step))
   all_goals first | exact ⟨_,rfl,hs⟩ | exact hs | skip
section
variable {prog:Program}{w:World}{A:Around}{R:Result→Shared→Prop}{B:Addr→Option Obj}{g:Array GenState}{d:Drawn}{os:OsState}{rs:List (Addr×Obj)}
noncomputable def rBool (RX:Rin rs B) (lc:Lc) (b:Bool):Rul prog w A R B g d os:=rF .t 1836085347 anyS rs [lc] s1
 (fun s cs=>match s with | (q,vs,n)=>⟨[.ref q],[(q,lst vs n)],vs.length≤1000∧(!vs.isEmpty)=b,none,fun u=>(.ok (.ret (.bool b)),cs,u.n)⟩)
 fun s _ _ _ _ _ hid _ hl hp => ⟨fun _ _ _ h' i' H y => by
   have hs:s.2.1.length≤1000:=hp.1
   obtain rfl:=cls_is "bool" hid (by decide +kernel)
   have ho:=lk_ok RX (lkA_cons hl).1 H
   rw [lst_eq] at ho
   refine go_callW (call_bool_1 (meets_bool_list s.1 s.2.1.toArray s.2.2 (by rw [List.size_toArray];omega)) ⟨ho,?_⟩)
   rw [show (!s.2.1.toArray.isEmpty)=b from (by rw [List.isEmpty_toArray];exact hp.2)]
   exact ⟨rfl,y (xd (i' + 1 + 1) 0) _ trivial H⟩⟩
end
section
open PyProof.Rows
variable {prog:Program}{w:World}{A:Around}{E:Value→Shared→Prop}{s:Shared}
theorem collect_tup {l:Addr}{vs:List Value}{n:Nat}{Q:List Value→Shared→Prop}(ho:s.heap.get? l=some ⟨.type "tuple",none,.seq vs.toArray n,#[]⟩) (hsz:vs.length≤1000)
   (h:Q vs { s with heap:=(s.heap.push (seqObj "list" #[] 0)).update s.heap.objs.size (Obj.mapSeq (·++vs.toArray)) }):wpAny (model prog w) A (collect (.ref l)) Q E s:=by
 unfold collect
 refine wpAny_bind (wpAny_runValue (codeAny_builtin entry_proto_collect' ?_))
 refine wpAny_bind (m:=newList []) (wpAny_newList (wpAny_pure ⟨Code.quiet_builtin _ (by decide +kernel),codeAny_builtin entry_list_iadd' ?_⟩))
 have ho':=Heap.get?_push_of_some (seqObj "list" #[] 0) ho
 have hn:(s.heap.push (seqObj "list" #[] 0)).get? s.heap.objs.size=some (seqObj "list" #[] 0):=Heap.get?_push_size _ rfl
 show wpAny _ _ (Builtin.List.listExtendWith (.ref s.heap.objs.size) (.ref l) (.ref s.heap.objs.size)) _ _ { s with heap:=s.heap.push (seqObj "list" #[] 0) }
 unfold Builtin.List.listExtendWith
 refine wpAny_bind (wpAny_typeOf (T:="tuple") ⟨_,ho',rfl⟩ ?_)
 rw [if_pos (by rw [show (Value.type "tuple" == Value.type "tuple")=true from by rfl];simp)]
 refine wpAny_bind (listItems_at ho' rfl ?_)
 refine wpAny_bind (listItems_at hn rfl ?_)
 rw [if_neg (by simp)]
 refine wpAny_bind (listUpdate_at hn rfl ?_ (Nat.zero_le _) (by show (#[]++vs.toArray).size≤sizeLine + 1;simp [sizeLine];omega))
 refine wpAny_pure ?_
 refine wpAny_bind (m:=load s.heap.objs.size) (wpAny_load (get?_update_seq hn _) ?_)
 show wpAny _ _ (pure ((#[]:Array Value)++vs.toArray).toList) Q E _
 rw [show ((#[]:Array Value)++vs.toArray).toList=vs by simp]
 exact wpAny_pure h
theorem sorted_tup {l:Addr}{vs:List Value}{ss:List Str}{n:Nat}{Q:Value→Shared→Prop}(ho:s.heap.get? l=some ⟨.type "tuple",none,.seq vs.toArray n,#[]⟩) (hS:StrsAre vs ss) (h64:vs.length < 64)
   (h:∀ (out:Array Value) (ss':List Str),StrsAre out.toList ss'→ss'.Perm ss→sortedS ss'=true→Q (.ref (s.heap.objs.size + 1)) { s with heap:=sortedAll s.heap vs out }) :
   wpAny (model prog w) A (call (.builtin "sorted") [.ref l]) Q E s:=by
 refine Calls.call_function_entry kind_sorted plain_sorted entry_sorted (args_sorted1 _) ?_
 unfold Builtin.«sorted»
 refine wpAny_bind (m:=checkCount "sorted" 1 1 _) (wpAny_pure ?_)
 refine wpAny_bind (collect_tup ho (by omega) ?_)
 refine wpAny_bind (wpAny_newList ?_)
 have hsz:((s.heap.push (seqObj "list" #[] 0)).update s.heap.objs.size (Obj.mapSeq (·++vs.toArray))).objs.size=s.heap.objs.size + 1:=by rw [Heap.size_update,size_push']
 have hoL:=Heap.get?_push_size ((s.heap.push (seqObj "list" #[] 0)).update s.heap.objs.size (Obj.mapSeq (·++vs.toArray))) (o:=seqObj "list" vs.toArray 0) rfl
 rw [hsz] at hoL
 show wpAny _ _ _ _ _ { s with heap:=((s.heap.push (seqObj "list" #[] 0)).update s.heap.objs.size (Obj.mapSeq (·++vs.toArray))).push (seqObj "list" vs.toArray 0) }
 rw [hsz]
 refine wpAny_bind (wpAny_holding (wpAny_call_entry slot_list_sort ⟨_,hoL,rfl⟩ entry_list_sort (list_sort_treeK strKind_oneLt hoL hS.keysOf (fun v₁ v₂ rest e=>keyKind_strs (by rw [← e];exact hS)) h64 fun st' a1 a2=>⟨_,rfl,?_⟩) (args_list_sort _)))
 obtain ⟨ss',h1,h2,h3⟩:=sorted_out_str hS a1 a2
 exact wpAny_pure ⟨_,rfl,h _ ss' h1 h2 h3⟩
end
section
variable {prog:Program}{w:World}{A:Around}{R:Result→Shared→Prop}{B:Addr→Option Obj}{g:Array GenState}{d:Drawn}{os:OsState}{rs:List (Addr×Obj)}
noncomputable def rSortedT (RX:Rin rs B) (lc:Lc) (L:List PT):Rul prog w A R B g d os:=rF .b 111490731569268 anyS rs [lc] s1
 (fun s cs=>match s with | (q,_,n)=>⟨[.ref q],[(q,tupO (L.map pv) n)],L.length < 64,none,fun u=>(.ok (.ret (.ref u.n)),(u.n,lst ((tag (srt (pts L)) u.L).map pv) u.n2) :: cs,u.n3)⟩)
 fun _ _ _ _ _ _ hid _ hl hp => ⟨fun _ _ _ h i H y => by
   have ho:=lk_ok RX (lkA_cons hl).1 H
   unfold tupO at ho
   rw [sTup_eq] at ho
   exact ct_sortedG hid H (fun x => sorted_tup ho (strsAre_pv L) (by rw [List.length_map]; exact hp) x) fun h' r n' L' H' hP hS => by
     have e2:tag (srt (pts L)) (L'.map (·.2))=L':=srt_eq hP (sorted_pw _ hS) ▸ tag_pts L'
     rw [← e2] at H'
     exact y { xd r n' with n3:=i,L:=L'.map (·.2) } h' trivial H'⟩
end
section
variable {prog:Program}{w:World}{A:Around}{R:Result→Shared→Prop}{B:Addr→Option Obj}{g:Array GenState}{d:Drawn}{os:OsState}{rs:List (Addr×Obj)}
noncomputable def rIcmp {id':String}{Bi:Builtin}{nm:Str}{f:Int→Int→Bool}(n:Nat) (sl:Slot "int" nm id') (en:entryFor table id'=some Bi) (ar:∀ a b:Value,argsOk id' ⟨[a,b],[]⟩) (gv:∀ (a b:Int) (t u:Tok),Gives (Bi ⟨[.int a t,.int b u],[]⟩) (.val (.bool (f a b)))) (hn:PySem.code id'=n) (r:Bool):Rul prog w A R B g d os :=
 rF .b n anyS [] [] (fun as _ _=>gHd as fun v r=>gInt v fun x t=>gHd r fun v _=>gInt v fun y u=>some (x,t,y,u))
 (fun s cs=>match s with | (x,t,y,u)=>⟨[.int x t,.int y u],[],f x y=r,none,fun u=>(.ok (.ret (.bool r)),cs,u.n)⟩)
 fun _ _ _ _ _ _ hid _ _ hp => ⟨fun _ _ _ _ i H z => by
   obtain rfl:=id_is id' hid hn
   cases hp
   exact go_callW (call_gives sl (typeIs_int _ _ _) en (ar _ _) (gv _ _ _ _) (z (xd i 0) _ trivial H))⟩
noncomputable def rIlt (r:Bool):Rul prog w A R B g d os:=rIcmp 455126531311803185852266 F.slot_int_lt F.entry_int_lt (F.args_int_lt_2) gives_int_lt (by decide +kernel) r
noncomputable def rIeq (r:Bool):Rul prog w A R B g d os:=rIcmp 455126313168696235093866 F.slot_int_eq F.entry_int_eq (F.args_int_eq_2) gives_int_eq (by decide +kernel) r
end
section
open PyProof.Rows
variable {prog:Program}{w:World}{A:Around}{R:Result→Shared→Prop}{B:Addr→Option Obj}{g:Array GenState}{d:Drawn}{os:OsState}{rs:List (Addr×Obj)}
noncomputable def rColl (RX:Rin rs B) (lc:Lc):Rul prog w A R B g d os:=rF .p 9300767342341403084508581884785 anyS rs [lc] s1
 (fun s cs=>match s with | (q,vs,n)=>⟨[.ref q],[(q,tupO vs n)],vs.length≤1000,none,fun u=>(.ok (.ret (.ref u.n)),(u.n,lst vs u.n2) :: cs,u.t)⟩)
 fun s _ _ _ _ _ hid _ hl hp => ⟨fun _ _ _ h i H y => by
   have hs:s.2.1.length≤1000:=hp
   obtain rfl:=id_is "proto.collect" hid (by decide +kernel)
   have ho:=lk_ok RX (lkA_cons hl).1 H
   unfold tupO at ho
   rw [sTup_eq] at ho
   have H1:=H.push (o:=lst [] 0) rfl
   obtain ⟨n',H2⟩:=lst_put H1 (i:=0) rfl (f:=(·++s.2.1.toArray)) (vs':=s.2.1) (by simp)
   have z:=y { xd h.objs.size n' with t:=i } _ trivial H2
   rw [lst_eq] at z
   have ho':=Heap.get?_push_of_some (seqObj "list" #[] 0) ho
   have hn:(h.push (seqObj "list" #[] 0)).get? h.objs.size=some (seqObj "list" #[] 0):=Heap.get?_push_size _ rfl
   refine go_call (by intro x;cases x) (codeAny_builtin entry_proto_collect' ?_)
   refine wpAny_bind (m:=newList []) ?_
   refine wpAny_newList (hsz:=Nat.zero_le _) ?_
   refine wpAny_pure ⟨Code.quiet_builtin _ (by decide +kernel),codeAny_builtin entry_list_iadd' ?_⟩
   show wpAny _ _ (Builtin.List.listExtendWith (.ref h.objs.size) (.ref s.1) (.ref h.objs.size)) _ _ ⟨h.push (seqObj "list" #[] 0),g,d,i,os⟩
   unfold Builtin.List.listExtendWith
   refine wpAny_bind (wpAny_typeOf (T:="tuple") ⟨_,ho',rfl⟩ ?_)
   rw [if_pos (by rw [show (Value.type "tuple" == Value.type "tuple")=true from by rfl];simp)]
   refine wpAny_bind (listItems_at ho' rfl ?_)
   refine wpAny_bind (listItems_at hn rfl ?_)
   rw [if_neg (by simp)]
   exact wpAny_bind (listUpdate_at hn rfl (wpAny_pure z) (Nat.zero_le _) (by show (#[]++s.2.1.toArray).size≤sizeLine + 1;simp [sizeLine];omega))⟩
end
open PySem.MeetsSeq
noncomputable def rmv (p:Pt):List PT→List PT
 | [] => []
 | q :: r => if q.1 = p then r else q :: rmv p r
theorem rmv_spec (p:Pt):∀ L:List PT,p∈pts L→∃ j,∃ hj:j < L.length,L[j].1=p∧(∀ m (hm:m < L.length),m < j→L[m].1≠p)∧L.eraseIdx j=rmv p L
 | [], h => absurd h (by simp [pts])
 | q :: r, h => by
   by_cases hq:q.1=p
   · exact ⟨0,by simp,hq,fun m _ hm=>absurd hm (Nat.not_lt_zero _),by simp [rmv,hq]⟩
   · have h':p∈pts r:=by
       rcases List.mem_cons.mp h with e | h
       · exact absurd e.symm hq
       · exact h
     obtain ⟨j,hj,h1,h2,h3⟩:=rmv_spec p r h'
     refine ⟨j + 1,by simpa using hj,by simpa using h1,fun m hm hlt=>?_,by simp [rmv,hq,h3]⟩
     cases m with
     | zero => exact hq
     | succ m => exact h2 m (by simpa using hm) (by omega)
theorem map_eraseIdx {α β:Type}(f:α→β):∀ (l:List α) (j:Nat),(l.map f).eraseIdx j=(l.eraseIdx j).map f
 | [], _ => rfl
 | _ :: _, 0 => rfl
 | a :: l, j + 1 => by simp [List.eraseIdx, map_eraseIdx f l j]
theorem rmv_pts (p:Pt):∀ L:List PT,pts (rmv p L)=(pts L).erase p
 | [] => rfl
 | q :: r => by
   by_cases hq:q.1=p
   · simp [rmv,hq,pts,List.erase_cons]
   · have := rmv_pts p r
     simp only [pts] at this
     simp [rmv,hq,pts,List.erase_cons,this]
theorem eq_pv (p:Pt) (t:Tok):∀ {L:List PT}{y:Value},y∈(L.map pv).toArray→EqGives y (.str (sp p) t) (isStrOf (sp p) y):=by
 intro L y hy
 have hy':y∈L.map pv:=by simpa using hy
 obtain ⟨r,_,rfl⟩:=List.mem_map.mp hy'
 exact eqGives_str _ _ _ _
theorem is_pv (p:Pt) (q:PT):isStrOf (sp p) (pv q)=decide (q.1=p):=by
 show (sp q.1 == sp p)=_
 rw [sp_beq]
section
variable {prog:Program}{w:World}{A:Around}{R:Result→Shared→Prop}{B:Addr→Option Obj}{g:Array GenState}{d:Drawn}{os:OsState}{rs:List (Addr×Obj)}
noncomputable def rRemove (i:Nat) (L:List PT) (p:Pt):Rul prog w A R B g d os:=rF .b 123874469202662358538021485 anyS [] [.c i] s2t
 (fun s cs=>match s with | (q,t,_,n)=>⟨[.ref q,.str (sp p) t],[(q,lst (L.map pv) n)],p∈pts L∧L.length≤1000,none,fun u=>(.ok (.ret .none),putAt i cs (lst ((rmv p L).map pv) u.n),u.n2)⟩)
 fun s _ _ _ _ _ hid _ hl hp => ⟨fun _ _ _ h' i' H y => by
   have hs:L.length≤1000:=hp.2
   have h3:=(lkA_cons hl).1
   obtain ⟨j,hj,h1,h2,h4⟩:=rmv_spec p L hp.1
   obtain ⟨n', H'⟩ := lst_put H h3 (f := fun xs => xs.eraseIdxIfInBounds j) (vs' := (rmv p L).map pv) (by
     rw [← h4]
     simp [Array.eraseIdxIfInBounds,hj,map_eraseIdx])
   have ho:=own_pick h3 H
   rw [lst_eq] at ho
   exact ct_meets F.slot_list_remove ⟨_, ho, rfl⟩ F.entry_list_remove (F.args_list_remove_2 _ _) (list_remove s.1 (L.map pv).toArray s.2.2.2 (.str (sp p) s.2.1) (isStrOf (sp p)) (fun y hy => eq_pv p s.2.1 hy) j (by simpa using hj) (by
     rw [List.getElem_toArray,List.getElem_map,is_pv,h1]
     simp) (fun m hm hlt=>by
     rw [List.getElem_toArray,List.getElem_map,is_pv]
     exact decide_eq_false (h2 m (by simpa using hm) hlt)) (by simp [sizeLine];omega)) (id_is _ hid (by decide +kernel)) ⟨ho,y (xd n' i') _ trivial H'⟩⟩
noncomputable def rRemoveNone (i:Nat) (L:List PT) (p:Pt):Rul prog w A R B g d os:=rF .b 123874469202662358538021485 (noH A) [] [.c i] s2t
 (fun s cs=>match s with | (q,t,_,n)=>⟨[.ref q,.str (sp p) t],[(q,lst (L.map pv) n)],p ∉ pts L,none,fun u=>(.error (.ref u.n),(u.n,excO sVal u.v u.d u.s) :: cs,u.n2)⟩)
 fun s _ _ _ _ _ hid hn hl hp => ⟨fun _ _ _ h' i' H y => by
   have hq:=own_pick (lkA_cons hl).1 H
   rw [lst_eq] at hq
   refine ct_meets F.slot_list_remove ⟨_, hq, rfl⟩ F.entry_list_remove (F.args_list_remove_2 _ _) (list_remove_none s.1 (L.map pv).toArray s.2.2.2 (.str (sp p) s.2.1) (isStrOf (sp p)) (fun y hy => eq_pv p s.2.1 hy) (fun m hm' => by
     rw [List.getElem_toArray,List.getElem_map,is_pv]
     exact decide_eq_false fun e=>hp (e ▸ List.mem_map_of_mem (List.getElem_mem _)))) (id_is _ hid (by decide +kernel)) ⟨hq,noH_ok hn,fun h' tk e he=>?_⟩
   obtain ⟨kp,nw,⟨c1,dd,dt,sl⟩,tt,he,hc,hd⟩:=he
   cases hc
   cases hd
   exact y { xd e tk with v:=tt,d:=dd,s:=sl } h' trivial (H.one0 kp nw (by unfold excO;rw [sVal_eq];exact he))⟩
end
noncomputable def fdO:Option Obj→FuncData
 | some ⟨_, _, .func fd, _⟩ => fd
 | _ => default
noncomputable def fdAt (P:Params) (a:Addr):FuncData:=fdO ((KK P).lookup a)
noncomputable def coQ:Option Obj→Str
 | some ⟨_, _, .fields ⟨_ :: .str q _ :: _⟩, _⟩ => q
 | _ => Str.empty
noncomputable def quAt (P:Params) (fd:FuncData):Str:=match fd.code with
 | .ref c => coQ ((KK P).lookup c)
 | _ => fd.qualname
noncomputable def envAt (P:Params) (a fr:Addr):Env:=⟨(fdAt P a).scope,fr,(fdAt P a).globals,(fdAt P a).closure,quAt P (fdAt P a)++".<locals>.",some a,(fdAt P a).code,some fr,(fdAt P a).builtins⟩
noncomputable def bdAt (P:Params) (a:Addr):List Stmt:=match (fdAt P a).body with
 | .stmts b => b
 | .expr _ => []
noncomputable def nthS:List Stmt→Nat→Stmt
 | [], _ => .Pass default
 | x :: _, 0 => x
 | _ :: r, n + 1 => nthS r n
noncomputable def subS:Stmt→List Stmt
 | .For _ _ b _ _ => b
 | .While _ b _ _ => b
 | .If _ b _ _ => b
 | .Try b _ _ _ _ => b
 | _ => []
noncomputable def stAt (l:List Stmt) (i:Nat):List Nat→Stmt
 | [] => nthS l i
 | j :: p => stAt (subS (nthS l i)) j p
noncomputable def loopC:Stmt→Value→Env→Code
 | .For t _ b o _, it, e => .forLoop t it b o e
 | .While t b o _, _, e => .whileLoop t b o e
 | _, it, e => .block [] { e with code := it }
noncomputable def lpAt (P:Params) (a fr:Addr) (i:Nat) (p:List Nat) (it:Value):Code:=loopC (stAt (bdAt P a) i p) it (envAt P a fr)
theorem loopI {M:Model}{A:Around}{c:Code}{R:Result→Shared→Prop}{g:Array GenState}{d:Drawn}{os:OsState}{σ:Type}(μ:σ→Nat) (Inv:σ→Heap→Prop)
   (step:∀ x h t,Inv x h→(∀ y h' t',μ y < μ x→Inv y h'→codeAny M A c R ⟨h',g,d,t',os⟩)→codeAny M A c R ⟨h,g,d,t,os⟩){x:σ}{h:Heap}{t:Nat}(i:Inv x h):codeAny M A c R ⟨h,g,d,t,os⟩ :=
 turns (fun s h _=>Inv s h) μ (fun x h t i ih=>step x h t i ih) x h t i
noncomputable def exOf:Stmt→Expr
 | .Assign _ v _ => v
 | .Return (some v) _ => v
 | .Expr v _ => v
 | .If t _ _ _ => t
 | .For _ i _ _ _ => i
 | _ => .Tuple [] 0 default
noncomputable def nthE:List Expr→Nat→Expr
 | [], _ => .Tuple [] 0 default
 | x :: _, 0 => x
 | _ :: r, n + 1 => nthE r n
noncomputable def subE:Expr→Nat→Expr
 | .BoolOp _ l _, n => nthE l n
 | .BinOp l _ r _, n => nthE [l, r] n
 | .UnaryOp _ e _, _ => e
 | .Compare l _ r _, n => nthE (l :: r) n
 | .Call f l _ _, n => nthE (f :: l) n
 | .Attribute e _ _, _ => e
 | .Subscript e s _, n => nthE [e, s] n
 | .Starred e _, _ => e
 | .Tuple l _ _, n => nthE l n
 | .List l _, n => nthE l n
 | .ListComp e l _ _, n => nthE (e :: l.map (·.iter) ++ l.flatMap (·.ifs)) n
 | e, _ => e
noncomputable def exAt (e:Expr):List Nat→Expr
 | [] => e
 | n :: p => exAt (subE e n) p
noncomputable def scOf:Expr→Scope
 | .ListComp _ _ s _ => s
 | .SetComp _ _ s _ => s
 | _ => default
noncomputable def envC (e:Expr) (env:Env) (cells:List (Str×Addr)) (cf:Addr):Env :=
 ⟨{ scOf e with names:=(scOf e).names.map fun (n,k)=>if k == .free && env.scope.kind == .function && env.kindOf n == some .cell then (n,.cell) else (n,k) },cf,env.globals,cells,env.qual,none,env.code,env.frame,env.builtins⟩
noncomputable def ceAt (P:Params) (a:Addr) (i:Nat) (p q:List Nat):Expr:=exAt (exOf (stAt (bdAt P a) i p)) q
noncomputable def cpAt (P:Params) (a fr cf:Addr) (cells:List (Str×Addr)) (e:Expr) (d:Nat) (it acc:Addr):Code:=.compLoop e d (.ref it) (.ref acc) (envC e (envAt P a fr) cells cf)
noncomputable def csAt (P:Params) (a fr cf:Addr) (cells:List (Str×Addr)) (e:Expr) (d:Nat) (it acc:Addr):Code:=.compStart e d (.ref it) (.ref acc) (envC e (envAt P a fr) cells cf)
noncomputable def subL:Stmt→Nat→List Stmt
 | .For _ _ b o _, n => match n with | 0 => b | _ => o
 | .While _ b o _, n => match n with | 0 => b | _ => o
 | .If _ b o _, n => match n with | 0 => b | _ => o
 | .Try b _ o f _, n => match n with | 0 => b | 1 => o | _ => f
 | _, _ => []
noncomputable def stAt2 (l:List Stmt) (i:Nat):List (Nat×Nat)→Stmt
 | [] => nthS l i
 | (k, j) :: p => stAt2 (subL (nthS l i) k) j p
noncomputable def lpAt2 (P:Params) (a fr:Addr) (i:Nat) (p:List (Nat×Nat)) (it:Value):Code:=loopC (stAt2 (bdAt P a) i p) it (envAt P a fr)
noncomputable def fnTreeC (a:Addr) (fd:FuncData) (q:Str) (binds:List (Str×Value)):Sem Fin :=
 PySem.W.R.bindR (ZFast.zw11113344188204177931 fd.scope fd.globals fd.closure binds (q++".<locals>.") (some a) fd.code none fd.builtins) fun env =>
 PySem.W.R.bindR (ZFast.zw13143150168775219229 cStatics "sys.recursionlimit") fun r => match r with
   | none => (match fd.body with
     | .stmts b => .pure (.again (.func b env))
     | .expr e => .pure (.again (.expr e env)))
   | some _ => .unsupported "a limit"
theorem fnTreeC_eq (a:Addr) (fd:FuncData) (q:Str) (binds:List (Str×Value)) :
   (newFunctionEnv fd.scope fd.globals fd.closure binds (q++".<locals>.") (some a) fd.code none fd.builtins >>= fun env=>enterLite >>= fun _=>match fd.body with | .stmts b=>again (.func b env) | .expr e=>again (.expr e env))=fnTreeC a fd q binds:=by
 unfold fnTreeC
 rw [← ZFast.ze11113344188204177931,← ZFast.ze13143150168775219229]
 simp only [← PySem.W.R.bindR_eq]
 unfold enterLite
 have e:∀ {α β:Type}(m:Sem α) (f:α→Sem β),m >>= f=m.bind f:=fun _ _=>rfl
 simp only [e,Sem.bind_assoc]
 refine congrArg _ (funext fun env=>congrArg _ (funext fun r=>?_))
 cases r with
 | none => cases fd.body <;> rfl
 | some v => rfl
section
variable {prog:Program}{w:World}{A:Around}{R:Result→Shared→Prop}{l:List Kt}{c:Code}
theorem go_fnC {a ca:Addr}{args:Args}{o co:Obj}{fd:FuncData}{q:Str}{tq:Tok}{s:Shared}{fs:Array Value}(ho:s.heap.get? a=some o) (hd:o.data=.func fd) (hco:fd.scope.isCoroutine=false) (hgen:fd.scope.isGenerator=false)
   (hroom:(ar A l).depth < recursionLimit) (hc:fd.code=.ref ca) (hca:s.heap.get? ca=some co) (hcd:co.data=.fields fs) (hcq:fs[1]?=some (.str q tq))
   (x:wpAny (model prog w) ((ar A l).under (.call (.ref a) args)) (bindArgs fd args) (fun binds s'=>Go prog w A R l (.call (.ref a) args) (fnTreeC a fd q binds) s') (fun e s'=>False) s):Go prog w A R l (.call (.ref a) args) (denZ (.call (.ref a) args)) s:=by
 rw [← denZ_eq,Go_eq]
 obtain ⟨oc,od,dt,osl⟩:=o
 dsimp only at hd
 subst hd
 show wpOwn _ _ _ (callAny (.ref a) args) _ _ s
 refine wpOwn_bind (m:=load a) (wpOwn_of_wpAny (wpAny_load ho ?_))
 show wpOwn _ _ _ (callFunction a fd args) _ _ s
 have hcall : callFunction a fd args = (do
     let compiled ← match fd.code with
       | .none => pure fd.qualname
       | c => do match ← field c 1 with
         | .str q _ => pure q
         | _ => pure fd.qualname
     let env ← newFunctionEnv fd.scope fd.globals fd.closure (← bindArgs fd args) (compiled++".<locals>.") (some a) fd.code none fd.builtins
     enterFrame
     again (match fd.body with
       | .stmts b => .func b env
       | .expr e => .expr e env)) := by
   unfold callFunction
   simp only [hco,hgen]
   rfl
 rw [hcall]
 clear hcall
 obtain ⟨f1,f2,f3,body,f5,f6,f7,f8,f9,f10,f11,f12,code⟩:=fd
 dsimp only at hc hco hgen x
 subst hc
 dsimp only
 refine wpOwn_bind (m:=field (.ref ca) 1) (wpOwn_of_wpAny (wpAny_field hca hcd hcq ?_))
 refine wpOwn_bind (m:=bindArgs _ args) (wpOwn_of_wpAny (wpAny_mono x (fun binds s' y=>?_) fun e s' y=>y.elim))
 rw [← fnTreeC_eq,Go_eq] at y
 dsimp only at y
 have y2:=own_enter (A:=ar A l) (c:=Code.call (.ref a) args) hroom y
 cases body <;> exact y2
end
theorem bind_star {fd:FuncData}{p1 p2:PySem.Pos}{n1 n2:Str}{v:Value}{vs:List Value}(hp:fd.params=⟨[],[⟨n1,none,p1⟩],some ⟨n2,none,p2⟩,[],[],none,[]⟩) (hd:fd.defaults=.none) :
   bindArgs fd ⟨v :: vs,[]⟩=(newTuple vs >>= fun t=>pure [(n1,v),(n2,t)]):=by
 obtain ⟨f1,f2,f3,body,f5,f6,f7,f8,f9,f10,f11,f12,code⟩:=fd
 dsimp only at hp hd
 subst hp hd
 unfold bindArgs
 dsimp only
 have e0:([]:List Str).zip vs=[]:=rfl
 have pb:∀ {α β:Type}(a:α) (f:α→Sem β),(pure a:Sem α) >>= f=f a:=fun _ _=>rfl
 have es:seqItems? .none=pure none:=rfl
 have el:List.lookup n1 [(n1,v)]=some v:=by simp [List.lookup]
 simp only [List.map_nil,List.map_cons,List.nil_append,List.zip_cons_cons,List.length_cons,List.length_nil,Option.isNone_some,Bool.and_false,List.forIn_nil,pb,e0,es,Option.getD_none]
 simp [el,pb]
section
variable {prog:Program}{w:World}{A:Around}{R:Result→Shared→Prop}{B:Addr→Option Obj}{h:Heap}{g:Array GenState}{d:Drawn}{t:Nat}{os:OsState}{K:Frag}{cs:List (Addr×Obj)}
theorem enter_star {a ca:Addr}{o co:Obj}{fd:FuncData}{q:Str}{tq:Tok}{fs:Array Value}{p1 p2:PySem.Pos}{n1 n2:Str}{v:Value}{vs:List Value}(KX:Kin K B) (H:Hp B h cs) (ho:K.lookup a=some o) (hd:o.data=.func fd) (hco:fd.scope.isCoroutine=false) (hgen:fd.scope.isGenerator=false)
   (hroom:Nat.ble (A.depth + 1) recursionLimit=true) (hc:fd.code=.ref ca) (hca:K.lookup ca=some co) (hcd:co.data=.fields fs) (hcq:fs[1]?=some (.str q tq)) (hp:fd.params=⟨[],[⟨n1,none,p1⟩],some ⟨n2,none,p2⟩,[],[],none,[]⟩) (hdf:fd.defaults=.none) (hl:vs.length≤1000)
   (x:∀ r h',Hp B h' ((r,tupO vs 0) :: cs)→Go prog w A R [] (.call (.ref a) ⟨v :: vs,[]⟩) (fnTreeC a fd q [(n1,v),(n2,.ref r)]) ⟨h',g,d,t,os⟩):codeAny (model prog w) A (.call (.ref a) ⟨v :: vs,[]⟩) R ⟨h,g,d,t,os⟩:=by
 refine go_code (go_fnC (H.keep _ _ (KX _ _ ho)) hd hco hgen (Nat.le_of_ble_eq_true hroom) hc (H.keep _ _ (KX _ _ hca)) hcd hcq ?_)
 rw [bind_star hp hdf]
 refine wpAny_bind ?_
 unfold newTuple
 refine wpAny_newObj_type ?_ (by show vs.toArray.size≤_;simp [sizeLine];omega)
 refine wpAny_pure ?_
 have H':=H.push (o:=tupO vs 0) rfl
 have:=x _ _ H'
 unfold tupO at this
 rw [sTup_eq] at this
 exact this
end
theorem entry_unchain:entryFor table "proto.unchain"=some Builtin.«proto.unchain»:=entryFor_of_fast (by kernel_rfl)
theorem wpAny_raiseWords2 {α:Type}{prog:Program}{w:World}{A:Around}{E:Value→Shared→Prop}{s:Shared}{cls msg:String}{Q:α→Shared→Prop}{e0:Addr}{o0:Obj}{vs:Array Value}(hp:PlainExc cls) (hh:A.handled=some (.ref e0)) (he:s.heap.get? e0=some o0) (hd:o0.data=.fields vs) (hv:vs[2]?=some .none)
   (h:∀ h' tk e dd sl tt,(∀ b o,s.heap.get? b=some o→h'.get? b=some o)→s.heap.get? e=none→h'.get? e=some ⟨.type cls,dd,.fields #[tt,.none,.ref e0,.none,.bool false,.none],sl⟩→E (.ref e) { s with heap:=h',toks:=tk }) :
   wpAny (model prog w) A (raiseErrorWords cls msg:Sem α) Q E s:=by
 unfold raiseErrorWords
 refine wpAny_bind (wpAny_mkText (wpAny_bind ?_))
 unfold newExc newTuple
 refine wpAny_bind (wpAny_newObj_type ?_)
 refine wpAny_bind (m:=firstArgMember _ _) (wpAny_of_eq (a:=Value.none) (by simp only [firstArgMember,hp.first];rfl) ?_)
 rw [hp.own]
 refine wpAny_newObj_type ?_
 unfold raiseNew
 refine wpAny_bind (wpAny_handled ?_)
 rw [hh]
 have hlt:=Heap.lt_size he
 have hk:∀ (o:Obj) (b:Addr) (o':Obj),s.heap.get? b=some o'→∀ o2,((s.heap.push o).push o2).get? b=some o':=fun o b o' e o2=>Heap.get?_push_of_some _ (Heap.get?_push_of_some _ e)
 dsimp only
 rw [if_pos (show ((Value.ref e0 != Value.ref (s.heap.push _).objs.size) = true) from by
   rw [bne_iff_ne]
   intro q
   injection q with q
   have hlt':=hlt
   rw [q] at hlt'
   simp [Heap.push] at hlt'
   exact absurd hlt' (Nat.not_lt_of_le (Nat.le_succ _)))]
 refine wpAny_bind (wpAny_holding (wpAny_runValue (codeAny_builtin entry_unchain ?_)))
 unfold Builtin.«proto.unchain»
 dsimp only
 refine wpAny_bind (wpAny_field (hk _ _ _ he _) hd hv ?_)
 rw [if_pos (show (Value.none == Value.none)=true from rfl)]
 refine wpAny_pure ?_
 dsimp only
 refine wpAny_bind (m:=setField (.ref _) 2 (.ref e0)) (wpAny_setField (Heap.get?_push_size _ rfl) rfl (by simp) ?_)
 refine wpAny_throw ?_
 refine h _ _ _ _ _ _ ?a ?b (Heap.get?_update_self _ (Heap.get?_push_size _ rfl) rfl)
 case b=>exact Heap.get?_none_of_le (by simp [Heap.push])
 case a =>
   intro b o e
   have hne:b≠(s.heap.push ⟨.type "tuple",none,.seq #[.str msg s.toks],#[]⟩).objs.size:=by
     intro q
     have:=Heap.lt_size e
     rw [q] at this
     simp [Heap.push] at this
     exact absurd this (Nat.not_lt_of_le (Nat.le_succ _))
   exact ((Heap.SameBut.update ..).2 _ hne).trans (hk _ _ _ e _)
theorem meets_item_out2 (q:Addr) (k:Int) (i:Nat) (tk:Tok) (vs:Array Value) (n:Nat) (e0:Addr) (hx:vs[i]?=none) (hk:k=Int.ofNat i) (hf:Builtin.List.listFitsIndex k=true)  :
   Meets (Builtin.«list.__getitem__» ⟨[.ref q, .int k tk], []⟩) (fun A R s => s.heap.get? q = some { cls := .type "list", data := .seq vs n } ∧ A.handled = some (.ref e0) ∧ (∃ o0 vs0, s.heap.get? e0 = some o0 ∧ o0.data = .fields vs0 ∧ vs0[2]? = some .none) ∧
     ∀ h' tk e dd sl tt,(∀ b o,s.heap.get? b=some o→h'.get? b=some o)→s.heap.get? e=none→h'.get? e=some ⟨.type "IndexError",dd,.fields #[tt,.none,.ref e0,.none,.bool false,.none],sl⟩→R (.error (.ref e)) { s with heap:=h',toks:=tk }):=fun prog w A R s h=>by
 obtain ⟨hl,hh,⟨o0,vs0,he,hd,hv⟩,h⟩:=h
 show wpAny _ _ (Builtin.List.listSubscript? (.int k tk) >>= _) _ _ s
 refine wpAny_bind (wpAny_listSubscript_int hf ?_)
 clear hf
 subst hk
 show wpAny _ _ ((seqItemAt q i >>= fun r=>pure (r.map (i,·))) >>= _) _ _ s
 refine wpAny_bind (wpAny_bind (wpAny_seqItemAt hl rfl (wpAny_pure ?_)))
 rw [hx]
 first
   | exact wpAny_bind (wpAny_rule (wpAny_raiseWords2 (A := A.in1) plainExc_IndexError hh he hd hv h))
   | exact wpAny_rule (wpAny_raiseWords2 (A := A.in1) plainExc_IndexError hh he hd hv h)
   | exact wpAny_bind (wpAny_rule (wpAny_bind (wpAny_raiseWords2 (A := A.in1) plainExc_IndexError hh he hd hv h)))
   | exact wpAny_bind (wpAny_bind (wpAny_rule (wpAny_raiseWords2 (A := A.in1) plainExc_IndexError hh he hd hv h)))
section
variable {prog:Program}{w:World}{A:Around}{R:Result→Shared→Prop}{B:Addr→Option Obj}{g:Array GenState}{d:Drawn}{os:OsState}{rs:List (Addr×Obj)}
noncomputable def hdA (A:Around) (l:List Kt) (c:Code):Option Addr:=match ((ar A l).under c).handled with
 | some v => gRef v some
 | none => none
theorem hdA_ok {l:List Kt}{c:Code}{e0:Addr}(h:hdA A l c=some e0):((ar A l).under c).handled=some (.ref e0):=by
 unfold hdA at h
 cases hq:((ar A l).under c).handled with
 | none => rw [hq] at h; cases h
 | some v =>
   rw [hq] at h
   cases v <;> first | (cases h;rfl) | cases h
theorem io_ok {id:String}{l:List Kt}{c:Code}{cs:Us}{e0 q:Addr}{j t n lc p:Nat}{vs:List Value}{eo:Obj}(hid:Nat.beq (PySem.W.S.codeS id) 128106587276438692081757506308484131437=true) (hh:((ar A l).under c).handled=some (.ref e0)) (hl:lkA [] cs [.c lc,.c p]=some [(q,lst vs n),(e0,eo)]) (hp:(vs[j]?=none∧j≤1000)∧∃ vs0:Array Value,eo.data=Data.fields vs0∧vs0[2]?=some Value.none) :
   CallR prog w A R B g d os l c (cdK .b id [.ref q,.int (j:Int) t]) cs none fun u=>(.error (.ref u.n),(u.n,excG sIdx u.v (.ref e0) u.d u.s) :: cs,u.n2):=⟨fun gg lv k h i H y=>by
 obtain ⟨⟨hx,hi⟩,vs0,hd,hv⟩:=hp
 have hq:=own_pick (lkA_cons hl).1 H
 rw [lst_eq] at hq
 have e2:=fits_small hi
 have e3:(j:Int)=Int.ofNat j:=rfl
 generalize (j:Int)=kk at e2 e3 ⊢
 refine ct_meets slot_list_getitem ⟨_,hq,rfl⟩ entry_list_getitem (args_list_getitem _ _) (meets_item_out2 q kk j t vs.toArray n e0 (by rw [List.getElem?_toArray];exact hx) e3 e2) (id_is _ hid (by decide +kernel)) ⟨hq,hh,⟨eo,vs0,own_pick (lkA_cons (lkA_cons hl).2).1 H,hd,hv⟩,fun h' tk e dd sl tt kp nw hn=>?_⟩
 exact y { xd e tk with v:=tt,d:=dd,s:=sl } h' trivial (H.one0 kp nw (by unfold excG;rw [sIdx_eq];exact hn))⟩
noncomputable def rItemOutH (lc:Nat) (p:Nat):Rul prog w A R B g d os where
 eff l c c' cs := (hdK c').bind fun x => (isB (Nat.beq (PySem.W.S.codeS x.1) 128106587276438692081757506308484131437)).bind fun _ => (hdA A l c).bind fun e0 => (lkA [] cs [.c lc, .c p]).bind fun us => (s2n x.2 us cs).bind fun s => (gHd us fun _ r => gHd r fun e _ => some e.2).bind fun eo => match s with
   | (q, j, t, vs, n) => some ⟨[(.C c', .C (cdK .b x.1 [.ref q, .int (j : Int) t])), (.L us, .L [(q, lst vs n), (e0, eo)])], (vs[j]? = none ∧ j ≤ 1000) ∧ ∃ vs0 : Array Value, eo.data = Data.fields vs0 ∧ vs0[2]? = some Value.none, none, fun u => (.error (.ref u.n), (u.n, excG sIdx u.v (.ref e0) u.d u.s) :: cs, u.n2)⟩
 ok l c c' cs rp h he hp:=by
   obtain ⟨x,_,h⟩:=bo h
   obtain ⟨_,h1,h⟩:=bo h
   obtain ⟨e0,h2,h⟩:=bo h
   obtain ⟨us,h3,h⟩:=bo h
   obtain ⟨s,_,h⟩:=bo h
   obtain ⟨eo,_,h⟩:=bo h
   obtain rfl:=Option.some.inj (show some (Rp.mk _ _ _ _)=some rp from h)
   rw [show c'=_ from Qx.C.inj (he _ (.head _))]
   exact io_ok (isB_ok h1) (hdA_ok h2) (h3.trans (congrArg some (Qx.L.inj (he _ (.tail _ (.head _)))))) hp
end
noncomputable abbrev sl:Str:=⟨#[47]⟩
theorem a1 (i:Fin 3):Txt.rfind (sp (.a i)) ⟨#[47]⟩=0:=by revert i;decide +kernel
theorem a2 (i:Fin 3):Txt.slice (sp (.a i)) none (some (0 + 1))=⟨#[47]⟩:=by revert i;decide +kernel
theorem r1:Txt.rfind (sp .r) ⟨#[47]⟩=0:=by decide +kernel
theorem r2:Txt.slice (sp .r) none (some (0 + 1))=⟨#[47]⟩:=by decide +kernel
theorem b1 (i j:Fin 3):Txt.rfind (sp (.b i j)) ⟨#[47]⟩=2:=by revert i j;decide +kernel
theorem b2 (i j:Fin 3):Txt.slice (sp (.b i j)) none (some (2 + 1))=⟨#[47,i.val + 97,47]⟩:=by revert i j;decide +kernel
theorem b4 (i:Fin 3):((⟨#[47,i.val + 97,47]⟩:Str).cps.toList != (⟨#[47,47,47]⟩:Str).cps.toList)=true:=by revert i;decide +kernel
theorem b5 (i:Fin 3):Txt.rstripChars ⟨#[47,i.val + 97,47]⟩ ⟨#[47]⟩=sp (.a i):=by revert i;decide +kernel
theorem c1 (i j k:Fin 3):Txt.rfind (sp (.c i j k)) ⟨#[47]⟩=4:=by revert i j k;decide +kernel
theorem c2 (i j k:Fin 3):Txt.slice (sp (.c i j k)) none (some (4 + 1))=⟨#[47,i.val + 97,47,j.val + 97,47]⟩:=by revert i j k;decide +kernel
theorem c4 (i j:Fin 3):((⟨#[47,i.val + 97,47,j.val + 97,47]⟩:Str).cps.toList != (⟨#[47,47,47,47,47]⟩:Str).cps.toList)=true:=by revert i j;decide +kernel
theorem c5 (i j:Fin 3):Txt.rstripChars ⟨#[47,i.val + 97,47,j.val + 97,47]⟩ ⟨#[47]⟩=sp (.b i j):=by revert i j;decide +kernel
theorem sp_le:∀ p:Pt,(sp p).length≤sizeLine:=by
 intro p;cases p <;> exact Nat.le_of_ble_eq_true rfl
theorem dn {b:Bool}{w:World}{R:Result→Shared→Prop}{h:Heap}{g:Array GenState}{d:Drawn}{t:Nat}{os:OsState}{tk:Nat}(p:Pt)
  (KX:Kin (KK (wv b w).params) h.get?) (x:∀ h' t' tk',Keeps h h'→R (.ok (.ret (.str (sp (par p)) tk'))) ⟨h',g,d,t',os⟩):codeAny (model prg (wv b w)) (AD 800) (.call (.ref 256) ⟨[.str (sp p) tk],[]⟩) R ⟨h,g,d,t,os⟩:=by
 have H:=Hp.nil h
 rcases p with _ | i | ⟨i,j⟩ | ⟨i,j,k⟩
 · refine' go_ent KX H rfl ?_
   (refine' run_T2 KX Rin.nil H 4000 ⟨[],5⟩ rfl [.k,.b 0,.c 0,.f 0,.k,.k,.c 0,.k,.n,.k,.b 1,.c 0,.f 0,.k,.k,.k,.c 0,.e,.q,.c 0,.f 0,.k,.k,.c 0,.k,.k,.k,.k,.b 2,.e,.q,.q,.c 0,.c 0,.c 0,.c 0,.e,.q,.c 1,.c 2,.f 2,.k,.c 2,.k,.n,.k,.b 3,.c 0,.f 0,.k,.k,.k,.c 0,.k,.k,.e,.q,.q,.e,.q,.e,.q,.q,.c 3,.f 3,.c 3,.c 3,.v 4 (fun al=>rRfind (0)),.e,.q,.c 3,.f 3,.c 3,.c 3,.b 5,.v 6 (fun al=>rSlice Rin.nil (.c 0) (sl)),.c 4,.f 4,.c 4,.e,.e,.q,.c 4,.c 4,.k,.k,.c 4,.v 7 (fun al=>rLen (1)),.e,.q,.e,.q,.v 8 (fun al=>rNe (false)),.c 4] fun al=>end_R2 (r:=(.ok (.ret (.str (sp .r) _)))) (cs:=[]) (by kernel_rfl) (by kernel_rfl) rfl (by kernel_rfl) ⟨(fun hF=>rfl),(fun hF=>⟨rfl,rfl⟩),(fun hF=>⟨r2,sp_le _⟩),(fun hF=>r1),trivial⟩ fun hp t hF H=>?_)
   exact x _ _ _ H.keep
 · refine' go_ent KX H rfl ?_
   (refine' run_T2 KX Rin.nil H 4000 ⟨[],5⟩ rfl [.k,.b 0,.c 0,.f 0,.k,.k,.c 0,.k,.n,.k,.b 1,.c 0,.f 0,.k,.k,.k,.c 0,.e,.q,.c 0,.f 0,.k,.k,.c 0,.k,.k,.k,.k,.b 2,.e,.q,.q,.c 0,.c 0,.c 0,.c 0,.e,.q,.c 1,.c 2,.f 2,.k,.c 2,.k,.n,.k,.b 3,.c 0,.f 0,.k,.k,.k,.c 0,.k,.k,.e,.q,.q,.e,.q,.e,.q,.q,.c 3,.f 3,.c 3,.c 3,.v 4 (fun al=>rRfind (0)),.e,.q,.c 3,.f 3,.c 3,.c 3,.b 5,.v 6 (fun al=>rSlice Rin.nil (.c 0) (sl)),.c 4,.f 4,.c 4,.e,.e,.q,.c 4,.c 4,.k,.k,.c 4,.v 7 (fun al=>rLen (1)),.e,.q,.e,.q,.v 8 (fun al=>rNe (false)),.c 4] fun al=>end_R2 (r:=(.ok (.ret (.str (sp .r) _)))) (cs:=[]) (by kernel_rfl) (by kernel_rfl) rfl (by kernel_rfl) ⟨(fun hF=>rfl),(fun hF=>⟨rfl,rfl⟩),(fun hF=>⟨a2 i,sp_le _⟩),(fun hF=>a1 i),trivial⟩ fun hp t hF H=>?_)
   exact x _ _ _ H.keep
 · refine' go_ent KX H rfl ?_
   (refine' run_T2 KX Rin.nil H 4000 ⟨[],5⟩ rfl [.k,.b 0,.c 0,.f 0,.k,.k,.c 0,.k,.n,.k,.b 1,.c 0,.f 0,.k,.k,.k,.c 0,.e,.q,.c 0,.f 0,.k,.k,.c 0,.k,.k,.k,.k,.b 2,.e,.q,.q,.c 0,.c 0,.c 0,.c 0,.e,.q,.c 1,.c 2,.f 2,.k,.c 2,.k,.n,.k,.b 3,.c 0,.f 0,.k,.k,.k,.c 0,.k,.k,.e,.q,.q,.e,.q,.e,.q,.q,.c 3,.f 3,.c 3,.c 3,.v 4 (fun al=>rRfind (2)),.e,.q,.c 3,.f 3,.c 3,.c 3,.b 5,.v 6 (fun al=>rSlice Rin.nil (.c 0) (⟨#[47,i.val + 97,47]⟩)),.c 4,.f 4,.c 4,.e,.e,.q,.c 4,.c 4,.k,.k,.c 4,.v 7 (fun al=>rLen (3)),.e,.q,.e,.q,.v 8 (fun al=>rNe (true)),.c 4,.c 4,.v 9 (fun al=>rRstrip (sp (.a i))),.c 4,.f 4,.c 4] fun al=>end_R2 (r:=(.ok (.ret (.str (sp (.a i)) _)))) (cs:=[]) (by kernel_rfl) (by kernel_rfl) rfl (by kernel_rfl) ⟨(fun hF=>⟨b5 i,Nat.le_of_ble_eq_true rfl⟩),(fun hF=>b4 i),(fun hF=>⟨rfl,rfl⟩),(fun hF=>⟨b2 i j,sp_le _⟩),(fun hF=>b1 i j),trivial⟩ fun hp t hF H=>?_)
   exact x _ _ _ H.keep
 · refine' go_ent KX H rfl ?_
   (refine' run_T2 KX Rin.nil H 4000 ⟨[],5⟩ rfl [.k,.b 0,.c 0,.f 0,.k,.k,.c 0,.k,.n,.k,.b 1,.c 0,.f 0,.k,.k,.k,.c 0,.e,.q,.c 0,.f 0,.k,.k,.c 0,.k,.k,.k,.k,.b 2,.e,.q,.q,.c 0,.c 0,.c 0,.c 0,.e,.q,.c 1,.c 2,.f 2,.k,.c 2,.k,.n,.k,.b 3,.c 0,.f 0,.k,.k,.k,.c 0,.k,.k,.e,.q,.q,.e,.q,.e,.q,.q,.c 3,.f 3,.c 3,.c 3,.v 4 (fun al=>rRfind (4)),.e,.q,.c 3,.f 3,.c 3,.c 3,.b 5,.v 6 (fun al=>rSlice Rin.nil (.c 0) (⟨#[47,i.val + 97,47,j.val + 97,47]⟩)),.c 4,.f 4,.c 4,.e,.e,.q,.c 4,.c 4,.k,.k,.c 4,.v 7 (fun al=>rLen (5)),.e,.q,.e,.q,.v 8 (fun al=>rNe (true)),.c 4,.c 4,.v 9 (fun al=>rRstrip (sp (.b i j))),.c 4,.f 4,.c 4] fun al=>end_R2 (r:=(.ok (.ret (.str (sp (.b i j)) _)))) (cs:=[]) (by kernel_rfl) (by kernel_rfl) rfl (by kernel_rfl) ⟨(fun hF=>⟨c5 i j,Nat.le_of_ble_eq_true rfl⟩),(fun hF=>c4 i j),(fun hF=>⟨rfl,rfl⟩),(fun hF=>⟨c2 i j k,sp_le _⟩),(fun hF=>c1 i j k),trivial⟩ fun hp t hF H=>?_)
   exact x _ _ _ H.keep
noncomputable def rDn {b:Bool}{w:World}{A:Around}{R:Result→Shared→Prop}{B:Addr→Option Obj}{g:Array GenState}{d:Drawn}{os:OsState}(KX:Kin (KK (wv b w).params) B) (p:Pt):Rul prg (wv b w) A R B g d os :=
 rFC (fun l c=>isB (sideB 800 A l c)) [] [] (fun c' _=>match c' with | .call _ ⟨vs,_⟩=>gHd vs fun v _=>gTok v some | _=>none) (fun t=>.call (.ref 256) ⟨[.str (sp p) t],[]⟩) (fun _ cs=>⟨[],[],True,none,fun u=>(.ok (.ret (.str (sp (par p)) u.n)),cs,u.n2)⟩)
 fun _ _ _ _ _ hs _ _=>⟨fun _ _ _ _ _ H z=>go_side (isB_ok hs) (dn p (KX.on H) fun h' t' tk' kp=>z (xd tk' t') h' trivial (H.on kp))⟩
noncomputable def dep:Pt→Nat
 | .r => 0
 | .a _ => 1
 | .b _ _ => 2
 | .c _ _ _ => 3
noncomputable def up:Nat→List Pt→Pt→List Pt
 | 0, T, _ => T
 | n + 1, T, p => if p ∈ T then T else up n (T ++ [p]) (par p)
noncomputable def above (L:List Pt):List Pt:=L.foldl (up 5) []
noncomputable def mu (T:List Pt) (p:Pt):Nat:=dep p + if p∈T then 0 else 1
theorem mu_step {T:List Pt}{p:Pt}(h:p ∉ T):mu (T++[p]) (par p) < mu T p:=by
 unfold mu
 rw [if_neg h]
 cases p <;> simp [par,dep] <;> split <;> omega
theorem mu_le (T:List Pt) (p:Pt):mu T p < 5:=by
 unfold mu
 cases p <;> simp [dep] <;> split <;> omega
theorem nodup_sub:∀ (l m:List Pt),l.Nodup→(∀ x∈l,x∈m)→l.length≤m.length
 | [], _, _, _ => Nat.zero_le _
 | a :: l, m, h, s => by
   have hn:=List.nodup_cons.mp h
   have:=nodup_sub l (m.erase a) hn.2 fun x hx=>(List.mem_erase_of_ne (fun e=>hn.1 (by rw [← e];exact hx))).mpr (s x (.tail _ hx))
   rw [List.length_erase_of_mem (s a (.head _))] at this
   have h0:0 < m.length:=List.length_pos_of_mem (s a (.head _))
   simp only [List.length_cons]
   omega
noncomputable def f3:List (Fin 3):=[0,1,2]
noncomputable def allPt:List Pt:=.r :: (f3.map .a++f3.flatMap (fun i=>f3.map (.b i))++f3.flatMap fun i=>f3.flatMap fun j=>f3.map (.c i j))
theorem mem_all:∀ p:Pt,p∈allPt
 | .r => .head _
 | .a i => by revert i; decide +kernel
 | .b i j => by revert i j; decide +kernel
 | .c i j k => by revert i j k; decide +kernel
theorem nodup_le {l:List Pt}(h:l.Nodup):l.length≤40:=nodup_sub l allPt h fun x _=>mem_all x
section
variable {b:Bool}{w:World}{R:Result→Shared→Prop}{h:Heap}{g:Array GenState}{d:Drawn}{t:Nat}{os:OsState}{B:Addr→Option Obj}{q a tl lc:Addr}{n n1 n2 i:Nat}{tk1 tk2 tk3:Tok}{T L:List PT}{v:PT}{ex:List DictEntry}
noncomputable def laS (P:Params) (q tl lc:Addr) (tk1 tk2:Tok) (T:List PT) (n1:Nat) (ex:List DictEntry) (n2:Nat):Us:=[(tl,lst (T.map pv) n1),(lc,locO (ent P "paths" tk1 (.ref q) :: ent P "told" tk2 (.ref tl) :: ex) n2)]
theorem lw_no (KX:Kin (KK (wv b w).params) B) (H:Hp B h (laS (wv b w).params q tl lc tk1 tk2 T n1 [ent (wv b w).params "path" tk3 (pv v)] n2)) (hm:decide (v.1∈pts T)=false) (hl:(T.map pv).length≤1000)
   (IH:∀ h' t' n1 n2 tk3 tv,Hp B h' (laS (wv b w).params q tl lc tk1 tk2 (T++[v]) n1 [ent (wv b w).params "path" tk3 (pv (par v.1,tv))] n2)→codeAny (model prg (wv b w)) (AF 640 none) (lpAt (wv b w).params 268 lc 1 [0] .none) R ⟨h',g,d,t',os⟩) :
   codeAny (model prg (wv b w)) (AF 640 none) (lpAt (wv b w).params 268 lc 1 [0] .none) R ⟨h,g,d,t,os⟩:=by
 refine' go_code ?_
 (refine' run_T KX Rin.nil H 4000 ⟨[0,1],2⟩ rfl [.c 1,.c 1,.c 0,.c 0,.v 0 (fun al=>rContains Rin.nil (.c 0) (T) (v.1) (false)),.c 1,.c 0,.c 0,.c 0,.c 0,.c 1,.v 1 (fun al=>rAppend 0),.k,.c 1,.k,.v 2 (fun al=>rDn KX v.1),.c 1,.f 1] fun al=>end_A (c:=(lpAt (wv b w).params 268 lc 1 [0] .none)) (cs:=[(tl,lst (T.map pv++[pv v]) _),(lc,locO [ent (wv b w).params "paths" tk1 (.ref q),ent (wv b w).params "told" tk2 (.ref tl),ent (wv b w).params "path" _ (pv (par v.1,_))] _)]) (by kernel_rfl) rfl  ⟨(fun hF=>trivial),(fun hF=>hl),(fun hF=>hm),trivial⟩ fun hp t hF H=>?_)
 exact IH _ _ _ _ _ _ (by unfold laS;rw [List.map_append];exact H)
theorem lw_yes (KX:Kin (KK (wv b w).params) B) (H:Hp B h (laS (wv b w).params q tl lc tk1 tk2 T n1 [ent (wv b w).params "path" tk3 (pv v)] n2)) (hm:decide (v.1∈pts T)=true)
   (x:∀ h' t',Hp B h' (laS (wv b w).params q tl lc tk1 tk2 T n1 [ent (wv b w).params "path" tk3 (pv v)] n2)→R (.ok .next) ⟨h',g,d,t',os⟩) :
   codeAny (model prg (wv b w)) (AF 640 none) (lpAt (wv b w).params 268 lc 1 [0] .none) R ⟨h,g,d,t,os⟩:=by
 refine' go_code ?_
 (refine' run_T KX Rin.nil H 4000 ⟨[0,1],2⟩ rfl [.c 1,.c 1,.c 0,.c 0,.v 0 (fun al=>rContains Rin.nil (.c 0) (T) (v.1) (true))] fun al=>end_R (r:=(.ok .next)) (cs:=(laS (wv b w).params q tl lc tk1 tk2 T n1 [ent (wv b w).params "path" tk3 (pv v)] n2)) (by kernel_rfl) rfl  ⟨(fun hF=>hm),trivial⟩ fun hp t hF H=>?_)
 exact x _ _ H
theorem pts_snoc1 (T:List PT) (v:PT):pts (T++[v])=pts T++[v.1]:=List.map_append
theorem nd_snoc {T:List Pt}{p:Pt}(h:T.Nodup) (hp:p ∉ T):(T++[p]).Nodup :=
 List.nodup_append.mpr ⟨h,List.nodup_cons.mpr ⟨List.not_mem_nil,List.nodup_nil⟩,fun x hx y hy e=>hp (by rw [List.mem_singleton] at hy;rw [← hy,← e];exact hx)⟩
theorem up_nd:∀ (n:Nat) (T:List Pt) (p:Pt),T.Nodup→(up n T p).Nodup
 | 0, _, _, h => h
 | n + 1, T, p, h => by
   unfold up
   split
   · exact h
   · rename_i hp
     exact up_nd n _ _ (nd_snoc h hp)
theorem laW (hT:(pts T).Nodup):Ct prg (wv b w) 640 none (KK (wv b w).params) g d os (lpAt (wv b w).params 268 lc 1 [0] .none) (laS (wv b w).params q tl lc tk1 tk2 T n1 [ent (wv b w).params "path" tk3 (pv v)] n2) none
   fun u=>(.ok .next,laS (wv b w).params q tl lc tk1 tk2 (tag (up 5 (pts T) v.1) u.L) u.n [ent (wv b w).params "path" u.n3 u.v] u.n2):=by
 refine ⟨fun B h t R KX hS H x=>loopI (σ:=Nat×List PT×PT) (·.1) (fun s h=>∃ n1 n2 tk3,Hp B h (laS (wv b w).params q tl lc tk1 tk2 s.2.1 n1 [ent (wv b w).params "path" tk3 (pv s.2.2)] n2)∧(pts s.2.1).Nodup∧mu (pts s.2.1) s.2.2.1 < s.1∧up s.1 (pts s.2.1) s.2.2.1=up 5 (pts T) v.1) (fun s h t I IH=>?_) (x:=(5,T,v)) ⟨n1,n2,tk3,H,hT,mu_le _ _,rfl⟩⟩
 obtain ⟨m,T2,v2⟩:=s
 obtain ⟨n1,n2,tk3,H,hnd,hmu,hup⟩:=I
 dsimp only at H hnd hmu hup
 obtain ⟨m,rfl⟩:∃ k,m=k + 1:=⟨m - 1,by omega⟩
 rw [show up (m + 1) (pts T2) v2.1=if v2.1∈pts T2 then pts T2 else up m (pts T2++[v2.1]) (par v2.1) from rfl] at hup
 cases hm:decide (v2.1∈pts T2) with
 | true =>
   rw [if_pos (of_decide_eq_true hm)] at hup
   refine lw_yes KX H hm fun h' t' H=>x { xd0 with L:=T2.map (·.2),n:=n1,n2:=n2,n3:=tk3,v:=pv v2,t:=t' } h' trivial ?_
   dsimp only
   rw [← hup,tag_pts]
   exact H
 | false =>
   have hm':=of_decide_eq_false hm
   rw [if_neg hm',← pts_snoc1] at hup
   refine lw_no KX H hm (by have:=nodup_le hnd;rw [List.length_map] at this ⊢;omega) fun h' t' n1 n2 tk3 tv H=>IH (m,T2++[v2],(par v2.1,tv)) h' t' (Nat.lt_succ_self _) ⟨n1,n2,tk3,H,?_,?_,hup⟩
   · rw [pts_snoc1]
     exact nd_snoc hnd hm'
   · have := mu_step hm'
     rw [← pts_snoc1] at this
     dsimp only;omega
theorem lf_t (KX:Kin (KK (wv b w).params) B) (hS:(B sysModules).isSome=true) (H:Hp B h ([(a,itL q i),(q,lst (L.map pv) n)]++laS (wv b w).params q tl lc tk1 tk2 T n1 ex n2)) (hv:(L.map pv)[i]?=some (pv v)) (hex:ex=[]∨∃ tk x,ex=[ent (wv b w).params "path" tk x]) (hT:(pts T).Nodup)
   (IH:∀ h' t' ts n1 tk x n2,Hp B h' ([(a,itL q (i + 1)),(q,lst (L.map pv) n)]++laS (wv b w).params q tl lc tk1 tk2 (tag (up 5 (pts T) v.1) ts) n1 [ent (wv b w).params "path" tk x] n2)→codeAny (model prg (wv b w)) (AF 620 none) (lpAt (wv b w).params 268 lc 1 [] (.ref a)) R ⟨h',g,d,t',os⟩) :
   codeAny (model prg (wv b w)) (AF 620 none) (lpAt (wv b w).params 268 lc 1 [] (.ref a)) R ⟨h,g,d,t,os⟩:=by
 rcases hex with rfl | ⟨tk0,x0,rfl⟩
 · refine' go_code ?_
   (refine' run_T KX Rin.nil H 4000 ⟨[0,1,2,3],4⟩ rfl [.c 0,.v 0 (fun al=>rNext Rin.nil 0 (.c 1) (pv v)),.c 3,.f 3,.v 1 (fun al=>rC KX hS [2,2] 2 false (True) (fun _=>laW (q:=q) (tl:=tl) (lc:=lc) (tk1:=tk1) (tk2:=tk2) (tk3:=(al 0).n) (n1:=n1) (n2:=n2 + 1) (T:=T) (v:=v) hT))] fun al=>end_A (c:=(lpAt (wv b w).params 268 lc 1 [] (.ref a))) (cs:=([(a,itL q (i + 1)),(q,lst (L.map pv) n)]++laS (wv b w).params q tl lc tk1 tk2 (tag (up 5 (pts T) v.1) _) _ [ent (wv b w).params "path" _ _] _)) (by kernel_rfl) rfl  ⟨(fun hF=>trivial),(fun hF=>hv),trivial⟩ fun hp t hF H=>?_)
   exact IH _ _ _ _ _ _ _ H
 · refine' go_code ?_
   (refine' run_T KX Rin.nil H 4000 ⟨[0,1,2,3],4⟩ rfl [.c 0,.v 0 (fun al=>rNext Rin.nil 0 (.c 1) (pv v)),.c 3,.f 3,.v 1 (fun al=>rC KX hS [2,2] 2 false (True) (fun _=>laW (q:=q) (tl:=tl) (lc:=lc) (tk1:=tk1) (tk2:=tk2) (tk3:=tk0) (n1:=n1) (n2:=n2) (T:=T) (v:=v) hT))] fun al=>end_A (c:=(lpAt (wv b w).params 268 lc 1 [] (.ref a))) (cs:=([(a,itL q (i + 1)),(q,lst (L.map pv) n)]++laS (wv b w).params q tl lc tk1 tk2 (tag (up 5 (pts T) v.1) _) _ [ent (wv b w).params "path" _ _] _)) (by kernel_rfl) rfl  ⟨(fun hF=>trivial),(fun hF=>hv),trivial⟩ fun hp t hF H=>?_)
   exact IH _ _ _ _ _ _ _ H
theorem lf_e (KX:Kin (KK (wv b w).params) B) (H:Hp B h ([(a,itL q i),(q,lst (L.map pv) n)]++laS (wv b w).params q tl lc tk1 tk2 T n1 ex n2)) (hv:(L.map pv)[i]?=none)
   (x:∀ h' t',Hp B h' ([(q,lst (L.map pv) n)]++laS (wv b w).params q tl lc tk1 tk2 T n1 ex n2)→R (.ok .next) ⟨h',g,d,t',os⟩) :
   codeAny (model prg (wv b w)) (AF 620 none) (lpAt (wv b w).params 268 lc 1 [] (.ref a)) R ⟨h,g,d,t,os⟩:=by
 refine' go_code ?_
 (refine' run_T KX Rin.nil H 4000 ⟨[2,3,4],5⟩ rfl [.c 0,.v 0 (fun al=>rNextEnd Rin.nil 0 (.c 1)),.c 0] fun al=>end_R (r:=(.ok .next)) (cs:=([(q,lst (L.map pv) n)]++laS (wv b w).params q tl lc tk1 tk2 T n1 ex n2)) (by kernel_rfl) rfl  ⟨(fun hF=>hv),trivial⟩ fun hp t hF H=>?_)
 exact x _ _ H
theorem laF:Ct prg (wv b w) 620 none (KK (wv b w).params) g d os (lpAt (wv b w).params 268 lc 1 [] (.ref a)) ([(a,itL q 0),(q,lst (L.map pv) n)]++laS (wv b w).params q tl lc tk1 tk2 [] n1 [] n2) (some fun _=>(above (pts L)).Nodup)
   fun u=>(.ok .next,[(q,lst (L.map pv) n)]++laS (wv b w).params q tl lc tk1 tk2 (tag (above (pts L)) u.L) u.n u.T.toList u.n2):=by
 refine ⟨fun B h t R KX hS H x=>loopI (σ:=Nat×List PT) (fun s=>L.length - s.1) (fun s h=>∃ n1 ex n2,Hp B h ([(a,itL q s.1),(q,lst (L.map pv) n)]++laS (wv b w).params q tl lc tk1 tk2 s.2 n1 ex n2)∧(ex=[]∨∃ tk x,ex=[ent (wv b w).params "path" tk x])∧(pts s.2).Nodup∧((pts L).drop s.1).foldl (up 5) (pts s.2)=above (pts L)) (fun s h t I IH=>?_) (x:=(0,[])) ⟨n1,[],n2,H,.inl rfl,List.nodup_nil,rfl⟩⟩
 obtain ⟨i,T⟩:=s
 obtain ⟨n1,ex,n2,H,hex,hnd,hup⟩:=I
 dsimp only at H hnd hup
 rcases hx:L[i]? with _ | v
 · refine lf_e KX H (item_no hx) fun h' t' H => ?_
   rw [List.drop_eq_nil_iff.mpr (by rw [List.length_map];exact List.getElem?_eq_none_iff.mp hx)] at hup
   have e:pts T=above (pts L):=hup
   refine x { xd0 with L:=T.map (·.2),n:=n1,T:=ex.toArray,n2:=n2,t:=t' } h' ⟨e ▸ hnd,trivial⟩ ?_
   dsimp only
   rw [← e,tag_pts]
   exact H
 · have hi := (List.getElem?_eq_some_iff.mp hx)
   have hd:(pts L).drop i=v.1 :: (pts L).drop (i + 1):=by
     rw [List.drop_eq_getElem_cons (by rw [List.length_map];exact hi.1),List.getElem_map,hi.2]
   rw [hd,List.foldl_cons] at hup
   exact lf_t KX hS H (item_of hx) hex hnd fun h' t' ts n1 tk x n2 H=>IH (i + 1,tag (up 5 (pts T) v.1) ts) h' t' (by have:=hi.1;dsimp only;omega) ⟨n1,_,n2,H,.inr ⟨tk,x,rfl⟩,by rw [pts_tag];exact up_nd _ _ _ hnd,by rw [pts_tag];exact hup⟩
theorem tag_length:∀ (ps:List Pt) (ts:List Nat),(tag ps ts).length=ps.length
 | [], _ => rfl
 | _ :: ps, ts => congrArg (· + 1) (tag_length ps ts.tail)
theorem laC:Ct prg (wv b w) 600 none (KK (wv b w).params) g d os (.call (.ref 268) ⟨[.ref q],[]⟩) [(q,lst (L.map pv) n)] none
   fun u=>(.ok (.ret (.ref u.n)),[(u.n,lst ((tag (srt (above (pts L))) u.L).map pv) u.n2),(q,lst (L.map pv) n)]):=by
 refine ⟨fun B h t R KX hS H x=>?_⟩
 refine' go_ent KX H rfl ?_
 (refine' run_T2 KX Rin.nil H 4000 ⟨[0,1],4⟩ rfl [.k,.b 0,.c 0,.f 0,.k,.b 1,.c 1,.f 1,.c 1,.c 2,.c 2,.e,.c 2,.q,.b 2,.c 0,.v 3 (fun al=>rC KX hS [0,2,0,0] 0 false (True) (fun _=>laF (q:=q) (a:=(al 2).n) (tl:=(al 1).1) (lc:=(al 0).n) (tk1:=t) (tk2:=t + 1) (n:=n) (n1:=0) (n2:=0 + 1 + 1) (L:=L))),.k,.k,.c 2,.v 4 (fun al=>rSorted Rin.nil (.c 1) (tag (above (pts L)) (al 3).L))] fun al=>end_R2 (r:=(.ok (.ret (.ref _)))) (cs:=[(_,lst ((tag (srt (pts (tag (above (pts L)) _))) _).map pv) _),(q,lst (L.map pv) n)]) (by kernel_rfl) (by kernel_rfl) rfl (by kernel_rfl) ⟨(fun hF=>(by rw [tag_length];exact Nat.lt_of_le_of_lt (nodup_le hF.1) (by decide))),(fun hF=>trivial),trivial⟩ fun hp t hF H=>?_)
 rw [pts_tag] at H
 exact x { xd0 with n:=_,L:=_,n2:=_,t:=_ } _ trivial H
end
structure Nd where
 p:Pt
 tn:Tok
 dd:Option Addr
 ni:Addr
 sc:Addr
 np:Int
 tp:Tok
 su:List Value
 n:Nat
noncomputable def ndO (x:Nd):Obj:=⟨.ref 54,x.dd,.plain,#[some (.str (sp x.p) x.tn),some (.int x.np x.tp),some (.ref x.sc)]⟩
noncomputable def ndC (x:Nd):List (Addr×Obj):=[(x.ni,ndO x),(x.sc,lst x.su x.n)]
noncomputable def ndsC (N:List Nd):List (Addr×Obj):=N.flatMap ndC
noncomputable def kvN (N:List Nd):List (Pt×Value):=N.map fun x=>(x.p,.ref x.ni)
noncomputable abbrev psN (N:List Nd):List Pt:=N.map (·.p)
noncomputable def soO (sd:Addr):Obj:=⟨.ref 151,some sd,.plain,#[]⟩
noncomputable def sdO (P:Params) (n2:Addr) (t1 t2 t3 t4:Tok) (rv:Value) (a b:Int) (t5 t6:Tok) (n:Nat):Obj :=
 ⟨.type sDict,none,.dict [ent P "_node2info" t1 (.ref n2),ent P "_ready_nodes" t2 rv,ent P "_npassedout" t3 (.int a t5),ent P "_nfinished" t4 (.int b t6)].toArray n,#[]⟩
theorem kv_keys (N:List Nd):(kvN N).map (·.1)=psN N:=by
 unfold kvN psN
 rw [List.map_map];rfl
theorem kv_len (N:List Nd):(kvN N).length=N.length:=List.length_map _
theorem vat_none {N:List Nd}{p:Pt}(h:p ∉ psN N):vat (kvN N) p=none:=by
 unfold vat
 rw [List.find?_eq_none.mpr,Option.map_none]
 intro q hq
 obtain ⟨x,hx,rfl⟩:=List.mem_map.mp hq
 simp only [decide_eq_true_eq]
 exact fun e=>h (e ▸ List.mem_map_of_mem hx)
theorem vat_cons (p:Pt) (x:Nd) (N:List Nd):vat (kvN (x :: N)) p=if x.p=p then some (.ref x.ni) else vat (kvN N) p:=by
 unfold vat kvN
 rw [List.map_cons,List.find?_cons]
 by_cases h:x.p=p
 · simp [h]
 · simp [h]
theorem vat_some {N1 N2:List Nd}{x:Nd}(h:x.p ∉ psN N1):vat (kvN (N1++x :: N2)) x.p=some (.ref x.ni):=by
 induction N1 with
 | nil => rw [List.nil_append, vat_cons, if_pos rfl]
 | cons y N ih =>
   have hy:¬ y.p=x.p:=fun e=>h (by simp [psN,e])
   rw [List.cons_append,vat_cons,if_neg hy]
   exact ih fun hm=>h (List.mem_cons_of_mem _ hm)
theorem setK_new {N:List Nd}{p:Pt}{v:Value}(h:p ∉ psN N):setK (kvN N) p v=kvN N++[(p,v)]:=by
 unfold setK
 rw [if_neg]
 intro hc
 obtain ⟨q,hq,e⟩:=List.any_eq_true.mp hc
 obtain ⟨x,hx,rfl⟩:=List.mem_map.mp hq
 exact h ((of_decide_eq_true e:x.p=p) ▸ List.mem_map_of_mem hx)
theorem nd_split {N:List Nd}{p:Pt}(hn:(psN N).Nodup) (h:p∈psN N):∃ N1 x N2,N=N1++x :: N2∧x.p=p∧p ∉ psN N1:=by
 obtain ⟨x,hx,rfl⟩:=List.mem_map.mp h
 obtain ⟨N1,N2,rfl⟩:=List.append_of_mem hx
 refine ⟨N1,x,N2,rfl,rfl,fun hm=>?_⟩
 rw [psN,List.map_append,List.map_cons,List.nodup_append] at hn
 exact hn.2.2 _ hm _ (.head _) rfl
theorem nds_perm (N1:List Nd) (x:Nd) (N2:List Nd):(ndC x++ndsC (N1++N2)).Perm (ndsC (N1++x :: N2)):=by
 unfold ndsC
 rw [List.flatMap_append,List.flatMap_append,List.flatMap_cons,← List.append_assoc,← List.append_assoc]
 exact List.perm_append_comm.append_right _
theorem nds_snoc (N:List Nd) (x:Nd):ndsC (N++[x])=ndsC N++ndC x:=by
 unfold ndsC
 rw [List.flatMap_append,List.flatMap_cons,List.flatMap_nil,List.append_nil]
noncomputable def chl (F:List Pt) (p:Pt):List Pt:=F.filter fun q=>decide (q≠.r∧par q=p)
structure NsOk (F : List Pt) (N : List Nd) : Prop where
 ps:psN N=F
 np:∀ x∈N,x.np=if x.p=.r then 0 else 1
 su:∀ x∈N,∃ L:List PT,x.su=L.map pv∧pts L=chl F x.p
theorem par_ne:∀ {p:Pt},p≠.r→par p≠p:=by
 intro p h e
 cases p <;> simp [par] at e h
theorem NsOk.root {x:Nd}(hp:x.p=.r) (h0:x.np=0) (hs:x.su=[]):NsOk [x.p] [x]:=by
 refine ⟨rfl,fun y hy=>?_,fun y hy=>?_⟩
 · obtain rfl := List.mem_singleton.mp hy
   rw [hp,h0];rfl
 · obtain rfl := List.mem_singleton.mp hy
   exact ⟨[],hs,by rw [hp];rfl⟩
theorem NsOk.add {F:List Pt}{N1 N2:List Nd}{x x' y:Nd}{p:Pt}(k:NsOk F (N1++x :: N2)) (hr:p≠.r) (hp:p ∉ F) (hx:x.p=par p) (e1:x'.p=x.p) (e2:x'.np=x.np){v:PT}(hv:v.1=p) (e3:x'.su=x.su++[pv v])
   (y1:y.p=p) (y2:y.np=1) (y3:y.su=[]) (hn:F.Nodup) (hch:∀ q∈F,q≠.r→par q≠p):NsOk (F++[p]) ((N1++x' :: N2)++[y]):=by
 have kps:=k.ps
 have cl:∀ q,chl (F++[p]) q=chl F q++(if par p=q then [p] else []):=by
   intro q
   unfold chl
   rw [List.filter_append]
   congr 1
   by_cases h:par p=q
   · simp [h,hr]
   · simp [h]
 have nx:∀ z∈N1++N2,z.p≠x.p:=by
   intro z hz e
   rw [← kps,psN,List.map_append,List.map_cons,List.nodup_append] at hn
   obtain ⟨_,h2,h3⟩:=hn
   rcases List.mem_append.mp hz with hz | hz
   · exact h3 _ (List.mem_map_of_mem hz) _ (.head _) e
   · exact (List.nodup_cons.mp h2).1 (e ▸ List.mem_map_of_mem hz)
 have old:∀ z∈N1++N2,z.np=(if z.p=.r then 0 else 1)∧∃ L:List PT,z.su=L.map pv∧pts L=chl (F++[p]) z.p:=by
   intro z hz
   have hz':z∈N1++x :: N2:=by
     rcases List.mem_append.mp hz with hz | hz <;> simp [hz]
   obtain ⟨Lz,h1,h2⟩:=k.su z hz'
   refine ⟨k.np z hz',Lz,h1,?_⟩
   rw [h2,cl,if_neg,List.append_nil]
   rw [← hx]
   exact fun e=>nx z hz e.symm
 refine ⟨?_,fun z hz=>?_,fun z hz=>?_⟩
 · rw [← kps]
   simp [psN,e1,y1]
 all_goals
   rcases List.mem_append.mp hz with hz | hz
   · rcases List.mem_append.mp hz with hz | hz
     · first | exact (old z (by simp [hz])).1 | exact (old z (by simp [hz])).2
     · rcases List.mem_cons.mp hz with rfl | hz
       · first
           | (rw [e2, e1]; exact k.np x (by simp))
           | (obtain ⟨Lz, h1, h2⟩ := k.su x (by simp)
              exact ⟨Lz++[v],by rw [e3,h1,List.map_append];rfl,by rw [pts_snoc,e1,h2,cl,hx,if_pos rfl,hv]⟩)
       · first | exact (old z (by simp [hz])).1 | exact (old z (by simp [hz])).2
   · obtain rfl := List.mem_singleton.mp hz
     first
       | (rw [y2, y1, if_neg hr])
       | (refine ⟨[], y3, ?_⟩
          rw [y1,cl,if_neg (par_ne hr),List.append_nil]
          symm
          refine List.filter_eq_nil_iff.mpr fun q hq=>?_
          simp only [decide_eq_true_eq]
          exact fun h=>hch q hq h.1 h.2)
theorem vat_map (kvs:List (Pt×Value)) (p q:Pt) (v:Value):vat (kvs.map fun x=>if x.1=p then (x.1,v) else x) q=(vat kvs q).map fun u=>if q=p then v else u:=by
 unfold vat
 induction kvs with
 | nil => rfl
 | cons x r ih =>
   rw [List.map_cons,List.find?_cons,List.find?_cons]
   have e:(if x.1=p then (x.1,v) else x).1=x.1:=by
     by_cases h:x.1=p
     · rw [if_pos h]
     · rw [if_neg h]
   rw [e]
   cases h:decide (x.1=q) with
   | false => exact ih
   | true =>
     have hq:x.1=q:=of_decide_eq_true h
     dsimp only [Option.map_some]
     rw [← hq]
     by_cases h:x.1=p
     · rw [if_pos h,if_pos h]
     · rw [if_neg h,if_neg h]
theorem vat_setK (kvs:List (Pt×Value)) (p q:Pt) (v:Value):vat (setK kvs p v) q=if q=p then some v else vat kvs q:=by
 unfold setK
 by_cases hc:(kvs.any fun q=>decide (q.1=p))=true
 · rw [if_pos hc, vat_map]
   by_cases h:q=p
   · rw [if_pos h]
     obtain ⟨x,hx,e⟩:=List.any_eq_true.mp hc
     have:(vat kvs q).isSome=true:=by
       unfold vat
       rw [Option.isSome_map,List.find?_isSome]
       exact ⟨x,hx,by rw [h];exact e⟩
     obtain ⟨u,hu⟩:=Option.isSome_iff_exists.mp this
     rw [hu,Option.map_some,if_pos h]
   · rw [if_neg h]
     simp [h]
 · rw [if_neg hc]
   unfold vat
   rw [List.find?_append]
   by_cases h:q=p
   · rw [if_pos h]
     have:kvs.find? (fun x=>decide (x.1=q))=none:=by
       refine List.find?_eq_none.mpr fun x hx e=>hc (List.any_eq_true.mpr ⟨x,hx,?_⟩)
       rw [← h];exact e
     rw [this]
     simp [h]
   · rw [if_neg h]
     have:¬ p=q:=fun e=>h e.symm
     simp [this]
noncomputable def rdy (N:List Nd):List Value:=(N.filter fun x=>decide (x.np=0)).map fun x=>.str (sp x.p) x.tn
theorem rdy_snoc0 {N:List Nd}{x:Nd}(h:x.np=0):rdy (N++[x])=rdy N++[.str (sp x.p) x.tn]:=by
 unfold rdy
 rw [List.filter_append,List.map_append]
 simp [h]
theorem rdy_snoc1 {N:List Nd}{x:Nd}(h:x.np≠0):rdy (N++[x])=rdy N:=by
 unfold rdy
 rw [List.filter_append]
 simp [h]
theorem kv_at (N:List Nd) (j:Nat):(kvN N)[j]?=(N[j]?).map fun x=>(x.p,.ref x.ni):=List.getElem?_map ..
theorem nd_at {N:List Nd}{j:Nat}{y:Nd}(h:N[j]?=some y):∃ N1 N2,N=N1++y :: N2∧N1.length=j∧N.take j=N1∧N.take (j + 1)=N1++[y]:=by
 obtain ⟨hj,e⟩:=List.getElem?_eq_some_iff.mp h
 refine ⟨N.take j,N.drop (j + 1),?_,by rw [List.length_take];omega,rfl,?_⟩
 · rw [← e,List.getElem_cons_drop,List.take_append_drop]
 · rw [List.take_add_one,h];rfl
structure FolOk (F : List Pt) : Prop where
 nd:F.Nodup
 rt:F[0]?=some .r
 pa:∀ i p,F[i]?=some p→p≠.r→par p∈F.take i
theorem FolOk.root {F:List Pt}(k:FolOk F){i:Nat}{p:Pt}(h:F[i]?=some p):p=.r↔i=0:=by
 obtain ⟨a1,b1⟩:=List.getElem?_eq_some_iff.mp k.rt
 obtain ⟨a2,b2⟩:=List.getElem?_eq_some_iff.mp h
 refine ⟨fun e=>?_,fun e=>?_⟩
 · by_cases h0 : i = 0
   · exact h0
   · exact absurd (b1.trans (e.symm.trans b2.symm)) (List.pairwise_iff_getElem.mp k.nd 0 i a1 a2 (by omega))
 · subst e
   exact b2.symm.trans b1
section
variable {prog:Program}{w:World}{A:Around}{R:Result→Shared→Prop}{B:Addr→Option Obj}{g:Array GenState}{d:Drawn}{os:OsState}{K:Frag}{rs:List (Addr×Obj)}
theorem run_goK {h:Heap}{l:List Kt}{c:Code}{t:Sem Fin}{i:Nat}{cs:List (Addr×Obj)}(KX:Kin K B) (RX:Rin rs B) (H:Hp B h cs) (n:Nat) (ks:Ks) (hk:ksB ks=true) (r:List (Oq (Rul prog w A R B g d os))){l':(Nat→Xd)→List Kt}{c':(Nat→Xd)→Code}{t':(Nat→Xd)→Sem Fin}{i':(Nat→Xd)→Nat}{cs':(Nat→Xd)→List (Addr×Obj)}{E E':(Nat→Xd)→List Qx}{P F:(Nat→Xd)→Prop}
   (e:∀ α,exr ⟨prog,w.params⟩ K rs ks α n r l c t i cs 0 [] [] True True=.mk (l' α) (c' α) (t' α) (i' α) (cs' α) (E α) (E' α) (P α) (F α)) (hE:∀ α,E α=E' α) (p:∀ α,P α)
   (x:∀ α h,F α→Hp B h (cs' α)→Go prog w A R (l' α) (c' α) (t' α) ⟨h,g,d,i' α,os⟩):Go prog w A R l c t ⟨h,g,d,i,os⟩ :=
 run_sd KX RX H n ks hk r e fun α=>⟨⟨hE α,p α⟩,fun hF h H=>x α h hF H⟩
theorem run_goK2 {b:Bool}{h:Heap}{l:List Kt}{c:Code}{t:Sem Fin}{i:Nat}{cs:List (Addr×Obj)}(KX:Kin K B) (RX:Rin rs B) (H:Hp B h cs) (n:Nat) (ks:Ks) (hk:ksB ks=true) (r:List (Oq (Rul prog (wv b w) A R B g d os))){l':(Nat→Xd)→List Kt}{c':(Nat→Xd)→Code}{t':(Nat→Xd)→Sem Fin}{i':(Nat→Xd)→Nat}{cs':(Nat→Xd)→List (Addr×Obj)}{E E':(Nat→Xd)→List Qx}{P F:(Nat→Xd)→Prop}
   (e:∀ α,exr ⟨prog,(wv true w).params⟩ K rs ks α n r l c t i cs 0 [] [] True True=.mk (l' α) (c' α) (t' α) (i' α) (cs' α) (E α) (E' α) (P α) (F α)) (e':∀ α,exr ⟨prog,(wv false w).params⟩ K rs ks α n r l c t i cs 0 [] [] True True=.mk (l' α) (c' α) (t' α) (i' α) (cs' α) (E α) (E' α) (P α) (F α)) (hE:∀ α,E α=E' α) (p:∀ α,P α)
   (x:∀ α h,F α→Hp B h (cs' α)→Go prog (wv b w) A R (l' α) (c' α) (t' α) ⟨h,g,d,i' α,os⟩):Go prog (wv b w) A R l c t ⟨h,g,d,i,os⟩:=by
 cases b
 · exact run_goK KX RX H n ks hk r e' hE p x
 · exact run_goK KX RX H n ks hk r e hE p x
end
theorem foldI {M:Model}{A:Around}{c:Code}{R:Result→Shared→Prop}{g:Array GenState}{d:Drawn}{os:OsState}{α β:Type}(L:List α) (f:α→List β) (I:Nat→List β→Heap→Prop)
   (turn:∀ j v out h t,L[j]?=some v→I j out h→(∀ h' t',I (j + 1) (out++f v) h'→codeAny M A c R ⟨h',g,d,t',os⟩)→codeAny M A c R ⟨h,g,d,t,os⟩)
   (fin:∀ h t,I L.length (L.flatMap f) h→codeAny M A c R ⟨h,g,d,t,os⟩){h:Heap}{t:Nat}(i:I 0 [] h):codeAny M A c R ⟨h,g,d,t,os⟩:=by
 have key:∀ k j out h t,L.length - j=k→out=(L.take j).flatMap f→I j out h→j≤L.length→codeAny M A c R ⟨h,g,d,t,os⟩:=by
   intro k
   induction k with
   | zero =>
     intro j out h t hk ho hi hj
     obtain rfl:j=L.length:=by omega
     rw [List.take_length] at ho
     exact fin h t (ho ▸ hi)
   | succ k ih =>
     intro j out h t hk ho hi hj
     have hlt:j < L.length:=by omega
     have hv:L[j]?=some L[j]:=List.getElem?_eq_getElem hlt
     refine turn j L[j] out h t hv hi fun h' t' hi'=>ih (j + 1) _ h' t' (by omega) ?_ hi' hlt
     have e:L.take (j + 1)=L.take j++[L[j]]:=by rw [List.take_add_one,hv];rfl
     rw [e,ho,List.flatMap_append]
     exact congrArg _ (List.append_nil _).symm
 exact key _ 0 [] h t rfl rfl i (Nat.zero_le _)
noncomputable def envC2 (P:Params) (a fr cf1:Addr) (cells1:List (Str×Addr)) (e1:Expr) (cf2:Addr) (cells2:List (Str×Addr)) (e2:Expr):Env:=envC e2 (envC e1 (envAt P a fr) cells1 cf1) cells2 cf2
noncomputable def cpAt2 (P:Params) (a fr cf1:Addr) (cells1:List (Str×Addr)) (e1:Expr) (cf2:Addr) (cells2:List (Str×Addr)) (e2:Expr) (it acc:Addr):Code:=.compLoop e2 0 (.ref it) (.ref acc) (envC2 P a fr cf1 cells1 e1 cf2 cells2 e2)
noncomputable def csAt2 (P:Params) (a fr cf1:Addr) (cells1:List (Str×Addr)) (e1:Expr) (cf2:Addr) (cells2:List (Str×Addr)) (e2:Expr) (it acc:Addr):Code:=.compStart e2 0 (.ref it) (.ref acc) (envC2 P a fr cf1 cells1 e1 cf2 cells2 e2)
noncomputable def envAtC (P:Params) (a fr:Addr) (cl:List (Str×Addr)):Env:=⟨(fdAt P a).scope,fr,(fdAt P a).globals,cl++(fdAt P a).closure,quAt P (fdAt P a)++".<locals>.",some a,(fdAt P a).code,some fr,(fdAt P a).builtins⟩
noncomputable def lpAtC (P:Params) (a fr:Addr) (cl:List (Str×Addr)) (i:Nat) (p:List Nat) (it:Value):Code:=loopC (stAt (bdAt P a) i p) it (envAtC P a fr cl)
section
open PySem.W PySem.W.ZFast
noncomputable def fuT (env:Env) (m:Sem Flow):Sem Fin:=R.bindR (R.onRaiseR m (zw9442747609961115081 env)) fun fl=>match fl with
 | .ret v => zw6905046200447255374 v
 | _ => zw6905046200447255374 .none
noncomputable def sqT (ss:List Stmt) (env:Env) (m:Sem Flow):Sem Flow:=R.bindR m fun f=>match f with
 | .next => zw12563942051412417395 ss env
 | f => .pure f
noncomputable def ifT (b o:List Stmt) (env:Env) (m:Sem Bool):Sem Flow:=R.bindR m fun c=>X.condFn (Sem Flow) c (zw12563942051412417395 b env) (zw12563942051412417395 o env)
noncomputable def opT (vs:List Value) (m:Sem Value):Sem Value:=R.bindR (R.keepR vs m) fun r=>R.bindR (zw16427652380498605876 vs [r]) fun _=>.pure r
noncomputable def tvT (m:Sem Value):Sem Bool:=R.bindR m fun c=>zw17359229931016689406 [c] (zw15245631507167962100 c)
noncomputable def orT (rest:List Expr) (env:Env) (m:Sem Bool):Sem Bool:=R.bindR m fun r=>match BoolOp.Or,r with
 | .And, false => .pure false
 | .Or, true => .pure true
 | _, _ => zw15418851999007992765 (.BoolOp .Or rest default) env (.pure .none)
noncomputable def ifTest:Stmt→Expr
 | .If t _ _ _ => t
 | _ => default
noncomputable def boolL:Expr→List Expr
 | .BoolOp _ l _ => l
 | _ => []
inductive Sh where
 | mk (l : List Kt) (c : Code) (cs : List (Addr × Obj)) (P F : Prop)
 | no
noncomputable def sh:Ev→Sh
 | .mk l c _ _ cs _ _ P F => .mk l c cs P F
 | _ => .no
noncomputable def tO:Ev→Sem Fin
 | .mk _ _ t _ _ _ _ _ _ => t
 | _ => .pure (.done .next)
variable {prog:Program}{w:World}{A:Around}{R:Result→Shared→Prop}{B:Addr→Option Obj}{g:Array GenState}{d:Drawn}{os:OsState}{K:Frag}{rs:List (Addr×Obj)}
theorem end_M {v:Ev}{l:List Kt}{c:Code}{t:Sem Fin}{cs:List (Addr×Obj)}{P F:Prop}(e0:eqL v=eqR v) (e:sh v=.mk l c cs P F) (et:tO v=t) (p:P) (x:∀ h i,F→Hp B h cs→Go prog w A R l c t ⟨h,g,d,i,os⟩):EndR prog w A R B g d os v:=by
 cases v with
 | mk l0 c0 t0 i cs0 E E' P0 F0 => cases e; cases et; exact ⟨⟨e0, p⟩, fun hF h H => x h i hF H⟩
 | _ => cases e
theorem end_M2 {v v':Ev}{l:List Kt}{c:Code}{t:Sem Fin}{cs:List (Addr×Obj)}{P F:Prop}(e0:eqL v=eqR v) (e0':eqL v'=eqR v') (e:sh v=.mk l c cs P F) (e':sh v'=.mk l c cs P F) (et:tO v=t) (et':tO v'=t) (p:P) (x:∀ h i,F→Hp B h cs→Go prog w A R l c t ⟨h,g,d,i,os⟩):EndB prog w A R B g d os v v' :=
 ⟨end_M e0 e et p x,end_M e0' e' et' p x⟩
theorem run_M {h:Heap}{l:List Kt}{c:Code}{t:Sem Fin}{i:Nat}{cs:List (Addr×Obj)}(KX:Kin K B) (RX:Rin rs B) (H:Hp B h cs) (n:Nat) (ks:Ks) (hk:ksB ks=true) (r:List (Oq (Rul prog w A R B g d os))) (t':(Nat→Xd)→Sem Fin){l':(Nat→Xd)→List Kt}{c':(Nat→Xd)→Code}{cs':(Nat→Xd)→List (Addr×Obj)}{P F:(Nat→Xd)→Prop}
   (e:∀ α,sh (exr ⟨prog,w.params⟩ K rs ks α n r l c t i cs 0 [] [] True True)=.mk (l' α) (c' α) (cs' α) (P α) (F α))
   (e0:∀ α,eqL (exr ⟨prog,w.params⟩ K rs ks α n r l c t i cs 0 [] [] True True)=eqR (exr ⟨prog,w.params⟩ K rs ks α n r l c t i cs 0 [] [] True True))
   (et:∀ α,tO (exr ⟨prog,w.params⟩ K rs ks α n r l c t i cs 0 [] [] True True)=t' α) (p:∀ α,P α)
   (x:∀ α h i,F α→Hp B h (cs' α)→Go prog w A R (l' α) (c' α) (t' α) ⟨h,g,d,i,os⟩):Go prog w A R l c t ⟨h,g,d,i,os⟩ :=
 run_sd KX RX H n ks hk r (fun _=>rfl) fun α=>end_M (e0 α) (e α) (et α) (p α) (x α)
theorem run_M2 {b:Bool}{h:Heap}{l:List Kt}{c:Code}{t:Sem Fin}{i:Nat}{cs:List (Addr×Obj)}(KX:Kin K B) (RX:Rin rs B) (H:Hp B h cs) (n:Nat) (ks:Ks) (hk:ksB ks=true) (r:List (Oq (Rul prog (wv b w) A R B g d os))) (t':(Nat→Xd)→Sem Fin){l':(Nat→Xd)→List Kt}{c':(Nat→Xd)→Code}{cs':(Nat→Xd)→List (Addr×Obj)}{P F:(Nat→Xd)→Prop}
   (e:∀ α,sh (exr ⟨prog,(wv true w).params⟩ K rs ks α n r l c t i cs 0 [] [] True True)=.mk (l' α) (c' α) (cs' α) (P α) (F α))
   (e':∀ α,sh (exr ⟨prog,(wv false w).params⟩ K rs ks α n r l c t i cs 0 [] [] True True)=.mk (l' α) (c' α) (cs' α) (P α) (F α))
   (e0:∀ α,eqL (exr ⟨prog,(wv true w).params⟩ K rs ks α n r l c t i cs 0 [] [] True True)=eqR (exr ⟨prog,(wv true w).params⟩ K rs ks α n r l c t i cs 0 [] [] True True))
   (e0':∀ α,eqL (exr ⟨prog,(wv false w).params⟩ K rs ks α n r l c t i cs 0 [] [] True True)=eqR (exr ⟨prog,(wv false w).params⟩ K rs ks α n r l c t i cs 0 [] [] True True))
   (et:∀ α,tO (exr ⟨prog,(wv true w).params⟩ K rs ks α n r l c t i cs 0 [] [] True True)=t' α)
   (et':∀ α,tO (exr ⟨prog,(wv false w).params⟩ K rs ks α n r l c t i cs 0 [] [] True True)=t' α) (p:∀ α,P α)
   (x:∀ α h i,F α→Hp B h (cs' α)→Go prog (wv b w) A R (l' α) (c' α) (t' α) ⟨h,g,d,i,os⟩):Go prog (wv b w) A R l c t ⟨h,g,d,i,os⟩:=by
 cases b
 · exact run_M KX RX H n ks hk r t' e' e0' et' p x
 · exact run_M KX RX H n ks hk r t' e e0 et p x
theorem go_ifc {l:List Kt}{c:Code}{s:Shared}{env:Env}{ss b o:List Stmt}{op:CmpOp}{a1 a2:Value}{r:Bool}
   (h0:∀ (E Q:Value→Shared→Prop),Q (.bool r) s→wpAny (model prog w) ((ar A l).under c) (richCompare op a1 a2) Q E s)
   (x:Go prog w A R l c (fuT env (sqT ss env (ifT b o env (tvT (opT [a1,a2] (.pure (.bool r))))))) s):Go prog w A R l c (fuT env (sqT ss env (ifT b o env (tvT (opT [a1,a2] (zw9423741818375054981 op a1 a2)))))) s:=by
 refine go_cx (m0:=zw9423741818375054981 op a1 a2) (v:=Value.bool r) (fun s'=>s'=s) ?_ ?_ (fun s' e=>e ▸ x)
 · exact Cx.bind (Cx.onRaise (Cx.bind (Cx.bind (Cx.bind (Cx.bind (Cx.keep Cx.hole))))))
 · rw [← ze9423741818375054981]
   exact h0 _ _ ⟨rfl,rfl⟩
theorem go_orc {l:List Kt}{c:Code}{s:Shared}{env:Env}{ss b o:List Stmt}{rest:List Expr}{op:CmpOp}{a1 a2:Value}{r:Bool}
   (h0:∀ (E Q:Value→Shared→Prop),Q (.bool r) s→wpAny (model prog w) ((ar A l).under c) (richCompare op a1 a2) Q E s)
   (x:Go prog w A R l c (fuT env (sqT ss env (ifT b o env (orT rest env (tvT (opT [a1,a2] (.pure (.bool r)))))))) s):Go prog w A R l c (fuT env (sqT ss env (ifT b o env (orT rest env (tvT (opT [a1,a2] (zw9423741818375054981 op a1 a2))))))) s:=by
 refine go_cx (m0:=zw9423741818375054981 op a1 a2) (v:=Value.bool r) (fun s'=>s'=s) ?_ ?_ (fun s' e=>e ▸ x)
 · exact Cx.bind (Cx.onRaise (Cx.bind (Cx.bind (Cx.bind (Cx.bind (Cx.bind (Cx.keep Cx.hole)))))))
 · rw [← ze9423741818375054981]
   exact h0 _ _ ⟨rfl,rfl⟩
end
structure Se where
 p:Pt
 tk:Tok
 bm:Addr
 it:Addr
 sc:Addr
 j:Nat
noncomputable def seC (e:Se):List (Addr×Obj):=[(e.bm,bmO idLN e.it),(e.it,itL e.sc e.j)]
noncomputable def ssC (S:List Se):List (Addr×Obj):=S.flatMap seC
noncomputable def skV (S:List Se):List Value:=S.map fun e=>.str (sp e.p) e.tk
noncomputable def isV (S:List Se):List Value:=S.map fun e=>.ref e.bm
structure FcS (F : List Pt) (N : List Nd) (S : List Se) (L : List Pt) : Prop where
 sub:∀ p∈L,p∈F
 nd:L.Nodup
 cl:∀ c∈L,c≠.r→par c∈L
 st:∀ e∈S,e.p∈L∧(∃ x∈N,x.p=e.p∧x.sc=e.sc)∧∀ m c,(chl F e.p)[m]?=some c→(c∈L↔m < e.j)
 sn:(S.map (·.p)).Nodup
structure FcP (F : List Pt) (N : List Nd) (S : List Se) (L : List Pt) (p : Pt) : Prop where
 sub:∀ p∈L,p∈F
 nd:L.Nodup
 cl:∀ c∈L,c≠.r→par c∈L
 st:∀ e∈S,e.p∈L∧(∃ x∈N,x.p=e.p∧x.sc=e.sc)∧∀ m c,(chl F e.p)[m]?=some c→((c∈L∨c=p)↔m < e.j)
 sn:(S.map (·.p)).Nodup
 pF:p∈F
 pL:p ∉ L
 pp:p≠.r→par p∈L
theorem chl_mem {F:List Pt}{p c:Pt}:c∈chl F p↔c∈F∧c≠.r∧par c=p:=by
 unfold chl
 rw [List.mem_filter]
 simp
theorem chl_nd {F:List Pt}(h:F.Nodup) (p:Pt):(chl F p).Nodup:=h.sublist List.filter_sublist
theorem FcP.push {F:List Pt}{N:List Nd}{S:List Se}{L:List Pt}{p:Pt}(k:FcP F N S L p){e:Se}(he:e.p=p) (hj:e.j=0) (hx:∃ x∈N,x.p=e.p∧x.sc=e.sc):FcS F N (S++[e]) (L++[p]):=by
 refine ⟨fun q hq=>?_,?_,fun c hc hr=>?_,fun f hf=>?_,?_⟩
 · rcases List.mem_append.mp hq with hq | hq
   · exact k.sub q hq
   · rw [List.mem_singleton.mp hq];exact k.pF
 · exact List.nodup_append.mpr ⟨k.nd,by simp,fun a ha b hb e=>k.pL (by rw [List.mem_singleton] at hb;rw [← hb,← e];exact ha)⟩
 · rcases List.mem_append.mp hc with hc | hc
   · exact List.mem_append_left _ (k.cl c hc hr)
   · rw [List.mem_singleton] at hc
     rw [hc] at hr ⊢
     exact List.mem_append_left _ (k.pp hr)
 · rcases List.mem_append.mp hf with hf | hf
   · obtain ⟨h1, h2, h3⟩ := k.st f hf
     refine ⟨List.mem_append_left _ h1,h2,fun m c hc=>?_⟩
     rw [← h3 m c hc,List.mem_append,List.mem_singleton]
   · obtain rfl := List.mem_singleton.mp hf
     refine ⟨by rw [he];simp,hx,fun m c hc=>?_⟩
     rw [hj]
     refine ⟨fun h=>?_,fun h=>absurd h (Nat.not_lt_zero _)⟩
     obtain ⟨_,hr,hp⟩:=chl_mem.mp (List.mem_of_getElem? hc)
     rw [he] at hp
     rcases List.mem_append.mp h with h | h
     · have := k.cl c h hr
       rw [hp] at this
       exact absurd this k.pL
     · rw [List.mem_singleton] at h
       rw [h] at hp hr
       exact absurd hp (par_ne hr)
 · rw [List.map_append, List.nodup_append]
   refine ⟨k.sn,by simp,fun a ha b hb e=>?_⟩
   obtain ⟨f,hf,rfl⟩:=List.mem_map.mp ha
   rw [List.map_singleton,List.mem_singleton,he] at hb
   exact k.pL (by rw [← hb,← e];exact (k.st f hf).1)
theorem FcS.pop {F:List Pt}{N:List Nd}{S:List Se}{L:List Pt}{e:Se}(k:FcS F N (S++[e]) L):FcS F N S L :=
 ⟨k.sub,k.nd,k.cl,fun f hf=>k.st f (List.mem_append_left _ hf),k.sn.sublist (by rw [List.map_append];exact List.sublist_append_left _ _)⟩
theorem FcS.next {F:List Pt}{N:List Nd}{S:List Se}{L:List Pt}{e e':Se}{c:Pt}(hF:F.Nodup) (k:FcS F N (S++[e]) L) (hc:(chl F e.p)[e.j]?=some c) (h1:e'.p=e.p) (h2:e'.sc=e.sc) (h3:e'.j=e.j + 1):FcP F N (S++[e']) L c:=by
 have ke:=k.st e (by simp)
 have hcL:c ∉ L:=fun h=>absurd ((ke.2.2 e.j c hc).mp h) (Nat.lt_irrefl _)
 obtain ⟨hcF,hcr,hcp⟩:=chl_mem.mp (List.mem_of_getElem? hc)
 refine ⟨k.sub,k.nd,k.cl,fun f hf=>?_,?_,hcF,hcL,fun _=>by rw [hcp];exact ke.1⟩
 · rcases List.mem_append.mp hf with hf | hf
   · obtain ⟨q1, q2, q3⟩ := k.st f (List.mem_append_left _ hf)
     refine ⟨q1,q2,fun m d hd=>?_⟩
     rw [← q3 m d hd]
     refine ⟨fun h=>h.elim id fun h=>?_,.inl⟩
     obtain ⟨_,_,hdp⟩:=chl_mem.mp (List.mem_of_getElem? hd)
     rw [h,hcp] at hdp
     have hn:=k.sn
     rw [List.map_append,List.nodup_append] at hn
     exact absurd hdp.symm (hn.2.2 _ (List.mem_map_of_mem hf) _ (by simp))
   · obtain rfl := List.mem_singleton.mp hf
     rw [h1,h2,h3]
     refine ⟨ke.1,ke.2.1,fun m d hd=>?_⟩
     have q:=ke.2.2 m d hd
     constructor
     · rintro (h | h)
       · have:=q.mp h;omega
       · rw [h] at hd
         obtain ⟨a1,b1⟩:=List.getElem?_eq_some_iff.mp hd
         obtain ⟨a2,b2⟩:=List.getElem?_eq_some_iff.mp hc
         have:m=e.j:=by
           by_cases hm:m=e.j
           · exact hm
           · exact absurd (b1.trans b2.symm) (fun z=>hm ((List.getElem_inj (chl_nd hF e.p)).mp z))
         omega
     · intro h
       by_cases hm:m=e.j
       · rw [hm, hc] at hd
         exact .inr (Option.some.inj hd).symm
       · exact .inl (q.mpr (by omega))
 · have := k.sn
   rw [List.map_append] at this ⊢
   rw [List.map_singleton,h1]
   exact this
theorem ss_snoc (S:List Se) (e:Se):ssC (S++[e])=ssC S++seC e:=by
 unfold ssC
 rw [List.flatMap_append,List.flatMap_cons,List.flatMap_nil,List.append_nil]
theorem out_perm2 (a b r:List (Addr×Obj)) (N1:List Nd) (z:Nd) (N2:List Nd):(ndC z++(a++(b++(r++ndsC (N1++N2))))).Perm (a++(b++(r++ndsC (N1++z :: N2)))) :=
 (List.perm_append_comm_assoc _ _ _).trans (List.Perm.append_left _ ((List.perm_append_comm_assoc _ _ _).trans (List.Perm.append_left _ ((List.perm_append_comm_assoc _ _ _).trans (List.Perm.append_left _ (nds_perm N1 z N2))))))
theorem push_perm (S:List Se) (e:Se) (r:List (Addr×Obj)) (N1:List Nd) (z:Nd) (N2:List Nd):(ssC (S++[e])++(r++ndsC (N1++z :: N2))).Perm (seC e++(ndC z++(ssC S++(r++ndsC (N1++N2))))):=by
 rw [ss_snoc,List.append_assoc]
 refine (List.perm_append_comm_assoc _ _ _).trans (List.Perm.append_left _ ?_)
 exact (out_perm2 [] (ssC S) r N1 z N2).symm
theorem setK_keys {kvs:List (Pt×Value)}{p:Pt}{v:Value}(h:p ∉ kvs.map (·.1)):(setK kvs p v).map (·.1)=kvs.map (·.1)++[p]:=by
 unfold setK
 rw [if_neg,List.map_append]
 · rfl
 · intro hc
   obtain ⟨q,hq,e⟩:=List.any_eq_true.mp hc
   exact h ((of_decide_eq_true e:q.1=p) ▸ List.mem_map_of_mem hq)
theorem pop_perm (a:List (Addr×Obj)) (S:List Se) (e:Se) (r:List (Addr×Obj)) (N1:List Nd) (z:Nd) (N2:List Nd):(seC e++(ndC z++(a++(ssC S++(r++ndsC (N1++N2)))))).Perm (a++(ssC (S++[e])++(r++ndsC (N1++z :: N2)))):=by
 refine List.Perm.trans ?_ (List.Perm.append_left _ (push_perm S e r N1 z N2).symm)
 refine (List.Perm.append_left _ (List.perm_append_comm_assoc _ _ _)).trans ?_
 exact List.perm_append_comm_assoc _ _ _
theorem frC_id {σ:Addr→Array (Option Value)}{a:Addr}{o:Obj}(h:isFr o=false):frC σ (a,o)=(a,o):=by
 unfold frC frO
 rw [h]
theorem ss_fr (σ:Addr→Array (Option Value)):∀ S:List Se,(ssC S).map (frC σ)=ssC S
 | [] => rfl
 | e :: S => by
   have ih:=ss_fr σ S
   unfold ssC at ih ⊢
   rw [List.flatMap_cons,List.map_append,ih]
   congr 1
theorem nds_fr (σ:Addr→Array (Option Value)):∀ N:List Nd,(ndsC N).map (frC σ)=ndsC N
 | [] => rfl
 | x :: N => by
   have ih:=nds_fr σ N
   unfold ndsC at ih ⊢
   rw [List.flatMap_cons,List.map_append,ih]
   rfl
theorem vat_mem {kvs:List (Pt×Value)}{p:Pt}(h:p∈kvs.map (·.1)):(vat kvs p).isSome=true:=by
 unfold vat
 rw [Option.isSome_map,List.find?_isSome]
 obtain ⟨q,hq,e⟩:=List.mem_map.mp h
 exact ⟨q,hq,decide_eq_true e⟩
theorem delK_keys (kvs:List (Pt×Value)) (p:Pt):(delK kvs p).map (·.1)=(kvs.map (·.1)).filter fun q=>decide (q≠p):=by
 unfold delK
 rw [List.filter_map]
 rfl
theorem keys_pop {S:List Se}{e:Se}(h:((S++[e]).map (·.p)).Nodup):((S++[e]).map (·.p)).filter (fun q=>decide (q≠e.p))=S.map (·.p):=by
 rw [List.map_append,List.nodup_append] at h
 rw [List.map_append,List.filter_append]
 have h1:(S.map (·.p)).filter (fun q=>decide (q≠e.p))=S.map (·.p):=List.filter_eq_self.mpr fun q hq=>decide_eq_true (h.2.2 q hq e.p (by simp))
 rw [h1]
 simp
theorem out_permE (S:List Se) (r:List (Addr×Obj)){N M1 M2:List Nd}{z:Nd}(hM:N=M1++z :: M2):(ssC S++(r++ndsC N)).Perm (ndC z++(ssC S++(r++ndsC (M1++M2)))):=by
 rw [hM];exact (out_perm2 [] (ssC S) r M1 z M2).symm
set_option genSizeOf false
set_option genInjectivity false
structure Fa where
 (ot nd se is sk fc n2 so pf lc lf:Addr)
 od:Array DictEntry
 (n4 np nr nf k1 k2 k3 k4 k5 k6:Nat)
 (esp esr esf:List DictEntry)
noncomputable def fcL (P:Params) (c:Fa) (j:Nat) (ed:Array DictEntry) (i0:Nat) (D:Data) (us ws:List Value) (i1 i2:Nat) (ex:List DictEntry) (i3:Nat) (slc slp slr slf:Array (Option Value)):Us :=
 [(c.ot, ditO sDKI (.ref c.n2) (j : Int) c.od.size c.n4), (c.nd, dO ed i0), (c.se, seO D), (c.is, lst us i1), (c.sk, lst ws i2),
   (c.fc,locS (ent P "self" c.k1 (.ref c.so) :: ent P "n2i" c.k2 (.ref c.n2) :: ent P "stack" c.k3 (.ref c.sk) :: ent P "itstack" c.k4 (.ref c.is) :: ent P "seen" c.k5 (.ref c.se) :: ent P "node2stacki" c.k6 (.ref c.nd) :: ex) i3 slc),
   (c.n2,dO c.od c.n4),(c.pf,locS c.esp c.np slp),(c.lc,locS c.esr c.nr slr),(c.lf,locS c.esf c.nf slf)]
noncomputable abbrev fr3 (P:Params) (c:Fa) (eP eR eL:Env):Option (List Env):=some [envAt P 141 c.fc,eP,eR,eL]
noncomputable abbrev lp3 (P:Params) (c:Fa):Code:=lpAt P 141 c.fc 5 [1,1] .none
noncomputable abbrev lp2 (P:Params) (c:Fa):Code:=lpAt P 141 c.fc 5 [1] .none
noncomputable abbrev lp1 (P:Params) (c:Fa):Code:=lpAt P 141 c.fc 5 [] (.ref c.ot)
section
variable {b:Bool}{w:World}{g:Array GenState}{d:Drawn}{os:OsState}{c:Fa}{eP eR eL:Env}
variable {R:Result→Shared→Prop}{h:Heap}{t:Nat}{B:Addr→Option Obj}{j i0 i1 i2 i3:Nat}{ed:Array DictEntry}{D:Data}{us ws:List Value}{ex:List DictEntry}{slc slp slr slf:Array (Option Value)}{tl:Us}
theorem t3e (KX:Kin (KK (wv b w).params) B) (H:Hp B h (fcL (wv b w).params c j ed i0 D us [] i1 i2 ex i3 slc slp slr slf++tl))
   (x:∀ h' t',Hp B h' (fcL (wv b w).params c j ed i0 D us [] i1 i2 ex i3 slc slp slr slf++tl)→R (.ok .brk) ⟨h',g,d,t',os⟩) :
   codeAny (model prg (wv b w)) (AF 590 (fr3 (wv b w).params c eP eR eL)) (lp3 (wv b w).params c) R ⟨h,g,d,t,os⟩:=by
 refine' go_code ?_
 (refine' run_T KX Rin.nil H 4000 ⟨[0,1,2,3,4,5,6,7,8,9],10⟩ rfl [.c 5,.c 4,.c 4,.v 0 (fun al=>rLenB Rin.nil (.c 4) (0))] fun al=>end_R (r:=(.ok .brk)) (cs:=(fcL (wv b w).params c j ed i0 D us [] i1 i2 ex i3 slc slp slr slf++tl)) (by kernel_rfl) rfl  ⟨(fun hF=>⟨rfl,by decide⟩),trivial⟩ fun hp t hF H=>?_)
 exact x _ _ H
variable {bm it sc jj n tn:Nat}{v:Value}{Ly:List Value}
theorem t3n {x3:PT}(KX:Kin (KK (wv b w).params) B) (H:Hp B h ([(bm,bmO idLN it),(it,itL sc jj),(sc,lst Ly n)]++(fcL (wv b w).params c j ed i0 D (us++[.ref bm]) ws i1 i2 [ent (wv b w).params "node" tn v] i3 slc slp slr slf++tl)))
   (hx:Ly[jj]?=some (pv x3)) (hv:0 < ws.length∧ws.length≤1000)
   (x:∀ h' t' tn i3,Hp B h' (fcL (wv b w).params c j ed i0 D (us++[.ref bm]) ws i1 i2 [ent (wv b w).params "node" tn (pv x3)] i3 slc slp slr slf++([(bm,bmO idLN it),(it,itL sc (jj + 1)),(sc,lst Ly n)]++tl))→R (.ok .next) ⟨h',g,d,t',os⟩) :
   codeAny (model prg (wv b w)) (AF 590 (fr3 (wv b w).params c eP eR eL)) (lp3 (wv b w).params c) R ⟨h,g,d,t,os⟩:=by
 refine' go_code ?_
 obtain ⟨m,hm⟩:∃ m,ws.length=m + 1:=⟨ws.length - 1,by omega⟩
 (refine' run_T KX Rin.nil H 4000 ⟨[3,4,5,6,7,8,9,10,11,12,0,1,2],13⟩ rfl [.c 8,.c 7,.c 7,.v 0 (fun al=>rLenB Rin.nil (.c 7) (m + 1)),.c 8,.e,.q,.c 6,.c 6,.c 6,.v 1 (fun al=>rLast Rin.nil (.c 6) (.c 0)),.c 0,.v 2 (fun al=>rBnext Rin.nil 0 1 (.c 2) (pv x3)),.c 8,.g 8] fun al=>end_R (r:=(.ok .next)) (cs:=(fcL (wv b w).params c j ed i0 D (us++[.ref bm]) ws i1 i2 [ent (wv b w).params "node" _ (pv x3)] _ slc slp slr slf++([(bm,bmO idLN it),(it,itL sc (jj + 1)),(sc,lst Ly n)]++tl))) (by kernel_rfl) rfl  ⟨(fun hF=>hx),(fun hF=>⟨_,rfl⟩),(fun hF=>⟨hm,by omega⟩),trivial⟩ fun hp t hF H=>?_)
 exact x _ _ _ _ H
variable {tk:Tok}{p:Pt}{kvs:List (Pt×Value)}
theorem t3p (hkP:eP.scope.kind≠.module) (hfP:eP.frame=some c.pf) (hkR:eR.scope.kind≠.module) (hfR:eR.frame=some c.lc) (hkL:eL.scope.kind≠.module) (hfL:eL.frame=some c.lf) (htl:∀ σ,tl.map (frC σ)=tl)
   (KX:Kin (KK (wv b w).params) B) (H:Hp B h ([(bm,bmO idLN it),(it,itL sc jj),(sc,lst Ly n)]++(fcL (wv b w).params c j ed i0 D (us++[.ref bm]) (ws++[.str (sp p) tk]) i1 i2 [ent (wv b w).params "node" tn v] i3 slc slp slr slf++tl)))
   (hx:Ly[jj]?=none) (hv:ws.length≤900∧us.length≤900) (hed:IsD prg (wv b w) ed kvs) (hkl:kvs.length≤1000) (hpk:(vat kvs p).isSome=true)
   (IH:∀ h' t' ed i0 i1 i2 i3 slc slp slr slf,IsD prg (wv b w) ed (delK kvs p)→Hp B h' (fcL (wv b w).params c j ed i0 D us ws i1 i2 [ent (wv b w).params "node" tn v] i3 slc slp slr slf++([(sc,lst Ly n)]++tl))→codeAny (model prg (wv b w)) (AF 590 (fr3 (wv b w).params c eP eR eL)) (lp3 (wv b w).params c) R ⟨h',g,d,t',os⟩) :
   codeAny (model prg (wv b w)) (AF 590 (fr3 (wv b w).params c eP eR eL)) (lp3 (wv b w).params c) R ⟨h,g,d,t,os⟩:=by
 refine' go_code ?_
 have hl:(ws++[Value.str (sp p) tk]).length=ws.length + 1∧ws.length + 1≤1000:=⟨by rw [List.length_append];rfl,by omega⟩
 have hl2:(us++[Value.ref bm]).length≤1000:=by rw [List.length_append];exact Nat.succ_le_succ (Nat.le_trans hv.2 (by decide))
 (refine' run_goK KX Rin.nil H 4000 ⟨[0,1,2,3,4,5,6,7,8,9,10,11,12],13⟩ rfl [.c 8,.c 7,.c 7,.v 0 (fun al=>rLenB Rin.nil (.c 7) (ws.length + 1)),.c 8,.e,.q,.c 6,.c 6,.c 6,.v 1 (fun al=>rLast Rin.nil (.c 6) (.c 0)),.c 0] (fun _=>rfl) (fun _=>by kernel_rfl) (fun al=>⟨(fun hF=>⟨_,rfl⟩),(fun hF=>hl),trivial⟩) ?_;(try clear H);(try clear hp);intro al hp hF H)
 refine' go_rule (rBend Rin.nil 0 1 (.c 2)) rfl rfl hx H fun y hp _ H=>?_
 refine' go_note ?cxr ?cxf ?cxl H ?cxz ?cxn ?cxs ?_
 (case cxr => (
     have rb:=fun γ m0 m1 α β m m' f=>@Cx.bind γ m0 m1 α β m m' f
     have ro:=fun γ m0 m1 α m m' f=>@Cx.onRaise γ m0 m1 α m m' f
     have rc:=fun γ m0 m1 α m m' f=>@Cx.catchs γ m0 m1 α m m' f
     have rk:=fun γ m0 m1 α m m' f=>@Cx.keep γ m0 m1 α m m' f
     have ri:=fun γ m0 m1 α β m m' f r=>@Cx.bindI γ m0 m1 α β m m' f r
     unfold PySem.W.R.bindR at ri
     unfold PySem.W.R.bindR at rb
     unfold PySem.W.R.onRaiseR at ro
     unfold PySem.W.R.catchR at rc
     unfold PySem.W.R.keepR at rk
     iterate 40 (first | with_reducible exact Cx.hole | with_reducible apply ri | with_reducible apply ro | with_reducible apply rb | with_reducible apply rc | with_reducible apply rk | with_reducible apply Cx.bind | with_reducible apply Cx.onRaise | with_reducible apply Cx.catchs | with_reducible apply Cx.keep | skip)))
 (case cxf=>rfl);(case cxl=>rfl);(case cxz=>(repeat (first | exact Cell.head | apply Cell.tail)));(case cxn=>rfl);(case cxs=>(refine' FrsIn.cons ?k1 ?k0 ?k2 (FrsIn.cons hkP hfP ?k3 (FrsIn.cons hkR hfR ?k4 (FrsIn.cons hkL hfL ?k5 trivial)));(case k1=>(intro x;cases x));(case k0=>rfl);(case k2=>(repeat (first | exact Cell.head | apply Cell.tail)));(case k3=>(repeat (first | exact Cell.head | apply Cell.tail)));(case k4=>(repeat (first | exact Cell.head | apply Cell.tail)));(case k5=>(repeat (first | exact Cell.head | apply Cell.tail)))));clear H;(try clear hp);intro hp σ T vs H
 (refine' run_T KX Rin.nil H 4000 ⟨[5,6,7,8,9,10,11,12,13,14,4],15⟩ rfl [.c 1,.c 0,.c 0,.e,.k,.k,.c 1,.e,.c 1,.c 0,.c 0,.c 10,.c 10,.c 9,.c 9,.c 9,.c 9,.v 0 (fun al=>rPop 9 (ws) (.str (sp p) tk)),.c 6,.c 6,.v 1 (fun al=>rDdel 6 (p)),.c 10,.c 8,.c 8,.c 8,.c 8,.v 2 (fun al=>rPop 8 (us) (.ref bm)),.e] fun al=>end_A (c:=(lp3 (wv b w).params c)) (cs:=(fcL (wv b w).params c j _ _ D us ws _ _ [ent (wv b w).params "node" tn v] i3 _ _ _ _++([(sc,lst Ly n)]++tl.map (frC σ)))) (by kernel_rfl) rfl  ⟨(fun hF=>⟨rfl,hl2⟩),(fun hF=>⟨_,hed,hkl,hpk⟩),(fun hF=>⟨rfl,hl.1 ▸ hl.2⟩),trivial⟩ fun hp t hF H=>?_)
 rw [htl] at H
 exact IH _ _ _ _ _ _ _ _ _ _ _ (hF.1 _ hed) H
end
section
variable {b:Bool}{w:World}{g:Array GenState}{d:Drawn}{os:OsState}{c:Fa}{eP eR eL:Env}
variable {R:Result→Shared→Prop}{h:Heap}{t:Nat}{B:Addr→Option Obj}{j:Nat}{rest:Us}{F L:List Pt}{N:List Nd}
inductive L3 (w : World) (B : Addr → Option Obj) (c : Fa) (j : Nat) (D : Data) (tn : Tok) (v : PT) (rest : Us) (N : List Nd) (S : List Se) (h : Heap) : Prop
 | mk (ed : Array DictEntry) (i0 i1 i2 i3 : Nat) (slc slp slr slf : Array (Option Value)) (kvs : List (Pt × Value)) (H : Hp B h (fcL w.params c j ed i0 D (isV S) (skV S) i1 i2 [ent w.params "node" tn (pv v)] i3 slc slp slr slf ++ (ssC S ++ (rest ++ ndsC N)))) (hed : IsD prg w ed kvs) (hkv : kvs.map (·.1) = S.map (·.p))
theorem top_of {S:List Se}{e:Se}(hN:NsOk F N) (k:FcS F N (S++[e]) L):(∃ M1 y M2 Ly,N=M1++y :: M2∧y.sc=e.sc∧y.su=Ly.map pv∧pts Ly=chl F e.p)∧S.length≤39:=by
 obtain ⟨_,⟨y,hy,hyp,hysc⟩,_⟩:=k.st e (List.mem_append_right _ (.head _))
 obtain ⟨M1,M2,hM⟩:=List.append_of_mem hy
 obtain ⟨Ly,h1,h2⟩:=hN.su y hy
 have hn:=nodup_le k.sn
 rw [List.length_map,List.length_append] at hn
 exact ⟨⟨M1,y,M2,Ly,hM,hysc,h1,by rw [← hyp];exact h2⟩,Nat.le_of_succ_le_succ hn⟩
theorem is_snoc (S:List Se) (e:Se):isV (S++[e])=isV S++[.ref e.bm]:=List.map_append
theorem sk_snoc (S:List Se) (e:Se):skV (S++[e])=skV S++[.str (sp e.p) e.tk]:=List.map_append
theorem top_perm (a:Us) (S:List Se) (e:Se) (r:Us) (M1 M2:List Nd) (y:Nd):([(e.bm,bmO idLN e.it),(e.it,itL e.sc e.j),(y.sc,lst y.su y.n)]++(a++((y.ni,ndO y) :: (ssC S++(r++ndsC (M1++M2)))))).Perm (a++(ssC (S++[e])++(r++ndsC (M1++y :: M2)))):=by
 refine List.Perm.trans ?_ (pop_perm a S e r M1 y M2)
 refine List.Perm.append_left (seC e) ?_
 show ((y.sc,lst y.su y.n) :: (a++((y.ni,ndO y) :: _))).Perm ((y.ni,ndO y) :: (y.sc,lst y.su y.n) :: (a++_))
 exact (List.Perm.cons _ List.perm_middle).trans (.swap _ _ _)
theorem nd_fr (σ:Addr→Array (Option Value)) (y:Nd):frC σ (y.ni,ndO y)=(y.ni,ndO y):=rfl
theorem tail_fr {S:List Se}{y:Nd}(hr:∀ σ,rest.map (frC σ)=rest) (σ:Addr→Array (Option Value)):((y.ni,ndO y) :: (ssC S++(rest++ndsC N))).map (frC σ)=(y.ni,ndO y) :: (ssC S++(rest++ndsC N)):=by
 rw [List.map_cons,List.map_append,List.map_append,ss_fr,nds_fr,hr,nd_fr]
theorem l3s {S:List Se}{e:Se}{D:Data}{tn:Tok}{v:PT}(hkP:eP.scope.kind≠.module) (hfP:eP.frame=some c.pf) (hkR:eR.scope.kind≠.module) (hfR:eR.frame=some c.lc) (hkL:eL.scope.kind≠.module) (hfL:eL.frame=some c.lf) (hr:∀ σ,rest.map (frC σ)=rest) (hN:NsOk F N)
   (KX:Kin (KK (wv b w).params) B) (k:FcS F N (S++[e]) L) (hx:(chl F e.p)[e.j]?=none) (I:L3 (wv b w) B c j D tn v rest N (S++[e]) h)
   (IH:∀ h' t',L3 (wv b w) B c j D tn v rest N S h'→codeAny (model prg (wv b w)) (AF 590 (fr3 (wv b w).params c eP eR eL)) (lp3 (wv b w).params c) R ⟨h',g,d,t',os⟩) :
   codeAny (model prg (wv b w)) (AF 590 (fr3 (wv b w).params c eP eR eL)) (lp3 (wv b w).params c) R ⟨h,g,d,t,os⟩:=by
 obtain ⟨ed,i0,i1,i2,i3,slc,slp,slr,slf,kvs,H,hed,hkv⟩:=I
 obtain ⟨⟨M1,y,M2,Ly,rfl,hsc,hsu,hch⟩,hS⟩:=top_of hN k
 have hl:=congrArg List.length hkv
 rw [List.length_map,List.length_map,List.length_append] at hl
 rw [is_snoc,sk_snoc] at H
 have H:=H.perm (top_perm _ _ _ _ _ _ _)
 rw [← hsc] at H
 refine t3p hkP hfP hkR hfR hkL hfL (tail_fr hr) KX H ?_ ⟨?_,?_⟩ hed ?_ (vat_mem (by rw [hkv];simp)) fun h' t' ed i0 i1 i2 i3 slc slp slr slf hed H=>IH h' t' ⟨ed,i0,i1,i2,i3,slc,slp,slr,slf,_,H.perm ?_,hed,?_⟩
 · rw [hsu]
   exact item_no (List.getElem?_eq_none_iff.mpr (by have:=List.getElem?_eq_none_iff.mp hx;rw [← hch,List.length_map] at this;exact this))
 · rw [skV,List.length_map];omega
 · rw [isV,List.length_map];omega
 · rw [hl];show S.length + 1≤_;omega
 · exact (out_permE S rest rfl).symm.append_left _ |>.symm |>.trans (List.Perm.append_left _ ((List.Perm.swap _ _ _)))
 · rw [delK_keys,hkv];exact keys_pop k.sn
end
theorem nxt_perm (a:Us) (S:List Se) (e:Se) (r:Us) (M1 M2:List Nd) (y:Nd){q:Addr}(h:q=e.sc):(a++(ssC (S++[{ e with j:=e.j + 1 }])++(r++ndsC (M1++y :: M2)))).Perm (a++([(e.bm,bmO idLN e.it),(e.it,itL q (e.j + 1)),(y.sc,lst y.su y.n)]++((y.ni,ndO y) :: (ssC S++(r++ndsC (M1++M2)))))):=by
 subst h
 exact List.Perm.append_left _ ((push_perm S { e with j:=e.j + 1 } r M1 y M2).trans (List.Perm.append_left (seC { e with j:=e.j + 1 }) (.swap _ _ _)))
section
variable {b:Bool}{w:World}{g:Array GenState}{d:Drawn}{os:OsState}{c:Fa}{eP eR eL:Env}
variable {R:Result→Shared→Prop}{h:Heap}{t:Nat}{B:Addr→Option Obj}{j:Nat}{rest:Us}{F L:List Pt}{N:List Nd}{D:Data}{tn:Tok}{v:PT}
variable (hkP:eP.scope.kind≠.module) (hfP:eP.frame=some c.pf) (hkR:eR.scope.kind≠.module) (hfR:eR.frame=some c.lc) (hkL:eL.scope.kind≠.module) (hfL:eL.frame=some c.lf) (hr:∀ σ,rest.map (frC σ)=rest) (hN:NsOk F N)
include hkP hfP hkR hfR hkL hfL hr hN
theorem l3p {S1:List Se}(KX:Kin (KK (wv b w).params) B) (IH:∀ h' t',L3 (wv b w) B c j D tn v rest N S1 h'→codeAny (model prg (wv b w)) (AF 590 (fr3 (wv b w).params c eP eR eL)) (lp3 (wv b w).params c) R ⟨h',g,d,t',os⟩) :
   ∀ (n:Nat) (S2:List Se) (h:Heap) (t:Nat),S2.length=n→FcS F N (S1++S2) L→(∀ e∈S2,(chl F e.p)[e.j]?=none)→L3 (wv b w) B c j D tn v rest N (S1++S2) h→codeAny (model prg (wv b w)) (AF 590 (fr3 (wv b w).params c eP eR eL)) (lp3 (wv b w).params c) R ⟨h,g,d,t,os⟩:=by
 intro n
 induction n with
 | zero =>
   intro S2 h t hn _ _ I
   obtain rfl:=List.eq_nil_of_length_eq_zero hn
   rw [List.append_nil] at I
   exact IH h t I
 | succ n ih =>
   intro S2 h t hn k hx I
   rcases List.eq_nil_or_concat S2 with rfl | ⟨S3,e,rfl⟩
   · cases hn
   · rw [List.concat_eq_append] at hn k hx I
     rw [← List.append_assoc] at k I
     rw [List.length_append] at hn
     exact l3s hkP hfP hkR hfR hkL hfL hr hN KX k (hx e (by simp)) I fun h' t' I'=>ih S3 h' t' (Nat.succ.inj hn) k.pop (fun f hf=>hx f (List.mem_append_left _ hf)) I'
theorem l3e {S:List Se}{us ws:List Value}{ed:Array DictEntry}{i0 i1 i2 i3:Nat}{slc slp slr slf:Array (Option Value)}{kvs:List (Pt×Value)}(k:FcS F N S L) (hx:∀ e∈S,(chl F e.p)[e.j]?=none) (hed:IsD prg (wv b w) ed kvs) (hkv:kvs.map (·.1)=S.map (·.p)) (hus:us=isV S) (hws:ws=skV S) :
   Ct prg (wv b w) 590 (fr3 (wv b w).params c eP eR eL) (KK (wv b w).params) g d os (lp3 (wv b w).params c) (fcL (wv b w).params c j ed i0 D us ws i1 i2 [ent (wv b w).params "node" tn (pv v)] i3 slc slp slr slf ++ (ssC S ++ (rest ++ ndsC N)))
     (some fun u=>IsD prg (wv b w) u.T [])
     fun u=>(.ok .brk,fcL (wv b w).params c j u.T u.n D [] [] u.n2 u.n3 [ent (wv b w).params "node" tn (pv v)] u.n4 u.s u.s2 u.s3 u.s4++(rest++ndsC N)):=by
 subst hus hws
 exact ⟨fun B h t R KX hS H x => l3p hkP hfP hkR hfR hkL hfL hr hN (S1 := []) (L := L) KX (fun h' t' I => by
   obtain ⟨ed,i0,i1,i2,i3,slc,slp,slr,slf,kvs,H,hed,hkv⟩:=I
   obtain rfl:=List.map_eq_nil_iff.mp hkv
   exact t3e KX H fun h' t' H=>x { xd0 with T:=ed,n:=i0,n2:=i1,n3:=i2,n4:=i3,s:=slc,s2:=slp,s3:=slr,s4:=slf,t:=t' } h' ⟨hed,trivial⟩ H) _ S h t rfl k hx ⟨ed,i0,i1,i2,i3,slc,slp,slr,slf,kvs,H,hed,hkv⟩⟩
theorem l3n {us ws:List Value}{S1 S2 S3:List Se}{ks:List Pt}{e:Se}{p:Pt}{ed:Array DictEntry}{i0 i1 i2 i3:Nat}{slc slp slr slf:Array (Option Value)}{kvs:List (Pt×Value)}(hS3:S3=S1++[e]++S2) (hks:(S1++[e]).map (·.p)=ks) (k:FcS F N S3 L) (hx:∀ e∈S2,(chl F e.p)[e.j]?=none) (hp:(chl F e.p)[e.j]?=some p) (hed:IsD prg (wv b w) ed kvs) (hkv:kvs.map (·.1)=S3.map (·.p)) (hus:us=isV S3) (hws:ws=skV S3) :
   Ct prg (wv b w) 590 (fr3 (wv b w).params c eP eR eL) (KK (wv b w).params) g d os (lp3 (wv b w).params c) (fcL (wv b w).params c j ed i0 D us ws i1 i2 [ent (wv b w).params "node" tn (pv v)] i3 slc slp slr slf ++ (ssC S3 ++ (rest ++ ndsC N)))
     (some fun u=>∃ kvs,IsD prg (wv b w) u.T kvs∧kvs.map (·.1)=ks)
     fun u=>(.ok .next,fcL (wv b w).params c j u.T u.n D (isV (S1++[e])) (skV (S1++[e])) u.n2 u.n3 [ent (wv b w).params "node" u.n5 (pv (p,u.n6))] u.n4 u.s u.s2 u.s3 u.s4++(ssC (S1++[{ e with j:=e.j + 1 }])++(rest++ndsC N))) :=
 by
 subst hS3 hus hws
 exact ⟨fun B h t R KX hS H x => l3p hkP hfP hkR hfR hkL hfL hr hN (S1 := S1 ++ [e]) (L := L) KX (fun h' t' I => by
   obtain ⟨ed,i0,i1,i2,i3,slc,slp,slr,slf,kvs,H,hed,hkv⟩:=I
   have k1:FcS F N (S1++[e]) L:=⟨k.sub,k.nd,k.cl,fun f hf=>k.st f (List.mem_append_left _ hf),k.sn.sublist (by rw [List.map_append (l₁:=S1++[e])];exact List.sublist_append_left _ _)⟩
   obtain ⟨⟨M1,y,M2,Ly,rfl,hsc,hsu,hch⟩,hl⟩:=top_of hN k1
   obtain ⟨q,hq,rfl⟩:∃ q:PT,Ly[e.j]?=some q∧q.1=p:=by
     rw [← hch,pts,List.getElem?_map] at hp
     exact Option.map_eq_some_iff.mp hp
   rw [is_snoc,sk_snoc] at H
   have H:=H.perm (top_perm _ _ _ _ _ _ _)
   rw [← hsc] at H
   refine t3n (x3:=q) KX H (by rw [hsu];exact item_of hq) (by rw [List.length_append,skV,List.length_map];exact ⟨Nat.succ_pos _,by show S1.length + 1≤_;omega⟩) fun h' t' tn i3 H=>?_
   refine x { xd0 with T:=ed,n:=i0,n2:=i1,n3:=i2,n4:=i3,n5:=tn,n6:=q.2,s:=slc,s2:=slp,s3:=slr,s4:=slf,t:=t' } h' ⟨⟨kvs,hed,hkv.trans hks⟩,trivial⟩ ?_
   dsimp only
   rw [is_snoc,sk_snoc]
   exact H.perm (nxt_perm _ _ _ _ _ _ _ hsc)) _ S2 h t rfl k hx ⟨ed,i0,i1,i2,i3,slc,slp,slr,slf,kvs,H,hed,hkv⟩⟩
end
section
variable {b:Bool}{w:World}{g:Array GenState}{d:Drawn}{os:OsState}{c:Fa}{eP eR eL:Env}
variable {R:Result→Shared→Prop}{h:Heap}{t:Nat}{B:Addr→Option Obj}{j i0 i1 i2 i3 m:Nat}{ed:Array DictEntry}{D:Data}{us ws:List Value}{slc slp slr slf:Array (Option Value)}{tl:Us}{z:Nd}{v:PT}{tn:Tok}{kvs kvn:List (Pt×Value)}{L:List Pt}
structure H2 (w : World) (c : Fa) (ed : Array DictEntry) (D : Data) (us ws : List Value) (m : Nat) (z : Nd) (v : PT) (kvs kvn : List (Pt × Value)) (L : List Pt) : Prop where
 hd:IsD prg w c.od kvn
 hz:vat kvn v.1=some (.ref z.ni)
 hed:IsD prg w ed kvs
 hD:IsS prg w D L
 hv:v.1 ∉ L
 l1:L.length≤1000
 l2:us.length≤1000
 l3:ws.length=m∧m≤1000
 l4:kvs.length≤1000
theorem t2n {us' ws':Addr→Addr→List Value}{tl':Addr→Addr→Us}{ks':List Pt}{p':Pt}(KX:Kin (KK (wv b w).params) B) (hS:(B sysModules).isSome=true) (H:Hp B h (ndC z++(fcL (wv b w).params c j ed i0 D us ws i1 i2 [ent (wv b w).params "node" tn (pv v)] i3 slc slp slr slf++tl))) (k:H2 (wv b w) c ed D us ws m z v kvs kvn L)
   (hct : ∀ {bm it tk ed i0 D i1 i2}, IsD prg (wv b w) ed (setK kvs v.1 (.int (m : Int) tk)) → IsS prg (wv b w) D (L ++ [v.1]) → Ct prg (wv b w) 590 (fr3 (wv b w).params c eP eR eL) (KK (wv b w).params) g d os (lp3 (wv b w).params c) (fcL (wv b w).params c j ed i0 D (us ++ [.ref bm]) (ws ++ [pv v]) i1 i2 [ent (wv b w).params "node" tn (pv v)] i3 slc slp slr slf ++ ([(bm, bmO idLN it), (it, itL z.sc 0)] ++ (ndC z ++ tl)))
     (some fun u=>∃ kvs,IsD prg (wv b w) u.T kvs∧kvs.map (·.1)=ks')
     fun u=>(.ok .next,fcL (wv b w).params c j u.T u.n D (us' bm it) (ws' bm it) u.n2 u.n3 [ent (wv b w).params "node" u.n5 (pv (p',u.n6))] u.n4 u.s u.s2 u.s3 u.s4++tl' bm it))
   (IH:∀ h' t' bm it ed i0 D i1 i2 tn tk i3 slc slp slr slf,(∃ kvs,IsD prg (wv b w) ed kvs∧kvs.map (·.1)=ks')→IsS prg (wv b w) D (L++[v.1])→Hp B h' (fcL (wv b w).params c j ed i0 D (us' bm it) (ws' bm it) i1 i2 [ent (wv b w).params "node" tn (pv (p',tk))] i3 slc slp slr slf++tl' bm it)→codeAny (model prg (wv b w)) (AF 580 (fr3 (wv b w).params c eP eR eL)) (lp2 (wv b w).params c) R ⟨h',g,d,t',os⟩) :
   codeAny (model prg (wv b w)) (AF 580 (fr3 (wv b w).params c eP eR eL)) (lp2 (wv b w).params c) R ⟨h,g,d,t,os⟩:=by
 refine' go_code ?_
 (refine' run_T2 KX Rin.nil H 4000 ⟨[0,1,2,3,4,5,6,7,8,9],10⟩ rfl [.c 7,.c 7,.c 4,.c 4,.v 0 (fun al=>rShas 4 (v.1) (false)),.c 7,.c 4,.c 4,.c 4,.c 4,.c 7,.v 1 (fun al=>rSadd 4 (v.1)),.c 7,.c 5,.c 5,.c 5,.c 5,.k,.k,.c 7,.c 7,.c 8,.c 8,.c 8,.v 2 (fun al=>rDitem 8 (v.1) (.c 0)),.c 0,.k,.k,.k,.e,.c 0,.k,.k,.k,.k,.k,.k,.k,.k,.e,.k,.q,.k,.k,.c 0,.k,.k,.k,.q,.k,.k,.c 0,.k,.c 0,.e,.e,.q,.c 1,.c 1,.e,.c 1,.q,.b 3,.c 0,.c 0,.e,.c 0,.q,.c 0,.c 0,.c 0,.e,.q,.c 0,.b 4,.e,.v 5 (fun al=>rAppend 7),.k,.k,.c 9,.v 6 (fun al=>rLenL Rin.nil (.c 8) (m)),.c 9,.c 9,.c 5,.c 5,.v 7 (fun al=>rDset 5 (v.1)),.c 9,.c 8,.c 8,.c 8,.c 8,.c 9,.v 8 (fun al=>rAppend 8),.v 9 (fun al=>rC KX hS [4,4,4,4,4,4,4,4,4,4,0,0,0,0] 0 true (IsD prg (wv b w) (al 7).T (setK kvs v.1 (.int (m:Int) (al 6).n))∧IsS prg (wv b w) (al 1).D (L++[v.1])) (fun hp=>hct (bm:=(al 4).n) (it:=(al 3).n) (ed:=(al 7).T) (i0:=(al 7).n2) (D:=(al 1).D) (i1:=(al 5).n) (i2:=(al 8).n) hp.1 hp.2))] fun al=>end_A2 (c:=(lp2 (wv b w).params c)) (cs:=(fcL (wv b w).params c j _ _ _ (us' _ _) (ws' _ _) _ _ [ent (wv b w).params "node" _ (pv (p',_))] _ _ _ _ _++tl' _ _)) (by kernel_rfl) (by kernel_rfl) rfl (by kernel_rfl) ⟨(fun hF=>⟨hF.1 _ k.hed,hF.2.1 _ k.hD⟩),(fun hF=>k.l3.1 ▸ k.l3.2),(fun hF=>⟨_,k.hed,k.l4⟩),(fun hF=>k.l3),(fun hF=>k.l2),(fun hF=>⟨_,k.hd,k.hz⟩),(fun hF=>⟨_,k.hD,k.hv,k.l1⟩),(fun hF=>⟨_,k.hD,decide_eq_false k.hv⟩),trivial⟩ fun hp t hF H=>?_)
 exact IH _ _ _ _ _ _ _ _ _ _ _ _ _ _ _ _ hF.1 (hF.2.2.1 _ k.hD) H
theorem t2b {tl':Us}(KX:Kin (KK (wv b w).params) B) (hS:(B sysModules).isSome=true) (H:Hp B h (ndC z++(fcL (wv b w).params c j ed i0 D us ws i1 i2 [ent (wv b w).params "node" tn (pv v)] i3 slc slp slr slf++tl))) (k:H2 (wv b w) c ed D us ws m z v kvs kvn L)
   (hct : ∀ {bm it tk ed i0 D i1 i2}, IsD prg (wv b w) ed (setK kvs v.1 (.int (m : Int) tk)) → IsS prg (wv b w) D (L ++ [v.1]) → Ct prg (wv b w) 590 (fr3 (wv b w).params c eP eR eL) (KK (wv b w).params) g d os (lp3 (wv b w).params c) (fcL (wv b w).params c j ed i0 D (us ++ [.ref bm]) (ws ++ [pv v]) i1 i2 [ent (wv b w).params "node" tn (pv v)] i3 slc slp slr slf ++ ([(bm, bmO idLN it), (it, itL z.sc 0)] ++ (ndC z ++ tl)))
     (some fun u=>IsD prg (wv b w) u.T [])
     fun u=>(.ok .brk,fcL (wv b w).params c j u.T u.n D [] [] u.n2 u.n3 [ent (wv b w).params "node" tn (pv v)] u.n4 u.s u.s2 u.s3 u.s4++tl'))
   (x:∀ h' t' ed i0 D i1 i2 i3 slc slp slr slf,IsD prg (wv b w) ed []→IsS prg (wv b w) D (L++[v.1])→Hp B h' (fcL (wv b w).params c j ed i0 D [] [] i1 i2 [ent (wv b w).params "node" tn (pv v)] i3 slc slp slr slf++tl')→R (.ok .next) ⟨h',g,d,t',os⟩) :
   codeAny (model prg (wv b w)) (AF 580 (fr3 (wv b w).params c eP eR eL)) (lp2 (wv b w).params c) R ⟨h,g,d,t,os⟩:=by
 refine' go_code ?_
 (refine' run_T2 KX Rin.nil H 4000 ⟨[0,1,2,3,4,5,6,7,8,9],10⟩ rfl [.c 7,.c 7,.c 4,.c 4,.v 0 (fun al=>rShas 4 (v.1) (false)),.c 7,.c 4,.c 4,.c 4,.c 4,.c 7,.v 1 (fun al=>rSadd 4 (v.1)),.c 7,.c 5,.c 5,.c 5,.c 5,.k,.k,.c 7,.c 7,.c 8,.c 8,.c 8,.v 2 (fun al=>rDitem 8 (v.1) (.c 0)),.c 0,.k,.k,.k,.e,.c 0,.k,.k,.k,.k,.k,.k,.k,.k,.e,.k,.q,.k,.k,.c 0,.k,.k,.k,.q,.k,.k,.c 0,.k,.c 0,.e,.e,.q,.c 1,.c 1,.e,.c 1,.q,.b 3,.c 0,.c 0,.e,.c 0,.q,.c 0,.c 0,.c 0,.e,.q,.c 0,.b 4,.e,.v 5 (fun al=>rAppend 7),.k,.k,.c 9,.v 6 (fun al=>rLenL Rin.nil (.c 8) (m)),.c 9,.c 9,.c 5,.c 5,.v 7 (fun al=>rDset 5 (v.1)),.c 9,.c 8,.c 8,.c 8,.c 8,.c 9,.v 8 (fun al=>rAppend 8),.v 9 (fun al=>rC KX hS [4,4,4,4,4,4,4,4,4,4,0,0,0,0] 0 true (IsD prg (wv b w) (al 7).T (setK kvs v.1 (.int (m:Int) (al 6).n))∧IsS prg (wv b w) (al 1).D (L++[v.1])) (fun hp=>hct (bm:=(al 4).n) (it:=(al 3).n) (ed:=(al 7).T) (i0:=(al 7).n2) (D:=(al 1).D) (i1:=(al 5).n) (i2:=(al 8).n) hp.1 hp.2))] fun al=>end_R2 (r:=(.ok .next)) (cs:=(fcL (wv b w).params c j _ _ _ [] [] _ _ [ent (wv b w).params "node" tn (pv v)] _ _ _ _ _++tl')) (by kernel_rfl) (by kernel_rfl) rfl (by kernel_rfl) ⟨(fun hF=>⟨hF.1 _ k.hed,hF.2.1 _ k.hD⟩),(fun hF=>k.l3.1 ▸ k.l3.2),(fun hF=>⟨_,k.hed,k.l4⟩),(fun hF=>k.l3),(fun hF=>k.l2),(fun hF=>⟨_,k.hd,k.hz⟩),(fun hF=>⟨_,k.hD,k.hv,k.l1⟩),(fun hF=>⟨_,k.hD,decide_eq_false k.hv⟩),trivial⟩ fun hp t hF H=>?_)
 exact x _ _ _ _ _ _ _ _ _ _ _ _ hF.1 (hF.2.2.1 _ k.hD) H
end
section
variable {b:Bool}{w:World}{g:Array GenState}{d:Drawn}{os:OsState}{c:Fa}{eP eR eL:Env}
variable {j:Nat}{rest:Us}{F:List Pt}{N:List Nd}
theorem cls_st (F:List Pt):∀ S:List Se,(∀ e∈S,(chl F e.p)[e.j]?=none)∨∃ S1 e S2 p,S=S1++[e]++S2∧(∀ e∈S2,(chl F e.p)[e.j]?=none)∧(chl F e.p)[e.j]?=some p
 | [] => .inl fun _ h => absurd h List.not_mem_nil
 | a :: S => by
   rcases cls_st F S with h | ⟨S1,e,S2,p,rfl,h1,h2⟩
   · rcases ha : (chl F a.p)[a.j]? with _ | p
     · exact .inl fun e he=>by rcases List.mem_cons.mp he with rfl | he;exact ha;exact h e he
     · exact .inr ⟨[],a,S,p,rfl,h,ha⟩
   · exact .inr ⟨a :: S1,e,S2,p,rfl,h1,h2⟩
noncomputable def e0 (v:PT) (z:Nd) (bm it:Addr):Se:=⟨v.1,v.2,bm,it,z.sc,0⟩
theorem FcS.nil {F:List Pt}{N:List Nd}{S:List Se}{L:List Pt}(k:FcS F N S L):FcS F N [] L:=⟨k.sub,k.nd,k.cl,fun _ h=>absurd h List.not_mem_nil,List.nodup_nil⟩
theorem FcS.pre {F:List Pt}{N:List Nd}{S1 S2:List Se}{L:List Pt}(k:FcS F N (S1++S2) L):FcS F N S1 L:=⟨k.sub,k.nd,k.cl,fun f hf=>k.st f (List.mem_append_left _ hf),k.sn.sublist (by rw [List.map_append];exact List.sublist_append_left _ _)⟩
inductive L2 (w : World) (B : Addr → Option Obj) (c : Fa) (j : Nat) (rest : Us) (F : List Pt) (N : List Nd) (L0 : List Pt) (p0 : Pt) (S : List Se) (L : List Pt) (v : PT) (h : Heap) : Prop
 | mk (ed : Array DictEntry) (i0 : Nat) (D : Data) (i1 i2 tn i3 : Nat) (slc slp slr slf : Array (Option Value)) (kvs : List (Pt × Value)) (H : Hp B h (fcL w.params c j ed i0 D (isV S) (skV S) i1 i2 [ent w.params "node" tn (pv v)] i3 slc slp slr slf ++ (ssC S ++ (rest ++ ndsC N))))
   (hed:IsD prg w ed kvs) (hkv:kvs.map (·.1)=S.map (·.p)) (hD:IsS prg w D L) (k:FcP F N S L v.1) (mo:∀ q,q∈L0∨q=p0→q∈L∨q=v.1)
variable (hkP:eP.scope.kind≠.module) (hfP:eP.frame=some c.pf) (hkR:eR.scope.kind≠.module) (hfR:eR.frame=some c.lc) (hkL:eL.scope.kind≠.module) (hfL:eL.frame=some c.lf) (hr:∀ σ,rest.map (frC σ)=rest) (hF:F.Nodup) (hF2:F.length≤40) (hN:NsOk F N) (hd:IsD prg (wv b w) c.od (kvN N))
include hkP hfP hkR hfR hkL hfL hr hF hF2 hN hd
theorem l2_turn {R:Result→Shared→Prop}{h:Heap}{t:Nat}{B:Addr→Option Obj}{L0 L:List Pt}{p0:Pt}{S:List Se}{v:PT}(KX:Kin (KK (wv b w).params) B) (hS:(B sysModules).isSome=true) (I:L2 (wv b w) B c j rest F N L0 p0 S L v h)
   (IH:∀ S' v' h' t',L2 (wv b w) B c j rest F N L0 p0 S' (L++[v.1]) v' h'→codeAny (model prg (wv b w)) (AF 580 (fr3 (wv b w).params c eP eR eL)) (lp2 (wv b w).params c) R ⟨h',g,d,t',os⟩)
   (x:∀ h' t' tn ed i0 D i1 i2 i3 slc slp slr slf,IsD prg (wv b w) ed []→IsS prg (wv b w) D (L++[v.1])→FcS F N [] (L++[v.1])→(∀ q,q∈L0∨q=p0→q∈L++[v.1])→Hp B h' (fcL (wv b w).params c j ed i0 D [] [] i1 i2 [ent (wv b w).params "node" tn (pv v)] i3 slc slp slr slf++(rest++ndsC N))→R (.ok .next) ⟨h',g,d,t',os⟩) :
   codeAny (model prg (wv b w)) (AF 580 (fr3 (wv b w).params c eP eR eL)) (lp2 (wv b w).params c) R ⟨h,g,d,t,os⟩:=by
 obtain ⟨ed,i0,D,i1,i2,tn,i3,slc,slp,slr,slf,kvs,H,hed,hkv,hD,k,mo⟩:=I
 obtain ⟨N1,z,N2,rfl,hz,hz1⟩:=nd_split (by rw [hN.ps];exact hF) (hN.ps ▸ k.pF)
 have H:=H.perm (out_perm2 _ _ _ _ _ _)
 have hS40:=nodup_le k.sn
 have hL40:=nodup_le k.nd
 have hkl:=congrArg List.length hkv
 rw [List.length_map] at hS40 hkl
 rw [List.length_map] at hkl
 have h2:H2 (wv b w) c ed D (isV S) (skV S) S.length z v kvs (kvN (N1++z :: N2)) L:=⟨hd,by rw [← hz];exact vat_some (hz ▸ hz1),hed,hD,k.pL,by omega,by rw [isV,List.length_map];omega,⟨List.length_map _,by omega⟩,by omega⟩
 have hkk : v.1 ∉ kvs.map (·.1) := fun hm => by
   rw [hkv] at hm
   obtain ⟨f,hf,e⟩:=List.mem_map.mp hm
   exact k.pL (e ▸ (k.st f hf).1)
 have hks:∀ (bm it:Addr) (y:Value),(setK kvs v.1 y).map (·.1)=(S++[e0 v z bm it]).map (·.p):=fun bm it y=>by rw [setK_keys hkk,hkv,List.map_append];rfl
 have kp:∀ bm it,FcS F (N1++z :: N2) (S++[e0 v z bm it]) (L++[v.1]):=fun bm it=>k.push rfl rfl ⟨z,by simp,hz,rfl⟩
 have mo2:∀ q,q∈L0∨q=p0→q∈L++[v.1]:=fun q hq=>by rw [List.mem_append,List.mem_singleton];exact mo q hq
 rcases h0:(chl F v.1)[0]? with _ | p
 · have ex : ∀ (bm it : Addr) (S2 : List Se), (∀ e ∈ S2, (chl F e.p)[e.j]? = none) → ∀ e ∈ S2 ++ [e0 v z bm it], (chl F e.p)[e.j]? = none := fun bm it S2 h e he => by
     rcases List.mem_append.mp he with he | he
     · exact h e he
     · rw [List.mem_singleton.mp he];exact h0
   rcases cls_st F S with h1 | ⟨S1,e,S2,p,rfl,h1,h3⟩
   · refine t2b KX hS H h2 (fun {bm it _ _ _ _ _ _} hed hD => ?_) fun h' t' ed i0 D i1 i2 i3 slc slp slr slf hed hD H => x h' t' tn ed i0 D i1 i2 i3 slc slp slr slf hed hD (kp 0 0).nil mo2 H
     exact (l3e hkP hfP hkR hfR hkL hfL hr hN (kp bm it) (ex bm it S h1) hed (hks bm it _) (is_snoc _ _).symm (sk_snoc _ _).symm).perm (List.Perm.append_left _ (push_perm _ _ _ _ _ _))
   · refine t2n (us' := fun _ _ => isV (S1 ++ [e])) (ws' := fun _ _ => skV (S1 ++ [e])) (tl' := fun _ _ => ssC (S1 ++ [{ e with j := e.j + 1 }]) ++ (rest ++ ndsC (N1 ++ z :: N2))) (p' := p) (ks' := (S1 ++ [e]).map (·.p)) KX hS H h2 (fun {bm it _ _ _ _ _ _} hed hD => ?_) fun h' t' bm it ed i0 D i1 i2 tn tk i3 slc slp slr slf hk hD H => ?_
     · exact (l3n hkP hfP hkR hfR hkL hfL hr hN (List.append_assoc _ _ _) rfl (kp bm it) (ex bm it S2 h1) h3 hed (hks bm it _) (is_snoc _ _).symm (sk_snoc _ _).symm).perm (List.Perm.append_left _ (push_perm _ _ _ _ _ _))
     · obtain ⟨kvs, h4, h5⟩ := hk
       refine IH (S1++[{ e with j:=e.j + 1 }]) (p,tk) h' t' ⟨ed,i0,D,i1,i2,tn,i3,slc,slp,slr,slf,kvs,?_,h4,?_,hD,FcS.next hF (List.append_assoc _ _ _ ▸ kp bm it:FcS _ _ (S1++[e]++(S2++[e0 v z bm it])) _).pre h3 rfl rfl rfl,fun q hq=>.inl (mo2 q hq)⟩
       · rw [is_snoc,sk_snoc] at H ⊢;exact H
       · rw [h5,List.map_append,List.map_append];rfl
 · refine t2n (us' := fun bm it => isV (S ++ [e0 v z bm it])) (ws' := fun bm it => skV (S ++ [e0 v z bm it])) (tl' := fun bm it => ssC (S ++ [{ e0 v z bm it with j := 1 }]) ++ (rest ++ ndsC (N1 ++ z :: N2))) (p' := p) (ks' := S.map (·.p) ++ [v.1]) KX hS H h2 (fun {bm it _ _ _ _ _ _} hed hD => ?_) fun h' t' bm it ed i0 D i1 i2 tn tk i3 slc slp slr slf hk hD H => ?_
   · exact (l3n (S1:=S) (S2:=[]) (e:=e0 v z bm it) hkP hfP hkR hfR hkL hfL hr hN (List.append_nil _).symm List.map_append (kp bm it) (fun _ h=>absurd h List.not_mem_nil) h0 hed (hks bm it _) (is_snoc _ _).symm (sk_snoc _ _).symm).perm (List.Perm.append_left _ (push_perm _ _ _ _ _ _))
   · obtain ⟨kvs, h4, h5⟩ := hk
     refine IH (S++[{ e0 v z bm it with j:=1 }]) (p,tk) h' t' ⟨ed,i0,D,i1,i2,tn,i3,slc,slp,slr,slf,kvs,?_,h4,?_,hD,FcS.next hF (kp bm it) h0 rfl rfl rfl,fun q hq=>.inl (mo2 q hq)⟩
     · rw [is_snoc,sk_snoc] at H ⊢;exact H
     · rw [h5,List.map_append];rfl
end
section
variable {b:Bool}{w:World}{g:Array GenState}{d:Drawn}{os:OsState}{c:Fa}{eP eR eL:Env}
section
variable {R:Result→Shared→Prop}{h:Heap}{t:Nat}{B:Addr→Option Obj}{j i0 i1 i2 i3:Nat}{ed:Array DictEntry}{D:Data}{slc slp slr slf:Array (Option Value)}{tl:Us}{p:Pt}{y:Value}{kvn:List (Pt×Value)}{L:List Pt}{ex:List DictEntry}
theorem t1s {tn:Tok}{v:Value}(KX:Kin (KK (wv b w).params) B) (H:Hp B h (fcL (wv b w).params c j ed i0 D [] [] i1 i2 [ent (wv b w).params "node" tn v] i3 slc slp slr slf++tl)) (hd:IsD prg (wv b w) c.od kvn) (hx:kvn[j]?=some (p,y)) (hD:IsS prg (wv b w) D L) (hp:p∈L)
   (IH:∀ h' t' tn tk i3,Hp B h' (fcL (wv b w).params c (j + 1) ed i0 D [] [] i1 i2 [ent (wv b w).params "node" tn (pv (p,tk))] i3 slc slp slr slf++tl)→codeAny (model prg (wv b w)) (AF 570 (fr3 (wv b w).params c eP eR eL)) (lp1 (wv b w).params c) R ⟨h',g,d,t',os⟩) :
   codeAny (model prg (wv b w)) (AF 570 (fr3 (wv b w).params c eP eR eL)) (lp1 (wv b w).params c) R ⟨h,g,d,t,os⟩:=by
 refine' go_code ?_
 (refine' run_T KX Rin.nil H 4000 ⟨[0,1,2,3,4,5,6,7,8,9],10⟩ rfl [.c 0,.v 0 (fun al=>rKnext 0 6 (p)),.c 5,.g 5,.c 5,.c 5,.c 2,.c 2,.v 1 (fun al=>rShas 2 (p) (true))] fun al=>end_A (c:=(lp1 (wv b w).params c)) (cs:=(fcL (wv b w).params c (j + 1) ed i0 D [] [] i1 i2 [ent (wv b w).params "node" _ (pv (p,_))] _ slc slp slr slf++tl)) (by kernel_rfl) rfl  ⟨(fun hF=>⟨_,hD,decide_eq_true hp⟩),(fun hF=>⟨⟨rfl,rfl⟩,_,_,hd,hx⟩),trivial⟩ fun hp t hF H=>?_)
 exact IH _ _ _ _ _ H
theorem t1n (KX:Kin (KK (wv b w).params) B) (hS:(B sysModules).isSome=true) (H:Hp B h (fcL (wv b w).params c j ed i0 D [] [] i1 i2 ex i3 slc slp slr slf++tl)) (hex:ex=[]∨∃ tk v,ex=[ent (wv b w).params "node" tk v]) (hd:IsD prg (wv b w) c.od kvn) (hx:kvn[j]?=some (p,y)) (hD:IsS prg (wv b w) D L) (hp:p ∉ L){Q:Data→Prop}
   (hct : ∀ {tn tk i3}, Ct prg (wv b w) 580 (fr3 (wv b w).params c eP eR eL) (KK (wv b w).params) g d os (lp2 (wv b w).params c) (fcL (wv b w).params c (j + 1) ed i0 D [] [] i1 i2 [ent (wv b w).params "node" tn (pv (p, tk))] i3 slc slp slr slf ++ tl)
     (some fun u=>IsD prg (wv b w) u.T []∧Q u.D)
     fun u=>(.ok .next,fcL (wv b w).params c (j + 1) u.T u.n u.D [] [] u.n2 u.n3 [ent (wv b w).params "node" u.n5 u.v] u.n4 u.s u.s2 u.s3 u.s4++tl))
   (IH:∀ h' t' ed i0 D i1 i2 tn v i3 slc slp slr slf,IsD prg (wv b w) ed []→Q D→Hp B h' (fcL (wv b w).params c (j + 1) ed i0 D [] [] i1 i2 [ent (wv b w).params "node" tn v] i3 slc slp slr slf++tl)→codeAny (model prg (wv b w)) (AF 570 (fr3 (wv b w).params c eP eR eL)) (lp1 (wv b w).params c) R ⟨h',g,d,t',os⟩) :
   codeAny (model prg (wv b w)) (AF 570 (fr3 (wv b w).params c eP eR eL)) (lp1 (wv b w).params c) R ⟨h,g,d,t,os⟩:=by
 rcases hex with rfl | ⟨tk0,v0,rfl⟩
 · refine' go_code ?_
   (refine' run_T KX Rin.nil H 4000 ⟨[0,1,2,3,4,5,6,7,8,9],10⟩ rfl [.c 0,.v 0 (fun al=>rKnext 0 6 (p)),.c 5,.g 5,.c 5,.c 5,.c 2,.c 2,.v 1 (fun al=>rShas 2 (p) (false)),.v 2 (fun al=>rC KX hS [0,0,0,0,0,0,0,0,0,0] 0 true (True) (fun _=>hct (tn:=(al 0).n) (tk:=(al 0).2) (i3:=i3 + 1)))] fun al=>end_A (c:=(lp1 (wv b w).params c)) (cs:=(fcL (wv b w).params c (j + 1) _ _ _ [] [] _ _ [ent (wv b w).params "node" _ _] _ _ _ _ _++tl)) (by kernel_rfl) rfl  ⟨(fun hF=>trivial),(fun hF=>⟨_,hD,decide_eq_false hp⟩),(fun hF=>⟨⟨rfl,rfl⟩,_,_,hd,hx⟩),trivial⟩ fun hp t hF H=>?_)
   exact IH _ _ _ _ _ _ _ _ _ _ _ _ _ _ hF.1.1 hF.1.2 H
 · refine' go_code ?_
   (refine' run_T KX Rin.nil H 4000 ⟨[0,1,2,3,4,5,6,7,8,9],10⟩ rfl [.c 0,.v 0 (fun al=>rKnext 0 6 (p)),.c 5,.g 5,.c 5,.c 5,.c 2,.c 2,.v 1 (fun al=>rShas 2 (p) (false)),.v 2 (fun al=>rC KX hS [0,0,0,0,0,0,0,0,0,0] 0 true (True) (fun _=>hct (tn:=tk0) (tk:=(al 0).2) (i3:=i3)))] fun al=>end_A (c:=(lp1 (wv b w).params c)) (cs:=(fcL (wv b w).params c (j + 1) _ _ _ [] [] _ _ [ent (wv b w).params "node" _ _] _ _ _ _ _++tl)) (by kernel_rfl) rfl  ⟨(fun hF=>trivial),(fun hF=>⟨_,hD,decide_eq_false hp⟩),(fun hF=>⟨⟨rfl,rfl⟩,_,_,hd,hx⟩),trivial⟩ fun hp t hF H=>?_)
   exact IH _ _ _ _ _ _ _ _ _ _ _ _ _ _ hF.1.1 hF.1.2 H
theorem t1e (KX:Kin (KK (wv b w).params) B) (H:Hp B h (fcL (wv b w).params c j ed i0 D [] [] i1 i2 ex i3 slc slp slr slf++tl)) (hd:IsD prg (wv b w) c.od kvn) (hx:kvn[j]?=none)
   (x:∀ h' t',Hp B h' ([(c.n2,dO c.od c.n4),(c.pf,locS c.esp c.np slp),(c.lc,locS c.esr c.nr slr),(c.lf,locS c.esf c.nf slf)]++tl)→R (.ok .next) ⟨h',g,d,t',os⟩) :
   codeAny (model prg (wv b w)) (AF 570 (fr3 (wv b w).params c eP eR eL)) (lp1 (wv b w).params c) R ⟨h,g,d,t,os⟩:=by
 refine' go_code ?_
 (refine' run_T KX Rin.nil H 4000 ⟨[7,8,9,10],11⟩ rfl [.c 0,.v 0 (fun al=>rKend 0 6),.c 0] fun al=>end_R (r:=(.ok .next)) (cs:=([(c.n2,dO c.od c.n4),(c.pf,locS c.esp c.np slp),(c.lc,locS c.esr c.nr slr),(c.lf,locS c.esf c.nf slf)]++tl)) (by kernel_rfl) rfl  ⟨(fun hF=>⟨⟨rfl,rfl⟩,_,hd,hx⟩),trivial⟩ fun hp t hF H=>?_)
 exact x _ _ H
end
end
section
variable {b:Bool}{w:World}{g:Array GenState}{d:Drawn}{os:OsState}{c:Fa}{eP eR eL:Env}
variable {j:Nat}{rest:Us}{F:List Pt}{N:List Nd}
variable (hkP:eP.scope.kind≠.module) (hfP:eP.frame=some c.pf) (hkR:eR.scope.kind≠.module) (hfR:eR.frame=some c.lc) (hkL:eL.scope.kind≠.module) (hfL:eL.frame=some c.lf) (hr:∀ σ,rest.map (frC σ)=rest) (hFF:FolOk F) (hN:NsOk F N) (hd:IsD prg (wv b w) c.od (kvN N))
include hkP hfP hkR hfR hkL hfL hr hFF hN hd
theorem l2 {L:List Pt}{v:PT}{ed:Array DictEntry}{D:Data}{i0 i1 i2 tn i3:Nat}{slc slp slr slf:Array (Option Value)}(hed:IsD prg (wv b w) ed []) (hD:IsS prg (wv b w) D L) (k:FcP F N [] L v.1) :
   Ct prg (wv b w) 580 (fr3 (wv b w).params c eP eR eL) (KK (wv b w).params) g d os (lp2 (wv b w).params c) (fcL (wv b w).params c j ed i0 D [] [] i1 i2 [ent (wv b w).params "node" tn (pv v)] i3 slc slp slr slf ++ (rest ++ ndsC N))
     (some fun u=>IsD prg (wv b w) u.T []∧∃ L',IsS prg (wv b w) u.D L'∧FcS F N [] L'∧∀ q,q∈L∨q=v.1→q∈L')
     fun u=>(.ok .next,fcL (wv b w).params c j u.T u.n u.D [] [] u.n2 u.n3 [ent (wv b w).params "node" u.n5 u.v] u.n4 u.s u.s2 u.s3 u.s4++(rest++ndsC N)):=by
 have hF2:=nodup_le hFF.nd
 refine ⟨fun B h t R KX hS H x=>loopI (σ:=List Se×List Pt×PT) (fun s=>41 - s.2.1.length) (fun s h=>L2 (wv b w) B c j rest F N L v.1 s.1 s.2.1 s.2.2 h) (fun s h t I IH=>?_) (x:=([],L,v)) ⟨ed,i0,D,i1,i2,tn,i3,slc,slp,slr,slf,[],H,hed,rfl,hD,k,fun _ h=>h⟩⟩
 have hl:s.2.1.length≤40:=by obtain ⟨_,_,_,_,_,_,_,_,_,_,_,_,_,_,_,_,k,_⟩:=I;exact nodup_le k.nd
 exact l2_turn hkP hfP hkR hfR hkL hfL hr hFF.nd hF2 hN hd KX hS I (fun S' v' h' t' I'=>IH (S',s.2.1++[s.2.2.1],v') h' t' (by dsimp only;rw [List.length_append];show 41 - (s.2.1.length + 1) < _;omega) I') fun h' t' tn ed i0 D i1 i2 i3 slc slp slr slf hed hD k mo H=>x { xd0 with T:=ed,n:=i0,D:=D,n2:=i1,n3:=i2,n4:=i3,n5:=tn,v:=pv s.2.2,s:=slc,s2:=slp,s3:=slr,s4:=slf,t:=t' } h' ⟨⟨hed,_,hD,k,mo⟩,trivial⟩ H
theorem l1c {ed:Array DictEntry}{D:Data}{i0 i1 i2 i3:Nat}{slc slp slr slf:Array (Option Value)}(hed:IsD prg (wv b w) ed []) (hD:IsS prg (wv b w) D []) :
   Ct prg (wv b w) 570 (fr3 (wv b w).params c eP eR eL) (KK (wv b w).params) g d os (lp1 (wv b w).params c) (fcL (wv b w).params c 0 ed i0 D [] [] i1 i2 [] i3 slc slp slr slf ++ (rest ++ ndsC N)) none
     fun u=>(.ok .next,[(c.n2,dO c.od c.n4),(c.pf,locS c.esp c.np u.s2),(c.lc,locS c.esr c.nr u.s3),(c.lf,locS c.esf c.nf u.s4)]++(rest++ndsC N)):=by
 refine ⟨fun B h t R KX hS H x => loopI (σ := Nat) (fun j => F.length - j) (fun j h => ∃ ed i0 D i1 i2 ex i3 slc slp slr slf L, Hp B h (fcL (wv b w).params c j ed i0 D [] [] i1 i2 ex i3 slc slp slr slf ++ (rest ++ ndsC N)) ∧ IsD prg (wv b w) ed [] ∧ IsS prg (wv b w) D L ∧ FcS F N [] L ∧ (∀ m p, m < j → F[m]? = some p → p ∈ L) ∧ ((ex = [] ∧ L = []) ∨ ∃ tk v, ex = [ent (wv b w).params "node" tk v]))
   (fun j h t I IH=>?_) (x:=0) ⟨ed,i0,D,i1,i2,[],i3,slc,slp,slr,slf,[],H,hed,hD,⟨fun _ h=>absurd h List.not_mem_nil,List.nodup_nil,fun _ h=>absurd h List.not_mem_nil,fun _ h=>absurd h List.not_mem_nil,List.nodup_nil⟩,fun _ _ h=>absurd h (Nat.not_lt_zero _),.inl ⟨rfl,rfl⟩⟩⟩
 obtain ⟨ed,i0,D,i1,i2,ex,i3,slc,slp,slr,slf,L,H,hed,hD,k,hout,hex⟩:=I
 rcases hj:(kvN N)[j]? with _ | ⟨p,y⟩
 · exact t1e KX H hd hj fun h' t' H=>x { xd0 with s2:=slp,s3:=slr,s4:=slf,t:=t' } h' trivial H
 · have hp : F[j]? = some p := by rw [← hN.ps, ← kv_keys, List.getElem?_map, hj]; rfl
   have hjF:j < F.length:=(List.getElem?_eq_some_iff.mp hp).1
   have hout2 : ∀ L' : List Pt, (∀ q, q ∈ L ∨ q = p → q ∈ L') → ∀ m q, m < j + 1 → F[m]? = some q → q ∈ L' := fun L' hL m q hm hq => by
     by_cases h:m=j
     · rw [h, hp] at hq
       exact hL q (.inr (Option.some.inj hq).symm)
     · exact hL q (.inl (hout m q (by omega) hq))
   by_cases hm:p∈L
   · obtain ⟨tk, v, rfl⟩ := hex.resolve_left fun z => by rw [z.2] at hm; exact absurd hm List.not_mem_nil
     exact t1s KX H hd hj hD hm fun h' t' tn tk i3 H=>IH (j + 1) h' t' (by omega) ⟨ed,i0,D,i1,i2,_,i3,slc,slp,slr,slf,L,H,hed,hD,k,hout2 L fun q hq=>hq.elim id fun e=>e ▸ hm,.inr ⟨_,_,rfl⟩⟩
   · refine t1n (Q := fun D => ∃ L', IsS prg (wv b w) D L' ∧ FcS F N [] L' ∧ ∀ q, q ∈ L ∨ q = p → q ∈ L') KX hS H (hex.imp (·.1) id) hd hj hD hm (l2 hkP hfP hkR hfR hkL hfL hr hFF hN hd hed hD ⟨k.sub, k.nd, k.cl, fun _ h => absurd h List.not_mem_nil, List.nodup_nil, List.mem_of_getElem? hp, hm, fun hr => ?_⟩) fun h' t' ed i0 D i1 i2 tn v i3 slc slp slr slf hed hQ H => ?_
     · obtain ⟨m, hm1, hm2⟩ := List.mem_iff_getElem.mp (hFF.pa j p hp hr)
       rw [List.length_take] at hm1
       rw [List.getElem_take] at hm2
       exact hout m _ (by omega) (List.getElem?_eq_some_iff.mpr ⟨by omega,hm2⟩)
     · obtain ⟨L', hD, k, hL⟩ := hQ
       exact IH (j + 1) h' t' (by omega) ⟨ed,i0,D,i1,i2,_,i3,slc,slp,slr,slf,L',H,hed,hD,k,hout2 L' hL,.inr ⟨_,_,rfl⟩⟩
end
theorem l1x {b:Bool}{w:World}{g:Array GenState}{d:Drawn}{os:OsState}{eP eR eL:Env}{ot nd se is sk fc n2 so sd pf lc lf:Addr}{od:Array DictEntry}{n4 np nr nf k1 k2 k3 k4 k5 k6:Nat}{esp esr esf:List DictEntry}{so' sd':Obj}{F:List Pt}{N:List Nd}{ed:Array DictEntry}{D:Data}{i0 i1 i2 i3:Nat}{slc slp slr slf:Array (Option Value)}
   (hkP:eP.scope.kind≠.module) (hfP:eP.frame=some pf) (hkR:eR.scope.kind≠.module) (hfR:eR.frame=some lc) (hkL:eL.scope.kind≠.module) (hfL:eL.frame=some lf) (h1:isFr so'=false) (h2:isFr sd'=false) (hFF:FolOk F) (hN:NsOk F N) (hd:IsD prg (wv b w) od (kvN N)) (hed:IsD prg (wv b w) ed []) (hD:IsS prg (wv b w) D []) :
   Ct prg (wv b w) 570 (some [envAt (wv b w).params 141 fc, eP, eR, eL]) (KK (wv b w).params) g d os (lpAt (wv b w).params 141 fc 5 [] (.ref ot)) (fcL (wv b w).params ⟨ot, nd, se, is, sk, fc, n2, so, pf, lc, lf, od, n4, np, nr, nf, k1, k2, k3, k4, k5, k6, esp, esr, esf⟩ 0 ed i0 D [] [] i1 i2 [] i3 slc slp slr slf ++ ([(so, so'), (sd, sd')] ++ ndsC N)) none
     fun u=>(.ok .next,[(n2,dO od n4),(pf,locS esp np u.s2),(lc,locS esr nr u.s3),(lf,locS esf nf u.s4),(so,so'),(sd,sd')]++ndsC N) :=
 l1c (c:=⟨ot,nd,se,is,sk,fc,n2,so,pf,lc,lf,od,n4,np,nr,nf,k1,k2,k3,k4,k5,k6,esp,esr,esf⟩) (rest:=[(so,so'),(sd,sd')]) hkP hfP hkR hfR hkL hfL (fun σ=>by rw [List.map_cons,List.map_cons,frC_id h1,frC_id h2];rfl) hFF hN hd hed hD
theorem fcX {b:Bool}{w:World}{g:Array GenState}{d:Drawn}{os:OsState}{envP envR envL:Env}{n2 so sd pf lc lf ra:Addr}{esp esr esf:List DictEntry}{np nr nf n3 n4:Nat}{slp slr slf:Array (Option Value)}{t1 t2 t3 t4 t5 t6:Tok}{od:Array DictEntry}{F:List Pt}{N:List Nd}
  (hkP:envP.scope.kind≠.module) (hfP:envP.frame=some pf) (hkR:envR.scope.kind≠.module) (hfR:envR.frame=some lc) (hkL:envL.scope.kind≠.module) (hfL:envL.frame=some lf) (hFF:FolOk F) (hN:NsOk F N) (hd:IsD prg (wv b w) od (kvN N)) :
  Ct prg (wv b w) 560 (some [envP, envR, envL]) (KK (wv b w).params) g d os (.call (.ref 141) ⟨[.ref so], []⟩) ([(n2, dO od n4), (pf, locS esp np slp), (lc, locS esr nr slr), (lf, locS esf nf slf), (so, soO sd), (sd, sdO (wv b w).params n2 t1 t2 t3 t4 (.ref ra) 0 0 t5 t6 n3)] ++ ndsC N) none
    fun u=>(.ok (.ret .none),[(n2,dO od n4),(pf,locS esp np u.s2),(lc,locS esr nr u.s3),(lf,locS esf nf u.s4),(so,soO sd),(sd,sdO (wv b w).params n2 t1 t2 t3 t4 (.ref ra) 0 0 t5 t6 n3)]++ndsC N):=by
 refine ⟨fun B h t R KX hS H x=>?_⟩
 refine' go_ent KX H rfl ?_
 (refine' run_T2 KX Rin.nil H 4000 ⟨[0,1,2,3,4,5],6⟩ rfl [.k,.b 0,.c 0,.f 0,.k,.c 0,.c 5,.k,.k,.k,.e,.c 5,.k,.k,.k,.c 5,.c 5,.k,.c 6,.c 0,.f 0,.b 1,.c 1,.f 1,.b 2,.c 2,.f 2,.k,.k,.v 3 (fun al=>rSnew),.c 3,.f 3,.b 4,.c 4,.f 4,.c 4,.c 5,.c 5,.v 5 (fun al=>rDiter hS 5),.c 0,.v 6 (fun al=>rC KX hS [0,0,0,0,0,0,0,0,0,0,0,0] 0 true (IsS prg (wv b w) (al 3).D []) (fun hp=>l1x (ot:=(al 5).n) (nd:=(al 4).1) (se:=(al 3).1) (is:=(al 2).1) (sk:=(al 1).1) (fc:=(al 0).n) (n2:=n2) (so:=so) (sd:=sd) (pf:=pf) (lc:=lc) (lf:=lf) (od:=od) (n4:=n4) (np:=np) (nr:=nr) (nf:=nf) (k1:=t) (k2:=t + 1 + 1) (k3:=t + 1 + 1 + 1) (k4:=t + 1 + 1 + 1 + 1) (k5:=(al 3).2) (k6:=(al 3).n2 + 1) (esp:=esp) (esr:=esr) (esf:=esf) (F:=F) (N:=N) (ed:=(dents prg (wv b w) [] []).toArray) (D:=(al 3).D) (i0:=0) (i1:=0) (i2:=0) (i3:=0 + 1 + 1 + 1 + 1 + 1 + 1) (slc:={ toList:=[] }) (slp:=slp) (slr:=slr) (slf:=slf) (so':=soO sd) (sd':=sdO (wv b w).params n2 t1 t2 t3 t4 (.ref ra) 0 0 t5 t6 n3) hkP hfP hkR hfR hkL hfL rfl rfl hFF hN hd ⟨List.nodup_nil,[],rfl⟩ hp))] fun al=>end_R2 (r:=(.ok (.ret .none))) (cs:=([(n2,dO od n4),(pf,locS esp np _),(lc,locS esr nr _),(lf,locS esf nf _),(so,soO sd),(sd,sdO (wv b w).params n2 t1 t2 t3 t4 (.ref ra) 0 0 t5 t6 n3)]++ndsC N)) (by kernel_rfl) (by kernel_rfl) rfl (by kernel_rfl) ⟨(fun hF=>hF.1),(fun hF=>⟨_,hd⟩),(fun hF=>trivial),trivial⟩ fun hp t hF H=>?_)
 exact x { xd0 with s2:=_,s3:=_,s4:=_,t:=_ } _ trivial H
noncomputable def grC (P:Params) (it tu fr so n2:Addr) (k1 k2 k3:Tok) (vs:List Value) (od:Array DictEntry) (n4:Nat) (i:Nat) (ex:List DictEntry) (n:Nat):List (Addr×Obj) :=
 [(it,itT tu i),(tu,tupO vs 0),(fr,locO (ent P "self" k1 (.ref so) :: ent P "result" k2 (.ref tu) :: ent P "n2i" k3 (.ref n2) :: ex) n),(n2,dO od n4)]
theorem gr_turn {b:Bool}{w:World}{R:Result→Shared→Prop}{h:Heap}{g:Array GenState}{d:Drawn}{t:Nat}{os:OsState}{B:Addr→Option Obj}{it tu fr so n2:Addr}{k1 k2 k3:Tok}{vs:List Value}{od:Array DictEntry}{n4 i n:Nat}{ex:List DictEntry}{tl:List (Addr×Obj)}{y:Nd}{v:PT}{kvs:List (Pt×Value)}
  (KX:Kin (KK (wv b w).params) B) (H:Hp B h (ndC y++(grC (wv b w).params it tu fr so n2 k1 k2 k3 vs od n4 i ex n++tl)))
  (hv:vs[i]?=some (pv v)) (hd:IsD prg (wv b w) od kvs) (hk:vat kvs v.1=some (.ref y.ni)) (hex:ex=[]∨∃ tk v,ex=[ent (wv b w).params "node" tk v])
  (IH:∀ h' t' tk n tp,Hp B h' (ndC { y with np:=-1,tp:=tp }++(grC (wv b w).params it tu fr so n2 k1 k2 k3 vs od n4 (i + 1) [ent (wv b w).params "node" tk (pv v)] n++tl))→codeAny (model prg (wv b w)) (AF 560 none) (lpAt (wv b w).params 113 fr 3 [] (.ref it)) R ⟨h',g,d,t',os⟩) :
  codeAny (model prg (wv b w)) (AF 560 none) (lpAt (wv b w).params 113 fr 3 [] (.ref it)) R ⟨h,g,d,t,os⟩:=by
 refine' go_code ?_
 rcases hex with rfl | ⟨tk0,v0,rfl⟩
 · (refine' run_T KX Rin.nil H 4000 ⟨[0, 1, 2, 3, 4, 5], 6⟩ rfl [.c 2, .v 0 (fun al => rTnext Rin.nil 2 (.c 3) (pv v)), .c 4, .f 4, .k, .c 4, .c 4, .c 5, .c 5, .c 5, .v 1 (fun al => rDitem 5 (v.1) (.c 0)), .c 0, .k, .k, .k, .e, .c 0, .k, .q, .c 0, .k, .c 0, .k, .k, .k, .k, .k, .e, .k, .q, .k, .k, .c 0, .k, .k, .k, .q, .k, .k, .c 0, .k, .c 0] fun al => end_A (c := (lpAt (wv b w).params 113 fr 3 [] (.ref it))) (cs := (ndC { y with np := -1, tp := _ } ++ (grC (wv b w).params it tu fr so n2 k1 k2 k3 vs od n4 (i + 1) [ent (wv b w).params "node" _ (pv v)] _ ++ tl))) (by kernel_rfl) rfl  ⟨(fun hF => ⟨_, hd, hk⟩), (fun hF => hv), trivial⟩ fun hp t hF H => ?_)
   exact IH _ _ _ _ _ H
 · (refine' run_T KX Rin.nil H 4000 ⟨[0, 1, 2, 3, 4, 5], 6⟩ rfl [.c 2, .v 0 (fun al => rTnext Rin.nil 2 (.c 3) (pv v)), .c 4, .f 4, .k, .c 4, .c 4, .c 5, .c 5, .c 5, .v 1 (fun al => rDitem 5 (v.1) (.c 0)), .c 0, .k, .k, .k, .e, .c 0, .k, .q, .c 0, .k, .c 0, .k, .k, .k, .k, .k, .e, .k, .q, .k, .k, .c 0, .k, .k, .k, .q, .k, .k, .c 0, .k, .c 0] fun al => end_A (c := (lpAt (wv b w).params 113 fr 3 [] (.ref it))) (cs := (ndC { y with np := -1, tp := _ } ++ (grC (wv b w).params it tu fr so n2 k1 k2 k3 vs od n4 (i + 1) [ent (wv b w).params "node" _ (pv v)] _ ++ tl))) (by kernel_rfl) rfl  ⟨(fun hF => ⟨_, hd, hk⟩), (fun hF => hv), trivial⟩ fun hp t hF H => ?_)
   exact IH _ _ _ _ _ H
theorem gr_end {b:Bool}{w:World}{R:Result→Shared→Prop}{h:Heap}{g:Array GenState}{d:Drawn}{t:Nat}{os:OsState}{B:Addr→Option Obj}{it tu fr so n2:Addr}{k1 k2 k3:Tok}{vs:List Value}{od:Array DictEntry}{n4 i n:Nat}{ex:List DictEntry}{tl:List (Addr×Obj)}
  (KX:Kin (KK (wv b w).params) B) (H:Hp B h (grC (wv b w).params it tu fr so n2 k1 k2 k3 vs od n4 i ex n++tl)) (hv:vs[i]?=none)
  (x:∀ h' t',Hp B h' ([(tu,tupO vs 0),(fr,locO (ent (wv b w).params "self" k1 (.ref so) :: ent (wv b w).params "result" k2 (.ref tu) :: ent (wv b w).params "n2i" k3 (.ref n2) :: ex) n),(n2,dO od n4)]++tl)→R (.ok .next) ⟨h',g,d,t',os⟩) :
  codeAny (model prg (wv b w)) (AF 560 none) (lpAt (wv b w).params 113 fr 3 [] (.ref it)) R ⟨h,g,d,t,os⟩:=by
 refine' go_code ?_
 (refine' run_T KX Rin.nil H 4000 ⟨[2,3,4],5⟩ rfl [.c 0,.v 0 (fun al=>rTend Rin.nil 0 (.c 1)),.c 0] fun al=>end_R (r:=(.ok .next)) (cs:=([(tu,tupO vs 0),(fr,locO (ent (wv b w).params "self" k1 (.ref so) :: ent (wv b w).params "result" k2 (.ref tu) :: ent (wv b w).params "n2i" k3 (.ref n2) :: ex) n),(n2,dO od n4)]++tl)) (by kernel_rfl) rfl  ⟨(fun hF=>hv),trivial⟩ fun hp t hF H=>?_)
 exact x _ _ H
structure NsF (F : List Pt) (f : Pt → Int) (N : List Nd) : Prop where
 ps:psN N=F
 np:∀ x∈N,x.np=f x.p
 su:∀ x∈N,∃ L:List PT,x.su=L.map pv∧pts L=chl F x.p
theorem NsOk.nsF {F:List Pt}{N:List Nd}(k:NsOk F N):NsF F (fun p=>if p=.r then 0 else 1) N:=⟨k.ps,k.np,k.su⟩
theorem NsF.set {F:List Pt}{f f':Pt→Int}{N1 N2:List Nd}{y y':Nd}(k:NsF F f (N1++y :: N2)) (hF:F.Nodup) (e1:y'.p=y.p) (e2:y'.su=y.su) (h1:f' y.p=y'.np) (h2:∀ p,p≠y.p→f' p=f p):NsF F f' (N1++y' :: N2):=by
 have hn:=hF
 rw [← k.ps,psN,List.map_append,List.map_cons,List.nodup_append] at hn
 have nx : ∀ z ∈ N1 ++ N2, z.p ≠ y.p := fun z hz e => by
   rcases List.mem_append.mp hz with hz | hz
   · exact hn.2.2 _ (List.mem_map_of_mem hz) _ (.head _) e
   · exact (List.nodup_cons.mp hn.2.1).1 (e ▸ List.mem_map_of_mem hz)
 have up : ∀ z ∈ N1 ++ y' :: N2, z = y' ∨ z ∈ N1 ++ N2 := fun z hz => by
   rcases List.mem_append.mp hz with hz | hz
   · exact .inr (List.mem_append_left _ hz)
   · exact (List.mem_cons.mp hz).imp id (List.mem_append_right _)
 have old : ∀ z ∈ N1 ++ N2, z ∈ N1 ++ y :: N2 := fun z hz => by
   rcases List.mem_append.mp hz with hz | hz <;> simp [hz]
 refine ⟨by rw [← k.ps];simp [psN,e1],fun z hz=>?_,fun z hz=>?_⟩
 · rcases up z hz with rfl | hz
   · rw [e1,h1]
   · rw [h2 _ (nx z hz)];exact k.np z (old z hz)
 · rcases up z hz with rfl | hz
   · rw [e1,e2];exact k.su y (by simp)
   · exact k.su z (old z hz)
theorem kvN_set {N1 N2:List Nd}{y y':Nd}(e1:y'.p=y.p) (e2:y'.ni=y.ni):kvN (N1++y' :: N2)=kvN (N1++y :: N2):=by simp [kvN,e1,e2]
theorem nd_out {B:Addr→Option Obj}{h:Heap}{cs:List (Addr×Obj)}{N1 N2:List Nd}{y:Nd}(H:Hp B h (cs++ndsC (N1++y :: N2))):Hp B h (ndC y++(cs++ndsC (N1++N2))):=H.perm ((List.perm_append_comm_assoc _ _ _).trans (List.Perm.append_left _ (nds_perm N1 y N2)))
theorem nd_in {B:Addr→Option Obj}{h:Heap}{cs:List (Addr×Obj)}{N1 N2:List Nd}{y:Nd}(H:Hp B h (ndC y++(cs++ndsC (N1++N2)))):Hp B h (cs++ndsC (N1++y :: N2)):=H.perm ((List.perm_append_comm_assoc _ _ _).trans (List.Perm.append_left _ (nds_perm N1 y N2))).symm
theorem NsF.find {F:List Pt}{f:Pt→Int}{N:List Nd}(k:NsF F f N) (hF:F.Nodup){p:Pt}(hp:p∈F):∃ N1 y N2,N=N1++y :: N2∧y.p=p∧y.np=f p∧vat (kvN N) p=some (.ref y.ni):=by
 obtain ⟨N1,y,N2,rfl,hy,hy1⟩:=nd_split (by rw [k.ps];exact hF) (k.ps ▸ hp)
 exact ⟨N1,y,N2,rfl,hy,hy ▸ k.np y (by simp),by rw [← hy];exact vat_some (hy ▸ hy1)⟩
theorem gr_loop {b:Bool}{w:World}{g:Array GenState}{d:Drawn}{os:OsState}{it tu fr so n2:Addr}{k1 k2 k3:Tok}{od:Array DictEntry}{n4 n:Nat}{F:List Pt}{f:Pt→Int}{L:List PT}{N:List Nd}(hF:F.Nodup) (hL:∀ p∈pts L,p∈F) (hN:NsF F f N) (hd:IsD prg (wv b w) od (kvN N)) :
  Ct prg (wv b w) 560 none (KK (wv b w).params) g d os (lpAt (wv b w).params 113 fr 3 [] (.ref it)) (grC (wv b w).params it tu fr so n2 k1 k2 k3 (L.map pv) od n4 0 [] n ++ ndsC N)
    (some fun u=>∃ N',u.X=ndsC N'∧kvN N'=kvN N∧NsF F (fun p=>if p∈pts L then -1 else f p) N')
    fun u=>(.ok .next,[(tu,tupO (L.map pv) 0),(fr,locO (ent (wv b w).params "self" k1 (.ref so) :: ent (wv b w).params "result" k2 (.ref tu) :: ent (wv b w).params "n2i" k3 (.ref n2) :: u.T.toList) u.n),(n2,dO od n4)]++u.X):=by
 refine ⟨fun B h t R KX hS H x => loopI (σ := Nat) (fun i => L.length - i) (fun i h => ∃ ex n N', Hp B h (grC (wv b w).params it tu fr so n2 k1 k2 k3 (L.map pv) od n4 i ex n ++ ndsC N') ∧ (ex = [] ∨ ∃ tk v, ex = [ent (wv b w).params "node" tk v]) ∧ kvN N' = kvN N ∧ NsF F (fun p => if p ∈ (pts L).take i then -1 else f p) N')
   (fun i h t hi IH=>?_) (x:=0) ⟨[],n,N,H,.inl rfl,rfl,by simpa using hN⟩⟩
 obtain ⟨ex,n,N',H,hex,hkv,hN'⟩:=hi
 rcases hx:L[i]? with _ | v
 · refine gr_end KX H (item_no hx) fun h' t' H => x { xd n 0 with T := ex.toArray, t := t', X := ndsC N' } h' ⟨⟨N', rfl, hkv, ?_⟩, trivial⟩ H
   rw [List.take_of_length_le (by rw [List.length_map];exact List.getElem?_eq_none_iff.mp hx)] at hN'
   exact hN'
 · have hv := (List.getElem?_eq_some_iff.mp hx)
   have hpv:(pts L)[i]?=some v.1:=by rw [List.getElem?_map,hx];rfl
   obtain ⟨N1,y,N2,rfl,hy,hy2,hy3⟩:=hN'.find hF (hL v.1 (List.mem_of_getElem? hpv))
   refine gr_turn KX (nd_out H) (item_of hx) hd (hkv ▸ hy3) hex fun h' t' tk n tp H=>IH (i + 1) h' t' (by have:=hv.1;omega) ⟨_,n,_,nd_in H,.inr ⟨_,_,rfl⟩,(kvN_set (y:=y) (y':={ y with np:=-1,tp:=tp }) rfl rfl).trans hkv,hN'.set (y':={ y with np:=-1,tp:=tp }) hF rfl rfl ?_ fun p hp=>?_⟩
   · rw [if_pos]
     rw [hy,List.take_add_one,hpv];simp
   · rw [hy] at hp
     rw [List.take_add_one,hpv]
     simp [hp]
theorem gr {b:Bool}{w:World}{g:Array GenState}{d:Drawn}{os:OsState}{so sd n2 ra:Addr}{t1 t2 t3 t4 t5 t6:Tok}{od:Array DictEntry}{n3 n4 n6:Nat}{a c:Int}{F:List Pt}{f:Pt→Int}{L:List PT}{N:List Nd}(hF:F.Nodup) (hL:∀ p∈pts L,p∈F) (hl:L.length≤1000) (hN:NsF F f N) (hd:IsD prg (wv b w) od (kvN N)) :
  Ct prg (wv b w) 540 none (KK (wv b w).params) g d os (.call (.ref 113) ⟨[.ref so], []⟩) ([(n2, dO od n4), (so, soO sd), (sd, sdO (wv b w).params n2 t1 t2 t3 t4 (.ref ra) a c t5 t6 n3), (ra, lst (L.map pv) n6)] ++ ndsC N)
    (some fun u=>∃ N',u.X=ndsC N'∧kvN N'=kvN N∧NsF F (fun p=>if p∈pts L then -1 else f p) N')
    fun u=>(.ok (.ret (.ref u.n)),[(u.n,tupO (L.map pv) 0),(n2,dO od n4),(so,soO sd),(sd,sdO (wv b w).params n2 t1 t2 t3 t4 (.ref ra) (a + L.length) c u.n2 t6 u.n3),(ra,lst [] u.n4)]++u.X):=by
 refine ⟨fun B h t R KX hS H x=>?_⟩
 refine' go_ent KX H rfl ?_
 have hl2:(L.map pv).length≤1000:=by simpa using hl
 (refine' run_T2 KX Rin.nil H 4000 ⟨[3,5,0,1,2],6⟩ rfl [.k,.b 0,.c 0,.f 0,.k,.c 0,.c 2,.k,.k,.k,.e,.c 2,.k,.k,.k,.c 2,.c 2,.k,.c 3,.k,.k,.c 0,.c 2,.k,.k,.k,.e,.c 2,.k,.k,.k,.c 2,.c 2,.k,.c 3,.v 1 (fun al=>rTup Rin.nil (.c 4)),.c 1,.f 1,.c 1,.c 3,.k,.k,.k,.e,.c 3,.k,.k,.k,.c 3,.c 3,.k,.c 4,.c 1,.f 1,.c 1,.c 0,.c 0,.e,.c 0,.q,.b 2,.c 0,.v 3 (fun al=>rC KX hS [0,0,0,0] 3 true (True) (fun _=>gr_loop (it:=(al 2).n) (tu:=(al 1).n) (fr:=(al 0).n) (so:=so) (n2:=n2) (k1:=t) (k2:=(al 1).n2) (k3:=(al 1).n2 + 1 + 1) (od:=od) (n4:=n4) (n:=0 + 1 + 1 + 1) (F:=F) (f:=f) (L:=L) (N:=N) hF hL hN hd)),.c 4,.c 0,.k,.k,.k,.e,.c 0,.k,.k,.k,.c 0,.c 0,.k,.c 1,.c 2,.c 2,.c 2,.c 2,.v 4 (fun al=>rClear 2),.c 4,.c 0,.k,.k,.k,.e,.c 0,.k,.k,.k,.c 0,.c 0,.k,.c 1,.k,.k,.c 4,.v 5 (fun al=>rLenT Rin.nil (.c 3) (L.length)),.e,.q,.c 0,.k,.k,.k,.e,.c 0,.k,.q,.c 0,.k,.c 0,.k,.k,.k,.c 0,.k,.c 1,.f 1,.c 1,.c 4] fun al=>end_R2 (r:=(.ok (.ret (.ref _)))) (cs:=([(_,tupO (L.map pv) 0),(n2,dO od n4),(so,soO sd),(sd,sdO (wv b w).params n2 t1 t2 t3 t4 (.ref ra) (a + L.length) c _ t6 _),(ra,lst [] _)]++_)) (by kernel_rfl) (by kernel_rfl) rfl (by kernel_rfl) ⟨(fun hF=>⟨by simp,hl⟩),(fun hF=>hl2),(fun hF=>trivial),(fun hF=>hl2),trivial⟩ fun hp t hF H=>?_)
 exact x { xd0 with n:=_,n2:=_,n3:=_,n4:=_,X:=_,t:=_ } _ ⟨hF.1,trivial⟩ H
noncomputable def diC (P:Params) (it sc fr so sd n2 ra tu ni:Addr) (k1 k2 k3 k4 k5 k6 k7 t1 t2 t3 t4 t5 t6:Tok) (nv:Value) (a c:Int) (od:Array DictEntry) (n3 n4:Nat) (i:Nat) (vs:List Value) (n6:Nat) (ex:List DictEntry) (n:Nat):List (Addr×Obj) :=
 [(it,itL sc i),(fr,locO (ent P "self" k1 (.ref so) :: ent P "nodes" k2 (.ref tu) :: ent P "n2i" k3 (.ref n2) :: ent P "node" k4 nv :: ent P "nodeinfo" k5 (.ref ni) :: ent P "stat" k6 (.int (-1) k7) :: ex) n),(n2,dO od n4),(so,soO sd),(sd,sdO P n2 t1 t2 t3 t4 (.ref ra) a c t5 t6 n3),(ra,lst vs n6)]
theorem di_turn {b:Bool}{w:World}{R:Result→Shared→Prop}{h:Heap}{g:Array GenState}{d:Drawn}{t:Nat}{os:OsState}{B:Addr→Option Obj}{it fr so sd n2 ra tu ni:Addr}{k1 k2 k3 k4 k5 k6 k7 t1 t2 t3 t4 t5 t6:Tok}{nv:Value}{a c:Int}{od:Array DictEntry}{n3 n4 i n6 n:Nat}{vs:List Value}{ex:List DictEntry}{tl:List (Addr×Obj)}{y z:Nd}{v:PT}{kvs:List (Pt×Value)}
  (KX:Kin (KK (wv b w).params) B) (H:Hp B h (ndC z++(ndC y++(diC (wv b w).params it y.sc fr so sd n2 ra tu ni k1 k2 k3 k4 k5 k6 k7 t1 t2 t3 t4 t5 t6 nv a c od n3 n4 i vs n6 ex n++tl))))
  (hz:z.np=1) (hv:y.su[i]?=some (pv v)) (hl:vs.length≤1000) (hd:IsD prg (wv b w) od kvs) (hk:vat kvs v.1=some (.ref z.ni)) (hex:ex=[]∨∃ tk v tk' v',ex=[ent (wv b w).params "successor" tk v,ent (wv b w).params "successor_info" tk' v'])
  (IH : ∀ h' t' tk tk' n6 n tp, Hp B h' (ndC { z with np := 0, tp := tp } ++ (ndC y ++ (diC (wv b w).params it y.sc fr so sd n2 ra tu ni k1 k2 k3 k4 k5 k6 k7 t1 t2 t3 t4 t5 t6 nv a c od n3 n4 (i + 1) (vs ++ [pv v]) n6 [ent (wv b w).params "successor" tk (pv v), ent (wv b w).params "successor_info" tk' (.ref z.ni)] n ++ tl))) →
    codeAny (model prg (wv b w)) (AF 580 none) (lpAt (wv b w).params 134 fr 2 [4] (.ref it)) R ⟨h',g,d,t',os⟩) :
  codeAny (model prg (wv b w)) (AF 580 none) (lpAt (wv b w).params 134 fr 2 [4] (.ref it)) R ⟨h,g,d,t,os⟩:=by
 refine' go_code ?_
 obtain ⟨zp,ztn,zdd,zni,zsc,znp,ztp,zsu,zn⟩:=z
 dsimp only at hz hk
 subst hz
 rcases hex with rfl | ⟨tk0,v0,tk1,v1,rfl⟩
 · (refine' run_T2 KX Rin.nil H 4000 ⟨[0, 1, 2, 3, 4, 5, 6, 7, 8, 9], 10⟩ rfl [.c 4, .v 0 (fun al => rNext Rin.nil 4 (.c 3) (pv v)), .c 5, .c 5, .c 5, .c 5, .c 6, .c 6, .c 6, .v 1 (fun al => rDitem 6 (v.1) (.c 0)), .c 5, .c 5, .c 5, .c 0, .k, .k, .k, .e, .c 0, .k, .k, .k, .k, .k, .k, .k, .k, .e, .k, .q, .k, .k, .c 0, .k, .k, .k, .q, .k, .k, .c 0, .k, .c 0, .e, .q, .c 0, .k, .k, .k, .e, .c 0, .k, .q, .c 0, .k, .c 0, .k, .k, .k, .k, .k, .e, .k, .q, .k, .k, .c 0, .k, .k, .k, .q, .k, .k, .c 0, .k, .c 0, .c 5, .c 0, .k, .k, .k, .e, .c 0, .k, .k, .k, .k, .k, .k, .k, .k, .e, .k, .q, .k, .k, .c 0, .k, .k, .k, .q, .k, .k, .c 0, .k, .c 0, .e, .q, .c 5, .c 7, .k, .k, .k, .e, .c 7, .k, .k, .k, .c 7, .c 7, .k, .c 8, .c 9, .c 9, .c 9, .c 9, .c 5, .v 2 (fun al => rAppend 9)] fun al => end_A2 (c := (lpAt (wv b w).params 134 fr 2 [4] (.ref it))) (cs := (ndC ⟨zp, ztn, zdd, zni, zsc, 0, _, zsu, zn⟩ ++ (ndC y ++ (diC (wv b w).params it y.sc fr so sd n2 ra tu ni k1 k2 k3 k4 k5 k6 k7 t1 t2 t3 t4 t5 t6 nv a c od n3 n4 (i + 1) (vs ++ [pv v]) _ [ent (wv b w).params "successor" _ (pv v), ent (wv b w).params "successor_info" _ (.ref zni)] _ ++ tl)))) (by kernel_rfl) (by kernel_rfl) rfl (by kernel_rfl) ⟨(fun hF => hl), (fun hF => ⟨_, hd, hk⟩), (fun hF => hv), trivial⟩ fun hp t hF H => ?_)
   exact IH _ _ _ _ _ _ _ H
 · (refine' run_T2 KX Rin.nil H 4000 ⟨[0, 1, 2, 3, 4, 5, 6, 7, 8, 9], 10⟩ rfl [.c 4, .v 0 (fun al => rNext Rin.nil 4 (.c 3) (pv v)), .c 5, .c 5, .c 5, .c 5, .c 6, .c 6, .c 6, .v 1 (fun al => rDitem 6 (v.1) (.c 0)), .c 5, .c 5, .c 5, .c 0, .k, .k, .k, .e, .c 0, .k, .k, .k, .k, .k, .k, .k, .k, .e, .k, .q, .k, .k, .c 0, .k, .k, .k, .q, .k, .k, .c 0, .k, .c 0, .e, .q, .c 0, .k, .k, .k, .e, .c 0, .k, .q, .c 0, .k, .c 0, .k, .k, .k, .k, .k, .e, .k, .q, .k, .k, .c 0, .k, .k, .k, .q, .k, .k, .c 0, .k, .c 0, .c 5, .c 0, .k, .k, .k, .e, .c 0, .k, .k, .k, .k, .k, .k, .k, .k, .e, .k, .q, .k, .k, .c 0, .k, .k, .k, .q, .k, .k, .c 0, .k, .c 0, .e, .q, .c 5, .c 7, .k, .k, .k, .e, .c 7, .k, .k, .k, .c 7, .c 7, .k, .c 8, .c 9, .c 9, .c 9, .c 9, .c 5, .v 2 (fun al => rAppend 9)] fun al => end_A2 (c := (lpAt (wv b w).params 134 fr 2 [4] (.ref it))) (cs := (ndC ⟨zp, ztn, zdd, zni, zsc, 0, _, zsu, zn⟩ ++ (ndC y ++ (diC (wv b w).params it y.sc fr so sd n2 ra tu ni k1 k2 k3 k4 k5 k6 k7 t1 t2 t3 t4 t5 t6 nv a c od n3 n4 (i + 1) (vs ++ [pv v]) _ [ent (wv b w).params "successor" _ (pv v), ent (wv b w).params "successor_info" _ (.ref zni)] _ ++ tl)))) (by kernel_rfl) (by kernel_rfl) rfl (by kernel_rfl) ⟨(fun hF => hl), (fun hF => ⟨_, hd, hk⟩), (fun hF => hv), trivial⟩ fun hp t hF H => ?_)
   exact IH _ _ _ _ _ _ _ H
theorem di_end {b:Bool}{w:World}{R:Result→Shared→Prop}{h:Heap}{g:Array GenState}{d:Drawn}{t:Nat}{os:OsState}{B:Addr→Option Obj}{it fr so sd n2 ra tu ni:Addr}{k1 k2 k3 k4 k5 k6 k7 t1 t2 t3 t4 t5 t6:Tok}{nv:Value}{a c:Int}{od:Array DictEntry}{n3 n4 i n6 n:Nat}{vs:List Value}{ex:List DictEntry}{tl:List (Addr×Obj)}{y:Nd}
  (KX:Kin (KK (wv b w).params) B) (H:Hp B h (ndC y++(diC (wv b w).params it y.sc fr so sd n2 ra tu ni k1 k2 k3 k4 k5 k6 k7 t1 t2 t3 t4 t5 t6 nv a c od n3 n4 i vs n6 ex n++tl))) (hv:y.su[i]?=none)
  (x:∀ h' t',Hp B h' (ndC y++((diC (wv b w).params it y.sc fr so sd n2 ra tu ni k1 k2 k3 k4 k5 k6 k7 t1 t2 t3 t4 t5 t6 nv a c od n3 n4 i vs n6 ex n).tail++tl))→R (.ok .next) ⟨h',g,d,t',os⟩) :
  codeAny (model prg (wv b w)) (AF 580 none) (lpAt (wv b w).params 134 fr 2 [4] (.ref it)) R ⟨h,g,d,t,os⟩:=by
 refine' go_code ?_
 (refine' run_T KX Rin.nil H 4000 ⟨[1,2,4,5,6,7,8],9⟩ rfl [.c 2,.v 0 (fun al=>rNextEnd Rin.nil 2 (.c 1)),.c 0] fun al=>end_R (r:=(.ok .next)) (cs:=(ndC y++((diC (wv b w).params it y.sc fr so sd n2 ra tu ni k1 k2 k3 k4 k5 k6 k7 t1 t2 t3 t4 t5 t6 nv a c od n3 n4 i vs n6 ex n).tail++tl))) (by kernel_rfl) rfl  ⟨(fun hF=>hv),trivial⟩ fun hp t hF H=>?_)
 exact x _ _ H
theorem two_perm {A B C D:List Nd}{y:Nd}(e:A++B=C++y :: D) (z':Nd) (cs:List (Addr×Obj)):(ndC z'++(ndC y++(cs++ndsC (C++D)))).Perm (cs++ndsC (A++z' :: B)):=by
 refine List.Perm.trans ?_ ((List.perm_append_comm_assoc _ _ _).trans (List.Perm.append_left _ (nds_perm A z' B)))
 refine List.Perm.append_left _ ?_
 rw [e]
 exact (List.perm_append_comm_assoc _ _ _).trans (List.Perm.append_left _ (nds_perm C y D))
theorem di_loop {b:Bool}{w:World}{g:Array GenState}{d:Drawn}{os:OsState}{it fr so sd n2 ra tu ni:Addr}{k1 k2 k3 k4 k5 k6 k7 t1 t2 t3 t4 t5 t6:Tok}{nv:Value}{a c:Int}{od:Array DictEntry}{n3 n4 n6 n:Nat}{ex:List DictEntry}{y:Nd}{F:List Pt}{f:Pt→Int}{R0 Ly:List PT}{N:List Nd}
  (hF:F.Nodup) (hl:R0.length + Ly.length≤1000) (hy:y∈N) (hs:y.su=Ly.map pv) (hLn:(pts Ly).Nodup) (hLy:∀ p∈pts Ly,p∈F∧p≠y.p∧f p=1) (hN:NsF F f N) (hd:IsD prg (wv b w) od (kvN N))
  (hex:ex=[]∨∃ tk v tk' v',ex=[ent (wv b w).params "successor" tk v,ent (wv b w).params "successor_info" tk' v']) :
  Ct prg (wv b w) 580 none (KK (wv b w).params) g d os (lpAt (wv b w).params 134 fr 2 [4] (.ref it)) (diC (wv b w).params it y.sc fr so sd n2 ra tu ni k1 k2 k3 k4 k5 k6 k7 t1 t2 t3 t4 t5 t6 nv a c od n3 n4 0 (R0.map pv) n6 ex n ++ ndsC N)
    (some fun u=>((u.T.toList=[]∨∃ tk v tk' v',u.T.toList=[ent (wv b w).params "successor" tk v,ent (wv b w).params "successor_info" tk' v']))∧∃ N',u.X=ndsC N'∧kvN N'=kvN N∧NsF F (fun p=>if p∈pts Ly then 0 else f p) N')
    fun u=>(.ok .next,(diC (wv b w).params it y.sc fr so sd n2 ra tu ni k1 k2 k3 k4 k5 k6 k7 t1 t2 t3 t4 t5 t6 nv a c od n3 n4 0 ((R0++Ly).map pv) u.n2 u.T.toList u.n).tail++u.X):=by
 refine ⟨fun B h t R KX hS H x => loopI (σ := Nat) (fun i => Ly.length - i) (fun i h => ∃ ex n n6 N', Hp B h (diC (wv b w).params it y.sc fr so sd n2 ra tu ni k1 k2 k3 k4 k5 k6 k7 t1 t2 t3 t4 t5 t6 nv a c od n3 n4 i ((R0 ++ Ly.take i).map pv) n6 ex n ++ ndsC N') ∧ (ex = [] ∨ ∃ tk v tk' v', ex = [ent (wv b w).params "successor" tk v, ent (wv b w).params "successor_info" tk' v']) ∧ kvN N' = kvN N ∧ y ∈ N' ∧ NsF F (fun p => if p ∈ (pts Ly).take i then 0 else f p) N')
   (fun i h t hi IH=>?_) (x:=0) ⟨ex,n,n6,N,by simpa using H,hex,rfl,hy,by simpa using hN⟩⟩
 obtain ⟨ex,n,n6,N',H,hex,hkv,hy',hN'⟩:=hi
 rcases hx:Ly[i]? with _ | v
 · have hi : Ly.length ≤ i := List.getElem?_eq_none_iff.mp hx
   obtain ⟨N1,N2,rfl⟩:=List.append_of_mem hy'
   rw [List.take_of_length_le hi] at H
   rw [List.take_of_length_le (by rw [List.length_map];exact hi)] at hN'
   exact di_end KX (nd_out H) (by rw [hs];exact item_no hx) fun h' t' H=>x { xd0 with n:=n,n2:=n6,T:=ex.toArray,t:=t',X:=_ } h' ⟨⟨hex,_,rfl,hkv,hN'⟩,trivial⟩ (nd_in H)
 · have hv := (List.getElem?_eq_some_iff.mp hx)
   have hpv:(pts Ly)[i]?=some v.1:=by rw [List.getElem?_map,hx];rfl
   obtain ⟨h1,h2,h3⟩:=hLy v.1 (List.mem_of_getElem? hpv)
   have hvt : v.1 ∉ (pts Ly).take i := fun hm => by
     obtain ⟨j,hj,e⟩:=List.mem_iff_getElem.mp hm
     obtain ⟨a2,b2⟩:=List.getElem?_eq_some_iff.mp hpv
     rw [List.length_take] at hj
     rw [List.getElem_take] at e
     exact List.pairwise_iff_getElem.mp hLn j i (by omega) a2 (by omega) (e.trans b2.symm)
   obtain ⟨N1,z,N2,rfl,hz,hz2,hz3⟩:=hN'.find hF h1
   rw [if_neg hvt,h3] at hz2
   have hyz:y∈N1++N2:=by
     rcases List.mem_append.mp hy' with hm | hm
     · exact List.mem_append_left _ hm
     · rcases List.mem_cons.mp hm with e | hm
       · exact absurd (e ▸ hz.symm) h2
       · exact List.mem_append_right _ hm
   obtain ⟨C,D,e⟩:=List.append_of_mem hyz
   have hlt:=hv.1
   have etk:R0++Ly.take (i + 1)=(R0++Ly.take i)++[v]:=by rw [List.take_add_one,hx];simp
   have hmap:(R0++Ly.take (i + 1)).map pv=(R0++Ly.take i).map pv++[pv v]:=by rw [etk,List.map_append];rfl
   refine di_turn KX (H.perm (two_perm e z _)) hz2 (by rw [hs];exact item_of hx) (by rw [List.length_map,List.length_append,List.length_take];omega) hd (hkv ▸ hz3) hex fun h' t' tk tk' n6 n tp H=>?_
   have H:=H.perm (two_perm e { z with np:=0,tp:=tp } _).symm
   rw [← hmap] at H
   refine IH (i + 1) h' t' (by omega) ⟨_,n,n6,_,H,.inr ⟨_,_,_,_,rfl⟩,(kvN_set (y:=z) (y':={ z with np:=0,tp:=tp }) rfl rfl).trans hkv,?_,hN'.set (y':={ z with np:=0,tp:=tp }) hF rfl rfl ?_ fun p hp=>?_⟩
   · rcases List.mem_append.mp hyz with hm | hm
     · exact List.mem_append_left _ hm
     · exact List.mem_append_right _ (.tail _ hm)
   · rw [if_pos]
     rw [hz,List.take_add_one,hpv];simp
   · rw [hz] at hp
     rw [List.take_add_one,hpv]
     simp [hp]
noncomputable def ExI (P:Params) (ex:List DictEntry):Prop:=ex=[]∨∃ tk v tk' v',ex=[ent P "successor" tk v,ent P "successor_info" tk' v']
noncomputable def ExO (P:Params) (ex:List DictEntry):Prop:=ex=[]∨∃ k4 v4 k5 v5 k6 v6 ex2,ex=ent P "node" k4 v4 :: ent P "nodeinfo" k5 v5 :: ent P "stat" k6 v6 :: ex2∧ExI P ex2
noncomputable def doC (P:Params) (it fr so sd n2 ra tu:Addr) (k1 k2 k3 t1 t2 t3 t4 t5 t6:Tok) (a c:Int) (vs:List Value) (od:Array DictEntry) (n3 n4:Nat) (i:Nat) (rv:List Value) (n6:Nat) (ex:List DictEntry) (n:Nat):List (Addr×Obj) :=
 [(it,itT tu i),(tu,tupO vs 0),(fr,locO (ent P "self" k1 (.ref so) :: ent P "nodes" k2 (.ref tu) :: ent P "n2i" k3 (.ref n2) :: ex) n),(n2,dO od n4),(so,soO sd),(sd,sdO P n2 t1 t2 t3 t4 (.ref ra) a c t5 t6 n3),(ra,lst rv n6)]
theorem do_turn {b:Bool}{w:World}{R:Result→Shared→Prop}{h:Heap}{g:Array GenState}{d:Drawn}{t:Nat}{os:OsState}{B:Addr→Option Obj}{it fr so sd n2 ra tu:Addr}{k1 k2 k3 t1 t2 t3 t4 t5 t6:Tok}{a c:Int}{vs rv rv':List Value}{od:Array DictEntry}{n3 n4 i n6 n:Nat}{ex:List DictEntry}{tl:List (Addr×Obj)}{y:Nd}{v:PT}{kvs:List (Pt×Value)}{Q:List (Addr×Obj)→Prop}
  (KX:Kin (KK (wv b w).params) B) (hS:(B sysModules).isSome=true) (H:Hp B h (ndC y++(doC (wv b w).params it fr so sd n2 ra tu k1 k2 k3 t1 t2 t3 t4 t5 t6 a c vs od n3 n4 i rv n6 ex n++tl)))
  (hy:y.np=-1) (hv:vs[i]?=some (pv v)) (hd:IsD prg (wv b w) od kvs) (hk:vat kvs v.1=some (.ref y.ni)) (hex:ExO (wv b w).params ex)
  (hct : ∀ {it2 k4 k5 k6 k7 n ex2 tp}, ExI (wv b w).params ex2 → Ct prg (wv b w) 580 none (KK (wv b w).params) g d os (lpAt (wv b w).params 134 fr 2 [4] (.ref it2)) (diC (wv b w).params it2 y.sc fr so sd n2 ra tu y.ni k1 k2 k3 k4 k5 k6 k7 t1 t2 t3 t4 t5 t6 (pv v) a c od n3 n4 0 rv n6 ex2 n ++ (ndC { y with np := -2, tp := tp } ++ tl))
    (some fun u=>ExI (wv b w).params u.T.toList∧Q u.X) fun u=>(.ok .next,(diC (wv b w).params it2 y.sc fr so sd n2 ra tu y.ni k1 k2 k3 k4 k5 k6 k7 t1 t2 t3 t4 t5 t6 (pv v) a c od n3 n4 0 rv' u.n2 u.T.toList u.n).tail++u.X))
  (IH : ∀ h' t' ex t6 n3 n6 n X, ExO (wv b w).params ex → Q X → Hp B h' (doC (wv b w).params it fr so sd n2 ra tu k1 k2 k3 t1 t2 t3 t4 t5 t6 a (c + 1) vs od n3 n4 (i + 1) rv' n6 ex n ++ X) →
    codeAny (model prg (wv b w)) (AF 560 none) (lpAt (wv b w).params 134 fr 2 [] (.ref it)) R ⟨h',g,d,t',os⟩) :
  codeAny (model prg (wv b w)) (AF 560 none) (lpAt (wv b w).params 134 fr 2 [] (.ref it)) R ⟨h,g,d,t,os⟩:=by
 refine' go_code ?_
 obtain ⟨yp,ytn,ydd,yni,ysc,ynp,ytp,ysu,yn⟩:=y
 dsimp only at hy hk hct
 subst hy
 rcases hex with rfl | ⟨k4,v4,k5,v5,k6,v6,ex2,rfl,rfl | ⟨tk,v7,tk',v8,rfl⟩⟩
 · (refine' run_T2 KX Rin.nil H 4000 ⟨[0, 1, 2, 3, 4, 5, 6], 7⟩ rfl [.c 2, .v 0 (fun al => rTnext Rin.nil 2 (.c 3) (pv v)), .c 4, .f 4, .c 4, .c 5, .c 5, .c 5, .c 5, .c 4, .v 1 (fun al => rDget hS 5 (v.1) (.c 0)), .c 4, .f 4, .c 4, .c 0, .k, .k, .k, .e, .c 0, .k, .k, .k, .k, .k, .k, .k, .k, .e, .k, .q, .k, .k, .c 0, .k, .k, .k, .q, .k, .k, .c 0, .k, .c 0, .c 4, .f 4, .c 4, .k, .e, .q, .k, .c 4, .c 0, .k, .k, .k, .e, .c 0, .k, .q, .c 0, .k, .c 0, .k, .k, .k, .k, .k, .e, .k, .q, .k, .k, .c 0, .k, .k, .k, .q, .k, .k, .c 0, .k, .c 0, .c 4, .c 0, .k, .k, .k, .e, .c 0, .k, .k, .k, .k, .k, .k, .k, .k, .e, .k, .q, .k, .k, .c 0, .k, .k, .k, .q, .k, .k, .c 0, .k, .c 0, .c 1, .c 1, .e, .c 1, .q, .b 2, .c 0, .v 3 (fun al => rC KX hS [0, 4, 4, 4, 4, 4, 0, 0] 2 true (True) (fun _ => hct (it2 := (al 2).n) (k4 := (al 0).n) (k5 := (al 1).n) (k6 := (al 1).n + 1 + 1) (k7 := ytp) (n := n + 1 + 1 + 1) (ex2 := []) (tp := 226) (.inl rfl))), .c 2, .c 4, .k, .k, .k, .e, .c 4, .k, .k, .k, .c 4, .c 4, .k, .c 5, .e, .q, .c 4, .k, .k, .k, .e, .c 4, .k, .q, .c 4, .k, .c 4, .k, .k, .k, .c 4, .k, .c 5, .f 5, .c 5] fun al => end_A2 (c := (lpAt (wv b w).params 134 fr 2 [] (.ref it))) (cs := (doC (wv b w).params it fr so sd n2 ra tu k1 k2 k3 t1 t2 t3 t4 t5 _ a (c + 1) vs od _ n4 (i + 1) rv' _ (ent (wv b w).params "node" _ (pv v) :: ent (wv b w).params "nodeinfo" _ (.ref yni) :: ent (wv b w).params "stat" _ (.int (-1) _) :: _) _ ++ _)) (by kernel_rfl) (by kernel_rfl) rfl (by kernel_rfl) ⟨(fun hF => trivial), (fun hF => ⟨_, hd, by rw [hk]; rfl⟩), (fun hF => hv), trivial⟩ fun hp t hF H => ?_)
   exact IH _ _ _ _ _ _ _ _ (.inr ⟨_,_,_,_,_,_,_,rfl,hF.1.1⟩) hF.1.2 H
 · (refine' run_T2 KX Rin.nil H 4000 ⟨[0, 1, 2, 3, 4, 5, 6], 7⟩ rfl [.c 2, .v 0 (fun al => rTnext Rin.nil 2 (.c 3) (pv v)), .c 4, .c 4, .c 4, .c 5, .c 5, .c 5, .c 5, .c 4, .v 1 (fun al => rDget hS 5 (v.1) (.c 0)), .c 4, .c 4, .c 4, .c 0, .k, .k, .k, .e, .c 0, .k, .k, .k, .k, .k, .k, .k, .k, .e, .k, .q, .k, .k, .c 0, .k, .k, .k, .q, .k, .k, .c 0, .k, .c 0, .c 4, .f 4, .c 4, .k, .e, .q, .k, .c 4, .c 0, .k, .k, .k, .e, .c 0, .k, .q, .c 0, .k, .c 0, .k, .k, .k, .k, .k, .e, .k, .q, .k, .k, .c 0, .k, .k, .k, .q, .k, .k, .c 0, .k, .c 0, .c 4, .c 0, .k, .k, .k, .e, .c 0, .k, .k, .k, .k, .k, .k, .k, .k, .e, .k, .q, .k, .k, .c 0, .k, .k, .k, .q, .k, .k, .c 0, .k, .c 0, .c 1, .c 1, .e, .c 1, .q, .b 2, .c 0, .v 3 (fun al => rC KX hS [0, 4, 4, 4, 4, 4, 0, 0] 2 true (True) (fun _ => hct (it2 := (al 2).n) (k4 := k4) (k5 := k5) (k6 := k6) (k7 := ytp) (n := n) (ex2 := []) (tp := 226) (.inl rfl))), .c 2, .c 4, .k, .k, .k, .e, .c 4, .k, .k, .k, .c 4, .c 4, .k, .c 5, .e, .q, .c 4, .k, .k, .k, .e, .c 4, .k, .q, .c 4, .k, .c 4, .k, .k, .k, .c 4, .k, .c 5, .f 5, .c 5] fun al => end_A2 (c := (lpAt (wv b w).params 134 fr 2 [] (.ref it))) (cs := (doC (wv b w).params it fr so sd n2 ra tu k1 k2 k3 t1 t2 t3 t4 t5 _ a (c + 1) vs od _ n4 (i + 1) rv' _ (ent (wv b w).params "node" _ (pv v) :: ent (wv b w).params "nodeinfo" _ (.ref yni) :: ent (wv b w).params "stat" _ (.int (-1) _) :: _) _ ++ _)) (by kernel_rfl) (by kernel_rfl) rfl (by kernel_rfl) ⟨(fun hF => trivial), (fun hF => ⟨_, hd, by rw [hk]; rfl⟩), (fun hF => hv), trivial⟩ fun hp t hF H => ?_)
   exact IH _ _ _ _ _ _ _ _ (.inr ⟨_,_,_,_,_,_,_,rfl,hF.1.1⟩) hF.1.2 H
 · (refine' run_T2 KX Rin.nil H 4000 ⟨[0, 1, 2, 3, 4, 5, 6], 7⟩ rfl [.c 2, .v 0 (fun al => rTnext Rin.nil 2 (.c 3) (pv v)), .c 4, .c 4, .c 4, .c 5, .c 5, .c 5, .c 5, .c 4, .v 1 (fun al => rDget hS 5 (v.1) (.c 0)), .c 4, .c 4, .c 4, .c 0, .k, .k, .k, .e, .c 0, .k, .k, .k, .k, .k, .k, .k, .k, .e, .k, .q, .k, .k, .c 0, .k, .k, .k, .q, .k, .k, .c 0, .k, .c 0, .c 4, .c 4, .c 4, .k, .e, .q, .k, .c 4, .c 0, .k, .k, .k, .e, .c 0, .k, .q, .c 0, .k, .c 0, .k, .k, .k, .k, .k, .e, .k, .q, .k, .k, .c 0, .k, .k, .k, .q, .k, .k, .c 0, .k, .c 0, .c 4, .c 0, .k, .k, .k, .e, .c 0, .k, .k, .k, .k, .k, .k, .k, .k, .e, .k, .q, .k, .k, .c 0, .k, .k, .k, .q, .k, .k, .c 0, .k, .c 0, .c 1, .c 1, .e, .c 1, .q, .b 2, .c 0, .v 3 (fun al => rC KX hS [0, 4, 4, 4, 4, 4, 0, 0] 2 true (True) (fun _ => hct (it2 := (al 2).n) (k4 := k4) (k5 := k5) (k6 := k6) (k7 := ytp) (n := n) (ex2 := [ent (wv b w).params "successor" tk v7, ent (wv b w).params "successor_info" tk' v8]) (tp := 226) (.inr ⟨_, _, _, _, rfl⟩))), .c 2, .c 4, .k, .k, .k, .e, .c 4, .k, .k, .k, .c 4, .c 4, .k, .c 5, .e, .q, .c 4, .k, .k, .k, .e, .c 4, .k, .q, .c 4, .k, .c 4, .k, .k, .k, .c 4, .k, .c 5, .f 5, .c 5] fun al => end_A2 (c := (lpAt (wv b w).params 134 fr 2 [] (.ref it))) (cs := (doC (wv b w).params it fr so sd n2 ra tu k1 k2 k3 t1 t2 t3 t4 t5 _ a (c + 1) vs od _ n4 (i + 1) rv' _ (ent (wv b w).params "node" _ (pv v) :: ent (wv b w).params "nodeinfo" _ (.ref yni) :: ent (wv b w).params "stat" _ (.int (-1) _) :: _) _ ++ _)) (by kernel_rfl) (by kernel_rfl) rfl (by kernel_rfl) ⟨(fun hF => trivial), (fun hF => ⟨_, hd, by rw [hk]; rfl⟩), (fun hF => hv), trivial⟩ fun hp t hF H => ?_)
   exact IH _ _ _ _ _ _ _ _ (.inr ⟨_,_,_,_,_,_,_,rfl,hF.1.1⟩) hF.1.2 H
theorem do_end {b:Bool}{w:World}{R:Result→Shared→Prop}{h:Heap}{g:Array GenState}{d:Drawn}{t:Nat}{os:OsState}{B:Addr→Option Obj}{it fr so sd n2 ra tu:Addr}{k1 k2 k3 t1 t2 t3 t4 t5 t6:Tok}{a c:Int}{vs rv:List Value}{od:Array DictEntry}{n3 n4 i n6 n:Nat}{ex:List DictEntry}{tl:List (Addr×Obj)}
  (KX:Kin (KK (wv b w).params) B) (H:Hp B h (doC (wv b w).params it fr so sd n2 ra tu k1 k2 k3 t1 t2 t3 t4 t5 t6 a c vs od n3 n4 i rv n6 ex n++tl)) (hv:vs[i]?=none)
  (x:∀ h' t',Hp B h' ((doC (wv b w).params it fr so sd n2 ra tu k1 k2 k3 t1 t2 t3 t4 t5 t6 a c vs od n3 n4 i rv n6 ex n).tail.tail.tail++tl)→R (.ok .next) ⟨h',g,d,t',os⟩) :
  codeAny (model prg (wv b w)) (AF 560 none) (lpAt (wv b w).params 134 fr 2 [] (.ref it)) R ⟨h,g,d,t,os⟩:=by
 refine' go_code ?_
 (refine' run_T KX Rin.nil H 4000 ⟨[4,5,6,7],8⟩ rfl [.c 0,.v 0 (fun al=>rTend Rin.nil 0 (.c 1)),.c 0] fun al=>end_R (r:=(.ok .next)) (cs:=((doC (wv b w).params it fr so sd n2 ra tu k1 k2 k3 t1 t2 t3 t4 t5 t6 a c vs od n3 n4 i rv n6 ex n).tail.tail.tail++tl)) (by kernel_rfl) rfl  ⟨(fun hF=>hv),trivial⟩ fun hp t hF H=>?_)
 exact x _ _ H
noncomputable def chs (F:List Pt) (l:List Pt):List Pt:=l.flatMap (chl F)
theorem chl_in {F:List Pt}{p c:Pt}:c∈chl F p↔c∈F∧c≠.r∧par c=p:=by
 unfold chl
 rw [List.mem_filter]
 simp
theorem chs_in {F l:List Pt}{c:Pt}:c∈chs F l↔c∈F∧c≠.r∧par c∈l:=by
 unfold chs
 rw [List.mem_flatMap]
 constructor
 · rintro ⟨p, hp, hc⟩
   obtain ⟨h1,h2,rfl⟩:=chl_in.mp hc
   exact ⟨h1,h2,hp⟩
 · rintro ⟨h1, h2, h3⟩
   exact ⟨_,h3,chl_in.mpr ⟨h1,h2,rfl⟩⟩
noncomputable def fDo (F:List Pt) (l:List Pt) (f:Pt→Int) (i:Nat) (p:Pt):Int:=if p∈l.take i then -2 else if p∈chs F (l.take i) then 0 else f p
theorem do_loop {b:Bool}{w:World}{g:Array GenState}{d:Drawn}{os:OsState}{it fr so sd n2 ra tu:Addr}{k1 k2 k3 t1 t2 t3 t4 t5 t6:Tok}{a c:Int}{od:Array DictEntry}{n3 n4 n6 n:Nat}{F:List Pt}{f:Pt→Int}{L R0:List PT}{N:List Nd}
  (hF:F.Nodup) (hl:R0.length + F.length≤1000) (hL:(pts L).Nodup) (hLF:∀ p∈pts L,p∈F∧f p=-1) (hch:∀ p∈chs F (pts L),f p=1) (hN:NsF F f N) (hd:IsD prg (wv b w) od (kvN N)) :
  Ct prg (wv b w) 560 none (KK (wv b w).params) g d os (lpAt (wv b w).params 134 fr 2 [] (.ref it)) (doC (wv b w).params it fr so sd n2 ra tu k1 k2 k3 t1 t2 t3 t4 t5 t6 a c (L.map pv) od n3 n4 0 (R0.map pv) n6 [] n ++ ndsC N)
    (some fun u=>∃ N' R',u.X=ndsC N'∧kvN N'=kvN N∧NsF F (fDo F (pts L) f (pts L).length) N'∧u.V=(R0++R').map pv∧pts R'=chs F (pts L))
    fun u=>(.ok .next,[(n2,dO od n4),(so,soO sd),(sd,sdO (wv b w).params n2 t1 t2 t3 t4 (.ref ra) a (c + L.length) t5 u.n u.n2),(ra,lst u.V u.n3)]++u.X):=by
 refine ⟨fun B h t R KX hS H x => loopI (σ := Nat) (fun i => L.length - i) (fun i h => ∃ ex t6 n3 n6 n N' R', Hp B h (doC (wv b w).params it fr so sd n2 ra tu k1 k2 k3 t1 t2 t3 t4 t5 t6 a (c + i) (L.map pv) od n3 n4 i ((R0 ++ R').map pv) n6 ex n ++ ndsC N') ∧ ExO (wv b w).params ex ∧ kvN N' = kvN N ∧ NsF F (fDo F (pts L) f i) N' ∧ pts R' = chs F ((pts L).take i) ∧ i ≤ L.length)
   (fun i h t hi IH=>?_) (x:=0) ⟨[],t6,n3,n6,n,N,[],by simpa using H,.inl rfl,rfl,?h0,rfl,Nat.zero_le _⟩⟩
 case h0 =>
   have:fDo F (pts L) f 0=f:=by funext p;simp [fDo,chs]
   rw [this];exact hN
 obtain ⟨ex,t6,n3,n6,n,N',R',H,hex,hkv,hN',hR',hiL⟩:=hi
 rcases hx:L[i]? with _ | v
 · have hi : L.length ≤ i := List.getElem?_eq_none_iff.mp hx
   obtain rfl:i=L.length:=by omega
   refine do_end KX H (item_no hx) fun h' t' H=>x { xd0 with n:=t6,n2:=n3,n3:=n6,V:=_,t:=t',X:=_ } h' ⟨⟨N',R',rfl,hkv,?_,rfl,?_⟩,trivial⟩ H
   · rw [List.length_map];exact hN'
   · rw [hR',List.take_of_length_le (by rw [List.length_map];exact Nat.le_refl _)]
 · have hv := (List.getElem?_eq_some_iff.mp hx)
   have hlt:=hv.1
   have hpv:(pts L)[i]?=some v.1:=by rw [List.getElem?_map,hx];rfl
   obtain ⟨h1,h2⟩:=hLF v.1 (List.mem_of_getElem? hpv)
   have hvt : v.1 ∉ (pts L).take i := fun hm => by
     obtain ⟨j,hj,e⟩:=List.mem_iff_getElem.mp hm
     obtain ⟨a2,b2⟩:=List.getElem?_eq_some_iff.mp hpv
     rw [List.length_take] at hj
     rw [List.getElem_take] at e
     exact List.pairwise_iff_getElem.mp hL j i (by omega) a2 (by omega) (e.trans b2.symm)
   have hvc : v.1 ∉ chs F (pts L) := fun hm => by
     have:=hch _ hm
     rw [h2] at this
     cases this
   have sub : ∀ j p, p ∈ chs F ((pts L).take j) → p ∈ chs F (pts L) := fun j p hp => by
     obtain ⟨q1,q2,q3⟩:=chs_in.mp hp
     exact chs_in.mpr ⟨q1,q2,List.mem_of_mem_take q3⟩
   have etk:(pts L).take (i + 1)=(pts L).take i++[v.1]:=by rw [List.take_add_one,hpv];rfl
   obtain ⟨N1,y,N2,rfl,hy,hy2,hy3⟩:=hN'.find hF h1
   have hy2:y.np=-1:=by
     rw [hy2];unfold fDo
     rw [if_neg hvt,if_neg fun hm=>hvc (sub _ _ hm),h2]
   obtain ⟨Ly,hs,hLy⟩:=hN'.su y (by simp)
   rw [hy] at hLy
   have hlen:R'.length + Ly.length≤F.length:=by
     have e1:(chs F ((pts L).take i)++chl F v.1).length≤F.length:=by
       refine nodup_sub _ _ (List.nodup_append.mpr ⟨?_,hF.sublist List.filter_sublist,fun p hp q hq e=>?_⟩) fun p hp=>?_
       · have nd:∀ l:List Pt,l.Nodup→(chs F l).Nodup:=by
           intro l
           induction l with
           | nil => exact fun _ => List.nodup_nil
           | cons p l ih =>
             intro hn
             obtain ⟨n1,n2⟩:=List.nodup_cons.mp hn
             show (chl F p++chs F l).Nodup
             refine List.nodup_append.mpr ⟨hF.sublist List.filter_sublist,ih n2,fun q hq q' hq' e=>?_⟩
             obtain ⟨_,_,e1⟩:=chl_in.mp hq
             obtain ⟨_,_,e2⟩:=chs_in.mp hq'
             rw [← e,e1] at e2
             exact n1 e2
         exact nd _ (hL.sublist (List.take_sublist _ _))
       · obtain ⟨_, _, e1⟩ := chs_in.mp hp
         obtain ⟨_,_,e2⟩:=chl_in.mp hq
         rw [e,e2] at e1
         exact hvt e1
       · rcases List.mem_append.mp hp with hp | hp
         · exact (chs_in.mp hp).1
         · exact (chl_in.mp hp).1
     rw [List.length_append,← hR',← hLy,List.length_map,List.length_map] at e1
     exact e1
   have hLn:(pts Ly).Nodup:=by rw [hLy];exact hF.sublist List.filter_sublist
   have emap:chs F ((pts L).take (i + 1))=chs F ((pts L).take i)++chl F v.1:=by
     rw [etk];simp [chs]
   refine do_turn (rv':=(R0++(R'++Ly)).map pv) (Q:=fun X=>∃ N',X=ndsC N'∧kvN N'=kvN N∧NsF F (fDo F (pts L) f (i + 1)) N') KX hS (nd_out H) hy2 (item_of hx) hd (hkv ▸ hy3) hex ?_ fun h' t' ex t6 n3 n6 n X hex hX H=>?_
   · intro it2 k4 k5 k6 k7 n ex2 tp hex2
     have hN2:NsF F (fun p=>if p=v.1 then -2 else fDo F (pts L) f i p) (N1++{ y with np:=-2,tp:=tp } :: N2):=hN'.set (y':={ y with np:=-2,tp:=tp }) hF rfl rfl (if_pos hy) fun p hp=>if_neg (by rw [← hy];exact hp)
     have hkv2:kvN (N1++{ y with np:=-2,tp:=tp } :: N2)=kvN N:=(kvN_set (y:=y) (y':={ y with np:=-2,tp:=tp }) rfl rfl).trans hkv
     have ct:=di_loop (g:=g) (d:=d) (os:=os) (it:=it2) (fr:=fr) (so:=so) (sd:=sd) (n2:=n2) (ra:=ra) (tu:=tu) (ni:=y.ni) (k1:=k1) (k2:=k2) (k3:=k3) (k4:=k4) (k5:=k5) (k6:=k6) (k7:=k7) (t1:=t1) (t2:=t2) (t3:=t3) (t4:=t4) (t5:=t5) (t6:=t6) (nv:=pv v) (a:=a) (c:=c + i) (od:=od) (n3:=n3) (n4:=n4) (n6:=n6) (n:=n) (R0:=R0++R') (Ly:=Ly) (y:={ y with np:=-2,tp:=tp }) hF (by rw [List.length_append];omega) (by simp) hs hLn (fun p hp=>?_) hN2 (hkv2 ▸ hd) hex2
     · rw [List.append_assoc] at ct
       refine ⟨fun B h t R KX hS H x=>(ct.perm (List.Perm.append_left _ (nds_perm N1 { y with np:=-2,tp:=tp } N2).symm)).ok B h t R KX hS H fun u h' hu H=>x u h' ⟨⟨hu.1.1,?_⟩,trivial⟩ H⟩
       obtain ⟨N',e1,e2,e3⟩:=hu.1.2
       refine ⟨N',e1,e2.trans hkv2,?_⟩
       have ef:(fun p=>if p∈pts Ly then (0:Int) else if p=v.1 then -2 else fDo F (pts L) f i p)=fDo F (pts L) f (i + 1):=by
         funext p
         unfold fDo
         rw [emap,etk,hLy]
         by_cases h1:p∈chl F v.1
         · have : p ∉ (pts L).take i ++ [v.1] := fun hm => by
             have hc:p∈chs F (pts L):=sub (i + 1) p (by rw [emap];exact List.mem_append_right _ h1)
             have:=hch p hc
             rw [← etk] at hm
             rw [(hLF p (List.mem_of_mem_take hm)).2] at this
             cases this
           rw [if_pos h1,if_neg this,if_pos (List.mem_append_right _ h1)]
         · rw [if_neg h1]
           by_cases h2:p=v.1
           · rw [if_pos h2,if_pos (by rw [h2];simp)]
           · rw [if_neg h2]
             simp only [List.mem_append,List.mem_singleton,h1,h2,or_false]
       rw [← ef];exact e3
     · rw [hLy] at hp
       obtain ⟨q1,q2,q3⟩:=chl_in.mp hp
       have hc:p∈chs F (pts L):=sub (i + 1) p (by rw [emap];exact List.mem_append_right _ hp)
       have hpv':p≠v.1:=fun e=>hvc (e ▸ hc)
       refine ⟨q1,by rw [hy];exact hpv',?_⟩
       rw [if_neg hpv']
       unfold fDo
       rw [if_neg fun hm=>?_,if_neg fun hm=>?_]
       · exact hch p hc
       · have := (chs_in.mp hm).2.2
         rw [q3] at this
         exact hvt this
       · have := hch p hc
         rw [(hLF p (List.mem_of_mem_take hm)).2] at this
         cases this
   · obtain ⟨N', rfl, e2, e3⟩ := hX
     have ec:c + (i:Int) + 1=c + ((i + 1:Nat):Int):=by omega
     rw [ec] at H
     exact IH (i + 1) h' t' (by omega) ⟨ex,t6,n3,n6,n,N',R'++Ly,H,hex,e2,e3,by rw [pts,List.map_append,emap];exact congr (congrArg _ hR') hLy,hlt⟩
theorem don {b:Bool}{w:World}{g:Array GenState}{d:Drawn}{os:OsState}{so sd n2 ra:Addr}{t1 t2 t3 t4 t5 t6:Tok}{od:Array DictEntry}{n3 n4 n6:Nat}{a c:Int}{F:List Pt}{f:Pt→Int}{L R0:List PT}{N:List Nd}
  (hF:F.Nodup) (hl:R0.length + F.length≤1000) (hL:(pts L).Nodup) (hLF:∀ p∈pts L,p∈F∧f p=-1) (hch:∀ p∈chs F (pts L),f p=1) (hN:NsF F f N) (hd:IsD prg (wv b w) od (kvN N)) :
  Ct prg (wv b w) 540 none (KK (wv b w).params) g d os (.call (.ref 134) ⟨.ref so :: L.map pv, []⟩) ([(n2, dO od n4), (so, soO sd), (sd, sdO (wv b w).params n2 t1 t2 t3 t4 (.ref ra) a c t5 t6 n3), (ra, lst (R0.map pv) n6)] ++ ndsC N)
    (some fun u=>∃ N' R',u.X=ndsC N'∧kvN N'=kvN N∧NsF F (fDo F (pts L) f (pts L).length) N'∧u.V=(R0++R').map pv∧pts R'=chs F (pts L))
    fun u=>(.ok (.ret .none),[(n2,dO od n4),(so,soO sd),(sd,sdO (wv b w).params n2 t1 t2 t3 t4 (.ref ra) a (c + L.length) t5 u.n u.n2),(ra,lst u.V u.n3)]++u.X):=by
 refine ⟨fun B h t R KX hS H x=>?_⟩
 have hL40:L.length≤1000:=by
   have:=nodup_le hL
   rw [List.length_map] at this
   omega
 refine' enter_star KX H (by exact rfl) rfl rfl rfl rfl rfl (by exact rfl) rfl rfl rfl rfl (by simpa using hL40) fun r hp H=>?_
 (refine' run_T2 KX Rin.nil H 4000 ⟨[0,1,2,3],4⟩ rfl [.b 0,.c 0,.f 0,.c 0,.f 0,.k,.c 0,.c 3,.k,.k,.k,.e,.c 3,.k,.k,.k,.c 3,.c 3,.k,.c 4,.c 0,.c 3,.k,.k,.k,.e,.c 3,.k,.k,.k,.c 3,.c 3,.k,.c 4,.c 0,.f 0,.c 0,.c 1,.c 1,.e,.c 1,.q,.b 1,.c 0,.v 2 (fun al=>rC KX hS [0,1,0,0,0,0,0] 0 true (True) (fun _=>do_loop (it:=(al 1).n) (fr:=(al 0).n) (so:=so) (sd:=sd) (n2:=n2) (ra:=ra) (tu:=r) (k1:=t) (k2:=t + 1) (k3:=t + 1 + 1 + 1 + 1) (t1:=t1) (t2:=t2) (t3:=t3) (t4:=t4) (t5:=t5) (t6:=t6) (a:=a) (c:=c) (od:=od) (n3:=n3) (n4:=n4) (n6:=n6) (n:=0 + 1 + 1 + 1) (F:=F) (f:=f) (L:=L) (R0:=R0) (N:=N) hF hl hL hLF hch hN hd))] fun al=>end_R2 (r:=(.ok (.ret .none))) (cs:=([(n2,dO od n4),(so,soO sd),(sd,sdO (wv b w).params n2 t1 t2 t3 t4 (.ref ra) a (c + L.length) t5 _ _),(ra,lst _ _)]++_)) (by kernel_rfl) (by kernel_rfl) rfl (by kernel_rfl) ⟨(fun hF=>trivial),trivial⟩ fun hp t hF H=>?_)
 exact x { xd0 with n:=_,n2:=_,n3:=_,V:=_,X:=_,t:=_ } _ ⟨hF.1,trivial⟩ H
noncomputable def methO (f o:Addr):Obj:=⟨.type PySem.W.SZ.s6181755712446570794x6,none,.fields #[.ref f,.ref o],#[]⟩
theorem go_meth {prog:Program}{w:World}{A:Around}{R:Result→Shared→Prop}{h:Heap}{g:Array GenState}{d:Drawn}{t:Nat}{os:OsState}{m f o:Addr}{vs:List Value}(hm:h.get? m=some (methO f o))
   (x:codeAny (model prog w) A (.call (.ref f) ⟨.ref o :: vs,[]⟩) R ⟨h,g,d,t,os⟩):codeAny (model prog w) A (.call (.ref m) ⟨vs,[]⟩) R ⟨h,g,d,t,os⟩:=by
 refine' go_code ?_
 refine' go_load hm ?_
 refine' go_adv (n:=30) rfl ?_
 refine' go_again ?_ x
 rfl
structure Row where
 a:Addr
 L:List PT
 n:Nat
noncomputable def rowC (r:Row):Addr×Obj:=(r.a,lst (r.L.map pv) r.n)
noncomputable def rowsC (rows:List Row):List (Addr×Obj):=rows.map rowC
noncomputable def refsC (rows:List Row):List Value:=rows.map fun r=>.ref r.a
theorem rel_ok {M:Model}{A:Around}{ops:List Value}{v:Value}{s:Shared}{Q:Value→Shared→Prop}{E:Value→Shared→Prop}(h:Q v s):wpAny M A (PySem.W.R.bindR (ZFast.zw16427652380498605876 ops [v]) fun _=>.pure v) Q E s:=by
 rw [← ZFast.ze16427652380498605876,← PySem.W.R.bindR_eq]
 exact wpAny_bind (wpAny_release (wpAny_pure h))
noncomputable def NdX (kvs:List (Pt×Value)) (F:List Pt) (f:Pt→Int) (X:List (Addr×Obj)):Prop:=∃ N,X=ndsC N∧kvN N=kvs∧NsF F f N
theorem grX {b:Bool}{w:World}{g:Array GenState}{d:Drawn}{os:OsState}{so sd n2 ra:Addr}{t1 t2 t3 t4 t5 t6:Tok}{od:Array DictEntry}{n3 n4 n6:Nat}{a c:Int}{kvs:List (Pt×Value)}{F:List Pt}{f:Pt→Int}{L:List PT}{X:List (Addr×Obj)}(hF:F.Nodup) (hL:∀ p∈pts L,p∈F) (hl:L.length≤1000) (hX:NdX kvs F f X) (hd:IsD prg (wv b w) od kvs) :
  Ct prg (wv b w) 540 none (KK (wv b w).params) g d os (.call (.ref 113) ⟨[.ref so], []⟩) ([(n2, dO od n4), (so, soO sd), (sd, sdO (wv b w).params n2 t1 t2 t3 t4 (.ref ra) a c t5 t6 n3), (ra, lst (L.map pv) n6)] ++ X)
    (some fun u=>NdX kvs F (fun p=>if p∈pts L then -1 else f p) u.X)
    fun u=>(.ok (.ret (.ref u.n)),[(u.n,tupO (L.map pv) 0),(n2,dO od n4),(so,soO sd),(sd,sdO (wv b w).params n2 t1 t2 t3 t4 (.ref ra) (a + L.length) c u.n2 t6 u.n3),(ra,lst [] u.n4)]++u.X):=by
 obtain ⟨N,rfl,rfl,hN⟩:=hX
 exact gr hF hL hl hN hd
theorem donX {b:Bool}{w:World}{g:Array GenState}{d:Drawn}{os:OsState}{so sd n2 ra:Addr}{t1 t2 t3 t4 t5 t6:Tok}{od:Array DictEntry}{n3 n4 n6:Nat}{a c:Int}{kvs:List (Pt×Value)}{F:List Pt}{f:Pt→Int}{L R0:List PT}{X:List (Addr×Obj)}
  (hF:F.Nodup) (hl:R0.length + F.length≤1000) (hL:(pts L).Nodup) (hLF:∀ p∈pts L,p∈F∧f p=-1) (hch:∀ p∈chs F (pts L),f p=1) (hX:NdX kvs F f X) (hd:IsD prg (wv b w) od kvs) :
  Ct prg (wv b w) 540 none (KK (wv b w).params) g d os (.call (.ref 134) ⟨.ref so :: L.map pv, []⟩) ([(n2, dO od n4), (so, soO sd), (sd, sdO (wv b w).params n2 t1 t2 t3 t4 (.ref ra) a c t5 t6 n3), (ra, lst (R0.map pv) n6)] ++ X)
    (some fun u=>NdX kvs F (fDo F (pts L) f (pts L).length) u.X∧∃ R',u.V=(R0++R').map pv∧pts R'=chs F (pts L))
    fun u=>(.ok (.ret .none),[(n2,dO od n4),(so,soO sd),(sd,sdO (wv b w).params n2 t1 t2 t3 t4 (.ref ra) a (c + L.length) t5 u.n u.n2),(ra,lst u.V u.n3)]++u.X):=by
 obtain ⟨N,rfl,rfl,hN⟩:=hX
 refine ⟨fun B h t R KX hS H x=>(don hF hl hL hLF hch hN hd).ok B h t R KX hS H fun u h' hu H=>x u h' ⟨?_,trivial⟩ H⟩
 obtain ⟨N',R',h1,h2,h3,h4,h5⟩:=hu.1
 exact ⟨⟨N',h1,h2,h3⟩,R',h4,h5⟩
theorem donM {b:Bool}{w:World}{g:Array GenState}{d:Drawn}{os:OsState}{m so sd n2 ra:Addr}{t1 t2 t3 t4 t5 t6:Tok}{od:Array DictEntry}{n3 n4 n6:Nat}{a c:Int}{kvs:List (Pt×Value)}{F:List Pt}{f:Pt→Int}{L:List PT}{X:List (Addr×Obj)}
  (hF:F.Nodup) (hl:([]:List PT).length + F.length≤1000) (hL:(pts L).Nodup) (hLF:∀ p∈pts L,p∈F∧f p=-1) (hch:∀ p∈chs F (pts L),f p=1) (hX:NdX kvs F f X) (hd:IsD prg (wv b w) od kvs) :
  Ct prg (wv b w) 540 none (KK (wv b w).params) g d os (.call (.ref m) ⟨L.map pv, []⟩) ([(m, methO 134 so), (n2, dO od n4), (so, soO sd), (sd, sdO (wv b w).params n2 t1 t2 t3 t4 (.ref ra) a c t5 t6 n3), (ra, lst [] n6)] ++ X)
    (some fun u=>NdX kvs F (fDo F (pts L) f (pts L).length) u.X∧∃ R':List PT,u.V=R'.map pv∧pts R'=chs F (pts L))
    fun u=>(.ok (.ret .none),[(n2,dO od n4),(so,soO sd),(sd,sdO (wv b w).params n2 t1 t2 t3 t4 (.ref ra) a (c + L.length) t5 u.n u.n2),(ra,lst u.V u.n3)]++u.X) :=
 ⟨fun B h t R KX hS H x=>go_meth (H.own _ (.head _)) ((donX (R0:=[]) hF hl hL hLF hch hX hd).ok B h t R KX hS (H.sub (List.sublist_cons_self _ _)) x)⟩
noncomputable def rwC (P:Params) (lc so sd n2 ra ro q:Addr) (k1 k2 k3 kp t1 t2 t3 t4:Tok) (vp:Value) (od:Array DictEntry) (n4:Nat) (a:Int) (t5 t6:Tok) (n3:Nat) (vs:List Value) (n6:Nat) (rv:List Value) (n5:Nat) (ex:List DictEntry) (n:Nat) (sl:Array (Option Value)):List (Addr×Obj) :=
 [(lc,locS (ent P "folders" k1 (.ref q) :: ent P "rounds" k2 (.ref ro) :: ent P "sorter" k3 (.ref so) :: ent P "path" kp vp :: ex) n sl),(so,soO sd),(sd,sdO P n2 t1 t2 t3 t4 (.ref ra) a a t5 t6 n3),(n2,dO od n4),(ra,lst vs n6),(ro,lst rv n5)]
theorem rw_turn {b:Bool}{w:World}{R:Result→Shared→Prop}{h:Heap}{g:Array GenState}{d:Drawn}{t:Nat}{os:OsState}{B:Addr→Option Obj}{lc so sd n2 ra ro q:Addr}{k1 k2 k3 kp t1 t2 t3 t4:Tok}{vp:Value}{od:Array DictEntry}{n4:Nat}{a:Int}{t5 t6 n3:Nat}{n6 n5 n:Nat}{sl:Array (Option Value)}{rv:List Value}{ex:List DictEntry}{kvs:List (Pt×Value)}{F:List Pt}{f:Pt→Int}{L:List PT}{X Y:List (Addr×Obj)}
  (KX:Kin (KK (wv b w).params) B) (hS:(B sysModules).isSome=true) (H:Hp B h (rwC (wv b w).params lc so sd n2 ra ro q k1 k2 k3 kp t1 t2 t3 t4 vp od n4 a t5 t6 n3 (L.map pv) n6 rv n5 ex n sl++(X++Y)))
  (hFn:F.Nodup) (hL:(pts L).Nodup) (hL0:L≠[]) (hrv:rv.length≤1000) (hLF:∀ p∈pts L,p∈F) (hch:∀ p∈chs F (pts L),p ∉ pts L∧f p=1) (hX:NdX kvs F f X) (hd:IsD prg (wv b w) od kvs) (hex:ex=[]∨∃ tk v,ex=[ent (wv b w).params "ready" tk v])
  (IH : ∀ h' t' r ts n7 vs X' n3 n5 n6 n tk v t5 t6, NdX kvs F (fDo F (pts L) (fun p => if p ∈ pts L then -1 else f p) (pts L).length) X' → (∃ R' : List PT, vs = R'.map pv ∧ pts R' = chs F (pts L)) →
    Hp B h' (rwC (wv b w).params lc so sd n2 ra ro q k1 k2 k3 kp t1 t2 t3 t4 vp od n4 (a + L.length) t5 t6 n3 vs n6 (rv++[.ref r]) n5 [ent (wv b w).params "ready" tk v] n sl++([(r,lst ((tag (srt (pts L)) ts).map pv) n7)]++(X'++Y))) →
    codeAny (model prg (wv b w)) (AF 520 none) (lpAt (wv b w).params 275 lc 3 [] .none) R ⟨h',g,d,t',os⟩) :
  codeAny (model prg (wv b w)) (AF 520 none) (lpAt (wv b w).params 275 lc 3 [] .none) R ⟨h,g,d,t,os⟩:=by
 refine' go_code ?_
 have hL40:L.length≤40:=by
   have:=nodup_le hL
   rw [List.length_map] at this
   exact this
 have hF40:=nodup_le hFn
 have hl1:L.length≤1000:=by omega
 have hl2:(L.map pv).length≤1000:=by rw [List.length_map];exact hl1
 have hl3:L.length < 64:=by omega
 have hl4:([]:List PT).length + F.length≤1000:=by show 0 + _≤_;omega
 have hne:(!(L.map pv).isEmpty)=true:=by cases L with | nil=>exact absurd rfl hL0 | cons=>rfl
 have hLF2:∀ p∈pts L,p∈F∧(if p∈pts L then (-1:Int) else f p)=-1:=fun p hp=>⟨hLF p hp,if_pos hp⟩
 have hch2:∀ p∈chs F (pts L),(if p∈pts L then (-1:Int) else f p)=1:=fun p hp=>by rw [if_neg (hch p hp).1];exact (hch p hp).2
 rcases hex with rfl | ⟨tk0,v0,rfl⟩
 · (refine' run_goK2 KX Rin.nil H 4000 ⟨[0, 1, 2, 3, 4, 5, 6, 7, 8, 9, 10], 11⟩ rfl [.c 0, .c 1, .k, .k, .k, .c 1, .k, .k, .k, .c 1, .k, .k, .k, .k, .c 1, .c 2, .k, .n, .k, .b 0, .c 0, .f 0, .k, .c 0, .c 2, .k, .k, .k, .e, .c 2, .k, .k, .k, .c 2, .c 2, .k, .c 3, .c 0, .c 2, .k, .k, .k, .e, .c 2, .k, .k, .k, .c 2, .c 2, .k, .c 3, .c 0, .c 2, .k, .k, .k, .e, .c 2, .k, .k, .k, .c 2, .c 2, .k, .c 3, .v 1 (fun al => rIlt (false)), .k, .k, .c 0, .c 2, .k, .k, .k, .e, .c 2, .k, .k, .k, .c 2, .c 2, .k, .c 3, .v 2 (fun al => rBool Rin.nil (.c 5) (true)), .c 1, .c 2, .k, .k, .k, .c 2, .k, .k, .k, .c 2, .k, .k, .k, .k, .c 2, .c 3, .k, .v 3 (fun al => rC KX hS [4, 2, 2, 2] 3 true (True) (fun _ => (grX (so := so) (sd := sd) (n2 := n2) (ra := ra) (t1 := t1) (t2 := t2) (t3 := t3) (t4 := t4) (t5 := t5) (t6 := t6) (od := od) (n3 := n3) (n4 := n4) (n6 := n6) (a := a) (c := a) (kvs := kvs) (F := F) (f := f) (L := L) (X := X) hFn hLF hl1 hX hd).frame Y)), .c 1, .c 1, .c 1, .c 2, .c 2, .c 2, .c 2, .k, .k, .c 1, .v 4 (fun al => rSortedT Rin.nil (.c 3) (L)), .v 5 (fun al => rAppend 3), .c 2, .c 6, .k, .k, .k, .e, .c 6, .k, .k, .k, .k, .k, .k, .c 6, .c 6, .k, .c 7, .k, .k, .k, .e, .k, .q, .b 6, .c 3, .c 5, .v 7 (fun al => rColl Rin.nil (.c 5)), .c 0, .c 1, .k] (fun _ => rfl) (fun _ => ?e2) (fun _ => by kernel_rfl) (fun al => ⟨(fun hF => hl2), (fun hF => hrv), (fun hF => hl3), (fun hF => trivial), (fun hF => ⟨hl2, hne⟩), (fun hF => decide_eq_false (Int.lt_irrefl a)), trivial⟩) ?_; (case e2 => kernel_rfl); (try clear H); (try clear hp); intro al hp hF H)
   refine' go_rule (rC KX hS [1,6,6,6,6] 6 true (NdX kvs F (fun p=>if p∈pts L then -1 else f p) (al 3).X) (fun hp=>(donM (m:=(al 6).n) (so:=so) (sd:=sd) (n2:=n2) (ra:=ra) (t1:=t1) (t2:=t2) (t3:=t3) (t4:=t4) (t5:=(al 3).n2) (t6:=t6) (od:=od) (n3:=(al 3).n3) (n4:=n4) (n6:=(al 3).n4) (a:=a + ↑L.length) (c:=a) (kvs:=kvs) (F:=F) (L:=L) (X:=(al 3).X) (f:=fun p=>if p∈pts L then -1 else f p) hFn hl4 hL hLF2 hch2 hp hd).frame Y)) rfl rfl hF.1 H fun y h' hf H=>?_
   refine' go_cx (γ:=Value) (v:=.none) (fun s'=>s'=⟨h',g,d,y.t,os⟩) ?cx ?h0 ?hx
   (case cx => (
     have rb:=fun γ m0 m1 α β m m' f=>@Cx.bind γ m0 m1 α β m m' f
     have ro:=fun γ m0 m1 α m m' f=>@Cx.onRaise γ m0 m1 α m m' f
     unfold PySem.W.R.bindR at rb
     unfold PySem.W.R.onRaiseR at ro
     apply ro
     apply rb
     apply rb
     apply rb
     apply rb
     exact Cx.hole))
   (case h0=>exact rel_ok ⟨rfl,rfl⟩)
   (case hx => (
     intro s' hs'
     subst hs'
     generalize h'=hp at H ⊢
     generalize al=al0 at *
     (refine' run_T KX Rin.nil H 4000 ⟨[3,7,8,6,9,4,1],10⟩ rfl [] fun al=>end_A (c:=(lpAt (wv b w).params 275 lc 3 [] .none)) (cs:=(rwC (wv b w).params lc so sd n2 ra ro q k1 k2 k3 kp t1 t2 t3 t4 vp od n4 (a + L.length) _ _ _ y.V _ (rv++[.ref _]) _ [ent (wv b w).params "ready" _ _] _ sl++([(_,lst ((tag (srt (pts L)) _).map pv) _)]++(y.X++Y)))) (by kernel_rfl) rfl  trivial fun hp t hF H=>?_)
     exact IH _ _ _ _ _ _ _ _ _ _ _ _ _ _ _ hf.1.1 hf.1.2 H))
 · (refine' run_goK2 KX Rin.nil H 4000 ⟨[0, 1, 2, 3, 4, 5, 6, 7, 8, 9, 10], 11⟩ rfl [.c 0, .c 1, .k, .k, .k, .c 1, .k, .k, .k, .c 1, .k, .k, .k, .k, .c 1, .c 2, .k, .n, .k, .b 0, .c 0, .f 0, .k, .c 0, .c 2, .k, .k, .k, .e, .c 2, .k, .k, .k, .c 2, .c 2, .k, .c 3, .c 0, .c 2, .k, .k, .k, .e, .c 2, .k, .k, .k, .c 2, .c 2, .k, .c 3, .c 0, .c 2, .k, .k, .k, .e, .c 2, .k, .k, .k, .c 2, .c 2, .k, .c 3, .v 1 (fun al => rIlt (false)), .k, .k, .c 0, .c 2, .k, .k, .k, .e, .c 2, .k, .k, .k, .c 2, .c 2, .k, .c 3, .v 2 (fun al => rBool Rin.nil (.c 5) (true)), .c 1, .c 2, .k, .k, .k, .c 2, .k, .k, .k, .c 2, .k, .k, .k, .k, .c 2, .c 3, .k, .v 3 (fun al => rC KX hS [4, 2, 2, 2] 3 true (True) (fun _ => (grX (so := so) (sd := sd) (n2 := n2) (ra := ra) (t1 := t1) (t2 := t2) (t3 := t3) (t4 := t4) (t5 := t5) (t6 := t6) (od := od) (n3 := n3) (n4 := n4) (n6 := n6) (a := a) (c := a) (kvs := kvs) (F := F) (f := f) (L := L) (X := X) hFn hLF hl1 hX hd).frame Y)), .c 1, .c 1, .c 1, .c 2, .c 2, .c 2, .c 2, .k, .k, .c 1, .v 4 (fun al => rSortedT Rin.nil (.c 3) (L)), .v 5 (fun al => rAppend 3), .c 2, .c 6, .k, .k, .k, .e, .c 6, .k, .k, .k, .k, .k, .k, .c 6, .c 6, .k, .c 7, .k, .k, .k, .e, .k, .q, .b 6, .c 3, .c 5, .v 7 (fun al => rColl Rin.nil (.c 5)), .c 0, .c 1, .k] (fun _ => rfl) (fun _ => ?e2) (fun _ => by kernel_rfl) (fun al => ⟨(fun hF => hl2), (fun hF => hrv), (fun hF => hl3), (fun hF => trivial), (fun hF => ⟨hl2, hne⟩), (fun hF => decide_eq_false (Int.lt_irrefl a)), trivial⟩) ?_; (case e2 => kernel_rfl); (try clear H); (try clear hp); intro al hp hF H)
   refine' go_rule (rC KX hS [1,6,6,6,6] 6 true (NdX kvs F (fun p=>if p∈pts L then -1 else f p) (al 3).X) (fun hp=>(donM (m:=(al 6).n) (so:=so) (sd:=sd) (n2:=n2) (ra:=ra) (t1:=t1) (t2:=t2) (t3:=t3) (t4:=t4) (t5:=(al 3).n2) (t6:=t6) (od:=od) (n3:=(al 3).n3) (n4:=n4) (n6:=(al 3).n4) (a:=a + ↑L.length) (c:=a) (kvs:=kvs) (F:=F) (L:=L) (X:=(al 3).X) (f:=fun p=>if p∈pts L then -1 else f p) hFn hl4 hL hLF2 hch2 hp hd).frame Y)) rfl rfl hF.1 H fun y h' hf H=>?_
   refine' go_cx (γ:=Value) (v:=.none) (fun s'=>s'=⟨h',g,d,y.t,os⟩) ?cx ?h0 ?hx
   (case cx => (
     have rb:=fun γ m0 m1 α β m m' f=>@Cx.bind γ m0 m1 α β m m' f
     have ro:=fun γ m0 m1 α m m' f=>@Cx.onRaise γ m0 m1 α m m' f
     unfold PySem.W.R.bindR at rb
     unfold PySem.W.R.onRaiseR at ro
     apply ro
     apply rb
     apply rb
     apply rb
     apply rb
     exact Cx.hole))
   (case h0=>exact rel_ok ⟨rfl,rfl⟩)
   (case hx => (
     intro s' hs'
     subst hs'
     generalize h'=hp at H ⊢
     generalize al=al0 at *
     (refine' run_T KX Rin.nil H 4000 ⟨[3,7,8,6,9,4,1],10⟩ rfl [] fun al=>end_A (c:=(lpAt (wv b w).params 275 lc 3 [] .none)) (cs:=(rwC (wv b w).params lc so sd n2 ra ro q k1 k2 k3 kp t1 t2 t3 t4 vp od n4 (a + L.length) _ _ _ y.V _ (rv++[.ref _]) _ [ent (wv b w).params "ready" _ _] _ sl++([(_,lst ((tag (srt (pts L)) _).map pv) _)]++(y.X++Y)))) (by kernel_rfl) rfl  trivial fun hp t hF H=>?_)
     exact IH _ _ _ _ _ _ _ _ _ _ _ _ _ _ _ hf.1.1 hf.1.2 H))
theorem rw_end {b:Bool}{w:World}{R:Result→Shared→Prop}{h:Heap}{g:Array GenState}{d:Drawn}{t:Nat}{os:OsState}{B:Addr→Option Obj}{lc so sd n2 ra ro q:Addr}{k1 k2 k3 kp t1 t2 t3 t4:Tok}{vp:Value}{od:Array DictEntry}{n4:Nat}{a:Int}{t5 t6 n3:Nat}{n6 n5 n:Nat}{sl:Array (Option Value)}{rv:List Value}{ex:List DictEntry}{X:List (Addr×Obj)}
  (KX:Kin (KK (wv b w).params) B) (H:Hp B h (rwC (wv b w).params lc so sd n2 ra ro q k1 k2 k3 kp t1 t2 t3 t4 vp od n4 a t5 t6 n3 [] n6 rv n5 ex n sl++X))
  (x:∀ h' t',Hp B h' ([(lc,locS (ent (wv b w).params "folders" k1 (.ref q) :: ent (wv b w).params "rounds" k2 (.ref ro) :: ent (wv b w).params "sorter" k3 (.ref so) :: ent (wv b w).params "path" kp vp :: ex) n sl),(ro,lst rv n5)]++X)→R (.ok .next) ⟨h',g,d,t',os⟩) :
  codeAny (model prg (wv b w)) (AF 520 none) (lpAt (wv b w).params 275 lc 3 [] .none) R ⟨h,g,d,t,os⟩:=by
 refine' go_code ?_
 (refine' run_T2 KX Rin.nil H 4000 ⟨[1,6],7⟩ rfl [.c 0,.c 1,.k,.k,.k,.c 1,.k,.k,.k,.c 1,.k,.k,.k,.k,.c 1,.c 2,.k,.n,.k,.b 0,.c 0,.f 0,.k,.c 0,.c 2,.k,.k,.k,.e,.c 2,.k,.k,.k,.c 2,.c 2,.k,.c 3,.c 0,.c 2,.k,.k,.k,.e,.c 2,.k,.k,.k,.c 2,.c 2,.k,.c 3,.c 0,.c 2,.k,.k,.k,.e,.c 2,.k,.k,.k,.c 2,.c 2,.k,.c 3,.v 1 (fun al=>rIlt (false)),.k,.k,.c 0,.c 2,.k,.k,.k,.e,.c 2,.k,.k,.k,.c 2,.c 2,.k,.c 3,.v 2 (fun al=>rBool Rin.nil (.c 5) (false))] fun al=>end_R2 (r:=(.ok .next)) (cs:=([(lc,locS (ent (wv b w).params "folders" k1 (.ref q) :: ent (wv b w).params "rounds" k2 (.ref ro) :: ent (wv b w).params "sorter" k3 (.ref so) :: ent (wv b w).params "path" kp vp :: ex) n sl),(ro,lst rv n5)]++X)) (by kernel_rfl) (by kernel_rfl) rfl (by kernel_rfl) ⟨(fun hF=>⟨Nat.zero_le _,rfl⟩),(fun hF=>decide_eq_false (Int.lt_irrefl a)),trivial⟩ fun hp t hF H=>?_)
 exact x _ _ H
noncomputable def lev (F:List Pt):Nat→List Pt
 | 0 => [.r]
 | k + 1 => chs F (lev F k)
theorem chs_nd {F:List Pt}(hF:F.Nodup):∀ {l:List Pt},l.Nodup→(chs F l).Nodup:=by
 intro l
 induction l with
 | nil => exact fun _ => List.nodup_nil
 | cons p l ih =>
   intro hn
   obtain ⟨n1,n2⟩:=List.nodup_cons.mp hn
   show (chl F p++chs F l).Nodup
   refine List.nodup_append.mpr ⟨hF.sublist List.filter_sublist,ih n2,fun q hq q' hq' e=>?_⟩
   obtain ⟨_,_,e1⟩:=chl_in.mp hq
   obtain ⟨_,_,e2⟩:=chs_in.mp hq'
   rw [← e,e1] at e2
   exact n1 e2
theorem lev_nd {F:List Pt}(hF:F.Nodup):∀ k,(lev F k).Nodup
 | 0 => by simp [lev]
 | k + 1 => chs_nd hF (lev_nd hF k)
theorem dep_par {p:Pt}(h:p≠.r):dep p=dep (par p) + 1:=by
 cases p <;> first | exact absurd rfl h | rfl
theorem FolOk.par_in {F:List Pt}(k:FolOk F){p:Pt}(hp:p∈F) (hr:p≠.r):par p∈F:=by
 obtain ⟨i,hi,e⟩:=List.mem_iff_getElem.mp hp
 exact List.mem_of_mem_take (k.pa i p (List.getElem?_eq_some_iff.mpr ⟨hi,e⟩) hr)
theorem lev_in {F:List Pt}(k:FolOk F):∀ (j:Nat) (p:Pt),p∈lev F j↔p∈F∧dep p=j
 | 0, p => by
   show p∈[Pt.r]↔_
   rw [List.mem_singleton]
   constructor
   · rintro rfl
     exact ⟨List.mem_of_getElem? k.rt,rfl⟩
   · rintro ⟨_, h⟩
     cases p <;> first | rfl | cases h
 | j + 1, p => by
   show p∈chs F (lev F j)↔_
   rw [chs_in]
   constructor
   · rintro ⟨h1, h2, h3⟩
     exact ⟨h1,by rw [dep_par h2,((lev_in k j _).mp h3).2]⟩
   · rintro ⟨h1, h2⟩
     have hr:p≠.r:=fun e=>by rw [e] at h2;cases h2
     have:=dep_par hr
     exact ⟨h1,hr,(lev_in k j _).mpr ⟨k.par_in h1 hr,by omega⟩⟩
theorem lev_end {F:List Pt}(k:FolOk F):lev F 4=[]:=by
 refine List.eq_nil_iff_forall_not_mem.mpr fun p hp=>?_
 have:=((lev_in k 4 p).mp hp).2
 cases p <;> simp [dep] at this
noncomputable def fLev (k:Nat) (p:Pt):Int:=if dep p < k then -2 else if dep p=k then 0 else 1
theorem NdX.congr {kvs:List (Pt×Value)}{F:List Pt}{f f':Pt→Int}{X:List (Addr×Obj)}(x:NdX kvs F f X) (h:∀ p∈F,f p=f' p):NdX kvs F f' X:=by
 obtain ⟨N,e1,e2,k⟩:=x
 exact ⟨N,e1,e2,k.ps,fun y hy=>(k.np y hy).trans (h _ (k.ps ▸ List.mem_map_of_mem hy)),k.su⟩
structure RwP (F : List Pt) (rows : List Row) : Prop where
 ex:∃ K,K≤4∧lev F K=[]∧rows.map (fun r=>pts r.L)=(List.range K).map fun j=>srt (lev F j)
 ne:∀ r∈rows,r.L≠[]
theorem rw_ne {rows:List Row}{L:List PT}{r:Addr}{ts:List Nat}{n:Nat}(h:∀ r∈rows,r.L≠[]) (h0:L≠[]):∀ x∈rows++[⟨r,tag (srt (pts L)) ts,n⟩],x.L≠[]:=by
 intro x hx e
 rcases List.mem_append.mp hx with hx | hx
 · exact h x hx e
 · rw [List.mem_singleton.mp hx] at e
   have h1:=congrArg List.length e
   have h2:=congrArg List.length (pts_tag (srt (pts L)) ts)
   have h3:=(srt_perm (pts L)).length_eq
   rw [List.length_map] at h2 h3
   exact h0 (List.eq_nil_of_length_eq_zero (by rw [← h3,← h2];exact h1))
theorem rw_loop {b:Bool}{w:World}{g:Array GenState}{d:Drawn}{os:OsState}{lc so sd n2 ra ro q:Addr}{k1 k2 k3 kp t1 t2 t3 t4:Tok}{vp:Value}{od:Array DictEntry}{n4:Nat}{t5 t6 n3:Nat}{n6 n5 n:Nat}{sl:Array (Option Value)}{kvs:List (Pt×Value)}{F:List Pt}{L:List PT}{X:List (Addr×Obj)}
  (hF:FolOk F) (hL:pts L=lev F 0) (hX:NdX kvs F (fLev 0) X) (hd:IsD prg (wv b w) od kvs) :
  Ct prg (wv b w) 520 none (KK (wv b w).params) g d os (lpAt (wv b w).params 275 lc 3 [] .none) (rwC (wv b w).params lc so sd n2 ra ro q k1 k2 k3 kp t1 t2 t3 t4 vp od n4 0 t5 t6 n3 (L.map pv) n6 [] n5 [] n sl ++ X)
    (some fun u=>∃ rows,u.X=rowsC rows∧u.V=refsC rows∧RwP F rows)
    fun u=>(.ok .next,[(lc,locS (ent (wv b w).params "folders" k1 (.ref q) :: ent (wv b w).params "rounds" k2 (.ref ro) :: ent (wv b w).params "sorter" k3 (.ref so) :: ent (wv b w).params "path" kp vp :: u.T.toList) u.n sl),(ro,lst u.V u.n2)]++u.X):=by
 refine ⟨fun B h t R KX hS H x => loopI (σ := Nat) (fun k => 5 - k) (fun k h => ∃ a t5 t6 n3 n6 n5 ex n X L rows, Hp B h (rwC (wv b w).params lc so sd n2 ra ro q k1 k2 k3 kp t1 t2 t3 t4 vp od n4 a t5 t6 n3 (L.map pv) n6 (refsC rows) n5 ex n sl ++ (X ++ rowsC rows)) ∧ (ex = [] ∨ ∃ tk v, ex = [ent (wv b w).params "ready" tk v]) ∧ NdX kvs F (fLev k) X ∧ pts L = lev F k ∧ k ≤ 4 ∧ rows.map (fun r => pts r.L) = ((List.range k).map fun j => srt (lev F j)) ∧ ∀ r ∈ rows, r.L ≠ [])
   (fun k h t hi IH=>?_) (x:=0) ⟨0,t5,t6,n3,n6,n5,[],n,X,L,[],by simpa [rowsC,refsC] using H,.inl rfl,hX,hL,Nat.zero_le _,rfl,fun _ h=>absurd h List.not_mem_nil⟩⟩
 obtain ⟨a,t5,t6,n3,n6,n5,ex,n,X,L,rows,H,hex,hX,hL,hk,hrows,hne⟩:=hi
 by_cases h0:L=[]
 · subst h0
   refine rw_end KX H fun h' t' H=>x { xd0 with n:=n,n2:=n5,T:=ex.toArray,V:=refsC rows,X:=rowsC rows,t:=t' } h' ⟨⟨rows,rfl,rfl,⟨k,hk,hL.symm,hrows⟩,hne⟩,trivial⟩ (H.sub ?_)
   exact List.Sublist.append_left (List.sublist_append_right _ _) _
 · have hk4:k < 4:=by
     rcases Nat.lt_or_eq_of_le hk with h | h
     · exact h
     · rw [h, lev_end hF] at hL
       exact absurd (List.map_eq_nil_iff.mp hL) h0
   have hrl:(refsC rows).length≤1000:=by
     have:=congrArg List.length hrows
     rw [List.length_map,List.length_map,List.length_range] at this
     unfold refsC
     rw [List.length_map];omega
   have hm:=lev_in hF k
   have hm1:=lev_in hF (k + 1)
   refine rw_turn KX hS H hF.nd (hL ▸ lev_nd hF.nd k) h0 hrl (fun p hp=>((hm p).mp (hL ▸ hp)).1) (fun p hp=>?_) hX hd hex fun h' t' r ts n7 vs X' n3 n5 n6 n tk v t5 t6 hX' hvs H=>?_
   · rw [hL] at hp ⊢
     have h1:=(hm1 p).mp hp
     refine ⟨fun hp'=>?_,?_⟩
     · have := ((hm p).mp hp').2
       omega
     · unfold fLev
       rw [if_neg (by omega),if_neg (by omega)]
   · obtain ⟨R', rfl, hR'⟩ := hvs
     refine IH (k + 1) h' t' (by omega) ⟨a + L.length,t5,t6,n3,n6,n5,[ent (wv b w).params "ready" tk v],n,X',R',rows++[⟨r,tag (srt (pts L)) ts,n7⟩],?_,.inr ⟨_,_,rfl⟩,hX'.congr fun p hp=>?_,by rw [hR',hL];rfl,hk4,?_,rw_ne hne h0⟩
     · have e1 : refsC (rows ++ [⟨r, tag (srt (pts L)) ts, n7⟩]) = refsC rows ++ [.ref r] := List.map_append
       have e2:rowsC (rows++[⟨r,tag (srt (pts L)) ts,n7⟩])=rowsC rows++[(r,lst ((tag (srt (pts L)) ts).map pv) n7)]:=List.map_append
       rw [e1,e2]
       refine H.perm (List.Perm.append_left _ ?_)
       rw [← List.append_assoc]
       exact List.perm_append_comm
     · have i1 := hm p
       have i2:=hm1 p
       unfold fDo
       rw [List.take_length,hL]
       have e3:chs F (lev F k)=lev F (k + 1):=rfl
       rw [e3]
       by_cases q1:dep p=k
       · rw [if_pos (i1.mpr ⟨hp, q1⟩)]
         unfold fLev
         rw [if_pos (by omega)]
       · have n1 : p ∉ lev F k := fun h => q1 (i1.mp h).2
         rw [if_neg n1]
         by_cases q2:dep p=k + 1
         · rw [if_pos (i2.mpr ⟨hp, q2⟩)]
           unfold fLev
           rw [if_neg (by omega),if_pos q2]
         · rw [if_neg fun h => q2 (i2.mp h).2]
           show (if p∈lev F k then (-1:Int) else fLev k p)=_
           rw [if_neg n1]
           unfold fLev
           by_cases q3:dep p < k
           · rw [if_pos q3,if_pos (by omega)]
           · rw [if_neg q3,if_neg q1,if_neg (by omega),if_neg q2]
     · rw [List.map_append, hrows, List.range_succ, List.map_append]
       simp only [List.map_cons,List.map_nil,pts_tag,hL]
theorem cps_ne {p q:Pt}(h:p≠q):((sp p).cps.toList == (sp q).cps.toList)=false:=by
 refine beq_eq_false_iff_ne.mpr fun e=>h (sp_inj p q ?_)
 cases hp:sp p;cases hq:sp q
 rw [hp,hq] at e
 exact congrArg Str.mk (Array.toList_inj.mp e)
noncomputable def flC (P:Params) (it q lc so sd n2 ro:Addr) (k1 k2 k3 t1 t2 t3 t4 t5 t6:Tok) (vs:List Value) (nq n3:Nat) (i:Nat) (ex:List DictEntry) (n:Nat) (od:Array DictEntry) (n4:Nat):List (Addr×Obj) :=
 [(it,itL q i),(q,lst vs nq),(lc,locO (ent P "folders" k1 (.ref q) :: ent P "rounds" k2 (.ref ro) :: ent P "sorter" k3 (.ref so) :: ex) n),(so,soO sd),(sd,sdO P n2 t1 t2 t3 t4 .none 0 0 t5 t6 n3),(n2,dO od n4)]
theorem fl_turn0 {b:Bool}{w:World}{R:Result→Shared→Prop}{h:Heap}{g:Array GenState}{d:Drawn}{t:Nat}{os:OsState}{B:Addr→Option Obj}{it q lc so sd n2 ro:Addr}{k1 k2 k3 t1 t2 t3 t4 t5 t6:Tok}{vs:List Value}{nq n3 n n4:Nat}{od:Array DictEntry}{tl:List (Addr×Obj)}{v:PT}
  (KX:Kin (KK (wv b w).params) B) (hS:(B sysModules).isSome=true) (H:Hp B h (flC (wv b w).params it q lc so sd n2 ro k1 k2 k3 t1 t2 t3 t4 t5 t6 vs nq n3 0 [] n od n4++tl))
  (hv:vs[0]?=some (pv v)) (hr:v.1=.r) (hd:IsD prg (wv b w) od [])
  (IH : ∀ h' t' tk t5 t6 n3 n od n4 (y : Nd), y.p = v.1 → y.np = 0 → y.su = [] → IsD prg (wv b w) od [(v.1, .ref y.ni)] → Hp B h' (flC (wv b w).params it q lc so sd n2 ro k1 k2 k3 t1 t2 t3 t4 t5 t6 vs nq n3 1 [ent (wv b w).params "path" tk (pv v)] n od n4 ++ (ndC y ++ tl)) →
    codeAny (model prg (wv b w)) (AF 520 none) (lpAt (wv b w).params 275 lc 1 [] (.ref it)) R ⟨h',g,d,t',os⟩) :
  codeAny (model prg (wv b w)) (AF 520 none) (lpAt (wv b w).params 275 lc 1 [] (.ref it)) R ⟨h,g,d,t,os⟩:=by
 refine' go_code ?_
 (refine' run_T2 KX Rin.nil H 4000 ⟨[10,11,12,13,14,15,5,3],16⟩ rfl [.c 0,.v 0 (fun al=>rNext Rin.nil 0 (.c 1) (pv v)),.c 2,.f 2,.c 2,.v 1 (fun al=>rEq (true)),.c 2,.c 3,.k,.k,.k,.c 3,.k,.k,.k,.c 3,.k,.k,.k,.k,.c 3,.c 4,.c 2,.k,.n,.k,.b 2,.b 3,.c 0,.f 0,.c 0,.f 0,.c 0,.f 0,.k,.c 0,.c 5,.k,.k,.k,.e,.c 5,.k,.k,.k,.c 5,.c 5,.k,.c 6,.c 0,.c 5,.k,.k,.k,.c 5,.k,.k,.k,.c 5,.k,.k,.k,.k,.c 5,.c 6,.c 0,.k,.n,.k,.b 4,.c 0,.f 0,.c 0,.f 0,.k,.c 0,.c 6,.k,.k,.k,.e,.c 6,.k,.k,.k,.c 6,.c 6,.k,.c 7,.c 8,.c 8,.c 8,.c 8,.c 0,.v 5 (fun al=>rDget hS 8 (v.1) (.z)),.c 0,.f 0,.k,.c 0,.k,.k,.e,.k,.k,.k,.q,.k,.k,.k,.e,.k,.k,.k,.k,.k,.k,.k,.q,.k,.k,.k,.k,.k,.k,.k,.k,.k,.k,.k,.k,.b 6,.b 7,.k,.c 0,.k,.c 0,.k,.k,.k,.k,.n,.k,.b 8,.c 0,.f 0,.c 0,.f 0,.k,.c 0,.c 0,.c 1,.k,.k,.k,.e,.c 1,.k,.q,.c 1,.k,.c 1,.k,.k,.k,.k,.k,.e,.k,.q,.k,.k,.c 1,.k,.k,.k,.q,.k,.k,.c 1,.k,.f 1,.c 0,.c 1,.k,.k,.k,.e,.c 1,.k,.q,.c 1,.k,.c 1,.k,.k,.k,.k,.k,.e,.k,.q,.k,.k,.c 1,.k,.k,.k,.q,.k,.k,.c 1,.k,.f 1,.b 9,.c 1,.c 2,.k,.k,.k,.e,.c 2,.k,.q,.c 2,.k,.c 2,.k,.k,.k,.k,.k,.e,.k,.q,.k,.k,.c 2,.k,.k,.k,.q,.k,.k,.c 2,.k,.f 2,.c 4,.c 10,.k,.k,.k,.e,.c 10,.k,.k,.k,.c 10,.c 10,.k,.c 11,.c 4,.c 12,.c 12,.v 10 (fun al=>rDset 12 (v.1)),.c 4,.f 4,.c 4,.c 5,.f 5,.c 5,.c 2,.k,.k,.k,.e,.c 2,.k,.k,.k,.k,.k,.k,.k,.k,.e,.k,.q,.k,.k,.c 2,.k,.k,.k,.q,.k,.k,.c 2,.k,.c 2,.k,.k,.c 5,.v 11 (fun al=>rLenT Rin.nil (.c 6) (0)),.e,.q,.c 2,.k,.k,.k,.e,.c 2,.k,.q,.c 2,.k,.c 2,.k,.k,.k,.k,.k,.e,.k,.q,.k,.k,.c 2,.k,.k,.k,.q,.k,.k,.c 2,.k,.f 2,.c 5,.c 6,.c 6,.e,.c 6,.q,.b 12,.c 0,.e,.c 0,.e,.c 0,.q,.c 0,.c 0,.c 7,.c 0,.f 0,.b 13,.b 14,.c 0] fun al=>end_A2 (c:=(lpAt (wv b w).params 275 lc 1 [] (.ref it))) (cs:=(flC (wv b w).params it q lc so sd n2 ro k1 k2 k3 t1 t2 t3 t4 _ _ vs nq _ 1 [ent (wv b w).params "path" _ (pv v)] _ _ _++(ndC ⟨v.1,v.2,some _,_,_,0,_,[],0⟩++tl))) (by kernel_rfl) (by kernel_rfl) rfl (by kernel_rfl) ⟨(fun hF=>⟨rfl,by decide⟩),(fun hF=>⟨_,hd,Nat.zero_le _⟩),(fun hF=>⟨_,hd,rfl⟩),(fun hF=>(by rw [hr];rfl)),(fun hF=>hv),trivial⟩ fun hp t hF H=>?_)
 exact IH _ _ _ _ _ _ _ _ _ ⟨v.1,v.2,some _,_,_,0,_,[],0⟩ rfl rfl rfl (hF.1 _ hd) H
theorem fl_turnS {b:Bool}{w:World}{R:Result→Shared→Prop}{h:Heap}{g:Array GenState}{d:Drawn}{t:Nat}{os:OsState}{B:Addr→Option Obj}{it q lc so sd n2 ro:Addr}{k1 k2 k3 t1 t2 t3 t4 t5 t6 tk0:Tok}{v0:Value}{vs:List Value}{nq n3 i n n4:Nat}{od:Array DictEntry}{kvs:List (Pt×Value)}{tl:List (Addr×Obj)}{y:Nd}{v:PT}
  (KX:Kin (KK (wv b w).params) B) (hS:(B sysModules).isSome=true) (H:Hp B h (ndC y++(flC (wv b w).params it q lc so sd n2 ro k1 k2 k3 t1 t2 t3 t4 t5 t6 vs nq n3 i [ent (wv b w).params "path" tk0 v0] n od n4++tl)))
  (hv:vs[i]?=some (pv v)) (hvr:v.1≠.r) (hd:IsD prg (wv b w) od kvs) (hle:kvs.length≤1000) (hg1:vat kvs v.1=none) (hg2:vat kvs (par v.1)=some (.ref y.ni)) (hys:y.su.length≤1000)
  (IH : ∀ h' t' tk t5 t6 n3 n od n4 n' (z : Nd), z.p = v.1 → z.np = 1 → z.su = [] → IsD prg (wv b w) od (setK kvs v.1 (.ref z.ni)) → Hp B h' (ndC { y with su := y.su ++ [pv v], n := n' } ++ (ndC z ++ (flC (wv b w).params it q lc so sd n2 ro k1 k2 k3 t1 t2 t3 t4 t5 t6 vs nq n3 (i + 1) [ent (wv b w).params "path" tk (pv v)] n od n4 ++ tl))) →
    codeAny (model prg (wv b w)) (AF 520 none) (lpAt (wv b w).params 275 lc 1 [] (.ref it)) R ⟨h',g,d,t',os⟩) :
  codeAny (model prg (wv b w)) (AF 520 none) (lpAt (wv b w).params 275 lc 1 [] (.ref it)) R ⟨h,g,d,t,os⟩:=by
 refine' go_code ?_
 (refine' run_T2 KX Rin.nil H 4000 ⟨[17,18,12,10,19,20,21,22,23,24],25⟩ rfl [.c 2,.v 0 (fun al=>rNext Rin.nil 2 (.c 3) (pv v)),.c 4,.f 4,.c 4,.v 1 (fun al=>rEq (false)),.c 4,.c 5,.k,.k,.k,.c 5,.k,.k,.k,.c 5,.k,.k,.k,.k,.c 5,.c 6,.c 4,.k,.c 4,.k,.v 2 (fun al=>rDn KX v.1),.k,.n,.k,.b 3,.b 4,.c 0,.f 0,.c 0,.f 0,.c 0,.f 0,.k,.c 0,.c 7,.k,.k,.k,.e,.c 7,.k,.k,.k,.c 7,.c 7,.k,.c 8,.c 0,.c 7,.k,.k,.k,.c 7,.k,.k,.k,.c 7,.k,.k,.k,.k,.c 7,.c 8,.c 0,.k,.n,.k,.b 5,.c 0,.f 0,.c 0,.f 0,.k,.c 0,.c 8,.k,.k,.k,.e,.c 8,.k,.k,.k,.c 8,.c 8,.k,.c 9,.c 10,.c 10,.c 10,.c 10,.c 0,.v 6 (fun al=>rDget hS 10 (v.1) (.z)),.c 0,.f 0,.k,.c 0,.k,.k,.e,.k,.k,.k,.q,.k,.k,.k,.e,.k,.k,.k,.k,.k,.k,.k,.q,.k,.k,.k,.k,.k,.k,.k,.k,.k,.k,.k,.k,.b 7,.b 8,.k,.c 0,.k,.c 0,.k,.k,.k,.k,.n,.k,.b 9,.c 0,.f 0,.c 0,.f 0,.k,.c 0,.c 0,.c 1,.k,.k,.k,.e,.c 1,.k,.q,.c 1,.k,.c 1,.k,.k,.k,.k,.k,.e,.k,.q,.k,.k,.c 1,.k,.k,.k,.q,.k,.k,.c 1,.k,.f 1,.c 0,.c 1,.k,.k,.k,.e,.c 1,.k,.q,.c 1,.k,.c 1,.k,.k,.k,.k,.k,.e,.k,.q,.k,.k,.c 1,.k,.k,.k,.q,.k,.k,.c 1,.k,.f 1,.b 10,.c 1,.c 2,.k,.k,.k,.e,.c 2,.k,.q,.c 2,.k,.c 2,.k,.k,.k,.k,.k,.e,.k,.q,.k,.k,.c 2,.k,.k,.k,.q,.k,.k,.c 2,.k,.f 2,.c 4,.c 12,.k,.k,.k,.e,.c 12,.k,.k,.k,.c 12,.c 12,.k,.c 13,.c 4,.c 14,.c 14,.v 11 (fun al=>rDset 14 (v.1)),.c 4,.f 4,.c 4,.c 5,.f 5,.c 5,.c 2,.k,.k,.k,.e,.c 2,.k,.k,.k,.k,.k,.k,.k,.k,.e,.k,.q,.k,.k,.c 2,.k,.k,.k,.q,.k,.k,.c 2,.k,.c 2,.k,.k,.c 5,.v 12 (fun al=>rLenT Rin.nil (.c 6) (1)),.e,.q,.c 2,.k,.k,.k,.e,.c 2,.k,.q,.c 2,.k,.c 2,.k,.k,.k,.k,.k,.e,.k,.q,.k,.k,.c 2,.k,.k,.k,.q,.k,.k,.c 2,.k,.f 2,.c 5,.c 6,.c 6,.e,.c 6,.q,.b 13,.c 0,.e,.c 0,.e,.c 0,.q,.c 0,.c 0,.c 7,.c 0,.f 0,.c 6,.f 6,.c 6,.c 13,.k,.k,.k,.c 13,.k,.k,.k,.c 13,.k,.k,.k,.k,.c 13,.c 14,.c 6,.k,.n,.k,.b 14,.c 0,.f 0,.c 0,.f 0,.k,.c 0,.c 14,.k,.k,.k,.e,.c 14,.k,.k,.k,.c 14,.c 14,.k,.c 15,.c 16,.c 16,.c 16,.c 16,.c 0,.v 15 (fun al=>rDget hS 16 (par v.1) (.c 9)),.c 0,.f 0,.c 0,.c 7,.f 7,.c 7,.c 9,.k,.k,.k,.e,.c 9,.k,.k,.k,.k,.k,.k,.k,.k,.e,.k,.q,.k,.k,.c 9,.k,.k,.k,.q,.k,.k,.c 9,.k,.c 9,.c 10,.c 10,.c 10,.c 10,.c 7,.v 16 (fun al=>rAppend 10),.q,.c 1,.e,.c 1,.q,.c 1,.c 1,.c 8,.c 1,.f 1,.b 17,.b 18,.c 0,.c 15,.c 16,.k,.k,.k,.c 16,.k,.k,.k,.c 16,.k,.k,.k,.k,.c 16,.c 17,.c 15,.k,.n,.k,.b 19,.b 20,.c 0,.f 0,.c 0,.f 0,.c 0,.f 0,.k,.c 0,.c 18,.k,.k,.k,.e,.c 18,.k,.k,.k,.c 18,.c 18,.k,.c 19,.c 0,.c 18,.k,.k,.k,.c 18,.k,.k,.k,.c 18,.k,.k,.k,.k,.c 18,.c 19,.c 0,.k,.n,.k,.b 21,.c 0,.f 0,.c 0,.f 0,.k,.c 0,.c 19,.k,.k,.k,.e,.c 19,.k,.k,.k,.c 19,.c 19,.k,.c 20,.c 21,.c 21,.c 21,.c 21,.c 0,.v 22 (fun al=>rDget hS 21 (v.1) (.c 9)),.c 0,.f 0,.c 0,.c 1,.f 1,.c 1,.c 9,.k,.k,.k,.e,.c 9,.k,.k,.k,.k,.k,.k,.k,.k,.e,.k,.q,.k,.k,.c 9,.k,.k,.k,.q,.k,.k,.c 9,.k,.c 9,.k,.k,.c 1,.v 23 (fun al=>rLenT Rin.nil (.c 2) (0)),.e,.q,.c 9,.k,.k,.k,.e,.c 9,.k,.q,.c 9,.k,.c 9,.k,.k,.k,.k,.k,.e,.k,.q,.k,.k,.c 9,.k,.k,.k,.q,.k,.k,.c 9,.k,.f 9,.c 1,.c 2,.c 2,.e,.c 2,.q,.b 24,.c 0,.e,.c 0,.e,.c 0,.q,.c 0,.c 0,.c 3,.c 0,.f 0,.b 25,.b 26,.c 0] fun al=>end_A2 (c:=(lpAt (wv b w).params 275 lc 1 [] (.ref it))) (cs:=(ndC ⟨y.p,y.tn,y.dd,y.ni,y.sc,y.np,y.tp,y.su++[pv v],_⟩++(ndC ⟨v.1,v.2,some _,_,_,1,_,[],0⟩++(flC (wv b w).params it q lc so sd n2 ro k1 k2 k3 t1 t2 t3 t4 _ _ vs nq _ (i + 1) [ent (wv b w).params "path" _ (pv v)] _ _ _++tl)))) (by kernel_rfl) (by kernel_rfl) rfl (by kernel_rfl) ⟨(fun hF=>⟨rfl,by decide⟩),(fun hF=>⟨_,hF.1 _ hd,by rw [vat_setK,if_pos rfl];rfl⟩),(fun hF=>hys),(fun hF=>⟨_,hF.1 _ hd,by rw [vat_setK,if_neg (par_ne hvr),hg2];rfl⟩),(fun hF=>⟨rfl,by decide⟩),(fun hF=>⟨_,hd,hle⟩),(fun hF=>⟨_,hd,by rw [hg1];rfl⟩),(fun hF=>trivial),(fun hF=>cps_ne hvr),(fun hF=>hv),trivial⟩ fun hp t hF H=>?_)
 exact IH _ _ _ _ _ _ _ _ _ _ ⟨v.1,v.2,some _,_,_,1,_,[],0⟩ rfl rfl rfl (hF.1 _ hd) H
theorem fl_end {b:Bool}{w:World}{R:Result→Shared→Prop}{h:Heap}{g:Array GenState}{d:Drawn}{t:Nat}{os:OsState}{B:Addr→Option Obj}{it q lc so sd n2 ro:Addr}{k1 k2 k3 t1 t2 t3 t4 t5 t6:Tok}{vs:List Value}{nq n3 i n n4:Nat}{ex:List DictEntry}{od:Array DictEntry}{tl:List (Addr×Obj)}
  (KX:Kin (KK (wv b w).params) B) (H:Hp B h (flC (wv b w).params it q lc so sd n2 ro k1 k2 k3 t1 t2 t3 t4 t5 t6 vs nq n3 i ex n od n4++tl)) (hv:vs[i]?=none)
  (x:∀ h' t',Hp B h' ((flC (wv b w).params it q lc so sd n2 ro k1 k2 k3 t1 t2 t3 t4 t5 t6 vs nq n3 i ex n od n4).tail++tl)→R (.ok .next) ⟨h',g,d,t',os⟩) :
  codeAny (model prg (wv b w)) (AF 520 none) (lpAt (wv b w).params 275 lc 1 [] (.ref it)) R ⟨h,g,d,t,os⟩:=by
 refine' go_code ?_
 (refine' run_T KX Rin.nil H 4000 ⟨[2,3,4,5,6],7⟩ rfl [.c 0,.v 0 (fun al=>rNextEnd Rin.nil 0 (.c 1)),.c 0] fun al=>end_R (r:=(.ok .next)) (cs:=((flC (wv b w).params it q lc so sd n2 ro k1 k2 k3 t1 t2 t3 t4 t5 t6 vs nq n3 i ex n od n4).tail++tl)) (by kernel_rfl) rfl  ⟨(fun hF=>hv),trivial⟩ fun hp t hF H=>?_)
 exact x _ _ H
theorem fl_loop {b:Bool}{w:World}{g:Array GenState}{d:Drawn}{os:OsState}{it q lc so sd n2 ro:Addr}{k1 k2 k3 t1 t2 t3 t4 t5 t6:Tok}{nq n3 n n4:Nat}{od:Array DictEntry}(L:List PT) (hL:FolOk (pts L)) (hd:IsD prg (wv b w) od []) :
  Ct prg (wv b w) 520 none (KK (wv b w).params) g d os (lpAt (wv b w).params 275 lc 1 [] (.ref it)) (flC (wv b w).params it q lc so sd n2 ro k1 k2 k3 t1 t2 t3 t4 t5 t6 (L.map pv) nq n3 0 [] n od n4)
    (some fun u=>∃ N,u.X=ndsC N∧NsOk (pts L) N∧IsD prg (wv b w) u.T (kvN N))
    fun u=>(.ok .next,(flC (wv b w).params it q lc so sd n2 ro k1 k2 k3 t1 t2 t3 t4 u.n u.n2 (L.map pv) nq u.n3 0 [ent (wv b w).params "path" u.n4 u.v] u.n5 u.T u.n6).tail++u.X):=by
 refine ⟨fun B h t R KX hS H x => loopI (σ := Nat) (fun i => L.length - i) (fun i h => ∃ ex t5 t6 n3 n od n4 N, Hp B h (flC (wv b w).params it q lc so sd n2 ro k1 k2 k3 t1 t2 t3 t4 t5 t6 (L.map pv) nq n3 i ex n od n4 ++ ndsC N) ∧ ((i = 0 ∧ ex = [] ∧ N = []) ∨ (i ≠ 0 ∧ ∃ tk v, ex = [ent (wv b w).params "path" tk v])) ∧ NsOk ((pts L).take i) N ∧ IsD prg (wv b w) od (kvN N))
   (fun i h t hi IH=>?_) (x:=0) ⟨[],t5,t6,n3,n,od,n4,[],by simpa [ndsC] using H,.inl ⟨rfl,rfl,rfl⟩,⟨rfl,fun _ h=>absurd h List.not_mem_nil,fun _ h=>absurd h List.not_mem_nil⟩,hd⟩⟩
 obtain ⟨ex,t5,t6,n3,n,od,n4,N,H,hex,hN,hd⟩:=hi
 have h0L:0 < L.length:=by
   have:=(List.getElem?_eq_some_iff.mp hL.rt).1
   rwa [List.length_map] at this
 rcases hx:L[i]? with _ | v
 · have hi := List.getElem?_eq_none_iff.mp hx
   obtain ⟨tk,v,rfl⟩:∃ tk v,ex=[ent (wv b w).params "path" tk v]:=by
     rcases hex with ⟨h0,_⟩ | ⟨_,h0⟩
     · omega
     · exact h0
   rw [List.take_of_length_le (by rw [List.length_map];exact hi)] at hN
   exact fl_end KX H (item_no hx) fun h' t' H=>x { xd0 with n:=t5,n2:=t6,n3:=n3,n4:=tk,v:=v,n5:=n,T:=od,n6:=n4,X:=ndsC N,t:=t' } h' ⟨⟨N,rfl,hN,hd⟩,trivial⟩ H
 · have hi : i < L.length := (List.getElem?_eq_some_iff.mp hx).1
   have hpv:(pts L)[i]?=some v.1:=by rw [List.getElem?_map,hx];rfl
   have etk:(pts L).take (i + 1)=(pts L).take i++[v.1]:=by rw [List.take_add_one,hpv];rfl
   rcases hex with ⟨rfl,rfl,rfl⟩ | ⟨h0,tk0,v0,rfl⟩
   · have hv:v.1=.r:=by
       have:=hL.rt
       rw [hpv] at this
       exact Option.some.inj this
     refine fl_turn0 KX hS H (item_of hx) hv hd fun h' t' tk t5 t6 n3 n od n4 y e1 e2 e3 hd H=>IH 1 h' t' (by omega) ⟨_,t5,t6,n3,n,od,n4,[y],?_,.inr ⟨by decide,tk,pv v,rfl⟩,?_,?_⟩
     · simpa [ndsC] using H
     · rw [etk]
       show NsOk [v.1] [y]
       rw [← e1]
       exact NsOk.root (e1.trans hv) e2 e3
     · show IsD prg (wv b w) od [(y.p, .ref y.ni)]
       rw [e1];exact hd
   · have hvr : v.1 ≠ .r := fun e => h0 ((hL.root hpv).mp e)
     have hpa:=hL.pa i v.1 hpv hvr
     have hnF:((pts L).take i).Nodup:=hL.nd.sublist (List.take_sublist _ _)
     have hnN:(psN N).Nodup:=by rw [hN.ps];exact hnF
     obtain ⟨N1,y,N2,rfl,hy,hy1⟩:=nd_split hnN (hN.ps ▸ hpa)
     have hvF : v.1 ∉ (pts L).take i := fun hm => by
       obtain ⟨j,hj,e⟩:=List.mem_iff_getElem.mp hm
       obtain ⟨a2,b2⟩:=List.getElem?_eq_some_iff.mp hpv
       rw [List.length_take] at hj
       have:=List.pairwise_iff_getElem.mp hL.nd j i (by omega) a2 (by omega)
       rw [List.getElem_take] at e
       exact this (e.trans b2.symm)
     have hvN:v.1 ∉ psN (N1++y :: N2):=hN.ps ▸ hvF
     have hle:(kvN (N1++y :: N2)).length≤1000:=by
       rw [kv_len]
       have:=nodup_le hnN
       rw [List.length_map] at this
       omega
     have hg2:vat (kvN (N1++y :: N2)) (par v.1)=some (.ref y.ni):=by rw [← hy];exact vat_some (hy ▸ hy1)
     have hys:y.su.length≤1000:=by
       obtain ⟨Ly,h0,h1⟩:=hN.su y (by simp)
       have h1:=congrArg List.length h1
       have h2:=List.length_filter_le (fun q=>decide (q≠.r∧par q=y.p)) ((pts L).take i)
       have h3:=nodup_le hnF
       unfold chl at h1
       rw [List.length_map] at h1
       rw [h0,List.length_map]
       omega
     refine fl_turnS KX hS (nd_out H) (item_of hx) hvr hd hle (vat_none hvN) hg2 hys fun h' t' tk t5 t6 n3 n od n4 n' z e1 e2 e3 hd H=>?_
     have H:=nd_in (H.perm (cs':=ndC { y with su:=y.su++[pv v],n:=n' }++((flC (wv b w).params it q lc so sd n2 ro k1 k2 k3 t1 t2 t3 t4 t5 t6 (L.map pv) nq n3 (i + 1) [ent (wv b w).params "path" tk (pv v)] n od n4++ndC z)++ndsC (N1++N2))) (List.Perm.append_left _ (by rw [List.append_assoc];exact List.perm_append_comm_assoc _ _ _)))
     refine IH (i + 1) h' t' (by omega) ⟨_,t5,t6,n3,n,od,n4,(N1++{ y with su:=y.su++[pv v],n:=n' } :: N2)++[z],?_,.inr ⟨by omega,tk,pv v,rfl⟩,?_,?_⟩
     · rw [nds_snoc]
       rw [List.append_assoc] at H
       exact H.perm (List.Perm.append_left _ List.perm_append_comm)
     · rw [etk]
       refine hN.add hvr hvF hy (x':={ y with su:=y.su++[pv v],n:=n' }) rfl rfl (v:=v) rfl rfl e1 e2 e3 hnF fun p hp hpr e=>?_
       obtain ⟨j,hj,ej⟩:=List.mem_iff_getElem.mp hp
       rw [List.length_take] at hj
       rw [List.getElem_take] at ej
       have h1:=hL.pa j p (List.getElem?_eq_some_iff.mpr ⟨by omega,ej⟩) hpr
       rw [e] at h1
       exact hvF (List.mem_of_mem_take (by
         have h2:(pts L).take j=((pts L).take i).take j:=by rw [List.take_take,Nat.min_eq_left (by omega)]
         rw [h2] at h1
         exact h1))
     · rw [setK_new hvN] at hd
       have e:kvN ((N1++{ y with su:=y.su++[pv v],n:=n' } :: N2)++[z])=kvN (N1++y :: N2)++[(v.1,.ref z.ni)]:=by simp [kvN,e1]
       rw [e];exact hd
noncomputable def pcC (it acc cf n2:Addr) (od:Array DictEntry) (n4:Nat) (j:Nat) (ra:List Value) (n6:Nat) (ex:List DictEntry) (n7:Nat):List (Addr×Obj) :=
 [(it,ditO sDVI (.ref n2) (j:Int) od.size n4),(acc,lst ra n6),(cf,dO ex.toArray n7),(n2,dO od n4)]
theorem pc_turn0 {b:Bool}{w:World}{R:Result→Shared→Prop}{h:Heap}{g:Array GenState}{d:Drawn}{t:Nat}{os:OsState}{B:Addr→Option Obj}{it acc cf n2 fr:Addr}{od:Array DictEntry}{n4 n6 n7:Nat}{kvs:List (Pt×Value)}{tl:List (Addr×Obj)}{y:Nd}
  (KX:Kin (KK (wv b w).params) B) (H:Hp B h (ndC y++(pcC it acc cf n2 od n4 0 [] n6 [] n7++tl))) (hd:IsD prg (wv b w) od kvs) (hk:kvs[0]?=some (y.p,.ref y.ni)) (h0:y.np=0)
  (IH:∀ h' t' tk n6 n7,Hp B h' (ndC y++(pcC it acc cf n2 od n4 1 [.str (sp y.p) y.tn] n6 [ent (wv b w).params "i" tk (.ref y.ni)] n7++tl))→codeAny (model prg (wv b w)) (AF 560 none) (cpAt (wv b w).params 106 fr cf [] (ceAt (wv b w).params 106 1 [] []) 0 it acc) R ⟨h',g,d,t',os⟩) :
  codeAny (model prg (wv b w)) (AF 560 none) (cpAt (wv b w).params 106 fr cf [] (ceAt (wv b w).params 106 1 [] []) 0 it acc) R ⟨h,g,d,t,os⟩:=by
 refine' go_code ?_
 obtain ⟨yp,ytn,ydd,yni,ysc,ynp,ytp,ysu,yn⟩:=y
 dsimp only at h0 hk
 subst h0
 (refine' run_T2 KX Rin.nil H 4000 ⟨[0,1,2,3,4,5],6⟩ rfl [.c 2,.v 0 (fun al=>rVnext 2 5 (.c 0)),.c 4,.f 4,.c 4,.c 0,.k,.k,.k,.e,.c 0,.k,.k,.k,.k,.k,.k,.k,.k,.e,.k,.q,.k,.k,.c 0,.k,.k,.k,.q,.k,.k,.c 0,.k,.c 0,.e,.q,.c 4,.c 0,.k,.k,.k,.e,.c 0,.k,.k,.k,.k,.k,.k,.k,.k,.e,.k,.q,.k,.k,.c 0,.k,.k,.k,.q,.k,.k,.c 0,.k,.c 0,.v 1 (fun al=>rAppend 3)] fun al=>end_A2 (c:=(cpAt (wv b w).params 106 fr cf [] (ceAt (wv b w).params 106 1 [] []) 0 it acc)) (cs:=(ndC ⟨yp,ytn,ydd,yni,ysc,0,ytp,ysu,yn⟩++(pcC it acc cf n2 od n4 1 [.str (sp yp) ytn] _ [ent (wv b w).params "i" _ (.ref yni)] _++tl))) (by kernel_rfl) (by kernel_rfl) rfl (by kernel_rfl) ⟨(fun hF=>Nat.zero_le _),(fun hF=>⟨⟨rfl,rfl⟩,_,_,hd,hk⟩),trivial⟩ fun hp t hF H=>?_)
 exact IH _ _ _ _ _ H
theorem pc_turnS {b:Bool}{w:World}{R:Result→Shared→Prop}{h:Heap}{g:Array GenState}{d:Drawn}{t:Nat}{os:OsState}{B:Addr→Option Obj}{it acc cf n2 fr:Addr}{od:Array DictEntry}{n4 n6 n7 j tk0:Nat}{v0:Value}{ra:List Value}{kvs:List (Pt×Value)}{tl:List (Addr×Obj)}{y:Nd}
  (KX:Kin (KK (wv b w).params) B) (H:Hp B h (ndC y++(pcC it acc cf n2 od n4 j ra n6 [ent (wv b w).params "i" tk0 v0] n7++tl))) (hd:IsD prg (wv b w) od kvs) (hk:kvs[j]?=some (y.p,.ref y.ni)) (h0:y.np=1)
  (IH:∀ h' t' tk n7,Hp B h' (ndC y++(pcC it acc cf n2 od n4 (j + 1) ra n6 [ent (wv b w).params "i" tk (.ref y.ni)] n7++tl))→codeAny (model prg (wv b w)) (AF 560 none) (cpAt (wv b w).params 106 fr cf [] (ceAt (wv b w).params 106 1 [] []) 0 it acc) R ⟨h',g,d,t',os⟩) :
  codeAny (model prg (wv b w)) (AF 560 none) (cpAt (wv b w).params 106 fr cf [] (ceAt (wv b w).params 106 1 [] []) 0 it acc) R ⟨h,g,d,t,os⟩:=by
 refine' go_code ?_
 obtain ⟨yp,ytn,ydd,yni,ysc,ynp,ytp,ysu,yn⟩:=y
 dsimp only at h0 hk
 subst h0
 (refine' run_T2 KX Rin.nil H 4000 ⟨[0,1,2,3,4,5],6⟩ rfl [.c 2,.v 0 (fun al=>rVnext 2 5 (.c 0)),.c 4,.f 4,.c 4,.c 0,.k,.k,.k,.e,.c 0,.k,.k,.k,.k,.k,.k,.k,.k,.e,.k,.q,.k,.k,.c 0,.k,.k,.k,.q,.k,.k,.c 0,.k,.c 0,.e,.q] fun al=>end_A2 (c:=(cpAt (wv b w).params 106 fr cf [] (ceAt (wv b w).params 106 1 [] []) 0 it acc)) (cs:=(ndC ⟨yp,ytn,ydd,yni,ysc,1,ytp,ysu,yn⟩++(pcC it acc cf n2 od n4 (j + 1) ra n6 [ent (wv b w).params "i" _ (.ref yni)] _++tl))) (by kernel_rfl) (by kernel_rfl) rfl (by kernel_rfl) ⟨(fun hF=>⟨⟨rfl,rfl⟩,_,_,hd,hk⟩),trivial⟩ fun hp t hF H=>?_)
 exact IH _ _ _ _ H
theorem pc_end {b:Bool}{w:World}{R:Result→Shared→Prop}{h:Heap}{g:Array GenState}{d:Drawn}{t:Nat}{os:OsState}{B:Addr→Option Obj}{it acc cf n2 fr:Addr}{od:Array DictEntry}{n4 n6 n7 j:Nat}{ra:List Value}{ex:List DictEntry}{kvs:List (Pt×Value)}{tl:List (Addr×Obj)}
  (KX:Kin (KK (wv b w).params) B) (H:Hp B h (pcC it acc cf n2 od n4 j ra n6 ex n7++tl)) (hd:IsD prg (wv b w) od kvs) (hk:kvs[j]?=none)
  (x:∀ h' t',Hp B h' ((pcC it acc cf n2 od n4 j ra n6 ex n7).tail++tl)→R (.ok .next) ⟨h',g,d,t',os⟩) :
  codeAny (model prg (wv b w)) (AF 560 none) (cpAt (wv b w).params 106 fr cf [] (ceAt (wv b w).params 106 1 [] []) 0 it acc) R ⟨h,g,d,t,os⟩:=by
 refine' go_code ?_
 (refine' run_T KX Rin.nil H 4000 ⟨[2,3,4],5⟩ rfl [.c 0,.v 0 (fun al=>rVend 0 3),.c 0] fun al=>end_R (r:=(.ok .next)) (cs:=((pcC it acc cf n2 od n4 j ra n6 ex n7).tail++tl)) (by kernel_rfl) rfl  ⟨(fun hF=>⟨⟨rfl,rfl⟩,_,hd,hk⟩),trivial⟩ fun hp t hF H=>?_)
 exact x _ _ H
theorem pc_loop {b:Bool}{w:World}{g:Array GenState}{d:Drawn}{os:OsState}{it acc cf n2 fr:Addr}{od:Array DictEntry}{n4 n6 n7:Nat}{F:List Pt}{N:List Nd}(hF:FolOk F) (hN:NsOk F N) (hd:IsD prg (wv b w) od (kvN N)) :
  Ct prg (wv b w) 560 none (KK (wv b w).params) g d os (csAt (wv b w).params 106 fr cf [] (ceAt (wv b w).params 106 1 [] []) 0 it acc) (pcC it acc cf n2 od n4 0 [] n6 [] n7 ++ ndsC N) none
    fun u=>(.ok .next,(pcC it acc cf n2 od n4 0 (rdy N) u.n [ent (wv b w).params "i" u.n2 u.v] u.n3).tail++ndsC N):=by
 refine ⟨fun B h t R KX hS H x => comp_val H 0 rfl (loopI (c := cpAt (wv b w).params 106 fr cf [] (ceAt (wv b w).params 106 1 [] []) 0 it acc) (σ := Nat) (fun i => N.length - i) (fun j h => ∃ ex ra n6 n7, Hp B h (pcC it acc cf n2 od n4 j ra n6 ex n7 ++ ndsC N) ∧ ((j = 0 ∧ ex = []) ∨ (j ≠ 0 ∧ ∃ tk v, ex = [ent (wv b w).params "i" tk v])) ∧ ra = rdy (N.take j))
   (fun j h t hi IH=>?_) (x:=0) ⟨[],[],n6,n7,H,.inl ⟨rfl,rfl⟩,rfl⟩)⟩
 obtain ⟨ex,ra,n6,n7,H,hex,hra⟩:=hi
 have hN0:0 < N.length:=by
   have h1:=congrArg List.length hN.ps
   have h2:=(List.getElem?_eq_some_iff.mp hF.rt).1
   rw [List.length_map] at h1
   omega
 rcases hj:N[j]? with _ | y
 · have hjl := List.getElem?_eq_none_iff.mp hj
   obtain ⟨tk,v,rfl⟩:∃ tk v,ex=[ent (wv b w).params "i" tk v]:=by
     rcases hex with ⟨h0,_⟩ | ⟨_,h0⟩
     · omega
     · exact h0
   rw [List.take_of_length_le hjl] at hra
   subst hra
   exact pc_end KX H hd (by rw [kv_at,hj];rfl) fun h' t' H=>x { xd0 with n:=n6,n2:=tk,v:=v,n3:=n7,t:=t' } h' trivial H
 · obtain ⟨N1, N2, e, e1, e2, e3⟩ := nd_at hj
   have hj2:j < N.length:=(List.getElem?_eq_some_iff.mp hj).1
   have hk:(kvN N)[j]?=some (y.p,.ref y.ni):=by rw [kv_at,hj];rfl
   have hy:=hN.np y (List.mem_of_getElem? hj)
   have hFj:F[j]?=some y.p:=by
     rw [← hN.ps,List.getElem?_map,hj];rfl
   have hroot:=hF.root hFj
   have H2:=H
   rw [e] at H2
   rcases hex with ⟨rfl,rfl⟩ | ⟨h0,tk,v,rfl⟩
   · have h0 : y.np = 0 := by rw [hy, if_pos (hroot.mpr rfl)]
     subst hra
     refine pc_turn0 KX (nd_out H2) hd hk h0 fun h' t' tk n6 n7 H=>IH 1 h' t' (by omega) ⟨[ent (wv b w).params "i" tk (.ref y.ni)],[.str (sp y.p) y.tn],n6,n7,?_,.inr ⟨by decide,tk,_,rfl⟩,?_⟩
     · have H := nd_in H
       rw [← e] at H
       exact H
     · rw [e3,← e2,rdy_snoc0 h0];rfl
   · have h1 : y.np = 1 := by rw [hy, if_neg fun e => h0 (hroot.mp e)]
     refine pc_turnS KX (nd_out H2) hd hk h1 fun h' t' tk n7 H=>IH (j + 1) h' t' (by omega) ⟨[ent (wv b w).params "i" tk (.ref y.ni)],ra,n6,n7,?_,.inr ⟨by omega,tk,_,rfl⟩,?_⟩
     · have H := nd_in H
       rw [← e] at H
       exact H
     · rw [hra,e3,← e2,rdy_snoc1 (by rw [h1];decide)]
theorem fcP {b:Bool}{w:World}{g:Array GenState}{d:Drawn}{os:OsState}{envR envL:Env}{n2 so sd pf lc lf ra:Addr}{kp:Tok}{esr esf:List DictEntry}{np nr nf n3 n4:Nat}{slr slf:Array (Option Value)}{t1 t2 t3 t4 t5 t6:Tok}{od:Array DictEntry}{F:List Pt}{N:List Nd}
  (hkR:envR.scope.kind≠.module) (hfR:envR.frame=some lc) (hkL:envL.scope.kind≠.module) (hfL:envL.frame=some lf) (hFF:FolOk F) (hN:NsOk F N) (hd:IsD prg (wv b w) od (kvN N)) :
  Ct prg (wv b w) 560 (some [envAt (wv b w).params 106 pf, envR, envL]) (KK (wv b w).params) g d os (.call (.ref 141) ⟨[.ref so], []⟩) ([(n2, dO od n4), (pf, locO [ent (wv b w).params "self" kp (.ref so)] np), (lc, locS esr nr slr), (lf, locS esf nf slf), (so, soO sd), (sd, sdO (wv b w).params n2 t1 t2 t3 t4 (.ref ra) 0 0 t5 t6 n3)] ++ ndsC N) none
    fun u=>(.ok (.ret .none),[(n2,dO od n4),(pf,locS [ent (wv b w).params "self" kp (.ref so)] np u.s2),(lc,locS esr nr u.s3),(lf,locS esf nf u.s4),(so,soO sd),(sd,sdO (wv b w).params n2 t1 t2 t3 t4 (.ref ra) 0 0 t5 t6 n3)]++ndsC N) :=
 fcX (envP:=envAt (wv b w).params 106 pf) (fun z=>by cases z) rfl hkR hfR hkL hfL hFF hN hd
theorem prep {b:Bool}{w:World}{g:Array GenState}{d:Drawn}{os:OsState}{envR envL:Env}{so sd n2 lc lf:Addr}{t1 t2 t3 t4 t5 t6:Tok}{esr esf:List DictEntry}{nr nf n3 n4:Nat}{slr slf:Array (Option Value)}{od:Array DictEntry}{F:List Pt}{N:List Nd}
  (hkR:envR.scope.kind≠.module) (hfR:envR.frame=some lc) (hkL:envL.scope.kind≠.module) (hfL:envL.frame=some lf) (hF:FolOk F) (hN:NsOk F N) (hd:IsD prg (wv b w) od (kvN N)) :
  Ct prg (wv b w) 540 (some [envR, envL]) (KK (wv b w).params) g d os (.call (.ref 106) ⟨[.ref so], []⟩) ([(n2, dO od n4), (so, soO sd), (sd, sdO (wv b w).params n2 t1 t2 t3 t4 .none 0 0 t5 t6 n3), (lc, locS esr nr slr), (lf, locS esf nf slf)] ++ ndsC N) none
    fun u=>(.ok (.ret .none),[(n2,dO od n4),(so,soO sd),(sd,sdO (wv b w).params n2 t1 t2 t3 t4 (.ref u.n) 0 0 t5 t6 u.n3),(u.n,lst (rdy N) u.n2),(lc,locS esr nr u.s3),(lf,locS esf nf u.s4)]++ndsC N):=by
 refine ⟨fun B h t R KX hS H x=>?_⟩
 refine' go_ent KX H rfl ?_
 (refine' run_T2 KX Rin.nil H 4000 ⟨[3,7,8,1,5,6],9⟩ rfl [.k,.b 0,.c 0,.f 0,.k,.c 0,.c 2,.k,.k,.k,.e,.c 2,.k,.k,.k,.c 2,.c 2,.k,.c 3,.c 0,.c 2,.k,.k,.k,.e,.c 2,.k,.k,.k,.c 2,.c 2,.k,.c 3,.c 1,.c 1,.c 1,.c 1,.v 1 (fun al=>rDvals hS 1),.c 0,.c 0,.e,.c 0,.q,.c 0,.c 2,.c 2,.b 2,.c 0,.b 3,.b 4,.v 5 (fun al=>rC KX hS [2,1,0,2] 6 true (True) (fun _=>pc_loop (it:=(al 2).n) (acc:=(al 3).n) (cf:=(al 4).n) (n2:=n2) (fr:=(al 0).n) (od:=od) (n4:=n4) (n6:=0) (n7:=0) (F:=F) (N:=N) hF hN hd)),.c 7,.c 7,.f 7,.c 1,.c 2,.k,.k,.k,.e,.c 2,.k,.q,.c 2,.k,.c 2,.k,.k,.k,.c 2,.k,.c 3,.f 3,.c 3,.c 1,.c 2,.k,.k,.k,.c 2,.k,.k,.k,.c 2,.k,.k,.k,.k,.c 2,.c 3,.k,.v 6 (fun al=>rC KX hS [8,1,3,3,1,1] 3 true (True) (fun _=>fcP (n2:=n2) (so:=so) (sd:=sd) (pf:=(al 0).n) (ra:=(al 3).n) (kp:=t) (esr:=esr) (esf:=esf) (np:=0 + 1) (nr:=nr) (nf:=nf) (n3:=n3) (n4:=n4) (slr:=slr) (slf:=slf) (t1:=t1) (t2:=t2) (t3:=t3) (t4:=t4) (t5:=t5) (t6:=t6) (od:=od) (F:=F) (N:=N) hkR hfR hkL hfL hF hN hd)),.c 4,.g 4,.c 4] fun al=>end_R2 (r:=(.ok (.ret .none))) (cs:=([(n2,dO od n4),(so,soO sd),(sd,sdO (wv b w).params n2 t1 t2 t3 t4 (.ref _) 0 0 t5 t6 _),(_,lst (rdy N) _),(lc,locS esr nr _),(lf,locS esf nf _)]++ndsC N)) (by kernel_rfl) (by kernel_rfl) rfl (by kernel_rfl) ⟨(fun hF=>trivial),(fun hF=>trivial),(fun hF=>⟨_,hd⟩),trivial⟩ fun hp t hF H=>?_)
 exact x { xd0 with n:=_,n2:=_,n3:=_,s3:=_,s4:=_,t:=_ } _ trivial H
noncomputable def RwS (w:World) (F:List Pt) (od:Array DictEntry) (V:List Value) (X:List (Addr×Obj)):Prop:=∃ kvs,∃ L0:List PT,IsD prg w od kvs∧NdX kvs F (fLev 0) X∧V=L0.map pv∧pts L0=lev F 0
theorem filter_one {α:Type} [DecidableEq α] {a:α}:∀ {l:List α},l.Nodup→a∈l→l.filter (fun x=>decide (x=a))=[a]:=by
 intro l
 induction l with
 | nil => exact fun _ h => absurd h List.not_mem_nil
 | cons x l ih =>
   intro hn hm
   obtain ⟨h1,h2⟩:=List.nodup_cons.mp hn
   rw [List.filter_cons]
   by_cases e:x=a
   · subst e
     rw [if_pos (decide_eq_true rfl)]
     congr 1
     exact List.filter_eq_nil_iff.mpr fun y hy z=>h1 (by rw [← of_decide_eq_true z];exact hy)
   · rw [if_neg (by simpa using e)]
     exact ih h2 ((List.mem_cons.mp hm).resolve_left fun z=>e z.symm)
theorem rws_of {w:World}{F:List Pt}{N:List Nd}{od:Array DictEntry}(hF:FolOk F) (hN:NsOk F N) (hd:IsD prg w od (kvN N)):RwS w F od (rdy N) (ndsC N):=by
 refine ⟨kvN N,(N.filter fun x=>decide (x.np=0)).map fun x=>(x.p,x.tn),hd,NdX.congr ⟨N,rfl,rfl,hN.nsF⟩ fun p _=>?_,?_,?_⟩
 · cases p <;> rfl
 · rw [List.map_map];rfl
 · have h0:pts ((N.filter fun x=>decide (x.np=0)).map fun x=>(x.p,x.tn))=(N.filter fun x=>decide (x.np=0)).map (·.p):=by
     unfold pts;rw [List.map_map];rfl
   have h1:(N.filter fun x=>decide (x.np=0)).map (·.p)=(psN N).filter fun p=>decide (p=.r):=by
     unfold psN
     rw [List.filter_map]
     refine congrArg _ (List.filter_congr fun x hx=>?_)
     have:=hN.np x hx
     by_cases e:x.p=.r
     · rw [if_pos e] at this
       simp [this,e]
     · rw [if_neg e] at this
       simp [this,e]
   rw [h0,h1,hN.ps]
   exact filter_one hF.nd (List.mem_of_getElem? hF.rt)
theorem prepX {b:Bool}{w:World}{g:Array GenState}{d:Drawn}{os:OsState}{envR envL:Env}{so sd n2 lc lf:Addr}{t1 t2 t3 t4 t5 t6:Tok}{esr esf:List DictEntry}{nr nf n3 n4:Nat}{slr slf:Array (Option Value)}{od:Array DictEntry}{F:List Pt}{X:List (Addr×Obj)}
  (hkR:envR.scope.kind≠.module) (hfR:envR.frame=some lc) (hkL:envL.scope.kind≠.module) (hfL:envL.frame=some lf) (hF:FolOk F) (hX:∃ N,X=ndsC N∧NsOk F N∧IsD prg (wv b w) od (kvN N)) :
  Ct prg (wv b w) 540 (some [envR, envL]) (KK (wv b w).params) g d os (.call (.ref 106) ⟨[.ref so], []⟩) ([(n2, dO od n4), (so, soO sd), (sd, sdO (wv b w).params n2 t1 t2 t3 t4 .none 0 0 t5 t6 n3), (lc, locS esr nr slr), (lf, locS esf nf slf)] ++ X)
    (some fun u=>RwS (wv b w) F od u.V X)
    fun u=>(.ok (.ret .none),[(n2,dO od n4),(so,soO sd),(sd,sdO (wv b w).params n2 t1 t2 t3 t4 (.ref u.n) 0 0 t5 t6 u.n3),(u.n,lst u.V u.n2),(lc,locS esr nr u.s3),(lf,locS esf nf u.s4)]++X):=by
 obtain ⟨N,rfl,hN,hd⟩:=hX
 exact ⟨fun B h t R KX hS H x=>(prep hkR hfR hkL hfL hF hN hd).ok B h t R KX hS H fun u h' _ H=>x { u with V:=rdy N } h' ⟨rws_of hF hN hd,trivial⟩ H⟩
theorem rw_loopX {b:Bool}{w:World}{g:Array GenState}{d:Drawn}{os:OsState}{lc so sd n2 ra ro q:Addr}{k1 k2 k3 kp t1 t2 t3 t4:Tok}{vp:Value}{od:Array DictEntry}{n4:Nat}{t5 t6 n3:Nat}{n6 n5 n:Nat}{sl:Array (Option Value)}{F:List Pt}{V:List Value}{X:List (Addr×Obj)}(hF:FolOk F) (hX:RwS (wv b w) F od V X) :
  Ct prg (wv b w) 520 none (KK (wv b w).params) g d os (lpAt (wv b w).params 275 lc 3 [] .none) (rwC (wv b w).params lc so sd n2 ra ro q k1 k2 k3 kp t1 t2 t3 t4 vp od n4 0 t5 t6 n3 V n6 [] n5 [] n sl ++ X)
    (some fun u=>∃ rows,u.X=rowsC rows∧u.V=refsC rows∧RwP F rows)
    fun u=>(.ok .next,[(lc,locS (ent (wv b w).params "folders" k1 (.ref q) :: ent (wv b w).params "rounds" k2 (.ref ro) :: ent (wv b w).params "sorter" k3 (.ref so) :: ent (wv b w).params "path" kp vp :: u.T.toList) u.n sl),(ro,lst u.V u.n2)]++u.X):=by
 obtain ⟨kvs,L0,h1,h2,rfl,h4⟩:=hX
 exact rw_loop hF h4 h2 h1
theorem rnd {b:Bool}{w:World}{g:Array GenState}{d:Drawn}{os:OsState}{envL:Env}{q lf:Addr}{esf:List DictEntry}{nq nf:Nat}{slf:Array (Option Value)}(hkL:envL.scope.kind≠.module) (hfL:envL.frame=some lf) (L:List PT) (hL:FolOk (pts L)) :
  Ct prg (wv b w) 500 (some [envL]) (KK (wv b w).params) g d os (.call (.ref 275) ⟨[.ref q], []⟩) [(q, lst (L.map pv) nq), (lf, locS esf nf slf)]
    (some fun u=>∃ rows,u.X=rowsC rows∧u.V=refsC rows∧RwP (pts L) rows)
    fun u=>(.ok (.ret (.ref u.n)),[(u.n,lst u.V u.n2),(q,lst (L.map pv) nq),(lf,locS esf nf u.s4)]++u.X):=by
 refine ⟨fun B h t R KX hS H x=>?_⟩
 refine' go_ent KX H rfl ?_
 have hnil:∀ od,od=#[]→IsD prg (wv b w) od []:=fun od e=>⟨List.nodup_nil,[],e⟩
 (refine' run_T2 KX Rin.nil H 4000 ⟨[8,5,6],9⟩ rfl [.k,.b 0,.c 0,.f 0,.k,.k,.k,.k,.e,.k,.k,.k,.q,.k,.k,.k,.e,.k,.k,.k,.k,.k,.k,.k,.q,.k,.k,.k,.k,.k,.k,.k,.b 1,.b 2,.k,.c 0,.k,.c 0,.k,.k,.k,.k,.n,.k,.k,.b 3,.c 0,.f 0,.c 0,.f 0,.k,.b 4,.c 1,.c 2,.k,.k,.k,.e,.c 2,.k,.q,.c 2,.k,.c 2,.k,.k,.k,.c 2,.k,.c 3,.f 3,.c 3,.c 1,.c 2,.k,.k,.k,.e,.c 2,.k,.q,.c 2,.k,.c 2,.k,.k,.k,.c 2,.k,.c 3,.f 3,.c 3,.c 1,.c 2,.k,.k,.k,.e,.c 2,.k,.q,.c 2,.k,.c 2,.k,.k,.k,.c 2,.k,.c 3,.f 3,.c 3,.c 1,.c 2,.k,.k,.k,.e,.c 2,.k,.q,.c 2,.k,.c 2,.k,.k,.k,.c 2,.k,.c 3,.f 3,.c 3,.c 1,.b 5,.b 6,.c 0,.c 0,.c 0,.e,.c 0,.q,.b 7,.c 0,.c 0,.e,.c 0,.q,.c 0,.c 0,.c 1,.c 0,.f 0,.c 0,.e,.c 0,.q,.c 0,.c 0,.c 1,.c 0,.f 0,.c 0,.e,.c 0,.q,.c 0,.c 0,.c 1,.c 0,.f 0,.b 8,.b 9,.c 0,.c 9,.f 9,.c 9,.f 9,.c 9,.c 10,.c 10,.e,.c 10,.q,.b 10,.c 0,.v 11 (fun al=>rC KX hS [0,10,9,7,7,5] 7 true (True) (fun _=>fl_loop (it:=(al 10).n) (q:=q) (lc:=(al 0).n) (so:=(al 2).n) (sd:=(al 1).n) (n2:=(al 4).n) (ro:=(al 5).n) (k1:=t) (k2:=t + 1 + 1 + 1 + 1 + 1 + 1 + 1 + 1 + 1 + 1 + 1 + 1 + 1) (k3:=t + 1 + 1 + 1 + 1 + 1 + 1 + 1 + 1 + 1 + 1 + 1 + 1 + 1 + 1) (t1:=t + 1 + 1 + 1 + 1) (t2:=t + 1 + 1 + 1 + 1 + 1 + 1) (t3:=t + 1 + 1 + 1 + 1 + 1 + 1 + 1 + 1 + 1) (t4:=t + 1 + 1 + 1 + 1 + 1 + 1 + 1 + 1 + 1 + 1 + 1 + 1) (t5:=t + 1 + 1 + 1 + 1 + 1 + 1 + 1) (t6:=t + 1 + 1 + 1 + 1 + 1 + 1 + 1 + 1 + 1 + 1) (nq:=nq) (n3:=0 + 1 + 1 + 1 + 1) (n:=0 + 1 + 1 + 1) (n4:=0) (od:=#[]) L hL (hnil _ rfl))),.c 8,.c 9,.k,.k,.k,.c 9,.k,.k,.k,.c 9,.k,.k,.k,.k,.c 9,.c 10,.k,.v 12 (fun al=>rC KX hS [11,9,9,8,6] 7 true (∃ N,(al 11).X=ndsC N∧NsOk (pts L) N∧IsD prg (wv b w) (al 11).T (kvN N)) (fun hp=>prepX (so:=(al 2).n) (sd:=(al 1).n) (n2:=(al 4).1) (t1:=t + 1 + 1 + 1 + 1) (t2:=t + 1 + 1 + 1 + 1 + 1 + 1) (t3:=t + 1 + 1 + 1 + 1 + 1 + 1 + 1 + 1 + 1) (t4:=t + 1 + 1 + 1 + 1 + 1 + 1 + 1 + 1 + 1 + 1 + 1 + 1) (t5:=(al 11).n) (t6:=(al 11).n2) (esr:=[ent (wv b w).params "folders" t (Value.ref q),  ent (wv b w).params "rounds" (t + 1 + 1 + 1 + 1 + 1 + 1 + 1 + 1 + 1 + 1 + 1 + 1 + 1) (Value.ref (al 5).n),  ent (wv b w).params "sorter" (t + 1 + 1 + 1 + 1 + 1 + 1 + 1 + 1 + 1 + 1 + 1 + 1 + 1 + 1) (Value.ref (al 2).n),  ent (wv b w).params "path" (al 11).n4 (al 11).v]) (esf:=esf) (nr:=(al 11).n5) (nf:=nf) (n3:=(al 11).n3) (n4:=(al 11).n6) (slr:=#[]) (slf:=slf) (od:=(al 11).T) (F:=pts L) (X:=(al 11).X) (envR:=envAt (wv b w).params 275 (al 0).n) (fun z=>by cases z) rfl hkL hfL hL hp)),.v 13 (fun al=>rC KX hS [11,8,8,7,7,4] 7 true (RwS (wv b w) (pts L) (al 11).T (al 12).V (al 11).X) (fun hp=>rw_loopX (lc:=(al 0).n) (so:=(al 2).n) (sd:=(al 1).n) (n2:=(al 4).n) (ra:=(al 12).n) (ro:=(al 5).n) (q:=q) (k1:=t) (k2:=t + 1 + 1 + 1 + 1 + 1 + 1 + 1 + 1 + 1 + 1 + 1 + 1 + 1) (k3:=t + 1 + 1 + 1 + 1 + 1 + 1 + 1 + 1 + 1 + 1 + 1 + 1 + 1 + 1) (kp:=(al 11).n4) (t1:=t + 1 + 1 + 1 + 1) (t2:=t + 1 + 1 + 1 + 1 + 1 + 1) (t3:=t + 1 + 1 + 1 + 1 + 1 + 1 + 1 + 1 + 1) (t4:=t + 1 + 1 + 1 + 1 + 1 + 1 + 1 + 1 + 1 + 1 + 1 + 1) (vp:=(al 11).v) (od:=(al 11).T) (n4:=(al 11).n6) (t5:=(al 11).n) (t6:=(al 11).n2) (n3:=(al 12).n3) (n6:=(al 12).n2) (n5:=0) (n:=(al 11).n5) (sl:=(al 12).s3) (F:=pts L) (V:=(al 12).V) (X:=(al 11).X) hL hp)),.c 7] fun al=>end_R2 (r:=(.ok (.ret (.ref _)))) (cs:=([(_,lst _ _),(q,lst (L.map pv) nq),(lf,locS esf nf _)]++_)) (by kernel_rfl) (by kernel_rfl) rfl (by kernel_rfl) ⟨(fun hF=>hF.1),(fun hF=>hF.1),(fun hF=>trivial),trivial⟩ fun hp t hF H=>?_)
 exact x { xd0 with n:=_,n2:=_,V:=_,s4:=_,X:=_,t:=_ } _ ⟨hF.1,trivial⟩ H
noncomputable def slE (P:Params) (q1 q2 m u:Addr) (k1 k2 k3 k4 k5 k6:Tok) (i j:Int) (ti tj:Tok) (ex:List DictEntry):List DictEntry :=
 ent P "expected" k1 (.ref q1) :: ent P "actual" k2 (.ref q2) :: ent P "i" k3 (.int i ti) :: ent P "j" k4 (.int j tj) :: ent P "missing" k5 (.ref m) :: ent P "unexpected" k6 (.ref u) :: ex
noncomputable def tbO (L:Addr) (vs:List Value):Obj:=⟨.type "traceback",none,.fields (.none :: .ref L :: .none :: rawInt L :: .none :: vs).toArray,#[]⟩
theorem load_inv {prog:Program}{w:World}{A:Around}{α:Type}{a:Addr}{q:Option Value}{k:Obj→Sem α}{o:Obj}{Q:α→Shared→Prop}{E:Value→Shared→Prop}{s:Shared}(ho:s.heap.get? a=some o) (h:wpAny (model prog w) A (.load a q k) Q E s):wpAny (model prog w) A (k o) Q E s:=by
 intro Γ p hΓ
 have x:=h Γ p hΓ
 have e:(Sem.load a q k:Sem α)=(loadPart a q).bind k:=rfl
 rw [e,Sem.wp_bind] at x
 exact (Sem.wp_loadPart_of _ Γ _ p s q ho _).mp x
section
variable {b:Bool}{w:World}{g:Array GenState}{d:Drawn}{os:OsState}{q1 q2 m u lc lf:Addr}{k1 k2 k3 k4 k5 k6 k7 k8 ti tj n1 n5:Nat}{L:List PT}{v:PT}{va:Value}{sl:Array (Option Value)}{envL:Env}{esf:List DictEntry}{nf:Nat}{slf:Array (Option Value)}
theorem w1lt_n {i:Nat}{j:Int}{y:PT}(hi:i≤1000) (hv:L[i]?=some y) (hne:y.1≠v.1) :
  Ct prg (wv b w) 540 none (KK (wv b w).params) g d os (lpAt2 (wv b w).params 28 lc 3 [(0, 0), (0, 2), (0, 2)] .none) [(q1, lst (L.map pv) n1), (lc, locS (slE (wv b w).params q1 q2 m u k1 k2 k3 k4 k5 k6 i j ti tj [ent (wv b w).params "e" k7 (pv v), ent (wv b w).params "a" k8 va]) n5 sl)] none
    fun u'=>(.ok .next,[(q1,lst (L.map pv) n1),(lc,locS (slE (wv b w).params q1 q2 m u k1 k2 k3 k4 k5 k6 i j ti tj [ent (wv b w).params "e" k7 (pv v),ent (wv b w).params "a" k8 va]) n5 sl)]):=by
 refine ⟨fun B h t R KX hS H x=>?_⟩
 refine' go_code ?_
 (refine' run_T2 KX Rin.nil H 4000 ⟨[0,1],2⟩ rfl [.c 1,.c 1,.c 0,.c 0,.c 0,.v 0 (fun al=>rItem Rin.nil (.c 0) (pv y)),.c 1,.v 1 (fun al=>rEq (false))] fun al=>end_R2 (r:=(.ok .next)) (cs:=[(q1,lst (L.map pv) n1),(lc,locS (slE (wv b w).params q1 q2 m u k1 k2 k3 k4 k5 k6 i j ti tj [ent (wv b w).params "e" k7 (pv v),ent (wv b w).params "a" k8 va]) n5 sl)]) (by kernel_rfl) (by kernel_rfl) rfl (by kernel_rfl) ⟨(fun hF=>cps_ne hne),(fun hF=>⟨item_of hv,hi⟩),trivial⟩ fun hp t hF H=>?_)
 exact x { xd0 with t:=_ } _ trivial H
theorem w1lt_x {i:Nat}{j:Int}(hkL:envL.scope.kind≠.module) (hfL:envL.frame=some lf) (hi:i≤1000) (hv:L[i]?=none) :
  Ct prg (wv b w) 540 (some [envAt (wv b w).params 28 lc, envL]) (KK (wv b w).params) g d os (lpAt2 (wv b w).params 28 lc 3 [(0, 0), (0, 2), (0, 2)] .none) [(q1, lst (L.map pv) n1), (lc, locS (slE (wv b w).params q1 q2 m u k1 k2 k3 k4 k5 k6 i j ti tj [ent (wv b w).params "e" k7 (pv v), ent (wv b w).params "a" k8 va]) n5 sl), (lf, locS esf nf slf)] none
    fun u'=>(.error (.ref u'.n),[(u'.n2,tbO lc u'.V),(u'.n,excT sIdx u'.v .none u'.n2 u'.d u'.s2),(q1,lst (L.map pv) n1),(lc,locS (slE (wv b w).params q1 q2 m u k1 k2 k3 k4 k5 k6 i j ti tj [ent (wv b w).params "e" k7 (pv v),ent (wv b w).params "a" k8 va]) n5 u'.s3),(lf,locS esf nf u'.s4)]):=by
 refine ⟨fun B h t R KX hS H x=>?_⟩
 refine' go_code ?_
 (refine' run_goK KX Rin.nil H 4000 ⟨[0,1,2],3⟩ rfl [.c 1,.c 1,.c 0,.c 0,.c 0] (fun _=>rfl) (fun _=>by kernel_rfl) (fun al=>trivial) ?_;(try clear H);(try clear hp);intro al hp hF H)
 refine' go_rule (rItemOut Rin.nil (.c 0)) rfl rfl ⟨item_no hv,hi⟩ H fun y hp _ H=>?_
 refine' go_note ?cxr ?cxf ?cxl H ?cxz ?cxn ?cxs ?_
 (case cxr => (
     have rb:=fun γ m0 m1 α β m m' f=>@Cx.bind γ m0 m1 α β m m' f
     have ro:=fun γ m0 m1 α m m' f=>@Cx.onRaise γ m0 m1 α m m' f
     have rc:=fun γ m0 m1 α m m' f=>@Cx.catchs γ m0 m1 α m m' f
     have rk:=fun γ m0 m1 α m m' f=>@Cx.keep γ m0 m1 α m m' f
     have ri:=fun γ m0 m1 α β m m' f r=>@Cx.bindI γ m0 m1 α β m m' f r
     unfold PySem.W.R.bindR at ri
     unfold PySem.W.R.bindR at rb
     unfold PySem.W.R.onRaiseR at ro
     unfold PySem.W.R.catchR at rc
     unfold PySem.W.R.keepR at rk
     iterate 40 (first | with_reducible exact Cx.hole | with_reducible apply ri | with_reducible apply ro | with_reducible apply rb | with_reducible apply rc | with_reducible apply rk | with_reducible apply Cx.bind | with_reducible apply Cx.onRaise | with_reducible apply Cx.catchs | with_reducible apply Cx.keep | skip)))
 (case cxf=>rfl);(case cxl=>rfl);(case cxz=>(repeat (first | exact Cell.head | apply Cell.tail)));(case cxn=>rfl);(case cxs=>(refine' FrsIn.cons ?k1 ?k0 ?k2 (FrsIn.cons hkL hfL ?k3 trivial);(case k1=>(intro x;cases x));(case k0=>rfl);(case k2=>(repeat (first | exact Cell.head | apply Cell.tail)));(case k3=>(repeat (first | exact Cell.head | apply Cell.tail)))));clear H;(try clear hp);intro hp σ T vs H
 (refine' run_T KX Rin.nil H 4000 ⟨[0,1,2,3,4],5⟩ rfl [.t 0] fun al=>end_R (r:=(.error (.ref _))) (cs:=[(_,tbO lc vs),(_,excT sIdx _ .none _ _ _),(q1,lst (L.map pv) n1),(lc,locS (slE (wv b w).params q1 q2 m u k1 k2 k3 k4 k5 k6 i j ti tj [ent (wv b w).params "e" k7 (pv v),ent (wv b w).params "a" k8 va]) n5 _),(lf,locS esf nf _)]) (by kernel_rfl) rfl  trivial fun hp t hF H=>?_)
 exact x { xd0 with n:=_,n2:=_,V:=_,v:=_,d:=_,s2:=_,s3:=_,s4:=_,t:=_ } _ trivial H
theorem w1eq_n {i:Nat}{j:Int}{y:PT}(hi:i≤1000) (hv:L[i]?=some y) (hne:y.1≠v.1) :
  Ct prg (wv b w) 540 none (KK (wv b w).params) g d os (lpAt2 (wv b w).params 28 lc 3 [(0, 0), (0, 2), (1, 0), (1, 1), (0, 0)] .none) [(q1, lst (L.map pv) n1), (lc, locS (slE (wv b w).params q1 q2 m u k1 k2 k3 k4 k5 k6 i j ti tj [ent (wv b w).params "e" k7 (pv v), ent (wv b w).params "a" k8 va]) n5 sl)] none
    fun u'=>(.ok .next,[(q1,lst (L.map pv) n1),(lc,locS (slE (wv b w).params q1 q2 m u k1 k2 k3 k4 k5 k6 i j ti tj [ent (wv b w).params "e" k7 (pv v),ent (wv b w).params "a" k8 va]) n5 sl)]):=by
 refine ⟨fun B h t R KX hS H x=>?_⟩
 refine' go_code ?_
 (refine' run_T2 KX Rin.nil H 4000 ⟨[0,1],2⟩ rfl [.c 1,.c 1,.c 0,.c 0,.c 0,.v 0 (fun al=>rItem Rin.nil (.c 0) (pv y)),.c 1,.v 1 (fun al=>rEq (false))] fun al=>end_R2 (r:=(.ok .next)) (cs:=[(q1,lst (L.map pv) n1),(lc,locS (slE (wv b w).params q1 q2 m u k1 k2 k3 k4 k5 k6 i j ti tj [ent (wv b w).params "e" k7 (pv v),ent (wv b w).params "a" k8 va]) n5 sl)]) (by kernel_rfl) (by kernel_rfl) rfl (by kernel_rfl) ⟨(fun hF=>cps_ne hne),(fun hF=>⟨item_of hv,hi⟩),trivial⟩ fun hp t hF H=>?_)
 exact x { xd0 with t:=_ } _ trivial H
theorem w1eq_x {i:Nat}{j:Int}(hkL:envL.scope.kind≠.module) (hfL:envL.frame=some lf) (hi:i≤1000) (hv:L[i]?=none) :
  Ct prg (wv b w) 540 (some [envAt (wv b w).params 28 lc, envL]) (KK (wv b w).params) g d os (lpAt2 (wv b w).params 28 lc 3 [(0, 0), (0, 2), (1, 0), (1, 1), (0, 0)] .none) [(q1, lst (L.map pv) n1), (lc, locS (slE (wv b w).params q1 q2 m u k1 k2 k3 k4 k5 k6 i j ti tj [ent (wv b w).params "e" k7 (pv v), ent (wv b w).params "a" k8 va]) n5 sl), (lf, locS esf nf slf)] none
    fun u'=>(.error (.ref u'.n),[(u'.n2,tbO lc u'.V),(u'.n,excT sIdx u'.v .none u'.n2 u'.d u'.s2),(q1,lst (L.map pv) n1),(lc,locS (slE (wv b w).params q1 q2 m u k1 k2 k3 k4 k5 k6 i j ti tj [ent (wv b w).params "e" k7 (pv v),ent (wv b w).params "a" k8 va]) n5 u'.s3),(lf,locS esf nf u'.s4)]):=by
 refine ⟨fun B h t R KX hS H x=>?_⟩
 refine' go_code ?_
 (refine' run_goK KX Rin.nil H 4000 ⟨[0,1,2],3⟩ rfl [.c 1,.c 1,.c 0,.c 0,.c 0] (fun _=>rfl) (fun _=>by kernel_rfl) (fun al=>trivial) ?_;(try clear H);(try clear hp);intro al hp hF H)
 refine' go_rule (rItemOut Rin.nil (.c 0)) rfl rfl ⟨item_no hv,hi⟩ H fun y hp _ H=>?_
 refine' go_note ?cxr ?cxf ?cxl H ?cxz ?cxn ?cxs ?_
 (case cxr => (
     have rb:=fun γ m0 m1 α β m m' f=>@Cx.bind γ m0 m1 α β m m' f
     have ro:=fun γ m0 m1 α m m' f=>@Cx.onRaise γ m0 m1 α m m' f
     have rc:=fun γ m0 m1 α m m' f=>@Cx.catchs γ m0 m1 α m m' f
     have rk:=fun γ m0 m1 α m m' f=>@Cx.keep γ m0 m1 α m m' f
     have ri:=fun γ m0 m1 α β m m' f r=>@Cx.bindI γ m0 m1 α β m m' f r
     unfold PySem.W.R.bindR at ri
     unfold PySem.W.R.bindR at rb
     unfold PySem.W.R.onRaiseR at ro
     unfold PySem.W.R.catchR at rc
     unfold PySem.W.R.keepR at rk
     iterate 40 (first | with_reducible exact Cx.hole | with_reducible apply ri | with_reducible apply ro | with_reducible apply rb | with_reducible apply rc | with_reducible apply rk | with_reducible apply Cx.bind | with_reducible apply Cx.onRaise | with_reducible apply Cx.catchs | with_reducible apply Cx.keep | skip)))
 (case cxf=>rfl);(case cxl=>rfl);(case cxz=>(repeat (first | exact Cell.head | apply Cell.tail)));(case cxn=>rfl);(case cxs=>(refine' FrsIn.cons ?k1 ?k0 ?k2 (FrsIn.cons hkL hfL ?k3 trivial);(case k1=>(intro x;cases x));(case k0=>rfl);(case k2=>(repeat (first | exact Cell.head | apply Cell.tail)));(case k3=>(repeat (first | exact Cell.head | apply Cell.tail)))));clear H;(try clear hp);intro hp σ T vs H
 (refine' run_T KX Rin.nil H 4000 ⟨[0,1,2,3,4],5⟩ rfl [.t 0] fun al=>end_R (r:=(.error (.ref _))) (cs:=[(_,tbO lc vs),(_,excT sIdx _ .none _ _ _),(q1,lst (L.map pv) n1),(lc,locS (slE (wv b w).params q1 q2 m u k1 k2 k3 k4 k5 k6 i j ti tj [ent (wv b w).params "e" k7 (pv v),ent (wv b w).params "a" k8 va]) n5 _),(lf,locS esf nf _)]) (by kernel_rfl) rfl  trivial fun hp t hF H=>?_)
 exact x { xd0 with n:=_,n2:=_,V:=_,v:=_,d:=_,s2:=_,s3:=_,s4:=_,t:=_ } _ trivial H
theorem w2gt_n {i:Int}{j:Nat}{y:PT}(hi:j≤1000) (hv:L[j]?=some y) (hne:y.1≠v.1) :
  Ct prg (wv b w) 540 none (KK (wv b w).params) g d os (lpAt2 (wv b w).params 28 lc 3 [(0, 0), (0, 2), (1, 0), (0, 2)] .none) [(q2, lst (L.map pv) n1), (lc, locS (slE (wv b w).params q1 q2 m u k1 k2 k3 k4 k5 k6 i j ti tj [ent (wv b w).params "e" k7 va, ent (wv b w).params "a" k8 (pv v)]) n5 sl)] none
    fun u'=>(.ok .next,[(q2,lst (L.map pv) n1),(lc,locS (slE (wv b w).params q1 q2 m u k1 k2 k3 k4 k5 k6 i j ti tj [ent (wv b w).params "e" k7 va,ent (wv b w).params "a" k8 (pv v)]) n5 sl)]):=by
 refine ⟨fun B h t R KX hS H x=>?_⟩
 refine' go_code ?_
 (refine' run_T2 KX Rin.nil H 4000 ⟨[0,1],2⟩ rfl [.c 1,.c 1,.c 0,.c 0,.c 0,.v 0 (fun al=>rItem Rin.nil (.c 0) (pv y)),.c 1,.v 1 (fun al=>rEq (false))] fun al=>end_R2 (r:=(.ok .next)) (cs:=[(q2,lst (L.map pv) n1),(lc,locS (slE (wv b w).params q1 q2 m u k1 k2 k3 k4 k5 k6 i j ti tj [ent (wv b w).params "e" k7 va,ent (wv b w).params "a" k8 (pv v)]) n5 sl)]) (by kernel_rfl) (by kernel_rfl) rfl (by kernel_rfl) ⟨(fun hF=>cps_ne hne),(fun hF=>⟨item_of hv,hi⟩),trivial⟩ fun hp t hF H=>?_)
 exact x { xd0 with t:=_ } _ trivial H
theorem w2gt_x {i:Int}{j:Nat}(hkL:envL.scope.kind≠.module) (hfL:envL.frame=some lf) (hi:j≤1000) (hv:L[j]?=none) :
  Ct prg (wv b w) 540 (some [envAt (wv b w).params 28 lc, envL]) (KK (wv b w).params) g d os (lpAt2 (wv b w).params 28 lc 3 [(0, 0), (0, 2), (1, 0), (0, 2)] .none) [(q2, lst (L.map pv) n1), (lc, locS (slE (wv b w).params q1 q2 m u k1 k2 k3 k4 k5 k6 i j ti tj [ent (wv b w).params "e" k7 va, ent (wv b w).params "a" k8 (pv v)]) n5 sl), (lf, locS esf nf slf)] none
    fun u'=>(.error (.ref u'.n),[(u'.n2,tbO lc u'.V),(u'.n,excT sIdx u'.v .none u'.n2 u'.d u'.s2),(q2,lst (L.map pv) n1),(lc,locS (slE (wv b w).params q1 q2 m u k1 k2 k3 k4 k5 k6 i j ti tj [ent (wv b w).params "e" k7 va,ent (wv b w).params "a" k8 (pv v)]) n5 u'.s3),(lf,locS esf nf u'.s4)]):=by
 refine ⟨fun B h t R KX hS H x=>?_⟩
 refine' go_code ?_
 (refine' run_goK KX Rin.nil H 4000 ⟨[0,1,2],3⟩ rfl [.c 1,.c 1,.c 0,.c 0,.c 0] (fun _=>rfl) (fun _=>by kernel_rfl) (fun al=>trivial) ?_;(try clear H);(try clear hp);intro al hp hF H)
 refine' go_rule (rItemOut Rin.nil (.c 0)) rfl rfl ⟨item_no hv,hi⟩ H fun y hp _ H=>?_
 refine' go_note ?cxr ?cxf ?cxl H ?cxz ?cxn ?cxs ?_
 (case cxr => (
     have rb:=fun γ m0 m1 α β m m' f=>@Cx.bind γ m0 m1 α β m m' f
     have ro:=fun γ m0 m1 α m m' f=>@Cx.onRaise γ m0 m1 α m m' f
     have rc:=fun γ m0 m1 α m m' f=>@Cx.catchs γ m0 m1 α m m' f
     have rk:=fun γ m0 m1 α m m' f=>@Cx.keep γ m0 m1 α m m' f
     have ri:=fun γ m0 m1 α β m m' f r=>@Cx.bindI γ m0 m1 α β m m' f r
     unfold PySem.W.R.bindR at ri
     unfold PySem.W.R.bindR at rb
     unfold PySem.W.R.onRaiseR at ro
     unfold PySem.W.R.catchR at rc
     unfold PySem.W.R.keepR at rk
     iterate 40 (first | with_reducible exact Cx.hole | with_reducible apply ri | with_reducible apply ro | with_reducible apply rb | with_reducible apply rc | with_reducible apply rk | with_reducible apply Cx.bind | with_reducible apply Cx.onRaise | with_reducible apply Cx.catchs | with_reducible apply Cx.keep | skip)))
 (case cxf=>rfl);(case cxl=>rfl);(case cxz=>(repeat (first | exact Cell.head | apply Cell.tail)));(case cxn=>rfl);(case cxs=>(refine' FrsIn.cons ?k1 ?k0 ?k2 (FrsIn.cons hkL hfL ?k3 trivial);(case k1=>(intro x;cases x));(case k0=>rfl);(case k2=>(repeat (first | exact Cell.head | apply Cell.tail)));(case k3=>(repeat (first | exact Cell.head | apply Cell.tail)))));clear H;(try clear hp);intro hp σ T vs H
 (refine' run_T KX Rin.nil H 4000 ⟨[0,1,2,3,4],5⟩ rfl [.t 0] fun al=>end_R (r:=(.error (.ref _))) (cs:=[(_,tbO lc vs),(_,excT sIdx _ .none _ _ _),(q2,lst (L.map pv) n1),(lc,locS (slE (wv b w).params q1 q2 m u k1 k2 k3 k4 k5 k6 i j ti tj [ent (wv b w).params "e" k7 va,ent (wv b w).params "a" k8 (pv v)]) n5 _),(lf,locS esf nf _)]) (by kernel_rfl) rfl  trivial fun hp t hF H=>?_)
 exact x { xd0 with n:=_,n2:=_,V:=_,v:=_,d:=_,s2:=_,s3:=_,s4:=_,t:=_ } _ trivial H
theorem w2fin_n {i:Int}{j:Nat}{y:PT}(hi:j≤1000) (hv:L[j]?=some y) (hne:y.1≠v.1) :
  Ct prg (wv b w) 540 none (KK (wv b w).params) g d os (lpAt2 (wv b w).params 28 lc 3 [(0, 0), (0, 2), (1, 0), (1, 1), (2, 1)] .none) [(q2, lst (L.map pv) n1), (lc, locS (slE (wv b w).params q1 q2 m u k1 k2 k3 k4 k5 k6 i j ti tj [ent (wv b w).params "e" k7 va, ent (wv b w).params "a" k8 (pv v)]) n5 sl)] none
    fun u'=>(.ok .next,[(q2,lst (L.map pv) n1),(lc,locS (slE (wv b w).params q1 q2 m u k1 k2 k3 k4 k5 k6 i j ti tj [ent (wv b w).params "e" k7 va,ent (wv b w).params "a" k8 (pv v)]) n5 sl)]):=by
 refine ⟨fun B h t R KX hS H x=>?_⟩
 refine' go_code ?_
 (refine' run_T2 KX Rin.nil H 4000 ⟨[0,1],2⟩ rfl [.c 1,.c 1,.c 0,.c 0,.c 0,.v 0 (fun al=>rItem Rin.nil (.c 0) (pv y)),.c 1,.v 1 (fun al=>rEq (false))] fun al=>end_R2 (r:=(.ok .next)) (cs:=[(q2,lst (L.map pv) n1),(lc,locS (slE (wv b w).params q1 q2 m u k1 k2 k3 k4 k5 k6 i j ti tj [ent (wv b w).params "e" k7 va,ent (wv b w).params "a" k8 (pv v)]) n5 sl)]) (by kernel_rfl) (by kernel_rfl) rfl (by kernel_rfl) ⟨(fun hF=>cps_ne hne),(fun hF=>⟨item_of hv,hi⟩),trivial⟩ fun hp t hF H=>?_)
 exact x { xd0 with t:=_ } _ trivial H
theorem w2fin_x {i:Int}{j:Nat}(hkL:envL.scope.kind≠.module) (hfL:envL.frame=some lf) (hi:j≤1000) (hv:L[j]?=none) :
  Ct prg (wv b w) 540 (some [envAt (wv b w).params 28 lc, envL]) (KK (wv b w).params) g d os (lpAt2 (wv b w).params 28 lc 3 [(0, 0), (0, 2), (1, 0), (1, 1), (2, 1)] .none) [(q2, lst (L.map pv) n1), (lc, locS (slE (wv b w).params q1 q2 m u k1 k2 k3 k4 k5 k6 i j ti tj [ent (wv b w).params "e" k7 va, ent (wv b w).params "a" k8 (pv v)]) n5 sl), (lf, locS esf nf slf)] none
    fun u'=>(.error (.ref u'.n),[(u'.n2,tbO lc u'.V),(u'.n,excT sIdx u'.v .none u'.n2 u'.d u'.s2),(q2,lst (L.map pv) n1),(lc,locS (slE (wv b w).params q1 q2 m u k1 k2 k3 k4 k5 k6 i j ti tj [ent (wv b w).params "e" k7 va,ent (wv b w).params "a" k8 (pv v)]) n5 u'.s3),(lf,locS esf nf u'.s4)]):=by
 refine ⟨fun B h t R KX hS H x=>?_⟩
 refine' go_code ?_
 (refine' run_goK KX Rin.nil H 4000 ⟨[0,1,2],3⟩ rfl [.c 1,.c 1,.c 0,.c 0,.c 0] (fun _=>rfl) (fun _=>by kernel_rfl) (fun al=>trivial) ?_;(try clear H);(try clear hp);intro al hp hF H)
 refine' go_rule (rItemOut Rin.nil (.c 0)) rfl rfl ⟨item_no hv,hi⟩ H fun y hp _ H=>?_
 refine' go_note ?cxr ?cxf ?cxl H ?cxz ?cxn ?cxs ?_
 (case cxr => (
     have rb:=fun γ m0 m1 α β m m' f=>@Cx.bind γ m0 m1 α β m m' f
     have ro:=fun γ m0 m1 α m m' f=>@Cx.onRaise γ m0 m1 α m m' f
     have rc:=fun γ m0 m1 α m m' f=>@Cx.catchs γ m0 m1 α m m' f
     have rk:=fun γ m0 m1 α m m' f=>@Cx.keep γ m0 m1 α m m' f
     have ri:=fun γ m0 m1 α β m m' f r=>@Cx.bindI γ m0 m1 α β m m' f r
     unfold PySem.W.R.bindR at ri
     unfold PySem.W.R.bindR at rb
     unfold PySem.W.R.onRaiseR at ro
     unfold PySem.W.R.catchR at rc
     unfold PySem.W.R.keepR at rk
     iterate 40 (first | with_reducible exact Cx.hole | with_reducible apply ri | with_reducible apply ro | with_reducible apply rb | with_reducible apply rc | with_reducible apply rk | with_reducible apply Cx.bind | with_reducible apply Cx.onRaise | with_reducible apply Cx.catchs | with_reducible apply Cx.keep | skip)))
 (case cxf=>rfl);(case cxl=>rfl);(case cxz=>(repeat (first | exact Cell.head | apply Cell.tail)));(case cxn=>rfl);(case cxs=>(refine' FrsIn.cons ?k1 ?k0 ?k2 (FrsIn.cons hkL hfL ?k3 trivial);(case k1=>(intro x;cases x));(case k0=>rfl);(case k2=>(repeat (first | exact Cell.head | apply Cell.tail)));(case k3=>(repeat (first | exact Cell.head | apply Cell.tail)))));clear H;(try clear hp);intro hp σ T vs H
 (refine' run_T KX Rin.nil H 4000 ⟨[0,1,2,3,4],5⟩ rfl [.t 0] fun al=>end_R (r:=(.error (.ref _))) (cs:=[(_,tbO lc vs),(_,excT sIdx _ .none _ _ _),(q2,lst (L.map pv) n1),(lc,locS (slE (wv b w).params q1 q2 m u k1 k2 k3 k4 k5 k6 i j ti tj [ent (wv b w).params "e" k7 va,ent (wv b w).params "a" k8 (pv v)]) n5 _),(lf,locS esf nf _)]) (by kernel_rfl) rfl  trivial fun hp t hF H=>?_)
 exact x { xd0 with n:=_,n2:=_,V:=_,v:=_,d:=_,s2:=_,s3:=_,s4:=_,t:=_ } _ trivial H
end
section
open PySem.W PySem.W.ZFast
noncomputable def whT:Stmt→Expr
 | .While t _ _ _ => t
 | _ => default
noncomputable def hsT:Stmt→List ExceptHandler
 | .Try _ h _ _ _ => h
 | _ => []
noncomputable def wlT (st:Stmt) (env:Env) (m:Sem Flow):Sem Fin:=R.onRaiseR (R.bindR m fun f=>match f with
 | .next | .cont => zw12377390311714414960 (.whileLoop (whT st) (subL st 0) (subL st 1) env)
 | .brk => .pure (.done .next)
 | .ret v => .pure (.done (.ret v))) (fun x => R.bindR (noteFrameY x env) fun _ => zw1623429502029203251 x)
noncomputable def tyT (st:Stmt) (env:Env) (m:Sem Flow):Sem Flow:=zw11253931983154730583 false m (hsT st) (zw12563942051412417395 (subL st 1) env) (subL st 2) env
noncomputable def hsO (st:Stmt) (e:Value) (env:Env) (m:Sem Unit):Sem Flow:=R.bindR m fun _=>R.bindR (zw5670386056902412789 e none) fun _=>zw14206642085496868694 e env (hsT st)
noncomputable def thT (e:Value) (m:Sem Unit):Sem Flow:=R.bindR m fun _=>throw e
noncomputable def fiO (st:Stmt) (e:Value) (env:Env) (m:Sem Unit):Sem Flow:=R.bindR m fun _=>R.bindR (zw5670386056902412789 e none) fun _=>R.bindR (zw17359229931016689406 [e] (zw9046067596548197636 (.block (subL st 2) env) env (some e))) fun f=>match f with
 | .next => zw4601389910855378106 SZ.s16505217086390405456x11 e env
 | f' => R.bindR (PySem.rule "try.finally-swallows-exception") fun _ => R.bindR (zw5670386056902412789 e none) fun _ => .pure f'
noncomputable def fiT (st:Stmt) (env:Env) (m:Sem Flow):Sem Flow:=R.bindR (zw3205988728414705400 m) fun r=>match r with
 | .ok f => R.bindR (zw17359229931016689406 (match f with | .ret v => [v] | _ => []) (zw9046067596548197636 (.block (subL st 2) env) env)) fun g => match g with
   | .next => .pure f
   | f' => R.bindR (PySem.rule "try.finally-overrides-flow") fun _ => .pure f'
 | .error e => fiO st e env (noteFrameY e env)
noncomputable def blO (e:Value) (m:Sem Unit):Sem Fin:=R.bindR (R.bindR (R.bindR m fun _=>zw1623429502029203251 e) fun _=>(Sem.raise e:Sem Flow)) fun f=>.pure (.done f)
variable {γ:Type}{m0 m1:Sem γ}{st:Stmt}{env:Env}{ev:Value}
theorem cx_wl {m m':Sem Flow}(r:Cx m0 m1 m m'):Cx m0 m1 (wlT st env m) (wlT st env m'):=Cx.onRaise (Cx.bind r)
theorem cx_sq {ss:List Stmt}{m m':Sem Flow}(r:Cx m0 m1 m m'):Cx m0 m1 (sqT ss env m) (sqT ss env m'):=Cx.bind r
theorem cx_ty (h:subL st 2=[]){m m':Sem Flow}(r:Cx m0 m1 m m'):Cx m0 m1 (tyT st env m) (tyT st env m'):=by
 unfold tyT zw11253931983154730583
 rw [h]
 exact Cx.bind (Cx.catchs (Cx.bind r))
theorem cx_hs {m m':Sem Unit}(r:Cx m0 m1 m m'):Cx m0 m1 (hsO st ev env m) (hsO st ev env m'):=Cx.bind r
theorem cx_th {m m':Sem Unit}(r:Cx m0 m1 m m'):Cx m0 m1 (thT ev m) (thT ev m'):=Cx.bind r
theorem cx_fo {m m':Sem Unit}(r:Cx m0 m1 m m'):Cx m0 m1 (fiO st ev env m) (fiO st ev env m'):=Cx.bind r
theorem cx_bl {m m':Sem Unit}(r:Cx m0 m1 m m'):Cx m0 m1 (blO ev m) (blO ev m'):=Cx.bind (Cx.bind (Cx.bind r))
theorem cx_fi {m m':Sem Flow}(r:Cx m0 m1 m m'):Cx m0 m1 (fiT st env m) (fiT st env m'):=Cx.bind (Cx.catchs (Cx.bind r))
theorem go_ag {prog:Program}{w:World}{A:Around}{R:Result→Shared→Prop}{l:List Kt}{c:Code}{h:Heap}{g:Array GenState}{d:Drawn}{t:Nat}{os:OsState}{L e T:Addr}{oe oT:Obj}{vs ts:Array Value}{tr tr':Sem Fin}
   (r:Cx (noteFrameY (.ref e) env) (.pure ()) tr tr') (hf:env.frame=some L) (he:h.get? e=some oe) (hd:oe.data=.fields vs) (h1:vs[1]?=some (.ref T)) (hT:h.get? T=some oT) (hdT:oT.data=.fields ts) (h3:ts[3]?=some (rawInt L))
   (x:Go prog w A R l c tr' ⟨h,g,d,t,os⟩):Go prog w A R l c tr ⟨h,g,d,t,os⟩:=by
 refine go_cx (fun s'=>s'=⟨h,g,d,t,os⟩) r ?_ (fun s' e=>e ▸ x)
 rw [← noteFrameY_eq]
 unfold noteFrame
 simp only [hf]
 refine wpAny_bind (wpAny_field he hd h1 ?_)
 rw [if_pos (show (Value.ref T != Value.none)=true from by simp)]
 refine wpAny_bind (wpAny_field hT hdT h3 ?_)
 rw [if_pos (show (rawInt L == rawInt L)=true from by simp)]
 exact wpAny_pure (by simp)
theorem go_agD {prog:Program}{w:World}{A:Around}{R:Result→Shared→Prop}{l:List Kt}{c:Code}{B:Addr→Option Obj}{h:Heap}{g:Array GenState}{d:Drawn}{t:Nat}{os:OsState}{L e T:Addr}{k:String}{v cx:Value}{dd:Option Addr}{ss:Array (Option Value)}{V:List Value}{rest:List (Addr×Obj)}{tr tr':Sem Fin}
   (r:Cx (noteFrameY (.ref e) env) (.pure ()) tr tr') (hf:env.frame=some L) (H:Hp B h ((T,tbO L V) :: (e,excT k v cx T dd ss) :: rest))
   (x:Go prog w A R l c tr' ⟨h,g,d,t,os⟩):Go prog w A R l c tr ⟨h,g,d,t,os⟩ :=
 go_ag r hf (own_pick (p:=1) rfl H) rfl rfl (own_pick (p:=0) rfl H) rfl rfl x
end
noncomputable def slC (P:Params) (q1 q2 m u lc lf:Addr) (k1 k2 k3 k4 k5 k6:Tok) (L1 L2:List PT) (n1 n2:Nat) (esf:List DictEntry) (nf:Nat) (i j:Int) (ti tj:Tok) (ex:List DictEntry) (n5:Nat) (sl:Array (Option Value)) (M U:List Value) (n3 n4:Nat) (slf:Array (Option Value)):List (Addr×Obj) :=
 [(q1,lst (L1.map pv) n1),(q2,lst (L2.map pv) n2),(lc,locS (slE P q1 q2 m u k1 k2 k3 k4 k5 k6 i j ti tj ex) n5 sl),(m,lst M n3),(u,lst U n4),(lf,locS esf nf slf)]
theorem slice_fr {L:List PT}{i:Nat}(h:i≤L.length):slicePick (L.map pv).toArray (some (i:Int)) none none=((L.drop i).map pv).toArray:=by
 rw [slicePick_from _ _ (by simpa using h),List.map_drop]
structure SlB (L1 L2 : List PT) (M U : List Value) (v1 v2 : PT) (i j : Nat) : Prop where
 h1:L1.length≤100
 h2:L2.length≤100
 hM:M.length≤100
 hU:U.length≤100
 x1:L1[i]?=some v1
 x2:L2[j]?=some v2
section
variable {L1 L2:List PT}{M U:List Value}{v1 v2:PT}{i j:Nat}
theorem SlB.li (k:SlB L1 L2 M U v1 v2 i j):i < L1.length:=(List.getElem?_eq_some_iff.mp k.x1).1
theorem SlB.lj (k:SlB L1 L2 M U v1 v2 i j):j < L2.length:=(List.getElem?_eq_some_iff.mp k.x2).1
theorem SlB.bi (k:SlB L1 L2 M U v1 v2 i j):i≤1000:=by have:=k.li;have:=k.h1;omega
theorem SlB.bj (k:SlB L1 L2 M U v1 v2 i j):j≤1000:=by have:=k.lj;have:=k.h2;omega
theorem SlB.bi1 (k:SlB L1 L2 M U v1 v2 i j):i + 1≤1000:=by have:=k.li;have:=k.h1;omega
theorem SlB.bj1 (k:SlB L1 L2 M U v1 v2 i j):j + 1≤1000:=by have:=k.lj;have:=k.h2;omega
theorem SlB.bM (k:SlB L1 L2 M U v1 v2 i j):M.length≤1000:=by have:=k.hM;omega
theorem SlB.bU (k:SlB L1 L2 M U v1 v2 i j):U.length≤1000:=by have:=k.hU;omega
theorem SlB.bM1 (k:SlB L1 L2 M U v1 v2 i j) (v:Value):(M++[v]).length≤1000:=by have:=k.hM;rw [List.length_append];show M.length + 1≤1000;omega
theorem SlB.bU1 (k:SlB L1 L2 M U v1 v2 i j) (v:Value):(U++[v]).length≤1000:=by have:=k.hU;rw [List.length_append];show U.length + 1≤1000;omega
theorem SlB.s1 (k:SlB L1 L2 M U v1 v2 i j){n:Nat}(h:n≤L1.length):slicePick (L1.map pv).toArray (some (n:Int)) none none=((L1.drop n).map pv).toArray∧(L1.map pv).length≤1000:=⟨slice_fr h,by have:=k.h1;rw [List.length_map];omega⟩
theorem SlB.s2 (k:SlB L1 L2 M U v1 v2 i j){n:Nat}(h:n≤L2.length):slicePick (L2.map pv).toArray (some (n:Int)) none none=((L2.drop n).map pv).toArray∧(L2.map pv).length≤1000:=⟨slice_fr h,by have:=k.h2;rw [List.length_map];omega⟩
theorem SlB.d1 (k:SlB L1 L2 M U v1 v2 i j) (n:Nat):((L1.drop n).map pv).length≤1000:=by have:=k.h1;rw [List.length_map,List.length_drop];omega
theorem SlB.d2 (k:SlB L1 L2 M U v1 v2 i j) (n:Nat):((L2.drop n).map pv).length≤1000:=by have:=k.h2;rw [List.length_map,List.length_drop];omega
end
section
variable {b:Bool}{w:World}{R:Result→Shared→Prop}{h:Heap}{g:Array GenState}{d:Drawn}{t:Nat}{os:OsState}{B:Addr→Option Obj}{q1 q2 m u lc lf:Addr}{k1 k2 k3 k4 k5 k6 k7 k8 ti tj n1 n2 n3 n4 n5 nf:Nat}{L1 L2:List PT}{M U:List Value}{v1 v2 y1 y2:PT}{x7 x8:Value}{i j:Nat}{sl slf:Array (Option Value)}{envL:Env}{esf:List DictEntry}
theorem slA1 (hkL:envL.scope.kind≠.module) (hfL:envL.frame=some lf) (KX:Kin (KK (wv b w).params) B) (hS:(B sysModules).isSome=true) (H:Hp B h (slC (wv b w).params q1 q2 m u lc lf k1 k2 k3 k4 k5 k6 L1 L2 n1 n2 esf nf i j ti tj [ent (wv b w).params "e" k7 x7,ent (wv b w).params "a" k8 x8] n5 sl M U n3 n4 slf)) (k:SlB L1 L2 M U v1 v2 i j) (c1:decide ((sp v1.1).cps.toList < (sp v2.1).cps.toList)=true) (e1:L1[i + 1]?=some y1) (f1:y1.1≠v1.1)
  (IH:∀ h' t' ti tj k7 k8 n5 n3 n4,Hp B h' (slC (wv b w).params q1 q2 m u lc lf k1 k2 k3 k4 k5 k6 L1 L2 n1 n2 esf nf ((i + 1:Nat):Int) j ti tj [ent (wv b w).params "e" k7 (pv v1),ent (wv b w).params "a" k8 (pv v2)] n5 sl (M++[pv v1]) U n3 n4 slf)→codeAny (model prg (wv b w)) (AF 520 (some [envAt (wv b w).params 28 lc,envL])) (lpAt2 (wv b w).params 28 lc 3 [] .none) R ⟨h',g,d,t',os⟩) :
  codeAny (model prg (wv b w)) (AF 520 (some [envAt (wv b w).params 28 lc,envL])) (lpAt2 (wv b w).params 28 lc 3 [] .none) R ⟨h,g,d,t,os⟩:=by
 refine' go_code ?_
 (refine' run_T2 KX Rin.nil H 4000 ⟨[4,0,5,1,2,3],6⟩ rfl [.c 2,.c 2,.c 0,.c 0,.c 0,.v 0 (fun al=>rItem Rin.nil (.c 0) (pv v1)),.c 2,.c 2,.c 2,.c 2,.c 1,.c 1,.c 1,.v 1 (fun al=>rItem Rin.nil (.c 1) (pv v2)),.c 2,.g 2,.c 2,.c 2,.v 2 (fun al=>rLt (true)),.c 2,.c 3,.c 3,.c 3,.c 3,.c 2,.v 3 (fun al=>rAppend 3),.c 2,.e,.q,.c 2,.g 2,.v 4 (fun al=>rC KX hS [0,1] 4 false (True) (fun _=>w1lt_n (q1:=q1) (q2:=q2) (m:=m) (u:=u) (lc:=lc) (k1:=k1) (k2:=k2) (k3:=k3) (k4:=k4) (k5:=k5) (k6:=k6) (k7:=k7) (k8:=k8) (ti:=(al 3).n2 + 1) (tj:=tj) (n1:=n1) (n5:=n5) (va:=Value.str (sp v2.fst) v2.snd) (sl:=sl) (j:=↑j) k.bi1 e1 f1))] fun al=>end_A2 (c:=(lpAt2 (wv b w).params 28 lc 3 [] .none)) (cs:=(slC (wv b w).params q1 q2 m u lc lf k1 k2 k3 k4 k5 k6 L1 L2 n1 n2 esf nf ((i + 1:Nat):Int) j _ _ [ent (wv b w).params "e" _ (pv v1),ent (wv b w).params "a" _ (pv v2)] _ sl (M++[pv v1]) U _ _ slf)) (by kernel_rfl) (by kernel_rfl) rfl (by kernel_rfl) ⟨(fun hF=>trivial),(fun hF=>k.bM),(fun hF=>c1),(fun hF=>⟨item_of k.x2,k.bj⟩),(fun hF=>⟨item_of k.x1,k.bi⟩),trivial⟩ fun hp t hF H=>?_)
 exact IH _ _ _ _ _ _ _ _ _ H
theorem slA2 (hkL:envL.scope.kind≠.module) (hfL:envL.frame=some lf) (KX:Kin (KK (wv b w).params) B) (hS:(B sysModules).isSome=true) (H:Hp B h (slC (wv b w).params q1 q2 m u lc lf k1 k2 k3 k4 k5 k6 L1 L2 n1 n2 esf nf i j ti tj [ent (wv b w).params "e" k7 x7,ent (wv b w).params "a" k8 x8] n5 sl M U n3 n4 slf)) (k:SlB L1 L2 M U v1 v2 i j) (c1:decide ((sp v1.1).cps.toList < (sp v2.1).cps.toList)=true) (e1:L1[i + 1]?=none)
  (x:∀ h' t' ti tj ex n5 sl n3 n4 slf,Hp B h' (slC (wv b w).params q1 q2 m u lc lf k1 k2 k3 k4 k5 k6 L1 L2 n1 n2 esf nf ((i + 1:Nat):Int) j ti tj ex n5 sl ((M++[pv v1])++(L1.drop (i + 1)).map pv) (U++(L2.drop j).map pv) n3 n4 slf)→R (.ok .next) ⟨h',g,d,t',os⟩) :
  codeAny (model prg (wv b w)) (AF 520 (some [envAt (wv b w).params 28 lc,envL])) (lpAt2 (wv b w).params 28 lc 3 [] .none) R ⟨h,g,d,t,os⟩:=by
 refine' go_code ?_
 (refine' run_T2 KX Rin.nil H 4000 ⟨[3,4,5,0,6,1,2,7],8⟩ rfl [.c 2,.c 2,.c 0,.c 0,.c 0,.v 0 (fun al=>rItem Rin.nil (.c 0) (pv v1)),.c 2,.c 2,.c 2,.c 2,.c 1,.c 1,.c 1,.v 1 (fun al=>rItem Rin.nil (.c 1) (pv v2)),.c 2,.g 2,.c 2,.c 2,.v 2 (fun al=>rLt (true)),.c 2,.c 3,.c 3,.c 3,.c 3,.c 2,.v 3 (fun al=>rAppend 3),.c 2,.e,.q,.c 2,.g 2,.v 4 (fun al=>rC KX hS [0,1,3] 3 false (True) (fun _=>w1lt_x (q1:=q1) (q2:=q2) (m:=m) (u:=u) (lc:=lc) (k1:=k1) (k2:=k2) (k3:=k3) (k4:=k4) (k5:=k5) (k6:=k6) (k7:=k7) (k8:=k8) (ti:=(al 3).n2 + 1) (tj:=tj) (n1:=n1) (n5:=n5) (v:=v1) (va:=Value.str (sp v2.fst) v2.snd) (sl:=sl) (esf:=esf) (nf:=nf) (slf:=slf) (j:=↑j) hkL hfL k.bi1 e1)),.c 4,.c 4,.c 3,.c 3] fun al=>end_M2 (c:=(lpAt2 (wv b w).params 28 lc 3 [] .none)) (t:=(wlT (stAt2 (bdAt (wv b w).params 28) 3 []) (envAt (wv b w).params 28 lc) (sqT [] (envAt (wv b w).params 28 lc) (hsO (stAt2 (bdAt (wv b w).params 28) 3 [(0,0)]) (.ref (al 4).n) (envAt (wv b w).params 28 lc) (PySem.W.ZFast.noteFrameY (.ref (al 4).n) (envAt (wv b w).params 28 lc)))))) (cs:=((_,tbO lc _) :: (_,excT sIdx _ .none _ _ _) :: (slC (wv b w).params q1 q2 m u lc lf k1 k2 k3 k4 k5 k6 L1 L2 n1 n2 esf nf ((i + 1:Nat):Int) j _ _ [ent (wv b w).params "e" _ (pv v1),ent (wv b w).params "a" _ (pv v2)] _ _ (M++[pv v1]) U _ _ _))) (by kernel_rfl) (by kernel_rfl) rfl (by kernel_rfl) (by kernel_rfl) (by kernel_rfl) ⟨(fun hF=>trivial),(fun hF=>k.bM),(fun hF=>c1),(fun hF=>⟨item_of k.x2,k.bj⟩),(fun hF=>⟨item_of k.x1,k.bi⟩),trivial⟩ fun hp iq hF H=>?_)
 refine' go_agD (cx_wl (cx_sq (cx_hs .hole))) rfl H ?_
 (refine' run_T KX Rin.nil H 4000 ⟨[6,7,8,9,10,11],12⟩ rfl [.c 1,.c 0,.c 0,.e,.k,.k,.c 1,.e,.c 1,.c 0,.c 0,.c 4,.c 5,.c 5,.c 5,.c 5,.c 4,.c 4,.b 0,.c 3,.c 3,.c 3,.v 1 (fun al=>rLslice Rin.nil (.c 3) (.c 0) ((L1.drop (i + 1)).map pv)),.v 2 (fun al=>rExtend Rin.nil 7 (.c 0)),.c 6,.c 8,.c 8,.c 8,.c 8,.c 6,.c 6,.b 3,.c 6,.c 6,.c 6,.v 4 (fun al=>rLslice Rin.nil (.c 6) (.c 0) ((L2.drop j).map pv)),.v 5 (fun al=>rExtend Rin.nil 10 (.c 0))] fun al=>end_R (r:=(.ok .next)) (cs:=(slC (wv b w).params q1 q2 m u lc lf k1 k2 k3 k4 k5 k6 L1 L2 n1 n2 esf nf ((i + 1:Nat):Int) j _ _ _ _ _ ((M++[pv v1])++(L1.drop (i + 1)).map pv) (U++(L2.drop j).map pv) _ _ _)) (by kernel_rfl) rfl  ⟨(fun hF=>⟨k.bU,k.d2 _⟩),(fun hF=>k.s2 (Nat.le_of_lt k.lj)),(fun hF=>⟨k.bM1 _,k.d1 _⟩),(fun hF=>k.s1 k.li),trivial⟩ fun hp t hF H=>?_)
 exact x _ _ _ _ _ _ _ _ _ _ H
theorem slB1 (hkL:envL.scope.kind≠.module) (hfL:envL.frame=some lf) (KX:Kin (KK (wv b w).params) B) (hS:(B sysModules).isSome=true) (H:Hp B h (slC (wv b w).params q1 q2 m u lc lf k1 k2 k3 k4 k5 k6 L1 L2 n1 n2 esf nf i j ti tj [ent (wv b w).params "e" k7 x7,ent (wv b w).params "a" k8 x8] n5 sl M U n3 n4 slf)) (k:SlB L1 L2 M U v1 v2 i j) (c1:decide ((sp v1.1).cps.toList < (sp v2.1).cps.toList)=false) (c2:decide ((sp v2.1).cps.toList < (sp v1.1).cps.toList)=true) (e2:L2[j + 1]?=some y2) (f2:y2.1≠v2.1)
  (IH:∀ h' t' ti tj k7 k8 n5 n3 n4,Hp B h' (slC (wv b w).params q1 q2 m u lc lf k1 k2 k3 k4 k5 k6 L1 L2 n1 n2 esf nf i ((j + 1:Nat):Int) ti tj [ent (wv b w).params "e" k7 (pv v1),ent (wv b w).params "a" k8 (pv v2)] n5 sl M (U++[pv v2]) n3 n4 slf)→codeAny (model prg (wv b w)) (AF 520 (some [envAt (wv b w).params 28 lc,envL])) (lpAt2 (wv b w).params 28 lc 3 [] .none) R ⟨h',g,d,t',os⟩) :
  codeAny (model prg (wv b w)) (AF 520 (some [envAt (wv b w).params 28 lc,envL])) (lpAt2 (wv b w).params 28 lc 3 [] .none) R ⟨h,g,d,t,os⟩:=by
 refine' go_code ?_
 (refine' run_T2 KX Rin.nil H 4000 ⟨[0,4,5,1,2,3],6⟩ rfl [.c 2,.c 2,.c 0,.c 0,.c 0,.v 0 (fun al=>rItem Rin.nil (.c 0) (pv v1)),.c 2,.c 2,.c 2,.c 2,.c 1,.c 1,.c 1,.v 1 (fun al=>rItem Rin.nil (.c 1) (pv v2)),.c 2,.g 2,.c 2,.c 2,.v 2 (fun al=>rLt (false)),.c 2,.c 2,.v 3 (fun al=>rGt (true)),.c 2,.c 4,.c 4,.c 4,.c 4,.c 2,.v 4 (fun al=>rAppend 4),.c 2,.e,.q,.c 2,.g 2,.v 5 (fun al=>rC KX hS [1,1] 4 false (True) (fun _=>w2gt_n (q1:=q1) (q2:=q2) (m:=m) (u:=u) (lc:=lc) (k1:=k1) (k2:=k2) (k3:=k3) (k4:=k4) (k5:=k5) (k6:=k6) (k7:=k7) (k8:=k8) (ti:=ti) (tj:=(al 4).n2 + 1) (n1:=n2) (n5:=n5) (va:=Value.str (sp v1.fst) v1.snd) (sl:=sl) (i:=↑i) k.bj1 e2 f2))] fun al=>end_A2 (c:=(lpAt2 (wv b w).params 28 lc 3 [] .none)) (cs:=(slC (wv b w).params q1 q2 m u lc lf k1 k2 k3 k4 k5 k6 L1 L2 n1 n2 esf nf i ((j + 1:Nat):Int) _ _ [ent (wv b w).params "e" _ (pv v1),ent (wv b w).params "a" _ (pv v2)] _ sl M (U++[pv v2]) _ _ slf)) (by kernel_rfl) (by kernel_rfl) rfl (by kernel_rfl) ⟨(fun hF=>trivial),(fun hF=>k.bU),(fun hF=>c2),(fun hF=>c1),(fun hF=>⟨item_of k.x2,k.bj⟩),(fun hF=>⟨item_of k.x1,k.bi⟩),trivial⟩ fun hp t hF H=>?_)
 exact IH _ _ _ _ _ _ _ _ _ H
theorem slB2 (hkL:envL.scope.kind≠.module) (hfL:envL.frame=some lf) (KX:Kin (KK (wv b w).params) B) (hS:(B sysModules).isSome=true) (H:Hp B h (slC (wv b w).params q1 q2 m u lc lf k1 k2 k3 k4 k5 k6 L1 L2 n1 n2 esf nf i j ti tj [ent (wv b w).params "e" k7 x7,ent (wv b w).params "a" k8 x8] n5 sl M U n3 n4 slf)) (k:SlB L1 L2 M U v1 v2 i j) (c1:decide ((sp v1.1).cps.toList < (sp v2.1).cps.toList)=false) (c2:decide ((sp v2.1).cps.toList < (sp v1.1).cps.toList)=true) (e2:L2[j + 1]?=none)
  (x:∀ h' t' ti tj ex n5 sl n3 n4 slf,Hp B h' (slC (wv b w).params q1 q2 m u lc lf k1 k2 k3 k4 k5 k6 L1 L2 n1 n2 esf nf i ((j + 1:Nat):Int) ti tj ex n5 sl (M++(L1.drop i).map pv) ((U++[pv v2])++(L2.drop (j + 1)).map pv) n3 n4 slf)→R (.ok .next) ⟨h',g,d,t',os⟩) :
  codeAny (model prg (wv b w)) (AF 520 (some [envAt (wv b w).params 28 lc,envL])) (lpAt2 (wv b w).params 28 lc 3 [] .none) R ⟨h,g,d,t,os⟩:=by
 refine' go_code ?_
 (refine' run_T2 KX Rin.nil H 4000 ⟨[3,4,0,5,6,1,2,7],8⟩ rfl [.c 2,.c 2,.c 0,.c 0,.c 0,.v 0 (fun al=>rItem Rin.nil (.c 0) (pv v1)),.c 2,.c 2,.c 2,.c 2,.c 1,.c 1,.c 1,.v 1 (fun al=>rItem Rin.nil (.c 1) (pv v2)),.c 2,.g 2,.c 2,.c 2,.v 2 (fun al=>rLt (false)),.c 2,.c 2,.v 3 (fun al=>rGt (true)),.c 2,.c 4,.c 4,.c 4,.c 4,.c 2,.v 4 (fun al=>rAppend 4),.c 2,.e,.q,.c 2,.g 2,.v 5 (fun al=>rC KX hS [1,1,3] 3 false (True) (fun _=>w2gt_x (q1:=q1) (q2:=q2) (m:=m) (u:=u) (lc:=lc) (k1:=k1) (k2:=k2) (k3:=k3) (k4:=k4) (k5:=k5) (k6:=k6) (k7:=k7) (k8:=k8) (ti:=ti) (tj:=(al 4).n2 + 1) (n1:=n2) (n5:=n5) (v:=v2) (va:=Value.str (sp v1.fst) v1.snd) (sl:=sl) (esf:=esf) (nf:=nf) (slf:=slf) (i:=↑i) hkL hfL k.bj1 e2)),.c 4,.c 4,.c 3,.c 3] fun al=>end_M2 (c:=(lpAt2 (wv b w).params 28 lc 3 [] .none)) (t:=(wlT (stAt2 (bdAt (wv b w).params 28) 3 []) (envAt (wv b w).params 28 lc) (sqT [] (envAt (wv b w).params 28 lc) (hsO (stAt2 (bdAt (wv b w).params 28) 3 [(0,0)]) (.ref (al 5).n) (envAt (wv b w).params 28 lc) (PySem.W.ZFast.noteFrameY (.ref (al 5).n) (envAt (wv b w).params 28 lc)))))) (cs:=((_,tbO lc _) :: (_,excT sIdx _ .none _ _ _) :: (slC (wv b w).params q1 q2 m u lc lf k1 k2 k3 k4 k5 k6 L1 L2 n1 n2 esf nf i ((j + 1:Nat):Int) _ _ [ent (wv b w).params "e" _ (pv v1),ent (wv b w).params "a" _ (pv v2)] _ _ M (U++[pv v2]) _ _ _))) (by kernel_rfl) (by kernel_rfl) rfl (by kernel_rfl) (by kernel_rfl) (by kernel_rfl) ⟨(fun hF=>trivial),(fun hF=>k.bU),(fun hF=>c2),(fun hF=>c1),(fun hF=>⟨item_of k.x2,k.bj⟩),(fun hF=>⟨item_of k.x1,k.bi⟩),trivial⟩ fun hp iq hF H=>?_)
 refine' go_agD (cx_wl (cx_sq (cx_hs .hole))) rfl H ?_
 (refine' run_T KX Rin.nil H 4000 ⟨[6,7,8,9,10,11],12⟩ rfl [.c 1,.c 0,.c 0,.e,.k,.k,.c 1,.e,.c 1,.c 0,.c 0,.c 4,.c 5,.c 5,.c 5,.c 5,.c 4,.c 4,.b 0,.c 3,.c 3,.c 3,.v 1 (fun al=>rLslice Rin.nil (.c 3) (.c 0) ((L1.drop i).map pv)),.v 2 (fun al=>rExtend Rin.nil 7 (.c 0)),.c 6,.c 8,.c 8,.c 8,.c 8,.c 6,.c 6,.b 3,.c 6,.c 6,.c 6,.v 4 (fun al=>rLslice Rin.nil (.c 6) (.c 0) ((L2.drop (j + 1)).map pv)),.v 5 (fun al=>rExtend Rin.nil 10 (.c 0))] fun al=>end_R (r:=(.ok .next)) (cs:=(slC (wv b w).params q1 q2 m u lc lf k1 k2 k3 k4 k5 k6 L1 L2 n1 n2 esf nf i ((j + 1:Nat):Int) _ _ _ _ _ (M++(L1.drop i).map pv) ((U++[pv v2])++(L2.drop (j + 1)).map pv) _ _ _)) (by kernel_rfl) rfl  ⟨(fun hF=>⟨k.bU1 _,k.d2 _⟩),(fun hF=>k.s2 k.lj),(fun hF=>⟨k.bM,k.d1 _⟩),(fun hF=>k.s1 (Nat.le_of_lt k.li)),trivial⟩ fun hp t hF H=>?_)
 exact x _ _ _ _ _ _ _ _ _ _ H
theorem slC1 (hkL:envL.scope.kind≠.module) (hfL:envL.frame=some lf) (KX:Kin (KK (wv b w).params) B) (hS:(B sysModules).isSome=true) (H:Hp B h (slC (wv b w).params q1 q2 m u lc lf k1 k2 k3 k4 k5 k6 L1 L2 n1 n2 esf nf i j ti tj [ent (wv b w).params "e" k7 x7,ent (wv b w).params "a" k8 x8] n5 sl M U n3 n4 slf)) (k:SlB L1 L2 M U v1 v2 i j) (c1:decide ((sp v1.1).cps.toList < (sp v2.1).cps.toList)=false) (c2:decide ((sp v2.1).cps.toList < (sp v1.1).cps.toList)=false) (e1:L1[i + 1]?=some y1) (f1:y1.1≠v1.1) (e2:L2[j + 1]?=some y2) (f2:y2.1≠v2.1)
  (IH:∀ h' t' ti tj k7 k8 n5 n3 n4,Hp B h' (slC (wv b w).params q1 q2 m u lc lf k1 k2 k3 k4 k5 k6 L1 L2 n1 n2 esf nf ((i + 1:Nat):Int) ((j + 1:Nat):Int) ti tj [ent (wv b w).params "e" k7 (pv v1),ent (wv b w).params "a" k8 (pv v2)] n5 sl M U n3 n4 slf)→codeAny (model prg (wv b w)) (AF 520 (some [envAt (wv b w).params 28 lc,envL])) (lpAt2 (wv b w).params 28 lc 3 [] .none) R ⟨h',g,d,t',os⟩) :
  codeAny (model prg (wv b w)) (AF 520 (some [envAt (wv b w).params 28 lc,envL])) (lpAt2 (wv b w).params 28 lc 3 [] .none) R ⟨h,g,d,t,os⟩:=by
 refine' go_code ?_
 (refine' run_T2 KX Rin.nil H 4000 ⟨[3,4,5,0,1,2],6⟩ rfl [.c 2,.c 2,.c 0,.c 0,.c 0,.v 0 (fun al=>rItem Rin.nil (.c 0) (pv v1)),.c 2,.c 2,.c 2,.c 2,.c 1,.c 1,.c 1,.v 1 (fun al=>rItem Rin.nil (.c 1) (pv v2)),.c 2,.g 2,.c 2,.c 2,.v 2 (fun al=>rLt (false)),.c 2,.c 2,.v 3 (fun al=>rGt (false)),.c 2,.e,.q,.c 2,.g 2,.v 4 (fun al=>rC KX hS [0,1] 4 false (True) (fun _=>w1eq_n (q1:=q1) (q2:=q2) (m:=m) (u:=u) (lc:=lc) (k1:=k1) (k2:=k2) (k3:=k3) (k4:=k4) (k5:=k5) (k6:=k6) (k7:=k7) (k8:=k8) (ti:=(al 3).n + 1) (tj:=tj) (n1:=n1) (n5:=n5) (va:=Value.str (sp v2.fst) v2.snd) (sl:=sl) (j:=↑j) k.bi1 e1 f1)),.e,.c 5,.e,.q,.c 5,.g 5,.v 5 (fun al=>rC KX hS [0,4] 4 false (True) (fun _=>w2fin_n (q1:=q1) (q2:=q2) (m:=m) (u:=u) (lc:=lc) (k1:=k1) (k2:=k2) (k3:=k3) (k4:=k4) (k5:=k5) (k6:=k6) (k7:=k7) (k8:=k8) (ti:=(al 3).n + 1) (tj:=(al 4).t + 1) (n1:=n2) (n5:=n5) (va:=Value.str (sp v1.fst) v1.snd) (sl:=sl) (i:=↑(i + 1)) k.bj1 e2 f2))] fun al=>end_A2 (c:=(lpAt2 (wv b w).params 28 lc 3 [] .none)) (cs:=(slC (wv b w).params q1 q2 m u lc lf k1 k2 k3 k4 k5 k6 L1 L2 n1 n2 esf nf ((i + 1:Nat):Int) ((j + 1:Nat):Int) _ _ [ent (wv b w).params "e" _ (pv v1),ent (wv b w).params "a" _ (pv v2)] _ sl M U _ _ slf)) (by kernel_rfl) (by kernel_rfl) rfl (by kernel_rfl) ⟨(fun hF=>trivial),(fun hF=>trivial),(fun hF=>c2),(fun hF=>c1),(fun hF=>⟨item_of k.x2,k.bj⟩),(fun hF=>⟨item_of k.x1,k.bi⟩),trivial⟩ fun hp t hF H=>?_)
 exact IH _ _ _ _ _ _ _ _ _ H
theorem slC0 (hkL:envL.scope.kind≠.module) (hfL:envL.frame=some lf) (KX:Kin (KK (wv b w).params) B) (hS:(B sysModules).isSome=true) (H:Hp B h (slC (wv b w).params q1 q2 m u lc lf k1 k2 k3 k4 k5 k6 L1 L2 n1 n2 esf nf i j ti tj [] n5 sl M U n3 n4 slf)) (k:SlB L1 L2 M U v1 v2 i j) (c1:decide ((sp v1.1).cps.toList < (sp v2.1).cps.toList)=false) (c2:decide ((sp v2.1).cps.toList < (sp v1.1).cps.toList)=false) (e1:L1[i + 1]?=some y1) (f1:y1.1≠v1.1) (e2:L2[j + 1]?=some y2) (f2:y2.1≠v2.1)
  (IH:∀ h' t' ti tj k7 k8 n5 n3 n4,Hp B h' (slC (wv b w).params q1 q2 m u lc lf k1 k2 k3 k4 k5 k6 L1 L2 n1 n2 esf nf ((i + 1:Nat):Int) ((j + 1:Nat):Int) ti tj [ent (wv b w).params "e" k7 (pv v1),ent (wv b w).params "a" k8 (pv v2)] n5 sl M U n3 n4 slf)→codeAny (model prg (wv b w)) (AF 520 (some [envAt (wv b w).params 28 lc,envL])) (lpAt2 (wv b w).params 28 lc 3 [] .none) R ⟨h',g,d,t',os⟩) :
  codeAny (model prg (wv b w)) (AF 520 (some [envAt (wv b w).params 28 lc,envL])) (lpAt2 (wv b w).params 28 lc 3 [] .none) R ⟨h,g,d,t,os⟩:=by
 refine' go_code ?_
 (refine' run_T2 KX Rin.nil H 4000 ⟨[3,4,5,0,1,2],6⟩ rfl [.c 2,.c 2,.c 0,.c 0,.c 0,.v 0 (fun al=>rItem Rin.nil (.c 0) (pv v1)),.c 2,.g 2,.c 2,.c 2,.c 1,.c 1,.c 1,.v 1 (fun al=>rItem Rin.nil (.c 1) (pv v2)),.c 2,.g 2,.c 2,.c 2,.v 2 (fun al=>rLt (false)),.c 2,.c 2,.v 3 (fun al=>rGt (false)),.c 2,.e,.q,.c 2,.g 2,.v 4 (fun al=>rC KX hS [0,1] 4 false (True) (fun _=>w1eq_n (q1:=q1) (q2:=q2) (m:=m) (u:=u) (lc:=lc) (k1:=k1) (k2:=k2) (k3:=k3) (k4:=k4) (k5:=k5) (k6:=k6) (k7:=(al 0).n) (k8:=(al 1).n) (ti:=(al 3).n + 1) (tj:=tj) (n1:=n1) (n5:=n5 + 1 + 1) (va:=Value.str (sp v2.fst) v2.snd) (sl:=sl) (j:=↑j) k.bi1 e1 f1)),.e,.c 5,.e,.q,.c 5,.g 5,.v 5 (fun al=>rC KX hS [0,4] 4 false (True) (fun _=>w2fin_n (q1:=q1) (q2:=q2) (m:=m) (u:=u) (lc:=lc) (k1:=k1) (k2:=k2) (k3:=k3) (k4:=k4) (k5:=k5) (k6:=k6) (k7:=(al 0).n) (k8:=(al 1).n) (ti:=(al 3).n + 1) (tj:=(al 4).t + 1) (n1:=n2) (n5:=n5 + 1 + 1) (va:=Value.str (sp v1.fst) v1.snd) (sl:=sl) (i:=↑(i + 1)) k.bj1 e2 f2))] fun al=>end_A2 (c:=(lpAt2 (wv b w).params 28 lc 3 [] .none)) (cs:=(slC (wv b w).params q1 q2 m u lc lf k1 k2 k3 k4 k5 k6 L1 L2 n1 n2 esf nf ((i + 1:Nat):Int) ((j + 1:Nat):Int) _ _ [ent (wv b w).params "e" _ (pv v1),ent (wv b w).params "a" _ (pv v2)] _ sl M U _ _ slf)) (by kernel_rfl) (by kernel_rfl) rfl (by kernel_rfl) ⟨(fun hF=>trivial),(fun hF=>trivial),(fun hF=>c2),(fun hF=>c1),(fun hF=>⟨item_of k.x2,k.bj⟩),(fun hF=>⟨item_of k.x1,k.bi⟩),trivial⟩ fun hp t hF H=>?_)
 exact IH _ _ _ _ _ _ _ _ _ H
theorem fbx {i:Int}{j:Nat}(hkL:envL.scope.kind≠.module) (hfL:envL.frame=some lf) (hj:j + 1≤1000) (hv:L2[j + 1]?=none) :
  Ct prg (wv b w) 530 (some [envAt (wv b w).params 28 lc, envL]) (KK (wv b w).params) g d os (.block (subL (stAt2 (bdAt (wv b w).params 28) 3 [(0, 0), (0, 2), (1, 0), (1, 1)]) 2) (envAt (wv b w).params 28 lc)) [(q2, lst (L2.map pv) n2), (lc, locS (slE (wv b w).params q1 q2 m u k1 k2 k3 k4 k5 k6 i j ti tj [ent (wv b w).params "e" k7 (pv v1), ent (wv b w).params "a" k8 (pv v2)]) n5 sl), (lf, locS esf nf slf)] none
    fun u'=>(.error (.ref u'.n),[(u'.n2,tbO lc u'.V),(u'.n,excT sIdx u'.v .none u'.n2 u'.d u'.s2),(q2,lst (L2.map pv) n2),(lc,locS (slE (wv b w).params q1 q2 m u k1 k2 k3 k4 k5 k6 i ((j + 1:Nat):Int) ti u'.n4 [ent (wv b w).params "e" k7 (pv v1),ent (wv b w).params "a" k8 (pv v2)]) n5 u'.s3),(lf,locS esf nf u'.s4)]):=by
 refine ⟨fun B h t R KX hS H x=>?_⟩
 refine' go_code ?_
 (refine' run_T KX Rin.nil H 4000 ⟨[0,1,2,3,4],5⟩ rfl [.c 1,.e,.q,.c 1,.g 1,.v 0 (fun al=>rC KX hS [0,0,0] 0 false (True) (fun _=>w2fin_x (q1:=q1) (q2:=q2) (m:=m) (u:=u) (lc:=lc) (k1:=k1) (k2:=k2) (k3:=k3) (k4:=k4) (k5:=k5) (k6:=k6) (k7:=k7) (k8:=k8) (ti:=ti) (tj:=t + 1) (n1:=n2) (n5:=n5) (v:=v2) (va:=Value.str (sp v1.fst) v1.snd) (sl:=sl) (esf:=esf) (nf:=nf) (slf:=slf) (i:=i) hkL hfL hj hv)),.c 1,.c 1,.c 0,.c 0] fun al=>end_M (c:=(.block (subL (stAt2 (bdAt (wv b w).params 28) 3 [(0,0),(0,2),(1,0),(1,1)]) 2) (envAt (wv b w).params 28 lc))) (t:=(blO (.ref (al 0).n) (PySem.W.ZFast.noteFrameY (.ref (al 0).n) (envAt (wv b w).params 28 lc)))) (cs:=[(_,tbO lc _),(_,excT sIdx _ .none _ _ _),(q2,lst (L2.map pv) n2),(lc,locS (slE (wv b w).params q1 q2 m u k1 k2 k3 k4 k5 k6 i ((j + 1:Nat):Int) ti _ [ent (wv b w).params "e" k7 (pv v1),ent (wv b w).params "a" k8 (pv v2)]) _ _),(lf,locS esf nf _)]) (by kernel_rfl) rfl (by kernel_rfl) ⟨(fun hF=>trivial),trivial⟩ fun hp iq hF H=>?_)
 refine' go_agD (cx_bl .hole) rfl H ?_
 (refine' run_T KX Rin.nil H 4000 ⟨[0,1,2,3,4],5⟩ rfl [.t 0] fun al=>end_R (r:=(.error (.ref _))) (cs:=[(_,tbO lc _),(_,excT sIdx _ .none _ _ _),(q2,lst (L2.map pv) n2),(lc,locS (slE (wv b w).params q1 q2 m u k1 k2 k3 k4 k5 k6 i ((j + 1:Nat):Int) ti _ [ent (wv b w).params "e" k7 (pv v1),ent (wv b w).params "a" k8 (pv v2)]) _ _),(lf,locS esf nf _)]) (by kernel_rfl) rfl  trivial fun hp t hF H=>?_)
 exact x { xd0 with n:=_,n2:=_,V:=_,v:=_,d:=_,s2:=_,n4:=_,s3:=_,s4:=_,t:=_ } _ trivial H
theorem slC2 (hkL:envL.scope.kind≠.module) (hfL:envL.frame=some lf) (KX:Kin (KK (wv b w).params) B) (hS:(B sysModules).isSome=true) (H:Hp B h (slC (wv b w).params q1 q2 m u lc lf k1 k2 k3 k4 k5 k6 L1 L2 n1 n2 esf nf i j ti tj [ent (wv b w).params "e" k7 x7,ent (wv b w).params "a" k8 x8] n5 sl M U n3 n4 slf)) (k:SlB L1 L2 M U v1 v2 i j) (c1:decide ((sp v1.1).cps.toList < (sp v2.1).cps.toList)=false) (c2:decide ((sp v2.1).cps.toList < (sp v1.1).cps.toList)=false) (e1:L1[i + 1]?=some y1) (f1:y1.1≠v1.1) (e2:L2[j + 1]?=none)
  (x:∀ h' t' ti tj ex n5 sl n3 n4 slf,Hp B h' (slC (wv b w).params q1 q2 m u lc lf k1 k2 k3 k4 k5 k6 L1 L2 n1 n2 esf nf ((i + 1:Nat):Int) ((j + 1:Nat):Int) ti tj ex n5 sl (M++(L1.drop (i + 1)).map pv) (U++(L2.drop (j + 1)).map pv) n3 n4 slf)→R (.ok .next) ⟨h',g,d,t',os⟩) :
  codeAny (model prg (wv b w)) (AF 520 (some [envAt (wv b w).params 28 lc,envL])) (lpAt2 (wv b w).params 28 lc 3 [] .none) R ⟨h,g,d,t,os⟩:=by
 refine' go_code ?_
 (refine' run_T2 KX Rin.nil H 4000 ⟨[3,4,2,5,6,0,1,7],8⟩ rfl [.c 2,.c 2,.c 0,.c 0,.c 0,.v 0 (fun al=>rItem Rin.nil (.c 0) (pv v1)),.c 2,.c 2,.c 2,.c 2,.c 1,.c 1,.c 1,.v 1 (fun al=>rItem Rin.nil (.c 1) (pv v2)),.c 2,.g 2,.c 2,.c 2,.v 2 (fun al=>rLt (false)),.c 2,.c 2,.v 3 (fun al=>rGt (false)),.c 2,.e,.q,.c 2,.g 2,.v 4 (fun al=>rC KX hS [0,1] 4 false (True) (fun _=>w1eq_n (q1:=q1) (q2:=q2) (m:=m) (u:=u) (lc:=lc) (k1:=k1) (k2:=k2) (k3:=k3) (k4:=k4) (k5:=k5) (k6:=k6) (k7:=k7) (k8:=k8) (ti:=(al 3).n + 1) (tj:=tj) (n1:=n1) (n5:=n5) (va:=Value.str (sp v2.fst) v2.snd) (sl:=sl) (j:=↑j) k.bi1 e1 f1)),.v 5 (fun al=>rC KX hS [0,4,2] 3 false (True) (fun _=>fbx (q1:=q1) (q2:=q2) (m:=m) (u:=u) (lc:=lc) (k1:=k1) (k2:=k2) (k3:=k3) (k4:=k4) (k5:=k5) (k6:=k6) (k7:=k7) (k8:=k8) (ti:=(al 3).n + 1) (tj:=tj) (n2:=n2) (n5:=n5) (sl:=sl) (esf:=esf) (nf:=nf) (slf:=slf) (v1:=v1) (v2:=v2) (i:=↑(i + 1)) hkL hfL k.bj1 e2)),.c 4,.c 4,.c 3,.c 3] fun al=>end_M2 (c:=(lpAt2 (wv b w).params 28 lc 3 [] .none)) (t:=(wlT (stAt2 (bdAt (wv b w).params 28) 3 []) (envAt (wv b w).params 28 lc) (sqT [] (envAt (wv b w).params 28 lc) (hsO (stAt2 (bdAt (wv b w).params 28) 3 [(0,0)]) (.ref (al 5).n) (envAt (wv b w).params 28 lc) (PySem.W.ZFast.noteFrameY (.ref (al 5).n) (envAt (wv b w).params 28 lc)))))) (cs:=((_,tbO lc _) :: (_,excT sIdx _ .none _ _ _) :: (slC (wv b w).params q1 q2 m u lc lf k1 k2 k3 k4 k5 k6 L1 L2 n1 n2 esf nf ((i + 1:Nat):Int) ((j + 1:Nat):Int) _ _ [ent (wv b w).params "e" _ (pv v1),ent (wv b w).params "a" _ (pv v2)] _ _ M U _ _ _))) (by kernel_rfl) (by kernel_rfl) rfl (by kernel_rfl) (by kernel_rfl) (by kernel_rfl) ⟨(fun hF=>trivial),(fun hF=>trivial),(fun hF=>c2),(fun hF=>c1),(fun hF=>⟨item_of k.x2,k.bj⟩),(fun hF=>⟨item_of k.x1,k.bi⟩),trivial⟩ fun hp iq hF H=>?_)
 refine' go_agD (cx_wl (cx_sq (cx_hs .hole))) rfl H ?_
 (refine' run_T KX Rin.nil H 4000 ⟨[6,7,8,9,10,11],12⟩ rfl [.c 1,.c 0,.c 0,.e,.k,.k,.c 1,.e,.c 1,.c 0,.c 0,.c 4,.c 5,.c 5,.c 5,.c 5,.c 4,.c 4,.b 0,.c 3,.c 3,.c 3,.v 1 (fun al=>rLslice Rin.nil (.c 3) (.c 0) ((L1.drop (i + 1)).map pv)),.v 2 (fun al=>rExtend Rin.nil 7 (.c 0)),.c 6,.c 8,.c 8,.c 8,.c 8,.c 6,.c 6,.b 3,.c 6,.c 6,.c 6,.v 4 (fun al=>rLslice Rin.nil (.c 6) (.c 0) ((L2.drop (j + 1)).map pv)),.v 5 (fun al=>rExtend Rin.nil 10 (.c 0))] fun al=>end_R (r:=(.ok .next)) (cs:=(slC (wv b w).params q1 q2 m u lc lf k1 k2 k3 k4 k5 k6 L1 L2 n1 n2 esf nf ((i + 1:Nat):Int) ((j + 1:Nat):Int) _ _ _ _ _ (M++(L1.drop (i + 1)).map pv) (U++(L2.drop (j + 1)).map pv) _ _ _)) (by kernel_rfl) rfl  ⟨(fun hF=>⟨k.bU,k.d2 _⟩),(fun hF=>k.s2 k.lj),(fun hF=>⟨k.bM,k.d1 _⟩),(fun hF=>k.s1 k.li),trivial⟩ fun hp t hF H=>?_)
 exact x _ _ _ _ _ _ _ _ _ _ H
theorem slC3 (hkL:envL.scope.kind≠.module) (hfL:envL.frame=some lf) (KX:Kin (KK (wv b w).params) B) (hS:(B sysModules).isSome=true) (H:Hp B h (slC (wv b w).params q1 q2 m u lc lf k1 k2 k3 k4 k5 k6 L1 L2 n1 n2 esf nf i j ti tj [ent (wv b w).params "e" k7 x7,ent (wv b w).params "a" k8 x8] n5 sl M U n3 n4 slf)) (k:SlB L1 L2 M U v1 v2 i j) (c1:decide ((sp v1.1).cps.toList < (sp v2.1).cps.toList)=false) (c2:decide ((sp v2.1).cps.toList < (sp v1.1).cps.toList)=false) (e1:L1[i + 1]?=none) (e2:L2[j + 1]?=some y2) (f2:y2.1≠v2.1)
  (x:∀ h' t' ti tj ex n5 sl n3 n4 slf,Hp B h' (slC (wv b w).params q1 q2 m u lc lf k1 k2 k3 k4 k5 k6 L1 L2 n1 n2 esf nf ((i + 1:Nat):Int) ((j + 1:Nat):Int) ti tj ex n5 sl (M++(L1.drop (i + 1)).map pv) (U++(L2.drop (j + 1)).map pv) n3 n4 slf)→R (.ok .next) ⟨h',g,d,t',os⟩) :
  codeAny (model prg (wv b w)) (AF 520 (some [envAt (wv b w).params 28 lc,envL])) (lpAt2 (wv b w).params 28 lc 3 [] .none) R ⟨h,g,d,t,os⟩:=by
 refine' go_code ?_
 (refine' run_T2 KX Rin.nil H 4000 ⟨[3,4,5,0,6,1,2,7],8⟩ rfl [.c 2,.c 2,.c 0,.c 0,.c 0,.v 0 (fun al=>rItem Rin.nil (.c 0) (pv v1)),.c 2,.c 2,.c 2,.c 2,.c 1,.c 1,.c 1,.v 1 (fun al=>rItem Rin.nil (.c 1) (pv v2)),.c 2,.g 2,.c 2,.c 2,.v 2 (fun al=>rLt (false)),.c 2,.c 2,.v 3 (fun al=>rGt (false)),.c 2,.e,.q,.c 2,.g 2,.v 4 (fun al=>rC KX hS [0,1,3] 3 false (True) (fun _=>w1eq_x (q1:=q1) (q2:=q2) (m:=m) (u:=u) (lc:=lc) (k1:=k1) (k2:=k2) (k3:=k3) (k4:=k4) (k5:=k5) (k6:=k6) (k7:=k7) (k8:=k8) (ti:=(al 3).n + 1) (tj:=tj) (n1:=n1) (n5:=n5) (v:=v1) (va:=Value.str (sp v2.fst) v2.snd) (sl:=sl) (esf:=esf) (nf:=nf) (slf:=slf) (j:=↑j) hkL hfL k.bi1 e1)),.c 4,.c 4,.c 3,.c 3] fun al=>end_M2 (c:=(lpAt2 (wv b w).params 28 lc 3 [] .none)) (t:=(wlT (stAt2 (bdAt (wv b w).params 28) 3 []) (envAt (wv b w).params 28 lc) (sqT [] (envAt (wv b w).params 28 lc) (tyT (stAt2 (bdAt (wv b w).params 28) 3 [(0,0)]) (envAt (wv b w).params 28 lc) (sqT [] (envAt (wv b w).params 28 lc) (sqT [] (envAt (wv b w).params 28 lc) (sqT [] (envAt (wv b w).params 28 lc) (fiT (stAt2 (bdAt (wv b w).params 28) 3 [(0,0),(0,2),(1,0),(1,1)]) (envAt (wv b w).params 28 lc) (thT (.ref (al 4).n) (PySem.W.ZFast.noteFrameY (.ref (al 4).n) (envAt (wv b w).params 28 lc))))))))))) (cs:=((_,tbO lc _) :: (_,excT sIdx _ .none _ _ _) :: (slC (wv b w).params q1 q2 m u lc lf k1 k2 k3 k4 k5 k6 L1 L2 n1 n2 esf nf ((i + 1:Nat):Int) j _ _ [ent (wv b w).params "e" _ (pv v1),ent (wv b w).params "a" _ (pv v2)] _ _ M U _ _ _))) (by kernel_rfl) (by kernel_rfl) rfl (by kernel_rfl) (by kernel_rfl) (by kernel_rfl) ⟨(fun hF=>trivial),(fun hF=>c2),(fun hF=>c1),(fun hF=>⟨item_of k.x2,k.bj⟩),(fun hF=>⟨item_of k.x1,k.bi⟩),trivial⟩ fun hp iq hF H=>?_)
 refine' go_agD (cx_wl (cx_sq (cx_ty rfl (cx_sq (cx_sq (cx_sq (cx_fi (cx_th .hole)))))))) rfl H ?_
 rename Nat→Xd=>a1
 (refine' run_T KX Rin.nil H 4000 ⟨[0,1,2,3,4,5,6,7],8⟩ rfl [] fun al=>end_M (c:=(lpAt2 (wv b w).params 28 lc 3 [] .none)) (t:=(wlT (stAt2 (bdAt (wv b w).params 28) 3 []) (envAt (wv b w).params 28 lc) (sqT [] (envAt (wv b w).params 28 lc) (tyT (stAt2 (bdAt (wv b w).params 28) 3 [(0,0)]) (envAt (wv b w).params 28 lc) (sqT [] (envAt (wv b w).params 28 lc) (sqT [] (envAt (wv b w).params 28 lc) (sqT [] (envAt (wv b w).params 28 lc) (fiO (stAt2 (bdAt (wv b w).params 28) 3 [(0,0),(0,2),(1,0),(1,1)]) (.ref (a1 4).n) (envAt (wv b w).params 28 lc) (PySem.W.ZFast.noteFrameY (.ref (a1 4).n) (envAt (wv b w).params 28 lc)))))))))) (cs:=((_,tbO lc _) :: (_,excT sIdx _ .none _ _ _) :: (slC (wv b w).params q1 q2 m u lc lf k1 k2 k3 k4 k5 k6 L1 L2 n1 n2 esf nf ((i + 1:Nat):Int) j _ _ [ent (wv b w).params "e" _ (pv v1),ent (wv b w).params "a" _ (pv v2)] _ _ M U _ _ _))) (by kernel_rfl) rfl (by kernel_rfl) trivial fun hp iq hF H=>?_)
 refine' go_agD (cx_wl (cx_sq (cx_ty rfl (cx_sq (cx_sq (cx_sq (cx_fo .hole))))))) rfl H ?_
 (refine' run_T2 KX Rin.nil H 4000 ⟨[0,1,2,3,4,5,6,7],8⟩ rfl [.c 1,.c 0,.c 0,.e,.c 4,.e,.q,.c 4,.g 4,.e,.c 4,.c 4,.c 3,.c 3,.c 3,.v 0 (fun al=>rItem Rin.nil (.c 3) (pv y2)),.c 4,.v 1 (fun al=>rEq (false)),.c 1,.c 1,.c 0,.c 0] fun al=>end_M2 (c:=(lpAt2 (wv b w).params 28 lc 3 [] .none)) (t:=(wlT (stAt2 (bdAt (wv b w).params 28) 3 []) (envAt (wv b w).params 28 lc) (sqT [] (envAt (wv b w).params 28 lc) (hsO (stAt2 (bdAt (wv b w).params 28) 3 [(0,0)]) (.ref (a1 4).n) (envAt (wv b w).params 28 lc) (PySem.W.ZFast.noteFrameY (.ref (a1 4).n) (envAt (wv b w).params 28 lc)))))) (cs:=((_,tbO lc _) :: (_,excT sIdx _ .none _ _ _) :: (slC (wv b w).params q1 q2 m u lc lf k1 k2 k3 k4 k5 k6 L1 L2 n1 n2 esf nf ((i + 1:Nat):Int) ((j + 1:Nat):Int) _ _ [ent (wv b w).params "e" _ (pv v1),ent (wv b w).params "a" _ (pv v2)] _ _ M U _ _ _))) (by kernel_rfl) (by kernel_rfl) rfl (by kernel_rfl) (by kernel_rfl) (by kernel_rfl) ⟨(fun hF=>cps_ne f2),(fun hF=>⟨item_of e2,k.bj1⟩),trivial⟩ fun hp iq hF H=>?_)
 refine' go_agD (cx_wl (cx_sq (cx_hs .hole))) rfl H ?_
 (refine' run_T KX Rin.nil H 4000 ⟨[6,7,8,9,10,11],12⟩ rfl [.c 1,.c 0,.c 0,.e,.k,.k,.c 1,.e,.c 1,.c 0,.c 0,.c 4,.c 5,.c 5,.c 5,.c 5,.c 4,.c 4,.b 0,.c 3,.c 3,.c 3,.v 1 (fun al=>rLslice Rin.nil (.c 3) (.c 0) ((L1.drop (i + 1)).map pv)),.v 2 (fun al=>rExtend Rin.nil 7 (.c 0)),.c 6,.c 8,.c 8,.c 8,.c 8,.c 6,.c 6,.b 3,.c 6,.c 6,.c 6,.v 4 (fun al=>rLslice Rin.nil (.c 6) (.c 0) ((L2.drop (j + 1)).map pv)),.v 5 (fun al=>rExtend Rin.nil 10 (.c 0))] fun al=>end_R (r:=(.ok .next)) (cs:=(slC (wv b w).params q1 q2 m u lc lf k1 k2 k3 k4 k5 k6 L1 L2 n1 n2 esf nf ((i + 1:Nat):Int) ((j + 1:Nat):Int) _ _ _ _ _ (M++(L1.drop (i + 1)).map pv) (U++(L2.drop (j + 1)).map pv) _ _ _)) (by kernel_rfl) rfl  ⟨(fun hF=>⟨k.bU,k.d2 _⟩),(fun hF=>k.s2 k.lj),(fun hF=>⟨k.bM,k.d1 _⟩),(fun hF=>k.s1 k.li),trivial⟩ fun hp t hF H=>?_)
 exact x _ _ _ _ _ _ _ _ _ _ H
theorem slC4 (hkL:envL.scope.kind≠.module) (hfL:envL.frame=some lf) (KX:Kin (KK (wv b w).params) B) (hS:(B sysModules).isSome=true) (H:Hp B h (slC (wv b w).params q1 q2 m u lc lf k1 k2 k3 k4 k5 k6 L1 L2 n1 n2 esf nf i j ti tj [ent (wv b w).params "e" k7 x7,ent (wv b w).params "a" k8 x8] n5 sl M U n3 n4 slf)) (k:SlB L1 L2 M U v1 v2 i j) (c1:decide ((sp v1.1).cps.toList < (sp v2.1).cps.toList)=false) (c2:decide ((sp v2.1).cps.toList < (sp v1.1).cps.toList)=false) (e1:L1[i + 1]?=none) (e2:L2[j + 1]?=none)
  (x:∀ h' t' ti tj ex n5 sl n3 n4 slf,Hp B h' (slC (wv b w).params q1 q2 m u lc lf k1 k2 k3 k4 k5 k6 L1 L2 n1 n2 esf nf ((i + 1:Nat):Int) ((j + 1:Nat):Int) ti tj ex n5 sl (M++(L1.drop (i + 1)).map pv) (U++(L2.drop (j + 1)).map pv) n3 n4 slf)→R (.ok .next) ⟨h',g,d,t',os⟩) :
  codeAny (model prg (wv b w)) (AF 520 (some [envAt (wv b w).params 28 lc,envL])) (lpAt2 (wv b w).params 28 lc 3 [] .none) R ⟨h,g,d,t,os⟩:=by
 refine' go_code ?_
 (refine' run_T2 KX Rin.nil H 4000 ⟨[3,4,5,0,6,1,2,7],8⟩ rfl [.c 2,.c 2,.c 0,.c 0,.c 0,.v 0 (fun al=>rItem Rin.nil (.c 0) (pv v1)),.c 2,.c 2,.c 2,.c 2,.c 1,.c 1,.c 1,.v 1 (fun al=>rItem Rin.nil (.c 1) (pv v2)),.c 2,.g 2,.c 2,.c 2,.v 2 (fun al=>rLt (false)),.c 2,.c 2,.v 3 (fun al=>rGt (false)),.c 2,.e,.q,.c 2,.g 2,.v 4 (fun al=>rC KX hS [0,1,3] 3 false (True) (fun _=>w1eq_x (q1:=q1) (q2:=q2) (m:=m) (u:=u) (lc:=lc) (k1:=k1) (k2:=k2) (k3:=k3) (k4:=k4) (k5:=k5) (k6:=k6) (k7:=k7) (k8:=k8) (ti:=(al 3).n + 1) (tj:=tj) (n1:=n1) (n5:=n5) (v:=v1) (va:=Value.str (sp v2.fst) v2.snd) (sl:=sl) (esf:=esf) (nf:=nf) (slf:=slf) (j:=↑j) hkL hfL k.bi1 e1)),.c 4,.c 4,.c 3,.c 3] fun al=>end_M2 (c:=(lpAt2 (wv b w).params 28 lc 3 [] .none)) (t:=(wlT (stAt2 (bdAt (wv b w).params 28) 3 []) (envAt (wv b w).params 28 lc) (sqT [] (envAt (wv b w).params 28 lc) (tyT (stAt2 (bdAt (wv b w).params 28) 3 [(0,0)]) (envAt (wv b w).params 28 lc) (sqT [] (envAt (wv b w).params 28 lc) (sqT [] (envAt (wv b w).params 28 lc) (sqT [] (envAt (wv b w).params 28 lc) (fiT (stAt2 (bdAt (wv b w).params 28) 3 [(0,0),(0,2),(1,0),(1,1)]) (envAt (wv b w).params 28 lc) (thT (.ref (al 4).n) (PySem.W.ZFast.noteFrameY (.ref (al 4).n) (envAt (wv b w).params 28 lc))))))))))) (cs:=((_,tbO lc _) :: (_,excT sIdx _ .none _ _ _) :: (slC (wv b w).params q1 q2 m u lc lf k1 k2 k3 k4 k5 k6 L1 L2 n1 n2 esf nf ((i + 1:Nat):Int) j _ _ [ent (wv b w).params "e" _ (pv v1),ent (wv b w).params "a" _ (pv v2)] _ _ M U _ _ _))) (by kernel_rfl) (by kernel_rfl) rfl (by kernel_rfl) (by kernel_rfl) (by kernel_rfl) ⟨(fun hF=>trivial),(fun hF=>c2),(fun hF=>c1),(fun hF=>⟨item_of k.x2,k.bj⟩),(fun hF=>⟨item_of k.x1,k.bi⟩),trivial⟩ fun hp iq hF H=>?_)
 refine' go_agD (cx_wl (cx_sq (cx_ty rfl (cx_sq (cx_sq (cx_sq (cx_fi (cx_th .hole)))))))) rfl H ?_
 rename Nat→Xd=>a1
 (refine' run_T KX Rin.nil H 4000 ⟨[0,1,2,3,4,5,6,7],8⟩ rfl [] fun al=>end_M (c:=(lpAt2 (wv b w).params 28 lc 3 [] .none)) (t:=(wlT (stAt2 (bdAt (wv b w).params 28) 3 []) (envAt (wv b w).params 28 lc) (sqT [] (envAt (wv b w).params 28 lc) (tyT (stAt2 (bdAt (wv b w).params 28) 3 [(0,0)]) (envAt (wv b w).params 28 lc) (sqT [] (envAt (wv b w).params 28 lc) (sqT [] (envAt (wv b w).params 28 lc) (sqT [] (envAt (wv b w).params 28 lc) (fiO (stAt2 (bdAt (wv b w).params 28) 3 [(0,0),(0,2),(1,0),(1,1)]) (.ref (a1 4).n) (envAt (wv b w).params 28 lc) (PySem.W.ZFast.noteFrameY (.ref (a1 4).n) (envAt (wv b w).params 28 lc)))))))))) (cs:=((_,tbO lc _) :: (_,excT sIdx _ .none _ _ _) :: (slC (wv b w).params q1 q2 m u lc lf k1 k2 k3 k4 k5 k6 L1 L2 n1 n2 esf nf ((i + 1:Nat):Int) j _ _ [ent (wv b w).params "e" _ (pv v1),ent (wv b w).params "a" _ (pv v2)] _ _ M U _ _ _))) (by kernel_rfl) rfl (by kernel_rfl) trivial fun hp iq hF H=>?_)
 refine' go_agD (cx_wl (cx_sq (cx_ty rfl (cx_sq (cx_sq (cx_sq (cx_fo .hole))))))) rfl H ?_
 (refine' run_goK KX Rin.nil H 4000 ⟨[0,1,2,3,4,5,6,7],8⟩ rfl [.c 1,.c 0,.c 0,.e,.c 4,.e,.q,.c 4,.g 4,.e,.c 4,.c 4,.c 3,.c 3,.c 3] (fun _=>rfl) (fun _=>by kernel_rfl) (fun al=>trivial) ?_;(try clear H);(try clear hp);intro al hp hF H)
 refine' go_rule (rItemOutH 3 1) rfl rfl ⟨⟨item_no e2,k.bj1⟩,_,rfl,rfl⟩ H fun yy hp _ H=>?_
 refine' go_note ?cxr ?cxf ?cxl H ?cxz ?cxn ?cxs ?_
 (case cxr => (
     have rb:=fun γ m0 m1 α β m m' f=>@Cx.bind γ m0 m1 α β m m' f
     have ro:=fun γ m0 m1 α m m' f=>@Cx.onRaise γ m0 m1 α m m' f
     have rc:=fun γ m0 m1 α m m' f=>@Cx.catchs γ m0 m1 α m m' f
     have rk:=fun γ m0 m1 α m m' f=>@Cx.keep γ m0 m1 α m m' f
     have ri:=fun γ m0 m1 α β m m' f r=>@Cx.bindI γ m0 m1 α β m m' f r
     unfold PySem.W.R.bindR at ri
     unfold PySem.W.R.bindR at rb
     unfold PySem.W.R.onRaiseR at ro
     unfold PySem.W.R.catchR at rc
     unfold PySem.W.R.keepR at rk
     iterate 40 (first | with_reducible exact Cx.hole | with_reducible apply ri | with_reducible apply ro | with_reducible apply rb | with_reducible apply rc | with_reducible apply rk | with_reducible apply Cx.bind | with_reducible apply Cx.onRaise | with_reducible apply Cx.catchs | with_reducible apply Cx.keep | skip)))
 (case cxf=>rfl);(case cxl=>rfl);(case cxz=>(repeat (first | exact Cell.head | apply Cell.tail)));(case cxn=>rfl);(case cxs=>(refine' FrsIn.cons ?k1 ?k0 ?k2 (FrsIn.cons hkL hfL ?k3 trivial);(case k1=>(intro x;cases x));(case k0=>rfl);(case k2=>(repeat (first | exact Cell.head | apply Cell.tail)));(case k3=>(repeat (first | exact Cell.head | apply Cell.tail)))));clear H;(try clear hp);intro hp σ T vs H
 (refine' run_T KX Rin.nil H 4000 ⟨[0,1,4,5,6,7,8,9],10⟩ rfl [.t 0,.c 1,.c 1,.c 0,.c 0] fun al=>end_M (c:=(.block (subL (stAt2 (bdAt (wv b w).params 28) 3 [(0,0),(0,2),(1,0),(1,1)]) 2) (envAt (wv b w).params 28 lc))) (t:=(blO (.ref yy.n) (PySem.W.ZFast.noteFrameY (.ref yy.n) (envAt (wv b w).params 28 lc)))) (cs:=((_,tbO lc _) :: (_,excT sIdx _ (.ref _) _ _ _) :: (slC (wv b w).params q1 q2 m u lc lf k1 k2 k3 k4 k5 k6 L1 L2 n1 n2 esf nf ((i + 1:Nat):Int) ((j + 1:Nat):Int) _ _ [ent (wv b w).params "e" _ (pv v1),ent (wv b w).params "a" _ (pv v2)] _ _ M U _ _ _))) (by kernel_rfl) rfl (by kernel_rfl) trivial fun hp iq hF H=>?_)
 refine' go_agD (cx_bl .hole) rfl H ?_
 (refine' run_T KX Rin.nil H 4000 ⟨[0,1,2,3,4,5,6,7],8⟩ rfl [.t 0,.c 1,.c 1,.c 0,.c 0] fun al=>end_M (c:=(lpAt2 (wv b w).params 28 lc 3 [] .none)) (t:=(wlT (stAt2 (bdAt (wv b w).params 28) 3 []) (envAt (wv b w).params 28 lc) (sqT [] (envAt (wv b w).params 28 lc) (hsO (stAt2 (bdAt (wv b w).params 28) 3 [(0,0)]) (.ref yy.n) (envAt (wv b w).params 28 lc) (PySem.W.ZFast.noteFrameY (.ref yy.n) (envAt (wv b w).params 28 lc)))))) (cs:=((_,tbO lc _) :: (_,excT sIdx _ (.ref _) _ _ _) :: (slC (wv b w).params q1 q2 m u lc lf k1 k2 k3 k4 k5 k6 L1 L2 n1 n2 esf nf ((i + 1:Nat):Int) ((j + 1:Nat):Int) _ _ [ent (wv b w).params "e" _ (pv v1),ent (wv b w).params "a" _ (pv v2)] _ _ M U _ _ _))) (by kernel_rfl) rfl (by kernel_rfl) trivial fun hp iq hF H=>?_)
 refine' go_agD (cx_wl (cx_sq (cx_hs .hole))) rfl H ?_
 (refine' run_T KX Rin.nil H 4000 ⟨[6,7,8,9,10,11],12⟩ rfl [.c 1,.c 0,.c 0,.e,.k,.k,.c 1,.e,.c 1,.c 0,.c 0,.c 4,.c 5,.c 5,.c 5,.c 5,.c 4,.c 4,.b 0,.c 3,.c 3,.c 3,.v 1 (fun al=>rLslice Rin.nil (.c 3) (.c 0) ((L1.drop (i + 1)).map pv)),.v 2 (fun al=>rExtend Rin.nil 7 (.c 0)),.c 6,.c 8,.c 8,.c 8,.c 8,.c 6,.c 6,.b 3,.c 6,.c 6,.c 6,.v 4 (fun al=>rLslice Rin.nil (.c 6) (.c 0) ((L2.drop (j + 1)).map pv)),.v 5 (fun al=>rExtend Rin.nil 10 (.c 0))] fun al=>end_R (r:=(.ok .next)) (cs:=(slC (wv b w).params q1 q2 m u lc lf k1 k2 k3 k4 k5 k6 L1 L2 n1 n2 esf nf ((i + 1:Nat):Int) ((j + 1:Nat):Int) _ _ _ _ _ (M++(L1.drop (i + 1)).map pv) (U++(L2.drop (j + 1)).map pv) _ _ _)) (by kernel_rfl) rfl  ⟨(fun hF=>⟨k.bU,k.d2 _⟩),(fun hF=>k.s2 k.lj),(fun hF=>⟨k.bM,k.d1 _⟩),(fun hF=>k.s1 k.li),trivial⟩ fun hp t hF H=>?_)
 exact x _ _ _ _ _ _ _ _ _ _ H
end
noncomputable def diff:List Pt→List Pt→List Pt×List Pt
 | [], l2 => ([], l2)
 | a :: l1, [] => (a :: l1, [])
 | a :: l1, b :: l2 =>
   if ltP a b then (a :: (diff l1 (b :: l2)).1,(diff l1 (b :: l2)).2)
   else if ltP b a then ((diff (a :: l1) l2).1,b :: (diff (a :: l1) l2).2)
   else diff l1 l2
theorem drop_of {L:List PT}{i:Nat}{v:PT}(h:L[i]?=some v):(pts L).drop i=v.1 :: (pts L).drop (i + 1):=by
 obtain ⟨a,e⟩:=List.getElem?_eq_some_iff.mp h
 rw [List.drop_eq_getElem_cons (by simpa using a),List.getElem_map,e]
theorem drop_no {L:List PT}{i:Nat}(h:L[i]?=none):(pts L).drop i=[]:=by
 rw [List.drop_eq_nil_iff,List.length_map]
 exact List.getElem?_eq_none_iff.mp h
theorem diff_l {a b:Pt}{l1 l2:List Pt}(h:ltP a b=true):diff (a :: l1) (b :: l2)=(a :: (diff l1 (b :: l2)).1,(diff l1 (b :: l2)).2):=by
 rw [diff,if_pos h]
theorem diff_g {a b:Pt}{l1 l2:List Pt}(h:ltP a b=false) (h':ltP b a=true):diff (a :: l1) (b :: l2)=((diff (a :: l1) l2).1,b :: (diff (a :: l1) l2).2):=by
 rw [diff,if_neg (by rw [h];exact Bool.false_ne_true),if_pos h']
theorem diff_e {a b:Pt}{l1 l2:List Pt}(h:ltP a b=false) (h':ltP b a=false):diff (a :: l1) (b :: l2)=diff l1 l2:=by
 rw [diff,if_neg (by rw [h];exact Bool.false_ne_true),if_neg (by rw [h'];exact Bool.false_ne_true)]
theorem diff_nl (l:List Pt):diff [] l=([],l):=by rw [diff]
theorem diff_nr:∀ l:List Pt,diff l []=(l,[])
 | [] => diff_nl _
 | a :: l => by rw [diff]
theorem next_ne {L:List PT}(hd:(pts L).Nodup){i:Nat}{v y:PT}(h1:L[i]?=some v) (h2:L[i + 1]?=some y):y.1≠v.1:=by
 obtain ⟨a1,e1⟩:=List.getElem?_eq_some_iff.mp h1
 obtain ⟨a2,e2⟩:=List.getElem?_eq_some_iff.mp h2
 intro e
 have hh:=List.pairwise_iff_getElem.mp hd i (i + 1) (by simpa using a1) (by simpa using a2) (Nat.lt_succ_self i)
 simp only [pts,List.getElem_map] at hh
 rw [e1,e2] at hh
 exact hh e.symm
section
variable {b:Bool}{w:World}{g:Array GenState}{d:Drawn}{os:OsState}{q1 q2 m u lc lf:Addr}{k1 k2 k3 k4 k5 k6 n1 n2 nf:Nat}{L1 L2:List PT}{envL:Env}{esf:List DictEntry}
structure SlI (L1 L2 M U : List PT) (i j : Nat) : Prop where
 hi:i < L1.length
 hj:j < L2.length
 hM:M.length≤i
 hU:U.length≤j
 eq:diff (pts L1) (pts L2)=(pts M++(diff ((pts L1).drop i) ((pts L2).drop j)).1,pts U++(diff ((pts L1).drop i) ((pts L2).drop j)).2)
structure SlH (L1 L2 : List PT) : Prop where
 h1:L1.length≤100
 h2:L2.length≤100
 d1:(pts L1).Nodup
 d2:(pts L2).Nodup
 r1:(pts L1)[0]?=some .r
 r2:(pts L2)[0]?=some .r
 g1:2≤L1.length
 g2:2≤L2.length
theorem pts_app (M U:List PT):pts (M++U)=pts M++pts U:=List.map_append
theorem pts_drop (L:List PT) (i:Nat):pts (L.drop i)=(pts L).drop i:=List.map_drop
theorem map_snoc (M:List PT) (v:PT):(M++[v]).map pv=M.map pv++[pv v]:=by rw [List.map_append];rfl
theorem slW {n3 n4 n5 ti tj:Nat}{sl slf:Array (Option Value)}(hkL:envL.scope.kind≠.module) (hfL:envL.frame=some lf) (hL:SlH L1 L2) :
  Ct prg (wv b w) 520 (some [envAt (wv b w).params 28 lc, envL]) (KK (wv b w).params) g d os (lpAt2 (wv b w).params 28 lc 3 [] .none) (slC (wv b w).params q1 q2 m u lc lf k1 k2 k3 k4 k5 k6 L1 L2 n1 n2 esf nf (0 : Nat) (0 : Nat) ti tj [] n5 sl [] [] n3 n4 slf) none
    fun y=>(.ok .next,slC (wv b w).params q1 q2 m u lc lf k1 k2 k3 k4 k5 k6 L1 L2 n1 n2 esf nf y.n y.n2 y.n3 y.n4 y.T.toList y.n5 y.s2 ((tag (diff (pts L1) (pts L2)).1 y.L).map pv) ((tag (diff (pts L1) (pts L2)).2 y.L2).map pv) y.n6 y.p.line y.s4):=by
 refine ⟨fun B h t R KX hS H x => loopI (σ := Nat × Nat) (fun s => L1.length + L2.length - s.1 - s.2) (fun s h => ∃ ti tj ex n5 sl n3 n4 slf, ∃ M U : List PT, Hp B h (slC (wv b w).params q1 q2 m u lc lf k1 k2 k3 k4 k5 k6 L1 L2 n1 n2 esf nf s.1 s.2 ti tj ex n5 sl (M.map pv) (U.map pv) n3 n4 slf) ∧
     ((ex=[]∧s.1=0∧s.2=0)∨∃ k7 x7 k8 x8,ex=[ent (wv b w).params "e" k7 x7,ent (wv b w).params "a" k8 x8])∧SlI L1 L2 M U s.1 s.2)
   (fun s h t hi IH=>?_) (x:=(0,0)) ⟨ti,tj,[],n5,sl,n3,n4,slf,[],[],H,.inl ⟨rfl,rfl,rfl⟩,⟨by have:=hL.g1;dsimp only;omega,by have:=hL.g2;dsimp only;omega,Nat.le_refl _,Nat.le_refl _,rfl⟩⟩⟩
 obtain ⟨i,j⟩:=s
 obtain ⟨ti,tj,ex,n5,sl,n3,n4,slf,M,U,H,hex,k⟩:=hi
 dsimp only at H hex k IH
 have hi:=k.hi
 have hj:=k.hj
 have hM:=k.hM
 have hU:=k.hU
 have h1:=hL.h1
 have h2:=hL.h2
 obtain ⟨v1,x1⟩:∃ v,L1[i]?=some v:=⟨_,List.getElem?_eq_getElem hi⟩
 obtain ⟨v2,x2⟩:∃ v,L2[j]?=some v:=⟨_,List.getElem?_eq_getElem hj⟩
 have bd:SlB L1 L2 (M.map pv) (U.map pv) v1 v2 i j:=⟨h1,h2,by rw [List.length_map];omega,by rw [List.length_map];omega,x1,x2⟩
 have fin : ∀ (M' U' : List PT) (i' j' : Nat), pts M' = (diff (pts L1) (pts L2)).1 → pts U' = (diff (pts L1) (pts L2)).2 → ∀ h' t' ti tj ex n5 sl n3 n4 slf, Hp B h' (slC (wv b w).params q1 q2 m u lc lf k1 k2 k3 k4 k5 k6 L1 L2 n1 n2 esf nf i' j' ti tj ex n5 sl (M'.map pv) (U'.map pv) n3 n4 slf) → R (.ok .next) ⟨h', g, d, t', os⟩ := fun M' U' i' j' eM eU h' t' ti tj ex n5 sl n3 n4 slf H =>
   x { xd0 with n:=i',n2:=j',n3:=ti,n4:=tj,T:=ex.toArray,n5:=n5,s2:=sl,L:=M'.map (·.2),L2:=U'.map (·.2),n6:=n3,p:=⟨n4,0,0,0⟩,s4:=slf,t:=t' } h' trivial (by dsimp only;rw [← eM,← eU,tag_pts,tag_pts];exact H)
 have e:=k.eq
 rw [drop_of x1,drop_of x2] at e
 have eM:∀ (N:List PT) (i:Nat),N.map pv++(L1.drop i).map pv=(N++L1.drop i).map pv:=fun N i=>List.map_append.symm
 have eU:∀ (N:List PT) (i:Nat),N.map pv++(L2.drop i).map pv=(N++L2.drop i).map pv:=fun N i=>List.map_append.symm
 have z1:L1[i + 1]?=none→(pts L1).drop (i + 1)=[]:=drop_no
 have z2:L2[j + 1]?=none→(pts L2).drop (j + 1)=[]:=drop_no
 rcases hex with ⟨rfl,rfl,rfl⟩ | ⟨k7,x7,k8,x8,rfl⟩
 · have r1:v1.1=.r:=by
     have:=hL.r1
     rw [List.getElem?_map,x1] at this
     exact Option.some.inj this
   have r2:v2.1=.r:=by
     have:=hL.r2
     rw [List.getElem?_map,x2] at this
     exact Option.some.inj this
   have c:∀ p:Pt,ltP p p=false:=fun p=>decide_eq_false (List.lt_irrefl _)
   have c1:ltP v1.1 v2.1=false:=by rw [r1,r2];exact c _
   have c2:ltP v2.1 v1.1=false:=by rw [r1,r2];exact c _
   obtain ⟨y1,e1⟩:∃ v,L1[0 + 1]?=some v:=⟨_,List.getElem?_eq_getElem (by have:=hL.g1;omega)⟩
   obtain ⟨y2,e2⟩:∃ v,L2[0 + 1]?=some v:=⟨_,List.getElem?_eq_getElem (by have:=hL.g2;omega)⟩
   rw [diff_e c1 c2] at e
   exact slC0 hkL hfL KX hS H bd c1 c2 e1 (next_ne hL.d1 x1 e1) e2 (next_ne hL.d2 x2 e2) fun h' t' ti tj k7 k8 n5 n3 n4 H=>IH (0 + 1,0 + 1) h' t' (by dsimp only;omega) ⟨ti,tj,_,n5,_,n3,n4,_,M,U,H,.inr ⟨_,_,_,_,rfl⟩,⟨(List.getElem?_eq_some_iff.mp e1).1,(List.getElem?_eq_some_iff.mp e2).1,by omega,by omega,e⟩⟩
 · cases c1 : ltP v1.1 v2.1 with
   | true =>
     rw [diff_l c1] at e
     rcases e1:L1[i + 1]? with _ | y1
     · refine slA2 hkL hfL KX hS H bd c1 e1 fun h' t' ti tj ex n5 sl n3 n4 slf H => ?_
       rw [← map_snoc,eM,eU] at H
       refine fin _ _ _ _ ?_ ?_ _ _ _ _ _ _ _ _ _ _ H
       · rw [e,pts_app,pts_app,pts_drop,z1 e1,diff_nl,List.append_nil];rfl
       · rw [e,pts_app,pts_drop,z1 e1,diff_nl,drop_of x2]
     · refine slA1 hkL hfL KX hS H bd c1 e1 (next_ne hL.d1 x1 e1) fun h' t' ti tj k7 k8 n5 n3 n4 H => ?_
       rw [← map_snoc] at H
       refine IH (i + 1,j) h' t' (by dsimp only;omega) ⟨ti,tj,_,n5,_,n3,n4,_,M++[v1],U,H,.inr ⟨_,_,_,_,rfl⟩,⟨(List.getElem?_eq_some_iff.mp e1).1,hj,by rw [List.length_append];show M.length + 1≤_;dsimp only;omega,hU,?_⟩⟩
       dsimp only
       rw [e,pts_app,List.append_assoc,drop_of x2];rfl
   | false =>
     cases c2:ltP v2.1 v1.1 with
     | true =>
       rw [diff_g c1 c2] at e
       rcases e2:L2[j + 1]? with _ | y2
       · refine slB2 hkL hfL KX hS H bd c1 c2 e2 fun h' t' ti tj ex n5 sl n3 n4 slf H => ?_
         rw [← map_snoc,eM,eU] at H
         refine fin _ _ _ _ ?_ ?_ _ _ _ _ _ _ _ _ _ _ H
         · rw [e,pts_app,pts_drop,z2 e2,diff_nr,drop_of x1]
         · rw [e,pts_app,pts_app,pts_drop,z2 e2,diff_nr,List.append_nil];rfl
       · refine slB1 hkL hfL KX hS H bd c1 c2 e2 (next_ne hL.d2 x2 e2) fun h' t' ti tj k7 k8 n5 n3 n4 H => ?_
         rw [← map_snoc] at H
         refine IH (i,j + 1) h' t' (by dsimp only;omega) ⟨ti,tj,_,n5,_,n3,n4,_,M,U++[v2],H,.inr ⟨_,_,_,_,rfl⟩,⟨hi,(List.getElem?_eq_some_iff.mp e2).1,hM,by rw [List.length_append];show U.length + 1≤_;dsimp only;omega,?_⟩⟩
         dsimp only
         rw [e,pts_app,List.append_assoc,drop_of x1];rfl
     | false =>
       rw [diff_e c1 c2] at e
       have fC:∀ (N1 N2:List PT),pts (N1++L1.drop (i + 1))=pts N1++(pts L1).drop (i + 1)∧pts (N2++L2.drop (j + 1))=pts N2++(pts L2).drop (j + 1):=fun N1 N2=>⟨by rw [pts_app,pts_drop],by rw [pts_app,pts_drop]⟩
       rcases e1:L1[i + 1]? with _ | y1 <;> rcases e2:L2[j + 1]? with _ | y2
       · refine slC4 hkL hfL KX hS H bd c1 c2 e1 e2 fun h' t' ti tj ex n5 sl n3 n4 slf H => ?_
         rw [eM,eU] at H
         refine fin _ _ _ _ ?_ ?_ _ _ _ _ _ _ _ _ _ _ H
         · rw [(fC M U).1,e,z1 e1,z2 e2,diff_nl]
         · rw [(fC M U).2,e,z1 e1,z2 e2,diff_nl]
       · refine slC3 hkL hfL KX hS H bd c1 c2 e1 e2 (next_ne hL.d2 x2 e2) fun h' t' ti tj ex n5 sl n3 n4 slf H => ?_
         rw [eM,eU] at H
         refine fin _ _ _ _ ?_ ?_ _ _ _ _ _ _ _ _ _ _ H
         · rw [(fC M U).1,e,z1 e1,diff_nl]
         · rw [(fC M U).2,e,z1 e1,diff_nl]
       · refine slC2 hkL hfL KX hS H bd c1 c2 e1 (next_ne hL.d1 x1 e1) e2 fun h' t' ti tj ex n5 sl n3 n4 slf H => ?_
         rw [eM,eU] at H
         refine fin _ _ _ _ ?_ ?_ _ _ _ _ _ _ _ _ _ _ H
         · rw [(fC M U).1,e,z2 e2,diff_nr]
         · rw [(fC M U).2,e,z2 e2,diff_nr]
       · exact slC1 hkL hfL KX hS H bd c1 c2 e1 (next_ne hL.d1 x1 e1) e2 (next_ne hL.d2 x2 e2) fun h' t' ti tj k7 k8 n5 n3 n4 H=>IH (i + 1,j + 1) h' t' (by dsimp only;omega) ⟨ti,tj,_,n5,_,n3,n4,_,M,U,H,.inr ⟨_,_,_,_,rfl⟩,⟨(List.getElem?_eq_some_iff.mp e1).1,(List.getElem?_eq_some_iff.mp e2).1,by dsimp only;omega,by dsimp only;omega,e⟩⟩
end
theorem sld {b:Bool}{w:World}{g:Array GenState}{d:Drawn}{os:OsState}{q1 q2 lf:Addr}{n1 n2 nf:Nat}{L1 L2:List PT}{envL:Env}{esf:List DictEntry}{slf:Array (Option Value)}(hkL:envL.scope.kind≠.module) (hfL:envL.frame=some lf) (hL:SlH L1 L2) :
  Ct prg (wv b w) 500 (some [envL]) (KK (wv b w).params) g d os (.call (.ref 28) ⟨[.ref q1, .ref q2], []⟩) [(q1, lst (L1.map pv) n1), (q2, lst (L2.map pv) n2), (lf, locS esf nf slf)] none
    fun u=>(.ok (.ret (.ref u.n)),[(u.n,tupO [.ref u.n2,.ref u.n3] 0),(u.n2,lst ((tag (diff (pts L1) (pts L2)).1 u.L).map pv) u.n4),(u.n3,lst ((tag (diff (pts L1) (pts L2)).2 u.L2).map pv) u.n5),(q1,lst (L1.map pv) n1),(q2,lst (L2.map pv) n2),(lf,locS esf nf u.s4)]):=by
 refine ⟨fun B h t R KX hS H x=>?_⟩
 refine' go_ent KX H rfl ?_
 (refine' run_T KX Rin.nil H 4000 ⟨[0,4,5,1,2,6],7⟩ rfl [.k,.b 0,.c 0,.f 0,.c 0,.f 0,.k,.c 0,.f 0,.c 0,.f 0,.b 1,.c 1,.f 1,.b 2,.c 2,.f 2,.v 3 (fun al=>rC KX hS [3,3,2,1,0,0] 0 true (True) (fun _=>slW (q1:=q1) (q2:=q2) (m:=(al 1).n) (u:=(al 2).n) (lc:=(al 0).n) (k1:=t) (k2:=t + 1) (k3:=t + 1 + 1 + 1) (k4:=t + 1 + 1 + 1 + 1) (k5:=t + 1 + 1 + 1 + 1 + 1) (k6:=t + 1 + 1 + 1 + 1 + 1 + 1) (n1:=n1) (n2:=n2) (nf:=nf) (esf:=esf) (ti:=t + 1 + 1) (tj:=t + 1 + 1) (n5:=0 + 1 + 1 + 1 + 1 + 1 + 1) (n3:=0) (n4:=0) (sl:={ toList:=[] }) (slf:=slf) hkL hfL hL)),.c 2,.c 2,.b 4] fun al=>end_R (r:=(.ok (.ret (.ref _)))) (cs:=[(_,tupO [.ref _,.ref _] 0),(_,lst ((tag (diff (pts L1) (pts L2)).1 _).map pv) _),(_,lst ((tag (diff (pts L1) (pts L2)).2 _).map pv) _),(q1,lst (L1.map pv) n1),(q2,lst (L2.map pv) n2),(lf,locS esf nf _)]) (by kernel_rfl) rfl  ⟨(fun hF=>trivial),trivial⟩ fun hp t hF H=>?_)
 exact x { xd0 with n:=_,n2:=_,n3:=_,L:=_,L2:=_,n4:=_,n5:=_,s4:=_,t:=_ } _ trivial H
noncomputable def udf:List Pt→List Pt→List Pt→List Pt×List Pt
 | [], A, M => (M, A)
 | p :: r, A, M => if p ∈ A then udf r (A.erase p) M else udf r A (M ++ [p])
noncomputable def udC (P:Params) (q1 q2 m lc lf:Addr) (k1 k2 k3:Tok) (esf:List DictEntry) (nf:Nat) (E A M:List Value) (n1 n2 n3:Nat) (ex:List DictEntry) (n5:Nat) (sl slf:Array (Option Value)):List (Addr×Obj) :=
 [(q1,lst E n1),(q2,lst A n2),(m,lst M n3),(lc,locS (ent P "expected" k1 (.ref q1) :: ent P "actual" k2 (.ref q2) :: ent P "missing" k3 (.ref m) :: ex) n5 sl),(lf,locS esf nf slf)]
section
variable {b:Bool}{w:World}{R:Result→Shared→Prop}{h:Heap}{g:Array GenState}{d:Drawn}{t:Nat}{os:OsState}{B:Addr→Option Obj}{q1 q2 m lc lf:Addr}{k1 k2 k3 n1 n2 n3 n5 nf:Nat}{E M:List Value}{L:List PT}{v:PT}{ex:List DictEntry}{sl slf:Array (Option Value)}{envL:Env}{esf:List DictEntry}
theorem ud_yes (KX:Kin (KK (wv b w).params) B) (hS:(B sysModules).isSome=true) (H:Hp B h (udC (wv b w).params q1 q2 m lc lf k1 k2 k3 esf nf (E++[pv v]) (L.map pv) M n1 n2 n3 ex n5 sl slf))
  (hE:(E++[pv v]).length≤1000) (hL:L.length≤1000) (hv:v.1∈pts L) (hex:ex=[]∨∃ tk v,ex=[ent (wv b w).params "item" tk v])
  (IH:∀ h' t' tk n1 n2 n5,Hp B h' (udC (wv b w).params q1 q2 m lc lf k1 k2 k3 esf nf E ((rmv v.1 L).map pv) M n1 n2 n3 [ent (wv b w).params "item" tk (pv v)] n5 sl slf)→codeAny (model prg (wv b w)) (AF 520 (some [envAt (wv b w).params 35 lc,envL])) (lpAt2 (wv b w).params 35 lc 1 [] .none) R ⟨h',g,d,t',os⟩) :
  codeAny (model prg (wv b w)) (AF 520 (some [envAt (wv b w).params 35 lc,envL])) (lpAt2 (wv b w).params 35 lc 1 [] .none) R ⟨h,g,d,t,os⟩:=by
 refine' go_code ?_
 have hE2:E.length + 1≤1000:=by simpa using hE
 rcases hex with rfl | ⟨tk0,v0,rfl⟩
 · (refine' run_T KX Rin.nil H 4000 ⟨[0, 1, 2, 3, 4], 5⟩ rfl [.c 3, .c 0, .c 0, .v 0 (fun al => rLenB Rin.nil (.c 0) (E.length + 1)), .c 3, .c 0, .c 0, .c 0, .c 0, .v 1 (fun al => rPop 0 (E) (pv v)), .c 3, .g 3, .c 3, .c 1, .c 1, .c 1, .c 1, .c 3, .v 2 (fun al => rRemove 1 (L) (v.1))] fun al => end_A (c := (lpAt2 (wv b w).params 35 lc 1 [] .none)) (cs := (udC (wv b w).params q1 q2 m lc lf k1 k2 k3 esf nf E ((rmv v.1 L).map pv) M _ _ n3 [ent (wv b w).params "item" _ (pv v)] _ sl slf)) (by kernel_rfl) rfl  ⟨(fun hF => ⟨hv, hL⟩), (fun hF => ⟨rfl, hE⟩), (fun hF => ⟨by simp, hE2⟩), trivial⟩ fun hp t hF H => ?_)
   exact IH _ _ _ _ _ _ H
 · (refine' run_T KX Rin.nil H 4000 ⟨[0, 1, 2, 3, 4], 5⟩ rfl [.c 3, .c 0, .c 0, .v 0 (fun al => rLenB Rin.nil (.c 0) (E.length + 1)), .c 3, .c 0, .c 0, .c 0, .c 0, .v 1 (fun al => rPop 0 (E) (pv v)), .c 3, .g 3, .c 3, .c 1, .c 1, .c 1, .c 1, .c 3, .v 2 (fun al => rRemove 1 (L) (v.1))] fun al => end_A (c := (lpAt2 (wv b w).params 35 lc 1 [] .none)) (cs := (udC (wv b w).params q1 q2 m lc lf k1 k2 k3 esf nf E ((rmv v.1 L).map pv) M _ _ n3 [ent (wv b w).params "item" _ (pv v)] _ sl slf)) (by kernel_rfl) rfl  ⟨(fun hF => ⟨hv, hL⟩), (fun hF => ⟨rfl, hE⟩), (fun hF => ⟨by simp, hE2⟩), trivial⟩ fun hp t hF H => ?_)
   exact IH _ _ _ _ _ _ H
theorem ud_no (hkL:envL.scope.kind≠.module) (hfL:envL.frame=some lf) (KX:Kin (KK (wv b w).params) B) (hS:(B sysModules).isSome=true) (H:Hp B h (udC (wv b w).params q1 q2 m lc lf k1 k2 k3 esf nf (E++[pv v]) (L.map pv) M n1 n2 n3 ex n5 sl slf))
  (hE:(E++[pv v]).length≤1000) (hM:M.length≤1000) (hv:v.1 ∉ pts L) (hex:ex=[]∨∃ tk v,ex=[ent (wv b w).params "item" tk v])
  (IH:∀ h' t' tk n1 n2 n3 n5 sl slf,Hp B h' (udC (wv b w).params q1 q2 m lc lf k1 k2 k3 esf nf E (L.map pv) (M++[pv v]) n1 n2 n3 [ent (wv b w).params "item" tk (pv v)] n5 sl slf)→codeAny (model prg (wv b w)) (AF 520 (some [envAt (wv b w).params 35 lc,envL])) (lpAt2 (wv b w).params 35 lc 1 [] .none) R ⟨h',g,d,t',os⟩) :
  codeAny (model prg (wv b w)) (AF 520 (some [envAt (wv b w).params 35 lc,envL])) (lpAt2 (wv b w).params 35 lc 1 [] .none) R ⟨h,g,d,t,os⟩:=by
 refine' go_code ?_
 have hE2:E.length + 1≤1000:=by simpa using hE
 rcases hex with rfl | ⟨tk0,v0,rfl⟩
 · (refine' run_goK KX Rin.nil H 4000 ⟨[0, 1, 2, 3, 4], 5⟩ rfl [.c 3, .c 0, .c 0, .v 0 (fun al => rLenB Rin.nil (.c 0) (E.length + 1)), .c 3, .c 0, .c 0, .c 0, .c 0, .v 1 (fun al => rPop 0 (E) (pv v)), .c 3, .g 3, .c 3, .c 1, .c 1, .c 1, .c 1, .c 3] (fun _ => rfl) (fun _ => by kernel_rfl) (fun al => ⟨(fun hF => ⟨rfl, hE⟩), (fun hF => ⟨by simp, hE2⟩), trivial⟩) ?_; (try clear H); (try clear hp); intro al hp hF H)
   refine' go_rule (rRemoveNone 1 L v.1) rfl rfl hv H fun y hp _ H=>?_
   refine' go_note ?cxr ?cxf ?cxl H ?cxz ?cxn ?cxs ?_
   (case cxr => (
       have rb:=fun γ m0 m1 α β m m' f=>@Cx.bind γ m0 m1 α β m m' f
       have ro:=fun γ m0 m1 α m m' f=>@Cx.onRaise γ m0 m1 α m m' f
       have rc:=fun γ m0 m1 α m m' f=>@Cx.catchs γ m0 m1 α m m' f
       have rk:=fun γ m0 m1 α m m' f=>@Cx.keep γ m0 m1 α m m' f
       have ri:=fun γ m0 m1 α β m m' f r=>@Cx.bindI γ m0 m1 α β m m' f r
       unfold PySem.W.R.bindR at ri
       unfold PySem.W.R.bindR at rb
       unfold PySem.W.R.onRaiseR at ro
       unfold PySem.W.R.catchR at rc
       unfold PySem.W.R.keepR at rk
       iterate 40 (first | with_reducible exact Cx.hole | with_reducible apply ri | with_reducible apply ro | with_reducible apply rb | with_reducible apply rc | with_reducible apply rk | with_reducible apply Cx.bind | with_reducible apply Cx.onRaise | with_reducible apply Cx.catchs | with_reducible apply Cx.keep | skip)))
   (case cxf=>rfl);(case cxl=>rfl);(case cxz=>(repeat (first | exact Cell.head | apply Cell.tail)));(case cxn=>rfl);(case cxs=>(refine' FrsIn.cons ?k1 ?k0 ?k2 (FrsIn.cons hkL hfL ?k3 trivial);(case k1=>(intro x;cases x));(case k0=>rfl);(case k2=>(repeat (first | exact Cell.head | apply Cell.tail)));(case k3=>(repeat (first | exact Cell.head | apply Cell.tail)))));clear H;(try clear hp);intro hp σ T vs H
   (refine' run_T KX Rin.nil H 4000 ⟨[2,3,4,5,6],7⟩ rfl [.c 1,.c 0,.c 0,.e,.k,.k,.c 1,.e,.c 1,.c 0,.c 0,.c 5,.c 4,.c 4,.c 4,.c 4,.c 5,.v 0 (fun al=>rAppend 4)] fun al=>end_A (c:=(lpAt2 (wv b w).params 35 lc 1 [] .none)) (cs:=(udC (wv b w).params q1 q2 m lc lf k1 k2 k3 esf nf E (L.map pv) (M++[pv v]) _ _ _ [ent (wv b w).params "item" _ (pv v)] _ _ _)) (by kernel_rfl) rfl  ⟨(fun hF=>hM),trivial⟩ fun hp t hF H=>?_)
   exact IH _ _ _ _ _ _ _ _ _ H
 · (refine' run_goK KX Rin.nil H 4000 ⟨[0, 1, 2, 3, 4], 5⟩ rfl [.c 3, .c 0, .c 0, .v 0 (fun al => rLenB Rin.nil (.c 0) (E.length + 1)), .c 3, .c 0, .c 0, .c 0, .c 0, .v 1 (fun al => rPop 0 (E) (pv v)), .c 3, .g 3, .c 3, .c 1, .c 1, .c 1, .c 1, .c 3] (fun _ => rfl) (fun _ => by kernel_rfl) (fun al => ⟨(fun hF => ⟨rfl, hE⟩), (fun hF => ⟨by simp, hE2⟩), trivial⟩) ?_; (try clear H); (try clear hp); intro al hp hF H)
   refine' go_rule (rRemoveNone 1 L v.1) rfl rfl hv H fun y hp _ H=>?_
   refine' go_note ?cxr ?cxf ?cxl H ?cxz ?cxn ?cxs ?_
   (case cxr => (
       have rb:=fun γ m0 m1 α β m m' f=>@Cx.bind γ m0 m1 α β m m' f
       have ro:=fun γ m0 m1 α m m' f=>@Cx.onRaise γ m0 m1 α m m' f
       have rc:=fun γ m0 m1 α m m' f=>@Cx.catchs γ m0 m1 α m m' f
       have rk:=fun γ m0 m1 α m m' f=>@Cx.keep γ m0 m1 α m m' f
       have ri:=fun γ m0 m1 α β m m' f r=>@Cx.bindI γ m0 m1 α β m m' f r
       unfold PySem.W.R.bindR at ri
       unfold PySem.W.R.bindR at rb
       unfold PySem.W.R.onRaiseR at ro
       unfold PySem.W.R.catchR at rc
       unfold PySem.W.R.keepR at rk
       iterate 40 (first | with_reducible exact Cx.hole | with_reducible apply ri | with_reducible apply ro | with_reducible apply rb | with_reducible apply rc | with_reducible apply rk | with_reducible apply Cx.bind | with_reducible apply Cx.onRaise | with_reducible apply Cx.catchs | with_reducible apply Cx.keep | skip)))
   (case cxf=>rfl);(case cxl=>rfl);(case cxz=>(repeat (first | exact Cell.head | apply Cell.tail)));(case cxn=>rfl);(case cxs=>(refine' FrsIn.cons ?k1 ?k0 ?k2 (FrsIn.cons hkL hfL ?k3 trivial);(case k1=>(intro x;cases x));(case k0=>rfl);(case k2=>(repeat (first | exact Cell.head | apply Cell.tail)));(case k3=>(repeat (first | exact Cell.head | apply Cell.tail)))));clear H;(try clear hp);intro hp σ T vs H
   (refine' run_T KX Rin.nil H 4000 ⟨[2,3,4,5,6],7⟩ rfl [.c 1,.c 0,.c 0,.e,.k,.k,.c 1,.e,.c 1,.c 0,.c 0,.c 5,.c 4,.c 4,.c 4,.c 4,.c 5,.v 0 (fun al=>rAppend 4)] fun al=>end_A (c:=(lpAt2 (wv b w).params 35 lc 1 [] .none)) (cs:=(udC (wv b w).params q1 q2 m lc lf k1 k2 k3 esf nf E (L.map pv) (M++[pv v]) _ _ _ [ent (wv b w).params "item" _ (pv v)] _ _ _)) (by kernel_rfl) rfl  ⟨(fun hF=>hM),trivial⟩ fun hp t hF H=>?_)
   exact IH _ _ _ _ _ _ _ _ _ H
theorem ud_end (KX:Kin (KK (wv b w).params) B) (hS:(B sysModules).isSome=true) (H:Hp B h (udC (wv b w).params q1 q2 m lc lf k1 k2 k3 esf nf [] (L.map pv) M n1 n2 n3 ex n5 sl slf))
  (x:∀ h' t',Hp B h' (udC (wv b w).params q1 q2 m lc lf k1 k2 k3 esf nf [] (L.map pv) M n1 n2 n3 ex n5 sl slf)→R (.ok .next) ⟨h',g,d,t',os⟩) :
  codeAny (model prg (wv b w)) (AF 520 (some [envAt (wv b w).params 35 lc,envL])) (lpAt2 (wv b w).params 35 lc 1 [] .none) R ⟨h,g,d,t,os⟩:=by
 refine' go_code ?_
 (refine' run_T KX Rin.nil H 4000 ⟨[0,1,2,3,4],5⟩ rfl [.c 3,.c 0,.c 0,.v 0 (fun al=>rLenB Rin.nil (.c 0) (0))] fun al=>end_R (r:=(.ok .next)) (cs:=(udC (wv b w).params q1 q2 m lc lf k1 k2 k3 esf nf [] (L.map pv) M n1 n2 n3 ex n5 sl slf)) (by kernel_rfl) rfl  ⟨(fun hF=>⟨rfl,Nat.zero_le _⟩),trivial⟩ fun hp t hF H=>?_)
 exact x _ _ H
end
theorem rmv_le (p:Pt) (A:List PT):(rmv p A).length≤A.length:=by
 have:=congrArg List.length (rmv_pts p A)
 simp only [pts,List.length_map] at this
 rw [this,List.length_erase]
 split <;> simp
theorem udW {b:Bool}{w:World}{g:Array GenState}{d:Drawn}{os:OsState}{q1 q2 m lc lf:Addr}{k1 k2 k3 n1 n2 n3 n5 nf:Nat}{L1 L2:List PT}{sl slf:Array (Option Value)}{envL:Env}{esf:List DictEntry}(hkL:envL.scope.kind≠.module) (hfL:envL.frame=some lf) (h1:L1.length≤100) (h2:L2.length≤100) :
  Ct prg (wv b w) 520 (some [envAt (wv b w).params 35 lc, envL]) (KK (wv b w).params) g d os (lpAt2 (wv b w).params 35 lc 1 [] .none) (udC (wv b w).params q1 q2 m lc lf k1 k2 k3 esf nf (L1.map pv) (L2.map pv) [] n1 n2 n3 [] n5 sl slf) none
    fun u=>(.ok .next,udC (wv b w).params q1 q2 m lc lf k1 k2 k3 esf nf [] ((tag (udf (pts L1).reverse (pts L2) []).2 u.L2).map pv) ((tag (udf (pts L1).reverse (pts L2) []).1 u.L).map pv) u.n u.n2 u.n3 u.T.toList u.n5 u.s2 u.s4):=by
 refine ⟨fun B h t R KX hS H x => loopI (σ := List PT) (fun E => E.length) (fun E h => ∃ A M : List PT, ∃ n1 n2 n3 ex n5 sl slf, Hp B h (udC (wv b w).params q1 q2 m lc lf k1 k2 k3 esf nf (E.map pv) (A.map pv) (M.map pv) n1 n2 n3 ex n5 sl slf) ∧ (ex = [] ∨ ∃ tk v, ex = [ent (wv b w).params "item" tk v]) ∧ A.length ≤ 100 ∧ E.length + M.length ≤ 100 ∧ udf (pts E).reverse (pts A) (pts M) = udf (pts L1).reverse (pts L2) [])
   (fun E h t hi IH=>?_) (x:=L1) ⟨L2,[],n1,n2,n3,[],n5,sl,slf,H,.inl rfl,h2,h1,rfl⟩⟩
 obtain ⟨A,M,n1,n2,n3,ex,n5,sl,slf,H,hex,hA,hE,hu⟩:=hi
 rcases List.eq_nil_or_concat E with rfl | ⟨K,v,rfl⟩
 · have e1 : pts M = (udf (pts L1).reverse (pts L2) []).1 := by rw [← hu]; rfl
   have e2:pts A=(udf (pts L1).reverse (pts L2) []).2:=by rw [← hu];rfl
   exact ud_end KX hS H fun h' t' H=>x { xd0 with n:=n1,n2:=n2,n3:=n3,T:=ex.toArray,n5:=n5,s2:=sl,s4:=slf,L:=M.map (·.2),L2:=A.map (·.2),t:=t' } h' trivial (by dsimp only;rw [← e1,← e2,tag_pts,tag_pts];exact H)
 · rw [List.concat_eq_append] at H hu hE IH
   rw [List.length_append] at hE
   have hE':K.length + 1 + M.length≤100:=hE
   rw [map_snoc] at H
   have hK:(K.map pv++[pv v]).length≤1000:=by rw [List.length_append,List.length_map];show K.length + 1≤_;omega
   rw [pts_snoc,List.reverse_append] at hu
   have hu:udf (v.1 :: (pts K).reverse) (pts A) (pts M)=_:=hu
   have hlt:K.length < (K++[v]).length:=by rw [List.length_append];exact Nat.lt_succ_self _
   by_cases hv:v.1∈pts A
   · refine ud_yes KX hS H hK (by omega) hv hex fun h' t' tk n1 n2 n5 H => IH K h' t' hlt ⟨rmv v.1 A, M, n1, n2, n3, _, n5, sl, slf, H, .inr ⟨tk, pv v, rfl⟩, Nat.le_trans (rmv_le _ _) hA, by omega, ?_⟩
     rw [udf,if_pos hv] at hu
     rw [rmv_pts];exact hu
   · refine ud_no hkL hfL KX hS H hK (by rw [List.length_map]; omega) hv hex fun h' t' tk n1 n2 n3 n5 sl slf H => ?_
     rw [← map_snoc] at H
     refine IH K h' t' hlt ⟨A,M++[v],n1,n2,n3,_,n5,sl,slf,H,.inr ⟨tk,pv v,rfl⟩,hA,by rw [List.length_append];show K.length + (M.length + 1)≤100;omega,?_⟩
     rw [udf,if_neg hv] at hu
     rw [pts_snoc];exact hu
theorem uld {b:Bool}{w:World}{g:Array GenState}{d:Drawn}{os:OsState}{q1 q2 lf:Addr}{n1 n2 nf:Nat}{L1 L2:List PT}{slf:Array (Option Value)}{envL:Env}{esf:List DictEntry}(hkL:envL.scope.kind≠.module) (hfL:envL.frame=some lf) (h1:L1.length≤100) (h2:L2.length≤100) :
  Ct prg (wv b w) 500 (some [envL]) (KK (wv b w).params) g d os (.call (.ref 35) ⟨[.ref q1, .ref q2], []⟩) [(q1, lst (L1.map pv) n1), (q2, lst (L2.map pv) n2), (lf, locS esf nf slf)] none
    fun u=>(.ok (.ret (.ref u.n)),[(u.n,tupO [.ref u.n2,.ref q2] 0),(u.n2,lst ((tag (udf (pts L1).reverse (pts L2) []).1 u.L).map pv) u.n3),(q2,lst ((tag (udf (pts L1).reverse (pts L2) []).2 u.L2).map pv) u.n4),(lf,locS esf nf u.s4)]):=by
 refine ⟨fun B h t R KX hS H x=>?_⟩
 refine' go_ent KX H rfl ?_
 (refine' run_T KX Rin.nil H 4000 ⟨[0,3,2,5],6⟩ rfl [.k,.b 0,.c 0,.f 0,.c 0,.f 0,.k,.b 1,.c 1,.f 1,.v 2 (fun al=>rC KX hS [2,2,0,0,0] 0 true (True) (fun _=>udW (q1:=q1) (q2:=q2) (m:=(al 1).1) (lc:=(al 0).n) (k1:=t) (k2:=t + 1) (k3:=t + 1 + 1) (n1:=n1) (n2:=n2) (n3:=0) (n5:=0 + 1 + 1 + 1) (nf:=nf) (sl:={ toList:=[] }) (slf:=slf) (esf:=esf) hkL hfL h1 h2)),.c 3,.c 3,.b 3] fun al=>end_R (r:=(.ok (.ret (.ref _)))) (cs:=[(_,tupO [.ref _,.ref q2] 0),(_,lst ((tag (udf (pts L1).reverse (pts L2) []).1 _).map pv) _),(q2,lst ((tag (udf (pts L1).reverse (pts L2) []).2 _).map pv) _),(lf,locS esf nf _)]) (by kernel_rfl) rfl  ⟨(fun hF=>trivial),trivial⟩ fun hp t hF H=>?_)
 exact x { xd0 with n:=_,n2:=_,L:=_,L2:=_,n3:=_,n4:=_,s4:=_,t:=_ } _ trivial H
noncomputable def lt (i:Fin 3):Str:=⟨#[i.val + 97]⟩
section
variable {b:Bool}{w:World}{g:Array GenState}{d:Drawn}{os:OsState}{t1 t2 t3 t4:Nat}
theorem jo1:∀ i:Fin 3,sp (.a i)=⟨#[47]⟩++lt i:=by decide +kernel
theorem jo2:∀ i j:Fin 3,sp (.b i j)=⟨#[47]⟩++lt i++(Str.ofString "/"++lt j):=by decide +kernel
theorem jo3:∀ i j k:Fin 3,sp (.c i j k)=⟨#[47]⟩++lt i++(Str.ofString "/"++lt j)++(Str.ofString "/"++lt k):=by decide +kernel
theorem jn1 (i:Fin 3):Ct prg (wv b w) 400 none (KK (wv b w).params) g d os (.call (.ref 249) ⟨[.str ⟨#[47]⟩ t1,.str (lt i) t2],[]⟩) [] none
    fun u=>(.ok (.ret (.str (sp (.a i)) u.n)),[]):=by
 rw [jo1]
 refine ⟨fun B h t R KX hS H x=>?_⟩
 refine' go_ent KX H rfl ?_
 (refine' run_T2 KX Rin.nil H 4000 ⟨[],10⟩ rfl [.k,.b 0,.b 1,.c 0,.f 0,.c 0,.f 0,.k,.k,.c 0,.k,.n,.k,.b 2,.c 0,.f 0,.k,.k,.k,.c 0,.e,.q,.c 0,.f 0,.k,.k,.c 0,.k,.k,.k,.k,.b 3,.e,.q,.q,.c 0,.c 0,.c 0,.c 0,.e,.q,.c 1,.c 2,.f 2,.k,.c 2,.k,.n,.k,.b 4,.c 0,.f 0,.k,.k,.k,.c 0,.k,.k,.e,.q,.q,.e,.q,.e,.q,.q,.c 3,.f 3,.c 3,.c 3,.f 3,.c 3,.c 4,.c 4,.e,.c 4,.q,.b 5,.c 0,.e,.c 0,.e,.c 0,.q,.c 0,.c 0,.c 5,.c 0,.f 0,.c 4,.f 4,.k,.c 4,.k,.n,.k,.b 6,.c 0,.f 0,.k,.k,.k,.c 0,.e,.q,.c 0,.f 0,.k,.k,.c 0,.k,.k,.k,.k,.b 7,.e,.q,.q,.c 0,.c 0,.c 0,.c 0,.e,.q,.c 1,.c 6,.f 6,.c 6,.c 6,.e,.q,.c 6,.e,.e,.q,.c 6,.c 6,.e,.q,.c 6,.c 6,.e,.q,.c 6,.f 6,.q,.c 2,.e,.c 2,.q,.c 2,.c 2,.c 7,.c 2,.f 2,.b 8,.b 9,.c 0,.c 8] fun al=>end_R2 (r:=(.ok (.ret (.str (⟨#[47]⟩++lt i) _)))) (cs:=[]) (by kernel_rfl) (by kernel_rfl) rfl (by kernel_rfl) trivial fun hp t hF H=>?_)
 exact x { xd0 with n:=_,t:=_ } _ trivial H
theorem jn2 (i j:Fin 3):Ct prg (wv b w) 400 none (KK (wv b w).params) g d os (.call (.ref 249) ⟨[.str ⟨#[47]⟩ t1,.str (lt i) t2,.str (lt j) t3],[]⟩) [] none
    fun u=>(.ok (.ret (.str (sp (.b i j)) u.n)),[]):=by
 rw [jo2]
 refine ⟨fun B h t R KX hS H x=>?_⟩
 refine' go_ent KX H rfl ?_
 (refine' run_T2 KX Rin.nil H 4000 ⟨[],12⟩ rfl [.k,.b 0,.b 1,.c 0,.f 0,.c 0,.f 0,.k,.k,.c 0,.k,.n,.k,.b 2,.c 0,.f 0,.k,.k,.k,.c 0,.e,.q,.c 0,.f 0,.k,.k,.c 0,.k,.k,.k,.k,.b 3,.e,.q,.q,.c 0,.c 0,.c 0,.c 0,.e,.q,.c 1,.c 2,.f 2,.k,.c 2,.k,.n,.k,.b 4,.c 0,.f 0,.k,.k,.k,.c 0,.k,.k,.e,.q,.q,.e,.q,.e,.q,.q,.c 3,.f 3,.c 3,.c 3,.f 3,.c 3,.c 4,.c 4,.e,.c 4,.q,.b 5,.c 0,.e,.c 0,.e,.c 0,.q,.c 0,.c 0,.c 5,.c 0,.f 0,.c 4,.f 4,.k,.c 4,.k,.n,.k,.b 6,.c 0,.f 0,.k,.k,.k,.c 0,.e,.q,.c 0,.f 0,.k,.k,.c 0,.k,.k,.k,.k,.b 7,.e,.q,.q,.c 0,.c 0,.c 0,.c 0,.e,.q,.c 1,.c 6,.f 6,.c 6,.c 6,.e,.q,.c 6,.e,.e,.q,.c 6,.c 6,.e,.q,.c 6,.c 6,.e,.q,.c 6,.f 6,.q,.c 2,.e,.c 2,.q,.c 2,.c 2,.c 7,.c 2,.f 2,.c 6,.f 6,.k,.c 6,.k,.n,.k,.b 8,.c 0,.f 0,.k,.k,.k,.c 0,.e,.q,.c 0,.f 0,.k,.k,.c 0,.k,.k,.k,.k,.b 9,.e,.q,.q,.c 0,.c 0,.c 0,.c 0,.e,.q,.c 1,.c 8,.f 8,.c 8,.c 8,.e,.q,.c 8,.e,.e,.q,.c 8,.c 8,.e,.q,.c 8,.c 8,.c 8,.e,.q,.e,.q,.c 8,.f 8,.q,.c 4,.e,.c 4,.q,.c 4,.c 4,.c 9,.c 4,.f 4,.b 10,.b 11,.c 0,.c 10] fun al=>end_R2 (r:=(.ok (.ret (.str (⟨#[47]⟩++lt i++(Str.ofString "/"++lt j)) _)))) (cs:=[]) (by kernel_rfl) (by kernel_rfl) rfl (by kernel_rfl) trivial fun hp t hF H=>?_)
 exact x { xd0 with n:=_,t:=_ } _ trivial H
theorem jn3 (i j k:Fin 3):Ct prg (wv b w) 400 none (KK (wv b w).params) g d os (.call (.ref 249) ⟨[.str ⟨#[47]⟩ t1,.str (lt i) t2,.str (lt j) t3,.str (lt k) t4],[]⟩) [] none
    fun u=>(.ok (.ret (.str (sp (.c i j k)) u.n)),[]):=by
 rw [jo3]
 refine ⟨fun B h t R KX hS H x=>?_⟩
 refine' go_ent KX H rfl ?_
 (refine' run_T2 KX Rin.nil H 4000 ⟨[],14⟩ rfl [.k,.b 0,.b 1,.c 0,.f 0,.c 0,.f 0,.k,.k,.c 0,.k,.n,.k,.b 2,.c 0,.f 0,.k,.k,.k,.c 0,.e,.q,.c 0,.f 0,.k,.k,.c 0,.k,.k,.k,.k,.b 3,.e,.q,.q,.c 0,.c 0,.c 0,.c 0,.e,.q,.c 1,.c 2,.f 2,.k,.c 2,.k,.n,.k,.b 4,.c 0,.f 0,.k,.k,.k,.c 0,.k,.k,.e,.q,.q,.e,.q,.e,.q,.q,.c 3,.f 3,.c 3,.c 3,.f 3,.c 3,.c 4,.c 4,.e,.c 4,.q,.b 5,.c 0,.e,.c 0,.e,.c 0,.q,.c 0,.c 0,.c 5,.c 0,.f 0,.c 4,.f 4,.k,.c 4,.k,.n,.k,.b 6,.c 0,.f 0,.k,.k,.k,.c 0,.e,.q,.c 0,.f 0,.k,.k,.c 0,.k,.k,.k,.k,.b 7,.e,.q,.q,.c 0,.c 0,.c 0,.c 0,.e,.q,.c 1,.c 6,.f 6,.c 6,.c 6,.e,.q,.c 6,.e,.e,.q,.c 6,.c 6,.e,.q,.c 6,.c 6,.e,.q,.c 6,.f 6,.q,.c 2,.e,.c 2,.q,.c 2,.c 2,.c 7,.c 2,.f 2,.c 6,.f 6,.k,.c 6,.k,.n,.k,.b 8,.c 0,.f 0,.k,.k,.k,.c 0,.e,.q,.c 0,.f 0,.k,.k,.c 0,.k,.k,.k,.k,.b 9,.e,.q,.q,.c 0,.c 0,.c 0,.c 0,.e,.q,.c 1,.c 8,.f 8,.c 8,.c 8,.e,.q,.c 8,.e,.e,.q,.c 8,.c 8,.e,.q,.c 8,.c 8,.c 8,.e,.q,.e,.q,.c 8,.f 8,.q,.c 4,.e,.c 4,.q,.c 4,.c 4,.c 9,.c 4,.f 4,.c 8,.f 8,.k,.c 8,.k,.n,.k,.b 10,.c 0,.f 0,.k,.k,.k,.c 0,.e,.q,.c 0,.f 0,.k,.k,.c 0,.k,.k,.k,.k,.b 11,.e,.q,.q,.c 0,.c 0,.c 0,.c 0,.e,.q,.c 1,.c 10,.f 10,.c 10,.c 10,.e,.q,.c 10,.e,.e,.q,.c 10,.c 10,.e,.q,.c 10,.c 10,.c 10,.e,.q,.e,.q,.c 10,.f 10,.q,.c 6,.e,.c 6,.q,.c 6,.c 6,.c 11,.c 6,.f 6,.b 12,.b 13,.c 0,.c 12] fun al=>end_R2 (r:=(.ok (.ret (.str (⟨#[47]⟩++lt i++(Str.ofString "/"++lt j)++(Str.ofString "/"++lt k)) _)))) (cs:=[]) (by kernel_rfl) (by kernel_rfl) rfl (by kernel_rfl) trivial fun hp t hF H=>?_)
 exact x { xd0 with n:=_,t:=_ } _ trivial H
end
noncomputable abbrev sMap:String:=PySem.W.SZ.s462964344163437139x3
theorem sMap_eq:sMap="map":=id_is "map" (n:=PySem.code "map") (by decide +kernel) rfl
noncomputable def mapO (tu fn:Addr):Obj:=⟨.type sMap,none,.fields #[.ref tu,.ref fn],#[]⟩
section
variable {b:Bool}{w:World}{g:Array GenState}{d:Drawn}{os:OsState}
theorem mcoll {l m tu it q:Addr}{n n0:Nat}(p1 p2:PT):Ct prg (wv b w) 430 none (KK (wv b w).params) g d os (.builtin "list.extend.loop" ⟨[.ref l,.ref m,.ref l],[]⟩) [(l,lst [] n0),(m,mapO tu 228),(tu,tupO [.ref it] 0),(it,itL q 0),(q,lst [pv p1,pv p2] n)] none
    fun u=>(.ok (.ret (.ref l)),[(l,lst [pv p1,pv p2] u.n),(q,lst [pv p1,pv p2] n)]):=by
 refine ⟨fun B h t R KX hS H x=>?_⟩
 refine' go_code ?_
 (refine' run_T KX Rin.nil H 4000 ⟨[2,3,4,5,6],7⟩ rfl [.c 1,.e,.c 1,.q,.c 1,.c 2,.c 3,.v 0 (fun al=>rNext Rin.nil 3 (.c 4) (pv p1)),.c 1,.n,.k,.b 1,.c 0,.f 0,.k,.k,.k,.c 0,.e,.q,.c 0,.f 0,.k,.k,.c 0,.k,.k,.k,.k,.b 2,.e,.q,.q,.c 0,.c 0,.c 0,.c 0,.e,.q,.c 1,.c 2,.f 2,.c 2] fun al=>end_A (c:=(Code.builtin "list.extend.loop" ⟨[.ref l,.ref m,.ref l],[]⟩)) (cs:=[(l,lst [pv p1] _),(m,mapO tu 228),(tu,tupO [.ref it] 0),(it,itL q 1),(q,lst [pv p1,pv p2] n)]) (by kernel_rfl) rfl  ⟨(fun hF=>rfl),trivial⟩ fun hp t hF H=>?_)
 refine' go_code ?_
 (refine' run_T KX Rin.nil H 4000 ⟨[2,3,4,5,6],7⟩ rfl [.c 1,.e,.c 1,.q,.c 1,.c 2,.c 3,.v 0 (fun al=>rNext Rin.nil 3 (.c 4) (pv p2)),.c 1,.n,.k,.b 1,.c 0,.f 0,.k,.k,.k,.c 0,.e,.q,.c 0,.f 0,.k,.k,.c 0,.k,.k,.k,.k,.b 2,.e,.q,.q,.c 0,.c 0,.c 0,.c 0,.e,.q,.c 1,.c 2,.f 2,.c 2] fun al=>end_A (c:=(Code.builtin "list.extend.loop" ⟨[.ref l,.ref m,.ref l],[]⟩)) (cs:=[(l,lst [pv p1,pv p2] _),(m,mapO tu 228),(tu,tupO [.ref it] 0),(it,itL q 2),(q,lst [pv p1,pv p2] n)]) (by kernel_rfl) rfl  ⟨(fun hF=>rfl),trivial⟩ fun hp t hF H=>?_)
 refine' go_code ?_
 (refine' run_T KX Rin.nil H 4000 ⟨[1,5],6⟩ rfl [.c 1,.e,.c 1,.q,.c 1,.c 2,.c 3,.v 0 (fun al=>rNextEnd Rin.nil 3 (.c 4)),.c 0] fun al=>end_R (r:=(.ok (.ret (.ref l)))) (cs:=[(l,lst [pv p1,pv p2] _),(q,lst [pv p1,pv p2] n)]) (by kernel_rfl) rfl  ⟨(fun hF=>rfl),trivial⟩ fun hp t hF H=>?_)
 exact x { xd0 with n:=_,t:=_ } _ trivial H
end
section
open AutoSeq1 (wpAny_loadPart')
theorem mro_map:mroOf (.type "map")=pure [.type "map",.type "object"]:=by rw [mroOf_type];kernel_rfl
theorem lookup_map_new:typeLookup (.type "map") "__new__"=pure (some (.builtin "map.__new__")):=by rw [typeLookup_type,builtinLookup_eq_fast];kernel_rfl
theorem typeCall_map_2 (a b:Value):checkTypeCall "map" ⟨[a,b],[]⟩=pure ():=by kernel_rfl
theorem newCall_map_2 (a b:Value):checkBuiltinCall "map.__new__" ⟨[.type "map",a,b],[]⟩=pure ():=by kernel_rfl
theorem entry_map_new:entryFor table "map.__new__"=some Builtin.«map.__new__»:=entryFor_of_tree (by kernel_rfl)
theorem sub_map:isSubtype (.type "map") (.type "map")=pure true:=by rw [isSubtype_type];kernel_rfl
theorem slot_map_init:Slot "map" "__init__" "object.__init__" :=
 .of (owner := "object") (n := "__init__") (by rw [typeLookup_type, builtinLookup_eq_fast]; kernel_rfl) (by decide +kernel) (by decide +kernel) (by decide +kernel)
   (by first | exact .inl (by decide +kernel) | exact .inr (by decide +kernel)) (by rw [isSubtype_type];kernel_rfl)
theorem called_map:TypeCalled "map" "map.__new__" "object.__init__" :=
 ⟨by decide +kernel,by decide +kernel,⟨_,_,mro_map⟩,madeBy_type mro_map lookup_map_new (by decide +kernel),by decide +kernel,sub_map,slot_map_init⟩
theorem args_object_init_3 (a b c:Value):argsOk "object.__init__" ⟨[a,b,c],[]⟩:=by
 unfold argsOk;rw [signature?_of (id:="object.__init__") (n:=['_','_','t','i','n','i','_','_']) (o:=['t','c','e','j','b','o']) (by kernel_rfl) F.owner_object];kernel_rfl
theorem meets_map_new (f l:Addr) (items:Array Value) (n:Nat) :
   Meets (Builtin.«map.__new__» ⟨[.type "map", .ref f, .ref l], []⟩) (fun _ R s => s.heap.get? l = some { cls := .type "list", dict := none, data := .seq items n, slots := #[] } ∧
     R (.ok (.ret (.ref (s.heap.objs.size + 1 + 1))))
       { s with heap:=((s.heap.push { cls:=.type "list_iterator",data:=.fields #[.ref l,.int 0 0] }).push { cls:=.type "tuple",data:=.seq #[.ref s.heap.objs.size] }).push { cls:=.type "map",data:=.fields #[.ref (s.heap.objs.size + 1),.ref f] } }) :=
 .of_wp fun prog w A R s h => by
   obtain ⟨hp,g,d,tk,os⟩:=s;obtain ⟨hl,h⟩:=h
   have hsub:=sub_map
   have hL:Heap.IsList (Shared.heap ⟨hp,g,d,tk,os⟩) l items:=⟨_,hl,rfl,n,rfl⟩
   wp_walk using wpAny_loadPart' hl,wpAny_pyIter_list hL
   refine ⟨_,rfl,?_⟩
   simp only [Heap.size_push]
   exact h
end
section
variable {prog:Program}{w:World}{A:Around}{R:Result→Shared→Prop}{B:Addr→Option Obj}{g:Array GenState}{d:Drawn}{os:OsState}{rs:List (Addr×Obj)}
noncomputable def rMap (RX:Rin rs B) (lc:Lc):Rul prog w A R B g d os:=rF .t 7430766 anyS rs [lc] (fun as us _=>gHd as fun v r=>gRef v fun f=>gHd r fun v _=>gRef v fun q=>gHd us fun c _=>gSeq c.2 fun vs n=>some (f,q,vs,n))
 (fun s cs=>match s with | (f,q,vs,n)=>⟨[.ref f,.ref q],[(q,lst vs n)],True,none,fun u=>(.ok (.ret (.ref u.n)),(u.n,mapO u.n2 f) :: (u.n2,tupO [.ref u.n3] 0) :: (u.n3,itL q 0) :: cs,u.n4)⟩)
 fun s _ _ _ _ _ hid _ hl _ => ⟨fun _ _ _ h' i' H y => by
   obtain rfl:=cls_is "map" hid (by decide +kernel)
   have ho:=lk_ok RX (lkA_cons hl).1 H
   rw [lst_eq] at ho
   have H3:=((H.push (o:=itL s.2.1 0) rfl).push (o:=tupO [.ref h'.objs.size] 0) rfl).push (o:=mapO (h'.objs.size + 1) s.1) rfl
   simp only [Heap.size_push] at H3
   have hm:=H3.own _ (.head _)
   have z:=y { xd (h'.objs.size + 1 + 1) (h'.objs.size + 1) with n3:=h'.objs.size,n4:=i' } _ trivial H3
   rw [show (((h'.push (itL s.2.1 0)).push (tupO [.ref h'.objs.size] 0)).push (mapO (h'.objs.size + 1) s.1)) = (((h'.push { cls := .type "list_iterator", data := .fields #[.ref s.2.1, .int 0 0] }).push { cls := .type "tuple", data := .seq #[.ref h'.objs.size] }).push { cls := .type "map", data := .fields #[.ref (h'.objs.size + 1), .ref s.1] }) by
     unfold itL tupO mapO
     rw [sLI_eq,sTup_eq,sMap_eq]
     rfl] at hm z
   exact go_callW (callType_new called_map (by decide) (typeCall_map_2 _ _) (newCall_map_2 _ _) (fun obj=>args_object_init_3 obj _ _) entry_map_new (meets_map_new s.1 s.2.1 s.2.2.1.toArray s.2.2.2) ⟨ho,⟨_,hm,sMap_eq ▸ rfl⟩,z⟩)⟩
end
section
open AutoSeq1 (wpAny_loadPart')
theorem map_no_len:typeLookup (.type "map") "__len__"=pure none:=by rw [typeLookup_type,builtinLookup_eq_fast];kernel_rfl
theorem map_no_hint:typeLookup (.type "map") "__length_hint__"=pure none:=by rw [typeLookup_type,builtinLookup_eq_fast];kernel_rfl
theorem slot_map_iter:Slot "map" "__iter__" "map.__iter__" :=
 .of (owner := "map") (n := "__iter__") (by rw [typeLookup_type, builtinLookup_eq_fast]; kernel_rfl) (by decide +kernel) (by decide +kernel) (by decide +kernel)
   (by first | exact .inl (by decide +kernel) | exact .inr (by decide +kernel)) sub_map
theorem slot_map_next:Slot "map" "__next__" "map.__next__" :=
 .of (owner := "map") (n := "__next__") (by rw [typeLookup_type, builtinLookup_eq_fast]; kernel_rfl) (by decide +kernel) (by decide +kernel) (by decide +kernel)
   (by first | exact .inl (by decide +kernel) | exact .inr (by decide +kernel)) sub_map
theorem owner_map:Manifest.owners.lookup (String.ofList ['p','a','m'].reverse)=some Manifest.sig_map:=by kernel_rfl
theorem args_map_iter_1 (a:Value):argsOk "map.__iter__" ⟨[a],[]⟩:=by
 unfold argsOk;rw [signature?_of (id:="map.__iter__") (n:=['_','_','r','e','t','i','_','_']) (o:=['p','a','m']) (by kernel_rfl) owner_map];kernel_rfl
theorem entry_map_iter:entryFor table "map.__iter__"=some Builtin.«dict_keyiterator.__iter__» :=
 entryFor_alias (id':="dict_keyiterator.__iter__") (by kernel_rfl) (by first | rfl | decide +kernel | (unfold String.splitOn;simp +decide [String.splitOnAux])) (by decide +kernel) (by kernel_rfl)
variable {prog:Program}{w:World}{A:Around}{E:Value→Shared→Prop}{s:Shared}
theorem iter_map {m:Addr}{Q:Value→Shared→Prop}(hT:s.TypeIs (.ref m) "map") (h:Q (.ref m) s):wpAny (model prog w) A (pyIter (.ref m)) Q E s:=by
 refine wpAny_pyIter_slot hT slot_map_iter (wpAny_call_entry slot_map_iter hT entry_map_iter ?_ (args_map_iter_1 _))
 show wpAny _ _ (ret (.ref m)) _ _ s
 exact wpAny_pure ⟨_,rfl,"map",_,hT,slot_map_next.lookup,h⟩
noncomputable abbrev mset (h:Heap):Heap:=((h.push { cls:=.type "list",data:=.seq ([]:List Value).toArray }).update h.objs.size (Obj.mapSeq (·.push Value.none))).update h.objs.size (Obj.mapSeq (·.pop))
theorem collect_map {m:Addr}{o:Obj}{vs:List Value}{Q:List Value→Shared→Prop}(ho:s.heap.get? m=some o) (hc:o.cls=.type "map")
   (hl:codeAny (model prog w) A (.builtin "list.extend.loop" ⟨[.ref s.heap.objs.size,.ref m,.ref s.heap.objs.size],[]⟩) (fun r s'=>r=.ok (.ret (.ref s.heap.objs.size))∧∃ c,s'.heap.get? s.heap.objs.size=some { cls:=.type "list",data:=.seq vs.toArray c }∧Q vs s') { s with heap:=mset s.heap }) :
   wpAny (model prog w) A (collect (.ref m)) Q E s:=by
 have hSI:s.heap.objs.size≠m:=fun e=>Nat.lt_irrefl _ (e ▸ Heap.lt_size ho)
 unfold collect
 refine wpAny_bind (wpAny_runValue (codeAny_builtin F.entry_proto_collect ?_))
 rw [Around.under_plainId F.plain_proto_collect _]
 show wpAny _ A.in1 (newList [] >>= fun l=>again (.builtin "list.__iadd__" ⟨[l,.ref m],[]⟩)) _ _ s
 refine wpAny_bind (wpAny_newObj_type ?_)
 refine wpAny_pure ⟨plainId_quiet F.plain_list_iadd _,codeAny_builtin F.entry_list_iadd ?_⟩
 rw [Around.under_plainId F.plain_list_iadd _]
 have ho1:=Heap.get?_push_of_some { cls:=.type "list",data:=.seq ([]:List Value).toArray } ho
 have hT:Shared.TypeIs { s with heap:=s.heap.push { cls:=.type "list",data:=.seq ([]:List Value).toArray } } (.ref m) "map":=⟨_,ho1,hc⟩
 show wpAny _ A.in1 (Builtin.List.listExtendWith (.ref s.heap.objs.size) (.ref m) (.ref s.heap.objs.size)) _ _ _
 unfold Builtin.List.listExtendWith
 refine wpAny_bind (wpAny_typeOf hT ?_)
 have h1:Builtin.List.listSameRef (.ref s.heap.objs.size) (.ref m)=false:=by simp [Builtin.List.listSameRef,hSI]
 have h2:(Value.type "map" == Value.type "list")=false:=by decide
 have h3:(Value.type "map" == Value.type "tuple")=false:=by decide
 simp only [h1,h2,h3,Bool.or_false,Bool.false_eq_true,if_false]
 refine wpAny_bind (iter_map hT ?_)
 refine wpAny_bind (wpAny_holding ?_)
 unfold Builtin.List.listLengthHint
 refine wpAny_bind (wpAny_specialOf hT map_no_len ?_)
 show wpAny _ A.in1 (specialOf (Value.ref m) (Str.ofString "__length_hint__") >>= _) _ _ _
 refine wpAny_bind (wpAny_specialOf hT map_no_hint ?_)
 refine wpAny_pure ?_
 show wpAny _ A.in1 (rule "list.extend.makes-room" >>= fun _ => Builtin.List.listTouch (.ref s.heap.objs.size) >>= fun _ =>
   again (.builtin "list.extend.loop" ⟨[.ref s.heap.objs.size,.ref m,.ref s.heap.objs.size],[]⟩)) _ _ _
 refine wpAny_bind (wpAny_rule ?_)
 have hS1:(s.heap.push { cls:=.type "list",data:=.seq ([]:List Value).toArray }).get? s.heap.objs.size=some { cls:=.type "list",data:=.seq ([]:List Value).toArray }:=Heap.get?_push_size _ rfl
 refine wpAny_bind ?_
 show wpAny _ A.in1 (updateSeq s.heap.objs.size (·.push .none) >>= fun _=>updateSeq s.heap.objs.size (·.pop)) _ _ _
 refine wpAny_bind (wpAny_updateSeq hS1 rfl ?_)
 have hS2:=Heap.get?_update_self (Obj.mapSeq (·.push Value.none)) hS1 rfl
 refine wpAny_updateSeq hS2 rfl ?_
 refine wpAny_pure ⟨plainId_quiet F.plain_extend_loop _,codeAny_mono hl fun r s' hr=>?_⟩
 obtain ⟨rfl,c,hS,hq⟩:=hr
 show wpAny _ A (load s.heap.objs.size >>= _) _ _ s'
 refine wpAny_bind (wpAny_load hS ?_)
 exact wpAny_pure (by simpa using hq)
theorem new_map {m:Addr}{o:Obj}{vs:List Value}{Q1:Value→Shared→Prop}(ho:s.heap.get? m=some o) (hc:o.cls=.type "map") (hv:vs.length≤1000)
   (hl : codeAny (model prog w) A.in1 (.builtin "list.extend.loop" ⟨[.ref s.heap.objs.size, .ref m, .ref s.heap.objs.size], []⟩) (fun r s' => r = .ok (.ret (.ref s.heap.objs.size)) ∧ ∃ c, s'.heap.get? s.heap.objs.size = some { cls := .type "list", data := .seq vs.toArray c } ∧
     Q1 (.ref s'.heap.objs.size) { s' with heap:=s'.heap.push { cls:=.type "tuple",data:=.seq vs.toArray } }) { s with heap:=mset s.heap }) :
   codeAny (model prog w) A (.call (.builtin "tuple.__new__") ⟨[.type "tuple",.ref m],[]⟩) (wants Q1 E) s:=by
 refine codeAny_of_tree ?_
 show wpAny _ A.in1 (do checkBuiltinCall "tuple.__new__" ⟨[.type "tuple",.ref m],[]⟩;again (.builtin "tuple.__new__" ⟨[.type "tuple",.ref m],[]⟩)) _ _ s
 refine wpAny_bind (wpAny_of_eq (F.newCall_tuple_1 _) (wpAny_pure ⟨plainId_quiet F.plain_tuple_new _,codeAny_builtin F.entry_tuple_new ?_⟩))
 rw [Around.under_plainId F.plain_tuple_new _]
 have hsub:=sub_tuple_self
 have hinit:=init_tuple_lookup
 have hmh:=madeHere_tuple
 have hTI:s.TypeIs (.ref m) "map":=⟨_,ho,hc⟩
 wp_walk using wpAny_typeOf hTI,collect_map (vs:=vs) ho hc
 refine codeAny_mono hl fun r s' hr=>?_
 obtain ⟨rfl,c,hS,hq⟩:=hr
 refine ⟨rfl,c,hS,?_⟩
 show wpAny _ _ (Builtin.Tuple.tupleExact vs.toArray >>= fun v=>ret v) _ _ _
 unfold Builtin.Tuple.tupleExact
 refine wpAny_bind (wpAny_newObj_type ?_ (by show vs.toArray.size≤sizeLine;simp [sizeLine];omega))
 exact wpAny_pure hq
end
section
variable {b:Bool}{w:World}{A:Around}{R:Result→Shared→Prop}{B:Addr→Option Obj}{g:Array GenState}{d:Drawn}{os:OsState}
theorem sideB_ok {D:Nat}{l:List Kt}{c:Code}(h:sideB D A l c=true):(ar A l).handled=none∧(ar A l).depth + c.weight≤D∧(ar A l).units + c.cUnits≤10 * D:=by
 unfold sideB at h
 cases h6:(ar A l).handled with
 | some v => rw [h6] at h; cases h
 | none =>
   rw [h6] at h
   dsimp only at h
   cases h7:Nat.ble ((ar A l).depth + c.weight) D with
   | false => rw [h7] at h; cases h
   | true => rw [h7] at h; exact ⟨rfl, Nat.le_of_ble_eq_true h7, Nat.le_of_ble_eq_true h⟩
theorem tupM_go {l:List Kt}{c:Code}{gg:Bool}{lv:List Value}{k:Result→Sem PySem.Fin}{h':Heap}{i':Nat}{a m1 m2 m3:Addr}{n:Nat}{X:Us}{p1 p2:PT}(KX:Kin (KK (wv b w).params) B) (hS:(B sysModules).isSome=true) (hs:sideB 410 A l c=true)
   (H:Hp B h' ([(a,mapO m1 228),(m1,tupO [.ref m2] 0),(m2,itL m3 0),(m3,lst [pv p1,pv p2] n)]++X))
   (y:∀ (u:Xd) h2,Hp B h2 ((u.n,tupO [pv p1,pv p2] 0) :: (u.n2,lst [pv p1,pv p2] u.n3) :: (m3,lst [pv p1,pv p2] n) :: X)→Go prg (wv b w) A R l c (k (.ok (.ret (.ref u.n)))) ⟨h2,g,d,u.t,os⟩) :
   Go prg (wv b w) A R l c (.call (.call (.type "tuple") ⟨[.ref a],[]⟩) none gg lv k) ⟨h',g,d,i',os⟩:=by
 have hm:h'.get? a=some (mapO m1 228):=H.own _ (.head _)
 have hmc:(mapO m1 228).cls=.type "map":=by unfold mapO;rw [sMap_eq]
 refine go_callW (callType_codes (Q₁:=fun obj s₁=>s₁.TypeIs obj "tuple"∧Go prg (wv b w) A R l c _ s₁) F.called_tuple (F.typeCall_tuple_1 _) F.entry_object_init (new_map (vs:=[pv p1,pv p2]) hm hmc (by show (2:Nat)≤1000;decide) ?_) fun obj s₁ h₁=>⟨h₁.1,F.args_object_init_2 obj _,object_init_meets F.called_tuple.init.lookup F.called_tuple.made (by decide) _ _ _ _ s₁ ⟨h₁.1,rfl,h₁.2⟩⟩)
 obtain ⟨n1,H2⟩:=lst_put (H.push (o:=lst [] 0) rfl) (i:=0) rfl (f:=fun xs=>xs.push Value.none) (vs':=[.none]) rfl
 obtain ⟨n2,H3⟩:=lst_put H2 (i:=0) rfl (f:=fun xs=>xs.pop) (vs':=[]) rfl
 rw [show ((h'.push (lst [] 0)).update h'.objs.size (Obj.mapSeq fun xs=>xs.push Value.none)).update h'.objs.size (Obj.mapSeq fun xs=>xs.pop)=mset h' by rw [lst_eq]] at H3
 obtain ⟨h6,hd,hu⟩:=sideB_ok hs
 refine codeAny_weakF (A':=AF 430 none) (((mcoll p1 p2).frame X).ok B _ i' _ KX hS H3 fun u h1 _ H'=>⟨rfl,u.n,?_,?_⟩) h6 (by show (ar A l).depth + c.weight≤430;omega) (.inl rfl) rfl (by show (ar A l).units + c.cUnits + 1 + 1≤10 * 430;omega)
 · have := H'.own _ (.head _)
   rw [lst_eq] at this
   exact this
 · have H4 := H'.push (o := tupO [pv p1, pv p2] 0) rfl
   have z:=y { xd h1.objs.size h'.objs.size with n3:=u.n,t:=u.t } _ H4
   have hg:=H4.own _ (.head _)
   unfold tupO at z hg
   rw [sTup_eq] at z hg
   exact ⟨⟨_,hg,rfl⟩,z⟩
noncomputable def rTupM (KX:Kin (KK (wv b w).params) B) (hS:(B sysModules).isSome=true) (ps:List Nat) (p1 p2:PT):Rul prg (wv b w) A R B g d os where
 eff l c c' cs := (hdK c').bind fun x => (isB (Nat.beq (PySem.W.S.codeS x.1) 439922816629)).bind fun _ => (isB (sideB 410 A l c)).bind fun _ => (takeP ps cs).bind fun y => (gHd x.2 fun v _ => gRef v fun a => gHd y.1 fun _ r => gHd r fun c2 r => gHd r fun c3 r => gHd r fun c4 _ => gSeq c4.2 fun _ n => some (a, c2.1, c3.1, c4.1, n)).bind fun s => match s with
   | (a, m1, m2, m3, n) => some ⟨[(.C c', .C (.call (.type x.1) ⟨[.ref a], []⟩)), (.L y.1, .L [(a, mapO m1 228), (m1, tupO [.ref m2] 0), (m2, itL m3 0), (m3, lst [pv p1, pv p2] n)])], True, none, fun u => (.ok (.ret (.ref u.n)), (u.n, tupO [pv p1, pv p2] 0) :: (u.n2, lst [pv p1, pv p2] u.n3) :: (m3, lst [pv p1, pv p2] n) :: y.2, u.t)⟩
 ok l c c' cs rp h he _:=by
   obtain ⟨x,_,h⟩:=bo h
   obtain ⟨_,h1,h⟩:=bo h
   obtain ⟨_,h2,h⟩:=bo h
   obtain ⟨y,h3,h⟩:=bo h
   obtain ⟨s,_,h⟩:=bo h
   obtain rfl:=Option.some.inj (show some (Rp.mk _ _ _ _)=some rp from h)
   rw [show c'=_ from Qx.C.inj (he _ (.head _)),cls_is "tuple" (isB_ok h1) (by decide +kernel)]
   refine ⟨fun _ _ _ h' i' H z=>?_⟩
   have H:=H.perm (takeP_ok h3).symm
   rw [show y.1=_ from Qx.L.inj (he _ (.tail _ (.head _)))] at H
   exact tupM_go KX hS (isB_ok h2) H fun u h2=>z u h2 trivial
end
section
variable {prog:Program}{w:World}{A:Around}{R:Result→Shared→Prop}{B:Addr→Option Obj}{h:Heap}{cs:List (Addr×Obj)}{g:Array GenState}{d:Drawn}{t:Nat}{os:OsState}{elt target iter:Expr}{ifs:List Expr}{rest:List Comprehension}{scope:Scope}{pos:PySem.Pos}{it:Addr}{acc:Value}{env:Env}
theorem comp_tup {q:Addr}{i:Nat}(H:Hp B h cs) (k:Nat) (e:pick k cs=some (it,itT q i))
   (h0:codeAny (model prog w) A (.compLoop (.ListComp elt (⟨target,iter,ifs,0⟩ :: rest) scope pos) 0 (.ref it) acc env) R ⟨h,g,d,t,os⟩) :
   codeAny (model prog w) A (.compStart (.ListComp elt (⟨target,iter,ifs,0⟩ :: rest) scope pos) 0 (.ref it) acc env) R ⟨h,g,d,t,os⟩:=by
 have hit:=own_pick e H
 unfold itT at hit
 rw [sTI_eq] at hit
 have hT:Shared.TypeIs ⟨h,g,d,t,os⟩ (.ref it) "tuple_iterator":=⟨_,hit,rfl⟩
 refine codeAny_compStart_list h0 (wpAny_pyIter_slot hT F.slot_tuple_iterator_iter (wpAny_call_entry F.slot_tuple_iterator_iter hT F.entry_tuple_iterator_iter ?_ (F.args_tuple_iterator_iter_1 _)))
 show wpAny _ _ (ret (.ref it)) _ _ _
 exact wpAny_pure ⟨_,rfl,"tuple_iterator",_,hT,F.slot_tuple_iterator_next.lookup,h0⟩
open Builtin Builtin.Str
noncomputable def SpOk (x y:Str) (ss:List Str):Prop:=(decide (x.length < y.length) || decide (PySem.Builtin.Str.strKind x < PySem.Builtin.Str.strKind y))=false∧(y.length == 0)=false∧(occurrences x y 0 x.length (x.length + 1)).isEmpty=false∧x.length≤sizeLine∧partsBetween x (occurrences x y 0 x.length (x.length + 1)) y.length=ss∧ss.length≤sizeLine
noncomputable def rSplit (ss:List Str):Rul prog w A R B g d os:=rSS 2165937967108325602676 (fun x y=>SpOk x y ss) (fun cs u=>(.ok (.ret (.ref u.n)),(u.n,lst (strsFrom u.n3 ss) 0) :: cs,u.n2))
 fun _ _ _ x y t1 t2 _ hid hp => ⟨fun _ _ _ h i H z => by
   obtain ⟨e1,e2,e3,e4,rfl,e6⟩:=hp
   refine ct_meets F.slot_str_split (typeIs_str _ _ _) F.entry_str_split (F.args_str_split_2 _ _) (meets_str_split_sep x y t1 t2 e1 e2 e3 e4 e6) (id_is _ hid (by decide +kernel)) ?_
   have:=z { xd h.objs.size (i + (partsBetween x (occurrences x y 0 x.length (x.length + 1)) y.length).length) with n3:=i } _ trivial (H.push (o:=lst (strsFrom i (partsBetween x (occurrences x y 0 x.length (x.length + 1)) y.length)) 0) rfl)
   rw [lst_eq] at this
   exact this⟩
end
section
variable {prog:Program}{w:World}{A:Around}{R:Result→Shared→Prop}{B:Addr→Option Obj}{h:Heap}{cs:List (Addr×Obj)}{g:Array GenState}{d:Drawn}{t:Nat}{os:OsState}{elt target iter:Expr}{ifs:List Expr}{rest:List Comprehension}{scope:Scope}{pos:PySem.Pos}{it:Addr}{acc:Value}{env:Env}{s:Shared}
theorem codeAny_compStart_set {it:Value}
   (h0:codeAny (model prog w) A (.compLoop (.SetComp elt (⟨target,iter,ifs,0⟩ :: rest) scope pos) 0 it acc env) R s)
   (h : wpAny (model prog w) A (pyIter it) (fun it' s' => codeAny (model prog w) A (.compLoop (.SetComp elt (⟨target, iter, ifs, 0⟩ :: rest) scope pos) 0 it' acc env) R s')
     (notedBy (model prog w) A env fun x s'=>R (.error x) s') s) :
   codeAny (model prog w) A (.compStart (.SetComp elt (⟨target,iter,ifs,0⟩ :: rest) scope pos) 0 it acc env) R s:=by
 refine codeAny_of_tree ?_
 show wpAny _ _ ((compStart (.SetComp elt (⟨target,iter,ifs,0⟩ :: rest) scope pos) 0 it acc env).onRaise (fun x=>do noteFrame x env;standAt theWindowsPlace)) _ _ s
 refine wpAny_notedAt ?_
 unfold compStart
 show wpAny _ _ (ask >>= _) _ _ s
 refine wpAny_bind (wpAny_askSetting (wpAny_ite ?_))
 split
 · first
     | exact wpAny_bind (wpAny_pure (wpAny_pure (And.intro rfl h0)))
     | exact wpAny_pure (And.intro rfl h0)
 · first
     | exact wpAny_bind (wpAny_rule (wpAny_bind (wpAny_standAt (wpAny_bind (wpAny_mono h (fun it' s' h' => wpAny_pure (And.intro rfl h')) fun _ _ x => x)))))
     | (refine wpAny_bind (wpAny_rule ?_); show wpAny _ _ (standAt iter.pos >>= _) _ _ s; exact wpAny_bind (wpAny_standAt (wpAny_bind (wpAny_mono h (fun it' s' h' => wpAny_pure (And.intro rfl h')) fun _ _ x => x))))
theorem comp_stup {q:Addr}{i:Nat}(H:Hp B h cs) (k:Nat) (e:pick k cs=some (it,itT q i))
   (h0:codeAny (model prog w) A (.compLoop (.SetComp elt (⟨target,iter,ifs,0⟩ :: rest) scope pos) 0 (.ref it) acc env) R ⟨h,g,d,t,os⟩) :
   codeAny (model prog w) A (.compStart (.SetComp elt (⟨target,iter,ifs,0⟩ :: rest) scope pos) 0 (.ref it) acc env) R ⟨h,g,d,t,os⟩:=by
 have hit:=own_pick e H
 unfold itT at hit
 rw [sTI_eq] at hit
 have hT:Shared.TypeIs ⟨h,g,d,t,os⟩ (.ref it) "tuple_iterator":=⟨_,hit,rfl⟩
 refine codeAny_compStart_set h0 (wpAny_pyIter_slot hT F.slot_tuple_iterator_iter (wpAny_call_entry F.slot_tuple_iterator_iter hT F.entry_tuple_iterator_iter ?_ (F.args_tuple_iterator_iter_1 _)))
 show wpAny _ _ (ret (.ref it)) _ _ _
 exact wpAny_pure ⟨_,rfl,"tuple_iterator",_,hT,F.slot_tuple_iterator_next.lookup,h0⟩
noncomputable def rSw (n:Bool):Rul prog w A R B g d os:=rSS 2138955654429694833752198633190772 (fun x y=>Txt.startswith x y=n) (fun cs u=>(.ok (.ret (.bool n)),cs,u.n))
 (fun _ _ _ _ _ _ _ _ hid e => ⟨fun _ _ _ _ i H z => by
   obtain rfl:=id_is "str.startswith" hid (by decide +kernel)
   exact go_callW (call_gives F.slot_str_startswith (typeIs_str _ _ _) F.entry_str_startswith (F.args_str_startswith_2 _ _) (gives_str_startswith _ _ _ _) (by
     have z:=z (xd i 0) _ trivial H
     rw [← e] at z
     exact z))⟩)
end
section
variable {prog:Program}{w:World}{A:Around}{E:Value→Shared→Prop}{s:Shared}
theorem hash_true {Q:Int→Shared→Prop}(h:Q 1 { s with toks:=s.toks + 1 }):wpAny (model prog w) A (pyHash (.bool true)) Q E s:=by
 unfold pyHash
 have hv:[Value.bool true].any Value.onHeap=false:=rfl
 have hT:s.TypeIs (.bool true) "bool":=PySem.typeIs_bool _ _
 refine wpAny_bind ?_
 rw [cRoomFor,if_neg (by rw [hv];exact Bool.false_ne_true)];refine wpAny_pure ?_
 refine wpAny_bind (wpAny_specialOf hT F.slot_bool_hash.lookup ?_)
 show wpAny _ _ (if (some (Value.builtin "int.__hash__") == some Value.none)=true then _ else _) Q E s
 rw [if_neg (by rw [beq_builtin_none];exact Bool.false_ne_true)]
 refine wpAny_bind (wpAny_specialOf hT F.slot_bool_hash.lookup ?_)
 show wpAny _ _ (callSpecialIfBoundUnlessNone? (.bool true) "__hash__" _ >>= _) Q E s
 refine wpAny_bind (wpAny_callSpecialIfBoundUnlessNone?_slot hT F.slot_bool_hash
   (wpAny_call_entry F.slot_bool_hash hT F.entry_int_hash
     (show wpAny _ _ (do ret (← mkInt (rawHash 1))) _ _ s from wpAny_ret_mkInt ?_) (F.args_int_hash_1 _)))
 show wpAny _ _ (if (decide (-(2:Int) ^ 63≤rawHash 1) && decide (rawHash 1 < 2 ^ 63))=true then _ else _) Q E _
 rw [if_pos (by decide)]
 exact wpAny_pure h
noncomputable def isTrue:Value→Bool
 | .bool true => true
 | _ => false
theorem isTrue_ok {v:Value}(h:isTrue v=true):v=.bool true:=by
 unfold isTrue at h
 split at h
 · rfl
 · cases h
noncomputable def oneKind (prog:Program) (w:World):KeyKind prog w Unit where
 is _:=isTrue
 hash _:=1
 inj _ _ _ _ _:=rfl
 byValue:=fun k v h=>by rw [isTrue_ok h];rfl
 pyHash:=fun hv h=>by rw [isTrue_ok hv];exact hash_true h
 eqBool := fun hu hv h => by
   rw [isTrue_ok hu,isTrue_ok hv]
   unfold eqBool
   refine wpAny_holding ?_
   show wpAny _ _ (if (Value.bool true == Value.bool true)=true then _ else _) _ _ _
   rw [if_pos (by rfl)]
   exact wpAny_bind (wpAny_rule (wpAny_pure (by simpa using h)))
 «strs»:=fun k x t v h=>by cases h
end
section
variable {prog:Program}{w:World}{A:Around}{E:Value→Shared→Prop}{s:Shared}
noncomputable abbrev tab1 (led:Bool):SetTable:={ SetTable.fresh 0 0 led with place:=#[1] }
theorem add_first {a:Addr}{led:Bool}{Q:Bool→Shared→Prop}(ho:s.heap.get? a=some ⟨.type "set",none,.set #[] 0 (.fresh 0 0 led),#[]⟩)
   (h:Q true { s with heap:=s.heap.update a (Obj.putSet #[(1,.bool true)] (tab1 led)) }):wpAny (model prog w) A (setAddHashed a (.bool true) 1) Q E s:=by
 have hel:ElemsOf (oneKind prog w) (#[]:Array (Int×Value)).toList:=fun e h=>absurd h (by simp)
 have hL:layNew (.fresh 0 0 led) #[] 1 (.bool true)=(#[(1,.bool true)],tab1 led,false,false):=by rfl
 unfold setAddHashed setAddHashedIn
 refine wpAny_holding (wpAny_bind (wpAny_setState_of ho rfl (by rfl) ?_))
 dsimp only
 rw [byScan_of (knd:=oneKind prog w) rfl (by decide) hel]
 simp only [↓reduceIte]
 unfold setAddByScan
 refine wpAny_bind ?_
 refine wpAny_bind (wpAny_rule ?_)
 refine wpAny_bind (wpAny_setScan_of (knd:=oneKind prog w) (k:=()) rfl ho rfl rfl hel ?_)
 rw [hL]
 dsimp only [List.findIdx?_nil]
 refine wpAny_bind (wpAny_pure ?_)
 rw [if_pos (by rfl)]
 refine wpAny_bind ?_
 rw [hashByValue_scannable 8 rfl]
 refine wpAny_pure ?_
 have e1:plainKind (Value.bool true)=true:=by rfl
 simp only [e1,if_true]
 refine wpAny_bind (wpAny_storeSet_of ho rfl ?_ (by decide))
 rw [if_neg (by cases led <;> decide)]
 exact wpAny_pure (wpAny_pure h)
theorem add_again {a:Addr}{led:Bool}{ep:Nat}{Q:Bool→Shared→Prop}(ho:s.heap.get? a=some ⟨.type "set",none,.set #[(1,.bool true)] ep (tab1 led),#[]⟩)
   (h:Q false s):wpAny (model prog w) A (setAddHashed a (.bool true) 1) Q E s:=by
 have hel : ElemsOf (oneKind prog w) (#[(1, .bool true)] : Array (Int × Value)).toList := fun e h => by
   obtain rfl:e=(1,.bool true):=by simpa using h
   exact ⟨⟨(),rfl,rfl⟩,rfl⟩
 unfold setAddHashed setAddHashedIn
 refine wpAny_holding (wpAny_bind (wpAny_setState_of ho rfl (by cases led <;> decide) ?_))
 dsimp only
 rw [byScan_of (knd:=oneKind prog w) rfl (by decide) hel]
 simp only [↓reduceIte]
 unfold setAddByScan
 refine wpAny_bind ?_
 refine wpAny_bind (wpAny_rule ?_)
 refine wpAny_bind (wpAny_setScan_of (knd:=oneKind prog w) (k:=()) rfl ho rfl (by cases led <;> decide) hel ?_)
 rw [show List.findIdx? (fun e:Int×Value=>(oneKind prog w).is () e.2) (#[(1,.bool true)]:Array (Int×Value)).toList=some 0 from rfl]
 dsimp only
 exact wpAny_pure (wpAny_pure h)
end
section
variable {prog:Program}{w:World}{A:Around}{R:Result→Shared→Prop}{B:Addr→Option Obj}{g:Array GenState}{d:Drawn}{os:OsState}{rs:List (Addr×Obj)}
noncomputable def set0 (led:Bool):Obj:=seO (.set #[] 0 (.fresh 0 0 led))
noncomputable def set1 (led:Bool):Obj:=seO (.set #[(1,.bool true)] 1 (tab1 led))
theorem call_add {a:Addr}{E:Value→Shared→Prop}{s:Shared}{Q:Value→Shared→Prop}{o:Obj}(ho:s.heap.get? a=some o) (hc:o.cls=.type "set")
   (hx:wpAny (model prog w) A.in1 (setAddHashed a (.bool true) 1) (fun _ s'=>Q .none s') E { s with toks:=s.toks + 1 }):wpAny (model prog w) A (call (.builtin "set.add") [.ref a,.bool true]) Q E s:=by
 refine wpAny_call_entry F.slot_set_add ⟨_,ho,hc⟩ F.entry_set_add ?_ (F.args_set_add_2 _ _)
 unfold Builtin.«set.add» Builtin.Frozenset.oneOther
 simp only [List.isEmpty_nil,bind_assoc]
 unfold Builtin.Frozenset.addrOf setAdd
 refine wpAny_bind (wpAny_pure ?_)
 try dsimp only
 refine wpAny_bind (wpAny_pure ?_)
 try dsimp only
 refine wpAny_bind ?_
 refine wpAny_holding ?_
 refine wpAny_bind (hash_true ?_)
 refine wpAny_mono hx (fun _ s' q=>?_) fun _ _ q=>q
 show wpAny _ _ (ret Value.none) _ _ _
 exact wpAny_pure ⟨_,rfl,q⟩
noncomputable def rSadd1a (i:Nat) (led:Bool):Rul prog w A R B g d os:=rF .b 28540445025199732 anyS [] [.c i] (fun as _ _=>gHd as fun v _=>gRef v some)
 (fun a cs=>⟨[.ref a,.bool true],[(a,set0 led)],True,none,fun u=>(.ok (.ret .none),putAt i cs (set1 led),u.n)⟩)
 fun a _ _ _ _ _ hid _ hl _ => ⟨fun _ _ _ h' i' H y => by
   obtain rfl:=id_is "set.add" hid (by decide +kernel)
   have h3:=(lkA_cons hl).1
   have ho:=own_pick h3 H
   unfold set0 seO at ho
   rw [sSet_eq] at ho
   refine go_callW (call_add ho rfl (add_first (s:=⟨h',g,d,i' + 1,os⟩) ho ?_))
   refine y (xd (i' + 1) 0) _ trivial (H.but h3 (Heap.SameBut.update h' a _) ?_)
   rw [Heap.get?_update_self _ ho (by rfl)]
   unfold set1 seO
   rw [sSet_eq];rfl⟩
noncomputable def rSadd1b (i:Nat) (led:Bool):Rul prog w A R B g d os:=rF .b 28540445025199732 anyS [] [.c i] (fun as _ _=>gHd as fun v _=>gRef v some)
 (fun a cs=>⟨[.ref a,.bool true],[(a,set1 led)],True,none,fun u=>(.ok (.ret .none),cs,u.n)⟩)
 fun a _ _ _ _ _ hid _ hl _ => ⟨fun _ _ _ h' i' H y => by
   obtain rfl:=id_is "set.add" hid (by decide +kernel)
   have ho:=own_pick (lkA_cons hl).1 H
   unfold set1 seO at ho
   rw [sSet_eq] at ho
   exact go_callW (call_add ho rfl (add_again (s:=⟨h',g,d,i' + 1,os⟩) ho (y (xd (i' + 1) 0) _ trivial H)))⟩
end
section
variable {prog:Program}{w:World}{A:Around}{E:Value→Shared→Prop}{s:Shared}
theorem entry_set_iter:entryFor table "set.__iter__"=some Builtin.«frozenset.__iter__» :=
 entryFor_alias (id':="frozenset.__iter__") (by kernel_rfl) (by first | rfl | decide +kernel | (unfold String.splitOn;simp +decide [String.splitOnAux])) (by decide +kernel) (by kernel_rfl)
#check @F.slot_set_iter
#check @F.args_set_iter_1
theorem siter {a:Addr}{led:Bool}{Q:Value→Shared→Prop}(ho:s.heap.get? a=some ⟨.type "set",none,.set #[(1,.bool true)] 1 (tab1 led),#[]⟩)
   (h:Q (.ref s.heap.objs.size) { s with heap:=s.heap.push { cls:=.type "set_iterator",data:=.fields #[.int 0 0,.int 0 0,.ref a,.int 1 0,.int 1 0] } }) :
   wpAny (model prog w) A (call (.builtin "set.__iter__") [.ref a]) Q E s:=by
 refine wpAny_call_entry F.slot_set_iter ⟨_,ho,rfl⟩ entry_set_iter ?_ (F.args_set_iter_1 _)
 unfold Builtin.«frozenset.__iter__»
 have hf:(tab1 led).fits 1=true:=by cases led <;> decide
 refine wpAny_bind (wpAny_pure ?_)
 refine wpAny_bind ?_
 unfold Builtin.Frozenset.sizeOf
 refine wpAny_bind (wpAny_setEntries_of ho rfl hf ?_)
 refine wpAny_pure ?_
 refine wpAny_bind ?_
 unfold setDrawn
 refine wpAny_bind (wpAny_setState_of ho rfl hf ?_)
 unfold setsByText
 refine wpAny_bind ?_
 refine wpAny_bind (wpAny_askSetting ?_)
 refine wpAny_pure (wpAny_pure ?_)
 rw [if_neg (fun h=>by rw [Bool.and_eq_true] at h;exact absurd h.2 (by show ¬ (false=true);decide))]
 refine wpAny_bind (wpAny_pure ?_)
 unfold setEpoch
 refine wpAny_bind ?_
 refine wpAny_bind (wpAny_setState_of ho rfl hf ?_)
 refine wpAny_pure ?_
 refine wpAny_bind (wpAny_newObj_type ?_)
 exact wpAny_pure ⟨_,rfl,h⟩
end
section
variable {prog:Program}{w:World}{A:Around}{E:Value→Shared→Prop}{s:Shared}
noncomputable abbrev sSI:String:=PySem.W.SZ.s14203423127137820995x12
theorem sSI_eq:sSI="set_iterator":=id_is "set_iterator" (n:=PySem.code "set_iterator") (by decide +kernel) rfl
noncomputable def siO (x y:Int) (v:Value):Obj:=⟨.type sSI,none,.fields #[.int x 0,.int y 0,v,.int 1 0,.int 1 0],#[]⟩
theorem siO_eq (x y:Int) (v:Value):siO x y v=⟨.type "set_iterator",none,.fields #[.int x 0,.int y 0,v,.int 1 0,.int 1 0],#[]⟩:=by unfold siO;rw [sSI_eq]
theorem pick_one {α:Type}(f:Nat→Nat) (x:α):pickOrder f #[x]=#[x]:=by simp [pickOrder,pickOrder.go,Nat.mod_one]
theorem slot_si_next:Slot "set_iterator" "__next__" "set_iterator.__next__" :=
 .of (owner := "set_iterator") (n := "__next__") (by rw [typeLookup_type, builtinLookup_eq_fast]; kernel_rfl) (by decide +kernel) (by decide +kernel) (by decide +kernel)
   (by first | exact .inl (by decide +kernel) | exact .inr (by decide +kernel)) (by rw [isSubtype_type];kernel_rfl)
theorem entry_si_next:entryFor table "set_iterator.__next__"=some Builtin.«set_iterator.__next__»:=entryFor_of_tree (by kernel_rfl)
theorem owner_si:Manifest.owners.lookup (String.ofList ['r','o','t','a','r','e','t','i','_','t','e','s'].reverse)=some Manifest.sig_set_iterator:=by kernel_rfl
theorem args_si_next_1 (a:Value):argsOk "set_iterator.__next__" ⟨[a],[]⟩:=by
 unfold argsOk;rw [signature?_of (id:="set_iterator.__next__") (n:=['_','_','t','x','e','n','_','_']) (o:=['r','o','t','a','r','e','t','i','_','t','e','s']) (by kernel_rfl) owner_si];kernel_rfl
noncomputable def nxW (w:World):Nat:=if w.params.followText "set-order"=true then 0 else 2
theorem snext1 {it a:Addr}{led:Bool}{Q:PySem.Fin→Shared→Prop}(hled:led=!w.params.followText "set-order") (hi:s.heap.get? it=some (siO 0 0 (.ref a))) (ho:s.heap.get? a=some ⟨.type "set",none,.set #[(1,.bool true)] 1 (tab1 led),#[]⟩)
   (h:Q (.done (.ret (.bool true))) { s with heap:=(s.heap.update it (Obj.mapFields (·.setIfInBounds 0 (rawInt (nxW w))))).update it (Obj.mapFields (·.setIfInBounds 1 (rawInt 1))) }) :
   wpAny (model prog w) A (Builtin.«set_iterator.__next__» ⟨[.ref it],[]⟩) Q E s:=by
 unfold Builtin.«set_iterator.__next__»
 refine wpAny_bind (wpAny_pure ?_)
 refine wpAny_bind (wpAny_fieldsOf hi rfl ?_)
 have hf:(tab1 led).fits 1=true:=by cases led <;> decide
 dsimp only
 refine wpAny_bind (wpAny_setEntries_of ho rfl hf ?_)
 rw [if_neg (by decide)]
 unfold setNext
 refine wpAny_bind ?_
 refine wpAny_bind (wpAny_setState_of ho rfl hf ?_)
 unfold setsByText
 refine wpAny_bind ?_
 refine wpAny_bind (wpAny_askSetting ?_)
 refine wpAny_pure ?_
 have fin:wpAny (model prog w) A (setField (.ref it) 0 (rawInt (nxW w)) >>= fun _=>setField (.ref it) 1 (rawInt (0 + 1)) >>= fun _=>ret (.bool true)) Q E s:=by
   refine wpAny_bind (wpAny_setField hi rfl (by simp) ?_)
   refine wpAny_bind (wpAny_setField (Heap.get?_update_self _ hi rfl) rfl (by simp) ?_)
   exact wpAny_pure h
 unfold nxW at fin
 split
 · rename_i hb0
   have hb:w.params.followText "set-order"=true:=hb0
   dsimp only
   rw [if_neg (by decide)]
   unfold setWalk
   refine wpAny_bind ?_
   refine wpAny_bind (wpAny_setState_of ho rfl hf ?_)
   unfold setsByText
   refine wpAny_bind ?_
   refine wpAny_bind (wpAny_askSetting ?_)
   refine wpAny_pure ?_
   rw [if_pos hb0]
   refine wpAny_bind (wpAny_askSetting ?_)
   refine wpAny_pure ?_
   refine wpAny_pure ?_
   rw [pick_one]
   rw [if_pos hb] at fin
   exact fin
 · rename_i hb
   have hb:¬ w.params.followText "set-order"=true:=hb
   have hl:led=true:=by rw [hled];simpa using hb
   subst hl
   dsimp only
   rw [if_neg (by show ¬ (false=true);decide)]
   refine wpAny_bind ?_
   show wpAny _ _ (pure ()) _ _ _
   refine wpAny_pure (wpAny_pure ?_)
   rw [if_neg hb] at fin
   exact fin
theorem snext2 {it a:Addr}{led:Bool}{Q:PySem.Fin→Shared→Prop}(hh:A.handled=none) (hled:led=!w.params.followText "set-order") (hi:s.heap.get? it=some (siO (nxW w) 1 (.ref a))) (ho:s.heap.get? a=some ⟨.type "set",none,.set #[(1,.bool true)] 1 (tab1 led),#[]⟩)
   (h:∀ h',Keeps (s.heap.update it (Obj.mapFields (·.setIfInBounds 2 .none))) h'→∀ e,((s.heap.update it (Obj.mapFields (·.setIfInBounds 2 .none))).get? e=none)→(∃ o,h'.get? e=some o∧o.cls=.type "StopIteration")→E (.ref e) { s with heap:=h' }) :
   wpAny (model prog w) A (Builtin.«set_iterator.__next__» ⟨[.ref it],[]⟩) Q E s:=by
 have fin:wpAny (model prog w) A (setField (.ref it) 2 .none >>= fun _=>newExc (.type "StopIteration") [] >>= fun e=>raiseNew e) Q E s:=by
   refine wpAny_bind (wpAny_setField hi rfl (by simp) ?_)
   refine wpAny_bind ?_
   simp only [newExc,newTuple]
   refine wpAny_bind (wpAny_newObj_type ?_ (by size_fits))
   refine wpAny_bind (m:=firstArgMember _ _) (wpAny_of_eq (a:=Value.none) (by first | rfl | (simp only [firstArgMember];rfl)) ?_)
   refine wpAny_newObj_type ?_ (by size_fits)
   simp only [raiseNew]
   refine wpAny_bind (wpAny_handled ?_)
   rw [hh]
   refine wpAny_bind (wpAny_pure (wpAny_throw ?_))
   refine h _ (fun b o e=>Heap.get?_push_of_some _ (Heap.get?_push_of_some _ e)) _ ?_ ⟨_,Heap.get?_push_size _ rfl,rfl⟩
   cases hq:(s.heap.update it (Obj.mapFields (·.setIfInBounds 2 .none))).get? _ with
   | none => rfl
   | some o => exact absurd (Heap.lt_size hq) (by simp [Heap.push])
 unfold Builtin.«set_iterator.__next__»
 refine wpAny_bind (wpAny_pure ?_)
 refine wpAny_bind (wpAny_fieldsOf hi rfl ?_)
 have hf:(tab1 led).fits 1=true:=by cases led <;> decide
 dsimp only
 refine wpAny_bind (wpAny_setEntries_of ho rfl hf ?_)
 rw [if_neg (by decide)]
 unfold setNext
 refine wpAny_bind ?_
 refine wpAny_bind (wpAny_setState_of ho rfl hf ?_)
 unfold setsByText
 refine wpAny_bind ?_
 refine wpAny_bind (wpAny_askSetting ?_)
 refine wpAny_pure ?_
 split
 · rename_i hb0
   dsimp only
   rw [if_neg (by decide)]
   unfold setWalk
   refine wpAny_bind ?_
   refine wpAny_bind (wpAny_setState_of ho rfl hf ?_)
   unfold setsByText
   refine wpAny_bind ?_
   refine wpAny_bind (wpAny_askSetting ?_)
   refine wpAny_pure ?_
   rw [if_pos hb0]
   refine wpAny_bind (wpAny_askSetting ?_)
   refine wpAny_pure ?_
   refine wpAny_pure ?_
   rw [pick_one]
   exact fin
 · rename_i hb
   have hb:¬ w.params.followText "set-order"=true:=hb
   have hl:led=true:=by rw [hled];simpa using hb
   subst hl
   dsimp only
   rw [if_neg (by show ¬ (false=true);decide)]
   refine wpAny_bind ?_
   show wpAny _ _ (pure ()) _ _ _
   refine wpAny_pure (wpAny_pure ?_)
   have e2:nxW w=2:=if_neg hb
   rw [e2]
   exact fin
end
section
variable {prog:Program}{w:World}{A:Around}{R:Result→Shared→Prop}{B:Addr→Option Obj}{g:Array GenState}{d:Drawn}{os:OsState}{rs:List (Addr×Obj)}
noncomputable def rSiter (i:Nat) (led:Bool):Rul prog w A R B g d os:=rF .b 29827162783706237342122862196 anyS [] [.c i] (fun as _ _=>gHd as fun v _=>gRef v some)
 (fun a cs=>⟨[.ref a],[(a,set1 led)],True,none,fun u=>(.ok (.ret (.ref u.n)),(u.n,siO 0 0 (.ref a)) :: cs,u.n2)⟩)
 fun a _ _ _ _ _ hid _ hl _ => ⟨fun _ _ _ h' i' H y => by
   obtain rfl:=id_is "set.__iter__" hid (by decide +kernel)
   have ho:=own_pick (lkA_cons hl).1 H
   unfold set1 seO at ho
   rw [sSet_eq] at ho
   have z:=y (xd h'.objs.size i') _ trivial (H.push (o:=siO 0 0 (.ref a)) rfl)
   rw [siO_eq] at z
   exact go_callW (siter ho z)⟩
noncomputable def sSi (as:List Value) (us:Us) (_:Us):Option (Addr×Addr):=gHd as fun v _=>gRef v fun it=>gHd us fun _ r=>gHd r fun c _=>some (it,c.1)
noncomputable def rSinext1 (i j:Nat) (led:Bool):Rul prog w A R B g d os:=rF .b 140854840060397440712614570271055398118505261131380 anyS [] [.c i,.c j] sSi
 (fun s cs=>match s with | (it,q)=>⟨[.ref it],[(it,siO 0 0 (.ref q)),(q,set1 led)],led=!w.params.followText "set-order",none,fun u=>(.ok (.ret (.bool true)),putAt i cs (siO (nxW w) 1 (.ref q)),u.n)⟩)
 fun s _ _ _ _ _ hid _ hl hp => ⟨fun _ _ _ h' i' H y => by
   obtain rfl:=id_is "set_iterator.__next__" hid (by decide +kernel)
   have h3:=(lkA_cons hl).1
   have hi:=own_pick h3 H
   have ho:=own_pick (lkA_cons (lkA_cons hl).2).1 H
   unfold set1 seO at ho
   rw [sSet_eq] at ho
   refine go_callW (wpAny_call_entry slot_si_next ⟨_,hi,sSI_eq ▸ rfl⟩ entry_si_next (snext1 hp hi ho ⟨_,rfl,?_⟩) (args_si_next_1 _))
   refine y (xd i' 0) _ trivial (H.but h3 ((Heap.SameBut.update h' s.1 _).trans (Heap.SameBut.update _ s.1 _)) ?_)
   rw [Heap.get?_update_self _ (Heap.get?_update_self _ hi (by rfl)) (by rfl)]
   rfl⟩
noncomputable def rSinext2 (i j:Nat) (led:Bool):Rul prog w A R B g d os:=rF .b 140854840060397440712614570271055398118505261131380 (noH A) [] [.c i,.c j] sSi
 (fun s cs=>match s with | (it,q)=>⟨[.ref it],[(it,siO (nxW w) 1 (.ref q)),(q,set1 led)],led=!w.params.followText "set-order",none,fun u=>(.error (.ref u.n),(u.n,⟨.type sStop,u.d,u.D,u.s⟩) :: putAt i cs (siO (nxW w) 1 .none),u.n2)⟩)
 fun s _ _ _ _ _ hid hn hl hp => ⟨fun _ _ _ h' i' H y => by
   obtain rfl:=id_is "set_iterator.__next__" hid (by decide +kernel)
   have h3:=(lkA_cons hl).1
   have hi:=own_pick h3 H
   have ho:=own_pick (lkA_cons (lkA_cons hl).2).1 H
   unfold set1 seO at ho
   rw [sSet_eq] at ho
   refine go_callW (wpAny_call_entry slot_si_next ⟨_,hi,sSI_eq ▸ rfl⟩ entry_si_next (snext2 (noH_ok hn) hp hi ho fun h2' hk e' hnew he=>?_) (args_si_next_1 _))
   obtain ⟨o,he',hcl⟩:=he
   rw [← sStop_eq] at hcl
   have H':=H.but h3 (Heap.SameBut.update h' s.1 _) (Heap.get?_update_self (Obj.mapFields (·.setIfInBounds 2 .none)) hi (by rfl))
   exact y { xd e' i' with d:=o.dict,s:=o.slots,D:=o.data } h2' trivial (H'.one hk hnew he' hcl)⟩
end
section
variable {b:Bool}{w:World}{g:Array GenState}{d:Drawn}{os:OsState}
noncomputable def cellO (v:Value):Obj:=⟨.type PySem.W.SZ.s15660640913423913556x4,none,.cell (some v),#[]⟩
noncomputable abbrev sepS:Str:=Str.ofString "/"
noncomputable def spl:Pt→List Str
 | .r => [⟨#[]⟩, ⟨#[]⟩]
 | .a i => [⟨#[]⟩, lt i]
 | .b i j => [⟨#[]⟩, lt i, lt j]
 | .c i j k => [⟨#[]⟩, lt i, lt j, lt k]
noncomputable abbrev ST:=Option (Fin 3)×Nat
noncomputable def ev:Option (Fin 3)→Str
 | none => ⟨#[]⟩
 | some i => lt i
noncomputable def ev2 (q:ST):Value:=.str (ev q.1) q.2
noncomputable def spT (n:Nat):Pt→List ST
 | .r => [(none, n), (none, n + 1)]
 | .a i => [(none, n), (some i, n + 1)]
 | .b i j => [(none, n), (some i, n + 1), (some j, n + 2)]
 | .c i j k => [(none, n), (some i, n + 1), (some j, n + 2), (some k, n + 3)]
theorem spT_eq (n:Nat) (p:Pt):strsFrom n (spl p)=(spT n p).map ev2:=by cases p <;> rfl
theorem sp_ok:∀ p:Pt,SpOk (sp p) sepS (spl p):=by
 intro p
 rcases p with _ | i | ⟨i,j⟩ | ⟨i,j,k⟩
 · exact ⟨by decide +kernel,by decide +kernel,by decide +kernel,by decide +kernel,by decide +kernel,by decide +kernel⟩
 · revert i;exact fun i=>⟨by revert i;decide +kernel,by decide +kernel,by revert i;decide +kernel,sp_le _,by revert i;decide +kernel,Nat.le_of_ble_eq_true rfl⟩
 · exact ⟨by revert i j;decide +kernel,by decide +kernel,by revert i j;decide +kernel,sp_le _,by revert i j;decide +kernel,Nat.le_of_ble_eq_true rfl⟩
 · exact ⟨by revert i j k;decide +kernel,by decide +kernel,by revert i j k;decide +kernel,sp_le _,by revert i j k;decide +kernel,Nat.le_of_ble_eq_true rfl⟩
theorem cs1 {fr cf it acc r sc:Addr}{n6 n7 k:Nat}(p1 p2:PT):Ct prg (wv b w) 420 none (KK (wv b w).params) g d os (csAt (wv b w).params 261 fr cf [(Str.ofString "sep",sc)] (ceAt (wv b w).params 261 3 [0] []) 0 it acc)
  [(it, itT r 0), (r, tupO [pv p1, pv p2] 0), (acc, lst [] n6), (cf, dO #[] n7), (sc, cellO (.str sepS k))] none
    fun u=>(.ok .next,[(u.n3,lst ((spT u.n4 p2.1).map ev2) 0),(u.n,lst ((spT u.n2 p1.1).map ev2) 0),(r,tupO [pv p1,pv p2] 0),(acc,lst [.ref u.n,.ref u.n3] u.n5),(cf,dO #[ent (wv b w).params "path" u.n6 (pv p2)] (n7 + 1)),(sc,cellO (.str sepS k))]):=by
 refine ⟨fun B h t R KX hS H x=>comp_tup H 0 rfl ?_⟩
 refine' go_code ?_
 (refine' run_T KX Rin.nil H 4000 ⟨[0,1,2,3,4,5],6⟩ rfl [.c 0,.e,.c 0,.q,.c 0,.c 0,.c 1,.c 0,.f 0,.c 3,.f 3,.c 3,.c 4,.v 0 (fun al=>rSplit (spl p1.1)),.v 1 (fun al=>rAppend 3)] fun al=>end_A (c:=(cpAt (wv b w).params 261 fr cf [(Str.ofString "sep",sc)] (ceAt (wv b w).params 261 3 [0] []) 0 it acc)) (cs:=[(_,lst (strsFrom _ (spl p1.1)) 0),(it,itT r 1),(r,tupO [pv p1,pv p2] 0),(acc,lst [.ref _] _),(cf,dO #[ent (wv b w).params "path" _ (pv p1)] _),(sc,cellO (.str sepS k))]) (by kernel_rfl) rfl  ⟨(fun hF=>Nat.zero_le _),(fun hF=>sp_ok _),trivial⟩ fun hp t hF H=>?_)
 refine' go_code ?_
 (refine' run_T KX Rin.nil H 4000 ⟨[0,1,2,3,4,5,6],7⟩ rfl [.c 1,.e,.c 1,.q,.c 1,.c 1,.c 2,.c 1,.f 1,.c 4,.f 4,.c 4,.c 5,.v 0 (fun al=>rSplit (spl p2.1)),.v 1 (fun al=>rAppend 4)] fun al=>end_A (c:=(cpAt (wv b w).params 261 fr cf [(Str.ofString "sep",sc)] (ceAt (wv b w).params 261 3 [0] []) 0 it acc)) (cs:=[(_,lst (strsFrom _ (spl p2.1)) 0),(_,lst (strsFrom _ (spl p1.1)) 0),(it,itT r 2),(r,tupO [pv p1,pv p2] 0),(acc,lst [.ref _,.ref _] _),(cf,dO #[ent (wv b w).params "path" _ (pv p2)] _),(sc,cellO (.str sepS k))]) (by kernel_rfl) rfl  ⟨(fun hF=>Nat.le_of_ble_eq_true rfl),(fun hF=>sp_ok _),trivial⟩ fun hp t hF H=>?_)
 refine' go_code ?_
 (refine' run_T KX Rin.nil H 4000 ⟨[2,3,5,6,7,8],9⟩ rfl [.c 2,.e,.c 2,.q,.c 2,.c 2,.c 3,.c 2,.f 2,.b 0,.b 1,.c 0] fun al=>end_R (r:=(.ok .next)) (cs:=[(_,lst (strsFrom _ (spl p2.1)) 0),(_,lst (strsFrom _ (spl p1.1)) 0),(r,tupO [pv p1,pv p2] 0),(acc,lst [.ref _,.ref _] _),(cf,dO #[ent (wv b w).params "path" _ (pv p2)] (n7 + 1)),(sc,cellO (.str sepS k))]) (by kernel_rfl) rfl  trivial fun hp t hF H=>?_)
 rw [spT_eq,spT_eq] at H
 exact x { xd0 with n:=_,n2:=_,n3:=_,n4:=_,n5:=_,n6:=_,t:=_ } _ trivial H
end
section
variable {b:Bool}{w:World}{g:Array GenState}{d:Drawn}{os:OsState}
theorem sw_sp:∀ p:Pt,Txt.startswith (sp p) sepS=true:=by
 intro p;rcases p with _ | i | ⟨i,j⟩ | ⟨i,j,k⟩
 · decide +kernel
 · revert i;decide +kernel
 · revert i j;decide +kernel
 · revert i j k;decide +kernel
theorem cs2 {fr cf it acc r sc:Addr}{n7 k:Nat}{led:Bool}(p1 p2:PT):Ct prg (wv b w) 420 none (KK (wv b w).params) g d os (csAt (wv b w).params 261 fr cf [(Str.ofString "sep",sc)] (ceAt (wv b w).params 261 3 [1,0] []) 0 it acc)
  [(it, itT r 0), (r, tupO [pv p1, pv p2] 0), (acc, set0 led), (cf, dO #[] n7), (sc, cellO (.str sepS k))] none
    fun u=>(.ok .next,[(r,tupO [pv p1,pv p2] 0),(acc,set1 led),(cf,dO #[ent (wv b w).params "p" u.n6 (pv p2)] (n7 + 1)),(sc,cellO (.str sepS k))]):=by
 refine ⟨fun B h t R KX hS H x=>comp_stup H 0 rfl ?_⟩
 refine' go_code ?_
 (refine' run_T KX Rin.nil H 4000 ⟨[0,1,2,3,4],5⟩ rfl [.c 0,.e,.c 0,.q,.c 0,.c 0,.c 1,.c 0,.f 0,.c 3,.f 3,.c 3,.c 4,.v 0 (fun al=>rSw (true)),.v 1 (fun al=>rSadd1a 2 led)] fun al=>end_A (c:=(cpAt (wv b w).params 261 fr cf [(Str.ofString "sep",sc)] (ceAt (wv b w).params 261 3 [1,0] []) 0 it acc)) (cs:=[(it,itT r 1),(r,tupO [pv p1,pv p2] 0),(acc,set1 led),(cf,dO #[ent (wv b w).params "p" _ (pv p1)] _),(sc,cellO (.str sepS k))]) (by kernel_rfl) rfl  ⟨(fun hF=>(by first | trivial | assumption | exact rfl | exact ⟨rfl,rfl⟩)),(fun hF=>sw_sp _),trivial⟩ fun hp t hF H=>?_)
 refine' go_code ?_
 (refine' run_T KX Rin.nil H 4000 ⟨[0,1,2,3,4],5⟩ rfl [.c 0,.e,.c 0,.q,.c 0,.c 0,.c 1,.c 0,.f 0,.c 3,.f 3,.c 3,.c 4,.v 0 (fun al=>rSw (true)),.v 1 (fun al=>rSadd1b 2 led)] fun al=>end_A (c:=(cpAt (wv b w).params 261 fr cf [(Str.ofString "sep",sc)] (ceAt (wv b w).params 261 3 [1,0] []) 0 it acc)) (cs:=[(it,itT r 2),(r,tupO [pv p1,pv p2] 0),(acc,set1 led),(cf,dO #[ent (wv b w).params "p" _ (pv p2)] (n7 + 1)),(sc,cellO (.str sepS k))]) (by kernel_rfl) rfl  ⟨(fun hF=>(by first | trivial | assumption | exact rfl | exact ⟨rfl,rfl⟩)),(fun hF=>sw_sp _),trivial⟩ fun hp t hF H=>?_)
 refine' go_code ?_
 (refine' run_T KX Rin.nil H 4000 ⟨[3,4,5,6],7⟩ rfl [.c 0,.e,.c 0,.q,.c 0,.c 0,.c 1,.c 0,.f 0,.b 0,.b 1,.c 0] fun al=>end_R (r:=(.ok .next)) (cs:=[(r,tupO [pv p1,pv p2] 0),(acc,set1 led),(cf,dO #[ent (wv b w).params "p" _ (pv p2)] (n7 + 1)),(sc,cellO (.str sepS k))]) (by kernel_rfl) rfl  trivial fun hp t hF H=>?_)
 exact x { xd0 with n6:=_,t:=_ } _ trivial H
end
open PySem.MeetsSeq PySem.MeetsSeq3
open AutoSeq1 (wpAny_loadPart')
noncomputable abbrev LT:=Fin 3×Tok
noncomputable def lv (q:LT):Value:=.str (lt q.1) q.2
noncomputable abbrev lts (M:List LT):List (Fin 3):=M.map (·.1)
noncomputable def ltM:List (Fin 3)→List (Fin 3)→Bool
 | _, [] => false
 | [], _ :: _ => true
 | x :: xs, y :: ys => if x = y then ltM xs ys else decide (x < y)
theorem lt_inj:∀ x y:Fin 3,(lt x == lt y)=decide (x=y):=by decide +kernel
theorem lt_lt:∀ x y:Fin 3,decide ((lt x).cps.toList < (lt y).cps.toList)=decide (x < y):=by decide +kernel
theorem ltM_nil (M:List (Fin 3)):ltM [] M=decide (0 < M.length):=by cases M <;> simp [ltM]
theorem ltM_nil' (M:List (Fin 3)):ltM M []=false:=by cases M <;> rfl
theorem lt_loop (l b:Addr) (M1 M2:List LT) (n n2:Nat) (gt:Bool) (k:Nat):∀ i:Nat,M1.length - i=k→i≤M1.length→i≤M2.length →
   Meets (Builtin.«list.__eq__.loop» ⟨[.ref l, .ref b, rawInt i, rawInt (cond gt 4 0)], []⟩)
     (fun _ R s => s.heap.get? l = some { cls := .type "list", dict := none, data := .seq (M1.map lv).toArray n, slots := #[] } ∧ s.heap.get? b = some { cls := .type "list", dict := none, data := .seq (M2.map lv).toArray n2, slots := #[] } ∧
       R (.ok (.ret (.bool (cond gt (ltM (lts (M2.drop i)) (lts (M1.drop i))) (ltM (lts (M1.drop i)) (lts (M2.drop i))))))) s):=by
 induction k with
 | zero =>
   intro i hk h1 h2 prog w A R s h
   obtain ⟨hp,g,d,tk,os⟩:=s;obtain ⟨hl,hb,h⟩:=h
   have hi1:(M1.map lv).toArray[((i:Nat):Int).toNat]?=none:=by simp;omega
   have hd:M1.drop i=[]:=by simp;omega
   rw [hd] at h
   have hsz:(lts (M2.drop i)).length=M2.length - M1.length:=by simp;omega
   cases gt
   · wp_walk using wpAny_loadPart' hl, wpAny_loadPart' hb
     rw [hi1]
     wp_walk using wpAny_loadPart' hl,wpAny_loadPart' hb
     show R (.ok (.ret (.bool (decide ((M1.map lv).toArray.size < (M2.map lv).toArray.size))))) _
     dsimp only [cond] at h
     rw [show lts []=[] from rfl,ltM_nil,hsz] at h
     have e:decide (0 < M2.length - M1.length)=decide ((M1.map lv).toArray.size < (M2.map lv).toArray.size):=by simp;omega
     rw [← e];exact h
   · wp_walk using wpAny_loadPart' hl, wpAny_loadPart' hb
     rw [hi1]
     wp_walk using wpAny_loadPart' hl,wpAny_loadPart' hb
     show R (.ok (.ret (.bool (decide ((M2.map lv).toArray.size < (M1.map lv).toArray.size))))) _
     dsimp only [cond] at h
     rw [show lts []=[] from rfl,ltM_nil'] at h
     have e:decide ((M2.map lv).toArray.size < (M1.map lv).toArray.size)=false:=by simp;omega
     rw [e];exact h
 | succ k ih =>
   intro i hk h1 h2 prog w A R s h
   obtain ⟨hp,g,d,tk,os⟩:=s;obtain ⟨hl,hb,h⟩:=h
   have hlt:i < M1.length:=by omega
   have hi1:(M1.map lv).toArray[((i:Nat):Int).toNat]?=some (lv M1[i]):=by simp [hlt]
   have hd:M1.drop i=M1[i] :: M1.drop (i + 1):=List.drop_eq_getElem_cons hlt
   rcases Nat.lt_or_ge i M2.length with hlt2 | hge
   · have hi2 : (M2.map lv).toArray[((i : Nat) : Int).toNat]? = some (lv M2[i]) := by simp [hlt2]
     have hd2:M2.drop i=M2[i] :: M2.drop (i + 1):=List.drop_eq_getElem_cons hlt2
     have hc:((i:Int) + 1)=((i + 1:Nat):Int):=by push_cast;rfl
     have he:EqGives (lv M1[i]) (lv M2[i]) (decide (M1[i].1=M2[i].1)):=by
       rw [← lt_inj];exact eqGives_str _ _ _ _
     rw [hd,hd2] at h
     have h':R (.ok (.ret (.bool (if M1[i].1=M2[i].1 then cond gt (ltM (lts (M2.drop (i + 1))) (lts (M1.drop (i + 1)))) (ltM (lts (M1.drop (i + 1))) (lts (M2.drop (i + 1)))) else cond gt (decide (M2[i].1 < M1[i].1)) (decide (M1[i].1 < M2[i].1)))))) ⟨hp,g,d,tk,os⟩:=by
       have e:(if M1[i].1=M2[i].1 then cond gt (ltM (lts (M2.drop (i + 1))) (lts (M1.drop (i + 1)))) (ltM (lts (M1.drop (i + 1))) (lts (M2.drop (i + 1)))) else cond gt (decide (M2[i].1 < M1[i].1)) (decide (M1[i].1 < M2[i].1)))=cond gt (ltM (lts (M2[i] :: M2.drop (i + 1))) (lts (M1[i] :: M1.drop (i + 1)))) (ltM (lts (M1[i] :: M1.drop (i + 1))) (lts (M2[i] :: M2.drop (i + 1)))):=by
         by_cases e:M1[i].1=M2[i].1
         · rw [if_pos e]
           cases gt
           · exact (if_pos e).symm
           · exact (if_pos e.symm).symm
         · rw [if_neg e]
           cases gt
           · exact (if_neg e).symm
           · exact (if_neg fun z=>e z.symm).symm
       rw [e];exact h
     clear h
     by_cases e:M1[i].1=M2[i].1
     · rw [decide_eq_true e] at he
       rw [if_pos e] at h'
       cases gt
       all_goals
         wp_walk using wpAny_loadPart' hl,wpAny_loadPart' hb
         rw [hi1,hi2]
         refine wpAny_bind (he prog w _ _ _ _ ?_)
         wp_walk
         rw [hc]
         exact ⟨plainId_quiet plain_eq_loop _, codeAny_builtin entry_eq_loop (by
           rw [Around.under_plainId plain_eq_loop _]
           first
             | exact ih (i + 1) (by omega) (by omega) (by omega) prog w A R _ ⟨hl, hb, h'⟩)⟩
     · rw [decide_eq_false e] at he
       rw [if_neg e] at h'
       cases gt
       · wp_walk using wpAny_loadPart' hl, wpAny_loadPart' hb
         rw [hi1,hi2]
         refine wpAny_bind (he prog w _ _ _ _ ?_)
         wp_walk using wpAny_loadPart' hl,wpAny_loadPart' hb
         rw [hi1,hi2]
         refine wpAny_bind (richCompare_gives (op:=.Lt) (typeIs_str _ _ _) (typeIs_str _ _ _) F.slot_str_lt F.entry_str_lt (F.args_str_lt_2 _ _) (gives_str_lt _ _ _ _) (fun x=>nomatch x) ?_)
         dsimp only [cond] at h'
         rw [← lt_lt] at h'
         exact wpAny_pure h'
       · wp_walk using wpAny_loadPart' hl, wpAny_loadPart' hb
         rw [hi1,hi2]
         refine wpAny_bind (he prog w _ _ _ _ ?_)
         wp_walk using wpAny_loadPart' hl,wpAny_loadPart' hb
         rw [hi1,hi2]
         refine wpAny_bind (richCompare_gives (op:=.Gt) (typeIs_str _ _ _) (typeIs_str _ _ _) F.slot_str_gt F.entry_str_gt (F.args_str_gt_2 _ _) (gives_str_gt _ _ _ _) (fun x=>nomatch x) ?_)
         dsimp only [cond] at h'
         rw [← lt_lt] at h'
         exact wpAny_pure h'
   · have hi2 : (M2.map lv).toArray[((i : Nat) : Int).toNat]? = none := by simp; omega
     have hd2:M2.drop i=[]:=by simp;omega
     rw [hd,hd2] at h
     cases gt
     · wp_walk using wpAny_loadPart' hl, wpAny_loadPart' hb
       rw [hi1,hi2]
       wp_walk using wpAny_loadPart' hl,wpAny_loadPart' hb
       show R (.ok (.ret (.bool (decide ((M1.map lv).toArray.size < (M2.map lv).toArray.size))))) _
       have e:decide ((M1.map lv).toArray.size < (M2.map lv).toArray.size)=false:=by simp;omega
       rw [e];exact h
     · wp_walk using wpAny_loadPart' hl, wpAny_loadPart' hb
       rw [hi1,hi2]
       wp_walk using wpAny_loadPart' hl,wpAny_loadPart' hb
       show R (.ok (.ret (.bool (decide ((M2.map lv).toArray.size < (M1.map lv).toArray.size))))) _
       have e:decide ((M2.map lv).toArray.size < (M1.map lv).toArray.size)=true:=by simp;omega
       rw [e];exact h
theorem list_lt (l b:Addr) (M1 M2:List LT) (n n2:Nat):Meets (Builtin.«list.__lt__» ⟨[.ref l,.ref b],[]⟩)
     (fun _ R s => s.heap.get? l = some { cls := .type "list", dict := none, data := .seq (M1.map lv).toArray n, slots := #[] } ∧ s.heap.get? b = some { cls := .type "list", dict := none, data := .seq (M2.map lv).toArray n2, slots := #[] } ∧
       R (.ok (.ret (.bool (ltM (lts M1) (lts M2))))) s):=by
 intro prog w A R s h
 obtain ⟨hp,g,d,tk,os⟩:=s;obtain ⟨hl,hb,h⟩:=h
 have f3:=AutoSeq1.sub_list_list
 wp_walk using wpAny_loadPart' hl,wpAny_loadPart' hb
 exact ⟨plainId_quiet plain_eq_loop _, codeAny_builtin entry_eq_loop (by
   rw [Around.under_plainId plain_eq_loop _]
   exact lt_loop l b M1 M2 n n2 false _ 0 rfl (Nat.zero_le _) (Nat.zero_le _) prog w A R _ ⟨hl,hb,h⟩)⟩
theorem list_gt (l b:Addr) (M1 M2:List LT) (n n2:Nat):Meets (Builtin.«list.__gt__» ⟨[.ref l,.ref b],[]⟩)
     (fun _ R s => s.heap.get? l = some { cls := .type "list", dict := none, data := .seq (M1.map lv).toArray n, slots := #[] } ∧ s.heap.get? b = some { cls := .type "list", dict := none, data := .seq (M2.map lv).toArray n2, slots := #[] } ∧
       R (.ok (.ret (.bool (ltM (lts M2) (lts M1))))) s):=by
 intro prog w A R s h
 obtain ⟨hp,g,d,tk,os⟩:=s;obtain ⟨hl,hb,h⟩:=h
 have f3:=AutoSeq1.sub_list_list
 wp_walk using wpAny_loadPart' hl,wpAny_loadPart' hb
 exact ⟨plainId_quiet plain_eq_loop _, codeAny_builtin entry_eq_loop (by
   rw [Around.under_plainId plain_eq_loop _]
   exact lt_loop l b M1 M2 n n2 true _ 0 rfl (Nat.zero_le _) (Nat.zero_le _) prog w A R _ ⟨hl,hb,h⟩)⟩
section
variable {prog:Program}{w:World}{A:Around}{R:Result→Shared→Prop}{B:Addr→Option Obj}{g:Array GenState}{d:Drawn}{os:OsState}{rs:List (Addr×Obj)}
end
noncomputable def fn1 (q:ST):List LT:=match q.1 with
 | none => []
 | some i => [(i, q.2)]
noncomputable def nmT (n:Nat) (p:Pt):List LT:=(spT n p).flatMap fn1
noncomputable def nmf:Pt→List (Fin 3)
 | .r => []
 | .a i => [i]
 | .b i j => [i, j]
 | .c i j k => [i, j, k]
theorem nmT_eq (n:Nat) (p:Pt):lts (nmT n p)=nmf p:=by cases p <;> rfl
theorem lv_snoc (M:List LT) (i:Fin 3) (t:Nat):M.map lv++[.str (lt i) t]=(M++[(i,t)]).map lv:=by simp [lv]
theorem ne_dot:∀ i:Fin 3,((lt i).cps.toList != (Str.ofString ".").cps.toList)=true:=by decide +kernel
section
variable {b:Bool}{w:World}{g:Array GenState}{d:Drawn}{os:OsState}
noncomputable def niC (it q acc cf sc:Addr) (vs:List Value) (n:Nat) (j:Nat) (ra:List Value) (n6:Nat) (ex:List DictEntry) (n7:Nat) (k:Nat):List (Addr×Obj) :=
 [(it,itL q j),(q,lst vs n),(acc,lst ra n6),(cf,dO ex.toArray n7),(sc,cellO (.str (Str.ofString ".") k))]
noncomputable abbrev niCode (P:Params) (fr cf1 sc cf it acc:Addr):Code:=cpAt2 P 261 fr cf1 [(Str.ofString "curdir",sc)] (ceAt P 261 3 [2] []) cf [(Str.ofString "curdir",sc)] (ceAt P 261 3 [2] [0]) it acc
theorem ni_turn {R:Result→Shared→Prop}{h:Heap}{t:Nat}{B:Addr→Option Obj}{fr cf1 it q acc cf sc:Addr}{vs:List Value}{n j n6 n7 k:Nat}{M:List LT}{ex:List DictEntry}{v:ST}
  (KX:Kin (KK (wv b w).params) B) (H:Hp B h (niC it q acc cf sc vs n j (M.map lv) n6 ex n7 k)) (hv:vs[j]?=some (ev2 v)) (hM:M.length≤100) (hex:ex=[]∨∃ tk v,ex=[ent (wv b w).params "c" tk v])
  (IH:∀ h' t' tk n6 n7,Hp B h' (niC it q acc cf sc vs n (j + 1) ((M++fn1 v).map lv) n6 [ent (wv b w).params "c" tk (ev2 v)] n7 k)→codeAny (model prg (wv b w)) (AF 440 none) (niCode (wv b w).params fr cf1 sc cf it acc) R ⟨h',g,d,t',os⟩) :
  codeAny (model prg (wv b w)) (AF 440 none) (niCode (wv b w).params fr cf1 sc cf it acc) R ⟨h,g,d,t,os⟩:=by
 have hl:(M.map lv).length≤1000:=by rw [List.length_map];omega
 obtain ⟨o,tv⟩:=v
 cases o with
 | none =>
   rw [show M++fn1 (none,tv)=M from List.append_nil M] at IH
   rcases hex with rfl | ⟨tk,v,rfl⟩
   · refine' go_code ?_
     (refine' run_T KX Rin.nil H 4000 ⟨[0,1,2,3,4],5⟩ rfl [.c 0,.v 0 (fun al=>rNext Rin.nil 0 (.c 1) (ev2 (none,tv))),.c 3,.f 3,.c 3,.e,.e,.q] fun al=>end_A (c:=(niCode (wv b w).params fr cf1 sc cf it acc)) (cs:=(niC it q acc cf sc vs n (j + 1) (M.map lv) _ [ent (wv b w).params "c" _ (ev2 (none,tv))] _ k)) (by kernel_rfl) rfl  ⟨(fun hF=>hv),trivial⟩ fun hp t hF H=>?_)
     exact IH _ _ _ _ _ H
   · refine' go_code ?_
     (refine' run_T KX Rin.nil H 4000 ⟨[0,1,2,3,4],5⟩ rfl [.c 0,.v 0 (fun al=>rNext Rin.nil 0 (.c 1) (ev2 (none,tv))),.c 3,.f 3,.c 3,.e,.e,.q] fun al=>end_A (c:=(niCode (wv b w).params fr cf1 sc cf it acc)) (cs:=(niC it q acc cf sc vs n (j + 1) (M.map lv) _ [ent (wv b w).params "c" _ (ev2 (none,tv))] _ k)) (by kernel_rfl) rfl  ⟨(fun hF=>hv),trivial⟩ fun hp t hF H=>?_)
     exact IH _ _ _ _ _ H
 | some i =>
   rw [show (M++fn1 (some i,tv)).map lv=M.map lv++[.str (lt i) tv] from (lv_snoc M i tv).symm] at IH
   rcases hex with rfl | ⟨tk,v,rfl⟩
   · refine' go_code ?_
     (refine' run_T2 KX Rin.nil H 4000 ⟨[0,1,2,3,4],5⟩ rfl [.c 0,.v 0 (fun al=>rNext Rin.nil 0 (.c 1) (ev2 (some i,tv))),.c 3,.f 3,.c 3,.e,.e,.q,.c 3,.c 4,.v 1 (fun al=>rNe (true)),.c 3,.v 2 (fun al=>rAppend 2)] fun al=>end_A2 (c:=(niCode (wv b w).params fr cf1 sc cf it acc)) (cs:=(niC it q acc cf sc vs n (j + 1) (M.map lv++[.str (lt i) tv]) _ [ent (wv b w).params "c" _ (ev2 (some i,tv))] _ k)) (by kernel_rfl) (by kernel_rfl) rfl (by kernel_rfl) ⟨(fun hF=>hl),(fun hF=>ne_dot i),(fun hF=>hv),trivial⟩ fun hp t hF H=>?_)
     exact IH _ _ _ _ _ H
   · refine' go_code ?_
     (refine' run_T2 KX Rin.nil H 4000 ⟨[0,1,2,3,4],5⟩ rfl [.c 0,.v 0 (fun al=>rNext Rin.nil 0 (.c 1) (ev2 (some i,tv))),.c 3,.f 3,.c 3,.e,.e,.q,.c 3,.c 4,.v 1 (fun al=>rNe (true)),.c 3,.v 2 (fun al=>rAppend 2)] fun al=>end_A2 (c:=(niCode (wv b w).params fr cf1 sc cf it acc)) (cs:=(niC it q acc cf sc vs n (j + 1) (M.map lv++[.str (lt i) tv]) _ [ent (wv b w).params "c" _ (ev2 (some i,tv))] _ k)) (by kernel_rfl) (by kernel_rfl) rfl (by kernel_rfl) ⟨(fun hF=>hl),(fun hF=>ne_dot i),(fun hF=>hv),trivial⟩ fun hp t hF H=>?_)
     exact IH _ _ _ _ _ H
theorem ni_end {R:Result→Shared→Prop}{h:Heap}{t:Nat}{B:Addr→Option Obj}{fr cf1 it q acc cf sc:Addr}{vs ra:List Value}{n j n6 n7 k:Nat}{ex:List DictEntry}
  (KX:Kin (KK (wv b w).params) B) (H:Hp B h (niC it q acc cf sc vs n j ra n6 ex n7 k)) (hv:vs[j]?=none)
  (x:∀ h' t',Hp B h' (niC it q acc cf sc vs n j ra n6 ex n7 k).tail→R (.ok .next) ⟨h',g,d,t',os⟩) :
  codeAny (model prg (wv b w)) (AF 440 none) (niCode (wv b w).params fr cf1 sc cf it acc) R ⟨h,g,d,t,os⟩:=by
 refine' go_code ?_
 (refine' run_T KX Rin.nil H 4000 ⟨[2,3,4,5],6⟩ rfl [.c 0,.v 0 (fun al=>rNextEnd Rin.nil 0 (.c 1)),.c 0] fun al=>end_R (r:=(.ok .next)) (cs:=(niC it q acc cf sc vs n j ra n6 ex n7 k).tail) (by kernel_rfl) rfl  ⟨(fun hF=>hv),trivial⟩ fun hp t hF H=>?_)
 exact x _ _ H
theorem spT_len (n:Nat) (p:Pt):(spT n p).length≤4:=by cases p <;> exact Nat.le_of_ble_eq_true rfl
theorem fn1_len (v:ST):(fn1 v).length≤1:=by
 obtain ⟨o,t⟩:=v
 cases o <;> exact Nat.le_of_ble_eq_true rfl
noncomputable def lsT (n:Nat) (p:Pt):ST:=(spT n p).getLast?.getD (none,0)
theorem ni {fr cf1 it q acc cf sc:Addr}{n n6 n7 k m:Nat}(p:Pt):Ct prg (wv b w) 440 none (KK (wv b w).params) g d os (csAt2 (wv b w).params 261 fr cf1 [(Str.ofString "curdir",sc)] (ceAt (wv b w).params 261 3 [2] []) cf [(Str.ofString "curdir",sc)] (ceAt (wv b w).params 261 3 [2] [0]) it acc)
  (niC it q acc cf sc ((spT m p).map ev2) n 0 [] n6 [] n7 k) none
    fun u=>(.ok .next,(niC it q acc cf sc ((spT m p).map ev2) n 0 ((nmT m p).map lv) u.n [ent (wv b w).params "c" u.n3 (ev2 (lsT m p))] u.n2 k).tail):=by
 refine ⟨fun B h t R KX hS H x=>comp_lst H 0 rfl (foldI (c:=niCode (wv b w).params fr cf1 sc cf it acc) (spT m p) fn1 (fun j M h=>M.length≤j∧∃ n6 ex n7,Hp B h (niC it q acc cf sc ((spT m p).map ev2) n j (M.map lv) n6 ex n7 k)∧((j=0∧ex=[])∨∃ tk v,(spT m p)[j - 1]?=some v∧ex=[ent (wv b w).params "c" tk (ev2 v)])) (fun j v M h t hv hi IH=>?_) (fun h t hi=>?_) ⟨Nat.zero_le _,n6,[],n7,H,.inl ⟨rfl,rfl⟩⟩)⟩
 · obtain ⟨hM, n6, ex, n7, H, hex⟩ := hi
   have hj:j < (spT m p).length:=(List.getElem?_eq_some_iff.mp hv).1
   have h4:=spT_len m p
   refine ni_turn KX H (v:=v) (by rw [List.getElem?_map,hv];rfl) (by omega) (hex.imp (·.2) fun ⟨tk,v,_,e⟩=>⟨tk,_,e⟩) fun h' t' tk n6 n7 H=>IH h' t' ⟨?_,n6,_,n7,H,.inr ⟨tk,v,hv,rfl⟩⟩
   have:=fn1_len v
   rw [List.length_append]
   omega
 · obtain ⟨hM, n6, ex, n7, H, hex⟩ := hi
   obtain ⟨tk,v,hv,rfl⟩:∃ tk v,(spT m p)[(spT m p).length - 1]?=some v∧ex=[ent (wv b w).params "c" tk (ev2 v)]:=hex.resolve_left fun z=>by cases p <;> cases z.1
   obtain rfl:lsT m p=v:=by unfold lsT;rw [List.getLast?_eq_getElem?,hv];rfl
   exact ni_end KX H (by rw [List.getElem?_map,List.getElem?_eq_none (Nat.le_refl _)];rfl) fun h' t' H=>x { xd0 with n:=n6,n3:=tk,n2:=n7,t:=t' } h' trivial H
end
noncomputable def SP (p1 p2:Pt) (V:List Value) (X:List (Addr×Obj)):Prop:=∃ a1 a2,∃ M1 M2:List LT,∃ n1 n2,V=[.ref a1,.ref a2]∧X=[(a1,lst (M1.map lv) n1),(a2,lst (M2.map lv) n2)]∧lts M1=nmf p1∧lts M2=nmf p2
section
variable {b:Bool}{w:World}{g:Array GenState}{d:Drawn}{os:OsState}
theorem cs3 {fr cf it q acc sc l1 l2:Addr}{nq n6 n7 k m1 m2:Nat}(p1 p2:Pt):Ct prg (wv b w) 420 none (KK (wv b w).params) g d os (csAt (wv b w).params 261 fr cf [(Str.ofString "curdir",sc)] (ceAt (wv b w).params 261 3 [2] []) 0 it acc)
  [(it, itL q 0), (q, lst [.ref l1, .ref l2] nq), (l1, lst ((spT m1 p1).map ev2) 0), (l2, lst ((spT m2 p2).map ev2) 0), (acc, lst [] n6), (cf, dO #[] n7), (sc, cellO (.str (Str.ofString ".") k))] (some fun u => SP p1 p2 u.V u.X)
    fun u=>(.ok .next,[(q,lst [.ref l1,.ref l2] nq),(acc,lst u.V u.n),(cf,dO #[ent (wv b w).params "s" u.n3 (.ref l2)] u.n2),(l2,lst ((spT m2 p2).map ev2) 0),(sc,cellO (.str (Str.ofString ".") k))]++u.X):=by
 refine ⟨fun B h t R KX hS H x=>comp_lst H 0 rfl ?_⟩
 refine' go_code ?_
 (refine' run_T2 KX Rin.nil H 4000 ⟨[0,1,2,3,4,6,8],9⟩ rfl [.c 0,.v 0 (fun al=>rNext Rin.nil 0 (.c 1) (Value.ref l1)),.c 5,.f 5,.c 5,.c 2,.c 2,.e,.c 2,.q,.b 1,.c 0,.b 2,.b 3,.v 4 (fun al=>rC KX hS [2,4,1,0,5] 5 false (True) (fun _=>ni (fr:=fr) (it:=(al 1).n) (q:=l1) (acc:=(al 2).n) (cf:=(al 3).n) (sc:=sc) (n:=0) (n6:=0) (n7:=0) (k:=k) (m:=m1) (cf1:=cf) p1)),.c 7,.c 7,.f 7,.v 5 (fun al=>rAppend 3)] fun al=>end_A2 (c:=(cpAt (wv b w).params 261 fr cf [(Str.ofString "curdir",sc)] (ceAt (wv b w).params 261 3 [2] []) 0 it acc)) (cs:=[(it,itL q 1),(q,lst [.ref l1,.ref l2] nq),(l2,lst ((spT m2 p2).map ev2) 0),(acc,lst [.ref _] _),(cf,dO #[ent (wv b w).params "s" _ (.ref l1)] _),(_,lst ((nmT m1 p1).map lv) _),(sc,cellO (.str (Str.ofString ".") k))]) (by kernel_rfl) (by kernel_rfl) rfl (by kernel_rfl) ⟨(fun hF=>Nat.zero_le _),(fun hF=>trivial),(fun hF=>rfl),trivial⟩ fun hp t hF H=>?_)
 refine' go_code ?_
 (refine' run_T2 KX Rin.nil H 4000 ⟨[0,1,2,3,4,5,6,8],9⟩ rfl [.c 0,.v 0 (fun al=>rNext Rin.nil 0 (.c 1) (Value.ref l2)),.c 4,.f 4,.c 4,.c 2,.c 2,.e,.c 2,.q,.b 1,.c 0,.b 2,.b 3,.v 4 (fun al=>rC KX hS [2,4,1,0,5] 5 false (True) (fun _=>ni (fr:=fr) (it:=(al 1).n) (q:=l2) (acc:=(al 2).n) (cf:=(al 3).n) (sc:=sc) (n:=0) (n6:=0) (n7:=0) (k:=k) (m:=m2) (cf1:=cf) p2)),.c 7,.c 7,.f 7,.v 5 (fun al=>rAppend 2)] fun al=>end_A2 (c:=(cpAt (wv b w).params 261 fr cf [(Str.ofString "curdir",sc)] (ceAt (wv b w).params 261 3 [2] []) 0 it acc)) (cs:=[(it,itL q 2),(q,lst [.ref l1,.ref l2] nq),(acc,lst [.ref _,.ref _] _),(cf,dO #[ent (wv b w).params "s" _ (.ref l2)] _),(_,lst ((nmT m1 p1).map lv) _),(l2,lst ((spT m2 p2).map ev2) 0),(_,lst ((nmT m2 p2).map lv) _),(sc,cellO (.str (Str.ofString ".") k))]) (by kernel_rfl) (by kernel_rfl) rfl (by kernel_rfl) ⟨(fun hF=>Nat.le_of_ble_eq_true rfl),(fun hF=>trivial),(fun hF=>rfl),trivial⟩ fun hp t hF H=>?_)
 refine' go_code ?_
 (refine' run_T KX Rin.nil H 4000 ⟨[2,3,4,6,8,5,7],9⟩ rfl [.c 0,.v 0 (fun al=>rNextEnd Rin.nil 0 (.c 1)),.c 0] fun al=>end_R (r:=(.ok .next)) (cs:=([(q,lst [.ref l1,.ref l2] nq),(acc,lst [.ref _,.ref _] _),(cf,dO #[ent (wv b w).params "s" _ (.ref l2)] _),(l2,lst ((spT m2 p2).map ev2) 0),(sc,cellO (.str (Str.ofString ".") k))]++[(_,lst ((nmT m1 p1).map lv) _),(_,lst ((nmT m2 p2).map lv) _)])) (by kernel_rfl) rfl  ⟨(fun hF=>rfl),trivial⟩ fun hp t hF H=>?_)
 exact x { xd0 with V:=[.ref _,.ref _],X:=[(_,lst _ _),(_,lst _ _)],n:=_,n2:=_,n3:=_,t:=_ } _ ⟨⟨_,_,_,_,_,_,rfl,rfl,nmT_eq _ _,nmT_eq _ _⟩,trivial⟩ H
end
section
variable {prog:Program}{w:World}{A:Around}{E:Value→Shared→Prop}{s:Shared}
theorem min_two {q:Addr}{v1 v2:Value}{r:Bool}{Q:Value→Shared→Prop}(hh:A.handled=none) (ho:s.heap.IsList q #[v1,v2])
  (hc:∀ (s':Shared) (Q':Value→Shared→Prop) (E':Value→Shared→Prop),Keeps s.heap s'.heap→Q' (.bool r) s'→wpAny (model prog w) A.in1 (richCompare .Lt v2 v1) Q' E' s')
  (h:∀ h' tk,Keeps s.heap h'→Q (cond r v2 v1) { s with heap:=h',toks:=tk }):wpAny (model prog w) A (call (.builtin "min") [.ref q]) Q E s:=by
 have hname:(toString "min"++toString ".loop":String)="min.loop":=by decide
 have hql:q < s.heap.objs.size:=by obtain ⟨o,ho,_⟩:=ho;exact Heap.lt_size ho
 refine call_function_tree F.kind_min F.plain_min F.entry_min (F.args_min1 _) ?_
 show wpAny _ A.in1 (Builtin.Builtins.bindParams "min" ["key","default"] 0 ⟨[],[]⟩ >>= _) _ _ s
 refine wpAny_bind (wpAny_of_eq (show Builtin.Builtins.bindParams "min" ["key","default"] 0 ⟨[],[]⟩=pure [none,none] from rfl) ?_)
 refine wpAny_bind (wpAny_pure ?_)
 refine wpAny_bind (wpAny_pyIter_list ho ?_)
 refine wpAny_bind (wpAny_newObj_type ?_)
 rw [hname]
 have hit:((s.heap.push { cls:=.type "list_iterator",data:=.fields #[.ref q,.int 0 0] }).push { cls:=.type "list",data:=.seq ([]:List Value).toArray }).get? s.heap.objs.size=some { cls:=.type "list_iterator",data:=.fields #[.ref q,.int 0 0] }:=Heap.get?_push_of_some _ (Heap.get?_push_size _ rfl)
 have hS:((s.heap.push { cls:=.type "list_iterator",data:=.fields #[.ref q,.int 0 0] }).push { cls:=.type "list",data:=.seq ([]:List Value).toArray }).get? (s.heap.objs.size + 1)=some { cls:=.type "list",data:=.seq ([]:List Value).toArray }:=by rw [← size_push'];exact Heap.get?_push_size _ rfl
 have hk0:Keeps s.heap ((s.heap.push { cls:=.type "list_iterator",data:=.fields #[.ref q,.int 0 0] }).push { cls:=.type "list",data:=.seq ([]:List Value).toArray }):=fun b o e=>Heap.get?_push_of_some _ (Heap.get?_push_of_some _ e)
 rw [size_push']
 refine wpAny_pure ⟨plainId_quiet F.plain_min_loop _,?_⟩
 generalize (s.heap.push { cls:=.type "list_iterator",data:=.fields #[.ref q,.int 0 0] }).push { cls:=.type "list",data:=.seq ([]:List Value).toArray }=h0 at hit hS hk0 ⊢
 have kn : ∀ (h1 h2 : Heap), Keeps s.heap h1 → (∀ b o, b ≠ s.heap.objs.size → b ≠ s.heap.objs.size + 1 → h1.get? b = some o → h2.get? b = some o) → Keeps s.heap h2 := fun h1 h2 k1 k2 b o e =>
   k2 b o (Nat.ne_of_lt (Heap.lt_size e)) (Nat.ne_of_lt (Nat.lt_succ_of_lt (Heap.lt_size e))) (k1 b o e)
 have W:=Walks.list (prog:=prog) (w:=w) (A:=A.in1) hh s.heap.objs.size q (Nat.ne_of_lt hql) #[v1,v2]
 have n1:s.heap.objs.size≠s.heap.objs.size + 1:=Nat.ne_of_lt (Nat.lt_succ_self _)
 have n2:q≠s.heap.objs.size + 1:=Nat.ne_of_lt (Nat.lt_succ_of_lt hql)
 have st0:h0.IsListIter s.heap.objs.size q (0:Nat)∧h0.IsList q #[v1,v2]:=⟨⟨_,hit,rfl,rfl⟩,by obtain ⟨o,ho,x⟩:=ho;exact ⟨o,hk0 _ _ ho,x⟩⟩
 clear ho hql hit
 generalize s.heap.objs.size=I at hS kn W n1 n2 st0 ⊢
 have fr : ∀ {i : Nat} {h1 : Heap} (f : Obj → Obj), (h1.IsListIter I q i ∧ h1.IsList q #[v1, v2]) → (h1.update (I + 1) f).IsListIter I q i ∧ (h1.update (I + 1) f).IsList q #[v1, v2] := fun f st =>
   W.frame _ _ _ st fun b hb o e => (Heap.get?_update_other _ _ (fun z : I + 1 = b => by
     rcases List.mem_cons.mp hb with e | hb
     · exact n1 (e ▸ z.symm)
     · exact n2 (by rw [z];exact (List.mem_singleton.mp hb).symm))).trans e
 have kw:∀ {h1 h2:Heap},Keeps s.heap h1→(∀ b o,b ∉ [I]→h1.get? b=some o→h2.get? b=some o)→Keeps s.heap h2:=fun k1 k2=>kn _ _ k1 fun b o hb _ e=>k2 b o (by simpa using hb) e
 have ku:∀ {h1:Heap}(f:Obj→Obj),Keeps s.heap h1→Keeps s.heap (h1.update (I + 1) f):=fun f k1=>kn _ _ k1 fun b o _ hb e=>(Heap.get?_update_other _ _ (Ne.symm hb)).trans e
 have nS:I + 1 ∉ [I]:=by simp
 -- the end
 have l3 : ∀ (v : Value) (s3 : Shared) (c : Nat) (R : Result → Shared → Prop), s3.gens = s.gens → s3.drawn = s.drawn → s3.os = s.os → (s3.heap.IsListIter I q (2 : Nat) ∧ s3.heap.IsList q #[v1, v2]) → s3.heap.get? (I + 1) = some { cls := .type "list", data := .seq #[v, v] c } → Keeps s.heap s3.heap →
     (∀ h' tk,Keeps s.heap h'→R (.ok (.ret v)) { s with heap:=h',toks:=tk })→codeAny (model prog w) A (.builtin "min.loop" ⟨[.ref I,.none,.ref (I + 1)],[]⟩) R s3:=by
   intro v s3 c R e1 e2 e3 st hS k3 hR
   obtain ⟨h3,g3,d3,t3,o3⟩:=s3
   dsimp only at e1 e2 e3 st hS k3
   subst e1 e2 e3
   refine codeAny_builtin F.entry_min_loop ?_
   rw [Around.under_plainId F.plain_min_loop _]
   show wpAny _ A.in1 (seqItems? (.ref (I + 1)) >>= _) _ _ _
   refine wpAny_bind (wpAny_seqItems hS rfl ?_)
   show wpAny _ A.in1 (tryCatch (pyNext (.ref I)) _ >>= _) _ _ _
   refine wpAny_bind (wpAny_tryCatch (W.done _ _ _ st fun h' tk hk'=>?_))
   have hS':=hk' _ _ nS hS
   show wpAny _ A.in1 (updateSeq (I + 1) (fun _=>#[]) >>= _) _ _ _
   refine wpAny_bind ?_
   refine wpAny_updateSeq hS' rfl (wpAny_bind (wpAny_letGo (wpAny_pure ?_)))
   exact hR _ tk (ku _ (kw k3 hk'))
 have l2 : ∀ (s2 : Shared) (c : Nat) (R : Result → Shared → Prop), s2.gens = s.gens → s2.drawn = s.drawn → s2.os = s.os → (s2.heap.IsListIter I q (1 : Nat) ∧ s2.heap.IsList q #[v1, v2]) → s2.heap.get? (I + 1) = some { cls := .type "list", data := .seq #[v1, v1] c } → Keeps s.heap s2.heap →
     (∀ h' tk,Keeps s.heap h'→R (.ok (.ret (cond r v2 v1))) { s with heap:=h',toks:=tk })→codeAny (model prog w) A (.builtin "min.loop" ⟨[.ref I,.none,.ref (I + 1)],[]⟩) R s2:=by
   intro s2 c R e1 e2 e3 st hS k3 hR
   obtain ⟨h3,g3,d3,t3,o3⟩:=s2
   dsimp only at e1 e2 e3 st hS k3
   subst e1 e2 e3
   refine codeAny_builtin F.entry_min_loop ?_
   rw [Around.under_plainId F.plain_min_loop _]
   show wpAny _ A.in1 (seqItems? (.ref (I + 1)) >>= _) _ _ _
   refine wpAny_bind (wpAny_seqItems hS rfl ?_)
   show wpAny _ A.in1 (tryCatch (pyNext (.ref I)) _ >>= _) _ _ _
   refine wpAny_bind (wpAny_tryCatch (W.item 1 _ _ _ (by show 1 < 2;decide) st fun v h' tk hP hst' hk'=>?_))
   obtain rfl:v2=v:=Option.some.inj hP
   have hS':=hk' _ _ nS hS
   show wpAny _ A.in1 (tryCatch (holding [v2,v2] (richCompare .Lt v2 v1 >>= _)) _ >>= _) _ _ _
   refine wpAny_bind (wpAny_tryCatch (wpAny_holding (wpAny_bind (hc _ _ _ (kw k3 hk') ?_))))
   refine wpAny_bind (wpAny_holding (wpAny_truthy_bool ?_))
   refine wpAny_bind (wpAny_letGo (wpAny_pure ?_))
   cases r with
   | true =>
     simp only [if_true]
     refine wpAny_bind ?_
     refine wpAny_updateSeq hS' rfl (wpAny_bind (wpAny_letGo ?_))
     rw [hname]
     exact wpAny_pure ⟨plainId_quiet F.plain_min_loop _,l3 v2 _ _ _ rfl rfl rfl (fr _ hst') (Heap.get?_update_self _ hS' rfl) (ku _ (kw k3 hk')) hR⟩
   | false =>
     simp only [Bool.false_eq_true,if_false]
     refine wpAny_bind (wpAny_letGo ?_)
     rw [hname]
     exact wpAny_pure ⟨plainId_quiet F.plain_min_loop _,l3 v1 _ _ _ rfl rfl rfl hst' hS' (kw k3 hk') hR⟩
 refine codeAny_builtin F.entry_min_loop ?_
 rw [Around.under_plainId F.plain_min_loop _]
 show wpAny _ A.in1 (seqItems? (.ref (I + 1)) >>= _) _ _ _
 refine wpAny_bind (wpAny_seqItems hS rfl ?_)
 show wpAny _ A.in1 (tryCatch (pyNext (.ref I)) _ >>= _) _ _ _
 refine wpAny_bind (wpAny_tryCatch (W.item 0 _ _ _ (by show 0 < 2;decide) st0 fun v h' tk hP hst' hk'=>?_))
 obtain rfl:v1=v:=Option.some.inj hP
 have hS':=hk' _ _ nS hS
 show wpAny _ A.in1 (updateSeq (I + 1) (fun _=>#[v1,v1]) >>= _) _ _ _
 refine wpAny_bind ?_
 refine wpAny_updateSeq hS' rfl ?_
 rw [hname]
 refine wpAny_pure ⟨plainId_quiet F.plain_min_loop _,l2 _ _ _ rfl rfl rfl (fr _ hst') (Heap.get?_update_self _ hS' rfl) (ku _ (kw hk0 hk')) fun h2 tk2 k2=>?_⟩
 exact h h2 tk2 k2
theorem max_two {q:Addr}{v1 v2:Value}{r:Bool}{Q:Value→Shared→Prop}(hh:A.handled=none) (ho:s.heap.IsList q #[v1,v2])
  (hc:∀ (s':Shared) (Q':Value→Shared→Prop) (E':Value→Shared→Prop),Keeps s.heap s'.heap→Q' (.bool r) s'→wpAny (model prog w) A.in1 (richCompare .Gt v2 v1) Q' E' s')
  (h:∀ h' tk,Keeps s.heap h'→Q (cond r v2 v1) { s with heap:=h',toks:=tk }):wpAny (model prog w) A (call (.builtin "max") [.ref q]) Q E s:=by
 have hname:(toString "max"++toString ".loop":String)="max.loop":=by decide
 have hql:q < s.heap.objs.size:=by obtain ⟨o,ho,_⟩:=ho;exact Heap.lt_size ho
 refine call_function_tree F.kind_max F.plain_max F.entry_max (F.args_max1 _) ?_
 show wpAny _ A.in1 (Builtin.Builtins.bindParams "max" ["key","default"] 0 ⟨[],[]⟩ >>= _) _ _ s
 refine wpAny_bind (wpAny_of_eq (show Builtin.Builtins.bindParams "max" ["key","default"] 0 ⟨[],[]⟩=pure [none,none] from rfl) ?_)
 refine wpAny_bind (wpAny_pure ?_)
 refine wpAny_bind (wpAny_pyIter_list ho ?_)
 refine wpAny_bind (wpAny_newObj_type ?_)
 rw [hname]
 have hit:((s.heap.push { cls:=.type "list_iterator",data:=.fields #[.ref q,.int 0 0] }).push { cls:=.type "list",data:=.seq ([]:List Value).toArray }).get? s.heap.objs.size=some { cls:=.type "list_iterator",data:=.fields #[.ref q,.int 0 0] }:=Heap.get?_push_of_some _ (Heap.get?_push_size _ rfl)
 have hS:((s.heap.push { cls:=.type "list_iterator",data:=.fields #[.ref q,.int 0 0] }).push { cls:=.type "list",data:=.seq ([]:List Value).toArray }).get? (s.heap.objs.size + 1)=some { cls:=.type "list",data:=.seq ([]:List Value).toArray }:=by rw [← size_push'];exact Heap.get?_push_size _ rfl
 have hk0:Keeps s.heap ((s.heap.push { cls:=.type "list_iterator",data:=.fields #[.ref q,.int 0 0] }).push { cls:=.type "list",data:=.seq ([]:List Value).toArray }):=fun b o e=>Heap.get?_push_of_some _ (Heap.get?_push_of_some _ e)
 rw [size_push']
 refine wpAny_pure ⟨plainId_quiet F.plain_max_loop _,?_⟩
 generalize (s.heap.push { cls:=.type "list_iterator",data:=.fields #[.ref q,.int 0 0] }).push { cls:=.type "list",data:=.seq ([]:List Value).toArray }=h0 at hit hS hk0 ⊢
 have kn : ∀ (h1 h2 : Heap), Keeps s.heap h1 → (∀ b o, b ≠ s.heap.objs.size → b ≠ s.heap.objs.size + 1 → h1.get? b = some o → h2.get? b = some o) → Keeps s.heap h2 := fun h1 h2 k1 k2 b o e =>
   k2 b o (Nat.ne_of_lt (Heap.lt_size e)) (Nat.ne_of_lt (Nat.lt_succ_of_lt (Heap.lt_size e))) (k1 b o e)
 have W:=Walks.list (prog:=prog) (w:=w) (A:=A.in1) hh s.heap.objs.size q (Nat.ne_of_lt hql) #[v1,v2]
 have n1:s.heap.objs.size≠s.heap.objs.size + 1:=Nat.ne_of_lt (Nat.lt_succ_self _)
 have n2:q≠s.heap.objs.size + 1:=Nat.ne_of_lt (Nat.lt_succ_of_lt hql)
 have st0:h0.IsListIter s.heap.objs.size q (0:Nat)∧h0.IsList q #[v1,v2]:=⟨⟨_,hit,rfl,rfl⟩,by obtain ⟨o,ho,x⟩:=ho;exact ⟨o,hk0 _ _ ho,x⟩⟩
 clear ho hql hit
 generalize s.heap.objs.size=I at hS kn W n1 n2 st0 ⊢
 have fr : ∀ {i : Nat} {h1 : Heap} (f : Obj → Obj), (h1.IsListIter I q i ∧ h1.IsList q #[v1, v2]) → (h1.update (I + 1) f).IsListIter I q i ∧ (h1.update (I + 1) f).IsList q #[v1, v2] := fun f st =>
   W.frame _ _ _ st fun b hb o e => (Heap.get?_update_other _ _ (fun z : I + 1 = b => by
     rcases List.mem_cons.mp hb with e | hb
     · exact n1 (e ▸ z.symm)
     · exact n2 (by rw [z];exact (List.mem_singleton.mp hb).symm))).trans e
 have kw:∀ {h1 h2:Heap},Keeps s.heap h1→(∀ b o,b ∉ [I]→h1.get? b=some o→h2.get? b=some o)→Keeps s.heap h2:=fun k1 k2=>kn _ _ k1 fun b o hb _ e=>k2 b o (by simpa using hb) e
 have ku:∀ {h1:Heap}(f:Obj→Obj),Keeps s.heap h1→Keeps s.heap (h1.update (I + 1) f):=fun f k1=>kn _ _ k1 fun b o _ hb e=>(Heap.get?_update_other _ _ (Ne.symm hb)).trans e
 have nS:I + 1 ∉ [I]:=by simp
 -- the end
 have l3 : ∀ (v : Value) (s3 : Shared) (c : Nat) (R : Result → Shared → Prop), s3.gens = s.gens → s3.drawn = s.drawn → s3.os = s.os → (s3.heap.IsListIter I q (2 : Nat) ∧ s3.heap.IsList q #[v1, v2]) → s3.heap.get? (I + 1) = some { cls := .type "list", data := .seq #[v, v] c } → Keeps s.heap s3.heap →
     (∀ h' tk,Keeps s.heap h'→R (.ok (.ret v)) { s with heap:=h',toks:=tk })→codeAny (model prog w) A (.builtin "max.loop" ⟨[.ref I,.none,.ref (I + 1)],[]⟩) R s3:=by
   intro v s3 c R e1 e2 e3 st hS k3 hR
   obtain ⟨h3,g3,d3,t3,o3⟩:=s3
   dsimp only at e1 e2 e3 st hS k3
   subst e1 e2 e3
   refine codeAny_builtin F.entry_max_loop ?_
   rw [Around.under_plainId F.plain_max_loop _]
   show wpAny _ A.in1 (seqItems? (.ref (I + 1)) >>= _) _ _ _
   refine wpAny_bind (wpAny_seqItems hS rfl ?_)
   show wpAny _ A.in1 (tryCatch (pyNext (.ref I)) _ >>= _) _ _ _
   refine wpAny_bind (wpAny_tryCatch (W.done _ _ _ st fun h' tk hk'=>?_))
   have hS':=hk' _ _ nS hS
   show wpAny _ A.in1 (updateSeq (I + 1) (fun _=>#[]) >>= _) _ _ _
   refine wpAny_bind ?_
   refine wpAny_updateSeq hS' rfl (wpAny_bind (wpAny_letGo (wpAny_pure ?_)))
   exact hR _ tk (ku _ (kw k3 hk'))
 have l2 : ∀ (s2 : Shared) (c : Nat) (R : Result → Shared → Prop), s2.gens = s.gens → s2.drawn = s.drawn → s2.os = s.os → (s2.heap.IsListIter I q (1 : Nat) ∧ s2.heap.IsList q #[v1, v2]) → s2.heap.get? (I + 1) = some { cls := .type "list", data := .seq #[v1, v1] c } → Keeps s.heap s2.heap →
     (∀ h' tk,Keeps s.heap h'→R (.ok (.ret (cond r v2 v1))) { s with heap:=h',toks:=tk })→codeAny (model prog w) A (.builtin "max.loop" ⟨[.ref I,.none,.ref (I + 1)],[]⟩) R s2:=by
   intro s2 c R e1 e2 e3 st hS k3 hR
   obtain ⟨h3,g3,d3,t3,o3⟩:=s2
   dsimp only at e1 e2 e3 st hS k3
   subst e1 e2 e3
   refine codeAny_builtin F.entry_max_loop ?_
   rw [Around.under_plainId F.plain_max_loop _]
   show wpAny _ A.in1 (seqItems? (.ref (I + 1)) >>= _) _ _ _
   refine wpAny_bind (wpAny_seqItems hS rfl ?_)
   show wpAny _ A.in1 (tryCatch (pyNext (.ref I)) _ >>= _) _ _ _
   refine wpAny_bind (wpAny_tryCatch (W.item 1 _ _ _ (by show 1 < 2;decide) st fun v h' tk hP hst' hk'=>?_))
   obtain rfl:v2=v:=Option.some.inj hP
   have hS':=hk' _ _ nS hS
   show wpAny _ A.in1 (tryCatch (holding [v2,v2] (richCompare .Gt v2 v1 >>= _)) _ >>= _) _ _ _
   refine wpAny_bind (wpAny_tryCatch (wpAny_holding (wpAny_bind (hc _ _ _ (kw k3 hk') ?_))))
   refine wpAny_bind (wpAny_holding (wpAny_truthy_bool ?_))
   refine wpAny_bind (wpAny_letGo (wpAny_pure ?_))
   cases r with
   | true =>
     simp only [if_true]
     refine wpAny_bind ?_
     refine wpAny_updateSeq hS' rfl (wpAny_bind (wpAny_letGo ?_))
     rw [hname]
     exact wpAny_pure ⟨plainId_quiet F.plain_max_loop _,l3 v2 _ _ _ rfl rfl rfl (fr _ hst') (Heap.get?_update_self _ hS' rfl) (ku _ (kw k3 hk')) hR⟩
   | false =>
     simp only [Bool.false_eq_true,if_false]
     refine wpAny_bind (wpAny_letGo ?_)
     rw [hname]
     exact wpAny_pure ⟨plainId_quiet F.plain_max_loop _,l3 v1 _ _ _ rfl rfl rfl hst' hS' (kw k3 hk') hR⟩
 refine codeAny_builtin F.entry_max_loop ?_
 rw [Around.under_plainId F.plain_max_loop _]
 show wpAny _ A.in1 (seqItems? (.ref (I + 1)) >>= _) _ _ _
 refine wpAny_bind (wpAny_seqItems hS rfl ?_)
 show wpAny _ A.in1 (tryCatch (pyNext (.ref I)) _ >>= _) _ _ _
 refine wpAny_bind (wpAny_tryCatch (W.item 0 _ _ _ (by show 0 < 2;decide) st0 fun v h' tk hP hst' hk'=>?_))
 obtain rfl:v1=v:=Option.some.inj hP
 have hS':=hk' _ _ nS hS
 show wpAny _ A.in1 (updateSeq (I + 1) (fun _=>#[v1,v1]) >>= _) _ _ _
 refine wpAny_bind ?_
 refine wpAny_updateSeq hS' rfl ?_
 rw [hname]
 refine wpAny_pure ⟨plainId_quiet F.plain_max_loop _,l2 _ _ _ rfl rfl rfl (fr _ hst') (Heap.get?_update_self _ hS' rfl) (ku _ (kw hk0 hk')) fun h2 tk2 k2=>?_⟩
 exact h h2 tk2 k2
end
noncomputable abbrev sMin:String:=PySem.W.SZ.s14114244577727609259x3
theorem sMin_eq:sMin="min":=id_is "min" (n:=PySem.code "min") (by decide +kernel) rfl
noncomputable abbrev sMax:String:=PySem.W.SZ.s8200498257699607233x3
theorem sMax_eq:sMax="max":=id_is "max" (n:=PySem.code "max") (by decide +kernel) rfl
noncomputable def minL (a b:List (Fin 3)):List (Fin 3):=if ltM b a=true then b else a
noncomputable def maxL (a b:List (Fin 3)):List (Fin 3):=if ltM a b=true then b else a
noncomputable def Sel (X:List (Addr×Obj)) (a:Addr) (l:List (Fin 3)):Prop:=∃ M:List LT,∃ n,(a,lst (M.map lv) n)∈X∧lts M=l
section
variable {prog:Program}{w:World}{A:Around}{R:Result→Shared→Prop}{B:Addr→Option Obj}{g:Array GenState}{d:Drawn}{os:OsState}{rs:List (Addr×Obj)}
noncomputable def rG (side:List Kt→Code→Option Unit) (rs:List (Addr×Obj)) (code:Code) (ls:List Lc) (use:List (Addr×Obj)) (P:List (Addr×Obj)→Prop) (fact:List (Addr×Obj)→Option (Xd→Prop)) (post:List (Addr×Obj)→Xd→Result×List (Addr×Obj)×Nat)
   (ok:∀ l c cs u,side l c=some u→lkA rs cs ls=some use→P cs→CallR prog w A R B g d os l c code cs (fact cs) (post cs)):Rul prog w A R B g d os where
 eff l c c' cs:=(side l c).bind fun _=>(lkA rs cs ls).bind fun us=>some ⟨[(.C c',.C code),(.L us,.L use)],P cs,fact cs,post cs⟩
 ok l c c' cs rp h he hp:=by
   obtain ⟨_,h1,h⟩:=bo h
   obtain ⟨us,h2,h⟩:=bo h
   cases h
   rw [show c'=code from Qx.C.inj (he _ (.head _))]
   exact ok l c cs _ h1 (h2.trans (congrArg some (Qx.L.inj (he _ (.tail _ (.head _)))))) hp
noncomputable def rGX (side:List Kt→Code→Option Unit) (rs:List (Addr×Obj)) (code:Code) (ls:List Lc) (use:List (Addr×Obj)) (k:Nat) (X:List (Addr×Obj)) (P:Prop) (fact:Option (Xd→Prop)) (post:List (Addr×Obj)→Xd→Result×List (Addr×Obj)×Nat)
   (ok:∀ l c cs u,side l c=some u→lkA rs cs ls=some use→cs.drop k=X→P→CallR prog w A R B g d os l c code cs fact (post cs)):Rul prog w A R B g d os where
 eff l c c' cs:=(side l c).bind fun _=>(lkA rs cs ls).bind fun us=>some ⟨[(.C c',.C code),(.L us,.L use),(.L (cs.drop k),.L X)],P,fact,post cs⟩
 ok l c c' cs rp h he hp:=by
   obtain ⟨_,h1,h⟩:=bo h
   obtain ⟨us,h2,h⟩:=bo h
   cases h
   rw [show c'=code from Qx.C.inj (he _ (.head _))]
   exact ok l c cs _ h1 (h2.trans (congrArg some (Qx.L.inj (he _ (.tail _ (.head _)))))) (Qx.L.inj (he _ (.tail _ (.tail _ (.head _))))) hp
noncomputable def roomS (A:Around) (l:List Kt) (c:Code):Option Unit:=(noH A l c).bind fun _=>isB (Nat.blt ((ar A l).units + c.cUnits + 10) cLine)
theorem roomS_ok {l:List Kt}{c:Code}{u:Unit}(h:roomS A l c=some u):((ar A l).under c).handled=none∧((ar A l).under c).units + 10 < cLine:=by
 obtain ⟨_,h1,h⟩:=bo h
 exact ⟨noH_ok h1,Nat.le_of_ble_eq_true (isB_ok h)⟩
noncomputable def rMin {q:Addr}{V:List Value}{n:Nat}{X:List (Addr×Obj)}(i k:Nat) (p1 p2:Pt):Rul prog w A R B g d os :=
 rGX (roomS A) [] (.call (.builtin sMin) ⟨[.ref q],[]⟩) [.c i] [(q,lst V n)] k X (SP p1 p2 V X) (some fun u=>Sel X u.n (minL (nmf p1) (nmf p2))) (fun cs u=>(.ok (.ret (.ref u.n)),cs,u.n2)) fun l c cs _ hs hl hk hp=>⟨fun _ _ _ h' i' H y=>by
 obtain ⟨a1,a2,M1,M2,n1,n2,rfl,hX,h1,h2⟩:=hp
 obtain ⟨hh,hu⟩:=roomS_ok hs
 have hq:=lk_ok Rin.nil (lkA_cons hl).1 H
 have m1:(a1,lst (M1.map lv) n1)∈X:=by rw [hX];exact .head _
 have m2:(a2,lst (M2.map lv) n2)∈X:=by rw [hX];exact .tail _ (.head _)
 have g1:=H.own _ (List.mem_of_mem_drop (hk ▸ m1))
 have g2:=H.own _ (List.mem_of_mem_drop (hk ▸ m2))
 rw [lst_eq] at hq g1 g2
 rw [sMin_eq]
 refine go_callW (min_two (s:=⟨h',g,d,i',os⟩) (r:=ltM (lts M2) (lts M1)) hh ⟨_,hq,rfl,_,rfl⟩ (fun s' Q' E' k1 hQ=>richCompare_meets_room (T:="list") ⟨_,k1 _ _ g2,rfl⟩ ⟨_,k1 _ _ g1,rfl⟩ F.slot_list_lt F.entry_list_lt (F.args_list_lt_2 _ _) (list_lt a2 a1 M2 M1 n2 n1) ⟨k1 _ _ g2,k1 _ _ g1,Value.noConfusion,hQ⟩ (by show ((ar A l).under c).units + 1 < cLine;omega)) fun h2' tk k2=>?_)
 cases hr:ltM (lts M2) (lts M1) with
 | true => exact y (xd a2 tk) h2' ⟨⟨M2, n2, m2, by rw [minL, ← h1, ← h2, hr]; rfl⟩, trivial⟩ (H.on k2)
 | false => exact y (xd a1 tk) h2' ⟨⟨M1, n1, m1, by rw [minL, ← h1, ← h2, hr]; rfl⟩, trivial⟩ (H.on k2)⟩
noncomputable def rMax {q:Addr}{V:List Value}{n:Nat}{X:List (Addr×Obj)}(i k:Nat) (p1 p2:Pt):Rul prog w A R B g d os :=
 rGX (roomS A) [] (.call (.builtin sMax) ⟨[.ref q],[]⟩) [.c i] [(q,lst V n)] k X (SP p1 p2 V X) (some fun u=>Sel X u.n (maxL (nmf p1) (nmf p2))) (fun cs u=>(.ok (.ret (.ref u.n)),cs,u.n2)) fun l c cs _ hs hl hk hp=>⟨fun _ _ _ h' i' H y=>by
 obtain ⟨a1,a2,M1,M2,n1,n2,rfl,hX,h1,h2⟩:=hp
 obtain ⟨hh,hu⟩:=roomS_ok hs
 have hq:=lk_ok Rin.nil (lkA_cons hl).1 H
 have m1:(a1,lst (M1.map lv) n1)∈X:=by rw [hX];exact .head _
 have m2:(a2,lst (M2.map lv) n2)∈X:=by rw [hX];exact .tail _ (.head _)
 have g1:=H.own _ (List.mem_of_mem_drop (hk ▸ m1))
 have g2:=H.own _ (List.mem_of_mem_drop (hk ▸ m2))
 rw [lst_eq] at hq g1 g2
 rw [sMax_eq]
 refine go_callW (max_two (s:=⟨h',g,d,i',os⟩) (r:=ltM (lts M1) (lts M2)) hh ⟨_,hq,rfl,_,rfl⟩ (fun s' Q' E' k1 hQ=>richCompare_meets_room (T:="list") ⟨_,k1 _ _ g2,rfl⟩ ⟨_,k1 _ _ g1,rfl⟩ F.slot_list_gt F.entry_list_gt (F.args_list_gt_2 _ _) (list_gt a2 a1 M2 M1 n2 n1) ⟨k1 _ _ g2,k1 _ _ g1,Value.noConfusion,hQ⟩ (by show ((ar A l).under c).units + 1 < cLine;omega)) fun h2' tk k2=>?_)
 cases hr:ltM (lts M1) (lts M2) with
 | true => exact y (xd a2 tk) h2' ⟨⟨M2, n2, m2, by rw [maxL, ← h1, ← h2, hr]; rfl⟩, trivial⟩ (H.on k2)
 | false => exact y (xd a1 tk) h2' ⟨⟨M1, n1, m1, by rw [maxL, ← h1, ← h2, hr]; rfl⟩, trivial⟩ (H.on k2)⟩
end
noncomputable abbrev sEnum:String:=PySem.W.SZ.s14340494229221121180x9
theorem sEnum_eq:sEnum="enumerate":=id_is "enumerate" (n:=PySem.code "enumerate") (by decide +kernel) rfl
noncomputable abbrev sJoin:String:=PySem.W.SZ.s17016399989312754722x8
theorem sJoin_eq:sJoin="str.join":=id_is "str.join" (n:=PySem.code "str.join") (by decide +kernel) rfl
noncomputable def enO (v:Value) (it:Addr) (i:Int) (old:Value):Obj:=⟨.type sEnum,none,.fields #[v,.bool false,.ref it,.int i 0,.none,old],#[]⟩
noncomputable def glu (l:List (Fin 3)):Str:=Builtin.Str.glued (Str.ofString "/") (l.map lt)
section
variable {prog:Program}{w:World}{A:Around}{R:Result→Shared→Prop}{B:Addr→Option Obj}{g:Array GenState}{d:Drawn}{os:OsState}{rs:List (Addr×Obj)}
noncomputable def rEnum {q:Addr}{X:List (Addr×Obj)}(k:Nat) (l0:List (Fin 3)):Rul prog w A R B g d os :=
 rGX anyS [] (.call (.type sEnum) ⟨[.ref q],[]⟩) [] [] k X (Sel X q l0) none (fun cs u=>(.ok (.ret (.ref u.n)),(u.n,enO .none u.n2 0 .none) :: (u.n2,itL q 0) :: cs,u.n3)) fun l c cs _ _ _ hk hp=>⟨fun _ _ _ h' i' H y=>by
 obtain ⟨M,n,hm,_⟩:=hp
 have hq:=H.own _ (List.mem_of_mem_drop (hk ▸ hm))
 rw [lst_eq] at hq
 have H2:=(H.push (o:=itL q 0) rfl).push (o:=enO .none h'.objs.size 0 .none) rfl
 have hg:=H2.own _ (.head _)
 have z:=y { xd (h'.push (itL q 0)).objs.size h'.objs.size with n3:=i' } _ trivial H2
 have e:((h'.push (itL q 0)).push (enO .none h'.objs.size 0 .none))=((h'.push { cls:=.type "list_iterator",data:=.fields #[.ref q,.int 0 0] }).push { cls:=.type "enumerate",data:=.fields #[.none,.bool false,.ref h'.objs.size,rawInt 0,.none,.none] }):=by
   unfold itL enO
   rw [sLI_eq,sEnum_eq]
   rfl
 rw [e] at hg z
 rw [sEnum_eq]
 have e2:(h'.push (itL q 0)).objs.size=(h'.push { cls:=.type "list_iterator",data:=.fields #[.ref q,.int 0 0] }).objs.size:=by rw [size_push',size_push']
 rw [e2] at hg z
 exact go_callW (callType_new F.called_enumerate (by decide) (F.typeCall_enumerate_1 _) (F.newCall_enumerate_1 _) (fun obj=>F.args_object_init_2 obj _) F.entry_enumerate_new (meets_enumerate_new q (M.map lv).toArray n) ⟨hq,⟨_,hg,by unfold enO;rw [sEnum_eq]⟩,z⟩)⟩
noncomputable def rEiter {v:Value}{it:Addr}{j:Int}{old:Value}(i:Nat):Rul prog w A R B g d os:=rF .b 8395599949888658542141600605037211174727526 anyS [] [.c i] (fun as _ _=>gHd as fun v _=>gRef v some)
 (fun a cs=>⟨[.ref a],[(a,enO v it j old)],True,none,fun u=>(.ok (.ret (.ref a)),cs,u.n)⟩)
 fun a _ _ _ _ _ hid _ hl _ => ⟨fun _ _ _ h' i' H y => by
   obtain rfl:=id_is "enumerate.__iter__" hid (by decide +kernel)
   have hT:Shared.TypeIs ⟨h',g,d,i',os⟩ (.ref a) "enumerate":=⟨_,own_pick (lkA_cons hl).1 H,sEnum_eq ▸ rfl⟩
   refine go_callW (wpAny_call_entry F.slot_enumerate_iter hT F.entry_enumerate_iter ?_ (F.args_enumerate_iter_1 _))
   show wpAny _ _ (ret (.ref a)) _ _ _
   exact wpAny_pure ⟨_,rfl,y (xd i' 0) _ trivial H⟩⟩
theorem glu_len:∀ l:List (Fin 3),l.length≤3→(glu l).length≤sizeLine∧Builtin.Str.tooLong ((l.map lt).toArray.foldl (· + ·.length + (Str.ofString "/").length) 0)=false:=by
 intro l h
 rcases l with _ | ⟨a,_ | ⟨b,_ | ⟨c,_ | ⟨e,r⟩⟩⟩⟩
 · decide +kernel
 · revert a;decide +kernel
 · revert a b;decide +kernel
 · revert a b c;decide +kernel
 · exact absurd h (by simp)
noncomputable def rJoin {q:Addr}{t:Nat}{X:List (Addr×Obj)}(k:Nat) (l0:List (Fin 3)):Rul prog w A R B g d os :=
 rGX anyS [] (.call (.builtin sJoin) ⟨[.str (Str.ofString "/") t,.ref q],[]⟩) [] [] k X (Sel X q l0∧l0.length≤3) none (fun cs u=>(.ok (.ret (.str (glu l0) u.n)),cs,u.n2)) fun l c cs _ _ _ hk hp=>⟨fun _ _ _ h' i' H y=>by
 obtain ⟨⟨M,n,hm,rfl⟩,hl⟩:=hp
 have hq:=H.own _ (List.mem_of_mem_drop (hk ▸ hm))
 rw [lst_eq] at hq
 have e1:M.map lv=strValues (M.map fun q=>(lt q.1,q.2)):=by unfold strValues;rw [List.map_map];rfl
 have e2:(M.map fun q=>(lt q.1,q.2)).map (·.1)=(lts M).map lt:=by rw [List.map_map,List.map_map];rfl
 rw [e1] at hq
 obtain ⟨h1,h2⟩:=glu_len (lts M) hl
 rw [sJoin_eq]
 refine go_callW (call_meets F.slot_str_join (typeIs_str _ _ _) F.entry_str_join (F.args_str_join_2 _ _) (meets_str_join_list (Str.ofString "/") t q _ (by rw [e2];exact h2)) ⟨⟨_,hq,rfl,_,rfl⟩,?_⟩)
 have z:=fun t1 t2=>y (xd t1 t2) h' trivial H
 have e3:Builtin.Str.glued (Str.ofString "/") ((M.map fun q=>(lt q.1,q.2)).map (·.1))=glu (lts M):=by rw [e2];rfl
 clear y hq hm e1 e2 h2
 rcases M with _ | ⟨a,_ | ⟨b,r⟩⟩
 · exact ⟨h1,z _ _⟩
 · exact z _ _
 · have z := z i' (i' + 1)
   rw [← e3] at h1 z
   exact ⟨h1,z⟩⟩
noncomputable def rAdd (r:Str):Rul prog w A R B g d os:=rSS 116512096292018843154609524 (fun x y=>x++y=r∧(x++y).length≤sizeLine) (fun cs u=>(.ok (.ret (.str r u.n)),cs,u.n2))
 (fun _ _ _ x y _ _ _ hid e => ⟨fun _ _ _ _ i H z => by
   obtain rfl:=id_is "str.__add__" hid (by decide +kernel)
   obtain ⟨rfl,h1⟩:=e
   refine go_callW (call_gives F.slot_str_add (typeIs_str _ _ _) F.entry_str_add (F.args_str_add_2 _ _) (gives_str_add _ _ _ _) ?_)
   have z:=fun t1 t2=>z (xd t1 t2) _ trivial H
   by_cases hx:(x.length == 0)=true
   · rw [if_pos hx]
     have e:x++y=y:=by
       have:x.cps=#[]:=Array.size_eq_zero_iff.mp (by have:=eq_of_beq hx;exact this)
       show Str.mk (x.cps++y.cps)=y
       rw [this,Array.empty_append]
     rw [e] at z
     exact z _ _
   · rw [if_neg hx]
     by_cases hy:(y.length == 0)=true
     · rw [if_pos hy]
       have e:x++y=x:=by
         have:y.cps=#[]:=Array.size_eq_zero_iff.mp (by have:=eq_of_beq hy;exact this)
         show Str.mk (x.cps++y.cps)=x
         rw [this,Array.append_empty]
       rw [e] at z
       exact z _ _
     · rw [if_neg hy]
       exact ⟨h1,z _ _⟩⟩)
end
theorem go_owned {prog:Program}{w:World}{A:Around}{R:Result→Shared→Prop}{l:List Kt}{c:Code}{h:Heap}{g:Array GenState}{d:Drawn}{t:Nat}{os:OsState}{B:Addr→Option Obj}{cs:List (Addr×Obj)}{e it a:Addr}{j:Int}{old:Value}{elts:List Expr}{x1:Nat}{pos:PySem.Pos}{q:Option Value}{k0:Obj→Sem Unit}{F:Obj→Sem Fin}{tr':Sem Fin}(i:Nat)
   (H:Hp B h cs) (hp:pick i cs=some (e,enO (.int (a:Int) 0) it j old)) (ht:ZFast.zw1578499551869305889 (.Tuple elts x1 pos) (.ref e) (.ref a)=.load e q k0) (r:Cx (k0 (enO (.int (a:Int) 0) it j old)) (.pure ()) (F (enO (.int (a:Int) 0) it j old)) tr')
   (x:∀ h',Hp B h' (putAt i cs (enO .none it j old))→Go prog w A R l c tr' ⟨h',g,d,t,os⟩):Go prog w A R l c (.load e q F) ⟨h,g,d,t,os⟩:=by
 have he:=own_pick hp H
 have he':=he
 unfold enO at he'
 rw [sEnum_eq] at he'
 refine go_load he (go_cx (fun s'=>∃ h',s'=⟨h',g,d,t,os⟩∧Hp B h' (putAt i cs (enO .none it j old))) r (load_inv (q:=q) (k:=k0) he ?_) (fun s' ⟨h',e,H'⟩=>e ▸ x h' H'))
 rw [← ht,← ZFast.ze1578499551869305889]
 refine wpAny_letOwnedTupleGo_enum (i:=j) (a:=a) he' fun h' he2 hs=>⟨rfl,h',rfl,H.but hp hs ?_⟩
 unfold enO
 rw [sEnum_eq]
 exact he2
theorem Rin.two {B:Addr→Option Obj}{X:List (Addr×Obj)}{p q:Addr×Obj}(hn:(X.map (·.1)).Nodup) (hp:p∈X) (hq:q∈X):Rin [p,q] (extB B X):=fun x hx=>by
 rcases List.mem_cons.mp hx with rfl | hx
 · exact extB_mem hn hp
 · obtain rfl := List.mem_singleton.mp hx
   exact extB_mem hn hq
section
variable {b:Bool}{w:World}{g:Array GenState}{d:Drawn}{os:OsState}
noncomputable def cpC (P:Params) (e it x y fr tp sp c:Addr) (k1 k2 k3 k4 k5 k6:Tok) (v:Value) (j:Nat) (old:Value) (ex:List DictEntry) (n:Nat):List (Addr×Obj) :=
 [(e,enO v it j old),(it,itL x j),(fr,locO (ent P "paths" k1 (.ref tp) :: ent P "split_paths" k2 (.ref sp) :: ent P "isabs" k3 (.bool true) :: ent P "s1" k4 (.ref x) :: ent P "s2" k5 (.ref y) :: ent P "common" k6 (.ref c) :: ex) n)]
theorem cp_turn {R:Result→Shared→Prop}{h:Heap}{t:Nat}{B:Addr→Option Obj}{e it x y fr tp sp ca cb:Addr}{k1 k2 k3 k4 k5 k6 n n1 n2 j:Nat}{old:Value}{ex:List DictEntry}{M1 M2:List LT}{q1 q2:LT}
  (KX:Kin (KK (wv b w).params) B) (RX:Rin [(x,lst (M1.map lv) n1),(y,lst (M2.map lv) n2)] B) (H:Hp B h (cpC (wv b w).params e it x y fr tp sp x k1 k2 k3 k4 k5 k6 .none j old ex n)) (hst:(old=.none∧ex=[])∨∃ i0 ti q0 ki kc,old=lv q0∧ex=[ent (wv b w).params "i" ki (.int i0 ti),ent (wv b w).params "c" kc (lv q0)]) (h1:(M1.map lv)[j]?=some (lv q1)) (h2:(M2.map lv)[j]?=some (lv q2)∧j≤1000) (he:((lt q1.1).cps.toList != (lt q2.1).cps.toList)=false)
  (IH:∀ h' t' ki kc ti n,Hp B h' (cpC (wv b w).params e it x y fr tp sp x k1 k2 k3 k4 k5 k6 .none (j + 1:Nat) (lv q1) [ent (wv b w).params "i" ki (.int (j:Int) ti),ent (wv b w).params "c" kc (lv q1)] n)→codeAny (model prg (wv b w)) (AF 420 none) (lpAtC (wv b w).params 261 fr [(Str.ofString "curdir",ca),(Str.ofString "sep",cb)] 3 [6] (.ref e)) R ⟨h',g,d,t',os⟩) :
  codeAny (model prg (wv b w)) (AF 420 none) (lpAtC (wv b w).params 261 fr [(Str.ofString "curdir",ca),(Str.ofString "sep",cb)] 3 [6] (.ref e)) R ⟨h,g,d,t,os⟩:=by
 rcases hst with ⟨rfl,rfl⟩ | ⟨i0,ti,q0,ki,kc,rfl,rfl⟩
 · refine' go_code ?_
   (refine' run_goK KX RX H 4000 ⟨[0,1,2,3],4⟩ rfl [.c 0,.e,.c 0,.q,.c 0,.c 1,.v 0 (fun al=>rNext RX 1 (.r 0) (lv q1)),.c 0,.c 0,.c 0,.f 0,.c 0,.f 0,.b 1,.c 1,.c 1,.c 1,.f 1,.c 1,.f 1,.c 1,.f 1] (fun _=>rfl) (fun _=>by kernel_rfl) (fun al=>⟨(fun hF=>h1),trivial⟩) ?_;(try clear H);(try clear hp);intro al hp hF H)
   refine' go_owned (elts:=[]) (x1:=0) (pos:=default) 1 H rfl rfl ?cx ?hx
   (case cx => (
       have rb:=fun γ m0 m1 α β m m' f=>@Cx.bind γ m0 m1 α β m m' f
       have ro:=fun γ m0 m1 α m m' f=>@Cx.onRaise γ m0 m1 α m m' f
       unfold PySem.W.R.bindR at rb
       unfold PySem.W.R.onRaiseR at ro
       with_reducible apply ro
       with_reducible apply rb
       exact Cx.hole))
   intro hp H
   (refine' run_T2 KX RX H 4000 ⟨[4,5,6],7⟩ rfl [.c 0,.c 0,.c 0,.e,.c 0,.q,.b 0,.c 0,.c 0,.e,.c 0,.q,.c 0,.c 0,.c 1,.c 0,.f 0,.c 0,.e,.c 0,.q,.c 0,.c 0,.c 1,.c 0,.f 0,.c 0,.e,.c 0,.q,.c 0,.c 0,.c 1,.c 0,.f 0,.b 1,.b 2,.c 0,.c 6,.f 6,.c 6,.f 6,.c 6,.c 6,.c 6,.r 1,.r 1,.r 1,.v 3 (fun al=>rItem RX (.r 1) (lv q2)),.v 4 (fun al=>rNe (false))] fun al=>end_A2 (c:=(lpAtC (wv b w).params 261 fr [(Str.ofString "curdir",ca),(Str.ofString "sep",cb)] 3 [6] (.ref e))) (cs:=(cpC (wv b w).params e it x y fr tp sp x k1 k2 k3 k4 k5 k6 .none (j + 1:Nat) (lv q1) [ent (wv b w).params "i" _ (.int (j:Int) _),ent (wv b w).params "c" _ (lv q1)] _)) (by kernel_rfl) (by kernel_rfl) rfl (by kernel_rfl) ⟨(fun hF=>he),(fun hF=>h2),trivial⟩ fun hp t hF H=>?_)
   exact IH _ _ _ _ _ _ H
 · refine' go_code ?_
   (refine' run_goK KX RX H 4000 ⟨[0,1,2,3],4⟩ rfl [.c 0,.e,.c 0,.q,.c 0,.c 1,.v 0 (fun al=>rNext RX 1 (.r 0) (lv q1)),.c 0,.c 0,.c 0,.f 0,.c 0,.f 0,.b 1,.c 1,.c 1,.c 1,.f 1,.c 1,.f 1,.c 1,.f 1] (fun _=>rfl) (fun _=>by kernel_rfl) (fun al=>⟨(fun hF=>h1),trivial⟩) ?_;(try clear H);(try clear hp);intro al hp hF H)
   refine' go_owned (elts:=[]) (x1:=0) (pos:=default) 1 H rfl rfl ?cx2 ?hx2
   (case cx2 => (
       have rb:=fun γ m0 m1 α β m m' f=>@Cx.bind γ m0 m1 α β m m' f
       have ro:=fun γ m0 m1 α m m' f=>@Cx.onRaise γ m0 m1 α m m' f
       unfold PySem.W.R.bindR at rb
       unfold PySem.W.R.onRaiseR at ro
       with_reducible apply ro
       with_reducible apply rb
       exact Cx.hole))
   intro hp H
   (refine' run_T2 KX RX H 4000 ⟨[4,5,6],7⟩ rfl [.c 0,.c 0,.c 0,.e,.c 0,.q,.b 0,.c 0,.c 0,.e,.c 0,.q,.c 0,.c 0,.c 1,.c 0,.f 0,.c 0,.e,.c 0,.q,.c 0,.c 0,.c 1,.c 0,.f 0,.c 0,.e,.c 0,.q,.c 0,.c 0,.c 1,.c 0,.f 0,.b 1,.b 2,.c 0,.c 6,.f 6,.c 6,.f 6,.c 6,.c 6,.c 6,.r 1,.r 1,.r 1,.v 3 (fun al=>rItem RX (.r 1) (lv q2)),.v 4 (fun al=>rNe (false))] fun al=>end_A2 (c:=(lpAtC (wv b w).params 261 fr [(Str.ofString "curdir",ca),(Str.ofString "sep",cb)] 3 [6] (.ref e))) (cs:=(cpC (wv b w).params e it x y fr tp sp x k1 k2 k3 k4 k5 k6 .none (j + 1:Nat) (lv q1) [ent (wv b w).params "i" _ (.int (j:Int) _),ent (wv b w).params "c" _ (lv q1)] _)) (by kernel_rfl) (by kernel_rfl) rfl (by kernel_rfl) ⟨(fun hF=>he),(fun hF=>h2),trivial⟩ fun hp t hF H=>?_)
   exact IH _ _ _ _ _ _ H
theorem cp_diff {R:Result→Shared→Prop}{h:Heap}{t:Nat}{B:Addr→Option Obj}{e it x y fr tp sp ca cb:Addr}{k1 k2 k3 k4 k5 k6 n n1 n2 j:Nat}{old:Value}{ex:List DictEntry}{M1 M2:List LT}{q1 q2:LT}
  (KX:Kin (KK (wv b w).params) B) (RX:Rin [(x,lst (M1.map lv) n1),(y,lst (M2.map lv) n2)] B) (H:Hp B h (cpC (wv b w).params e it x y fr tp sp x k1 k2 k3 k4 k5 k6 .none j old ex n)) (hst:(old=.none∧ex=[])∨∃ i0 ti q0 ki kc,old=lv q0∧ex=[ent (wv b w).params "i" ki (.int i0 ti),ent (wv b w).params "c" kc (lv q0)]) (h1:(M1.map lv)[j]?=some (lv q1)) (h2:(M2.map lv)[j]?=some (lv q2)∧j≤1000) (he:((lt q1.1).cps.toList != (lt q2.1).cps.toList)=true)
  (hs:slicePick (M1.map lv).toArray none (some (j:Int)) none=((M1.take j).map lv).toArray) (hl:(M1.map lv).length≤1000)
  (x':∀ h' t' c ki ti kc n,Hp B h' ((c,lst ((M1.take j).map lv) 0) :: (cpC (wv b w).params e it x y fr tp sp c k1 k2 k3 k4 k5 k6 .none j .none [ent (wv b w).params "i" ki (.int (j:Int) ti),ent (wv b w).params "c" kc (lv q1)] n).drop 2)→R (.ok .next) ⟨h',g,d,t',os⟩) :
  codeAny (model prg (wv b w)) (AF 420 none) (lpAtC (wv b w).params 261 fr [(Str.ofString "curdir",ca),(Str.ofString "sep",cb)] 3 [6] (.ref e)) R ⟨h,g,d,t,os⟩:=by
 rcases hst with ⟨rfl,rfl⟩ | ⟨i0,ti,q0,ki,kc,rfl,rfl⟩
 · refine' go_code ?_
   (refine' run_goK KX RX H 4000 ⟨[0,1,2,3],4⟩ rfl [.c 0,.e,.c 0,.q,.c 0,.c 1,.v 0 (fun al=>rNext RX 1 (.r 0) (lv q1)),.c 0,.c 0,.c 0,.f 0,.c 0,.f 0,.b 1,.c 1,.c 1,.c 1,.f 1,.c 1,.f 1,.c 1,.f 1] (fun _=>rfl) (fun _=>by kernel_rfl) (fun al=>⟨(fun hF=>h1),trivial⟩) ?_;(try clear H);(try clear hp);intro al hp hF H)
   refine' go_owned (elts:=[]) (x1:=0) (pos:=default) 1 H rfl rfl ?cx ?hx
   (case cx => (
       have rb:=fun γ m0 m1 α β m m' f=>@Cx.bind γ m0 m1 α β m m' f
       have ro:=fun γ m0 m1 α m m' f=>@Cx.onRaise γ m0 m1 α m m' f
       unfold PySem.W.R.bindR at rb
       unfold PySem.W.R.onRaiseR at ro
       with_reducible apply ro
       with_reducible apply rb
       exact Cx.hole))
   intro hp H
   (refine' run_T2 KX RX H 4000 ⟨[0,8],9⟩ rfl [.c 0,.c 0,.c 0,.e,.c 0,.q,.b 0,.c 0,.c 0,.e,.c 0,.q,.c 0,.c 0,.c 1,.c 0,.f 0,.c 0,.e,.c 0,.q,.c 0,.c 0,.c 1,.c 0,.f 0,.c 0,.e,.c 0,.q,.c 0,.c 0,.c 1,.c 0,.f 0,.b 1,.b 2,.c 0,.c 6,.f 6,.c 6,.f 6,.c 6,.c 6,.c 6,.r 1,.r 1,.r 1,.v 3 (fun al=>rItem RX (.r 1) (lv q2)),.v 4 (fun al=>rNe (true)),.c 6,.c 6,.b 5,.r 0,.r 0,.r 0,.v 6 (fun al=>rLslice RX (.r 0) (.c 0) ((M1.take j).map lv)),.c 8,.f 8] fun al=>end_R2 (r:=(.ok .next)) (cs:=((_,lst ((M1.take j).map lv) 0) :: (cpC (wv b w).params e it x y fr tp sp _ k1 k2 k3 k4 k5 k6 .none j .none [ent (wv b w).params "i" _ (.int (j:Int) _),ent (wv b w).params "c" _ (lv q1)] _).drop 2)) (by kernel_rfl) (by kernel_rfl) rfl (by kernel_rfl) ⟨(fun hF=>⟨hs,hl⟩),(fun hF=>he),(fun hF=>h2),trivial⟩ fun hp t hF H=>?_)
   exact x' _ _ _ _ _ _ _ H
 · refine' go_code ?_
   (refine' run_goK KX RX H 4000 ⟨[0,1,2,3],4⟩ rfl [.c 0,.e,.c 0,.q,.c 0,.c 1,.v 0 (fun al=>rNext RX 1 (.r 0) (lv q1)),.c 0,.c 0,.c 0,.f 0,.c 0,.f 0,.b 1,.c 1,.c 1,.c 1,.f 1,.c 1,.f 1,.c 1,.f 1] (fun _=>rfl) (fun _=>by kernel_rfl) (fun al=>⟨(fun hF=>h1),trivial⟩) ?_;(try clear H);(try clear hp);intro al hp hF H)
   refine' go_owned (elts:=[]) (x1:=0) (pos:=default) 1 H rfl rfl ?cx2 ?hx2
   (case cx2 => (
       have rb:=fun γ m0 m1 α β m m' f=>@Cx.bind γ m0 m1 α β m m' f
       have ro:=fun γ m0 m1 α m m' f=>@Cx.onRaise γ m0 m1 α m m' f
       unfold PySem.W.R.bindR at rb
       unfold PySem.W.R.onRaiseR at ro
       with_reducible apply ro
       with_reducible apply rb
       exact Cx.hole))
   intro hp H
   (refine' run_T2 KX RX H 4000 ⟨[0,8],9⟩ rfl [.c 0,.c 0,.c 0,.e,.c 0,.q,.b 0,.c 0,.c 0,.e,.c 0,.q,.c 0,.c 0,.c 1,.c 0,.f 0,.c 0,.e,.c 0,.q,.c 0,.c 0,.c 1,.c 0,.f 0,.c 0,.e,.c 0,.q,.c 0,.c 0,.c 1,.c 0,.f 0,.b 1,.b 2,.c 0,.c 6,.f 6,.c 6,.f 6,.c 6,.c 6,.c 6,.r 1,.r 1,.r 1,.v 3 (fun al=>rItem RX (.r 1) (lv q2)),.v 4 (fun al=>rNe (true)),.c 6,.c 6,.b 5,.r 0,.r 0,.r 0,.v 6 (fun al=>rLslice RX (.r 0) (.c 0) ((M1.take j).map lv)),.c 8,.f 8] fun al=>end_R2 (r:=(.ok .next)) (cs:=((_,lst ((M1.take j).map lv) 0) :: (cpC (wv b w).params e it x y fr tp sp _ k1 k2 k3 k4 k5 k6 .none j .none [ent (wv b w).params "i" _ (.int (j:Int) _),ent (wv b w).params "c" _ (lv q1)] _).drop 2)) (by kernel_rfl) (by kernel_rfl) rfl (by kernel_rfl) ⟨(fun hF=>⟨hs,hl⟩),(fun hF=>he),(fun hF=>h2),trivial⟩ fun hp t hF H=>?_)
   exact x' _ _ _ _ _ _ _ H
theorem cp_end {R:Result→Shared→Prop}{h:Heap}{t:Nat}{B:Addr→Option Obj}{e it x y fr tp sp ca cb:Addr}{k1 k2 k3 k4 k5 k6 n n1 n2 j:Nat}{old:Value}{ex:List DictEntry}{M1 M2:List LT}
  (KX:Kin (KK (wv b w).params) B) (RX:Rin [(x,lst (M1.map lv) n1),(y,lst (M2.map lv) n2)] B) (H:Hp B h (cpC (wv b w).params e it x y fr tp sp x k1 k2 k3 k4 k5 k6 .none j old ex n)) (h1:(M1.map lv)[j]?=none)
  (x':∀ h' t',Hp B h' ((cpC (wv b w).params e it x y fr tp sp x k1 k2 k3 k4 k5 k6 .none j old ex n).drop 2)→R (.ok .next) ⟨h',g,d,t',os⟩) :
  codeAny (model prg (wv b w)) (AF 420 none) (lpAtC (wv b w).params 261 fr [(Str.ofString "curdir",ca),(Str.ofString "sep",cb)] 3 [6] (.ref e)) R ⟨h,g,d,t,os⟩:=by
 refine' go_code ?_
 (refine' run_T KX RX H 4000 ⟨[3],4⟩ rfl [.c 0,.e,.c 0,.q,.c 0,.c 1,.v 0 (fun al=>rNextEnd RX 1 (.r 0)),.c 0] fun al=>end_R (r:=(.ok .next)) (cs:=((cpC (wv b w).params e it x y fr tp sp x k1 k2 k3 k4 k5 k6 .none j old ex n).drop 2)) (by kernel_rfl) rfl  ⟨(fun hF=>h1),trivial⟩ fun hp t hF H=>?_)
 exact x' _ _ H
end
noncomputable def cpl:List (Fin 3)→List (Fin 3)→List (Fin 3)
 | x :: xs, y :: ys => if x = y then x :: cpl xs ys else []
 | _, _ => []
theorem cpl_all:∀ {l1 l2:List (Fin 3)}{j:Nat},l1.take j=l2.take j→l1[j]?=none→cpl l1 l2=l1
 | [], _, _, _, _ => rfl
 | x :: xs, [], j, h, hn => by
   cases j with
   | zero => cases hn
   | succ j => cases h
 | x :: xs, y :: ys, j, h, hn => by
   cases j with
   | zero => cases hn
   | succ j =>
     obtain ⟨h1,h2⟩:=List.cons.inj h
     have ih:=cpl_all (l1:=xs) (l2:=ys) (j:=j) h2 hn
     rw [cpl,if_pos h1,ih]
theorem cpl_diff:∀ {l1 l2:List (Fin 3)}{j:Nat}{a b:Fin 3},l1.take j=l2.take j→l1[j]?=some a→l2[j]?=some b→a≠b→cpl l1 l2=l1.take j
 | [], _, j, _, _, _, h1, _, _ => by cases j <;> cases h1
 | _ :: _, [], j, _, _, _, _, h2, _ => by cases j <;> cases h2
 | x :: xs, y :: ys, j, a, b, h, h1, h2, hn => by
   cases j with
   | zero =>
     cases h1;cases h2
     rw [cpl,if_neg hn];rfl
   | succ j =>
     obtain ⟨h3,h4⟩:=List.cons.inj h
     have ih:=cpl_diff (l1:=xs) (l2:=ys) (j:=j) h4 h1 h2 hn
     rw [cpl,if_pos h3,ih];rfl
theorem ltM_pre:∀ {l1 l2:List (Fin 3)}{j:Nat}{a:Fin 3},ltM l2 l1=false→l1.take j=l2.take j→l1[j]?=some a→∃ b,l2[j]?=some b
 | [], _, j, _, _, _, h1 => by cases j <;> cases h1
 | x :: xs, [], _, _, h, _, _ => by cases h
 | x :: xs, y :: ys, j, a, h, h0, h1 => by
   cases j with
   | zero => exact ⟨y, rfl⟩
   | succ j =>
     obtain ⟨h3,h4⟩:=List.cons.inj h0
     have h:(if y=x then ltM ys xs else decide (y < x))=false:=h
     rw [if_pos h3.symm] at h
     exact ltM_pre (l1:=xs) (l2:=ys) (j:=j) h h4 h1
theorem lt_ne {a b:Fin 3}(h:a≠b):((lt a).cps.toList != (lt b).cps.toList)=true:=by revert a b;decide +kernel
theorem lt_eq (a:Fin 3):((lt a).cps.toList != (lt a).cps.toList)=false:=by revert a;decide +kernel
section
variable {b:Bool}{w:World}{g:Array GenState}{d:Drawn}{os:OsState}
theorem cp_loop0 {e it x y fr tp sp ca cb:Addr}{k1 k2 k3 k4 k5 k6 n:Nat}{X:List (Addr×Obj)}{l1 l2:List (Fin 3)}(hx:Sel X x l1) (hy:Sel X y l2) (h0:l1=[]) :
  Ct prg (wv b w) 420 none (KK (wv b w).params) g d os (lpAtC (wv b w).params 261 fr [(Str.ofString "curdir", ca), (Str.ofString "sep", cb)] 3 [6] (.ref e)) (cpC (wv b w).params e it x y fr tp sp x k1 k2 k3 k4 k5 k6 .none 0 .none [] n ++ X) (some fun u => Sel u.X u.n (cpl l1 l2))
    fun u=>(.ok .next,(cpC (wv b w).params e it x y fr tp sp u.n k1 k2 k3 k4 k5 k6 .none 0 .none [] u.n2).drop 2++u.X):=by
 obtain ⟨M1,n1,m1,rfl⟩:=hx
 obtain ⟨M2,n2,m2,rfl⟩:=hy
 refine ⟨fun B h t R KX hS H0 x'=>?_⟩
 have hn:=H0.nd
 rw [List.map_append,List.nodup_append] at hn
 have RX:=Rin.two (B:=B) hn.2.1 m1 m2
 have KX:Kin (KK (wv b w).params) (extB B X):=fun a o e=>extB_old H0 (KX a o e)
 obtain rfl:=List.map_eq_nil_iff.mp h0
 exact cp_end KX RX H0.in rfl fun h' t' H'=>x' { xd0 with n:=x,n2:=n,X:=X,t:=t' } h' ⟨⟨[],n1,m1,rfl⟩,trivial⟩ (H0.out H')
theorem cp_loop1 {e it x y fr tp sp ca cb:Addr}{k1 k2 k3 k4 k5 k6 n:Nat}{X:List (Addr×Obj)}{l1 l2:List (Fin 3)}(hx:Sel X x l1) (hy:Sel X y l2) (h0:l1≠[]) (hle:ltM l2 l1=false) (hl:l1.length≤3) :
  Ct prg (wv b w) 420 none (KK (wv b w).params) g d os (lpAtC (wv b w).params 261 fr [(Str.ofString "curdir", ca), (Str.ofString "sep", cb)] 3 [6] (.ref e)) (cpC (wv b w).params e it x y fr tp sp x k1 k2 k3 k4 k5 k6 .none 0 .none [] n ++ X) (some fun u => Sel u.X u.n (cpl l1 l2))
    fun u=>(.ok .next,(cpC (wv b w).params e it x y fr tp sp u.n k1 k2 k3 k4 k5 k6 .none 0 .none [ent (wv b w).params "i" u.n3 (.int (u.n4:Int) u.n5),ent (wv b w).params "c" u.n6 u.v] u.n2).drop 2++u.X):=by
 obtain ⟨M1,n1,m1,rfl⟩:=hx
 obtain ⟨M2,n2,m2,rfl⟩:=hy
 refine ⟨fun B h t R KX hS H0 x'=>?_⟩
 have hn:=H0.nd
 rw [List.map_append,List.nodup_append] at hn
 have RX:=Rin.two (B:=B) hn.2.1 m1 m2
 have KX:Kin (KK (wv b w).params) (extB B X):=fun a o e=>extB_old H0 (KX a o e)
 rw [List.length_map] at hl
 refine loopI (σ := Nat) (fun j => M1.length - j) (fun j h => ∃ old ex n, Hp (extB B X) h (cpC (wv b w).params e it x y fr tp sp x k1 k2 k3 k4 k5 k6 .none j old ex n) ∧ ((j = 0 ∧ old = .none ∧ ex = []) ∨ ∃ i0 : Nat, ∃ ti q0 ki kc, old = lv q0 ∧ ex = [ent (wv b w).params "i" ki (.int i0 ti), ent (wv b w).params "c" kc (lv q0)]) ∧ (lts M1).take j = (lts M2).take j)
   (fun j h t hi IH=>?_) (x:=0) ⟨.none,[],n,H0.in,.inl ⟨rfl,rfl,rfl⟩,rfl⟩
 obtain ⟨old,ex,n,H,hst,ht⟩:=hi
 rcases h1:M1[j]? with _ | q1
 · obtain ⟨i0, ti, q0, ki, kc, rfl, rfl⟩ := hst.resolve_left fun z => h0 (by
     obtain ⟨rfl,_⟩:=z
     cases M1 with
     | nil => rfl
     | cons a r => cases h1)
   exact cp_end KX RX H (by rw [List.getElem?_map,h1];rfl) fun h' t' H'=>x' { xd0 with n:=x,n3:=ki,n4:=i0,n5:=ti,n6:=kc,v:=lv q0,n2:=n,X:=X,t:=t' } h' ⟨⟨M1,n1,m1,(cpl_all ht (by rw [List.getElem?_map,h1];rfl)).symm⟩,trivial⟩ (H0.out H')
 · have hj : j < M1.length := (List.getElem?_eq_some_iff.mp h1).1
   have h1':(lts M1)[j]?=some q1.1:=by rw [List.getElem?_map,h1];rfl
   obtain ⟨b2,h2'⟩:=ltM_pre hle ht h1'
   obtain ⟨q2,h2,e2⟩:∃ q2,M2[j]?=some q2∧q2.1=b2:=by
     rw [List.getElem?_map] at h2'
     cases hq:M2[j]? with
     | none => rw [hq] at h2'; cases h2'
     | some q2 => rw [hq] at h2'; exact ⟨q2, rfl, Option.some.inj h2'⟩
   subst e2
   have hv1:(M1.map lv)[j]?=some (lv q1):=by rw [List.getElem?_map,h1];rfl
   have hv2:(M2.map lv)[j]?=some (lv q2)∧j≤1000:=⟨by rw [List.getElem?_map,h2];rfl,by omega⟩
   have hst:(old=.none∧ex=[])∨∃ i0 ti q0 ki kc,old=lv q0∧ex=[ent (wv b w).params "i" ki (.int i0 ti),ent (wv b w).params "c" kc (lv q0)]:=hst.imp (·.2) fun ⟨i0,r⟩=>⟨i0,r⟩
   by_cases hq:q1.1=q2.1
   · refine cp_turn KX RX H hst hv1 hv2 (by rw [hq]; exact lt_eq _) fun h' t' ki kc ti n' H => IH (j + 1) h' t' (by omega) ⟨_, _, n', H, .inr ⟨j, ti, q1, ki, kc, rfl, rfl⟩, ?_⟩
     rw [List.take_add_one,List.take_add_one,ht,h1',h2',hq]
   · refine cp_diff KX RX H hst hv1 hv2 (lt_ne hq) ?_ (by rw [List.length_map]; omega) fun h' t' c ki ti kc n' H' => x' { xd0 with n := c, n3 := ki, n4 := j, n5 := ti, n6 := kc, v := lv q1, n2 := n', X := (c, lst ((M1.take j).map lv) 0) :: X, t := t' } h' ⟨⟨M1.take j, 0, .head _, ?_⟩, trivial⟩ ((H0.out H').perm ?_)
     · rw [List.map_take];exact slicePick_upto _ _ (by rw [List.size_toArray,List.length_map];omega)
     · show (M1.take j).map (·.1)=_;rw [List.map_take];exact (cpl_diff ht h1' h2' hq).symm
     · exact List.perm_middle
end
theorem mm_c:∀ a b:List (Fin 3),ltM (maxL a b) (minL a b)=false∧cpl (minL a b) (maxL a b)=cpl a b
 | [], [] => ⟨rfl, rfl⟩
 | [], _ :: _ => ⟨rfl, rfl⟩
 | _ :: _, [] => ⟨rfl, rfl⟩
 | x :: xs, y :: ys => by
   obtain ⟨h1,h2⟩:=mm_c xs ys
   by_cases e:x=y
   · subst e
     have c1:ltM (x :: xs) (x :: ys)=ltM xs ys:=if_pos rfl
     have c2:ltM (x :: ys) (x :: xs)=ltM ys xs:=if_pos rfl
     have e1:minL (x :: xs) (x :: ys)=x :: minL xs ys:=by
       unfold minL
       rw [c2]
       split <;> rfl
     have e2:maxL (x :: xs) (x :: ys)=x :: maxL xs ys:=by
       unfold maxL
       rw [c1]
       split <;> rfl
     rw [e1,e2]
     refine ⟨(if_pos rfl).trans h1,?_⟩
     rw [cpl,cpl,if_pos rfl,if_pos rfl,h2]
   · have e' : ¬ y = x := fun z => e z.symm
     have c1:ltM (x :: xs) (y :: ys)=decide (x < y):=if_neg e
     have c2:ltM (y :: ys) (x :: xs)=decide (y < x):=if_neg e'
     unfold minL maxL
     rw [c1,c2]
     by_cases h:x < y
     · have h' : ¬ y < x := fun z => by have := Fin.lt_def.mp h; have := Fin.lt_def.mp z; omega
       rw [if_pos (decide_eq_true h),if_neg (by rw [decide_eq_false h'];exact Bool.false_ne_true)]
       exact ⟨by rw [c2];exact decide_eq_false h',rfl⟩
     · have h' : y < x := by have h0 : x.val ≠ y.val := fun z => e (Fin.ext z); have h1 : ¬ x.val < y.val := h; exact Fin.lt_def.mpr (by omega)
       rw [if_neg (by rw [decide_eq_false h];exact Bool.false_ne_true),if_pos (decide_eq_true h')]
       exact ⟨by rw [c1];exact decide_eq_false h,by rw [cpl,cpl,if_neg e,if_neg e']⟩
theorem nmf_len (p:Pt):(nmf p).length≤3:=by cases p <;> exact Nat.le_of_ble_eq_true rfl
theorem minL_len {a b:List (Fin 3)}(h1:a.length≤3) (h2:b.length≤3):(minL a b).length≤3:=by
 unfold minL;split <;> assumption
theorem cpl_len:∀ {a b:List (Fin 3)}{n:Nat},a.length≤n→(cpl a b).length≤n
 | [], _, _, _ => Nat.zero_le _
 | _ :: _, [], _, _ => Nat.zero_le _
 | x :: xs, y :: ys, n, h => by
   rw [cpl]
   split
   · cases n with
     | zero => exact absurd h (by simp)
     | succ n => exact Nat.succ_le_succ (cpl_len (Nat.le_of_succ_le_succ h))
   · exact Nat.zero_le _
noncomputable def unm:List (Fin 3)→Pt
 | [] => .r
 | [i] => .a i
 | [i, j] => .b i j
 | i :: j :: k :: _ => .c i j k
noncomputable def cpt (p q:Pt):Pt:=unm (cpl (nmf p) (nmf q))
theorem unm_sp (l:List (Fin 3)) (h:l.length≤3):(⟨#[47]⟩:Str)++glu l=sp (unm l):=by
 rcases l with _ | ⟨i,_ | ⟨j,_ | ⟨k,_ | ⟨e,r⟩⟩⟩⟩
 · decide +kernel
 · revert i;decide +kernel
 · revert i j;decide +kernel
 · revert i j k;decide +kernel
 · exact absurd h (by simp)
theorem cp_add {p q:Pt}{x:Str}(e:x=glu (cpl (minL (nmf p) (nmf q)) (maxL (nmf p) (nmf q)))):(⟨#[47]⟩:Str)++x=sp (cpt p q)∧((⟨#[47]⟩:Str)++x).length≤sizeLine:=by
 subst e
 rw [(mm_c _ _).2,unm_sp _ (cpl_len (nmf_len p))]
 exact ⟨rfl,sp_le _⟩
section
variable {b:Bool}{w:World}{g:Array GenState}{d:Drawn}{os:OsState}
theorem cp {q:Addr}{n:Nat}(p1 p2:PT):Ct prg (wv b w) 400 none (KK (wv b w).params) g d os (.call (.ref 261) ⟨[.ref q],[]⟩) [(q,lst [pv p1,pv p2] n)] none
    fun u=>(.ok (.ret (.str (sp (cpt p1.1 p2.1)) u.n)),[(q,lst [pv p1,pv p2] n)]):=by
 refine ⟨fun B h t R KX hS H x=>?_⟩
 by_cases h0:minL (nmf p1.1) (nmf p2.1)=[]
 · refine' go_ent KX H rfl ?_
   (refine' run_T2 KX Rin.nil H 4000 ⟨[3],15⟩ rfl [.k,.b 0,.b 1,.b 2,.c 2,.f 2,.k,.k,.k,.k,.k,.k,.c 2,.v 3 (fun al=>rMap Rin.nil (.c 3)),.v 4 (fun al=>rTupM KX hS [0,0,0,3] p1 p2),.c 5,.f 5,.c 5,.c 0,.c 0,.e,.c 0,.e,.c 0,.q,.c 0,.k,.k,.c 5,.c 0,.c 0,.c 0,.e,.c 0,.q,.c 0,.k,.k,.e,.q,.q,.e,.q,.e,.q,.q,.c 4,.f 4,.c 3,.f 3,.c 5,.c 0,.c 0,.e,.c 0,.q,.b 5,.c 0,.b 6,.b 7,.v 8 (fun al=>rC KX hS [2,2,1,0,3] 4 false (True) (fun _=>cs1 (fr:=(al 0).n) (cf:=(al 7).n) (it:=(al 5).n) (acc:=(al 6).n) (r:=(al 4).n) (sc:=(al 1).n) (n6:=0) (n7:=0) (k:=(al 4).t + 1 + 1 + 1 + 1 + 1) p1 p2)),.c 3,.f 3,.c 8,.c 8,.f 8,.c 3,.c 6,.c 6,.e,.c 6,.q,.b 9,.c 0,.b 10,.b 11,.v 12 (fun al=>rC KX hS [2,8,1,0,8] 8 false (True) (fun _=>cs2 (fr:=(al 0).n) (cf:=(al 11).n) (it:=(al 9).n) (acc:=(al 10).n) (r:=(al 4).n) (sc:=(al 1).n) (n7:=0) (k:=(al 4).t + 1 + 1 + 1 + 1 + 1) (led:=!w.params.followText "set-order") p1 p2)),.c 10,.c 10,.f 10,.c 9,.c 9,.c 9,.v 13 (fun al=>rSiter 9 ((!w.params.followText "set-order"))),.c 0,.c 0,.v 14 (fun al=>rSinext1 0 10 (!w.params.followText "set-order")),.c 0,.v 15 (fun al=>rSinext2 0 10 (!w.params.followText "set-order")),.c 0,.c 5,.f 5,.c 5,.c 8,.c 8,.e,.c 8,.q,.b 16,.c 0,.b 17,.b 18,.v 19 (fun al=>rC KX hS [2,10,9,8,1,0,4] 10 true (True) (fun _=>cs3 (fr:=(al 0).n) (cf:=(al 18).n) (it:=(al 16).n) (q:=(al 6).n) (acc:=(al 17).n) (sc:=(al 2).n) (l1:=(al 8).n) (l2:=(al 8).n3) (nq:=(al 8).n5) (n6:=0) (n7:=0) (k:=(al 4).t + 1 + 1 + 1 + 1 + 1 + 1) (m1:=(al 8).n2) (m2:=(al 8).n4) p1.1 p2.1)),.c 4,.f 4,.c 12,.c 12,.f 12,.k,.k,.c 4,.v 20 (fun al=>rMin (q:=(al 17).n) (V:=(al 19).V) (n:=(al 19).n) (X:=(al 19).X) 11 15 p1.1 p2.1),.c 4,.f 4,.k,.k,.c 4,.v 21 (fun al=>rMax (q:=(al 17).n) (V:=(al 19).V) (n:=(al 19).n) (X:=(al 19).X) 11 15 p1.1 p2.1),.c 4,.f 4,.c 4,.c 4,.f 4,.k,.k,.c 4,.v 22 (fun al=>rEnum (q:=(al 20).n) (X:=(al 19).X) 15 (minL (nmf p1.1) (nmf p2.1))),.c 0,.c 0,.v 23 (fun al=>rEiter (v:=Value.none) (it:=(al 22).n2) (j:=0) (old:=Value.none) 0),.c 0,.v 24 (fun al=>rC KX hS [0,0,4] 14 true (Sel (al 19).X (al 20).n (minL (nmf p1.1) (nmf p2.1))∧Sel (al 19).X (al 21).n (maxL (nmf p1.1) (nmf p2.1))) (fun hp=>cp_loop0 (e:=(al 22).n) (it:=(al 22).n2) (x:=(al 20).n) (y:=(al 21).n) (fr:=(al 0).n) (tp:=(al 4).n) (sp:=(al 17).n) (ca:=(al 2).n) (cb:=(al 1).n) (k1:=t) (k2:=(al 8).t) (k3:=(al 15).n2) (k4:=(al 20).n2) (k5:=(al 21).n2) (k6:=(al 21).n2 + 1) (n:=0 + 1 + 1 + 1 + 1 + 1 + 1) (X:=(al 19).X) hp.1 hp.2 h0)),.c 14,.c 8,.c 14,.f 14,.c 14,.c 8,.c 14,.v 25 (fun al=>rJoin (q:=(al 24).n) (t:=(al 4).t + 1 + 1 + 1 + 1 + 1) (X:=(al 24).X) 15 (cpl (minL (nmf p1.1) (nmf p2.1)) (maxL (nmf p1.1) (nmf p2.1)))),.v 26 (fun al=>rAdd (sp (cpt p1.1 p2.1)))] fun al=>end_R2 (r:=(.ok (.ret (.str (sp (cpt p1.1 p2.1)) _)))) (cs:=([(q,lst [pv p1,pv p2] n)]++_)) (by kernel_rfl) (by kernel_rfl) rfl (by kernel_rfl) ⟨(fun hF=>cp_add rfl),(fun hF=>⟨hF.1,cpl_len (minL_len (nmf_len _) (nmf_len _))⟩),(fun hF=>⟨hF.2.1,hF.1⟩),(fun hF=>(by first | trivial | assumption | exact rfl | exact ⟨rfl,rfl⟩)),(fun hF=>hF.2.1),(fun hF=>hF.2.1),(fun hF=>hF.1),(fun hF=>trivial),(fun hF=>rfl),(fun hF=>rfl),(fun hF=>(by first | trivial | assumption | exact rfl | exact ⟨rfl,rfl⟩)),(fun hF=>trivial),(fun hF=>trivial),(fun hF=>(by first | trivial | assumption | exact rfl | exact ⟨rfl,rfl⟩)),(fun hF=>trivial),trivial⟩ fun hp t hF H=>?_)
   exact x { xd0 with n:=_,t:=_ } _ trivial (H.sub (List.sublist_append_left _ _))
 · refine' go_ent KX H rfl ?_
   (refine' run_T2 KX Rin.nil H 4000 ⟨[3],15⟩ rfl [.k,.b 0,.b 1,.b 2,.c 2,.f 2,.k,.k,.k,.k,.k,.k,.c 2,.v 3 (fun al=>rMap Rin.nil (.c 3)),.v 4 (fun al=>rTupM KX hS [0,0,0,3] p1 p2),.c 5,.f 5,.c 5,.c 0,.c 0,.e,.c 0,.e,.c 0,.q,.c 0,.k,.k,.c 5,.c 0,.c 0,.c 0,.e,.c 0,.q,.c 0,.k,.k,.e,.q,.q,.e,.q,.e,.q,.q,.c 4,.f 4,.c 3,.f 3,.c 5,.c 0,.c 0,.e,.c 0,.q,.b 5,.c 0,.b 6,.b 7,.v 8 (fun al=>rC KX hS [2,2,1,0,3] 4 false (True) (fun _=>cs1 (fr:=(al 0).n) (cf:=(al 7).n) (it:=(al 5).n) (acc:=(al 6).n) (r:=(al 4).n) (sc:=(al 1).n) (n6:=0) (n7:=0) (k:=(al 4).t + 1 + 1 + 1 + 1 + 1) p1 p2)),.c 3,.f 3,.c 8,.c 8,.f 8,.c 3,.c 6,.c 6,.e,.c 6,.q,.b 9,.c 0,.b 10,.b 11,.v 12 (fun al=>rC KX hS [2,8,1,0,8] 8 false (True) (fun _=>cs2 (fr:=(al 0).n) (cf:=(al 11).n) (it:=(al 9).n) (acc:=(al 10).n) (r:=(al 4).n) (sc:=(al 1).n) (n7:=0) (k:=(al 4).t + 1 + 1 + 1 + 1 + 1) (led:=!w.params.followText "set-order") p1 p2)),.c 10,.c 10,.f 10,.c 9,.c 9,.c 9,.v 13 (fun al=>rSiter 9 ((!w.params.followText "set-order"))),.c 0,.c 0,.v 14 (fun al=>rSinext1 0 10 (!w.params.followText "set-order")),.c 0,.v 15 (fun al=>rSinext2 0 10 (!w.params.followText "set-order")),.c 0,.c 5,.f 5,.c 5,.c 8,.c 8,.e,.c 8,.q,.b 16,.c 0,.b 17,.b 18,.v 19 (fun al=>rC KX hS [2,10,9,8,1,0,4] 10 true (True) (fun _=>cs3 (fr:=(al 0).n) (cf:=(al 18).n) (it:=(al 16).n) (q:=(al 6).n) (acc:=(al 17).n) (sc:=(al 2).n) (l1:=(al 8).n) (l2:=(al 8).n3) (nq:=(al 8).n5) (n6:=0) (n7:=0) (k:=(al 4).t + 1 + 1 + 1 + 1 + 1 + 1) (m1:=(al 8).n2) (m2:=(al 8).n4) p1.1 p2.1)),.c 4,.f 4,.c 12,.c 12,.f 12,.k,.k,.c 4,.v 20 (fun al=>rMin (q:=(al 17).n) (V:=(al 19).V) (n:=(al 19).n) (X:=(al 19).X) 11 15 p1.1 p2.1),.c 4,.f 4,.k,.k,.c 4,.v 21 (fun al=>rMax (q:=(al 17).n) (V:=(al 19).V) (n:=(al 19).n) (X:=(al 19).X) 11 15 p1.1 p2.1),.c 4,.f 4,.c 4,.c 4,.f 4,.k,.k,.c 4,.v 22 (fun al=>rEnum (q:=(al 20).n) (X:=(al 19).X) 15 (minL (nmf p1.1) (nmf p2.1))),.c 0,.c 0,.v 23 (fun al=>rEiter (v:=Value.none) (it:=(al 22).n2) (j:=0) (old:=Value.none) 0),.c 0,.v 24 (fun al=>rC KX hS [0,0,4] 14 true (Sel (al 19).X (al 20).n (minL (nmf p1.1) (nmf p2.1))∧Sel (al 19).X (al 21).n (maxL (nmf p1.1) (nmf p2.1))) (fun hp=>cp_loop1 (e:=(al 22).n) (it:=(al 22).n2) (x:=(al 20).n) (y:=(al 21).n) (fr:=(al 0).n) (tp:=(al 4).n) (sp:=(al 17).n) (ca:=(al 2).n) (cb:=(al 1).n) (k1:=t) (k2:=(al 8).t) (k3:=(al 15).n2) (k4:=(al 20).n2) (k5:=(al 21).n2) (k6:=(al 21).n2 + 1) (n:=0 + 1 + 1 + 1 + 1 + 1 + 1) (X:=(al 19).X) hp.1 hp.2 h0 (mm_c _ _).1 (minL_len (nmf_len p1.1) (nmf_len p2.1)))),.c 14,.c 8,.c 14,.c 14,.c 14,.c 8,.c 14,.v 25 (fun al=>rJoin (q:=(al 24).n) (t:=(al 4).t + 1 + 1 + 1 + 1 + 1) (X:=(al 24).X) 15 (cpl (minL (nmf p1.1) (nmf p2.1)) (maxL (nmf p1.1) (nmf p2.1)))),.v 26 (fun al=>rAdd (sp (cpt p1.1 p2.1)))] fun al=>end_R2 (r:=(.ok (.ret (.str (sp (cpt p1.1 p2.1)) _)))) (cs:=([(q,lst [pv p1,pv p2] n)]++_)) (by kernel_rfl) (by kernel_rfl) rfl (by kernel_rfl) ⟨(fun hF=>cp_add rfl),(fun hF=>⟨hF.1,cpl_len (minL_len (nmf_len _) (nmf_len _))⟩),(fun hF=>⟨hF.2.1,hF.1⟩),(fun hF=>(by first | trivial | assumption | exact rfl | exact ⟨rfl,rfl⟩)),(fun hF=>hF.2.1),(fun hF=>hF.2.1),(fun hF=>hF.1),(fun hF=>trivial),(fun hF=>rfl),(fun hF=>rfl),(fun hF=>(by first | trivial | assumption | exact rfl | exact ⟨rfl,rfl⟩)),(fun hF=>trivial),(fun hF=>trivial),(fun hF=>(by first | trivial | assumption | exact rfl | exact ⟨rfl,rfl⟩)),(fun hF=>trivial),trivial⟩ fun hp t hF H=>?_)
   exact x { xd0 with n:=_,t:=_ } _ trivial (H.sub (List.sublist_append_left _ _))
end
section
variable {prog:Program}{w:World}{A:Around}{R:Result→Shared→Prop}{B:Addr→Option Obj}{g:Array GenState}{d:Drawn}{os:OsState}{rs:List (Addr×Obj)}
noncomputable def rN (id':String) (n:Nat) (hn:PySem.code id'=n) (side:List Kt→Code→Option Unit) (rs:List (Addr×Obj)) (args:List Value) (ls:List Lc) (use:List (Addr×Obj)) (P:Prop) (fact:Option (Xd→Prop)) (post:List (Addr×Obj)→Xd→Result×List (Addr×Obj)×Nat)
   (ok:∀ l c cs u,side l c=some u→lkA rs cs ls=some use→P→CallR prog w A R B g d os l c (.call (.builtin id') ⟨args,[]⟩) cs fact (post cs)):Rul prog w A R B g d os :=
 rF .b n side rs ls (fun _ _ _ => some ()) (fun _ cs => ⟨args, use, P, fact, post cs⟩) fun _ _ l c cs u hid hs hl hp => by
   obtain rfl:=id_is id' hid hn
   exact ok l c cs u hs hl hp
noncomputable def rLadd {q1 q2:Addr}{vs1 vs2:List Value}{n1 n2:Nat}(RX:Rin rs B) (l1 l2:Lc):Rul prog w A R B g d os :=
 rN "list.__add__" 29827096650756823847613524589 (by decide +kernel) anyS rs [.ref q1,.ref q2] [l1,l2] [(q1,lst vs1 n1),(q2,lst vs2 n2)] (vs1.length≤1000∧vs2.length≤1000) none (fun cs u=>(.ok (.ret (.ref u.n)),(u.n,lst (vs1++vs2) 0) :: cs,u.n2)) fun l c cs _ _ hl hp=>⟨fun _ _ _ h' i' H y=>by
 have h1:=lk_ok RX (lkA_cons hl).1 H
 have h2:=lk_ok RX (lkA_cons (lkA_cons hl).2).1 H
 have z:=y (xd h'.objs.size i') _ trivial (H.push (o:=lst (vs1++vs2) 0) rfl)
 rw [lst_eq] at h1 h2 z
 rw [← List.append_toArray] at z
 exact ct_meets F.slot_list_add ⟨_,h1,rfl⟩ F.entry_list_add (F.args_list_add_2 _ _) (list_addW q1 q2 vs1.toArray vs2.toArray n1 n2 none none #[] #[] (by rw [List.size_toArray,List.size_toArray,sizeLine];omega)) rfl ⟨h1,h2,z⟩⟩
end
noncomputable def rgO (n:Int) (t0 t t1:Tok):Obj:=⟨.type sRange,none,.fields #[.int 0 t0,.int n t,.int 1 t1],#[]⟩
noncomputable def riO (x left:Nat):Obj:=⟨.type sRI,none,.fields #[.int (x:Int) 0,.int (left:Int) 0,.int 1 0],#[]⟩
theorem sub_range:isSubtype (.type "range") (.type "range")=pure true:=by rw [isSubtype_type];kernel_rfl
theorem meets_rend (it:Addr) (x:Int):Meets (Builtin.«range_iterator.__next__» ⟨[.ref it],[]⟩) (fun A R s=>A.handled=none∧IsRangeIter s.heap it x 0 1 ∧
   ∀ h',Keeps s.heap h'→∀ e,s.heap.get? e=none→(∃ o,h'.get? e=some o∧o.cls=.type "StopIteration")→R (.error (.ref e)) { s with heap:=h' }):=fun prog w A R s h=>by
 obtain ⟨hh,hit,h⟩:=h
 show wpAny _ _ (field (.ref it) 0 >>= _) _ _ s
 refine wpAny_bind (wpAny_field hit rfl (x:=rawInt x) rfl ?_)
 show wpAny _ _ (field (.ref it) 1 >>= _) _ _ s
 refine wpAny_bind (wpAny_field hit rfl (x:=rawInt 0) rfl ?_)
 show wpAny _ _ (field (.ref it) 2 >>= _) _ _ s
 refine wpAny_bind (wpAny_field hit rfl (x:=rawInt 1) rfl ?_)
 show wpAny _ _ (if (0:Int)≤0 then _ else _) _ _ s
 rw [if_pos (Int.le_refl 0)]
 refine wpAny_bind (wpAny_rule ?_)
 refine wpAny_bind ?_
 show wpAny _ _ (newExc (.type "StopIteration") [] >>= _) _ _ _
 refine wpAny_bind ?_
 simp only [newExc,newTuple]
 refine wpAny_bind (wpAny_newObj_type ?_ (by size_fits))
 refine wpAny_bind (m:=firstArgMember _ _) (wpAny_of_eq (a:=Value.none) (by first | rfl | (simp only [firstArgMember];rfl)) ?_)
 refine wpAny_newObj_type ?_ (by size_fits)
 simp only [raiseNew]
 refine wpAny_bind (wpAny_handled ?_)
 rw [show A.in1.handled=none from hh]
 refine wpAny_bind (wpAny_pure (wpAny_throw ?_))
 refine h _ (fun b o e=>Heap.get?_push_of_some _ (Heap.get?_push_of_some _ e)) _ (Heap.get?_none_of_le (by simp [Heap.push])) ⟨_,Heap.get?_push_size _ rfl,rfl⟩
section
variable {prog:Program}{w:World}{A:Around}{R:Result→Shared→Prop}{B:Addr→Option Obj}{g:Array GenState}{d:Drawn}{t:Nat}{os:OsState}{rs:List (Addr×Obj)}
noncomputable def rRange {n:Int}{t:Tok}:Rul prog w A R B g d os :=
 rG anyS [] (.call (.type sRange) ⟨[.int n t],[]⟩) [] [] (fun _=>True) (fun _=>none) (fun cs u=>(.ok (.ret (.ref u.n)),(u.n,rgO n u.n2 t u.n3) :: cs,u.n4)) fun l c cs _ _ _ _=>⟨fun _ _ _ h' i' H y=>by
 have H2:=H.push (o:=rgO n i' t (i' + 1)) rfl
 have z:=y { xd h'.objs.size i' with n3:=i' + 1,n4:=i' + 1 + 1 } _ trivial H2
 have hm:=H2.own _ (.head _)
 unfold rgO at z hm
 rw [sRange_eq] at z hm ⊢
 exact go_callW (callType_new F.called_range (by decide) (F.typeCall_range_1 _) (F.newCall_range_1 _) (fun obj=>F.initArgs_range_1 obj _) F.entry_range_new (AutoRange.range___new___type_int_0 n t sub_range) ⟨⟨_,hm,rfl⟩,z⟩)⟩
noncomputable def rRiter {r:Addr}{n:Int}{t0 t t1:Tok}(i m:Nat):Rul prog w A R B g d os :=
 rN "range.__iter__" 1954752940192971970453299505619571 (by decide +kernel) anyS [] [.ref r] [.c i] [(r,rgO n t0 t t1)] (n=(m:Int)∧m≤1000) none (fun cs u=>(.ok (.ret (.ref u.n)),(u.n,riO 0 m) :: cs,u.n2)) fun l c cs _ _ hl hp=>⟨fun _ _ _ h' i' H y=>by
 obtain ⟨rfl,hm⟩:=hp
 have hr:=lk_ok Rin.nil (lkA_cons hl).1 H
 have z:=y (xd h'.objs.size i') _ trivial (H.push (o:=riO 0 m) rfl)
 unfold rgO at hr
 unfold riO at z
 rw [sRange_eq] at hr
 rw [sRI_eq] at z
 have hs:Builtin.Range.small 0 (m:Int) 1=true:=small_one (by omega) (by omega) (by omega) (by omega)
 have e:Builtin.Range.rangeSize 0 (m:Int) 1=(m:Int):=by rw [rangeSize_one];split <;> omega
 refine ct_meets F.slot_range_iter ⟨_,hr,rfl⟩ F.entry_range_iter (F.args_range_iter_1 _) (AutoRange.range___iter___range_1 r 0 m 1 t0 t t1 (by unfold Builtin.Range.small at hs;rw [hs];decide)) rfl ⟨hr,?_⟩
 unfold Builtin.Range.small at hs
 rw [hs,e]
 exact z⟩
noncomputable def rRnext {it:Addr}{x m:Nat}(i:Nat):Rul prog w A R B g d os :=
 rN "range_iterator.__next__" 9231062798198206674541908477283886571094360729114862195 (by decide +kernel) anyS [] [.ref it] [.c i] [(it,riO x m)] (0 < m) none (fun cs u=>(.ok (.ret (.int (x:Int) u.n)),putAt i cs (riO (x + 1) (m - 1)),u.n2)) fun l c cs _ _ hl hp=>⟨fun _ _ _ h' i' H y=>by
 have h1:=(lkA_cons hl).1
 have hr:=lk_ok Rin.nil h1 H
 have z:=fun h2 H2=>y (xd i' (i' + 1)) h2 trivial H2
 unfold riO at hr
 rw [sRI_eq] at hr
 refine ct_meets F.slot_range_iterator_next ⟨_,hr,rfl⟩ F.entry_range_iterator_next (F.args_range_iterator_next_1 _) (AutoRange.range_iterator___next___range_iterator_1 it x m 1 (by omega)) rfl ⟨hr,?_⟩
 refine z _ (H.but h1 ((Heap.SameBut.update ..).trans (Heap.SameBut.update ..)) ?_)
 refine (Heap.get?_update_self _ (Heap.get?_update_self _ hr rfl) rfl).trans ?_
 unfold riO
 rw [sRI_eq,show ((x + 1:Nat):Int)=(x:Int) + 1 from rfl,show ((m - 1:Nat):Int)=(m:Int) - 1 by omega]
 rfl⟩
noncomputable def rRend {it:Addr}{x:Nat}(i:Nat):Rul prog w A R B g d os :=
 rN "range_iterator.__next__" 9231062798198206674541908477283886571094360729114862195 (by decide +kernel) (noH A) [] [.ref it] [.c i] [(it,riO x 0)] True none (fun cs u=>(.error (.ref u.n),(u.n,⟨.type sStop,u.d,u.D,u.s⟩) :: cs,u.n2)) fun l c cs _ hs hl hp=>⟨fun _ _ _ h' i' H y=>by
 have hr:=lk_ok Rin.nil (lkA_cons hl).1 H
 unfold riO at hr
 rw [sRI_eq] at hr
 refine ct_meets F.slot_range_iterator_next ⟨_,hr,rfl⟩ F.entry_range_iterator_next (F.args_range_iterator_next_1 _) (meets_rend it x) rfl ⟨noH_ok hs,hr,?_⟩
 rintro h2 hk e' hnew ⟨⟨c1,d1,d2,d3⟩,he',hcl⟩
 dsimp only at hcl
 rw [← sStop_eq] at hcl
 subst hcl
 refine y { xd e' i' with d:=d1,s:=d3,D:=d2 } h2 trivial (H.new (new:=[(e',⟨.type sStop,d1,d2,d3⟩)]) ⟨hk,fun p hp=>?_,fun p hp=>?_,by simp⟩)
 · obtain rfl := List.mem_singleton.mp hp
   exact he'
 · obtain rfl := List.mem_singleton.mp hp
   exact hnew⟩
noncomputable def rChr {x:Str}{i:Int}{t1 t2:Tok}(j c:Nat):Rul prog w A R B g d os :=
 rN "str.__getitem__" 500416356548588640944365259017385332 (by decide +kernel) anyS [] [.str x t1,.int i t2] [] [] (i=(j:Int)∧j≤1000∧(seqIndex? (j:Int) x.length).bind (x.cps[·]?)=some c) none (fun cs u=>(.ok (.ret (.str ⟨#[c]⟩ u.n)),cs,u.n2)) fun l _ cs _ _ hl hp=>⟨fun _ _ _ h' i' H y=>by
 obtain ⟨rfl,hj,hx⟩:=hp
 exact go_callW (call_gives F.slot_str_getitem (typeIs_str _ _ _) F.entry_str_getitem (F.args_str_getitem_2 _ _) (gives_str_getitem x j t1 t2 c (by simp;omega) hx) ⟨(by show 1≤sizeLine;decide),y (xd i' (i' + 1)) _ trivial H⟩)⟩
noncomputable def rPow {a b:Int}{t1 t2:Tok}:Rul prog w A R B g d os :=
 rN "int.__pow__" 116512447577011902704086890 (by decide +kernel) anyS [] [.int a t1,.int b t2] [] [] (b ≥ 0∧¬(b == 0)=true∧¬(a == 0 || a == 1)=true∧¬(a == -1)=true∧¬Builtin.Int.intTooBig (((Builtin.Int.intBits a:Nat):Int) * b)=true) none (fun cs u=>(.ok (.ret (.int (a ^ b.toNat) u.n)),cs,u.n2)) fun l _ cs _ _ _ hp=>⟨fun _ _ _ h' i' H y =>
 go_callW (call_gives F.slot_int_pow (typeIs_int _ _ _) F.entry_int_pow (F.args_int_pow_2 _ _) (AutoIntG2.int___pow___int_int_4 a t1 b t2 hp.1 hp.2.1 hp.2.2.1 hp.2.2.2.1 hp.2.2.2.2) (y (xd i' (i' + 1)) _ trivial H))⟩
variable {h:Heap}{cs:List (Addr×Obj)}{elt target iter:Expr}{ifs:List Expr}{rest:List Comprehension}{scope:Scope}{pos:PySem.Pos}{it:Addr}{acc:Value}{env:Env}
theorem comp_rng {x m:Nat}(H:Hp B h cs) (k:Nat) (e:pick k cs=some (it,riO x m))
   (h0:codeAny (model prog w) A (.compLoop (.ListComp elt (⟨target,iter,ifs,0⟩ :: rest) scope pos) 0 (.ref it) acc env) R ⟨h,g,d,t,os⟩) :
   codeAny (model prog w) A (.compStart (.ListComp elt (⟨target,iter,ifs,0⟩ :: rest) scope pos) 0 (.ref it) acc env) R ⟨h,g,d,t,os⟩:=by
 have hit:=own_pick e H
 unfold riO at hit
 rw [sRI_eq] at hit
 exact codeAny_compStart_list h0 (wpAny_pyIter_rangeiter (x:=x) (left:=m) (step:=1) hit h0)
end
noncomputable abbrev sColl:String:=PySem.W.SZ.s14938210572253517480x13
theorem sColl_eq:sColl="proto.collect":=id_is "proto.collect" (n:=PySem.code "proto.collect") (by decide +kernel) rfl
section
variable {prog:Program}{w:World}{A:Around}{R:Result→Shared→Prop}{B:Addr→Option Obj}{g:Array GenState}{d:Drawn}{t:Nat}{os:OsState}{rs:List (Addr×Obj)}
noncomputable def rIne (r:Bool):Rul prog w A R B g d os:=rIcmp 455125451010842570354538 F.slot_int_ne F.entry_int_ne (F.args_int_ne_2) gives_int_ne (by decide +kernel) r
noncomputable def rCollL {q:Addr}{vs:List Value}{n:Nat}(RX:Rin rs B) (lc:Lc):Rul prog w A R B g d os :=
 rG anyS rs (.builtin sColl ⟨[.ref q], []⟩) [lc] [(q, lst vs n)] (fun _ => vs.length ≤ 1000) (fun _ => none) (fun cs u => (.ok (.ret (.ref u.n)), (u.n, lst vs u.n2) :: cs, u.t)) fun l c cs _ _ hl hp => ⟨fun _ _ _ h i H y => by
   have ho:=lk_ok RX (lkA_cons hl).1 H
   rw [lst_eq] at ho
   have H1:=H.push (o:=lst [] 0) rfl
   obtain ⟨n',e⟩:=mapSeq_lst (f:=(·++vs.toArray)) (vs:=[]) (vs':=vs) (n:=0) (by simp)
   have H2:=Hp.put (pre:=[]) (f:=Obj.mapSeq (·++vs.toArray)) H1 (by rw [e];rfl)
   rw [e] at H2
   rw [lst_eq] at H1 H2
   have ho':=Heap.get?_push_of_some (seqObj "list" #[] 0) ho
   have hn:(h.push (seqObj "list" #[] 0)).get? h.objs.size=some (seqObj "list" #[] 0):=Heap.get?_push_size _ rfl
   have hne:h.objs.size≠q:=fun e=>Nat.lt_irrefl _ (e ▸ Heap.lt_size ho)
   rw [sColl_eq]
   refine go_call (by intro x;cases x) (codeAny_builtin entry_proto_collect' ?_)
   refine wpAny_bind (m:=newList []) ?_
   refine wpAny_newList (hsz:=Nat.zero_le _) ?_
   refine wpAny_pure ⟨Code.quiet_builtin _ (by decide +kernel),codeAny_builtin entry_list_iadd' ?_⟩
   show wpAny _ _ (Builtin.List.listExtendWith (.ref h.objs.size) (.ref q) (.ref h.objs.size)) _ _ ⟨h.push (seqObj "list" #[] 0),g,d,i,os⟩
   unfold Builtin.List.listExtendWith
   refine wpAny_bind (wpAny_typeOf (T:="list") ⟨_,ho',rfl⟩ ?_)
   rw [if_pos (by rw [show (Value.type "list" == Value.type "list")=true from by rfl];simp)]
   refine wpAny_bind (listItems_at ho' rfl ?_)
   refine wpAny_bind (listItems_at hn rfl ?_)
   rw [if_neg (by simp)]
   refine wpAny_bind (listUpdate_at hn rfl ?_ (Nat.zero_le _) (by show (#[]++vs.toArray).size≤sizeLine + 1;simp [sizeLine];omega))
   exact wpAny_pure (y { xd h.objs.size n' with t:=i } _ trivial (by dsimp only;rw [lst_eq];exact H2))⟩
end
noncomputable def cellQ (o:Option Value):Obj:=⟨.type PySem.W.SZ.s15660640913423913556x4,none,.cell o,#[]⟩
noncomputable def ix (x:Int) (k:Nat):Fin 3:=⟨(Int.fmod (Int.fdiv (Int.fdiv x 12) (3 ^ k)) 3).toNat,by
 have:=Int.fmod_lt_of_pos (Int.fdiv (Int.fdiv x 12) (3 ^ k)) (show (0:Int) < 3 by decide)
 omega⟩
theorem ix_at (x:Int) (k:Nat):Int.fmod (Int.fdiv (Int.fdiv x 12) (3 ^ k)) 3=((ix x k).val:Int):=by
 have h:=Int.fmod_nonneg_of_pos (Int.fdiv (Int.fdiv x 12) (3 ^ k)) (show (0:Int) < 3 by decide)
 show _=((Int.fmod (Int.fdiv (Int.fdiv x 12) (3 ^ k)) 3).toNat:Int)
 omega
theorem abc_at:∀ i:Fin 3,(seqIndex? (i.val:Int) (Str.ofString "abc").length).bind ((Str.ofString "abc").cps[·]?)=some (i.val + 97):=by decide +kernel
theorem chr_ok {x y:Int}{k:Nat}(e:y=3 ^ k):Z.modQ (Z.divQ (Z.divQ x 12) y) 3=((ix x k).val:Int)∧(ix x k).val≤1000∧(seqIndex? ((ix x k).val:Int) (Str.ofString "abc").length).bind ((Str.ofString "abc").cps[·]?)=some ((ix x k).val + 97):=by
 subst e
 refine ⟨?_,by omega,abc_at _⟩
 rw [← Z.modQ_eq,← Z.divQ_eq]
 exact ix_at x k
section
variable {b:Bool}{w:World}{g:Array GenState}{d:Drawn}{os:OsState}{R:Result→Shared→Prop}{h:Heap}{t:Nat}{B:Addr→Option Obj}{fr it acc cf cx:Addr}{x:Int}{tx l n6 n7:Nat}
noncomputable def jlC (it acc cf cx:Addr) (x:Int) (tx k l:Nat) (ra:List Value) (n6:Nat) (ex:List DictEntry) (n7:Nat):List (Addr×Obj) :=
 [(it,riO k l),(acc,lst ra n6),(cf,dO ex.toArray n7),(cx,cellQ (some (.int x tx)))]
noncomputable abbrev jlCode (P:Params) (fr cf cx it acc:Addr):Code:=cpAt P 280 fr cf [(Str.ofString "x",cx)] (ceAt P 280 1 [0] [2,0]) 0 it acc
theorem jl0 (KX:Kin (KK (wv b w).params) B) (H:Hp B h (jlC it acc cf cx x tx 0 (l + 1) [] n6 [] n7))
  (IH:∀ h' t' tk tv t1 n6 n7,Hp B h' (jlC it acc cf cx x tx 1 l [.str (lt (ix x 0)) t1] n6 [ent (wv b w).params "k" tk (.int (0:Nat) tv)] n7)→codeAny (model prg (wv b w)) (AF 330 none) (jlCode (wv b w).params fr cf cx it acc) R ⟨h',g,d,t',os⟩) :
  codeAny (model prg (wv b w)) (AF 330 none) (jlCode (wv b w).params fr cf cx it acc) R ⟨h,g,d,t,os⟩:=by
 refine' go_code ?_
 (refine' run_T KX Rin.nil H 4000 ⟨[0,1,2,3],4⟩ rfl [.c 0,.v 0 (fun al=>rRnext (it:=it) (x:=0) (m:=l + 1) 0),.c 2,.f 2,.c 3,.e,.q,.c 2,.e,.q,.e,.q,.e,.q,.v 1 (fun al=>rChr (x:=Str.ofString "abc") (i:=Z.modQ (Z.divQ (Z.divQ x 12) 1) 3) (t1:=(al 0).n2 + 1) (t2:=(al 0).n2 + 1 + 1 + 1 + 1 + 1 + 1 + 1 + 1) ((ix x 0).val) ((ix x 0).val + 97)),.v 2 (fun al=>rAppend 1)] fun al=>end_A (c:=(jlCode (wv b w).params fr cf cx it acc)) (cs:=(jlC it acc cf cx x tx 1 l [.str (lt (ix x 0)) _] _ [ent (wv b w).params "k" _ (.int (0:Nat) _)] _)) (by kernel_rfl) rfl  ⟨(fun hF=>Nat.zero_le _),(fun hF=>chr_ok rfl),(fun hF=>Nat.succ_pos _),trivial⟩ fun hp t hF H=>?_)
 exact IH _ _ _ _ _ _ _ H
theorem jl1 {t1 tk0 tv0:Nat}(KX:Kin (KK (wv b w).params) B) (H:Hp B h (jlC it acc cf cx x tx 1 (l + 1) [.str (lt (ix x 0)) t1] n6 [ent (wv b w).params "k" tk0 (.int (0:Nat) tv0)] n7))
  (IH:∀ h' t' tk tv t2 n6 n7,Hp B h' (jlC it acc cf cx x tx 2 l [.str (lt (ix x 0)) t1,.str (lt (ix x 1)) t2] n6 [ent (wv b w).params "k" tk (.int (1:Nat) tv)] n7)→codeAny (model prg (wv b w)) (AF 330 none) (jlCode (wv b w).params fr cf cx it acc) R ⟨h',g,d,t',os⟩) :
  codeAny (model prg (wv b w)) (AF 330 none) (jlCode (wv b w).params fr cf cx it acc) R ⟨h,g,d,t,os⟩:=by
 refine' go_code ?_
 (refine' run_T KX Rin.nil H 4000 ⟨[0,1,2,3],4⟩ rfl [.c 0,.v 0 (fun al=>rRnext (it:=it) (x:=1) (m:=l + 1) 0),.c 2,.f 2,.c 3,.e,.q,.c 2,.v 1 (fun al=>rPow (a:=3) (b:=↑1) (t1:=(al 0).n2 + 1 + 1 + 1 + 1) (t2:=(al 0).n)),.e,.q,.e,.q,.v 2 (fun al=>rChr (x:=Str.ofString "abc") (i:=Z.modQ (Z.divQ (Z.divQ x 12) (3 ^ Int.toNat 1)) 3) (t1:=(al 0).n2 + 1) (t2:=(al 1).n2 + 1 + 1) ((ix x 1).val) ((ix x 1).val + 97)),.v 3 (fun al=>rAppend 1)] fun al=>end_A (c:=(jlCode (wv b w).params fr cf cx it acc)) (cs:=(jlC it acc cf cx x tx 2 l [.str (lt (ix x 0)) t1,.str (lt (ix x 1)) _] _ [ent (wv b w).params "k" _ (.int (1:Nat) _)] _)) (by kernel_rfl) rfl  ⟨(fun hF=>Nat.le_of_ble_eq_true rfl),(fun hF=>chr_ok rfl),(fun hF=>by decide +kernel),(fun hF=>Nat.succ_pos _),trivial⟩ fun hp t hF H=>?_)
 exact IH _ _ _ _ _ _ _ H
theorem jl2 {t1 t2 tk0 tv0:Nat}(KX:Kin (KK (wv b w).params) B) (H:Hp B h (jlC it acc cf cx x tx 2 (l + 1) [.str (lt (ix x 0)) t1,.str (lt (ix x 1)) t2] n6 [ent (wv b w).params "k" tk0 (.int (1:Nat) tv0)] n7))
  (IH:∀ h' t' tk tv t3 n6 n7,Hp B h' (jlC it acc cf cx x tx 3 l [.str (lt (ix x 0)) t1,.str (lt (ix x 1)) t2,.str (lt (ix x 2)) t3] n6 [ent (wv b w).params "k" tk (.int (2:Nat) tv)] n7)→codeAny (model prg (wv b w)) (AF 330 none) (jlCode (wv b w).params fr cf cx it acc) R ⟨h',g,d,t',os⟩) :
  codeAny (model prg (wv b w)) (AF 330 none) (jlCode (wv b w).params fr cf cx it acc) R ⟨h,g,d,t,os⟩:=by
 refine' go_code ?_
 (refine' run_T KX Rin.nil H 4000 ⟨[0,1,2,3],4⟩ rfl [.c 0,.v 0 (fun al=>rRnext (it:=it) (x:=2) (m:=l + 1) 0),.c 2,.f 2,.c 3,.e,.q,.c 2,.v 1 (fun al=>rPow (a:=3) (b:=↑2) (t1:=(al 0).n2 + 1 + 1 + 1 + 1) (t2:=(al 0).n)),.e,.q,.e,.q,.v 2 (fun al=>rChr (x:=Str.ofString "abc") (i:=Z.modQ (Z.divQ (Z.divQ x 12) (3 ^ Int.toNat 2)) 3) (t1:=(al 0).n2 + 1) (t2:=(al 1).n2 + 1 + 1) ((ix x 2).val) ((ix x 2).val + 97)),.v 3 (fun al=>rAppend 1)] fun al=>end_A (c:=(jlCode (wv b w).params fr cf cx it acc)) (cs:=(jlC it acc cf cx x tx 3 l [.str (lt (ix x 0)) t1,.str (lt (ix x 1)) t2,.str (lt (ix x 2)) _] _ [ent (wv b w).params "k" _ (.int (2:Nat) _)] _)) (by kernel_rfl) rfl  ⟨(fun hF=>Nat.le_of_ble_eq_true rfl),(fun hF=>chr_ok rfl),(fun hF=>by decide +kernel),(fun hF=>Nat.succ_pos _),trivial⟩ fun hp t hF H=>?_)
 exact IH _ _ _ _ _ _ _ H
theorem jlE {k:Nat}{ra:List Value}{ex:List DictEntry}(KX:Kin (KK (wv b w).params) B) (H:Hp B h (jlC it acc cf cx x tx k 0 ra n6 ex n7))
  (x':∀ h' t',Hp B h' (jlC it acc cf cx x tx k 0 ra n6 ex n7).tail→R (.ok .next) ⟨h',g,d,t',os⟩) :
  codeAny (model prg (wv b w)) (AF 330 none) (jlCode (wv b w).params fr cf cx it acc) R ⟨h,g,d,t,os⟩:=by
 refine' go_code ?_
 (refine' run_T KX Rin.nil H 4000 ⟨[2,3,4],5⟩ rfl [.c 0,.v 0 (fun al=>rRend (it:=it) (x:=k) 0),.c 0] fun al=>end_R (r:=(.ok .next)) (cs:=(jlC it acc cf cx x tx k 0 ra n6 ex n7).tail) (by kernel_rfl) rfl  ⟨(fun hF=>(by first | trivial | assumption | exact rfl | exact ⟨rfl,rfl⟩)),trivial⟩ fun hp t hF H=>?_)
 exact x' _ _ H
noncomputable def xm (x:Int):Nat:=(Int.fmod x 3).toNat
theorem xm_lt (x:Int):xm x < 3:=by
 have:=Int.fmod_lt_of_pos x (show (0:Int) < 3 by decide)
 unfold xm
 omega
theorem jl_0:Ct prg (wv b w) 330 none (KK (wv b w).params) g d os (csAt (wv b w).params 280 fr cf [(Str.ofString "x",cx)] (ceAt (wv b w).params 280 1 [0] [2,0]) 0 it acc) (jlC it acc cf cx x tx 0 1 [] n6 [] n7) none
    fun u=>(.ok .next,(jlC it acc cf cx x tx 0 0 [.str (lt (ix x 0)) u.n6] u.n [ent (wv b w).params "k" u.n2 (.int ((0:Nat):Int) u.n4)] u.n5).tail) :=
 ⟨fun B h t R KX hS H x'=>comp_rng H 0 rfl (jl0 KX H fun h t tk tv t1 n6 n7 H=>jlE KX H fun h t H=>x' { xd0 with n:=n6,n2:=tk,n4:=tv,n5:=n7,n6:=t1,t:=t } h trivial H)⟩
theorem jl_1:Ct prg (wv b w) 330 none (KK (wv b w).params) g d os (csAt (wv b w).params 280 fr cf [(Str.ofString "x",cx)] (ceAt (wv b w).params 280 1 [0] [2,0]) 0 it acc) (jlC it acc cf cx x tx 0 2 [] n6 [] n7) none
    fun u=>(.ok .next,(jlC it acc cf cx x tx 0 0 [.str (lt (ix x 0)) u.n6,.str (lt (ix x 1)) (u.L.headD 0)] u.n [ent (wv b w).params "k" u.n2 (.int ((1:Nat):Int) u.n4)] u.n5).tail) :=
 ⟨fun B h t R KX hS H x'=>comp_rng H 0 rfl (jl0 KX H fun h t tk tv t1 n6 n7 H=>jl1 KX H fun h t tk tv t2 n6 n7 H=>jlE KX H fun h t H=>x' { xd0 with n:=n6,n2:=tk,n4:=tv,n5:=n7,n6:=t1,L:=[t2],t:=t } h trivial H)⟩
theorem jl_2:Ct prg (wv b w) 330 none (KK (wv b w).params) g d os (csAt (wv b w).params 280 fr cf [(Str.ofString "x",cx)] (ceAt (wv b w).params 280 1 [0] [2,0]) 0 it acc) (jlC it acc cf cx x tx 0 3 [] n6 [] n7) none
    fun u=>(.ok .next,(jlC it acc cf cx x tx 0 0 [.str (lt (ix x 0)) u.n6,.str (lt (ix x 1)) (u.L.headD 0),.str (lt (ix x 2)) (u.L2.headD 0)] u.n [ent (wv b w).params "k" u.n2 (.int ((2:Nat):Int) u.n4)] u.n5).tail) :=
 ⟨fun B h t R KX hS H x'=>comp_rng H 0 rfl (jl0 KX H fun h t tk tv t1 n6 n7 H=>jl1 KX H fun h t tk tv t2 n6 n7 H=>jl2 KX H fun h t tk tv t3 n6 n7 H=>jlE KX H fun h t H=>x' { xd0 with n:=n6,n2:=tk,n4:=tv,n5:=n7,n6:=t1,L:=[t2],L2:=[t3],t:=t } h trivial H)⟩
end
section
variable {b:Bool}{w:World}{g:Array GenState}{d:Drawn}{os:OsState}
theorem xm_ok {x:Int}{k:Nat}(h:xm x=k) (h':k≤2):1 + Z.modQ x 3=((1 + k:Nat):Int)∧1 + k≤1000:=by
 have h0:=Int.fmod_nonneg_of_pos x (show (0:Int) < 3 by decide)
 rw [← Z.modQ_eq]
 unfold xm at h
 omega
noncomputable def xW (x:Int):Bool:=decide (Z.modQ (Z.divQ x 3) 4 < 3)
noncomputable def xT (x:Int):Bool:=Z.modQ (Z.divQ x 3) 4 != 2
noncomputable abbrev lwCl (cw ct cx cp cf ms mo:Addr):List (Str×Addr):=[(Str.ofString "more",mo),(Str.ofString "missing",ms),(Str.ofString "folders",cf),(Str.ofString "path",cp),(Str.ofString "x",cx),(Str.ofString "there",ct),(Str.ofString "wished",cw)]
noncomputable def l1C (P:Params) (it lq cw aw ct at' cx cp fr q:Addr) (vs:List Value) (n j:Nat) (W T:List Value) (nw nt ks nf:Nat) (ox op:Option Value):List (Addr×Obj) :=
 [(it,itL lq j),(lq,lst vs n),(cw,cellQ (some (.ref aw))),(aw,lst W nw),(ct,cellQ (some (.ref at'))),(at',lst T nt),(cx,cellQ ox),(cp,cellQ op),(fr,locO [ent P "script" ks (.ref q)] nf)]
theorem sl_1 (v:Value):slicePick [v].toArray none (some ((1:Nat):Int)) none=[v].toArray∧[v].length≤1000:=⟨slicePick_upto _ 1 (Nat.le_refl _),Nat.le_of_ble_eq_true rfl⟩
theorem sl_0 (v:Value):slicePick [v].toArray none (some ((0:Nat):Int)) none=[].toArray∧[v].length≤1000:=⟨slicePick_upto _ 0 (Nat.zero_le _),Nat.le_of_ble_eq_true rfl⟩
theorem l1_011 {R:Result→Shared→Prop}{h:Heap}{t:Nat}{B:Addr→Option Obj}{fr cw ct cx cp cf ms mo it lq aw at' q:Addr}{j n nw nt nf ks:Nat}{x:Int}{tx:Nat}{vs W T:List Value}{ox op:Option Value}
  (KX:Kin (KK (wv b w).params) B) (hS:(B sysModules).isSome=true) (H:Hp B h (l1C (wv b w).params it lq cw aw ct at' cx cp fr q vs n j W T nw nt ks nf ox op)) (hW:W.length≤1000) (hT:T.length≤1000) (hv:vs[j]?=some (.int x tx)) (hm:xm x=0) (h1:xW x=true) (h2:xT x=true)
  (IH:∀ h' t' aw' at'' tp,Hp B h' (l1C (wv b w).params it lq cw aw' ct at'' cx cp fr q vs n (j + 1) (W++[.str (sp (.a (ix x 0))) tp]) (T++[.str (sp (.a (ix x 0))) tp]) 0 0 ks nf (some (.int x tx)) (some (.str (sp (.a (ix x 0))) tp)))→codeAny (model prg (wv b w)) (AF 320 none) (lpAtC (wv b w).params 280 fr (lwCl cw ct cx cp cf ms mo) 1 [] (.ref it)) R ⟨h',g,d,t',os⟩) :
  codeAny (model prg (wv b w)) (AF 320 none) (lpAtC (wv b w).params 280 fr (lwCl cw ct cx cp cf ms mo) 1 [] (.ref it)) R ⟨h,g,d,t,os⟩:=by
 refine' go_code ?_
 (refine' run_T2 KX Rin.nil H 4000 ⟨[10,11,12,4,14,0,20,16,17],21⟩ rfl [.c 0,.v 0 (fun al=>rNext Rin.nil 0 (.c 1) (Value.int x tx)),.c 6,.f 6,.k,.k,.k,.c 6,.e,.q,.e,.q,.v 1 (fun al=>rRange (n:=1 + Z.modQ x 3) (t:=(al 0).n + 1 + 1 + 1 + 1)),.c 0,.c 0,.v 2 (fun al=>rRiter (r:=(al 1).n) (n:=1 + Z.modQ x 3) (t0:=(al 1).n2) (t:=(al 0).n + 1 + 1 + 1 + 1) (t1:=(al 1).n3) 0 (1 + 0)),.c 0,.b 3,.b 4,.v 5 (fun al=>rC KX hS [2,1,0,7] 9 false (True) (fun _=>jl_0 (fr:=fr) (it:=(al 2).n) (acc:=(al 3).n) (cf:=(al 4).n) (cx:=cx) (x:=x) (tx:=tx) (n6:=0) (n7:=0))),.c 10,.c 10,.f 10,.c 9,.v 6 (fun al=>rCollL (q:=(al 3).n) (vs:=[Value.str (lt (ix x 0)) (al 5).n6]) (n:=(al 5).n) Rin.nil (.c 9)),.c 0,.k,.v 7 (fun al=>rC KX hS [] 13 false (True) (fun _=>jn1 (t1:=(al 0).n) (t2:=(al 5).n6) (ix x 0))),.c 8,.f 8,.c 4,.c 8,.b 8,.c 13,.e,.q,.e,.q,.v 9 (fun al=>rIlt (true)),.b 10,.c 1,.c 1,.c 1,.v 11 (fun al=>rLslice Rin.nil (.c 1) (.c 0) ([.str (sp (.a (ix x 0))) (al 7).n])),.e,.c 8,.c 0,.c 8,.v 12 (fun al=>rLadd (q1:=aw) (q2:=(al 11).n) (vs1:=W) (vs2:=[Value.str (sp (Pt.a (ix x 0))) (al 7).n]) (n1:=nw) (n2:=0) Rin.nil (.c 8) (.c 0)),.c 8,.f 8,.c 10,.c 12,.b 13,.c 17,.e,.q,.e,.q,.v 14 (fun al=>rIne (true)),.b 15,.c 1,.c 1,.c 1,.v 16 (fun al=>rLslice Rin.nil (.c 1) (.c 0) ([.str (sp (.a (ix x 0))) (al 7).n])),.e,.c 14,.c 0,.c 14,.v 17 (fun al=>rLadd (q1:=at') (q2:=(al 16).n) (vs1:=T) (vs2:=[Value.str (sp (Pt.a (ix x 0))) (al 7).n]) (n1:=nt) (n2:=0) Rin.nil (.c 14) (.c 0)),.c 14,.f 14] fun al=>end_A2 (c:=(lpAtC (wv b w).params 280 fr (lwCl cw ct cx cp cf ms mo) 1 [] (.ref it))) (cs:=(l1C (wv b w).params it lq cw _ ct _ cx cp fr q vs n (j + 1) _ _ 0 0 ks nf (some (.int x tx)) (some (.str (sp (.a (ix x 0))) _)))) (by kernel_rfl) (by kernel_rfl) rfl (by kernel_rfl) ⟨(fun hF=>⟨hT,Nat.le_of_ble_eq_true rfl⟩),(fun hF=>sl_1 _),(fun hF=>h2),(fun hF=>⟨hW,Nat.le_of_ble_eq_true rfl⟩),(fun hF=>sl_1 _),(fun hF=>h1),(fun hF=>trivial),(fun hF=>Nat.le_of_ble_eq_true rfl),(fun hF=>trivial),(fun hF=>xm_ok hm (Nat.le_of_ble_eq_true rfl)),(fun hF=>(by first | trivial | assumption | exact rfl | exact ⟨rfl,rfl⟩)),(fun hF=>hv),trivial⟩ fun hp t hF H=>?_)
 exact IH _ _ _ _ _ H
theorem l1_010 {R:Result→Shared→Prop}{h:Heap}{t:Nat}{B:Addr→Option Obj}{fr cw ct cx cp cf ms mo it lq aw at' q:Addr}{j n nw nt nf ks:Nat}{x:Int}{tx:Nat}{vs W T:List Value}{ox op:Option Value}
  (KX:Kin (KK (wv b w).params) B) (hS:(B sysModules).isSome=true) (H:Hp B h (l1C (wv b w).params it lq cw aw ct at' cx cp fr q vs n j W T nw nt ks nf ox op)) (hW:W.length≤1000) (hT:T.length≤1000) (hv:vs[j]?=some (.int x tx)) (hm:xm x=0) (h1:xW x=true) (h2:xT x=false)
  (IH:∀ h' t' aw' at'' tp,Hp B h' (l1C (wv b w).params it lq cw aw' ct at'' cx cp fr q vs n (j + 1) (W++[.str (sp (.a (ix x 0))) tp]) (T++[]) 0 0 ks nf (some (.int x tx)) (some (.str (sp (.a (ix x 0))) tp)))→codeAny (model prg (wv b w)) (AF 320 none) (lpAtC (wv b w).params 280 fr (lwCl cw ct cx cp cf ms mo) 1 [] (.ref it)) R ⟨h',g,d,t',os⟩) :
  codeAny (model prg (wv b w)) (AF 320 none) (lpAtC (wv b w).params 280 fr (lwCl cw ct cx cp cf ms mo) 1 [] (.ref it)) R ⟨h,g,d,t,os⟩:=by
 refine' go_code ?_
 (refine' run_T2 KX Rin.nil H 4000 ⟨[10,11,12,4,14,0,20,16,17],21⟩ rfl [.c 0,.v 0 (fun al=>rNext Rin.nil 0 (.c 1) (Value.int x tx)),.c 6,.f 6,.k,.k,.k,.c 6,.e,.q,.e,.q,.v 1 (fun al=>rRange (n:=1 + Z.modQ x 3) (t:=(al 0).n + 1 + 1 + 1 + 1)),.c 0,.c 0,.v 2 (fun al=>rRiter (r:=(al 1).n) (n:=1 + Z.modQ x 3) (t0:=(al 1).n2) (t:=(al 0).n + 1 + 1 + 1 + 1) (t1:=(al 1).n3) 0 (1 + 0)),.c 0,.b 3,.b 4,.v 5 (fun al=>rC KX hS [2,1,0,7] 9 false (True) (fun _=>jl_0 (fr:=fr) (it:=(al 2).n) (acc:=(al 3).n) (cf:=(al 4).n) (cx:=cx) (x:=x) (tx:=tx) (n6:=0) (n7:=0))),.c 10,.c 10,.f 10,.c 9,.v 6 (fun al=>rCollL (q:=(al 3).n) (vs:=[Value.str (lt (ix x 0)) (al 5).n6]) (n:=(al 5).n) Rin.nil (.c 9)),.c 0,.k,.v 7 (fun al=>rC KX hS [] 13 false (True) (fun _=>jn1 (t1:=(al 0).n) (t2:=(al 5).n6) (ix x 0))),.c 8,.f 8,.c 4,.c 8,.b 8,.c 13,.e,.q,.e,.q,.v 9 (fun al=>rIlt (true)),.b 10,.c 1,.c 1,.c 1,.v 11 (fun al=>rLslice Rin.nil (.c 1) (.c 0) ([.str (sp (.a (ix x 0))) (al 7).n])),.e,.c 8,.c 0,.c 8,.v 12 (fun al=>rLadd (q1:=aw) (q2:=(al 11).n) (vs1:=W) (vs2:=[Value.str (sp (Pt.a (ix x 0))) (al 7).n]) (n1:=nw) (n2:=0) Rin.nil (.c 8) (.c 0)),.c 8,.f 8,.c 10,.c 12,.b 13,.c 17,.e,.q,.e,.q,.v 14 (fun al=>rIne (false)),.b 15,.c 1,.c 1,.c 1,.v 16 (fun al=>rLslice Rin.nil (.c 1) (.c 0) ([])),.e,.c 14,.c 0,.c 14,.v 17 (fun al=>rLadd (q1:=at') (q2:=(al 16).n) (vs1:=T) (vs2:=[]) (n1:=nt) (n2:=0) Rin.nil (.c 14) (.c 0)),.c 14,.f 14] fun al=>end_A2 (c:=(lpAtC (wv b w).params 280 fr (lwCl cw ct cx cp cf ms mo) 1 [] (.ref it))) (cs:=(l1C (wv b w).params it lq cw _ ct _ cx cp fr q vs n (j + 1) _ _ 0 0 ks nf (some (.int x tx)) (some (.str (sp (.a (ix x 0))) _)))) (by kernel_rfl) (by kernel_rfl) rfl (by kernel_rfl) ⟨(fun hF=>⟨hT,Nat.le_of_ble_eq_true rfl⟩),(fun hF=>sl_0 _),(fun hF=>h2),(fun hF=>⟨hW,Nat.le_of_ble_eq_true rfl⟩),(fun hF=>sl_1 _),(fun hF=>h1),(fun hF=>trivial),(fun hF=>Nat.le_of_ble_eq_true rfl),(fun hF=>trivial),(fun hF=>xm_ok hm (Nat.le_of_ble_eq_true rfl)),(fun hF=>(by first | trivial | assumption | exact rfl | exact ⟨rfl,rfl⟩)),(fun hF=>hv),trivial⟩ fun hp t hF H=>?_)
 exact IH _ _ _ _ _ H
theorem l1_001 {R:Result→Shared→Prop}{h:Heap}{t:Nat}{B:Addr→Option Obj}{fr cw ct cx cp cf ms mo it lq aw at' q:Addr}{j n nw nt nf ks:Nat}{x:Int}{tx:Nat}{vs W T:List Value}{ox op:Option Value}
  (KX:Kin (KK (wv b w).params) B) (hS:(B sysModules).isSome=true) (H:Hp B h (l1C (wv b w).params it lq cw aw ct at' cx cp fr q vs n j W T nw nt ks nf ox op)) (hW:W.length≤1000) (hT:T.length≤1000) (hv:vs[j]?=some (.int x tx)) (hm:xm x=0) (h1:xW x=false) (h2:xT x=true)
  (IH:∀ h' t' aw' at'' tp,Hp B h' (l1C (wv b w).params it lq cw aw' ct at'' cx cp fr q vs n (j + 1) (W++[]) (T++[.str (sp (.a (ix x 0))) tp]) 0 0 ks nf (some (.int x tx)) (some (.str (sp (.a (ix x 0))) tp)))→codeAny (model prg (wv b w)) (AF 320 none) (lpAtC (wv b w).params 280 fr (lwCl cw ct cx cp cf ms mo) 1 [] (.ref it)) R ⟨h',g,d,t',os⟩) :
  codeAny (model prg (wv b w)) (AF 320 none) (lpAtC (wv b w).params 280 fr (lwCl cw ct cx cp cf ms mo) 1 [] (.ref it)) R ⟨h,g,d,t,os⟩:=by
 refine' go_code ?_
 (refine' run_T2 KX Rin.nil H 4000 ⟨[10,11,12,4,14,0,20,16,17],21⟩ rfl [.c 0,.v 0 (fun al=>rNext Rin.nil 0 (.c 1) (Value.int x tx)),.c 6,.f 6,.k,.k,.k,.c 6,.e,.q,.e,.q,.v 1 (fun al=>rRange (n:=1 + Z.modQ x 3) (t:=(al 0).n + 1 + 1 + 1 + 1)),.c 0,.c 0,.v 2 (fun al=>rRiter (r:=(al 1).n) (n:=1 + Z.modQ x 3) (t0:=(al 1).n2) (t:=(al 0).n + 1 + 1 + 1 + 1) (t1:=(al 1).n3) 0 (1 + 0)),.c 0,.b 3,.b 4,.v 5 (fun al=>rC KX hS [2,1,0,7] 9 false (True) (fun _=>jl_0 (fr:=fr) (it:=(al 2).n) (acc:=(al 3).n) (cf:=(al 4).n) (cx:=cx) (x:=x) (tx:=tx) (n6:=0) (n7:=0))),.c 10,.c 10,.f 10,.c 9,.v 6 (fun al=>rCollL (q:=(al 3).n) (vs:=[Value.str (lt (ix x 0)) (al 5).n6]) (n:=(al 5).n) Rin.nil (.c 9)),.c 0,.k,.v 7 (fun al=>rC KX hS [] 13 false (True) (fun _=>jn1 (t1:=(al 0).n) (t2:=(al 5).n6) (ix x 0))),.c 8,.f 8,.c 4,.c 8,.b 8,.c 13,.e,.q,.e,.q,.v 9 (fun al=>rIlt (false)),.b 10,.c 1,.c 1,.c 1,.v 11 (fun al=>rLslice Rin.nil (.c 1) (.c 0) ([])),.e,.c 8,.c 0,.c 8,.v 12 (fun al=>rLadd (q1:=aw) (q2:=(al 11).n) (vs1:=W) (vs2:=[]) (n1:=nw) (n2:=0) Rin.nil (.c 8) (.c 0)),.c 8,.f 8,.c 10,.c 12,.b 13,.c 17,.e,.q,.e,.q,.v 14 (fun al=>rIne (true)),.b 15,.c 1,.c 1,.c 1,.v 16 (fun al=>rLslice Rin.nil (.c 1) (.c 0) ([.str (sp (.a (ix x 0))) (al 7).n])),.e,.c 14,.c 0,.c 14,.v 17 (fun al=>rLadd (q1:=at') (q2:=(al 16).n) (vs1:=T) (vs2:=[Value.str (sp (Pt.a (ix x 0))) (al 7).n]) (n1:=nt) (n2:=0) Rin.nil (.c 14) (.c 0)),.c 14,.f 14] fun al=>end_A2 (c:=(lpAtC (wv b w).params 280 fr (lwCl cw ct cx cp cf ms mo) 1 [] (.ref it))) (cs:=(l1C (wv b w).params it lq cw _ ct _ cx cp fr q vs n (j + 1) _ _ 0 0 ks nf (some (.int x tx)) (some (.str (sp (.a (ix x 0))) _)))) (by kernel_rfl) (by kernel_rfl) rfl (by kernel_rfl) ⟨(fun hF=>⟨hT,Nat.le_of_ble_eq_true rfl⟩),(fun hF=>sl_1 _),(fun hF=>h2),(fun hF=>⟨hW,Nat.le_of_ble_eq_true rfl⟩),(fun hF=>sl_0 _),(fun hF=>h1),(fun hF=>trivial),(fun hF=>Nat.le_of_ble_eq_true rfl),(fun hF=>trivial),(fun hF=>xm_ok hm (Nat.le_of_ble_eq_true rfl)),(fun hF=>(by first | trivial | assumption | exact rfl | exact ⟨rfl,rfl⟩)),(fun hF=>hv),trivial⟩ fun hp t hF H=>?_)
 exact IH _ _ _ _ _ H
theorem l1_111 {R:Result→Shared→Prop}{h:Heap}{t:Nat}{B:Addr→Option Obj}{fr cw ct cx cp cf ms mo it lq aw at' q:Addr}{j n nw nt nf ks:Nat}{x:Int}{tx:Nat}{vs W T:List Value}{ox op:Option Value}
  (KX:Kin (KK (wv b w).params) B) (hS:(B sysModules).isSome=true) (H:Hp B h (l1C (wv b w).params it lq cw aw ct at' cx cp fr q vs n j W T nw nt ks nf ox op)) (hW:W.length≤1000) (hT:T.length≤1000) (hv:vs[j]?=some (.int x tx)) (hm:xm x=1) (h1:xW x=true) (h2:xT x=true)
  (IH:∀ h' t' aw' at'' tp,Hp B h' (l1C (wv b w).params it lq cw aw' ct at'' cx cp fr q vs n (j + 1) (W++[.str (sp (.b (ix x 0) (ix x 1))) tp]) (T++[.str (sp (.b (ix x 0) (ix x 1))) tp]) 0 0 ks nf (some (.int x tx)) (some (.str (sp (.b (ix x 0) (ix x 1))) tp)))→codeAny (model prg (wv b w)) (AF 320 none) (lpAtC (wv b w).params 280 fr (lwCl cw ct cx cp cf ms mo) 1 [] (.ref it)) R ⟨h',g,d,t',os⟩) :
  codeAny (model prg (wv b w)) (AF 320 none) (lpAtC (wv b w).params 280 fr (lwCl cw ct cx cp cf ms mo) 1 [] (.ref it)) R ⟨h,g,d,t,os⟩:=by
 refine' go_code ?_
 (refine' run_T2 KX Rin.nil H 4000 ⟨[10,11,12,4,14,0,20,16,17],21⟩ rfl [.c 0,.v 0 (fun al=>rNext Rin.nil 0 (.c 1) (Value.int x tx)),.c 6,.f 6,.k,.k,.k,.c 6,.e,.q,.e,.q,.v 1 (fun al=>rRange (n:=1 + Z.modQ x 3) (t:=(al 0).n + 1 + 1 + 1 + 1)),.c 0,.c 0,.v 2 (fun al=>rRiter (r:=(al 1).n) (n:=1 + Z.modQ x 3) (t0:=(al 1).n2) (t:=(al 0).n + 1 + 1 + 1 + 1) (t1:=(al 1).n3) 0 (1 + 1)),.c 0,.b 3,.b 4,.v 5 (fun al=>rC KX hS [2,1,0,7] 9 false (True) (fun _=>jl_1 (fr:=fr) (it:=(al 2).n) (acc:=(al 3).n) (cf:=(al 4).n) (cx:=cx) (x:=x) (tx:=tx) (n6:=0) (n7:=0))),.c 10,.c 10,.f 10,.c 9,.v 6 (fun al=>rCollL (q:=(al 3).n) (vs:=[Value.str (lt (ix x 0)) (al 5).n6,Value.str (lt (ix x 1)) ((al 5).L.headD 0)]) (n:=(al 5).n) Rin.nil (.c 9)),.c 0,.k,.v 7 (fun al=>rC KX hS [] 13 false (True) (fun _=>jn2 (t1:=(al 0).n) (t2:=(al 5).n6) (t3:=(al 5).L.headD 0) (ix x 0) (ix x 1))),.c 8,.f 8,.c 4,.c 8,.b 8,.c 13,.e,.q,.e,.q,.v 9 (fun al=>rIlt (true)),.b 10,.c 1,.c 1,.c 1,.v 11 (fun al=>rLslice Rin.nil (.c 1) (.c 0) ([.str (sp (.b (ix x 0) (ix x 1))) (al 7).n])),.e,.c 8,.c 0,.c 8,.v 12 (fun al=>rLadd (q1:=aw) (q2:=(al 11).n) (vs1:=W) (vs2:=[Value.str (sp (Pt.b (ix x 0) (ix x 1))) (al 7).n]) (n1:=nw) (n2:=0) Rin.nil (.c 8) (.c 0)),.c 8,.f 8,.c 10,.c 12,.b 13,.c 17,.e,.q,.e,.q,.v 14 (fun al=>rIne (true)),.b 15,.c 1,.c 1,.c 1,.v 16 (fun al=>rLslice Rin.nil (.c 1) (.c 0) ([.str (sp (.b (ix x 0) (ix x 1))) (al 7).n])),.e,.c 14,.c 0,.c 14,.v 17 (fun al=>rLadd (q1:=at') (q2:=(al 16).n) (vs1:=T) (vs2:=[Value.str (sp (Pt.b (ix x 0) (ix x 1))) (al 7).n]) (n1:=nt) (n2:=0) Rin.nil (.c 14) (.c 0)),.c 14,.f 14] fun al=>end_A2 (c:=(lpAtC (wv b w).params 280 fr (lwCl cw ct cx cp cf ms mo) 1 [] (.ref it))) (cs:=(l1C (wv b w).params it lq cw _ ct _ cx cp fr q vs n (j + 1) _ _ 0 0 ks nf (some (.int x tx)) (some (.str (sp (.b (ix x 0) (ix x 1))) _)))) (by kernel_rfl) (by kernel_rfl) rfl (by kernel_rfl) ⟨(fun hF=>⟨hT,Nat.le_of_ble_eq_true rfl⟩),(fun hF=>sl_1 _),(fun hF=>h2),(fun hF=>⟨hW,Nat.le_of_ble_eq_true rfl⟩),(fun hF=>sl_1 _),(fun hF=>h1),(fun hF=>trivial),(fun hF=>Nat.le_of_ble_eq_true rfl),(fun hF=>trivial),(fun hF=>xm_ok hm (Nat.le_of_ble_eq_true rfl)),(fun hF=>(by first | trivial | assumption | exact rfl | exact ⟨rfl,rfl⟩)),(fun hF=>hv),trivial⟩ fun hp t hF H=>?_)
 exact IH _ _ _ _ _ H
theorem l1_110 {R:Result→Shared→Prop}{h:Heap}{t:Nat}{B:Addr→Option Obj}{fr cw ct cx cp cf ms mo it lq aw at' q:Addr}{j n nw nt nf ks:Nat}{x:Int}{tx:Nat}{vs W T:List Value}{ox op:Option Value}
  (KX:Kin (KK (wv b w).params) B) (hS:(B sysModules).isSome=true) (H:Hp B h (l1C (wv b w).params it lq cw aw ct at' cx cp fr q vs n j W T nw nt ks nf ox op)) (hW:W.length≤1000) (hT:T.length≤1000) (hv:vs[j]?=some (.int x tx)) (hm:xm x=1) (h1:xW x=true) (h2:xT x=false)
  (IH:∀ h' t' aw' at'' tp,Hp B h' (l1C (wv b w).params it lq cw aw' ct at'' cx cp fr q vs n (j + 1) (W++[.str (sp (.b (ix x 0) (ix x 1))) tp]) (T++[]) 0 0 ks nf (some (.int x tx)) (some (.str (sp (.b (ix x 0) (ix x 1))) tp)))→codeAny (model prg (wv b w)) (AF 320 none) (lpAtC (wv b w).params 280 fr (lwCl cw ct cx cp cf ms mo) 1 [] (.ref it)) R ⟨h',g,d,t',os⟩) :
  codeAny (model prg (wv b w)) (AF 320 none) (lpAtC (wv b w).params 280 fr (lwCl cw ct cx cp cf ms mo) 1 [] (.ref it)) R ⟨h,g,d,t,os⟩:=by
 refine' go_code ?_
 (refine' run_T2 KX Rin.nil H 4000 ⟨[10,11,12,4,14,0,20,16,17],21⟩ rfl [.c 0,.v 0 (fun al=>rNext Rin.nil 0 (.c 1) (Value.int x tx)),.c 6,.f 6,.k,.k,.k,.c 6,.e,.q,.e,.q,.v 1 (fun al=>rRange (n:=1 + Z.modQ x 3) (t:=(al 0).n + 1 + 1 + 1 + 1)),.c 0,.c 0,.v 2 (fun al=>rRiter (r:=(al 1).n) (n:=1 + Z.modQ x 3) (t0:=(al 1).n2) (t:=(al 0).n + 1 + 1 + 1 + 1) (t1:=(al 1).n3) 0 (1 + 1)),.c 0,.b 3,.b 4,.v 5 (fun al=>rC KX hS [2,1,0,7] 9 false (True) (fun _=>jl_1 (fr:=fr) (it:=(al 2).n) (acc:=(al 3).n) (cf:=(al 4).n) (cx:=cx) (x:=x) (tx:=tx) (n6:=0) (n7:=0))),.c 10,.c 10,.f 10,.c 9,.v 6 (fun al=>rCollL (q:=(al 3).n) (vs:=[Value.str (lt (ix x 0)) (al 5).n6,Value.str (lt (ix x 1)) ((al 5).L.headD 0)]) (n:=(al 5).n) Rin.nil (.c 9)),.c 0,.k,.v 7 (fun al=>rC KX hS [] 13 false (True) (fun _=>jn2 (t1:=(al 0).n) (t2:=(al 5).n6) (t3:=(al 5).L.headD 0) (ix x 0) (ix x 1))),.c 8,.f 8,.c 4,.c 8,.b 8,.c 13,.e,.q,.e,.q,.v 9 (fun al=>rIlt (true)),.b 10,.c 1,.c 1,.c 1,.v 11 (fun al=>rLslice Rin.nil (.c 1) (.c 0) ([.str (sp (.b (ix x 0) (ix x 1))) (al 7).n])),.e,.c 8,.c 0,.c 8,.v 12 (fun al=>rLadd (q1:=aw) (q2:=(al 11).n) (vs1:=W) (vs2:=[Value.str (sp (Pt.b (ix x 0) (ix x 1))) (al 7).n]) (n1:=nw) (n2:=0) Rin.nil (.c 8) (.c 0)),.c 8,.f 8,.c 10,.c 12,.b 13,.c 17,.e,.q,.e,.q,.v 14 (fun al=>rIne (false)),.b 15,.c 1,.c 1,.c 1,.v 16 (fun al=>rLslice Rin.nil (.c 1) (.c 0) ([])),.e,.c 14,.c 0,.c 14,.v 17 (fun al=>rLadd (q1:=at') (q2:=(al 16).n) (vs1:=T) (vs2:=[]) (n1:=nt) (n2:=0) Rin.nil (.c 14) (.c 0)),.c 14,.f 14] fun al=>end_A2 (c:=(lpAtC (wv b w).params 280 fr (lwCl cw ct cx cp cf ms mo) 1 [] (.ref it))) (cs:=(l1C (wv b w).params it lq cw _ ct _ cx cp fr q vs n (j + 1) _ _ 0 0 ks nf (some (.int x tx)) (some (.str (sp (.b (ix x 0) (ix x 1))) _)))) (by kernel_rfl) (by kernel_rfl) rfl (by kernel_rfl) ⟨(fun hF=>⟨hT,Nat.le_of_ble_eq_true rfl⟩),(fun hF=>sl_0 _),(fun hF=>h2),(fun hF=>⟨hW,Nat.le_of_ble_eq_true rfl⟩),(fun hF=>sl_1 _),(fun hF=>h1),(fun hF=>trivial),(fun hF=>Nat.le_of_ble_eq_true rfl),(fun hF=>trivial),(fun hF=>xm_ok hm (Nat.le_of_ble_eq_true rfl)),(fun hF=>(by first | trivial | assumption | exact rfl | exact ⟨rfl,rfl⟩)),(fun hF=>hv),trivial⟩ fun hp t hF H=>?_)
 exact IH _ _ _ _ _ H
theorem l1_101 {R:Result→Shared→Prop}{h:Heap}{t:Nat}{B:Addr→Option Obj}{fr cw ct cx cp cf ms mo it lq aw at' q:Addr}{j n nw nt nf ks:Nat}{x:Int}{tx:Nat}{vs W T:List Value}{ox op:Option Value}
  (KX:Kin (KK (wv b w).params) B) (hS:(B sysModules).isSome=true) (H:Hp B h (l1C (wv b w).params it lq cw aw ct at' cx cp fr q vs n j W T nw nt ks nf ox op)) (hW:W.length≤1000) (hT:T.length≤1000) (hv:vs[j]?=some (.int x tx)) (hm:xm x=1) (h1:xW x=false) (h2:xT x=true)
  (IH:∀ h' t' aw' at'' tp,Hp B h' (l1C (wv b w).params it lq cw aw' ct at'' cx cp fr q vs n (j + 1) (W++[]) (T++[.str (sp (.b (ix x 0) (ix x 1))) tp]) 0 0 ks nf (some (.int x tx)) (some (.str (sp (.b (ix x 0) (ix x 1))) tp)))→codeAny (model prg (wv b w)) (AF 320 none) (lpAtC (wv b w).params 280 fr (lwCl cw ct cx cp cf ms mo) 1 [] (.ref it)) R ⟨h',g,d,t',os⟩) :
  codeAny (model prg (wv b w)) (AF 320 none) (lpAtC (wv b w).params 280 fr (lwCl cw ct cx cp cf ms mo) 1 [] (.ref it)) R ⟨h,g,d,t,os⟩:=by
 refine' go_code ?_
 (refine' run_T2 KX Rin.nil H 4000 ⟨[10,11,12,4,14,0,20,16,17],21⟩ rfl [.c 0,.v 0 (fun al=>rNext Rin.nil 0 (.c 1) (Value.int x tx)),.c 6,.f 6,.k,.k,.k,.c 6,.e,.q,.e,.q,.v 1 (fun al=>rRange (n:=1 + Z.modQ x 3) (t:=(al 0).n + 1 + 1 + 1 + 1)),.c 0,.c 0,.v 2 (fun al=>rRiter (r:=(al 1).n) (n:=1 + Z.modQ x 3) (t0:=(al 1).n2) (t:=(al 0).n + 1 + 1 + 1 + 1) (t1:=(al 1).n3) 0 (1 + 1)),.c 0,.b 3,.b 4,.v 5 (fun al=>rC KX hS [2,1,0,7] 9 false (True) (fun _=>jl_1 (fr:=fr) (it:=(al 2).n) (acc:=(al 3).n) (cf:=(al 4).n) (cx:=cx) (x:=x) (tx:=tx) (n6:=0) (n7:=0))),.c 10,.c 10,.f 10,.c 9,.v 6 (fun al=>rCollL (q:=(al 3).n) (vs:=[Value.str (lt (ix x 0)) (al 5).n6,Value.str (lt (ix x 1)) ((al 5).L.headD 0)]) (n:=(al 5).n) Rin.nil (.c 9)),.c 0,.k,.v 7 (fun al=>rC KX hS [] 13 false (True) (fun _=>jn2 (t1:=(al 0).n) (t2:=(al 5).n6) (t3:=(al 5).L.headD 0) (ix x 0) (ix x 1))),.c 8,.f 8,.c 4,.c 8,.b 8,.c 13,.e,.q,.e,.q,.v 9 (fun al=>rIlt (false)),.b 10,.c 1,.c 1,.c 1,.v 11 (fun al=>rLslice Rin.nil (.c 1) (.c 0) ([])),.e,.c 8,.c 0,.c 8,.v 12 (fun al=>rLadd (q1:=aw) (q2:=(al 11).n) (vs1:=W) (vs2:=[]) (n1:=nw) (n2:=0) Rin.nil (.c 8) (.c 0)),.c 8,.f 8,.c 10,.c 12,.b 13,.c 17,.e,.q,.e,.q,.v 14 (fun al=>rIne (true)),.b 15,.c 1,.c 1,.c 1,.v 16 (fun al=>rLslice Rin.nil (.c 1) (.c 0) ([.str (sp (.b (ix x 0) (ix x 1))) (al 7).n])),.e,.c 14,.c 0,.c 14,.v 17 (fun al=>rLadd (q1:=at') (q2:=(al 16).n) (vs1:=T) (vs2:=[Value.str (sp (Pt.b (ix x 0) (ix x 1))) (al 7).n]) (n1:=nt) (n2:=0) Rin.nil (.c 14) (.c 0)),.c 14,.f 14] fun al=>end_A2 (c:=(lpAtC (wv b w).params 280 fr (lwCl cw ct cx cp cf ms mo) 1 [] (.ref it))) (cs:=(l1C (wv b w).params it lq cw _ ct _ cx cp fr q vs n (j + 1) _ _ 0 0 ks nf (some (.int x tx)) (some (.str (sp (.b (ix x 0) (ix x 1))) _)))) (by kernel_rfl) (by kernel_rfl) rfl (by kernel_rfl) ⟨(fun hF=>⟨hT,Nat.le_of_ble_eq_true rfl⟩),(fun hF=>sl_1 _),(fun hF=>h2),(fun hF=>⟨hW,Nat.le_of_ble_eq_true rfl⟩),(fun hF=>sl_0 _),(fun hF=>h1),(fun hF=>trivial),(fun hF=>Nat.le_of_ble_eq_true rfl),(fun hF=>trivial),(fun hF=>xm_ok hm (Nat.le_of_ble_eq_true rfl)),(fun hF=>(by first | trivial | assumption | exact rfl | exact ⟨rfl,rfl⟩)),(fun hF=>hv),trivial⟩ fun hp t hF H=>?_)
 exact IH _ _ _ _ _ H
theorem l1_211 {R:Result→Shared→Prop}{h:Heap}{t:Nat}{B:Addr→Option Obj}{fr cw ct cx cp cf ms mo it lq aw at' q:Addr}{j n nw nt nf ks:Nat}{x:Int}{tx:Nat}{vs W T:List Value}{ox op:Option Value}
  (KX:Kin (KK (wv b w).params) B) (hS:(B sysModules).isSome=true) (H:Hp B h (l1C (wv b w).params it lq cw aw ct at' cx cp fr q vs n j W T nw nt ks nf ox op)) (hW:W.length≤1000) (hT:T.length≤1000) (hv:vs[j]?=some (.int x tx)) (hm:xm x=2) (h1:xW x=true) (h2:xT x=true)
  (IH:∀ h' t' aw' at'' tp,Hp B h' (l1C (wv b w).params it lq cw aw' ct at'' cx cp fr q vs n (j + 1) (W++[.str (sp (.c (ix x 0) (ix x 1) (ix x 2))) tp]) (T++[.str (sp (.c (ix x 0) (ix x 1) (ix x 2))) tp]) 0 0 ks nf (some (.int x tx)) (some (.str (sp (.c (ix x 0) (ix x 1) (ix x 2))) tp)))→codeAny (model prg (wv b w)) (AF 320 none) (lpAtC (wv b w).params 280 fr (lwCl cw ct cx cp cf ms mo) 1 [] (.ref it)) R ⟨h',g,d,t',os⟩) :
  codeAny (model prg (wv b w)) (AF 320 none) (lpAtC (wv b w).params 280 fr (lwCl cw ct cx cp cf ms mo) 1 [] (.ref it)) R ⟨h,g,d,t,os⟩:=by
 refine' go_code ?_
 (refine' run_T2 KX Rin.nil H 4000 ⟨[10,11,12,4,14,0,20,16,17],21⟩ rfl [.c 0,.v 0 (fun al=>rNext Rin.nil 0 (.c 1) (Value.int x tx)),.c 6,.f 6,.k,.k,.k,.c 6,.e,.q,.e,.q,.v 1 (fun al=>rRange (n:=1 + Z.modQ x 3) (t:=(al 0).n + 1 + 1 + 1 + 1)),.c 0,.c 0,.v 2 (fun al=>rRiter (r:=(al 1).n) (n:=1 + Z.modQ x 3) (t0:=(al 1).n2) (t:=(al 0).n + 1 + 1 + 1 + 1) (t1:=(al 1).n3) 0 (1 + 2)),.c 0,.b 3,.b 4,.v 5 (fun al=>rC KX hS [2,1,0,7] 9 false (True) (fun _=>jl_2 (fr:=fr) (it:=(al 2).n) (acc:=(al 3).n) (cf:=(al 4).n) (cx:=cx) (x:=x) (tx:=tx) (n6:=0) (n7:=0))),.c 10,.c 10,.f 10,.c 9,.v 6 (fun al=>rCollL (q:=(al 3).n) (vs:=[Value.str (lt (ix x 0)) (al 5).n6,Value.str (lt (ix x 1)) ((al 5).L.headD 0),  Value.str (lt (ix x 2)) ((al 5).L2.headD 0)]) (n:=(al 5).n) Rin.nil (.c 9)),.c 0,.k,.v 7 (fun al=>rC KX hS [] 13 false (True) (fun _=>jn3 (t1:=(al 0).n) (t2:=(al 5).n6) (t3:=(al 5).L.headD 0) (t4:=(al 5).L2.headD 0) (ix x 0) (ix x 1) (ix x 2))),.c 8,.f 8,.c 4,.c 8,.b 8,.c 13,.e,.q,.e,.q,.v 9 (fun al=>rIlt (true)),.b 10,.c 1,.c 1,.c 1,.v 11 (fun al=>rLslice Rin.nil (.c 1) (.c 0) ([.str (sp (.c (ix x 0) (ix x 1) (ix x 2))) (al 7).n])),.e,.c 8,.c 0,.c 8,.v 12 (fun al=>rLadd (q1:=aw) (q2:=(al 11).n) (vs1:=W) (vs2:=[Value.str (sp (Pt.c (ix x 0) (ix x 1) (ix x 2))) (al 7).n]) (n1:=nw) (n2:=0) Rin.nil (.c 8) (.c 0)),.c 8,.f 8,.c 10,.c 12,.b 13,.c 17,.e,.q,.e,.q,.v 14 (fun al=>rIne (true)),.b 15,.c 1,.c 1,.c 1,.v 16 (fun al=>rLslice Rin.nil (.c 1) (.c 0) ([.str (sp (.c (ix x 0) (ix x 1) (ix x 2))) (al 7).n])),.e,.c 14,.c 0,.c 14,.v 17 (fun al=>rLadd (q1:=at') (q2:=(al 16).n) (vs1:=T) (vs2:=[Value.str (sp (Pt.c (ix x 0) (ix x 1) (ix x 2))) (al 7).n]) (n1:=nt) (n2:=0) Rin.nil (.c 14) (.c 0)),.c 14,.f 14] fun al=>end_A2 (c:=(lpAtC (wv b w).params 280 fr (lwCl cw ct cx cp cf ms mo) 1 [] (.ref it))) (cs:=(l1C (wv b w).params it lq cw _ ct _ cx cp fr q vs n (j + 1) _ _ 0 0 ks nf (some (.int x tx)) (some (.str (sp (.c (ix x 0) (ix x 1) (ix x 2))) _)))) (by kernel_rfl) (by kernel_rfl) rfl (by kernel_rfl) ⟨(fun hF=>⟨hT,Nat.le_of_ble_eq_true rfl⟩),(fun hF=>sl_1 _),(fun hF=>h2),(fun hF=>⟨hW,Nat.le_of_ble_eq_true rfl⟩),(fun hF=>sl_1 _),(fun hF=>h1),(fun hF=>trivial),(fun hF=>Nat.le_of_ble_eq_true rfl),(fun hF=>trivial),(fun hF=>xm_ok hm (Nat.le_of_ble_eq_true rfl)),(fun hF=>(by first | trivial | assumption | exact rfl | exact ⟨rfl,rfl⟩)),(fun hF=>hv),trivial⟩ fun hp t hF H=>?_)
 exact IH _ _ _ _ _ H
theorem l1_210 {R:Result→Shared→Prop}{h:Heap}{t:Nat}{B:Addr→Option Obj}{fr cw ct cx cp cf ms mo it lq aw at' q:Addr}{j n nw nt nf ks:Nat}{x:Int}{tx:Nat}{vs W T:List Value}{ox op:Option Value}
  (KX:Kin (KK (wv b w).params) B) (hS:(B sysModules).isSome=true) (H:Hp B h (l1C (wv b w).params it lq cw aw ct at' cx cp fr q vs n j W T nw nt ks nf ox op)) (hW:W.length≤1000) (hT:T.length≤1000) (hv:vs[j]?=some (.int x tx)) (hm:xm x=2) (h1:xW x=true) (h2:xT x=false)
  (IH:∀ h' t' aw' at'' tp,Hp B h' (l1C (wv b w).params it lq cw aw' ct at'' cx cp fr q vs n (j + 1) (W++[.str (sp (.c (ix x 0) (ix x 1) (ix x 2))) tp]) (T++[]) 0 0 ks nf (some (.int x tx)) (some (.str (sp (.c (ix x 0) (ix x 1) (ix x 2))) tp)))→codeAny (model prg (wv b w)) (AF 320 none) (lpAtC (wv b w).params 280 fr (lwCl cw ct cx cp cf ms mo) 1 [] (.ref it)) R ⟨h',g,d,t',os⟩) :
  codeAny (model prg (wv b w)) (AF 320 none) (lpAtC (wv b w).params 280 fr (lwCl cw ct cx cp cf ms mo) 1 [] (.ref it)) R ⟨h,g,d,t,os⟩:=by
 refine' go_code ?_
 (refine' run_T2 KX Rin.nil H 4000 ⟨[10,11,12,4,14,0,20,16,17],21⟩ rfl [.c 0,.v 0 (fun al=>rNext Rin.nil 0 (.c 1) (Value.int x tx)),.c 6,.f 6,.k,.k,.k,.c 6,.e,.q,.e,.q,.v 1 (fun al=>rRange (n:=1 + Z.modQ x 3) (t:=(al 0).n + 1 + 1 + 1 + 1)),.c 0,.c 0,.v 2 (fun al=>rRiter (r:=(al 1).n) (n:=1 + Z.modQ x 3) (t0:=(al 1).n2) (t:=(al 0).n + 1 + 1 + 1 + 1) (t1:=(al 1).n3) 0 (1 + 2)),.c 0,.b 3,.b 4,.v 5 (fun al=>rC KX hS [2,1,0,7] 9 false (True) (fun _=>jl_2 (fr:=fr) (it:=(al 2).n) (acc:=(al 3).n) (cf:=(al 4).n) (cx:=cx) (x:=x) (tx:=tx) (n6:=0) (n7:=0))),.c 10,.c 10,.f 10,.c 9,.v 6 (fun al=>rCollL (q:=(al 3).n) (vs:=[Value.str (lt (ix x 0)) (al 5).n6,Value.str (lt (ix x 1)) ((al 5).L.headD 0),  Value.str (lt (ix x 2)) ((al 5).L2.headD 0)]) (n:=(al 5).n) Rin.nil (.c 9)),.c 0,.k,.v 7 (fun al=>rC KX hS [] 13 false (True) (fun _=>jn3 (t1:=(al 0).n) (t2:=(al 5).n6) (t3:=(al 5).L.headD 0) (t4:=(al 5).L2.headD 0) (ix x 0) (ix x 1) (ix x 2))),.c 8,.f 8,.c 4,.c 8,.b 8,.c 13,.e,.q,.e,.q,.v 9 (fun al=>rIlt (true)),.b 10,.c 1,.c 1,.c 1,.v 11 (fun al=>rLslice Rin.nil (.c 1) (.c 0) ([.str (sp (.c (ix x 0) (ix x 1) (ix x 2))) (al 7).n])),.e,.c 8,.c 0,.c 8,.v 12 (fun al=>rLadd (q1:=aw) (q2:=(al 11).n) (vs1:=W) (vs2:=[Value.str (sp (Pt.c (ix x 0) (ix x 1) (ix x 2))) (al 7).n]) (n1:=nw) (n2:=0) Rin.nil (.c 8) (.c 0)),.c 8,.f 8,.c 10,.c 12,.b 13,.c 17,.e,.q,.e,.q,.v 14 (fun al=>rIne (false)),.b 15,.c 1,.c 1,.c 1,.v 16 (fun al=>rLslice Rin.nil (.c 1) (.c 0) ([])),.e,.c 14,.c 0,.c 14,.v 17 (fun al=>rLadd (q1:=at') (q2:=(al 16).n) (vs1:=T) (vs2:=[]) (n1:=nt) (n2:=0) Rin.nil (.c 14) (.c 0)),.c 14,.f 14] fun al=>end_A2 (c:=(lpAtC (wv b w).params 280 fr (lwCl cw ct cx cp cf ms mo) 1 [] (.ref it))) (cs:=(l1C (wv b w).params it lq cw _ ct _ cx cp fr q vs n (j + 1) _ _ 0 0 ks nf (some (.int x tx)) (some (.str (sp (.c (ix x 0) (ix x 1) (ix x 2))) _)))) (by kernel_rfl) (by kernel_rfl) rfl (by kernel_rfl) ⟨(fun hF=>⟨hT,Nat.le_of_ble_eq_true rfl⟩),(fun hF=>sl_0 _),(fun hF=>h2),(fun hF=>⟨hW,Nat.le_of_ble_eq_true rfl⟩),(fun hF=>sl_1 _),(fun hF=>h1),(fun hF=>trivial),(fun hF=>Nat.le_of_ble_eq_true rfl),(fun hF=>trivial),(fun hF=>xm_ok hm (Nat.le_of_ble_eq_true rfl)),(fun hF=>(by first | trivial | assumption | exact rfl | exact ⟨rfl,rfl⟩)),(fun hF=>hv),trivial⟩ fun hp t hF H=>?_)
 exact IH _ _ _ _ _ H
theorem l1_201 {R:Result→Shared→Prop}{h:Heap}{t:Nat}{B:Addr→Option Obj}{fr cw ct cx cp cf ms mo it lq aw at' q:Addr}{j n nw nt nf ks:Nat}{x:Int}{tx:Nat}{vs W T:List Value}{ox op:Option Value}
  (KX:Kin (KK (wv b w).params) B) (hS:(B sysModules).isSome=true) (H:Hp B h (l1C (wv b w).params it lq cw aw ct at' cx cp fr q vs n j W T nw nt ks nf ox op)) (hW:W.length≤1000) (hT:T.length≤1000) (hv:vs[j]?=some (.int x tx)) (hm:xm x=2) (h1:xW x=false) (h2:xT x=true)
  (IH:∀ h' t' aw' at'' tp,Hp B h' (l1C (wv b w).params it lq cw aw' ct at'' cx cp fr q vs n (j + 1) (W++[]) (T++[.str (sp (.c (ix x 0) (ix x 1) (ix x 2))) tp]) 0 0 ks nf (some (.int x tx)) (some (.str (sp (.c (ix x 0) (ix x 1) (ix x 2))) tp)))→codeAny (model prg (wv b w)) (AF 320 none) (lpAtC (wv b w).params 280 fr (lwCl cw ct cx cp cf ms mo) 1 [] (.ref it)) R ⟨h',g,d,t',os⟩) :
  codeAny (model prg (wv b w)) (AF 320 none) (lpAtC (wv b w).params 280 fr (lwCl cw ct cx cp cf ms mo) 1 [] (.ref it)) R ⟨h,g,d,t,os⟩:=by
 refine' go_code ?_
 (refine' run_T2 KX Rin.nil H 4000 ⟨[10,11,12,4,14,0,20,16,17],21⟩ rfl [.c 0,.v 0 (fun al=>rNext Rin.nil 0 (.c 1) (Value.int x tx)),.c 6,.f 6,.k,.k,.k,.c 6,.e,.q,.e,.q,.v 1 (fun al=>rRange (n:=1 + Z.modQ x 3) (t:=(al 0).n + 1 + 1 + 1 + 1)),.c 0,.c 0,.v 2 (fun al=>rRiter (r:=(al 1).n) (n:=1 + Z.modQ x 3) (t0:=(al 1).n2) (t:=(al 0).n + 1 + 1 + 1 + 1) (t1:=(al 1).n3) 0 (1 + 2)),.c 0,.b 3,.b 4,.v 5 (fun al=>rC KX hS [2,1,0,7] 9 false (True) (fun _=>jl_2 (fr:=fr) (it:=(al 2).n) (acc:=(al 3).n) (cf:=(al 4).n) (cx:=cx) (x:=x) (tx:=tx) (n6:=0) (n7:=0))),.c 10,.c 10,.f 10,.c 9,.v 6 (fun al=>rCollL (q:=(al 3).n) (vs:=[Value.str (lt (ix x 0)) (al 5).n6,Value.str (lt (ix x 1)) ((al 5).L.headD 0),  Value.str (lt (ix x 2)) ((al 5).L2.headD 0)]) (n:=(al 5).n) Rin.nil (.c 9)),.c 0,.k,.v 7 (fun al=>rC KX hS [] 13 false (True) (fun _=>jn3 (t1:=(al 0).n) (t2:=(al 5).n6) (t3:=(al 5).L.headD 0) (t4:=(al 5).L2.headD 0) (ix x 0) (ix x 1) (ix x 2))),.c 8,.f 8,.c 4,.c 8,.b 8,.c 13,.e,.q,.e,.q,.v 9 (fun al=>rIlt (false)),.b 10,.c 1,.c 1,.c 1,.v 11 (fun al=>rLslice Rin.nil (.c 1) (.c 0) ([])),.e,.c 8,.c 0,.c 8,.v 12 (fun al=>rLadd (q1:=aw) (q2:=(al 11).n) (vs1:=W) (vs2:=[]) (n1:=nw) (n2:=0) Rin.nil (.c 8) (.c 0)),.c 8,.f 8,.c 10,.c 12,.b 13,.c 17,.e,.q,.e,.q,.v 14 (fun al=>rIne (true)),.b 15,.c 1,.c 1,.c 1,.v 16 (fun al=>rLslice Rin.nil (.c 1) (.c 0) ([.str (sp (.c (ix x 0) (ix x 1) (ix x 2))) (al 7).n])),.e,.c 14,.c 0,.c 14,.v 17 (fun al=>rLadd (q1:=at') (q2:=(al 16).n) (vs1:=T) (vs2:=[Value.str (sp (Pt.c (ix x 0) (ix x 1) (ix x 2))) (al 7).n]) (n1:=nt) (n2:=0) Rin.nil (.c 14) (.c 0)),.c 14,.f 14] fun al=>end_A2 (c:=(lpAtC (wv b w).params 280 fr (lwCl cw ct cx cp cf ms mo) 1 [] (.ref it))) (cs:=(l1C (wv b w).params it lq cw _ ct _ cx cp fr q vs n (j + 1) _ _ 0 0 ks nf (some (.int x tx)) (some (.str (sp (.c (ix x 0) (ix x 1) (ix x 2))) _)))) (by kernel_rfl) (by kernel_rfl) rfl (by kernel_rfl) ⟨(fun hF=>⟨hT,Nat.le_of_ble_eq_true rfl⟩),(fun hF=>sl_1 _),(fun hF=>h2),(fun hF=>⟨hW,Nat.le_of_ble_eq_true rfl⟩),(fun hF=>sl_0 _),(fun hF=>h1),(fun hF=>trivial),(fun hF=>Nat.le_of_ble_eq_true rfl),(fun hF=>trivial),(fun hF=>xm_ok hm (Nat.le_of_ble_eq_true rfl)),(fun hF=>(by first | trivial | assumption | exact rfl | exact ⟨rfl,rfl⟩)),(fun hF=>hv),trivial⟩ fun hp t hF H=>?_)
 exact IH _ _ _ _ _ H
end
section
variable {b:Bool}{w:World}{g:Array GenState}{d:Drawn}{os:OsState}
theorem l1_end {R:Result→Shared→Prop}{h:Heap}{t:Nat}{B:Addr→Option Obj}{fr cw ct cx cp cf ms mo it lq aw at' q:Addr}{j n nw nt nf ks:Nat}{vs W T:List Value}{ox op:Option Value}
  (KX:Kin (KK (wv b w).params) B) (H:Hp B h (l1C (wv b w).params it lq cw aw ct at' cx cp fr q vs n j W T nw nt ks nf ox op)) (hv:vs[j]?=none)
  (x':∀ h' t',Hp B h' [(cw,cellQ (some (.ref aw))),(aw,lst W nw),(ct,cellQ (some (.ref at'))),(at',lst T nt),(cp,cellQ op),(fr,locO [ent (wv b w).params "script" ks (.ref q)] nf)]→R (.ok .next) ⟨h',g,d,t',os⟩) :
  codeAny (model prg (wv b w)) (AF 320 none) (lpAtC (wv b w).params 280 fr (lwCl cw ct cx cp cf ms mo) 1 [] (.ref it)) R ⟨h,g,d,t,os⟩:=by
 refine' go_code ?_
 (refine' run_T KX Rin.nil H 4000 ⟨[3,4,5,6,8,9],10⟩ rfl [.c 0,.v 0 (fun al=>rNextEnd Rin.nil 0 (.c 1)),.c 0] fun al=>end_R (r:=(.ok .next)) (cs:=[(cw,cellQ (some (.ref aw))),(aw,lst W nw),(ct,cellQ (some (.ref at'))),(at',lst T nt),(cp,cellQ op),(fr,locO [ent (wv b w).params "script" ks (.ref q)] nf)]) (by kernel_rfl) rfl  ⟨(fun hF=>hv),trivial⟩ fun hp t hF H=>?_)
 exact x' _ _ H
theorem xWT (x:Int) (h1:xW x=false) (h2:xT x=false):False:=by
 unfold xW at h1
 unfold xT at h2
 have h1:=of_decide_eq_false h1
 simp at h2
 omega
noncomputable def NR (L:List PT):Prop:=∃ p∈pts L,p≠.r
noncomputable def LwF (V V2:List Value):Prop:=∃ W T:List PT,V=W.map pv∧V2=T.map pv∧(Pt.r∈pts W∧NR W)∧(Pt.r∈pts T∧NR T)∧W.length≤12∧T.length≤12
theorem l1_loop {fr cw ct cx cp cf ms mo it lq aw at' q:Addr}{n nw nt nf ks t1 t2:Nat}{vs:List Value}{ox op:Option Value}(hi:∀ v∈vs,∃ x tx,v=.int x tx) (hl:vs.length≤11) (h0:0 < vs.length) (hx:∃ (k:Nat) (x0:Int) (t0:Nat),vs[k]?=some (Value.int x0 t0)∧xW x0=true∧xT x0=true) :
  Ct prg (wv b w) 320 none (KK (wv b w).params) g d os (lpAtC (wv b w).params 280 fr (lwCl cw ct cx cp cf ms mo) 1 [] (.ref it)) (l1C (wv b w).params it lq cw aw ct at' cx cp fr q vs n 0 [.str (Str.ofString "/") t1] [.str (Str.ofString "/") t2] nw nt ks nf ox op) (some fun u => LwF u.V u.V2)
    fun u=>(.ok .next,[(cw,cellQ (some (.ref u.n))),(u.n,lst u.V u.n2),(ct,cellQ (some (.ref u.n3))),(u.n3,lst u.V2 u.n4),(cp,cellQ (some u.v)),(fr,locO [ent (wv b w).params "script" ks (.ref q)] nf)]):=by
 refine ⟨fun B h t R KX hS H x'=>?_⟩
 refine loopI (σ := Nat) (fun j => vs.length - j) (fun j h => ∃ aw at', ∃ W T : List PT, ∃ nw nt ox op, Hp B h (l1C (wv b w).params it lq cw aw ct at' cx cp fr q vs n j (W.map pv) (T.map pv) nw nt ks nf ox op) ∧ Pt.r ∈ pts W ∧ Pt.r ∈ pts T ∧ W.length ≤ j + 1 ∧ T.length ≤ j + 1 ∧ (j = 0 ∨ ∃ v, op = some v) ∧ j ≤ vs.length ∧ ∀ (k : Nat) (x0 : Int) (t0 : Nat), k < j → vs[k]? = some (Value.int x0 t0) → xW x0 = true → xT x0 = true → NR W ∧ NR T)
   (fun j h t hinv IH=>?_) (x:=0) ⟨aw,at',[(.r,t1)],[(.r,t2)],nw,nt,ox,op,H,.head _,.head _,Nat.le_refl _,Nat.le_refl _,.inl rfl,Nat.zero_le _,fun _ _ _ h=>absurd h (Nat.not_lt_zero _)⟩
 obtain ⟨aw,at',W,T,nw,nt,ox,op,H,hrW,hrT,hlW,hlT,hop,hjl,hnr⟩:=hinv
 rcases hv:vs[j]? with _ | v
 · have hj := List.getElem?_eq_none_iff.mp hv
   obtain ⟨v,rfl⟩:=hop.resolve_left (by omega)
   obtain ⟨k,x0,t0,hk1,hk2,hk3⟩:=hx
   have hnr:=hnr k x0 t0 (Nat.lt_of_lt_of_le (List.getElem?_eq_some_iff.mp hk1).1 hj) hk1 hk2 hk3
   exact l1_end KX H hv fun h' t' H=>x' { xd0 with n:=aw,V:=W.map pv,n2:=nw,n3:=at',V2:=T.map pv,n4:=nt,v:=v,t:=t' } h' ⟨⟨W,T,rfl,rfl,⟨hrW,hnr.1⟩,⟨hrT,hnr.2⟩,by omega,by omega⟩,trivial⟩ H
 · have hj : j < vs.length := (List.getElem?_eq_some_iff.mp hv).1
   obtain ⟨x,tx,rfl⟩:=hi v (List.mem_of_getElem? hv)
   have hW:(W.map pv).length≤1000:=by rw [List.length_map];omega
   have hT:(T.map pv).length≤1000:=by rw [List.length_map];omega
   have h3:=xm_lt x
   have fin : ∀ {aw' at'' : Addr} {W' T' : List PT} {op' : Value} {h' t'}, Hp B h' (l1C (wv b w).params it lq cw aw' ct at'' cx cp fr q vs n (j + 1) (W'.map pv) (T'.map pv) 0 0 ks nf (some (.int x tx)) (some op')) → Pt.r ∈ pts W' → Pt.r ∈ pts T' → W'.length ≤ j + 1 + 1 → T'.length ≤ j + 1 + 1 → ((xW x = true → xT x = true → NR W' ∧ NR T') ∧ (NR W → NR W') ∧ (NR T → NR T')) → codeAny (model prg (wv b w)) (AF 320 none) (lpAtC (wv b w).params 280 fr (lwCl cw ct cx cp cf ms mo) 1 [] (.ref it)) R ⟨h', g, d, t', os⟩ :=
     fun H a b c e f => IH (j + 1) _ _ (by omega) ⟨_, _, _, _, _, _, _, _, H, a, b, c, e, .inr ⟨_, rfl⟩, hj, fun k x0 t0 hk h1 h2 h3 => by
       rcases Nat.lt_or_eq_of_le (Nat.le_of_lt_succ hk) with hk | rfl
       · exact ⟨f.2.1 (hnr k x0 t0 hk h1 h2 h3).1,f.2.2 (hnr k x0 t0 hk h1 h2 h3).2⟩
       · rw [hv] at h1
         cases h1
         exact f.1 h2 h3⟩
   have snoc:∀ (L:List PT) (p:Pt) (tp:Nat),L.map pv++[.str (sp p) tp]=(L++[(p,tp)]).map pv:=fun L p tp=>by simp [pv]
   have mem:∀ {L:List PT}(y:PT),Pt.r∈pts L→Pt.r∈pts (L++[y]):=fun y h=>by rw [pts_snoc];exact List.mem_append_left _ h
   have nw:∀ {L:List PT}{p:Pt}{tp:Nat},p≠.r→NR (L++[(p,tp)]):=fun {L p tp} h=>⟨p,by rw [pts_snoc];exact List.mem_append_right _ (.head _),h⟩
   have mo:∀ {L:List PT}(y:PT),NR L→NR (L++[y]):=fun y ⟨p,h1,h2⟩=>⟨p,by rw [pts_snoc];exact List.mem_append_left _ h1,h2⟩
   have len:∀ {L:List PT}(y:PT),L.length≤j + 1→(L++[y]).length≤j + 1 + 1:=fun y h=>by rw [List.length_append];exact Nat.succ_le_succ h
   rcases h1:xW x with _ | _ <;> rcases h2:xT x with _ | _
   · exact (xWT x h1 h2).elim
   · rcases hm : xm x with _ | _ | _ | _
     · exact l1_001 KX hS H hW hT hv hm h1 h2 fun h' t' aw' at'' tp H => by
         rw [List.append_nil (W.map pv),snoc T] at H
         exact fin H hrW (mem _ hrT) (Nat.le_succ_of_le hlW) (len _ hlT) ⟨fun h _=>absurd (h1.symm.trans h) Bool.false_ne_true,id,mo _⟩
     · exact l1_101 KX hS H hW hT hv hm h1 h2 fun h' t' aw' at'' tp H => by
         rw [List.append_nil (W.map pv),snoc T] at H
         exact fin H hrW (mem _ hrT) (Nat.le_succ_of_le hlW) (len _ hlT) ⟨fun h _=>absurd (h1.symm.trans h) Bool.false_ne_true,id,mo _⟩
     · exact l1_201 KX hS H hW hT hv hm h1 h2 fun h' t' aw' at'' tp H => by
         rw [List.append_nil (W.map pv),snoc T] at H
         exact fin H hrW (mem _ hrT) (Nat.le_succ_of_le hlW) (len _ hlT) ⟨fun h _=>absurd (h1.symm.trans h) Bool.false_ne_true,id,mo _⟩
     · omega
   · rcases hm : xm x with _ | _ | _ | _
     · exact l1_010 KX hS H hW hT hv hm h1 h2 fun h' t' aw' at'' tp H => by
         rw [snoc W,List.append_nil (T.map pv)] at H
         exact fin H (mem _ hrW) hrT (len _ hlW) (Nat.le_succ_of_le hlT) ⟨fun _ h=>absurd (h2.symm.trans h) Bool.false_ne_true,mo _,id⟩
     · exact l1_110 KX hS H hW hT hv hm h1 h2 fun h' t' aw' at'' tp H => by
         rw [snoc W,List.append_nil (T.map pv)] at H
         exact fin H (mem _ hrW) hrT (len _ hlW) (Nat.le_succ_of_le hlT) ⟨fun _ h=>absurd (h2.symm.trans h) Bool.false_ne_true,mo _,id⟩
     · exact l1_210 KX hS H hW hT hv hm h1 h2 fun h' t' aw' at'' tp H => by
         rw [snoc W,List.append_nil (T.map pv)] at H
         exact fin H (mem _ hrW) hrT (len _ hlW) (Nat.le_succ_of_le hlT) ⟨fun _ h=>absurd (h2.symm.trans h) Bool.false_ne_true,mo _,id⟩
     · omega
   · rcases hm : xm x with _ | _ | _ | _
     · exact l1_011 KX hS H hW hT hv hm h1 h2 fun h' t' aw' at'' tp H => by
         rw [snoc W,snoc T] at H
         exact fin H (mem _ hrW) (mem _ hrT) (len _ hlW) (len _ hlT) ⟨fun _ _=>⟨nw nofun,nw nofun⟩,mo _,mo _⟩
     · exact l1_111 KX hS H hW hT hv hm h1 h2 fun h' t' aw' at'' tp H => by
         rw [snoc W,snoc T] at H
         exact fin H (mem _ hrW) (mem _ hrT) (len _ hlW) (len _ hlT) ⟨fun _ _=>⟨nw nofun,nw nofun⟩,mo _,mo _⟩
     · exact l1_211 KX hS H hW hT hv hm h1 h2 fun h' t' aw' at'' tp H => by
         rw [snoc W,snoc T] at H
         exact fin H (mem _ hrW) (mem _ hrT) (len _ hlW) (len _ hlT) ⟨fun _ _=>⟨nw nofun,nw nofun⟩,mo _,mo _⟩
     · omega
end
noncomputable def fI (W:List PT) (v:PT):List PT:=if v.1∈pts W then [v] else []
noncomputable def fN (W:List PT) (v:PT):List PT:=if v.1∈pts W then [] else [v]
theorem fI_1 {W:List PT}{v:PT}:(fI W v).length≤1:=by unfold fI;split <;> simp
theorem fN_1 {W:List PT}{v:PT}:(fN W v).length≤1:=by unfold fN;split <;> simp
theorem f_len {W M:List PT}{v:PT}{j:Nat}{f:List PT→PT→List PT}(h:M.length≤j) (hf:(f W v).length≤1):(M++f W v).length≤j + 1:=by
 rw [List.length_append];omega
noncomputable def fcR (it q acc cf cc aw:Addr) (L W:List PT) (n nw j:Nat) (ra:List Value) (n6:Nat) (ex:List DictEntry) (n7:Nat):List (Addr×Obj) :=
 [(it,itL q j),(q,lst (L.map pv) n),(acc,lst ra n6),(cf,dO ex.toArray n7),(cc,cellQ (some (.ref aw))),(aw,lst (W.map pv) nw)]
noncomputable def fcC (it q acc cf cc aw:Addr) (L W:List PT) (n nw j:Nat) (M:List PT) (n6:Nat) (ex:List DictEntry) (n7:Nat):List (Addr×Obj):=fcR it q acc cf cc aw L W n nw j (M.map pv) n6 ex n7
theorem fcS {it q acc cf cc aw:Addr}{L W:List PT}{n nw j:Nat}{M:List PT}{v:PT}{n6:Nat}{ex:List DictEntry}{n7:Nat}:fcC it q acc cf cc aw L W n nw j (M++[v]) n6 ex n7=fcR it q acc cf cc aw L W n nw j (M.map pv++[pv v]) n6 ex n7:=by unfold fcC;rw [map_snoc]
section
variable {b:Bool}{w:World}{g:Array GenState}{d:Drawn}{os:OsState}
theorem kA_t {R:Result→Shared→Prop}{h:Heap}{t:Nat}{B:Addr→Option Obj}{fr it q acc cf cc aw:Addr}{n n6 n7 nw j:Nat}{L W M:List PT}{v:PT}{ex:List DictEntry}
  (KX:Kin (KK (wv b w).params) B) (H:Hp B h (fcC it q acc cf cc aw L W n nw j M n6 ex n7)) (hv:(L.map pv)[j]?=some (pv v)) (hM:(M.map pv).length≤1000) (hex:ex=[]∨∃ tk v,ex=[ent (wv b w).params "path" tk (pv v)])
  (IH:∀ h' t' tk n6 n7,Hp B h' (fcC it q acc cf cc aw L W n nw (j + 1) (M++fN W v) n6 [ent (wv b w).params "path" tk (pv v)] n7)→codeAny (model prg (wv b w)) (AF 330 none) (cpAt (wv b w).params 280 fr cf [(Str.ofString "wished",cc)] (ceAt (wv b w).params 280 3 [] [1]) 0 it acc) R ⟨h',g,d,t',os⟩) :
  codeAny (model prg (wv b w)) (AF 330 none) (cpAt (wv b w).params 280 fr cf [(Str.ofString "wished",cc)] (ceAt (wv b w).params 280 3 [] [1]) 0 it acc) R ⟨h,g,d,t,os⟩:=by
 rcases hb:decide (v.1∈pts W) with _ | _
 · rcases hex with rfl | ⟨tk, v0, rfl⟩
   · refine' go_code ?_
     (refine' run_T KX Rin.nil H 4000 ⟨[0,1,2,3,4,5],6⟩ rfl [.c 0,.v 0 (fun al=>rNext Rin.nil 0 (.c 1) (pv v)),.c 3,.f 3,.c 3,.c 4,.c 5,.c 5,.v 1 (fun al=>rContains Rin.nil (.c 5) (W) (v.1) (false)),.c 3,.v 2 (fun al=>rAppend 2)] fun al=>end_A (c:=(cpAt (wv b w).params 280 fr cf [(Str.ofString "wished",cc)] (ceAt (wv b w).params 280 3 [] [1]) 0 it acc)) (cs:=(fcR it q acc cf cc aw L W n nw (j + 1) (M.map pv++[pv v]) _ [ent (wv b w).params "path" _ (pv v)] _)) (by kernel_rfl) rfl  ⟨(fun hF=>hM),(fun hF=>hb),(fun hF=>hv),trivial⟩ fun hp t hF H=>?_)
     exact IH _ _ _ _ _ (by unfold fN;rw [if_neg (of_decide_eq_false hb),fcS];exact H)
   · refine' go_code ?_
     (refine' run_T KX Rin.nil H 4000 ⟨[0,1,2,3,4,5],6⟩ rfl [.c 0,.v 0 (fun al=>rNext Rin.nil 0 (.c 1) (pv v)),.c 3,.f 3,.c 3,.c 4,.c 5,.c 5,.v 1 (fun al=>rContains Rin.nil (.c 5) (W) (v.1) (false)),.c 3,.v 2 (fun al=>rAppend 2)] fun al=>end_A (c:=(cpAt (wv b w).params 280 fr cf [(Str.ofString "wished",cc)] (ceAt (wv b w).params 280 3 [] [1]) 0 it acc)) (cs:=(fcR it q acc cf cc aw L W n nw (j + 1) (M.map pv++[pv v]) _ [ent (wv b w).params "path" _ (pv v)] _)) (by kernel_rfl) rfl  ⟨(fun hF=>hM),(fun hF=>hb),(fun hF=>hv),trivial⟩ fun hp t hF H=>?_)
     exact IH _ _ _ _ _ (by unfold fN;rw [if_neg (of_decide_eq_false hb),fcS];exact H)
 · rcases hex with rfl | ⟨tk, v0, rfl⟩
   · refine' go_code ?_
     (refine' run_T KX Rin.nil H 4000 ⟨[0,1,2,3,4,5],6⟩ rfl [.c 0,.v 0 (fun al=>rNext Rin.nil 0 (.c 1) (pv v)),.c 3,.f 3,.c 3,.c 4,.c 5,.c 5,.v 1 (fun al=>rContains Rin.nil (.c 5) (W) (v.1) (true))] fun al=>end_A (c:=(cpAt (wv b w).params 280 fr cf [(Str.ofString "wished",cc)] (ceAt (wv b w).params 280 3 [] [1]) 0 it acc)) (cs:=(fcR it q acc cf cc aw L W n nw (j + 1) (M.map pv) _ [ent (wv b w).params "path" _ (pv v)] _)) (by kernel_rfl) rfl  ⟨(fun hF=>hb),(fun hF=>hv),trivial⟩ fun hp t hF H=>?_)
     exact IH _ _ _ _ _ (by unfold fN;rw [if_pos (of_decide_eq_true hb),List.append_nil];exact H)
   · refine' go_code ?_
     (refine' run_T KX Rin.nil H 4000 ⟨[0,1,2,3,4,5],6⟩ rfl [.c 0,.v 0 (fun al=>rNext Rin.nil 0 (.c 1) (pv v)),.c 3,.f 3,.c 3,.c 4,.c 5,.c 5,.v 1 (fun al=>rContains Rin.nil (.c 5) (W) (v.1) (true))] fun al=>end_A (c:=(cpAt (wv b w).params 280 fr cf [(Str.ofString "wished",cc)] (ceAt (wv b w).params 280 3 [] [1]) 0 it acc)) (cs:=(fcR it q acc cf cc aw L W n nw (j + 1) (M.map pv) _ [ent (wv b w).params "path" _ (pv v)] _)) (by kernel_rfl) rfl  ⟨(fun hF=>hb),(fun hF=>hv),trivial⟩ fun hp t hF H=>?_)
     exact IH _ _ _ _ _ (by unfold fN;rw [if_pos (of_decide_eq_true hb),List.append_nil];exact H)
theorem kA_e {R:Result→Shared→Prop}{h:Heap}{t:Nat}{B:Addr→Option Obj}{fr it q acc cf cc aw:Addr}{n n6 n7 nw j:Nat}{L W M:List PT}{ex:List DictEntry}
  (KX:Kin (KK (wv b w).params) B) (H:Hp B h (fcC it q acc cf cc aw L W n nw j M n6 ex n7)) (hv:(L.map pv)[j]?=none)
  (x:∀ h' t',Hp B h' (fcC it q acc cf cc aw L W n nw j M n6 ex n7).tail→R (.ok .next) ⟨h',g,d,t',os⟩) :
  codeAny (model prg (wv b w)) (AF 330 none) (cpAt (wv b w).params 280 fr cf [(Str.ofString "wished",cc)] (ceAt (wv b w).params 280 3 [] [1]) 0 it acc) R ⟨h,g,d,t,os⟩:=by
 refine' go_code ?_
 (refine' run_T KX Rin.nil H 4000 ⟨[2,3,4,5,6],7⟩ rfl [.c 0,.v 0 (fun al=>rNextEnd Rin.nil 0 (.c 1)),.c 0] fun al=>end_R (r:=(.ok .next)) (cs:=(fcC it q acc cf cc aw L W n nw j M n6 ex n7).tail) (by kernel_rfl) rfl  ⟨(fun hF=>hv),trivial⟩ fun hp t hF H=>?_)
 exact x _ _ H
theorem kA {fr it q acc cf cc aw:Addr}{n n6 n7 nw:Nat}{L W:List PT}(hL:L≠[]) (hl:L.length≤1000) :
  Ct prg (wv b w) 330 none (KK (wv b w).params) g d os (csAt (wv b w).params 280 fr cf [(Str.ofString "wished", cc)] (ceAt (wv b w).params 280 3 [] [1]) 0 it acc) (fcC it q acc cf cc aw L W n nw 0 [] n6 [] n7) none
    fun u=>(.ok .next,(fcC it q acc cf cc aw L W n nw 0 (L.flatMap (fN W)) u.n [ent (wv b w).params "path" u.n2 (pv (L.getLast?.getD (.r,0)))] u.n3).tail):=by
 refine ⟨fun B h t R KX hS H x=>comp_lst H 0 rfl (foldI (c:=(cpAt (wv b w).params 280 fr cf [(Str.ofString "wished",cc)] (ceAt (wv b w).params 280 3 [] [1]) 0 it acc)) L (fN W) (fun j M h=>M.length≤j∧∃ n6 ex n7,Hp B h (fcC it q acc cf cc aw L W n nw j M n6 ex n7)∧((j=0∧ex=[])∨∃ tk v,L[j - 1]?=some v∧ex=[ent (wv b w).params "path" tk (pv v)])) (fun j v M h t hv hi IH=>?_) (fun h t hi=>?_) ⟨Nat.zero_le _,n6,[],n7,H,.inl ⟨rfl,rfl⟩⟩)⟩
 · obtain ⟨hM, n6, ex, n7, H, hex⟩ := hi
   have hj:j < L.length:=(List.getElem?_eq_some_iff.mp hv).1
   exact kA_t KX H (item_of hv) (by rw [List.length_map];omega) (hex.imp (·.2) fun ⟨tk,v,_,e⟩=>⟨tk,v,e⟩) fun h' t' tk n6 n7 H=>IH h' t' ⟨f_len hM fN_1,n6,_,n7,H,.inr ⟨tk,v,hv,rfl⟩⟩
 · obtain ⟨hM, n6, ex, n7, H, hex⟩ := hi
   obtain ⟨tk,v,hv,rfl⟩:=hex.resolve_left fun z=>hL (List.eq_nil_of_length_eq_zero z.1)
   obtain rfl:L.getLast?.getD (.r,0)=v:=by rw [List.getLast?_eq_getElem?,hv];rfl
   exact kA_e KX H (item_no (List.getElem?_eq_none (Nat.le_refl _))) fun h' t' H=>x { xd0 with n:=n6,n2:=tk,n3:=n7,t:=t' } h' trivial H
theorem kB_t {R:Result→Shared→Prop}{h:Heap}{t:Nat}{B:Addr→Option Obj}{fr it q acc cf cc aw:Addr}{n n6 n7 nw j:Nat}{L W M:List PT}{v:PT}{ex:List DictEntry}
  (KX:Kin (KK (wv b w).params) B) (H:Hp B h (fcC it q acc cf cc aw L W n nw j M n6 ex n7)) (hv:(L.map pv)[j]?=some (pv v)) (hM:(M.map pv).length≤1000) (hex:ex=[]∨∃ tk v,ex=[ent (wv b w).params "path" tk (pv v)])
  (IH:∀ h' t' tk n6 n7,Hp B h' (fcC it q acc cf cc aw L W n nw (j + 1) (M++fN W v) n6 [ent (wv b w).params "path" tk (pv v)] n7)→codeAny (model prg (wv b w)) (AF 330 none) (cpAt (wv b w).params 280 fr cf [(Str.ofString "there",cc)] (ceAt (wv b w).params 280 7 [] [0,1]) 0 it acc) R ⟨h',g,d,t',os⟩) :
  codeAny (model prg (wv b w)) (AF 330 none) (cpAt (wv b w).params 280 fr cf [(Str.ofString "there",cc)] (ceAt (wv b w).params 280 7 [] [0,1]) 0 it acc) R ⟨h,g,d,t,os⟩:=by
 rcases hb:decide (v.1∈pts W) with _ | _
 · rcases hex with rfl | ⟨tk, v0, rfl⟩
   · refine' go_code ?_
     (refine' run_T KX Rin.nil H 4000 ⟨[0,1,2,3,4,5],6⟩ rfl [.c 0,.v 0 (fun al=>rNext Rin.nil 0 (.c 1) (pv v)),.c 3,.f 3,.c 3,.c 4,.c 5,.c 5,.v 1 (fun al=>rContains Rin.nil (.c 5) (W) (v.1) (false)),.c 3,.v 2 (fun al=>rAppend 2)] fun al=>end_A (c:=(cpAt (wv b w).params 280 fr cf [(Str.ofString "there",cc)] (ceAt (wv b w).params 280 7 [] [0,1]) 0 it acc)) (cs:=(fcR it q acc cf cc aw L W n nw (j + 1) (M.map pv++[pv v]) _ [ent (wv b w).params "path" _ (pv v)] _)) (by kernel_rfl) rfl  ⟨(fun hF=>hM),(fun hF=>hb),(fun hF=>hv),trivial⟩ fun hp t hF H=>?_)
     exact IH _ _ _ _ _ (by unfold fN;rw [if_neg (of_decide_eq_false hb),fcS];exact H)
   · refine' go_code ?_
     (refine' run_T KX Rin.nil H 4000 ⟨[0,1,2,3,4,5],6⟩ rfl [.c 0,.v 0 (fun al=>rNext Rin.nil 0 (.c 1) (pv v)),.c 3,.f 3,.c 3,.c 4,.c 5,.c 5,.v 1 (fun al=>rContains Rin.nil (.c 5) (W) (v.1) (false)),.c 3,.v 2 (fun al=>rAppend 2)] fun al=>end_A (c:=(cpAt (wv b w).params 280 fr cf [(Str.ofString "there",cc)] (ceAt (wv b w).params 280 7 [] [0,1]) 0 it acc)) (cs:=(fcR it q acc cf cc aw L W n nw (j + 1) (M.map pv++[pv v]) _ [ent (wv b w).params "path" _ (pv v)] _)) (by kernel_rfl) rfl  ⟨(fun hF=>hM),(fun hF=>hb),(fun hF=>hv),trivial⟩ fun hp t hF H=>?_)
     exact IH _ _ _ _ _ (by unfold fN;rw [if_neg (of_decide_eq_false hb),fcS];exact H)
 · rcases hex with rfl | ⟨tk, v0, rfl⟩
   · refine' go_code ?_
     (refine' run_T KX Rin.nil H 4000 ⟨[0,1,2,3,4,5],6⟩ rfl [.c 0,.v 0 (fun al=>rNext Rin.nil 0 (.c 1) (pv v)),.c 3,.f 3,.c 3,.c 4,.c 5,.c 5,.v 1 (fun al=>rContains Rin.nil (.c 5) (W) (v.1) (true))] fun al=>end_A (c:=(cpAt (wv b w).params 280 fr cf [(Str.ofString "there",cc)] (ceAt (wv b w).params 280 7 [] [0,1]) 0 it acc)) (cs:=(fcR it q acc cf cc aw L W n nw (j + 1) (M.map pv) _ [ent (wv b w).params "path" _ (pv v)] _)) (by kernel_rfl) rfl  ⟨(fun hF=>hb),(fun hF=>hv),trivial⟩ fun hp t hF H=>?_)
     exact IH _ _ _ _ _ (by unfold fN;rw [if_pos (of_decide_eq_true hb),List.append_nil];exact H)
   · refine' go_code ?_
     (refine' run_T KX Rin.nil H 4000 ⟨[0,1,2,3,4,5],6⟩ rfl [.c 0,.v 0 (fun al=>rNext Rin.nil 0 (.c 1) (pv v)),.c 3,.f 3,.c 3,.c 4,.c 5,.c 5,.v 1 (fun al=>rContains Rin.nil (.c 5) (W) (v.1) (true))] fun al=>end_A (c:=(cpAt (wv b w).params 280 fr cf [(Str.ofString "there",cc)] (ceAt (wv b w).params 280 7 [] [0,1]) 0 it acc)) (cs:=(fcR it q acc cf cc aw L W n nw (j + 1) (M.map pv) _ [ent (wv b w).params "path" _ (pv v)] _)) (by kernel_rfl) rfl  ⟨(fun hF=>hb),(fun hF=>hv),trivial⟩ fun hp t hF H=>?_)
     exact IH _ _ _ _ _ (by unfold fN;rw [if_pos (of_decide_eq_true hb),List.append_nil];exact H)
theorem kB_e {R:Result→Shared→Prop}{h:Heap}{t:Nat}{B:Addr→Option Obj}{fr it q acc cf cc aw:Addr}{n n6 n7 nw j:Nat}{L W M:List PT}{ex:List DictEntry}
  (KX:Kin (KK (wv b w).params) B) (H:Hp B h (fcC it q acc cf cc aw L W n nw j M n6 ex n7)) (hv:(L.map pv)[j]?=none)
  (x:∀ h' t',Hp B h' (fcC it q acc cf cc aw L W n nw j M n6 ex n7).tail→R (.ok .next) ⟨h',g,d,t',os⟩) :
  codeAny (model prg (wv b w)) (AF 330 none) (cpAt (wv b w).params 280 fr cf [(Str.ofString "there",cc)] (ceAt (wv b w).params 280 7 [] [0,1]) 0 it acc) R ⟨h,g,d,t,os⟩:=by
 refine' go_code ?_
 (refine' run_T KX Rin.nil H 4000 ⟨[2,3,4,5,6],7⟩ rfl [.c 0,.v 0 (fun al=>rNextEnd Rin.nil 0 (.c 1)),.c 0] fun al=>end_R (r:=(.ok .next)) (cs:=(fcC it q acc cf cc aw L W n nw j M n6 ex n7).tail) (by kernel_rfl) rfl  ⟨(fun hF=>hv),trivial⟩ fun hp t hF H=>?_)
 exact x _ _ H
theorem kB {fr it q acc cf cc aw:Addr}{n n6 n7 nw:Nat}{L W:List PT}(hL:L≠[]) (hl:L.length≤1000) :
  Ct prg (wv b w) 330 none (KK (wv b w).params) g d os (csAt (wv b w).params 280 fr cf [(Str.ofString "there", cc)] (ceAt (wv b w).params 280 7 [] [0, 1]) 0 it acc) (fcC it q acc cf cc aw L W n nw 0 [] n6 [] n7) none
    fun u=>(.ok .next,(fcC it q acc cf cc aw L W n nw 0 (L.flatMap (fN W)) u.n [ent (wv b w).params "path" u.n2 (pv (L.getLast?.getD (.r,0)))] u.n3).tail):=by
 refine ⟨fun B h t R KX hS H x=>comp_lst H 0 rfl (foldI (c:=(cpAt (wv b w).params 280 fr cf [(Str.ofString "there",cc)] (ceAt (wv b w).params 280 7 [] [0,1]) 0 it acc)) L (fN W) (fun j M h=>M.length≤j∧∃ n6 ex n7,Hp B h (fcC it q acc cf cc aw L W n nw j M n6 ex n7)∧((j=0∧ex=[])∨∃ tk v,L[j - 1]?=some v∧ex=[ent (wv b w).params "path" tk (pv v)])) (fun j v M h t hv hi IH=>?_) (fun h t hi=>?_) ⟨Nat.zero_le _,n6,[],n7,H,.inl ⟨rfl,rfl⟩⟩)⟩
 · obtain ⟨hM, n6, ex, n7, H, hex⟩ := hi
   have hj:j < L.length:=(List.getElem?_eq_some_iff.mp hv).1
   exact kB_t KX H (item_of hv) (by rw [List.length_map];omega) (hex.imp (·.2) fun ⟨tk,v,_,e⟩=>⟨tk,v,e⟩) fun h' t' tk n6 n7 H=>IH h' t' ⟨f_len hM fN_1,n6,_,n7,H,.inr ⟨tk,v,hv,rfl⟩⟩
 · obtain ⟨hM, n6, ex, n7, H, hex⟩ := hi
   obtain ⟨tk,v,hv,rfl⟩:=hex.resolve_left fun z=>hL (List.eq_nil_of_length_eq_zero z.1)
   obtain rfl:L.getLast?.getD (.r,0)=v:=by rw [List.getLast?_eq_getElem?,hv];rfl
   exact kB_e KX H (item_no (List.getElem?_eq_none (Nat.le_refl _))) fun h' t' H=>x { xd0 with n:=n6,n2:=tk,n3:=n7,t:=t' } h' trivial H
theorem kC_t {R:Result→Shared→Prop}{h:Heap}{t:Nat}{B:Addr→Option Obj}{fr it q acc cf cc aw:Addr}{n n6 n7 nw j:Nat}{L W M:List PT}{v:PT}{ex:List DictEntry}
  (KX:Kin (KK (wv b w).params) B) (H:Hp B h (fcC it q acc cf cc aw L W n nw j M n6 ex n7)) (hv:(L.map pv)[j]?=some (pv v)) (hM:(M.map pv).length≤1000) (hex:ex=[]∨∃ tk v,ex=[ent (wv b w).params "path" tk (pv v)])
  (IH:∀ h' t' tk n6 n7,Hp B h' (fcC it q acc cf cc aw L W n nw (j + 1) (M++fN W v) n6 [ent (wv b w).params "path" tk (pv v)] n7)→codeAny (model prg (wv b w)) (AF 330 none) (cpAt (wv b w).params 280 fr cf [(Str.ofString "wished",cc)] (ceAt (wv b w).params 280 7 [] [1,1]) 0 it acc) R ⟨h',g,d,t',os⟩) :
  codeAny (model prg (wv b w)) (AF 330 none) (cpAt (wv b w).params 280 fr cf [(Str.ofString "wished",cc)] (ceAt (wv b w).params 280 7 [] [1,1]) 0 it acc) R ⟨h,g,d,t,os⟩:=by
 rcases hb:decide (v.1∈pts W) with _ | _
 · rcases hex with rfl | ⟨tk, v0, rfl⟩
   · refine' go_code ?_
     (refine' run_T KX Rin.nil H 4000 ⟨[0,1,2,3,4,5],6⟩ rfl [.c 0,.v 0 (fun al=>rNext Rin.nil 0 (.c 1) (pv v)),.c 3,.f 3,.c 3,.c 4,.c 5,.c 5,.v 1 (fun al=>rContains Rin.nil (.c 5) (W) (v.1) (false)),.c 3,.v 2 (fun al=>rAppend 2)] fun al=>end_A (c:=(cpAt (wv b w).params 280 fr cf [(Str.ofString "wished",cc)] (ceAt (wv b w).params 280 7 [] [1,1]) 0 it acc)) (cs:=(fcR it q acc cf cc aw L W n nw (j + 1) (M.map pv++[pv v]) _ [ent (wv b w).params "path" _ (pv v)] _)) (by kernel_rfl) rfl  ⟨(fun hF=>hM),(fun hF=>hb),(fun hF=>hv),trivial⟩ fun hp t hF H=>?_)
     exact IH _ _ _ _ _ (by unfold fN;rw [if_neg (of_decide_eq_false hb),fcS];exact H)
   · refine' go_code ?_
     (refine' run_T KX Rin.nil H 4000 ⟨[0,1,2,3,4,5],6⟩ rfl [.c 0,.v 0 (fun al=>rNext Rin.nil 0 (.c 1) (pv v)),.c 3,.f 3,.c 3,.c 4,.c 5,.c 5,.v 1 (fun al=>rContains Rin.nil (.c 5) (W) (v.1) (false)),.c 3,.v 2 (fun al=>rAppend 2)] fun al=>end_A (c:=(cpAt (wv b w).params 280 fr cf [(Str.ofString "wished",cc)] (ceAt (wv b w).params 280 7 [] [1,1]) 0 it acc)) (cs:=(fcR it q acc cf cc aw L W n nw (j + 1) (M.map pv++[pv v]) _ [ent (wv b w).params "path" _ (pv v)] _)) (by kernel_rfl) rfl  ⟨(fun hF=>hM),(fun hF=>hb),(fun hF=>hv),trivial⟩ fun hp t hF H=>?_)
     exact IH _ _ _ _ _ (by unfold fN;rw [if_neg (of_decide_eq_false hb),fcS];exact H)
 · rcases hex with rfl | ⟨tk, v0, rfl⟩
   · refine' go_code ?_
     (refine' run_T KX Rin.nil H 4000 ⟨[0,1,2,3,4,5],6⟩ rfl [.c 0,.v 0 (fun al=>rNext Rin.nil 0 (.c 1) (pv v)),.c 3,.f 3,.c 3,.c 4,.c 5,.c 5,.v 1 (fun al=>rContains Rin.nil (.c 5) (W) (v.1) (true))] fun al=>end_A (c:=(cpAt (wv b w).params 280 fr cf [(Str.ofString "wished",cc)] (ceAt (wv b w).params 280 7 [] [1,1]) 0 it acc)) (cs:=(fcR it q acc cf cc aw L W n nw (j + 1) (M.map pv) _ [ent (wv b w).params "path" _ (pv v)] _)) (by kernel_rfl) rfl  ⟨(fun hF=>hb),(fun hF=>hv),trivial⟩ fun hp t hF H=>?_)
     exact IH _ _ _ _ _ (by unfold fN;rw [if_pos (of_decide_eq_true hb),List.append_nil];exact H)
   · refine' go_code ?_
     (refine' run_T KX Rin.nil H 4000 ⟨[0,1,2,3,4,5],6⟩ rfl [.c 0,.v 0 (fun al=>rNext Rin.nil 0 (.c 1) (pv v)),.c 3,.f 3,.c 3,.c 4,.c 5,.c 5,.v 1 (fun al=>rContains Rin.nil (.c 5) (W) (v.1) (true))] fun al=>end_A (c:=(cpAt (wv b w).params 280 fr cf [(Str.ofString "wished",cc)] (ceAt (wv b w).params 280 7 [] [1,1]) 0 it acc)) (cs:=(fcR it q acc cf cc aw L W n nw (j + 1) (M.map pv) _ [ent (wv b w).params "path" _ (pv v)] _)) (by kernel_rfl) rfl  ⟨(fun hF=>hb),(fun hF=>hv),trivial⟩ fun hp t hF H=>?_)
     exact IH _ _ _ _ _ (by unfold fN;rw [if_pos (of_decide_eq_true hb),List.append_nil];exact H)
theorem kC_e {R:Result→Shared→Prop}{h:Heap}{t:Nat}{B:Addr→Option Obj}{fr it q acc cf cc aw:Addr}{n n6 n7 nw j:Nat}{L W M:List PT}{ex:List DictEntry}
  (KX:Kin (KK (wv b w).params) B) (H:Hp B h (fcC it q acc cf cc aw L W n nw j M n6 ex n7)) (hv:(L.map pv)[j]?=none)
  (x:∀ h' t',Hp B h' (fcC it q acc cf cc aw L W n nw j M n6 ex n7).tail→R (.ok .next) ⟨h',g,d,t',os⟩) :
  codeAny (model prg (wv b w)) (AF 330 none) (cpAt (wv b w).params 280 fr cf [(Str.ofString "wished",cc)] (ceAt (wv b w).params 280 7 [] [1,1]) 0 it acc) R ⟨h,g,d,t,os⟩:=by
 refine' go_code ?_
 (refine' run_T KX Rin.nil H 4000 ⟨[2,3,4,5,6],7⟩ rfl [.c 0,.v 0 (fun al=>rNextEnd Rin.nil 0 (.c 1)),.c 0] fun al=>end_R (r:=(.ok .next)) (cs:=(fcC it q acc cf cc aw L W n nw j M n6 ex n7).tail) (by kernel_rfl) rfl  ⟨(fun hF=>hv),trivial⟩ fun hp t hF H=>?_)
 exact x _ _ H
theorem kC {fr it q acc cf cc aw:Addr}{n n6 n7 nw:Nat}{L W:List PT}(hL:L≠[]) (hl:L.length≤1000) :
  Ct prg (wv b w) 330 none (KK (wv b w).params) g d os (csAt (wv b w).params 280 fr cf [(Str.ofString "wished", cc)] (ceAt (wv b w).params 280 7 [] [1, 1]) 0 it acc) (fcC it q acc cf cc aw L W n nw 0 [] n6 [] n7) none
    fun u=>(.ok .next,(fcC it q acc cf cc aw L W n nw 0 (L.flatMap (fN W)) u.n [ent (wv b w).params "path" u.n2 (pv (L.getLast?.getD (.r,0)))] u.n3).tail):=by
 refine ⟨fun B h t R KX hS H x=>comp_lst H 0 rfl (foldI (c:=(cpAt (wv b w).params 280 fr cf [(Str.ofString "wished",cc)] (ceAt (wv b w).params 280 7 [] [1,1]) 0 it acc)) L (fN W) (fun j M h=>M.length≤j∧∃ n6 ex n7,Hp B h (fcC it q acc cf cc aw L W n nw j M n6 ex n7)∧((j=0∧ex=[])∨∃ tk v,L[j - 1]?=some v∧ex=[ent (wv b w).params "path" tk (pv v)])) (fun j v M h t hv hi IH=>?_) (fun h t hi=>?_) ⟨Nat.zero_le _,n6,[],n7,H,.inl ⟨rfl,rfl⟩⟩)⟩
 · obtain ⟨hM, n6, ex, n7, H, hex⟩ := hi
   have hj:j < L.length:=(List.getElem?_eq_some_iff.mp hv).1
   exact kC_t KX H (item_of hv) (by rw [List.length_map];omega) (hex.imp (·.2) fun ⟨tk,v,_,e⟩=>⟨tk,v,e⟩) fun h' t' tk n6 n7 H=>IH h' t' ⟨f_len hM fN_1,n6,_,n7,H,.inr ⟨tk,v,hv,rfl⟩⟩
 · obtain ⟨hM, n6, ex, n7, H, hex⟩ := hi
   obtain ⟨tk,v,hv,rfl⟩:=hex.resolve_left fun z=>hL (List.eq_nil_of_length_eq_zero z.1)
   obtain rfl:L.getLast?.getD (.r,0)=v:=by rw [List.getLast?_eq_getElem?,hv];rfl
   exact kC_e KX H (item_no (List.getElem?_eq_none (Nat.le_refl _))) fun h' t' H=>x { xd0 with n:=n6,n2:=tk,n3:=n7,t:=t' } h' trivial H
theorem kD_t {R:Result→Shared→Prop}{h:Heap}{t:Nat}{B:Addr→Option Obj}{fr it q acc cf cc aw:Addr}{n n6 n7 nw j:Nat}{L W M:List PT}{v:PT}{ex:List DictEntry}
  (KX:Kin (KK (wv b w).params) B) (H:Hp B h (fcC it q acc cf cc aw L W n nw j M n6 ex n7)) (hv:(L.map pv)[j]?=some (pv v)) (hM:(M.map pv).length≤1000) (hex:ex=[]∨∃ tk v,ex=[ent (wv b w).params "one" tk (pv v)])
  (IH:∀ h' t' tk n6 n7,Hp B h' (fcC it q acc cf cc aw L W n nw (j + 1) (M++fI W v) n6 [ent (wv b w).params "one" tk (pv v)] n7)→codeAny (model prg (wv b w)) (AF 330 none) (cpAt (wv b w).params 280 fr cf [(Str.ofString "more",cc)] (ceAt (wv b w).params 280 10 [] []) 0 it acc) R ⟨h',g,d,t',os⟩) :
  codeAny (model prg (wv b w)) (AF 330 none) (cpAt (wv b w).params 280 fr cf [(Str.ofString "more",cc)] (ceAt (wv b w).params 280 10 [] []) 0 it acc) R ⟨h,g,d,t,os⟩:=by
 rcases hb:decide (v.1∈pts W) with _ | _
 · rcases hex with rfl | ⟨tk, v0, rfl⟩
   · refine' go_code ?_
     (refine' run_T KX Rin.nil H 4000 ⟨[0,1,2,3,4,5],6⟩ rfl [.c 0,.v 0 (fun al=>rNext Rin.nil 0 (.c 1) (pv v)),.c 3,.f 3,.c 3,.c 4,.c 5,.c 5,.v 1 (fun al=>rContains Rin.nil (.c 5) (W) (v.1) (false))] fun al=>end_A (c:=(cpAt (wv b w).params 280 fr cf [(Str.ofString "more",cc)] (ceAt (wv b w).params 280 10 [] []) 0 it acc)) (cs:=(fcR it q acc cf cc aw L W n nw (j + 1) (M.map pv) _ [ent (wv b w).params "one" _ (pv v)] _)) (by kernel_rfl) rfl  ⟨(fun hF=>hb),(fun hF=>hv),trivial⟩ fun hp t hF H=>?_)
     exact IH _ _ _ _ _ (by unfold fI;rw [if_neg (of_decide_eq_false hb),List.append_nil];exact H)
   · refine' go_code ?_
     (refine' run_T KX Rin.nil H 4000 ⟨[0,1,2,3,4,5],6⟩ rfl [.c 0,.v 0 (fun al=>rNext Rin.nil 0 (.c 1) (pv v)),.c 3,.f 3,.c 3,.c 4,.c 5,.c 5,.v 1 (fun al=>rContains Rin.nil (.c 5) (W) (v.1) (false))] fun al=>end_A (c:=(cpAt (wv b w).params 280 fr cf [(Str.ofString "more",cc)] (ceAt (wv b w).params 280 10 [] []) 0 it acc)) (cs:=(fcR it q acc cf cc aw L W n nw (j + 1) (M.map pv) _ [ent (wv b w).params "one" _ (pv v)] _)) (by kernel_rfl) rfl  ⟨(fun hF=>hb),(fun hF=>hv),trivial⟩ fun hp t hF H=>?_)
     exact IH _ _ _ _ _ (by unfold fI;rw [if_neg (of_decide_eq_false hb),List.append_nil];exact H)
 · rcases hex with rfl | ⟨tk, v0, rfl⟩
   · refine' go_code ?_
     (refine' run_T KX Rin.nil H 4000 ⟨[0,1,2,3,4,5],6⟩ rfl [.c 0,.v 0 (fun al=>rNext Rin.nil 0 (.c 1) (pv v)),.c 3,.f 3,.c 3,.c 4,.c 5,.c 5,.v 1 (fun al=>rContains Rin.nil (.c 5) (W) (v.1) (true)),.c 3,.v 2 (fun al=>rAppend 2)] fun al=>end_A (c:=(cpAt (wv b w).params 280 fr cf [(Str.ofString "more",cc)] (ceAt (wv b w).params 280 10 [] []) 0 it acc)) (cs:=(fcR it q acc cf cc aw L W n nw (j + 1) (M.map pv++[pv v]) _ [ent (wv b w).params "one" _ (pv v)] _)) (by kernel_rfl) rfl  ⟨(fun hF=>hM),(fun hF=>hb),(fun hF=>hv),trivial⟩ fun hp t hF H=>?_)
     exact IH _ _ _ _ _ (by unfold fI;rw [if_pos (of_decide_eq_true hb),fcS];exact H)
   · refine' go_code ?_
     (refine' run_T KX Rin.nil H 4000 ⟨[0,1,2,3,4,5],6⟩ rfl [.c 0,.v 0 (fun al=>rNext Rin.nil 0 (.c 1) (pv v)),.c 3,.f 3,.c 3,.c 4,.c 5,.c 5,.v 1 (fun al=>rContains Rin.nil (.c 5) (W) (v.1) (true)),.c 3,.v 2 (fun al=>rAppend 2)] fun al=>end_A (c:=(cpAt (wv b w).params 280 fr cf [(Str.ofString "more",cc)] (ceAt (wv b w).params 280 10 [] []) 0 it acc)) (cs:=(fcR it q acc cf cc aw L W n nw (j + 1) (M.map pv++[pv v]) _ [ent (wv b w).params "one" _ (pv v)] _)) (by kernel_rfl) rfl  ⟨(fun hF=>hM),(fun hF=>hb),(fun hF=>hv),trivial⟩ fun hp t hF H=>?_)
     exact IH _ _ _ _ _ (by unfold fI;rw [if_pos (of_decide_eq_true hb),fcS];exact H)
theorem kD_e {R:Result→Shared→Prop}{h:Heap}{t:Nat}{B:Addr→Option Obj}{fr it q acc cf cc aw:Addr}{n n6 n7 nw j:Nat}{L W M:List PT}{ex:List DictEntry}
  (KX:Kin (KK (wv b w).params) B) (H:Hp B h (fcC it q acc cf cc aw L W n nw j M n6 ex n7)) (hv:(L.map pv)[j]?=none)
  (x:∀ h' t',Hp B h' (fcC it q acc cf cc aw L W n nw j M n6 ex n7).tail→R (.ok .next) ⟨h',g,d,t',os⟩) :
  codeAny (model prg (wv b w)) (AF 330 none) (cpAt (wv b w).params 280 fr cf [(Str.ofString "more",cc)] (ceAt (wv b w).params 280 10 [] []) 0 it acc) R ⟨h,g,d,t,os⟩:=by
 refine' go_code ?_
 (refine' run_T KX Rin.nil H 4000 ⟨[2,3,4,5,6],7⟩ rfl [.c 0,.v 0 (fun al=>rNextEnd Rin.nil 0 (.c 1)),.c 0] fun al=>end_R (r:=(.ok .next)) (cs:=(fcC it q acc cf cc aw L W n nw j M n6 ex n7).tail) (by kernel_rfl) rfl  ⟨(fun hF=>hv),trivial⟩ fun hp t hF H=>?_)
 exact x _ _ H
theorem kD {fr it q acc cf cc aw:Addr}{n n6 n7 nw:Nat}{L W:List PT}(hL:L≠[]) (hl:L.length≤1000) :
  Ct prg (wv b w) 330 none (KK (wv b w).params) g d os (csAt (wv b w).params 280 fr cf [(Str.ofString "more", cc)] (ceAt (wv b w).params 280 10 [] []) 0 it acc) (fcC it q acc cf cc aw L W n nw 0 [] n6 [] n7) none
    fun u=>(.ok .next,(fcC it q acc cf cc aw L W n nw 0 (L.flatMap (fI W)) u.n [ent (wv b w).params "one" u.n2 (pv (L.getLast?.getD (.r,0)))] u.n3).tail):=by
 refine ⟨fun B h t R KX hS H x=>comp_lst H 0 rfl (foldI (c:=(cpAt (wv b w).params 280 fr cf [(Str.ofString "more",cc)] (ceAt (wv b w).params 280 10 [] []) 0 it acc)) L (fI W) (fun j M h=>M.length≤j∧∃ n6 ex n7,Hp B h (fcC it q acc cf cc aw L W n nw j M n6 ex n7)∧((j=0∧ex=[])∨∃ tk v,L[j - 1]?=some v∧ex=[ent (wv b w).params "one" tk (pv v)])) (fun j v M h t hv hi IH=>?_) (fun h t hi=>?_) ⟨Nat.zero_le _,n6,[],n7,H,.inl ⟨rfl,rfl⟩⟩)⟩
 · obtain ⟨hM, n6, ex, n7, H, hex⟩ := hi
   have hj:j < L.length:=(List.getElem?_eq_some_iff.mp hv).1
   exact kD_t KX H (item_of hv) (by rw [List.length_map];omega) (hex.imp (·.2) fun ⟨tk,v,_,e⟩=>⟨tk,v,e⟩) fun h' t' tk n6 n7 H=>IH h' t' ⟨f_len hM fI_1,n6,_,n7,H,.inr ⟨tk,v,hv,rfl⟩⟩
 · obtain ⟨hM, n6, ex, n7, H, hex⟩ := hi
   obtain ⟨tk,v,hv,rfl⟩:=hex.resolve_left fun z=>hL (List.eq_nil_of_length_eq_zero z.1)
   obtain rfl:L.getLast?.getD (.r,0)=v:=by rw [List.getLast?_eq_getElem?,hv];rfl
   exact kD_e KX H (item_no (List.getElem?_eq_none (Nat.le_refl _))) fun h' t' H=>x { xd0 with n:=n6,n2:=tk,n3:=n7,t:=t' } h' trivial H
theorem kE_t {R:Result→Shared→Prop}{h:Heap}{t:Nat}{B:Addr→Option Obj}{fr it q acc cf cc aw:Addr}{n n6 n7 nw j:Nat}{L W M:List PT}{v:PT}{ex:List DictEntry}
  (KX:Kin (KK (wv b w).params) B) (H:Hp B h (fcC it q acc cf cc aw L W n nw j M n6 ex n7)) (hv:(L.map pv)[j]?=some (pv v)) (hM:(M.map pv).length≤1000) (hex:ex=[]∨∃ tk v,ex=[ent (wv b w).params "one" tk (pv v)])
  (IH:∀ h' t' tk n6 n7,Hp B h' (fcC it q acc cf cc aw L W n nw (j + 1) (M++fI W v) n6 [ent (wv b w).params "one" tk (pv v)] n7)→codeAny (model prg (wv b w)) (AF 330 none) (cpAt (wv b w).params 280 fr cf [(Str.ofString "missing",cc)] (ceAt (wv b w).params 280 11 [] []) 0 it acc) R ⟨h',g,d,t',os⟩) :
  codeAny (model prg (wv b w)) (AF 330 none) (cpAt (wv b w).params 280 fr cf [(Str.ofString "missing",cc)] (ceAt (wv b w).params 280 11 [] []) 0 it acc) R ⟨h,g,d,t,os⟩:=by
 rcases hb:decide (v.1∈pts W) with _ | _
 · rcases hex with rfl | ⟨tk, v0, rfl⟩
   · refine' go_code ?_
     (refine' run_T KX Rin.nil H 4000 ⟨[0,1,2,3,4,5],6⟩ rfl [.c 0,.v 0 (fun al=>rNext Rin.nil 0 (.c 1) (pv v)),.c 3,.f 3,.c 3,.c 4,.c 5,.c 5,.v 1 (fun al=>rContains Rin.nil (.c 5) (W) (v.1) (false))] fun al=>end_A (c:=(cpAt (wv b w).params 280 fr cf [(Str.ofString "missing",cc)] (ceAt (wv b w).params 280 11 [] []) 0 it acc)) (cs:=(fcR it q acc cf cc aw L W n nw (j + 1) (M.map pv) _ [ent (wv b w).params "one" _ (pv v)] _)) (by kernel_rfl) rfl  ⟨(fun hF=>hb),(fun hF=>hv),trivial⟩ fun hp t hF H=>?_)
     exact IH _ _ _ _ _ (by unfold fI;rw [if_neg (of_decide_eq_false hb),List.append_nil];exact H)
   · refine' go_code ?_
     (refine' run_T KX Rin.nil H 4000 ⟨[0,1,2,3,4,5],6⟩ rfl [.c 0,.v 0 (fun al=>rNext Rin.nil 0 (.c 1) (pv v)),.c 3,.f 3,.c 3,.c 4,.c 5,.c 5,.v 1 (fun al=>rContains Rin.nil (.c 5) (W) (v.1) (false))] fun al=>end_A (c:=(cpAt (wv b w).params 280 fr cf [(Str.ofString "missing",cc)] (ceAt (wv b w).params 280 11 [] []) 0 it acc)) (cs:=(fcR it q acc cf cc aw L W n nw (j + 1) (M.map pv) _ [ent (wv b w).params "one" _ (pv v)] _)) (by kernel_rfl) rfl  ⟨(fun hF=>hb),(fun hF=>hv),trivial⟩ fun hp t hF H=>?_)
     exact IH _ _ _ _ _ (by unfold fI;rw [if_neg (of_decide_eq_false hb),List.append_nil];exact H)
 · rcases hex with rfl | ⟨tk, v0, rfl⟩
   · refine' go_code ?_
     (refine' run_T KX Rin.nil H 4000 ⟨[0,1,2,3,4,5],6⟩ rfl [.c 0,.v 0 (fun al=>rNext Rin.nil 0 (.c 1) (pv v)),.c 3,.f 3,.c 3,.c 4,.c 5,.c 5,.v 1 (fun al=>rContains Rin.nil (.c 5) (W) (v.1) (true)),.c 3,.v 2 (fun al=>rAppend 2)] fun al=>end_A (c:=(cpAt (wv b w).params 280 fr cf [(Str.ofString "missing",cc)] (ceAt (wv b w).params 280 11 [] []) 0 it acc)) (cs:=(fcR it q acc cf cc aw L W n nw (j + 1) (M.map pv++[pv v]) _ [ent (wv b w).params "one" _ (pv v)] _)) (by kernel_rfl) rfl  ⟨(fun hF=>hM),(fun hF=>hb),(fun hF=>hv),trivial⟩ fun hp t hF H=>?_)
     exact IH _ _ _ _ _ (by unfold fI;rw [if_pos (of_decide_eq_true hb),fcS];exact H)
   · refine' go_code ?_
     (refine' run_T KX Rin.nil H 4000 ⟨[0,1,2,3,4,5],6⟩ rfl [.c 0,.v 0 (fun al=>rNext Rin.nil 0 (.c 1) (pv v)),.c 3,.f 3,.c 3,.c 4,.c 5,.c 5,.v 1 (fun al=>rContains Rin.nil (.c 5) (W) (v.1) (true)),.c 3,.v 2 (fun al=>rAppend 2)] fun al=>end_A (c:=(cpAt (wv b w).params 280 fr cf [(Str.ofString "missing",cc)] (ceAt (wv b w).params 280 11 [] []) 0 it acc)) (cs:=(fcR it q acc cf cc aw L W n nw (j + 1) (M.map pv++[pv v]) _ [ent (wv b w).params "one" _ (pv v)] _)) (by kernel_rfl) rfl  ⟨(fun hF=>hM),(fun hF=>hb),(fun hF=>hv),trivial⟩ fun hp t hF H=>?_)
     exact IH _ _ _ _ _ (by unfold fI;rw [if_pos (of_decide_eq_true hb),fcS];exact H)
theorem kE_e {R:Result→Shared→Prop}{h:Heap}{t:Nat}{B:Addr→Option Obj}{fr it q acc cf cc aw:Addr}{n n6 n7 nw j:Nat}{L W M:List PT}{ex:List DictEntry}
  (KX:Kin (KK (wv b w).params) B) (H:Hp B h (fcC it q acc cf cc aw L W n nw j M n6 ex n7)) (hv:(L.map pv)[j]?=none)
  (x:∀ h' t',Hp B h' (fcC it q acc cf cc aw L W n nw j M n6 ex n7).tail→R (.ok .next) ⟨h',g,d,t',os⟩) :
  codeAny (model prg (wv b w)) (AF 330 none) (cpAt (wv b w).params 280 fr cf [(Str.ofString "missing",cc)] (ceAt (wv b w).params 280 11 [] []) 0 it acc) R ⟨h,g,d,t,os⟩:=by
 refine' go_code ?_
 (refine' run_T KX Rin.nil H 4000 ⟨[2,3,4,5,6],7⟩ rfl [.c 0,.v 0 (fun al=>rNextEnd Rin.nil 0 (.c 1)),.c 0] fun al=>end_R (r:=(.ok .next)) (cs:=(fcC it q acc cf cc aw L W n nw j M n6 ex n7).tail) (by kernel_rfl) rfl  ⟨(fun hF=>hv),trivial⟩ fun hp t hF H=>?_)
 exact x _ _ H
theorem kE {fr it q acc cf cc aw:Addr}{n n6 n7 nw:Nat}{L W:List PT}(hL:L≠[]) (hl:L.length≤1000) :
  Ct prg (wv b w) 330 none (KK (wv b w).params) g d os (csAt (wv b w).params 280 fr cf [(Str.ofString "missing", cc)] (ceAt (wv b w).params 280 11 [] []) 0 it acc) (fcC it q acc cf cc aw L W n nw 0 [] n6 [] n7) none
    fun u=>(.ok .next,(fcC it q acc cf cc aw L W n nw 0 (L.flatMap (fI W)) u.n [ent (wv b w).params "one" u.n2 (pv (L.getLast?.getD (.r,0)))] u.n3).tail):=by
 refine ⟨fun B h t R KX hS H x=>comp_lst H 0 rfl (foldI (c:=(cpAt (wv b w).params 280 fr cf [(Str.ofString "missing",cc)] (ceAt (wv b w).params 280 11 [] []) 0 it acc)) L (fI W) (fun j M h=>M.length≤j∧∃ n6 ex n7,Hp B h (fcC it q acc cf cc aw L W n nw j M n6 ex n7)∧((j=0∧ex=[])∨∃ tk v,L[j - 1]?=some v∧ex=[ent (wv b w).params "one" tk (pv v)])) (fun j v M h t hv hi IH=>?_) (fun h t hi=>?_) ⟨Nat.zero_le _,n6,[],n7,H,.inl ⟨rfl,rfl⟩⟩)⟩
 · obtain ⟨hM, n6, ex, n7, H, hex⟩ := hi
   have hj:j < L.length:=(List.getElem?_eq_some_iff.mp hv).1
   exact kE_t KX H (item_of hv) (by rw [List.length_map];omega) (hex.imp (·.2) fun ⟨tk,v,_,e⟩=>⟨tk,v,e⟩) fun h' t' tk n6 n7 H=>IH h' t' ⟨f_len hM fI_1,n6,_,n7,H,.inr ⟨tk,v,hv,rfl⟩⟩
 · obtain ⟨hM, n6, ex, n7, H, hex⟩ := hi
   obtain ⟨tk,v,hv,rfl⟩:=hex.resolve_left fun z=>hL (List.eq_nil_of_length_eq_zero z.1)
   obtain rfl:L.getLast?.getD (.r,0)=v:=by rw [List.getLast?_eq_getElem?,hv];rfl
   exact kE_e KX H (item_no (List.getElem?_eq_none (Nat.le_refl _))) fun h' t' H=>x { xd0 with n:=n6,n2:=tk,n3:=n7,t:=t' } h' trivial H
end
structure TrL (F : List Pt) : Prop where
 nd:F.Nodup
 rt:Pt.r∈F
 pa:∀ p∈F,par p∈F
 so:F.Pairwise fun a b=>leP a b=true
 big:∃ p∈F,p≠.r
theorem up_ok:∀ (n:Nat) (T:List Pt) (p:Pt),mu T p < n→T.Nodup→(∀ q∈T,par q∈T∨par q=p)→(up n T p).Nodup∧(∀ q∈T,q∈up n T p)∧p∈up n T p∧∀ q∈up n T p,par q∈up n T p
 | 0, _, _, h, _, _ => absurd h (Nat.not_lt_zero _)
 | n + 1, T, p, h, hn, hc => by
   by_cases hp:p∈T
   · rw [up, if_pos hp]
     exact ⟨hn,fun q hq=>hq,hp,fun q hq=>(hc q hq).elim id fun e=>e ▸ hp⟩
   · rw [up, if_neg hp]
     have hm:=mu_step hp
     obtain ⟨h1, h2, h3, h4⟩ := up_ok n (T ++ [p]) (par p) (by omega) (List.nodup_append.mpr ⟨hn, by simp, fun a ha b hb e => hp (by rw [List.mem_singleton] at hb; rw [← hb, ← e]; exact ha)⟩) fun q hq => by
       rcases List.mem_append.mp hq with hq | hq
       · rcases hc q hq with h | h
         · exact .inl (List.mem_append_left _ h)
         · exact .inl (by rw [h];exact List.mem_append_right _ (.head _))
       · rw [List.mem_singleton.mp hq]
         exact .inr rfl
     exact ⟨h1,fun q hq=>h2 q (List.mem_append_left _ hq),h2 p (List.mem_append_right _ (.head _)),h4⟩
theorem above_ok:∀ (L T:List Pt),T.Nodup→(∀ q∈T,par q∈T)→(L.foldl (up 5) T).Nodup∧(∀ q∈T,q∈L.foldl (up 5) T)∧(∀ q∈L,q∈L.foldl (up 5) T)∧∀ q∈L.foldl (up 5) T,par q∈L.foldl (up 5) T
 | [], T, hn, hc => ⟨hn, fun _ h => h, fun _ h => absurd h List.not_mem_nil, hc⟩
 | p :: L, T, hn, hc => by
   obtain ⟨a1,a2,a3,a4⟩:=up_ok 5 T p (mu_le T p) hn fun q hq=>.inl (hc q hq)
   obtain ⟨b1,b2,b3,b4⟩:=above_ok L (up 5 T p) a1 a4
   refine ⟨b1,fun q hq=>b2 q (a2 q hq),fun q hq=>?_,b4⟩
   rcases List.mem_cons.mp hq with rfl | hq
   · exact b2 _ a3
   · exact b3 q hq
theorem srt_mem {L:List Pt}{p:Pt}:p∈srt L↔p∈L:=(srt_perm L).mem_iff
theorem cl_above {L:List Pt}(h:Pt.r∈L) (h':∃ p∈L,p≠.r):TrL (srt (above L)):=by
 obtain ⟨a1,_,a3,a4⟩:=above_ok L [] List.nodup_nil fun _ h=>absurd h List.not_mem_nil
 obtain ⟨p,hp,hr⟩:=h'
 exact ⟨(srt_perm _).nodup_iff.mpr a1,srt_mem.mpr (a3 _ h),fun p hp=>srt_mem.mpr (a4 p (srt_mem.mp hp)),srt_pw _,p,srt_mem.mpr (a3 p hp),hr⟩
theorem lt_par:∀ p:Pt,p≠.r→leP p (par p)=false:=by
 intro p
 rcases p with _ | i | ⟨i,j⟩ | ⟨i,j,k⟩
 · exact fun h=>absurd rfl h
 · revert i;decide +kernel
 · revert i j;decide +kernel
 · revert i j k;decide +kernel
theorem leP_r:∀ p:Pt,leP p .r=true→p=.r:=by
 intro p
 rcases p with _ | i | ⟨i,j⟩ | ⟨i,j,k⟩
 · exact fun _=>rfl
 · revert i;decide +kernel
 · revert i j;decide +kernel
 · revert i j k;decide +kernel
theorem TrL.len {F:List Pt}(k:TrL F):F.length≤40∧2≤F.length∧F[0]?=some .r:=by
 obtain ⟨p,hp,hr⟩:=k.big
 have h0:F[0]?=some .r:=by
   cases F with
   | nil => exact absurd hp List.not_mem_nil
   | cons a l =>
     rcases List.mem_cons.mp k.rt with e | h
     · rw [e];rfl
     · have := (List.pairwise_cons.mp k.so).1 _ h
       rw [leP_r a this];rfl
 refine ⟨nodup_le k.nd,?_,h0⟩
 rcases F with _ | ⟨a,_ | ⟨c,l⟩⟩
 · exact absurd hp List.not_mem_nil
 · cases h0
   exact absurd (List.mem_singleton.mp hp) hr
 · exact Nat.succ_le_succ (Nat.succ_le_succ (Nat.zero_le _))
theorem par_before {A:List Pt}(so:A.Pairwise fun a b=>leP a b=true){i:Nat}{p:Pt}(hp:A[i]?=some p) (hr:p≠.r) (hm:par p∈A):par p∈A.take i:=by
 obtain ⟨j,hj,e⟩:=List.mem_iff_getElem.mp hm
 obtain ⟨hi,e2⟩:=List.getElem?_eq_some_iff.mp hp
 have h1 : ¬ i ≤ j := fun h => by
   rcases Nat.lt_or_eq_of_le h with h | rfl
   · have := List.pairwise_iff_getElem.mp so i j hi hj h
     rw [e,e2,lt_par p hr] at this
     cases this
   · have e3 : p = par p := e2.symm.trans e
     have:=lt_par p hr
     rw [← e3] at this
     have h2:=leP_total p p
     rw [this] at h2
     cases h2
 exact List.mem_take_iff_getElem.mpr ⟨j,by omega,e⟩
noncomputable def fol (W T:List Pt):List Pt:=W++T.filter fun p=>decide (p ∉ W)
theorem fol_ok {W T:List Pt}(kW:TrL W) (kT:TrL T):FolOk (fol W T):=by
 have hT:=kT.nd.sublist (List.filter_sublist (p:=fun p=>decide (p ∉ W)))
 refine ⟨List.nodup_append.mpr ⟨kW.nd,hT,fun a ha b hb e=>?_⟩,?_,fun i p hp hr=>?_⟩
 · have := (List.mem_filter.mp hb).2
   rw [← e] at this
   simp [ha] at this
 · have := kW.len.2.2
   have hl:0 < W.length:=by have:=kW.len.2.1;omega
   unfold fol
   rw [List.getElem?_append_left hl]
   exact this
 · unfold fol at hp ⊢
   rcases Nat.lt_or_ge i W.length with hi | hi
   · rw [List.getElem?_append_left hi] at hp
     rw [List.take_append_of_le_length (Nat.le_of_lt hi)]
     exact par_before kW.so hp hr (kW.pa p (List.mem_of_getElem? hp))
   · rw [List.getElem?_append_right hi] at hp
     rw [List.take_append,List.take_of_length_le hi]
     by_cases hw:par p∈W
     · exact List.mem_append_left _ hw
     · refine List.mem_append_right _ (par_before (kT.so.sublist List.filter_sublist) hp hr (List.mem_filter.mpr ⟨?_, by simpa using hw⟩))
       exact kT.pa p (List.mem_filter.mp (List.mem_of_getElem? hp)).1
theorem fol_in {W T:List Pt}{p:Pt}:p∈fol W T↔p∈W∨p∈T:=by
 unfold fol
 rw [List.mem_append,List.mem_filter]
 by_cases h:p∈W <;> simp [h]
theorem row_eq {F:List Pt}(k:FolOk F) (j:Nat):srt (lev F j)=srt (F.filter fun p=>decide (dep p=j)) :=
 srt_congr ((List.perm_ext_iff_of_nodup (lev_nd k.nd j) (k.nd.sublist List.filter_sublist)).mpr fun p=>by rw [lev_in k,List.mem_filter];simp)
noncomputable def mis (W T:List Pt):List Pt:=W.filter fun p=>decide (p ∉ T)
theorem mis_in {W T:List Pt}{p:Pt}:p∈mis W T↔p∈W∧p ∉ T:=by
 unfold mis
 rw [List.mem_filter]
 simp
theorem mis_c {W T T':List Pt}(h:∀ p∈W,p∈T↔p∈T'):mis W T=mis W T':=List.filter_congr fun p hp=>decide_eq_decide.mpr (not_congr (h p hp))
theorem diff_eq:∀ {W T:List Pt},(W.Pairwise fun a b=>leP a b=true)→(T.Pairwise fun a b=>leP a b=true)→W.Nodup→T.Nodup→diff W T=(mis W T,mis T W)
 | [], T, _, _, _, _ => by
   rw [diff]
   exact congrArg _ (List.filter_eq_self.mpr fun p _=>by simp).symm
 | a :: l1, [], _, _, _, _ => by
   rw [diff]
   exact congrArg (·,[]) (List.filter_eq_self.mpr fun p _=>by simp).symm
 | a :: l1, b :: l2, sW, sT, nW, nT => by
   obtain ⟨s1,s2⟩:=List.pairwise_cons.mp sW
   obtain ⟨s3,s4⟩:=List.pairwise_cons.mp sT
   obtain ⟨n1,n2⟩:=List.nodup_cons.mp nW
   obtain ⟨n3,n4⟩:=List.nodup_cons.mp nT
   rw [diff]
   by_cases h1:ltP a b=true
   · rw [if_pos h1, diff_eq s2 sT n2 nT]
     have ha : a ∉ b :: l2 := fun h => by
       have:leP b a=true:=by
         rcases List.mem_cons.mp h with rfl | h
         · have:=leP_total a a;simpa using this
         · exact s3 a h
       unfold leP at this
       rw [h1] at this
       cases this
     refine Prod.ext ?_ ?_
     · show a :: mis l1 (b :: l2) = mis (a :: l1) (b :: l2)
       unfold mis
       rw [List.filter_cons,if_pos (by simpa using ha)]
     · exact mis_c fun p hp=>⟨fun h=>.tail _ h,fun h=>(List.mem_cons.mp h).resolve_left fun e=>ha (e ▸ hp)⟩
   · rw [if_neg h1]
     by_cases h2:ltP b a=true
     · rw [if_pos h2, diff_eq sW s4 nW n4]
       have hb : b ∉ a :: l1 := fun h => by
         have:leP a b=true:=by
           rcases List.mem_cons.mp h with rfl | h
           · have:=leP_total b b;simpa using this
           · exact s1 b h
         unfold leP at this
         rw [h2] at this
         cases this
       refine Prod.ext ?_ ?_
       · exact mis_c fun p hp=>⟨fun h=>.tail _ h,fun h=>(List.mem_cons.mp h).resolve_left fun e=>hb (e ▸ hp)⟩
       · show b :: mis l2 (a :: l1) = mis (b :: l2) (a :: l1)
         unfold mis
         rw [List.filter_cons,if_pos (by simpa using hb)]
     · rw [if_neg h2]
       obtain rfl:a=b:=ltP_eq (by simpa using h1) (by simpa using h2)
       rw [diff_eq s2 s4 n2 n4]
       have hd : ∀ {l l' : List Pt}, a ∉ l → mis l l' = mis (a :: l) (a :: l') := fun {l l'} h => by
         have:mis (a :: l) (a :: l')=mis l (a :: l'):=by
           unfold mis
           rw [List.filter_cons,if_neg (by simp)]
         rw [this]
         exact mis_c fun p hp=>⟨fun h=>.tail _ h,fun h'=>(List.mem_cons.mp h').resolve_left fun e=>h (e ▸ hp)⟩
       exact Prod.ext (hd n1) (hd n3)
theorem udf_eq:∀ (l A M:List Pt),l.Nodup→A.Nodup→udf l A M=(M++mis l A,mis A l)
 | [], A, M, _, _ => by
   rw [udf]
   exact Prod.ext (List.append_nil M).symm (List.filter_eq_self.mpr fun p _=>by simp).symm
 | p :: r, A, M, hl, hA => by
   obtain ⟨n1,n2⟩:=List.nodup_cons.mp hl
   rw [udf]
   by_cases h:p∈A
   · rw [if_pos h, udf_eq r (A.erase p) M n2 (hA.erase p)]
     refine Prod.ext ?_ ?_
     · show M ++ mis r (A.erase p) = M ++ mis (p :: r) A
       have e:mis (p :: r) A=mis r A:=by
         unfold mis
         rw [List.filter_cons,if_neg (by simpa using h)]
       rw [e]
       exact congrArg _ (mis_c fun q hq=>List.mem_erase_of_ne fun e=>n1 (e ▸ hq))
     · show mis (A.erase p) r = mis A (p :: r)
       rw [hA.erase_eq_filter]
       unfold mis
       rw [List.filter_filter]
       exact List.filter_congr fun q _ => by
         by_cases e:q=p <;> simp [e]
   · rw [if_neg h, udf_eq r A (M ++ [p]) n2 hA]
     refine Prod.ext ?_ ?_
     · show M ++ [p] ++ mis r A = M ++ mis (p :: r) A
       unfold mis
       rw [List.filter_cons,if_pos (by simpa using h),List.append_assoc]
       rfl
     · exact mis_c fun q hq=>⟨fun h=>.tail _ h,fun h'=>(List.mem_cons.mp h').resolve_left fun e=>h (e ▸ hq)⟩
theorem mis_rev (A B:List Pt):mis A.reverse B.reverse=(mis A B).reverse:=by
 unfold mis
 rw [List.filter_reverse]
 exact congrArg List.reverse (List.filter_congr fun p _=>by simp)
noncomputable def ord (F:List Pt) (K:Nat):List Pt:=(List.range K).flatMap fun j=>srt (lev F j)
theorem FolOk.dn {F:List Pt}(k:FolOk F):∀ (n:Nat) (K:Nat) (p:Pt),p∈F→dep p=K + n→∃ q∈F,dep q=K
 | 0, K, p, hp, h => ⟨p, hp, h⟩
 | n + 1, K, p, hp, h => by
   obtain ⟨i,hi,e⟩:=List.mem_iff_getElem.mp hp
   have hr:p≠.r:=fun z=>by subst z;cases h
   have:=List.mem_of_mem_take (k.pa i p (List.getElem?_eq_some_iff.mpr ⟨hi,e⟩) hr)
   refine k.dn n K (par p) this ?_
   cases p <;> simp [par,dep] at h hr ⊢ <;> omega
theorem ord_in {F:List Pt}(k:FolOk F){K:Nat}(hK:lev F K=[]){p:Pt}:p∈ord F K↔p∈F:=by
 unfold ord
 rw [List.mem_flatMap]
 constructor
 · rintro ⟨j, _, h⟩
   exact ((lev_in k j p).mp (srt_mem.mp h)).1
 · intro h
   refine ⟨dep p,List.mem_range.mpr (Nat.lt_of_not_le fun hle=>?_),srt_mem.mpr ((lev_in k _ p).mpr ⟨h,rfl⟩)⟩
   obtain ⟨q,hq,e⟩:=k.dn (dep p - K) K p h (by omega)
   have:=(lev_in k K q).mpr ⟨hq,e⟩
   rw [hK] at this
   exact absurd this List.not_mem_nil
theorem ord_so {F:List Pt}(k:FolOk F):∀ K,(ord F K).Pairwise fun a b=>dep a≤dep b∧a≠b:=by
 intro K
 unfold ord
 rw [List.pairwise_flatMap]
 refine ⟨fun j _=>?_,?_⟩
 · have h := (srt_perm (lev F j)).nodup_iff.mpr (lev_nd k.nd j)
   refine List.Pairwise.imp_of_mem (fun ha hb h=>⟨Nat.le_of_eq ?_,h⟩) h
   rw [((lev_in k j _).mp (srt_mem.mp ha)).2,((lev_in k j _).mp (srt_mem.mp hb)).2]
 · refine List.Pairwise.imp (fun {i j} h a ha b hb => ?_) List.pairwise_lt_range
   have h1:=((lev_in k i _).mp (srt_mem.mp ha)).2
   have h2:=((lev_in k j _).mp (srt_mem.mp hb)).2
   exact ⟨by omega,fun e=>by rw [e] at h1;omega⟩
theorem ord_perm {F:List Pt}(k:FolOk F){K:Nat}(hK:lev F K=[]):(ord F K).Perm F :=
 (List.perm_ext_iff_of_nodup ((ord_so k K).imp fun h=>h.2) k.nd).mpr fun _=>ord_in k hK
theorem cpt_self:∀ p:Pt,cpt p p=p:=by
 intro p
 rcases p with _ | i | ⟨i,j⟩ | ⟨i,j,k⟩
 · rfl
 · revert i;decide +kernel
 · revert i j;decide +kernel
 · revert i j k;decide +kernel
theorem cpl_self:∀ {a b:List (Fin 3)},cpl a b=b→∃ r,a=b++r
 | a, [], _ => ⟨a, rfl⟩
 | [], _ :: _, h => by cases h
 | x :: xs, y :: ys, h => by
   rw [cpl] at h
   by_cases e:x=y
   · rw [if_pos e] at h
     obtain ⟨_,h⟩:=List.cons.inj h
     obtain ⟨r,rfl⟩:=cpl_self h
     exact ⟨r,by rw [e];rfl⟩
   · rw [if_neg e] at h
     cases h
theorem nmf_unm:∀ l:List (Fin 3),l.length≤3→nmf (unm l)=l:=by
 intro l h
 rcases l with _ | ⟨a,_ | ⟨b,_ | ⟨c,_ | ⟨d,r⟩⟩⟩⟩
 · rfl
 · rfl
 · rfl
 · rfl
 · exact absurd h (by simp)
theorem cpt_below {q p:Pt}(h:cpt q p=p):q=p∨dep p < dep q∧(p=par q∨p=par (par q)∨p=par (par (par q))):=by
 have e:=congrArg nmf h
 unfold cpt at e
 rw [nmf_unm _ (cpl_len (nmf_len q))] at e
 obtain ⟨r,hr⟩:=cpl_self e
 rcases q with _ | i | ⟨i,j⟩ | ⟨i,j,k⟩ <;> rcases p with _ | x | ⟨x,y⟩ | ⟨x,y,z⟩ <;> simp [nmf] at hr <;> simp [dep,par] <;> simp [hr]
noncomputable def G10:List Pt→List Pt→Prop
 | [], _ => True
 | p :: D, N => N.filter (fun q => decide (cpt q p = p)) = [p] ∧ G10 D (N.filter fun q => decide (q ≠ p))
noncomputable def E10 (D N:List Pt):List Pt:=D.foldl (fun N p=>N.filter fun q=>decide (q≠p)) N
noncomputable def G11:List Pt→List Pt→Prop
 | [], _ => True
 | p :: D, N => par p ∈ N ∧ G11 D (N ++ [p])
theorem filter_only {P:Pt→Bool}{p:Pt}:∀ {l:List Pt},l.Nodup→p∈l→P p=true→(∀ q∈l,P q=true→q=p)→l.filter P=[p]
 | [], _, h, _, _ => absurd h List.not_mem_nil
 | a :: l, hn, h, hp, hq => by
   obtain ⟨n1,n2⟩:=List.nodup_cons.mp hn
   by_cases e:a=p
   · subst e
     rw [List.filter_cons,if_pos hp]
     exact congrArg _ (List.filter_eq_nil_iff.mpr fun q hm hP=>n1 (hq q (.tail _ hm) hP ▸ hm))
   · rw [List.filter_cons, if_neg fun h => e (hq a (.head _) h)]
     exact filter_only n2 ((List.mem_cons.mp h).resolve_left fun z=>e z.symm) hp fun q hm=>hq q (.tail _ hm)
theorem e10_eq:∀ (D N:List Pt),E10 D N=N.filter fun q=>decide (q ∉ D)
 | [], N => (List.filter_eq_self.mpr fun q _ => by simp).symm
 | p :: D, N => by
   show E10 D (N.filter fun q=>decide (q≠p))=_
   rw [e10_eq D,List.filter_filter]
   exact List.filter_congr fun q _=>by simp [Bool.and_comm]
theorem g10_ok {W T:List Pt}(kW:TrL W) (kT:TrL T):∀ (D P:List Pt),(P++D).Pairwise (fun a b=>dep b≤dep a∧b≠a)→(∀ q,q∈P++D↔q∈mis T W)→G10 D (T.filter fun q=>decide (q ∉ P))
 | [], _, _, _ => trivial
 | p :: D, P, hs, hm => by
   have hp:=mis_in.mp ((hm p).mp (List.mem_append_right _ (.head _)))
   have hs2:=(List.pairwise_append.mp hs).2
   have hpP:p ∉ P:=fun h=>(hs2.2 p h p (.head _)).2 rfl
   refine ⟨filter_only (kT.nd.sublist List.filter_sublist) (List.mem_filter.mpr ⟨hp.1,by simpa using hpP⟩) (decide_eq_true (cpt_self p)) fun q hq hc=>?_,?_⟩
   · obtain ⟨hqT, hqP⟩ := List.mem_filter.mp hq
     rcases cpt_below (of_decide_eq_true hc) with e | ⟨hd,ha⟩
     · exact e
     · exfalso
       have hqW : q ∉ W := fun h => hp.2 (by
         have h1:=kW.pa q h
         have h2:=kW.pa _ h1
         have h3:=kW.pa _ h2
         rcases ha with rfl | rfl | rfl <;> assumption)
       have hqD:=(hm q).mpr (mis_in.mpr ⟨hqT,hqW⟩)
       rcases List.mem_append.mp hqD with h | h
       · simp [h] at hqP
       · rcases List.mem_cons.mp h with rfl | h
         · exact Nat.lt_irrefl _ hd
         · have := ((List.pairwise_cons.mp hs2.1).1 q h).1
           omega
   · have e:(T.filter fun q=>decide (q ∉ P)).filter (fun q=>decide (q≠p))=T.filter fun q=>decide (q ∉ P++[p]):=by
       rw [List.filter_filter]
       exact List.filter_congr fun q _=>by simp [and_comm]
     rw [e]
     exact g10_ok kW kT D (P++[p]) (by rw [List.append_assoc];exact hs) (by intro q;rw [List.append_assoc];exact hm q)
theorem g11_ok {W T:List Pt}(kW:TrL W) (kT:TrL T) (N:List Pt) (hN:∀ q,q∈W→q∈T→q∈N):∀ (D P:List Pt),(P++D).Pairwise (fun a b=>dep a≤dep b∧a≠b)→(∀ q,q∈P++D↔q∈mis W T)→G11 D (N++P)
 | [], _, _, _ => trivial
 | p :: D, P, hs, hm => by
   have hp:=mis_in.mp ((hm p).mp (List.mem_append_right _ (.head _)))
   have hs2:=(List.pairwise_append.mp hs).2
   have hr:p≠.r:=fun e=>hp.2 (e ▸ kT.rt)
   have hpW:=kW.pa p hp.1
   refine ⟨?_,?_⟩
   · by_cases h : par p ∈ T
     · exact List.mem_append_left _ (hN _ hpW h)
     · rcases List.mem_append.mp ((hm _).mpr (mis_in.mpr ⟨hpW, h⟩)) with h | h
       · exact List.mem_append_right _ h
       · exfalso
         have hd:dep (par p) < dep p:=by cases p <;> simp [par,dep] at hr ⊢
         rcases List.mem_cons.mp h with e | h
         · rw [e] at hd;exact Nat.lt_irrefl _ hd
         · have := ((List.pairwise_cons.mp hs2.1).1 _ h).1
           omega
   · rw [List.append_assoc]
     exact g11_ok kW kT N hN D (P++[p]) (by rw [List.append_assoc];exact hs) (by intro q;rw [List.append_assoc];exact hm q)
section
variable {W T:List Pt}(kW:TrL W) (kT:TrL T){K:Nat}(hK:lev (fol W T) K=[])
noncomputable def dD (W T:List Pt) (K:Nat):List Pt:=(ord (fol W T) K).reverse.filter fun p=>decide (p∈mis T W)
noncomputable def dE (W T:List Pt) (K:Nat):List Pt:=(ord (fol W T) K).filter fun p=>decide (p∈mis W T)
include kW kT hK
theorem dD_in {p:Pt}:p∈dD W T K↔p∈mis T W:=by
 unfold dD
 rw [List.mem_filter,List.mem_reverse,ord_in (fol_ok kW kT) hK,fol_in,decide_eq_true_iff]
 exact ⟨fun h=>h.2,fun h=>⟨.inr (mis_in.mp h).1,h⟩⟩
theorem dE_in {p:Pt}:p∈dE W T K↔p∈mis W T:=by
 unfold dE
 rw [List.mem_filter,ord_in (fol_ok kW kT) hK,fol_in,decide_eq_true_iff]
 exact ⟨fun h=>h.2,fun h=>⟨.inl (mis_in.mp h).1,h⟩⟩
theorem g10:G10 (dD W T K) T:=by
 have:=g10_ok kW kT (dD W T K) [] ((List.pairwise_reverse.mpr ((ord_so (fol_ok kW kT) K).imp fun h=>h)).sublist List.filter_sublist) fun q=>dD_in kW kT hK
 rwa [show (T.filter fun q=>decide (q ∉ ([]:List Pt)))=T from List.filter_eq_self.mpr fun q _=>by simp] at this
theorem g11:G11 (dE W T K) (E10 (dD W T K) T):=by
 have := g11_ok kW kT (E10 (dD W T K) T) (fun q h1 h2 => by
   rw [e10_eq,List.mem_filter]
   exact ⟨h2,by simp [dD_in kW kT hK,mis_in,h1]⟩) (dE W T K) [] ((ord_so (fol_ok kW kT) K).sublist List.filter_sublist) fun q=>dE_in kW kT hK
 rwa [List.append_nil] at this
theorem now_end:srt (E10 (dD W T K) T++dE W T K)=W:=by
 refine Eq.trans (srt_congr ?_) (srt_id kW.so)
 refine ((List.perm_ext_iff_of_nodup ?_ kW.nd).mpr fun p=>?_)
 · rw [e10_eq]
   refine List.nodup_append.mpr ⟨kT.nd.sublist List.filter_sublist,(((ord_so (fol_ok kW kT) K).imp fun h=>h.2).sublist List.filter_sublist),fun a ha b hb e=>?_⟩
   subst e
   exact (mis_in.mp ((dE_in kW kT hK).mp hb)).2 (List.mem_filter.mp ha).1
 · rw [e10_eq, List.mem_append, List.mem_filter, dE_in kW kT hK, mis_in]
   by_cases h1:p∈W <;> by_cases h2:p∈T <;> simp [dD_in kW kT hK,mis_in,h1,h2]
end
theorem mis_self (W:List Pt):mis W W=[]:=List.filter_eq_nil_iff.mpr fun p hp=>by simp [hp]
noncomputable def dcp:Value→PT
 | .str s t => ((allPt.find? fun p => sp p == s).getD .r, t)
 | _ => (.r, 0)
theorem dcp_pv (q:PT):dcp (pv q)=q:=by
 obtain ⟨p,t⟩:=q
 show ((allPt.find? fun x=>sp x == sp p).getD .r,t)=(p,t)
 cases h:allPt.find? fun x=>sp x == sp p with
 | none => exact absurd (List.find?_eq_none.mp h p (mem_all p)) (by simp)
 | some x => rw [sp_inj x p (by simpa using List.find?_some h)]; rfl
noncomputable def ptL (V:List Value):List PT:=V.map dcp
theorem ptL_pv (L:List PT):ptL (L.map pv)=L:=by
 unfold ptL
 rw [List.map_map]
 conv=>rhs;rw [← List.map_id L]
 exact List.map_congr_left fun q _=>dcp_pv q
noncomputable def IsV (V:List Value):Prop:=V=(ptL V).map pv
theorem IsV.of (L:List PT):IsV (L.map pv):=by unfold IsV;rw [ptL_pv]
noncomputable def wp (V:List Value):List Pt:=srt (above (pts (ptL V)))
section
variable {b:Bool}{w:World}{g:Array GenState}{d:Drawn}{os:OsState}
theorem laX {q:Addr}{n:Nat}{V:List Value}(h:IsV V):Ct prg (wv b w) 600 none (KK (wv b w).params) g d os (.call (.ref 268) ⟨[.ref q],[]⟩) [(q,lst V n)] none
    fun u=>(.ok (.ret (.ref u.n)),[(u.n,lst ((tag (wp V) u.L).map pv) u.n2),(q,lst V n)]):=by
 have ct:=laC (b:=b) (w:=w) (g:=g) (d:=d) (os:=os) (q:=q) (n:=n) (L:=ptL V)
 rw [← h] at ct
 exact ct
end
theorem LwF.v {V V2:List Value}(h:LwF V V2):IsV V∧IsV V2:=by
 obtain ⟨W,T,rfl,rfl,_⟩:=h
 exact ⟨.of W,.of T⟩
theorem LwF.k {V V2:List Value}(h:LwF V V2):TrL (wp V)∧TrL (wp V2):=by
 obtain ⟨W,T,rfl,rfl,⟨h1,h2⟩,⟨h3,h4⟩,_⟩:=h
 unfold wp
 rw [ptL_pv,ptL_pv]
 exact ⟨cl_above h1 h2,cl_above h3 h4⟩
theorem tag_len (ps:List Pt) (ts:List Nat):(tag ps ts).length=ps.length:=tag_length ps ts
theorem tagT {F:List Pt}(k:TrL F){ts:List Nat}:tag F ts≠[]∧(tag F ts).length≤1000:=by
 refine ⟨fun h=>?_,by rw [tag_len];exact Nat.le_trans k.len.1 (by decide)⟩
 have h1:F.length=0:=by rw [← tag_len F ts,h];rfl
 have:=k.len.2.1
 omega
theorem fN_len (W L:List PT):(L.flatMap (fN W)).length≤L.length:=by
 induction L with
 | nil => exact Nat.le_refl _
 | cons v L ih =>
   rw [List.flatMap_cons,List.length_append]
   have:(fN W v).length≤1:=by unfold fN;split <;> simp
   show _≤L.length + 1
   omega
theorem fN_pts (W:List PT):∀ L:List PT,pts (L.flatMap (fN W))=mis (pts L) (pts W)
 | [] => rfl
 | v :: L => by
   rw [List.flatMap_cons]
   unfold mis
   show pts (fN W v++L.flatMap (fN W))=List.filter _ (v.1 :: pts L)
   rw [List.filter_cons]
   unfold fN
   by_cases h:v.1∈pts W
   · rw [if_pos h, if_neg (by simpa using h)]
     exact fN_pts W L
   · rw [if_neg h, if_pos (by simpa using h)]
     exact congrArg (v.1 :: ·) (fN_pts W L)
theorem fI_pts (W:List PT):∀ L:List PT,pts (L.flatMap (fI W))=(pts L).filter fun p=>decide (p∈pts W)
 | [] => rfl
 | v :: L => by
   rw [List.flatMap_cons]
   show pts (fI W v++L.flatMap (fI W))=List.filter _ (v.1 :: pts L)
   rw [List.filter_cons]
   unfold fI
   by_cases h:v.1∈pts W
   · rw [if_pos h, if_pos (by simpa using h)]
     exact congrArg (v.1 :: ·) (fI_pts W L)
   · rw [if_neg h, if_neg (by simpa using h)]
     exact fI_pts W L
noncomputable def FL (W T:List Pt) (t1 t2:List Nat):List PT:=tag W t1++(tag T t2).flatMap (fN (tag W t1))
theorem FL_pts {W T:List Pt}{t1 t2:List Nat}:pts (FL W T t1 t2)=fol W T:=by
 unfold FL
 rw [pts_app,fN_pts,pts_tag,pts_tag];rfl
theorem LwF.f {V V2:List Value}(h:LwF V V2){t1 t2:List Nat}:FolOk (pts (FL (wp V) (wp V2) t1 t2)):=by
 rw [FL_pts]
 exact fol_ok h.k.1 h.k.2
theorem FL_ok {V V2:List Value}(h:LwF V V2){t1 t2:List Nat}:FL (wp V) (wp V2) t1 t2≠[]∧(FL (wp V) (wp V2) t1 t2).length < 64:=by
 have k:=h.f (t1:=t1) (t2:=t2)
 refine ⟨fun e=>?_,?_⟩
 · have := k.rt
   rw [e] at this
   cases this
 · have := nodup_le k.nd
   rw [List.length_map] at this
   omega
theorem rd_len {F:List Pt}{V:List Value}{X:List (Addr×Obj)}(h:∃ rows:List Row,X=rowsC rows∧V=refsC rows∧RwP F rows):V.length≤4:=by
 obtain ⟨rows,_,rfl,⟨⟨K,h1,_,h3⟩,_⟩⟩:=h
 have:=congrArg List.length h3
 rw [List.length_map,List.length_map,List.length_range] at this
 unfold refsC
 rw [List.length_map,this]
 exact h1
section
variable {prog:Program}{w:World}{A:Around}{R:Result→Shared→Prop}{B:Addr→Option Obj}{g:Array GenState}{d:Drawn}{os:OsState}{rs:List (Addr×Obj)}
noncomputable def rLaddP {q1 q2:Addr}{L1 L2:List PT}{n1 n2:Nat}(RX:Rin rs B) (l1 l2:Lc):Rul prog w A R B g d os :=
 rN "list.__add__" 29827096650756823847613524589 (by decide +kernel) anyS rs [.ref q1,.ref q2] [l1,l2] [(q1,lst (L1.map pv) n1),(q2,lst (L2.map pv) n2)] (L1.length≤1000∧L2.length≤1000) none (fun cs u=>(.ok (.ret (.ref u.n)),(u.n,lst ((L1++L2).map pv) 0) :: cs,u.n2)) fun l c cs _ _ hl hp=>⟨fun _ _ _ h' i' H y=>by
 have h1:=lk_ok RX (lkA_cons hl).1 H
 have h2:=lk_ok RX (lkA_cons (lkA_cons hl).2).1 H
 have z:=y (xd h'.objs.size i') _ trivial (H.push (o:=lst ((L1++L2).map pv) 0) rfl)
 rw [lst_eq] at h1 h2 z
 rw [List.map_append,← List.append_toArray] at z
 exact ct_meets F.slot_list_add ⟨_,h1,rfl⟩ F.entry_list_add (F.args_list_add_2 _ _) (list_addW q1 q2 _ _ n1 n2 none none #[] #[] (by rw [List.size_toArray,List.size_toArray,List.length_map,List.length_map,sizeLine];omega)) rfl ⟨h1,h2,z⟩⟩
end
noncomputable abbrev e51 (P:Params):Expr:=ceAt P 280 5 [] [1]
noncomputable abbrev e52 (P:Params):Expr:=ceAt P 280 5 [] [1,0,1]
noncomputable abbrev e53 (P:Params):Expr:=ceAt P 280 5 [] [1,0,1,2,0,1]
noncomputable def env51 (P:Params) (fr cf1 kc fc:Addr):Env:=envC (e51 P) (envAt P 280 fr) [(Str.ofString "k",kc),(Str.ofString "folders",fc)] cf1
noncomputable def env52 (P:Params) (fr cf1 kc fc cf2:Addr):Env:=envC (e52 P) (env51 P fr cf1 kc fc) [(Str.ofString "k",kc)] cf2
noncomputable def env53 (P:Params) (fr cf1 kc fc cf2 cf3:Addr):Env:=envC (e53 P) (env52 P fr cf1 kc fc cf2) [] cf3
section
variable {b:Bool}{w:World}{g:Array GenState}{d:Drawn}{os:OsState}
noncomputable def nmC (it q acc cf:Addr) (vs:List Value) (n:Nat) (j:Nat) (ra:List Value) (n6:Nat) (ex:List DictEntry) (n7:Nat):List (Addr×Obj) :=
 [(it,itL q j),(q,lst vs n),(acc,lst ra n6),(cf,dO ex.toArray n7)]
noncomputable abbrev nmCode (P:Params) (fr cf1 kc fc cf2 cf it acc:Addr):Code:=.compLoop (e53 P) 0 (.ref it) (.ref acc) (env53 P fr cf1 kc fc cf2 cf)
theorem ne_emp:∀ i:Fin 3,((lt i).cps.toList != (Str.ofString "").cps.toList)=true:=by decide +kernel
theorem nm_turn {R:Result→Shared→Prop}{h:Heap}{t:Nat}{B:Addr→Option Obj}{fr cf1 kc fc cf2 it q acc cf:Addr}{vs:List Value}{n j n6 n7:Nat}{M:List LT}{ex:List DictEntry}{v:ST}
  (KX:Kin (KK (wv b w).params) B) (H:Hp B h (nmC it q acc cf vs n j (M.map lv) n6 ex n7)) (hv:vs[j]?=some (ev2 v)) (hM:M.length≤100) (hex:ex=[]∨∃ tk v,ex=[ent (wv b w).params "name" tk (ev2 v)])
  (IH:∀ h' t' tk n6 n7,Hp B h' (nmC it q acc cf vs n (j + 1) ((M++fn1 v).map lv) n6 [ent (wv b w).params "name" tk (ev2 v)] n7)→codeAny (model prg (wv b w)) (AF 350 none) (nmCode (wv b w).params fr cf1 kc fc cf2 cf it acc) R ⟨h',g,d,t',os⟩) :
  codeAny (model prg (wv b w)) (AF 350 none) (nmCode (wv b w).params fr cf1 kc fc cf2 cf it acc) R ⟨h,g,d,t,os⟩:=by
 have hl:(M.map lv).length≤1000:=by rw [List.length_map];omega
 obtain ⟨o,tv⟩:=v
 cases o with
 | none =>
   rw [show M++fn1 (none,tv)=M from List.append_nil M] at IH
   rcases hex with rfl | ⟨tk,v,rfl⟩
   · refine' go_code ?_
     (refine' run_T2 KX Rin.nil H 4000 ⟨[0,1,2,3],4⟩ rfl [.c 0,.v 0 (fun al=>rNext Rin.nil 0 (.c 1) (ev2 (none,tv))),.c 3,.f 3,.c 3,.v 1 (fun al=>rNe (false))] fun al=>end_A2 (c:=(nmCode (wv b w).params fr cf1 kc fc cf2 cf it acc)) (cs:=(nmC it q acc cf vs n (j + 1) (M.map lv) _ [ent (wv b w).params "name" _ (ev2 (none,tv))] _)) (by kernel_rfl) (by kernel_rfl) rfl (by kernel_rfl) ⟨(fun hF=>rfl),(fun hF=>hv),trivial⟩ fun hp t hF H=>?_)
     exact IH _ _ _ _ _ H
   · refine' go_code ?_
     (refine' run_T2 KX Rin.nil H 4000 ⟨[0,1,2,3],4⟩ rfl [.c 0,.v 0 (fun al=>rNext Rin.nil 0 (.c 1) (ev2 (none,tv))),.c 3,.f 3,.c 3,.v 1 (fun al=>rNe (false))] fun al=>end_A2 (c:=(nmCode (wv b w).params fr cf1 kc fc cf2 cf it acc)) (cs:=(nmC it q acc cf vs n (j + 1) (M.map lv) _ [ent (wv b w).params "name" _ (ev2 (none,tv))] _)) (by kernel_rfl) (by kernel_rfl) rfl (by kernel_rfl) ⟨(fun hF=>rfl),(fun hF=>hv),trivial⟩ fun hp t hF H=>?_)
     exact IH _ _ _ _ _ H
 | some i =>
   rw [show (M++fn1 (some i,tv)).map lv=M.map lv++[.str (lt i) tv] from (lv_snoc M i tv).symm] at IH
   rcases hex with rfl | ⟨tk,v,rfl⟩
   · refine' go_code ?_
     (refine' run_T2 KX Rin.nil H 4000 ⟨[0,1,2,3],4⟩ rfl [.c 0,.v 0 (fun al=>rNext Rin.nil 0 (.c 1) (ev2 (some i,tv))),.c 3,.f 3,.c 3,.v 1 (fun al=>rNe (true)),.c 3,.v 2 (fun al=>rAppend 2)] fun al=>end_A2 (c:=(nmCode (wv b w).params fr cf1 kc fc cf2 cf it acc)) (cs:=(nmC it q acc cf vs n (j + 1) (M.map lv++[.str (lt i) tv]) _ [ent (wv b w).params "name" _ (ev2 (some i,tv))] _)) (by kernel_rfl) (by kernel_rfl) rfl (by kernel_rfl) ⟨(fun hF=>hl),(fun hF=>ne_emp i),(fun hF=>hv),trivial⟩ fun hp t hF H=>?_)
     exact IH _ _ _ _ _ H
   · refine' go_code ?_
     (refine' run_T2 KX Rin.nil H 4000 ⟨[0,1,2,3],4⟩ rfl [.c 0,.v 0 (fun al=>rNext Rin.nil 0 (.c 1) (ev2 (some i,tv))),.c 3,.f 3,.c 3,.v 1 (fun al=>rNe (true)),.c 3,.v 2 (fun al=>rAppend 2)] fun al=>end_A2 (c:=(nmCode (wv b w).params fr cf1 kc fc cf2 cf it acc)) (cs:=(nmC it q acc cf vs n (j + 1) (M.map lv++[.str (lt i) tv]) _ [ent (wv b w).params "name" _ (ev2 (some i,tv))] _)) (by kernel_rfl) (by kernel_rfl) rfl (by kernel_rfl) ⟨(fun hF=>hl),(fun hF=>ne_emp i),(fun hF=>hv),trivial⟩ fun hp t hF H=>?_)
     exact IH _ _ _ _ _ H
theorem nm_end {R:Result→Shared→Prop}{h:Heap}{t:Nat}{B:Addr→Option Obj}{fr cf1 kc fc cf2 it q acc cf:Addr}{vs ra:List Value}{n j n6 n7:Nat}{ex:List DictEntry}
  (KX:Kin (KK (wv b w).params) B) (H:Hp B h (nmC it q acc cf vs n j ra n6 ex n7)) (hv:vs[j]?=none)
  (x:∀ h' t',Hp B h' (nmC it q acc cf vs n j ra n6 ex n7).tail→R (.ok .next) ⟨h',g,d,t',os⟩) :
  codeAny (model prg (wv b w)) (AF 350 none) (nmCode (wv b w).params fr cf1 kc fc cf2 cf it acc) R ⟨h,g,d,t,os⟩:=by
 refine' go_code ?_
 (refine' run_T KX Rin.nil H 4000 ⟨[2,3,4],5⟩ rfl [.c 0,.v 0 (fun al=>rNextEnd Rin.nil 0 (.c 1)),.c 0] fun al=>end_R (r:=(.ok .next)) (cs:=(nmC it q acc cf vs n j ra n6 ex n7).tail) (by kernel_rfl) rfl  ⟨(fun hF=>hv),trivial⟩ fun hp t hF H=>?_)
 exact x _ _ H
theorem nm {fr cf1 kc fc cf2 it q acc cf:Addr}{n n6 n7 m:Nat}(p:Pt):Ct prg (wv b w) 350 none (KK (wv b w).params) g d os (.compStart (e53 (wv b w).params) 0 (.ref it) (.ref acc) (env53 (wv b w).params fr cf1 kc fc cf2 cf))
  (nmC it q acc cf ((spT m p).map ev2) n 0 [] n6 [] n7) none
    fun u=>(.ok .next,(nmC it q acc cf ((spT m p).map ev2) n 0 ((nmT m p).map lv) u.n [ent (wv b w).params "name" u.n3 (ev2 (lsT m p))] u.n2).tail):=by
 refine ⟨fun B h t R KX hS H x=>comp_lst H 0 rfl (foldI (c:=nmCode (wv b w).params fr cf1 kc fc cf2 cf it acc) (spT m p) fn1 (fun j M h=>M.length≤j∧∃ n6 ex n7,Hp B h (nmC it q acc cf ((spT m p).map ev2) n j (M.map lv) n6 ex n7)∧((j=0∧ex=[])∨∃ tk v,(spT m p)[j - 1]?=some v∧ex=[ent (wv b w).params "name" tk (ev2 v)])) (fun j v M h t hv hi IH=>?_) (fun h t hi=>?_) ⟨Nat.zero_le _,n6,[],n7,H,.inl ⟨rfl,rfl⟩⟩)⟩
 · obtain ⟨hM, n6, ex, n7, H, hex⟩ := hi
   have hj:j < (spT m p).length:=(List.getElem?_eq_some_iff.mp hv).1
   have h4:=spT_len m p
   refine nm_turn KX H (v:=v) (by rw [List.getElem?_map,hv];rfl) (by omega) (hex.imp (·.2) fun ⟨tk,v,_,e⟩=>⟨tk,_,e⟩) fun h' t' tk n6 n7 H=>IH h' t' ⟨?_,n6,_,n7,H,.inr ⟨tk,v,hv,rfl⟩⟩
   have:=fn1_len v
   rw [List.length_append]
   omega
 · obtain ⟨hM, n6, ex, n7, H, hex⟩ := hi
   obtain ⟨tk,v,hv,rfl⟩:∃ tk v,(spT m p)[(spT m p).length - 1]?=some v∧ex=[ent (wv b w).params "name" tk (ev2 v)]:=hex.resolve_left fun z=>by cases p <;> cases z.1
   obtain rfl:lsT m p=v:=by unfold lsT;rw [List.getLast?_eq_getElem?,hv];rfl
   exact nm_end KX H (by rw [List.getElem?_map,List.getElem?_eq_none (Nat.le_refl _)];rfl) fun h' t' H=>x { xd0 with n:=n6,n3:=tk,n2:=n7,t:=t' } h' trivial H
end
section
variable {prog:Program}{w:World}{A:Around}{R:Result→Shared→Prop}{B:Addr→Option Obj}{g:Array GenState}{d:Drawn}{os:OsState}{rs:List (Addr×Obj)}
open Builtin Builtin.Str in
noncomputable def rSplitP {t1 t2:Tok}(p:Pt):Rul prog w A R B g d os :=
 rN "str.split" 2165937967108325602676 (by decide +kernel) anyS [] [.str (sp p) t1,.str (Str.ofString "/") t2] [] [] True none (fun cs u=>(.ok (.ret (.ref u.n)),(u.n,lst ((spT u.n3 p).map ev2) 0) :: cs,u.n2)) fun l c cs _ _ _ _=>⟨fun _ _ _ h i H z=>by
 obtain ⟨e1,e2,e3,e4,e5,e6⟩:=sp_ok p
 refine ct_meets F.slot_str_split (typeIs_str _ _ _) F.entry_str_split (F.args_str_split_2 _ _) (meets_str_split_sep (sp p) sepS t1 t2 e1 e2 e3 e4 (e5 ▸ e6)) rfl ?_
 have:=z { xd h.objs.size (i + (spl p).length) with n3:=i } _ trivial (H.push (o:=lst ((spT i p).map ev2) 0) rfl)
 rw [← spT_eq,lst_eq] at this
 rw [e5]
 exact this⟩
end
theorem nmT_dep (m:Nat) (p:Pt):((nmT m p).map lv).length=dep p∧dep p≤1000:=by cases p <;> exact ⟨rfl,Nat.le_of_ble_eq_true rfl⟩
noncomputable def fK (k:Nat) (v:PT):List PT:=if dep v.1=k then [v] else []
theorem dep_t {p:Pt}{k:Nat}(h:decide (dep p=k)=true):((dep p:Int) == (k:Int))=true:=by rw [of_decide_eq_true h];exact beq_self_eq_true _
theorem dep_f {p:Pt}{k:Nat}(h:decide (dep p=k)=false):((dep p:Int) == (k:Int))=false:=beq_eq_false_iff_ne.mpr fun e=>of_decide_eq_false h (Int.ofNat.inj e)
section
variable {b:Bool}{w:World}{g:Array GenState}{d:Drawn}{os:OsState}
noncomputable def dkC (it q acc cf kc:Addr) (vs:List Value) (n k tk j:Nat) (ra:List Value) (n6:Nat) (ex:List DictEntry) (n7:Nat):List (Addr×Obj) :=
 [(it,itL q j),(q,lst vs n),(acc,lst ra n6),(cf,dO ex.toArray n7),(kc,cellQ (some (.int (k:Int) tk)))]
noncomputable abbrev dkCode (P:Params) (fr cf1 kc fc cf it acc:Addr):Code:=.compLoop (e52 P) 0 (.ref it) (.ref acc) (env52 P fr cf1 kc fc cf)
theorem dk_turn {R:Result→Shared→Prop}{h:Heap}{t:Nat}{B:Addr→Option Obj}{fr cf1 kc fc it q acc cf:Addr}{vs:List Value}{n k tk j n6 n7:Nat}{M:List PT}{ex:List DictEntry}{v:PT}
  (KX:Kin (KK (wv b w).params) B) (hS:(B sysModules).isSome=true) (H:Hp B h (dkC it q acc cf kc vs n k tk j (M.map pv) n6 ex n7)) (hv:vs[j]?=some (pv v)) (hM:(M.map pv).length≤1000) (hex:ex=[]∨∃ tk v,ex=[ent (wv b w).params "path" tk (pv v)])
  (IH:∀ h' t' tp n6 n7,Hp B h' (dkC it q acc cf kc vs n k tk (j + 1) ((M++fK k v).map pv) n6 [ent (wv b w).params "path" tp (pv v)] n7)→codeAny (model prg (wv b w)) (AF 340 none) (dkCode (wv b w).params fr cf1 kc fc cf it acc) R ⟨h',g,d,t',os⟩) :
  codeAny (model prg (wv b w)) (AF 340 none) (dkCode (wv b w).params fr cf1 kc fc cf it acc) R ⟨h,g,d,t,os⟩:=by
 unfold fK at IH
 rcases hb:decide (dep v.1=k) with _ | _
 · rcases hex with rfl | ⟨tk0, v0, rfl⟩
   · refine' go_code ?_
     (refine' run_T2 KX Rin.nil H 4000 ⟨[0,1,2,3,4],8⟩ rfl [.c 0,.v 0 (fun al=>rNext Rin.nil 0 (.c 1) (pv v)),.c 3,.f 3,.k,.k,.c 3,.v 1 (fun al=>rSplitP (t1:=v.snd) (t2:=(al 0).n + 1) v.1),.c 0,.c 0,.e,.c 0,.q,.b 2,.c 0,.b 3,.b 4,.v 5 (fun al=>rC KX hS [2,2,1,0] 5 false (True) (fun _=>nm (fr:=fr) (it:=(al 2).n) (q:=(al 1).n) (acc:=(al 3).n) (cf:=(al 4).n) (n:=0) (n6:=0) (n7:=0) (m:=(al 1).n3) (cf1:=cf1) (kc:=kc) (fc:=fc) (cf2:=cf) v.1)),.c 7,.c 7,.f 7,.v 6 (fun al=>rLenL Rin.nil (.c 6) (dep v.1)),.c 4,.v 7 (fun al=>rIeq (false))] fun al=>end_A2 (c:=(dkCode (wv b w).params fr cf1 kc fc cf it acc)) (cs:=(dkC it q acc cf kc vs n k tk (j + 1) (M.map pv) _ [ent (wv b w).params "path" _ (pv v)] _)) (by kernel_rfl) (by kernel_rfl) rfl (by kernel_rfl) ⟨(fun hF=>dep_f hb),(fun hF=>nmT_dep _ _),(fun hF=>trivial),(fun hF=>(by first | trivial | assumption | exact rfl | exact ⟨rfl,rfl⟩)),(fun hF=>hv),trivial⟩ fun hp t hF H=>?_)
     exact IH _ _ _ _ _ (by rw [if_neg (of_decide_eq_false hb),List.append_nil];exact H)
   · refine' go_code ?_
     (refine' run_T2 KX Rin.nil H 4000 ⟨[0,1,2,3,4],8⟩ rfl [.c 0,.v 0 (fun al=>rNext Rin.nil 0 (.c 1) (pv v)),.c 3,.f 3,.k,.k,.c 3,.v 1 (fun al=>rSplitP (t1:=v.snd) (t2:=(al 0).n + 1) v.1),.c 0,.c 0,.e,.c 0,.q,.b 2,.c 0,.b 3,.b 4,.v 5 (fun al=>rC KX hS [2,2,1,0] 5 false (True) (fun _=>nm (fr:=fr) (it:=(al 2).n) (q:=(al 1).n) (acc:=(al 3).n) (cf:=(al 4).n) (n:=0) (n6:=0) (n7:=0) (m:=(al 1).n3) (cf1:=cf1) (kc:=kc) (fc:=fc) (cf2:=cf) v.1)),.c 7,.c 7,.f 7,.v 6 (fun al=>rLenL Rin.nil (.c 6) (dep v.1)),.c 4,.v 7 (fun al=>rIeq (false))] fun al=>end_A2 (c:=(dkCode (wv b w).params fr cf1 kc fc cf it acc)) (cs:=(dkC it q acc cf kc vs n k tk (j + 1) (M.map pv) _ [ent (wv b w).params "path" _ (pv v)] _)) (by kernel_rfl) (by kernel_rfl) rfl (by kernel_rfl) ⟨(fun hF=>dep_f hb),(fun hF=>nmT_dep _ _),(fun hF=>trivial),(fun hF=>(by first | trivial | assumption | exact rfl | exact ⟨rfl,rfl⟩)),(fun hF=>hv),trivial⟩ fun hp t hF H=>?_)
     exact IH _ _ _ _ _ (by rw [if_neg (of_decide_eq_false hb),List.append_nil];exact H)
 · rcases hex with rfl | ⟨tk0, v0, rfl⟩
   · refine' go_code ?_
     (refine' run_T2 KX Rin.nil H 4000 ⟨[0,1,2,3,4],8⟩ rfl [.c 0,.v 0 (fun al=>rNext Rin.nil 0 (.c 1) (pv v)),.c 3,.f 3,.k,.k,.c 3,.v 1 (fun al=>rSplitP (t1:=v.snd) (t2:=(al 0).n + 1) v.1),.c 0,.c 0,.e,.c 0,.q,.b 2,.c 0,.b 3,.b 4,.v 5 (fun al=>rC KX hS [2,2,1,0] 5 false (True) (fun _=>nm (fr:=fr) (it:=(al 2).n) (q:=(al 1).n) (acc:=(al 3).n) (cf:=(al 4).n) (n:=0) (n6:=0) (n7:=0) (m:=(al 1).n3) (cf1:=cf1) (kc:=kc) (fc:=fc) (cf2:=cf) v.1)),.c 7,.c 7,.f 7,.v 6 (fun al=>rLenL Rin.nil (.c 6) (dep v.1)),.c 4,.v 7 (fun al=>rIeq (true)),.c 3,.v 8 (fun al=>rAppend 2)] fun al=>end_A2 (c:=(dkCode (wv b w).params fr cf1 kc fc cf it acc)) (cs:=(dkC it q acc cf kc vs n k tk (j + 1) (M.map pv++[pv v]) _ [ent (wv b w).params "path" _ (pv v)] _)) (by kernel_rfl) (by kernel_rfl) rfl (by kernel_rfl) ⟨(fun hF=>hM),(fun hF=>dep_t hb),(fun hF=>nmT_dep _ _),(fun hF=>trivial),(fun hF=>(by first | trivial | assumption | exact rfl | exact ⟨rfl,rfl⟩)),(fun hF=>hv),trivial⟩ fun hp t hF H=>?_)
     exact IH _ _ _ _ _ (by rw [if_pos (of_decide_eq_true hb),List.map_append];exact H)
   · refine' go_code ?_
     (refine' run_T2 KX Rin.nil H 4000 ⟨[0,1,2,3,4],8⟩ rfl [.c 0,.v 0 (fun al=>rNext Rin.nil 0 (.c 1) (pv v)),.c 3,.f 3,.k,.k,.c 3,.v 1 (fun al=>rSplitP (t1:=v.snd) (t2:=(al 0).n + 1) v.1),.c 0,.c 0,.e,.c 0,.q,.b 2,.c 0,.b 3,.b 4,.v 5 (fun al=>rC KX hS [2,2,1,0] 5 false (True) (fun _=>nm (fr:=fr) (it:=(al 2).n) (q:=(al 1).n) (acc:=(al 3).n) (cf:=(al 4).n) (n:=0) (n6:=0) (n7:=0) (m:=(al 1).n3) (cf1:=cf1) (kc:=kc) (fc:=fc) (cf2:=cf) v.1)),.c 7,.c 7,.f 7,.v 6 (fun al=>rLenL Rin.nil (.c 6) (dep v.1)),.c 4,.v 7 (fun al=>rIeq (true)),.c 3,.v 8 (fun al=>rAppend 2)] fun al=>end_A2 (c:=(dkCode (wv b w).params fr cf1 kc fc cf it acc)) (cs:=(dkC it q acc cf kc vs n k tk (j + 1) (M.map pv++[pv v]) _ [ent (wv b w).params "path" _ (pv v)] _)) (by kernel_rfl) (by kernel_rfl) rfl (by kernel_rfl) ⟨(fun hF=>hM),(fun hF=>dep_t hb),(fun hF=>nmT_dep _ _),(fun hF=>trivial),(fun hF=>(by first | trivial | assumption | exact rfl | exact ⟨rfl,rfl⟩)),(fun hF=>hv),trivial⟩ fun hp t hF H=>?_)
     exact IH _ _ _ _ _ (by rw [if_pos (of_decide_eq_true hb),List.map_append];exact H)
theorem dk_end {R:Result→Shared→Prop}{h:Heap}{t:Nat}{B:Addr→Option Obj}{fr cf1 kc fc it q acc cf:Addr}{vs ra:List Value}{n k tk j n6 n7:Nat}{ex:List DictEntry}
  (KX:Kin (KK (wv b w).params) B) (H:Hp B h (dkC it q acc cf kc vs n k tk j ra n6 ex n7)) (hv:vs[j]?=none)
  (x:∀ h' t',Hp B h' (dkC it q acc cf kc vs n k tk j ra n6 ex n7).tail→R (.ok .next) ⟨h',g,d,t',os⟩) :
  codeAny (model prg (wv b w)) (AF 340 none) (dkCode (wv b w).params fr cf1 kc fc cf it acc) R ⟨h,g,d,t,os⟩:=by
 refine' go_code ?_
 (refine' run_T KX Rin.nil H 4000 ⟨[2,3,4,5],6⟩ rfl [.c 0,.v 0 (fun al=>rNextEnd Rin.nil 0 (.c 1)),.c 0] fun al=>end_R (r:=(.ok .next)) (cs:=(dkC it q acc cf kc vs n k tk j ra n6 ex n7).tail) (by kernel_rfl) rfl  ⟨(fun hF=>hv),trivial⟩ fun hp t hF H=>?_)
 exact x _ _ H
theorem fK_pts (k:Nat):∀ L:List PT,pts (L.flatMap (fK k))=(pts L).filter fun p=>decide (dep p=k)
 | [] => rfl
 | v :: L => by
   rw [List.flatMap_cons]
   show pts (fK k v++L.flatMap (fK k))=List.filter _ (v.1 :: pts L)
   rw [List.filter_cons]
   unfold fK
   by_cases h:dep v.1=k
   · rw [if_pos h, if_pos (decide_eq_true h)]
     exact congrArg (v.1 :: ·) (fK_pts k L)
   · rw [if_neg h, if_neg (by simpa using h)]
     exact fK_pts k L
theorem dk {fr cf1 kc fc it q acc cf:Addr}{n k tk n6 n7:Nat}{L:List PT}(hL:L≠[]) (hl:L.length≤1000) :
  Ct prg (wv b w) 340 none (KK (wv b w).params) g d os (.compStart (e52 (wv b w).params) 0 (.ref it) (.ref acc) (env52 (wv b w).params fr cf1 kc fc cf)) (dkC it q acc cf kc (L.map pv) n k tk 0 [] n6 [] n7) none
    fun u=>(.ok .next,(dkC it q acc cf kc (L.map pv) n k tk 0 ((L.flatMap (fK k)).map pv) u.n [ent (wv b w).params "path" u.n2 (pv (L.getLast?.getD (.r,0)))] u.n3).tail):=by
 refine ⟨fun B h t R KX hS H x=>comp_lst H 0 rfl (foldI (c:=dkCode (wv b w).params fr cf1 kc fc cf it acc) L (fK k) (fun j M h=>M.length≤j∧∃ n6 ex n7,Hp B h (dkC it q acc cf kc (L.map pv) n k tk j (M.map pv) n6 ex n7)∧((j=0∧ex=[])∨∃ tk v,L[j - 1]?=some v∧ex=[ent (wv b w).params "path" tk (pv v)])) (fun j v M h t hv hi IH=>?_) (fun h t hi=>?_) ⟨Nat.zero_le _,n6,[],n7,H,.inl ⟨rfl,rfl⟩⟩)⟩
 · obtain ⟨hM, n6, ex, n7, H, hex⟩ := hi
   have hj:j < L.length:=(List.getElem?_eq_some_iff.mp hv).1
   exact dk_turn KX hS H (item_of hv) (by rw [List.length_map];omega) (hex.imp (·.2) fun ⟨tk,v,_,e⟩=>⟨tk,v,e⟩) fun h' t' tk n6 n7 H=>IH h' t' ⟨f_len (W:=[]) (f:=fun _=>fK k) hM (by unfold fK;split <;> simp),n6,_,n7,H,.inr ⟨tk,v,hv,rfl⟩⟩
 · obtain ⟨hM, n6, ex, n7, H, hex⟩ := hi
   obtain ⟨tk,v,hv,rfl⟩:=hex.resolve_left fun z=>hL (List.eq_nil_of_length_eq_zero z.1)
   obtain rfl:L.getLast?.getD (.r,0)=v:=by rw [List.getLast?_eq_getElem?,hv];rfl
   exact dk_end KX H (item_no (List.getElem?_eq_none (Nat.le_refl _))) fun h' t' H=>x { xd0 with n:=n6,n2:=tk,n3:=n7,t:=t' } h' trivial H
end
section
variable {b:Bool}{w:World}{g:Array GenState}{d:Drawn}{os:OsState}
noncomputable def rkC (it acc cf kc fc q:Addr) (L:List PT) (n k m:Nat) (ra:List Value) (n6:Nat) (ex:List DictEntry) (n7:Nat) (o:Option Value):List (Addr×Obj) :=
 [(it,riO k m),(acc,lst ra n6),(cf,dO ex.toArray n7),(kc,cellQ o),(fc,cellQ (some (.ref q))),(q,lst (L.map pv) n)]
noncomputable abbrev rkCode (P:Params) (fr kc fc cf it acc:Addr):Code:=.compLoop (e51 P) 0 (.ref it) (.ref acc) (env51 P fr cf kc fc)
theorem fK_len (k:Nat) (L:List PT):(L.flatMap (fK k)).length≤L.length:=by
 have:=congrArg List.length (fK_pts k L)
 have h2:=List.length_filter_le (fun p=>decide (dep p=k)) (pts L)
 rw [List.length_map] at this h2
 omega
theorem rk_turn {R:Result→Shared→Prop}{h:Heap}{t:Nat}{B:Addr→Option Obj}{fr it acc cf kc fc q:Addr}{L:List PT}{n k m n6 n7:Nat}{ra:List Value}{ex:List DictEntry}{o:Option Value}{tl:List (Addr×Obj)}
  (KX:Kin (KK (wv b w).params) B) (hS:(B sysModules).isSome=true) (H:Hp B h (rkC it acc cf kc fc q L n k (m + 1) ra n6 ex n7 o++tl)) (hr:ra.length≤1000) (hL:L≠[]) (hl:L.length < 64)
  (IH:∀ h' t' r ts n' n6 tk,Hp B h' (rkC it acc cf kc fc q L n (k + 1) m (ra++[.ref r]) n6 ex n7 (some (.int (k:Int) tk))++((r,lst ((tag (srt (pts (L.flatMap (fK k)))) ts).map pv) n') :: tl))→codeAny (model prg (wv b w)) (AF 330 none) (rkCode (wv b w).params fr kc fc cf it acc) R ⟨h',g,d,t',os⟩) :
  codeAny (model prg (wv b w)) (AF 330 none) (rkCode (wv b w).params fr kc fc cf it acc) R ⟨h,g,d,t,os⟩:=by
 have hl2:=Nat.lt_of_le_of_lt (fK_len k L) hl
 refine' go_code ?_
 (refine' run_T2 KX Rin.nil H 4000 ⟨[1,2,3,8,4,5,0],9⟩ rfl [.c 0,.v 0 (fun al=>rRnext (it:=it) (x:=k) (m:=m + 1) 0),.c 3,.f 3,.k,.k,.c 4,.c 5,.c 5,.e,.c 5,.q,.b 1,.c 0,.b 2,.b 3,.v 4 (fun al=>rC KX hS [2,7,1,0,3] 4 false (True) (fun _=>dk (fr:=fr) (kc:=kc) (it:=(al 1).n) (q:=q) (acc:=(al 2).n) (cf:=(al 3).n) (n:=n) (k:=k) (tk:=(al 0).n) (n6:=0) (n7:=0) (L:=L) (cf1:=cf) (fc:=fc) hL (Nat.le_trans (Nat.le_of_lt hl) (by decide)))),.c 6,.c 6,.f 6,.v 5 (fun al=>rSorted Rin.nil (.c 5) (L.flatMap (fK k))),.v 6 (fun al=>rAppend 2)] fun al=>end_A2 (c:=(rkCode (wv b w).params fr kc fc cf it acc)) (cs:=(rkC it acc cf kc fc q L n (k + 1) m _ _ ex n7 (some (.int (k:Int) _))++((_,lst ((tag (srt (pts (L.flatMap (fK k)))) _).map pv) _) :: tl))) (by kernel_rfl) (by kernel_rfl) rfl (by kernel_rfl) ⟨(fun hF=>hr),(fun hF=>hl2),(fun hF=>trivial),(fun hF=>Nat.succ_pos _),trivial⟩ fun hp t hF H=>?_)
 exact IH _ _ _ _ _ _ _ H
theorem rk_end {R:Result→Shared→Prop}{h:Heap}{t:Nat}{B:Addr→Option Obj}{fr it acc cf kc fc q:Addr}{L:List PT}{n k n6 n7:Nat}{ra:List Value}{ex:List DictEntry}{o:Option Value}{tl:List (Addr×Obj)}
  (KX:Kin (KK (wv b w).params) B) (H:Hp B h (rkC it acc cf kc fc q L n k 0 ra n6 ex n7 o++tl))
  (x:∀ h' t',Hp B h' ((rkC it acc cf kc fc q L n k 0 ra n6 ex n7 o).tail++tl)→R (.ok .next) ⟨h',g,d,t',os⟩) :
  codeAny (model prg (wv b w)) (AF 330 none) (rkCode (wv b w).params fr kc fc cf it acc) R ⟨h,g,d,t,os⟩:=by
 refine' go_code ?_
 (refine' run_T KX Rin.nil H 4000 ⟨[2,3,4,5,6],7⟩ rfl [.c 0,.v 0 (fun al=>rRend (it:=it) (x:=k) 0),.c 0] fun al=>end_R (r:=(.ok .next)) (cs:=((rkC it acc cf kc fc q L n k 0 ra n6 ex n7 o).tail++tl)) (by kernel_rfl) rfl  ⟨(fun hF=>(by first | trivial | assumption | exact rfl | exact ⟨rfl,rfl⟩)),trivial⟩ fun hp t hF H=>?_)
 exact x _ _ H
noncomputable def RkP (F:List Pt) (K:Nat) (V:List Value) (X:List (Addr×Obj)):Prop:=∃ rows:List Row,X=rowsC rows∧V=refsC rows∧rows.map (fun r=>pts r.L)=(List.range K).map fun j=>srt (F.filter fun p=>decide (dep p=j))
theorem rk {fr it acc cf kc fc q:Addr}{n n6 n7 K:Nat}{L:List PT}(hL:L≠[]) (hl:L.length < 64) (hK:K≤1000) :
  Ct prg (wv b w) 330 none (KK (wv b w).params) g d os (csAt (wv b w).params 280 fr cf [(Str.ofString "k", kc), (Str.ofString "folders", fc)] (e51 (wv b w).params) 0 it acc) (rkC it acc cf kc fc q L n 0 K [] n6 [] n7 none) (some fun u => RkP (pts L) K u.V u.X)
    fun u=>(.ok .next,[(acc,lst u.V u.n),(cf,dO #[] n7),(fc,cellQ (some (.ref q))),(q,lst (L.map pv) n)]++u.X):=by
 refine ⟨fun B h t R KX hS H x => comp_rng H 0 rfl (loopI (c := (rkCode (wv b w).params fr kc fc cf it acc)) (σ := Nat) (fun k => K - k) (fun k h => ∃ rows : List Row, ∃ n6 o, Hp B h (rkC it acc cf kc fc q L n k (K - k) (refsC rows) n6 [] n7 o ++ rowsC rows) ∧ rows.map (fun r => pts r.L) = (List.range k).map (fun j => srt ((pts L).filter fun p => decide (dep p = j))) ∧ k ≤ K)
   (fun k h t hi IH=>?_) (x:=0) ⟨[],n6,none,by rw [show rowsC []=[] from rfl,List.append_nil];exact H,rfl,Nat.zero_le _⟩)⟩
 obtain ⟨rows,n6,o,H1,hr,hk⟩:=hi
 rcases hm:K - k with _ | m
 · rw [hm] at H1
   have e:k=K:=by omega
   rw [e] at hr
   exact rk_end KX H1 fun h' t' H=>x { xd0 with V:=refsC rows,n:=n6,X:=rowsC rows,t:=t' } h' ⟨⟨rows,rfl,rfl,hr⟩,trivial⟩ (H.sub (.cons₂ _ (.cons₂ _ (.cons _ (List.Sublist.refl _)))))
 · rw [hm] at H1
   have hlen:rows.length=k:=by
     have:=congrArg List.length hr
     rwa [List.length_map,List.length_map,List.length_range] at this
   refine rk_turn KX hS H1 (by unfold refsC;rw [List.length_map];omega) hL hl fun h' t' r ts n' n6 tk H=>IH (k + 1) h' t' (by omega) ⟨rows++[⟨r,tag (srt (pts (L.flatMap (fK k)))) ts,n'⟩],n6,some (.int (k:Int) tk),?_,?_,by omega⟩
   · unfold rowsC refsC
     rw [List.map_append,List.map_append,show K - (k + 1)=m by omega]
     exact H.perm (List.Perm.append_left _ List.perm_append_comm)
   · rw [List.map_append, hr, List.range_succ, List.map_append]
     refine congrArg _ ?_
     show [pts (tag _ ts)]=[_]
     rw [pts_tag,fK_pts]
end
section
open PySem.SeqAt
variable {A:Around}{s:Shared}
theorem isl {h:Heap}{a:Addr}{vs:List Value}{n:Nat}(e:h.get? a=some (lst vs n)):h.IsList a vs.toArray:=⟨_,e,by unfold lst;rw [sList_eq],n,rfl⟩
theorem ist {h:Heap}{a:Addr}{vs:List Value}{n:Nat}(e:h.get? a=some (tupO vs n)):h.IsTuple a vs.toArray:=⟨_,e,by unfold tupO;rw [sTup_eq],n,rfl⟩
noncomputable def EqV (A:Around) (s:Shared) (vs us:List Value):Prop:=vs.length=us.length∧∀ j (h1:j < vs.length) (h2:j < us.length),EqAt A s vs[j] us[j] true
theorem all_t (n:Nat):(List.range n).all (fun _=>true)=true:=List.all_eq_true.mpr fun _ _=>rfl
theorem ne_lst {a b:Addr}{vs us:List Value}{n m:Nat}(ha:s.heap.get? a=some (lst vs n)) (hb:s.heap.get? b=some (lst us m)) (hu:A.units < cLine) (he:EqV A.in1 s vs us):RcNeAt A s (.ref a) (.ref b) false:=by
 have:=RcNeAt.lists (e:=fun _=>true) (isl ha) (isl hb) he.1 hu fun j h1 h2=>he.2 j h1 h2
 rwa [all_t] at this
theorem eq_lst {a b:Addr}{vs us:List Value}{n m:Nat}(ha:s.heap.get? a=some (lst vs n)) (hb:s.heap.get? b=some (lst us m)) (hu:A.units < cLine) (he:EqV A.in1 s vs us):RcAt A s (.ref a) (.ref b) true:=by
 have:=RcAt.lists (e:=fun _=>true) (isl ha) (isl hb) he.1 hu fun j h1 h2=>he.2 j h1 h2
 rwa [all_t] at this
theorem eqA_lst {a b:Addr}{vs us:List Value}{n m:Nat}(ha:s.heap.get? a=some (lst vs n)) (hb:s.heap.get? b=some (lst us m)) (hu:A.units < cLine) (he:EqV A.in1 s vs us):EqAt A s (.ref a) (.ref b) true:=by
 rcases Classical.em (a=b) with rfl | hn
 · exact EqAt.same _
 · exact EqAt.of_refs hn (eq_lst ha hb hu he)
theorem ne_tup {a b:Addr}{vs us:List Value}{n m:Nat}(ha:s.heap.get? a=some (tupO vs n)) (hb:s.heap.get? b=some (tupO us m)) (hu:A.units < cLine) (he:EqV A.in1 s vs us):RcNeAt A s (.ref a) (.ref b) false:=by
 have:=RcNeAt.tuples (e:=fun _=>true) (ist ha) (ist hb) hu fun j h1 h2=>he.2 j h1 h2
 rw [all_t] at this
 simpa [he.1] using this
theorem eq_tup {a b:Addr}{vs us:List Value}{n m:Nat}(ha:s.heap.get? a=some (tupO vs n)) (hb:s.heap.get? b=some (tupO us m)) (hu:A.units < cLine) (he:EqV A.in1 s vs us):RcAt A s (.ref a) (.ref b) true:=by
 have:=RcAt.tuples (e:=fun _=>true) (ist ha) (ist hb) hu fun j h1 h2=>he.2 j h1 h2
 rw [all_t] at this
 simpa [he.1] using this
theorem eqV_pv {L M:List PT}(e:pts L=pts M):EqV A s (L.map pv) (M.map pv):=by
 have hl:L.length=M.length:=by have:=congrArg List.length e;simpa [pts] using this
 refine ⟨by rw [List.length_map,List.length_map,hl],fun j h1 h2=>?_⟩
 rw [List.length_map] at h1 h2
 have ej:(L[j]).1=(M[j]).1:=by
   have:=congrArg (·[j]?) e
   simpa [pts,h1,h2] using this
 rw [List.getElem_map,List.getElem_map]
 unfold pv
 have:=EqAt.str_str (A:=A) (s:=s) (sp (L[j]).1) (L[j]).2 (sp (M[j]).1) (M[j]).2
 rw [ej] at this ⊢
 rwa [beq_self_eq_true] at this
theorem eqV_two {a1 a2 b1 b2:Value}(h1:EqAt A s a1 b1 true) (h2:EqAt A s a2 b2 true):EqV A s [a1,a2] [b1,b2]:=⟨rfl,fun j g1 g2=>by
 rcases j with _ | _ | j
 · exact h1
 · exact h2
 · exact absurd g1 (by show ¬ (j + 2 < 2);omega)⟩
theorem eqV_rows {B:Addr→Option Obj}{h:Heap}{g:Array GenState}{d:Drawn}{i:Nat}{os:OsState}{cs:List (Addr×Obj)}(H:Hp B h cs){r1 r2:List Row}(e:r1.map (fun r=>pts r.L)=r2.map (fun r=>pts r.L)) (h1:∀ r∈r1,rowC r∈cs) (h2:∀ r∈r2,rowC r∈cs) (hu:A.units < cLine):EqV A ⟨h,g,d,i,os⟩ (refsC r1) (refsC r2):=by
 have hl:r1.length=r2.length:=by have:=congrArg List.length e;simpa using this
 refine ⟨by unfold refsC;rw [List.length_map,List.length_map,hl],fun j g1 g2=>?_⟩
 unfold refsC at g1 g2
 rw [List.length_map] at g1 g2
 have ej:pts (r1[j]).L=pts (r2[j]).L:=by
   have:=congrArg (·[j]?) e
   simpa [g1,g2] using this
 unfold refsC
 rw [List.getElem_map,List.getElem_map]
 exact eqA_lst (H.own _ (h1 _ (List.getElem_mem g1))) (H.own _ (h2 _ (List.getElem_mem g2))) hu (eqV_pv ej)
end
section
open PySem.SeqAt
theorem lc5 {A:Around}{B:Addr→Option Obj}{h:Heap}{g:Array GenState}{d:Drawn}{i:Nat}{os:OsState}{cs:List (Addr×Obj)}{a1 a2:Addr}{V1 V2:List Value}{n1 n2:Nat}{X1 X2:List (Addr×Obj)}{F:List Pt}(p1 p2 k:Nat) (H:Hp B h cs) (e1:pick p1 cs=some (a1,lst V1 n1)) (e2:pick p2 cs=some (a2,lst V2 n2)) (ek:cs.drop k=X2++X1)
   (f1:∃ rows:List Row,X1=rowsC rows∧V1=refsC rows∧RwP F rows) (f2:RkP F V1.length V2 X2) (hF:FolOk F) (hu:A.units + 1 < cLine):RcNeAt A ⟨h,g,d,i,os⟩ (.ref a1) (.ref a2) false:=by
 obtain ⟨r1,x1,v1,⟨⟨K,hK,_,h1⟩,_⟩⟩:=f1
 obtain ⟨r2,x2,v2,h2⟩:=f2
 have hl:V1.length=K:=by
   have:=congrArg List.length h1
   rw [List.length_map,List.length_map,List.length_range] at this
   rw [v1]
   unfold refsC
   rw [List.length_map,this]
 have hm:∀ z∈X2++X1,z∈cs:=fun z hz=>List.mem_of_mem_drop (ek ▸ hz)
 refine ne_lst (own_pick e1 H) (own_pick e2 H) (Nat.lt_of_succ_lt hu) ?_
 rw [v1,v2]
 refine eqV_rows H ?_ (fun r hr=>hm _ (List.mem_append_right _ (x1 ▸ List.mem_map_of_mem hr))) (fun r hr=>hm _ (List.mem_append_left _ (x2 ▸ List.mem_map_of_mem hr))) hu
 rw [h1,h2,hl]
 exact List.map_congr_left fun j _=>row_eq hF j
theorem LwF.sl {V V2:List Value}(h:LwF V V2){t1 t2:List Nat}:SlH (tag (wp V) t1) (tag (wp V2) t2):=by
 have a:=h.k.1.len
 have c:=h.k.2.len
 have e1:(tag (wp V) t1).length=(wp V).length:=by have:=congrArg List.length (pts_tag (wp V) t1);rwa [List.length_map] at this
 have e2:(tag (wp V2) t2).length=(wp V2).length:=by have:=congrArg List.length (pts_tag (wp V2) t2);rwa [List.length_map] at this
 refine ⟨by omega,by omega,?_,?_,?_,?_,by omega,by omega⟩
 · rw [pts_tag];exact h.k.1.nd
 · rw [pts_tag];exact h.k.2.nd
 · rw [pts_tag];exact a.2.2
 · rw [pts_tag];exact c.2.2
theorem LwF.df {V V2:List Value}(h:LwF V V2){t1 t2:List Nat}:diff (pts (tag (wp V) t1)) (pts (tag (wp V2) t2))=(mis (wp V) (wp V2),mis (wp V2) (wp V)):=by
 rw [pts_tag,pts_tag]
 exact diff_eq h.k.1.so h.k.2.so h.k.1.nd h.k.2.nd
theorem LwF.d1 {V V2:List Value}(h:LwF V V2){t1 t2 t3 t4 t5:List Nat}:pts (tag (diff (pts (tag (wp V) t1)) (pts (tag (wp V2) t2))).1 t3)=pts ((tag (wp V) t4).flatMap (fN (tag (wp V2) t5))):=by
 rw [pts_tag,fN_pts,h.df,pts_tag,pts_tag]
theorem LwF.d2 {V V2:List Value}(h:LwF V V2){t1 t2 t3 t4 t5:List Nat}:pts (tag (diff (pts (tag (wp V) t1)) (pts (tag (wp V2) t2))).2 t3)=pts ((tag (wp V2) t4).flatMap (fN (tag (wp V) t5))):=by
 rw [pts_tag,fN_pts,h.df,pts_tag,pts_tag]
theorem cmpN {A:Around}{B:Addr→Option Obj}{h:Heap}{g:Array GenState}{d:Drawn}{i:Nat}{os:OsState}{cs:List (Addr×Obj)}{a1 a2:Addr}{L1 L2:List PT}{n1 n2:Nat}(p1 p2:Nat) (H:Hp B h cs) (e1:pick p1 cs=some (a1,lst (L1.map pv) n1)) (e2:pick p2 cs=some (a2,lst (L2.map pv) n2))
   (e:pts L1=pts L2) (hu:A.units < cLine):RcNeAt A ⟨h,g,d,i,os⟩ (.ref a1) (.ref a2) false:=ne_lst (own_pick e1 H) (own_pick e2 H) hu (eqV_pv e)
theorem tag_le {F:List Pt}(k:TrL F){ts:List Nat}:(tag F ts).length≤100:=by rw [tag_len];exact Nat.le_trans k.len.1 (by decide)
theorem tag_rle {F:List Pt}(k:TrL F){ts:List Nat}:(tag F ts).reverse.length≤100:=by rw [List.length_reverse];exact tag_le k
theorem mis_le (W T:List Pt):(mis W T).length≤W.length:=List.length_filter_le _ _
theorem LwF.m1 {V V2:List Value}(h:LwF V V2){t1 t2 t3:List Nat}:(tag (diff (pts (tag (wp V) t1)) (pts (tag (wp V2) t2))).1 t3).length≤1000:=by
 rw [tag_len,h.df]
 exact Nat.le_trans (mis_le _ _) (Nat.le_trans h.k.1.len.1 (by decide))
theorem LwF.m2 {V V2:List Value}(h:LwF V V2){t1 t2 t3:List Nat}:(tag (diff (pts (tag (wp V) t1)) (pts (tag (wp V2) t2))).2 t3).length≤1000:=by
 rw [tag_len,h.df]
 exact Nat.le_trans (mis_le _ _) (Nat.le_trans h.k.2.len.1 (by decide))
theorem pts_rev (L:List PT):pts L.reverse=(pts L).reverse:=List.map_reverse
theorem nd_rev {L:List Pt}(h:L.Nodup):L.reverse.Nodup:=(List.reverse_perm L).nodup_iff.mpr h
theorem LwF.uf {V V2:List Value}(h:LwF V V2){t1 t2:List Nat}:udf (pts (id (tag (wp V) t1))).reverse (pts (tag (wp V2) t2).reverse) []=((mis (wp V) (wp V2)).reverse,(mis (wp V2) (wp V)).reverse):=by
 rw [pts_rev,id,pts_tag,pts_tag,udf_eq _ _ _ (nd_rev h.k.1.nd) (nd_rev h.k.2.nd),List.nil_append,mis_rev,mis_rev]
theorem LwF.u1 {V V2:List Value}(h:LwF V V2){t1 t2 t3 t4 t5 t6:List Nat}:pts (tag (udf (pts (id (tag (wp V) t1))).reverse (pts (tag (wp V2) t2).reverse) []).1 t3)=pts (tag (diff (pts (tag (wp V) t4)) (pts (tag (wp V2) t5))).1 t6).reverse:=by
 rw [pts_tag,h.uf,pts_rev,pts_tag,h.df]
theorem LwF.u2 {V V2:List Value}(h:LwF V V2){t1 t2 t3 t4 t5 t6:List Nat}:pts (tag (udf (pts (id (tag (wp V) t1))).reverse (pts (tag (wp V2) t2).reverse) []).2 t3)=pts (tag (diff (pts (tag (wp V) t4)) (pts (tag (wp V2) t5))).2 t6).reverse:=by
 rw [pts_tag,h.uf,pts_rev,pts_tag,h.df]
theorem cmpT {A:Around}{B:Addr→Option Obj}{h:Heap}{g:Array GenState}{d:Drawn}{i:Nat}{os:OsState}{cs:List (Addr×Obj)}{a1 a2 x1 x2 y1 y2:Addr}{L1 L2 M1 M2:List PT}{n1 n2 m1 m2 k1 k2:Nat}(p1 p2 q1 q2 r1 r2:Nat) (H:Hp B h cs) (e1:pick p1 cs=some (a1,tupO [.ref x1,.ref x2] k1)) (e2:pick p2 cs=some (a2,tupO [.ref y1,.ref y2] k2))
   (f1:pick q1 cs=some (x1,lst (L1.map pv) n1)) (f2:pick q2 cs=some (x2,lst (L2.map pv) n2)) (g1:pick r1 cs=some (y1,lst (M1.map pv) m1)) (g2:pick r2 cs=some (y2,lst (M2.map pv) m2))
   (z1:pts L1=pts M1) (z2:pts L2=pts M2) (hu:A.units + 1 < cLine):RcNeAt A ⟨h,g,d,i,os⟩ (.ref a1) (.ref a2) false :=
 ne_tup (own_pick e1 H) (own_pick e2 H) (Nat.lt_of_succ_lt hu) (eqV_two (eqA_lst (own_pick f1 H) (own_pick g1 H) hu (eqV_pv z1)) (eqA_lst (own_pick f2 H) (own_pick g2 H) hu (eqV_pv z2)))
noncomputable abbrev lwE (P:Params) (a:Nat→Xd):Env:=envAtC P 280 (a (nat_lit 0)).n (lwCl (a (nat_lit 1)).n (a (nat_lit 2)).n (a (nat_lit 3)).n (a (nat_lit 4)).n (a (nat_lit 5)).n (a (nat_lit 6)).n (a (nat_lit 7)).n)
noncomputable abbrev lwF (P:Params) (a:Nat→Xd):Code:=.func (bdAt P 280) (lwE P a)
noncomputable abbrev lwI (P:Params) (a:Nat→Xd) (n:Nat) (m:Sem Bool):Sem Fin:=fuT (lwE P a) (sqT ((bdAt P 280).drop (n + 1)) (lwE P a) (ifT (subL (nthS (bdAt P 280) n) 0) [] (lwE P a) m))
noncomputable abbrev lwO (P:Params) (a:Nat→Xd) (n k:Nat) (m:Sem Bool):Sem Fin:=lwI P a n (orT ((boolL (ifTest (nthS (bdAt P 280) n))).drop k) (lwE P a) m)
noncomputable abbrev rcT (op:CmpOp) (x y:Value):Sem Bool:=tvT (opT [x,y] (PySem.W.ZFast.zw9423741818375054981 op x y))
end
theorem meets_lslice3 (q a:Addr) (vs:Array Value) (n:Nat) (vt:Value) (st:Option Int) (pt:IsPart vt st) (h0:st≠some 0) (hsz:vs.size≤sizeLine) :
   Meets (Builtin.«list.__getitem__» ⟨[.ref q, .ref a], []⟩) (fun _ R s => s.heap.get? q = some { cls := .type "list", data := .seq vs n } ∧ s.heap.get? a = some { cls := .type "slice", data := .fields #[.none, .none, vt] } ∧
     R (.ok (.ret (.ref s.heap.objs.size))) { s with heap:=s.heap.push { cls:=.type "list",data:=.seq (slicePick vs none none st) } }):=by
 refine .of_wp fun prog w A R s h=>?_
 obtain ⟨hl,hs,h⟩:=h
 have hTs:s.TypeIs (.ref a) "slice":=⟨_,hs,rfl⟩
 show wpAny _ _ (Builtin.List.listSubscript? (.ref a) >>= _) _ _ s
 refine wpAny_bind ?_
 unfold Builtin.List.listSubscript?
 refine wpAny_bind (wpAny_specialOf hTs slice_no_index ?_)
 simp only [Option.isNone_none,if_true]
 refine wpAny_pure ?_
 show wpAny _ _ (typeOf (.ref a) >>= _) _ _ s
 refine wpAny_bind (wpAny_typeOf hTs ?_)
 rw [if_neg (by decide)]
 rw [listSliceParts_eq]
 have hstep:¬ ((rawPart st == rawInt 0)=true):=by
   cases st with
   | none => exact Bool.false_ne_true
   | some c =>
     intro hh
     have:c=0:=by simpa [rawPart,rawInt] using hh
     exact h0 (by rw [this])
 refine wpAny_bind (wpAny_bind (wpAny_field hs rfl (x:=vt) rfl (wpAny_bind (wpAny_listPart pt ?_))))
 rw [if_neg hstep]
 refine wpAny_bind (wpAny_field hs rfl (x:=Value.none) rfl (wpAny_bind (wpAny_listPart .none ?_)))
 refine wpAny_bind (wpAny_field hs rfl (x:=Value.none) rfl (wpAny_bind (wpAny_listPart .none (wpAny_pure ?_))))
 refine wpAny_bind (m:=Builtin.List.listItems (.ref q)) ?_
 unfold Builtin.List.listItems
 refine wpAny_bind (wpAny_seqItems hl rfl (wpAny_pure ?_))
 refine wpAny_bind (wpAny_of_eq (sliceIndices_raw none none st vs.size h0) ?_)
 exact wpAny_bind (wpAny_newObj_type (wpAny_pure ⟨_,rfl,h⟩) (Nat.le_trans (slicePick_size_le vs none none st) hsz))
theorem down_all (vs:List Value):∀ n,n≤vs.length→((List.range n).map fun k=>n - 1 - k).filterMap (fun i=>vs[i]?)=(vs.take n).reverse
 | 0, _ => by simp
 | n + 1, h => by
   have e:(List.range (n + 1)).map (fun k=>n + 1 - 1 - k)=n :: (List.range n).map fun k=>n - 1 - k:=by
     rw [List.range_succ_eq_map,List.map_cons,List.map_map]
     refine congrArg (List.cons _) (List.map_congr_left fun k _=>?_)
     show n + 1 - 1 - (k + 1)=_
     omega
   have hl:n < vs.length:=h
   rw [e,List.filterMap_cons_some (b:=vs[n]) (by simp [hl]),down_all vs n (Nat.le_of_succ_le h),List.take_add_one,List.reverse_append]
   simp [hl]
theorem slicePick_rev (vs:List Value):slicePick vs.toArray none none (some (-1))=vs.reverse.toArray:=by
 unfold slicePick
 refine congrArg _ ?_
 have hb:sliceBounds none none (some (-1)) vs.toArray.size=((vs.length:Int) - 1,-1,-1):=by
   unfold sliceBounds
   simp
 rw [hb]
 dsimp only
 have hr:sliceRange ((vs.length:Int) - 1) (-1) (-1)=(List.range vs.length).map fun k=>vs.length - 1 - k:=by
   unfold sliceRange
   have hc:((if (vs.length:Int) - 1 > -1 then ((vs.length:Int) - 1 - -1 - -1 - 1) / (- -1) else 0):Int).toNat=vs.length:=by
     split
     · rw [show ((vs.length:Int) - 1 - -1 - -1 - 1)=vs.length by omega,show (- -1:Int)=1 by decide,Int.ediv_one];rfl
     · omega
   dsimp only
   rw [if_neg (show ¬ ((-1:Int) > 0) by decide),hc]
   refine List.map_congr_left fun k hk=>?_
   have:=List.mem_range.mp hk
   omega
 rw [hr]
 have:=down_all vs vs.length (Nat.le_refl _)
 rw [List.take_length] at this
 rw [← this]
 exact congrArg (fun f=>List.filterMap f _) (funext fun i=>List.getElem?_toArray)
section
variable {prog:Program}{w:World}{A:Around}{R:Result→Shared→Prop}{B:Addr→Option Obj}{g:Array GenState}{d:Drawn}{t:Nat}{os:OsState}{rs:List (Addr×Obj)}
noncomputable def slO (vt:Value):Obj:=⟨.type sSlice,none,.fields #[.none,.none,vt],#[]⟩
noncomputable def rSlP {q1 q2:Addr}{L:List PT}{n:Nat}{vt:Value}(st:Option Int) (pt:IsPart vt st) (h0:st≠some 0) (f:List PT→List PT) (hf:∀ M:List PT,slicePick (M.map pv).toArray none none st=((f M).map pv).toArray) (RX:Rin rs B) (l1 l2:Lc):Rul prog w A R B g d os :=
 rN "list.__getitem__" 128106587276438692081757506308484131437 (by decide +kernel) anyS rs [.ref q1,.ref q2] [l1,l2] [(q1,lst (L.map pv) n),(q2,slO vt)] (L.length≤1000) none (fun cs u=>(.ok (.ret (.ref u.n)),(u.n,lst ((f L).map pv) 0) :: cs,u.n2)) fun l c cs _ _ hl hp=>⟨fun _ _ _ h' i' H y=>by
 have h1:=lk_ok RX (lkA_cons hl).1 H
 have h2:=lk_ok RX (lkA_cons (lkA_cons hl).2).1 H
 have z:=y (xd h'.objs.size i') _ trivial (H.push (o:=lst ((f L).map pv) 0) rfl)
 unfold slO at h2
 rw [sSlice_eq] at h2
 rw [lst_eq] at h1 z
 rw [← hf] at z
 exact ct_meets slot_list_getitem ⟨_,h1,rfl⟩ entry_list_getitem (args_list_getitem _ _) (meets_lslice3 q1 q2 _ n vt st pt h0 (by rw [List.size_toArray,List.length_map,sizeLine];omega)) rfl ⟨h1,h2,z⟩⟩
noncomputable def rSlA {q1 q2:Addr}{L:List PT}{n:Nat}(RX:Rin rs B) (l1 l2:Lc):Rul prog w A R B g d os:=rSlP (q1:=q1) (q2:=q2) (L:=L) (n:=n) none .none (by simp) id (fun M=>slicePick_all _) RX l1 l2
noncomputable def rSlR {q1 q2:Addr}{L:List PT}{n:Nat}{tk:Tok}(RX:Rin rs B) (l1 l2:Lc):Rul prog w A R B g d os:=rSlP (q1:=q1) (q2:=q2) (L:=L) (n:=n) (vt:=.int (-1) tk) (some (-1)) (.int _ _) (by simp) List.reverse (fun M=>by rw [slicePick_rev,List.map_reverse]) RX l1 l2
end
section
variable {prog:Program}{w:World}{A:Around}{R:Result→Shared→Prop}{B:Addr→Option Obj}{h:Heap}{g:Array GenState}{d:Drawn}{t:Nat}{os:OsState}{cs:List (Addr×Obj)}
theorem comp_lst1 {elt target iter:Expr}{g0:Comprehension}{ifs:List Expr}{rest:List Comprehension}{scope:Scope}{pos:PySem.Pos}{it q:Addr}{acc:Value}{env:Env}{i:Nat}(H:Hp B h cs) (k:Nat) (e:pick k cs=some (it,itL q i))
   (h0:codeAny (model prog w) A (.compLoop (.ListComp elt (g0 :: ⟨target,iter,ifs,0⟩ :: rest) scope pos) 1 (.ref it) acc env) R ⟨h,g,d,t,os⟩) :
   codeAny (model prog w) A (.compStart (.ListComp elt (g0 :: ⟨target,iter,ifs,0⟩ :: rest) scope pos) 1 (.ref it) acc env) R ⟨h,g,d,t,os⟩:=by
 have hit:=own_pick e H
 rw [itL_eq] at hit
 have hh:wpAny (model prog w) A (pyIter (.ref it)) (fun it' s'=>codeAny (model prog w) A (.compLoop (.ListComp elt (g0 :: ⟨target,iter,ifs,0⟩ :: rest) scope pos) 1 it' acc env) R s') (notedBy (model prog w) A env fun x s'=>R (.error x) s') ⟨h,g,d,t,os⟩:=wpAny_pyIter_listiter ⟨_,hit,rfl,rfl⟩ h0
 refine codeAny_of_tree ?_
 show wpAny _ _ ((compStart (.ListComp elt (g0 :: ⟨target,iter,ifs,0⟩ :: rest) scope pos) 1 (.ref it) acc env).onRaise (fun x=>do noteFrame x env;standAt theWindowsPlace)) _ _ _
 refine wpAny_notedAt ?_
 unfold compStart
 show wpAny _ _ (ask >>= _) _ _ _
 refine wpAny_bind (wpAny_askSetting (wpAny_ite ?_))
 split
 · first
     | exact wpAny_bind (wpAny_pure (wpAny_pure (And.intro rfl h0)))
     | exact wpAny_pure (And.intro rfl h0)
 · first
     | exact wpAny_bind (wpAny_rule (wpAny_bind (wpAny_standAt (wpAny_bind (wpAny_mono hh (fun it' s' h' => wpAny_pure (And.intro rfl h')) fun _ _ x => x)))))
     | (refine wpAny_bind (wpAny_rule ?_); show wpAny _ _ (standAt iter.pos >>= _) _ _ _; exact wpAny_bind (wpAny_standAt (wpAny_bind (wpAny_mono hh (fun it' s' h' => wpAny_pure (And.intro rfl h')) fun _ _ x => x))))
end
section
variable {b:Bool}{w:World}{g:Array GenState}{d:Drawn}{os:OsState}
noncomputable abbrev e9 (P:Params):Expr:=ceAt P 280 9 [] [0]
noncomputable abbrev cp9 (P:Params) (fr cf:Addr) (k:Nat) (it acc:Addr):Code:=cpAt P 280 fr cf [] (e9 P) k it acc
noncomputable def itC (it ra acc cf:Addr) (L:List PT) (n j:Nat) (vs:List Value) (n6:Nat) (ex:List DictEntry) (n7:Nat):List (Addr×Obj) :=
 [(it,itL ra j),(acc,lst vs n6),(cf,dO ex.toArray n7),(ra,lst (L.map pv) n)]
theorem kI_t {R:Result→Shared→Prop}{h:Heap}{t:Nat}{B:Addr→Option Obj}{fr it ra acc cf:Addr}{n n6 n7 j:Nat}{k0:Tok}{L M:List PT}{v:PT}{ex:List DictEntry}
  (KX:Kin (KK (wv b w).params) B) (H:Hp B h (itC it ra acc cf L n j (M.map pv) n6 (ent (wv b w).params "row" k0 (.ref ra) :: ex) n7)) (hv:(L.map pv)[j]?=some (pv v)) (hM:(M.map pv).length≤1000) (hex:ex=[]∨∃ tk v,ex=[ent (wv b w).params "path" tk (pv v)])
  (IH:∀ h' t' tk n6 n7,Hp B h' (itC it ra acc cf L n (j + 1) ((M++[v]).map pv) n6 [ent (wv b w).params "row" k0 (.ref ra),ent (wv b w).params "path" tk (pv v)] n7)→codeAny (model prg (wv b w)) (AF 340 none) (cp9 (wv b w).params fr cf 1 it acc) R ⟨h',g,d,t',os⟩) :
  codeAny (model prg (wv b w)) (AF 340 none) (cp9 (wv b w).params fr cf 1 it acc) R ⟨h,g,d,t,os⟩:=by
 rw [map_snoc] at IH
 rcases hex with rfl | ⟨tk,v0,rfl⟩
 · refine' go_code ?_
   (refine' run_T KX Rin.nil H 4000 ⟨[0,1,2,3],4⟩ rfl [.c 0,.v 0 (fun al=>rNext Rin.nil 0 (.c 3) (pv v)),.c 2,.f 2,.c 2,.v 1 (fun al=>rAppend 1)] fun al=>end_A (c:=(cp9 (wv b w).params fr cf 1 it acc)) (cs:=(itC it ra acc cf L n (j + 1) (M.map pv++[pv v]) _ [ent (wv b w).params "row" k0 (.ref ra),ent (wv b w).params "path" _ (pv v)] _)) (by kernel_rfl) rfl  ⟨(fun hF=>hM),(fun hF=>hv),trivial⟩ fun hp t hF H=>?_)
   exact IH _ _ _ _ _ H
 · refine' go_code ?_
   (refine' run_T KX Rin.nil H 4000 ⟨[0,1,2,3],4⟩ rfl [.c 0,.v 0 (fun al=>rNext Rin.nil 0 (.c 3) (pv v)),.c 2,.f 2,.c 2,.v 1 (fun al=>rAppend 1)] fun al=>end_A (c:=(cp9 (wv b w).params fr cf 1 it acc)) (cs:=(itC it ra acc cf L n (j + 1) (M.map pv++[pv v]) _ [ent (wv b w).params "row" k0 (.ref ra),ent (wv b w).params "path" _ (pv v)] _)) (by kernel_rfl) rfl  ⟨(fun hF=>hM),(fun hF=>hv),trivial⟩ fun hp t hF H=>?_)
   exact IH _ _ _ _ _ H
theorem kI_e {R:Result→Shared→Prop}{h:Heap}{t:Nat}{B:Addr→Option Obj}{fr it ra acc cf:Addr}{n n6 n7 j:Nat}{vs:List Value}{L:List PT}{ex:List DictEntry}
  (KX:Kin (KK (wv b w).params) B) (H:Hp B h (itC it ra acc cf L n j vs n6 ex n7)) (hv:(L.map pv)[j]?=none)
  (x:∀ h' t',Hp B h' (itC it ra acc cf L n j vs n6 ex n7).tail→R (.ok .next) ⟨h',g,d,t',os⟩) :
  codeAny (model prg (wv b w)) (AF 340 none) (cp9 (wv b w).params fr cf 1 it acc) R ⟨h,g,d,t,os⟩:=by
 refine' go_code ?_
 (refine' run_T KX Rin.nil H 4000 ⟨[2,3,4],5⟩ rfl [.c 0,.v 0 (fun al=>rNextEnd Rin.nil 0 (.c 3)),.c 0] fun al=>end_R (r:=(.ok .next)) (cs:=(itC it ra acc cf L n j vs n6 ex n7).tail) (by kernel_rfl) rfl  ⟨(fun hF=>hv),trivial⟩ fun hp t hF H=>?_)
 exact x _ _ H
theorem kI {fr it ra acc cf:Addr}{n n6 n7:Nat}{k0:Tok}{L M:List PT}{ex:List DictEntry}(hL:L≠[]) (hl:(M++L).length≤1000) (hex:ex=[]∨∃ tk v,ex=[ent (wv b w).params "path" tk (pv v)]) :
  Ct prg (wv b w) 340 none (KK (wv b w).params) g d os (csAt (wv b w).params 280 fr cf [] (e9 (wv b w).params) 1 it acc) (itC it ra acc cf L n 0 (M.map pv) n6 (ent (wv b w).params "row" k0 (.ref ra) :: ex) n7) none
    fun u=>(.ok .next,(itC it ra acc cf L n 0 ((M++L).map pv) u.n [ent (wv b w).params "row" k0 (.ref ra),ent (wv b w).params "path" u.n2 (pv (L.getLast?.getD (.r,0)))] u.n3).tail):=by
 refine ⟨fun B h t R KX hS H x=>comp_lst1 H 0 rfl (foldI (c:=(cp9 (wv b w).params fr cf 1 it acc)) L (fun v=>[v]) (fun j N h=>N.length=j∧∃ n6 ex n7,Hp B h (itC it ra acc cf L n j ((M++N).map pv) n6 (ent (wv b w).params "row" k0 (.ref ra) :: ex) n7)∧((j=0∧(ex=[]∨∃ tk v,ex=[ent (wv b w).params "path" tk (pv v)]))∨∃ tk v,L[j - 1]?=some v∧ex=[ent (wv b w).params "path" tk (pv v)])) (fun j v N h t hv hi IH=>?_) (fun h t hi=>?_) ⟨rfl,n6,ex,n7,by rw [List.append_nil];exact H,.inl ⟨rfl,hex⟩⟩)⟩
 · obtain ⟨hN, n6, ex, n7, H, hex⟩ := hi
   have hj:j < L.length:=(List.getElem?_eq_some_iff.mp hv).1
   rw [List.length_append] at hl
   exact kI_t KX H (item_of hv) (by rw [List.length_map,List.length_append];omega) (hex.elim (·.2) fun ⟨tk,v,_,e⟩=>.inr ⟨tk,v,e⟩) fun h' t' tk n6 n7 H=>IH h' t' ⟨by rw [List.length_append,hN];rfl,n6,_,n7,by rw [← List.append_assoc];exact H,.inr ⟨tk,v,hv,rfl⟩⟩
 · obtain ⟨hN, n6, ex, n7, H, hex⟩ := hi
   obtain ⟨tk,v,hv,rfl⟩:=hex.resolve_left fun z=>hL (List.eq_nil_of_length_eq_zero z.1)
   obtain rfl:L.getLast?.getD (.r,0)=v:=by rw [List.getLast?_eq_getElem?,hv];rfl
   have e:L.flatMap (fun v=>[v])=L:=by simp
   rw [e] at H
   exact kI_e KX H (List.getElem?_eq_none (by rw [List.length_map];exact Nat.le_refl _)) fun h' t' H=>x { xd0 with n:=n6,n2:=tk,n3:=n7,t:=t' } h' trivial H
theorem kO_t {R:Result→Shared→Prop}{h:Heap}{t:Nat}{B:Addr→Option Obj}{fr it q ra acc cf:Addr}{n n6 n7 m j:Nat}{V:List Value}{L M:List PT}{ex:List DictEntry}{tl:List (Addr×Obj)}
  (KX:Kin (KK (wv b w).params) B) (hS:(B sysModules).isSome=true) (H:Hp B h ([(ra,lst (L.map pv) m),(it,itL q j),(acc,lst (M.map pv) n6),(cf,dO ex.toArray n7),(q,lst V n)]++tl)) (hv:V[j]?=some (.ref ra)) (hL:L≠[]) (hl:(M++L).length≤1000) (hex:ex=[]∨∃ tk x tk2 v,ex=[ent (wv b w).params "row" tk (.ref x),ent (wv b w).params "path" tk2 (pv v)])
  (IH:∀ h' t' tk tk2 n6 n7,Hp B h' ([(it,itL q (j + 1)),(acc,lst ((M++L).map pv) n6),(cf,dO [ent (wv b w).params "row" tk (.ref ra),ent (wv b w).params "path" tk2 (pv (L.getLast?.getD (.r,0)))].toArray n7),(q,lst V n),(ra,lst (L.map pv) m)]++tl)→codeAny (model prg (wv b w)) (AF 330 none) (cp9 (wv b w).params fr cf 0 it acc) R ⟨h',g,d,t',os⟩) :
  codeAny (model prg (wv b w)) (AF 330 none) (cp9 (wv b w).params fr cf 0 it acc) R ⟨h,g,d,t,os⟩:=by
 rcases hex with rfl | ⟨tk,x0,tk2,v0,rfl⟩
 · refine' go_code ?_
   (refine' run_T2 KX Rin.nil H 4000 ⟨[0,2,3,1,4],5⟩ rfl [.c 1,.v 0 (fun al=>rNext Rin.nil 1 (.c 4) (Value.ref ra)),.c 3,.f 3,.c 3,.c 0,.c 0,.e,.c 0,.q,.b 1,.c 0,.v 2 (fun al=>rC KX hS [0,2,2,0] 2 false (True) (fun _=>kI (it:=(al 1).n) (ra:=ra) (acc:=acc) (cf:=cf) (n:=m) (n6:=n6) (n7:=n7 + 1) (k0:=(al 0).n) (L:=L) (M:=M) (ex:=[]) (fr:=fr) hL hl (.inl rfl)))] fun al=>end_A2 (c:=(cp9 (wv b w).params fr cf 0 it acc)) (cs:=([(it,itL q (j + 1)),(acc,lst ((M++L).map pv) _),(cf,dO [ent (wv b w).params "row" _ (.ref ra),ent (wv b w).params "path" _ (pv (L.getLast?.getD (.r,0)))].toArray _),(q,lst V n),(ra,lst (L.map pv) m)]++tl)) (by kernel_rfl) (by kernel_rfl) rfl (by kernel_rfl) ⟨(fun hF=>trivial),(fun hF=>hv),trivial⟩ fun hp t hF H=>?_)
   exact IH _ _ _ _ _ _ H
 · refine' go_code ?_
   (refine' run_T2 KX Rin.nil H 4000 ⟨[0,2,3,1,4],5⟩ rfl [.c 1,.v 0 (fun al=>rNext Rin.nil 1 (.c 4) (Value.ref ra)),.c 3,.f 3,.c 3,.c 0,.c 0,.e,.c 0,.q,.b 1,.c 0,.v 2 (fun al=>rC KX hS [0,2,2,0] 2 false (True) (fun _=>kI (it:=(al 1).n) (ra:=ra) (acc:=acc) (cf:=cf) (n:=m) (n6:=n6) (n7:=n7) (k0:=tk) (L:=L) (M:=M) (ex:=[ent (wv b w).params "path" tk2 (pv v0)]) (fr:=fr) hL hl (.inr ⟨_,_,rfl⟩)))] fun al=>end_A2 (c:=(cp9 (wv b w).params fr cf 0 it acc)) (cs:=([(it,itL q (j + 1)),(acc,lst ((M++L).map pv) _),(cf,dO [ent (wv b w).params "row" _ (.ref ra),ent (wv b w).params "path" _ (pv (L.getLast?.getD (.r,0)))].toArray _),(q,lst V n),(ra,lst (L.map pv) m)]++tl)) (by kernel_rfl) (by kernel_rfl) rfl (by kernel_rfl) ⟨(fun hF=>trivial),(fun hF=>hv),trivial⟩ fun hp t hF H=>?_)
   exact IH _ _ _ _ _ _ H
theorem kO_e {R:Result→Shared→Prop}{h:Heap}{t:Nat}{B:Addr→Option Obj}{fr it q acc cf:Addr}{n n6 n7 j:Nat}{V vs:List Value}{ex:List DictEntry}{tl:List (Addr×Obj)}
  (KX:Kin (KK (wv b w).params) B) (H:Hp B h ([(it,itL q j),(acc,lst vs n6),(cf,dO ex.toArray n7),(q,lst V n)]++tl)) (hv:V[j]?=none)
  (x:∀ h' t',Hp B h' ([(acc,lst vs n6),(cf,dO ex.toArray n7),(q,lst V n)]++tl)→R (.ok .next) ⟨h',g,d,t',os⟩) :
  codeAny (model prg (wv b w)) (AF 330 none) (cp9 (wv b w).params fr cf 0 it acc) R ⟨h,g,d,t,os⟩:=by
 refine' go_code ?_
 (refine' run_T KX Rin.nil H 4000 ⟨[2,3,4],5⟩ rfl [.c 0,.v 0 (fun al=>rNextEnd Rin.nil 0 (.c 3)),.c 0] fun al=>end_R (r:=(.ok .next)) (cs:=([(acc,lst vs n6),(cf,dO ex.toArray n7),(q,lst V n)]++tl)) (by kernel_rfl) rfl  ⟨(fun hF=>hv),trivial⟩ fun hp t hF H=>?_)
 exact x _ _ H
theorem rows_ord {F:List Pt}{rows:List Row}(k:RwP F rows):pts (rows.flatMap Row.L)=ord F rows.length∧lev F rows.length=[]:=by
 obtain ⟨⟨K,hK,h0,h1⟩,_⟩:=k
 have hl:rows.length=K:=by
   have:=congrArg List.length h1
   rwa [List.length_map,List.length_map,List.length_range] at this
 rw [hl]
 refine ⟨?_,h0⟩
 unfold ord
 have e:pts (rows.flatMap Row.L)=(rows.map fun r=>pts r.L).flatten:=by
   rw [← List.flatMap_def]
   show (rows.flatMap Row.L).map _=_
   rw [List.map_flatMap]
 rw [e,h1,← List.flatMap_def]
theorem up_mid {α:Type}{x:α}{z a b:List α}(l:List α):List.Perm (l++(z++(a++x :: b))) (x :: (l++(z++(a++b)))):=by
 simp only [← List.append_assoc]
 exact List.perm_middle
theorem kO {fr it q acc cf:Addr}{n n6 n7:Nat}{F:List Pt}{V:List Value}{X Z:List (Addr×Obj)}(hF:FolOk F) (hX:∃ rows:List Row,X=rowsC rows∧V=refsC rows∧RwP F rows) :
  Ct prg (wv b w) 330 none (KK (wv b w).params) g d os (csAt (wv b w).params 280 fr cf [] (e9 (wv b w).params) 0 it acc) ([(it, itL q 0), (acc, lst [] n6), (cf, dO #[] n7), (q, lst V n)] ++ (Z ++ X)) none
    fun u=>(.ok .next,[(acc,lst ((tag (ord F V.length) u.L).map pv) u.n),(cf,dO [ent (wv b w).params "row" u.n2 (.ref u.n3),ent (wv b w).params "path" u.n4 (pv ((F[u.d.getD 0]?).getD .r,u.n5))].toArray u.n6),(q,lst V n)]++(Z++X)):=by
 obtain ⟨rows,rfl,rfl,k⟩:=hX
 have hro:=rows_ord k
 have hne:rows≠[]:=by
   rintro rfl
   have h0:lev F 0=[]:=hro.2
   have:Pt.r∈lev F 0:=(lev_in hF 0 .r).mpr ⟨List.mem_of_getElem? hF.rt,rfl⟩
   rw [h0] at this
   exact absurd this List.not_mem_nil
 have htot:(rows.flatMap Row.L).length≤1000:=by
   have h1:=congrArg List.length hro.1
   rw [(ord_perm hF hro.2).length_eq,List.length_map] at h1
   have:=nodup_le hF.nd
   omega
 have hvl:(refsC rows).length=rows.length:=List.length_map _
 refine ⟨fun B h t R KX hS H x=>comp_lst H 0 rfl (foldI (c:=(cp9 (wv b w).params fr cf 0 it acc)) rows Row.L (fun j N h=>N=(rows.take j).flatMap Row.L∧∃ (n6:Nat) (ex:List DictEntry) (n7:Nat),Hp B h ([(it,itL q j),(acc,lst (N.map pv) n6),(cf,dO ex.toArray n7),(q,lst (refsC rows) n)]++(Z++rowsC rows))∧((j=0∧ex=[])∨∃ tk x tk2 v,v.1∈F∧ex=[ent (wv b w).params "row" tk (.ref x),ent (wv b w).params "path" tk2 (pv v)])) (fun j r N h t hv hi IH=>?_) (fun h t hi=>?_) ⟨rfl,n6,[],n7,H,.inl ⟨rfl,rfl⟩⟩)⟩
 · obtain ⟨hN, n6, ex, n7, H, hex⟩ := hi
   have hr:r∈rows:=List.mem_of_getElem? hv
   obtain ⟨r1,r2,e⟩:=List.append_of_mem hr
   have ex1:rowsC rows=rowsC r1++(r.a,lst (r.L.map pv) r.n) :: rowsC r2:=by rw [e];unfold rowsC;rw [List.map_append,List.map_cons];rfl
   have hT:rows.take (j + 1)=rows.take j++[r]:=by rw [List.take_add_one,hv];rfl
   have hN1:N++r.L=(rows.take (j + 1)).flatMap Row.L:=by rw [hT,List.flatMap_append,hN,List.flatMap_cons,List.flatMap_nil,List.append_nil]
   have hlen:(N++r.L).length≤1000:=by
     have e2:rows.flatMap Row.L=(N++r.L)++(rows.drop (j + 1)).flatMap Row.L:=by rw [hN1,← List.flatMap_append,List.take_append_drop]
     rw [e2,List.length_append] at htot
     omega
   have hpf:∀ v∈r.L,v.1∈F:=by
     intro v hv2
     obtain ⟨⟨K,_,_,h1⟩,_⟩:=k
     have hm:pts r.L∈rows.map fun r=>pts r.L:=List.mem_map_of_mem hr
     rw [h1] at hm
     obtain ⟨i,_,hi⟩:=List.mem_map.mp hm
     have:v.1∈srt (lev F i):=hi ▸ List.mem_map_of_mem hv2
     exact ((lev_in hF i v.1).mp ((srt_perm _).mem_iff.mp this)).1
   rw [ex1] at H
   have H1:=H.perm (cs':=[(r.a,lst (r.L.map pv) r.n),(it,itL q j),(acc,lst (N.map pv) n6),(cf,dO ex.toArray n7),(q,lst (refsC rows) n)]++(Z++(rowsC r1++rowsC r2))) (up_mid [_,_,_,_]).symm
   refine kO_t KX hS H1 (by unfold refsC;rw [List.getElem?_map,hv];rfl) (k.ne r hr) hlen (hex.imp (·.2) fun ⟨tk,x,tk2,v,_,e⟩=>⟨tk,x,tk2,v,e⟩) fun h' t' tk tk2 n6 n7 H=>IH h' t' ⟨hN1,n6,_,n7,?_,.inr ⟨tk,r.a,tk2,r.L.getLast?.getD (.r,0),?_,rfl⟩⟩
   · rw [ex1]
     exact H.perm (List.Perm.append_left [_,_,_,_] (up_mid (x:=(r.a,lst (r.L.map pv) r.n)) []))
   · have hz := k.ne r hr
     rw [List.getLast?_eq_some_getLast hz]
     exact hpf _ (List.getLast_mem hz)
 · obtain ⟨hN, n6, ex, n7, H, hex⟩ := hi
   obtain ⟨tk,x0,tk2,v,hv,rfl⟩:=hex.resolve_left fun z=>hne (List.eq_nil_of_length_eq_zero z.1)
   obtain ⟨i,hi⟩:=List.mem_iff_getElem?.mp hv
   refine kO_e KX H (List.getElem?_eq_none (by rw [hvl];exact Nat.le_refl _)) fun h' t' H=>x { xd0 with L:=(rows.flatMap Row.L).map (·.2),n:=n6,n2:=tk,n3:=x0,n4:=tk2,n5:=v.2,d:=some i,n6:=n7,t:=t' } h' trivial ?_
   show Hp B h' ([(acc,lst ((tag (ord F (refsC rows).length) ((rows.flatMap Row.L).map (·.2))).map pv) n6),(cf,dO [ent (wv b w).params "row" tk (.ref x0),ent (wv b w).params "path" tk2 (pv ((F[i]?).getD .r,v.2))].toArray n7),(q,lst (refsC rows) n)]++(Z++rowsC rows))
   rw [hvl,← hro.1,tag_pts,hi]
   exact H
theorem ord_len {F:List Pt}{V:List Value}{X:List (Addr×Obj)}(hF:FolOk F) (hX:∃ rows:List Row,X=rowsC rows∧V=refsC rows∧RwP F rows):lev F V.length=[]:=by
 obtain ⟨rows,_,rfl,k⟩:=hX
 rw [show (refsC rows).length=rows.length from List.length_map _]
 exact (rows_ord k).2
theorem ord_tag {F:List Pt}{K:Nat}{ts:List Nat}(hF:FolOk F) (h:lev F K=[]):tag (ord F K) ts≠[]∧(tag (ord F K) ts).length≤1000:=by
 have e:=(ord_perm hF h).length_eq
 have h1:=nodup_le hF.nd
 refine ⟨fun z=>?_,by rw [tag_len];omega⟩
 have h2:=congrArg List.length z
 rw [tag_len,e] at h2
 have h3:=(List.getElem?_eq_some_iff.mp hF.rt).1
 exact absurd h3 (by rw [h2];decide)
theorem ord_rtag {F:List Pt}{K:Nat}{ts:List Nat}(hF:FolOk F) (h:lev F K=[]):(tag (ord F K) ts).reverse≠[]∧(tag (ord F K) ts).reverse.length≤1000:=by
 have:=ord_tag (ts:=ts) hF h
 exact ⟨fun z=>this.1 (List.reverse_eq_nil_iff.mp z),by rw [List.length_reverse];exact this.2⟩
end
section
open PySem.W PySem.W.ZFast
noncomputable def forTgt:Stmt→Expr
 | .For t _ _ _ _ => t
 | _ => default
noncomputable def loT (target:Expr) (it:Value) (body orelse:List Stmt) (env:Env) (m:Sem Flow):Sem Fin:=R.onRaiseR (R.bindR m fun fl=>match fl with
 | .next => zw12377390311714414960 (.forLoop target it body orelse env)
 | .cont => zw12377390311714414960 (.forLoop target it body orelse env)
 | .brk => .pure (.done .next)
 | .ret v => .pure (.done (.ret v))) fun x => R.bindR (noteFrameY x env) fun _ => zw1623429502029203251 x
variable {prog:Program}{w:World}{A:Around}{R:Result→Shared→Prop}{g:Array GenState}{d:Drawn}{os:OsState}
theorem go_ifl {l:List Kt}{c:Code}{s:Shared}{tg:Expr}{it:Value}{bo oe:List Stmt}{env:Env}{ss b o:List Stmt}{op:CmpOp}{a1 a2:Value}{r:Bool}
   (h0:∀ (E Q:Value→Shared→Prop),Q (.bool r) s→wpAny (model prog w) ((ar A l).under c) (richCompare op a1 a2) Q E s)
   (x:Go prog w A R l c (loT tg it bo oe env (sqT ss env (ifT b o env (tvT (opT [a1,a2] (.pure (.bool r))))))) s):Go prog w A R l c (loT tg it bo oe env (sqT ss env (ifT b o env (tvT (opT [a1,a2] (zw9423741818375054981 op a1 a2)))))) s:=by
 refine go_cx (m0:=zw9423741818375054981 op a1 a2) (v:=Value.bool r) (fun s'=>s'=s) ?_ ?_ (fun s' e=>e ▸ x)
 · exact Cx.onRaise (Cx.bind (Cx.bind (Cx.bind (Cx.bind (Cx.bind (Cx.keep Cx.hole))))))
 · rw [← ze9423741818375054981]
   exact h0 _ _ ⟨rfl,rfl⟩
end
section
variable {b:Bool}{w:World}{g:Array GenState}{d:Drawn}{os:OsState}
noncomputable abbrev e10 (P:Params):Expr:=ceAt P 280 10 [0] [0]
noncomputable abbrev cp10 (P:Params) (fr cf pc it acc:Addr):Code:=cpAt P 280 fr cf [(Str.ofString "path",pc)] (e10 P) 0 it acc
noncomputable def gcC (it q acc cf pc:Addr) (L:List PT) (p:PT) (n j:Nat) (vs:List Value) (n6:Nat) (ex:List DictEntry) (n7:Nat):List (Addr×Obj) :=
 [(it,itL q j),(q,lst (L.map pv) n),(acc,lst vs n6),(cf,dO ex.toArray n7),(pc,cellQ (some (pv p)))]
noncomputable def fC (p v:PT):List PT:=if cpt v.1 p.1=p.1 then [v] else []
noncomputable def fE (p v:PT):List PT:=if v.1=p.1 then [] else [v]
theorem fC_le (p v:PT):(fC p v).length≤1:=by unfold fC;split <;> simp
theorem fE_le (p v:PT):(fE p v).length≤1:=by unfold fE;split <;> simp
theorem spE {a b:Pt}{r:Bool}(h:decide (a=b)=r):((sp a).cps.toList == (sp b).cps.toList)=r:=by
 rw [← h,Bool.eq_iff_iff,beq_iff_eq,decide_eq_true_iff]
 refine ⟨fun e=>sp_inj _ _ ?_,fun e=>by rw [e]⟩
 cases ha:sp a
 cases hb:sp b
 rw [ha,hb] at e
 simp only [Str.mk.injEq]
 exact Array.toList_inj.mp e
theorem spN {a b:Pt}{r:Bool}(h:decide (a=b)=r):((sp a).cps.toList != (sp b).cps.toList)=!r:=by
 rw [bne,spE h]
theorem kF_t {R:Result→Shared→Prop}{h:Heap}{t:Nat}{B:Addr→Option Obj}{fr it q acc cf pc:Addr}{n n6 n7 j:Nat}{L M:List PT}{p v:PT}{ex:List DictEntry}
  (KX:Kin (KK (wv b w).params) B) (hS:(B sysModules).isSome=true) (H:Hp B h (gcC it q acc cf pc L p n j (M.map pv) n6 ex n7)) (hv:(L.map pv)[j]?=some (pv v)) (hM:(M.map pv).length≤1000) (hex:ex=[]∨∃ tk v,ex=[ent (wv b w).params "one" tk (pv v)])
  (IH:∀ h' t' tk n6 n7,Hp B h' (gcC it q acc cf pc L p n (j + 1) ((M++fC p v).map pv) n6 [ent (wv b w).params "one" tk (pv v)] n7)→codeAny (model prg (wv b w)) (AF 330 none) (cp10 (wv b w).params fr cf pc it acc) R ⟨h',g,d,t',os⟩) :
  codeAny (model prg (wv b w)) (AF 330 none) (cp10 (wv b w).params fr cf pc it acc) R ⟨h,g,d,t,os⟩:=by
 rcases hb:decide (cpt v.1 p.1=p.1) with _ | _
 · have e : (M ++ fC p v).map pv = M.map pv := by rw [show fC p v = [] from by unfold fC; rw [if_neg (of_decide_eq_false hb)], List.append_nil]
   rw [e] at IH
   rcases hex with rfl | ⟨tk,v0,rfl⟩
   · refine' go_code ?_
     (refine' run_T2 KX Rin.nil H 4000 ⟨[0,1,2,3,4],6⟩ rfl [.c 0,.v 0 (fun al=>rNext Rin.nil 0 (.c 1) (pv v)),.c 3,.f 3,.k,.c 3,.c 4,.b 1,.k,.v 2 (fun al=>rC KX hS [0] 5 false (True) (fun _=>cp (q:=(al 1).n) (n:=0) v p)),.c 4,.v 3 (fun al=>rEq (false))] fun al=>end_A2 (c:=(cp10 (wv b w).params fr cf pc it acc)) (cs:=(gcC it q acc cf pc L p n (j + 1) (M.map pv) _ [ent (wv b w).params "one" _ (pv v)] _)) (by kernel_rfl) (by kernel_rfl) rfl (by kernel_rfl) ⟨(fun hF=>spE hb),(fun hF=>trivial),(fun hF=>hv),trivial⟩ fun hp t hF H=>?_)
     exact IH _ _ _ _ _ H
   · refine' go_code ?_
     (refine' run_T2 KX Rin.nil H 4000 ⟨[0,1,2,3,4],6⟩ rfl [.c 0,.v 0 (fun al=>rNext Rin.nil 0 (.c 1) (pv v)),.c 3,.f 3,.k,.c 3,.c 4,.b 1,.k,.v 2 (fun al=>rC KX hS [0] 5 false (True) (fun _=>cp (q:=(al 1).n) (n:=0) v p)),.c 4,.v 3 (fun al=>rEq (false))] fun al=>end_A2 (c:=(cp10 (wv b w).params fr cf pc it acc)) (cs:=(gcC it q acc cf pc L p n (j + 1) (M.map pv) _ [ent (wv b w).params "one" _ (pv v)] _)) (by kernel_rfl) (by kernel_rfl) rfl (by kernel_rfl) ⟨(fun hF=>spE hb),(fun hF=>trivial),(fun hF=>hv),trivial⟩ fun hp t hF H=>?_)
     exact IH _ _ _ _ _ H
 · have e : (M ++ fC p v).map pv = M.map pv ++ [pv v] := by rw [show fC p v = [v] from by unfold fC; rw [if_pos (of_decide_eq_true hb)], map_snoc]
   rw [e] at IH
   rcases hex with rfl | ⟨tk,v0,rfl⟩
   · refine' go_code ?_
     (refine' run_T2 KX Rin.nil H 4000 ⟨[0,1,2,3,4],6⟩ rfl [.c 0,.v 0 (fun al=>rNext Rin.nil 0 (.c 1) (pv v)),.c 3,.f 3,.k,.c 3,.c 4,.b 1,.k,.v 2 (fun al=>rC KX hS [0] 5 false (True) (fun _=>cp (q:=(al 1).n) (n:=0) v p)),.c 4,.v 3 (fun al=>rEq (true)),.c 3,.v 4 (fun al=>rAppend 2)] fun al=>end_A2 (c:=(cp10 (wv b w).params fr cf pc it acc)) (cs:=(gcC it q acc cf pc L p n (j + 1) (M.map pv++[pv v]) _ [ent (wv b w).params "one" _ (pv v)] _)) (by kernel_rfl) (by kernel_rfl) rfl (by kernel_rfl) ⟨(fun hF=>hM),(fun hF=>spE hb),(fun hF=>trivial),(fun hF=>hv),trivial⟩ fun hp t hF H=>?_)
     exact IH _ _ _ _ _ H
   · refine' go_code ?_
     (refine' run_T2 KX Rin.nil H 4000 ⟨[0,1,2,3,4],6⟩ rfl [.c 0,.v 0 (fun al=>rNext Rin.nil 0 (.c 1) (pv v)),.c 3,.f 3,.k,.c 3,.c 4,.b 1,.k,.v 2 (fun al=>rC KX hS [0] 5 false (True) (fun _=>cp (q:=(al 1).n) (n:=0) v p)),.c 4,.v 3 (fun al=>rEq (true)),.c 3,.v 4 (fun al=>rAppend 2)] fun al=>end_A2 (c:=(cp10 (wv b w).params fr cf pc it acc)) (cs:=(gcC it q acc cf pc L p n (j + 1) (M.map pv++[pv v]) _ [ent (wv b w).params "one" _ (pv v)] _)) (by kernel_rfl) (by kernel_rfl) rfl (by kernel_rfl) ⟨(fun hF=>hM),(fun hF=>spE hb),(fun hF=>trivial),(fun hF=>hv),trivial⟩ fun hp t hF H=>?_)
     exact IH _ _ _ _ _ H
theorem kF_e {R:Result→Shared→Prop}{h:Heap}{t:Nat}{B:Addr→Option Obj}{fr it q acc cf pc:Addr}{n n6 n7 j:Nat}{L:List PT}{p:PT}{vs:List Value}{ex:List DictEntry}
  (KX:Kin (KK (wv b w).params) B) (H:Hp B h (gcC it q acc cf pc L p n j vs n6 ex n7)) (hv:(L.map pv)[j]?=none)
  (x:∀ h' t',Hp B h' (gcC it q acc cf pc L p n j vs n6 ex n7).tail→R (.ok .next) ⟨h',g,d,t',os⟩) :
  codeAny (model prg (wv b w)) (AF 330 none) (cp10 (wv b w).params fr cf pc it acc) R ⟨h,g,d,t,os⟩:=by
 refine' go_code ?_
 (refine' run_T KX Rin.nil H 4000 ⟨[2,3,4,5],6⟩ rfl [.c 0,.v 0 (fun al=>rNextEnd Rin.nil 0 (.c 1)),.c 0] fun al=>end_R (r:=(.ok .next)) (cs:=(gcC it q acc cf pc L p n j vs n6 ex n7).tail) (by kernel_rfl) rfl  ⟨(fun hF=>hv),trivial⟩ fun hp t hF H=>?_)
 exact x _ _ H
theorem kF {fr it q acc cf pc:Addr}{n n6 n7:Nat}{L:List PT}{p:PT}(hL:L≠[]) (hl:L.length≤1000) :
  Ct prg (wv b w) 330 none (KK (wv b w).params) g d os (csAt (wv b w).params 280 fr cf [(Str.ofString "path", pc)] (e10 (wv b w).params) 0 it acc) (gcC it q acc cf pc L p n 0 [] n6 [] n7) none
    fun u=>(.ok .next,(gcC it q acc cf pc L p n 0 ((L.flatMap (fC p)).map pv) u.n [ent (wv b w).params "one" u.n2 (pv (L.getLast?.getD (.r,0)))] u.n3).tail):=by
 refine ⟨fun B h t R KX hS H x=>comp_lst H 0 rfl (foldI (c:=(cp10 (wv b w).params fr cf pc it acc)) L (fC p) (fun j M h=>M.length≤j∧∃ (n6:Nat) (ex:List DictEntry) (n7:Nat),Hp B h (gcC it q acc cf pc L p n j (M.map pv) n6 ex n7)∧((j=0∧ex=[])∨∃ tk v,L[j - 1]?=some v∧ex=[ent (wv b w).params "one" tk (pv v)])) (fun j v M h t hv hi IH=>?_) (fun h t hi=>?_) ⟨Nat.zero_le _,n6,[],n7,H,.inl ⟨rfl,rfl⟩⟩)⟩
 · obtain ⟨hM, n6, ex, n7, H, hex⟩ := hi
   have hj:j < L.length:=(List.getElem?_eq_some_iff.mp hv).1
   exact kF_t KX hS H (item_of hv) (by rw [List.length_map];omega) (hex.imp (·.2) fun ⟨tk,v,_,e⟩=>⟨tk,v,e⟩) fun h' t' tk n6 n7 H=>IH h' t' ⟨by have:=fC_le p v;rw [List.length_append];omega,n6,_,n7,H,.inr ⟨tk,v,hv,rfl⟩⟩
 · obtain ⟨hM, n6, ex, n7, H, hex⟩ := hi
   obtain ⟨tk,v,hv,rfl⟩:=hex.resolve_left fun z=>hL (List.eq_nil_of_length_eq_zero z.1)
   obtain rfl:L.getLast?.getD (.r,0)=v:=by rw [List.getLast?_eq_getElem?,hv];rfl
   exact kF_e KX H (List.getElem?_eq_none (by rw [List.length_map];exact Nat.le_refl _)) fun h' t' H=>x { xd0 with n:=n6,n2:=tk,n3:=n7,t:=t' } h' trivial H
noncomputable abbrev e10b (P:Params):Expr:=ceAt P 280 10 [1] []
noncomputable abbrev cp10b (P:Params) (fr cf cp it acc:Addr):Code:=cpAt P 280 fr cf [(Str.ofString "path",cp)] (e10b P) 0 it acc
theorem kG_t {R:Result→Shared→Prop}{h:Heap}{t:Nat}{B:Addr→Option Obj}{fr it q acc cf pc:Addr}{n n6 n7 j:Nat}{L M:List PT}{p v:PT}{ex:List DictEntry}
  (KX:Kin (KK (wv b w).params) B) (hS:(B sysModules).isSome=true) (H:Hp B h (gcC it q acc cf pc L p n j (M.map pv) n6 ex n7)) (hv:(L.map pv)[j]?=some (pv v)) (hM:(M.map pv).length≤1000) (hex:ex=[]∨∃ tk v,ex=[ent (wv b w).params "one" tk (pv v)])
  (IH:∀ h' t' tk n6 n7,Hp B h' (gcC it q acc cf pc L p n (j + 1) ((M++fE p v).map pv) n6 [ent (wv b w).params "one" tk (pv v)] n7)→codeAny (model prg (wv b w)) (AF 330 none) (cp10b (wv b w).params fr cf pc it acc) R ⟨h',g,d,t',os⟩) :
  codeAny (model prg (wv b w)) (AF 330 none) (cp10b (wv b w).params fr cf pc it acc) R ⟨h,g,d,t,os⟩:=by
 rcases hb:decide (v.1=p.1) with _ | _
 · have e : (M ++ fE p v).map pv = M.map pv ++ [pv v] := by rw [show fE p v = [v] from by unfold fE; rw [if_neg (of_decide_eq_false hb)], map_snoc]
   rw [e] at IH
   rcases hex with rfl | ⟨tk,v0,rfl⟩
   · refine' go_code ?_
     (refine' run_T2 KX Rin.nil H 4000 ⟨[0,1,2,3,4],5⟩ rfl [.c 0,.v 0 (fun al=>rNext Rin.nil 0 (.c 1) (pv v)),.c 3,.f 3,.c 3,.c 4,.v 1 (fun al=>rNe (true)),.c 3,.v 2 (fun al=>rAppend 2)] fun al=>end_A2 (c:=(cp10b (wv b w).params fr cf pc it acc)) (cs:=(gcC it q acc cf pc L p n (j + 1) (M.map pv++[pv v]) _ [ent (wv b w).params "one" _ (pv v)] _)) (by kernel_rfl) (by kernel_rfl) rfl (by kernel_rfl) ⟨(fun hF=>hM),(fun hF=>spN hb),(fun hF=>hv),trivial⟩ fun hp t hF H=>?_)
     exact IH _ _ _ _ _ H
   · refine' go_code ?_
     (refine' run_T2 KX Rin.nil H 4000 ⟨[0,1,2,3,4],5⟩ rfl [.c 0,.v 0 (fun al=>rNext Rin.nil 0 (.c 1) (pv v)),.c 3,.f 3,.c 3,.c 4,.v 1 (fun al=>rNe (true)),.c 3,.v 2 (fun al=>rAppend 2)] fun al=>end_A2 (c:=(cp10b (wv b w).params fr cf pc it acc)) (cs:=(gcC it q acc cf pc L p n (j + 1) (M.map pv++[pv v]) _ [ent (wv b w).params "one" _ (pv v)] _)) (by kernel_rfl) (by kernel_rfl) rfl (by kernel_rfl) ⟨(fun hF=>hM),(fun hF=>spN hb),(fun hF=>hv),trivial⟩ fun hp t hF H=>?_)
     exact IH _ _ _ _ _ H
 · have e : (M ++ fE p v).map pv = M.map pv := by rw [show fE p v = [] from by unfold fE; rw [if_pos (of_decide_eq_true hb)], List.append_nil]
   rw [e] at IH
   rcases hex with rfl | ⟨tk,v0,rfl⟩
   · refine' go_code ?_
     (refine' run_T2 KX Rin.nil H 4000 ⟨[0,1,2,3,4],5⟩ rfl [.c 0,.v 0 (fun al=>rNext Rin.nil 0 (.c 1) (pv v)),.c 3,.f 3,.c 3,.c 4,.v 1 (fun al=>rNe (false))] fun al=>end_A2 (c:=(cp10b (wv b w).params fr cf pc it acc)) (cs:=(gcC it q acc cf pc L p n (j + 1) (M.map pv) _ [ent (wv b w).params "one" _ (pv v)] _)) (by kernel_rfl) (by kernel_rfl) rfl (by kernel_rfl) ⟨(fun hF=>spN hb),(fun hF=>hv),trivial⟩ fun hp t hF H=>?_)
     exact IH _ _ _ _ _ H
   · refine' go_code ?_
     (refine' run_T2 KX Rin.nil H 4000 ⟨[0,1,2,3,4],5⟩ rfl [.c 0,.v 0 (fun al=>rNext Rin.nil 0 (.c 1) (pv v)),.c 3,.f 3,.c 3,.c 4,.v 1 (fun al=>rNe (false))] fun al=>end_A2 (c:=(cp10b (wv b w).params fr cf pc it acc)) (cs:=(gcC it q acc cf pc L p n (j + 1) (M.map pv) _ [ent (wv b w).params "one" _ (pv v)] _)) (by kernel_rfl) (by kernel_rfl) rfl (by kernel_rfl) ⟨(fun hF=>spN hb),(fun hF=>hv),trivial⟩ fun hp t hF H=>?_)
     exact IH _ _ _ _ _ H
theorem kG_e {R:Result→Shared→Prop}{h:Heap}{t:Nat}{B:Addr→Option Obj}{fr it q acc cf pc:Addr}{n n6 n7 j:Nat}{L:List PT}{p:PT}{vs:List Value}{ex:List DictEntry}
  (KX:Kin (KK (wv b w).params) B) (H:Hp B h (gcC it q acc cf pc L p n j vs n6 ex n7)) (hv:(L.map pv)[j]?=none)
  (x:∀ h' t',Hp B h' (gcC it q acc cf pc L p n j vs n6 ex n7).tail→R (.ok .next) ⟨h',g,d,t',os⟩) :
  codeAny (model prg (wv b w)) (AF 330 none) (cp10b (wv b w).params fr cf pc it acc) R ⟨h,g,d,t,os⟩:=by
 refine' go_code ?_
 (refine' run_T KX Rin.nil H 4000 ⟨[2,3,4,5],6⟩ rfl [.c 0,.v 0 (fun al=>rNextEnd Rin.nil 0 (.c 1)),.c 0] fun al=>end_R (r:=(.ok .next)) (cs:=(gcC it q acc cf pc L p n j vs n6 ex n7).tail) (by kernel_rfl) rfl  ⟨(fun hF=>hv),trivial⟩ fun hp t hF H=>?_)
 exact x _ _ H
theorem kG {fr it q acc cf pc:Addr}{n n6 n7:Nat}{L:List PT}{p:PT}(hL:L≠[]) (hl:L.length≤1000) :
  Ct prg (wv b w) 330 none (KK (wv b w).params) g d os (csAt (wv b w).params 280 fr cf [(Str.ofString "path", pc)] (e10b (wv b w).params) 0 it acc) (gcC it q acc cf pc L p n 0 [] n6 [] n7) none
    fun u=>(.ok .next,(gcC it q acc cf pc L p n 0 ((L.flatMap (fE p)).map pv) u.n [ent (wv b w).params "one" u.n2 (pv (L.getLast?.getD (.r,0)))] u.n3).tail):=by
 refine ⟨fun B h t R KX hS H x=>comp_lst H 0 rfl (foldI (c:=(cp10b (wv b w).params fr cf pc it acc)) L (fE p) (fun j M h=>M.length≤j∧∃ (n6:Nat) (ex:List DictEntry) (n7:Nat),Hp B h (gcC it q acc cf pc L p n j (M.map pv) n6 ex n7)∧((j=0∧ex=[])∨∃ tk v,L[j - 1]?=some v∧ex=[ent (wv b w).params "one" tk (pv v)])) (fun j v M h t hv hi IH=>?_) (fun h t hi=>?_) ⟨Nat.zero_le _,n6,[],n7,H,.inl ⟨rfl,rfl⟩⟩)⟩
 · obtain ⟨hM, n6, ex, n7, H, hex⟩ := hi
   have hj:j < L.length:=(List.getElem?_eq_some_iff.mp hv).1
   exact kG_t KX hS H (item_of hv) (by rw [List.length_map];omega) (hex.imp (·.2) fun ⟨tk,v,_,e⟩=>⟨tk,v,e⟩) fun h' t' tk n6 n7 H=>IH h' t' ⟨by have:=fE_le p v;rw [List.length_append];omega,n6,_,n7,H,.inr ⟨tk,v,hv,rfl⟩⟩
 · obtain ⟨hM, n6, ex, n7, H, hex⟩ := hi
   obtain ⟨tk,v,hv,rfl⟩:=hex.resolve_left fun z=>hL (List.eq_nil_of_length_eq_zero z.1)
   obtain rfl:L.getLast?.getD (.r,0)=v:=by rw [List.getLast?_eq_getElem?,hv];rfl
   exact kG_e KX H (List.getElem?_eq_none (by rw [List.length_map];exact Nat.le_refl _)) fun h' t' H=>x { xd0 with n:=n6,n2:=tk,n3:=n7,t:=t' } h' trivial H
end
section
variable {b:Bool}{w:World}{g:Array GenState}{d:Drawn}{os:OsState}
noncomputable def l10C (P:Params) (it lq pc fr q ro oa nwa:Addr) (k1 k2 k3 k4:Tok) (D N:List PT) (n1 j nN nf:Nat) (o:Option Value) (slf:Array (Option Value)):List (Addr×Obj) :=
 [(it,itL lq j),(lq,lst (D.map pv) n1),(pc,cellQ o),(fr,locS [ent P "script" k1 (.ref q),ent P "rounds" k2 (.ref ro),ent P "now" k3 (.ref nwa),ent P "order" k4 (.ref oa)] nf slf),(nwa,lst (N.map pv) nN)]
noncomputable abbrev lp10 (P:Params) (fr cw ct cx pc cf ms mo:Addr) (it:Addr):Code:=lpAtC P 280 fr (lwCl cw ct cx pc cf ms mo) 10 [] (.ref it)
noncomputable abbrev s10 (P:Params):Stmt:=nthS (bdAt P 280) 10
noncomputable abbrev t10 (P:Params) (fr cw ct cx pc cf ms mo it:Addr) (m:Sem Bool):Sem Fin :=
 loT (forTgt (s10 P)) (.ref it) (subL (s10 P) 0) (subL (s10 P) 1) (envAtC P 280 fr (lwCl cw ct cx pc cf ms mo)) (sqT ((subL (s10 P) 0).drop 1) (envAtC P 280 fr (lwCl cw ct cx pc cf ms mo)) (ifT (subL (nthS (subL (s10 P) 0) 0) 0) [] (envAtC P 280 fr (lwCl cw ct cx pc cf ms mo)) m))
theorem l10_t {R:Result→Shared→Prop}{h:Heap}{t:Nat}{B:Addr→Option Obj}{it lq pc fr q ro oa nwa cw ct cx cf ms mo:Addr}{k1 k2 k3 k4:Tok}{D N:List PT}{p:PT}{n1 j nN nf:Nat}{o:Option Value}{slf:Array (Option Value)}{tl:List (Addr×Obj)}
  (KX:Kin (KK (wv b w).params) B) (hS:(B sysModules).isSome=true) (H:Hp B h (l10C (wv b w).params it lq pc fr q ro oa nwa k1 k2 k3 k4 D N n1 j nN nf o slf++tl)) (hv:(D.map pv)[j]?=some (pv p)) (hN:N≠[]) (hl:N.length≤1000) (hG:pts (N.flatMap (fC p))=[p.1])
  (IH:∀ h' t' nwa' nN',Hp B h' (l10C (wv b w).params it lq pc fr q ro oa nwa' k1 k2 k3 k4 D (N.flatMap (fE p)) n1 (j + 1) nN' nf (some (pv p)) slf++tl)→codeAny (model prg (wv b w)) (AF 320 none) (lp10 (wv b w).params fr cw ct cx pc cf ms mo it) R ⟨h',g,d,t',os⟩) :
  codeAny (model prg (wv b w)) (AF 320 none) (lp10 (wv b w).params fr cw ct cx pc cf ms mo it) R ⟨h,g,d,t,os⟩:=by
 refine' go_code ?_
 (refine' run_M2 KX Rin.nil H 4000 ⟨[0,1,2,3,4,5,7],8⟩ rfl [.c 0,.v 0 (fun al=>rNext Rin.nil 0 (.c 1) (pv p)),.c 2,.f 2,.c 3,.c 4,.c 4,.e,.c 4,.q,.b 1,.c 0,.b 2,.b 3,.v 4 (fun al=>rC KX hS [2,6,1,0,2] 3 false (True) (fun _=>kF (it:=(al 1).n) (q:=nwa) (acc:=(al 2).n) (cf:=(al 3).n) (pc:=pc) (n:=nN) (n6:=0) (n7:=0) (L:=N) (p:=p) (fr:=fr) hN hl)),.c 5,.c 5,.f 5,.c 6,.b 5] (fun al=>(t10 (wv b w).params fr cw ct cx pc cf ms mo it (rcT .NotEq (.ref (al 2).n) (.ref (al 5).n)))) (c':=fun al=>(lp10 (wv b w).params fr cw ct cx pc cf ms mo it)) (fun _=>rfl) (fun _=>by kernel_rfl) (fun _=>by kernel_rfl) (fun _=>by kernel_rfl) (fun _=>by kernel_rfl) (fun _=>by kernel_rfl) (fun al=>⟨(fun hF=>trivial),(fun hF=>hv),trivial⟩) ?_;(try clear H);(try clear hp);intro al hp i hF H)
 rename Nat→Xd=>a0
 refine' go_ifl (r:=false) ?h0 ?x
 case h0=>exact fun E Q q=>cmpN 5 0 H rfl (L2:=[p]) rfl hG (Nat.le_of_ble_eq_true rfl) _ _ E Q q
 (refine' run_T2 KX Rin.nil H 4000 ⟨[1,2,8,3,6],9⟩ rfl [.c 3,.c 4,.c 4,.e,.c 4,.q,.b 0,.c 0,.b 1,.b 2,.v 3 (fun al=>rC KX hS [2,6,1,0,5] 5 false (True) (fun _=>kG (it:=(al 0).n) (q:=nwa) (acc:=(al 1).n) (cf:=(al 2).n) (pc:=pc) (n:=nN) (n6:=0) (n7:=0) (L:=N) (p:=p) (fr:=fr) hN hl)),.c 3,.g 3,.c 7,.c 7,.f 7] fun al=>end_A2 (c:=(lp10 (wv b w).params fr cw ct cx pc cf ms mo it)) (cs:=(l10C (wv b w).params it lq pc fr q ro oa _ k1 k2 k3 k4 D (N.flatMap (fE p)) n1 (j + 1) _ nf (some (pv p)) slf++tl)) (by kernel_rfl) (by kernel_rfl) rfl (by kernel_rfl) ⟨(fun hF=>trivial),trivial⟩ fun hp t hF H=>?_)
 exact IH _ _ _ _ H
theorem l10_e {R:Result→Shared→Prop}{h:Heap}{t:Nat}{B:Addr→Option Obj}{it lq pc fr q ro oa nwa cw ct cx cf ms mo:Addr}{k1 k2 k3 k4:Tok}{D N:List PT}{n1 j nN nf:Nat}{o:Option Value}{slf:Array (Option Value)}{tl:List (Addr×Obj)}
  (KX:Kin (KK (wv b w).params) B) (H:Hp B h (l10C (wv b w).params it lq pc fr q ro oa nwa k1 k2 k3 k4 D N n1 j nN nf o slf++tl)) (hv:(D.map pv)[j]?=none)
  (x:∀ h' t',Hp B h' ([(pc,cellQ o),(fr,locS [ent (wv b w).params "script" k1 (.ref q),ent (wv b w).params "rounds" k2 (.ref ro),ent (wv b w).params "now" k3 (.ref nwa),ent (wv b w).params "order" k4 (.ref oa)] nf slf),(nwa,lst (N.map pv) nN)]++tl)→R (.ok .next) ⟨h',g,d,t',os⟩) :
  codeAny (model prg (wv b w)) (AF 320 none) (lp10 (wv b w).params fr cw ct cx pc cf ms mo it) R ⟨h,g,d,t,os⟩:=by
 refine' go_code ?_
 (refine' run_T KX Rin.nil H 4000 ⟨[3,4,5],6⟩ rfl [.c 0,.v 0 (fun al=>rNextEnd Rin.nil 0 (.c 1)),.c 0] fun al=>end_R (r:=(.ok .next)) (cs:=([(pc,cellQ o),(fr,locS [ent (wv b w).params "script" k1 (.ref q),ent (wv b w).params "rounds" k2 (.ref ro),ent (wv b w).params "now" k3 (.ref nwa),ent (wv b w).params "order" k4 (.ref oa)] nf slf),(nwa,lst (N.map pv) nN)]++tl)) (by kernel_rfl) rfl  ⟨(fun hF=>hv),trivial⟩ fun hp t hF H=>?_)
 exact x _ _ H
theorem fC_pts (p:PT):∀ L:List PT,pts (L.flatMap (fC p))=(pts L).filter fun q=>decide (cpt q p.1=p.1)
 | [] => rfl
 | v :: L => by
   rw [List.flatMap_cons,pts_app,fC_pts p L]
   show _=List.filter _ (v.1 :: pts L)
   unfold fC
   by_cases h:cpt v.1 p.1=p.1
   · rw [if_pos h,List.filter_cons_of_pos (by simpa using h)];rfl
   · rw [if_neg h,List.filter_cons_of_neg (by simpa using h)];rfl
theorem fE_pts (p:PT):∀ L:List PT,pts (L.flatMap (fE p))=(pts L).filter fun q=>decide (q≠p.1)
 | [] => rfl
 | v :: L => by
   rw [List.flatMap_cons,pts_app,fE_pts p L]
   show _=List.filter _ (v.1 :: pts L)
   unfold fE
   by_cases h:v.1=p.1
   · rw [if_pos h,List.filter_cons_of_neg (by simpa using h)];rfl
   · rw [if_neg h,List.filter_cons_of_pos (by simpa using h)];rfl
theorem fE_len (p:PT) (L:List PT):(L.flatMap (fE p)).length≤L.length:=by
 have:=congrArg List.length (fE_pts p L)
 have h2:=List.length_filter_le (fun q=>decide (q≠p.1)) (pts L)
 rw [List.length_map] at this h2
 omega
theorem l10 {it lq pc fr q ro oa nwa cw ct cx cf ms mo:Addr}{k1 k2 k3 k4:Tok}{D N:List PT}{n1 nN nf:Nat}{v0:Value}{slf:Array (Option Value)}(hl:N.length≤1000) (hG:G10 (pts D) (pts N)) :
  Ct prg (wv b w) 320 none (KK (wv b w).params) g d os (lp10 (wv b w).params fr cw ct cx pc cf ms mo it) (l10C (wv b w).params it lq pc fr q ro oa nwa k1 k2 k3 k4 D N n1 0 nN nf (some v0) slf) none
    fun u=>(.ok .next,[(pc,cellQ (some u.v)),(fr,locS [ent (wv b w).params "script" k1 (.ref q),ent (wv b w).params "rounds" k2 (.ref ro),ent (wv b w).params "now" k3 (.ref u.n),ent (wv b w).params "order" k4 (.ref oa)] nf slf),(u.n,lst ((tag (E10 (pts D) (pts N)) u.L).map pv) u.n2)]):=by
 refine ⟨fun B h t R KX hS H x=>loopI (σ:=Nat) (fun j=>D.length - j) (fun j h=>j≤D.length∧∃ (nwa:Addr) (M:List PT) (nN:Nat) (v:Value),Hp B h (l10C (wv b w).params it lq pc fr q ro oa nwa k1 k2 k3 k4 D M n1 j nN nf (some v) slf++[])∧pts M=E10 (pts (D.take j)) (pts N)∧G10 (pts (D.drop j)) (pts M)∧M.length≤1000) (fun j h t hi IH=>?_) (x:=0) ⟨Nat.zero_le _,nwa,N,nN,v0,by rw [List.append_nil];exact H,rfl,hG,hl⟩⟩
 obtain ⟨hj,nwa,M,nN,v,H,hM,hG,hl⟩:=hi
 rcases hv:D[j]? with _ | p
 · have hj2 := List.getElem?_eq_none_iff.mp hv
   refine l10_e KX H (by rw [List.getElem?_map,hv];rfl) fun h' t' H=>x { xd0 with v:=v,n:=nwa,L:=M.map (·.2),n2:=nN,t:=t' } h' trivial ?_
   rw [List.append_nil] at H
   rw [List.take_of_length_le hj2] at hM
   show Hp B h' [(pc,cellQ (some v)),_,(nwa,lst ((tag (E10 (pts D) (pts N)) (M.map (·.2))).map pv) nN)]
   rw [← hM,tag_pts]
   exact H
 · have hj2 : j < D.length := (List.getElem?_eq_some_iff.mp hv).1
   have e1:D.drop j=p :: D.drop (j + 1):=by
     rw [List.drop_eq_getElem_cons hj2,(List.getElem?_eq_some_iff.mp hv).2]
   have e2:D.take (j + 1)=D.take j++[p]:=by rw [List.take_add_one,hv];rfl
   rw [e1] at hG
   obtain ⟨g1,g2⟩:(pts M).filter (fun q=>decide (cpt q p.1=p.1))=[p.1]∧G10 (pts (D.drop (j + 1))) ((pts M).filter fun q=>decide (q≠p.1)):=hG
   have hM0:M≠[]:=by rintro rfl;cases g1
   refine l10_t KX hS H (by rw [List.getElem?_map,hv];rfl) hM0 hl (by rw [fC_pts];exact g1) fun h' t' nwa' nN' H=>IH (j + 1) h' t' (by omega) ⟨hj2,nwa',_,nN',_,H,?_,by rw [fE_pts];exact g2,Nat.le_trans (fE_len _ _) hl⟩
   rw [fE_pts,hM,e2,pts_app]
   unfold E10
   rw [List.foldl_append]
   rfl
end
section
theorem LwF.dd {V V2:List Value}(h:LwF V V2){K:Nat}{t1 t2 t3 t4 t5 t6:List Nat}:pts ((tag (ord (pts (FL (wp V) (wp V2) t1 t2)) K) t3).reverse.flatMap (fI (tag (diff (pts (tag (wp V) t4)) (pts (tag (wp V2) t5))).2 t6)))=dD (wp V) (wp V2) K:=by
 rw [fI_pts,h.df,pts_rev,pts_tag,pts_tag,FL_pts]
 rfl
theorem LwF.g10 {V V2:List Value}(h:LwF V V2){K:Nat}{t1 t2 t3 t4 t5 t6 t7:List Nat}(hK:lev (pts (FL (wp V) (wp V2) t1 t2)) K=[]):G10 (pts ((tag (ord (pts (FL (wp V) (wp V2) t1 t2)) K) t3).reverse.flatMap (fI (tag (diff (pts (tag (wp V) t4)) (pts (tag (wp V2) t5))).2 t6)))) (pts (tag (wp V2) t7)):=by
 rw [h.dd,pts_tag]
 rw [FL_pts] at hK
 exact Mine.g10 h.k.1 h.k.2 hK
end
section
variable {b:Bool}{w:World}{g:Array GenState}{d:Drawn}{os:OsState}
noncomputable abbrev lp11 (P:Params) (fr cw ct cx pc cf ms mo:Addr) (it:Addr):Code:=lpAtC P 280 fr (lwCl cw ct cx pc cf ms mo) 11 [] (.ref it)
theorem l11_t {R:Result→Shared→Prop}{h:Heap}{t:Nat}{B:Addr→Option Obj}{it lq pc fr q ro oa nwa cw ct cx cf ms mo:Addr}{k1 k2 k3 k4:Tok}{D N:List PT}{p:PT}{n1 j nN nf:Nat}{o:Option Value}{slf:Array (Option Value)}{tl:List (Addr×Obj)}
  (KX:Kin (KK (wv b w).params) B) (hS:(B sysModules).isSome=true) (H:Hp B h (l10C (wv b w).params it lq pc fr q ro oa nwa k1 k2 k3 k4 D N n1 j nN nf o slf++tl)) (hv:(D.map pv)[j]?=some (pv p)) (hl:N.length≤1000) (hG:par p.1∈pts N)
  (IH:∀ h' t' nwa' nN',Hp B h' (l10C (wv b w).params it lq pc fr q ro oa nwa' k1 k2 k3 k4 D (N++[p]) n1 (j + 1) nN' nf (some (pv p)) slf++tl)→codeAny (model prg (wv b w)) (AF 320 none) (lp11 (wv b w).params fr cw ct cx pc cf ms mo it) R ⟨h',g,d,t',os⟩) :
  codeAny (model prg (wv b w)) (AF 320 none) (lp11 (wv b w).params fr cw ct cx pc cf ms mo it) R ⟨h,g,d,t,os⟩:=by
 refine' go_code ?_
 (refine' run_T KX Rin.nil H 4000 ⟨[2,3,4,5,0],7⟩ rfl [.c 0,.v 0 (fun al=>rNext Rin.nil 0 (.c 1) (pv p)),.c 2,.f 2,.k,.c 2,.k,.v 1 (fun al=>rDn KX p.1),.c 3,.c 4,.c 4,.v 2 (fun al=>rContains Rin.nil (.c 4) (N) (par p.1) (true)),.c 3,.c 2,.b 3,.c 5,.c 0,.c 5,.v 4 (fun al=>rLadd (q1:=nwa) (q2:=(al 3).n) (vs1:=List.map pv N) (vs2:=[Value.str (sp p.fst) p.snd]) (n1:=nN) (n2:=0) Rin.nil (.c 5) (.c 0)),.c 5,.g 5] fun al=>end_A (c:=(lp11 (wv b w).params fr cw ct cx pc cf ms mo it)) (cs:=([(it,itL lq (j + 1)),(lq,lst (D.map pv) n1),(pc,cellQ (some (pv p))),(fr,locS [ent (wv b w).params "script" k1 (.ref q),ent (wv b w).params "rounds" k2 (.ref ro),ent (wv b w).params "now" k3 (.ref _),ent (wv b w).params "order" k4 (.ref oa)] nf slf),(_,lst (N.map pv++[pv p]) _)]++tl)) (by kernel_rfl) rfl  ⟨(fun hF=>⟨by rw [List.length_map];exact hl,Nat.le_of_ble_eq_true rfl⟩),(fun hF=>decide_eq_true hG),(fun hF=>trivial),(fun hF=>hv),trivial⟩ fun hp t hF H=>?_)
 exact IH _ _ _ _ (by unfold l10C;rw [map_snoc];exact H)
theorem l11_e {R:Result→Shared→Prop}{h:Heap}{t:Nat}{B:Addr→Option Obj}{it lq pc fr q ro oa nwa cw ct cx cf ms mo:Addr}{k1 k2 k3 k4:Tok}{D N:List PT}{n1 j nN nf:Nat}{o:Option Value}{slf:Array (Option Value)}{tl:List (Addr×Obj)}
  (KX:Kin (KK (wv b w).params) B) (H:Hp B h (l10C (wv b w).params it lq pc fr q ro oa nwa k1 k2 k3 k4 D N n1 j nN nf o slf++tl)) (hv:(D.map pv)[j]?=none)
  (x:∀ h' t',Hp B h' ([(pc,cellQ o),(fr,locS [ent (wv b w).params "script" k1 (.ref q),ent (wv b w).params "rounds" k2 (.ref ro),ent (wv b w).params "now" k3 (.ref nwa),ent (wv b w).params "order" k4 (.ref oa)] nf slf),(nwa,lst (N.map pv) nN)]++tl)→R (.ok .next) ⟨h',g,d,t',os⟩) :
  codeAny (model prg (wv b w)) (AF 320 none) (lp11 (wv b w).params fr cw ct cx pc cf ms mo it) R ⟨h,g,d,t,os⟩:=by
 refine' go_code ?_
 (refine' run_T KX Rin.nil H 4000 ⟨[3,4,5],6⟩ rfl [.c 0,.v 0 (fun al=>rNextEnd Rin.nil 0 (.c 1)),.c 0] fun al=>end_R (r:=(.ok .next)) (cs:=([(pc,cellQ o),(fr,locS [ent (wv b w).params "script" k1 (.ref q),ent (wv b w).params "rounds" k2 (.ref ro),ent (wv b w).params "now" k3 (.ref nwa),ent (wv b w).params "order" k4 (.ref oa)] nf slf),(nwa,lst (N.map pv) nN)]++tl)) (by kernel_rfl) rfl  ⟨(fun hF=>hv),trivial⟩ fun hp t hF H=>?_)
 exact x _ _ H
theorem l11 {it lq pc fr q ro oa nwa cw ct cx cf ms mo:Addr}{k1 k2 k3 k4:Tok}{D N:List PT}{n1 nN nf:Nat}{v0:Value}{slf:Array (Option Value)}(hl:N.length + D.length≤1000) (hG:G11 (pts D) (pts N)) :
  Ct prg (wv b w) 320 none (KK (wv b w).params) g d os (lp11 (wv b w).params fr cw ct cx pc cf ms mo it) (l10C (wv b w).params it lq pc fr q ro oa nwa k1 k2 k3 k4 D N n1 0 nN nf (some v0) slf) none
    fun u=>(.ok .next,[(pc,cellQ (some u.v)),(fr,locS [ent (wv b w).params "script" k1 (.ref q),ent (wv b w).params "rounds" k2 (.ref ro),ent (wv b w).params "now" k3 (.ref u.n),ent (wv b w).params "order" k4 (.ref oa)] nf slf),(u.n,lst ((tag (pts N++pts D) u.L).map pv) u.n2)]):=by
 refine ⟨fun B h t R KX hS H x=>loopI (σ:=Nat) (fun j=>D.length - j) (fun j h=>j≤D.length∧∃ (nwa:Addr) (nN:Nat) (v:Value),Hp B h (l10C (wv b w).params it lq pc fr q ro oa nwa k1 k2 k3 k4 D (N++D.take j) n1 j nN nf (some v) slf++[])∧G11 (pts (D.drop j)) (pts (N++D.take j))) (fun j h t hi IH=>?_) (x:=0) ⟨Nat.zero_le _,nwa,nN,v0,by rw [List.append_nil,List.take_zero,List.append_nil];exact H,by rw [List.take_zero,List.append_nil];exact hG⟩⟩
 obtain ⟨hj,nwa,nN,v,H,hG⟩:=hi
 rcases hv:D[j]? with _ | p
 · have hj2 := List.getElem?_eq_none_iff.mp hv
   refine l11_e KX H (by rw [List.getElem?_map,hv];rfl) fun h' t' H=>x { xd0 with v:=v,n:=nwa,L:=(N++D).map (·.2),n2:=nN,t:=t' } h' trivial ?_
   rw [List.append_nil,List.take_of_length_le hj2] at H
   show Hp B h' [(pc,cellQ (some v)),_,(nwa,lst ((tag (pts N++pts D) ((N++D).map (·.2))).map pv) nN)]
   rw [← pts_app,tag_pts]
   exact H
 · have hj2 : j < D.length := (List.getElem?_eq_some_iff.mp hv).1
   have e1:D.drop j=p :: D.drop (j + 1):=by
     rw [List.drop_eq_getElem_cons hj2,(List.getElem?_eq_some_iff.mp hv).2]
   have e2:D.take (j + 1)=D.take j++[p]:=by rw [List.take_add_one,hv];rfl
   rw [e1] at hG
   obtain ⟨g1,g2⟩:par p.1∈pts (N++D.take j)∧G11 (pts (D.drop (j + 1))) (pts (N++D.take j)++[p.1]):=hG
   refine l11_t KX hS H (by rw [List.getElem?_map,hv];rfl) (by rw [List.length_append,List.length_take];omega) g1 fun h' t' nwa' nN' H=>IH (j + 1) h' t' (by omega) ⟨hj2,nwa',nN',_,by rw [e2,← List.append_assoc];exact H,?_⟩
   rw [e2,← List.append_assoc,pts_snoc]
   exact g2
end
section
theorem LwF.de {V V2:List Value}(h:LwF V V2){K:Nat}{t1 t2 t3 t4 t5 t6:List Nat}:pts ((tag (ord (pts (FL (wp V) (wp V2) t1 t2)) K) t3).flatMap (fI (tag (diff (pts (tag (wp V) t4)) (pts (tag (wp V2) t5))).1 t6)))=dE (wp V) (wp V2) K:=by
 rw [fI_pts,h.df,pts_tag,pts_tag,FL_pts]
 rfl
theorem fI_le (W:List PT) (L:List PT):(L.flatMap (fI W)).length≤L.length:=by
 have:=congrArg List.length (fI_pts W L)
 have h2:=List.length_filter_le (fun p=>decide (p∈pts W)) (pts L)
 rw [List.length_map] at this h2
 omega
theorem LwF.nw {V V2:List Value}(h:LwF V V2){K:Nat}{t1 t2 t3 t4 t5 t6 t7 t8:List Nat}:pts (tag (E10 (pts ((tag (ord (pts (FL (wp V) (wp V2) t1 t2)) K) t3).reverse.flatMap (fI (tag (diff (pts (tag (wp V) t4)) (pts (tag (wp V2) t5))).2 t6)))) (pts (tag (wp V2) t7))) t8)=E10 (dD (wp V) (wp V2) K) (wp V2):=by
 rw [pts_tag,h.dd,pts_tag]
theorem E10_le (D N:List Pt):(E10 D N).length≤N.length:=by
 rw [e10_eq]
 exact List.length_filter_le _ _
theorem LwF.ln {V V2:List Value}(h:LwF V V2){K:Nat}{t1 t2 t3 t4 t5 t6 t7 t8 s1:List Nat}{W:List PT}(hK:lev (pts (FL (wp V) (wp V2) t1 t2)) K=[]):(tag (E10 (pts ((tag (ord (pts (FL (wp V) (wp V2) t1 t2)) K) t3).reverse.flatMap (fI (tag (diff (pts (tag (wp V) t4)) (pts (tag (wp V2) t5))).2 t6)))) (pts (tag (wp V2) t7))) t8).length + ((tag (ord (pts (FL (wp V) (wp V2) t1 t2)) K) s1).flatMap (fI W)).length≤1000:=by
 have h1:=E10_le (dD (wp V) (wp V2) K) (wp V2)
 have h2:=fI_le W (tag (ord (pts (FL (wp V) (wp V2) t1 t2)) K) s1)
 have h3:=(ord_perm h.f hK).length_eq
 have h4:=nodup_le (h.f (t1:=t1) (t2:=t2)).nd
 have h5:=h.k.2.len.1
 have h6:=congrArg List.length (h.nw (K:=K) (t1:=t1) (t2:=t2) (t3:=t3) (t4:=t4) (t5:=t5) (t6:=t6) (t7:=t7) (t8:=t8))
 rw [List.length_map] at h6
 rw [tag_len] at h2
 omega
theorem LwF.g11 {V V2:List Value}(h:LwF V V2){K:Nat}{t1 t2 t3 t4 t5 t6 t7 t8 s1 s4 s5 s6:List Nat}(hK:lev (pts (FL (wp V) (wp V2) t1 t2)) K=[]):G11 (pts ((tag (ord (pts (FL (wp V) (wp V2) t1 t2)) K) s1).flatMap (fI (tag (diff (pts (tag (wp V) s4)) (pts (tag (wp V2) s5))).1 s6)))) (pts (tag (E10 (pts ((tag (ord (pts (FL (wp V) (wp V2) t1 t2)) K) t3).reverse.flatMap (fI (tag (diff (pts (tag (wp V) t4)) (pts (tag (wp V2) t5))).2 t6)))) (pts (tag (wp V2) t7))) t8)):=by
 rw [h.nw,h.de]
 rw [FL_pts] at hK
 exact Mine.g11 h.k.1 h.k.2 hK
theorem LwF.ns {V V2:List Value}(h:LwF V V2){K:Nat}{t1 t2 t3 t4 t5 t6 t7 t8 s1 s4 s5 s6 t9:List Nat}(hK:lev (pts (FL (wp V) (wp V2) t1 t2)) K=[]):srt (pts (tag (pts (tag (E10 (pts ((tag (ord (pts (FL (wp V) (wp V2) t1 t2)) K) t3).reverse.flatMap (fI (tag (diff (pts (tag (wp V) t4)) (pts (tag (wp V2) t5))).2 t6)))) (pts (tag (wp V2) t7))) t8)++pts ((tag (ord (pts (FL (wp V) (wp V2) t1 t2)) K) s1).flatMap (fI (tag (diff (pts (tag (wp V) s4)) (pts (tag (wp V2) s5))).1 s6)))) t9))=wp V:=by
 rw [pts_tag,h.nw,h.de]
 rw [FL_pts] at hK
 exact now_end h.k.1 h.k.2 hK
theorem LwF.nl {V V2:List Value}(h:LwF V V2){K:Nat}{t1 t2 t3 t4 t5 t6 t7 t8 s1 s4 s5 s6 t9:List Nat}(hK:lev (pts (FL (wp V) (wp V2) t1 t2)) K=[]):(tag (pts (tag (E10 (pts ((tag (ord (pts (FL (wp V) (wp V2) t1 t2)) K) t3).reverse.flatMap (fI (tag (diff (pts (tag (wp V) t4)) (pts (tag (wp V2) t5))).2 t6)))) (pts (tag (wp V2) t7))) t8)++pts ((tag (ord (pts (FL (wp V) (wp V2) t1 t2)) K) s1).flatMap (fI (tag (diff (pts (tag (wp V) s4)) (pts (tag (wp V2) s5))).1 s6)))) t9).length < 64:=by
 have e:=congrArg List.length (h.ns (t3:=t3) (t4:=t4) (t5:=t5) (t6:=t6) (t7:=t7) (t8:=t8) (s1:=s1) (s4:=s4) (s5:=s5) (s6:=s6) (t9:=t9) hK)
 rw [(srt_perm _).length_eq,List.length_map] at e
 have:=h.k.1.len.1
 omega
variable {prog:Program}{w:World}{A:Around}{R:Result→Shared→Prop}{B:Addr→Option Obj}{g:Array GenState}{d:Drawn}{os:OsState}{rs:List (Addr×Obj)}
noncomputable abbrev rSortI {L:List PT}(RX:Rin rs B) (lc:Lc):Rul prog w A R B g d os:=rSorted RX lc L
end
noncomputable def flA (a:Nat→Xd):List PT:=FL (wp (a 19).V) (wp (a 19).V2) (a 20).L (a 21).L
noncomputable def nwA (a a1 a4:Nat→Xd):List PT:=tag (pts (tag (E10 (pts ((tag (ord (pts (flA a)) (a 31).V.length) (a4 3).L).reverse.flatMap (fI (tag (diff (pts (tag (wp (a 19).V) (a 20).L)) (pts (tag (wp (a 19).V2) (a 21).L))).2 (a1 0).L2)))) (pts (tag (wp (a 19).V2) (a 21).L))) (a4 15).L)++pts ((tag (ord (pts (flA a)) (a 31).V.length) (a4 3).L).flatMap (fI (tag (diff (pts (tag (wp (a 19).V) (a 20).L)) (pts (tag (wp (a 19).V2) (a 21).L))).1 (a1 0).L)))) (a4 21).L
section
open PySem.W PySem.W.ZFast
noncomputable def retT (m:Sem Value):Sem Flow:=R.bindR m fun v=>.pure (.ret v)
noncomputable def andT (pos:PySem.Pos) (rest:List (Sem Value)) (m:Sem Value):Sem Value:=R.bindR m fun v=>R.bindR (standAt pos) fun _=>R.bindR (zw17359229931016689406 [v] (zw15245631507167962100 v)) fun t=>match BoolOp.And,t with
 | .And, false => .pure v
 | .Or, true => .pure v
 | _, _ => zw5920589197648130222 pos .And rest
noncomputable def boolP:Expr→PySem.Pos
 | .BoolOp _ _ p => p
 | _ => default
variable {prog:Program}{w:World}{A:Around}{R:Result→Shared→Prop}{g:Array GenState}{d:Drawn}{os:OsState}
theorem go_reta {l:List Kt}{c:Code}{s:Shared}{env:Env}{pos:PySem.Pos}{rest:List (Sem Value)}{op:CmpOp}{a1 a2:Value}{r:Bool}
   (h0:∀ (E Q:Value→Shared→Prop),Q (.bool r) s→wpAny (model prog w) ((ar A l).under c) (richCompare op a1 a2) Q E s)
   (x:Go prog w A R l c (fuT env (sqT [] env (retT (andT pos rest (opT [a1,a2] (.pure (.bool r))))))) s):Go prog w A R l c (fuT env (sqT [] env (retT (andT pos rest (opT [a1,a2] (zw9423741818375054981 op a1 a2)))))) s:=by
 refine go_cx (m0:=zw9423741818375054981 op a1 a2) (v:=Value.bool r) (fun s'=>s'=s) ?_ ?_ (fun s' e=>e ▸ x)
 · exact Cx.bind (Cx.onRaise (Cx.bind (Cx.bind (Cx.bind (Cx.bind (Cx.keep Cx.hole))))))
 · rw [← ze9423741818375054981]
   exact h0 _ _ ⟨rfl,rfl⟩
end
section
open PySem.SeqAt
theorem cmpE {A:Around}{B:Addr→Option Obj}{h:Heap}{g:Array GenState}{d:Drawn}{i:Nat}{os:OsState}{cs:List (Addr×Obj)}{a1 a2:Addr}{L1 L2:List PT}{n1 n2:Nat}(p1 p2:Nat) (H:Hp B h cs) (e1:pick p1 cs=some (a1,lst (L1.map pv) n1)) (e2:pick p2 cs=some (a2,lst (L2.map pv) n2))
   (e:pts L1=pts L2) (hu:A.units < cLine):RcAt A ⟨h,g,d,i,os⟩ (.ref a1) (.ref a2) true:=eq_lst (own_pick e1 H) (own_pick e2 H) hu (eqV_pv e)
theorem cmpZ {A:Around}{B:Addr→Option Obj}{h:Heap}{g:Array GenState}{d:Drawn}{i:Nat}{os:OsState}{cs:List (Addr×Obj)}{a1 a2 x1 x2 y1 y2:Addr}{L1 L2:List PT}{n1 n2 m1 m2 k1 k2:Nat}(p1 p2 q1 q2 r1 r2:Nat) (H:Hp B h cs) (e1:pick p1 cs=some (a1,tupO [.ref x1,.ref x2] k1)) (e2:pick p2 cs=some (a2,tupO [.ref y1,.ref y2] k2))
   (f1:pick q1 cs=some (x1,lst (L1.map pv) n1)) (f2:pick q2 cs=some (x2,lst (L2.map pv) n2)) (g1:pick r1 cs=some (y1,lst [] m1)) (g2:pick r2 cs=some (y2,lst [] m2))
   (z1:pts L1=[]) (z2:pts L2=[]) (hu:A.units + 1 < cLine):RcAt A ⟨h,g,d,i,os⟩ (.ref a1) (.ref a2) true :=
 eq_tup (own_pick e1 H) (own_pick e2 H) (Nat.lt_of_succ_lt hu) (eqV_two (eqA_lst (own_pick f1 H) (own_pick g1 H) hu (eqV_pv (M:=[]) z1)) (eqA_lst (own_pick f2 H) (own_pick g2 H) hu (eqV_pv (M:=[]) z2)))
theorem pts_eq {F:List Pt}{t1 t2:List Nat}{S:List Pt}(h:S=F):pts (tag S t1)=pts (tag F t2):=(pts_tag _ _).trans (h.trans (pts_tag _ _).symm)
theorem sl_two {F:List Pt}(k:TrL F){t1 t2:List Nat}{S:List Pt}(h:S=F):SlH (tag F t1) (tag S t2):=by
 subst h
 have a:=k.len
 have e1:=tag_len S t1
 have e2:=tag_len S t2
 refine ⟨by omega,by omega,?_,?_,?_,?_,by omega,by omega⟩
 · rw [pts_tag];exact k.nd
 · rw [pts_tag];exact k.nd
 · rw [pts_tag];exact a.2.2
 · rw [pts_tag];exact a.2.2
theorem df_two {F:List Pt}(k:TrL F){t1 t2:List Nat}{S:List Pt}(h:S=F):diff (pts (tag F t1)) (pts (tag S t2))=([],[]):=by
 subst h
 rw [pts_tag,pts_tag,diff_eq k.so k.so k.nd k.nd,mis_self]
theorem df_1 {F:List Pt}(k:TrL F){t1 t2 t3:List Nat}{S:List Pt}(h:S=F):pts (tag (diff (pts (tag F t1)) (pts (tag S t2))).1 t3)=[]:=(pts_tag _ _).trans (congrArg Prod.fst (df_two k h))
theorem df_2 {F:List Pt}(k:TrL F){t1 t2 t3:List Nat}{S:List Pt}(h:S=F):pts (tag (diff (pts (tag F t1)) (pts (tag S t2))).2 t3)=[]:=(pts_tag _ _).trans (congrArg Prod.snd (df_two k h))
theorem ord_fol {F:List PT}{K:Nat}{ts:List Nat}(hF:FolOk (pts F)) (h:lev (pts F) K=[]):(tag (ord (pts F) K) ts).length=F.length:=by
 rw [tag_len,(ord_perm hF h).length_eq]
 exact List.length_map _
end
theorem Hp.fst {B:Addr→Option Obj}{h:Heap}{l X:List (Addr×Obj)}(H:Hp B h (l++X)):Hp B h l :=
 ⟨H.keep, fun p hp => H.own p (List.mem_append_left _ hp), fun p hp => H.off p (List.mem_append_left _ hp), by
   have:=H.nd
   rw [List.map_append,List.nodup_append] at this
   exact this.1⟩
section
variable {b:Bool}{w:World}{g:Array GenState}{d:Drawn}{os:OsState}
theorem l1_args {vs:List Value}(hvs:∀ v∈vs,∃ x tx,v=.int x tx) (t1 t2 t3 t4 t5:Nat):(∀ v∈vs.take 6++[Value.int 6 t1,Value.int 31 t2,Value.int 16 t3,Value.int 2 t4,Value.int 23 t5],∃ x tx,v=.int x tx)∧(vs.take 6++[Value.int 6 t1,Value.int 31 t2,Value.int 16 t3,Value.int 2 t4,Value.int 23 t5]).length≤11∧0 < (vs.take 6++[Value.int 6 t1,Value.int 31 t2,Value.int 16 t3,Value.int 2 t4,Value.int 23 t5]:List Value).length:=by
 refine ⟨fun v hv=>?_,?_,?_⟩
 · rcases List.mem_append.mp hv with hv | hv
   · exact hvs v (List.mem_of_mem_take hv)
   · simp only [List.mem_cons, List.not_mem_nil, or_false] at hv
     rcases hv with rfl | rfl | rfl | rfl | rfl <;> exact ⟨_,_,rfl⟩
 · rw [List.length_append, List.length_take]
   show min 6 vs.length + 5≤11
   omega
 · rw [List.length_append]
   exact Nat.lt_of_lt_of_le (by decide:0 < 5) (Nat.le_add_left _ _)
theorem l1_x {vs:List Value}{t1 t2 t3 t4 t5:Nat}:∃ (k:Nat) (x0:Int) (t0:Nat),(vs.take 6++[Value.int 6 t1,Value.int 31 t2,Value.int 16 t3,Value.int 2 t4,Value.int 23 t5])[k]?=some (Value.int x0 t0)∧xW x0=true∧xT x0=true:=by
 refine ⟨(vs.take 6).length + 2,16,t3,?_,?_,?_⟩
 · rw [List.getElem?_append_right (Nat.le_add_right _ _),Nat.add_sub_cancel_left];rfl
 · unfold xW
   rw [← Z.modQ_eq,← Z.divQ_eq];decide
 · unfold xT
   rw [← Z.modQ_eq,← Z.divQ_eq];decide
theorem l1_tk {vs:List Value}:(vs.take 6).length≤1000:=by rw [List.length_take];omega
theorem le4 {n:Nat}(h:n≤4):n≤1000:=Nat.le_trans h (by decide)
theorem lw_k {P:Params}{fr:Addr}{cl:List (Str×Addr)}:(envAtC P 280 fr cl).scope.kind≠.module:=fun z=>by cases z
theorem lawR {q:Addr}{n:Nat}{vs:List Value}(hvs:∀ v∈vs,∃ x tx,v=.int x tx) (hl:vs.length≤63):Ct prg (wv b w) 310 (some []) (KK (wv b w).params) g d os (.call (.ref 280) ⟨[.ref q],[]⟩) [(q,lst vs n)] none
    fun u=>(.ok (.ret (.bool true)),[(q,lst vs n)]):=by
 refine ⟨fun B h t R KX hS H x=>?_⟩
 refine' go_ent KX H rfl ?_
 (refine' run_M2 KX Rin.nil H 4000 ⟨[12,13,14,15,16,19,22,23,24,25,26,28,29],30⟩ rfl [.k,.b 0,.b 1,.b 2,.b 3,.b 4,.b 5,.b 6,.b 7,.c 7,.f 7,.k,.b 8,.b 9,.b 10,.c 0,.c 0,.c 0,.e,.c 0,.q,.b 11,.c 0,.c 0,.e,.c 0,.q,.c 0,.c 0,.c 1,.c 0,.f 0,.c 0,.e,.c 0,.q,.c 0,.c 0,.c 1,.c 0,.f 0,.c 0,.e,.c 0,.q,.c 0,.c 0,.c 1,.c 0,.f 0,.b 12,.b 13,.c 0,.c 12,.f 12,.c 11,.f 11,.c 13,.b 14,.c 15,.c 15,.c 15,.v 15 (fun al=>rLslice Rin.nil (.c 15) (.c 0) (vs.take 6)),.b 16,.c 1,.c 0,.c 1,.v 17 (fun al=>rLadd (q1:=(al 15).n) (q2:=(al 16).n) (vs1:=List.take 6 vs) (vs2:=[Value.int 6 (al 15).n2,Value.int 31 ((al 15).n2 + 1),Value.int 16 ((al 15).n2 + 1 + 1),  Value.int 2 ((al 15).n2 + 1 + 1 + 1),Value.int 23 ((al 15).n2 + 1 + 1 + 1 + 1)]) (n1:=0) (n2:=0) Rin.nil (.c 1) (.c 0)),.c 0,.c 0,.e,.c 0,.q,.b 18,.c 0,.v 19 (fun al=>rC KX hS [0,0,15,8,13,7,11,10,10] 11 false (True) (fun _=>l1_loop (fr:=(al 0).n) (cw:=(al 1).n) (ct:=(al 2).n) (cx:=(al 3).n) (cp:=(al 4).n) (cf:=(al 5).n) (ms:=(al 6).n) (mo:=(al 7).n) (it:=(al 18).n) (lq:=(al 17).n) (aw:=(al 8).n) (at':=(al 9).n) (q:=q) (n:=0) (nw:=0) (nt:=0) (nf:=0 + 1) (ks:=t) (t1:=t + 1) (t2:=t + 1 + 1) (vs:=List.take 6 vs++  [Value.int 6 (al 15).n2,Value.int 31 ((al 15).n2 + 1),Value.int 16 ((al 15).n2 + 1 + 1),    Value.int 2 ((al 15).n2 + 1 + 1 + 1),Value.int 23 ((al 15).n2 + 1 + 1 + 1 + 1)]) (ox:=none) (op:=none) (l1_args hvs _ _ _ _ _).1 (l1_args hvs _ _ _ _ _).2.1 (l1_args hvs _ _ _ _ _).2.2 l1_x)),.k,.c 11,.k,.v 20 (fun al=>rC KX hS [12] 16 false (IsV (al 19).V) (fun hp=>laX (q:=(al 19).n) (n:=(al 19).n2) (V:=(al 19).V) hp)),.k,.c 12,.k,.v 21 (fun al=>rC KX hS [13] 17 false (IsV (al 19).V2) (fun hp=>laX (q:=(al 19).n3) (n:=(al 19).n4) (V:=(al 19).V2) hp)),.b 22,.c 0,.c 0,.c 0,.e,.c 0,.q,.b 23,.c 0,.c 0,.e,.c 0,.q,.c 0,.c 0,.c 1,.c 0,.f 0,.c 0,.e,.c 0,.q,.c 0,.c 0,.c 1,.c 0,.f 0,.c 0,.e,.c 0,.q,.c 0,.c 0,.c 1,.c 0,.f 0,.b 24,.b 25,.c 0,.c 15,.f 15,.c 16,.f 16,.c 15,.c 16,.c 21,.c 21,.e,.c 21,.q,.b 26,.c 0,.b 27,.b 28,.v 29 (fun al=>rC KX hS [2,23,1,0,15,18] 20 false (LwF (al 19).V (al 19).V2) (fun hp=>kA (fr:=(al 0).n) (it:=(al 26).n) (q:=(al 21).n) (acc:=(al 27).n) (cf:=(al 28).n) (cc:=(al 1).n) (aw:=(al 20).n) (n:=(al 21).n2) (n6:=0) (n7:=0) (nw:=(al 20).n2) (L:=tag (wp (al 19).V2) (al 21).L) (W:=tag (wp (al 19).V) (al 20).L) (tagT hp.k.2).1 (tagT hp.k.2).2)),.c 22,.c 22,.f 22,.c 24,.c 21,.c 24,.v 30 (fun al=>rLaddP (q1:=(al 20).n) (q2:=(al 27).n) (L1:=tag (wp (al 19).V) (al 20).L) (L2:=List.flatMap (fN (tag (wp (al 19).V) (al 20).L)) (tag (wp (al 19).V2) (al 21).L)) (n1:=(al 20).n2) (n2:=(al 29).n) Rin.nil (.c 24) (.c 21)),.c 14,.f 14,.k,.c 14,.k,.v 31 (fun al=>rC KX hS [0,17] 24 true (FolOk (pts (FL (wp (al 19).V) (wp (al 19).V2) (al 20).L (al 21).L))) (fun hp=>rnd (q:=(al 30).n) (lf:=(al 0).n) (esf:=[ent (wv b w).params "script" t (Value.ref q)]) (nq:=0) (nf:=0 + 1) (slf:=#[]) (envL:=envAtC (wv b w).params 280 (al 0).n (lwCl (al 1).n (al 2).n (al 3).n (al 4).n (al 5).n (al 6).n (al 7).n)) lw_k rfl (FL (wp (al 19).V) (wp (al 19).V2) (al 20).L (al 21).L) hp)),.c 26,.g 26,.c 26,.k,.k,.k,.k,.c 26,.v 32 (fun al=>rLenL Rin.nil (.c 24) ((al 31).V.length)),.v 33 (fun al=>rRange (n:=↑(al 31).V.length) (t:=(al 32).n)),.c 0,.c 0,.v 34 (fun al=>rRiter (r:=(al 33).n) (n:=↑(al 31).V.length) (t0:=(al 33).n2) (t:=(al 32).n) (t1:=(al 33).n3) 0 ((al 31).V.length)),.c 0,.b 35,.b 36,.b 37,.v 38 (fun al=>rC KX hS [3,2,1,0,14,25] 26 true (LwF (al 19).V (al 19).V2∧(al 31).V.length≤4) (fun hp=>(rk (fr:=(al 0).n) (it:=(al 34).n) (acc:=(al 35).n) (cf:=(al 36).n) (kc:=(al 37).n) (fc:=(al 5).n) (q:=(al 30).n) (n:=0) (n6:=0) (n7:=0) (K:=(al 31).V.length) (L:=FL (wp (al 19).V) (wp (al 19).V2) (al 20).L (al 21).L) (FL_ok hp.1).1 (FL_ok hp.1).2 (le4 hp.2)).frame (al 31).X))] (fun al=>(lwI (wv b w).params al 5 (rcT .NotEq (.ref (al 31).n) (.ref (al 35).n)))) (c':=fun al=>(lwF (wv b w).params al)) (fun _=>rfl) (fun _=>by kernel_rfl) (fun _=>by kernel_rfl) (fun _=>by kernel_rfl) (fun _=>by kernel_rfl) (fun _=>by kernel_rfl) (fun al=>⟨(fun hF=>⟨hF.2.1,rd_len hF.1⟩),(fun hF=>⟨rfl,le4 (rd_len hF.1)⟩),(fun hF=>(by first | trivial | assumption | exact rfl | exact ⟨rfl,rfl⟩)),(fun hF=>⟨rfl,le4 (rd_len hF.1)⟩),(fun hF=>hF.1.f),(fun hF=>⟨(tagT hF.1.k.1).2,Nat.le_trans (fN_len _ _) (tagT hF.1.k.2).2⟩),(fun hF=>hF.1),(fun hF=>(LwF.v hF.1).2),(fun hF=>(LwF.v hF.1).1),(fun hF=>trivial),(fun hF=>⟨l1_tk,Nat.le_of_ble_eq_true rfl⟩),(fun hF=>⟨slicePick_upto' _ 6,Nat.le_trans hl (by decide)⟩),trivial⟩) ?_;(try clear H);(try clear hp);intro al hp i hF H)
 rename Nat→Xd=>a0
 refine' go_ifc (r:=false) ?h0 ?x
 case h0=>exact fun E Q q=>lc5 8 10 13 H rfl rfl rfl hF.2.1 hF.1 hF.2.2.1.f (Nat.le_of_ble_eq_true rfl) _ _ E Q q
 have k0:LwF (a0 19).V (a0 19).V2:=hF.2.2.1
 have k1:=hF.2.1
 have k2:=ord_len k0.f k1
 (refine' run_M2 KX Rin.nil H 4000 ⟨[3,4,5,6,7,8,10,11,13,14,15,16,17,19,20],21⟩ rfl [.k,.c 6,.c 3,.k,.v 0 (fun al=>rC KX hS [7,5,7] 10 false (True) (fun _=>sld (q1:=(a0 20).n) (q2:=(a0 21).n) (lf:=(a0 0).n) (n1:=(a0 20).n2) (n2:=(a0 21).n2) (nf:=0 + 1 + 1) (L1:=tag (wp (a0 19).V) (a0 20).L) (L2:=tag (wp (a0 19).V2) (a0 21).L) (esf:=[{     hash:=      condFn Int (Str.ofString "script").cps.isEmpty 0         (ZFast.zw12210062019545310541 ((wv b w).params.strHash (Str.ofString "script").cps)),    key:=Value.str (Str.ofString "script") t,val:=Value.ref q },  {     hash:=      condFn Int (Str.ofString "rounds").cps.isEmpty 0         (ZFast.zw12210062019545310541 ((wv true w).params.strHash (Str.ofString "rounds").cps)),    key:=Value.str (Str.ofString "rounds") (a0 31).t,val:=Value.ref (a0 31).n }]) (slf:=(a0 31).s4) (envL:=envAtC (wv b w).params 280 (a0 0).n (lwCl (a0 1).n (a0 2).n (a0 3).n (a0 4).n (a0 5).n (a0 6).n (a0 7).n)) lw_k rfl k0.sl)),.c 10,.c 10,.c 10,.e,.c 10,.q,.b 1,.c 0,.c 0,.e,.c 0,.q,.c 0,.c 0,.c 11,.c 0,.f 0,.c 0,.e,.c 0,.q,.c 0,.c 0,.c 11,.c 0,.f 0,.c 0,.e,.c 0,.q,.c 0,.c 0,.c 11,.c 0,.f 0,.b 2,.b 3,.c 0,.c 4,.f 4,.c 3,.f 3,.c 4,.c 8,.c 16,.c 16,.e,.c 16,.q,.b 4,.c 0,.b 5,.b 6,.v 7 (fun al=>rC KX hS [2,18,1,0,6,15] 16 false (True) (fun _=>kB (fr:=(a0 0).n) (it:=(al 4).n) (q:=(a0 20).n) (acc:=(al 5).n) (cf:=(al 6).n) (cc:=(a0 2).n) (aw:=(a0 21).n) (n:=(a0 20).n2) (n6:=0) (n7:=0) (nw:=(a0 21).n2) (L:=tag (wp (a0 19).V) (a0 20).L) (W:=tag (wp (a0 19).V2) (a0 21).L) (tagT k0.k.1).1 (tagT k0.k.1).2)),.c 18,.c 18,.f 18] (fun al=>(lwO (wv b w).params a0 7 1 (rcT .NotEq (.ref (al 0).n2) (.ref (al 5).n)))) (c':=fun al=>(lwF (wv b w).params a0)) (fun _=>rfl) (fun _=>by kernel_rfl) (fun _=>by kernel_rfl) (fun _=>by kernel_rfl) (fun _=>by kernel_rfl) (fun _=>by kernel_rfl) (fun al=>⟨(fun hF=>trivial),(fun hF=>trivial),trivial⟩) ?_;(try clear H);(try clear hp);intro al hp i hF H)
 rename Nat→Xd=>a1
 refine' go_orc (r:=false) ?h1 ?x1
 case h1=>exact fun E Q q=>cmpN 8 12 H rfl rfl k0.d1 (Nat.le_of_ble_eq_true rfl) _ _ E Q q
 (refine' run_M2 KX Rin.nil H 4000 ⟨[0,1,2,3,4,5,6,7,8,9,11,12,13,15,16],17⟩ rfl [.c 0,.c 13,.c 14,.c 14,.e,.c 14,.q,.b 0,.c 0,.b 1,.b 2,.v 3 (fun al=>rC KX hS [2,16,1,0,4,10] 12 false (True) (fun _=>kC (fr:=(a0 0).n) (it:=(al 0).n) (q:=(a0 21).n) (acc:=(al 1).n) (cf:=(al 2).n) (cc:=(a0 1).n) (aw:=(a0 20).n) (n:=(a0 21).n2) (n6:=0) (n7:=0) (nw:=(a0 20).n2) (L:=tag (wp (a0 19).V2) (a0 21).L) (W:=tag (wp (a0 19).V) (a0 20).L) (tagT k0.k.2).1 (tagT k0.k.2).2)),.c 14,.c 14,.f 14] (fun al=>(lwO (wv b w).params a0 7 2 (rcT .NotEq (.ref (a1 0).n3) (.ref (al 1).n)))) (c':=fun al=>(lwF (wv b w).params a0)) (fun _=>rfl) (fun _=>by kernel_rfl) (fun _=>by kernel_rfl) (fun _=>by kernel_rfl) (fun _=>by kernel_rfl) (fun _=>by kernel_rfl) (fun al=>⟨(fun hF=>trivial),trivial⟩) ?_;(try clear H);(try clear hp);intro al hp i hF H)
 rename Nat→Xd=>a2
 refine' go_orc (r:=false) ?h2 ?x2
 case h2=>exact fun E Q q=>cmpN 8 12 H rfl rfl k0.d2 (Nat.le_of_ble_eq_true rfl) _ _ E Q q
 (refine' run_M2 KX Rin.nil H 4000 ⟨[0,1,3,7,8,9,10,11,12,13,14,15,16,17,19,20,21,22,23,24],25⟩ rfl [.k,.c 13,.b 0,.c 15,.c 15,.c 15,.v 1 (fun al=>rSlA (q1:=(a0 20).n) (q2:=(al 0).n) (L:=tag (wp (a0 19).V) (a0 20).L) (n:=(a0 20).n2) Rin.nil (.c 15) (.c 0)),.c 12,.e,.q,.b 2,.c 14,.c 14,.c 14,.v 3 (fun al=>rSlR (q1:=(a0 21).n) (q2:=(al 2).n) (L:=tag (wp (a0 19).V2) (a0 21).L) (n:=(a0 21).n2) (tk:=(al 1).n2 + 1) Rin.nil (.c 14) (.c 0)),.k,.v 4 (fun al=>rC KX hS [2,0,11] 16 false (True) (fun _=>uld (q1:=(al 1).n) (q2:=(al 3).n) (lf:=(a0 0).n) (n1:=0) (n2:=0) (nf:=0 + 1 + 1) (L1:=tag (wp (a0 19).V) (a0 20).L) (L2:=(tag (wp (a0 19).V2) (a0 21).L).reverse) (slf:=(a1 0).s4) (esf:=[{     hash:=      condFn Int (Str.ofString "script").cps.isEmpty 0         (ZFast.zw12210062019545310541 ((wv b w).params.strHash (Str.ofString "script").cps)),    key:=Value.str (Str.ofString "script") t,val:=Value.ref q },  {     hash:=      condFn Int (Str.ofString "rounds").cps.isEmpty 0         (ZFast.zw12210062019545310541 ((wv true w).params.strHash (Str.ofString "rounds").cps)),    key:=Value.str (Str.ofString "rounds") (a0 31).t,val:=Value.ref (a0 31).n }]) (envL:=lwE (wv b w).params a0) lw_k rfl (tag_le k0.k.1) (tag_rle k0.k.2))),.c 3,.e,.q,.b 5,.c 10,.c 10,.c 10,.v 6 (fun al=>rSlR (q1:=(a1 0).n2) (q2:=(al 5).n) (L:=tag (diff (pts (tag (wp (a0 19).V) (a0 20).L)) (pts (tag (wp (a0 19).V2) (a0 21).L))).fst (a1 0).L) (n:=(a1 0).n4) (tk:=(al 4).t + 1) Rin.nil (.c 10) (.c 0)),.c 4,.e,.q,.b 7,.c 13,.c 13,.c 13,.v 8 (fun al=>rSlR (q1:=(a1 0).n3) (q2:=(al 7).n) (L:=tag (diff (pts (tag (wp (a0 19).V) (a0 20).L)) (pts (tag (wp (a0 19).V2) (a0 21).L))).snd (a1 0).L2) (n:=(a1 0).n5) (tk:=(al 6).n2 + 1) Rin.nil (.c 13) (.c 0)),.b 9] (fun al=>(lwI (wv b w).params a0 8 (rcT .NotEq (.ref (al 4).n) (.ref (al 9).n)))) (c':=fun al=>(lwF (wv b w).params a0)) (fun _=>rfl) (fun _=>by kernel_rfl) (fun _=>by kernel_rfl) (fun _=>by kernel_rfl) (fun _=>by kernel_rfl) (fun _=>by kernel_rfl) (fun al=>⟨(fun hF=>k0.m2),(fun hF=>k0.m1),(fun hF=>trivial),(fun hF=>(tagT k0.k.2).2),(fun hF=>(tagT k0.k.1).2),trivial⟩) ?_;(try clear H);(try clear hp);intro al hp i hF H)
 rename Nat→Xd=>a3
 refine' go_ifc (r:=false) ?h3 ?x3
 case h3=>exact fun E Q q=>cmpT 16 0 17 18 2 1 H rfl rfl rfl rfl rfl rfl k0.u1 k0.u2 (Nat.le_of_ble_eq_true rfl) _ _ E Q q
 (refine' run_T2 KX Rin.nil H 4000 ⟨[0,9,10,11,13,14,24,29,30],31⟩ rfl [.c 19,.c 7,.c 7,.e,.c 7,.q,.b 0,.c 0,.b 1,.b 2,.v 3 (fun al=>rC KX hS [2,1,0,7] 19 true (True) (fun _=>kO (fr:=(a0 0).n) (it:=(al 0).n) (q:=(a0 31).n) (acc:=(al 1).n) (cf:=(al 2).n) (n:=(a0 31).n2) (n6:=0) (n7:=0) (F:=pts (FL (wp (a0 19).V) (wp (a0 19).V2) (cut (30 + 1) a0 20).L (cut (30 + 1) a0 21).L)) (V:=(a0 31).V) (X:=(a0 31).X) (Z:=[].append (a0 38).X) k0.f k1)),.c 20,.c 20,.f 20,.c 20,.c 20,.f 20,.c 11,.b 4,.c 0,.c 0,.c 0,.e,.c 0,.q,.b 5,.c 0,.c 0,.e,.c 0,.q,.c 0,.c 0,.c 1,.c 0,.f 0,.c 0,.e,.c 0,.q,.c 0,.c 0,.c 1,.c 0,.f 0,.c 0,.e,.c 0,.q,.c 0,.c 0,.c 1,.c 0,.f 0,.b 6,.b 7,.c 0,.c 22,.g 22,.c 22,.g 22,.c 22,.e,.q,.b 8,.c 24,.c 24,.c 24,.v 9 (fun al=>rSlR (q1:=(al 1).n) (q2:=(al 8).n) (L:=tag (ord (pts (FL (wp (a0 19).V) (wp (a0 19).V2) (a0 20).L (a0 21).L)) (a0 31).V.length) (al 3).L) (n:=(al 3).n) (tk:=(al 3).t + 1 + 1 + 1) Rin.nil (.c 24) (.c 0)),.c 0,.c 0,.e,.c 0,.q,.b 10,.c 0,.b 11,.b 12,.v 13 (fun al=>rC KX hS [2,2,1,0,8,14] 25 false (True) (fun _=>kD (fr:=(a0 0).n) (it:=(al 10).n) (q:=(al 9).n) (acc:=(al 11).n) (cf:=(al 12).n) (cc:=(a0 7).n) (aw:=(a1 0).n3) (n:=0) (n6:=0) (n7:=0) (nw:=(a1 0).n5) (L:=(tag (ord (pts (FL (wp (a0 19).V) (wp (a0 19).V2) (cut (30 + 1) a0 20).L (cut (30 + 1) a0 21).L)) (a0 31).V.length)     (al 3).L).reverse) (W:=tag (diff (pts (tag (wp (a0 19).V) (a0 20).L)) (pts (tag (wp (a0 19).V2) (a0 21).L))).snd (a1 0).L2) (ord_rtag k0.f k2).1 (ord_rtag k0.f k2).2)),.c 27,.c 27,.f 27,.c 26,.c 26,.e,.c 26,.q,.b 14,.c 0,.v 15 (fun al=>rC KX hS [0,26,10,20,14] 26 false (True) (fun _=>l10 (it:=(al 14).n) (lq:=(al 11).n) (pc:=(a0 4).n) (fr:=(a0 0).n) (q:=q) (ro:=(a0 31).n) (oa:=(al 1).n) (nwa:=(a0 21).n) (cw:=(a0 1).n) (ct:=(a0 2).n) (cx:=(a0 3).n) (cf:=(a0 5).n) (ms:=(a0 6).n) (mo:=(a0 7).n) (k1:=t) (k2:=(a0 31).t) (k3:=(al 3).t) (k4:=(al 3).t + 1) (D:=List.flatMap (fI (tag (diff (pts (tag (wp (a0 19).V) (a0 20).L)) (pts (tag (wp (a0 19).V2) (a0 21).L))).snd (a1 0).L2))   (tag (ord (pts (FL (wp (a0 19).V) (wp (a0 19).V2) (cut (30 + 1) a0 20).L (cut (30 + 1) a0 21).L)) (a0 31).V.length)       (al 3).L).reverse) (N:=tag (wp (a0 19).V2) (a0 21).L) (n1:=(al 13).n) (nN:=(a0 21).n2) (nf:=0 + 1 + 1 + 1 + 1) (v0:=(a0 19).v) (slf:=(a3 4).s4) (tagT k0.k.2).2 (k0.g10 k2))),.c 27,.c 19,.c 19,.e,.c 19,.q,.b 16,.c 0,.b 17,.b 18,.v 19 (fun al=>rC KX hS [2,21,1,0,8,11] 26 false (True) (fun _=>kE (fr:=(a0 0).n) (it:=(al 16).n) (q:=(al 1).n) (acc:=(al 17).n) (cf:=(al 18).n) (cc:=(a0 6).n) (aw:=(a1 0).n2) (n:=(al 3).n) (n6:=0) (n7:=0) (nw:=(a1 0).n4) (L:=tag (ord (pts (FL (wp (a0 19).V) (wp (a0 19).V2) (cut (30 + 1) a0 20).L (cut (30 + 1) a0 21).L)) (a0 31).V.length)   (al 3).L) (W:=tag (diff (pts (tag (wp (a0 19).V) (a0 20).L)) (pts (tag (wp (a0 19).V2) (a0 21).L))).fst (a1 0).L) (ord_tag k0.f k2).1 (ord_tag k0.f k2).2)),.c 28,.c 28,.f 28,.c 27,.c 27,.e,.c 27,.q,.b 20,.c 0,.v 21 (fun al=>rC KX hS [0,27,23,23,23] 27 false (True) (fun _=>l11 (it:=(al 20).n) (lq:=(al 17).n) (pc:=(a0 4).n) (fr:=(a0 0).n) (q:=q) (ro:=(a0 31).n) (oa:=(al 1).n) (nwa:=(al 15).n) (cw:=(a0 1).n) (ct:=(a0 2).n) (cx:=(a0 3).n) (cf:=(a0 5).n) (ms:=(a0 6).n) (mo:=(a0 7).n) (k1:=t) (k2:=(a0 31).t) (k3:=(al 3).t) (k4:=(al 3).t + 1) (D:=List.flatMap (fI (tag (diff (pts (tag (wp (a0 19).V) (a0 20).L)) (pts (tag (wp (a0 19).V2) (a0 21).L))).fst (a1 0).L))   (tag (ord (pts (FL (wp (a0 19).V) (wp (a0 19).V2) (cut (30 + 1) a0 20).L (cut (30 + 1) a0 21).L)) (a0 31).V.length)     (al 3).L)) (N:=tag   (E10     (pts       (List.flatMap         (fI (tag (diff (pts (tag (wp (a0 19).V) (a0 20).L)) (pts (tag (wp (a0 19).V2) (a0 21).L))).snd (a1 0).L2))         (tag             (ord (pts (FL (wp (a0 19).V) (wp (a0 19).V2) (cut (30 + 1) a0 20).L (cut (30 + 1) a0 21).L))               (a0 31).V.length)             (al 3).L).reverse))     (pts (tag (wp (a0 19).V2) (a0 21).L)))   (al 15).L) (n1:=(al 19).n) (nN:=(al 15).n2) (nf:=0 + 1 + 1 + 1 + 1) (v0:=(al 15).v) (slf:=(a3 4).s4) (k0.ln k2) (k0.g11 k2))),.k,.k,.c 28,.v 22 (fun al=>rSortI (L:=tag   (pts       (tag         (E10           (pts             (List.flatMap               (fI (tag (diff (pts (tag (wp (a0 19).V) (a0 20).L)) (pts (tag (wp (a0 19).V2) (a0 21).L))).snd (a1 0).L2))               (tag (ord (pts (FL (wp (a0 19).V) (wp (a0 19).V2) (a0 20).L (a0 21).L)) (a0 31).V.length)                   (al 3).L).reverse))           (pts (tag (wp (a0 19).V2) (a0 21).L)))         (al 15).L)++    pts       (List.flatMap         (fI (tag (diff (pts (tag (wp (a0 19).V) (a0 20).L)) (pts (tag (wp (a0 19).V2) (a0 21).L))).fst (a1 0).L))         (tag (ord (pts (FL (wp (a0 19).V) (wp (a0 19).V2) (a0 20).L (a0 21).L)) (a0 31).V.length) (al 3).L)))   (al 21).L) Rin.nil (.c 29)),.c 13] fun al=>end_M2 (c:=(lwF (wv b w).params a0)) (t:=(fuT (lwE (wv b w).params a0) (sqT [] (lwE (wv b w).params a0) (retT (andT (boolP (exOf (nthS (bdAt (wv b w).params 280) 12))) (PySem.W.ZFast.zw10458482166411082596 ((boolL (exOf (nthS (bdAt (wv b w).params 280) 12))).drop 1) (lwE (wv b w).params a0)) (opT [.ref (al 22).n,.ref (a0 20).n] (PySem.W.ZFast.zw9423741818375054981 .Eq (.ref (al 22).n) (.ref (a0 20).n)))))))) (cs:=([((al 22).n,lst ((tag (srt (pts (nwA a0 a1 al))) (al 22).L).map pv) (al 22).n2),(q,lst vs n),((a0 5).n,cellQ (some (.ref (a0 30).n))),((a0 30).n,lst ((flA a0).map pv) 0),((a0 1).n,cellQ (some (.ref (a0 20).n))),((a0 20).n,lst ((tag (wp (a0 19).V) (a0 20).L).map pv) (a0 20).n2),((al 1).n,lst ((tag (ord (pts (flA a0)) (a0 31).V.length) (al 3).L).map pv) (al 3).n),((a0 0).n,_),((al 21).n,lst ((nwA a0 a1 al).map pv) _)]++((a0 38).X++(a0 31).X))) (by kernel_rfl) (by kernel_rfl) rfl (by kernel_rfl) (by kernel_rfl) (by kernel_rfl) ⟨(fun hF=>k0.nl k2),(fun hF=>trivial),(fun hF=>trivial),(fun hF=>trivial),(fun hF=>trivial),(fun hF=>(ord_tag k0.f k2).2),(fun hF=>trivial),trivial⟩ fun hp iq hF H=>?_)
 have H:=H.fst
 rename Nat→Xd=>a4
 refine' go_reta (r:=true) ?h4 ?x4
 case h4=>exact fun E Q q=>cmpE 0 5 H rfl rfl (pts_eq (k0.ns k2)) (Nat.le_of_ble_eq_true rfl) _ _ E Q q
 (refine' run_T2 KX Rin.nil H 4000 ⟨[0,1,2,10,11,12,4,5,6,8,15],16⟩ rfl [.k,.c 4,.k,.k,.c 7,.v 0 (fun al=>rSortI (L:=nwA a0 a1 a4) Rin.nil (.c 8)),.k,.v 1 (fun al=>rC KX hS [6,0,6] 7 false (True) (fun _=>sld (q1:=(a0 20).n) (q2:=(al 0).n) (lf:=(a0 0).n) (n1:=(a0 20).n2) (n2:=(al 0).n2) (nf:=0 + 1 + 1 + 1 + 1) (L1:=tag (wp (a0 19).V) (a0 20).L) (L2:=tag   (srt     (pts       (tag         (pts             (tag               (E10                 (pts                   (List.flatMap                     (fI                       (tag (diff (pts (tag (wp (a0 19).V) (a0 20).L)) (pts (tag (wp (a0 19).V2) (a0 21).L))).snd                         (a1 0).L2))                     (tag                         (ord (pts (FL (wp (a0 19).V) (wp (a0 19).V2) (cut (30 + 1) a0 20).L (cut (30 + 1) a0 21).L))                           (a0 31).V.length)                         (a4 3).L).reverse))                 (pts (tag (wp (a0 19).V2) (a0 21).L)))               (a4 15).L)++          pts             (List.flatMap               (fI (tag (diff (pts (tag (wp (a0 19).V) (a0 20).L)) (pts (tag (wp (a0 19).V2) (a0 21).L))).fst (a1 0).L))               (tag                 (ord (pts (FL (wp (a0 19).V) (wp (a0 19).V2) (cut (30 + 1) a0 20).L (cut (30 + 1) a0 21).L))                   (a0 31).V.length)                 (a4 3).L)))         (a4 21).L)))   (al 0).L) (esf:=[ent (wv b w).params "script" t (Value.ref q),ent (wv b w).params "rounds" (a0 31).t (Value.ref (a0 31).n),  ent (wv b w).params "now" (a4 3).t (Value.ref (a4 21).n),  ent (wv b w).params "order" ((a4 3).t + 1) (Value.ref (a4 1).n)]) (slf:=(a3 4).s4) (envL:=lwE (wv b w).params a0) lw_k rfl (sl_two k0.k.1 (k0.ns k2)))),.b 2,.b 3,.b 4] fun al=>end_M2 (c:=(lwF (wv b w).params a0)) (t:=(fuT (lwE (wv b w).params a0) (sqT [] (lwE (wv b w).params a0) (retT (andT (boolP (exOf (nthS (bdAt (wv b w).params 280) 12))) (PySem.W.ZFast.zw10458482166411082596 ((boolL (exOf (nthS (bdAt (wv b w).params 280) 12))).drop 2) (lwE (wv b w).params a0)) (opT [.ref (al 1).n,.ref (al 4).n] (PySem.W.ZFast.zw9423741818375054981 .Eq (.ref (al 1).n) (.ref (al 4).n)))))))) (cs:=[((al 4).n,tupO [.ref (al 2).n,.ref (al 3).n] 0),((al 3).n,lst [] 0),((al 2).n,lst [] 0),((al 1).n,tupO [.ref (al 1).n2,.ref (al 1).n3] 0),((al 1).n2,lst ((tag (diff (pts (tag (wp (a0 19).V) (a0 20).L)) (pts (tag (srt (pts (nwA a0 a1 a4))) (al 0).L))).1 (al 1).L).map pv) (al 1).n4),((al 1).n3,lst ((tag (diff (pts (tag (wp (a0 19).V) (a0 20).L)) (pts (tag (srt (pts (nwA a0 a1 a4))) (al 0).L))).2 (al 1).L2).map pv) (al 1).n5),(q,lst vs n),((a0 5).n,cellQ (some (.ref (a0 30).n))),((a0 30).n,lst ((flA a0).map pv) 0),((a4 1).n,lst ((tag (ord (pts (flA a0)) (a0 31).V.length) (a4 3).L).map pv) (a4 3).n),((a0 0).n,_)]) (by kernel_rfl) (by kernel_rfl) rfl (by kernel_rfl) (by kernel_rfl) (by kernel_rfl) ⟨(fun hF=>trivial),(fun hF=>k0.nl k2),trivial⟩ fun hp iq hF H=>?_)
 rename Nat→Xd=>a5
 refine' go_reta (r:=true) ?h5 ?x5
 case h5=>exact fun E Q q=>cmpZ 3 0 4 5 2 1 H rfl rfl rfl rfl rfl rfl (df_1 k0.k.1 (k0.ns k2)) (df_2 k0.k.1 (k0.ns k2)) (Nat.le_of_ble_eq_true rfl) _ _ E Q q
 have k3:(flA a0).length≤1000:=Nat.le_trans (Nat.le_of_lt (FL_ok k0).2) (by decide)
 (refine' run_T2 KX Rin.nil H 4000 ⟨[6],11⟩ rfl [.k,.k,.c 10,.v 0 (fun al=>rLenL Rin.nil (.c 9) ((flA a0).length)),.k,.k,.c 7,.v 1 (fun al=>rLenL Rin.nil (.c 8) ((flA a0).length)),.v 2 (fun al=>rIeq (true))] fun al=>end_R2 (r:=(.ok (.ret (.bool true)))) (cs:=[(q,lst vs n)]) (by kernel_rfl) (by kernel_rfl) rfl (by kernel_rfl) ⟨(fun hF=>beq_self_eq_true _),(fun hF=>⟨List.length_map _,k3⟩),(fun hF=>⟨(List.length_map _).trans (ord_fol k0.f k2),k3⟩),trivial⟩ fun hp t hF H=>?_)
 exact x { xd0 with t:=_ } _ trivial H
end
noncomputable def notL (o:Obj):Bool:=match o.cls with
 | .type s => !Nat.beq (PySem.W.S.codeS s) 1970563693
 | _ => true
theorem kk_not (P:Params){a:Addr}{o:Obj}(h:(KK P).lookup a=some o):o.cls≠.type "list":=by
 have key:∀ (l:Frag),l.all (fun p=>notL p.2)=true→l.lookup a=some o→notL o=true:=by
   intro l
   induction l with
   | nil => intro _ h; cases h
   | cons p l ih =>
     intro h1 h2
     rw [List.all_cons,Bool.and_eq_true] at h1
     unfold List.lookup at h2
     split at h2
     · cases h2;exact h1.1
     · exact ih h1.2 h2
 have:=key _ (by kernel_rfl) h
 intro e
 unfold notL at this
 rw [e] at this
 exact absurd this (by decide +kernel)
theorem law_call {w:World}{s₁:Shared}{q:Addr}{vs:List Value}{ns:List Int}(K:InK KK w s₁.heap) (hS:(s₁.heap.get? sysModules).isSome=true) (hs:(q == sysModules)=false) (hq:s₁.heap.get? q=some (lst vs 0)) (hI:IntsAre vs ns) (hl:ns.length≤63){R:Result→Shared→Prop}
   (x:∀ s',(∀ b o,s₁.heap.get? b=some o→s'.heap.get? b=some o)→s'.os=s₁.os→s'.gens=s₁.gens→R (.ok (.ret (.bool true))) s'):codeAny (model prg w) callerA (.call (.ref 280) ⟨[.ref q],[]⟩) R s₁:=by
 have ct := lawR (b := w.params.followText "special-get-raises") (w := w) (g := s₁.gens) (d := s₁.drawn) (os := s₁.os) (q := q) (n := 0) (vs := vs) (fun v hv => by
   obtain ⟨i,hi⟩:=List.mem_iff_getElem?.mp hv
   obtain ⟨n,t,e,_⟩:=hI.at i v hi
   exact ⟨n,t,e⟩) (by rw [hI.length];exact hl)
 rw [wv_self] at ct
 let B:Addr→Option Obj:=fun a=>if a=q then none else s₁.heap.get? a
 have hB:∀ a o,a≠q→s₁.heap.get? a=some o→B a=some o:=fun a o h e=>by show (if a=q then none else _)=_;rw [if_neg h];exact e
 have H : Hp B s₁.heap [(q, lst vs 0)] := ⟨fun a o e => by
   have e:(if a=q then none else s₁.heap.get? a)=some o:=e
   split at e
   · cases e
   · exact e,fun p hp=>by rw [List.mem_singleton.mp hp];exact hq,fun p hp=>by rw [List.mem_singleton.mp hp];exact if_pos rfl,List.nodup_cons.mpr ⟨List.not_mem_nil,List.nodup_nil⟩⟩
 refine codeAny_weakF (A':=AF 310 (some [])) (ct.ok B s₁.heap s₁.toks R (fun a o e=>hB a o (fun z=>?_) (K a o e)) ?_ H fun u h' _ H'=>x ⟨h',s₁.gens,s₁.drawn,u.t,s₁.os⟩ (fun b o e=>?_) rfl rfl) rfl (by decide +kernel) (.inr rfl) rfl (by decide +kernel)
 · have := K a o e
   rw [z,hq] at this
   cases this
   exact kk_not _ e (by rw [lst_eq])
 · obtain ⟨o, ho⟩ := Option.isSome_iff_exists.mp hS
   rw [hB sysModules o (fun z=>by rw [z,beq_self_eq_true] at hs;cases hs) ho];rfl
 · by_cases h : b = q
   · subst h
     rw [hq] at e
     cases e
     exact H'.own _ (.head _)
   · exact H'.keep _ _ (hB b o h e)
theorem reads_mem {h:Heap}{a:Addr}{xs:List PyData}{as:List Addr}(r:Reads h (.ref a) (.list xs) as):a∈as:=by cases r;exact .head _
theorem well_lst {P:Params}{h:Heap}{a:Addr}{xs:List WData}{vs:List Value}(x:Well P h (.ref a) (.list xs)) (y:h.IsList a vs.toArray):h.get? a=some (lst vs 0):=by
 cases x with
 | list hq _ =>
   obtain ⟨o,ho,_,n,hd⟩:=y
   have e:=hq.symm.trans ho
   cases e
   cases hd
   rw [lst_eq];exact hq
theorem fin:PySem.Challenge.rw_ik0142_01.Holds:=by
 refine holds_law ws fun said=>?_
 refine holds_open (q:=vq) (loose:=[Str.ofString "_NodeInfo"]) (Xt:=fun s=>xlAt vq [] s && recOk (RowW.records PySem.Challenge.rw_ik0142_01.row.toRowW) s) (XP:=XL vq []) (Yf:=kH.obs) (Ya:=kH.val) (YP:=kH.says) (N:=4196) left_ok kH.of kH.keeps (fun s e=>xl_of s (Bool.and_eq_true_iff.mp e).1) XL.keeps (by rfl) (by rfl) (by rfl) (fun s e=>recFacts_of (Bool.and_eq_true_iff.mp e).2) (by rfl) said (by decide +kernel) ⟨rfl,rfl,rfl,rfl,rfl,by decide +kernel⟩ ?hw ?hc
 case hw=>w_witness2
 case hc =>
   intro w s₀ s₁ mg mb G Y fa o pm cd doc dV kV ho hd hcd hD hmg hg args vals as hpre hlay hrd hwl hlo
   obtain ⟨o3,es,ep,e1,e2,_,e4⟩:=G.T.g
   have e5:=(Y.1 mainGlobals _ rfl).symm.trans e1
   cases e5
   cases e2
   have e6:=(e4 _).trans hmg
   obtain rfl:fa=280:=Value.ref.inj (Option.some.inj (e6.symm.trans (by kernel_rfl)))
   have hlo2:=hlo
   wrow_args hpre hlay hrd hwl hlo
   rename Well _ _ _ _=>w1
   rename IntsAre _ _=>hI
   rename ¬ _ < _=>hc
   rename Reads _ _ _ _=>r0
   rename Heap.IsList _ _ _=>hL
   refine enter_call (law_call Y.1 Y.2 (hlo2 _ (List.mem_append_left _ (reads_mem r0))) (well_lst w1 hL) hI (by omega) fun s' k1 k2 k3=>GoodW.toG ⟨.inl ⟨_,.bool true,[],rfl,fun cls=>rfl,.bool _,?_,fun _=>⟨List.nodup_nil,fun _ h=>absurd h List.not_mem_nil⟩⟩,k1,k2,k3.trans hg⟩)
   first | rfl | wrow_post
end Mine
theorem PySem.Challenge.cw_ik0142_01_holds : PySem.Challenge.rw_ik0142_01.Holds :=
  Mine.fin
