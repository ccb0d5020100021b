import PyProof.Rows.All
import Wide.All
import OpenK.AllK
import Wide.FinOn
import Lean
import PySem.Challenge.RW_tp0042_01
set_option Elab.async false
set_option maxRecDepth 100000
set_option maxHeartbeats 0
namespace Mine
section
open PySem PySem.W PyProof.Rows
def row:OpenRow:={ PySem.Challenge.rw_tp0042_01.row with name:=Str.ofString "add",args:=[.int,.int],returns:=.int,pre:=.lit (.bool true),post:=.lit (.bool true) }
def hd.tw3354862552457803248:=()
def hd.tw13130339120466069327:=()
def hd.tw15422856539912107476:=()
def hd.tw805922575547980540:=()
def hd.tw4521311704260346916:=()
def hd.tw7736312573900173165:=()
def hd.tw13278266679757069043:=()
def hd.tw6714988634119878173:=()
def hd.tw14898615049844515872:=()
def hd.tw17042694160793651959:=()
def hd.tw9724358948501437256:=()
def hd.tw13599939671180243173:=()
def hd.tw8356816923877370021:=()
def hd.tw8934143017859847078:=()
def hd.tw7943647380988272828:=()
def hd.tw14352634086879598012:=()
def hd.tw16171809288044610508:=()
def hd.tw3442329435671937591:=()
def hd.tw10879034167726328663:=()
def hd.tw2546602858889406552:=()
def hd.tw12376432765108567712:=()
def hd.tw2867327485932766208:=()
def hd.tw17950676927832955104:=()
def hd.tw9673543361469618366:=()
def hd.tw4065347644161347641:=()
def hd.tw2274498078352570744:=()
def hd.tw2114630138375439770:=()
def hd.tw7355570028127101125:=()
def hd.tw1506431575118746342:=()
def hd.tw14457593812595234344:=()
def hd.tw9960721518486171458:=()
def hd.tw2315301623876862497:=()
def hd.tw4325921153153474475:=()
def hd.tw8428860471423672150:=()
def hd.tw1580110805410547442:=()
def hd.tw11402939732021071671:=()
def hd.tw11660266114150955751:=()
def hd.tw15595854959937240912:=()
def hd.tw12113243949977362033:=()
def hd.tw6838551448383532254:=()
def hd.tw12588582704262371052:=()
def hd.tw4402725079659364252:=()
def hd.tw8832402302947667407:=()
def hd.tw14268935582663976050:=()
def hd.tw17633055489366247791:=()
def hd.tw212345690472687942:=()
def hd.tw9427301549700849589:=()
def hd.tw18293732401869909652:=()
def hd.tw6924109203229866365:=()
def hd.tw1382963296337349011:=()
def hd.tw8932379737872766869:=()
def hd.tw14353793391729792155:=()
def hd.tw7721951785955056133:=()
def hd.tw6154236146145331571:=()
def hd.tw15508949281206285077:=()
def hd.tw7120233287515763914:=()
def hd.tw7494724483528729301:=()
def hd.tw15411387601460861337:=()
def hd.tw6982297934935202809:=()
def hd.tw6291416237084387574:=()
def hd.tw3085183777334472315:=()
def hd.tw17893044597097874663:=()
def hd.tw3182187488490625086:=()
def hd.tw15344866539931968096:=()
def hd.tw2101469004524951375:=()
def hd.tw12050417470231563642:=()
def hd.tw4278124947684190350:=()
def hd.tw13893168526513508166:=()
def hd.tw2930668341846507884:=()
def hd.tw4360684699965382250:=()
def hd.tw11652457597714270106:=()
def hd.tw1836080755315867724:=()
def hd.tw8381844023166312768:=()
def hd.tw13338143212406534295:=()
def hd.tw13958120312559236348:=()
def hd.tw611909796895871117:=()
def hd.tw10409065472786389249:=()
def hd.tw17493908284791518351:=()
def hd.tw8735263284916673568:=()
def hd.tw14960593345356199642:=()
def hd.tw1129884963351977449:=()
def hd.tw12614811148066621264:=()
def hd.tw15615537253650120727:=()
def hd.tw4845836938831722396:=()
def hd.tw6423634429210846174:=()
def hd.tw15642763164714097627:=()
def hd.tw18322514126500204803:=()
def hd.tw3480954088277226078:=()
def hd.tw16322961234291917855:=()
def hd.tw9763420282994701918:=()
def hd.tw3571134770919094901:=()
def hd.tw3694398316872202419:=()
def hd.tw13220430256171166289:=()
def hd.tw9237616624170024493:=()
def hd.tw11128854368766332075:=()
def hd.tw17869498258381001651:=()
def hd.tw14560493823538711346:=()
def hd.tw17948085552500728524:=()
def hd.tw18219297243305740317:=()
def hd.tw8977307856219701671:=()
def hd.tw3219085151875037572:=()
def hd.tw6123773746684550334:=()
def hd.tw13638418597567726942:=()
def hd.tw8228950375871286339:=()
def hd.tw6990203504111849199:=()
def hd.tw18103342009636024947:=()
def hd.tw1610171440888473627:=()
def hd.tw5559951931751713254:=()
def hd.tw6830512106363814048:=()
def hd.tw10603584201595350602:=()
def hd.tw18103739167541040201:=()
def hd.tw2837274855818539781:=()
def hd.tw14639135246785715743:=()
def hd.tw12423421440243004742:=()
def hd.tw10622549844555211094:=()
def hd.tw15040182064412255696:=()
def hd.tw7568185435610096027:=()
def hd.tw7625327780235807044:=()
def hd.tw5391431472348687022:=()
def hd.tw2350349309619206374:=()
def hd.tw8683543433012000357:=()
def hd.tw8585376936270615527:=()
def hd.tw799355135909283525:=()
def hd.tw9085318903019213062:=()
def hd.tw5416991563250132298:=()
def hd.tw1409312971732116557:=()
def hd.tw8493152586797012548:=()
def hd.tw14246236162039180721:=()
def hd.tw461538923250603899:=()
def hd.tw11251137523995926341:=()
def hd.tw5363116716869082496:=()
set_option Elab.async true in
theorem hd:row.Holds:=by
 w_on
 o_head Hook.none
 case hw=>w_witness2
 w_strict o_enter
def kL:List Nat:=(List.range 274)++(List.range 46).map (275 + ·)
noncomputable def GG:List Obj→Nat→Obj:=@List.rec Obj (fun _=>Nat→Obj) (fun _=>default) (fun o _ ih i=>@Nat.rec (fun _=>Obj) o (fun j _=>ih j) i)
noncomputable def kF (P:Params):Frag:=kL.map fun a=>(a,GG (hd.heap_1_442 P).objs.toList a)
theorem Iw (P:Params):kL=(kF P).map (·.1):=by kernel_rfl
noncomputable def hk:Hook:=kmHook kF kL Iw [274]
theorem GH (w:World) (os:OsState):hk.obs { heap:=hd.heap_1_442 w.params,toks:=738,os:=os }=hk.val w:=by kernel_rfl
theorem JB:(defOf hd.view_1_1 PySem.Challenge.rw_tp0042_01.row.name).isSome=true:=by kernel_rfl
noncomputable def JC:DefRec:=((defOf hd.view_1_1 PySem.Challenge.rw_tp0042_01.row.name).get JB).1
noncomputable abbrev Mm:List Str:=[Str.ofString "tspecials",Str.ofString "_name_disallowed_re",Str.ofString "_value_disallowed_re",Str.ofString "_formatparam"]
theorem hd2 (walk:WalkO hd.view_1_1 Mm (XL hd.view_1_1 []) hk.says PySem.Challenge.rw_tp0042_01.row.toRowW JC [] (fun f vs=>PySem.call f vs)):PySem.Challenge.rw_tp0042_01.Holds:=by
 w_on
 o_law
 rename_i said
 refine W.holds_open (q:=hd.view_1_1) (loose:=Mm) (Xt:=fun s=>xlAt hd.view_1_1 [] s && recOk PySem.Challenge.rw_tp0042_01.row.records s) (XP:=XL hd.view_1_1 []) (Yf:=hk.obs) (Ya:=hk.val) (YP:=hk.says) (N:=3742)
  (LeftO.of_pieces (open_cut (He:=fun P=>absHeap (hd.tree_1_550 P) 28 {}) hd._proof_1_556 ?le1 hd._proof_1_558) hd._proof_1_560 hd._proof_1_445 ?le2 fun w=>funext fun os=>?_)
  hk.of hk.keeps (fun s e=>xl_of s (Bool.and_eq_true_iff.mp e).1) XL.keeps (by kernel_rfl) (by kernel_rfl) (by kernel_rfl) (fun s e=>recFacts_of (Bool.and_eq_true_iff.mp e).2) rfl said (by decide +kernel) ⟨rfl,rfl,rfl,rfl,rfl,by decide +kernel⟩ ⟨[WData.list []],by decide +kernel,by decide +kernel⟩ walk
 case le1=>decide +kernel
 case le2=>decide +kernel
 have h1:=hd._proof_1_590 w os
 have h2:=GH w os
 rw [Prod.mk.injEq,Prod.mk.injEq] at h1 ⊢
 exact ⟨h1.1,h1.2.1,h2⟩
end
section
open PySem PySem.W
noncomputable abbrev Vj:Code→Sem Fin:=PySem.W.Fast.tw11892475500146522536 PySem.W.Fast.tw14364793385576792824
theorem VH:denote table=Vj:=by
 rw [table_eq_tree,PySem.W.Fast.te11892475500146522536,PySem.W.Fast.te14364793385576792824]
noncomputable abbrev Ed:=PySem.W.Fast.tw11113344188204177931
noncomputable abbrev EW:=PySem.W.Fast.tw9782568553167038054
noncomputable abbrev FP:Params→Heap:=hd.heap_1_442
noncomputable def X6 (fd:FuncData):Sem Str:=match fd.code with
 | .none=>.pure fd.qualname
 | c=>Sem.bind (field c 1) fun v=>.pure (match v with | .str q _=>q | _=>fd.qualname)
noncomputable def WK (self:Addr) (fd:FuncData) (args:Args):Sem PySem.Env:=
 Sem.bind (X6 fd) fun compiled=>Sem.bind (bindArgs fd args) fun binds=>newFunctionEnv fd.scope fd.globals fd.closure binds (compiled++".<locals>.") (some self) fd.code none fd.builtins
noncomputable def Wu (E:Sem Unit) (self:Addr) (fd:FuncData) (args:Args):Sem PySem.Fin:=
 Sem.bind (WK self fd args) fun env=>Sem.bind E fun _=>.pure (.again (match fd.body with | .stmts b=>.func b env | .expr e=>.expr e env))
noncomputable def Yj (self:Addr) (fd:FuncData) (args:Args):Sem PySem.Fin:=
 let jp:Str→Sem PySem.Fin:=fun compiled=>
  R.bindR (PySem.W.Fast.tw9782568553167038054 fd args) fun binds=>
  R.bindR (PySem.W.Fast.tw11113344188204177931 fd.scope fd.globals fd.closure binds (compiled++⟨⟨[46,60,108,111,99,97,108,115,62,46]⟩⟩) (some self) fd.code none fd.builtins) fun env=>
   .pure (.again (match fd.body with | .stmts b=>.func b env | .expr e=>.expr e env))
 match fd.code with
 | .none=>jp fd.qualname
 | c=>R.bindR (PySem.W.Fast.tw6609576154772507232 c 1) fun v=>match v with
  | .str q _=>jp q
  | _=>jp fd.qualname
noncomputable def EU (c:Code):Sem PySem.Fin:=.call c none false [] fun r=>match r with | .ok f=>.pure (.done f) | .error e=>.raise e
end
section
open PySem PySem.W PySem.W.X
noncomputable abbrev LG:Expr→Value→Value→Sem Unit:=PySem.W.Fast.tw1578499551869305889
noncomputable def Xu (a:Nat) (o:Obj):Obj:=if (match o.data with | .fields vs=>vs[0]? == some (rawInt a) | _=>false)=true then o.mapFields (fun vs=>vs.setIfInBounds 0 .none) else o
noncomputable def Wv (target:Expr) (it v:Value):Sem Unit:=match target with
 | .Tuple _ _ _=>match it with
  | .ref r=>match v with
   | .ref a=>.load r none fun o=>match o.cls with
    | .type n=>match PySem.W.Fast.tw3471404346716756564 [PySem.W.SL.s14340494229221121180x9,PySem.W.SL.s14339709457334898076x3] n with
     | true=>match o.data with
      | .fields _=>.update r none (Xu a) fun _=>.pure ()
      | _=>LG target it v
     | false=>LG target it v
    | _=>LG target it v
   | _=>LG target it v
  | _=>LG target it v
 | _=>LG target it v
theorem JD {h:Heap} {a:Nat} {o:Obj} (e:h.get? a=some o):h.objs[a]?=some o:=by
 unfold Heap.get? at e
 split at e
 ·cases e
 ·exact e
theorem Sa {h:Heap} {a:Nat} {o:Obj} {f g:Obj→Obj} (e:h.get? a=some o) (fg:f o=g o):h.update a f=h.update a g:=by
 have e:=JD e
 cases h with
 | mk objs l=>
 show (⟨objs.modify a f,l⟩:Heap)=⟨objs.modify a g,l⟩
 congr 1
 refine Array.ext (by simp) fun i h1 h2=>?_
 rw [Array.getElem_modify,Array.getElem_modify]
 split
 ·rename_i q
  subst q
  have:objs[a]'(by simpa using h1)=o:=by
   have h3:a < objs.size:=by simpa using h1
   rw [Array.getElem?_eq_getElem h3] at e
   exact Option.some.inj e
  rw [this,fg]
 ·rfl
theorem GI (h:Heap) (a:Nat):h.update a (fun o=>o)=h:=by
 cases h with
 | mk objs l=>
 show (⟨objs.modify a (fun o=>o),l⟩:Heap)=⟨objs,l⟩
 congr 1
 refine Array.ext (by simp) fun i h1 h2=>?_
 rw [Array.getElem_modify]
 split<;>rfl
section
variable {M:Model} {Γ:Ctx}
theorem JE {α β:Type} (m:Sem α) (f:α→Sem β) (Q:β→Pos→Shared→Prop) (E:Value→Pos→Shared→Prop) (p:Pos) (s:Shared) :
  Sem.wp M Γ (R.bindR m f) Q E p s=Sem.wp M Γ m (fun a p' s'=>Sem.wp M Γ (f a) Q E p' s') E p s:=by rw [← R.bindR_eq]; exact Sem.wp_bind ..
theorem UT {α:Type} (m:Sem α) (h:Value→Sem Unit) (Q:α→Pos→Shared→Prop) (E:Value→Pos→Shared→Prop) (p:Pos) (s:Shared) :
  Sem.wp M Γ (R.onRaiseR m h) Q E p s=Sem.wp M Γ m Q (fun e p' s'=>Sem.wp M Γ (h e) (fun _ p'' s''=>E e p'' s'') E p' s') p s:=by rw [← R.onRaiseR_eq]; exact Sem.wp_onRaise ..
theorem GJ (n:String) (h:[("enumerate":String),"zip"].contains n=true):["enumerate","zip","dict_itemiterator","dict_reverseitemiterator","odict_iterator","itertools.zip_longest","itertools.pairwise"].contains n=true:=by
 simp only [List.contains_cons,List.contains_nil,Bool.or_false,Bool.or_eq_true] at h ⊢
 rcases h with h | h
 ·exact .inl h
 ·exact .inr (.inl h)
theorem Rq (target:Expr) (it v:Value) (Q:Unit→Pos→Shared→Prop) (E:Value→Pos→Shared→Prop) (p:Pos) (s:Shared) (h:Sem.wp M Γ (Wv target it v) Q E p s):Sem.wp M Γ (LG target it v) Q E p s:=by
 unfold Wv at h
 split at h
 ·rename_i el kd ps
  split at h
  ·rename_i r
   split at h
   ·rename_i a
    rw [Sem.wp_load] at h
    obtain ⟨o,ho,h⟩:=h
    have back:Sem.wp M Γ (LG (.Tuple el kd ps) (.ref r) (.ref a)) Q E p s→Sem.wp M Γ (LG (.Tuple el kd ps) (.ref r) (.ref a)) Q E p s:=id
    split at h
    ·rename_i n hn
     split at h
     ·rename_i hc
      split at h
      ·rename_i vs hd
       rw [Sem.wp_update] at h
       have h:=h.2
       rw [Sem.wp_pure] at h
       show Sem.wp M Γ (PySem.W.Fast.tw1578499551869305889 _ _ _) Q E p s
       rw [← PySem.W.Fast.te1578499551869305889]
       unfold letOwnedTupleGo
       show Sem.wp M Γ (Sem.load r none _) Q E p s
       rw [Sem.wp_load]
       refine ⟨o,ho,?_⟩
       rw [← PySem.W.Fast.te3471404346716756564,← PySem.W.SL.e14340494229221121180x9,← PySem.W.SL.e14339709457334898076x3] at hc
       have hc:=GJ n hc
       dsimp only [Sem.bind]
       show Sem.wp M Γ (match o.cls,o.data with | .type n,.fields vs=>_ | _,_=>_) Q E p s
       rw [hn,hd]
       dsimp only
       rw [hc,Bool.true_and]
       by_cases q:(vs[0]? == some (rawInt a))=true
       ·rw [if_pos q]
        show Sem.wp M Γ (Sem.rule _ fun _=>Sem.load r none _) Q E p s
        rw [Sem.wp_rule,Sem.wp_load]
        refine ⟨o,ho,?_⟩
        show Sem.wp M Γ (match o.data with | .fields vs=>_ | _=>_) Q E p s
        rw [hd]
        dsimp only
        have hs:0 < vs.size:=by
         rcases Nat.eq_zero_or_pos vs.size with z | z
         ·have:vs[0]?=none:=by simp [z]
          rw [this] at q
          cases q
         ·exact z
        rw [if_pos hs]
        show Sem.wp M Γ (Sem.update r none _ _) Q E p s
        rw [Sem.wp_update,Sem.wp_pure]
        refine ⟨by rw [ho]; rfl,?_⟩
        have e:Xu a o=o.mapFields (fun vs=>vs.setIfInBounds 0 .none):=by
         unfold Xu
         rw [hd]
         dsimp only
         rw [if_pos q]
        rw [Sa ho e] at h
        exact h
       ·rw [if_neg q]
        show Sem.wp M Γ (.pure ()) Q E p s
        rw [Sem.wp_pure]
        have e:Xu a o=(fun o=>o) o:=by
         unfold Xu
         rw [hd]
         dsimp only
         rw [if_neg q]
        rw [Sa (g:=fun o=>o) ho e,GI] at h
        exact h
      ·exact h
     ·exact h
    ·exact h
   ·exact h
  ·exact h
 ·exact h
end
noncomputable def GK:PSigma fun G:(Expr→Value→Value→Sem Unit)→(Expr→Value→List Stmt→List Stmt→Env→Sem PySem.Fin)=>G LG=PySem.W.Fast.tw15207555903498437823:=by
 delta PySem.W.Fast.tw15207555903498437823 LG
 refine ⟨?G,?h⟩
 case h=>
  generalize PySem.W.Fast.tw1578499551869305889=lg
  exact rfl
noncomputable def Ii:PSigma fun G:(Expr→Value→Value→Sem Unit)→(Expr→Nat→Value→Value→Env→Sem PySem.Fin)=>G LG=PySem.W.Fast.tw1180062409338748621:=by
 delta PySem.W.Fast.tw1180062409338748621 LG
 refine ⟨?G,?h⟩
 case h=>
  generalize PySem.W.Fast.tw1578499551869305889=lg
  exact rfl
noncomputable def JF:=GK.1
noncomputable def Ou:=Ii.1
noncomputable def hF (env:Env) (x:Value):Sem Unit:=R.bindR (PySem.W.Fast.tw17872113653443481271 x env) fun _=>PySem.W.Fast.tw1623429502029203251 x
noncomputable def Ww (c:Code):Sem PySem.Fin:=match c with
 | .forLoop target it body orelse env=>R.onRaiseR (JF Wv target it body orelse env) (hF env)
 | .compLoop e depth it acc env=>match (Code.compLoop e depth it acc env).isFrame with
  | true=>Vj (.compLoop e depth it acc env)
  | false=>R.onRaiseR (Ou Wv e depth it acc env) (hF env)
 | c=>Vj c
section
variable {M:Model} {Γ:Ctx}
theorem XA {α β:Type} (m:Sem α) (f:α→Sem β) (Q:β→Pos→Shared→Prop) (E:Value→Pos→Shared→Prop) (p:Pos) (s:Shared) :
  Sem.wp M Γ (@bind Sem PySem.W.Fast.tw12456147031677567982.toBind α β m f) Q E p s=Sem.wp M Γ m (fun a p' s'=>Sem.wp M Γ (f a) Q E p' s') E p s:=JE ..
theorem Ix (target:Expr) (it:Value) (body orelse:List Stmt) (env:Env) (Q:PySem.Fin→Pos→Shared→Prop) (E:Value→Pos→Shared→Prop) (p:Pos) (s:Shared) (h:Sem.wp M Γ (JF Wv target it body orelse env) Q E p s) :
  Sem.wp M Γ (PySem.W.Fast.tw15207555903498437823 target it body orelse env) Q E p s:=by
 unfold JF GK id at h
 dsimp only at h
 unfold PySem.W.Fast.tw15207555903498437823
 rw [XA] at h ⊢
 refine Sem.wp_mono M Γ _ (fun _ p s h=>?_) (fun _ _ _ h=>h) p s h
 rw [XA] at h ⊢
 refine Sem.wp_mono M Γ _ (fun o p s h=>?_) (fun _ _ _ h=>h) p s h
 cases o with
 | none=>exact h
 | some v=>
  dsimp only at h ⊢
  rw [XA] at h ⊢
  exact Rq _ _ _ _ _ _ _ h
theorem JG (e:Expr) (depth:Nat) (it acc:Value) (env:Env) (Q:PySem.Fin→Pos→Shared→Prop) (E:Value→Pos→Shared→Prop) (p:Pos) (s:Shared) (h:Sem.wp M Γ (Ou Wv e depth it acc env) Q E p s) :
  Sem.wp M Γ (PySem.W.Fast.tw1180062409338748621 e depth it acc env) Q E p s:=by
 unfold Ou Ii id at h
 dsimp only at h
 unfold PySem.W.Fast.tw1180062409338748621
 dsimp only at h ⊢
 split
 ·rename_i g hg
  rw [hg] at h
  dsimp only at h
  rw [XA] at h ⊢
  refine Sem.wp_mono M Γ _ (fun _ p s h=>?_) (fun _ _ _ h=>h) p s h
  have tail:∀ (R:Sem PySem.Fin) (v:Value) (p:Pos) (s:Shared),Sem.wp M Γ (@bind Sem PySem.W.Fast.tw12456147031677567982.toBind _ _ (Wv g.target it v) fun _=>R) Q E p s→Sem.wp M Γ (@bind Sem PySem.W.Fast.tw12456147031677567982.toBind _ _ (PySem.W.Fast.tw1578499551869305889 g.target it v) fun _=>R) Q E p s:=fun R v p s h=>by
   rw [XA] at h ⊢
   exact Rq _ _ _ _ _ _ _ h
  split
  ·rename_i ha
   rw [if_pos ha] at h
   rw [XA] at h ⊢
   refine Sem.wp_mono M Γ _ (fun o p s h=>?_) (fun _ _ _ h=>h) p s h
   cases o with
   | none=>exact h
   | some v=>exact tail _ _ _ _ h
  ·rename_i ha
   rw [if_neg ha] at h
   rw [XA] at h ⊢
   refine Sem.wp_mono M Γ _ (fun o p s h=>?_) (fun _ _ _ h=>h) p s h
   cases o with
   | none=>exact h
   | some v=>exact tail _ _ _ _ h
 ·rename_i hg
  revert h
  split
  ·rename_i g q
   exact absurd q (hg g)
  ·exact id
theorem Iy (c:Code) (Q:PySem.Fin→Pos→Shared→Prop) (E:Value→Pos→Shared→Prop) (p:Pos) (s:Shared) (h:Sem.wp M Γ (Ww c) Q E p s):Sem.wp M Γ (Vj c) Q E p s:=by
 unfold Ww at h
 split at h
 ·show Sem.wp M Γ (R.onRaiseR (PySem.W.Fast.tw15207555903498437823 _ _ _ _ _) (hF _)) Q E p s
  rw [UT] at h ⊢
  exact Ix _ _ _ _ _ _ _ _ _ h
 ·rename_i e depth it acc env
  split at h
  ·exact h
  ·rename_i hf
   show Sem.wp M Γ (if (Code.compLoop e depth it acc env).isFrame=true then _ else R.onRaiseR (PySem.W.Fast.tw1180062409338748621 e depth it acc env) (hF env)) Q E p s
   rw [if_neg (by rw [hf]; decide)]
   rw [UT] at h ⊢
   exact JG _ _ _ _ _ _ _ _ _ h
 ·exact h
end
theorem ZE (a:Nat) (c:Value) (d:Option Addr) (vs:List Value) (sl:Array (Option Value)):Xu a ⟨c,d,.fields ⟨.int (a:Int) 0::vs⟩,sl⟩=⟨c,d,.fields ⟨.none::vs⟩,sl⟩:=by
 unfold Xu
 dsimp only
 rw [if_pos (by simp [rawInt])]
 show (⟨c,d,.fields ((⟨.int (a:Int) 0::vs⟩:Array Value).setIfInBounds 0 .none),sl⟩:Obj)=_
 congr 2
end
section
open PySem PySem.W PySem.W.X PySem.Calls PyProof.Rows PySem.Spec
noncomputable abbrev ZA:=List (Addr × Obj)
noncomputable abbrev PP:Program:=PySem.Challenge.pw_tp0042_01
noncomputable def XV (a:Nat):Bool:=match Nat.blt a 321 with
 | true=>match Nat.beq a 274 with
  | true=>false
  | false=>match Nat.beq a 19 with
   | true=>false
   | false=>match Nat.beq a 123 with
    | true=>false
    | false=>match Nat.beq a 128 with
     | true=>false
     | false=>match Nat.beq a 133 with
      | true=>false
      | false=>true
 | false=>false
noncomputable def F5:List Obj→Nat→Obj:=@List.rec Obj (fun _=>Nat→Obj) (fun _=>default) (fun o _ ih i=>@Nat.rec (fun _=>Obj) o (fun j _=>ih j) i)
noncomputable def lkB (P:Params) (a:Nat):Obj:=F5 (FP P).objs.toList a
structure BaseOk (P:Params) (h:Heap):Prop where
 objs:∀ a,XV a=true→h.get? a=some (lkB P a)
 lim:h.NoLimit
structure Holds (P:Params) (RO M:ZA) (h:Heap):Prop where
 base:BaseOk P h
 ro:∀ p∈RO,h.get? p.1=some p.2
 at_:∀ p∈M,h.get? p.1=some p.2
 nd:(M.map (·.1)).Nodup
 offB:∀ p∈M,XV p.1=false
 offR:∀ p∈M,p.1∉RO.map (·.1)
structure Ext (M:ZA) (h:Heap) (M':ZA) (h':Heap):Prop where
 keep:∀ a o,h.get? a=some o→a∉M.map (·.1)→h'.get? a=some o
 fresh:∀ p∈M',p.1∈M.map (·.1)∨h.objs.size≤p.1
 size:h.objs.size≤h'.objs.size
noncomputable def Z2 (D:Nat):Around:={ handled:=none,depth:=D,frames:=none,guards:=none,units:=10 * D }
noncomputable def Zg (c:Code):Prop:=∀ args,c≠.builtin "claim.caller" args
noncomputable def ZD (w:World) (RO:ZA) (D:Nat) (c:Code) (M:ZA) (K:Result→ZA→Prop):Prop:=
 ∀ (h:Heap) (g:Array GenState) (d:Drawn) (t:Nat) (os:OsState) (R:Result→Shared→Prop),0 < t→Holds w.params RO M h→
  (∀ r M' h' g' t',0 < t'→K r M'→Holds w.params RO M' h'→Ext M h M' h'→(AllBare g→AllBare g')→R r ⟨h',g',d,t',os⟩)→
  codeAny (model PP w) (Z2 D) c R ⟨h,g,d,t,os⟩
structure Con where
 code:Code
 mem:ZA
 r:(Nat→Nat)→Result
 upd:(Nat→Nat)→List Obj
 new:(Nat→Nat)→ZA
 newR:(Nat→Nat)→ZA:=fun _=>[]
noncomputable def Xv:ZA→List Obj→ZA:=@List.rec (Addr × Obj) (fun _=>List Obj→ZA) (fun _=>[]) (fun p _ ih us=>@List.rec Obj (fun _=>ZA) [] (fun o us' _=>(p.1,o)::ih us') us)
noncomputable def Con.post (C:Con) (r:Result) (M':ZA):Prop:=∃ ρ,r=C.r ρ∧M'=C.newR ρ++(C.new ρ++Xv C.mem (C.upd ρ))∧(C.upd ρ).length=C.mem.length
noncomputable def Con.ok (w:World) (RO:ZA) (D:Nat) (C:Con):Prop:=ZD w RO D C.code C.mem C.post
structure LX where
 vals:Nat→List Value
 ns:Nat→List (List Nat)
 cells:Nat→ZA
structure KF where
 code:Code
 k:Result→Sem PySem.Fin
noncomputable def Yd:ZA→Nat→Option (Addr × Obj):=@List.rec (Addr × Obj) (fun _=>Nat→Option (Addr × Obj)) (fun _=>none) (fun p _ ih i=>@Nat.rec (fun _=>Option (Addr × Obj)) (some p) (fun j _=>ih j) i)
noncomputable def Xk:ZA→Nat→Obj→ZA:=@List.rec (Addr × Obj) (fun _=>Nat→Obj→ZA) (fun _ _=>[]) (fun p M ih i o=>@Nat.rec (fun _=>ZA) ((p.1,o)::M) (fun j _=>p::ih j o) i)
noncomputable def Z9 (M:ZA):List Nat→Option ZA:=@List.rec Nat (fun _=>Option ZA) (some []) (fun i _ ih=>match Yd M i,ih with | some p,some l=>some (p::l) | _,_=>none)
noncomputable def Yb (M:ZA):List Nat→List Obj→ZA:=@List.rec Nat (fun _=>List Obj→ZA) (fun _=>M) (fun i _ ih us=>@List.rec Obj (fun _=>ZA) (ih []) (fun o us' _=>Xk (ih us') i o) us)
noncomputable def V7:ZA→List Bool→ZA:=@List.rec (Addr × Obj) (fun _=>List Bool→ZA) (fun _=>[]) (fun p _ ih bs=>@List.rec Bool (fun _=>ZA) [] (fun b bs' _=>@Bool.rec (fun _=>ZA) (ih bs') (p::ih bs') b) bs)
noncomputable def Vk (a:Nat):List Nat→Bool
 | []=>false
 | b::l=>match Nat.beq a b with | true=>true | false=>Vk a l
noncomputable def Xw:List Nat→Bool
 | []=>true
 | a::l=>match Vk a l with | true=>false | false=>Xw l
noncomputable def V8 (l:List Nat):List Nat→Bool
 | []=>true
 | a::r=>match Vk a l with | true=>false | false=>V8 l r
noncomputable def Z0 (w:World) (RO:ZA) (D:Nat) (a:Nat) (o:Obj):Prop:=
 ∀ (h:Heap) (g:Array GenState) (d:Drawn) (t:Nat) (os:OsState) (Q:Value→Shared→Prop) (E:Value→Shared→Prop) (c:Code),Zg c→0 < t→Holds w.params RO [(a,o)] h→
  (∀ h' g' t',0 < t'→Holds w.params RO [(a,o)] h'→Ext [(a,o)] h [(a,o)] h'→(AllBare g→AllBare g')→Q (.ref a) ⟨h',g',d,t',os⟩)→
  wpOwn (model PP w) (Z2 D) c (pyIter (.ref a)) Q E ⟨h,g,d,t,os⟩
noncomputable def Ij (w:World):Nat→Sem PySem.Fin→Sem PySem.Fin:=@Nat.rec (fun _=>Sem PySem.Fin→Sem PySem.Fin) (fun t=>t) (fun _ ih t=>match t with
 | .rule _ k=>ih (k ())
 | .at _ k=>ih (k ())
 | .point _ k=>ih (k ())
 | .ask k=>ih (k ⟨PP,w.params⟩)
 | t=>t)
end
section
open PySem PySem.W PySem.W.X PySem.Calls PyProof.Rows
theorem Zp:∀ {M:ZA} {i:Nat} {p:Addr × Obj},Yd M i=some p→p∈M
 | [],_,_,h=>by cases h
 | q::M,0,p,h=>by cases h; exact .head _
 | q::M,i + 1,p,h=>.tail _ (Zp (M:=M) (i:=i) h)
theorem Vl:∀ (M:ZA) (i:Nat) (o:Obj),(Xk M i o).map (·.1)=M.map (·.1)
 | [],_,_=>rfl
 | p::M,0,o=>rfl
 | p::M,i + 1,o=>by
  show p.1::(Xk M i o).map (·.1)=_
  rw [Vl M i o]; rfl
theorem WL:∀ {M:ZA} {i:Nat} {p:Addr × Obj} {o:Obj},Yd M i=some p→(M.map (·.1)).Nodup→∀ q∈Xk M i o,q=(p.1,o)∨(q∈M∧q.1≠p.1)
 | [],_,_,_,h,_,_,_=>by cases h
 | x::M,0,p,o,h,nd,q,hq=>by
  cases h
  rw [List.map_cons,List.nodup_cons] at nd
  cases hq with
  | head=>exact .inl rfl
  | tail _ hq=>exact .inr ⟨.tail _ hq,fun e=>nd.1 (e▸List.mem_map_of_mem hq)⟩
 | x::M,i + 1,p,o,h,nd,q,hq=>by
  rw [List.map_cons,List.nodup_cons] at nd
  have hp:p∈M:=Zp (M:=M) (i:=i) h
  cases hq with
  | head=>exact .inr ⟨.head _,fun e=>nd.1 (e▸List.mem_map_of_mem hp)⟩
  | tail _ hq=>
   rcases WL (M:=M) (i:=i) (o:=o) h nd.2 q hq with e | ⟨e,z⟩
   ·exact .inl e
   ·exact .inr ⟨.tail _ e,z⟩
theorem Ov:∀ {M:ZA} {i:Nat} {o:Obj} (q:Addr × Obj),q∈Xk M i o→q∈M∨∃ p,Yd M i=some p∧q=(p.1,o)
 | [],_,_,_,h=>by cases h
 | x::M,0,o,q,hq=>by
  cases hq with
  | head=>exact .inr ⟨x,rfl,rfl⟩
  | tail _ hq=>exact .inl (.tail _ hq)
 | x::M,i + 1,o,q,hq=>by
  cases hq with
  | head=>exact .inl (.head _)
  | tail _ hq=>
   rcases Ov (M:=M) (i:=i) q hq with e | ⟨p,e,z⟩
   ·exact .inl (.tail _ e)
   ·exact .inr ⟨p,e,z⟩
theorem Vm:∀ {M:ZA} {i:Nat} {p:Addr × Obj},Yd M i=some p→Xk M i p.2=M
 | [],_,_,h=>by cases h
 | x::M,0,p,h=>by cases h; rfl
 | x::M,i + 1,p,h=>by
  show x::Xk M i p.2=_
  rw [Vm (M:=M) (i:=i) h]
theorem W7:∀ (M:ZA) (bs:List Bool),(V7 M bs).Sublist M
 | [],_=>List.Sublist.slnil
 | p::M,[]=>List.nil_sublist _
 | p::M,true::bs=>(W7 M bs).cons_cons p
 | p::M,false::bs=>(W7 M bs).cons p
theorem F6 (M:ZA):Z9 M []=some []:=rfl
theorem Vn (M:ZA) (i:Nat) (l:List Nat):Z9 M (i::l)=match Yd M i,Z9 M l with | some p,some l=>some (p::l) | _,_=>none:=rfl
theorem WZ {M:ZA} {i:Nat} {l:List Nat} {N:ZA} (h:Z9 M (i::l)=some N):∃ p N',Yd M i=some p∧Z9 M l=some N'∧N=p::N':=by
 rw [Vn] at h
 cases hp:Yd M i with
 | none=>rw [hp] at h; cases h
 | some p=>
  cases hl:Z9 M l with
  | none=>rw [hp,hl] at h; cases h
  | some N'=>rw [hp,hl] at h; cases h; exact ⟨p,N',rfl,rfl,rfl⟩
theorem Xx:∀ {l:List Nat} {M N:ZA},Z9 M l=some N→∀ p∈N,p∈M
 | [],_,_,h,p,hp=>by cases h; cases hp
 | i::l,M,N,h,p,hp=>by
  obtain ⟨q,N',h1,h2,rfl⟩:=WZ h
  cases hp with
  | head=>exact Zp h1
  | tail _ hp=>exact Xx h2 p hp
theorem XK:∀ {M:ZA},(M.map (·.1)).Nodup→∀ {i j:Nat} {p q:Addr × Obj},Yd M i=some p→Yd M j=some q→p.1=q.1→i=j
 | [],_,_,_,_,_,h,_,_=>by cases h
 | x::M,nd,i,j,p,q,hi,hj,e=>by
  rw [List.map_cons,List.nodup_cons] at nd
  cases i with
  | zero=>
   cases j with
   | zero=>rfl
   | succ j=>
    cases hi
    exact absurd (e▸List.mem_map_of_mem (Zp (M:=M) (i:=j) hj)) nd.1
  | succ i=>
   cases j with
   | zero=>
    cases hj
    exact absurd (e▸List.mem_map_of_mem (Zp (M:=M) (i:=i) hi)) nd.1
   | succ j=>rw [XK (M:=M) nd.2 (i:=i) (j:=j) hi hj e]
theorem UV:∀ {a:Nat} {l:List Nat},Vk a l=true↔a∈l
 | a,[]=>⟨fun h=>(by cases h),fun h=>(by cases h)⟩
 | a,b::l=>by
  unfold Vk
  cases h:Nat.beq a b with
  | true=>exact ⟨fun _=>by rw [Nat.eq_of_beq_eq_true h]; exact .head _,fun _=>rfl⟩
  | false=>
   show Vk a l=true↔_
   rw [UV]
   refine ⟨fun x=>.tail _ x,fun x=>?_⟩
   cases x with
   | head=>rw [Nat.beq_refl] at h; cases h
   | tail _ x=>exact x
theorem UU:∀ {l:List Nat},Xw l=true→l.Nodup
 | [],_=>List.nodup_nil
 | a::l,h=>by
  unfold Xw at h
  cases q:Vk a l with
  | true=>rw [q] at h; cases h
  | false=>
   rw [q] at h
   exact List.nodup_cons.mpr ⟨fun x=>(by rw [UV.mpr x] at q; cases q),UU h⟩
theorem Rr:∀ {l r:List Nat},V8 l r=true→∀ i∈l,∀ j∈r,i≠j
 | l,[],_,_,_,_,hj=>by cases hj
 | l,a::r,h,i,hi,j,hj=>by
  unfold V8 at h
  cases q:Vk a l with
  | true=>rw [q] at h; cases h
  | false=>
   rw [q] at h
   cases hj with
   | head=>rintro rfl; rw [UV.mpr hi] at q; cases q
   | tail _ hj=>exact Rr h i hi j hj
theorem V9:∀ {l:List Nat} {M N:ZA},Z9 M l=some N→∀ p∈N,∃ i∈l,Yd M i=some p
 | [],_,_,h,p,hp=>by cases h; cases hp
 | i::l,M,N,h,p,hp=>by
  obtain ⟨q,N',h1,h2,rfl⟩:=WZ h
  cases hp with
  | head=>exact ⟨i,.head _,h1⟩
  | tail _ hp=>obtain ⟨j,hj,e⟩:=V9 h2 p hp; exact ⟨j,.tail _ hj,e⟩
theorem OQ:∀ {l:List Nat} {M N:ZA},(M.map (·.1)).Nodup→l.Nodup→Z9 M l=some N→(N.map (·.1)).Nodup
 | [],_,_,_,_,h=>by cases h; exact List.nodup_nil
 | i::l,M,N,nd,dl,h=>by
  obtain ⟨q,N',h1,h2,rfl⟩:=WZ h
  rw [List.nodup_cons] at dl
  rw [List.map_cons,List.nodup_cons]
  refine ⟨fun hm=>?_,OQ nd dl.2 h2⟩
  obtain ⟨p,hp,e⟩:=List.mem_map.mp hm
  obtain ⟨j,hj,z⟩:=V9 h2 p hp
  exact dl.1 ((XK nd h1 z e.symm)▸hj)
theorem XB (M:ZA):∀ (l:List Nat) (us:List Obj),(Yb M l us).map (·.1)=M.map (·.1)
 | [],_=>rfl
 | i::l,[]=>XB M l []
 | i::l,u::us=>by
  show (Xk (Yb M l us) i u).map (·.1)=_
  rw [Vl,XB M l us]
theorem OR:∀ {M M':ZA},M.map (·.1)=M'.map (·.1)→∀ {i:Nat} {p:Addr × Obj},Yd M i=some p→∃ o,Yd M' i=some (p.1,o)
 | [],M',_,_,_,h=>by cases h
 | x::M,[],e,_,_,_=>by cases e
 | x::M,y::M',e,0,p,h=>by
  cases h
  rw [List.map_cons,List.map_cons] at e
  exact ⟨y.2,by show some y=_; rw [(List.cons.inj e).1]⟩
 | x::M,y::M',e,i + 1,p,h=>by
  rw [List.map_cons,List.map_cons] at e
  exact OR (M:=M) (M':=M') (List.cons.inj e).2 (i:=i) h
theorem U3 {M:ZA} (nd:(M.map (·.1)).Nodup):∀ {l:List Nat} {us:List Obj} {N:ZA},Z9 M l=some N→us.length=N.length→∀ q∈Yb M l us,q∈Xv N us∨(q∈M∧q.1∉N.map (·.1))
 | [],us,N,h,_,q,hq=>by cases h; exact .inr ⟨hq,fun x=>by cases x⟩
 | i::l,[],N,h,hl,q,hq=>by
  obtain ⟨p,N',h1,h2,rfl⟩:=WZ h
  cases hl
 | i::l,u::us,N,h,hl,q,hq=>by
  obtain ⟨p,N',h1,h2,rfl⟩:=WZ h
  have hl':us.length=N'.length:=Nat.succ.inj hl
  have hq':q∈Xk (Yb M l us) i u:=hq
  obtain ⟨o,ho⟩:=OR (XB M l us).symm h1
  have nd':((Yb M l us).map (·.1)).Nodup:=by rw [XB]; exact nd
  rcases WL ho nd' q hq' with e | ⟨e,z⟩
  ·exact .inl (by rw [e]; exact .head _)
  ·rcases U3 nd h2 hl' q e with y | ⟨y,x⟩
   ·exact .inl (.tail _ y)
   ·refine .inr ⟨y,fun hm=>?_⟩
    rw [List.map_cons,List.mem_cons] at hm
    rcases hm with e' | e'
    ·exact z e'
    ·exact x e'
theorem W8:∀ {N:ZA} {us:List Obj},us.length=N.length→(Xv N us).map (·.1)=N.map (·.1)
 | [],_,_=>rfl
 | p::N,[],h=>by cases h
 | p::N,u::us,h=>by
  show p.1::(Xv N us).map (·.1)=_
  rw [W8 (Nat.succ.inj h)]; rfl
theorem Wa {c:Code} (h:Zg c):c.weight≤5:=by
 have hk:c.isCaller=false:=by
  unfold Code.isCaller
  split
  ·rename_i args; exact absurd rfl (h args)
  ·rfl
 have hf:c.frames≤3:=by
  unfold Code.frames
  split<;>(try split)<;>omega
 unfold Code.weight
 rw [hk]
 cases c.isCreation<;>cases c.isGuard<;>simp<;>omega
theorem VW (c:Code):c.cUnits≤10:=by
 have hf:c.frames≤3:=by
  unfold Code.frames
  split<;>(try split)<;>omega
 unfold Code.cUnits
 split<;>omega
structure ALe (A A':Around):Prop where
 handled:A.handled=A'.handled
 depth:A.depth≤A'.depth
 frames:A'.frames=none
 guards:A'.guards=none
 units:A.units≤A'.units
theorem Xy {Γ:Ctx} {A A':Around} (h:ALe A A') (x:Γ.Below A):Γ.Below A':=
 ⟨x.1.trans h.handled,Nat.le_trans x.2.1 h.depth,fun l e=>by (rw [h.frames] at e; cases e),fun l e=>by (rw [h.guards] at e; cases e),Nat.le_trans x.2.2.2.2 h.units⟩
theorem Yp {M:Model} {A A':Around} {c:Code} {R:Result→Shared→Prop} {s:Shared} (h:ALe A A') (x:codeAny M A' c R s):codeAny M A c R s:=
 fun Γ p hc hΓ=>x Γ p hc (Xy h hΓ)
theorem GF (es:List PySem.Env):pushEnvs es none=none:=by cases es<;>rfl
theorem Ik (cs:List Code):pushGuards cs none=none:=by cases cs<;>rfl
theorem JH {D D':Nat} {c:Code} (h:Zg c) (hd:D + 5≤D'):ALe (((Z2 D).under c).mark none) (Z2 D'):=by
 have hw:=Wa h
 have hu:=VW c
 refine ⟨rfl,?_,rfl,rfl,?_⟩
 ·show D + c.weight≤D'
  omega
 ·show 10 * D + c.cUnits≤10 * D'
  omega
theorem Yy {D D':Nat} (hd:D≤D'):ALe (Z2 D) (Z2 D'):=⟨rfl,hd,rfl,rfl,by show 10 * D≤10 * D'; omega⟩
theorem ZD.mono {w:World} {RO:ZA} {D:Nat} {c:Code} {M:ZA} {K K':Result→ZA→Prop} (x:ZD w RO D c M K) (h:∀ r M',K r M'→K' r M'):ZD w RO D c M K':=
 fun hp g d t os R ht hM hR=>x hp g d t os R ht hM fun r M' h' g' t' ht' k=>hR r M' h' g' t' ht' (h r M' k)
theorem ZD.deep {w:World} {RO:ZA} {D D':Nat} {c:Code} {M:ZA} {K:Result→ZA→Prop} (x:ZD w RO D' c M K) (h:D≤D'):ZD w RO D c M K:=
 fun hp g d t os R ht hM hR=>Yp (Yy h) (x hp g d t os R ht hM hR)
theorem Ow (args:Args):∃ x,Ww (.builtin "claim.caller" args) = .unsupported x:=by
 show ∃ x,Vj (.builtin "claim.caller" args) = .unsupported x
 rw [← VH]
 have h:entryFor table "claim.caller"=none:=by
  have:(entryFor table "claim.caller").isNone=true:=by
   rw [table_eq_tree]
   decide +kernel
  simpa using this
 have e:denote table (.builtin "claim.caller" args)=(match entryFor table "claim.caller" with | some b=>b args | none=>unsupported ((withoutEnding? "claim.caller" "#data").getD "claim.caller")):=by
  rw [denote]
  generalize entryFor table "claim.caller"=o
  cases o<;>rfl
 refine ⟨(withoutEnding? "claim.caller" "#data").getD "claim.caller",e.trans ?_⟩
 generalize entryFor table "claim.caller"=o at h
 subst h
 rfl
theorem XT {α β γ:Type} (x:Sem α) (f:α→Sem β) (g:β→Sem γ):Sem.bind (Sem.bind x f) g=Sem.bind x (fun a=>Sem.bind (f a) g):=bind_assoc x f g
theorem Qg:Yj=Wu (.pure ()):=by
 funext self fd args
 unfold Yj Wu WK X6
 rw [← PySem.W.Fast.te9782568553167038054,← PySem.W.Fast.te11113344188204177931,← PySem.W.Fast.te6609576154772507232,← PySem.W.R.bindR_eq]
 simp only [XT]
 cases fd.code
 case none=>rfl
 all_goals (
  dsimp only
  rw [XT]
  refine congrArg (Sem.bind _) (funext fun v=>?_)
  cases v<;>rfl)
theorem U4 (self:Addr) (fd:FuncData) (args:Args) (hg:fd.scope.isGenerator=false) (hc:fd.scope.isCoroutine=false):callFunction self fd args=Wu enterFrame self fd args:=by
 unfold callFunction Wu WK X6
 rw [hg,hc]
 simp only [XT]
 cases fd.code
 case none=>rfl
 all_goals (
  dsimp only
  rw [XT]
  refine congrArg (Sem.bind _) (funext fun v=>?_)
  cases v<;>rfl)
theorem Qh {w:World} {A:Around} {c:Code} {Q:PySem.Fin→Shared→Prop} {E:Value→Shared→Prop} {s:Shared} {B:Heap→Prop} (hB:∀ h,B h→h.NoLimit) {self:Addr} {fd:FuncData} {args:Args} (hg:fd.scope.isGenerator=false) (hc:fd.scope.isCoroutine=false)
  (hd:(A.under c).depth < recursionLimit) (h:wpOwn (model PP w) A c (Yj self fd args) (fun fin s'=>Q fin s'∧B s'.heap) E s):wpOwn (model PP w) A c (callFunction self fd args) (fun fin s'=>Q fin s'∧B s'.heap) E s:=by
 rw [U4 self fd args hg hc]
 rw [Qg] at h
 unfold Wu at h ⊢
 intro Γ p hΓc hΓ
 have z:=h Γ p hΓc hΓ
 rw [Sem.wp_bind] at z ⊢
 refine Sem.wp_mono _ Γ _ (fun env p' s' y=>?_) (fun _ _ _ y=>y) p s z
 have y':Q (.again (match fd.body with | .stmts b=>.func b env | .expr e=>.expr e env)) s'∧B s'.heap:=y
 have x:wpAny (model PP w) (A.under c) (enterFrame >>= fun _=>again (match fd.body with | .stmts b=>.func b env | .expr e=>.expr e env)) (fun fin s'=>Q fin s'∧B s'.heap) E s':=
  wpAny_bind (wpAny_enterFrame (hB _ y'.2) hd (wpAny_pure y'))
 exact x Γ p' (hΓc▸hΓ.in)
theorem Vo (f:Addr) (args:Args):denote table (.call (.ref f) args)=callAny (.ref f) args:=rfl
theorem VX {w:World} {A:Around} {Q:PySem.Fin→Shared→Prop} {E:Value→Shared→Prop} {s:Shared} {B:Heap→Prop} (hB:∀ h,B h→h.NoLimit) {f:Addr} {o:Obj} {fd:FuncData} {args:Args} (ho:s.heap.get? f=some o) (hf:o.data = .func fd) (hg:fd.scope.isGenerator=false) (hc:fd.scope.isCoroutine=false)
  (hd:(A.under (.call (.ref f) args)).depth < recursionLimit) (h:wpOwn (model PP w) A (.call (.ref f) args) (Yj f fd args) (fun fin s'=>Q fin s'∧B s'.heap) E s) :
  wpOwn (model PP w) A (.call (.ref f) args) (denote table (.call (.ref f) args)) (fun fin s'=>Q fin s'∧B s'.heap) E s:=by
 rw [Vo]
 unfold callAny
 refine wpOwn_bind (m:=load f) (wpOwn_of_wpAny (wpAny_load ho ?_))
 rw [hf]
 exact Qh hB hg hc hd h
theorem Ox:XV cStatics=true:=by decide +kernel
theorem JI {a:Nat} (h:¬ XV a=true):XV a=false:=by cases q:XV a<;>simp_all
theorem OS {a b:Nat} (h:XV a=false) (e:b=a) (hb:XV b=true):False:=by rw [e,h] at hb; cases hb
theorem Holds.lt {P:Params} {RO M:ZA} {h:Heap} (H:Holds P RO M h):∀ p∈M,p.1 < h.objs.size:=fun p hp=>Heap.lt_size (H.at_ p hp)
theorem Holds.alloc {P:Params} {RO M:ZA} {h:Heap} (H:Holds P RO M h) {o:Obj} (hf:o.isFreed=false):Holds P RO ((h.objs.size,o)::M) (h.push o):=by
 refine ⟨⟨fun a ha=>Heap.get?_push_of_some _ (H.base.objs a ha),H.base.lim.push o⟩,fun p hp=>Heap.get?_push_of_some _ (H.ro p hp),fun p hp=>?_,?_,fun p hp=>?_,fun p hp=>?_⟩
 ·cases hp with
  | head=>exact Heap.get?_push_size _ hf
  | tail _ hp=>exact Heap.get?_push_of_some _ (H.at_ p hp)
 ·rw [List.map_cons,List.nodup_cons]
  refine ⟨fun hm=>?_,H.nd⟩
  obtain ⟨p,hp,e⟩:=List.mem_map.mp hm
  exact absurd (H.lt p hp) (by rw [e]; exact Nat.lt_irrefl _)
 ·cases hp with
  | head=>exact JI fun hm=>absurd (Heap.lt_size (H.base.objs _ hm)) (Nat.lt_irrefl _)
  | tail _ hp=>exact H.offB p hp
 ·cases hp with
  | head=>
   intro hm
   obtain ⟨p,hp,e⟩:=List.mem_map.mp hm
   exact absurd (Heap.lt_size (H.ro p hp)) (by rw [e]; exact Nat.lt_irrefl _)
  | tail _ hp=>exact H.offR p hp
theorem Ext.alloc {Ms M:ZA} {hs h:Heap} (E:Ext Ms hs M h) (o:Obj):Ext Ms hs ((h.objs.size,o)::M) (h.push o):=by
 refine ⟨fun a o' e q=>Heap.get?_push_of_some _ (E.keep a o' e q),fun p hp=>?_,by rw [Heap.size_push]; exact Nat.le_succ_of_le E.size⟩
 cases hp with
 | head=>exact .inr E.size
 | tail _ hp=>exact E.fresh p hp
theorem Holds.update {P:Params} {RO M:ZA} {h:Heap} (H:Holds P RO M h) {i:Nat} {p:Addr × Obj} {f:Obj→Obj} (hi:Yd M i=some p) (hf:(f p.2).isFreed=false):Holds P RO (Xk M i (f p.2)) (h.update p.1 f):=by
 have hs:Heap.SameBut p.1 h (h.update p.1 f):=Heap.SameBut.update ..
 have hp:=Zp hi
 have ho:=H.at_ p hp
 have other:∀ a o,h.get? a=some o→a≠p.1→(h.update p.1 f).get? a=some o:=fun a o e q=>(hs.2 a q).trans e
 refine ⟨⟨fun a ha=>other a _ (H.base.objs a ha) fun e=>OS (H.offB p hp) e ha,H.base.lim.at fun o e=>other _ o e fun e'=>OS (H.offB p hp) e' Ox⟩,fun q hq=>other _ _ (H.ro q hq) fun e=>H.offR p hp (e▸List.mem_map_of_mem hq),fun q hq=>?_,by rw [Vl]; exact H.nd,fun q hq=>?_,fun q hq=>?_⟩
 ·rcases WL hi H.nd q hq with rfl | ⟨y,z⟩
  ·first | exact Heap.get?_update_self f ho hf | exact Heap.get?_update_self _ ho hf
  ·exact other _ _ (H.at_ q y) z
 ·rcases WL hi H.nd q hq with rfl | ⟨y,_⟩
  ·exact H.offB p hp
  ·exact H.offB q y
 ·rcases WL hi H.nd q hq with rfl | ⟨y,_⟩
  ·exact H.offR p hp
  ·exact H.offR q y
theorem Ext.update {P:Params} {RO Ms M:ZA} {hs h:Heap} (E:Ext Ms hs M h) (H:Holds P RO M h) {i:Nat} {p:Addr × Obj} {f:Obj→Obj} (hi:Yd M i=some p):Ext Ms hs (Xk M i (f p.2)) (h.update p.1 f):=by
 have hsb:Heap.SameBut p.1 h (h.update p.1 f):=Heap.SameBut.update ..
 have hp:=Zp hi
 refine ⟨fun a o e q=>(hsb.2 a ?_).trans (E.keep a o e q),fun q hq=>?_,by rw [hsb.1]; exact E.size⟩
 ·rintro rfl
  rcases E.fresh p hp with y | y
  ·exact q y
  ·exact absurd (Heap.lt_size e) (Nat.not_lt.mpr y)
 ·rcases WL hi H.nd q hq with rfl | ⟨y,_⟩
  ·exact E.fresh p hp
  ·exact E.fresh q y
theorem Holds.called {P:Params} {RO M:ZA} {h h':Heap} {sub:List Nat} {M₁ ro₁ NR N:ZA} {us:List Obj} (H:Holds P RO M h) (hs:Z9 M sub=some M₁) (hl:us.length=M₁.length)
  (H':Holds P (ro₁++RO) (NR++(N++Xv M₁ us)) h') (E':Ext M₁ h (NR++(N++Xv M₁ us)) h'):Holds P (NR++RO) (N++Yb M sub us) h':=by
 have key:∀ q∈Yb M sub us,∃ p∈M,p.1=q.1:=fun q hq=>by
  have:q.1∈(Yb M sub us).map (·.1):=List.mem_map_of_mem hq
  rw [XB] at this
  obtain ⟨p,hp,e⟩:=List.mem_map.mp this
  exact ⟨p,hp,e⟩
 have nd':=H'.nd
 rw [List.map_append,List.map_append,W8 hl] at nd'
 have ndN:=(List.nodup_append.mp nd').2.1
 have newer:∀ p∈NR++N,h.objs.size≤p.1:=fun p hp=>by
  have hp':p∈NR++(N++Xv M₁ us):=by
   rcases List.mem_append.mp hp with y | y
   ·exact List.mem_append.mpr (.inl y)
   ·exact List.mem_append.mpr (.inr (List.mem_append.mpr (.inl y)))
  rcases E'.fresh p hp' with y | y
  ·rcases List.mem_append.mp hp with z | z
   ·exact absurd rfl ((List.nodup_append.mp nd').2.2 p.1 (List.mem_map_of_mem z) p.1 (List.mem_append.mpr (.inr y)))
   ·exact absurd rfl ((List.nodup_append.mp ndN).2.2 p.1 (List.mem_map_of_mem z) p.1 y)
  ·exact y
 have apartM:∀ p∈NR++N,p.1∉M.map (·.1):=fun p hp hm=>by
  obtain ⟨q,hq,e⟩:=List.mem_map.mp hm
  have:=H.lt q hq
  rw [e] at this
  exact absurd this (Nat.not_lt.mpr (newer p hp))
 refine ⟨H'.base,fun p hp=>?_,fun p hp=>?_,?_,fun p hp=>?_,fun p hp hm=>?_⟩
 ·rcases List.mem_append.mp hp with y | y
  ·exact H'.at_ p (List.mem_append.mpr (.inl y))
  ·exact H'.ro p (List.mem_append.mpr (.inr y))
 ·rcases List.mem_append.mp hp with y | y
  ·exact H'.at_ p (List.mem_append.mpr (.inr (List.mem_append.mpr (.inl y))))
  ·rcases U3 H.nd hs hl p y with z | ⟨z,x⟩
   ·exact H'.at_ p (List.mem_append.mpr (.inr (List.mem_append.mpr (.inr z))))
   ·exact E'.keep _ _ (H.at_ p z) x
 ·rw [List.map_append,XB]
  refine List.nodup_append.mpr ⟨(List.nodup_append.mp ndN).1,H.nd,fun a ha b hb e=>?_⟩
  subst e
  obtain ⟨p,hp,rfl⟩:=List.mem_map.mp ha
  exact apartM p (List.mem_append.mpr (.inr hp)) hb
 ·rcases List.mem_append.mp hp with y | y
  ·exact H'.offB p (List.mem_append.mpr (.inr (List.mem_append.mpr (.inl y))))
  ·obtain ⟨q,hq,e⟩:=key p y
   exact e▸H.offB q hq
 ·rw [List.map_append] at hm
  rcases List.mem_append.mp hm with z | z
  ·
   obtain ⟨q,hq,e⟩:=List.mem_map.mp z
   rcases List.mem_append.mp hp with y | y
   ·exact absurd e ((List.nodup_append.mp nd').2.2 q.1 (List.mem_map_of_mem hq) p.1 (List.mem_append.mpr (.inl (List.mem_map_of_mem y))))
   ·obtain ⟨q',hq',e'⟩:=key p y
    exact apartM q (List.mem_append.mpr (.inl hq)) (by rw [e,← e']; exact List.mem_map_of_mem hq')
  ·rcases List.mem_append.mp hp with y | y
   ·refine H'.offR p (List.mem_append.mpr (.inr (List.mem_append.mpr (.inl y)))) ?_
    rw [List.map_append]
    exact List.mem_append.mpr (.inr z)
   ·obtain ⟨q,hq,e⟩:=key p y
    exact H.offR q hq (e▸z)
theorem Ext.called {P:Params} {RO Ms M:ZA} {h₀ h h':Heap} {sub:List Nat} {M₁ NR N:ZA} {us:List Obj} (E:Ext Ms h₀ M h) (hs:Z9 M sub=some M₁) (hl:us.length=M₁.length) (H':Holds P RO (NR++(N++Xv M₁ us)) h') (E':Ext M₁ h (NR++(N++Xv M₁ us)) h') :
  Ext Ms h₀ (NR++(N++Yb M sub us)) h':=by
 have nd':=H'.nd
 rw [List.map_append,List.map_append,W8 hl] at nd'
 have ndN:=(List.nodup_append.mp nd').2.1
 refine ⟨fun a o e q=>E'.keep a o (E.keep a o e q) fun hm=>?_,fun p hp=>?_,Nat.le_trans E.size E'.size⟩
 ·obtain ⟨p,hp,rfl⟩:=List.mem_map.mp hm
  rcases E.fresh p (Xx hs p hp) with y | y
  ·exact q y
  ·exact absurd (Heap.lt_size e) (Nat.not_lt.mpr y)
 ·rcases List.mem_append.mp hp with y | y
  ·rcases E'.fresh p (List.mem_append.mpr (.inl y)) with z | z
   ·exact absurd rfl ((List.nodup_append.mp nd').2.2 p.1 (List.mem_map_of_mem y) p.1 (List.mem_append.mpr (.inr z)))
   ·exact .inr (Nat.le_trans E.size z)
  ·rcases List.mem_append.mp y with y | y
   ·rcases E'.fresh p (List.mem_append.mpr (.inr (List.mem_append.mpr (.inl y)))) with z | z
    ·exact absurd rfl ((List.nodup_append.mp ndN).2.2 p.1 (List.mem_map_of_mem y) p.1 z)
    ·exact .inr (Nat.le_trans E.size z)
   ·have:p.1∈(Yb M sub us).map (·.1):=List.mem_map_of_mem y
    rw [XB] at this
    obtain ⟨q,hq,e⟩:=List.mem_map.mp this
    exact e▸E.fresh q hq
theorem Ext.less {Ms A M:ZA} {hs h:Heap} (E:Ext Ms hs (A++M) h):Ext Ms hs M h:=⟨E.keep,fun p hp=>E.fresh p (List.mem_append.mpr (.inr hp)),E.size⟩
theorem Holds.ro_less {P:Params} {RO RO' M:ZA} {h:Heap} (H:Holds P RO' M h) (hr:∀ p∈RO,p∈RO'):Holds P RO M h:=
 ⟨H.base,fun p hp=>H.ro p (hr p hp),H.at_,H.nd,H.offB,fun p hp hm=>by
  obtain ⟨q,hq,e⟩:=List.mem_map.mp hm
  exact H.offR p hp (e▸List.mem_map_of_mem (hr q hq))⟩
theorem Holds.back {P:Params} {RO NR M:ZA} {h:Heap} (H:Holds P (NR++RO) M h) (nd:(NR.map (·.1)).Nodup) (offB:∀ p∈NR,XV p.1=false) (offR:∀ p∈NR,p.1∉RO.map (·.1)):Holds P RO (NR++M) h:=by
 refine ⟨H.base,fun p hp=>H.ro p (List.mem_append.mpr (.inr hp)),fun p hp=>?_,?_,fun p hp=>?_,fun p hp=>?_⟩
 ·rcases List.mem_append.mp hp with y | y
  ·exact H.ro p (List.mem_append.mpr (.inl y))
  ·exact H.at_ p y
 ·rw [List.map_append]
  refine List.nodup_append.mpr ⟨nd,H.nd,fun a ha b hb e=>?_⟩
  subst e
  obtain ⟨p,hp,rfl⟩:=List.mem_map.mp hb
  refine H.offR p hp ?_
  rw [List.map_append]
  exact List.mem_append.mpr (.inl ha)
 ·rcases List.mem_append.mp hp with y | y
  ·exact offB p y
  ·exact H.offB p y
 ·rcases List.mem_append.mp hp with y | y
  ·exact offR p y
  ·intro hm
   refine H.offR p y ?_
   rw [List.map_append]
   exact List.mem_append.mpr (.inr hm)
theorem Holds.sub {P:Params} {RO M:ZA} {h:Heap} {sub ro:List Nat} {M₁ ro₁:ZA} (H:Holds P RO M h) (hd:Xw sub=true) (ha:V8 sub ro=true) (hs:Z9 M sub=some M₁) (hr:Z9 M ro=some ro₁):Holds P (ro₁++RO) M₁ h:=by
 refine ⟨H.base,fun p hp=>?_,fun p hp=>H.at_ p (Xx hs p hp),OQ H.nd (UU hd) hs,fun p hp=>H.offB p (Xx hs p hp),fun p hp hm=>?_⟩
 ·rcases List.mem_append.mp hp with y | y
  ·exact H.at_ p (Xx hr p y)
  ·exact H.ro p y
 ·rw [List.map_append] at hm
  rcases List.mem_append.mp hm with y | y
  ·obtain ⟨q,hq,e⟩:=List.mem_map.mp y
   obtain ⟨i,hi,ei⟩:=V9 hs p hp
   obtain ⟨j,hj,ej⟩:=V9 hr q hq
   exact Rr ha i hi j hj (XK H.nd ei ej e.symm)
  ·exact H.offR p (Xx hs p hp) y
theorem Holds.mask {P:Params} {RO M:ZA} {h:Heap} (H:Holds P RO M h) (bs:List Bool):Holds P RO (V7 M bs) h:=
 have s:=W7 M bs
 ⟨H.base,H.ro,fun p hp=>H.at_ p (s.subset hp),(s.map _).nodup H.nd,fun p hp=>H.offB p (s.subset hp),fun p hp=>H.offR p (s.subset hp)⟩
theorem Ext.mask {Ms M:ZA} {hs h:Heap} (E:Ext Ms hs M h) (bs:List Bool):Ext Ms hs (V7 M bs) h:=
 ⟨E.keep,fun p hp=>E.fresh p ((W7 M bs).subset hp),E.size⟩
theorem Ext.trans {Ms N M:ZA} {hs h h':Heap} (E:Ext Ms hs N h) (E':Ext N h M h'):Ext Ms hs M h':=
 ⟨fun a o e na=>E'.keep a o (E.keep a o e na) fun hn=>by
  obtain ⟨p,hp,e'⟩:=List.mem_map.mp hn
  rcases E.fresh p hp with y | y
  ·exact na (e'▸y)
  ·exact absurd (Heap.lt_size e) (Nat.not_lt.mpr (e'▸y)),fun p hp=>by
  rcases E'.fresh p hp with y | y
  ·obtain ⟨q,hq,e'⟩:=List.mem_map.mp y
   rcases E.fresh q hq with z | z
   ·exact .inl (e'▸z)
   ·exact .inr (e'▸z)
  ·exact .inr (Nat.le_trans E.size y),Nat.le_trans E.size E'.size⟩
theorem Ext.refl (M:ZA) (h:Heap):Ext M h M h:=⟨fun _ _ e _=>e,fun _ hp=>.inl (List.mem_map_of_mem hp),Nat.le_refl _⟩
structure NROk (RO NR:ZA) (hs:Heap):Prop where
 nd:(NR.map (·.1)).Nodup
 offB:∀ p∈NR,XV p.1=false
 offR:∀ p∈NR,p.1∉RO.map (·.1)
 fr:∀ p∈NR,hs.objs.size≤p.1
theorem NROk.nil (RO:ZA) (hs:Heap):NROk RO [] hs:=⟨List.nodup_nil,fun _ h=>(nomatch h),fun _ h=>(nomatch h),fun _ h=>(nomatch h)⟩
theorem NROk.more {P:Params} {RO NR NR' M₁ N ro₁ Ms M:ZA} {us:List Obj} {hs h h':Heap} (K:NROk RO NR hs) (hl:us.length=M₁.length) (H':Holds P (ro₁++(NR++RO)) (NR'++(N++Xv M₁ us)) h') (E:Ext Ms hs M h) (E':Ext M₁ h (NR'++(N++Xv M₁ us)) h'):NROk RO (NR'++NR) hs:=by
 have nd':=H'.nd
 rw [List.map_append,List.map_append,W8 hl] at nd'
 have off:∀ p∈NR',p.1∉NR.map (·.1)∧p.1∉RO.map (·.1):=fun p hp=>by
  have z:=H'.offR p (List.mem_append.mpr (.inl hp))
  rw [List.map_append,List.map_append] at z
  exact ⟨fun y=>z (List.mem_append.mpr (.inr (List.mem_append.mpr (.inl y)))),fun y=>z (List.mem_append.mpr (.inr (List.mem_append.mpr (.inr y))))⟩
 refine ⟨?_,fun p hp=>?_,fun p hp=>?_,fun p hp=>?_⟩
 ·rw [List.map_append]
  refine List.nodup_append.mpr ⟨(List.nodup_append.mp nd').1,K.nd,fun a ha b hb e=>?_⟩
  subst e
  obtain ⟨p,hp,rfl⟩:=List.mem_map.mp ha
  exact (off p hp).1 hb
 ·rcases List.mem_append.mp hp with y | y
  ·exact H'.offB p (List.mem_append.mpr (.inl y))
  ·exact K.offB p y
 ·rcases List.mem_append.mp hp with y | y
  ·exact (off p y).2
  ·exact K.offR p y
 ·rcases List.mem_append.mp hp with y | y
  ·rcases E'.fresh p (List.mem_append.mpr (.inl y)) with z | z
   ·exact absurd rfl ((List.nodup_append.mp nd').2.2 p.1 (List.mem_map_of_mem y) p.1 (List.mem_append.mpr (.inr z)))
   ·exact Nat.le_trans E.size z
  ·exact K.fr p y
theorem Ext.withR {RO NR Ms M:ZA} {hs h:Heap} (E:Ext Ms hs M h) (K:NROk RO NR hs):Ext Ms hs (NR++M) h:=
 ⟨E.keep,fun p hp=>by
  rcases List.mem_append.mp hp with y | y
  ·exact .inr (K.fr p y)
  ·exact E.fresh p y,E.size⟩
theorem Holds.assoc {P:Params} {A B C M:ZA} {h:Heap} (H:Holds P (A++(B++C)) M h):Holds P ((A++B)++C) M h:=by rw [List.append_assoc]; exact H
noncomputable def JJ:List Nat:=[115,121,115,46,114,101,99,117,114,115,105,111,110,108,105,109,105,116]
noncomputable def Rf:List DictEntry→Bool
 | []=>true
 | e::l=>match e.key with
  | .str n _=>match n.cps.toList == JJ with
   | true=>false
   | false=>Rf l
  | _=>false
noncomputable def Wx (o:Obj):Bool:=match o.data with
 | .dict es _=>Rf es.toList
 | _=>false
theorem Iz:(Str.ofString "sys.recursionlimit").cps.toList=JJ:=by decide +kernel
theorem Sb:∀ {l:List DictEntry},Rf l=true→∀ e∈l,∃ n t,e.key = .str n t∧(n.cps.toList == JJ)=false
 | [],_,_,h=>nomatch h
 | e::l,h,e',he=>by
  unfold Rf at h
  split at h
  ·rename_i n t hk
   split at h
   ·cases h
   ·rename_i hn
    cases he with
    | head=>exact ⟨n,t,hk,hn⟩
    | tail _ he=>exact Sb h e' he
  ·cases h
theorem Rt {h:Heap} {o:Obj} (ho:h.get? cStatics=some o) (hb:Wx o=true):h.NoLimit:=by
 unfold Wx at hb
 split at hb
 ·rename_i es ep hd
  have ha:=Sb hb
  refine ⟨fun name=>nsFind es name,⟨o,es,ep,ho,hd,fun e he=>?_,fun _=>rfl⟩,?_⟩
  ·obtain ⟨n,t,hk,_⟩:=ha e (Array.mem_toList_iff.mpr he)
   exact ⟨n,t,hk⟩
  ·show nsFind es (Str.ofString "sys.recursionlimit")=none
   unfold nsFind findBy
   rw [show es.find? (fun e=>e.key.isStr (Str.ofString "sys.recursionlimit"))=none from ?_]
   ·rfl
   ·rw [Array.find?_eq_none]
    intro e he
    obtain ⟨n,t,hk,hn⟩:=ha e (Array.mem_toList_iff.mpr he)
    rw [hk]
    intro x
    have x:(n == Str.ofString "sys.recursionlimit")=true:=x
    rw [beq_iff_eq] at x
    rw [x,Iz] at hn
    simp at hn
 ·cases hb
noncomputable def VY (nm qn:Str) (body:FuncBody) (env:PySem.Env):Sem PySem.Fin:=Sem.bind (newGenerator (match body with | .stmts b=>.func b env | .expr e=>.expr e env) nm qn) fun v=>.pure (.done (.ret v))
theorem Mn {M:Model} {Γ:Ctx} {nm qn:Str} {b:List Stmt} {env:PySem.Env} {Q:PySem.Fin→Shared→Prop} {E:Value→Shared→Prop} {p p':Pos} {s:Shared}
  (h:Sem.wp M Γ (VY nm qn (.stmts b) env) (fun a _ s'=>Q a s') (fun e _ s'=>E e s') p s):Sem.wp M Γ (VY nm qn (.stmts b) env) (fun a _ s'=>Q a s') (fun e _ s'=>E e s') p' s:=by
 unfold VY at h ⊢
 exact h
noncomputable def VI (self:Addr) (fd:FuncData) (args:Args):Sem PySem.Fin:=
 let jp:Str→Sem PySem.Fin:=fun compiled=>
  R.bindR (PySem.W.Fast.tw9782568553167038054 fd args) fun binds=>
  R.bindR (PySem.W.Fast.tw11113344188204177931 fd.scope fd.globals fd.closure binds (compiled++⟨⟨[46,60,108,111,99,97,108,115,62,46]⟩⟩) (some self) fd.code none fd.builtins) fun env=>
   .load cStatics none fun o=>match Wx o with
    | true=>VY fd.name fd.qualname fd.body env
    | false=>.unsupported ""
 match fd.code with
 | .none=>jp fd.qualname
 | c=>R.bindR (PySem.W.Fast.tw6609576154772507232 c 1) fun v=>match v with
  | .str q _=>jp q
  | _=>jp fd.qualname
theorem Oy (self:Addr) (fd:FuncData) (args:Args):VI self fd args=Sem.bind (WK self fd args) fun env=>.load cStatics none fun o=>match Wx o with
  | true=>VY fd.name fd.qualname fd.body env
  | false=>.unsupported "":=by
 unfold VI WK X6
 rw [← PySem.W.Fast.te9782568553167038054,← PySem.W.Fast.te11113344188204177931,← PySem.W.Fast.te6609576154772507232,← PySem.W.R.bindR_eq]
 simp only [XT]
 cases fd.code
 case none=>rfl
 all_goals (
  dsimp only
  rw [XT]
  refine congrArg (Sem.bind _) (funext fun v=>?_)
  cases v<;>rfl)
theorem UW (self:Addr) (fd:FuncData) (args:Args) (hg:fd.scope.isGenerator=true) (hc:fd.scope.isCoroutine=false):callFunction self fd args=Sem.bind (WK self fd args) fun env=>Sem.bind enterFrame fun _=>VY fd.name fd.qualname fd.body env:=by
 unfold callFunction WK X6 VY
 rw [hg,hc]
 simp only [XT]
 cases fd.code
 case none=>rfl
 all_goals (
  dsimp only
  rw [XT]
  refine congrArg (Sem.bind _) (funext fun v=>?_)
  cases v<;>rfl)
theorem Mo {w:World} {A:Around} {c:Code} {Q:PySem.Fin→Shared→Prop} {E:Value→Shared→Prop} {s:Shared} {self:Addr} {fd:FuncData} {args:Args} {bd:List Stmt} (hg:fd.scope.isGenerator=true) (hc:fd.scope.isCoroutine=false) (hbd:fd.body = .stmts bd)
  (hd:(A.under c).depth < recursionLimit) (h:wpOwn (model PP w) A c (VI self fd args) Q E s):wpOwn (model PP w) A c (callFunction self fd args) Q E s:=by
 rw [UW self fd args hg hc]
 rw [Oy] at h
 intro Γ p hΓc hΓ
 have z:=h Γ p hΓc hΓ
 rw [Sem.wp_bind] at z ⊢
 refine Sem.wp_mono _ Γ _ (fun env p' s' y=>?_) (fun _ _ _ y=>y) p s z
 rw [Sem.wp_load] at y
 obtain ⟨o,ho,y⟩:=y
 cases hb:Wx o with
 | false=>
  rw [hb] at y
  exact (show False from y).elim
 | true=>
  rw [hb,hbd] at y
  rw [hbd]
  rw [Sem.wp_bind]
  have x:wpAny (model PP w) (A.under c) enterFrame (fun _ s''=>s''=s') E s':=wpAny_enterFrame (Rt ho hb) hd rfl
  refine Sem.wp_mono _ Γ _ (fun _ p'' s'' e=>?_) (fun _ _ _ e=>e) p' s' (x Γ p' (hΓc▸hΓ.in))
  subst e
  exact Mn y
theorem JK {w:World} {A:Around} {Q:PySem.Fin→Shared→Prop} {E:Value→Shared→Prop} {s:Shared} {f:Addr} {o:Obj} {fd:FuncData} {args:Args} {bd:List Stmt} (ho:s.heap.get? f=some o) (hf:o.data = .func fd) (hg:fd.scope.isGenerator=true) (hc:fd.scope.isCoroutine=false) (hbd:fd.body = .stmts bd)
  (hd:(A.under (.call (.ref f) args)).depth < recursionLimit) (h:wpOwn (model PP w) A (.call (.ref f) args) (VI f fd args) Q E s) :
  wpOwn (model PP w) A (.call (.ref f) args) (denote table (.call (.ref f) args)) Q E s:=by
 rw [Vo]
 unfold callAny
 refine wpOwn_bind (m:=load f) (wpOwn_of_wpAny (wpAny_load ho ?_))
 rw [hf]
 exact Mo hg hc hbd hd h
theorem I0 {M:Model} {Γ:Ctx} {A:Around} {p:Pos} {s:Shared} {Q:Unit→Pos→Shared→Prop} {E:Value→Pos→Shared→Prop} (hl:s.heap.NoLimit) (hd:A.depth < recursionLimit) (hΓ:Γ.In A) (h:Q () p s):Sem.wp M Γ roomToWake Q E p s:=by
 have key:Sem.wp M Γ roomToWake (fun _ _ _=>True) (fun _ _ _=>False) p s:=wpAny_roomToWake (E:=fun _ _=>False) (Q:=fun _ _=>True) hl hd trivial Γ p hΓ
 obtain ⟨mc,hns,hnone⟩:=hl
 simp only [roomToWake,currentRecursionLimit,Sem.wp_bind'] at key ⊢
 change Sem.wp M Γ (nsGet cStatics "sys.recursionlimit") _ _ p s at key
 show Sem.wp M Γ (nsGet cStatics "sys.recursionlimit") _ _ p s
 rw [Sem.wp_nsGet M Γ _ p s hns,hnone] at key ⊢
 change Sem.wp M Γ (if _ then _ else _) _ _ p s at key
 show Sem.wp M Γ (if _ then _ else _) _ _ p s
 split at key
 ·exact key.elim
 ·rename_i h1
  rw [if_neg h1]
  change Sem.wp M Γ (if _ then _ else _) _ _ p s at key
  show Sem.wp M Γ (if _ then _ else _) _ _ p s
  split at key
  ·exact key.elim
  ·rename_i h2
   rw [if_neg h2]
   exact h
noncomputable def U5:Sem Unit:=.load cStatics none fun o=>match Wx o with
 | true=>.pure ()
 | false=>.unsupported ""
noncomputable def gwP:PSigma fun G:Sem Unit→Value→Resume→Sem PySem.Fin=>G PySem.W.Fast.tw3139746846981162851=PySem.W.Fast.tw9054249554998114525:=by
 delta PySem.W.Fast.tw9054249554998114525
 refine ⟨?G,?h⟩
 case h=>
  generalize PySem.W.Fast.tw3139746846981162851=lg
  exact rfl
noncomputable def gwG:=gwP.1
noncomputable def gnT (g:Value):Sem PySem.Fin:=gwG U5 g (.send .none)
theorem Sc {M:Model} {Γ:Ctx} {A:Around} {α:Type} {f:Unit→Sem α} {Q:α→Pos→Shared→Prop} {E:Value→Pos→Shared→Prop} {p:Pos} {s:Shared} (hd:A.depth < recursionLimit) (hΓ:Γ.In A)
  (h:Sem.wp M Γ (@bind Sem PySem.W.Fast.tw12456147031677567982.toBind Unit α U5 f) Q E p s):Sem.wp M Γ (@bind Sem PySem.W.Fast.tw12456147031677567982.toBind Unit α PySem.W.Fast.tw3139746846981162851 f) Q E p s:=by
 rw [XA] at h ⊢
 unfold U5 at h
 rw [Sem.wp_load] at h
 obtain ⟨o,ho,h⟩:=h
 cases hb:Wx o with
 | false=>
  rw [hb] at h
  exact (show False from h).elim
 | true=>
  rw [hb] at h
  rw [← PySem.W.Fast.te3139746846981162851]
  exact I0 (Rt ho hb) hd hΓ h
theorem GL {M:Model} {Γ:Ctx} {A:Around} {g:Value} {r:Resume} {Q:PySem.Fin→Pos→Shared→Prop} {E:Value→Pos→Shared→Prop} {p:Pos} {s:Shared} (hd:A.depth < recursionLimit) (hΓ:Γ.In A)
  (h:Sem.wp M Γ (gwG U5 g r) Q E p s):Sem.wp M Γ (PySem.W.Fast.tw9054249554998114525 g r) Q E p s:=by
 unfold gwG gwP id at h
 dsimp only at h
 unfold PySem.W.Fast.tw9054249554998114525
 rw [XA] at h ⊢
 refine Sem.wp_mono M Γ _ (fun n p s h=>?_) (fun _ _ _ h=>h) p s h
 rw [XA] at h ⊢
 refine Sem.wp_mono M Γ _ (fun b p s h=>?_) (fun _ _ _ h=>h) p s h
 cases b with
 | fresh=>exact Sc hd hΓ h
 | suspended=>exact Sc hd hΓ h
 | running=>exact h
 | finished=>exact h
theorem JL:entryFor table "generator.__next__"=some Builtin.«generator.__next__»:=entryFor_of_fast (by kernel_rfl)
theorem GM {w:World} {A:Around} {g:Value} {Q:PySem.Fin→Shared→Prop} {E:Value→Shared→Prop} {s:Shared} (hd:(A.under (.builtin "generator.__next__" ⟨[g],[]⟩)).depth < recursionLimit) (h:wpOwn (model PP w) A (.builtin "generator.__next__" ⟨[g],[]⟩) (gnT g) Q E s) :
  wpOwn (model PP w) A (.builtin "generator.__next__" ⟨[g],[]⟩) (denote table (.builtin "generator.__next__" ⟨[g],[]⟩)) Q E s:=by
 have e:denote table (.builtin "generator.__next__" ⟨[g],[]⟩)=(match entryFor table "generator.__next__" with | some b=>b ⟨[g],[]⟩ | none=>unsupported ((withoutEnding? "generator.__next__" "#data").getD "generator.__next__")):=by
  rw [denote]
  generalize entryFor table "generator.__next__"=o
  cases o<;>rfl
 rw [e,JL]
 show wpOwn _ _ _ (Builtin.Generator.genWake g (.send .none)) _ _ _
 rw [PySem.W.Fast.te9054249554998114525]
 intro Γ p hΓc hΓ
 exact GL hd (hΓc▸hΓ.in) (h Γ p hΓc hΓ)
noncomputable def Rg (w:World) (RO:ZA) (p:Addr × Obj):Prop:=∀ (A:Around) (h:Heap) (g:Array GenState) (d:Drawn) (t:Nat) (os:OsState) (Q:Value→Shared→Prop),Holds w.params RO [p] h→Q (.ref p.1) ⟨h,g,d,t,os⟩→wpAny (model PP w) A (pyIter (.ref p.1)) Q (fun _ _=>False) ⟨h,g,d,t,os⟩
theorem YW (w:World) (RO:ZA) (a ti to:Nat) (f0:Value):Rg w RO (a,⟨.type "zip",none,.fields #[f0,.bool false,.bool false,.ref ti,.ref to],#[]⟩):=
 fun _ _ _ _ _ _ _ hM hQ=>wpAny_pyIter_zip (hM.at_ _ (.head _)) hQ
inductive ST where
 | m (c:Code) (κ:List KF) (t:Sem PySem.Fin)
 | s (c:Code) (κ:List KF) (k:GenResult→Sem PySem.Fin) (c₁:Code) (fs:List Frame) (t:Sem PySem.Fin)
inductive SL where
 | none
 | some (i:Nat) (g:GenState)
noncomputable def SL.bare:SL→Bool
 | .none=>true
 | .some _ g=>g.bare
noncomputable def SL.no:SL→Bool
 | .none=>true
 | .some _ _=>false
inductive OE where
 | n (i:Nat)
 | skip (D:Nat) (sub ro:List Nat) (C:Con) (f:(Nat→Nat)→List OE)
 | skx (D:Nat) (sub ro:List Nat) (P:LX→Prop) (C:LX→Con) (f:(x:LX)→P x→(Nat→Nat)→List OE)
 | bind (f:Nat→List OE)
 | enter (i:Nat)
 | comp (D:Nat) (j:Nat)
 | jump (D:Nat) (sub ro:List Nat) (C:Con) (mask:List Bool)
 | fin (mask:List Bool)
 | tail (D:Nat) (mask:List Bool)
 | set (i:Nat) (o:Obj)
 | fr2 (n:Nat) (f:Nat→List OE)
 | gn
noncomputable def gB (b:Bool) (P:Prop):Prop:=@Bool.rec (fun _=>Prop) False P b
noncomputable def oM {α:Type} (o:Option α) (P:α→Prop):Prop:=@Option.rec α (fun _=>Prop) False P o
theorem YB {b:Bool} {P:Prop} (h:gB b P):b=true∧P:=match b,h with
 | true,h=>⟨rfl,h⟩
theorem XM {α:Type} {o:Option α} {P:α→Prop} (h:oM o P):∃ x,o=some x∧P x:=match o,h with
 | some x,h=>⟨x,rfl,h⟩
noncomputable abbrev XN:=List OE→ST→SL→ZA→ZA→Prop
noncomputable def Tt (κ:List KF) (f:Nat→Prop):Prop:=@List.rec KF (fun _=>(Nat→Prop)→Prop) (fun f=>f 0) (fun _ _ ih f=>ih fun n=>f (Nat.succ n)) κ f
theorem VJ (f:Nat→Prop) (κ:List KF):Tt κ f=f κ.length:=by
 induction κ generalizing f with
 | nil=>rfl
 | cons _ κ ih=>exact ih fun n=>f (Nat.succ n)
noncomputable def Rh (a:Nat):List OE→List OE
 | .bind f::_=>f a
 | r=>r
noncomputable def OT:Code→Option (Addr × Args)
 | .call (.ref f) args=>some (f,args)
 | _=>none
noncomputable def GN:Code→Option (String × Value)
 | .builtin id ⟨[g],[]⟩=>some (id,g)
 | _=>none
section
variable (w:World) (RO:ZA) (D:Nat) (F:Result→ZA→Prop)
noncomputable def plc (NR M:ZA) (i:Nat):Option (Addr × Obj):=match Nat.blt i 500 with
 | true=>Yd M i
 | false=>match Nat.blt i 1000 with
  | true=>Yd (NR++RO) (i - 500)
  | false=>match XV (i - 1000) with
   | true=>some (i - 1000,lkB w.params (i - 1000))
   | false=>none
noncomputable def U6 (n D':Nat) (sub ro:List Nat):Bool:=Xw sub && V8 sub ro && Nat.ble (Nat.add (Nat.add D (Nat.mul 5 n)) 10) D'
noncomputable def Oz (ih:XN) (orc:List OE) (κ:List KF) (r:Result) (sl:SL) (NR M:ZA):Prop:=match κ with
 | []=>match orc with
  | .fin mask::_=>gB sl.bare (F r (NR++V7 M mask))
  | _=>False
 | f::κ'=>ih orc (.m f.code κ' (f.k r)) sl NR M
noncomputable def UA (ih:XN) (orc:List OE) (K:Obj→ST) (a:Addr) (sl:SL) (NR M:ZA):Prop:=
match orc with
 | .n i::orc'=>oM (plc w RO NR M i) fun p=>a=p.1∧ih orc' (K p.2) sl NR M
 | _=>False
noncomputable def O0 (ih:XN) (orc:List OE) (K:ST) (a:Addr) (f:Obj→Obj) (sl:SL) (NR M:ZA):Prop:=match orc with
 | .n i::orc'=>oM (Yd M i) fun p=>gB (!(f p.2).isFreed) (a=p.1∧ih orc' K sl NR (Xk M i (f p.2)))
 | .set i o::orc'=>oM (Yd M i) fun p=>gB (!o.isFreed) (a=p.1∧f p.2=o∧ih orc' K sl NR (Xk M i o))
 | _=>False
noncomputable def Ru (ih:XN) (orc:List OE) (c:Code) (κ:List KF) (c':Code) (k:Result→Sem PySem.Fin) (sl:SL) (NR M:ZA) (f:Addr) (args:Args) (o:Obj):Prop:=match o.data with
 | .func fd=>Tt κ fun n=>gB (Nat.blt (Nat.add (Nat.add D (Nat.mul 5 n)) 10) 1000) (gB (!fd.scope.isCoroutine) (match fd.scope.isGenerator with
  | false=>ih orc (.m c' (⟨c,k⟩::κ) (Yj f fd args)) sl NR M
  | true=>match fd.body with
   | .stmts _=>ih orc (.m c' (⟨c,k⟩::κ) (VI f fd args)) sl NR M
   | _=>False))
 | _=>False
noncomputable def O4 (ih:XN) (orc:List OE) (c:Code) (κ:List KF) (c':Code) (k:Result→Sem PySem.Fin) (sl:SL) (NR M:ZA):Prop:=match orc with
 | .skip D' sub ro C f::_=>Tt κ fun n=>gB (U6 D n D' sub ro) (gB sl.no <| oM (Z9 M sub) fun M₁=>oM (Z9 M ro) fun ro₁=>
   ZD w (ro₁++(NR++RO)) D' c' M₁ C.post∧M₁=C.mem∧∀ ρ:Nat→Nat,ih (f ρ) (.m c κ (k (C.r ρ))) sl (C.newR ρ++NR) (C.new ρ++Yb M sub (C.upd ρ)))
 | .skx D' sub ro P C f::_=>Tt κ fun n=>gB (U6 D n D' sub ro) (gB sl.no <| oM (Z9 M sub) fun M₁=>oM (Z9 M ro) fun ro₁=>
   ZD w (ro₁++(NR++RO)) D' c' M₁ (fun r M'=>∃ x,P x∧(C x).post r M')∧(∀ x,M₁=(C x).mem)∧∀ (x:LX) (hx:P x) (ρ:Nat→Nat),ih (f x hx ρ) (.m c κ (k ((C x).r ρ))) sl ((C x).newR ρ++NR) ((C x).new ρ++Yb M sub ((C x).upd ρ)))
 | .comp D' j::orc'=>match c' with
  | .compStart e depth (.ref a) acc env=>Tt κ fun n=>gB (Nat.ble (Nat.add (Nat.add D (Nat.mul 5 n)) 10) D') (oM (Yd M j) fun p=>a=p.1∧(match sl with | .none=>Z0 w (NR++RO) D' p.1 p.2 | .some _ _=>Rg w (NR++RO) p)∧
    ih orc' (.m (.compLoop e depth (.ref a) acc env) (⟨c,k⟩::κ) (Ww (.compLoop e depth (.ref a) acc env))) sl NR M)
  | _=>False
 | .enter i::orc'=>oM (OT c') fun x=>oM (plc w RO NR M i) fun p=>x.1=p.1∧Ru D ih orc' c κ (.call (.ref x.1) x.2) k sl NR M x.1 x.2 p.2
 | _=>ih orc (.m c' (⟨c,k⟩::κ) (Ww c')) sl NR M
noncomputable def Rv (ih:XN) (orc:List OE) (c':Code) (κ:List KF) (sl:SL) (NR M:ZA):Prop:=match orc with
 | .jump D' sub ro C mask::_=>gB (U6 D 0 D' sub ro) (gB (sl.no && κ.isEmpty) <| oM (Z9 M sub) fun M₁=>oM (Z9 M ro) fun ro₁=>
   ZD w (ro₁++(NR++RO)) D' c' M₁ C.post∧M₁=C.mem∧∀ ρ:Nat→Nat,F (C.r ρ) ((C.newR ρ++NR)++V7 (C.new ρ++Yb M sub (C.upd ρ)) mask))
 | .tail D' mask::_=>gB (Nat.ble D D') (gB (sl.no && κ.isEmpty) <| ZD w (NR++RO) D' c' (V7 M mask) (fun r M'=>F r (NR++M')))
 | .gn::orc'=>oM (GN c') fun x=>Tt κ fun n=>gB (Nat.blt (Nat.add (Nat.add D (Nat.mul 5 n)) 10) 1000) (x.1="generator.__next__"∧ih orc' (.m (.builtin "generator.__next__" ⟨[x.2],[]⟩) κ (gnT x.2)) sl NR M)
 | _=>ih orc (.m c' κ (Ww c')) sl NR M
noncomputable def O5 (ih:XN) (orc:List OE) (c:Code) (κ:List KF) (k:GenResult→Sem PySem.Fin) (fs:List Frame) (r:Result) (gi:Nat) (NR M:ZA):Prop:=match fs with
 | []=>ih orc (.m c κ (k (End.ret r).result)) (.some gi (End.ret r).genState) NR M
 | .ret k' _ _ _ c' _ _::fs'=>ih orc (.s c κ k c' fs' (k' r)) (.some gi .running) NR M
 | .gen .. :: _=>False
noncomputable def O6 (ih:XN) (orc:List OE) (c:Code) (κ:List KF) (k:GenResult→Sem PySem.Fin) (c₁:Code) (fs:List Frame) (t:Sem PySem.Fin) (gi:Nat) (NR M:ZA):Prop:=match t with
 | .pure fin=>match fin with
  | .done f=>O5 ih orc c κ k fs (.ok f) gi NR M
  | .again c'=>gB c'.quiet (ih orc (.s c κ k c' fs (Vj c')) (.some gi .running) NR M)
 | .raise e=>O5 ih orc c κ k fs (.error e) gi NR M
 | .rule _ q=>ih orc (.s c κ k c₁ fs (q ())) (.some gi .running) NR M
 | .at _ q=>ih orc (.s c κ k c₁ fs (q ())) (.some gi .running) NR M
 | .point _ q=>ih orc (.s c κ k c₁ fs (q ())) (.some gi .running) NR M
 | .ask q=>ih orc (.s c κ k c₁ fs (q ⟨PP,w.params⟩)) (.some gi .running) NR M
 | .load a _ q=>UA w RO ih orc (fun o=>.s c κ k c₁ fs (q o)) a (.some gi .running) NR M
 | .loadIfAlive a q=>UA w RO ih orc (fun o=>.s c κ k c₁ fs (q (some o))) a (.some gi .running) NR M
 | .update a _ f q=>O0 ih orc (.s c κ k c₁ fs (q ())) a f (.some gi .running) NR M
 | .alloc o q=>gB (!o.isFreed) (∀ a:Nat,ih (Rh a orc) (.s c κ k c₁ fs (q a)) (.some gi .running) NR ((a,o)::M))
 | .fresh q=>∀ t:Nat,ih (Rh t orc) (.s c κ k c₁ fs (q t)) (.some gi .running) NR M
 | .handled own q=>match (marksOver fs (none,none)).1 with
  | none=>gB (!own) (ih orc (.s c κ k c₁ fs (q none)) (.some gi .running) NR M)
  | some _=>False
 | .call c' hd gd l q=>∀ p:Pos,ih orc (.s c κ k c' (.ret q hd gd l c₁ p []::fs) (Vj c')) (.some gi .running) NR M
 | .yield v gd l q=>match splitAtGen fs with
  | none=>gB (!gd && !fs.any Frame.guarded) (∀ p:Pos,ih orc (.m c κ (k (End.susp v false l q c₁ p fs).result)) (.some gi (End.susp v false l q c₁ p fs).genState) NR M)
  | some _=>False
 | _=>False
noncomputable def F7 (ih:XN) (orc:List OE) (c:Code) (κ:List KF) (r:Resume) (gs:GenState) (k:GenResult→Sem PySem.Fin) (gi:Nat) (NR M:ZA):Prop:=match gs with
 | .fresh c₀=>match r with
  | .send v=>match v with
   | .none=>ih orc (.s c κ k c₀ [] (Vj c₀)) (.some gi .running) NR M
   | _=>False
  | _=>False
 | .suspended k₀ _ c₀ _ fs₀ _=>ih orc (.s c κ k c₀ fs₀ (k₀ r)) (.some gi .running) NR M
 | _=>False
noncomputable def Rw (ih:XN) (orc:List OE) (c:Code) (κ:List KF) (k:Nat→Sem PySem.Fin) (sl:SL) (NR M:ZA):Prop:=match orc with
 | .fr2 n f::_=>∀ t:Nat,match Ij w n (k (t + 1)) with
  | .fresh k2=>ih (f t) (.m c κ (k2 (t + 2))) sl NR M
  | _=>False
 | _=>∀ t:Nat,ih (Rh t orc) (.m c κ (k t)) sl NR M
noncomputable def FQ (ih:XN) (orc:List OE) (st:ST) (sl:SL) (NR M:ZA):Prop:=match st with
 | .s c κ k c₁ fs t=>match sl with
  | .none=>False
  | .some gi gs=>match gs with
   | .running=>O6 w RO ih orc c κ k c₁ fs t gi NR M
   | _=>False
 | .m c κ t=>match t with
  | .pure fin=>match fin with
   | .done f=>Oz F ih orc κ (.ok f) sl NR M
   | .again c'=>gB c'.quiet (Rv w RO D F ih orc c' κ sl NR M)
  | .raise e=>Oz F ih orc κ (.error e) sl NR M
  | .rule _ k=>ih orc (.m c κ (k ())) sl NR M
  | .at _ k=>ih orc (.m c κ (k ())) sl NR M
  | .point _ k=>ih orc (.m c κ (k ())) sl NR M
  | .ask k=>ih orc (.m c κ (k ⟨PP,w.params⟩)) sl NR M
  | .load a _ k=>UA w RO ih orc (fun o=>.m c κ (k o)) a sl NR M
  | .loadIfAlive a k=>UA w RO ih orc (fun o=>.m c κ (k (some o))) a sl NR M
  | .update a _ f k=>O0 ih orc (.m c κ (k ())) a f sl NR M
  | .alloc o k=>gB (!o.isFreed) (∀ a:Nat,ih (Rh a orc) (.m c κ (k a)) sl NR ((a,o)::M))
  | .fresh k=>Rw w ih orc c κ k sl NR M
  | .handled own k=>gB (!own) (ih orc (.m c κ (k none)) sl NR M)
  | .call c' hd _ _ k=>match hd with
   | none=>O4 w RO D ih orc c κ c' k sl NR M
   | some _=>False
  | .newGen c' k=>gB sl.no (∀ i:Nat,ih orc (.m c κ (k i)) (.some i (.fresh c')) NR M)
  | .genState i k=>match sl with
   | .none=>False
   | .some gi gs=>i=gi∧ih orc (.m c κ (k gs.seen)) (.some gi gs) NR M
  | .resume i r _ k=>match sl with
   | .none=>False
   | .some gi gs=>i=gi∧F7 ih orc c κ r gs k gi NR M
  | _=>False
noncomputable def Xg:Nat→XN:=@Nat.rec (fun _=>XN) (fun _ _ _ _ _=>False) (fun _ ih=>FQ w RO D F ih)
structure RunsTo (w:World) (D:Nat) (K:Result→ZA→Prop) (orc:List OE) (c:Code) (t:Sem PySem.Fin) (RO M:ZA):Prop where
 go:Xg w RO D K 99999 orc (.m c [] t) .none [] M
end
noncomputable def VK (g₀ g:Array GenState):SL→Prop
 | .none=>AllBare g₀→AllBare g
 | .some gi gs=>g[gi]?=some gs∧(AllBare g₀→∀ (j:Nat) (y:GenState),j≠gi→g[j]?=some y→y.bare=true)
theorem Mp {g₀ g:Array GenState} {sl:SL} (h:VK g₀ g sl) (hb:sl.bare=true):AllBare g₀→AllBare g:=by
 cases sl with
 | none=>exact h
 | some gi gs=>
  intro x y hy
  obtain ⟨j,hj,rfl⟩:=Array.mem_iff_getElem.mp hy
  by_cases e:j=gi
  ·subst e
   have:=h.1
   rw [Array.getElem?_eq_getElem hj] at this
   rw [Option.some.inj this]
   exact hb
  ·exact h.2 x j _ e (Array.getElem?_eq_getElem hj)
theorem VZ {g₀ g:Array GenState} {gi:Nat} {gs x:GenState} (h:VK g₀ g (.some gi gs)):VK g₀ (g.setIfInBounds gi x) (.some gi x):=by
 have hlt:gi < g.size:=by
  have:=h.1
  exact (Array.getElem?_eq_some_iff.mp this).1
 refine ⟨by rw [Array.getElem?_setIfInBounds_self_of_lt hlt],fun b j y hj e=>h.2 b j y hj ?_⟩
 rw [Array.getElem?_setIfInBounds_ne (Ne.symm hj)] at e
 exact e
theorem JM {g₀ g:Array GenState} (x:GenState) (h:VK g₀ g .none):VK g₀ (g.push x) (.some g.size x):=by
 refine ⟨by simp,fun b j y hj e=>?_⟩
 rw [Array.getElem?_push] at e
 rw [if_neg hj] at e
 exact h b y (Array.mem_of_getElem? e)
section
variable {w:World} {RO:ZA} {D:Nat} {F:Result→ZA→Prop}
theorem VE {n:Nat} {orc:List OE} {c c':Code} {κ:List KF} {sl:SL} {NR M:ZA} (h:Xg w RO D F n orc (.m c κ (Ww c')) sl NR M):Zg c':=by
 rintro args rfl
 obtain ⟨x,e⟩:=Ow args
 rw [e] at h
 cases n with
 | zero=>exact h
 | succ n=>exact h
noncomputable def RF (w:World) (D:Nat) (R:Result→Shared→Prop):List KF→Result→Shared→Prop
 | []=>R
 | f::κ=>fun r s=>wpOwn (model PP w) (Z2 (D + 5 * κ.length)) f.code (f.k r)
   (fun fin s'=>postC PP w (Z2 (D + 5 * κ.length)) (RF w D R κ) fin s'∧BaseOk w.params s'.heap) (fun e s'=>RF w D R κ (.error e) s') s
noncomputable abbrev QF (w:World) (D:Nat) (R:Result→Shared→Prop) (κ:List KF):PySem.Fin→Shared→Prop:=fun fin s'=>postC PP w (Z2 (D + 5 * κ.length)) (RF w D R κ) fin s'∧BaseOk w.params s'.heap
noncomputable abbrev EF (w:World) (D:Nat) (R:Result→Shared→Prop) (κ:List KF):Value→Shared→Prop:=fun e s'=>RF w D R κ (.error e) s'
noncomputable abbrev X7 (w:World) (D:Nat) (R:Result→Shared→Prop) (c:Code) (κ:List KF) (t:Sem PySem.Fin) (s:Shared):Prop:=wpOwn (model PP w) (Z2 (D + 5 * κ.length)) c t (QF w D R κ) (EF w D R κ) s
variable {hs:Heap} {Ms:ZA} {g₀:Array GenState} {d:Drawn} {os:OsState} {R:Result→Shared→Prop}
theorem XU {s:Shared} {c:Code} {κ:List KF} {t t':Sem PySem.Fin} (e:skim ⟨PP,w.params⟩ 1 t=t') (x:X7 w D R c κ t' s):X7 w D R c κ t s:=y_skim _ _ _ _ _ _ _ _ t 1 (e▸x)
theorem X8 {s:Shared} {c:Code} {κ:List KF}:∀ (n:Nat) (t:Sem PySem.Fin),X7 w D R c κ (Ij w n t) s→X7 w D R c κ t s
 | 0,_,h=>h
 | n + 1,.rule _ k,h=>XU rfl (X8 n (k ()) h)
 | n + 1,.at _ k,h=>XU rfl (X8 n (k ()) h)
 | n + 1,.point _ k,h=>XU rfl (X8 n (k ()) h)
 | n + 1,.ask k,h=>XU rfl (X8 n (k ⟨PP,w.params⟩) h)
 | n + 1,.pure a,h=>h
 | n + 1,.raise e,h=>h
 | n + 1,.unsupported e,h=>h
 | n + 1,.finish e,h=>h
 | n + 1,.load a b k,h=>h
 | n + 1,.update a b f k,h=>h
 | n + 1,.alloc a k,h=>h
 | n + 1,.loadIfAlive a k,h=>h
 | n + 1,.register a k,h=>h
 | n + 1,.fresh k,h=>h
 | n + 1,.choose a b k,h=>h
 | n + 1,.os a b k,h=>h
 | n + 1,.call a b e f k,h=>h
 | n + 1,.handled a k,h=>h
 | n + 1,.newGen a k,h=>h
 | n + 1,.genState a k,h=>h
 | n + 1,.resume a b e k,h=>h
 | n + 1,.yield a b e k,h=>h
 | n + 1,.stack k,h=>h
 | n + 1,.fork a k,h=>h
 | n + 1,.thread k,h=>h
 | n + 1,.await a b e f k,h=>h
theorem Wb {s:Shared} {c c':Code} {κ:List KF} {k:Result→Sem PySem.Fin} {gd:Bool} {l:List Value} (hc:Zg c)
  (x:codeAny (model PP w) (Z2 (D + 5 * (κ.length + 1))) c' (RF w D R (⟨c,k⟩::κ)) s):X7 w D R c κ (.call c' none gd l k) s:=by
 refine y_call _ _ _ _ _ _ _ _ _ _ _ _ _ (by intro e; cases e) ?_
 exact Yp (JH hc (by omega)) x
theorem X9 {s:Shared} {c':Code} {κ:List KF} (x:X7 w D R c' κ (Ww c') s):codeAny (model PP w) (Z2 (D + 5 * κ.length)) c' (RF w D R κ) s:=by
 refine y_code _ _ _ _ _ _ ?_
 rw [VH]
 exact wpOwn_mono (fun Γ p hc hΓ=>Iy _ _ _ _ _ (x Γ p hc hΓ)) (fun _ _ h=>h.1) (fun _ _ h=>h)
theorem VF {α:Type} {A:Around} {c:Code} {m:Sem α} {f:Value→Sem Unit} {Q:α→Shared→Prop} {E:Value→Shared→Prop} {s:Shared}
  (x:wpOwn (model PP w) A c m Q (fun _ _=>False) s):wpOwn (model PP w) A c (m.onRaise f) Q E s:=by
 intro Γ p hc hΓ
 rw [Sem.wp_onRaise]
 exact Sem.wp_mono _ Γ m (fun _ _ _ h=>h) (fun _ _ _ h=>h.elim) p s (x Γ p hc hΓ)
theorem U7 {A:Around} {R:Result→Shared→Prop} {e:Expr} {depth a:Nat} {acc:Value} {env:PySem.Env} {s:Shared}
  (now:codeAny (model PP w) A (.compLoop e depth (.ref a) acc env) R s)
  (it:∀ Q:Value→Shared→Prop,(∀ s',codeAny (model PP w) A (.compLoop e depth (.ref a) acc env) R s'→Q (.ref a) s')→wpOwn (model PP w) A (.compStart e depth (.ref a) acc env) (pyIter (.ref a)) Q (fun _ _=>False) s) :
  codeAny (model PP w) A (.compStart e depth (.ref a) acc env) R s:=by
 have hq:(Code.compLoop e depth (.ref a) acc env).quiet=true:=rfl
 have key:wpOwn (model PP w) A (.compStart e depth (.ref a) acc env) (compStart e depth (.ref a) acc env) (postC PP w A R) (fun _ _=>False) s:=by
  unfold compStart
  cases ((clausesOf e)[depth]?).elim false (·.is_async != 0) with
  | true=>exact y_pure _ _ _ _ _ _ _ _ _ (y_again _ _ _ _ _ _ hq now)
  | false=>
   show wpOwn (model PP w) A _ (ask >>= _) _ _ s
   refine wpOwn_bind (wpOwn_of_wpAny (wpAny_askSetting ?_))
   split
   ·exact y_pure _ _ _ _ _ _ _ _ _ (y_again _ _ _ _ _ _ hq now)
   ·have tail:wpOwn (model PP w) A (.compStart e depth (.ref a) acc env) (pyIter (.ref a) >>= fun v=>again (.compLoop e depth v acc env)) (postC PP w A R) (fun _ _=>False) s:=
     wpOwn_bind (it _ fun s' h=>y_pure _ _ _ _ _ _ _ _ _ (y_again _ _ _ _ _ _ hq h))
    refine wpOwn_bind (wpOwn_of_wpAny (wpAny_rule ?_))
    dsimp only
    cases (clausesOf e)[depth]? with
    | none=>exact tail
    | some g=>exact wpOwn_bind (m:=standAt g.iter.pos) (wpOwn_of_wpAny (wpAny_standAt tail))
 refine y_code _ _ _ _ _ _ ?_
 have ed:denote table (.compStart e depth (.ref a) acc env)=(if (Code.compStart e depth (.ref a) acc env).isFrame then (compStart e depth (.ref a) acc env).onRaise (leaving env) else (compStart e depth (.ref a) acc env).onRaise (fun x=>do noteFrame x env; standAt theWindowsPlace)):=rfl
 rw [ed]
 split
 ·exact VF key
 ·exact VF key
theorem O7 {args:Args}:Zg (.builtin "generator.__next__" args):=fun a e=>by
 injection e with e _
 exact absurd e (by decide +kernel)
theorem UX {M:ZA} {j:Nat} {p:Addr × Obj} (h:Yd M j=some p):Z9 M [j]=some [p]:=by rw [Vn,h]; rfl
theorem OU {P:Params} {NR M:ZA} {h:Heap} {i:Nat} {p:Addr × Obj} (e:plc w RO NR M i=some p) (hP:w.params=P) (H:Holds P (NR++RO) M h):h.get? p.1=some p.2:=by
 subst hP
 unfold plc at e
 split at e
 ·exact H.at_ p (Zp e)
 ·split at e
  ·exact H.ro p (Zp e)
  ·split at e
   ·rename_i hb
    cases e
    exact H.base.objs _ hb
   ·cases e
structure Sit (P:Params) (RO:ZA) (hs:Heap) (Ms:ZA) (g₀:Array GenState) (sl:SL) (NR M:ZA) (h:Heap) (g:Array GenState) (t:Nat):Prop where
 nr:NROk RO NR hs
 tk:0 < t
 H:Holds P (NR++RO) M h
 E:Ext Ms hs M h
 B:VK g₀ g sl
noncomputable def U8 (w:World) (D:Nat) (R:Result→Shared→Prop) (st:ST) (sl:SL) (s:Shared):Prop:=match st with
 | .m c κ t=>X7 w D R c κ t s
 | .s c κ k c₁ fs t=>match sl with
  | .some gi _=>SegX (model PP w) ((Z2 (D + 5 * κ.length)).under c) c₁ t fs s (postG PP w (Z2 (D + 5 * κ.length)) c (QF w D R κ) (EF w D R κ) k gi)
  | .none=>True
noncomputable abbrev okC (c:Code) (κ:List KF):Prop:=Zg c∧∀ f∈κ,Zg f.code
noncomputable def JN:ST→Prop
 | .m c κ _=>okC c κ
 | .s c κ _ _ _ _=>okC c κ
theorem okC.push {c c':Code} {κ:List KF} {k:Result→Sem PySem.Fin} (h:okC c κ) (h':Zg c'):okC c' (⟨c,k⟩::κ):=⟨h',fun f hf=>by
 cases hf with
 | head=>exact h.1
 | tail _ hf=>exact h.2 f hf⟩
noncomputable def Wm (w:World) (RO:ZA) (D:Nat) (hs:Heap) (Ms:ZA) (g₀:Array GenState) (d:Drawn) (os:OsState) (R:Result→Shared→Prop) (ih:XN):Prop:=
 ∀ ⦃orc st sl NR M⦄,ih orc st sl NR M→JN st→∀ ⦃h g tk⦄,Sit w.params RO hs Ms g₀ sl NR M h g tk→U8 w D R st sl ⟨h,g,d,tk,os⟩
noncomputable def O8 (w:World) (RO:ZA) (F:Result→ZA→Prop) (hs:Heap) (Ms:ZA) (g₀:Array GenState) (d:Drawn) (os:OsState) (R:Result→Shared→Prop):Prop:=
 ∀ r M' h' g' t',0 < t'→F r M'→Holds w.params RO M' h'→Ext Ms hs M' h'→(AllBare g₀→AllBare g')→R r ⟨h',g',d,t',os⟩
theorem WM {sl:SL} (h:sl.no=true):sl = .none:=by cases sl<;>first | rfl | cases h
theorem JO {a b c:Bool} (h:(a && b && c)=true):a=true∧b=true∧c=true:=by
 cases a<;>cases b<;>cases c<;>first | exact ⟨rfl,rfl,rfl⟩ | cases h
theorem UY {n D':Nat} {sub ro:List Nat} (h:U6 D n D' sub ro=true):Xw sub=true∧V8 sub ro=true∧D + 5 * n + 10≤D':=⟨(JO h).1,(JO h).2.1,Nat.le_of_ble_eq_true (JO h).2.2⟩
theorem Xq {b:Bool} (h:(!b)=true):b=false:=by cases b<;>first | rfl | cases h
theorem WV {ih:XN} (IH:Wm w RO D hs Ms g₀ d os R ih) {orc K a sl NR M} (H:UA w RO ih orc K a sl NR M) (hK:∀ o,JN (K o)) {h g tk} (S:Sit w.params RO hs Ms g₀ sl NR M h g tk) :
  ∃ o,h.get? a=some o∧U8 w D R (K o) sl ⟨h,g,d,tk,os⟩:=by
 unfold UA at H
 split at H
 ·obtain ⟨p,hp,e,H⟩:=XM H
  exact ⟨p.2,e▸OU hp rfl S.H,IH H (hK _) S⟩
 ·exact H.elim
theorem U9 {ih:XN} (IH:Wm w RO D hs Ms g₀ d os R ih) {orc K a f sl NR M} (H:O0 ih orc K a f sl NR M) (hK:JN K) {h g tk} (S:Sit w.params RO hs Ms g₀ sl NR M h g tk) :
  ∃ o,h.get? a=some o∧U8 w D R K sl ⟨h.update a f,g,d,tk,os⟩:=by
 unfold O0 at H
 split at H
 ·obtain ⟨p,hp,H⟩:=XM H
  obtain ⟨hf,e,H'⟩:=YB H
  subst e
  exact ⟨p.2,S.H.at_ p (Zp hp),IH H' hK ⟨S.nr,S.tk,S.H.update hp (Xq hf),S.E.update S.H hp,S.B⟩⟩
 ·obtain ⟨p,hp,H⟩:=XM H
  obtain ⟨hf,e,eo,H'⟩:=YB H
  subst e
  subst eo
  exact ⟨p.2,S.H.at_ p (Zp hp),IH H' hK ⟨S.nr,S.tk,S.H.update hp (Xq hf),S.E.update S.H hp,S.B⟩⟩
 ·exact H.elim
theorem TA {ih:XN} (IH:Wm w RO D hs Ms g₀ d os R ih) (HR:O8 w RO F hs Ms g₀ d os R) {orc κ r sl NR M} (H:Oz F ih orc κ r sl NR M) (hκ:∀ f∈κ,Zg f.code) {h g tk} (S:Sit w.params RO hs Ms g₀ sl NR M h g tk):RF w D R κ r ⟨h,g,d,tk,os⟩:=by
 cases κ with
 | nil=>
  unfold Oz at H
  dsimp only at H
  split at H
  ·rename_i mask _
   obtain ⟨hb,H⟩:=YB H
   exact HR r _ h g tk S.tk H ((S.H.mask mask).back S.nr.nd S.nr.offB S.nr.offR) ((S.E.mask mask).withR S.nr) (Mp S.B hb)
  ·exact H.elim
 | cons f κ=>exact IH H ⟨hκ f (.head _),fun f' hf'=>hκ f' (.tail _ hf')⟩ S
theorem Rx {ih:XN} (IH:Wm w RO D hs Ms g₀ d os R ih) {orc c κ k sl NR M f args o gd l} (H:Ru D ih orc c κ (.call (.ref f) args) k sl NR M f args o) (hc:okC c κ) {h g tk} (S:Sit w.params RO hs Ms g₀ sl NR M h g tk)
  (ho:h.get? f=some o):X7 w D R c κ (.call (.call (.ref f) args) none gd l k) ⟨h,g,d,tk,os⟩:=by
 have hn:Zg (.call (.ref f) args):=fun _ e=>by cases e
 have hw:=Wa hn
 unfold Ru at H
 split at H
 ·rename_i fd hfd
  rw [VJ] at H
  obtain ⟨hd,H⟩:=YB H
  obtain ⟨hco,H⟩:=YB H
  have hd:D + 5 * κ.length + 10 < 1000:=Nat.le_of_ble_eq_true hd
  refine Wb hc.1 (y_code _ _ _ _ _ _ ?_)
  split at H
  ·rename_i hg
   have z:=VX (B:=BaseOk w.params) (fun _ b=>b.lim) (s:=⟨h,g,d,tk,os⟩) ho hfd hg (Xq hco) (by
    show D + 5 * (κ.length + 1) + (Code.call (.ref f) args).weight < 1000
    omega) (IH H (hc.push hn) S)
   exact wpOwn_mono z (fun _ _ h=>h.1) (fun _ _ h=>h)
  ·rename_i hg
   split at H
   ·rename_i bd hbd
    have z:=JK (s:=⟨h,g,d,tk,os⟩) ho hfd hg (Xq hco) hbd (by
     show D + 5 * (κ.length + 1) + (Code.call (.ref f) args).weight < 1000
     omega) (IH H (hc.push hn) S)
    exact wpOwn_mono z (fun _ _ h=>h.1) (fun _ _ h=>h)
   ·exact H.elim
 ·exact H.elim
theorem called {sl:SL} {NR M M₁ ro₁:ZA} {sub ro:List Nat} {C:Con} {h:Heap} {g:Array GenState} {tk n D':Nat} (S:Sit w.params RO hs Ms g₀ sl NR M h g tk) (hsl:sl = .none) (hB:U6 D n D' sub ro=true) (hs₁:Z9 M sub=some M₁) (hr₁:Z9 M ro=some ro₁) (hMC:M₁=C.mem)
  {r:Result} {M':ZA} {h':Heap} {g':Array GenState} {t':Nat} (ht':0 < t') (hk:C.post r M') (hM':Holds w.params (ro₁++(NR++RO)) M' h') (hE':Ext M₁ h M' h') (hB':AllBare g→AllBare g') :
  ∃ ρ,r=C.r ρ∧Sit w.params RO hs Ms g₀ .none (C.newR ρ++NR) (C.new ρ++Yb M sub (C.upd ρ)) h' g' t':=by
 obtain ⟨ρ,rfl,rfl,hl⟩:=hk
 subst hsl
 rw [← hMC] at hM' hE' hl
 exact ⟨ρ,rfl,S.nr.more hl hM' S.E hE',ht',(S.H.called hs₁ hl hM' hE').assoc,(S.E.called hs₁ hl hM' hE').less,fun x=>hB' (S.B x)⟩
theorem Qi {n:Nat} (IH:Wm w RO D hs Ms g₀ d os R (Xg w RO D F n)) {orc c κ c' k sl NR M gd l} (H:O4 w RO D (Xg w RO D F n) orc c κ c' k sl NR M) (hc:okC c κ) {h g tk} (S:Sit w.params RO hs Ms g₀ sl NR M h g tk) :
  X7 w D R c κ (.call c' none gd l k) ⟨h,g,d,tk,os⟩:=by
 unfold O4 at H
 split at H
 ·rename_i D' sub ro C ff _
  rw [VJ] at H
  obtain ⟨hb,H⟩:=YB H
  obtain ⟨hsl,H⟩:=YB H
  obtain ⟨M₁,hs₁,H⟩:=XM H
  obtain ⟨ro₁,hr₁,hC,hMC,H⟩:=XM H
  obtain ⟨hdi,hap,hle⟩:=UY hb
  refine Wb hc.1 (Yp (Yy (D':=D') (by omega)) (hC h g d tk os _ S.tk (S.H.sub hdi hap hs₁ hr₁) fun r M' h' g' t' ht' hk hM' hE' hB'=>?_))
  obtain ⟨ρ,rfl,S'⟩:=called S (WM hsl) hb hs₁ hr₁ hMC ht' hk hM' hE' hB'
  exact IH (H ρ) hc (WM hsl▸S')
 ·rename_i D' sub ro PX C ff _
  rw [VJ] at H
  obtain ⟨hb,H⟩:=YB H
  obtain ⟨hsl,H⟩:=YB H
  obtain ⟨M₁,hs₁,H⟩:=XM H
  obtain ⟨ro₁,hr₁,hC,hMC,H⟩:=XM H
  obtain ⟨hdi,hap,hle⟩:=UY hb
  refine Wb hc.1 (Yp (Yy (D':=D') (by omega)) (hC h g d tk os _ S.tk (S.H.sub hdi hap hs₁ hr₁) fun r M' h' g' t' ht' hk hM' hE' hB'=>?_))
  obtain ⟨x,px,hk⟩:=hk
  obtain ⟨ρ,rfl,S'⟩:=called S (WM hsl) hb hs₁ hr₁ (hMC x) ht' hk hM' hE' hB'
  exact IH (H x px ρ) hc (WM hsl▸S')
 ·rename_i D' j orc'
  split at H
  ·rename_i e depth a acc env
   rw [VJ] at H
   obtain ⟨hle,H⟩:=YB H
   have hle:D + 5 * κ.length + 10≤D':=Nat.le_of_ble_eq_true hle
   obtain ⟨p,hp,ea,hI,H⟩:=XM H
   have hn:Zg (.compLoop e depth (.ref a) acc env):=fun _ q=>by cases q
   have go:∀ h g tk,Sit w.params RO hs Ms g₀ sl NR M h g tk→codeAny (model PP w) (Z2 (D + 5 * (κ.length + 1))) (.compLoop e depth (.ref a) acc env) (RF w D R (⟨c,k⟩::κ)) ⟨h,g,d,tk,os⟩:=
    fun h g tk S=>X9 (κ:=⟨c,k⟩::κ) (IH H (hc.push hn) S)
   refine Wb hc.1 (U7 (go h g tk S) fun Q hQ=>?_)
   have le:ALe (Z2 (D + 5 * (κ.length + 1))) (Z2 D'):=Yy (by omega)
   have hM₁:Holds w.params (NR++RO) [p] h:=S.H.sub (sub:=[j]) (ro:=[]) rfl rfl (UX hp) rfl
   cases sl with
   | some gi gs=>
    have z:=wpOwn_of_wpAny (c:=.compStart e depth (.ref a) acc env) (hI ((Z2 D').under (.compStart e depth (.ref a) acc env)) h g d tk os Q hM₁ (by
     rw [← ea]
     exact hQ _ (go h g tk S)))
    rw [← ea] at z
    intro Γ q hΓc hΓ
    exact z Γ q hΓc (Xy le hΓ)
   | none=>
    have z:=hI h g d tk os Q (fun _ _=>False) (.compStart e depth (.ref a) acc env) (fun _ q=>by cases q) S.tk hM₁ (fun h' g'' t' ht' hM' hE' hB'=>by
     rw [← ea]
     have y:=S.H.called (NR:=[]) (N:=[]) (us:=[p.2]) (UX hp) rfl (ro₁:=[]) hM' hE'
     have y':=S.E.called (NR:=[]) (N:=[]) (us:=[p.2]) (UX hp) rfl hM' hE'
     have e2:Yb M [j] [p.2]=M:=Vm hp
     rw [e2] at y y'
     exact hQ _ (go h' g'' t' ⟨S.nr,ht',y,y',fun x=>hB' (S.B x)⟩))
    rw [← ea] at z
    intro Γ q hΓc hΓ
    exact z Γ q hΓc (Xy le hΓ)
  ·exact H.elim
 ·rename_i i orc'
  obtain ⟨x,hx,H⟩:=XM H
  obtain ⟨p,hp,e,H⟩:=XM H
  unfold OT at hx
  split at hx
  ·cases hx
   exact Rx IH H hc S ((congrArg h.get? e).trans (OU hp rfl S.H))
  ·cases hx
 ·exact Wb hc.1 (X9 (κ:=⟨c,k⟩::κ) (IH H (hc.push (VE H)) S))
theorem Ry {n:Nat} (IH:Wm w RO D hs Ms g₀ d os R (Xg w RO D F n)) (HR:O8 w RO F hs Ms g₀ d os R) {orc c' κ sl NR M} (H:Rv w RO D F (Xg w RO D F n) orc c' κ sl NR M) (hκ:∀ f∈κ,Zg f.code) {h g tk} (S:Sit w.params RO hs Ms g₀ sl NR M h g tk) :
  codeAny (model PP w) (Z2 (D + 5 * κ.length)) c' (RF w D R κ) ⟨h,g,d,tk,os⟩:=by
 unfold Rv at H
 split at H
 ·rename_i D' sub ro C mask _
  obtain ⟨hq,H0⟩:=YB H
  obtain ⟨hb,H1⟩:=YB H0
  obtain ⟨hsl,hκ0⟩:=Bool.and_eq_true_iff.mp hb
  obtain rfl:κ=[]:=List.isEmpty_iff.mp hκ0
  obtain ⟨M₁,hs₁,H2⟩:=XM H1
  obtain ⟨ro₁,hr₁,hC,hMC,H3⟩:=XM H2
  obtain ⟨hdi,hap,hle⟩:=UY hq
  refine Yp (Yy (D':=D') (by show D + 5 * 0≤D'; omega)) (hC h g d tk os _ S.tk (S.H.sub hdi hap hs₁ hr₁) fun r M' h' g' t' ht' hk hM' hE' hB'=>?_)
  obtain ⟨ρ,rfl,S'⟩:=called S (WM hsl) hq hs₁ hr₁ hMC ht' hk hM' hE' hB'
  exact HR _ _ _ _ _ ht' (H3 ρ) ((S'.H.mask mask).back S'.nr.nd S'.nr.offB S'.nr.offR) ((S'.E.mask mask).withR S'.nr) S'.B
 ·rename_i D' mask _
  obtain ⟨hle,H0⟩:=YB H
  obtain ⟨hb,hC⟩:=YB H0
  obtain ⟨hsl,hκ0⟩:=Bool.and_eq_true_iff.mp hb
  obtain rfl:κ=[]:=List.isEmpty_iff.mp hκ0
  have hle:D≤D':=Nat.le_of_ble_eq_true hle
  have hB:=S.B
  rw [WM hsl] at hB
  refine Yp (Yy (D':=D') (by show D + 5 * 0≤D'; omega)) (hC h g d tk os _ S.tk (S.H.mask mask) fun r M' h' g'' t' ht' k hM' hE' hB'=>?_)
  exact HR _ _ _ _ _ ht' k (hM'.back S.nr.nd S.nr.offB S.nr.offR) (((S.E.mask mask).trans hE').withR S.nr) fun x=>hB' (hB x)
 ·rename_i orc'
  obtain ⟨x,hx,H1⟩:=XM H
  rw [VJ] at H1
  obtain ⟨hd,ei,H2⟩:=YB H1
  clear H H1
  unfold GN at hx
  split at hx
  ·rename_i id gv
   cases hx
   dsimp only at ei H2
   subst ei
   have hd:D + 5 * κ.length + 10 < 1000:=Nat.le_of_ble_eq_true hd
   have hn:Zg (.builtin "generator.__next__" ⟨[gv],[]⟩):=O7
   have hw:=Wa hn
   exact y_code _ _ _ _ _ _ (wpOwn_mono (GM (by
    show D + 5 * κ.length + (Code.builtin "generator.__next__" ⟨[gv],[]⟩).weight < 1000
    omega) (IH H2 ⟨hn,hκ⟩ S)) (fun _ _ h=>h.1) (fun _ _ h=>h))
  ·cases hx
 ·exact X9 (IH H ⟨VE H,hκ⟩ S)
theorem TB {ih:XN} (IH:Wm w RO D hs Ms g₀ d os R ih) {orc c κ k c₁ fs r gi NR M} (H:O5 ih orc c κ k fs r gi NR M) (hc:okC c κ) {t:Sem PySem.Fin} (hl:t=leafOf r) {h g tk} (S:Sit w.params RO hs Ms g₀ (.some gi .running) NR M h g tk) :
  U8 w D R (.s c κ k c₁ fs t) (.some gi .running) ⟨h,g,d,tk,os⟩:=by
 unfold O5 at H
 split at H
 ·exact s_end _ _ _ _ _ _ _ t hl (IH H hc ⟨S.nr,S.tk,S.H,S.E,VZ S.B⟩)
 ·exact s_pop _ _ _ _ _ _ _ r t hl _ _ _ _ _ _ _ (IH H hc S)
 ·exact H.elim
theorem O9 {ih:XN} (IH:Wm w RO D hs Ms g₀ d os R ih) {orc c κ k c₁ fs t gi NR M} (H:O6 w RO ih orc c κ k c₁ fs t gi NR M) (hc:okC c κ) {h g tk} (S:Sit w.params RO hs Ms g₀ (.some gi .running) NR M h g tk) :
  U8 w D R (.s c κ k c₁ fs t) (.some gi .running) ⟨h,g,d,tk,os⟩:=by
 cases t with
 | pure fin=>
  cases fin with
  | done f=>exact TB IH H hc rfl S
  | again c'=>
   obtain ⟨hq,H⟩:=YB H
   have x:=IH H hc S
   refine s_again _ _ _ _ _ _ _ c' hq ?_
   rw [VH]
   exact x
 | raise e=>exact TB IH H hc rfl S
 | rule tag q=>exact s_skim _ _ _ _ _ _ _ _ 1 (IH H hc S)
 | «at» _ q=>exact s_skim _ _ _ _ _ _ _ _ 1 (IH H hc S)
 | point _ q=>exact s_skim _ _ _ _ _ _ _ _ 1 (IH H hc S)
 | ask q=>exact s_skim _ _ _ _ _ _ _ _ 1 (IH H hc S)
 | load a _ q=>
  obtain ⟨o,ho,x⟩:=WV (K:=fun o=>.s c κ k c₁ fs (q o)) IH H (fun _=>hc) S
  exact s_load _ _ _ _ _ _ _ _ _ _ _ _ _ _ _ ho x
 | loadIfAlive a q=>
  obtain ⟨o,ho,x⟩:=WV (K:=fun o=>.s c κ k c₁ fs (q (some o))) IH H (fun _=>hc) S
  exact s_alive _ _ _ _ _ _ _ _ _ _ _ _ _ _ ho x
 | update a pq f q=>
  obtain ⟨o,ho,x⟩:=U9 (K:=.s c κ k c₁ fs (q ())) IH H hc S
  exact s_cmd _ _ _ _ _ _ (m:=updatePart a pq f) (k:=q) (wpAny_updatePart ho x)
 | alloc o q=>
  obtain ⟨hf,H⟩:=YB H
  exact s_cmd _ _ _ _ _ _ (m:=alloc o) (k:=q) (wpAny_alloc (IH (H h.objs.size) hc ⟨S.nr,S.tk,S.H.alloc (Xq hf),S.E.alloc o,S.B⟩))
 | fresh q=>exact s_fresh _ _ _ _ _ _ _ _ _ _ _ _ (IH (H tk) hc ⟨S.nr,Nat.succ_pos _,S.H,S.E,S.B⟩)
 | call c' hd gd l q=>
  refine s_call _ _ _ _ _ _ _ _ _ _ _ _ fun p=>?_
  have x:=IH (H p) hc S
  rw [VH]
  exact x
 | yield v gd l q=>
  unfold O6 at H
  dsimp only at H
  split at H
  ·rename_i h1
   obtain ⟨hb,H1⟩:=YB H
   obtain ⟨hg,h2⟩:=Bool.and_eq_true_iff.mp hb
   obtain rfl:=Xq hg
   exact s_yield _ _ _ _ _ _ _ _ _ _ h1 (Xq h2) fun p=>IH (H1 p) hc ⟨S.nr,S.tk,S.H,S.E,VZ S.B⟩
  ·exact H.elim
 | handled own q=>
  unfold O6 at H
  dsimp only at H
  split at H
  ·rename_i hm
   obtain ⟨ho,H⟩:=YB H
   obtain rfl:=Xq ho
   have x:=IH H hc S
   refine s_handled _ _ _ _ _ _ _ _ ?_
   rw [show (((Z2 (D + 5 * κ.length)).under c).over c₁ fs).handled=none from hm]
   exact x
  ·exact H.elim
 | unsupported=>exact H.elim
 | finish=>exact H.elim
 | register=>exact H.elim
 | choose=>exact H.elim
 | os=>exact H.elim
 | newGen=>exact H.elim
 | genState=>exact H.elim
 | resume=>exact H.elim
 | stack=>exact H.elim
 | fork=>exact H.elim
 | thread=>exact H.elim
 | await=>exact H.elim
theorem TC (HR:O8 w RO F hs Ms g₀ d os R):∀ n,Wm w RO D hs Ms g₀ d os R (Xg w RO D F n)
 | 0=>fun _ _ _ _ _ H=>H.elim
 | n + 1=>by
  have IH:=TC HR n
  intro orc st sl NR M H hc h g tk S
  cases st with
  | s c κ k c₁ fs t=>
   cases sl with
   | none=>exact H.elim
   | some gi gs=>
    cases gs with
    | running=>exact O9 IH H hc S
    | _=>exact H.elim
  | m c κ t=>
   cases t with
   | pure fin=>
    cases fin with
    | done f=>exact y_pure _ _ _ _ _ _ _ _ _ ⟨TA IH HR H hc.2 S,S.H.base⟩
    | again c'=>
     obtain ⟨hq,H⟩:=YB H
     exact y_pure _ _ _ _ _ _ _ _ _ ⟨y_again _ _ _ _ _ _ hq (Ry IH HR H hc.2 S),S.H.base⟩
   | raise e=>exact y_raise _ _ _ _ _ _ _ _ _ (TA IH HR H hc.2 S)
   | rule tag k=>exact XU rfl (IH H hc S)
   | «at» q k=>exact XU rfl (IH H hc S)
   | point l k=>exact XU rfl (IH H hc S)
   | ask k=>exact XU rfl (IH H hc S)
   | load a q k=>
    obtain ⟨o,ho,x⟩:=WV (K:=fun o=>.m c κ (k o)) IH H (fun _=>hc) S
    exact y_load _ _ _ _ _ _ _ _ _ _ _ _ _ _ _ _ ho x
   | loadIfAlive a k=>
    obtain ⟨o,ho,x⟩:=WV (K:=fun o=>.m c κ (k (some o))) IH H (fun _=>hc) S
    exact y_alive _ _ _ _ _ _ _ _ _ _ _ _ _ _ _ ho x
   | update a q f k=>
    obtain ⟨o,ho,x⟩:=U9 (K:=.m c κ (k ())) IH H hc S
    exact wpOwn_bind (m:=updatePart a q f) (f:=k) (wpOwn_of_wpAny (wpAny_updatePart ho x))
   | alloc o k=>
    obtain ⟨hf,H⟩:=YB H
    exact wpOwn_bind (m:=alloc o) (f:=k) (wpOwn_of_wpAny (wpAny_alloc (IH (H h.objs.size) hc ⟨S.nr,S.tk,S.H.alloc (Xq hf),S.E.alloc o,S.B⟩)))
   | fresh k=>
    replace H:Rw w (Xg w RO D F n) orc c κ k sl NR M:=H
    unfold Rw at H
    split at H
    ·rename_i nn ff rest
     obtain ⟨t0,rfl⟩:∃ t0,tk=t0 + 1:=⟨tk - 1,by have:=S.tk; omega⟩
     replace H:=H t0
     refine y_fresh _ _ _ _ _ _ _ _ _ _ _ _ _ (X8 nn _ ?_)
     split at H
     ·rename_i k2 e
      rw [e]
      exact y_fresh _ _ _ _ _ _ _ _ _ _ _ _ _ (IH H hc ⟨S.nr,Nat.succ_pos _,S.H,S.E,S.B⟩)
     ·exact H.elim
    ·exact y_fresh _ _ _ _ _ _ _ _ _ _ _ _ _ (IH (H tk) hc ⟨S.nr,Nat.succ_pos _,S.H,S.E,S.B⟩)
   | handled own k=>
    obtain ⟨ho,H⟩:=YB H
    obtain rfl:=Xq ho
    exact y_handled _ _ _ _ _ _ _ _ _ (IH H hc S)
   | call c' hd gd l k=>
    cases hd with
    | none=>exact Qi IH H hc S
    | some=>exact H.elim
   | newGen c' k=>
    obtain ⟨hsl,H⟩:=YB H
    obtain rfl:=WM hsl
    exact y_newGen _ _ _ _ _ _ _ _ _ _ _ _ _ _ (IH (H g.size) hc ⟨S.nr,S.tk,S.H,S.E,JM _ S.B⟩)
   | genState i k=>
    cases sl with
    | none=>exact H.elim
    | some gi gs=>
     obtain ⟨ei,H⟩:=H
     exact y_genState _ _ _ _ _ _ _ _ _ _ gs (ei▸S.B.1) (IH H hc S)
   | resume i r l k=>
    cases sl with
    | none=>exact H.elim
    | some gi gs=>
     obtain ⟨ei,H⟩:=H
     subst ei
     cases gs with
     | fresh c₀=>
      cases r with
      | send v=>
       cases v with
       | none=>
        have x:=IH H hc ⟨S.nr,S.tk,S.H,S.E,VZ S.B⟩
        refine y_resume_f _ _ _ _ _ _ _ _ _ _ _ c₀ S.B.1 ?_
        rw [← VH] at x
        exact x
       | _=>exact H.elim
      | throw=>exact H.elim
     | suspended k₀ l₀ c₀ p₀ fs₀ cl=>exact y_resume_s _ _ _ _ _ _ _ _ _ _ _ _ _ _ _ _ _ _ S.B.1 (IH H hc ⟨S.nr,S.tk,S.H,S.E,VZ S.B⟩)
     | running=>exact H.elim
     | finished=>exact H.elim
   | unsupported=>exact H.elim
   | finish=>exact H.elim
   | register=>exact H.elim
   | choose=>exact H.elim
   | os=>exact H.elim
   | yield=>exact H.elim
   | stack=>exact H.elim
   | fork=>exact H.elim
   | thread=>exact H.elim
   | await=>exact H.elim
end
section
variable {w:World} {RO:ZA} {D:Nat}
theorem RunsTo.out {K:Result→ZA→Prop} {orc:List OE} {c:Code} {t:Sem PySem.Fin} {M:ZA} (hn:Zg c) (H:RunsTo w D K orc c t RO M) {h:Heap} {g:Array GenState} {d:Drawn} {tk:Nat} {os:OsState} {R:Result→Shared→Prop} (ht:0 < tk) (hM:Holds w.params RO M h) (HR:O8 w RO K h M g d os R):X7 w D R c [] t ⟨h,g,d,tk,os⟩:=by
 exact TC HR 99999 H.go ⟨hn,fun _ hf=>nomatch hf⟩ ⟨NROk.nil RO h,ht,hM,Ext.refl M h,fun x=>x⟩
theorem ZD.of_runs {c:Code} {M:ZA} {K:Result→ZA→Prop} {orc:List OE} (H:RunsTo w D K orc c (Ww c) RO M):ZD w RO D c M K:=fun h g d t os R ht hM HR=>
 X9 (κ:=[]) (H.out (VE H.go) ht hM HR)
theorem ZD.of_tree {c:Code} {T:Sem PySem.Fin} {M:ZA} {K:Result→ZA→Prop} (hn:Zg c) (ht:∀ h,Holds w.params RO M h→denote table c=T) {orc:List OE} (H:RunsTo w D K orc c T RO M):ZD w RO D c M K:=by
 intro h g d t os R htp hM HR
 refine y_code _ _ _ _ _ _ ?_
 rw [ht h hM]
 exact wpOwn_mono (H.out hn htp hM HR) (fun _ _ h=>h.1) (fun _ _ h=>h)
theorem ZD.of_def {f:Addr} {args:Args} {M:ZA} {K:Result→ZA→Prop} {o:Obj} {fd:FuncData} (ho:∀ h,Holds w.params RO M h→h.get? f=some o) (hf:o.data = .func fd) (hg:fd.scope.isGenerator=false) (hco:fd.scope.isCoroutine=false) (hd:D + 10 < 1000)
  {orc:List OE} (H:RunsTo w D K orc (.call (.ref f) args) (Yj f fd args) RO M):ZD w RO D (.call (.ref f) args) M K:=by
 intro h g d t os R ht hM HR
 have hn:Zg (.call (.ref f) args):=fun _ e=>by cases e
 refine y_code _ _ _ _ _ _ ?_
 have hw:=Wa hn
 have z:=VX (B:=BaseOk w.params) (fun _ b=>b.lim) (s:=⟨h,g,d,t,os⟩) (ho h hM) hf hg hco (by
  show D + (Code.call (.ref f) args).weight < 1000
  omega) (H.out hn ht hM HR)
 exact wpOwn_mono z (fun _ _ h=>h.1) (fun _ _ h=>h)
noncomputable def fdB (P:Params) (a:Nat):FuncData:=match (lkB P a).data with | .func fd=>fd | _=>default
noncomputable def Z1 (P:Params) (f:Nat):Bool:=XV f && match (lkB P f).data with
 | .func fd=>!fd.scope.isGenerator && !fd.scope.isCoroutine
 | _=>false
theorem W9 {P:Params} {f:Nat} (hf:Z1 P f=true):(lkB P f).data = .func (fdB P f)∧(fdB P f).scope.isGenerator=false∧(fdB P f).scope.isCoroutine=false:=by
 obtain ⟨_,hf⟩:=Bool.and_eq_true_iff.mp hf
 split at hf
 ·rename_i fd e
  obtain ⟨hg,hc⟩:=Bool.and_eq_true_iff.mp hf
  have e':fdB P f=fd:=by unfold fdB; rw [e]
  rw [e']
  exact ⟨e,Xq hg,Xq hc⟩
 ·cases hf
theorem ZD.of_base {f:Addr} {args:Args} {M:ZA} {K:Result→ZA→Prop} (hf:Z1 w.params f=true) (hd:D + 10 < 1000)
  {orc:List OE} (H:RunsTo w D K orc (.call (.ref f) args) (Yj f (fdB w.params f) args) RO M):ZD w RO D (.call (.ref f) args) M K:=
 have z:=W9 hf
 ZD.of_def (fun _ h=>h.base.objs f (Bool.and_eq_true_iff.mp hf).1) z.1 z.2.1 z.2.2 hd H
end
theorem EX {p q:Prop} (e:p=q) (h:q):p:=by rw [e]; exact h
noncomputable def rl (l:List Nat) (i:Nat):Nat:=l.getD i 0
theorem Con.post_of (C:Con) (ρ:Nat→Nat) (hl:(C.upd ρ).length=C.mem.length):C.post (C.r ρ) (C.newR ρ++(C.new ρ++Xv C.mem (C.upd ρ))):=⟨ρ,rfl,rfl,hl⟩
noncomputable def hs (w:World) (s:Str):Int:=if s.cps.isEmpty=true then 0 else reduceHash (w.params.strHash s.cps)
theorem ZD.ro_more {w:World} {RO RO':ZA} {D:Nat} {c:Code} {M:ZA} {K:Result→ZA→Prop} (x:ZD w RO D c M K) (hr:∀ p∈RO,p∈RO'):ZD w RO' D c M K:=by
 intro h g d t os R ht hM hR
 refine x h g d t os R ht (hM.ro_less hr) fun r M' h' g' t' ht' k hM' hE' hB'=>hR r M' h' g' t' ht' k ?_ hE' hB'
 have old:∀ p∈RO',p.1∉M.map (·.1):=fun p hp hm=>by
  obtain ⟨q,hq,e⟩:=List.mem_map.mp hm
  exact hM.offR q hq (e▸List.mem_map_of_mem hp)
 refine ⟨hM'.base,fun p hp=>hE'.keep _ _ (hM.ro p hp) (old p hp),hM'.at_,hM'.nd,hM'.offB,fun p hp hm=>?_⟩
 obtain ⟨q,hq,e⟩:=List.mem_map.mp hm
 rcases hE'.fresh p hp with y | y
 ·exact old q hq (e▸y)
 ·have:=Heap.lt_size (hM.ro q hq)
  rw [e] at this
  exact absurd this (Nat.not_lt.mpr y)
noncomputable def ent (w:World) (s:Str) (t:Nat) (v:Value):DictEntry:=⟨hs w s,.str s t,v⟩
noncomputable def wf (w:World) (b:Bool):World:={ w with params:={ w.params with followText:=fun s=>if s="special-get-raises" then b else w.params.followText s } }
theorem FR (w:World):wf w (w.params.followText "special-get-raises")=w:=by
 have:(fun s=>if s="special-get-raises" then w.params.followText "special-get-raises" else w.params.followText s)=w.params.followText:=by
  funext s
  split
  ·rename_i e; rw [e]
  ·rfl
 unfold wf
 rw [this]
noncomputable def NA (a:Nat):Sem PySem.Fin:=R.bindR (PySem.W.Fast.tw8711993805878244202 (.ref a)) fun v=>.pure (.done (.ret v))
theorem Z0.of_runs {w:World} {RO:ZA} {D a:Nat} {o:Obj} {orc:List OE}
  (H:∀ c,RunsTo w D (fun r M'=>r = .ok (.ret (.ref a))∧M'=[(a,o)]) orc c (NA a) RO [(a,o)]):Z0 w RO D a o:=by
 intro h g d t os Q E c hc ht hM hQ
 have x:=(H c).out (d:=d) (g:=g) (os:=os) (R:=fun r s'=>match r with | .ok (.ret v)=>Q v s' | _=>False) hc ht hM (fun r M' h' g' t' ht' hF hM' hE' hB'=>by
  obtain ⟨rfl,rfl⟩:=hF
  exact hQ h' g' t' ht' hM' hE' hB')
 unfold NA at x
 rw [← R.bindR_eq,← PySem.W.Fast.te8711993805878244202] at x
 intro Γ p hΓc hΓ
 have z:=x Γ p hΓc hΓ
 rw [Sem.wp_bind] at z
 refine Sem.wp_mono _ Γ _ (fun v p' s' y=>?_) (fun e p' s' y=>?_) p _ z
 ·exact y.1
 ·exact (show False from y).elim
noncomputable def adr (M:ZA) (A:List Nat):List Nat:=@List.rec (Addr × Obj) (fun _=>List Nat) A (fun p _ ih=>p.1::ih) M
noncomputable def Vp:List Nat→Nat→Nat:=@List.rec Nat (fun _=>Nat→Nat) (fun _=>0) (fun p _ ih i=>@Nat.rec (fun _=>Nat) p (fun j _=>ih j) i)
noncomputable def F8 (c:Nat) (r:List OE):List OE:=match Nat.blt c 94 with
 | true=>.n c::r
 | false=>match Nat.blt c 100 with
  | true=>match Nat.blt c 98 with
   | true=>r
   | false=>[.bind fun _=>r]
  | false=>match Nat.blt c 430 with
   | true=>.n (c + 900)::r
   | false=>match Nat.blt c 500 with
    | true=>.n (c + 70)::r
    | false=>match Nat.blt c 900 with
     | true=>.enter (c + 500)::r
     | false=>.enter (c - 900)::r
noncomputable def NB {α:Sort _} (f:α→α) (n:Nat) (x:α):α:=@Nat.rec (fun _=>α) x (fun _ y=>f y) n
noncomputable def NC {α:Sort _} (f:Nat→α→α) (x:α) (n:Nat):α:=@Nat.rec (fun _=>Nat→α) (fun _=>x) (fun _ ih n=>@Nat.rec (fun _=>α) x (fun m _=>f (Nat.mod m 10000) (ih (Nat.div m 10000))) n) 999 n
noncomputable def nsO (l:Nat) (r:List OE):List OE:=NC (fun v ih=>NB (F8 (Nat.mod v 1000)) (Nat.succ (Nat.div v 1000)) ih) r l
noncomputable def JP (RO NR:ZA) (c:Nat) (X:Nat→List Nat→Prop) (g:Nat) (A:List Nat):Prop:=match Nat.blt c 94 with
 | true=>Vp A c=Vp A c∧X g A
 | false=>match Nat.blt c 100 with
  | true=>match c with
   | 94=>g=g∧X g A
   | 95=>∀ g',X g' A
   | 96=>Pos→X g A
   | 98=>∀ a,X g (a::A)
   | _=>Nat→X g A
  | false=>match Nat.blt c 430 with
   | true=>c - 100=c - 100∧X g A
   | false=>match Nat.blt c 500 with
    | true=>Vp (adr (NR++RO) []) (c - 430)=Vp (adr (NR++RO) []) (c - 430)∧X g A
    | false=>match Nat.blt c 900 with
     | true=>c - 500=c - 500∧X g A
     | false=>Vp A (c - 900)=Vp A (c - 900)∧X g A
noncomputable def nsQ (RO NR:ZA) (l:Nat) (X:Nat→List Nat→Prop):Nat→List Nat→Prop:=NC (fun v ih=>NB (JP RO NR (Nat.mod v 1000)) (Nat.succ (Nat.div v 1000)) ih) X l
theorem Mq {RO NR:ZA} {c:Nat} {X:Nat→List Nat→Prop} (h:∀ g A,X g A) (g:Nat) (A:List Nat):JP RO NR c X g A:=by
 unfold JP
 split
 ·exact ⟨rfl,h _ _⟩
 ·split
  ·split
   ·exact ⟨rfl,h _ _⟩
   ·exact fun _=>h _ _
   ·exact fun _=>h _ _
   ·exact fun _=>h _ _
   ·exact fun _=>h _ _
  ·split
   ·exact ⟨rfl,h _ _⟩
   ·split
    ·exact ⟨rfl,h _ _⟩
    ·split<;>exact ⟨rfl,h _ _⟩
theorem Sd {f:(Nat→List Nat→Prop)→(Nat→List Nat→Prop)} (hf:∀ X,(∀ g A,X g A)→∀ g A,f X g A) {X:Nat→List Nat→Prop} (h:∀ g A,X g A):∀ n g A,NB f n X g A
 | 0=>h
 | n + 1=>hf _ (Sd hf h n)
theorem I1 {α:Sort _} {f:Nat→α→α} {x:α} {p:α→Prop} (hx:p x) (hf:∀ v y,p y→p (f v y)) (n:Nat):p (NC f x n):=by
 unfold NC
 generalize 999=k
 induction k generalizing n with
 | zero=>exact hx
 | succ k ih=>
  cases n with
  | zero=>exact hx
  | succ m=>exact hf _ _ (ih _)
theorem JQ {RO NR:ZA} {X:Nat→List Nat→Prop} (h:∀ g A,X g A) (l:Nat):∀ g A,nsQ RO NR l X g A:=
 I1 (p:=fun X:Nat→List Nat→Prop=>∀ g A,X g A) h (fun _ _ y=>Sd (fun _ x=>Mq x) y _) l
noncomputable def mkB (l:List Nat):List Bool:=l.foldr (fun n r=>NB (fun r=>(n % 2 == 1)::r) (n / 2 + 1) r) (List.replicate 99 true)
inductive CE (w:World) (RO:ZA):ZA→Type
 | l {R:ZA} (s:Nat) (k:CE w RO R):CE w RO R
 | a {R:ZA} (f:Nat→CE w RO R):CE w RO R
 | t {R:ZA} (f:Nat→CE w RO R):CE w RO R
 | u {R:ZA} (n:Nat) (f:Nat→CE w RO R):CE w RO R
 | x {R:ZA} {D:Nat} (C:Con) (s r:List Nat) (X:ZA) (p:C.ok w (X++(R++RO)) D) (f:(Nat→Nat)→CE w RO R):CE w RO R
 | n {R:ZA} {D:Nat} (C:Con) (s r:List Nat) (X:ZA) (p:C.ok w (X++(R++RO)) D) (f:(ρ:Nat→Nat)→CE w RO (C.newR ρ++R)):CE w RO R
 | y {R:ZA} {D:Nat} (s r:List Nat) (X:ZA) (P:LX→Prop) (C:LX→Con) (c:Code) (M:ZA) (p:ZD w (X++(R++RO)) D c M (fun r M'=>∃ x,P x∧(C x).post r M')) (h:∀ x,M=(C x).mem) (f:(x:LX)→P x→(ρ:Nat→Nat)→CE w RO ((C x).newR ρ++R)):CE w RO R
 | c {R:ZA} {D a:Nat} {o:Obj} (j:Nat) (p:Z0 w (R++RO) D a o) (k:CE w RO R):CE w RO R
 | d {R:ZA} {q:Addr × Obj} (j:Nat) (p:Rg w (R++RO) q) (k:CE w RO R):CE w RO R
 | s {R:ZA} {f:Obj→Obj} {o o':Obj} (i:Nat) (p:f o=o') (k:CE w RO R):CE w RO R
 | g {R:ZA} (k:CE w RO R):CE w RO R
 | z {R:ZA} (m:List Nat) (ρ:Nat→Nat):CE w RO R
 | f {R:ZA} (m:List Nat) {P:Prop} (p:P):CE w RO R
 | e {R:ZA} {D:Nat} (m:List Nat) {c:Code} {M:ZA} {K:Result→ZA→Prop} (p:ZD w (R++RO) D c M K):CE w RO R
 | i {R:ZA} {D:Nat} (C:Con) (s:List Nat) (p:C.ok w (R++RO) D) (m:List Nat) (ρ:(Nat→Nat)→Nat→Nat):CE w RO R
section
variable {w:World} {RO:ZA}
noncomputable def CE.o {R:ZA} (c:CE w RO R):List OE:=@CE.rec w RO (fun _ _=>List OE)
 (fun s _ ih=>nsO s ih) (fun _ ih=>[.bind ih]) (fun _ ih=>[.bind ih]) (fun n _ ih=>[.fr2 n ih])
 (fun {_ D} C s r _ _ _ ih=>[.skip D s r C ih]) (fun {_ D} C s r _ _ _ ih=>[.skip D s r C ih]) (fun {_ D} s r _ P C _ _ _ _ _ ih=>[.skx D s r P C ih])
 (fun {_ D _ _} j _ _ ih=>.comp D j::ih) (fun j _ _ ih=>.comp 960 j::ih) (fun {_ _ _ o'} i _ _ ih=>.set i o'::ih) (fun _ ih=>.gn::ih)
 (fun m _=>[.fin (mkB m)]) (fun m _ _=>[.fin (mkB m)]) (fun {_ D} m _ _ _ _=>[.tail D (mkB m)]) (fun {_ D} C s _ m _=>[.jump D s [] C (mkB m)]) R c
noncomputable def CE.q {R:ZA} (G:(Nat→Nat)→Prop) (c:CE w RO R):Nat→List Nat→Prop:=@CE.rec w RO (fun _ _=>Nat→List Nat→Prop)
 (fun {R} s _ ih=>nsQ RO R s ih) (fun _ ih g A=>∀ a,ih a g (a::A)) (fun _ ih g A=>∀ t,ih t g A) (fun _ _ ih g A=>∀ t,ih t g A)
 (fun {R D} C _ _ X _ _ ih g A=>ZD w (X++(R++RO)) D C.code C.mem C.post∧C.mem=C.mem∧∀ ρ:Nat→Nat,ih ρ g (adr (C.new ρ) A))
 (fun {R D} C _ _ X _ _ ih g A=>ZD w (X++(R++RO)) D C.code C.mem C.post∧C.mem=C.mem∧∀ ρ:Nat→Nat,ih ρ g (adr (C.new ρ) A))
 (fun {R D} _ _ X P C c M _ _ _ ih g A=>ZD w (X++(R++RO)) D c M (fun r M'=>∃ x,P x∧(C x).post r M')∧(∀ x,M=(C x).mem)∧∀ (x:LX) (hx:P x) (ρ:Nat→Nat),ih x hx ρ g (adr ((C x).new ρ) A))
 (fun {R D a o} _ _ _ ih g A=>a=a∧Z0 w (R++RO) D a o∧ih g A) (fun {R q} _ _ _ ih g A=>q.1=q.1∧Rg w (R++RO) q∧ih g A)
 (fun {_ f o o'} i _ _ ih g A=>Vp A i=Vp A i∧f o=o'∧ih g A) (fun _ ih g A=>"generator.__next__"="generator.__next__"∧ih g A)
 (fun _ ρ _ _=>G ρ) (fun {_} _ {P} _ _ _=>P) (fun {R D} _ {c M K} _ _ _=>ZD w (R++RO) D c M K) (fun {R D} C _ _ _ ρ _ _=>ZD w (R++RO) D C.code C.mem C.post∧C.mem=C.mem∧∀ ρ',G (ρ ρ')) R c
theorem CE.true {R:ZA} {G:(Nat→Nat)→Prop} (hG:∀ ρ,G ρ) (c:CE w RO R):∀ g A,c.q G g A:=by
 induction c with
 | l s _ ih=>exact JQ ih s
 | a _ ih=>exact fun g _ a=>ih a g _
 | t _ ih=>exact fun g _ t=>ih t g _
 | u _ _ ih=>exact fun g _ t=>ih t g _
 | x _ _ _ _ p _ ih=>exact fun g _=>⟨p,rfl,fun ρ=>ih ρ g _⟩
 | n _ _ _ _ p _ ih=>exact fun g _=>⟨p,rfl,fun ρ=>ih ρ g _⟩
 | y _ _ _ _ _ _ _ p h _ ih=>exact fun g _=>⟨p,h,fun x hx ρ=>ih x hx ρ g _⟩
 | c _ p _ ih=>exact fun g _=>⟨rfl,p,ih g _⟩
 | d _ p _ ih=>exact fun g _=>⟨rfl,p,ih g _⟩
 | s _ p _ ih=>exact fun g _=>⟨rfl,p,ih g _⟩
 | g _ ih=>exact fun g _=>⟨rfl,ih g _⟩
 | z _ ρ=>exact fun _ _=>hG ρ
 | f _ p=>exact fun _ _=>p
 | e _ p=>exact fun _ _=>p
 | i _ _ p _ ρ=>exact fun _ _=>⟨p,rfl,fun _=>hG _⟩
noncomputable def pG (C:Con) (ρ:Nat→Nat):Prop:=C.post (C.r ρ) (C.newR ρ++(C.new ρ++Xv C.mem (C.upd ρ)))
noncomputable def tG (_:Nat→Nat):Prop:=True
section
variable {D:Nat} {C:Con} {F:Result→ZA→Prop} {c:Code} {t:Sem PySem.Fin} {M:ZA}
theorem RunsTo.of (ce:CE w RO []) (e:Xg w RO D C.post 99999 ce.o (.m c [] t) .none [] M=ce.q (pG C) 0 (adr M [])) (h:∀ ρ,(C.upd ρ).length=C.mem.length:=by exact fun _=>rfl):RunsTo w D C.post ce.o c t RO M:=⟨by
 rw [e]
 exact ce.true (fun ρ=>C.post_of ρ (h ρ)) _ _⟩
theorem RunsTo.ofK (ce:CE w RO []) (e:Xg w RO D F 99999 ce.o (.m c [] t) .none [] M=ce.q tG 0 (adr M [])):RunsTo w D F ce.o c t RO M:=⟨by
 rw [e]
 exact ce.true (fun _=>trivial) _ _⟩
theorem cR (ce:CE w RO []) (e:Xg w RO D C.post 99999 ce.o (.m c [] (Ww c)) .none [] M=ce.q (pG C) 0 (adr M [])) (h:∀ ρ,(C.upd ρ).length=C.mem.length:=by exact fun _=>rfl):ZD w RO D c M C.post:=ZD.of_runs (RunsTo.of ce e h)
theorem cK (ce:CE w RO []) (e:Xg w RO D F 99999 ce.o (.m c [] (Ww c)) .none [] M=ce.q tG 0 (adr M [])):ZD w RO D c M F:=ZD.of_runs (RunsTo.ofK ce e)
variable {f:Addr} {args:Args}
theorem cB (hf:Z1 w.params f=true) (ce:CE w RO []) (e:Xg w RO D C.post 99999 ce.o (.m (.call (.ref f) args) [] (Yj f (fdB w.params f) args)) .none [] M=ce.q (pG C) 0 (adr M [])) (hd:D + 10 < 1000:=by decide) (h:∀ ρ,(C.upd ρ).length=C.mem.length:=by exact fun _=>rfl):ZD w RO D (.call (.ref f) args) M C.post:=ZD.of_base hf hd (RunsTo.of ce e h)
theorem cL (hf:Z1 w.params f=true) (ce:CE w RO []) (e:Xg w RO D F 99999 ce.o (.m (.call (.ref f) args) [] (Yj f (fdB w.params f) args)) .none [] M=ce.q tG 0 (adr M [])) (hd:D + 10 < 1000:=by decide):ZD w RO D (.call (.ref f) args) M F:=ZD.of_base hf hd (RunsTo.ofK ce e)
end
theorem Z0.of {D a:Nat} {o:Obj} (ce:CE w RO []) (e:∀ c,Xg w RO D (fun r M'=>r = .ok (.ret (.ref a))∧M'=[(a,o)]) 99999 ce.o (.m c [] (NA a)) .none [] [(a,o)]=ce.q (fun _=>(.ok (.ret (.ref a)):Result) = .ok (.ret (.ref a))∧[(a,o)]=[(a,o)]) 0 (adr [(a,o)] [])):Z0 w RO D a o:=
 Z0.of_runs (orc:=ce.o) fun c=>⟨by
  rw [e c]
  exact ce.true (fun _=>⟨rfl,rfl⟩) _ _⟩
theorem sb {A B:ZA}:∀ p∈B,p∈A++B:=fun _ h=>List.mem_append_right _ h
theorem sc {A B:ZA} {x:Addr × Obj}:∀ p∈B,p∈A++x::B:=fun _ h=>sb _ (.tail _ h)
theorem sd {A B:ZA} {x y:Addr × Obj}:∀ p∈B,p∈A++x::y::B:=fun _ h=>sb _ (.tail _ (.tail _ h))
theorem se {A B:ZA} {x y z:Addr × Obj}:∀ p∈B,p∈A++x::y::z::B:=fun _ h=>sb _ (.tail _ (.tail _ (.tail _ h)))
noncomputable def CE.k {R:ZA} {D:Nat} (C:Con) (s:List Nat) (p:C.ok w (R++RO) D) (f:(Nat→Nat)→CE w RO R):CE w RO R:=.x C s [] [] p f
noncomputable def CE.m {R:ZA} {D:Nat} (C:Con) (s:List Nat) (p:C.ok w (R++RO) D) (f:(ρ:Nat→Nat)→CE w RO (C.newR ρ++R)):CE w RO R:=.n C s [] [] p f
end
end
section
open PySem PySem.W
theorem fd45 (P:Params):Z1 P 45=true:=by kernel_rfl
theorem fd52 (P:Params):Z1 P 52=true:=by kernel_rfl
theorem fd59 (P:Params):Z1 P 59=true:=by kernel_rfl
theorem fd66 (P:Params):Z1 P 66=true:=by kernel_rfl
theorem fd73 (P:Params):Z1 P 73=true:=by kernel_rfl
theorem fd94 (P:Params):Z1 P 94=true:=by kernel_rfl
theorem fd101 (P:Params):Z1 P 101=true:=by kernel_rfl
theorem fd108 (P:Params):Z1 P 108=true:=by kernel_rfl
theorem fd115 (P:Params):Z1 P 115=true:=by kernel_rfl
theorem fd145 (P:Params):Z1 P 145=true:=by kernel_rfl
theorem fd160 (P:Params):Z1 P 160=true:=by kernel_rfl
theorem fd167 (P:Params):Z1 P 167=true:=by kernel_rfl
theorem fd174 (P:Params):Z1 P 174=true:=by kernel_rfl
theorem fd181 (P:Params):Z1 P 181=true:=by kernel_rfl
theorem fd186 (P:Params):Z1 P 186=true:=by kernel_rfl
theorem fd193 (P:Params):Z1 P 193=true:=by kernel_rfl
theorem fd200 (P:Params):Z1 P 200=true:=by kernel_rfl
theorem fd215 (P:Params):Z1 P 215=true:=by kernel_rfl
theorem fd220 (P:Params):Z1 P 220=true:=by kernel_rfl
theorem fd232 (P:Params):Z1 P 232=true:=by kernel_rfl
theorem fd279 (P:Params):Z1 P 279=true:=by kernel_rfl
theorem fd284 (P:Params):Z1 P 284=true:=by kernel_rfl
theorem fd289 (P:Params):Z1 P 289=true:=by kernel_rfl
theorem fd296 (P:Params):Z1 P 296=true:=by kernel_rfl
theorem fd303 (P:Params):Z1 P 303=true:=by kernel_rfl
theorem fd310 (P:Params):Z1 P 310=true:=by kernel_rfl
theorem fd315 (P:Params):Z1 P 315=true:=by kernel_rfl
theorem fd320 (P:Params):Z1 P 320=true:=by kernel_rfl
noncomputable def wd (k:Nat):Str:=⟨([[97,98],[99,34],[68,92],[101,32,102],[71,61],[104,35],[65,66],[67,34],[100,92],[69,32,70],[103,61],[72,35]]:List (List Nat)).getD k [] |>.toArray⟩
noncomputable def lwi (k:Nat):Nat:=([0,1,8,3,10,5]:List Nat).getD (k % 6) 0
noncomputable def dig (n:Nat):Str:=⟨([[48],[49],[50],[51],[52],[53],[54],[55],[56],[57],[49,48],[49,49],[49,50]]:List (List Nat)).getD n [] |>.toArray⟩
noncomputable def XO (f:Value) (args:List Value) (r:Nat→Value):Con:={ code:=.call f ⟨args,[]⟩,mem:=[],r:=fun ρ=>.ok (.ret (r (ρ 0))),upd:=fun _=>[],new:=fun _=>[] }
noncomputable def ZJ (k t:Nat):Con:=XO (.builtin "str.lower") [.str (wd k) t] (fun z=>.str (wd (lwi k)) z)
noncomputable def Zc (n t:Nat):Con:=XO (.type "int") [.str (dig n) t] (fun z=>.int (Int.ofNat n) z)
noncomputable def Zl (n t:Nat):Con:=XO (.type "str") [.int (Int.ofNat n) t] (fun z=>.str (dig n) z)
noncomputable def EY (i t j t':Nat) (b:Bool):Con:=XO (.builtin "str.__eq__") [.str (wd (lwi i)) t,.str (wd (lwi j)) t'] (fun _=>.bool b)
noncomputable def EZ (i t j t':Nat) (b:Bool):Con:=XO (.builtin "str.__ne__") [.str (wd (lwi i)) t,.str (wd (lwi j)) t'] (fun _=>.bool b)
noncomputable def ZW (sh:Nat) (s:Str) (t:Nat) (nm:Bool):Con:={ code:=.call (.ref 167) ⟨[.ref sh,.str s t],[(⟨#[110,97,109,101]⟩,.bool nm)]⟩,mem:=[],r:=fun _=>.ok (.ret (.str s t)),upd:=fun _=>[],new:=fun _=>[] }
theorem Rz {P:Nat→Prop} (h:P 0∧P 1∧P 2∧P 3∧P 4∧P 5∧P 6∧P 7∧P 8∧P 9∧P 10∧P 11):∀ k,k < 12→P k
 | 0,_=>h.1
 | 1,_=>h.2.1
 | 2,_=>h.2.2.1
 | 3,_=>h.2.2.2.1
 | 4,_=>h.2.2.2.2.1
 | 5,_=>h.2.2.2.2.2.1
 | 6,_=>h.2.2.2.2.2.2.1
 | 7,_=>h.2.2.2.2.2.2.2.1
 | 8,_=>h.2.2.2.2.2.2.2.2.1
 | 9,_=>h.2.2.2.2.2.2.2.2.2.1
 | 10,_=>h.2.2.2.2.2.2.2.2.2.2.1
 | 11,_=>h.2.2.2.2.2.2.2.2.2.2.2
 | k + 12,h=>absurd h (Nat.not_lt.mpr (Nat.le_add_left _ _))
theorem ND (w:World) (b:Bool) (RO:ZA) (t:Nat):(ZJ 0 t).ok (wf w b) RO 980:=
 cR (.t fun t0=>.z [] (rl [t0])) (by kernel_rfl)
theorem NE (w:World) (b:Bool) (RO:ZA) (t:Nat):(ZJ 1 t).ok (wf w b) RO 980:=
 cR (.t fun t0=>.z [] (rl [t0])) (by kernel_rfl)
theorem NF (w:World) (b:Bool) (RO:ZA) (t:Nat):(ZJ 2 t).ok (wf w b) RO 980:=
 cR (.t fun t0=>.z [] (rl [t0])) (by kernel_rfl)
theorem NG (w:World) (b:Bool) (RO:ZA) (t:Nat):(ZJ 3 t).ok (wf w b) RO 980:=
 cR (.t fun t0=>.z [] (rl [t0])) (by kernel_rfl)
theorem NH (w:World) (b:Bool) (RO:ZA) (t:Nat):(ZJ 4 t).ok (wf w b) RO 980:=
 cR (.t fun t0=>.z [] (rl [t0])) (by kernel_rfl)
theorem NI (w:World) (b:Bool) (RO:ZA) (t:Nat):(ZJ 5 t).ok (wf w b) RO 980:=
 cR (.t fun t0=>.z [] (rl [t0])) (by kernel_rfl)
theorem NJ (w:World) (b:Bool) (RO:ZA) (t:Nat):(ZJ 6 t).ok (wf w b) RO 980:=
 cR (.t fun t0=>.z [] (rl [t0])) (by kernel_rfl)
theorem NK (w:World) (b:Bool) (RO:ZA) (t:Nat):(ZJ 7 t).ok (wf w b) RO 980:=
 cR (.t fun t0=>.z [] (rl [t0])) (by kernel_rfl)
theorem NL (w:World) (b:Bool) (RO:ZA) (t:Nat):(ZJ 8 t).ok (wf w b) RO 980:=
 cR (.t fun t0=>.z [] (rl [t0])) (by kernel_rfl)
theorem NM (w:World) (b:Bool) (RO:ZA) (t:Nat):(ZJ 9 t).ok (wf w b) RO 980:=
 cR (.t fun t0=>.z [] (rl [t0])) (by kernel_rfl)
theorem Qj (w:World) (b:Bool) (RO:ZA) (t:Nat):(ZJ 10 t).ok (wf w b) RO 980:=
 cR (.t fun t0=>.z [] (rl [t0])) (by kernel_rfl)
theorem Qk (w:World) (b:Bool) (RO:ZA) (t:Nat):(ZJ 11 t).ok (wf w b) RO 980:=
 cR (.t fun t0=>.z [] (rl [t0])) (by kernel_rfl)
theorem ZO (w:World) (b:Bool) (RO:ZA) (t:Nat):∀ k,k < 12→(ZJ k t).ok (wf w b) RO 980
 | 0,_=>ND w b RO t
 | 1,_=>NE w b RO t
 | 2,_=>NF w b RO t
 | 3,_=>NG w b RO t
 | 4,_=>NH w b RO t
 | 5,_=>NI w b RO t
 | 6,_=>NJ w b RO t
 | 7,_=>NK w b RO t
 | 8,_=>NL w b RO t
 | 9,_=>NM w b RO t
 | 10,_=>Qj w b RO t
 | 11,_=>Qk w b RO t
 | k + 12,h=>absurd h (by omega)
theorem NN (w:World) (b:Bool) (RO:ZA) (t:Nat):(Zc 0 t).ok (wf w b) RO 980:=
 cR (.t fun t0=>.z [] (rl [t0])) (by kernel_rfl)
theorem NO (w:World) (b:Bool) (RO:ZA) (t:Nat):(Zc 1 t).ok (wf w b) RO 980:=
 cR (.t fun t0=>.z [] (rl [t0])) (by kernel_rfl)
theorem NP (w:World) (b:Bool) (RO:ZA) (t:Nat):(Zc 2 t).ok (wf w b) RO 980:=
 cR (.t fun t0=>.z [] (rl [t0])) (by kernel_rfl)
theorem NQ (w:World) (b:Bool) (RO:ZA) (t:Nat):(Zc 3 t).ok (wf w b) RO 980:=
 cR (.t fun t0=>.z [] (rl [t0])) (by kernel_rfl)
theorem NS (w:World) (b:Bool) (RO:ZA) (t:Nat):(Zc 4 t).ok (wf w b) RO 980:=
 cR (.t fun t0=>.z [] (rl [t0])) (by kernel_rfl)
theorem NT (w:World) (b:Bool) (RO:ZA) (t:Nat):(Zc 5 t).ok (wf w b) RO 980:=
 cR (.t fun t0=>.z [] (rl [t0])) (by kernel_rfl)
theorem NU (w:World) (b:Bool) (RO:ZA) (t:Nat):(Zc 6 t).ok (wf w b) RO 980:=
 cR (.t fun t0=>.z [] (rl [t0])) (by kernel_rfl)
theorem NV (w:World) (b:Bool) (RO:ZA) (t:Nat):(Zc 7 t).ok (wf w b) RO 980:=
 cR (.t fun t0=>.z [] (rl [t0])) (by kernel_rfl)
theorem NW (w:World) (b:Bool) (RO:ZA) (t:Nat):(Zc 8 t).ok (wf w b) RO 980:=
 cR (.t fun t0=>.z [] (rl [t0])) (by kernel_rfl)
theorem NX (w:World) (b:Bool) (RO:ZA) (t:Nat):(Zc 9 t).ok (wf w b) RO 980:=
 cR (.t fun t0=>.z [] (rl [t0])) (by kernel_rfl)
theorem Ql (w:World) (b:Bool) (RO:ZA) (t:Nat):(Zc 10 t).ok (wf w b) RO 980:=
 cR (.t fun t0=>.z [] (rl [t0])) (by kernel_rfl)
theorem Qm (w:World) (b:Bool) (RO:ZA) (t:Nat):(Zc 11 t).ok (wf w b) RO 980:=
 cR (.t fun t0=>.z [] (rl [t0])) (by kernel_rfl)
theorem Qn (w:World) (b:Bool) (RO:ZA) (t:Nat):(Zc 12 t).ok (wf w b) RO 980:=
 cR (.t fun t0=>.z [] (rl [t0])) (by kernel_rfl)
theorem Z5 (w:World) (b:Bool) (RO:ZA) (t:Nat):∀ k,k < 13→(Zc k t).ok (wf w b) RO 980
 | 0,_=>NN w b RO t
 | 1,_=>NO w b RO t
 | 2,_=>NP w b RO t
 | 3,_=>NQ w b RO t
 | 4,_=>NS w b RO t
 | 5,_=>NT w b RO t
 | 6,_=>NU w b RO t
 | 7,_=>NV w b RO t
 | 8,_=>NW w b RO t
 | 9,_=>NX w b RO t
 | 10,_=>Ql w b RO t
 | 11,_=>Qm w b RO t
 | 12,_=>Qn w b RO t
 | k + 13,h=>absurd h (by omega)
theorem NY (w:World) (b:Bool) (RO:ZA) (t:Nat):(Zl 0 t).ok (wf w b) RO 980:=
 cR (.t fun t0=>.z [] (rl [t0])) (by cases b<;>kernel_rfl)
theorem NZ (w:World) (b:Bool) (RO:ZA) (t:Nat):(Zl 1 t).ok (wf w b) RO 980:=
 cR (.t fun t0=>.z [] (rl [t0])) (by cases b<;>kernel_rfl)
theorem Na (w:World) (b:Bool) (RO:ZA) (t:Nat):(Zl 2 t).ok (wf w b) RO 980:=
 cR (.t fun t0=>.z [] (rl [t0])) (by cases b<;>kernel_rfl)
theorem Nb (w:World) (b:Bool) (RO:ZA) (t:Nat):(Zl 3 t).ok (wf w b) RO 980:=
 cR (.t fun t0=>.z [] (rl [t0])) (by cases b<;>kernel_rfl)
theorem Nc (w:World) (b:Bool) (RO:ZA) (t:Nat):(Zl 4 t).ok (wf w b) RO 980:=
 cR (.t fun t0=>.z [] (rl [t0])) (by cases b<;>kernel_rfl)
theorem Nd (w:World) (b:Bool) (RO:ZA) (t:Nat):(Zl 5 t).ok (wf w b) RO 980:=
 cR (.t fun t0=>.z [] (rl [t0])) (by cases b<;>kernel_rfl)
theorem Nf (w:World) (b:Bool) (RO:ZA) (t:Nat):(Zl 6 t).ok (wf w b) RO 980:=
 cR (.t fun t0=>.z [] (rl [t0])) (by cases b<;>kernel_rfl)
theorem Ng (w:World) (b:Bool) (RO:ZA) (t:Nat):(Zl 7 t).ok (wf w b) RO 980:=
 cR (.t fun t0=>.z [] (rl [t0])) (by cases b<;>kernel_rfl)
theorem Nh (w:World) (b:Bool) (RO:ZA) (t:Nat):(Zl 8 t).ok (wf w b) RO 980:=
 cR (.t fun t0=>.z [] (rl [t0])) (by cases b<;>kernel_rfl)
theorem Ni (w:World) (b:Bool) (RO:ZA) (t:Nat):(Zl 9 t).ok (wf w b) RO 980:=
 cR (.t fun t0=>.z [] (rl [t0])) (by cases b<;>kernel_rfl)
theorem Qo (w:World) (b:Bool) (RO:ZA) (t:Nat):(Zl 10 t).ok (wf w b) RO 980:=
 cR (.t fun t0=>.z [] (rl [t0])) (by cases b<;>kernel_rfl)
theorem Qp (w:World) (b:Bool) (RO:ZA) (t:Nat):(Zl 11 t).ok (wf w b) RO 980:=
 cR (.t fun t0=>.z [] (rl [t0])) (by cases b<;>kernel_rfl)
theorem Qq (w:World) (b:Bool) (RO:ZA) (t:Nat):(Zl 12 t).ok (wf w b) RO 980:=
 cR (.t fun t0=>.z [] (rl [t0])) (by cases b<;>kernel_rfl)
theorem Yk (w:World) (b:Bool) (RO:ZA) (t:Nat):∀ k,k < 13→(Zl k t).ok (wf w b) RO 980
 | 0,_=>NY w b RO t
 | 1,_=>NZ w b RO t
 | 2,_=>Na w b RO t
 | 3,_=>Nb w b RO t
 | 4,_=>Nc w b RO t
 | 5,_=>Nd w b RO t
 | 6,_=>Nf w b RO t
 | 7,_=>Ng w b RO t
 | 8,_=>Nh w b RO t
 | 9,_=>Ni w b RO t
 | 10,_=>Qo w b RO t
 | 11,_=>Qp w b RO t
 | 12,_=>Qq w b RO t
 | k + 13,h=>absurd h (by omega)
theorem Nj (w:World) (b:Bool) (RO:ZA) (sh t:Nat):(ZW sh (wd 0) t true).ok (wf w b) RO 900:=
 cB (fd167 _) (.l 1023212330001323320010100010400010101010400010101010410010100100101001001010000990267 (.z [0] (fun _=>0))) (by kernel_rfl)
theorem Nk (w:World) (b:Bool) (RO:ZA) (sh t:Nat):(ZW sh (wd 1) t true).ok (wf w b) RO 900:=
 cB (fd167 _) (.l 1023212330001323320010100010400010101010400010101010410010100100101001001010000990267 (.z [0] (fun _=>0))) (by kernel_rfl)
theorem Nl (w:World) (b:Bool) (RO:ZA) (sh t:Nat):(ZW sh (wd 2) t true).ok (wf w b) RO 900:=
 cB (fd167 _) (.l 1023212330001323320010100010400010101010400010101010410010100100101001001010000990267 (.z [0] (fun _=>0))) (by kernel_rfl)
theorem Nm (w:World) (b:Bool) (RO:ZA) (sh t:Nat):(ZW sh (wd 3) t true).ok (wf w b) RO 900:=
 cB (fd167 _) (.l 1023212330001323320010100010400010101010400010101010410010100100101001001010000990267 (.z [0] (fun _=>0))) (by kernel_rfl)
theorem Nn (w:World) (b:Bool) (RO:ZA) (sh t:Nat):(ZW sh (wd 4) t true).ok (wf w b) RO 900:=
 cB (fd167 _) (.l 1023212330001323320010100010400010101010400010101010410010100100101001001010000990267 (.z [0] (fun _=>0))) (by kernel_rfl)
theorem No (w:World) (b:Bool) (RO:ZA) (sh t:Nat):(ZW sh (wd 5) t true).ok (wf w b) RO 900:=
 cB (fd167 _) (.l 1023212330001323320010100010400010101010400010101010410010100100101001001010000990267 (.z [0] (fun _=>0))) (by kernel_rfl)
theorem Np (w:World) (b:Bool) (RO:ZA) (sh t:Nat):(ZW sh (wd 6) t true).ok (wf w b) RO 900:=
 cB (fd167 _) (.l 1023212330001323320010100010400010101010400010101010410010100100101001001010000990267 (.z [0] (fun _=>0))) (by kernel_rfl)
theorem Nq (w:World) (b:Bool) (RO:ZA) (sh t:Nat):(ZW sh (wd 7) t true).ok (wf w b) RO 900:=
 cB (fd167 _) (.l 1023212330001323320010100010400010101010400010101010410010100100101001001010000990267 (.z [0] (fun _=>0))) (by kernel_rfl)
theorem Nr (w:World) (b:Bool) (RO:ZA) (sh t:Nat):(ZW sh (wd 8) t true).ok (wf w b) RO 900:=
 cB (fd167 _) (.l 1023212330001323320010100010400010101010400010101010410010100100101001001010000990267 (.z [0] (fun _=>0))) (by kernel_rfl)
theorem Ns (w:World) (b:Bool) (RO:ZA) (sh t:Nat):(ZW sh (wd 9) t true).ok (wf w b) RO 900:=
 cB (fd167 _) (.l 1023212330001323320010100010400010101010400010101010410010100100101001001010000990267 (.z [0] (fun _=>0))) (by kernel_rfl)
theorem Qr (w:World) (b:Bool) (RO:ZA) (sh t:Nat):(ZW sh (wd 10) t true).ok (wf w b) RO 900:=
 cB (fd167 _) (.l 1023212330001323320010100010400010101010400010101010410010100100101001001010000990267 (.z [0] (fun _=>0))) (by kernel_rfl)
theorem Qs (w:World) (b:Bool) (RO:ZA) (sh t:Nat):(ZW sh (wd 11) t true).ok (wf w b) RO 900:=
 cB (fd167 _) (.l 1023212330001323320010100010400010101010400010101010410010100100101001001010000990267 (.z [0] (fun _=>0))) (by kernel_rfl)
theorem Z3 (w:World) (b:Bool) (RO:ZA) (sh t:Nat):∀ k,k < 12→(ZW sh (wd k) t true).ok (wf w b) RO 900
 | 0,_=>Nj w b RO sh t
 | 1,_=>Nk w b RO sh t
 | 2,_=>Nl w b RO sh t
 | 3,_=>Nm w b RO sh t
 | 4,_=>Nn w b RO sh t
 | 5,_=>No w b RO sh t
 | 6,_=>Np w b RO sh t
 | 7,_=>Nq w b RO sh t
 | 8,_=>Nr w b RO sh t
 | 9,_=>Ns w b RO sh t
 | 10,_=>Qr w b RO sh t
 | 11,_=>Qs w b RO sh t
 | k + 12,h=>absurd h (by omega)
theorem Nt (w:World) (b:Bool) (RO:ZA) (sh t:Nat):(ZW sh (dig 0) t false).ok (wf w b) RO 900:=
 cB (fd167 _) (.l 1023712380001323820010100010400010101010400010101010410010100100101001001010000990267 (.z [0] (fun _=>0))) (by kernel_rfl)
theorem Nu (w:World) (b:Bool) (RO:ZA) (sh t:Nat):(ZW sh (dig 1) t false).ok (wf w b) RO 900:=
 cB (fd167 _) (.l 1023712380001323820010100010400010101010400010101010410010100100101001001010000990267 (.z [0] (fun _=>0))) (by kernel_rfl)
theorem Nv (w:World) (b:Bool) (RO:ZA) (sh t:Nat):(ZW sh (dig 2) t false).ok (wf w b) RO 900:=
 cB (fd167 _) (.l 1023712380001323820010100010400010101010400010101010410010100100101001001010000990267 (.z [0] (fun _=>0))) (by kernel_rfl)
theorem Nw (w:World) (b:Bool) (RO:ZA) (sh t:Nat):(ZW sh (dig 3) t false).ok (wf w b) RO 900:=
 cB (fd167 _) (.l 1023712380001323820010100010400010101010400010101010410010100100101001001010000990267 (.z [0] (fun _=>0))) (by kernel_rfl)
theorem Nx (w:World) (b:Bool) (RO:ZA) (sh t:Nat):(ZW sh (dig 4) t false).ok (wf w b) RO 900:=
 cB (fd167 _) (.l 1023712380001323820010100010400010101010400010101010410010100100101001001010000990267 (.z [0] (fun _=>0))) (by kernel_rfl)
theorem Ny (w:World) (b:Bool) (RO:ZA) (sh t:Nat):(ZW sh (dig 5) t false).ok (wf w b) RO 900:=
 cB (fd167 _) (.l 1023712380001323820010100010400010101010400010101010410010100100101001001010000990267 (.z [0] (fun _=>0))) (by kernel_rfl)
theorem Nz (w:World) (b:Bool) (RO:ZA) (sh t:Nat):(ZW sh (dig 6) t false).ok (wf w b) RO 900:=
 cB (fd167 _) (.l 1023712380001323820010100010400010101010400010101010410010100100101001001010000990267 (.z [0] (fun _=>0))) (by kernel_rfl)
theorem N0 (w:World) (b:Bool) (RO:ZA) (sh t:Nat):(ZW sh (dig 7) t false).ok (wf w b) RO 900:=
 cB (fd167 _) (.l 1023712380001323820010100010400010101010400010101010410010100100101001001010000990267 (.z [0] (fun _=>0))) (by kernel_rfl)
theorem N1 (w:World) (b:Bool) (RO:ZA) (sh t:Nat):(ZW sh (dig 8) t false).ok (wf w b) RO 900:=
 cB (fd167 _) (.l 1023712380001323820010100010400010101010400010101010410010100100101001001010000990267 (.z [0] (fun _=>0))) (by kernel_rfl)
theorem N2 (w:World) (b:Bool) (RO:ZA) (sh t:Nat):(ZW sh (dig 9) t false).ok (wf w b) RO 900:=
 cB (fd167 _) (.l 1023712380001323820010100010400010101010400010101010410010100100101001001010000990267 (.z [0] (fun _=>0))) (by kernel_rfl)
theorem Qt (w:World) (b:Bool) (RO:ZA) (sh t:Nat):(ZW sh (dig 10) t false).ok (wf w b) RO 900:=
 cB (fd167 _) (.l 1023712380001323820010100010400010101010400010101010410010100100101001001010000990267 (.z [0] (fun _=>0))) (by kernel_rfl)
theorem Qu (w:World) (b:Bool) (RO:ZA) (sh t:Nat):(ZW sh (dig 11) t false).ok (wf w b) RO 900:=
 cB (fd167 _) (.l 1023712380001323820010100010400010101010400010101010410010100100101001001010000990267 (.z [0] (fun _=>0))) (by kernel_rfl)
theorem Qv (w:World) (b:Bool) (RO:ZA) (sh t:Nat):(ZW sh (dig 12) t false).ok (wf w b) RO 900:=
 cB (fd167 _) (.l 1023712380001323820010100010400010101010400010101010410010100100101001001010000990267 (.z [0] (fun _=>0))) (by kernel_rfl)
theorem UZ (w:World) (b:Bool) (RO:ZA) (sh t:Nat):∀ k,k < 13→(ZW sh (dig k) t false).ok (wf w b) RO 900
 | 0,_=>Nt w b RO sh t
 | 1,_=>Nu w b RO sh t
 | 2,_=>Nv w b RO sh t
 | 3,_=>Nw w b RO sh t
 | 4,_=>Nx w b RO sh t
 | 5,_=>Ny w b RO sh t
 | 6,_=>Nz w b RO sh t
 | 7,_=>N0 w b RO sh t
 | 8,_=>N1 w b RO sh t
 | 9,_=>N2 w b RO sh t
 | 10,_=>Qt w b RO sh t
 | 11,_=>Qu w b RO sh t
 | 12,_=>Qv w b RO sh t
 | k + 13,h=>absurd h (by omega)
theorem Yn (k:Nat):lwi k < 12:=by
 unfold lwi
 have:k % 6 < 6:=Nat.mod_lt _ (by decide)
 generalize k % 6=j at this
 match j,this with
 | 0,_=>exact (by decide)
 | 1,_=>exact (by decide)
 | 2,_=>exact (by decide)
 | 3,_=>exact (by decide)
 | 4,_=>exact (by decide)
 | 5,_=>exact (by decide)
noncomputable def Y4 (s:Str) (t:Nat) (s':Str) (t':Nat) (x:Bool):Con:=XO (.builtin "str.__eq__") [.str s t,.str s' t'] (fun _=>.bool x)
noncomputable def YH (s:Str) (t:Nat) (s':Str) (t':Nat) (x:Bool):Con:=XO (.builtin "str.__ne__") [.str s t,.str s' t'] (fun _=>.bool x)
theorem I2 (w:World) (b:Bool) (RO:ZA) (s s':Str) (t t':Nat):(Y4 s t s' t' (s.cps.toList == s'.cps.toList)).ok (wf w b) RO 980:=by
 exact cR (.z [] fun _=>0) (by kernel_rfl)
theorem I3 (w:World) (b:Bool) (RO:ZA) (s s':Str) (t t':Nat):(YH s t s' t' (Bool.rec true false (s.cps.toList == s'.cps.toList))).ok (wf w b) RO 980:=by
 exact cR (.z [] fun _=>0) (by kernel_rfl)
theorem XZ (w:World) (b:Bool) (RO:ZA) (s s':Str) (t t':Nat) (x:Bool) (h:(s.cps.toList == s'.cps.toList)=x):(Y4 s t s' t' x).ok (wf w b) RO 980:=by
 have z:=I2 w b RO s s' t t'
 rw [h] at z
 exact z
theorem YM (w:World) (b:Bool) (RO:ZA) (s s':Str) (t t':Nat) (x:Bool) (h:(s.cps.toList == s'.cps.toList)=!x):(YH s t s' t' x).ok (wf w b) RO 980:=by
 have z:=I3 w b RO s s' t t'
 rw [h] at z
 cases x<;>exact z
theorem FS:∀ i,i < 12→∀ j,j < 12→((wd (lwi i)).cps.toList == (wd (lwi j)).cps.toList)=(i % 6 == j % 6):=by decide +kernel
theorem Xr {i j:Nat} {x:Bool} (hi:i < 12) (hj:j < 12) (h:(i % 6 == j % 6)=x):((wd (lwi i)).cps.toList == (wd (lwi j)).cps.toList)=x:=(FS i hi j hj).trans h
theorem YN {i j:Nat} {x:Bool} (hi:i < 12) (hj:j < 12) (h:(i % 6 == j % 6)=x):((wd (lwi i)).cps.toList == (wd (lwi j)).cps.toList)=!!x:=by rw [Xr hi hj h,Bool.not_not]
structure Pr where
 a:Nat
 k:Nat
 t:Nat
 n:Nat
 t':Nat
noncomputable def F9 (p:Pr):Obj:=⟨.type "tuple",none,.seq #[.str (wd p.k) p.t,.str (dig p.n) p.t'] 0,#[]⟩
noncomputable def cell (p:Pr):Addr × Obj:=(p.a,F9 p)
noncomputable def Ri (cls d:Nat):Obj:=⟨.ref cls,some d,.plain,#[]⟩
noncomputable def shD (w:World) (l td e:Nat):Obj:=⟨.type "dict",none,.dict #[ent w ⟨#[95,104,101,97,100,101,114,115]⟩ td (.ref l)] e,#[]⟩
noncomputable def ZB (vs:List Value) (ep:Nat):Obj:=⟨.type "list",none,.seq ⟨vs⟩ ep,#[]⟩
noncomputable def ZH (ps:List Pr):List Value:=ps.map fun p=>.ref p.a
noncomputable def shM (w:World) (sh d l td e:Nat) (ps:List Pr) (ep:Nat):ZA:=[(sh,Ri 268 d),(d,shD w l td e),(l,ZB (ZH ps) ep)]
noncomputable def ZX (f:Nat) (w:World) (sh d l td e:Nat) (ps:List Pr) (ep:Nat) (args:List Value) (r:Value):Con:=
 {code:=.call (.ref f) ⟨.ref sh::args,[]⟩,mem:=shM w sh d l td e ps ep,r:=fun _=>.ok (.ret r),upd:=fun _=>(shM w sh d l td e ps ep).map (·.2),new:=fun _=>[] }
noncomputable def Zh (f:Nat) (w:World) (sh d l td e:Nat) (ps:List Pr) (ep k t:Nat) (ps':List Pr):Con:=
 {code:=.call (.ref f) ⟨[.ref sh,.str (wd k) t],[]⟩,mem:=shM w sh d l td e ps ep,r:=fun _=>.ok (.ret .none),upd:=fun ρ=>(shM w sh d l td e ps' (ρ 0)).map (·.2),new:=fun _=>[] }
noncomputable def Zq (f:Nat) (w:World) (sh d l td e:Nat) (ps:List Pr) (ep k t n t':Nat) (ps':List Pr):Con:=
 {code:=.call (.ref f) ⟨[.ref sh,.str (wd k) t,.str (dig n) t'],[]⟩,mem:=shM w sh d l td e ps ep,r:=fun _=>.ok (.ret .none),
  upd:=fun ρ=>(shM w sh d l td e (ps'++[⟨ρ 0,k,t,n,t'⟩]) (ρ 1)).map (·.2),new:=fun _=>[],newR:=fun ρ=>[cell ⟨ρ 0,k,t,n,t'⟩] }
noncomputable def names (ps:List Pr):List Value:=ps.map fun p=>.str (wd p.k) p.t
noncomputable def Zo (w:World) (sh d l td e:Nat) (ps:List Pr) (ep:Nat):Con:=
 {code:=.call (.ref 220) ⟨[.ref sh],[]⟩,mem:=shM w sh d l td e ps ep,r:=fun ρ=>.ok (.ret (.ref (ρ 0))),upd:=fun _=>(shM w sh d l td e ps ep).map (·.2),new:=fun ρ=>[(ρ 0,ZB (names ps) (ρ 1))] }
noncomputable def Z4 (w:World) (sh d l td e:Nat) (ps:List Pr) (ep:Nat):Con:=
 {code:=.call (.ref 232) ⟨[.ref sh],[]⟩,mem:=shM w sh d l td e ps ep,r:=fun ρ=>.ok (.ret (.ref (ρ 0))),upd:=fun _=>(shM w sh d l td e ps ep).map (·.2),new:=fun ρ=>[(ρ 0,ZB (ZH ps) (ρ 1))] }
noncomputable def Wq (w:World):Con:=
 {code:=.call (.ref 268) ⟨[],[]⟩,mem:=[],r:=fun ρ=>.ok (.ret (.ref (ρ 0))),upd:=fun _=>[],new:=fun ρ=>[(ρ 2,ZB [] (ρ 5)),(ρ 0,Ri 268 (ρ 1)),(ρ 1,shD w (ρ 2) (ρ 3) (ρ 4))] }
noncomputable def XQ (n t t':Nat):Con:={ code:=.call (.ref 45) ⟨[.int (Int.ofNat n) t,.int 1 t'],[]⟩,mem:=[],r:=fun ρ=>.ok (.ret (.int (Int.ofNat (n + 1)) (ρ 0))),upd:=fun _=>[],new:=fun _=>[] }
noncomputable abbrev Y5 (w:World) (sh d l td e:Nat) (ps:List Pr) (ep:Nat) (k t:Nat) (r:Value):Con:=ZX 215 w sh d l td e ps ep [.str (wd k) t] r
end
section
open PySem PySem.W PySem.Calls PyProof.Rows
noncomputable def Vq:Obj:=⟨.type "slice",none,.fields #[.none,.none,.none],#[]⟩
noncomputable def YL (l sl src:Nat) (vs:List Value) (ep:Nat) (ws:List Value) (ep2:Nat):Con:=
 {code:=.builtin "list.__setitem__" ⟨[.ref l,.ref sl,.ref src],[]⟩,mem:=[(l,ZB vs ep),(sl,Vq),(src,ZB ws ep2)],r:=fun _=>.ok (.ret .none),upd:=fun ρ=>[ZB ws (ρ 0),Vq,ZB ws ep2],new:=fun _=>[] }
noncomputable def YO (l sl src:Nat) (vs:List Value) (ep:Nat) (ws:List Value) (ep2:Nat):Con:=
 {YL l sl src vs ep ws ep2 with code:=.call (.builtin "list.__setitem__") ⟨[.ref l,.ref sl,.ref src],[]⟩ }
theorem Xn {id:String} {B:Builtin} (h:entryFor table id=some B) (args:Args):denote table (.builtin id args)=B args:=by
 have e:denote table (.builtin id args)=(match entryFor table id with | some b=>b args | none=>unsupported ((withoutEnding? id "#data").getD id)):=by
  rw [denote]
  generalize entryFor table id=o
  cases o<;>rfl
 rw [e,h]
theorem X0 {id:String} {args:Args} (h:(id == "claim.caller")=false):Zg (.builtin id args):=fun a e=>by
 injection e with e _
 rw [e] at h
 simp at h
theorem I4 {P:Params} {RO:ZA} {l sl src:Nat} {vs:List Value} {ep:Nat} {ws:List Value} {ep2:Nat} {h:Heap} (H:Holds P RO [(l,ZB vs ep),(sl,Vq),(src,ZB ws ep2)] h):Builtin.List.listSameRef (.ref l) (.ref src)=false:=by
 have nd:=H.nd
 simp only [List.map_cons,List.map_nil,List.nodup_cons,List.mem_cons,List.not_mem_nil,or_false,not_or] at nd
 show (l == src)=false
 exact beq_eq_false_iff_ne.mpr nd.1.2
theorem bp {α β:Type} (a:α) (f:α→Sem β):@bind Sem PySem.W.Fast.tw12456147031677567982.toBind α β (Sem.pure a) f=f a:=rfl
theorem Xh (l sl src:Nat):PySem.W.Fast.tw14898161412748792391 PySem.W.SL.s8623970245520910554x11 2 { pos:=[Value.ref l,Value.ref sl,Value.ref src] }=Sem.pure (Value.ref l,[Value.ref sl,Value.ref src]):=by kernel_rfl
theorem WN {w:World} {RO:ZA} {D:Nat} {l sl src:Nat} {vs:List Value} {ep:Nat} {ws:List Value} {ep2:Nat} {K:Result→ZA→Prop} (T:Sem PySem.Fin)
  (hT:Builtin.List.listSameRef (.ref l) (.ref src)=false→PySem.W.Fast.tw9022537654139734821 ⟨[.ref l,.ref sl,.ref src],[]⟩=T) {orc:List OE}
  (H:RunsTo w D K orc (.builtin "list.__setitem__" ⟨[.ref l,.ref sl,.ref src],[]⟩) T RO [(l,ZB vs ep),(sl,Vq),(src,ZB ws ep2)]) :
  ZD w RO D (.builtin "list.__setitem__" ⟨[.ref l,.ref sl,.ref src],[]⟩) [(l,ZB vs ep),(sl,Vq),(src,ZB ws ep2)] K:=
 ZD.of_tree (X0 (by decide +kernel)) (fun h H=>by rw [Xn entry_list_setitem,PySem.W.Fast.te9022537654139734821]; exact hT (I4 H)) H
end
section
open PySem PySem.W
theorem N3 (w:World) (b:Bool) (RO:ZA) (l sl src ep ep2:Nat):(YL l sl src [] ep [] ep2).ok (wf w b) RO 975:=
 WN _ (fun e=>by unfold PySem.W.Fast.tw9022537654139734821; simp only [Xh,bp,e,Bool.false_eq_true,if_false]; rfl) (RunsTo.of (.l 300110034002 (.z [] (rl [ep]))) (by kernel_rfl))
theorem Mr (w:World) (b:Bool) (RO:ZA) (l sl src ep ep2:Nat):(YO l sl src [] ep [] ep2).ok (wf w b) RO 960:=
 cR (.l 1 (.i (YL l sl src [] ep [] ep2) [0,1,2] (N3 w b _ _ _ _ _ _) [] (fun ρ0=>(rl [ρ0 0])))) (by kernel_rfl)
theorem N4 (w:World) (b:Bool) (RO:ZA) (l sl src ep ep2 x1 y1:Nat):(YL l sl src [.ref x1] ep [.ref y1] ep2).ok (wf w b) RO 975:=
 WN _ (fun e=>by unfold PySem.W.Fast.tw9022537654139734821; simp only [Xh,bp,e,Bool.false_eq_true,if_false]; rfl) (RunsTo.of (.l 300110034002 (.z [] (rl [ep]))) (by kernel_rfl))
theorem Mt (w:World) (b:Bool) (RO:ZA) (l sl src ep ep2 x1 y1:Nat):(YO l sl src [.ref x1] ep [.ref y1] ep2).ok (wf w b) RO 960:=
 cR (.l 1 (.i (YL l sl src [.ref x1] ep [.ref y1] ep2) [0,1,2] (N4 w b _ _ _ _ _ _ _ _) [] (fun ρ0=>(rl [ρ0 0])))) (by kernel_rfl)
theorem N5 (w:World) (b:Bool) (RO:ZA) (l sl src ep ep2 x1:Nat):(YL l sl src [.ref x1] ep [] ep2).ok (wf w b) RO 975:=
 WN _ (fun e=>by unfold PySem.W.Fast.tw9022537654139734821; simp only [Xh,bp,e,Bool.false_eq_true,if_false]; rfl) (RunsTo.of (.l 300110034002 (.z [] (rl [(ep + 1)]))) (by kernel_rfl))
theorem Mu (w:World) (b:Bool) (RO:ZA) (l sl src ep ep2 x1:Nat):(YO l sl src [.ref x1] ep [] ep2).ok (wf w b) RO 960:=
 cR (.l 1 (.i (YL l sl src [.ref x1] ep [] ep2) [0,1,2] (N5 w b _ _ _ _ _ _ _) [] (fun ρ0=>(rl [ρ0 0])))) (by kernel_rfl)
theorem N6 (w:World) (b:Bool) (RO:ZA) (l sl src ep ep2 x1 x2 y1 y2:Nat):(YL l sl src [.ref x1,.ref x2] ep [.ref y1,.ref y2] ep2).ok (wf w b) RO 975:=
 WN _ (fun e=>by unfold PySem.W.Fast.tw9022537654139734821; simp only [Xh,bp,e,Bool.false_eq_true,if_false]; rfl) (RunsTo.of (.l 300110034002 (.z [] (rl [ep]))) (by kernel_rfl))
theorem Mv (w:World) (b:Bool) (RO:ZA) (l sl src ep ep2 x1 x2 y1 y2:Nat):(YO l sl src [.ref x1,.ref x2] ep [.ref y1,.ref y2] ep2).ok (wf w b) RO 960:=
 cR (.l 1 (.i (YL l sl src [.ref x1,.ref x2] ep [.ref y1,.ref y2] ep2) [0,1,2] (N6 w b _ _ _ _ _ _ _ _ _ _) [] (fun ρ0=>(rl [ρ0 0])))) (by kernel_rfl)
theorem N7 (w:World) (b:Bool) (RO:ZA) (l sl src ep ep2 x1 x2 y1:Nat):(YL l sl src [.ref x1,.ref x2] ep [.ref y1] ep2).ok (wf w b) RO 975:=
 WN _ (fun e=>by unfold PySem.W.Fast.tw9022537654139734821; simp only [Xh,bp,e,Bool.false_eq_true,if_false]; rfl) (RunsTo.of (.l 300110034002 (.z [] (rl [(ep + 1)]))) (by kernel_rfl))
theorem Se (w:World) (b:Bool) (RO:ZA) (l sl src ep ep2 x1 x2 y1:Nat):(YO l sl src [.ref x1,.ref x2] ep [.ref y1] ep2).ok (wf w b) RO 960:=
 cR (.l 1 (.i (YL l sl src [.ref x1,.ref x2] ep [.ref y1] ep2) [0,1,2] (N7 w b _ _ _ _ _ _ _ _ _) [] (fun ρ0=>(rl [ρ0 0])))) (by kernel_rfl)
theorem N8 (w:World) (b:Bool) (RO:ZA) (l sl src ep ep2 x1 x2 x3 y1 y2 y3:Nat):(YL l sl src [.ref x1,.ref x2,.ref x3] ep [.ref y1,.ref y2,.ref y3] ep2).ok (wf w b) RO 975:=
 WN _ (fun e=>by unfold PySem.W.Fast.tw9022537654139734821; simp only [Xh,bp,e,Bool.false_eq_true,if_false]; rfl) (RunsTo.of (.l 300110034002 (.z [] (rl [ep]))) (by kernel_rfl))
theorem Mw (w:World) (b:Bool) (RO:ZA) (l sl src ep ep2 x1 x2 x3 y1 y2 y3:Nat):(YO l sl src [.ref x1,.ref x2,.ref x3] ep [.ref y1,.ref y2,.ref y3] ep2).ok (wf w b) RO 960:=
 cR (.l 1 (.i (YL l sl src [.ref x1,.ref x2,.ref x3] ep [.ref y1,.ref y2,.ref y3] ep2) [0,1,2] (N8 w b _ _ _ _ _ _ _ _ _ _ _ _) [] (fun ρ0=>(rl [ρ0 0])))) (by kernel_rfl)
theorem N9 (w:World) (b:Bool) (RO:ZA) (l sl src ep ep2 x1 x2 x3 y1 y2:Nat):(YL l sl src [.ref x1,.ref x2,.ref x3] ep [.ref y1,.ref y2] ep2).ok (wf w b) RO 975:=
 WN _ (fun e=>by unfold PySem.W.Fast.tw9022537654139734821; simp only [Xh,bp,e,Bool.false_eq_true,if_false]; rfl) (RunsTo.of (.l 300110034002 (.z [] (rl [(ep + 1)]))) (by kernel_rfl))
theorem Vr (w:World) (b:Bool) (RO:ZA) (l sl src ep ep2 x1 x2 x3 y1 y2:Nat):(YO l sl src [.ref x1,.ref x2,.ref x3] ep [.ref y1,.ref y2] ep2).ok (wf w b) RO 960:=
 cR (.l 1 (.i (YL l sl src [.ref x1,.ref x2,.ref x3] ep [.ref y1,.ref y2] ep2) [0,1,2] (N9 w b _ _ _ _ _ _ _ _ _ _ _) [] (fun ρ0=>(rl [ρ0 0])))) (by kernel_rfl)
theorem ZF (w:World) (b:Bool) (RO:ZA) (a:Nat) (vs:Array Value):Z0 (wf w b) RO 960 a ⟨.type "list_iterator",none,.fields vs,#[]⟩:=
 Z0.of (.l 3001 (.z [] (fun _=>0))) (fun _=>(by cases b<;>kernel_rfl))
theorem Va (w:World) (b:Bool) (RO:ZA) (a:Nat) (vs:Array Value):Z0 (wf w b) RO 960 a ⟨.type "zip",none,.fields vs,#[]⟩:=
 Z0.of (.l 3001 (.z [] (fun _=>0))) (fun _=>(by cases b<;>kernel_rfl))
theorem Wy (w:World) (b:Bool) (RO:ZA) (a:Nat) (vs:Array Value):Z0 (wf w b) RO 960 a ⟨.type "enumerate",none,.fields vs,#[]⟩:=
 Z0.of (.l 3001 (.z [] (fun _=>0))) (fun _=>(by cases b<;>kernel_rfl))
theorem Yg (w:World) (b:Bool) (RO:ZA) (a:Nat) (vs:Array Value):Z0 (wf w b) RO 960 a ⟨.type "range_iterator",none,.fields vs,#[]⟩:=
 Z0.of (.l 3001 (.z [] (fun _=>0))) (fun _=>(by cases b<;>kernel_rfl))
noncomputable def Qw (w:World) (b:Bool) (RO:ZA) (sh d l td e ep k t:Nat) (hk:k < 12):CE (wf w b) [] []:=
 .l 1000300020268036813690002036813690002036813690002200101001001010010010100009903090315 (.k (ZJ k t) [] (ZO w b _ _ _ (by assumption)) fun ρ0=>.l 268 (.k (ZW sh (wd (lwi k)) (ρ0 0) true) [] (Z3 w b _ _ _ _ (Yn _)) fun ρ1=>.l 40001109910010005400100992004000303691002036813690002036813690002010020010100 (.z [6] (fun _=>0))))
theorem Mx (w:World) (b:Bool) (RO:ZA) (sh d l td e ep k t:Nat) (hk:k < 12):(Y5 w sh d l td e [] ep k t .none).ok (wf w b) [] 800:=
 cB (fd215 _) (Qw w b RO sh d l td e ep k t hk) (by cases b<;>kernel_rfl)
noncomputable def Qx (w:World) (b:Bool) (RO:ZA) (sh d l td e ep k t:Nat) (hk:k < 12) (p1:Pr) (h1:p1.k < 12) (e1:(p1.k % 6 == k % 6)=true):CE (wf w b) [cell p1] []:=
 .l 1000300020268036813690002036813690002036813690002200101001001010010010100009903090315 (.k (ZJ k t) [] (ZO w b _ _ _ (by assumption)) fun ρ0=>.l 268 (.k (ZW sh (wd (lwi k)) (ρ0 0) true) [] (Z3 w b _ _ _ _ (Yn _)) fun ρ1=>.l 20050100100501000001109910010431500104315001043140010099343130010005400100992004000303691002036813690002036813690002010020010100 (.k (ZJ (Pr.k p1) (p1.3)) [] (ZO w b _ _ _ (by assumption)) fun ρ2=>.l 5 (.k (Y4 (wd (lwi p1.k)) (ρ2 0) (wd (lwi k)) (ρ0 0) true) [] (XZ w b _ _ _ _ _ _ (Xr h1 hk e1)) fun ρ3=>.l 5 (.z [8] (fun _=>0))))))
theorem My (w:World) (b:Bool) (RO:ZA) (sh d l td e ep k t:Nat) (hk:k < 12) (p1:Pr) (h1:p1.k < 12) (e1:(p1.k % 6 == k % 6)=true):(Y5 w sh d l td e [p1] ep k t (.str (dig p1.n) p1.t')).ok (wf w b) [cell p1] 800:=
 cB (fd215 _) (Qx w b RO sh d l td e ep k t hk p1 h1 e1) (by cases b<;>kernel_rfl)
noncomputable def Qy (w:World) (b:Bool) (RO:ZA) (sh d l td e ep k t:Nat) (hk:k < 12) (p1:Pr) (h1:p1.k < 12) (e1:(p1.k % 6 == k % 6)=false):CE (wf w b) [cell p1] []:=
 .l 1000300020268036813690002036813690002036813690002200101001001010010010100009903090315 (.k (ZJ k t) [] (ZO w b _ _ _ (by assumption)) fun ρ0=>.l 268 (.k (ZW sh (wd (lwi k)) (ρ0 0) true) [] (Z3 w b _ _ _ _ (Yn _)) fun ρ1=>.l 20050100100501000001109910010431500104315001043140010099343130010005400100992004000303691002036813690002036813690002010020010100 (.k (ZJ (Pr.k p1) (p1.3)) [] (ZO w b _ _ _ (by assumption)) fun ρ2=>.l 5 (.k (Y4 (wd (lwi p1.k)) (ρ2 0) (wd (lwi k)) (ρ0 0) false) [] (XZ w b _ _ _ _ _ _ (Xr h1 hk e1)) fun ρ3=>.l 700011099100400083004 (.z [12] (fun _=>0))))))
theorem Mz (w:World) (b:Bool) (RO:ZA) (sh d l td e ep k t:Nat) (hk:k < 12) (p1:Pr) (h1:p1.k < 12) (e1:(p1.k % 6 == k % 6)=false):(Y5 w sh d l td e [p1] ep k t .none).ok (wf w b) [cell p1] 800:=
 cB (fd215 _) (Qy w b RO sh d l td e ep k t hk p1 h1 e1) (by cases b<;>kernel_rfl)
noncomputable def Qz (w:World) (b:Bool) (RO:ZA) (sh d l td e ep k t:Nat) (hk:k < 12) (p1:Pr) (h1:p1.k < 12) (e1:(p1.k % 6 == k % 6)=true) (p2:Pr):CE (wf w b) [cell p1,cell p2] []:=
 .l 1000300020268036813690002036813690002036813690002200101001001010010010100009903090315 (.k (ZJ k t) [] (ZO w b _ _ _ (by assumption)) fun ρ0=>.l 268 (.k (ZW sh (wd (lwi k)) (ρ0 0) true) [] (Z3 w b _ _ _ _ (Yn _)) fun ρ1=>.l 20050100100501000001109910010431500104315001043140010099343130010005400100992004000303691002036813690002036813690002010020010100 (.k (ZJ (Pr.k p1) (p1.3)) [] (ZO w b _ _ _ (by assumption)) fun ρ2=>.l 5 (.k (Y4 (wd (lwi p1.k)) (ρ2 0) (wd (lwi k)) (ρ0 0) true) [] (XZ w b _ _ _ _ _ _ (Xr h1 hk e1)) fun ρ3=>.l 5 (.z [8] (fun _=>0))))))
theorem M0 (w:World) (b:Bool) (RO:ZA) (sh d l td e ep k t:Nat) (hk:k < 12) (p1:Pr) (h1:p1.k < 12) (e1:(p1.k % 6 == k % 6)=true) (p2:Pr):(Y5 w sh d l td e [p1,p2] ep k t (.str (dig p1.n) p1.t')).ok (wf w b) [cell p1,cell p2] 800:=
 cB (fd215 _) (Qz w b RO sh d l td e ep k t hk p1 h1 e1 p2) (by cases b<;>kernel_rfl)
noncomputable def Q0 (w:World) (b:Bool) (RO:ZA) (sh d l td e ep k t:Nat) (hk:k < 12) (p1:Pr) (h1:p1.k < 12) (e1:(p1.k % 6 == k % 6)=false) (p2:Pr) (h2:p2.k < 12) (e2:(p2.k % 6 == k % 6)=true):CE (wf w b) [cell p1,cell p2] []:=
 .l 1000300020268036813690002036813690002036813690002200101001001010010010100009903090315 (.k (ZJ k t) [] (ZO w b _ _ _ (by assumption)) fun ρ0=>.l 268 (.k (ZW sh (wd (lwi k)) (ρ0 0) true) [] (Z3 w b _ _ _ _ (Yn _)) fun ρ1=>.l 20050100100501000001109910010431500104315001043140010099343130010005400100992004000303691002036813690002036813690002010020010100 (.k (ZJ (Pr.k p1) (p1.3)) [] (ZO w b _ _ _ (by assumption)) fun ρ2=>.l 5 (.k (Y4 (wd (lwi p1.k)) (ρ2 0) (wd (lwi k)) (ρ0 0) false) [] (XZ w b _ _ _ _ _ _ (Xr h1 hk e1)) fun ρ3=>.l 200801001008010000011099100104325001043250010432400100993432300400083004 (.k (ZJ (Pr.k p2) (p2.3)) [] (ZO w b _ _ _ (by assumption)) fun ρ4=>.l 8 (.k (Y4 (wd (lwi p2.k)) (ρ4 0) (wd (lwi k)) (ρ0 0) true) [] (XZ w b _ _ _ _ _ _ (Xr h2 hk e2)) fun ρ5=>.l 8 (.z [14] (fun _=>0))))))))
theorem M4 (w:World) (b:Bool) (RO:ZA) (sh d l td e ep k t:Nat) (hk:k < 12) (p1:Pr) (h1:p1.k < 12) (e1:(p1.k % 6 == k % 6)=false) (p2:Pr) (h2:p2.k < 12) (e2:(p2.k % 6 == k % 6)=true):(Y5 w sh d l td e [p1,p2] ep k t (.str (dig p2.n) p2.t')).ok (wf w b) [cell p1,cell p2] 800:=
 cB (fd215 _) (Q0 w b RO sh d l td e ep k t hk p1 h1 e1 p2 h2 e2) (by cases b<;>kernel_rfl)
noncomputable def Q1 (w:World) (b:Bool) (RO:ZA) (sh d l td e ep k t:Nat) (hk:k < 12) (p1:Pr) (h1:p1.k < 12) (e1:(p1.k % 6 == k % 6)=false) (p2:Pr) (h2:p2.k < 12) (e2:(p2.k % 6 == k % 6)=false):CE (wf w b) [cell p1,cell p2] []:=
 .l 1000300020268036813690002036813690002036813690002200101001001010010010100009903090315 (.k (ZJ k t) [] (ZO w b _ _ _ (by assumption)) fun ρ0=>.l 268 (.k (ZW sh (wd (lwi k)) (ρ0 0) true) [] (Z3 w b _ _ _ _ (Yn _)) fun ρ1=>.l 20050100100501000001109910010431500104315001043140010099343130010005400100992004000303691002036813690002036813690002010020010100 (.k (ZJ (Pr.k p1) (p1.3)) [] (ZO w b _ _ _ (by assumption)) fun ρ2=>.l 5 (.k (Y4 (wd (lwi p1.k)) (ρ2 0) (wd (lwi k)) (ρ0 0) false) [] (XZ w b _ _ _ _ _ _ (Xr h1 hk e1)) fun ρ3=>.l 200801001008010000011099100104325001043250010432400100993432300400083004 (.k (ZJ (Pr.k p2) (p2.3)) [] (ZO w b _ _ _ (by assumption)) fun ρ4=>.l 8 (.k (Y4 (wd (lwi p2.k)) (ρ4 0) (wd (lwi k)) (ρ0 0) false) [] (XZ w b _ _ _ _ _ _ (Xr h2 hk e2)) fun ρ5=>.l 1000011099100700113007 (.z [18] (fun _=>0))))))))
theorem M5 (w:World) (b:Bool) (RO:ZA) (sh d l td e ep k t:Nat) (hk:k < 12) (p1:Pr) (h1:p1.k < 12) (e1:(p1.k % 6 == k % 6)=false) (p2:Pr) (h2:p2.k < 12) (e2:(p2.k % 6 == k % 6)=false):(Y5 w sh d l td e [p1,p2] ep k t .none).ok (wf w b) [cell p1,cell p2] 800:=
 cB (fd215 _) (Q1 w b RO sh d l td e ep k t hk p1 h1 e1 p2 h2 e2) (by cases b<;>kernel_rfl)
noncomputable def Q2 (w:World) (b:Bool) (RO:ZA) (sh d l td e ep k t:Nat) (hk:k < 12):CE (wf w b) [] []:=
 .l 1000400030268036813690003036813690003036813690003000210011002010010990286 (.k (ZJ k t) [] (ZO w b _ _ _ (by assumption)) fun ρ0=>.l 268 (.k (ZW sh (wd (lwi k)) (ρ0 0) true) [] (Z3 w b _ _ _ _ (Yn _)) fun ρ1=>.l 2005000403691003036813690003036813690003010000021001 (.a fun a2=>.l 1 (.a fun a3=>.l 99 (.c 2 (ZF w b _ a2 #[(.ref l),(.int 0 0)]) (.l 90369100803681369000803681369000801000007000300011099100300083003 (.a fun a7=>.l 1011 (.k (YO l a7 a3 [] ep [] 0) [10,0,4] (Mr w b _ _ _ _ _ _) fun ρ2=>.z [14] (rl [ρ2 0])))))))))
theorem M6 (w:World) (b:Bool) (RO:ZA) (sh d l td e ep k t:Nat) (hk:k < 12):(Zh 186 w sh d l td e [] ep k t []).ok (wf w b) [] 800:=
 cB (fd186 _) (Q2 w b RO sh d l td e ep k t hk) (by cases b<;>kernel_rfl)
noncomputable def Q3 (w:World) (b:Bool) (RO:ZA) (sh d l td e ep k t:Nat) (hk:k < 12) (p1:Pr) (h1:p1.k < 12) (e1:(p1.k % 6 == k % 6)=true):CE (wf w b) [cell p1] []:=
 .l 1000400030268036813690003036813690003036813690003000210011002010010990286 (.k (ZJ k t) [] (ZO w b _ _ _ (by assumption)) fun ρ0=>.l 268 (.k (ZW sh (wd (lwi k)) (ρ0 0) true) [] (Z3 w b _ _ _ _ (Yn _)) fun ρ1=>.l 2005000403691003036813690003036813690003010000021001 (.a fun a2=>.l 1 (.a fun a3=>.l 99 (.c 2 (ZF w b _ a2 #[(.ref l),(.int 0 0)]) (.l 4431010020010100100300083003 (.k (ZJ (Pr.k p1) (p1.3)) [] (ZO w b _ _ _ (by assumption)) fun ρ2=>.l 4 (.k (YH (wd (lwi p1.k)) (ρ2 0) (wd (lwi k)) (ρ0 0) false) [] (YM w b _ _ _ _ _ _ (YN h1 hk e1)) fun ρ3=>.l 90369100803681369000803681369000801000007200300011099100300083003 (.a fun a7=>.l 1011 (.k (YO l a7 a3 [.ref p1.a] ep [] 0) [10,0,4] (Mu w b _ _ _ _ _ _ _) fun ρ4=>.z [14] (rl [ρ4 0])))))))))))
theorem M7 (w:World) (b:Bool) (RO:ZA) (sh d l td e ep k t:Nat) (hk:k < 12) (p1:Pr) (h1:p1.k < 12) (e1:(p1.k % 6 == k % 6)=true):(Zh 186 w sh d l td e [p1] ep k t []).ok (wf w b) [cell p1] 800:=
 cB (fd186 _) (Q3 w b RO sh d l td e ep k t hk p1 h1 e1) (by cases b<;>kernel_rfl)
noncomputable def Q4 (w:World) (b:Bool) (RO:ZA) (sh d l td e ep k t:Nat) (hk:k < 12) (p1:Pr) (h1:p1.k < 12) (e1:(p1.k % 6 == k % 6)=false):CE (wf w b) [cell p1] []:=
 .l 1000400030268036813690003036813690003036813690003000210011002010010990286 (.k (ZJ k t) [] (ZO w b _ _ _ (by assumption)) fun ρ0=>.l 268 (.k (ZW sh (wd (lwi k)) (ρ0 0) true) [] (Z3 w b _ _ _ _ (Yn _)) fun ρ1=>.l 2005000403691003036813690003036813690003010000021001 (.a fun a2=>.l 1 (.a fun a3=>.l 99 (.c 2 (ZF w b _ a2 #[(.ref l),(.int 0 0)]) (.l 4431010020010100100300083003 (.k (ZJ (Pr.k p1) (p1.3)) [] (ZO w b _ _ _ (by assumption)) fun ρ2=>.l 4 (.k (YH (wd (lwi p1.k)) (ρ2 0) (wd (lwi k)) (ρ0 0) true) [] (YM w b _ _ _ _ _ _ (YN h1 hk e1)) fun ρ3=>.l 9036910080368136900080368136900080100000720030001109910030008300330020001 (.a fun a7=>.l 1011 (.k (YO l a7 a3 [.ref p1.a] ep [.ref p1.a] 1) [10,0,4] (Mt w b _ _ _ _ _ _ _ _) fun ρ4=>.z [14] (rl [ρ4 0])))))))))))
theorem M8 (w:World) (b:Bool) (RO:ZA) (sh d l td e ep k t:Nat) (hk:k < 12) (p1:Pr) (h1:p1.k < 12) (e1:(p1.k % 6 == k % 6)=false):(Zh 186 w sh d l td e [p1] ep k t [p1]).ok (wf w b) [cell p1] 800:=
 cB (fd186 _) (Q4 w b RO sh d l td e ep k t hk p1 h1 e1) (by cases b<;>kernel_rfl)
noncomputable def Q5 (w:World) (b:Bool) (RO:ZA) (sh d l td e ep k t:Nat) (hk:k < 12) (p1:Pr) (h1:p1.k < 12) (e1:(p1.k % 6 == k % 6)=true) (p2:Pr) (h2:p2.k < 12) (e2:(p2.k % 6 == k % 6)=false):CE (wf w b) [cell p1,cell p2] []:=
 .l 1000400030268036813690003036813690003036813690003000210011002010010990286 (.k (ZJ k t) [] (ZO w b _ _ _ (by assumption)) fun ρ0=>.l 268 (.k (ZW sh (wd (lwi k)) (ρ0 0) true) [] (Z3 w b _ _ _ _ (Yn _)) fun ρ1=>.l 2005000403691003036813690003036813690003010000021001 (.a fun a2=>.l 1 (.a fun a3=>.l 99 (.c 2 (ZF w b _ a2 #[(.ref l),(.int 0 0)]) (.l 4431010020010100100300083003 (.k (ZJ (Pr.k p1) (p1.3)) [] (ZO w b _ _ _ (by assumption)) fun ρ2=>.l 4 (.k (YH (wd (lwi p1.k)) (ρ2 0) (wd (lwi k)) (ρ0 0) false) [] (YM w b _ _ _ _ _ _ (YN h1 hk e1)) fun ρ3=>.l 4432010020010100100300083003 (.k (ZJ (Pr.k p2) (p2.3)) [] (ZO w b _ _ _ (by assumption)) fun ρ4=>.l 4 (.k (YH (wd (lwi p2.k)) (ρ4 0) (wd (lwi k)) (ρ0 0) true) [] (YM w b _ _ _ _ _ _ (YN h2 hk e2)) fun ρ5=>.l 9036910080368136900080368136900080100000720030001109910030008300330020001 (.a fun a7=>.l 1011 (.k (YO l a7 a3 [.ref p1.a,.ref p2.a] ep [.ref p2.a] 1) [10,0,4] (Se w b _ _ _ _ _ _ _ _ _) fun ρ6=>.z [14] (rl [ρ6 0])))))))))))))
theorem M9 (w:World) (b:Bool) (RO:ZA) (sh d l td e ep k t:Nat) (hk:k < 12) (p1:Pr) (h1:p1.k < 12) (e1:(p1.k % 6 == k % 6)=true) (p2:Pr) (h2:p2.k < 12) (e2:(p2.k % 6 == k % 6)=false):(Zh 186 w sh d l td e [p1,p2] ep k t [p2]).ok (wf w b) [cell p1,cell p2] 800:=
 cB (fd186 _) (Q5 w b RO sh d l td e ep k t hk p1 h1 e1 p2 h2 e2) (by cases b<;>kernel_rfl)
noncomputable def Q6 (w:World) (b:Bool) (RO:ZA) (sh d l td e ep k t:Nat) (hk:k < 12) (p1:Pr) (h1:p1.k < 12) (e1:(p1.k % 6 == k % 6)=false) (p2:Pr) (h2:p2.k < 12) (e2:(p2.k % 6 == k % 6)=true):CE (wf w b) [cell p1,cell p2] []:=
 .l 1000400030268036813690003036813690003036813690003000210011002010010990286 (.k (ZJ k t) [] (ZO w b _ _ _ (by assumption)) fun ρ0=>.l 268 (.k (ZW sh (wd (lwi k)) (ρ0 0) true) [] (Z3 w b _ _ _ _ (Yn _)) fun ρ1=>.l 2005000403691003036813690003036813690003010000021001 (.a fun a2=>.l 1 (.a fun a3=>.l 99 (.c 2 (ZF w b _ a2 #[(.ref l),(.int 0 0)]) (.l 4431010020010100100300083003 (.k (ZJ (Pr.k p1) (p1.3)) [] (ZO w b _ _ _ (by assumption)) fun ρ2=>.l 4 (.k (YH (wd (lwi p1.k)) (ρ2 0) (wd (lwi k)) (ρ0 0) true) [] (YM w b _ _ _ _ _ _ (YN h1 hk e1)) fun ρ3=>.l 443201002001010010030008300330020001 (.k (ZJ (Pr.k p2) (p2.3)) [] (ZO w b _ _ _ (by assumption)) fun ρ4=>.l 4 (.k (YH (wd (lwi p2.k)) (ρ4 0) (wd (lwi k)) (ρ0 0) false) [] (YM w b _ _ _ _ _ _ (YN h2 hk e2)) fun ρ5=>.l 90369100803681369000803681369000801000007200300011099100300083003 (.a fun a7=>.l 1011 (.k (YO l a7 a3 [.ref p1.a,.ref p2.a] ep [.ref p1.a] 1) [10,0,4] (Se w b _ _ _ _ _ _ _ _ _) fun ρ6=>.z [14] (rl [ρ6 0])))))))))))))
theorem LA (w:World) (b:Bool) (RO:ZA) (sh d l td e ep k t:Nat) (hk:k < 12) (p1:Pr) (h1:p1.k < 12) (e1:(p1.k % 6 == k % 6)=false) (p2:Pr) (h2:p2.k < 12) (e2:(p2.k % 6 == k % 6)=true):(Zh 186 w sh d l td e [p1,p2] ep k t [p1]).ok (wf w b) [cell p1,cell p2] 800:=
 cB (fd186 _) (Q6 w b RO sh d l td e ep k t hk p1 h1 e1 p2 h2 e2) (by cases b<;>kernel_rfl)
noncomputable def Q7 (w:World) (b:Bool) (RO:ZA) (sh d l td e ep k t:Nat) (hk:k < 12) (p1:Pr) (h1:p1.k < 12) (e1:(p1.k % 6 == k % 6)=false) (p2:Pr) (h2:p2.k < 12) (e2:(p2.k % 6 == k % 6)=false):CE (wf w b) [cell p1,cell p2] []:=
 .l 1000400030268036813690003036813690003036813690003000210011002010010990286 (.k (ZJ k t) [] (ZO w b _ _ _ (by assumption)) fun ρ0=>.l 268 (.k (ZW sh (wd (lwi k)) (ρ0 0) true) [] (Z3 w b _ _ _ _ (Yn _)) fun ρ1=>.l 2005000403691003036813690003036813690003010000021001 (.a fun a2=>.l 1 (.a fun a3=>.l 99 (.c 2 (ZF w b _ a2 #[(.ref l),(.int 0 0)]) (.l 4431010020010100100300083003 (.k (ZJ (Pr.k p1) (p1.3)) [] (ZO w b _ _ _ (by assumption)) fun ρ2=>.l 4 (.k (YH (wd (lwi p1.k)) (ρ2 0) (wd (lwi k)) (ρ0 0) true) [] (YM w b _ _ _ _ _ _ (YN h1 hk e1)) fun ρ3=>.l 443201002001010010030008300330020001 (.k (ZJ (Pr.k p2) (p2.3)) [] (ZO w b _ _ _ (by assumption)) fun ρ4=>.l 4 (.k (YH (wd (lwi p2.k)) (ρ4 0) (wd (lwi k)) (ρ0 0) true) [] (YM w b _ _ _ _ _ _ (YN h2 hk e2)) fun ρ5=>.l 9036910080368136900080368136900080100000720030001109910030008300330020001 (.a fun a7=>.l 1011 (.k (YO l a7 a3 [.ref p1.a,.ref p2.a] ep [.ref p1.a,.ref p2.a] 2) [10,0,4] (Mv w b _ _ _ _ _ _ _ _ _ _) fun ρ6=>.z [14] (rl [ρ6 0])))))))))))))
theorem LB (w:World) (b:Bool) (RO:ZA) (sh d l td e ep k t:Nat) (hk:k < 12) (p1:Pr) (h1:p1.k < 12) (e1:(p1.k % 6 == k % 6)=false) (p2:Pr) (h2:p2.k < 12) (e2:(p2.k % 6 == k % 6)=false):(Zh 186 w sh d l td e [p1,p2] ep k t [p1,p2]).ok (wf w b) [cell p1,cell p2] 800:=
 cB (fd186 _) (Q7 w b RO sh d l td e ep k t hk p1 h1 e1 p2 h2 e2) (by cases b<;>kernel_rfl)
noncomputable def Q8 (w:World) (b:Bool) (RO:ZA) (sh d l td e ep k t:Nat) (hk:k < 12) (p1:Pr) (h1:p1.k < 12) (e1:(p1.k % 6 == k % 6)=true) (p2:Pr) (h2:p2.k < 12) (e2:(p2.k % 6 == k % 6)=false) (p3:Pr) (h3:p3.k < 12) (e3:(p3.k % 6 == k % 6)=false):CE (wf w b) [cell p1,cell p2,cell p3] []:=
 .l 1000400030268036813690003036813690003036813690003000210011002010010990286 (.k (ZJ k t) [] (ZO w b _ _ _ (by assumption)) fun ρ0=>.l 268 (.k (ZW sh (wd (lwi k)) (ρ0 0) true) [] (Z3 w b _ _ _ _ (Yn _)) fun ρ1=>.l 2005000403691003036813690003036813690003010000021001 (.a fun a2=>.l 1 (.a fun a3=>.l 99 (.c 2 (ZF w b _ a2 #[(.ref l),(.int 0 0)]) (.l 4431010020010100100300083003 (.k (ZJ (Pr.k p1) (p1.3)) [] (ZO w b _ _ _ (by assumption)) fun ρ2=>.l 4 (.k (YH (wd (lwi p1.k)) (ρ2 0) (wd (lwi k)) (ρ0 0) false) [] (YM w b _ _ _ _ _ _ (YN h1 hk e1)) fun ρ3=>.l 4432010020010100100300083003 (.k (ZJ (Pr.k p2) (p2.3)) [] (ZO w b _ _ _ (by assumption)) fun ρ4=>.l 4 (.k (YH (wd (lwi p2.k)) (ρ4 0) (wd (lwi k)) (ρ0 0) true) [] (YM w b _ _ _ _ _ _ (YN h2 hk e2)) fun ρ5=>.l 443301002001010010030008300330020001 (.k (ZJ (Pr.k p3) (p3.3)) [] (ZO w b _ _ _ (by assumption)) fun ρ6=>.l 4 (.k (YH (wd (lwi p3.k)) (ρ6 0) (wd (lwi k)) (ρ0 0) true) [] (YM w b _ _ _ _ _ _ (YN h3 hk e3)) fun ρ7=>.l 9036910080368136900080368136900080100000720030001109910030008300330020001 (.a fun a7=>.l 1011 (.k (YO l a7 a3 [.ref p1.a,.ref p2.a,.ref p3.a] ep [.ref p2.a,.ref p3.a] 2) [10,0,4] (Vr w b _ _ _ _ _ _ _ _ _ _ _) fun ρ8=>.z [14] (rl [ρ8 0])))))))))))))))
theorem LC (w:World) (b:Bool) (RO:ZA) (sh d l td e ep k t:Nat) (hk:k < 12) (p1:Pr) (h1:p1.k < 12) (e1:(p1.k % 6 == k % 6)=true) (p2:Pr) (h2:p2.k < 12) (e2:(p2.k % 6 == k % 6)=false) (p3:Pr) (h3:p3.k < 12) (e3:(p3.k % 6 == k % 6)=false):(Zh 186 w sh d l td e [p1,p2,p3] ep k t [p2,p3]).ok (wf w b) [cell p1,cell p2,cell p3] 800:=
 cB (fd186 _) (Q8 w b RO sh d l td e ep k t hk p1 h1 e1 p2 h2 e2 p3 h3 e3) (by cases b<;>kernel_rfl)
noncomputable def Q9 (w:World) (b:Bool) (RO:ZA) (sh d l td e ep k t:Nat) (hk:k < 12) (p1:Pr) (h1:p1.k < 12) (e1:(p1.k % 6 == k % 6)=false) (p2:Pr) (h2:p2.k < 12) (e2:(p2.k % 6 == k % 6)=true) (p3:Pr) (h3:p3.k < 12) (e3:(p3.k % 6 == k % 6)=false):CE (wf w b) [cell p1,cell p2,cell p3] []:=
 .l 1000400030268036813690003036813690003036813690003000210011002010010990286 (.k (ZJ k t) [] (ZO w b _ _ _ (by assumption)) fun ρ0=>.l 268 (.k (ZW sh (wd (lwi k)) (ρ0 0) true) [] (Z3 w b _ _ _ _ (Yn _)) fun ρ1=>.l 2005000403691003036813690003036813690003010000021001 (.a fun a2=>.l 1 (.a fun a3=>.l 99 (.c 2 (ZF w b _ a2 #[(.ref l),(.int 0 0)]) (.l 4431010020010100100300083003 (.k (ZJ (Pr.k p1) (p1.3)) [] (ZO w b _ _ _ (by assumption)) fun ρ2=>.l 4 (.k (YH (wd (lwi p1.k)) (ρ2 0) (wd (lwi k)) (ρ0 0) true) [] (YM w b _ _ _ _ _ _ (YN h1 hk e1)) fun ρ3=>.l 443201002001010010030008300330020001 (.k (ZJ (Pr.k p2) (p2.3)) [] (ZO w b _ _ _ (by assumption)) fun ρ4=>.l 4 (.k (YH (wd (lwi p2.k)) (ρ4 0) (wd (lwi k)) (ρ0 0) false) [] (YM w b _ _ _ _ _ _ (YN h2 hk e2)) fun ρ5=>.l 4433010020010100100300083003 (.k (ZJ (Pr.k p3) (p3.3)) [] (ZO w b _ _ _ (by assumption)) fun ρ6=>.l 4 (.k (YH (wd (lwi p3.k)) (ρ6 0) (wd (lwi k)) (ρ0 0) true) [] (YM w b _ _ _ _ _ _ (YN h3 hk e3)) fun ρ7=>.l 9036910080368136900080368136900080100000720030001109910030008300330020001 (.a fun a7=>.l 1011 (.k (YO l a7 a3 [.ref p1.a,.ref p2.a,.ref p3.a] ep [.ref p1.a,.ref p3.a] 2) [10,0,4] (Vr w b _ _ _ _ _ _ _ _ _ _ _) fun ρ8=>.z [14] (rl [ρ8 0])))))))))))))))
theorem LD (w:World) (b:Bool) (RO:ZA) (sh d l td e ep k t:Nat) (hk:k < 12) (p1:Pr) (h1:p1.k < 12) (e1:(p1.k % 6 == k % 6)=false) (p2:Pr) (h2:p2.k < 12) (e2:(p2.k % 6 == k % 6)=true) (p3:Pr) (h3:p3.k < 12) (e3:(p3.k % 6 == k % 6)=false):(Zh 186 w sh d l td e [p1,p2,p3] ep k t [p1,p3]).ok (wf w b) [cell p1,cell p2,cell p3] 800:=
 cB (fd186 _) (Q9 w b RO sh d l td e ep k t hk p1 h1 e1 p2 h2 e2 p3 h3 e3) (by cases b<;>kernel_rfl)
noncomputable def PA (w:World) (b:Bool) (RO:ZA) (sh d l td e ep k t:Nat) (hk:k < 12) (p1:Pr) (h1:p1.k < 12) (e1:(p1.k % 6 == k % 6)=false) (p2:Pr) (h2:p2.k < 12) (e2:(p2.k % 6 == k % 6)=false) (p3:Pr) (h3:p3.k < 12) (e3:(p3.k % 6 == k % 6)=true):CE (wf w b) [cell p1,cell p2,cell p3] []:=
 .l 1000400030268036813690003036813690003036813690003000210011002010010990286 (.k (ZJ k t) [] (ZO w b _ _ _ (by assumption)) fun ρ0=>.l 268 (.k (ZW sh (wd (lwi k)) (ρ0 0) true) [] (Z3 w b _ _ _ _ (Yn _)) fun ρ1=>.l 2005000403691003036813690003036813690003010000021001 (.a fun a2=>.l 1 (.a fun a3=>.l 99 (.c 2 (ZF w b _ a2 #[(.ref l),(.int 0 0)]) (.l 4431010020010100100300083003 (.k (ZJ (Pr.k p1) (p1.3)) [] (ZO w b _ _ _ (by assumption)) fun ρ2=>.l 4 (.k (YH (wd (lwi p1.k)) (ρ2 0) (wd (lwi k)) (ρ0 0) true) [] (YM w b _ _ _ _ _ _ (YN h1 hk e1)) fun ρ3=>.l 443201002001010010030008300330020001 (.k (ZJ (Pr.k p2) (p2.3)) [] (ZO w b _ _ _ (by assumption)) fun ρ4=>.l 4 (.k (YH (wd (lwi p2.k)) (ρ4 0) (wd (lwi k)) (ρ0 0) true) [] (YM w b _ _ _ _ _ _ (YN h2 hk e2)) fun ρ5=>.l 443301002001010010030008300330020001 (.k (ZJ (Pr.k p3) (p3.3)) [] (ZO w b _ _ _ (by assumption)) fun ρ6=>.l 4 (.k (YH (wd (lwi p3.k)) (ρ6 0) (wd (lwi k)) (ρ0 0) false) [] (YM w b _ _ _ _ _ _ (YN h3 hk e3)) fun ρ7=>.l 90369100803681369000803681369000801000007200300011099100300083003 (.a fun a7=>.l 1011 (.k (YO l a7 a3 [.ref p1.a,.ref p2.a,.ref p3.a] ep [.ref p1.a,.ref p2.a] 2) [10,0,4] (Vr w b _ _ _ _ _ _ _ _ _ _ _) fun ρ8=>.z [14] (rl [ρ8 0])))))))))))))))
theorem LE (w:World) (b:Bool) (RO:ZA) (sh d l td e ep k t:Nat) (hk:k < 12) (p1:Pr) (h1:p1.k < 12) (e1:(p1.k % 6 == k % 6)=false) (p2:Pr) (h2:p2.k < 12) (e2:(p2.k % 6 == k % 6)=false) (p3:Pr) (h3:p3.k < 12) (e3:(p3.k % 6 == k % 6)=true):(Zh 186 w sh d l td e [p1,p2,p3] ep k t [p1,p2]).ok (wf w b) [cell p1,cell p2,cell p3] 800:=
 cB (fd186 _) (PA w b RO sh d l td e ep k t hk p1 h1 e1 p2 h2 e2 p3 h3 e3) (by cases b<;>kernel_rfl)
noncomputable def PB (w:World) (b:Bool) (RO:ZA) (sh d l td e ep k t:Nat) (hk:k < 12) (p1:Pr) (h1:p1.k < 12) (e1:(p1.k % 6 == k % 6)=false) (p2:Pr) (h2:p2.k < 12) (e2:(p2.k % 6 == k % 6)=false) (p3:Pr) (h3:p3.k < 12) (e3:(p3.k % 6 == k % 6)=false):CE (wf w b) [cell p1,cell p2,cell p3] []:=
 .l 1000400030268036813690003036813690003036813690003000210011002010010990286 (.k (ZJ k t) [] (ZO w b _ _ _ (by assumption)) fun ρ0=>.l 268 (.k (ZW sh (wd (lwi k)) (ρ0 0) true) [] (Z3 w b _ _ _ _ (Yn _)) fun ρ1=>.l 2005000403691003036813690003036813690003010000021001 (.a fun a2=>.l 1 (.a fun a3=>.l 99 (.c 2 (ZF w b _ a2 #[(.ref l),(.int 0 0)]) (.l 4431010020010100100300083003 (.k (ZJ (Pr.k p1) (p1.3)) [] (ZO w b _ _ _ (by assumption)) fun ρ2=>.l 4 (.k (YH (wd (lwi p1.k)) (ρ2 0) (wd (lwi k)) (ρ0 0) true) [] (YM w b _ _ _ _ _ _ (YN h1 hk e1)) fun ρ3=>.l 443201002001010010030008300330020001 (.k (ZJ (Pr.k p2) (p2.3)) [] (ZO w b _ _ _ (by assumption)) fun ρ4=>.l 4 (.k (YH (wd (lwi p2.k)) (ρ4 0) (wd (lwi k)) (ρ0 0) true) [] (YM w b _ _ _ _ _ _ (YN h2 hk e2)) fun ρ5=>.l 443301002001010010030008300330020001 (.k (ZJ (Pr.k p3) (p3.3)) [] (ZO w b _ _ _ (by assumption)) fun ρ6=>.l 4 (.k (YH (wd (lwi p3.k)) (ρ6 0) (wd (lwi k)) (ρ0 0) true) [] (YM w b _ _ _ _ _ _ (YN h3 hk e3)) fun ρ7=>.l 9036910080368136900080368136900080100000720030001109910030008300330020001 (.a fun a7=>.l 1011 (.k (YO l a7 a3 [.ref p1.a,.ref p2.a,.ref p3.a] ep [.ref p1.a,.ref p2.a,.ref p3.a] 3) [10,0,4] (Mw w b _ _ _ _ _ _ _ _ _ _ _ _) fun ρ8=>.z [14] (rl [ρ8 0])))))))))))))))
theorem LF (w:World) (b:Bool) (RO:ZA) (sh d l td e ep k t:Nat) (hk:k < 12) (p1:Pr) (h1:p1.k < 12) (e1:(p1.k % 6 == k % 6)=false) (p2:Pr) (h2:p2.k < 12) (e2:(p2.k % 6 == k % 6)=false) (p3:Pr) (h3:p3.k < 12) (e3:(p3.k % 6 == k % 6)=false):(Zh 186 w sh d l td e [p1,p2,p3] ep k t [p1,p2,p3]).ok (wf w b) [cell p1,cell p2,cell p3] 800:=
 cB (fd186 _) (PB w b RO sh d l td e ep k t hk p1 h1 e1 p2 h2 e2 p3 h3 e3) (by cases b<;>kernel_rfl)
theorem I5 (w:World) (b:Bool) (RO:ZA) (sh d l td e ep k t n t':Nat) (hk:k < 12) (hn:n < 13) (ps:List Pr) (hd:∀ RO',(∀ p∈RO,p∈RO')→(Zh 186 w sh d l td e ps ep k t []).ok (wf w b) RO' 800):(Zq 181 w sh d l td e ps ep k t n t' []).ok (wf w b) RO 700:=
 cB (fd181 _) (.l 2870368136900020369000230010100100101001001010000990281 (.k (Zh 186 w sh d l td e ps ep k t []) [1,2,3] (hd _ sb) fun ρ0=>.l 26800010003000202680368136900020368136900020368136900020001300400030369100203681369000203681369000201000001 (.k (ZW sh (wd k) t true) [] (Z3 w b _ _ _ _ hk) fun ρ1=>.l 26800010003000202680368136900020368136900020368136900020001 (.k (ZW sh (dig n) t' false) [] (UZ w b _ _ _ _ hn) fun ρ2=>.a fun a1=>.l 3005 (.z [1,0] (rl [a1,((ρ0 0) + 1)])))))) (by kernel_rfl)
theorem I6 (w:World) (b:Bool) (RO:ZA) (sh d l td e ep k t n t':Nat) (hk:k < 12) (hn:n < 13) (ps:List Pr) (p1:Pr) (hd:∀ RO',(∀ p∈RO,p∈RO')→(Zh 186 w sh d l td e ps ep k t [p1]).ok (wf w b) RO' 800):(Zq 181 w sh d l td e ps ep k t n t' [p1]).ok (wf w b) RO 700:=
 cB (fd181 _) (.l 2870368136900020369000230010100100101001001010000990281 (.k (Zh 186 w sh d l td e ps ep k t [p1]) [1,2,3] (hd _ sb) fun ρ0=>.l 26800010003000202680368136900020368136900020368136900020001300400030369100203681369000203681369000201000001 (.k (ZW sh (wd k) t true) [] (Z3 w b _ _ _ _ hk) fun ρ1=>.l 26800010003000202680368136900020368136900020368136900020001 (.k (ZW sh (dig n) t' false) [] (UZ w b _ _ _ _ hn) fun ρ2=>.a fun a1=>.l 3005 (.z [1,0] (rl [a1,((ρ0 0) + 1)])))))) (by kernel_rfl)
theorem I7 (w:World) (b:Bool) (RO:ZA) (sh d l td e ep k t n t':Nat) (hk:k < 12) (hn:n < 13) (ps:List Pr) (p1:Pr) (p2:Pr) (hd:∀ RO',(∀ p∈RO,p∈RO')→(Zh 186 w sh d l td e ps ep k t [p1,p2]).ok (wf w b) RO' 800):(Zq 181 w sh d l td e ps ep k t n t' [p1,p2]).ok (wf w b) RO 700:=
 cB (fd181 _) (.l 2870368136900020369000230010100100101001001010000990281 (.k (Zh 186 w sh d l td e ps ep k t [p1,p2]) [1,2,3] (hd _ sb) fun ρ0=>.l 26800010003000202680368136900020368136900020368136900020001300400030369100203681369000203681369000201000001 (.k (ZW sh (wd k) t true) [] (Z3 w b _ _ _ _ hk) fun ρ1=>.l 26800010003000202680368136900020368136900020368136900020001 (.k (ZW sh (dig n) t' false) [] (UZ w b _ _ _ _ hn) fun ρ2=>.a fun a1=>.l 3005 (.z [1,0] (rl [a1,((ρ0 0) + 1)])))))) (by kernel_rfl)
noncomputable def MA (w:World) (b:Bool) (RO:ZA) (sh d l td e ep:Nat) (p1:Pr):CE (wf w b) [cell p1] []:=
 .l 200400030369100203681369000203681369000201002001010000990320 (.a fun a1=>.l 1 (.a fun a2=>.l 99 (.c 2 (ZF w b _ a1 #[(.ref l),(.int 0 0)]) (.l 5006000110991006001030063005200401001004010000011099100104315001043150010431400100993431300300073003 (.z [10,1,2] (rl [a2,1]))))))
theorem JR (w:World) (b:Bool) (RO:ZA) (sh d l td e ep:Nat) (p1:Pr):(Zo w sh d l td e [p1] ep).ok (wf w b) [cell p1] 700:=
 cB (fd220 _) (MA w b RO sh d l td e ep p1) (by cases b<;>kernel_rfl)
noncomputable def MB (w:World) (b:Bool) (RO:ZA) (sh d l td e ep:Nat) (p1:Pr) (p2:Pr):CE (wf w b) [cell p1,cell p2] []:=
 .l 200400030369100203681369000203681369000201002001010000990320 (.a fun a1=>.l 1 (.a fun a2=>.l 99 (.c 2 (ZF w b _ a1 #[(.ref l),(.int 0 0)]) (.l 50090001109910090013300930082007010010070100000110991001043250010432500104324001009934323006001030063005200401001004010000011099100104315001043150010431400100993431300300073003 (.z [16,1,2] (rl [a2,2]))))))
theorem JS (w:World) (b:Bool) (RO:ZA) (sh d l td e ep:Nat) (p1:Pr) (p2:Pr):(Zo w sh d l td e [p1,p2] ep).ok (wf w b) [cell p1,cell p2] 700:=
 cB (fd220 _) (MB w b RO sh d l td e ep p1 p2) (by cases b<;>kernel_rfl)
noncomputable def MC (w:World) (b:Bool) (RO:ZA) (sh d l td e ep:Nat) (p1:Pr) (p2:Pr) (p3:Pr):CE (wf w b) [cell p1,cell p2,cell p3] []:=
 .l 200400030369100203681369000203681369000201002001010000990320 (.a fun a1=>.l 1 (.a fun a2=>.l 99 (.c 2 (ZF w b _ a1 #[(.ref l),(.int 0 0)]) (.l 501200011099101200163012301120100100101001000001109910010433500104335001043340010099343330090013300930082007010010070100000110991001043250010432500104324001009934323006001030063005200401001004010000011099100104315001043150010431400100993431300300073003 (.z [22,1,2] (rl [a2,3]))))))
theorem JT (w:World) (b:Bool) (RO:ZA) (sh d l td e ep:Nat) (p1:Pr) (p2:Pr) (p3:Pr):(Zo w sh d l td e [p1,p2,p3] ep).ok (wf w b) [cell p1,cell p2,cell p3] 700:=
 cB (fd220 _) (MC w b RO sh d l td e ep p1 p2 p3) (by cases b<;>kernel_rfl)
theorem LH (w:World) (b:Bool) (RO:ZA) (sh d l td e ep:Nat):(Z4 w sh d l td e [] ep).ok (wf w b) RO 700:=
 cB (fd232 _) (.l 540013005009900030369100203681369000203681369000201002001010000990332 (.a fun a2=>.z [1,2] (rl [a2]))) (by kernel_rfl)
theorem LI (w:World) (b:Bool) (RO:ZA) (sh d l td e ep:Nat) (p1:Pr):(Z4 w sh d l td e [p1] ep).ok (wf w b) RO 700:=
 cB (fd232 _) (.l 540013005009900030369100203681369000203681369000201002001010000990332 (.a fun a2=>.z [1,2] (rl [a2]))) (by kernel_rfl)
theorem LJ (w:World) (b:Bool) (RO:ZA) (sh d l td e ep:Nat) (p1:Pr) (p2:Pr):(Z4 w sh d l td e [p1,p2] ep).ok (wf w b) RO 700:=
 cB (fd232 _) (.l 540013005009900030369100203681369000203681369000201002001010000990332 (.a fun a2=>.z [1,2] (rl [a2]))) (by kernel_rfl)
theorem LK (w:World) (b:Bool) (RO:ZA) (sh d l td e ep:Nat) (p1:Pr) (p2:Pr) (p3:Pr):(Z4 w sh d l td e [p1,p2,p3] ep).ok (wf w b) RO 700:=
 cB (fd232 _) (.l 540013005009900030369100203681369000203681369000201002001010000990332 (.a fun a2=>.z [1,2] (rl [a2]))) (by kernel_rfl)
noncomputable def LM (w:World) (b:Bool) (RO:ZA):CE (wf w b) RO []:=
 .l 93699369 (.a fun a0=>.a fun a1=>.l 200101001001010000990254026006610261036813690001036900010369 (.a fun a3=>.l 369000303681369000303690003036900030368136900030100100201010104000100020101010410020100 (.t fun t4=>.l 110991001000240010099200100022004 (.z [4,1,0] (rl [a1,a0,a3,t4,1])))))
theorem VL (w:World) (b:Bool) (RO:ZA):(Wq w).ok (wf w b) RO 700:=
 cR (LM w b RO) (by cases b<;>kernel_rfl)
theorem R2 (w:World) (b:Bool) (RO:ZA) (sh d l td e ep k t:Nat) (ps:List Pr) (hg:(∀ RO',(∀ p∈RO,p∈RO')→(Y5 w sh d l td e ps ep k t .none).ok (wf w b) RO' 800)):(ZX 52 w sh d l td e ps ep [.str (wd k) t] (.bool false)).ok (wf w b) RO 650:=
 cB (fd52 _) (.l 316000100040003031603681369000303681369000303681369000320010100100101000099030007010301036813690002036813690002300101001001010000990152 (.k (Y5 w sh d l td e ps ep k t .none) [2,3,4] (hg _ sb) fun ρ0=>.z [2] (fun _=>0))) (by kernel_rfl)
theorem R3 (w:World) (b:Bool) (RO:ZA) (sh d l td e ep k t:Nat) (ps:List Pr) (n t':Nat) (hg:(∀ RO',(∀ p∈RO,p∈RO')→(Y5 w sh d l td e ps ep k t (.str (dig n) t')).ok (wf w b) RO' 800)):(ZX 52 w sh d l td e ps ep [.str (wd k) t] (.bool true)).ok (wf w b) RO 650:=
 cB (fd52 _) (.l 316000100040003031603681369000303681369000303681369000320010100100101000099030007010301036813690002036813690002300101001001010000990152 (.k (Y5 w sh d l td e ps ep k t (.str (dig n) t')) [2,3,4] (hg _ sb) fun ρ0=>.z [2] (fun _=>0))) (by kernel_rfl)
theorem MD (w:World) (b:Bool) (RO:ZA) (sh d l td e ep k t:Nat) (ps:List Pr) (n t':Nat) (hg:(∀ RO',(∀ p∈RO,p∈RO')→(Y5 w sh d l td e ps ep k t (.str (dig n) t')).ok (wf w b) RO' 800)):(ZX 66 w sh d l td e ps ep [.str (wd k) t] (.str (dig n) t')).ok (wf w b) RO 650:=
 cB (fd66 _) (.l 3160001000400030316036813690003036813690003036813690003200101001001010000990293069402940368136900020294036813690002300101001001010000990166 (.k (Y5 w sh d l td e ps ep k t (.str (dig n) t')) [2,3,4] (hg _ sb) fun ρ0=>.z [2] (fun _=>0))) (by kernel_rfl)
theorem ME (w:World) (b:Bool) (RO:ZA) (sh d l td e ep k t:Nat) (ps:List Pr) (ps':List Pr) (hd:(∀ RO',(∀ p∈RO,p∈RO')→(Zh 186 w sh d l td e ps ep k t ps').ok (wf w b) RO' 800)):(Zh 59 w sh d l td e ps ep k t ps').ok (wf w b) RO 650:=
 cB (fd59 _) (.l 28703681369000203690002300101001001010000990159 (.k (Zh 186 w sh d l td e ps ep k t ps') [1,2,3] (hd _ sb) fun ρ0=>.z [0] (rl [ρ0 0]))) (by kernel_rfl)
theorem MF (w:World) (b:Bool) (RO:ZA) (sh d l td e ep k t:Nat) (ps:List Pr) (n t':Nat) (ps':List Pr) (hs:(∀ RO',(∀ p∈RO,p∈RO')→(Zq 181 w sh d l td e ps ep k t n t' ps').ok (wf w b) RO' 700)):(Zq 73 w sh d l td e ps ep k t n t' ps').ok (wf w b) RO 650:=
 cB (fd73 _) (.l 2820368136900020369000240010100100101001001010000990173 (.m (Zq 181 w sh d l td e ps ep k t n t' ps') [1,2,3] (hs _ sb) fun ρ0=>.z [0] (rl [ρ0 0,ρ0 1]))) (by kernel_rfl)
theorem Xa (w:World) (b:Bool) (RO:ZA) (n t t':Nat):(XQ n t t').ok (wf w b) RO 650:=
 cB (fd45 _) (.l 300101001001010000990145 (.t fun t2=>.z [0] (rl [t2]))) (by kernel_rfl)
end
section
open PySem PySem.W PySem.W.X PySem.Calls PyProof.Rows PySem.Spec
theorem ZD.of_meets {w:World} {RO:ZA} {D:Nat} {id:String} {args:Args} {B:Builtin} {S:PySem.Spec} {M:ZA} {K:Result→ZA→Prop} (hu:(Z2 D).under (.builtin id args)=(Z2 D).in1) (hb:entryFor table id=some B) (hm:Meets (B args) S)
  (hS:∀ (h:Heap) (g:Array GenState) (d:Drawn) (t:Nat) (os:OsState) (R:Result→Shared→Prop),0 < t→Holds w.params RO M h→(∀ r M' h' g' t',0 < t'→K r M'→Holds w.params RO M' h'→Ext M h M' h'→(AllBare g→AllBare g')→R r ⟨h',g',d,t',os⟩)→S (Z2 D) R ⟨h,g,d,t,os⟩) :
  ZD w RO D (.builtin id args) M K:=by
 intro h g d t os R ht hM hR
 refine codeAny_of_tree ?_
 show wpAny _ _ (match entryFor table id with | some b=>b args | none=>unsupported ((withoutEnding? id "#data").getD id)) _ _ _
 rw [hb]
 rw [hu]
 exact hm PP w (Z2 D) R _ (hS h g d t os R ht hM hR)
noncomputable def MG (it:Nat) (i:Int):Obj:=⟨.type "enumerate",none,.fields #[.none,.bool false,.ref it,.int i 0,.none,.none],#[]⟩
noncomputable def Zb (l:Nat) (i:Int):Obj:=⟨.type "list_iterator",none,.fields #[.ref l,.int i 0],#[]⟩
noncomputable def Vs (l:Nat) (vs:List Value) (ep:Nat):Con:=
 {code:=.builtin "enumerate.__new__" ⟨[.type "enumerate",.ref l],[]⟩,mem:=[(l,ZB vs ep)],r:=fun ρ=>.ok (.ret (.ref (ρ 0))),upd:=fun _=>[ZB vs ep],new:=fun ρ=>[(ρ 0,MG (ρ 1) 0),(ρ 1,Zb l 0)] }
noncomputable def LN (l:Nat) (vs:List Value) (ep:Nat):Con:={ Vs l vs ep with code:=.call (.builtin "enumerate.__new__") ⟨[.type "enumerate",.ref l],[]⟩ }
noncomputable def Y6 (l:Nat) (vs:List Value) (ep:Nat):Con:={ Vs l vs ep with code:=.call (.type "enumerate") ⟨[.ref l],[]⟩ }
theorem GO (w:World) (b:Bool) (RO:ZA) (l:Nat) (vs:List Value) (ep:Nat):(Vs l vs ep).ok (wf w b) RO 975:=by
 refine ZD.of_meets rfl PySem.F.entry_enumerate_new (meets_enumerate_newL l ⟨vs⟩ ep none #[]) ?_
 intro h g d t os R ht hM hR
 refine ⟨hM.at_ _ (.head _),?_⟩
 have h1:=hM.alloc (o:=Zb l 0) rfl
 have e1:=(Ext.refl (Vs l vs ep).mem h).alloc (Zb l 0)
 have h2:=h1.alloc (o:=MG h.objs.size 0) rfl
 have e2:=e1.alloc (MG h.objs.size 0)
 exact hR _ _ _ _ _ (by first | exact ht | omega) ⟨rl [(h.push (Zb l 0)).objs.size,h.objs.size],rfl,rfl,rfl⟩ h2 e2 (fun x=>x)
noncomputable def UB (l:Nat) (vs:List Value) (ep:Nat) (x:Value):Con:=
 {code:=.builtin "list.append" ⟨[.ref l,x],[]⟩,mem:=[(l,ZB vs ep)],r:=fun _=>.ok (.ret .none),upd:=fun ρ=>[ZB (vs++[x]) (ρ 0)],new:=fun _=>[] }
noncomputable def Z6 (l:Nat) (vs:List Value) (ep:Nat) (x:Value):Con:={ UB l vs ep x with code:=.call (.builtin "list.append") ⟨[.ref l,x],[]⟩ }
theorem WW (vs:List Value) (ep:Nat) (f:Array Value→Array Value):Obj.mapSeq f (ZB vs ep)=ZB (f ⟨vs⟩).toList (if (f ⟨vs⟩).size == (⟨vs⟩:Array Value).size then ep else ep + 1):=rfl
theorem I8 (w:World) (b:Bool) (RO:ZA) (l:Nat) (vs:List Value) (ep:Nat) (x:Value) (hz:vs.length≤1000):(UB l vs ep x).ok (wf w b) RO 975:=by
 refine ZD.of_meets rfl PySem.F.entry_list_append (list_append l ⟨vs⟩ ep x (Nat.le_trans hz (by rw [sizeLine_eq]; decide))) ?_
 intro h g d t os R ht hM hR
 refine ⟨hM.at_ _ (.head _),?_⟩
 have hf:(Obj.mapSeq (fun y=>y.push x) (ZB vs ep)).isFreed=false:=rfl
 have h1:=hM.update (i:=0) (f:=Obj.mapSeq fun y=>y.push x) rfl hf
 have e1:=(Ext.refl (UB l vs ep x).mem h).update hM (i:=0) (f:=Obj.mapSeq fun y=>y.push x) rfl
 have e:((⟨vs⟩:Array Value).push x).toList=vs++[x]:=by simp
 refine hR _ _ _ _ _ (by first | exact ht | omega) ⟨rl [if ((⟨vs⟩:Array Value).push x).size == (⟨vs⟩:Array Value).size then ep else ep + 1],rfl,?_,rfl⟩ h1 e1 (fun x=>x)
 show [(l,Obj.mapSeq (fun y=>y.push x) (ZB vs ep))]=_
 rw [WW,e]
 rfl
noncomputable def UC (l:Nat) (vs:List Value) (ep:Nat):Con:=
 {code:=.builtin "len" ⟨[.ref l],[]⟩,mem:=[(l,ZB vs ep)],r:=fun ρ=>.ok (.ret (.int (Int.ofNat vs.length) (ρ 0))),upd:=fun _=>[ZB vs ep],new:=fun _=>[] }
noncomputable def Zs (l:Nat) (vs:List Value) (ep:Nat):Con:={ UC l vs ep with code:=.call (.builtin "len") ⟨[.ref l],[]⟩ }
theorem LO (l:Addr) (items:Array Value) (hfit:(items.size:Int) < 2 ^ 63):Meets (Builtin.«len» ⟨[.ref l],[]⟩) (fun _ R s=>s.heap.IsList l items∧R (.ok (.ret (.int items.size (s.toks + 1)))) { s with toks:=s.toks + 1 + 1 }):=
 .of_wp fun prog w A R s h=>wpAny_mono (wpAny_len_body_list (Q:=fun v s'=>R (.ok (.ret v)) s') h.1 hfit h.2) (fun _ _ ⟨r,e,q⟩=>⟨r,e,q⟩) fun _ _ e=>e
theorem OV (w:World) (b:Bool) (RO:ZA) (l:Nat) (vs:List Value) (ep:Nat) (hz:vs.length≤1000):(UC l vs ep).ok (wf w b) RO 975:=by
 refine ZD.of_meets rfl entry_len (LO l ⟨vs⟩ (by show ((vs.length:Nat):Int) < _; omega)) ?_
 intro h g d t os R ht hM hR
 refine ⟨⟨_,hM.at_ _ (.head _),rfl,ep,rfl⟩,?_⟩
 exact hR _ _ _ _ _ (by first | exact ht | omega) ⟨rl [t + 1],rfl,rfl,rfl⟩ hM (Ext.refl _ h) (fun x=>x)
end
section
open PySem PySem.W
noncomputable def OW:Str:=⟨#[108,105,110,101,110,111]⟩
noncomputable def Sf:Str:=⟨#[105,110,115,116,114,101,97,109]⟩
noncomputable def LP:Str:=⟨#[119,104,105,116,101,115,112,97,99,101]⟩
noncomputable def Il:Str:=⟨#[112,117,115,104,98,97,99,107]⟩
noncomputable def FT:Str:=⟨#[114,101,97,100]⟩
structure Lk where
 t1:Nat
 t2:Nat
 t3:Nat
 t4:Nat
 ws:Str
 wt:Nat
 st:Nat
 e:Nat
noncomputable def EA (w:World) (x:Lk) (ln:Int) (lt lp:Nat):Obj:=⟨.type "dict",none,.dict #[ent w OW x.t1 (.int ln lt),ent w Sf x.t2 (.ref x.st),ent w LP x.t3 (.str x.ws x.wt),ent w Il x.t4 (.ref lp)] x.e,#[]⟩
noncomputable def WO (w:World) (li ld lp:Nat) (x:Lk) (ln:Int) (lt:Nat) (vs:List Value) (ep:Nat):ZA:=[(li,Ri 118 ld),(ld,EA w x ln lt lp),(lp,ZB vs ep)]
noncomputable def Tu (w:World) (li ld lp:Nat) (x:Lk) (ln:Int) (lt:Nat) (vs:List Value) (ep:Nat) (s:Str) (t:Nat):Con:=
 {code:=.call (.ref 115) ⟨[.ref li,.str s t],[]⟩,mem:=WO w li ld lp x ln lt vs ep,r:=fun _=>.ok (.ret .none),upd:=fun ρ=>(WO w li ld lp x ln lt (vs++[.str s t]) (ρ 0)).map (·.2),new:=fun _=>[] }
noncomputable def Z7 (a:Int) (t:Nat) (c:Int) (t':Nat) (x:Bool):Con:=XO (.builtin "int.__le__") [.int a t,.int c t'] (fun _=>.bool x)
theorem GP (w:World) (b:Bool) (RO:ZA) (l:Nat) (vs:List Value) (ep:Nat):(LN l vs ep).ok (wf w b) RO 965:=
 cR (.i (Vs l vs ep) [0] (GO w b _ _ _ _) [] (fun ρ0=>(rl [ρ0 0,ρ0 1]))) (by kernel_rfl)
theorem XD (w:World) (b:Bool) (RO:ZA) (l:Nat) (vs:List Value) (ep:Nat):(Y6 l vs ep).ok (wf w b) RO 950:=
 cR (.k (LN l vs ep) [0] (GP w b _ _ _ _) fun ρ0=>.l 3001 (.z [] (rl [ρ0 0,ρ0 1]))) (by kernel_rfl)
theorem Zu (w:World) (b:Bool) (RO:ZA) (l:Nat) (vs:List Value) (ep:Nat) (hz:vs.length≤1000):(Zs l vs ep).ok (wf w b) RO 965:=
 cR (.i (UC l vs ep) [0] (OV w b _ _ _ _ hz) [] (fun ρ0=>(rl [ρ0 0]))) (by kernel_rfl)
theorem YC (w:World) (b:Bool) (RO:ZA) (l:Nat) (vs:List Value) (ep:Nat) (x:Value) (hz:vs.length≤1000):(Z6 l vs ep x).ok (wf w b) RO 965:=
 cR (.l 1 (.i (UB l vs ep x) [0] (I8 w b _ _ _ _ _ hz) [] (fun ρ0=>(rl [ρ0 0])))) (by kernel_rfl)
theorem OX (w:World) (b:Bool) (RO:ZA) (li ld lp:Nat) (x:Lk) (ln:Int) (lt:Nat) (vs:List Value) (ep:Nat) (s:Str) (t:Nat) (hz:vs.length≤1000):(Tu w li ld lp x ln lt vs ep s t).ok (wf w b) RO 900:=
 cB (fd115 _) (.l 130040003021910020218121900020218121900020100200101001001010000990215 (.k (Z6 lp vs ep (.str s t)) [3] (YC w b _ _ _ _ _ hz) fun ρ0=>.z [0] (rl [ρ0 0]))) (by kernel_rfl)
theorem GQ (w:World) (b:Bool) (RO:ZA) (a:Int) (t:Nat) (c:Int) (t':Nat):(Z7 a t c t' (decide (a≤c))).ok (wf w b) RO 980:=
 cR (.z [] (fun _=>0)) (by kernel_rfl)
structure Sk where
 sh:Nat
 d:Nat
 l:Nat
 td:Nat
 e:Nat
noncomputable abbrev shK (w:World) (s:Sk) (ps:List Pr) (ep:Nat):ZA:=shM w s.sh s.d s.l s.td s.e ps ep
noncomputable def Ea (rs:List (Int × Nat)) (ep:Nat):Obj:=ZB (rs.map fun p=>.int p.1 p.2) ep
noncomputable def Yz (w:World) (sl es rm er:Nat) (r1 r2:Int) (u1 u2:Nat) (s1 s2:Sk) (a1 a2:List Pr) (ep1 ep2 li ld lp:Nat) (x:Lk) (ln:Int) (lt:Nat) (vs:List Value) (ep k t:Nat) (res:Int) (o1 o2:(Nat→Nat)→List Pr) (vs':List Value) (nr:(Nat→Nat)→List Pr):Con:=
 {code:=.call (.ref 310) ⟨[.ref sl,.ref rm,.str (wd k) t,.ref li],[]⟩,
  mem:=(sl,ZB [.ref s1.sh,.ref s2.sh] es)::(rm,ZB [.int r1 u1,.int r2 u2] er)::(shK w s1 a1 ep1++(shK w s2 a2 ep2++WO w li ld lp x ln lt vs ep)),
  r:=fun ρ=>.ok (.ret (.int res (ρ 0))),
  upd:=fun ρ=>((sl,ZB [.ref s1.sh,.ref s2.sh] es)::(rm,ZB [.int r1 u1,.int r2 u2] er)::(shK w s1 (o1 ρ) (ρ 5)++(shK w s2 (o2 ρ) (ρ 6)++WO w li ld lp x ln lt vs' (ρ 8)))).map (·.2),
  new:=fun _=>[],
  newR:=fun ρ=>(nr ρ).map cell }
noncomputable def Yh (w:World) (sl es rm er:Nat) (r1 r2 r3:Int) (u1 u2 u3:Nat) (s1 s2 s3:Sk) (a1 a2 a3:List Pr) (ep1 ep2 ep3 li ld lp:Nat) (x:Lk) (ln:Int) (lt:Nat) (vs:List Value) (ep k t:Nat) (res:Int) (o1 o2 o3:(Nat→Nat)→List Pr) (vs':List Value) (nr:(Nat→Nat)→List Pr):Con:=
 {code:=.call (.ref 310) ⟨[.ref sl,.ref rm,.str (wd k) t,.ref li],[]⟩,
  mem:=(sl,ZB [.ref s1.sh,.ref s2.sh,.ref s3.sh] es)::(rm,ZB [.int r1 u1,.int r2 u2,.int r3 u3] er)::(shK w s1 a1 ep1++(shK w s2 a2 ep2++(shK w s3 a3 ep3++WO w li ld lp x ln lt vs ep))),
  r:=fun ρ=>.ok (.ret (.int res (ρ 0))),
  upd:=fun ρ=>((sl,ZB [.ref s1.sh,.ref s2.sh,.ref s3.sh] es)::(rm,ZB [.int r1 u1,.int r2 u2,.int r3 u3] er)::(shK w s1 (o1 ρ) (ρ 5)++(shK w s2 (o2 ρ) (ρ 6)++(shK w s3 (o3 ρ) (ρ 7)++WO w li ld lp x ln lt vs' (ρ 8))))).map (·.2),
  new:=fun _=>[],
  newR:=fun ρ=>(nr ρ).map cell }
theorem YF (w:World) (b:Bool) (RO:ZA) (a:Int) (t:Nat) (c:Int) (t':Nat) (x:Bool) (h:decide (a≤c)=x):(Z7 a t c t' x).ok (wf w b) RO 980:=by
 have z:=GQ w b RO a t c t'
 rw [h] at z
 exact z
noncomputable def Hc (w:World) (b:Bool) (RO:ZA) (S:Sk) (A:List Pr) (k t:Nat) (v:Bool):Prop:=∀ RO':ZA,(∀ p∈RO,p∈RO')→∀ e:Nat,(ZX 52 w S.sh S.d S.l S.td S.e A e [.str (wd k) t] (.bool v)).ok (wf w b) RO' 650
noncomputable def Hg (w:World) (b:Bool) (RO:ZA) (S:Sk) (A:List Pr) (k t n t':Nat):Prop:=∀ RO':ZA,(∀ p∈RO,p∈RO')→∀ e:Nat,(ZX 66 w S.sh S.d S.l S.td S.e A e [.str (wd k) t] (.str (dig n) t')).ok (wf w b) RO' 650
noncomputable def Hd (w:World) (b:Bool) (RO:ZA) (S:Sk) (A:List Pr) (k t:Nat) (B:List Pr):Prop:=∀ RO':ZA,(∀ p∈RO,p∈RO')→∀ e:Nat,(Zh 59 w S.sh S.d S.l S.td S.e A e k t B).ok (wf w b) RO' 650
structure Lay (w:World) (b:Bool) (RO:ZA) (S:Sk) (A B:List Pr) (N:Nat→Nat→Pr) (r:Int) (v:Bool):Prop where
 s:∀ RO':ZA,(∀ p∈RO,p∈RO')→∀ e t':Nat,(Zq 73 w S.sh S.d S.l S.td S.e A e (N 0 t').k (N 0 t').t (N 0 t').n (N 0 t').t' B).ok (wf w b) RO' 650
 k:∀ RO':ZA,(∀ p∈RO,p∈RO')→∀ e z t':Nat,cell (N z t')∈RO'→(Zo w S.sh S.d S.l S.td S.e (B++[N z t']) e).ok (wf w b) RO' 700
 z:∀ z t':Nat,(names (B++[N z t'])).length≤1000
 l:∀ z t':Nat,decide (Int.ofNat (names (B++[N z t'])).length≤r)=v
structure Ovr (w:World) (b:Bool) (RO:ZA) (S:Sk) (A:List Pr) (q:Pr) (y:List Pr) (N:Nat→Nat→Pr) (r:Int):Prop extends Lay w b RO S A (q::y) N r false where
 i:∀ RO':ZA,(∀ p∈RO,p∈RO')→∀ e z t':Nat,cell (N z t')∈RO'→(Z4 w S.sh S.d S.l S.td S.e ((q::y)++[N z t']) e).ok (wf w b) RO' 700
 x:∀ RO':ZA,(∀ p∈RO,p∈RO')→∀ e z t':Nat,cell (N z t')∈RO'→(Zh 59 w S.sh S.d S.l S.td S.e ((q::y)++[N z t']) e q.k q.t (y++[N z t'])).ok (wf w b) RO' 650
noncomputable def St (w:World) (b:Bool) (RO:ZA) (sl es rm er:Nat) (r1 r2:Int) (u1 u2:Nat) (s1 s2:Sk) (A1 A2:List Pr) (ep1 ep2 li ld lp:Nat) (x:Lk) (ln:Int) (lt:Nat) (vs:List Value) (ep k t:Nat) (hk:k < 12) (hc1:Hc w b RO s1 A1 k t false) (hc2:Hc w b RO s2 A2 k t false) (h1:Lay w b RO s1 A1 A1 (fun z t'=>Pr.mk z k t (0 + 1) t') r1 true):CE (wf w b) RO []:=
 .l 1001001010010010100100101001001010000990410 (.t fun t5=>.t fun t6=>.l 5010101041005010010050100000110991001000250010002500100024001009930010099 (.k (Y6 sl [.ref s1.sh,.ref s2.sh] es) [5] (XD w b _ _ _ _) fun ρ0=>.l 3001010010011002000830026001 (.a fun a5=>.l 8002 (.s 1 (ZE a5 (.type "enumerate") none [(.bool false),(.ref (ρ0 1)),(.int 1 0),.none,(.ref (s1.1))] #[]) (.l 15310110104101101001011010000011099100100025001000250010002400100993001 (.k (ZX 52 w s1.sh s1.d s1.l s1.td s1.e A1 ep1 [.str (wd k) t] (.bool false)) [13,14,15] (hc1 _ sb _) fun ρ1=>.l 3005010010051006001230062005 (.a fun a9=>.l 8006 (.s 5 (ZE a9 (.type "enumerate") none [(.bool false),(.ref (ρ0 1)),(.int 2 0),.none,(.ref (s2.1))] #[]) (.l 15310150104101501001015010000011099100100025001000250010002400100993001 (.k (ZX 52 w s2.sh s2.d s2.l s2.td s2.e A2 ep2 [.str (wd k) t] (.bool false)) [20,21,22] (hc2 _ sb _) fun ρ2=>.l 1701011104010101040017000110991010001630102009 (.k (Zc 0 t6) [] (Z5 w b _ _ _ (by decide)) fun ρ3=>.t fun t15=>.l 146 (.k (XQ 0 (ρ3 0) t15) [] (Xa w b _ _ _ _) fun ρ4=>.k (Zl (0 + 1) (ρ4 0)) [] (Yk w b _ _ _ (by decide)) fun ρ5=>.l 100992021000100992019101801010104101801000099 (.a fun a18=>.a fun a19=>.l 4002100400253004300210050024300530010003100190010099 (.a fun a21=>.l 4002 (.s 1 (ZE a21 (.type "zip") none [(.bool false),(.bool false),(.ref a18),(.ref a19)] #[]) (.l 1744010010000274010010010270104102701001027010000011099100100025001000250010002400100993001 (.m (Zq 73 w s1.sh s1.d s1.l s1.td s1.e A1 ep1 k t (0 + 1) (ρ5 0) A1) [29,30,31] (h1.s _ sb _ _) fun ρ6=>.l 321003100300321036813690030036813690030036813690030002701010104 (.k (Zo w s1.sh s1.d s1.l s1.td s1.e (A1++[Pr.mk (ρ6 0) k t (0 + 1) (ρ5 0)]:List Pr) (ρ6 1)) [29,30,31] (h1.k _ sb _ _ _ (.head _)) fun ρ7=>.k (Zs (ρ7 0) (names (A1++[Pr.mk (ρ6 0) k t (0 + 1) (ρ5 0)]:List Pr)) (ρ7 1)) [0] (Zu w b _ _ _ _ (h1.z _ _)) fun ρ8=>.l 28 (.k (Z7 (Int.ofNat (List.length (names (A1++[Pr.mk (ρ6 0) k t (0 + 1) (ρ5 0)])))) (ρ8 0) r1 u1 true) [] (YF w b _ _ _ _ _ _ (h1.l _ _)) fun ρ9=>.l 28 (.z [54] (rl [t5,ρ6 0,ρ5 0,0,0,ρ6 1,ep2,0,ep])))))))))))))))))))))
theorem PC (w:World) (b:Bool) (RO:ZA) (sl es rm er:Nat) (r1 r2:Int) (u1 u2:Nat) (s1 s2:Sk) (A1 A2:List Pr) (ep1 ep2 li ld lp:Nat) (x:Lk) (ln:Int) (lt:Nat) (vs:List Value) (ep k t:Nat) (hk:k < 12) (hc1:Hc w b RO s1 A1 k t false) (hc2:Hc w b RO s2 A2 k t false) (h1:Lay w b RO s1 A1 A1 (fun z t'=>Pr.mk z k t (0 + 1) t') r1 true):(Yz w sl es rm er r1 r2 u1 u2 s1 s2 A1 A2 ep1 ep2 li ld lp x ln lt vs ep k t (-1) (fun (ρ:Nat→Nat)=>A1++[(Pr.mk (ρ 1) k t (0 + 1) (ρ 2))]) (fun (ρ:Nat→Nat)=>A2) vs (fun (ρ:Nat→Nat)=>[(Pr.mk (ρ 1) k t (0 + 1) (ρ 2))])).ok (wf w b) RO 500:=
 cB (fd310 _) (St w b RO sl es rm er r1 r2 u1 u2 s1 s2 A1 A2 ep1 ep2 li ld lp x ln lt vs ep k t hk hc1 hc2 h1) (by cases b<;>kernel_rfl)
noncomputable def Su (w:World) (b:Bool) (RO:ZA) (sl es rm er:Nat) (r1 r2:Int) (u1 u2:Nat) (s1 s2:Sk) (A1 A2 y1:List Pr) (q1:Pr) (ep1 ep2 li ld lp:Nat) (x:Lk) (ln:Int) (lt:Nat) (vs:List Value) (ep k t:Nat) (hk:k < 12) (hc1:Hc w b RO s1 A1 k t false) (hc2:Hc w b RO s2 A2 k t false) (h1:Ovr w b RO s1 A1 q1 y1 (fun z t'=>Pr.mk z k t (0 + 1) t') r1) (h2:Lay w b RO s2 A2 A2 (fun z _=>Pr.mk z q1.k q1.t q1.n q1.t') r2 true):CE (wf w b) (cell q1::RO) []:=
 .l 1001001010010010100100101001001010000990410 (.t fun t5=>.t fun t6=>.l 5010101041005010010050100000110991001000250010002500100024001009930010099 (.k (Y6 sl [.ref s1.sh,.ref s2.sh] es) [5] (XD w b _ _ _ _) fun ρ0=>.l 3001010010011002000830026001 (.a fun a5=>.l 8002 (.s 1 (ZE a5 (.type "enumerate") none [(.bool false),(.ref (ρ0 1)),(.int 1 0),.none,(.ref (s1.1))] #[]) (.l 15310110104101101001011010000011099100100025001000250010002400100993001 (.k (ZX 52 w s1.sh s1.d s1.l s1.td s1.e A1 ep1 [.str (wd k) t] (.bool false)) [13,14,15] (hc1 _ sc _) fun ρ1=>.l 3005010010051006001230062005 (.a fun a9=>.l 8006 (.s 5 (ZE a9 (.type "enumerate") none [(.bool false),(.ref (ρ0 1)),(.int 2 0),.none,(.ref (s2.1))] #[]) (.l 15310150104101501001015010000011099100100025001000250010002400100993001 (.k (ZX 52 w s2.sh s2.d s2.l s2.td s2.e A2 ep2 [.str (wd k) t] (.bool false)) [20,21,22] (hc2 _ sc _) fun ρ2=>.l 1701011104010101040017000110991010001630102009 (.k (Zc 0 t6) [] (Z5 w b _ _ _ (by decide)) fun ρ3=>.t fun t15=>.l 146 (.k (XQ 0 (ρ3 0) t15) [] (Xa w b _ _ _ _) fun ρ4=>.k (Zl (0 + 1) (ρ4 0)) [] (Yk w b _ _ _ (by decide)) fun ρ5=>.l 100992021000100992019101801010104101801000099 (.a fun a18=>.a fun a19=>.l 4002100400253004300210050024300530010003100190010099 (.a fun a21=>.l 4002 (.s 1 (ZE a21 (.type "zip") none [(.bool false),(.bool false),(.ref a18),(.ref a19)] #[]) (.l 1744010010000274010010010270104102701001027010000011099100100025001000250010002400100993001 (.m (Zq 73 w s1.sh s1.d s1.l s1.td s1.e A1 ep1 k t (0 + 1) (ρ5 0) (q1::y1)) [29,30,31] (h1.s _ sc _ _) fun ρ6=>.l 321003100300321036813690030036813690030036813690030002701010104 (.k (Zo w s1.sh s1.d s1.l s1.td s1.e (q1::y1++[Pr.mk (ρ6 0) k t (0 + 1) (ρ5 0)]:List Pr) (ρ6 1)) [29,30,31] (h1.k _ sc _ _ _ (.head _)) fun ρ7=>.k (Zs (ρ7 0) (names (q1::y1++[Pr.mk (ρ6 0) k t (0 + 1) (ρ5 0)]:List Pr)) (ρ7 1)) [0] (Zu w b _ _ _ _ (h1.z _ _)) fun ρ8=>.l 28 (.k (Z7 (Int.ofNat (List.length (names (q1::y1++[Pr.mk (ρ6 0) k t (0 + 1) (ρ5 0)])))) (ρ8 0) r1 u1 false) [] (YF w b _ _ _ _ _ _ (h1.l _ _)) fun ρ9=>.l 3330032003103330368136900310368136900310368136900310028 (.k (Z4 w s1.sh s1.d s1.l s1.td s1.e (q1::y1++[Pr.mk (ρ6 0) k t (0 + 1) (ρ5 0)]:List Pr) (ρ6 1)) [30,31,32] (h1.i _ sc _ _ _ (.head _)) fun ρ10=>.l 16044320100102901041029010040010100 (.k (Zh 59 w s1.sh s1.d s1.l s1.td s1.e (q1::y1++[Pr.mk (ρ6 0) k t (0 + 1) (ρ5 0)]:List Pr) (ρ6 1) q1.k q1.t (List.tail (q1::y1++[Pr.mk (ρ6 0) k t (0 + 1) (ρ5 0)]:List Pr))) [31,32,33] (h1.x _ sc _ _ _ (.head _)) fun ρ11=>.l 40081010003130103008101100303011300700093007 (.a fun a25=>.l 4008 (.s 7 (ZE a25 (.type "zip") none [(.bool false),(.bool false),(.ref a18),(.ref a19)] #[]) (.l 1744432010000334432010010330104103301001033010000011099100100025001000250010002400100993001 (.m (Zq 73 w s2.sh s2.d s2.l s2.td s2.e A2 ep2 q1.k q1.t q1.n q1.t' A2) [38,39,40] (h2.s _ sc _ 0) fun ρ12=>.l 321004000390321036813690039036813690039036813690039003301010104 (.k (Zo w s2.sh s2.d s2.l s2.td s2.e (A2++[Pr.mk (ρ12 0) (Pr.k q1) (Pr.t q1) (Pr.n q1) (Pr.t' q1)]:List Pr) (ρ12 1)) [38,39,40] (h2.k _ sc _ _ 0 (.head _)) fun ρ13=>.k (Zs (ρ13 0) (names (A2++[Pr.mk (ρ12 0) (Pr.k q1) (Pr.t q1) (Pr.n q1) (Pr.t' q1)]:List Pr)) (ρ13 1)) [0] (Zu w b _ _ _ _ (h2.z _ 0)) fun ρ14=>.l 34 (.k (Z7 (Int.ofNat (List.length (names (A2++[Pr.mk (ρ12 0) (Pr.k q1) (Pr.t q1) (Pr.n q1) (Pr.t' q1)])))) (ρ14 0) r2 u2 true) [] (YF w b _ _ _ _ _ _ (h2.l _ 0)) fun ρ15=>.l 34 (.z [66] (rl [t5,ρ6 0,ρ5 0,ρ12 0,0,ρ11 0,ρ12 1,0,ep])))))))))))))))))))))))))))))
theorem PD (w:World) (b:Bool) (RO:ZA) (sl es rm er:Nat) (r1 r2:Int) (u1 u2:Nat) (s1 s2:Sk) (A1 A2 y1:List Pr) (q1:Pr) (ep1 ep2 li ld lp:Nat) (x:Lk) (ln:Int) (lt:Nat) (vs:List Value) (ep k t:Nat) (hk:k < 12) (hc1:Hc w b RO s1 A1 k t false) (hc2:Hc w b RO s2 A2 k t false) (h1:Ovr w b RO s1 A1 q1 y1 (fun z t'=>Pr.mk z k t (0 + 1) t') r1) (h2:Lay w b RO s2 A2 A2 (fun z _=>Pr.mk z q1.k q1.t q1.n q1.t') r2 true):(Yz w sl es rm er r1 r2 u1 u2 s1 s2 A1 A2 ep1 ep2 li ld lp x ln lt vs ep k t (-1) (fun (ρ:Nat→Nat)=>y1++[(Pr.mk (ρ 1) k t (0 + 1) (ρ 2))]) (fun (ρ:Nat→Nat)=>A2++[(Pr.mk (ρ 3) q1.k q1.t q1.n q1.t')]) vs (fun (ρ:Nat→Nat)=>[(Pr.mk (ρ 3) q1.k q1.t q1.n q1.t'),(Pr.mk (ρ 1) k t (0 + 1) (ρ 2))])).ok (wf w b) (cell q1::RO) 500:=
 cB (fd310 _) (Su w b RO sl es rm er r1 r2 u1 u2 s1 s2 A1 A2 y1 q1 ep1 ep2 li ld lp x ln lt vs ep k t hk hc1 hc2 h1 h2) (by cases b<;>kernel_rfl)
noncomputable def Sv (w:World) (b:Bool) (RO:ZA) (sl es rm er:Nat) (r1 r2:Int) (u1 u2:Nat) (s1 s2:Sk) (A1 A2 y1 y2:List Pr) (q1 q2:Pr) (ep1 ep2 li ld lp:Nat) (x:Lk) (ln:Int) (lt:Nat) (vs:List Value) (ep k t:Nat) (hk:k < 12) (hc1:Hc w b RO s1 A1 k t false) (hc2:Hc w b RO s2 A2 k t false) (h1:Ovr w b RO s1 A1 q1 y1 (fun z t'=>Pr.mk z k t (0 + 1) t') r1) (h2:Ovr w b RO s2 A2 q2 y2 (fun z _=>Pr.mk z q1.k q1.t q1.n q1.t') r2) (hz:vs.length≤1000):CE (wf w b) (cell q1::cell q2::RO) []:=
 .l 1001001010010010100100101001001010000990410 (.t fun t5=>.t fun t6=>.l 5010101041005010010050100000110991001000250010002500100024001009930010099 (.k (Y6 sl [.ref s1.sh,.ref s2.sh] es) [5] (XD w b _ _ _ _) fun ρ0=>.l 3001010010011002000830026001 (.a fun a5=>.l 8002 (.s 1 (ZE a5 (.type "enumerate") none [(.bool false),(.ref (ρ0 1)),(.int 1 0),.none,(.ref (s1.1))] #[]) (.l 15310110104101101001011010000011099100100025001000250010002400100993001 (.k (ZX 52 w s1.sh s1.d s1.l s1.td s1.e A1 ep1 [.str (wd k) t] (.bool false)) [13,14,15] (hc1 _ sd _) fun ρ1=>.l 3005010010051006001230062005 (.a fun a9=>.l 8006 (.s 5 (ZE a9 (.type "enumerate") none [(.bool false),(.ref (ρ0 1)),(.int 2 0),.none,(.ref (s2.1))] #[]) (.l 15310150104101501001015010000011099100100025001000250010002400100993001 (.k (ZX 52 w s2.sh s2.d s2.l s2.td s2.e A2 ep2 [.str (wd k) t] (.bool false)) [20,21,22] (hc2 _ sd _) fun ρ2=>.l 1701011104010101040017000110991010001630102009 (.k (Zc 0 t6) [] (Z5 w b _ _ _ (by decide)) fun ρ3=>.t fun t15=>.l 146 (.k (XQ 0 (ρ3 0) t15) [] (Xa w b _ _ _ _) fun ρ4=>.k (Zl (0 + 1) (ρ4 0)) [] (Yk w b _ _ _ (by decide)) fun ρ5=>.l 100992021000100992019101801010104101801000099 (.a fun a18=>.a fun a19=>.l 4002100400253004300210050024300530010003100190010099 (.a fun a21=>.l 4002 (.s 1 (ZE a21 (.type "zip") none [(.bool false),(.bool false),(.ref a18),(.ref a19)] #[]) (.l 1744010010000274010010010270104102701001027010000011099100100025001000250010002400100993001 (.m (Zq 73 w s1.sh s1.d s1.l s1.td s1.e A1 ep1 k t (0 + 1) (ρ5 0) (q1::y1)) [29,30,31] (h1.s _ sd _ _) fun ρ6=>.l 321003100300321036813690030036813690030036813690030002701010104 (.k (Zo w s1.sh s1.d s1.l s1.td s1.e (q1::y1++[Pr.mk (ρ6 0) k t (0 + 1) (ρ5 0)]:List Pr) (ρ6 1)) [29,30,31] (h1.k _ sd _ _ _ (.head _)) fun ρ7=>.k (Zs (ρ7 0) (names (q1::y1++[Pr.mk (ρ6 0) k t (0 + 1) (ρ5 0)]:List Pr)) (ρ7 1)) [0] (Zu w b _ _ _ _ (h1.z _ _)) fun ρ8=>.l 28 (.k (Z7 (Int.ofNat (List.length (names (q1::y1++[Pr.mk (ρ6 0) k t (0 + 1) (ρ5 0)])))) (ρ8 0) r1 u1 false) [] (YF w b _ _ _ _ _ _ (h1.l _ _)) fun ρ9=>.l 3330032003103330368136900310368136900310368136900310028 (.k (Z4 w s1.sh s1.d s1.l s1.td s1.e (q1::y1++[Pr.mk (ρ6 0) k t (0 + 1) (ρ5 0)]:List Pr) (ρ6 1)) [30,31,32] (h1.i _ sd _ _ _ (.head _)) fun ρ10=>.l 16044320100102901041029010040010100 (.k (Zh 59 w s1.sh s1.d s1.l s1.td s1.e (q1::y1++[Pr.mk (ρ6 0) k t (0 + 1) (ρ5 0)]:List Pr) (ρ6 1) q1.k q1.t (List.tail (q1::y1++[Pr.mk (ρ6 0) k t (0 + 1) (ρ5 0)]:List Pr))) [31,32,33] (h1.x _ sd _ _ _ (.head _)) fun ρ11=>.l 40081010003130103008101100303011300700093007 (.a fun a25=>.l 4008 (.s 7 (ZE a25 (.type "zip") none [(.bool false),(.bool false),(.ref a18),(.ref a19)] #[]) (.l 1744432010000334432010010330104103301001033010000011099100100025001000250010002400100993001 (.m (Zq 73 w s2.sh s2.d s2.l s2.td s2.e A2 ep2 q1.k q1.t q1.n q1.t' (q2::y2)) [38,39,40] (h2.s _ sd _ 0) fun ρ12=>.l 321004000390321036813690039036813690039036813690039003301010104 (.k (Zo w s2.sh s2.d s2.l s2.td s2.e (q2::y2++[Pr.mk (ρ12 0) (Pr.k q1) (Pr.t q1) (Pr.n q1) (Pr.t' q1)]:List Pr) (ρ12 1)) [38,39,40] (h2.k _ sd _ _ 0 (.head _)) fun ρ13=>.k (Zs (ρ13 0) (names (q2::y2++[Pr.mk (ρ12 0) (Pr.k q1) (Pr.t q1) (Pr.n q1) (Pr.t' q1)]:List Pr)) (ρ13 1)) [0] (Zu w b _ _ _ _ (h2.z _ 0)) fun ρ14=>.l 34 (.k (Z7 (Int.ofNat (List.length (names (q2::y2++[Pr.mk (ρ12 0) (Pr.k q1) (Pr.t q1) (Pr.n q1) (Pr.t' q1)])))) (ρ14 0) r2 u2 false) [] (YF w b _ _ _ _ _ _ (h2.l _ 0)) fun ρ15=>.l 3330041004003330368136900400368136900400368136900400034 (.k (Z4 w s2.sh s2.d s2.l s2.td s2.e (q2::y2++[Pr.mk (ρ12 0) (Pr.k q1) (Pr.t q1) (Pr.n q1) (Pr.t' q1)]:List Pr) (ρ12 1)) [39,40,41] (h2.i _ sd _ _ 0 (.head _)) fun ρ16=>.l 16044340100103501041035010040010100 (.k (Zh 59 w s2.sh s2.d s2.l s2.td s2.e (q2::y2++[Pr.mk (ρ12 0) (Pr.k q1) (Pr.t q1) (Pr.n q1) (Pr.t' q1)]:List Pr) (ρ12 1) q2.k q2.t (List.tail (q2::y2++[Pr.mk (ρ12 0) (Pr.k q1) (Pr.t q1) (Pr.n q1) (Pr.t' q1)]:List Pr))) [40,41,42] (h2.x _ sd _ _ 0 (.head _)) fun ρ17=>.l 2164434010000370047004602160218121900460218121900460218121900460037000110151099101700363017301300153013 (.k (Tu w li ld lp x ln lt vs ep (wd q2.k) q2.t) [45,46,47] (OX w b _ _ _ _ _ _ _ _ _ _ _ hz) fun ρ18=>.l 37 (.z [72] (rl [t5,ρ6 0,ρ5 0,ρ12 0,0,ρ11 0,ρ17 0,0,ρ18 0]))))))))))))))))))))))))))))))))
theorem PE (w:World) (b:Bool) (RO:ZA) (sl es rm er:Nat) (r1 r2:Int) (u1 u2:Nat) (s1 s2:Sk) (A1 A2 y1 y2:List Pr) (q1 q2:Pr) (ep1 ep2 li ld lp:Nat) (x:Lk) (ln:Int) (lt:Nat) (vs:List Value) (ep k t:Nat) (hk:k < 12) (hc1:Hc w b RO s1 A1 k t false) (hc2:Hc w b RO s2 A2 k t false) (h1:Ovr w b RO s1 A1 q1 y1 (fun z t'=>Pr.mk z k t (0 + 1) t') r1) (h2:Ovr w b RO s2 A2 q2 y2 (fun z _=>Pr.mk z q1.k q1.t q1.n q1.t') r2) (hz:vs.length≤1000):(Yz w sl es rm er r1 r2 u1 u2 s1 s2 A1 A2 ep1 ep2 li ld lp x ln lt vs ep k t (-1) (fun (ρ:Nat→Nat)=>y1++[(Pr.mk (ρ 1) k t (0 + 1) (ρ 2))]) (fun (ρ:Nat→Nat)=>y2++[(Pr.mk (ρ 3) q1.k q1.t q1.n q1.t')]) (vs++[Value.str (wd q2.k) q2.t]) (fun (ρ:Nat→Nat)=>[(Pr.mk (ρ 3) q1.k q1.t q1.n q1.t'),(Pr.mk (ρ 1) k t (0 + 1) (ρ 2))])).ok (wf w b) (cell q1::cell q2::RO) 500:=
 cB (fd310 _) (Sv w b RO sl es rm er r1 r2 u1 u2 s1 s2 A1 A2 y1 y2 q1 q2 ep1 ep2 li ld lp x ln lt vs ep k t hk hc1 hc2 h1 h2 hz) (by cases b<;>kernel_rfl)
noncomputable def Sw (w:World) (b:Bool) (RO:ZA) (sl es rm er:Nat) (r1 r2:Int) (u1 u2:Nat) (s1 s2:Sk) (A1 A2 c1:List Pr) (ep1 ep2 li ld lp:Nat) (x:Lk) (ln:Int) (lt:Nat) (vs:List Value) (ep k t:Nat) (hk:k < 12) (n t':Nat) (hn:n + 1 < 13) (hc1:Hc w b RO s1 A1 k t true) (hc2:Hc w b RO s2 A2 k t false) (hg:Hg w b RO s1 A1 k t n t') (h1:Lay w b RO s1 A1 c1 (fun z t'=>Pr.mk z k t (n + 1) t') r1 true):CE (wf w b) RO []:=
 .l 501010104100501001005010000011099100100025001000250010002400100993001009921001001010010010100100101001001010000990410 (.k (Y6 sl [.ref s1.sh,.ref s2.sh] es) [5] (XD w b _ _ _ _) fun ρ0=>.l 10011002000830026001 (.t fun t9=>.l 3001 (.a fun a5=>.l 8002 (.s 1 (ZE a5 (.type "enumerate") none [(.bool false),(.ref (ρ0 1)),(.int 1 0),.none,(.ref (s1.1))] #[]) (.l 15310110104101101001011010000011099100100025001000250010002400100993001 (.k (ZX 52 w s1.sh s1.d s1.l s1.td s1.e A1 ep1 [.str (wd k) t] (.bool true)) [13,14,15] (hc1 _ sb _) fun ρ1=>.l 167101101040011 (.k (ZX 66 w s1.sh s1.d s1.l s1.td s1.e A1 ep1 [.str (wd k) t] (.str (dig n) t')) [13,14,15] (hg _ sb _) fun ρ2=>.l 300901001009101000163010200901002015010010150100000110991001000250010002500100024001009930010099 (.a fun a13=>.l 8010 (.s 9 (ZE a13 (.type "enumerate") none [(.bool false),(.ref (ρ0 1)),(.int 2 0),.none,(.ref (s2.1))] #[]) (.l 15310190104101901001019010000011099100100025001000250010002400100993001 (.k (ZX 52 w s2.sh s2.d s2.l s2.td s2.e A2 ep2 [.str (wd k) t] (.bool false)) [24,25,26] (hc2 _ sb _) fun ρ3=>.l 2101011104010101040021000110991014002030142013 (.k (Zc n t') [] (Z5 w b _ _ _ (by omega)) fun ρ4=>.t fun t18=>.l 146 (.k (XQ n (ρ4 0) t18) [] (Xa w b _ _ _ _) fun ρ5=>.k (Zl (n + 1) (ρ5 0)) [] (Yk w b _ _ _ (by omega)) fun ρ6=>.l 100992025000100992023102201010104102201000099 (.a fun a22=>.a fun a23=>.l 4002100400293004300210050028300530010003100190010099 (.a fun a25=>.l 4002 (.s 1 (ZE a25 (.type "zip") none [(.bool false),(.bool false),(.ref a22),(.ref a23)] #[]) (.l 1744010010000314010010010310104103101001031010000011099100100025001000250010002400100993001 (.m (Zq 73 w s1.sh s1.d s1.l s1.td s1.e A1 ep1 k t (n + 1) (ρ6 0) c1) [33,34,35] (h1.s _ sb _ _) fun ρ7=>.l 321003500340321036813690034036813690034036813690034003101010104 (.k (Zo w s1.sh s1.d s1.l s1.td s1.e (c1++[Pr.mk (ρ7 0) k t (n + 1) (ρ6 0)]:List Pr) (ρ7 1)) [33,34,35] (h1.k _ sb _ _ _ (.head _)) fun ρ8=>.k (Zs (ρ8 0) (names (c1++[Pr.mk (ρ7 0) k t (n + 1) (ρ6 0)]:List Pr)) (ρ8 1)) [0] (Zu w b _ _ _ _ (h1.z _ _)) fun ρ9=>.l 32 (.k (Z7 (Int.ofNat (List.length (names (c1++[Pr.mk (ρ7 0) k t (n + 1) (ρ6 0)])))) (ρ9 0) r1 u1 true) [] (YF w b _ _ _ _ _ _ (h1.l _ _)) fun ρ10=>.l 32 (.z [62] (rl [t9,ρ7 0,ρ6 0,0,0,ρ7 1,ep2,0,ep]))))))))))))))))))))))
theorem PF (w:World) (b:Bool) (RO:ZA) (sl es rm er:Nat) (r1 r2:Int) (u1 u2:Nat) (s1 s2:Sk) (A1 A2 c1:List Pr) (ep1 ep2 li ld lp:Nat) (x:Lk) (ln:Int) (lt:Nat) (vs:List Value) (ep k t:Nat) (hk:k < 12) (n t':Nat) (hn:n + 1 < 13) (hc1:Hc w b RO s1 A1 k t true) (hc2:Hc w b RO s2 A2 k t false) (hg:Hg w b RO s1 A1 k t n t') (h1:Lay w b RO s1 A1 c1 (fun z t'=>Pr.mk z k t (n + 1) t') r1 true):(Yz w sl es rm er r1 r2 u1 u2 s1 s2 A1 A2 ep1 ep2 li ld lp x ln lt vs ep k t 0 (fun (ρ:Nat→Nat)=>c1++[(Pr.mk (ρ 1) k t (n + 1) (ρ 2))]) (fun (ρ:Nat→Nat)=>A2) vs (fun (ρ:Nat→Nat)=>[(Pr.mk (ρ 1) k t (n + 1) (ρ 2))])).ok (wf w b) RO 500:=
 cB (fd310 _) (Sw w b RO sl es rm er r1 r2 u1 u2 s1 s2 A1 A2 c1 ep1 ep2 li ld lp x ln lt vs ep k t hk n t' hn hc1 hc2 hg h1) (by cases b<;>kernel_rfl)
noncomputable def Sx (w:World) (b:Bool) (RO:ZA) (sl es rm er:Nat) (r1 r2:Int) (u1 u2:Nat) (s1 s2:Sk) (A1 A2 B2 y1:List Pr) (q1:Pr) (ep1 ep2 li ld lp:Nat) (x:Lk) (ln:Int) (lt:Nat) (vs:List Value) (ep k t:Nat) (hk:k < 12) (n t':Nat) (hn:n + 1 < 13) (hc1:Hc w b RO s1 A1 k t false) (hc2:Hc w b RO s2 A2 k t true) (hg:Hg w b RO s2 A2 k t n t') (hd:Hd w b RO s2 A2 k t B2) (h1:Ovr w b RO s1 A1 q1 y1 (fun z t'=>Pr.mk z k t (n + 1) t') r1) (h2:Lay w b RO s2 B2 B2 (fun z _=>Pr.mk z q1.k q1.t q1.n q1.t') r2 true):CE (wf w b) (cell q1::RO) []:=
 .l 501010104100501001005010000011099100100025001000250010002400100993001009921001001010010010100100101001001010000990410 (.k (Y6 sl [.ref s1.sh,.ref s2.sh] es) [5] (XD w b _ _ _ _) fun ρ0=>.l 3001010010011002000830026001 (.a fun a5=>.l 8002 (.s 1 (ZE a5 (.type "enumerate") none [(.bool false),(.ref (ρ0 1)),(.int 1 0),.none,(.ref (s1.1))] #[]) (.l 15310110104101101001011010000011099100100025001000250010002400100993001 (.k (ZX 52 w s1.sh s1.d s1.l s1.td s1.e A1 ep1 [.str (wd k) t] (.bool false)) [13,14,15] (hc1 _ sc _) fun ρ1=>.l 10051006001230062005 (.t fun t12=>.l 3005 (.a fun a9=>.l 8006 (.s 5 (ZE a9 (.type "enumerate") none [(.bool false),(.ref (ρ0 1)),(.int 2 0),.none,(.ref (s2.1))] #[]) (.l 15310150104101501001015010000011099100100025001000250010002400100993001 (.k (ZX 52 w s2.sh s2.d s2.l s2.td s2.e A2 ep2 [.str (wd k) t] (.bool true)) [20,21,22] (hc2 _ sc _) fun ρ2=>.l 167101501040015 (.k (ZX 66 w s2.sh s2.d s2.l s2.td s2.e A2 ep2 [.str (wd k) t] (.str (dig n) t')) [20,21,22] (hg _ sc _) fun ρ3=>.l 1601019010401002019010010190100000110991001000250010002500100024001009930010099 (.k (Zh 59 w s2.sh s2.d s2.l s2.td s2.e A2 ep2 k t B2) [24,25,26] (hd _ sc _) fun ρ4=>.l 2101011104010101040021000110991014002030142013 (.k (Zc n t') [] (Z5 w b _ _ _ (by omega)) fun ρ5=>.t fun t18=>.l 146 (.k (XQ n (ρ5 0) t18) [] (Xa w b _ _ _ _) fun ρ6=>.k (Zl (n + 1) (ρ6 0)) [] (Yk w b _ _ _ (by omega)) fun ρ7=>.l 100992025000100992023102201010104102201000099 (.a fun a22=>.a fun a23=>.l 4002100400293004300210050028300530010003100190010099 (.a fun a25=>.l 4002 (.s 1 (ZE a25 (.type "zip") none [(.bool false),(.bool false),(.ref a22),(.ref a23)] #[]) (.l 1744010010000314010010010310104103101001031010000011099100100025001000250010002400100993001 (.m (Zq 73 w s1.sh s1.d s1.l s1.td s1.e A1 ep1 k t (n + 1) (ρ7 0) (q1::y1)) [33,34,35] (h1.s _ sc _ _) fun ρ8=>.l 321003500340321036813690034036813690034036813690034003101010104 (.k (Zo w s1.sh s1.d s1.l s1.td s1.e (q1::y1++[Pr.mk (ρ8 0) k t (n + 1) (ρ7 0)]:List Pr) (ρ8 1)) [33,34,35] (h1.k _ sc _ _ _ (.head _)) fun ρ9=>.k (Zs (ρ9 0) (names (q1::y1++[Pr.mk (ρ8 0) k t (n + 1) (ρ7 0)]:List Pr)) (ρ9 1)) [0] (Zu w b _ _ _ _ (h1.z _ _)) fun ρ10=>.l 32 (.k (Z7 (Int.ofNat (List.length (names (q1::y1++[Pr.mk (ρ8 0) k t (n + 1) (ρ7 0)])))) (ρ10 0) r1 u1 false) [] (YF w b _ _ _ _ _ _ (h1.l _ _)) fun ρ11=>.l 3330036003503330368136900350368136900350368136900350032 (.k (Z4 w s1.sh s1.d s1.l s1.td s1.e (q1::y1++[Pr.mk (ρ8 0) k t (n + 1) (ρ7 0)]:List Pr) (ρ8 1)) [34,35,36] (h1.i _ sc _ _ _ (.head _)) fun ρ12=>.l 16044320100103301041033010040010100 (.k (Zh 59 w s1.sh s1.d s1.l s1.td s1.e (q1::y1++[Pr.mk (ρ8 0) k t (n + 1) (ρ7 0)]:List Pr) (ρ8 1) q1.k q1.t (List.tail (q1::y1++[Pr.mk (ρ8 0) k t (n + 1) (ρ7 0)]:List Pr))) [35,36,37] (h1.x _ sc _ _ _ (.head _)) fun ρ13=>.l 40081010003530103008101100343011300700093007 (.a fun a29=>.l 4008 (.s 7 (ZE a29 (.type "zip") none [(.bool false),(.bool false),(.ref a22),(.ref a23)] #[]) (.l 1744432010000374432010010370104103701001037010000011099100100025001000250010002400100993001 (.m (Zq 73 w s2.sh s2.d s2.l s2.td s2.e B2 (ρ4 0) q1.k q1.t q1.n q1.t' B2) [42,43,44] (h2.s _ sc _ 0) fun ρ14=>.l 321004400430321036813690043036813690043036813690043003701010104 (.k (Zo w s2.sh s2.d s2.l s2.td s2.e (B2++[Pr.mk (ρ14 0) (Pr.k q1) (Pr.t q1) (Pr.n q1) (Pr.t' q1)]:List Pr) (ρ14 1)) [42,43,44] (h2.k _ sc _ _ 0 (.head _)) fun ρ15=>.k (Zs (ρ15 0) (names (B2++[Pr.mk (ρ14 0) (Pr.k q1) (Pr.t q1) (Pr.n q1) (Pr.t' q1)]:List Pr)) (ρ15 1)) [0] (Zu w b _ _ _ _ (h2.z _ 0)) fun ρ16=>.l 38 (.k (Z7 (Int.ofNat (List.length (names (B2++[Pr.mk (ρ14 0) (Pr.k q1) (Pr.t q1) (Pr.n q1) (Pr.t' q1)])))) (ρ16 0) r2 u2 true) [] (YF w b _ _ _ _ _ _ (h2.l _ 0)) fun ρ17=>.l 38 (.z [74] (rl [t12,ρ8 0,ρ7 0,ρ14 0,0,ρ13 0,ρ14 1,0,ep])))))))))))))))))))))))))))))))
theorem PG (w:World) (b:Bool) (RO:ZA) (sl es rm er:Nat) (r1 r2:Int) (u1 u2:Nat) (s1 s2:Sk) (A1 A2 B2 y1:List Pr) (q1:Pr) (ep1 ep2 li ld lp:Nat) (x:Lk) (ln:Int) (lt:Nat) (vs:List Value) (ep k t:Nat) (hk:k < 12) (n t':Nat) (hn:n + 1 < 13) (hc1:Hc w b RO s1 A1 k t false) (hc2:Hc w b RO s2 A2 k t true) (hg:Hg w b RO s2 A2 k t n t') (hd:Hd w b RO s2 A2 k t B2) (h1:Ovr w b RO s1 A1 q1 y1 (fun z t'=>Pr.mk z k t (n + 1) t') r1) (h2:Lay w b RO s2 B2 B2 (fun z _=>Pr.mk z q1.k q1.t q1.n q1.t') r2 true):(Yz w sl es rm er r1 r2 u1 u2 s1 s2 A1 A2 ep1 ep2 li ld lp x ln lt vs ep k t 1 (fun (ρ:Nat→Nat)=>y1++[(Pr.mk (ρ 1) k t (n + 1) (ρ 2))]) (fun (ρ:Nat→Nat)=>B2++[(Pr.mk (ρ 3) q1.k q1.t q1.n q1.t')]) vs (fun (ρ:Nat→Nat)=>[(Pr.mk (ρ 3) q1.k q1.t q1.n q1.t'),(Pr.mk (ρ 1) k t (n + 1) (ρ 2))])).ok (wf w b) (cell q1::RO) 500:=
 cB (fd310 _) (Sx w b RO sl es rm er r1 r2 u1 u2 s1 s2 A1 A2 B2 y1 q1 ep1 ep2 li ld lp x ln lt vs ep k t hk n t' hn hc1 hc2 hg hd h1 h2) (by cases b<;>kernel_rfl)
noncomputable def Sy (w:World) (b:Bool) (RO:ZA) (sl es rm er:Nat) (r1 r2 r3:Int) (u1 u2 u3:Nat) (s1 s2 s3:Sk) (A1 A2 A3:List Pr) (ep1 ep2 ep3 li ld lp:Nat) (x:Lk) (ln:Int) (lt:Nat) (vs:List Value) (ep k t:Nat) (hk:k < 12) (hc1:Hc w b RO s1 A1 k t false) (hc2:Hc w b RO s2 A2 k t false) (hc3:Hc w b RO s3 A3 k t false) (h1:Lay w b RO s1 A1 A1 (fun z t'=>Pr.mk z k t (0 + 1) t') r1 true):CE (wf w b) RO []:=
 .l 1001001010010010100100101001001010000990410 (.t fun t5=>.t fun t6=>.l 5010101041005010010050100000110991001000250010002500100024001009930010099 (.k (Y6 sl [.ref s1.sh,.ref s2.sh,.ref s3.sh] es) [5] (XD w b _ _ _ _) fun ρ0=>.l 3001010010011002000830026001 (.a fun a5=>.l 8002 (.s 1 (ZE a5 (.type "enumerate") none [(.bool false),(.ref (ρ0 1)),(.int 1 0),.none,(.ref (s1.1))] #[]) (.l 15310110104101101001011010000011099100100025001000250010002400100993001 (.k (ZX 52 w s1.sh s1.d s1.l s1.td s1.e A1 ep1 [.str (wd k) t] (.bool false)) [13,14,15] (hc1 _ sb _) fun ρ1=>.l 3005010010051006001230062005 (.a fun a9=>.l 8006 (.s 5 (ZE a9 (.type "enumerate") none [(.bool false),(.ref (ρ0 1)),(.int 2 0),.none,(.ref (s2.1))] #[]) (.l 15310150104101501001015010000011099100100025001000250010002400100993001 (.k (ZX 52 w s2.sh s2.d s2.l s2.td s2.e A2 ep2 [.str (wd k) t] (.bool false)) [20,21,22] (hc2 _ sb _) fun ρ2=>.l 3009010010091010001630102009 (.a fun a13=>.l 8010 (.s 9 (ZE a13 (.type "enumerate") none [(.bool false),(.ref (ρ0 1)),(.int 3 0),.none,(.ref (s3.1))] #[]) (.l 15310190104101901001019010000011099100100025001000250010002400100993001 (.k (ZX 52 w s3.sh s3.d s3.l s3.td s3.e A3 ep3 [.str (wd k) t] (.bool false)) [27,28,29] (hc3 _ sb _) fun ρ3=>.l 2101011104010101040021000110991014002030142013 (.k (Zc 0 t6) [] (Z5 w b _ _ _ (by decide)) fun ρ4=>.t fun t18=>.l 146 (.k (XQ 0 (ρ4 0) t18) [] (Xa w b _ _ _ _) fun ρ5=>.k (Zl (0 + 1) (ρ5 0)) [] (Yk w b _ _ _ (by decide)) fun ρ6=>.l 100992025000100992023102201010104102201000099 (.a fun a22=>.a fun a23=>.l 4002100400293004300210050028300530010003100190010099 (.a fun a25=>.l 4002 (.s 1 (ZE a25 (.type "zip") none [(.bool false),(.bool false),(.ref a22),(.ref a23)] #[]) (.l 1744010010000314010010010310104103101001031010000011099100100025001000250010002400100993001 (.m (Zq 73 w s1.sh s1.d s1.l s1.td s1.e A1 ep1 k t (0 + 1) (ρ6 0) A1) [33,34,35] (h1.s _ sb _ _) fun ρ7=>.l 321003500340321036813690034036813690034036813690034003101010104 (.k (Zo w s1.sh s1.d s1.l s1.td s1.e (A1++[Pr.mk (ρ7 0) k t (0 + 1) (ρ6 0)]:List Pr) (ρ7 1)) [33,34,35] (h1.k _ sb _ _ _ (.head _)) fun ρ8=>.k (Zs (ρ8 0) (names (A1++[Pr.mk (ρ7 0) k t (0 + 1) (ρ6 0)]:List Pr)) (ρ8 1)) [0] (Zu w b _ _ _ _ (h1.z _ _)) fun ρ9=>.l 32 (.k (Z7 (Int.ofNat (List.length (names (A1++[Pr.mk (ρ7 0) k t (0 + 1) (ρ6 0)])))) (ρ9 0) r1 u1 true) [] (YF w b _ _ _ _ _ _ (h1.l _ _)) fun ρ10=>.l 32 (.z [62] (rl [t5,ρ7 0,ρ6 0,0,0,ρ7 1,ep2,ep3,ep])))))))))))))))))))))))))
theorem PH (w:World) (b:Bool) (RO:ZA) (sl es rm er:Nat) (r1 r2 r3:Int) (u1 u2 u3:Nat) (s1 s2 s3:Sk) (A1 A2 A3:List Pr) (ep1 ep2 ep3 li ld lp:Nat) (x:Lk) (ln:Int) (lt:Nat) (vs:List Value) (ep k t:Nat) (hk:k < 12) (hc1:Hc w b RO s1 A1 k t false) (hc2:Hc w b RO s2 A2 k t false) (hc3:Hc w b RO s3 A3 k t false) (h1:Lay w b RO s1 A1 A1 (fun z t'=>Pr.mk z k t (0 + 1) t') r1 true):(Yh w sl es rm er r1 r2 r3 u1 u2 u3 s1 s2 s3 A1 A2 A3 ep1 ep2 ep3 li ld lp x ln lt vs ep k t (-1) (fun (ρ:Nat→Nat)=>A1++[(Pr.mk (ρ 1) k t (0 + 1) (ρ 2))]) (fun (ρ:Nat→Nat)=>A2) (fun (ρ:Nat→Nat)=>A3) vs (fun (ρ:Nat→Nat)=>[(Pr.mk (ρ 1) k t (0 + 1) (ρ 2))])).ok (wf w b) RO 500:=
 cB (fd310 _) (Sy w b RO sl es rm er r1 r2 r3 u1 u2 u3 s1 s2 s3 A1 A2 A3 ep1 ep2 ep3 li ld lp x ln lt vs ep k t hk hc1 hc2 hc3 h1) (by cases b<;>kernel_rfl)
noncomputable def Sz (w:World) (b:Bool) (RO:ZA) (sl es rm er:Nat) (r1 r2 r3:Int) (u1 u2 u3:Nat) (s1 s2 s3:Sk) (A1 A2 A3 y1:List Pr) (q1:Pr) (ep1 ep2 ep3 li ld lp:Nat) (x:Lk) (ln:Int) (lt:Nat) (vs:List Value) (ep k t:Nat) (hk:k < 12) (hc1:Hc w b RO s1 A1 k t false) (hc2:Hc w b RO s2 A2 k t false) (hc3:Hc w b RO s3 A3 k t false) (h1:Ovr w b RO s1 A1 q1 y1 (fun z t'=>Pr.mk z k t (0 + 1) t') r1) (h2:Lay w b RO s2 A2 A2 (fun z _=>Pr.mk z q1.k q1.t q1.n q1.t') r2 true):CE (wf w b) (cell q1::RO) []:=
 .l 1001001010010010100100101001001010000990410 (.t fun t5=>.t fun t6=>.l 5010101041005010010050100000110991001000250010002500100024001009930010099 (.k (Y6 sl [.ref s1.sh,.ref s2.sh,.ref s3.sh] es) [5] (XD w b _ _ _ _) fun ρ0=>.l 3001010010011002000830026001 (.a fun a5=>.l 8002 (.s 1 (ZE a5 (.type "enumerate") none [(.bool false),(.ref (ρ0 1)),(.int 1 0),.none,(.ref (s1.1))] #[]) (.l 15310110104101101001011010000011099100100025001000250010002400100993001 (.k (ZX 52 w s1.sh s1.d s1.l s1.td s1.e A1 ep1 [.str (wd k) t] (.bool false)) [13,14,15] (hc1 _ sc _) fun ρ1=>.l 3005010010051006001230062005 (.a fun a9=>.l 8006 (.s 5 (ZE a9 (.type "enumerate") none [(.bool false),(.ref (ρ0 1)),(.int 2 0),.none,(.ref (s2.1))] #[]) (.l 15310150104101501001015010000011099100100025001000250010002400100993001 (.k (ZX 52 w s2.sh s2.d s2.l s2.td s2.e A2 ep2 [.str (wd k) t] (.bool false)) [20,21,22] (hc2 _ sc _) fun ρ2=>.l 3009010010091010001630102009 (.a fun a13=>.l 8010 (.s 9 (ZE a13 (.type "enumerate") none [(.bool false),(.ref (ρ0 1)),(.int 3 0),.none,(.ref (s3.1))] #[]) (.l 15310190104101901001019010000011099100100025001000250010002400100993001 (.k (ZX 52 w s3.sh s3.d s3.l s3.td s3.e A3 ep3 [.str (wd k) t] (.bool false)) [27,28,29] (hc3 _ sc _) fun ρ3=>.l 2101011104010101040021000110991014002030142013 (.k (Zc 0 t6) [] (Z5 w b _ _ _ (by decide)) fun ρ4=>.t fun t18=>.l 146 (.k (XQ 0 (ρ4 0) t18) [] (Xa w b _ _ _ _) fun ρ5=>.k (Zl (0 + 1) (ρ5 0)) [] (Yk w b _ _ _ (by decide)) fun ρ6=>.l 100992025000100992023102201010104102201000099 (.a fun a22=>.a fun a23=>.l 4002100400293004300210050028300530010003100190010099 (.a fun a25=>.l 4002 (.s 1 (ZE a25 (.type "zip") none [(.bool false),(.bool false),(.ref a22),(.ref a23)] #[]) (.l 1744010010000314010010010310104103101001031010000011099100100025001000250010002400100993001 (.m (Zq 73 w s1.sh s1.d s1.l s1.td s1.e A1 ep1 k t (0 + 1) (ρ6 0) (q1::y1)) [33,34,35] (h1.s _ sc _ _) fun ρ7=>.l 321003500340321036813690034036813690034036813690034003101010104 (.k (Zo w s1.sh s1.d s1.l s1.td s1.e (q1::y1++[Pr.mk (ρ7 0) k t (0 + 1) (ρ6 0)]:List Pr) (ρ7 1)) [33,34,35] (h1.k _ sc _ _ _ (.head _)) fun ρ8=>.k (Zs (ρ8 0) (names (q1::y1++[Pr.mk (ρ7 0) k t (0 + 1) (ρ6 0)]:List Pr)) (ρ8 1)) [0] (Zu w b _ _ _ _ (h1.z _ _)) fun ρ9=>.l 32 (.k (Z7 (Int.ofNat (List.length (names (q1::y1++[Pr.mk (ρ7 0) k t (0 + 1) (ρ6 0)])))) (ρ9 0) r1 u1 false) [] (YF w b _ _ _ _ _ _ (h1.l _ _)) fun ρ10=>.l 3330036003503330368136900350368136900350368136900350032 (.k (Z4 w s1.sh s1.d s1.l s1.td s1.e (q1::y1++[Pr.mk (ρ7 0) k t (0 + 1) (ρ6 0)]:List Pr) (ρ7 1)) [34,35,36] (h1.i _ sc _ _ _ (.head _)) fun ρ11=>.l 16044320100103301041033010040010100 (.k (Zh 59 w s1.sh s1.d s1.l s1.td s1.e (q1::y1++[Pr.mk (ρ7 0) k t (0 + 1) (ρ6 0)]:List Pr) (ρ7 1) q1.k q1.t (List.tail (q1::y1++[Pr.mk (ρ7 0) k t (0 + 1) (ρ6 0)]:List Pr))) [35,36,37] (h1.x _ sc _ _ _ (.head _)) fun ρ12=>.l 40081010003530103008101100343011300700093007 (.a fun a29=>.l 4008 (.s 7 (ZE a29 (.type "zip") none [(.bool false),(.bool false),(.ref a22),(.ref a23)] #[]) (.l 1744432010000374432010010370104103701001037010000011099100100025001000250010002400100993001 (.m (Zq 73 w s2.sh s2.d s2.l s2.td s2.e A2 ep2 q1.k q1.t q1.n q1.t' A2) [42,43,44] (h2.s _ sc _ 0) fun ρ13=>.l 321004400430321036813690043036813690043036813690043003701010104 (.k (Zo w s2.sh s2.d s2.l s2.td s2.e (A2++[Pr.mk (ρ13 0) (Pr.k q1) (Pr.t q1) (Pr.n q1) (Pr.t' q1)]:List Pr) (ρ13 1)) [42,43,44] (h2.k _ sc _ _ 0 (.head _)) fun ρ14=>.k (Zs (ρ14 0) (names (A2++[Pr.mk (ρ13 0) (Pr.k q1) (Pr.t q1) (Pr.n q1) (Pr.t' q1)]:List Pr)) (ρ14 1)) [0] (Zu w b _ _ _ _ (h2.z _ 0)) fun ρ15=>.l 38 (.k (Z7 (Int.ofNat (List.length (names (A2++[Pr.mk (ρ13 0) (Pr.k q1) (Pr.t q1) (Pr.n q1) (Pr.t' q1)])))) (ρ15 0) r2 u2 true) [] (YF w b _ _ _ _ _ _ (h2.l _ 0)) fun ρ16=>.l 38 (.z [74] (rl [t5,ρ7 0,ρ6 0,ρ13 0,0,ρ12 0,ρ13 1,ep3,ep])))))))))))))))))))))))))))))))))
theorem PI (w:World) (b:Bool) (RO:ZA) (sl es rm er:Nat) (r1 r2 r3:Int) (u1 u2 u3:Nat) (s1 s2 s3:Sk) (A1 A2 A3 y1:List Pr) (q1:Pr) (ep1 ep2 ep3 li ld lp:Nat) (x:Lk) (ln:Int) (lt:Nat) (vs:List Value) (ep k t:Nat) (hk:k < 12) (hc1:Hc w b RO s1 A1 k t false) (hc2:Hc w b RO s2 A2 k t false) (hc3:Hc w b RO s3 A3 k t false) (h1:Ovr w b RO s1 A1 q1 y1 (fun z t'=>Pr.mk z k t (0 + 1) t') r1) (h2:Lay w b RO s2 A2 A2 (fun z _=>Pr.mk z q1.k q1.t q1.n q1.t') r2 true):(Yh w sl es rm er r1 r2 r3 u1 u2 u3 s1 s2 s3 A1 A2 A3 ep1 ep2 ep3 li ld lp x ln lt vs ep k t (-1) (fun (ρ:Nat→Nat)=>y1++[(Pr.mk (ρ 1) k t (0 + 1) (ρ 2))]) (fun (ρ:Nat→Nat)=>A2++[(Pr.mk (ρ 3) q1.k q1.t q1.n q1.t')]) (fun (ρ:Nat→Nat)=>A3) vs (fun (ρ:Nat→Nat)=>[(Pr.mk (ρ 3) q1.k q1.t q1.n q1.t'),(Pr.mk (ρ 1) k t (0 + 1) (ρ 2))])).ok (wf w b) (cell q1::RO) 500:=
 cB (fd310 _) (Sz w b RO sl es rm er r1 r2 r3 u1 u2 u3 s1 s2 s3 A1 A2 A3 y1 q1 ep1 ep2 ep3 li ld lp x ln lt vs ep k t hk hc1 hc2 hc3 h1 h2) (by cases b<;>kernel_rfl)
noncomputable def S0 (w:World) (b:Bool) (RO:ZA) (sl es rm er:Nat) (r1 r2 r3:Int) (u1 u2 u3:Nat) (s1 s2 s3:Sk) (A1 A2 A3 y1 y2:List Pr) (q1 q2:Pr) (ep1 ep2 ep3 li ld lp:Nat) (x:Lk) (ln:Int) (lt:Nat) (vs:List Value) (ep k t:Nat) (hk:k < 12) (hc1:Hc w b RO s1 A1 k t false) (hc2:Hc w b RO s2 A2 k t false) (hc3:Hc w b RO s3 A3 k t false) (h1:Ovr w b RO s1 A1 q1 y1 (fun z t'=>Pr.mk z k t (0 + 1) t') r1) (h2:Ovr w b RO s2 A2 q2 y2 (fun z _=>Pr.mk z q1.k q1.t q1.n q1.t') r2) (h3:Lay w b RO s3 A3 A3 (fun z _=>Pr.mk z q2.k q2.t q2.n q2.t') r3 true):CE (wf w b) (cell q1::cell q2::RO) []:=
 .l 1001001010010010100100101001001010000990410 (.t fun t5=>.t fun t6=>.l 5010101041005010010050100000110991001000250010002500100024001009930010099 (.k (Y6 sl [.ref s1.sh,.ref s2.sh,.ref s3.sh] es) [5] (XD w b _ _ _ _) fun ρ0=>.l 3001010010011002000830026001 (.a fun a5=>.l 8002 (.s 1 (ZE a5 (.type "enumerate") none [(.bool false),(.ref (ρ0 1)),(.int 1 0),.none,(.ref (s1.1))] #[]) (.l 15310110104101101001011010000011099100100025001000250010002400100993001 (.k (ZX 52 w s1.sh s1.d s1.l s1.td s1.e A1 ep1 [.str (wd k) t] (.bool false)) [13,14,15] (hc1 _ sd _) fun ρ1=>.l 3005010010051006001230062005 (.a fun a9=>.l 8006 (.s 5 (ZE a9 (.type "enumerate") none [(.bool false),(.ref (ρ0 1)),(.int 2 0),.none,(.ref (s2.1))] #[]) (.l 15310150104101501001015010000011099100100025001000250010002400100993001 (.k (ZX 52 w s2.sh s2.d s2.l s2.td s2.e A2 ep2 [.str (wd k) t] (.bool false)) [20,21,22] (hc2 _ sd _) fun ρ2=>.l 3009010010091010001630102009 (.a fun a13=>.l 8010 (.s 9 (ZE a13 (.type "enumerate") none [(.bool false),(.ref (ρ0 1)),(.int 3 0),.none,(.ref (s3.1))] #[]) (.l 15310190104101901001019010000011099100100025001000250010002400100993001 (.k (ZX 52 w s3.sh s3.d s3.l s3.td s3.e A3 ep3 [.str (wd k) t] (.bool false)) [27,28,29] (hc3 _ sd _) fun ρ3=>.l 2101011104010101040021000110991014002030142013 (.k (Zc 0 t6) [] (Z5 w b _ _ _ (by decide)) fun ρ4=>.t fun t18=>.l 146 (.k (XQ 0 (ρ4 0) t18) [] (Xa w b _ _ _ _) fun ρ5=>.k (Zl (0 + 1) (ρ5 0)) [] (Yk w b _ _ _ (by decide)) fun ρ6=>.l 100992025000100992023102201010104102201000099 (.a fun a22=>.a fun a23=>.l 4002100400293004300210050028300530010003100190010099 (.a fun a25=>.l 4002 (.s 1 (ZE a25 (.type "zip") none [(.bool false),(.bool false),(.ref a22),(.ref a23)] #[]) (.l 1744010010000314010010010310104103101001031010000011099100100025001000250010002400100993001 (.m (Zq 73 w s1.sh s1.d s1.l s1.td s1.e A1 ep1 k t (0 + 1) (ρ6 0) (q1::y1)) [33,34,35] (h1.s _ sd _ _) fun ρ7=>.l 321003500340321036813690034036813690034036813690034003101010104 (.k (Zo w s1.sh s1.d s1.l s1.td s1.e (q1::y1++[Pr.mk (ρ7 0) k t (0 + 1) (ρ6 0)]:List Pr) (ρ7 1)) [33,34,35] (h1.k _ sd _ _ _ (.head _)) fun ρ8=>.k (Zs (ρ8 0) (names (q1::y1++[Pr.mk (ρ7 0) k t (0 + 1) (ρ6 0)]:List Pr)) (ρ8 1)) [0] (Zu w b _ _ _ _ (h1.z _ _)) fun ρ9=>.l 32 (.k (Z7 (Int.ofNat (List.length (names (q1::y1++[Pr.mk (ρ7 0) k t (0 + 1) (ρ6 0)])))) (ρ9 0) r1 u1 false) [] (YF w b _ _ _ _ _ _ (h1.l _ _)) fun ρ10=>.l 3330036003503330368136900350368136900350368136900350032 (.k (Z4 w s1.sh s1.d s1.l s1.td s1.e (q1::y1++[Pr.mk (ρ7 0) k t (0 + 1) (ρ6 0)]:List Pr) (ρ7 1)) [34,35,36] (h1.i _ sd _ _ _ (.head _)) fun ρ11=>.l 16044320100103301041033010040010100 (.k (Zh 59 w s1.sh s1.d s1.l s1.td s1.e (q1::y1++[Pr.mk (ρ7 0) k t (0 + 1) (ρ6 0)]:List Pr) (ρ7 1) q1.k q1.t (List.tail (q1::y1++[Pr.mk (ρ7 0) k t (0 + 1) (ρ6 0)]:List Pr))) [35,36,37] (h1.x _ sd _ _ _ (.head _)) fun ρ12=>.l 40081010003530103008101100343011300700093007 (.a fun a29=>.l 4008 (.s 7 (ZE a29 (.type "zip") none [(.bool false),(.bool false),(.ref a22),(.ref a23)] #[]) (.l 1744432010000374432010010370104103701001037010000011099100100025001000250010002400100993001 (.m (Zq 73 w s2.sh s2.d s2.l s2.td s2.e A2 ep2 q1.k q1.t q1.n q1.t' (q2::y2)) [42,43,44] (h2.s _ sd _ 0) fun ρ13=>.l 321004400430321036813690043036813690043036813690043003701010104 (.k (Zo w s2.sh s2.d s2.l s2.td s2.e (q2::y2++[Pr.mk (ρ13 0) (Pr.k q1) (Pr.t q1) (Pr.n q1) (Pr.t' q1)]:List Pr) (ρ13 1)) [42,43,44] (h2.k _ sd _ _ 0 (.head _)) fun ρ14=>.k (Zs (ρ14 0) (names (q2::y2++[Pr.mk (ρ13 0) (Pr.k q1) (Pr.t q1) (Pr.n q1) (Pr.t' q1)]:List Pr)) (ρ14 1)) [0] (Zu w b _ _ _ _ (h2.z _ 0)) fun ρ15=>.l 38 (.k (Z7 (Int.ofNat (List.length (names (q2::y2++[Pr.mk (ρ13 0) (Pr.k q1) (Pr.t q1) (Pr.n q1) (Pr.t' q1)])))) (ρ15 0) r2 u2 false) [] (YF w b _ _ _ _ _ _ (h2.l _ 0)) fun ρ16=>.l 3330045004403330368136900440368136900440368136900440038 (.k (Z4 w s2.sh s2.d s2.l s2.td s2.e (q2::y2++[Pr.mk (ρ13 0) (Pr.k q1) (Pr.t q1) (Pr.n q1) (Pr.t' q1)]:List Pr) (ρ13 1)) [43,44,45] (h2.i _ sd _ _ 0 (.head _)) fun ρ17=>.l 16044340100103901041039010040010100 (.k (Zh 59 w s2.sh s2.d s2.l s2.td s2.e (q2::y2++[Pr.mk (ρ13 0) (Pr.k q1) (Pr.t q1) (Pr.n q1) (Pr.t' q1)]:List Pr) (ρ13 1) q2.k q2.t (List.tail (q2::y2++[Pr.mk (ρ13 0) (Pr.k q1) (Pr.t q1) (Pr.n q1) (Pr.t' q1)]:List Pr))) [44,45,46] (h2.x _ sd _ _ 0 (.head _)) fun ρ18=>.l 40141016004130163014101700403017301300153013 (.a fun a33=>.l 4014 (.s 13 (ZE a33 (.type "zip") none [(.bool false),(.bool false),(.ref a22),(.ref a23)] #[]) (.l 1744434010000434434010010430104104301001043010000011099100100025001000250010002400100993001 (.m (Zq 73 w s3.sh s3.d s3.l s3.td s3.e A3 ep3 q2.k q2.t q2.n q2.t' A3) [51,52,53] (h3.s _ sd _ 0) fun ρ19=>.l 321005300520321036813690052036813690052036813690052004301010104 (.k (Zo w s3.sh s3.d s3.l s3.td s3.e (A3++[Pr.mk (ρ19 0) (Pr.k q2) (Pr.t q2) (Pr.n q2) (Pr.t' q2)]:List Pr) (ρ19 1)) [51,52,53] (h3.k _ sd _ _ 0 (.head _)) fun ρ20=>.k (Zs (ρ20 0) (names (A3++[Pr.mk (ρ19 0) (Pr.k q2) (Pr.t q2) (Pr.n q2) (Pr.t' q2)]:List Pr)) (ρ20 1)) [0] (Zu w b _ _ _ _ (h3.z _ 0)) fun ρ21=>.l 44 (.k (Z7 (Int.ofNat (List.length (names (A3++[Pr.mk (ρ19 0) (Pr.k q2) (Pr.t q2) (Pr.n q2) (Pr.t' q2)])))) (ρ21 0) r3 u3 true) [] (YF w b _ _ _ _ _ _ (h3.l _ 0)) fun ρ22=>.l 44 (.z [86] (rl [t5,ρ7 0,ρ6 0,ρ13 0,ρ19 0,ρ12 0,ρ18 0,ρ19 1,ep])))))))))))))))))))))))))))))))))))))))))
theorem PJ (w:World) (b:Bool) (RO:ZA) (sl es rm er:Nat) (r1 r2 r3:Int) (u1 u2 u3:Nat) (s1 s2 s3:Sk) (A1 A2 A3 y1 y2:List Pr) (q1 q2:Pr) (ep1 ep2 ep3 li ld lp:Nat) (x:Lk) (ln:Int) (lt:Nat) (vs:List Value) (ep k t:Nat) (hk:k < 12) (hc1:Hc w b RO s1 A1 k t false) (hc2:Hc w b RO s2 A2 k t false) (hc3:Hc w b RO s3 A3 k t false) (h1:Ovr w b RO s1 A1 q1 y1 (fun z t'=>Pr.mk z k t (0 + 1) t') r1) (h2:Ovr w b RO s2 A2 q2 y2 (fun z _=>Pr.mk z q1.k q1.t q1.n q1.t') r2) (h3:Lay w b RO s3 A3 A3 (fun z _=>Pr.mk z q2.k q2.t q2.n q2.t') r3 true):(Yh w sl es rm er r1 r2 r3 u1 u2 u3 s1 s2 s3 A1 A2 A3 ep1 ep2 ep3 li ld lp x ln lt vs ep k t (-1) (fun (ρ:Nat→Nat)=>y1++[(Pr.mk (ρ 1) k t (0 + 1) (ρ 2))]) (fun (ρ:Nat→Nat)=>y2++[(Pr.mk (ρ 3) q1.k q1.t q1.n q1.t')]) (fun (ρ:Nat→Nat)=>A3++[(Pr.mk (ρ 4) q2.k q2.t q2.n q2.t')]) vs (fun (ρ:Nat→Nat)=>[(Pr.mk (ρ 4) q2.k q2.t q2.n q2.t'),(Pr.mk (ρ 3) q1.k q1.t q1.n q1.t'),(Pr.mk (ρ 1) k t (0 + 1) (ρ 2))])).ok (wf w b) (cell q1::cell q2::RO) 500:=
 cB (fd310 _) (S0 w b RO sl es rm er r1 r2 r3 u1 u2 u3 s1 s2 s3 A1 A2 A3 y1 y2 q1 q2 ep1 ep2 ep3 li ld lp x ln lt vs ep k t hk hc1 hc2 hc3 h1 h2 h3) (by cases b<;>kernel_rfl)
noncomputable def S4 (w:World) (b:Bool) (RO:ZA) (sl es rm er:Nat) (r1 r2 r3:Int) (u1 u2 u3:Nat) (s1 s2 s3:Sk) (A1 A2 A3 y1 y2 y3:List Pr) (q1 q2 q3:Pr) (ep1 ep2 ep3 li ld lp:Nat) (x:Lk) (ln:Int) (lt:Nat) (vs:List Value) (ep k t:Nat) (hk:k < 12) (hc1:Hc w b RO s1 A1 k t false) (hc2:Hc w b RO s2 A2 k t false) (hc3:Hc w b RO s3 A3 k t false) (h1:Ovr w b RO s1 A1 q1 y1 (fun z t'=>Pr.mk z k t (0 + 1) t') r1) (h2:Ovr w b RO s2 A2 q2 y2 (fun z _=>Pr.mk z q1.k q1.t q1.n q1.t') r2) (h3:Ovr w b RO s3 A3 q3 y3 (fun z _=>Pr.mk z q2.k q2.t q2.n q2.t') r3) (hz:vs.length≤1000):CE (wf w b) (cell q1::cell q2::cell q3::RO) []:=
 .l 1001001010010010100100101001001010000990410 (.t fun t5=>.t fun t6=>.l 5010101041005010010050100000110991001000250010002500100024001009930010099 (.k (Y6 sl [.ref s1.sh,.ref s2.sh,.ref s3.sh] es) [5] (XD w b _ _ _ _) fun ρ0=>.l 3001010010011002000830026001 (.a fun a5=>.l 8002 (.s 1 (ZE a5 (.type "enumerate") none [(.bool false),(.ref (ρ0 1)),(.int 1 0),.none,(.ref (s1.1))] #[]) (.l 15310110104101101001011010000011099100100025001000250010002400100993001 (.k (ZX 52 w s1.sh s1.d s1.l s1.td s1.e A1 ep1 [.str (wd k) t] (.bool false)) [13,14,15] (hc1 _ se _) fun ρ1=>.l 3005010010051006001230062005 (.a fun a9=>.l 8006 (.s 5 (ZE a9 (.type "enumerate") none [(.bool false),(.ref (ρ0 1)),(.int 2 0),.none,(.ref (s2.1))] #[]) (.l 15310150104101501001015010000011099100100025001000250010002400100993001 (.k (ZX 52 w s2.sh s2.d s2.l s2.td s2.e A2 ep2 [.str (wd k) t] (.bool false)) [20,21,22] (hc2 _ se _) fun ρ2=>.l 3009010010091010001630102009 (.a fun a13=>.l 8010 (.s 9 (ZE a13 (.type "enumerate") none [(.bool false),(.ref (ρ0 1)),(.int 3 0),.none,(.ref (s3.1))] #[]) (.l 15310190104101901001019010000011099100100025001000250010002400100993001 (.k (ZX 52 w s3.sh s3.d s3.l s3.td s3.e A3 ep3 [.str (wd k) t] (.bool false)) [27,28,29] (hc3 _ se _) fun ρ3=>.l 2101011104010101040021000110991014002030142013 (.k (Zc 0 t6) [] (Z5 w b _ _ _ (by decide)) fun ρ4=>.t fun t18=>.l 146 (.k (XQ 0 (ρ4 0) t18) [] (Xa w b _ _ _ _) fun ρ5=>.k (Zl (0 + 1) (ρ5 0)) [] (Yk w b _ _ _ (by decide)) fun ρ6=>.l 100992025000100992023102201010104102201000099 (.a fun a22=>.a fun a23=>.l 4002100400293004300210050028300530010003100190010099 (.a fun a25=>.l 4002 (.s 1 (ZE a25 (.type "zip") none [(.bool false),(.bool false),(.ref a22),(.ref a23)] #[]) (.l 1744010010000314010010010310104103101001031010000011099100100025001000250010002400100993001 (.m (Zq 73 w s1.sh s1.d s1.l s1.td s1.e A1 ep1 k t (0 + 1) (ρ6 0) (q1::y1)) [33,34,35] (h1.s _ se _ _) fun ρ7=>.l 321003500340321036813690034036813690034036813690034003101010104 (.k (Zo w s1.sh s1.d s1.l s1.td s1.e (q1::y1++[Pr.mk (ρ7 0) k t (0 + 1) (ρ6 0)]:List Pr) (ρ7 1)) [33,34,35] (h1.k _ se _ _ _ (.head _)) fun ρ8=>.k (Zs (ρ8 0) (names (q1::y1++[Pr.mk (ρ7 0) k t (0 + 1) (ρ6 0)]:List Pr)) (ρ8 1)) [0] (Zu w b _ _ _ _ (h1.z _ _)) fun ρ9=>.l 32 (.k (Z7 (Int.ofNat (List.length (names (q1::y1++[Pr.mk (ρ7 0) k t (0 + 1) (ρ6 0)])))) (ρ9 0) r1 u1 false) [] (YF w b _ _ _ _ _ _ (h1.l _ _)) fun ρ10=>.l 3330036003503330368136900350368136900350368136900350032 (.k (Z4 w s1.sh s1.d s1.l s1.td s1.e (q1::y1++[Pr.mk (ρ7 0) k t (0 + 1) (ρ6 0)]:List Pr) (ρ7 1)) [34,35,36] (h1.i _ se _ _ _ (.head _)) fun ρ11=>.l 16044320100103301041033010040010100 (.k (Zh 59 w s1.sh s1.d s1.l s1.td s1.e (q1::y1++[Pr.mk (ρ7 0) k t (0 + 1) (ρ6 0)]:List Pr) (ρ7 1) q1.k q1.t (List.tail (q1::y1++[Pr.mk (ρ7 0) k t (0 + 1) (ρ6 0)]:List Pr))) [35,36,37] (h1.x _ se _ _ _ (.head _)) fun ρ12=>.l 40081010003530103008101100343011300700093007 (.a fun a29=>.l 4008 (.s 7 (ZE a29 (.type "zip") none [(.bool false),(.bool false),(.ref a22),(.ref a23)] #[]) (.l 1744432010000374432010010370104103701001037010000011099100100025001000250010002400100993001 (.m (Zq 73 w s2.sh s2.d s2.l s2.td s2.e A2 ep2 q1.k q1.t q1.n q1.t' (q2::y2)) [42,43,44] (h2.s _ se _ 0) fun ρ13=>.l 321004400430321036813690043036813690043036813690043003701010104 (.k (Zo w s2.sh s2.d s2.l s2.td s2.e (q2::y2++[Pr.mk (ρ13 0) (Pr.k q1) (Pr.t q1) (Pr.n q1) (Pr.t' q1)]:List Pr) (ρ13 1)) [42,43,44] (h2.k _ se _ _ 0 (.head _)) fun ρ14=>.k (Zs (ρ14 0) (names (q2::y2++[Pr.mk (ρ13 0) (Pr.k q1) (Pr.t q1) (Pr.n q1) (Pr.t' q1)]:List Pr)) (ρ14 1)) [0] (Zu w b _ _ _ _ (h2.z _ 0)) fun ρ15=>.l 38 (.k (Z7 (Int.ofNat (List.length (names (q2::y2++[Pr.mk (ρ13 0) (Pr.k q1) (Pr.t q1) (Pr.n q1) (Pr.t' q1)])))) (ρ15 0) r2 u2 false) [] (YF w b _ _ _ _ _ _ (h2.l _ 0)) fun ρ16=>.l 3330045004403330368136900440368136900440368136900440038 (.k (Z4 w s2.sh s2.d s2.l s2.td s2.e (q2::y2++[Pr.mk (ρ13 0) (Pr.k q1) (Pr.t q1) (Pr.n q1) (Pr.t' q1)]:List Pr) (ρ13 1)) [43,44,45] (h2.i _ se _ _ 0 (.head _)) fun ρ17=>.l 16044340100103901041039010040010100 (.k (Zh 59 w s2.sh s2.d s2.l s2.td s2.e (q2::y2++[Pr.mk (ρ13 0) (Pr.k q1) (Pr.t q1) (Pr.n q1) (Pr.t' q1)]:List Pr) (ρ13 1) q2.k q2.t (List.tail (q2::y2++[Pr.mk (ρ13 0) (Pr.k q1) (Pr.t q1) (Pr.n q1) (Pr.t' q1)]:List Pr))) [44,45,46] (h2.x _ se _ _ 0 (.head _)) fun ρ18=>.l 40141016004130163014101700403017301300153013 (.a fun a33=>.l 4014 (.s 13 (ZE a33 (.type "zip") none [(.bool false),(.bool false),(.ref a22),(.ref a23)] #[]) (.l 1744434010000434434010010430104104301001043010000011099100100025001000250010002400100993001 (.m (Zq 73 w s3.sh s3.d s3.l s3.td s3.e A3 ep3 q2.k q2.t q2.n q2.t' (q3::y3)) [51,52,53] (h3.s _ se _ 0) fun ρ19=>.l 321005300520321036813690052036813690052036813690052004301010104 (.k (Zo w s3.sh s3.d s3.l s3.td s3.e (q3::y3++[Pr.mk (ρ19 0) (Pr.k q2) (Pr.t q2) (Pr.n q2) (Pr.t' q2)]:List Pr) (ρ19 1)) [51,52,53] (h3.k _ se _ _ 0 (.head _)) fun ρ20=>.k (Zs (ρ20 0) (names (q3::y3++[Pr.mk (ρ19 0) (Pr.k q2) (Pr.t q2) (Pr.n q2) (Pr.t' q2)]:List Pr)) (ρ20 1)) [0] (Zu w b _ _ _ _ (h3.z _ 0)) fun ρ21=>.l 44 (.k (Z7 (Int.ofNat (List.length (names (q3::y3++[Pr.mk (ρ19 0) (Pr.k q2) (Pr.t q2) (Pr.n q2) (Pr.t' q2)])))) (ρ21 0) r3 u3 false) [] (YF w b _ _ _ _ _ _ (h3.l _ 0)) fun ρ22=>.l 3330054005303330368136900530368136900530368136900530044 (.k (Z4 w s3.sh s3.d s3.l s3.td s3.e (q3::y3++[Pr.mk (ρ19 0) (Pr.k q2) (Pr.t q2) (Pr.n q2) (Pr.t' q2)]:List Pr) (ρ19 1)) [52,53,54] (h3.i _ se _ _ 0 (.head _)) fun ρ23=>.l 16044360100104501041045010040010100 (.k (Zh 59 w s3.sh s3.d s3.l s3.td s3.e (q3::y3++[Pr.mk (ρ19 0) (Pr.k q2) (Pr.t q2) (Pr.n q2) (Pr.t' q2)]:List Pr) (ρ19 1) q3.k q3.t (List.tail (q3::y3++[Pr.mk (ρ19 0) (Pr.k q2) (Pr.t q2) (Pr.n q2) (Pr.t' q2)]:List Pr))) [53,54,55] (h3.x _ se _ _ 0 (.head _)) fun ρ24=>.l 2164436010000470060005902160218121900590218121900590218121900590047000110211099102300463023301900213019 (.k (Tu w li ld lp x ln lt vs ep (wd q3.k) q3.t) [58,59,60] (OX w b _ _ _ _ _ _ _ _ _ _ _ hz) fun ρ25=>.l 47 (.z [92] (rl [t5,ρ7 0,ρ6 0,ρ13 0,ρ19 0,ρ12 0,ρ18 0,ρ24 0,ρ25 0]))))))))))))))))))))))))))))))))))))))))))))
theorem PK (w:World) (b:Bool) (RO:ZA) (sl es rm er:Nat) (r1 r2 r3:Int) (u1 u2 u3:Nat) (s1 s2 s3:Sk) (A1 A2 A3 y1 y2 y3:List Pr) (q1 q2 q3:Pr) (ep1 ep2 ep3 li ld lp:Nat) (x:Lk) (ln:Int) (lt:Nat) (vs:List Value) (ep k t:Nat) (hk:k < 12) (hc1:Hc w b RO s1 A1 k t false) (hc2:Hc w b RO s2 A2 k t false) (hc3:Hc w b RO s3 A3 k t false) (h1:Ovr w b RO s1 A1 q1 y1 (fun z t'=>Pr.mk z k t (0 + 1) t') r1) (h2:Ovr w b RO s2 A2 q2 y2 (fun z _=>Pr.mk z q1.k q1.t q1.n q1.t') r2) (h3:Ovr w b RO s3 A3 q3 y3 (fun z _=>Pr.mk z q2.k q2.t q2.n q2.t') r3) (hz:vs.length≤1000):(Yh w sl es rm er r1 r2 r3 u1 u2 u3 s1 s2 s3 A1 A2 A3 ep1 ep2 ep3 li ld lp x ln lt vs ep k t (-1) (fun (ρ:Nat→Nat)=>y1++[(Pr.mk (ρ 1) k t (0 + 1) (ρ 2))]) (fun (ρ:Nat→Nat)=>y2++[(Pr.mk (ρ 3) q1.k q1.t q1.n q1.t')]) (fun (ρ:Nat→Nat)=>y3++[(Pr.mk (ρ 4) q2.k q2.t q2.n q2.t')]) (vs++[Value.str (wd q3.k) q3.t]) (fun (ρ:Nat→Nat)=>[(Pr.mk (ρ 4) q2.k q2.t q2.n q2.t'),(Pr.mk (ρ 3) q1.k q1.t q1.n q1.t'),(Pr.mk (ρ 1) k t (0 + 1) (ρ 2))])).ok (wf w b) (cell q1::cell q2::cell q3::RO) 500:=
 cB (fd310 _) (S4 w b RO sl es rm er r1 r2 r3 u1 u2 u3 s1 s2 s3 A1 A2 A3 y1 y2 y3 q1 q2 q3 ep1 ep2 ep3 li ld lp x ln lt vs ep k t hk hc1 hc2 hc3 h1 h2 h3 hz) (by cases b<;>kernel_rfl)
noncomputable def S5 (w:World) (b:Bool) (RO:ZA) (sl es rm er:Nat) (r1 r2 r3:Int) (u1 u2 u3:Nat) (s1 s2 s3:Sk) (A1 A2 A3 c1:List Pr) (ep1 ep2 ep3 li ld lp:Nat) (x:Lk) (ln:Int) (lt:Nat) (vs:List Value) (ep k t:Nat) (hk:k < 12) (n t':Nat) (hn:n + 1 < 13) (hc1:Hc w b RO s1 A1 k t true) (hc2:Hc w b RO s2 A2 k t false) (hc3:Hc w b RO s3 A3 k t false) (hg:Hg w b RO s1 A1 k t n t') (h1:Lay w b RO s1 A1 c1 (fun z t'=>Pr.mk z k t (n + 1) t') r1 true):CE (wf w b) RO []:=
 .l 501010104100501001005010000011099100100025001000250010002400100993001009921001001010010010100100101001001010000990410 (.k (Y6 sl [.ref s1.sh,.ref s2.sh,.ref s3.sh] es) [5] (XD w b _ _ _ _) fun ρ0=>.l 10011002000830026001 (.t fun t9=>.l 3001 (.a fun a5=>.l 8002 (.s 1 (ZE a5 (.type "enumerate") none [(.bool false),(.ref (ρ0 1)),(.int 1 0),.none,(.ref (s1.1))] #[]) (.l 15310110104101101001011010000011099100100025001000250010002400100993001 (.k (ZX 52 w s1.sh s1.d s1.l s1.td s1.e A1 ep1 [.str (wd k) t] (.bool true)) [13,14,15] (hc1 _ sb _) fun ρ1=>.l 167101101040011 (.k (ZX 66 w s1.sh s1.d s1.l s1.td s1.e A1 ep1 [.str (wd k) t] (.str (dig n) t')) [13,14,15] (hg _ sb _) fun ρ2=>.l 300901001009101000163010200901002015010010150100000110991001000250010002500100024001009930010099 (.a fun a13=>.l 8010 (.s 9 (ZE a13 (.type "enumerate") none [(.bool false),(.ref (ρ0 1)),(.int 2 0),.none,(.ref (s2.1))] #[]) (.l 15310190104101901001019010000011099100100025001000250010002400100993001 (.k (ZX 52 w s2.sh s2.d s2.l s2.td s2.e A2 ep2 [.str (wd k) t] (.bool false)) [24,25,26] (hc2 _ sb _) fun ρ3=>.l 3013010010131014002030142013 (.a fun a17=>.l 8014 (.s 13 (ZE a17 (.type "enumerate") none [(.bool false),(.ref (ρ0 1)),(.int 3 0),.none,(.ref (s3.1))] #[]) (.l 15310230104102301001023010000011099100100025001000250010002400100993001 (.k (ZX 52 w s3.sh s3.d s3.l s3.td s3.e A3 ep3 [.str (wd k) t] (.bool false)) [31,32,33] (hc3 _ sb _) fun ρ4=>.l 2501011104010101040025000110991018002430182017 (.k (Zc n t') [] (Z5 w b _ _ _ (by omega)) fun ρ5=>.t fun t21=>.l 146 (.k (XQ n (ρ5 0) t21) [] (Xa w b _ _ _ _) fun ρ6=>.k (Zl (n + 1) (ρ6 0)) [] (Yk w b _ _ _ (by omega)) fun ρ7=>.l 100992029000100992027102601010104102601000099 (.a fun a26=>.a fun a27=>.l 4002100400333004300210050032300530010003100190010099 (.a fun a29=>.l 4002 (.s 1 (ZE a29 (.type "zip") none [(.bool false),(.bool false),(.ref a26),(.ref a27)] #[]) (.l 1744010010000354010010010350104103501001035010000011099100100025001000250010002400100993001 (.m (Zq 73 w s1.sh s1.d s1.l s1.td s1.e A1 ep1 k t (n + 1) (ρ7 0) c1) [37,38,39] (h1.s _ sb _ _) fun ρ8=>.l 321003900380321036813690038036813690038036813690038003501010104 (.k (Zo w s1.sh s1.d s1.l s1.td s1.e (c1++[Pr.mk (ρ8 0) k t (n + 1) (ρ7 0)]:List Pr) (ρ8 1)) [37,38,39] (h1.k _ sb _ _ _ (.head _)) fun ρ9=>.k (Zs (ρ9 0) (names (c1++[Pr.mk (ρ8 0) k t (n + 1) (ρ7 0)]:List Pr)) (ρ9 1)) [0] (Zu w b _ _ _ _ (h1.z _ _)) fun ρ10=>.l 36 (.k (Z7 (Int.ofNat (List.length (names (c1++[Pr.mk (ρ8 0) k t (n + 1) (ρ7 0)])))) (ρ10 0) r1 u1 true) [] (YF w b _ _ _ _ _ _ (h1.l _ _)) fun ρ11=>.l 36 (.z [70] (rl [t9,ρ8 0,ρ7 0,0,0,ρ8 1,ep2,ep3,ep]))))))))))))))))))))))))))
theorem PL (w:World) (b:Bool) (RO:ZA) (sl es rm er:Nat) (r1 r2 r3:Int) (u1 u2 u3:Nat) (s1 s2 s3:Sk) (A1 A2 A3 c1:List Pr) (ep1 ep2 ep3 li ld lp:Nat) (x:Lk) (ln:Int) (lt:Nat) (vs:List Value) (ep k t:Nat) (hk:k < 12) (n t':Nat) (hn:n + 1 < 13) (hc1:Hc w b RO s1 A1 k t true) (hc2:Hc w b RO s2 A2 k t false) (hc3:Hc w b RO s3 A3 k t false) (hg:Hg w b RO s1 A1 k t n t') (h1:Lay w b RO s1 A1 c1 (fun z t'=>Pr.mk z k t (n + 1) t') r1 true):(Yh w sl es rm er r1 r2 r3 u1 u2 u3 s1 s2 s3 A1 A2 A3 ep1 ep2 ep3 li ld lp x ln lt vs ep k t 0 (fun (ρ:Nat→Nat)=>c1++[(Pr.mk (ρ 1) k t (n + 1) (ρ 2))]) (fun (ρ:Nat→Nat)=>A2) (fun (ρ:Nat→Nat)=>A3) vs (fun (ρ:Nat→Nat)=>[(Pr.mk (ρ 1) k t (n + 1) (ρ 2))])).ok (wf w b) RO 500:=
 cB (fd310 _) (S5 w b RO sl es rm er r1 r2 r3 u1 u2 u3 s1 s2 s3 A1 A2 A3 c1 ep1 ep2 ep3 li ld lp x ln lt vs ep k t hk n t' hn hc1 hc2 hc3 hg h1) (by cases b<;>kernel_rfl)
noncomputable def S6 (w:World) (b:Bool) (RO:ZA) (sl es rm er:Nat) (r1 r2 r3:Int) (u1 u2 u3:Nat) (s1 s2 s3:Sk) (A1 A2 A3 B2 y1:List Pr) (q1:Pr) (ep1 ep2 ep3 li ld lp:Nat) (x:Lk) (ln:Int) (lt:Nat) (vs:List Value) (ep k t:Nat) (hk:k < 12) (n t':Nat) (hn:n + 1 < 13) (hc1:Hc w b RO s1 A1 k t false) (hc2:Hc w b RO s2 A2 k t true) (hc3:Hc w b RO s3 A3 k t false) (hg:Hg w b RO s2 A2 k t n t') (hd:Hd w b RO s2 A2 k t B2) (h1:Ovr w b RO s1 A1 q1 y1 (fun z t'=>Pr.mk z k t (n + 1) t') r1) (h2:Lay w b RO s2 B2 B2 (fun z _=>Pr.mk z q1.k q1.t q1.n q1.t') r2 true):CE (wf w b) (cell q1::RO) []:=
 .l 501010104100501001005010000011099100100025001000250010002400100993001009921001001010010010100100101001001010000990410 (.k (Y6 sl [.ref s1.sh,.ref s2.sh,.ref s3.sh] es) [5] (XD w b _ _ _ _) fun ρ0=>.l 3001010010011002000830026001 (.a fun a5=>.l 8002 (.s 1 (ZE a5 (.type "enumerate") none [(.bool false),(.ref (ρ0 1)),(.int 1 0),.none,(.ref (s1.1))] #[]) (.l 15310110104101101001011010000011099100100025001000250010002400100993001 (.k (ZX 52 w s1.sh s1.d s1.l s1.td s1.e A1 ep1 [.str (wd k) t] (.bool false)) [13,14,15] (hc1 _ sc _) fun ρ1=>.l 10051006001230062005 (.t fun t12=>.l 3005 (.a fun a9=>.l 8006 (.s 5 (ZE a9 (.type "enumerate") none [(.bool false),(.ref (ρ0 1)),(.int 2 0),.none,(.ref (s2.1))] #[]) (.l 15310150104101501001015010000011099100100025001000250010002400100993001 (.k (ZX 52 w s2.sh s2.d s2.l s2.td s2.e A2 ep2 [.str (wd k) t] (.bool true)) [20,21,22] (hc2 _ sc _) fun ρ2=>.l 167101501040015 (.k (ZX 66 w s2.sh s2.d s2.l s2.td s2.e A2 ep2 [.str (wd k) t] (.str (dig n) t')) [20,21,22] (hg _ sc _) fun ρ3=>.l 1601019010401002019010010190100000110991001000250010002500100024001009930010099 (.k (Zh 59 w s2.sh s2.d s2.l s2.td s2.e A2 ep2 k t B2) [24,25,26] (hd _ sc _) fun ρ4=>.l 3013010010131014002030142013 (.a fun a17=>.l 8014 (.s 13 (ZE a17 (.type "enumerate") none [(.bool false),(.ref (ρ0 1)),(.int 3 0),.none,(.ref (s3.1))] #[]) (.l 15310230104102301001023010000011099100100025001000250010002400100993001 (.k (ZX 52 w s3.sh s3.d s3.l s3.td s3.e A3 ep3 [.str (wd k) t] (.bool false)) [31,32,33] (hc3 _ sc _) fun ρ5=>.l 2501011104010101040025000110991018002430182017 (.k (Zc n t') [] (Z5 w b _ _ _ (by omega)) fun ρ6=>.t fun t21=>.l 146 (.k (XQ n (ρ6 0) t21) [] (Xa w b _ _ _ _) fun ρ7=>.k (Zl (n + 1) (ρ7 0)) [] (Yk w b _ _ _ (by omega)) fun ρ8=>.l 100992029000100992027102601010104102601000099 (.a fun a26=>.a fun a27=>.l 4002100400333004300210050032300530010003100190010099 (.a fun a29=>.l 4002 (.s 1 (ZE a29 (.type "zip") none [(.bool false),(.bool false),(.ref a26),(.ref a27)] #[]) (.l 1744010010000354010010010350104103501001035010000011099100100025001000250010002400100993001 (.m (Zq 73 w s1.sh s1.d s1.l s1.td s1.e A1 ep1 k t (n + 1) (ρ8 0) (q1::y1)) [37,38,39] (h1.s _ sc _ _) fun ρ9=>.l 321003900380321036813690038036813690038036813690038003501010104 (.k (Zo w s1.sh s1.d s1.l s1.td s1.e (q1::y1++[Pr.mk (ρ9 0) k t (n + 1) (ρ8 0)]:List Pr) (ρ9 1)) [37,38,39] (h1.k _ sc _ _ _ (.head _)) fun ρ10=>.k (Zs (ρ10 0) (names (q1::y1++[Pr.mk (ρ9 0) k t (n + 1) (ρ8 0)]:List Pr)) (ρ10 1)) [0] (Zu w b _ _ _ _ (h1.z _ _)) fun ρ11=>.l 36 (.k (Z7 (Int.ofNat (List.length (names (q1::y1++[Pr.mk (ρ9 0) k t (n + 1) (ρ8 0)])))) (ρ11 0) r1 u1 false) [] (YF w b _ _ _ _ _ _ (h1.l _ _)) fun ρ12=>.l 3330040003903330368136900390368136900390368136900390036 (.k (Z4 w s1.sh s1.d s1.l s1.td s1.e (q1::y1++[Pr.mk (ρ9 0) k t (n + 1) (ρ8 0)]:List Pr) (ρ9 1)) [38,39,40] (h1.i _ sc _ _ _ (.head _)) fun ρ13=>.l 16044320100103701041037010040010100 (.k (Zh 59 w s1.sh s1.d s1.l s1.td s1.e (q1::y1++[Pr.mk (ρ9 0) k t (n + 1) (ρ8 0)]:List Pr) (ρ9 1) q1.k q1.t (List.tail (q1::y1++[Pr.mk (ρ9 0) k t (n + 1) (ρ8 0)]:List Pr))) [39,40,41] (h1.x _ sc _ _ _ (.head _)) fun ρ14=>.l 40081010003930103008101100383011300700093007 (.a fun a33=>.l 4008 (.s 7 (ZE a33 (.type "zip") none [(.bool false),(.bool false),(.ref a26),(.ref a27)] #[]) (.l 1744432010000414432010010410104104101001041010000011099100100025001000250010002400100993001 (.m (Zq 73 w s2.sh s2.d s2.l s2.td s2.e B2 (ρ4 0) q1.k q1.t q1.n q1.t' B2) [46,47,48] (h2.s _ sc _ 0) fun ρ15=>.l 321004800470321036813690047036813690047036813690047004101010104 (.k (Zo w s2.sh s2.d s2.l s2.td s2.e (B2++[Pr.mk (ρ15 0) (Pr.k q1) (Pr.t q1) (Pr.n q1) (Pr.t' q1)]:List Pr) (ρ15 1)) [46,47,48] (h2.k _ sc _ _ 0 (.head _)) fun ρ16=>.k (Zs (ρ16 0) (names (B2++[Pr.mk (ρ15 0) (Pr.k q1) (Pr.t q1) (Pr.n q1) (Pr.t' q1)]:List Pr)) (ρ16 1)) [0] (Zu w b _ _ _ _ (h2.z _ 0)) fun ρ17=>.l 42 (.k (Z7 (Int.ofNat (List.length (names (B2++[Pr.mk (ρ15 0) (Pr.k q1) (Pr.t q1) (Pr.n q1) (Pr.t' q1)])))) (ρ17 0) r2 u2 true) [] (YF w b _ _ _ _ _ _ (h2.l _ 0)) fun ρ18=>.l 42 (.z [82] (rl [t12,ρ9 0,ρ8 0,ρ15 0,0,ρ14 0,ρ15 1,ep3,ep])))))))))))))))))))))))))))))))))))
theorem PM (w:World) (b:Bool) (RO:ZA) (sl es rm er:Nat) (r1 r2 r3:Int) (u1 u2 u3:Nat) (s1 s2 s3:Sk) (A1 A2 A3 B2 y1:List Pr) (q1:Pr) (ep1 ep2 ep3 li ld lp:Nat) (x:Lk) (ln:Int) (lt:Nat) (vs:List Value) (ep k t:Nat) (hk:k < 12) (n t':Nat) (hn:n + 1 < 13) (hc1:Hc w b RO s1 A1 k t false) (hc2:Hc w b RO s2 A2 k t true) (hc3:Hc w b RO s3 A3 k t false) (hg:Hg w b RO s2 A2 k t n t') (hd:Hd w b RO s2 A2 k t B2) (h1:Ovr w b RO s1 A1 q1 y1 (fun z t'=>Pr.mk z k t (n + 1) t') r1) (h2:Lay w b RO s2 B2 B2 (fun z _=>Pr.mk z q1.k q1.t q1.n q1.t') r2 true):(Yh w sl es rm er r1 r2 r3 u1 u2 u3 s1 s2 s3 A1 A2 A3 ep1 ep2 ep3 li ld lp x ln lt vs ep k t 1 (fun (ρ:Nat→Nat)=>y1++[(Pr.mk (ρ 1) k t (n + 1) (ρ 2))]) (fun (ρ:Nat→Nat)=>B2++[(Pr.mk (ρ 3) q1.k q1.t q1.n q1.t')]) (fun (ρ:Nat→Nat)=>A3) vs (fun (ρ:Nat→Nat)=>[(Pr.mk (ρ 3) q1.k q1.t q1.n q1.t'),(Pr.mk (ρ 1) k t (n + 1) (ρ 2))])).ok (wf w b) (cell q1::RO) 500:=
 cB (fd310 _) (S6 w b RO sl es rm er r1 r2 r3 u1 u2 u3 s1 s2 s3 A1 A2 A3 B2 y1 q1 ep1 ep2 ep3 li ld lp x ln lt vs ep k t hk n t' hn hc1 hc2 hc3 hg hd h1 h2) (by cases b<;>kernel_rfl)
noncomputable def S7 (w:World) (b:Bool) (RO:ZA) (sl es rm er:Nat) (r1 r2 r3:Int) (u1 u2 u3:Nat) (s1 s2 s3:Sk) (A1 A2 A3 B3 y1 y2:List Pr) (q1 q2:Pr) (ep1 ep2 ep3 li ld lp:Nat) (x:Lk) (ln:Int) (lt:Nat) (vs:List Value) (ep k t:Nat) (hk:k < 12) (n t':Nat) (hn:n + 1 < 13) (hc1:Hc w b RO s1 A1 k t false) (hc2:Hc w b RO s2 A2 k t false) (hc3:Hc w b RO s3 A3 k t true) (hg:Hg w b RO s3 A3 k t n t') (hd:Hd w b RO s3 A3 k t B3) (h1:Ovr w b RO s1 A1 q1 y1 (fun z t'=>Pr.mk z k t (n + 1) t') r1) (h2:Ovr w b RO s2 A2 q2 y2 (fun z _=>Pr.mk z q1.k q1.t q1.n q1.t') r2) (h3:Lay w b RO s3 B3 B3 (fun z _=>Pr.mk z q2.k q2.t q2.n q2.t') r3 true):CE (wf w b) (cell q1::cell q2::RO) []:=
 .l 501010104100501001005010000011099100100025001000250010002400100993001009921001001010010010100100101001001010000990410 (.k (Y6 sl [.ref s1.sh,.ref s2.sh,.ref s3.sh] es) [5] (XD w b _ _ _ _) fun ρ0=>.l 3001010010011002000830026001 (.a fun a5=>.l 8002 (.s 1 (ZE a5 (.type "enumerate") none [(.bool false),(.ref (ρ0 1)),(.int 1 0),.none,(.ref (s1.1))] #[]) (.l 15310110104101101001011010000011099100100025001000250010002400100993001 (.k (ZX 52 w s1.sh s1.d s1.l s1.td s1.e A1 ep1 [.str (wd k) t] (.bool false)) [13,14,15] (hc1 _ sd _) fun ρ1=>.l 3005010010051006001230062005 (.a fun a9=>.l 8006 (.s 5 (ZE a9 (.type "enumerate") none [(.bool false),(.ref (ρ0 1)),(.int 2 0),.none,(.ref (s2.1))] #[]) (.l 15310150104101501001015010000011099100100025001000250010002400100993001 (.k (ZX 52 w s2.sh s2.d s2.l s2.td s2.e A2 ep2 [.str (wd k) t] (.bool false)) [20,21,22] (hc2 _ sd _) fun ρ2=>.l 10091010001630102009 (.t fun t15=>.l 3009 (.a fun a13=>.l 8010 (.s 9 (ZE a13 (.type "enumerate") none [(.bool false),(.ref (ρ0 1)),(.int 3 0),.none,(.ref (s3.1))] #[]) (.l 15310190104101901001019010000011099100100025001000250010002400100993001 (.k (ZX 52 w s3.sh s3.d s3.l s3.td s3.e A3 ep3 [.str (wd k) t] (.bool true)) [27,28,29] (hc3 _ sd _) fun ρ3=>.l 167101901040019 (.k (ZX 66 w s3.sh s3.d s3.l s3.td s3.e A3 ep3 [.str (wd k) t] (.str (dig n) t')) [27,28,29] (hg _ sd _) fun ρ4=>.l 1601023010401002023010010230100000110991001000250010002500100024001009930010099 (.k (Zh 59 w s3.sh s3.d s3.l s3.td s3.e A3 ep3 k t B3) [31,32,33] (hd _ sd _) fun ρ5=>.l 2501011104010101040025000110991018002430182017 (.k (Zc n t') [] (Z5 w b _ _ _ (by omega)) fun ρ6=>.t fun t21=>.l 146 (.k (XQ n (ρ6 0) t21) [] (Xa w b _ _ _ _) fun ρ7=>.k (Zl (n + 1) (ρ7 0)) [] (Yk w b _ _ _ (by omega)) fun ρ8=>.l 100992029000100992027102601010104102601000099 (.a fun a26=>.a fun a27=>.l 4002100400333004300210050032300530010003100190010099 (.a fun a29=>.l 4002 (.s 1 (ZE a29 (.type "zip") none [(.bool false),(.bool false),(.ref a26),(.ref a27)] #[]) (.l 1744010010000354010010010350104103501001035010000011099100100025001000250010002400100993001 (.m (Zq 73 w s1.sh s1.d s1.l s1.td s1.e A1 ep1 k t (n + 1) (ρ8 0) (q1::y1)) [37,38,39] (h1.s _ sd _ _) fun ρ9=>.l 321003900380321036813690038036813690038036813690038003501010104 (.k (Zo w s1.sh s1.d s1.l s1.td s1.e (q1::y1++[Pr.mk (ρ9 0) k t (n + 1) (ρ8 0)]:List Pr) (ρ9 1)) [37,38,39] (h1.k _ sd _ _ _ (.head _)) fun ρ10=>.k (Zs (ρ10 0) (names (q1::y1++[Pr.mk (ρ9 0) k t (n + 1) (ρ8 0)]:List Pr)) (ρ10 1)) [0] (Zu w b _ _ _ _ (h1.z _ _)) fun ρ11=>.l 36 (.k (Z7 (Int.ofNat (List.length (names (q1::y1++[Pr.mk (ρ9 0) k t (n + 1) (ρ8 0)])))) (ρ11 0) r1 u1 false) [] (YF w b _ _ _ _ _ _ (h1.l _ _)) fun ρ12=>.l 3330040003903330368136900390368136900390368136900390036 (.k (Z4 w s1.sh s1.d s1.l s1.td s1.e (q1::y1++[Pr.mk (ρ9 0) k t (n + 1) (ρ8 0)]:List Pr) (ρ9 1)) [38,39,40] (h1.i _ sd _ _ _ (.head _)) fun ρ13=>.l 16044320100103701041037010040010100 (.k (Zh 59 w s1.sh s1.d s1.l s1.td s1.e (q1::y1++[Pr.mk (ρ9 0) k t (n + 1) (ρ8 0)]:List Pr) (ρ9 1) q1.k q1.t (List.tail (q1::y1++[Pr.mk (ρ9 0) k t (n + 1) (ρ8 0)]:List Pr))) [39,40,41] (h1.x _ sd _ _ _ (.head _)) fun ρ14=>.l 40081010003930103008101100383011300700093007 (.a fun a33=>.l 4008 (.s 7 (ZE a33 (.type "zip") none [(.bool false),(.bool false),(.ref a26),(.ref a27)] #[]) (.l 1744432010000414432010010410104104101001041010000011099100100025001000250010002400100993001 (.m (Zq 73 w s2.sh s2.d s2.l s2.td s2.e A2 ep2 q1.k q1.t q1.n q1.t' (q2::y2)) [46,47,48] (h2.s _ sd _ 0) fun ρ15=>.l 321004800470321036813690047036813690047036813690047004101010104 (.k (Zo w s2.sh s2.d s2.l s2.td s2.e (q2::y2++[Pr.mk (ρ15 0) (Pr.k q1) (Pr.t q1) (Pr.n q1) (Pr.t' q1)]:List Pr) (ρ15 1)) [46,47,48] (h2.k _ sd _ _ 0 (.head _)) fun ρ16=>.k (Zs (ρ16 0) (names (q2::y2++[Pr.mk (ρ15 0) (Pr.k q1) (Pr.t q1) (Pr.n q1) (Pr.t' q1)]:List Pr)) (ρ16 1)) [0] (Zu w b _ _ _ _ (h2.z _ 0)) fun ρ17=>.l 42 (.k (Z7 (Int.ofNat (List.length (names (q2::y2++[Pr.mk (ρ15 0) (Pr.k q1) (Pr.t q1) (Pr.n q1) (Pr.t' q1)])))) (ρ17 0) r2 u2 false) [] (YF w b _ _ _ _ _ _ (h2.l _ 0)) fun ρ18=>.l 3330049004803330368136900480368136900480368136900480042 (.k (Z4 w s2.sh s2.d s2.l s2.td s2.e (q2::y2++[Pr.mk (ρ15 0) (Pr.k q1) (Pr.t q1) (Pr.n q1) (Pr.t' q1)]:List Pr) (ρ15 1)) [47,48,49] (h2.i _ sd _ _ 0 (.head _)) fun ρ19=>.l 16044340100104301041043010040010100 (.k (Zh 59 w s2.sh s2.d s2.l s2.td s2.e (q2::y2++[Pr.mk (ρ15 0) (Pr.k q1) (Pr.t q1) (Pr.n q1) (Pr.t' q1)]:List Pr) (ρ15 1) q2.k q2.t (List.tail (q2::y2++[Pr.mk (ρ15 0) (Pr.k q1) (Pr.t q1) (Pr.n q1) (Pr.t' q1)]:List Pr))) [48,49,50] (h2.x _ sd _ _ 0 (.head _)) fun ρ20=>.l 40141016004530163014101700443017301300153013 (.a fun a37=>.l 4014 (.s 13 (ZE a37 (.type "zip") none [(.bool false),(.bool false),(.ref a26),(.ref a27)] #[]) (.l 1744434010000474434010010470104104701001047010000011099100100025001000250010002400100993001 (.m (Zq 73 w s3.sh s3.d s3.l s3.td s3.e B3 (ρ5 0) q2.k q2.t q2.n q2.t' B3) [55,56,57] (h3.s _ sd _ 0) fun ρ21=>.l 321005700560321036813690056036813690056036813690056004701010104 (.k (Zo w s3.sh s3.d s3.l s3.td s3.e (B3++[Pr.mk (ρ21 0) (Pr.k q2) (Pr.t q2) (Pr.n q2) (Pr.t' q2)]:List Pr) (ρ21 1)) [55,56,57] (h3.k _ sd _ _ 0 (.head _)) fun ρ22=>.k (Zs (ρ22 0) (names (B3++[Pr.mk (ρ21 0) (Pr.k q2) (Pr.t q2) (Pr.n q2) (Pr.t' q2)]:List Pr)) (ρ22 1)) [0] (Zu w b _ _ _ _ (h3.z _ 0)) fun ρ23=>.l 48 (.k (Z7 (Int.ofNat (List.length (names (B3++[Pr.mk (ρ21 0) (Pr.k q2) (Pr.t q2) (Pr.n q2) (Pr.t' q2)])))) (ρ23 0) r3 u3 true) [] (YF w b _ _ _ _ _ _ (h3.l _ 0)) fun ρ24=>.l 48 (.z [94] (rl [t15,ρ9 0,ρ8 0,ρ15 0,ρ21 0,ρ14 0,ρ20 0,ρ21 1,ep])))))))))))))))))))))))))))))))))))))))))))
theorem PN (w:World) (b:Bool) (RO:ZA) (sl es rm er:Nat) (r1 r2 r3:Int) (u1 u2 u3:Nat) (s1 s2 s3:Sk) (A1 A2 A3 B3 y1 y2:List Pr) (q1 q2:Pr) (ep1 ep2 ep3 li ld lp:Nat) (x:Lk) (ln:Int) (lt:Nat) (vs:List Value) (ep k t:Nat) (hk:k < 12) (n t':Nat) (hn:n + 1 < 13) (hc1:Hc w b RO s1 A1 k t false) (hc2:Hc w b RO s2 A2 k t false) (hc3:Hc w b RO s3 A3 k t true) (hg:Hg w b RO s3 A3 k t n t') (hd:Hd w b RO s3 A3 k t B3) (h1:Ovr w b RO s1 A1 q1 y1 (fun z t'=>Pr.mk z k t (n + 1) t') r1) (h2:Ovr w b RO s2 A2 q2 y2 (fun z _=>Pr.mk z q1.k q1.t q1.n q1.t') r2) (h3:Lay w b RO s3 B3 B3 (fun z _=>Pr.mk z q2.k q2.t q2.n q2.t') r3 true):(Yh w sl es rm er r1 r2 r3 u1 u2 u3 s1 s2 s3 A1 A2 A3 ep1 ep2 ep3 li ld lp x ln lt vs ep k t 2 (fun (ρ:Nat→Nat)=>y1++[(Pr.mk (ρ 1) k t (n + 1) (ρ 2))]) (fun (ρ:Nat→Nat)=>y2++[(Pr.mk (ρ 3) q1.k q1.t q1.n q1.t')]) (fun (ρ:Nat→Nat)=>B3++[(Pr.mk (ρ 4) q2.k q2.t q2.n q2.t')]) vs (fun (ρ:Nat→Nat)=>[(Pr.mk (ρ 4) q2.k q2.t q2.n q2.t'),(Pr.mk (ρ 3) q1.k q1.t q1.n q1.t'),(Pr.mk (ρ 1) k t (n + 1) (ρ 2))])).ok (wf w b) (cell q1::cell q2::RO) 500:=
 cB (fd310 _) (S7 w b RO sl es rm er r1 r2 r3 u1 u2 u3 s1 s2 s3 A1 A2 A3 B3 y1 y2 q1 q2 ep1 ep2 ep3 li ld lp x ln lt vs ep k t hk n t' hn hc1 hc2 hc3 hg hd h1 h2 h3) (by cases b<;>kernel_rfl)
end
section
open PySem PySem.W PySem.W.X PySem.Calls PyProof.Rows PySem.Spec
noncomputable def Tv (P:Params) (z:Nat→Nat):FuncData:=match (fdB P 279).body with
 | .stmts (_::_ :: .FunctionDef nm ps body _ _ _ sc _ _ _::_)=>{ name:=nm,qualname:=⟨#[95,108,97,119,95,108,101,120,101,114,46,60,108,111,99,97,108,115,62,46,95,108,97,119,95,112,105,101,99,101]⟩,params:=ps,body:=.stmts body,scope:=sc,globals:=3,closure:=[(⟨#[116,101,120,116]⟩,z 5),(⟨#[103,111,110,101]⟩,z 6)],defaults:=.none,kwdefaults:=.none,doc:=.none,pyModule:=.str ⟨#[108,97,119,95,116,112,48,48,52,50,95,48,49]⟩ 667,annotations:=none,code:=.ref (z 3),closureTuple:=.ref (z 4),builtins:=0 }
 | _=>default
noncomputable def GR:Str:=⟨#[47,99,108,97,105,109,47,99,117,116,46,112,121]⟩
noncomputable def FU (z:Nat→Nat):Obj:=⟨.type "code",none,.fields #[.str ⟨#[95,108,97,119,95,112,105,101,99,101]⟩ (z 13),.str ⟨#[95,108,97,119,95,108,101,120,101,114,46,60,108,111,99,97,108,115,62,46,95,108,97,119,95,112,105,101,99,101]⟩ (z 14),.str GR (z 15),.int 162 0,.int 1 0,.int 0 0,.int 0 0,.int 19 0,.ref (z 8),.bool true,.int 276 0,.ref (z 9),.none,.ref (z 10),.ref (z 11),.ref (z 12),.int (Int.ofNat (z 16)) 0,.int 162 0,.str GR (z 17)],#[]⟩
noncomputable def ZL (w:World) (T:Str) (t:Nat) (z:Nat→Nat):ZA:=
 [(z 2,⟨.type "function",none,.func (Tv w.params z),#[]⟩),(z 3,FU z),(z 0,Ri 118 (z 1)),
 (z 1,⟨.type "dict",none,.dict #[ent w OW (z 18) (.int 1 (z 19)),ent w Sf (z 20) .none,ent w LP (z 21) (.str ⟨#[10,9,13,32]⟩ (z 22)),ent w Il (z 23) (.ref (z 25)),ent w FT (z 24) (.ref (z 2))] 5,#[]⟩),
 (z 6,⟨.type "cell",none,.cell (some (.ref (z 7))),#[]⟩),(z 5,⟨.type "cell",none,.cell (some (.str T t)),#[]⟩)]
noncomputable def Ua (z:Nat→Nat):Lk:=⟨z 34,z 35,z 36,z 37,⟨#[10,9,13,32,61]⟩,z 38,z 0,4⟩
noncomputable def sli (n:Nat) (u1 u2:Nat):Obj:=⟨.type "slice",none,.fields #[.int (Int.ofNat n) u1,.int (Int.ofNat n + 1) u2,.none],#[]⟩
noncomputable def Vb (T:Str) (n:Nat):Str:=⟨(T.cps.toList.drop n).take 1 |>.toArray⟩
noncomputable def Ub (T:Str) (t sl n u1 u2:Nat):Con:={ code:=.builtin "str.__getitem__" ⟨[.str T t,.ref sl],[]⟩,mem:=[(sl,sli n u1 u2)],r:=fun ρ=>.ok (.ret (.str (Vb T n) (ρ 0))),upd:=fun _=>[sli n u1 u2],new:=fun _=>[] }
noncomputable def OY (T:Str) (t sl n u1 u2:Nat):Con:={ Ub T t sl n u1 u2 with code:=.call (.builtin "str.__getitem__") ⟨[.str T t,.ref sl],[]⟩ }
theorem S8 (l:List Nat) (i:Nat) (h:i < l.length):[i].filterMap (fun j=>(⟨l⟩:Array Nat)[j]?)=(l.drop i).take 1:=by
 have:(⟨l⟩:Array Nat)[i]?=some l[i]:=by simp [h]
 rw [List.filterMap_cons,this]
 simp only [List.filterMap_nil]
 rw [List.drop_eq_getElem_cons h]
 rfl
theorem LQ (T:Str) (n u1 u2:Nat) (hn:n≤T.length):(slicePicked T (some (Int.ofNat n,u1)) (some (Int.ofNat n + 1,u2)) none)=if n < T.length then [n] else []:=by
 unfold slicePicked PySem.Builtin.Str.strSliceIndices sliceRange
 simp only [Option.map_some,Option.map_none,Option.getD_none,Int.ofNat_eq_natCast]
 have h0:¬ ((n:Int) < 0):=by omega
 have h1:¬ ((n:Int) + 1 < 0):=by omega
 simp only [h0,h1,if_false,show (1:Int) > 0 from by decide,if_true]
 by_cases h:n < T.length
 ·rw [if_pos h]
  have e1:max (0:Int) (min (n:Int) (T.length:Int))=n:=by omega
  have e2:max (0:Int) (min ((n:Int) + 1) (T.length:Int))=n + 1:=by omega
  rw [e1,e2]
  rw [if_pos (by omega)]
  have:((n:Int) + 1 - n + 1 - 1) / 1=1:=by omega
  rw [this]
  simp
 ·rw [if_neg h]
  have:n=T.length:=by omega
  subst this
  have e1:max (0:Int) (min (T.length:Int) (T.length:Int))=T.length:=by omega
  have e2:max (0:Int) (min ((T.length:Int) + 1) (T.length:Int))=T.length:=by omega
  rw [e1,e2]
  rw [if_neg (by omega)]
  rfl
theorem LR (T:Str) (t n u1 u2:Nat) (hn:n≤T.length) (h2:1 < T.length):sliceMade T t (some (Int.ofNat n,u1)) (some (Int.ofNat n + 1,u2)) none = .str (Vb T n):=by
 unfold sliceMade
 rw [LQ T n u1 u2 hn]
 have hl:((if n < T.length then [n] else []:List Nat).length == T.length)=false:=by
  by_cases h:n < T.length
  ·rw [if_pos h]; simp; omega
  ·rw [if_neg h]; simp; omega
 rw [hl,Bool.and_false]
 simp only [Bool.false_eq_true,if_false]
 congr 1
 unfold Vb
 cases T with
 | mk c=>
 cases c with
 | mk l=>
 have hlen:(⟨⟨l⟩⟩:Str).length=l.length:=rfl
 rw [hlen] at hn ⊢
 by_cases h:n < l.length
 ·rw [if_pos h,S8 l n h]
 ·rw [if_neg h]
  have:n=l.length:=by omega
  subst this
  simp
theorem JU (w:World) (b:Bool) (RO:ZA) (T:Str) (t sl n u1 u2:Nat) (hn:n≤T.length) (h2:1 < T.length):(Ub T t sl n u1 u2).ok (wf w b) RO 975:=by
 refine ZD.of_meets rfl entry_str_getitem (meets_str_getitem_slice T t sl (some (Int.ofNat n,u1)) (some (Int.ofNat n + 1,u2)) none rfl) ?_
 intro h g d tk os R ht hM hR
 refine ⟨⟨_,hM.at_ _ (.head _),rfl,rfl⟩,?_⟩
 rw [LR T t n u1 u2 hn h2]
 refine ⟨?_,hR _ _ _ _ _ (Nat.succ_pos _) ⟨rl [tk],rfl,rfl,rfl⟩ hM (Ext.refl _ h) (fun x=>x)⟩
 show (Vb T n).cps.size≤_
 unfold Vb
 rw [List.size_toArray]
 have:((T.cps.toList.drop n).take 1).length≤1:=List.length_take_le ..
 rw [sizeLine_eq]
 omega
theorem ZD.sub {w:World} {RO:ZA} {D:Nat} {c:Code} {M:ZA} {K K':Result→ZA→Prop} (x:ZD w RO D c M K) (h:∀ r M',K r M'→∃ idx M'',Xw idx=true∧Z9 M' idx=some M''∧K' r M''):ZD w RO D c M K':=by
 intro hp g d t os R ht hM hR
 refine x hp g d t os R ht hM fun r M' h' g' t' ht' k hM' hE' hB'=>?_
 obtain ⟨idx,M'',hd,hs,k'⟩:=h r M' k
 have z:=hM'.sub (ro:=[]) hd rfl hs rfl
 exact hR r M'' h' g' t' ht' k' z ⟨hE'.keep,fun p hp=>hE'.fresh p (Xx hs p hp),hE'.size⟩ hB'
noncomputable def chs:List Nat:=[10,32,34,35,61,65,66,67,68,69,70,71,72,92,97,98,99,100,101,102,103,104,119]
noncomputable def VA (c t:Nat) (i:Int):Obj:=⟨.type "str_ascii_iterator",none,.fields #[.str ⟨#[c]⟩ t,.int i 0],#[]⟩
noncomputable def Zm (c t:Nat):Con:={ code:=.builtin "str.__iter__" ⟨[.str ⟨#[c]⟩ t],[]⟩,mem:=[],r:=fun ρ=>.ok (.ret (.ref (ρ 0))),upd:=fun _=>[],new:=fun ρ=>[(ρ 0,VA c t 0)] }
noncomputable def Sg (c t:Nat):Con:={ Zm c t with code:=.call (.builtin "str.__iter__") ⟨[.str ⟨#[c]⟩ t],[]⟩ }
noncomputable def Zd (w:World) (RO:ZA) (D:Nat) (T:Sem PySem.Fin) (M:ZA) (K:Result→ZA→Prop):Prop:=
 ∀ (c:Code),Zg c→∀ (h:Heap) (g:Array GenState) (d:Drawn) (t:Nat) (os:OsState) (R:Result→Shared→Prop),0 < t→Holds w.params RO M h→
  (∀ r M' h' g' t',0 < t'→K r M'→Holds w.params RO M' h'→Ext M h M' h'→(AllBare g→AllBare g')→R r ⟨h',g',d,t',os⟩)→X7 w D R c [] T ⟨h,g,d,t,os⟩
theorem Zd.of {w:World} {RO:ZA} {D:Nat} {T:Sem PySem.Fin} {M:ZA} {C:Con} (ce:CE w RO []) (e:∀ c,Xg w RO D C.post 99999 ce.o (.m c [] T) .none [] M=ce.q (pG C) 0 (adr M [])) (h:∀ ρ,(C.upd ρ).length=C.mem.length:=by exact fun _=>rfl):Zd w RO D T M C.post:=
 fun c hc _ _ _ _ _ _ ht hM HR=>(RunsTo.of ce (e c) h).out hc ht hM HR
theorem Zd.ofK {w:World} {RO:ZA} {D:Nat} {T:Sem PySem.Fin} {M:ZA} {K:Result→ZA→Prop} (ce:CE w RO []) (e:∀ c,Xg w RO D K 99999 ce.o (.m c [] T) .none [] M=ce.q tG 0 (adr M [])):Zd w RO D T M K:=
 fun c hc _ _ _ _ _ _ ht hM HR=>(RunsTo.ofK ce (e c)).out hc ht hM HR
noncomputable def MH (o:Option Value):PySem.Fin:=.done (match o with | some x=>.ret x | none=>.next)
noncomputable def Vc (v:Value):Sem PySem.Fin:=R.bindR (PySem.W.Fast.tw9404975358583537561 v) fun o=>.pure (MH o)
theorem JV (v:Value):Vc v=pyNext v >>= fun o=>.pure (MH o):=by
 unfold Vc
 rw [← R.bindR_eq,← PySem.W.Fast.te9404975358583537561]
 rfl
noncomputable def MI (it c t:Nat):Con:={ code:=.call (.builtin "next") ⟨[.ref it],[]⟩,mem:=[(it,VA c t 0)],r:=fun ρ=>.ok (.ret (.str ⟨#[c]⟩ (ρ 0))),upd:=fun _=>[VA c t 1],new:=fun _=>[] }
noncomputable def LT (it c t:Nat):Con:={ code:=.call (.builtin "next") ⟨[.ref it],[]⟩,mem:=[(it,VA c t 1)],r:=fun _=>.ok .next,upd:=fun _=>[⟨.type "str_ascii_iterator",none,.fields #[.none,.int 1 0],#[]⟩],new:=fun _=>[] }
noncomputable def Uc (T:Str) (t sl n u1 u2:Nat) (s:Str):Con:={ OY T t sl n u1 u2 with r:=fun ρ=>.ok (.ret (.str s (ρ 0))) }
end
section
open PySem PySem.W
theorem FV (w:World) (b:Bool) (RO:ZA) (it c t:Nat):Zd (wf w b) RO 980 (Vc (.ref it)) (MI it c t).mem (MI it c t).post:=
 Zd.of (.l 5001 (.t fun t0=>.z [] (rl [t0]))) (fun _=>(by kernel_rfl))
theorem FW (w:World) (b:Bool) (RO:ZA) (it c t:Nat):Zd (wf w b) RO 980 (Vc (.ref it)) (LT it c t).mem (LT it c t).post:=
 Zd.of (.l 110995001 (.z [2] (fun _=>0))) (fun _=>(by kernel_rfl))
end
section
open PySem PySem.W PySem.W.X PySem.Calls PyProof.Rows PySem.Spec PySem PySem.W
noncomputable def Im (Q:Option Value→Shared→Prop) (r:Result) (s:Shared):Prop:=match r with
 | .ok (.ret v)=>Q (some v) s
 | .ok .next=>Q none s
 | _=>False
theorem Zd.next {w:World} {RO:ZA} {D D':Nat} {v:Value} {M:ZA} {K:Result→ZA→Prop} (T:Zd w RO D (Vc v) M K) (hD:D'≤D) {c:Code} (hc:Zg c) {h:Heap} {g:Array GenState} {d:Drawn} {t:Nat} {os:OsState} (ht:0 < t) (hM:Holds w.params RO M h) {Q:Option Value→Shared→Prop} {E:Value→Shared→Prop}
  (hQ:∀ r M' h' g' t',0 < t'→K r M'→Holds w.params RO M' h'→Ext M h M' h'→(AllBare g→AllBare g')→Im Q r ⟨h',g',d,t',os⟩):wpOwn (model PP w) (Z2 D') c (pyNext v) Q E ⟨h,g,d,t,os⟩:=by
 have x:=T c hc h g d t os (Im Q) ht hM hQ
 unfold X7 at x
 rw [JV] at x
 intro Γ p hΓc hΓ
 have z:=x Γ p hΓc (Xy (Yy hD) hΓ)
 change Sem.wp _ Γ (Sem.bind (pyNext v) fun o=>Sem.pure (MH o)) _ _ _ _ at z
 rw [Sem.wp_bind] at z
 refine Sem.wp_mono _ Γ _ (fun o p' s' y=>?_) (fun e p' s' y=>?_) p _ z
 ·cases o with
  | none=>exact y.1
  | some x=>exact y.1
 ·exact (show False from y).elim
noncomputable def LU:Obj:=⟨.type "str_ascii_iterator",none,.fields #[.none,.int 1 0],#[]⟩
noncomputable abbrev X1 (l it:Nat):Code:=.builtin "list.extend.loop" ⟨[.ref l,.ref it,.none],[]⟩
noncomputable def Wr (l it:Nat) (gs:List Value) (ep c t:Nat):Con:={ code:=X1 l it,mem:=[(l,ZB gs ep),(it,VA c t 0)],r:=fun _=>.ok (.ret .none),upd:=fun ρ=>[ZB (gs++[.str ⟨#[c]⟩ (ρ 0)]) (ρ 1),LU],new:=fun _=>[] }
noncomputable def VM (l it:Nat) (gs:List Value) (ep c t:Nat):Con:={ Wr l it gs ep c t with mem:=[(l,ZB gs ep),(it,VA c t 1)],upd:=fun _=>[ZB gs ep,LU] }
theorem OZ (l it:Nat):denote table (X1 l it)=(pyNext (.ref it) >>= fun o=>match o with
 | none=>ret .none
 | some x=>Builtin.List.listUpdate (.ref l) (·.push x) >>= fun _=>again (X1 l it)):=by
 rw [Xn F.entry_extend_loop]
 show (pyNext (.ref it) >>= fun o=>_)=_
 congr 1
theorem I9 (w:World) (b:Bool) (RO:ZA) (l it:Nat) (gs:List Value) (ep c t:Nat):(VM l it gs ep c t).ok (wf w b) RO 970:=by
 intro h g d tk os R ht hM hR
 refine y_code _ _ _ _ _ _ ?_
 show wpOwn _ _ (X1 l it) (denote table (X1 l it)) _ _ _
 rw [OZ]
 have hs:Z9 (VM l it gs ep c t).mem [1]=some [(it,VA c t 1)]:=rfl
 refine wpOwn_bind (Zd.next (FW w b RO it c t) (by decide) (X0 (by decide +kernel)) ht (hM.sub (ro:=[]) rfl rfl hs rfl) fun r M' h' g' t' ht' k hM' hE' hB'=>?_)
 obtain ⟨ρ,rfl,rfl,hl⟩:=k
 have e1:=hM.called (ro₁:=[]) (NR:=[]) (N:=[]) hs hl hM' hE'
 have e2:=(Ext.refl _ h).called (NR:=[]) (N:=[]) hs hl hM' hE'
 show wpOwn _ _ _ (ret .none) _ _ _
 exact y_pure _ _ _ _ _ _ _ _ _ (hR _ _ _ _ _ ht' ⟨ρ,rfl,rfl,rfl⟩ e1 e2 hB')
theorem HA (w:World) (b:Bool) (RO:ZA) (l it:Nat) (gs:List Value) (ep c t:Nat) (hz:gs.length≤1000):(Wr l it gs ep c t).ok (wf w b) RO 970:=by
 intro h g d tk os R ht hM hR
 refine y_code _ _ _ _ _ _ ?_
 show wpOwn _ _ (X1 l it) (denote table (X1 l it)) _ _ _
 rw [OZ]
 have hs:Z9 (Wr l it gs ep c t).mem [1]=some [(it,VA c t 0)]:=rfl
 refine wpOwn_bind (Zd.next (FV w b RO it c t) (by decide) (X0 (by decide +kernel)) ht (hM.sub (ro:=[]) rfl rfl hs rfl) fun r M' h' g' t' ht' k hM' hE' hB'=>?_)
 obtain ⟨ρ,rfl,rfl,hl⟩:=k
 have e1:=hM.called (ro₁:=[]) (NR:=[]) (N:=[]) hs hl hM' hE'
 have e2:=(Ext.refl _ h).called (NR:=[]) (N:=[]) hs hl hM' hE'
 show wpOwn _ _ _ (updateSeq l (·.push (.str ⟨#[c]⟩ (ρ 0))) >>= fun _=>again (X1 l it)) _ _ _
 have ho:h'.get? l=some (ZB gs ep):=e1.at_ (l,ZB gs ep) (.head _)
 have hsz:(⟨gs⟩:Array Value).size≤sizeLine:=Nat.le_trans hz (by rw [sizeLine_eq]; decide)
 refine wpOwn_bind (wpOwn_of_wpAny (wpAny_updateSeq (xs:=⟨gs⟩) (n:=ep) ho rfl ?_ hsz (by rw [Array.size_push]; omega)))
 have f1:(Obj.mapSeq (fun y=>y.push (.str ⟨#[c]⟩ (ρ 0))) (ZB gs ep)).isFreed=false:=rfl
 have h1:=e1.update (i:=0) (f:=Obj.mapSeq fun y=>y.push (.str ⟨#[c]⟩ (ρ 0))) rfl f1
 have x1:=e2.update e1 (i:=0) (f:=Obj.mapSeq fun y=>y.push (.str ⟨#[c]⟩ (ρ 0))) rfl
 refine y_pure _ _ _ _ _ _ _ _ _ (y_again _ _ _ _ _ _ (plainId_quiet F.plain_extend_loop _) ?_)
 have e:((⟨gs⟩:Array Value).push (.str ⟨#[c]⟩ (ρ 0))).toList=gs++[.str ⟨#[c]⟩ (ρ 0)]:=by simp
 have em:Xk (Yb (Wr l it gs ep c t).mem [1] ((MI it c t).upd ρ)) 0 (Obj.mapSeq (fun y=>y.push (.str ⟨#[c]⟩ (ρ 0))) (ZB gs ep))=(VM l it (gs++[.str ⟨#[c]⟩ (ρ 0)]) (if ((⟨gs⟩:Array Value).push (.str ⟨#[c]⟩ (ρ 0))).size == (⟨gs⟩:Array Value).size then ep else ep + 1) c t).mem:=by
  rw [WW,e]
  rfl
 have h1':Holds (wf w b).params RO (VM l it (gs++[.str ⟨#[c]⟩ (ρ 0)]) (if ((⟨gs⟩:Array Value).push (.str ⟨#[c]⟩ (ρ 0))).size == (⟨gs⟩:Array Value).size then ep else ep + 1) c t).mem (h'.update l (Obj.mapSeq fun y=>y.push (.str ⟨#[c]⟩ (ρ 0)))):=em▸h1
 have x1':Ext (Wr l it gs ep c t).mem h (VM l it (gs++[.str ⟨#[c]⟩ (ρ 0)]) (if ((⟨gs⟩:Array Value).push (.str ⟨#[c]⟩ (ρ 0))).size == (⟨gs⟩:Array Value).size then ep else ep + 1) c t).mem (h'.update l (Obj.mapSeq fun y=>y.push (.str ⟨#[c]⟩ (ρ 0)))):=em▸x1
 refine I9 w b RO l it (gs++[.str ⟨#[c]⟩ (ρ 0)]) _ c t _ _ _ _ _ _ ht' h1' fun r M'' h'' g'' t'' ht'' k'' hM'' hE'' hB''=>?_
 obtain ⟨ρ',rfl,rfl,hl'⟩:=k''
 refine hR _ _ _ _ _ ht'' ⟨rl [ρ 0,(if ((⟨gs⟩:Array Value).push (.str ⟨#[c]⟩ (ρ 0))).size == (⟨gs⟩:Array Value).size then ep else ep + 1)],rfl,rfl,rfl⟩ hM'' ?_ fun x=>hB'' (hB' x)
 exact ⟨fun a o ea na=>hE''.keep a o (x1'.keep a o ea na) na,fun p hp=>by
  rcases hE''.fresh p hp with y | y
  ·exact .inl y
  ·exact .inr (Nat.le_trans x1'.size y),Nat.le_trans x1'.size hE''.size⟩
noncomputable def LV (l:Nat) (gs:List Value) (ep c t:Nat):Con:={ code:=.call (.builtin "list.extend") ⟨[.ref l,.str ⟨#[c]⟩ t],[]⟩,mem:=[(l,ZB gs ep)],r:=fun _=>.ok (.ret .none),upd:=fun ρ=>[ZB (gs++[.str ⟨#[c]⟩ (ρ 0)]) (ρ 1)],new:=fun _=>[] }
noncomputable def got (c:Option Nat):Str:=match c with | some c=>⟨#[c]⟩ | none=>⟨#[]⟩
noncomputable def more (gs:List Value) (c:Option Nat) (u:Nat):List Value:=match c with | some c=>gs++[.str ⟨#[c]⟩ u] | none=>gs
noncomputable def Wz (z:Nat→Nat) (gs:List Value) (eg u:Nat) (c:Option Nat):Con:=
 {code:=.call (.ref (z 2)) ⟨[.int 1 u],[]⟩,mem:=[(z 7,ZB gs eg)],r:=fun ρ=>.ok (.ret (.str (got c) (ρ 0))),upd:=fun ρ=>[ZB (more gs c (ρ 1)) (ρ 2)],new:=fun _=>[] }
noncomputable def Wj (w:World) (z:Nat→Nat) (ln:Int) (lt:Nat) (vs:List Value) (ep:Nat) (gs:List Value) (eg:Nat):ZA:=WO w (z 30) (z 31) (z 32) (Ua z) ln lt vs ep++[(z 7,ZB gs eg)]
noncomputable def WX (w:World) (z:Nat→Nat) (ln:Int) (lt:Nat) (vs:List Value) (ep:Nat) (gs:List Value) (eg:Nat) (c:Option Nat) (ln':Int) (lt':(Nat→Nat)→Nat):Con:=
 {code:=.call (.ref 101) ⟨[.ref (z 30)],[]⟩,mem:=Wj w z ln lt vs ep gs eg,r:=fun ρ=>.ok (.ret (.str (got c) (ρ 0))),
  upd:=fun ρ=>(Wj w z ln' (lt' ρ) vs ep (more gs c (ρ 2)) (ρ 3)).map (·.2),new:=fun _=>[] }
noncomputable def at1 (T:Str) (n:Nat) (c:Option Nat):Prop:=Vb T n=got c∧n≤T.length∧1 < T.length∧n≤1000∧∀ d,c=some d→d∈chs
end
section
open PySem PySem.W
theorem HB (w:World) (b:Bool) (RO:ZA) (T:Str) (t sl n u1 u2:Nat) (hn:n≤T.length) (h2:1 < T.length):(OY T t sl n u1 u2).ok (wf w b) RO 965:=
 cR (.i (Ub T t sl n u1 u2) [0] (JU w b _ _ _ _ _ _ _ hn h2) [] (fun ρ0=>(rl [ρ0 0]))) (by kernel_rfl)
theorem R4 (w:World) (b:Bool) (RO:ZA) (T:Str) (t sl n u1 u2:Nat) (s:Str) (hn:n≤T.length) (h2:1 < T.length) (hs:Vb T n=s):(Uc T t sl n u1 u2 s).ok (wf w b) RO 965:=by
 subst hs
 exact HB w b RO T t sl n u1 u2 hn h2
theorem PO (w:World) (b:Bool) (RO:ZA) (t:Nat):(Zm 10 t).ok (wf w b) RO 975:=
 cR (.a fun a0=>.z [] (rl [a0])) (by kernel_rfl)
theorem PQ (w:World) (b:Bool) (RO:ZA) (t:Nat):(Zm 32 t).ok (wf w b) RO 975:=
 cR (.a fun a0=>.z [] (rl [a0])) (by kernel_rfl)
theorem PR (w:World) (b:Bool) (RO:ZA) (t:Nat):(Zm 34 t).ok (wf w b) RO 975:=
 cR (.a fun a0=>.z [] (rl [a0])) (by kernel_rfl)
theorem PS (w:World) (b:Bool) (RO:ZA) (t:Nat):(Zm 35 t).ok (wf w b) RO 975:=
 cR (.a fun a0=>.z [] (rl [a0])) (by kernel_rfl)
theorem PT (w:World) (b:Bool) (RO:ZA) (t:Nat):(Zm 61 t).ok (wf w b) RO 975:=
 cR (.a fun a0=>.z [] (rl [a0])) (by kernel_rfl)
theorem PU (w:World) (b:Bool) (RO:ZA) (t:Nat):(Zm 65 t).ok (wf w b) RO 975:=
 cR (.a fun a0=>.z [] (rl [a0])) (by kernel_rfl)
theorem PV (w:World) (b:Bool) (RO:ZA) (t:Nat):(Zm 66 t).ok (wf w b) RO 975:=
 cR (.a fun a0=>.z [] (rl [a0])) (by kernel_rfl)
theorem PW (w:World) (b:Bool) (RO:ZA) (t:Nat):(Zm 67 t).ok (wf w b) RO 975:=
 cR (.a fun a0=>.z [] (rl [a0])) (by kernel_rfl)
theorem PY (w:World) (b:Bool) (RO:ZA) (t:Nat):(Zm 68 t).ok (wf w b) RO 975:=
 cR (.a fun a0=>.z [] (rl [a0])) (by kernel_rfl)
theorem PZ (w:World) (b:Bool) (RO:ZA) (t:Nat):(Zm 69 t).ok (wf w b) RO 975:=
 cR (.a fun a0=>.z [] (rl [a0])) (by kernel_rfl)
theorem Pa (w:World) (b:Bool) (RO:ZA) (t:Nat):(Zm 70 t).ok (wf w b) RO 975:=
 cR (.a fun a0=>.z [] (rl [a0])) (by kernel_rfl)
theorem Pb (w:World) (b:Bool) (RO:ZA) (t:Nat):(Zm 71 t).ok (wf w b) RO 975:=
 cR (.a fun a0=>.z [] (rl [a0])) (by kernel_rfl)
theorem Pc (w:World) (b:Bool) (RO:ZA) (t:Nat):(Zm 72 t).ok (wf w b) RO 975:=
 cR (.a fun a0=>.z [] (rl [a0])) (by kernel_rfl)
theorem Pd (w:World) (b:Bool) (RO:ZA) (t:Nat):(Zm 92 t).ok (wf w b) RO 975:=
 cR (.a fun a0=>.z [] (rl [a0])) (by kernel_rfl)
theorem Pe (w:World) (b:Bool) (RO:ZA) (t:Nat):(Zm 97 t).ok (wf w b) RO 975:=
 cR (.a fun a0=>.z [] (rl [a0])) (by kernel_rfl)
theorem Pf (w:World) (b:Bool) (RO:ZA) (t:Nat):(Zm 98 t).ok (wf w b) RO 975:=
 cR (.a fun a0=>.z [] (rl [a0])) (by kernel_rfl)
theorem Pg (w:World) (b:Bool) (RO:ZA) (t:Nat):(Zm 99 t).ok (wf w b) RO 975:=
 cR (.a fun a0=>.z [] (rl [a0])) (by kernel_rfl)
theorem R5 (w:World) (b:Bool) (RO:ZA) (t:Nat):(Zm 100 t).ok (wf w b) RO 975:=
 cR (.a fun a0=>.z [] (rl [a0])) (by kernel_rfl)
theorem R6 (w:World) (b:Bool) (RO:ZA) (t:Nat):(Zm 101 t).ok (wf w b) RO 975:=
 cR (.a fun a0=>.z [] (rl [a0])) (by kernel_rfl)
theorem R7 (w:World) (b:Bool) (RO:ZA) (t:Nat):(Zm 102 t).ok (wf w b) RO 975:=
 cR (.a fun a0=>.z [] (rl [a0])) (by kernel_rfl)
theorem R8 (w:World) (b:Bool) (RO:ZA) (t:Nat):(Zm 103 t).ok (wf w b) RO 975:=
 cR (.a fun a0=>.z [] (rl [a0])) (by kernel_rfl)
theorem R9 (w:World) (b:Bool) (RO:ZA) (t:Nat):(Zm 104 t).ok (wf w b) RO 975:=
 cR (.a fun a0=>.z [] (rl [a0])) (by kernel_rfl)
theorem QA (w:World) (b:Bool) (RO:ZA) (t:Nat):(Zm 119 t).ok (wf w b) RO 975:=
 cR (.a fun a0=>.z [] (rl [a0])) (by kernel_rfl)
theorem JW (w:World) (b:Bool) (RO:ZA) (c t:Nat) (h:c∈chs):(Zm c t).ok (wf w b) RO 975:=by
 simp only [chs,List.mem_cons,List.not_mem_nil,or_false] at h
 rcases h with rfl | rfl | rfl | rfl | rfl | rfl | rfl | rfl | rfl | rfl | rfl | rfl | rfl | rfl | rfl | rfl | rfl | rfl | rfl | rfl | rfl | rfl | rfl
 ·exact PO w b RO t
 ·exact PQ w b RO t
 ·exact PR w b RO t
 ·exact PS w b RO t
 ·exact PT w b RO t
 ·exact PU w b RO t
 ·exact PV w b RO t
 ·exact PW w b RO t
 ·exact PY w b RO t
 ·exact PZ w b RO t
 ·exact Pa w b RO t
 ·exact Pb w b RO t
 ·exact Pc w b RO t
 ·exact Pd w b RO t
 ·exact Pe w b RO t
 ·exact Pf w b RO t
 ·exact Pg w b RO t
 ·exact R5 w b RO t
 ·exact R6 w b RO t
 ·exact R7 w b RO t
 ·exact R8 w b RO t
 ·exact R9 w b RO t
 ·exact QA w b RO t
theorem LW (w:World) (b:Bool) (RO:ZA) (c t:Nat) (h:c∈chs):(Sg c t).ok (wf w b) RO 965:=
 cR (.i (Zm c t) [] (JW w b _ _ _ h) [] (fun ρ0=>(rl [ρ0 0]))) (by kernel_rfl)
noncomputable def JX (w:World) (b:Bool) (RO:ZA) (l:Nat) (gs:List Value) (ep c t:Nat) (hz:gs.length≤1000) (h:c∈chs):CE (wf w b) RO []:=
 .l 1 (.k (Sg c t) [] (LW w b _ _ _ h) fun ρ0=>.l 1 (.i (Wr l (ρ0 0) gs ep c t) [1,0] (HA w b _ _ _ _ _ _ _ hz) [0] (fun ρ1=>(rl [ρ1 0,ρ1 1]))))
theorem GS (w:World) (b:Bool) (RO:ZA) (l:Nat) (gs:List Value) (ep c t:Nat) (hz:gs.length≤1000) (h:c∈chs):(LV l gs ep c t).ok (wf w b) RO 950:=
 cR (JX w b RO l gs ep c t hz h) (by cases b<;>kernel_rfl)
theorem Sh (w:World) (b:Bool) (RO:ZA) (T:Str) (t:Nat) (z:Nat→Nat) (gs:List Value) (ep u c:Nat) (hc:at1 T gs.length (some c)):(Wz z gs ep u (some c)).ok (wf w b) (ZL w T t z) 900:=
 ZD.of_def (o:=_) (fd:=Tv w.params z) (fun h H=>H.ro _ (.head _)) rfl (by kernel_rfl) (by kernel_rfl) (by decide) (RunsTo.of (.l 4350101010404361001010000990432 (.k (Zs (z 7) gs ep) [1] (Zu w b _ _ _ _ hc.2.2.2.1) fun ρ0=>.l 43501010104 (.k (Zs (z 7) gs ep) [1] (Zu w b _ _ _ _ hc.2.2.2.1) fun ρ1=>.l 1 (.t fun t1=>.a fun a1=>.k (Uc T t a1 gs.length (ρ0 0) t1 ⟨#[c]⟩) [0] (R4 w b _ _ _ _ _ _ _ _ hc.2.1 hc.2.2.1 hc.1) fun ρ2=>.l 23003043510020100 (.k (LV (z 7) gs ep c (ρ2 0)) [2] (GS w b _ _ _ _ _ _ hc.2.2.2.1 (hc.2.2.2.2 _ rfl)) fun ρ3=>.l 2 (.z [2] (rl [ρ2 0,ρ3 0,ρ3 1]))))))) (by kernel_rfl))
theorem LY (w:World) (b:Bool) (RO:ZA) (T:Str) (t:Nat) (z:Nat→Nat) (gs:List Value) (ep u:Nat) (hc:at1 T gs.length none):(Wz z gs ep u none).ok (wf w b) (ZL w T t z) 900:=
 ZD.of_def (o:=_) (fd:=Tv w.params z) (fun h H=>H.ro _ (.head _)) rfl (by kernel_rfl) (by kernel_rfl) (by decide) (RunsTo.of (.l 4350101010404361001010000990432 (.k (Zs (z 7) gs ep) [1] (Zu w b _ _ _ _ hc.2.2.2.1) fun ρ0=>.l 43501010104 (.k (Zs (z 7) gs ep) [1] (Zu w b _ _ _ _ hc.2.2.2.1) fun ρ1=>.l 1 (.t fun t1=>.a fun a1=>.k (Uc T t a1 gs.length (ρ0 0) t1 ⟨#[]⟩) [0] (R4 w b _ _ _ _ _ _ _ _ hc.2.1 hc.2.2.1 hc.1) fun ρ2=>.l 50001109960010099000300023003043510020100 (.z [8] (rl [ρ2 0,0,ep])))))) (by cases b<;>kernel_rfl))
noncomputable def JY (w:World) (b:Bool) (RO:ZA) (T:Str) (t:Nat) (z:Nat→Nat) (ln:Int) (lt:Nat) (vs:List Value) (ep:Nat) (gs:List Value) (eg:Nat) (hc:at1 T gs.length (some 10)):CE (wf w b) (ZL w T t z) []:=
 .l 43402191433021812190433021812190433010002181219043302181219043302181219043300030219100202181219000202181219000201002001010000990201 (.t fun t3=>.l 431 (.k (Wz z gs eg t3 (some 10)) [4] (Sh w b [] _ _ _ _ _ _ _ hc) fun ρ0=>.l 10000030219100202181219000202181219000201000001010020010100 (.t fun t8=>.l 1200301000219000202181219000202190002021900020218121900020100 (.z [0] (rl [ρ0 0,t8,ρ0 1,ρ0 2])))))
theorem GT (w:World) (b:Bool) (RO:ZA) (T:Str) (t:Nat) (z:Nat→Nat) (ln:Int) (lt:Nat) (vs:List Value) (ep:Nat) (gs:List Value) (eg:Nat) (hc:at1 T gs.length (some 10)):(WX w z ln lt vs ep gs eg (some 10) (ln + 1) (fun ρ=>ρ 1)).ok (wf w b) (ZL w T t z) 850:=
 cB (fd101 _) (JY w b RO T t z ln lt vs ep gs eg hc) (by cases b<;>kernel_rfl)
noncomputable def JZ (w:World) (b:Bool) (RO:ZA) (T:Str) (t:Nat) (z:Nat→Nat) (ln:Int) (lt:Nat) (vs:List Value) (ep:Nat) (gs:List Value) (eg:Nat) (hc:at1 T gs.length none):CE (wf w b) (ZL w T t z) []:=
 .l 43402191433021812190433021812190433010002181219043302181219043302181219043300030219100202181219000202181219000201002001010000990201 (.t fun t3=>.l 431 (.k (Wz z gs eg t3 none) [4] (LY w b [] _ _ _ _ _ _ hc) fun ρ0=>.l 1010020010100 (.z [0] (rl [ρ0 0,0,ρ0 1,ρ0 2]))))
theorem GU (w:World) (b:Bool) (RO:ZA) (T:Str) (t:Nat) (z:Nat→Nat) (ln:Int) (lt:Nat) (vs:List Value) (ep:Nat) (gs:List Value) (eg:Nat) (hc:at1 T gs.length none):(WX w z ln lt vs ep gs eg none ln (fun _=>lt)).ok (wf w b) (ZL w T t z) 850:=
 cB (fd101 _) (JZ w b RO T t z ln lt vs ep gs eg hc) (by cases b<;>kernel_rfl)
noncomputable def Ja (w:World) (b:Bool) (RO:ZA) (T:Str) (t:Nat) (z:Nat→Nat) (ln:Int) (lt:Nat) (vs:List Value) (ep:Nat) (gs:List Value) (eg:Nat) (c:Nat) (hc:at1 T gs.length (some c)) (hn:([c] == [10])=false):CE (wf w b) (ZL w T t z) []:=
 .l 43402191433021812190433021812190433010002181219043302181219043302181219043300030219100202181219000202181219000201002001010000990201 (.t fun t3=>.l 431 (.k (Wz z gs eg t3 (some c)) [4] (Sh w b [] _ _ _ _ _ _ _ hc) fun ρ0=>.l 20010100 (.t fun t5=>.k (Y4 ⟨#[c]⟩ (ρ0 0) ⟨#[10]⟩ t5 false) [] (XZ w b _ _ _ _ _ _ hn) fun ρ1=>.l 1 (.z [0] (rl [ρ0 0,0,ρ0 1,ρ0 2])))))
theorem Vt (w:World) (b:Bool) (RO:ZA) (T:Str) (t:Nat) (z:Nat→Nat) (ln:Int) (lt:Nat) (vs:List Value) (ep:Nat) (gs:List Value) (eg:Nat) (c:Nat) (hc:at1 T gs.length (some c)) (hn:([c] == [10])=false):(WX w z ln lt vs ep gs eg (some c) ln (fun _=>lt)).ok (wf w b) (ZL w T t z) 850:=
 cB (fd101 _) (Ja w b RO T t z ln lt vs ep gs eg c hc hn) (by cases b<;>kernel_rfl)
noncomputable def VB (f a:Nat):Obj:=⟨.type "method",none,.fields #[.ref f,.ref a],#[]⟩
noncomputable def ZV (w:World) (a:Nat) (z:Nat→Nat) (ln:Int) (lt:Nat) (vs:List Value) (ep:Nat) (gs:List Value) (eg:Nat) (c:Option Nat) (ln':Int) (lt':(Nat→Nat)→Nat):Con:=
 {code:=.call (.ref a) ⟨[],[]⟩,mem:=(a,VB 101 (z 30))::Wj w z ln lt vs ep gs eg,r:=fun ρ=>.ok (.ret (.str (got c) (ρ 0))),
  upd:=fun ρ=>VB 101 (z 30)::(Wj w z ln' (lt' ρ) vs ep (more gs c (ρ 2)) (ρ 3)).map (·.2),new:=fun _=>[] }
noncomputable def TD (ρ:Nat→Nat):Nat→List Nat→List Value→List Value
 | _,[],gs=>gs
 | i,c::cs,gs=>TD ρ (i + 1) cs (more gs (some c) (ρ i))
noncomputable def YK (w:World) (z:Nat→Nat) (ln:Int) (lt ep:Nat) (gs:List Value) (eg:Nat) (cs:List Nat) (s:Str) (nl:Bool):Con:=
 {code:=.call (.ref 108) ⟨[.ref (z 30)],[]⟩,mem:=Wj w z ln lt [] ep gs eg,r:=fun ρ=>.ok (.ret (.str s (ρ 0))),
  upd:=fun ρ=>(Wj w z (match nl with | true=>ln + 1 | false=>ln) (match nl with | true=>ρ 1 | false=>lt) [] ep (TD ρ 10 cs gs) (ρ 2)).map (·.2),new:=fun _=>[] }
theorem ZN {T:Str} {n m:Nat} {c:Option Nat} (h:at1 T n c) (e:m=n):at1 T m c:=by rw [e]; exact h
theorem ZP (c:Nat) (h:c≠10):([c] == [10])=false:=by simp [h]
theorem VN (w:World) (b:Bool) (RO:ZA) (a:Nat) (T:Str) (t:Nat) (z:Nat→Nat) (ln:Int) (lt:Nat) (vs:List Value) (ep:Nat) (gs:List Value) (eg:Nat) (hc:at1 T gs.length (some 10)):(ZV w a z ln lt vs ep gs eg (some 10) (ln + 1) (fun ρ=>ρ 1)).ok (wf w b) (ZL w T t z) 800:=
 cR (.l 1 (.i (WX w z ln lt vs ep gs eg (some 10) (ln + 1) (fun ρ=>ρ 1)) [1,2,3,4] (GT w b [] _ _ _ _ _ _ _ _ _ hc) [] (fun ρ0=>(rl [ρ0 0,ρ0 1,ρ0 2,ρ0 3])))) (by kernel_rfl)
theorem GV (w:World) (b:Bool) (RO:ZA) (a:Nat) (T:Str) (t:Nat) (z:Nat→Nat) (ln:Int) (lt:Nat) (vs:List Value) (ep:Nat) (gs:List Value) (eg:Nat) (hc:at1 T gs.length none):(ZV w a z ln lt vs ep gs eg none ln (fun _=>lt)).ok (wf w b) (ZL w T t z) 800:=
 cR (.l 1 (.i (WX w z ln lt vs ep gs eg none ln (fun _=>lt)) [1,2,3,4] (GU w b [] _ _ _ _ _ _ _ _ _ hc) [] (fun ρ0=>(rl [ρ0 0,0,ρ0 2,ρ0 3])))) (by kernel_rfl)
theorem ZU (w:World) (b:Bool) (RO:ZA) (a:Nat) (T:Str) (t:Nat) (z:Nat→Nat) (ln:Int) (lt:Nat) (vs:List Value) (ep:Nat) (gs:List Value) (eg:Nat) (c:Nat) (hc:at1 T gs.length (some c)) (hn:([c] == [10])=false):(ZV w a z ln lt vs ep gs eg (some c) ln (fun _=>lt)).ok (wf w b) (ZL w T t z) 800:=
 cR (.l 1 (.i (WX w z ln lt vs ep gs eg (some c) ln (fun _=>lt)) [1,2,3,4] (Vt w b [] _ _ _ _ _ _ _ _ _ _ hc hn) [] (fun ρ0=>(rl [ρ0 0,0,ρ0 2,ρ0 3])))) (by kernel_rfl)
noncomputable def Jb (w:World) (b:Bool) (RO:ZA) (T:Str) (t:Nat) (z:Nat→Nat) (ln:Int) (lt ep:Nat) (gs:List Value) (eg:Nat) (h0:at1 T (gs.length + 0) (some 119)) (h1:at1 T (gs.length + 1) (some 61)):CE (wf w b) (ZL w T t z) []:=
 .l 202021812190003021910022202021812190002021812190002010000010101010410013100400400030219100202181219000202181219000201002001010000990208 (.a fun a1=>.l 2020002700120030100009900010100 (.k (ZV w a1 z ln lt [] ep (gs) eg (some 119) ln (fun _=>lt)) [1,3,4,5,6] (ZU w b [] _ _ _ _ _ _ _ _ _ _ 119 (ZN h0 (by simp [more])) (ZP _ (by decide))) fun ρ0=>.l 2020002700120030100100301000003010000030005021910040218121900040218121900040100300301001001 (.k (ZV w a1 z ln lt [] ep (more gs (some 119) (ρ0 2)) (ρ0 3) (some 61) ln (fun _=>lt)) [1,3,4,5,6] (ZU w b [] _ _ _ _ _ _ _ _ _ _ 61 (ZN h1 (by simp [more])) (ZP _ (by decide))) fun ρ1=>.l 30005021910040218121900040218121900040100300301001001 (.z [4] (rl [ρ0 0,0,ρ1 3,0,0,0,0,0,0,0,ρ0 2,ρ1 2])))))
theorem GW (w:World) (b:Bool) (RO:ZA) (T:Str) (t:Nat) (z:Nat→Nat) (ln:Int) (lt ep:Nat) (gs:List Value) (eg:Nat) (h0:at1 T (gs.length + 0) (some 119)) (h1:at1 T (gs.length + 1) (some 61)):(YK w z ln lt ep gs eg [119,61] ⟨#[119]⟩ false).ok (wf w b) (ZL w T t z) 700:=
 cB (fd108 _) (Jb w b RO T t z ln lt ep gs eg h0 h1) (by cases b<;>kernel_rfl)
noncomputable def Jc (w:World) (b:Bool) (RO:ZA) (T:Str) (t:Nat) (z:Nat→Nat) (ln:Int) (lt ep:Nat) (gs:List Value) (eg:Nat) (h0:at1 T (gs.length + 0) (some 10)) (h1:at1 T (gs.length + 1) (some 119)) (h2:at1 T (gs.length + 2) (some 61)):CE (wf w b) (ZL w T t z) []:=
 .l 202021812190003021910022202021812190002021812190002010000010101010410013100400400030219100202181219000202181219000201002001010000990208 (.a fun a1=>.l 2020002700120030100009900010100 (.k (ZV w a1 z ln lt [] ep (gs) eg (some 10) (ln + 1) (fun ρ=>ρ 1)) [1,3,4,5,6] (VN w b [] _ _ _ _ _ _ _ _ _ _ (ZN h0 (by simp [more]))) fun ρ0=>.l 202000230010005021910040218121900040218121900040100300301001001 (.k (ZV w a1 z (ln + 1) (ρ0 1) [] ep (more gs (some 10) (ρ0 2)) (ρ0 3) (some 119) (ln + 1) (fun _=>(ρ0 1))) [1,3,4,5,6] (ZU w b [] _ _ _ _ _ _ _ _ _ _ 119 (ZN h1 (by simp [more])) (ZP _ (by decide))) fun ρ1=>.l 2020002700120030100100301000003010000030005021910040218121900040218121900040100300301001001 (.k (ZV w a1 z (ln + 1) (ρ0 1) [] ep (more (more gs (some 10) (ρ0 2)) (some 119) (ρ1 2)) (ρ1 3) (some 61) (ln + 1) (fun _=>(ρ0 1))) [1,3,4,5,6] (ZU w b [] _ _ _ _ _ _ _ _ _ _ 61 (ZN h2 (by simp [more])) (ZP _ (by decide))) fun ρ2=>.l 30005021910040218121900040218121900040100300301001001 (.z [4] (rl [ρ1 0,ρ0 1,ρ2 3,0,0,0,0,0,0,0,ρ0 2,ρ1 2,ρ2 2]))))))
theorem GX (w:World) (b:Bool) (RO:ZA) (T:Str) (t:Nat) (z:Nat→Nat) (ln:Int) (lt ep:Nat) (gs:List Value) (eg:Nat) (h0:at1 T (gs.length + 0) (some 10)) (h1:at1 T (gs.length + 1) (some 119)) (h2:at1 T (gs.length + 2) (some 61)):(YK w z ln lt ep gs eg [10,119,61] ⟨#[119]⟩ true).ok (wf w b) (ZL w T t z) 700:=
 cB (fd108 _) (Jc w b RO T t z ln lt ep gs eg h0 h1 h2) (by cases b<;>kernel_rfl)
noncomputable def Jd (w:World) (b:Bool) (RO:ZA) (T:Str) (t:Nat) (z:Nat→Nat) (ln:Int) (lt ep:Nat) (gs:List Value) (eg:Nat) (h0:at1 T (gs.length + 0) (some 97)) (h1:at1 T (gs.length + 1) (some 98)) (h2:at1 T (gs.length + 2) (some 10)):CE (wf w b) (ZL w T t z) []:=
 .l 202021812190003021910022202021812190002021812190002010000010101010410013100400400030219100202181219000202181219000201002001010000990208 (.a fun a1=>.l 2020002700120030100009900010100 (.k (ZV w a1 z ln lt [] ep (gs) eg (some 97) ln (fun _=>lt)) [1,3,4,5,6] (ZU w b [] _ _ _ _ _ _ _ _ _ _ 97 (ZN h0 (by simp [more])) (ZP _ (by decide))) fun ρ0=>.l 2020002700120030100100301000003010000030005021910040218121900040218121900040100300301001001 (.k (ZV w a1 z ln lt [] ep (more gs (some 97) (ρ0 2)) (ρ0 3) (some 98) ln (fun _=>lt)) [1,3,4,5,6] (ZU w b [] _ _ _ _ _ _ _ _ _ _ 98 (ZN h1 (by simp [more])) (ZP _ (by decide))) fun ρ1=>.l 1003010000030005021910040218121900040218121900040100300301001001 (.t fun t17=>.l 2020002300110030100 (.k (ZV w a1 z ln lt [] ep (more (more gs (some 97) (ρ0 2)) (some 98) (ρ1 2)) (ρ1 3) (some 10) (ln + 1) (fun ρ=>ρ 1)) [1,3,4,5,6] (VN w b [] _ _ _ _ _ _ _ _ _ _ (ZN h2 (by simp [more]))) fun ρ2=>.l 30005021910040218121900040218121900040100300301001001 (.z [4] (rl [t17,ρ2 1,ρ2 3,0,0,0,0,0,0,0,ρ0 2,ρ1 2,ρ2 2])))))))
theorem GY (w:World) (b:Bool) (RO:ZA) (T:Str) (t:Nat) (z:Nat→Nat) (ln:Int) (lt ep:Nat) (gs:List Value) (eg:Nat) (h0:at1 T (gs.length + 0) (some 97)) (h1:at1 T (gs.length + 1) (some 98)) (h2:at1 T (gs.length + 2) (some 10)):(YK w z ln lt ep gs eg [97,98,10] ⟨#[97,98]⟩ true).ok (wf w b) (ZL w T t z) 700:=
 cB (fd108 _) (Jd w b RO T t z ln lt ep gs eg h0 h1 h2) (by cases b<;>kernel_rfl)
noncomputable def Je (w:World) (b:Bool) (RO:ZA) (T:Str) (t:Nat) (z:Nat→Nat) (ln:Int) (lt ep:Nat) (gs:List Value) (eg:Nat) (h0:at1 T (gs.length + 0) (some 34)) (h1:at1 T (gs.length + 1) (some 97)) (h2:at1 T (gs.length + 2) (some 98)) (h3:at1 T (gs.length + 3) (some 34)):CE (wf w b) (ZL w T t z) []:=
 .l 202021812190003021910022202021812190002021812190002010000010101010410013100400400030219100202181219000202181219000201002001010000990208 (.a fun a1=>.l 2020002700120030100009900010100 (.k (ZV w a1 z ln lt [] ep (gs) eg (some 34) ln (fun _=>lt)) [1,3,4,5,6] (ZU w b [] _ _ _ _ _ _ _ _ _ _ 34 (ZN h0 (by simp [more])) (ZP _ (by decide))) fun ρ0=>.l 202000270010003010000030005021910040218121900040218121900040100300301001001 (.k (ZV w a1 z ln lt [] ep (more gs (some 34) (ρ0 2)) (ρ0 3) (some 97) ln (fun _=>lt)) [1,3,4,5,6] (ZU w b [] _ _ _ _ _ _ _ _ _ _ 97 (ZN h1 (by simp [more])) (ZP _ (by decide))) fun ρ1=>.l 20200023001100301001003010000030100200301001001 (.k (ZV w a1 z ln lt [] ep (more (more gs (some 34) (ρ0 2)) (some 97) (ρ1 2)) (ρ1 3) (some 98) ln (fun _=>lt)) [1,3,4,5,6] (ZU w b [] _ _ _ _ _ _ _ _ _ _ 98 (ZN h2 (by simp [more])) (ZP _ (by decide))) fun ρ2=>.l 1003010000030100200301001001 (.t fun t19=>.l 2020002300110030100 (.k (ZV w a1 z ln lt [] ep (more (more (more gs (some 34) (ρ0 2)) (some 97) (ρ1 2)) (some 98) (ρ2 2)) (ρ2 3) (some 34) ln (fun _=>lt)) [1,3,4,5,6] (ZU w b [] _ _ _ _ _ _ _ _ _ _ 34 (ZN h3 (by simp [more])) (ZP _ (by decide))) fun ρ3=>.l 30100200301001001 (.z [4] (rl [t19,0,ρ3 3,0,0,0,0,0,0,0,ρ0 2,ρ1 2,ρ2 2,ρ3 2]))))))))
theorem GZ (w:World) (b:Bool) (RO:ZA) (T:Str) (t:Nat) (z:Nat→Nat) (ln:Int) (lt ep:Nat) (gs:List Value) (eg:Nat) (h0:at1 T (gs.length + 0) (some 34)) (h1:at1 T (gs.length + 1) (some 97)) (h2:at1 T (gs.length + 2) (some 98)) (h3:at1 T (gs.length + 3) (some 34)):(YK w z ln lt ep gs eg [34,97,98,34] ⟨#[97,98]⟩ false).ok (wf w b) (ZL w T t z) 700:=
 cB (fd108 _) (Je w b RO T t z ln lt ep gs eg h0 h1 h2 h3) (by cases b<;>kernel_rfl)
noncomputable def Jf (w:World) (b:Bool) (RO:ZA) (T:Str) (t:Nat) (z:Nat→Nat) (ln:Int) (lt ep:Nat) (gs:List Value) (eg:Nat) (h0:at1 T (gs.length + 0) (some 34)) (h1:at1 T (gs.length + 1) (some 99)) (h2:at1 T (gs.length + 2) (some 92)) (h3:at1 T (gs.length + 3) (some 34)) (h4:at1 T (gs.length + 4) (some 34)):CE (wf w b) (ZL w T t z) []:=
 .l 202021812190003021910022202021812190002021812190002010000010101010410013100400400030219100202181219000202181219000201002001010000990208 (.a fun a1=>.l 2020002700120030100009900010100 (.k (ZV w a1 z ln lt [] ep (gs) eg (some 34) ln (fun _=>lt)) [1,3,4,5,6] (ZU w b [] _ _ _ _ _ _ _ _ _ _ 34 (ZN h0 (by simp [more])) (ZP _ (by decide))) fun ρ0=>.l 202000270010003010000030005021910040218121900040218121900040100300301001001 (.k (ZV w a1 z ln lt [] ep (more gs (some 34) (ρ0 2)) (ρ0 3) (some 99) ln (fun _=>lt)) [1,3,4,5,6] (ZU w b [] _ _ _ _ _ _ _ _ _ _ 99 (ZN h1 (by simp [more])) (ZP _ (by decide))) fun ρ1=>.l 20200023001100301001003010000030100200301001001 (.k (ZV w a1 z ln lt [] ep (more (more gs (some 34) (ρ0 2)) (some 99) (ρ1 2)) (ρ1 3) (some 92) ln (fun _=>lt)) [1,3,4,5,6] (ZU w b [] _ _ _ _ _ _ _ _ _ _ 92 (ZN h2 (by simp [more])) (ZP _ (by decide))) fun ρ2=>.l 2020005000402020218121900040218121900040218121900040003010000030100200301001001 (.k (WX w z ln lt [] ep (more (more (more gs (some 34) (ρ0 2)) (some 99) (ρ1 2)) (some 92) (ρ2 2)) (ρ2 3) (some 34) ln (fun _=>lt)) [3,4,5,6] (Vt w b [] _ _ _ _ _ _ _ _ _ 34 (ZN h3 (by simp [more])) (ZP _ (by decide))) fun ρ3=>.l 30030100 (.t fun t20=>.l 2020002300110030100 (.k (ZV w a1 z ln lt [] ep (more (more (more (more gs (some 34) (ρ0 2)) (some 99) (ρ1 2)) (some 92) (ρ2 2)) (some 34) (ρ3 2)) (ρ3 3) (some 34) ln (fun _=>lt)) [1,3,4,5,6] (ZU w b [] _ _ _ _ _ _ _ _ _ _ 34 (ZN h4 (by simp [more])) (ZP _ (by decide))) fun ρ4=>.l 30100200301001001 (.z [4] (rl [t20,0,ρ4 3,0,0,0,0,0,0,0,ρ0 2,ρ1 2,ρ2 2,ρ3 2,ρ4 2])))))))))
theorem LZ (w:World) (b:Bool) (RO:ZA) (T:Str) (t:Nat) (z:Nat→Nat) (ln:Int) (lt ep:Nat) (gs:List Value) (eg:Nat) (h0:at1 T (gs.length + 0) (some 34)) (h1:at1 T (gs.length + 1) (some 99)) (h2:at1 T (gs.length + 2) (some 92)) (h3:at1 T (gs.length + 3) (some 34)) (h4:at1 T (gs.length + 4) (some 34)):(YK w z ln lt ep gs eg [34,99,92,34,34] ⟨#[99,34]⟩ false).ok (wf w b) (ZL w T t z) 700:=
 cB (fd108 _) (Jf w b RO T t z ln lt ep gs eg h0 h1 h2 h3 h4) (by cases b<;>kernel_rfl)
noncomputable def Jg (w:World) (b:Bool) (RO:ZA) (T:Str) (t:Nat) (z:Nat→Nat) (ln:Int) (lt ep:Nat) (gs:List Value) (eg:Nat) (h0:at1 T (gs.length + 0) (some 34)) (h1:at1 T (gs.length + 1) (some 68)) (h2:at1 T (gs.length + 2) (some 92)) (h3:at1 T (gs.length + 3) (some 92)) (h4:at1 T (gs.length + 4) (some 34)):CE (wf w b) (ZL w T t z) []:=
 .l 202021812190003021910022202021812190002021812190002010000010101010410013100400400030219100202181219000202181219000201002001010000990208 (.a fun a1=>.l 2020002700120030100009900010100 (.k (ZV w a1 z ln lt [] ep (gs) eg (some 34) ln (fun _=>lt)) [1,3,4,5,6] (ZU w b [] _ _ _ _ _ _ _ _ _ _ 34 (ZN h0 (by simp [more])) (ZP _ (by decide))) fun ρ0=>.l 202000270010003010000030005021910040218121900040218121900040100300301001001 (.k (ZV w a1 z ln lt [] ep (more gs (some 34) (ρ0 2)) (ρ0 3) (some 68) ln (fun _=>lt)) [1,3,4,5,6] (ZU w b [] _ _ _ _ _ _ _ _ _ _ 68 (ZN h1 (by simp [more])) (ZP _ (by decide))) fun ρ1=>.l 20200023001100301001003010000030100200301001001 (.k (ZV w a1 z ln lt [] ep (more (more gs (some 34) (ρ0 2)) (some 68) (ρ1 2)) (ρ1 3) (some 92) ln (fun _=>lt)) [1,3,4,5,6] (ZU w b [] _ _ _ _ _ _ _ _ _ _ 92 (ZN h2 (by simp [more])) (ZP _ (by decide))) fun ρ2=>.l 2020005000402020218121900040218121900040218121900040003010000030100200301001001 (.k (WX w z ln lt [] ep (more (more (more gs (some 34) (ρ0 2)) (some 68) (ρ1 2)) (some 92) (ρ2 2)) (ρ2 3) (some 92) ln (fun _=>lt)) [3,4,5,6] (Vt w b [] _ _ _ _ _ _ _ _ _ 92 (ZN h3 (by simp [more])) (ZP _ (by decide))) fun ρ3=>.l 30030100 (.t fun t20=>.l 2020002300110030100 (.k (ZV w a1 z ln lt [] ep (more (more (more (more gs (some 34) (ρ0 2)) (some 68) (ρ1 2)) (some 92) (ρ2 2)) (some 92) (ρ3 2)) (ρ3 3) (some 34) ln (fun _=>lt)) [1,3,4,5,6] (ZU w b [] _ _ _ _ _ _ _ _ _ _ 34 (ZN h4 (by simp [more])) (ZP _ (by decide))) fun ρ4=>.l 30100200301001001 (.z [4] (rl [t20,0,ρ4 3,0,0,0,0,0,0,0,ρ0 2,ρ1 2,ρ2 2,ρ3 2,ρ4 2])))))))))
theorem La (w:World) (b:Bool) (RO:ZA) (T:Str) (t:Nat) (z:Nat→Nat) (ln:Int) (lt ep:Nat) (gs:List Value) (eg:Nat) (h0:at1 T (gs.length + 0) (some 34)) (h1:at1 T (gs.length + 1) (some 68)) (h2:at1 T (gs.length + 2) (some 92)) (h3:at1 T (gs.length + 3) (some 92)) (h4:at1 T (gs.length + 4) (some 34)):(YK w z ln lt ep gs eg [34,68,92,92,34] ⟨#[68,92]⟩ false).ok (wf w b) (ZL w T t z) 700:=
 cB (fd108 _) (Jg w b RO T t z ln lt ep gs eg h0 h1 h2 h3 h4) (by cases b<;>kernel_rfl)
noncomputable def Jh (w:World) (b:Bool) (RO:ZA) (T:Str) (t:Nat) (z:Nat→Nat) (ln:Int) (lt ep:Nat) (gs:List Value) (eg:Nat) (h0:at1 T (gs.length + 0) (some 34)) (h1:at1 T (gs.length + 1) (some 101)) (h2:at1 T (gs.length + 2) (some 32)) (h3:at1 T (gs.length + 3) (some 102)) (h4:at1 T (gs.length + 4) (some 34)):CE (wf w b) (ZL w T t z) []:=
 .l 202021812190003021910022202021812190002021812190002010000010101010410013100400400030219100202181219000202181219000201002001010000990208 (.a fun a1=>.l 2020002700120030100009900010100 (.k (ZV w a1 z ln lt [] ep (gs) eg (some 34) ln (fun _=>lt)) [1,3,4,5,6] (ZU w b [] _ _ _ _ _ _ _ _ _ _ 34 (ZN h0 (by simp [more])) (ZP _ (by decide))) fun ρ0=>.l 202000270010003010000030005021910040218121900040218121900040100300301001001 (.k (ZV w a1 z ln lt [] ep (more gs (some 34) (ρ0 2)) (ρ0 3) (some 101) ln (fun _=>lt)) [1,3,4,5,6] (ZU w b [] _ _ _ _ _ _ _ _ _ _ 101 (ZN h1 (by simp [more])) (ZP _ (by decide))) fun ρ1=>.l 20200023001100301001003010000030100200301001001 (.k (ZV w a1 z ln lt [] ep (more (more gs (some 34) (ρ0 2)) (some 101) (ρ1 2)) (ρ1 3) (some 32) ln (fun _=>lt)) [1,3,4,5,6] (ZU w b [] _ _ _ _ _ _ _ _ _ _ 32 (ZN h2 (by simp [more])) (ZP _ (by decide))) fun ρ2=>.l 20200023001100311001003010000030100200301001001 (.k (ZV w a1 z ln lt [] ep (more (more (more gs (some 34) (ρ0 2)) (some 101) (ρ1 2)) (some 32) (ρ2 2)) (ρ2 3) (some 102) ln (fun _=>lt)) [1,3,4,5,6] (ZU w b [] _ _ _ _ _ _ _ _ _ _ 102 (ZN h3 (by simp [more])) (ZP _ (by decide))) fun ρ3=>.l 1003010000030100200301001001 (.t fun t24=>.l 2020002300110030100 (.k (ZV w a1 z ln lt [] ep (more (more (more (more gs (some 34) (ρ0 2)) (some 101) (ρ1 2)) (some 32) (ρ2 2)) (some 102) (ρ3 2)) (ρ3 3) (some 34) ln (fun _=>lt)) [1,3,4,5,6] (ZU w b [] _ _ _ _ _ _ _ _ _ _ 34 (ZN h4 (by simp [more])) (ZP _ (by decide))) fun ρ4=>.l 30100200301001001 (.z [4] (rl [t24,0,ρ4 3,0,0,0,0,0,0,0,ρ0 2,ρ1 2,ρ2 2,ρ3 2,ρ4 2])))))))))
theorem Lb (w:World) (b:Bool) (RO:ZA) (T:Str) (t:Nat) (z:Nat→Nat) (ln:Int) (lt ep:Nat) (gs:List Value) (eg:Nat) (h0:at1 T (gs.length + 0) (some 34)) (h1:at1 T (gs.length + 1) (some 101)) (h2:at1 T (gs.length + 2) (some 32)) (h3:at1 T (gs.length + 3) (some 102)) (h4:at1 T (gs.length + 4) (some 34)):(YK w z ln lt ep gs eg [34,101,32,102,34] ⟨#[101,32,102]⟩ false).ok (wf w b) (ZL w T t z) 700:=
 cB (fd108 _) (Jh w b RO T t z ln lt ep gs eg h0 h1 h2 h3 h4) (by cases b<;>kernel_rfl)
noncomputable def Ji (w:World) (b:Bool) (RO:ZA) (T:Str) (t:Nat) (z:Nat→Nat) (ln:Int) (lt ep:Nat) (gs:List Value) (eg:Nat) (h0:at1 T (gs.length + 0) (some 34)) (h1:at1 T (gs.length + 1) (some 71)) (h2:at1 T (gs.length + 2) (some 61)) (h3:at1 T (gs.length + 3) (some 34)):CE (wf w b) (ZL w T t z) []:=
 .l 202021812190003021910022202021812190002021812190002010000010101010410013100400400030219100202181219000202181219000201002001010000990208 (.a fun a1=>.l 2020002700120030100009900010100 (.k (ZV w a1 z ln lt [] ep (gs) eg (some 34) ln (fun _=>lt)) [1,3,4,5,6] (ZU w b [] _ _ _ _ _ _ _ _ _ _ 34 (ZN h0 (by simp [more])) (ZP _ (by decide))) fun ρ0=>.l 202000270010003010000030005021910040218121900040218121900040100300301001001 (.k (ZV w a1 z ln lt [] ep (more gs (some 34) (ρ0 2)) (ρ0 3) (some 71) ln (fun _=>lt)) [1,3,4,5,6] (ZU w b [] _ _ _ _ _ _ _ _ _ _ 71 (ZN h1 (by simp [more])) (ZP _ (by decide))) fun ρ1=>.l 20200023001100301001003010000030100200301001001 (.k (ZV w a1 z ln lt [] ep (more (more gs (some 34) (ρ0 2)) (some 71) (ρ1 2)) (ρ1 3) (some 61) ln (fun _=>lt)) [1,3,4,5,6] (ZU w b [] _ _ _ _ _ _ _ _ _ _ 61 (ZN h2 (by simp [more])) (ZP _ (by decide))) fun ρ2=>.l 1003010000030100200301001001 (.t fun t19=>.l 2020002300110030100 (.k (ZV w a1 z ln lt [] ep (more (more (more gs (some 34) (ρ0 2)) (some 71) (ρ1 2)) (some 61) (ρ2 2)) (ρ2 3) (some 34) ln (fun _=>lt)) [1,3,4,5,6] (ZU w b [] _ _ _ _ _ _ _ _ _ _ 34 (ZN h3 (by simp [more])) (ZP _ (by decide))) fun ρ3=>.l 30100200301001001 (.z [4] (rl [t19,0,ρ3 3,0,0,0,0,0,0,0,ρ0 2,ρ1 2,ρ2 2,ρ3 2]))))))))
theorem Lc (w:World) (b:Bool) (RO:ZA) (T:Str) (t:Nat) (z:Nat→Nat) (ln:Int) (lt ep:Nat) (gs:List Value) (eg:Nat) (h0:at1 T (gs.length + 0) (some 34)) (h1:at1 T (gs.length + 1) (some 71)) (h2:at1 T (gs.length + 2) (some 61)) (h3:at1 T (gs.length + 3) (some 34)):(YK w z ln lt ep gs eg [34,71,61,34] ⟨#[71,61]⟩ false).ok (wf w b) (ZL w T t z) 700:=
 cB (fd108 _) (Ji w b RO T t z ln lt ep gs eg h0 h1 h2 h3) (by cases b<;>kernel_rfl)
noncomputable def Jj (w:World) (b:Bool) (RO:ZA) (T:Str) (t:Nat) (z:Nat→Nat) (ln:Int) (lt ep:Nat) (gs:List Value) (eg:Nat) (h0:at1 T (gs.length + 0) (some 104)) (h1:at1 T (gs.length + 1) (some 35)) (h2:at1 T (gs.length + 2) (some 10)):CE (wf w b) (ZL w T t z) []:=
 .l 202021812190003021910022202021812190002021812190002010000010101010410013100400400030219100202181219000202181219000201002001010000990208 (.a fun a1=>.l 2020002700120030100009900010100 (.k (ZV w a1 z ln lt [] ep (gs) eg (some 104) ln (fun _=>lt)) [1,3,4,5,6] (ZU w b [] _ _ _ _ _ _ _ _ _ _ 104 (ZN h0 (by simp [more])) (ZP _ (by decide))) fun ρ0=>.l 2020002700120030100100301000003010000030005021910040218121900040218121900040100300301001001 (.k (ZV w a1 z ln lt [] ep (more gs (some 104) (ρ0 2)) (ρ0 3) (some 35) ln (fun _=>lt)) [1,3,4,5,6] (ZU w b [] _ _ _ _ _ _ _ _ _ _ 35 (ZN h1 (by simp [more])) (ZP _ (by decide))) fun ρ1=>.l 1003010000030005021910040218121900040218121900040100300301001001 (.t fun t17=>.l 2020002300110030100 (.k (ZV w a1 z ln lt [] ep (more (more gs (some 104) (ρ0 2)) (some 35) (ρ1 2)) (ρ1 3) (some 10) (ln + 1) (fun ρ=>ρ 1)) [1,3,4,5,6] (VN w b [] _ _ _ _ _ _ _ _ _ _ (ZN h2 (by simp [more]))) fun ρ2=>.l 30005021910040218121900040218121900040100300301001001 (.z [4] (rl [t17,ρ2 1,ρ2 3,0,0,0,0,0,0,0,ρ0 2,ρ1 2,ρ2 2])))))))
theorem Ga (w:World) (b:Bool) (RO:ZA) (T:Str) (t:Nat) (z:Nat→Nat) (ln:Int) (lt ep:Nat) (gs:List Value) (eg:Nat) (h0:at1 T (gs.length + 0) (some 104)) (h1:at1 T (gs.length + 1) (some 35)) (h2:at1 T (gs.length + 2) (some 10)):(YK w z ln lt ep gs eg [104,35,10] ⟨#[104,35]⟩ true).ok (wf w b) (ZL w T t z) 700:=
 cB (fd108 _) (Jj w b RO T t z ln lt ep gs eg h0 h1 h2) (by cases b<;>kernel_rfl)
noncomputable def Jk (w:World) (b:Bool) (RO:ZA) (T:Str) (t:Nat) (z:Nat→Nat) (ln:Int) (lt ep:Nat) (gs:List Value) (eg:Nat) (h0:at1 T (gs.length + 0) (some 34)) (h1:at1 T (gs.length + 1) (some 104)) (h2:at1 T (gs.length + 2) (some 35)) (h3:at1 T (gs.length + 3) (some 34)):CE (wf w b) (ZL w T t z) []:=
 .l 202021812190003021910022202021812190002021812190002010000010101010410013100400400030219100202181219000202181219000201002001010000990208 (.a fun a1=>.l 2020002700120030100009900010100 (.k (ZV w a1 z ln lt [] ep (gs) eg (some 34) ln (fun _=>lt)) [1,3,4,5,6] (ZU w b [] _ _ _ _ _ _ _ _ _ _ 34 (ZN h0 (by simp [more])) (ZP _ (by decide))) fun ρ0=>.l 202000270010003010000030005021910040218121900040218121900040100300301001001 (.k (ZV w a1 z ln lt [] ep (more gs (some 34) (ρ0 2)) (ρ0 3) (some 104) ln (fun _=>lt)) [1,3,4,5,6] (ZU w b [] _ _ _ _ _ _ _ _ _ _ 104 (ZN h1 (by simp [more])) (ZP _ (by decide))) fun ρ1=>.l 20200023001100301001003010000030100200301001001 (.k (ZV w a1 z ln lt [] ep (more (more gs (some 34) (ρ0 2)) (some 104) (ρ1 2)) (ρ1 3) (some 35) ln (fun _=>lt)) [1,3,4,5,6] (ZU w b [] _ _ _ _ _ _ _ _ _ _ 35 (ZN h2 (by simp [more])) (ZP _ (by decide))) fun ρ2=>.l 1003010000030100200301001001 (.t fun t19=>.l 2020002300110030100 (.k (ZV w a1 z ln lt [] ep (more (more (more gs (some 34) (ρ0 2)) (some 104) (ρ1 2)) (some 35) (ρ2 2)) (ρ2 3) (some 34) ln (fun _=>lt)) [1,3,4,5,6] (ZU w b [] _ _ _ _ _ _ _ _ _ _ 34 (ZN h3 (by simp [more])) (ZP _ (by decide))) fun ρ3=>.l 30100200301001001 (.z [4] (rl [t19,0,ρ3 3,0,0,0,0,0,0,0,ρ0 2,ρ1 2,ρ2 2,ρ3 2]))))))))
theorem Gb (w:World) (b:Bool) (RO:ZA) (T:Str) (t:Nat) (z:Nat→Nat) (ln:Int) (lt ep:Nat) (gs:List Value) (eg:Nat) (h0:at1 T (gs.length + 0) (some 34)) (h1:at1 T (gs.length + 1) (some 104)) (h2:at1 T (gs.length + 2) (some 35)) (h3:at1 T (gs.length + 3) (some 34)):(YK w z ln lt ep gs eg [34,104,35,34] ⟨#[104,35]⟩ false).ok (wf w b) (ZL w T t z) 700:=
 cB (fd108 _) (Jk w b RO T t z ln lt ep gs eg h0 h1 h2 h3) (by cases b<;>kernel_rfl)
noncomputable def Jl (w:World) (b:Bool) (RO:ZA) (T:Str) (t:Nat) (z:Nat→Nat) (ln:Int) (lt ep:Nat) (gs:List Value) (eg:Nat) (h0:at1 T (gs.length + 0) (some 65)) (h1:at1 T (gs.length + 1) (some 66)) (h2:at1 T (gs.length + 2) (some 10)):CE (wf w b) (ZL w T t z) []:=
 .l 202021812190003021910022202021812190002021812190002010000010101010410013100400400030219100202181219000202181219000201002001010000990208 (.a fun a1=>.l 2020002700120030100009900010100 (.k (ZV w a1 z ln lt [] ep (gs) eg (some 65) ln (fun _=>lt)) [1,3,4,5,6] (ZU w b [] _ _ _ _ _ _ _ _ _ _ 65 (ZN h0 (by simp [more])) (ZP _ (by decide))) fun ρ0=>.l 2020002700120030100100301000003010000030005021910040218121900040218121900040100300301001001 (.k (ZV w a1 z ln lt [] ep (more gs (some 65) (ρ0 2)) (ρ0 3) (some 66) ln (fun _=>lt)) [1,3,4,5,6] (ZU w b [] _ _ _ _ _ _ _ _ _ _ 66 (ZN h1 (by simp [more])) (ZP _ (by decide))) fun ρ1=>.l 1003010000030005021910040218121900040218121900040100300301001001 (.t fun t17=>.l 2020002300110030100 (.k (ZV w a1 z ln lt [] ep (more (more gs (some 65) (ρ0 2)) (some 66) (ρ1 2)) (ρ1 3) (some 10) (ln + 1) (fun ρ=>ρ 1)) [1,3,4,5,6] (VN w b [] _ _ _ _ _ _ _ _ _ _ (ZN h2 (by simp [more]))) fun ρ2=>.l 30005021910040218121900040218121900040100300301001001 (.z [4] (rl [t17,ρ2 1,ρ2 3,0,0,0,0,0,0,0,ρ0 2,ρ1 2,ρ2 2])))))))
theorem Gc (w:World) (b:Bool) (RO:ZA) (T:Str) (t:Nat) (z:Nat→Nat) (ln:Int) (lt ep:Nat) (gs:List Value) (eg:Nat) (h0:at1 T (gs.length + 0) (some 65)) (h1:at1 T (gs.length + 1) (some 66)) (h2:at1 T (gs.length + 2) (some 10)):(YK w z ln lt ep gs eg [65,66,10] ⟨#[65,66]⟩ true).ok (wf w b) (ZL w T t z) 700:=
 cB (fd108 _) (Jl w b RO T t z ln lt ep gs eg h0 h1 h2) (by cases b<;>kernel_rfl)
noncomputable def Jm (w:World) (b:Bool) (RO:ZA) (T:Str) (t:Nat) (z:Nat→Nat) (ln:Int) (lt ep:Nat) (gs:List Value) (eg:Nat) (h0:at1 T (gs.length + 0) (some 34)) (h1:at1 T (gs.length + 1) (some 65)) (h2:at1 T (gs.length + 2) (some 66)) (h3:at1 T (gs.length + 3) (some 34)):CE (wf w b) (ZL w T t z) []:=
 .l 202021812190003021910022202021812190002021812190002010000010101010410013100400400030219100202181219000202181219000201002001010000990208 (.a fun a1=>.l 2020002700120030100009900010100 (.k (ZV w a1 z ln lt [] ep (gs) eg (some 34) ln (fun _=>lt)) [1,3,4,5,6] (ZU w b [] _ _ _ _ _ _ _ _ _ _ 34 (ZN h0 (by simp [more])) (ZP _ (by decide))) fun ρ0=>.l 202000270010003010000030005021910040218121900040218121900040100300301001001 (.k (ZV w a1 z ln lt [] ep (more gs (some 34) (ρ0 2)) (ρ0 3) (some 65) ln (fun _=>lt)) [1,3,4,5,6] (ZU w b [] _ _ _ _ _ _ _ _ _ _ 65 (ZN h1 (by simp [more])) (ZP _ (by decide))) fun ρ1=>.l 20200023001100301001003010000030100200301001001 (.k (ZV w a1 z ln lt [] ep (more (more gs (some 34) (ρ0 2)) (some 65) (ρ1 2)) (ρ1 3) (some 66) ln (fun _=>lt)) [1,3,4,5,6] (ZU w b [] _ _ _ _ _ _ _ _ _ _ 66 (ZN h2 (by simp [more])) (ZP _ (by decide))) fun ρ2=>.l 1003010000030100200301001001 (.t fun t19=>.l 2020002300110030100 (.k (ZV w a1 z ln lt [] ep (more (more (more gs (some 34) (ρ0 2)) (some 65) (ρ1 2)) (some 66) (ρ2 2)) (ρ2 3) (some 34) ln (fun _=>lt)) [1,3,4,5,6] (ZU w b [] _ _ _ _ _ _ _ _ _ _ 34 (ZN h3 (by simp [more])) (ZP _ (by decide))) fun ρ3=>.l 30100200301001001 (.z [4] (rl [t19,0,ρ3 3,0,0,0,0,0,0,0,ρ0 2,ρ1 2,ρ2 2,ρ3 2]))))))))
theorem Gd (w:World) (b:Bool) (RO:ZA) (T:Str) (t:Nat) (z:Nat→Nat) (ln:Int) (lt ep:Nat) (gs:List Value) (eg:Nat) (h0:at1 T (gs.length + 0) (some 34)) (h1:at1 T (gs.length + 1) (some 65)) (h2:at1 T (gs.length + 2) (some 66)) (h3:at1 T (gs.length + 3) (some 34)):(YK w z ln lt ep gs eg [34,65,66,34] ⟨#[65,66]⟩ false).ok (wf w b) (ZL w T t z) 700:=
 cB (fd108 _) (Jm w b RO T t z ln lt ep gs eg h0 h1 h2 h3) (by cases b<;>kernel_rfl)
noncomputable def Jn (w:World) (b:Bool) (RO:ZA) (T:Str) (t:Nat) (z:Nat→Nat) (ln:Int) (lt ep:Nat) (gs:List Value) (eg:Nat) (h0:at1 T (gs.length + 0) (some 34)) (h1:at1 T (gs.length + 1) (some 67)) (h2:at1 T (gs.length + 2) (some 92)) (h3:at1 T (gs.length + 3) (some 34)) (h4:at1 T (gs.length + 4) (some 34)):CE (wf w b) (ZL w T t z) []:=
 .l 202021812190003021910022202021812190002021812190002010000010101010410013100400400030219100202181219000202181219000201002001010000990208 (.a fun a1=>.l 2020002700120030100009900010100 (.k (ZV w a1 z ln lt [] ep (gs) eg (some 34) ln (fun _=>lt)) [1,3,4,5,6] (ZU w b [] _ _ _ _ _ _ _ _ _ _ 34 (ZN h0 (by simp [more])) (ZP _ (by decide))) fun ρ0=>.l 202000270010003010000030005021910040218121900040218121900040100300301001001 (.k (ZV w a1 z ln lt [] ep (more gs (some 34) (ρ0 2)) (ρ0 3) (some 67) ln (fun _=>lt)) [1,3,4,5,6] (ZU w b [] _ _ _ _ _ _ _ _ _ _ 67 (ZN h1 (by simp [more])) (ZP _ (by decide))) fun ρ1=>.l 20200023001100301001003010000030100200301001001 (.k (ZV w a1 z ln lt [] ep (more (more gs (some 34) (ρ0 2)) (some 67) (ρ1 2)) (ρ1 3) (some 92) ln (fun _=>lt)) [1,3,4,5,6] (ZU w b [] _ _ _ _ _ _ _ _ _ _ 92 (ZN h2 (by simp [more])) (ZP _ (by decide))) fun ρ2=>.l 2020005000402020218121900040218121900040218121900040003010000030100200301001001 (.k (WX w z ln lt [] ep (more (more (more gs (some 34) (ρ0 2)) (some 67) (ρ1 2)) (some 92) (ρ2 2)) (ρ2 3) (some 34) ln (fun _=>lt)) [3,4,5,6] (Vt w b [] _ _ _ _ _ _ _ _ _ 34 (ZN h3 (by simp [more])) (ZP _ (by decide))) fun ρ3=>.l 30030100 (.t fun t20=>.l 2020002300110030100 (.k (ZV w a1 z ln lt [] ep (more (more (more (more gs (some 34) (ρ0 2)) (some 67) (ρ1 2)) (some 92) (ρ2 2)) (some 34) (ρ3 2)) (ρ3 3) (some 34) ln (fun _=>lt)) [1,3,4,5,6] (ZU w b [] _ _ _ _ _ _ _ _ _ _ 34 (ZN h4 (by simp [more])) (ZP _ (by decide))) fun ρ4=>.l 30100200301001001 (.z [4] (rl [t20,0,ρ4 3,0,0,0,0,0,0,0,ρ0 2,ρ1 2,ρ2 2,ρ3 2,ρ4 2])))))))))
theorem Ld (w:World) (b:Bool) (RO:ZA) (T:Str) (t:Nat) (z:Nat→Nat) (ln:Int) (lt ep:Nat) (gs:List Value) (eg:Nat) (h0:at1 T (gs.length + 0) (some 34)) (h1:at1 T (gs.length + 1) (some 67)) (h2:at1 T (gs.length + 2) (some 92)) (h3:at1 T (gs.length + 3) (some 34)) (h4:at1 T (gs.length + 4) (some 34)):(YK w z ln lt ep gs eg [34,67,92,34,34] ⟨#[67,34]⟩ false).ok (wf w b) (ZL w T t z) 700:=
 cB (fd108 _) (Jn w b RO T t z ln lt ep gs eg h0 h1 h2 h3 h4) (by cases b<;>kernel_rfl)
noncomputable def Jo (w:World) (b:Bool) (RO:ZA) (T:Str) (t:Nat) (z:Nat→Nat) (ln:Int) (lt ep:Nat) (gs:List Value) (eg:Nat) (h0:at1 T (gs.length + 0) (some 34)) (h1:at1 T (gs.length + 1) (some 100)) (h2:at1 T (gs.length + 2) (some 92)) (h3:at1 T (gs.length + 3) (some 92)) (h4:at1 T (gs.length + 4) (some 34)):CE (wf w b) (ZL w T t z) []:=
 .l 202021812190003021910022202021812190002021812190002010000010101010410013100400400030219100202181219000202181219000201002001010000990208 (.a fun a1=>.l 2020002700120030100009900010100 (.k (ZV w a1 z ln lt [] ep (gs) eg (some 34) ln (fun _=>lt)) [1,3,4,5,6] (ZU w b [] _ _ _ _ _ _ _ _ _ _ 34 (ZN h0 (by simp [more])) (ZP _ (by decide))) fun ρ0=>.l 202000270010003010000030005021910040218121900040218121900040100300301001001 (.k (ZV w a1 z ln lt [] ep (more gs (some 34) (ρ0 2)) (ρ0 3) (some 100) ln (fun _=>lt)) [1,3,4,5,6] (ZU w b [] _ _ _ _ _ _ _ _ _ _ 100 (ZN h1 (by simp [more])) (ZP _ (by decide))) fun ρ1=>.l 20200023001100301001003010000030100200301001001 (.k (ZV w a1 z ln lt [] ep (more (more gs (some 34) (ρ0 2)) (some 100) (ρ1 2)) (ρ1 3) (some 92) ln (fun _=>lt)) [1,3,4,5,6] (ZU w b [] _ _ _ _ _ _ _ _ _ _ 92 (ZN h2 (by simp [more])) (ZP _ (by decide))) fun ρ2=>.l 2020005000402020218121900040218121900040218121900040003010000030100200301001001 (.k (WX w z ln lt [] ep (more (more (more gs (some 34) (ρ0 2)) (some 100) (ρ1 2)) (some 92) (ρ2 2)) (ρ2 3) (some 92) ln (fun _=>lt)) [3,4,5,6] (Vt w b [] _ _ _ _ _ _ _ _ _ 92 (ZN h3 (by simp [more])) (ZP _ (by decide))) fun ρ3=>.l 30030100 (.t fun t20=>.l 2020002300110030100 (.k (ZV w a1 z ln lt [] ep (more (more (more (more gs (some 34) (ρ0 2)) (some 100) (ρ1 2)) (some 92) (ρ2 2)) (some 92) (ρ3 2)) (ρ3 3) (some 34) ln (fun _=>lt)) [1,3,4,5,6] (ZU w b [] _ _ _ _ _ _ _ _ _ _ 34 (ZN h4 (by simp [more])) (ZP _ (by decide))) fun ρ4=>.l 30100200301001001 (.z [4] (rl [t20,0,ρ4 3,0,0,0,0,0,0,0,ρ0 2,ρ1 2,ρ2 2,ρ3 2,ρ4 2])))))))))
theorem Le (w:World) (b:Bool) (RO:ZA) (T:Str) (t:Nat) (z:Nat→Nat) (ln:Int) (lt ep:Nat) (gs:List Value) (eg:Nat) (h0:at1 T (gs.length + 0) (some 34)) (h1:at1 T (gs.length + 1) (some 100)) (h2:at1 T (gs.length + 2) (some 92)) (h3:at1 T (gs.length + 3) (some 92)) (h4:at1 T (gs.length + 4) (some 34)):(YK w z ln lt ep gs eg [34,100,92,92,34] ⟨#[100,92]⟩ false).ok (wf w b) (ZL w T t z) 700:=
 cB (fd108 _) (Jo w b RO T t z ln lt ep gs eg h0 h1 h2 h3 h4) (by cases b<;>kernel_rfl)
noncomputable def Jp (w:World) (b:Bool) (RO:ZA) (T:Str) (t:Nat) (z:Nat→Nat) (ln:Int) (lt ep:Nat) (gs:List Value) (eg:Nat) (h0:at1 T (gs.length + 0) (some 34)) (h1:at1 T (gs.length + 1) (some 69)) (h2:at1 T (gs.length + 2) (some 32)) (h3:at1 T (gs.length + 3) (some 70)) (h4:at1 T (gs.length + 4) (some 34)):CE (wf w b) (ZL w T t z) []:=
 .l 202021812190003021910022202021812190002021812190002010000010101010410013100400400030219100202181219000202181219000201002001010000990208 (.a fun a1=>.l 2020002700120030100009900010100 (.k (ZV w a1 z ln lt [] ep (gs) eg (some 34) ln (fun _=>lt)) [1,3,4,5,6] (ZU w b [] _ _ _ _ _ _ _ _ _ _ 34 (ZN h0 (by simp [more])) (ZP _ (by decide))) fun ρ0=>.l 202000270010003010000030005021910040218121900040218121900040100300301001001 (.k (ZV w a1 z ln lt [] ep (more gs (some 34) (ρ0 2)) (ρ0 3) (some 69) ln (fun _=>lt)) [1,3,4,5,6] (ZU w b [] _ _ _ _ _ _ _ _ _ _ 69 (ZN h1 (by simp [more])) (ZP _ (by decide))) fun ρ1=>.l 20200023001100301001003010000030100200301001001 (.k (ZV w a1 z ln lt [] ep (more (more gs (some 34) (ρ0 2)) (some 69) (ρ1 2)) (ρ1 3) (some 32) ln (fun _=>lt)) [1,3,4,5,6] (ZU w b [] _ _ _ _ _ _ _ _ _ _ 32 (ZN h2 (by simp [more])) (ZP _ (by decide))) fun ρ2=>.l 20200023001100311001003010000030100200301001001 (.k (ZV w a1 z ln lt [] ep (more (more (more gs (some 34) (ρ0 2)) (some 69) (ρ1 2)) (some 32) (ρ2 2)) (ρ2 3) (some 70) ln (fun _=>lt)) [1,3,4,5,6] (ZU w b [] _ _ _ _ _ _ _ _ _ _ 70 (ZN h3 (by simp [more])) (ZP _ (by decide))) fun ρ3=>.l 1003010000030100200301001001 (.t fun t24=>.l 2020002300110030100 (.k (ZV w a1 z ln lt [] ep (more (more (more (more gs (some 34) (ρ0 2)) (some 69) (ρ1 2)) (some 32) (ρ2 2)) (some 70) (ρ3 2)) (ρ3 3) (some 34) ln (fun _=>lt)) [1,3,4,5,6] (ZU w b [] _ _ _ _ _ _ _ _ _ _ 34 (ZN h4 (by simp [more])) (ZP _ (by decide))) fun ρ4=>.l 30100200301001001 (.z [4] (rl [t24,0,ρ4 3,0,0,0,0,0,0,0,ρ0 2,ρ1 2,ρ2 2,ρ3 2,ρ4 2])))))))))
theorem Lf (w:World) (b:Bool) (RO:ZA) (T:Str) (t:Nat) (z:Nat→Nat) (ln:Int) (lt ep:Nat) (gs:List Value) (eg:Nat) (h0:at1 T (gs.length + 0) (some 34)) (h1:at1 T (gs.length + 1) (some 69)) (h2:at1 T (gs.length + 2) (some 32)) (h3:at1 T (gs.length + 3) (some 70)) (h4:at1 T (gs.length + 4) (some 34)):(YK w z ln lt ep gs eg [34,69,32,70,34] ⟨#[69,32,70]⟩ false).ok (wf w b) (ZL w T t z) 700:=
 cB (fd108 _) (Jp w b RO T t z ln lt ep gs eg h0 h1 h2 h3 h4) (by cases b<;>kernel_rfl)
noncomputable def Lg (w:World) (b:Bool) (RO:ZA) (T:Str) (t:Nat) (z:Nat→Nat) (ln:Int) (lt ep:Nat) (gs:List Value) (eg:Nat) (h0:at1 T (gs.length + 0) (some 34)) (h1:at1 T (gs.length + 1) (some 103)) (h2:at1 T (gs.length + 2) (some 61)) (h3:at1 T (gs.length + 3) (some 34)):CE (wf w b) (ZL w T t z) []:=
 .l 202021812190003021910022202021812190002021812190002010000010101010410013100400400030219100202181219000202181219000201002001010000990208 (.a fun a1=>.l 2020002700120030100009900010100 (.k (ZV w a1 z ln lt [] ep (gs) eg (some 34) ln (fun _=>lt)) [1,3,4,5,6] (ZU w b [] _ _ _ _ _ _ _ _ _ _ 34 (ZN h0 (by simp [more])) (ZP _ (by decide))) fun ρ0=>.l 202000270010003010000030005021910040218121900040218121900040100300301001001 (.k (ZV w a1 z ln lt [] ep (more gs (some 34) (ρ0 2)) (ρ0 3) (some 103) ln (fun _=>lt)) [1,3,4,5,6] (ZU w b [] _ _ _ _ _ _ _ _ _ _ 103 (ZN h1 (by simp [more])) (ZP _ (by decide))) fun ρ1=>.l 20200023001100301001003010000030100200301001001 (.k (ZV w a1 z ln lt [] ep (more (more gs (some 34) (ρ0 2)) (some 103) (ρ1 2)) (ρ1 3) (some 61) ln (fun _=>lt)) [1,3,4,5,6] (ZU w b [] _ _ _ _ _ _ _ _ _ _ 61 (ZN h2 (by simp [more])) (ZP _ (by decide))) fun ρ2=>.l 1003010000030100200301001001 (.t fun t19=>.l 2020002300110030100 (.k (ZV w a1 z ln lt [] ep (more (more (more gs (some 34) (ρ0 2)) (some 103) (ρ1 2)) (some 61) (ρ2 2)) (ρ2 3) (some 34) ln (fun _=>lt)) [1,3,4,5,6] (ZU w b [] _ _ _ _ _ _ _ _ _ _ 34 (ZN h3 (by simp [more])) (ZP _ (by decide))) fun ρ3=>.l 30100200301001001 (.z [4] (rl [t19,0,ρ3 3,0,0,0,0,0,0,0,ρ0 2,ρ1 2,ρ2 2,ρ3 2]))))))))
theorem Oa (w:World) (b:Bool) (RO:ZA) (T:Str) (t:Nat) (z:Nat→Nat) (ln:Int) (lt ep:Nat) (gs:List Value) (eg:Nat) (h0:at1 T (gs.length + 0) (some 34)) (h1:at1 T (gs.length + 1) (some 103)) (h2:at1 T (gs.length + 2) (some 61)) (h3:at1 T (gs.length + 3) (some 34)):(YK w z ln lt ep gs eg [34,103,61,34] ⟨#[103,61]⟩ false).ok (wf w b) (ZL w T t z) 700:=
 cB (fd108 _) (Lg w b RO T t z ln lt ep gs eg h0 h1 h2 h3) (by cases b<;>kernel_rfl)
noncomputable def Lh (w:World) (b:Bool) (RO:ZA) (T:Str) (t:Nat) (z:Nat→Nat) (ln:Int) (lt ep:Nat) (gs:List Value) (eg:Nat) (h0:at1 T (gs.length + 0) (some 72)) (h1:at1 T (gs.length + 1) (some 35)) (h2:at1 T (gs.length + 2) (some 10)):CE (wf w b) (ZL w T t z) []:=
 .l 202021812190003021910022202021812190002021812190002010000010101010410013100400400030219100202181219000202181219000201002001010000990208 (.a fun a1=>.l 2020002700120030100009900010100 (.k (ZV w a1 z ln lt [] ep (gs) eg (some 72) ln (fun _=>lt)) [1,3,4,5,6] (ZU w b [] _ _ _ _ _ _ _ _ _ _ 72 (ZN h0 (by simp [more])) (ZP _ (by decide))) fun ρ0=>.l 2020002700120030100100301000003010000030005021910040218121900040218121900040100300301001001 (.k (ZV w a1 z ln lt [] ep (more gs (some 72) (ρ0 2)) (ρ0 3) (some 35) ln (fun _=>lt)) [1,3,4,5,6] (ZU w b [] _ _ _ _ _ _ _ _ _ _ 35 (ZN h1 (by simp [more])) (ZP _ (by decide))) fun ρ1=>.l 1003010000030005021910040218121900040218121900040100300301001001 (.t fun t17=>.l 2020002300110030100 (.k (ZV w a1 z ln lt [] ep (more (more gs (some 72) (ρ0 2)) (some 35) (ρ1 2)) (ρ1 3) (some 10) (ln + 1) (fun ρ=>ρ 1)) [1,3,4,5,6] (VN w b [] _ _ _ _ _ _ _ _ _ _ (ZN h2 (by simp [more]))) fun ρ2=>.l 30005021910040218121900040218121900040100300301001001 (.z [4] (rl [t17,ρ2 1,ρ2 3,0,0,0,0,0,0,0,ρ0 2,ρ1 2,ρ2 2])))))))
theorem HC (w:World) (b:Bool) (RO:ZA) (T:Str) (t:Nat) (z:Nat→Nat) (ln:Int) (lt ep:Nat) (gs:List Value) (eg:Nat) (h0:at1 T (gs.length + 0) (some 72)) (h1:at1 T (gs.length + 1) (some 35)) (h2:at1 T (gs.length + 2) (some 10)):(YK w z ln lt ep gs eg [72,35,10] ⟨#[72,35]⟩ true).ok (wf w b) (ZL w T t z) 700:=
 cB (fd108 _) (Lh w b RO T t z ln lt ep gs eg h0 h1 h2) (by cases b<;>kernel_rfl)
noncomputable def Li (w:World) (b:Bool) (RO:ZA) (T:Str) (t:Nat) (z:Nat→Nat) (ln:Int) (lt ep:Nat) (gs:List Value) (eg:Nat) (h0:at1 T (gs.length + 0) (some 34)) (h1:at1 T (gs.length + 1) (some 72)) (h2:at1 T (gs.length + 2) (some 35)) (h3:at1 T (gs.length + 3) (some 34)):CE (wf w b) (ZL w T t z) []:=
 .l 202021812190003021910022202021812190002021812190002010000010101010410013100400400030219100202181219000202181219000201002001010000990208 (.a fun a1=>.l 2020002700120030100009900010100 (.k (ZV w a1 z ln lt [] ep (gs) eg (some 34) ln (fun _=>lt)) [1,3,4,5,6] (ZU w b [] _ _ _ _ _ _ _ _ _ _ 34 (ZN h0 (by simp [more])) (ZP _ (by decide))) fun ρ0=>.l 202000270010003010000030005021910040218121900040218121900040100300301001001 (.k (ZV w a1 z ln lt [] ep (more gs (some 34) (ρ0 2)) (ρ0 3) (some 72) ln (fun _=>lt)) [1,3,4,5,6] (ZU w b [] _ _ _ _ _ _ _ _ _ _ 72 (ZN h1 (by simp [more])) (ZP _ (by decide))) fun ρ1=>.l 20200023001100301001003010000030100200301001001 (.k (ZV w a1 z ln lt [] ep (more (more gs (some 34) (ρ0 2)) (some 72) (ρ1 2)) (ρ1 3) (some 35) ln (fun _=>lt)) [1,3,4,5,6] (ZU w b [] _ _ _ _ _ _ _ _ _ _ 35 (ZN h2 (by simp [more])) (ZP _ (by decide))) fun ρ2=>.l 1003010000030100200301001001 (.t fun t19=>.l 2020002300110030100 (.k (ZV w a1 z ln lt [] ep (more (more (more gs (some 34) (ρ0 2)) (some 72) (ρ1 2)) (some 35) (ρ2 2)) (ρ2 3) (some 34) ln (fun _=>lt)) [1,3,4,5,6] (ZU w b [] _ _ _ _ _ _ _ _ _ _ 34 (ZN h3 (by simp [more])) (ZP _ (by decide))) fun ρ3=>.l 30100200301001001 (.z [4] (rl [t19,0,ρ3 3,0,0,0,0,0,0,0,ρ0 2,ρ1 2,ρ2 2,ρ3 2]))))))))
theorem HD (w:World) (b:Bool) (RO:ZA) (T:Str) (t:Nat) (z:Nat→Nat) (ln:Int) (lt ep:Nat) (gs:List Value) (eg:Nat) (h0:at1 T (gs.length + 0) (some 34)) (h1:at1 T (gs.length + 1) (some 72)) (h2:at1 T (gs.length + 2) (some 35)) (h3:at1 T (gs.length + 3) (some 34)):(YK w z ln lt ep gs eg [34,72,35,34] ⟨#[72,35]⟩ false).ok (wf w b) (ZL w T t z) 700:=
 cB (fd108 _) (Li w b RO T t z ln lt ep gs eg h0 h1 h2 h3) (by cases b<;>kernel_rfl)
end
section
open PySem PySem.W PySem.W.X PySem.Calls PyProof.Rows PySem.Spec
noncomputable def ciO (a t:Nat):Obj:=⟨.type "callable_iterator",none,.fields #[.ref a,.str ⟨#[]⟩ t,.bool false],#[]⟩
noncomputable def ciE:Obj:=⟨.type "callable_iterator",none,.fields #[.none,.none,.bool true],#[]⟩
noncomputable def VC (a:Nat):Obj:=⟨.type "StopIteration",none,.fields #[.ref a,.none,.none,.none,.bool false,.none],#[]⟩
noncomputable def Jq (a:Nat):Sem PySem.Fin:=R.bindR (PySem.W.Fast.tw3205988728414705400 (PySem.W.Fast.tw2547987554251169477 (.ref a))) fun e=>.pure (.done (match e with | .ok v=>.ret v | .error _=>.next))
noncomputable def Ge (a:Nat):Sem PySem.Fin:=R.bindR (PySem.W.Fast.tw7774638238746244234 (.ref a)) fun _=>PySem.W.Fast.tw17615448654315672387
noncomputable def TE (w:World) (a:Nat) (z:Nat→Nat) (ln:Int) (lt:Nat) (vs:List Value) (ep:Nat) (gs:List Value) (eg:Nat):Con:={ ZV w a z ln lt vs ep gs eg none ln (fun _=>lt) with code:=.call (.builtin "x") ⟨[],[]⟩ }
noncomputable def QB (i a t q:Nat):Con:={ code:=.call (.builtin "x") ⟨[],[]⟩,mem:=[(a,VB 101 q),(i,ciO a t)],r:=fun ρ=>.error (.ref (ρ 0)),upd:=fun _=>[VB 101 q,ciE],new:=fun ρ=>[(ρ 0,VC (ρ 1)),(ρ 1,⟨.type "tuple",none,.seq #[] 0,#[]⟩)] }
end
section
open PySem PySem.W
theorem Gf (w:World) (b:Bool) (RO:ZA) (a:Nat) (T:Str) (t:Nat) (z:Nat→Nat) (ln:Int) (lt:Nat) (vs:List Value) (ep:Nat) (gs:List Value) (eg:Nat) (hc:at1 T gs.length none):Zd (wf w b) (ZL w T t z) 790 (Jq a) (TE w a z ln lt vs ep gs eg).mem (TE w a z ln lt vs ep gs eg).post:=
 Zd.of (.l 2020001 (.k (ZV w a z ln lt vs ep gs eg none ln (fun _=>lt)) [0,1,2,3,4] (GV w b [] _ _ _ _ _ _ _ _ _ _ hc) fun ρ0=>.z [] (rl [ρ0 0,0,ρ0 2,ρ0 3]))) (fun _=>(by kernel_rfl))
theorem Gg (w:World) (b:Bool) (RO:ZA) (i a t q:Nat):Zd (wf w b) RO 790 (Ge i) (QB i a t q).mem (QB i a t q).post:=
 Zd.of (.l 5002020200010002 (.a fun a0=>.a fun a1=>.z [] (rl [a1,a0]))) (fun _=>(by kernel_rfl))
end
section
open PySem PySem.W PySem.W.X PySem.Calls PyProof.Rows PySem.Spec
theorem Zd.val {α:Type} {w:World} {RO:ZA} {D D':Nat} {m:Sem α} {F:α→PySem.Fin} {M:ZA} {K:Result→ZA→Prop} (T:Zd w RO D (Sem.bind m fun o=>.pure (F o)) M K) (hF:∀ o,∃ f,F o = .done f) (hD:D'≤D) {c:Code} (hc:Zg c) {h:Heap} {g:Array GenState} {d:Drawn} {t:Nat} {os:OsState} (ht:0 < t) (hM:Holds w.params RO M h) {Q:α→Shared→Prop} {E:Value→Shared→Prop}
  (hQ:∀ r M' h' g' t',0 < t'→K r M'→Holds w.params RO M' h'→Ext M h M' h'→(AllBare g→AllBare g')→∃ f,r = .ok f∧∀ o,F o = .done f→Q o ⟨h',g',d,t',os⟩):wpOwn (model PP w) (Z2 D') c m Q E ⟨h,g,d,t,os⟩:=by
 have x:=T c hc h g d t os (fun r s=>∃ f,r = .ok f∧∀ o,F o = .done f→Q o s) ht hM hQ
 unfold X7 at x
 intro Γ p hΓc hΓ
 have z:=x Γ p hΓc (Xy (Yy hD) hΓ)
 rw [Sem.wp_bind] at z
 refine Sem.wp_mono _ Γ _ (fun o p' s' y=>?_) (fun e p' s' y=>?_) p _ z
 ·obtain ⟨f,hf⟩:=hF o
  have y':QF w D _ [] (F o) s':=y
  rw [hf] at y'
  obtain ⟨f',e,q⟩:=y'.1
  cases e
  exact q o hf
 ·obtain ⟨f',e,_⟩:=(show ∃ f,(.error e:Result) = .ok f∧_ from y)
  cases e
noncomputable def Vu (w:World) (i a t:Nat) (z:Nat→Nat) (ln:Int) (lt:Nat) (vs:List Value) (ep:Nat) (gs:List Value) (eg:Nat):Con:=
 {code:=.builtin "callable_iterator.__next__" ⟨[.ref i],[]⟩,mem:=(i,ciO a t)::(a,VB 101 (z 30))::Wj w z ln lt vs ep gs eg,r:=fun ρ=>.error (.ref (ρ 0)),
  upd:=fun ρ=>ciE::VB 101 (z 30)::(Wj w z ln lt vs ep gs (ρ 3)).map (·.2),new:=fun ρ=>[(ρ 0,VC (ρ 1)),(ρ 1,⟨.type "tuple",none,.seq #[] 0,#[]⟩)] }
noncomputable def QC (w:World) (i a t:Nat) (z:Nat→Nat) (ln:Int) (lt:Nat) (vs:List Value) (ep:Nat) (gs:List Value) (eg:Nat):Con:={ Vu w i a t z ln lt vs ep gs eg with code:=.call (.builtin "callable_iterator.__next__") ⟨[.ref i],[]⟩ }
noncomputable def Lj (w:World) (i a t:Nat) (z:Nat→Nat) (ln:Int) (lt:Nat) (vs:List Value) (ep:Nat) (gs:List Value) (eg:Nat):Con:=
 {code:=.call (.builtin "callable_iterator.__next__") ⟨[.ref i],[]⟩,mem:=(i,ciO a t)::(a,VB 101 (z 30))::Wj w z ln lt vs ep gs eg,r:=fun ρ=>.ok (.ret (.str ⟨#[10]⟩ (ρ 0))),
  upd:=fun ρ=>ciO a t::VB 101 (z 30)::(Wj w z (ln + 1) (ρ 1) vs ep (more gs (some 10) (ρ 2)) (ρ 3)).map (·.2),new:=fun _=>[] }
theorem HE (a:Nat):Jq a=Sem.bind ((callOutOfASlot (.ref a)).attempt) fun e=>.pure (.done (match e with | Except.ok v=>.ret v | Except.error _=>.next)):=by
 unfold Jq
 rw [← R.bindR_eq,← PySem.W.Fast.te3205988728414705400,← PySem.W.Fast.te2547987554251169477]
 all_goals rfl
theorem Jr:entryFor table "callable_iterator.__next__"=some Builtin.«callable_iterator.__next__»:=entryFor_of_fast (by kernel_rfl)
theorem MJ {w:World} {A:Around} {Q:PySem.Fin→Shared→Prop} {E:Value→Shared→Prop} {s:Shared} {c:Code} {t t':Sem PySem.Fin} (e:skim ⟨PP,w.params⟩ 1 t=t') (x:wpOwn (model PP w) A c t' Q E s):wpOwn (model PP w) A c t Q E s:=y_skim _ _ _ _ _ _ _ _ t 1 (e▸x)
theorem Gh (w:World) (b:Bool) (i a t':Nat) (T:Str) (t:Nat) (z:Nat→Nat) (ln:Int) (lt:Nat) (vs:List Value) (ep:Nat) (gs:List Value) (eg:Nat) (hc:at1 T gs.length none):(Vu w i a t' z ln lt vs ep gs eg).ok (wf w b) (ZL w T t z) 780:=by
 intro h g d tk os R ht hM hR
 have hn:Zg (.builtin "callable_iterator.__next__" ⟨[.ref i],[]⟩):=X0 (by decide +kernel)
 refine y_code _ _ _ _ _ _ ?_
 show wpOwn _ _ (.builtin "callable_iterator.__next__" ⟨[.ref i],[]⟩) (denote table (.builtin "callable_iterator.__next__" ⟨[.ref i],[]⟩)) _ _ _
 rw [Xn Jr]
 have ho:h.get? i=some (ciO a t'):=hM.at_ (i,ciO a t') (.head _)
 show wpOwn _ _ _ (field (.ref i) 2 >>= _) _ _ _
 refine wpOwn_bind (wpOwn_of_wpAny (wpAny_field ho rfl rfl ?_))
 show wpOwn _ _ _ (field (.ref i) 0 >>= _) _ _ _
 refine wpOwn_bind (wpOwn_of_wpAny (wpAny_field ho rfl rfl ?_))
 have T2:=Gf w b (ZL w T t z) a T t z ln lt vs ep gs eg hc
 rw [HE] at T2
 have hs:Z9 (Vu w i a t' z ln lt vs ep gs eg).mem [1,2,3,4,5]=some (TE w a z ln lt vs ep gs eg).mem:=rfl
 refine wpOwn_bind (Zd.val T2 (fun o=>by cases o<;>exact ⟨_,rfl⟩) (by decide) hn ht (hM.sub (ro:=[]) rfl rfl hs rfl) fun r M' h' g' t'' ht'' k hM' hE' hB'=>?_)
 obtain ⟨ρ,rfl,rfl,hl⟩:=k
 refine ⟨_,rfl,fun o ho'=>?_⟩
 have e1:=hM.called (ro₁:=[]) (NR:=[]) (N:=[]) hs hl hM' hE'
 have e2:=(Ext.refl _ h).called (NR:=[]) (N:=[]) hs hl hM' hE'
 cases o with
 | error e=>cases ho'
 | ok v=>
 cases ho'
 have ho1:h'.get? i=some (ciO a t'):=e1.at_ (i,ciO a t') (.head _)
 show wpOwn _ _ _ (field (.ref i) 2 >>= _) _ _ _
 refine wpOwn_bind (wpOwn_of_wpAny (wpAny_field ho1 rfl rfl ?_))
 show wpOwn _ _ _ (field (.ref i) 1 >>= _) _ _ _
 refine wpOwn_bind (wpOwn_of_wpAny (wpAny_field ho1 rfl rfl ?_))
 refine wpOwn_bind (wpOwn_of_wpAny (wpAny_holding (wpAny_eqBool_str ?_)))
 rw [show decide ((⟨#[]⟩:Str)=got none)=true from decide_eq_true rfl]
 refine MJ rfl ?_
 have hs3:Z9 (Yb (Vu w i a t' z ln lt vs ep gs eg).mem [1,2,3,4,5] ((TE w a z ln lt vs ep gs eg).upd ρ)) [1,0]=some (QB i a t' (z 30)).mem:=rfl
 have x:=Gg w b (ZL w T t z) i a t' (z 30) (.builtin "callable_iterator.__next__" ⟨[.ref i],[]⟩) hn h' g' d t'' os R ht'' (e1.sub (ro:=[]) rfl rfl hs3 rfl) fun r M'' h'' g'' t3 ht3 k'' hM'' hE'' hB''=>by
  obtain ⟨ρ',rfl,rfl,hl'⟩:=k''
  have f1:=e1.called (ro₁:=[]) (NR:=[]) (N:=[(ρ' 0,VC (ρ' 1)),(ρ' 1,⟨.type "tuple",none,.seq #[] 0,#[]⟩)]) hs3 hl' hM'' hE''
  have f2:=e2.called (NR:=[]) (N:=[(ρ' 0,VC (ρ' 1)),(ρ' 1,⟨.type "tuple",none,.seq #[] 0,#[]⟩)]) hs3 hl' hM'' hE''
  exact hR _ _ _ _ _ ht3 ⟨rl [ρ' 0,ρ' 1,0,ρ 3],rfl,rfl,rfl⟩ f1 f2 fun y=>hB'' (hB' y)
 unfold X7 Ge at x
 rw [← PySem.W.R.bindR_eq,← PySem.W.Fast.te7774638238746244234,← PySem.W.Fast.te17615448654315672387] at x
 intro Γ p hΓc hΓ
 have z:=x Γ p hΓc (Xy (Yy (by decide)) hΓ)
 refine Sem.wp_mono _ Γ _ (fun fin p' s' y=>?_) (fun _ _ _ y=>y) p _ z
 have y:=y.1
 cases fin with
 | done f=>exact y
 | again c'=>exact ⟨y.1,Yp (Yy (by decide)) y.2⟩
end
section
open PySem PySem.W
theorem Ll (w:World) (b:Bool) (RO:ZA) (i a t':Nat) (T:Str) (t:Nat) (z:Nat→Nat) (ln:Int) (lt:Nat) (vs:List Value) (ep:Nat) (gs:List Value) (eg:Nat) (hc:at1 T gs.length none):(QC w i a t' z ln lt vs ep gs eg).ok (wf w b) (ZL w T t z) 770:=
 cR (.l 1 (.i (Vu w i a t' z ln lt vs ep gs eg) [0,1,2,3,4,5] (Gh w b _ _ _ _ _ _ _ _ _ _ _ _ hc) [] (fun ρ0=>(rl [ρ0 0,ρ0 1,0,ρ0 3])))) (by kernel_rfl)
noncomputable def Js (w:World) (b:Bool) (RO:ZA) (T:Str) (t:Nat) (z:Nat→Nat) (ln:Int) (lt ep:Nat) (gs:List Value) (eg:Nat) (h0:at1 T gs.length none):CE (wf w b) (ZL w T t z) []:=
 .l 1100400400030219100202181219000202181219000201002001010000990208 (.t fun t4=>.l 202021812190003021910022202021812190002021812190002010000010101010410010100 (.a fun a1=>.t fun t7=>.l 1 (.a fun a2=>.l 400120030100 (.k (QC w a2 a1 t7 z ln lt [] ep (gs) eg) [0,1,3,4,5,6] (Ll w b [] _ _ _ _ _ _ _ _ _ _ _ _ h0) fun ρ0=>.l 50001 (.z [8] (rl [t4,0,ρ0 3]))))))
theorem Gi (w:World) (b:Bool) (RO:ZA) (T:Str) (t:Nat) (z:Nat→Nat) (ln:Int) (lt ep:Nat) (gs:List Value) (eg:Nat) (h0:at1 T gs.length none):(YK w z ln lt ep gs eg [] ⟨#[]⟩ false).ok (wf w b) (ZL w T t z) 700:=
 cB (fd108 _) (Js w b RO T t z ln lt ep gs eg h0) (by cases b<;>kernel_rfl)
noncomputable def Jt (w:World) (b:Bool) (RO:ZA) (i a t':Nat) (T:Str) (t:Nat) (z:Nat→Nat) (ln:Int) (lt:Nat) (vs:List Value) (ep:Nat) (gs:List Value) (eg:Nat) (hc:at1 T gs.length (some 10)):CE (wf w b) (ZL w T t z) []:=
 .l 20200022001 (.k (ZV w a z ln lt vs ep gs eg (some 10) (ln + 1) (fun ρ=>ρ 1)) [1,2,3,4,5] (VN w b [] _ _ _ _ _ _ _ _ _ _ hc) fun ρ0=>.l 1001 (.z [] (rl [ρ0 0,ρ0 1,ρ0 2,ρ0 3])))
theorem Gj (w:World) (b:Bool) (RO:ZA) (i a t':Nat) (T:Str) (t:Nat) (z:Nat→Nat) (ln:Int) (lt:Nat) (vs:List Value) (ep:Nat) (gs:List Value) (eg:Nat) (hc:at1 T gs.length (some 10)):(Lj w i a t' z ln lt vs ep gs eg).ok (wf w b) (ZL w T t z) 770:=
 cR (Jt w b RO i a t' T t z ln lt vs ep gs eg hc) (by cases b<;>kernel_rfl)
noncomputable def Ju (w:World) (b:Bool) (RO:ZA) (T:Str) (t:Nat) (z:Nat→Nat) (ln:Int) (lt ep:Nat) (gs:List Value) (eg:Nat) (h0:at1 T gs.length (some 10)) (h1:at1 T (gs.length + 1) none):CE (wf w b) (ZL w T t z) []:=
 .l 1100400400030219100202181219000202181219000201002001010000990208 (.t fun t4=>.l 202021812190003021910022202021812190002021812190002010000010101010410010100 (.a fun a1=>.t fun t7=>.l 1 (.a fun a2=>.l 400120030100 (.k (Lj w a2 a1 t7 z ln lt [] ep (gs) eg) [0,1,3,4,5,6] (Gj w b [] _ _ _ _ _ _ _ _ _ _ _ _ h0) fun ρ0=>.l 1000502191004021812190004021812190004010030030100 (.k (QC w a2 a1 t7 z (ln + 1) (ρ0 1) [] ep (more gs (some 10) (ρ0 2)) (ρ0 3)) [0,1,3,4,5,6] (Ll w b [] _ _ _ _ _ _ _ _ _ _ _ _ (ZN h1 (by simp [more]))) fun ρ1=>.l 50001 (.z [8] (rl [t4,ρ0 1,ρ1 3,0,0,0,0,0,0,0,ρ0 2])))))))
theorem Gk (w:World) (b:Bool) (RO:ZA) (T:Str) (t:Nat) (z:Nat→Nat) (ln:Int) (lt ep:Nat) (gs:List Value) (eg:Nat) (h0:at1 T gs.length (some 10)) (h1:at1 T (gs.length + 1) none):(YK w z ln lt ep gs eg [10] ⟨#[]⟩ true).ok (wf w b) (ZL w T t z) 700:=
 cB (fd108 _) (Ju w b RO T t z ln lt ep gs eg h0 h1) (by cases b<;>kernel_rfl)
noncomputable def Hit (k:Nat) (p:Pr):Bool:=p.k % 6 == k % 6
noncomputable def Zr (k:Nat) (ps:List Pr):List Pr:=ps.filter fun p=>!Hit k p
noncomputable def YT (ps:List Pr) (RO:ZA):Prop:=∀ p∈ps,cell p∈RO
noncomputable def Six (ps:List Pr):Prop:=(ps.map fun p=>p.k % 6).Nodup
noncomputable abbrev Xb (ps:List Pr):Prop:=∀ p∈ps,p.k < 12
theorem YT.up {ps:List Pr} {RO RO':ZA} (h:YT ps RO) (s:∀ p∈RO,p∈RO'):YT ps RO':=fun p hp=>s _ (h p hp)
theorem YT.cells {ps:List Pr} {RO:ZA} (h:YT ps RO):∀ p∈ps.map cell,p∈RO:=fun p hp=>by
 obtain ⟨q,hq,rfl⟩:=List.mem_map.mp hp
 exact h q hq
section
variable (w:World) (b:Bool) {RO:ZA} (sh d l td e:Nat)
theorem HF {ps:List Pr} {ep k t:Nat} (hl:ps.length≤2) (hA:Xb ps) (hk:k < 12) (hm:∀ p∈ps,Hit k p=false) (hR:YT ps RO):(Y5 w sh d l td e ps ep k t .none).ok (wf w b) RO 800:=by
 match ps,hl with
 | [],_=>exact (Mx w b [] sh d l td e ep k t hk).ro_more hR.cells
 | [p1],_=>exact (Mz w b [] sh d l td e ep k t hk p1 (hA _ (by simp)) (hm _ (by simp))).ro_more hR.cells
 | [p1,p2],_=>exact (M5 w b [] sh d l td e ep k t hk p1 (hA _ (by simp)) (hm _ (by simp)) p2 (hA _ (by simp)) (hm _ (by simp))).ro_more hR.cells
theorem Ob {a c:List Pr} {q:Pr} {ep k t:Nat} (hl:(a++q::c).length≤2) (hA:Xb (a++q::c)) (hk:k < 12) (hm:∀ p∈a,Hit k p=false) (hq:Hit k q=true) (hR:YT (a++q::c) RO) :
  (Y5 w sh d l td e (a++q::c) ep k t (.str (dig q.n) q.t')).ok (wf w b) RO 800:=by
 match a,c,hl with
 | [],[],_=>exact (My w b [] sh d l td e ep k t hk q (hA _ (by simp)) hq).ro_more hR.cells
 | [],[p2],_=>exact (M0 w b [] sh d l td e ep k t hk q (hA _ (by simp)) hq p2).ro_more hR.cells
 | [p1],[],_=>exact (M4 w b [] sh d l td e ep k t hk p1 (hA _ (by simp)) (hm _ (by simp)) q (hA _ (by simp)) hq).ro_more hR.cells
 | [_],_::_,h=>simp at h
 | _::_::_,_,h=>simp at h
 | [],_::_::_,h=>simp at h
theorem UD {k:Nat} {p q:Pr} (h:Hit k p=true) (hn:p.k % 6≠q.k % 6):Hit k q=false:=by
 unfold Hit at *
 rw [beq_iff_eq] at h
 rw [beq_eq_false_iff_ne,← h]
 exact fun x=>hn x.symm
theorem Lm {ps:List Pr} {ep k t:Nat} (hl:ps.length≤3) (hA:Xb ps) (hk:k < 12) (h6:Six ps) (hR:YT ps RO):(Zh 186 w sh d l td e ps ep k t (Zr k ps)).ok (wf w b) RO 800:=by
 match ps,hl with
 | [],_=>exact (M6 w b [] sh d l td e ep k t hk).ro_more hR.cells
 | [p1],_=>
  cases h1:Hit k p1 with
  | true=>
   rw [show Zr k [p1]=[] by simp [Zr,h1]]
   exact (M7 w b [] sh d l td e ep k t hk p1 (hA _ (by simp)) h1).ro_more hR.cells
  | false=>
   rw [show Zr k [p1]=[p1] by simp [Zr,h1]]
   exact (M8 w b [] sh d l td e ep k t hk p1 (hA _ (by simp)) h1).ro_more hR.cells
 | [p1,p2],_=>
  have n12:p1.k % 6≠p2.k % 6:=by simp [Six] at h6; exact h6
  cases h1:Hit k p1 with
  | true=>
   have h2:=UD h1 n12
   rw [show Zr k [p1,p2]=[p2] by simp [Zr,h1,h2]]
   exact (M9 w b [] sh d l td e ep k t hk p1 (hA _ (by simp)) h1 p2 (hA _ (by simp)) h2).ro_more hR.cells
  | false=>
   cases h2:Hit k p2 with
   | true=>
    rw [show Zr k [p1,p2]=[p1] by simp [Zr,h1,h2]]
    exact (LA w b [] sh d l td e ep k t hk p1 (hA _ (by simp)) h1 p2 (hA _ (by simp)) h2).ro_more hR.cells
   | false=>
    rw [show Zr k [p1,p2]=[p1,p2] by simp [Zr,h1,h2]]
    exact (LB w b [] sh d l td e ep k t hk p1 (hA _ (by simp)) h1 p2 (hA _ (by simp)) h2).ro_more hR.cells
 | [p1,p2,p3],_=>
  have n:(p1.k % 6≠p2.k % 6∧p1.k % 6≠p3.k % 6)∧p2.k % 6≠p3.k % 6:=by simpa [Six] using h6
  cases h1:Hit k p1 with
  | true=>
   have h2:=UD h1 n.1.1
   have h3:=UD h1 n.1.2
   rw [show Zr k [p1,p2,p3]=[p2,p3] by simp [Zr,h1,h2,h3]]
   exact (LC w b [] sh d l td e ep k t hk p1 (hA _ (by simp)) h1 p2 (hA _ (by simp)) h2 p3 (hA _ (by simp)) h3).ro_more hR.cells
  | false=>
   cases h2:Hit k p2 with
   | true=>
    have h3:=UD h2 n.2
    rw [show Zr k [p1,p2,p3]=[p1,p3] by simp [Zr,h1,h2,h3]]
    exact (LD w b [] sh d l td e ep k t hk p1 (hA _ (by simp)) h1 p2 (hA _ (by simp)) h2 p3 (hA _ (by simp)) h3).ro_more hR.cells
   | false=>
    cases h3:Hit k p3 with
    | true=>
     rw [show Zr k [p1,p2,p3]=[p1,p2] by simp [Zr,h1,h2,h3]]
     exact (LE w b [] sh d l td e ep k t hk p1 (hA _ (by simp)) h1 p2 (hA _ (by simp)) h2 p3 (hA _ (by simp)) h3).ro_more hR.cells
    | false=>
     rw [show Zr k [p1,p2,p3]=[p1,p2,p3] by simp [Zr,h1,h2,h3]]
     exact (LF w b [] sh d l td e ep k t hk p1 (hA _ (by simp)) h1 p2 (hA _ (by simp)) h2 p3 (hA _ (by simp)) h3).ro_more hR.cells
theorem Gl {ps:List Pr} {ep k t n t':Nat} (hl:ps.length≤3) (hl2:(Zr k ps).length≤2) (hA:Xb ps) (hk:k < 12) (hn:n < 13) (h6:Six ps) (hR:YT ps RO):(Zq 181 w sh d l td e ps ep k t n t' (Zr k ps)).ok (wf w b) RO 700:=by
 have hd:∀ RO',(∀ p∈RO,p∈RO')→(Zh 186 w sh d l td e ps ep k t (Zr k ps)).ok (wf w b) RO' 800:=fun RO' s=>Lm w b sh d l td e hl hA hk h6 (hR.up s)
 generalize Zr k ps=qs at hl2 hd ⊢
 match qs,hl2 with
 | [],_=>exact I5 w b RO sh d l td e ep k t n t' hk hn ps hd
 | [p1],_=>exact I6 w b RO sh d l td e ep k t n t' hk hn ps p1 hd
 | [p1,p2],_=>exact I7 w b RO sh d l td e ep k t n t' hk hn ps p1 p2 hd
theorem Oc {ps:List Pr} {ep:Nat} (hl:ps.length≤3) (h1:1≤ps.length) (hR:YT ps RO):(Zo w sh d l td e ps ep).ok (wf w b) RO 700:=by
 match ps,hl,h1 with
 | [p1],_,_=>exact (JR w b [] sh d l td e ep p1).ro_more hR.cells
 | [p1,p2],_,_=>exact (JS w b [] sh d l td e ep p1 p2).ro_more hR.cells
 | [p1,p2,p3],_,_=>exact (JT w b [] sh d l td e ep p1 p2 p3).ro_more hR.cells
theorem Jv {ps:List Pr} {ep:Nat} (hl:ps.length≤3):(Z4 w sh d l td e ps ep).ok (wf w b) RO 700:=by
 match ps,hl with
 | [],_=>exact LH w b RO sh d l td e ep
 | [p1],_=>exact LI w b RO sh d l td e ep p1
 | [p1,p2],_=>exact LJ w b RO sh d l td e ep p1 p2
 | [p1,p2,p3],_=>exact LK w b RO sh d l td e ep p1 p2 p3
theorem YJ {ps:List Pr} {k t:Nat} (hl:ps.length≤2) (hA:Xb ps) (hk:k < 12) (hm:∀ p∈ps,Hit k p=false) (hR:YT ps RO) :
  ∀ RO':ZA,(∀ p∈RO,p∈RO')→∀ ep:Nat,(ZX 52 w sh d l td e ps ep [.str (wd k) t] (.bool false)).ok (wf w b) RO' 650:=
 fun RO' s ep=>R2 w b RO' sh d l td e ep k t ps fun RO'' s'=>HF w b sh d l td e hl hA hk hm ((hR.up s).up s')
theorem TF {a c:List Pr} {q:Pr} {k t:Nat} (hl:(a++q::c).length≤2) (hA:Xb (a++q::c)) (hk:k < 12) (hm:∀ p∈a,Hit k p=false) (hq:Hit k q=true) (hR:YT (a++q::c) RO) :
  ∀ RO':ZA,(∀ p∈RO,p∈RO')→∀ ep:Nat,(ZX 52 w sh d l td e (a++q::c) ep [.str (wd k) t] (.bool true)).ok (wf w b) RO' 650:=
 fun RO' s ep=>R3 w b RO' sh d l td e ep k t _ q.n q.t' fun RO'' s'=>Ob w b sh d l td e hl hA hk hm hq ((hR.up s).up s')
theorem QD {a c:List Pr} {q:Pr} {k t:Nat} (hl:(a++q::c).length≤2) (hA:Xb (a++q::c)) (hk:k < 12) (hm:∀ p∈a,Hit k p=false) (hq:Hit k q=true) (hR:YT (a++q::c) RO) :
  ∀ RO':ZA,(∀ p∈RO,p∈RO')→∀ ep:Nat,(ZX 66 w sh d l td e (a++q::c) ep [.str (wd k) t] (.str (dig q.n) q.t')).ok (wf w b) RO' 650:=
 fun RO' s ep=>MD w b RO' sh d l td e ep k t _ q.n q.t' fun RO'' s'=>Ob w b sh d l td e hl hA hk hm hq ((hR.up s).up s')
theorem MK {ps qs:List Pr} {k t:Nat} (hl:ps.length≤3) (hA:Xb ps) (hk:k < 12) (h6:Six ps) (hR:YT ps RO) (e':Zr k ps=qs) (ep:Nat):(Zh 59 w sh d l td e ps ep k t qs).ok (wf w b) RO 650:=by
 subst e'
 exact ME w b RO sh d l td e ep k t ps _ fun RO' s=>Lm w b sh d l td e hl hA hk h6 (hR.up s)
theorem Gm {ps qs:List Pr} {k t n:Nat} (hl:ps.length≤3) (hl2:qs.length≤2) (hA:Xb ps) (hk:k < 12) (hn:n < 13) (h6:Six ps) (hR:YT ps RO) (e':Zr k ps=qs) (ep t':Nat):(Zq 73 w sh d l td e ps ep k t n t' qs).ok (wf w b) RO 650:=by
 subst e'
 exact MF w b RO sh d l td e ep k t ps n t' _ fun RO' s=>Gl w b sh d l td e hl hl2 hA hk hn h6 (hR.up s)
end
noncomputable abbrev Row:=List (Nat × Nat)
noncomputable def YA (k:Nat) (p:Nat × Nat):Bool:=p.1 % 6 == k % 6
noncomputable def Vv (R:Row) (k:Nat):Nat:=match R.find? (YA k) with | some q=>q.2 + 1 | none=>1
noncomputable def Zj (R:Row) (k:Nat):Row:=(k,Vv R k)::R.filter fun p=>!YA k p
noncomputable def ML (R:Row) (k:Nat):Nat:=(R.takeWhile fun p=>!YA k p).length
noncomputable def Xs (ends:List Nat) (R:Row) (k:Nat):Int:=match R.any (YA k) with | true=>Int.ofNat (ends.filter fun e=>decide (e≤ML R k)).length | false=>-1
structure RowOk (j:Nat) (R:Row):Prop where
 tw:∀ p∈R,p.1 < 12
 nt:∀ p∈R,p.2≤j
 six:(R.map fun p=>p.1 % 6).Nodup
theorem Si {R:Row} {k:Nat} (h:∀ p∈R,YA k p=false):R.find? (YA k)=none:=by
 rw [List.find?_eq_none]
 intro p hp
 rw [h p hp]
 decide
theorem Vd {R:Row} {k:Nat} (h:∀ p∈R,YA k p=false):(R.filter fun p=>!YA k p)=R:=by
 rw [List.filter_eq_self]
 intro p hp
 rw [h p hp]
 rfl
theorem XC {R:Row} {k:Nat} (h:∀ p∈R,YA k p=false):Zj R k=(k,1)::R:=by
 unfold Zj Vv
 rw [Si h,Vd h]
theorem Xi {R:Row} {k:Nat} (ends:List Nat) (h:∀ p∈R,YA k p=false):Xs ends R k=-1:=by
 unfold Xs
 have:R.any (YA k)=false:=by
  rw [List.any_eq_false]
  intro p hp
  rw [h p hp]
  decide
 rw [this]
theorem UE {X Y:Row} {q:Nat × Nat} {k:Nat} (hX:∀ p∈X,YA k p=false) (hq:YA k q=true) (hY:∀ p∈Y,YA k p=false):Zj (X++q::Y) k=(k,q.2 + 1)::(X++Y):=by
 unfold Zj Vv
 rw [List.find?_append,Si hX,Option.none_or,List.find?_cons_of_pos hq,List.filter_append,Vd hX,List.filter_cons_of_neg (by rw [hq]; decide),Vd hY]
theorem HG {X Y:Row} {q:Nat × Nat} {k:Nat} (hX:∀ p∈X,YA k p=false) (hq:YA k q=true):ML (X++q::Y) k=X.length:=by
 unfold ML
 rw [List.takeWhile_append_of_pos (by intro p hp; rw [hX p hp]; rfl),List.takeWhile_cons_of_neg (by rw [hq]; decide),List.append_nil]
theorem UF {X Y:Row} {q:Nat × Nat} {k:Nat} (ends:List Nat) (hX:∀ p∈X,YA k p=false) (hq:YA k q=true):Xs ends (X++q::Y) k=Int.ofNat (ends.filter fun e=>decide (e≤X.length)).length:=by
 unfold Xs
 have:(X++q::Y).any (YA k)=true:=by
  rw [List.any_eq_true]
  exact ⟨q,by simp,hq⟩
 rw [this,HG hX hq]
theorem Ln {R:Row} {j k:Nat} (h:∀ p∈R,p.2≤j):Vv R k≤j + 1:=by
 unfold Vv
 split
 ·rename_i q hq
  have:=h q (List.mem_of_find?_eq_some hq)
  omega
 ·omega
theorem Vw {R:Row} {j k c:Nat} (h:RowOk j R) (hk:k < 12):RowOk (j + 1) ((Zj R k).take c):=by
 have key:RowOk (j + 1) (Zj R k):=by
  unfold Zj
  refine ⟨fun p hp=>?_,fun p hp=>?_,?_⟩
  ·cases hp with
   | head=>exact hk
   | tail _ hp=>exact h.tw p ((List.mem_filter.mp hp).1)
  ·cases hp with
   | head=>exact Ln h.nt
   | tail _ hp=>exact Nat.le_succ_of_le (h.nt p ((List.mem_filter.mp hp).1))
  ·rw [List.map_cons,List.nodup_cons]
   refine ⟨fun hm=>?_,(List.filter_sublist.map _).nodup h.six⟩
   obtain ⟨p,hp,e⟩:=List.mem_map.mp hm
   have:=(List.mem_filter.mp hp).2
   unfold YA at this
   rw [e] at this
   simp at this
 exact ⟨fun p hp=>key.tw p (List.mem_of_mem_take hp),fun p hp=>key.nt p (List.mem_of_mem_take hp),((List.take_sublist _ _).map _).nodup key.six⟩
noncomputable def kn (p:Pr):Nat × Nat:=(p.k,p.n)
noncomputable def seg (A:List Pr):Row:=(A.map kn).reverse
theorem Zt (A B:List Pr):seg (A++B)=seg B++seg A:=by simp [seg]
theorem YD (p:Pr) (A:List Pr):seg (p::A)=seg A++[kn p]:=by simp [seg]
theorem Yc:seg []=[]:=rfl
theorem YG (A:List Pr):(seg A).length=A.length:=by simp [seg]
theorem YQ {A:List Pr} {p:Pr} (h:p∈A):kn p∈seg A:=by simp only [seg,List.mem_reverse]; exact List.mem_map_of_mem h
theorem Gn {A:List Pr} {x:Nat × Nat} (h:x∈seg A):∃ p∈A,kn p=x:=by simp only [seg,List.mem_reverse] at h; exact List.mem_map.mp h
theorem Ud {A:List Pr} {k:Nat} (h:∀ p∈A,Hit k p=false):∀ x∈seg A,YA k x=false:=fun x hx=>by
 obtain ⟨p,hp,rfl⟩:=Gn hx
 exact h p hp
structure Good (s1 s2 s3 j:Nat) (A1 A2 A3:List Pr):Prop where
 l1:A1.length≤s1
 l2:A2.length≤s2
 l3:A3.length≤s3
 f2:A2≠[]→A1.length=s1
 f3:A3≠[]→A2.length=s2
 row:RowOk j (seg A1++(seg A2++seg A3))
structure Asked (s1 s2 s3 j k:Nat) (A1 A2 A3:List Pr) (ends:List Nat) (res:Int) (O1 O2 O3 lost nw:List Pr):Prop where
 good:Good s1 s2 s3 (j + 1) O1 O2 O3
 row:seg O1++(seg O2++seg O3)=(Zj (seg A1++(seg A2++seg A3)) k).take (s1 + s2 + s3)
 lost:lost.map kn=(Zj (seg A1++(seg A2++seg A3)) k).drop (s1 + s2 + s3)
 res:res=Xs ends (seg A1++(seg A2++seg A3)) k
 old:∀ p∈O1++(O2++O3),p∈A1++(A2++A3)∨p∈nw
theorem Xj {k:Nat}:∀ {ps:List Pr},(∀ p∈ps,Hit k p=false)∨∃ a q c,ps=a++q::c∧(∀ p∈a,Hit k p=false)∧Hit k q=true
 | []=>.inl fun _ h=>nomatch h
 | p::ps=>by
  cases h:Hit k p with
  | true=>exact .inr ⟨[],p,ps,rfl,(fun _ h=>nomatch h),h⟩
  | false=>
   rcases Xj (k:=k) (ps:=ps) with x | ⟨a,q,c,rfl,ha,hq⟩
   ·exact .inl fun p' hp=>by
     cases hp with
     | head=>exact h
     | tail _ hp=>exact x p' hp
   ·exact .inr ⟨p::a,q,c,rfl,(fun p' hp=>by
     cases hp with
     | head=>exact h
     | tail _ hp=>exact ha p' hp),hq⟩
theorem Asked.mk' {s1 s2 s3 j k:Nat} {A1 A2 A3:List Pr} {ends:List Nat} {res:Int} {O1 O2 O3 lost nw:List Pr} (G:Good s1 s2 s3 j A1 A2 A3) (hk:k < 12)
  (l1:O1.length≤s1) (l2:O2.length≤s2) (l3:O3.length≤s3) (f2:O2≠[]→O1.length=s1) (f3:O3≠[]→O2.length=s2)
  (row:Zj (seg A1++(seg A2++seg A3)) k=seg O1++(seg O2++seg O3)++lost.map kn) (full:lost≠[]→O1.length + O2.length + O3.length=s1 + s2 + s3)
  (hres:res=Xs ends (seg A1++(seg A2++seg A3)) k) (old:∀ p∈O1++(O2++O3),p∈A1++(A2++A3)∨p∈nw):Asked s1 s2 s3 j k A1 A2 A3 ends res O1 O2 O3 lost nw:=by
 have hlen:(seg O1++(seg O2++seg O3)).length=O1.length + O2.length + O3.length:=by simp only [List.length_append,YG]; omega
 have e1:seg O1++(seg O2++seg O3)=(Zj (seg A1++(seg A2++seg A3)) k).take (s1 + s2 + s3):=by
  rw [row]
  cases lost with
  | nil=>rw [List.map_nil,List.append_nil,List.take_of_length_le (by rw [hlen]; omega)]
  | cons p r=>rw [List.take_left' (by rw [hlen]; exact full (by simp))]
 have e2:lost.map kn=(Zj (seg A1++(seg A2++seg A3)) k).drop (s1 + s2 + s3):=by
  rw [row]
  cases lost with
  | nil=>rw [List.map_nil,List.append_nil,List.drop_eq_nil_of_le (by rw [hlen]; omega)]
  | cons p r=>rw [List.drop_left' (by rw [hlen]; exact full (by simp))]
 exact ⟨⟨l1,l2,l3,f2,f3,e1▸Vw G.row hk⟩,e1,e2,hres,old⟩
theorem X2 {X Y:Row} {q:Nat × Nat} {k:Nat} (h:((X++q::Y).map fun p=>p.1 % 6).Nodup) (hq:YA k q=true):(∀ p∈X,YA k p=false)∧∀ p∈Y,YA k p=false:=by
 unfold YA at *
 rw [beq_iff_eq] at hq
 rw [List.map_append,List.map_cons] at h
 have h1:=List.nodup_append.mp h
 have h2:=List.nodup_cons.mp h1.2.1
 refine ⟨fun p hp=>?_,fun p hp=>?_⟩
 ·rw [beq_eq_false_iff_ne,← hq]
  exact h1.2.2 _ (List.mem_map_of_mem (f:=fun p:Nat × Nat=>p.1 % 6) hp) _ (.head _)
 ·rw [beq_eq_false_iff_ne,← hq]
  exact fun e=>h2.1 (e▸List.mem_map_of_mem (f:=fun p:Nat × Nat=>p.1 % 6) hp)
theorem Tw {A:List Pr} {X Y:Row} (h:((X++(seg A++Y)).map fun p=>p.1 % 6).Nodup):Six A:=by
 rw [List.map_append,List.map_append] at h
 have h2:=(List.nodup_append.mp (List.nodup_append.mp h).2.1).1
 unfold seg at h2
 rw [List.map_reverse,List.map_map] at h2
 exact ((List.reverse_perm _).nodup_iff).mp h2
theorem Yl {k:Nat} {A:List Pr} (h:∀ p∈A,Hit k p=false):Zr k A=A:=by
 unfold Zr
 rw [List.filter_eq_self]
 intro p hp
 rw [h p hp]
 rfl
theorem Ue (q:Pr):Hit q.k q=true:=by simp [Hit]
theorem Jw {q:Pr} {r:List Pr} (h:Six (q::r)):∀ p∈r,Hit q.k p=false:=fun p hp=>by
 unfold Six at h
 rw [List.map_cons,List.nodup_cons] at h
 unfold Hit
 rw [beq_eq_false_iff_ne]
 exact fun e=>h.1 (e▸List.mem_map_of_mem (f:=fun p:Pr=>p.k % 6) hp)
theorem MN {q:Pr} {r:List Pr} (h:Six (q::r)):Zr q.k (q::r)=r:=by
 have:=Yl (Jw h)
 unfold Zr at *
 rw [List.filter_cons_of_neg (by rw [Ue]; decide),this]
theorem W0 {k:Nat} {a c:List Pr} {q:Pr} (ha:∀ p∈a,Hit k p=false) (hq:Hit k q=true) (hc:∀ p∈c,Hit k p=false):Zr k (a++q::c)=a++c:=by
 have h1:=Yl ha
 have h2:=Yl hc
 unfold Zr at *
 rw [List.filter_append,List.filter_cons_of_neg (by rw [hq]; decide),h1,h2]
theorem QE {A:List Pr} {p:Pr} (h:Six A) (hm:∀ q∈A,Hit p.k q=false):Six (A++[p]):=by
 unfold Six at *
 rw [List.map_append]
 refine List.nodup_append.mpr ⟨h,by simp,fun x hx y hy=>?_⟩
 obtain ⟨q,hq,rfl⟩:=List.mem_map.mp hx
 simp only [List.map_cons,List.map_nil,List.mem_singleton] at hy
 subst hy
 have:=hm q hq
 unfold Hit at this
 rw [beq_eq_false_iff_ne] at this
 exact this
theorem Ph {A:List Pr} {p:Pr} (h:Xb A) (hp:p.k < 12):Xb (A++[p]):=fun q hq=>by
 rcases List.mem_append.mp hq with x | x
 ·exact h q x
 ·cases x with
  | head=>exact hp
  | tail _ x=>cases x
theorem Uf {A:List Pr} {p:Pr} {RO:ZA} (h:YT A RO) (hp:cell p∈RO):YT (A++[p]) RO:=fun q hq=>by
 rcases List.mem_append.mp hq with x | x
 ·exact h q x
 ·cases x with
  | head=>exact hp
  | tail _ x=>cases x
theorem Yr {RO:ZA} {D:Nat} {w:World} {C:Con} {x:Addr × Obj} (h:C.ok w (x::RO) D) (hx:x∈RO):C.ok w RO D:=ZD.ro_more h fun p hp=>by
 cases hp with
 | head=>exact hx
 | tail _ hp=>exact hp
theorem X3 {A:List Pr} {s:Nat} (h:¬ A.length < s) (hl:A.length≤s) (h1:1≤s):∃ q y,A=q::y∧y.length + 1=s:=by
 cases A with
 | nil=>simp only [List.length_nil] at h; omega
 | cons q y=>exact ⟨q,y,rfl,by simp only [List.length_cons] at h hl; omega⟩
structure Fc (RO:ZA) (j:Nat) (A:List Pr):Prop where
 tw:Xb A
 nt:∀ p∈A,p.n≤j
 six:Six A
 R:YT A RO
 l:A.length≤2
theorem Good.fc {s1 s2 s3 j:Nat} {A1 A2 A3:List Pr} {RO:ZA} (G:Good s1 s2 s3 j A1 A2 A3) (hR:YT (A1++(A2++A3)) RO) (h1:s1≤2) (h2:s2≤2) (h3:s3≤2):Fc RO j A1∧Fc RO j A2∧Fc RO j A3:=by
 have six:=G.row.six
 have i1:∀ p∈A1,kn p∈seg A1++(seg A2++seg A3):=fun p hp=>List.mem_append.mpr (.inl (YQ hp))
 have i2:∀ p∈A2,kn p∈seg A1++(seg A2++seg A3):=fun p hp=>List.mem_append.mpr (.inr (List.mem_append.mpr (.inl (YQ hp))))
 have i3:∀ p∈A3,kn p∈seg A1++(seg A2++seg A3):=fun p hp=>List.mem_append.mpr (.inr (List.mem_append.mpr (.inr (YQ hp))))
 exact ⟨⟨fun p hp=>G.row.tw _ (i1 p hp),fun p hp=>G.row.nt _ (i1 p hp),Tw (X:=[]) (Y:=seg A2++seg A3) six,fun p hp=>hR p (List.mem_append.mpr (.inl hp)),Nat.le_trans G.l1 h1⟩,
  ⟨fun p hp=>G.row.tw _ (i2 p hp),fun p hp=>G.row.nt _ (i2 p hp),Tw (X:=seg A1) (Y:=seg A3) six,fun p hp=>hR p (List.mem_append.mpr (.inr (List.mem_append.mpr (.inl hp)))),Nat.le_trans G.l2 h2⟩,
  ⟨fun p hp=>G.row.tw _ (i3 p hp),fun p hp=>G.row.nt _ (i3 p hp),Tw (X:=seg A1++seg A2) (Y:=[]) (by rw [List.append_nil,List.append_assoc]; exact six),fun p hp=>hR p (List.mem_append.mpr (.inr (List.mem_append.mpr (.inr hp)))),Nat.le_trans G.l3 h3⟩⟩
theorem XR {a c:List Pr} {q p:Pr} (h:p∈a++c):p∈a++q::c:=by
 rcases List.mem_append.mp h with h | h
 ·exact List.mem_append.mpr (.inl h)
 ·exact List.mem_append.mpr (.inr (.tail _ h))
theorem Od {a c:List Pr} {q:Pr}:(a++q::c).length=(a++c).length + 1:=by
 rw [List.length_append,List.length_append,List.length_cons,Nat.add_assoc]
theorem W1 {a c:List Pr} {q:Pr} {s:Nat} (h:(a++q::c).length≤s):(a++c).length + 1≤s:=by rwa [Od] at h
theorem Fc.mid {RO:ZA} {j:Nat} {a c:List Pr} {q:Pr} (F:Fc RO j (a++q::c)):Fc RO j (a++c):=
 ⟨fun p hp=>F.tw p (XR hp),fun p hp=>F.nt p (XR hp),((List.Sublist.append_left (List.sublist_cons_self q c) a).map _).nodup F.six,fun p hp=>F.R p (XR hp),Nat.le_of_succ_le (W1 F.l)⟩
theorem Xo {a c:List Pr} {q:Pr}:q∈a++q::c:=List.mem_append.mpr (.inr (.head _))
theorem Good.mk2 {s1 s2 s3 j:Nat} {q:Pr} {y A2 A3:List Pr} (G:Good s1 s2 s3 j (q::y) A2 A3):∀ p∈A2,Hit q.k p=false:=fun p hp=>
 (X2 (X:=seg y) (Y:=seg A2++seg A3) (q:=kn q) (k:=q.k) (by have z:=G.row.six; rwa [YD,List.append_assoc] at z) (Ue q)).2 (kn p) (List.mem_append.mpr (.inl (YQ hp)))
theorem Good.mk3 {s1 s2 s3 j:Nat} {q:Pr} {y A1 A3:List Pr} (G:Good s1 s2 s3 j A1 (q::y) A3):∀ p∈A3,Hit q.k p=false:=fun p hp=>
 (X2 (X:=seg A1++seg y) (Y:=seg A3) (q:=kn q) (k:=q.k) (by have z:=G.row.six; rwa [YD,List.append_assoc,← List.append_assoc] at z) (Ue q)).2 (kn p) (YQ hp)
theorem Xp (w:World) (b:Bool) {RO:ZA} {S:Sk} {A B:List Pr} {N:Nat→Nat→Pr} {j s:Nat} (F:Fc RO j A) (RB:YT B RO) (hk:∀ z t',(N z t').k < 12) (hn:∀ z t',(N z t').n < 13) (e:∀ z t',Zr (N z t').k A=B) (hl:B.length + 1≤s) (hs:s≤2):Lay w b RO S A B N (Int.ofNat s) true:=by
 have e1:∀ z t',(B++[N z t']).length=B.length + 1:=fun z t'=>by rw [List.length_append]; rfl
 refine ⟨fun RO' h e' t'=>Gm w b _ _ _ _ _ (Nat.le_succ_of_le F.l) (by omega) F.tw (hk 0 t') (hn 0 t') F.six (F.R.up h) (e 0 t') e' _,fun RO' h e' z t' hz=>Oc w b _ _ _ _ _ (by rw [e1]; omega) (by rw [e1]; omega) (Uf (RB.up h) hz),fun z t'=>?_,fun z t'=>?_⟩
 ·show (List.map _ _).length≤_
  rw [List.length_map,e1]
  omega
 ·show decide (Int.ofNat (List.map _ _).length≤_)=_
  rw [List.length_map,e1]
  exact decide_eq_true (Int.ofNat_le.mpr hl)
theorem XS (w:World) (b:Bool) {RO:ZA} {S:Sk} {q:Pr} {y:List Pr} {N:Nat→Nat→Pr} {j s:Nat} (F:Fc RO j (q::y)) (hk:∀ z t',(N z t').k < 12) (hn:∀ z t',(N z t').n < 13) (hm:∀ z t',∀ p∈q::y,Hit (N z t').k p=false) (hs:y.length + 1=s):Ovr w b RO S (q::y) q y N (Int.ofNat s):=by
 have e1:∀ z t',((q::y)++[N z t']).length=y.length + 2:=fun z t'=>by rw [List.length_append]; rfl
 have l1:y.length + 1≤2:=F.l
 refine ⟨⟨fun RO' h e' t'=>Gm w b _ _ _ _ _ (Nat.le_succ_of_le F.l) F.l F.tw (hk 0 t') (hn 0 t') F.six (F.R.up h) (Yl (hm 0 t')) e' _,fun RO' h e' z t' hz=>Oc w b _ _ _ _ _ (by rw [e1]; omega) (by rw [e1]; omega) (Uf (F.R.up h) hz),fun z t'=>?_,fun z t'=>?_⟩,
  fun RO' h e' z t' _=>Jv w b _ _ _ _ _ (by rw [e1]; omega),fun RO' h e' z t' hz=>MK w b _ _ _ _ _ (by rw [e1]; omega) (Ph F.tw (hk z t')) (F.tw q (.head _)) (QE F.six (hm z t')) (Uf (F.R.up h) hz) (MN (QE F.six (hm z t'))) e'⟩
 ·show (List.map _ _).length≤_
  rw [List.length_map,e1]
  omega
 ·show decide (Int.ofNat (List.map _ _).length≤_)=_
  rw [List.length_map,e1]
  exact decide_eq_false fun h=>absurd (Int.ofNat_le.mp h) (by omega)
theorem Good.hit1 {s1 s2 s3 j k:Nat} {a c A2 A3:List Pr} {q:Pr} (G:Good s1 s2 s3 j (a++q::c) A2 A3) (hq:Hit k q=true):(∀ p∈c,Hit k p=false)∧(∀ p∈A2,Hit k p=false)∧(∀ p∈A3,Hit k p=false)∧
  Zj (seg (a++q::c)++(seg A2++seg A3)) k=(k,q.n + 1)::(seg (a++c)++(seg A2++seg A3))∧∀ ends,Xs ends (seg (a++q::c)++(seg A2++seg A3)) k=Int.ofNat (ends.filter fun e=>decide (e≤c.length)).length:=by
 have eR:seg (a++q::c)++(seg A2++seg A3)=seg c++kn q::(seg a++(seg A2++seg A3)):=by simp [Zt,YD,List.append_assoc]
 have al:=X2 (X:=seg c) (q:=kn q) (k:=k) (eR▸G.row.six) hq
 refine ⟨fun p hp=>al.1 _ (YQ hp),fun p hp=>al.2 (kn p) (by simp [YQ hp]),fun p hp=>al.2 (kn p) (by simp [YQ hp]),?_,fun ends=>?_⟩
 ·rw [eR,UE al.1 (show YA k (kn q)=true from hq) al.2]
  simp [Zt,kn]
 ·rw [eR,UF _ al.1 (show YA k (kn q)=true from hq),YG]
theorem Good.hit2 {s1 s2 s3 j k:Nat} {a c A1 A3:List Pr} {q:Pr} (G:Good s1 s2 s3 j A1 (a++q::c) A3) (hq:Hit k q=true):(∀ p∈c,Hit k p=false)∧(∀ p∈A1,Hit k p=false)∧(∀ p∈A3,Hit k p=false)∧
  Zj (seg A1++(seg (a++q::c)++seg A3)) k=(k,q.n + 1)::(seg A1++(seg (a++c)++seg A3))∧∀ ends,Xs ends (seg A1++(seg (a++q::c)++seg A3)) k=Int.ofNat (ends.filter fun e=>decide (e≤A1.length + c.length)).length:=by
 have eR:seg A1++(seg (a++q::c)++seg A3)=(seg A1++seg c)++kn q::(seg a++seg A3):=by simp [Zt,YD,List.append_assoc]
 have al:=X2 (X:=seg A1++seg c) (q:=kn q) (k:=k) (eR▸G.row.six) hq
 refine ⟨fun p hp=>al.1 (kn p) (by simp [YQ hp]),fun p hp=>al.1 (kn p) (by simp [YQ hp]),fun p hp=>al.2 (kn p) (by simp [YQ hp]),?_,fun ends=>?_⟩
 ·rw [eR,UE al.1 (show YA k (kn q)=true from hq) al.2]
  simp [Zt,kn]
 ·rw [eR,UF _ al.1 (show YA k (kn q)=true from hq),List.length_append,YG,YG]
theorem Good.hit3 {s1 s2 s3 j k:Nat} {a c A1 A2:List Pr} {q:Pr} (G:Good s1 s2 s3 j A1 A2 (a++q::c)) (hq:Hit k q=true):(∀ p∈c,Hit k p=false)∧(∀ p∈A1,Hit k p=false)∧(∀ p∈A2,Hit k p=false)∧
  Zj (seg A1++(seg A2++seg (a++q::c))) k=(k,q.n + 1)::(seg A1++(seg A2++seg (a++c)))∧∀ ends,Xs ends (seg A1++(seg A2++seg (a++q::c))) k=Int.ofNat (ends.filter fun e=>decide (e≤A1.length + A2.length + c.length)).length:=by
 have eR:seg A1++(seg A2++seg (a++q::c))=(seg A1++seg A2++seg c)++kn q::seg a:=by simp [Zt,YD,List.append_assoc]
 have al:=X2 (X:=seg A1++seg A2++seg c) (q:=kn q) (k:=k) (eR▸G.row.six) hq
 refine ⟨fun p hp=>al.1 (kn p) (by simp [YQ hp]),fun p hp=>al.1 (kn p) (by simp [YQ hp]),fun p hp=>al.1 (kn p) (by simp [YQ hp]),?_,fun ends=>?_⟩
 ·rw [eR,UE al.1 (show YA k (kn q)=true from hq) al.2]
  simp [Zt,kn]
 ·rw [eR,UF _ al.1 (show YA k (kn q)=true from hq),List.length_append,List.length_append,YG,YG,YG]
theorem WA {e x:Nat} {l:List Nat} (h:x < e):((e::l).filter fun e=>decide (e≤x))=l.filter fun e=>decide (e≤x):=List.filter_cons_of_neg (by simpa using h)
theorem UG {e x:Nat} {l:List Nat} (h:e≤x):((e::l).filter fun e=>decide (e≤x))=e::l.filter fun e=>decide (e≤x):=List.filter_cons_of_pos (by simpa using h)
theorem FX {s1 s2 x:Nat} (h:x < s1):([s1,s1 + s2].filter fun e=>decide (e≤x)).length=0:=by rw [WA h,WA (by omega)]; rfl
theorem FY {s1 s2 s3 x:Nat} (h:x < s1):([s1,s1 + s2,s1 + s2 + s3].filter fun e=>decide (e≤x)).length=0:=by rw [WA h,WA (by omega),WA (by omega)]; rfl
theorem FZ {s1 s2 x y:Nat} (e:y=s1) (h:x < s2):([s1,s1 + s2].filter fun e=>decide (e≤y + x)).length=1:=by rw [UG (by omega),WA (by omega)]; rfl
theorem Fa {s1 s2 s3 x y:Nat} (e:y=s1) (h:x < s2):([s1,s1 + s2,s1 + s2 + s3].filter fun e=>decide (e≤y + x)).length=1:=by rw [UG (by omega),WA (by omega),WA (by omega)]; rfl
theorem Fb {s1 s2 s3 x y z:Nat} (e:y=s1) (e':z=s2) (h:x < s3):([s1,s1 + s2,s1 + s2 + s3].filter fun e=>decide (e≤y + z + x)).length=2:=by rw [UG (by omega),UG (by omega),WA (by omega)]; rfl
theorem lc {a c:List Pr} {q:Pr} {s:Nat} (h:(a++q::c).length≤s):c.length < s:=by
 rw [List.length_append,List.length_cons] at h
 omega
theorem lpl {A:List Pr} {x:Pr} {s:Nat} (h:A.length < s):(A++[x]).length≤s:=by rw [List.length_append]; exact h
theorem lpe {A:List Pr} {x:Pr} {s:Nat} (h:A.length + 1=s):(A++[x]).length=s:=by rw [List.length_append]; exact h
theorem lpm {a c:List Pr} {q x:Pr} {s:Nat} (h:(a++q::c).length≤s):((a++c)++[x]).length≤s:=lpl (W1 h)
theorem Jx {a c:List Pr} {q x:Pr} {s:Nat} (h:(a++q::c).length=s):((a++c)++[x]).length=s:=lpe (by rwa [Od] at h)
theorem Io {a b c x y z:Nat} (e1:a=x) (e2:b=y) (e3:c=z):a + b + c=x + y + z:=by rw [e1,e2,e3]
theorem Xf {A1 A2 A3:List Pr} {k:Nat} (h1:∀ p∈A1,Hit k p=false) (h2:∀ p∈A2,Hit k p=false) (h3:∀ p∈A3,Hit k p=false):∀ x∈seg A1++(seg A2++seg A3),YA k x=false:=fun x hx=>by
 rcases List.mem_append.mp hx with h | h
 ·exact Ud h1 x h
 ·rcases List.mem_append.mp h with h | h
  ·exact Ud h2 x h
  ·exact Ud h3 x h
theorem UH {A:List Pr} {s:Nat} (h:A.length=s) (h1:1≤s):∃ q y,A=q::y∧y.length + 1=s:=X3 (by omega) (by omega) h1
theorem Wk {A B C:List Pr} {Q:Pr→Prop} (h1:∀ p∈A,Q p) (h2:∀ p∈B,Q p) (h3:∀ p∈C,Q p):∀ p∈A++(B++C),Q p:=fun p hp=>by
 rcases List.mem_append.mp hp with h | h
 ·exact h1 p h
 ·rcases List.mem_append.mp h with h | h
  ·exact h2 p h
  ·exact h3 p h
theorem Ys {A:List Pr} {x:Pr} {Q:Pr→Prop} (h:∀ p∈A,Q p) (hx:Q x):∀ p∈A++[x],Q p:=fun p hp=>by
 rcases List.mem_append.mp hp with h' | h'
 ·exact h p h'
 ·cases h' with
  | head=>exact hx
  | tail _ h'=>exact nomatch h'
theorem o1 {A B C nw:List Pr} {p:Pr} (h:p∈A):p∈A++(B++C)∨p∈nw:=.inl (List.mem_append.mpr (.inl h))
theorem o2 {A B C nw:List Pr} {p:Pr} (h:p∈B):p∈A++(B++C)∨p∈nw:=.inl (List.mem_append.mpr (.inr (List.mem_append.mpr (.inl h))))
theorem o3 {A B C nw:List Pr} {p:Pr} (h:p∈C):p∈A++(B++C)∨p∈nw:=.inl (List.mem_append.mpr (.inr (List.mem_append.mpr (.inr h))))
theorem HH (w:World) (b:Bool) {RO:ZA} (sl es rm er:Nat) (s1 s2:Nat) (u1 u2:Nat) (S1 S2:Sk) (A1 A2:List Pr) (ep1 ep2 li ld lp:Nat) (x:Lk) (ln:Int) (lt:Nat) (vs:List Value) (ep k t j:Nat)
  (h1:1≤s1∧s1≤2) (h2:1≤s2∧s2≤2) (hk:k < 12) (hj:j < 12) (G:Good s1 s2 0 j A1 A2 []) (hR:YT (A1++(A2++[])) RO) (hz:vs.length≤1000) :
  ∃ (res:Int) (O1 O2:(Nat→Nat)→List Pr) (lost:List Pr) (nw:(Nat→Nat)→List Pr),(Yz w sl es rm er (Int.ofNat s1) (Int.ofNat s2) u1 u2 S1 S2 A1 A2 ep1 ep2 li ld lp x ln lt vs ep k t res O1 O2 (vs++lost.map fun p=>.str (wd p.k) p.t) nw).ok (wf w b) RO 500∧∀ ρ,Asked s1 s2 0 j k A1 A2 [] [s1,s1 + s2] res (O1 ρ) (O2 ρ) [] lost (nw ρ):=by
 obtain ⟨F1,F2,F3⟩:=G.fc hR h1.2 h2.2 (by decide)
 rcases Xj (k:=k) (ps:=A1) with m1 | ⟨a,q,c,e1,ha,hq⟩
 ·rcases Xj (k:=k) (ps:=A2) with m2 | ⟨a,q,c,e2,ha,hq⟩
  ·by_cases g1:A1.length < s1
   ·skip
    exact ⟨-1,fun ρ=>(A1++[⟨ρ 1,k,t,0 + 1,ρ 2⟩]),fun ρ=>A2,[],fun ρ=>[⟨ρ 1,k,t,0 + 1,ρ 2⟩],by rw [List.map_nil,List.append_nil]; exact PC w b RO _ _ _ _ _ _ _ _ _ _ A1 A2 _ _ _ _ _ _ _ _ _ _ _ _ hk (YJ w b _ _ _ _ _ F1.l F1.tw hk m1 F1.R) (YJ w b _ _ _ _ _ F2.l F2.tw hk m2 F2.R) (Xp w b F1 F1.R (fun _ _=>hk) (fun _ _=>(by decide:0 + 1 < 13)) (fun _ _=>Yl m1) g1 h1.2),fun ρ=>Asked.mk' G hk (lpl g1) G.l2 G.l3 (fun h=>absurd (G.f2 h) (Nat.ne_of_lt g1)) (fun h=>absurd rfl h) (by rw [XC (Xf m1 m2 (A3:=[]) (fun _ h=>nomatch h))]; simp [Zt,YD,Yc,kn]) (fun h=>absurd rfl h) (Xi _ (Xf m1 m2 (A3:=[]) (fun _ h=>nomatch h))).symm (Wk (Ys (fun _ h=>o1 h) (.inr (.head _))) (fun _ h=>o2 h) (fun _ h=>nomatch h))⟩
   ·skip
    obtain ⟨q1,y1,rfl,len1⟩:=X3 g1 G.l1 h1.1
    by_cases g2:A2.length < s2
    ·skip
     exact ⟨-1,fun ρ=>(y1++[⟨ρ 1,k,t,0 + 1,ρ 2⟩]),fun ρ=>(A2++[⟨ρ 3,q1.k,q1.t,q1.n,q1.t'⟩]),[],fun ρ=>[⟨ρ 3,q1.k,q1.t,q1.n,q1.t'⟩,⟨ρ 1,k,t,0 + 1,ρ 2⟩],by rw [List.map_nil,List.append_nil]; exact Yr (PD w b RO _ _ _ _ _ _ _ _ _ _ (q1::y1) A2 y1 q1 _ _ _ _ _ _ _ _ _ _ _ _ hk (YJ w b _ _ _ _ _ F1.l F1.tw hk m1 F1.R) (YJ w b _ _ _ _ _ F2.l F2.tw hk m2 F2.R) (XS w b F1 (fun _ _=>hk) (fun _ _=>(by decide:0 + 1 < 13)) (fun _ _=>m1) len1) (Xp w b F2 F2.R (fun _ _=>F1.tw q1 (.head _)) (fun _ _=>Nat.lt_succ_of_lt (Nat.lt_of_le_of_lt (F1.nt q1 (.head _)) hj)) (fun _ _=>Yl G.mk2) g2 h2.2)) (F1.R q1 (.head _)),fun ρ=>Asked.mk' G hk (Nat.le_of_eq (lpe len1)) (lpl g2) G.l3 (fun _=>lpe len1) (fun h=>absurd rfl h) (by rw [XC (Xf m1 m2 (A3:=[]) (fun _ h=>nomatch h))]; simp [Zt,YD,Yc,kn]) (fun h=>absurd rfl h) (Xi _ (Xf m1 m2 (A3:=[]) (fun _ h=>nomatch h))).symm (Wk (Ys (fun _ h=>o1 (.tail _ h)) (.inr (.tail _ (.head _)))) (Ys (fun _ h=>o2 h) (.inr (.head _))) (fun _ h=>nomatch h))⟩
    ·skip
     obtain ⟨q2,y2,rfl,len2⟩:=X3 g2 G.l2 h2.1
     exact ⟨-1,fun ρ=>(y1++[⟨ρ 1,k,t,0 + 1,ρ 2⟩]),fun ρ=>(y2++[⟨ρ 3,q1.k,q1.t,q1.n,q1.t'⟩]),[q2],fun ρ=>[⟨ρ 3,q1.k,q1.t,q1.n,q1.t'⟩,⟨ρ 1,k,t,0 + 1,ρ 2⟩],by exact Yr (Yr (PE w b RO _ _ _ _ _ _ _ _ _ _ (q1::y1) (q2::y2) y1 y2 q1 q2 _ _ _ _ _ _ _ _ _ _ _ _ hk (YJ w b _ _ _ _ _ F1.l F1.tw hk m1 F1.R) (YJ w b _ _ _ _ _ F2.l F2.tw hk m2 F2.R) (XS w b F1 (fun _ _=>hk) (fun _ _=>(by decide:0 + 1 < 13)) (fun _ _=>m1) len1) (XS w b F2 (fun _ _=>F1.tw q1 (.head _)) (fun _ _=>Nat.lt_succ_of_lt (Nat.lt_of_le_of_lt (F1.nt q1 (.head _)) hj)) (fun _ _=>G.mk2) len2) hz) (.tail _ (F1.R q1 (.head _)))) (F2.R q2 (.head _)),fun ρ=>Asked.mk' G hk (Nat.le_of_eq (lpe len1)) (Nat.le_of_eq (lpe len2)) G.l3 (fun _=>lpe len1) (fun h=>absurd rfl h) (by rw [XC (Xf m1 m2 (A3:=[]) (fun _ h=>nomatch h))]; simp [Zt,YD,Yc,kn]) (fun _=>Io (lpe len1) (lpe len2) rfl) (Xi _ (Xf m1 m2 (A3:=[]) (fun _ h=>nomatch h))).symm (Wk (Ys (fun _ h=>o1 (.tail _ h)) (.inr (.tail _ (.head _)))) (Ys (fun _ h=>o2 (.tail _ h)) (.inr (.head _))) (fun _ h=>nomatch h))⟩
  ·subst e2
   obtain ⟨q1,y1,rfl,len1⟩:=UH (G.f2 (by simp)) h1.1
   obtain ⟨mc,m1,_,hrow,hres⟩:=G.hit2 hq
   exact ⟨1,fun ρ=>(y1++[⟨ρ 1,k,t,q.n + 1,ρ 2⟩]),fun ρ=>((a++c)++[⟨ρ 3,q1.k,q1.t,q1.n,q1.t'⟩]),[],fun ρ=>[⟨ρ 3,q1.k,q1.t,q1.n,q1.t'⟩,⟨ρ 1,k,t,q.n + 1,ρ 2⟩],by rw [List.map_nil,List.append_nil]; exact Yr (PG w b RO _ _ _ _ _ _ _ _ _ _ (q1::y1) (a++q::c) (a++c) y1 q1 _ _ _ _ _ _ _ _ _ _ _ _ hk q.n q.t' (Nat.succ_lt_succ (Nat.lt_of_le_of_lt (F2.nt q Xo) hj)) (YJ w b _ _ _ _ _ F1.l F1.tw hk m1 F1.R) (TF w b _ _ _ _ _ F2.l F2.tw hk ha hq F2.R) (QD w b _ _ _ _ _ F2.l F2.tw hk ha hq F2.R) (fun _ h e=>MK w b _ _ _ _ _ (Nat.le_succ_of_le F2.l) F2.tw hk F2.six (F2.R.up h) (W0 ha hq mc) e) (XS w b F1 (fun _ _=>hk) (fun _ _=>Nat.succ_lt_succ (Nat.lt_of_le_of_lt (F2.nt q Xo) hj)) (fun _ _=>m1) len1) (Xp w b F2.mid F2.mid.R (fun _ _=>F1.tw q1 (.head _)) (fun _ _=>Nat.lt_succ_of_lt (Nat.lt_of_le_of_lt (F1.nt q1 (.head _)) hj)) (fun _ _=>Yl fun p hp=>G.mk2 p (XR hp)) (W1 G.l2) h2.2)) (F1.R q1 (.head _)),fun ρ=>Asked.mk' G hk (Nat.le_of_eq (lpe len1)) (lpm G.l2) G.l3 (fun _=>lpe len1) (fun h=>absurd rfl h) (by rw [hrow]; simp [Zt,YD,Yc,kn]) (fun h=>absurd rfl h) ((hres _).trans (congrArg Int.ofNat (FZ (y:=(q1::y1).length) len1 (lc G.l2)))).symm (Wk (Ys (fun _ h=>o1 (.tail _ h)) (.inr (.tail _ (.head _)))) (Ys (fun _ h=>o2 (XR h)) (.inr (.head _))) (fun _ h=>nomatch h))⟩
 ·subst e1
  obtain ⟨mc,m2,_,hrow,hres⟩:=G.hit1 hq
  exact ⟨0,fun ρ=>((a++c)++[⟨ρ 1,k,t,q.n + 1,ρ 2⟩]),fun ρ=>A2,[],fun ρ=>[⟨ρ 1,k,t,q.n + 1,ρ 2⟩],by rw [List.map_nil,List.append_nil]; exact PF w b RO _ _ _ _ _ _ _ _ _ _ (a++q::c) A2 (a++c) _ _ _ _ _ _ _ _ _ _ _ _ hk q.n q.t' (Nat.succ_lt_succ (Nat.lt_of_le_of_lt (F1.nt q Xo) hj)) (TF w b _ _ _ _ _ F1.l F1.tw hk ha hq F1.R) (YJ w b _ _ _ _ _ F2.l F2.tw hk m2 F2.R) (QD w b _ _ _ _ _ F1.l F1.tw hk ha hq F1.R) (Xp w b F1 F1.mid.R (fun _ _=>hk) (fun _ _=>Nat.succ_lt_succ (Nat.lt_of_le_of_lt (F1.nt q Xo) hj)) (fun _ _=>W0 ha hq mc) (W1 G.l1) h1.2),fun ρ=>Asked.mk' G hk (lpm G.l1) G.l2 G.l3 (fun h=>Jx (G.f2 h)) (fun h=>absurd rfl h) (by rw [hrow]; simp [Zt,YD,Yc,kn]) (fun h=>absurd rfl h) ((hres _).trans (congrArg Int.ofNat (FX (lc G.l1)))).symm (Wk (Ys (fun _ h=>o1 (XR h)) (.inr (.head _))) (fun _ h=>o2 h) (fun _ h=>nomatch h))⟩
theorem HI (w:World) (b:Bool) {RO:ZA} (sl es rm er:Nat) (s1 s2 s3:Nat) (u1 u2 u3:Nat) (S1 S2 S3:Sk) (A1 A2 A3:List Pr) (ep1 ep2 ep3 li ld lp:Nat) (x:Lk) (ln:Int) (lt:Nat) (vs:List Value) (ep k t j:Nat)
  (h1:1≤s1∧s1≤2) (h2:1≤s2∧s2≤2) (h3:1≤s3∧s3≤2) (hk:k < 12) (hj:j < 12) (G:Good s1 s2 s3 j A1 A2 A3) (hR:YT (A1++(A2++A3)) RO) (hz:vs.length≤1000) :
  ∃ (res:Int) (O1 O2 O3:(Nat→Nat)→List Pr) (lost:List Pr) (nw:(Nat→Nat)→List Pr),(Yh w sl es rm er (Int.ofNat s1) (Int.ofNat s2) (Int.ofNat s3) u1 u2 u3 S1 S2 S3 A1 A2 A3 ep1 ep2 ep3 li ld lp x ln lt vs ep k t res O1 O2 O3 (vs++lost.map fun p=>.str (wd p.k) p.t) nw).ok (wf w b) RO 500∧∀ ρ,Asked s1 s2 s3 j k A1 A2 A3 [s1,s1 + s2,s1 + s2 + s3] res (O1 ρ) (O2 ρ) (O3 ρ) lost (nw ρ):=by
 obtain ⟨F1,F2,F3⟩:=G.fc hR h1.2 h2.2 h3.2
 rcases Xj (k:=k) (ps:=A1) with m1 | ⟨a,q,c,e1,ha,hq⟩
 ·rcases Xj (k:=k) (ps:=A2) with m2 | ⟨a,q,c,e2,ha,hq⟩
  ·rcases Xj (k:=k) (ps:=A3) with m3 | ⟨a,q,c,e3,ha,hq⟩
   ·by_cases g1:A1.length < s1
    ·skip
     exact ⟨-1,fun ρ=>(A1++[⟨ρ 1,k,t,0 + 1,ρ 2⟩]),fun ρ=>A2,fun ρ=>A3,[],fun ρ=>[⟨ρ 1,k,t,0 + 1,ρ 2⟩],by rw [List.map_nil,List.append_nil]; exact PH w b RO _ _ _ _ _ _ _ _ _ _ _ _ _ A1 A2 A3 _ _ _ _ _ _ _ _ _ _ _ _ _ hk (YJ w b _ _ _ _ _ F1.l F1.tw hk m1 F1.R) (YJ w b _ _ _ _ _ F2.l F2.tw hk m2 F2.R) (YJ w b _ _ _ _ _ F3.l F3.tw hk m3 F3.R) (Xp w b F1 F1.R (fun _ _=>hk) (fun _ _=>(by decide:0 + 1 < 13)) (fun _ _=>Yl m1) g1 h1.2),fun ρ=>Asked.mk' G hk (lpl g1) G.l2 G.l3 (fun h=>absurd (G.f2 h) (Nat.ne_of_lt g1)) G.f3 (by rw [XC (Xf m1 m2 m3)]; simp [Zt,YD,Yc,kn]) (fun h=>absurd rfl h) (Xi _ (Xf m1 m2 m3)).symm (Wk (Ys (fun _ h=>o1 h) (.inr (.head _))) (fun _ h=>o2 h) (fun _ h=>o3 h))⟩
    ·skip
     obtain ⟨q1,y1,rfl,len1⟩:=X3 g1 G.l1 h1.1
     by_cases g2:A2.length < s2
     ·skip
      exact ⟨-1,fun ρ=>(y1++[⟨ρ 1,k,t,0 + 1,ρ 2⟩]),fun ρ=>(A2++[⟨ρ 3,q1.k,q1.t,q1.n,q1.t'⟩]),fun ρ=>A3,[],fun ρ=>[⟨ρ 3,q1.k,q1.t,q1.n,q1.t'⟩,⟨ρ 1,k,t,0 + 1,ρ 2⟩],by rw [List.map_nil,List.append_nil]; exact Yr (PI w b RO _ _ _ _ _ _ _ _ _ _ _ _ _ (q1::y1) A2 A3 y1 q1 _ _ _ _ _ _ _ _ _ _ _ _ _ hk (YJ w b _ _ _ _ _ F1.l F1.tw hk m1 F1.R) (YJ w b _ _ _ _ _ F2.l F2.tw hk m2 F2.R) (YJ w b _ _ _ _ _ F3.l F3.tw hk m3 F3.R) (XS w b F1 (fun _ _=>hk) (fun _ _=>(by decide:0 + 1 < 13)) (fun _ _=>m1) len1) (Xp w b F2 F2.R (fun _ _=>F1.tw q1 (.head _)) (fun _ _=>Nat.lt_succ_of_lt (Nat.lt_of_le_of_lt (F1.nt q1 (.head _)) hj)) (fun _ _=>Yl G.mk2) g2 h2.2)) (F1.R q1 (.head _)),fun ρ=>Asked.mk' G hk (Nat.le_of_eq (lpe len1)) (lpl g2) G.l3 (fun _=>lpe len1) (fun h=>absurd (G.f3 h) (Nat.ne_of_lt g2)) (by rw [XC (Xf m1 m2 m3)]; simp [Zt,YD,Yc,kn]) (fun h=>absurd rfl h) (Xi _ (Xf m1 m2 m3)).symm (Wk (Ys (fun _ h=>o1 (.tail _ h)) (.inr (.tail _ (.head _)))) (Ys (fun _ h=>o2 h) (.inr (.head _))) (fun _ h=>o3 h))⟩
     ·skip
      obtain ⟨q2,y2,rfl,len2⟩:=X3 g2 G.l2 h2.1
      by_cases g3:A3.length < s3
      ·skip
       exact ⟨-1,fun ρ=>(y1++[⟨ρ 1,k,t,0 + 1,ρ 2⟩]),fun ρ=>(y2++[⟨ρ 3,q1.k,q1.t,q1.n,q1.t'⟩]),fun ρ=>(A3++[⟨ρ 4,q2.k,q2.t,q2.n,q2.t'⟩]),[],fun ρ=>[⟨ρ 4,q2.k,q2.t,q2.n,q2.t'⟩,⟨ρ 3,q1.k,q1.t,q1.n,q1.t'⟩,⟨ρ 1,k,t,0 + 1,ρ 2⟩],by rw [List.map_nil,List.append_nil]; exact Yr (Yr (PJ w b RO _ _ _ _ _ _ _ _ _ _ _ _ _ (q1::y1) (q2::y2) A3 y1 y2 q1 q2 _ _ _ _ _ _ _ _ _ _ _ _ _ hk (YJ w b _ _ _ _ _ F1.l F1.tw hk m1 F1.R) (YJ w b _ _ _ _ _ F2.l F2.tw hk m2 F2.R) (YJ w b _ _ _ _ _ F3.l F3.tw hk m3 F3.R) (XS w b F1 (fun _ _=>hk) (fun _ _=>(by decide:0 + 1 < 13)) (fun _ _=>m1) len1) (XS w b F2 (fun _ _=>F1.tw q1 (.head _)) (fun _ _=>Nat.lt_succ_of_lt (Nat.lt_of_le_of_lt (F1.nt q1 (.head _)) hj)) (fun _ _=>G.mk2) len2) (Xp w b F3 F3.R (fun _ _=>F2.tw q2 (.head _)) (fun _ _=>Nat.lt_succ_of_lt (Nat.lt_of_le_of_lt (F2.nt q2 (.head _)) hj)) (fun _ _=>Yl G.mk3) g3 h3.2)) (.tail _ (F1.R q1 (.head _)))) (F2.R q2 (.head _)),fun ρ=>Asked.mk' G hk (Nat.le_of_eq (lpe len1)) (Nat.le_of_eq (lpe len2)) (lpl g3) (fun _=>lpe len1) (fun _=>lpe len2) (by rw [XC (Xf m1 m2 m3)]; simp [Zt,YD,Yc,kn]) (fun h=>absurd rfl h) (Xi _ (Xf m1 m2 m3)).symm (Wk (Ys (fun _ h=>o1 (.tail _ h)) (.inr (.tail _ (.tail _ (.head _))))) (Ys (fun _ h=>o2 (.tail _ h)) (.inr (.tail _ (.head _)))) (Ys (fun _ h=>o3 h) (.inr (.head _))))⟩
      ·skip
       obtain ⟨q3,y3,rfl,len3⟩:=X3 g3 G.l3 h3.1
       exact ⟨-1,fun ρ=>(y1++[⟨ρ 1,k,t,0 + 1,ρ 2⟩]),fun ρ=>(y2++[⟨ρ 3,q1.k,q1.t,q1.n,q1.t'⟩]),fun ρ=>(y3++[⟨ρ 4,q2.k,q2.t,q2.n,q2.t'⟩]),[q3],fun ρ=>[⟨ρ 4,q2.k,q2.t,q2.n,q2.t'⟩,⟨ρ 3,q1.k,q1.t,q1.n,q1.t'⟩,⟨ρ 1,k,t,0 + 1,ρ 2⟩],by exact Yr (Yr (Yr (PK w b RO _ _ _ _ _ _ _ _ _ _ _ _ _ (q1::y1) (q2::y2) (q3::y3) y1 y2 y3 q1 q2 q3 _ _ _ _ _ _ _ _ _ _ _ _ _ hk (YJ w b _ _ _ _ _ F1.l F1.tw hk m1 F1.R) (YJ w b _ _ _ _ _ F2.l F2.tw hk m2 F2.R) (YJ w b _ _ _ _ _ F3.l F3.tw hk m3 F3.R) (XS w b F1 (fun _ _=>hk) (fun _ _=>(by decide:0 + 1 < 13)) (fun _ _=>m1) len1) (XS w b F2 (fun _ _=>F1.tw q1 (.head _)) (fun _ _=>Nat.lt_succ_of_lt (Nat.lt_of_le_of_lt (F1.nt q1 (.head _)) hj)) (fun _ _=>G.mk2) len2) (XS w b F3 (fun _ _=>F2.tw q2 (.head _)) (fun _ _=>Nat.lt_succ_of_lt (Nat.lt_of_le_of_lt (F2.nt q2 (.head _)) hj)) (fun _ _=>G.mk3) len3) hz) (.tail _ (.tail _ (F1.R q1 (.head _))))) (.tail _ (F2.R q2 (.head _)))) (F3.R q3 (.head _)),fun ρ=>Asked.mk' G hk (Nat.le_of_eq (lpe len1)) (Nat.le_of_eq (lpe len2)) (Nat.le_of_eq (lpe len3)) (fun _=>lpe len1) (fun _=>lpe len2) (by rw [XC (Xf m1 m2 m3)]; simp [Zt,YD,Yc,kn]) (fun _=>Io (lpe len1) (lpe len2) (lpe len3)) (Xi _ (Xf m1 m2 m3)).symm (Wk (Ys (fun _ h=>o1 (.tail _ h)) (.inr (.tail _ (.tail _ (.head _))))) (Ys (fun _ h=>o2 (.tail _ h)) (.inr (.tail _ (.head _)))) (Ys (fun _ h=>o3 (.tail _ h)) (.inr (.head _))))⟩
   ·subst e3
    obtain ⟨q2,y2,rfl,len2⟩:=UH (G.f3 (by simp)) h2.1
    obtain ⟨q1,y1,rfl,len1⟩:=UH (G.f2 (by simp)) h1.1
    obtain ⟨mc,m1,m2,hrow,hres⟩:=G.hit3 hq
    exact ⟨2,fun ρ=>(y1++[⟨ρ 1,k,t,q.n + 1,ρ 2⟩]),fun ρ=>(y2++[⟨ρ 3,q1.k,q1.t,q1.n,q1.t'⟩]),fun ρ=>((a++c)++[⟨ρ 4,q2.k,q2.t,q2.n,q2.t'⟩]),[],fun ρ=>[⟨ρ 4,q2.k,q2.t,q2.n,q2.t'⟩,⟨ρ 3,q1.k,q1.t,q1.n,q1.t'⟩,⟨ρ 1,k,t,q.n + 1,ρ 2⟩],by rw [List.map_nil,List.append_nil]; exact Yr (Yr (PN w b RO _ _ _ _ _ _ _ _ _ _ _ _ _ (q1::y1) (q2::y2) (a++q::c) (a++c) y1 y2 q1 q2 _ _ _ _ _ _ _ _ _ _ _ _ _ hk q.n q.t' (Nat.succ_lt_succ (Nat.lt_of_le_of_lt (F3.nt q Xo) hj)) (YJ w b _ _ _ _ _ F1.l F1.tw hk m1 F1.R) (YJ w b _ _ _ _ _ F2.l F2.tw hk m2 F2.R) (TF w b _ _ _ _ _ F3.l F3.tw hk ha hq F3.R) (QD w b _ _ _ _ _ F3.l F3.tw hk ha hq F3.R) (fun _ h e=>MK w b _ _ _ _ _ (Nat.le_succ_of_le F3.l) F3.tw hk F3.six (F3.R.up h) (W0 ha hq mc) e) (XS w b F1 (fun _ _=>hk) (fun _ _=>Nat.succ_lt_succ (Nat.lt_of_le_of_lt (F3.nt q Xo) hj)) (fun _ _=>m1) len1) (XS w b F2 (fun _ _=>F1.tw q1 (.head _)) (fun _ _=>Nat.lt_succ_of_lt (Nat.lt_of_le_of_lt (F1.nt q1 (.head _)) hj)) (fun _ _=>G.mk2) len2) (Xp w b F3.mid F3.mid.R (fun _ _=>F2.tw q2 (.head _)) (fun _ _=>Nat.lt_succ_of_lt (Nat.lt_of_le_of_lt (F2.nt q2 (.head _)) hj)) (fun _ _=>Yl fun p hp=>G.mk3 p (XR hp)) (W1 G.l3) h3.2)) (.tail _ (F1.R q1 (.head _)))) (F2.R q2 (.head _)),fun ρ=>Asked.mk' G hk (Nat.le_of_eq (lpe len1)) (Nat.le_of_eq (lpe len2)) (lpm G.l3) (fun _=>lpe len1) (fun _=>lpe len2) (by rw [hrow]; simp [Zt,YD,Yc,kn]) (fun h=>absurd rfl h) ((hres _).trans (congrArg Int.ofNat (Fb (y:=(q1::y1).length) (z:=(q2::y2).length) len1 len2 (lc G.l3)))).symm (Wk (Ys (fun _ h=>o1 (.tail _ h)) (.inr (.tail _ (.tail _ (.head _))))) (Ys (fun _ h=>o2 (.tail _ h)) (.inr (.tail _ (.head _)))) (Ys (fun _ h=>o3 (XR h)) (.inr (.head _))))⟩
  ·subst e2
   obtain ⟨q1,y1,rfl,len1⟩:=UH (G.f2 (by simp)) h1.1
   obtain ⟨mc,m1,m3,hrow,hres⟩:=G.hit2 hq
   exact ⟨1,fun ρ=>(y1++[⟨ρ 1,k,t,q.n + 1,ρ 2⟩]),fun ρ=>((a++c)++[⟨ρ 3,q1.k,q1.t,q1.n,q1.t'⟩]),fun ρ=>A3,[],fun ρ=>[⟨ρ 3,q1.k,q1.t,q1.n,q1.t'⟩,⟨ρ 1,k,t,q.n + 1,ρ 2⟩],by rw [List.map_nil,List.append_nil]; exact Yr (PM w b RO _ _ _ _ _ _ _ _ _ _ _ _ _ (q1::y1) (a++q::c) A3 (a++c) y1 q1 _ _ _ _ _ _ _ _ _ _ _ _ _ hk q.n q.t' (Nat.succ_lt_succ (Nat.lt_of_le_of_lt (F2.nt q Xo) hj)) (YJ w b _ _ _ _ _ F1.l F1.tw hk m1 F1.R) (TF w b _ _ _ _ _ F2.l F2.tw hk ha hq F2.R) (YJ w b _ _ _ _ _ F3.l F3.tw hk m3 F3.R) (QD w b _ _ _ _ _ F2.l F2.tw hk ha hq F2.R) (fun _ h e=>MK w b _ _ _ _ _ (Nat.le_succ_of_le F2.l) F2.tw hk F2.six (F2.R.up h) (W0 ha hq mc) e) (XS w b F1 (fun _ _=>hk) (fun _ _=>Nat.succ_lt_succ (Nat.lt_of_le_of_lt (F2.nt q Xo) hj)) (fun _ _=>m1) len1) (Xp w b F2.mid F2.mid.R (fun _ _=>F1.tw q1 (.head _)) (fun _ _=>Nat.lt_succ_of_lt (Nat.lt_of_le_of_lt (F1.nt q1 (.head _)) hj)) (fun _ _=>Yl fun p hp=>G.mk2 p (XR hp)) (W1 G.l2) h2.2)) (F1.R q1 (.head _)),fun ρ=>Asked.mk' G hk (Nat.le_of_eq (lpe len1)) (lpm G.l2) G.l3 (fun _=>lpe len1) (fun h=>Jx (G.f3 h)) (by rw [hrow]; simp [Zt,YD,Yc,kn]) (fun h=>absurd rfl h) ((hres _).trans (congrArg Int.ofNat (Fa (y:=(q1::y1).length) len1 (lc G.l2)))).symm (Wk (Ys (fun _ h=>o1 (.tail _ h)) (.inr (.tail _ (.head _)))) (Ys (fun _ h=>o2 (XR h)) (.inr (.head _))) (fun _ h=>o3 h))⟩
 ·subst e1
  obtain ⟨mc,m2,m3,hrow,hres⟩:=G.hit1 hq
  exact ⟨0,fun ρ=>((a++c)++[⟨ρ 1,k,t,q.n + 1,ρ 2⟩]),fun ρ=>A2,fun ρ=>A3,[],fun ρ=>[⟨ρ 1,k,t,q.n + 1,ρ 2⟩],by rw [List.map_nil,List.append_nil]; exact PL w b RO _ _ _ _ _ _ _ _ _ _ _ _ _ (a++q::c) A2 A3 (a++c) _ _ _ _ _ _ _ _ _ _ _ _ _ hk q.n q.t' (Nat.succ_lt_succ (Nat.lt_of_le_of_lt (F1.nt q Xo) hj)) (TF w b _ _ _ _ _ F1.l F1.tw hk ha hq F1.R) (YJ w b _ _ _ _ _ F2.l F2.tw hk m2 F2.R) (YJ w b _ _ _ _ _ F3.l F3.tw hk m3 F3.R) (QD w b _ _ _ _ _ F1.l F1.tw hk ha hq F1.R) (Xp w b F1 F1.mid.R (fun _ _=>hk) (fun _ _=>Nat.succ_lt_succ (Nat.lt_of_le_of_lt (F1.nt q Xo) hj)) (fun _ _=>W0 ha hq mc) (W1 G.l1) h1.2),fun ρ=>Asked.mk' G hk (lpm G.l1) G.l2 G.l3 (fun h=>Jx (G.f2 h)) G.f3 (by rw [hrow]; simp [Zt,YD,Yc,kn]) (fun h=>absurd rfl h) ((hres _).trans (congrArg Int.ofNat (FY (lc G.l1)))).symm (Wk (Ys (fun _ h=>o1 (XR h)) (.inr (.head _))) (fun _ h=>o2 h) (fun _ h=>o3 h))⟩
end
section
open PySem PySem.W PySem PySem.W PySem.W.X PySem.Calls PyProof.Rows PySem.Spec PySem PySem.W PySem.W.X PySem.Calls PyProof.Rows PySem.Spec PySem.Builtin PySem.Builtin.Str
noncomputable def ZG (n t m t':Nat) (a:Nat):Con:=XO (.builtin "int.__mod__") [.int (Int.ofNat n) t,.int (Int.ofNat m) t'] (fun z=>.int (Int.ofNat a) z)
noncomputable def ZM (n t m t':Nat) (a:Nat):Con:=XO (.builtin "int.__floordiv__") [.int (Int.ofNat n) t,.int (Int.ofNat m) t'] (fun z=>.int (Int.ofNat a) z)
noncomputable def Zi (n t k:Nat):Con:={ code:=.call (.ref 303) ⟨[.int (Int.ofNat n) t],[]⟩,mem:=[],r:=fun ρ=>.ok (.ret (.str (wd k) (ρ 0))),upd:=fun _=>[],new:=fun _=>[] }
noncomputable def Go (l:List Nat):List Nat:=l.flatMap fun c=>match Nat.beq c 34,Nat.beq c 92 with | false,false=>[c] | _,_=>[92,c]
noncomputable def quo (k q:Nat):Bool:=match q with | 0=>(match k % 6 with | 0=>false | 5=>false | _=>true) | _=>true
noncomputable def ZZ (k q:Nat):List Nat:=match quo k q with | true=>[119,61,34]++Go (wd k).cps.toList++[34] | false=>[119,61]++(wd k).cps.toList
noncomputable def ZR (k q t0 t1 t2:Nat):Con:={ code:=.call (.ref 145) ⟨[.str ⟨#[119]⟩ t0,.str (wd k) t1,.int (Int.ofNat q) t2],[]⟩,mem:=[],r:=fun ρ=>.ok (.ret (.str ⟨⟨ZZ k q⟩⟩ (ρ 0))),upd:=fun _=>[],new:=fun _=>[] }
noncomputable def WB (a b g:Nat):List Nat:=match g with | 0=>[1 + a,1 + b,1 + b] | _=>[1 + a,1 + b]
noncomputable def Yv (l:List Nat) (i:Nat) (ρ:Nat→Nat):List Value:=match l with | []=>[] | n::l=>.int (Int.ofNat n) (ρ i)::Yv l (i + 1) ρ
noncomputable def Ze (f T t a b g:Nat):Con:={ code:=.call (.ref f) ⟨[.int (Int.ofNat T) t],[]⟩,mem:=[],r:=fun ρ=>.ok (.ret (.ref (ρ 0))),upd:=fun _=>[],new:=fun ρ=>[(ρ 0,ZB (Yv (WB a b g) 2 ρ) (ρ 1))] }
noncomputable def wg (w:World) (b:Bool):World:={ w with params:={ w.params with followText:=fun s=>if s="fstring-hands-on-the-str" then b else w.params.followText s } }
theorem Fd (w:World):wg w (w.params.followText "fstring-hands-on-the-str")=w:=by
 have:(fun s=>if s="fstring-hands-on-the-str" then w.params.followText "fstring-hands-on-the-str" else w.params.followText s)=w.params.followText:=by
  funext s
  split
  ·rename_i e; rw [e]
  ·rfl
 unfold wg
 rw [this]
noncomputable def Tx (x:Str) (t:Nat) (y z:Str) (u v:Nat) (s:Str):Con:={ code:=.builtin "str.replace" ⟨[.str x t,.str y u,.str z v],[]⟩,mem:=[],r:=fun ρ=>.ok (.ret (.str s (ρ 0))),upd:=fun _=>[],new:=fun _=>[] }
noncomputable def Ye (x:Str) (t:Nat) (y z:Str) (u v:Nat) (s:Str):Con:={ Tx x t y z u v s with code:=.call (.builtin "str.replace") ⟨[.str x t,.str y u,.str z v],[]⟩ }
noncomputable def MO (x y z s:PySem.Str):Bool:=!((occurrences x y 0 x.length (x.length + 1)).isEmpty || (y.length == 0 && z.length == 0)) && !(y == z) && !(tooLong (x.length + (occurrences x y 0 x.length (x.length + 1)).length * z.length)) && ((glued z (partsBetween x (occurrences x y 0 x.length (x.length + 1)) y.length)).cps.toList == s.cps.toList) && decide (s.length≤1000)
theorem HJ (w:World) (b:Bool) (RO:ZA) (x:PySem.Str) (t:Nat) (y z:PySem.Str) (u:Nat) (s:PySem.Str) (h:MO x y z s=true):(Tx x t y z (u + 1) (u + 2) s).ok (wf w b) RO 975:=by
 unfold MO at h
 simp only [Bool.and_eq_true,Bool.not_eq_true',decide_eq_true_eq,beq_iff_eq] at h
 obtain ⟨⟨⟨⟨h1,h2⟩,h3⟩,h4⟩,h5⟩:=h
 have g:=gives_str_replace x y z t (u + 1) (u + 2) fun _=>⟨by simp,by simp,h2,h3⟩
 rw [h1] at g
 simp only [Bool.false_eq_true,if_false] at g
 have e:glued z (partsBetween x (occurrences x y 0 x.length (x.length + 1)) y.length)=s:=by
  generalize glued z (partsBetween x (occurrences x y 0 x.length (x.length + 1)) y.length)=g at h4
  cases g; cases s
  congr 1
  exact Array.toList_inj.mp h4
 rw [e] at g
 refine ZD.of_meets rfl F.entry_str_replace (S:=fun A R s'=>(Made.str s).post (fun v s'=>R (.ok (.ret v)) s') s') g ?_
 intro hp g' d tk os R ht hM hR
 refine ⟨Nat.le_trans h5 (by rw [sizeLine_eq]; decide),?_⟩
 exact hR _ _ _ _ _ (Nat.succ_pos _) ⟨rl [tk],rfl,rfl,rfl⟩ hM (Ext.refl _ hp) (fun x=>x)
end
section
open PySem PySem.W
theorem Yo (w:World) (b:Bool) (RO:ZA) (x:Str) (t:Nat) (y z:Str) (u:Nat) (s:Str) (h:MO x y z s=true):(Ye x t y z (u + 1) (u + 2) s).ok (wf w b) RO 960:=
 cR (.i (Tx x t y z (u + 1) (u + 2) s) [] (HJ w b _ _ _ _ _ _ _ h) [] (fun ρ0=>(rl [ρ0 0]))) (by kernel_rfl)
theorem Ty (w:World) (b:Bool) (RO:ZA) (u0 u1 u2:Nat):(ZR 0 0 u0 u1 u2).ok (wf (wg w true) b) RO 800:=
 cB (fd145 _) (.l 11000001210000010227122800013228010400012100000101010104200101001001010010010100009902390245 (.t fun t11=>.z [0] (rl [t11]))) (by cases b<;>kernel_rfl)
theorem TG (w:World) (b:Bool) (RO:ZA) (u0 u1 u2:Nat):(ZR 0 0 u0 u1 u2).ok (wf (wg w false) b) RO 800:=
 cB (fd145 _) (.l 1010000010227122800013228010400012100000101010104200101001001010010010100009902390245 (.t fun t7=>.z [0] (rl [t7]))) (by cases b<;>kernel_rfl)
theorem Tz (w:World) (b:Bool) (RO:ZA) (u0 u1 u2:Nat):(ZR 0 1 u0 u1 u2).ok (wf (wg w true) b) RO 800:=
 cB (fd145 _) (.l 2100000121002001410010012100000101010104200101001001010010010100009902390245 (.t fun t17=>.z [0] (rl [t17]))) (by cases b<;>kernel_rfl)
theorem TH (w:World) (b:Bool) (RO:ZA) (u0 u1 u2:Nat):(ZR 0 1 u0 u1 u2).ok (wf (wg w false) b) RO 800:=
 cB (fd145 _) (.l 100000101002001410010012100000101010104200101001001010010010100009902390245 (.t fun t13=>.z [0] (rl [t13]))) (by cases b<;>kernel_rfl)
noncomputable def Ug (w:World) (b:Bool) (RO:ZA) (u0 u1 u2:Nat):CE (wf (wg w true) b) RO []:=
 .l 11000003100110990227122800013228010400012100000101010104200101001001010010010100009902390245 (.u 0 fun t8=>.k (Ye ⟨#[99,34]⟩ u1 ⟨#[34]⟩ ⟨#[92,34]⟩ (t8 + 1) ((t8 + 1) + 1) ⟨#[99,92,34]⟩) [] (Yo (wg w true) b _ _ _ _ _ _ _ (by decide +kernel)) fun ρ0=>.l 21000003210020030100 (.t fun t16=>.z [4] (rl [t16])))
theorem T9 (w:World) (b:Bool) (RO:ZA) (u0 u1 u2:Nat):(ZR 1 0 u0 u1 u2).ok (wf (wg w true) b) RO 800:=
 cB (fd145 _) (Ug w b RO u0 u1 u2) (by cases b<;>kernel_rfl)
noncomputable def UL (w:World) (b:Bool) (RO:ZA) (u0 u1 u2:Nat):CE (wf (wg w false) b) RO []:=
 .l 11000003100110990227122800013228010400012100000101010104200101001001010010010100009902390245 (.u 0 fun t8=>.k (Ye ⟨#[99,34]⟩ u1 ⟨#[34]⟩ ⟨#[92,34]⟩ (t8 + 1) ((t8 + 1) + 1) ⟨#[99,92,34]⟩) [] (Yo (wg w false) b _ _ _ _ _ _ _ (by decide +kernel)) fun ρ0=>.l 1000003010020030100 (.t fun t12=>.z [4] (rl [t12])))
theorem TI (w:World) (b:Bool) (RO:ZA) (u0 u1 u2:Nat):(ZR 1 0 u0 u1 u2).ok (wf (wg w false) b) RO 800:=
 cB (fd145 _) (UL w b RO u0 u1 u2) (by cases b<;>kernel_rfl)
noncomputable def Uh (w:World) (b:Bool) (RO:ZA) (u0 u1 u2:Nat):CE (wf (wg w true) b) RO []:=
 .l 110010012100000101010104200101001001010010010100009902390245 (.u 0 fun t8=>.k (Ye ⟨#[99,34]⟩ u1 ⟨#[34]⟩ ⟨#[92,34]⟩ (t8 + 1) ((t8 + 1) + 1) ⟨#[99,92,34]⟩) [] (Yo (wg w true) b _ _ _ _ _ _ _ (by decide +kernel)) fun ρ0=>.l 21000001210020010100 (.t fun t16=>.z [0] (rl [t16])))
theorem SA (w:World) (b:Bool) (RO:ZA) (u0 u1 u2:Nat):(ZR 1 1 u0 u1 u2).ok (wf (wg w true) b) RO 800:=
 cB (fd145 _) (Uh w b RO u0 u1 u2) (by cases b<;>kernel_rfl)
noncomputable def UM (w:World) (b:Bool) (RO:ZA) (u0 u1 u2:Nat):CE (wf (wg w false) b) RO []:=
 .l 110010012100000101010104200101001001010010010100009902390245 (.u 0 fun t8=>.k (Ye ⟨#[99,34]⟩ u1 ⟨#[34]⟩ ⟨#[92,34]⟩ (t8 + 1) ((t8 + 1) + 1) ⟨#[99,92,34]⟩) [] (Yo (wg w false) b _ _ _ _ _ _ _ (by decide +kernel)) fun ρ0=>.l 1000001010020010100 (.t fun t12=>.z [0] (rl [t12])))
theorem TJ (w:World) (b:Bool) (RO:ZA) (u0 u1 u2:Nat):(ZR 1 1 u0 u1 u2).ok (wf (wg w false) b) RO 800:=
 cB (fd145 _) (UM w b RO u0 u1 u2) (by cases b<;>kernel_rfl)
noncomputable def Ui (w:World) (b:Bool) (RO:ZA) (u0 u1 u2:Nat):CE (wf (wg w true) b) RO []:=
 .l 3100110990227122800013228010400012100000101010104200101001001010010010100009902390245 (.u 0 fun t6=>.k (Ye ⟨#[68,92]⟩ u1 ⟨#[92]⟩ ⟨#[92,92]⟩ (t6 + 1) ((t6 + 1) + 1) ⟨#[68,92,92]⟩) [] (Yo (wg w true) b _ _ _ _ _ _ _ (by decide +kernel)) fun ρ0=>.l 21000003210020032100 (.t fun t16=>.z [4] (rl [t16])))
theorem SB (w:World) (b:Bool) (RO:ZA) (u0 u1 u2:Nat):(ZR 2 0 u0 u1 u2).ok (wf (wg w true) b) RO 800:=
 cB (fd145 _) (Ui w b RO u0 u1 u2) (by cases b<;>kernel_rfl)
noncomputable def UN (w:World) (b:Bool) (RO:ZA) (u0 u1 u2:Nat):CE (wf (wg w false) b) RO []:=
 .l 3100110990227122800013228010400012100000101010104200101001001010010010100009902390245 (.u 0 fun t6=>.k (Ye ⟨#[68,92]⟩ u1 ⟨#[92]⟩ ⟨#[92,92]⟩ (t6 + 1) ((t6 + 1) + 1) ⟨#[68,92,92]⟩) [] (Yo (wg w false) b _ _ _ _ _ _ _ (by decide +kernel)) fun ρ0=>.l 1000003010020032100 (.t fun t12=>.z [4] (rl [t12])))
theorem TK (w:World) (b:Bool) (RO:ZA) (u0 u1 u2:Nat):(ZR 2 0 u0 u1 u2).ok (wf (wg w false) b) RO 800:=
 cB (fd145 _) (UN w b RO u0 u1 u2) (by cases b<;>kernel_rfl)
noncomputable def Uj (w:World) (b:Bool) (RO:ZA) (u0 u1 u2:Nat):CE (wf (wg w true) b) RO []:=
 .l 10012100000101010104200101001001010010010100009902390245 (.u 0 fun t6=>.k (Ye ⟨#[68,92]⟩ u1 ⟨#[92]⟩ ⟨#[92,92]⟩ (t6 + 1) ((t6 + 1) + 1) ⟨#[68,92,92]⟩) [] (Yo (wg w true) b _ _ _ _ _ _ _ (by decide +kernel)) fun ρ0=>.l 21000001210020012100 (.t fun t16=>.z [0] (rl [t16])))
theorem SC (w:World) (b:Bool) (RO:ZA) (u0 u1 u2:Nat):(ZR 2 1 u0 u1 u2).ok (wf (wg w true) b) RO 800:=
 cB (fd145 _) (Uj w b RO u0 u1 u2) (by cases b<;>kernel_rfl)
noncomputable def UO (w:World) (b:Bool) (RO:ZA) (u0 u1 u2:Nat):CE (wf (wg w false) b) RO []:=
 .l 10012100000101010104200101001001010010010100009902390245 (.u 0 fun t6=>.k (Ye ⟨#[68,92]⟩ u1 ⟨#[92]⟩ ⟨#[92,92]⟩ (t6 + 1) ((t6 + 1) + 1) ⟨#[68,92,92]⟩) [] (Yo (wg w false) b _ _ _ _ _ _ _ (by decide +kernel)) fun ρ0=>.l 1000001010020012100 (.t fun t12=>.z [0] (rl [t12])))
theorem TL (w:World) (b:Bool) (RO:ZA) (u0 u1 u2:Nat):(ZR 2 1 u0 u1 u2).ok (wf (wg w false) b) RO 800:=
 cB (fd145 _) (UO w b RO u0 u1 u2) (by cases b<;>kernel_rfl)
theorem SD (w:World) (b:Bool) (RO:ZA) (u0 u1 u2:Nat):(ZR 3 0 u0 u1 u2).ok (wf (wg w true) b) RO 800:=
 cB (fd145 _) (.l 210000032100200341000003100110990227122800013228010400012100000101010104200101001001010010010100009902390245 (.t fun t17=>.z [4] (rl [t17]))) (by cases b<;>kernel_rfl)
theorem TM (w:World) (b:Bool) (RO:ZA) (u0 u1 u2:Nat):(ZR 3 0 u0 u1 u2).ok (wf (wg w false) b) RO 800:=
 cB (fd145 _) (.l 10000030100200341000003100110990227122800013228010400012100000101010104200101001001010010010100009902390245 (.t fun t13=>.z [4] (rl [t13]))) (by cases b<;>kernel_rfl)
theorem SE (w:World) (b:Bool) (RO:ZA) (u0 u1 u2:Nat):(ZR 3 1 u0 u1 u2).ok (wf (wg w true) b) RO 800:=
 cB (fd145 _) (.l 2100000121002001410010012100000101010104200101001001010010010100009902390245 (.t fun t17=>.z [0] (rl [t17]))) (by cases b<;>kernel_rfl)
theorem TN (w:World) (b:Bool) (RO:ZA) (u0 u1 u2:Nat):(ZR 3 1 u0 u1 u2).ok (wf (wg w false) b) RO 800:=
 cB (fd145 _) (.l 100000101002001410010012100000101010104200101001001010010010100009902390245 (.t fun t13=>.z [0] (rl [t13]))) (by cases b<;>kernel_rfl)
theorem SF (w:World) (b:Bool) (RO:ZA) (u0 u1 u2:Nat):(ZR 4 0 u0 u1 u2).ok (wf (wg w true) b) RO 800:=
 cB (fd145 _) (.l 210000032100200341000003100110990227122800013228010400012100000101010104200101001001010010010100009902390245 (.t fun t17=>.z [4] (rl [t17]))) (by cases b<;>kernel_rfl)
theorem TO (w:World) (b:Bool) (RO:ZA) (u0 u1 u2:Nat):(ZR 4 0 u0 u1 u2).ok (wf (wg w false) b) RO 800:=
 cB (fd145 _) (.l 10000030100200341000003100110990227122800013228010400012100000101010104200101001001010010010100009902390245 (.t fun t13=>.z [4] (rl [t13]))) (by cases b<;>kernel_rfl)
theorem SG (w:World) (b:Bool) (RO:ZA) (u0 u1 u2:Nat):(ZR 4 1 u0 u1 u2).ok (wf (wg w true) b) RO 800:=
 cB (fd145 _) (.l 2100000121002001410010012100000101010104200101001001010010010100009902390245 (.t fun t17=>.z [0] (rl [t17]))) (by cases b<;>kernel_rfl)
theorem TP (w:World) (b:Bool) (RO:ZA) (u0 u1 u2:Nat):(ZR 4 1 u0 u1 u2).ok (wf (wg w false) b) RO 800:=
 cB (fd145 _) (.l 100000101002001410010012100000101010104200101001001010010010100009902390245 (.t fun t13=>.z [0] (rl [t13]))) (by cases b<;>kernel_rfl)
theorem SH (w:World) (b:Bool) (RO:ZA) (u0 u1 u2:Nat):(ZR 5 0 u0 u1 u2).ok (wf (wg w true) b) RO 800:=
 cB (fd145 _) (.l 11000001210000010227122800013228010400012100000101010104200101001001010010010100009902390245 (.t fun t11=>.z [0] (rl [t11]))) (by cases b<;>kernel_rfl)
theorem TQ (w:World) (b:Bool) (RO:ZA) (u0 u1 u2:Nat):(ZR 5 0 u0 u1 u2).ok (wf (wg w false) b) RO 800:=
 cB (fd145 _) (.l 1010000010227122800013228010400012100000101010104200101001001010010010100009902390245 (.t fun t7=>.z [0] (rl [t7]))) (by cases b<;>kernel_rfl)
theorem SI (w:World) (b:Bool) (RO:ZA) (u0 u1 u2:Nat):(ZR 5 1 u0 u1 u2).ok (wf (wg w true) b) RO 800:=
 cB (fd145 _) (.l 2100000121002001410010012100000101010104200101001001010010010100009902390245 (.t fun t17=>.z [0] (rl [t17]))) (by cases b<;>kernel_rfl)
theorem TR (w:World) (b:Bool) (RO:ZA) (u0 u1 u2:Nat):(ZR 5 1 u0 u1 u2).ok (wf (wg w false) b) RO 800:=
 cB (fd145 _) (.l 100000101002001410010012100000101010104200101001001010010010100009902390245 (.t fun t13=>.z [0] (rl [t13]))) (by cases b<;>kernel_rfl)
theorem SJ (w:World) (b:Bool) (RO:ZA) (u0 u1 u2:Nat):(ZR 6 0 u0 u1 u2).ok (wf (wg w true) b) RO 800:=
 cB (fd145 _) (.l 11000001210000010227122800013228010400012100000101010104200101001001010010010100009902390245 (.t fun t11=>.z [0] (rl [t11]))) (by cases b<;>kernel_rfl)
theorem TT (w:World) (b:Bool) (RO:ZA) (u0 u1 u2:Nat):(ZR 6 0 u0 u1 u2).ok (wf (wg w false) b) RO 800:=
 cB (fd145 _) (.l 1010000010227122800013228010400012100000101010104200101001001010010010100009902390245 (.t fun t7=>.z [0] (rl [t7]))) (by cases b<;>kernel_rfl)
theorem SK (w:World) (b:Bool) (RO:ZA) (u0 u1 u2:Nat):(ZR 6 1 u0 u1 u2).ok (wf (wg w true) b) RO 800:=
 cB (fd145 _) (.l 2100000121002001410010012100000101010104200101001001010010010100009902390245 (.t fun t17=>.z [0] (rl [t17]))) (by cases b<;>kernel_rfl)
theorem TU (w:World) (b:Bool) (RO:ZA) (u0 u1 u2:Nat):(ZR 6 1 u0 u1 u2).ok (wf (wg w false) b) RO 800:=
 cB (fd145 _) (.l 100000101002001410010012100000101010104200101001001010010010100009902390245 (.t fun t13=>.z [0] (rl [t13]))) (by cases b<;>kernel_rfl)
noncomputable def Uk (w:World) (b:Bool) (RO:ZA) (u0 u1 u2:Nat):CE (wf (wg w true) b) RO []:=
 .l 11000003100110990227122800013228010400012100000101010104200101001001010010010100009902390245 (.u 0 fun t8=>.k (Ye ⟨#[67,34]⟩ u1 ⟨#[34]⟩ ⟨#[92,34]⟩ (t8 + 1) ((t8 + 1) + 1) ⟨#[67,92,34]⟩) [] (Yo (wg w true) b _ _ _ _ _ _ _ (by decide +kernel)) fun ρ0=>.l 21000003210020030100 (.t fun t16=>.z [4] (rl [t16])))
theorem SM (w:World) (b:Bool) (RO:ZA) (u0 u1 u2:Nat):(ZR 7 0 u0 u1 u2).ok (wf (wg w true) b) RO 800:=
 cB (fd145 _) (Uk w b RO u0 u1 u2) (by cases b<;>kernel_rfl)
noncomputable def UP (w:World) (b:Bool) (RO:ZA) (u0 u1 u2:Nat):CE (wf (wg w false) b) RO []:=
 .l 11000003100110990227122800013228010400012100000101010104200101001001010010010100009902390245 (.u 0 fun t8=>.k (Ye ⟨#[67,34]⟩ u1 ⟨#[34]⟩ ⟨#[92,34]⟩ (t8 + 1) ((t8 + 1) + 1) ⟨#[67,92,34]⟩) [] (Yo (wg w false) b _ _ _ _ _ _ _ (by decide +kernel)) fun ρ0=>.l 1000003010020030100 (.t fun t12=>.z [4] (rl [t12])))
theorem TV (w:World) (b:Bool) (RO:ZA) (u0 u1 u2:Nat):(ZR 7 0 u0 u1 u2).ok (wf (wg w false) b) RO 800:=
 cB (fd145 _) (UP w b RO u0 u1 u2) (by cases b<;>kernel_rfl)
noncomputable def Ul (w:World) (b:Bool) (RO:ZA) (u0 u1 u2:Nat):CE (wf (wg w true) b) RO []:=
 .l 110010012100000101010104200101001001010010010100009902390245 (.u 0 fun t8=>.k (Ye ⟨#[67,34]⟩ u1 ⟨#[34]⟩ ⟨#[92,34]⟩ (t8 + 1) ((t8 + 1) + 1) ⟨#[67,92,34]⟩) [] (Yo (wg w true) b _ _ _ _ _ _ _ (by decide +kernel)) fun ρ0=>.l 21000001210020010100 (.t fun t16=>.z [0] (rl [t16])))
theorem SN (w:World) (b:Bool) (RO:ZA) (u0 u1 u2:Nat):(ZR 7 1 u0 u1 u2).ok (wf (wg w true) b) RO 800:=
 cB (fd145 _) (Ul w b RO u0 u1 u2) (by cases b<;>kernel_rfl)
noncomputable def UQ (w:World) (b:Bool) (RO:ZA) (u0 u1 u2:Nat):CE (wf (wg w false) b) RO []:=
 .l 110010012100000101010104200101001001010010010100009902390245 (.u 0 fun t8=>.k (Ye ⟨#[67,34]⟩ u1 ⟨#[34]⟩ ⟨#[92,34]⟩ (t8 + 1) ((t8 + 1) + 1) ⟨#[67,92,34]⟩) [] (Yo (wg w false) b _ _ _ _ _ _ _ (by decide +kernel)) fun ρ0=>.l 1000001010020010100 (.t fun t12=>.z [0] (rl [t12])))
theorem TW (w:World) (b:Bool) (RO:ZA) (u0 u1 u2:Nat):(ZR 7 1 u0 u1 u2).ok (wf (wg w false) b) RO 800:=
 cB (fd145 _) (UQ w b RO u0 u1 u2) (by cases b<;>kernel_rfl)
noncomputable def Um (w:World) (b:Bool) (RO:ZA) (u0 u1 u2:Nat):CE (wf (wg w true) b) RO []:=
 .l 3100110990227122800013228010400012100000101010104200101001001010010010100009902390245 (.u 0 fun t6=>.k (Ye ⟨#[100,92]⟩ u1 ⟨#[92]⟩ ⟨#[92,92]⟩ (t6 + 1) ((t6 + 1) + 1) ⟨#[100,92,92]⟩) [] (Yo (wg w true) b _ _ _ _ _ _ _ (by decide +kernel)) fun ρ0=>.l 21000003210020032100 (.t fun t16=>.z [4] (rl [t16])))
theorem SO (w:World) (b:Bool) (RO:ZA) (u0 u1 u2:Nat):(ZR 8 0 u0 u1 u2).ok (wf (wg w true) b) RO 800:=
 cB (fd145 _) (Um w b RO u0 u1 u2) (by cases b<;>kernel_rfl)
noncomputable def UR (w:World) (b:Bool) (RO:ZA) (u0 u1 u2:Nat):CE (wf (wg w false) b) RO []:=
 .l 3100110990227122800013228010400012100000101010104200101001001010010010100009902390245 (.u 0 fun t6=>.k (Ye ⟨#[100,92]⟩ u1 ⟨#[92]⟩ ⟨#[92,92]⟩ (t6 + 1) ((t6 + 1) + 1) ⟨#[100,92,92]⟩) [] (Yo (wg w false) b _ _ _ _ _ _ _ (by decide +kernel)) fun ρ0=>.l 1000003010020032100 (.t fun t12=>.z [4] (rl [t12])))
theorem TX (w:World) (b:Bool) (RO:ZA) (u0 u1 u2:Nat):(ZR 8 0 u0 u1 u2).ok (wf (wg w false) b) RO 800:=
 cB (fd145 _) (UR w b RO u0 u1 u2) (by cases b<;>kernel_rfl)
noncomputable def Un (w:World) (b:Bool) (RO:ZA) (u0 u1 u2:Nat):CE (wf (wg w true) b) RO []:=
 .l 10012100000101010104200101001001010010010100009902390245 (.u 0 fun t6=>.k (Ye ⟨#[100,92]⟩ u1 ⟨#[92]⟩ ⟨#[92,92]⟩ (t6 + 1) ((t6 + 1) + 1) ⟨#[100,92,92]⟩) [] (Yo (wg w true) b _ _ _ _ _ _ _ (by decide +kernel)) fun ρ0=>.l 21000001210020012100 (.t fun t16=>.z [0] (rl [t16])))
theorem SP (w:World) (b:Bool) (RO:ZA) (u0 u1 u2:Nat):(ZR 8 1 u0 u1 u2).ok (wf (wg w true) b) RO 800:=
 cB (fd145 _) (Un w b RO u0 u1 u2) (by cases b<;>kernel_rfl)
noncomputable def US (w:World) (b:Bool) (RO:ZA) (u0 u1 u2:Nat):CE (wf (wg w false) b) RO []:=
 .l 10012100000101010104200101001001010010010100009902390245 (.u 0 fun t6=>.k (Ye ⟨#[100,92]⟩ u1 ⟨#[92]⟩ ⟨#[92,92]⟩ (t6 + 1) ((t6 + 1) + 1) ⟨#[100,92,92]⟩) [] (Yo (wg w false) b _ _ _ _ _ _ _ (by decide +kernel)) fun ρ0=>.l 1000001010020012100 (.t fun t12=>.z [0] (rl [t12])))
theorem TY (w:World) (b:Bool) (RO:ZA) (u0 u1 u2:Nat):(ZR 8 1 u0 u1 u2).ok (wf (wg w false) b) RO 800:=
 cB (fd145 _) (US w b RO u0 u1 u2) (by cases b<;>kernel_rfl)
theorem SQ (w:World) (b:Bool) (RO:ZA) (u0 u1 u2:Nat):(ZR 9 0 u0 u1 u2).ok (wf (wg w true) b) RO 800:=
 cB (fd145 _) (.l 210000032100200341000003100110990227122800013228010400012100000101010104200101001001010010010100009902390245 (.t fun t17=>.z [4] (rl [t17]))) (by cases b<;>kernel_rfl)
theorem TZ (w:World) (b:Bool) (RO:ZA) (u0 u1 u2:Nat):(ZR 9 0 u0 u1 u2).ok (wf (wg w false) b) RO 800:=
 cB (fd145 _) (.l 10000030100200341000003100110990227122800013228010400012100000101010104200101001001010010010100009902390245 (.t fun t13=>.z [4] (rl [t13]))) (by cases b<;>kernel_rfl)
theorem SR (w:World) (b:Bool) (RO:ZA) (u0 u1 u2:Nat):(ZR 9 1 u0 u1 u2).ok (wf (wg w true) b) RO 800:=
 cB (fd145 _) (.l 2100000121002001410010012100000101010104200101001001010010010100009902390245 (.t fun t17=>.z [0] (rl [t17]))) (by cases b<;>kernel_rfl)
theorem Ta (w:World) (b:Bool) (RO:ZA) (u0 u1 u2:Nat):(ZR 9 1 u0 u1 u2).ok (wf (wg w false) b) RO 800:=
 cB (fd145 _) (.l 100000101002001410010012100000101010104200101001001010010010100009902390245 (.t fun t13=>.z [0] (rl [t13]))) (by cases b<;>kernel_rfl)
theorem Tb (w:World) (b:Bool) (RO:ZA) (u0 u1 u2:Nat):(ZR 10 0 u0 u1 u2).ok (wf (wg w true) b) RO 800:=
 cB (fd145 _) (.l 210000032100200341000003100110990227122800013228010400012100000101010104200101001001010010010100009902390245 (.t fun t17=>.z [4] (rl [t17]))) (by cases b<;>kernel_rfl)
theorem Uo (w:World) (b:Bool) (RO:ZA) (u0 u1 u2:Nat):(ZR 10 0 u0 u1 u2).ok (wf (wg w false) b) RO 800:=
 cB (fd145 _) (.l 10000030100200341000003100110990227122800013228010400012100000101010104200101001001010010010100009902390245 (.t fun t13=>.z [4] (rl [t13]))) (by cases b<;>kernel_rfl)
theorem Tc (w:World) (b:Bool) (RO:ZA) (u0 u1 u2:Nat):(ZR 10 1 u0 u1 u2).ok (wf (wg w true) b) RO 800:=
 cB (fd145 _) (.l 2100000121002001410010012100000101010104200101001001010010010100009902390245 (.t fun t17=>.z [0] (rl [t17]))) (by cases b<;>kernel_rfl)
theorem Up (w:World) (b:Bool) (RO:ZA) (u0 u1 u2:Nat):(ZR 10 1 u0 u1 u2).ok (wf (wg w false) b) RO 800:=
 cB (fd145 _) (.l 100000101002001410010012100000101010104200101001001010010010100009902390245 (.t fun t13=>.z [0] (rl [t13]))) (by cases b<;>kernel_rfl)
theorem Td (w:World) (b:Bool) (RO:ZA) (u0 u1 u2:Nat):(ZR 11 0 u0 u1 u2).ok (wf (wg w true) b) RO 800:=
 cB (fd145 _) (.l 11000001210000010227122800013228010400012100000101010104200101001001010010010100009902390245 (.t fun t11=>.z [0] (rl [t11]))) (by cases b<;>kernel_rfl)
theorem Uq (w:World) (b:Bool) (RO:ZA) (u0 u1 u2:Nat):(ZR 11 0 u0 u1 u2).ok (wf (wg w false) b) RO 800:=
 cB (fd145 _) (.l 1010000010227122800013228010400012100000101010104200101001001010010010100009902390245 (.t fun t7=>.z [0] (rl [t7]))) (by cases b<;>kernel_rfl)
theorem Te (w:World) (b:Bool) (RO:ZA) (u0 u1 u2:Nat):(ZR 11 1 u0 u1 u2).ok (wf (wg w true) b) RO 800:=
 cB (fd145 _) (.l 2100000121002001410010012100000101010104200101001001010010010100009902390245 (.t fun t17=>.z [0] (rl [t17]))) (by cases b<;>kernel_rfl)
theorem Ur (w:World) (b:Bool) (RO:ZA) (u0 u1 u2:Nat):(ZR 11 1 u0 u1 u2).ok (wf (wg w false) b) RO 800:=
 cB (fd145 _) (.l 100000101002001410010012100000101010104200101001001010010010100009902390245 (.t fun t13=>.z [0] (rl [t13]))) (by cases b<;>kernel_rfl)
theorem Jy (w:World) (b:Bool) (RO:ZA) (n t t':Nat):(XO (.builtin "int.__mod__") [.int (Int.ofNat n) t,.int (Int.ofNat 2) t'] (fun z=>.int (Int.fmod (Int.ofNat n) (Int.ofNat 2)) z)).ok (wf w b) RO 960:=
 cR (.t fun t0=>.z [] (rl [t0])) (by kernel_rfl)
theorem Jz (w:World) (b:Bool) (RO:ZA) (n t t':Nat):(XO (.builtin "int.__floordiv__") [.int (Int.ofNat n) t,.int (Int.ofNat 2) t'] (fun z=>.int (Int.fdiv (Int.ofNat n) (Int.ofNat 2)) z)).ok (wf w b) RO 960:=
 cR (.t fun t0=>.z [] (rl [t0])) (by kernel_rfl)
theorem ZK (w:World) (b:Bool) (RO:ZA) (n t t' a:Nat) (h:n % 2=a):(ZG n t 2 t' a).ok (wf w b) RO 960:=by
 subst h
 have z:=Jy w b RO n t t'
 rw [show Int.fmod (Int.ofNat n) (Int.ofNat 2)=Int.ofNat (n % 2) from (Int.fmod_eq_emod_of_nonneg _ (by decide)).trans rfl] at z
 exact z
theorem Zw (w:World) (b:Bool) (RO:ZA) (n t t' a:Nat) (h:n / 2=a):(ZM n t 2 t' a).ok (wf w b) RO 960:=by
 subst h
 have z:=Jz w b RO n t t'
 rw [show Int.fdiv (Int.ofNat n) (Int.ofNat 2)=Int.ofNat (n / 2) from (Int.fdiv_eq_ediv_of_nonneg _ (by decide)).trans rfl] at z
 exact z
theorem J0 (w:World) (b:Bool) (RO:ZA) (n t t':Nat):(XO (.builtin "int.__mod__") [.int (Int.ofNat n) t,.int (Int.ofNat 3) t'] (fun z=>.int (Int.fmod (Int.ofNat n) (Int.ofNat 3)) z)).ok (wf w b) RO 960:=
 cR (.t fun t0=>.z [] (rl [t0])) (by kernel_rfl)
theorem J1 (w:World) (b:Bool) (RO:ZA) (n t t':Nat):(XO (.builtin "int.__floordiv__") [.int (Int.ofNat n) t,.int (Int.ofNat 3) t'] (fun z=>.int (Int.fdiv (Int.ofNat n) (Int.ofNat 3)) z)).ok (wf w b) RO 960:=
 cR (.t fun t0=>.z [] (rl [t0])) (by kernel_rfl)
theorem Zx (w:World) (b:Bool) (RO:ZA) (n t t' a:Nat) (h:n % 3=a):(ZG n t 3 t' a).ok (wf w b) RO 960:=by
 subst h
 have z:=J0 w b RO n t t'
 rw [show Int.fmod (Int.ofNat n) (Int.ofNat 3)=Int.ofNat (n % 3) from (Int.fmod_eq_emod_of_nonneg _ (by decide)).trans rfl] at z
 exact z
theorem EQ (w:World) (b:Bool) (RO:ZA) (n t t' a:Nat) (h:n / 3=a):(ZM n t 3 t' a).ok (wf w b) RO 960:=by
 subst h
 have z:=J1 w b RO n t t'
 rw [show Int.fdiv (Int.ofNat n) (Int.ofNat 3)=Int.ofNat (n / 3) from (Int.fdiv_eq_ediv_of_nonneg _ (by decide)).trans rfl] at z
 exact z
theorem J2 (w:World) (b:Bool) (RO:ZA) (n t t':Nat):(XO (.builtin "int.__mod__") [.int (Int.ofNat n) t,.int (Int.ofNat 4) t'] (fun z=>.int (Int.fmod (Int.ofNat n) (Int.ofNat 4)) z)).ok (wf w b) RO 960:=
 cR (.t fun t0=>.z [] (rl [t0])) (by kernel_rfl)
theorem J3 (w:World) (b:Bool) (RO:ZA) (n t t':Nat):(XO (.builtin "int.__floordiv__") [.int (Int.ofNat n) t,.int (Int.ofNat 4) t'] (fun z=>.int (Int.fdiv (Int.ofNat n) (Int.ofNat 4)) z)).ok (wf w b) RO 960:=
 cR (.t fun t0=>.z [] (rl [t0])) (by kernel_rfl)
theorem ER (w:World) (b:Bool) (RO:ZA) (n t t' a:Nat) (h:n % 4=a):(ZG n t 4 t' a).ok (wf w b) RO 960:=by
 subst h
 have z:=J2 w b RO n t t'
 rw [show Int.fmod (Int.ofNat n) (Int.ofNat 4)=Int.ofNat (n % 4) from (Int.fmod_eq_emod_of_nonneg _ (by decide)).trans rfl] at z
 exact z
theorem Zy (w:World) (b:Bool) (RO:ZA) (n t t' a:Nat) (h:n / 4=a):(ZM n t 4 t' a).ok (wf w b) RO 960:=by
 subst h
 have z:=J3 w b RO n t t'
 rw [show Int.fdiv (Int.ofNat n) (Int.ofNat 4)=Int.ofNat (n / 4) from (Int.fdiv_eq_ediv_of_nonneg _ (by decide)).trans rfl] at z
 exact z
theorem J4 (w:World) (b:Bool) (RO:ZA) (n t t':Nat):(XO (.builtin "int.__mod__") [.int (Int.ofNat n) t,.int (Int.ofNat 6) t'] (fun z=>.int (Int.fmod (Int.ofNat n) (Int.ofNat 6)) z)).ok (wf w b) RO 960:=
 cR (.t fun t0=>.z [] (rl [t0])) (by kernel_rfl)
theorem J5 (w:World) (b:Bool) (RO:ZA) (n t t':Nat):(XO (.builtin "int.__floordiv__") [.int (Int.ofNat n) t,.int (Int.ofNat 6) t'] (fun z=>.int (Int.fdiv (Int.ofNat n) (Int.ofNat 6)) z)).ok (wf w b) RO 960:=
 cR (.t fun t0=>.z [] (rl [t0])) (by kernel_rfl)
theorem Y0 (w:World) (b:Bool) (RO:ZA) (n t t' a:Nat) (h:n % 6=a):(ZG n t 6 t' a).ok (wf w b) RO 960:=by
 subst h
 have z:=J4 w b RO n t t'
 rw [show Int.fmod (Int.ofNat n) (Int.ofNat 6)=Int.ofNat (n % 6) from (Int.fmod_eq_emod_of_nonneg _ (by decide)).trans rfl] at z
 exact z
theorem Y1 (w:World) (b:Bool) (RO:ZA) (n t t' a:Nat) (h:n / 6=a):(ZM n t 6 t' a).ok (wf w b) RO 960:=by
 subst h
 have z:=J5 w b RO n t t'
 rw [show Int.fdiv (Int.ofNat n) (Int.ofNat 6)=Int.ofNat (n / 6) from (Int.fdiv_eq_ediv_of_nonneg _ (by decide)).trans rfl] at z
 exact z
theorem Lo (w:World) (b:Bool) (RO:ZA) (n t t':Nat):(XO (.builtin "int.__mod__") [.int (Int.ofNat n) t,.int (Int.ofNat 12) t'] (fun z=>.int (Int.fmod (Int.ofNat n) (Int.ofNat 12)) z)).ok (wf w b) RO 960:=
 cR (.t fun t0=>.z [] (rl [t0])) (by kernel_rfl)
theorem Lp (w:World) (b:Bool) (RO:ZA) (n t t':Nat):(XO (.builtin "int.__floordiv__") [.int (Int.ofNat n) t,.int (Int.ofNat 12) t'] (fun z=>.int (Int.fdiv (Int.ofNat n) (Int.ofNat 12)) z)).ok (wf w b) RO 960:=
 cR (.t fun t0=>.z [] (rl [t0])) (by kernel_rfl)
theorem EB (w:World) (b:Bool) (RO:ZA) (n t t' a:Nat) (h:n % 12=a):(ZG n t 12 t' a).ok (wf w b) RO 960:=by
 subst h
 have z:=Lo w b RO n t t'
 rw [show Int.fmod (Int.ofNat n) (Int.ofNat 12)=Int.ofNat (n % 12) from (Int.fmod_eq_emod_of_nonneg _ (by decide)).trans rfl] at z
 exact z
theorem Ym (w:World) (b:Bool) (RO:ZA) (n t t' a:Nat) (h:n / 12=a):(ZM n t 12 t' a).ok (wf w b) RO 960:=by
 subst h
 have z:=Lp w b RO n t t'
 rw [show Int.fdiv (Int.ofNat n) (Int.ofNat 12)=Int.ofNat (n / 12) from (Int.fdiv_eq_ediv_of_nonneg _ (by decide)).trans rfl] at z
 exact z
noncomputable def Pi (w:World) (b:Bool) (RO:ZA) (n m u:Nat) (h6:n % 6=0) (hd:n / 6=m) (h2:m % 2=0):CE (wf w b) RO []:=
 .l 1001010000990403 (.t fun t1=>.l 200994100 (.t fun t7=>.k (ZG n u 6 t7 0) [] (Y0 w b _ _ _ _ _ h6) fun ρ0=>.l 200201004001 (.t fun t9=>.k (ZM n u 6 t9 m) [] (Y1 w b _ _ _ _ _ hd) fun ρ1=>.t fun t10=>.k (ZG m (ρ1 0) 2 t10 0) [] (ZK w b _ _ _ _ _ h2) fun ρ2=>.l 20100 (.z [2] (rl [t1])))))
theorem Lq (w:World) (b:Bool) (RO:ZA) (n m u:Nat) (h6:n % 6=0) (hd:n / 6=m) (h2:m % 2=0):(Zi n u 0).ok (wf w b) RO 800:=
 cB (fd303 _) (Pi w b RO n m u h6 hd h2) (by cases b<;>kernel_rfl)
noncomputable def Pj (w:World) (b:Bool) (RO:ZA) (n m u:Nat) (h6:n % 6=1) (hd:n / 6=m) (h2:m % 2=0):CE (wf w b) RO []:=
 .l 1001001010000990403 (.t fun t2=>.l 200993100 (.t fun t7=>.k (ZG n u 6 t7 1) [] (Y0 w b _ _ _ _ _ h6) fun ρ0=>.l 200201004001 (.t fun t9=>.k (ZM n u 6 t9 m) [] (Y1 w b _ _ _ _ _ hd) fun ρ1=>.t fun t10=>.k (ZG m (ρ1 0) 2 t10 0) [] (ZK w b _ _ _ _ _ h2) fun ρ2=>.l 20100 (.z [2] (rl [t2])))))
theorem Lr (w:World) (b:Bool) (RO:ZA) (n m u:Nat) (h6:n % 6=1) (hd:n / 6=m) (h2:m % 2=0):(Zi n u 1).ok (wf w b) RO 800:=
 cB (fd303 _) (Pj w b RO n m u h6 hd h2) (by cases b<;>kernel_rfl)
noncomputable def Pk (w:World) (b:Bool) (RO:ZA) (n m u:Nat) (h6:n % 6=2) (hd:n / 6=m) (h2:m % 2=0):CE (wf w b) RO []:=
 .l 11001001010000990403 (.t fun t3=>.l 200992100 (.t fun t7=>.k (ZG n u 6 t7 2) [] (Y0 w b _ _ _ _ _ h6) fun ρ0=>.l 200201004001 (.t fun t9=>.k (ZM n u 6 t9 m) [] (Y1 w b _ _ _ _ _ hd) fun ρ1=>.t fun t10=>.k (ZG m (ρ1 0) 2 t10 0) [] (ZK w b _ _ _ _ _ h2) fun ρ2=>.l 20100 (.z [2] (rl [t3])))))
theorem Ls (w:World) (b:Bool) (RO:ZA) (n m u:Nat) (h6:n % 6=2) (hd:n / 6=m) (h2:m % 2=0):(Zi n u 2).ok (wf w b) RO 800:=
 cB (fd303 _) (Pk w b RO n m u h6 hd h2) (by cases b<;>kernel_rfl)
noncomputable def Pl (w:World) (b:Bool) (RO:ZA) (n m u:Nat) (h6:n % 6=3) (hd:n / 6=m) (h2:m % 2=0):CE (wf w b) RO []:=
 .l 21001001010000990403 (.t fun t4=>.l 200991100 (.t fun t7=>.k (ZG n u 6 t7 3) [] (Y0 w b _ _ _ _ _ h6) fun ρ0=>.l 200201004001 (.t fun t9=>.k (ZM n u 6 t9 m) [] (Y1 w b _ _ _ _ _ hd) fun ρ1=>.t fun t10=>.k (ZG m (ρ1 0) 2 t10 0) [] (ZK w b _ _ _ _ _ h2) fun ρ2=>.l 20100 (.z [2] (rl [t4])))))
theorem Lt (w:World) (b:Bool) (RO:ZA) (n m u:Nat) (h6:n % 6=3) (hd:n / 6=m) (h2:m % 2=0):(Zi n u 3).ok (wf w b) RO 800:=
 cB (fd303 _) (Pl w b RO n m u h6 hd h2) (by cases b<;>kernel_rfl)
noncomputable def Pm (w:World) (b:Bool) (RO:ZA) (n m u:Nat) (h6:n % 6=4) (hd:n / 6=m) (h2:m % 2=0):CE (wf w b) RO []:=
 .l 31001001010000990403 (.t fun t5=>.l 200990100 (.t fun t7=>.k (ZG n u 6 t7 4) [] (Y0 w b _ _ _ _ _ h6) fun ρ0=>.l 200201004001 (.t fun t9=>.k (ZM n u 6 t9 m) [] (Y1 w b _ _ _ _ _ hd) fun ρ1=>.t fun t10=>.k (ZG m (ρ1 0) 2 t10 0) [] (ZK w b _ _ _ _ _ h2) fun ρ2=>.l 20100 (.z [2] (rl [t5])))))
theorem Lu (w:World) (b:Bool) (RO:ZA) (n m u:Nat) (h6:n % 6=4) (hd:n / 6=m) (h2:m % 2=0):(Zi n u 4).ok (wf w b) RO 800:=
 cB (fd303 _) (Pm w b RO n m u h6 hd h2) (by cases b<;>kernel_rfl)
noncomputable def Pn (w:World) (b:Bool) (RO:ZA) (n m u:Nat) (h6:n % 6=5) (hd:n / 6=m) (h2:m % 2=0):CE (wf w b) RO []:=
 .l 41001001010000990403 (.t fun t6=>.l 20099 (.t fun t7=>.k (ZG n u 6 t7 5) [] (Y0 w b _ _ _ _ _ h6) fun ρ0=>.l 200201004001 (.t fun t9=>.k (ZM n u 6 t9 m) [] (Y1 w b _ _ _ _ _ hd) fun ρ1=>.t fun t10=>.k (ZG m (ρ1 0) 2 t10 0) [] (ZK w b _ _ _ _ _ h2) fun ρ2=>.l 20100 (.z [2] (rl [t6])))))
theorem Lv (w:World) (b:Bool) (RO:ZA) (n m u:Nat) (h6:n % 6=5) (hd:n / 6=m) (h2:m % 2=0):(Zi n u 5).ok (wf w b) RO 800:=
 cB (fd303 _) (Pn w b RO n m u h6 hd h2) (by cases b<;>kernel_rfl)
noncomputable def Po (w:World) (b:Bool) (RO:ZA) (n m u:Nat) (h6:n % 6=0) (hd:n / 6=m) (h2:m % 2=1):CE (wf w b) RO []:=
 .l 2009951001001010000990403 (.t fun t7=>.k (ZG n u 6 t7 0) [] (Y0 w b _ _ _ _ _ h6) fun ρ0=>.l 200201004001 (.t fun t9=>.k (ZM n u 6 t9 m) [] (Y1 w b _ _ _ _ _ hd) fun ρ1=>.t fun t10=>.k (ZG m (ρ1 0) 2 t10 1) [] (ZK w b _ _ _ _ _ h2) fun ρ2=>.l 20100 (.t fun t12=>.z [2] (rl [t12]))))
theorem Lw (w:World) (b:Bool) (RO:ZA) (n m u:Nat) (h6:n % 6=0) (hd:n / 6=m) (h2:m % 2=1):(Zi n u 6).ok (wf w b) RO 800:=
 cB (fd303 _) (Po w b RO n m u h6 hd h2) (by cases b<;>kernel_rfl)
noncomputable def Pp (w:World) (b:Bool) (RO:ZA) (n m u:Nat) (h6:n % 6=1) (hd:n / 6=m) (h2:m % 2=1):CE (wf w b) RO []:=
 .l 2009951001001010000990403 (.t fun t7=>.k (ZG n u 6 t7 1) [] (Y0 w b _ _ _ _ _ h6) fun ρ0=>.l 200201004001 (.t fun t9=>.k (ZM n u 6 t9 m) [] (Y1 w b _ _ _ _ _ hd) fun ρ1=>.t fun t10=>.k (ZG m (ρ1 0) 2 t10 1) [] (ZK w b _ _ _ _ _ h2) fun ρ2=>.l 20100 (.t fun t12=>.z [2] (rl [t12]))))
theorem Lx (w:World) (b:Bool) (RO:ZA) (n m u:Nat) (h6:n % 6=1) (hd:n / 6=m) (h2:m % 2=1):(Zi n u 7).ok (wf w b) RO 800:=
 cB (fd303 _) (Pp w b RO n m u h6 hd h2) (by cases b<;>kernel_rfl)
noncomputable def Pq (w:World) (b:Bool) (RO:ZA) (n m u:Nat) (h6:n % 6=2) (hd:n / 6=m) (h2:m % 2=1):CE (wf w b) RO []:=
 .l 2009951001001010000990403 (.t fun t7=>.k (ZG n u 6 t7 2) [] (Y0 w b _ _ _ _ _ h6) fun ρ0=>.l 200201004001 (.t fun t9=>.k (ZM n u 6 t9 m) [] (Y1 w b _ _ _ _ _ hd) fun ρ1=>.t fun t10=>.k (ZG m (ρ1 0) 2 t10 1) [] (ZK w b _ _ _ _ _ h2) fun ρ2=>.l 20100 (.t fun t12=>.z [2] (rl [t12]))))
theorem Ly (w:World) (b:Bool) (RO:ZA) (n m u:Nat) (h6:n % 6=2) (hd:n / 6=m) (h2:m % 2=1):(Zi n u 8).ok (wf w b) RO 800:=
 cB (fd303 _) (Pq w b RO n m u h6 hd h2) (by cases b<;>kernel_rfl)
noncomputable def Ps (w:World) (b:Bool) (RO:ZA) (n m u:Nat) (h6:n % 6=3) (hd:n / 6=m) (h2:m % 2=1):CE (wf w b) RO []:=
 .l 2009951001001010000990403 (.t fun t7=>.k (ZG n u 6 t7 3) [] (Y0 w b _ _ _ _ _ h6) fun ρ0=>.l 200201004001 (.t fun t9=>.k (ZM n u 6 t9 m) [] (Y1 w b _ _ _ _ _ hd) fun ρ1=>.t fun t10=>.k (ZG m (ρ1 0) 2 t10 1) [] (ZK w b _ _ _ _ _ h2) fun ρ2=>.l 20100 (.t fun t12=>.z [2] (rl [t12]))))
theorem Lz (w:World) (b:Bool) (RO:ZA) (n m u:Nat) (h6:n % 6=3) (hd:n / 6=m) (h2:m % 2=1):(Zi n u 9).ok (wf w b) RO 800:=
 cB (fd303 _) (Ps w b RO n m u h6 hd h2) (by cases b<;>kernel_rfl)
noncomputable def QG (w:World) (b:Bool) (RO:ZA) (n m u:Nat) (h6:n % 6=4) (hd:n / 6=m) (h2:m % 2=1):CE (wf w b) RO []:=
 .l 2009951001001010000990403 (.t fun t7=>.k (ZG n u 6 t7 4) [] (Y0 w b _ _ _ _ _ h6) fun ρ0=>.l 200201004001 (.t fun t9=>.k (ZM n u 6 t9 m) [] (Y1 w b _ _ _ _ _ hd) fun ρ1=>.t fun t10=>.k (ZG m (ρ1 0) 2 t10 1) [] (ZK w b _ _ _ _ _ h2) fun ρ2=>.l 20100 (.t fun t12=>.z [2] (rl [t12]))))
theorem MP (w:World) (b:Bool) (RO:ZA) (n m u:Nat) (h6:n % 6=4) (hd:n / 6=m) (h2:m % 2=1):(Zi n u 10).ok (wf w b) RO 800:=
 cB (fd303 _) (QG w b RO n m u h6 hd h2) (by cases b<;>kernel_rfl)
noncomputable def QH (w:World) (b:Bool) (RO:ZA) (n m u:Nat) (h6:n % 6=5) (hd:n / 6=m) (h2:m % 2=1):CE (wf w b) RO []:=
 .l 2009951001001010000990403 (.t fun t7=>.k (ZG n u 6 t7 5) [] (Y0 w b _ _ _ _ _ h6) fun ρ0=>.l 200201004001 (.t fun t9=>.k (ZM n u 6 t9 m) [] (Y1 w b _ _ _ _ _ hd) fun ρ1=>.t fun t10=>.k (ZG m (ρ1 0) 2 t10 1) [] (ZK w b _ _ _ _ _ h2) fun ρ2=>.l 20100 (.t fun t12=>.z [2] (rl [t12]))))
theorem MQ (w:World) (b:Bool) (RO:ZA) (n m u:Nat) (h6:n % 6=5) (hd:n / 6=m) (h2:m % 2=1):(Zi n u 11).ok (wf w b) RO 800:=
 cB (fd303 _) (QH w b RO n m u h6 hd h2) (by cases b<;>kernel_rfl)
noncomputable def S9 (w:World) (b:Bool) (RO:ZA) (n m p u:Nat) (h2:n % 2=0) (hd:n / 2=m) (h2b:m % 2=0) (h4:n / 4=p) (h3:p % 3=0):CE (wf w b) RO []:=
 .l 101001001010000990396 (.t fun t2=>.k (ZG n u 2 t2 0) [] (ZK w b _ _ _ _ _ h2) fun ρ0=>.t fun t3=>.l 10100 (.t fun t5=>.k (ZM n u 2 t5 m) [] (Zw w b _ _ _ _ _ hd) fun ρ1=>.t fun t6=>.k (ZG m (ρ1 0) 2 t6 0) [] (ZK w b _ _ _ _ _ h2b) fun ρ2=>.t fun t7=>.l 2005010010050100000110991001000250010002500100024001009930010099 (.t fun t10=>.k (ZM n u 4 t10 p) [] (Zy w b _ _ _ _ _ h4) fun ρ3=>.t fun t11=>.k (ZG p (ρ3 0) 3 t11 0) [] (Zx w b _ _ _ _ _ h3) fun ρ4=>.l 20050100 (.a fun a5=>.z [1,8] (rl [a5,0,t3,t7,t7])))))
theorem Pt (w:World) (b:Bool) (RO:ZA) (n m p u:Nat) (h2:n % 2=0) (hd:n / 2=m) (h2b:m % 2=0) (h4:n / 4=p) (h3:p % 3=0):(Ze 296 n u 0 0 0).ok (wf w b) RO 800:=
 cB (fd296 _) (S9 w b RO n m p u h2 hd h2b h4 h3) (by cases b<;>kernel_rfl)
noncomputable def RA (w:World) (b:Bool) (RO:ZA) (n m p u:Nat) (h2:n % 2=0) (hd:n / 2=m) (h2b:m % 2=0) (h4:n / 4=p) (h3:p % 3=1):CE (wf w b) RO []:=
 .l 101001001010000990396 (.t fun t2=>.k (ZG n u 2 t2 0) [] (ZK w b _ _ _ _ _ h2) fun ρ0=>.t fun t3=>.l 10100 (.t fun t5=>.k (ZM n u 2 t5 m) [] (Zw w b _ _ _ _ _ hd) fun ρ1=>.t fun t6=>.k (ZG m (ρ1 0) 2 t6 0) [] (ZK w b _ _ _ _ _ h2b) fun ρ2=>.t fun t7=>.l 2005010010050100000110991001000250010002500100024001009930010099 (.t fun t10=>.k (ZM n u 4 t10 p) [] (Zy w b _ _ _ _ _ h4) fun ρ3=>.t fun t11=>.k (ZG p (ρ3 0) 3 t11 1) [] (Zx w b _ _ _ _ _ h3) fun ρ4=>.l 10050100 (.a fun a5=>.z [1,8] (rl [a5,0,t3,t7])))))
theorem Pu (w:World) (b:Bool) (RO:ZA) (n m p u:Nat) (h2:n % 2=0) (hd:n / 2=m) (h2b:m % 2=0) (h4:n / 4=p) (h3:p % 3=1):(Ze 296 n u 0 0 1).ok (wf w b) RO 800:=
 cB (fd296 _) (RA w b RO n m p u h2 hd h2b h4 h3) (by cases b<;>kernel_rfl)
noncomputable def RC (w:World) (b:Bool) (RO:ZA) (n m p u:Nat) (h2:n % 2=0) (hd:n / 2=m) (h2b:m % 2=0) (h4:n / 4=p) (h3:p % 3=2):CE (wf w b) RO []:=
 .l 101001001010000990396 (.t fun t2=>.k (ZG n u 2 t2 0) [] (ZK w b _ _ _ _ _ h2) fun ρ0=>.t fun t3=>.l 10100 (.t fun t5=>.k (ZM n u 2 t5 m) [] (Zw w b _ _ _ _ _ hd) fun ρ1=>.t fun t6=>.k (ZG m (ρ1 0) 2 t6 0) [] (ZK w b _ _ _ _ _ h2b) fun ρ2=>.t fun t7=>.l 2005010010050100000110991001000250010002500100024001009930010099 (.t fun t10=>.k (ZM n u 4 t10 p) [] (Zy w b _ _ _ _ _ h4) fun ρ3=>.t fun t11=>.k (ZG p (ρ3 0) 3 t11 2) [] (Zx w b _ _ _ _ _ h3) fun ρ4=>.l 10050100 (.a fun a5=>.z [1,8] (rl [a5,0,t3,t7])))))
theorem Pv (w:World) (b:Bool) (RO:ZA) (n m p u:Nat) (h2:n % 2=0) (hd:n / 2=m) (h2b:m % 2=0) (h4:n / 4=p) (h3:p % 3=2):(Ze 296 n u 0 0 2).ok (wf w b) RO 800:=
 cB (fd296 _) (RC w b RO n m p u h2 hd h2b h4 h3) (by cases b<;>kernel_rfl)
noncomputable def RD (w:World) (b:Bool) (RO:ZA) (n m p u:Nat) (h2:n % 2=0) (hd:n / 2=m) (h2b:m % 2=1) (h4:n / 4=p) (h3:p % 3=0):CE (wf w b) RO []:=
 .l 101001001010000990396 (.t fun t2=>.k (ZG n u 2 t2 0) [] (ZK w b _ _ _ _ _ h2) fun ρ0=>.t fun t3=>.l 10100 (.t fun t5=>.k (ZM n u 2 t5 m) [] (Zw w b _ _ _ _ _ hd) fun ρ1=>.t fun t6=>.k (ZG m (ρ1 0) 2 t6 1) [] (ZK w b _ _ _ _ _ h2b) fun ρ2=>.t fun t7=>.l 2005010010050100000110991001000250010002500100024001009930010099 (.t fun t10=>.k (ZM n u 4 t10 p) [] (Zy w b _ _ _ _ _ h4) fun ρ3=>.t fun t11=>.k (ZG p (ρ3 0) 3 t11 0) [] (Zx w b _ _ _ _ _ h3) fun ρ4=>.l 20050100 (.a fun a5=>.z [1,8] (rl [a5,0,t3,t7,t7])))))
theorem Pw (w:World) (b:Bool) (RO:ZA) (n m p u:Nat) (h2:n % 2=0) (hd:n / 2=m) (h2b:m % 2=1) (h4:n / 4=p) (h3:p % 3=0):(Ze 296 n u 0 1 0).ok (wf w b) RO 800:=
 cB (fd296 _) (RD w b RO n m p u h2 hd h2b h4 h3) (by cases b<;>kernel_rfl)
noncomputable def RE (w:World) (b:Bool) (RO:ZA) (n m p u:Nat) (h2:n % 2=0) (hd:n / 2=m) (h2b:m % 2=1) (h4:n / 4=p) (h3:p % 3=1):CE (wf w b) RO []:=
 .l 101001001010000990396 (.t fun t2=>.k (ZG n u 2 t2 0) [] (ZK w b _ _ _ _ _ h2) fun ρ0=>.t fun t3=>.l 10100 (.t fun t5=>.k (ZM n u 2 t5 m) [] (Zw w b _ _ _ _ _ hd) fun ρ1=>.t fun t6=>.k (ZG m (ρ1 0) 2 t6 1) [] (ZK w b _ _ _ _ _ h2b) fun ρ2=>.t fun t7=>.l 2005010010050100000110991001000250010002500100024001009930010099 (.t fun t10=>.k (ZM n u 4 t10 p) [] (Zy w b _ _ _ _ _ h4) fun ρ3=>.t fun t11=>.k (ZG p (ρ3 0) 3 t11 1) [] (Zx w b _ _ _ _ _ h3) fun ρ4=>.l 10050100 (.a fun a5=>.z [1,8] (rl [a5,0,t3,t7])))))
theorem Px (w:World) (b:Bool) (RO:ZA) (n m p u:Nat) (h2:n % 2=0) (hd:n / 2=m) (h2b:m % 2=1) (h4:n / 4=p) (h3:p % 3=1):(Ze 296 n u 0 1 1).ok (wf w b) RO 800:=
 cB (fd296 _) (RE w b RO n m p u h2 hd h2b h4 h3) (by cases b<;>kernel_rfl)
noncomputable def RG (w:World) (b:Bool) (RO:ZA) (n m p u:Nat) (h2:n % 2=0) (hd:n / 2=m) (h2b:m % 2=1) (h4:n / 4=p) (h3:p % 3=2):CE (wf w b) RO []:=
 .l 101001001010000990396 (.t fun t2=>.k (ZG n u 2 t2 0) [] (ZK w b _ _ _ _ _ h2) fun ρ0=>.t fun t3=>.l 10100 (.t fun t5=>.k (ZM n u 2 t5 m) [] (Zw w b _ _ _ _ _ hd) fun ρ1=>.t fun t6=>.k (ZG m (ρ1 0) 2 t6 1) [] (ZK w b _ _ _ _ _ h2b) fun ρ2=>.t fun t7=>.l 2005010010050100000110991001000250010002500100024001009930010099 (.t fun t10=>.k (ZM n u 4 t10 p) [] (Zy w b _ _ _ _ _ h4) fun ρ3=>.t fun t11=>.k (ZG p (ρ3 0) 3 t11 2) [] (Zx w b _ _ _ _ _ h3) fun ρ4=>.l 10050100 (.a fun a5=>.z [1,8] (rl [a5,0,t3,t7])))))
theorem Py (w:World) (b:Bool) (RO:ZA) (n m p u:Nat) (h2:n % 2=0) (hd:n / 2=m) (h2b:m % 2=1) (h4:n / 4=p) (h3:p % 3=2):(Ze 296 n u 0 1 2).ok (wf w b) RO 800:=
 cB (fd296 _) (RG w b RO n m p u h2 hd h2b h4 h3) (by cases b<;>kernel_rfl)
noncomputable def RH (w:World) (b:Bool) (RO:ZA) (n m p u:Nat) (h2:n % 2=1) (hd:n / 2=m) (h2b:m % 2=0) (h4:n / 4=p) (h3:p % 3=0):CE (wf w b) RO []:=
 .l 101001001010000990396 (.t fun t2=>.k (ZG n u 2 t2 1) [] (ZK w b _ _ _ _ _ h2) fun ρ0=>.t fun t3=>.l 10100 (.t fun t5=>.k (ZM n u 2 t5 m) [] (Zw w b _ _ _ _ _ hd) fun ρ1=>.t fun t6=>.k (ZG m (ρ1 0) 2 t6 0) [] (ZK w b _ _ _ _ _ h2b) fun ρ2=>.t fun t7=>.l 2005010010050100000110991001000250010002500100024001009930010099 (.t fun t10=>.k (ZM n u 4 t10 p) [] (Zy w b _ _ _ _ _ h4) fun ρ3=>.t fun t11=>.k (ZG p (ρ3 0) 3 t11 0) [] (Zx w b _ _ _ _ _ h3) fun ρ4=>.l 20050100 (.a fun a5=>.z [1,8] (rl [a5,0,t3,t7,t7])))))
theorem Pz (w:World) (b:Bool) (RO:ZA) (n m p u:Nat) (h2:n % 2=1) (hd:n / 2=m) (h2b:m % 2=0) (h4:n / 4=p) (h3:p % 3=0):(Ze 296 n u 1 0 0).ok (wf w b) RO 800:=
 cB (fd296 _) (RH w b RO n m p u h2 hd h2b h4 h3) (by cases b<;>kernel_rfl)
noncomputable def RI (w:World) (b:Bool) (RO:ZA) (n m p u:Nat) (h2:n % 2=1) (hd:n / 2=m) (h2b:m % 2=0) (h4:n / 4=p) (h3:p % 3=1):CE (wf w b) RO []:=
 .l 101001001010000990396 (.t fun t2=>.k (ZG n u 2 t2 1) [] (ZK w b _ _ _ _ _ h2) fun ρ0=>.t fun t3=>.l 10100 (.t fun t5=>.k (ZM n u 2 t5 m) [] (Zw w b _ _ _ _ _ hd) fun ρ1=>.t fun t6=>.k (ZG m (ρ1 0) 2 t6 0) [] (ZK w b _ _ _ _ _ h2b) fun ρ2=>.t fun t7=>.l 2005010010050100000110991001000250010002500100024001009930010099 (.t fun t10=>.k (ZM n u 4 t10 p) [] (Zy w b _ _ _ _ _ h4) fun ρ3=>.t fun t11=>.k (ZG p (ρ3 0) 3 t11 1) [] (Zx w b _ _ _ _ _ h3) fun ρ4=>.l 10050100 (.a fun a5=>.z [1,8] (rl [a5,0,t3,t7])))))
theorem P0 (w:World) (b:Bool) (RO:ZA) (n m p u:Nat) (h2:n % 2=1) (hd:n / 2=m) (h2b:m % 2=0) (h4:n / 4=p) (h3:p % 3=1):(Ze 296 n u 1 0 1).ok (wf w b) RO 800:=
 cB (fd296 _) (RI w b RO n m p u h2 hd h2b h4 h3) (by cases b<;>kernel_rfl)
noncomputable def RJ (w:World) (b:Bool) (RO:ZA) (n m p u:Nat) (h2:n % 2=1) (hd:n / 2=m) (h2b:m % 2=0) (h4:n / 4=p) (h3:p % 3=2):CE (wf w b) RO []:=
 .l 101001001010000990396 (.t fun t2=>.k (ZG n u 2 t2 1) [] (ZK w b _ _ _ _ _ h2) fun ρ0=>.t fun t3=>.l 10100 (.t fun t5=>.k (ZM n u 2 t5 m) [] (Zw w b _ _ _ _ _ hd) fun ρ1=>.t fun t6=>.k (ZG m (ρ1 0) 2 t6 0) [] (ZK w b _ _ _ _ _ h2b) fun ρ2=>.t fun t7=>.l 2005010010050100000110991001000250010002500100024001009930010099 (.t fun t10=>.k (ZM n u 4 t10 p) [] (Zy w b _ _ _ _ _ h4) fun ρ3=>.t fun t11=>.k (ZG p (ρ3 0) 3 t11 2) [] (Zx w b _ _ _ _ _ h3) fun ρ4=>.l 10050100 (.a fun a5=>.z [1,8] (rl [a5,0,t3,t7])))))
theorem P1 (w:World) (b:Bool) (RO:ZA) (n m p u:Nat) (h2:n % 2=1) (hd:n / 2=m) (h2b:m % 2=0) (h4:n / 4=p) (h3:p % 3=2):(Ze 296 n u 1 0 2).ok (wf w b) RO 800:=
 cB (fd296 _) (RJ w b RO n m p u h2 hd h2b h4 h3) (by cases b<;>kernel_rfl)
noncomputable def RK (w:World) (b:Bool) (RO:ZA) (n m p u:Nat) (h2:n % 2=1) (hd:n / 2=m) (h2b:m % 2=1) (h4:n / 4=p) (h3:p % 3=0):CE (wf w b) RO []:=
 .l 101001001010000990396 (.t fun t2=>.k (ZG n u 2 t2 1) [] (ZK w b _ _ _ _ _ h2) fun ρ0=>.t fun t3=>.l 10100 (.t fun t5=>.k (ZM n u 2 t5 m) [] (Zw w b _ _ _ _ _ hd) fun ρ1=>.t fun t6=>.k (ZG m (ρ1 0) 2 t6 1) [] (ZK w b _ _ _ _ _ h2b) fun ρ2=>.t fun t7=>.l 2005010010050100000110991001000250010002500100024001009930010099 (.t fun t10=>.k (ZM n u 4 t10 p) [] (Zy w b _ _ _ _ _ h4) fun ρ3=>.t fun t11=>.k (ZG p (ρ3 0) 3 t11 0) [] (Zx w b _ _ _ _ _ h3) fun ρ4=>.l 20050100 (.a fun a5=>.z [1,8] (rl [a5,0,t3,t7,t7])))))
theorem P2 (w:World) (b:Bool) (RO:ZA) (n m p u:Nat) (h2:n % 2=1) (hd:n / 2=m) (h2b:m % 2=1) (h4:n / 4=p) (h3:p % 3=0):(Ze 296 n u 1 1 0).ok (wf w b) RO 800:=
 cB (fd296 _) (RK w b RO n m p u h2 hd h2b h4 h3) (by cases b<;>kernel_rfl)
noncomputable def RM (w:World) (b:Bool) (RO:ZA) (n m p u:Nat) (h2:n % 2=1) (hd:n / 2=m) (h2b:m % 2=1) (h4:n / 4=p) (h3:p % 3=1):CE (wf w b) RO []:=
 .l 101001001010000990396 (.t fun t2=>.k (ZG n u 2 t2 1) [] (ZK w b _ _ _ _ _ h2) fun ρ0=>.t fun t3=>.l 10100 (.t fun t5=>.k (ZM n u 2 t5 m) [] (Zw w b _ _ _ _ _ hd) fun ρ1=>.t fun t6=>.k (ZG m (ρ1 0) 2 t6 1) [] (ZK w b _ _ _ _ _ h2b) fun ρ2=>.t fun t7=>.l 2005010010050100000110991001000250010002500100024001009930010099 (.t fun t10=>.k (ZM n u 4 t10 p) [] (Zy w b _ _ _ _ _ h4) fun ρ3=>.t fun t11=>.k (ZG p (ρ3 0) 3 t11 1) [] (Zx w b _ _ _ _ _ h3) fun ρ4=>.l 10050100 (.a fun a5=>.z [1,8] (rl [a5,0,t3,t7])))))
theorem P3 (w:World) (b:Bool) (RO:ZA) (n m p u:Nat) (h2:n % 2=1) (hd:n / 2=m) (h2b:m % 2=1) (h4:n / 4=p) (h3:p % 3=1):(Ze 296 n u 1 1 1).ok (wf w b) RO 800:=
 cB (fd296 _) (RM w b RO n m p u h2 hd h2b h4 h3) (by cases b<;>kernel_rfl)
noncomputable def RN (w:World) (b:Bool) (RO:ZA) (n m p u:Nat) (h2:n % 2=1) (hd:n / 2=m) (h2b:m % 2=1) (h4:n / 4=p) (h3:p % 3=2):CE (wf w b) RO []:=
 .l 101001001010000990396 (.t fun t2=>.k (ZG n u 2 t2 1) [] (ZK w b _ _ _ _ _ h2) fun ρ0=>.t fun t3=>.l 10100 (.t fun t5=>.k (ZM n u 2 t5 m) [] (Zw w b _ _ _ _ _ hd) fun ρ1=>.t fun t6=>.k (ZG m (ρ1 0) 2 t6 1) [] (ZK w b _ _ _ _ _ h2b) fun ρ2=>.t fun t7=>.l 2005010010050100000110991001000250010002500100024001009930010099 (.t fun t10=>.k (ZM n u 4 t10 p) [] (Zy w b _ _ _ _ _ h4) fun ρ3=>.t fun t11=>.k (ZG p (ρ3 0) 3 t11 2) [] (Zx w b _ _ _ _ _ h3) fun ρ4=>.l 10050100 (.a fun a5=>.z [1,8] (rl [a5,0,t3,t7])))))
theorem P4 (w:World) (b:Bool) (RO:ZA) (n m p u:Nat) (h2:n % 2=1) (hd:n / 2=m) (h2b:m % 2=1) (h4:n / 4=p) (h3:p % 3=2):(Ze 296 n u 1 1 2).ok (wf w b) RO 800:=
 cB (fd296 _) (RN w b RO n m p u h2 hd h2b h4 h3) (by cases b<;>kernel_rfl)
noncomputable def Eb:List Int:=[12,1,6,2,0,7,3,9,3,4,18,20]
noncomputable def Ec (xs:List Int):List Int:=xs.map fun x=>Int.fmod x 1000000
noncomputable def MR (l:List Int) (i:Nat) (ρ:Nat→Nat):List Value:=match l with | []=>[] | n::l=>.int n (ρ i)::MR l (i + 1) ρ
noncomputable def Zz (sc:Nat) (xs:List Value) (ep:Nat) (ms:List Int):Con:={ code:=.call (.ref 284) ⟨[.ref sc],[]⟩,mem:=[(sc,ZB xs ep)],r:=fun ρ=>.ok (.ret (.ref (ρ 0))),upd:=fun _=>[ZB xs ep],new:=fun ρ=>[(ρ 0,ZB (MR ms 2 ρ) (ρ 1))] }
end
section
open PySem PySem.W PySem.W.X PySem.Calls PyProof.Rows PySem.Spec
noncomputable def slO (a b c:Value):Obj:=⟨.type "slice",none,.fields #[a,b,c],#[]⟩
noncomputable def Tf (l sl:Nat) (vs:List Value) (ep:Nat) (a b c:Value) (ys:List Value):Con:=
 {code:=.builtin "list.__getitem__" ⟨[.ref l,.ref sl],[]⟩,mem:=[(l,ZB vs ep),(sl,slO a b c)],r:=fun ρ=>.ok (.ret (.ref (ρ 0))),upd:=fun _=>[ZB vs ep,slO a b c],new:=fun ρ=>[(ρ 0,ZB ys 0)] }
noncomputable def Yw (l sl:Nat) (vs:List Value) (ep:Nat) (a b c:Value) (ys:List Value):Con:={ Tf l sl vs ep a b c ys with code:=.call (.builtin "list.__getitem__") ⟨[.ref l,.ref sl],[]⟩ }
theorem J6 (l sl:Addr) (items:Array Value) (va vb vc:Value) (lo hi st:Option Int) (pa:IsPart va lo) (pb:IsPart vb hi) (pc:IsPart vc st) (h0:st≠some 0) (hz:items.size≤sizeLine) :
  Meets (Builtin.«list.__getitem__» ⟨[.ref l,.ref sl],[]⟩) (fun _ R s=>s.heap.IsList l items∧s.heap.IsSliceOf sl va vb vc∧R (.ok (.ret (.ref s.heap.objs.size))) { s with heap:=s.heap.push { cls:=.type "list",data:=.seq (slicePick items lo hi st) } }):=
 .of_wp fun prog w A R s h=>by
  obtain ⟨hl,hs,h⟩:=h
  obtain ⟨o,ho,hc,ne,hd⟩:=id hl
  obtain ⟨os,hos,hcs,hds⟩:=id hs
  have hT:s.TypeIs (.ref sl) "slice":=⟨os,hos,hcs⟩
  show wpAny _ _ (Builtin.List.listSubscript? (.ref sl) >>= _) _ _ s
  refine wpAny_bind ?_
  unfold Builtin.List.listSubscript?
  refine wpAny_bind (wpAny_specialOf hT slice_no_index ?_)
  simp only [Option.isNone_none,if_true]
  refine wpAny_pure ?_
  show wpAny _ _ (typeOf (.ref sl) >>= _) _ _ s
  refine wpAny_bind (wpAny_typeOf hT ?_)
  rw [if_neg (by decide),listSliceParts_eq]
  have hst:¬ ((rawPart st == rawInt 0)=true):=by
   cases st with
   | none=>exact Bool.false_ne_true
   | some c=>exact fun q=>h0 (by rw [show c=0 by simpa [rawPart,rawInt] using q])
  refine wpAny_bind (wpAny_bind (wpAny_field hos hds (x:=vc) rfl (wpAny_bind (wpAny_listPart pc ?_))))
  rw [if_neg hst]
  refine wpAny_bind (wpAny_field hos hds (x:=va) rfl (wpAny_bind (wpAny_listPart pa ?_)))
  refine wpAny_bind (wpAny_field hos hds (x:=vb) rfl (wpAny_bind (wpAny_listPart pb (wpAny_pure ?_))))
  refine wpAny_bind (m:=Builtin.List.listItems (.ref l)) ?_
  unfold Builtin.List.listItems
  refine wpAny_bind (wpAny_seqItems ho hd (wpAny_pure ?_))
  refine wpAny_bind (wpAny_of_eq (sliceIndices_raw lo hi st items.size h0) ?_)
  exact wpAny_bind (wpAny_newObj_type (wpAny_pure ⟨_,rfl,h⟩) (Nat.le_trans (slicePick_size_le items lo hi st) hz))
theorem big {n:Nat} (h:n≤1000):n≤sizeLine:=Nat.le_trans h (by rw [sizeLine_eq]; decide)
theorem Gp (w:World) (b:Bool) (RO:ZA) (l sl:Nat) (vs:List Value) (ep:Nat) (va vb vc:Value) (lo hi st:Option Int) (ys:List Value) (pa:IsPart va lo) (pb:IsPart vb hi) (pc:IsPart vc st) (h0:st≠some 0) (hz:vs.length≤1000) (hy:slicePick ⟨vs⟩ lo hi st=⟨ys⟩) :
  (Tf l sl vs ep va vb vc ys).ok (wf w b) RO 975:=by
 refine ZD.of_meets rfl entry_list_getitem (J6 l sl ⟨vs⟩ va vb vc lo hi st pa pb pc h0 (big hz)) ?_
 intro h g d t os R ht hM hR
 refine ⟨⟨_,hM.at_ _ (.head _),rfl,ep,rfl⟩,⟨_,hM.at_ _ (.tail _ (.head _)),rfl,rfl⟩,?_⟩
 rw [hy]
 have h1:=hM.alloc (o:=ZB ys 0) rfl
 have e1:=(Ext.refl (Tf l sl vs ep va vb vc ys).mem h).alloc (ZB ys 0)
 exact hR _ _ _ _ _ ht ⟨rl [h.objs.size],rfl,rfl,rfl⟩ h1 e1 (fun x=>x)
noncomputable def UI (l m:Nat) (vs:List Value) (ep:Nat) (us:List Value) (eq:Nat):Con:=
 {code:=.builtin "list.__add__" ⟨[.ref l,.ref m],[]⟩,mem:=[(l,ZB vs ep),(m,ZB us eq)],r:=fun ρ=>.ok (.ret (.ref (ρ 0))),upd:=fun _=>[ZB vs ep,ZB us eq],new:=fun ρ=>[(ρ 0,ZB (vs++us) 0)] }
noncomputable def WP (l m:Nat) (vs:List Value) (ep:Nat) (us:List Value) (eq:Nat):Con:={ UI l m vs ep us eq with code:=.call (.builtin "list.__add__") ⟨[.ref l,.ref m],[]⟩ }
theorem HK (w:World) (b:Bool) (RO:ZA) (l m:Nat) (vs:List Value) (ep:Nat) (us:List Value) (eq:Nat) (hz:vs.length + us.length≤1000):(UI l m vs ep us eq).ok (wf w b) RO 975:=by
 refine ZD.of_meets rfl F.entry_list_add (AutoSeq1.list___add___list_list_0 l ⟨vs⟩ ep m ⟨us⟩ eq (big hz)) ?_
 intro h g d t os R ht hM hR
 refine ⟨hM.at_ _ (.head _),hM.at_ _ (.tail _ (.head _)),?_⟩
 have e:(⟨vs⟩:Array Value)++⟨us⟩=⟨vs++us⟩:=by simp
 rw [e]
 have h1:=hM.alloc (o:=ZB (vs++us) 0) rfl
 have e1:=(Ext.refl (UI l m vs ep us eq).mem h).alloc (ZB (vs++us) 0)
 exact hR _ _ _ _ _ ht ⟨rl [h.objs.size],rfl,rfl,rfl⟩ h1 e1 (fun x=>x)
noncomputable def UJ (l m:Nat) (vs:List Value) (ep:Nat) (us:List Value) (eq:Nat):Con:=
 {code:=.builtin "list.extend" ⟨[.ref l,.ref m],[]⟩,mem:=[(l,ZB vs ep),(m,ZB us eq)],r:=fun _=>.ok (.ret .none),upd:=fun ρ=>[ZB (vs++us) (ρ 0),ZB us eq],new:=fun _=>[] }
noncomputable def Vx (l m:Nat) (vs:List Value) (ep:Nat) (us:List Value) (eq:Nat):Con:={ UJ l m vs ep us eq with code:=.call (.builtin "list.extend") ⟨[.ref l,.ref m],[]⟩ }
theorem HL (w:World) (b:Bool) (RO:ZA) (l m:Nat) (vs:List Value) (ep:Nat) (us:List Value) (eq:Nat) (hz:vs.length + us.length≤1000):(UJ l m vs ep us eq).ok (wf w b) RO 975:=by
 have hs:¬ (!(⟨vs⟩:Array Value).isEmpty && Builtin.List.listTooLong ((⟨vs⟩:Array Value).size + (⟨us⟩:Array Value).size))=true:=extend_door (big hz)
 refine ZD.of_meets rfl F.entry_list_extend (AutoSeq1.list_extend_list_list_0 l ⟨vs⟩ ep m ⟨us⟩ eq hs (big (by show vs.length≤1000; omega)) (Nat.le_succ_of_le (big hz))) ?_
 intro h g d t os R ht hM hR
 refine ⟨hM.at_ _ (.head _),hM.at_ _ (.tail _ (.head _)),?_⟩
 have f1:(Obj.mapSeq (fun x=>x++(⟨us⟩:Array Value)) (ZB vs ep)).isFreed=false:=rfl
 have h1:=hM.update (i:=0) (f:=Obj.mapSeq fun x=>x++(⟨us⟩:Array Value)) rfl f1
 have e1:=(Ext.refl (UJ l m vs ep us eq).mem h).update hM (i:=0) (f:=Obj.mapSeq fun x=>x++(⟨us⟩:Array Value)) rfl
 have e:((⟨vs⟩:Array Value)++⟨us⟩).toList=vs++us:=by simp
 refine hR _ _ _ _ _ ht ⟨rl [if ((⟨vs⟩:Array Value)++⟨us⟩).size == (⟨vs⟩:Array Value).size then ep else ep + 1],rfl,?_,rfl⟩ h1 e1 (fun x=>x)
 show [(l,Obj.mapSeq (fun x=>x++(⟨us⟩:Array Value)) (ZB vs ep)),(m,ZB us eq)]=_
 rw [WW,e]
 rfl
end
section
open PySem PySem.W
theorem XE (w:World) (b:Bool) (RO:ZA) (l sl:Nat) (vs:List Value) (ep:Nat) (va vb vc:Value) (lo hi st:Option Int) (ys:List Value) (pa:IsPart va lo) (pb:IsPart vb hi) (pc:IsPart vc st) (h0:st≠some 0) (hz:vs.length≤1000) (hy:slicePick ⟨vs⟩ lo hi st=⟨ys⟩):(Yw l sl vs ep va vb vc ys).ok (wf w b) RO 965:=
 cR (.l 1 (.i (Tf l sl vs ep va vb vc ys) [0,1] (Gp w b _ _ _ _ _ _ _ _ lo hi st _ pa pb pc h0 hz hy) [] (fun ρ0=>(rl [ρ0 0])))) (by kernel_rfl)
theorem Ws (w:World) (b:Bool) (RO:ZA) (l m:Nat) (vs:List Value) (ep:Nat) (us:List Value) (eq:Nat) (hz:vs.length + us.length≤1000):(WP l m vs ep us eq).ok (wf w b) RO 965:=
 cR (.l 1 (.i (UI l m vs ep us eq) [0,1] (HK w b _ _ _ _ _ _ _ hz) [] (fun ρ0=>(rl [ρ0 0])))) (by kernel_rfl)
theorem Tg (w:World) (b:Bool) (RO:ZA) (l m:Nat) (vs:List Value) (ep:Nat) (us:List Value) (eq:Nat) (hz:vs.length + us.length≤1000):(Vx l m vs ep us eq).ok (wf w b) RO 965:=
 cR (.l 1 (.i (UJ l m vs ep us eq) [0,1] (HL w b _ _ _ _ _ _ _ hz) [] (fun ρ0=>(rl [ρ0 0])))) (by kernel_rfl)
theorem Gq (w:World) (b:Bool) (RO:ZA) (l sl:Nat) (vs:List Value) (ep t:Nat) (ys:List Value) (hy:vs.take 12=ys) (hz:vs.length≤1000):(Yw l sl vs ep .none (.int 12 t) .none ys).ok (wf w b) RO 965:=
 XE w b RO l sl vs ep .none (.int 12 t) .none none (some 12) none ys .none (.int 12 t) .none (by decide) hz (by have z:=slicePick_upto' (⟨vs⟩:Array Value) 12; rw [show ((12:Nat):Int)=12 from rfl] at z; rw [z,← hy])
noncomputable def L0 (w:World) (b:Bool) (RO:ZA) (sc ep:Nat):CE (wf w b) RO []:=
 .l 340013003009901002001010000990384 (.a fun a2=>.l 2001 (.a fun a3=>.l 10990001 (.c 2 (ZF w b _ a3 #[(.ref a2),(.int 0 0)]) (.l 800031008010000011099100300043003 (.t fun t3=>.t fun t4=>.t fun t5=>.t fun t6=>.t fun t7=>.t fun t8=>.t fun t9=>.t fun t10=>.t fun t11=>.t fun t12=>.t fun t13=>.t fun t14=>.l 10007000110070001000700990002400130020099110020050009010101040099 (.a fun a11=>.z [1,20] (rl [a11,0,t3,t4,t5,t6,t7,t8,t9,t10,t11,t12,t13,t14])))))))
theorem HM (w:World) (b:Bool) (RO:ZA) (sc ep:Nat):(Zz sc [] ep [12,1,6,2,0,7,3,9,3,4,18,20]).ok (wf w b) RO 600:=
 cB (fd284 _) (L0 w b RO sc ep) (by cases b<;>kernel_rfl)
noncomputable def L1 (w:World) (b:Bool) (RO:ZA) (x1:Int) (v1:Nat) (sc ep:Nat):CE (wf w b) RO []:=
 .l 340013003009901002001010000990384 (.a fun a2=>.l 2001 (.a fun a3=>.l 10990001 (.c 2 (ZF w b _ a3 #[(.ref a2),(.int 0 0)]) (.l 210000010101010410010100100300043003 (.t fun t6=>.l 1000008200310080100000110991003000430033002 (.t fun t9=>.t fun t10=>.t fun t11=>.t fun t12=>.t fun t13=>.t fun t14=>.t fun t15=>.t fun t16=>.t fun t17=>.t fun t18=>.t fun t19=>.l 10007000110070001000700990002400130020099110020050009010101040099 (.a fun a11=>.z [1,20] (rl [a11,0,t6,t9,t10,t11,t12,t13,t14,t15,t16,t17,t18,t19]))))))))
theorem HN (w:World) (b:Bool) (RO:ZA) (x1:Int) (v1:Nat) (sc ep:Nat):(Zz sc [.int x1 v1] ep [Int.fmod x1 1000000,1,6,2,0,7,3,9,3,4,18,20]).ok (wf w b) RO 600:=
 cB (fd284 _) (L1 w b RO x1 v1 sc ep) (by cases b<;>kernel_rfl)
noncomputable def L2 (w:World) (b:Bool) (RO:ZA) (x1 x2:Int) (v1 v2:Nat) (sc ep:Nat):CE (wf w b) RO []:=
 .l 340013003009901002001010000990384 (.a fun a2=>.l 2001 (.a fun a3=>.l 10990001 (.c 2 (ZF w b _ a3 #[(.ref a2),(.int 0 0)]) (.l 210000010101010410010100100300043003 (.t fun t6=>.l 2100000101010104100101001003000430033002 (.t fun t11=>.l 11000008200310080100000110991003000430033002 (.t fun t15=>.t fun t16=>.t fun t17=>.t fun t18=>.t fun t19=>.t fun t20=>.t fun t21=>.t fun t22=>.t fun t23=>.t fun t24=>.l 10007000110070001000700990002400130020099110020050009010101040099 (.a fun a11=>.z [1,20] (rl [a11,0,t6,t11,t15,t16,t17,t18,t19,t20,t21,t22,t23,t24])))))))))
theorem HO (w:World) (b:Bool) (RO:ZA) (x1 x2:Int) (v1 v2:Nat) (sc ep:Nat):(Zz sc [.int x1 v1,.int x2 v2] ep [Int.fmod x1 1000000,Int.fmod x2 1000000,6,2,0,7,3,9,3,4,18,20]).ok (wf w b) RO 600:=
 cB (fd284 _) (L2 w b RO x1 x2 v1 v2 sc ep) (by cases b<;>kernel_rfl)
noncomputable def L3 (w:World) (b:Bool) (RO:ZA) (x1 x2 x3:Int) (v1 v2 v3:Nat) (sc ep:Nat):CE (wf w b) RO []:=
 .l 340013003009901002001010000990384 (.a fun a2=>.l 2001 (.a fun a3=>.l 10990001 (.c 2 (ZF w b _ a3 #[(.ref a2),(.int 0 0)]) (.l 210000010101010410010100100300043003 (.t fun t6=>.l 2100000101010104100101001003000430033002 (.t fun t11=>.l 2100000101010104100101001003000430033002 (.t fun t16=>.l 21000008200310080100000110991003000430033002 (.t fun t21=>.t fun t22=>.t fun t23=>.t fun t24=>.t fun t25=>.t fun t26=>.t fun t27=>.t fun t28=>.t fun t29=>.l 10007000110070001000700990002400130020099110020050009010101040099 (.a fun a11=>.z [1,20] (rl [a11,0,t6,t11,t16,t21,t22,t23,t24,t25,t26,t27,t28,t29]))))))))))
theorem HP (w:World) (b:Bool) (RO:ZA) (x1 x2 x3:Int) (v1 v2 v3:Nat) (sc ep:Nat):(Zz sc [.int x1 v1,.int x2 v2,.int x3 v3] ep [Int.fmod x1 1000000,Int.fmod x2 1000000,Int.fmod x3 1000000,2,0,7,3,9,3,4,18,20]).ok (wf w b) RO 600:=
 cB (fd284 _) (L3 w b RO x1 x2 x3 v1 v2 v3 sc ep) (by cases b<;>kernel_rfl)
noncomputable def L4 (w:World) (b:Bool) (RO:ZA) (x1 x2 x3 x4:Int) (v1 v2 v3 v4:Nat) (sc ep:Nat):CE (wf w b) RO []:=
 .l 340013003009901002001010000990384 (.a fun a2=>.l 2001 (.a fun a3=>.l 10990001 (.c 2 (ZF w b _ a3 #[(.ref a2),(.int 0 0)]) (.l 210000010101010410010100100300043003 (.t fun t6=>.l 2100000101010104100101001003000430033002 (.t fun t11=>.l 2100000101010104100101001003000430033002 (.t fun t16=>.l 2100000101010104100101001003000430033002 (.t fun t21=>.l 31000008200310080100000110991003000430033002 (.t fun t27=>.t fun t28=>.t fun t29=>.t fun t30=>.t fun t31=>.t fun t32=>.t fun t33=>.t fun t34=>.l 10007000110070001000700990002400130020099110020050009010101040099 (.a fun a11=>.z [1,20] (rl [a11,0,t6,t11,t16,t21,t27,t28,t29,t30,t31,t32,t33,t34])))))))))))
theorem HQ (w:World) (b:Bool) (RO:ZA) (x1 x2 x3 x4:Int) (v1 v2 v3 v4:Nat) (sc ep:Nat):(Zz sc [.int x1 v1,.int x2 v2,.int x3 v3,.int x4 v4] ep [Int.fmod x1 1000000,Int.fmod x2 1000000,Int.fmod x3 1000000,Int.fmod x4 1000000,0,7,3,9,3,4,18,20]).ok (wf w b) RO 600:=
 cB (fd284 _) (L4 w b RO x1 x2 x3 x4 v1 v2 v3 v4 sc ep) (by cases b<;>kernel_rfl)
noncomputable def L5 (w:World) (b:Bool) (RO:ZA) (x1 x2 x3 x4 x5:Int) (v1 v2 v3 v4 v5:Nat) (sc ep:Nat):CE (wf w b) RO []:=
 .l 340013003009901002001010000990384 (.a fun a2=>.l 2001 (.a fun a3=>.l 10990001 (.c 2 (ZF w b _ a3 #[(.ref a2),(.int 0 0)]) (.l 210000010101010410010100100300043003 (.t fun t6=>.l 2100000101010104100101001003000430033002 (.t fun t11=>.l 2100000101010104100101001003000430033002 (.t fun t16=>.l 2100000101010104100101001003000430033002 (.t fun t21=>.l 2100000101010104100101001003000430033002 (.t fun t26=>.l 41000008200310080100000110991003000430033002 (.t fun t33=>.t fun t34=>.t fun t35=>.t fun t36=>.t fun t37=>.t fun t38=>.t fun t39=>.l 10007000110070001000700990002400130020099110020050009010101040099 (.a fun a11=>.z [1,20] (rl [a11,0,t6,t11,t16,t21,t26,t33,t34,t35,t36,t37,t38,t39]))))))))))))
theorem HS (w:World) (b:Bool) (RO:ZA) (x1 x2 x3 x4 x5:Int) (v1 v2 v3 v4 v5:Nat) (sc ep:Nat):(Zz sc [.int x1 v1,.int x2 v2,.int x3 v3,.int x4 v4,.int x5 v5] ep [Int.fmod x1 1000000,Int.fmod x2 1000000,Int.fmod x3 1000000,Int.fmod x4 1000000,Int.fmod x5 1000000,7,3,9,3,4,18,20]).ok (wf w b) RO 600:=
 cB (fd284 _) (L5 w b RO x1 x2 x3 x4 x5 v1 v2 v3 v4 v5 sc ep) (by cases b<;>kernel_rfl)
noncomputable def L6 (w:World) (b:Bool) (RO:ZA) (x1 x2 x3 x4 x5 x6:Int) (v1 v2 v3 v4 v5 v6:Nat) (sc ep:Nat):CE (wf w b) RO []:=
 .l 340013003009901002001010000990384 (.a fun a2=>.l 2001 (.a fun a3=>.l 10990001 (.c 2 (ZF w b _ a3 #[(.ref a2),(.int 0 0)]) (.l 210000010101010410010100100300043003 (.t fun t6=>.l 2100000101010104100101001003000430033002 (.t fun t11=>.l 2100000101010104100101001003000430033002 (.t fun t16=>.l 2100000101010104100101001003000430033002 (.t fun t21=>.l 2100000101010104100101001003000430033002 (.t fun t26=>.l 2100000101010104100101001003000430033002 (.t fun t31=>.l 51000008200310080100000110991003000430033002 (.t fun t39=>.t fun t40=>.t fun t41=>.t fun t42=>.t fun t43=>.t fun t44=>.l 10007000110070001000700990002400130020099110020050009010101040099 (.a fun a11=>.z [1,20] (rl [a11,0,t6,t11,t16,t21,t26,t31,t39,t40,t41,t42,t43,t44])))))))))))))
theorem HT (w:World) (b:Bool) (RO:ZA) (x1 x2 x3 x4 x5 x6:Int) (v1 v2 v3 v4 v5 v6:Nat) (sc ep:Nat):(Zz sc [.int x1 v1,.int x2 v2,.int x3 v3,.int x4 v4,.int x5 v5,.int x6 v6] ep [Int.fmod x1 1000000,Int.fmod x2 1000000,Int.fmod x3 1000000,Int.fmod x4 1000000,Int.fmod x5 1000000,Int.fmod x6 1000000,3,9,3,4,18,20]).ok (wf w b) RO 600:=
 cB (fd284 _) (L6 w b RO x1 x2 x3 x4 x5 x6 v1 v2 v3 v4 v5 v6 sc ep) (by cases b<;>kernel_rfl)
noncomputable def L7 (w:World) (b:Bool) (RO:ZA) (x1 x2 x3 x4 x5 x6 x7:Int) (v1 v2 v3 v4 v5 v6 v7:Nat) (sc ep:Nat):CE (wf w b) RO []:=
 .l 340013003009901002001010000990384 (.a fun a2=>.l 2001 (.a fun a3=>.l 10990001 (.c 2 (ZF w b _ a3 #[(.ref a2),(.int 0 0)]) (.l 210000010101010410010100100300043003 (.t fun t6=>.l 2100000101010104100101001003000430033002 (.t fun t11=>.l 2100000101010104100101001003000430033002 (.t fun t16=>.l 2100000101010104100101001003000430033002 (.t fun t21=>.l 2100000101010104100101001003000430033002 (.t fun t26=>.l 2100000101010104100101001003000430033002 (.t fun t31=>.l 2100000101010104100101001003000430033002 (.t fun t36=>.l 61000008200310080100000110991003000430033002 (.t fun t45=>.t fun t46=>.t fun t47=>.t fun t48=>.t fun t49=>.l 10007000110070001000700990002400130020099110020050009010101040099 (.a fun a11=>.z [1,20] (rl [a11,0,t6,t11,t16,t21,t26,t31,t36,t45,t46,t47,t48,t49]))))))))))))))
theorem HU (w:World) (b:Bool) (RO:ZA) (x1 x2 x3 x4 x5 x6 x7:Int) (v1 v2 v3 v4 v5 v6 v7:Nat) (sc ep:Nat):(Zz sc [.int x1 v1,.int x2 v2,.int x3 v3,.int x4 v4,.int x5 v5,.int x6 v6,.int x7 v7] ep [Int.fmod x1 1000000,Int.fmod x2 1000000,Int.fmod x3 1000000,Int.fmod x4 1000000,Int.fmod x5 1000000,Int.fmod x6 1000000,Int.fmod x7 1000000,9,3,4,18,20]).ok (wf w b) RO 600:=
 cB (fd284 _) (L7 w b RO x1 x2 x3 x4 x5 x6 x7 v1 v2 v3 v4 v5 v6 v7 sc ep) (by cases b<;>kernel_rfl)
noncomputable def L8 (w:World) (b:Bool) (RO:ZA) (x1 x2 x3 x4 x5 x6 x7 x8:Int) (v1 v2 v3 v4 v5 v6 v7 v8:Nat) (sc ep:Nat):CE (wf w b) RO []:=
 .l 340013003009901002001010000990384 (.a fun a2=>.l 2001 (.a fun a3=>.l 10990001 (.c 2 (ZF w b _ a3 #[(.ref a2),(.int 0 0)]) (.l 210000010101010410010100100300043003 (.t fun t6=>.l 2100000101010104100101001003000430033002 (.t fun t11=>.l 2100000101010104100101001003000430033002 (.t fun t16=>.l 2100000101010104100101001003000430033002 (.t fun t21=>.l 2100000101010104100101001003000430033002 (.t fun t26=>.l 2100000101010104100101001003000430033002 (.t fun t31=>.l 2100000101010104100101001003000430033002 (.t fun t36=>.l 2100000101010104100101001003000430033002 (.t fun t41=>.l 71000008200310080100000110991003000430033002 (.t fun t51=>.t fun t52=>.t fun t53=>.t fun t54=>.l 10007000110070001000700990002400130020099110020050009010101040099 (.a fun a11=>.z [1,20] (rl [a11,0,t6,t11,t16,t21,t26,t31,t36,t41,t51,t52,t53,t54])))))))))))))))
theorem HV (w:World) (b:Bool) (RO:ZA) (x1 x2 x3 x4 x5 x6 x7 x8:Int) (v1 v2 v3 v4 v5 v6 v7 v8:Nat) (sc ep:Nat):(Zz sc [.int x1 v1,.int x2 v2,.int x3 v3,.int x4 v4,.int x5 v5,.int x6 v6,.int x7 v7,.int x8 v8] ep [Int.fmod x1 1000000,Int.fmod x2 1000000,Int.fmod x3 1000000,Int.fmod x4 1000000,Int.fmod x5 1000000,Int.fmod x6 1000000,Int.fmod x7 1000000,Int.fmod x8 1000000,3,4,18,20]).ok (wf w b) RO 600:=
 cB (fd284 _) (L8 w b RO x1 x2 x3 x4 x5 x6 x7 x8 v1 v2 v3 v4 v5 v6 v7 v8 sc ep) (by cases b<;>kernel_rfl)
noncomputable def L9 (w:World) (b:Bool) (RO:ZA) (x1 x2 x3 x4 x5 x6 x7 x8 x9:Int) (v1 v2 v3 v4 v5 v6 v7 v8 v9:Nat) (sc ep:Nat):CE (wf w b) RO []:=
 .l 340013003009901002001010000990384 (.a fun a2=>.l 2001 (.a fun a3=>.l 10990001 (.c 2 (ZF w b _ a3 #[(.ref a2),(.int 0 0)]) (.l 210000010101010410010100100300043003 (.t fun t6=>.l 2100000101010104100101001003000430033002 (.t fun t11=>.l 2100000101010104100101001003000430033002 (.t fun t16=>.l 2100000101010104100101001003000430033002 (.t fun t21=>.l 2100000101010104100101001003000430033002 (.t fun t26=>.l 2100000101010104100101001003000430033002 (.t fun t31=>.l 2100000101010104100101001003000430033002 (.t fun t36=>.l 2100000101010104100101001003000430033002 (.t fun t41=>.l 2100000101010104100101001003000430033002 (.t fun t46=>.l 81000008200310080100000110991003000430033002 (.t fun t57=>.t fun t58=>.t fun t59=>.l 10007000110070001000700990002400130020099110020050009010101040099 (.a fun a11=>.z [1,20] (rl [a11,0,t6,t11,t16,t21,t26,t31,t36,t41,t46,t57,t58,t59]))))))))))))))))
theorem HW (w:World) (b:Bool) (RO:ZA) (x1 x2 x3 x4 x5 x6 x7 x8 x9:Int) (v1 v2 v3 v4 v5 v6 v7 v8 v9:Nat) (sc ep:Nat):(Zz sc [.int x1 v1,.int x2 v2,.int x3 v3,.int x4 v4,.int x5 v5,.int x6 v6,.int x7 v7,.int x8 v8,.int x9 v9] ep [Int.fmod x1 1000000,Int.fmod x2 1000000,Int.fmod x3 1000000,Int.fmod x4 1000000,Int.fmod x5 1000000,Int.fmod x6 1000000,Int.fmod x7 1000000,Int.fmod x8 1000000,Int.fmod x9 1000000,4,18,20]).ok (wf w b) RO 600:=
 cB (fd284 _) (L9 w b RO x1 x2 x3 x4 x5 x6 x7 x8 x9 v1 v2 v3 v4 v5 v6 v7 v8 v9 sc ep) (by cases b<;>kernel_rfl)
noncomputable def MS (w:World) (b:Bool) (RO:ZA) (x1 x2 x3 x4 x5 x6 x7 x8 x9 x10:Int) (v1 v2 v3 v4 v5 v6 v7 v8 v9 v10:Nat) (sc ep:Nat):CE (wf w b) RO []:=
 .l 340013003009901002001010000990384 (.a fun a2=>.l 2001 (.a fun a3=>.l 10990001 (.c 2 (ZF w b _ a3 #[(.ref a2),(.int 0 0)]) (.l 210000010101010410010100100300043003 (.t fun t6=>.l 2100000101010104100101001003000430033002 (.t fun t11=>.l 2100000101010104100101001003000430033002 (.t fun t16=>.l 2100000101010104100101001003000430033002 (.t fun t21=>.l 2100000101010104100101001003000430033002 (.t fun t26=>.l 2100000101010104100101001003000430033002 (.t fun t31=>.l 2100000101010104100101001003000430033002 (.t fun t36=>.l 2100000101010104100101001003000430033002 (.t fun t41=>.l 2100000101010104100101001003000430033002 (.t fun t46=>.l 2100000101010104100101001003000430033002 (.t fun t51=>.l 91000008200310080100000110991003000430033002 (.t fun t63=>.t fun t64=>.l 10007000110070001000700990002400130020099110020050009010101040099 (.a fun a11=>.z [1,20] (rl [a11,0,t6,t11,t16,t21,t26,t31,t36,t41,t46,t51,t63,t64])))))))))))))))))
theorem J7 (w:World) (b:Bool) (RO:ZA) (x1 x2 x3 x4 x5 x6 x7 x8 x9 x10:Int) (v1 v2 v3 v4 v5 v6 v7 v8 v9 v10:Nat) (sc ep:Nat):(Zz sc [.int x1 v1,.int x2 v2,.int x3 v3,.int x4 v4,.int x5 v5,.int x6 v6,.int x7 v7,.int x8 v8,.int x9 v9,.int x10 v10] ep [Int.fmod x1 1000000,Int.fmod x2 1000000,Int.fmod x3 1000000,Int.fmod x4 1000000,Int.fmod x5 1000000,Int.fmod x6 1000000,Int.fmod x7 1000000,Int.fmod x8 1000000,Int.fmod x9 1000000,Int.fmod x10 1000000,18,20]).ok (wf w b) RO 600:=
 cB (fd284 _) (MS w b RO x1 x2 x3 x4 x5 x6 x7 x8 x9 x10 v1 v2 v3 v4 v5 v6 v7 v8 v9 v10 sc ep) (by cases b<;>kernel_rfl)
noncomputable def MT (w:World) (b:Bool) (RO:ZA) (x1 x2 x3 x4 x5 x6 x7 x8 x9 x10 x11:Int) (v1 v2 v3 v4 v5 v6 v7 v8 v9 v10 v11:Nat) (sc ep:Nat):CE (wf w b) RO []:=
 .l 340013003009901002001010000990384 (.a fun a2=>.l 2001 (.a fun a3=>.l 10990001 (.c 2 (ZF w b _ a3 #[(.ref a2),(.int 0 0)]) (.l 210000010101010410010100100300043003 (.t fun t6=>.l 2100000101010104100101001003000430033002 (.t fun t11=>.l 2100000101010104100101001003000430033002 (.t fun t16=>.l 2100000101010104100101001003000430033002 (.t fun t21=>.l 2100000101010104100101001003000430033002 (.t fun t26=>.l 2100000101010104100101001003000430033002 (.t fun t31=>.l 2100000101010104100101001003000430033002 (.t fun t36=>.l 2100000101010104100101001003000430033002 (.t fun t41=>.l 2100000101010104100101001003000430033002 (.t fun t46=>.l 2100000101010104100101001003000430033002 (.t fun t51=>.l 2100000101010104100101001003000430033002 (.t fun t56=>.l 10091000008200310080100000110991003000430033002 (.t fun t69=>.l 10007000110070001000700990002400130020099110020050009010101040099 (.a fun a11=>.z [1,20] (rl [a11,0,t6,t11,t16,t21,t26,t31,t36,t41,t46,t51,t56,t69]))))))))))))))))))
theorem J8 (w:World) (b:Bool) (RO:ZA) (x1 x2 x3 x4 x5 x6 x7 x8 x9 x10 x11:Int) (v1 v2 v3 v4 v5 v6 v7 v8 v9 v10 v11:Nat) (sc ep:Nat):(Zz sc [.int x1 v1,.int x2 v2,.int x3 v3,.int x4 v4,.int x5 v5,.int x6 v6,.int x7 v7,.int x8 v8,.int x9 v9,.int x10 v10,.int x11 v11] ep [Int.fmod x1 1000000,Int.fmod x2 1000000,Int.fmod x3 1000000,Int.fmod x4 1000000,Int.fmod x5 1000000,Int.fmod x6 1000000,Int.fmod x7 1000000,Int.fmod x8 1000000,Int.fmod x9 1000000,Int.fmod x10 1000000,Int.fmod x11 1000000,20]).ok (wf w b) RO 600:=
 cB (fd284 _) (MT w b RO x1 x2 x3 x4 x5 x6 x7 x8 x9 x10 x11 v1 v2 v3 v4 v5 v6 v7 v8 v9 v10 v11 sc ep) (by cases b<;>kernel_rfl)
noncomputable def MU (w:World) (b:Bool) (RO:ZA) (x1 x2 x3 x4 x5 x6 x7 x8 x9 x10 x11 x12:Int) (v1 v2 v3 v4 v5 v6 v7 v8 v9 v10 v11 v12:Nat) (sc ep:Nat) (vs:List Value) (hv:vs.take 12=[.int x1 v1,.int x2 v2,.int x3 v3,.int x4 v4,.int x5 v5,.int x6 v6,.int x7 v7,.int x8 v8,.int x9 v9,.int x10 v10,.int x11 v11,.int x12 v12]) (hz:vs.length≤1000):CE (wf w b) RO []:=
 .l 2001010000990384 (.t fun t1=>.a fun a1=>.l 2003 (.k (Yw sc a1 vs ep .none (.int 12 t1) .none [.int x1 v1,.int x2 v2,.int x3 v3,.int x4 v4,.int x5 v5,.int x6 v6,.int x7 v7,.int x8 v8,.int x9 v9,.int x10 v10,.int x11 v11,.int x12 v12]) [2,0] (Gq w b _ _ _ _ _ _ _ hv hz) fun ρ0=>.l 2001 (.a fun a2=>.l 10990001 (.c 2 (ZF w b _ a2 #[(.ref (ρ0 0)),(.int 0 0)]) (.l 210000010101010410010100100300043003 (.t fun t6=>.l 2100000101010104100101001003000430033002 (.t fun t11=>.l 2100000101010104100101001003000430033002 (.t fun t16=>.l 2100000101010104100101001003000430033002 (.t fun t21=>.l 2100000101010104100101001003000430033002 (.t fun t26=>.l 2100000101010104100101001003000430033002 (.t fun t31=>.l 2100000101010104100101001003000430033002 (.t fun t36=>.l 2100000101010104100101001003000430033002 (.t fun t41=>.l 2100000101010104100101001003000430033002 (.t fun t46=>.l 2100000101010104100101001003000430033002 (.t fun t51=>.l 2100000101010104100101001003000430033002 (.t fun t56=>.l 2100000101010104100101001003000430033002 (.t fun t61=>.l 10007000110070001000700990002400130020099110020050009010101040099110091000008200310080100000110991003000430033002 (.a fun a10=>.z [1,20] (rl [a10,0,t6,t11,t16,t21,t26,t31,t36,t41,t46,t51,t56,t61])))))))))))))))))))
theorem J9 (w:World) (b:Bool) (RO:ZA) (x1 x2 x3 x4 x5 x6 x7 x8 x9 x10 x11 x12:Int) (v1 v2 v3 v4 v5 v6 v7 v8 v9 v10 v11 v12:Nat) (sc ep:Nat) (vs:List Value) (hv:vs.take 12=[.int x1 v1,.int x2 v2,.int x3 v3,.int x4 v4,.int x5 v5,.int x6 v6,.int x7 v7,.int x8 v8,.int x9 v9,.int x10 v10,.int x11 v11,.int x12 v12]) (hz:vs.length≤1000):(Zz sc vs ep [Int.fmod x1 1000000,Int.fmod x2 1000000,Int.fmod x3 1000000,Int.fmod x4 1000000,Int.fmod x5 1000000,Int.fmod x6 1000000,Int.fmod x7 1000000,Int.fmod x8 1000000,Int.fmod x9 1000000,Int.fmod x10 1000000,Int.fmod x11 1000000,Int.fmod x12 1000000]).ok (wf w b) RO 600:=
 cB (fd284 _) (MU w b RO x1 x2 x3 x4 x5 x6 x7 x8 x9 x10 x11 x12 v1 v2 v3 v4 v5 v6 v7 v8 v9 v10 v11 v12 sc ep vs hv hz) (by cases b<;>kernel_rfl)
noncomputable def RP (w:World) (b:Bool) (RO:ZA) (n m p u:Nat) (h2:n % 2=0) (hd:n / 2=m) (h2b:m % 2=0) (h4:n / 4=p) (h3:p % 3=0):CE (wf w b) RO []:=
 .l 101001001010000990389 (.t fun t2=>.k (ZG n u 2 t2 0) [] (ZK w b _ _ _ _ _ h2) fun ρ0=>.t fun t3=>.l 10100 (.t fun t5=>.k (ZM n u 2 t5 m) [] (Zw w b _ _ _ _ _ hd) fun ρ1=>.t fun t6=>.k (ZG m (ρ1 0) 2 t6 0) [] (ZK w b _ _ _ _ _ h2b) fun ρ2=>.t fun t7=>.l 620991100009911000099 (.t fun t12=>.k (ZM n u 4 t12 p) [] (Zy w b _ _ _ _ _ h4) fun ρ3=>.t fun t13=>.k (ZG p (ρ3 0) 3 t13 0) [] (Zx w b _ _ _ _ _ h3) fun ρ4=>.l 300200010099500300991100009601031001010000990180058101810008010430010099210001010104010101041007010000990004000500041005000400054001 (.a fun a12=>.a fun a13=>.a fun a14=>.l 7001 (.a fun a15=>.l 99 (.d (q:=(a14,⟨(.type "zip"),none,(.fields #[.none,(.bool false),(.bool false),(.ref a12),(.ref a13)]),#[]⟩)) 2 (YW _ _ _ _ _ _) (.l 1007300401008006300300053003 (.g (.l 400500970009009701000009009701042009010010010011200100970001009700010099001000971010200801000095010300950007 (.a fun a18=>.l 4005 (.s 4 (ZE a18 (.type "zip") none [(.bool false),(.bool false),(.ref a12),(.ref a13)] #[]) (.l 10123009010080113008001030083007200601001006010000011099100100025001000250010002400100993001 (.g (.l 4009009700130097010000130097010420130100100500152005009700051013010000130095010300950012 (.a fun a22=>.l 4009 (.s 8 (ZE a22 (.type "zip") none [(.bool false),(.bool false),(.ref a12),(.ref a13)] #[]) (.l 10163013010080153012001430123011201001001010010000011099100100025001000250010002400100993001 (.g (.l 401300970017009700170097010000170097010420170100100900192009009700091017010000170095010300950016 (.a fun a26=>.l 4013 (.s 12 (ZE a26 (.type "zip") none [(.bool false),(.bool false),(.ref a12),(.ref a13)] #[]) (.l 501600011018109940193016001830163015201401001014010000011099100100025001000250010002400100993001 (.z [30,1,26] (rl [a15,3,t3,t7,t7]))))))))))))))))))))))))
theorem P5 (w:World) (b:Bool) (RO:ZA) (n m p u:Nat) (h2:n % 2=0) (hd:n / 2=m) (h2b:m % 2=0) (h4:n / 4=p) (h3:p % 3=0):(Ze 289 n u 0 0 0).ok (wf w b) RO 800:=
 cB (fd289 _) (RP w b RO n m p u h2 hd h2b h4 h3) (by cases b<;>kernel_rfl)
noncomputable def RQ (w:World) (b:Bool) (RO:ZA) (n m p u:Nat) (h2:n % 2=0) (hd:n / 2=m) (h2b:m % 2=0) (h4:n / 4=p) (h3:p % 3=1):CE (wf w b) RO []:=
 .l 101001001010000990389 (.t fun t2=>.k (ZG n u 2 t2 0) [] (ZK w b _ _ _ _ _ h2) fun ρ0=>.t fun t3=>.l 10100 (.t fun t5=>.k (ZM n u 2 t5 m) [] (Zw w b _ _ _ _ _ hd) fun ρ1=>.t fun t6=>.k (ZG m (ρ1 0) 2 t6 0) [] (ZK w b _ _ _ _ _ h2b) fun ρ2=>.t fun t7=>.l 620991100009911000099 (.t fun t12=>.k (ZM n u 4 t12 p) [] (Zy w b _ _ _ _ _ h4) fun ρ3=>.t fun t13=>.k (ZG p (ρ3 0) 3 t13 1) [] (Zx w b _ _ _ _ _ h3) fun ρ4=>.l 300200010099500300991100009601031001010000990180058101810008010430010099210001010104010101041007010000990003000500031005000300054001 (.a fun a12=>.a fun a13=>.a fun a14=>.l 7001 (.a fun a15=>.l 99 (.d (q:=(a14,⟨(.type "zip"),none,(.fields #[.none,(.bool false),(.bool false),(.ref a12),(.ref a13)]),#[]⟩)) 2 (YW _ _ _ _ _ _) (.l 1007300401008006300300053003 (.g (.l 400500970009009701000009009701042009010010010011200100970001009700010099001000971010200801000095010300950007 (.a fun a18=>.l 4005 (.s 4 (ZE a18 (.type "zip") none [(.bool false),(.bool false),(.ref a12),(.ref a13)] #[]) (.l 10123009010080113008001030083007200601001006010000011099100100025001000250010002400100993001 (.g (.l 4009009700130097010000130097010420130100100500152005009700051013010000130095010300950012 (.a fun a22=>.l 4009 (.s 8 (ZE a22 (.type "zip") none [(.bool false),(.bool false),(.ref a12),(.ref a13)] #[]) (.l 10163013010080153012001430123011201001001010010000011099100100025001000250010002400100993001 (.g (.l 50120001101410990097010420170100100900192009009700091017010000170095010300950016 (.z [22,1,26] (rl [a15,2,t3,t7])))))))))))))))))))))
theorem P6 (w:World) (b:Bool) (RO:ZA) (n m p u:Nat) (h2:n % 2=0) (hd:n / 2=m) (h2b:m % 2=0) (h4:n / 4=p) (h3:p % 3=1):(Ze 289 n u 0 0 1).ok (wf w b) RO 800:=
 cB (fd289 _) (RQ w b RO n m p u h2 hd h2b h4 h3) (by cases b<;>kernel_rfl)
noncomputable def RR (w:World) (b:Bool) (RO:ZA) (n m p u:Nat) (h2:n % 2=0) (hd:n / 2=m) (h2b:m % 2=0) (h4:n / 4=p) (h3:p % 3=2):CE (wf w b) RO []:=
 .l 101001001010000990389 (.t fun t2=>.k (ZG n u 2 t2 0) [] (ZK w b _ _ _ _ _ h2) fun ρ0=>.t fun t3=>.l 10100 (.t fun t5=>.k (ZM n u 2 t5 m) [] (Zw w b _ _ _ _ _ hd) fun ρ1=>.t fun t6=>.k (ZG m (ρ1 0) 2 t6 0) [] (ZK w b _ _ _ _ _ h2b) fun ρ2=>.t fun t7=>.l 620991100009911000099 (.t fun t12=>.k (ZM n u 4 t12 p) [] (Zy w b _ _ _ _ _ h4) fun ρ3=>.t fun t13=>.k (ZG p (ρ3 0) 3 t13 2) [] (Zx w b _ _ _ _ _ h3) fun ρ4=>.l 300200010099500300991100009601031001010000990180058101810008010430010099210001010104010101041007010000990002000500021005000200054001 (.a fun a12=>.a fun a13=>.a fun a14=>.l 7001 (.a fun a15=>.l 99 (.d (q:=(a14,⟨(.type "zip"),none,(.fields #[.none,(.bool false),(.bool false),(.ref a12),(.ref a13)]),#[]⟩)) 2 (YW _ _ _ _ _ _) (.l 1007300401008006300300053003 (.g (.l 400500970009009701000009009701042009010010010011200100970001009700010099001000971010200801000095010300950007 (.a fun a18=>.l 4005 (.s 4 (ZE a18 (.type "zip") none [(.bool false),(.bool false),(.ref a12),(.ref a13)] #[]) (.l 10123009010080113008001030083007200601001006010000011099100100025001000250010002400100993001 (.g (.l 4009009700130097010000130097010420130100100500152005009700051013010000130095010300950012 (.a fun a22=>.l 4009 (.s 8 (ZE a22 (.type "zip") none [(.bool false),(.bool false),(.ref a12),(.ref a13)] #[]) (.l 10163013010080153012001430123011201001001010010000011099100100025001000250010002400100993001 (.g (.l 501400011016109900011099100900192009009700091017010000170095010300950016 (.z [26,1,26] (rl [a15,2,t3,t7])))))))))))))))))))))
theorem P7 (w:World) (b:Bool) (RO:ZA) (n m p u:Nat) (h2:n % 2=0) (hd:n / 2=m) (h2b:m % 2=0) (h4:n / 4=p) (h3:p % 3=2):(Ze 289 n u 0 0 2).ok (wf w b) RO 800:=
 cB (fd289 _) (RR w b RO n m p u h2 hd h2b h4 h3) (by cases b<;>kernel_rfl)
noncomputable def RS (w:World) (b:Bool) (RO:ZA) (n m p u:Nat) (h2:n % 2=0) (hd:n / 2=m) (h2b:m % 2=1) (h4:n / 4=p) (h3:p % 3=0):CE (wf w b) RO []:=
 .l 101001001010000990389 (.t fun t2=>.k (ZG n u 2 t2 0) [] (ZK w b _ _ _ _ _ h2) fun ρ0=>.t fun t3=>.l 10100 (.t fun t5=>.k (ZM n u 2 t5 m) [] (Zw w b _ _ _ _ _ hd) fun ρ1=>.t fun t6=>.k (ZG m (ρ1 0) 2 t6 1) [] (ZK w b _ _ _ _ _ h2b) fun ρ2=>.t fun t7=>.l 620991100009911000099 (.t fun t12=>.k (ZM n u 4 t12 p) [] (Zy w b _ _ _ _ _ h4) fun ρ3=>.t fun t13=>.k (ZG p (ρ3 0) 3 t13 0) [] (Zx w b _ _ _ _ _ h3) fun ρ4=>.l 300200010099500300991100009601031001010000990180058101810008010430010099210001010104010101041007010000990004000500041005000400054001 (.a fun a12=>.a fun a13=>.a fun a14=>.l 7001 (.a fun a15=>.l 99 (.d (q:=(a14,⟨(.type "zip"),none,(.fields #[.none,(.bool false),(.bool false),(.ref a12),(.ref a13)]),#[]⟩)) 2 (YW _ _ _ _ _ _) (.l 1007300401008006300300053003 (.g (.l 400500970009009701000009009701042009010010010011200100970001009700010099001000971010200801000095010300950007 (.a fun a18=>.l 4005 (.s 4 (ZE a18 (.type "zip") none [(.bool false),(.bool false),(.ref a12),(.ref a13)] #[]) (.l 10123009010080113008001030083007200601001006010000011099100100025001000250010002400100993001 (.g (.l 4009009700130097010000130097010420130100100500152005009700051013010000130095010300950012 (.a fun a22=>.l 4009 (.s 8 (ZE a22 (.type "zip") none [(.bool false),(.bool false),(.ref a12),(.ref a13)] #[]) (.l 10163013010080153012001430123011201001001010010000011099100100025001000250010002400100993001 (.g (.l 401300970017009700170097010000170097010420170100100900192009009700091017010000170095010300950016 (.a fun a26=>.l 4013 (.s 12 (ZE a26 (.type "zip") none [(.bool false),(.bool false),(.ref a12),(.ref a13)] #[]) (.l 501600011018109940193016001830163015201401001014010000011099100100025001000250010002400100993001 (.z [30,1,26] (rl [a15,3,t3,t7,t7]))))))))))))))))))))))))
theorem P8 (w:World) (b:Bool) (RO:ZA) (n m p u:Nat) (h2:n % 2=0) (hd:n / 2=m) (h2b:m % 2=1) (h4:n / 4=p) (h3:p % 3=0):(Ze 289 n u 0 1 0).ok (wf w b) RO 800:=
 cB (fd289 _) (RS w b RO n m p u h2 hd h2b h4 h3) (by cases b<;>kernel_rfl)
noncomputable def RT (w:World) (b:Bool) (RO:ZA) (n m p u:Nat) (h2:n % 2=0) (hd:n / 2=m) (h2b:m % 2=1) (h4:n / 4=p) (h3:p % 3=1):CE (wf w b) RO []:=
 .l 101001001010000990389 (.t fun t2=>.k (ZG n u 2 t2 0) [] (ZK w b _ _ _ _ _ h2) fun ρ0=>.t fun t3=>.l 10100 (.t fun t5=>.k (ZM n u 2 t5 m) [] (Zw w b _ _ _ _ _ hd) fun ρ1=>.t fun t6=>.k (ZG m (ρ1 0) 2 t6 1) [] (ZK w b _ _ _ _ _ h2b) fun ρ2=>.t fun t7=>.l 620991100009911000099 (.t fun t12=>.k (ZM n u 4 t12 p) [] (Zy w b _ _ _ _ _ h4) fun ρ3=>.t fun t13=>.k (ZG p (ρ3 0) 3 t13 1) [] (Zx w b _ _ _ _ _ h3) fun ρ4=>.l 300200010099500300991100009601031001010000990180058101810008010430010099210001010104010101041007010000990003000500031005000300054001 (.a fun a12=>.a fun a13=>.a fun a14=>.l 7001 (.a fun a15=>.l 99 (.d (q:=(a14,⟨(.type "zip"),none,(.fields #[.none,(.bool false),(.bool false),(.ref a12),(.ref a13)]),#[]⟩)) 2 (YW _ _ _ _ _ _) (.l 1007300401008006300300053003 (.g (.l 400500970009009701000009009701042009010010010011200100970001009700010099001000971010200801000095010300950007 (.a fun a18=>.l 4005 (.s 4 (ZE a18 (.type "zip") none [(.bool false),(.bool false),(.ref a12),(.ref a13)] #[]) (.l 10123009010080113008001030083007200601001006010000011099100100025001000250010002400100993001 (.g (.l 4009009700130097010000130097010420130100100500152005009700051013010000130095010300950012 (.a fun a22=>.l 4009 (.s 8 (ZE a22 (.type "zip") none [(.bool false),(.bool false),(.ref a12),(.ref a13)] #[]) (.l 10163013010080153012001430123011201001001010010000011099100100025001000250010002400100993001 (.g (.l 50120001101410990097010420170100100900192009009700091017010000170095010300950016 (.z [22,1,26] (rl [a15,2,t3,t7])))))))))))))))))))))
theorem P9 (w:World) (b:Bool) (RO:ZA) (n m p u:Nat) (h2:n % 2=0) (hd:n / 2=m) (h2b:m % 2=1) (h4:n / 4=p) (h3:p % 3=1):(Ze 289 n u 0 1 1).ok (wf w b) RO 800:=
 cB (fd289 _) (RT w b RO n m p u h2 hd h2b h4 h3) (by cases b<;>kernel_rfl)
noncomputable def RU (w:World) (b:Bool) (RO:ZA) (n m p u:Nat) (h2:n % 2=0) (hd:n / 2=m) (h2b:m % 2=1) (h4:n / 4=p) (h3:p % 3=2):CE (wf w b) RO []:=
 .l 101001001010000990389 (.t fun t2=>.k (ZG n u 2 t2 0) [] (ZK w b _ _ _ _ _ h2) fun ρ0=>.t fun t3=>.l 10100 (.t fun t5=>.k (ZM n u 2 t5 m) [] (Zw w b _ _ _ _ _ hd) fun ρ1=>.t fun t6=>.k (ZG m (ρ1 0) 2 t6 1) [] (ZK w b _ _ _ _ _ h2b) fun ρ2=>.t fun t7=>.l 620991100009911000099 (.t fun t12=>.k (ZM n u 4 t12 p) [] (Zy w b _ _ _ _ _ h4) fun ρ3=>.t fun t13=>.k (ZG p (ρ3 0) 3 t13 2) [] (Zx w b _ _ _ _ _ h3) fun ρ4=>.l 300200010099500300991100009601031001010000990180058101810008010430010099210001010104010101041007010000990002000500021005000200054001 (.a fun a12=>.a fun a13=>.a fun a14=>.l 7001 (.a fun a15=>.l 99 (.d (q:=(a14,⟨(.type "zip"),none,(.fields #[.none,(.bool false),(.bool false),(.ref a12),(.ref a13)]),#[]⟩)) 2 (YW _ _ _ _ _ _) (.l 1007300401008006300300053003 (.g (.l 400500970009009701000009009701042009010010010011200100970001009700010099001000971010200801000095010300950007 (.a fun a18=>.l 4005 (.s 4 (ZE a18 (.type "zip") none [(.bool false),(.bool false),(.ref a12),(.ref a13)] #[]) (.l 10123009010080113008001030083007200601001006010000011099100100025001000250010002400100993001 (.g (.l 4009009700130097010000130097010420130100100500152005009700051013010000130095010300950012 (.a fun a22=>.l 4009 (.s 8 (ZE a22 (.type "zip") none [(.bool false),(.bool false),(.ref a12),(.ref a13)] #[]) (.l 10163013010080153012001430123011201001001010010000011099100100025001000250010002400100993001 (.g (.l 501400011016109900011099100900192009009700091017010000170095010300950016 (.z [26,1,26] (rl [a15,2,t3,t7])))))))))))))))))))))
theorem OA (w:World) (b:Bool) (RO:ZA) (n m p u:Nat) (h2:n % 2=0) (hd:n / 2=m) (h2b:m % 2=1) (h4:n / 4=p) (h3:p % 3=2):(Ze 289 n u 0 1 2).ok (wf w b) RO 800:=
 cB (fd289 _) (RU w b RO n m p u h2 hd h2b h4 h3) (by cases b<;>kernel_rfl)
noncomputable def RV (w:World) (b:Bool) (RO:ZA) (n m p u:Nat) (h2:n % 2=1) (hd:n / 2=m) (h2b:m % 2=0) (h4:n / 4=p) (h3:p % 3=0):CE (wf w b) RO []:=
 .l 101001001010000990389 (.t fun t2=>.k (ZG n u 2 t2 1) [] (ZK w b _ _ _ _ _ h2) fun ρ0=>.t fun t3=>.l 10100 (.t fun t5=>.k (ZM n u 2 t5 m) [] (Zw w b _ _ _ _ _ hd) fun ρ1=>.t fun t6=>.k (ZG m (ρ1 0) 2 t6 0) [] (ZK w b _ _ _ _ _ h2b) fun ρ2=>.t fun t7=>.l 620991100009911000099 (.t fun t12=>.k (ZM n u 4 t12 p) [] (Zy w b _ _ _ _ _ h4) fun ρ3=>.t fun t13=>.k (ZG p (ρ3 0) 3 t13 0) [] (Zx w b _ _ _ _ _ h3) fun ρ4=>.l 300200010099500300991100009601031001010000990180058101810008010430010099210001010104010101041007010000990004000500041005000400054001 (.a fun a12=>.a fun a13=>.a fun a14=>.l 7001 (.a fun a15=>.l 99 (.d (q:=(a14,⟨(.type "zip"),none,(.fields #[.none,(.bool false),(.bool false),(.ref a12),(.ref a13)]),#[]⟩)) 2 (YW _ _ _ _ _ _) (.l 1007300401008006300300053003 (.g (.l 400500970009009701000009009701042009010010010011200100970001009700010099001000971010200801000095010300950007 (.a fun a18=>.l 4005 (.s 4 (ZE a18 (.type "zip") none [(.bool false),(.bool false),(.ref a12),(.ref a13)] #[]) (.l 10123009010080113008001030083007200601001006010000011099100100025001000250010002400100993001 (.g (.l 4009009700130097010000130097010420130100100500152005009700051013010000130095010300950012 (.a fun a22=>.l 4009 (.s 8 (ZE a22 (.type "zip") none [(.bool false),(.bool false),(.ref a12),(.ref a13)] #[]) (.l 10163013010080153012001430123011201001001010010000011099100100025001000250010002400100993001 (.g (.l 401300970017009700170097010000170097010420170100100900192009009700091017010000170095010300950016 (.a fun a26=>.l 4013 (.s 12 (ZE a26 (.type "zip") none [(.bool false),(.bool false),(.ref a12),(.ref a13)] #[]) (.l 501600011018109940193016001830163015201401001014010000011099100100025001000250010002400100993001 (.z [30,1,26] (rl [a15,3,t3,t7,t7]))))))))))))))))))))))))
theorem OB (w:World) (b:Bool) (RO:ZA) (n m p u:Nat) (h2:n % 2=1) (hd:n / 2=m) (h2b:m % 2=0) (h4:n / 4=p) (h3:p % 3=0):(Ze 289 n u 1 0 0).ok (wf w b) RO 800:=
 cB (fd289 _) (RV w b RO n m p u h2 hd h2b h4 h3) (by cases b<;>kernel_rfl)
noncomputable def RW (w:World) (b:Bool) (RO:ZA) (n m p u:Nat) (h2:n % 2=1) (hd:n / 2=m) (h2b:m % 2=0) (h4:n / 4=p) (h3:p % 3=1):CE (wf w b) RO []:=
 .l 101001001010000990389 (.t fun t2=>.k (ZG n u 2 t2 1) [] (ZK w b _ _ _ _ _ h2) fun ρ0=>.t fun t3=>.l 10100 (.t fun t5=>.k (ZM n u 2 t5 m) [] (Zw w b _ _ _ _ _ hd) fun ρ1=>.t fun t6=>.k (ZG m (ρ1 0) 2 t6 0) [] (ZK w b _ _ _ _ _ h2b) fun ρ2=>.t fun t7=>.l 620991100009911000099 (.t fun t12=>.k (ZM n u 4 t12 p) [] (Zy w b _ _ _ _ _ h4) fun ρ3=>.t fun t13=>.k (ZG p (ρ3 0) 3 t13 1) [] (Zx w b _ _ _ _ _ h3) fun ρ4=>.l 300200010099500300991100009601031001010000990180058101810008010430010099210001010104010101041007010000990003000500031005000300054001 (.a fun a12=>.a fun a13=>.a fun a14=>.l 7001 (.a fun a15=>.l 99 (.d (q:=(a14,⟨(.type "zip"),none,(.fields #[.none,(.bool false),(.bool false),(.ref a12),(.ref a13)]),#[]⟩)) 2 (YW _ _ _ _ _ _) (.l 1007300401008006300300053003 (.g (.l 400500970009009701000009009701042009010010010011200100970001009700010099001000971010200801000095010300950007 (.a fun a18=>.l 4005 (.s 4 (ZE a18 (.type "zip") none [(.bool false),(.bool false),(.ref a12),(.ref a13)] #[]) (.l 10123009010080113008001030083007200601001006010000011099100100025001000250010002400100993001 (.g (.l 4009009700130097010000130097010420130100100500152005009700051013010000130095010300950012 (.a fun a22=>.l 4009 (.s 8 (ZE a22 (.type "zip") none [(.bool false),(.bool false),(.ref a12),(.ref a13)] #[]) (.l 10163013010080153012001430123011201001001010010000011099100100025001000250010002400100993001 (.g (.l 50120001101410990097010420170100100900192009009700091017010000170095010300950016 (.z [22,1,26] (rl [a15,2,t3,t7])))))))))))))))))))))
theorem OC (w:World) (b:Bool) (RO:ZA) (n m p u:Nat) (h2:n % 2=1) (hd:n / 2=m) (h2b:m % 2=0) (h4:n / 4=p) (h3:p % 3=1):(Ze 289 n u 1 0 1).ok (wf w b) RO 800:=
 cB (fd289 _) (RW w b RO n m p u h2 hd h2b h4 h3) (by cases b<;>kernel_rfl)
noncomputable def RX (w:World) (b:Bool) (RO:ZA) (n m p u:Nat) (h2:n % 2=1) (hd:n / 2=m) (h2b:m % 2=0) (h4:n / 4=p) (h3:p % 3=2):CE (wf w b) RO []:=
 .l 101001001010000990389 (.t fun t2=>.k (ZG n u 2 t2 1) [] (ZK w b _ _ _ _ _ h2) fun ρ0=>.t fun t3=>.l 10100 (.t fun t5=>.k (ZM n u 2 t5 m) [] (Zw w b _ _ _ _ _ hd) fun ρ1=>.t fun t6=>.k (ZG m (ρ1 0) 2 t6 0) [] (ZK w b _ _ _ _ _ h2b) fun ρ2=>.t fun t7=>.l 620991100009911000099 (.t fun t12=>.k (ZM n u 4 t12 p) [] (Zy w b _ _ _ _ _ h4) fun ρ3=>.t fun t13=>.k (ZG p (ρ3 0) 3 t13 2) [] (Zx w b _ _ _ _ _ h3) fun ρ4=>.l 300200010099500300991100009601031001010000990180058101810008010430010099210001010104010101041007010000990002000500021005000200054001 (.a fun a12=>.a fun a13=>.a fun a14=>.l 7001 (.a fun a15=>.l 99 (.d (q:=(a14,⟨(.type "zip"),none,(.fields #[.none,(.bool false),(.bool false),(.ref a12),(.ref a13)]),#[]⟩)) 2 (YW _ _ _ _ _ _) (.l 1007300401008006300300053003 (.g (.l 400500970009009701000009009701042009010010010011200100970001009700010099001000971010200801000095010300950007 (.a fun a18=>.l 4005 (.s 4 (ZE a18 (.type "zip") none [(.bool false),(.bool false),(.ref a12),(.ref a13)] #[]) (.l 10123009010080113008001030083007200601001006010000011099100100025001000250010002400100993001 (.g (.l 4009009700130097010000130097010420130100100500152005009700051013010000130095010300950012 (.a fun a22=>.l 4009 (.s 8 (ZE a22 (.type "zip") none [(.bool false),(.bool false),(.ref a12),(.ref a13)] #[]) (.l 10163013010080153012001430123011201001001010010000011099100100025001000250010002400100993001 (.g (.l 501400011016109900011099100900192009009700091017010000170095010300950016 (.z [26,1,26] (rl [a15,2,t3,t7])))))))))))))))))))))
theorem OD (w:World) (b:Bool) (RO:ZA) (n m p u:Nat) (h2:n % 2=1) (hd:n / 2=m) (h2b:m % 2=0) (h4:n / 4=p) (h3:p % 3=2):(Ze 289 n u 1 0 2).ok (wf w b) RO 800:=
 cB (fd289 _) (RX w b RO n m p u h2 hd h2b h4 h3) (by cases b<;>kernel_rfl)
noncomputable def RY (w:World) (b:Bool) (RO:ZA) (n m p u:Nat) (h2:n % 2=1) (hd:n / 2=m) (h2b:m % 2=1) (h4:n / 4=p) (h3:p % 3=0):CE (wf w b) RO []:=
 .l 101001001010000990389 (.t fun t2=>.k (ZG n u 2 t2 1) [] (ZK w b _ _ _ _ _ h2) fun ρ0=>.t fun t3=>.l 10100 (.t fun t5=>.k (ZM n u 2 t5 m) [] (Zw w b _ _ _ _ _ hd) fun ρ1=>.t fun t6=>.k (ZG m (ρ1 0) 2 t6 1) [] (ZK w b _ _ _ _ _ h2b) fun ρ2=>.t fun t7=>.l 620991100009911000099 (.t fun t12=>.k (ZM n u 4 t12 p) [] (Zy w b _ _ _ _ _ h4) fun ρ3=>.t fun t13=>.k (ZG p (ρ3 0) 3 t13 0) [] (Zx w b _ _ _ _ _ h3) fun ρ4=>.l 300200010099500300991100009601031001010000990180058101810008010430010099210001010104010101041007010000990004000500041005000400054001 (.a fun a12=>.a fun a13=>.a fun a14=>.l 7001 (.a fun a15=>.l 99 (.d (q:=(a14,⟨(.type "zip"),none,(.fields #[.none,(.bool false),(.bool false),(.ref a12),(.ref a13)]),#[]⟩)) 2 (YW _ _ _ _ _ _) (.l 1007300401008006300300053003 (.g (.l 400500970009009701000009009701042009010010010011200100970001009700010099001000971010200801000095010300950007 (.a fun a18=>.l 4005 (.s 4 (ZE a18 (.type "zip") none [(.bool false),(.bool false),(.ref a12),(.ref a13)] #[]) (.l 10123009010080113008001030083007200601001006010000011099100100025001000250010002400100993001 (.g (.l 4009009700130097010000130097010420130100100500152005009700051013010000130095010300950012 (.a fun a22=>.l 4009 (.s 8 (ZE a22 (.type "zip") none [(.bool false),(.bool false),(.ref a12),(.ref a13)] #[]) (.l 10163013010080153012001430123011201001001010010000011099100100025001000250010002400100993001 (.g (.l 401300970017009700170097010000170097010420170100100900192009009700091017010000170095010300950016 (.a fun a26=>.l 4013 (.s 12 (ZE a26 (.type "zip") none [(.bool false),(.bool false),(.ref a12),(.ref a13)] #[]) (.l 501600011018109940193016001830163015201401001014010000011099100100025001000250010002400100993001 (.z [30,1,26] (rl [a15,3,t3,t7,t7]))))))))))))))))))))))))
theorem OF (w:World) (b:Bool) (RO:ZA) (n m p u:Nat) (h2:n % 2=1) (hd:n / 2=m) (h2b:m % 2=1) (h4:n / 4=p) (h3:p % 3=0):(Ze 289 n u 1 1 0).ok (wf w b) RO 800:=
 cB (fd289 _) (RY w b RO n m p u h2 hd h2b h4 h3) (by cases b<;>kernel_rfl)
noncomputable def RZ (w:World) (b:Bool) (RO:ZA) (n m p u:Nat) (h2:n % 2=1) (hd:n / 2=m) (h2b:m % 2=1) (h4:n / 4=p) (h3:p % 3=1):CE (wf w b) RO []:=
 .l 101001001010000990389 (.t fun t2=>.k (ZG n u 2 t2 1) [] (ZK w b _ _ _ _ _ h2) fun ρ0=>.t fun t3=>.l 10100 (.t fun t5=>.k (ZM n u 2 t5 m) [] (Zw w b _ _ _ _ _ hd) fun ρ1=>.t fun t6=>.k (ZG m (ρ1 0) 2 t6 1) [] (ZK w b _ _ _ _ _ h2b) fun ρ2=>.t fun t7=>.l 620991100009911000099 (.t fun t12=>.k (ZM n u 4 t12 p) [] (Zy w b _ _ _ _ _ h4) fun ρ3=>.t fun t13=>.k (ZG p (ρ3 0) 3 t13 1) [] (Zx w b _ _ _ _ _ h3) fun ρ4=>.l 300200010099500300991100009601031001010000990180058101810008010430010099210001010104010101041007010000990003000500031005000300054001 (.a fun a12=>.a fun a13=>.a fun a14=>.l 7001 (.a fun a15=>.l 99 (.d (q:=(a14,⟨(.type "zip"),none,(.fields #[.none,(.bool false),(.bool false),(.ref a12),(.ref a13)]),#[]⟩)) 2 (YW _ _ _ _ _ _) (.l 1007300401008006300300053003 (.g (.l 400500970009009701000009009701042009010010010011200100970001009700010099001000971010200801000095010300950007 (.a fun a18=>.l 4005 (.s 4 (ZE a18 (.type "zip") none [(.bool false),(.bool false),(.ref a12),(.ref a13)] #[]) (.l 10123009010080113008001030083007200601001006010000011099100100025001000250010002400100993001 (.g (.l 4009009700130097010000130097010420130100100500152005009700051013010000130095010300950012 (.a fun a22=>.l 4009 (.s 8 (ZE a22 (.type "zip") none [(.bool false),(.bool false),(.ref a12),(.ref a13)] #[]) (.l 10163013010080153012001430123011201001001010010000011099100100025001000250010002400100993001 (.g (.l 50120001101410990097010420170100100900192009009700091017010000170095010300950016 (.z [22,1,26] (rl [a15,2,t3,t7])))))))))))))))))))))
theorem OG (w:World) (b:Bool) (RO:ZA) (n m p u:Nat) (h2:n % 2=1) (hd:n / 2=m) (h2b:m % 2=1) (h4:n / 4=p) (h3:p % 3=1):(Ze 289 n u 1 1 1).ok (wf w b) RO 800:=
 cB (fd289 _) (RZ w b RO n m p u h2 hd h2b h4 h3) (by cases b<;>kernel_rfl)
noncomputable def Ra (w:World) (b:Bool) (RO:ZA) (n m p u:Nat) (h2:n % 2=1) (hd:n / 2=m) (h2b:m % 2=1) (h4:n / 4=p) (h3:p % 3=2):CE (wf w b) RO []:=
 .l 101001001010000990389 (.t fun t2=>.k (ZG n u 2 t2 1) [] (ZK w b _ _ _ _ _ h2) fun ρ0=>.t fun t3=>.l 10100 (.t fun t5=>.k (ZM n u 2 t5 m) [] (Zw w b _ _ _ _ _ hd) fun ρ1=>.t fun t6=>.k (ZG m (ρ1 0) 2 t6 1) [] (ZK w b _ _ _ _ _ h2b) fun ρ2=>.t fun t7=>.l 620991100009911000099 (.t fun t12=>.k (ZM n u 4 t12 p) [] (Zy w b _ _ _ _ _ h4) fun ρ3=>.t fun t13=>.k (ZG p (ρ3 0) 3 t13 2) [] (Zx w b _ _ _ _ _ h3) fun ρ4=>.l 300200010099500300991100009601031001010000990180058101810008010430010099210001010104010101041007010000990002000500021005000200054001 (.a fun a12=>.a fun a13=>.a fun a14=>.l 7001 (.a fun a15=>.l 99 (.d (q:=(a14,⟨(.type "zip"),none,(.fields #[.none,(.bool false),(.bool false),(.ref a12),(.ref a13)]),#[]⟩)) 2 (YW _ _ _ _ _ _) (.l 1007300401008006300300053003 (.g (.l 400500970009009701000009009701042009010010010011200100970001009700010099001000971010200801000095010300950007 (.a fun a18=>.l 4005 (.s 4 (ZE a18 (.type "zip") none [(.bool false),(.bool false),(.ref a12),(.ref a13)] #[]) (.l 10123009010080113008001030083007200601001006010000011099100100025001000250010002400100993001 (.g (.l 4009009700130097010000130097010420130100100500152005009700051013010000130095010300950012 (.a fun a22=>.l 4009 (.s 8 (ZE a22 (.type "zip") none [(.bool false),(.bool false),(.ref a12),(.ref a13)] #[]) (.l 10163013010080153012001430123011201001001010010000011099100100025001000250010002400100993001 (.g (.l 501400011016109900011099100900192009009700091017010000170095010300950016 (.z [26,1,26] (rl [a15,2,t3,t7])))))))))))))))))))))
theorem OH (w:World) (b:Bool) (RO:ZA) (n m p u:Nat) (h2:n % 2=1) (hd:n / 2=m) (h2b:m % 2=1) (h4:n / 4=p) (h3:p % 3=2):(Ze 289 n u 1 1 2).ok (wf w b) RO 800:=
 cB (fd289 _) (Ra w b RO n m p u h2 hd h2b h4 h3) (by cases b<;>kernel_rfl)
noncomputable def Wt (sc:Nat) (vs:List Value) (ep:Nat) (ns:List Nat):Con:={ code:=.call (.ref 284) ⟨[.ref sc],[]⟩,mem:=[(sc,ZB vs ep)],r:=fun ρ=>.ok (.ret (.ref (ρ 0))),upd:=fun _=>[ZB vs ep],new:=fun ρ=>[(ρ 0,ZB (Yv ns 2 ρ) (ρ 1))] }
noncomputable def F4 (f T t:Nat) (ss:List Nat):Con:={ code:=.call (.ref f) ⟨[.int (Int.ofNat T) t],[]⟩,mem:=[],r:=fun ρ=>.ok (.ret (.ref (ρ 0))),upd:=fun _=>[],new:=fun ρ=>[(ρ 0,ZB (Yv ss 2 ρ) (ρ 1))] }
end
section
open PySem PySem.W PySem.W.X PySem.Calls PyProof.Rows PySem.Spec
theorem ES (it l:Nat) (i:Nat) (x:Value) (k:Nat):Obj.mapFields (·.setIfInBounds k x) (Zb l i)=⟨.type "list_iterator",none,.fields (#[.ref l,.int i 0].setIfInBounds k x),#[]⟩:=rfl
theorem KA (it l:Addr) (i:Nat) (items:Array Value) (x:Value):Meets (Builtin.«list_iterator.__next__» ⟨[.ref it],[]⟩)
  (fun _ R s=>s.heap.get? it=some (Zb l i)∧s.heap.IsList l items∧items[i]?=some x∧R (.ok (.ret x)) { s with heap:=s.heap.update it (Obj.mapFields (·.setIfInBounds 1 (rawInt (i + 1)))) }):=
 .of_wp fun prog w A R s h=>by
  obtain ⟨ho,⟨ol,hol,_,nl,hdl⟩,hx,hr⟩:=h
  show wpAny _ _ (field (.ref it) 0 >>= _) _ _ s
  refine wpAny_bind (wpAny_field ho rfl (x:=.ref l) rfl ?_)
  show wpAny _ _ (if (Value.ref l == Value.none)=true then _ else _) _ _ s
  rw [if_neg (show ¬ ((Value.ref l == Value.none)=true) from Bool.false_ne_true)]
  show wpAny _ _ (field (.ref it) 1 >>= _) _ _ s
  refine wpAny_bind (wpAny_field ho rfl (x:=.int i 0) rfl ?_)
  show wpAny _ _ (seqItems? (.ref l) >>= _) _ _ s
  refine wpAny_bind (wpAny_seqItems hol hdl ?_)
  simp only [Int.toNat_natCast,hx]
  exact wpAny_bind (wpAny_setField ho rfl (by simp) (wpAny_pure ⟨x,rfl,hr⟩))
noncomputable def QI:Obj:=⟨.type "tuple",none,.seq #[] 0,#[]⟩
theorem KB (it l:Addr) (i:Nat) (items:Array Value):Meets (Builtin.«list_iterator.__next__» ⟨[.ref it],[]⟩)
  (fun A R s=>A.handled=none∧s.heap.get? it=some (Zb l i)∧s.heap.IsList l items∧items[i]?=none∧
   R (.error (.ref (((s.heap.update it (Obj.mapFields (·.setIfInBounds 0 .none))).push QI).objs.size))) { s with heap:=((s.heap.update it (Obj.mapFields (·.setIfInBounds 0 .none))).push QI).push (VC (s.heap.update it (Obj.mapFields (·.setIfInBounds 0 .none))).objs.size) }):=
 fun prog w A R s h=>by
  obtain ⟨hh,ho,⟨ol,hol,_,nl,hdl⟩,hx,hr⟩:=h
  show wpAny _ _ (field (.ref it) 0 >>= _) _ _ s
  refine wpAny_bind (wpAny_field ho rfl (x:=.ref l) rfl ?_)
  show wpAny _ _ (if (Value.ref l == Value.none)=true then _ else _) _ _ s
  rw [if_neg (show ¬ ((Value.ref l == Value.none)=true) from Bool.false_ne_true)]
  show wpAny _ _ (field (.ref it) 1 >>= _) _ _ s
  refine wpAny_bind (wpAny_field ho rfl (x:=.int i 0) rfl ?_)
  show wpAny _ _ (seqItems? (.ref l) >>= _) _ _ s
  refine wpAny_bind (wpAny_seqItems hol hdl ?_)
  simp only [Int.toNat_natCast,hx]
  refine wpAny_bind (wpAny_rule (wpAny_bind (wpAny_setField ho rfl (by simp) ?_)))
  show wpAny _ _ (newExc (.type "StopIteration") [] >>= _) _ _ _
  refine wpAny_bind ?_
  simp only [newExc,newTuple]
  refine wpAny_bind (wpAny_newObj_type ?_ (by size_fits))
  refine wpAny_bind (m:=firstArgMember _ _) (wpAny_of_eq (a:=Value.none) (by first | rfl | (simp only [firstArgMember]; rfl)) ?_)
  refine wpAny_newObj_type ?_ (by size_fits)
  simp only [raiseNew]
  refine wpAny_bind (wpAny_handled ?_)
  rw [show A.in1.handled=none from hh]
  exact wpAny_bind (wpAny_pure (wpAny_throw hr))
noncomputable def VO (it l:Nat) (vs:List Value) (ep i:Nat) (x:Value):Con:={ code:=.builtin "list_iterator.__next__" ⟨[.ref it],[]⟩,mem:=[(it,Zb l i)],r:=fun _=>.ok (.ret x),upd:=fun _=>[Zb l (i + 1:Nat)],new:=fun _=>[] }
noncomputable def KC (it l i:Nat):Con:={ code:=.call (.builtin "next") ⟨[.ref it],[]⟩,mem:=[(it,Zb l i)],r:=fun _=>.ok .next,upd:=fun _=>[⟨.type "list_iterator",none,.fields #[.none,.int i 0],#[]⟩],new:=fun _=>[] }
noncomputable def Th (it l:Nat) (vs:List Value) (ep i:Nat):Con:={ code:=.builtin "list_iterator.__next__" ⟨[.ref it],[]⟩,mem:=[(it,Zb l i)],r:=fun ρ=>.error (.ref (ρ 0)),upd:=fun _=>[⟨.type "list_iterator",none,.fields #[.none,.int i 0],#[]⟩],new:=fun ρ=>[(ρ 0,VC (ρ 1)),(ρ 1,QI)] }
noncomputable def Z8 (it l:Nat) (vs:List Value) (ep i:Nat) (x:Value):Con:={ VO it l vs ep i x with code:=.call (.builtin "list_iterator.__next__") ⟨[.ref it],[]⟩ }
noncomputable def Wc (it l:Nat) (vs:List Value) (ep i:Nat):Con:={ Th it l vs ep i with code:=.call (.builtin "list_iterator.__next__") ⟨[.ref it],[]⟩ }
theorem Gr (w:World) (b:Bool) (RO:ZA) (it l:Nat) (vs:List Value) (ep i:Nat) (x:Value) (hl:(l,ZB vs ep)∈RO) (hx:vs[i]?=some x):(VO it l vs ep i x).ok (wf w b) RO 975:=by
 refine ZD.of_meets rfl entry_listiter_next (KA it l i ⟨vs⟩ x) ?_
 intro h g d t os R ht hM hR
 refine ⟨hM.at_ _ (.head _),⟨_,hM.ro _ hl,rfl,ep,rfl⟩,by simpa using hx,?_⟩
 have f1:(Obj.mapFields (·.setIfInBounds 1 (rawInt (i + 1))) (Zb l i)).isFreed=false:=rfl
 have h1:=hM.update (i:=0) (f:=Obj.mapFields (·.setIfInBounds 1 (rawInt (i + 1)))) rfl f1
 have e1:=(Ext.refl (VO it l vs ep i x).mem h).update hM (i:=0) (f:=Obj.mapFields (·.setIfInBounds 1 (rawInt (i + 1)))) rfl
 exact hR _ _ _ _ _ ht ⟨fun _=>0,rfl,rfl,rfl⟩ h1 e1 (fun x=>x)
theorem Gs (w:World) (b:Bool) (RO:ZA) (it l:Nat) (vs:List Value) (ep i:Nat) (hl:(l,ZB vs ep)∈RO) (hx:vs[i]?=none):(Th it l vs ep i).ok (wf w b) RO 975:=by
 refine ZD.of_meets rfl entry_listiter_next (KB it l i ⟨vs⟩) ?_
 intro h g d t os R ht hM hR
 refine ⟨rfl,hM.at_ _ (.head _),⟨_,hM.ro _ hl,rfl,ep,rfl⟩,by simpa using hx,?_⟩
 have f1:(Obj.mapFields (·.setIfInBounds 0 .none) (Zb l i)).isFreed=false:=rfl
 have h1:=hM.update (i:=0) (f:=Obj.mapFields (·.setIfInBounds 0 .none)) rfl f1
 have e1:=(Ext.refl (Th it l vs ep i).mem h).update hM (i:=0) (f:=Obj.mapFields (·.setIfInBounds 0 .none)) rfl
 have h2:=h1.alloc (o:=QI) rfl
 have e2:=e1.alloc QI
 have h3:=h2.alloc (o:=VC (h.update it (Obj.mapFields (·.setIfInBounds 0 .none))).objs.size) rfl
 have e3:=e2.alloc (VC (h.update it (Obj.mapFields (·.setIfInBounds 0 .none))).objs.size)
 exact hR _ _ _ _ _ ht ⟨rl [_,_],rfl,rfl,rfl⟩ h3 e3 (fun x=>x)
end
section
open PySem PySem.W
theorem YE (w:World) (b:Bool) (RO:ZA) (it l:Nat) (vs:List Value) (ep i:Nat) (x:Value) (hl:(l,ZB vs ep)∈RO) (hx:vs[i]?=some x):(Z8 it l vs ep i x).ok (wf w b) RO 965:=
 cR (.l 1 (.i (VO it l vs ep i x) [0] (Gr w b _ _ _ _ _ _ _ hl hx) [] (fun ρ0=>(fun _=>0)))) (by kernel_rfl)
theorem W2 (w:World) (b:Bool) (RO:ZA) (it l:Nat) (vs:List Value) (ep i:Nat) (hl:(l,ZB vs ep)∈RO) (hx:vs[i]?=none):(Wc it l vs ep i).ok (wf w b) RO 965:=
 cR (.l 1 (.i (Th it l vs ep i) [0] (Gs w b _ _ _ _ _ _ hl hx) [] (fun ρ0=>(rl [ρ0 0,ρ0 1])))) (by kernel_rfl)
theorem Gt (w:World) (b:Bool) (RO:ZA) (it l:Nat) (vs:List Value) (ep i:Nat) (x:Value) (hl:(l,ZB vs ep)∈RO) (hx:vs[i]?=some x):Zd (wf w b) RO 955 (Vc (.ref it)) (VO it l vs ep i x).mem (VO it l vs ep i x).post:=
 Zd.of (.l 1 (.k (Z8 it l vs ep i x) [0] (YE w b _ _ _ _ _ _ _ hl hx) fun ρ0=>.z [] (fun _=>0))) (fun _=>(by kernel_rfl))
theorem Gu (w:World) (b:Bool) (RO:ZA) (it l:Nat) (vs:List Value) (ep i:Nat) (hl:(l,ZB vs ep)∈RO) (hx:vs[i]?=none):Zd (wf w b) RO 955 (Vc (.ref it)) (KC it l i).mem (KC it l i).post:=
 Zd.of (.l 1 (.k (Wc it l vs ep i) [0] (W2 w b _ _ _ _ _ _ hl hx) fun ρ0=>.l 1 (.z [2] (fun _=>0)))) (fun _=>(by kernel_rfl))
end
section
open PySem PySem.W PySem.W.X PySem.Calls PyProof.Rows PySem.Spec
theorem Oe {α:Type} {A:Around} {c:Code} {m:Sem α} {f:Value→Sem α} {Q:α→Shared→Prop} {E:Value→Shared→Prop} {s:Shared}
  (x:wpOwn (model PP w) A c m Q (fun _ _=>False) s):wpOwn (model PP w) A c (tryCatch m f) Q E s:=by
 intro Γ p hc hΓ
 rw [Sem.wp_tryCatch']
 exact Sem.wp_mono _ Γ m (fun _ _ _ h=>h) (fun _ _ _ h=>h.elim) p s (x Γ p hc hΓ)
noncomputable def Us (it S:Nat):Code:=.builtin "sum.loop" ⟨[.ref it,.ref S,rawInt 0,rawInt 0],[]⟩
noncomputable def Vy:List Int→Int
 | []=>0
 | n::ns=>n + Vy ns
theorem Of:∀ {xs:List Int},(∀ x∈xs,0≤x)→0≤Vy xs
 | [],_=>Int.le_refl 0
 | _::_,h=>Int.add_nonneg (h _ (.head _)) (Of fun x hx=>h x (.tail _ hx))
theorem Gv {n:Int} (h0:0≤n) (h:n < 1000000000000000000):InLong n:=⟨by omega,by omega⟩
theorem Og (w:World) (b:Bool) (RO:ZA) (it S l:Nat) (vs:List Value) (ep:Nat) (T:Int) (hl:(l,ZB vs ep)∈RO) (hT:T < 1000000000000000000) :
  ∀ (ns:List Int) (i:Nat) (a:Int) (tA c:Nat),(∀ x∈ns,0≤x)→0≤a→a + Vy ns=T→(∀ (j:Nat) (n:Int),ns[j]?=some n→∃ t,vs[i + j]?=some (.int n t))→vs[i + ns.length]?=none→
  ZD (wf w b) RO 950 (Us it S) [(it,Zb l i),(S,ZB [.int a tA] c)] (fun r M'=>∃ t',r = .ok (.ret (.int T t'))∧M'=[])
 | [],i,a,tA,c,_,_,ha,_,hn=>by
  intro h g d tk os R ht hM hR
  refine y_code _ _ _ _ _ _ ?_
  show wpOwn _ _ (Us it S) (denote table (Us it S)) _ _ _
  rw [show denote table (Us it S)=Builtin.«sum.loop» ⟨[.ref it,.ref S,rawInt 0,rawInt 0],[]⟩ from Xn F.entry_sum_loop _]
  show wpOwn _ _ _ (seqItems? (.ref S) >>= _) _ _ _
  refine wpOwn_bind (wpOwn_of_wpAny (wpAny_seqItems (hM.at_ (S,_) (.tail _ (.head _))) rfl ?_))
  show wpOwn _ _ _ (tryCatch (pyNext (.ref it)) _ >>= _) _ _ _
  refine wpOwn_bind (Oe (Zd.next (Gu w b RO it l vs ep i hl hn) (by decide) (X0 (by decide +kernel)) ht (hM.sub (sub:=[0]) (ro:=[]) rfl rfl rfl rfl) fun r M' h' g' t' ht' k hM' hE' hB'=>?_))
  obtain ⟨ρ,rfl,rfl,hq⟩:=k
  have e1:=hM.called (sub:=[0]) (ro₁:=[]) (NR:=[]) (N:=[]) rfl hq hM' hE'
  have e2:=(Ext.refl [(it,Zb l i),(S,ZB [.int a tA] c)] h).called (sub:=[0]) (NR:=[]) (N:=[]) rfl hq hM' hE'
  show wpOwn _ _ _ (ret (.int a tA)) _ _ _
  have:a=T:=by rw [← ha]; exact (Int.add_zero a).symm
  subst this
  exact y_pure _ _ _ _ _ _ _ _ _ (hR _ [] _ _ _ ht' ⟨tA,rfl,rfl⟩ (e1.mask []) (e2.mask []) hB')
 | n::ns,i,a,tA,c,hp,h0,ha,hv,hn=>by
  intro h g d tk os R ht hM hR
  obtain ⟨tv,hx⟩:=hv 0 n rfl
  refine y_code _ _ _ _ _ _ ?_
  show wpOwn _ _ (Us it S) (denote table (Us it S)) _ _ _
  rw [show denote table (Us it S)=Builtin.«sum.loop» ⟨[.ref it,.ref S,rawInt 0,rawInt 0],[]⟩ from Xn F.entry_sum_loop _]
  show wpOwn _ _ _ (seqItems? (.ref S) >>= _) _ _ _
  refine wpOwn_bind (wpOwn_of_wpAny (wpAny_seqItems (hM.at_ (S,_) (.tail _ (.head _))) rfl ?_))
  show wpOwn _ _ _ (tryCatch (pyNext (.ref it)) _ >>= _) _ _ _
  refine wpOwn_bind (Oe (Zd.next (Gt w b RO it l vs ep i _ hl hx) (by decide) (X0 (by decide +kernel)) ht (hM.sub (sub:=[0]) (ro:=[]) rfl rfl rfl rfl) fun r M' h' g' t' ht' k hM' hE' hB'=>?_))
  obtain ⟨ρ,rfl,rfl,hq⟩:=k
  have e1:=hM.called (sub:=[0]) (ro₁:=[]) (NR:=[]) (N:=[]) rfl hq hM' hE'
  have e2:=(Ext.refl [(it,Zb l i),(S,ZB [.int a tA] c)] h).called (sub:=[0]) (NR:=[]) (N:=[]) rfl hq hM' hE'
  have hs:a + n + Vy ns=T:=by rw [← ha,Int.add_assoc]; rfl
  have hc:((decide (-(2 ^ 63)≤n) && decide (n < 2 ^ 63)) && (decide (-(2 ^ 63)≤a + n) && decide (a + n < 2 ^ 63)))=true:=by
   have p1:=hp n (.head _)
   have p2:=Of fun x hx=>hp x (.tail _ hx)
   obtain ⟨f1,f2⟩:=Gv (n:=n) p1 (by omega)
   obtain ⟨f3,f4⟩:=Gv (n:=a + n) (by omega) (by omega)
   simp only [Bool.and_eq_true,decide_eq_true_eq]
   exact ⟨⟨f1,f2⟩,f3,f4⟩
  show wpOwn _ _ _ (if (_:Bool)=true then (mkInt (a + n) >>= _) else _) _ _ _
  split
  ·refine wpOwn_bind (wpOwn_of_wpAny (wpAny_mkInt ?_))
   show wpOwn _ _ _ (updateSeq S (fun _=>#[.int (a + n) t']) >>= _) _ _ _
   have ho:h'.get? S=some (ZB [.int a tA] c):=e1.at_ (S,_) (.tail _ (.head _))
   refine wpOwn_bind (wpOwn_of_wpAny (wpAny_updateSeq ho rfl ?_))
   have f1:(Obj.mapSeq (fun _=>#[.int (a + n) t']) (ZB [.int a tA] c)).isFreed=false:=rfl
   have h1:=e1.update (i:=1) (f:=Obj.mapSeq fun _=>#[.int (a + n) t']) rfl f1
   have x1:=e2.update e1 (i:=1) (f:=Obj.mapSeq fun _=>#[.int (a + n) t']) rfl
   refine y_pure _ _ _ _ _ _ _ _ _ (y_again _ _ _ _ _ _ (plainId_quiet F.plain_sum_loop _) ?_)
   refine Og w b RO it S l vs ep T hl hT ns (i + 1) (a + n) t' c (fun x hx=>hp x (.tail _ hx)) (Int.add_nonneg h0 (hp n (.head _))) hs (fun j m e=>?_) ?_ _ _ _ _ _ _ (Nat.succ_pos _) h1 fun r M'' h'' g'' t'' ht'' k'' hM'' hE'' hB''=>?_
   ·obtain ⟨t,e'⟩:=hv (j + 1) m e
    exact ⟨t,by rw [← e']; congr 1; omega⟩
   ·rw [← hn]; congr 1; simp only [List.length_cons]; omega
   ·exact hR _ _ _ _ _ ht'' k'' hM'' ⟨fun p o ea na=>hE''.keep p o (x1.keep p o ea na) na,fun p hp=>by
     rcases hE''.fresh p hp with y | y
     ·exact .inl y
     ·exact .inr (Nat.le_trans x1.size y),Nat.le_trans x1.size hE''.size⟩ fun x=>hB'' (hB' x)
  ·rename_i hneg
   exact absurd hc hneg
noncomputable def SS (l:Nat) (vs:List Value) (ep:Nat) (T:Int):Con:={ code:=.builtin "sum" ⟨[.ref l],[]⟩,mem:=[(l,ZB vs ep)],r:=fun ρ=>.ok (.ret (.int T (ρ 0))),upd:=fun _=>[ZB vs ep],new:=fun _=>[] }
noncomputable def WC (l:Nat) (vs:List Value) (ep:Nat) (T:Int):Con:={ SS l vs ep T with code:=.call (.builtin "sum") ⟨[.ref l],[]⟩ }
theorem HX (w:World) (b:Bool) (RO:ZA) (l:Nat) (vs:List Value) (ep:Nat) (T:Int) (ns:List Int) (hp:∀ x∈ns,0≤x) (hs:Vy ns=T) (hT:T < 1000000000000000000) (hv:∀ (j:Nat) (n:Int),ns[j]?=some n→∃ t,vs[j]?=some (.int n t)) (hn:vs[ns.length]?=none) :
  (SS l vs ep T).ok (wf w b) RO 950:=by
 intro h g d tk os R ht hM hR
 have hls:h.IsList l ⟨vs⟩:=⟨_,hM.at_ _ (.head _),rfl,ep,rfl⟩
 refine codeAny_builtin F.entry_sum ?_
 unfold Builtin.«sum»
 simp only [List.length_cons,List.length_nil]
 rw [if_neg (by decide)]
 refine wpAny_bind (wpAny_of_eq (show Builtin.Builtins.bindParams "sum" ["start"] 0 { }=pure [none] from rfl) ?_)
 refine wpAny_bind (wpAny_pyIter_list (s:=⟨h,g,d,tk,os⟩) hls ?_)
 refine wpAny_bind (wpAny_mkInt ?_)
 refine wpAny_bind (wpAny_pure ?_)
 simp only [List.forIn_cons,List.forIn_nil]
 refine wpAny_bind (wpAny_bind (wpAny_bind (wpAny_isInstance (T:="int") (b:=false) (typeIs_int _ _ _) PySem.sub_int_str ?_)))
 simp only [Bool.false_eq_true,if_false]
 refine wpAny_pure (wpAny_bind (wpAny_bind (wpAny_isInstance (T:="int") (b:=false) (typeIs_int _ _ _) PySem.sub_int_bytes ?_)))
 simp only [Bool.false_eq_true,if_false]
 refine wpAny_pure (wpAny_bind (wpAny_bind (wpAny_isInstance (T:="int") (b:=false) (typeIs_int _ _ _) PySem.sub_int_bytearray ?_)))
 simp only [Bool.false_eq_true,if_false]
 refine wpAny_pure (wpAny_pure ?_)
 refine wpAny_bind (wpAny_newObj_type ?_)
 refine wpAny_pure ⟨plainId_quiet F.plain_sum_loop _,?_⟩
 have h0:Holds (wf w b).params ((l,ZB vs ep)::RO) [] h:=hM.sub (sub:=[]) (ro:=[0]) rfl rfl rfl rfl
 have h1:=h0.alloc (o:=Zb l 0) rfl
 have e1:=(Ext.refl [] h).alloc (Zb l 0)
 have h2:=h1.alloc (o:=ZB [.int 0 tk] 0) rfl
 have e2:=e1.alloc (ZB [.int 0 tk] 0)
 have h3:=h2.sub (sub:=[1,0]) (ro:=[]) rfl rfl rfl rfl
 refine Og w b ([]++(l,ZB vs ep)::RO) h.objs.size (h.push (Zb l 0)).objs.size l vs ep T (.head _) hT ns 0 0 tk 0 hp (Int.le_refl 0) (by rw [Int.zero_add]; exact hs) (fun j n e=>by rw [Nat.zero_add]; exact hv j n e) (by rw [Nat.zero_add]; exact hn) _ _ _ _ _ _ (Nat.succ_pos _) h3 fun r M' h' g' t' ht' k hM' hE' hB'=>?_
 obtain ⟨t1,rfl,rfl⟩:=k
 have ex:Ext [] h [] h':=⟨fun a o ea _=>hE'.keep a o (e2.keep a o ea (fun x=>nomatch x)) (fun x=>by
  have lt:=Heap.lt_size ea
  rcases List.mem_cons.mp x with y | y
  ·have y':a=h.objs.size:=y
   exact absurd lt (by rw [y']; exact Nat.lt_irrefl _)
  ·rcases List.mem_cons.mp y with y | y
   ·have z:=e1.size
    have y':a=(h.push (Zb l 0)).objs.size:=y
    exact absurd (Nat.lt_of_lt_of_le lt z) (by rw [y']; exact Nat.lt_irrefl _)
   ·exact nomatch y),fun p hp=>(nomatch hp),Nat.le_trans e2.size hE'.size⟩
 have m1:=hM.called (sub:=[]) (ro₁:=[(l,ZB vs ep)]) (NR:=[]) (N:=[]) (us:=[]) rfl rfl hM' ex
 have x1:=(Ext.refl [(l,ZB vs ep)] h).called (sub:=[]) (NR:=[]) (N:=[]) (us:=[]) rfl rfl hM' ex
 exact hR _ _ _ _ _ ht' ⟨rl [t1],rfl,rfl,rfl⟩ m1 x1 hB'
end
section
open PySem PySem.W
theorem KD (w:World) (b:Bool) (RO:ZA) (l:Nat) (vs:List Value) (ep:Nat) (T:Int) (ns:List Int) (hp:∀ x∈ns,0≤x) (hs:Vy ns=T) (hT:T < 1000000000000000000) (hv:∀ (j:Nat) (n:Int),ns[j]?=some n→∃ t,vs[j]?=some (.int n t)) (hn:vs[ns.length]?=none):(WC l vs ep T).ok (wf w b) RO 940:=
 cR (.i (SS l vs ep T) [0] (HX w b _ _ _ _ _ ns hp hs hT hv hn) [] (fun ρ0=>(rl [ρ0 0]))) (by kernel_rfl)
end
section
open PySem PySem.W PySem.W.X PySem.Calls PyProof.Rows PySem.Spec PySem.Builtin PySem.Builtin.Str
theorem OI {n k:Nat} (h:n % 6 + 6 * (n / 6 % 2)=k):n % 6=k % 6∧n / 6 % 2=k / 6:=by omega
theorem YX (w:World) (b:Bool) (RO:ZA) (n u k:Nat) (h:n % 6 + 6 * (n / 6 % 2)=k):(Zi n u k).ok (wf w b) RO 800:=
 Rz (P:=fun k=>n % 6=k % 6∧n / 6 % 2=k / 6→(Zi n u k).ok (wf w b) RO 800) ⟨fun h=>Lq w b RO n _ u h.1 rfl h.2,fun h=>Lr w b RO n _ u h.1 rfl h.2,fun h=>Ls w b RO n _ u h.1 rfl h.2,fun h=>Lt w b RO n _ u h.1 rfl h.2,fun h=>Lu w b RO n _ u h.1 rfl h.2,fun h=>Lv w b RO n _ u h.1 rfl h.2,fun h=>Lw w b RO n _ u h.1 rfl h.2,fun h=>Lx w b RO n _ u h.1 rfl h.2,fun h=>Ly w b RO n _ u h.1 rfl h.2,fun h=>Lz w b RO n _ u h.1 rfl h.2,fun h=>MP w b RO n _ u h.1 rfl h.2,fun h=>MQ w b RO n _ u h.1 rfl h.2⟩ k (by omega) (OI h)
theorem Y2 (w:World) (b:Bool) (RO:ZA) (k q u0 u1 u2:Nat) (hk:k < 12) (hq:q < 2):(ZR k q u0 u1 u2).ok (wf w b) RO 800:=by
 rw [← Fd w]
 cases w.params.followText "fstring-hands-on-the-str" with
 | false=>match q,hq with
  | 0,_=>exact Rz (P:=fun k=>(ZR k 0 u0 u1 u2).ok (wf (wg w false) b) RO 800) ⟨TG w b RO u0 u1 u2,TI w b RO u0 u1 u2,TK w b RO u0 u1 u2,TM w b RO u0 u1 u2,TO w b RO u0 u1 u2,TQ w b RO u0 u1 u2,TT w b RO u0 u1 u2,TV w b RO u0 u1 u2,TX w b RO u0 u1 u2,TZ w b RO u0 u1 u2,Uo w b RO u0 u1 u2,Uq w b RO u0 u1 u2⟩ k hk
  | 1,_=>exact Rz (P:=fun k=>(ZR k 1 u0 u1 u2).ok (wf (wg w false) b) RO 800) ⟨TH w b RO u0 u1 u2,TJ w b RO u0 u1 u2,TL w b RO u0 u1 u2,TN w b RO u0 u1 u2,TP w b RO u0 u1 u2,TR w b RO u0 u1 u2,TU w b RO u0 u1 u2,TW w b RO u0 u1 u2,TY w b RO u0 u1 u2,Ta w b RO u0 u1 u2,Up w b RO u0 u1 u2,Ur w b RO u0 u1 u2⟩ k hk
 | true=>match q,hq with
  | 0,_=>exact Rz (P:=fun k=>(ZR k 0 u0 u1 u2).ok (wf (wg w true) b) RO 800) ⟨Ty w b RO u0 u1 u2,T9 w b RO u0 u1 u2,SB w b RO u0 u1 u2,SD w b RO u0 u1 u2,SF w b RO u0 u1 u2,SH w b RO u0 u1 u2,SJ w b RO u0 u1 u2,SM w b RO u0 u1 u2,SO w b RO u0 u1 u2,SQ w b RO u0 u1 u2,Tb w b RO u0 u1 u2,Td w b RO u0 u1 u2⟩ k hk
  | 1,_=>exact Rz (P:=fun k=>(ZR k 1 u0 u1 u2).ok (wf (wg w true) b) RO 800) ⟨Tz w b RO u0 u1 u2,SA w b RO u0 u1 u2,SC w b RO u0 u1 u2,SE w b RO u0 u1 u2,SG w b RO u0 u1 u2,SI w b RO u0 u1 u2,SK w b RO u0 u1 u2,SN w b RO u0 u1 u2,SP w b RO u0 u1 u2,SR w b RO u0 u1 u2,Tc w b RO u0 u1 u2,Te w b RO u0 u1 u2⟩ k hk
noncomputable def Ut (l m:List Nat) (t u:Nat):Con:={ code:=.builtin "str.__add__" ⟨[.str ⟨⟨l⟩⟩ t,.str ⟨⟨m⟩⟩ u],[]⟩,mem:=[],r:=fun ρ=>.ok (.ret (.str ⟨⟨l++m⟩⟩ (ρ 0))),upd:=fun _=>[],new:=fun _=>[] }
noncomputable def Yi (l m:List Nat) (t u:Nat):Con:={ Ut l m t u with code:=.call (.builtin "str.__add__") ⟨[.str ⟨⟨l⟩⟩ t,.str ⟨⟨m⟩⟩ u],[]⟩ }
theorem IA (w:World) (b:Bool) (RO:ZA) (l m:List Nat) (t u:Nat) (hl:l≠[]) (hm:m≠[]) (hz:l.length + m.length≤1000):(Ut l m t u).ok (wf w b) RO 975:=by
 have g:=gives_str_add ⟨⟨l⟩⟩ ⟨⟨m⟩⟩ t u
 have e1:((⟨⟨l⟩⟩:PySem.Str).length == 0)=false:=by cases l with | nil=>exact absurd rfl hl | cons a l=>rfl
 have e2:((⟨⟨m⟩⟩:PySem.Str).length == 0)=false:=by cases m with | nil=>exact absurd rfl hm | cons a l=>rfl
 rw [e1,e2] at g
 have e:(⟨⟨l⟩⟩:PySem.Str)++⟨⟨m⟩⟩=⟨⟨l++m⟩⟩:=by
  show PySem.Str.mk ((⟨l⟩:Array Nat)++⟨m⟩)=_
  simp
 simp only [Bool.false_eq_true,if_false] at g
 rw [e] at g
 refine ZD.of_meets rfl PyProof.Rows.entry_str_add (S:=fun A R s'=>(Made.str ⟨⟨l++m⟩⟩).post (fun v s'=>R (.ok (.ret v)) s') s') g ?_
 intro hp g' d tk os R ht hM hR
 refine ⟨Nat.le_trans (show (l++m).length≤1000 by rw [List.length_append]; exact hz) (by rw [sizeLine_eq]; decide),?_⟩
 exact hR _ _ _ _ _ (Nat.succ_pos _) ⟨rl [tk],rfl,rfl,rfl⟩ hM (Ext.refl _ hp) (fun x=>x)
theorem Oh:∀ k,k < 12→∀ q,q < 2→0 < (ZZ k q).length∧(ZZ k q).length≤10:=by decide +kernel
noncomputable def Uu (a t:Nat) (vs:List Value) (ep:Nat) (T:PySem.Str):Con:={ code:=.builtin "str.join" ⟨[.str ⟨#[]⟩ t,.ref a],[]⟩,mem:=[(a,ZB vs ep)],r:=fun ρ=>.ok (.ret (.str T (ρ 0))),upd:=fun _=>[ZB vs ep],new:=fun _=>[] }
noncomputable def VP (a t:Nat) (vs:List Value) (ep:Nat) (T:PySem.Str):Con:={ Uu a t vs ep T with code:=.call (.builtin "str.join") ⟨[.str ⟨#[]⟩ t,.ref a],[]⟩ }
theorem IB (w:World) (b:Bool) (RO:ZA) (a t:Nat) (vs:List Value) (ep:Nat) (T:PySem.Str) (l:List (PySem.Str × Tok)) (hv:vs=strValues l) (h2:2≤l.length) (hT:glued ⟨#[]⟩ (l.map (·.1))=T) (hl:Builtin.Str.tooLong ((l.map (·.1)).toArray.foldl (fun (a:Nat) (p:PySem.Str)=>a + p.length + (⟨#[]⟩:PySem.Str).length) 0)=false) (hz:T.length≤1000):(Uu a t vs ep T).ok (wf w b) RO 975:=by
 have g:=meets_str_join_list ⟨#[]⟩ t a l hl
 have en:=PySem.F.entry_str_join
 refine ZD.of_meets (id:="str.join") (args:=⟨[.str ⟨#[]⟩ t,.ref a],[]⟩) (M:=[(a,ZB vs ep)]) rfl en g ?_
 intro hp g' d tk os R ht hM hR
 subst hv
 refine ⟨⟨_,hM.at_ _ (.head _),rfl,ep,rfl⟩,?_⟩
 obtain ⟨p,q,l',rfl⟩:∃ p q l',l=p::q::l':=by
  cases l with
  | nil=>exact absurd h2 (by decide)
  | cons p l=>cases l with
   | nil=>exact absurd h2 (by simp)
   | cons q l=>exact ⟨_,_,_,rfl⟩
 rw [show joinMade ⟨#[]⟩ (p::q::l') = .str (glued ⟨#[]⟩ ((p::q::l').map (·.1))) from rfl,hT]
 refine ⟨Nat.le_trans hz (by rw [sizeLine_eq]; decide),?_⟩
 exact hR _ _ _ _ _ (Nat.succ_pos _) ⟨rl [tk],rfl,rfl,rfl⟩ hM (Ext.refl _ hp) (fun x=>x)
end
section
open PySem PySem.W
theorem HY (w:World) (b:Bool) (RO:ZA) (l m:List Nat) (t u:Nat) (hl:l≠[]) (hm:m≠[]) (hz:l.length + m.length≤1000):(Yi l m t u).ok (wf w b) RO 965:=
 cR (.i (Ut l m t u) [] (IA w b _ _ _ _ _ hl hm hz) [] (fun ρ0=>(rl [ρ0 0]))) (by kernel_rfl)
theorem HZ (w:World) (b:Bool) (RO:ZA) (a t:Nat) (vs:List Value) (ep:Nat) (T:PySem.Str) (l:List (PySem.Str × Tok)) (hv:vs=PySem.strValues l) (h2:2≤l.length) (hT:PySem.Builtin.Str.glued ⟨#[]⟩ (l.map (·.1))=T) (hl:PySem.Builtin.Str.tooLong ((l.map (·.1)).toArray.foldl (fun (a:Nat) (p:PySem.Str)=>a + p.length + (⟨#[]⟩:PySem.Str).length) 0)=false) (hz:T.length≤1000):(VP a t vs ep T).ok (wf w b) RO 965:=
 cR (.i (Uu a t vs ep T) [0] (IB w b _ _ _ _ _ _ l hv h2 hT hl hz) [] (fun ρ0=>(rl [ρ0 0]))) (by kernel_rfl)
end
section
open PySem PySem.W PySem.W.X PySem.Calls PyProof.Rows PySem.Spec
theorem ZD.more {w:World} {RO RO':ZA} {D:Nat} {c:Code} {M:ZA} {K:Result→ZA→Prop} (x:ZD w RO D c M K) (hs:∀ p∈RO,p∈RO'):ZD w RO' D c M K:=by
 intro h g d t os R ht hM hR
 refine x h g d t os R ht (hM.ro_less hs) fun r M' h' g' t' ht' k hM' hE' hB'=>hR r M' h' g' t' ht' k ⟨hM'.base,fun p hp=>?_,hM'.at_,hM'.nd,hM'.offB,fun q hq=>?_⟩ hE' hB'
 ·refine hE'.keep p.1 p.2 (hM.ro p hp) fun hk=>?_
  obtain ⟨q,hq,e⟩:=List.mem_map.mp hk
  exact hM.offR q hq (e▸List.mem_map_of_mem hp)
 ·intro hk
  obtain ⟨p,hp,e⟩:=List.mem_map.mp hk
  rcases hE'.fresh q hq with y | y
  ·obtain ⟨q',hq',e'⟩:=List.mem_map.mp y
   exact hM.offR q' hq' (e'.trans e.symm▸List.mem_map_of_mem hp)
  ·have lt:=Heap.lt_size (hM.ro p hp)
   have e2:p.1=q.1:=e
   rw [e2] at lt
   exact absurd lt (Nat.not_lt.mpr y)
structure LS where
 ln:Int
 lt:Nat
 ep:Nat
 gs:List Value
 eg:Nat
noncomputable def LS.next (S:LS) (cs:List Nat) (nl:Bool) (ρ:Nat→Nat):LS:=⟨match nl with | true=>S.ln + 1 | false=>S.ln,match nl with | true=>ρ 1 | false=>S.lt,S.ep,TD ρ 10 cs S.gs,ρ 2⟩
noncomputable def SU (w:World) (z:Nat→Nat) (S:LS):ZA:=Wj w z S.ln S.lt [] S.ep S.gs S.eg
noncomputable def Zk (w:World) (z:Nat→Nat) (S:LS) (cs:List Nat) (s:Str) (nl:Bool):Con:=
 {code:=.call (.ref 108) ⟨[.ref (z 30)],[]⟩,mem:=SU w z S,r:=fun ρ=>.ok (.ret (.str s (ρ 0))),upd:=fun ρ=>(SU w z (S.next cs nl ρ)).map (·.2),new:=fun _=>[] }
theorem YY {w:World} {b:Bool} {RO RO':ZA} {z:Nat→Nat} {S:LS} {cs:List Nat} {s:Str} {nl:Bool} (x:(YK w z S.ln S.lt S.ep S.gs S.eg cs s nl).ok (wf w b) RO 700) (h:∀ p∈RO,p∈RO'):(Zk w z S cs s nl).ok (wf w b) RO' 700:=ZD.more x h
structure Rem (T:Str) (S:LS) (l:List Nat):Prop where
 drop:T.cps.toList.drop S.gs.length=l
 pos:S.gs.length≤T.cps.toList.length
 one:1 < T.cps.toList.length
 big:T.cps.toList.length≤1000
 chs:∀ d∈T.cps.toList,d∈chs
theorem Sj (ρ:Nat→Nat):∀ (cs:List Nat) (i:Nat) (gs:List Value),(TD ρ i cs gs).length=gs.length + cs.length
 | [],_,_=>rfl
 | c::cs,i,gs=>by
  show (TD ρ (i + 1) cs (gs++[.str ⟨#[c]⟩ (ρ i)])).length=_
  rw [Sj ρ cs,List.length_append]
  simp only [List.length_cons,List.length_nil]
  omega
theorem Rem.len {T:Str} {S:LS} {l:List Nat} (h:Rem T S l):S.gs.length + l.length=T.cps.toList.length:=by
 have e:=congrArg List.length h.drop
 rw [List.length_drop] at e
 have:=h.pos
 omega
theorem Rem.next {T:Str} {S:LS} {cs l:List Nat} (h:Rem T S (cs++l)) (nl:Bool) (ρ:Nat→Nat):Rem T (S.next cs nl ρ) l:=by
 have e:(S.next cs nl ρ).gs.length=S.gs.length + cs.length:=Sj ρ cs 10 S.gs
 have hl:=h.len
 rw [List.length_append] at hl
 exact ⟨by rw [e,← List.drop_drop,h.drop,List.drop_left],by rw [e]; omega,h.one,h.big,h.chs⟩
theorem Rem.at {T:Str} {S:LS} {l:List Nat} (h:Rem T S l) (i:Nat) (c:Option Nat) (hi:i≤l.length) (e:l[i]?=c):at1 T (S.gs.length + i) c:=by
 have hl:=h.len
 have hd:T.cps.toList.drop (S.gs.length + i)=l.drop i:=by rw [← List.drop_drop,h.drop]
 refine ⟨?_,?_,h.one,?_,fun d hdc=>?_⟩
 ·show (⟨((T.cps.toList.drop (S.gs.length + i)).take 1).toArray⟩:Str)=got c
  rw [hd]
  cases c with
  | none=>
   have:l.length≤i:=List.getElem?_eq_none_iff.mp e
   rw [List.drop_eq_nil_of_le this]
   rfl
  | some c=>
   obtain ⟨hlt,rfl⟩:=List.getElem?_eq_some_iff.mp e
   rw [List.drop_eq_getElem_cons hlt]
   rfl
 ·show S.gs.length + i≤T.cps.size
  have:T.cps.toList.length=T.cps.size:=rfl
  omega
 ·have:=h.big
  omega
 ·subst hdc
  obtain ⟨hlt,rfl⟩:=List.getElem?_eq_some_iff.mp e
  refine h.chs _ (List.mem_of_mem_drop (i:=S.gs.length) ?_)
  rw [h.drop]
  exact List.getElem_mem hlt
noncomputable def chE (p:Bool):List Nat:=match p with | true=>[10] | false=>[]
noncomputable def chW (p:Bool):List Nat:=match p with | true=>[10,119,61] | false=>[119,61]
noncomputable def chV (k q:Nat):List Nat:=match quo k q with | true=>[34]++Go (wd k).cps.toList++[34] | false=>(wd k).cps.toList++[10]
theorem Ha (k q:Nat):ZZ k q++[10]=[119,61]++(chV k q++chE (quo k q)):=by
 unfold ZZ chV chE
 cases quo k q<;>simp
theorem EV (p:Bool):chW p=chE p++[119,61]:=by cases p<;>rfl
theorem Xc (w:World) (b:Bool) (RO:ZA) (T:Str) (t:Nat) (z:Nat→Nat) (S:LS) (p:Bool) (l:List Nat) (h:Rem T S (chW p++l)) (hs:∀ p∈ZL w T t z,p∈RO):(Zk w z S (chW p) ⟨#[119]⟩ p).ok (wf w b) RO 700:=by
 cases p with
 | false=>exact YY (GW w b [] T t z _ _ _ _ _ (h.at 0 _ (by simp) rfl) (h.at 1 _ (by simp [chW]) rfl)) hs
 | true=>exact YY (GX w b [] T t z _ _ _ _ _ (h.at 0 _ (by simp) rfl) (h.at 1 _ (by simp [chW]) rfl) (h.at 2 _ (by simp [chW]) rfl)) hs
theorem QJ (w:World) (b:Bool) (RO:ZA) (T:Str) (t:Nat) (z:Nat→Nat) (S:LS) (p:Bool) (h:Rem T S (chE p)) (hs:∀ p∈ZL w T t z,p∈RO):(Zk w z S (chE p) ⟨#[]⟩ p).ok (wf w b) RO 700:=by
 cases p with
 | false=>exact YY (Gi w b [] T t z _ _ _ _ _ (h.at 0 _ (by simp) rfl)) hs
 | true=>exact YY (Gk w b [] T t z _ _ _ _ _ (h.at 0 _ (by simp) rfl) (h.at 1 _ (by simp [chE]) rfl)) hs
theorem Xd (w:World) (b:Bool) (RO:ZA) (T:Str) (t:Nat) (z:Nat→Nat) (S:LS) (k q:Nat) (l:List Nat) (hk:k < 12) (hq:q < 2) (h:Rem T S (chV k q++l)) (hs:∀ p∈ZL w T t z,p∈RO):(Zk w z S (chV k q) (wd k) (!quo k q)).ok (wf w b) RO 700:=by
 have h12:k=0∨k=1∨k=2∨k=3∨k=4∨k=5∨k=6∨k=7∨k=8∨k=9∨k=10∨k=11:=by omega
 have h2:q=0∨q=1:=by omega
 rcases h2 with e | e<;>subst e<;>rcases h12 with e | e | e | e | e | e | e | e | e | e | e | e<;>subst e
 ·exact YY (GY w b [] T t z _ _ _ _ _ (h.at 0 _ (by rw [List.length_append]; exact Nat.le_trans (by decide) (Nat.le_add_right _ _)) rfl) (h.at 1 _ (by rw [List.length_append]; exact Nat.le_trans (by decide) (Nat.le_add_right _ _)) rfl) (h.at 2 _ (by rw [List.length_append]; exact Nat.le_trans (by decide) (Nat.le_add_right _ _)) rfl)) hs
 ·exact YY (LZ w b [] T t z _ _ _ _ _ (h.at 0 _ (by rw [List.length_append]; exact Nat.le_trans (by decide) (Nat.le_add_right _ _)) rfl) (h.at 1 _ (by rw [List.length_append]; exact Nat.le_trans (by decide) (Nat.le_add_right _ _)) rfl) (h.at 2 _ (by rw [List.length_append]; exact Nat.le_trans (by decide) (Nat.le_add_right _ _)) rfl) (h.at 3 _ (by rw [List.length_append]; exact Nat.le_trans (by decide) (Nat.le_add_right _ _)) rfl) (h.at 4 _ (by rw [List.length_append]; exact Nat.le_trans (by decide) (Nat.le_add_right _ _)) rfl)) hs
 ·exact YY (La w b [] T t z _ _ _ _ _ (h.at 0 _ (by rw [List.length_append]; exact Nat.le_trans (by decide) (Nat.le_add_right _ _)) rfl) (h.at 1 _ (by rw [List.length_append]; exact Nat.le_trans (by decide) (Nat.le_add_right _ _)) rfl) (h.at 2 _ (by rw [List.length_append]; exact Nat.le_trans (by decide) (Nat.le_add_right _ _)) rfl) (h.at 3 _ (by rw [List.length_append]; exact Nat.le_trans (by decide) (Nat.le_add_right _ _)) rfl) (h.at 4 _ (by rw [List.length_append]; exact Nat.le_trans (by decide) (Nat.le_add_right _ _)) rfl)) hs
 ·exact YY (Lb w b [] T t z _ _ _ _ _ (h.at 0 _ (by rw [List.length_append]; exact Nat.le_trans (by decide) (Nat.le_add_right _ _)) rfl) (h.at 1 _ (by rw [List.length_append]; exact Nat.le_trans (by decide) (Nat.le_add_right _ _)) rfl) (h.at 2 _ (by rw [List.length_append]; exact Nat.le_trans (by decide) (Nat.le_add_right _ _)) rfl) (h.at 3 _ (by rw [List.length_append]; exact Nat.le_trans (by decide) (Nat.le_add_right _ _)) rfl) (h.at 4 _ (by rw [List.length_append]; exact Nat.le_trans (by decide) (Nat.le_add_right _ _)) rfl)) hs
 ·exact YY (Lc w b [] T t z _ _ _ _ _ (h.at 0 _ (by rw [List.length_append]; exact Nat.le_trans (by decide) (Nat.le_add_right _ _)) rfl) (h.at 1 _ (by rw [List.length_append]; exact Nat.le_trans (by decide) (Nat.le_add_right _ _)) rfl) (h.at 2 _ (by rw [List.length_append]; exact Nat.le_trans (by decide) (Nat.le_add_right _ _)) rfl) (h.at 3 _ (by rw [List.length_append]; exact Nat.le_trans (by decide) (Nat.le_add_right _ _)) rfl)) hs
 ·exact YY (Ga w b [] T t z _ _ _ _ _ (h.at 0 _ (by rw [List.length_append]; exact Nat.le_trans (by decide) (Nat.le_add_right _ _)) rfl) (h.at 1 _ (by rw [List.length_append]; exact Nat.le_trans (by decide) (Nat.le_add_right _ _)) rfl) (h.at 2 _ (by rw [List.length_append]; exact Nat.le_trans (by decide) (Nat.le_add_right _ _)) rfl)) hs
 ·exact YY (Gc w b [] T t z _ _ _ _ _ (h.at 0 _ (by rw [List.length_append]; exact Nat.le_trans (by decide) (Nat.le_add_right _ _)) rfl) (h.at 1 _ (by rw [List.length_append]; exact Nat.le_trans (by decide) (Nat.le_add_right _ _)) rfl) (h.at 2 _ (by rw [List.length_append]; exact Nat.le_trans (by decide) (Nat.le_add_right _ _)) rfl)) hs
 ·exact YY (Ld w b [] T t z _ _ _ _ _ (h.at 0 _ (by rw [List.length_append]; exact Nat.le_trans (by decide) (Nat.le_add_right _ _)) rfl) (h.at 1 _ (by rw [List.length_append]; exact Nat.le_trans (by decide) (Nat.le_add_right _ _)) rfl) (h.at 2 _ (by rw [List.length_append]; exact Nat.le_trans (by decide) (Nat.le_add_right _ _)) rfl) (h.at 3 _ (by rw [List.length_append]; exact Nat.le_trans (by decide) (Nat.le_add_right _ _)) rfl) (h.at 4 _ (by rw [List.length_append]; exact Nat.le_trans (by decide) (Nat.le_add_right _ _)) rfl)) hs
 ·exact YY (Le w b [] T t z _ _ _ _ _ (h.at 0 _ (by rw [List.length_append]; exact Nat.le_trans (by decide) (Nat.le_add_right _ _)) rfl) (h.at 1 _ (by rw [List.length_append]; exact Nat.le_trans (by decide) (Nat.le_add_right _ _)) rfl) (h.at 2 _ (by rw [List.length_append]; exact Nat.le_trans (by decide) (Nat.le_add_right _ _)) rfl) (h.at 3 _ (by rw [List.length_append]; exact Nat.le_trans (by decide) (Nat.le_add_right _ _)) rfl) (h.at 4 _ (by rw [List.length_append]; exact Nat.le_trans (by decide) (Nat.le_add_right _ _)) rfl)) hs
 ·exact YY (Lf w b [] T t z _ _ _ _ _ (h.at 0 _ (by rw [List.length_append]; exact Nat.le_trans (by decide) (Nat.le_add_right _ _)) rfl) (h.at 1 _ (by rw [List.length_append]; exact Nat.le_trans (by decide) (Nat.le_add_right _ _)) rfl) (h.at 2 _ (by rw [List.length_append]; exact Nat.le_trans (by decide) (Nat.le_add_right _ _)) rfl) (h.at 3 _ (by rw [List.length_append]; exact Nat.le_trans (by decide) (Nat.le_add_right _ _)) rfl) (h.at 4 _ (by rw [List.length_append]; exact Nat.le_trans (by decide) (Nat.le_add_right _ _)) rfl)) hs
 ·exact YY (Oa w b [] T t z _ _ _ _ _ (h.at 0 _ (by rw [List.length_append]; exact Nat.le_trans (by decide) (Nat.le_add_right _ _)) rfl) (h.at 1 _ (by rw [List.length_append]; exact Nat.le_trans (by decide) (Nat.le_add_right _ _)) rfl) (h.at 2 _ (by rw [List.length_append]; exact Nat.le_trans (by decide) (Nat.le_add_right _ _)) rfl) (h.at 3 _ (by rw [List.length_append]; exact Nat.le_trans (by decide) (Nat.le_add_right _ _)) rfl)) hs
 ·exact YY (HC w b [] T t z _ _ _ _ _ (h.at 0 _ (by rw [List.length_append]; exact Nat.le_trans (by decide) (Nat.le_add_right _ _)) rfl) (h.at 1 _ (by rw [List.length_append]; exact Nat.le_trans (by decide) (Nat.le_add_right _ _)) rfl) (h.at 2 _ (by rw [List.length_append]; exact Nat.le_trans (by decide) (Nat.le_add_right _ _)) rfl)) hs
 ·exact YY (GZ w b [] T t z _ _ _ _ _ (h.at 0 _ (by rw [List.length_append]; exact Nat.le_trans (by decide) (Nat.le_add_right _ _)) rfl) (h.at 1 _ (by rw [List.length_append]; exact Nat.le_trans (by decide) (Nat.le_add_right _ _)) rfl) (h.at 2 _ (by rw [List.length_append]; exact Nat.le_trans (by decide) (Nat.le_add_right _ _)) rfl) (h.at 3 _ (by rw [List.length_append]; exact Nat.le_trans (by decide) (Nat.le_add_right _ _)) rfl)) hs
 ·exact YY (LZ w b [] T t z _ _ _ _ _ (h.at 0 _ (by rw [List.length_append]; exact Nat.le_trans (by decide) (Nat.le_add_right _ _)) rfl) (h.at 1 _ (by rw [List.length_append]; exact Nat.le_trans (by decide) (Nat.le_add_right _ _)) rfl) (h.at 2 _ (by rw [List.length_append]; exact Nat.le_trans (by decide) (Nat.le_add_right _ _)) rfl) (h.at 3 _ (by rw [List.length_append]; exact Nat.le_trans (by decide) (Nat.le_add_right _ _)) rfl) (h.at 4 _ (by rw [List.length_append]; exact Nat.le_trans (by decide) (Nat.le_add_right _ _)) rfl)) hs
 ·exact YY (La w b [] T t z _ _ _ _ _ (h.at 0 _ (by rw [List.length_append]; exact Nat.le_trans (by decide) (Nat.le_add_right _ _)) rfl) (h.at 1 _ (by rw [List.length_append]; exact Nat.le_trans (by decide) (Nat.le_add_right _ _)) rfl) (h.at 2 _ (by rw [List.length_append]; exact Nat.le_trans (by decide) (Nat.le_add_right _ _)) rfl) (h.at 3 _ (by rw [List.length_append]; exact Nat.le_trans (by decide) (Nat.le_add_right _ _)) rfl) (h.at 4 _ (by rw [List.length_append]; exact Nat.le_trans (by decide) (Nat.le_add_right _ _)) rfl)) hs
 ·exact YY (Lb w b [] T t z _ _ _ _ _ (h.at 0 _ (by rw [List.length_append]; exact Nat.le_trans (by decide) (Nat.le_add_right _ _)) rfl) (h.at 1 _ (by rw [List.length_append]; exact Nat.le_trans (by decide) (Nat.le_add_right _ _)) rfl) (h.at 2 _ (by rw [List.length_append]; exact Nat.le_trans (by decide) (Nat.le_add_right _ _)) rfl) (h.at 3 _ (by rw [List.length_append]; exact Nat.le_trans (by decide) (Nat.le_add_right _ _)) rfl) (h.at 4 _ (by rw [List.length_append]; exact Nat.le_trans (by decide) (Nat.le_add_right _ _)) rfl)) hs
 ·exact YY (Lc w b [] T t z _ _ _ _ _ (h.at 0 _ (by rw [List.length_append]; exact Nat.le_trans (by decide) (Nat.le_add_right _ _)) rfl) (h.at 1 _ (by rw [List.length_append]; exact Nat.le_trans (by decide) (Nat.le_add_right _ _)) rfl) (h.at 2 _ (by rw [List.length_append]; exact Nat.le_trans (by decide) (Nat.le_add_right _ _)) rfl) (h.at 3 _ (by rw [List.length_append]; exact Nat.le_trans (by decide) (Nat.le_add_right _ _)) rfl)) hs
 ·exact YY (Gb w b [] T t z _ _ _ _ _ (h.at 0 _ (by rw [List.length_append]; exact Nat.le_trans (by decide) (Nat.le_add_right _ _)) rfl) (h.at 1 _ (by rw [List.length_append]; exact Nat.le_trans (by decide) (Nat.le_add_right _ _)) rfl) (h.at 2 _ (by rw [List.length_append]; exact Nat.le_trans (by decide) (Nat.le_add_right _ _)) rfl) (h.at 3 _ (by rw [List.length_append]; exact Nat.le_trans (by decide) (Nat.le_add_right _ _)) rfl)) hs
 ·exact YY (Gd w b [] T t z _ _ _ _ _ (h.at 0 _ (by rw [List.length_append]; exact Nat.le_trans (by decide) (Nat.le_add_right _ _)) rfl) (h.at 1 _ (by rw [List.length_append]; exact Nat.le_trans (by decide) (Nat.le_add_right _ _)) rfl) (h.at 2 _ (by rw [List.length_append]; exact Nat.le_trans (by decide) (Nat.le_add_right _ _)) rfl) (h.at 3 _ (by rw [List.length_append]; exact Nat.le_trans (by decide) (Nat.le_add_right _ _)) rfl)) hs
 ·exact YY (Ld w b [] T t z _ _ _ _ _ (h.at 0 _ (by rw [List.length_append]; exact Nat.le_trans (by decide) (Nat.le_add_right _ _)) rfl) (h.at 1 _ (by rw [List.length_append]; exact Nat.le_trans (by decide) (Nat.le_add_right _ _)) rfl) (h.at 2 _ (by rw [List.length_append]; exact Nat.le_trans (by decide) (Nat.le_add_right _ _)) rfl) (h.at 3 _ (by rw [List.length_append]; exact Nat.le_trans (by decide) (Nat.le_add_right _ _)) rfl) (h.at 4 _ (by rw [List.length_append]; exact Nat.le_trans (by decide) (Nat.le_add_right _ _)) rfl)) hs
 ·exact YY (Le w b [] T t z _ _ _ _ _ (h.at 0 _ (by rw [List.length_append]; exact Nat.le_trans (by decide) (Nat.le_add_right _ _)) rfl) (h.at 1 _ (by rw [List.length_append]; exact Nat.le_trans (by decide) (Nat.le_add_right _ _)) rfl) (h.at 2 _ (by rw [List.length_append]; exact Nat.le_trans (by decide) (Nat.le_add_right _ _)) rfl) (h.at 3 _ (by rw [List.length_append]; exact Nat.le_trans (by decide) (Nat.le_add_right _ _)) rfl) (h.at 4 _ (by rw [List.length_append]; exact Nat.le_trans (by decide) (Nat.le_add_right _ _)) rfl)) hs
 ·exact YY (Lf w b [] T t z _ _ _ _ _ (h.at 0 _ (by rw [List.length_append]; exact Nat.le_trans (by decide) (Nat.le_add_right _ _)) rfl) (h.at 1 _ (by rw [List.length_append]; exact Nat.le_trans (by decide) (Nat.le_add_right _ _)) rfl) (h.at 2 _ (by rw [List.length_append]; exact Nat.le_trans (by decide) (Nat.le_add_right _ _)) rfl) (h.at 3 _ (by rw [List.length_append]; exact Nat.le_trans (by decide) (Nat.le_add_right _ _)) rfl) (h.at 4 _ (by rw [List.length_append]; exact Nat.le_trans (by decide) (Nat.le_add_right _ _)) rfl)) hs
 ·exact YY (Oa w b [] T t z _ _ _ _ _ (h.at 0 _ (by rw [List.length_append]; exact Nat.le_trans (by decide) (Nat.le_add_right _ _)) rfl) (h.at 1 _ (by rw [List.length_append]; exact Nat.le_trans (by decide) (Nat.le_add_right _ _)) rfl) (h.at 2 _ (by rw [List.length_append]; exact Nat.le_trans (by decide) (Nat.le_add_right _ _)) rfl) (h.at 3 _ (by rw [List.length_append]; exact Nat.le_trans (by decide) (Nat.le_add_right _ _)) rfl)) hs
 ·exact YY (HD w b [] T t z _ _ _ _ _ (h.at 0 _ (by rw [List.length_append]; exact Nat.le_trans (by decide) (Nat.le_add_right _ _)) rfl) (h.at 1 _ (by rw [List.length_append]; exact Nat.le_trans (by decide) (Nat.le_add_right _ _)) rfl) (h.at 2 _ (by rw [List.length_append]; exact Nat.le_trans (by decide) (Nat.le_add_right _ _)) rfl) (h.at 3 _ (by rw [List.length_append]; exact Nat.le_trans (by decide) (Nat.le_add_right _ _)) rfl)) hs
end
section
open PySem PySem.W
noncomputable def ls0 (ρ:Nat→Nat):LS:=⟨1,ρ 40,0,[],0⟩
noncomputable def Ve (w:World) (T:Str) (t:Nat):Con:={ code:=.call (.ref 279) ⟨[.str T t],[]⟩,mem:=[(274,tabObj #[])],r:=fun ρ=>.ok (.ret (.ref (ρ 30))),upd:=fun ρ=>[tabObj #[(.int 162 0),(.int 4 0),(.ref (ρ 3))]],new:=fun ρ=>SU w ρ (ls0 ρ),newR:=fun ρ=>ZL w T t ρ }
noncomputable def Fe:List Nat→ZA→ZA:=fun l M=>match Z9 M l with | some N=>N | none=>[]
noncomputable def Sl (w:World) (T:Str) (t:Nat):Con:={ Ve w T t with new:=fun ρ=>Fe [8,6,7,0,1,9,2,3,4,5] (ZL w T t ρ++SU w ρ (ls0 ρ)),newR:=fun _=>[] }
theorem OJ {w:World} {b:Bool} {RO:ZA} {T:Str} {t:Nat} (x:(Sl w T t).ok (wf w b) RO 700):(Ve w T t).ok (wf w b) RO 700:=by
 refine ZD.sub (RO:=RO) (M:=[(274,tabObj #[])]) x fun r M' k=>?_
 obtain ⟨ρ,rfl,rfl,_⟩:=k
 exact ⟨[3,4,6,7,8,9,1,2,0,5,10],_,rfl,rfl,ρ,rfl,rfl,rfl⟩
theorem KE (w:World) (b:Bool) (RO:ZA) (T:PySem.Str) (t:Nat):(Sl w T t).ok (wf w b) RO 700:=
 cB (fd279 _) (.l 990379 (.a fun a1=>.a fun a2=>.l 219021842199219921901041002 (.a fun a3=>.a fun a4=>.l 10010100100101000099019405950195021812190001021900010219 (.t fun t2=>.l 2190002021812190002021900020219000202181219000201000001 (.t fun t4=>.l 21900020218121900020219000202190002021812190002010010012003 (.t fun t6=>.l 2003 (.t fun t7=>.l 2190002021812190002021900020219000202181219000201000001 (.t fun t9=>.l 2003 (.a fun a6=>.l 2190003021812190003021900030219000302181219000301000002 (.t fun t11=>.l 100701002004 (.a fun a7=>.l 1006 (.a fun a8=>.l 100379 (.t fun t13=>.t fun t14=>.t fun t15=>.l 1100 (.a fun a9=>.a fun a10=>.l 1100 (.a fun a11=>.a fun a12=>.a fun a13=>.t fun t20=>.t fun t21=>.a fun a14=>.l 104010501042016 (.a fun a15=>.l 21900120218121900120219001202190012021812190012010030160100 (.t fun t24=>.l 2190218421992199219001601042013 (.a fun a16=>.a fun a17=>.l 10010100100101000099019405950195021812190001021900010219 (.t fun t27=>.l 2190002021812190002021900020219000202181219000201000001 (.t fun t29=>.l 21900020218121900020219000202190002021812190002010010012003 (.t fun t31=>.l 219000202181219000202190002021900020218121900020100000101002003 (.t fun t34=>.l 2003 (.a fun a19=>.l 2190003021812190003021900030219000302181219000301000002 (.t fun t36=>.l 102001002004 (.t fun t38=>.l 202004010002190003021812190003021900030219000302181219000301000020 (.z [1,0,7,10,1,2,7,0] (rl [a4,a3,a15,a14,a8,a1,a2,a7,a9,a10,a11,a12,a13,t13,t14,t15,t20,t21,t4,t2,t6,t9,t7,t11,t24,a6,0,0,0,0,a17,a16,a19,0,t29,t31,t34,t36,t38,0,t27]))))))))))))))))))))))))))) (by kernel_rfl)
theorem IC (w:World) (b:Bool) (RO:ZA) (T:PySem.Str) (t:Nat):(Ve w T t).ok (wf w b) RO 700:=OJ (KE w b RO T t)
end
section
open PySem PySem.W PySem.W.X PySem.Calls PyProof.Rows PySem.Spec
noncomputable def exT (b:List Stmt) (env:PySem.Env):Sem PySem.Fin:=R.bindR (PySem.W.Fast.tw12563942051412417395 b env) fun f=>.pure (.done f)
noncomputable def evT (e:Expr) (env:PySem.Env):Sem PySem.Fin:=R.bindR (PySem.W.Fast.tw14044960220447912780 e env) fun v=>.pure (.done (.ret v))
theorem Gw (b:List Stmt) (env:PySem.Env):exT b env=Sem.bind (execs b env) fun f=>.pure (.done f):=by
 unfold exT
 rw [← R.bindR_eq,← PySem.W.Fast.te12563942051412417395]
theorem Gx (e:Expr) (env:PySem.Env):evT e env=Sem.bind (eval e env) fun v=>.pure (.done (.ret v)):=by
 unfold evT
 rw [← R.bindR_eq,← PySem.W.Fast.te14044960220447912780]
theorem Sm (a b:List Stmt) (env:PySem.Env):execs (a++b) env=(execs a env >>= fun f=>match f with | .next=>execs b env | f=>pure f):=by
 induction a with
 | nil=>rfl
 | cons s a ih=>
  show (exec s env >>= fun f=>match f with | .next=>execs (a++b) env | f=>pure f)=((exec s env >>= fun f=>match f with | .next=>execs a env | f=>pure f) >>= _)
  rw [bind_assoc]
  congr 1
  funext f
  cases f with
  | next=>exact ih
  | _=>rfl
noncomputable def Zf (P:Params):List Stmt:=match (fdB P 320).body with | .stmts b=>b | .expr _=>[]
noncomputable def YR (P:Params) (a0 a1 a2 a3:Nat):PySem.Env:={ scope:=(fdB P 320).scope,locals:=a0,globals:=3,cells:=[(⟨#[115,104,101,108,118,101,115]⟩,a3),(⟨#[108,105,110,101]⟩,a2),(⟨#[114,111,111,109,115]⟩,a1)],qual:=⟨#[108,97,119]++#[46,60,108,111,99,97,108,115,62,46]⟩,func:=some 320,code:=.ref 319,frame:=some a0,builtins:=0 }
noncomputable def frO (es:List DictEntry) (n:Nat):Obj:=⟨.type "frame",none,.dict ⟨es⟩ n,#[]⟩
noncomputable def Zn (v:Option Value):Obj:=⟨.type "cell",none,.cell v,#[]⟩
noncomputable def Vf (w:World) (sc ep t0 a0 a1 a2 a3:Nat) (vs:List Value):ZA:=[(a3,Zn none),(a2,Zn none),(a1,Zn none),(a0,frO [ent w ⟨#[115,99,114,105,112,116]⟩ t0 (.ref sc)] 1),(274,tabObj #[]),(sc,ZB vs ep)]
noncomputable def Ee (w:World) (sc ep t0 a0 a1 a2 a3:Nat) (vs:List Value):Con:={ code:=.call (.ref 320) ⟨[.ref sc],[]⟩,mem:=Vf w sc ep t0 a0 a1 a2 a3 vs,r:=fun _=>.ok .next,upd:=fun _=>(Vf w sc ep t0 a0 a1 a2 a3 vs).map (·.2),new:=fun _=>[] }
noncomputable abbrev Con.out (C:Con) (ρ:Nat→Nat):ZA:=C.newR ρ++(C.new ρ++Xv C.mem (C.upd ρ))
noncomputable def sN (s:List Nat):Str:=⟨⟨s⟩⟩
noncomputable def VQ (ks:List Nat) (i:Nat) (u:Nat→Nat):List Value:=match ks with | []=>[.str ⟨#[]⟩ (u i)] | k::ks=>.str ⟨#[119]⟩ (u i) :: .str (wd k) (u (i + 1))::VQ ks (i + 2) u
noncomputable def VG (ks:List Nat) (i:Nat) (u:Nat→Nat):List Value:=match ks with | []=>[] | k::ks=>.str (wd k) (u i)::VG ks (i + 1) u
noncomputable def frA (w:World) (sc t0 T:Nat) (u:Nat→Nat):List DictEntry:=[ent w ⟨#[115,99,114,105,112,116]⟩ t0 (.ref sc),ent w ⟨#[110,117,109,98,101,114,115]⟩ (u 50) (.ref (u 51)),ent w ⟨#[116,111,116,97,108]⟩ (u 52) (.int (Int.ofNat T) (u 53)),ent w ⟨#[115,105,122,101,115]⟩ (u 54) (.ref (u 55)),ent w ⟨#[97,115,107,101,100]⟩ (u 56) (.ref (u 57)),ent w ⟨#[114,111,119,115]⟩ (u 58) (.ref (u 59)),ent w ⟨#[119,111,114,100,115]⟩ (u 60) (.ref (u 61))]
noncomputable def Yx (w:World) (sc ep t0 a0 a1 a2 a3:Nat) (vs:List Value) (T a c g:Nat) (ks:List Nat) (txt:Str) (tx:Nat) (z r2 r3:Nat→Nat) (S:LS):Con:=
 {code:=.call (.ref 320) ⟨[.ref sc],[]⟩,mem:=Vf w sc ep t0 a0 a1 a2 a3 vs,r:=fun _=>.ok .next,
  upd:=fun u=>[Zn none,Zn (some (.ref (z 30))),Zn (some (.ref (r2 0))),frO (frA w sc t0 T u) 7,tabObj #[(.int 162 0),(.int 4 0),(.ref (z 3))],ZB vs ep],
  new:=fun u=>(u 61,ZB (VQ ks 0 u) 25)::(SU w z S++[(u 57,ZB (VG ks 30 u) 12),(u 55,ZB (Yv (WB a c g) 2 r3) (r3 1)),(r2 0,ZB (Yv (WB a c g) 2 r2) (r2 1))]),
  newR:=fun _=>ZL w txt tx z }
noncomputable def Ip (w:World) (sc ep t0 a0 a1 a2 a3:Nat) (vs:List Value) (T a c g:Nat) (ks:List Nat) (txt:Str) (r:Result) (M':ZA):Prop:=
 ∃ (tx:Nat) (z r2 r3:Nat→Nat) (S:LS),Rem txt S []∧(Yx w sc ep t0 a0 a1 a2 a3 vs T a c g ks txt tx z r2 r3 S).post r M'
theorem ID (w:World) (sc ep t0 a0 a1 a2 a3:Nat) (vs:List Value) (T a c g:Nat) (ks:List Nat) (txt:Str) (tx:Nat) (z r2 r3:Nat→Nat) (S:LS) (h:Rem txt S []) (ρ:Nat→Nat):Ip w sc ep t0 a0 a1 a2 a3 vs T a c g ks txt ((Yx w sc ep t0 a0 a1 a2 a3 vs T a c g ks txt tx z r2 r3 S).r ρ) ((Yx w sc ep t0 a0 a1 a2 a3 vs T a c g ks txt tx z r2 r3 S).out ρ):=⟨tx,z,r2,r3,S,h,Con.post_of _ ρ rfl⟩
theorem Uv:∀ (ns:List Nat),Vy (ns.map Int.ofNat)=Int.ofNat ns.sum
 | []=>rfl
 | n::ns=>by
  show Int.ofNat n + Vy (ns.map Int.ofNat)=_
  rw [Uv ns,List.sum_cons]
  rfl
theorem QK:∀ (ns:List Nat) (i:Nat) (ρ:Nat→Nat) (j:Nat) (n:Int),(ns.map Int.ofNat)[j]?=some n→∃ t,(Yv ns i ρ)[j]?=some (.int n t)
 | [],_,_,_,_,h=>by simp at h
 | m::ns,i,ρ,0,n,h=>⟨ρ i,by
  have e:Int.ofNat m=n:=Option.some.inj h
  subst e
  rfl⟩
 | m::ns,i,ρ,j + 1,n,h=>QK ns (i + 1) ρ j n h
theorem QL:∀ (ns:List Nat) (i:Nat) (ρ:Nat→Nat),(Yv ns i ρ).length=ns.length
 | [],_,_=>rfl
 | _::ns,i,ρ=>congrArg (· + 1) (QL ns (i + 1) ρ)
theorem Hb (w:World) (b:Bool) (RO:ZA) (l i:Nat) (ρ:Nat→Nat) (ns:List Nat) (ep T:Nat) (hT:ns.sum=T) (hb:T < 1000000000000000000):(WC l (Yv ns i ρ) ep (Int.ofNat T)).ok (wf w b) RO 940:=
 KD w b RO l _ ep _ (ns.map Int.ofNat) (fun x hx=>by
  obtain ⟨n,_,rfl⟩:=List.mem_map.mp hx
  exact Int.natCast_nonneg n) (by rw [Uv,hT]) (by show (T:Int) < _; omega) (fun j n e=>QK ns i ρ j n e) (by
  rw [List.length_map]
  exact List.getElem?_eq_none_iff.mpr (by rw [QL]; exact Nat.le_refl _))
theorem Y3 (w:World) (b:Bool) (RO:ZA) (k q t u:Nat) (hk:k < 12) (hq:q < 2):(Yi (ZZ k q) [10] t u).ok (wf w b) RO 965:=by
 have h:=Oh k hk q hq
 refine HY w b RO _ _ t u (fun e=>?_) (fun e=>nomatch e) (by simp only [List.length_cons,List.length_nil]; omega)
 rw [e] at h
 exact Nat.lt_irrefl 0 h.1
end
section
open PySem PySem.W
theorem kLt {n k:Nat} (h:n % 6 + 6 * (n / 6 % 2)=k):k < 12:=by omega
theorem qLt {m q:Nat} (h:m % 2=q):q < 2:=by omega
theorem EC {T:Str} {S:LS} {cs:List Nat} (h:Rem T S cs) (nl:Bool) (ρ:Nat→Nat):Rem T (S.next cs nl ρ) []:=by
 have h':Rem T S (cs++[]):=by rw [List.append_nil]; exact h
 exact h'.next nl ρ
noncomputable def KH (w:World) (b:Bool) (RO:ZA) (sc ep t0' a0' a1' a2' a3':Nat) (vs:List PySem.Value) (n1 n2 n3 n4 n5 n6 n7 n8 n9 n10 n11 n12 T a c g k1 k2 k3 k4 k5 k6 k7 k8 k9 k10 k11 k12 q1 q2 q3 q4 q5 q6 q7 q8 q9 q10 q11 q12:Nat) (txt:PySem.Str) (hn:∀ RO':ZA,(Wt sc vs ep [n1,n2,n3,n4,n5,n6,n7,n8,n9,n10,n11,n12]).ok (wf w b) RO' 600) (hT:List.sum [n1,n2,n3,n4,n5,n6,n7,n8,n9,n10,n11,n12]=T) (hb:T < 1000000000000000000) (hr:∀ (RO':ZA) (t:Nat),(Ze 289 T t a c g).ok (wf w b) RO' 800) (hz:∀ (RO':ZA) (t:Nat),(Ze 296 T t a c g).ok (wf w b) RO' 800) (hk1:n1 % 6 + 6 * (n1 / 6 % 2)=k1) (hk2:n2 % 6 + 6 * (n2 / 6 % 2)=k2) (hk3:n3 % 6 + 6 * (n3 / 6 % 2)=k3) (hk4:n4 % 6 + 6 * (n4 / 6 % 2)=k4) (hk5:n5 % 6 + 6 * (n5 / 6 % 2)=k5) (hk6:n6 % 6 + 6 * (n6 / 6 % 2)=k6) (hk7:n7 % 6 + 6 * (n7 / 6 % 2)=k7) (hk8:n8 % 6 + 6 * (n8 / 6 % 2)=k8) (hk9:n9 % 6 + 6 * (n9 / 6 % 2)=k9) (hk10:n10 % 6 + 6 * (n10 / 6 % 2)=k10) (hk11:n11 % 6 + 6 * (n11 / 6 % 2)=k11) (hk12:n12 % 6 + 6 * (n12 / 6 % 2)=k12) (hq1:n1 / 12 % 2=q1) (hq2:n2 / 12 % 2=q2) (hq3:n3 / 12 % 2=q3) (hq4:n4 / 12 % 2=q4) (hq5:n5 / 12 % 2=q5) (hq6:n6 / 12 % 2=q6) (hq7:n7 / 12 % 2=q7) (hq8:n8 / 12 % 2=q8) (hq9:n9 / 12 % 2=q9) (hq10:n10 / 12 % 2=q10) (hq11:n11 / 12 % 2=q11) (hq12:n12 / 12 % 2=q12) (hj:∀ (RO':ZA) (l t e:Nat) (u:Nat→Nat),(VP l t ([.str ⟨⟨ZZ k1 q1++[10]⟩⟩ (u 0),.str ⟨⟨ZZ k2 q2++[10]⟩⟩ (u 1),.str ⟨⟨ZZ k3 q3++[10]⟩⟩ (u 2),.str ⟨⟨ZZ k4 q4++[10]⟩⟩ (u 3),.str ⟨⟨ZZ k5 q5++[10]⟩⟩ (u 4),.str ⟨⟨ZZ k6 q6++[10]⟩⟩ (u 5),.str ⟨⟨ZZ k7 q7++[10]⟩⟩ (u 6),.str ⟨⟨ZZ k8 q8++[10]⟩⟩ (u 7),.str ⟨⟨ZZ k9 q9++[10]⟩⟩ (u 8),.str ⟨⟨ZZ k10 q10++[10]⟩⟩ (u 9),.str ⟨⟨ZZ k11 q11++[10]⟩⟩ (u 10),.str ⟨⟨ZZ k12 q12++[10]⟩⟩ (u 11)]:List PySem.Value) e txt).ok (wf w b) RO' 965) (hrem:∀ ρ:Nat→Nat,Rem txt (ls0 ρ) (chW false++(chV k1 q1++(chW (quo k1 q1)++(chV k2 q2++(chW (quo k2 q2)++(chV k3 q3++(chW (quo k3 q3)++(chV k4 q4++(chW (quo k4 q4)++(chV k5 q5++(chW (quo k5 q5)++(chV k6 q6++(chW (quo k6 q6)++(chV k7 q7++(chW (quo k7 q7)++(chV k8 q8++(chW (quo k8 q8)++(chV k9 q9++(chW (quo k9 q9)++(chV k10 q10++(chW (quo k10 q10)++(chV k11 q11++(chW (quo k11 q11)++(chV k12 q12++(chE (quo k12 q12))))))))))))))))))))))))))):CE (wf w b) RO []:=
 .l 38500040104 (.k (Wt sc vs ep [n1,n2,n3,n4,n5,n6,n7,n8,n9,n10,n11,n12]) [5] (hn _) fun ρ0=>.t fun t0=>.l 5010101041005 (.k (WC (ρ0 0) ([(.int (Int.ofNat n1) (ρ0 2)),(.int (Int.ofNat n2) (ρ0 (2 + 1))),(.int (Int.ofNat n3) (ρ0 (2 + 1 + 1))),(.int (Int.ofNat n4) (ρ0 (2 + 1 + 1 + 1))),(.int (Int.ofNat n5) (ρ0 (2 + 1 + 1 + 1 + 1))),(.int (Int.ofNat n6) (ρ0 (2 + 1 + 1 + 1 + 1 + 1))),(.int (Int.ofNat n7) (ρ0 (2 + 1 + 1 + 1 + 1 + 1 + 1))),(.int (Int.ofNat n8) (ρ0 (2 + 1 + 1 + 1 + 1 + 1 + 1 + 1))),(.int (Int.ofNat n9) (ρ0 (2 + 1 + 1 + 1 + 1 + 1 + 1 + 1 + 1))),(.int (Int.ofNat n10) (ρ0 (2 + 1 + 1 + 1 + 1 + 1 + 1 + 1 + 1 + 1))),(.int (Int.ofNat n11) (ρ0 (2 + 1 + 1 + 1 + 1 + 1 + 1 + 1 + 1 + 1 + 1))),(.int (Int.ofNat n12) (ρ0 (2 + 1 + 1 + 1 + 1 + 1 + 1 + 1 + 1 + 1 + 1 + 1)))]:List PySem.Value) (ρ0 1) (Int.ofNat T)) [0] (Hb w b _ _ 2 ρ0 [n1,n2,n3,n4,n5,n6,n7,n8,n9,n10,n11,n12] _ T hT hb) fun ρ1=>.t fun t1=>.l 390000501041005 (.k (Ze 289 T (ρ1 0) a c g) [] (hr _ _) fun ρ2=>.l 39700060104 (.k (Ze 296 T (ρ1 0) a c g) [] (hz _ _) fun ρ3=>.l 1010000110991001000250010002500100024001009930010099 (.t fun t2=>.l 20072011 (.a fun a4=>.l 1 (.a fun a5=>.l 99 (.c 2 (ZF w b _ a4 #[(.ref (ρ0 0)),(.int 0 0)]) (.l 4040001010410010100100300103003 (.k (Zi n1 (ρ0 2) k1) [] (YX w b _ _ _ _ hk1) fun ρ4=>.l 40400010104100101001003001030033002 (.k (Zi n2 (ρ0 (2 + 1)) k2) [] (YX w b _ _ _ _ hk2) fun ρ5=>.l 40400010104100101001003001030033002 (.k (Zi n3 (ρ0 (2 + 1 + 1)) k3) [] (YX w b _ _ _ _ hk3) fun ρ6=>.l 40400010104100101001003001030033002 (.k (Zi n4 (ρ0 (2 + 1 + 1 + 1)) k4) [] (YX w b _ _ _ _ hk4) fun ρ7=>.l 40400010104100101001003001030033002 (.k (Zi n5 (ρ0 (2 + 1 + 1 + 1 + 1)) k5) [] (YX w b _ _ _ _ hk5) fun ρ8=>.l 40400010104100101001003001030033002 (.k (Zi n6 (ρ0 (2 + 1 + 1 + 1 + 1 + 1)) k6) [] (YX w b _ _ _ _ hk6) fun ρ9=>.l 40400010104100101001003001030033002 (.k (Zi n7 (ρ0 (2 + 1 + 1 + 1 + 1 + 1 + 1)) k7) [] (YX w b _ _ _ _ hk7) fun ρ10=>.l 40400010104100101001003001030033002 (.k (Zi n8 (ρ0 (2 + 1 + 1 + 1 + 1 + 1 + 1 + 1)) k8) [] (YX w b _ _ _ _ hk8) fun ρ11=>.l 40400010104100101001003001030033002 (.k (Zi n9 (ρ0 (2 + 1 + 1 + 1 + 1 + 1 + 1 + 1 + 1)) k9) [] (YX w b _ _ _ _ hk9) fun ρ12=>.l 40400010104100101001003001030033002 (.k (Zi n10 (ρ0 (2 + 1 + 1 + 1 + 1 + 1 + 1 + 1 + 1 + 1)) k10) [] (YX w b _ _ _ _ hk10) fun ρ13=>.l 40400010104100101001003001030033002 (.k (Zi n11 (ρ0 (2 + 1 + 1 + 1 + 1 + 1 + 1 + 1 + 1 + 1 + 1)) k11) [] (YX w b _ _ _ _ hk11) fun ρ14=>.l 40400010104100101001003001030033002 (.k (Zi n12 (ρ0 (2 + 1 + 1 + 1 + 1 + 1 + 1 + 1 + 1 + 1 + 1 + 1)) k12) [] (YX w b _ _ _ _ hk12) fun ρ15=>.l 110991003001030033002 (.t fun t15=>.l 10099201300010099200410160101010420031016 (.a fun a11=>.a fun a12=>.a fun a13=>.l 7001 (.a fun a14=>.l 99 (.c 2 (Va w b _ a13 #[.none,(.bool false),(.bool false),(.ref a11),(.ref a12)]) (.l 40041006001930063004100700113007300300053003 (.a fun a16=>.l 4004 (.s 3 (ZE a16 (.type "zip") none [(.bool false),(.bool false),(.ref a11),(.ref a12)] #[]) (.l 104100501001005010000011099100100025001000250010002400100993001 (.t fun t18=>.l 1005 (.t fun t19=>.k (ZM n1 (ρ0 2) 12 t19 (n1 / 12)) [] (Ym w b _ _ _ _ _ rfl) fun ρ16=>.t fun t20=>.k (ZG (n1 / 12) (ρ16 0) 2 t20 q1) [] (ZK w b _ _ _ _ _ hq1) fun ρ17=>.l 246 (.k (ZR k1 q1 t18 (ρ4 0) (ρ17 0)) [] (Y2 w b _ _ _ _ _ _ (kLt hk1) (qLt hq1)) fun ρ18=>.t fun t21=>.k (Yi (ZZ k1 q1) [10] (ρ18 0) t21) [] (Y3 w b _ _ _ _ _ (kLt hk1) (qLt hq1)) fun ρ19=>.l 400810100023301030081011001530113007000930073006 (.a fun a20=>.l 4008 (.s 7 (ZE a20 (.type "zip") none [(.bool false),(.bool false),(.ref a11),(.ref a12)] #[]) (.l 104100901001009010000011099100100025001000250010002400100993001 (.t fun t24=>.l 1009 (.t fun t25=>.k (ZM n2 (ρ0 (2 + 1)) 12 t25 (n2 / 12)) [] (Ym w b _ _ _ _ _ rfl) fun ρ20=>.t fun t26=>.k (ZG (n2 / 12) (ρ20 0) 2 t26 q2) [] (ZK w b _ _ _ _ _ hq2) fun ρ21=>.l 246 (.k (ZR k2 q2 t24 (ρ5 0) (ρ21 0)) [] (Y2 w b _ _ _ _ _ _ (kLt hk2) (qLt hq2)) fun ρ22=>.t fun t27=>.k (Yi (ZZ k2 q2) [10] (ρ22 0) t27) [] (Y3 w b _ _ _ _ _ (kLt hk2) (qLt hq2)) fun ρ23=>.l 401210140027301430121015001930153011001330113010 (.a fun a24=>.l 4012 (.s 11 (ZE a24 (.type "zip") none [(.bool false),(.bool false),(.ref a11),(.ref a12)] #[]) (.l 104101301001013010000011099100100025001000250010002400100993001 (.t fun t30=>.l 1013 (.t fun t31=>.k (ZM n3 (ρ0 (2 + 1 + 1)) 12 t31 (n3 / 12)) [] (Ym w b _ _ _ _ _ rfl) fun ρ24=>.t fun t32=>.k (ZG (n3 / 12) (ρ24 0) 2 t32 q3) [] (ZK w b _ _ _ _ _ hq3) fun ρ25=>.l 246 (.k (ZR k3 q3 t30 (ρ6 0) (ρ25 0)) [] (Y2 w b _ _ _ _ _ _ (kLt hk3) (qLt hq3)) fun ρ26=>.t fun t33=>.k (Yi (ZZ k3 q3) [10] (ρ26 0) t33) [] (Y3 w b _ _ _ _ _ (kLt hk3) (qLt hq3)) fun ρ27=>.l 401610180031301830161019002330193015001730153014 (.a fun a28=>.l 4016 (.s 15 (ZE a28 (.type "zip") none [(.bool false),(.bool false),(.ref a11),(.ref a12)] #[]) (.l 104101701001017010000011099100100025001000250010002400100993001 (.t fun t36=>.l 1017 (.t fun t37=>.k (ZM n4 (ρ0 (2 + 1 + 1 + 1)) 12 t37 (n4 / 12)) [] (Ym w b _ _ _ _ _ rfl) fun ρ28=>.t fun t38=>.k (ZG (n4 / 12) (ρ28 0) 2 t38 q4) [] (ZK w b _ _ _ _ _ hq4) fun ρ29=>.l 246 (.k (ZR k4 q4 t36 (ρ7 0) (ρ29 0)) [] (Y2 w b _ _ _ _ _ _ (kLt hk4) (qLt hq4)) fun ρ30=>.t fun t39=>.k (Yi (ZZ k4 q4) [10] (ρ30 0) t39) [] (Y3 w b _ _ _ _ _ (kLt hk4) (qLt hq4)) fun ρ31=>.l 402010220035302230201023002730233019002130193018 (.a fun a32=>.l 4020 (.s 19 (ZE a32 (.type "zip") none [(.bool false),(.bool false),(.ref a11),(.ref a12)] #[]) (.l 104102101001021010000011099100100025001000250010002400100993001 (.t fun t42=>.l 1021 (.t fun t43=>.k (ZM n5 (ρ0 (2 + 1 + 1 + 1 + 1)) 12 t43 (n5 / 12)) [] (Ym w b _ _ _ _ _ rfl) fun ρ32=>.t fun t44=>.k (ZG (n5 / 12) (ρ32 0) 2 t44 q5) [] (ZK w b _ _ _ _ _ hq5) fun ρ33=>.l 246 (.k (ZR k5 q5 t42 (ρ8 0) (ρ33 0)) [] (Y2 w b _ _ _ _ _ _ (kLt hk5) (qLt hq5)) fun ρ34=>.t fun t45=>.k (Yi (ZZ k5 q5) [10] (ρ34 0) t45) [] (Y3 w b _ _ _ _ _ (kLt hk5) (qLt hq5)) fun ρ35=>.l 402410260039302630241027003130273023002530233022 (.a fun a36=>.l 4024 (.s 23 (ZE a36 (.type "zip") none [(.bool false),(.bool false),(.ref a11),(.ref a12)] #[]) (.l 104102501001025010000011099100100025001000250010002400100993001 (.t fun t48=>.l 1025 (.t fun t49=>.k (ZM n6 (ρ0 (2 + 1 + 1 + 1 + 1 + 1)) 12 t49 (n6 / 12)) [] (Ym w b _ _ _ _ _ rfl) fun ρ36=>.t fun t50=>.k (ZG (n6 / 12) (ρ36 0) 2 t50 q6) [] (ZK w b _ _ _ _ _ hq6) fun ρ37=>.l 246 (.k (ZR k6 q6 t48 (ρ9 0) (ρ37 0)) [] (Y2 w b _ _ _ _ _ _ (kLt hk6) (qLt hq6)) fun ρ38=>.t fun t51=>.k (Yi (ZZ k6 q6) [10] (ρ38 0) t51) [] (Y3 w b _ _ _ _ _ (kLt hk6) (qLt hq6)) fun ρ39=>.l 402810300043303030281031003530313027002930273026 (.a fun a40=>.l 4028 (.s 27 (ZE a40 (.type "zip") none [(.bool false),(.bool false),(.ref a11),(.ref a12)] #[]) (.l 104102901001029010000011099100100025001000250010002400100993001 (.t fun t54=>.l 1029 (.t fun t55=>.k (ZM n7 (ρ0 (2 + 1 + 1 + 1 + 1 + 1 + 1)) 12 t55 (n7 / 12)) [] (Ym w b _ _ _ _ _ rfl) fun ρ40=>.t fun t56=>.k (ZG (n7 / 12) (ρ40 0) 2 t56 q7) [] (ZK w b _ _ _ _ _ hq7) fun ρ41=>.l 246 (.k (ZR k7 q7 t54 (ρ10 0) (ρ41 0)) [] (Y2 w b _ _ _ _ _ _ (kLt hk7) (qLt hq7)) fun ρ42=>.t fun t57=>.k (Yi (ZZ k7 q7) [10] (ρ42 0) t57) [] (Y3 w b _ _ _ _ _ (kLt hk7) (qLt hq7)) fun ρ43=>.l 403210340047303430321035003930353031003330313030 (.a fun a44=>.l 4032 (.s 31 (ZE a44 (.type "zip") none [(.bool false),(.bool false),(.ref a11),(.ref a12)] #[]) (.l 104103301001033010000011099100100025001000250010002400100993001 (.t fun t60=>.l 1033 (.t fun t61=>.k (ZM n8 (ρ0 (2 + 1 + 1 + 1 + 1 + 1 + 1 + 1)) 12 t61 (n8 / 12)) [] (Ym w b _ _ _ _ _ rfl) fun ρ44=>.t fun t62=>.k (ZG (n8 / 12) (ρ44 0) 2 t62 q8) [] (ZK w b _ _ _ _ _ hq8) fun ρ45=>.l 246 (.k (ZR k8 q8 t60 (ρ11 0) (ρ45 0)) [] (Y2 w b _ _ _ _ _ _ (kLt hk8) (qLt hq8)) fun ρ46=>.t fun t63=>.k (Yi (ZZ k8 q8) [10] (ρ46 0) t63) [] (Y3 w b _ _ _ _ _ (kLt hk8) (qLt hq8)) fun ρ47=>.l 403610380051303830361039004330393035003730353034 (.a fun a48=>.l 4036 (.s 35 (ZE a48 (.type "zip") none [(.bool false),(.bool false),(.ref a11),(.ref a12)] #[]) (.l 104103701001037010000011099100100025001000250010002400100993001 (.t fun t66=>.l 1037 (.t fun t67=>.k (ZM n9 (ρ0 (2 + 1 + 1 + 1 + 1 + 1 + 1 + 1 + 1)) 12 t67 (n9 / 12)) [] (Ym w b _ _ _ _ _ rfl) fun ρ48=>.t fun t68=>.k (ZG (n9 / 12) (ρ48 0) 2 t68 q9) [] (ZK w b _ _ _ _ _ hq9) fun ρ49=>.l 246 (.k (ZR k9 q9 t66 (ρ12 0) (ρ49 0)) [] (Y2 w b _ _ _ _ _ _ (kLt hk9) (qLt hq9)) fun ρ50=>.t fun t69=>.k (Yi (ZZ k9 q9) [10] (ρ50 0) t69) [] (Y3 w b _ _ _ _ _ (kLt hk9) (qLt hq9)) fun ρ51=>.l 404010420055304230401043004730433039004130393038 (.a fun a52=>.l 4040 (.s 39 (ZE a52 (.type "zip") none [(.bool false),(.bool false),(.ref a11),(.ref a12)] #[]) (.l 104104101001041010000011099100100025001000250010002400100993001 (.t fun t72=>.l 1041 (.t fun t73=>.k (ZM n10 (ρ0 (2 + 1 + 1 + 1 + 1 + 1 + 1 + 1 + 1 + 1)) 12 t73 (n10 / 12)) [] (Ym w b _ _ _ _ _ rfl) fun ρ52=>.t fun t74=>.k (ZG (n10 / 12) (ρ52 0) 2 t74 q10) [] (ZK w b _ _ _ _ _ hq10) fun ρ53=>.l 246 (.k (ZR k10 q10 t72 (ρ13 0) (ρ53 0)) [] (Y2 w b _ _ _ _ _ _ (kLt hk10) (qLt hq10)) fun ρ54=>.t fun t75=>.k (Yi (ZZ k10 q10) [10] (ρ54 0) t75) [] (Y3 w b _ _ _ _ _ (kLt hk10) (qLt hq10)) fun ρ55=>.l 404410460059304630441047005130473043004530433042 (.a fun a56=>.l 4044 (.s 43 (ZE a56 (.type "zip") none [(.bool false),(.bool false),(.ref a11),(.ref a12)] #[]) (.l 104104501001045010000011099100100025001000250010002400100993001 (.t fun t78=>.l 1045 (.t fun t79=>.k (ZM n11 (ρ0 (2 + 1 + 1 + 1 + 1 + 1 + 1 + 1 + 1 + 1 + 1)) 12 t79 (n11 / 12)) [] (Ym w b _ _ _ _ _ rfl) fun ρ56=>.t fun t80=>.k (ZG (n11 / 12) (ρ56 0) 2 t80 q11) [] (ZK w b _ _ _ _ _ hq11) fun ρ57=>.l 246 (.k (ZR k11 q11 t78 (ρ14 0) (ρ57 0)) [] (Y2 w b _ _ _ _ _ _ (kLt hk11) (qLt hq11)) fun ρ58=>.t fun t81=>.k (Yi (ZZ k11 q11) [10] (ρ58 0) t81) [] (Y3 w b _ _ _ _ _ (kLt hk11) (qLt hq11)) fun ρ59=>.l 404810500063305030481051005530513047004930473046 (.a fun a60=>.l 4048 (.s 47 (ZE a60 (.type "zip") none [(.bool false),(.bool false),(.ref a11),(.ref a12)] #[]) (.l 104104901001049010000011099100100025001000250010002400100993001 (.t fun t84=>.l 1049 (.t fun t85=>.k (ZM n12 (ρ0 (2 + 1 + 1 + 1 + 1 + 1 + 1 + 1 + 1 + 1 + 1 + 1)) 12 t85 (n12 / 12)) [] (Ym w b _ _ _ _ _ rfl) fun ρ60=>.t fun t86=>.k (ZG (n12 / 12) (ρ60 0) 2 t86 q12) [] (ZK w b _ _ _ _ _ hq12) fun ρ61=>.l 246 (.k (ZR k12 q12 t84 (ρ15 0) (ρ61 0)) [] (Y2 w b _ _ _ _ _ _ (kLt hk12) (qLt hq12)) fun ρ62=>.t fun t87=>.k (Yi (ZZ k12 q12) [10] (ρ62 0) t87) [] (Y3 w b _ _ _ _ _ (kLt hk12) (qLt hq12)) fun ρ63=>.l 1105310991055005930553051005330513050 (.t fun t88=>.l 10450511073 (.t fun t89=>.l 73 (.k (VP a14 t89 ([(.str (Str.mk (Array.mk (ZZ k1 q1++[10]))) (ρ19 0)),(.str (Str.mk (Array.mk (ZZ k2 q2++[10]))) (ρ23 0)),(.str (Str.mk (Array.mk (ZZ k3 q3++[10]))) (ρ27 0)),(.str (Str.mk (Array.mk (ZZ k4 q4++[10]))) (ρ31 0)),(.str (Str.mk (Array.mk (ZZ k5 q5++[10]))) (ρ35 0)),(.str (Str.mk (Array.mk (ZZ k6 q6++[10]))) (ρ39 0)),(.str (Str.mk (Array.mk (ZZ k7 q7++[10]))) (ρ43 0)),(.str (Str.mk (Array.mk (ZZ k8 q8++[10]))) (ρ47 0)),(.str (Str.mk (Array.mk (ZZ k9 q9++[10]))) (ρ51 0)),(.str (Str.mk (Array.mk (ZZ k10 q10++[10]))) (ρ55 0)),(.str (Str.mk (Array.mk (ZZ k11 q11++[10]))) (ρ59 0)),(.str (Str.mk (Array.mk (ZZ k12 q12++[10]))) (ρ63 0))]:List PySem.Value) 12 txt) [51] (hj _ _ _ _ (rl [(ρ19 0),(ρ23 0),(ρ27 0),(ρ31 0),(ρ35 0),(ρ39 0),(ρ43 0),(ρ47 0),(ρ51 0),(ρ55 0),(ρ59 0),(ρ63 0)])) fun ρ64=>.l 380 (.m (Ve w txt (ρ64 0)) [73] (IC w b _ _ _) fun ρ65=>.l 90010099610020650077010101040100010101041075 (.a fun a67=>.l 1 (.a fun a68=>.l 99 (.c 2 (Yg w b _ a67 #[(.int 0 0),(.int 25 0),(.int 1 0)]) (.l 2090006000502090218121900050218121900050218121900050079100111008003 (.k (Zk w ρ65 (ls0 ρ65) (chW false) ⟨#[119]⟩ false) [4,5,6,7] (Xc w b _ txt (ρ64 0) _ _ _ _ (hrem _) (fun _ hp=>(List.mem_append_left _ hp:_∈ZL w txt (ρ64 0) ρ65++RO))) fun ρ66=>.l 20900060005020902181219000502181219000502181219000500791001110080033002 (.k (Zk w ρ65 (LS.next (ls0 ρ65) (chW false) false ρ66) (chV k1 q1) (wd k1) (!quo k1 q1)) [4,5,6,7] (Xd w b _ txt (ρ64 0) _ _ _ _ _ (kLt hk1) (qLt hq1) ((hrem _).next _ _) (fun _ hp=>(List.mem_append_left _ hp:_∈ZL w txt (ρ64 0) ρ65++RO))) fun ρ67=>.l 20900060005020902181219000502181219000502181219000500791001110080033002 (.k (Zk w ρ65 (LS.next (LS.next (ls0 ρ65) (chW false) false ρ66) (chV k1 q1) (!quo k1 q1) ρ67) (chW (quo k1 q1)) ⟨#[119]⟩ (quo k1 q1)) [4,5,6,7] (Xc w b _ txt (ρ64 0) _ _ _ _ (((hrem _).next _ _).next _ _) (fun _ hp=>(List.mem_append_left _ hp:_∈ZL w txt (ρ64 0) ρ65++RO))) fun ρ68=>.l 20900060005020902181219000502181219000502181219000500791001110080033002 (.k (Zk w ρ65 (LS.next (LS.next (LS.next (ls0 ρ65) (chW false) false ρ66) (chV k1 q1) (!quo k1 q1) ρ67) (chW (quo k1 q1)) (quo k1 q1) ρ68) (chV k2 q2) (wd k2) (!quo k2 q2)) [4,5,6,7] (Xd w b _ txt (ρ64 0) _ _ _ _ _ (kLt hk2) (qLt hq2) ((((hrem _).next _ _).next _ _).next _ _) (fun _ hp=>(List.mem_append_left _ hp:_∈ZL w txt (ρ64 0) ρ65++RO))) fun ρ69=>.l 20900060005020902181219000502181219000502181219000500791001110080033002 (.k (Zk w ρ65 (LS.next (LS.next (LS.next (LS.next (ls0 ρ65) (chW false) false ρ66) (chV k1 q1) (!quo k1 q1) ρ67) (chW (quo k1 q1)) (quo k1 q1) ρ68) (chV k2 q2) (!quo k2 q2) ρ69) (chW (quo k2 q2)) ⟨#[119]⟩ (quo k2 q2)) [4,5,6,7] (Xc w b _ txt (ρ64 0) _ _ _ _ (((((hrem _).next _ _).next _ _).next _ _).next _ _) (fun _ hp=>(List.mem_append_left _ hp:_∈ZL w txt (ρ64 0) ρ65++RO))) fun ρ70=>.l 20900060005020902181219000502181219000502181219000500791001110080033002 (.k (Zk w ρ65 (LS.next (LS.next (LS.next (LS.next (LS.next (ls0 ρ65) (chW false) false ρ66) (chV k1 q1) (!quo k1 q1) ρ67) (chW (quo k1 q1)) (quo k1 q1) ρ68) (chV k2 q2) (!quo k2 q2) ρ69) (chW (quo k2 q2)) (quo k2 q2) ρ70) (chV k3 q3) (wd k3) (!quo k3 q3)) [4,5,6,7] (Xd w b _ txt (ρ64 0) _ _ _ _ _ (kLt hk3) (qLt hq3) ((((((hrem _).next _ _).next _ _).next _ _).next _ _).next _ _) (fun _ hp=>(List.mem_append_left _ hp:_∈ZL w txt (ρ64 0) ρ65++RO))) fun ρ71=>.l 20900060005020902181219000502181219000502181219000500791001110080033002 (.k (Zk w ρ65 (LS.next (LS.next (LS.next (LS.next (LS.next (LS.next (ls0 ρ65) (chW false) false ρ66) (chV k1 q1) (!quo k1 q1) ρ67) (chW (quo k1 q1)) (quo k1 q1) ρ68) (chV k2 q2) (!quo k2 q2) ρ69) (chW (quo k2 q2)) (quo k2 q2) ρ70) (chV k3 q3) (!quo k3 q3) ρ71) (chW (quo k3 q3)) ⟨#[119]⟩ (quo k3 q3)) [4,5,6,7] (Xc w b _ txt (ρ64 0) _ _ _ _ (((((((hrem _).next _ _).next _ _).next _ _).next _ _).next _ _).next _ _) (fun _ hp=>(List.mem_append_left _ hp:_∈ZL w txt (ρ64 0) ρ65++RO))) fun ρ72=>.l 20900060005020902181219000502181219000502181219000500791001110080033002 (.k (Zk w ρ65 (LS.next (LS.next (LS.next (LS.next (LS.next (LS.next (LS.next (ls0 ρ65) (chW false) false ρ66) (chV k1 q1) (!quo k1 q1) ρ67) (chW (quo k1 q1)) (quo k1 q1) ρ68) (chV k2 q2) (!quo k2 q2) ρ69) (chW (quo k2 q2)) (quo k2 q2) ρ70) (chV k3 q3) (!quo k3 q3) ρ71) (chW (quo k3 q3)) (quo k3 q3) ρ72) (chV k4 q4) (wd k4) (!quo k4 q4)) [4,5,6,7] (Xd w b _ txt (ρ64 0) _ _ _ _ _ (kLt hk4) (qLt hq4) ((((((((hrem _).next _ _).next _ _).next _ _).next _ _).next _ _).next _ _).next _ _) (fun _ hp=>(List.mem_append_left _ hp:_∈ZL w txt (ρ64 0) ρ65++RO))) fun ρ73=>.l 20900060005020902181219000502181219000502181219000500791001110080033002 (.k (Zk w ρ65 (LS.next (LS.next (LS.next (LS.next (LS.next (LS.next (LS.next (LS.next (ls0 ρ65) (chW false) false ρ66) (chV k1 q1) (!quo k1 q1) ρ67) (chW (quo k1 q1)) (quo k1 q1) ρ68) (chV k2 q2) (!quo k2 q2) ρ69) (chW (quo k2 q2)) (quo k2 q2) ρ70) (chV k3 q3) (!quo k3 q3) ρ71) (chW (quo k3 q3)) (quo k3 q3) ρ72) (chV k4 q4) (!quo k4 q4) ρ73) (chW (quo k4 q4)) ⟨#[119]⟩ (quo k4 q4)) [4,5,6,7] (Xc w b _ txt (ρ64 0) _ _ _ _ (((((((((hrem _).next _ _).next _ _).next _ _).next _ _).next _ _).next _ _).next _ _).next _ _) (fun _ hp=>(List.mem_append_left _ hp:_∈ZL w txt (ρ64 0) ρ65++RO))) fun ρ74=>.l 20900060005020902181219000502181219000502181219000500791001110080033002 (.k (Zk w ρ65 (LS.next (LS.next (LS.next (LS.next (LS.next (LS.next (LS.next (LS.next (LS.next (ls0 ρ65) (chW false) false ρ66) (chV k1 q1) (!quo k1 q1) ρ67) (chW (quo k1 q1)) (quo k1 q1) ρ68) (chV k2 q2) (!quo k2 q2) ρ69) (chW (quo k2 q2)) (quo k2 q2) ρ70) (chV k3 q3) (!quo k3 q3) ρ71) (chW (quo k3 q3)) (quo k3 q3) ρ72) (chV k4 q4) (!quo k4 q4) ρ73) (chW (quo k4 q4)) (quo k4 q4) ρ74) (chV k5 q5) (wd k5) (!quo k5 q5)) [4,5,6,7] (Xd w b _ txt (ρ64 0) _ _ _ _ _ (kLt hk5) (qLt hq5) ((((((((((hrem _).next _ _).next _ _).next _ _).next _ _).next _ _).next _ _).next _ _).next _ _).next _ _) (fun _ hp=>(List.mem_append_left _ hp:_∈ZL w txt (ρ64 0) ρ65++RO))) fun ρ75=>.l 20900060005020902181219000502181219000502181219000500791001110080033002 (.k (Zk w ρ65 (LS.next (LS.next (LS.next (LS.next (LS.next (LS.next (LS.next (LS.next (LS.next (LS.next (ls0 ρ65) (chW false) false ρ66) (chV k1 q1) (!quo k1 q1) ρ67) (chW (quo k1 q1)) (quo k1 q1) ρ68) (chV k2 q2) (!quo k2 q2) ρ69) (chW (quo k2 q2)) (quo k2 q2) ρ70) (chV k3 q3) (!quo k3 q3) ρ71) (chW (quo k3 q3)) (quo k3 q3) ρ72) (chV k4 q4) (!quo k4 q4) ρ73) (chW (quo k4 q4)) (quo k4 q4) ρ74) (chV k5 q5) (!quo k5 q5) ρ75) (chW (quo k5 q5)) ⟨#[119]⟩ (quo k5 q5)) [4,5,6,7] (Xc w b _ txt (ρ64 0) _ _ _ _ (((((((((((hrem _).next _ _).next _ _).next _ _).next _ _).next _ _).next _ _).next _ _).next _ _).next _ _).next _ _) (fun _ hp=>(List.mem_append_left _ hp:_∈ZL w txt (ρ64 0) ρ65++RO))) fun ρ76=>.l 20900060005020902181219000502181219000502181219000500791001110080033002 (.k (Zk w ρ65 (LS.next (LS.next (LS.next (LS.next (LS.next (LS.next (LS.next (LS.next (LS.next (LS.next (LS.next (ls0 ρ65) (chW false) false ρ66) (chV k1 q1) (!quo k1 q1) ρ67) (chW (quo k1 q1)) (quo k1 q1) ρ68) (chV k2 q2) (!quo k2 q2) ρ69) (chW (quo k2 q2)) (quo k2 q2) ρ70) (chV k3 q3) (!quo k3 q3) ρ71) (chW (quo k3 q3)) (quo k3 q3) ρ72) (chV k4 q4) (!quo k4 q4) ρ73) (chW (quo k4 q4)) (quo k4 q4) ρ74) (chV k5 q5) (!quo k5 q5) ρ75) (chW (quo k5 q5)) (quo k5 q5) ρ76) (chV k6 q6) (wd k6) (!quo k6 q6)) [4,5,6,7] (Xd w b _ txt (ρ64 0) _ _ _ _ _ (kLt hk6) (qLt hq6) ((((((((((((hrem _).next _ _).next _ _).next _ _).next _ _).next _ _).next _ _).next _ _).next _ _).next _ _).next _ _).next _ _) (fun _ hp=>(List.mem_append_left _ hp:_∈ZL w txt (ρ64 0) ρ65++RO))) fun ρ77=>.l 20900060005020902181219000502181219000502181219000500791001110080033002 (.k (Zk w ρ65 (LS.next (LS.next (LS.next (LS.next (LS.next (LS.next (LS.next (LS.next (LS.next (LS.next (LS.next (LS.next (ls0 ρ65) (chW false) false ρ66) (chV k1 q1) (!quo k1 q1) ρ67) (chW (quo k1 q1)) (quo k1 q1) ρ68) (chV k2 q2) (!quo k2 q2) ρ69) (chW (quo k2 q2)) (quo k2 q2) ρ70) (chV k3 q3) (!quo k3 q3) ρ71) (chW (quo k3 q3)) (quo k3 q3) ρ72) (chV k4 q4) (!quo k4 q4) ρ73) (chW (quo k4 q4)) (quo k4 q4) ρ74) (chV k5 q5) (!quo k5 q5) ρ75) (chW (quo k5 q5)) (quo k5 q5) ρ76) (chV k6 q6) (!quo k6 q6) ρ77) (chW (quo k6 q6)) ⟨#[119]⟩ (quo k6 q6)) [4,5,6,7] (Xc w b _ txt (ρ64 0) _ _ _ _ (((((((((((((hrem _).next _ _).next _ _).next _ _).next _ _).next _ _).next _ _).next _ _).next _ _).next _ _).next _ _).next _ _).next _ _) (fun _ hp=>(List.mem_append_left _ hp:_∈ZL w txt (ρ64 0) ρ65++RO))) fun ρ78=>.l 20900060005020902181219000502181219000502181219000500791001110080033002 (.k (Zk w ρ65 (LS.next (LS.next (LS.next (LS.next (LS.next (LS.next (LS.next (LS.next (LS.next (LS.next (LS.next (LS.next (LS.next (ls0 ρ65) (chW false) false ρ66) (chV k1 q1) (!quo k1 q1) ρ67) (chW (quo k1 q1)) (quo k1 q1) ρ68) (chV k2 q2) (!quo k2 q2) ρ69) (chW (quo k2 q2)) (quo k2 q2) ρ70) (chV k3 q3) (!quo k3 q3) ρ71) (chW (quo k3 q3)) (quo k3 q3) ρ72) (chV k4 q4) (!quo k4 q4) ρ73) (chW (quo k4 q4)) (quo k4 q4) ρ74) (chV k5 q5) (!quo k5 q5) ρ75) (chW (quo k5 q5)) (quo k5 q5) ρ76) (chV k6 q6) (!quo k6 q6) ρ77) (chW (quo k6 q6)) (quo k6 q6) ρ78) (chV k7 q7) (wd k7) (!quo k7 q7)) [4,5,6,7] (Xd w b _ txt (ρ64 0) _ _ _ _ _ (kLt hk7) (qLt hq7) ((((((((((((((hrem _).next _ _).next _ _).next _ _).next _ _).next _ _).next _ _).next _ _).next _ _).next _ _).next _ _).next _ _).next _ _).next _ _) (fun _ hp=>(List.mem_append_left _ hp:_∈ZL w txt (ρ64 0) ρ65++RO))) fun ρ79=>.l 20900060005020902181219000502181219000502181219000500791001110080033002 (.k (Zk w ρ65 (LS.next (LS.next (LS.next (LS.next (LS.next (LS.next (LS.next (LS.next (LS.next (LS.next (LS.next (LS.next (LS.next (LS.next (ls0 ρ65) (chW false) false ρ66) (chV k1 q1) (!quo k1 q1) ρ67) (chW (quo k1 q1)) (quo k1 q1) ρ68) (chV k2 q2) (!quo k2 q2) ρ69) (chW (quo k2 q2)) (quo k2 q2) ρ70) (chV k3 q3) (!quo k3 q3) ρ71) (chW (quo k3 q3)) (quo k3 q3) ρ72) (chV k4 q4) (!quo k4 q4) ρ73) (chW (quo k4 q4)) (quo k4 q4) ρ74) (chV k5 q5) (!quo k5 q5) ρ75) (chW (quo k5 q5)) (quo k5 q5) ρ76) (chV k6 q6) (!quo k6 q6) ρ77) (chW (quo k6 q6)) (quo k6 q6) ρ78) (chV k7 q7) (!quo k7 q7) ρ79) (chW (quo k7 q7)) ⟨#[119]⟩ (quo k7 q7)) [4,5,6,7] (Xc w b _ txt (ρ64 0) _ _ _ _ (((((((((((((((hrem _).next _ _).next _ _).next _ _).next _ _).next _ _).next _ _).next _ _).next _ _).next _ _).next _ _).next _ _).next _ _).next _ _).next _ _) (fun _ hp=>(List.mem_append_left _ hp:_∈ZL w txt (ρ64 0) ρ65++RO))) fun ρ80=>.l 20900060005020902181219000502181219000502181219000500791001110080033002 (.k (Zk w ρ65 (LS.next (LS.next (LS.next (LS.next (LS.next (LS.next (LS.next (LS.next (LS.next (LS.next (LS.next (LS.next (LS.next (LS.next (LS.next (ls0 ρ65) (chW false) false ρ66) (chV k1 q1) (!quo k1 q1) ρ67) (chW (quo k1 q1)) (quo k1 q1) ρ68) (chV k2 q2) (!quo k2 q2) ρ69) (chW (quo k2 q2)) (quo k2 q2) ρ70) (chV k3 q3) (!quo k3 q3) ρ71) (chW (quo k3 q3)) (quo k3 q3) ρ72) (chV k4 q4) (!quo k4 q4) ρ73) (chW (quo k4 q4)) (quo k4 q4) ρ74) (chV k5 q5) (!quo k5 q5) ρ75) (chW (quo k5 q5)) (quo k5 q5) ρ76) (chV k6 q6) (!quo k6 q6) ρ77) (chW (quo k6 q6)) (quo k6 q6) ρ78) (chV k7 q7) (!quo k7 q7) ρ79) (chW (quo k7 q7)) (quo k7 q7) ρ80) (chV k8 q8) (wd k8) (!quo k8 q8)) [4,5,6,7] (Xd w b _ txt (ρ64 0) _ _ _ _ _ (kLt hk8) (qLt hq8) ((((((((((((((((hrem _).next _ _).next _ _).next _ _).next _ _).next _ _).next _ _).next _ _).next _ _).next _ _).next _ _).next _ _).next _ _).next _ _).next _ _).next _ _) (fun _ hp=>(List.mem_append_left _ hp:_∈ZL w txt (ρ64 0) ρ65++RO))) fun ρ81=>.l 20900060005020902181219000502181219000502181219000500791001110080033002 (.k (Zk w ρ65 (LS.next (LS.next (LS.next (LS.next (LS.next (LS.next (LS.next (LS.next (LS.next (LS.next (LS.next (LS.next (LS.next (LS.next (LS.next (LS.next (ls0 ρ65) (chW false) false ρ66) (chV k1 q1) (!quo k1 q1) ρ67) (chW (quo k1 q1)) (quo k1 q1) ρ68) (chV k2 q2) (!quo k2 q2) ρ69) (chW (quo k2 q2)) (quo k2 q2) ρ70) (chV k3 q3) (!quo k3 q3) ρ71) (chW (quo k3 q3)) (quo k3 q3) ρ72) (chV k4 q4) (!quo k4 q4) ρ73) (chW (quo k4 q4)) (quo k4 q4) ρ74) (chV k5 q5) (!quo k5 q5) ρ75) (chW (quo k5 q5)) (quo k5 q5) ρ76) (chV k6 q6) (!quo k6 q6) ρ77) (chW (quo k6 q6)) (quo k6 q6) ρ78) (chV k7 q7) (!quo k7 q7) ρ79) (chW (quo k7 q7)) (quo k7 q7) ρ80) (chV k8 q8) (!quo k8 q8) ρ81) (chW (quo k8 q8)) ⟨#[119]⟩ (quo k8 q8)) [4,5,6,7] (Xc w b _ txt (ρ64 0) _ _ _ _ (((((((((((((((((hrem _).next _ _).next _ _).next _ _).next _ _).next _ _).next _ _).next _ _).next _ _).next _ _).next _ _).next _ _).next _ _).next _ _).next _ _).next _ _).next _ _) (fun _ hp=>(List.mem_append_left _ hp:_∈ZL w txt (ρ64 0) ρ65++RO))) fun ρ82=>.l 20900060005020902181219000502181219000502181219000500791001110080033002 (.k (Zk w ρ65 (LS.next (LS.next (LS.next (LS.next (LS.next (LS.next (LS.next (LS.next (LS.next (LS.next (LS.next (LS.next (LS.next (LS.next (LS.next (LS.next (LS.next (ls0 ρ65) (chW false) false ρ66) (chV k1 q1) (!quo k1 q1) ρ67) (chW (quo k1 q1)) (quo k1 q1) ρ68) (chV k2 q2) (!quo k2 q2) ρ69) (chW (quo k2 q2)) (quo k2 q2) ρ70) (chV k3 q3) (!quo k3 q3) ρ71) (chW (quo k3 q3)) (quo k3 q3) ρ72) (chV k4 q4) (!quo k4 q4) ρ73) (chW (quo k4 q4)) (quo k4 q4) ρ74) (chV k5 q5) (!quo k5 q5) ρ75) (chW (quo k5 q5)) (quo k5 q5) ρ76) (chV k6 q6) (!quo k6 q6) ρ77) (chW (quo k6 q6)) (quo k6 q6) ρ78) (chV k7 q7) (!quo k7 q7) ρ79) (chW (quo k7 q7)) (quo k7 q7) ρ80) (chV k8 q8) (!quo k8 q8) ρ81) (chW (quo k8 q8)) (quo k8 q8) ρ82) (chV k9 q9) (wd k9) (!quo k9 q9)) [4,5,6,7] (Xd w b _ txt (ρ64 0) _ _ _ _ _ (kLt hk9) (qLt hq9) ((((((((((((((((((hrem _).next _ _).next _ _).next _ _).next _ _).next _ _).next _ _).next _ _).next _ _).next _ _).next _ _).next _ _).next _ _).next _ _).next _ _).next _ _).next _ _).next _ _) (fun _ hp=>(List.mem_append_left _ hp:_∈ZL w txt (ρ64 0) ρ65++RO))) fun ρ83=>.l 20900060005020902181219000502181219000502181219000500791001110080033002 (.k (Zk w ρ65 (LS.next (LS.next (LS.next (LS.next (LS.next (LS.next (LS.next (LS.next (LS.next (LS.next (LS.next (LS.next (LS.next (LS.next (LS.next (LS.next (LS.next (LS.next (ls0 ρ65) (chW false) false ρ66) (chV k1 q1) (!quo k1 q1) ρ67) (chW (quo k1 q1)) (quo k1 q1) ρ68) (chV k2 q2) (!quo k2 q2) ρ69) (chW (quo k2 q2)) (quo k2 q2) ρ70) (chV k3 q3) (!quo k3 q3) ρ71) (chW (quo k3 q3)) (quo k3 q3) ρ72) (chV k4 q4) (!quo k4 q4) ρ73) (chW (quo k4 q4)) (quo k4 q4) ρ74) (chV k5 q5) (!quo k5 q5) ρ75) (chW (quo k5 q5)) (quo k5 q5) ρ76) (chV k6 q6) (!quo k6 q6) ρ77) (chW (quo k6 q6)) (quo k6 q6) ρ78) (chV k7 q7) (!quo k7 q7) ρ79) (chW (quo k7 q7)) (quo k7 q7) ρ80) (chV k8 q8) (!quo k8 q8) ρ81) (chW (quo k8 q8)) (quo k8 q8) ρ82) (chV k9 q9) (!quo k9 q9) ρ83) (chW (quo k9 q9)) ⟨#[119]⟩ (quo k9 q9)) [4,5,6,7] (Xc w b _ txt (ρ64 0) _ _ _ _ (((((((((((((((((((hrem _).next _ _).next _ _).next _ _).next _ _).next _ _).next _ _).next _ _).next _ _).next _ _).next _ _).next _ _).next _ _).next _ _).next _ _).next _ _).next _ _).next _ _).next _ _) (fun _ hp=>(List.mem_append_left _ hp:_∈ZL w txt (ρ64 0) ρ65++RO))) fun ρ84=>.l 20900060005020902181219000502181219000502181219000500791001110080033002 (.k (Zk w ρ65 (LS.next (LS.next (LS.next (LS.next (LS.next (LS.next (LS.next (LS.next (LS.next (LS.next (LS.next (LS.next (LS.next (LS.next (LS.next (LS.next (LS.next (LS.next (LS.next (ls0 ρ65) (chW false) false ρ66) (chV k1 q1) (!quo k1 q1) ρ67) (chW (quo k1 q1)) (quo k1 q1) ρ68) (chV k2 q2) (!quo k2 q2) ρ69) (chW (quo k2 q2)) (quo k2 q2) ρ70) (chV k3 q3) (!quo k3 q3) ρ71) (chW (quo k3 q3)) (quo k3 q3) ρ72) (chV k4 q4) (!quo k4 q4) ρ73) (chW (quo k4 q4)) (quo k4 q4) ρ74) (chV k5 q5) (!quo k5 q5) ρ75) (chW (quo k5 q5)) (quo k5 q5) ρ76) (chV k6 q6) (!quo k6 q6) ρ77) (chW (quo k6 q6)) (quo k6 q6) ρ78) (chV k7 q7) (!quo k7 q7) ρ79) (chW (quo k7 q7)) (quo k7 q7) ρ80) (chV k8 q8) (!quo k8 q8) ρ81) (chW (quo k8 q8)) (quo k8 q8) ρ82) (chV k9 q9) (!quo k9 q9) ρ83) (chW (quo k9 q9)) (quo k9 q9) ρ84) (chV k10 q10) (wd k10) (!quo k10 q10)) [4,5,6,7] (Xd w b _ txt (ρ64 0) _ _ _ _ _ (kLt hk10) (qLt hq10) ((((((((((((((((((((hrem _).next _ _).next _ _).next _ _).next _ _).next _ _).next _ _).next _ _).next _ _).next _ _).next _ _).next _ _).next _ _).next _ _).next _ _).next _ _).next _ _).next _ _).next _ _).next _ _) (fun _ hp=>(List.mem_append_left _ hp:_∈ZL w txt (ρ64 0) ρ65++RO))) fun ρ85=>.l 20900060005020902181219000502181219000502181219000500791001110080033002 (.k (Zk w ρ65 (LS.next (LS.next (LS.next (LS.next (LS.next (LS.next (LS.next (LS.next (LS.next (LS.next (LS.next (LS.next (LS.next (LS.next (LS.next (LS.next (LS.next (LS.next (LS.next (LS.next (ls0 ρ65) (chW false) false ρ66) (chV k1 q1) (!quo k1 q1) ρ67) (chW (quo k1 q1)) (quo k1 q1) ρ68) (chV k2 q2) (!quo k2 q2) ρ69) (chW (quo k2 q2)) (quo k2 q2) ρ70) (chV k3 q3) (!quo k3 q3) ρ71) (chW (quo k3 q3)) (quo k3 q3) ρ72) (chV k4 q4) (!quo k4 q4) ρ73) (chW (quo k4 q4)) (quo k4 q4) ρ74) (chV k5 q5) (!quo k5 q5) ρ75) (chW (quo k5 q5)) (quo k5 q5) ρ76) (chV k6 q6) (!quo k6 q6) ρ77) (chW (quo k6 q6)) (quo k6 q6) ρ78) (chV k7 q7) (!quo k7 q7) ρ79) (chW (quo k7 q7)) (quo k7 q7) ρ80) (chV k8 q8) (!quo k8 q8) ρ81) (chW (quo k8 q8)) (quo k8 q8) ρ82) (chV k9 q9) (!quo k9 q9) ρ83) (chW (quo k9 q9)) (quo k9 q9) ρ84) (chV k10 q10) (!quo k10 q10) ρ85) (chW (quo k10 q10)) ⟨#[119]⟩ (quo k10 q10)) [4,5,6,7] (Xc w b _ txt (ρ64 0) _ _ _ _ (((((((((((((((((((((hrem _).next _ _).next _ _).next _ _).next _ _).next _ _).next _ _).next _ _).next _ _).next _ _).next _ _).next _ _).next _ _).next _ _).next _ _).next _ _).next _ _).next _ _).next _ _).next _ _).next _ _) (fun _ hp=>(List.mem_append_left _ hp:_∈ZL w txt (ρ64 0) ρ65++RO))) fun ρ86=>.l 20900060005020902181219000502181219000502181219000500791001110080033002 (.k (Zk w ρ65 (LS.next (LS.next (LS.next (LS.next (LS.next (LS.next (LS.next (LS.next (LS.next (LS.next (LS.next (LS.next (LS.next (LS.next (LS.next (LS.next (LS.next (LS.next (LS.next (LS.next (LS.next (ls0 ρ65) (chW false) false ρ66) (chV k1 q1) (!quo k1 q1) ρ67) (chW (quo k1 q1)) (quo k1 q1) ρ68) (chV k2 q2) (!quo k2 q2) ρ69) (chW (quo k2 q2)) (quo k2 q2) ρ70) (chV k3 q3) (!quo k3 q3) ρ71) (chW (quo k3 q3)) (quo k3 q3) ρ72) (chV k4 q4) (!quo k4 q4) ρ73) (chW (quo k4 q4)) (quo k4 q4) ρ74) (chV k5 q5) (!quo k5 q5) ρ75) (chW (quo k5 q5)) (quo k5 q5) ρ76) (chV k6 q6) (!quo k6 q6) ρ77) (chW (quo k6 q6)) (quo k6 q6) ρ78) (chV k7 q7) (!quo k7 q7) ρ79) (chW (quo k7 q7)) (quo k7 q7) ρ80) (chV k8 q8) (!quo k8 q8) ρ81) (chW (quo k8 q8)) (quo k8 q8) ρ82) (chV k9 q9) (!quo k9 q9) ρ83) (chW (quo k9 q9)) (quo k9 q9) ρ84) (chV k10 q10) (!quo k10 q10) ρ85) (chW (quo k10 q10)) (quo k10 q10) ρ86) (chV k11 q11) (wd k11) (!quo k11 q11)) [4,5,6,7] (Xd w b _ txt (ρ64 0) _ _ _ _ _ (kLt hk11) (qLt hq11) ((((((((((((((((((((((hrem _).next _ _).next _ _).next _ _).next _ _).next _ _).next _ _).next _ _).next _ _).next _ _).next _ _).next _ _).next _ _).next _ _).next _ _).next _ _).next _ _).next _ _).next _ _).next _ _).next _ _).next _ _) (fun _ hp=>(List.mem_append_left _ hp:_∈ZL w txt (ρ64 0) ρ65++RO))) fun ρ87=>.l 20900060005020902181219000502181219000502181219000500791001110080033002 (.k (Zk w ρ65 (LS.next (LS.next (LS.next (LS.next (LS.next (LS.next (LS.next (LS.next (LS.next (LS.next (LS.next (LS.next (LS.next (LS.next (LS.next (LS.next (LS.next (LS.next (LS.next (LS.next (LS.next (LS.next (ls0 ρ65) (chW false) false ρ66) (chV k1 q1) (!quo k1 q1) ρ67) (chW (quo k1 q1)) (quo k1 q1) ρ68) (chV k2 q2) (!quo k2 q2) ρ69) (chW (quo k2 q2)) (quo k2 q2) ρ70) (chV k3 q3) (!quo k3 q3) ρ71) (chW (quo k3 q3)) (quo k3 q3) ρ72) (chV k4 q4) (!quo k4 q4) ρ73) (chW (quo k4 q4)) (quo k4 q4) ρ74) (chV k5 q5) (!quo k5 q5) ρ75) (chW (quo k5 q5)) (quo k5 q5) ρ76) (chV k6 q6) (!quo k6 q6) ρ77) (chW (quo k6 q6)) (quo k6 q6) ρ78) (chV k7 q7) (!quo k7 q7) ρ79) (chW (quo k7 q7)) (quo k7 q7) ρ80) (chV k8 q8) (!quo k8 q8) ρ81) (chW (quo k8 q8)) (quo k8 q8) ρ82) (chV k9 q9) (!quo k9 q9) ρ83) (chW (quo k9 q9)) (quo k9 q9) ρ84) (chV k10 q10) (!quo k10 q10) ρ85) (chW (quo k10 q10)) (quo k10 q10) ρ86) (chV k11 q11) (!quo k11 q11) ρ87) (chW (quo k11 q11)) ⟨#[119]⟩ (quo k11 q11)) [4,5,6,7] (Xc w b _ txt (ρ64 0) _ _ _ _ (((((((((((((((((((((((hrem _).next _ _).next _ _).next _ _).next _ _).next _ _).next _ _).next _ _).next _ _).next _ _).next _ _).next _ _).next _ _).next _ _).next _ _).next _ _).next _ _).next _ _).next _ _).next _ _).next _ _).next _ _).next _ _) (fun _ hp=>(List.mem_append_left _ hp:_∈ZL w txt (ρ64 0) ρ65++RO))) fun ρ88=>.l 20900060005020902181219000502181219000502181219000500791001110080033002 (.k (Zk w ρ65 (LS.next (LS.next (LS.next (LS.next (LS.next (LS.next (LS.next (LS.next (LS.next (LS.next (LS.next (LS.next (LS.next (LS.next (LS.next (LS.next (LS.next (LS.next (LS.next (LS.next (LS.next (LS.next (LS.next (ls0 ρ65) (chW false) false ρ66) (chV k1 q1) (!quo k1 q1) ρ67) (chW (quo k1 q1)) (quo k1 q1) ρ68) (chV k2 q2) (!quo k2 q2) ρ69) (chW (quo k2 q2)) (quo k2 q2) ρ70) (chV k3 q3) (!quo k3 q3) ρ71) (chW (quo k3 q3)) (quo k3 q3) ρ72) (chV k4 q4) (!quo k4 q4) ρ73) (chW (quo k4 q4)) (quo k4 q4) ρ74) (chV k5 q5) (!quo k5 q5) ρ75) (chW (quo k5 q5)) (quo k5 q5) ρ76) (chV k6 q6) (!quo k6 q6) ρ77) (chW (quo k6 q6)) (quo k6 q6) ρ78) (chV k7 q7) (!quo k7 q7) ρ79) (chW (quo k7 q7)) (quo k7 q7) ρ80) (chV k8 q8) (!quo k8 q8) ρ81) (chW (quo k8 q8)) (quo k8 q8) ρ82) (chV k9 q9) (!quo k9 q9) ρ83) (chW (quo k9 q9)) (quo k9 q9) ρ84) (chV k10 q10) (!quo k10 q10) ρ85) (chW (quo k10 q10)) (quo k10 q10) ρ86) (chV k11 q11) (!quo k11 q11) ρ87) (chW (quo k11 q11)) (quo k11 q11) ρ88) (chV k12 q12) (wd k12) (!quo k12 q12)) [4,5,6,7] (Xd w b _ txt (ρ64 0) _ _ _ _ _ (kLt hk12) (qLt hq12) ((((((((((((((((((((((((hrem _).next _ _).next _ _).next _ _).next _ _).next _ _).next _ _).next _ _).next _ _).next _ _).next _ _).next _ _).next _ _).next _ _).next _ _).next _ _).next _ _).next _ _).next _ _).next _ _).next _ _).next _ _).next _ _).next _ _) (fun _ hp=>(List.mem_append_left _ hp:_∈ZL w txt (ρ64 0) ρ65++RO))) fun ρ89=>.l 20900060005020902181219000502181219000502181219000500791001110080033002 (.k (Zk w ρ65 (LS.next (LS.next (LS.next (LS.next (LS.next (LS.next (LS.next (LS.next (LS.next (LS.next (LS.next (LS.next (LS.next (LS.next (LS.next (LS.next (LS.next (LS.next (LS.next (LS.next (LS.next (LS.next (LS.next (LS.next (ls0 ρ65) (chW false) false ρ66) (chV k1 q1) (!quo k1 q1) ρ67) (chW (quo k1 q1)) (quo k1 q1) ρ68) (chV k2 q2) (!quo k2 q2) ρ69) (chW (quo k2 q2)) (quo k2 q2) ρ70) (chV k3 q3) (!quo k3 q3) ρ71) (chW (quo k3 q3)) (quo k3 q3) ρ72) (chV k4 q4) (!quo k4 q4) ρ73) (chW (quo k4 q4)) (quo k4 q4) ρ74) (chV k5 q5) (!quo k5 q5) ρ75) (chW (quo k5 q5)) (quo k5 q5) ρ76) (chV k6 q6) (!quo k6 q6) ρ77) (chW (quo k6 q6)) (quo k6 q6) ρ78) (chV k7 q7) (!quo k7 q7) ρ79) (chW (quo k7 q7)) (quo k7 q7) ρ80) (chV k8 q8) (!quo k8 q8) ρ81) (chW (quo k8 q8)) (quo k8 q8) ρ82) (chV k9 q9) (!quo k9 q9) ρ83) (chW (quo k9 q9)) (quo k9 q9) ρ84) (chV k10 q10) (!quo k10 q10) ρ85) (chW (quo k10 q10)) (quo k10 q10) ρ86) (chV k11 q11) (!quo k11 q11) ρ87) (chW (quo k11 q11)) (quo k11 q11) ρ88) (chV k12 q12) (!quo k12 q12) ρ89) (chE (quo k12 q12)) ⟨#[]⟩ (quo k12 q12)) [4,5,6,7] (QJ w b _ txt (ρ64 0) _ _ _ (((((((((((((((((((((((((hrem _).next _ _).next _ _).next _ _).next _ _).next _ _).next _ _).next _ _).next _ _).next _ _).next _ _).next _ _).next _ _).next _ _).next _ _).next _ _).next _ _).next _ _).next _ _).next _ _).next _ _).next _ _).next _ _).next _ _).next _ _) (fun _ hp=>(List.mem_append_left _ hp:_∈ZL w txt (ρ64 0) ρ65++RO))) fun ρ90=>.l 1109940033002 (.t fun t148=>.l 20031083 (.f [4,1,2,7,118,1,8,3,0] (ID w sc ep t0' a0' a1' a2' a3' vs T a c g [k1,k2,k3,k4,k5,k6,k7,k8,k9,k10,k11,k12] txt (ρ64 0) ρ65 ρ2 ρ3 (LS.next (LS.next (LS.next (LS.next (LS.next (LS.next (LS.next (LS.next (LS.next (LS.next (LS.next (LS.next (LS.next (LS.next (LS.next (LS.next (LS.next (LS.next (LS.next (LS.next (LS.next (LS.next (LS.next (LS.next (LS.next (ls0 ρ65) (chW false) false ρ66) (chV k1 q1) (!quo k1 q1) ρ67) (chW (quo k1 q1)) (quo k1 q1) ρ68) (chV k2 q2) (!quo k2 q2) ρ69) (chW (quo k2 q2)) (quo k2 q2) ρ70) (chV k3 q3) (!quo k3 q3) ρ71) (chW (quo k3 q3)) (quo k3 q3) ρ72) (chV k4 q4) (!quo k4 q4) ρ73) (chW (quo k4 q4)) (quo k4 q4) ρ74) (chV k5 q5) (!quo k5 q5) ρ75) (chW (quo k5 q5)) (quo k5 q5) ρ76) (chV k6 q6) (!quo k6 q6) ρ77) (chW (quo k6 q6)) (quo k6 q6) ρ78) (chV k7 q7) (!quo k7 q7) ρ79) (chW (quo k7 q7)) (quo k7 q7) ρ80) (chV k8 q8) (!quo k8 q8) ρ81) (chW (quo k8 q8)) (quo k8 q8) ρ82) (chV k9 q9) (!quo k9 q9) ρ83) (chW (quo k9 q9)) (quo k9 q9) ρ84) (chV k10 q10) (!quo k10 q10) ρ85) (chW (quo k10 q10)) (quo k10 q10) ρ86) (chV k11 q11) (!quo k11 q11) ρ87) (chW (quo k11 q11)) (quo k11 q11) ρ88) (chV k12 q12) (!quo k12 q12) ρ89) (chE (quo k12 q12)) (quo k12 q12) ρ90) (EC (((((((((((((((((((((((((hrem _).next _ _).next _ _).next _ _).next _ _).next _ _).next _ _).next _ _).next _ _).next _ _).next _ _).next _ _).next _ _).next _ _).next _ _).next _ _).next _ _).next _ _).next _ _).next _ _).next _ _).next _ _).next _ _).next _ _).next _ _) _ _) (rl [ρ66 0,ρ67 0,ρ68 0,ρ69 0,ρ70 0,ρ71 0,ρ72 0,ρ73 0,ρ74 0,ρ75 0,ρ76 0,ρ77 0,ρ78 0,ρ79 0,ρ80 0,ρ81 0,ρ82 0,ρ83 0,ρ84 0,ρ85 0,ρ86 0,ρ87 0,ρ88 0,ρ89 0,ρ90 0,0,0,0,0,0,ρ4 0,ρ5 0,ρ6 0,ρ7 0,ρ8 0,ρ9 0,ρ10 0,ρ11 0,ρ12 0,ρ13 0,ρ14 0,ρ15 0,0,0,0,0,0,0,0,0,t0,ρ0 0,t1,ρ1 0,t2,ρ3 0,t15,a5,t88,a14,t148,a68])))))))))))))))))))))))))))))))))))))))))))))))))))))))))))))))))))))))))))))))))))))))))))))))))))))))))))))))))))))))))))))))))))))))
theorem Hf (w:World) (b:Bool) (RO:ZA) (sc ep t0' a0' a1' a2' a3':Nat) (vs:List PySem.Value) (n1 n2 n3 n4 n5 n6 n7 n8 n9 n10 n11 n12 T a c g k1 k2 k3 k4 k5 k6 k7 k8 k9 k10 k11 k12 q1 q2 q3 q4 q5 q6 q7 q8 q9 q10 q11 q12:Nat) (txt:PySem.Str) (hn:∀ RO':ZA,(Wt sc vs ep [n1,n2,n3,n4,n5,n6,n7,n8,n9,n10,n11,n12]).ok (wf w b) RO' 600) (hT:List.sum [n1,n2,n3,n4,n5,n6,n7,n8,n9,n10,n11,n12]=T) (hb:T < 1000000000000000000) (hr:∀ (RO':ZA) (t:Nat),(Ze 289 T t a c g).ok (wf w b) RO' 800) (hz:∀ (RO':ZA) (t:Nat),(Ze 296 T t a c g).ok (wf w b) RO' 800) (hk1:n1 % 6 + 6 * (n1 / 6 % 2)=k1) (hk2:n2 % 6 + 6 * (n2 / 6 % 2)=k2) (hk3:n3 % 6 + 6 * (n3 / 6 % 2)=k3) (hk4:n4 % 6 + 6 * (n4 / 6 % 2)=k4) (hk5:n5 % 6 + 6 * (n5 / 6 % 2)=k5) (hk6:n6 % 6 + 6 * (n6 / 6 % 2)=k6) (hk7:n7 % 6 + 6 * (n7 / 6 % 2)=k7) (hk8:n8 % 6 + 6 * (n8 / 6 % 2)=k8) (hk9:n9 % 6 + 6 * (n9 / 6 % 2)=k9) (hk10:n10 % 6 + 6 * (n10 / 6 % 2)=k10) (hk11:n11 % 6 + 6 * (n11 / 6 % 2)=k11) (hk12:n12 % 6 + 6 * (n12 / 6 % 2)=k12) (hq1:n1 / 12 % 2=q1) (hq2:n2 / 12 % 2=q2) (hq3:n3 / 12 % 2=q3) (hq4:n4 / 12 % 2=q4) (hq5:n5 / 12 % 2=q5) (hq6:n6 / 12 % 2=q6) (hq7:n7 / 12 % 2=q7) (hq8:n8 / 12 % 2=q8) (hq9:n9 / 12 % 2=q9) (hq10:n10 / 12 % 2=q10) (hq11:n11 / 12 % 2=q11) (hq12:n12 / 12 % 2=q12) (hj:∀ (RO':ZA) (l t e:Nat) (u:Nat→Nat),(VP l t ([.str ⟨⟨ZZ k1 q1++[10]⟩⟩ (u 0),.str ⟨⟨ZZ k2 q2++[10]⟩⟩ (u 1),.str ⟨⟨ZZ k3 q3++[10]⟩⟩ (u 2),.str ⟨⟨ZZ k4 q4++[10]⟩⟩ (u 3),.str ⟨⟨ZZ k5 q5++[10]⟩⟩ (u 4),.str ⟨⟨ZZ k6 q6++[10]⟩⟩ (u 5),.str ⟨⟨ZZ k7 q7++[10]⟩⟩ (u 6),.str ⟨⟨ZZ k8 q8++[10]⟩⟩ (u 7),.str ⟨⟨ZZ k9 q9++[10]⟩⟩ (u 8),.str ⟨⟨ZZ k10 q10++[10]⟩⟩ (u 9),.str ⟨⟨ZZ k11 q11++[10]⟩⟩ (u 10),.str ⟨⟨ZZ k12 q12++[10]⟩⟩ (u 11)]:List PySem.Value) e txt).ok (wf w b) RO' 965) (hrem:∀ ρ:Nat→Nat,Rem txt (ls0 ρ) (chW false++(chV k1 q1++(chW (quo k1 q1)++(chV k2 q2++(chW (quo k2 q2)++(chV k3 q3++(chW (quo k3 q3)++(chV k4 q4++(chW (quo k4 q4)++(chV k5 q5++(chW (quo k5 q5)++(chV k6 q6++(chW (quo k6 q6)++(chV k7 q7++(chW (quo k7 q7)++(chV k8 q8++(chW (quo k8 q8)++(chV k9 q9++(chW (quo k9 q9)++(chV k10 q10++(chW (quo k10 q10)++(chV k11 q11++(chW (quo k11 q11)++(chV k12 q12++(chE (quo k12 q12))))))))))))))))))))))))))):Zd (wf w b) RO 400 (exT ((Zf w.params).take 7) (YR w.params a0' a1' a2' a3')) (Vf w sc ep t0' a0' a1' a2' a3' vs) (Ip w sc ep t0' a0' a1' a2' a3' vs T a c g [k1,k2,k3,k4,k5,k6,k7,k8,k9,k10,k11,k12] txt):=
 Zd.ofK (KH w b RO sc ep t0' a0' a1' a2' a3' vs n1 n2 n3 n4 n5 n6 n7 n8 n9 n10 n11 n12 T a c g k1 k2 k3 k4 k5 k6 k7 k8 k9 k10 k11 k12 q1 q2 q3 q4 q5 q6 q7 q8 q9 q10 q11 q12 txt hn hT hb hr hz hk1 hk2 hk3 hk4 hk5 hk6 hk7 hk8 hk9 hk10 hk11 hk12 hq1 hq2 hq3 hq4 hq5 hq6 hq7 hq8 hq9 hq10 hq11 hq12 hj hrem) (fun _=>(by cases b<;>kernel_rfl))
end
section
open PySem PySem.W PySem.W.X PySem.Calls PyProof.Rows PySem.Spec
noncomputable def QM:Expr→Expr:=fun e=>match e with | .Compare l _ _ _=>l | e=>e
noncomputable def Uw:Expr→Expr:=fun e=>match e with | .Compare _ _ [r] _=>r | e=>e
noncomputable def WD:List Stmt→Expr:=fun l=>match l with | .If t _ _ _::_=>t | _=>.Constant .none 0 ⟨0,0,0,0⟩
noncomputable def SV:List Stmt→Expr:=fun l=>match l with | .Return (some e) _::_=>e | _=>.Constant .none 0 ⟨0,0,0,0⟩
noncomputable def ZS (vs:List Value):Obj:=⟨.type "tuple",none,.seq ⟨vs⟩ 0,#[]⟩
noncomputable def IE (w:World) (sc t0 T a0 a1 rm:Nat) (u:Nat→Nat):Con:={ code:=.call (.ref 320) ⟨[.ref sc],[]⟩,mem:=[(a1,Zn (some (.ref rm))),(a0,frO (frA w sc t0 T u) 7)],r:=fun ρ=>.ok (.ret (.ref (ρ 0))),upd:=fun _=>[Zn (some (.ref rm)),frO (frA w sc t0 T u) 7],new:=fun ρ=>[(ρ 0,ZS [.ref rm,.ref (u 61)])] }
noncomputable def Wd (ks:List Nat) (i:Nat) (u v:Nat→Nat):List Value:=match ks with | []=>[.str ⟨#[]⟩ (v 2)] | k::ks=>.str ⟨#[119]⟩ (v i) :: .str (wd k) (u (i + 20))::Wd ks (i + 1) u v
noncomputable def IF (w:World) (sc t0 T a0:Nat) (u:Nat→Nat) (ks:List Nat):Con:={ code:=.call (.ref 320) ⟨[.ref sc],[]⟩,mem:=[(u 57,ZB (VG ks 30 u) 12),(a0,frO (frA w sc t0 T u) 7)],r:=fun ρ=>.ok (.ret (.ref (ρ 0))),upd:=fun _=>[ZB (VG ks 30 u) 12,frO (frA w sc t0 T u) 7],new:=fun ρ=>[(ρ 0,ZS [.ref (u 55),.ref (ρ 1)]),(ρ 1,ZB (Wd ks 10 u ρ) 0)] }
end
section
open PySem PySem.W
theorem Za (w:World) (b:Bool) (RO:ZA) (a:Nat) (vs:Array PySem.Value):Z0 (wf w b) RO 960 a ⟨.type "tuple_iterator",none,.fields vs,#[]⟩:=
 Z0.of (.l 3001 (.z [] (fun _=>0))) (fun _=>(by cases b<;>kernel_rfl))
theorem Hh (w:World) (b:Bool) (RO:ZA) (sc t0' T a0' a1' a2' a3' rm:Nat) (u:Nat→Nat):Zd (wf w b) RO 400 (evT (QM (WD ((Zf w.params).drop 7))) (YR w.params a0' a1' a2' a3')) (IE w sc t0' T a0' a1' rm u).mem (IE w sc t0' T a0' a1' rm u).post:=
 Zd.of (.l 20001 (.a fun a0=>.z [] (rl [a0]))) (fun _=>(by kernel_rfl))
noncomputable def KI (w:World) (b:Bool) (RO:ZA) (sc t0' T a0' a1' a2' a3' k1 k2 k3 k4 k5 k6 k7 k8 k9 k10 k11 k12:Nat) (u:Nat→Nat):CE (wf w b) RO []:=
 .l 20011002 (.a fun a0=>.l 10990001 (.c 2 (ZF w b _ a0 #[(.ref (u 57)),(.int 0 0)]) (.l 10010100100300043003 (.t fun t1=>.l 1 (.a fun a3=>.l 2001 (.a fun a4=>.l 1 (.c 0 (Za w b _ a4 #[(.ref a3),(.int 0 0)]) (.l 1005010010070008300700011099100100023001300420030100100100023001300420030100100100023001 (.t fun t5=>.l 5 (.a fun a7=>.l 2001 (.a fun a8=>.l 1 (.c 0 (Za w b _ a8 #[(.ref a7),(.int 0 0)]) (.l 1009010010110012301100011099100100023001300820070100100100023001300820070100100100023001 (.t fun t9=>.l 9 (.a fun a11=>.l 2001 (.a fun a12=>.l 1 (.c 0 (Za w b _ a12 #[(.ref a11),(.int 0 0)]) (.l 1013010010150016301500011099100100023001301220110100100100023001301220110100100100023001 (.t fun t13=>.l 13 (.a fun a15=>.l 2001 (.a fun a16=>.l 1 (.c 0 (Za w b _ a16 #[(.ref a15),(.int 0 0)]) (.l 1017010010190020301900011099100100023001301620150100100100023001301620150100100100023001 (.t fun t17=>.l 17 (.a fun a19=>.l 2001 (.a fun a20=>.l 1 (.c 0 (Za w b _ a20 #[(.ref a19),(.int 0 0)]) (.l 1021010010230024302300011099100100023001302020190100100100023001302020190100100100023001 (.t fun t21=>.l 21 (.a fun a23=>.l 2001 (.a fun a24=>.l 1 (.c 0 (Za w b _ a24 #[(.ref a23),(.int 0 0)]) (.l 1025010010270028302700011099100100023001302420230100100100023001302420230100100100023001 (.t fun t25=>.l 25 (.a fun a27=>.l 2001 (.a fun a28=>.l 1 (.c 0 (Za w b _ a28 #[(.ref a27),(.int 0 0)]) (.l 1029010010310032303100011099100100023001302820270100100100023001302820270100100100023001 (.t fun t29=>.l 29 (.a fun a31=>.l 2001 (.a fun a32=>.l 1 (.c 0 (Za w b _ a32 #[(.ref a31),(.int 0 0)]) (.l 1033010010350036303500011099100100023001303220310100100100023001303220310100100100023001 (.t fun t33=>.l 33 (.a fun a35=>.l 2001 (.a fun a36=>.l 1 (.c 0 (Za w b _ a36 #[(.ref a35),(.int 0 0)]) (.l 1037010010390040303900011099100100023001303620350100100100023001303620350100100100023001 (.t fun t37=>.l 37 (.a fun a39=>.l 2001 (.a fun a40=>.l 1 (.c 0 (Za w b _ a40 #[(.ref a39),(.int 0 0)]) (.l 1041010010430044304300011099100100023001304020390100100100023001304020390100100100023001 (.t fun t41=>.l 41 (.a fun a43=>.l 2001 (.a fun a44=>.l 1 (.c 0 (Za w b _ a44 #[(.ref a43),(.int 0 0)]) (.l 1045010010470048304700011099100100023001304420430100100100023001304420430100100100023001 (.t fun t45=>.l 45 (.a fun a47=>.l 2001 (.a fun a48=>.l 1 (.c 0 (Za w b _ a48 #[(.ref a47),(.int 0 0)]) (.l 50510001109910510052305100011099100100023001304820470100100100023001304820470100100100023001 (.t fun t48=>.l 1005300011053000100530099 (.a fun a54=>.a fun a55=>.z [3,106] (rl [a55,a54,t48,0,0,0,0,0,0,0,t1,t5,t9,t13,t17,t21,t25,t29,t33,t37,t41,t45]))))))))))))))))))))))))))))))))))))))))))))))))))))))))))))))))))
theorem Hi (w:World) (b:Bool) (RO:ZA) (sc t0' T a0' a1' a2' a3' k1 k2 k3 k4 k5 k6 k7 k8 k9 k10 k11 k12:Nat) (u:Nat→Nat):Zd (wf w b) RO 400 (evT (Uw (WD ((Zf w.params).drop 7))) (YR w.params a0' a1' a2' a3')) (IF w sc t0' T a0' u [k1,k2,k3,k4,k5,k6,k7,k8,k9,k10,k11,k12]).mem (IF w sc t0' T a0' u [k1,k2,k3,k4,k5,k6,k7,k8,k9,k10,k11,k12]).post:=
 Zd.of (KI w b RO sc t0' T a0' a1' a2' a3' k1 k2 k3 k4 k5 k6 k7 k8 k9 k10 k11 k12 u) (fun _=>(by cases b<;>kernel_rfl))
end
section
open PySem PySem.W PySem.W.X PySem.Calls PyProof.Rows PySem.Spec
noncomputable def QN:Expr→Pos:=fun e=>match e with | .Compare _ _ _ p=>p | _=>⟨0,0,0,0⟩
noncomputable def Iq:List Stmt→Pos:=fun l=>match l with | .If _ _ _ p::_=>p | _=>⟨0,0,0,0⟩
noncomputable def KJ:List Stmt→List Stmt:=fun l=>match l with | .If _ b _ _::_=>b | _=>[]
theorem Ff (P:Params):(Zf P).drop 7 = .If (.Compare (QM (WD ((Zf P).drop 7))) [.NotEq] [Uw (WD ((Zf P).drop 7))] (QN (WD ((Zf P).drop 7)))) (KJ ((Zf P).drop 7)) [] (Iq ((Zf P).drop 7))::(Zf P).drop 8:=by kernel_rfl
theorem IG (P:Params):lastMarks [.NotEq] [Uw (WD ((Zf P).drop 7))]=false:=by kernel_rfl
theorem QO {α:Type} {M:Model} {A:Around} {c:Code} {m:Sem α} {vs:List Value} {Q:α→Shared→Prop} {E:Value→Shared→Prop} {s:Shared} (x:wpOwn M A c m Q E s):wpOwn M A c (holding vs m) Q E s:=by
 intro Γ p hc hΓ
 rw [Sem.wp_holding]
 exact x Γ p hc hΓ
theorem KK {M:Model} {A:Around} {c:Code} {env:PySem.Env} {eL eR:Expr} {p1 p2:Pos} {body:List Stmt} {Q:Flow→Shared→Prop} {E:Value→Shared→Prop} {s:Shared} (hm:lastMarks [.NotEq] [eR]=false)
  (h:wpOwn M A c (eval eL env) (fun a s1=>wpOwn M A c (eval eR env) (fun b s2=>wpAny M (A.under c) (compareOp .NotEq a b) (fun v s3=>v = .bool false∧Q .next s3) E s2) E s1) E s) :
  wpOwn M A c (exec (.If (.Compare eL [.NotEq] [eR] p1) body [] p2) env) Q E s:=by
 show wpOwn M A c (standAt p2 >>= fun _=>(do testChain p1 (← eval eL env) [.NotEq] (markedEach [.NotEq] [eR] [eval eR env])) >>= fun r=>if r=true then execs body env else execs [] env) Q E s
 refine wpOwn_bind (wpOwn_of_wpAny (wpAny_standAt ?_))
 refine wpOwn_bind (wpOwn_bind (wpOwn_mono h (fun a s1 h1=>?_) fun _ _ e=>e))
 rw [markedEach_of_false _ _ _ hm]
 show wpOwn M A c (holding [a] (eval eR env) >>= fun rv=>standAt p1 >>= fun _=>operate [a,rv] (compareOp .NotEq a rv) >>= fun v=>holding [v] (truthy v)) _ _ _
 refine wpOwn_bind (QO (wpOwn_mono h1 (fun b s2 h2=>?_) fun _ _ e=>e))
 refine wpOwn_bind (wpOwn_of_wpAny (wpAny_standAt ?_))
 refine wpOwn_bind (wpOwn_of_wpAny (wpAny_operate' (wpAny_mono h2 (fun v s3 h3=>?_) fun _ _ e=>e)))
 obtain ⟨rfl,h3⟩:=h3
 refine wpOwn_of_wpAny (wpAny_holding (wpAny_truthy_bool ?_))
 show wpOwn M A c (execs [] env) Q E s3
 exact wpOwn_of_wpAny (wpAny_execs_nil (env:=env) h3)
end
section
open PySem PySem.W PySem.W.X PySem.Calls PyProof.Rows PySem.Spec PySem.SeqAt
noncomputable def Eqv (k:Nat) (s:Shared) (x y:Value):Prop:=∀ A:Around,A.units + k < cLine→EqAt A s x y true
theorem Eqv.int (k:Nat) (s:Shared) (i:Int) (t u:Nat):Eqv k s (.int i t) (.int i u):=fun A _=>by
 have h:=EqAt.int_int (A:=A) (s:=s) i t i u
 rw [beq_self_eq_true] at h
 exact h
theorem Eqv.str (k:Nat) (s:Shared) (x:Str) (t u:Nat):Eqv k s (.str x t) (.str x u):=fun A _=>by
 have h:=EqAt.str_str (A:=A) (s:=s) x t x u
 rw [beq_self_eq_true] at h
 exact h
inductive Eqvs (k:Nat) (s:Shared):List Value→List Value→Prop where
 | nil:Eqvs k s [] []
 | cons {x y xs ys} (h:Eqv k s x y) (r:Eqvs k s xs ys):Eqvs k s (x::xs) (y::ys)
theorem Eqvs.len {k:Nat} {s:Shared} {xs ys:List Value} (h:Eqvs k s xs ys):xs.length=ys.length:=by
 induction h with
 | nil=>rfl
 | cons _ _ ih=>exact congrArg (· + 1) ih
theorem Eqvs.get {k:Nat} {s:Shared} {xs ys:List Value} (h:Eqvs k s xs ys):∀ j (h1:j < xs.length) (h2:j < ys.length),Eqv k s xs[j] ys[j]:=by
 induction h with
 | nil=>intro j h1; exact absurd h1 (Nat.not_lt_zero j)
 | cons h _ ih=>
  intro j h1 h2
  cases j with
  | zero=>exact h
  | succ j=>exact ih j (Nat.lt_of_succ_lt_succ h1) (Nat.lt_of_succ_lt_succ h2)
theorem Ux (n:Nat):(List.range n).all (fun _=>true)=true:=by simp
theorem Eqv.lists {k:Nat} {s:Shared} {l m ep eq:Nat} {xs ys:List Value} (hne:l≠m) (hl:s.heap.get? l=some (ZB xs ep)) (hm:s.heap.get? m=some (ZB ys eq)) (h:Eqvs k s xs ys):Eqv (k + 1) s (.ref l) (.ref m):=fun A hA=>by
 have e:=RcAt.lists (A:=A) (s:=s) (e:=fun _=>true) (items:=⟨xs⟩) (items2:=⟨ys⟩) (l:=l) (b:=m) ⟨_,hl,rfl,ep,rfl⟩ ⟨_,hm,rfl,eq,rfl⟩ h.len (by omega) (fun j h1 h2=>h.get j h1 h2 A.in1 (by show A.units + 1 + k < cLine; omega))
 rw [Ux] at e
 exact EqAt.of_refs hne e
theorem QP {k:Nat} {s:Shared} {l m:Nat} {xs ys:List Value} (hl:s.heap.get? l=some (ZS xs)) (hm:s.heap.get? m=some (ZS ys)) (h:Eqvs k s xs ys) {A:Around} (hA:A.units + 1 + k < cLine):RcAt A s (.ref l) (.ref m) true:=by
 have e:=RcAt.tuples (A:=A) (s:=s) (e:=fun _=>true) (items:=⟨xs⟩) (items2:=⟨ys⟩) (l:=l) (b:=m) ⟨_,hl,rfl,0,rfl⟩ ⟨_,hm,rfl,0,rfl⟩ (by omega) (fun j h1 h2=>h.get j h1 h2 A.in1 hA)
 rw [Ux] at e
 have z:((⟨xs⟩:Array Value).size == (⟨ys⟩:Array Value).size)=true:=by rw [show (⟨xs⟩:Array Value).size=(⟨ys⟩:Array Value).size from h.len]; exact beq_self_eq_true _
 rw [z] at e
 exact e
theorem Gy {k:Nat} {s:Shared} {l m:Nat} {xs ys:List Value} (hl:s.heap.get? l=some (ZS xs)) (hm:s.heap.get? m=some (ZS ys)) (h:Eqvs k s xs ys) {A:Around} (hA:A.units + 1 + k < cLine):RcNeAt A s (.ref l) (.ref m) false:=by
 have e:=RcNeAt.tuples (A:=A) (s:=s) (e:=fun _=>true) (items:=⟨xs⟩) (items2:=⟨ys⟩) (l:=l) (b:=m) ⟨_,hl,rfl,0,rfl⟩ ⟨_,hm,rfl,0,rfl⟩ (by omega) (fun j h1 h2=>h.get j h1 h2 A.in1 hA)
 rw [Ux] at e
 have z:((⟨xs⟩:Array Value).size == (⟨ys⟩:Array Value).size)=true:=by rw [show (⟨xs⟩:Array Value).size=(⟨ys⟩:Array Value).size from h.len]; exact beq_self_eq_true _
 rw [z] at e
 exact e
theorem Eqv.tups {k:Nat} {s:Shared} {l m:Nat} {xs ys:List Value} (hne:l≠m) (hl:s.heap.get? l=some (ZS xs)) (hm:s.heap.get? m=some (ZS ys)) (h:Eqvs k s xs ys):Eqv (k + 1) s (.ref l) (.ref m):=fun A hA=>EqAt.of_refs hne (QP hl hm h (by omega))
theorem QQ {k:Nat} {s:Shared} {u v u':Nat→Nat}:∀ (ks:List Nat) (i j:Nat),Eqvs k s (VQ ks i u) (Wd ks j u' v)
 | [],_,_=>.cons (Eqv.str _ _ _ _ _) .nil
 | _::ks,i,j=>.cons (Eqv.str _ _ _ _ _) (.cons (Eqv.str _ _ _ _ _) (QQ ks (i + 2) (j + 1)))
theorem Oi {k:Nat} {s:Shared} {u v:Nat→Nat}:∀ (ns:List Nat) (i j:Nat),Eqvs k s (Yv ns i u) (Yv ns j v)
 | [],_,_=>.nil
 | _::ns,i,j=>.cons (Eqv.int _ _ _ _ _) (Oi ns (i + 1) (j + 1))
theorem Vz {w:World} {RO M:ZA} {D D':Nat} {b:List Stmt} {env:PySem.Env} {K:Result→ZA→Prop} (T:Zd w RO D (exT b env) M K) (hD:D'≤D) {c:Code} (hc:Zg c) {h:Heap} {g:Array GenState} {d:Drawn} {t:Nat} {os:OsState} {Q:Flow→Shared→Prop} {E:Value→Shared→Prop} (ht:0 < t) (hM:Holds w.params RO M h)
  (hQ:∀ r M' h' g' t',0 < t'→K r M'→Holds w.params RO M' h'→Ext M h M' h'→(AllBare g→AllBare g')→∃ f,r = .ok f∧Q f ⟨h',g',d,t',os⟩):wpOwn (model PP w) (Z2 D') c (execs b env) Q E ⟨h,g,d,t,os⟩:=
 Zd.val (F:=fun f=>.done f) (Gw b env▸T) (fun o=>⟨o,rfl⟩) hD hc ht hM fun r M' h' g' t' ht' k hM' hE' hB'=>by
  obtain ⟨f,e,q⟩:=hQ r M' h' g' t' ht' k hM' hE' hB'
  exact ⟨f,e,fun o ho=>by cases ho; exact q⟩
theorem WQ {w:World} {RO M:ZA} {D D':Nat} {e:Expr} {env:PySem.Env} {K:Result→ZA→Prop} (T:Zd w RO D (evT e env) M K) (hD:D'≤D) {c:Code} (hc:Zg c) {h:Heap} {g:Array GenState} {d:Drawn} {t:Nat} {os:OsState} {Q:Value→Shared→Prop} {E:Value→Shared→Prop} (ht:0 < t) (hM:Holds w.params RO M h)
  (hQ:∀ r M' h' g' t',0 < t'→K r M'→Holds w.params RO M' h'→Ext M h M' h'→(AllBare g→AllBare g')→∃ v,r = .ok (.ret v)∧Q v ⟨h',g',d,t',os⟩):wpOwn (model PP w) (Z2 D') c (eval e env) Q E ⟨h,g,d,t,os⟩:=
 Zd.val (F:=fun v=>.done (.ret v)) (Gx e env▸T) (fun o=>⟨_,rfl⟩) hD hc ht hM fun r M' h' g' t' ht' k hM' hE' hB'=>by
  obtain ⟨f,e,q⟩:=hQ r M' h' g' t' ht' k hM' hE' hB'
  exact ⟨_,e,fun o ho=>by cases ho; exact q⟩
noncomputable def KM (P:Params):Stmt:=.If (.Compare (QM (WD ((Zf P).drop 7))) [.NotEq] [Uw (WD ((Zf P).drop 7))] (QN (WD ((Zf P).drop 7)))) (KJ ((Zf P).drop 7)) [] (Iq ((Zf P).drop 7))
theorem Gz (w:World) (b:Bool) (RO:ZA) (sc ep t0 a0 a1 a2 a3:Nat) (vs:List Value) (T a c g k1 k2 k3 k4 k5 k6 k7 k8 k9 k10 k11 k12:Nat) (txt:Str) (tx:Nat) (z r2 r3:Nat→Nat) (S:LS) (u:Nat→Nat) {cc:Code} (hc:Zg cc) {h:Heap} {gs:Array GenState} {d:Drawn} {t:Nat} {os:OsState} {Q:Flow→Shared→Prop} {E:Value→Shared→Prop} (ht:0 < t)
  (hM:Holds (wf w b).params RO ((Yx w sc ep t0 a0 a1 a2 a3 vs T a c g [k1,k2,k3,k4,k5,k6,k7,k8,k9,k10,k11,k12] txt tx z r2 r3 S).out u) h)
  (hQ:∀ h' g' t',0 < t'→Holds (wf w b).params RO ((Yx w sc ep t0 a0 a1 a2 a3 vs T a c g [k1,k2,k3,k4,k5,k6,k7,k8,k9,k10,k11,k12] txt tx z r2 r3 S).out u) h'→Ext ((Yx w sc ep t0 a0 a1 a2 a3 vs T a c g [k1,k2,k3,k4,k5,k6,k7,k8,k9,k10,k11,k12] txt tx z r2 r3 S).out u) h ((Yx w sc ep t0 a0 a1 a2 a3 vs T a c g [k1,k2,k3,k4,k5,k6,k7,k8,k9,k10,k11,k12] txt tx z r2 r3 S).out u) h'→(AllBare gs→AllBare g')→Q .next ⟨h',g',d,t',os⟩) :
  wpOwn (model PP (wf w b)) (Z2 390) cc (exec (KM (wf w b).params) (YR (wf w b).params a0 a1 a2 a3)) Q E ⟨h,gs,d,t,os⟩:=by
 refine KK (IG _) ?_
 have s1:Z9 ((Yx w sc ep t0 a0 a1 a2 a3 vs T a c g [k1,k2,k3,k4,k5,k6,k7,k8,k9,k10,k11,k12] txt tx z r2 r3 S).out u) [16,17]=some (IE w sc t0 T a0 a1 (r2 0) u).mem:=rfl
 refine WQ (Hh w b RO sc t0 T a0 a1 a2 a3 (r2 0) u) (by decide) hc ht (hM.sub (sub:=[16,17]) (ro:=[]) rfl rfl s1 rfl) fun r M1 h1 g1 t1 ht1 k1' hM1 hE1 hB1=>?_
 obtain ⟨ρ,rfl,rfl,hl⟩:=k1'
 refine ⟨_,rfl,?_⟩
 have m1:=hM.called (ro₁:=[]) s1 hl hM1 hE1
 have e1:=(Ext.refl ((Yx w sc ep t0 a0 a1 a2 a3 vs T a c g [k1,k2,k3,k4,k5,k6,k7,k8,k9,k10,k11,k12] txt tx z r2 r3 S).out u) h).called s1 hl hM1 hE1
 have s2:Z9 ((ρ 0,ZS [.ref (r2 0),.ref (u 61)])::(Yx w sc ep t0 a0 a1 a2 a3 vs T a c g [k1,k2,k3,k4,k5,k6,k7,k8,k9,k10,k11,k12] txt tx z r2 r3 S).out u) [12,18]=some (IF w sc t0 T a0 u [k1,k2,k3,k4,k5,k6,k7,k8,k9,k10,k11,k12]).mem:=rfl
 have m1':Holds (wf w b).params RO ((ρ 0,ZS [.ref (r2 0),.ref (u 61)])::(Yx w sc ep t0 a0 a1 a2 a3 vs T a c g [k1,k2,k3,k4,k5,k6,k7,k8,k9,k10,k11,k12] txt tx z r2 r3 S).out u) h1:=m1
 have e1':Ext ((Yx w sc ep t0 a0 a1 a2 a3 vs T a c g [k1,k2,k3,k4,k5,k6,k7,k8,k9,k10,k11,k12] txt tx z r2 r3 S).out u) h ((ρ 0,ZS [.ref (r2 0),.ref (u 61)])::(Yx w sc ep t0 a0 a1 a2 a3 vs T a c g [k1,k2,k3,k4,k5,k6,k7,k8,k9,k10,k11,k12] txt tx z r2 r3 S).out u) h1:=e1
 refine WQ (Hi w b RO sc t0 T a0 a1 a2 a3 k1 k2 k3 k4 k5 k6 k7 k8 k9 k10 k11 k12 u) (by decide) hc ht1 (m1'.sub (sub:=[12,18]) (ro:=[]) rfl rfl s2 rfl) fun r M2 h2 g2 t2 ht2 k2' hM2 hE2 hB2=>?_
 obtain ⟨σ,rfl,rfl,hl2⟩:=k2'
 refine ⟨_,rfl,?_⟩
 have m2:Holds (wf w b).params RO ((σ 0,ZS [.ref (u 55),.ref (σ 1)])::(σ 1,ZB (Wd [k1,k2,k3,k4,k5,k6,k7,k8,k9,k10,k11,k12] 10 u σ) 0)::(ρ 0,ZS [.ref (r2 0),.ref (u 61)])::(Yx w sc ep t0 a0 a1 a2 a3 vs T a c g [k1,k2,k3,k4,k5,k6,k7,k8,k9,k10,k11,k12] txt tx z r2 r3 S).out u) h2:=m1'.called (ro₁:=[]) s2 hl2 hM2 hE2
 have e2:Ext ((Yx w sc ep t0 a0 a1 a2 a3 vs T a c g [k1,k2,k3,k4,k5,k6,k7,k8,k9,k10,k11,k12] txt tx z r2 r3 S).out u) h ((σ 0,ZS [.ref (u 55),.ref (σ 1)])::(σ 1,ZB (Wd [k1,k2,k3,k4,k5,k6,k7,k8,k9,k10,k11,k12] 10 u σ) 0)::(ρ 0,ZS [.ref (r2 0),.ref (u 61)])::(Yx w sc ep t0 a0 a1 a2 a3 vs T a c g [k1,k2,k3,k4,k5,k6,k7,k8,k9,k10,k11,k12] txt tx z r2 r3 S).out u) h2:=e1'.called s2 hl2 hM2 hE2
 have at_:=fun (i:Nat) (p:Addr × Obj) (e:Yd ((σ 0,ZS [.ref (u 55),.ref (σ 1)])::(σ 1,ZB (Wd [k1,k2,k3,k4,k5,k6,k7,k8,k9,k10,k11,k12] 10 u σ) 0)::(ρ 0,ZS [.ref (r2 0),.ref (u 61)])::(Yx w sc ep t0 a0 a1 a2 a3 vs T a c g [k1,k2,k3,k4,k5,k6,k7,k8,k9,k10,k11,k12] txt tx z r2 r3 S).out u) i=some p)=>m2.at_ p (Zp e)
 have q1:=at_ 0 (σ 0,ZS [.ref (u 55),.ref (σ 1)]) rfl
 have q2:=at_ 1 (σ 1,ZB (Wd [k1,k2,k3,k4,k5,k6,k7,k8,k9,k10,k11,k12] 10 u σ) 0) rfl
 have q3:=at_ 2 (ρ 0,ZS [.ref (r2 0),.ref (u 61)]) rfl
 have q4:=at_ 9 (u 61,ZB (VQ [k1,k2,k3,k4,k5,k6,k7,k8,k9,k10,k11,k12] 0 u) 25) rfl
 have q5:=at_ 15 (u 55,ZB (Yv (WB a c g) 2 r3) (r3 1)) rfl
 have q6:=at_ 16 (r2 0,ZB (Yv (WB a c g) 2 r2) (r2 1)) rfl
 have n1:r2 0≠u 55:=fun e=>absurd (XK m2.nd (i:=16) (j:=15) (p:=(r2 0,ZB (Yv (WB a c g) 2 r2) (r2 1))) (q:=(u 55,ZB (Yv (WB a c g) 2 r3) (r3 1))) rfl rfl e) (by decide)
 have n2:u 61≠σ 1:=fun e=>absurd (XK m2.nd (i:=9) (j:=1) (p:=(u 61,ZB (VQ [k1,k2,k3,k4,k5,k6,k7,k8,k9,k10,k11,k12] 0 u) 25)) (q:=(σ 1,ZB (Wd [k1,k2,k3,k4,k5,k6,k7,k8,k9,k10,k11,k12] 10 u σ) 0)) rfl rfl e) (by decide)
 have ev:=Gy (k:=10) (s:=⟨h2,g2,d,t2,os⟩) (l:=ρ 0) (m:=σ 0) q3 q1 (.cons (Eqv.lists (k:=9) n1 q6 q5 (Oi _ _ _)) (.cons (Eqv.lists (k:=9) n2 q4 q2 (QQ _ _ _)) .nil)) (A:=(Z2 390).under cc) (by
  have:=VW cc
  show 10 * 390 + cc.cUnits + 1 + 10 < 9900
  omega)
 refine ev PP _ _ _ ⟨rfl,?_⟩
 exact hQ _ _ _ ht2 (m2.mask [false,false,false,true,true,true,true,true,true,true,true,true,true,true,true,true,true,true,true,true,true,true,true]) (e2.mask [false,false,false,true,true,true,true,true,true,true,true,true,true,true,true,true,true,true,true,true,true,true,true]) fun x=>hB2 (hB1 x)
end
section
open PySem PySem.W PySem.W.X PySem.Calls PyProof.Rows PySem.Spec
noncomputable def dLX:LX:=⟨fun _=>[],fun _=>[],fun _=>[]⟩
theorem ZD.comp {w:World} {RO:ZA} {D:Nat} {e:Expr} {depth a:Nat} {acc:Value} {env:PySem.Env} {M:ZA} {K:Result→ZA→Prop} (i:Nat) {o:Obj} (hn:Yd M i=some (a,o)) (hI:Z0 w RO D a o) (hL:ZD w RO D (.compLoop e depth (.ref a) acc env) M K):ZD w RO D (.compStart e depth (.ref a) acc env) M K:=by
 intro h g d t os R ht hM hR
 refine U7 (hL h g d t os R ht hM hR) fun Q hQ=>?_
 have hs₁:Z9 M [i]=some [(a,o)]:=by rw [Vn,hn]; rfl
 have hM₁:Holds w.params RO [(a,o)] h:=by
  have z:=hM.sub (sub:=[i]) (ro:=[]) rfl rfl hs₁ rfl
  exact z
 refine hI h g d t os Q (fun _ _=>False) _ (fun _ q=>by cases q) ht hM₁ fun h' g' t' ht' hM' hE' hB'=>?_
 have e2:Yb M [i] [o]=M:=Vm hn
 have y:=hM.called (NR:=[]) (N:=[]) (us:=[o]) hs₁ rfl (ro₁:=[]) hM' hE'
 have z:=(Ext.refl M h).called (NR:=[]) (N:=[]) (us:=[o]) hs₁ rfl hM' hE'
 rw [e2] at y z
 exact hQ _ (hL h' g' d t' os R ht' y fun r M' h'' g'' t'' ht'' k hM'' hE'' hB''=>hR r M' h'' g'' t'' ht'' k hM'' (Ext.trans z hE'') fun x=>hB'' (hB' x))
noncomputable def MV (w:World) (sc ep t0 a0 a1 a2 a3:Nat) (vs:List Value) (T a c g:Nat) (ks:List Nat) (z r2 r3 u:Nat→Nat) (S:LS):ZA:=
 (u 61,ZB (VQ ks 0 u) 25)::(SU w z S++[(u 57,ZB (VG ks 30 u) 12),(u 55,ZB (Yv (WB a c g) 2 r3) (r3 1)),(r2 0,ZB (Yv (WB a c g) 2 r2) (r2 1)),(a3,Zn none),(a2,Zn (some (.ref (z 30)))),(a1,Zn (some (.ref (r2 0)))),(a0,frO (frA w sc t0 T u) 7),(274,tabObj #[(.int 162 0),(.int 4 0),(.ref (z 3))]),(sc,ZB vs ep)])
theorem ET (w:World) (sc ep t0 a0 a1 a2 a3:Nat) (vs:List Value) (T a c g:Nat) (ks:List Nat) (txt:Str) (tx:Nat) (z r2 r3 u:Nat→Nat) (S:LS):(Yx w sc ep t0 a0 a1 a2 a3 vs T a c g ks txt tx z r2 r3 S).out u=ZL w txt tx z++MV w sc ep t0 a0 a1 a2 a3 vs T a c g ks z r2 r3 u S:=rfl
end
section
open PySem PySem.W PySem.W.X PySem.Calls PyProof.Rows PySem.Spec PySem PySem.W PySem.W.X PySem.Calls PyProof.Rows PySem.Spec
noncomputable def G0 (b:List Stmt) (i:Nat):Expr:=match b.drop i with | .Assign _ v _::_=>v | _=>.Name ⟨#[]⟩ ⟨0,0,0,0⟩
noncomputable def SW (P:Params) (i:Nat):Expr:=G0 (Zf P) i
noncomputable def KN:Expr→Scope | .ListComp _ _ s _=>s | _=>⟨.function,[],false,false,[]⟩
noncomputable def Ef:Expr→Expr | .ListComp e _ _ _=>e | e=>e
noncomputable def G1 (s:Scope) (env:PySem.Env):List (Str × Addr):=s.names.foldl (fun cs p=>match p.2 with | .free=>(p.1,(env.cells.lookup p.1).getD 0)::cs | _=>cs) []
noncomputable def G2 (s:Scope) (env:PySem.Env) (f:Nat):PySem.Env:=
 {scope:={ s with names:=s.names.map fun p=>match (p.2 == NameKind.free && env.scope.kind == ScopeKind.function && env.kindOf p.1 == some NameKind.cell) with | true=>(p.1,.cell) | false=>p },
  locals:=f,globals:=env.globals,cells:=G1 s env,qual:=env.qual,func:=none,code:=env.code,frame:=env.frame,builtins:=env.builtins }
noncomputable def Ti (e:Expr) (env:PySem.Env) (it acc f:Nat):Code:=.compLoop e 0 (.ref it) (.ref acc) (G2 (KN e) env f)
noncomputable def V0 (e:Expr) (env:PySem.Env) (it acc f:Nat):Code:=.compStart e 0 (.ref it) (.ref acc) (G2 (KN e) env f)
noncomputable def ZI (es:List DictEntry) (n:Nat):Obj:=⟨.type "dict",none,.dict ⟨es⟩ n,#[]⟩
noncomputable def Xz (i:Nat):Obj:=⟨.type "list_iterator",none,.fields #[.none,.int i 0],#[]⟩
structure FL where
 (f it acc wl a1 a2 a3 sl es rm er:Nat)
noncomputable def W3 (L:FL) (fd:Obj) (fs:List Value) (ea:Nat) (ito:Obj) (li:Nat) (M:ZA):ZA:=
 (L.f,fd)::(L.acc,ZB fs ea)::(L.it,ito)::(L.a3,Zn (some (.ref L.sl)))::(L.a2,Zn (some (.ref li)))::(L.a1,Zn (some (.ref L.rm)))::M
noncomputable def Y7 (w:World) (L:FL) (a0:Nat):Code:=Ti (SW w.params 9) (YR w.params a0 L.a1 L.a2 L.a3) L.it L.acc L.f
noncomputable def WR (w:World) (L:FL) (a0:Nat) (fd:Obj) (fs:List Value) (ea:Nat) (ito:Obj) (li:Nat) (M:ZA):Con:=
 {code:=Y7 w L a0,mem:=W3 L fd fs ea ito li M,r:=fun _=>.ok .next,upd:=fun _=>[],new:=fun _=>[] }
noncomputable def Wn (w:World) (L:FL) (r1 r2:Nat) (u1 u2:Nat) (S1 S2:Sk) (A1 A2:List Pr) (ep1 ep2 li ld lp:Nat) (x:Lk) (ln:Int) (lt:Nat) (vs:List Value) (ep:Nat):ZA:=
 (L.sl,ZB [.ref S1.sh,.ref S2.sh] L.es)::(L.rm,ZB [.int (Int.ofNat r1) u1,.int (Int.ofNat r2) u2] L.er)::(shK w S1 A1 ep1++(shK w S2 A2 ep2++WO w li ld lp x ln lt vs ep))
noncomputable def Wo (w:World) (L:FL) (r1 r2 r3:Nat) (u1 u2 u3:Nat) (S1 S2 S3:Sk) (A1 A2 A3:List Pr) (ep1 ep2 ep3 li ld lp:Nat) (x:Lk) (ln:Int) (lt:Nat) (vs:List Value) (ep:Nat):ZA:=
 (L.sl,ZB [.ref S1.sh,.ref S2.sh,.ref S3.sh] L.es)::(L.rm,ZB [.int (Int.ofNat r1) u1,.int (Int.ofNat r2) u2,.int (Int.ofNat r3) u3] L.er)::(shK w S1 A1 ep1++(shK w S2 A2 ep2++(shK w S3 A3 ep3++WO w li ld lp x ln lt vs ep)))
noncomputable def Y8 (w:World) (t:Nat) (v:Value):DictEntry:=ent w ⟨#[119,111,114,100]⟩ t v
noncomputable def Ir (w:World) (L:FL) (a0:Nat) (fd:Obj) (fs:List Value) (ea i li:Nat) (M:ZA):Con:=
 {WR w L a0 fd fs ea (Zb L.wl i) li M with upd:=fun _=>(W3 L fd fs ea (Xz i) li M).map (·.2) }
end
section
open PySem PySem.W
noncomputable def KO (w:World) (b:Bool) (RO:ZA) (L:FL) (a0':Nat) (ws fs vs vs2:List Value) (wt ea i k t r1 r2 u1 u2:Nat) (S1 S2:Sk) (A1 A2:List Pr) (ep1 ep2 li ld lp:Nat) (x:Lk) (ln:Int) (lt ep:Nat) (res:Int) (O1 O2 nw:(Nat→Nat)→List Pr) (hx:ws[i]?=some (.str (wd k) t)) (hok:(Yz w L.sl L.es L.rm L.er (Int.ofNat r1) (Int.ofNat r2) u1 u2 S1 S2 A1 A2 ep1 ep2 li ld lp x ln lt vs ep k t res O1 O2 vs2 nw).ok (wf w b) RO 500) (hz:fs.length≤1000) (F:PySem.Result→ZA→Prop)
 (H:∀ ρ ρ1:Nat→Nat,ZD (wf w b) (((nw ρ1).map cell++[])++(L.wl,ZB ws wt)::RO) 450 (Y7 w L a0') (WR w L a0' (ZI [Y8 w (ρ 0) (.str (wd k) t)] (ρ 1)) (fs++[.int res (ρ 2)]) (ρ 3) (Zb L.wl (i + 1)) li (Wn w L r1 r2 u1 u2 S1 S2 (O1 ρ1) (O2 ρ1) (ρ 4) (ρ 5) li ld lp x ln lt vs2 (ρ 6))).mem (fun r M'=>F r (((nw ρ1).map cell++[])++M'))):CE (wf w b) ((L.wl,ZB ws wt)::RO) []:=
 .l 3 (.k (Z8 L.it L.wl ws wt i (.str (wd k) t)) [2] (YE w b _ _ _ _ _ _ _ (.head _) hx) fun ρ0=>.t fun t0=>.l 411000500010006000401041001 (.m (Yz w L.sl L.es L.rm L.er (Int.ofNat r1) (Int.ofNat r2) u1 u2 S1 S2 A1 A2 ep1 ep2 li ld lp x ln lt vs ep k t res O1 O2 vs2 nw) [6,7,8,9,10,11,12,13,14,15,16] ((ZD.more hok fun p hp=>.tail _ hp)) fun ρ1=>.k (Z6 L.acc fs ea (.int res (ρ1 0))) [1] (YC w b _ _ _ _ _ hz) fun ρ2=>.e [] (H (rl [t0,1,ρ1 0,ρ2 0,ρ1 5,ρ1 6,ρ1 8]) ρ1)))
theorem Hj (w:World) (b:Bool) (RO:ZA) (L:FL) (a0':Nat) (ws fs vs vs2:List Value) (wt ea i k t r1 r2 u1 u2:Nat) (S1 S2:Sk) (A1 A2:List Pr) (ep1 ep2 li ld lp:Nat) (x:Lk) (ln:Int) (lt ep:Nat) (res:Int) (O1 O2 nw:(Nat→Nat)→List Pr) (hx:ws[i]?=some (.str (wd k) t)) (hok:(Yz w L.sl L.es L.rm L.er (Int.ofNat r1) (Int.ofNat r2) u1 u2 S1 S2 A1 A2 ep1 ep2 li ld lp x ln lt vs ep k t res O1 O2 vs2 nw).ok (wf w b) RO 500) (hz:fs.length≤1000) (F:PySem.Result→ZA→Prop)
 (H:∀ ρ ρ1:Nat→Nat,ZD (wf w b) (((nw ρ1).map cell++[])++(L.wl,ZB ws wt)::RO) 450 (Y7 w L a0') (WR w L a0' (ZI [Y8 w (ρ 0) (.str (wd k) t)] (ρ 1)) (fs++[.int res (ρ 2)]) (ρ 3) (Zb L.wl (i + 1)) li (Wn w L r1 r2 u1 u2 S1 S2 (O1 ρ1) (O2 ρ1) (ρ 4) (ρ 5) li ld lp x ln lt vs2 (ρ 6))).mem (fun r M'=>F r (((nw ρ1).map cell++[])++M'))):ZD (wf w b) ((L.wl,ZB ws wt)::RO) 450 (Y7 w L a0') (WR w L a0' (ZI [] 0) fs ea (Zb L.wl i) li (Wn w L r1 r2 u1 u2 S1 S2 A1 A2 ep1 ep2 li ld lp x ln lt vs ep)).mem F:=
 cK (KO w b RO L a0' ws fs vs vs2 wt ea i k t r1 r2 u1 u2 S1 S2 A1 A2 ep1 ep2 li ld lp x ln lt ep res O1 O2 nw hx hok hz F H) (by cases b<;>kernel_rfl)
noncomputable def KP (w:World) (b:Bool) (RO:ZA) (L:FL) (a0':Nat) (ws fs vs vs2:List Value) (wt ea i k t r1 r2 u1 u2:Nat) (S1 S2:Sk) (A1 A2:List Pr) (ep1 ep2 li ld lp:Nat) (x:Lk) (ln:Int) (lt ep:Nat) (res:Int) (O1 O2 nw:(Nat→Nat)→List Pr) (vw:Value) (tw n:Nat) (hx:ws[i]?=some (.str (wd k) t)) (hok:(Yz w L.sl L.es L.rm L.er (Int.ofNat r1) (Int.ofNat r2) u1 u2 S1 S2 A1 A2 ep1 ep2 li ld lp x ln lt vs ep k t res O1 O2 vs2 nw).ok (wf w b) RO 500) (hz:fs.length≤1000) (F:PySem.Result→ZA→Prop)
 (H:∀ ρ ρ1:Nat→Nat,ZD (wf w b) (((nw ρ1).map cell++[])++(L.wl,ZB ws wt)::RO) 450 (Y7 w L a0') (WR w L a0' (ZI [Y8 w (ρ 0) (.str (wd k) t)] (ρ 1)) (fs++[.int res (ρ 2)]) (ρ 3) (Zb L.wl (i + 1)) li (Wn w L r1 r2 u1 u2 S1 S2 (O1 ρ1) (O2 ρ1) (ρ 4) (ρ 5) li ld lp x ln lt vs2 (ρ 6))).mem (fun r M'=>F r (((nw ρ1).map cell++[])++M'))):CE (wf w b) ((L.wl,ZB ws wt)::RO) []:=
 .l 3 (.k (Z8 L.it L.wl ws wt i (.str (wd k) t)) [2] (YE w b _ _ _ _ _ _ _ (.head _) hx) fun ρ0=>.l 4110005000100060004010410010100 (.m (Yz w L.sl L.es L.rm L.er (Int.ofNat r1) (Int.ofNat r2) u1 u2 S1 S2 A1 A2 ep1 ep2 li ld lp x ln lt vs ep k t res O1 O2 vs2 nw) [6,7,8,9,10,11,12,13,14,15,16] ((ZD.more hok fun p hp=>.tail _ hp)) fun ρ1=>.k (Z6 L.acc fs ea (.int res (ρ1 0))) [1] (YC w b _ _ _ _ _ hz) fun ρ2=>.e [] (H (rl [tw,n,ρ1 0,ρ2 0,ρ1 5,ρ1 6,ρ1 8]) ρ1)))
theorem Hk (w:World) (b:Bool) (RO:ZA) (L:FL) (a0':Nat) (ws fs vs vs2:List Value) (wt ea i k t r1 r2 u1 u2:Nat) (S1 S2:Sk) (A1 A2:List Pr) (ep1 ep2 li ld lp:Nat) (x:Lk) (ln:Int) (lt ep:Nat) (res:Int) (O1 O2 nw:(Nat→Nat)→List Pr) (vw:Value) (tw n:Nat) (hx:ws[i]?=some (.str (wd k) t)) (hok:(Yz w L.sl L.es L.rm L.er (Int.ofNat r1) (Int.ofNat r2) u1 u2 S1 S2 A1 A2 ep1 ep2 li ld lp x ln lt vs ep k t res O1 O2 vs2 nw).ok (wf w b) RO 500) (hz:fs.length≤1000) (F:PySem.Result→ZA→Prop)
 (H:∀ ρ ρ1:Nat→Nat,ZD (wf w b) (((nw ρ1).map cell++[])++(L.wl,ZB ws wt)::RO) 450 (Y7 w L a0') (WR w L a0' (ZI [Y8 w (ρ 0) (.str (wd k) t)] (ρ 1)) (fs++[.int res (ρ 2)]) (ρ 3) (Zb L.wl (i + 1)) li (Wn w L r1 r2 u1 u2 S1 S2 (O1 ρ1) (O2 ρ1) (ρ 4) (ρ 5) li ld lp x ln lt vs2 (ρ 6))).mem (fun r M'=>F r (((nw ρ1).map cell++[])++M'))):ZD (wf w b) ((L.wl,ZB ws wt)::RO) 450 (Y7 w L a0') (WR w L a0' (ZI [Y8 w tw vw] n) fs ea (Zb L.wl i) li (Wn w L r1 r2 u1 u2 S1 S2 A1 A2 ep1 ep2 li ld lp x ln lt vs ep)).mem F:=
 cK (KP w b RO L a0' ws fs vs vs2 wt ea i k t r1 r2 u1 u2 S1 S2 A1 A2 ep1 ep2 li ld lp x ln lt ep res O1 O2 nw vw tw n hx hok hz F H) (by cases b<;>kernel_rfl)
theorem Fg (w:World) (b:Bool) (RO:ZA) (L:FL) (a0':Nat) (fd:Obj) (ws fs vs:List Value) (wt ea i r1 r2 u1 u2:Nat) (S1 S2:Sk) (A1 A2:List Pr) (ep1 ep2 li ld lp:Nat) (x:Lk) (ln:Int) (lt ep:Nat) (hx:ws[i]?=none):(Ir w L a0' fd fs ea i li (Wn w L r1 r2 u1 u2 S1 S2 A1 A2 ep1 ep2 li ld lp x ln lt vs ep)).ok (wf w b) ((L.wl,ZB ws wt)::RO) 450:=
 cR (.l 3 (.k (Wc L.it L.wl ws wt i) [2] (W2 w b _ _ _ _ _ _ (.head _) hx) fun ρ0=>.l 1 (.z [2] (fun _=>0)))) (by kernel_rfl)
noncomputable def KQ (w:World) (b:Bool) (RO:ZA) (L:FL) (a0':Nat) (ws fs vs vs2:List Value) (wt ea i k t r1 r2 r3 u1 u2 u3:Nat) (S1 S2 S3:Sk) (A1 A2 A3:List Pr) (ep1 ep2 ep3 li ld lp:Nat) (x:Lk) (ln:Int) (lt ep:Nat) (res:Int) (O1 O2 O3 nw:(Nat→Nat)→List Pr) (hx:ws[i]?=some (.str (wd k) t)) (hok:(Yh w L.sl L.es L.rm L.er (Int.ofNat r1) (Int.ofNat r2) (Int.ofNat r3) u1 u2 u3 S1 S2 S3 A1 A2 A3 ep1 ep2 ep3 li ld lp x ln lt vs ep k t res O1 O2 O3 vs2 nw).ok (wf w b) RO 500) (hz:fs.length≤1000) (F:PySem.Result→ZA→Prop)
 (H:∀ ρ ρ1:Nat→Nat,ZD (wf w b) (((nw ρ1).map cell++[])++(L.wl,ZB ws wt)::RO) 450 (Y7 w L a0') (WR w L a0' (ZI [Y8 w (ρ 0) (.str (wd k) t)] (ρ 1)) (fs++[.int res (ρ 2)]) (ρ 3) (Zb L.wl (i + 1)) li (Wo w L r1 r2 r3 u1 u2 u3 S1 S2 S3 (O1 ρ1) (O2 ρ1) (O3 ρ1) (ρ 4) (ρ 5) (ρ 6) li ld lp x ln lt vs2 (ρ 7))).mem (fun r M'=>F r (((nw ρ1).map cell++[])++M'))):CE (wf w b) ((L.wl,ZB ws wt)::RO) []:=
 .l 3 (.k (Z8 L.it L.wl ws wt i (.str (wd k) t)) [2] (YE w b _ _ _ _ _ _ _ (.head _) hx) fun ρ0=>.t fun t0=>.l 411000500010006000401041001 (.m (Yh w L.sl L.es L.rm L.er (Int.ofNat r1) (Int.ofNat r2) (Int.ofNat r3) u1 u2 u3 S1 S2 S3 A1 A2 A3 ep1 ep2 ep3 li ld lp x ln lt vs ep k t res O1 O2 O3 vs2 nw) [6,7,8,9,10,11,12,13,14,15,16,17,18,19] ((ZD.more hok fun p hp=>.tail _ hp)) fun ρ1=>.k (Z6 L.acc fs ea (.int res (ρ1 0))) [1] (YC w b _ _ _ _ _ hz) fun ρ2=>.e [] (H (rl [t0,1,ρ1 0,ρ2 0,ρ1 5,ρ1 6,ρ1 7,ρ1 8]) ρ1)))
theorem Hl (w:World) (b:Bool) (RO:ZA) (L:FL) (a0':Nat) (ws fs vs vs2:List Value) (wt ea i k t r1 r2 r3 u1 u2 u3:Nat) (S1 S2 S3:Sk) (A1 A2 A3:List Pr) (ep1 ep2 ep3 li ld lp:Nat) (x:Lk) (ln:Int) (lt ep:Nat) (res:Int) (O1 O2 O3 nw:(Nat→Nat)→List Pr) (hx:ws[i]?=some (.str (wd k) t)) (hok:(Yh w L.sl L.es L.rm L.er (Int.ofNat r1) (Int.ofNat r2) (Int.ofNat r3) u1 u2 u3 S1 S2 S3 A1 A2 A3 ep1 ep2 ep3 li ld lp x ln lt vs ep k t res O1 O2 O3 vs2 nw).ok (wf w b) RO 500) (hz:fs.length≤1000) (F:PySem.Result→ZA→Prop)
 (H:∀ ρ ρ1:Nat→Nat,ZD (wf w b) (((nw ρ1).map cell++[])++(L.wl,ZB ws wt)::RO) 450 (Y7 w L a0') (WR w L a0' (ZI [Y8 w (ρ 0) (.str (wd k) t)] (ρ 1)) (fs++[.int res (ρ 2)]) (ρ 3) (Zb L.wl (i + 1)) li (Wo w L r1 r2 r3 u1 u2 u3 S1 S2 S3 (O1 ρ1) (O2 ρ1) (O3 ρ1) (ρ 4) (ρ 5) (ρ 6) li ld lp x ln lt vs2 (ρ 7))).mem (fun r M'=>F r (((nw ρ1).map cell++[])++M'))):ZD (wf w b) ((L.wl,ZB ws wt)::RO) 450 (Y7 w L a0') (WR w L a0' (ZI [] 0) fs ea (Zb L.wl i) li (Wo w L r1 r2 r3 u1 u2 u3 S1 S2 S3 A1 A2 A3 ep1 ep2 ep3 li ld lp x ln lt vs ep)).mem F:=
 cK (KQ w b RO L a0' ws fs vs vs2 wt ea i k t r1 r2 r3 u1 u2 u3 S1 S2 S3 A1 A2 A3 ep1 ep2 ep3 li ld lp x ln lt ep res O1 O2 O3 nw hx hok hz F H) (by cases b<;>kernel_rfl)
noncomputable def KR (w:World) (b:Bool) (RO:ZA) (L:FL) (a0':Nat) (ws fs vs vs2:List Value) (wt ea i k t r1 r2 r3 u1 u2 u3:Nat) (S1 S2 S3:Sk) (A1 A2 A3:List Pr) (ep1 ep2 ep3 li ld lp:Nat) (x:Lk) (ln:Int) (lt ep:Nat) (res:Int) (O1 O2 O3 nw:(Nat→Nat)→List Pr) (vw:Value) (tw n:Nat) (hx:ws[i]?=some (.str (wd k) t)) (hok:(Yh w L.sl L.es L.rm L.er (Int.ofNat r1) (Int.ofNat r2) (Int.ofNat r3) u1 u2 u3 S1 S2 S3 A1 A2 A3 ep1 ep2 ep3 li ld lp x ln lt vs ep k t res O1 O2 O3 vs2 nw).ok (wf w b) RO 500) (hz:fs.length≤1000) (F:PySem.Result→ZA→Prop)
 (H:∀ ρ ρ1:Nat→Nat,ZD (wf w b) (((nw ρ1).map cell++[])++(L.wl,ZB ws wt)::RO) 450 (Y7 w L a0') (WR w L a0' (ZI [Y8 w (ρ 0) (.str (wd k) t)] (ρ 1)) (fs++[.int res (ρ 2)]) (ρ 3) (Zb L.wl (i + 1)) li (Wo w L r1 r2 r3 u1 u2 u3 S1 S2 S3 (O1 ρ1) (O2 ρ1) (O3 ρ1) (ρ 4) (ρ 5) (ρ 6) li ld lp x ln lt vs2 (ρ 7))).mem (fun r M'=>F r (((nw ρ1).map cell++[])++M'))):CE (wf w b) ((L.wl,ZB ws wt)::RO) []:=
 .l 3 (.k (Z8 L.it L.wl ws wt i (.str (wd k) t)) [2] (YE w b _ _ _ _ _ _ _ (.head _) hx) fun ρ0=>.l 4110005000100060004010410010100 (.m (Yh w L.sl L.es L.rm L.er (Int.ofNat r1) (Int.ofNat r2) (Int.ofNat r3) u1 u2 u3 S1 S2 S3 A1 A2 A3 ep1 ep2 ep3 li ld lp x ln lt vs ep k t res O1 O2 O3 vs2 nw) [6,7,8,9,10,11,12,13,14,15,16,17,18,19] ((ZD.more hok fun p hp=>.tail _ hp)) fun ρ1=>.k (Z6 L.acc fs ea (.int res (ρ1 0))) [1] (YC w b _ _ _ _ _ hz) fun ρ2=>.e [] (H (rl [tw,n,ρ1 0,ρ2 0,ρ1 5,ρ1 6,ρ1 7,ρ1 8]) ρ1)))
theorem Hm (w:World) (b:Bool) (RO:ZA) (L:FL) (a0':Nat) (ws fs vs vs2:List Value) (wt ea i k t r1 r2 r3 u1 u2 u3:Nat) (S1 S2 S3:Sk) (A1 A2 A3:List Pr) (ep1 ep2 ep3 li ld lp:Nat) (x:Lk) (ln:Int) (lt ep:Nat) (res:Int) (O1 O2 O3 nw:(Nat→Nat)→List Pr) (vw:Value) (tw n:Nat) (hx:ws[i]?=some (.str (wd k) t)) (hok:(Yh w L.sl L.es L.rm L.er (Int.ofNat r1) (Int.ofNat r2) (Int.ofNat r3) u1 u2 u3 S1 S2 S3 A1 A2 A3 ep1 ep2 ep3 li ld lp x ln lt vs ep k t res O1 O2 O3 vs2 nw).ok (wf w b) RO 500) (hz:fs.length≤1000) (F:PySem.Result→ZA→Prop)
 (H:∀ ρ ρ1:Nat→Nat,ZD (wf w b) (((nw ρ1).map cell++[])++(L.wl,ZB ws wt)::RO) 450 (Y7 w L a0') (WR w L a0' (ZI [Y8 w (ρ 0) (.str (wd k) t)] (ρ 1)) (fs++[.int res (ρ 2)]) (ρ 3) (Zb L.wl (i + 1)) li (Wo w L r1 r2 r3 u1 u2 u3 S1 S2 S3 (O1 ρ1) (O2 ρ1) (O3 ρ1) (ρ 4) (ρ 5) (ρ 6) li ld lp x ln lt vs2 (ρ 7))).mem (fun r M'=>F r (((nw ρ1).map cell++[])++M'))):ZD (wf w b) ((L.wl,ZB ws wt)::RO) 450 (Y7 w L a0') (WR w L a0' (ZI [Y8 w tw vw] n) fs ea (Zb L.wl i) li (Wo w L r1 r2 r3 u1 u2 u3 S1 S2 S3 A1 A2 A3 ep1 ep2 ep3 li ld lp x ln lt vs ep)).mem F:=
 cK (KR w b RO L a0' ws fs vs vs2 wt ea i k t r1 r2 r3 u1 u2 u3 S1 S2 S3 A1 A2 A3 ep1 ep2 ep3 li ld lp x ln lt ep res O1 O2 O3 nw vw tw n hx hok hz F H) (by cases b<;>kernel_rfl)
theorem Fh (w:World) (b:Bool) (RO:ZA) (L:FL) (a0':Nat) (fd:Obj) (ws fs vs:List Value) (wt ea i r1 r2 r3 u1 u2 u3:Nat) (S1 S2 S3:Sk) (A1 A2 A3:List Pr) (ep1 ep2 ep3 li ld lp:Nat) (x:Lk) (ln:Int) (lt ep:Nat) (hx:ws[i]?=none):(Ir w L a0' fd fs ea i li (Wo w L r1 r2 r3 u1 u2 u3 S1 S2 S3 A1 A2 A3 ep1 ep2 ep3 li ld lp x ln lt vs ep)).ok (wf w b) ((L.wl,ZB ws wt)::RO) 450:=
 cR (.l 3 (.k (Wc L.it L.wl ws wt i) [2] (W2 w b _ _ _ _ _ _ (.head _) hx) fun ρ0=>.l 1 (.z [2] (fun _=>0)))) (by kernel_rfl)
noncomputable def MW (ends:List Nat) (cap:Nat):Row→List Nat→List Int
 | _,[]=>[]
 | R,k::ks=>Xs ends R k::MW ends cap ((Zj R k).take cap) ks
noncomputable def V1 (cap:Nat):Row→List Nat→List Nat
 | _,[]=>[]
 | R,k::ks=>((Zj R k).drop cap).map (·.1)++V1 cap ((Zj R k).take cap) ks
noncomputable def rOf (cap:Nat):Row→List Nat→Row
 | R,[]=>R
 | R,k::ks=>rOf cap ((Zj R k).take cap) ks
noncomputable def Uy:List Int→List Value→Prop
 | [],[]=>True
 | n::ns,v::vs=>(∃ t,v = .int n t)∧Uy ns vs
 | _,_=>False
noncomputable def Wds:List Nat→List Value→Prop
 | [],[]=>True
 | k::ks,v::vs=>(∃ t,v = .str (wd k) t)∧Wds ks vs
 | _,_=>False
theorem Wds.app:∀ {as:List Nat} {vs:List Value} {bs:List Nat} {us:List Value},Wds as vs→Wds bs us→Wds (as++bs) (vs++us)
 | [],[],_,_,_,h=>h
 | _::_,_::_,_,_,h,h'=>⟨h.1,Wds.app h.2 h'⟩
 | [],_::_,_,_,h,_=>h.elim
 | _::_,[],_,_,h,_=>h.elim
theorem Wds.of:∀ (l:List Pr),Wds ((l.map kn).map (·.1)) (l.map fun p=>.str (wd p.k) p.t)
 | []=>trivial
 | _::l=>⟨⟨_,rfl⟩,Wds.of l⟩
theorem Wds.len:∀ {as:List Nat} {vs:List Value},Wds as vs→vs.length=as.length
 | [],[],_=>rfl
 | _::_,_::_,h=>congrArg (· + 1) (Wds.len h.2)
 | [],_::_,h=>h.elim
 | _::_,[],h=>h.elim
noncomputable def Uz (p:Pr):List Nat:=[p.a,p.k,p.t,p.n,p.t']
noncomputable def ED (l:List Nat):Pr:=⟨l.getD 0 0,l.getD 1 0,l.getD 2 0,l.getD 3 0,l.getD 4 0⟩
noncomputable def dP (l:List (List Nat)):List Pr:=l.map ED
theorem VR (A:List Pr):dP (A.map Uz)=A:=by
 unfold dP
 rw [List.map_map]
 exact List.map_id'' (fun _=>rfl) A
theorem KS (l m:List (List Nat)):dP (l++m)=dP l++dP m:=List.map_append
structure FoundP (s1 s2 s3 j:Nat) (ends:List Nat) (R0:Row) (ks:List Nat) (fs0 vs0:List Value) (RO:ZA) (x:LX):Prop where
 good:Good s1 s2 s3 (j + ks.length) (dP (x.ns 0)) (dP (x.ns 1)) (dP (x.ns 2))
 row:seg (dP (x.ns 0))++(seg (dP (x.ns 1))++seg (dP (x.ns 2)))=rOf (s1 + s2 + s3) R0 ks
 fs:∃ l,x.vals 0=fs0++l∧Uy (MW ends (s1 + s2 + s3) R0 ks) l
 vs:∃ l,x.vals 1=vs0++l∧Wds (V1 (s1 + s2 + s3) R0 ks) l
 sub:YT (dP (x.ns 0)++(dP (x.ns 1)++dP (x.ns 2))) ((dP (x.ns 3)).map cell++RO)
noncomputable def II (w:World) (fd:Obj):Prop:=fd=ZI [] 0∨∃ tw vw n,fd=ZI [Y8 w tw vw] n
noncomputable abbrev U0:=List Pr→List Pr→List Pr→Nat→Nat→Nat→List Value→Nat→ZA
noncomputable def KT (w:World) (L:FL) (li:Nat) (MM:U0) (Q:LX→Prop) (r:Result) (M':ZA):Prop:=
 ∃ (x:LX) (k t:Nat) (ρ:Nat→Nat),Q x∧r = .ok .next∧M'=(dP (x.ns 3)).map cell++W3 L (ZI [Y8 w (ρ 0) (.str (wd k) t)] (ρ 1)) (x.vals 0) (ρ 2) (Xz (ρ 3)) li (MM (dP (x.ns 0)) (dP (x.ns 1)) (dP (x.ns 2)) (ρ 4) (ρ 5) (ρ 6) (x.vals 1) (ρ 7))
noncomputable def Wl (ws:List Value) (i:Nat) (ks:List Nat):Prop:=∃ us,ws.drop i=us∧Wds ks us
theorem Wl.next {ws:List Value} {i k:Nat} {ks:List Nat} (h:Wl ws i (k::ks)):(∃ t,ws[i]?=some (.str (wd k) t))∧Wl ws (i + 1) ks:=by
 obtain ⟨us,e,h⟩:=h
 cases us with
 | nil=>exact h.elim
 | cons v us=>
  obtain ⟨⟨t,rfl⟩,h⟩:=h
  refine ⟨⟨t,?_⟩,us,?_,h⟩
  ·have:=congrArg (fun l=>l[0]?) e
   simpa using this
  ·rw [← List.drop_drop,e]
   rfl
theorem Wl.stop {ws:List Value} {i:Nat} (h:Wl ws i []):ws[i]?=none:=by
 obtain ⟨us,e,h⟩:=h
 cases us with
 | nil=>exact List.getElem?_eq_none_iff.mpr (List.drop_eq_nil_iff.mp e)
 | cons v us=>exact h.elim
structure FoundH (w:World) (b:Bool) (L:FL) (a0:Nat) (ws:List Value) (wt li s1 s2 s3:Nat) (ends:List Nat) (MM:U0):Prop where
 turn:∀ (RO:ZA) (F:Result→ZA→Prop) (fd:Obj) (A1 A2 A3:List Pr) (e1 e2 e3:Nat) (vs:List Value) (ep:Nat) (fs:List Value) (ea i k t j:Nat),II w fd→ws[i]?=some (.str (wd k) t)→k < 12→j < 12→Good s1 s2 s3 j A1 A2 A3→YT (A1++(A2++A3)) RO→vs.length≤1000→fs.length≤1000→
  ∃ (res:Int) (O1 O2 O3:(Nat→Nat)→List Pr) (lost:List Pr) (nw:(Nat→Nat)→List Pr),(∀ ρ,Asked s1 s2 s3 j k A1 A2 A3 ends res (O1 ρ) (O2 ρ) (O3 ρ) lost (nw ρ))∧
   ((∀ ρ ρ1:Nat→Nat,ZD (wf w b) (((nw ρ1).map cell++[])++(L.wl,ZB ws wt)::RO) 450 (Y7 w L a0) (W3 L (ZI [Y8 w (ρ 0) (.str (wd k) t)] (ρ 1)) (fs++[.int res (ρ 2)]) (ρ 3) (Zb L.wl (i + 1)) li (MM (O1 ρ1) (O2 ρ1) (O3 ρ1) (ρ 4) (ρ 5) (ρ 6) (vs++lost.map fun p=>.str (wd p.k) p.t) (ρ 7))) (fun r M'=>F r (((nw ρ1).map cell++[])++M')))→
   ZD (wf w b) ((L.wl,ZB ws wt)::RO) 450 (Y7 w L a0) (W3 L fd fs ea (Zb L.wl i) li (MM A1 A2 A3 e1 e2 e3 vs ep)) F)
 stop:∀ (RO:ZA) (fd:Obj) (A1 A2 A3:List Pr) (e1 e2 e3:Nat) (vs:List Value) (ep:Nat) (fs:List Value) (ea i:Nat),ws[i]?=none→ZD (wf w b) ((L.wl,ZB ws wt)::RO) 450 (Y7 w L a0) (W3 L fd fs ea (Zb L.wl i) li (MM A1 A2 A3 e1 e2 e3 vs ep)) (fun r M'=>r = .ok .next∧M'=W3 L fd fs ea (Xz i) li (MM A1 A2 A3 e1 e2 e3 vs ep))
theorem IJ {s1 s2 s3 j k:Nat} {A1 A2 A3:List Pr} {ends:List Nat} {res:Int} {O1 O2 O3 lost nw:List Pr} (h:Asked s1 s2 s3 j k A1 A2 A3 ends res O1 O2 O3 lost nw) (G:Good s1 s2 s3 j A1 A2 A3):lost.length≤1:=by
 have e:=congrArg List.length h.lost
 rw [List.length_map,List.length_drop] at e
 have:(Zj (seg A1++(seg A2++seg A3)) k).length≤s1 + s2 + s3 + 1:=by
  unfold Zj
  have z:=List.length_filter_le (fun p=>!YA k p) (seg A1++(seg A2++seg A3))
  simp only [List.length_append,YG] at z
  have:=G.l1
  have:=G.l2
  have:=G.l3
  rw [List.length_cons]
  omega
 omega
theorem Tj {w:World} {b:Bool} {L:FL} {a0:Nat} {ws:List Value} {wt li s1 s2 s3:Nat} {ends:List Nat} {MM:U0} (H:FoundH w b L a0 ws wt li s1 s2 s3 ends MM) :
  ∀ (ks:List Nat) (RO:ZA) (fd:Obj) (A1 A2 A3:List Pr) (e1 e2 e3:Nat) (vs:List Value) (ep:Nat) (fs:List Value) (ea i j:Nat),(∀ k∈ks,k < 12)→(ks≠[]∧II w fd∨∃ t k u n,fd=ZI [Y8 w t (.str (wd k) u)] n)→Wl ws i ks→j + ks.length≤12→Good s1 s2 s3 j A1 A2 A3→YT (A1++(A2++A3)) RO→vs.length≤j→fs.length≤j→
   ZD (wf w b) ((L.wl,ZB ws wt)::RO) 450 (Y7 w L a0) (W3 L fd fs ea (Zb L.wl i) li (MM A1 A2 A3 e1 e2 e3 vs ep)) (KT w L li MM (FoundP s1 s2 s3 j ends (seg A1++(seg A2++seg A3)) ks fs vs RO))
 | [],RO,fd,A1,A2,A3,e1,e2,e3,vs,ep,fs,ea,i,j,_,hf,hw,hj,G,hR,_,_=>by
  rcases hf with ⟨hf,_⟩ | ⟨t,k,u,n,rfl⟩
  ·exact absurd rfl hf
  refine ZD.mono (H.stop RO _ A1 A2 A3 e1 e2 e3 vs ep fs ea i hw.stop) ?_
  rintro r M' ⟨rfl,rfl⟩
  refine ⟨⟨fun | 0=>fs | _=>vs,fun | 0=>A1.map Uz | 1=>A2.map Uz | 2=>A3.map Uz | _=>[],fun _=>[]⟩,k,u,rl [t,n,ea,i,e1,e2,e3,ep],?_,rfl,?_⟩
  ·refine ⟨?_,?_,⟨[],(List.append_nil _).symm,trivial⟩,⟨[],(List.append_nil _).symm,trivial⟩,?_⟩
   ·simp only [VR]
    exact G
   ·simp only [VR]
    rfl
   ·simp only [VR]
    exact hR
  ·simp only [VR]
   rfl
 | k::ks,RO,fd,A1,A2,A3,e1,e2,e3,vs,ep,fs,ea,i,j,hk,hf,hw,hj,G,hR,hv,hs=>by
  have hf':II w fd:=by
   rcases hf with ⟨_,hf⟩ | ⟨t,k,u,n,rfl⟩
   ·exact hf
   ·exact .inr ⟨_,_,_,rfl⟩
  obtain ⟨⟨t,ht⟩,hw'⟩:=hw.next
  rw [List.length_cons] at hj
  obtain ⟨res,O1,O2,O3,lost,nw,hA,hT⟩:=H.turn RO (KT w L li MM (FoundP s1 s2 s3 j ends (seg A1++(seg A2++seg A3)) (k::ks) fs vs RO)) fd A1 A2 A3 e1 e2 e3 vs ep fs ea i k t j hf' ht (hk k (.head _)) (by omega) G hR (by omega) (by omega)
  refine hT fun ρ ρ1=>?_
  have hl:=IJ (hA ρ1) G
  have hsub:YT (O1 ρ1++(O2 ρ1++O3 ρ1)) ((nw ρ1).map cell++RO):=fun p hp=>by
   rcases (hA ρ1).old p hp with h | h
   ·exact List.mem_append.mpr (.inr (hR p h))
   ·exact List.mem_append.mpr (.inl (List.mem_map_of_mem h))
  have z:=Tj H ks ((nw ρ1).map cell++RO) (ZI [Y8 w (ρ 0) (.str (wd k) t)] (ρ 1)) (O1 ρ1) (O2 ρ1) (O3 ρ1) (ρ 4) (ρ 5) (ρ 6) (vs++lost.map fun p=>.str (wd p.k) p.t) (ρ 7) (fs++[.int res (ρ 2)]) (ρ 3) (i + 1) (j + 1) (fun k' h=>hk k' (.tail _ h)) (.inr ⟨_,_,_,_,rfl⟩) hw' (by omega) (hA ρ1).good hsub (by rw [List.length_append,List.length_map]; omega) (by rw [List.length_append]; simp only [List.length_cons,List.length_nil]; omega)
  refine ZD.mono (ZD.more z ?_) ?_
  ·intro p hp
   simp only [List.append_nil]
   cases hp with
   | head=>exact List.mem_append.mpr (.inr (.head _))
   | tail _ hp=>
    rcases List.mem_append.mp hp with h | h
    ·exact List.mem_append.mpr (.inl h)
    ·exact List.mem_append.mpr (.inr (.tail _ h))
  ·rintro r M' ⟨x,k',t',ρ',q,rfl,rfl⟩
   refine ⟨⟨x.vals,fun | 3=>(nw ρ1).map Uz++x.ns 3 | n=>x.ns n,x.cells⟩,k',t',ρ',?_,rfl,?_⟩
   ·have hrow:=(hA ρ1).row
    obtain ⟨l,el,hl⟩:=q.fs
    obtain ⟨m,em,hm⟩:=q.vs
    refine ⟨?_,?_,⟨.int res (ρ 2)::l,?_,?_⟩,⟨(lost.map fun p=>.str (wd p.k) p.t)++m,?_,?_⟩,?_⟩
    ·have:=q.good
     rw [List.length_cons,show j + (ks.length + 1)=j + 1 + ks.length by omega]
     exact this
    ·show _=rOf _ ((Zj _ k).take _) ks
     rw [← hrow]
     exact q.row
    ·show x.vals 0=_
     rw [el,List.append_assoc]
     rfl
    ·refine ⟨⟨_,by rw [(hA ρ1).res]⟩,?_⟩
     rw [← hrow]
     exact hl
    ·show x.vals 1=_
     rw [em,List.append_assoc]
    ·refine Wds.app ?_ ?_
     ·rw [← (hA ρ1).lost]
      exact Wds.of lost
     ·rw [← hrow]
      exact hm
    ·show YT _ ((dP ((nw ρ1).map Uz++x.ns 3)).map cell++RO)
     rw [KS,VR,List.map_append]
     intro p hp
     have:=q.sub p hp
     simp only [List.mem_append] at this ⊢
     rcases this with h | h | h
     ·exact .inl (.inr h)
     ·exact .inl (.inl h)
     ·exact .inr h
   ·show _=(dP ((nw ρ1).map Uz++x.ns 3)).map cell++_
    rw [KS,VR,List.map_append,List.append_nil,List.append_assoc]
    rfl
theorem G3 {A:List Pr} (h:A.length≤0):A=[]:=List.eq_nil_of_length_eq_zero (Nat.le_zero.mp h)
theorem Hn (w:World) (b:Bool) (L:FL) (a0:Nat) (ws:List Value) (wt li s1 s2 u1 u2:Nat) (S1 S2:Sk) (ld lp:Nat) (x:Lk) (ln:Int) (lt:Nat) (h1:1≤s1∧s1≤2) (h2:1≤s2∧s2≤2) :
  FoundH w b L a0 ws wt li s1 s2 0 [s1,s1 + s2] (fun A1 A2 _ e1 e2 _ vs ep=>Wn w L s1 s2 u1 u2 S1 S2 A1 A2 e1 e2 li ld lp x ln lt vs ep):=by
 refine ⟨fun RO F fd A1 A2 A3 e1 e2 e3 vs ep fs ea i k t j hf hx hk hj G hR hv hs=>?_,fun RO fd A1 A2 A3 e1 e2 e3 vs ep fs ea i hx=>?_⟩
 ·cases G3 G.l3
  obtain ⟨res,O1,O2,lost,nw,hok,hA⟩:=HH w b (RO:=RO) L.sl L.es L.rm L.er s1 s2 u1 u2 S1 S2 A1 A2 e1 e2 li ld lp x ln lt vs ep k t j h1 h2 hk hj G hR hv
  refine ⟨res,O1,O2,fun _=>[],lost,nw,hA,fun H=>?_⟩
  rcases hf with rfl | ⟨tw,vw,n,rfl⟩
  ·exact Hj w b RO L a0 ws fs vs _ wt ea i k t s1 s2 u1 u2 S1 S2 A1 A2 e1 e2 li ld lp x ln lt ep res O1 O2 nw hx hok hs F fun ρ ρ1=>H (rl [ρ 0,ρ 1,ρ 2,ρ 3,ρ 4,ρ 5,0,ρ 6]) ρ1
  ·exact Hk w b RO L a0 ws fs vs _ wt ea i k t s1 s2 u1 u2 S1 S2 A1 A2 e1 e2 li ld lp x ln lt ep res O1 O2 nw vw tw n hx hok hs F fun ρ ρ1=>H (rl [ρ 0,ρ 1,ρ 2,ρ 3,ρ 4,ρ 5,0,ρ 6]) ρ1
 ·refine ZD.mono (Fg w b RO L a0 fd ws fs vs wt ea i s1 s2 u1 u2 S1 S2 A1 A2 e1 e2 li ld lp x ln lt ep hx) ?_
  rintro r M' ⟨ρ,rfl,rfl,_⟩
  exact ⟨rfl,rfl⟩
theorem Ho (w:World) (b:Bool) (L:FL) (a0:Nat) (ws:List Value) (wt li s1 s2 s3 u1 u2 u3:Nat) (S1 S2 S3:Sk) (ld lp:Nat) (x:Lk) (ln:Int) (lt:Nat) (h1:1≤s1∧s1≤2) (h2:1≤s2∧s2≤2) (h3:1≤s3∧s3≤2) :
  FoundH w b L a0 ws wt li s1 s2 s3 [s1,s1 + s2,s1 + s2 + s3] (fun A1 A2 A3 e1 e2 e3 vs ep=>Wo w L s1 s2 s3 u1 u2 u3 S1 S2 S3 A1 A2 A3 e1 e2 e3 li ld lp x ln lt vs ep):=by
 refine ⟨fun RO F fd A1 A2 A3 e1 e2 e3 vs ep fs ea i k t j hf hx hk hj G hR hv hs=>?_,fun RO fd A1 A2 A3 e1 e2 e3 vs ep fs ea i hx=>?_⟩
 ·obtain ⟨res,O1,O2,O3,lost,nw,hok,hA⟩:=HI w b (RO:=RO) L.sl L.es L.rm L.er s1 s2 s3 u1 u2 u3 S1 S2 S3 A1 A2 A3 e1 e2 e3 li ld lp x ln lt vs ep k t j h1 h2 h3 hk hj G hR hv
  refine ⟨res,O1,O2,O3,lost,nw,hA,fun H=>?_⟩
  rcases hf with rfl | ⟨tw,vw,n,rfl⟩
  ·exact Hl w b RO L a0 ws fs vs _ wt ea i k t s1 s2 s3 u1 u2 u3 S1 S2 S3 A1 A2 A3 e1 e2 e3 li ld lp x ln lt ep res O1 O2 O3 nw hx hok hs F H
  ·exact Hm w b RO L a0 ws fs vs _ wt ea i k t s1 s2 s3 u1 u2 u3 S1 S2 S3 A1 A2 A3 e1 e2 e3 li ld lp x ln lt ep res O1 O2 O3 nw vw tw n hx hok hs F H
 ·refine ZD.mono (Fh w b RO L a0 fd ws fs vs wt ea i s1 s2 s3 u1 u2 u3 S1 S2 S3 A1 A2 A3 e1 e2 e3 li ld lp x ln lt ep hx) ?_
  rintro r M' ⟨ρ,rfl,rfl,_⟩
  exact ⟨rfl,rfl⟩
end
section
open PySem PySem.W PySem.W.X PySem.Calls PyProof.Rows PySem.Spec
noncomputable def ZY (p:Pr):Addr × Obj:=(p.a,ZS [.str (wd p.k) p.t,.int (Int.ofNat p.n) p.t'])
structure KL where
 (f it acc sl es a0 a1 a2 a3:Nat)
noncomputable def YZ (w:World) (L:KL):Code:=Ti (SW w.params 10) (YR w.params L.a0 L.a1 L.a2 L.a3) L.it L.acc L.f
noncomputable def WE (L:KL) (fd:Obj) (ks:List Value) (ea:Nat) (ito:Obj):ZA:=[(L.f,fd),(L.acc,ZB ks ea),(L.it,ito)]
noncomputable def WS (w:World) (L:KL) (fd:Obj) (ks:List Value) (ea:Nat) (ito:Obj) (N:ZA):Con:=
 {code:=YZ w L,mem:=N++WE L fd ks ea ito,r:=fun _=>.ok .next,upd:=fun _=>[],new:=fun _=>[] }
noncomputable def Fi (w:World) (L:KL) (fd:Obj) (ks:List Value) (ea i:Nat):Con:=
 {WS w L fd ks ea (Zb L.sl i) [] with upd:=fun _=>(WE L fd ks ea (Xz i)).map (·.2) }
noncomputable def YI (w:World) (t:Nat) (v:Value):DictEntry:=ent w ⟨#[115,104,101,108,102]⟩ t v
theorem ZD.frame {w:World} {RO:ZA} {D:Nat} {c:Code} {M:ZA} {K:Result→ZA→Prop} (N:ZA) (x:ZD w (N++RO) D c M K):ZD w RO D c (N++M) (fun r M'=>∃ M₁,M'=N++M₁∧K r M₁):=by
 intro h g d t os R ht hM hR
 have hnd:=hM.nd
 rw [List.map_append] at hnd
 have hap:=List.nodup_append.mp hnd
 have hN:Holds w.params (N++RO) M h:=⟨hM.base,fun p hp=>by
   rcases List.mem_append.mp hp with y | y
   ·exact hM.at_ p (List.mem_append.mpr (.inl y))
   ·exact hM.ro p y,fun p hp=>hM.at_ p (List.mem_append.mpr (.inr hp)),hap.2.1,fun p hp=>hM.offB p (List.mem_append.mpr (.inr hp)),fun p hp hq=>by
   rw [List.map_append] at hq
   rcases List.mem_append.mp hq with y | y
   ·exact hap.2.2 _ y _ (List.mem_map_of_mem hp) rfl
   ·exact hM.offR p (List.mem_append.mpr (.inr hp)) y⟩
 refine x h g d t os R ht hN fun r M' h' g' t' ht' k hM' hE' hB'=>hR r (N++M') h' g' t' ht' ⟨M',rfl,k⟩ ?_ ?_ hB'
 ·exact hM'.back hap.1 (fun p hp=>hM.offB p (List.mem_append.mpr (.inl hp))) (fun p hp=>hM.offR p (List.mem_append.mpr (.inl hp)))
 ·refine ⟨fun a o ho ha=>hE'.keep a o ho fun y=>ha (by rw [List.map_append]; exact List.mem_append.mpr (.inr y)),fun p hp=>?_,hE'.size⟩
  rcases List.mem_append.mp hp with y | y
  ·exact .inl (List.mem_map_of_mem (List.mem_append.mpr (.inl y)))
  ·rcases hE'.fresh p y with z | z
   ·exact .inl (by rw [List.map_append]; exact List.mem_append.mpr (.inr z))
   ·exact .inr z
theorem Z0.deep {w:World} {RO:ZA} {D D' a:Nat} {o:Obj} (x:Z0 w RO D' a o) (h:D≤D'):Z0 w RO D a o:=
 fun hp g d t os Q E c hc ht hM hR Γ q hΓc hΓ=>x hp g d t os Q E c hc ht hM hR Γ q hΓc (Xy (Yy h) hΓ)
end
section
open PySem PySem.W
noncomputable def KU (w:World) (b:Bool) (RO:ZA) (L:KL) (ss ks:List Value) (ea i:Nat) (S:Sk) (ep:Nat) (hx:ss[i]?=some (.ref S.sh)) (hz:ks.length≤1000) (F:PySem.Result→ZA→Prop)
 (H:∀ ρ:Nat→Nat,ZD (wf w b) ((L.sl,ZB ss L.es)::(shK w S [] ep++[]++RO)) 410 (YZ w L) (WS w L (ZI [YI w (ρ 0) (.ref S.sh)] (ρ 1)) (ks++[.ref (ρ 2)]) (ρ 3) (Zb L.sl (i + 1)) [(ρ 2,ZB [] (ρ 4))]).mem F):CE (wf w b) ((L.sl,ZB ss L.es)::(shK w S [] ep++[]++RO)) []:=
 .l 3 (.k (Z8 L.it L.sl ss L.es i (.ref S.sh)) [2] (YE w b _ _ _ _ _ _ _ (.head _) hx) fun ρ0=>.t fun t0=>.l 240013002009911000099043440013434009904330369143203681369043203681369043201002001010000990332073303330433043203330368136904320368136904320368136904322001 (.a fun a4=>.l 2001 (.a fun a5=>.l 1 (.a fun a6=>.l 99 (.c 2 (ZF w b _ a5 #[(.ref a4),(.int 0 0)]) (.l 100300011099100300043003 (.k (Z6 L.acc ks ea (.ref a6)) [11] (YC w b _ _ _ _ _ hz) fun ρ1=>.e [4,1,10] (H (rl [t0,1,a6,ρ1 0])))))))))
theorem Hp (w:World) (b:Bool) (RO:ZA) (L:KL) (ss ks:List Value) (ea i:Nat) (S:Sk) (ep:Nat) (hx:ss[i]?=some (.ref S.sh)) (hz:ks.length≤1000) (F:PySem.Result→ZA→Prop)
 (H:∀ ρ:Nat→Nat,ZD (wf w b) ((L.sl,ZB ss L.es)::(shK w S [] ep++[]++RO)) 410 (YZ w L) (WS w L (ZI [YI w (ρ 0) (.ref S.sh)] (ρ 1)) (ks++[.ref (ρ 2)]) (ρ 3) (Zb L.sl (i + 1)) [(ρ 2,ZB [] (ρ 4))]).mem F):ZD (wf w b) ((L.sl,ZB ss L.es)::(shK w S [] ep++[]++RO)) 410 (YZ w L) (WE L (ZI [] 0) ks ea (Zb L.sl i)) F:=
 cK (KU w b RO L ss ks ea i S ep hx hz F H) (by cases b<;>kernel_rfl)
noncomputable def KV (w:World) (b:Bool) (RO:ZA) (L:KL) (ss ks:List Value) (ea i:Nat) (S:Sk) (ep:Nat) (vw:Value) (tw n:Nat) (hx:ss[i]?=some (.ref S.sh)) (hz:ks.length≤1000) (F:PySem.Result→ZA→Prop)
 (H:∀ ρ:Nat→Nat,ZD (wf w b) ((L.sl,ZB ss L.es)::(shK w S [] ep++[]++RO)) 410 (YZ w L) (WS w L (ZI [YI w (ρ 0) (.ref S.sh)] (ρ 1)) (ks++[.ref (ρ 2)]) (ρ 3) (Zb L.sl (i + 1)) [(ρ 2,ZB [] (ρ 4))]).mem F):CE (wf w b) ((L.sl,ZB ss L.es)::(shK w S [] ep++[]++RO)) []:=
 .l 3 (.k (Z8 L.it L.sl ss L.es i (.ref S.sh)) [2] (YE w b _ _ _ _ _ _ _ (.head _) hx) fun ρ0=>.l 2400130020099110000990434400134340099043303691432036813690432036813690432010020010100009903320733033304330432033303681369043203681369043203681369043220010100 (.a fun a4=>.l 2001 (.a fun a5=>.l 1 (.a fun a6=>.l 99 (.c 2 (ZF w b _ a5 #[(.ref a4),(.int 0 0)]) (.l 100300011099100300043003 (.k (Z6 L.acc ks ea (.ref a6)) [11] (YC w b _ _ _ _ _ hz) fun ρ1=>.e [4,1,10] (H (rl [tw,n,a6,ρ1 0])))))))))
theorem Hq (w:World) (b:Bool) (RO:ZA) (L:KL) (ss ks:List Value) (ea i:Nat) (S:Sk) (ep:Nat) (vw:Value) (tw n:Nat) (hx:ss[i]?=some (.ref S.sh)) (hz:ks.length≤1000) (F:PySem.Result→ZA→Prop)
 (H:∀ ρ:Nat→Nat,ZD (wf w b) ((L.sl,ZB ss L.es)::(shK w S [] ep++[]++RO)) 410 (YZ w L) (WS w L (ZI [YI w (ρ 0) (.ref S.sh)] (ρ 1)) (ks++[.ref (ρ 2)]) (ρ 3) (Zb L.sl (i + 1)) [(ρ 2,ZB [] (ρ 4))]).mem F):ZD (wf w b) ((L.sl,ZB ss L.es)::(shK w S [] ep++[]++RO)) 410 (YZ w L) (WE L (ZI [YI w tw vw] n) ks ea (Zb L.sl i)) F:=
 cK (KV w b RO L ss ks ea i S ep vw tw n hx hz F H) (by cases b<;>kernel_rfl)
noncomputable def KW (w:World) (b:Bool) (RO:ZA) (L:KL) (ss ks:List Value) (ea i:Nat) (S:Sk) (p:Pr) (ep:Nat) (hx:ss[i]?=some (.ref S.sh)) (hp:p.n < 13) (hz:ks.length≤1000) (F:PySem.Result→ZA→Prop)
 (H:∀ ρ:Nat→Nat,ZD (wf w b) ((L.sl,ZB ss L.es)::(shK w S [p] ep++[cell p]++RO)) 410 (YZ w L) (WS w L (ZI [YI w (ρ 0) (.ref S.sh)] (ρ 1)) (ks++[.ref (ρ 2)]) (ρ 3) (Zb L.sl (i + 1)) [(ρ 5,ZS [.str (wd p.k) p.t,.int (Int.ofNat p.n) (ρ 7)]),(ρ 2,ZB [.ref (ρ 5)] (ρ 4))]).mem F):CE (wf w b) ((L.sl,ZB ss L.es)::(shK w S [p] ep++[cell p]++RO)) []:=
 .l 3 (.k (Z8 L.it L.sl ss L.es i (.ref S.sh)) [2] (YE w b _ _ _ _ _ _ _ (.head _) hx) fun ρ0=>.t fun t0=>.l 240013002009911000099043440013434009904330369143203681369043203681369043201002001010000990332073303330433043203330368136904320368136904320368136904322001 (.a fun a4=>.l 2001 (.a fun a5=>.l 1 (.a fun a6=>.l 99 (.c 2 (ZF w b _ a5 #[(.ref a4),(.int 0 0)]) (.l 401010104200401001004010000011099100104355001043550010435400100993435300300043003 (.k (Zc p.n (p.5)) [] (Z5 w b _ _ _ hp) fun ρ1=>.a fun a11=>.l 5007000110991007000830073006 (.k (Z6 L.acc ks ea (.ref a6)) [15] (YC w b _ _ _ _ _ hz) fun ρ2=>.e [2,1,6,1,10] (H (rl [t0,1,a6,ρ2 0,1,a11,0,ρ1 0]))))))))))
theorem Hr (w:World) (b:Bool) (RO:ZA) (L:KL) (ss ks:List Value) (ea i:Nat) (S:Sk) (p:Pr) (ep:Nat) (hx:ss[i]?=some (.ref S.sh)) (hp:p.n < 13) (hz:ks.length≤1000) (F:PySem.Result→ZA→Prop)
 (H:∀ ρ:Nat→Nat,ZD (wf w b) ((L.sl,ZB ss L.es)::(shK w S [p] ep++[cell p]++RO)) 410 (YZ w L) (WS w L (ZI [YI w (ρ 0) (.ref S.sh)] (ρ 1)) (ks++[.ref (ρ 2)]) (ρ 3) (Zb L.sl (i + 1)) [(ρ 5,ZS [.str (wd p.k) p.t,.int (Int.ofNat p.n) (ρ 7)]),(ρ 2,ZB [.ref (ρ 5)] (ρ 4))]).mem F):ZD (wf w b) ((L.sl,ZB ss L.es)::(shK w S [p] ep++[cell p]++RO)) 410 (YZ w L) (WE L (ZI [] 0) ks ea (Zb L.sl i)) F:=
 cK (KW w b RO L ss ks ea i S p ep hx hp hz F H) (by cases b<;>kernel_rfl)
noncomputable def KX (w:World) (b:Bool) (RO:ZA) (L:KL) (ss ks:List Value) (ea i:Nat) (S:Sk) (p:Pr) (ep:Nat) (vw:Value) (tw n:Nat) (hx:ss[i]?=some (.ref S.sh)) (hp:p.n < 13) (hz:ks.length≤1000) (F:PySem.Result→ZA→Prop)
 (H:∀ ρ:Nat→Nat,ZD (wf w b) ((L.sl,ZB ss L.es)::(shK w S [p] ep++[cell p]++RO)) 410 (YZ w L) (WS w L (ZI [YI w (ρ 0) (.ref S.sh)] (ρ 1)) (ks++[.ref (ρ 2)]) (ρ 3) (Zb L.sl (i + 1)) [(ρ 5,ZS [.str (wd p.k) p.t,.int (Int.ofNat p.n) (ρ 7)]),(ρ 2,ZB [.ref (ρ 5)] (ρ 4))]).mem F):CE (wf w b) ((L.sl,ZB ss L.es)::(shK w S [p] ep++[cell p]++RO)) []:=
 .l 3 (.k (Z8 L.it L.sl ss L.es i (.ref S.sh)) [2] (YE w b _ _ _ _ _ _ _ (.head _) hx) fun ρ0=>.l 2400130020099110000990434400134340099043303691432036813690432036813690432010020010100009903320733033304330432033303681369043203681369043203681369043220010100 (.a fun a4=>.l 2001 (.a fun a5=>.l 1 (.a fun a6=>.l 99 (.c 2 (ZF w b _ a5 #[(.ref a4),(.int 0 0)]) (.l 401010104200401001004010000011099100104355001043550010435400100993435300300043003 (.k (Zc p.n (p.5)) [] (Z5 w b _ _ _ hp) fun ρ1=>.a fun a11=>.l 5007000110991007000830073006 (.k (Z6 L.acc ks ea (.ref a6)) [15] (YC w b _ _ _ _ _ hz) fun ρ2=>.e [2,1,6,1,10] (H (rl [tw,n,a6,ρ2 0,1,a11,0,ρ1 0]))))))))))
theorem Hs (w:World) (b:Bool) (RO:ZA) (L:KL) (ss ks:List Value) (ea i:Nat) (S:Sk) (p:Pr) (ep:Nat) (vw:Value) (tw n:Nat) (hx:ss[i]?=some (.ref S.sh)) (hp:p.n < 13) (hz:ks.length≤1000) (F:PySem.Result→ZA→Prop)
 (H:∀ ρ:Nat→Nat,ZD (wf w b) ((L.sl,ZB ss L.es)::(shK w S [p] ep++[cell p]++RO)) 410 (YZ w L) (WS w L (ZI [YI w (ρ 0) (.ref S.sh)] (ρ 1)) (ks++[.ref (ρ 2)]) (ρ 3) (Zb L.sl (i + 1)) [(ρ 5,ZS [.str (wd p.k) p.t,.int (Int.ofNat p.n) (ρ 7)]),(ρ 2,ZB [.ref (ρ 5)] (ρ 4))]).mem F):ZD (wf w b) ((L.sl,ZB ss L.es)::(shK w S [p] ep++[cell p]++RO)) 410 (YZ w L) (WE L (ZI [YI w tw vw] n) ks ea (Zb L.sl i)) F:=
 cK (KX w b RO L ss ks ea i S p ep vw tw n hx hp hz F H) (by cases b<;>kernel_rfl)
noncomputable def KY (w:World) (b:Bool) (RO:ZA) (L:KL) (ss ks:List Value) (ea i:Nat) (S:Sk) (p q:Pr) (ep:Nat) (hx:ss[i]?=some (.ref S.sh)) (hp:p.n < 13) (hq:q.n < 13) (hz:ks.length≤1000) (F:PySem.Result→ZA→Prop)
 (H:∀ ρ:Nat→Nat,ZD (wf w b) ((L.sl,ZB ss L.es)::(shK w S [p,q] ep++[cell p,cell q]++RO)) 410 (YZ w L) (WS w L (ZI [YI w (ρ 0) (.ref S.sh)] (ρ 1)) (ks++[.ref (ρ 2)]) (ρ 3) (Zb L.sl (i + 1)) [(ρ 6,ZS [.str (wd p.k) p.t,.int (Int.ofNat p.n) (ρ 8)]),(ρ 5,ZS [.str (wd q.k) q.t,.int (Int.ofNat q.n) (ρ 7)]),(ρ 2,ZB [.ref (ρ 5),.ref (ρ 6)] (ρ 4))]).mem F):CE (wf w b) ((L.sl,ZB ss L.es)::(shK w S [p,q] ep++[cell p,cell q]++RO)) []:=
 .l 3 (.k (Z8 L.it L.sl ss L.es i (.ref S.sh)) [2] (YE w b _ _ _ _ _ _ _ (.head _) hx) fun ρ0=>.t fun t0=>.l 240013002009911000099043440013434009904330369143203681369043203681369043201002001010000990332073303330433043203330368136904320368136904320368136904322001 (.a fun a4=>.l 2001 (.a fun a5=>.l 1 (.a fun a6=>.l 99 (.c 2 (ZF w b _ a5 #[(.ref a4),(.int 0 0)]) (.l 401010104200401001004010000011099100104365001043650010436400100993436300300043003 (.k (Zc q.n (q.5)) [] (Z5 w b _ _ _ hq) fun ρ1=>.a fun a11=>.l 8010101042008010010080100000110991001043550010435500104354001009934353007000830073006 (.k (Zc p.n (p.5)) [] (Z5 w b _ _ _ hp) fun ρ2=>.a fun a15=>.l 5011000110991011001230113010 (.k (Z6 L.acc ks ea (.ref a6)) [19] (YC w b _ _ _ _ _ hz) fun ρ3=>.e [2,1,4,1,6,1,10] (H (rl [t0,1,a6,ρ3 0,2,a11,a15,ρ1 0,ρ2 0])))))))))))
theorem Ht (w:World) (b:Bool) (RO:ZA) (L:KL) (ss ks:List Value) (ea i:Nat) (S:Sk) (p q:Pr) (ep:Nat) (hx:ss[i]?=some (.ref S.sh)) (hp:p.n < 13) (hq:q.n < 13) (hz:ks.length≤1000) (F:PySem.Result→ZA→Prop)
 (H:∀ ρ:Nat→Nat,ZD (wf w b) ((L.sl,ZB ss L.es)::(shK w S [p,q] ep++[cell p,cell q]++RO)) 410 (YZ w L) (WS w L (ZI [YI w (ρ 0) (.ref S.sh)] (ρ 1)) (ks++[.ref (ρ 2)]) (ρ 3) (Zb L.sl (i + 1)) [(ρ 6,ZS [.str (wd p.k) p.t,.int (Int.ofNat p.n) (ρ 8)]),(ρ 5,ZS [.str (wd q.k) q.t,.int (Int.ofNat q.n) (ρ 7)]),(ρ 2,ZB [.ref (ρ 5),.ref (ρ 6)] (ρ 4))]).mem F):ZD (wf w b) ((L.sl,ZB ss L.es)::(shK w S [p,q] ep++[cell p,cell q]++RO)) 410 (YZ w L) (WE L (ZI [] 0) ks ea (Zb L.sl i)) F:=
 cK (KY w b RO L ss ks ea i S p q ep hx hp hq hz F H) (by cases b<;>kernel_rfl)
noncomputable def KZ (w:World) (b:Bool) (RO:ZA) (L:KL) (ss ks:List Value) (ea i:Nat) (S:Sk) (p q:Pr) (ep:Nat) (vw:Value) (tw n:Nat) (hx:ss[i]?=some (.ref S.sh)) (hp:p.n < 13) (hq:q.n < 13) (hz:ks.length≤1000) (F:PySem.Result→ZA→Prop)
 (H:∀ ρ:Nat→Nat,ZD (wf w b) ((L.sl,ZB ss L.es)::(shK w S [p,q] ep++[cell p,cell q]++RO)) 410 (YZ w L) (WS w L (ZI [YI w (ρ 0) (.ref S.sh)] (ρ 1)) (ks++[.ref (ρ 2)]) (ρ 3) (Zb L.sl (i + 1)) [(ρ 6,ZS [.str (wd p.k) p.t,.int (Int.ofNat p.n) (ρ 8)]),(ρ 5,ZS [.str (wd q.k) q.t,.int (Int.ofNat q.n) (ρ 7)]),(ρ 2,ZB [.ref (ρ 5),.ref (ρ 6)] (ρ 4))]).mem F):CE (wf w b) ((L.sl,ZB ss L.es)::(shK w S [p,q] ep++[cell p,cell q]++RO)) []:=
 .l 3 (.k (Z8 L.it L.sl ss L.es i (.ref S.sh)) [2] (YE w b _ _ _ _ _ _ _ (.head _) hx) fun ρ0=>.l 2400130020099110000990434400134340099043303691432036813690432036813690432010020010100009903320733033304330432033303681369043203681369043203681369043220010100 (.a fun a4=>.l 2001 (.a fun a5=>.l 1 (.a fun a6=>.l 99 (.c 2 (ZF w b _ a5 #[(.ref a4),(.int 0 0)]) (.l 401010104200401001004010000011099100104365001043650010436400100993436300300043003 (.k (Zc q.n (q.5)) [] (Z5 w b _ _ _ hq) fun ρ1=>.a fun a11=>.l 8010101042008010010080100000110991001043550010435500104354001009934353007000830073006 (.k (Zc p.n (p.5)) [] (Z5 w b _ _ _ hp) fun ρ2=>.a fun a15=>.l 5011000110991011001230113010 (.k (Z6 L.acc ks ea (.ref a6)) [19] (YC w b _ _ _ _ _ hz) fun ρ3=>.e [2,1,4,1,6,1,10] (H (rl [tw,n,a6,ρ3 0,2,a11,a15,ρ1 0,ρ2 0])))))))))))
theorem Hu (w:World) (b:Bool) (RO:ZA) (L:KL) (ss ks:List Value) (ea i:Nat) (S:Sk) (p q:Pr) (ep:Nat) (vw:Value) (tw n:Nat) (hx:ss[i]?=some (.ref S.sh)) (hp:p.n < 13) (hq:q.n < 13) (hz:ks.length≤1000) (F:PySem.Result→ZA→Prop)
 (H:∀ ρ:Nat→Nat,ZD (wf w b) ((L.sl,ZB ss L.es)::(shK w S [p,q] ep++[cell p,cell q]++RO)) 410 (YZ w L) (WS w L (ZI [YI w (ρ 0) (.ref S.sh)] (ρ 1)) (ks++[.ref (ρ 2)]) (ρ 3) (Zb L.sl (i + 1)) [(ρ 6,ZS [.str (wd p.k) p.t,.int (Int.ofNat p.n) (ρ 8)]),(ρ 5,ZS [.str (wd q.k) q.t,.int (Int.ofNat q.n) (ρ 7)]),(ρ 2,ZB [.ref (ρ 5),.ref (ρ 6)] (ρ 4))]).mem F):ZD (wf w b) ((L.sl,ZB ss L.es)::(shK w S [p,q] ep++[cell p,cell q]++RO)) 410 (YZ w L) (WE L (ZI [YI w tw vw] n) ks ea (Zb L.sl i)) F:=
 cK (KZ w b RO L ss ks ea i S p q ep vw tw n hx hp hq hz F H) (by cases b<;>kernel_rfl)
theorem EE (w:World) (b:Bool) (RO:ZA) (L:KL) (fd:Obj) (ss ks:List Value) (ea i:Nat) (hx:ss[i]?=none):(Fi w L fd ks ea i).ok (wf w b) ((L.sl,ZB ss L.es)::RO) 410:=
 cR (.l 3 (.k (Wc L.it L.sl ss L.es i) [2] (W2 w b _ _ _ _ _ _ (.head _) hx) fun ρ0=>.l 1 (.z [2] (fun _=>0)))) (by kernel_rfl)
noncomputable abbrev KG:=Nat × Nat × List Pr
noncomputable def V2 (g:KG):ZA:=g.2.2.reverse.map ZY++[(g.1,ZB (ZH g.2.2) g.2.1)]
noncomputable def VS (gs:List KG):ZA:=gs.flatMap V2
noncomputable def IK (w:World) (fd:Obj):Prop:=fd=ZI [] 0∨∃ tw vw n,fd=ZI [YI w tw vw] n
theorem Fj (w:World) (b:Bool) (RO:ZA) (L:KL) (ss ks:List Value) (ea i:Nat) (S:Sk) (A:List Pr) (ep:Nat) (fd:Obj) (hf:IK w fd) (hA:A.length≤2) (hn:∀ p∈A,p.n < 13) (hx:ss[i]?=some (.ref S.sh)) (hz:ks.length≤1000) (F:Result→ZA→Prop)
  (H:∀ (ρ:Nat→Nat) (g:KG),g.2.2.map kn=seg A→ZD (wf w b) ((L.sl,ZB ss L.es)::(shK w S A ep++A.map cell++RO)) 410 (YZ w L) (V2 g++WE L (ZI [YI w (ρ 0) (.ref S.sh)] (ρ 1)) (ks++[.ref g.1]) (ρ 3) (Zb L.sl (i + 1))) F) :
  ZD (wf w b) ((L.sl,ZB ss L.es)::(shK w S A ep++A.map cell++RO)) 410 (YZ w L) (WE L fd ks ea (Zb L.sl i)) F:=by
 match A,hA,hn,H with
 | [],_,_,H=>
  rcases hf with rfl | ⟨tw,vw,n,rfl⟩
  ·exact Hp w b RO L ss ks ea i S ep hx hz F fun ρ=>H ρ (ρ 2,ρ 4,[]) rfl
  ·exact Hq w b RO L ss ks ea i S ep vw tw n hx hz F fun ρ=>H ρ (ρ 2,ρ 4,[]) rfl
 | [p],_,hn,H=>
  rcases hf with rfl | ⟨tw,vw,n,rfl⟩
  ·exact Hr w b RO L ss ks ea i S p ep hx (hn p (.head _)) hz F fun ρ=>H ρ (ρ 2,ρ 4,[⟨ρ 5,p.k,p.t,p.n,ρ 7⟩]) rfl
  ·exact Hs w b RO L ss ks ea i S p ep vw tw n hx (hn p (.head _)) hz F fun ρ=>H ρ (ρ 2,ρ 4,[⟨ρ 5,p.k,p.t,p.n,ρ 7⟩]) rfl
 | [p,q],_,hn,H=>
  rcases hf with rfl | ⟨tw,vw,n,rfl⟩
  ·exact Ht w b RO L ss ks ea i S p q ep hx (hn p (.head _)) (hn q (.tail _ (.head _))) hz F fun ρ=>H ρ (ρ 2,ρ 4,[⟨ρ 5,q.k,q.t,q.n,ρ 7⟩,⟨ρ 6,p.k,p.t,p.n,ρ 8⟩]) rfl
  ·exact Hu w b RO L ss ks ea i S p q ep vw tw n hx (hn p (.head _)) (hn q (.tail _ (.head _))) hz F fun ρ=>H ρ (ρ 2,ρ 4,[⟨ρ 5,q.k,q.t,q.n,ρ 7⟩,⟨ρ 6,p.k,p.t,p.n,ρ 8⟩]) rfl
noncomputable abbrev TS:=Sk × List Pr × Nat
structure TsOk (w:World) (RO:ZA) (T:TS):Prop where
 cells:∀ c∈shK w T.1 T.2.1 T.2.2,c∈RO
 prs:YT T.2.1 RO
 len:T.2.1.length≤2
 nt:∀ p∈T.2.1,p.n < 13
noncomputable def Fk (w:World) (L:KL) (ks:List Value) (Ts:List TS) (r:Result) (M':ZA):Prop:=
 ∃ (gs:List KG) (ρ:Nat→Nat),gs.map (fun g=>g.2.2.map kn)=Ts.map (fun T=>seg T.2.1)∧r = .ok .next∧M'=VS gs++WE L (ZI [YI w (ρ 0) (.ref (ρ 1))] (ρ 2)) (ks++gs.map fun g=>.ref g.1) (ρ 3) (Xz (ρ 4))
theorem Sn (w:World) (b:Bool) (L:KL) (ss:List Value):∀ (Ts:List TS) (RO:ZA) (fd:Obj) (ks:List Value) (ea i:Nat),(∀ T∈Ts,TsOk w RO T)→(L.sl,ZB ss L.es)∈RO→ss.drop i=Ts.map (fun T=>.ref T.1.sh)→(Ts≠[]∧IK w fd∨∃ t s n,fd=ZI [YI w t (.ref s)] n)→ks.length + Ts.length≤1000→
  ZD (wf w b) RO 410 (YZ w L) (WE L fd ks ea (Zb L.sl i)) (Fk w L ks Ts)
 | [],RO,fd,ks,ea,i,_,hs,hd,hf,hz=>by
  rcases hf with ⟨hf,_⟩ | ⟨t,s,n,rfl⟩
  ·exact absurd rfl hf
  have z:=EE w b RO L (ZI [YI w t (.ref s)] n) ss ks ea i (List.getElem?_eq_none_iff.mpr (List.drop_eq_nil_iff.mp hd))
  refine ZD.mono (ZD.more z fun p hp=>?_) ?_
  ·cases hp with
   | head=>exact hs
   | tail _ hp=>exact hp
  ·rintro r M' ⟨ρ,rfl,rfl,_⟩
   exact ⟨[],rl [t,s,n,ea,i],rfl,rfl,by rw [List.map_nil,List.append_nil]; rfl⟩
 | T::Ts,RO,fd,ks,ea,i,hT,hs,hd,hf,hz=>by
  have hf':IK w fd:=by
   rcases hf with ⟨_,hf⟩ | ⟨t,s,n,rfl⟩
   ·exact hf
   ·exact .inr ⟨_,_,_,rfl⟩
  have T1:=hT T (.head _)
  have hx:ss[i]?=some (.ref T.1.sh):=by
   have:=congrArg (fun l=>l[0]?) hd
   simpa using this
  have hd':ss.drop (i + 1)=Ts.map (fun T=>.ref T.1.sh):=by
   rw [← List.drop_drop,hd]
   rfl
  rw [List.length_cons] at hz
  refine ZD.more (Fj w b RO L ss ks ea i T.1 T.2.1 T.2.2 fd hf' T1.len T1.nt hx (by omega) _ fun ρ g hg=>?_) ?_
  ·have z:=Sn w b L ss Ts (V2 g++RO) (ZI [YI w (ρ 0) (.ref T.1.sh)] (ρ 1)) (ks++[.ref g.1]) (ρ 3) (i + 1) (fun T' h=>⟨fun c hc=>List.mem_append.mpr (.inr ((hT T' (.tail _ h)).cells c hc)),(hT T' (.tail _ h)).prs.up fun p hp=>List.mem_append.mpr (.inr hp),(hT T' (.tail _ h)).len,(hT T' (.tail _ h)).nt⟩) (List.mem_append.mpr (.inr hs)) hd' (.inr ⟨_,_,_,rfl⟩) (by rw [List.length_append]; simp only [List.length_cons,List.length_nil]; omega)
   refine ZD.mono (ZD.frame (V2 g) (ZD.more z fun p hp=>?_)) ?_
   ·rcases List.mem_append.mp hp with h | h
    ·exact List.mem_append.mpr (.inl h)
    ·exact List.mem_append.mpr (.inr (.tail _ (List.mem_append.mpr (.inr h))))
   ·rintro r M' ⟨M₁,rfl,gs,ρ',hg',rfl,rfl⟩
    refine ⟨g::gs,ρ',?_,rfl,?_⟩
    ·rw [List.map_cons,List.map_cons,hg,hg']
    ·show _=(V2 g++VS gs)++_
     rw [List.append_assoc,List.append_assoc]
     rfl
  ·intro p hp
   rcases List.mem_cons.mp hp with h | h
   ·exact h▸hs
   rcases List.mem_append.mp h with h | h
   ·rcases List.mem_append.mp h with h | h
    ·exact T1.cells p h
    ·exact T1.prs.cells p h
   ·exact h
end
section
open PySem PySem.W PySem.W.X PySem.Calls PyProof.Rows PySem.Spec
noncomputable def Hv (P:Params):List Stmt:=match (fdB P 315).body with | .stmts b=>b | .expr _=>[]
noncomputable def G4 (P:Params) (a0 a1 a2 a3 a4:Nat):PySem.Env:={ scope:=(fdB P 315).scope,locals:=a0,globals:=3,cells:=[(⟨#[115,112,111,116,115]⟩,a4),(⟨#[119,111,114,100]⟩,a3),(⟨#[114,111,119]⟩,a2),(⟨#[115,105,122,101,115]⟩,a1)],qual:=⟨#[95,108,97,119,95,114,111,119]++#[46,60,108,111,99,97,108,115,62,46]⟩,func:=some 315,code:=.ref 314,frame:=some a0,builtins:=0 }
noncomputable def Fl:List Stmt→Expr × List Stmt × List Stmt | .For t _ b o _::_=>(t,b,o) | _=>(.Name ⟨#[]⟩ ⟨0,0,0,0⟩,[],[])
noncomputable def VT (P:Params):Expr × List Stmt × List Stmt:=Fl ((Hv P).drop 2)
noncomputable def EG:List Stmt→List Stmt | .If _ b _ _::_=>b | _=>[]
noncomputable def Is:List Stmt→Expr | .Expr (.Call _ (a::_) _ _) _::_=>a | _=>.Name ⟨#[]⟩ ⟨0,0,0,0⟩
noncomputable def EH:Expr→Expr | .Call _ (a::_) _ _=>a | e=>e
noncomputable def It (P:Params):Expr:=G0 (VT P).2.1 0
noncomputable def G5 (P:Params):Expr:=EH (Is (EG ((VT P).2.1.drop 1)))
noncomputable def Eg (P:Params):Expr:=Is ((VT P).2.1.drop 2)
structure RL where
 (it a0 a1 a2 a3 a4 ask en fl ll ae ee:Nat)
noncomputable def QR (w:World) (L:RL):PySem.Env:=G4 w.params L.a0 L.a1 L.a2 L.a3 L.a4
noncomputable def XW (w:World) (L:RL):Code:=.forLoop (VT w.params).1 (.ref L.it) (VT w.params).2.1 (VT w.params).2.2 (QR w L)
noncomputable def frR (w:World) (L:RL) (u:Nat→Nat):Obj:=frO [ent w ⟨#[97,115,107,101,100]⟩ (u 0) (.ref L.ask),ent w ⟨#[101,110,100,115]⟩ (u 1) (.ref L.en),ent w ⟨#[102,111,117,110,100,115]⟩ (u 2) (.ref L.fl),ent w ⟨#[108,111,115,116]⟩ (u 3) (.ref L.ll)] 4
noncomputable def roR (w:World) (L:RL) (u:Nat→Nat) (ws:List Value):ZA:=[(L.ask,ZB ws L.ae),(L.a0,frR w L u)]
noncomputable def Eh (L:RL) (i ra:Nat) (R:List Pr) (er:Nat) (ow os:Option Value) (fs:List Value) (ef:Nat) (ls:List Value) (el:Nat) (es:List Value):ZA:=
 [(ra,ZB (ZH R) er),(L.it,Zb L.ask i),(L.a4,Zn os),(L.a3,Zn ow),(L.a2,Zn (some (.ref ra))),(L.fl,ZB fs ef),(L.ll,ZB ls el),(L.en,ZB es L.ee)]
noncomputable def XF (w:World) (L:RL) (i ra:Nat) (R:List Pr) (er:Nat) (ow os:Option Value) (fs:List Value) (ef:Nat) (ls:List Value) (el:Nat) (es:List Value) (N:ZA):Con:=
 {code:=XW w L,mem:=(ra,ZB (ZH R) er)::(N++[(L.it,Zb L.ask i),(L.a4,Zn os),(L.a3,Zn ow),(L.a2,Zn (some (.ref ra))),(L.fl,ZB fs ef),(L.ll,ZB ls el),(L.en,ZB es L.ee)]),r:=fun _=>.ok .next,upd:=fun _=>[],new:=fun _=>[] }
noncomputable def XG (w:World) (L:RL) (en acc f:Nat):Code:=Ti (It w.params) (QR w L) en acc f
noncomputable def MX (it i:Nat) (v:Value):Obj:=⟨.type "enumerate",none,.fields #[.none,.bool false,.ref it,.int (Int.ofNat i) 0,.none,v],#[]⟩
noncomputable def spE (w:World) (t:Nat) (v:Value) (t':Nat) (v':Value):List DictEntry:=[ent w ⟨#[115,112,111,116]⟩ t v,ent w ⟨#[112,97,105,114]⟩ t' v']
noncomputable def Xl (w:World) (L:RL) (en it acc f rl:Nat) (fd:Obj) (as:List Value) (ea i:Nat) (v:Value):Con:=
 {code:=XG w L en acc f,mem:=[(f,fd),(acc,ZB as ea),(en,MX it i v),(it,Zb rl i)],r:=fun _=>.ok .next,upd:=fun _=>[],new:=fun _=>[] }
noncomputable def roS (L:RL) (rl er k t:Nat) (R:List Pr):ZA:=[(rl,ZB (ZH R) er),(L.a3,Zn (some (.str (wd k) t)))]
end
section
open PySem PySem.W
noncomputable def Rb (w:World) (b:Bool) (RO:ZA) (L:RL) (en it acc f ra er k t ea i:Nat) (v:Value) (q:Pr) (R:List Pr) (as:List PySem.Value) (hx:(ZH R)[i]?=some (.ref q.a)) (hk:k < 12) (hq:q.k < 12) (hh:(q.k % 6 == k % 6)=false) (hz:as.length≤1000) (F:PySem.Result→ZA→Prop)
 (H:∀ ρ:Nat→Nat,ZD (wf w b) (roS L ra er k t R++ZY q::RO) 440 (XG w L en acc f) (Xl w L en it acc f ra (ZI (spE w (ρ 0) (.int (Int.ofNat i) (ρ 1)) (ρ 2) (.ref q.a)) (ρ 3)) as ea (i + 1) (.ref q.a)).mem F):CE (wf w b) (roS L ra er k t R++ZY q::RO) []:=
 .l 42003 (.k (Z8 it ra (ZH R) er i (.ref q.a)) [3] (YE w b _ _ _ _ _ _ _ (.head _) hx) fun ρ0=>.l 1003 (.t fun t0=>.l 3003 (.a fun a0=>.l 8004 (.s 3 (ZE a0 (.type "enumerate") none [(.bool false),(.ref it),(.int (Int.ofNat i + 1) 0),.none,(.ref (q.1))] #[]) (.l 11099100100025001000250010002400100993001 (.t fun t1=>.l 1005 (.t fun t2=>.l 443301002005 (.k (ZJ q.k (q.3)) [] (ZO w b _ _ _ hq) fun ρ1=>.l 432 (.k (ZJ k t) [] (ZO w b _ _ _ hk) fun ρ2=>.k (Y4 (wd (lwi q.k)) (ρ1 0) (wd (lwi k)) (ρ2 0) false) [] (XZ w b _ _ _ _ _ _ (Xr hq hk hh)) fun ρ3=>.e [6] (H (rl [t1,t0,t2,2])))))))))))
theorem OK (w:World) (b:Bool) (RO:ZA) (L:RL) (en it acc f ra er k t ea i:Nat) (v:Value) (q:Pr) (R:List Pr) (as:List PySem.Value) (hx:(ZH R)[i]?=some (.ref q.a)) (hk:k < 12) (hq:q.k < 12) (hh:(q.k % 6 == k % 6)=false) (hz:as.length≤1000) (F:PySem.Result→ZA→Prop)
 (H:∀ ρ:Nat→Nat,ZD (wf w b) (roS L ra er k t R++ZY q::RO) 440 (XG w L en acc f) (Xl w L en it acc f ra (ZI (spE w (ρ 0) (.int (Int.ofNat i) (ρ 1)) (ρ 2) (.ref q.a)) (ρ 3)) as ea (i + 1) (.ref q.a)).mem F):ZD (wf w b) (roS L ra er k t R++ZY q::RO) 440 (XG w L en acc f) (Xl w L en it acc f ra (ZI [] 0) as ea i v).mem F:=
 cK (Rb w b RO L en it acc f ra er k t ea i v q R as hx hk hq hh hz F H) (by cases b<;>kernel_rfl)
noncomputable def Rc (w:World) (b:Bool) (RO:ZA) (L:RL) (en it acc f ra er k t ea i:Nat) (v:Value) (q:Pr) (R:List Pr) (as:List PySem.Value) (v1 v2:Value) (tv tw n:Nat) (hx:(ZH R)[i]?=some (.ref q.a)) (hk:k < 12) (hq:q.k < 12) (hh:(q.k % 6 == k % 6)=false) (hz:as.length≤1000) (F:PySem.Result→ZA→Prop)
 (H:∀ ρ:Nat→Nat,ZD (wf w b) (roS L ra er k t R++ZY q::RO) 440 (XG w L en acc f) (Xl w L en it acc f ra (ZI (spE w (ρ 0) (.int (Int.ofNat i) (ρ 1)) (ρ 2) (.ref q.a)) (ρ 3)) as ea (i + 1) (.ref q.a)).mem F):CE (wf w b) (roS L ra er k t R++ZY q::RO) []:=
 .l 42003 (.k (Z8 it ra (ZH R) er i (.ref q.a)) [3] (YE w b _ _ _ _ _ _ _ (.head _) hx) fun ρ0=>.l 1003 (.t fun t0=>.l 3003 (.a fun a0=>.l 8004 (.s 3 (ZE a0 (.type "enumerate") none [(.bool false),(.ref it),(.int (Int.ofNat i + 1) 0),.none,(.ref (q.1))] #[]) (.l 44330100200501001005010000011099100100025001000250010002400100993001 (.k (ZJ q.k (q.3)) [] (ZO w b _ _ _ hq) fun ρ1=>.l 432 (.k (ZJ k t) [] (ZO w b _ _ _ hk) fun ρ2=>.k (Y4 (wd (lwi q.k)) (ρ1 0) (wd (lwi k)) (ρ2 0) false) [] (XZ w b _ _ _ _ _ _ (Xr hq hk hh)) fun ρ3=>.e [6] (H (rl [tv,t0,tw,n])))))))))
theorem OL (w:World) (b:Bool) (RO:ZA) (L:RL) (en it acc f ra er k t ea i:Nat) (v:Value) (q:Pr) (R:List Pr) (as:List PySem.Value) (v1 v2:Value) (tv tw n:Nat) (hx:(ZH R)[i]?=some (.ref q.a)) (hk:k < 12) (hq:q.k < 12) (hh:(q.k % 6 == k % 6)=false) (hz:as.length≤1000) (F:PySem.Result→ZA→Prop)
 (H:∀ ρ:Nat→Nat,ZD (wf w b) (roS L ra er k t R++ZY q::RO) 440 (XG w L en acc f) (Xl w L en it acc f ra (ZI (spE w (ρ 0) (.int (Int.ofNat i) (ρ 1)) (ρ 2) (.ref q.a)) (ρ 3)) as ea (i + 1) (.ref q.a)).mem F):ZD (wf w b) (roS L ra er k t R++ZY q::RO) 440 (XG w L en acc f) (Xl w L en it acc f ra (ZI (spE w tv v1 tw v2) n) as ea i v).mem F:=
 cK (Rc w b RO L en it acc f ra er k t ea i v q R as v1 v2 tv tw n hx hk hq hh hz F H) (by cases b<;>kernel_rfl)
noncomputable def QS (w:World) (b:Bool) (RO:ZA) (L:RL) (en it acc f ra er k t ea i:Nat) (v:Value) (q:Pr) (R:List Pr) (as:List PySem.Value) (hx:(ZH R)[i]?=some (.ref q.a)) (hk:k < 12) (hq:q.k < 12) (hh:(q.k % 6 == k % 6)=true) (hz:as.length≤1000) (F:PySem.Result→ZA→Prop)
 (H:∀ ρ:Nat→Nat,ZD (wf w b) (roS L ra er k t R++ZY q::RO) 440 (XG w L en acc f) (Xl w L en it acc f ra (ZI (spE w (ρ 0) (.int (Int.ofNat i) (ρ 1)) (ρ 2) (.ref q.a)) (ρ 3)) (as++[.int (Int.ofNat i) (ρ 1)]) (ρ 4) (i + 1) (.ref q.a)).mem F):CE (wf w b) (roS L ra er k t R++ZY q::RO) []:=
 .l 42003 (.k (Z8 it ra (ZH R) er i (.ref q.a)) [3] (YE w b _ _ _ _ _ _ _ (.head _) hx) fun ρ0=>.l 1003 (.t fun t0=>.l 3003 (.a fun a0=>.l 8004 (.s 3 (ZE a0 (.type "enumerate") none [(.bool false),(.ref it),(.int (Int.ofNat i + 1) 0),.none,(.ref (q.1))] #[]) (.l 11099100100025001000250010002400100993001 (.t fun t1=>.l 1005 (.t fun t2=>.l 443301002005 (.k (ZJ q.k (q.3)) [] (ZO w b _ _ _ hq) fun ρ1=>.l 432 (.k (ZJ k t) [] (ZO w b _ _ _ hk) fun ρ2=>.k (Y4 (wd (lwi q.k)) (ρ1 0) (wd (lwi k)) (ρ2 0) true) [] (XZ w b _ _ _ _ _ _ (Xr hq hk hh)) fun ρ3=>.l 5 (.k (Z6 acc as ea (.int (Int.ofNat i) t0)) [5] (YC w b _ _ _ _ _ hz) fun ρ4=>.e [6] (H (rl [t1,t0,t2,2,ρ4 0]))))))))))))
theorem MY (w:World) (b:Bool) (RO:ZA) (L:RL) (en it acc f ra er k t ea i:Nat) (v:Value) (q:Pr) (R:List Pr) (as:List PySem.Value) (hx:(ZH R)[i]?=some (.ref q.a)) (hk:k < 12) (hq:q.k < 12) (hh:(q.k % 6 == k % 6)=true) (hz:as.length≤1000) (F:PySem.Result→ZA→Prop)
 (H:∀ ρ:Nat→Nat,ZD (wf w b) (roS L ra er k t R++ZY q::RO) 440 (XG w L en acc f) (Xl w L en it acc f ra (ZI (spE w (ρ 0) (.int (Int.ofNat i) (ρ 1)) (ρ 2) (.ref q.a)) (ρ 3)) (as++[.int (Int.ofNat i) (ρ 1)]) (ρ 4) (i + 1) (.ref q.a)).mem F):ZD (wf w b) (roS L ra er k t R++ZY q::RO) 440 (XG w L en acc f) (Xl w L en it acc f ra (ZI [] 0) as ea i v).mem F:=
 cK (QS w b RO L en it acc f ra er k t ea i v q R as hx hk hq hh hz F H) (by cases b<;>kernel_rfl)
noncomputable def QT (w:World) (b:Bool) (RO:ZA) (L:RL) (en it acc f ra er k t ea i:Nat) (v:Value) (q:Pr) (R:List Pr) (as:List PySem.Value) (v1 v2:Value) (tv tw n:Nat) (hx:(ZH R)[i]?=some (.ref q.a)) (hk:k < 12) (hq:q.k < 12) (hh:(q.k % 6 == k % 6)=true) (hz:as.length≤1000) (F:PySem.Result→ZA→Prop)
 (H:∀ ρ:Nat→Nat,ZD (wf w b) (roS L ra er k t R++ZY q::RO) 440 (XG w L en acc f) (Xl w L en it acc f ra (ZI (spE w (ρ 0) (.int (Int.ofNat i) (ρ 1)) (ρ 2) (.ref q.a)) (ρ 3)) (as++[.int (Int.ofNat i) (ρ 1)]) (ρ 4) (i + 1) (.ref q.a)).mem F):CE (wf w b) (roS L ra er k t R++ZY q::RO) []:=
 .l 42003 (.k (Z8 it ra (ZH R) er i (.ref q.a)) [3] (YE w b _ _ _ _ _ _ _ (.head _) hx) fun ρ0=>.l 1003 (.t fun t0=>.l 3003 (.a fun a0=>.l 8004 (.s 3 (ZE a0 (.type "enumerate") none [(.bool false),(.ref it),(.int (Int.ofNat i + 1) 0),.none,(.ref (q.1))] #[]) (.l 44330100200501001005010000011099100100025001000250010002400100993001 (.k (ZJ q.k (q.3)) [] (ZO w b _ _ _ hq) fun ρ1=>.l 432 (.k (ZJ k t) [] (ZO w b _ _ _ hk) fun ρ2=>.k (Y4 (wd (lwi q.k)) (ρ1 0) (wd (lwi k)) (ρ2 0) true) [] (XZ w b _ _ _ _ _ _ (Xr hq hk hh)) fun ρ3=>.l 5 (.k (Z6 acc as ea (.int (Int.ofNat i) t0)) [5] (YC w b _ _ _ _ _ hz) fun ρ4=>.e [6] (H (rl [tv,t0,tw,n,ρ4 0]))))))))))
theorem MZ (w:World) (b:Bool) (RO:ZA) (L:RL) (en it acc f ra er k t ea i:Nat) (v:Value) (q:Pr) (R:List Pr) (as:List PySem.Value) (v1 v2:Value) (tv tw n:Nat) (hx:(ZH R)[i]?=some (.ref q.a)) (hk:k < 12) (hq:q.k < 12) (hh:(q.k % 6 == k % 6)=true) (hz:as.length≤1000) (F:PySem.Result→ZA→Prop)
 (H:∀ ρ:Nat→Nat,ZD (wf w b) (roS L ra er k t R++ZY q::RO) 440 (XG w L en acc f) (Xl w L en it acc f ra (ZI (spE w (ρ 0) (.int (Int.ofNat i) (ρ 1)) (ρ 2) (.ref q.a)) (ρ 3)) (as++[.int (Int.ofNat i) (ρ 1)]) (ρ 4) (i + 1) (.ref q.a)).mem F):ZD (wf w b) (roS L ra er k t R++ZY q::RO) 440 (XG w L en acc f) (Xl w L en it acc f ra (ZI (spE w tv v1 tw v2) n) as ea i v).mem F:=
 cK (QT w b RO L en it acc f ra er k t ea i v q R as v1 v2 tv tw n hx hk hq hh hz F H) (by cases b<;>kernel_rfl)
theorem EI (w:World) (b:Bool) (RO:ZA) (L:RL) (en it acc f ra er k t ea i:Nat) (v:Value) (fd:Obj) (R:List Pr) (as:List PySem.Value) (hx:(ZH R)[i]?=none):({ Xl w L en it acc f ra fd as ea i v with upd:=fun _=>[fd,ZB as ea,MX it i v,Xz i] }).ok (wf w b) (roS L ra er k t R++RO) 440:=
 cR (.l 42003 (.k (Wc it ra (ZH R) er i) [3] (W2 w b _ _ _ _ _ _ (.head _) hx) fun ρ0=>.l 1 (.z [2] (fun _=>0)))) (by kernel_rfl)
noncomputable def YS (k:Nat):Nat→List Pr→List Int
 | _,[]=>[]
 | i,p::R=>match Hit k p with | true=>Int.ofNat i::YS k (i + 1) R | false=>YS k (i + 1) R
theorem VD {k:Nat}:∀ {R:List Pr} (i:Nat),(∀ p∈R,Hit k p=false)→YS k i R=[]
 | [],_,_=>rfl
 | p::R,i,h=>by
  unfold YS
  rw [h p (.head _)]
  exact VD (i + 1) fun q hq=>h q (.tail _ hq)
theorem QU {k:Nat} {q:Pr} {Y:List Pr} (hq:Hit k q=true) (hY:∀ p∈Y,Hit k p=false):∀ {X:List Pr} (i:Nat),(∀ p∈X,Hit k p=false)→YS k i (X++q::Y)=[Int.ofNat (i + X.length)]
 | [],i,_=>by
  show YS k i (q::Y)=_
  unfold YS
  rw [hq,VD _ hY]
  rfl
 | p::X,i,h=>by
  show YS k i (p::(X++q::Y))=_
  unfold YS
  rw [h p (.head _)]
  show YS k (i + 1) (X++q::Y)=_
  rw [QU hq hY (i + 1) fun p' hp'=>h p' (.tail _ hp'),List.length_cons]
  congr 2
  omega
noncomputable def spF (w:World) (f acc en it:Nat) (vs:List Value) (ρ:Nat→Nat):ZA:=
 [(f,ZI (spE w (ρ 0) (.int (Int.ofNat (ρ 1)) (ρ 2)) (ρ 3) (.ref (ρ 4))) (ρ 5)),(acc,ZB vs (ρ 6)),(en,MX it (ρ 7) (.ref (ρ 9))),(it,Xz (ρ 8))]
noncomputable def G6 (w:World) (f acc en it:Nat) (as:List Value) (hs:List Int) (r:Result) (M':ZA):Prop:=
 ∃ (vs:List Value) (ρ:Nat→Nat),Uy hs vs∧r = .ok .next∧M'=spF w f acc en it (as++vs) ρ
noncomputable def IL (w:World) (fd:Obj):Prop:=fd=ZI [] 0∨∃ tv v1 tw v2 n,fd=ZI (spE w tv v1 tw v2) n
noncomputable def WF (R:List Pr) (RO:ZA):Prop:=∀ p∈R,ZY p∈RO∧p.k < 12
theorem Fm (w:World) (b:Bool) (RO:ZA) (L:RL) (en it acc f ra er k t ea i:Nat) (v:Value) (q:Pr) (R:List Pr) (as:List Value) (fd:Obj) (hf:IL w fd) (hx:(ZH R)[i]?=some (.ref q.a)) (hk:k < 12) (hq:q.k < 12) (hz:as.length≤1000) (F:Result→ZA→Prop)
  (H:∀ (ρ:Nat→Nat) (ys:List Value) (ey:Nat),(match Hit k q with | true=>∃ u,ys=as++[.int (Int.ofNat i) u] | false=>ys=as)→ZD (wf w b) (roS L ra er k t R++ZY q::RO) 440 (XG w L en acc f) (Xl w L en it acc f ra (ZI (spE w (ρ 0) (.int (Int.ofNat i) (ρ 1)) (ρ 2) (.ref q.a)) (ρ 3)) ys ey (i + 1) (.ref q.a)).mem F) :
  ZD (wf w b) (roS L ra er k t R++ZY q::RO) 440 (XG w L en acc f) (Xl w L en it acc f ra fd as ea i v).mem F:=by
 cases h:Hit k q with
 | true=>
  rw [h] at H
  rcases hf with rfl | ⟨tv,v1,tw,v2,n,rfl⟩
  ·exact MY w b RO L en it acc f ra er k t ea i v q R as hx hk hq h hz F fun ρ=>H ρ _ _ ⟨_,rfl⟩
  ·exact MZ w b RO L en it acc f ra er k t ea i v q R as v1 v2 tv tw n hx hk hq h hz F fun ρ=>H ρ _ _ ⟨_,rfl⟩
 | false=>
  rw [h] at H
  rcases hf with rfl | ⟨tv,v1,tw,v2,n,rfl⟩
  ·exact OK w b RO L en it acc f ra er k t ea i v q R as hx hk hq h hz F fun ρ=>H ρ _ _ rfl
  ·exact OL w b RO L en it acc f ra er k t ea i v q R as v1 v2 tv tw n hx hk hq h hz F fun ρ=>H ρ _ _ rfl
theorem Ka {R:List Pr} {i:Nat} {q:Pr} {Rs:List Pr} (h:R.drop i=q::Rs):(ZH R)[i]?=some (.ref q.a)∧R.drop (i + 1)=Rs:=by
 refine ⟨?_,by rw [← List.drop_drop,h]; rfl⟩
 have:=congrArg (fun l=>l[0]?) h
 simp only [List.getElem?_drop,Nat.add_zero,List.getElem?_cons_zero] at this
 unfold ZH
 rw [List.getElem?_map,this]
 rfl
theorem Tk (w:World) (b:Bool) (L:RL) (en it acc f ra er k t:Nat) (R:List Pr) (hk:k < 12):∀ (Rs:List Pr) (RO:ZA) (fd:Obj) (as:List Value) (ea i:Nat) (v:Value),R.drop i=Rs→WF Rs RO→(Rs≠[]∧IL w fd∨(∃ t1 n1 t2 t3 a n,fd=ZI (spE w t1 (.int (Int.ofNat n1) t2) t3 (.ref a)) n)∧∃ a,v = .ref a)→as.length + Rs.length≤1000→(∀ p∈roS L ra er k t R,p∈RO)→
  ZD (wf w b) RO 440 (XG w L en acc f) (Xl w L en it acc f ra fd as ea i v).mem (G6 w f acc en it as (YS k i Rs))
 | [],RO,fd,as,ea,i,v,hd,_,hf,_,hro=>by
  rcases hf with ⟨hf,_⟩ | ⟨⟨t1,n1,t2,t3,a,n,rfl⟩,a',rfl⟩
  ·exact absurd rfl hf
  have hx:(ZH R)[i]?=none:=List.getElem?_eq_none_iff.mpr (by unfold ZH; rw [List.length_map]; exact List.drop_eq_nil_iff.mp hd)
  refine ZD.mono (ZD.more (EI w b RO L en it acc f ra er k t ea i (.ref a') (ZI (spE w t1 (.int (Int.ofNat n1) t2) t3 (.ref a)) n) R as hx) fun p hp=>?_) ?_
  ·rcases List.mem_append.mp hp with h | h
   ·exact hro p h
   ·exact h
  ·rintro r M' ⟨ρ,rfl,rfl,_⟩
   exact ⟨[],rl [t1,n1,t2,t3,a,n,ea,i,i,a'],trivial,rfl,by rw [List.append_nil]; rfl⟩
 | q::Rs,RO,fd,as,ea,i,v,hd,hR,hf,hz,hro=>by
  have hf':IL w fd:=by
   rcases hf with ⟨_,hf⟩ | ⟨⟨t1,n1,t2,t3,a,n,rfl⟩,_⟩
   ·exact hf
   ·exact .inr ⟨_,_,_,_,_,rfl⟩
  obtain ⟨hx,hd'⟩:=Ka hd
  have h1:=hR q (.head _)
  rw [List.length_cons] at hz
  refine ZD.more (Fm w b RO L en it acc f ra er k t ea i v q R as fd hf' hx hk h1.2 (by omega) _ fun ρ ys ey hys=>?_) ?_
  ·have hl:ys.length≤as.length + 1:=by
    cases h:Hit k q with
    | true=>
     rw [h] at hys
     obtain ⟨u,rfl⟩:=hys
     rw [List.length_append]
     exact Nat.le_refl _
    | false=>
     rw [h] at hys
     obtain rfl:=hys
     exact Nat.le_succ _
   have z:=Tk w b L en it acc f ra er k t R hk Rs RO (ZI (spE w (ρ 0) (.int (Int.ofNat i) (ρ 1)) (ρ 2) (.ref q.a)) (ρ 3)) ys ey (i + 1) (.ref q.a) hd' (fun p hp=>hR p (.tail _ hp)) (.inr ⟨⟨_,_,_,_,_,_,rfl⟩,_,rfl⟩) (by omega) hro
   refine ZD.mono (ZD.more z fun p hp=>List.mem_append.mpr (.inr (.tail _ hp))) ?_
   rintro r M' ⟨vs,ρ',hv,rfl,rfl⟩
   cases h:Hit k q with
   | true=>
    rw [h] at hys
    obtain ⟨u,rfl⟩:=hys
    refine ⟨.int (Int.ofNat i) u::vs,ρ',?_,rfl,by rw [List.append_assoc]; rfl⟩
    unfold YS
    rw [h]
    exact ⟨⟨u,rfl⟩,hv⟩
   | false=>
    rw [h] at hys
    obtain rfl:=hys
    refine ⟨vs,ρ',?_,rfl,rfl⟩
    unfold YS
    rw [h]
    exact hv
  ·intro p hp
   rcases List.mem_append.mp hp with h | h
   ·exact hro p h
   ·rcases List.mem_cons.mp h with h | h
    ·exact h▸h1.1
    ·exact h
noncomputable def Rj (w:World) (L:RL) (en it acc f ra:Nat) (j:Option Nat):Con:=
 {code:=V0 (It w.params) (QR w L) en acc f,mem:=[(f,ZI [] 0),(acc,ZB [] 0),(en,MX it 0 .none),(it,Zb ra 0)],r:=fun _=>.ok .next,
  upd:=fun ρ=>(spF w f acc en it (match j with | none=>[] | some j=>[.int (Int.ofNat j) (ρ 10)]) ρ).map (·.2),new:=fun _=>[] }
theorem Ma (w:World) (b:Bool) (RO:ZA) (L:RL) (en it acc f ra er k t:Nat) (R:List Pr) (hk:k < 12) (hne:R≠[]) (hR:WF R RO) (hz:R.length≤1000) (hro:∀ p∈roS L ra er k t R,p∈RO) (j:Option Nat) (hj:YS k 0 R=match j with | none=>[] | some j=>[Int.ofNat j]):(Rj w L en it acc f ra j).ok (wf w b) RO 440:=by
 refine ZD.comp 2 rfl (Z0.deep (Wy w b RO en _) (by decide:440≤960)) ?_
 refine ZD.mono (Tk w b L en it acc f ra er k t R hk R RO (ZI [] 0) [] 0 0 .none rfl hR (.inl ⟨hne,.inl rfl⟩) (by rw [List.length_nil]; omega) hro) ?_
 rintro r M' ⟨vs,ρ,hv,rfl,rfl⟩
 rw [hj] at hv
 cases j with
 | none=>
  cases vs with
  | nil=>exact ⟨ρ,rfl,rfl,rfl⟩
  | cons v vs=>exact hv.elim
 | some j=>
  cases vs with
  | nil=>exact hv.elim
  | cons v vs=>
   obtain ⟨⟨u,rfl⟩,hv⟩:=hv
   cases vs with
   | nil=>exact ⟨fun | 10=>u | n=>ρ n,rfl,rfl,rfl⟩
   | cons _ _=>exact hv.elim
end
section
open PySem PySem.W PySem.W.X PySem.Calls PyProof.Rows PySem.Spec
noncomputable def XH (w:World) (L:RL) (it acc f:Nat):Code:=Ti (G5 w.params) (QR w L) it acc f
noncomputable def enV (es:List (Nat × Nat)):List Value:=es.map fun p=>.int (Int.ofNat p.1) p.2
noncomputable def Xe (w:World) (t:Nat) (v:Value):DictEntry:=ent w ⟨#[101,110,100]⟩ t v
noncomputable def Xm (w:World) (L:RL) (it acc f:Nat) (fd:Obj) (as:List Value) (ea i:Nat):Con:=
 {code:=XH w L it acc f,mem:=[(f,fd),(acc,ZB as ea),(it,Zb L.en i)],r:=fun _=>.ok .next,upd:=fun _=>[],new:=fun _=>[] }
noncomputable def roC (L:RL) (sp se j tj:Nat) (es:List (Nat × Nat)):ZA:=[(L.en,ZB (enV es) L.ee),(L.a4,Zn (some (.ref sp))),(sp,ZB [.int (Int.ofNat j) tj] se)]
end
section
open PySem PySem.W
noncomputable def Rd (w:World) (b:Bool) (RO:ZA) (L:RL) (it acc f sp se j tj m u ea i:Nat) (es:List (Nat × Nat)) (as:List PySem.Value) (hx:(enV es)[i]?=some (.int (Int.ofNat m) u)) (hh:decide (Int.ofNat m≤Int.ofNat j)=false) (hz:as.length≤1000) (F:PySem.Result→ZA→Prop)
 (H:∀ ρ:Nat→Nat,ZD (wf w b) (roC L sp se j tj es++RO) 440 (XH w L it acc f) (Xm w L it acc f (ZI [Xe w (ρ 0) (.int (Int.ofNat m) u)] (ρ 1)) as ea (i + 1)).mem F):CE (wf w b) (roC L sp se j tj es++RO) []:=
 .l 3 (.k (Z8 it L.en (enV es) L.ee i (.int (Int.ofNat m) u)) [2] (YE w b _ _ _ _ _ _ _ (.head _) hx) fun ρ0=>.t fun t0=>.l 4433010004322001 (.k (Z7 (Int.ofNat m) u (Int.ofNat j) tj false) [] (YF w b _ _ _ _ _ _ hh) fun ρ1=>.e [] (H (rl [t0,1]))))
theorem OM (w:World) (b:Bool) (RO:ZA) (L:RL) (it acc f sp se j tj m u ea i:Nat) (es:List (Nat × Nat)) (as:List PySem.Value) (hx:(enV es)[i]?=some (.int (Int.ofNat m) u)) (hh:decide (Int.ofNat m≤Int.ofNat j)=false) (hz:as.length≤1000) (F:PySem.Result→ZA→Prop)
 (H:∀ ρ:Nat→Nat,ZD (wf w b) (roC L sp se j tj es++RO) 440 (XH w L it acc f) (Xm w L it acc f (ZI [Xe w (ρ 0) (.int (Int.ofNat m) u)] (ρ 1)) as ea (i + 1)).mem F):ZD (wf w b) (roC L sp se j tj es++RO) 440 (XH w L it acc f) (Xm w L it acc f (ZI [] 0) as ea i).mem F:=
 cK (Rd w b RO L it acc f sp se j tj m u ea i es as hx hh hz F H) (by cases b<;>kernel_rfl)
noncomputable def Re (w:World) (b:Bool) (RO:ZA) (L:RL) (it acc f sp se j tj m u ea i:Nat) (es:List (Nat × Nat)) (as:List PySem.Value) (v1:Value) (tv n:Nat) (hx:(enV es)[i]?=some (.int (Int.ofNat m) u)) (hh:decide (Int.ofNat m≤Int.ofNat j)=false) (hz:as.length≤1000) (F:PySem.Result→ZA→Prop)
 (H:∀ ρ:Nat→Nat,ZD (wf w b) (roC L sp se j tj es++RO) 440 (XH w L it acc f) (Xm w L it acc f (ZI [Xe w (ρ 0) (.int (Int.ofNat m) u)] (ρ 1)) as ea (i + 1)).mem F):CE (wf w b) (roC L sp se j tj es++RO) []:=
 .l 3 (.k (Z8 it L.en (enV es) L.ee i (.int (Int.ofNat m) u)) [2] (YE w b _ _ _ _ _ _ _ (.head _) hx) fun ρ0=>.l 44330100043220010100 (.k (Z7 (Int.ofNat m) u (Int.ofNat j) tj false) [] (YF w b _ _ _ _ _ _ hh) fun ρ1=>.e [] (H (rl [tv,n]))))
theorem ON (w:World) (b:Bool) (RO:ZA) (L:RL) (it acc f sp se j tj m u ea i:Nat) (es:List (Nat × Nat)) (as:List PySem.Value) (v1:Value) (tv n:Nat) (hx:(enV es)[i]?=some (.int (Int.ofNat m) u)) (hh:decide (Int.ofNat m≤Int.ofNat j)=false) (hz:as.length≤1000) (F:PySem.Result→ZA→Prop)
 (H:∀ ρ:Nat→Nat,ZD (wf w b) (roC L sp se j tj es++RO) 440 (XH w L it acc f) (Xm w L it acc f (ZI [Xe w (ρ 0) (.int (Int.ofNat m) u)] (ρ 1)) as ea (i + 1)).mem F):ZD (wf w b) (roC L sp se j tj es++RO) 440 (XH w L it acc f) (Xm w L it acc f (ZI [Xe w tv v1] n) as ea i).mem F:=
 cK (Re w b RO L it acc f sp se j tj m u ea i es as v1 tv n hx hh hz F H) (by cases b<;>kernel_rfl)
noncomputable def QV (w:World) (b:Bool) (RO:ZA) (L:RL) (it acc f sp se j tj m u ea i:Nat) (es:List (Nat × Nat)) (as:List PySem.Value) (hx:(enV es)[i]?=some (.int (Int.ofNat m) u)) (hh:decide (Int.ofNat m≤Int.ofNat j)=true) (hz:as.length≤1000) (F:PySem.Result→ZA→Prop)
 (H:∀ ρ:Nat→Nat,ZD (wf w b) (roC L sp se j tj es++RO) 440 (XH w L it acc f) (Xm w L it acc f (ZI [Xe w (ρ 0) (.int (Int.ofNat m) u)] (ρ 1)) (as++[.int (Int.ofNat m) u]) (ρ 2) (i + 1)).mem F):CE (wf w b) (roC L sp se j tj es++RO) []:=
 .l 3 (.k (Z8 it L.en (enV es) L.ee i (.int (Int.ofNat m) u)) [2] (YE w b _ _ _ _ _ _ _ (.head _) hx) fun ρ0=>.t fun t0=>.l 4433010004322001 (.k (Z7 (Int.ofNat m) u (Int.ofNat j) tj true) [] (YF w b _ _ _ _ _ _ hh) fun ρ1=>.l 1 (.k (Z6 acc as ea (.int (Int.ofNat m) u)) [1] (YC w b _ _ _ _ _ hz) fun ρ2=>.e [] (H (rl [t0,1,ρ2 0])))))
theorem Mb (w:World) (b:Bool) (RO:ZA) (L:RL) (it acc f sp se j tj m u ea i:Nat) (es:List (Nat × Nat)) (as:List PySem.Value) (hx:(enV es)[i]?=some (.int (Int.ofNat m) u)) (hh:decide (Int.ofNat m≤Int.ofNat j)=true) (hz:as.length≤1000) (F:PySem.Result→ZA→Prop)
 (H:∀ ρ:Nat→Nat,ZD (wf w b) (roC L sp se j tj es++RO) 440 (XH w L it acc f) (Xm w L it acc f (ZI [Xe w (ρ 0) (.int (Int.ofNat m) u)] (ρ 1)) (as++[.int (Int.ofNat m) u]) (ρ 2) (i + 1)).mem F):ZD (wf w b) (roC L sp se j tj es++RO) 440 (XH w L it acc f) (Xm w L it acc f (ZI [] 0) as ea i).mem F:=
 cK (QV w b RO L it acc f sp se j tj m u ea i es as hx hh hz F H) (by cases b<;>kernel_rfl)
noncomputable def QW (w:World) (b:Bool) (RO:ZA) (L:RL) (it acc f sp se j tj m u ea i:Nat) (es:List (Nat × Nat)) (as:List PySem.Value) (v1:Value) (tv n:Nat) (hx:(enV es)[i]?=some (.int (Int.ofNat m) u)) (hh:decide (Int.ofNat m≤Int.ofNat j)=true) (hz:as.length≤1000) (F:PySem.Result→ZA→Prop)
 (H:∀ ρ:Nat→Nat,ZD (wf w b) (roC L sp se j tj es++RO) 440 (XH w L it acc f) (Xm w L it acc f (ZI [Xe w (ρ 0) (.int (Int.ofNat m) u)] (ρ 1)) (as++[.int (Int.ofNat m) u]) (ρ 2) (i + 1)).mem F):CE (wf w b) (roC L sp se j tj es++RO) []:=
 .l 3 (.k (Z8 it L.en (enV es) L.ee i (.int (Int.ofNat m) u)) [2] (YE w b _ _ _ _ _ _ _ (.head _) hx) fun ρ0=>.l 44330100043220010100 (.k (Z7 (Int.ofNat m) u (Int.ofNat j) tj true) [] (YF w b _ _ _ _ _ _ hh) fun ρ1=>.l 1 (.k (Z6 acc as ea (.int (Int.ofNat m) u)) [1] (YC w b _ _ _ _ _ hz) fun ρ2=>.e [] (H (rl [tv,n,ρ2 0])))))
theorem Mc (w:World) (b:Bool) (RO:ZA) (L:RL) (it acc f sp se j tj m u ea i:Nat) (es:List (Nat × Nat)) (as:List PySem.Value) (v1:Value) (tv n:Nat) (hx:(enV es)[i]?=some (.int (Int.ofNat m) u)) (hh:decide (Int.ofNat m≤Int.ofNat j)=true) (hz:as.length≤1000) (F:PySem.Result→ZA→Prop)
 (H:∀ ρ:Nat→Nat,ZD (wf w b) (roC L sp se j tj es++RO) 440 (XH w L it acc f) (Xm w L it acc f (ZI [Xe w (ρ 0) (.int (Int.ofNat m) u)] (ρ 1)) (as++[.int (Int.ofNat m) u]) (ρ 2) (i + 1)).mem F):ZD (wf w b) (roC L sp se j tj es++RO) 440 (XH w L it acc f) (Xm w L it acc f (ZI [Xe w tv v1] n) as ea i).mem F:=
 cK (QW w b RO L it acc f sp se j tj m u ea i es as v1 tv n hx hh hz F H) (by cases b<;>kernel_rfl)
theorem EJ (w:World) (b:Bool) (RO:ZA) (L:RL) (it acc f sp se j tj ea i:Nat) (es:List (Nat × Nat)) (fd:Obj) (as:List PySem.Value) (hx:(enV es)[i]?=none):({ Xm w L it acc f fd as ea i with upd:=fun _=>[fd,ZB as ea,Xz i] }).ok (wf w b) (roC L sp se j tj es++RO) 440:=
 cR (.l 3 (.k (Wc it L.en (enV es) L.ee i) [2] (W2 w b _ _ _ _ _ _ (.head _) hx) fun ρ0=>.l 1 (.z [2] (fun _=>0)))) (by kernel_rfl)
end
section
open PySem PySem.W PySem.W.X PySem.Calls PyProof.Rows PySem.Spec
theorem IM (j:Nat) (h:j < 1000):Builtin.List.listFitsIndex (Int.ofNat j)=true:=by
 unfold Builtin.List.listFitsIndex
 rw [Bool.and_eq_true,decide_eq_true_eq,decide_eq_true_eq]
 exact ⟨Int.le_trans (by decide) (Int.natCast_nonneg j),Int.lt_trans (Int.ofNat_lt.mpr h) (by decide)⟩
theorem IN (l:Addr) (items:Array Value) (k:Int) (j:Nat) (t:Tok) (x:Value) (hk:k=(j:Int)) (hfit:Builtin.List.listFitsIndex k=true) (hx:items[j]?=some x):Meets (Builtin.«list.__getitem__» ⟨[.ref l,.int k t],[]⟩) (fun _ R s=>s.heap.IsList l items∧R (.ok (.ret x)) s):=
 .of_wp fun prog w A R s h=>by
  obtain ⟨⟨o,ho,hc,ne,hd⟩,h⟩:=h
  show wpAny _ _ (Builtin.List.listSubscript? (.int k t) >>= _) _ _ s
  refine wpAny_bind (wpAny_listSubscript_int hfit ?_)
  clear hfit
  subst hk
  show wpAny _ _ ((seqItemAt l j >>= fun r=>pure (r.map (j,·))) >>= _) _ _ s
  refine wpAny_bind (wpAny_bind (wpAny_seqItemAt ho hd (wpAny_pure ?_)))
  rw [hx]
  exact wpAny_pure ⟨x,rfl,h⟩
theorem Md (l:Addr) (items:Array Value) (t:Tok) (x:Value) (hn:1≤items.size) (hx:items[items.size - 1]?=some x):Meets (Builtin.«list.__getitem__» ⟨[.ref l,.int (-1) t],[]⟩) (fun _ R s=>s.heap.IsList l items∧R (.ok (.ret x)) s):=
 .of_wp fun prog w A R s h=>by
  obtain ⟨⟨o,ho,hc,ne,hd⟩,h⟩:=h
  show wpAny _ _ (Builtin.List.listSubscript? (.int (-1) t) >>= _) _ _ s
  refine wpAny_bind (wpAny_listSubscript_int (by decide) ?_)
  show wpAny _ _ ((Builtin.List.listItems (.ref l) >>= fun xs=>pure ((seqIndex? (Int.negSucc 0) xs.size).bind fun i=>xs[i]?.map (i,·))) >>= _) _ _ s
  refine wpAny_bind (wpAny_bind ?_)
  show wpAny _ _ (seqItems? (.ref l) >>= _) _ _ s
  refine wpAny_bind (wpAny_seqItems ho hd (wpAny_pure (wpAny_pure ?_)))
  have hidx:seqIndex? (Int.negSucc 0) items.size=some (items.size - 1):=by
   rw [seqIndex_neg (by decide) (by omega)]
   congr 1
   omega
  rw [hidx]
  simp only [Option.bind_some,hx,Option.map_some]
  exact wpAny_pure ⟨x,rfl,h⟩
noncomputable def VU (l:Nat) (vs:List Value) (ep:Nat) (k:Int) (t:Nat) (x:Value):Con:=
 {code:=.builtin "list.__getitem__" ⟨[.ref l,.int k t],[]⟩,mem:=[(l,ZB vs ep)],r:=fun _=>.ok (.ret x),upd:=fun _=>[ZB vs ep],new:=fun _=>[] }
noncomputable def WG (l:Nat) (vs:List Value) (ep:Nat) (k:Int) (t:Nat) (x:Value):Con:={ VU l vs ep k t x with code:=.call (.builtin "list.__getitem__") ⟨[.ref l,.int k t],[]⟩ }
theorem Hw (w:World) (b:Bool) (RO:ZA) (l:Nat) (vs:List Value) (ep j t:Nat) (x:Value) (k:Int) (hk:k=(j:Int)) (hf:Builtin.List.listFitsIndex k=true) (hx:vs[j]?=some x):(VU l vs ep k t x).ok (wf w b) RO 975:=by
 refine ZD.of_meets rfl entry_list_getitem (IN l ⟨vs⟩ k j t x hk hf (by simpa using hx)) ?_
 intro h g d t os R ht hM hR
 exact ⟨⟨_,hM.at_ _ (.head _),rfl,ep,rfl⟩,hR _ _ _ _ _ ht ⟨fun _=>0,rfl,rfl,rfl⟩ hM (Ext.refl _ _) (fun x=>x)⟩
theorem G7 (w:World) (b:Bool) (RO:ZA) (l:Nat) (vs:List Value) (ep j t:Nat) (x:Value) (hj:j < 1000) (hx:vs[j]?=some x):(VU l vs ep (Int.ofNat j) t x).ok (wf w b) RO 975:=Hw w b RO l vs ep j t x _ rfl (IM j hj) hx
theorem IO (w:World) (b:Bool) (RO:ZA) (l:Nat) (vs:List Value) (ep t:Nat) (x:Value) (hx:vs.getLast?=some x):(VU l vs ep (-1) t x).ok (wf w b) RO 975:=by
 have hn:1≤vs.length:=by
  cases vs with
  | nil=>cases hx
  | cons _ _=>exact Nat.succ_le_succ (Nat.zero_le _)
 refine ZD.of_meets rfl entry_list_getitem (Md l ⟨vs⟩ t x hn (by
  rw [List.getLast?_eq_getElem?] at hx
  simpa using hx)) ?_
 intro h g d t os R ht hM hR
 exact ⟨⟨_,hM.at_ _ (.head _),rfl,ep,rfl⟩,hR _ _ _ _ _ ht ⟨fun _=>0,rfl,rfl,rfl⟩ hM (Ext.refl _ _) (fun x=>x)⟩
end
section
open PySem PySem.W
theorem Fn (w:World) (b:Bool) (RO:ZA) (l:Nat) (vs:List PySem.Value) (ep j t:Nat) (x:PySem.Value) (hj:j < 1000) (hx:vs[j]?=some x):(WG l vs ep (Int.ofNat j) t x).ok (wf w b) RO 965:=
 cR (.l 1 (.i (VU l vs ep (Int.ofNat j) t x) [0] (G7 w b _ _ _ _ _ _ _ hj hx) [] (fun ρ0=>(fun _=>0)))) (by kernel_rfl)
theorem X4 (w:World) (b:Bool) (RO:ZA) (l:Nat) (vs:List PySem.Value) (ep t:Nat) (x:PySem.Value) (hx:vs.getLast?=some x):(WG l vs ep (-1) t x).ok (wf w b) RO 965:=
 cR (.l 1 (.i (VU l vs ep (-1) t x) [0] (IO w b _ _ _ _ _ _ hx) [] (fun ρ0=>(fun _=>0)))) (by kernel_rfl)
noncomputable def Yq (j:Nat) (es:List (Nat × Nat)):List (Nat × Nat):=es.filter fun p=>decide (p.1≤j)
noncomputable def cnF (w:World) (f acc it:Nat) (vs:List Value) (ρ:Nat→Nat):ZA:=[(f,ZI [Xe w (ρ 0) (.int (Int.ofNat (ρ 1)) (ρ 2))] (ρ 3)),(acc,ZB vs (ρ 4)),(it,Xz (ρ 5))]
noncomputable def G8 (w:World) (fd:Obj):Prop:=fd=ZI [] 0∨∃ tv v1 n,fd=ZI [Xe w tv v1] n
theorem IP {es:List (Nat × Nat)} {i:Nat} {q:Nat × Nat} {Rs:List (Nat × Nat)} (h:es.drop i=q::Rs):(enV es)[i]?=some (.int (Int.ofNat q.1) q.2)∧es.drop (i + 1)=Rs:=by
 refine ⟨?_,by rw [← List.drop_drop,h]; rfl⟩
 have:=congrArg (fun l=>l[0]?) h
 simp only [List.getElem?_drop,Nat.add_zero,List.getElem?_cons_zero] at this
 unfold enV
 rw [List.getElem?_map,this]
 rfl
theorem U1 (w:World) (b:Bool) (L:RL) (it acc f sp se j tj:Nat) (es:List (Nat × Nat)):∀ (Rs:List (Nat × Nat)) (RO:ZA) (fd:Obj) (as:List Value) (ea i:Nat),es.drop i=Rs→(Rs≠[]∧G8 w fd∨∃ t n u m,fd=ZI [Xe w t (.int (Int.ofNat n) u)] m)→as.length + Rs.length≤1000→(∀ p∈roC L sp se j tj es,p∈RO)→
  ZD (wf w b) RO 440 (XH w L it acc f) (Xm w L it acc f fd as ea i).mem (fun r M'=>∃ ρ,r = .ok .next∧M'=cnF w f acc it (as++enV (Yq j Rs)) ρ)
 | [],RO,fd,as,ea,i,hd,hf,_,hro=>by
  rcases hf with ⟨hf,_⟩ | ⟨t,n,u,m,rfl⟩
  ·exact absurd rfl hf
  have hx:(enV es)[i]?=none:=List.getElem?_eq_none_iff.mpr (by unfold enV; rw [List.length_map]; exact List.drop_eq_nil_iff.mp hd)
  refine ZD.mono (ZD.more (EJ w b RO L it acc f sp se j tj ea i es (ZI [Xe w t (.int (Int.ofNat n) u)] m) as hx) fun p hp=>?_) ?_
  ·rcases List.mem_append.mp hp with h | h
   ·exact hro p h
   ·exact h
  ·rintro r M' ⟨ρ,rfl,rfl,_⟩
   exact ⟨rl [t,n,u,m,ea,i],rfl,by rw [show enV (Yq j [])=[] from rfl,List.append_nil]; rfl⟩
 | q::Rs,RO,fd,as,ea,i,hd,hf,hz,hro=>by
  have hf':G8 w fd:=by
   rcases hf with ⟨_,hf⟩ | ⟨t,n,u,m,rfl⟩
   ·exact hf
   ·exact .inr ⟨_,_,_,rfl⟩
  obtain ⟨hx,hd'⟩:=IP hd
  rw [List.length_cons] at hz
  have hsub:∀ p∈roC L sp se j tj es++RO,p∈RO:=fun p hp=>by
   rcases List.mem_append.mp hp with h | h
   ·exact hro p h
   ·exact h
  by_cases hq:q.1≤j
  ·have hh:decide (Int.ofNat q.1≤Int.ofNat j)=true:=decide_eq_true (Int.ofNat_le.mpr hq)
   have go:∀ ρ:Nat→Nat,ZD (wf w b) (roC L sp se j tj es++RO) 440 (XH w L it acc f) (Xm w L it acc f (ZI [Xe w (ρ 0) (.int (Int.ofNat q.1) q.2)] (ρ 1)) (as++[.int (Int.ofNat q.1) q.2]) (ρ 2) (i + 1)).mem (fun r M'=>∃ ρ,r = .ok .next∧M'=cnF w f acc it (as++enV (Yq j (q::Rs))) ρ):=fun ρ=>by
    have z:=U1 w b L it acc f sp se j tj es Rs RO (ZI [Xe w (ρ 0) (.int (Int.ofNat q.1) q.2)] (ρ 1)) (as++[.int (Int.ofNat q.1) q.2]) (ρ 2) (i + 1) hd' (.inr ⟨_,_,_,_,rfl⟩) (by rw [List.length_append]; simp only [List.length_cons,List.length_nil]; omega) hro
    refine ZD.mono (ZD.more z fun p hp=>List.mem_append.mpr (.inr hp)) ?_
    rintro r M' ⟨ρ',rfl,rfl⟩
    refine ⟨ρ',rfl,?_⟩
    rw [List.append_assoc]
    unfold Yq
    rw [List.filter_cons_of_pos (by simpa using hq)]
    rfl
   refine ZD.more ?_ hsub
   rcases hf' with rfl | ⟨tv,v1,n,rfl⟩
   ·exact Mb w b RO L it acc f sp se j tj q.1 q.2 ea i es as hx hh (by omega) _ go
   ·exact Mc w b RO L it acc f sp se j tj q.1 q.2 ea i es as v1 tv n hx hh (by omega) _ go
  ·have hh:decide (Int.ofNat q.1≤Int.ofNat j)=false:=decide_eq_false fun h=>hq (Int.ofNat_le.mp h)
   have go:∀ ρ:Nat→Nat,ZD (wf w b) (roC L sp se j tj es++RO) 440 (XH w L it acc f) (Xm w L it acc f (ZI [Xe w (ρ 0) (.int (Int.ofNat q.1) q.2)] (ρ 1)) as ea (i + 1)).mem (fun r M'=>∃ ρ,r = .ok .next∧M'=cnF w f acc it (as++enV (Yq j (q::Rs))) ρ):=fun ρ=>by
    have z:=U1 w b L it acc f sp se j tj es Rs RO (ZI [Xe w (ρ 0) (.int (Int.ofNat q.1) q.2)] (ρ 1)) as ea (i + 1) hd' (.inr ⟨_,_,_,_,rfl⟩) (by omega) hro
    refine ZD.mono (ZD.more z fun p hp=>List.mem_append.mpr (.inr hp)) ?_
    rintro r M' ⟨ρ',rfl,rfl⟩
    refine ⟨ρ',rfl,?_⟩
    unfold Yq
    rw [List.filter_cons_of_neg (by simpa using hq)]
   refine ZD.more ?_ hsub
   rcases hf' with rfl | ⟨tv,v1,n,rfl⟩
   ·exact OM w b RO L it acc f sp se j tj q.1 q.2 ea i es as hx hh (by omega) _ go
   ·exact ON w b RO L it acc f sp se j tj q.1 q.2 ea i es as v1 tv n hx hh (by omega) _ go
noncomputable def Iu (w:World) (L:RL) (it acc f j:Nat) (es:List (Nat × Nat)):Con:=
 {code:=V0 (G5 w.params) (QR w L) it acc f,mem:=[(f,ZI [] 0),(acc,ZB [] 0),(it,Zb L.en 0)],r:=fun _=>.ok .next,
  upd:=fun ρ=>(cnF w f acc it (enV (Yq j es)) ρ).map (·.2),new:=fun _=>[] }
theorem Fo (w:World) (b:Bool) (RO:ZA) (L:RL) (it acc f sp se j tj:Nat) (es:List (Nat × Nat)) (hne:es≠[]) (hz:es.length≤1000) (hro:∀ p∈roC L sp se j tj es,p∈RO):(Iu w L it acc f j es).ok (wf w b) RO 440:=by
 refine ZD.comp 2 rfl (Z0.deep (ZF w b RO it _) (by decide:440≤960)) ?_
 refine ZD.mono (U1 w b L it acc f sp se j tj es es RO (ZI [] 0) [] 0 0 rfl (.inl ⟨hne,.inl rfl⟩) (by rw [List.length_nil]; omega) hro) ?_
 rintro r M' ⟨ρ,rfl,rfl⟩
 exact ⟨ρ,rfl,rfl,rfl⟩
theorem in2 {x y:Addr × Obj} {R:ZA}:∀ p∈[x,y],p∈x::y::R:=fun _ hp=>List.mem_append.mpr (.inl hp)
theorem in3 {x y z:Addr × Obj} {R:ZA}:∀ p∈[x,y,z],p∈x::y::z::R:=fun _ hp=>List.mem_append.mpr (.inl hp)
theorem WF.up {R:List Pr} {RO RO':ZA} (h:WF R RO) (s:∀ p∈RO,p∈RO'):WF R RO':=fun p hp=>⟨s _ (h p hp).1,(h p hp).2⟩
theorem G9 {x y:Addr × Obj} {A B R:ZA}:∀ p∈R,p∈x::y::(A++(B++R)):=fun _ hp=>.tail _ (.tail _ (sb _ (sb _ hp)))
theorem Kb {x y z:Addr × Obj} {A B R:ZA}:∀ p∈R,p∈x::y::(A++(B++(z::R))):=fun _ hp=>.tail _ (.tail _ (sb _ (sb _ (.tail _ hp))))
noncomputable def IQ (w:World) (b:Bool) (RO:ZA) (L:RL) (i ra k t er ef el cap tc:Nat) (ow os:Option PySem.Value) (fs ls ws:List PySem.Value) (es:List (Nat × Nat)) (u:Nat→Nat)
 (hx:ws[i]?=some (.str (wd k) t)) (hk:k < 12) (hzf:fs.length≤1000) (hza:1 + (ZH []).length≤1000) (hc:(enV es).getLast?=some (.int (Int.ofNat cap) tc))
 (hd:∀ a4:Nat,slicePick ⟨([PySem.Value.ref a4]++ZH [])⟩ (some (Int.ofNat cap)) none none=⟨[]⟩) (hp:∀ a4 t4:Nat,slicePick ⟨([PySem.Value.ref a4]++ZH [])⟩ none (some (Int.ofNat cap)) none=⟨ZH (⟨a4,k,t,1,t4⟩::[])⟩) (hzv:∀ a4:Nat,(([PySem.Value.ref a4]++ZH [])).length≤1000) (hzl:ls.length + 1≤1000) (F:PySem.Result→ZA→Prop)
 (H:∀ ρ:Nat→Nat,ZD (wf w b) (roR w L u ws++RO) 420 (XW w L) (XF w L (i + 1) (ρ 0) (⟨ρ 1,k,t,1,ρ 2⟩::[]) (ρ 3) (some (.str (wd k) t)) (some (.ref (ρ 4))) (fs++[(.int (-1) (ρ 5))]) (ρ 6) (ls++[]) (ρ 7) (enV es) [(ρ 1,ZS [.str (wd k) t,.int (Int.ofNat 1) (ρ 2)]),(ra,ZB [] er)]).mem F):CE (wf w b) (roR w L u ws++RO) []:=
 .l 2 (.k (Z8 L.it L.ask ws L.ae i (.str (wd k) t)) [1] (YE w b _ _ _ _ _ _ _ (.head _) hx) fun ρ0=>.l 5010101041004 (.k (Y6 ra (ZH []) er) [0] (XD w b _ _ _ _) fun ρ1=>.l 3001 (.a fun a0=>.l 99 (.c 2 (Wy w b _ (ρ1 0) #[.none,(.bool false),(.ref (ρ1 1)),(.int 0 0),.none,.none]) (.l 100301204321100400420091003000110991004000530042003 (.t fun t3=>.k (Z6 L.fl fs ef (.int (-1) t3)) [11] (YC w b _ _ _ _ _ hzf) fun ρ2=>.l 10 (.t fun t4=>.a fun a4=>.a fun a5=>.l 1000900010013 (.k (WP a5 ra [PySem.Value.ref a4] 0 (ZH []) er) [0,8] (Ws w b _ _ _ _ _ _ _ hza) fun ρ3=>.l 10004320014301604321014 (.t fun t6=>.l 2017 (.k (WG L.en (enV es) L.ee (-1) t6 (.int (Int.ofNat cap) tc)) [16] (X4 w b _ _ _ _ _ _ hc) fun ρ4=>.a fun a6=>.l 2002 (.k (Yw (ρ3 0) a6 ([PySem.Value.ref a4]++ZH []) 0 (.int (Int.ofNat cap) tc) .none .none []) [1,0] (XE w b _ _ _ _ _ _ _ _ (some (Int.ofNat cap)) none none _ (.int _ _) .none .none (by decide) (hzv a4) (hd a4)) fun ρ5=>.l 2001 (.a fun a7=>.l 1 (.a fun a8=>.l 99 (.c 2 (ZF w b _ a7 #[(.ref (ρ5 0)),(.int 0 0)]) (.l 300011099100300043003 (.k (Vx L.ll a8 ls el [] 0) [22,3] (Tg w b _ _ _ _ _ _ _ (Nat.le_of_succ_le hzl)) fun ρ6=>.l 10004320021 (.t fun t8=>.l 2024 (.k (WG L.en (enV es) L.ee (-1) t8 (.int (Int.ofNat cap) tc)) [23] (X4 w b _ _ _ _ _ _ hc) fun ρ7=>.a fun a12=>.l 2009 (.k (Yw (ρ3 0) a12 ([PySem.Value.ref a4]++ZH []) 0 .none (.int (Int.ofNat cap) tc) .none (ZH (⟨a4,k,t,1,t4⟩::[]))) [8,0] (XE w b _ _ _ _ _ _ _ _ none (some (Int.ofNat cap)) none _ .none (.int _ _) .none (by decide) (hzv a4) (hp a4 t4)) fun ρ8=>.l 1023 (.e [1,18,1,10] (H (rl [ρ8 0,a4,t4,0,a0,t3,ρ2 0,ρ6 0]))))))))))))))))))))))
theorem FA (w:World) (b:Bool) (RO:ZA) (L:RL) (i ra k t er ef el cap tc:Nat) (ow os:Option PySem.Value) (fs ls ws:List PySem.Value) (es:List (Nat × Nat)) (u:Nat→Nat)
 (hx:ws[i]?=some (.str (wd k) t)) (hk:k < 12) (hzf:fs.length≤1000) (hza:1 + (ZH []).length≤1000) (hc:(enV es).getLast?=some (.int (Int.ofNat cap) tc))
 (hd:∀ a4:Nat,slicePick ⟨([PySem.Value.ref a4]++ZH [])⟩ (some (Int.ofNat cap)) none none=⟨[]⟩) (hp:∀ a4 t4:Nat,slicePick ⟨([PySem.Value.ref a4]++ZH [])⟩ none (some (Int.ofNat cap)) none=⟨ZH (⟨a4,k,t,1,t4⟩::[])⟩) (hzv:∀ a4:Nat,(([PySem.Value.ref a4]++ZH [])).length≤1000) (hzl:ls.length + 1≤1000) (F:PySem.Result→ZA→Prop)
 (H:∀ ρ:Nat→Nat,ZD (wf w b) (roR w L u ws++RO) 420 (XW w L) (XF w L (i + 1) (ρ 0) (⟨ρ 1,k,t,1,ρ 2⟩::[]) (ρ 3) (some (.str (wd k) t)) (some (.ref (ρ 4))) (fs++[(.int (-1) (ρ 5))]) (ρ 6) (ls++[]) (ρ 7) (enV es) [(ρ 1,ZS [.str (wd k) t,.int (Int.ofNat 1) (ρ 2)]),(ra,ZB [] er)]).mem F):ZD (wf w b) (roR w L u ws++RO) 420 (XW w L) (XF w L i ra [] er ow os fs ef ls el (enV es) []).mem F:=
 cK (IQ w b RO L i ra k t er ef el cap tc ow os fs ls ws es u hx hk hzf hza hc hd hp hzv hzl F H) (by cases b<;>kernel_rfl)
noncomputable def IR (w:World) (b:Bool) (RO:ZA) (L:RL) (i ra k t er ef el cap tc:Nat) (R:List Pr) (ow os:Option PySem.Value) (fs ls ws:List PySem.Value) (es:List (Nat × Nat)) (u:Nat→Nat)
 (hx:ws[i]?=some (.str (wd k) t)) (hk:k < 12) (hzf:fs.length≤1000) (hR:WF R RO) (hzr:(R).length≤1000) (hR0:R≠[]) (hj:YS k 0 R=[]) (hza:1 + (ZH R).length≤1000) (hc:(enV es).getLast?=some (.int (Int.ofNat cap) tc))
 (hd:∀ a2:Nat,slicePick ⟨([PySem.Value.ref a2]++ZH R)⟩ (some (Int.ofNat cap)) none none=⟨[]⟩) (hp:∀ a2 t4:Nat,slicePick ⟨([PySem.Value.ref a2]++ZH R)⟩ none (some (Int.ofNat cap)) none=⟨ZH (⟨a2,k,t,1,t4⟩::R)⟩) (hzv:∀ a2:Nat,(([PySem.Value.ref a2]++ZH R)).length≤1000) (hzl:ls.length + 1≤1000) (F:PySem.Result→ZA→Prop)
 (H:∀ ρ:Nat→Nat,ZD (wf w b) (roR w L u ws++RO) 420 (XW w L) (XF w L (i + 1) (ρ 0) (⟨ρ 1,k,t,1,ρ 2⟩::R) (ρ 3) (some (.str (wd k) t)) (some (.ref (ρ 4))) (fs++[(.int (-1) (ρ 5))]) (ρ 6) (ls++[]) (ρ 7) (enV es) [(ρ 1,ZS [.str (wd k) t,.int (Int.ofNat 1) (ρ 2)])]).mem F):CE (wf w b) (roR w L u ws++RO) []:=
 .l 2 (.k (Z8 L.it L.ask ws L.ae i (.str (wd k) t)) [1] (YE w b _ _ _ _ _ _ _ (.head _) hx) fun ρ0=>.l 5010101041004 (.k (Y6 ra (ZH R) er) [0] (XD w b _ _ _ _) fun ρ1=>.l 3001 (.a fun a0=>.a fun a1=>.x (Rj w L (ρ1 0) (ρ1 1) a0 a1 ra none) [0,1,2,3] [4,7] [(ra,⟨(.type "list"),none,(.seq ⟨ZH R⟩ er),#[]⟩),((L.5),⟨(.type "cell"),none,(.cell (some (.str (wd k) t))),#[]⟩)] (Ma w b _ _ _ _ _ _ _ er k t _ hk hR0 (hR.up G9) hzr in2 none hj) fun ρ2=>.l 100301004321100400220075001 (.t fun t3=>.k (Z6 L.fl fs ef (.int (-1) t3)) [9] (YC w b _ _ _ _ _ hzf) fun ρ3=>.l 8 (.t fun t4=>.a fun a2=>.a fun a3=>.l 1000700010011 (.k (WP a3 ra [PySem.Value.ref a2] 0 (ZH R) er) [0,6] (Ws w b _ _ _ _ _ _ _ hza) fun ρ4=>.l 10004320012301404321012 (.t fun t6=>.l 2015 (.k (WG L.en (enV es) L.ee (-1) t6 (.int (Int.ofNat cap) tc)) [14] (X4 w b _ _ _ _ _ _ hc) fun ρ5=>.a fun a4=>.l 2002 (.k (Yw (ρ4 0) a4 ([PySem.Value.ref a2]++ZH R) 0 (.int (Int.ofNat cap) tc) .none .none []) [1,0] (XE w b _ _ _ _ _ _ _ _ (some (Int.ofNat cap)) none none _ (.int _ _) .none .none (by decide) (hzv a2) (hd a2)) fun ρ6=>.l 2001 (.a fun a5=>.l 1 (.a fun a6=>.l 99 (.c 2 (ZF w b _ a5 #[(.ref (ρ6 0)),(.int 0 0)]) (.l 300011099100300043003 (.k (Vx L.ll a6 ls el [] 0) [20,3] (Tg w b _ _ _ _ _ _ _ (Nat.le_of_succ_le hzl)) fun ρ7=>.l 10004320019 (.t fun t8=>.l 2022 (.k (WG L.en (enV es) L.ee (-1) t8 (.int (Int.ofNat cap) tc)) [21] (X4 w b _ _ _ _ _ _ hc) fun ρ8=>.a fun a10=>.l 2009 (.k (Yw (ρ4 0) a10 ([PySem.Value.ref a2]++ZH R) 0 .none (.int (Int.ofNat cap) tc) .none (ZH (⟨a2,k,t,1,t4⟩::R))) [8,0] (XE w b _ _ _ _ _ _ _ _ none (some (Int.ofNat cap)) none _ .none (.int _ _) .none (by decide) (hzv a2) (hp a2 t4)) fun ρ9=>.l 1021 (.e [1,18,1,8] (H (rl [ρ9 0,a2,t4,0,a0,t3,ρ3 0,ρ7 0]))))))))))))))))))))
theorem FB (w:World) (b:Bool) (RO:ZA) (L:RL) (i ra k t er ef el cap tc:Nat) (R:List Pr) (ow os:Option PySem.Value) (fs ls ws:List PySem.Value) (es:List (Nat × Nat)) (u:Nat→Nat)
 (hx:ws[i]?=some (.str (wd k) t)) (hk:k < 12) (hzf:fs.length≤1000) (hR:WF R RO) (hzr:(R).length≤1000) (hR0:R≠[]) (hj:YS k 0 R=[]) (hza:1 + (ZH R).length≤1000) (hc:(enV es).getLast?=some (.int (Int.ofNat cap) tc))
 (hd:∀ a2:Nat,slicePick ⟨([PySem.Value.ref a2]++ZH R)⟩ (some (Int.ofNat cap)) none none=⟨[]⟩) (hp:∀ a2 t4:Nat,slicePick ⟨([PySem.Value.ref a2]++ZH R)⟩ none (some (Int.ofNat cap)) none=⟨ZH (⟨a2,k,t,1,t4⟩::R)⟩) (hzv:∀ a2:Nat,(([PySem.Value.ref a2]++ZH R)).length≤1000) (hzl:ls.length + 1≤1000) (F:PySem.Result→ZA→Prop)
 (H:∀ ρ:Nat→Nat,ZD (wf w b) (roR w L u ws++RO) 420 (XW w L) (XF w L (i + 1) (ρ 0) (⟨ρ 1,k,t,1,ρ 2⟩::R) (ρ 3) (some (.str (wd k) t)) (some (.ref (ρ 4))) (fs++[(.int (-1) (ρ 5))]) (ρ 6) (ls++[]) (ρ 7) (enV es) [(ρ 1,ZS [.str (wd k) t,.int (Int.ofNat 1) (ρ 2)])]).mem F):ZD (wf w b) (roR w L u ws++RO) 420 (XW w L) (XF w L i ra R er ow os fs ef ls el (enV es) []).mem F:=
 cK (IR w b RO L i ra k t er ef el cap tc R ow os fs ls ws es u hx hk hzf hR hzr hR0 hj hza hc hd hp hzv hzl F H) (by cases b<;>kernel_rfl)
noncomputable def IS (w:World) (b:Bool) (RO:ZA) (L:RL) (i ra k t er ef el cap tc:Nat) (z:Pr) (R Z:List Pr) (ow os:Option PySem.Value) (fs ls ws:List PySem.Value) (es:List (Nat × Nat)) (u:Nat→Nat)
 (hx:ws[i]?=some (.str (wd k) t)) (hk:k < 12) (hzf:fs.length≤1000) (hR:WF R RO) (hzr:(R).length≤1000) (hR0:R≠[]) (hj:YS k 0 R=[]) (hza:1 + (ZH R).length≤1000) (hc:(enV es).getLast?=some (.int (Int.ofNat cap) tc))
 (hd:∀ a2:Nat,slicePick ⟨([PySem.Value.ref a2]++ZH R)⟩ (some (Int.ofNat cap)) none none=⟨[PySem.Value.ref z.a]⟩) (hp:∀ a2 t4:Nat,slicePick ⟨([PySem.Value.ref a2]++ZH R)⟩ none (some (Int.ofNat cap)) none=⟨ZH (⟨a2,k,t,1,t4⟩::Z)⟩) (hzv:∀ a2:Nat,(([PySem.Value.ref a2]++ZH R)).length≤1000) (hzl:ls.length + 1≤1000) (F:PySem.Result→ZA→Prop)
 (H:∀ ρ:Nat→Nat,ZD (wf w b) (roR w L u ws++(ZY z::RO)) 420 (XW w L) (XF w L (i + 1) (ρ 0) (⟨ρ 1,k,t,1,ρ 2⟩::Z) (ρ 3) (some (.str (wd k) t)) (some (.ref (ρ 4))) (fs++[(.int (-1) (ρ 5))]) (ρ 6) (ls++[.str (wd z.k) z.t]) (ρ 7) (enV es) [(ρ 1,ZS [.str (wd k) t,.int (Int.ofNat 1) (ρ 2)])]).mem F):CE (wf w b) (roR w L u ws++(ZY z::RO)) []:=
 .l 2 (.k (Z8 L.it L.ask ws L.ae i (.str (wd k) t)) [1] (YE w b _ _ _ _ _ _ _ (.head _) hx) fun ρ0=>.l 5010101041004 (.k (Y6 ra (ZH R) er) [0] (XD w b _ _ _ _) fun ρ1=>.l 3001 (.a fun a0=>.a fun a1=>.x (Rj w L (ρ1 0) (ρ1 1) a0 a1 ra none) [0,1,2,3] [4,7] [(ra,⟨(.type "list"),none,(.seq ⟨ZH R⟩ er),#[]⟩),((L.5),⟨(.type "cell"),none,(.cell (some (.str (wd k) t))),#[]⟩)] (Ma w b _ _ _ _ _ _ _ er k t _ hk hR0 (hR.up Kb) hzr in2 none hj) fun ρ2=>.l 100301004321100400220075001 (.t fun t3=>.k (Z6 L.fl fs ef (.int (-1) t3)) [9] (YC w b _ _ _ _ _ hzf) fun ρ3=>.l 8 (.t fun t4=>.a fun a2=>.a fun a3=>.l 1000700010011 (.k (WP a3 ra [PySem.Value.ref a2] 0 (ZH R) er) [0,6] (Ws w b _ _ _ _ _ _ _ hza) fun ρ4=>.l 10004320012301404321012 (.t fun t6=>.l 2015 (.k (WG L.en (enV es) L.ee (-1) t6 (.int (Int.ofNat cap) tc)) [14] (X4 w b _ _ _ _ _ _ hc) fun ρ5=>.a fun a4=>.l 2002 (.k (Yw (ρ4 0) a4 ([PySem.Value.ref a2]++ZH R) 0 (.int (Int.ofNat cap) tc) .none .none [PySem.Value.ref z.a]) [1,0] (XE w b _ _ _ _ _ _ _ _ (some (Int.ofNat cap)) none none _ (.int _ _) .none .none (by decide) (hzv a2) (hd a2)) fun ρ6=>.l 2001 (.a fun a5=>.l 1 (.a fun a6=>.l 99 (.c 2 (ZF w b _ a5 #[(.ref (ρ6 0)),(.int 0 0)]) (.l 20030001109910030004300330024433010020010100100300043003 (.k (Vx L.ll a6 ls el [.str (wd z.k) z.t] 1) [20,3] (Tg w b _ _ _ _ _ _ _ hzl) fun ρ7=>.l 10004320019 (.t fun t10=>.l 2022 (.k (WG L.en (enV es) L.ee (-1) t10 (.int (Int.ofNat cap) tc)) [21] (X4 w b _ _ _ _ _ _ hc) fun ρ8=>.a fun a10=>.l 2009 (.k (Yw (ρ4 0) a10 ([PySem.Value.ref a2]++ZH R) 0 .none (.int (Int.ofNat cap) tc) .none (ZH (⟨a2,k,t,1,t4⟩::Z))) [8,0] (XE w b _ _ _ _ _ _ _ _ none (some (Int.ofNat cap)) none _ .none (.int _ _) .none (by decide) (hzv a2) (hp a2 t4)) fun ρ9=>.l 1021 (.e [1,18,1,8] (H (rl [ρ9 0,a2,t4,0,a0,t3,ρ3 0,ρ7 0]))))))))))))))))))))
theorem FC (w:World) (b:Bool) (RO:ZA) (L:RL) (i ra k t er ef el cap tc:Nat) (z:Pr) (R Z:List Pr) (ow os:Option PySem.Value) (fs ls ws:List PySem.Value) (es:List (Nat × Nat)) (u:Nat→Nat)
 (hx:ws[i]?=some (.str (wd k) t)) (hk:k < 12) (hzf:fs.length≤1000) (hR:WF R RO) (hzr:(R).length≤1000) (hR0:R≠[]) (hj:YS k 0 R=[]) (hza:1 + (ZH R).length≤1000) (hc:(enV es).getLast?=some (.int (Int.ofNat cap) tc))
 (hd:∀ a2:Nat,slicePick ⟨([PySem.Value.ref a2]++ZH R)⟩ (some (Int.ofNat cap)) none none=⟨[PySem.Value.ref z.a]⟩) (hp:∀ a2 t4:Nat,slicePick ⟨([PySem.Value.ref a2]++ZH R)⟩ none (some (Int.ofNat cap)) none=⟨ZH (⟨a2,k,t,1,t4⟩::Z)⟩) (hzv:∀ a2:Nat,(([PySem.Value.ref a2]++ZH R)).length≤1000) (hzl:ls.length + 1≤1000) (F:PySem.Result→ZA→Prop)
 (H:∀ ρ:Nat→Nat,ZD (wf w b) (roR w L u ws++(ZY z::RO)) 420 (XW w L) (XF w L (i + 1) (ρ 0) (⟨ρ 1,k,t,1,ρ 2⟩::Z) (ρ 3) (some (.str (wd k) t)) (some (.ref (ρ 4))) (fs++[(.int (-1) (ρ 5))]) (ρ 6) (ls++[.str (wd z.k) z.t]) (ρ 7) (enV es) [(ρ 1,ZS [.str (wd k) t,.int (Int.ofNat 1) (ρ 2)])]).mem F):ZD (wf w b) (roR w L u ws++(ZY z::RO)) 420 (XW w L) (XF w L i ra R er ow os fs ef ls el (enV es) []).mem F:=
 cK (IS w b RO L i ra k t er ef el cap tc z R Z ow os fs ls ws es u hx hk hzf hR hzr hR0 hj hza hc hd hp hzv hzl F H) (by cases b<;>kernel_rfl)
noncomputable def IT (w:World) (b:Bool) (RO:ZA) (L:RL) (i ra k t er ef el cap tc:Nat) (q:Pr) (X Y:List Pr) (ow os:Option PySem.Value) (fs ls ws:List PySem.Value) (es:List (Nat × Nat)) (u:Nat→Nat)
 (hx:ws[i]?=some (.str (wd k) t)) (hk:k < 12) (hzf:fs.length≤1000) (hR:WF (X++q::Y) RO) (hzr:((X++q::Y)).length≤1000) (hj:YS k 0 (X++q::Y)=[Int.ofNat X.length]) (hne:es≠[]) (hze:es.length≤1000) (hzp:(enV (Yq X.length es)).length≤1000) (hzX:X.length < 1000) (hix:(ZH (X++q::Y))[X.length]?=some (.ref q.a)) (hzs:(ZH (X++q::Y)).length≤1000)
 (hs1:slicePick ⟨ZH (X++q::Y)⟩ none (some (Int.ofNat X.length)) none=⟨ZH X⟩) (hs2:slicePick ⟨ZH (X++q::Y)⟩ (some (Int.ofNat (X.length + 1))) none none=⟨ZH Y⟩) (hza:1 + (ZH X).length≤1000) (hzb:∀ a:Nat,([PySem.Value.ref a]++ZH X).length + (ZH Y).length≤1000) (hc:(enV es).getLast?=some (.int (Int.ofNat cap) tc))
 (hd:∀ a5:Nat,slicePick ⟨(([PySem.Value.ref a5]++ZH X)++ZH Y)⟩ (some (Int.ofNat cap)) none none=⟨[]⟩) (hp:∀ a5 t5:Nat,slicePick ⟨(([PySem.Value.ref a5]++ZH X)++ZH Y)⟩ none (some (Int.ofNat cap)) none=⟨ZH (⟨a5,k,t,(q.n + 1),t5⟩::(X++Y))⟩) (hzv:∀ a5:Nat,((([PySem.Value.ref a5]++ZH X)++ZH Y)).length≤1000) (hzl:ls.length + 1≤1000) (F:PySem.Result→ZA→Prop)
 (H:∀ ρ:Nat→Nat,ZD (wf w b) (roR w L u ws++(ZY q::RO)) 420 (XW w L) (XF w L (i + 1) (ρ 0) (⟨ρ 1,k,t,(q.n + 1),ρ 2⟩::(X++Y)) (ρ 3) (some (.str (wd k) t)) (some (.ref (ρ 4))) (fs++[(.int (Int.ofNat (enV (Yq X.length es)).length) (ρ 5))]) (ρ 6) (ls++[]) (ρ 7) (enV es) [(ρ 1,ZS [.str (wd k) t,.int (Int.ofNat (q.n + 1)) (ρ 2)])]).mem F):CE (wf w b) (roR w L u ws++(ZY q::RO)) []:=
 .l 2 (.k (Z8 L.it L.ask ws L.ae i (.str (wd k) t)) [1] (YE w b _ _ _ _ _ _ _ (.head _) hx) fun ρ0=>.l 5010101041004 (.k (Y6 ra (ZH (X++q::Y)) er) [0] (XD w b _ _ _ _) fun ρ1=>.l 3001 (.a fun a0=>.a fun a1=>.x (Rj w L (ρ1 0) (ρ1 1) a0 a1 ra (some X.length)) [0,1,2,3] [4,7] [(ra,⟨(.type "list"),none,(.seq ⟨ZH (X++q::Y)⟩ er),#[]⟩),((L.5),⟨(.type "cell"),none,(.cell (some (.str (wd k) t))),#[]⟩)] (Ma w b _ _ _ _ _ _ _ er k t _ hk (List.append_ne_nil_of_right_ne_nil _ (List.cons_ne_nil _ _)) (hR.up Kb) hzr in2 (some X.length) hj) fun ρ2=>.l 2012043201010104301004321100400220075001 (.a fun a2=>.l 1 (.a fun a3=>.a fun a4=>.x (Iu w L a2 a3 a4 X.length es) [0,1,2] [14,9,4] [((L.8),⟨(.type "list"),none,(.seq ⟨enV es⟩ (L.12)),#[]⟩),((L.6),⟨(.type "cell"),none,(.cell (some (.ref a0))),#[]⟩),(a0,⟨(.type "list"),none,(.seq #[(.int (Int.ofNat (List.length X)) (ρ2 10))] (ρ2 6)),#[]⟩)] (Fo w b _ _ _ _ _ _ _ _ _ es hne hze in3) fun ρ3=>.l 2001 (.k (Zs a3 (enV (Yq X.length es)) (ρ3 4)) [1] (Zu w b _ _ _ _ hzp) fun ρ4=>.k (Z6 L.fl fs ef (.int (Int.ofNat (List.length (enV (Yq (List.length X) es)))) (ρ4 0))) [12] (YC w b _ _ _ _ _ hzf) fun ρ5=>.l 200840050100001000120011 (.k (WG ra (ZH (X++q::Y)) er (Int.ofNat X.length) (ρ2 10) (.ref q.a)) [7] (Fn w b _ _ _ _ _ _ _ hzX hix) fun ρ6=>.l 10044330100 (.t fun t5=>.a fun a5=>.a fun a6=>.l 4007010000120014 (.a fun a7=>.l 2011 (.k (Yw ra a7 (ZH (X++q::Y)) er .none (.int (Int.ofNat X.length) (ρ2 10)) .none (ZH X)) [10,0] (XE w b _ _ _ _ _ _ _ _ none (some (Int.ofNat X.length)) none _ .none (.int _ _) .none (by decide) hzs hs1) fun ρ7=>.l 300010003 (.k (WP a6 (ρ7 0) [PySem.Value.ref a5] 0 (ZH X) 0) [2,0] (Ws w b _ _ _ _ _ _ _ hza) fun ρ8=>.l 1004010010000150017 (.t fun t9=>.a fun a8=>.l 2014 (.k (Yw ra a8 (ZH (X++q::Y)) er (.int (Int.ofNat (X.length + 1)) t9) .none .none (ZH Y)) [13,0] (XE w b _ _ _ _ _ _ _ _ (some (Int.ofNat (X.length + 1))) none none _ (.int _ _) .none .none (by decide) hzs hs2) fun ρ9=>.l 300010003 (.k (WP (ρ8 0) (ρ9 0) ([PySem.Value.ref a5]++ZH X) 0 (ZH Y) 0) [2,0] (Ws w b _ _ _ _ _ _ _ (hzb a5)) fun ρ10=>.l 10004320020302204321020 (.t fun t11=>.l 2023 (.k (WG L.en (enV es) L.ee (-1) t11 (.int (Int.ofNat cap) tc)) [22] (X4 w b _ _ _ _ _ _ hc) fun ρ11=>.a fun a9=>.l 2002 (.k (Yw (ρ10 0) a9 (([PySem.Value.ref a5]++ZH X)++ZH Y) 0 (.int (Int.ofNat cap) tc) .none .none []) [1,0] (XE w b _ _ _ _ _ _ _ _ (some (Int.ofNat cap)) none none _ (.int _ _) .none .none (by decide) (hzv a5) (hd a5)) fun ρ12=>.l 2001 (.a fun a10=>.l 1 (.a fun a11=>.l 99 (.c 2 (ZF w b _ a10 #[(.ref (ρ12 0)),(.int 0 0)]) (.l 300011099100300043003 (.k (Vx L.ll a11 ls el [] 0) [28,3] (Tg w b _ _ _ _ _ _ _ (Nat.le_of_succ_le hzl)) fun ρ13=>.l 10004320027 (.t fun t13=>.l 2030 (.k (WG L.en (enV es) L.ee (-1) t13 (.int (Int.ofNat cap) tc)) [29] (X4 w b _ _ _ _ _ _ hc) fun ρ14=>.a fun a15=>.l 2009 (.k (Yw (ρ10 0) a15 (([PySem.Value.ref a5]++ZH X)++ZH Y) 0 .none (.int (Int.ofNat cap) tc) .none (ZH (⟨a5,k,t,(q.n + 1),t5⟩::(X++Y)))) [8,0] (XE w b _ _ _ _ _ _ _ _ none (some (Int.ofNat cap)) none _ .none (.int _ _) .none (by decide) (hzv a5) (hp a5 t5)) fun ρ15=>.l 1029 (.e [1,28,1,14] (H (rl [ρ15 0,a5,t5,0,a0,ρ4 0,ρ5 0,ρ13 0]))))))))))))))))))))))))))))
theorem FD (w:World) (b:Bool) (RO:ZA) (L:RL) (i ra k t er ef el cap tc:Nat) (q:Pr) (X Y:List Pr) (ow os:Option PySem.Value) (fs ls ws:List PySem.Value) (es:List (Nat × Nat)) (u:Nat→Nat)
 (hx:ws[i]?=some (.str (wd k) t)) (hk:k < 12) (hzf:fs.length≤1000) (hR:WF (X++q::Y) RO) (hzr:((X++q::Y)).length≤1000) (hj:YS k 0 (X++q::Y)=[Int.ofNat X.length]) (hne:es≠[]) (hze:es.length≤1000) (hzp:(enV (Yq X.length es)).length≤1000) (hzX:X.length < 1000) (hix:(ZH (X++q::Y))[X.length]?=some (.ref q.a)) (hzs:(ZH (X++q::Y)).length≤1000)
 (hs1:slicePick ⟨ZH (X++q::Y)⟩ none (some (Int.ofNat X.length)) none=⟨ZH X⟩) (hs2:slicePick ⟨ZH (X++q::Y)⟩ (some (Int.ofNat (X.length + 1))) none none=⟨ZH Y⟩) (hza:1 + (ZH X).length≤1000) (hzb:∀ a:Nat,([PySem.Value.ref a]++ZH X).length + (ZH Y).length≤1000) (hc:(enV es).getLast?=some (.int (Int.ofNat cap) tc))
 (hd:∀ a5:Nat,slicePick ⟨(([PySem.Value.ref a5]++ZH X)++ZH Y)⟩ (some (Int.ofNat cap)) none none=⟨[]⟩) (hp:∀ a5 t5:Nat,slicePick ⟨(([PySem.Value.ref a5]++ZH X)++ZH Y)⟩ none (some (Int.ofNat cap)) none=⟨ZH (⟨a5,k,t,(q.n + 1),t5⟩::(X++Y))⟩) (hzv:∀ a5:Nat,((([PySem.Value.ref a5]++ZH X)++ZH Y)).length≤1000) (hzl:ls.length + 1≤1000) (F:PySem.Result→ZA→Prop)
 (H:∀ ρ:Nat→Nat,ZD (wf w b) (roR w L u ws++(ZY q::RO)) 420 (XW w L) (XF w L (i + 1) (ρ 0) (⟨ρ 1,k,t,(q.n + 1),ρ 2⟩::(X++Y)) (ρ 3) (some (.str (wd k) t)) (some (.ref (ρ 4))) (fs++[(.int (Int.ofNat (enV (Yq X.length es)).length) (ρ 5))]) (ρ 6) (ls++[]) (ρ 7) (enV es) [(ρ 1,ZS [.str (wd k) t,.int (Int.ofNat (q.n + 1)) (ρ 2)])]).mem F):ZD (wf w b) (roR w L u ws++(ZY q::RO)) 420 (XW w L) (XF w L i ra (X++q::Y) er ow os fs ef ls el (enV es) []).mem F:=
 cK (IT w b RO L i ra k t er ef el cap tc q X Y ow os fs ls ws es u hx hk hzf hR hzr hj hne hze hzp hzX hix hzs hs1 hs2 hza hzb hc hd hp hzv hzl F H) (by cases b<;>kernel_rfl)
theorem EK (w:World) (b:Bool) (RO:ZA) (L:RL) (i ra er ef el:Nat) (R:List Pr) (ow os:Option PySem.Value) (fs ls ws es:List PySem.Value) (u:Nat→Nat) (hx:ws[i]?=none):({ XF w L i ra R er ow os fs ef ls el es [] with upd:=fun _=>[ZB (ZH R) er,Xz i,Zn os,Zn ow,Zn (some (.ref ra)),ZB fs ef,ZB ls el,ZB es L.ee] }).ok (wf w b) (roR w L u ws++RO) 420:=
 cR (.l 2 (.k (Wc L.it L.ask ws L.ae i) [1] (W2 w b _ _ _ _ _ _ (.head _) hx) fun ρ0=>.l 1 (.z [2] (fun _=>0)))) (by kernel_rfl)
theorem ZD.permI {w:World} {RO:ZA} {D:Nat} {c:Code} {M M2:ZA} {K:Result→ZA→Prop} (p:M.Perm M2) (x:ZD w RO D c M K):ZD w RO D c M2 K:=by
 intro h g d t os R ht hM hR
 have hM':Holds w.params RO M h:=⟨hM.base,hM.ro,fun q hq=>hM.at_ q (p.mem_iff.mp hq),(p.map _).nodup_iff.mpr hM.nd,fun q hq=>hM.offB q (p.mem_iff.mp hq),fun q hq=>hM.offR q (p.mem_iff.mp hq)⟩
 refine x h g d t os R ht hM' fun r M' h' g' t' ht' k hMM hE' hB'=>hR r M' h' g' t' ht' k hMM ⟨fun a o ho ha=>hE'.keep a o ho fun y=>ha ((p.map _).mem_iff.mp y),fun q hq=>?_,hE'.size⟩ hB'
 rcases hE'.fresh q hq with z | z
 ·exact .inl ((p.map _).mem_iff.mp z)
 ·exact .inr z
theorem We (vs:List Value) (n:Nat):slicePick ⟨vs⟩ (some (Int.ofNat n)) none none=⟨vs.drop n⟩:=slicePick_from' ⟨vs⟩ n
theorem Wf (vs:List Value) (n:Nat):slicePick ⟨vs⟩ none (some (Int.ofNat n)) none=⟨vs.take n⟩:=slicePick_upto' ⟨vs⟩ n
theorem EL (vs:List Value) (a b:Nat) (hb:b≤vs.length) (hab:a≤b):slicePick ⟨vs⟩ (some (Int.ofNat a)) (some (Int.ofNat b)) none=⟨(vs.drop a).take (b - a)⟩:=slicePick_run ⟨vs⟩ a b hb hab
theorem WT (A B:List Pr):ZH (A++B)=ZH A++ZH B:=List.map_append
theorem Zv (A:List Pr):(ZH A).length=A.length:=List.length_map _
noncomputable def FE (L:RL) (R:List Pr) (fs ls es:List Value) (ρ:Nat→Nat):ZA:=
 [(ρ 0,ZB (ZH R) (ρ 1)),(L.it,Xz (ρ 2)),(L.a4,Zn (some (.ref (ρ 3)))),(L.a3,Zn (some (.str (wd (ρ 4)) (ρ 5)))),(L.a2,Zn (some (.ref (ρ 0)))),(L.fl,ZB fs (ρ 6)),(L.ll,ZB ls (ρ 7)),(L.en,ZB es L.ee)]
noncomputable def Me (L:RL) (fs ls es:List Value) (cap:Nat) (ends:List Nat) (Rk:Row) (ks:List Nat) (RO:ZA) (r:Result) (M':ZA):Prop:=
 ∃ (R' nw:List Pr) (l m:List Value) (ρ:Nat→Nat),r = .ok .next∧R'.map kn=rOf cap Rk ks∧Uy (MW ends cap Rk ks) l∧Wds (V1 cap Rk ks) m∧WF R' (nw.map ZY++RO)∧M'=nw.map ZY++FE L R' (fs++l) (ls++m) es ρ
theorem V3 {L:RL} {fs ls es:List Value} {cap:Nat} {ends:List Nat} {R R1:List Pr} {k:Nat} {ks:List Nat} {RO:ZA} {p0:Pr} {v:Value} {ms:List Value} {res:Int}
  (hR1:R1.map kn=(Zj (R.map kn) k).take cap) (hv:∃ t,v = .int res t) (hres:res=Xs ends (R.map kn) k) (hm:Wds (((Zj (R.map kn) k).drop cap).map (·.1)) ms) {r:Result} {M₁:ZA}
  (h:Me L (fs++[v]) (ls++ms) es cap ends (R1.map kn) ks (ZY p0::RO) r M₁):Me L fs ls es cap ends (R.map kn) (k::ks) RO r ([ZY p0]++M₁):=by
 obtain ⟨R',nw,l,m,ρ,rfl,h1,h2,h3,h4,rfl⟩:=h
 rw [hR1] at h1 h2 h3
 refine ⟨R',p0::nw,v::l,ms++m,ρ,rfl,h1,⟨?_,h2⟩,Wds.app hm h3,?_,?_⟩
 ·obtain ⟨t,rfl⟩:=hv
  exact ⟨t,by rw [hres]⟩
 ·refine h4.up fun p hp=>?_
  rcases List.mem_append.mp hp with h | h
  ·exact .tail _ (List.mem_append.mpr (.inl h))
  ·cases h with
   | head=>exact .head _
   | tail _ h=>exact .tail _ (List.mem_append.mpr (.inr h))
 ·rw [List.append_assoc,List.append_assoc]
  rfl
theorem V4 {x:Addr × Obj} {A B C:ZA} (hB:∀ p∈B,p∈C):∀ p∈A++(x::B),p∈[x]++(A++C):=by
 intro p hp
 simp only [List.mem_append,List.mem_cons,List.not_mem_nil,or_false] at hp ⊢
 rcases hp with h | h | h
 ·exact .inr (.inl h)
 ·exact .inl h
 ·exact .inr (.inr (hB p h))
theorem IU (j:Nat) (es:List (Nat × Nat)):(enV (Yq j es)).length=((es.map (·.1)).filter fun e=>decide (e≤j)).length:=by
 unfold enV Yq
 rw [List.length_map,List.filter_map,List.length_map]
 rfl
theorem Hx {R:List Pr} {j:Nat} (h:RowOk j (R.map kn)):Six R:=by
 have:=h.six
 rw [List.map_map] at this
 exact this
theorem Vg (w:World) (b:Bool) (L:RL) (u:Nat→Nat) (ws:List Value) (es:List (Nat × Nat)) (cap tc:Nat) (hne:es≠[]) (hze:es.length≤1000) (hc:(enV es).getLast?=some (.int (Int.ofNat cap) tc)) (hcap:1≤cap∧cap≤6) :
  ∀ (ks:List Nat) (RO:ZA) (i ra:Nat) (R:List Pr) (er:Nat) (ow os:Option Value) (fs:List Value) (ef:Nat) (ls:List Value) (el j:Nat),Wl ws i ks→(∀ k∈ks,k < 12)→j + ks.length≤12→RowOk j (R.map kn)→WF R RO→R≠[]→R.length≤cap→fs.length≤j→ls.length≤j→((∃ k t,ow=some (.str (wd k) t))∧∃ a,os=some (.ref a))→
   ZD (wf w b) (roR w L u ws++RO) 420 (XW w L) (XF w L i ra R er ow os fs ef ls el (enV es) []).mem (Me L fs ls (enV es) cap (es.map (·.1)) (R.map kn) ks RO)
 | [],RO,i,ra,R,er,ow,os,fs,ef,ls,el,j,hw,_,_,_,hR,_,_,_,_,ho=>by
  obtain ⟨⟨k,t,rfl⟩,a,rfl⟩:=ho
  refine ZD.mono (EK w b RO L i ra er ef el R _ _ fs ls ws (enV es) u hw.stop) ?_
  rintro r M' ⟨ρ,rfl,rfl,_⟩
  exact ⟨R,[],[],[],rl [ra,er,i,a,k,t,ef,el],rfl,rfl,trivial,trivial,hR,by rw [List.append_nil,List.append_nil]; rfl⟩
 | k::ks,RO,i,ra,R,er,ow,os,fs,ef,ls,el,j,hw,hk,hj,hok,hR,hR0,hl,hf,hs,_=>by
  obtain ⟨⟨t,hx⟩,hw'⟩:=hw.next
  have hk12:=hk k (.head _)
  have hks:∀ k'∈ks,k' < 12:=fun k' h=>hk k' (.tail _ h)
  rw [List.length_cons] at hj
  have next:∀ (R1:List Pr),R1.map kn=(Zj (R.map kn) k).take cap→RowOk (j + 1) (R1.map kn)∧R1.length≤cap:=fun R1 e=>by
   refine ⟨e▸Vw hok hk12,?_⟩
   have:=congrArg List.length e
   rw [List.length_map,List.length_take] at this
   omega
  rcases Xj (k:=k) (ps:=R) with hm | ⟨X,q,Y,rfl,hX,hq⟩
  ·have hmk:∀ p∈R.map kn,YA k p=false:=fun p hp=>by
    obtain ⟨p',hp',rfl⟩:=List.mem_map.mp hp
    exact hm p' hp'
   have hres:=Xi (es.map (·.1)) hmk
   by_cases hlen:R.length + 1≤cap
   ·refine FB w b RO L i ra k t er ef el cap tc R ow os fs ls ws es u hx hk12 (by omega) hR (by omega) hR0 (VD 0 hm) (by rw [Zv]; omega) hc (fun a=>?_) (fun a t'=>?_) (fun a=>by rw [List.length_append,Zv]; simp only [List.length_cons,List.length_nil]; omega) (by omega) _ fun ρ=>?_
    ·rw [We,List.drop_eq_nil_of_le (by rw [List.length_append,Zv]; simp only [List.length_cons,List.length_nil]; omega)]
    ·rw [Wf,List.take_of_length_le (by rw [List.length_append,Zv]; simp only [List.length_cons,List.length_nil]; omega)]
     rfl
    ·have e1:((⟨ρ 1,k,t,1,ρ 2⟩::R:List Pr)).map kn=(Zj (R.map kn) k).take cap:=by
      rw [XC hmk,List.take_of_length_le (by rw [List.length_cons,List.length_map]; omega)]
      rfl
     obtain ⟨n1,n2⟩:=next _ e1
     have z:=Vg w b L u ws es cap tc hne hze hc hcap ks (ZY ⟨ρ 1,k,t,1,ρ 2⟩::RO) (i + 1) (ρ 0) (⟨ρ 1,k,t,1,ρ 2⟩::R) (ρ 3) (some (.str (wd k) t)) (some (.ref (ρ 4))) (fs++[.int (-1) (ρ 5)]) (ρ 6) (ls++[]) (ρ 7) (j + 1) hw' hks (by omega) n1 (fun p hp=>by
      cases hp with
      | head=>exact ⟨.head _,hk12⟩
      | tail _ hp=>exact ⟨.tail _ (hR p hp).1,(hR p hp).2⟩) (List.cons_ne_nil _ _) n2 (by rw [List.length_append]; simp only [List.length_cons,List.length_nil]; omega) (by rw [List.append_nil]; omega) ⟨⟨_,_,rfl⟩,_,rfl⟩
     refine ZD.permI (List.Perm.swap _ _ _) (ZD.mono (ZD.frame [ZY ⟨ρ 1,k,t,1,ρ 2⟩] (ZD.more z (V4 fun p h=>h))) ?_)
     ·rintro r M' ⟨M₁,rfl,h⟩
      refine V3 e1 ⟨_,rfl⟩ hres.symm ?_ h
      rw [XC hmk,List.drop_eq_nil_of_le (by rw [List.length_cons,List.length_map]; omega)]
      trivial
   ·obtain ⟨Z,z,rfl⟩:∃ Z z,R=Z++[z]:=⟨R.dropLast,R.getLast hR0,(List.dropLast_concat_getLast hR0).symm⟩
    have hZ:Z.length + 1=cap:=by
     rw [List.length_append,List.length_cons,List.length_nil] at hl hlen
     omega
    have hlz:(ZH (Z++[z])).length=cap:=by rw [Zv,List.length_append,List.length_cons,List.length_nil]; omega
    have hzz:=hR z (List.mem_append.mpr (.inr (.head _)))
    have hROz:∀ p∈roR w L u ws++(ZY z::RO),p∈roR w L u ws++RO:=fun p hp=>by
     rcases List.mem_append.mp hp with h | h
     ·exact List.mem_append.mpr (.inl h)
     ·rcases List.mem_cons.mp h with h | h
      ·exact List.mem_append.mpr (.inr (h▸hzz.1))
      ·exact List.mem_append.mpr (.inr h)
    refine ZD.more (FC w b RO L i ra k t er ef el cap tc z (Z++[z]) Z ow os fs ls ws es u hx hk12 (by omega) hR (by omega) hR0 (VD 0 hm) (by rw [hlz]; omega) hc (fun a=>?_) (fun a t'=>?_) (fun a=>by rw [List.length_append,hlz]; simp only [List.length_cons,List.length_nil]; omega) (by omega) _ fun ρ=>?_) hROz
    ·rw [We,WT,← List.append_assoc,List.drop_left' (by rw [List.length_append,Zv]; simp only [List.length_cons,List.length_nil]; omega)]
     rfl
    ·rw [Wf,WT,← List.append_assoc,List.take_left' (by rw [List.length_append,Zv]; simp only [List.length_cons,List.length_nil]; omega)]
     rfl
    ·have el:((Zj ((Z++[z]).map kn) k))=((k,1)::Z.map kn)++[kn z]:=by
      rw [XC hmk,List.map_append]
      rfl
     have lz:((k,1)::Z.map kn).length=cap:=by rw [List.length_cons,List.length_map,hZ]
     have e1:((⟨ρ 1,k,t,1,ρ 2⟩::Z:List Pr)).map kn=(Zj ((Z++[z]).map kn) k).take cap:=by
      rw [el,List.take_left' lz]
      rfl
     obtain ⟨n1,n2⟩:=next _ e1
     have y:=Vg w b L u ws es cap tc hne hze hc hcap ks (ZY ⟨ρ 1,k,t,1,ρ 2⟩::RO) (i + 1) (ρ 0) (⟨ρ 1,k,t,1,ρ 2⟩::Z) (ρ 3) (some (.str (wd k) t)) (some (.ref (ρ 4))) (fs++[.int (-1) (ρ 5)]) (ρ 6) (ls++[.str (wd z.k) z.t]) (ρ 7) (j + 1) hw' hks (by omega) n1 (fun p hp=>by
      cases hp with
      | head=>exact ⟨.head _,hk12⟩
      | tail _ hp=>
       have:=hR p (List.mem_append.mpr (.inl hp))
       exact ⟨.tail _ this.1,this.2⟩) (List.cons_ne_nil _ _) n2 (by rw [List.length_append]; simp only [List.length_cons,List.length_nil]; omega) (by rw [List.length_append]; simp only [List.length_cons,List.length_nil]; omega) ⟨⟨_,_,rfl⟩,_,rfl⟩
     refine ZD.permI (List.Perm.swap _ _ _) (ZD.mono (ZD.frame [ZY ⟨ρ 1,k,t,1,ρ 2⟩] (ZD.more y (V4 fun p h=>(.tail _ h)))) ?_)
     ·rintro r M' ⟨M₁,rfl,h⟩
      refine V3 e1 ⟨_,rfl⟩ hres.symm ?_ h
      rw [el,List.drop_left' lz]
      exact ⟨⟨_,rfl⟩,trivial⟩
  ·have six:=Hx hok
   have hal:=X2 (X:=X.map kn) (Y:=Y.map kn) (q:=kn q) (k:=k) (by have:=hok.six; rw [List.map_append,List.map_cons] at this; exact this) hq
   have hY:∀ p∈Y,Hit k p=false:=fun p hp=>hal.2 (kn p) (List.mem_map_of_mem hp)
   have hXk:=hal.1
   have hYk:=hal.2
   have hlen:X.length + Y.length + 1≤cap:=by
    rw [List.length_append,List.length_cons] at hl
    omega
   have hix:(ZH (X++q::Y))[X.length]?=some (.ref q.a):=by
    rw [WT,List.getElem?_append_right (by rw [Zv]; exact Nat.le_refl _),Zv,Nat.sub_self]
    rfl
   have hlr:(ZH (X++q::Y)).length=X.length + Y.length + 1:=by rw [Zv,List.length_append,List.length_cons]; omega
   have hqq:=hR q (List.mem_append.mpr (.inr (.head _)))
   have hROq:∀ p∈roR w L u ws++(ZY q::RO),p∈roR w L u ws++RO:=fun p hp=>by
    rcases List.mem_append.mp hp with h | h
    ·exact List.mem_append.mpr (.inl h)
    ·rcases List.mem_cons.mp h with h | h
     ·exact List.mem_append.mpr (.inr (h▸hqq.1))
     ·exact List.mem_append.mpr (.inr h)
   have hpl:(enV (Yq X.length es)).length≤1000:=by
    unfold enV Yq
    rw [List.length_map]
    exact Nat.le_trans (List.length_filter_le _ _) hze
   have hres:Int.ofNat (enV (Yq X.length es)).length=Xs (es.map (·.1)) ((X++q::Y).map kn) k:=by
    rw [List.map_append,List.map_cons,UF (es.map (·.1)) hXk (show YA k (kn q)=true from hq),IU,List.length_map]
   have erow:Zj ((X++q::Y).map kn) k=(k,q.n + 1)::(X.map kn++Y.map kn):=by
    rw [List.map_append,List.map_cons]
    exact UE hXk hq hYk
   refine ZD.more (FD w b RO L i ra k t er ef el cap tc q X Y ow os fs ls ws es u hx hk12 (by omega) hR (by rw [List.length_append,List.length_cons]; omega) (by rw [QU hq hY 0 hX,Nat.zero_add]) hne hze hpl (by omega) hix (by omega) ?_ ?_ (by rw [Zv]; omega) (fun a=>by rw [List.length_append,Zv,Zv]; simp only [List.length_cons,List.length_nil]; omega) hc (fun a=>?_) (fun a t'=>?_) (fun a=>by rw [List.length_append,List.length_append,Zv,Zv]; simp only [List.length_cons,List.length_nil]; omega) (by omega) _ fun ρ=>?_) hROq
   ·rw [Wf,WT,List.take_left' (Zv X)]
   ·rw [We,WT,← List.drop_drop,List.drop_left' (Zv X)]
    rfl
   ·rw [We,List.drop_eq_nil_of_le (by rw [List.length_append,List.length_append,Zv,Zv]; simp only [List.length_cons,List.length_nil]; omega)]
   ·rw [Wf,List.take_of_length_le (by rw [List.length_append,List.length_append,Zv,Zv]; simp only [List.length_cons,List.length_nil]; omega),List.append_assoc,← WT]
    rfl
   ·have e1:((⟨ρ 1,k,t,q.n + 1,ρ 2⟩::(X++Y):List Pr)).map kn=(Zj ((X++q::Y).map kn) k).take cap:=by
     rw [erow,List.take_of_length_le (by rw [List.length_cons,List.length_append,List.length_map,List.length_map]; omega),List.map_cons,List.map_append]
     rfl
    obtain ⟨n1,n2⟩:=next _ e1
    have y:=Vg w b L u ws es cap tc hne hze hc hcap ks (ZY ⟨ρ 1,k,t,q.n + 1,ρ 2⟩::RO) (i + 1) (ρ 0) (⟨ρ 1,k,t,q.n + 1,ρ 2⟩::(X++Y)) (ρ 3) (some (.str (wd k) t)) (some (.ref (ρ 4))) (fs++[.int (Int.ofNat (enV (Yq X.length es)).length) (ρ 5)]) (ρ 6) (ls++[]) (ρ 7) (j + 1) hw' hks (by omega) n1 (fun p hp=>by
     cases hp with
     | head=>exact ⟨.head _,hk12⟩
     | tail _ hp=>
      have:=hR p (by
       rcases List.mem_append.mp hp with h | h
       ·exact List.mem_append.mpr (.inl h)
       ·exact List.mem_append.mpr (.inr (.tail _ h)))
      exact ⟨.tail _ this.1,this.2⟩) (List.cons_ne_nil _ _) n2 (by rw [List.length_append]; simp only [List.length_cons,List.length_nil]; omega) (by rw [List.append_nil]; omega) ⟨⟨_,_,rfl⟩,_,rfl⟩
    refine ZD.permI (List.Perm.swap _ _ _) (ZD.mono (ZD.frame [ZY ⟨ρ 1,k,t,q.n + 1,ρ 2⟩] (ZD.more y (V4 fun p h=>(.tail _ h)))) ?_)
    ·rintro r M' ⟨M₁,rfl,h⟩
     refine V3 e1 ⟨_,rfl⟩ hres ?_ h
     rw [erow,List.drop_eq_nil_of_le (by rw [List.length_cons,List.length_append,List.length_map,List.length_map]; omega)]
     trivial
theorem ZD.permO {w:World} {RO:ZA} {D:Nat} {c:Code} {M:ZA} {K K':Result→ZA→Prop} (x:ZD w RO D c M K) (hk:∀ r M',K r M'→∃ M'',M'.Perm M''∧K' r M''):ZD w RO D c M K':=by
 intro h g d t os R ht hM hR
 refine x h g d t os R ht hM fun r M' h' g' t' ht' k hMM hE' hB'=>?_
 obtain ⟨M'',p,k'⟩:=hk r M' k
 exact hR r M'' h' g' t' ht' k' ⟨hMM.base,hMM.ro,fun q hq=>hMM.at_ q (p.mem_iff.mpr hq),(p.map _).nodup_iff.mp hMM.nd,fun q hq=>hMM.offB q (p.mem_iff.mpr hq),fun q hq=>hMM.offR q (p.mem_iff.mpr hq)⟩ ⟨hE'.keep,fun q hq=>hE'.fresh q (p.mem_iff.mpr hq),hE'.size⟩ hB'
noncomputable def XX (cap:Nat) (ends ks:List Nat) (x:LX):Prop:=
 ∃ R':List Pr,x.vals 2=ZH R'∧R'.map kn=rOf cap [] ks∧Uy (MW ends cap [] ks) (x.vals 0)∧Wds (V1 cap [] ks) (x.vals 1)∧WF R' (x.cells 0)
noncomputable def Rl (w:World) (L:RL) (ra er ef el:Nat) (es:List (Nat × Nat)) (x:LX):Con:=
 {XF w L 0 ra [] er none none [] ef [] el (enV es) [] with
  newR:=fun _=>x.cells 0,new:=fun ρ=>[(ρ 0,ZB (x.vals 2) (ρ 1))],
  upd:=fun ρ=>[ZB [] er,Xz (ρ 2),Zn (some (.ref (ρ 3))),Zn (some (.str (wd (ρ 4)) (ρ 5))),Zn (some (.ref (ρ 0))),ZB (x.vals 0) (ρ 6),ZB (x.vals 1) (ρ 7),ZB (enV es) L.ee] }
theorem So (w:World) (b:Bool) (RO:ZA) (L:RL) (u:Nat→Nat) (ws:List Value) (es:List (Nat × Nat)) (cap tc:Nat) (hne:es≠[]) (hze:es.length≤1000) (hc:(enV es).getLast?=some (.int (Int.ofNat cap) tc)) (hcap:1≤cap∧cap≤6) (k:Nat) (ks:List Nat) (ra er ef el:Nat) (hw:Wl ws 0 (k::ks)) (hk:∀ k'∈k::ks,k' < 12) (hj:ks.length + 1≤12) :
  ZD (wf w b) (roR w L u ws++RO) 420 (XW w L) (Rl w L ra er ef el es dLX).mem (fun r M'=>∃ x,XX cap (es.map (·.1)) (k::ks) x∧(Rl w L ra er ef el es x).post r M'):=by
 obtain ⟨⟨t,hx⟩,hw'⟩:=hw.next
 have hk12:=hk k (.head _)
 have e0:Zj [] k=[(k,1)]:=rfl
 refine ZD.more (RO:=roR w L u ws++[]) (ZD.permO (FA w b [] L 0 ra k t er ef el cap tc none none [] [] ws es u hx hk12 (by decide) (by decide) hc (fun a=>?_) (fun a t'=>?_) (fun a=>by show 1≤1000; decide) (by decide) (fun r M'=>∃ (p0:Pr) (M₁:ZA) (v:Value),p0.k=k∧p0.n=1∧(∃ t,v = .int (-1) t)∧M'=[ZY p0,(ra,ZB [] er)]++M₁∧Me L ([]++[v]) ([]++[]) (enV es) cap (es.map (·.1)) [(k,1)] ks [ZY p0] r M₁) fun ρ=>?_) ?_) ?_
 ·rw [We,List.drop_eq_nil_of_le (by show 1≤cap; exact hcap.1)]
 ·rw [Wf,List.take_of_length_le (by show 1≤cap; exact hcap.1)]
  rfl
 ·have hok:RowOk 1 ([(⟨ρ 1,k,t,1,ρ 2⟩:Pr)].map kn):=by
   have:=Vw (R:=[]) (j:=0) (k:=k) (c:=1) ⟨(fun _ h=>nomatch h),(fun _ h=>nomatch h),List.nodup_nil⟩ hk12
   exact this
  have z:=Vg w b L u ws es cap tc hne hze hc hcap ks [ZY ⟨ρ 1,k,t,1,ρ 2⟩] (0 + 1) (ρ 0) [⟨ρ 1,k,t,1,ρ 2⟩] (ρ 3) (some (.str (wd k) t)) (some (.ref (ρ 4))) ([]++[.int (-1) (ρ 5)]) (ρ 6) ([]++[]) (ρ 7) 1 hw' (fun k' h=>hk k' (.tail _ h)) (by omega) hok (fun p hp=>by
   cases hp with
   | head=>exact ⟨.head _,hk12⟩
   | tail _ hp=>cases hp) (List.cons_ne_nil _ _) hcap.1 (by show 1≤1; exact Nat.le_refl 1) (by show 0≤1; exact Nat.zero_le 1) ⟨⟨_,_,rfl⟩,_,rfl⟩
  refine ZD.permI (M:=[ZY ⟨ρ 1,k,t,1,ρ 2⟩,(ra,ZB [] er)]++(XF w L (0 + 1) (ρ 0) [⟨ρ 1,k,t,1,ρ 2⟩] (ρ 3) (some (.str (wd k) t)) (some (.ref (ρ 4))) ([]++[.int (-1) (ρ 5)]) (ρ 6) ([]++[]) (ρ 7) (enV es) []).mem) ?_ (ZD.mono (ZD.frame [ZY ⟨ρ 1,k,t,1,ρ 2⟩,(ra,ZB [] er)] (ZD.more z fun p hp=>?_)) ?_)
  ·exact (List.Perm.swap _ _ _ |>.cons _).trans (List.Perm.swap _ _ _)
  ·rcases List.mem_append.mp hp with h | h
   ·exact List.mem_append.mpr (.inr (List.mem_append.mpr (.inl h)))
   ·cases h with
    | head=>exact .head _
    | tail _ h=>cases h
  ·rintro r M' ⟨M₁,rfl,h⟩
   exact ⟨⟨ρ 1,k,t,1,ρ 2⟩,M₁,_,rfl,rfl,⟨_,rfl⟩,rfl,h⟩
 ·rintro r M' ⟨p0,M₁,v,rfl,h1,⟨t0,rfl⟩,rfl,R',nw,l,m,ρ,rfl,hr,hf,hm,hR,rfl⟩
  refine ⟨(ZY p0::nw.map ZY)++((ρ 0,ZB (ZH R') (ρ 1))::(ra,ZB [] er)::(FE L R' (([]++[.int (-1) t0])++l) (([]++[])++m) (enV es) ρ).tail),?_,⟨fun | 0=>.int (-1) t0::l | 1=>m | _=>ZH R',fun _=>[],fun _=>ZY p0::nw.map ZY⟩,⟨R',rfl,?_,?_,?_,?_⟩,ρ,rfl,?_,rfl⟩
  ·show (ZY p0::(ra,ZB [] er)::(nw.map ZY++((ρ 0,ZB (ZH R') (ρ 1))::_))).Perm (ZY p0::(nw.map ZY++((ρ 0,ZB (ZH R') (ρ 1))::(ra,ZB [] er)::_)))
   refine List.Perm.cons _ ?_
   have x:∀ (N:ZA) (a c:Addr × Obj) (T:ZA),(a::(N++c::T)).Perm (N++c::a::T):=fun N a c T=>by
    have y:=(List.perm_middle (a:=a) (l₁:=N++[c]) (l₂:=T)).symm
    simpa using y
   exact x _ _ _ _
  ·show _=rOf cap ((Zj [] p0.k).take cap) ks
   rw [e0,List.take_of_length_le (by show 1≤cap; exact hcap.1)]
   exact hr
  ·refine ⟨⟨t0,rfl⟩,?_⟩
   rw [e0,List.take_of_length_le (by show 1≤cap; exact hcap.1)]
   exact hf
  ·show Wds (((Zj [] p0.k).drop cap).map (·.1)++_) m
   rw [e0,List.drop_eq_nil_of_le (by show 1≤cap; exact hcap.1),List.take_of_length_le (by show 1≤cap; exact hcap.1)]
   exact hm
  ·refine hR.up fun p hp=>?_
   rcases List.mem_append.mp hp with h | h
   ·exact .tail _ h
   ·cases h with
    | head=>exact .head _
    | tail _ h=>cases h
  ·rfl
 ·intro p hp
  rw [List.append_nil] at hp
  exact List.mem_append.mpr (.inl hp)
end
section
open PySem PySem.W PySem PySem.W
theorem Oj:∀ (es:List (Nat × Nat)) (j:Nat) (n:Int),((es.map (·.1)).map Int.ofNat)[j]?=some n→∃ t,(enV es)[j]?=some (.int n t)
 | [],_,_,h=>by simp at h
 | e::es,0,n,h=>⟨e.2,by
  have q:Int.ofNat e.1=n:=Option.some.inj h
  subst q
  rfl⟩
 | e::es,j + 1,n,h=>Oj es j n h
theorem VV (w:World) (b:Bool) (RO:ZA) (l:Nat) (es:List (Nat × Nat)) (ep T:Nat) (hT:(es.map (·.1)).sum=T) (hb:T < 1000000000000000000):(WC l (enV es) ep (Int.ofNat T)).ok (wf w b) RO 940:=
 KD w b RO l _ ep _ ((es.map (·.1)).map Int.ofNat) (fun x hx=>by
  obtain ⟨n,_,rfl⟩:=List.mem_map.mp hx
  exact Int.natCast_nonneg n) (by rw [Uv,hT]) (by show (T:Int) < _; omega) (Oj es) (by
  rw [List.length_map,List.length_map]
  exact List.getElem?_eq_none_iff.mpr (by unfold enV; rw [List.length_map]; exact Nat.le_refl _))
theorem Ok (cap:Nat):∀ (ks:List Nat) (R:Row),R.length≤cap→(rOf cap R ks).length≤cap
 | [],_,h=>h
 | k::ks,R,_=>Ok cap ks _ (by rw [List.length_take]; exact Nat.min_le_left _ _)
theorem W4 {cap:Nat} {ends ks:List Nat} {x:LX} (h:XX cap ends ks x) (hc:cap≤6):(x.vals 2).length≤1000:=by
 obtain ⟨R',e,hr,_⟩:=h
 have:=congrArg List.length hr
 rw [List.length_map] at this
 have:=Ok cap ks [] (Nat.zero_le _)
 rw [e,Zv]
 omega
theorem Ol (vs:List Value) (a b:Nat):slicePick ⟨vs⟩ (some (Int.ofNat a)) (some (Int.ofNat b)) none=⟨(vs.take b).drop a⟩:=by
 rw [slicePick_plain]
 show ((vs.drop (clipAt vs.length (a:Int))).take (clipAt vs.length (b:Int) - clipAt vs.length (a:Int))).toArray=_
 rw [clipAt_nat,clipAt_nat,List.drop_take]
 congr 1
 by_cases ha:a≤vs.length
 ·rw [Nat.min_eq_left ha]
  by_cases hb:b≤vs.length
  ·rw [Nat.min_eq_left hb]
  ·rw [Nat.min_eq_right (by omega),List.take_of_length_le (by rw [List.length_drop]; exact Nat.le_refl _),List.take_of_length_le (by rw [List.length_drop]; omega)]
 ·rw [show min a vs.length=vs.length by omega,List.drop_eq_nil_of_le (Nat.le_refl _),List.drop_eq_nil_of_le (by omega),List.take_nil,List.take_nil]
theorem V5 (vs:List Value) (a b:Nat):slicePick ⟨vs⟩ (some (Int.ofNat (a + b) - Int.ofNat b)) (some (Int.ofNat (a + b))) none=⟨(vs.take (a + b)).drop a⟩:=by
 have e:Int.ofNat (a + b) - Int.ofNat b=Int.ofNat a:=by
  show ((a + b:Nat):Int) - (b:Int)=(a:Int)
  omega
 rw [e]
 exact Ol vs a (a + b)
theorem Tl (vs:List Value) (b:Nat):slicePick ⟨vs⟩ (some (Int.ofNat b - Int.ofNat b)) (some (Int.ofNat b)) none=⟨vs.take b⟩:=by
 have e:Int.ofNat b - Int.ofNat b=Int.ofNat 0:=by
  show (b:Int) - (b:Int)=((0:Nat):Int)
  omega
 rw [e]
 exact Ol vs 0 b
noncomputable def Wg (ask:Nat) (ws:List Value) (ae sz r1 r2 u1 u2 se:Nat) (x:LX):Con:=
 {code:=.call (.ref 315) ⟨[.ref ask,.ref sz],[]⟩,mem:=[(ask,ZB ws ae),(sz,ZB (enV [(r1,u1),(r2,u2)]) se)],r:=fun ρ=>.ok (.ret (.ref (ρ 0))),
  upd:=fun _=>[ZB ws ae,ZB (enV [(r1,u1),(r2,u2)]) se],newR:=fun _=>x.cells 0++[],
  new:=fun ρ=>[(ρ 0,ZS [.ref (ρ 1),.ref (ρ 2),.ref (ρ 3)]),(ρ 5,ZB (((x.vals 2).take (r1 + r2)).drop r1) 0),(ρ 4,ZB ((x.vals 2).take r1) 0),(ρ 2,ZB [.ref (ρ 4),.ref (ρ 5)] (ρ 9)),(ρ 3,ZB (x.vals 1) (ρ 7)),(ρ 1,ZB (x.vals 0) (ρ 8))] }
noncomputable def Wh (ask:Nat) (ws:List Value) (ae sz r1 r2 r3 u1 u2 u3 se:Nat) (x:LX):Con:=
 {code:=.call (.ref 315) ⟨[.ref ask,.ref sz],[]⟩,mem:=[(ask,ZB ws ae),(sz,ZB (enV [(r1,u1),(r2,u2),(r3,u3)]) se)],r:=fun ρ=>.ok (.ret (.ref (ρ 0))),
  upd:=fun _=>[ZB ws ae,ZB (enV [(r1,u1),(r2,u2),(r3,u3)]) se],newR:=fun _=>x.cells 0++[],
  new:=fun ρ=>[(ρ 0,ZS [.ref (ρ 1),.ref (ρ 2),.ref (ρ 3)]),(ρ 6,ZB (((x.vals 2).take (r1 + r2 + r3)).drop (r1 + r2)) 0),(ρ 5,ZB (((x.vals 2).take (r1 + r2)).drop r1) 0),(ρ 4,ZB ((x.vals 2).take r1) 0),(ρ 2,ZB [.ref (ρ 4),.ref (ρ 5),.ref (ρ 6)] (ρ 9)),(ρ 3,ZB (x.vals 1) (ρ 7)),(ρ 1,ZB (x.vals 0) (ρ 8))] }
end
section
open PySem PySem.W
noncomputable def Kc (w:World) (b:Bool) (RO:ZA) (ask sz ae r1 r2 u1 u2 se k:Nat) (ks:List Nat) (ws:List PySem.Value) (hw:Wl ws 0 (k::ks)) (hk:∀ k'∈k::ks,k' < 12) (hj:ks.length + 1≤12) (h1:1≤r1) (h6:(r1 + r2)≤6):CE (wf w b) RO []:=
 .l 415 (.a fun a0=>.a fun a1=>.a fun a2=>.a fun a3=>.a fun a4=>.t fun t0=>.l 90010099310020070004010101040101010410041005 (.a fun a6=>.l 1 (.a fun a7=>.l 99 (.c 2 (Yg w b _ a6 #[(.int 0 0),(.int 2 0),(.int 1 0)]) (.l 1240013012009911000001000801010104100111008003 (.a fun a10=>.k (WC a10 (enV [(r1,u1)]) 0 (Int.ofNat r1)) [0] (VV w b _ _ _ _ _ (by simp) (by omega)) fun ρ0=>.l 14400130140099110000030010010101041003110080053004 (.a fun a12=>.k (WC a12 (enV [(r1,u1),(r2,u2)]) 0 (Int.ofNat (r1 + r2))) [0] (VV w b _ _ _ _ _ (by simp) (by omega)) fun ρ1=>.l 1109940073006 (.t fun t13=>.l 20071015 (.a fun a15=>.a fun a16=>.a fun a17=>.l 102000011099100100025001000250010002500100024001009930010099 (.t fun t14=>.l 1022 (.t fun t15=>.l 20232022 (.a fun a22=>.l 1 (.y [7,0,18,19,20,6,5,15] [23,22] [(ask,⟨(.type "list"),none,(.seq ⟨ws⟩ ae),#[]⟩),(a0,⟨(.type "frame"),none,(.dict #[ent w ⟨#[97,115,107,101,100]⟩ t0 (.ref ask),ent w ⟨#[101,110,100,115]⟩ t13 (.ref a7),ent w ⟨#[102,111,117,110,100,115]⟩ t14 (.ref a16),ent w ⟨#[108,111,115,116]⟩ t15 (.ref a17)] 4),#[]⟩)] (XX (r1 + r2) [r1,r1 + r2] (k::ks)) (fun χ0=>Rl w ⟨a22,a0,a1,a2,a3,a4,ask,a7,a16,a17,ae,2⟩ a15 0 0 0 [(r1,ρ0 0),(r1 + r2,ρ1 0)] χ0) _ _ (So w b _ ⟨a22,a0,a1,a2,a3,a4,ask,a7,a16,a17,ae,2⟩ (rl [t0,t13,t14,t15]) ws [(r1,ρ0 0),(r1 + r2,ρ1 0)] (r1 + r2) (ρ1 0) (List.cons_ne_nil _ _) (by show 2≤1000; decide) rfl ⟨by omega,h6⟩ k ks a15 0 0 0 hw hk hj) (fun _=>rfl) fun χ0 hχ0 ρ2=>.l 10099202700010099201700230024010101040024 (.a fun a25=>.a fun a26=>.a fun a27=>.l 7001 (.a fun a28=>.l 99 (.c 2 (Va w b _ a27 #[.none,(.bool false),(.bool false),(.ref a25),(.ref a26)]) (.l 40041006003330063004100700243007300300053003 (.a fun a30=>.l 4004 (.s 3 (ZE a30 (.type "zip") none [(.bool false),(.bool false),(.ref a25),(.ref a26)] #[]) (.l 10050033100501001005010000011099100100025001000250010002400100993001 (.t fun t18=>.l 5 (.a fun a34=>.l 2013 (.k (Yw (ρ2 0) a34 (χ0.vals 2) (ρ2 1) (.int (Int.ofNat r1 - Int.ofNat r1) t18) (.int (Int.ofNat r1) (ρ0 0)) .none ((χ0.vals 2).take r1)) [12,0] (XE w b _ _ _ _ _ _ _ _ (some _) (some _) none _ (.int _ _) (.int _ _) .none (by decide) (W4 hχ0 h6) (Tl _ _)) fun ρ3=>.l 401010120039301230101013003030133009001130093008 (.a fun a35=>.l 4010 (.s 9 (ZE a35 (.type "zip") none [(.bool false),(.bool false),(.ref a25),(.ref a26)] #[]) (.l 10110039101101001011010000011099100100025001000250010002400100993001 (.t fun t21=>.l 11 (.a fun a39=>.l 2019 (.k (Yw (ρ2 0) a39 (χ0.vals 2) (ρ2 1) (.int (Int.ofNat (r1 + r2) - Int.ofNat r2) t21) (.int (Int.ofNat (r1 + r2)) (ρ1 0)) .none (((χ0.vals 2).take (r1 + r2)).drop r1)) [18,0] (XE w b _ _ _ _ _ _ _ _ (some _) (some _) none _ (.int _ _) (.int _ _) .none (by decide) (W4 hχ0 h6) (V5 _ _ _)) fun ρ4=>.l 4550150001101710991019003630193015001730153014 (.a fun a42=>.f [1,2,1,8,1,10,1,20,3,30] (⟨χ0,hχ0,(Wg ask ws ae sz r1 r2 u1 u2 se χ0).post_of (rl [a42,a16,a28,a17,ρ3 0,ρ4 0,0,ρ2 7,ρ2 6,2]) rfl⟩:(fun r M'=>∃ x,XX (r1 + r2) [r1,r1 + r2] (k::ks) x∧(Wg ask ws ae sz r1 r2 u1 u2 se x).post r M') (((Wg ask ws ae sz r1 r2 u1 u2 se χ0)).r (rl [a42,a16,a28,a17,ρ3 0,ρ4 0,0,ρ2 7,ρ2 6,2])) (((Wg ask ws ae sz r1 r2 u1 u2 se χ0)).out (rl [a42,a16,a28,a17,ρ3 0,ρ4 0,0,ρ2 7,ρ2 6,2])))))))))))))))))))))))))))))))))
theorem Hy (w:World) (b:Bool) (RO:ZA) (ask sz ae r1 r2 u1 u2 se k:Nat) (ks:List Nat) (ws:List PySem.Value) (hw:Wl ws 0 (k::ks)) (hk:∀ k'∈k::ks,k' < 12) (hj:ks.length + 1≤12) (h1:1≤r1) (h6:(r1 + r2)≤6):ZD (wf w b) RO 410 (Wg ask ws ae sz r1 r2 u1 u2 se dLX).code (Wg ask ws ae sz r1 r2 u1 u2 se dLX).mem (fun r M'=>∃ x,XX (r1 + r2) [r1,r1 + r2] (k::ks) x∧(Wg ask ws ae sz r1 r2 u1 u2 se x).post r M'):=
 cL (fd315 _) (Kc w b RO ask sz ae r1 r2 u1 u2 se k ks ws hw hk hj h1 h6) (by cases b<;>kernel_rfl)
noncomputable def Kd (w:World) (b:Bool) (RO:ZA) (ask sz ae r1 r2 r3 u1 u2 u3 se k:Nat) (ks:List Nat) (ws:List PySem.Value) (hw:Wl ws 0 (k::ks)) (hk:∀ k'∈k::ks,k' < 12) (hj:ks.length + 1≤12) (h1:1≤r1) (h6:(r1 + r2 + r3)≤6):CE (wf w b) RO []:=
 .l 415 (.a fun a0=>.a fun a1=>.a fun a2=>.a fun a3=>.a fun a4=>.t fun t0=>.l 90010099310020070004010101040101010410041005 (.a fun a6=>.l 1 (.a fun a7=>.l 99 (.c 2 (Yg w b _ a6 #[(.int 0 0),(.int 3 0),(.int 1 0)]) (.l 1240013012009911000001000801010104100111008003 (.a fun a10=>.k (WC a10 (enV [(r1,u1)]) 0 (Int.ofNat r1)) [0] (VV w b _ _ _ _ _ (by simp) (by omega)) fun ρ0=>.l 14400130140099110000030010010101041003110080053004 (.a fun a12=>.k (WC a12 (enV [(r1,u1),(r2,u2)]) 0 (Int.ofNat (r1 + r2))) [0] (VV w b _ _ _ _ _ (by simp) (by omega)) fun ρ1=>.l 16400130160099110000050012010101041005110080073006 (.a fun a14=>.k (WC a14 (enV [(r1,u1),(r2,u2),(r3,u3)]) 0 (Int.ofNat (r1 + r2 + r3))) [0] (VV w b _ _ _ _ _ (by simp [Nat.add_assoc]) (by omega)) fun ρ2=>.l 1109940093008 (.t fun t17=>.l 20091017 (.a fun a17=>.a fun a18=>.a fun a19=>.l 102200011099100100025001000250010002500100024001009930010099 (.t fun t18=>.l 1024 (.t fun t19=>.l 20252024 (.a fun a24=>.l 1 (.y [7,0,20,21,22,6,5,17] [25,24] [(ask,⟨(.type "list"),none,(.seq ⟨ws⟩ ae),#[]⟩),(a0,⟨(.type "frame"),none,(.dict #[ent w ⟨#[97,115,107,101,100]⟩ t0 (.ref ask),ent w ⟨#[101,110,100,115]⟩ t17 (.ref a7),ent w ⟨#[102,111,117,110,100,115]⟩ t18 (.ref a18),ent w ⟨#[108,111,115,116]⟩ t19 (.ref a19)] 4),#[]⟩)] (XX (r1 + r2 + r3) [r1,r1 + r2,r1 + r2 + r3] (k::ks)) (fun χ0=>Rl w ⟨a24,a0,a1,a2,a3,a4,ask,a7,a18,a19,ae,3⟩ a17 0 0 0 [(r1,ρ0 0),(r1 + r2,ρ1 0),(r1 + r2 + r3,ρ2 0)] χ0) _ _ (So w b _ ⟨a24,a0,a1,a2,a3,a4,ask,a7,a18,a19,ae,3⟩ (rl [t0,t17,t18,t19]) ws [(r1,ρ0 0),(r1 + r2,ρ1 0),(r1 + r2 + r3,ρ2 0)] (r1 + r2 + r3) (ρ2 0) (List.cons_ne_nil _ _) (by show 3≤1000; decide) rfl ⟨by omega,h6⟩ k ks a17 0 0 0 hw hk hj) (fun _=>rfl) fun χ0 hχ0 ρ3=>.l 10099202900010099201900250026010101040026 (.a fun a27=>.a fun a28=>.a fun a29=>.l 7001 (.a fun a30=>.l 99 (.c 2 (Va w b _ a29 #[.none,(.bool false),(.bool false),(.ref a27),(.ref a28)]) (.l 40041006003530063004100700263007300300053003 (.a fun a32=>.l 4004 (.s 3 (ZE a32 (.type "zip") none [(.bool false),(.bool false),(.ref a27),(.ref a28)] #[]) (.l 10050035100501001005010000011099100100025001000250010002400100993001 (.t fun t22=>.l 5 (.a fun a36=>.l 2013 (.k (Yw (ρ3 0) a36 (χ0.vals 2) (ρ3 1) (.int (Int.ofNat r1 - Int.ofNat r1) t22) (.int (Int.ofNat r1) (ρ0 0)) .none ((χ0.vals 2).take r1)) [12,0] (XE w b _ _ _ _ _ _ _ _ (some _) (some _) none _ (.int _ _) (.int _ _) .none (by decide) (W4 hχ0 h6) (Tl _ _)) fun ρ4=>.l 401010120041301230101013003230133009001130093008 (.a fun a37=>.l 4010 (.s 9 (ZE a37 (.type "zip") none [(.bool false),(.bool false),(.ref a27),(.ref a28)] #[]) (.l 10110041101101001011010000011099100100025001000250010002400100993001 (.t fun t25=>.l 11 (.a fun a41=>.l 2019 (.k (Yw (ρ3 0) a41 (χ0.vals 2) (ρ3 1) (.int (Int.ofNat (r1 + r2) - Int.ofNat r2) t25) (.int (Int.ofNat (r1 + r2)) (ρ1 0)) .none (((χ0.vals 2).take (r1 + r2)).drop r1)) [18,0] (XE w b _ _ _ _ _ _ _ _ (some _) (some _) none _ (.int _ _) (.int _ _) .none (by decide) (W4 hχ0 h6) (V5 _ _ _)) fun ρ5=>.l 401610180047301830161019003830193015001730153014 (.a fun a42=>.l 4016 (.s 15 (ZE a42 (.type "zip") none [(.bool false),(.bool false),(.ref a27),(.ref a28)] #[]) (.l 10170047101701001017010000011099100100025001000250010002400100993001 (.t fun t28=>.l 17 (.a fun a46=>.l 2025 (.k (Yw (ρ3 0) a46 (χ0.vals 2) (ρ3 1) (.int (Int.ofNat (r1 + r2 + r3) - Int.ofNat r3) t28) (.int (Int.ofNat (r1 + r2 + r3)) (ρ2 0)) .none (((χ0.vals 2).take (r1 + r2 + r3)).drop (r1 + r2))) [24,0] (XE w b _ _ _ _ _ _ _ _ (some _) (some _) none _ (.int _ _) (.int _ _) .none (by decide) (W4 hχ0 h6) (V5 _ _ _)) fun ρ6=>.l 5350210001102310991025004430253021002330213020 (.a fun a49=>.f [1,2,1,8,1,8,1,10,1,20,3,34] (⟨χ0,hχ0,(Wh ask ws ae sz r1 r2 r3 u1 u2 u3 se χ0).post_of (rl [a49,a18,a30,a19,ρ4 0,ρ5 0,ρ6 0,ρ3 7,ρ3 6,3]) rfl⟩:(fun r M'=>∃ x,XX (r1 + r2 + r3) [r1,r1 + r2,r1 + r2 + r3] (k::ks) x∧(Wh ask ws ae sz r1 r2 r3 u1 u2 u3 se x).post r M') (((Wh ask ws ae sz r1 r2 r3 u1 u2 u3 se χ0)).r (rl [a49,a18,a30,a19,ρ4 0,ρ5 0,ρ6 0,ρ3 7,ρ3 6,3])) (((Wh ask ws ae sz r1 r2 r3 u1 u2 u3 se χ0)).out (rl [a49,a18,a30,a19,ρ4 0,ρ5 0,ρ6 0,ρ3 7,ρ3 6,3]))))))))))))))))))))))))))))))))))))))))
theorem Hz (w:World) (b:Bool) (RO:ZA) (ask sz ae r1 r2 r3 u1 u2 u3 se k:Nat) (ks:List Nat) (ws:List PySem.Value) (hw:Wl ws 0 (k::ks)) (hk:∀ k'∈k::ks,k' < 12) (hj:ks.length + 1≤12) (h1:1≤r1) (h6:(r1 + r2 + r3)≤6):ZD (wf w b) RO 410 (Wh ask ws ae sz r1 r2 r3 u1 u2 u3 se dLX).code (Wh ask ws ae sz r1 r2 r3 u1 u2 u3 se dLX).mem (fun r M'=>∃ x,XX (r1 + r2 + r3) [r1,r1 + r2,r1 + r2 + r3] (k::ks) x∧(Wh ask ws ae sz r1 r2 r3 u1 u2 u3 se x).post r M'):=
 cL (fd315 _) (Kd w b RO ask sz ae r1 r2 r3 u1 u2 u3 se k ks ws hw hk hj h1 h6) (by cases b<;>kernel_rfl)
end
section
open PySem PySem.W PySem.W.X PySem.Calls PyProof.Rows PySem.Spec PySem PySem.W PySem.W.X PySem.Calls PyProof.Rows PySem.Spec
noncomputable def UK (l:Nat) (v:Value) (vs:List Value) (ep t:Nat):Con:=
 {code:=.builtin "list.pop" ⟨[.ref l,.int 0 t],[]⟩,mem:=[(l,ZB (v::vs) ep)],r:=fun _=>.ok (.ret v),upd:=fun ρ=>[ZB vs (ρ 0)],new:=fun _=>[] }
noncomputable def Ke (l:Nat) (v:Value) (vs:List Value) (ep t:Nat):Con:={ UK l v vs ep t with code:=.call (.builtin "list.pop") ⟨[.ref l,.int 0 t],[]⟩ }
theorem H4 (w:World) (b:Bool) (RO:ZA) (l:Nat) (v:Value) (vs:List Value) (ep t:Nat) (hz:vs.length + 1≤1000):(UK l v vs ep t).ok (wf w b) RO 975:=by
 refine ZD.of_meets rfl PySem.F.entry_list_pop (PySem.MeetsSeq.list_pop_at l ⟨v::vs⟩ ep 0 t 0 v (by decide) (by simp [seqIndex?]) (by simp) (big hz)) ?_
 intro h g d t0 os R ht hM hR
 refine ⟨hM.at_ _ (.head _),?_⟩
 have f1:(Obj.mapSeq (fun xs=>xs.eraseIdxIfInBounds 0) (ZB (v::vs) ep)).isFreed=false:=rfl
 have h1:=hM.update (i:=0) (f:=Obj.mapSeq fun xs=>xs.eraseIdxIfInBounds 0) rfl f1
 have e1:=(Ext.refl (UK l v vs ep t).mem h).update hM (i:=0) (f:=Obj.mapSeq fun xs=>xs.eraseIdxIfInBounds 0) rfl
 have e:(Array.eraseIdxIfInBounds ⟨v::vs⟩ 0).toList=vs:=by simp [Array.eraseIdxIfInBounds]
 refine hR _ _ _ _ _ ht ⟨rl [if (Array.eraseIdxIfInBounds ⟨v::vs⟩ 0).size == (⟨v::vs⟩:Array Value).size then ep else ep + 1],rfl,?_,rfl⟩ h1 e1 (fun x=>x)
 show [(l,Obj.mapSeq (fun xs=>xs.eraseIdxIfInBounds 0) (ZB (v::vs) ep))]=_
 rw [WW,e]
 rfl
noncomputable def rgO (i n:Int):Obj:=⟨.type "range_iterator",none,.fields #[.int i 0,.int n 0,.int 1 0],#[]⟩
noncomputable def Tm (it:Nat) (i n:Nat):Con:=
 {code:=.builtin "range_iterator.__next__" ⟨[.ref it],[]⟩,mem:=[(it,rgO (Int.ofNat i) (Int.ofNat (n + 1)))],r:=fun ρ=>.ok (.ret (.int (Int.ofNat i) (ρ 0))),upd:=fun _=>[rgO (Int.ofNat (i + 1)) (Int.ofNat n)],new:=fun _=>[] }
noncomputable def Tn (it:Nat) (i n:Nat):Con:={ Tm it i n with code:=.call (.builtin "range_iterator.__next__") ⟨[.ref it],[]⟩ }
theorem FF (w:World) (b:Bool) (RO:ZA) (it i n:Nat):(Tm it i n).ok (wf w b) RO 975:=by
 have hn:¬ (Int.ofNat (n + 1)≤0):=by
  show ¬ (((n + 1:Nat):Int)≤0)
  omega
 refine ZD.of_meets rfl PySem.F.entry_range_iterator_next (PySem.AutoRange.range_iterator___next___range_iterator_1 it (Int.ofNat i) (Int.ofNat (n + 1)) 1 hn) ?_
 intro h g d t os R ht hM hR
 refine ⟨hM.at_ _ (.head _),?_⟩
 have h1:=hM.update (i:=0) (f:=Obj.mapFields (·.setIfInBounds 0 (rawInt (Int.ofNat i + 1)))) rfl rfl
 have e1:=(Ext.refl (Tm it i n).mem h).update hM (i:=0) (f:=Obj.mapFields (·.setIfInBounds 0 (rawInt (Int.ofNat i + 1)))) rfl
 have h2:=h1.update (i:=0) (f:=Obj.mapFields (·.setIfInBounds 1 (rawInt (Int.ofNat (n + 1) - 1)))) rfl rfl
 have e2:=e1.update h1 (i:=0) (f:=Obj.mapFields (·.setIfInBounds 1 (rawInt (Int.ofNat (n + 1) - 1)))) rfl
 refine hR _ _ _ _ _ (Nat.succ_pos t) ⟨rl [t],rfl,?_,rfl⟩ h2 e2 (fun x=>x)
 have e:Int.ofNat (n + 1) - 1=Int.ofNat n:=by
  show ((n + 1:Nat):Int) - 1=(n:Int)
  omega
 rw [e]
 rfl
noncomputable def Kf (n:Int) (t u v:Nat):Obj:=⟨.type "range",none,.fields #[.int 0 t,.int n u,.int 1 v],#[]⟩
noncomputable def To (r n t u v:Nat):Con:=
 {code:=.builtin "range.__iter__" ⟨[.ref r],[]⟩,mem:=[(r,Kf (Int.ofNat n) t u v)],r:=fun ρ=>.ok (.ret (.ref (ρ 0))),upd:=fun _=>[Kf (Int.ofNat n) t u v],new:=fun ρ=>[(ρ 0,rgO 0 (Int.ofNat n))] }
noncomputable def Mf (r n t u v:Nat):Con:={ To r n t u v with code:=.call (.builtin "range.__iter__") ⟨[.ref r],[]⟩ }
noncomputable def Mg (n:Int):Bool:=(Builtin.Range.rangeFitsLong 0 && Builtin.Range.rangeFitsLong n && Builtin.Range.rangeFitsLong 1 && Builtin.Range.rangeFitsLong (Builtin.Range.rangeSize 0 n 1) && (Builtin.Range.rangeSize 0 n 1 == 0 || if (1:Int) > 0 then Builtin.Range.rangeFitsLong (n + (1 - 1)) else Builtin.Range.rangeFitsLong (n + (1 + 1))))
theorem FG:∀ n,n < 14→Mg (Int.ofNat n)=true∧Builtin.Range.rangeSize 0 (Int.ofNat n) 1=Int.ofNat n:=by decide
theorem FH (w:World) (b:Bool) (RO:ZA) (r n t u v:Nat) (hn:n < 14):(To r n t u v).ok (wf w b) RO 975:=by
 obtain ⟨hf,hs⟩:=FG n hn
 refine ZD.of_meets rfl PySem.F.entry_range_iter (PySem.AutoRange.range___iter___range_1 r 0 (Int.ofNat n) 1 t u v (by
  intro h
  have h':(!Mg (Int.ofNat n))=true:=h
  rw [hf] at h'
  cases h')) ?_
 intro h g d t0 os R ht hM hR
 refine ⟨hM.at_ _ (.head _),?_⟩
 have e:(⟨Value.type (if Mg (Int.ofNat n)=true then "range_iterator" else "longrange_iterator"),none,Data.fields #[rawInt 0,rawInt (Builtin.Range.rangeSize 0 (Int.ofNat n) 1),rawInt 1],#[]⟩:Obj)=rgO 0 (Int.ofNat n):=by
  rw [hf,hs,if_pos rfl]
  rfl
 have h1:=hM.alloc (o:=rgO 0 (Int.ofNat n)) rfl
 have e1:=(Ext.refl (To r n t u v).mem h).alloc (rgO 0 (Int.ofNat n))
 have z:=hR _ _ _ g t0 ht ⟨rl [h.objs.size],rfl,rfl,rfl⟩ h1 e1 (fun x=>x)
 rw [← e] at z
 exact z
end
section
open PySem PySem.W
theorem FI (w:World) (b:Bool) (RO:ZA) (l:Nat) (v:PySem.Value) (vs:List PySem.Value) (ep t:Nat) (hz:vs.length + 1≤1000):(Ke l v vs ep t).ok (wf w b) RO 965:=
 cR (.l 1 (.i (UK l v vs ep t) [0] (H4 w b _ _ _ _ _ _ hz) [] (fun ρ0=>(rl [ρ0 0])))) (by kernel_rfl)
theorem Rm (w:World) (b:Bool) (RO:ZA) (it i n:Nat):(Tn it i n).ok (wf w b) RO 965:=
 cR (.l 1 (.i (Tm it i n) [0] (FF w b _ _ _ _) [] (fun ρ0=>(rl [ρ0 0])))) (by kernel_rfl)
theorem Iv (w:World) (b:Bool) (RO:ZA) (r n t u v:Nat) (hn:n < 14):(Mf r n t u v).ok (wf w b) RO 965:=
 cR (.l 1 (.i (To r n t u v) [0] (FH w b _ _ _ _ _ _ hn) [] (fun ρ0=>(rl [ρ0 0])))) (by kernel_rfl)
theorem Kg (w:World) (b:Bool) (RO:ZA) (li ld lp:Nat) (x:Lk) (ln:Int) (lt:Nat) (vs:List PySem.Value) (ep:Nat) (s:PySem.Str) (st:Nat) (hz:vs.length + 1≤1000):(({ code:=.call (.ref 108) ⟨[.ref li],[]⟩,mem:=WO w li ld lp x ln lt (.str s st::vs) ep,r:=fun _=>.ok (.ret (.str s st)),upd:=fun ρ=>(WO w li ld lp x ln lt vs (ρ 0)).map (·.2),new:=fun _=>[] }:Mine.Con)).ok (wf w b) RO 700:=
 cB (fd108 _) (.l 100400030219100202181219000202181219000201002001010000990208 (.k (UC lp (.str s st::vs) ep) [3] (OV w b _ _ _ _ hz) fun ρ0=>.l 300400030219100202181219000202181219000201000001 (.t fun t3=>.k (Ke lp (.str s st) vs ep t3) [3] (FI w b _ _ _ _ _ _ hz) fun ρ1=>.z [0] (rl [ρ1 0])))) (by kernel_rfl)
end
section
open PySem PySem.W PySem.W.X PySem.Calls PyProof.Rows PySem.Spec
structure LL where
 (f it acc a0 a1 a2 a3:Nat)
noncomputable def XI (w:World) (L:LL):Code:=Ti (SW w.params 12) (YR w.params L.a0 L.a1 L.a2 L.a3) L.it L.acc L.f
noncomputable def XJ (w:World) (t:Nat) (v:Value):DictEntry:=ent w ⟨#[116,117,114,110]⟩ t v
noncomputable def QX (w:World) (L:LL) (fd:Obj) (as:List Value) (ea:Nat) (ito:Obj) (z:Nat→Nat) (ln:Int) (lt:Nat) (vs:List Value) (ep:Nat) (gs:List Value) (eg:Nat):ZA:=
 (L.f,fd)::(L.acc,ZB as ea)::(L.it,ito)::(L.a2,Zn (some (.ref (z 30))))::Wj w z ln lt vs ep gs eg
noncomputable def XY (w:World) (L:LL) (fd:Obj) (as:List Value) (ea:Nat) (ito:Obj) (z:Nat→Nat) (ln:Int) (lt:Nat) (vs:List Value) (ep:Nat) (gs:List Value) (eg:Nat):Con:=
 {code:=XI w L,mem:=QX w L fd as ea ito z ln lt vs ep gs eg,r:=fun _=>.ok .next,upd:=fun _=>[],new:=fun _=>[] }
noncomputable def Kh (w:World) (z:Nat→Nat) (ln:Int) (lt:Nat) (vs:List Value) (ep:Nat) (s:Str) (st:Nat):Con:=
 {code:=.call (.ref 108) ⟨[.ref (z 30)],[]⟩,mem:=WO w (z 30) (z 31) (z 32) (Ua z) ln lt (.str s st::vs) ep,r:=fun _=>.ok (.ret (.str s st)),upd:=fun ρ=>(WO w (z 30) (z 31) (z 32) (Ua z) ln lt vs (ρ 0)).map (·.2),new:=fun _=>[] }
noncomputable def Fp (w:World) (L:LL) (fd:Obj) (as:List Value) (ea i:Nat) (z:Nat→Nat) (ln:Int) (lt:Nat) (vs:List Value) (ep:Nat) (gs:List Value) (eg:Nat):Con:=
 {XY w L fd as ea (rgO (Int.ofNat i) 0) z ln lt vs ep gs eg with upd:=fun _=>(QX w L fd as ea (rgO (Int.ofNat i) 0) z ln lt vs ep gs eg).map (·.2) }
end
section
open PySem PySem.W
noncomputable def Ki (w:World) (b:Bool) (RO:ZA) (L:LL) (z:Nat→Nat) (T:PySem.Str) (tx:Nat) (ln:Int) (as gs vs:List PySem.Value) (lt ea ep eg i n st:Nat) (s:PySem.Str) (hz:as.length≤1000) (hv:vs.length + 1≤1000) (F:PySem.Result→ZA→Prop)
 (H:∀ ρ:Nat→Nat,ZD (wf w b) (ZL w T tx z++RO) 410 (XI w L) (XY w L (ZI [XJ w (ρ 0) (.int (Int.ofNat i) (ρ 1))] (ρ 2)) (as++[.str s st]) (ρ 3) (rgO (Int.ofNat (i + 1)) (Int.ofNat n)) z ln lt vs (ρ 4) gs eg).mem F):CE (wf w b) (ZL w T tx z++RO) []:=
 .l 3 (.k (Tn L.it i n) [2] (Rm w b _ _ _ _) fun ρ0=>.t fun t0=>.l 20900060005020902181219000502181219000502181219000500041001 (.k (Kh w z ln lt vs ep s st) [4,5,6] (Kg w b _ _ _ _ _ _ _ _ _ _ _ hv) fun ρ1=>.k (Z6 L.acc as ea (.str s st)) [1] (YC w b _ _ _ _ _ hz) fun ρ2=>.e [] (H (rl [t0,ρ0 0,1,ρ2 0,ρ1 0]))))
theorem H5 (w:World) (b:Bool) (RO:ZA) (L:LL) (z:Nat→Nat) (T:PySem.Str) (tx:Nat) (ln:Int) (as gs vs:List PySem.Value) (lt ea ep eg i n st:Nat) (s:PySem.Str) (hz:as.length≤1000) (hv:vs.length + 1≤1000) (F:PySem.Result→ZA→Prop)
 (H:∀ ρ:Nat→Nat,ZD (wf w b) (ZL w T tx z++RO) 410 (XI w L) (XY w L (ZI [XJ w (ρ 0) (.int (Int.ofNat i) (ρ 1))] (ρ 2)) (as++[.str s st]) (ρ 3) (rgO (Int.ofNat (i + 1)) (Int.ofNat n)) z ln lt vs (ρ 4) gs eg).mem F):ZD (wf w b) (ZL w T tx z++RO) 410 (XI w L) (XY w L (ZI [] 0) as ea (rgO (Int.ofNat i) (Int.ofNat (n + 1))) z ln lt (.str s st::vs) ep gs eg).mem F:=
 cK (Ki w b RO L z T tx ln as gs vs lt ea ep eg i n st s hz hv F H) (by cases b<;>kernel_rfl)
noncomputable def Kj (w:World) (b:Bool) (RO:ZA) (L:LL) (z:Nat→Nat) (T:PySem.Str) (tx:Nat) (ln:Int) (as gs vs:List PySem.Value) (lt ea ep eg i n st:Nat) (s:PySem.Str) (hz:as.length≤1000) (hr:Rem T ⟨ln,lt,ep,gs,eg⟩ []) (F:PySem.Result→ZA→Prop)
 (H:∀ ρ:Nat→Nat,ZD (wf w b) (ZL w T tx z++RO) 410 (XI w L) (XY w L (ZI [XJ w (ρ 0) (.int (Int.ofNat i) (ρ 1))] (ρ 2)) (as++[.str ⟨#[]⟩ (ρ 5)]) (ρ 3) (rgO (Int.ofNat (i + 1)) (Int.ofNat n)) z ln lt [] ep gs (ρ 4)).mem F):CE (wf w b) (ZL w T tx z++RO) []:=
 .l 3 (.k (Tn L.it i n) [2] (Rm w b _ _ _ _) fun ρ0=>.t fun t0=>.l 20900060005020902181219000502181219000502181219000500041001 (.k (Zk w z ⟨ln,lt,ep,gs,eg⟩ (chE false) ⟨#[]⟩ false) [4,5,6,7] (QJ w b _ T tx z _ false hr (fun p hp=>sb _ (List.mem_append.mpr (.inl hp)))) fun ρ1=>.k (Z6 L.acc as ea (.str ⟨#[]⟩ (ρ1 0))) [1] (YC w b _ _ _ _ _ hz) fun ρ2=>.e [] (H (rl [t0,ρ0 0,1,ρ2 0,ρ1 2,ρ1 0]))))
theorem H6 (w:World) (b:Bool) (RO:ZA) (L:LL) (z:Nat→Nat) (T:PySem.Str) (tx:Nat) (ln:Int) (as gs vs:List PySem.Value) (lt ea ep eg i n st:Nat) (s:PySem.Str) (hz:as.length≤1000) (hr:Rem T ⟨ln,lt,ep,gs,eg⟩ []) (F:PySem.Result→ZA→Prop)
 (H:∀ ρ:Nat→Nat,ZD (wf w b) (ZL w T tx z++RO) 410 (XI w L) (XY w L (ZI [XJ w (ρ 0) (.int (Int.ofNat i) (ρ 1))] (ρ 2)) (as++[.str ⟨#[]⟩ (ρ 5)]) (ρ 3) (rgO (Int.ofNat (i + 1)) (Int.ofNat n)) z ln lt [] ep gs (ρ 4)).mem F):ZD (wf w b) (ZL w T tx z++RO) 410 (XI w L) (XY w L (ZI [] 0) as ea (rgO (Int.ofNat i) (Int.ofNat (n + 1))) z ln lt [] ep gs eg).mem F:=
 cK (Kj w b RO L z T tx ln as gs vs lt ea ep eg i n st s hz hr F H) (by cases b<;>kernel_rfl)
noncomputable def Kk (w:World) (b:Bool) (RO:ZA) (L:LL) (z:Nat→Nat) (T:PySem.Str) (tx:Nat) (ln:Int) (as gs vs:List PySem.Value) (lt ea ep eg i n st:Nat) (s:PySem.Str) (v1:PySem.Value) (tv m:Nat) (hz:as.length≤1000) (hv:vs.length + 1≤1000) (F:PySem.Result→ZA→Prop)
 (H:∀ ρ:Nat→Nat,ZD (wf w b) (ZL w T tx z++RO) 410 (XI w L) (XY w L (ZI [XJ w (ρ 0) (.int (Int.ofNat i) (ρ 1))] (ρ 2)) (as++[.str s st]) (ρ 3) (rgO (Int.ofNat (i + 1)) (Int.ofNat n)) z ln lt vs (ρ 4) gs eg).mem F):CE (wf w b) (ZL w T tx z++RO) []:=
 .l 3 (.k (Tn L.it i n) [2] (Rm w b _ _ _ _) fun ρ0=>.l 209000600050209021812190005021812190005021812190005000410010100 (.k (Kh w z ln lt vs ep s st) [4,5,6] (Kg w b _ _ _ _ _ _ _ _ _ _ _ hv) fun ρ1=>.k (Z6 L.acc as ea (.str s st)) [1] (YC w b _ _ _ _ _ hz) fun ρ2=>.e [] (H (rl [tv,ρ0 0,m,ρ2 0,ρ1 0]))))
theorem H7 (w:World) (b:Bool) (RO:ZA) (L:LL) (z:Nat→Nat) (T:PySem.Str) (tx:Nat) (ln:Int) (as gs vs:List PySem.Value) (lt ea ep eg i n st:Nat) (s:PySem.Str) (v1:PySem.Value) (tv m:Nat) (hz:as.length≤1000) (hv:vs.length + 1≤1000) (F:PySem.Result→ZA→Prop)
 (H:∀ ρ:Nat→Nat,ZD (wf w b) (ZL w T tx z++RO) 410 (XI w L) (XY w L (ZI [XJ w (ρ 0) (.int (Int.ofNat i) (ρ 1))] (ρ 2)) (as++[.str s st]) (ρ 3) (rgO (Int.ofNat (i + 1)) (Int.ofNat n)) z ln lt vs (ρ 4) gs eg).mem F):ZD (wf w b) (ZL w T tx z++RO) 410 (XI w L) (XY w L (ZI [XJ w tv v1] m) as ea (rgO (Int.ofNat i) (Int.ofNat (n + 1))) z ln lt (.str s st::vs) ep gs eg).mem F:=
 cK (Kk w b RO L z T tx ln as gs vs lt ea ep eg i n st s v1 tv m hz hv F H) (by cases b<;>kernel_rfl)
noncomputable def Kl (w:World) (b:Bool) (RO:ZA) (L:LL) (z:Nat→Nat) (T:PySem.Str) (tx:Nat) (ln:Int) (as gs vs:List PySem.Value) (lt ea ep eg i n st:Nat) (s:PySem.Str) (v1:PySem.Value) (tv m:Nat) (hz:as.length≤1000) (hr:Rem T ⟨ln,lt,ep,gs,eg⟩ []) (F:PySem.Result→ZA→Prop)
 (H:∀ ρ:Nat→Nat,ZD (wf w b) (ZL w T tx z++RO) 410 (XI w L) (XY w L (ZI [XJ w (ρ 0) (.int (Int.ofNat i) (ρ 1))] (ρ 2)) (as++[.str ⟨#[]⟩ (ρ 5)]) (ρ 3) (rgO (Int.ofNat (i + 1)) (Int.ofNat n)) z ln lt [] ep gs (ρ 4)).mem F):CE (wf w b) (ZL w T tx z++RO) []:=
 .l 3 (.k (Tn L.it i n) [2] (Rm w b _ _ _ _) fun ρ0=>.l 209000600050209021812190005021812190005021812190005000410010100 (.k (Zk w z ⟨ln,lt,ep,gs,eg⟩ (chE false) ⟨#[]⟩ false) [4,5,6,7] (QJ w b _ T tx z _ false hr (fun p hp=>sb _ (List.mem_append.mpr (.inl hp)))) fun ρ1=>.k (Z6 L.acc as ea (.str ⟨#[]⟩ (ρ1 0))) [1] (YC w b _ _ _ _ _ hz) fun ρ2=>.e [] (H (rl [tv,ρ0 0,m,ρ2 0,ρ1 2,ρ1 0]))))
theorem H8 (w:World) (b:Bool) (RO:ZA) (L:LL) (z:Nat→Nat) (T:PySem.Str) (tx:Nat) (ln:Int) (as gs vs:List PySem.Value) (lt ea ep eg i n st:Nat) (s:PySem.Str) (v1:PySem.Value) (tv m:Nat) (hz:as.length≤1000) (hr:Rem T ⟨ln,lt,ep,gs,eg⟩ []) (F:PySem.Result→ZA→Prop)
 (H:∀ ρ:Nat→Nat,ZD (wf w b) (ZL w T tx z++RO) 410 (XI w L) (XY w L (ZI [XJ w (ρ 0) (.int (Int.ofNat i) (ρ 1))] (ρ 2)) (as++[.str ⟨#[]⟩ (ρ 5)]) (ρ 3) (rgO (Int.ofNat (i + 1)) (Int.ofNat n)) z ln lt [] ep gs (ρ 4)).mem F):ZD (wf w b) (ZL w T tx z++RO) 410 (XI w L) (XY w L (ZI [XJ w tv v1] m) as ea (rgO (Int.ofNat i) (Int.ofNat (n + 1))) z ln lt [] ep gs eg).mem F:=
 cK (Kl w b RO L z T tx ln as gs vs lt ea ep eg i n st s v1 tv m hz hr F H) (by cases b<;>kernel_rfl)
theorem EM (w:World) (b:Bool) (RO:ZA) (L:LL) (z:Nat→Nat) (ln:Int) (as gs vs:List PySem.Value) (lt ea ep eg i:Nat) (fd:PySem.Obj):(Fp w L fd as ea i z ln lt vs ep gs eg).ok (wf w b) RO 410:=
 cR (.l 110994003 (.z [2] (fun _=>0))) (by kernel_rfl)
noncomputable def EN (w:World) (fd:Obj):Prop:=fd=ZI [] 0∨∃ tv v1 m,fd=ZI [XJ w tv v1] m
noncomputable def Rn (w:World) (L:LL) (z:Nat→Nat) (ln:Int) (lt:Nat) (gs as:List Value) (ρ:Nat→Nat):ZA:=
 QX w L (ZI [XJ w (ρ 0) (.int (Int.ofNat (ρ 1)) (ρ 2))] (ρ 3)) as (ρ 4) (rgO (Int.ofNat (ρ 5)) 0) z ln lt [] (ρ 6) gs (ρ 7)
theorem Sp (w:World) (b:Bool) (RO:ZA) (L:LL) (z:Nat→Nat) (T:Str) (tx:Nat) (ln:Int) (lt:Nat) (gs:List Value) (eg:Nat) (hr:∀ ep,Rem T ⟨ln,lt,ep,gs,eg⟩ []):∀ (ks:List Nat) (vs:List Value) (fd:Obj) (as:List Value) (ea i ep:Nat),Wds ks vs→EN w fd→as.length + vs.length + 1≤1000→
  ZD (wf w b) (ZL w T tx z++RO) 410 (XI w L) (QX w L fd as ea (rgO (Int.ofNat i) (Int.ofNat (vs.length + 1))) z ln lt vs ep gs eg) (fun r M'=>∃ ρ,r = .ok .next∧M'=Rn w L z ln lt gs (as++vs++[.str ⟨#[]⟩ (ρ 8)]) ρ)
 | [],[],fd,as,ea,i,ep,_,hf,hz=>by
  have go:∀ ρ:Nat→Nat,ZD (wf w b) (ZL w T tx z++RO) 410 (XI w L) (XY w L (ZI [XJ w (ρ 0) (.int (Int.ofNat i) (ρ 1))] (ρ 2)) (as++[Value.str ⟨#[]⟩ (ρ 5)]) (ρ 3) (rgO (Int.ofNat (i + 1)) (Int.ofNat 0)) z ln lt [] ep gs (ρ 4)).mem (fun r M'=>∃ ρ,r = .ok .next∧M'=Rn w L z ln lt gs (as++[]++[.str ⟨#[]⟩ (ρ 8)]) ρ):=fun ρ=>by
   refine ZD.mono (EM w b (ZL w T tx z++RO) L z ln (as++[Value.str ⟨#[]⟩ (ρ 5)]) gs [] lt (ρ 3) ep (ρ 4) (i + 1) (ZI [XJ w (ρ 0) (.int (Int.ofNat i) (ρ 1))] (ρ 2))) ?_
   rintro r M' ⟨ρ',rfl,rfl,_⟩
   exact ⟨rl [ρ 0,i,ρ 1,ρ 2,ρ 3,i + 1,ep,ρ 4,ρ 5],rfl,by rw [List.append_nil]; rfl⟩
  rcases hf with rfl | ⟨tv,v1,m,rfl⟩
  ·exact H6 w b RO L z T tx ln as gs [] lt ea ep eg i 0 0 ⟨#[]⟩ (by omega) (hr ep) _ go
  ·exact H8 w b RO L z T tx ln as gs [] lt ea ep eg i 0 0 ⟨#[]⟩ v1 tv m (by omega) (hr ep) _ go
 | k::ks,v::vs,fd,as,ea,i,ep,hw,hf,hz=>by
  obtain ⟨⟨t,rfl⟩,hw⟩:=hw
  rw [List.length_cons] at hz
  have go:∀ ρ:Nat→Nat,ZD (wf w b) (ZL w T tx z++RO) 410 (XI w L) (XY w L (ZI [XJ w (ρ 0) (.int (Int.ofNat i) (ρ 1))] (ρ 2)) (as++[Value.str (wd k) t]) (ρ 3) (rgO (Int.ofNat (i + 1)) (Int.ofNat (vs.length + 1))) z ln lt vs (ρ 4) gs eg).mem (fun r M'=>∃ ρ,r = .ok .next∧M'=Rn w L z ln lt gs (as++(.str (wd k) t::vs)++[.str ⟨#[]⟩ (ρ 8)]) ρ):=fun ρ=>by
   refine ZD.mono (Sp w b RO L z T tx ln lt gs eg hr ks vs (ZI [XJ w (ρ 0) (.int (Int.ofNat i) (ρ 1))] (ρ 2)) (as++[Value.str (wd k) t]) (ρ 3) (i + 1) (ρ 4) hw (.inr ⟨_,_,_,rfl⟩) (by rw [List.length_append]; simp only [List.length_cons,List.length_nil]; omega)) ?_
   rintro r M' ⟨ρ',rfl,rfl⟩
   exact ⟨ρ',rfl,by rw [List.append_assoc as]; rfl⟩
  rcases hf with rfl | ⟨tv,v1,m,rfl⟩
  ·exact H5 w b RO L z T tx ln as gs vs lt ea ep eg i (vs.length + 1) t (wd k) (by omega) (by omega) _ go
  ·exact H7 w b RO L z T tx ln as gs vs lt ea ep eg i (vs.length + 1) t (wd k) v1 tv m (by omega) (by omega) _ go
 | [],_::_,_,_,_,_,_,hw,_,_=>hw.elim
 | _::_,[],_,_,_,_,_,hw,_,_=>hw.elim
noncomputable def Mh (w:World) (L:LL) (z:Nat→Nat) (ln:Int) (lt:Nat) (vs:List Value) (ep:Nat) (gs:List Value) (eg n:Nat):Con:=
 {code:=V0 (SW w.params 12) (YR w.params L.a0 L.a1 L.a2 L.a3) L.it L.acc L.f,mem:=QX w L (ZI [] 0) [] 0 (rgO 0 (Int.ofNat (n + 1))) z ln lt vs ep gs eg,r:=fun _=>.ok .next,
  upd:=fun ρ=>(Rn w L z ln lt gs (vs++[.str ⟨#[]⟩ (ρ 8)]) ρ).map (·.2),new:=fun _=>[] }
theorem Om (w:World) (b:Bool) (RO:ZA) (L:LL) (z:Nat→Nat) (T:Str) (tx:Nat) (ln:Int) (lt:Nat) (gs:List Value) (eg ep ep0 n:Nat) (hr:Rem T ⟨ln,lt,ep0,gs,eg⟩ []) (ks:List Nat) (vs:List Value) (hw:Wds ks vs) (hn:n=vs.length) (hz:vs.length + 1≤1000) (hs:∀ p∈ZL w T tx z,p∈RO):(Mh w L z ln lt vs ep gs eg n).ok (wf w b) RO 410:=by
 subst hn
 refine ZD.comp 2 rfl (Z0.deep (Yg w b RO L.it _) (by decide:410≤960)) ?_
 refine ZD.mono (ZD.more (Sp w b [] L z T tx ln lt gs eg (fun ep=>⟨hr.drop,hr.pos,hr.one,hr.big,hr.chs⟩) ks vs (ZI [] 0) [] 0 0 ep hw (.inl rfl) (by rw [List.length_nil]; omega)) fun p hp=>?_) ?_
 ·rw [List.append_nil] at hp
  exact hs p hp
 ·rintro r M' ⟨ρ,rfl,rfl⟩
  exact ⟨ρ,rfl,rfl,rfl⟩
noncomputable def Mi (ks:List Nat) (i:Nat) (u:Nat→Nat):List Value:=match ks with | []=>[] | k::ks=>.str (wd k) (u (i + 1))::Mi ks (i + 2) u
theorem SX:∀ (ks:List Nat) (i:Nat) (u:Nat→Nat),Wds ks (Mi ks i u)
 | [],_,_=>trivial
 | _::ks,i,u=>⟨⟨_,rfl⟩,SX ks (i + 2) u⟩
theorem SY:∀ (ks:List Nat) (i:Nat) (u:Nat→Nat),Wds ks (VG ks i u)
 | [],_,_=>trivial
 | _::ks,i,u=>⟨⟨_,rfl⟩,SY ks (i + 1) u⟩
noncomputable def Yt (w:World) (L:FL) (a0 li:Nat) (MM:U0) (e1 e2 e3 ep:Nat) (x:LX):Con:=
 {code:=V0 (SW w.params 9) (YR w.params a0 L.a1 L.a2 L.a3) L.it L.acc L.f,mem:=W3 L (ZI [] 0) [] 0 (Zb L.wl 0) li (MM [] [] [] e1 e2 e3 [] ep),r:=fun _=>.ok .next,
  newR:=fun _=>(dP (x.ns 3)).map cell,new:=fun _=>[],
  upd:=fun ρ=>(W3 L (ZI [Y8 w (ρ 0) (.str (wd (ρ 8)) (ρ 9))] (ρ 1)) (x.vals 0) (ρ 2) (Xz (ρ 3)) li (MM (dP (x.ns 0)) (dP (x.ns 1)) (dP (x.ns 2)) (ρ 4) (ρ 5) (ρ 6) (x.vals 1) (ρ 7))).map (·.2) }
theorem IV {s1 s2 s3:Nat}:Good s1 s2 s3 0 [] [] []:=⟨Nat.zero_le _,Nat.zero_le _,Nat.zero_le _,fun h=>absurd rfl h,fun h=>absurd rfl h,⟨(fun _ h=>nomatch h),(fun _ h=>nomatch h),List.nodup_nil⟩⟩
theorem QY {w:World} {b:Bool} {RO:ZA} {L:FL} {a0:Nat} {ws:List Value} {wt li s1 s2 s3:Nat} {ends:List Nat} {MM:U0} (H:FoundH w b L a0 ws wt li s1 s2 s3 ends MM) (k:Nat) (ks:List Nat) (e1 e2 e3 ep:Nat) (hk:∀ k'∈k::ks,k' < 12) (hw:Wds (k::ks) ws) (hj:ks.length + 1≤12)
  (hm:∀ x ρ,W3 L (ZI [Y8 w (ρ 0) (.str (wd (ρ 8)) (ρ 9))] (ρ 1)) (x.vals 0) (ρ 2) (Xz (ρ 3)) li (MM (dP (x.ns 0)) (dP (x.ns 1)) (dP (x.ns 2)) (ρ 4) (ρ 5) (ρ 6) (x.vals 1) (ρ 7))=Xv (Yt w L a0 li MM e1 e2 e3 ep x).mem ((Yt w L a0 li MM e1 e2 e3 ep x).upd ρ)∧((Yt w L a0 li MM e1 e2 e3 ep x).upd ρ).length=(Yt w L a0 li MM e1 e2 e3 ep x).mem.length) :
  ZD (wf w b) ((L.wl,ZB ws wt)::RO) 450 (Yt w L a0 li MM e1 e2 e3 ep dLX).code (Yt w L a0 li MM e1 e2 e3 ep dLX).mem (fun r M'=>∃ x,FoundP s1 s2 s3 0 ends [] (k::ks) [] [] [] x∧(Yt w L a0 li MM e1 e2 e3 ep x).post r M'):=by
 refine ZD.comp 2 rfl (Z0.deep (ZF w b _ L.it _) (by decide:450≤960)) ?_
 refine ZD.mono (ZD.more (Tj H (k::ks) [] (ZI [] 0) [] [] [] e1 e2 e3 [] ep [] 0 0 0 hk (.inl ⟨List.cons_ne_nil _ _,.inl rfl⟩) ⟨ws,rfl,hw⟩ (by rw [List.length_cons]; omega) IV (fun p hp=>nomatch hp) (Nat.zero_le _) (Nat.zero_le _)) fun p hp=>?_) ?_
 ·cases hp with
  | head=>exact .head _
  | tail _ hp=>cases hp
 ·rintro r M' ⟨x,k',t',ρ,q,rfl,rfl⟩
  obtain ⟨h1,h2⟩:=hm x (rl [ρ 0,ρ 1,ρ 2,ρ 3,ρ 4,ρ 5,ρ 6,ρ 7,k',t'])
  exact ⟨x,q,rl [ρ 0,ρ 1,ρ 2,ρ 3,ρ 4,ρ 5,ρ 6,ρ 7,k',t'],rfl,congrArg _ h1,h2⟩
noncomputable def MM2 (w:World) (L:FL) (s1 s2 u1 u2:Nat) (S1 S2:Sk) (z:Nat→Nat) (ln:Int) (lt:Nat):U0:=fun A1 A2 _ e1 e2 _ vs ep=>Wn w L s1 s2 u1 u2 S1 S2 A1 A2 e1 e2 (z 30) (z 31) (z 32) (Ua z) ln lt vs ep
noncomputable def MM3 (w:World) (L:FL) (s1 s2 s3 u1 u2 u3:Nat) (S1 S2 S3:Sk) (z:Nat→Nat) (ln:Int) (lt:Nat):U0:=fun A1 A2 A3 e1 e2 e3 vs ep=>Wo w L s1 s2 s3 u1 u2 u3 S1 S2 S3 A1 A2 A3 e1 e2 e3 (z 30) (z 31) (z 32) (Ua z) ln lt vs ep
theorem Km (w:World) (b:Bool) (RO:ZA) (L:FL) (a0:Nat) (ws:List Value) (wt s1 s2 u1 u2:Nat) (S1 S2:Sk) (z:Nat→Nat) (ln:Int) (lt e1 e2 ep k:Nat) (ks:List Nat) (h1:1≤s1∧s1≤2) (h2:1≤s2∧s2≤2) (hk:∀ k'∈k::ks,k' < 12) (hw:Wds (k::ks) ws) (hj:ks.length + 1≤12) :
  ZD (wf w b) ((L.wl,ZB ws wt)::RO) 450 (Yt w L a0 (z 30) (MM2 w L s1 s2 u1 u2 S1 S2 z ln lt) e1 e2 0 ep dLX).code (Yt w L a0 (z 30) (MM2 w L s1 s2 u1 u2 S1 S2 z ln lt) e1 e2 0 ep dLX).mem (fun r M'=>∃ x,FoundP s1 s2 0 0 [s1,s1 + s2] [] (k::ks) [] [] [] x∧(Yt w L a0 (z 30) (MM2 w L s1 s2 u1 u2 S1 S2 z ln lt) e1 e2 0 ep x).post r M'):=
 QY (Hn w b L a0 ws wt (z 30) s1 s2 u1 u2 S1 S2 (z 31) (z 32) (Ua z) ln lt h1 h2) k ks e1 e2 0 ep hk hw hj fun x ρ=>⟨rfl,rfl⟩
theorem Kn (w:World) (b:Bool) (RO:ZA) (L:FL) (a0:Nat) (ws:List Value) (wt s1 s2 s3 u1 u2 u3:Nat) (S1 S2 S3:Sk) (z:Nat→Nat) (ln:Int) (lt e1 e2 e3 ep k:Nat) (ks:List Nat) (h1:1≤s1∧s1≤2) (h2:1≤s2∧s2≤2) (h3:1≤s3∧s3≤2) (hk:∀ k'∈k::ks,k' < 12) (hw:Wds (k::ks) ws) (hj:ks.length + 1≤12) :
  ZD (wf w b) ((L.wl,ZB ws wt)::RO) 450 (Yt w L a0 (z 30) (MM3 w L s1 s2 s3 u1 u2 u3 S1 S2 S3 z ln lt) e1 e2 e3 ep dLX).code (Yt w L a0 (z 30) (MM3 w L s1 s2 s3 u1 u2 u3 S1 S2 S3 z ln lt) e1 e2 e3 ep dLX).mem (fun r M'=>∃ x,FoundP s1 s2 s3 0 [s1,s1 + s2,s1 + s2 + s3] [] (k::ks) [] [] [] x∧(Yt w L a0 (z 30) (MM3 w L s1 s2 s3 u1 u2 u3 S1 S2 S3 z ln lt) e1 e2 e3 ep x).post r M'):=
 QY (Ho w b L a0 ws wt (z 30) s1 s2 s3 u1 u2 u3 S1 S2 S3 (z 31) (z 32) (Ua z) ln lt h1 h2 h3) k ks e1 e2 e3 ep hk hw hj fun x ρ=>⟨rfl,rfl⟩
noncomputable def WH (w:World) (L:KL) (x:LX):Con:=
 {code:=V0 (SW w.params 10) (YR w.params L.a0 L.a1 L.a2 L.a3) L.it L.acc L.f,mem:=WE L (ZI [] 0) [] 0 (Zb L.sl 0),r:=fun _=>.ok .next,newR:=fun _=>x.cells 0,new:=fun _=>[],
  upd:=fun ρ=>(WE L (ZI [YI w (ρ 0) (.ref (ρ 1))] (ρ 2)) (x.vals 0) (ρ 3) (Xz (ρ 4))).map (·.2) }
noncomputable def WI (As:List (List Pr)) (x:LX):Prop:=∃ gs:List KG,gs.map (fun g=>g.2.2.map kn)=As.map seg∧x.vals 0=gs.map (fun g=>.ref g.1)∧x.cells 0=VS gs
theorem On (w:World) (b:Bool) (RO:ZA) (L:KL) (ss:List Value) (T:TS) (Ts:List TS) (hT:∀ T'∈T::Ts,TsOk w RO T') (hs:(L.sl,ZB ss L.es)∈RO) (hd:ss=(T::Ts).map (fun T=>.ref T.1.sh)) (hz:(T::Ts).length≤1000) :
  ZD (wf w b) RO 410 (WH w L dLX).code (WH w L dLX).mem (fun r M'=>∃ x,WI ((T::Ts).map fun T=>T.2.1) x∧(WH w L x).post r M'):=by
 refine ZD.comp 2 rfl (Z0.deep (ZF w b _ L.it _) (by decide:410≤960)) ?_
 refine ZD.mono (Sn w b L ss (T::Ts) RO (ZI [] 0) [] 0 0 hT hs hd (.inl ⟨List.cons_ne_nil _ _,.inl rfl⟩) (by rw [List.length_nil,Nat.zero_add]; exact hz)) ?_
 rintro r M' ⟨gs,ρ,h1,rfl,rfl⟩
 refine ⟨⟨fun _=>gs.map fun g=>.ref g.1,fun _=>[],fun _=>VS gs⟩,⟨gs,?_,rfl,rfl⟩,ρ,rfl,rfl,rfl⟩
 rw [h1,List.map_map]
 rfl
theorem Tp {w:World} {RO RO':ZA} {S:Sk} {A:List Pr} {ep s:Nat} (h:∀ c∈shK w S A ep,c∈RO) (hp:YT A RO') (hs:∀ p∈RO',p∈RO) (hl:A.length≤s) (h2:s≤2) (hn:∀ p∈A,p.n < 13):TsOk w RO (S,A,ep):=⟨h,hp.up hs,Nat.le_trans hl h2,hn⟩
theorem Oo {s1 s2 s3 j:Nat} {A1 A2 A3:List Pr} (G:Good s1 s2 s3 j A1 A2 A3) (hj:j≤12):(∀ p∈A1,p.n < 13)∧(∀ p∈A2,p.n < 13)∧(∀ p∈A3,p.n < 13):=by
 have key:∀ p:Pr,kn p∈seg A1++(seg A2++seg A3)→p.n < 13:=fun p hp=>by
  have:=G.row.nt _ hp
  show (kn p).2 < 13
  omega
 exact ⟨fun p hp=>key p (List.mem_append.mpr (.inl (YQ hp))),fun p hp=>key p (List.mem_append.mpr (.inr (List.mem_append.mpr (.inl (YQ hp))))),fun p hp=>key p (List.mem_append.mpr (.inr (List.mem_append.mpr (.inr (YQ hp)))))⟩
theorem IW (w:World) (b:Bool) (RO:ZA) (L:KL) (S1 S2:Sk) (e1 e2:Nat) (x:LX) {s1 s2:Nat} {ends:List Nat} {ks:List Nat} {fs0 vs0:List Value} (h:FoundP s1 s2 0 0 ends [] ks fs0 vs0 [] x) (hj:ks.length≤12) (h1:s1≤2) (h2:s2≤2) (hr:∀ p∈(dP (x.ns 3)).map cell,p∈RO) :
  ZD (wf w b) ((L.sl,ZB [.ref S1.sh,.ref S2.sh] L.es)::(shK w S1 (dP (x.ns 0)) e1++(shK w S2 (dP (x.ns 1)) e2++RO))) 410 (WH w L dLX).code (WH w L dLX).mem (fun r M'=>∃ y,WI [dP (x.ns 0),dP (x.ns 1)] y∧(WH w L y).post r M'):=by
 have hn:=Oo h.good (by omega)
 have hs:∀ p∈dP (x.ns 0)++(dP (x.ns 1)++dP (x.ns 2)),cell p∈RO:=fun p hp=>by
  have:=h.sub p hp
  rw [List.append_nil] at this
  exact hr _ this
 have up:∀ p∈RO,p∈((L.sl,ZB [.ref S1.sh,.ref S2.sh] L.es)::(shK w S1 (dP (x.ns 0)) e1++(shK w S2 (dP (x.ns 1)) e2++RO))):=fun p hp=>.tail _ (List.mem_append.mpr (.inr (List.mem_append.mpr (.inr hp))))
 refine On w b _ L [.ref S1.sh,.ref S2.sh] (S1,dP (x.ns 0),e1) [(S2,dP (x.ns 1),e2)] (fun T hT=>?_) (.head _) rfl (by show 2≤1000; decide)
 rcases List.mem_cons.mp hT with rfl | hT
 ·exact Tp (RO':=RO) (fun c hc=>.tail _ (List.mem_append.mpr (.inl hc))) (fun p hp=>hs p (List.mem_append.mpr (.inl hp))) up h.good.l1 h1 hn.1
 ·rcases List.mem_cons.mp hT with rfl | hT
  ·exact Tp (RO':=RO) (fun c hc=>.tail _ (List.mem_append.mpr (.inr (List.mem_append.mpr (.inl hc))))) (fun p hp=>hs p (List.mem_append.mpr (.inr (List.mem_append.mpr (.inl hp))))) up h.good.l2 h2 hn.2.1
  ·cases hT
theorem IX (w:World) (b:Bool) (RO:ZA) (L:KL) (S1 S2 S3:Sk) (e1 e2 e3:Nat) (x:LX) {s1 s2 s3:Nat} {ends:List Nat} {ks:List Nat} {fs0 vs0:List Value} (h:FoundP s1 s2 s3 0 ends [] ks fs0 vs0 [] x) (hj:ks.length≤12) (h1:s1≤2) (h2:s2≤2) (h3:s3≤2) (hr:∀ p∈(dP (x.ns 3)).map cell,p∈RO) :
  ZD (wf w b) ((L.sl,ZB [.ref S1.sh,.ref S2.sh,.ref S3.sh] L.es)::(shK w S1 (dP (x.ns 0)) e1++(shK w S2 (dP (x.ns 1)) e2++(shK w S3 (dP (x.ns 2)) e3++RO)))) 410 (WH w L dLX).code (WH w L dLX).mem (fun r M'=>∃ y,WI [dP (x.ns 0),dP (x.ns 1),dP (x.ns 2)] y∧(WH w L y).post r M'):=by
 have hn:=Oo h.good (by omega)
 have hs:∀ p∈dP (x.ns 0)++(dP (x.ns 1)++dP (x.ns 2)),cell p∈RO:=fun p hp=>by
  have:=h.sub p hp
  rw [List.append_nil] at this
  exact hr _ this
 have up:∀ p∈RO,p∈((L.sl,ZB [.ref S1.sh,.ref S2.sh,.ref S3.sh] L.es)::(shK w S1 (dP (x.ns 0)) e1++(shK w S2 (dP (x.ns 1)) e2++(shK w S3 (dP (x.ns 2)) e3++RO)))):=fun p hp=>.tail _ (List.mem_append.mpr (.inr (List.mem_append.mpr (.inr (List.mem_append.mpr (.inr hp))))))
 refine On w b _ L [.ref S1.sh,.ref S2.sh,.ref S3.sh] (S1,dP (x.ns 0),e1) [(S2,dP (x.ns 1),e2),(S3,dP (x.ns 2),e3)] (fun T hT=>?_) (.head _) rfl (by show 3≤1000; decide)
 rcases List.mem_cons.mp hT with rfl | hT
 ·exact Tp (RO':=RO) (fun c hc=>.tail _ (List.mem_append.mpr (.inl hc))) (fun p hp=>hs p (List.mem_append.mpr (.inl hp))) up h.good.l1 h1 hn.1
 ·rcases List.mem_cons.mp hT with rfl | hT
  ·exact Tp (RO':=RO) (fun c hc=>.tail _ (List.mem_append.mpr (.inr (List.mem_append.mpr (.inl hc))))) (fun p hp=>hs p (List.mem_append.mpr (.inr (List.mem_append.mpr (.inl hp))))) up h.good.l2 h2 hn.2.1
  ·rcases List.mem_cons.mp hT with rfl | hT
   ·exact Tp (RO':=RO) (fun c hc=>.tail _ (List.mem_append.mpr (.inr (List.mem_append.mpr (.inr (List.mem_append.mpr (.inl hc))))))) (fun p hp=>hs p (List.mem_append.mpr (.inr (List.mem_append.mpr (.inr hp))))) up h.good.l3 h3 hn.2.2
   ·cases hT
theorem H9 (R:Row) (k:Nat):(Zj R k).length≤R.length + 1:=by
 unfold Zj
 have z:=List.length_filter_le (fun p=>!YA k p) R
 rw [List.length_cons]
 omega
theorem QZ (cap:Nat):∀ (ks:List Nat) (R:Row),R.length≤cap→(V1 cap R ks).length≤ks.length
 | [],_,_=>Nat.le_refl _
 | k::ks,R,h=>by
  have h1:=H9 R k
  have h2:=QZ cap ks ((Zj R k).take cap) (by rw [List.length_take]; exact Nat.min_le_left _ _)
  show ((((Zj R k).drop cap).map (·.1))++V1 cap ((Zj R k).take cap) ks).length≤ks.length + 1
  rw [List.length_append,List.length_map,List.length_drop]
  omega
theorem Qa {cap:Nat} {ends ks:List Nat} {x:LX} (h:XX cap ends ks x):(x.vals 1).length=(V1 cap [] ks).length:=by
 obtain ⟨_,_,_,_,h,_⟩:=h
 exact h.len
theorem Y9 {cap:Nat} {ends ks:List Nat} {x:LX} (h:XX cap ends ks x) (hk:ks.length≤12):(x.vals 1).length≤12:=by
 rw [Qa h]
 exact Nat.le_trans (QZ cap ks [] (Nat.zero_le _)) hk
theorem Wi {s1 s2 s3 j:Nat} {ends:List Nat} {R0:Row} {ks:List Nat} {fs0:List Value} {RO:ZA} {x:LX} (h:FoundP s1 s2 s3 j ends R0 ks fs0 [] RO x):Wds (V1 (s1 + s2 + s3) R0 ks) (x.vals 1):=by
 obtain ⟨l,e,h⟩:=h.vs
 rw [e]
 exact h
theorem Vh {s1 s2 s3 j:Nat} {ends ends':List Nat} {ks:List Nat} {fs0:List Value} {RO:ZA} {x y:LX} (h:FoundP s1 s2 s3 j ends [] ks fs0 [] RO x) (h':XX (s1 + s2 + s3) ends' ks y):(y.vals 1).length=(x.vals 1).length:=by
 rw [Qa h',(Wi h).len]
end
section
open PySem PySem.W PySem.W.X PySem.Calls PyProof.Rows PySem.Spec
noncomputable def frZ (w:World) (sc t0 T:Nat) (u ρ:Nat→Nat):Obj:=frO (frA w sc t0 T u++[ent w ⟨#[102,111,117,110,100]⟩ (ρ 16) (.ref (ρ 14)),ent w ⟨#[107,101,112,116]⟩ (ρ 17) (.ref (ρ 12)),ent w ⟨#[102,111,117,110,100,115]⟩ (ρ 18) (.ref (ρ 10)),ent w ⟨#[112,97,114,116,115]⟩ (ρ 19) (.ref (ρ 6)),ent w ⟨#[108,111,115,116]⟩ (ρ 20) (.ref (ρ 8)),ent w ⟨#[108,101,102,116]⟩ (ρ 21) (.ref (ρ 0))]) 13
noncomputable def FJ (w:World) (a0 sc t0 T:Nat) (u z:Nat→Nat) (vs:List Value) (ep:Nat) (x0 x1 x2:LX) (ρ:Nat→Nat):ZA:=
 [(ρ 8,ZB (x2.vals 1) (ρ 9)),(ρ 10,ZB (x2.vals 0) (ρ 11)),(ρ 12,ZB (x1.vals 0) (ρ 13)),(ρ 14,ZB (x0.vals 0) (ρ 15)),(a0,frZ w sc t0 T u ρ),(274,tabObj #[(.int 162 0),(.int 4 0),(.ref (z 3))]),(sc,ZB vs ep)]
noncomputable def roZ (x0 x1 x2:LX):ZA:=(x2.cells 0++[])++(x1.cells 0++((dP (x0.ns 3)).map cell++[]))
noncomputable def YU (w:World) (a0 sc t0 T r1 r2:Nat) (u z:Nat→Nat) (vs:List Value) (ep:Nat) (x0 x1 x2:LX):Con:=
 {code:=.call (.ref 320) ⟨[.ref sc],[]⟩,mem:=[],r:=fun _=>.ok .next,upd:=fun _=>[],newR:=fun _=>roZ x0 x1 x2,
  new:=fun ρ=>(ρ 0,ZB (x0.vals 1++[.str ⟨#[]⟩ (ρ 1)]) (ρ 2))::(ρ 4,ZB (((x2.vals 2).take (r1 + r2)).drop r1) 0)::(ρ 5,ZB ((x2.vals 2).take r1) 0)::(ρ 6,ZB [.ref (ρ 5),.ref (ρ 4)] (ρ 7))::FJ w a0 sc t0 T u z vs ep x0 x1 x2 ρ }
noncomputable def YV (w:World) (a0 sc t0 T r1 r2 r3:Nat) (u z:Nat→Nat) (vs:List Value) (ep:Nat) (x0 x1 x2:LX):Con:=
 {code:=.call (.ref 320) ⟨[.ref sc],[]⟩,mem:=[],r:=fun _=>.ok .next,upd:=fun _=>[],newR:=fun _=>roZ x0 x1 x2,
  new:=fun ρ=>(ρ 0,ZB (x0.vals 1++[.str ⟨#[]⟩ (ρ 1)]) (ρ 2))::(ρ 3,ZB (((x2.vals 2).take (r1 + r2 + r3)).drop (r1 + r2)) 0)::(ρ 4,ZB (((x2.vals 2).take (r1 + r2)).drop r1) 0)::(ρ 5,ZB ((x2.vals 2).take r1) 0)::(ρ 6,ZB [.ref (ρ 5),.ref (ρ 4),.ref (ρ 3)] (ρ 7))::FJ w a0 sc t0 T u z vs ep x0 x1 x2 ρ }
end
section
open PySem PySem.W
noncomputable def OO (w:World) (b:Bool) (RO:ZA) (sc ep t0' T a0' a1' a2' a3' a c k1 k2 k3 k4 k5 k6 k7 k8 k9 k10 k11 k12 tx:Nat) (txt:PySem.Str) (vs:List PySem.Value) (z r2 r3 u:Nat→Nat) (S:LS) (ha:a < 2) (hc:c < 2) (hks:∀ k∈[k1,k2,k3,k4,k5,k6,k7,k8,k9,k10,k11,k12],k < 12) (hrem:Rem txt S []):CE (wf w b) (ZL w txt tx z++RO) []:=
 .l 20080011 (.a fun a0=>.l 1 (.a fun a1=>.l 99 (.c 2 (ZF w b _ a0 #[(.ref (r2 0)),(.int 0 0)]) (.l 1369010410010100100300113003 (.k (Wq w) [] (VL w b _) fun ρ0=>.l 13690104100401001006001430063005 (.k (Wq w) [] (VL w b _) fun ρ1=>.l 13690104100701001009001730093008 (.k (Wq w) [] (VL w b _) fun ρ2=>.l 164001301600991100002610232012000110991012002030123011 (.a fun a6=>.l 2001 (.a fun a7=>.l 1 (.a fun a8=>.a fun a9=>.y [0,1,2,27,28,29,17,26,14,15,13,11,12,10,8,9,7,20,21,22] [3] [(a6,⟨(.type "list"),none,(.seq #[(.str (wd k1) (u (0 + 1))),(.str (wd k2) (u (0 + 2 + 1))),(.str (wd k3) (u (0 + 2 + 2 + 1))),(.str (wd k4) (u (0 + 2 + 2 + 2 + 1))),(.str (wd k5) (u (0 + 2 + 2 + 2 + 2 + 1))),(.str (wd k6) (u (0 + 2 + 2 + 2 + 2 + 2 + 1))),(.str (wd k7) (u (0 + 2 + 2 + 2 + 2 + 2 + 2 + 1))),(.str (wd k8) (u (0 + 2 + 2 + 2 + 2 + 2 + 2 + 2 + 1))),(.str (wd k9) (u (0 + 2 + 2 + 2 + 2 + 2 + 2 + 2 + 2 + 1))),(.str (wd k10) (u (0 + 2 + 2 + 2 + 2 + 2 + 2 + 2 + 2 + 2 + 1))),(.str (wd k11) (u (0 + 2 + 2 + 2 + 2 + 2 + 2 + 2 + 2 + 2 + 2 + 1))),(.str (wd k12) (u (0 + 2 + 2 + 2 + 2 + 2 + 2 + 2 + 2 + 2 + 2 + 2 + 1)))] 0),#[]⟩)] (FoundP (1 + a) (1 + c) (1 + c) 0 [1 + a,1 + a + (1 + c),1 + a + (1 + c) + (1 + c)] [] [k1,k2,k3,k4,k5,k6,k7,k8,k9,k10,k11,k12] [] [] []) (fun χ0=>Yt w ⟨a9,a7,a8,a6,a1',a2',a3',a1,3,r2 0,r2 1⟩ a0' (z 30) (MM3 w ⟨a9,a7,a8,a6,a1',a2',a3',a1,3,r2 0,r2 1⟩ (1 + a) (1 + c) (1 + c) (r2 2) (r2 3) (r2 4) ⟨ρ0 0,ρ0 1,ρ0 2,ρ0 3,ρ0 4⟩ ⟨ρ1 0,ρ1 1,ρ1 2,ρ1 3,ρ1 4⟩ ⟨ρ2 0,ρ2 1,ρ2 2,ρ2 3,ρ2 4⟩ z (LS.ln S) S.2) (ρ0 5) (ρ1 5) (ρ2 5) (LS.ep S) χ0) _ _ (Kn w b _ ⟨a9,a7,a8,a6,a1',a2',a3',a1,3,r2 0,r2 1⟩ a0' (Mi [k1,k2,k3,k4,k5,k6,k7,k8,k9,k10,k11,k12] 0 u) 0 (1 + a) (1 + c) (1 + c) (r2 2) (r2 3) (r2 4) ⟨ρ0 0,ρ0 1,ρ0 2,ρ0 3,ρ0 4⟩ ⟨ρ1 0,ρ1 1,ρ1 2,ρ1 3,ρ1 4⟩ ⟨ρ2 0,ρ2 1,ρ2 2,ρ2 3,ρ2 4⟩ z _ _ (ρ0 5) (ρ1 5) (ρ2 5) _ k1 [k2,k3,k4,k5,k6,k7,k8,k9,k10,k11,k12] ⟨by omega,by omega⟩ ⟨by omega,by omega⟩ ⟨by omega,by omega⟩ hks (SX _ _ _) (Nat.le_refl 12)) (fun _=>rfl) fun χ0 hχ0 ρ3=>.t fun t5=>.l 2018002820011031 (.a fun a10=>.l 1 (.a fun a11=>.a fun a12=>.y [0,1,2] [20,17,18,16,14,15,13,11,12,10] [(a1,⟨(.type "list"),none,(.seq #[(.ref (ρ0 0)),(.ref (ρ1 0)),(.ref (ρ2 0))] 3),#[]⟩),((ρ0 0),⟨(.ref 268),(some (ρ0 1)),.plain,#[]⟩),((ρ0 1),⟨(.type "dict"),none,(.dict #[ent w ⟨#[95,104,101,97,100,101,114,115]⟩ (ρ0 3) (.ref (ρ0 2))] (ρ0 4)),#[]⟩),((ρ0 2),⟨(.type "list"),none,(.seq ⟨ZH (dP (LX.ns χ0 0))⟩ (ρ3 4)),#[]⟩),((ρ1 0),⟨(.ref 268),(some (ρ1 1)),.plain,#[]⟩),((ρ1 1),⟨(.type "dict"),none,(.dict #[ent w ⟨#[95,104,101,97,100,101,114,115]⟩ (ρ1 3) (.ref (ρ1 2))] (ρ1 4)),#[]⟩),((ρ1 2),⟨(.type "list"),none,(.seq ⟨ZH (dP (LX.ns χ0 1))⟩ (ρ3 5)),#[]⟩),((ρ2 0),⟨(.ref 268),(some (ρ2 1)),.plain,#[]⟩),((ρ2 1),⟨(.type "dict"),none,(.dict #[ent w ⟨#[95,104,101,97,100,101,114,115]⟩ (ρ2 3) (.ref (ρ2 2))] (ρ2 4)),#[]⟩),((ρ2 2),⟨(.type "list"),none,(.seq ⟨ZH (dP (LX.ns χ0 2))⟩ (ρ3 6)),#[]⟩)] (WI [dP (χ0.ns 0),dP (χ0.ns 1),dP (χ0.ns 2)]) (fun χ1=>WH w ⟨a12,a10,a11,a1,3,a0',a1',a2',a3'⟩ χ1) _ _ (IX w b _ ⟨a12,a10,a11,a1,3,a0',a1',a2',a3'⟩ ⟨ρ0 0,ρ0 1,ρ0 2,ρ0 3,ρ0 4⟩ ⟨ρ1 0,ρ1 1,ρ1 2,ρ1 3,ρ1 4⟩ ⟨ρ2 0,ρ2 1,ρ2 2,ρ2 3,ρ2 4⟩ (ρ3 4) (ρ3 5) (ρ3 6) χ0 hχ0 (Nat.le_refl 12) (by omega) (by omega) (by omega) (fun p hp=>List.mem_append.mpr (.inl (List.mem_append.mpr (.inl hp))))) (fun _=>rfl) fun χ1 hχ1 ρ4=>.t fun t6=>.l 4161034010420011034 (.y [27,28] [] [] (XX (1 + a + (1 + c) + (1 + c)) [1 + a,1 + a + (1 + c),1 + a + (1 + c) + (1 + c)] [k1,k2,k3,k4,k5,k6,k7,k8,k9,k10,k11,k12]) (fun χ2=>Wh (u 57) (VG [k1,k2,k3,k4,k5,k6,k7,k8,k9,k10,k11,k12] 30 u) 12 (u 55) (1 + a) (1 + c) (1 + c) (r3 2) (r3 3) (r3 4) (r3 1) χ2) _ _ (Hz w b _ (u 57) (u 55) 12 (1 + a) (1 + c) (1 + c) (r3 2) (r3 3) (r3 4) (r3 1) k1 [k2,k3,k4,k5,k6,k7,k8,k9,k10,k11,k12] (VG [k1,k2,k3,k4,k5,k6,k7,k8,k9,k10,k11,k12] 30 u) ⟨_,rfl,SY _ _ _⟩ hks (Nat.le_refl 12) (by omega) (by omega)) (fun _=>rfl) fun χ2 hχ2 ρ5=>.l 1109910010002500100025001000250010002400100993001 (.t fun t7=>.l 1044 (.t fun t8=>.l 1044 (.t fun t9=>.l 4401010104010101041044 (.k (Zs (ρ5 3) (χ2.vals 1) (ρ5 7)) [8] (Zu w b _ _ _ _ (Nat.le_trans (Y9 hχ2 (Nat.le_refl 12)) (by decide))) fun ρ6=>.l 100 (.t fun t11=>.t fun t12=>.t fun t13=>.a fun a16=>.l 5001 (.k (Mf a16 ((χ2.vals 1).length + 1) t12 t11 t13) [0] (Iv w b _ _ _ _ _ _ (by have h1:=Y9 hχ2 (Nat.le_refl 12); omega)) fun ρ7=>.l 1 (.a fun a17=>.a fun a18=>.k (Mh w ⟨a18,ρ7 0,a17,a0',a1',a2',a3'⟩ z (LS.ln S) S.2 (χ0.vals 1) (ρ3 7) (LS.gs S) S.5 (χ2.vals 1).length) [0,1,2,45,37,38,39,40] (Om w b _ _ z txt tx _ _ _ _ _ (LS.ep S) _ hrem _ _ (Wi hχ0) (Vh hχ0 hχ2) (by have h1:=Y9 hχ2 (Nat.le_refl 12); have h2:=Vh hχ0 hχ2; omega) (fun p hp=>List.mem_append.mpr (.inr (List.mem_append.mpr (.inl hp))))) fun ρ8=>.t fun t14=>.l 20011048 (.f [0,1,10,11,0,1,2,1,54] (⟨χ0,χ1,χ2,hχ0,hχ1,hχ2,(YV w a0' sc t0' T (1 + a) (1 + c) (1 + c) u z vs ep χ0 χ1 χ2).post_of (rl [a17,ρ8 8,ρ8 4,ρ5 6,ρ5 5,ρ5 4,ρ5 2,ρ5 9,ρ5 3,ρ5 7,ρ5 1,ρ5 8,a11,ρ4 3,a8,ρ3 2,t5,t6,t7,t8,t9,t14]) rfl⟩:(fun r M'=>∃ x0 x1 x2,FoundP (1 + a) (1 + c) (1 + c) 0 [1 + a,1 + a + (1 + c),1 + a + (1 + c) + (1 + c)] [] [k1,k2,k3,k4,k5,k6,k7,k8,k9,k10,k11,k12] [] [] [] x0∧WI [dP (x0.ns 0),dP (x0.ns 1),dP (x0.ns 2)] x1∧XX (1 + a + (1 + c) + (1 + c)) [1 + a,1 + a + (1 + c),1 + a + (1 + c) + (1 + c)] [k1,k2,k3,k4,k5,k6,k7,k8,k9,k10,k11,k12] x2∧(YV w a0' sc t0' T (1 + a) (1 + c) (1 + c) u z vs ep x0 x1 x2).post r M') (((YV w a0' sc t0' T (1 + a) (1 + c) (1 + c) u z vs ep χ0 χ1 χ2)).r (rl [a17,ρ8 8,ρ8 4,ρ5 6,ρ5 5,ρ5 4,ρ5 2,ρ5 9,ρ5 3,ρ5 7,ρ5 1,ρ5 8,a11,ρ4 3,a8,ρ3 2,t5,t6,t7,t8,t9,t14])) (((YV w a0' sc t0' T (1 + a) (1 + c) (1 + c) u z vs ep χ0 χ1 χ2)).out (rl [a17,ρ8 8,ρ8 4,ρ5 6,ρ5 5,ρ5 4,ρ5 2,ρ5 9,ρ5 3,ρ5 7,ρ5 1,ρ5 8,a11,ρ4 3,a8,ρ3 2,t5,t6,t7,t8,t9,t14]))))))))))))))))))))))))
theorem Ko (w:World) (b:Bool) (RO:ZA) (sc ep t0' T a0' a1' a2' a3' a c k1 k2 k3 k4 k5 k6 k7 k8 k9 k10 k11 k12 tx:Nat) (txt:PySem.Str) (vs:List PySem.Value) (z r2 r3 u:Nat→Nat) (S:LS) (ha:a < 2) (hc:c < 2) (hks:∀ k∈[k1,k2,k3,k4,k5,k6,k7,k8,k9,k10,k11,k12],k < 12) (hrem:Rem txt S []):Zd (wf w b) (ZL w txt tx z++RO) 400 (exT (((Zf w.params).drop 8).take 5) (YR w.params a0' a1' a2' a3')) (MV w sc ep t0' a0' a1' a2' a3' vs T a c 0 [k1,k2,k3,k4,k5,k6,k7,k8,k9,k10,k11,k12] z r2 r3 u S) (fun r M'=>∃ x0 x1 x2,FoundP (1 + a) (1 + c) (1 + c) 0 [1 + a,1 + a + (1 + c),1 + a + (1 + c) + (1 + c)] [] [k1,k2,k3,k4,k5,k6,k7,k8,k9,k10,k11,k12] [] [] [] x0∧WI [dP (x0.ns 0),dP (x0.ns 1),dP (x0.ns 2)] x1∧XX (1 + a + (1 + c) + (1 + c)) [1 + a,1 + a + (1 + c),1 + a + (1 + c) + (1 + c)] [k1,k2,k3,k4,k5,k6,k7,k8,k9,k10,k11,k12] x2∧(YV w a0' sc t0' T (1 + a) (1 + c) (1 + c) u z vs ep x0 x1 x2).post r M'):=
 Zd.ofK (OO w b RO sc ep t0' T a0' a1' a2' a3' a c k1 k2 k3 k4 k5 k6 k7 k8 k9 k10 k11 k12 tx txt vs z r2 r3 u S ha hc hks hrem) (fun _=>(by cases b<;>kernel_rfl))
noncomputable def OP (w:World) (b:Bool) (RO:ZA) (sc ep t0' T a0' a1' a2' a3' a c g k1 k2 k3 k4 k5 k6 k7 k8 k9 k10 k11 k12 tx:Nat) (txt:PySem.Str) (vs:List PySem.Value) (z r2 r3 u:Nat→Nat) (S:LS) (ha:a < 2) (hc:c < 2) (hks:∀ k∈[k1,k2,k3,k4,k5,k6,k7,k8,k9,k10,k11,k12],k < 12) (hrem:Rem txt S []):CE (wf w b) (ZL w txt tx z++RO) []:=
 .l 20080011 (.a fun a0=>.l 1 (.a fun a1=>.l 99 (.c 2 (ZF w b _ a0 #[(.ref (r2 0)),(.int 0 0)]) (.l 1369010410010100100300113003 (.k (Wq w) [] (VL w b _) fun ρ0=>.l 13690104100401001006001430063005 (.k (Wq w) [] (VL w b _) fun ρ1=>.l 134001301300991100002310202009000110991009001730093008 (.a fun a6=>.l 2001 (.a fun a7=>.l 1 (.a fun a8=>.a fun a9=>.y [0,1,2,24,25,26,14,23,11,12,10,8,9,7,17,18,19] [3] [(a6,⟨(.type "list"),none,(.seq #[(.str (wd k1) (u (0 + 1))),(.str (wd k2) (u (0 + 2 + 1))),(.str (wd k3) (u (0 + 2 + 2 + 1))),(.str (wd k4) (u (0 + 2 + 2 + 2 + 1))),(.str (wd k5) (u (0 + 2 + 2 + 2 + 2 + 1))),(.str (wd k6) (u (0 + 2 + 2 + 2 + 2 + 2 + 1))),(.str (wd k7) (u (0 + 2 + 2 + 2 + 2 + 2 + 2 + 1))),(.str (wd k8) (u (0 + 2 + 2 + 2 + 2 + 2 + 2 + 2 + 1))),(.str (wd k9) (u (0 + 2 + 2 + 2 + 2 + 2 + 2 + 2 + 2 + 1))),(.str (wd k10) (u (0 + 2 + 2 + 2 + 2 + 2 + 2 + 2 + 2 + 2 + 1))),(.str (wd k11) (u (0 + 2 + 2 + 2 + 2 + 2 + 2 + 2 + 2 + 2 + 2 + 1))),(.str (wd k12) (u (0 + 2 + 2 + 2 + 2 + 2 + 2 + 2 + 2 + 2 + 2 + 2 + 1)))] 0),#[]⟩)] (FoundP (1 + a) (1 + c) 0 0 [1 + a,1 + a + (1 + c)] [] [k1,k2,k3,k4,k5,k6,k7,k8,k9,k10,k11,k12] [] [] []) (fun χ0=>Yt w ⟨a9,a7,a8,a6,a1',a2',a3',a1,2,r2 0,r2 1⟩ a0' (z 30) (MM2 w ⟨a9,a7,a8,a6,a1',a2',a3',a1,2,r2 0,r2 1⟩ (1 + a) (1 + c) (r2 2) (r2 3) ⟨ρ0 0,ρ0 1,ρ0 2,ρ0 3,ρ0 4⟩ ⟨ρ1 0,ρ1 1,ρ1 2,ρ1 3,ρ1 4⟩ z (LS.ln S) S.2) (ρ0 5) (ρ1 5) 0 (LS.ep S) χ0) _ _ (Km w b _ ⟨a9,a7,a8,a6,a1',a2',a3',a1,2,r2 0,r2 1⟩ a0' (Mi [k1,k2,k3,k4,k5,k6,k7,k8,k9,k10,k11,k12] 0 u) 0 (1 + a) (1 + c) (r2 2) (r2 3) ⟨ρ0 0,ρ0 1,ρ0 2,ρ0 3,ρ0 4⟩ ⟨ρ1 0,ρ1 1,ρ1 2,ρ1 3,ρ1 4⟩ z _ _ (ρ0 5) (ρ1 5) _ k1 [k2,k3,k4,k5,k6,k7,k8,k9,k10,k11,k12] ⟨by omega,by omega⟩ ⟨by omega,by omega⟩ hks (SX _ _ _) (Nat.le_refl 12)) (fun _=>rfl) fun χ0 hχ0 ρ2=>.t fun t4=>.l 2015002520011028 (.a fun a10=>.l 1 (.a fun a11=>.a fun a12=>.y [0,1,2] [17,14,15,13,11,12,10] [(a1,⟨(.type "list"),none,(.seq #[(.ref (ρ0 0)),(.ref (ρ1 0))] 2),#[]⟩),((ρ0 0),⟨(.ref 268),(some (ρ0 1)),.plain,#[]⟩),((ρ0 1),⟨(.type "dict"),none,(.dict #[ent w ⟨#[95,104,101,97,100,101,114,115]⟩ (ρ0 3) (.ref (ρ0 2))] (ρ0 4)),#[]⟩),((ρ0 2),⟨(.type "list"),none,(.seq ⟨ZH (dP (LX.ns χ0 0))⟩ (ρ2 4)),#[]⟩),((ρ1 0),⟨(.ref 268),(some (ρ1 1)),.plain,#[]⟩),((ρ1 1),⟨(.type "dict"),none,(.dict #[ent w ⟨#[95,104,101,97,100,101,114,115]⟩ (ρ1 3) (.ref (ρ1 2))] (ρ1 4)),#[]⟩),((ρ1 2),⟨(.type "list"),none,(.seq ⟨ZH (dP (LX.ns χ0 1))⟩ (ρ2 5)),#[]⟩)] (WI [dP (χ0.ns 0),dP (χ0.ns 1)]) (fun χ1=>WH w ⟨a12,a10,a11,a1,2,a0',a1',a2',a3'⟩ χ1) _ _ (IW w b _ ⟨a12,a10,a11,a1,2,a0',a1',a2',a3'⟩ ⟨ρ0 0,ρ0 1,ρ0 2,ρ0 3,ρ0 4⟩ ⟨ρ1 0,ρ1 1,ρ1 2,ρ1 3,ρ1 4⟩ (ρ2 4) (ρ2 5) χ0 hχ0 (Nat.le_refl 12) (by omega) (by omega) (fun p hp=>List.mem_append.mpr (.inl (List.mem_append.mpr (.inl hp))))) (fun _=>rfl) fun χ1 hχ1 ρ3=>.t fun t5=>.l 4161031010420011031 (.y [24,25] [] [] (XX (1 + a + (1 + c)) [1 + a,1 + a + (1 + c)] [k1,k2,k3,k4,k5,k6,k7,k8,k9,k10,k11,k12]) (fun χ2=>Wg (u 57) (VG [k1,k2,k3,k4,k5,k6,k7,k8,k9,k10,k11,k12] 30 u) 12 (u 55) (1 + a) (1 + c) (r3 2) (r3 3) (r3 1) χ2) _ _ (Hy w b _ (u 57) (u 55) 12 (1 + a) (1 + c) (r3 2) (r3 3) (r3 1) k1 [k2,k3,k4,k5,k6,k7,k8,k9,k10,k11,k12] (VG [k1,k2,k3,k4,k5,k6,k7,k8,k9,k10,k11,k12] 30 u) ⟨_,rfl,SY _ _ _⟩ hks (Nat.le_refl 12) (by omega) (by omega)) (fun _=>rfl) fun χ2 hχ2 ρ4=>.l 1109910010002500100025001000250010002400100993001 (.t fun t6=>.l 1040 (.t fun t7=>.l 1040 (.t fun t8=>.l 4001010104010101041040 (.k (Zs (ρ4 3) (χ2.vals 1) (ρ4 7)) [7] (Zu w b _ _ _ _ (Nat.le_trans (Y9 hχ2 (Nat.le_refl 12)) (by decide))) fun ρ5=>.l 100 (.t fun t10=>.t fun t11=>.t fun t12=>.a fun a16=>.l 5001 (.k (Mf a16 ((χ2.vals 1).length + 1) t11 t10 t12) [0] (Iv w b _ _ _ _ _ _ (by have h1:=Y9 hχ2 (Nat.le_refl 12); omega)) fun ρ6=>.l 1 (.a fun a17=>.a fun a18=>.k (Mh w ⟨a18,ρ6 0,a17,a0',a1',a2',a3'⟩ z (LS.ln S) S.2 (χ0.vals 1) (ρ2 7) (LS.gs S) S.5 (χ2.vals 1).length) [0,1,2,41,33,34,35,36] (Om w b _ _ z txt tx _ _ _ _ _ (LS.ep S) _ hrem _ _ (Wi hχ0) (Vh hχ0 hχ2) (by have h1:=Y9 hχ2 (Nat.le_refl 12); have h2:=Vh hχ0 hχ2; omega) (fun p hp=>List.mem_append.mpr (.inr (List.mem_append.mpr (.inl hp))))) fun ρ7=>.t fun t13=>.l 20011044 (.f [0,1,10,9,0,1,2,1,48] (⟨χ0,χ1,χ2,hχ0,hχ1,hχ2,(YU w a0' sc t0' T (1 + a) (1 + c) u z vs ep χ0 χ1 χ2).post_of (rl [a17,ρ7 8,ρ7 4,0,ρ4 5,ρ4 4,ρ4 2,ρ4 9,ρ4 3,ρ4 7,ρ4 1,ρ4 8,a11,ρ3 3,a8,ρ2 2,t4,t5,t6,t7,t8,t13]) rfl⟩:(fun r M'=>∃ x0 x1 x2,FoundP (1 + a) (1 + c) 0 0 [1 + a,1 + a + (1 + c)] [] [k1,k2,k3,k4,k5,k6,k7,k8,k9,k10,k11,k12] [] [] [] x0∧WI [dP (x0.ns 0),dP (x0.ns 1)] x1∧XX (1 + a + (1 + c)) [1 + a,1 + a + (1 + c)] [k1,k2,k3,k4,k5,k6,k7,k8,k9,k10,k11,k12] x2∧(YU w a0' sc t0' T (1 + a) (1 + c) u z vs ep x0 x1 x2).post r M') (((YU w a0' sc t0' T (1 + a) (1 + c) u z vs ep χ0 χ1 χ2)).r (rl [a17,ρ7 8,ρ7 4,0,ρ4 5,ρ4 4,ρ4 2,ρ4 9,ρ4 3,ρ4 7,ρ4 1,ρ4 8,a11,ρ3 3,a8,ρ2 2,t4,t5,t6,t7,t8,t13])) (((YU w a0' sc t0' T (1 + a) (1 + c) u z vs ep χ0 χ1 χ2)).out (rl [a17,ρ7 8,ρ7 4,0,ρ4 5,ρ4 4,ρ4 2,ρ4 9,ρ4 3,ρ4 7,ρ4 1,ρ4 8,a11,ρ3 3,a8,ρ2 2,t4,t5,t6,t7,t8,t13])))))))))))))))))))))))
theorem Kp (w:World) (b:Bool) (RO:ZA) (sc ep t0' T a0' a1' a2' a3' a c g k1 k2 k3 k4 k5 k6 k7 k8 k9 k10 k11 k12 tx:Nat) (txt:PySem.Str) (vs:List PySem.Value) (z r2 r3 u:Nat→Nat) (S:LS) (ha:a < 2) (hc:c < 2) (hks:∀ k∈[k1,k2,k3,k4,k5,k6,k7,k8,k9,k10,k11,k12],k < 12) (hrem:Rem txt S []):Zd (wf w b) (ZL w txt tx z++RO) 400 (exT (((Zf w.params).drop 8).take 5) (YR w.params a0' a1' a2' a3')) (MV w sc ep t0' a0' a1' a2' a3' vs T a c (g + 1) [k1,k2,k3,k4,k5,k6,k7,k8,k9,k10,k11,k12] z r2 r3 u S) (fun r M'=>∃ x0 x1 x2,FoundP (1 + a) (1 + c) 0 0 [1 + a,1 + a + (1 + c)] [] [k1,k2,k3,k4,k5,k6,k7,k8,k9,k10,k11,k12] [] [] [] x0∧WI [dP (x0.ns 0),dP (x0.ns 1)] x1∧XX (1 + a + (1 + c)) [1 + a,1 + a + (1 + c)] [k1,k2,k3,k4,k5,k6,k7,k8,k9,k10,k11,k12] x2∧(YU w a0' sc t0' T (1 + a) (1 + c) u z vs ep x0 x1 x2).post r M'):=
 Zd.ofK (OP w b RO sc ep t0' T a0' a1' a2' a3' a c g k1 k2 k3 k4 k5 k6 k7 k8 k9 k10 k11 k12 tx txt vs z r2 r3 u S ha hc hks hrem) (fun _=>(by cases b<;>kernel_rfl))
end
section
open PySem PySem.W PySem.W.X PySem.Calls PyProof.Rows PySem.Spec
theorem Kq (P:Params):(Zf P).drop 13=[.Return (some (.Compare (QM (SV ((Zf P).drop 13))) [.Eq] [Uw (SV ((Zf P).drop 13))] (QN (SV ((Zf P).drop 13))))) (match (Zf P).drop 13 with | .Return _ p::_=>p | _=>⟨0,0,0,0⟩)]:=by kernel_rfl
theorem Sq (P:Params):behindInMarks .Eq (Uw (SV ((Zf P).drop 13)))=false:=by kernel_rfl
theorem Tq {M:Model} {A:Around} {c:Code} {env:PySem.Env} {eL eR:Expr} {p1 p2:Pos} {Q:Flow→Shared→Prop} {E:Value→Shared→Prop} {s:Shared} (hm:behindInMarks .Eq eR=false)
  (h:wpOwn M A c (eval eL env) (fun a s1=>wpOwn M A c (eval eR env) (fun b s2=>wpAny M (A.under c) (compareOp .Eq a b) (fun v s3=>Q (.ret v) s3) E s2) E s1) E s) :
  wpOwn M A c (exec (.Return (some (.Compare eL [.Eq] [eR] p1)) p2) env) Q E s:=by
 rw [exec_Return_some,eval_Compare1]
 refine wpOwn_bind (wpOwn_of_wpAny (wpAny_standAt ?_))
 refine wpOwn_bind (wpOwn_bind (wpOwn_mono h (fun a s1 h1=>?_) fun _ _ e=>e))
 rw [markedBehindIn_of_false hm]
 refine wpOwn_bind (QO (wpOwn_mono h1 (fun b s2 h2=>?_) fun _ _ e=>e))
 refine wpOwn_bind (wpOwn_of_wpAny (wpAny_standAt ?_))
 exact wpOwn_of_wpAny (wpAny_operate' (wpAny_mono h2 (fun v s3 h3=>wpOwn_of_wpAny (wpAny_pure h3)) fun _ _ e=>e))
noncomputable def Ro (w:World) (sc t0 T a0:Nat) (u q:Nat→Nat):Con:={ code:=.call (.ref 320) ⟨[.ref sc],[]⟩,mem:=[(a0,frZ w sc t0 T u q)],r:=fun ρ=>.ok (.ret (.ref (ρ 0))),upd:=fun _=>[frZ w sc t0 T u q],new:=fun ρ=>[(ρ 0,ZS [.ref (q 14),.ref (q 12),.ref (q 0)])] }
noncomputable def Rp (w:World) (sc t0 T a0:Nat) (u q:Nat→Nat) (ls:List Value):Con:={ code:=.call (.ref 320) ⟨[.ref sc],[]⟩,mem:=[(q 8,ZB ls (q 9)),(a0,frZ w sc t0 T u q)],r:=fun ρ=>.ok (.ret (.ref (ρ 0))),upd:=fun _=>[ZB ls (q 9),frZ w sc t0 T u q],new:=fun ρ=>[(ρ 0,ZS [.ref (q 10),.ref (q 6),.ref (ρ 1)]),(ρ 1,ZB (ls++[.str ⟨#[]⟩ (ρ 2)]) 0)] }
theorem Holds.toRO {P:Params} {RO N M:ZA} {h:Heap} (hM:Holds P RO (N++M) h):Holds P (N++RO) M h:=by
 have hnd:=hM.nd
 rw [List.map_append] at hnd
 have hap:=List.nodup_append.mp hnd
 exact ⟨hM.base,fun p hp=>by
   rcases List.mem_append.mp hp with y | y
   ·exact hM.at_ p (List.mem_append.mpr (.inl y))
   ·exact hM.ro p y,fun p hp=>hM.at_ p (List.mem_append.mpr (.inr hp)),hap.2.1,fun p hp=>hM.offB p (List.mem_append.mpr (.inr hp)),fun p hp hq=>by
   rw [List.map_append] at hq
   rcases List.mem_append.mp hq with y | y
   ·exact hap.2.2 _ y _ (List.mem_map_of_mem hp) rfl
   ·exact hM.offR p (List.mem_append.mpr (.inr hp)) y⟩
end
section
open PySem PySem.W
theorem Qb (w:World) (b:Bool) (RO:ZA) (sc t0' T a0' a1' a2' a3':Nat) (u q:Nat→Nat):Zd (wf w b) RO 400 (evT (QM (SV ((Zf w.params).drop 13))) (YR w.params a0' a1' a2' a3')) (Ro w sc t0' T a0' u q).mem (Ro w sc t0' T a0' u q).post:=
 Zd.of (.l 2001 (.a fun a0=>.z [] (rl [a0]))) (fun _=>(by kernel_rfl))
theorem Qc (w:World) (b:Bool) (RO:ZA) (sc t0' T a0' a1' a2' a3':Nat) (u q:Nat→Nat) (ls:List PySem.Value) (hz:ls.length + 1≤1000):Zd (wf w b) RO 400 (evT (Uw (SV ((Zf w.params).drop 13))) (YR w.params a0' a1' a2' a3')) (Rp w sc t0' T a0' u q ls).mem (Rp w sc t0' T a0' u q ls).post:=
 Zd.of (.l 2002 (.t fun t0=>.a fun a0=>.l 200010002 (.k (WP (q 8) a0 ls (q 9) [.str ⟨#[]⟩ t0] 0) [1,0] (Ws w b _ _ _ _ _ _ _ hz) fun ρ0=>.a fun a1=>.z [3,0] (rl [a1,ρ0 0,t0])))) (fun _=>(by kernel_rfl))
end
section
open PySem PySem.W PySem.W.X PySem.Calls PyProof.Rows PySem.Spec PySem.SeqAt
theorem Kr {s1 s2 s3 j:Nat} {A1 A2 A3:List Pr} (G:Good s1 s2 s3 j A1 A2 A3) (h2:1≤s2) :
  (seg A1++(seg A2++seg A3)).take s1=seg A1∧((seg A1++(seg A2++seg A3)).take (s1 + s2)).drop s1=seg A2∧((seg A1++(seg A2++seg A3)).take (s1 + s2 + s3)).drop (s1 + s2)=seg A3:=by
 have l1:=G.l1
 have l2:=G.l2
 have l3:=G.l3
 by_cases e2:A2=[]
 ·have e3:A3=[]:=by
   cases A3 with
   | nil=>rfl
   | cons p q=>
    have:=G.f3 (List.cons_ne_nil _ _)
    rw [e2,List.length_nil] at this
    omega
  subst e2 e3
  simp only [Yc,List.append_nil]
  refine ⟨List.take_of_length_le (by rw [YG]; exact l1),?_,?_⟩
  ·rw [List.take_of_length_le (by rw [YG]; omega),List.drop_eq_nil_of_le (by rw [YG]; exact l1)]
  ·rw [List.take_of_length_le (by rw [YG]; omega),List.drop_eq_nil_of_le (by rw [YG]; omega)]
 ·have f2:(seg A1).length=s1:=by rw [YG]; exact G.f2 e2
  refine ⟨List.take_left' f2,?_,?_⟩
  ·rw [List.take_append,List.take_of_length_le (by omega),List.drop_left' f2,f2,show s1 + s2 - s1=s2 by omega]
   by_cases e3:A3=[]
   ·rw [e3,Yc,List.append_nil,List.take_of_length_le (by rw [YG]; exact l2)]
   ·exact List.take_left' (by rw [YG]; exact G.f3 e3)
  ·rw [List.take_of_length_le (by simp only [List.length_append,YG]; omega),← List.drop_drop,List.drop_left' f2]
   by_cases e3:A3=[]
   ·rw [e3,Yc,List.append_nil,List.drop_eq_nil_of_le (by rw [YG]; exact l2)]
   ·exact List.drop_left' (by rw [YG]; exact G.f3 e3)
theorem U2 {k:Nat} {s:Shared}:∀ {l:List Int} {vs us:List Value},Uy l vs→Uy l us→Eqvs k s vs us
 | [],[],[],_,_=>.nil
 | n::l,v::vs,u::us,h,h'=>by
  obtain ⟨⟨t,rfl⟩,h⟩:=h
  obtain ⟨⟨t',rfl⟩,h'⟩:=h'
  exact .cons (Eqv.int _ _ _ _ _) (U2 h h')
 | [],_::_,_,h,_=>h.elim
 | [],[],_::_,_,h=>h.elim
 | _::_,[],_,h,_=>h.elim
 | _::_,_::_,[],_,h=>h.elim
theorem SZ {k:Nat} {s:Shared} (t t':Nat):∀ {l:List Nat} {vs us:List Value},Wds l vs→Wds l us→Eqvs k s (vs++[.str ⟨#[]⟩ t]) (us++[.str ⟨#[]⟩ t'])
 | [],[],[],_,_=>.cons (Eqv.str _ _ _ _ _) .nil
 | n::l,v::vs,u::us,h,h'=>by
  obtain ⟨⟨t,rfl⟩,h⟩:=h
  obtain ⟨⟨t',rfl⟩,h'⟩:=h'
  exact .cons (Eqv.str _ _ _ _ _) (SZ _ _ h h')
 | [],_::_,_,h,_=>h.elim
 | [],[],_::_,_,h=>h.elim
 | _::_,[],_,h,_=>h.elim
 | _::_,_::_,[],_,h=>h.elim
theorem Qd {k:Nat} {s:Shared}:∀ {B C:List Pr},B.map kn=C.map kn→(∀ p∈B,s.heap.get? p.a=some (ZY p).2)→(∀ q∈C,s.heap.get? q.a=some (ZY q).2)→(∀ p∈B,∀ q∈C,p.a≠q.a)→Eqvs (k + 1) s (ZH B) (ZH C)
 | [],[],_,_,_,_=>.nil
 | p::B,q::C,h,hB,hC,hd=>by
  rw [List.map_cons,List.map_cons,List.cons.injEq] at h
  obtain ⟨e,h⟩:=h
  refine .cons ?_ (Qd h (fun p' hp=>hB p' (.tail _ hp)) (fun q' hq=>hC q' (.tail _ hq)) fun p' hp q' hq=>hd p' (.tail _ hp) q' (.tail _ hq))
  have ek:p.k=q.k:=congrArg Prod.fst e
  have en:p.n=q.n:=congrArg Prod.snd e
  refine Eqv.tups (hd p (.head _) q (.head _)) (hB p (.head _)) (hC q (.head _)) ?_
  rw [ek,en]
  exact .cons (Eqv.str _ _ _ _ _) (.cons (Eqv.int _ _ _ _ _) .nil)
 | [],_::_,h,_,_,_=>by cases h
 | _::_,[],h,_,_,_=>by cases h
theorem V6 {k:Nat} {s:Shared}:∀ {gs:List KG} {ps:List (Nat × List Pr)},gs.map (fun g=>g.2.2.map kn)=ps.map (fun p=>p.2.map kn)→(∀ g∈gs,∃ e,s.heap.get? g.1=some (ZB (ZH g.2.2) e))→(∀ p∈ps,∃ e,s.heap.get? p.1=some (ZB (ZH p.2) e))→(∀ g∈gs,∀ p∈ps,g.1≠p.1)→
  (∀ g∈gs,∀ p∈g.2.2,s.heap.get? p.a=some (ZY p).2)→(∀ q∈ps,∀ p∈q.2,s.heap.get? p.a=some (ZY p).2)→(∀ g∈gs,∀ p∈g.2.2,∀ q∈ps,∀ r∈q.2,p.a≠r.a)→Eqvs (k + 2) s (gs.map fun g=>.ref g.1) (ps.map fun p=>.ref p.1)
 | [],[],_,_,_,_,_,_,_=>.nil
 | g::gs,p::ps,h,h1,h2,h3,h4,h5,h6=>by
  rw [List.map_cons,List.map_cons,List.cons.injEq] at h
  obtain ⟨e,h⟩:=h
  obtain ⟨e1,g1⟩:=h1 g (.head _)
  obtain ⟨e2,g2⟩:=h2 p (.head _)
  exact .cons (Eqv.lists (h3 g (.head _) p (.head _)) g1 g2 (Qd e (h4 g (.head _)) (h5 p (.head _)) fun p' hp' q' hq'=>h6 g (.head _) p' hp' p (.head _) q' hq')) (V6 h (fun g' hg=>h1 g' (.tail _ hg)) (fun p' hp=>h2 p' (.tail _ hp)) (fun g' hg p' hp=>h3 g' (.tail _ hg) p' (.tail _ hp)) (fun g' hg=>h4 g' (.tail _ hg)) (fun p' hp=>h5 p' (.tail _ hp)) fun g' hg p' hp' q' hq'=>h6 g' (.tail _ hg) p' hp' q' (.tail _ hq'))
 | [],_::_,h,_,_,_,_,_,_=>by cases h
 | _::_,[],h,_,_,_,_,_,_=>by cases h
theorem WY {gs:List KG} {g:KG} (h:g∈gs):(g.1,ZB (ZH g.2.2) g.2.1)∈VS gs:=List.mem_flatMap.mpr ⟨g,h,List.mem_append.mpr (.inr (.head _))⟩
theorem Wp {gs:List KG} {g:KG} (h:g∈gs) {p:Pr} (hp:p∈g.2.2):ZY p∈VS gs:=List.mem_flatMap.mpr ⟨g,h,List.mem_append.mpr (.inl (List.mem_map_of_mem (List.mem_reverse.mpr hp)))⟩
theorem W5 {A B:ZA} (h:((A++B).map (·.1)).Nodup) {p q:Addr × Obj} (hp:p∈A) (hq:q∈B):p.1≠q.1:=by
 rw [List.map_append] at h
 exact (List.nodup_append.mp h).2.2 _ (List.mem_map_of_mem hp) _ (List.mem_map_of_mem hq)
theorem IY (w:World) (b:Bool) (RO:ZA) (sc t0 T a0 a1 a2 a3 r1 r2 r3:Nat) (u z:Nat→Nat) (vs:List Value) (ep:Nat) (x0 x1 x2:LX) (ρ:Nat→Nat) (ks:List Nat) (hks:ks.length≤12) (h2:1≤r2) (hF:FoundP r1 r2 r3 0 [r1,r1 + r2,r1 + r2 + r3] [] ks [] [] [] x0) (hK:WI [dP (x0.ns 0),dP (x0.ns 1),dP (x0.ns 2)] x1) (hR:XX (r1 + r2 + r3) [r1,r1 + r2,r1 + r2 + r3] ks x2)
  {cc:Code} (hc:Zg cc) {h:Heap} {g:Array GenState} {d:Drawn} {t:Nat} {os:OsState} {Q:Flow→Shared→Prop} {E:Value→Shared→Prop} (ht:0 < t) (hM:Holds (wf w b).params RO ((YV w a0 sc t0 T r1 r2 r3 u z vs ep x0 x1 x2).out ρ) h)
  (hQ:∀ M' h' g' t',0 < t'→Holds (wf w b).params RO M' h'→Ext ((YV w a0 sc t0 T r1 r2 r3 u z vs ep x0 x1 x2).out ρ) h M' h'→(274,tabObj #[(.int 162 0),(.int 4 0),(.ref (z 3))])∈M'→(sc,ZB vs ep)∈M'→(AllBare g→AllBare g')→Q (.ret (.bool true)) ⟨h',g',d,t',os⟩) :
  wpOwn (model PP (wf w b)) (Z2 390) cc (execs ((Zf (wf w b).params).drop 13) (YR (wf w b).params a0 a1 a2 a3)) Q E ⟨h,g,d,t,os⟩:=by
 rw [Kq]
 have hM0:Holds (wf w b).params RO (roZ x0 x1 x2++(YV w a0 sc t0 T r1 r2 r3 u z vs ep x0 x1 x2).new ρ) h:=hM
 have m0:=hM0.toRO
 refine wpOwn_bind (wpOwn_mono (Q:=fun f s=>match f with | .ret v=>Q (.ret v) s | _=>False) (Tq (Sq _) ?_) (fun f s hf=>?_) fun _ _ e=>e)
 ·have s1:Z9 ((YV w a0 sc t0 T r1 r2 r3 u z vs ep x0 x1 x2).new ρ) [9]=some (Ro w sc t0 T a0 u ρ).mem:=rfl
  refine WQ (Qb w b (roZ x0 x1 x2++RO) sc t0 T a0 a1 a2 a3 u ρ) (by decide) hc ht (m0.sub (sub:=[9]) (ro:=[]) rfl rfl s1 rfl) fun r M1 h1 g1 t1 ht1 k1' hM1 hE1 hB1=>?_
  obtain ⟨τ,rfl,rfl,hl⟩:=k1'
  refine ⟨_,rfl,?_⟩
  have m1:Holds (wf w b).params (roZ x0 x1 x2++RO) ((τ 0,ZS [.ref (ρ 14),.ref (ρ 12),.ref (ρ 0)])::(YV w a0 sc t0 T r1 r2 r3 u z vs ep x0 x1 x2).new ρ) h1:=m0.called (ro₁:=[]) s1 hl hM1 hE1
  have e1:Ext ((YV w a0 sc t0 T r1 r2 r3 u z vs ep x0 x1 x2).new ρ) h ((τ 0,ZS [.ref (ρ 14),.ref (ρ 12),.ref (ρ 0)])::(YV w a0 sc t0 T r1 r2 r3 u z vs ep x0 x1 x2).new ρ) h1:=(Ext.refl ((YV w a0 sc t0 T r1 r2 r3 u z vs ep x0 x1 x2).new ρ) h).called s1 hl hM1 hE1
  have s2:Z9 ((τ 0,ZS [.ref (ρ 14),.ref (ρ 12),.ref (ρ 0)])::(YV w a0 sc t0 T r1 r2 r3 u z vs ep x0 x1 x2).new ρ) [6,10]=some (Rp w sc t0 T a0 u ρ (x2.vals 1)).mem:=rfl
  have hz:(x2.vals 1).length + 1≤1000:=by
   have:=Y9 hR hks
   omega
  refine WQ (Qc w b (roZ x0 x1 x2++RO) sc t0 T a0 a1 a2 a3 u ρ (x2.vals 1) hz) (by decide) hc ht1 (m1.sub (sub:=[6,10]) (ro:=[]) rfl rfl s2 rfl) fun r M2 h2' g2 t2 ht2 k2' hM2 hE2 hB2=>?_
  obtain ⟨σ,rfl,rfl,hl2⟩:=k2'
  refine ⟨_,rfl,?_⟩
  have m2:Holds (wf w b).params (roZ x0 x1 x2++RO) ((σ 0,ZS [.ref (ρ 10),.ref (ρ 6),.ref (σ 1)])::(σ 1,ZB (x2.vals 1++[.str ⟨#[]⟩ (σ 2)]) 0)::(τ 0,ZS [.ref (ρ 14),.ref (ρ 12),.ref (ρ 0)])::(YV w a0 sc t0 T r1 r2 r3 u z vs ep x0 x1 x2).new ρ) h2':=m1.called (ro₁:=[]) s2 hl2 hM2 hE2
  have e2:Ext ((YV w a0 sc t0 T r1 r2 r3 u z vs ep x0 x1 x2).new ρ) h ((σ 0,ZS [.ref (ρ 10),.ref (ρ 6),.ref (σ 1)])::(σ 1,ZB (x2.vals 1++[.str ⟨#[]⟩ (σ 2)]) 0)::(τ 0,ZS [.ref (ρ 14),.ref (ρ 12),.ref (ρ 0)])::(YV w a0 sc t0 T r1 r2 r3 u z vs ep x0 x1 x2).new ρ) h2':=e1.called s2 hl2 hM2 hE2
  have at_:=fun (i:Nat) (p:Addr × Obj) (e:Yd ((σ 0,ZS [.ref (ρ 10),.ref (ρ 6),.ref (σ 1)])::(σ 1,ZB (x2.vals 1++[.str ⟨#[]⟩ (σ 2)]) 0)::(τ 0,ZS [.ref (ρ 14),.ref (ρ 12),.ref (ρ 0)])::(YV w a0 sc t0 T r1 r2 r3 u z vs ep x0 x1 x2).new ρ) i=some p)=>m2.at_ p (Zp e)
  have q1:=at_ 0 (σ 0,ZS [.ref (ρ 10),.ref (ρ 6),.ref (σ 1)]) rfl
  have q2:=at_ 1 (σ 1,ZB (x2.vals 1++[.str ⟨#[]⟩ (σ 2)]) 0) rfl
  have q3:=at_ 2 (τ 0,ZS [.ref (ρ 14),.ref (ρ 12),.ref (ρ 0)]) rfl
  have qf:=at_ 11 (ρ 14,ZB (x0.vals 0) (ρ 15)) rfl
  have qg:=at_ 9 (ρ 10,ZB (x2.vals 0) (ρ 11)) rfl
  have qk:=at_ 10 (ρ 12,ZB (x1.vals 0) (ρ 13)) rfl
  have qp:=at_ 7 (ρ 6,ZB [.ref (ρ 5),.ref (ρ 4),.ref (ρ 3)] (ρ 7)) rfl
  have ql:=at_ 3 (ρ 0,ZB (x0.vals 1++[.str ⟨#[]⟩ (ρ 1)]) (ρ 2)) rfl
  have nf:ρ 14≠ρ 10:=fun e=>absurd (XK m2.nd (i:=11) (j:=9) (p:=(ρ 14,ZB (x0.vals 0) (ρ 15))) (q:=(ρ 10,ZB (x2.vals 0) (ρ 11))) rfl rfl e) (by decide)
  have nk:ρ 12≠ρ 6:=fun e=>absurd (XK m2.nd (i:=10) (j:=7) (p:=(ρ 12,ZB (x1.vals 0) (ρ 13))) (q:=(ρ 6,ZB [.ref (ρ 5),.ref (ρ 4),.ref (ρ 3)] (ρ 7))) rfl rfl e) (by decide)
  have nl:ρ 0≠σ 1:=fun e=>absurd (XK m2.nd (i:=3) (j:=1) (p:=(ρ 0,ZB (x0.vals 1++[.str ⟨#[]⟩ (ρ 1)]) (ρ 2))) (q:=(σ 1,ZB (x2.vals 1++[.str ⟨#[]⟩ (σ 2)]) 0)) rfl rfl e) (by decide)
  obtain ⟨R',eR,hrow,hfs,hls,hRR⟩:=hR
  obtain ⟨gs,hgs,eg,ec⟩:=hK
  obtain ⟨l,el,hl0⟩:=hF.fs
  have hw:=Wi hF
  have hcut:=Kr hF.good h2
  rw [hF.row] at hcut
  have er:R'.map kn=rOf (r1 + r2 + r3) [] ks:=hrow
  have inK:∀ p∈x1.cells 0,p∈roZ x0 x1 x2:=fun p hp=>List.mem_append.mpr (.inr (List.mem_append.mpr (.inl hp)))
  have inR:∀ p∈x2.cells 0,p∈roZ x0 x1 x2:=fun p hp=>List.mem_append.mpr (.inl (List.mem_append.mpr (.inl hp)))
  have ro_:∀ p∈roZ x0 x1 x2,h2'.get? p.1=some p.2:=fun p hp=>m2.ro p (List.mem_append.mpr (.inl hp))
  have hnd:((roZ x0 x1 x2).map (·.1)).Nodup:=by
   have:=hM0.nd
   rw [List.map_append] at this
   exact (List.nodup_append.mp this).1
  have sub_:∀ q∈([(ρ 5,R'.take r1),(ρ 4,(R'.take (r1 + r2)).drop r1),(ρ 3,(R'.take (r1 + r2 + r3)).drop (r1 + r2))]:List (Nat × List Pr)),∀ p∈q.2,p∈R':=fun q hq p hp=>by
   simp only [List.mem_cons,List.not_mem_nil,or_false] at hq
   rcases hq with rfl | rfl | rfl
   ·exact List.mem_of_mem_take hp
   ·exact List.mem_of_mem_take (List.mem_of_mem_drop hp)
   ·exact List.mem_of_mem_take (List.mem_of_mem_drop hp)
  have ev:=V6 (k:=7) (s:=⟨h2',g2,d,t2,os⟩) (gs:=gs) (ps:=[(ρ 5,R'.take r1),(ρ 4,(R'.take (r1 + r2)).drop r1),(ρ 3,(R'.take (r1 + r2 + r3)).drop (r1 + r2))]) (by
   rw [hgs]
   simp only [List.map_cons,List.map_nil,List.map_take,List.map_drop,er]
   rw [hcut.1,hcut.2.1,hcut.2.2]) (fun g' hg=>⟨_,ro_ _ (inK _ (ec▸WY hg))⟩) (fun q hq=>by
   simp only [List.mem_cons,List.not_mem_nil,or_false] at hq
   rcases hq with rfl | rfl | rfl
   ·exact ⟨0,by have y:=at_ 6 (ρ 5,ZB ((x2.vals 2).take r1) 0) rfl; rw [eR] at y; unfold ZH at y ⊢; rw [List.map_take]; exact y⟩
   ·exact ⟨0,by have y:=at_ 5 (ρ 4,ZB (((x2.vals 2).take (r1 + r2)).drop r1) 0) rfl; rw [eR] at y; unfold ZH at y ⊢; rw [List.map_drop,List.map_take]; exact y⟩
   ·exact ⟨0,by have y:=at_ 4 (ρ 3,ZB (((x2.vals 2).take (r1 + r2 + r3)).drop (r1 + r2)) 0) rfl; rw [eR] at y; unfold ZH at y ⊢; rw [List.map_drop,List.map_take]; exact y⟩
   ) (fun g' hg q hq=>by
   have hin:=inK _ (ec▸WY hg)
   simp only [List.mem_cons,List.not_mem_nil,or_false] at hq
   rcases hq with rfl | rfl | rfl
   ·exact W5 hM0.nd hin (Zp (i:=3) (p:=(ρ 5,ZB ((x2.vals 2).take r1) 0)) rfl)
   ·exact W5 hM0.nd hin (Zp (i:=2) (p:=(ρ 4,ZB (((x2.vals 2).take (r1 + r2)).drop r1) 0)) rfl)
   ·exact W5 hM0.nd hin (Zp (i:=1) (p:=(ρ 3,ZB (((x2.vals 2).take (r1 + r2 + r3)).drop (r1 + r2)) 0)) rfl)
   ) (fun g' hg p hp=>ro_ _ (inK _ (ec▸Wp hg hp))) (fun q hq p hp=>ro_ _ (inR _ (hRR p (sub_ q hq p hp)).1)) (fun g' hg p hp q hq r hr=>by
   have a1:ZY p∈x1.cells 0:=ec▸Wp hg hp
   have a2:ZY r∈x2.cells 0:=(hRR r (sub_ q hq r hr)).1
   exact (W5 (A:=x2.cells 0++[]) (B:=x1.cells 0++((dP (x0.ns 3)).map cell++[])) hnd (List.mem_append.mpr (.inl a2)) (List.mem_append.mpr (.inl a1))).symm)
  have final:=QP (k:=10) (s:=⟨h2',g2,d,t2,os⟩) (l:=τ 0) (m:=σ 0) q3 q1 (.cons (Eqv.lists (k:=9) nf qf qg (by rw [el]; exact U2 hl0 hfs)) (.cons (Eqv.lists (k:=9) nk qk qp (by rw [eg]; exact ev)) (.cons (Eqv.lists (k:=9) nl ql q2 (SZ _ _ hw hls)) .nil))) (A:=(Z2 390).under cc) (by
   have:=VW cc
   show 10 * 390 + cc.cUnits + 1 + 10 < 9900
   omega)
  refine final PP _ _ _ ?_
  have m3:Holds (wf w b).params RO ((σ 0,ZS [.ref (ρ 10),.ref (ρ 6),.ref (σ 1)])::(σ 1,ZB (x2.vals 1++[.str ⟨#[]⟩ (σ 2)]) 0)::(τ 0,ZS [.ref (ρ 14),.ref (ρ 12),.ref (ρ 0)])::(YV w a0 sc t0 T r1 r2 r3 u z vs ep x0 x1 x2).new ρ) h2':=⟨m2.base,fun p hp=>m2.ro p (List.mem_append.mpr (.inr hp)),m2.at_,m2.nd,m2.offB,fun p hp hq=>m2.offR p hp (by rw [List.map_append]; exact List.mem_append.mpr (.inr hq))⟩
  have e3:Ext ((YV w a0 sc t0 T r1 r2 r3 u z vs ep x0 x1 x2).out ρ) h ((σ 0,ZS [.ref (ρ 10),.ref (ρ 6),.ref (σ 1)])::(σ 1,ZB (x2.vals 1++[.str ⟨#[]⟩ (σ 2)]) 0)::(τ 0,ZS [.ref (ρ 14),.ref (ρ 12),.ref (ρ 0)])::(YV w a0 sc t0 T r1 r2 r3 u z vs ep x0 x1 x2).new ρ) h2':=by
   have y:Ext (roZ x0 x1 x2++(YV w a0 sc t0 T r1 r2 r3 u z vs ep x0 x1 x2).new ρ) h ((σ 0,ZS [.ref (ρ 10),.ref (ρ 6),.ref (σ 1)])::(σ 1,ZB (x2.vals 1++[.str ⟨#[]⟩ (σ 2)]) 0)::(τ 0,ZS [.ref (ρ 14),.ref (ρ 12),.ref (ρ 0)])::(YV w a0 sc t0 T r1 r2 r3 u z vs ep x0 x1 x2).new ρ) h2':=⟨fun a o ho ha=>e2.keep a o ho fun x=>ha (by rw [List.map_append]; exact List.mem_append.mpr (.inr x)),fun p hp=>by
    rcases e2.fresh p hp with x | x
    ·exact .inl (by rw [List.map_append]; exact List.mem_append.mpr (.inr x))
    ·exact .inr x,e2.size⟩
   exact y
  exact hQ _ _ _ _ ht2 m3 e3 (Zp (i:=13) rfl) (Zp (i:=14) rfl) fun x=>hB2 (hB1 x)
 ·cases f with
  | ret v=>exact wpOwn_of_wpAny (wpAny_pure hf)
  | _=>exact hf.elim
theorem IZ (w:World) (b:Bool) (RO:ZA) (sc t0 T a0 a1 a2 a3 r1 r2:Nat) (u z:Nat→Nat) (vs:List Value) (ep:Nat) (x0 x1 x2:LX) (ρ:Nat→Nat) (ks:List Nat) (hks:ks.length≤12) (h2:1≤r2) (hF:FoundP r1 r2 0 0 [r1,r1 + r2] [] ks [] [] [] x0) (hK:WI [dP (x0.ns 0),dP (x0.ns 1)] x1) (hR:XX (r1 + r2) [r1,r1 + r2] ks x2)
  {cc:Code} (hc:Zg cc) {h:Heap} {g:Array GenState} {d:Drawn} {t:Nat} {os:OsState} {Q:Flow→Shared→Prop} {E:Value→Shared→Prop} (ht:0 < t) (hM:Holds (wf w b).params RO ((YU w a0 sc t0 T r1 r2 u z vs ep x0 x1 x2).out ρ) h)
  (hQ:∀ M' h' g' t',0 < t'→Holds (wf w b).params RO M' h'→Ext ((YU w a0 sc t0 T r1 r2 u z vs ep x0 x1 x2).out ρ) h M' h'→(274,tabObj #[(.int 162 0),(.int 4 0),(.ref (z 3))])∈M'→(sc,ZB vs ep)∈M'→(AllBare g→AllBare g')→Q (.ret (.bool true)) ⟨h',g',d,t',os⟩) :
  wpOwn (model PP (wf w b)) (Z2 390) cc (execs ((Zf (wf w b).params).drop 13) (YR (wf w b).params a0 a1 a2 a3)) Q E ⟨h,g,d,t,os⟩:=by
 rw [Kq]
 have hM0:Holds (wf w b).params RO (roZ x0 x1 x2++(YU w a0 sc t0 T r1 r2 u z vs ep x0 x1 x2).new ρ) h:=hM
 have m0:=hM0.toRO
 refine wpOwn_bind (wpOwn_mono (Q:=fun f s=>match f with | .ret v=>Q (.ret v) s | _=>False) (Tq (Sq _) ?_) (fun f s hf=>?_) fun _ _ e=>e)
 ·have s1:Z9 ((YU w a0 sc t0 T r1 r2 u z vs ep x0 x1 x2).new ρ) [8]=some (Ro w sc t0 T a0 u ρ).mem:=rfl
  refine WQ (Qb w b (roZ x0 x1 x2++RO) sc t0 T a0 a1 a2 a3 u ρ) (by decide) hc ht (m0.sub (sub:=[8]) (ro:=[]) rfl rfl s1 rfl) fun r M1 h1 g1 t1 ht1 k1' hM1 hE1 hB1=>?_
  obtain ⟨τ,rfl,rfl,hl⟩:=k1'
  refine ⟨_,rfl,?_⟩
  have m1:Holds (wf w b).params (roZ x0 x1 x2++RO) ((τ 0,ZS [.ref (ρ 14),.ref (ρ 12),.ref (ρ 0)])::(YU w a0 sc t0 T r1 r2 u z vs ep x0 x1 x2).new ρ) h1:=m0.called (ro₁:=[]) s1 hl hM1 hE1
  have e1:Ext ((YU w a0 sc t0 T r1 r2 u z vs ep x0 x1 x2).new ρ) h ((τ 0,ZS [.ref (ρ 14),.ref (ρ 12),.ref (ρ 0)])::(YU w a0 sc t0 T r1 r2 u z vs ep x0 x1 x2).new ρ) h1:=(Ext.refl ((YU w a0 sc t0 T r1 r2 u z vs ep x0 x1 x2).new ρ) h).called s1 hl hM1 hE1
  have s2:Z9 ((τ 0,ZS [.ref (ρ 14),.ref (ρ 12),.ref (ρ 0)])::(YU w a0 sc t0 T r1 r2 u z vs ep x0 x1 x2).new ρ) [5,9]=some (Rp w sc t0 T a0 u ρ (x2.vals 1)).mem:=rfl
  have hz:(x2.vals 1).length + 1≤1000:=by
   have:=Y9 hR hks
   omega
  refine WQ (Qc w b (roZ x0 x1 x2++RO) sc t0 T a0 a1 a2 a3 u ρ (x2.vals 1) hz) (by decide) hc ht1 (m1.sub (sub:=[5,9]) (ro:=[]) rfl rfl s2 rfl) fun r M2 h2' g2 t2 ht2 k2' hM2 hE2 hB2=>?_
  obtain ⟨σ,rfl,rfl,hl2⟩:=k2'
  refine ⟨_,rfl,?_⟩
  have m2:Holds (wf w b).params (roZ x0 x1 x2++RO) ((σ 0,ZS [.ref (ρ 10),.ref (ρ 6),.ref (σ 1)])::(σ 1,ZB (x2.vals 1++[.str ⟨#[]⟩ (σ 2)]) 0)::(τ 0,ZS [.ref (ρ 14),.ref (ρ 12),.ref (ρ 0)])::(YU w a0 sc t0 T r1 r2 u z vs ep x0 x1 x2).new ρ) h2':=m1.called (ro₁:=[]) s2 hl2 hM2 hE2
  have e2:Ext ((YU w a0 sc t0 T r1 r2 u z vs ep x0 x1 x2).new ρ) h ((σ 0,ZS [.ref (ρ 10),.ref (ρ 6),.ref (σ 1)])::(σ 1,ZB (x2.vals 1++[.str ⟨#[]⟩ (σ 2)]) 0)::(τ 0,ZS [.ref (ρ 14),.ref (ρ 12),.ref (ρ 0)])::(YU w a0 sc t0 T r1 r2 u z vs ep x0 x1 x2).new ρ) h2':=e1.called s2 hl2 hM2 hE2
  have at_:=fun (i:Nat) (p:Addr × Obj) (e:Yd ((σ 0,ZS [.ref (ρ 10),.ref (ρ 6),.ref (σ 1)])::(σ 1,ZB (x2.vals 1++[.str ⟨#[]⟩ (σ 2)]) 0)::(τ 0,ZS [.ref (ρ 14),.ref (ρ 12),.ref (ρ 0)])::(YU w a0 sc t0 T r1 r2 u z vs ep x0 x1 x2).new ρ) i=some p)=>m2.at_ p (Zp e)
  have q1:=at_ 0 (σ 0,ZS [.ref (ρ 10),.ref (ρ 6),.ref (σ 1)]) rfl
  have q2:=at_ 1 (σ 1,ZB (x2.vals 1++[.str ⟨#[]⟩ (σ 2)]) 0) rfl
  have q3:=at_ 2 (τ 0,ZS [.ref (ρ 14),.ref (ρ 12),.ref (ρ 0)]) rfl
  have qf:=at_ 10 (ρ 14,ZB (x0.vals 0) (ρ 15)) rfl
  have qg:=at_ 8 (ρ 10,ZB (x2.vals 0) (ρ 11)) rfl
  have qk:=at_ 9 (ρ 12,ZB (x1.vals 0) (ρ 13)) rfl
  have qp:=at_ 6 (ρ 6,ZB [.ref (ρ 5),.ref (ρ 4)] (ρ 7)) rfl
  have ql:=at_ 3 (ρ 0,ZB (x0.vals 1++[.str ⟨#[]⟩ (ρ 1)]) (ρ 2)) rfl
  have nf:ρ 14≠ρ 10:=fun e=>absurd (XK m2.nd (i:=10) (j:=8) (p:=(ρ 14,ZB (x0.vals 0) (ρ 15))) (q:=(ρ 10,ZB (x2.vals 0) (ρ 11))) rfl rfl e) (by decide)
  have nk:ρ 12≠ρ 6:=fun e=>absurd (XK m2.nd (i:=9) (j:=6) (p:=(ρ 12,ZB (x1.vals 0) (ρ 13))) (q:=(ρ 6,ZB [.ref (ρ 5),.ref (ρ 4)] (ρ 7))) rfl rfl e) (by decide)
  have nl:ρ 0≠σ 1:=fun e=>absurd (XK m2.nd (i:=3) (j:=1) (p:=(ρ 0,ZB (x0.vals 1++[.str ⟨#[]⟩ (ρ 1)]) (ρ 2))) (q:=(σ 1,ZB (x2.vals 1++[.str ⟨#[]⟩ (σ 2)]) 0)) rfl rfl e) (by decide)
  obtain ⟨R',eR,hrow,hfs,hls,hRR⟩:=hR
  obtain ⟨gs,hgs,eg,ec⟩:=hK
  obtain ⟨l,el,hl0⟩:=hF.fs
  have hw:=Wi hF
  have hcut:=Kr hF.good h2
  rw [hF.row] at hcut
  have er:R'.map kn=rOf (r1 + r2 + 0) [] ks:=hrow
  have inK:∀ p∈x1.cells 0,p∈roZ x0 x1 x2:=fun p hp=>List.mem_append.mpr (.inr (List.mem_append.mpr (.inl hp)))
  have inR:∀ p∈x2.cells 0,p∈roZ x0 x1 x2:=fun p hp=>List.mem_append.mpr (.inl (List.mem_append.mpr (.inl hp)))
  have ro_:∀ p∈roZ x0 x1 x2,h2'.get? p.1=some p.2:=fun p hp=>m2.ro p (List.mem_append.mpr (.inl hp))
  have hnd:((roZ x0 x1 x2).map (·.1)).Nodup:=by
   have:=hM0.nd
   rw [List.map_append] at this
   exact (List.nodup_append.mp this).1
  have sub_:∀ q∈([(ρ 5,R'.take r1),(ρ 4,(R'.take (r1 + r2)).drop r1)]:List (Nat × List Pr)),∀ p∈q.2,p∈R':=fun q hq p hp=>by
   simp only [List.mem_cons,List.not_mem_nil,or_false] at hq
   rcases hq with rfl | rfl
   ·exact List.mem_of_mem_take hp
   ·exact List.mem_of_mem_take (List.mem_of_mem_drop hp)
  have ev:=V6 (k:=7) (s:=⟨h2',g2,d,t2,os⟩) (gs:=gs) (ps:=[(ρ 5,R'.take r1),(ρ 4,(R'.take (r1 + r2)).drop r1)]) (by
   rw [hgs]
   simp only [List.map_cons,List.map_nil,List.map_take,List.map_drop,er]
   rw [hcut.1,hcut.2.1]) (fun g' hg=>⟨_,ro_ _ (inK _ (ec▸WY hg))⟩) (fun q hq=>by
   simp only [List.mem_cons,List.not_mem_nil,or_false] at hq
   rcases hq with rfl | rfl
   ·exact ⟨0,by have y:=at_ 5 (ρ 5,ZB ((x2.vals 2).take r1) 0) rfl; rw [eR] at y; unfold ZH at y ⊢; rw [List.map_take]; exact y⟩
   ·exact ⟨0,by have y:=at_ 4 (ρ 4,ZB (((x2.vals 2).take (r1 + r2)).drop r1) 0) rfl; rw [eR] at y; unfold ZH at y ⊢; rw [List.map_drop,List.map_take]; exact y⟩
   ) (fun g' hg q hq=>by
   have hin:=inK _ (ec▸WY hg)
   simp only [List.mem_cons,List.not_mem_nil,or_false] at hq
   rcases hq with rfl | rfl
   ·exact W5 hM0.nd hin (Zp (i:=2) (p:=(ρ 5,ZB ((x2.vals 2).take r1) 0)) rfl)
   ·exact W5 hM0.nd hin (Zp (i:=1) (p:=(ρ 4,ZB (((x2.vals 2).take (r1 + r2)).drop r1) 0)) rfl)
   ) (fun g' hg p hp=>ro_ _ (inK _ (ec▸Wp hg hp))) (fun q hq p hp=>ro_ _ (inR _ (hRR p (sub_ q hq p hp)).1)) (fun g' hg p hp q hq r hr=>by
   have a1:ZY p∈x1.cells 0:=ec▸Wp hg hp
   have a2:ZY r∈x2.cells 0:=(hRR r (sub_ q hq r hr)).1
   exact (W5 (A:=x2.cells 0++[]) (B:=x1.cells 0++((dP (x0.ns 3)).map cell++[])) hnd (List.mem_append.mpr (.inl a2)) (List.mem_append.mpr (.inl a1))).symm)
  have final:=QP (k:=10) (s:=⟨h2',g2,d,t2,os⟩) (l:=τ 0) (m:=σ 0) q3 q1 (.cons (Eqv.lists (k:=9) nf qf qg (by rw [el]; exact U2 hl0 hfs)) (.cons (Eqv.lists (k:=9) nk qk qp (by rw [eg]; exact ev)) (.cons (Eqv.lists (k:=9) nl ql q2 (SZ _ _ hw hls)) .nil))) (A:=(Z2 390).under cc) (by
   have:=VW cc
   show 10 * 390 + cc.cUnits + 1 + 10 < 9900
   omega)
  refine final PP _ _ _ ?_
  have m3:Holds (wf w b).params RO ((σ 0,ZS [.ref (ρ 10),.ref (ρ 6),.ref (σ 1)])::(σ 1,ZB (x2.vals 1++[.str ⟨#[]⟩ (σ 2)]) 0)::(τ 0,ZS [.ref (ρ 14),.ref (ρ 12),.ref (ρ 0)])::(YU w a0 sc t0 T r1 r2 u z vs ep x0 x1 x2).new ρ) h2':=⟨m2.base,fun p hp=>m2.ro p (List.mem_append.mpr (.inr hp)),m2.at_,m2.nd,m2.offB,fun p hp hq=>m2.offR p hp (by rw [List.map_append]; exact List.mem_append.mpr (.inr hq))⟩
  have e3:Ext ((YU w a0 sc t0 T r1 r2 u z vs ep x0 x1 x2).out ρ) h ((σ 0,ZS [.ref (ρ 10),.ref (ρ 6),.ref (σ 1)])::(σ 1,ZB (x2.vals 1++[.str ⟨#[]⟩ (σ 2)]) 0)::(τ 0,ZS [.ref (ρ 14),.ref (ρ 12),.ref (ρ 0)])::(YU w a0 sc t0 T r1 r2 u z vs ep x0 x1 x2).new ρ) h2':=by
   have y:Ext (roZ x0 x1 x2++(YU w a0 sc t0 T r1 r2 u z vs ep x0 x1 x2).new ρ) h ((σ 0,ZS [.ref (ρ 10),.ref (ρ 6),.ref (σ 1)])::(σ 1,ZB (x2.vals 1++[.str ⟨#[]⟩ (σ 2)]) 0)::(τ 0,ZS [.ref (ρ 14),.ref (ρ 12),.ref (ρ 0)])::(YU w a0 sc t0 T r1 r2 u z vs ep x0 x1 x2).new ρ) h2':=⟨fun a o ho ha=>e2.keep a o ho fun x=>ha (by rw [List.map_append]; exact List.mem_append.mpr (.inr x)),fun p hp=>by
    rcases e2.fresh p hp with x | x
    ·exact .inl (by rw [List.map_append]; exact List.mem_append.mpr (.inr x))
    ·exact .inr x,e2.size⟩
   exact y
  exact hQ _ _ _ _ ht2 m3 e3 (Zp (i:=12) rfl) (Zp (i:=13) rfl) fun x=>hB2 (hB1 x)
 ·cases f with
  | ret v=>exact wpOwn_of_wpAny (wpAny_pure hf)
  | _=>exact hf.elim
end
section
open PySem PySem.W
theorem zN:∀ (ns:List Nat) (i:Nat) (ρ:Nat→Nat),MR (ns.map Int.ofNat) i ρ=Yv ns i ρ
 | [],_,_=>rfl
 | _::ns,i,ρ=>congrArg (Value.int _ (ρ i)::·) (zN ns (i + 1) ρ)
theorem WU (sc:Nat) (vs:List Value) (ep:Nat) (ns:List Nat):Zz sc vs ep (ns.map Int.ofNat)=Wt sc vs ep ns:=by
 unfold Zz Wt
 simp only [zN]
noncomputable def fm (x:Int):Nat:=(Int.fmod x 1000000).toNat
theorem ZQ (x:Int):Int.fmod x 1000000=Int.ofNat (fm x):=(Int.toNat_of_nonneg (Int.fmod_nonneg_of_pos x (by decide))).symm
theorem ZT (x:Int):fm x < 1000000:=by
 have h:=Int.fmod_lt_of_pos x (b:=1000000) (by decide)
 rw [ZQ] at h
 exact Int.ofNat_lt.mp h
noncomputable def WJ (vs:List Value):Prop:=∀ v∈vs,∃ x t,v = .int x t
theorem WJ.tail {v:Value} {vs:List Value} (h:WJ (v::vs)):WJ vs:=fun u hu=>h u (.tail _ hu)
theorem ZC {n:Nat} {ns:List Nat} (h:n < 1000000) (r:∀ m∈ns,m < 1000000):∀ m∈n::ns,m < 1000000:=fun m hm=>by
 rcases List.mem_cons.mp hm with rfl | hm
 ·exact h
 ·exact r m hm
theorem EO (w:World) (b:Bool) (sc ep:Nat):∀ (vs:List Value),WJ vs→vs.length≤1000→∃ ns:List Nat,ns.length=12∧(∀ n∈ns,n < 1000000)∧∀ RO,(Wt sc vs ep ns).ok (wf w b) RO 600
 | [],h,hz=>by
  refine ⟨[12,1,6,2,0,7,3,9,3,4,18,20],rfl,(ZC (by decide) (ZC (by decide) (ZC (by decide) (ZC (by decide) (ZC (by decide) (ZC (by decide) (ZC (by decide) (ZC (by decide) (ZC (by decide) (ZC (by decide) (ZC (by decide) (ZC (by decide) (fun _ hm=>nomatch hm))))))))))))),fun RO=>?_⟩
  have z:=HM w b RO sc ep
  have y:(Zz sc [] ep (([12,1,6,2,0,7,3,9,3,4,18,20]:List Nat).map Int.ofNat)).ok (wf w b) RO 600:=z
  rw [WU] at y
  exact y
 | [v1],h,hz=>by
  obtain ⟨x1,t1,rfl⟩:=h _ (.head _)
  refine ⟨[fm x1,1,6,2,0,7,3,9,3,4,18,20],rfl,(ZC (ZT _) (ZC (by decide) (ZC (by decide) (ZC (by decide) (ZC (by decide) (ZC (by decide) (ZC (by decide) (ZC (by decide) (ZC (by decide) (ZC (by decide) (ZC (by decide) (ZC (by decide) (fun _ hm=>nomatch hm))))))))))))),fun RO=>?_⟩
  have z:=HN w b RO x1 t1 sc ep
  rw [ZQ x1] at z
  have y:(Zz sc [.int x1 t1] ep (([fm x1,1,6,2,0,7,3,9,3,4,18,20]:List Nat).map Int.ofNat)).ok (wf w b) RO 600:=z
  rw [WU] at y
  exact y
 | [v1,v2],h,hz=>by
  obtain ⟨x1,t1,rfl⟩:=h _ (.head _)
  obtain ⟨x2,t2,rfl⟩:=h.tail _ (.head _)
  refine ⟨[fm x1,fm x2,6,2,0,7,3,9,3,4,18,20],rfl,(ZC (ZT _) (ZC (ZT _) (ZC (by decide) (ZC (by decide) (ZC (by decide) (ZC (by decide) (ZC (by decide) (ZC (by decide) (ZC (by decide) (ZC (by decide) (ZC (by decide) (ZC (by decide) (fun _ hm=>nomatch hm))))))))))))),fun RO=>?_⟩
  have z:=HO w b RO x1 x2 t1 t2 sc ep
  rw [ZQ x1,ZQ x2] at z
  have y:(Zz sc [.int x1 t1,.int x2 t2] ep (([fm x1,fm x2,6,2,0,7,3,9,3,4,18,20]:List Nat).map Int.ofNat)).ok (wf w b) RO 600:=z
  rw [WU] at y
  exact y
 | [v1,v2,v3],h,hz=>by
  obtain ⟨x1,t1,rfl⟩:=h _ (.head _)
  obtain ⟨x2,t2,rfl⟩:=h.tail _ (.head _)
  obtain ⟨x3,t3,rfl⟩:=h.tail.tail _ (.head _)
  refine ⟨[fm x1,fm x2,fm x3,2,0,7,3,9,3,4,18,20],rfl,(ZC (ZT _) (ZC (ZT _) (ZC (ZT _) (ZC (by decide) (ZC (by decide) (ZC (by decide) (ZC (by decide) (ZC (by decide) (ZC (by decide) (ZC (by decide) (ZC (by decide) (ZC (by decide) (fun _ hm=>nomatch hm))))))))))))),fun RO=>?_⟩
  have z:=HP w b RO x1 x2 x3 t1 t2 t3 sc ep
  rw [ZQ x1,ZQ x2,ZQ x3] at z
  have y:(Zz sc [.int x1 t1,.int x2 t2,.int x3 t3] ep (([fm x1,fm x2,fm x3,2,0,7,3,9,3,4,18,20]:List Nat).map Int.ofNat)).ok (wf w b) RO 600:=z
  rw [WU] at y
  exact y
 | [v1,v2,v3,v4],h,hz=>by
  obtain ⟨x1,t1,rfl⟩:=h _ (.head _)
  obtain ⟨x2,t2,rfl⟩:=h.tail _ (.head _)
  obtain ⟨x3,t3,rfl⟩:=h.tail.tail _ (.head _)
  obtain ⟨x4,t4,rfl⟩:=h.tail.tail.tail _ (.head _)
  refine ⟨[fm x1,fm x2,fm x3,fm x4,0,7,3,9,3,4,18,20],rfl,(ZC (ZT _) (ZC (ZT _) (ZC (ZT _) (ZC (ZT _) (ZC (by decide) (ZC (by decide) (ZC (by decide) (ZC (by decide) (ZC (by decide) (ZC (by decide) (ZC (by decide) (ZC (by decide) (fun _ hm=>nomatch hm))))))))))))),fun RO=>?_⟩
  have z:=HQ w b RO x1 x2 x3 x4 t1 t2 t3 t4 sc ep
  rw [ZQ x1,ZQ x2,ZQ x3,ZQ x4] at z
  have y:(Zz sc [.int x1 t1,.int x2 t2,.int x3 t3,.int x4 t4] ep (([fm x1,fm x2,fm x3,fm x4,0,7,3,9,3,4,18,20]:List Nat).map Int.ofNat)).ok (wf w b) RO 600:=z
  rw [WU] at y
  exact y
 | [v1,v2,v3,v4,v5],h,hz=>by
  obtain ⟨x1,t1,rfl⟩:=h _ (.head _)
  obtain ⟨x2,t2,rfl⟩:=h.tail _ (.head _)
  obtain ⟨x3,t3,rfl⟩:=h.tail.tail _ (.head _)
  obtain ⟨x4,t4,rfl⟩:=h.tail.tail.tail _ (.head _)
  obtain ⟨x5,t5,rfl⟩:=h.tail.tail.tail.tail _ (.head _)
  refine ⟨[fm x1,fm x2,fm x3,fm x4,fm x5,7,3,9,3,4,18,20],rfl,(ZC (ZT _) (ZC (ZT _) (ZC (ZT _) (ZC (ZT _) (ZC (ZT _) (ZC (by decide) (ZC (by decide) (ZC (by decide) (ZC (by decide) (ZC (by decide) (ZC (by decide) (ZC (by decide) (fun _ hm=>nomatch hm))))))))))))),fun RO=>?_⟩
  have z:=HS w b RO x1 x2 x3 x4 x5 t1 t2 t3 t4 t5 sc ep
  rw [ZQ x1,ZQ x2,ZQ x3,ZQ x4,ZQ x5] at z
  have y:(Zz sc [.int x1 t1,.int x2 t2,.int x3 t3,.int x4 t4,.int x5 t5] ep (([fm x1,fm x2,fm x3,fm x4,fm x5,7,3,9,3,4,18,20]:List Nat).map Int.ofNat)).ok (wf w b) RO 600:=z
  rw [WU] at y
  exact y
 | [v1,v2,v3,v4,v5,v6],h,hz=>by
  obtain ⟨x1,t1,rfl⟩:=h _ (.head _)
  obtain ⟨x2,t2,rfl⟩:=h.tail _ (.head _)
  obtain ⟨x3,t3,rfl⟩:=h.tail.tail _ (.head _)
  obtain ⟨x4,t4,rfl⟩:=h.tail.tail.tail _ (.head _)
  obtain ⟨x5,t5,rfl⟩:=h.tail.tail.tail.tail _ (.head _)
  obtain ⟨x6,t6,rfl⟩:=h.tail.tail.tail.tail.tail _ (.head _)
  refine ⟨[fm x1,fm x2,fm x3,fm x4,fm x5,fm x6,3,9,3,4,18,20],rfl,(ZC (ZT _) (ZC (ZT _) (ZC (ZT _) (ZC (ZT _) (ZC (ZT _) (ZC (ZT _) (ZC (by decide) (ZC (by decide) (ZC (by decide) (ZC (by decide) (ZC (by decide) (ZC (by decide) (fun _ hm=>nomatch hm))))))))))))),fun RO=>?_⟩
  have z:=HT w b RO x1 x2 x3 x4 x5 x6 t1 t2 t3 t4 t5 t6 sc ep
  rw [ZQ x1,ZQ x2,ZQ x3,ZQ x4,ZQ x5,ZQ x6] at z
  have y:(Zz sc [.int x1 t1,.int x2 t2,.int x3 t3,.int x4 t4,.int x5 t5,.int x6 t6] ep (([fm x1,fm x2,fm x3,fm x4,fm x5,fm x6,3,9,3,4,18,20]:List Nat).map Int.ofNat)).ok (wf w b) RO 600:=z
  rw [WU] at y
  exact y
 | [v1,v2,v3,v4,v5,v6,v7],h,hz=>by
  obtain ⟨x1,t1,rfl⟩:=h _ (.head _)
  obtain ⟨x2,t2,rfl⟩:=h.tail _ (.head _)
  obtain ⟨x3,t3,rfl⟩:=h.tail.tail _ (.head _)
  obtain ⟨x4,t4,rfl⟩:=h.tail.tail.tail _ (.head _)
  obtain ⟨x5,t5,rfl⟩:=h.tail.tail.tail.tail _ (.head _)
  obtain ⟨x6,t6,rfl⟩:=h.tail.tail.tail.tail.tail _ (.head _)
  obtain ⟨x7,t7,rfl⟩:=h.tail.tail.tail.tail.tail.tail _ (.head _)
  refine ⟨[fm x1,fm x2,fm x3,fm x4,fm x5,fm x6,fm x7,9,3,4,18,20],rfl,(ZC (ZT _) (ZC (ZT _) (ZC (ZT _) (ZC (ZT _) (ZC (ZT _) (ZC (ZT _) (ZC (ZT _) (ZC (by decide) (ZC (by decide) (ZC (by decide) (ZC (by decide) (ZC (by decide) (fun _ hm=>nomatch hm))))))))))))),fun RO=>?_⟩
  have z:=HU w b RO x1 x2 x3 x4 x5 x6 x7 t1 t2 t3 t4 t5 t6 t7 sc ep
  rw [ZQ x1,ZQ x2,ZQ x3,ZQ x4,ZQ x5,ZQ x6,ZQ x7] at z
  have y:(Zz sc [.int x1 t1,.int x2 t2,.int x3 t3,.int x4 t4,.int x5 t5,.int x6 t6,.int x7 t7] ep (([fm x1,fm x2,fm x3,fm x4,fm x5,fm x6,fm x7,9,3,4,18,20]:List Nat).map Int.ofNat)).ok (wf w b) RO 600:=z
  rw [WU] at y
  exact y
 | [v1,v2,v3,v4,v5,v6,v7,v8],h,hz=>by
  obtain ⟨x1,t1,rfl⟩:=h _ (.head _)
  obtain ⟨x2,t2,rfl⟩:=h.tail _ (.head _)
  obtain ⟨x3,t3,rfl⟩:=h.tail.tail _ (.head _)
  obtain ⟨x4,t4,rfl⟩:=h.tail.tail.tail _ (.head _)
  obtain ⟨x5,t5,rfl⟩:=h.tail.tail.tail.tail _ (.head _)
  obtain ⟨x6,t6,rfl⟩:=h.tail.tail.tail.tail.tail _ (.head _)
  obtain ⟨x7,t7,rfl⟩:=h.tail.tail.tail.tail.tail.tail _ (.head _)
  obtain ⟨x8,t8,rfl⟩:=h.tail.tail.tail.tail.tail.tail.tail _ (.head _)
  refine ⟨[fm x1,fm x2,fm x3,fm x4,fm x5,fm x6,fm x7,fm x8,3,4,18,20],rfl,(ZC (ZT _) (ZC (ZT _) (ZC (ZT _) (ZC (ZT _) (ZC (ZT _) (ZC (ZT _) (ZC (ZT _) (ZC (ZT _) (ZC (by decide) (ZC (by decide) (ZC (by decide) (ZC (by decide) (fun _ hm=>nomatch hm))))))))))))),fun RO=>?_⟩
  have z:=HV w b RO x1 x2 x3 x4 x5 x6 x7 x8 t1 t2 t3 t4 t5 t6 t7 t8 sc ep
  rw [ZQ x1,ZQ x2,ZQ x3,ZQ x4,ZQ x5,ZQ x6,ZQ x7,ZQ x8] at z
  have y:(Zz sc [.int x1 t1,.int x2 t2,.int x3 t3,.int x4 t4,.int x5 t5,.int x6 t6,.int x7 t7,.int x8 t8] ep (([fm x1,fm x2,fm x3,fm x4,fm x5,fm x6,fm x7,fm x8,3,4,18,20]:List Nat).map Int.ofNat)).ok (wf w b) RO 600:=z
  rw [WU] at y
  exact y
 | [v1,v2,v3,v4,v5,v6,v7,v8,v9],h,hz=>by
  obtain ⟨x1,t1,rfl⟩:=h _ (.head _)
  obtain ⟨x2,t2,rfl⟩:=h.tail _ (.head _)
  obtain ⟨x3,t3,rfl⟩:=h.tail.tail _ (.head _)
  obtain ⟨x4,t4,rfl⟩:=h.tail.tail.tail _ (.head _)
  obtain ⟨x5,t5,rfl⟩:=h.tail.tail.tail.tail _ (.head _)
  obtain ⟨x6,t6,rfl⟩:=h.tail.tail.tail.tail.tail _ (.head _)
  obtain ⟨x7,t7,rfl⟩:=h.tail.tail.tail.tail.tail.tail _ (.head _)
  obtain ⟨x8,t8,rfl⟩:=h.tail.tail.tail.tail.tail.tail.tail _ (.head _)
  obtain ⟨x9,t9,rfl⟩:=h.tail.tail.tail.tail.tail.tail.tail.tail _ (.head _)
  refine ⟨[fm x1,fm x2,fm x3,fm x4,fm x5,fm x6,fm x7,fm x8,fm x9,4,18,20],rfl,(ZC (ZT _) (ZC (ZT _) (ZC (ZT _) (ZC (ZT _) (ZC (ZT _) (ZC (ZT _) (ZC (ZT _) (ZC (ZT _) (ZC (ZT _) (ZC (by decide) (ZC (by decide) (ZC (by decide) (fun _ hm=>nomatch hm))))))))))))),fun RO=>?_⟩
  have z:=HW w b RO x1 x2 x3 x4 x5 x6 x7 x8 x9 t1 t2 t3 t4 t5 t6 t7 t8 t9 sc ep
  rw [ZQ x1,ZQ x2,ZQ x3,ZQ x4,ZQ x5,ZQ x6,ZQ x7,ZQ x8,ZQ x9] at z
  have y:(Zz sc [.int x1 t1,.int x2 t2,.int x3 t3,.int x4 t4,.int x5 t5,.int x6 t6,.int x7 t7,.int x8 t8,.int x9 t9] ep (([fm x1,fm x2,fm x3,fm x4,fm x5,fm x6,fm x7,fm x8,fm x9,4,18,20]:List Nat).map Int.ofNat)).ok (wf w b) RO 600:=z
  rw [WU] at y
  exact y
 | [v1,v2,v3,v4,v5,v6,v7,v8,v9,v10],h,hz=>by
  obtain ⟨x1,t1,rfl⟩:=h _ (.head _)
  obtain ⟨x2,t2,rfl⟩:=h.tail _ (.head _)
  obtain ⟨x3,t3,rfl⟩:=h.tail.tail _ (.head _)
  obtain ⟨x4,t4,rfl⟩:=h.tail.tail.tail _ (.head _)
  obtain ⟨x5,t5,rfl⟩:=h.tail.tail.tail.tail _ (.head _)
  obtain ⟨x6,t6,rfl⟩:=h.tail.tail.tail.tail.tail _ (.head _)
  obtain ⟨x7,t7,rfl⟩:=h.tail.tail.tail.tail.tail.tail _ (.head _)
  obtain ⟨x8,t8,rfl⟩:=h.tail.tail.tail.tail.tail.tail.tail _ (.head _)
  obtain ⟨x9,t9,rfl⟩:=h.tail.tail.tail.tail.tail.tail.tail.tail _ (.head _)
  obtain ⟨x10,t10,rfl⟩:=h.tail.tail.tail.tail.tail.tail.tail.tail.tail _ (.head _)
  refine ⟨[fm x1,fm x2,fm x3,fm x4,fm x5,fm x6,fm x7,fm x8,fm x9,fm x10,18,20],rfl,(ZC (ZT _) (ZC (ZT _) (ZC (ZT _) (ZC (ZT _) (ZC (ZT _) (ZC (ZT _) (ZC (ZT _) (ZC (ZT _) (ZC (ZT _) (ZC (ZT _) (ZC (by decide) (ZC (by decide) (fun _ hm=>nomatch hm))))))))))))),fun RO=>?_⟩
  have z:=J7 w b RO x1 x2 x3 x4 x5 x6 x7 x8 x9 x10 t1 t2 t3 t4 t5 t6 t7 t8 t9 t10 sc ep
  rw [ZQ x1,ZQ x2,ZQ x3,ZQ x4,ZQ x5,ZQ x6,ZQ x7,ZQ x8,ZQ x9,ZQ x10] at z
  have y:(Zz sc [.int x1 t1,.int x2 t2,.int x3 t3,.int x4 t4,.int x5 t5,.int x6 t6,.int x7 t7,.int x8 t8,.int x9 t9,.int x10 t10] ep (([fm x1,fm x2,fm x3,fm x4,fm x5,fm x6,fm x7,fm x8,fm x9,fm x10,18,20]:List Nat).map Int.ofNat)).ok (wf w b) RO 600:=z
  rw [WU] at y
  exact y
 | [v1,v2,v3,v4,v5,v6,v7,v8,v9,v10,v11],h,hz=>by
  obtain ⟨x1,t1,rfl⟩:=h _ (.head _)
  obtain ⟨x2,t2,rfl⟩:=h.tail _ (.head _)
  obtain ⟨x3,t3,rfl⟩:=h.tail.tail _ (.head _)
  obtain ⟨x4,t4,rfl⟩:=h.tail.tail.tail _ (.head _)
  obtain ⟨x5,t5,rfl⟩:=h.tail.tail.tail.tail _ (.head _)
  obtain ⟨x6,t6,rfl⟩:=h.tail.tail.tail.tail.tail _ (.head _)
  obtain ⟨x7,t7,rfl⟩:=h.tail.tail.tail.tail.tail.tail _ (.head _)
  obtain ⟨x8,t8,rfl⟩:=h.tail.tail.tail.tail.tail.tail.tail _ (.head _)
  obtain ⟨x9,t9,rfl⟩:=h.tail.tail.tail.tail.tail.tail.tail.tail _ (.head _)
  obtain ⟨x10,t10,rfl⟩:=h.tail.tail.tail.tail.tail.tail.tail.tail.tail _ (.head _)
  obtain ⟨x11,t11,rfl⟩:=h.tail.tail.tail.tail.tail.tail.tail.tail.tail.tail _ (.head _)
  refine ⟨[fm x1,fm x2,fm x3,fm x4,fm x5,fm x6,fm x7,fm x8,fm x9,fm x10,fm x11,20],rfl,(ZC (ZT _) (ZC (ZT _) (ZC (ZT _) (ZC (ZT _) (ZC (ZT _) (ZC (ZT _) (ZC (ZT _) (ZC (ZT _) (ZC (ZT _) (ZC (ZT _) (ZC (ZT _) (ZC (by decide) (fun _ hm=>nomatch hm))))))))))))),fun RO=>?_⟩
  have z:=J8 w b RO x1 x2 x3 x4 x5 x6 x7 x8 x9 x10 x11 t1 t2 t3 t4 t5 t6 t7 t8 t9 t10 t11 sc ep
  rw [ZQ x1,ZQ x2,ZQ x3,ZQ x4,ZQ x5,ZQ x6,ZQ x7,ZQ x8,ZQ x9,ZQ x10,ZQ x11] at z
  have y:(Zz sc [.int x1 t1,.int x2 t2,.int x3 t3,.int x4 t4,.int x5 t5,.int x6 t6,.int x7 t7,.int x8 t8,.int x9 t9,.int x10 t10,.int x11 t11] ep (([fm x1,fm x2,fm x3,fm x4,fm x5,fm x6,fm x7,fm x8,fm x9,fm x10,fm x11,20]:List Nat).map Int.ofNat)).ok (wf w b) RO 600:=z
  rw [WU] at y
  exact y
 | v1::v2::v3::v4::v5::v6::v7::v8::v9::v10::v11::v12::vs,h,hz=>by
  obtain ⟨x1,t1,rfl⟩:=h _ (.head _)
  obtain ⟨x2,t2,rfl⟩:=h.tail _ (.head _)
  obtain ⟨x3,t3,rfl⟩:=h.tail.tail _ (.head _)
  obtain ⟨x4,t4,rfl⟩:=h.tail.tail.tail _ (.head _)
  obtain ⟨x5,t5,rfl⟩:=h.tail.tail.tail.tail _ (.head _)
  obtain ⟨x6,t6,rfl⟩:=h.tail.tail.tail.tail.tail _ (.head _)
  obtain ⟨x7,t7,rfl⟩:=h.tail.tail.tail.tail.tail.tail _ (.head _)
  obtain ⟨x8,t8,rfl⟩:=h.tail.tail.tail.tail.tail.tail.tail _ (.head _)
  obtain ⟨x9,t9,rfl⟩:=h.tail.tail.tail.tail.tail.tail.tail.tail _ (.head _)
  obtain ⟨x10,t10,rfl⟩:=h.tail.tail.tail.tail.tail.tail.tail.tail.tail _ (.head _)
  obtain ⟨x11,t11,rfl⟩:=h.tail.tail.tail.tail.tail.tail.tail.tail.tail.tail _ (.head _)
  obtain ⟨x12,t12,rfl⟩:=h.tail.tail.tail.tail.tail.tail.tail.tail.tail.tail.tail _ (.head _)
  refine ⟨[fm x1,fm x2,fm x3,fm x4,fm x5,fm x6,fm x7,fm x8,fm x9,fm x10,fm x11,fm x12],rfl,(ZC (ZT _) (ZC (ZT _) (ZC (ZT _) (ZC (ZT _) (ZC (ZT _) (ZC (ZT _) (ZC (ZT _) (ZC (ZT _) (ZC (ZT _) (ZC (ZT _) (ZC (ZT _) (ZC (ZT _) (fun _ hm=>nomatch hm))))))))))))),fun RO=>?_⟩
  have z:=J9 w b RO x1 x2 x3 x4 x5 x6 x7 x8 x9 x10 x11 x12 t1 t2 t3 t4 t5 t6 t7 t8 t9 t10 t11 t12 sc ep _ rfl hz
  rw [ZQ x1,ZQ x2,ZQ x3,ZQ x4,ZQ x5,ZQ x6,ZQ x7,ZQ x8,ZQ x9,ZQ x10,ZQ x11,ZQ x12] at z
  have y:(Zz sc (.int x1 t1 :: .int x2 t2 :: .int x3 t3 :: .int x4 t4 :: .int x5 t5 :: .int x6 t6 :: .int x7 t7 :: .int x8 t8 :: .int x9 t9 :: .int x10 t10 :: .int x11 t11 :: .int x12 t12::vs) ep (([fm x1,fm x2,fm x3,fm x4,fm x5,fm x6,fm x7,fm x8,fm x9,fm x10,fm x11,fm x12]:List Nat).map Int.ofNat)).ok (wf w b) RO 600:=z
  rw [WU] at y
  exact y
theorem Ks (w:World) (b:Bool) (RO:ZA) (T t:Nat):(Ze 289 T t (T % 2) (T / 2 % 2) (T / 4 % 3)).ok (wf w b) RO 800:=by
 have h3:T / 4 % 3=0∨T / 4 % 3=1∨T / 4 % 3=2:=by omega
 rcases Nat.mod_two_eq_zero_or_one T with ha | ha<;>rcases Nat.mod_two_eq_zero_or_one (T / 2) with hc | hc<;>rcases h3 with hg | hg | hg<;>rw [ha,hc,hg]
 ·exact P5 w b RO T _ _ t ha rfl hc rfl hg
 ·exact P6 w b RO T _ _ t ha rfl hc rfl hg
 ·exact P7 w b RO T _ _ t ha rfl hc rfl hg
 ·exact P8 w b RO T _ _ t ha rfl hc rfl hg
 ·exact P9 w b RO T _ _ t ha rfl hc rfl hg
 ·exact OA w b RO T _ _ t ha rfl hc rfl hg
 ·exact OB w b RO T _ _ t ha rfl hc rfl hg
 ·exact OC w b RO T _ _ t ha rfl hc rfl hg
 ·exact OD w b RO T _ _ t ha rfl hc rfl hg
 ·exact OF w b RO T _ _ t ha rfl hc rfl hg
 ·exact OG w b RO T _ _ t ha rfl hc rfl hg
 ·exact OH w b RO T _ _ t ha rfl hc rfl hg
theorem Kt (w:World) (b:Bool) (RO:ZA) (T t:Nat):(Ze 296 T t (T % 2) (T / 2 % 2) (T / 4 % 3)).ok (wf w b) RO 800:=by
 have h3:T / 4 % 3=0∨T / 4 % 3=1∨T / 4 % 3=2:=by omega
 rcases Nat.mod_two_eq_zero_or_one T with ha | ha<;>rcases Nat.mod_two_eq_zero_or_one (T / 2) with hc | hc<;>rcases h3 with hg | hg | hg<;>rw [ha,hc,hg]
 ·exact Pt w b RO T _ _ t ha rfl hc rfl hg
 ·exact Pu w b RO T _ _ t ha rfl hc rfl hg
 ·exact Pv w b RO T _ _ t ha rfl hc rfl hg
 ·exact Pw w b RO T _ _ t ha rfl hc rfl hg
 ·exact Px w b RO T _ _ t ha rfl hc rfl hg
 ·exact Py w b RO T _ _ t ha rfl hc rfl hg
 ·exact Pz w b RO T _ _ t ha rfl hc rfl hg
 ·exact P0 w b RO T _ _ t ha rfl hc rfl hg
 ·exact P1 w b RO T _ _ t ha rfl hc rfl hg
 ·exact P2 w b RO T _ _ t ha rfl hc rfl hg
 ·exact P3 w b RO T _ _ t ha rfl hc rfl hg
 ·exact P4 w b RO T _ _ t ha rfl hc rfl hg
theorem Mj (ls:List (List Nat)):Builtin.Str.glued ⟨#[]⟩ (ls.map fun l=>(⟨⟨l⟩⟩:Str))=⟨⟨ls.flatten⟩⟩:=by
 have key:∀ (ls:List (List Nat)) (acc:List Nat),(ls.map fun l=>(⟨⟨l⟩⟩:Str)).foldl (fun acc p=>acc++(#[]:Array Nat)++p.cps) ⟨acc⟩=⟨acc++ls.flatten⟩:=by
  intro ls
  induction ls with
  | nil=>intro acc; simp
  | cons l ls ih=>
   intro acc
   rw [List.map_cons,List.foldl_cons]
   have e:(⟨acc⟩++(#[]:Array Nat)++(⟨l⟩:Array Nat))=⟨acc++l⟩:=by simp
   show List.foldl _ (⟨acc⟩++(#[]:Array Nat)++(⟨l⟩:Array Nat)) _=_
   rw [e,ih,List.flatten_cons,List.append_assoc]
 cases ls with
 | nil=>rfl
 | cons l ls=>
  show (⟨(ls.map fun l=>(⟨⟨l⟩⟩:Str)).foldl (fun acc p=>acc++(#[]:Array Nat)++p.cps) ⟨l⟩⟩:Str)=_
  rw [key,List.flatten_cons]
theorem Sr:∀ (ls:List (List Nat)) (n:Nat),(ls.map fun l=>(⟨⟨l⟩⟩:Str)).foldl (fun (a:Nat) (p:Str)=>a + p.length + (⟨#[]⟩:Str).length) n=n + ls.flatten.length
 | [],_=>rfl
 | l::ls,n=>by
  rw [List.map_cons,List.foldl_cons,Sr ls,List.flatten_cons,List.length_append]
  show n + l.length + 0 + _=_
  omega
theorem Op (m:Nat):∀ (ls:List (List Nat)),(∀ l∈ls,l.length≤m)→ls.flatten.length≤m * ls.length
 | [],_=>Nat.zero_le _
 | l::ls,h=>by
  have h1:=h l (.head _)
  have h2:=Op m ls fun l' hl=>h l' (.tail _ hl)
  rw [List.flatten_cons,List.length_append,List.length_cons,Nat.mul_succ]
  omega
noncomputable def W6 (p:Nat × Nat):List Nat:=ZZ p.1 p.2++[10]
noncomputable def Okp (ps:List (Nat × Nat)):Prop:=∀ p∈ps,p.1 < 12∧p.2 < 2
noncomputable def Yu (ps:List (Nat × Nat)):List Nat:=(ps.map W6).flatten
theorem Oq {p:Nat × Nat} (h:p.1 < 12∧p.2 < 2):2≤(W6 p).length∧(W6 p).length≤11:=by
 have:=Oh p.1 h.1 p.2 h.2
 unfold W6
 rw [List.length_append,List.length_cons,List.length_nil]
 omega
theorem Ku {ps:List (Nat × Nat)} (h:Okp ps):(Yu ps).length≤11 * ps.length:=by
 have:=Op 11 (ps.map W6) fun l hl=>by
  obtain ⟨p,hp,rfl⟩:=List.mem_map.mp hl
  exact (Oq (h p hp)).2
 rw [List.length_map] at this
 exact this
theorem GA:∀ k,k < 12→∀ q,q < 2→∀ d∈ZZ k q++[10],d∈chs:=by decide +kernel
noncomputable def Mk:Bool→List (Nat × Nat)→List Nat
 | p,[]=>chE p
 | p,(k,q)::l=>chW p++(chV k q++Mk (quo k q) l)
theorem Or:∀ (ps:List (Nat × Nat)) (p:Bool),chE p++Yu ps=Mk p ps
 | [],p=>by rw [show Yu []=[] from rfl,List.append_nil]; rfl
 | (k,q)::ps,p=>by
  show chE p++(W6 (k,q)++Yu ps)=chW p++(chV k q++Mk (quo k q) ps)
  rw [← Or ps (quo k q),show W6 (k,q)=ZZ k q++[10] from rfl,Ha]
  cases p<;>simp [chE,chW]
theorem FK (ps:List (Nat × Nat)) (h:Okp ps) (hn:ps≠[]) (hl:ps.length≤12) (ρ:Nat→Nat):Rem ⟨⟨Yu ps⟩⟩ (ls0 ρ) (Mk false ps):=by
 have hle:=Ku h
 refine ⟨?_,Nat.zero_le _,?_,?_,?_⟩
 ·show Yu ps=_
  exact Or ps false
 ·show 1 < (Yu ps).length
  cases ps with
  | nil=>exact absurd rfl hn
  | cons p ps=>
   have:=Oq (h p (.head _))
   show 1 < (W6 p++Yu ps).length
   rw [List.length_append]
   omega
 ·show (Yu ps).length≤1000
  omega
 ·intro d hd
  obtain ⟨l,hl',hdl⟩:=List.mem_flatten.mp (show d∈(ps.map W6).flatten from hd)
  obtain ⟨p,hp,rfl⟩:=List.mem_map.mp hl'
  exact GA p.1 (h p hp).1 p.2 (h p hp).2 d hdl
theorem GB (w:World) (b:Bool) (RO:ZA) (a t:Nat) (vs:List Value) (ep:Nat) (ps:List (Nat × Nat)) (l:List (Str × Tok)) (hv:vs=strValues l) (hp:l.map (·.1)=(ps.map W6).map fun l=>(⟨⟨l⟩⟩:Str)) (h:Okp ps) (h2:2≤l.length) (hl:ps.length≤12):(VP a t vs ep ⟨⟨Yu ps⟩⟩).ok (wf w b) RO 965:=by
 have hle:=Ku h
 refine HZ w b RO a t vs ep _ l hv h2 ?_ ?_ ?_
 ·rw [hp,Mj]
  rfl
 ·rw [hp]
  have e:(((ps.map W6).map fun l=>(⟨⟨l⟩⟩:Str)).toArray.foldl (fun (a:Nat) (p:Str)=>a + p.length + (⟨#[]⟩:Str).length) 0)=(Yu ps).length:=by
   rw [List.foldl_toArray,Sr,Nat.zero_add]
   rfl
  rw [e]
  unfold Builtin.Str.tooLong
  refine decide_eq_false ?_
  have:=big (n:=(Yu ps).length) (by omega)
  omega
 ·show (Yu ps).length≤1000
  omega
end
section
open PySem PySem.W PySem.W.X PySem.Calls PyProof.Rows PySem.Spec
theorem Ext.wide {N M M':ZA} {h h':Heap} (E:Ext M h M' h'):Ext (N++M) h M' h':=⟨fun a o ho ha=>E.keep a o ho fun x=>ha (by rw [List.map_append]; exact List.mem_append.mpr (.inr x)),fun p hp=>by
 rcases E.fresh p hp with x | x
 ·exact .inl (by rw [List.map_append]; exact List.mem_append.mpr (.inr x))
 ·exact .inr x,E.size⟩
theorem FM {ns:List Nat} (h:ns.length=12):∃ n1 n2 n3 n4 n5 n6 n7 n8 n9 n10 n11 n12,ns=[n1,n2,n3,n4,n5,n6,n7,n8,n9,n10,n11,n12]:=by
 match ns,h with
 | [n1,n2,n3,n4,n5,n6,n7,n8,n9,n10,n11,n12],_=>exact ⟨n1,n2,n3,n4,n5,n6,n7,n8,n9,n10,n11,n12,rfl⟩
theorem Kv:∀ (ns:List Nat),(∀ n∈ns,n < 1000000)→ns.sum≤1000000 * ns.length
 | [],_=>Nat.zero_le _
 | n::ns,h=>by
  have h1:=h n (.head _)
  have h2:=Kv ns fun m hm=>h m (.tail _ hm)
  rw [List.sum_cons,List.length_cons,Nat.mul_succ]
  omega
theorem FN:∀ (ns:List Nat),Okp (ns.map fun n=>(n % 6 + 6 * (n / 6 % 2),n / 12 % 2)):=fun ns p hp=>by
 obtain ⟨n,_,rfl⟩:=List.mem_map.mp hp
 exact ⟨by show n % 6 + 6 * (n / 6 % 2) < 12; omega,by show n / 12 % 2 < 2; omega⟩
theorem Fq:∀ (ns:List Nat),∀ k∈ns.map fun n=>n % 6 + 6 * (n / 6 % 2),k < 12:=fun ns k hk=>by
 obtain ⟨n,_,rfl⟩:=List.mem_map.mp hk
 omega
theorem Ia (w:World) (b:Bool) (RO:ZA) (sc ep t0 a0 a1 a2 a3:Nat) (vs:List Value) (hv:WJ vs) (hz:vs.length≤1000) {cc:Code} (hc:Zg cc) {h:Heap} {g:Array GenState} {d:Drawn} {t:Nat} {os:OsState} {Q:Flow→Shared→Prop} {E:Value→Shared→Prop} (ht:0 < t) (hM:Holds (wf w b).params RO (Vf w sc ep t0 a0 a1 a2 a3 vs) h)
  (hQ:∀ M' h' g' t' v,0 < t'→Holds (wf w b).params RO M' h'→Ext (Vf w sc ep t0 a0 a1 a2 a3 vs) h M' h'→(274,tabObj #[(.int 162 0),(.int 4 0),(.ref v)])∈M'→(sc,ZB vs ep)∈M'→(AllBare g→AllBare g')→Q (.ret (.bool true)) ⟨h',g',d,t',os⟩) :
  wpOwn (model PP (wf w b)) (Z2 390) cc (execs (Zf (wf w b).params) (YR (wf w b).params a0 a1 a2 a3)) Q E ⟨h,g,d,t,os⟩:=by
 obtain ⟨ns,hl,hs,hnum⟩:=EO w b sc ep vs hv hz
 obtain ⟨n1,n2,n3,n4,n5,n6,n7,n8,n9,n10,n11,n12,rfl⟩:=FM hl
 have hsum:=Kv _ hs
 obtain ⟨T,hT⟩:∃ T,List.sum [n1,n2,n3,n4,n5,n6,n7,n8,n9,n10,n11,n12]=T:=⟨_,rfl⟩
 rw [hT] at hsum
 have hb:T < 1000000000000000000:=by
  have:([n1,n2,n3,n4,n5,n6,n7,n8,n9,n10,n11,n12]:List Nat).length=12:=rfl
  omega
 have hp:Okp [((n1 % 6 + 6 * (n1 / 6 % 2)),(n1 / 12 % 2)),((n2 % 6 + 6 * (n2 / 6 % 2)),(n2 / 12 % 2)),((n3 % 6 + 6 * (n3 / 6 % 2)),(n3 / 12 % 2)),((n4 % 6 + 6 * (n4 / 6 % 2)),(n4 / 12 % 2)),((n5 % 6 + 6 * (n5 / 6 % 2)),(n5 / 12 % 2)),((n6 % 6 + 6 * (n6 / 6 % 2)),(n6 / 12 % 2)),((n7 % 6 + 6 * (n7 / 6 % 2)),(n7 / 12 % 2)),((n8 % 6 + 6 * (n8 / 6 % 2)),(n8 / 12 % 2)),((n9 % 6 + 6 * (n9 / 6 % 2)),(n9 / 12 % 2)),((n10 % 6 + 6 * (n10 / 6 % 2)),(n10 / 12 % 2)),((n11 % 6 + 6 * (n11 / 6 % 2)),(n11 / 12 % 2)),((n12 % 6 + 6 * (n12 / 6 % 2)),(n12 / 12 % 2))]:=FN [n1,n2,n3,n4,n5,n6,n7,n8,n9,n10,n11,n12]
 have A:=Hf w b RO sc ep t0 a0 a1 a2 a3 vs n1 n2 n3 n4 n5 n6 n7 n8 n9 n10 n11 n12 T (T % 2) (T / 2 % 2) (T / 4 % 3) (n1 % 6 + 6 * (n1 / 6 % 2)) (n2 % 6 + 6 * (n2 / 6 % 2)) (n3 % 6 + 6 * (n3 / 6 % 2)) (n4 % 6 + 6 * (n4 / 6 % 2)) (n5 % 6 + 6 * (n5 / 6 % 2)) (n6 % 6 + 6 * (n6 / 6 % 2)) (n7 % 6 + 6 * (n7 / 6 % 2)) (n8 % 6 + 6 * (n8 / 6 % 2)) (n9 % 6 + 6 * (n9 / 6 % 2)) (n10 % 6 + 6 * (n10 / 6 % 2)) (n11 % 6 + 6 * (n11 / 6 % 2)) (n12 % 6 + 6 * (n12 / 6 % 2)) (n1 / 12 % 2) (n2 / 12 % 2) (n3 / 12 % 2) (n4 / 12 % 2) (n5 / 12 % 2) (n6 / 12 % 2) (n7 / 12 % 2) (n8 / 12 % 2) (n9 / 12 % 2) (n10 / 12 % 2) (n11 / 12 % 2) (n12 / 12 % 2) (⟨⟨Yu [((n1 % 6 + 6 * (n1 / 6 % 2)),(n1 / 12 % 2)),((n2 % 6 + 6 * (n2 / 6 % 2)),(n2 / 12 % 2)),((n3 % 6 + 6 * (n3 / 6 % 2)),(n3 / 12 % 2)),((n4 % 6 + 6 * (n4 / 6 % 2)),(n4 / 12 % 2)),((n5 % 6 + 6 * (n5 / 6 % 2)),(n5 / 12 % 2)),((n6 % 6 + 6 * (n6 / 6 % 2)),(n6 / 12 % 2)),((n7 % 6 + 6 * (n7 / 6 % 2)),(n7 / 12 % 2)),((n8 % 6 + 6 * (n8 / 6 % 2)),(n8 / 12 % 2)),((n9 % 6 + 6 * (n9 / 6 % 2)),(n9 / 12 % 2)),((n10 % 6 + 6 * (n10 / 6 % 2)),(n10 / 12 % 2)),((n11 % 6 + 6 * (n11 / 6 % 2)),(n11 / 12 % 2)),((n12 % 6 + 6 * (n12 / 6 % 2)),(n12 / 12 % 2))]⟩⟩:Str) hnum hT hb (fun RO' t=>Ks w b RO' T t) (fun RO' t=>Kt w b RO' T t) rfl rfl rfl rfl rfl rfl rfl rfl rfl rfl rfl rfl rfl rfl rfl rfl rfl rfl rfl rfl rfl rfl rfl rfl (fun RO' l t e u=>GB w b RO' l t _ e [((n1 % 6 + 6 * (n1 / 6 % 2)),(n1 / 12 % 2)),((n2 % 6 + 6 * (n2 / 6 % 2)),(n2 / 12 % 2)),((n3 % 6 + 6 * (n3 / 6 % 2)),(n3 / 12 % 2)),((n4 % 6 + 6 * (n4 / 6 % 2)),(n4 / 12 % 2)),((n5 % 6 + 6 * (n5 / 6 % 2)),(n5 / 12 % 2)),((n6 % 6 + 6 * (n6 / 6 % 2)),(n6 / 12 % 2)),((n7 % 6 + 6 * (n7 / 6 % 2)),(n7 / 12 % 2)),((n8 % 6 + 6 * (n8 / 6 % 2)),(n8 / 12 % 2)),((n9 % 6 + 6 * (n9 / 6 % 2)),(n9 / 12 % 2)),((n10 % 6 + 6 * (n10 / 6 % 2)),(n10 / 12 % 2)),((n11 % 6 + 6 * (n11 / 6 % 2)),(n11 / 12 % 2)),((n12 % 6 + 6 * (n12 / 6 % 2)),(n12 / 12 % 2))] [(⟨⟨ZZ (n1 % 6 + 6 * (n1 / 6 % 2)) (n1 / 12 % 2)++[10]⟩⟩,u 0),(⟨⟨ZZ (n2 % 6 + 6 * (n2 / 6 % 2)) (n2 / 12 % 2)++[10]⟩⟩,u 1),(⟨⟨ZZ (n3 % 6 + 6 * (n3 / 6 % 2)) (n3 / 12 % 2)++[10]⟩⟩,u 2),(⟨⟨ZZ (n4 % 6 + 6 * (n4 / 6 % 2)) (n4 / 12 % 2)++[10]⟩⟩,u 3),(⟨⟨ZZ (n5 % 6 + 6 * (n5 / 6 % 2)) (n5 / 12 % 2)++[10]⟩⟩,u 4),(⟨⟨ZZ (n6 % 6 + 6 * (n6 / 6 % 2)) (n6 / 12 % 2)++[10]⟩⟩,u 5),(⟨⟨ZZ (n7 % 6 + 6 * (n7 / 6 % 2)) (n7 / 12 % 2)++[10]⟩⟩,u 6),(⟨⟨ZZ (n8 % 6 + 6 * (n8 / 6 % 2)) (n8 / 12 % 2)++[10]⟩⟩,u 7),(⟨⟨ZZ (n9 % 6 + 6 * (n9 / 6 % 2)) (n9 / 12 % 2)++[10]⟩⟩,u 8),(⟨⟨ZZ (n10 % 6 + 6 * (n10 / 6 % 2)) (n10 / 12 % 2)++[10]⟩⟩,u 9),(⟨⟨ZZ (n11 % 6 + 6 * (n11 / 6 % 2)) (n11 / 12 % 2)++[10]⟩⟩,u 10),(⟨⟨ZZ (n12 % 6 + 6 * (n12 / 6 % 2)) (n12 / 12 % 2)++[10]⟩⟩,u 11)] rfl rfl hp (by show 2≤12; decide) (Nat.le_refl 12)) (fun ρ=>FK [((n1 % 6 + 6 * (n1 / 6 % 2)),(n1 / 12 % 2)),((n2 % 6 + 6 * (n2 / 6 % 2)),(n2 / 12 % 2)),((n3 % 6 + 6 * (n3 / 6 % 2)),(n3 / 12 % 2)),((n4 % 6 + 6 * (n4 / 6 % 2)),(n4 / 12 % 2)),((n5 % 6 + 6 * (n5 / 6 % 2)),(n5 / 12 % 2)),((n6 % 6 + 6 * (n6 / 6 % 2)),(n6 / 12 % 2)),((n7 % 6 + 6 * (n7 / 6 % 2)),(n7 / 12 % 2)),((n8 % 6 + 6 * (n8 / 6 % 2)),(n8 / 12 % 2)),((n9 % 6 + 6 * (n9 / 6 % 2)),(n9 / 12 % 2)),((n10 % 6 + 6 * (n10 / 6 % 2)),(n10 / 12 % 2)),((n11 % 6 + 6 * (n11 / 6 % 2)),(n11 / 12 % 2)),((n12 % 6 + 6 * (n12 / 6 % 2)),(n12 / 12 % 2))] hp (List.cons_ne_nil _ _) (Nat.le_refl 12) ρ)
 rw [← List.take_append_drop 7 (Zf (wf w b).params),Sm]
 refine wpOwn_bind (Vz A (by decide) hc ht hM fun r M1 h1 g1 t1 ht1 k1' hM1 hE1 hB1=>?_)
 obtain ⟨tx,z,r2,r3,S,hrem,u,rfl,rfl,_⟩:=k1'
 refine ⟨_,rfl,?_⟩
 show wpOwn _ _ cc (execs ((Zf (wf w b).params).drop 7) _) Q E _
 rw [Ff]
 refine wpOwn_bind (m:=exec (KM (wf w b).params) _) (Gz w b RO sc ep t0 a0 a1 a2 a3 vs T (T % 2) (T / 2 % 2) (T / 4 % 3) (n1 % 6 + 6 * (n1 / 6 % 2)) (n2 % 6 + 6 * (n2 / 6 % 2)) (n3 % 6 + 6 * (n3 / 6 % 2)) (n4 % 6 + 6 * (n4 / 6 % 2)) (n5 % 6 + 6 * (n5 / 6 % 2)) (n6 % 6 + 6 * (n6 / 6 % 2)) (n7 % 6 + 6 * (n7 / 6 % 2)) (n8 % 6 + 6 * (n8 / 6 % 2)) (n9 % 6 + 6 * (n9 / 6 % 2)) (n10 % 6 + 6 * (n10 / 6 % 2)) (n11 % 6 + 6 * (n11 / 6 % 2)) (n12 % 6 + 6 * (n12 / 6 % 2)) (⟨⟨Yu [((n1 % 6 + 6 * (n1 / 6 % 2)),(n1 / 12 % 2)),((n2 % 6 + 6 * (n2 / 6 % 2)),(n2 / 12 % 2)),((n3 % 6 + 6 * (n3 / 6 % 2)),(n3 / 12 % 2)),((n4 % 6 + 6 * (n4 / 6 % 2)),(n4 / 12 % 2)),((n5 % 6 + 6 * (n5 / 6 % 2)),(n5 / 12 % 2)),((n6 % 6 + 6 * (n6 / 6 % 2)),(n6 / 12 % 2)),((n7 % 6 + 6 * (n7 / 6 % 2)),(n7 / 12 % 2)),((n8 % 6 + 6 * (n8 / 6 % 2)),(n8 / 12 % 2)),((n9 % 6 + 6 * (n9 / 6 % 2)),(n9 / 12 % 2)),((n10 % 6 + 6 * (n10 / 6 % 2)),(n10 / 12 % 2)),((n11 % 6 + 6 * (n11 / 6 % 2)),(n11 / 12 % 2)),((n12 % 6 + 6 * (n12 / 6 % 2)),(n12 / 12 % 2))]⟩⟩:Str) tx z r2 r3 S u hc ht1 hM1 fun h2 g2 t2 ht2 hM2 hE2 hB2=>?_)
 show wpOwn _ _ cc (execs ((Zf (wf w b).params).drop 8) _) Q E _
 have E12:=Ext.trans hE1 hE2
 have hks:∀ k∈[(n1 % 6 + 6 * (n1 / 6 % 2)),(n2 % 6 + 6 * (n2 / 6 % 2)),(n3 % 6 + 6 * (n3 / 6 % 2)),(n4 % 6 + 6 * (n4 / 6 % 2)),(n5 % 6 + 6 * (n5 / 6 % 2)),(n6 % 6 + 6 * (n6 / 6 % 2)),(n7 % 6 + 6 * (n7 / 6 % 2)),(n8 % 6 + 6 * (n8 / 6 % 2)),(n9 % 6 + 6 * (n9 / 6 % 2)),(n10 % 6 + 6 * (n10 / 6 % 2)),(n11 % 6 + 6 * (n11 / 6 % 2)),(n12 % 6 + 6 * (n12 / 6 % 2))],k < 12:=Fq [n1,n2,n3,n4,n5,n6,n7,n8,n9,n10,n11,n12]
 have ha:T % 2 < 2:=Nat.mod_lt _ (by decide)
 have hcc:T / 2 % 2 < 2:=Nat.mod_lt _ (by decide)
 have m:Holds (wf w b).params (ZL w (⟨⟨Yu [((n1 % 6 + 6 * (n1 / 6 % 2)),(n1 / 12 % 2)),((n2 % 6 + 6 * (n2 / 6 % 2)),(n2 / 12 % 2)),((n3 % 6 + 6 * (n3 / 6 % 2)),(n3 / 12 % 2)),((n4 % 6 + 6 * (n4 / 6 % 2)),(n4 / 12 % 2)),((n5 % 6 + 6 * (n5 / 6 % 2)),(n5 / 12 % 2)),((n6 % 6 + 6 * (n6 / 6 % 2)),(n6 / 12 % 2)),((n7 % 6 + 6 * (n7 / 6 % 2)),(n7 / 12 % 2)),((n8 % 6 + 6 * (n8 / 6 % 2)),(n8 / 12 % 2)),((n9 % 6 + 6 * (n9 / 6 % 2)),(n9 / 12 % 2)),((n10 % 6 + 6 * (n10 / 6 % 2)),(n10 / 12 % 2)),((n11 % 6 + 6 * (n11 / 6 % 2)),(n11 / 12 % 2)),((n12 % 6 + 6 * (n12 / 6 % 2)),(n12 / 12 % 2))]⟩⟩:Str) tx z++RO) (MV w sc ep t0 a0 a1 a2 a3 vs T (T % 2) (T / 2 % 2) (T / 4 % 3) [(n1 % 6 + 6 * (n1 / 6 % 2)),(n2 % 6 + 6 * (n2 / 6 % 2)),(n3 % 6 + 6 * (n3 / 6 % 2)),(n4 % 6 + 6 * (n4 / 6 % 2)),(n5 % 6 + 6 * (n5 / 6 % 2)),(n6 % 6 + 6 * (n6 / 6 % 2)),(n7 % 6 + 6 * (n7 / 6 % 2)),(n8 % 6 + 6 * (n8 / 6 % 2)),(n9 % 6 + 6 * (n9 / 6 % 2)),(n10 % 6 + 6 * (n10 / 6 % 2)),(n11 % 6 + 6 * (n11 / 6 % 2)),(n12 % 6 + 6 * (n12 / 6 % 2))] z r2 r3 u S) h2:=Holds.toRO (N:=ZL w (⟨⟨Yu [((n1 % 6 + 6 * (n1 / 6 % 2)),(n1 / 12 % 2)),((n2 % 6 + 6 * (n2 / 6 % 2)),(n2 / 12 % 2)),((n3 % 6 + 6 * (n3 / 6 % 2)),(n3 / 12 % 2)),((n4 % 6 + 6 * (n4 / 6 % 2)),(n4 / 12 % 2)),((n5 % 6 + 6 * (n5 / 6 % 2)),(n5 / 12 % 2)),((n6 % 6 + 6 * (n6 / 6 % 2)),(n6 / 12 % 2)),((n7 % 6 + 6 * (n7 / 6 % 2)),(n7 / 12 % 2)),((n8 % 6 + 6 * (n8 / 6 % 2)),(n8 / 12 % 2)),((n9 % 6 + 6 * (n9 / 6 % 2)),(n9 / 12 % 2)),((n10 % 6 + 6 * (n10 / 6 % 2)),(n10 / 12 % 2)),((n11 % 6 + 6 * (n11 / 6 % 2)),(n11 / 12 % 2)),((n12 % 6 + 6 * (n12 / 6 % 2)),(n12 / 12 % 2))]⟩⟩:Str) tx z) hM2
 rw [← List.take_append_drop 5 ((Zf (wf w b).params).drop 8),List.drop_drop,Sm]
 cases hg:T / 4 % 3 with
 | zero=>
  rw [hg] at m E12
  refine wpOwn_bind (Vz (Ko w b RO sc ep t0 T a0 a1 a2 a3 (T % 2) (T / 2 % 2) (n1 % 6 + 6 * (n1 / 6 % 2)) (n2 % 6 + 6 * (n2 / 6 % 2)) (n3 % 6 + 6 * (n3 / 6 % 2)) (n4 % 6 + 6 * (n4 / 6 % 2)) (n5 % 6 + 6 * (n5 / 6 % 2)) (n6 % 6 + 6 * (n6 / 6 % 2)) (n7 % 6 + 6 * (n7 / 6 % 2)) (n8 % 6 + 6 * (n8 / 6 % 2)) (n9 % 6 + 6 * (n9 / 6 % 2)) (n10 % 6 + 6 * (n10 / 6 % 2)) (n11 % 6 + 6 * (n11 / 6 % 2)) (n12 % 6 + 6 * (n12 / 6 % 2)) tx (⟨⟨Yu [((n1 % 6 + 6 * (n1 / 6 % 2)),(n1 / 12 % 2)),((n2 % 6 + 6 * (n2 / 6 % 2)),(n2 / 12 % 2)),((n3 % 6 + 6 * (n3 / 6 % 2)),(n3 / 12 % 2)),((n4 % 6 + 6 * (n4 / 6 % 2)),(n4 / 12 % 2)),((n5 % 6 + 6 * (n5 / 6 % 2)),(n5 / 12 % 2)),((n6 % 6 + 6 * (n6 / 6 % 2)),(n6 / 12 % 2)),((n7 % 6 + 6 * (n7 / 6 % 2)),(n7 / 12 % 2)),((n8 % 6 + 6 * (n8 / 6 % 2)),(n8 / 12 % 2)),((n9 % 6 + 6 * (n9 / 6 % 2)),(n9 / 12 % 2)),((n10 % 6 + 6 * (n10 / 6 % 2)),(n10 / 12 % 2)),((n11 % 6 + 6 * (n11 / 6 % 2)),(n11 / 12 % 2)),((n12 % 6 + 6 * (n12 / 6 % 2)),(n12 / 12 % 2))]⟩⟩:Str) vs z r2 r3 u S ha hcc hks hrem) (by decide) hc ht2 m fun r M3 h3 g3 t3 ht3 k3' hM3 hE3 hB3=>?_)
  obtain ⟨x0,x1,x2,hF,hK,hR,ρ,rfl,rfl,_⟩:=k3'
  refine ⟨_,rfl,?_⟩
  have E13:=Ext.trans E12 (Ext.wide (N:=ZL w (⟨⟨Yu [((n1 % 6 + 6 * (n1 / 6 % 2)),(n1 / 12 % 2)),((n2 % 6 + 6 * (n2 / 6 % 2)),(n2 / 12 % 2)),((n3 % 6 + 6 * (n3 / 6 % 2)),(n3 / 12 % 2)),((n4 % 6 + 6 * (n4 / 6 % 2)),(n4 / 12 % 2)),((n5 % 6 + 6 * (n5 / 6 % 2)),(n5 / 12 % 2)),((n6 % 6 + 6 * (n6 / 6 % 2)),(n6 / 12 % 2)),((n7 % 6 + 6 * (n7 / 6 % 2)),(n7 / 12 % 2)),((n8 % 6 + 6 * (n8 / 6 % 2)),(n8 / 12 % 2)),((n9 % 6 + 6 * (n9 / 6 % 2)),(n9 / 12 % 2)),((n10 % 6 + 6 * (n10 / 6 % 2)),(n10 / 12 % 2)),((n11 % 6 + 6 * (n11 / 6 % 2)),(n11 / 12 % 2)),((n12 % 6 + 6 * (n12 / 6 % 2)),(n12 / 12 % 2))]⟩⟩:Str) tx z) hE3)
  exact IY w b (ZL w (⟨⟨Yu [((n1 % 6 + 6 * (n1 / 6 % 2)),(n1 / 12 % 2)),((n2 % 6 + 6 * (n2 / 6 % 2)),(n2 / 12 % 2)),((n3 % 6 + 6 * (n3 / 6 % 2)),(n3 / 12 % 2)),((n4 % 6 + 6 * (n4 / 6 % 2)),(n4 / 12 % 2)),((n5 % 6 + 6 * (n5 / 6 % 2)),(n5 / 12 % 2)),((n6 % 6 + 6 * (n6 / 6 % 2)),(n6 / 12 % 2)),((n7 % 6 + 6 * (n7 / 6 % 2)),(n7 / 12 % 2)),((n8 % 6 + 6 * (n8 / 6 % 2)),(n8 / 12 % 2)),((n9 % 6 + 6 * (n9 / 6 % 2)),(n9 / 12 % 2)),((n10 % 6 + 6 * (n10 / 6 % 2)),(n10 / 12 % 2)),((n11 % 6 + 6 * (n11 / 6 % 2)),(n11 / 12 % 2)),((n12 % 6 + 6 * (n12 / 6 % 2)),(n12 / 12 % 2))]⟩⟩:Str) tx z++RO) sc t0 T a0 a1 a2 a3 (1 + T % 2) (1 + T / 2 % 2) (1 + T / 2 % 2) u z vs ep x0 x1 x2 ρ [(n1 % 6 + 6 * (n1 / 6 % 2)),(n2 % 6 + 6 * (n2 / 6 % 2)),(n3 % 6 + 6 * (n3 / 6 % 2)),(n4 % 6 + 6 * (n4 / 6 % 2)),(n5 % 6 + 6 * (n5 / 6 % 2)),(n6 % 6 + 6 * (n6 / 6 % 2)),(n7 % 6 + 6 * (n7 / 6 % 2)),(n8 % 6 + 6 * (n8 / 6 % 2)),(n9 % 6 + 6 * (n9 / 6 % 2)),(n10 % 6 + 6 * (n10 / 6 % 2)),(n11 % 6 + 6 * (n11 / 6 % 2)),(n12 % 6 + 6 * (n12 / 6 % 2))] (Nat.le_refl 12) (by omega) hF hK hR hc ht3 hM3 fun M' h' g' t' ht' hM' hE' h274 hsc hB'=>hQ M' h' g' t' (z 3) ht' (hM'.ro_less fun p hp=>List.mem_append.mpr (.inr hp)) (Ext.trans E13 hE') h274 hsc fun x=>hB' (hB3 (hB2 (hB1 x)))
 | succ gg=>
  rw [hg] at m E12
  refine wpOwn_bind (Vz (Kp w b RO sc ep t0 T a0 a1 a2 a3 (T % 2) (T / 2 % 2) gg (n1 % 6 + 6 * (n1 / 6 % 2)) (n2 % 6 + 6 * (n2 / 6 % 2)) (n3 % 6 + 6 * (n3 / 6 % 2)) (n4 % 6 + 6 * (n4 / 6 % 2)) (n5 % 6 + 6 * (n5 / 6 % 2)) (n6 % 6 + 6 * (n6 / 6 % 2)) (n7 % 6 + 6 * (n7 / 6 % 2)) (n8 % 6 + 6 * (n8 / 6 % 2)) (n9 % 6 + 6 * (n9 / 6 % 2)) (n10 % 6 + 6 * (n10 / 6 % 2)) (n11 % 6 + 6 * (n11 / 6 % 2)) (n12 % 6 + 6 * (n12 / 6 % 2)) tx (⟨⟨Yu [((n1 % 6 + 6 * (n1 / 6 % 2)),(n1 / 12 % 2)),((n2 % 6 + 6 * (n2 / 6 % 2)),(n2 / 12 % 2)),((n3 % 6 + 6 * (n3 / 6 % 2)),(n3 / 12 % 2)),((n4 % 6 + 6 * (n4 / 6 % 2)),(n4 / 12 % 2)),((n5 % 6 + 6 * (n5 / 6 % 2)),(n5 / 12 % 2)),((n6 % 6 + 6 * (n6 / 6 % 2)),(n6 / 12 % 2)),((n7 % 6 + 6 * (n7 / 6 % 2)),(n7 / 12 % 2)),((n8 % 6 + 6 * (n8 / 6 % 2)),(n8 / 12 % 2)),((n9 % 6 + 6 * (n9 / 6 % 2)),(n9 / 12 % 2)),((n10 % 6 + 6 * (n10 / 6 % 2)),(n10 / 12 % 2)),((n11 % 6 + 6 * (n11 / 6 % 2)),(n11 / 12 % 2)),((n12 % 6 + 6 * (n12 / 6 % 2)),(n12 / 12 % 2))]⟩⟩:Str) vs z r2 r3 u S ha hcc hks hrem) (by decide) hc ht2 m fun r M3 h3 g3 t3 ht3 k3' hM3 hE3 hB3=>?_)
  obtain ⟨x0,x1,x2,hF,hK,hR,ρ,rfl,rfl,_⟩:=k3'
  refine ⟨_,rfl,?_⟩
  have E13:=Ext.trans E12 (Ext.wide (N:=ZL w (⟨⟨Yu [((n1 % 6 + 6 * (n1 / 6 % 2)),(n1 / 12 % 2)),((n2 % 6 + 6 * (n2 / 6 % 2)),(n2 / 12 % 2)),((n3 % 6 + 6 * (n3 / 6 % 2)),(n3 / 12 % 2)),((n4 % 6 + 6 * (n4 / 6 % 2)),(n4 / 12 % 2)),((n5 % 6 + 6 * (n5 / 6 % 2)),(n5 / 12 % 2)),((n6 % 6 + 6 * (n6 / 6 % 2)),(n6 / 12 % 2)),((n7 % 6 + 6 * (n7 / 6 % 2)),(n7 / 12 % 2)),((n8 % 6 + 6 * (n8 / 6 % 2)),(n8 / 12 % 2)),((n9 % 6 + 6 * (n9 / 6 % 2)),(n9 / 12 % 2)),((n10 % 6 + 6 * (n10 / 6 % 2)),(n10 / 12 % 2)),((n11 % 6 + 6 * (n11 / 6 % 2)),(n11 / 12 % 2)),((n12 % 6 + 6 * (n12 / 6 % 2)),(n12 / 12 % 2))]⟩⟩:Str) tx z) hE3)
  exact IZ w b (ZL w (⟨⟨Yu [((n1 % 6 + 6 * (n1 / 6 % 2)),(n1 / 12 % 2)),((n2 % 6 + 6 * (n2 / 6 % 2)),(n2 / 12 % 2)),((n3 % 6 + 6 * (n3 / 6 % 2)),(n3 / 12 % 2)),((n4 % 6 + 6 * (n4 / 6 % 2)),(n4 / 12 % 2)),((n5 % 6 + 6 * (n5 / 6 % 2)),(n5 / 12 % 2)),((n6 % 6 + 6 * (n6 / 6 % 2)),(n6 / 12 % 2)),((n7 % 6 + 6 * (n7 / 6 % 2)),(n7 / 12 % 2)),((n8 % 6 + 6 * (n8 / 6 % 2)),(n8 / 12 % 2)),((n9 % 6 + 6 * (n9 / 6 % 2)),(n9 / 12 % 2)),((n10 % 6 + 6 * (n10 / 6 % 2)),(n10 / 12 % 2)),((n11 % 6 + 6 * (n11 / 6 % 2)),(n11 / 12 % 2)),((n12 % 6 + 6 * (n12 / 6 % 2)),(n12 / 12 % 2))]⟩⟩:Str) tx z++RO) sc t0 T a0 a1 a2 a3 (1 + T % 2) (1 + T / 2 % 2) u z vs ep x0 x1 x2 ρ [(n1 % 6 + 6 * (n1 / 6 % 2)),(n2 % 6 + 6 * (n2 / 6 % 2)),(n3 % 6 + 6 * (n3 / 6 % 2)),(n4 % 6 + 6 * (n4 / 6 % 2)),(n5 % 6 + 6 * (n5 / 6 % 2)),(n6 % 6 + 6 * (n6 / 6 % 2)),(n7 % 6 + 6 * (n7 / 6 % 2)),(n8 % 6 + 6 * (n8 / 6 % 2)),(n9 % 6 + 6 * (n9 / 6 % 2)),(n10 % 6 + 6 * (n10 / 6 % 2)),(n11 % 6 + 6 * (n11 / 6 % 2)),(n12 % 6 + 6 * (n12 / 6 % 2))] (Nat.le_refl 12) (by omega) hF hK hR hc ht3 hM3 fun M' h' g' t' ht' hM' hE' h274 hsc hB'=>hQ M' h' g' t' (z 3) ht' (hM'.ro_less fun p hp=>List.mem_append.mpr (.inr hp)) (Ext.trans E13 hE') h274 hsc fun x=>hB' (hB3 (hB2 (hB1 x)))
end
section
open PySem PySem.W
noncomputable def X5 (w:World) (sc ep t0 a0 a1 a2 a3:Nat) (vs:List Value):Con:={ code:=.func (Zf w.params) (YR w.params a0 a1 a2 a3),mem:=Vf w sc ep t0 a0 a1 a2 a3 vs,r:=fun _=>.ok .next,upd:=fun _=>[],new:=fun _=>[] }
noncomputable def Os (sc ep:Nat) (vs:List Value):Con:={ code:=.call (.ref 320) ⟨[.ref sc],[]⟩,mem:=[(274,tabObj #[]),(sc,ZB vs ep)],r:=fun _=>.ok .next,upd:=fun _=>[],new:=fun _=>[] }
theorem Kw (w:World) (b:Bool) (RO:ZA) (sc ep:Nat) (vs:List PySem.Value) (F:PySem.Result→ZA→Prop) (H:∀ ρ:Nat→Nat,ZD (wf w b) RO 390 (X5 w sc ep (ρ 4) (ρ 0) (ρ 1) (ρ 2) (ρ 3) vs).code (X5 w sc ep (ρ 4) (ρ 0) (ρ 1) (ρ 2) (ρ 3) vs).mem F):ZD (wf w b) RO 320 (Os sc ep vs).code (Os sc ep vs).mem F:=
 cL (fd320 _) (.l 420 (.a fun a0=>.a fun a1=>.a fun a2=>.a fun a3=>.t fun t0=>.l 1004 (.e [] (H (rl [a0,a1,a2,a3,t0]))))) (by cases b<;>kernel_rfl)
end
section
open PySem PySem.W PySem.W.X PySem.Calls PyProof.Rows PySem.Spec
noncomputable def Ml (sc ep:Nat) (vs:List Value) (r:Result) (M':ZA):Prop:=r = .ok (.ret (.bool true))∧(∃ v,(274,tabObj #[(.int 162 0),(.int 4 0),(.ref v)])∈M')∧(sc,ZB vs ep)∈M'
theorem Qe (w:World) (b:Bool) (RO:ZA) (sc ep t0 a0 a1 a2 a3:Nat) (vs:List Value) (hv:WJ vs) (hz:vs.length≤1000):ZD (wf w b) RO 390 (X5 w sc ep t0 a0 a1 a2 a3 vs).code (X5 w sc ep t0 a0 a1 a2 a3 vs).mem (Ml sc ep vs):=by
 intro h g d t os R ht hM hR
 refine y_code _ _ _ _ _ _ ?_
 have hn:Zg (X5 w sc ep t0 a0 a1 a2 a3 vs).code:=fun _ q=>by cases q
 show wpOwn _ _ _ (point >>= fun _=>(Sem.onRaise (execs (Zf w.params) (YR w.params a0 a1 a2 a3)) (leaving (YR w.params a0 a1 a2 a3))) >>= fun f=>match f with | .ret v=>ret v | _=>ret .none) _ _ _
 refine wpOwn_bind (wpOwn_of_wpAny (wpAny_point ?_))
 refine wpOwn_bind (VF ?_)
 exact Ia w b RO sc ep t0 a0 a1 a2 a3 vs hv hz hn ht hM fun M' h' g' t' v ht' hM' hE' h274 hsc hB'=>y_pure _ _ _ _ _ _ _ _ _ (hR _ _ _ _ _ ht' ⟨rfl,⟨v,h274⟩,hsc⟩ hM' hE' hB')
theorem EP (w:World) (b:Bool) (RO:ZA) (sc ep:Nat) (vs:List Value) (hv:WJ vs) (hz:vs.length≤1000):ZD (wf w b) RO 320 (.call (.ref 320) ⟨[.ref sc],[]⟩) [(274,tabObj #[]),(sc,ZB vs ep)] (Ml sc ep vs):=
 Kw w b RO sc ep vs _ fun ρ=>Qe w b RO sc ep _ _ _ _ _ vs hv hz
noncomputable def ldQ (t:Sem PySem.Fin):Option Value:=match t with | .load _ q _=>q | _=>none
noncomputable def ldK (t:Sem PySem.Fin):Obj→Sem PySem.Fin:=match t with | .load _ _ k=>k | _=>fun _=>t
noncomputable def alK (t:Sem PySem.Fin):Addr→Sem PySem.Fin:=match t with | .alloc _ k=>k | _=>fun _=>t
noncomputable def frK (t:Sem PySem.Fin):Tok→Sem PySem.Fin:=match t with | .fresh k=>k | _=>fun _=>t
noncomputable def upQ (t:Sem PySem.Fin):Option Value:=match t with | .update _ q _ _=>q | _=>none
noncomputable def upF (t:Sem PySem.Fin):Obj→Obj:=match t with | .update _ _ f _=>f | _=>id
noncomputable def upK (t:Sem PySem.Fin):Unit→Sem PySem.Fin:=match t with | .update _ _ _ k=>k | _=>fun _=>t
noncomputable def sk (w:World) (t:Sem PySem.Fin):Sem PySem.Fin:=skim ⟨PP,w.params⟩ 80 t
noncomputable def T0 (w:World) (sc:Nat):Sem PySem.Fin:=sk w (Yj 320 (fdB w.params 320) ⟨[.ref sc],[]⟩)
noncomputable def T1 (w:World) (sc:Nat):Sem PySem.Fin:=sk w (ldK (T0 w sc) (lkB w.params 319))
noncomputable def T2 (w:World) (sc a0:Nat):Sem PySem.Fin:=sk w (alK (T1 w sc) a0)
noncomputable def T3 (w:World) (sc a0 a1:Nat):Sem PySem.Fin:=sk w (alK (T2 w sc a0) a1)
noncomputable def T4 (w:World) (sc a0 a1 a2:Nat):Sem PySem.Fin:=sk w (alK (T3 w sc a0 a1) a2)
noncomputable def T5 (w:World) (sc a0 a1 a2 a3:Nat):Sem PySem.Fin:=sk w (alK (T4 w sc a0 a1 a2) a3)
noncomputable def T6 (w:World) (sc a0 a1 a2 a3 t:Nat):Sem PySem.Fin:=sk w (frK (T5 w sc a0 a1 a2 a3) t)
noncomputable def T7 (w:World) (sc a0 a1 a2 a3 t:Nat):Sem PySem.Fin:=sk w (ldK (T6 w sc a0 a1 a2 a3 t) (frO [] 0))
noncomputable def T8 (w:World) (sc a0 a1 a2 a3 t:Nat):Sem PySem.Fin:=sk w (upK (T7 w sc a0 a1 a2 a3 t) ())
theorem Fr (w:World) (b:Bool) (sc:Nat):T0 (wf w b) sc = .load 319 (ldQ (T0 (wf w b) sc)) (ldK (T0 (wf w b) sc)):=by cases b<;>kernel_rfl
theorem Fs (w:World) (b:Bool) (sc:Nat):T1 (wf w b) sc = .alloc (frO [] 0) (alK (T1 (wf w b) sc)):=by cases b<;>kernel_rfl
theorem Ft (w:World) (b:Bool) (sc a0:Nat):T2 (wf w b) sc a0 = .alloc (Zn none) (alK (T2 (wf w b) sc a0)):=by cases b<;>kernel_rfl
theorem Fu (w:World) (b:Bool) (sc a0 a1:Nat):T3 (wf w b) sc a0 a1 = .alloc (Zn none) (alK (T3 (wf w b) sc a0 a1)):=by cases b<;>kernel_rfl
theorem Fv (w:World) (b:Bool) (sc a0 a1 a2:Nat):T4 (wf w b) sc a0 a1 a2 = .alloc (Zn none) (alK (T4 (wf w b) sc a0 a1 a2)):=by cases b<;>kernel_rfl
theorem Fw (w:World) (b:Bool) (sc a0 a1 a2 a3:Nat):T5 (wf w b) sc a0 a1 a2 a3 = .fresh (frK (T5 (wf w b) sc a0 a1 a2 a3)):=by cases b<;>kernel_rfl
theorem Fx (w:World) (b:Bool) (sc a0 a1 a2 a3 t:Nat):T6 (wf w b) sc a0 a1 a2 a3 t = .load a0 (ldQ (T6 (wf w b) sc a0 a1 a2 a3 t)) (ldK (T6 (wf w b) sc a0 a1 a2 a3 t)):=by cases b<;>kernel_rfl
theorem Fy (w:World) (b:Bool) (sc a0 a1 a2 a3 t:Nat):T7 (wf w b) sc a0 a1 a2 a3 t = .update a0 (upQ (T7 (wf w b) sc a0 a1 a2 a3 t)) (upF (T7 (wf w b) sc a0 a1 a2 a3 t)) (upK (T7 (wf w b) sc a0 a1 a2 a3 t)):=by cases b<;>kernel_rfl
theorem FO (w:World) (b:Bool) (sc a0 a1 a2 a3 t:Nat):upF (T7 (wf w b) sc a0 a1 a2 a3 t) (frO [] 0)=frO [ent w ⟨#[115,99,114,105,112,116]⟩ t (.ref sc)] 1:=by cases b<;>kernel_rfl
theorem Fz (w:World) (b:Bool) (sc a0 a1 a2 a3 t:Nat):T8 (wf w b) sc a0 a1 a2 a3 t = .pure (.again (X5 w sc 0 0 a0 a1 a2 a3 []).code):=by cases b<;>kernel_rfl
theorem c0 (w:World) (b:Bool) (sc:Nat):sk (wf w b) (Yj 320 (fdB (wf w b).params 320) ⟨[.ref sc],[]⟩) = .load 319 (ldQ (T0 (wf w b) sc)) (ldK (T0 (wf w b) sc)):=Fr w b sc
theorem c1 (w:World) (b:Bool) (sc:Nat):sk (wf w b) (ldK (T0 (wf w b) sc) (lkB (wf w b).params 319)) = .alloc (frO [] 0) (alK (T1 (wf w b) sc)):=Fs w b sc
theorem c2 (w:World) (b:Bool) (sc a0:Nat):sk (wf w b) (alK (T1 (wf w b) sc) a0) = .alloc (Zn none) (alK (T2 (wf w b) sc a0)):=Ft w b sc a0
theorem c3 (w:World) (b:Bool) (sc a0 a1:Nat):sk (wf w b) (alK (T2 (wf w b) sc a0) a1) = .alloc (Zn none) (alK (T3 (wf w b) sc a0 a1)):=Fu w b sc a0 a1
theorem c4 (w:World) (b:Bool) (sc a0 a1 a2:Nat):sk (wf w b) (alK (T3 (wf w b) sc a0 a1) a2) = .alloc (Zn none) (alK (T4 (wf w b) sc a0 a1 a2)):=Fv w b sc a0 a1 a2
theorem c5 (w:World) (b:Bool) (sc a0 a1 a2 a3:Nat):sk (wf w b) (alK (T4 (wf w b) sc a0 a1 a2) a3) = .fresh (frK (T5 (wf w b) sc a0 a1 a2 a3)):=Fw w b sc a0 a1 a2 a3
theorem c6 (w:World) (b:Bool) (sc a0 a1 a2 a3 t:Nat):sk (wf w b) (frK (T5 (wf w b) sc a0 a1 a2 a3) t) = .load a0 (ldQ (T6 (wf w b) sc a0 a1 a2 a3 t)) (ldK (T6 (wf w b) sc a0 a1 a2 a3 t)):=Fx w b sc a0 a1 a2 a3 t
theorem c7 (w:World) (b:Bool) (sc a0 a1 a2 a3 t:Nat):sk (wf w b) (ldK (T6 (wf w b) sc a0 a1 a2 a3 t) (frO [] 0)) = .update a0 (upQ (T7 (wf w b) sc a0 a1 a2 a3 t)) (upF (T7 (wf w b) sc a0 a1 a2 a3 t)) (upK (T7 (wf w b) sc a0 a1 a2 a3 t)):=Fy w b sc a0 a1 a2 a3 t
theorem c8 (w:World) (b:Bool) (sc a0 a1 a2 a3 t:Nat):sk (wf w b) (upK (T7 (wf w b) sc a0 a1 a2 a3 t) ()) = .pure (.again (X5 w sc 0 0 a0 a1 a2 a3 []).code):=Fz w b sc a0 a1 a2 a3 t
theorem Ib (w:World) (b:Bool) (sc:Nat):∃ (q0:Option Value) (K0:Obj→Sem PySem.Fin) (K1:Nat→Sem PySem.Fin) (K2:Nat→Nat→Sem PySem.Fin) (K3:Nat→Nat→Nat→Sem PySem.Fin) (K4:Nat→Nat→Nat→Nat→Sem PySem.Fin) (K5:Nat→Nat→Nat→Nat→Nat→Sem PySem.Fin) (q6:Nat→Nat→Nat→Nat→Nat→Option Value) (K6:Nat→Nat→Nat→Nat→Nat→Obj→Sem PySem.Fin) (q7:Nat→Nat→Nat→Nat→Nat→Option Value) (f7:Nat→Nat→Nat→Nat→Nat→Obj→Obj) (K7:Nat→Nat→Nat→Nat→Nat→Unit→Sem PySem.Fin),
  sk (wf w b) (Yj 320 (fdB (wf w b).params 320) ⟨[.ref sc],[]⟩) = .load 319 q0 K0∧sk (wf w b) (K0 (lkB (wf w b).params 319)) = .alloc (frO [] 0) K1∧(∀ a0,sk (wf w b) (K1 a0) = .alloc (Zn none) (K2 a0))∧(∀ a0 a1,sk (wf w b) (K2 a0 a1) = .alloc (Zn none) (K3 a0 a1))∧(∀ a0 a1 a2,sk (wf w b) (K3 a0 a1 a2) = .alloc (Zn none) (K4 a0 a1 a2))∧
  (∀ a0 a1 a2 a3,sk (wf w b) (K4 a0 a1 a2 a3) = .fresh (K5 a0 a1 a2 a3))∧(∀ a0 a1 a2 a3 t,sk (wf w b) (K5 a0 a1 a2 a3 t) = .load a0 (q6 a0 a1 a2 a3 t) (K6 a0 a1 a2 a3 t))∧(∀ a0 a1 a2 a3 t,sk (wf w b) (K6 a0 a1 a2 a3 t (frO [] 0)) = .update a0 (q7 a0 a1 a2 a3 t) (f7 a0 a1 a2 a3 t) (K7 a0 a1 a2 a3 t))∧
  (∀ a0 a1 a2 a3 t,f7 a0 a1 a2 a3 t (frO [] 0)=frO [ent w ⟨#[115,99,114,105,112,116]⟩ t (.ref sc)] 1)∧(∀ a0 a1 a2 a3 t,sk (wf w b) (K7 a0 a1 a2 a3 t ()) = .pure (.again (X5 w sc 0 0 a0 a1 a2 a3 []).code)):=
 ⟨ldQ (T0 (wf w b) sc),ldK (T0 (wf w b) sc),alK (T1 (wf w b) sc),fun a0=>alK (T2 (wf w b) sc a0),fun a0 a1=>alK (T3 (wf w b) sc a0 a1),fun a0 a1 a2=>alK (T4 (wf w b) sc a0 a1 a2),fun a0 a1 a2 a3=>frK (T5 (wf w b) sc a0 a1 a2 a3),fun a0 a1 a2 a3 t=>ldQ (T6 (wf w b) sc a0 a1 a2 a3 t),fun a0 a1 a2 a3 t=>ldK (T6 (wf w b) sc a0 a1 a2 a3 t),fun a0 a1 a2 a3 t=>upQ (T7 (wf w b) sc a0 a1 a2 a3 t),fun a0 a1 a2 a3 t=>upF (T7 (wf w b) sc a0 a1 a2 a3 t),fun a0 a1 a2 a3 t=>upK (T7 (wf w b) sc a0 a1 a2 a3 t),
 c0 w b sc,c1 w b sc,fun a0=>c2 w b sc a0,fun a0 a1=>c3 w b sc a0 a1,fun a0 a1 a2=>c4 w b sc a0 a1 a2,fun a0 a1 a2 a3=>c5 w b sc a0 a1 a2 a3,fun a0 a1 a2 a3 t=>c6 w b sc a0 a1 a2 a3 t,fun a0 a1 a2 a3 t=>c7 w b sc a0 a1 a2 a3 t,fun a0 a1 a2 a3 t=>FO w b sc a0 a1 a2 a3 t,fun a0 a1 a2 a3 t=>c8 w b sc a0 a1 a2 a3 t⟩
section
variable {w:World} {A:Around} {c:Code} {Q:PySem.Fin→Shared→Prop} {E:Value→Shared→Prop} {RO Ms M:ZA} {hs h:Heap} {g:Array GenState} {d:Drawn} {t:Nat} {os:OsState}
theorem Ot (T:Sem PySem.Fin) {T':Sem PySem.Fin} {a:Addr} {q:Option Value} {k:Obj→Sem PySem.Fin} {o:Obj} (e':sk w T=T') (e:T' = .load a q k) (ho:h.get? a=some o) (x:wpOwn (model PP w) A c (k o) Q E ⟨h,g,d,t,os⟩):wpOwn (model PP w) A c T Q E ⟨h,g,d,t,os⟩:=
 y_skim _ _ _ _ _ _ _ _ T 80 (by
  rw [show skim ⟨PP,w.params⟩ 80 T=sk w T from rfl,e',e]
  exact y_load _ _ _ _ _ _ _ _ _ _ _ _ _ _ _ _ ho x)
theorem Vi (T:Sem PySem.Fin) {T':Sem PySem.Fin} {o:Obj} {k:Addr→Sem PySem.Fin} (e':sk w T=T') (e:T' = .alloc o k) (hf:o.isFreed=false) (hM:Holds w.params RO M h) (hE:Ext Ms hs M h) (x:∀ a h',Holds w.params RO ((a,o)::M) h'→Ext Ms hs ((a,o)::M) h'→wpOwn (model PP w) A c (k a) Q E ⟨h',g,d,t,os⟩):wpOwn (model PP w) A c T Q E ⟨h,g,d,t,os⟩:=
 y_skim _ _ _ _ _ _ _ _ T 80 (by
  rw [show skim ⟨PP,w.params⟩ 80 T=sk w T from rfl,e',e]
  exact wpOwn_bind (m:=alloc o) (f:=k) (wpOwn_of_wpAny (wpAny_alloc (x _ _ (hM.alloc hf) (hE.alloc o)))))
theorem Ic (T:Sem PySem.Fin) {T':Sem PySem.Fin} {k:Tok→Sem PySem.Fin} (e':sk w T=T') (e:T' = .fresh k) (x:wpOwn (model PP w) A c (k t) Q E ⟨h,g,d,t + 1,os⟩):wpOwn (model PP w) A c T Q E ⟨h,g,d,t,os⟩:=
 y_skim _ _ _ _ _ _ _ _ T 80 (by
  rw [show skim ⟨PP,w.params⟩ 80 T=sk w T from rfl,e',e]
  exact y_fresh _ _ _ _ _ _ _ _ _ _ _ _ _ x)
theorem GC {s:Shared} (T:Sem PySem.Fin) {T' T2:Sem PySem.Fin} (e':sk w T=T') (e:T'=T2) (x:wpOwn (model PP w) A c T2 Q E s):wpOwn (model PP w) A c T Q E s:=
 y_skim _ _ _ _ _ _ _ _ T 80 (by
  rw [show skim ⟨PP,w.params⟩ 80 T=sk w T from rfl,e',e]
  exact x)
theorem Kx (T:Sem PySem.Fin) {T':Sem PySem.Fin} {a:Addr} {q:Option Value} {f:Obj→Obj} {k:Unit→Sem PySem.Fin} (i:Nat) {o o':Obj} (e':sk w T=T') (e:T' = .update a q f k) (ef:f o=o') (hf:o'.isFreed=false) (hi:Yd M i=some (a,o)) (hM:Holds w.params RO M h) (hE:Ext Ms hs M h) (x:∀ h',Holds w.params RO (Xk M i o') h'→Ext Ms hs (Xk M i o') h'→wpOwn (model PP w) A c (k ()) Q E ⟨h',g,d,t,os⟩):wpOwn (model PP w) A c T Q E ⟨h,g,d,t,os⟩:=
 y_skim _ _ _ _ _ _ _ _ T 80 (by
  rw [show skim ⟨PP,w.params⟩ 80 T=sk w T from rfl,e',e]
  subst ef
  exact wpOwn_bind (m:=updatePart a q f) (f:=k) (wpOwn_of_wpAny (wpAny_updatePart (hM.at_ (a,o) (Zp hi)) (x _ (hM.update hi hf) (hE.update hM hi)))))
end
theorem Ky (w:World) (b:Bool) (RO:ZA) (sc ep:Nat) (vs:List Value) (hv:WJ vs) (hz:vs.length≤1000) (h:Heap) (g:Array GenState) (d:Drawn) (t:Nat) (os:OsState) (R:Result→Shared→Prop) (hM:Holds (wf w b).params RO [(274,tabObj #[]),(sc,ZB vs ep)] h)
  (hR:∀ r M' h' g' t',0 < t'→Ml sc ep vs r M'→Holds (wf w b).params RO M' h'→Ext [(274,tabObj #[]),(sc,ZB vs ep)] h M' h'→(AllBare g→AllBare g')→R r ⟨h',g',d,t',os⟩) :
  codeAny (model PP (wf w b)) (Z2 320) (.call (.ref 320) ⟨[.ref sc],[]⟩) R ⟨h,g,d,t,os⟩:=by
 have hn:Zg (.call (.ref 320) ⟨[.ref sc],[]⟩):=fun _ e=>by cases e
 refine y_code _ _ _ _ _ _ ?_
 have hw:=Wa hn
 have z:=VX (w:=wf w b) (A:=Z2 320) (Q:=postC PP (wf w b) (Z2 320) R) (E:=postE R) (B:=BaseOk (wf w b).params) (fun _ b=>b.lim) (s:=⟨h,g,d,t,os⟩) (f:=320) (args:=⟨[.ref sc],[]⟩) (hM.base.objs 320 rfl) (W9 (fd320 _)).1 (W9 (fd320 _)).2.1 (W9 (fd320 _)).2.2 (by
  show 320 + (Code.call (.ref 320) ⟨[.ref sc],[]⟩).weight < 1000
  omega) ?_
 ·exact wpOwn_mono z (fun _ _ h=>h.1) (fun _ _ h=>h)
 obtain ⟨q0,K0,K1,K2,K3,K4,K5,q6,K6,q7,f7,K7,c0,c1,c2,c3,c4,c5,c6,c7,c7o,c8⟩:=Ib w b sc
 refine Ot _ c0 rfl (hM.base.objs 319 rfl) ?_
 refine Vi _ c1 rfl rfl hM (Ext.refl _ h) fun a0 h1 m1 e1=>?_
 refine Vi _ (c2 a0) rfl rfl m1 e1 fun a1 h2 m2 e2=>?_
 refine Vi _ (c3 a0 a1) rfl rfl m2 e2 fun a2 h3 m3 e3=>?_
 refine Vi _ (c4 a0 a1 a2) rfl rfl m3 e3 fun a3 h4 m4 e4=>?_
 refine Ic _ (c5 a0 a1 a2 a3) rfl ?_
 refine Ot _ (c6 a0 a1 a2 a3 t) rfl (m4.at_ (a0,frO [] 0) (.tail _ (.tail _ (.tail _ (.head _))))) ?_
 refine Kx _ 3 (c7 a0 a1 a2 a3 t) rfl (c7o a0 a1 a2 a3 t) rfl rfl m4 e4 fun h5 m5 e5=>?_
 refine GC _ (c8 a0 a1 a2 a3 t) rfl ?_
 have m6:Holds (wf w b).params RO (Vf w sc ep t a0 a1 a2 a3 vs) h5:=m5
 have e6:Ext [(274,tabObj #[]),(sc,ZB vs ep)] h (Vf w sc ep t a0 a1 a2 a3 vs) h5:=e5
 refine y_pure _ _ _ _ _ _ _ _ _ ⟨?_,m6.base⟩
 refine y_again _ _ _ _ _ _ rfl ?_
 exact Yp (Yy (by decide:320≤390)) (Qe w b RO sc ep t a0 a1 a2 a3 vs hv hz _ g d (t + 1) os _ (Nat.succ_pos _) m6 fun r M' h' g' t' ht' k hM' hE' hB'=>hR r M' h' g' t' ht' k hM' (Ext.trans e6 hE') hB')
theorem Tr {f:Nat→Obj} {a:Nat}:∀ {l:List Nat},a∈l→(l.map fun a=>(a,f a)).lookup a=some (f a)
 | b::l,h=>by
  rw [List.map_cons,List.lookup_cons]
  by_cases e:a=b
  ·subst e
   rw [beq_self_eq_true]
  ·rw [beq_eq_false_iff_ne.mpr e]
   rcases List.mem_cons.mp h with rfl | h
   ·exact absurd rfl e
   ·exact Tr h
theorem F0 {a:Nat} (h:XV a=true):a < 321∧a≠274:=by
 unfold XV at h
 split at h
 ·rename_i h1
  split at h
  ·cases h
  ·rename_i h2
   exact ⟨Nat.le_of_ble_eq_true h1,fun e=>by
    rw [e] at h2
    cases h2⟩
 ·cases h
theorem Kz {a:Nat} (h:XV a=true):a∈kL:=by
 obtain ⟨l1,l2⟩:=F0 h
 unfold kL
 rw [List.mem_append,List.mem_range,List.mem_map]
 by_cases l3:a < 274
 ·exact .inl l3
 ·exact .inr ⟨a - 275,by rw [List.mem_range]; omega,by omega⟩
theorem GD {w:World} {h:Heap} (Y:hk.says w h) (L:h.NoLimit):BaseOk w.params h:=by
 refine ⟨fun a ha=>?_,L⟩
 have hin:(kF w.params).In h:=Y.1
 have e:(kF w.params).lookup a=some (GG (hd.heap_1_442 w.params).objs.toList a):=Tr (Kz ha)
 have z:=hin a _ e
 exact z
theorem Id (P:Params):nsFind (match (lkB P 3).data with | .dict es _=>es | _=>#[]) JC.name=some (.ref 320):=by kernel_rfl
theorem Qf (P:Params):(lkB P 278).cls = .type "code"∧(match (lkB P 278).data with | .fields vs=>vs | _=>#[])[11]?=some (.ref 274):=⟨by kernel_rfl,by kernel_rfl⟩
theorem K8 (P:Params):(lkB P 278).data = .fields (match (lkB P 278).data with | .fields vs=>vs | _=>#[]):=by kernel_rfl
noncomputable def K9 (o:Obj):Bool:=match o.cls,o.data with | .type n,.seq _ _=>!(n == "list") | _,_=>true
theorem Ie (P:Params):(kL.all fun a=>!XV a || K9 (lkB P a))=true:=by kernel_rfl
theorem GE (P:Params) {a:Nat} (h:XV a=true):K9 (lkB P a)=true:=by
 have z:=List.all_eq_true.mp (Ie P) a (Kz h)
 rw [h] at z
 exact z
theorem Ig {P:Params} {h:Heap} {v:Value} {d:WData} (x:Well P h v d):(match d with | .int i=>∃ t,v = .int i t | _=>True):=by
 cases x<;>first | exact trivial | exact ⟨_,rfl⟩
theorem Ss {P:Params} {h:Heap}:∀ {vs:List Value} {xs:List Int},WellAll P h vs (xs.map WData.int)→WJ vs∧vs.length=xs.length
 | _,[],.nil=>⟨(fun _ hm=>nomatch hm),rfl⟩
 | _,i::_,.cons a r=>by
  obtain ⟨h1,h2⟩:=Ss r
  obtain ⟨t,rfl⟩:=Ig a
  refine ⟨fun v hv=>?_,congrArg (· + 1) h2⟩
  rcases List.mem_cons.mp hv with rfl | hv
  ·exact ⟨i,t,rfl⟩
  ·exact h1 v hv
theorem JA:ALe callerA (Z2 320):=⟨rfl,by show 1 + claimMargin≤320; decide,rfl,rfl,by show 4≤10 * 320; decide⟩
theorem Ih {w:World} {h:Heap} {sc:Nat} {vs:List Value} (hB:BaseOk w.params h) (hT:h.get? 274=some (tabObj #[])) (hs:h.get? sc=some (ZB vs 0)) {h':Heap} {r:Result} {M':ZA}
  (k:Ml sc 0 vs r M') (hM':Holds w.params [] M' h') (hE:Ext [(274,tabObj #[]),(sc,ZB vs 0)] h M' h'):OldK h h':=by
 obtain ⟨_,⟨v,h1⟩,h2⟩:=k
 have a1:=hM'.at_ _ h1
 have a2:=hM'.at_ _ h2
 refine ⟨fun b o e=>?_,fun b o e=>?_⟩
 ·by_cases e1:b=274
  ·subst e1
   rw [hT] at e
   cases e
   refine .inr (.inl ⟨⟨278,lkB w.params 278,_,hB.objs 278 rfl,(Qf w.params).1,K8 w.params,(Qf w.params).2⟩,rfl,#[],#[(.int 162 0),(.int 4 0),(.ref v)],rfl,a1⟩)
  ·by_cases e2:b=sc
   ·subst e2
    rw [hs] at e
    cases e
    exact .inl a2
   ·exact .inl (hE.keep b o e fun hm=>by
     simp only [List.map_cons,List.map_nil,List.mem_cons,List.not_mem_nil,or_false] at hm
     exact hm.elim e1 e2)
 ·by_cases e1:b=274
  ·subst e1
   exact ⟨_,a1⟩
  ·by_cases e2:b=sc
   ·subst e2
    exact ⟨_,a2⟩
   ·exact ⟨o,hE.keep b o e fun hm=>by
     simp only [List.map_cons,List.map_nil,List.mem_cons,List.not_mem_nil,or_false] at hm
     exact hm.elim e1 e2⟩
theorem law_holds:PySem.Challenge.rw_tp0042_01.Holds:=hd2 (by
 intro w s₀ s₁ mg mb G Y fa o pm cd doc dV kV ho hd' hcd hD hmg hg args vals as hpre hlay hrd hwl hlo
 wrow_args hpre hlay hrd hwl hlo
 rename_i xs hs hlay0 hL1 hr1 hl2 as4 as3 a vs0 as0 hL ra w1 r0 hI hr hc1 hc2
 have hB:BaseOk w.params s₁.heap:=GD Y G.T.nolimit
 have hT:s₁.heap.get? 274=some (tabObj #[]):=Y.2 274 (.head _)
 have hfa:fa=320:=by
  obtain ⟨o3,es,ep,h3,hd3,_,hf⟩:=G.T.g
  have e3:o3=lkB w.params 3:=Option.some.inj (h3.symm.trans (hB.objs 3 rfl))
  have z:=Id w.params
  rw [← e3,hd3] at z
  have y:=hf JC.name
  rw [hmg] at y
  have q:=z.symm.trans y
  cases q
  rfl
 subst hfa
 obtain ⟨vs,hsc,hwv⟩:∃ vs:List Value,s₁.heap.get? a=some (ZB vs 0)∧WellAll w.params s₁.heap vs (xs.map WData.int):=by
  have w2:Well w.params s₁.heap (.ref a) (.list (xs.map WData.int)):=by
   have e:ofPy (PyData.list (xs.map PyData.int)) = .list (xs.map WData.int):=by
    show WData.list (ofPys (xs.map PyData.int))=_
    rw [ofPys_eq,List.map_map]
    rfl
   rw [← e]
   exact w1
  cases w2 with
  | list h1 h2=>exact ⟨_,h1,h2⟩
 obtain ⟨hvs,hlen⟩:=Ss hwv
 have hz:vs.length≤1000:=by
  rw [hlen]
  omega
 have hne:a≠274:=fun e=>by
  rw [e,hT] at hsc
  cases hsc
 have hkb:XV a=false:=by
  cases hk:XV a with
  | false=>rfl
  | true=>
   have e:=hB.objs a hk
   rw [hsc] at e
   have z:=GE w.params hk
   rw [← Option.some.inj e] at z
   exact absurd z (by show ¬ ((!("list" == "list"))=true); decide)
 have hM:Holds w.params [] [(274,tabObj #[]),(a,ZB vs 0)] s₁.heap:=by
  refine ⟨hB,(fun _ hp=>nomatch hp),fun p hp=>?_,?_,fun p hp=>?_,fun p hp hq=>nomatch hq⟩
  ·rcases List.mem_cons.mp hp with rfl | hp
   ·exact hT
   ·rcases List.mem_cons.mp hp with rfl | hp
    ·exact hsc
    ·exact nomatch hp
  ·simp only [List.map_cons,List.map_nil,List.nodup_cons,List.mem_cons,List.not_mem_nil,or_false,not_false_eq_true,List.nodup_nil,and_true]
   exact fun e=>hne e.symm
  ·rcases List.mem_cons.mp hp with rfl | hp
   ·rfl
   ·rcases List.mem_cons.mp hp with rfl | hp
    ·exact hkb
    ·exact nomatch hp
 refine wpAny_call (Yp JA ?_)
 obtain ⟨h1,g1,d1,t1,o1⟩:=s₁
 have hw:=FR w
 have C:=Ky w (w.params.followText "special-get-raises") [] a 0 vs hvs hz h1 g1 d1 t1 o1
 rw [hw] at C
 refine C _ hM fun r M' h' g' t' ht' k hM' hE' hB'=>?_
 obtain ⟨rfl,_⟩:=id k
 exact ⟨.inl ⟨.bool true,.bool true,[],rfl,(fun _=>by kernel_rfl),.bool true,by kernel_rfl,fun _=>⟨List.nodup_nil,fun _ h=>nomatch h⟩⟩,Ih hB hT hsc k hM' hE',rfl,hB' (.of_eq hg)⟩)
end
end Mine
theorem PySem.Challenge.cw_tp0042_01_holds : PySem.Challenge.rw_tp0042_01.Holds :=
 Mine.law_holds
