import PyProof.Rows.All
import Wide.All
import OpenK.AllK
import Wide.FinOn
import Lean
import PySem.Challenge.RW_rf0002_07
open PySem PySem.W PyProof.Rows
set_option Elab.async false
set_option maxRecDepth 100000
set_option maxHeartbeats 4000000
set_option linter.unusedVariables false
set_option linter.unusedSimpArgs false
set_option bootstrap.genMatcherCode false
set_option backward.match.sparseCases true
namespace Mine
abbrev br:=@Nat.le_refl
abbrev Kj:=@Option.some.inj
abbrev Kk:=@Nat.le_add_left
abbrev Kl:=@Nat.le_trans
abbrev Km:=@wpAny_bind
abbrev Kn:=@List.length_append
abbrev Ko:=@List.length_cons
abbrev Kp:=@if_neg
abbrev Kq:=@congrArg
abbrev Kr:=@List.cons.inj
abbrev Ks:=@if_pos
abbrev Kt:=@List.append_nil
abbrev Ku:=@Nat.succ_pos
abbrev Kv:=@wpAny_pure
abbrev Kw:=@List.append_assoc
abbrev Kx:=@beq_iff_eq
abbrev Ky:=@Nat.le_max_left
abbrev Kz:=@Heap.size_push
abbrev KA:=@Nat.eq_of_beq_eq_true
abbrev KB:=@Nat.le_of_ble_eq_true
abbrev KC:=@Nat.lt_succ_self
abbrev KD:=@Bool.and_eq_true
abbrev KE:=@List.isEmpty_iff
abbrev KG:=@Nat.zero_le
abbrev KH:=@List.size_toArray
abbrev KI:=@Nat.lt_of_lt_of_le
abbrev KJ:=@Nat.le_succ
abbrev KK:=@Nat.le_succ_of_le
abbrev KL:=@sizeLine_eq
abbrev KM:=@List.all_eq_true
abbrev KN:=@Nat.le_max_right
abbrev KO:=@Heap.lt_size
abbrev KQ:=@List.mem_cons
abbrev KR:=@Nat.succ_le_succ
abbrev KS:=@Nat.lt_irrefl
abbrev KT:=@Nat.le_add_right
abbrev KU:=@of_decide_eq_true
abbrev KV:=@wpAny_mono
abbrev KW:=@Nat.ne_of_lt
abbrev KX:=@List.length_singleton
abbrev KY:=@Nat.not_lt
abbrev KZ:=@Int.natCast_nonneg
abbrev L1:=@wpAny_holding
abbrev L2:=@Nat.le_of_succ_le_succ
abbrev L3:=@Bool.and_eq_true_iff
abbrev L4:=@List.length_map
abbrev L6:=@typeIs_str
abbrev L7:=@Nat.sub_self
abbrev L8:=@List.mem_map
abbrev L9:=@List.length_nil
abbrev Lb:=@List.mem_append
abbrev Lc:=@Option.map_eq_some_iff
abbrev Ld:=@plainGet_of
abbrev Le:=@Calls.spliced_nil
abbrev Lf:=@List.cons_append
abbrev Lg:=@Nat.lt_of_le_of_lt
abbrev Lh:=@Calls.spliced_cons
abbrev Li:=@Nat.le_of_lt
abbrev Lj:=@List.map_cons
abbrev Lk:=@List.length_reverse
abbrev Ll:=@List.reverse_cons
abbrev Lm:=@List.not_mem_nil
abbrev Ln:=@or_false
abbrev Lo:=@List.cons_ne_nil
abbrev Lp:=@Option.isNone_iff_eq_none
abbrev Lq:=@wpAny_call
abbrev Lr:=@wpAny_truthy_bool
abbrev Ls:=@Bool.not_eq_true'
abbrev Lu:=@Bool.false_ne_true
abbrev Lv:=@wpAny_standAt
abbrev Lw:=@call_meets
abbrev Lx:=@List.length_set
abbrev Ly:=@Nat.ne_of_gt
abbrev Lz:=@Bool.false_eq_true
abbrev LA:=@decide_eq_true
abbrev LB:=@decide_eq_false
abbrev LD:=@wpAny_Call_Name_kw
abbrev LF:=@wpAny_storeName_local
abbrev LG:=@Nat.max_le
abbrev LH:=@Nat.add_le_add_left
abbrev LI:=@Nat.lt_trichotomy
abbrev LJ:=@List.all_cons
abbrev LL:=@List.foldl_cons
abbrev LM:=@beq_eq_false_iff_ne
abbrev LN:=@wpAny_List_spliced
abbrev LO:=@PySem.F.plainAttrs_list
abbrev LQ:=@PySem.F.slot_list_pop
abbrev LR:=@Heap.size_update
abbrev LS:=@Nat.add_le_add_right
abbrev LU:=@Nat.min_eq_left
abbrev LV:=@List.replicate_succ
abbrev LW:=@PySem.StrLaws.glued_eq_join
abbrev LX:=@PySem.F.slot_str_mod
abbrev LY:=@Value.isStrOf_shape
theorem M0 {p:Prop}(h:p:=by decide):p:=h
theorem M1 {p:Prop}(h:p:=by assumption):p:=h
theorem M2 {p:Prop}(h:p:=by lia):p:=h
local macro_rules
 | `(()) => `(by kernel_rfl)
local macro_rules
 | `(¬$s:str) => do
  let f := fun (x : List Char) => x.toArray.map fun c => Lean.quote c.toNat
  let r ← ((s.getString.splitOn " ").toArray.map (·.toList)).mapM fun x => let y : Array Lean.Term := f x; `([$y,*])
  `([$r,*])
variable {p N f g D D' cc line D1 st ch :Nat}
variable {M :Model}
variable {ρ ρ' ρ₀ :List (Addr×Addr)}
variable {h₁ h₀ :Heap}
variable {A :Around}
variable {e value eo it elt :Expr}
variable {m' :Str→Option Value}
variable {op cl sc rc mc kc ws ii :Bool}
variable {sep ds l' stk r0 hd :List Nat}
variable {env :Env}
variable {pos apos p2 :Pos}
variable {kw :List (Str×Value)}
variable {rs ss out out' :List (List Nat)}
variable {K :Frag}
variable {kws :List Keyword}
variable {vo vl vu vy vz :Value}
variable {oa :Option Expr}
variable {vs' :List Value}
variable {Γ :Ctx}
variable {I :Addr}
variable {scope :Scope}
variable {ts :List Expr}
variable {ln col bw ln' :Int}
theorem Fa {p q:Program} {loose:List Str} {Xt:Shared→Bool} {α:Type} {Yf:Shared→α} {Ya:World→α} {g0:Bool} {H₀:Params→Heap} {gs₀:Array GenState} {d₀:Drawn} {k₀ m₀ M:Nat} {ann:Option Value}
  (open_:∀ w:World,(fencedOpening treeTable p w N).map (fun s=>(s.heap,s.gens,s.drawn,s.toks))=some (H₀ w.params,gs₀,d₀,k₀))
  (size:∀ w:World,((H₀ w.params).isNs mainGlobals&&gs₀.size==0,(H₀ w.params).objs.size,(H₀ w.params).nsMap mainGlobals "__annotations__")=(true,m₀,ann))
  (run:∀ (w:World) (os:OsState),∃ s₁,topRun treeTable p w m₀ ann M ⟨H₀ w.params,gs₀,d₀,k₀,os⟩ (topStub p)=some s₁∧
   (staticsOk (importedModules p.main.body) (H₀ w.params) s₁.heap&&namesBound p s₁.heap&&gensDone s₁&&laidKept (H₀ w.params) s₁.heap)=true∧
   openSeen q loose (importedModules p.main.body) Xt g0 s₁=openGood q loose∧Yf s₁=Ya w)
  (le:Nat.ble M N=true):LeftO p q loose Xt Yf Ya N g0:=fun w=>by
 obtain ⟨⟨h,gs,d,k,os⟩,e,e'⟩:=Lc.mp (open_ w);obtain ⟨rfl,rfl,rfl,rfl⟩:h=H₀ w.params∧gs=gs₀∧d=d₀∧k=k₀:=by simpa using e'
 obtain ⟨z1,z2,z3⟩:_∧_∧_:=by simpa only [Prod.mk.injEq] using size w
 obtain ⟨s₁,r,l1,l2,l3⟩:=run w os;have r:=topRun_mono (N - M) _ _ _ _ r;rw [show M+(N - M)=N by have:=KB le;omega] at r;have t:topFrom treeTable p w N ⟨H₀ w.params,gs,d,k,os⟩=some s₁:=by
  unfold topFrom;dsimp only;rw [z1,z2,z3,r]
  show (match staticsOk (importedModules p.main.body) (H₀ w.params) s₁.heap&&namesBound p s₁.heap&&gensDone s₁&&laidKept (H₀ w.params) s₁.heap with|true=>_|false=>_)=_
  rw [l1]
 unfold openEnds;rw [e]
 show (topFrom treeTable p w N _).map _=_
 rw [t];exact Kq some (Prod.ext l2 l3)
noncomputable abbrev pr:Program:=PySem.Challenge.pw_rf0002_07
noncomputable def stmts:List Stmt:=behindTheImports pr
noncomputable def oQ:Env:={ scope:=pr.main.scope,locals:=mainNs,globals:=mainNs,cells:=[],code:=.ref 13,frame:=some 14 }
noncomputable def cT:Code:=.body stmts oQ
noncomputable def gb:Pos:=⟨0,0,0,0⟩
noncomputable def nI:Pos:=⟨1053,0,1073,68⟩
noncomputable def DI:Obj:={ cls:=.type "tuple",data:=.seq #[] }
noncomputable def DH:Obj:={ cls:=.none,data:=.fields #[] }
noncomputable def DG:Obj:={ cls:=.type "code",data:=.fields #[.str "<module>" 182,.str "<module>" 183,.str "/claim/cut.py" 184,.int 1 0,.int 0 0,.int 0 0,.int 0 0,.int 0 0,.ref 11,.bool false,.int 181 0,.ref 12,.none,.none,.none,.none,.int 185 0,.int 1 0,.str "/claim/cut.py" 186] }
noncomputable def DF:Obj:={ cls:=.type "frame",slots:=#[some (.ref 13),some (.ref 3),some (.ref 3),none,some (.str "__main__" 164),none,some (.ref 0)] }
noncomputable def zg (P:Params):BT:=(.node (boot_o_0 P) (.node (boot_o_1 P) (.node (boot_o_3 P) (.node (boot_o_7 P) .nil .nil) (.node DI .nil .nil)) (.node (boot_o_5 P) (.node (boot_o_9 P) .nil .nil) (.node DG .nil .nil))) (.node (boot_o_2 P) (.node (boot_o_4 P) (.node (boot_o_8 P) .nil .nil) (.node DH .nil .nil)) (.node (boot_o_6 P) (.node (boot_o_10 P) .nil .nil) (.node DF .nil .nil))))
noncomputable def sB (P:Params) (os:OsState):SharedT:=⟨zg P,15,{},#[],{},187,os⟩
noncomputable def kE:Option Value:=some (.ref 6)
noncomputable def gF:String:="special-get-raises"
theorem pre (w:World) (os:OsState):topGo treeTable pr w 11 kE 12 ⟨boot_heap w.params,#[],boot_drawn,boot_toks,os⟩ (topStub pr)=
  some ((sB w.params os).abs,⟨denote treeTable cT,cT,gb,[topFrame gb]⟩):=by
 rw [PySem.W.Fast.te15667345088766844465,PySem.W.Fast.te14364793385576792824,PySem.W.Fast.te11892475500146522536];kernel_rfl
theorem Je (w:World) (os:OsState):segRun treeTable pr w 11 kE 1 1 (sB w.params os).abs (blockOf stmts oQ cT gb [topFrame gb])=some (.next,(sB w.params os).abs,cT,gb):=by
 rw [PySem.W.Fast.te14374325043358763698,PySem.W.Fast.te14364793385576792824];kernel_rfl
theorem mt (w:World) (s:Shared):topRun treeTable pr w 11 kE 2 s ⟨doneF .next,cT,nI,[topFrame gb]⟩=some s:=by
 rw [PySem.W.Fast.te14082659384304107361,PySem.W.Fast.te14364793385576792824];kernel_rfl
noncomputable def lX:List Str:=["_wall","YAMLError","Event","NodeEvent","CollectionStartEvent","CollectionEndEvent","StreamStartEvent","StreamEndEvent","DocumentStartEvent","DocumentEndEvent","AliasEvent","ScalarEvent","SequenceStartEvent","SequenceEndEvent","MappingStartEvent","MappingEndEvent","EmitterError","ScalarAnalysis","Emitter","Rows","_law_LEAVES","_law_tree","_law_plan","_law_event","_law_emitter","_law_hang","_law_box"]
noncomputable def qv:Program:={ pr with main:={ pr.main with body:=pr.main.body.drop 31 } }
noncomputable def sD (s:Shared):Bool:=xlAt qv [] s&&recOk [] s
noncomputable def iO:Nat→List Obj→List Nat→Frag
 |i,o::r,a::as=>match Nat.beq i a with
  |true=>match o.alive with
   |false=>iO (i+1) r as
   |true=>(i,o)::iO (i+1) r as
  |false=>iO (i+1) r (a::as)
 |_,[],_=>[]
 |_,_,[]=>[]
theorem Do:∀ (r:List Obj) (i:Nat) (as:List Nat) (a:Nat) (o:Obj),(iO i r as).lookup a=some o→i≤a∧r[a - i]?=some o∧o.alive=true:=by
 intro r;induction r with
 |nil=>intro i as a o e;cases as<;>cases e
 |cons x r ih=>
  intro i as a o e;cases as with
  |nil=>cases e
  |cons b as=>
   have up:∀ as',(iO (i+1) r as').lookup a=some o→i≤a∧(x::r)[a - i]?=some o∧o.alive=true:=fun as' q=>by
    obtain ⟨h1,h2,h3⟩:=ih _ _ _ _ q;refine ⟨by omega,?_,h3⟩;have e3:a - i=(a - (i+1))+1:=by omega
    rw [e3,List.getElem?_cons_succ];exact h2
   unfold iO at e
   split at e
   ·split at e
    ·exact up _ e
    ·rename_i hf;simp only [List.lookup] at e
     split at e
     ·rename_i hb;cases e;have:a=i:=by simpa using hb
      subst this;exact ⟨br _,by simp,hf⟩
     ·exact up _ e
   ·exact up _ e
noncomputable def j0 (h:Heap) (as:List Nat):Frag:=iO 0 h.objs.toList as
theorem Fm (h:Heap) (as:List Nat):(j0 h as).In h:=by
 intro a o e;obtain ⟨_,h2,h3⟩:=Do _ _ _ _ _ e;rw [Nat.sub_zero,Array.getElem?_toList] at h2;exact (Heap.get?_eq_some h a o).mpr ⟨h2,h3⟩
theorem JN:PySem.Challenge.rw_rf0002_07.wellSaid=true:=by
 delta OpenLaw.wellSaid OpenRow.wellSaid OpenRow.partSaid looksOpen
 with_reducible repeat' refine look_both ?_ ?_
 all_goals try rw [PySem.W.Fast.te11788848310118352699]
 all_goals try rw [PySem.W.Fast.te2368527892694137696]
 all_goals try rw [PySem.W.Fast.te9807087744658564304]
 all_goals try rw [PySem.W.Fast.te12862048085361865435]
 all_goals try rw [PySem.W.Fast.te8377067652309620493]
 all_goals try rw [PySem.W.R.allR_eq]
 all_goals try rw [PySem.W.Fast.te18344453789297297638]
 all_goals try rw [PySem.W.Fast.te3471404346716756564]
 all_goals try rw [PySem.W.Fast.sDec_eq]
 all_goals try rw [PySem.W.Fast.te14412699480532031325]
 all_goals try rw [PySem.W.Fast.te8326940854005059898]
 all_goals try rw [PySem.W.Fast.te5923862056798008813]
 all_goals try rw [PySem.W.Fast.te17691160309236699985]
 all_goals try rw [PySem.W.R.filterR_eq]
 all_goals try rw [PySem.W.Fast.te13343964577679436407]
 all_goals try rw [PySem.W.Fast.te17119622794617984870]
 all_goals try rw [PySem.W.Fast.te17868728402115742887]
 all_goals try rw [PySem.W.Fast.te9706382859710513879]
 all_goals try rw [PySem.W.S.strDecS_eq]
 all_goals try rw [PySem.W.Fast.te2357444279172408678]
 all_goals try rw [PySem.W.R.mapR_eq]
 all_goals try rw [PySem.W.Fast.te4857012375875476094]
 all_goals try rw [PySem.W.Fast.named_eq]
 all_goals try rw [PySem.W.Fast.te13582783067957832011]
 all_goals try rw [PySem.W.Fast.te5318747976498570220]
 all_goals try rw [PySem.W.Fast.te4579403493507170074]
 all_goals try rw [PySem.W.R.anyR_eq]
 all_goals try rw [PySem.W.Fast.te4274047373036748609]
 all_goals try rw [PySem.W.Fast.te12749700546528644094]
 all_goals try rw [PySem.W.Fast.te10501279942588096481]
 all_goals try rw [PySem.W.Fast.te8179353310426384613]
 all_goals try rw [PySem.W.Fast.te797321630700447069]
 all_goals try rw [PySem.W.Fast.te9572597257264208301]
 all_goals try rw [PySem.W.Fast.te9558739934217749035]
 all_goals try rw [PySem.W.Fast.te16286561074155671207]
 all_goals try rw [PySem.W.Fast.te6984425678791042302]
 all_goals try rw [PySem.W.Fast.te17095254045102204799]
 all_goals try rw [PySem.W.Fast.te12879404354523853263]
 all_goals try rw [PySem.W.Fast.te482687673346738481]
 all_goals try rw [PySem.W.Fast.te10792542408131684335]
 all_goals try rw [PySem.W.Fast.te7723801398212525404]
 all_goals kernel_rfl
set_option backward.match.sparseCases false
set_option genInjectivity false
set_option genSizeOf false
set_option genCtorIdx false
theorem a0 {α:Type} {y:α} {G:Prop} (h:none=some y):G:=nomatch h
theorem ac {G:Prop} (h:false=true):G:=nomatch h
inductive V where
 |none|bool (b:Bool)|int (i:Int)|sint (i:Int)|str (s:List Nat)|sstr (s:List Nat)
 |stat (a:Nat)
 |tup (l:List V)|lst (l:List V)|inst (c:Nat) (fs:List (Nat×V))|dct (l:List (List Nat×V))
 |opq (x:V)
variable {lo hi :Option V}
variable {y z va vb tp ind can au pt an pt' an' ex imp sty ind' iv wv lv vc :V}
variable {ps pl q2 inds qs q1 :List V}
variable {f1 f2 f3 :List (Nat×V)}
noncomputable def V.ctorIdx (x:V):Nat:=@V.casesOn (fun _=>Nat) x 0 (fun _=>1) (fun _=>2) (fun _=>3) (fun _=>4) (fun _=>5) (fun _=>6) (fun _=>7) (fun _=>8) (fun _ _=>9) (fun _=>10) (fun _=>11)
inductive X where
 |v (x:V)|r (k:Nat)|m (k f:Nat)
variable {w :X}
variable {as xs args :List X}
variable {ys lc' :List (Nat×X)}
variable {e3 :X×X×X}
noncomputable def X.ctorIdx (x:X):Nat:=@X.casesOn (fun _=>Nat) x (fun _=>0) (fun _=>1) (fun _ _=>2)
inductive a8 where
 |ins (c:Nat) (fs:List (Nat×X))|lst (l:List V)|stk (l:List V)|bms (k:Nat) (l:List Nat)|strs (l:List (List Nat))|dead
variable {h' hp hp' hp₀ h1 h2 h3 old ha hb hc :List a8}
variable {c' :a8}
noncomputable def a8.ctorIdx (x:a8):Nat:=@a8.casesOn (fun _=>Nat) x (fun _ _=>0) (fun _=>1) (fun _=>2) (fun _ _=>3) (fun _=>4) 5
set_option genCtorIdx true in
inductive LK where|lst|stk|bms|strs
set_option genCtorIdx true in
inductive bU where|add|sub|mul|fdiv|mod
set_option genCtorIdx true in
inductive cG where|eq|ne|lt|le|gt|ge|is|isnt|inn|nin
inductive CE where
 |k (v:V)|n (x:Nat)|g (x:Nat)|a (e:CE) (f:Nat)
 |not (e:CE)|and (l:List CE)|or (l:List CE)|ife (t b o:CE)
 |bin (op:bU) (l r:CE)|neg (e:CE)|cmp (l:CE) (ops:List (cG×CE))
 |isi (e:CE) (cs:List (Nat×Nat))|len (e:CE)
 |tup (l:List CE)|lst (l:List CE)|newl (l:List CE)|nil (k:LK)|catn (l r:CE)|frz (e:CE)
 |idx (e i:CE)|sl (e:CE) (lo hi:Option CE)
 |call (x f:Nat) (iso:Bool) (as:List CE) (ks:List (Nat×CE))
 |new (x c:Nat) (fz:Bool) (as:List CE) (ks:List (Nat×CE))
 |meth (e:CE) (m:Nat) (as:List CE) (ks:List (Nat×CE))
 |fcall (e:CE) (f:Nat)
 |app (e x:CE)|pop (e:CE)|pop0 (e:CE)|ext (e x:CE)
 |starts (e x:CE)|join (e x:CE)|fmt (e x:CE)
 |keysS (e:CE)|copyD (e:CE)|rng (e:CE)
 |comp (x:Nat) (body src:CE)|dnil
 |orz (e:CE)|cat2 (a b:CE)|blur (e:CE)|pin (e:CE)|idxq (e i:CE)|unq (l:List V) (e:CE)
 |stuck
variable {ce re ci ob cx body src :CE}
inductive CS where
 |e (x:CE)|asg (xs:List Nat) (e:CE)|asgF (o:CE) (f:Nat) (e:CE)|unp (xs:List Nat) (e:CE)
 |setI (o i e:CE)|augN (x:Nat) (op:bU) (e:CE)|augF (o:CE) (f:Nat) (op:bU) (e:CE)
 |ife (t:CE) (b o:List CS)|whl (t:CE) (b:List CS)|for (x:Nat) (e:CE) (b:List CS)
 |ret (e:CE)|ret0|pass|stuck
inductive Fl where|next|ret (x:X)
noncomputable def Fl.ctorIdx (x:Fl):Nat:=@Fl.casesOn (fun _=>Nat) x 0 (fun _=>1)
structure St where
 heap:List a8
 loc:List (Nat×X)
 ds:List Nat
 obs:List Prop
variable {σ σ' σ₁ :St}
structure Fn where
 params:List Nat
 dflts:List V
 body:List CS
variable {F :Fn}
structure b8 where
 nm:Nat→Str
 fns:List (Nat×Fn)
 meths:List ((Nat×Nat)×Nat)
 cvals:List ((Nat×Nat)×V)
 subs:List (Nat×List Nat)
 globs:List (Nat×V)
 flds:List (Nat×List Nat)
variable {T :b8}
noncomputable def look {α:Type}:List (Nat×α)→Nat→Option α
 |[],_=>none
 |p::r,k=>match Nat.beq p.1 k with|true=>some p.2|false=>look r k
noncomputable def put {α:Type}:List (Nat×α)→Nat→α→List (Nat×α)
 |[],k,v=>[(k,v)]
 |p::r,k,v=>match Nat.beq p.1 k with|true=>(k,v)::r|false=>p::put r k v
noncomputable def cL {α:Type}:List ((Nat×Nat)×α)→Nat→Nat→Option α
 |[],_,_=>none
 |p::r,a,b=>match Nat.beq p.1.1 a,Nat.beq p.1.2 b with|true,true=>some p.2|_,_=>cL r a b
noncomputable def bq:List Nat→Nat→Bool
 |[],_=>false
 |a::r,k=>match Nat.beq a k with|true=>true|false=>bq r k
noncomputable def bB {α:Type}:List α→Nat→Option α
 |[],_=>none
 |a::_,0=>some a
 |_::r,n+1=>bB r n
noncomputable def eN {α:Type}:List α→Nat→α→List α
 |[],_,_=>[]
 |_::r,0,x=>x::r
 |a::r,n+1,x=>a::eN r n x
noncomputable abbrev Mo (α:Type):=St→Option (α×St)
noncomputable def ak {α:Type} (x:α):Mo α:=fun σ=>some (x,σ)
noncomputable def a7 {α β:Type} (m:Mo α) (f:α→Mo β):Mo β:=fun σ=>match m σ with|some (x,σ')=>f x σ'|none=>none
noncomputable def no {α:Type}:Mo α:=fun _=>none
noncomputable def aZ {α:Type} (x:Option α):Mo α:=fun σ=>match x with|some a=>some (a,σ)|none=>none
noncomputable def bE (p:Prop):Mo Unit:=fun σ=>some (Unit.unit,{ σ with obs:=p::σ.obs })
noncomputable def cQ (p:Prop):Mo Bool:=fun σ=>match σ.ds with
 |[]=>none
 |0::r=>some (false,{ σ with ds:=r,obs:=(¬ p)::σ.obs })
 |_::r=>some (true,{ σ with ds:=r,obs:=p::σ.obs })
noncomputable def lim:Nat:=1048576
noncomputable def ec (o:Option Bool):Mo Bool:=fun σ=>match σ.ds with
 |[]=>none
 |0::r=>some (false,{ σ with ds:=r,obs:=(o=some false)::σ.obs })
 |_::r=>some (true,{ σ with ds:=r,obs:=(o=some true)::σ.obs })
noncomputable def fA:X→Option V|.v x=>some x|_=>none
noncomputable def bR:V→Option Int|.int i=>some i|.sint i=>some i|_=>none
noncomputable def c9:V→Bool|.sint _=>false|.sstr _=>false|_=>true
noncomputable def cg:V→Option (List Nat)|.str s=>some s|.sstr s=>some s|_=>none
noncomputable def gK (l:Bool) (i:Int):V:=match l with|true=>.int i|false=>.sint i
noncomputable def fH (l:Bool) (s:List Nat):V:=match l with|true=>.str s|false=>.sstr s
noncomputable def ej {α:Type}:List α→Bool|[]=>false|_::_=>true
noncomputable def tv:V→Option Bool
 |.none=>some false|.bool b=>some b|.int i=>some (!decide (i=0))|.sint i=>some (!decide (i=0))
 |.str s=>some (ej s)|.sstr s=>some (ej s)|.tup l=>some (ej l)|.lst l=>some (ej l)|.dct l=>some (ej l)
 |_=>none
noncomputable def e6:V→Option Bool
 |.none=>some true|.stat _=>none|.opq _=>none|_=>some false
noncomputable def n4 (x:V):Mo Bool:=match x with
 |.none=>ak false
 |.bool b=>ak b
 |.int i=>ak (!decide (i=0))
 |.sint i=>cQ (i≠0)
 |.str s=>ak (ej s)
 |.sstr s=>cQ (s≠[])
 |.tup l=>ak (ej l)
 |.lst l=>ak (ej l)
 |.dct l=>ak (ej l)
 |.opq x=>ec (tv x)
 |_=>no
noncomputable def cw (k:Nat):Mo a8:=fun σ=>match bB σ.heap k with|some c=>some (c,σ)|none=>none
noncomputable def qn {α β:Type}:List α→Nat→α→(List α→β)→β
 |[],_,_,f=>f []
 |_::r,0,x,f=>f (x::r)
 |a::r,n+1,x,f=>qn r n x fun r'=>f (a::r')
theorem ug {α β:Type}:∀ (l:List α) (n:Nat) (x:α) (f:List α→β),qn l n x f=f (eN l n x)
 |[],_,_,_=>rfl
 |_::_,0,_,_=>rfl
 |_::r,n+1,x,_=>ug r n x _
noncomputable def lj {α β:Type}:List (Nat×α)→Nat→α→(List (Nat×α)→β)→β
 |[],k,v,f=>f [(k,v)]
 |p::r,k,v,f=>match Nat.beq p.1 k with|true=>f ((k,v)::r)|false=>lj r k v fun r'=>f (p::r')
theorem nH {α β:Type}:∀ (l:List (Nat×α)) (k:Nat) (v:α) (f:List (Nat×α)→β),lj l k v f=f (put l k v)
 |[],_,_,_=>rfl
 |p::r,k,v,f=>by
  unfold lj put;cases Nat.beq p.1 k with
  |true=>rfl
  |false=>exact nH r k v _
noncomputable def df (k:Nat) (c:a8):Mo Unit:=fun σ=>qn σ.heap k c fun h=>some (Unit.unit,{ σ with heap:=h })
theorem gD (k:Nat) (c:a8) (σ:St):df k c σ=some (Unit.unit,{ σ with heap:=eN σ.heap k c }):=ug _ _ _ _
noncomputable def gC (x:X):Mo Bool:=match x with
 |.v x=>n4 x
 |.r k=>a7 (cw k) fun c=>match c with
  |.lst l=>ak (ej l)
  |_=>no
 |_=>no
noncomputable def bV:List Nat→List Nat→Bool
 |[],[]=>true
 |a::r,b::t=>match Nat.beq a b with|true=>bV r t|false=>false
 |_,_=>false
noncomputable def dk:List Nat→List Nat→Bool
 |_,[]=>false
 |[],_::_=>true
 |a::r,b::t=>match Nat.blt a b with|true=>true|false=>match Nat.beq a b with|true=>dk r t|false=>false
noncomputable def iN:List Nat→List Nat→Bool
 |[],_=>true
 |a::r,b::t=>match Nat.beq a b with|true=>iN r t|false=>false
 |_::_,[]=>false
noncomputable def ea:V→V→Option Bool
 |.none,.str _=>some false|.str _,.none=>some false
 |.int a,.int b=>some (decide (a=b))
 |.str a,.str b=>some (bV a b)
 |_,_=>none
noncomputable def jf (x:V):List V→Option Bool
 |[]=>some false
 |y::r=>match ea x y with|some a=>(match jf x r with|some b=>some (a||b)|none=>none)|none=>none
noncomputable def kx (op:cG) (a b:Int):Option Prop:=match op with
 |.lt=>some (a < b)|.le=>some (a≤b)|.gt=>some (a > b)|.ge=>some (a≥b)|.eq=>some (a=b)|_=>none
noncomputable def oU (op:cG) (a b:Int):Option Bool:=match op with
 |.lt=>some (decide (a < b))|.le=>some (decide (a≤b))|.gt=>some (decide (a > b))|.ge=>some (decide (a≥b))|_=>none
noncomputable def eD (op:cG) (a b:V):Mo Bool:=match op with
 |.is=>match b with|.none=>(match a with|.opq x=>ec (e6 x)|a=>aZ (e6 a))|_=>no
 |.isnt=>match b with|.none=>(match a with|.opq x=>ec ((e6 x).map not)|a=>aZ ((e6 a).map not))|_=>no
 |.inn=>match b with
  |.str t=>match a with|.str [c]=>ak (bq t c)|_=>no
  |.tup l=>aZ (jf a l)
  |.lst l=>aZ (jf a l)
  |_=>no
 |.nin=>match b with
  |.str t=>match a with|.str [c]=>ak (!bq t c)|_=>no
  |_=>no
 |.eq=>match a,b with
  |.sint x,.int y=>cQ (x=y)|.int x,.sint y=>cQ (x=y)|.sint x,.sint y=>cQ (x=y)
  |.sstr x,.sstr y=>cQ (x=y)|.sstr x,.str y=>cQ (x=y)|.str x,.sstr y=>cQ (x=y)
  |.opq x,.str y=>ec (ea x (.str y))
  |a,b=>aZ (ea a b)
 |.ne=>aZ ((ea a b).map not)
 |op=>match a,b with
  |.int x,.int y=>aZ (oU op x y)
  |.str x,.str y=>match op with|.le=>ak (!dk y x)|.lt=>ak (dk x y)|.gt=>ak (dk y x)|.ge=>ak (!dk x y)|_=>no
  |a,b=>match bR a,bR b with
   |some x,some y=>match kx op x y with|some p=>cQ p|none=>no
   |_,_=>no
noncomputable def mx (l:Bool) (x:Int) (b:V):Mo V:=match b with
 |.int (.ofNat (n+1))=>(match Nat.blt n 1000000 with|true=>ak (gK l (x / (n+1:Nat)))|false=>no)
 |_=>no
noncomputable def nU (l:Bool) (x:Int) (b:V):Mo V:=match b with|.int (.ofNat (n+1))=>ak (gK l (x % (n+1:Nat)))|_=>no
noncomputable def cz (op:bU) (a b:V):Mo V:=match bR a,bR b with
 |some x,some y=>match op with
  |.add=>ak (gK (c9 a&&c9 b) (x+y))
  |.sub=>ak (gK (c9 a&&c9 b) (x - y))
  |.mul=>a7 (bE (x.natAbs≤lim∧y.natAbs≤lim)) fun _=>ak (gK (c9 a&&c9 b) (x * y))
  |.fdiv=>mx (c9 a) x b
  |.mod=>nU (c9 a) x b
 |_,_=>match op with
  |.add=>match a,b with
   |.lst x,.lst y=>a7 (bE (x.length+y.length≤lim)) fun _=>ak (.lst (x++y))
   |a,b=>match cg a,cg b with
    |some x,some y=>a7 (bE (x.length+y.length≤lim)) fun _=>ak (fH (c9 a&&c9 b) (x++y))
    |_,_=>no
  |.mul=>match cg a,bR b with
   |some x,some n=>a7 (bE (x.length=1∧n≤lim∧-lim≤n)) fun _=>ak (fH (c9 a&&c9 b) ((List.replicate n.toNat x).flatten))
   |_,_=>no
  |_=>no
noncomputable def il (op:bU) (a b:V):Mo V:=match a with|.lst _=>no|_=>cz op a b
noncomputable def at? {α:Type} (l:List α) (i:Int):Option α:=match i with
 |.ofNat n=>bB l n
 |.negSucc n=>match Nat.blt n l.length with|true=>bB l (l.length - (n+1))|false=>none
noncomputable def eC (n:Nat) (d:Nat):Option V→Option Nat
 |none=>some d
 |some (.int (.ofNat i))=>some (Nat.min i n)
 |some (.int (.negSucc i))=>some (n - (i+1))
 |_=>none
noncomputable def bX {α:Type} (l:List α) (lo hi:Option V):Option (List α):=match eC l.length 0 lo,eC l.length l.length hi with
 |some a,some b=>some ((l.take b).drop a)
 |_,_=>none
noncomputable def fD {α:Type} (l:List α) (i:Int):Mo α:=fun σ=>match σ.ds with
 |[]=>none
 |k::r=>match bB l k with
  |some x=>some (x,{ σ with ds:=r,obs:=(i=(k:Int))::σ.obs })
  |none=>none
noncomputable def ke:V→Int→V
 |.tup l,i=>(at? l i).getD .none
 |_,_=>.none
noncomputable def jZ:V→Int→Bool
 |.tup l,i=>(at? l i).isSome
 |_,_=>false
noncomputable def cZ (l:List V) (i:Int):V:=(bB l i.toNat).getD .none
noncomputable def jV (o:X) (i:V):Mo V:=match o with
 |.v (.opq x)=>match i with|.int i=>a7 (bE (jZ x i=true)) fun _=>ak (.opq (ke x i))|_=>no
 |.v (.tup l)=>match i with|.int i=>aZ (at? l i)|.sint i=>fD l i|_=>no
 |.v (.lst l)=>match i with|.int i=>aZ (at? l i)|.sint i=>fD l i|_=>no
 |.v (.str s)=>match i with|.int i=>a7 (aZ (at? s i)) fun c=>ak (.str [c])|_=>no
 |.v (.dct l)=>match i with
  |.str s=>aZ (match l.find? (fun p=>bV p.1 s) with|some p=>some p.2|none=>none)
  |_=>no
 |.r k=>a7 (cw k) fun c=>match c with
  |.lst l=>match i with|.int i=>aZ (at? l i)|.sint i=>fD l i|_=>no
  |_=>no
 |_=>no
noncomputable def ou (o:X) (i:V):Mo V:=match o with
 |.v (.lst l)=>match i with|.sint i=>a7 (bE (0≤i∧i < l.length)) fun _=>ak (.opq (cZ l i))|_=>no
 |_=>no
noncomputable def sv:V→V|.int i=>.sint i|.str s=>.sstr s|x=>x
noncomputable def ly (x:V):Mo V:=match x with
 |.sint i=>fun σ=>(match σ.ds with|[]=>none|k::r=>some (.int (k:Int),{ σ with ds:=r,obs:=(i=(k:Int))::σ.obs }))
 |x=>ak x
noncomputable def kQ (l:List V) (x:V):Mo V:=match x with
 |.opq x=>fun σ=>(match σ.ds with|[]=>none|k::r=>(match bB l k with|some y=>some (y,{ σ with ds:=r,obs:=(x=y)::σ.obs })|none=>none))
 |x=>ak x
noncomputable def f0 (o:X) (lo hi:Option V):Mo V:=match o with
 |.v (.lst l)=>a7 (aZ (bX l lo hi)) fun x=>ak (.lst x)
 |.v (.str s)=>a7 (aZ (bX s lo hi)) fun x=>ak (.str x)
 |.r k=>a7 (cw k) fun c=>match c with
  |.lst l=>a7 (aZ (bX l lo hi)) fun x=>ak (.lst x)
  |_=>no
 |_=>no
noncomputable def jQ (o:X):Mo V:=match o with
 |.v (.lst l)=>ak (.int l.length)
 |.v (.tup l)=>ak (.int l.length)
 |.v (.str s)=>ak (.int s.length)
 |.v (.sstr s)=>ak (.sint s.length)
 |.r k=>a7 (cw k) fun c=>match c with|.lst l=>ak (.int l.length)|_=>no
 |_=>no
structure ao where
 e:CE→Mo X
 t:CE→Mo Bool
 ss:List CS→Mo Fl
 fn:Nat→List X→Mo X
 whl:CE→List CS→Mo Fl
 fr:Nat→List V→List CS→Mo Fl
 cp:Nat→CE→List V→Mo (List V)
variable {R :ao}
noncomputable def dg (R:ao):List CE→Mo (List X)
 |[]=>ak []
 |c::r=>a7 (R.e c) fun x=>a7 (dg R r) fun xs=>ak (x::xs)
noncomputable def eV (R:ao):List (Nat×CE)→Mo (List (Nat×X))
 |[]=>ak []
 |c::r=>a7 (R.e c.2) fun x=>a7 (eV R r) fun xs=>ak ((c.1,x)::xs)
noncomputable def gz:List X→Option (List V)
 |[]=>some []
 |.v x::r=>match gz r with|some l=>some (x::l)|none=>none
 |_::_=>none
noncomputable def bt (R:ao) (c:CE):Mo V:=a7 (R.e c) fun x=>aZ (fA x)
noncomputable def fK (R:ao):Option CE→Mo (Option V)
 |none=>ak none
 |some c=>a7 (bt R c) fun v=>ak (some v)
noncomputable def dU:List Nat→List X→List (Nat×X)
 |p::ps,x::xs=>(p,x)::dU ps xs
 |_,_=>[]
noncomputable def zipD:List Nat→List V→List (Nat×X)
 |p::ps,x::xs=>(p,.v x)::zipD ps xs
 |_,_=>[]
noncomputable def kY (ps:List Nat):List (Nat×X)→List (Nat×X)→Option (List (Nat×X))
 |[],sl=>some sl
 |k::r,sl=>match bq ps k.1 with
  |true=>(match look sl k.1 with|none=>kY ps r (sl++[k])|some _=>none)
  |false=>none
noncomputable def kZ:List (Nat×X)→List (Nat×X)→List (Nat×X)
 |[],sl=>sl
 |p::r,sl=>match look sl p.1 with|none=>kZ r (sl++[p])|some _=>kZ r sl
noncomputable def iH (sl:List (Nat×X)):List Nat→Option (List X)
 |[]=>some []
 |p::r=>match look sl p with
  |some x=>(match iH sl r with|some l=>some (x::l)|none=>none)
  |none=>none
noncomputable def pf (ps:List Nat) (as:List X) (ks:List (Nat×X)) (ds:List V):Option (List X):=match Nat.ble as.length ps.length with
 |true=>match Nat.ble ds.length ps.length with
  |true=>match kY ps ks (dU ps as) with
   |some sl=>match iH sl (ps.take (ps.length - ds.length)) with
    |some _=>iH (kZ (zipD (ps.drop (ps.length - ds.length)) ds) sl) ps
    |none=>none
   |none=>none
  |false=>none
 |false=>none
noncomputable def noRef:X→Bool|.v _=>true|_=>false
noncomputable def ky (n:Nat):X→Bool|.v _=>true|.r k=>Nat.blt k n|.m k _=>Nat.blt k n
noncomputable def db {α:Type} (p:α→Bool):List α→Bool
 |[]=>true
 |a::r=>match p a with|true=>db p r|false=>false
noncomputable def mM (n:Nat):a8→Bool
 |.ins _ fs=>db (fun p=>ky n p.2) fs
 |.bms k _=>Nat.blt k n
 |_=>true
noncomputable def cI (T:b8) (R:ao) (f:Nat) (args:List X):Mo X:=match look T.fns f with
 |some F=>fun σ=>match R.ss F.body { σ with loc:=dU F.params args } with
  |some (fl,σ')=>some (match fl with|.ret x=>x|.next=>.v .none,{ σ' with loc:=σ.loc })
  |none=>none
 |none=>no
noncomputable def ed (R:ao) (f:Nat) (args:List X):Mo X:=fun σ=>match R.fn f args σ with
 |some (.v x,σ')=>match Nat.beq σ'.heap.length σ.heap.length with
  |true=>some (.v x,σ')
  |false=>match db (mM σ.heap.length) (σ'.heap.take σ.heap.length) with
   |true=>some (.v x,{ σ' with heap:=σ'.heap.take σ.heap.length })
   |false=>none
 |some (.r k,σ')=>some (.r k,σ')
 |_=>none
noncomputable def gn (R:ao) (f:Nat) (args:List X):Mo X:=fun σ=>match db noRef args with
 |true=>match R.fn f args { σ with heap:=[],loc:=[] } with
  |some (.v x,σ')=>some (.v x,{ σ' with heap:=σ.heap,loc:=σ.loc })
  |_=>none
 |false=>none
noncomputable def ir:List (Nat×X)→Option (List (Nat×V))
 |[]=>some []
 |p::r=>match p.2 with
  |.v x=>match ir r with|some l=>some ((p.1,x)::l)|none=>none
  |_=>none
noncomputable def fG:Nat:=0
noncomputable def d7 (T:b8) (f:Nat) (as:List X) (ks:List (Nat×X)):Option (List X):=match look T.fns f with
 |some F=>pf F.params as ks F.dflts
 |none=>none
noncomputable def oF (c:Nat) (σ:St):Option (X×St)→Option (X×St)
 |some (.v .none,σ')=>match σ'.heap with
  |.ins c' fs::_=>match Nat.beq c c' with
   |true=>match ir fs with
    |some l=>some (.v (.inst c l),{ σ' with heap:=σ.heap,loc:=σ.loc })
    |none=>none
   |false=>none
  |_=>none
 |_=>none
noncomputable def ie (T:b8) (R:ao) (c f:Nat) (xs:List X) (ys:List (Nat×X)):Mo X:=fun σ=>match db noRef xs with
 |true=>match db (fun p=>noRef p.2) ys with
  |true=>match d7 T f (.r 0::xs) ys with
   |some args=>oF c σ (R.fn f args { σ with heap:=[.ins c []],loc:=[] })
   |none=>none
  |false=>none
 |false=>none
noncomputable def fF (T:b8) (R:ao) (c f:Nat) (xs:List X) (ys:List (Nat×X)):Mo X:=fun σ=>match d7 T f (.r σ.heap.length::xs) ys with
 |some args=>match R.fn f args { σ with heap:=σ.heap++[.ins c []] } with
  |some (.v .none,σ')=>some (.r σ.heap.length,σ')
  |_=>none
 |none=>none
noncomputable def kf (T:b8) (x:X) (f:Nat):Mo X:=match x with
 |.v (.inst _ fs)=>match look fs f with
  |some y=>ak (.v y)
  |none=>no
 |.r k=>a7 (cw k) fun c=>match c with
  |.ins c fs=>match look fs f with
   |some y=>ak y
   |none=>match cL T.meths c f with
    |some g=>ak (.m k g)
    |none=>match cL T.cvals c f with
     |some v=>ak (.v v)
     |none=>no
  |_=>no
 |_=>no
noncomputable def iK (T:b8) (x:X) (f:Nat) (y:X):Mo Unit:=match x with
 |.r k=>a7 (cw k) fun c=>match c with
  |.ins c fs=>a7 (aZ (look T.flds c)) fun l=>match bq l f,Nat.ble fs.length 1000 with
   |true,true=>lj fs f y fun l=>df k (.ins c l)
   |_,_=>no
  |_=>no
 |_=>no
noncomputable def push (c:a8):Mo X:=fun σ=>some (.r σ.heap.length,{ σ with heap:=σ.heap++[c] })
noncomputable def gY (R:ao) (a:V):List (cG×CE)→Mo Bool
 |[]=>no
 |p::r=>a7 (bt R p.2) fun b=>a7 (eD p.1 a b) fun t=>match r with
  |[]=>ak t
  |_::_=>match t with|true=>gY R b r|false=>ak false
noncomputable def kU (R:ao):List CE→Mo Bool
 |[]=>ak true
 |e::r=>a7 (R.t e) fun b=>match b with|true=>kU R r|false=>ak false
noncomputable def kT (R:ao):List CE→Mo Bool
 |[]=>ak false
 |e::r=>a7 (R.t e) fun b=>match b with|true=>ak true|false=>kT R r
noncomputable def Cd (R:ao) (e:CE):Mo Bool:=a7 (R.t e) fun b=>ak (!b)
noncomputable def Ce (R:ao) (t b o:CE):Mo Bool:=a7 (R.t t) fun c=>match c with|true=>R.t b|false=>R.t o
noncomputable def Cf (R:ao) (l:CE) (ops:List (cG×CE)):Mo Bool:=a7 (bt R l) fun a=>gY R a ops
noncomputable def bK (R:ao) (e:CE):Mo Bool:=a7 (R.e e) gC
noncomputable def kR (R:ao) (c:CE):Mo Bool:=match c with
 |.not e=>Cd R e|.and l=>kU R l|.or l=>kT R l|.ife t b o=>Ce R t b o|.cmp l ops=>Cf R l ops|.stuck=>no|.orz _=>no
 |.k v=>bK R (.k v)|.n x=>bK R (.n x)|.g x=>bK R (.g x)|.a e f=>bK R (.a e f)
 |.bin op l r=>bK R (.bin op l r)|.neg e=>bK R (.neg e)|.isi e cs=>bK R (.isi e cs)|.len e=>bK R (.len e)
 |.tup l=>bK R (.tup l)|.lst l=>bK R (.lst l)|.newl l=>bK R (.newl l)|.nil k=>bK R (.nil k)|.catn l r=>bK R (.catn l r)|.frz e=>bK R (.frz e)
 |.idx e i=>bK R (.idx e i)|.sl e lo hi=>bK R (.sl e lo hi)|.call x f iso as ks=>bK R (.call x f iso as ks)|.new x c fz as ks=>bK R (.new x c fz as ks)
 |.meth e m as ks=>bK R (.meth e m as ks)|.fcall e f=>bK R (.fcall e f)|.app e x=>bK R (.app e x)|.pop e=>bK R (.pop e)|.pop0 e=>bK R (.pop0 e)|.ext e x=>bK R (.ext e x)
 |.starts e x=>bK R (.starts e x)|.join e x=>bK R (.join e x)|.fmt e x=>bK R (.fmt e x)|.keysS e=>bK R (.keysS e)|.copyD e=>bK R (.copyD e)|.rng e=>bK R (.rng e)
 |.comp x body src=>bK R (.comp x body src)|.dnil=>bK R .dnil|.cat2 a b=>bK R (.cat2 a b)|.blur e=>bK R (.blur e)|.pin e=>bK R (.pin e)
 |.idxq e i=>bK R (.idxq e i)|.unq l e=>bK R (.unq l e)
noncomputable def kP (R:ao):List CE→Mo X
 |[]=>no
 |e::r=>a7 (R.e e) fun x=>match r with
  |[]=>ak x
  |_::_=>a7 (gC x) fun b=>match b with|true=>kP R r|false=>ak x
noncomputable def kO (R:ao):List CE→Mo X
 |[]=>no
 |e::r=>a7 (R.e e) fun x=>match r with
  |[]=>ak x
  |_::_=>a7 (gC x) fun b=>match b with|true=>ak x|false=>kO R r
noncomputable def iA (l:List Nat):List (Nat×Nat)→Bool
 |[]=>false
 |p::r=>match bq l p.2 with|true=>true|false=>iA l r
noncomputable def gO:a8→Bool|.lst _=>true|.stk _=>true|.strs _=>true|.bms _ _=>true|_=>false
noncomputable def jT (o:X):Mo Unit:=match o with
 |.r k=>a7 (cw k) fun c=>match gO c with|true=>ak Unit.unit|false=>no
 |_=>no
noncomputable def pn (o x:X):Mo X:=match o with
 |.r k=>a7 (cw k) fun c=>match c with
  |.lst l=>a7 (aZ (fA x)) fun v=>a7 (bE (l.length < lim)) fun _=>a7 (df k (.lst (l++[v]))) fun _=>ak (.v .none)
  |.stk l=>a7 (aZ (fA x)) fun v=>a7 (bE (l.length < lim)) fun _=>a7 (df k (.stk (v::l))) fun _=>ak (.v .none)
  |.strs l=>a7 (aZ (fA x)) fun v=>a7 (aZ (cg v)) fun s=>a7 (bE (l.length < lim)) fun _=>a7 (df k (.strs (s::l))) fun _=>ak (.v .none)
  |.bms k' l=>match x with
   |.m k'' f=>match Nat.beq k' k'' with
    |true=>a7 (bE (l.length < lim)) fun _=>a7 (df k (.bms k' (f::l))) fun _=>ak (.v .none)
    |false=>no
   |_=>no
  |_=>no
 |_=>no
noncomputable def lq (o:X):Mo X:=match o with
 |.r k=>a7 (cw k) fun c=>match c with
  |.stk (v::l)=>a7 (df k (.stk l)) fun _=>ak (.v v)
  |.bms k' (f::l)=>a7 (df k (.bms k' l)) fun _=>ak (.m k' f)
  |_=>no
 |_=>no
noncomputable def lr (o:X):Mo X:=match o with
 |.r k=>a7 (cw k) fun c=>match c with
  |.lst (v::l)=>a7 (df k (.lst l)) fun _=>ak (.v v)
  |_=>no
 |_=>no
noncomputable def oN (o:X) (x:V):Mo X:=match o,x with
 |.r k,.lst y=>a7 (cw k) fun c=>match c with
  |.lst l=>a7 (bE (l.length+y.length≤lim)) fun _=>a7 (df k (.lst (l++y))) fun _=>ak (.v .none)
  |_=>no
 |_,_=>no
noncomputable def nw (k:Nat) (x:V) (c:a8):Mo Unit:=match c with
 |.lst l=>(match l with|[]=>no|_::_=>df k (.lst (eN l (l.length - 1) x)))
 |_=>no
noncomputable def md:V→Bool|.int i=>(match i with|.negSucc n=>(match n with|0=>true|_+1=>false)|_=>false)|_=>false
noncomputable def nv (o:X) (i x:V):Mo Unit:=match o with
 |.r k=>(match md i with|true=>a7 (cw k) (nw k x)|false=>no)
 |_=>no
noncomputable def fQ:List V→Option (List (List Nat))
 |[]=>some []
 |v::r=>match cg v,fQ r with|some s,some l=>some (s::l)|_,_=>none
noncomputable def lZ:List V→Bool
 |[]=>true
 |v::r=>match c9 v with|true=>lZ r|false=>false
noncomputable def dQ (sep:List Nat):List (List Nat)→List Nat
 |[]=>[]
 |s::r=>match r with|[]=>s|_::_=>s++(sep++dQ sep r)
noncomputable def jt (sep:List Nat):List (List Nat)→Nat
 |[]=>0
 |s::r=>s.length+sep.length+jt sep r
noncomputable def jS (sep:List Nat) (x:X):Mo X:=match x with
 |.v (.lst l)=>a7 (aZ (fQ l)) fun ss=>a7 (bE (jt sep ss≤lim)) fun _=>ak (.v (fH (lZ l) (dQ sep ss)))
 |.r k=>a7 (cw k) fun c=>match c with
  |.strs l=>match sep with
   |[]=>a7 (bE (jt [] l.reverse≤lim)) fun _=>ak (.v (.sstr l.reverse.flatten))
   |_=>no
  |.lst l=>a7 (aZ (fQ l)) fun ss=>a7 (bE (jt sep ss≤lim)) fun _=>ak (.v (fH (lZ l) (dQ sep ss)))
  |_=>no
 |_=>no
noncomputable def two1:List V→Option (List Nat)
 |[]=>none
 |a::r=>match a with
  |.str s=>(match r with
   |[]=>none
   |b::t=>(match b with
    |.str u=>(match t,bV s [33],bV u [104] with|[],true,true=>some [33,104]|_,_,_=>none)
    |_=>none))
  |_=>none
noncomputable def rU (p:List Nat) (x:V):Option (List Nat):=match bV p [37,115,37,115] with
 |true=>(match x with|.tup l=>two1 l|_=>none)
 |false=>(match bV p [33,60,37,115,62] with
  |true=>(match x with|.str s=>(match bV s [122] with|true=>some [33,60,122,62]|false=>none)|_=>none)
  |false=>none)
noncomputable def items (x:X):Mo (List V):=match x with
 |.v (.lst l)=>ak l
 |.v (.str s)=>ak (s.map fun c=>.str [c])
 |_=>no
noncomputable def nG (x:Nat):Mo X:=fun σ=>match look σ.loc x with|some y=>some (y,σ)|none=>none
noncomputable def CJ (T:b8) (x:Nat):Mo X:=a7 (aZ (look T.globs x)) fun v=>ak (.v v)
noncomputable def D3 (T:b8) (R:ao) (e:CE) (f:Nat):Mo X:=a7 (R.e e) fun x=>kf T x f
noncomputable def Cs (R:ao) (e:CE):Mo X:=a7 (R.e e) fun x=>a7 (gC x) fun b=>ak (.v (.bool (!b)))
noncomputable def CF (R:ao) (t b o:CE):Mo X:=a7 (R.t t) fun c=>match c with|true=>R.e b|false=>R.e o
noncomputable def CX (R:ao) (op:bU) (l r:CE):Mo X:=a7 (bt R l) fun a=>a7 (bt R r) fun b=>a7 (cz op a b) fun v=>ak (.v v)
noncomputable def Cv (R:ao) (e:CE):Mo X:=a7 (bt R e) fun v=>match v with|.int i=>ak (.v (.int (-i)))|_=>no
noncomputable def CR (R:ao) (l:CE) (ops:List (cG×CE)):Mo X:=a7 (bt R l) fun a=>a7 (gY R a ops) fun b=>ak (.v (.bool b))
noncomputable def CD (T:b8) (R:ao) (e:CE) (cs:List (Nat×Nat)):Mo X:=a7 (bt R e) fun v=>match v with
  |.inst c _=>match look T.subs c with|some l=>ak (.v (.bool (iA l cs)))|none=>no
  |_=>no
noncomputable def Cz (R:ao) (e:CE):Mo X:=a7 (R.e e) fun x=>a7 (jQ x) fun v=>ak (.v v)
noncomputable def Cc (R:ao) (l:List CE):Mo X:=a7 (dg R l) fun xs=>a7 (aZ (gz xs)) fun vs=>ak (.v (.tup vs))
noncomputable def Cy (R:ao) (l:List CE):Mo X:=a7 (dg R l) fun xs=>a7 (aZ (gz xs)) fun vs=>ak (.v (.lst vs))
noncomputable def Cu (R:ao) (l:List CE):Mo X:=a7 (dg R l) fun xs=>a7 (aZ (gz xs)) fun vs=>push (.lst vs)
noncomputable def Ct (k:LK):Mo X:=match k with|.lst=>push (.lst [])|.stk=>push (.stk [])|.strs=>push (.strs [])|.bms=>no
noncomputable def qA (a b:V):Mo X:=match a with
 |.lst x=>(match b with|.lst y=>a7 (bE (x.length+y.length≤lim)) fun _=>push (.lst (x++y))|_=>no)
 |_=>no
noncomputable def CT (R:ao) (l r:CE):Mo X:=a7 (bt R l) fun a=>a7 (bt R r) fun b=>qA a b
noncomputable def CK (R:ao) (e:CE):Mo X:=a7 (R.e e) fun o=>match o with
  |.r k=>a7 (cw k) fun c=>match c with
   |.lst l=>a7 (df k .dead) fun _=>ak (.v (.lst l))
   |_=>no
  |_=>no
noncomputable def CH (R:ao) (e i:CE):Mo X:=a7 (R.e e) fun o=>a7 (bt R i) fun i=>a7 (jV o i) fun v=>ak (.v v)
noncomputable def Ci (R:ao) (e:CE) (lo hi:Option CE):Mo X:=a7 (R.e e) fun o=>a7 (fK R lo) fun a=>a7 (fK R hi) fun b=>a7 (f0 o a b) fun v=>ak (.v v)
noncomputable def CV (T:b8) (R:ao) (f:Nat) (iso:Bool) (as:List CE) (ks:List (Nat×CE)):Mo X:=a7 (dg R as) fun xs=>a7 (eV R ks) fun ys=>a7 (aZ (d7 T f xs ys)) fun args=>match iso with
  |true=>gn R f args
  |false=>ed R f args
noncomputable def uF (T:b8) (R:ao) (c:Nat) (fz:Bool) (as:List CE) (ks:List (Nat×CE)):Mo X:=match cL T.meths c fG with
  |some f=>a7 (dg R as) fun xs=>a7 (eV R ks) fun ys=>match fz with|true=>ie T R c f xs ys|false=>fF T R c f xs ys
  |none=>no
noncomputable def Cw (T:b8) (R:ao) (e:CE) (m:Nat) (as:List CE) (ks:List (Nat×CE)):Mo X:=a7 (R.e e) fun o=>match o with
  |.r k=>a7 (cw k) fun c=>match c with
   |.ins c fs=>match look fs m,cL T.meths c m with
    |none,some f=>a7 (dg R as) fun xs=>a7 (eV R ks) fun ys=>a7 (aZ (d7 T f (.r k::xs) ys)) fun args=>ed R f args
    |_,_=>no
   |_=>no
  |_=>no
noncomputable def CN (T:b8) (R:ao) (e:CE) (f:Nat):Mo X:=a7 (R.e e) fun o=>match o with
  |.r k=>a7 (cw k) fun c=>match c with
   |.ins _ fs=>match look fs f with
    |some (.m k' g)=>match d7 T g [.r k'] [] with|some args=>ed R g args|none=>no
    |_=>no
   |_=>no
  |_=>no
noncomputable def D2 (R:ao) (e x:CE):Mo X:=a7 (R.e e) fun o=>a7 (jT o) fun _=>a7 (R.e x) fun y=>pn o y
noncomputable def Cp (R:ao) (e:CE):Mo X:=a7 (R.e e) lq
noncomputable def Co (R:ao) (e:CE):Mo X:=a7 (R.e e) lr
noncomputable def CO (R:ao) (e x:CE):Mo X:=a7 (R.e e) fun o=>a7 (jT o) fun _=>a7 (bt R x) fun y=>oN o y
noncomputable def Cg (R:ao) (e x:CE):Mo X:=a7 (bt R e) fun a=>a7 (bt R x) fun b=>match a,b with|.str s,.str t=>ak (.v (.bool (iN t s)))|_,_=>no
noncomputable def CB (R:ao) (e x:CE):Mo X:=a7 (bt R e) fun a=>a7 (R.e x) fun y=>match a with|.str s=>jS s y|_=>no
noncomputable def CM (R:ao) (e x:CE):Mo X:=a7 (bt R e) fun a=>a7 (bt R x) fun b=>match a with|.str p=>a7 (aZ (rU p b)) fun s=>ak (.v (.str s))|_=>no
noncomputable def CA (R:ao) (e:CE):Mo X:=a7 (bt R e) fun a=>match a with|.dct [p,q]=>(match dk p.1 q.1 with|true=>ak (.v (.lst [.str p.1,.str q.1]))|false=>no)|_=>no
noncomputable def CP (R:ao) (e:CE):Mo X:=a7 (bt R e) fun a=>match a with|.dct l=>ak (.v (.dct l))|_=>no
noncomputable def CQ (R:ao) (x:Nat) (body src:CE):Mo X:=a7 (R.e src) fun o=>a7 (items o) fun l=>a7 (R.cp x body l) fun vs=>ak (.v (.lst vs))
noncomputable def CU (R:ao) (a b:CE):Mo X:=a7 (bt R a) fun x=>a7 (bt R b) fun y=>match x,y with
  |.str s,.str t=>a7 (bE (s.length+t.length≤lim)) fun _=>ak (.v (.str (s++t)))
  |_,_=>no
noncomputable def Cr (R:ao) (e:CE):Mo X:=a7 (bt R e) fun v=>match v with|.none=>ak (.v (.int 0))|.sint i=>ak (.v (.sint i))|.int i=>ak (.v (.int i))|_=>no
noncomputable def CW (R:ao) (e:CE):Mo X:=a7 (bt R e) fun v=>ak (.v (sv v))
noncomputable def Cq (R:ao) (e:CE):Mo X:=a7 (bt R e) fun v=>a7 (ly v) fun w=>ak (.v w)
noncomputable def CG (R:ao) (e i:CE):Mo X:=a7 (R.e e) fun o=>a7 (bt R i) fun i=>a7 (ou o i) fun v=>ak (.v v)
noncomputable def Ca (R:ao) (l:List V) (e:CE):Mo X:=a7 (bt R e) fun v=>a7 (kQ l v) fun w=>ak (.v w)
noncomputable def bh (T:b8) (R:ao) (c:CE):Mo X:=match c with
 |.k v=>ak (.v v)|.n x=>nG x|.g x=>CJ T x|.a e f=>D3 T R e f|.not e=>Cs R e|.and l=>kP R l|.or l=>kO R l|.ife t b o=>CF R t b o
 |.bin op l r=>CX R op l r|.neg e=>Cv R e|.cmp l ops=>CR R l ops|.isi e cs=>CD T R e cs|.len e=>Cz R e
 |.tup l=>Cc R l|.lst l=>Cy R l|.newl l=>Cu R l|.nil k=>Ct k|.catn l r=>CT R l r|.frz e=>CK R e
 |.idx e i=>CH R e i|.sl e lo hi=>Ci R e lo hi|.call _ f iso as ks=>CV T R f iso as ks|.new _ c fz as ks=>uF T R c fz as ks
 |.meth e m as ks=>Cw T R e m as ks|.fcall e f=>CN T R e f|.app e x=>D2 R e x|.pop e=>Cp R e|.pop0 e=>Co R e|.ext e x=>CO R e x
 |.starts e x=>Cg R e x|.join e x=>CB R e x|.fmt e x=>CM R e x|.keysS e=>CA R e|.copyD e=>CP R e|.rng _=>no
 |.comp x body src=>CQ R x body src|.dnil=>ak (.v (.dct []))|.orz e=>Cr R e|.cat2 a b=>CU R a b|.blur e=>CW R e|.pin e=>Cq R e
 |.idxq e i=>CG R e i|.unq l e=>Ca R l e|.stuck=>no
noncomputable def hY (x:Nat) (v:X):Mo Unit:=fun σ=>lj σ.loc x v fun l=>some (Unit.unit,{ σ with loc:=l })
theorem fV (x:Nat) (v:X) (σ:St):hY x v σ=some (Unit.unit,{ σ with loc:=put σ.loc x v }):=nH _ _ _ _
noncomputable def jA:List Nat→X→Mo Unit
 |[],_=>ak Unit.unit
 |x::r,v=>a7 (hY x v) fun _=>jA r v
noncomputable def js:List Nat→List V→Mo Unit
 |[],[]=>ak Unit.unit
 |x::r,v::l=>a7 (hY x (.v v)) fun _=>js r l
 |_,_=>no
noncomputable def dL:Nat→Nat→List V
 |0,_=>[]
 |n+1,i=>.int (i:Int)::dL n (i+1)
noncomputable def uE (y:X):Mo Fl:=match y with
 |.v x=>(match x with|.none=>ak .next|.str _=>ak .next|.int _=>ak .next|_=>no)
 |_=>no
noncomputable def Cl (R:ao) (x:CE):Mo Fl:=a7 (R.e x) fun y=>uE y
noncomputable def D0 (R:ao) (xs:List Nat) (e:CE):Mo Fl:=a7 (R.e e) fun x=>a7 (jA xs x) fun _=>ak .next
noncomputable def lO:CE→Option Nat|.n z=>some z|_=>none
noncomputable def qB (T:b8) (f:Nat) (ox:X):Mo Fl:=match ox with
 |.r k=>a7 (push (.bms k [])) fun y=>a7 (iK T ox f y) fun _=>ak .next
 |_=>no
noncomputable def qC (T:b8) (f z:Nat):Mo Fl:=a7 (nG z) fun ox=>qB T f ox
noncomputable def lh (T:b8) (o:CE) (f:Nat):Mo Fl:=match lO o with|some z=>qC T f z|none=>no
noncomputable def li (T:b8) (R:ao) (o:CE) (f:Nat) (e:CE):Mo Fl:=a7 (R.e e) fun x=>a7 (R.e o) fun ox=>a7 (iK T ox f x) fun _=>ak .next
noncomputable def FC:LK→Bool|.bms=>true|_=>false
noncomputable def on:CE→Bool|.nil k=>FC k|_=>false
noncomputable def Cm (T:b8) (R:ao) (o:CE) (f:Nat) (e:CE):Mo Fl:=match on e with|true=>lh T o f|false=>li T R o f e
noncomputable def Cb (R:ao) (xs:List Nat) (e:CE):Mo Fl:=a7 (bt R e) fun v=>match v with
  |.tup l=>a7 (js xs l) fun _=>ak .next
  |_=>no
noncomputable def Ck (R:ao) (o i e:CE):Mo Fl:=a7 (bt R e) fun x=>a7 (R.e o) fun ox=>a7 (bt R i) fun iv=>a7 (nv ox iv x) fun _=>ak .next
noncomputable def CY (R:ao) (x:Nat) (op:bU) (e:CE):Mo Fl:=a7 (fun σ=>match look σ.loc x with|some y=>some (y,σ)|none=>none) fun y=>a7 (aZ (fA y)) fun a=>a7 (bt R e) fun b=>a7 (il op a b) fun v=>a7 (hY x (.v v)) fun _=>ak .next
noncomputable def CZ (T:b8) (R:ao) (o:CE) (f:Nat) (op:bU) (e:CE):Mo Fl:=a7 (R.e o) fun ox=>a7 (kf T ox f) fun y=>a7 (aZ (fA y)) fun a=>a7 (bt R e) fun b=>a7 (il op a b) fun v=>a7 (iK T ox f (.v v)) fun _=>ak .next
noncomputable def Cj (R:ao) (t:CE) (b o:List CS):Mo Fl:=a7 (R.t t) fun c=>match c with|true=>R.ss b|false=>R.ss o
noncomputable def qy (R:ao) (x:Nat) (b:List CS) (v:V):Mo Fl:=match v with
 |.int (.ofNat k)=>(match Nat.ble k 1000 with|true=>R.fr x (dL k 0) b|false=>no)
 |_=>no
noncomputable def l9 (R:ao) (x:Nat) (n:CE) (b:List CS):Mo Fl:=a7 (bt R n) fun v=>qy R x b v
noncomputable def lg (R:ao) (x:Nat) (e:CE) (b:List CS):Mo Fl:=a7 (R.e e) fun o=>a7 (items o) fun l=>R.fr x l b
noncomputable def l8:CE→Option CE|.rng n=>some n|_=>none
noncomputable def qz (R:ao) (x:Nat) (e:CE) (b:List CS):Mo Fl:=match l8 e with|some n=>l9 R x n b|none=>lg R x e b
noncomputable def Cn (R:ao) (e:CE):Mo Fl:=a7 (R.e e) fun x=>ak (.ret x)
noncomputable def bN (T:b8) (R:ao) (c:CS):Mo Fl:=match c with
 |.e x=>Cl R x|.asg xs e=>D0 R xs e|.asgF o f e=>Cm T R o f e|.unp xs e=>Cb R xs e|.setI o i e=>Ck R o i e
 |.augN x op e=>CY R x op e|.augF o f op e=>CZ T R o f op e|.ife t b o=>Cj R t b o|.whl t b=>R.whl t b|.for x e b=>qz R x e b
 |.ret e=>Cn R e|.ret0=>ak (.ret (.v .none))|.pass=>ak .next|.stuck=>no
noncomputable def fJ (T:b8) (R:ao):List CS→Mo Fl
 |[]=>ak .next
 |c::r=>a7 (bN T R c) fun f=>match f with|.next=>fJ T R r|.ret x=>ak (.ret x)
noncomputable def kj (R:ao) (t:CE) (b:List CS):Mo Fl:=a7 (R.t t) fun c=>match c with
 |true=>a7 (R.ss b) fun f=>match f with|.next=>R.whl t b|.ret x=>ak (.ret x)
 |false=>ak .next
noncomputable def e8 (R:ao) (x:Nat) (b:List CS):List V→Mo Fl
 |[]=>ak .next
 |v::l=>a7 (hY x (.v v)) fun _=>a7 (R.ss b) fun f=>match f with|.next=>e8 R x b l|.ret y=>ak (.ret y)
noncomputable def d0 (R:ao) (x:Nat) (body:CE):List V→Mo (List V)
 |[]=>ak []
 |v::l=>fun σ=>match bt R body { σ with heap:=[],loc:=[(x,.v v)] } with
  |some (y,σ')=>a7 (d0 R x body l) (fun ys=>ak (y::ys)) { σ' with heap:=σ.heap,loc:=σ.loc }
  |none=>none
noncomputable def su:ao:=⟨fun _=>no,fun _=>no,fun _=>no,fun _ _=>no,fun _ _=>no,fun _ _ _=>no,fun _ _ _=>no⟩
noncomputable def ju (T:b8) (R:ao) (F:Nat→List X→Mo X):ao:=⟨bh T R,kR R,fJ T R,F,kj R,fun x l b=>e8 R x b l,fun x c l=>d0 R x c l⟩
noncomputable def run (T:b8):Nat→Nat→ao
 |0,_=>su
 |n+1,d=>ju T (run T n d) (match d with|0=>fun _ _=>no|d'+1=>cI T (run T n d'))
set_option backward.match.sparseCases true
noncomputable def Hi:Fn:=⟨[1,2,3],[.none,.none],[.asgF (.n 1) 2 (.n 2),
 .asgF (.n 1) 3 (.n 3)]⟩
noncomputable def GM:Fn:=⟨[1,4,2,3],[.none,.none],[.asgF (.n 1) 4 (.n 4),
 .asgF (.n 1) 2 (.n 2),
 .asgF (.n 1) 3 (.n 3)]⟩
noncomputable def GI:Fn:=⟨[1,4,5,6,2,3,7],[.none,.none,.none],[.asgF (.n 1) 4 (.n 4),
 .asgF (.n 1) 5 (.n 5),
 .asgF (.n 1) 6 (.n 6),
 .asgF (.n 1) 2 (.n 2),
 .asgF (.n 1) 3 (.n 3),
 .asgF (.n 1) 7 (.n 7)]⟩
noncomputable def HK:Fn:=⟨[1,2,3,8],[.none,.none,.none],[.asgF (.n 1) 2 (.n 2),
 .asgF (.n 1) 3 (.n 3),
 .asgF (.n 1) 8 (.n 8)]⟩
noncomputable def HJ:Fn:=⟨[1,2,3,9,10,11],[.none,.none,.none,.none,.none],[.asgF (.n 1) 2 (.n 2),
 .asgF (.n 1) 3 (.n 3),
 .asgF (.n 1) 9 (.n 9),
 .asgF (.n 1) 10 (.n 10),
 .asgF (.n 1) 11 (.n 11)]⟩
noncomputable def HI:Fn:=⟨[1,2,3,9],[.none,.none,.none],[.asgF (.n 1) 2 (.n 2),
 .asgF (.n 1) 3 (.n 3),
 .asgF (.n 1) 9 (.n 9)]⟩
noncomputable def HD:Fn:=⟨[1,4,5,6,12,2,3,13],[.none,.none,.none],[.asgF (.n 1) 4 (.n 4),
 .asgF (.n 1) 5 (.n 5),
 .asgF (.n 1) 6 (.n 6),
 .asgF (.n 1) 12 (.n 12),
 .asgF (.n 1) 2 (.n 2),
 .asgF (.n 1) 3 (.n 3),
 .asgF (.n 1) 13 (.n 13)]⟩
noncomputable def HB:Fn:=⟨[1,14,15,16,17,18,19,20,21],[],[.asgF (.n 1) 14 (.n 14),
 .asgF (.n 1) 15 (.n 15),
 .asgF (.n 1) 16 (.n 16),
 .asgF (.n 1) 17 (.n 17),
 .asgF (.n 1) 18 (.n 18),
 .asgF (.n 1) 19 (.n 19),
 .asgF (.n 1) 20 (.n 20),
 .asgF (.n 1) 21 (.n 21)]⟩
noncomputable def eU:Fn:=⟨[1,23,41,30,45,42,47],[.none,.none,.none,.none,.none],[.asgF (.n 1) 23 (.n 23),
 .asgF (.n 1) 8 (.k (.none)),
 .asgF (.n 1) 24 (.nil .bms),
 .asgF (.n 1) 25 (.a (.n 1) 26),
 .asgF (.n 1) 27 (.nil .lst),
 .asgF (.n 1) 28 (.k (.none)),
 .asgF (.n 1) 29 (.nil .stk),
 .asgF (.n 1) 30 (.k (.none)),
 .asgF (.n 1) 31 (.k (.int 0)),
 .asgF (.n 1) 32 (.k (.bool false)),
 .asgF (.n 1) 33 (.k (.bool false)),
 .asgF (.n 1) 34 (.k (.bool false)),
 .asgF (.n 1) 35 (.k (.bool false)),
 .asgF (.n 1) 36 (.blur (.k (.int 0))),
 .asgF (.n 1) 37 (.k (.int 0)),
 .asgF (.n 1) 38 (.k (.bool true)),
 .asgF (.n 1) 39 (.k (.bool true)),
 .asgF (.n 1) 40 (.k (.bool false)),
 .asgF (.n 1) 41 (.n 41),
 .asgF (.n 1) 42 (.n 42),
 .asgF (.n 1) 43 (.k (.int 2)),
 .ife (.and [.n 30,.cmp (.k (.int 1)) [(.lt,.n 30),(.lt,.k (.int 10))]]) [.asgF (.n 1) 43 (.n 30)] [],
 .asgF (.n 1) 44 (.blur (.k (.int 80))),
 .ife (.and [.n 45,.cmp (.n 45) [(.gt,.bin .mul (.a (.n 1) 43) (.k (.int 2)))]]) [.asgF (.n 1) 44 (.blur (.n 45))] [],
 .asgF (.n 1) 46 (.k (.str [10])),
 .ife (.cmp (.n 47) [(.inn,.lst [.k (.str [13]),.k (.str [10]),.k (.str [13,10])])]) [.asgF (.n 1) 46 (.n 47)] [],
 .asgF (.n 1) 48 (.k (.none)),
 .asgF (.n 1) 49 (.k (.none)),
 .asgF (.n 1) 50 (.k (.none)),
 .asgF (.n 1) 51 (.k (.none)),
 .asgF (.n 1) 13 (.k (.none))]⟩
noncomputable def wZ:Fn:=⟨[1,28],[],[.e (.app (.a (.n 1) 27) (.n 28)),
 .whl (.not (.meth (.n 1) 52 [] [])) [.asgF (.n 1) 28 (.pop0 (.a (.n 1) 27)),
 .e (.fcall (.n 1) 25),
 .asgF (.n 1) 28 (.k (.none))]]⟩
noncomputable def HA:Fn:=⟨[1],[],[.ife (.not (.a (.n 1) 27)) [.ret (.k (.bool true))] [],
 .asg [28] (.idx (.a (.n 1) 27) (.k (.int 0))),
 .ife (.isi (.n 28) [(53,165)]) [.ret (.meth (.n 1) 54 [.k (.int 1)] [])] [.ife (.isi (.n 28) [(55,229)]) [.ret (.meth (.n 1) 54 [.k (.int 2)] [])] [.ife (.isi (.n 28) [(56,253)]) [.ret (.meth (.n 1) 54 [.k (.int 3)] [])] [.ret (.k (.bool false))]]]]⟩
noncomputable def Hz:Fn:=⟨[1,62],[],[.asg [57] (.k (.int 0)),
 .for 28 (.sl (.a (.n 1) 27) (some (.k (.int 1))) none) [.ife (.isi (.n 28) [(53,165),(58,101)]) [.augN 57 .add (.k (.int 1))] [.ife (.isi (.n 28) [(59,185),(60,113)]) [.augN 57 .sub (.k (.int 1))] [.ife (.isi (.n 28) [(61,145)]) [.asg [57] (.neg (.k (.int 1)))] []]],
 .ife (.cmp (.n 57) [(.lt,.k (.int 0))]) [.ret (.k (.bool false))] []],
 .ret (.cmp (.len (.a (.n 1) 27)) [(.lt,.bin .add (.n 62) (.k (.int 1)))])]⟩
noncomputable def Hy:Fn:=⟨[1,63,64],[.bool false,.bool false],[.e (.app (.a (.n 1) 29) (.a (.n 1) 30)),
 .ife (.cmp (.a (.n 1) 30) [(.is,.k (.none))]) [.ife (.n 63) [.asgF (.n 1) 30 (.a (.n 1) 43)] [.asgF (.n 1) 30 (.k (.int 0))]] [.ife (.not (.n 64)) [.augF (.n 1) 30 .add (.a (.n 1) 43)] []]]⟩
noncomputable def Hx:Fn:=⟨[1],[],[.ife (.isi (.a (.n 1) 28) [(65,133)]) [.e (.meth (.n 1) 66 [] []),
 .asgF (.n 1) 25 (.a (.n 1) 67)] [.stuck]]⟩
noncomputable def Hw:Fn:=⟨[1],[],[.stuck]⟩
noncomputable def Hv:Fn:=⟨[1],[],[.ret (.meth (.n 1) 68 [] [(69,.k (.bool true))])]⟩
noncomputable def Hu:Fn:=⟨[1,69],[.bool false],[.ife (.isi (.a (.n 1) 28) [(53,165)]) [.ife (.and [.or [.a (.a (.n 1) 28) 10,.a (.a (.n 1) 28) 11],.a (.n 1) 40]) [.e (.meth (.n 1) 70 [.k (.str [46,46,46]),.k (.bool true)] []),
 .e (.meth (.n 1) 71 [] [])] [],
 .ife (.a (.a (.n 1) 28) 10) [.asg [72] (.meth (.n 1) 73 [.a (.a (.n 1) 28) 10] []),
 .e (.meth (.n 1) 74 [.n 72] [])] [],
 .asgF (.n 1) 48 (.copyD (.a (.n 1) 22)),
 .ife (.a (.a (.n 1) 28) 11) [.asg [75] (.keysS (.a (.a (.n 1) 28) 11)),
 .for 76 (.n 75) [.asg [77] (.idx (.a (.a (.n 1) 28) 11) (.n 76)),
 .setI (.a (.n 1) 48) (.n 77) (.n 76),
 .asg [78] (.meth (.n 1) 79 [.n 76] []),
 .asg [80] (.meth (.n 1) 81 [.n 77] []),
 .e (.meth (.n 1) 82 [.n 78,.n 80] [])]] [],
 .asg [6] (.and [.n 69,.not (.a (.a (.n 1) 28) 9),.not (.a (.n 1) 41),.not (.a (.a (.n 1) 28) 10),.not (.a (.a (.n 1) 28) 11),.not (.meth (.n 1) 83 [] [])]),
 .ife (.not (.n 6)) [.e (.meth (.n 1) 71 [] []),
 .e (.meth (.n 1) 70 [.k (.str [45,45,45]),.k (.bool true)] []),
 .ife (.a (.n 1) 41) [.e (.meth (.n 1) 71 [] [])] []] [],
 .asgF (.n 1) 25 (.a (.n 1) 84)] [.ife (.isi (.a (.n 1) 28) [(61,145)]) [.ife (.a (.n 1) 40) [.e (.meth (.n 1) 70 [.k (.str [46,46,46]),.k (.bool true)] []),
 .e (.meth (.n 1) 71 [] [])] [],
 .e (.meth (.n 1) 85 [] []),
 .asgF (.n 1) 25 (.a (.n 1) 86)] [.stuck]]]⟩
noncomputable def Ht:Fn:=⟨[1],[],[.ife (.isi (.a (.n 1) 28) [(59,185)]) [.e (.meth (.n 1) 71 [] []),
 .ife (.a (.a (.n 1) 28) 9) [.e (.meth (.n 1) 70 [.k (.str [46,46,46]),.k (.bool true)] []),
 .e (.meth (.n 1) 71 [] [])] [],
 .e (.meth (.n 1) 87 [] []),
 .asgF (.n 1) 25 (.a (.n 1) 68)] [.stuck]]⟩
noncomputable def Hs:Fn:=⟨[1],[],[.e (.app (.a (.n 1) 24) (.a (.n 1) 88)),
 .e (.meth (.n 1) 89 [] [(90,.k (.bool true))])]⟩
noncomputable def Hr:Fn:=⟨[1,90,91,92,93],[.bool false,.bool false,.bool false,.bool false],[.asgF (.n 1) 32 (.n 90),
 .asgF (.n 1) 33 (.n 91),
 .asgF (.n 1) 34 (.n 92),
 .asgF (.n 1) 35 (.n 93),
 .ife (.isi (.a (.n 1) 28) [(94,197)]) [.e (.meth (.n 1) 95 [] [])] [.ife (.isi (.a (.n 1) 28) [(96,217),(58,101)]) [.e (.meth (.n 1) 97 [.k (.str [38])] []),
 .e (.meth (.n 1) 98 [] []),
 .ife (.isi (.a (.n 1) 28) [(96,217)]) [.e (.meth (.n 1) 99 [] [])] [.ife (.isi (.a (.n 1) 28) [(55,229)]) [.ife (.or [.a (.n 1) 31,.a (.n 1) 41,.a (.a (.n 1) 28) 7,.meth (.n 1) 100 [] []]) [.e (.meth (.n 1) 101 [] [])] [.e (.meth (.n 1) 102 [] [])]] [.ife (.isi (.a (.n 1) 28) [(56,253)]) [.ife (.or [.a (.n 1) 31,.a (.n 1) 41,.a (.a (.n 1) 28) 7,.meth (.n 1) 103 [] []]) [.e (.meth (.n 1) 104 [] [])] [.e (.meth (.n 1) 105 [] [])]] []]]] [.stuck]]]⟩
noncomputable def Hq:Fn:=⟨[1],[],[.e (.meth (.n 1) 106 [] [(63,.k (.bool true))]),
 .e (.meth (.n 1) 107 [] []),
 .asgF (.n 1) 30 (.pop (.a (.n 1) 29)),
 .asgF (.n 1) 25 (.pop (.a (.n 1) 24))]⟩
noncomputable def Hp:Fn:=⟨[1],[],[.e (.meth (.n 1) 70 [.k (.str [91]),.k (.bool true)] [(38,.k (.bool true))]),
 .augF (.n 1) 31 .add (.k (.int 1)),
 .e (.meth (.n 1) 106 [] [(63,.k (.bool true))]),
 .asgF (.n 1) 25 (.a (.n 1) 108)]⟩
noncomputable def Ho:Fn:=⟨[1],[],[.ife (.isi (.a (.n 1) 28) [(109,241)]) [.asgF (.n 1) 30 (.pop (.a (.n 1) 29)),
 .augF (.n 1) 31 .sub (.k (.int 1)),
 .e (.meth (.n 1) 70 [.k (.str [93]),.k (.bool false)] []),
 .asgF (.n 1) 25 (.pop (.a (.n 1) 24))] [.ife (.or [.a (.n 1) 41,.cmp (.a (.n 1) 37) [(.gt,.a (.n 1) 44)]]) [.e (.meth (.n 1) 71 [] [])] [],
 .e (.app (.a (.n 1) 24) (.a (.n 1) 110)),
 .e (.meth (.n 1) 89 [] [(91,.k (.bool true))])]]⟩
noncomputable def Hn:Fn:=⟨[1],[],[.ife (.isi (.a (.n 1) 28) [(109,241)]) [.asgF (.n 1) 30 (.pop (.a (.n 1) 29)),
 .augF (.n 1) 31 .sub (.k (.int 1)),
 .ife (.a (.n 1) 41) [.e (.meth (.n 1) 70 [.k (.str [44]),.k (.bool false)] []),
 .e (.meth (.n 1) 71 [] [])] [],
 .e (.meth (.n 1) 70 [.k (.str [93]),.k (.bool false)] []),
 .asgF (.n 1) 25 (.pop (.a (.n 1) 24))] [.e (.meth (.n 1) 70 [.k (.str [44]),.k (.bool false)] []),
 .ife (.or [.a (.n 1) 41,.cmp (.a (.n 1) 37) [(.gt,.a (.n 1) 44)]]) [.e (.meth (.n 1) 71 [] [])] [],
 .e (.app (.a (.n 1) 24) (.a (.n 1) 110)),
 .e (.meth (.n 1) 89 [] [(91,.k (.bool true))])]]⟩
noncomputable def Hm:Fn:=⟨[1],[],[.e (.meth (.n 1) 70 [.k (.str [123]),.k (.bool true)] [(38,.k (.bool true))]),
 .augF (.n 1) 31 .add (.k (.int 1)),
 .e (.meth (.n 1) 106 [] [(63,.k (.bool true))]),
 .asgF (.n 1) 25 (.a (.n 1) 111)]⟩
noncomputable def Hl:Fn:=⟨[1],[],[.ife (.isi (.a (.n 1) 28) [(112,265)]) [.asgF (.n 1) 30 (.pop (.a (.n 1) 29)),
 .augF (.n 1) 31 .sub (.k (.int 1)),
 .e (.meth (.n 1) 70 [.k (.str [125]),.k (.bool false)] []),
 .asgF (.n 1) 25 (.pop (.a (.n 1) 24))] [.ife (.or [.a (.n 1) 41,.cmp (.a (.n 1) 37) [(.gt,.a (.n 1) 44)]]) [.e (.meth (.n 1) 71 [] [])] [],
 .ife (.and [.not (.a (.n 1) 41),.meth (.n 1) 113 [] []]) [.e (.app (.a (.n 1) 24) (.a (.n 1) 114)),
 .e (.meth (.n 1) 89 [] [(92,.k (.bool true)),(93,.k (.bool true))])] [.e (.meth (.n 1) 70 [.k (.str [63]),.k (.bool true)] []),
 .e (.app (.a (.n 1) 24) (.a (.n 1) 115)),
 .e (.meth (.n 1) 89 [] [(92,.k (.bool true))])]]]⟩
noncomputable def Hk:Fn:=⟨[1],[],[.asg [64] (.and [.a (.n 1) 34,.not (.a (.n 1) 39)]),
 .e (.meth (.n 1) 106 [] [(63,.k (.bool false)),(64,.n 64)]),
 .asgF (.n 1) 25 (.a (.n 1) 116)]⟩
noncomputable def Hj:Fn:=⟨[1],[],[.ret (.meth (.n 1) 117 [] [(69,.k (.bool true))])]⟩
noncomputable def Hh:Fn:=⟨[1,69],[.bool false],[.ife (.and [.not (.n 69),.isi (.a (.n 1) 28) [(109,241)]]) [.asgF (.n 1) 30 (.pop (.a (.n 1) 29)),
 .asgF (.n 1) 25 (.pop (.a (.n 1) 24))] [.e (.meth (.n 1) 71 [] []),
 .e (.meth (.n 1) 70 [.k (.str [45]),.k (.bool true)] [(39,.k (.bool true))]),
 .e (.app (.a (.n 1) 24) (.a (.n 1) 117)),
 .e (.meth (.n 1) 89 [] [(91,.k (.bool true))])]]⟩
noncomputable def Hg:Fn:=⟨[1],[],[.e (.meth (.n 1) 106 [] [(63,.k (.bool false))]),
 .asgF (.n 1) 25 (.a (.n 1) 118)]⟩
noncomputable def Hf:Fn:=⟨[1],[],[.ret (.meth (.n 1) 119 [] [(69,.k (.bool true))])]⟩
noncomputable def He:Fn:=⟨[1,69],[.bool false],[.ife (.and [.not (.n 69),.isi (.a (.n 1) 28) [(112,265)]]) [.asgF (.n 1) 30 (.pop (.a (.n 1) 29)),
 .asgF (.n 1) 25 (.pop (.a (.n 1) 24))] [.e (.meth (.n 1) 71 [] []),
 .ife (.meth (.n 1) 113 [] []) [.e (.app (.a (.n 1) 24) (.a (.n 1) 120)),
 .e (.meth (.n 1) 89 [] [(92,.k (.bool true)),(93,.k (.bool true))])] [.e (.meth (.n 1) 70 [.k (.str [63]),.k (.bool true)] [(39,.k (.bool true))]),
 .e (.app (.a (.n 1) 24) (.a (.n 1) 121)),
 .e (.meth (.n 1) 89 [] [(92,.k (.bool true))])]]]⟩
noncomputable def Hd:Fn:=⟨[1],[],[.e (.meth (.n 1) 70 [.k (.str [58]),.k (.bool false)] []),
 .e (.app (.a (.n 1) 24) (.a (.n 1) 119)),
 .e (.meth (.n 1) 89 [] [(92,.k (.bool true))])]⟩
noncomputable def Hc:Fn:=⟨[1],[],[.e (.meth (.n 1) 71 [] []),
 .e (.meth (.n 1) 70 [.k (.str [58]),.k (.bool true)] [(39,.k (.bool true))]),
 .e (.app (.a (.n 1) 24) (.a (.n 1) 119)),
 .e (.meth (.n 1) 89 [] [(92,.k (.bool true))])]⟩
noncomputable def Hb:Fn:=⟨[1],[],[.ret (.and [.isi (.a (.n 1) 28) [(55,229)],.a (.n 1) 27,.isi (.idx (.a (.n 1) 27) (.k (.int 0))) [(109,241)]])]⟩
noncomputable def Ha:Fn:=⟨[1],[],[.ret (.and [.isi (.a (.n 1) 28) [(56,253)],.a (.n 1) 27,.isi (.idx (.a (.n 1) 27) (.k (.int 0))) [(112,265)]])]⟩
noncomputable def H9:Fn:=⟨[1],[],[.ife (.or [.not (.isi (.a (.n 1) 28) [(53,165)]),.not (.a (.n 1) 27)]) [.ret (.k (.bool false))] [],
 .asg [28] (.idx (.a (.n 1) 27) (.k (.int 0))),
 .ret (.and [.isi (.n 28) [(96,217)],.cmp (.a (.n 28) 4) [(.is,.k (.none))],.cmp (.a (.n 28) 5) [(.is,.k (.none))],.a (.n 28) 6,.cmp (.a (.n 28) 12) [(.eq,.k (.str []))]])]⟩
noncomputable def H8:Fn:=⟨[1],[],[.asg [122] (.k (.int 0)),
 .ife (.and [.isi (.a (.n 1) 28) [(123,81)],.cmp (.a (.a (.n 1) 28) 4) [(.isnt,.k (.none))]]) [.ife (.cmp (.a (.n 1) 49) [(.is,.k (.none))]) [.asgF (.n 1) 49 (.meth (.n 1) 124 [.a (.a (.n 1) 28) 4] [])] [],
 .augN 122 .add (.len (.a (.n 1) 49))] [],
 .ife (.and [.isi (.a (.n 1) 28) [(96,217),(58,101)],.cmp (.a (.a (.n 1) 28) 5) [(.isnt,.k (.none))]]) [.ife (.cmp (.a (.n 1) 50) [(.is,.k (.none))]) [.asgF (.n 1) 50 (.meth (.n 1) 125 [.unq [.str [33,104],.str [122]] (.a (.a (.n 1) 28) 5)] [])] [],
 .augN 122 .add (.len (.a (.n 1) 50))] [],
 .ife (.isi (.a (.n 1) 28) [(96,217)]) [.ife (.cmp (.a (.n 1) 51) [(.is,.k (.none))]) [.asgF (.n 1) 51 (.meth (.n 1) 126 [.a (.a (.n 1) 28) 12] [])] [],
 .augN 122 .add (.len (.a (.a (.n 1) 51) 14))] [],
 .ret (.and [.cmp (.n 122) [(.lt,.k (.int 128))],.or [.isi (.a (.n 1) 28) [(94,197)],.and [.isi (.a (.n 1) 28) [(96,217)],.not (.a (.a (.n 1) 51) 15),.not (.a (.a (.n 1) 51) 16)],.meth (.n 1) 100 [] [],.meth (.n 1) 103 [] []]])]⟩
noncomputable def H7:Fn:=⟨[1,127],[],[.ife (.cmp (.a (.a (.n 1) 28) 4) [(.is,.k (.none))]) [.asgF (.n 1) 49 (.k (.none)),
 .ret0] [],
 .ife (.cmp (.a (.n 1) 49) [(.is,.k (.none))]) [.asgF (.n 1) 49 (.meth (.n 1) 124 [.a (.a (.n 1) 28) 4] [])] [],
 .ife (.a (.n 1) 49) [.e (.meth (.n 1) 70 [.bin .add (.n 127) (.a (.n 1) 49),.k (.bool true)] [])] [],
 .asgF (.n 1) 49 (.k (.none))]⟩
noncomputable def H6:Fn:=⟨[1],[],[.asg [5] (.a (.a (.n 1) 28) 5),
 .ife (.isi (.a (.n 1) 28) [(96,217)]) [.ife (.cmp (.a (.n 1) 13) [(.is,.k (.none))]) [.asgF (.n 1) 13 (.meth (.n 1) 128 [] [])] [],
 .ife (.and [.or [.not (.a (.n 1) 41),.cmp (.n 5) [(.is,.k (.none))]],.or [.and [.cmp (.a (.n 1) 13) [(.eq,.k (.str []))],.idx (.a (.a (.n 1) 28) 6) (.k (.int 0))],.and [.cmp (.a (.n 1) 13) [(.ne,.k (.str []))],.idx (.a (.a (.n 1) 28) 6) (.k (.int 1))]]]) [.asgF (.n 1) 50 (.k (.none)),
 .ret0] [],
 .ife (.and [.idx (.a (.a (.n 1) 28) 6) (.k (.int 0)),.cmp (.n 5) [(.is,.k (.none))]]) [.asg [5] (.k (.str [33])),
 .asgF (.n 1) 50 (.k (.none))] []] [.ife (.and [.or [.not (.a (.n 1) 41),.cmp (.n 5) [(.is,.k (.none))]],.a (.a (.n 1) 28) 6]) [.asgF (.n 1) 50 (.k (.none)),
 .ret0] []],
 .ife (.cmp (.n 5) [(.is,.k (.none))]) [.stuck] [],
 .ife (.cmp (.a (.n 1) 50) [(.is,.k (.none))]) [.asgF (.n 1) 50 (.meth (.n 1) 125 [.n 5] [])] [],
 .ife (.a (.n 1) 50) [.e (.meth (.n 1) 70 [.a (.n 1) 50,.k (.bool true)] [])] [],
 .asgF (.n 1) 50 (.k (.none))]⟩
noncomputable def H5:Fn:=⟨[1],[],[.ife (.cmp (.a (.n 1) 51) [(.is,.k (.none))]) [.asgF (.n 1) 51 (.meth (.n 1) 126 [.a (.a (.n 1) 28) 12] [])] [],
 .ife (.or [.cmp (.a (.a (.n 1) 28) 13) [(.eq,.k (.str [34]))],.a (.n 1) 41]) [.ret (.k (.str [34]))] [],
 .ife (.and [.not (.a (.a (.n 1) 28) 13),.idx (.a (.a (.n 1) 28) 6) (.k (.int 0))]) [.ife (.and [.not (.and [.a (.n 1) 35,.or [.a (.a (.n 1) 51) 15,.a (.a (.n 1) 51) 16]]),.or [.and [.a (.n 1) 31,.a (.a (.n 1) 51) 17],.and [.not (.a (.n 1) 31),.a (.a (.n 1) 51) 18]]]) [.ret (.k (.str []))] []] [],
 .ife (.and [.a (.a (.n 1) 28) 13,.cmp (.a (.a (.n 1) 28) 13) [(.inn,.k (.str [124,62]))]]) [.ife (.and [.not (.a (.n 1) 31),.not (.a (.n 1) 35),.a (.a (.n 1) 51) 21]) [.ret (.a (.a (.n 1) 28) 13)] []] [],
 .ife (.or [.not (.a (.a (.n 1) 28) 13),.cmp (.a (.a (.n 1) 28) 13) [(.eq,.k (.str [39]))]]) [.ife (.and [.a (.a (.n 1) 51) 19,.not (.and [.a (.n 1) 35,.a (.a (.n 1) 51) 16])]) [.ret (.k (.str [39]))] []] [],
 .ret (.k (.str [34]))]⟩
noncomputable def H4:Fn:=⟨[1],[],[.ife (.cmp (.a (.n 1) 51) [(.is,.k (.none))]) [.asgF (.n 1) 51 (.meth (.n 1) 126 [.a (.a (.n 1) 28) 12] [])] [],
 .ife (.cmp (.a (.n 1) 13) [(.is,.k (.none))]) [.asgF (.n 1) 13 (.meth (.n 1) 128 [] [])] [],
 .asg [129] (.not (.a (.n 1) 35)),
 .ife (.cmp (.a (.n 1) 13) [(.eq,.k (.str [34]))]) [.e (.meth (.n 1) 130 [.a (.a (.n 1) 51) 14,.n 129] [])] [.ife (.cmp (.a (.n 1) 13) [(.eq,.k (.str [39]))]) [.e (.meth (.n 1) 131 [.a (.a (.n 1) 51) 14,.n 129] [])] [.ife (.cmp (.a (.n 1) 13) [(.eq,.k (.str [62]))]) [.e (.meth (.n 1) 132 [.a (.a (.n 1) 51) 14] [])] [.ife (.cmp (.a (.n 1) 13) [(.eq,.k (.str [124]))]) [.e (.meth (.n 1) 133 [.a (.a (.n 1) 51) 14] [])] [.e (.meth (.n 1) 134 [.a (.a (.n 1) 51) 14,.n 129] [])]]]],
 .asgF (.n 1) 51 (.k (.none)),
 .asgF (.n 1) 13 (.k (.none))]⟩
noncomputable def H3:Fn:=⟨[1,5],[],[.ife (.not (.n 5)) [.stuck] [],
 .ife (.cmp (.n 5) [(.eq,.k (.str [33]))]) [.ret (.n 5)] [],
 .asg [76] (.k (.none)),
 .asg [135] (.n 5),
 .asg [136] (.keysS (.a (.n 1) 48)),
 .for 77 (.n 136) [.ife (.and [.starts (.n 5) (.n 77),.or [.cmp (.n 77) [(.eq,.k (.str [33]))],.cmp (.len (.n 77)) [(.lt,.len (.n 5))]]]) [.asg [76] (.idx (.a (.n 1) 48) (.n 77)),
 .asg [135] (.sl (.n 5) (some (.len (.n 77))) none)] []],
 .asg [137] (.nil .lst),
 .asg [138,139] (.k (.int 0)),
 .whl (.cmp (.n 139) [(.lt,.len (.n 135))]) [.asg [140] (.idx (.n 135) (.n 139)),
 .ife (.or [.cmp (.k (.str [48])) [(.le,.n 140),(.le,.k (.str [57]))],.cmp (.k (.str [65])) [(.le,.n 140),(.le,.k (.str [90]))],.cmp (.k (.str [97])) [(.le,.n 140),(.le,.k (.str [122]))],.cmp (.n 140) [(.inn,.k (.str [45,59,47,63,58,64,38,61,43,36,44,95,46,126,42,39,40,41,91,93]))],.and [.cmp (.n 140) [(.eq,.k (.str [33]))],.cmp (.n 76) [(.ne,.k (.str [33]))]]]) [.augN 139 .add (.k (.int 1))] [.ife (.cmp (.n 138) [(.lt,.n 139)]) [.e (.app (.n 137) (.sl (.n 135) (some (.n 138)) (some (.n 139))))] [],
 .asg [138,139] (.bin .add (.n 139) (.k (.int 1))),
 .asg [141] .stuck,
 .for 140 (.n 141) [.e (.app (.n 137) (.fmt (.k (.str [37,37,37,48,50,88])) (.n 140)))]]],
 .ife (.cmp (.n 138) [(.lt,.n 139)]) [.e (.app (.n 137) (.sl (.n 135) (some (.n 138)) (some (.n 139))))] [],
 .asg [142] (.join (.k (.str [])) (.n 137)),
 .ife (.n 76) [.ret (.cat2 (.n 76) (.n 142))] [.ret (.fmt (.k (.str [33,60,37,115,62])) (.n 142))]]⟩
noncomputable def H1:Fn:=⟨[1,14],[],[.ife (.not (.n 14)) [.ret (.new 143 296 true [] [(14,.n 14),(15,.k (.bool true)),(16,.k (.bool false)),(17,.k (.bool false)),(18,.k (.bool true)),(19,.k (.bool true)),(20,.k (.bool true)),(21,.k (.bool false))])] [],
 .asg [144] (.k (.bool false)),
 .asg [145] (.k (.bool false)),
 .asg [146] (.k (.bool false)),
 .asg [147] (.k (.bool false)),
 .asg [148] (.k (.bool false)),
 .asg [149] (.k (.bool false)),
 .asg [150] (.k (.bool false)),
 .asg [151] (.k (.bool false)),
 .asg [152] (.k (.bool false)),
 .asg [153] (.k (.bool false)),
 .ife (.or [.starts (.n 14) (.k (.str [45,45,45])),.starts (.n 14) (.k (.str [46,46,46]))]) [.asg [144] (.k (.bool true)),
 .asg [145] (.k (.bool true))] [],
 .asg [154] (.k (.bool true)),
 .asg [155] (.or [.cmp (.len (.n 14)) [(.eq,.k (.int 1))],.cmp (.idx (.n 14) (.k (.int 1))) [(.inn,.k (.str [0,32,9,13,10,133,8232,8233]))]]),
 .asg [156] (.k (.bool false)),
 .asg [157] (.k (.bool false)),
 .asg [158] (.k (.int 0)),
 .whl (.cmp (.n 158) [(.lt,.len (.n 14))]) [.asg [140] (.idx (.n 14) (.n 158)),
 .ife (.cmp (.n 158) [(.eq,.k (.int 0))]) [.ife (.cmp (.n 140) [(.inn,.k (.str [35,44,91,93,123,125,38,42,33,124,62,39,34,37,64,96]))]) [.asg [145] (.k (.bool true)),
 .asg [144] (.k (.bool true))] [],
 .ife (.cmp (.n 140) [(.inn,.k (.str [63,58]))]) [.asg [145] (.k (.bool true)),
 .ife (.n 155) [.asg [144] (.k (.bool true))] []] [],
 .ife (.and [.cmp (.n 140) [(.eq,.k (.str [45]))],.n 155]) [.asg [145] (.k (.bool true)),
 .asg [144] (.k (.bool true))] []] [.ife (.cmp (.n 140) [(.inn,.k (.str [44,63,91,93,123,125]))]) [.asg [145] (.k (.bool true))] [],
 .ife (.cmp (.n 140) [(.eq,.k (.str [58]))]) [.asg [145] (.k (.bool true)),
 .ife (.n 155) [.asg [144] (.k (.bool true))] []] [],
 .ife (.and [.cmp (.n 140) [(.eq,.k (.str [35]))],.n 154]) [.asg [145] (.k (.bool true)),
 .asg [144] (.k (.bool true))] []],
 .ife (.cmp (.n 140) [(.inn,.k (.str [10,133,8232,8233]))]) [.asg [146] (.k (.bool true))] [],
 .ife (.not (.or [.cmp (.n 140) [(.eq,.k (.str [10]))],.cmp (.k (.str [32])) [(.le,.n 140),(.le,.k (.str [126]))]])) [.ife (.and [.or [.cmp (.n 140) [(.eq,.k (.str [133]))],.cmp (.k (.str [160])) [(.le,.n 140),(.le,.k (.str [55295]))],.cmp (.k (.str [57344])) [(.le,.n 140),(.le,.k (.str [65533]))],.cmp (.k (.str [65536])) [(.le,.n 140),(.lt,.k (.str [1114111]))]],.cmp (.n 140) [(.ne,.k (.str [65279]))]]) [.asg [159] (.k (.bool true)),
 .ife (.not (.a (.n 1) 42)) [.asg [147] (.k (.bool true))] []] [.asg [147] (.k (.bool true))]] [],
 .ife (.cmp (.n 140) [(.eq,.k (.str [32]))]) [.ife (.cmp (.n 158) [(.eq,.k (.int 0))]) [.asg [148] (.k (.bool true))] [],
 .ife (.cmp (.n 158) [(.eq,.bin .sub (.len (.n 14)) (.k (.int 1)))]) [.asg [150] (.k (.bool true))] [],
 .ife (.n 157) [.asg [152] (.k (.bool true))] [],
 .asg [156] (.k (.bool true)),
 .asg [157] (.k (.bool false))] [.ife (.cmp (.n 140) [(.inn,.k (.str [10,133,8232,8233]))]) [.ife (.cmp (.n 158) [(.eq,.k (.int 0))]) [.asg [149] (.k (.bool true))] [],
 .ife (.cmp (.n 158) [(.eq,.bin .sub (.len (.n 14)) (.k (.int 1)))]) [.asg [151] (.k (.bool true))] [],
 .ife (.n 156) [.asg [153] (.k (.bool true))] [],
 .asg [156] (.k (.bool false)),
 .asg [157] (.k (.bool true))] [.asg [156] (.k (.bool false)),
 .asg [157] (.k (.bool false))]],
 .augN 158 .add (.k (.int 1)),
 .asg [154] (.cmp (.n 140) [(.inn,.k (.str [0,32,9,13,10,133,8232,8233]))]),
 .asg [155] (.or [.cmp (.bin .add (.n 158) (.k (.int 1))) [(.ge,.len (.n 14))],.cmp (.idx (.n 14) (.bin .add (.n 158) (.k (.int 1)))) [(.inn,.k (.str [0,32,9,13,10,133,8232,8233]))]])],
 .asg [17] (.k (.bool true)),
 .asg [18] (.k (.bool true)),
 .asg [19] (.k (.bool true)),
 .asg [20] (.k (.bool true)),
 .asg [21] (.k (.bool true)),
 .ife (.or [.n 148,.n 149,.n 150,.n 151]) [.asg [17,18] (.k (.bool false))] [],
 .ife (.n 150) [.asg [21] (.k (.bool false))] [],
 .ife (.n 152) [.asg [17,18,19] (.k (.bool false))] [],
 .ife (.or [.n 153,.n 147]) [.asg [17,18,19,21] (.k (.bool false))] [],
 .ife (.n 146) [.asg [17,18] (.k (.bool false))] [],
 .ife (.n 145) [.asg [17] (.k (.bool false))] [],
 .ife (.n 144) [.asg [18] (.k (.bool false))] [],
 .ret (.new 143 296 true [] [(14,.n 14),(15,.k (.bool false)),(16,.n 146),(17,.n 17),(18,.n 18),(19,.n 19),(20,.n 20),(21,.n 21)])]⟩
noncomputable def H0:Fn:=⟨[1],[],[.pass]⟩
noncomputable def GZ:Fn:=⟨[1],[],[.pass]⟩
noncomputable def GY:Fn:=⟨[1],[],[.e (.meth (.n 1) 87 [] [])]⟩
noncomputable def GX:Fn:=⟨[1,127,160,38,39],[.bool false,.bool false],[.ife (.or [.a (.n 1) 38,.not (.n 160)]) [.asg [141] (.n 127)] [.asg [141] (.bin .add (.k (.str [32])) (.n 127))],
 .asgF (.n 1) 38 (.n 38),
 .asgF (.n 1) 39 (.and [.a (.n 1) 39,.n 39]),
 .augF (.n 1) 37 .add (.len (.n 141)),
 .asgF (.n 1) 40 (.k (.bool false)),
 .e (.meth (.a (.n 1) 23) 161 [.n 141] [])]⟩
noncomputable def GW:Fn:=⟨[1],[],[.asg [30] (.orz (.a (.n 1) 30)),
 .ife (.or [.not (.a (.n 1) 39),.cmp (.a (.n 1) 37) [(.gt,.n 30)],.and [.cmp (.a (.n 1) 37) [(.eq,.n 30)],.not (.a (.n 1) 38)]]) [.e (.meth (.n 1) 162 [] [])] [],
 .ife (.cmp (.a (.n 1) 37) [(.lt,.n 30)]) [.asgF (.n 1) 38 (.k (.bool true)),
 .asg [141] (.bin .mul (.k (.str [32])) (.bin .sub (.n 30) (.a (.n 1) 37))),
 .asgF (.n 1) 37 (.n 30),
 .e (.meth (.a (.n 1) 23) 161 [.n 141] [])] []]⟩
noncomputable def GV:Fn:=⟨[1,141],[.none],[.ife (.cmp (.n 141) [(.is,.k (.none))]) [.asg [141] (.a (.n 1) 46)] [],
 .asgF (.n 1) 38 (.k (.bool true)),
 .asgF (.n 1) 39 (.k (.bool true)),
 .augF (.n 1) 36 .add (.k (.int 1)),
 .asgF (.n 1) 37 (.k (.int 0)),
 .e (.meth (.a (.n 1) 23) 161 [.n 141] [])]⟩
noncomputable def GU:Fn:=⟨[1,165,129],[.bool true],[.e (.meth (.n 1) 70 [.k (.str [39]),.k (.bool true)] []),
 .asg [163] (.k (.bool false)),
 .asg [164] (.k (.bool false)),
 .asg [138,139] (.k (.int 0)),
 .whl (.cmp (.n 139) [(.le,.len (.n 165))]) [.asg [140] (.k (.none)),
 .ife (.cmp (.n 139) [(.lt,.len (.n 165))]) [.asg [140] (.idx (.n 165) (.n 139))] [],
 .ife (.n 163) [.ife (.or [.cmp (.n 140) [(.is,.k (.none))],.cmp (.n 140) [(.ne,.k (.str [32]))]]) [.ife (.and [.cmp (.bin .add (.n 138) (.k (.int 1))) [(.eq,.n 139)],.cmp (.a (.n 1) 37) [(.gt,.a (.n 1) 44)],.n 129,.cmp (.n 138) [(.ne,.k (.int 0))],.cmp (.n 139) [(.ne,.len (.n 165))]]) [.e (.meth (.n 1) 71 [] [])] [.asg [141] (.sl (.n 165) (some (.n 138)) (some (.n 139))),
 .augF (.n 1) 37 .add (.len (.n 141)),
 .e (.meth (.a (.n 1) 23) 161 [.n 141] [])],
 .asg [138] (.n 139)] []] [.ife (.n 164) [.ife (.or [.cmp (.n 140) [(.is,.k (.none))],.cmp (.n 140) [(.nin,.k (.str [10,133,8232,8233]))]]) [.ife (.cmp (.idx (.n 165) (.n 138)) [(.eq,.k (.str [10]))]) [.e (.meth (.n 1) 162 [] [])] [],
 .for 166 (.sl (.n 165) (some (.n 138)) (some (.n 139))) [.ife (.cmp (.n 166) [(.eq,.k (.str [10]))]) [.e (.meth (.n 1) 162 [] [])] [.e (.meth (.n 1) 162 [.n 166] [])]],
 .e (.meth (.n 1) 71 [] []),
 .asg [138] (.n 139)] []] [.ife (.or [.cmp (.n 140) [(.is,.k (.none))],.cmp (.n 140) [(.inn,.k (.str [32,10,133,8232,8233]))],.cmp (.n 140) [(.eq,.k (.str [39]))]]) [.ife (.cmp (.n 138) [(.lt,.n 139)]) [.asg [141] (.sl (.n 165) (some (.n 138)) (some (.n 139))),
 .augF (.n 1) 37 .add (.len (.n 141)),
 .e (.meth (.a (.n 1) 23) 161 [.n 141] []),
 .asg [138] (.n 139)] []] []]],
 .ife (.cmp (.n 140) [(.eq,.k (.str [39]))]) [.asg [141] (.k (.str [39,39])),
 .augF (.n 1) 37 .add (.k (.int 2)),
 .e (.meth (.a (.n 1) 23) 161 [.n 141] []),
 .asg [138] (.bin .add (.n 139) (.k (.int 1)))] [],
 .ife (.cmp (.n 140) [(.isnt,.k (.none))]) [.asg [163] (.cmp (.n 140) [(.eq,.k (.str [32]))]),
 .asg [164] (.cmp (.n 140) [(.inn,.k (.str [10,133,8232,8233]))])] [],
 .augN 139 .add (.k (.int 1))],
 .e (.meth (.n 1) 70 [.k (.str [39]),.k (.bool false)] [])]⟩
noncomputable def GT:Fn:=⟨[1,165,129],[.bool true],[.e (.meth (.n 1) 70 [.k (.str [34]),.k (.bool true)] []),
 .asg [138,139] (.k (.int 0)),
 .whl (.cmp (.n 139) [(.le,.len (.n 165))]) [.asg [140] (.k (.none)),
 .ife (.cmp (.n 139) [(.lt,.len (.n 165))]) [.asg [140] (.idx (.n 165) (.n 139))] [],
 .ife (.or [.cmp (.n 140) [(.is,.k (.none))],.cmp (.n 140) [(.inn,.k (.str [34,92,133,8232,8233,65279]))],.not (.or [.cmp (.k (.str [32])) [(.le,.n 140),(.le,.k (.str [126]))],.and [.a (.n 1) 42,.or [.cmp (.k (.str [160])) [(.le,.n 140),(.le,.k (.str [55295]))],.cmp (.k (.str [57344])) [(.le,.n 140),(.le,.k (.str [65533]))]]]])]) [.ife (.cmp (.n 138) [(.lt,.n 139)]) [.asg [141] (.sl (.n 165) (some (.n 138)) (some (.n 139))),
 .augF (.n 1) 37 .add (.len (.n 141)),
 .e (.meth (.a (.n 1) 23) 161 [.n 141] []),
 .asg [138] (.n 139)] [],
 .ife (.cmp (.n 140) [(.isnt,.k (.none))]) [.ife (.cmp (.n 140) [(.inn,.a (.n 1) 167)]) [.asg [141] (.bin .add (.k (.str [92])) (.idx (.a (.n 1) 167) (.n 140)))] [.ife (.cmp (.n 140) [(.le,.k (.str [255]))]) [.asg [141] (.fmt (.k (.str [92,120,37,48,50,88])) .stuck)] [.ife (.cmp (.n 140) [(.le,.k (.str [65535]))]) [.asg [141] (.fmt (.k (.str [92,117,37,48,52,88])) .stuck)] [.asg [141] (.fmt (.k (.str [92,85,37,48,56,88])) .stuck)]]],
 .augF (.n 1) 37 .add (.len (.n 141)),
 .e (.meth (.a (.n 1) 23) 161 [.n 141] []),
 .asg [138] (.bin .add (.n 139) (.k (.int 1)))] []] [],
 .ife (.and [.cmp (.k (.int 0)) [(.lt,.n 139),(.lt,.bin .sub (.len (.n 165)) (.k (.int 1)))],.or [.cmp (.n 140) [(.eq,.k (.str [32]))],.cmp (.n 138) [(.ge,.n 139)]],.cmp (.bin .add (.a (.n 1) 37) (.bin .sub (.n 139) (.n 138))) [(.gt,.a (.n 1) 44)],.n 129]) [.asg [141] (.bin .add (.sl (.n 165) (some (.n 138)) (some (.n 139))) (.k (.str [92]))),
 .ife (.cmp (.n 138) [(.lt,.n 139)]) [.asg [138] (.n 139)] [],
 .augF (.n 1) 37 .add (.len (.n 141)),
 .e (.meth (.a (.n 1) 23) 161 [.n 141] []),
 .e (.meth (.n 1) 71 [] []),
 .asgF (.n 1) 38 (.k (.bool false)),
 .asgF (.n 1) 39 (.k (.bool false)),
 .ife (.cmp (.idx (.n 165) (.n 138)) [(.eq,.k (.str [32]))]) [.asg [141] (.k (.str [92])),
 .augF (.n 1) 37 .add (.len (.n 141)),
 .e (.meth (.a (.n 1) 23) 161 [.n 141] [])] []] [],
 .augN 139 .add (.k (.int 1))],
 .e (.meth (.n 1) 70 [.k (.str [34]),.k (.bool false)] [])]⟩
noncomputable def GS:Fn:=⟨[1,165],[],[.asg [168] (.k (.str [])),
 .ife (.n 165) [.ife (.cmp (.idx (.n 165) (.k (.int 0))) [(.inn,.k (.str [32,10,133,8232,8233]))]) [.augN 168 .add .stuck] [],
 .ife (.cmp (.idx (.n 165) (.neg (.k (.int 1)))) [(.nin,.k (.str [10,133,8232,8233]))]) [.augN 168 .add (.k (.str [45]))] [.ife (.or [.cmp (.len (.n 165)) [(.eq,.k (.int 1))],.cmp (.idx (.n 165) (.neg (.k (.int 2)))) [(.inn,.k (.str [10,133,8232,8233]))]]) [.augN 168 .add (.k (.str [43]))] []]] [],
 .ret (.n 168)]⟩
noncomputable def GR:Fn:=⟨[1,165],[],[.asg [168] (.meth (.n 1) 169 [.n 165] []),
 .e (.meth (.n 1) 70 [.bin .add (.k (.str [124])) (.n 168),.k (.bool true)] []),
 .ife (.cmp (.sl (.n 168) (some (.neg (.k (.int 1)))) none) [(.eq,.k (.str [43]))]) [.asgF (.n 1) 40 (.k (.bool true))] [],
 .e (.meth (.n 1) 162 [] []),
 .asg [164] (.k (.bool true)),
 .asg [138,139] (.k (.int 0)),
 .whl (.cmp (.n 139) [(.le,.len (.n 165))]) [.asg [140] (.k (.none)),
 .ife (.cmp (.n 139) [(.lt,.len (.n 165))]) [.asg [140] (.idx (.n 165) (.n 139))] [],
 .ife (.n 164) [.ife (.or [.cmp (.n 140) [(.is,.k (.none))],.cmp (.n 140) [(.nin,.k (.str [10,133,8232,8233]))]]) [.for 166 (.sl (.n 165) (some (.n 138)) (some (.n 139))) [.ife (.cmp (.n 166) [(.eq,.k (.str [10]))]) [.e (.meth (.n 1) 162 [] [])] [.e (.meth (.n 1) 162 [.n 166] [])]],
 .ife (.cmp (.n 140) [(.isnt,.k (.none))]) [.e (.meth (.n 1) 71 [] [])] [],
 .asg [138] (.n 139)] []] [.ife (.or [.cmp (.n 140) [(.is,.k (.none))],.cmp (.n 140) [(.inn,.k (.str [10,133,8232,8233]))]]) [.asg [141] (.sl (.n 165) (some (.n 138)) (some (.n 139))),
 .e (.meth (.a (.n 1) 23) 161 [.n 141] []),
 .ife (.cmp (.n 140) [(.is,.k (.none))]) [.e (.meth (.n 1) 162 [] [])] [],
 .asg [138] (.n 139)] []],
 .ife (.cmp (.n 140) [(.isnt,.k (.none))]) [.asg [164] (.cmp (.n 140) [(.inn,.k (.str [10,133,8232,8233]))])] [],
 .augN 139 .add (.k (.int 1))]]⟩
noncomputable def GQ:Fn:=⟨[1,165,129],[.bool true],[.ife (.a (.n 1) 32) [.asgF (.n 1) 40 (.k (.bool true))] [],
 .ife (.not (.n 165)) [.ret0] [],
 .ife (.not (.a (.n 1) 38)) [.asg [141] (.k (.str [32])),
 .augF (.n 1) 37 .add (.len (.n 141)),
 .e (.meth (.a (.n 1) 23) 161 [.n 141] [])] [],
 .asgF (.n 1) 38 (.k (.bool false)),
 .asgF (.n 1) 39 (.k (.bool false)),
 .asg [163] (.k (.bool false)),
 .asg [164] (.k (.bool false)),
 .asg [138,139] (.k (.int 0)),
 .whl (.cmp (.n 139) [(.le,.len (.n 165))]) [.asg [140] (.k (.none)),
 .ife (.cmp (.n 139) [(.lt,.len (.n 165))]) [.asg [140] (.idx (.n 165) (.n 139))] [],
 .ife (.n 163) [.ife (.cmp (.n 140) [(.ne,.k (.str [32]))]) [.ife (.and [.cmp (.bin .add (.n 138) (.k (.int 1))) [(.eq,.n 139)],.cmp (.a (.n 1) 37) [(.gt,.a (.n 1) 44)],.n 129]) [.e (.meth (.n 1) 71 [] []),
 .asgF (.n 1) 38 (.k (.bool false)),
 .asgF (.n 1) 39 (.k (.bool false))] [.asg [141] (.sl (.n 165) (some (.n 138)) (some (.n 139))),
 .augF (.n 1) 37 .add (.len (.n 141)),
 .e (.meth (.a (.n 1) 23) 161 [.n 141] [])],
 .asg [138] (.n 139)] []] [.ife (.n 164) [.ife (.cmp (.n 140) [(.nin,.k (.str [10,133,8232,8233]))]) [.ife (.cmp (.idx (.n 165) (.n 138)) [(.eq,.k (.str [10]))]) [.e (.meth (.n 1) 162 [] [])] [],
 .for 166 (.sl (.n 165) (some (.n 138)) (some (.n 139))) [.ife (.cmp (.n 166) [(.eq,.k (.str [10]))]) [.e (.meth (.n 1) 162 [] [])] [.e (.meth (.n 1) 162 [.n 166] [])]],
 .e (.meth (.n 1) 71 [] []),
 .asgF (.n 1) 38 (.k (.bool false)),
 .asgF (.n 1) 39 (.k (.bool false)),
 .asg [138] (.n 139)] []] [.ife (.or [.cmp (.n 140) [(.is,.k (.none))],.cmp (.n 140) [(.inn,.k (.str [32,10,133,8232,8233]))]]) [.asg [141] (.sl (.n 165) (some (.n 138)) (some (.n 139))),
 .augF (.n 1) 37 .add (.len (.n 141)),
 .e (.meth (.a (.n 1) 23) 161 [.n 141] []),
 .asg [138] (.n 139)] []]],
 .ife (.cmp (.n 140) [(.isnt,.k (.none))]) [.asg [163] (.cmp (.n 140) [(.eq,.k (.str [32]))]),
 .asg [164] (.cmp (.n 140) [(.inn,.k (.str [10,133,8232,8233]))])] [],
 .augN 139 .add (.k (.int 1))]]⟩
noncomputable def GP:Fn:=⟨[1],[],[.asgF (.n 1) 170 (.nil .strs)]⟩
noncomputable def GO:Fn:=⟨[1,141],[],[.e (.app (.a (.n 1) 170) (.n 141))]⟩
noncomputable def GN:Fn:=⟨[1],[],[.ret (.join (.k (.str [])) (.a (.n 1) 170))]⟩
noncomputable def my:Fn:=⟨[173],[],[.asg [171] (.nil .lst),
 .for 172 (.n 173) [.unp [174,175] (.tup [.pin (.bin .mod (.n 172) (.k (.int 6))),.bin .fdiv (.n 172) (.k (.int 6))]),
 .ife (.or [.cmp (.n 174) [(.eq,.k (.int 0))],.and [.cmp (.n 174) [(.gt,.k (.int 1))],.not (.n 171)]]) [.e (.app (.n 171) (.tup [.k (.int 0),.pin (.bin .mod (.n 175) (.k (.int 6)))]))] [.ife (.cmp (.n 174) [(.eq,.k (.int 1))]) [.e (.app (.n 171) (.idx (.lst [.tup [.k (.int 2),.lst []],.tup [.k (.int 3),.lst []],.tup [.k (.int 4),.lst [.tup [.k (.int 0),.pin (.bin .mod (.bin .fdiv (.n 175) (.k (.int 3))) (.k (.int 5)))],.tup [.k (.int 0),.k (.int 0)]]]]) (.pin (.bin .mod (.n 175) (.k (.int 3))))))] [.ife (.cmp (.n 174) [(.eq,.k (.int 2))]) [.asg [62] (.bin .add (.k (.int 1)) (.pin (.bin .mod (.n 175) (.k (.int 2))))),
 .asg [171] (.catn (.sl (.n 171) none (some (.neg (.n 62)))) (.lst [.tup [.k (.int 2),.sl (.n 171) (some (.neg (.n 62))) none]]))] [.ife (.cmp (.n 174) [(.eq,.k (.int 3))]) [.setI (.n 171) (.neg (.k (.int 1))) (.tup [.k (.int 3),.lst [.idx (.n 171) (.neg (.k (.int 1))),.tup [.k (.int 0),.pin (.bin .mod (.n 175) (.k (.int 6)))]]])] [.ife (.cmp (.n 174) [(.eq,.k (.int 4))]) [.setI (.n 171) (.neg (.k (.int 1))) (.tup [.k (.int 3),.lst [.tup [.k (.int 0),.pin (.bin .mod (.n 175) (.k (.int 6)))],.idx (.n 171) (.neg (.k (.int 1)))]])] [.asg [176] (.sl (.bin .add (.sl (.n 171) (some (.neg (.k (.int 2)))) none) (.lst [.tup [.k (.int 0),.k (.int 0)]])) none (some (.k (.int 2)))),
 .asg [171] (.catn (.sl (.n 171) none (some (.neg (.k (.int 2))))) (.lst [.tup [.k (.int 3),.n 176]]))]]]]]],
 .ret (.ife (.and [.cmp (.len (.n 171)) [(.eq,.k (.int 1))],.cmp (.idx (.idx (.n 171) (.k (.int 0))) (.k (.int 0))) [(.gt,.k (.int 0))]]) (.idx (.n 171) (.k (.int 0))) (.tup [.k (.int 2),.frz (.n 171)]))]⟩
noncomputable def GL:Fn:=⟨[179,180],[],[.unp [177,178] (.n 179),
 .ife (.cmp (.n 177) [(.eq,.k (.int 0))]) [.e (.app (.n 180) (.tup [.k (.int 0),.n 178]))] [.e (.app (.n 180) (.ife (.cmp (.n 177) [(.eq,.k (.int 4))]) (.tup [.k (.int 2),.k (.int 1)]) (.tup [.n 177,.ife (.n 178) (.k (.int 0)) (.k (.int 2))]))),
 .for 181 (.n 178) [.e (.call 182 796 false [.n 181,.n 180] [])],
 .e (.app (.n 180) (.tup [.ife (.cmp (.n 177) [(.eq,.k (.int 3))]) (.k (.int 5)) (.k (.int 4)),.k (.int 0)]))]]⟩
noncomputable def GK:Fn:=⟨[184,172],[],[.unp [177,183] (.n 184),
 .asg [185] (.idxq (.lst [.k (.none),.k (.int 5)]) (.bin .mod (.n 172) (.k (.int 2)))),
 .asg [172] (.bin .fdiv (.n 172) (.k (.int 2))),
 .asg [5] (.idxq (.lst [.k (.none),.k (.str [33,104]),.k (.str [122])]) (.bin .mod (.bin .fdiv (.n 172) (.k (.int 6))) (.k (.int 3)))),
 .ife (.cmp (.n 177) [(.eq,.k (.int 0))]) [.unp [12,13,186] (.idx (.g 187) (.n 183)),
 .asg [176] (.ife (.cmp (.n 183) [(.lt,.k (.int 2))]) (.idxq (.lst [.tup [.k (.bool true),.k (.bool true)],.tup [.k (.bool true),.k (.bool false)],.tup [.k (.int 1),.k (.int 0)]]) (.bin .mod (.n 172) (.k (.int 3)))) (.idxq (.lst [.tup [.k (.bool true),.k (.bool true)],.tup [.k (.bool false),.k (.bool true)],.tup [.k (.int 0),.k (.int 1)]]) (.bin .mod (.n 172) (.k (.int 3))))),
 .ret (.new 96 217 true [.k (.none),.n 5,.n 176,.n 12] [(2,.n 185),(13,.ife (.cmp (.n 13) [(.is,.k (.none))]) (.idxq (.lst [.k (.none),.k (.str [])]) (.bin .mod (.bin .fdiv (.n 172) (.k (.int 3))) (.k (.int 2)))) (.n 13))])] [],
 .ife (.or [.cmp (.n 177) [(.eq,.k (.int 2))],.cmp (.n 177) [(.eq,.k (.int 3))]]) [.asg [63] (.idxq (.idx (.lst [.lst [.k (.none),.k (.bool false),.k (.int 0)],.lst [.k (.bool true),.k (.int 1),.k (.str [120])],.lst [.k (.none),.k (.bool true),.k (.bool false)]]) (.n 183)) (.bin .mod (.n 172) (.k (.int 3)))),
 .ife (.cmp (.n 177) [(.eq,.k (.int 2))]) [.ret (.new 55 229 true [.k (.none),.n 5,.idxq (.lst [.k (.bool true),.k (.int 1)]) (.bin .mod (.bin .fdiv (.n 172) (.k (.int 3))) (.k (.int 2)))] [(3,.n 185),(7,.n 63)])] [],
 .ret (.new 56 253 true [.k (.none),.n 5,.idxq (.lst [.k (.bool true),.k (.int 1)]) (.bin .mod (.bin .fdiv (.n 172) (.k (.int 3))) (.k (.int 2)))] [(2,.n 185),(7,.n 63)])] [],
 .ife (.cmp (.n 177) [(.eq,.k (.int 4))]) [.ret (.new 109 241 true [.n 185,.n 185] [])] [],
 .ife (.cmp (.n 177) [(.eq,.k (.int 5))]) [.ret (.new 112 265 true [.n 185] [])] [],
 .asg [188] (.ife (.n 183) (.idxq (.lst [.k (.bool true),.k (.int 1),.k (.bool true)]) (.bin .mod (.n 172) (.k (.int 3)))) (.idxq (.lst [.k (.bool false),.k (.none),.k (.int 0)]) (.bin .mod (.n 172) (.k (.int 3))))),
 .ife (.cmp (.n 177) [(.eq,.k (.int 6))]) [.ret (.new 53 165 true [.n 185] [(9,.n 188),(11,.idxq (.lst [.k (.none),.dnil]) (.bin .mod (.bin .fdiv (.n 172) (.k (.int 3))) (.k (.int 2))))])] [],
 .ife (.cmp (.n 177) [(.eq,.k (.int 7))]) [.ret (.new 59 185 true [.n 185] [(9,.n 188)])] [],
 .ret (.ife (.cmp (.n 177) [(.eq,.k (.int 8))]) (.new 65 133 true [.n 185] []) (.new 61 145 true [.n 185] []))]⟩
noncomputable def rX:Fn:=⟨[172],[],[.ret (.new 189 736 false [.new 190 771 false [] []] [(41,.idxq (.lst [.k (.none),.k (.bool false),.k (.int 0)]) (.bin .mod (.n 172) (.k (.int 3)))),(30,.idx (.lst [.k (.int 2),.k (.none),.k (.int 0),.k (.int 1),.k (.int 10),.neg (.k (.int 3)),.k (.int 99)]) (.bin .mod (.bin .fdiv (.n 172) (.k (.int 3))) (.k (.int 7)))),(45,.idx (.lst [.k (.int 80),.k (.none),.k (.int 0),.k (.int 4),.neg (.k (.int 1)),.k (.int 500)]) (.bin .mod (.bin .fdiv (.n 172) (.k (.int 21))) (.k (.int 6)))),(42,.idxq (.lst [.k (.none),.k (.bool true)]) (.bin .mod (.bin .fdiv (.n 172) (.k (.int 126))) (.k (.int 2)))),(47,.idx (.lst [.k (.str [10]),.k (.none),.k (.str []),.k (.str [120])]) (.bin .mod (.bin .fdiv (.n 172) (.k (.int 252))) (.k (.int 4))))])]⟩
noncomputable def oM:Fn:=⟨[185,192],[],[.unp [177,191,170] (.n 192),
 .ife (.and [.cmp (.n 177) [(.inn,.tup [.k (.int 2),.k (.int 3)])],.n 170,.cmp (.n 185) [(.inn,.tup [.k (.str [45]),.k (.str [63]),.k (.str [58])])]]) [.ret (.bin .add (.lst [.bin .add (.bin .add (.n 185) (.k (.str [32]))) (.idx (.n 170) (.k (.int 0)))]) (.comp 193 (.bin .add (.k (.str [32,32])) (.n 193)) (.sl (.n 170) (some (.k (.int 1))) none)))] [],
 .ret (.bin .add (.lst [.bin .add (.n 185) (.n 191)]) (.ife (.and [.cmp (.n 177) [(.eq,.k (.int 2))],.cmp (.n 185) [(.ne,.k (.str [45]))]]) (.n 170) (.comp 193 (.bin .add (.k (.str [32,32])) (.n 193)) (.n 170))))]⟩
noncomputable def GJ:Fn:=⟨[179],[],[.unp [177,178] (.n 179),
 .ife (.cmp (.n 177) [(.eq,.k (.int 0))]) [.ret (.tup [.n 177,.bin .add (.k (.str [32])) (.idx (.idx (.g 187) (.n 178)) (.k (.int 2))),.ife (.cmp (.n 178) [(.eq,.k (.int 5))]) (.lst [.k (.str [120]),.k (.str [121])]) (.lst [])])] [],
 .ife (.cmp (.n 177) [(.eq,.k (.int 4))]) [.ret (.tup [.n 177,.bin .add (.bin .add (.k (.str [32,91])) (.join (.k (.str [44,32])) (.comp 181 (.idx (.idx (.g 187) (.idx (.n 181) (.k (.int 1)))) (.k (.int 2))) (.n 178)))) (.k (.str [93])),.lst []])] [],
 .ife (.not (.n 178)) [.ret (.tup [.n 177,.ife (.cmp (.n 177) [(.eq,.k (.int 2))]) (.k (.str [32,91,93])) (.k (.str [32,123,125])),.lst []])] [],
 .asg [170] (.nil .lst),
 .asg [194] (.comp 181 (.call 195 820 true [.n 181] []) (.n 178)),
 .ife (.cmp (.n 177) [(.eq,.k (.int 2))]) [.for 192 (.n 194) [.e (.ext (.n 170) (.call 196 815 true [.k (.str [45]),.n 192] []))]] [.ife (.or [.idx (.idx (.n 194) (.k (.int 0))) (.k (.int 2)),.cmp (.idx (.idx (.n 194) (.k (.int 0))) (.k (.int 0))) [(.eq,.k (.int 4))]]) [.e (.ext (.n 170) (.call 196 815 true [.k (.str [63]),.idx (.n 194) (.k (.int 0))] [])),
 .e (.ext (.n 170) (.call 196 815 true [.k (.str [58]),.idx (.n 194) (.k (.int 1))] []))] [.e (.ext (.n 170) (.call 196 815 true [.bin .add (.sl (.idx (.idx (.n 194) (.k (.int 0))) (.k (.int 1))) (some (.k (.int 1))) none) (.k (.str [58])),.idx (.n 194) (.k (.int 1))] []))]],
 .ret (.tup [.n 177,.k (.str []),.frz (.n 170)])]⟩
noncomputable def j9:Fn:=⟨[197],[],[.asg [173] (.comp 172 (.bin .mod (.n 172) (.k (.int 100800))) (.sl (.n 197) none (some (.k (.int 6))))),
 .asg [69] (.ife (.n 173) (.idx (.n 173) (.k (.int 0))) (.blur (.k (.int 0)))),
 .asg [198] (.ife (.cmp (.len (.n 173)) [(.gt,.k (.int 1))]) (.idx (.n 173) (.k (.int 1))) (.blur (.k (.int 0)))),
 .asg [199] (.cmp (.bin .mod (.n 69) (.k (.int 2))) [(.eq,.k (.int 0))]),
 .asg [200] (.cmp (.bin .mod (.bin .fdiv (.n 69) (.k (.int 2))) (.k (.int 2))) [(.eq,.k (.int 1))]),
 .asg [179] (.call 201 789 true [.sl (.n 173) (some (.k (.int 2))) none] []),
 .asg [180] (.newl [.tup [.k (.int 8),.k (.int 0)],.tup [.k (.int 6),.n 199]]),
 .e (.call 182 796 false [.n 179,.n 180] []),
 .e (.ext (.n 180) (.lst [.tup [.k (.int 7),.n 200],.tup [.k (.int 9),.k (.int 0)]])),
 .asg [181] (.call 202 810 false [.bin .fdiv (.n 69) (.k (.int 4))] []),
 .asg [203] (.call 202 810 false [.n 198] []),
 .for 204 (.rng (.len (.n 180))) [.asg [28] (.call 205 803 true [.idx (.n 180) (.n 204),.bin .mod (.bin .mul (.bin .add (.bin .fdiv (.n 69) (.k (.int 4))) (.k (.int 7))) (.bin .add (.n 204) (.k (.int 1)))) (.k (.int 997))] []),
 .e (.meth (.n 181) 206 [.n 28] []),
 .asg [172] (.bin .mod (.bin .mul (.bin .add (.n 198) (.k (.int 5))) (.bin .add (.n 204) (.k (.int 1)))) (.k (.int 997))),
 .e (.meth (.n 203) 206 [.ife (.cmp (.bin .mod (.n 172) (.k (.int 3))) [(.eq,.k (.int 0))]) (.n 28) (.call 205 803 true [.idx (.n 180) (.n 204),.bin .fdiv (.n 172) (.k (.int 3))] [])] [])],
 .unp [177,191,170] (.call 195 820 true [.n 179] []),
 .asg [207] (.bin .add (.bin .add (.ife (.n 199) (.lst [.bin .add (.k (.str [45,45,45])) (.n 191)]) (.ife (.n 191) (.lst [.sl (.n 191) (some (.k (.int 1))) none]) (.lst []))) (.n 170)) (.ife (.n 200) (.lst [.k (.str [46,46,46])]) (.lst []))),
 .asg [165] (.join (.k (.str [])) (.comp 193 (.bin .add (.n 193) (.k (.str [10]))) (.n 207))),
 .ret (.and [.cmp (.meth (.a (.n 181) 23) 165 [] []) [(.eq,.n 165)],.cmp (.meth (.a (.n 203) 23) 165 [] []) [(.eq,.n 165)]])]⟩
noncomputable def Gu:List (Nat×Fn):=[(49,Hi),(78,GM),(98,GI),(130,HK),(162,HJ),(182,HI),(214,HD),(293,HB),(316,eU),(330,wZ),(337,HA),(344,Hz),(352,Hy),(359,Hx),(366,Hw),(373,Hv),(381,Hu),(388,Ht),(395,Hs),(403,Hr),(417,Hq),(424,Hp),(431,Ho),(438,Hn),(445,Hm),(452,Hl),(480,Hk),(487,Hj),(495,Hh),(502,Hg),(509,Hf),(517,He),(524,Hd),(531,Hc),(538,Hb),(545,Ha),(552,H9),(559,H8),(566,H7),(573,H6),(580,H5),(587,H4),(615,H3),(629,H1),(636,H0),(643,GZ),(650,GY),(658,GX),(665,GW),(673,GV),(695,GU),(704,GT),(711,GS),(725,GR),(733,GQ),(754,GP),(761,GO),(768,GN),(789,my),(796,GL),(803,GK),(810,rX),(815,oM),(820,GJ),(825,j9)]
noncomputable def EL:List ((Nat×Nat)×Nat):=[((59,0),49),((81,0),78),((101,0),98),((113,0),49),((133,0),130),((145,0),49),((165,0),162),((185,0),182),((197,0),78),((217,0),214),((229,0),98),((241,0),49),((253,0),98),((265,0),49),((296,0),293),((736,0),316),((736,206),330),((736,52),337),((736,54),344),((736,106),352),((736,26),359),((736,86),366),((736,67),373),((736,68),381),((736,88),388),((736,84),395),((736,89),403),((736,99),417),((736,101),424),((736,108),431),((736,110),438),((736,104),445),((736,111),452),((736,102),480),((736,116),487),((736,117),495),((736,105),502),((736,118),509),((736,119),517),((736,120),524),((736,121),531),((736,100),538),((736,103),545),((736,83),552),((736,113),559),((736,97),566),((736,98),573),((736,128),580),((736,107),587),((736,125),615),((736,126),629),((736,87),636),((736,66),643),((736,85),650),((736,70),658),((736,71),665),((736,162),673),((736,131),695),((736,130),704),((736,169),711),((736,133),725),((736,134),733),((771,0),754),((771,161),761),((771,165),768)]
noncomputable def IC:List ((Nat×Nat)×V):=[((736,22),.dct [([33],.str [33]),([116,97,103,58,121,97,109,108,46,111,114,103,44,50,48,48,50,58],.str [33,33])])]
noncomputable def zO:List (Nat×List Nat):=[(59,[59]),(81,[81,59]),(101,[101,81,59]),(113,[113,59]),(133,[133,59]),(145,[145,59]),(165,[165,59]),(185,[185,59]),(197,[197,81,59]),(217,[217,81,59]),(229,[229,101,81,59]),(241,[241,113,59]),(253,[253,101,81,59]),(265,[265,113,59]),(296,[296]),(736,[736]),(771,[771])]
noncomputable def GA:List (Nat×List Nat):=[(59,[2,3]),(81,[4,2,3]),(101,[4,5,6,2,3,7]),(113,[2,3]),(133,[2,3,8]),(145,[2,3]),(165,[2,3,9,10,11]),(185,[2,3,9]),(197,[4,2,3]),(217,[4,5,6,12,2,3,13]),(229,[4,5,6,2,3,7]),(241,[2,3]),(253,[4,5,6,2,3,7]),(265,[2,3]),(296,[14,15,16,17,18,19,20,21]),(736,[23,8,24,25,27,28,29,30,31,32,33,34,35,36,37,38,39,40,41,42,43,44,46,48,49,50,51,13]),(771,[170])]
noncomputable def Gl:List (Nat×V):=[(53,.stat 165),(55,.stat 229),(56,.stat 253),(58,.stat 101),(59,.stat 185),(60,.stat 113),(61,.stat 145),(65,.stat 133),(94,.stat 197),(96,.stat 217),(109,.stat 241),(112,.stat 265),(123,.stat 81),(143,.stat 296),(182,.stat 796),(187,.lst [.tup [.str [97],.none,.str [97]],.tup [.str [98,32,99],.none,.str [98,32,99]],.tup [.str [45],.none,.str [39,45,39]],.tup [.str [100],.str [39],.str [39,100,39]],.tup [.str [101],.str [34],.str [34,101,34]],.tup [.str [120,10,121,10],.str [124],.str [124]]]),(189,.stat 736),(190,.stat 771),(195,.stat 820),(196,.stat 815),(201,.stat 789),(202,.stat 810),(205,.stat 803),(208,.stat 825)]
noncomputable def rb:List (List Nat):=¬"__init__ self start_mark end_mark anchor tag implicit flow_style encoding explicit version tags value style scalar empty multiline allow_flow_plain allow_block_plain allow_single_quoted allow_double_quoted allow_block DEFAULT_TAG_PREFIXES stream states state expect_stream_start events event indents indent flow_level root_context sequence_context mapping_context simple_key_context line column whitespace indention open_ended canonical allow_unicode best_indent best_width width best_line_break line_break tag_prefixes prepared_anchor prepared_tag analysis need_more_events DocumentStartEvent need_events SequenceStartEvent MappingStartEvent level CollectionStartEvent DocumentEndEvent CollectionEndEvent StreamEndEvent count flow indentless StreamStartEvent write_stream_start expect_first_document_start expect_document_start first write_indicator write_indent version_text prepare_version write_version_directive handles handle prefix handle_text prepare_tag_handle prefix_text prepare_tag_prefix write_tag_directive check_empty_document expect_document_root write_stream_end expect_nothing flush_stream expect_document_end expect_node root sequence mapping simple_key AliasEvent expect_alias ScalarEvent process_anchor process_tag expect_scalar check_empty_sequence expect_flow_sequence expect_block_sequence check_empty_mapping expect_flow_mapping expect_block_mapping increase_indent process_scalar expect_first_flow_sequence_item SequenceEndEvent expect_flow_sequence_item expect_first_flow_mapping_key MappingEndEvent check_simple_key expect_flow_mapping_simple_value expect_flow_mapping_value expect_first_block_sequence_item expect_block_sequence_item expect_first_block_mapping_key expect_block_mapping_key expect_block_mapping_simple_value expect_block_mapping_value length NodeEvent prepare_anchor prepare_tag analyze_scalar indicator choose_scalar_style split write_double_quoted write_single_quoted write_folded write_literal write_plain suffix prefixes chunks start end ch data suffix_text ScalarAnalysis block_indicators flow_indicators line_breaks special_characters leading_space leading_break trailing_space trailing_break break_space space_break preceded_by_whitespace followed_by_whitespace previous_space previous_break index unicode_characters need_whitespace write write_line_break spaces breaks text br ESCAPE_REPLACEMENTS hints determine_block_hints rows pile n tape what rest pair kind inside node plan one _law_plan told entry mark face _law_LEAVES marked Emitter Rows head box row boxes _law_box _law_hang script second opens closes _law_tree _law_emitter other i _law_event emit due law"
set_option backward.match.sparseCases false
noncomputable abbrev aq (s:List Nat):Str:=⟨s.toArray⟩
set_option tactic.hygienic false
noncomputable def dE:Expr→Option Str|.Name x _=>some x|_=>none
noncomputable def yY:Expr→Option (Expr×Str)|.Attribute v a _=>some (v,a)|_=>none
noncomputable def pI:Expr→Option Const|.Constant c _ _=>some c|_=>none
noncomputable def pH:Expr→Option (List Expr)|.Tuple l _ _=>some l|_=>none
noncomputable def r7 (e:Expr) (f:Const→Bool):Bool:=match e with|.Constant c _ _=>f c|_=>false
noncomputable def lI (e:Expr) (f:Expr→Str→Bool):Bool:=match e with|.Attribute o a _=>f o a|_=>false
noncomputable def uZ (e:Expr) (f:Expr→Bool):Bool:=match e with|.UnaryOp .Not x _=>f x|_=>false
noncomputable def qU (e:Expr) (f:Expr→Bool):Bool:=match e with|.UnaryOp .USub x _=>f x|_=>false
noncomputable def vn (e:Expr) (f:List Expr→Bool):Bool:=match e with|.BoolOp .And l _=>f l|_=>false
noncomputable def qT (e:Expr) (f:List Expr→Bool):Bool:=match e with|.BoolOp .Or l _=>f l|_=>false
noncomputable def v7 (e:Expr) (f:Expr→Expr→Expr→Bool):Bool:=match e with|.IfExp t b o _=>f t b o|_=>false
noncomputable def lH (e:Expr) (f:Expr→Operator→Expr→Bool):Bool:=match e with|.BinOp l o r _=>f l o r|_=>false
noncomputable def vh (e:Expr) (f:Expr→List CmpOp→List Expr→Bool):Bool:=match e with|.Compare l o r _=>f l o r|_=>false
noncomputable def nM (e:Expr) (f:List Expr→Bool):Bool:=match e with|.Tuple l _ _=>f l|_=>false
noncomputable def lC (e:Expr) (f:List Expr→Bool):Bool:=match e with|.List l _=>f l|_=>false
noncomputable def jC (e:Expr) (f:Expr→Expr→Bool):Bool:=match e with|.Subscript v s _=>f v s|_=>false
noncomputable def uW (e:Expr) (f:Option Expr→Option Expr→Option Expr→Bool):Bool:=match e with|.Slice a b c _=>f a b c|_=>false
noncomputable def vk (e:Expr) (f:Expr→Str→Pos→Bool):Bool:=match e with|.Attribute o a p=>f o a p|_=>false
noncomputable def i9 (e:Expr) (f:Expr→List Expr→List Keyword→Pos→Bool):Bool:=match e with|.Call g a ks p=>f g a ks p|_=>false
noncomputable def lD (e:Expr) (f:Expr→Pos→Bool):Bool:=i9 e fun g as ks p=>match as,ks with|[],[]=>f g p|_,_=>false
noncomputable def gH (e:Expr) (f:Expr→Expr→Pos→Bool):Bool:=i9 e fun g as ks p=>match as,ks with|[a],[]=>f g a p|_,_=>false
noncomputable def vj (e:Expr) (f:Expr→Expr→Expr→Bool):Bool:=i9 e fun g as ks _=>match as,ks with|[a,b],[]=>f g a b|_,_=>false
noncomputable def uX (e:Expr) (f:Expr→Expr→Bool):Bool:=qT e fun es=>match es with|[a,b]=>f a b|_=>false
noncomputable def qZ (e:Expr):Bool:=match e with|.Dict a b _=>a.isEmpty&&b.isEmpty|_=>false
noncomputable def qY (e:Expr) (f:Expr→Bool):Bool:=match e with|.FormattedValue a c sp _=>decide (c=115)&&sp.isNone&&f a|_=>false
noncomputable def qX (e:Expr) (f:Expr→Expr→Bool):Bool:=match e with
 |.JoinedStr l _=>(match l with|[]=>false|x::r=>(match r with|[]=>false|y::t=>t.isEmpty&&qY x fun a=>qY y fun b=>f a b))
 |_=>false
noncomputable def qW (e:Expr) (f:Expr→Expr→Expr→Scope→Bool):Bool:=match e with
 |.ListComp elt gs scope _=>(match gs with|[]=>false|g::r=>r.isEmpty&&g.ifs.isEmpty&&decide (g.is_async=0)&&f elt g.target g.iter scope)
 |_=>false
noncomputable def sq (a b:Str):Bool:=Fast.sEq a b
noncomputable def dP:List (Str×NameKind)→Str→Option NameKind
 |[],_=>none
 |p::r,x=>match sq x p.1 with|true=>some p.2|false=>dP r x
noncomputable def om:Option NameKind→Bool|some .local=>true|_=>false
noncomputable def rF:Option NameKind→Bool|some .globalImplicit=>true|_=>false
noncomputable def gf:Expr→Bool|.Call (.Name _ _) [] [] _=>false|_=>true
noncomputable def ic:Expr→Bool|.Set _ _ _=>false|_=>true
noncomputable def iR:Expr→Bool|.Slice _ _ _ _=>false|_=>true
noncomputable def ff:Expr→Bool|.UnaryOp .Not _ _=>false|.BoolOp _ _ _=>false|.IfExp _ _ _ _=>false|.Compare _ _ _ _=>false|_=>true
noncomputable def cB:Expr→Bool|.Starred _ _=>false|_=>true
noncomputable def IG:V→Const→Bool
 |.none,.none=>true
 |.bool a,.bool b=>a==b
 |.int a,.int b=>decide (a=b)
 |.str s,.str t=>Nat.ble s.length lim&&bV s t.cps.toList
 |_,_=>false
noncomputable def xY:bU→Operator|.add=>.Add|.sub=>.Sub|.mul=>.Mult|.fdiv=>.FloorDiv|.mod=>.Mod
noncomputable def oZ (a:bU) (o:Operator):Bool:=decide (o=xY a)
noncomputable def xL:cG→CmpOp|.eq=>.Eq|.ne=>.NotEq|.lt=>.Lt|.le=>.LtE|.gt=>.Gt|.ge=>.GtE|.is=>.Is|.isnt=>.IsNot|.inn=>.In|.nin=>.NotIn
noncomputable def oT (a:cG) (o:CmpOp):Bool:=decide (o=xL a)
section
variable (T:b8) (sc:List (Str×NameKind))
noncomputable def cO (x:Nat) (e:Expr):Bool:=match dE e with
 |some y=>sq (T.nm x) y&&om (dP sc y)&&!sq y "__debug__"
 |none=>false
noncomputable def eu (x:Nat) (e:Expr):Bool:=match dE e with
 |some y=>sq (T.nm x) y&&rF (dP sc y)&&!sq y "__debug__"
 |none=>false
noncomputable def iy (x:Str) (e:Expr):Bool:=match dE e with
 |some y=>sq x y&&rF (dP sc y)
 |none=>false
noncomputable def aY {α β:Type} (p:α→β→Bool):List α→List β→Bool
 |[],[]=>true
 |a::r,b::t=>match p a b with|true=>aY p r t|false=>false
 |_,_=>false
noncomputable def qP {α β:Type} (p:α→β→Bool):Option α→Option β→Bool
 |none,none=>true
 |some a,some b=>p a b
 |_,_=>false
noncomputable def gN (p:CE→Expr→Bool) (c:Nat×CE) (k:Keyword):Bool:=match k.arg with
 |some y=>sq (T.nm c.1) y&&p c.2 k.value
 |none=>false
noncomputable def oV (p:CE→Expr→Bool):List (cG×CE)→List CmpOp→List Expr→Bool
 |[],os,es=>os.isEmpty&&es.isEmpty
 |c::r,os,es=>match os with
  |[]=>false
  |o::os=>match es with
   |[]=>false
   |e::es=>oT c.1 o&&p c.2 e&&ic e&&oV p r os es
noncomputable def pP:V→Option Nat|.stat a=>some a|_=>none
noncomputable def gS (T:b8) (x f:Nat):Bool:=match look T.globs x with
 |some v=>(match pP v with|some a=>Nat.beq a f|none=>false)
 |none=>false
noncomputable def xP (cs:List (Nat×Nat)) (e:Expr):Bool:=match pH e with
 |some l=>aY (fun c e=>eu T sc c.1 e&&gS T c.1 c.2&&(look T.subs c.2).isSome) cs l&&l.all cB&&Nat.ble l.length 1000
 |none=>match cs with|[c]=>eu T sc c.1 e&&gS T c.1 c.2&&(look T.subs c.2).isSome|_=>false
noncomputable def fw (y:Str) (q:Expr→Bool) (f:Expr) (p:Pos):Bool:=vk f fun o a ap=>sq y a&&q o&&gf o&&ap.endLine==p.line
end
noncomputable def gX (scope:Scope):Bool:=(match scope.kind with|.function=>true|_=>false)&&scope.names.all fun p=>match p.2 with
 |.local=>om (dP scope.names p.1)|.globalImplicit=>true|.globalExplicit=>true|_=>false
noncomputable def wo:Const→Bool|.int i=>decide (i=0)|_=>false
noncomputable def pA (e:Expr):Bool:=match pI e with|some k=>wo k|none=>false
noncomputable def al (T:b8) (sc:List (Str×NameKind)):Nat→CE→Expr→Bool
 |0,_,_=>false
 |n+1,c,e=>match c with
  |.k v=>r7 e (IG v)
  |.n x=>cO T sc x e
  |.g x=>eu T sc x e
  |.a c f=>lI e fun o a=>al T sc n c o&&sq (T.nm f) a&&gf o
  |.not c=>uZ e fun x=>al T sc n c x
  |.neg c=>qU e fun x=>al T sc n c x
  |.and l=>vn e fun es=>aY (al T sc n) l es
  |.or l=>qT e fun es=>aY (al T sc n) l es
  |.ife t b o=>v7 e fun t' b' o'=>al T sc n t t'&&al T sc n b b'&&al T sc n o o'
  |.bin op l r=>lH e fun l' o r'=>oZ op o&&al T sc n l l'&&al T sc n r r'
  |.catn l r=>lH e fun l' o r'=>decide (o=.Add)&&al T sc n l l'&&al T sc n r r'
  |.fmt l r=>lH e fun l' o r'=>decide (o=.Mod)&&al T sc n l l'&&al T sc n r r'
  |.cmp l ops=>vh e fun l' os es=>al T sc n l l'&&oV (al T sc n) ops os es
  |.tup l=>nM e fun es=>aY (al T sc n) l es&&es.all cB&&Nat.ble es.length 1000
  |.lst l=>lC e fun es=>aY (al T sc n) l es&&es.all cB&&Nat.ble es.length 1000
  |.newl l=>lC e fun es=>aY (al T sc n) l es&&es.all cB&&Nat.ble es.length 1000
  |.nil _=>lC e fun es=>es.isEmpty
  |.dnil=>qZ e
  |.frz c=>al T sc n c e&&ff e
  |.cat2 a b=>qX e fun a' b'=>al T sc n a a'&&al T sc n b b'
  |.orz c=>uX e fun a b=>al T sc n c a&&pA b
  |.blur c=>al T sc n c e&&ff e
  |.pin c=>al T sc n c e&&ff e
  |.unq _ c=>al T sc n c e&&ff e
  |.idxq c i=>jC e fun o j=>al T sc n c o&&al T sc n i j&&iR j&&gf o
  |.idx c i=>jC e fun o j=>al T sc n c o&&al T sc n i j&&iR j&&gf o
  |.sl c lo hi=>jC e fun o j=>uW j fun a b s=>al T sc n c o&&qP (al T sc n) lo a&&qP (al T sc n) hi b&&s.isNone
  |.isi c cs=>vj e fun f a b=>iy sc "isinstance" f&&al T sc n c a&&xP T sc cs b&&cB a&&cB b
  |.len c=>gH e fun f a _=>iy sc "len" f&&al T sc n c a&&cB a
  |.rng c=>gH e fun f a _=>iy sc "range" f&&al T sc n c a&&cB a
  |.call x g _ as ks=>i9 e fun f es kws p=>eu T sc x f&&gS T x g&&aY (al T sc n) as es&&aY (gN T (al T sc n)) ks kws&&es.all cB
  |.new x g _ as ks=>i9 e fun f es kws p=>eu T sc x f&&gS T x g&&aY (al T sc n) as es&&aY (gN T (al T sc n)) ks kws&&es.all cB
  |.meth c m as ks=>i9 e fun f es kws p=>Nat.ble (es.length+kws.length) 20&&fw (T.nm m) (al T sc n c) f p&&aY (al T sc n) as es&&aY (gN T (al T sc n)) ks kws&&es.all cB
  |.fcall c f=>lD e fun g p=>fw (T.nm f) (al T sc n c) g p
  |.app c x=>gH e fun g a p=>fw "append" (al T sc n c) g p&&al T sc n x a&&cB a
  |.pop c=>lD e fun g p=>fw "pop" (al T sc n c) g p
  |.pop0 c=>gH e fun g a p=>fw "pop" (al T sc n c) g p&&al T sc n (.k (.int 0)) a
  |.ext c x=>gH e fun g a p=>fw "extend" (al T sc n c) g p&&al T sc n x a&&cB a
  |.starts c x=>gH e fun g a p=>fw "startswith" (al T sc n c) g p&&al T sc n x a&&cB a
  |.join c x=>gH e fun g a p=>fw "join" (al T sc n c) g p&&al T sc n x a&&cB a
  |.copyD c=>lD e fun g p=>fw "copy" (al T sc n c) g p
  |.keysS c=>gH e fun f a _=>lD a fun g p=>iy sc "sorted" f&&fw "keys" (al T sc n c) g p
  |.comp x body src=>qW e fun elt tg it scope=>al T sc n src it&&ic it&&gX scope&&cO T scope.names x tg&&al T scope.names n body elt
  |.stuck=>true
noncomputable def wB:CE→Bool|.comp _ _ _=>true|_=>false
noncomputable def Jl (scope:Scope) (ep:Pos):List Expr→Bool
 |[]=>false
 |t::r=>r.isEmpty&&(match dE t with|some z=>t.pos.line==ep.line&&!(scope.names.any fun q=>q.1==z&&(q.2==.local||q.2==.cell))|none=>false)
set_option backward.match.sparseCases true in
noncomputable def yi (x:CE) (ts:List Expr) (e:Expr):Bool:=match e with
 |.ListComp _ _ scope ep=>wB x&&Jl scope ep ts
 |.SetComp _ _ _ _=>false
 |.DictComp _ _ _ _ _=>false
 |_=>true
set_option backward.match.sparseCases true in
noncomputable def gI:Expr→Bool|.ListComp _ _ _ _=>false|.SetComp _ _ _ _=>false|.DictComp _ _ _ _ _=>false|_=>true
noncomputable def sw:bU→Operator→Bool
 |.add,.Add=>true|.sub,.Sub=>true|_,_=>false
set_option backward.match.sparseCases true in
noncomputable def wt:Expr→Bool|.Starred ..=>true|_=>false
noncomputable def te (vs:List Expr) (p q:Pos) (x y:Str):Bool:=q.line==p.line&&!(x==y)&&!(vs.any wt)&&vs.length==2&&!(vs.all (foldedForSure 8))&&!(vs.all (constantsAlone 8))
noncomputable def th (vs:List Expr) (a b:Expr):Bool:=match dE a with
 |some x=>(match dE b with
  |some y=>te vs a.pos b.pos x y
  |none=>false)
 |none=>false
noncomputable def tf (vs:List Expr):List Expr→Bool
 |[]=>false
 |a::r=>match r with|[]=>false|b::r=>r.isEmpty&&th vs a b
set_option backward.match.sparseCases true in
noncomputable def tj (ts:List Expr) (e:Expr):Bool:=match e with
 |.Tuple vs _ _=>tf vs ts
 |.List _ _=>false
 |_=>true
noncomputable def ur (t:Stmt) (f:Expr→Bool):Bool:=match t with|.Expr e _=>f e|_=>false
noncomputable def qu (t:Stmt) (f:List Expr→Expr→Pos→Bool):Bool:=match t with|.Assign ts e p=>f ts e p|_=>false
noncomputable def qr (t:Stmt) (f:Expr→Operator→Expr→Bool):Bool:=match t with|.AugAssign x o e _=>f x o e|_=>false
noncomputable def um (t:Stmt) (f:Expr→List Stmt→List Stmt→Bool):Bool:=match t with|.If e l r _=>f e l r|_=>false
noncomputable def uj (t:Stmt) (f:Expr→List Stmt→List Stmt→Bool):Bool:=match t with|.While e l r _=>f e l r|_=>false
noncomputable def uo (t:Stmt) (f:Expr→Expr→List Stmt→List Stmt→Bool):Bool:=match t with|.For x e l r _=>f x e l r|_=>false
noncomputable def qq (t:Stmt) (f:Option Expr→Bool):Bool:=match t with|.Return o _=>f o|_=>false
noncomputable def ul (t:Stmt):Bool:=match t with|.Pass _=>true|_=>false
noncomputable def nB (t:Stmt) (f:Expr→Expr→Bool):Bool:=qu t fun ts e _=>match ts with|[]=>false|x::r=>r.isEmpty&&f x e
noncomputable def qV (e:Expr) (f:Str→Bool):Bool:=match e with|.Name z _=>f z|_=>false
section
variable (T:b8) (sc:List (Str×NameKind))
noncomputable def cR:Nat→CS→Stmt→Bool
 |0,_,_=>false
 |n+1,c,t=>match c with
  |.e x=>ur t fun e=>al T sc n x e&&gI e
  |.asg xs x=>qu t fun ts e p=>aY (cO T sc) xs ts&&al T sc n x e&&yi x ts e
  |.asgF o f x=>nB t fun tg e=>lI tg fun ob a=>al T sc n x e&&gI e&&al T sc n o ob&&sq (T.nm f) a
  |.unp xs x=>nB t fun tg e=>nM tg fun ts=>aY (cO T sc) xs ts&&al T sc n x e&&gI e&&tj ts e
  |.setI o i x=>nB t fun tg e=>jC tg fun ob j=>al T sc n x e&&gI e&&al T sc n o ob&&al T sc n i j&&iR j
  |.augN y op x=>qr t fun tg o e=>qV tg fun z=>cO T sc y (.Name z ⟨0,0,0,0⟩)&&sw op o&&al T sc n x e
  |.augF ob f op x=>qr t fun tg o e=>lI tg fun b a=>al T sc n ob b&&sq (T.nm f) a&&gf b&&sw op o&&al T sc n x e
  |.ife x a b=>um t fun e l r=>al T sc n x e&&aY (cR n) a l&&aY (cR n) b r
  |.whl x a=>uj t fun e l r=>r.isEmpty&&al T sc n x e&&aY (cR n) a l
  |.for y x a=>uo t fun tg e l r=>qV tg fun z=>r.isEmpty&&cO T sc y (.Name z ⟨0,0,0,0⟩)&&al T sc n x e&&ic e&&aY (cR n) a l
  |.ret x=>qq t fun o=>match o with|some e=>al T sc n x e|none=>false
  |.ret0=>qq t fun o=>o.isNone
  |.pass=>ul t
  |.stuck=>true
end
noncomputable def wq:Value→Bool|.str _ _=>true|_=>false
noncomputable def mL:Data→Option (Array DictEntry)|.dict es _=>some es|_=>none
noncomputable def sj:Data→Option FuncData|.func f=>some f|_=>none
noncomputable def si:Data→Option (Array Value)|.seq a _=>some a|_=>none
noncomputable def pK:Value→Option String|.type t=>some t|_=>none
noncomputable def fX:Value→Option Addr|.ref t=>some t|_=>none
noncomputable def mQ (o:Obj) (c:String):Bool:=o.dict.isNone&&o.slots.toList.isEmpty&&(match pK o.cls with|some t=>decide (t=c)|none=>false)
noncomputable def hZ (K:Frag) (a:Addr) (c:String):Option (List Value):=match K.lookup a with
 |some o=>(match mQ o c with|true=>(match si o.data with|some vs=>some vs.toList|none=>none)|false=>none)
 |none=>none
noncomputable def mI (K:Frag) (a:Addr) (c:String):Option (List DictEntry):=match K.lookup a with
 |some o=>(match mQ o c with|true=>(match mL o.data with|some vs=>some vs.toList|none=>none)|false=>none)
 |none=>none
noncomputable def ib (K:Frag) (a:Addr):Bool:=match K.lookup a with
 |some o=>(match mL o.data with|some es=>es.toList.all fun e=>wq e.key|none=>false)
 |none=>false
noncomputable def p8:List (Str×Value):=[("isinstance",.builtin "isinstance"),("len",.builtin "len"),("range",.type "range"),("sorted",.builtin "sorted")]
set_option backward.match.sparseCases true
noncomputable def lM (l:List (List Nat)) (n:Nat):Str:=match bB l n with|some s=>aq s|none=>aq [1114112+n]
noncomputable def mS (a:List Nat):List (List Nat)→Bool
 |[]=>false
 |b::r=>match bV a b with|true=>true|false=>mS a r
noncomputable def jd:List (List Nat)→Bool
 |[]=>true
 |a::r=>match mS a r with|true=>false|false=>jd r
noncomputable def gy (K:Frag):Nat→Value→V→Bool
 |0,_,_=>false
 |n+1,v,y=>match y with
  |.none=>(match v with|.none=>true|_=>false)
  |.bool b=>(match v with|.bool a=>decide (a=b)|_=>false)
  |.int j=>(match v with|.int i _=>decide (i=j)|_=>false)
  |.str l=>(match v with|.str s _=>sq s (aq l)&&Nat.ble l.length 1000|_=>false)
  |.stat b=>(match v with|.ref a=>Nat.beq a b|_=>false)
  |.tup l=>(match fX v with
   |some a=>(match hZ K a "tuple" with|some vs=>Nat.ble vs.length 1000&&aY (gy K n) vs l|none=>false)
   |none=>false)
  |.lst l=>(match fX v with
   |some a=>(match hZ K a "list" with|some vs=>Nat.ble vs.length 1000&&aY (gy K n) vs l|none=>false)
   |none=>false)
  |_=>false
section
variable (T:b8) (K:Frag)
noncomputable def xQ (p:Nat×List Nat):Bool:=plainGet K p.1 ""&&hasDictIn K p.1&&plainOver K p.1&&(findIn K (.ref p.1) "__setattr__"==some (some (.builtin "object.__setattr__")))&&p.2.all fun n=>findIn K (.ref p.1) (T.nm n)==some none
noncomputable def EM (p:(Nat×Nat)×Nat):Bool:=(findIn K (.ref p.1.1) (T.nm p.1.2)==some (some (.ref p.2)))&&isFn K (.ref p.2)&&(specialIn K (.ref p.2) "__get__"==some (some (.builtin "function.__get__")))&&(takesIn K (.ref p.2)==some false)&&!copiedNames.contains (T.nm p.1.2)&&(look T.flds p.1.1).isSome
noncomputable def nQ:List Nat→Bool
 |[]=>true
 |a::r=>match bq r a with|true=>false|false=>nQ r
noncomputable def sf (fd:FuncData) (F:Fn):Bool:=match fX fd.defaults with
 |some t=>(match hZ K t "tuple" with|some vs=>Nat.ble vs.length 1000&&aY (gy K 5) vs F.dflts|none=>false)
 |none=>decide (fd.defaults=.none)&&F.dflts.isEmpty
noncomputable def uO (fd:FuncData) (F:Fn):Bool:=fd.params.posonlyargs.isEmpty&&fd.params.vararg.isNone&&fd.params.kwonlyargs.isEmpty&&(fd.params.kw_defaults.isEmpty&&fd.params.kwarg.isNone&&aY (fun (a:Arg) n=>sq a.arg (T.nm n)) fd.params.args F.params)
noncomputable def DQ:NameKind→Bool|.cell=>false|_=>true
noncomputable def wz:ScopeKind→Bool|.function=>true|_=>false
noncomputable def pO:FuncBody→Option (List Stmt)|.stmts b=>some b|_=>none
noncomputable def Gw (N:Nat) (fd:FuncData) (F:Fn):Bool:=wz fd.scope.kind&&!fd.scope.isCoroutine&&!fd.scope.isGenerator&&fd.scope.names.all (fun x=>DQ x.2)&&(codeIn K fd.code fd.qualname&&
   (match pO fd.body with|some b=>aY (cR T fd.scope.names N) F.body b|none=>false)&&Nat.beq fd.globals mainGlobals&&Nat.beq fd.builtins builtinsNs&&(fd.closure.isEmpty&&
   F.params.all (fun n=>om (dP fd.scope.names (T.nm n)))&&nQ F.params&&(uO T fd F&&sf K fd F)))
noncomputable def rS (N:Nat) (p:Nat×Fn):Bool:=match K.lookup p.1 with
 |some o=>(match sj o.data with|some fd=>Gw T K N fd p.2|none=>false)
 |none=>false
end
section
variable (T:b8) (K:Frag)
noncomputable def wd (e:DictEntry) (l:List Nat):Bool:=match e.key with|.str s _=>sq s (aq l)|_=>false
noncomputable def sh (a:Addr) (l:List (List Nat×V)):Bool:=match mI K a "dict" with
 |some es=>!(a==sysModules)&&jd (l.map (·.1))&&Nat.ble l.length 1000&&
   aY (fun (e:DictEntry) (p:List Nat×V)=>wd e p.1&&Nat.ble p.1.length 1000&&gy K 5 e.val p.2) es l
 |none=>false
noncomputable def rI (a:Addr):List Int:=match mI K a "dict" with
 |some es=>es.map DictEntry.hash
 |none=>[]
noncomputable def mK:V→Option (List (List Nat×V))|.dct l=>some l|_=>none
noncomputable def uB (o:Option (Option Value)):Option Addr:=match o with|some u=>(match u with|some v=>fX v|none=>none)|none=>none
noncomputable def sn (v:Value) (y:V):Bool:=match mK y with|some l=>(match fX v with|some a=>sh K a l|none=>false)|none=>gy K 5 v y
noncomputable def xG (p:(Nat×Nat)×V):Bool:=match findIn K (.ref p.1.1) (T.nm p.1.2) with
 |some u=>(match u with
  |some v=>(specialIn K v "__get__"==some none)&&!copiedNames.contains (T.nm p.1.2)&&(look T.flds p.1.1).isSome&&sn K v p.2
  |none=>false)
 |none=>false
noncomputable def kr (p:(Nat×Nat)×V):List Int:=match mK p.2 with
 |some _=>(match uB (findIn K (.ref p.1.1) (T.nm p.1.2)) with|some a=>rI K a|none=>[])
 |none=>[]
noncomputable def ko (w:World) (p:(Nat×Nat)×V):List Int:=match mK p.2 with
 |some l=>l.map (fun q=>hashStr w (aq q.1))
 |none=>[]
noncomputable def wJ (p:Nat×V):Bool:=match nsIn K mainGlobals (T.nm p.1) with
 |some o=>(match o with|some u=>gy K 5 u p.2|none=>false)
 |none=>false
noncomputable def Ja (p:Str×Value):Bool:=(nsIn K mainGlobals p.1==some none)&&(nsIn K builtinsNs p.1==some (some p.2))
noncomputable def vQ (p:(Nat×Nat)×Nat):Bool:=match Nat.beq p.1.2 fG with
 |true=>makesIn K p.1.1&&keepIn K (.ref p.1.1)
 |false=>true
noncomputable def tq (p q:Nat×List Nat):Bool:=match bq p.2 q.1 with
 |true=>isIn K (.ref p.1) q.1
 |false=>kin_not K p.1 q.1
noncomputable def FN (p:Nat×List Nat):Bool:=plainGet K p.1 "__class__"&&hasDictIn K p.1&&(findIn K (.ref p.1) "__class__"==some (some (.builtin "object.__class__")))&&(mroIn K p.1 (.type "object")==some true)
noncomputable def oG (N:Nat):Bool:=T.fns.all (rS T K N)
noncomputable def oL (hi:Nat):Bool:=
 T.flds.all (xQ T K)&&T.meths.all (EM T K)&&T.cvals.all (xG T K)&&ib K mainGlobals&&ib K builtinsNs&&ib K cStatics&&(nsIn K cStatics "sys.recursionlimit"==some none)&&
 T.globs.all (wJ T K)&&p8.all (Ja K)&&sq (T.nm fG) "__init__"&&T.meths.all (vQ K)&&((K.lookup hi).isSome&&Nat.blt sysModules hi)&&
 T.subs.all (fun p=>T.subs.all (tq K p))&&T.subs.all (FN K)&&(specialIn K (.builtin "object.__class__") "__get__"==some (some (.builtin "getset_descriptor.__get__")))&&(takesIn K (.builtin "object.__class__")==some true)
end
set_option backward.match.sparseCases false
set_option tactic.hygienic true
noncomputable def T7:b8:=⟨lM rb,Gu,EL,IC,zO,Gl,GA⟩
set_option backward.match.sparseCases true
noncomputable def kB:List Nat:=[0,2,3,6,42,48,49,56,57,58,59,60,61,71,77,78,79,80,81,91,97,98,99,100,101,111,112,113,123,129,130,131,132,133,143,144,145,155,161,162,163,164,165,175,181,182,183,184,185,195,196,197,207,213,214,215,216,217,227,228,229,239,240,241,251,252,253,263,264,265,292,293,294,295,296,297,298,308,309,315,316,323,329,330,336,337,343,344,345,351,352,358,359,365,366,372,373,374,380,381,387,388,394,395,396,402,403,410,416,417,423,424,430,431,437,438,444,445,451,452,459,466,473,479,480,486,487,488,494,495,501,502,508,509,510,516,517,523,524,530,531,537,538,544,545,551,552,558,559,565,566,572,573,579,580,586,587,594,601,608,614,615,622,628,629,635,636,642,643,649,650,651,657,658,664,665,666,672,673,680,687,688,694,695,696,697,703,704,710,711,718,724,725,726,732,733,734,735,736,737,738,753,754,760,761,767,768,769,770,771,772,773,776,777,778,779,780,781,782,788,789,795,796,802,803,809,810,814,815,819,820,824,825]
structure Jv (w:World) (h:Heap) where
 K:Frag
 kin:K.In h
 ok:oL T7 K 825=true
 fns:oG T7 K 60=true
 hash:T7.cvals.map (kr T7 K)=T7.cvals.map (ko w)
noncomputable def ip:Hook where
 α:=(Bool×List (List Int))×Bool
 obs:=fun s=>((oL T7 (j0 s.heap kB) 825,T7.cvals.map (kr T7 (j0 s.heap kB))),oG T7 (j0 s.heap kB) 60)
 val:=fun w=>((true,T7.cvals.map (ko w)),true)
 says:=fun w h=>Nonempty (Jv w h)
 of:=fun _ s e=>⟨⟨_,Fm _ _,Kq (fun x=>x.1.1) e,Kq Prod.snd e,Kq (fun x=>x.1.2) e⟩⟩
 keeps:=fun _ _ _ ⟨S⟩ k=>⟨⟨S.K,S.kin.keeps k,S.ok,S.fns,S.hash⟩⟩
noncomputable abbrev hK (w:World) (os:OsState):=segRunT treeTable pr w 11 kE 1 7300 (sB w.params os) (piecesOf stmts oQ cT gb [topFrame gb])
noncomputable abbrev kJ (w:World) (os:OsState):Prop:=(hK w os).map
  (fun r=>(r.1,r.2.2.1,r.2.2.2,(staticsOk (importedModules pr.main.body) (boot_heap w.params) r.2.1.abs.heap&&namesBound pr r.2.1.abs.heap&&gensDone r.2.1.abs&&laidKept (boot_heap w.params) r.2.1.abs.heap),
   openSeen qv lX (importedModules pr.main.body) sD true r.2.1.abs))=some (.next,cT,nI,true,openGood qv lX)
noncomputable abbrev jk (w:World) (os:OsState):Prop:=(hK w os).map (fun r=>(oL T7 (j0 r.2.1.abs.heap kB) 825,T7.cvals.map (kr T7 (j0 r.2.1.abs.heap kB))))=some (true,T7.cvals.map (ko w))
noncomputable abbrev jj (w:World) (os:OsState):Prop:=(hK w os).map (fun r=>oG T7 (j0 r.2.1.abs.heap kB) 60)=some true
theorem BR (w:World) (os:OsState):kJ (w.withFollow gF false) os:=by
 unfold kJ hK;rw [PySem.W.Fast.te10110043849684766642,PySem.W.Fast.te14364793385576792824,PySem.W.Fast.te4187177175401517315];kernel_rfl
theorem BO (w:World) (os:OsState):kJ (w.withFollow gF true) os:=by
 unfold kJ hK;rw [PySem.W.Fast.te10110043849684766642,PySem.W.Fast.te14364793385576792824,PySem.W.Fast.te4187177175401517315];kernel_rfl
theorem BQ (w:World):∀ os,kJ w os:=byRow2 gF (P:=fun w=>∀ os,kJ w os) (fun w=>BR w) (fun w=>BO w) w
theorem BZ (w:World) (os:OsState):jk (w.withFollow gF false) os:=by
 unfold jk hK;rw [PySem.W.Fast.te10110043849684766642,PySem.W.Fast.te14364793385576792824];kernel_rfl
theorem BX (w:World) (os:OsState):jk (w.withFollow gF true) os:=by
 unfold jk hK;rw [PySem.W.Fast.te10110043849684766642,PySem.W.Fast.te14364793385576792824];kernel_rfl
theorem BY (w:World):∀ os,jk w os:=byRow2 gF (P:=fun w=>∀ os,jk w os) (fun w=>BZ w) (fun w=>BX w) w
theorem BV (w:World) (os:OsState):jj (w.withFollow gF false) os:=by
 unfold jj hK;rw [PySem.W.Fast.te10110043849684766642,PySem.W.Fast.te14364793385576792824];kernel_rfl
theorem BS (w:World) (os:OsState):jj (w.withFollow gF true) os:=by
 unfold jj hK;rw [PySem.W.Fast.te10110043849684766642,PySem.W.Fast.te14364793385576792824];kernel_rfl
theorem BU (w:World):∀ os,jj w os:=byRow2 gF (P:=fun w=>∀ os,jj w os) (fun w=>BV w) (fun w=>BS w) w
theorem D5:opening pr=plainProg pr.main.scope.names:=by kernel_rfl
theorem D6 (s:Shared):fenceModules? pr s=some s:=by kernel_rfl
theorem Bh (w:World):((boot_heap w.params).isNs mainGlobals&&(#[]:Array GenState).size==0,(boot_heap w.params).objs.size,(boot_heap w.params).nsMap mainGlobals "__annotations__")=(true,11,kE):=by kernel_rfl
theorem Fb:LeftO pr qv lX sD ip.obs ip.val 15000:=by
 refine Fa (M:=12+(1+(7300+2))) (boot_open D5 M0 D6) Bh (fun w os=>?_) M0;obtain ⟨⟨f,s',c,q⟩,hr,hl⟩:=Lc.mp (BQ w os);have hA:=BY w os;have hF:=BU w os;unfold jk at hA;unfold jj at hF;rw [hr] at hA hF;have hA:=Kj hA;have hF:=Kj hF;have e1:f=.next:=Kq Prod.fst hl;have e2:c=cT:=Kq (fun x=>x.2.1) hl;have e3:q=nI:=Kq (fun x=>x.2.2.1) hl;have l1:=Kq (fun x=>x.2.2.2.1) hl;have l2:=Kq (fun x=>x.2.2.2.2) hl;subst e1 e2 e3;refine ⟨s'.abs,?_,l1,l2,Prod.ext hA hF⟩;have k0:topRun treeTable pr w 11 kE 2 s'.abs (restOf [] oQ cT nI [topFrame gb])=some s'.abs:=piece_nil (mt w _);have k1:=piece_app (segRun_of hr) k0;rw [Kt] at k1;exact go_top (pre w os) (piece_block (Je w os) k1)
noncomputable def oh:DefRec:=match defOf qv "law" with|some (d,_)=>d|none=>⟨"",⟨[],[],none,[],[],none,[]⟩,[],pr.main.scope,gb⟩
noncomputable abbrev yq:Prop:=WalkO qv lX (XL qv []) ip.says PySem.Challenge.rw_rf0002_07.row.toRowW oh [] fun f vs=>PySem.call f vs
theorem K3 (said:PySem.Challenge.rw_rf0002_07.row.wellSaid=true) (hw:PySem.Challenge.rw_rf0002_07.row.toRowW.promised) (walk:yq):PySem.Challenge.rw_rf0002_07.row.Holds:=
 holds_open (q:=qv) (loose:=lX) (Xt:=sD) (XP:=XL qv []) (Yf:=ip.obs) (Ya:=ip.val) (YP:=ip.says) (N:=15000) (d:=oh) (kwd:=[]) Fb ip.of ip.keeps
  (fun s e=>xl_of s (L3.mp e).1) XL.keeps () () () (fun s e=>recFacts_of (L3.mp e).2) (by rfl) said (by decide+kernel) ⟨rfl,rfl,rfl,rfl,rfl,by decide+kernel⟩ hw walk
set_option backward.match.sparseCases false
noncomputable abbrev dI (vs:List Value) (n:Nat):Obj:={ cls:=.type "tuple",data:=.seq vs.toArray n }
noncomputable abbrev bn (vs:List Value) (n:Nat):Obj:={ cls:=.type "list",data:=.seq vs.toArray n }
noncomputable abbrev je (es:List DictEntry) (n:Nat):Obj:={ cls:=.type "dict",data:=.dict es.toArray n }
noncomputable abbrev ZM:=Addr→Option Obj
variable {Z Z' Z₀ :ZM}
structure Wd where
 prog:Program
 w:World
 T:b8
 K:Frag
variable {W :Wd}
noncomputable def po (Z:ZM) (a:Addr) (m:Str→Option Value):Prop:=∃ o es ep,Z a=some o∧o.data=.dict es ep∧StrKeys es∧∀ name,nsFind es name=m name
noncomputable def jq (h:Heap) (a:Addr) (m:Str→Option Value) (k:Nat):Prop:=∃ o es ep,h.get? a=some o∧o.data=.dict es ep∧StrKeys es∧(∀ name,nsFind es name=m name)∧es.size≤k
theorem jq.ns {h:Heap} {a:Addr} {m:Str→Option Value} {k:Nat} (H:jq h a m k):h.Ns a m:=let ⟨o,es,ep,h1,h2,h3,h4,_⟩:=H;⟨o,es,ep,h1,h2,h3,h4⟩
noncomputable def sR {α:Type} (W:Wd) (c:Nat) (fs:List (Nat×α)):Prop:=∀ n x,look fs n=some x→∃ l,look W.T.flds c=some l∧bq l n=true
inductive aa (W:Wd) (Z:ZM):Value→V→Prop where
 |none:aa W Z .none .none
 |bool {b}:aa W Z (.bool b) (.bool b)
 |int {i t}:aa W Z (.int i t) (.int i)
 |sint {i t}:aa W Z (.int i t) (.sint i)
 |str {s t}:s.length≤sizeLine→aa W Z (.str (aq s) t) (.str s)
 |sstr {s t}:s.length≤sizeLine→aa W Z (.str (aq s) t) (.sstr s)
 |stat {a}:aa W Z (.ref a) (.stat a)
 |tup {a n vs l}:Z a=some (dI vs n)→vs.length≤sizeLine→vs.length=l.length→(∀ (i:Nat) (v:Value) (x:V),vs[i]?=some v→l[i]?=some x→aa W Z v x)→aa W Z (.ref a) (.tup l)
 |lst {a n vs l}:Z a=some (bn vs n)→vs.length≤sizeLine→vs.length=l.length→(∀ (i:Nat) (v:Value) (x:V),vs[i]?=some v→l[i]?=some x→aa W Z v x)→aa W Z (.ref a) (.lst l)
 |inst {a d c m fs} (vf:Nat→Value):sR W c fs→Z a=some (instObj c d)→po Z d m→(∀ n x,look fs n=some x→m (W.T.nm n)=some (vf n))→(∀ n x,look fs n=some x→aa W Z (vf n) x)→aa W Z (.ref a) (.inst c fs)
 |dct {a n es l}:Z a=some (je es n)→(a==sysModules)=false→(l.map (·.1)).Nodup→l.length≤1000→es.length=l.length→(∀ (i:Nat) (e:DictEntry) (p:List Nat×V),es[i]?=some e→l[i]?=some p→(∃ t,e.key=.str (aq p.1) t)∧e.hash=hashStr W.w (aq p.1)∧p.1.length≤sizeLine)→
   (∀ (i:Nat) (e:DictEntry) (p:List Nat×V),es[i]?=some e→l[i]?=some p→aa W Z e.val p.2)→aa W Z (.ref a) (.dct l)
 |opq {v x}:aa W Z v x→aa W Z v (.opq x)
noncomputable def bg (W:Wd) (Z:ZM) (ρ:List (Addr×Addr)) (v:Value):X→Prop
 |.v x=>aa W Z v x
 |.r k=>∃ p,ρ[k]?=some p∧v=.ref p.1
 |.m k f=>∃ a p,v=.ref a∧ρ[k]?=some p∧Z a=some (methodObj (.ref f) (.ref p.1))
noncomputable def bM (W:Wd) (Z:ZM) (vs:List Value) (l:List V):Prop:=vs.length≤sizeLine∧vs.length=l.length∧∀ (i:Nat) (v:Value) (x:V),vs[i]?=some v→l[i]?=some x→aa W Z v x
noncomputable def pz (W:Wd) (Z:ZM) (ρ:List (Addr×Addr)) (c:Nat) (m:Str→Option Value) (fs:List (Nat×X)):Prop:=
 sR W c fs∧(∀ n x,look fs n=some x→∃ v,m (W.T.nm n)=some v∧bg W Z ρ v x)∧(∀ name v,m name=some v→∃ n x,look fs n=some x∧W.T.nm n=name)
noncomputable def eK (W:Wd) (h:Heap) (Z:ZM) (ρ:List (Addr×Addr)) (p:Addr×Addr):a8→Prop
 |.ins c fs=>h.get? p.1=some (instObj c p.2)∧∃ m,jq h p.2 m fs.length∧pz W Z ρ c m fs
 |.lst l=>∃ vs n,h.get? p.1=some (bn vs n)∧bM W Z vs l
 |.stk l=>∃ vs n,h.get? p.1=some (bn vs n)∧bM W Z vs l.reverse
 |.strs l=>∃ vs n,h.get? p.1=some (bn vs n)∧bM W Z vs (l.reverse.map .sstr)
 |.bms k l=>∃ vs n,h.get? p.1=some (bn vs n)∧vs.length≤sizeLine∧vs.length=l.length∧∀ (i:Nat) (v:Value) (f:Nat),vs[i]?=some v→l.reverse[i]?=some f→bg W Z ρ v (.m k f)
 |.dead=>True
noncomputable def b9 (p:Addr×Addr):a8→List Addr
 |.ins _ _=>[p.1,p.2]
 |.dead=>[]
 |_=>[p.1]
noncomputable def dh (ρ:List (Addr×Addr)) (hp:List a8) (a:Addr):Prop:=∃ (k:Nat) (p:Addr×Addr) (c:a8),ρ[k]?=some p∧hp[k]?=some c∧a∈b9 p c
structure a9 (W:Wd) (Z:ZM) (ρ:List (Addr×Addr)) (h:Heap) (L:Addr) (m:Str→Option Value) (σ:St):Prop where
 kz:∀ a o,W.K.lookup a=some o→Z a=some o
 zh:∀ a o,Z a=some o→h.get? a=some o
 zL:Z L=none
 ns:h.Ns L m
 loc:∀ n x,look σ.loc n=some x→∃ v,m (W.T.nm n)=some v∧bg W Z ρ v x
 len:ρ.length=σ.heap.length
 cell:∀ (k:Nat) (p:Addr×Addr) (c:a8),ρ[k]?=some p→σ.heap[k]?=some c→eK W h Z ρ p c
 own:∀ a,dh ρ σ.heap a→Z a=none∧a≠L∧a < h.objs.size
 apart:∀ (k k':Nat) (p p':Addr×Addr) (c c':a8) (a:Addr),ρ[k]?=some p→ρ[k']?=some p'→σ.heap[k]?=some c→σ.heap[k']?=some c'→a∈b9 p c→a∈b9 p' c'→k=k'
 two:∀ (k:Nat) (p:Addr×Addr) (c:Nat) (fs:List (Nat×X)),ρ[k]?=some p→σ.heap[k]?=some (.ins c fs)→p.1≠p.2
structure aA (Z:ZM) (ρ:List (Addr×Addr)) (h:Heap) (L:Addr) (hp:List a8) (Z':ZM) (ρ':List (Addr×Addr)) (h':Heap) (hp':List a8):Prop where
 z:∀ a o,Z a=some o→Z' a=some o
 r:∃ e,ρ'=ρ++e
 size:h.objs.size≤h'.objs.size
 keep:∀ b o,h.get? b=some o→¬ dh ρ hp b→b≠L→h'.get? b=some o
 own:∀ a,dh ρ' hp' a→dh ρ hp a∨h.objs.size≤a
 zn:∀ a,Z' a≠none→Z a≠none∨dh ρ hp a∨h.objs.size≤a
noncomputable def Jt (W:Wd) (Z:ZM) (v:Value):V→Prop
 |.none=>v=Value.none
 |.bool b=>v=Value.bool b
 |.int i=>∃ t,v=Value.int i t
 |.sint i=>∃ t,v=Value.int i t
 |.str s=>∃ t,v=Value.str (aq s) t∧s.length≤sizeLine
 |.sstr s=>∃ t,v=Value.str (aq s) t∧s.length≤sizeLine
 |.stat a=>v=Value.ref a
 |.tup l=>∃ a n vs,v=Value.ref a∧Z a=some (dI vs n)∧vs.length≤sizeLine∧vs.length=l.length∧∀ (i:Nat) (v:Value) (x:V),vs[i]?=some v→l[i]?=some x→aa W Z v x
 |.lst l=>∃ a n vs,v=Value.ref a∧Z a=some (bn vs n)∧vs.length≤sizeLine∧vs.length=l.length∧∀ (i:Nat) (v:Value) (x:V),vs[i]?=some v→l[i]?=some x→aa W Z v x
 |.inst c fs=>∃ (a d:Addr) (m:Str→Option Value) (vf:Nat→Value),v=Value.ref a∧sR W c fs∧Z a=some (instObj c d)∧po Z d m∧(∀ n x,look fs n=some x→m (W.T.nm n)=some (vf n))∧(∀ n x,look fs n=some x→aa W Z (vf n) x)
 |.dct l=>∃ a n es,v=Value.ref a∧Z a=some (je es n)∧(a==sysModules)=false∧(l.map (·.1)).Nodup∧l.length≤1000∧es.length=l.length∧(∀ (i:Nat) (e:DictEntry) (p:List Nat×V),es[i]?=some e→l[i]?=some p→(∃ t,e.key=.str (aq p.1) t)∧e.hash=hashStr W.w (aq p.1)∧p.1.length≤sizeLine)∧
   (∀ (i:Nat) (e:DictEntry) (p:List Nat×V),es[i]?=some e→l[i]?=some p→aa W Z e.val p.2)
 |.opq x=>aa W Z v x
theorem aa.inv {v:Value} {x:V} (h:aa W Z v x):Jt W Z v x:=by
 cases h with
 |none=>rfl
 |bool=>rfl
 |int=>exact ⟨_,rfl⟩
 |sint=>exact ⟨_,rfl⟩
 |str b=>exact ⟨_,rfl,b⟩
 |sstr b=>exact ⟨_,rfl,b⟩
 |stat=>rfl
 |tup a b c d=>exact ⟨_,_,_,rfl,a,b,c,d⟩
 |lst a b c d=>exact ⟨_,_,_,rfl,a,b,c,d⟩
 |inst f a b c d e=>exact ⟨_,_,_,f,rfl,a,b,c,d,e⟩
 |dct a b c d e f g=>exact ⟨_,_,_,rfl,a,b,c,d,e,f,g⟩
 |opq h=>exact h
theorem aa.mono {v:Value} {x:V} (hz:∀ a o,Z a=some o→Z' a=some o) (h:aa W Z v x):aa W Z' v x:=by
 induction h with
 |none=>exact .none
 |bool=>exact .bool
 |int=>exact .int
 |sint=>exact .sint
 |str b=>exact .str b
 |sstr b=>exact .sstr b
 |stat=>exact .stat
 |tup a z b _ ih=>exact .tup (hz _ _ a) z b ih
 |lst a z b _ ih=>exact .lst (hz _ _ a) z b ih
 |inst vf f a b c _ ih=>
  obtain ⟨o,es,ep,h1,h2⟩:=b;exact .inst vf f (hz _ _ a) ⟨o,es,ep,hz _ _ h1,h2⟩ c ih
 |dct a z1 z2 z3 b c _ ih=>exact .dct (hz _ _ a) z1 z2 z3 b c ih
 |opq _ ih=>exact .opq ih
theorem bM.mono {vs:List Value} {l:List V} (hz:∀ a o,Z a=some o→Z' a=some o) (h:bM W Z vs l):bM W Z' vs l:=
 ⟨h.1,h.2.1,fun i v x a b=>(h.2.2 i v x a b).mono hz⟩
theorem ga {α:Type} {l e:List α} {k:Nat} {x:α} (h:l[k]?=some x):(l++e)[k]?=some x:=by
 have hk:k < l.length:=by
  rcases Nat.lt_or_ge k l.length with q|q
  ·exact q
  ·rw [List.getElem?_eq_none q] at h;cases h
 rw [List.getElem?_append_left hk];exact h
theorem bg.mono {v:Value} {x:X} (hz:∀ a o,Z a=some o→Z' a=some o) (hr:∃ e,ρ'=ρ++e) (h:bg W Z ρ v x):bg W Z' ρ' v x:=by
 obtain ⟨e,rfl⟩:=hr;cases x with
 |v x=>exact aa.mono hz h
 |r k=>obtain ⟨p,a,b⟩:=h;exact ⟨p,ga a,b⟩
 |m k f=>obtain ⟨a,p,b,c,d⟩:=h;exact ⟨a,p,b,ga c,hz _ _ d⟩
theorem pz.mono {c:Nat} {m:Str→Option Value} {fs:List (Nat×X)} (hz:∀ a o,Z a=some o→Z' a=some o) (hr:∃ e,ρ'=ρ++e) (h:pz W Z ρ c m fs):pz W Z' ρ' c m fs:=
 ⟨h.1,fun n x e=>let ⟨v,a,b⟩:=h.2.1 n x e;⟨v,a,b.mono hz hr⟩,h.2.2⟩
theorem eK.stay {h h':Heap} {p:Addr×Addr} {c:a8} (hz:∀ a o,Z a=some o→Z' a=some o) (hr:∃ e,ρ'=ρ++e)
  (hk:∀ a o,a∈b9 p c→h.get? a=some o→h'.get? a=some o) (H:eK W h Z ρ p c):eK W h' Z' ρ' p c:=by
 cases c with
 |ins c fs=>
  obtain ⟨a,m,b,f⟩:=H;obtain ⟨o,es,ep,h1,h2⟩:=b;exact ⟨hk _ _ (by simp [b9]) a,m,⟨o,es,ep,hk _ _ (by simp [b9]) h1,h2⟩,f.mono hz hr⟩
 |lst l=>obtain ⟨vs,n,a,b⟩:=H;exact ⟨vs,n,hk _ _ (by simp [b9]) a,b.mono hz⟩
 |stk l=>obtain ⟨vs,n,a,b⟩:=H;exact ⟨vs,n,hk _ _ (by simp [b9]) a,b.mono hz⟩
 |«strs» l=>obtain ⟨vs,n,a,b⟩:=H;exact ⟨vs,n,hk _ _ (by simp [b9]) a,b.mono hz⟩
 |bms k l=>obtain ⟨vs,n,a,z,b,c⟩:=H;exact ⟨vs,n,hk _ _ (by simp [b9]) a,z,b,fun i v f x y=>(c i v f x y).mono hz hr⟩
 |dead=>trivial
theorem aA.refl {h:Heap} {L:Addr}:aA Z ρ h L hp Z ρ h hp:=
 ⟨fun _ _ e=>e,⟨[],(Kt _).symm⟩,br _,fun _ _ e _ _=>e,fun _ e=>.inl e,fun _ e=>.inl e⟩
theorem aA.trans {Z₁ Z₂ Z₃:ZM} {ρ₁ ρ₂ ρ₃:List (Addr×Addr)} {h₂ h₃ :Heap} {L:Addr} {c₁ c₂ c₃:List a8} (a:aA Z₁ ρ₁ h₁ L c₁ Z₂ ρ₂ h₂ c₂) (b:aA Z₂ ρ₂ h₂ L c₂ Z₃ ρ₃ h₃ c₃):aA Z₁ ρ₁ h₁ L c₁ Z₃ ρ₃ h₃ c₃ where
 z:=fun x o e=>b.z x o (a.z x o e)
 r:=by obtain ⟨e,rfl⟩:=a.r;obtain ⟨f,rfl⟩:=b.r;exact ⟨e++f,Kw ..⟩
 size:=Kl a.size b.size
 keep:=fun x o e n l=>b.keep x o (a.keep x o e n l) (fun q=>(a.own x q).elim n fun z=>absurd (KO e) (KY.mpr z)) l
 own:=fun x q=>(b.own x q).elim (a.own x) fun z=>.inr (Kl a.size z)
 zn:=fun x q=>(b.zn x q).elim (a.zn x) fun z=>z.elim (fun z=>(a.own x z).elim (fun y=>.inr (.inl y)) fun y=>.inr (.inr y)) fun z=>.inr (.inr (Kl a.size z))
theorem a9.grow {h h':Heap} {L:Addr} {m:Str→Option Value} (R:a9 W Z ρ h L m σ) (hk:∀ b o,h.get? b=some o→h'.get? b=some o) (hs:h.objs.size≤h'.objs.size):a9 W Z ρ h' L m σ where
 kz:=R.kz
 zh:=fun a o e=>hk _ _ (R.zh a o e)
 zL:=R.zL
 ns:=R.ns.keeps hk
 loc:=R.loc
 len:=R.len
 cell:=fun k p c a b=>(R.cell k p c a b).stay (fun _ _ e=>e) ⟨[],(Kt _).symm⟩ fun a o _ e=>hk a o e
 own:=fun a q=>let ⟨x,y,z⟩:=R.own a q;⟨x,y,KI z hs⟩
 apart:=R.apart
 two:=R.two
theorem aA.grow {h h':Heap} {L:Addr} (hk:∀ b o,h.get? b=some o→h'.get? b=some o) (hs:h.objs.size≤h'.objs.size):aA Z ρ h L hp Z ρ h' hp:=
 ⟨fun _ _ e=>e,⟨[],(Kt _).symm⟩,hs,fun b o e _ _=>hk b o e,fun _ e=>.inl e,fun _ e=>.inl e⟩
noncomputable def addZ (Z:ZM) (a:Addr) (o:Obj):ZM:=fun b=>if b=a then some o else Z b
theorem iB {a:Addr} {o:Obj} (hn:Z a=none):∀ b x,Z b=some x→addZ Z a o b=some x:=fun b x e=>by
 unfold addZ
 by_cases q:b=a
 ·subst q;rw [hn] at e;cases e
 ·rw [Kp q];exact e
theorem a9.fresh {h:Heap} {L:Addr} {m:Str→Option Value} (R:a9 W Z ρ h L m σ):Z h.objs.size=none:=by
 cases q:Z h.objs.size with
 |none=>rfl
 |some o=>exact absurd (KO (R.zh _ _ q)) (KS _)
theorem a9.addZ {h:Heap} {L:Addr} {m:Str→Option Value} (R:a9 W Z ρ h L m σ) (o:Obj) (hf:o.isFreed=false):a9 W (addZ Z h.objs.size o) ρ (h.push o) L m σ:=by
 have hz:=iB (o:=o) R.fresh;have hk:∀ b x,h.get? b=some x→(h.push o).get? b=some x:=fun b x e=>Heap.get?_push_of_some _ e;have R':=R.grow (h':=h.push o) hk (by rw [Kz];exact KJ _);have hL:=R.ns.lt;refine ⟨fun a x e=>hz _ _ (R.kz a x e),fun a x e=>?_,?_,R'.ns,fun n x e=>?_,R.len,fun k p c a b=>(R'.cell k p c a b).stay hz ⟨[],(Kt _).symm⟩ fun _ _ _ e=>e,fun a q=>?_,R.apart,R.two⟩
 ·unfold Mine.addZ at e
  by_cases q:a=h.objs.size
  ·subst q;rw [Ks rfl] at e;cases e;exact Heap.get?_push_size _ hf
  ·rw [Kp q] at e;exact R'.zh a x e
 ·unfold Mine.addZ;rw [Kp (KW hL)];exact R.zL
 ·obtain ⟨v,a,b⟩:=R.loc n x e;exact ⟨v,a,b.mono hz ⟨[],(Kt _).symm⟩⟩
 ·obtain ⟨x,y,z⟩:=R.own a q;refine ⟨?_,y,(R'.own a q).2.2⟩;unfold Mine.addZ;rw [Kp (KW z)];exact x
theorem aA.addZ {h:Heap} {L:Addr} (o:Obj) (hn:Z h.objs.size=none):aA Z ρ h L hp (addZ Z h.objs.size o) ρ (h.push o) hp:=
 ⟨iB hn,⟨[],(Kt _).symm⟩,by rw [Kz];exact KJ _,fun b x e _ _=>Heap.get?_push_of_some _ e,fun _ e=>.inl e,fun a q=>by
  unfold Mine.addZ at q
  by_cases e:a=h.objs.size
  ·clear q;subst e;exact .inr (.inr (br _))
  ·rw [Kp e] at q;exact .inl q⟩
@[elab_as_elim] theorem aU.{u} {α:Sort u} {motive:α→Prop} {a b:α} (e:a=b) (h:motive b):motive a:=e.symm▸h
@[elab_as_elim] theorem aT.{u} {α:Sort u} {motive:α→Prop} {a b:α} (e:a=b) (h:motive a):motive b:=e▸h
@[elab_as_elim] theorem dG {motive:Prop→Prop} {a b:Prop} (e:a↔b) (h:motive b):motive a:=(propext e).symm▸h
local macro_rules
 | `(tactic| change $e) => `(tactic| refine aU ($e ..) ?_)
theorem aw {p0 p1:Prop} {P:Prop} (h:p0∧p1) (k:p0→p1→P):P:=by
 obtain ⟨h0,h1⟩:=h;exact k h0 h1
theorem ay.{u0} {A0:Sort u0} {p0:A0→Prop} {P:Prop} (h:∃ x0,p0 x0) (k:∀ x0,p0 x0→P):P:=by
 obtain ⟨x0,h0⟩:=h;exact k x0 h0
theorem bb {p0 p1 p2:Prop} {P:Prop} (h:p0∧p1∧p2) (k:p0→p1→p2→P):P:=by
 obtain ⟨h0,h1,h2⟩:=h;exact k h0 h1 h2
theorem am.{u0} {A0:Sort u0} {p0 p1:A0→Prop} {P:Prop} (h:∃ x0,p0 x0∧p1 x0) (k:∀ x0,p0 x0→p1 x0→P):P:=by
 obtain ⟨x0,h0,h1⟩:=h;exact k x0 h0 h1
theorem d6.{u0,u1} {A0:Sort u0} {A1:Sort u1} {p0:A0→A1→Prop} {P:Prop} (h:∃ x0,∃ x1,p0 x0 x1) (k:∀ x0 x1,p0 x0 x1→P):P:=by
 obtain ⟨x0,x1,h0⟩:=h;exact k x0 x1 h0
theorem jc {p0 p1 p2 p3:Prop} {P:Prop} (h:p0∧p1∧p2∧p3) (k:p0→p1→p2→p3→P):P:=by
 obtain ⟨h0,h1,h2,h3⟩:=h;exact k h0 h1 h2 h3
theorem dy.{u0} {A0:Sort u0} {p0 p1 p2:A0→Prop} {P:Prop} (h:∃ x0,p0 x0∧p1 x0∧p2 x0) (k:∀ x0,p0 x0→p1 x0→p2 x0→P):P:=by
 obtain ⟨x0,h0,h1,h2⟩:=h;exact k x0 h0 h1 h2
theorem aN.{u0,u1} {A0:Sort u0} {A1:Sort u1} {p0 p1:A0→A1→Prop} {P:Prop} (h:∃ x0,∃ x1,p0 x0 x1∧p1 x0 x1) (k:∀ x0 x1,p0 x0 x1→p1 x0 x1→P):P:=by
 obtain ⟨x0,x1,h0,h1⟩:=h;exact k x0 x1 h0 h1
theorem oR.{u0,u1,u2} {A0:Sort u0} {A1:Sort u1} {A2:Sort u2} {p0:A0→A1→A2→Prop} {P:Prop} (h:∃ x0,∃ x1,∃ x2,p0 x0 x1 x2) (k:∀ x0 x1 x2,p0 x0 x1 x2→P):P:=by
 obtain ⟨x0,x1,x2,h0⟩:=h;exact k x0 x1 x2 h0
theorem Kc {p0 p1 p2 p3 p4:Prop} {P:Prop} (h:p0∧p1∧p2∧p3∧p4) (k:p0→p1→p2→p3→p4→P):P:=by
 obtain ⟨h0,h1,h2,h3,h4⟩:=h;exact k h0 h1 h2 h3 h4
theorem km.{u0} {A0:Sort u0} {p0 p1 p2 p3:A0→Prop} {P:Prop} (h:∃ x0,p0 x0∧p1 x0∧p2 x0∧p3 x0) (k:∀ x0,p0 x0→p1 x0→p2 x0→p3 x0→P):P:=by
 obtain ⟨x0,h0,h1,h2,h3⟩:=h;exact k x0 h0 h1 h2 h3
theorem be.{u0,u1} {A0:Sort u0} {A1:Sort u1} {p0 p1 p2:A0→A1→Prop} {P:Prop} (h:∃ x0,∃ x1,p0 x0 x1∧p1 x0 x1∧p2 x0 x1) (k:∀ x0 x1,p0 x0 x1→p1 x0 x1→p2 x0 x1→P):P:=by
 obtain ⟨x0,x1,h0,h1,h2⟩:=h;exact k x0 x1 h0 h1 h2
theorem jb.{u0,u1,u2} {A0:Sort u0} {A1:Sort u1} {A2:Sort u2} {p0 p1:A0→A1→A2→Prop} {P:Prop} (h:∃ x0,∃ x1,∃ x2,p0 x0 x1 x2∧p1 x0 x1 x2) (k:∀ x0 x1 x2,p0 x0 x1 x2→p1 x0 x1 x2→P):P:=by
 obtain ⟨x0,x1,x2,h0,h1⟩:=h;exact k x0 x1 x2 h0 h1
theorem K7.{u0,u1,u2,u3} {A0:Sort u0} {A1:Sort u1} {A2:Sort u2} {A3:Sort u3} {p0:A0→A1→A2→A3→Prop} {P:Prop} (h:∃ x0,∃ x1,∃ x2,∃ x3,p0 x0 x1 x2 x3) (k:∀ x0 x1 x2 x3,p0 x0 x1 x2 x3→P):P:=by
 obtain ⟨x0,x1,x2,x3,h0⟩:=h;exact k x0 x1 x2 x3 h0
theorem xr {p0 p1 p2 p3 p4 p5:Prop} {P:Prop} (h:p0∧p1∧p2∧p3∧p4∧p5) (k:p0→p1→p2→p3→p4→p5→P):P:=by
 obtain ⟨h0,h1,h2,h3,h4,h5⟩:=h;exact k h0 h1 h2 h3 h4 h5
theorem s8.{u0} {A0:Sort u0} {p0 p1 p2 p3 p4:A0→Prop} {P:Prop} (h:∃ x0,p0 x0∧p1 x0∧p2 x0∧p3 x0∧p4 x0) (k:∀ x0,p0 x0→p1 x0→p2 x0→p3 x0→p4 x0→P):P:=by
 obtain ⟨x0,h0,h1,h2,h3,h4⟩:=h;exact k x0 h0 h1 h2 h3 h4
theorem cv.{u0,u1} {A0:Sort u0} {A1:Sort u1} {p0 p1 p2 p3:A0→A1→Prop} {P:Prop} (h:∃ x0,∃ x1,p0 x0 x1∧p1 x0 x1∧p2 x0 x1∧p3 x0 x1) (k:∀ x0 x1,p0 x0 x1→p1 x0 x1→p2 x0 x1→p3 x0 x1→P):P:=by
 obtain ⟨x0,x1,h0,h1,h2,h3⟩:=h;exact k x0 x1 h0 h1 h2 h3
theorem cJ.{u0,u1,u2} {A0:Sort u0} {A1:Sort u1} {A2:Sort u2} {p0 p1 p2:A0→A1→A2→Prop} {P:Prop} (h:∃ x0,∃ x1,∃ x2,p0 x0 x1 x2∧p1 x0 x1 x2∧p2 x0 x1 x2) (k:∀ x0 x1 x2,p0 x0 x1 x2→p1 x0 x1 x2→p2 x0 x1 x2→P):P:=by
 obtain ⟨x0,x1,x2,h0,h1,h2⟩:=h;exact k x0 x1 x2 h0 h1 h2
theorem K6.{u0,u1,u2,u3} {A0:Sort u0} {A1:Sort u1} {A2:Sort u2} {A3:Sort u3} {p0 p1:A0→A1→A2→A3→Prop} {P:Prop} (h:∃ x0,∃ x1,∃ x2,∃ x3,p0 x0 x1 x2 x3∧p1 x0 x1 x2 x3) (k:∀ x0 x1 x2 x3,p0 x0 x1 x2 x3→p1 x0 x1 x2 x3→P):P:=by
 obtain ⟨x0,x1,x2,x3,h0,h1⟩:=h;exact k x0 x1 x2 x3 h0 h1
theorem Kb {p0 p1 p2 p3 p4 p5 p6:Prop} {P:Prop} (h:p0∧p1∧p2∧p3∧p4∧p5∧p6) (k:p0→p1→p2→p3→p4→p5→p6→P):P:=by
 obtain ⟨h0,h1,h2,h3,h4,h5,h6⟩:=h;exact k h0 h1 h2 h3 h4 h5 h6
theorem Ka.{u0} {A0:Sort u0} {p0 p1 p2 p3 p4 p5:A0→Prop} {P:Prop} (h:∃ x0,p0 x0∧p1 x0∧p2 x0∧p3 x0∧p4 x0∧p5 x0) (k:∀ x0,p0 x0→p1 x0→p2 x0→p3 x0→p4 x0→p5 x0→P):P:=by
 obtain ⟨x0,h0,h1,h2,h3,h4,h5⟩:=h;exact k x0 h0 h1 h2 h3 h4 h5
theorem Ik.{u0,u1} {A0:Sort u0} {A1:Sort u1} {p0 p1 p2 p3 p4:A0→A1→Prop} {P:Prop} (h:∃ x0,∃ x1,p0 x0 x1∧p1 x0 x1∧p2 x0 x1∧p3 x0 x1∧p4 x0 x1) (k:∀ x0 x1,p0 x0 x1→p1 x0 x1→p2 x0 x1→p3 x0 x1→p4 x0 x1→P):P:=by
 obtain ⟨x0,x1,h0,h1,h2,h3,h4⟩:=h;exact k x0 x1 h0 h1 h2 h3 h4
theorem s7.{u0,u1,u2} {A0:Sort u0} {A1:Sort u1} {A2:Sort u2} {p0 p1 p2 p3:A0→A1→A2→Prop} {P:Prop} (h:∃ x0,∃ x1,∃ x2,p0 x0 x1 x2∧p1 x0 x1 x2∧p2 x0 x1 x2∧p3 x0 x1 x2) (k:∀ x0 x1 x2,p0 x0 x1 x2→p1 x0 x1 x2→p2 x0 x1 x2→p3 x0 x1 x2→P):P:=by
 obtain ⟨x0,x1,x2,h0,h1,h2,h3⟩:=h;exact k x0 x1 x2 h0 h1 h2 h3
theorem kl.{u0,u1,u2,u3} {A0:Sort u0} {A1:Sort u1} {A2:Sort u2} {A3:Sort u3} {p0 p1 p2:A0→A1→A2→A3→Prop} {P:Prop} (h:∃ x0,∃ x1,∃ x2,∃ x3,p0 x0 x1 x2 x3∧p1 x0 x1 x2 x3∧p2 x0 x1 x2 x3) (k:∀ x0 x1 x2 x3,p0 x0 x1 x2 x3→p1 x0 x1 x2 x3→p2 x0 x1 x2 x3→P):P:=by
 obtain ⟨x0,x1,x2,x3,h0,h1,h2⟩:=h;exact k x0 x1 x2 x3 h0 h1 h2
theorem K9.{u0} {A0:Sort u0} {p0 p1 p2 p3 p4 p5 p6:A0→Prop} {P:Prop} (h:∃ x0,p0 x0∧p1 x0∧p2 x0∧p3 x0∧p4 x0∧p5 x0∧p6 x0) (k:∀ x0,p0 x0→p1 x0→p2 x0→p3 x0→p4 x0→p5 x0→p6 x0→P):P:=by
 obtain ⟨x0,h0,h1,h2,h3,h4,h5,h6⟩:=h;exact k x0 h0 h1 h2 h3 h4 h5 h6
theorem K8.{u0,u1} {A0:Sort u0} {A1:Sort u1} {p0 p1 p2 p3 p4 p5:A0→A1→Prop} {P:Prop} (h:∃ x0,∃ x1,p0 x0 x1∧p1 x0 x1∧p2 x0 x1∧p3 x0 x1∧p4 x0 x1∧p5 x0 x1) (k:∀ x0 x1,p0 x0 x1→p1 x0 x1→p2 x0 x1→p3 x0 x1→p4 x0 x1→p5 x0 x1→P):P:=by
 obtain ⟨x0,x1,h0,h1,h2,h3,h4,h5⟩:=h;exact k x0 x1 h0 h1 h2 h3 h4 h5
theorem dp.{u0,u1,u2} {A0:Sort u0} {A1:Sort u1} {A2:Sort u2} {p0 p1 p2 p3 p4:A0→A1→A2→Prop} {P:Prop} (h:∃ x0,∃ x1,∃ x2,p0 x0 x1 x2∧p1 x0 x1 x2∧p2 x0 x1 x2∧p3 x0 x1 x2∧p4 x0 x1 x2) (k:∀ x0 x1 x2,p0 x0 x1 x2→p1 x0 x1 x2→p2 x0 x1 x2→p3 x0 x1 x2→p4 x0 x1 x2→P):P:=by
 obtain ⟨x0,x1,x2,h0,h1,h2,h3,h4⟩:=h;exact k x0 x1 x2 h0 h1 h2 h3 h4
theorem fu.{u0,u1,u2,u3} {A0:Sort u0} {A1:Sort u1} {A2:Sort u2} {A3:Sort u3} {p0 p1 p2 p3:A0→A1→A2→A3→Prop} {P:Prop} (h:∃ x0,∃ x1,∃ x2,∃ x3,p0 x0 x1 x2 x3∧p1 x0 x1 x2 x3∧p2 x0 x1 x2 x3∧p3 x0 x1 x2 x3) (k:∀ x0 x1 x2 x3,p0 x0 x1 x2 x3→p1 x0 x1 x2 x3→p2 x0 x1 x2 x3→p3 x0 x1 x2 x3→P):P:=by
 obtain ⟨x0,x1,x2,x3,h0,h1,h2,h3⟩:=h;exact k x0 x1 x2 x3 h0 h1 h2 h3
@[elab_as_elim] theorem aV.{u} {α:Type u} {motive:Option α→Prop} (x:Option α) (n:motive none) (k:∀ w,x=some w→motive (some w)):motive x:=match x,k with
 |none,_=>n
 |some w,k=>k w rfl
@[elab_as_elim] theorem d8 {motive:Bool→Prop} (x:Bool) (n:x=false→motive false) (k:x=true→motive true):motive x:=match x,n,k with
 |false,n,_=>n rfl
 |true,_,k=>k rfl
theorem cps {P:Prop} (h:∀ G:Prop,(P→G)→G):P:=h P id
theorem gE {α:Type} {m:Sem α} {Q:α→Shared→Prop} {E₀:Value→Shared→Prop} {s:Shared} (h:∀ E,wpAny M A m Q E s):wpAny M A m Q E₀ s:=h E₀
theorem gQ {α:Type} {m:Sem α} {Q₀:α→Shared→Prop} {E:Value→Shared→Prop} {s:Shared} (h:∀ Q,(∀ x s,Q₀ x s→Q x s)→wpAny M A m Q E s):wpAny M A m Q₀ E s:=h Q₀ fun _ _ h=>h
theorem af {α β:Type} {a c:α} {b d:β} (h:some (a,b)=some (c,d)):a=c∧b=d:=Prod.mk.inj (Kj h)
theorem dn {a k n:Nat} (h:a+k≤n) (j:Nat) (l:j≤k:=by decide):a+j≤n:=Kl (LH l a) h
theorem dz {a k n:Nat} (h:a+k≤n):a≤n:=Kl (KT a k) h
theorem dl {a k n:Nat} (h:a+k≤n) (l:1≤k:=by decide):a < n:=Kl (LH l a) h
theorem ba.{u0} {A0:Sort u0} {p0:A0→Prop} (x0:A0) (h0:p0 x0):∃ x0,p0 x0:=⟨x0,h0⟩
theorem b7 {p0 p1 p2:Prop} (h0:p0) (h1:p1) (h2:p2):p0∧p1∧p2:=⟨h0,h1,h2⟩
theorem aF.{u0} {A0:Sort u0} {p0 p1:A0→Prop} (x0:A0) (h0:p0 x0) (h1:p1 x0):∃ x0,p0 x0∧p1 x0:=⟨x0,h0,h1⟩
theorem gR.{u0,u1} {A0:Sort u0} {A1:Sort u1} {p0:A0→A1→Prop} (x0:A0) (x1:A1) (h0:p0 x0 x1):∃ x0,∃ x1,p0 x0 x1:=⟨x0,x1,h0⟩
theorem wH {p0 p1 p2 p3:Prop} (h0:p0) (h1:p1) (h2:p2) (h3:p3):p0∧p1∧p2∧p3:=⟨h0,h1,h2,h3⟩
theorem eT.{u0} {A0:Sort u0} {p0 p1 p2:A0→Prop} (x0:A0) (h0:p0 x0) (h1:p1 x0) (h2:p2 x0):∃ x0,p0 x0∧p1 x0∧p2 x0:=⟨x0,h0,h1,h2⟩
theorem bI.{u0,u1} {A0:Sort u0} {A1:Sort u1} {p0 p1:A0→A1→Prop} (x0:A0) (x1:A1) (h0:p0 x0 x1) (h1:p1 x0 x1):∃ x0,∃ x1,p0 x0 x1∧p1 x0 x1:=⟨x0,x1,h0,h1⟩
theorem JY.{u0,u1,u2} {A0:Sort u0} {A1:Sort u1} {A2:Sort u2} {p0:A0→A1→A2→Prop} (x0:A0) (x1:A1) (x2:A2) (h0:p0 x0 x1 x2):∃ x0,∃ x1,∃ x2,p0 x0 x1 x2:=⟨x0,x1,x2,h0⟩
theorem FT {p0 p1 p2 p3 p4:Prop} (h0:p0) (h1:p1) (h2:p2) (h3:p3) (h4:p4):p0∧p1∧p2∧p3∧p4:=⟨h0,h1,h2,h3,h4⟩
theorem jY.{u0} {A0:Sort u0} {p0 p1 p2 p3:A0→Prop} (x0:A0) (h0:p0 x0) (h1:p1 x0) (h2:p2 x0) (h3:p3 x0):∃ x0,p0 x0∧p1 x0∧p2 x0∧p3 x0:=⟨x0,h0,h1,h2,h3⟩
theorem cP.{u0,u1} {A0:Sort u0} {A1:Sort u1} {p0 p1 p2:A0→A1→Prop} (x0:A0) (x1:A1) (h0:p0 x0 x1) (h1:p1 x0 x1) (h2:p2 x0 x1):∃ x0,∃ x1,p0 x0 x1∧p1 x0 x1∧p2 x0 x1:=⟨x0,x1,h0,h1,h2⟩
theorem jX.{u0,u1,u2} {A0:Sort u0} {A1:Sort u1} {A2:Sort u2} {p0 p1:A0→A1→A2→Prop} (x0:A0) (x1:A1) (x2:A2) (h0:p0 x0 x1 x2) (h1:p1 x0 x1 x2):∃ x0,∃ x1,∃ x2,p0 x0 x1 x2∧p1 x0 x1 x2:=⟨x0,x1,x2,h0,h1⟩
theorem JX.{u0,u1,u2,u3} {A0:Sort u0} {A1:Sort u1} {A2:Sort u2} {A3:Sort u3} {p0:A0→A1→A2→A3→Prop} (x0:A0) (x1:A1) (x2:A2) (x3:A3) (h0:p0 x0 x1 x2 x3):∃ x0,∃ x1,∃ x2,∃ x3,p0 x0 x1 x2 x3:=⟨x0,x1,x2,x3,h0⟩
theorem FS {p0 p1 p2 p3 p4 p5:Prop} (h0:p0) (h1:p1) (h2:p2) (h3:p3) (h4:p4) (h5:p5):p0∧p1∧p2∧p3∧p4∧p5:=⟨h0,h1,h2,h3,h4,h5⟩
theorem ow.{u0} {A0:Sort u0} {p0 p1 p2 p3 p4:A0→Prop} (x0:A0) (h0:p0 x0) (h1:p1 x0) (h2:p2 x0) (h3:p3 x0) (h4:p4 x0):∃ x0,p0 x0∧p1 x0∧p2 x0∧p3 x0∧p4 x0:=⟨x0,h0,h1,h2,h3,h4⟩
theorem fj.{u0,u1} {A0:Sort u0} {A1:Sort u1} {p0 p1 p2 p3:A0→A1→Prop} (x0:A0) (x1:A1) (h0:p0 x0 x1) (h1:p1 x0 x1) (h2:p2 x0 x1) (h3:p3 x0 x1):∃ x0,∃ x1,p0 x0 x1∧p1 x0 x1∧p2 x0 x1∧p3 x0 x1:=⟨x0,x1,h0,h1,h2,h3⟩
theorem gP.{u0,u1,u2} {A0:Sort u0} {A1:Sort u1} {A2:Sort u2} {p0 p1 p2:A0→A1→A2→Prop} (x0:A0) (x1:A1) (x2:A2) (h0:p0 x0 x1 x2) (h1:p1 x0 x1 x2) (h2:p2 x0 x1 x2):∃ x0,∃ x1,∃ x2,p0 x0 x1 x2∧p1 x0 x1 x2∧p2 x0 x1 x2:=⟨x0,x1,x2,h0,h1,h2⟩
theorem JW.{u0,u1,u2,u3} {A0:Sort u0} {A1:Sort u1} {A2:Sort u2} {A3:Sort u3} {p0 p1:A0→A1→A2→A3→Prop} (x0:A0) (x1:A1) (x2:A2) (x3:A3) (h0:p0 x0 x1 x2 x3) (h1:p1 x0 x1 x2 x3):∃ x0,∃ x1,∃ x2,∃ x3,p0 x0 x1 x2 x3∧p1 x0 x1 x2 x3:=⟨x0,x1,x2,x3,h0,h1⟩
theorem K2 {p0 p1 p2 p3 p4 p5 p6:Prop} (h0:p0) (h1:p1) (h2:p2) (h3:p3) (h4:p4) (h5:p5) (h6:p6):p0∧p1∧p2∧p3∧p4∧p5∧p6:=⟨h0,h1,h2,h3,h4,h5,h6⟩
theorem K1.{u0} {A0:Sort u0} {p0 p1 p2 p3 p4 p5:A0→Prop} (x0:A0) (h0:p0 x0) (h1:p1 x0) (h2:p2 x0) (h3:p3 x0) (h4:p4 x0) (h5:p5 x0):∃ x0,p0 x0∧p1 x0∧p2 x0∧p3 x0∧p4 x0∧p5 x0:=⟨x0,h0,h1,h2,h3,h4,h5⟩
theorem FR.{u0,u1} {A0:Sort u0} {A1:Sort u1} {p0 p1 p2 p3 p4:A0→A1→Prop} (x0:A0) (x1:A1) (h0:p0 x0 x1) (h1:p1 x0 x1) (h2:p2 x0 x1) (h3:p3 x0 x1) (h4:p4 x0 x1):∃ x0,∃ x1,p0 x0 x1∧p1 x0 x1∧p2 x0 x1∧p3 x0 x1∧p4 x0 x1:=⟨x0,x1,h0,h1,h2,h3,h4⟩
theorem FQ.{u0,u1,u2} {A0:Sort u0} {A1:Sort u1} {A2:Sort u2} {p0 p1 p2 p3:A0→A1→A2→Prop} (x0:A0) (x1:A1) (x2:A2) (h0:p0 x0 x1 x2) (h1:p1 x0 x1 x2) (h2:p2 x0 x1 x2) (h3:p3 x0 x1 x2):∃ x0,∃ x1,∃ x2,p0 x0 x1 x2∧p1 x0 x1 x2∧p2 x0 x1 x2∧p3 x0 x1 x2:=⟨x0,x1,x2,h0,h1,h2,h3⟩
theorem FO.{u0,u1,u2,u3} {A0:Sort u0} {A1:Sort u1} {A2:Sort u2} {A3:Sort u3} {p0 p1 p2:A0→A1→A2→A3→Prop} (x0:A0) (x1:A1) (x2:A2) (x3:A3) (h0:p0 x0 x1 x2 x3) (h1:p1 x0 x1 x2 x3) (h2:p2 x0 x1 x2 x3):∃ x0,∃ x1,∃ x2,∃ x3,p0 x0 x1 x2 x3∧p1 x0 x1 x2 x3∧p2 x0 x1 x2 x3:=⟨x0,x1,x2,x3,h0,h1,h2⟩
theorem K0.{u0} {A0:Sort u0} {p0 p1 p2 p3 p4 p5 p6:A0→Prop} (x0:A0) (h0:p0 x0) (h1:p1 x0) (h2:p2 x0) (h3:p3 x0) (h4:p4 x0) (h5:p5 x0) (h6:p6 x0):∃ x0,p0 x0∧p1 x0∧p2 x0∧p3 x0∧p4 x0∧p5 x0∧p6 x0:=⟨x0,h0,h1,h2,h3,h4,h5,h6⟩
theorem JZ.{u0,u1} {A0:Sort u0} {A1:Sort u1} {p0 p1 p2 p3 p4 p5:A0→A1→Prop} (x0:A0) (x1:A1) (h0:p0 x0 x1) (h1:p1 x0 x1) (h2:p2 x0 x1) (h3:p3 x0 x1) (h4:p4 x0 x1) (h5:p5 x0 x1):∃ x0,∃ x1,p0 x0 x1∧p1 x0 x1∧p2 x0 x1∧p3 x0 x1∧p4 x0 x1∧p5 x0 x1:=⟨x0,x1,h0,h1,h2,h3,h4,h5⟩
theorem jW.{u0,u1,u2} {A0:Sort u0} {A1:Sort u1} {A2:Sort u2} {p0 p1 p2 p3 p4:A0→A1→A2→Prop} (x0:A0) (x1:A1) (x2:A2) (h0:p0 x0 x1 x2) (h1:p1 x0 x1 x2) (h2:p2 x0 x1 x2) (h3:p3 x0 x1 x2) (h4:p4 x0 x1 x2):∃ x0,∃ x1,∃ x2,p0 x0 x1 x2∧p1 x0 x1 x2∧p2 x0 x1 x2∧p3 x0 x1 x2∧p4 x0 x1 x2:=⟨x0,x1,x2,h0,h1,h2,h3,h4⟩
theorem JV.{u0,u1,u2,u3} {A0:Sort u0} {A1:Sort u1} {A2:Sort u2} {A3:Sort u3} {p0 p1 p2 p3:A0→A1→A2→A3→Prop} (x0:A0) (x1:A1) (x2:A2) (x3:A3) (h0:p0 x0 x1 x2 x3) (h1:p1 x0 x1 x2 x3) (h2:p2 x0 x1 x2 x3) (h3:p3 x0 x1 x2 x3):∃ x0,∃ x1,∃ x2,∃ x3,p0 x0 x1 x2 x3∧p1 x0 x1 x2 x3∧p2 x0 x1 x2 x3∧p3 x0 x1 x2 x3:=⟨x0,x1,x2,x3,h0,h1,h2,h3⟩
set_option tactic.hygienic false
theorem cS {a b:Nat}:Nat.beq a b=true↔a=b:=⟨KA,fun h=>by subst h;exact Nat.beq_refl a⟩
theorem iz {a b:Nat}:Nat.beq a b=false↔a≠b:=⟨Nat.ne_of_beq_eq_false,fun h=>by induction q:Nat.beq a b using Bool.casesOn with|false=>rfl|true=>exact absurd (cS.mp q) h⟩
theorem gg {α:Type} (l:List (Nat×α)) (k:Nat) (v:α) (j:Nat):look (put l k v) j=if k=j then some v else look l j:=by
 induction l with
 |nil=>
  dsimp only [put,look];induction q:Nat.beq k j using Bool.casesOn with
  |true=>(change Ks (cS.mp q);with_reducible rfl)
  |false=>change Kp (iz.mp q);rfl
 |cons p r ih=>
  unfold put;induction q:Nat.beq p.1 k using Bool.casesOn with
  |true=>
   have e:=cS.mp q;dsimp only;unfold look;dsimp only;induction z:Nat.beq k j using Bool.casesOn with
   |true=>(change Ks (cS.mp z);with_reducible rfl)
   |false=>(change Kp (iz.mp z);change e;change z;with_reducible rfl)
  |false=>
   dsimp only;unfold look;change ih;induction z:Nat.beq p.1 j using Bool.casesOn with
   |true=>
    have e:=cS.mp z;have hne:¬ k=j:=fun h=>iz.mp q (e.trans h.symm);simp only [hne,if_false]
   |false=>rfl
theorem iQ {α:Type}:∀ (l:List α) (k:Nat),bB l k=l[k]?
 |[],_=>rfl
 |_::_,0=>rfl
 |_::r,k+1=>iQ r k
theorem iL {α:Type}:∀ (l:List α) (k:Nat) (x:α),eN l k x=l.set k x
 |[],_,_=>rfl
 |_::_,0,_=>rfl
 |a::r,k+1,x=>Kq (a::·) (iL r k x)
theorem jz {α:Type} {l:List α} {k:Nat} {c:α} (x:α) (hc:l[k]?=some c) (j:Nat):(l.set k x)[j]?=if j=k then some x else l[j]?:=by
 have hk:k < l.length:=by
  rcases Nat.lt_or_ge k l.length with q|q
  ·exact q
  ·rw [List.getElem?_eq_none q] at hc;exact a0 hc
 by_cases e:j=k
 ·clear hc;subst e;(change Ks rfl;change List.getElem?_set_self hk;with_reducible rfl)
 ·(change Kp e;change List.getElem?_set_ne (fun h=>e h.symm);with_reducible rfl)
section
variable {W:Wd} {Z:ZM} {ρ:List (Addr×Addr)} {h h':Heap} {L:Addr} {m m':Str→Option Value} {σ:St}
theorem qN {k:Nat} {p:Addr×Addr} {c :a8} (hk:ρ[k]?=some p) (hc:σ.heap[k]?=some c) (hadr:∀ a,a∈b9 p c'→a∈b9 p c) {a:Addr} (q:dh ρ (σ.heap.set k c') a):dh ρ σ.heap a:=by
 (refine cJ q ?_;(try clear q);rintro j p' c₁ h1 h2 h3)
 rw [jz c' hc] at h2
 by_cases e:j=k
 ·subst e;rw [Ks rfl] at h2
  (replace h2:=Kj h2;obtain rfl:=h2)
  rw [hk] at h1;(replace h1:=Kj h1;obtain rfl:=h1);exact gP j p c hk hc (hadr a h3)
 ·rw [Kp e] at h2;exact gP j p' c₁ h1 h2 h3
theorem a9.upd {k:Nat} {p:Addr×Addr} {c :a8} {a:Addr} (R:a9 W Z ρ h L m σ) (hk:ρ[k]?=some p) (hc:σ.heap[k]?=some c) (ha:a∈b9 p c) (hs:Heap.SameBut a h h')
  (hn:eK W h' Z ρ p c') (hadr:∀ a,a∈b9 p c'→a∈b9 p c) (h2:∀ c₀ fs,c'=.ins c₀ fs→p.1≠p.2):a9 W Z ρ h' L m { σ with heap:=σ.heap.set k c' }:=by
 have hown:=R.own a ⟨k,p,c,hk,hc,ha⟩;refine ⟨R.kz,fun b o e=>?_,R.zL,R.ns.sameBut hs hown.2.1.symm,R.loc,by change Lx;exact R.len,fun j p' c₁ h1 h3=>?_,fun b q=>?_,fun j j' p₁ p₂ c₁ c₂ b x1 x2 x3 x4 x5 x6=>?_,fun j p' c₁ fs h1 h3=>?_⟩
 ·change hs.2 b (fun z=>by clear ha hs;subst z;rw [hown.1] at e;exact a0 e);exact R.zh b o e
 ·rw [jz c' hc] at h3
  by_cases e:j=k
  ·clear hc;subst e;rw [Ks rfl] at h3
   (replace h3:=Kj h3;obtain rfl:=h3)
   rw [hk] at h1;(replace h1:=Kj h1;obtain rfl:=h1);exact hn
  ·rw [Kp e] at h3;refine (R.cell j p' c₁ h1 h3).stay (fun _ _ e=>e) ⟨[],(Kt _).symm⟩ fun b o hb eb=>?_;change hs.2 b (fun z=>by clear hs hown;subst z;exact e (R.apart j k p' p c₁ c b h1 hk h3 hc hb ha));exact eb
 ·have:=R.own b (qN hk hc hadr q);change hs.1;exact this
 ·rw [jz c' hc] at x3 x4;have y1:∃ c₃,σ.heap[j]?=some c₃∧b∈b9 p₁ c₃:=by
   by_cases e:j=k
   ·clear x4;subst e;rw [Ks rfl] at x3;(replace x3:=Kj x3;obtain rfl:=x3);rw [hk] at x1;(replace x1:=Kj x1;obtain rfl:=x1);exact aF c hc (hadr b x5)
   ·rw [Kp e] at x3;exact aF _ x3 x5
  have y2:∃ c₃,σ.heap[j']?=some c₃∧b∈b9 p₂ c₃:=by
   by_cases e:j'=k
   ·clear x3;subst e;rw [Ks rfl] at x4;(replace x4:=Kj x4;obtain rfl:=x4);rw [hk] at x2;(replace x2:=Kj x2;obtain rfl:=x2);exact aF c hc (hadr b x6)
   ·rw [Kp e] at x4;exact aF _ x4 x6
  (refine am y1 ?_;(try clear y1);rintro c₃ z1 z2)
  (refine am y2 ?_;(try clear y2);rintro c₄ z3 z4)
  exact R.apart j j' p₁ p₂ c₃ c₄ b x1 x2 z1 z3 z2 z4
 ·rw [jz c' hc] at h3
  by_cases e:j=k
  ·clear hc;subst e;rw [Ks rfl] at h3;rw [hk] at h1;(replace h1:=Kj h1;obtain rfl:=h1);exact h2 c₁ fs (Kj h3)
  ·rw [Kp e] at h3;exact R.two j p' c₁ fs h1 h3
theorem aA.upd {k:Nat} {p:Addr×Addr} {c :a8} {a:Addr} (hk:ρ[k]?=some p) (hc:σ.heap[k]?=some c) (ha:a∈b9 p c) (hs:Heap.SameBut a h h') (hadr:∀ a,a∈b9 p c'→a∈b9 p c):
  aA Z ρ h L σ.heap Z ρ h' (σ.heap.set k c'):=
 ⟨fun _ _ e=>e,⟨[],(Kt _).symm⟩,by change hs.1;exact br _,fun b o e n _=>by change hs.2 b (fun z=>by clear hs;subst z;exact n ⟨k,p,c,hk,hc,ha⟩);exact e,fun b q=>.inl (qN hk hc hadr q),fun _ q=>.inl q⟩
theorem a9.setLoc {n:Nat} {v:Value} {x:X} (R:a9 W Z ρ h L m σ) (inj:∀ a b,W.T.nm a=W.T.nm b→a=b) (hns:h'.Ns L (fun y=>if y=W.T.nm n then some v else m y)) (hs:Heap.SameBut L h h') (hx:bg W Z ρ v x):
  a9 W Z ρ h' L (fun y=>if y=W.T.nm n then some v else m y) { σ with loc:=put σ.loc n x }:=by
 refine ⟨R.kz,fun b o e=>?_,R.zL,hns,fun j y e=>?_,R.len,fun k p c a b=>(R.cell k p c a b).stay (fun _ _ e=>e) ⟨[],(Kt _).symm⟩ fun b' o hb eb=>?_,fun b q=>by change hs.1;exact R.own b q,R.apart,R.two⟩
 ·change hs.2 b (fun z=>by clear hns hs;subst z;rw [R.zL] at e;exact a0 e);exact R.zh b o e
 ·have e':look (put σ.loc n x) j=some y:=e;rw [gg] at e'
  by_cases q:n=j
  ·clear e;subst q;rw [Ks rfl] at e'
   (replace e':=Kj e';obtain rfl:=e')
   exact aF v (Ks rfl) hx
  ·rw [Kp q] at e'
   (refine am (R.loc j y e') ?_;rintro u a b)
   exact aF u (by change Kp (fun z=>q (inj _ _ z).symm);exact a) b
 ·change hs.2 b' (R.own b' ⟨k,p,c,a,b,hb⟩).2.1;exact eb
theorem aA.setLoc (hs:Heap.SameBut L h h'):aA Z ρ h L hp Z ρ h' hp:=
 ⟨fun _ _ e=>e,⟨[],(Kt _).symm⟩,by change hs.1;exact br _,fun b o e _ l=>by change hs.2 b l;exact e,fun _ e=>.inl e,fun _ e=>.inl e⟩
theorem a9.pushCell {o:Obj} {c:a8} (R:a9 W Z ρ h L m σ) (hf:o.isFreed=false) (ha:b9 (h.objs.size,h.objs.size) c=[h.objs.size])
  (hc:eK W (h.push o) Z (ρ++[(h.objs.size,h.objs.size)]) (h.objs.size,h.objs.size) c) (hi:∀ c₀ fs,c≠.ins c₀ fs):a9 W Z (ρ++[(h.objs.size,h.objs.size)]) (h.push o) L m { σ with heap:=σ.heap++[c] }:=by
 have hk:∀ b x,h.get? b=some x→(h.push o).get? b=some x:=fun b x e=>Heap.get?_push_of_some _ e;have R':=R.grow (h':=h.push o) hk (by change Kz;exact KJ _);have hr:∃ e,ρ++[(h.objs.size,h.objs.size)]=ρ++e:=⟨_,rfl⟩
 have at':∀ (j:Nat) (p:Addr×Addr) (c₁:a8),(ρ++[(h.objs.size,h.objs.size)])[j]?=some p→(σ.heap++[c])[j]?=some c₁→(ρ[j]?=some p∧σ.heap[j]?=some c₁)∨(j=ρ.length∧p=(h.objs.size,h.objs.size)∧c₁=c):=by
  intro j p c₁ h1 h2;rcases LI j ρ.length with q|q|q
  ·rw [List.getElem?_append_left q] at h1;rw [List.getElem?_append_left (R.len▸q)] at h2;exact .inl ⟨h1,h2⟩
  ·subst q;rw [List.getElem?_append_right (br _),L7] at h1;rw [List.getElem?_append_right (by change R.len;exact br _),R.len,L7] at h2
   (replace h1:=Kj h1;obtain rfl:=h1);(replace h2:=Kj h2;obtain rfl:=h2)
   exact .inr ⟨rfl,rfl,rfl⟩
  ·rw [List.getElem?_eq_none (by simp;assumption)] at h1;exact a0 h1
 have ho:∀ a,dh (ρ++[(h.objs.size,h.objs.size)]) (σ.heap++[c]) a→dh ρ σ.heap a∨a=h.objs.size:=by
  rintro a ⟨j,p,c₁,h1,h2,h3⟩;clear hc hi;rcases at' j p c₁ h1 h2 with ⟨x,y⟩|⟨_,rfl,rfl⟩
  ·exact .inl ⟨j,p,c₁,x,y,h3⟩
  ·rw [ha] at h3;exact .inr (by simpa using h3)
 refine ⟨R.kz,R'.zh,R.zL,R'.ns,fun n x e=>let ⟨v,a,b⟩:=R.loc n x e;⟨v,a,b.mono (fun _ _ e=>e) hr⟩,by simp [R.len],fun j p c₁ h1 h2=>?_,fun a q=>?_,fun j j' p p' c₁ c₂ a h1 h2 h3 h4 h5 h6=>?_,fun j p c₁ fs h1 h2=>?_⟩
 ·clear ha hi ho;rcases at' j p c₁ h1 h2 with ⟨x,y⟩|⟨_,rfl,rfl⟩
  ·exact (R'.cell j p c₁ x y).stay (fun _ _ e=>e) hr fun _ _ _ e=>e
  ·exact hc
 ·rcases ho a q with q|rfl
  ·exact R'.own a q
  ·exact b7 R.fresh (Ly R.ns.lt) (by change Kz;exact KC _)
 ·clear hc hi ho;rcases at' j p c₁ h1 h3 with ⟨x,y⟩|⟨e1,rfl,rfl⟩<;>(clear h3;rcases at' j' p' c₂ h2 h4 with ⟨x',y'⟩|⟨e2,rfl,rfl⟩)
  ·exact R.apart j j' p p' c₁ c₂ a x x' y y' h5 h6
  ·rw [ha] at h6;have:=(R.own a ⟨j,p,c₁,x,y,h5⟩).2.2;simp at h6;clear h5;subst h6;exact absurd this (KS _)
  ·rw [ha] at h5;have:=(R.own a ⟨j',p',c₂,x',y',h6⟩).2.2;simp at h5;clear h6;subst h5;exact absurd this (KS _)
  ·lia
 ·rcases at' j p _ h1 h2 with ⟨x,y⟩|⟨_,rfl,e⟩
  ·exact R.two j p c₁ fs x y
  ·exact absurd e.symm (hi c₁ fs)
end
set_option tactic.hygienic true
noncomputable def ae (σ:St):Prop:=∀ p∈σ.obs,p
theorem xZ {α β:Type} {m:Mo α} {f:α→Mo β} {y:β} (e:a7 m f σ=some (y,σ')):∃ x σ₁,m σ=some (x,σ₁)∧f x σ₁=some (y,σ'):=by
 unfold a7 at e
 split at e
 ·rename_i x σ₁ h;exact bI x σ₁ h e
 ·exact a0 e
theorem ah {α β:Type} {m:Mo α} {f:α→Mo β} {z:β×St} {G:Prop} (h:a7 m f σ=some z) (k:∀ y σ₁,m σ=some (y,σ₁)→f y σ₁=some z→G):G:=by
 (refine aN (xZ h) ?_;rintro y σ₁ g1 g2)
 exact k y σ₁ g1 g2
theorem d9 {a b:Bool} {G:Prop} (h:(a&&b)=true) (k:a=true→b=true→G):G:=by
 simp only [KD] at h
 (refine aw h ?_;(try clear h);rintro xa xb)
 exact k xa xb
theorem cq {a b c:Bool} {G:Prop} (h:(a&&b&&c)=true) (k:a=true→b=true→c=true→G):G:=by
 simp only [KD] at h
 (refine aw h ?_;(try clear h);rintro ⟨xa,xb⟩ xc)
 exact k xa xb xc
theorem eG {a b c d:Bool} {G:Prop} (h:(a&&b&&c&&d)=true) (k:a=true→b=true→c=true→d=true→G):G:=by
 simp only [KD] at h
 (refine aw h ?_;(try clear h);rintro ⟨⟨xa,xb⟩,xc⟩ xd)
 exact k xa xb xc xd
theorem eF {a b c d e:Bool} {G:Prop} (h:(a&&b&&c&&d&&e)=true) (k:a=true→b=true→c=true→d=true→e=true→G):G:=by
 simp only [KD] at h
 (refine aw h ?_;(try clear h);rintro ⟨⟨⟨xa,xb⟩,xc⟩,xd⟩ xe)
 exact k xa xb xc xd xe
theorem pj {a b c d e f:Bool} {G:Prop} (h:(a&&b&&c&&d&&e&&f)=true) (k:a=true→b=true→c=true→d=true→e=true→f=true→G):G:=by
 simp only [KD] at h
 (refine aw h ?_;(try clear h);rintro ⟨⟨⟨⟨xa,xb⟩,xc⟩,xd⟩,xe⟩ xf)
 exact k xa xb xc xd xe xf
theorem dO {α:Type} {o:Option α} {y:α} (e:aZ o σ=some (y,σ')):o=some y∧σ'=σ:=by
 unfold aZ at e
 split at e
 ·(have za:=(af e).1;have zb:=(af e).2;clear e;obtain rfl:=za;obtain rfl:=zb);exact ⟨rfl,rfl⟩
 ·exact a0 e
theorem bi {α:Type} {x y:α} (e:ak x σ=some (y,σ')):y=x∧σ'=σ:=by (have za:=(af e).1;have zb:=(af e).2;clear e;obtain rfl:=za;obtain rfl:=zb);exact ⟨rfl,rfl⟩
@[elab_as_elim] theorem aR {α:Type} {motive:α→St→Prop} {x y:α} {σ σ':St} (e:ak x σ=some (y,σ')) (k:motive x σ):motive y σ':=by
 have zq:=bi e;rw [zq.1,zq.2];exact k
@[elab_as_elim] theorem dZ {α:Type} {motive:St→Prop} {o:Option α} {σ σ':St} {y:α} (e:aZ o σ=some (y,σ')) (k:o=some y→motive σ):motive σ':=by
 have zq:=dO e;rw [zq.2];exact k zq.1
noncomputable def bj (l:List Prop):Prop:=∀ p∈l,p
theorem bj.nil:bj []:=fun _ h=>nomatch h
theorem bj.app {a b:List Prop} (x:bj a) (y:bj b):bj (a++b):=fun p h=>(Lb.mp h).elim (x p) (y p)
theorem bj.cons {p:Prop} {a:List Prop} (x:p) (y:bj a):bj (p::a):=fun q h=>by
 cases h with
 |head=>exact x
 |tail _ h=>exact y q h
noncomputable def Sub (a b:List (Nat×X)):Prop:=∀ x v,look a x=some v→look b x=some v
theorem Sub.refl {a:List (Nat×X)}:Sub a a:=fun _ _ h=>h
theorem Sub.put {a b:List (Nat×X)} (h:Sub a b) (x:Nat) (v:X):Sub (put a x v) (put b x v):=fun y w e=>by
 rw [gg] at e ⊢
 by_cases q:x=y
 ·rw [Ks q] at e ⊢;exact e
 ·rw [Kp q] at e ⊢;exact h _ _ e
noncomputable def Ju {α:Type} (m':Mo α) (σ:St) (x:α) (σ':St):Prop:=
 ae σ∧∃ ds l,bj l∧∀ lc,Sub σ.loc lc→∃ lc',Sub σ'.loc lc'∧∀ r o,m' ⟨σ.heap,lc,ds++r,o⟩=some (x,⟨σ'.heap,lc',r,l++o⟩)
noncomputable def aW {α:Type} (m m':Mo α):Prop:=∀ σ x σ',m σ=some (x,σ')→ae σ'→Ju m' σ x σ'
noncomputable def bJ {α:Type} (m:Mo α):Prop:=aW m m
variable {α β:Type}
theorem JH {m':Mo α}:aW (fun _=>none) m':=fun _ _ _ e=>nomatch e
theorem az {m':Mo α}:aW no m':=fun _ _ _ e=>nomatch e
theorem aG {x:α}:aW (ak x) (ak x):=fun σ y σ' e o=>by (have za:=(af e).1;have zb:=(af e).2;clear e;obtain rfl:=za;obtain rfl:=zb);exact ⟨o,[],[],.nil,fun lc hs=>⟨lc,hs,fun _ _=>rfl⟩⟩
theorem aj {m m':Mo α} {f f':α→Mo β} (a:aW m m') (b:∀ x,aW (f x) (f' x)):aW (a7 m f) (a7 m' f'):=fun σ y σ' e o=>by
 refine ah e fun x σ₁ h e=>?_;obtain ⟨o1,d2,l2,t2,k2⟩:=b _ _ _ _ e o;obtain ⟨o0,d1,l1,t1,k1⟩:=a _ _ _ h o1;refine ⟨o0,d1++d2,l2++l1,t2.app t1,fun lc hs=>?_⟩
 (refine am (k1 lc hs) ?_;rintro lc1 hs1 k1)
 (refine am (k2 lc1 hs1) ?_;rintro aQ hs2 k2)
 refine aF aQ hs2 (fun r p=>?_);refine (?_:(match m' _ with|some (x,σ')=>f' x σ'|none=>none)=_)
 (change Kw;change k1)
 refine (?_:f' x _=_)
 (change k2;change Kw;with_reducible rfl)
theorem nk {m:Mo α} (h:∀ σ x σ',m σ=some (x,σ')→σ'.loc=σ.loc∧σ'.obs=σ.obs∧∀ lc d o,m ⟨σ.heap,lc,d,o⟩=some (x,⟨σ'.heap,lc,d,o⟩)):bJ m:=fun σ x σ' e o=>by
 (refine bb (h _ _ _ e) ?_;rintro h1 h2 h3)
 exact ⟨fun p hp=>o p (h2▸hp),[],[],.nil,fun lc hs=>⟨lc,by change h1;exact hs,fun r p=>h3 _ _ _⟩⟩
theorem cX {x:Option α}:aW (aZ x) (aZ x):=nk fun σ y σ' e=>by
 (refine aw (dO e) ?_;clear e;rintro rfl rfl)
 exact b7 rfl rfl (fun _ _ _=>rfl)
theorem eM {p:Prop}:aW (bE p) (bE p):=fun σ y σ' e o=>by
 (have za:=(af e).1;have zb:=(af e).2;clear e;obtain rfl:=za;obtain rfl:=zb)
 exact ⟨fun q hq=>o q (.tail _ hq),[],[p],.cons (o p (.head _)) .nil,fun lc hs=>⟨lc,hs,fun r o=>rfl⟩⟩
theorem ub {p:Prop}:aW (cQ p) (cQ p):=fun σ y σ' e o=>by
 unfold cQ at e
 split at e
 ·exact a0 e
 ·(have za:=(af e).1;have zb:=(af e).2;clear e;obtain rfl:=za;obtain rfl:=zb)
  exact ⟨fun q hq=>o q (.tail _ hq),[0],[¬p],.cons (o _ (.head _)) .nil,fun lc hs=>⟨lc,hs,fun r o=>rfl⟩⟩
 ·(have za:=(af e).1;have zb:=(af e).2;clear e;obtain rfl:=za;obtain rfl:=zb)
  exact ⟨fun q hq=>o q (.tail _ hq),[1],[p],.cons (o _ (.head _)) .nil,fun lc hs=>⟨lc,hs,fun r o=>rfl⟩⟩
theorem ua {p:Option Bool}:aW (ec p) (ec p):=fun σ y σ' e o=>by
 unfold ec at e
 split at e
 ·exact a0 e
 ·(have za:=(af e).1;have zb:=(af e).2;clear e;obtain rfl:=za;obtain rfl:=zb)
  exact ⟨fun q hq=>o q (.tail _ hq),[0],[p=some false],.cons (o _ (.head _)) .nil,fun lc hs=>⟨lc,hs,fun r o=>rfl⟩⟩
 ·(have za:=(af e).1;have zb:=(af e).2;clear e;obtain rfl:=za;obtain rfl:=zb)
  exact ⟨fun q hq=>o q (.tail _ hq),[1],[p=some true],.cons (o _ (.head _)) .nil,fun lc hs=>⟨lc,hs,fun r o=>rfl⟩⟩
theorem tV {x:V}:bJ (ly x):=by
 unfold ly
 split
 ·intro σ y σ' e o;dsimp only at e;generalize σ.ds=hd at e;induction hd using List.casesOn with
  |nil=>exact a0 e
  |cons k r=>
   (have za:=(af e).1;have zb:=(af e).2;clear e;obtain rfl:=za;obtain rfl:=zb)
   exact ⟨fun q hq=>o q (.tail _ hq),[k],_,.cons (o _ (.head _)) .nil,fun lc hs=>⟨lc,hs,fun r o=>rfl⟩⟩
 ·exact aG
theorem tP {l:List V} {x:V}:bJ (kQ l x):=by
 unfold kQ
 split
 ·intro σ y σ' e o;dsimp only at e;induction hd:σ.ds using List.casesOn with
  |nil=>rw [hd] at e;exact a0 e
  |cons k r=>
   rw [hd] at e;dsimp only at e;revert e;refine aV (bB l k) ?_ ?_
   ·intro e;exact a0 e
   ·intro z q e
    (have za:=(af e).1;have zb:=(af e).2;clear e;obtain rfl:=za;obtain rfl:=zb)
    exact ⟨fun q hq=>o q (.tail _ hq),[k],_,.cons (o _ (.head _)) .nil,fun lc hs=>⟨lc,hs,fun r o=>by refine (?_:(match bB l k with|some y=>_|none=>none)=_);change q;rfl⟩⟩
 ·exact aG
theorem tX {l:List α} {i:Int}:aW (fD l i) (fD l i):=fun σ y σ' e o=>by
 unfold fD at e;induction hd:σ.ds using List.casesOn with
 |nil=>rw [hd] at e;exact a0 e
 |cons k r=>
  rw [hd] at e;dsimp only at e;revert e;refine aV (bB l k) ?_ ?_
  ·intro e;exact a0 e
  ·intro z q e
   (have za:=(af e).1;have zb:=(af e).2;clear e;obtain rfl:=za;obtain rfl:=zb)
   exact ⟨fun q hq=>o q (.tail _ hq),[k],_,.cons (o _ (.head _)) .nil,fun lc hs=>⟨lc,hs,fun r o=>by refine (?_:(match bB l k with|some y=>_|none=>none)=_);change q;rfl⟩⟩
theorem dK {k:Nat}:aW (cw k) (cw k):=nk fun σ y σ' e=>by
 unfold cw at e
 split at e
 ·rename_i c h
  (have za:=(af e).1;have zb:=(af e).2;clear e;obtain rfl:=za;obtain rfl:=zb)
  exact b7 rfl rfl (fun _ _ _=>by refine (?_:(match bB σ.heap k with|some c=>_|none=>none)=_);(change h;with_reducible rfl))
 ·exact a0 e
theorem fT {k:Nat} {c:a8}:aW (df k c) (df k c):=nk fun σ y σ' e=>by
 rw [gD] at e
 (have za:=(af e).1;have zb:=(af e).2;clear e;obtain rfl:=za;obtain rfl:=zb)
 exact b7 rfl rfl (fun _ _ _=>gD _ _ _)
theorem l5 {c:a8}:aW (push c) (push c):=nk fun σ y σ' e=>by
 (have za:=(af e).1;have zb:=(af e).2;clear e;obtain rfl:=za;obtain rfl:=zb)
 exact b7 rfl rfl (fun _ _ _=>rfl)
theorem ni {x:Nat} {v:X}:aW (hY x v) (hY x v):=fun σ y σ' e o=>by
 rw [fV] at e
 (have za:=(af e).1;have zb:=(af e).2;clear e;obtain rfl:=za;obtain rfl:=zb)
 exact ⟨o,[],[],.nil,fun lc hs=>⟨_,hs.put x v,fun r o=>fV _ _ _⟩⟩
theorem qc {x:Nat}:bJ (fun σ=>match look σ.loc x with|some y=>some (y,σ)|none=>none:Mo X):=fun σ y σ' e o=>by
 induction h:look σ.loc x using Option.casesOn with
 |none=>dsimp only at e;rw [h] at e;exact a0 e
 |some z=>
  dsimp only at e;rw [h] at e
  (have za:=(af e).1;have zb:=(af e).2;clear e;obtain rfl:=za;obtain rfl:=zb)
  exact ⟨o,[],[],.nil,fun lc hs=>⟨lc,hs,fun r p=>by refine (?_:(match look lc x with|some y=>_|none=>none)=_);change hs _ _ h;rfl⟩⟩
theorem Bt {m:Mo α} {f:α→Mo β} (a:bJ m) (b:∀ x,bJ (f x)):bJ (a7 m f):=aj a b
theorem uf {x:α}:bJ (ak x):=aG
theorem qk:bJ (no:Mo α):=az
theorem JM {x:Option α}:bJ (aZ x):=cX
theorem JL {p:Prop}:bJ (bE p):=eM
theorem Br {p:Prop}:bJ (cQ p):=ub
theorem Bq {p:Option Bool}:bJ (ec p):=ua
theorem JK {l:List α} {i:Int}:bJ (fD l i):=tX
theorem Bs {k:Nat}:bJ (cw k):=dK
theorem JI {k:Nat} {c:a8}:bJ (df k c):=fT
theorem JJ {c:a8}:bJ (push c):=l5
theorem Bk {x:V}:bJ (n4 x):=by induction x using V.casesOn<;>first|exact uf|exact Br|exact qk|exact Bq
theorem hX {x:X}:bJ (gC x):=by
 induction x using X.casesOn<;>first|exact Bk|exact qk|skip
 refine Bt Bs fun c=>?_;induction c using a8.casesOn<;>first|exact uf|exact qk
theorem xO {P:Mo Bool→Prop} (hno:P no) (hdec:∀ p,P (cQ p)) (hB:∀ o,P (ec o)) (hl:∀ o,P (aZ o)) (hr:∀ b,P (ak b)) {op:cG} {a b:V}:P (eD op a b):=by
 delta eD
 induction op using cG.casesOn<;>dsimp only
 case is=>induction b using V.casesOn<;>first|exact hno|(induction a using V.casesOn<;>first|exact hB _|exact hl _)
 case isnt=>induction b using V.casesOn<;>first|exact hno|(induction a using V.casesOn<;>first|exact hB _|exact hl _)
 case inn=>induction b using V.casesOn<;>first|exact hno|exact hl _|(induction a using V.casesOn<;>first|exact hno|(rename_i s;induction s using List.casesOn<;>first|exact hno|(rename_i c r;induction r using List.casesOn<;>first|exact hno|exact hr _)))
 case nin=>induction b using V.casesOn<;>first|exact hno|exact hl _|(induction a using V.casesOn<;>first|exact hno|(rename_i s;induction s using List.casesOn<;>first|exact hno|(rename_i c r;induction r using List.casesOn<;>first|exact hno|exact hr _)))
 case eq=>induction a using V.casesOn<;>first|exact hl _|(induction b using V.casesOn<;>first|exact hdec _|exact hB _|exact hl _)
 case ne=>exact hl _
 all_goals induction a using V.casesOn<;>first|(dsimp only [bR];exact hno)|(induction b using V.casesOn<;>first|exact hl _|exact hr _|(dsimp only [bR];exact hno)|(dsimp only [bR,kx];exact hdec _))
theorem qi {op:cG} {a b:V}:bJ (eD op a b):=xO (P:=fun m=>aW m m) az (fun _=>ub) (fun _=>ua) (fun _=>cX) fun _=>aG
theorem GE {P:Mo V→Prop} (hno:P no) (hr:∀ b,P (ak b)) {l:Bool} {x:Int} {b:V}:P (mx l x b):=by
 delta mx
 induction b using V.casesOn<;>first|exact hno|skip
 rename_i i;induction i using Int.casesOn<;>first|exact hno|skip
 rename_i n;induction n using Nat.casesOn<;>first|exact hno|skip
 rename_i n;refine (?_:P (match Nat.blt n 1000000 with|true=>_|false=>_));generalize Nat.blt n 1000000=z;induction z using Bool.casesOn<;>first|exact hno|exact hr _
theorem Eo {P:Mo V→Prop} (hno:P no) (hr:∀ b,P (ak b)) {l:Bool} {x:Int} {b:V}:P (nU l x b):=by
 delta nU
 induction b using V.casesOn<;>first|exact hno|skip
 rename_i i;induction i using Int.casesOn<;>first|exact hno|skip
 rename_i n;induction n using Nat.casesOn<;>first|exact hno|exact hr _
theorem yf {P:Mo V→Prop} (hno:P no) (hr:∀ b,P (ak b)) (hm:∀ p v,P (a7 (bE p) fun _=>ak v)) {op:bU} {a b:V}:P (cz op a b):=by
 delta cz
 generalize bR a=x;generalize bR b=y;have rest:P (match op with
  |.add=>match a,b with
   |.lst x,.lst y=>a7 (bE (x.length+y.length≤lim)) fun _=>ak (V.lst (x++y))
   |a,b=>match cg a,cg b with
    |some x,some y=>a7 (bE (x.length+y.length≤lim)) fun _=>ak (fH (c9 a&&c9 b) (x++y))
    |_,_=>no
  |.mul=>match cg a,y with
   |some x,some n=>a7 (bE (x.length=1∧n≤lim∧-lim≤n)) fun _=>ak (fH (c9 a&&c9 b) ((List.replicate n.toNat x).flatten))
   |_,_=>no
  |_=>no):=by
  induction op using bU.casesOn<;>dsimp only
  case add=>
   induction a using V.casesOn<;>first|(dsimp only [cg];exact hno)|(induction b using V.casesOn<;>dsimp only [cg]<;>first|exact hno|exact hm _ _)
  case mul=>
   generalize cg a=x;induction x using Option.casesOn<;>first|exact hno|skip
   induction y using Option.casesOn<;>first|exact hno|exact hm _ _
  all_goals exact hno
 induction x using Option.casesOn<;>first|exact rest|skip
 induction y using Option.casesOn<;>first|exact rest|skip
 clear rest;induction op using bU.casesOn<;>first|exact hr _|exact GE hno hr|exact Eo hno hr|exact hm _ _
theorem qj {op:bU} {a b:V}:bJ (cz op a b):=yf (P:=fun m=>aW m m) az (fun _=>aG) fun _ _=>aj eM fun _=>aG
theorem nq {op:bU} {a b:V}:bJ (il op a b):=by delta il;induction a using V.casesOn<;>first|exact az|exact qj
theorem u4 {l:List V} {i:V}:bJ (match i with|.int i=>aZ (at? l i)|.sint i=>fD l i|_=>no):=by
 induction i using V.casesOn<;>first|exact az|exact cX|exact tX
theorem u8 {o:X} {i:V}:bJ (jV o i):=by
 delta jV
 induction o using X.casesOn with
 |v x=>
  induction x using V.casesOn<;>first|exact az|exact u4|skip
  all_goals induction i using V.casesOn<;>first|exact az|exact cX|exact aj cX fun _=>aG|exact aj eM fun _=>aG
 |r k=>
  refine aj dK fun c=>?_;induction c using a8.casesOn<;>first|exact az|exact u4
 |m=>exact az
theorem u7 {o:X} {i:V}:bJ (ou o i):=by
 delta ou
 induction o using X.casesOn<;>first|exact az|skip
 rename_i x;induction x using V.casesOn<;>first|exact az|skip
 induction i using V.casesOn<;>first|exact az|exact aj eM fun _=>aG
theorem tR {o:X}:bJ (f0 o lo hi):=by
 delta f0
 induction o using X.casesOn with
 |v x=>induction x using V.casesOn<;>first|exact az|exact aj cX fun _=>aG
 |r k=>
  refine aj dK fun c=>?_;induction c using a8.casesOn<;>first|exact az|exact aj cX fun _=>aG
 |m=>exact az
theorem Bl {o:X}:bJ (jQ o):=by
 delta jQ
 induction o using X.casesOn with
 |v x=>induction x using V.casesOn<;>first|exact az|exact aG
 |r k=>
  refine aj dK fun c=>?_;induction c using a8.casesOn<;>first|exact az|exact aG
 |m=>exact az
theorem nr {x:X}:bJ (kf T x f):=by
 delta kf
 induction x using X.casesOn with
 |v x=>
  induction x using V.casesOn<;>first|exact az|skip
  rename_i c fs;refine (?_:bJ (match look fs f with|some y=>_|none=>_));cases look fs f<;>first|exact az|exact aG
 |r k=>
  refine aj dK fun c=>?_;induction c using a8.casesOn<;>first|exact az|skip
  rename_i c fs;dsimp only;cases look fs f<;>first|exact aG|skip
  dsimp only;cases cL T.meths c f<;>first|exact aG|skip
  dsimp only;cases cL T.cvals c f<;>first|exact az|exact aG
 |m=>exact az
theorem l0 {x y:X}:bJ (iK T x f y):=by
 delta iK
 induction x using X.casesOn<;>first|exact az|skip
 refine aj dK fun c=>?_;induction c using a8.casesOn<;>first|exact az|skip
 rename_i c fs;refine aj cX fun l=>?_;cases bq l f<;>first|exact az|skip
 cases Nat.ble fs.length 1000<;>first|exact az|skip
 try dsimp only
 change nH;exact fT
theorem u6 {o:X}:bJ (jT o):=by
 delta jT
 induction o using X.casesOn<;>first|exact az|skip
 refine aj dK fun c=>?_;induction c using a8.casesOn<;>first|exact az|exact aG
theorem ue {o x:X}:bJ (pn o x):=by
 delta pn
 induction o using X.casesOn<;>first|exact az|skip
 refine aj dK fun c=>?_;induction c using a8.casesOn<;>first
  |exact az
  |exact aj cX fun _=>aj eM fun _=>aj fT fun _=>aG
  |exact aj cX fun _=>aj cX fun _=>aj eM fun _=>aj fT fun _=>aG
  |skip
 induction x using X.casesOn<;>first|exact az|skip
 rename_i k l k' f;dsimp only;cases Nat.beq k k'<;>first|exact az|exact aj eM fun _=>aj fT fun _=>aG
theorem tT {o:X}:bJ (lq o):=by
 delta lq
 induction o using X.casesOn<;>first|exact az|skip
 refine aj dK fun c=>?_;induction c using a8.casesOn<;>first|exact az|skip
 all_goals
  rename_i l;induction l using List.casesOn<;>first|exact az|exact aj fT fun _=>aG
theorem tU {o:X}:bJ (lr o):=by
 delta lr
 induction o using X.casesOn<;>first|exact az|skip
 refine aj dK fun c=>?_;induction c using a8.casesOn<;>first|exact az|skip
 rename_i l;induction l using List.casesOn<;>first|exact az|exact aj fT fun _=>aG
theorem u9 {o:X} {x:V}:bJ (oN o x):=by
 delta oN
 induction o using X.casesOn<;>first|exact az|skip
 induction x using V.casesOn<;>first|exact az|skip
 refine aj dK fun c=>?_;induction c using a8.casesOn<;>first|exact az|exact aj eM fun _=>aj fT fun _=>aG
set_option tactic.hygienic true in
theorem tS {o:X} {i x:V}:bJ (nv o i x):=by
 delta nv
 induction o using X.casesOn<;>first|exact az|skip
 dsimp only;induction md i using Bool.casesOn<;>first|exact az|skip
 refine aj dK fun c=>?_;induction c using a8.casesOn<;>first|exact az|skip
 rename_i l;induction l using List.casesOn<;>first|exact az|exact fT
theorem u5 {x:X}:bJ (jS sep x):=by
 delta jS
 induction x using X.casesOn with
 |v x=>induction x using V.casesOn<;>first|exact az|exact aj cX fun _=>aj eM fun _=>aG
 |r k=>
  refine aj dK fun c=>?_;induction c using a8.casesOn<;>first|exact az|exact aj cX fun _=>aj eM fun _=>aG|skip
  induction sep using List.casesOn<;>first|exact az|exact aj eM fun _=>aG
 |m=>exact az
theorem qd {x:X}:bJ (items x):=by
 delta items
 induction x using X.casesOn<;>first|exact az|skip
 rename_i v;induction v using V.casesOn<;>first|exact az|exact aG
noncomputable abbrev yu {α:Type} (m:Mo α):Prop:=aW m m
theorem ae.of {α:Type} {m:Mo α} {x:α} (H:aW m m) (e:m σ=some (x,σ')) (o:ae σ'):ae σ:=(H _ _ _ e o).1
set_option tactic.hygienic true in
theorem wN {c:Nat} {w:Option (X×St)} {x:X} (e:oF c σ w=some (x,σ')):∃ σ₁ fs r l,w=some (.v .none,σ₁)∧σ₁.heap=.ins c fs::r∧ir fs=some l∧x=.v (.inst c l)∧σ'={ σ₁ with heap:=σ.heap,loc:=σ.loc }:=by
 refine cps fun GG kk=>?_;induction w using Option.casesOn with
 |none=>exact a0 e
 |some p=>
  obtain ⟨x1,σ₁⟩:=p;induction x1 using X.casesOn<;>first|exact a0 e|skip
  rename_i y;induction y using V.casesOn<;>first|exact a0 e|skip
  dsimp only [oF] at e;generalize hh:σ₁.heap=hp at e;induction hp using List.casesOn with
  |nil=>exact a0 e
  |cons cl r=>
   induction cl using a8.casesOn<;>first|exact a0 e|skip
   rename_i c' fs;revert e;dsimp only;refine d8 (Nat.beq c c') (fun _ e=>a0 e) fun hb=>?_;dsimp only;refine aV (ir fs) (fun e=>a0 e) fun l hl e=>?_;exact kk ⟨σ₁,fs,r,l,rfl,cS.mp hb▸hh,hl,(af e).1.symm,(af e).2.symm⟩
structure gr (R R':ao):Prop where
 e:∀ c,aW (R.e c) (R'.e c)
 t:∀ c,aW (R.t c) (R'.t c)
 ss:∀ l,aW (R.ss l) (R'.ss l)
 fn:∀ f a,aW (R.fn f a) (R'.fn f a)
 whl:∀ t b,aW (R.whl t b) (R'.whl t b)
 fr:∀ x l b,aW (R.fr x l b) (R'.fr x l b)
 cp:∀ x c l,aW (R.cp x c l) (R'.cp x c l)
section
variable {T:b8} {R R':ao} (H:gr R R')
include H
theorem bk {c:CE}:aW (bt R c) (bt R' c):=aj (H.e c) fun _=>cX
theorem nt {c:Option CE}:aW (fK R c) (fK R' c):=by
 induction c using Option.casesOn with
 |none=>exact aG
 |some c=>exact aj (bk H) fun _=>aG
theorem fU:∀ {l:List CE},aW (dg R l) (dg R' l)
 |[]=>aG
 |c::r=>aj (H.e c) fun _=>aj fU fun _=>aG
theorem iJ:∀ {l:List (Nat×CE)},aW (eV R l) (eV R' l)
 |[]=>aG
 |c::r=>aj (H.e c.2) fun _=>aj iJ fun _=>aG
theorem jx:∀ {l:List (cG×CE)} {a:V},aW (gY R a l) (gY R' a l)
 |[],_=>az
 |p::r,a=>by
  dsimp only [gY];refine aj (bk H) fun b=>aj qi fun t=>?_;induction r using List.casesOn with
  |nil=>exact aG
  |cons q r=>induction t using Bool.casesOn<;>first|exact aG|exact jx
theorem q8:∀ {l:List CE},aW (kU R l) (kU R' l)
 |[]=>aG
 |e::r=>aj (H.t e) fun b=>by induction b using Bool.casesOn<;>first|exact aG|exact q8
theorem q7:∀ {l:List CE},aW (kT R l) (kT R' l)
 |[]=>aG
 |e::r=>aj (H.t e) fun b=>by induction b using Bool.casesOn<;>first|exact aG|exact q7
theorem pZ:∀ {l:List CE},aW (kP R l) (kP R' l)
 |[]=>az
 |[e]=>aj (H.e e) fun x=>aG
 |e::f::r=>aj (H.e e) fun x=>aj hX fun b=>by induction b using Bool.casesOn<;>first|exact aG|exact pZ
theorem pY:∀ {l:List CE},aW (kO R l) (kO R' l)
 |[]=>az
 |[e]=>aj (H.e e) fun x=>aG
 |e::f::r=>aj (H.e e) fun x=>aj hX fun b=>by induction b using Bool.casesOn<;>first|exact aG|exact pY
theorem Bj {c:CE}:aW (kR R c) (kR R' c):=by
 induction c using CE.casesOn
 case not=>exact aj (H.t _) fun _=>aG
 case and=>exact q8 H
 case or=>exact q7 H
 case ife=>exact aj (H.t _) fun b=>by induction b using Bool.casesOn<;>exact H.t _
 case cmp=>exact aj (bk H) fun _=>jx H
 case stuck=>exact az
 case orz=>exact az
 all_goals exact aj (H.e _) fun _=>hX
theorem jy {a:List X}:aW (ed R f a) (ed R' f a):=fun σ x σ' e o=>by
 dsimp only [ed] at e;induction q:R.fn f a σ using Option.casesOn with
 |none=>rw [q] at e;exact a0 e
 |some w=>
  obtain ⟨y,σ₁⟩:=w;rw [q] at e;have ho:ae σ₁:=by
   clear q;induction y using X.casesOn with
   |m=>exact a0 e
   |r k=>(have za:=(af e).1;have zb:=(af e).2;clear e;obtain rfl:=za;obtain rfl:=zb);exact o
   |v y=>
    dsimp only at e
    split at e
    ·(have za:=(af e).1;have zb:=(af e).2;clear e;obtain rfl:=za;obtain rfl:=zb);exact o
    ·split at e
     ·(have za:=(af e).1;have zb:=(af e).2;clear e;obtain rfl:=za;obtain rfl:=zb);exact o
     ·exact a0 e
  obtain ⟨o0,ds,l,t,k⟩:=H.fn f a _ _ _ q ho;refine ⟨o0,ds,l,t,fun lc hs=>?_⟩
  (refine am (k lc hs) ?_;rintro lc1 hs1 k)
  clear q;induction y using X.casesOn with
  |m=>exact a0 e
  |r k'=>(have za:=(af e).1;have zb:=(af e).2;clear e;obtain rfl:=za;clear o;obtain rfl:=zb);exact aF lc1 hs1 (fun r p=>by dsimp only [ed];(change k;with_reducible rfl))
  |v y=>
   dsimp only at e;induction hn:Nat.beq σ₁.heap.length σ.heap.length using Bool.casesOn with
   |true=>
    rw [hn] at e
    (have za:=(af e).1;have zb:=(af e).2;clear e;obtain rfl:=za;clear o;obtain rfl:=zb)
    exact aF lc1 hs1 (fun r p=>by dsimp only [ed];change k;dsimp only;(change hn;with_reducible rfl))
   |false=>
    rw [hn] at e;dsimp only at e;revert e;refine d8 (db (mM σ.heap.length) (σ₁.heap.take σ.heap.length)) ?_ ?_
    ·intro hb e;exact a0 e
    ·intro hb e
     (have za:=(af e).1;have zb:=(af e).2;clear e;obtain rfl:=za;clear o;obtain rfl:=zb)
     exact aF lc1 hs1 (fun r p=>by dsimp only [ed];change k;dsimp only;change hn;dsimp only;(change hb;with_reducible rfl))
theorem uc {a:List X}:aW (gn R f a) (gn R' f a):=fun σ x σ' e o=>by
 dsimp only [gn] at e;induction hn:db noRef a using Bool.casesOn with
 |false=>rw [hn] at e;exact a0 e
 |true=>
  rw [hn] at e;dsimp only at e;revert e;refine aV (R.fn f a { σ with heap:=[],loc:=[] }) ?_ ?_
  ·intro e;exact a0 e
  ·intro w q e;obtain ⟨y,σ₁⟩:=w;induction y using X.casesOn with
   |m=>exact a0 e
   |r k=>exact a0 e
   |v y=>
    (have za:=(af e).1;have zb:=(af e).2;clear e;obtain rfl:=za;obtain rfl:=zb)
    obtain ⟨o0,ds,l,t,k⟩:=H.fn f a _ _ _ q o;refine ⟨o0,ds,l,t,fun lc hs=>⟨lc,hs,fun r p=>?_⟩⟩
    (refine am (k [] .refl) ?_;rintro lc1 _ k)
    have k:=k r p;dsimp only [gn];change hn;dsimp only at k ⊢
    (change k;with_reducible rfl)
theorem tZ {c :Nat} {a:List X} {ks:List (Nat×X)}:aW (ie T R c f a ks) (ie T R' c f a ks):=fun σ x σ' e o=>by
 unfold ie at e;induction h1:db noRef a using Bool.casesOn with
 |false=>rw [h1] at e;exact a0 e
 |true=>
  induction h2:db (fun p:Nat×X=>noRef p.2) ks using Bool.casesOn with
  |false=>rw [h1,h2] at e;exact a0 e
  |true=>
   induction h3:d7 T f (.r 0::a) ks using Option.casesOn with
   |none=>rw [h1,h2,h3] at e;exact a0 e
   |some args=>
    rw [h1,h2,h3] at e;obtain ⟨σ₁,fs,r,l,h,hh,hl,rfl,rfl⟩:=wN e;obtain ⟨o0,ds,l',t,k⟩:=H.fn f args _ _ _ h o;refine ⟨o0,ds,l',t,fun lc hs=>⟨lc,hs,fun r' p=>?_⟩⟩
    (refine am (k [] .refl) ?_;rintro lc1 _ k)
    have k:=k r' p;unfold ie
    (change h1;change h2;change h3)
    dsimp only at k ⊢;change k;unfold oF;dsimp only;change hh;dsimp only;refine aU (show Nat.beq c c=true from Nat.beq_refl c) ?_;dsimp only
    (change hl;with_reducible rfl)
theorem tY {c :Nat} {a:List X} {ks:List (Nat×X)}:aW (fF T R c f a ks) (fF T R' c f a ks):=fun σ x σ' e o=>by
 dsimp only [fF] at e;induction h3:d7 T f (.r σ.heap.length::a) ks using Option.casesOn with
 |none=>rw [h3] at e;exact a0 e
 |some args=>
  rw [h3] at e;dsimp only at e;revert e;refine aV (R.fn f args { σ with heap:=σ.heap++[.ins c []] }) ?_ ?_
  ·intro e;exact a0 e
  ·intro w q e;obtain ⟨y,σ₁⟩:=w;induction y using X.casesOn with
   |m=>exact a0 e
   |r k=>exact a0 e
   |v y=>
    induction y using V.casesOn<;>(first|exact a0 e|(have za:=(af e).1;have zb:=(af e).2;clear e;obtain rfl:=za;obtain rfl:=zb))
    obtain ⟨o0,ds,l,t,k⟩:=H.fn f args _ _ _ q o;refine ⟨o0,ds,l,t,fun lc hs=>?_⟩
    (refine am (k lc hs) ?_;rintro lc1 hs1 k)
    refine aF lc1 hs1 (fun r p=>?_);have k:=k r p;dsimp only [fF];dsimp only at k ⊢;change h3;dsimp only
    (change k;with_reducible rfl)
theorem Bo {c:CE}:aW (bh T R c) (bh T R' c):=by
 induction c using CE.casesOn
 case k=>exact aG
 case n=>exact qc
 case g=>exact aj cX fun _=>aG
 case a=>exact aj (H.e _) fun _=>nr
 case not=>exact aj (H.e _) fun _=>aj hX fun _=>aG
 case and=>exact pZ H
 case or=>exact pY H
 case ife=>exact aj (H.t _) fun b=>by induction b using Bool.casesOn<;>exact H.e _
 case bin=>exact aj (bk H) fun _=>aj (bk H) fun _=>aj qj fun _=>aG
 case neg=>exact aj (bk H) fun v=>by induction v using V.casesOn<;>first|exact aG|exact az
 case cmp=>exact aj (bk H) fun _=>aj (jx H) fun _=>aG
 case isi=>
  refine aj (bk H) fun v=>?_;induction v using V.casesOn<;>first|exact az|skip
  rename_i c fs;dsimp only;cases look T.subs c<;>first|exact az|exact aG
 case len=>exact aj (H.e _) fun _=>aj Bl fun _=>aG
 case tup=>exact aj (fU H) fun _=>aj cX fun _=>aG
 case lst=>exact aj (fU H) fun _=>aj cX fun _=>aG
 case newl=>exact aj (fU H) fun _=>aj cX fun _=>l5
 case nil k=>induction k using LK.casesOn<;>first|exact l5|exact az
 case catn=>
  refine aj (bk H) fun a=>aj (bk H) fun b=>?_;induction a using V.casesOn<;>first|exact az|skip
  induction b using V.casesOn<;>first|exact az|skip
  dsimp only [qA];exact aj eM fun _=>l5
 case frz=>
  refine aj (H.e _) fun o=>?_;induction o using X.casesOn<;>first|exact az|skip
  refine aj dK fun c=>?_;induction c using a8.casesOn<;>first|exact az|skip
  exact aj fT fun _=>aG
 case idx=>exact aj (H.e _) fun _=>aj (bk H) fun _=>aj u8 fun _=>aG
 case sl=>exact aj (H.e _) fun _=>aj (nt H) fun _=>aj (nt H) fun _=>aj tR fun _=>aG
 case call x f iso as ks=>
  refine aj (fU H) fun xs=>aj (iJ H) fun ys=>aj cX fun args=>?_;induction iso using Bool.casesOn<;>first|exact jy H|exact uc H
 case new x c fz as ks=>
  refine (?_:aW (match cL T.meths c fG with|some f=>_|none=>no) (match cL T.meths c fG with|some f=>_|none=>no));cases cL T.meths c fG<;>first|exact az|skip
  refine aj (fU H) fun xs=>aj (iJ H) fun ys=>?_;induction fz using Bool.casesOn<;>first|exact tY H|exact tZ H
 case meth e m as ks=>
  refine aj (H.e _) fun o=>?_;induction o using X.casesOn<;>first|exact az|skip
  refine aj dK fun c=>?_;induction c using a8.casesOn<;>first|exact az|skip
  rename_i c fs;dsimp only;cases look fs m<;>first|exact az|skip
  cases cL T.meths c m<;>first|exact az|skip
  exact aj (fU H) fun xs=>aj (iJ H) fun ys=>aj cX fun args=>jy H
 case fcall e f=>
  refine aj (H.e _) fun o=>?_;induction o using X.casesOn<;>first|exact az|skip
  refine aj dK fun c=>?_;induction c using a8.casesOn<;>first|exact az|skip
  rename_i c fs;dsimp only;cases look fs f<;>first|exact az|skip
  rename_i y;induction y using X.casesOn<;>first|exact az|skip
  rename_i k' g;dsimp only;cases d7 T g [.r k'] []<;>first|exact az|exact jy H
 case app=>exact aj (H.e _) fun _=>aj u6 fun _=>aj (H.e _) fun _=>ue
 case pop=>exact aj (H.e _) fun _=>tT
 case pop0=>exact aj (H.e _) fun _=>tU
 case ext=>exact aj (H.e _) fun _=>aj u6 fun _=>aj (bk H) fun _=>u9
 case starts=>
  refine aj (bk H) fun a=>aj (bk H) fun b=>?_;induction a using V.casesOn<;>first|exact az|skip
  induction b using V.casesOn<;>first|exact az|exact aG
 case join=>
  refine aj (bk H) fun a=>aj (H.e _) fun b=>?_;induction a using V.casesOn<;>first|exact az|exact u5
 case fmt=>
  refine aj (bk H) fun a=>aj (bk H) fun b=>?_;induction a using V.casesOn<;>first|exact az|exact aj cX fun _=>aG
 case keysS=>
  refine aj (bk H) fun a=>?_;induction a using V.casesOn<;>first|exact az|skip
  rename_i l;induction l using List.casesOn<;>first|exact az|skip
  rename_i p l;induction l using List.casesOn<;>first|exact az|skip
  rename_i q l;induction l using List.casesOn<;>first|exact az|skip
  dsimp only;cases dk p.1 q.1<;>first|exact az|exact aG
 case copyD=>
  refine aj (bk H) fun a=>?_;induction a using V.casesOn<;>first|exact az|exact aG
 case rng=>exact az
 case comp=>exact aj (H.e _) fun _=>aj qd fun _=>aj (H.cp _ _ _) fun _=>aG
 case dnil=>exact aG
 case orz=>
  refine aj (bk H) fun a=>?_;induction a using V.casesOn<;>first|exact aG|exact az
 case cat2=>
  refine aj (bk H) fun a=>aj (bk H) fun b=>?_;induction a using V.casesOn<;>first|exact az|skip
  induction b using V.casesOn<;>first|exact az|exact aj eM fun _=>aG
 case blur=>exact aj (bk H) fun _=>aG
 case pin=>exact aj (bk H) fun _=>aj tV fun _=>aG
 case idxq=>exact aj (H.e _) fun _=>aj (bk H) fun _=>aj u7 fun _=>aG
 case unq=>exact aj (bk H) fun _=>aj tP fun _=>aG
 case stuck=>exact az
omit H in
theorem q9:∀ {xs:List Nat} {v:X},aW (jA xs v) (jA xs v)
 |[],_=>aG
 |x::r,v=>aj ni fun _=>q9
omit H in
theorem q0:∀ {xs:List Nat} {l:List V},aW (js xs l) (js xs l)
 |[],[]=>aG
 |x::r,v::l=>aj ni fun _=>q0
 |[],_::_=>az
 |_::_,[]=>az
theorem Bn {c:CS}:aW (bN T R c) (bN T R' c):=by
 induction c using CS.casesOn
 case e=>
  refine aj (H.e _) fun y=>?_;induction y using X.casesOn<;>first|exact az|skip
  rename_i v;induction v using V.casesOn<;>first|exact az|exact aG
 case asg=>exact aj (H.e _) fun _=>aj q9 fun _=>aG
 case asgF o f e=>
  have h:∀ b:Bool,aW (match b with|true=>lh T o f|false=>li T R o f e) (match b with|true=>lh T o f|false=>li T R' o f e):=fun b=>by
   induction b using Bool.casesOn with
   |false=>exact aj (H.e _) fun _=>aj (H.e _) fun _=>aj l0 fun _=>aG
   |true=>
    dsimp only [lh];induction lO o using Option.casesOn with
    |none=>exact az
    |some z=>
     refine aj qc fun y=>?_;induction y using X.casesOn<;>first|exact az|(dsimp only [qB];exact aj l5 fun _=>aj l0 fun _=>aG)
  exact h _
 case unp=>
  refine aj (bk H) fun y=>?_;induction y using V.casesOn<;>first|exact az|exact aj q0 fun _=>aG
 case setI=>exact aj (bk H) fun _=>aj (H.e _) fun _=>aj (bk H) fun _=>aj tS fun _=>aG
 case augN=>exact aj qc fun _=>aj cX fun _=>aj (bk H) fun _=>aj nq fun _=>aj ni fun _=>aG
 case augF=>exact aj (H.e _) fun _=>aj nr fun _=>aj cX fun _=>aj (bk H) fun _=>aj nq fun _=>aj l0 fun _=>aG
 case ife=>exact aj (H.t _) fun b=>by induction b using Bool.casesOn<;>exact H.ss _
 case whl=>exact H.whl _ _
 case «for» x e b=>
  have h:∀ r:Option CE,aW (match r with|some n=>l9 R x n b|none=>lg R x e b) (match r with|some n=>l9 R' x n b|none=>lg R' x e b):=fun r=>by
   induction r using Option.casesOn with
   |none=>exact aj (H.e _) fun _=>aj qd fun _=>H.fr _ _ _
   |some n=>
    refine aj (bk H) fun y=>?_;induction y using V.casesOn<;>first|exact az|skip
    rename_i i;induction i using Int.casesOn<;>first|exact az|skip
    rename_i k;dsimp only [qy];cases Nat.ble k 1000<;>first|exact az|exact H.fr _ _ _
  exact h _
 case ret=>exact aj (H.e _) fun _=>aG
 case ret0=>exact aG
 case pass=>exact aG
 case stuck=>exact az
theorem bm:∀ {l:List CS},aW (fJ T R l) (fJ T R' l)
 |[]=>aG
 |c::r=>aj (Bn H) fun f=>by induction f using Fl.casesOn<;>first|exact aG|exact bm
theorem Bm {t:CE} {b:List CS}:aW (kj R t b) (kj R' t b):=aj (H.t t) fun c=>by
 induction c using Bool.casesOn
 ·exact aG
 ·refine aj (H.ss b) fun f=>?_;induction f using Fl.casesOn<;>first|exact aG|exact H.whl _ _
theorem qg {x:Nat} {b:List CS}:∀ {l:List V},aW (e8 R x b l) (e8 R' x b l)
 |[]=>aG
 |v::l=>aj ni fun _=>aj (H.ss b) fun f=>by induction f using Fl.casesOn<;>first|exact aG|exact qg
theorem qh {x:Nat} {c:CE}:∀ {l:List V},aW (d0 R x c l) (d0 R' x c l)
 |[]=>aG
 |v::l=>fun σ y σ' e o=>by
  dsimp only [d0] at e;revert e;refine aV (bt R c { σ with heap:=[],loc:=[(x,.v v)] }) ?_ ?_
  ·intro e;exact a0 e
  ·intro w q e;obtain ⟨z,σ₁⟩:=w;obtain ⟨o1,d2,l2,t2,k2⟩:=(aj qh fun _=>aG:aW (a7 (d0 R x c l) fun ys=>ak (z::ys)) (a7 (d0 R' x c l) fun ys=>ak (z::ys))) _ _ _ e o;obtain ⟨o0,d1,l1,t1,k1⟩:=bk H _ _ _ q o1;refine ⟨o0,d1++d2,l2++l1,t2.app t1,fun lc hs=>?_⟩
   (refine am (k2 lc hs) ?_;rintro aQ hs2 k2)
   (refine am (k1 _ .refl) ?_;rintro lc1 _ k1)
   refine aF aQ hs2 (fun r p=>?_);have k1:=k1 (d2++r) p;have k2:=k2 r (l1++p);dsimp only [d0];dsimp only at k1 k2 ⊢
   (change Kw;change k1)
   dsimp only
   (change k2;change Kw;with_reducible rfl)
theorem qe {a:List X}:aW (cI T R f a) (cI T R' f a):=fun σ y σ' e o=>by
 dsimp only [cI] at e;induction q:look T.fns f using Option.casesOn with
 |none=>rw [q] at e;exact a0 e
 |some F=>
  rw [q] at e;dsimp only at e;revert e;refine aV (R.ss F.body { σ with loc:=dU F.params a }) ?_ ?_
  ·intro e;exact a0 e
  ·intro w r e;obtain ⟨fl,σ₁⟩:=w
   (have za:=(af e).1;have zb:=(af e).2;clear e;obtain rfl:=za;obtain rfl:=zb)
   obtain ⟨o0,ds,l,t,k⟩:=H.ss _ _ _ _ r o;refine ⟨o0,ds,l,t,fun lc hs=>⟨lc,hs,fun r p=>?_⟩⟩
   (refine am (k _ .refl) ?_;rintro lc1 _ k)
   have k:=k r p;dsimp only [cI];change q;dsimp only at k ⊢
   (change k;with_reducible rfl)
theorem tQ {F F':Nat→List X→Mo X} (hF:∀ f a,aW (F f a) (F' f a)):gr (ju T R F) (ju T R' F'):=
 ⟨fun _=>Bo H,fun _=>Bj H,fun _=>bm H,hF,fun _ _=>Bm H,fun _ _ _=>qg H,fun _ _ _=>qh H⟩
end
theorem ud:gr su R:=⟨fun _=>az,fun _=>az,fun _=>az,fun _ _=>az,fun _ _=>az,fun _ _ _=>az,fun _ _ _=>az⟩
noncomputable abbrev aS (R:ao):Prop:=gr R R
theorem nu (T:b8):∀ n d,gr (run T n d) (run T n d)
 |0,_=>ud
 |n+1,d=>tQ (nu T n d) fun f a=>by
  induction d using Nat.casesOn with
  |zero=>exact az
  |succ d=>exact qe (nu T n d)
theorem FB {e:CE} (h:on e=true):e=.nil .bms:=by
 induction e using CE.casesOn<;>first|exact ac h|skip
 rename_i k;induction k using LK.casesOn<;>first|exact ac h|rfl
theorem DX {e:CE} {z:Nat} (h:lO e=some z):e=.n z:=by
 induction e using CE.casesOn<;>first|exact a0 h|exact Kq CE.n (Kj h)
theorem C5 {e n:CE} (h:l8 e=some n):e=.rng n:=by
 induction e using CE.casesOn<;>first|exact a0 h|exact Kq CE.rng (Kj h)
theorem DT {z:Nat} {y:X} (h:nG z σ=some (y,σ')):look σ.loc z=some y∧σ'=σ:=by
 dsimp only [nG] at h;generalize look σ.loc z=q at h;induction q using Option.casesOn with
 |none=>exact a0 h
 |some w=>exact ⟨Kq some (af h).1,(af h).2.symm⟩
set_option tactic.hygienic true in
theorem Fy {i:V} (h:md i=true):i=.int (-1):=by
 induction i using V.casesOn<;>first|exact ac h|skip
 rename_i i;induction i using Int.casesOn<;>first|exact ac h|skip
 rename_i n;induction n using Nat.casesOn<;>first|exact ac h|rfl
theorem By {o:X} {i x:V} {r:Unit×St} (h:nv o i x σ=some r):∃ k,o=.r k∧i=.int (-1)∧a7 (cw k) (nw k x) σ=some r:=by
 induction o using X.casesOn with
 |r k=>
  have h:(match md i with|true=>a7 (cw k) (nw k x)|false=>no) σ=some r:=h;revert h;refine d8 (md i) (fun _ h=>a0 h) fun q h=>?_;exact ⟨k,rfl,Fy q,h⟩
 |_=>exact a0 h
set_option tactic.hygienic true in
theorem Bz {k:Nat} {x:V} {c:a8} {r:Unit×St} (h:nw k x c σ=some r):∃ w l,c=.lst (w::l)∧df k (.lst (eN (w::l) ((w::l).length - 1) x)) σ=some r:=by
 induction c using a8.casesOn<;>first|exact a0 h|skip
 rename_i l;induction l using List.casesOn with
 |nil=>exact a0 h
 |cons w l=>exact ⟨w,l,rfl,h⟩
theorem Jk {o e:CE} {r:Fl×St} (h:bN T R (.asgF o f e) σ=some r):(∃ z,o=.n z∧e=.nil .bms∧qC T f z σ=some r)∨li T R o f e σ=some r:=by
 have h:(match on e with|true=>lh T o f|false=>li T R o f e) σ=some r:=h;induction q:on e using Bool.casesOn with
 |false=>rw [q] at h;exact .inr h
 |true=>
  rw [q] at h;have h:(match lO o with|some z=>qC T f z|none=>no) σ=some r:=h;revert h;refine aV (lO o) ?_ ?_
  ·intro h;exact a0 h
  ·intro z q2 h;exact .inl ⟨z,DX q2,FB q,h⟩
theorem Gr {x:Nat} {e:CE} {b:List CS} {r:Fl×St} (h:bN T R (.for x e b) σ=some r):(∃ n,e=.rng n∧l9 R x n b σ=some r)∨lg R x e b σ=some r:=by
 have h:(match l8 e with|some n=>l9 R x n b|none=>lg R x e b) σ=some r:=h;revert h;refine aV (l8 e) ?_ ?_
 ·intro h;exact .inr h
 ·intro n q h;exact .inl ⟨n,C5 q,h⟩
theorem C6 {x:Nat} {v:V} {b:List CS} {r:Fl×St} (h:qy R x b v σ=some r):∃ k:Nat,v=.int k∧k≤1000∧R.fr x (dL k 0) b σ=some r:=by
 induction v using V.casesOn<;>first|exact a0 h|skip
 rename_i i;induction i using Int.casesOn with
 |negSucc=>exact a0 h
 |ofNat k=>
  have h:(match Nat.ble k 1000 with|true=>R.fr x (dL k 0) b|false=>no) σ=some r:=h;revert h;refine d8 (Nat.ble k 1000) ?_ ?_
  ·intro q h;exact a0 h
  ·intro q h;exact ⟨k,rfl,KB q,h⟩
theorem wk {x:X} {l:List V} (h:items x σ=some (l,σ')):σ'=σ:=by
 induction x using X.casesOn<;>first|exact a0 h|skip
 rename_i v;induction v using V.casesOn<;>first|exact a0 h|exact (bi h).2
set_option tactic.hygienic true in
theorem Fq {y:X} {l:List V} (h:items y σ=some (l,σ')):y=.v (.lst l)∨∃ t:List Nat,y=.v (.str t)∧l=t.map fun c=>.str [c]:=by
 induction y using X.casesOn<;>first|exact a0 h|skip
 rename_i v;induction v using V.casesOn<;>first|exact a0 h|skip
 ·exact .inr ⟨_,rfl,(bi h).1⟩
 ·exact .inl ((bi h).1▸rfl)
set_option tactic.hygienic true in
theorem Dk {w :V} (h:ly y σ=some (w,σ')):(∃ (i:Int) (k:Nat) (r:List Nat),y=.sint i∧w=.int (k:Int)∧σ'={ σ with ds:=r,obs:=(i=(k:Int))::σ.obs })∨(w=y∧σ'=σ):=by
 induction y using V.casesOn<;>first|exact .inr (bi h)|skip
 rename_i i;dsimp only [ly] at h;generalize σ.ds=ds at h;induction ds using List.casesOn with
 |nil=>exact a0 h
 |cons k r=>exact .inl ⟨i,k,r,rfl,(af h).1.symm,(af h).2.symm⟩
set_option tactic.hygienic true in
theorem z0 {l:List V} {w :V} (h:kQ l y σ=some (w,σ')):(∃ (x:V) (r:List Nat),y=.opq x∧σ'={ σ with ds:=r,obs:=(x=w)::σ.obs })∨(w=y∧σ'=σ):=by
 induction y using V.casesOn<;>first|exact .inr (bi h)|skip
 rename_i x;dsimp only [kQ] at h;generalize σ.ds=ds at h;induction ds using List.casesOn with
 |nil=>exact a0 h
 |cons k r=>
  revert h;dsimp only;refine aV (bB l k) (fun h=>a0 h) fun z _ h=>?_;exact .inl ⟨x,r,rfl,(af h).1▸(af h).2.symm⟩
theorem Dn {α:Type} {l:List α} {i:Int} {y:α} (h:fD l i σ=some (y,σ')):∃ (k:Nat) (r:List Nat),bB l k=some y∧σ'={ σ with ds:=r,obs:=(i=(k:Int))::σ.obs }:=by
 dsimp only [fD] at h;generalize σ.ds=ds at h;induction ds using List.casesOn with
 |nil=>exact a0 h
 |cons k r=>
  revert h;dsimp only;refine aV (bB l k) (fun h=>a0 h) fun z q h=>?_;exact ⟨k,r,q.trans (Kq some (af h).1),(af h).2.symm⟩
set_option tactic.hygienic true in
theorem FM {o:X} {i :V} (h:ou o i σ=some (y,σ')):∃ l k,o=.v (.lst l)∧i=.sint k∧(a7 (bE (0≤k∧k < l.length)) fun _=>ak (.opq (cZ l k))) σ=some (y,σ'):=by
 induction o using X.casesOn<;>first|exact a0 h|skip
 rename_i v;induction v using V.casesOn<;>first|exact a0 h|skip
 induction i using V.casesOn<;>first|exact a0 h|exact ⟨_,_,rfl,rfl,h⟩
set_option tactic.hygienic false
theorem gA {x:Str} (h:dE e=some x):∃ p,e=.Name x p:=by induction e using Expr.casesOn<;>(first|exact a0 h|(replace h:=Kj h;obtain rfl:=h));exact ba _ rfl
theorem JE {v :Expr} {a:Str} (h:yY e=some (v,a)):∃ p,e=.Attribute v a p:=by induction e using Expr.casesOn<;>(first|exact a0 h|(have za:=(af h).1;have zb:=(af h).2;clear h;obtain rfl:=za;obtain rfl:=zb));exact ba _ rfl
theorem yX {c:Const} (h:pI e=some c):∃ k p,e=.Constant c k p:=by induction e using Expr.casesOn<;>(first|exact a0 h|(replace h:=Kj h;obtain rfl:=h));exact gR _ _ rfl
theorem yW {l:List Expr} (h:pH e=some l):∃ k p,e=.Tuple l k p:=by induction e using Expr.casesOn<;>(first|exact a0 h|(replace h:=Kj h;obtain rfl:=h));exact gR _ _ rfl
@[elab_as_elim] theorem v9 {P:Expr→Prop} {e:Expr} {f:Const→Bool} (h:r7 e f=true) (k:∀ c x p,f c=true→P (.Constant c x p)):P e:=by
 induction e using Expr.casesOn<;>first|exact k _ _ _ h|exact ac h
@[elab_as_elim] theorem r9 {P:Expr→Prop} {e:Expr} {f:Expr→Str→Bool} (h:lI e f=true) (k:∀ o a p,f o a=true→P (.Attribute o a p)):P e:=by
 induction e using Expr.casesOn<;>first|exact k _ _ _ h|exact ac h
set_option tactic.hygienic true in
@[elab_as_elim] theorem uY {P:Expr→Prop} {e:Expr} {f:Expr→Bool} (h:uZ e f=true) (k:∀ x p,f x=true→P (.UnaryOp .Not x p)):P e:=by
 induction e using Expr.casesOn<;>first|exact ac h|skip
 rename_i op x p;induction op using UnaryOp.casesOn<;>first|exact k _ _ h|exact ac h
set_option tactic.hygienic true in
@[elab_as_elim] theorem DA {P:Expr→Prop} {e:Expr} {f:Expr→Bool} (h:qU e f=true) (k:∀ x p,f x=true→P (.UnaryOp .USub x p)):P e:=by
 induction e using Expr.casesOn<;>first|exact ac h|skip
 rename_i op x p;induction op using UnaryOp.casesOn<;>first|exact k _ _ h|exact ac h
set_option tactic.hygienic true in
@[elab_as_elim] theorem vm {P:Expr→Prop} {e:Expr} {f:List Expr→Bool} (h:vn e f=true) (k:∀ l p,f l=true→P (.BoolOp .And l p)):P e:=by
 induction e using Expr.casesOn<;>first|exact ac h|skip
 rename_i op x p;induction op using BoolOp.casesOn<;>first|exact k _ _ h|exact ac h
set_option tactic.hygienic true in
@[elab_as_elim] theorem qS {P:Expr→Prop} {e:Expr} {f:List Expr→Bool} (h:qT e f=true) (k:∀ l p,f l=true→P (.BoolOp .Or l p)):P e:=by
 induction e using Expr.casesOn<;>first|exact ac h|skip
 rename_i op x p;induction op using BoolOp.casesOn<;>first|exact k _ _ h|exact ac h
@[elab_as_elim] theorem v6 {P:Expr→Prop} {e:Expr} {f:Expr→Expr→Expr→Bool} (h:v7 e f=true) (k:∀ t b o p,f t b o=true→P (.IfExp t b o p)):P e:=by
 induction e using Expr.casesOn<;>first|exact k _ _ _ _ h|exact ac h
@[elab_as_elim] theorem r8 {P:Expr→Prop} {e:Expr} {f:Expr→Operator→Expr→Bool} (h:lH e f=true) (k:∀ l o r p,f l o r=true→P (.BinOp l o r p)):P e:=by
 induction e using Expr.casesOn<;>first|exact k _ _ _ _ h|exact ac h
@[elab_as_elim] theorem vg {P:Expr→Prop} {e:Expr} {f:Expr→List CmpOp→List Expr→Bool} (h:vh e f=true) (k:∀ l o r p,f l o r=true→P (.Compare l o r p)):P e:=by
 induction e using Expr.casesOn<;>first|exact k _ _ _ _ h|exact ac h
@[elab_as_elim] theorem uV {P:Expr→Prop} {e:Expr} {f:List Expr→Bool} (h:nM e f=true) (k:∀ l k p,f l=true→P (.Tuple l k p)):P e:=by
 induction e using Expr.casesOn<;>first|exact k _ _ _ h|exact ac h
@[elab_as_elim] theorem nO {P:Expr→Prop} {e:Expr} {f:List Expr→Bool} (h:lC e f=true) (k:∀ l p,f l=true→P (.List l p)):P e:=by
 induction e using Expr.casesOn<;>first|exact k _ _ h|exact ac h
@[elab_as_elim] theorem nN {P:Expr→Prop} {e:Expr} {f:Expr→Expr→Bool} (h:jC e f=true) (k:∀ v s p,f v s=true→P (.Subscript v s p)):P e:=by
 induction e using Expr.casesOn<;>first|exact k _ _ _ h|exact ac h
@[elab_as_elim] theorem Dy {P:Expr→Prop} {e:Expr} {f:Option Expr→Option Expr→Option Expr→Bool} (h:uW e f=true) (k:∀ a b c p,f a b c=true→P (.Slice a b c p)):P e:=by
 induction e using Expr.casesOn<;>first|exact k _ _ _ _ h|exact ac h
@[elab_as_elim] theorem DE {P:Expr→Prop} {e:Expr} {f:Expr→Str→Pos→Bool} (h:vk e f=true) (k:∀ o a p,f o a p=true→P (.Attribute o a p)):P e:=by
 induction e using Expr.casesOn<;>first|exact k _ _ _ h|exact ac h
@[elab_as_elim] theorem jD {P:Expr→Prop} {e:Expr} {f:Expr→List Expr→List Keyword→Pos→Bool} (h:i9 e f=true) (k:∀ g a ks p,f g a ks p=true→P (.Call g a ks p)):P e:=by
 induction e using Expr.casesOn<;>first|exact k _ _ _ _ h|exact ac h
@[elab_as_elim] theorem nP {P:Expr→Prop} {e:Expr} {f:Expr→Pos→Bool} (h:lD e f=true) (k:∀ g p,f g p=true→P (.Call g [] [] p)):P e:=jD h fun g as ks p h=>by
 induction as using List.casesOn<;>first|exact ac h|skip
 induction ks using List.casesOn<;>first|exact k _ _ h|exact ac h
set_option tactic.hygienic true in
@[elab_as_elim] theorem i8 {P:Expr→Prop} {e:Expr} {f:Expr→Expr→Pos→Bool} (h:gH e f=true) (k:∀ g a p,f g a p=true→P (.Call g [a] [] p)):P e:=jD h fun g as ks p h=>by
 induction as using List.casesOn<;>first|exact ac h|skip
 rename_i a r;induction r using List.casesOn<;>first|exact ac h|skip
 induction ks using List.casesOn<;>first|exact k _ _ _ h|exact ac h
set_option tactic.hygienic true in
@[elab_as_elim] theorem DD {P:Expr→Prop} {e:Expr} {f:Expr→Expr→Expr→Bool} (h:vj e f=true) (k:∀ g a b p,f g a b=true→P (.Call g [a,b] [] p)):P e:=jD h fun g as ks p h=>by
 induction as using List.casesOn<;>first|exact ac h|skip
 rename_i a r;induction r using List.casesOn<;>first|exact ac h|skip
 rename_i b r;induction r using List.casesOn<;>first|exact ac h|skip
 induction ks using List.casesOn<;>first|exact k _ _ _ _ h|exact ac h
set_option tactic.hygienic true in
@[elab_as_elim] theorem Dz {P:Expr→Prop} {e:Expr} {f:Expr→Expr→Bool} (h:uX e f=true) (k:∀ a b p,f a b=true→P (.BoolOp .Or [a,b] p)):P e:=qS h fun es p h=>by
 induction es using List.casesOn<;>first|exact ac h|skip
 rename_i a r;induction r using List.casesOn<;>first|exact ac h|skip
 rename_i b r;induction r using List.casesOn<;>first|exact k _ _ _ h|exact ac h
@[elab_as_elim] theorem DC {P:Expr→Prop} {e:Expr} (h:qZ e=true) (k:∀ p,P (.Dict [] [] p)):P e:=by
 induction e using Expr.casesOn<;>first|exact ac h|skip
 refine d9 h fun h1 h2=>?_;clear h;cases KE.mp h1;cases KE.mp h2;exact k _
@[elab_as_elim] theorem v8 {P:Expr→Prop} {e:Expr} {f:Expr→Bool} (h:qY e f=true) (k:∀ a p,f a=true→P (.FormattedValue a 115 none p)):P e:=by
 induction e using Expr.casesOn<;>first|exact ac h|skip
 refine cq h fun h1 h2 h3=>?_;clear h;obtain rfl:=KU h1;obtain rfl:=Lp.mp h2;exact k _ _ h3
set_option tactic.hygienic true in
@[elab_as_elim] theorem DB {P:Expr→Prop} {e:Expr} {f:Expr→Expr→Bool} (h:qX e f=true) (k:∀ a p1 b p2 p,f a b=true→P (.JoinedStr [.FormattedValue a 115 none p1,.FormattedValue b 115 none p2] p)):P e:=by
 induction e using Expr.casesOn<;>first|exact ac h|skip
 rename_i l p;induction l using List.casesOn<;>first|exact ac h|skip
 rename_i x r;induction r using List.casesOn<;>first|exact ac h|skip
 rename_i y t;refine d9 h fun h1 h2=>?_;clear h;obtain rfl:=KE.mp h1;refine v8 h2 fun a p1 h3=>?_;refine v8 h3 fun b p2 h4=>?_;exact k _ _ _ _ _ h4
set_option tactic.hygienic true in
@[elab_as_elim] theorem v5 {P:Expr→Prop} {e:Expr} {f:Expr→Expr→Expr→Scope→Bool} (h:qW e f=true) (k:∀ elt tg it scope p,f elt tg it scope=true→P (.ListComp elt [⟨tg,it,[],0⟩] scope p)):P e:=by
 induction e using Expr.casesOn<;>first|exact ac h|skip
 rename_i elt gs scope p;induction gs using List.casesOn<;>first|exact ac h|skip
 rename_i g r;obtain ⟨tg,it,ifs,asy⟩:=g;refine eG h fun h1 h2 h3 h4=>?_;obtain rfl:=KE.mp h1;clear h;obtain rfl:ifs=[]:=KE.mp h2;clear h2;obtain rfl:asy=0:=KU h3;exact k _ _ _ _ _ h4
theorem dJ {a b:Str}:sq a b=true↔a=b:=Fast.sEq_iff
theorem rA (l:List (Str×NameKind)) (x:Str):dP l x=l.lookup x:=by
 induction l with
 |nil=>rfl
 |cons p r ih=>
  obtain ⟨a,b⟩:=p;dsimp only [dP];change List.lookup_cons;induction q:sq x a using Bool.casesOn with
  |true=>change dJ.mp q;simp
  |false=>
   have:(x==a)=false:=by
    induction z:x==a using Bool.casesOn with
    |false=>rfl
    |true=>rw [Kx] at z;rw [dJ.mpr z] at q;contradiction
   change this;exact ih
noncomputable def K5:List Nat→List Nat→Bool:=bV
theorem ft:∀ {a b:List Nat},bV a b=true↔a=b
 |[],[]=>⟨fun _=>rfl,fun _=>rfl⟩
 |[],_::_=>⟨fun h=>(by exact ac h),fun h=>(by contradiction)⟩
 |_::_,[]=>⟨fun h=>(by exact ac h),fun h=>(by contradiction)⟩
 |a::r,b::t=>by
  dsimp only [bV];induction q:Nat.beq a b using Bool.casesOn with
  |true=>change cS.mp q;dsimp only;refine dG (ft ..) ?_;exact ⟨fun h=>(by (change h;with_reducible rfl)),fun h=>(Kr h).2⟩
  |false=>exact ⟨fun h=>(by exact ac h),fun h=>absurd (Kr h).1 (iz.mp q)⟩
theorem xX {a:bU} {o:Operator} (h:oZ a o=true):o=xY a:=KU h
theorem xK {a:cG} {o:CmpOp} (h:oT a o=true):o=xL a:=KU h
section
variable (T:b8) (sc:List (Str×NameKind))
theorem zV {v:V} {a:Nat} (h:pP v=some a):v=.stat a:=by
 induction v using V.casesOn<;>first|exact a0 h|exact Kq _ (Kj h)
end
theorem Fu {k:Const} (h:wo k=true):k=.int 0:=by
 induction k using Const.casesOn<;>first|exact ac h|exact Kq _ (KU h)
theorem yz (h:pA e=true):∃ k p,e=.Constant (.int 0) k p:=by
 unfold pA at h;revert h;refine aV (pI e) (fun h=>ac h) fun c q h=>?_
 (refine d6 (yX q) ?_;rintro k p hp)
 exact ⟨k,p,Fu h▸hp⟩
structure Jy (W:Wd) (c n g:Nat):Prop where
 find:findIn W.K (.ref c) (W.T.nm n)=some (some (.ref g))
 fn:isFn W.K (.ref g)=true
 get:specialIn W.K (.ref g) "__get__"=some (some (.builtin "function.__get__"))
 takes:takesIn W.K (.ref g)=some false
 name:copiedNames.contains (W.T.nm n)=false
structure JC (W:Wd) (c:Nat):Prop where
 get:plainGet W.K c ""=true
 dict:hasDictIn W.K c=true
 over:plainOver W.K c=true
 set:findIn W.K (.ref c) "__setattr__"=some (some (.builtin "object.__setattr__"))
structure Facts (W:Wd):Prop where
 inj:∀ a b,W.T.nm a=W.T.nm b→a=b
 cls:∀ c l,look W.T.flds c=some l→JC W c
 fld:∀ c l n,look W.T.flds c=some l→bq l n=true→findIn W.K (.ref c) (W.T.nm n)=some none
 meth:∀ c n g,cL W.T.meths c n=some g→Jy W c n g∧∃ l,look W.T.flds c=some l
 cval:∀ c n y,cL W.T.cvals c n=some y→∃ v l,findIn W.K (.ref c) (W.T.nm n)=some (some v)∧specialIn W.K v "__get__"=some none∧copiedNames.contains (W.T.nm n)=false∧
  (∀ Z:ZM,(∀ a o,W.K.lookup a=some o→Z a=some o)→aa W Z v y)∧look W.T.flds c=some l
theorem oJ {es:Array DictEntry} {is:Str→Value→Bool} {x:Str}:findBy is es x=(es.toList.find? fun e=>is x e.key).map (·.val):=by
 unfold findBy
 (refine aT (Array.find?_toList ..) ?_;with_reducible rfl)
theorem F5 {o:Obj} {es:Array DictEntry} {ep:Nat} (hd:o.data=.dict es ep) (hk:StrKeys es) (name:Str):lookIn name o=some (nsFind es name):=by
 dsimp only [lookIn,nsFind]
 (change hd;change oJ)
 dsimp only;induction q:es.toList.find? fun e=>e.key.isStr name using Option.casesOn with
 |some e=>rfl
 |none=>
  have:es.toList.any (·.refKey)=false:=by
   refine dG (List.any_eq_false ..) ?_;intro e he
   (refine d6 (hk e (Array.mem_toList_iff.mp he)) ?_;rintro n t h)
   simp [DictEntry.refKey,h]
  dsimp only;change this;rfl
section
variable {W:Wd} {A:Around} {E:Value→Shared→Prop} {s:Shared} {a d:Addr} {c:Nat} {m:Str→Option Value} {Q:Value→Shared→Prop} {expr:Bool}
theorem j6 {h:Heap} (hi:h.get? a=some (instObj c d)) (hm:h.Ns d m):∃ od,InstAt h a (instObj c d) c (some od)∧∀ name,lookIn name od=some (m name):=by
 (refine s7 hm ?_;(try clear hm);rintro o es ep h1 h2 h3 h4)
 exact aF o ⟨hi,rfl,rfl,h1⟩ (fun name=>by (rewrite [F5 h2 h3];change h4;with_reducible rfl))
theorem rO {v:Value} (F:Facts W) (X:W.K.In s.heap) (hi:s.heap.get? a=some (instObj c d)) (hm:s.heap.Ns d m) (hl:∃ l,look W.T.flds c=some l∧bq l f=true) (hv:m (W.T.nm f)=some v)
  (hh:handedIn v=true) (h:Q v { s with toks:=s.toks+1 }):wpAny (model W.prog W.w) A (getAttr (.ref a) (W.T.nm f) expr) Q E s:=by
 (refine am (j6 hi hm) ?_;rintro od I lk)
 (refine am hl ?_;(try clear hl);rintro l h1 h2)
 have C:=F.cls c l h1;exact get_value X I (Ld C.get).1 (findObj_own C.dict (F.fld c l f h1 h2) rfl (by (change lk;change hv;with_reducible rfl))) hh h
theorem Gm {n :Nat} (F:Facts W) (X:W.K.In s.heap) (hi:s.heap.get? a=some (instObj c d)) (hm:s.heap.Ns d m) (hg:cL W.T.meths c n=some g) (hv:m (W.T.nm n)=none)
  (h:Q (.ref s.heap.objs.size) { s with heap:=s.heap.push (methodObj (.ref g) (.ref a)),toks:=s.toks+1 }):wpAny (model W.prog W.w) A (getAttr (.ref a) (W.T.nm n) expr) Q E s:=by
 (refine am (j6 hi hm) ?_;rintro od I lk)
 obtain ⟨M,l,h1⟩:=F.meth c n g hg;have C:=F.cls c l h1;exact get_bind X I (Ld C.get).1 (findObj_fn C.dict M.find M.get M.takes M.name (by (change lk;change hv;with_reducible rfl))) (Ld C.get).2
  (Lq (fn_get (s:={ s with toks:=s.toks+1 }) X (Kx.mp M.fn) (handed_on rfl h)))
end
section
variable {name:Str} {hh:Int} {t:Tok} {v:Value}
noncomputable abbrev i5 (name:Str) (hh:Int) (t:Tok) (v:Value) (l:List DictEntry):List DictEntry:=PySem.putIn (·.key.isStr name) (fun e=>{ e with val:=v }) ⟨hh,.str name t,v⟩ l
theorem qG {e:DictEntry} {r:List DictEntry} (p:e.key.isStr name=true):i5 name hh t v (e::r)={ e with val:=v }::r:=PySem.putIn_hit (·.key.isStr name) _ _ e r p
theorem qF {e:DictEntry} {r:List DictEntry} (p:e.key.isStr name=false):i5 name hh t v (e::r)=e::i5 name hh t v r:=PySem.putIn_miss (·.key.isStr name) _ _ e r p
theorem uI (y:Str):∀ l:List DictEntry,((i5 name hh t v l).find? fun e=>e.key.isStr y).map (·.val)=if y=name then some v else (l.find? fun e=>e.key.isStr y).map (·.val)
 |[]=>by
  refine (?_:(([⟨hh,.str name t,v⟩]:List DictEntry).find? _).map _=_)
  by_cases q:y=name
  ·subst q;simp [Value.isStr]
  ·have:((name==y):Bool)=false:=by simpa using fun e=>q e.symm
   simp [Value.isStr,q,this]
 |e::r=>by
  induction p:e.key.isStr name using Bool.casesOn with
  |true=>
   change qG p
   by_cases q:y=name
   ·subst q;simp [p]
   ·have:e.key.isStr y=false:=by
     induction z:e.key.isStr y using Bool.casesOn with
     |false=>rfl
     |true=>exact absurd (Value.isStr_inj _ _ _ z p) q
    simp [this,q]
  |false=>
   change qF p;induction z:e.key.isStr y using Bool.casesOn with
   |true=>
    have q:y≠name:=fun q=>by subst q;rw [p] at z;exact ac z
    simp [z,q]
   |false=>
    simp only [List.find?_cons,z];exact uI y r
set_option tactic.hygienic true in
theorem uG:∀ l:List DictEntry,(i5 name hh t v l).length≤if ((l.find? fun e=>e.key.isStr name).map (·.val)).isSome then l.length else l.length+1
 |[]=>by refine (?_:([_]:List DictEntry).length≤_);simp
 |e::r=>by
  induction p:e.key.isStr name using Bool.casesOn with
  |true=>change qG p;simp [p]
  |false=>
   change qF p;simp only [List.find?_cons,p,Ko];have:=uG r
   split<;>rename_i q<;>simp only [q,if_true,if_false,Lz] at this<;>exact KR M1
theorem uH:∀ l:List DictEntry,(∀ e∈l,∃ n t,e.key=.str n t)→∀ e∈i5 name hh t v l,∃ n t,e.key=.str n t
 |[],_,e,he=>by
  have he:e∈([⟨hh,.str name t,v⟩]:List DictEntry):=he;simp at he;subst he;exact gR _ _ rfl
 |x::r,hk,e,he=>by
  induction p:x.key.isStr name using Bool.casesOn with
  |true=>
   rw [qG p] at he;rcases KQ.mp he with rfl|he
   ·exact hk x (.head _)
   ·exact hk e (.tail _ he)
  |false=>
   rw [qF p] at he;clear p;rcases KQ.mp he with rfl|he
   ·exact hk _ (.head _)
   ·exact uH r (fun e he=>hk e (.tail _ he)) e he
end
section
variable {M:Model} {A:Around} {E:Value→Shared→Prop} {s:Shared} {d:Addr} {m:Str→Option Value} {k:Nat} {name:Str} {v:Value}
theorem DP {Q:Unit→Shared→Prop} (hn:jq s.heap d m k)
  (h:∀ h',jq h' d (fun x=>if x=name then some v else m x) (if (m name).isSome then k else k+1)→Heap.SameBut d s.heap h'→Q Unit.unit { s with heap:=h',toks:=s.toks+1 }):wpAny M A (nsSet d name v) Q E s:=by
 (refine dp hn ?_;(try clear hn);rintro o es ep ho hd hk hm hz)
 unfold nsSet;refine Km (Km (wpAny_askSetting (Kv (Km (wpAny_mkText (Km (wpAny_loadPart ho ?_)))))));change hd;dsimp only;have hany:es.any (·.refKey)=false:=by
  refine dG (Array.any_eq_false' ..) ?_;intro e he
  (refine d6 (hk e he) ?_;rintro n t q)
  simp [DictEntry.refKey,q]
 (change aRefKeyMayBeTheName_at;change hany;change Bool.and_false;change Kp M0)
 refine wpAny_updatePart (s:={ s with toks:=s.toks+1 }) ho (h _ ?_ (Heap.SameBut.update ..));obtain ⟨c,dd,dt,sl⟩:=o;dsimp only at hd;subst hd;clear hany;obtain ⟨l⟩:=es;have hf:∀ y,nsFind ⟨l⟩ y=(l.find? fun e=>e.key.isStr y).map (·.val):=fun y=>oJ;refine jW _ _ _ (Heap.get?_update_self _ ho (by change PySem.putName_eq;rfl)) (by (change PySem.putName_eq;with_reducible rfl)) (fun e he=>uH l (fun e he=>hk e (by simpa using he)) e (by simpa using he)) (fun y=>?_) ?_
 ·refine (?_:findBy _ _ y=_);change oJ;refine (?_:((i5 name _ _ v l).find? _).map _=_);change uI;dsimp only
  (refine aT (hm y ..) ?_;change hf;with_reducible rfl)
 ·refine (?_:(i5 name _ _ v l).toArray.size≤_)
  (change KH;refine aT (hm name ..) ?_;change hf)
  have:=uG (name:=name) (hh:=(if name.cps.isEmpty then 0 else reduceHash (M.w.params.strHash name.cps))) (t:=s.toks) (v:=v) l;have hz':l.length≤k:=by simpa using hz
  refine Kl this ?_
  split<;>(first|assumption|exact KR M1)
end
section
variable {W:Wd} {A:Around} {E:Value→Shared→Prop} {s:Shared} {a d:Addr} {c:Nat} {m:Str→Option Value} {k:Nat}
theorem Bv {v:Value} {Q:Unit→Shared→Prop} (F:Facts W) (X:W.K.In s.heap) (hi:s.heap.get? a=some (instObj c d)) (hm:jq s.heap d m k) (hk:k≤1000) (hl:∃ l,look W.T.flds c=some l∧bq l f=true)
  (h:∀ h' t',jq h' d (fun x=>if x=W.T.nm f then some v else m x) (if (m (W.T.nm f)).isSome then k else k+1)→Heap.SameBut d s.heap h'→Q Unit.unit { s with heap:=h',toks:=t' }):
  wpAny (model W.prog W.w) A (setAttr (.ref a) (W.T.nm f) v) Q E s:=by
 (refine am (j6 hi hm.ns) ?_;rintro od I lk)
 (refine am hl ?_;(try clear hl);rintro l h1 h2)
 have C:=F.cls c l h1;refine set_plain X I C.set (osa_open (s:={ s with toks:=s.toks+1 }) X I C.over (by unfold takerIn;change F.fld c l f h1 h2;rfl) fun b=>?_)
 (refine am (any_some C.dict) ?_;rintro cd hc hd')
 refine Km (Kv (Km (Km (wpAny_loadPart (s:={ s with toks:=s.toks+1 }) hi (Km (Looks.here (s:={ s with toks:=s.toks+1 }) (looks_clsIn (h:=s.heap) X hc) ?_))))));change hd';refine Kv (a:=some d) (Km (Kv (Km (DP (s:={ s with toks:=s.toks+1 }) hm fun h' hn hs=>?_))));have hn':=hn
 (refine dp hn' ?_;(try clear hn');rintro o es ep ho hdd _ _ hz)
 refine Km (wpAny_lookBehind ho (by change hdd;exact pastItsLine_dict (by have:es.size≤1001:=Kl hz (by split<;>(first|exact KK M1|exact KR M1));change KL;exact Kl M1 M0)) ?_);exact Kv (h h' _ hn hs)
end
set_option tactic.hygienic true
structure Cx where
 env:Env
noncomputable abbrev Cx.fd (c:Cx):Env:=c.env
noncomputable abbrev Cx.L (c:Cx):Addr:=c.env.locals
structure aJ (W:Wd) (c:Cx):Prop where
 kind:c.fd.scope.kind=.function
 glob:c.fd.globals=mainGlobals
 blt:c.fd.builtins=builtinsNs
noncomputable def aL (A:Around) (d:Nat):Prop:=A.depth+4 * d+8≤recursionLimit∧A.units+40 * d+100≤cLine∧A.handled=none
noncomputable abbrev EP (W:Wd) (c:Cx) (Z:ZM) (ρ:List (Addr×Addr)) (s:Shared) (hp:List a8) (σ':St) (x:X) (Q:Value→Shared→Prop):Prop:=
 ∀ v s' Z' ρ' m',a9 W Z' ρ' s'.heap c.L m' σ'→bg W Z' ρ' v x→aA Z ρ s.heap c.L hp Z' ρ' s'.heap σ'.heap→s'.gens=s.gens→s'.os=s.os→Q v s'
noncomputable abbrev BP (W:Wd) (c:Cx) (Z:ZM) (ρ:List (Addr×Addr)) (s:Shared) (hp:List a8) (σ':St) (b:Bool) (Q:Bool→Shared→Prop):Prop:=
 ∀ s' Z' ρ' m',a9 W Z' ρ' s'.heap c.L m' σ'→aA Z ρ s.heap c.L hp Z' ρ' s'.heap σ'.heap→s'.gens=s.gens→s'.os=s.os→Q b s'
noncomputable def SE (W:Wd) (d:Nat) (ev:CE→Mo X):Prop:=
 ∀ (c:Cx) (n:Nat) (ce:CE) (e:Expr) (σ σ':St) (x:X) (Z:ZM) (ρ:List (Addr×Addr)) (m:Str→Option Value) (s:Shared) (A:Around) (Q:Value→Shared→Prop) (E:Value→Shared→Prop),
  aJ W c→al W.T c.fd.scope.names n ce e=true→ev ce σ=some (x,σ')→ae σ'→a9 W Z ρ s.heap c.L m σ→aL A d→EP W c Z ρ s σ.heap σ' x Q→wpAny (model W.prog W.w) A (eval e c.env) Q E s
noncomputable def hH (W:Wd) (d:Nat) (tv:CE→Mo Bool):Prop:=
 ∀ (c:Cx) (n:Nat) (ce:CE) (e:Expr) (σ σ':St) (b:Bool) (Z:ZM) (ρ:List (Addr×Addr)) (m:Str→Option Value) (s:Shared) (A:Around) (Q:Bool→Shared→Prop) (E:Value→Shared→Prop),
  aJ W c→al W.T c.fd.scope.names n ce e=true→tv ce σ=some (b,σ')→ae σ'→a9 W Z ρ s.heap c.L m σ→aL A d→BP W c Z ρ s σ.heap σ' b Q→wpAny (model W.prog W.w) A (isTrue e c.env (eval e c.env)) Q E s
section
variable {W:Wd} {d:Nat} {R:ao} {c:Cx} {n:Nat} {e:Expr} {σ σ':St} {x:X} {Z:ZM} {ρ:List (Addr×Addr)} {m:Str→Option Value} {s:Shared} {A:Around} {Q:Value→Shared→Prop} {E:Value→Shared→Prop}
theorem a9.kin {h:Heap} {L:Addr} (r:a9 W Z ρ h L m σ):W.K.In h:=fun a o e=>r.zh a o (r.kz a o e)
theorem fh {x:Str}:(Cx.env c).kindOf x=dP c.fd.scope.names x:=(rA _ _).symm
theorem o8 {k:Option NameKind} (h:om k=true):k=some .local:=by
 induction k using Option.casesOn with
 |none=>exact ac h
 |some k=>induction k using NameKind.casesOn<;>first|rfl|exact ac h
theorem wK {k:Option NameKind} (h:rF k=true):k=some .globalImplicit:=by
 induction k using Option.casesOn with
 |none=>exact ac h
 |some k=>induction k using NameKind.casesOn<;>first|rfl|exact ac h
theorem vA {a b:Str} (h:(!sq a b)=true):(a==b)=false:=by
 induction q:a==b using Bool.casesOn with
 |false=>rfl
 |true=>rw [Kx] at q;subst q;rw [dJ.mpr rfl] at h;exact ac h
theorem dY:lim≤sizeLine:=by change KL;decide
theorem AA {v:V} (hc:al W.T c.fd.scope.names (n+1) (.k v) e=true) (r:a9 W Z ρ s.heap c.L m σ) (h:EP W c Z ρ s σ.heap σ (.v v) Q):wpAny (model W.prog W.w) A (eval e c.env) Q E s:=by
 refine v9 hc ?_;clear hc;intro k j p hc;refine (?_:wpAny _ _ (constValue c.env k) _ _ _);induction v using V.casesOn<;>induction k using Const.casesOn<;>first|((first|exact ac hc|cases hc);done)|skip
 ·exact Kv (h _ _ _ _ _ r .none .refl rfl rfl)
 ·have:=Kx.mp hc;clear hc;subst this;exact Kv (h _ _ _ _ _ r .bool .refl rfl rfl)
 ·have:=KU hc;clear hc;subst this;exact wpAny_mkInt (h _ _ _ _ _ r .int .refl rfl rfl)
 ·rename_i l t
  (refine aw (L3.mp hc) ?_;rintro hb hc)
  have e:l=t.cps.toList:=ft.mp hc;have e':t=aq l:=by (change e;with_reducible rfl)
  change e';exact wpAny_mkText (h _ _ _ _ _ r (.str (Kl (KB hb) dY)) .refl rfl rfl)
theorem tG {y:Nat} (ok:aJ W c) (hc:al W.T c.fd.scope.names (n+1) (.n y) e=true) (hx:look σ.loc y=some x) (r:a9 W Z ρ s.heap c.L m σ) (h:EP W c Z ρ s σ.heap σ x Q):wpAny (model W.prog W.w) A (eval e c.env) Q E s:=by
 dsimp only [al,cO] at hc;revert hc;refine aV (dE e) ?_ ?_
 ·intro hc;exact ac hc
 ·intro k q hc
  (refine ay (gA q) ?_;clear q;rintro p rfl)
  refine cq hc fun a b g=>?_;have a:=dJ.mp a;clear hc;subst a
  (refine am (r.loc y x hx) ?_;rintro v hv hr)
  exact wpAny_Name (wpAny_loadName_local ok.kind (by change fh;exact o8 b) r.ns hv (h _ _ _ _ _ r hr .refl rfl rfl)) (vA g)
theorem yg {o:Expr} {a:Str} {t:Sem Value} (h:gf o=true):attributeBase o a env t=t:=by
 induction o using Expr.casesOn with
 |Call f as ks p=>
  induction f using Expr.casesOn with
  |Name x q=>
   induction as using List.casesOn with
   |cons=>rfl
   |nil=>induction ks using List.casesOn with
    |cons=>rfl
    |nil=>exact ac h
  |_=>rfl
 |_=>rfl
theorem oA {v:Value} (h:aa W Z v y):handedIn v=true:=by induction h<;>first|rfl|assumption
theorem FZ {v:Value} {y:X} (h:bg W Z ρ v y):handedIn v=true:=by
 induction y using X.casesOn with
 |v y=>exact oA h
 |r k=>(refine am h ?_;(try clear h);rintro p _ rfl);rfl
 |m k f=>(refine aN h ?_;(try clear h);rintro a p rfl _);rfl
theorem po.ns {h:Heap} {a:Addr} {m:Str→Option Value} (hz:∀ a o,Z a=some o→h.get? a=some o) (H:po Z a m):h.Ns a m:=let ⟨o,es,ep,h1,h2⟩:=H;⟨o,es,ep,hz _ _ h1,h2⟩
theorem so {k:Nat} {cl:a8} (h:cw k σ=some (cl,σ')):σ.heap[k]?=some cl∧σ'=σ:=by
 unfold cw at h
 split at h
 ·rename_i q;(have za:=(af h).1;have zb:=(af h).2;clear h;obtain rfl:=za;obtain rfl:=zb);exact ⟨by refine aT (iQ ..) ?_;exact q,rfl⟩
 ·exact a0 h
@[elab_as_elim] theorem dR {motive:St→Prop} {k:Nat} {cl:a8} (e:cw k σ=some (cl,σ')) (K:σ.heap[k]?=some cl→motive σ):motive σ':=by
 have zq:=so e;rw [zq.2];exact K zq.1
theorem a9.at {h:Heap} {L:Addr} {k:Nat} {cl:a8} {p:Addr×Addr} (r:a9 W Z ρ h L m σ) (hp:ρ[k]?=some p) (hc:σ.heap[k]?=some cl):eK W h Z ρ p cl:=r.cell k p cl hp hc
set_option tactic.hygienic true in
theorem tI {y:X} {v:Value} {expr:Bool} (F:Facts W) (hg:kf W.T y f σ=some (x,σ')) (r:a9 W Z ρ s.heap c.L m σ) (hy:bg W Z ρ v y)
  (h:EP W c Z ρ s σ.heap σ' x Q):wpAny (model W.prog W.w) A (getAttr v (W.T.nm f) expr) Q E s:=by
 induction y using X.casesOn with
 |m k g=>exact a0 hg
 |v yv=>
  induction yv using V.casesOn<;>first|exact a0 hg|skip
  rename_i cc fs;dsimp only [kf] at hg;revert hg;refine aV (look fs f) ?_ ?_
  ·intro hg;exact a0 hg
  ·intro z hz hg
   (revert h;refine aR hg ?_;intro h)
   obtain ⟨_,_,_,vf,rfl,fo,h1,h2,h3,h4⟩:=aa.inv hy;exact rO F r.kin (r.zh _ _ h1) (h2.ns r.zh) (fo f z hz) (h3 f z hz) (oA (h4 f z hz)) (h _ _ _ _ _ r (h4 f z hz) .refl rfl rfl)
 |r k=>
  refine ah hg fun cl σ₁ g1 g2=>?_
  (revert g2;refine dR g1 fun hc=>?_;intro g2)
  (refine am hy ?_;(try clear hy);rintro p hp rfl)
  clear g1;induction cl using a8.casesOn with
  |ins cc fs=>
   dsimp only at g2;obtain ⟨hi,mm,hd,fo,fr,fe⟩:=r.at hp hc;induction hz:look fs f using Option.casesOn with
   |some z=>
    rw [hz] at g2
    (revert h;refine aR g2 ?_;intro h)
    (refine am (fr f _ hz) ?_;rintro v hv hx)
    exact rO F r.kin hi hd.ns (fo f _ hz) hv (FZ hx) (h _ _ _ _ _ r hx .refl rfl rfl)
   |none=>
    rw [hz] at g2;dsimp only at g2;have hno:mm (W.T.nm f)=none:=by
     induction q:mm (W.T.nm f) using Option.casesOn with
     |none=>rfl
     |some w=>
      (refine aN (fe _ _ q) ?_;rintro n' x' a b)
      have:=F.inj _ _ b;clear hg g2 q b;subst this;rw [hz] at a;exact a0 a
    revert g2;refine aV (cL W.T.meths cc f) ?_ ?_;rotate_left
    ·intro g hg' g2
     (revert h;refine aR g2 ?_;intro h)
     refine Gm F r.kin hi hd.ns hg' hno ?_;refine h _ _ _ _ _ (r.addZ (methodObj (.ref g) (.ref p.1)) rfl) ⟨_,p,rfl,hp,?_⟩ (aA.addZ _ r.fresh) rfl rfl;unfold addZ;(change Ks rfl;with_reducible rfl)
    ·intro g2;dsimp only at g2;revert g2;refine aV (cL W.T.cvals cc f) ?_ ?_
     ·intro g2;exact a0 g2
     ·intro w hw g2
      (revert h;refine aR g2 ?_;intro h)
      (refine Ik (F.cval _ _ _ hw) ?_;rintro u l c1 c2 c3 c4 c5)
      have C:=F.cls _ _ c5;have V:=c4 Z r.kz
      (refine am (j6 hi hd.ns) ?_;rintro od I lk)
      exact get_value r.kin I (Ld C.get).1 (findObj_cls C.dict c1 c2 (oA V) c3 (by (change lk;change hno;with_reducible rfl))) (oA V) (h _ _ _ _ _ r V .refl rfl rfl)
  |_=>exact a0 g2
theorem B6 (F:Facts W) (ok:aJ W c) (H:SE W d R.e) (M:aS R) (hc:al W.T c.fd.scope.names (n+1) (.a ce f) e=true) (hx:bh W.T R (.a ce f) σ=some (x,σ')) (o:ae σ') (r:a9 W Z ρ s.heap c.L m σ) (rm:aL A d)
  (h:EP W c Z ρ s σ.heap σ' x Q):wpAny (model W.prog W.w) A (eval e c.env) Q E s:=by
 refine r9 hc ?_;clear hc;intro b a p hc;refine cq hc fun h1 h2 h3=>?_;have h2:=dJ.mp h2;clear hc;subst h2;refine ah hx fun y σ₁ g1 g2=>?_;refine Attribute_any_ ?_ (by refine (?_:(do let o ← attributeBase b (W.T.nm f) c.env (eval b c.env);_)=_);(change yg h3;with_reducible rfl));refine H c n ce b σ σ₁ y Z ρ m s A _ E ok h1 g1 (ae.of nr g2 o) r rm fun v s' Z' ρ' m' r' hy ex hg ho=>?_;exact tI F g2 r' hy fun v' s'' Z'' ρ'' m'' r'' hx' ex' hg' ho'=>h _ _ _ _ _ r'' hx' (ex.trans ex') (hg'.trans hg) (ho'.trans ho)
end
section
variable {W:Wd} {c:Cx} {σ σ':St} {Z:ZM} {ρ:List (Addr×Addr)} {m:Str→Option Value} {s:Shared} {A:Around} {Q:Value→Shared→Prop} {E:Value→Shared→Prop}
theorem a9.same {h:Heap} {L:Addr} (r:a9 W Z ρ h L m σ) (h1:σ'.heap=σ.heap) (h2:σ'.loc=σ.loc):a9 W Z ρ h L m σ':=by
 obtain ⟨a,b,c,d,e,f,g,i,j,k⟩:=r;exact ⟨a,b,c,d,by change h2;exact e,by change h1;exact f,by change h1;exact g,by change h1;exact i,by change h1;exact j,by change h1;exact k⟩
theorem gd {v:Value} {a:V} {i:Int} (h:aa W Z v a) (hn:bR a=some i):∃ t,v=.int i t:=by
 cases h<;>(first|exact a0 hn|(replace hn:=Kj hn;obtain rfl:=hn))<;>exact ba _ rfl
theorem gB {v:Value} {a:V} {x:List Nat} (h:aa W Z v a) (hn:cg a=some x):∃ t,v=.str (aq x) t∧x.length≤sizeLine:=by
 cases h<;>(first|exact a0 hn|(replace hn:=Kj hn;obtain rfl:=hn))<;>exact aF _ rfl M1
theorem iS {l:Bool} {i:Int} {t:Tok}:aa W Z (.int i t) (gK l i):=by induction l using Bool.casesOn<;>constructor
theorem nV {l:Bool} {x:List Nat} {t:Tok} (h:x.length≤sizeLine):aa W Z (.str (aq x) t) (fH l x):=by induction l using Bool.casesOn<;>constructor<;>exact h
theorem l6 (x y:List Nat):aq x++aq y=aq (x++y):=by
 refine (?_:(⟨x.toArray++y.toArray⟩:Str)=_);simp [aq]
theorem ct (x:List Nat):(aq x).length=x.length:=by refine (?_:x.toArray.size=_);rfl
theorem eQ {p:Prop} {u:Unit} (h:bE p σ=some (u,σ')):σ'={ σ with obs:=p::σ.obs }:=by (have za:=(af h).1;have zb:=(af h).2;clear h;obtain rfl:=za;obtain rfl:=zb);rfl
noncomputable abbrev gq (W:Wd) (c:Cx) (Z:ZM) (ρ:List (Addr×Addr)) (s:Shared) (σ':St) (y:V) (Q:Value→Shared→Prop):Prop:=
 ∀ v s' Z' m',a9 W Z' ρ s'.heap c.L m' σ'→aa W Z' v y→aA Z ρ s.heap c.L σ'.heap Z' ρ s'.heap σ'.heap→s'.gens=s.gens→s'.os=s.os→Q v s'
theorem Jf {x:Int} (h:x.natAbs≤lim):Builtin.Int.intBits x≤64:=intBits_le_64 (by have:lim=1048576:=rfl;omega) (by have:lim=1048576:=rfl;grind)
theorem yc {op:bU} {a b:V} {x y:Int} (hx:bR a=some x) (hy:bR b=some y):cz op a b=(match op with
  |.add=>ak (gK (c9 a&&c9 b) (x+y))
  |.sub=>ak (gK (c9 a&&c9 b) (x - y))
  |.mul=>a7 (bE (x.natAbs≤lim∧y.natAbs≤lim)) fun _=>ak (gK (c9 a&&c9 b) (x * y))
  |.fdiv=>mx (c9 a) x b
  |.mod=>nU (c9 a) x b):=by
 unfold cz;(change hx;change hy)<;>(induction op using bU.casesOn<;>rfl)
theorem AZ {op:bU} {o:Operator} {a b :V} {x z:Int} {va vb:Value} (hop:oZ op o=true) (hx:bR a=some x) (hz:bR b=some z) (hb:cz op a b σ=some (y,σ')) (ob:ae σ') (r:a9 W Z ρ s.heap c.L m σ)
  (ha:aa W Z va a) (hbv:aa W Z vb b) (h:gq W c Z ρ s σ' y Q):wpAny (model W.prog W.w) A (binaryOp o va vb) Q E s:=by
 rw [yc hx hz] at hb
 (refine ay (gd ha hx) ?_;clear ha;rintro t rfl)
 (refine ay (gd hbv hz) ?_;rintro u e)
 subst e;obtain rfl:=xX hop;clear hop;induction op using bU.casesOn
 ·(revert h;refine aR hb ?_;intro h)
  exact add_int (h _ _ _ _ r iS .refl rfl rfl)
 ·(revert h;refine aR hb ?_;intro h)
  exact sub_int (h _ _ _ _ r iS .refl rfl rfl)
 ·refine ah hb fun u' σ₁ g1 g2=>?_;have g1:=eQ g1
  (refine aw (bi g2) ?_;clear hb g2;rintro rfl rfl)
  have ob:=ob (x.natAbs≤lim∧z.natAbs≤lim) (by change g1;exact .head _);exact mul_int (h _ _ _ _ (r.same (by (change g1;with_reducible rfl)) (by (change g1;with_reducible rfl))) iS .refl rfl rfl) (.of_left (Jf ob.1))
 ·induction b using V.casesOn<;>first|(exact a0 hb;done)|skip
  rename_i i;induction i using Int.casesOn<;>first|(exact a0 hb;done)|skip
  rename_i k;clear hbv;induction k using Nat.casesOn<;>first|(exact a0 hb;done)|skip
  rename_i n
  (replace hz:=Kj hz;obtain rfl:=hz)
  dsimp only [mx] at hb;revert hb;refine d8 (Nat.blt n 1000000) ?_ ?_
  ·intro hn hb;exact a0 hb
  ·intro hn hb
   (refine aw (bi hb) ?_;clear hb;rintro rfl rfl)
   have hn:n < 1000000:=KB hn;refine floordiv_int (by refine (?_:((n+1:Nat):Int)≠0);lia) ?_ (.inl (PyProof.noPylong_small (by refine (?_:(n+1:Nat) < _);exact Lg M1 M0)));change Int.fdiv_eq_ediv_of_nonneg _ (by refine (?_:(0:Int)≤((n+1:Nat):Int));exact KZ _);exact h _ _ _ _ r iS .refl rfl rfl
 ·induction b using V.casesOn<;>first|(exact a0 hb;done)|skip
  rename_i i;induction i using Int.casesOn<;>first|(exact a0 hb;done)|skip
  rename_i k;clear hbv;induction k using Nat.casesOn<;>first|((first|exact a0 hb|(have za:=(af hb).1;have zb:=(af hb).2;clear hb;obtain rfl:=za;obtain rfl:=zb));done)|skip
  rename_i n
  (replace hz:=Kj hz;obtain rfl:=hz)
  (refine aw (bi hb) ?_;clear hb;rintro rfl rfl)
  refine mod_int' (by refine (?_:((n+1:Nat):Int)≠0);lia) ?_;change Int.fmod_eq_emod_of_nonneg _ (by refine (?_:(0:Int)≤((n+1:Nat):Int));exact KZ _);exact h _ _ _ _ r iS .refl rfl rfl
theorem t7 {a:V} {x:List Nat} (h:cg a=some x):bR a=none:=by induction a using V.casesOn<;>first|rfl|exact a0 h
theorem B5 {a b :V} {x z:List Nat} {va vb:Value} (hx:cg a=some x) (hz:cg b=some z) (hb:cz .add a b σ=some (y,σ')) (ob:ae σ') (r:a9 W Z ρ s.heap c.L m σ)
  (ha:aa W Z va a) (hbv:aa W Z vb b) (h:gq W c Z ρ s σ' y Q):wpAny (model W.prog W.w) A (binaryOp .Add va vb) Q E s:=by
 have e:cz .add a b=a7 (bE (x.length+z.length≤lim)) fun _=>ak (fH (c9 a&&c9 b) (x++z)):=by
  dsimp only [cz];change t7 hx;clear ha;clear hb;induction a using V.casesOn<;>(first|exact a0 hx|(replace hx:=Kj hx;obtain rfl:=hx))<;>(clear hbv;induction b using V.casesOn)<;>(first|exact a0 hz|(replace hz:=Kj hz;obtain rfl:=hz))<;>rfl
 rw [e] at hb
 (refine am (gB ha hx) ?_;clear ha;rintro t rfl _)
 (refine am (gB hbv hz) ?_;rintro u e _)
 clear hbv;subst e;refine ah hb fun u' σ₁ g1 g2=>?_;have g1:=eQ g1
 (refine aw (bi g2) ?_;clear hb g2;rintro rfl rfl)
 have ob:=ob (x.length+z.length≤lim) (by change g1;exact .head _);refine add_str (fun t' tk=>?_) (by (change ct;change ct);exact Kl ob dY);change l6;exact h _ _ _ _ (r.same (by (change g1;with_reducible rfl)) (by (change g1;with_reducible rfl))) (nV (by change Kn;exact Kl ob dY)) .refl rfl rfl
end
set_option tactic.hygienic false
section
variable {W:Wd} {c:Cx} {σ σ':St} {Z:ZM} {ρ:List (Addr×Addr)} {m:Str→Option Value} {s:Shared} {A:Around} {E:Value→Shared→Prop}
theorem Iw {p:Prop} {b:Bool} (h:cQ p σ=some (b,σ')) (o:ae σ'):(b=true↔p)∧σ'.heap=σ.heap∧σ'.loc=σ.loc:=by
 unfold cQ at h
 split at h
 ·exact a0 h
 ·(have za:=(af h).1;have zb:=(af h).2;clear h;obtain rfl:=za;obtain rfl:=zb);exact b7 ⟨fun e=>(by exact ac e),fun e=>absurd e (o (¬ p) (.head _))⟩ rfl rfl
 ·(have za:=(af h).1;have zb:=(af h).2;clear h;obtain rfl:=za;obtain rfl:=zb);exact b7 ⟨fun _=>o p (.head _),fun _=>rfl⟩ rfl rfl
theorem mJ {p:Prop} [Decidable p] {b:Bool} (h:cQ p σ=some (b,σ')) (o:ae σ'):b=decide p∧σ'.heap=σ.heap∧σ'.loc=σ.loc:=by
 (refine bb (Iw h o) ?_;rintro a b' c')
 refine b7 ?_ b' c';clear h;induction b using Bool.casesOn with
 |true=>exact (LA (a.mp rfl)).symm
 |false=>exact (LB fun q=>(by cases a.mpr q)).symm
noncomputable abbrev pu (W:Wd) (c:Cx) (Z:ZM) (ρ:List (Addr×Addr)) (s:Shared) (σ':St) (b:Bool) (Q:Bool→Shared→Prop):Prop:=
 ∀ s' m',a9 W Z ρ s'.heap c.L m' σ'→s'.heap=s.heap→s'.gens=s.gens→s'.os=s.os→Q b s'
theorem uP {hp:World} {knd:KeyKind W.prog W.w Str} (hk:∀ x t,knd.is x (.str x t)=true):∀ {es:List DictEntry} {l:List (List Nat×V)},es.length=l.length→(∀ (i:Nat) (e:DictEntry) (p:List Nat×V),es[i]?=some e→l[i]?=some p→∃ t,e.key=.str (aq p.1) t)→
  ∃ kvs:List (Str×Value),Pairs knd es kvs∧kvs.map (·.1)=l.map (fun p=>aq p.1)∧kvs.map (·.2)=es.map (·.val)
 |[],[],_,_=>⟨[],.nil,rfl,rfl⟩
 |[],_::_,h,_=>by contradiction
 |_::_,[],h,_=>by contradiction
 |e::es,p::l,h,hh=>by
  (refine dy (uP (hp:=hp) hk (es:=es) (l:=l) (by simpa using h) fun i e p x y=>hh (i+1) e p x y) ?_;rintro kvs a b c)
  (refine ay (hh 0 e p rfl rfl) ?_;rintro t ht)
  exact eT ((aq p.1,e.val)::kvs) (.cons (by change ht;exact hk _ _) rfl a) (by simp [b]) (by simp [c])
theorem iM {a b:List Nat} (h:aq a=aq b):a=b:=by
 have:=Kq (fun s:Str=>s.cps.toList) h;simpa [aq] using this
theorem DR {l:List (List Nat×V)} (h:(l.map (·.1)).Nodup):(l.map (fun p=>aq p.1)).Nodup:=by
 have e:l.map (fun p=>aq p.1)=(l.map (·.1)).map aq:=by change List.map_map;rfl
 change e;exact List.Pairwise.map aq (fun a b n e=>n (iM e)) h
theorem oS {h:Heap} {a:Addr} {n:Nat} {es:List DictEntry} {l:List (List Nat×V)} (hz:h.get? a=some (je es n)) (nd:(l.map (·.1)).Nodup) (hl:es.length=l.length)
  (hk:∀ (i:Nat) (e:DictEntry) (p:List Nat×V),es[i]?=some e→l[i]?=some p→(∃ t,e.key=.str (aq p.1) t)∧e.hash=hashStr W.w (aq p.1)∧p.1.length≤sizeLine):
  ∃ kvs:List (Str×Value),h.DictOf (strKind W.prog W.w) a kvs∧kvs.map (·.1)=l.map (fun p=>aq p.1)∧kvs.map (·.2)=es.map (·.val):=by
 (refine dy (uP (W:=W) (hp:=W.w) (knd:=strKind W.prog W.w) (fun x t=>by refine (?_:Value.isStrOf x (.str x t)=true);simp [Value.isStrOf]) hl fun i e p x y=>(hk i e p x y).1) ?_;rintro kvs p1 p2 p3)
 refine eT kvs ⟨_,_,_,hz,⟨rfl,rfl,rfl⟩,rfl,fun e he=>?_,by simpa using p1,by change p2;exact DR nd⟩ p2 p3;have he:e∈es:=by simpa using he
 (refine ay (List.mem_iff_getElem?.mp he) ?_;rintro i hi)
 have hlt:i < l.length:=by refine aT (hl ..) ?_;exact (List.getElem?_eq_some_iff.mp hi).1
 (refine bb (hk i e l[i] hi (List.getElem?_eq_getElem hlt)) ?_;rintro ⟨t,ht⟩ hh _)
 exact aF (aq l[i].1) (by change ht;refine (?_:Value.isStrOf _ (.str _ t)=true);simp [Value.isStrOf]) hh
theorem rG {α:Type} (l:List α):l.toArray.isEmpty=l.isEmpty:=by induction l using List.casesOn<;>rfl
theorem gj {n:Nat} (h:n≤sizeLine):(n:Int) < 2 ^ 63:=by rw [KL] at h;lia
theorem og {α β:Type} {l:List α} {l':List β} (h:l.length=l'.length):(!l.isEmpty)=ej l':=by
 induction l using List.casesOn<;>induction l' using List.casesOn<;>first|rfl|contradiction
noncomputable def uq:V→V|.opq y=>y|x=>x
theorem zd {x:V} {b:Bool} (h:n4 x σ=some (b,σ')) (o:ae σ'):tv (uq x)=some b∧σ'.heap=σ.heap∧σ'.loc=σ.loc:=by
 have f:∀ {y:Bool},ak y σ=some (b,σ')→some y=some b∧σ'.heap=σ.heap∧σ'.loc=σ.loc:=fun h=>(bi h).1▸(bi h).2▸⟨rfl,rfl,rfl⟩;induction x using V.casesOn with
 |stat=>exact a0 h
 |inst=>exact a0 h
 |sint i=>
  (refine bb (mJ h o) ?_;rintro e e1 e2)
  exact ⟨Kq some ((by by_cases q:i=0<;>simp [q]:(!decide (i=0))=decide (i≠0)).trans e.symm),e1,e2⟩
 |sstr l=>
  (refine bb (mJ h o) ?_;rintro e e1 e2)
  exact ⟨Kq some ((by clear h e;cases l<;>rfl:ej l=decide (l≠[])).trans e.symm),e1,e2⟩
 |opq y=>
  have h:ec (tv y) σ=some (b,σ'):=h;unfold ec at h
  split at h
  ·exact a0 h
  ·(have za:=(af h).1;have zb:=(af h).2;clear h;obtain rfl:=za;clear f h;obtain rfl:=zb);exact b7 (o _ (.head _)) rfl rfl
  ·(have za:=(af h).1;have zb:=(af h).2;clear h;obtain rfl:=za;clear f h;obtain rfl:=zb);exact b7 (o _ (.head _)) rfl rfl
 |_=>exact f h
theorem yZ {v:Value} {x:V} (h:aa W Z v x):aa W Z v (uq x):=by
 induction x using V.casesOn with
 |opq y=>exact aa.inv h
 |_=>exact h
set_option tactic.hygienic true in
theorem Ad {x:V} {v:Value} {b:Bool} {Q:Bool→Shared→Prop} (e:tv x=some b) (r:a9 W Z ρ s.heap c.L m σ') (hv:aa W Z v x) (h:pu W c Z ρ s σ' b Q):wpAny (model W.prog W.w) A (truthy v) Q E s:=by
 cases hv with
 |none=>(replace e:=Kj e;obtain rfl:=e);exact truthy_none (h _ _ r rfl rfl rfl)
 |bool=>(replace e:=Kj e;obtain rfl:=e);exact Lr (h _ _ r rfl rfl rfl)
 |int=>(replace e:=Kj e;obtain rfl:=e);refine truthy_int ?_;exact h _ _ r rfl rfl rfl
 |sint=>(replace e:=Kj e;obtain rfl:=e);refine truthy_int ?_;exact h _ _ r rfl rfl rfl
 |str hz=>
  rename_i l t;refine PySem.P.truthy_str (by change ct;have:=gj hz;lia) ?_
  (change ct;refine aU (show ((l.length:Int) != 0)=b from by refine aT (Kj e ..) ?_;clear hz e;induction l using List.casesOn<;>simp [ej]<;>lia) ?_)
  exact h _ _ r rfl rfl rfl
 |sstr hz=>
  rename_i l t;refine PySem.P.truthy_str (by change ct;have:=gj hz;lia) ?_
  (change ct;refine aU (show ((l.length:Int) != 0)=b from by refine aT (Kj e ..) ?_;clear hz e;induction l using List.casesOn<;>simp [ej]<;>lia) ?_)
  exact h _ _ r rfl rfl rfl
 |stat=>exact a0 e
 |tup hz hs hl _=>
  refine truthy_tuple ⟨_,r.zh _ _ hz,rfl,_,rfl⟩ (by change KH;exact gj hs) ?_
  (change rG;change og hl;change Kj e)
  exact h _ _ r rfl rfl rfl
 |lst hz hs hl _=>
  refine wpAny_truthy_list ⟨_,r.zh _ _ hz,rfl,_,rfl⟩ (by change KH;exact gj hs) ?_
  (change rG;change og hl;change Kj e)
  exact h _ _ r rfl rfl rfl
 |inst=>exact a0 e
 |dct hz ha nd hb hl hk hvv=>
  (refine dy (oS (r.zh _ _ hz) nd hl hk) ?_;rintro kvs k1 k2 _)
  have hlen:=Kq List.length k2;simp only [L4] at hlen;refine wpAny_truthy_dict ha k1 M2 ?_;refine aU (show (!kvs.isEmpty)=b from by (change og hlen;change Kj e;with_reducible rfl)) ?_;exact h _ _ r rfl rfl rfl
 |opq=>exact a0 e
theorem Ah {x:V} {v:Value} {b:Bool} {Q:Bool→Shared→Prop} (ht:n4 x σ=some (b,σ')) (o:ae σ') (r:a9 W Z ρ s.heap c.L m σ) (hv:aa W Z v x) (h:pu W c Z ρ s σ' b Q):wpAny (model W.prog W.w) A (truthy v) Q E s:=
 bb (zd ht o) fun e e1 e2=>Ad e (r.same e1 e2) (yZ hv) h
theorem Ag {x:X} {v:Value} {b:Bool} {Q:Bool→Shared→Prop} (ht:gC x σ=some (b,σ')) (o:ae σ') (r:a9 W Z ρ s.heap c.L m σ) (hv:bg W Z ρ v x) (h:pu W c Z ρ s σ' b Q):wpAny (model W.prog W.w) A (truthy v) Q E s:=by
 induction x using X.casesOn with
 |v x=>exact Ah ht o r hv h
 |r k=>
  refine ah ht fun cl σ₁ g1 g2=>?_
  (revert g2;refine dR g1 fun hc=>?_;intro g2)
  (refine am hv ?_;(try clear hv);rintro p hp rfl)
  clear g1;induction cl using a8.casesOn with
  |lst l=>
   (refine aw (bi g2) ?_;clear ht g2;rintro e rfl)
   (refine cv (r.at hp hc) ?_;rintro vs n h1 h2 h3 h4)
   refine wpAny_truthy_list ⟨_,h1,rfl,_,rfl⟩ (by change KH;exact gj h2) ?_
   (change rG;change og h3;refine aT (e ..) ?_)
   exact h _ _ r rfl rfl rfl
  |_=>exact a0 g2
 |m k f=>exact a0 ht
theorem AU {op:cG} {o:CmpOp} {a b:V} {x y:Int} {va vb:Value} {t:Bool} {Q:Value→Shared→Prop} (hop:oT op o=true) (ho:op=.lt∨op=.le∨op=.gt∨op=.ge) (hx:bR a=some x) (hy:bR b=some y)
  (hc:eD op a b σ=some (t,σ')) (ob:ae σ') (r:a9 W Z ρ s.heap c.L m σ) (ha:aa W Z va a) (hb:aa W Z vb b)
  (h:∀ s',a9 W Z ρ s'.heap c.L m σ'→s'.heap=s.heap→s'.gens=s.gens→s'.os=s.os→Q (.bool t) s'):wpAny (model W.prog W.w) A (compareOp o va vb) Q E s:=by
 have key:∀ p q:Prop,[Decidable p]→[Decidable q]→(oU op x y=some (decide p)∧(kx op x y=some q)∧(p↔q))→t=decide p∧σ'.heap=σ.heap∧σ'.loc=σ.loc:=by
  intro p q _ _ ⟨c1,c2,c3⟩;have two:(aZ (oU op x y) σ=some (t,σ'))∨((match kx op x y with|some p=>cQ p|none=>no) σ=some (t,σ')):=by
   clear ha;induction a using V.casesOn<;>(first|exact a0 hx|(replace hx:=Kj hx;obtain rfl:=hx))<;>(clear hb;induction b using V.casesOn)<;>(first|exact a0 hy|(replace hy:=Kj hy;clear c1 c2;obtain rfl:=hy))<;>(clear hop;rcases ho with rfl|rfl|rfl|rfl)<;>first|exact .inl hc|exact .inr hc
  rcases two with z|z
  ·rw [c1] at z;(refine aw (dO z) ?_;clear r;clear hc z;rintro e rfl);(replace e:=Kj e;clear h;obtain rfl:=e);exact b7 rfl rfl rfl
  ·rw [c2] at z;(refine bb (mJ z ob) ?_;rintro e e1 e2);exact b7 (by change e;exact decide_eq_decide.mpr c3.symm) e1 e2
 (refine ay (gd ha hx) ?_;clear ha;rintro u rfl)
 (refine ay (gd hb hy) ?_;rintro u' e)
 clear hb;subst e;obtain rfl:=xK hop;clear hop;clear hc;rcases ho with rfl|rfl|rfl|rfl
 ·(refine bb (key (x < y) (x < y) ⟨rfl,rfl,.rfl⟩) ?_;clear key;rintro rfl e1 e2);exact lt_int (h s (r.same e1 e2) rfl rfl rfl)
 ·(refine bb (key (x≤y) (x≤y) ⟨rfl,rfl,.rfl⟩) ?_;clear key;rintro rfl e1 e2);exact le_int (h s (r.same e1 e2) rfl rfl rfl)
 ·(refine bb (key (x > y) (x > y) ⟨rfl,rfl,.rfl⟩) ?_;clear key;rintro rfl e1 e2);exact gt_int (h s (r.same e1 e2) rfl rfl rfl)
 ·(refine bb (key (x≥y) (x≥y) ⟨rfl,rfl,.rfl⟩) ?_;clear key;rintro rfl e1 e2);exact ge_int (h s (r.same e1 e2) rfl rfl rfl)
end
theorem FA {x:CE} (h:wB x=true):∃ y b s,x=.comp y b s:=by
 induction x using CE.casesOn<;>first|exact ac h|exact ⟨_,_,_,rfl⟩
@[elab_as_elim] theorem BN {P:Stmt→Prop} {t:Stmt} {f:Expr→Bool} (h:ur t f=true) (k:∀ e p,f e=true→P (.Expr e p)):P t:=by
 induction t using Stmt.casesOn<;>first|exact k _ _ h|exact ac h
@[elab_as_elim] theorem uu {P:Stmt→Prop} {t:Stmt} {f:List Expr→Expr→Pos→Bool} (h:qu t f=true) (k:∀ ts e p,f ts e p=true→P (.Assign ts e p)):P t:=by
 induction t using Stmt.casesOn<;>first|exact k _ _ _ h|exact ac h
@[elab_as_elim] theorem ut {P:Stmt→Prop} {t:Stmt} {f:Expr→Operator→Expr→Bool} (h:qr t f=true) (k:∀ x o e p,f x o e=true→P (.AugAssign x o e p)):P t:=by
 induction t using Stmt.casesOn<;>first|exact k _ _ _ _ h|exact ac h
@[elab_as_elim] theorem BL {P:Stmt→Prop} {t:Stmt} {f:Expr→List Stmt→List Stmt→Bool} (h:um t f=true) (k:∀ e l r p,f e l r=true→P (.If e l r p)):P t:=by
 induction t using Stmt.casesOn<;>first|exact k _ _ _ _ h|exact ac h
@[elab_as_elim] theorem BJ {P:Stmt→Prop} {t:Stmt} {f:Expr→List Stmt→List Stmt→Bool} (h:uj t f=true) (k:∀ e l r p,f e l r=true→P (.While e l r p)):P t:=by
 induction t using Stmt.casesOn<;>first|exact k _ _ _ _ h|exact ac h
@[elab_as_elim] theorem BM {P:Stmt→Prop} {t:Stmt} {f:Expr→Expr→List Stmt→List Stmt→Bool} (h:uo t f=true) (k:∀ x e l r p,f x e l r=true→P (.For x e l r p)):P t:=by
 induction t using Stmt.casesOn<;>first|exact k _ _ _ _ _ h|exact ac h
@[elab_as_elim] theorem uk {P:Stmt→Prop} {t:Stmt} {f:Option Expr→Bool} (h:qq t f=true) (k:∀ o p,f o=true→P (.Return o p)):P t:=by
 induction t using Stmt.casesOn<;>first|exact k _ _ h|exact ac h
@[elab_as_elim] theorem BK {P:Stmt→Prop} {t:Stmt} (h:ul t=true) (k:∀ p,P (.Pass p)):P t:=by
 induction t using Stmt.casesOn<;>first|exact k _|exact ac h
@[elab_as_elim] theorem qt {P:Stmt→Prop} {t:Stmt} {f:Expr→Expr→Bool} (h:nB t f=true) (k:∀ x e p,f x e=true→P (.Assign [x] e p)):P t:=uu h fun ts e p h=>by
 induction ts using List.casesOn<;>first|exact ac h|skip
 refine d9 h fun h1 h2=>?_;clear h;obtain rfl:=KE.mp h1;exact k _ _ _ h2
@[elab_as_elim] theorem v4 {P:Expr→Prop} {e:Expr} {f:Str→Bool} (h:qV e f=true) (k:∀ z p,f z=true→P (.Name z p)):P e:=by
 induction e using Expr.casesOn<;>first|exact k _ _ h|exact ac h
section
variable (T:b8) (sc:List (Str×NameKind))
end
section
variable {W:Wd} {d:Nat} {R:ao} {c:Cx} {n:Nat} {A:Around} {E:Value→Shared→Prop}
noncomputable def bO (W:Wd) (Z:ZM) (ρ:List (Addr×Addr)):List Value→List X→Prop
 |[],[]=>True
 |v::vs,x::xs=>bg W Z ρ v x∧bO W Z ρ vs xs
 |_,_=>False
theorem bO.mono {Z Z':ZM} {ρ ρ':List (Addr×Addr)} (hz:∀ a o,Z a=some o→Z' a=some o) (hr:∃ e,ρ'=ρ++e):∀ {vs:List Value} {xs:List X},bO W Z ρ vs xs→bO W Z' ρ' vs xs
 |[],[],_=>trivial
 |_::_,_::_,h=>⟨h.1.mono hz hr,bO.mono hz hr h.2⟩
noncomputable abbrev LP (W:Wd) (c:Cx) (Z:ZM) (ρ:List (Addr×Addr)) (s:Shared) (hp:List a8) (σ':St) (xs:List X) (Q:List Value→Shared→Prop):Prop:=
 ∀ vs s' Z' ρ' m',a9 W Z' ρ' s'.heap c.L m' σ'→bO W Z' ρ' vs xs→aA Z ρ s.heap c.L hp Z' ρ' s'.heap σ'.heap→s'.gens=s.gens→s'.os=s.os→Q vs s'
theorem dW {es:List Expr} (h:cB e=true):starEach (e::es) env=(false,eval e env)::starEach es env:=by
 induction e using Expr.casesOn<;>first|rfl|exact ac h
theorem cU {α β:Type} {p:α→β→Bool} {a:α} {r:List α} {l:List β} (h:aY p (a::r) l=true):∃ b t,l=b::t∧p a b=true∧aY p r t=true:=by
 induction l using List.casesOn with
 |nil=>exact ac h
 |cons b t=>
  dsimp only [aY] at h;revert h;refine d8 (p a b) ?_ ?_
  ·intro q h;exact ac h
  ·intro q h;exact cP b t rfl q h
theorem ef {α β:Type} {p:α→β→Bool} {l:List β} (h:aY p ([]:List α) l=true):l=[]:=by induction l using List.casesOn with|nil=>rfl|cons=>exact ac h
theorem kX (H:SE W d R.e) (M:aS R) (ok:aJ W c) (rm:aL A d) {pos:Pos}:∀ (l:List CE) (es:List Expr) (σ σ':St) (xs:List X) (Z:ZM) (ρ:List (Addr×Addr)) (m:Str→Option Value) (s:Shared) (Q:List Value→Shared→Prop),
  aY (al W.T c.fd.scope.names n) l es=true→es.all cB=true→dg R l σ=some (xs,σ')→ae σ'→a9 W Z ρ s.heap c.L m σ→LP W c Z ρ s σ.heap σ' xs Q→wpAny (model W.prog W.w) A (spliced (backTo pos (starEach es c.env))) Q E s
 |[],es,σ,σ',xs,Z,ρ,m,s,Q,hc,hs,he,o,r,h=>by
  change ef hc
  (revert o h;refine aR he ?_;intro o h)
  exact Le (h _ _ _ _ _ r trivial .refl rfl rfl)
 |ce::l,es,σ,σ',xs,Z,ρ,m,s,Q,hc,hs,he,o,r,h=>by
  (refine be (cU hc) ?_;clear hc;rintro e es rfl h1 h2)
  rw [LJ,KD] at hs;refine ah he fun x σ₁ g1 g2=>?_;refine ah g2 fun ys σ₂ g3 g4=>?_
  (refine aw (bi g4) ?_;clear he g2 g4;rintro rfl rfl)
  change dW hs.1;refine Lh (H c n ce e σ σ₁ x Z ρ m s A _ E ok h1 g1 (ae.of (fU M) g3 o) r rm fun v s' Z' ρ' m' r' hx ex hg ho=>?_);refine kX H M ok rm l es σ₁ σ' ys Z' ρ' m' s' _ h2 hs.2 g3 o r' fun vs s'' Z'' ρ'' m'' r'' hxs ex' hg' ho'=>?_;exact h _ _ _ _ _ r'' ⟨hx.mono ex'.z ex'.r,hxs⟩ (ex.trans ex') (hg'.trans hg) (ho'.trans ho)
end
structure jo (W:Wd) (f:Nat) (F:Fn) (fd:FuncData):Prop where
 at_:∃ oc od sl,W.K.lookup f=some ⟨oc,od,.func fd,sl⟩
 kind:fd.scope.kind=.function
 co:fd.scope.isCoroutine=false
 gen:fd.scope.isGenerator=false
 cell:∀ x∈fd.scope.names,x.2≠.cell
 code:codeIn W.K fd.code fd.qualname=true
 body:∃ b n,fd.body=.stmts b∧aY (cR W.T fd.scope.names n) F.body b=true
 glob:fd.globals=mainGlobals
 blt:fd.builtins=builtinsNs
 clo:fd.closure=[]
 loc:∀ p∈F.params,fd.scope.names.lookup (W.T.nm p)=some .local
 nod:F.params.Nodup
 par:∃ as ann,fd.params=⟨[],as,none,[],[],none,ann⟩∧as.map (·.arg)=F.params.map W.T.nm
 dfl:(fd.defaults=.none∧F.dflts=[])∨∃ t vs n,fd.defaults=.ref t∧W.K.lookup t=some (dI vs n)∧∀ Z:ZM,(∀ a o,W.K.lookup a=some o→Z a=some o)→bM W Z vs F.dflts
inductive kL (W:Wd) (Z:ZM) (ρ:List (Addr×Addr)):Flow→Fl→Prop where
 |next:kL W Z ρ .next .next
 |ret {v x}:bg W Z ρ v x→kL W Z ρ (.ret v) (.ret x)
noncomputable abbrev FP (W:Wd) (c:Cx) (Z:ZM) (ρ:List (Addr×Addr)) (s:Shared) (hp:List a8) (σ':St) (fl:Fl) (Q:Flow→Shared→Prop):Prop:=
 ∀ g s' Z' ρ' m',a9 W Z' ρ' s'.heap c.L m' σ'→kL W Z' ρ' g fl→aA Z ρ s.heap c.L hp Z' ρ' s'.heap σ'.heap→s'.gens=s.gens→s'.os=s.os→Q g s'
noncomputable def SS (W:Wd) (d:Nat) (ex:List CS→Mo Fl):Prop:=
 ∀ (c:Cx) (n:Nat) (l:List CS) (b:List Stmt) (σ σ':St) (fl:Fl) (Z:ZM) (ρ:List (Addr×Addr)) (m:Str→Option Value) (s:Shared) (A:Around) (Q:Flow→Shared→Prop) (E:Value→Shared→Prop),
  aJ W c→aY (cR W.T c.fd.scope.names n) l b=true→ex l σ=some (fl,σ')→ae σ'→a9 W Z ρ s.heap c.L m σ→aL A d→FP W c Z ρ s σ.heap σ' fl Q→wpAny (model W.prog W.w) A (execs b c.env) Q E s
noncomputable def fN (W:Wd) (ps:List Nat) (vs:List Value):List (Str×Value):=(ps.map W.T.nm).zip vs
noncomputable def gu (A:Around) (d:Nat):Prop:=A.depth+4 * d+6≤recursionLimit∧A.units+40 * d+90≤cLine∧A.handled=none
theorem aL.two {d:Nat} (h:aL A d):gu A d:=by (refine bb h ?_;(try clear h);rintro a b c);exact b7 M2 M2 c
theorem aL.two1 {d:Nat} (h:aL A d):gu A.in1 d:=by (refine bb h ?_;(try clear h);rintro a b c);exact b7 (by dsimp only [Around.in1];lia) (by dsimp only [Around.in1];lia) c
noncomputable def fB (W:Wd) (d:Nat) (fnv:Nat→List X→Mo X):Prop:=
 ∀ (f:Nat) (F:Fn) (fd:FuncData) (xs:List X) (vs:List Value) (as:Args) (σ σ':St) (x:X) (Z:ZM) (ρ:List (Addr×Addr)) (L:Addr) (m:Str→Option Value) (s:Shared) (A:Around) (R:Result→Shared→Prop),
  look W.T.fns f=some F→jo W f F fd→BindsTo s fd as (fN W F.params vs)→bO W Z ρ vs xs→xs.length=F.params.length→fnv f xs σ=some (x,σ')→ae σ'→a9 W Z ρ s.heap L m σ→gu A d→s.heap.NoLimit→
  (∀ v s' Z' ρ',a9 W Z' ρ' s'.heap L m σ'→bg W Z' ρ' v x→aA Z ρ s.heap L σ.heap Z' ρ' s'.heap σ'.heap→s'.gens=s.gens→s'.os=s.os→R (.ok (.ret v)) s')→
  codeAny (model W.prog W.w) A (.call (.ref f) as) R s
theorem ru {W:Wd} (inj:∀ a b,W.T.nm a=W.T.nm b→a=b) {Z:ZM} {ρ:List (Addr×Addr)}:∀ {ps:List Nat} {vs:List Value} {xs:List X},ps.Nodup→bO W Z ρ vs xs→xs.length=ps.length→
  ∀ n x,look (dU ps xs) n=some x→∃ v,(fN W ps vs).reverse.lookup (W.T.nm n)=some v∧bg W Z ρ v x
 |[],_,[],_,_,_,n,x,h=>by exact a0 h
 |p::ps,[],x::xs,_,h,_,_,_,_=>by cases h
 |p::ps,v::vs,y::xs,nd,hx,hl,n,x,h=>by
  (refine aw (List.nodup_cons.mp nd) ?_;rintro nd1 nd2)
  have e:(fN W (p::ps) (v::vs)).reverse=(fN W ps vs).reverse++[(W.T.nm p,v)]:=by simp [fN]
  (change e;change List.lookup_append)
  unfold dU look at h;dsimp only at h;revert h;refine d8 (Nat.beq p n) ?_ ?_;rotate_left
  ·intro q h
   (replace h:=Kj h;obtain rfl:=h)
   have:=cS.mp q;clear q;subst this;have nn:(fN W ps vs).reverse.lookup (W.T.nm p)=none:=by
    refine dG (List.lookup_eq_none_iff ..) ?_;intro z hz;have hz:z∈fN W ps vs:=List.mem_reverse.mp hz;have:=(List.of_mem_zip hz).1
    (refine am (L8.mp this) ?_;rintro p' hp' e')
    refine bne_iff_ne.mpr fun e''=>?_;have:p'=p:=inj _ _ (by (change e';refine aT (e'' ..) ?_;with_reducible rfl));clear nd hl e e'';subst this;exact nd1 hp'
   exact aF v (by change nn;(first|exact .head _|simp)) hx.1
  ·intro q h
   (refine am (ru inj nd2 hx.2 (by simpa using hl) n x h) ?_;rintro u hu hr)
   exact aF u (by change hu;rfl) hr
section
variable {W:Wd} {d:Nat} {R:ao}
theorem y8 {fd:FuncData} (ok:jo W f F fd) {vs:List Value}:∀ x∈fN W F.params vs,fd.scope.names.lookup x.1=some .local:=by
 intro x hx;have:=(List.of_mem_zip hx).1
 (refine am (L8.mp this) ?_;rintro p hp e)
 refine aT (e ..) ?_;exact ok.loc p hp
theorem a9.enter {h :Heap} {L:Addr} {m :Str→Option Value} {lc:List (Nat×X)} (r:a9 W Z ρ h L m σ) (hk:∀ b o,h.get? b=some o→h₁.get? b=some o) (hs:h.objs.size < h₁.objs.size) (hn:h₁.Ns h.objs.size m')
  (hl:∀ n x,look lc n=some x→∃ v,m' (W.T.nm n)=some v∧bg W Z ρ v x):a9 W Z ρ h₁ h.objs.size m' { σ with loc:=lc } where
 kz:=r.kz
 zh:=fun a o e=>hk _ _ (r.zh a o e)
 zL:=r.fresh
 ns:=hn
 loc:=hl
 len:=r.len
 cell:=fun k p c a b=>(r.cell k p c a b).stay (fun _ _ e=>e) ⟨[],(Kt _).symm⟩ fun a o _ e=>hk a o e
 own:=fun a q=>let ⟨x,y,z⟩:=r.own a q;⟨x,KW z,Nat.lt_trans z hs⟩
 apart:=r.apart
 two:=r.two
theorem a9.leave {h h' :Heap} {L:Addr} {m :Str→Option Value} (r:a9 W Z ρ h L m σ) (hk:∀ b o,h.get? b=some o→h₁.get? b=some o) (hs:h.objs.size≤h₁.objs.size)
  (r':a9 W Z' ρ' h' h.objs.size m' σ') (ex:aA Z ρ h₁ h.objs.size σ.heap Z' ρ' h' σ'.heap):a9 W Z' ρ' h' L m { σ' with loc:=σ.loc }∧aA Z ρ h L σ.heap Z' ρ' h' σ'.heap:=by
 have nL:¬ dh ρ σ.heap L:=fun q=>(r.own L q).2.1 rfl;have ltL:=r.ns.lt;have neL:L≠h.objs.size:=KW ltL;refine ⟨⟨r'.kz,r'.zh,?_,?_,fun n x e=>?_,r'.len,r'.cell,fun a q=>?_,r'.apart,r'.two⟩,⟨ex.z,ex.r,Kl hs ex.size,fun b o e n l=>ex.keep b o (hk b o e) n (fun q=>by clear n l;subst q;exact absurd (KO e) (KS _)),fun a q=>(ex.own a q).imp id fun z=>Kl hs z,fun a q=>(ex.zn a q).imp id fun z=>z.imp id fun z=>Kl hs z⟩⟩
 ·induction q:Z' L using Option.casesOn with
  |none=>rfl
  |some o=>
   rcases ex.zn L (by change q;exact fun e=>by contradiction) with z|z|z
   ·exact absurd r.zL z
   ·exact absurd z nL
   ·exact absurd (KI ltL (Kl hs z)) (KS _)
 ·(refine jb r.ns ?_;(try clear r.ns);rintro o es ep h1 h2)
  exact jX o es ep (ex.keep _ _ (hk _ _ h1) nL neL) h2
 ·(refine am (r.loc n x e) ?_;rintro v a b)
  exact aF v a (b.mono ex.z ex.r)
 ·(refine bb (r'.own a q) ?_;rintro x y z)
  refine b7 x (fun e=>?_) z;clear r neL;subst e;rcases ex.own a q with z|z
  ·exact nL z
  ·exact absurd (KI ltL (Kl hs z)) (KS _)
theorem uz (h:gu A (d+1)):aL (A.deeper env) d:=by
 (refine bb h ?_;(try clear h);rintro a b c)
 refine b7 ?_ ?_ c
 ·refine (?_:A.depth+1+4 * d+8≤_);lia
 ·refine (?_:A.units+3+40 * d+100≤_);lia
theorem uy (h:gu A d):A.depth < recursionLimit:=by have:=h.1;lia
theorem AK (F:Facts W) (H:SS W d R.ss):fB W (d+1) (cI W.T R):=by
 intro f Fn fd xs vs as σ σ' x Z ρ L m s A P hF ok hb hx hl he o r rm nl h
 (refine oR ok.at_ ?_;(try clear ok.at_);rintro oc od sl hat)
 (refine aN ok.body ?_;(try clear ok.body);rintro b n hbody hchk)
 unfold cI at he;rw [hF] at he;dsimp only at he;revert he;refine aV (R.ss Fn.body { σ with loc:=dU Fn.params xs }) ?_ ?_
 ·intro he;exact a0 he
 ·intro w q he;obtain ⟨fl,σ₁⟩:=w
  (have za:=(af he).1;have zb:=(af he).2;clear he;obtain rfl:=za;obtain rfl:=zb)
  refine codeAny_call_def (uy rm) (r.kin _ _ hat) rfl nl (codeRec_of r.kin ok.code) hbody hb ok.cell (y8 ok) (fun h₀ hns hk=>?_) ok.co ok.gen ok.kind;have hsz:s.heap.objs.size < h₀.objs.size:=hns.lt;have r₀:=r.enter (lc:=dU Fn.params xs) hk hsz hns (ru F.inj ok.nod hx hl);refine H ⟨callEnv fd s.heap.objs.size f⟩ n Fn.body b _ σ₁ fl Z ρ _ { s with heap:=h₀,toks:=_ } _ _ _ ⟨ok.kind,ok.glob,ok.blt⟩ hchk q o r₀ (uz rm) fun g s' Z' ρ' m' r' hf ex hg ho=>?_
  (refine aw (r.leave hk (Li hsz) r' ex) ?_;rintro rL exL)
  cases hf with
  |next=>exact h .none s' Z' ρ' rL .none exL hg ho
  |ret hv=>exact h _ s' Z' ρ' rL hv exL hg ho
end
noncomputable def gU {α β:Type} (g:β→α→Option β):List α→β→Option β
 |[],b=>some b
 |x::r,b=>match g b x with|some b'=>gU g r b'|none=>none
theorem wQ {α β:Type} {f:α→β→Sem (ForInStep β)} {g:β→α→Option β} (h:∀ x b b',g b x=some b'→f x b=pure (.yield b')):∀ (l:List α) (b b':β),gU g l b=some b'→forIn l b f=(pure b':Sem β)
 |[],b,b',e=>by (replace e:=Kj e;obtain rfl:=e);exact List.forIn_nil
 |x::r,b,b',e=>by
  dsimp only [gU] at e;revert e;refine aV (g b x) ?_ ?_
  ·intro e;exact a0 e
  ·intro b₁ q e
   (change List.forIn_cons;change h x b b₁ q)
   exact (wQ h r b₁ b' e:_)
noncomputable def fY (ns:List Str) (sl:List (Str×Value)) (k:Str×Value):Option (List (Str×Value)):=if ns.contains k.1=true then (if (sl.lookup k.1).isSome=true then none else some (sl++[k])) else none
noncomputable def fZ (sl:List (Str×Value)) (p:Str×Value):List (Str×Value):=if (sl.lookup p.1).isNone=true then sl++[p] else sl
theorem iE {α:Type} {m m':Sem α} {Q:α→Shared→Prop} {E:Value→Shared→Prop} {s:Shared} (e:m=m') (h:wpAny M A m' Q E s):wpAny M A m Q E s:=e▸h
theorem pD {α β:Type} {m:Sem α} {f:α→Sem β} {a:α} {Q:β→Shared→Prop} {E:Value→Shared→Prop} {s:Shared} (e:m=pure a) (h:wpAny M A (f a) Q E s):wpAny M A (m >>= f) Q E s:=Km (iE e (Kv h))
theorem yP {α β:Type} {P:α→Prop} {m:Sem α} {f:α→Sem β} {Q:β→Shared→Prop} {E:Value→Shared→Prop} {s:Shared} (e:∀ (M:Model) (A:Around) (E:Value→Shared→Prop) (Q:α→Shared→Prop),(∀ o,P o→Q o s)→wpAny M A m Q E s) (h:∀ o,P o→wpAny M A (f o) Q E s):wpAny M A (m >>= f) Q E s:=Km (e _ _ _ _ h)
theorem qD:∀ (l:List (Str×Value)) (b:List (Str×Value)),(forIn l b fun x (r:List (Str×Value))=>if (List.lookup x.fst r).isNone=true then (pure (ForInStep.yield (r++[(x.fst,x.snd)])):Sem _) else pure (ForInStep.yield r))=pure (l.foldl fZ b)
 |[],b=>List.forIn_nil
 |x::r,b=>by
  change List.forIn_cons;change LL;dsimp only [fZ]
  by_cases h:(List.lookup x.fst b).isNone=true
  ·refine aU (Ks h) (aU (Ks h) (qD r _))
  ·refine aU (Kp h) (aU (Kp h) (qD r _))
theorem qE {γ:Type} {ns:List Str} {b b':List (Str×Value)×γ} {k:Str×Value} (h:(fY ns b.1 k).map (fun y=>(y,b.2))=some b'):ns.contains k.1=true∧(b.1.lookup k.1).isSome=false∧(b.1++[k],b.2)=b':=by
 unfold fY at h
 by_cases h1:ns.contains k.1=true
 ·rw [Ks h1] at h
  by_cases h2:(b.1.lookup k.1).isSome=true
  ·rw [Ks h2] at h;exact a0 h
  ·rw [Kp h2] at h;exact ⟨h1,Bool.not_eq_true _▸h2,Kj h⟩
 ·rw [Kp h1] at h;exact a0 h
theorem wR {γ:Type} {ns:List Str} {c:γ}:∀ (l:List (Str×Value)) (b b':List (Str×Value)),gU (fY ns) l b=some b'→gU (fun (b:List (Str×Value)×γ) x=>(fY ns b.1 x).map fun y=>(y,b.2)) l (b,c)=some (b',c)
 |[],b,b',e=>by (replace e:=Kj e;obtain rfl:=e);rfl
 |x::r,b,b',e=>by
  unfold gU at e ⊢;generalize fY ns b x=q at e;induction q using Option.casesOn with
  |none=>exact a0 e
  |some y=>exact wR r y b' e
theorem w6 {N:List Str} {D:List Value} {n:Nat} (el:N.length=n) (hl:D.length≤n):D.drop (D.length - N.length)=D:=by
 rw [el,Nat.sub_eq_zero_of_le hl,List.drop_zero]
theorem GD {N:List Str} {sl:List (Str×Value)} {D D':List Value} {n:Nat} (h:D=D') (el:N.length=n) (hl:D'.length≤n):
  ((N++[]).filterMap fun x=>((((N.drop (N.length - (D.drop (D.length - N.length)).length)).zip (D.drop (D.length - N.length))).foldl fZ sl).lookup x).map (x,·))=N.filterMap fun x=>((((N.drop (n - D'.length)).zip D').foldl fZ sl).lookup x).map (x,·):=by
 subst h;rw [w6 el hl,el,Kt]
theorem zv {N:List Str} {D D':List Value} {n:Nat} (h:D=D') (el:N.length=n) (hl:D'.length≤n):N.take (N.length - (D.drop (D.length - N.length)).length)=N.take (n - D'.length):=by
 subst h;rw [w6 el hl,el]
theorem Ep {l:List Str} {sl:List (Str×Value)} (hm:∀ n∈l,(sl.lookup n).isSome=true):¬ (!(l.filter fun n=>(sl.lookup n).isNone).isEmpty)=true:=by
 rw [Ls,Bool.not_eq_false,KE,List.filter_eq_nil_iff];intro n hn;have:=hm n hn;generalize sl.lookup n=q at this;induction q using Option.casesOn with
 |none=>exact ac this
 |some v=>exact Lu
theorem Jg {fd:FuncData} {s:Shared} {as:List Arg} {ann:List Expr} {pos ds:List Value} {sl :List (Str×Value)} (hp:fd.params=⟨[],as,none,[],[],none,ann⟩)
  (hdd:∀ (M:Model) (A:Around) (E:Value→Shared→Prop) (Q:Option (Array Value)→Shared→Prop),(∀ o,(o.getD #[]).toList=ds→Q o s)→wpAny M A (seqItems? fd.defaults) Q E s)
  (hk:gU (fY (as.map (·.arg))) kw ((as.map (·.arg)).zip pos)=some sl) (hl:pos.length≤as.length) (hl2:ds.length≤as.length)
  (hm:∀ n∈(as.map (·.arg)).take (as.length - ds.length),(sl.lookup n).isSome=true):
  BindsTo s fd ⟨pos,kw⟩ ((as.map (·.arg)).filterMap fun n=>(((((as.map (·.arg)).drop (as.length - ds.length)).zip ds).foldl fZ sl).lookup n).map (n,·)):=by
 obtain ⟨p,_,_,_,_,_,_,_,_,_⟩:=fd;dsimp only at hp hdd;subst hp;intro M A E Q hq;refine pD (wQ (g:=fun (b:List (Str×Value)×List (Str×Value)) x=>(fY (as.map (·.arg)) b.1 x).map fun y=>(y,b.2)) (b':=(sl,[])) (fun x b b' e=>(Ks (Bool.or_eq_true_iff.mpr (.inl (qE e).1))).trans ((Kp ((qE e).2.1▸Lu)).trans (Kq (fun z=>pure (ForInStep.yield z)) (qE e).2.2))) kw _ (wR _ _ _ hk)) (yP hdd fun o ho=>?_);have el:(as.map (·.arg)).length=as.length:=L4 ..;refine iE (Kp (by dsimp only;rw [KD,decide_eq_true_eq];exact fun h=>absurd h.1 (KY.mpr (el.symm▸hl)))) ?_;refine iE (Kp (Ep fun n hn=>hm n ((Kq (n∈·) (zv ho el hl2)).mp hn))) (pD (qD ..) (pD rfl (Kv ((Kq (fun z=>Q z s) (GD ho el hl2)).mpr hq))))
section
variable {W:Wd} {Z:ZM} {ρ:List (Addr×Addr)}
noncomputable def bz (W:Wd) (Z:ZM) (ρ:List (Addr×Addr)):List (Str×Value)→List (Nat×X)→Prop
 |[],[]=>True
 |k::r,e::t=>k.1=W.T.nm e.1∧bg W Z ρ k.2 e.2∧bz W Z ρ r t
 |_,_=>False
theorem bz.look (inj:∀ a b,W.T.nm a=W.T.nm b→a=b):∀ {rs:List (Str×Value)} {es:List (Nat×X)},bz W Z ρ rs es→∀ n,match look es n with
  |some x=>∃ v,rs.lookup (W.T.nm n)=some v∧bg W Z ρ v x
  |none=>rs.lookup (W.T.nm n)=none
 |[],[],_,n=>rfl
 |k::r,e::t,h,n=>by
  (refine bb h ?_;(try clear h);rintro h1 h2 h3)
  obtain ⟨kk,kv⟩:=k;have ih:=bz.look inj h3 n;dsimp only [Mine.look];change List.lookup_cons;dsimp only at h1;induction q:Nat.beq e.1 n using Bool.casesOn with
  |true=>
   have:=cS.mp q;clear ih q;subst this;change h1;exact aF kv (by (first|exact .head _|simp)) h2
  |false=>
   have:(W.T.nm n==kk)=false:=by
    induction z:W.T.nm n==kk using Bool.casesOn with
    |false=>rfl
    |true=>rw [Kx,h1] at z;exact absurd (inj _ _ z).symm (iz.mp q)
   change this;exact ih
theorem bz.snoc {rs:List (Str×Value)} {es:List (Nat×X)} {k:Str×Value} {e:Nat×X} (h:bz W Z ρ rs es) (a:k.1=W.T.nm e.1) (b:bg W Z ρ k.2 e.2):bz W Z ρ (rs++[k]) (es++[e]):=by
 induction rs generalizing es with
 |nil=>
  induction es using List.casesOn with
  |nil=>exact b7 a b trivial
  |cons=>exact h.elim
 |cons r rs ih=>
  induction es using List.casesOn with
  |nil=>exact h.elim
  |cons x es=>exact b7 h.1 h.2.1 (ih h.2.2)
theorem bz.zip:∀ {ps:List Nat} {vs:List Value} {xs:List X},bO W Z ρ vs xs→bz W Z ρ ((ps.map W.T.nm).zip vs) (dU ps xs)
 |[],[],[],_=>trivial
 |[],_::_,_::_,_=>trivial
 |_::_,[],[],_=>trivial
 |_::ps,_::_,_::_,h=>⟨rfl,h.1,bz.zip h.2⟩
theorem ka:∀ {l:List Nat} {k:Nat},bq l k=true↔k∈l
 |[],k=>⟨fun h=>(by exact ac h),fun h=>(by cases h)⟩
 |a::r,k=>by
  dsimp only [bq];induction q:Nat.beq a k using Bool.casesOn with
  |true=>exact ⟨fun _=>by change cS.mp q;exact .head _,fun _=>rfl⟩
  |false=>
   refine dG (KQ ..) ?_;dsimp only;refine dG (ka ..) ?_;exact ⟨.inr,fun h=>h.elim (fun e=>absurd e.symm (iz.mp q)) id⟩
theorem tF (inj:∀ a b,W.T.nm a=W.T.nm b→a=b) {ps:List Nat}:∀ {kw:List (Str×Value)} {ks:List (Nat×X)} {rs:List (Str×Value)} {es es':List (Nat×X)},bz W Z ρ kw ks→bz W Z ρ rs es→kY ps ks es=some es'→
  ∃ rs',gU (fY (ps.map W.T.nm)) kw rs=some rs'∧bz W Z ρ rs' es'
 |[],[],rs,es,es',_,h,e=>by (replace e:=Kj e;obtain rfl:=e);exact aF rs rfl h
 |k::kw,x::ks,rs,es,es',hk,h,e=>by
  dsimp only [kY] at e;induction q:bq ps x.1 using Bool.casesOn with
  |false=>rw [q] at e;exact a0 e
  |true=>
   rw [q] at e;dsimp only at e;induction z:look es x.1 using Option.casesOn with
   |some y=>rw [z] at e;exact a0 e
   |none=>
    rw [z] at e;have lk:=h.look inj x.1;rw [z] at lk;dsimp only at lk;have st:fY (ps.map W.T.nm) rs k=some (rs++[k]):=by
     dsimp only [fY]
     (change hk.1;change Ks (by refine dG (List.contains_iff_mem ..) ?_;exact List.mem_map_of_mem (ka.mp q));change lk)
     rfl
    dsimp only [gU];change st;exact tF inj hk.2.2 (h.snoc hk.1 hk.2.1) e
theorem pT (inj:∀ a b,W.T.nm a=W.T.nm b→a=b):∀ {dv:List (Str×Value)} {ds:List (Nat×X)} {rs:List (Str×Value)} {es:List (Nat×X)},bz W Z ρ dv ds→bz W Z ρ rs es→bz W Z ρ (dv.foldl fZ rs) (kZ ds es)
 |[],[],_,_,_,h=>h
 |k::dv,x::ds,rs,es,hd,h=>by
  change LL;dsimp only [kZ];have lk:=h.look inj x.1;generalize look es x.1=z at lk;induction z using Option.casesOn with
  |some y=>
   (refine am lk ?_;(try clear lk);rintro v e _)
   have:fZ rs k=rs:=by dsimp only [fZ];(change hd.1;change e);rfl
   change this;exact pT inj hd.2.2 h
  |none=>
   dsimp only at lk;have:fZ rs k=rs++[k]:=by dsimp only [fZ];(change hd.1;change lk);rfl
   change this;exact pT inj hd.2.2 (h.snoc hd.1 hd.2.1)
theorem pS (inj:∀ a b,W.T.nm a=W.T.nm b→a=b) {rs:List (Str×Value)} {es:List (Nat×X)} (h:bz W Z ρ rs es):∀ {ps:List Nat} {xs:List X},iH es ps=some xs→
  ∃ vs,(ps.map W.T.nm).filterMap (fun n=>(rs.lookup n).map (n,·))=fN W ps vs∧bO W Z ρ vs xs∧xs.length=ps.length∧∀ p∈ps,(rs.lookup (W.T.nm p)).isSome=true
 |[],xs,e=>by (replace e:=Kj e;obtain rfl:=e);exact jY [] rfl trivial rfl (fun p hp=>(nomatch hp))
 |p::ps,xs,e=>by
  dsimp only [iH] at e;have lk:=h.look inj p;induction z:look es p using Option.casesOn with
  |none=>rw [z] at e;exact a0 e
  |some y=>
   rw [z] at e lk;dsimp only at e
   (refine am lk ?_;(try clear lk);rintro v hv hx)
   revert e;refine aV (iH es ps) ?_ ?_
   ·intro e;exact a0 e
   ·intro l q e
    (replace e:=Kj e;obtain rfl:=e)
    (refine km (pS inj h q) ?_;rintro vs a b c d)
    refine jY (v::vs) ?_ ⟨hx,b⟩ (by (change Ko;change Ko;change c;with_reducible rfl)) (fun p' hp'=>?_)
    ·(change Lj;change List.filterMap_cons;change hv;change a);rfl
    ·clear z;rcases KQ.mp hp' with rfl|hp'
     ·change hv;rfl
     ·exact d p' hp'
end
section
variable {W:Wd} {Z:ZM} {ρ:List (Addr×Addr)}
theorem bz.zipD:∀ {ps:List Nat} {vs:List Value} {ds:List V},vs.length=ds.length→(∀ (i:Nat) (v:Value) (x:V),vs[i]?=some v→ds[i]?=some x→aa W Z v x)→bz W Z ρ ((ps.map W.T.nm).zip vs) (zipD ps ds)
 |[],[],[],_,_=>trivial
 |[],_::_,_::_,_,_=>trivial
 |_::_,[],[],_,_=>trivial
 |_::ps,_::_,_::_,hl,h=>⟨rfl,h 0 _ _ rfl rfl,bz.zipD (by simpa using hl) fun i v x a b=>h (i+1) v x a b⟩
theorem bO.length:∀ {vs:List Value} {xs:List X},bO W Z ρ vs xs→vs.length=xs.length
 |[],[],_=>rfl
 |_::_,_::_,h=>by (change Ko;change Ko;change bO.length h.2;with_reducible rfl)
theorem Iu {fd:FuncData} {s:Shared} (ok:jo W f F fd) (X:W.K.In s.heap) (kz:∀ a o,W.K.lookup a=some o→Z a=some o):∃ ds:List Value,ds.length=F.dflts.length∧(∀ (i:Nat) (v:Value) (x:V),ds[i]?=some v→F.dflts[i]?=some x→aa W Z v x)∧
  ∀ (M:Model) (A:Around) (E:Value→Shared→Prop) (Q:Option (Array Value)→Shared→Prop),(∀ o,(o.getD #[]).toList=ds→Q o s)→wpAny M A (seqItems? fd.defaults) Q E s:=by
 refine cps fun GG kk=>?_;rcases ok.dfl with ⟨h1,h2⟩|⟨t,vs,n,h1,h2,h3⟩
 ·refine kk (eT [] (by change h2;rfl) (fun i v x a=>by simp at a) (fun M A E Q h=>?_));change h1;exact Kv (a:=Option.none) (h _ rfl)
 ·(refine bb (h3 Z kz) ?_;rintro _ a b)
  refine kk (eT vs a b (fun M A E Q h=>?_));change h1;exact wpAny_seqItems (X _ _ h2) rfl (h _ rfl)
theorem pX {fd:FuncData} {s:Shared} {pos:List Value} {ks:List (Nat×X)} (inj:∀ a b,W.T.nm a=W.T.nm b→a=b) (ok:jo W f F fd) (X:W.K.In s.heap)
  (kz:∀ a o,W.K.lookup a=some o→Z a=some o) (hp:bO W Z ρ pos as) (hk:bz W Z ρ kw ks) (hb:pf F.params as ks F.dflts=some xs):
  ∃ vs,BindsTo s fd ⟨pos,kw⟩ (fN W F.params vs)∧bO W Z ρ vs xs∧xs.length=F.params.length:=by
 refine cps fun GG kk=>?_
 (refine aN ok.par ?_;(try clear ok.par);rintro ar ann e1 e2)
 have eL:ar.length=F.params.length:=by have:=Kq List.length e2;simpa using this
 (refine dy (Iu ok X kz) ?_;rintro ds d1 d2 d3)
 unfold pf at hb;induction q1:Nat.ble as.length F.params.length using Bool.casesOn with
 |false=>rw [q1] at hb;exact a0 hb
 |true=>
  rw [q1] at hb;dsimp only at hb;induction q2:Nat.ble F.dflts.length F.params.length using Bool.casesOn with
  |false=>rw [q2] at hb;exact a0 hb
  |true=>
   rw [q2] at hb;dsimp only at hb;induction q3:kY F.params ks (dU F.params as) using Option.casesOn with
   |none=>rw [q3] at hb;exact a0 hb
   |some sl=>
    rw [q3] at hb;dsimp only at hb;revert hb;refine aV (iH sl (F.params.take (F.params.length - F.dflts.length))) ?_ ?_
    ·intro hb;exact a0 hb
    ·intro _ q4 hb;dsimp only at hb
     (refine am (tF inj hk (bz.zip (ps:=F.params) hp) q3) ?_;rintro rs r1 r2)
     (refine km (pS inj r2 q4) ?_;rintro _ _ _ _ m4)
     have dv:=bz.zipD (ρ:=ρ) (ps:=F.params.drop (F.params.length - F.dflts.length)) d1 d2
     (refine km (pS inj (pT inj dv r2) hb) ?_;rintro vs v1 v2 v3 _)
     refine kk (eT vs ?_ v2 v3);have B:=Jg (s:=s) (pos:=pos) (kw:=kw) (sl:=rs) (ds:=ds) e1 d3 (by change e2;exact r1) (by (change eL;change bO.length hp);exact KB q1) (by (change eL;change d1);exact KB q2) (by
      (change e2;change eL;change d1;refine aT (List.map_take ..) ?_)
      intro n hn
      (refine am (L8.mp hn) ?_;clear hn;rintro p hp' rfl)
      exact m4 p hp')
     rw [e2,eL,d1,← List.map_drop,v1] at B;exact B
end
theorem Fx {v:Value} (h:wq v=true):∃ s t,v=.str s t:=by
 induction v using Value.casesOn<;>first|exact ac h|exact ⟨_,_,rfl⟩
theorem xz {d:Data} {es:Array DictEntry} (h:mL d=some es):∃ n,d=.dict es n:=by
 induction d using Data.casesOn<;>first|exact a0 h|(replace h:=Kj h;subst h;exact ⟨_,rfl⟩)
theorem IB {d:Data} {f:FuncData} (h:sj d=some f):d=.func f:=by
 induction d using Data.casesOn<;>first|exact a0 h|exact Kq _ (Kj h)
theorem Iz {d:Data} {f:Array Value} (h:si d=some f):∃ n,d=.seq f n:=by
 induction d using Data.casesOn<;>first|exact a0 h|(replace h:=Kj h;subst h;exact ⟨_,rfl⟩)
theorem z6 {v:Value} {t:String} (h:pK v=some t):v=.type t:=by
 induction v using Value.casesOn<;>first|exact a0 h|exact Kq _ (Kj h)
theorem nF {v:Value} {t:Addr} (h:fX v=some t):v=.ref t:=by
 induction v using Value.casesOn<;>first|exact a0 h|exact Kq _ (Kj h)
theorem yh {o:Obj} {c:String} (h:mQ o c=true):o=⟨.type c,none,o.data,⟨[]⟩⟩:=by
 obtain ⟨k,d,da,⟨sl⟩⟩:=o;refine cq h fun h1 h2 h3=>?_;obtain rfl:d=none:=Lp.mp h1;clear h h1;obtain rfl:sl=[]:=KE.mp h2;revert h3;refine aV (pK k) (fun h=>ac h) fun t q h3=>?_;exact KU h3▸z6 q▸rfl
theorem qo {a:Addr} {c:String} {vs:List Value} (h:hZ K a c=some vs):∃ k,K.lookup a=some ⟨.type c,none,.seq ⟨vs⟩ k,⟨[]⟩⟩:=by
 unfold hZ at h;revert h;refine aV (K.lookup a) (fun h=>a0 h) fun o q=>?_;dsimp only;refine d8 (mQ o c) (fun _ h=>a0 h) fun b=>?_;refine aV (si o.data) (fun h=>a0 h) fun z d h=>?_
 (refine ay (Iz d) ?_;rintro k e)
 have e2:=yh b;rw [e] at e2;exact ⟨k,Kq some (Kj h▸e2)⟩
theorem It {a:Addr} {c:String} {vs:List DictEntry} (h:mI K a c=some vs):∃ k,K.lookup a=some ⟨.type c,none,.dict ⟨vs⟩ k,⟨[]⟩⟩:=by
 unfold mI at h;revert h;refine aV (K.lookup a) (fun h=>a0 h) fun o q=>?_;dsimp only;refine d8 (mQ o c) (fun _ h=>a0 h) fun b=>?_;refine aV (mL o.data) (fun h=>a0 h) fun z d h=>?_
 (refine ay (xz d) ?_;rintro k e)
 have e2:=yh b;rw [e] at e2;exact ⟨k,Kq some (Kj h▸e2)⟩
set_option tactic.hygienic true in
theorem lJ {a:Addr} {h:Heap} (X:K.In h) (e:ib K a=true):∃ m,h.Ns a m∧∀ x y,nsIn K a x=some y→m x=y:=by
 unfold ib at e;revert e;refine aV (K.lookup a) (fun h=>ac h) fun o hl=>?_;dsimp only;refine aV (mL o.data) (fun h=>ac h) fun es he e=>?_
 (refine ay (xz he) ?_;rintro n hd)
 have sk:StrKeys es:=fun e' he=>Fx (KM.mp e e' (Array.mem_toList_iff.mpr he));refine aF _ ⟨o,es,n,X _ _ hl,hd,sk,fun _=>rfl⟩ (fun x y q=>?_);obtain ⟨c,d,da,sl⟩:=o;dsimp only at hd;clear he;subst hd;unfold nsIn at q;rw [hl] at q;dsimp only at q;unfold nsFind;change oJ
 split at q
 ·rename_i z hz;change hz;(replace q:=Kj q;obtain rfl:=q);rfl
 ·rename_i hz;change hz;split at q<;>(first|exact a0 q|(replace q:=Kj q;obtain rfl:=q));rfl
structure Facts2 (W:Wd):Prop extends Facts W where
 gns:ib W.K mainGlobals=true
 bns:ib W.K builtinsNs=true
 cst:ib W.K cStatics=true
 lim:nsIn W.K cStatics "sys.recursionlimit"=some none
 glob:∀ x y,look W.T.globs x=some y→∃ u,nsIn W.K mainGlobals (W.T.nm x)=some (some u)∧∀ Z:ZM,(∀ a o,W.K.lookup a=some o→Z a=some o)→aa W Z u y
 blt:∀ p∈p8,nsIn W.K mainGlobals p.1=some none∧nsIn W.K builtinsNs p.1=some (some p.2)
 fns:∀ f F,look W.T.fns f=some F→∃ fd,jo W f F fd
 ini:W.T.nm fG="__init__"
 mak:∀ c f,cL W.T.meths c fG=some f→makesIn W.K c=true∧keepIn W.K (.ref c)=true
theorem Facts2.noLimit {h:Heap} (F:Facts2 W) (X:W.K.In h):h.NoLimit:=by
 (refine am (lJ X F.cst) ?_;rintro m h1 h2)
 exact aF m h1 (h2 _ _ F.lim)
section
variable {W:Wd} {d:Nat} {R:ao} {c:Cx} {n:Nat} {e:Expr} {σ σ':St} {x:X} {Z:ZM} {ρ:List (Addr×Addr)} {m:Str→Option Value} {s:Shared} {A:Around} {Q:Value→Shared→Prop} {E:Value→Shared→Prop}
theorem oB {y:Nat} {v:V} (F:Facts2 W) (ok:aJ W c) (hc:eu W.T c.fd.scope.names y e=true) (hx:look W.T.globs y=some v) (r:a9 W Z ρ s.heap c.L m σ) (h:∀ u,aa W Z u v→Q u s):wpAny (model W.prog W.w) A (eval e c.env) Q E s:=by
 unfold eu at hc;revert hc;refine aV (dE e) ?_ ?_
 ·intro hc;exact ac hc
 ·intro k q hc
  (refine ay (gA q) ?_;clear q;rintro p rfl)
  refine cq hc fun a b g=>?_;have a:=dJ.mp a;clear hc;subst a
  (refine am (F.glob y v hx) ?_;rintro u h1 h2)
  (refine am (lJ r.kin F.gns) ?_;rintro mg n1 n2)
  exact Calls.Name_function_global ok.kind (by change fh;exact wK b) (Calls.loadGlobal_global (env:=c.env) (by refine (?_:s.heap.Ns c.fd.globals mg);change ok.glob;exact n1) (n2 _ _ h1) (h u (h2 Z r.kz))) (vA g)
theorem AI {y:Nat} (F:Facts2 W) (ok:aJ W c) (hc:al W.T c.fd.scope.names (n+1) (.g y) e=true) (hx:bh W.T R (.g y) σ=some (x,σ')) (r:a9 W Z ρ s.heap c.L m σ) (h:EP W c Z ρ s σ.heap σ' x Q):wpAny (model W.prog W.w) A (eval e c.env) Q E s:=by
 refine ah hx fun v σ₁ g1 g2=>?_
 (revert g2;refine dZ g1 fun hl=>?_;intro g2)
 (revert h;refine aR g2 ?_;intro h)
 exact oB F ok hc hl r fun u hu=>h _ _ _ _ _ r hu .refl rfl rfl
theorem p7 {b:Str} {v:Value} (F:Facts2 W) (ok:aJ W c) (hb:(b,v)∈p8) (hc:iy c.fd.scope.names b e=true) (r:a9 W Z ρ s.heap c.L m σ) (h:Q v s):wpAny (model W.prog W.w) A (eval e c.env) Q E s:=by
 unfold iy at hc;revert hc;refine aV (dE e) ?_ ?_
 ·intro hc;exact ac hc
 ·intro k q hc
  (refine ay (gA q) ?_;clear q;rintro p rfl)
  refine d9 hc fun a g=>?_;have a:=dJ.mp a;clear hc;subst a
  (refine aw (F.blt _ hb) ?_;rintro h1 h2)
  (refine am (lJ r.kin F.gns) ?_;rintro mg n1 n2)
  (refine am (lJ r.kin F.bns) ?_;rintro mb b1 b2)
  have nd:(b==("__debug__":Str))=false:=by
   have:∀ p∈p8,(p.1==("__debug__":Str))=false:=by decide+kernel
   exact this _ hb
  exact Calls.Name_function_global ok.kind (by change fh;exact wK g) (Calls.loadGlobal_builtin (env:=c.env) (by refine (?_:s.heap.Ns c.fd.globals mg);change ok.glob;exact n1) (n2 _ _ h1) (by refine (?_:s.heap.Ns c.fd.builtins mb);change ok.blt;exact b1) (b2 _ _ h2) h) nd
theorem bz.mono {Z Z':ZM} {ρ ρ':List (Addr×Addr)} (hz:∀ a o,Z a=some o→Z' a=some o) (hr:∃ e,ρ'=ρ++e):∀ {vs:List (Str×Value)} {xs:List (Nat×X)},bz W Z ρ vs xs→bz W Z' ρ' vs xs
 |[],[],_=>trivial
 |_::_,_::_,h=>⟨h.1,h.2.1.mono hz hr,bz.mono hz hr h.2.2⟩
noncomputable abbrev KP (W:Wd) (c:Cx) (Z:ZM) (ρ:List (Addr×Addr)) (s:Shared) (hp:List a8) (σ':St) (ns:List Str) (xs:List (Nat×X)) (Q:List Value→Shared→Prop):Prop:=
 ∀ vs s' Z' ρ' m',a9 W Z' ρ' s'.heap c.L m' σ'→bz W Z' ρ' (ns.zip vs) xs→aA Z ρ s.heap c.L hp Z' ρ' s'.heap σ'.heap→s'.gens=s.gens→s'.os=s.os→Q vs s'
theorem wb {ce:Nat×CE} {k:Keyword} {p:CE→Expr→Bool} (h:gN W.T p ce k=true):k=⟨some (W.T.nm ce.1),k.value,k.pos⟩∧p ce.2 k.value=true:=by
 obtain ⟨a,v,q⟩:=k;unfold gN at h;dsimp only at h;induction a using Option.casesOn with
 |none=>exact ac h
 |some y=>
  dsimp only at h
  (refine aw (L3.mp h) ?_;rintro h1 h2)
  change dJ.mp h1;exact ⟨rfl,h2⟩
theorem oi {pos:Pos} {env:Env} {p:CE→Expr→Bool}:∀ {l:List (Nat×CE)} {kws:List Keyword},aY (gN W.T p) l kws=true→(backToKw pos (keywordEach kws env)).all (·.1.isSome)=true∧(backToKw pos (keywordEach kws env)).filterMap (·.1)=l.map fun q=>W.T.nm q.1
 |[],kws,h=>by change ef h;exact ⟨rfl,rfl⟩
 |ce::l,kws,h=>by
  (refine be (cU h) ?_;clear h;rintro k t rfl h1 h2)
  (refine aw (wb h1) ?_;rintro e _)
  (refine aw (oi (pos:=pos) (env:=env) h2) ?_;rintro a b)
  change e;exact ⟨a,by (change Lj;refine aT (b ..) ?_);rfl⟩
theorem pV (H:SE W d R.e) (M:aS R) (ok:aJ W c) (rm:aL A d) {pos:Pos}:∀ (l:List (Nat×CE)) (kws:List Keyword) (σ σ':St) (xs:List (Nat×X)) (Z:ZM) (ρ:List (Addr×Addr)) (m:Str→Option Value) (s:Shared) (Q:List Value→Shared→Prop),
  aY (gN W.T (al W.T c.fd.scope.names n)) l kws=true→eV R l σ=some (xs,σ')→ae σ'→a9 W Z ρ s.heap c.L m σ→KP W c Z ρ s σ.heap σ' (l.map fun q=>W.T.nm q.1) xs Q→
  wpAny (model W.prog W.w) A (evalAll ((backToKw pos (keywordEach kws c.env)).map (·.2))) Q E s
 |[],kws,σ,σ',xs,Z,ρ,m,s,Q,hc,he,o,r,h=>by
  change ef hc
  (revert o h;refine aR he ?_;intro o h)
  exact kwAll_nil (h _ _ _ _ _ r trivial .refl rfl rfl)
 |ce::l,kws,σ,σ',xs,Z,ρ,m,s,Q,hc,he,o,r,h=>by
  (refine be (cU hc) ?_;clear hc;rintro k t rfl h1 h2)
  (refine aw (wb h1) ?_;rintro e h1)
  refine ah he fun x σ₁ g1 g2=>?_;refine ah g2 fun ys σ₂ g3 g4=>?_
  (refine aw (bi g4) ?_;clear he g2 g4;rintro rfl rfl)
  change e;refine kwAll_cons (H c n ce.2 k.value σ σ₁ x Z ρ m s A _ E ok h1 g1 (ae.of (iJ M) g3 o) r rm fun v s' Z' ρ' m' r' hx ex hg ho=>?_);refine pV H M ok rm l t σ₁ σ' ys Z' ρ' m' s' _ h2 g3 o r' fun vs s'' Z'' ρ'' m'' r'' hxs ex' hg' ho'=>?_;exact h _ _ _ _ _ r'' ⟨rfl,hx.mono ex'.z ex'.r,hxs⟩ (ex.trans ex') (hg'.trans hg) (ho'.trans ho)
theorem B2 (H:SE W d R.e) (M:aS R) (ok:aJ W c) (rm:aL A d) {f:Value} {l:List CE} {es:List Expr} {ks:List (Nat×CE)} {Q:Args→Shared→Prop}
  (h1:aY (al W.T c.fd.scope.names n) l es=true) (h2:es.all cB=true) (h3:aY (gN W.T (al W.T c.fd.scope.names n)) ks kws=true) (g1:dg R l σ=some (xs,σ₁)) (g2:eV R ks σ₁=some (ys,σ')) (o:ae σ') (r:a9 W Z ρ s.heap c.L m σ)
  (h:∀ vs kw s' Z' ρ' m',a9 W Z' ρ' s'.heap c.L m' σ'→bO W Z' ρ' vs xs→bz W Z' ρ' kw ys→aA Z ρ s.heap c.L σ.heap Z' ρ' s'.heap σ'.heap→s'.gens=s.gens→s'.os=s.os→Q ⟨vs,kw⟩ s'):
  wpAny (model W.prog W.w) A (evalArgs f true (backTo pos (starEach es c.env)) (backToKw pos (keywordEach kws c.env))) Q E s:=by
 (refine aw (oi (pos:=pos) (env:=c.env) h3) ?_;rintro k1 k2)
 induction es using List.casesOn with
 |nil=>
  induction l using List.casesOn with
  |cons=>exact ac h1
  |nil=>
   (refine aw (bi g1) ?_;clear g1;rintro rfl rfl)
   refine evalArgs_kw2_nil k1 ?_;change k2;exact pV H M ok rm ks kws _ _ _ Z ρ m s _ h3 g2 o r fun vs s' Z' ρ' m' r' hx ex hg ho=>h [] _ _ _ _ _ r' trivial hx ex hg ho
 |cons e es=>
  have hs:=(L3.mp (by rw [LJ] at h2;exact h2)).1;refine evalArgs_kw2 k1 ?_ (dW hs);change k2;refine kX H M ok rm l (e::es) σ σ₁ xs Z ρ m s _ h1 h2 g1 (ae.of (iJ M) g2 o) r fun vs s' Z' ρ' m' r' hx ex hg ho=>?_;exact pV H M ok rm ks kws _ _ _ Z' ρ' m' s' _ h3 g2 o r' fun vs' s'' Z'' ρ'' m'' r'' hx' ex' hg' ho'=>h _ _ _ _ _ _ r'' (hx.mono ex'.z ex'.r) hx' (ex.trans ex') (hg'.trans hg) (ho'.trans ho)
end
section
variable {W:Wd} {Z Z':ZM} {ρ ρ':List (Addr×Addr)} {h h':Heap} {L:Addr} {m:Str→Option Value} {σ σ':St}
theorem sC {α:Type} {p:α→Bool}:∀ {l:List α},db p l=true→∀ x∈l,p x=true
 |[],_,x,hx=>(nomatch hx)
 |a::r,e,x,hx=>by
  dsimp only [db] at e;revert e;refine d8 (p a) ?_ ?_
  ·intro q e;exact ac e
  ·intro q e;rcases KQ.mp hx with rfl|hx
   ·exact q
   ·exact sC e x hx
theorem vY {k:Nat} {e:List (Addr×Addr)} {p:Addr×Addr} (hk:Nat.blt k ρ.length=true) (h:(ρ++e)[k]?=some p):ρ[k]?=some p:=by
 rw [List.getElem?_append_left (KB hk)] at h;exact h
theorem bg.low {e:List (Addr×Addr)} {v:Value} {x:X} (hb:ky ρ.length x=true) (h:bg W Z (ρ++e) v x):bg W Z ρ v x:=by
 induction x using X.casesOn with
 |v x=>exact h
 |r k=>(refine am h ?_;(try clear h);rintro p a b);exact aF p (vY hb a) b
 |m k f=>(refine be h ?_;(try clear h);rintro a p b c d);exact cP a p b (vY hb c) d
theorem ig {α:Type}:∀ {l:List (Nat×α)} {n:Nat} {x:α},look l n=some x→(n,x)∈l
 |[],_,_,h=>by exact a0 h
 |p::r,n,x,h=>by
  dsimp only [look] at h;revert h;refine d8 (Nat.beq p.1 n) ?_ ?_;rotate_left
  ·intro q h;(replace h:=Kj h;obtain rfl:=h);have:=cS.mp q;clear q;subst this;exact .head _
  ·intro q h;exact .tail _ (ig h)
theorem eK.low {e:List (Addr×Addr)} {p:Addr×Addr} {c:a8} (hb:mM ρ.length c=true) (h':eK W h Z (ρ++e) p c):eK W h Z ρ p c:=by
 induction c using a8.casesOn with
 |ins c fs=>
  obtain ⟨a,m,b,f1,f2,f3⟩:=h';refine ⟨a,m,b,f1,fun n x hx=>?_,f3⟩
  (refine am (f2 n x hx) ?_;rintro v h1 h2)
  exact aF v h1 (h2.low (sC hb _ (ig hx)))
 |bms k l=>
  (refine cv h' ?_;(try clear h');rintro vs n a z b c)
  exact fj vs n a z b (fun i v f x y=>(c i v f x y).low hb)
 |lst=>exact h'
 |stk=>exact h'
 |«strs»=>exact h'
 |dead=>trivial
theorem a9.trunc (r:a9 W Z ρ h L m σ) (r':a9 W Z' ρ' h' L m' σ') (ex:aA Z ρ h L σ.heap Z' ρ' h' σ'.heap) (hb:db (mM σ.heap.length) (σ'.heap.take σ.heap.length)=true) (hl:σ'.loc=σ.loc) (hm:m'=m):
  a9 W Z' ρ h' L m { σ' with heap:=σ'.heap.take σ.heap.length }∧aA Z ρ h L σ.heap Z' ρ h' (σ'.heap.take σ.heap.length):=by
 subst hm
 (refine ay ex.r ?_;(try clear ex.r);rintro e rfl)
 have hn:σ.heap.length≤σ'.heap.length:=by (refine aT (r'.len ..) ?_;refine aT (r.len ..) ?_;change Kn);exact KT _ _
 have up:∀ (k:Nat) (p:Addr×Addr) (c:a8),ρ[k]?=some p→(σ'.heap.take σ.heap.length)[k]?=some c→(ρ++e)[k]?=some p∧σ'.heap[k]?=some c:=by
  intro k p c h1 h2;refine ⟨ga h1,?_⟩;rw [List.getElem?_take] at h2
  split at h2
  ·exact h2
  ·exact a0 h2
 have ho:∀ a,dh ρ (σ'.heap.take σ.heap.length) a→dh (ρ++e) σ'.heap a:=by
  rintro a ⟨k,p,c,h1,h2,h3⟩
  (refine aw (up k p c h1 h2) ?_;rintro x y)
  exact gP k p c x y h3
 refine ⟨⟨r'.kz,r'.zh,r'.zL,r'.ns,fun n x hx=>?_,?_,fun k p c h1 h2=>?_,fun a q=>r'.own a (ho a q),fun k k' p p' c c' a h1 h2 h3 h4 h5 h6=>?_,fun k p c fs h1 h2=>?_⟩,
  ⟨ex.z,⟨[],(Kt _).symm⟩,ex.size,ex.keep,fun a q=>ex.own a (ho a q),ex.zn⟩⟩
 ·(refine am (r.loc n x (hl▸hx)) ?_;rintro v a b)
  exact aF v a (b.mono ex.z ⟨[],(Kt _).symm⟩)
 ·refine (?_:ρ.length=(σ'.heap.take σ.heap.length).length)
  (change List.length_take;change r.len);lia
 ·(refine aw (up k p c h1 h2) ?_;rintro x y)
  refine (r'.cell k p c x y).low ?_;change r.len;exact sC hb _ (List.mem_of_getElem? h2)
 ·(refine aw (up k p c h1 h3) ?_;rintro x y)
  (refine aw (up k' p' c' h2 h4) ?_;rintro x' y')
  exact r'.apart k k' p p' c c' a x x' y y' h5 h6
 ·(refine aw (up k p _ h1 h2) ?_;rintro x y)
  exact r'.two k p c fs x y
theorem a9.iso (r:a9 W Z ρ h L m σ):a9 W Z [] h L m { σ with heap:=[],loc:=[] }:=
 ⟨r.kz,r.zh,r.zL,r.ns,fun n x e=>(by exact a0 e),rfl,fun k p c e=>(by simp at e),fun a ⟨k,p,c,e,_⟩=>(by simp at e),fun k k' p p' c c' a e=>(by simp at e),fun k p c fs e=>(by simp at e)⟩
theorem gJ {a:Addr}:¬ dh [] [] a:=fun ⟨k,p,c,e,_⟩=>by simp at e
theorem a9.isoBack {lc:List (Nat×X)} (r:a9 W Z ρ h L m σ) (r':a9 W Z' ρ' h' L m' σ') (ex:aA Z [] h L [] Z' ρ' h' σ'.heap) (hm:m'=m) (hlc:lc=σ.loc):a9 W Z' ρ h' L m { σ' with heap:=σ.heap,loc:=lc }∧aA Z ρ h L σ.heap Z' ρ h' σ.heap:=by
 subst hm;refine ⟨⟨r'.kz,r'.zh,r'.zL,r'.ns,fun n x hx=>?_,r.len,fun k p c h1 h2=>?_,fun a q=>?_,r.apart,r.two⟩,⟨ex.z,⟨[],(Kt _).symm⟩,ex.size,fun b o e _ l=>ex.keep b o e gJ l,fun a q=>.inl q,fun a q=>(ex.zn a q).imp id fun z=>z.imp (fun z=>absurd z gJ) id⟩⟩
 ·(refine am (r.loc n x (hlc▸hx)) ?_;rintro v a b)
  exact aF v a (b.mono ex.z ⟨[],(Kt _).symm⟩)
 ·refine (r.cell k p c h1 h2).stay ex.z ⟨[],(Kt _).symm⟩ fun a o ha e=>ex.keep a o e gJ ?_;exact (r.own a ⟨k,p,c,h1,h2,ha⟩).2.1
 ·(refine bb (r.own a q) ?_;rintro x y z)
  refine b7 ?_ y (KI z ex.size);induction w:Z' a using Option.casesOn with
  |none=>rfl
  |some o=>
   rcases ex.zn a (by change w;exact fun e=>by contradiction) with t|t|t
   ·exact absurd x t
   ·exact absurd t gJ
   ·exact absurd (KI z t) (KS _)
noncomputable abbrev gL (h:Heap) (c:Nat):Heap:=(h.push emptyDict).push (instObj c h.objs.size)
theorem vR {c:Nat} (b:Addr) (o:Obj) (e:h.get? b=some o):(gL h c).get? b=some o:=Heap.get?_push_of_some _ (Heap.get?_push_of_some _ e)
theorem o6 {c:Nat}:(gL h c).objs.size=h.objs.size+2:=by (change Kz;change Kz;with_reducible rfl)
theorem EQ {c:Nat}:(gL h c).get? h.objs.size=some emptyDict:=Heap.get?_push_of_some _ (Heap.get?_push_size _ rfl)
theorem EO {c:Nat}:(gL h c).get? (h.objs.size+1)=some (instObj c h.objs.size):=by
 have:=Heap.get?_push_size (h.push emptyDict) (o:=instObj c h.objs.size) rfl;rw [Kz] at this;exact this
theorem a9.push2 {c:Nat} (r:a9 W Z ρ h L m σ):a9 W Z (ρ++[(h.objs.size+1,h.objs.size)]) (gL h c) L m { σ with heap:=σ.heap++[.ins c []] }∧
  aA Z ρ h L σ.heap Z (ρ++[(h.objs.size+1,h.objs.size)]) (gL h c) (σ.heap++[.ins c []]):=by
 have R':=r.grow (h':=gL h c) vR (by change o6;exact KT _ _);have hr:∃ e,ρ++[(h.objs.size+1,h.objs.size)]=ρ++e:=⟨_,rfl⟩
 have at':∀ (j:Nat) (p:Addr×Addr) (c₁:a8),(ρ++[(h.objs.size+1,h.objs.size)])[j]?=some p→(σ.heap++[a8.ins c []])[j]?=some c₁→(ρ[j]?=some p∧σ.heap[j]?=some c₁)∨(j=ρ.length∧p=(h.objs.size+1,h.objs.size)∧c₁=.ins c []):=by
  intro j p c₁ h1 h2;rcases LI j ρ.length with q|q|q
  ·rw [List.getElem?_append_left q] at h1;rw [List.getElem?_append_left (r.len▸q)] at h2;exact .inl ⟨h1,h2⟩
  ·subst q;rw [List.getElem?_append_right (br _),L7] at h1;rw [List.getElem?_append_right (by change r.len;exact br _),r.len,L7] at h2
   (replace h1:=Kj h1;obtain rfl:=h1);(replace h2:=Kj h2;obtain rfl:=h2)
   exact .inr ⟨rfl,rfl,rfl⟩
  ·rw [List.getElem?_eq_none (by simp;assumption)] at h1;exact a0 h1
 have ho:∀ a,dh (ρ++[(h.objs.size+1,h.objs.size)]) (σ.heap++[a8.ins c []]) a→dh ρ σ.heap a∨a=h.objs.size+1∨a=h.objs.size:=by
  rintro a ⟨j,p,c₁,h1,h2,h3⟩;rcases at' j p c₁ h1 h2 with ⟨x,y⟩|⟨_,rfl,rfl⟩
  ·exact .inl ⟨j,p,c₁,x,y,h3⟩
  ·exact .inr (by simpa [b9] using h3)
 have hfr:∀ a,h.objs.size≤a→Z a=none:=fun a ha=>by
  induction q:Z a using Option.casesOn with
  |none=>rfl
  |some o=>exact absurd (KO (r.zh _ _ q)) (KY.mpr ha)
 have hL:=r.ns.lt;refine ⟨⟨r.kz,R'.zh,r.zL,R'.ns,fun n x e=>let ⟨v,a,b⟩:=r.loc n x e;⟨v,a,b.mono (fun _ _ e=>e) hr⟩,by simp [r.len],fun j p c₁ h1 h2=>?_,fun a q=>?_,fun j j' p p' c₁ c₂ a h1 h2 h3 h4 h5 h6=>?_,fun j p c₁ fs h1 h2=>?_⟩,
  ⟨fun _ _ e=>e,hr,by change o6;exact KT _ _,fun b o e _ _=>vR b o e,fun a q=>(ho a q).imp id fun z=>z.elim (fun e=>e▸KJ _) (fun e=>e▸br _),fun _ q=>.inl q⟩⟩
 ·rcases at' j p c₁ h1 h2 with ⟨x,y⟩|⟨_,rfl,rfl⟩
  ·exact (R'.cell j p c₁ x y).stay (fun _ _ e=>e) hr fun _ _ _ e=>e
  ·refine ⟨EO,fun _=>none,⟨_,#[],_,EQ,rfl,fun e he=>by simp at he,fun _=>rfl,br _⟩,⟨fun n x e=>(by exact a0 e),fun n x e=>(by exact a0 e),fun name v e=>(by exact a0 e)⟩⟩
 ·rcases ho a q with q|q|q
  ·exact R'.own a q
  ·subst q;exact b7 (hfr _ (KJ _)) (Ly (Nat.lt_succ_of_lt hL)) (by change o6;exact KC _)
  ·subst q;exact b7 (hfr _ (br _)) (Ly hL) (by change o6;exact Nat.lt_add_of_pos_right M0)
 ·rcases at' j p c₁ h1 h3 with ⟨x,y⟩|⟨e1,rfl,rfl⟩<;>rcases at' j' p' c₂ h2 h4 with ⟨x',y'⟩|⟨e2,rfl,rfl⟩
  ·exact r.apart j j' p p' c₁ c₂ a x x' y y' h5 h6
  ·have:=(r.own a ⟨j,p,c₁,x,y,h5⟩).2.2;simp [b9] at h6;rcases h6 with e|e<;>rw [e] at this
   ·exact absurd this (KY.mpr (KJ _))
   ·exact absurd this (KS _)
  ·have:=(r.own a ⟨j',p',c₂,x',y',h6⟩).2.2;simp [b9] at h5;rcases h5 with e|e<;>rw [e] at this
   ·exact absurd this (KY.mpr (KJ _))
   ·exact absurd this (KS _)
  ·lia
 ·rcases at' j p _ h1 h2 with ⟨x,y⟩|⟨_,rfl,e⟩
  ·exact r.two j p c₁ fs x y
  ·refine (?_:h.objs.size+1≠h.objs.size);simp
noncomputable def eA (Z:ZM) (h:Heap) (as:List Addr):ZM:=fun b=>if b∈as then h.get? b else Z b
theorem a9.freeze {k:Nat} {p:Addr×Addr} {c:a8} (r:a9 W Z ρ h L m σ) (hk:ρ[k]?=some p) (hc:σ.heap[k]?=some c):
  a9 W (eA Z h (b9 p c)) ρ h L m { σ with heap:=σ.heap.set k .dead }∧aA Z ρ h L σ.heap (eA Z h (b9 p c)) ρ h (σ.heap.set k .dead):=by
 have hown:∀ a∈b9 p c,dh ρ σ.heap a:=fun a ha=>⟨k,p,c,hk,hc,ha⟩
 have hz:∀ a o,Z a=some o→eA Z h (b9 p c) a=some o:=fun a o e=>by
  unfold eA;change (Kp fun q=>by rw [(r.own a (hown a q)).1] at e;exact a0 e);exact e
 have hadr:∀ a,a∈b9 p .dead→a∈b9 p c:=fun a q=>(nomatch q)
 have hset:∀ a,dh ρ (σ.heap.set k .dead) a→dh ρ σ.heap a∧a∉b9 p c:=by
  intro a q;refine ⟨qN hk hc hadr q,fun ha=>?_⟩
  (refine cJ q ?_;(try clear q);rintro j p' c₁ h1 h2 h3)
  rw [jz a8.dead hc] at h2
  by_cases e:j=k
  ·rw [Ks e] at h2;(replace h2:=Kj h2;obtain rfl:=h2);cases h3
  ·rw [Kp e] at h2;exact e (r.apart j k p' p c₁ c a h1 hk h2 hc h3 ha)
 have old:∀ (j:Nat) (c₁:a8),(σ.heap.set k .dead)[j]?=some c₁→(j=k∧c₁=.dead)∨(j≠k∧σ.heap[j]?=some c₁):=by
  intro j c₁ q;rw [jz a8.dead hc] at q
  by_cases e:j=k
  ·rw [Ks e] at q;(replace q:=Kj q;obtain rfl:=q);exact .inl ⟨e,rfl⟩
  ·rw [Kp e] at q;exact .inr ⟨e,q⟩
 refine ⟨⟨fun a o e=>hz a o (r.kz a o e),fun a o e=>?_,?_,r.ns,fun n x e=>?_,by change Lx;exact r.len,fun j p' c₁ h1 h2=>?_,fun a q=>?_,fun j j' p₁ p₂ c₁ c₂ a h1 h2 h3 h4 h5 h6=>?_,fun j p' c₁ fs h1 h2=>?_⟩,
  ⟨hz,⟨[],(Kt _).symm⟩,br _,fun b o e _ _=>e,fun a q=>.inl (hset a q).1,fun a q=>?_⟩⟩
 ·unfold eA at e
  by_cases q:a∈b9 p c
  ·rw [Ks q] at e;exact e
  ·rw [Kp q] at e;exact r.zh a o e
 ·unfold eA;change (Kp fun q=>(r.own L (hown L q)).2.1 rfl);exact r.zL
 ·(refine am (r.loc n x e) ?_;rintro v a b)
  exact aF v a (b.mono hz ⟨[],(Kt _).symm⟩)
 ·rcases old j c₁ h2 with ⟨_,rfl⟩|⟨_,h2⟩
  ·trivial
  ·exact (r.cell j p' c₁ h1 h2).stay hz ⟨[],(Kt _).symm⟩ fun _ _ _ e=>e
 ·(refine aw (hset a q) ?_;rintro x y)
  (refine aw (r.own a x) ?_;rintro h1 h2)
  refine ⟨?_,h2⟩;unfold eA;change Kp y;exact h1
 ·rcases old j c₁ h3 with ⟨_,rfl⟩|⟨_,h3⟩
  ·cases h5
  ·rcases old j' c₂ h4 with ⟨_,rfl⟩|⟨_,h4⟩
   ·cases h6
   ·exact r.apart j j' p₁ p₂ c₁ c₂ a h1 h2 h3 h4 h5 h6
 ·rcases old j _ h2 with ⟨_,e⟩|⟨_,h2⟩
  ·contradiction
  ·exact r.two j p' c₁ fs h1 h2
 ·by_cases z:a∈b9 p c
  ·exact .inr (.inl (hown a z))
  ·unfold eA at q;rw [Kp z] at q;exact .inl q
theorem oE:∀ {fs:List (Nat×X)} {l:List (Nat×V)},ir fs=some l→∀ n y,look l n=some y→look fs n=some (.v y)
 |[],l,h,n,y,e=>by (replace h:=Kj h;obtain rfl:=h);exact a0 e
 |p::r,l,h,n,y,e=>by
  dsimp only [ir] at h;induction q:p.2 using X.casesOn with
  |v x=>
   rw [q] at h;dsimp only at h;revert h;refine aV (ir r) ?_ ?_
   ·intro h;exact a0 h
   ·intro t z h
    (replace h:=Kj h;obtain rfl:=h)
    unfold look at e ⊢;dsimp only at e;generalize Nat.beq p.1 n=w at e;induction w using Bool.casesOn with
    |true=>(replace e:=Kj e;obtain rfl:=e);exact Kq some q
    |false=>exact oE z n y e
  |r k=>rw [q] at h;exact a0 h
  |m k f=>rw [q] at h;exact a0 h
theorem a9.frzInst {k:Nat} {p:Addr×Addr} {c:Nat} {fs:List (Nat×X)} {l:List (Nat×V)} (r:a9 W Z ρ h L m σ) (hk:ρ[k]?=some p) (hc:σ.heap[k]?=some (.ins c fs)) (hl:ir fs=some l):
  aa W (eA Z h (b9 p (.ins c fs))) (.ref p.1) (.inst c l):=by
 obtain ⟨a,mm,b,f1,f2,f3⟩:=r.cell k p _ hk hc
 (refine dp b ?_;(try clear b);rintro o es ep h1 h2 h3 h4 _)
 have hz:=(r.freeze hk hc).2.z;have z1:eA Z h (b9 p (.ins c fs)) p.1=some (instObj c p.2):=by unfold eA;change Ks (by simp [b9]);exact a
 have z2:eA Z h (b9 p (.ins c fs)) p.2=some o:=by unfold eA;change Ks (by simp [b9]);exact h1
 refine .inst (fun n=>(mm (W.T.nm n)).getD .none) (fun n x e=>f1 n _ (oE hl n x e)) z1 ⟨o,es,ep,z2,h2,h3,h4⟩ (fun n x e=>?_) (fun n x e=>?_)
 ·(refine am (f2 n _ (oE hl n x e)) ?_;rintro v g1 g2)
  change g1;rfl
 ·(refine am (f2 n _ (oE hl n x e)) ?_;rintro v g1 g2)
  change g1;exact aa.mono hz g2
end
noncomputable def jl (fnv:Nat→List X→Mo X):Prop:=∀ f a σ x σ',fnv f a σ=some (x,σ')→σ'.loc=σ.loc
theorem F7:jl (cI T R):=fun f a σ x σ' e=>by
 unfold cI at e;revert e;refine aV (look T.fns f) ?_ ?_
 ·intro e;exact a0 e
 ·intro F q e;dsimp only at e;generalize R.ss F.body { σ with loc:=dU F.params a }=z at e;induction z using Option.casesOn with
  |none=>exact a0 e
  |some w=>(have za:=(af e).1;have zb:=(af e).2;clear e;obtain rfl:=za;obtain rfl:=zb);rfl
theorem yR (C:Addr) (rest:List Value) (kw:List (Str×Value)):(Code.builtin "type.__call__" ⟨.ref C::rest,kw⟩).weight=1:=by kernel_rfl
theorem z5 (C:Addr) (rest:List Value) (kw:List (Str×Value)):(Code.builtin "type.__call__" ⟨.ref C::rest,kw⟩).cUnits=1:=by kernel_rfl
theorem aL.twoC {d:Nat} {C:Addr} {rest:List Value} (h:aL A d):gu (A.under (.builtin "type.__call__" ⟨.ref C::rest,kw⟩)) d:=by
 (refine bb h ?_;(try clear h);rintro a b c)
 refine b7 ?_ ?_ c
 ·refine (?_:A.depth+Code.weight _+4 * d+6≤_);change yR;lia
 ·refine (?_:A.units+Code.cUnits _+40 * d+90≤_);change z5;lia
section
variable {W:Wd} {d:Nat} {R:ao} {c:Cx} {σ σ':St} {x:X} {Z:ZM} {ρ:List (Addr×Addr)} {m:Str→Option Value} {s:Shared} {A:Around} {Q:Value→Shared→Prop} {E:Value→Shared→Prop}
theorem bO.noRef {ρ':List (Addr×Addr)}:∀ {vs:List Value} {xs:List X},db Mine.noRef xs=true→bO W Z ρ vs xs→bO W Z ρ' vs xs
 |[],[],_,_=>trivial
 |v::vs,x::xs,hb,h=>by
  dsimp only [db] at hb;induction x using X.casesOn with
  |v y=>exact ⟨h.1,bO.noRef hb h.2⟩
  |r k=>exact ac hb
  |m k f=>exact ac hb
theorem bz.noRef {ρ':List (Addr×Addr)}:∀ {vs:List (Str×Value)} {xs:List (Nat×X)},db (fun p=>Mine.noRef p.2) xs=true→bz W Z ρ vs xs→bz W Z ρ' vs xs
 |[],[],_,_=>trivial
 |v::vs,x::xs,hb,h=>by
  dsimp only [db] at hb;obtain ⟨n,x⟩:=x;induction x using X.casesOn with
  |v y=>exact b7 h.1 h.2.1 (bz.noRef hb h.2.2)
  |r k=>exact ac hb
  |m k f=>exact ac hb
set_option tactic.hygienic true in
theorem mO {ks:List (Nat×X)} (h:d7 W.T f as ks=some args):∃ F,look W.T.fns f=some F∧pf F.params as ks F.dflts=some args:=by
 unfold d7 at h
 split at h
 ·rename_i F hF;exact aF F hF h
 ·exact a0 h
theorem mH (F:Facts2 W) (HF:fB W d R.fn) {pos:List Value} {L:Addr} {P:Result→Shared→Prop} (hcal:d7 W.T f xs ys=some args) (hp:bO W Z ρ pos xs) (hk:bz W Z ρ kw ys)
  (he:R.fn f args σ=some (x,σ')) (o:ae σ') (r:a9 W Z ρ s.heap L m σ) (rm:gu A d)
  (h:∀ v s' Z' ρ',a9 W Z' ρ' s'.heap L m σ'→bg W Z' ρ' v x→aA Z ρ s.heap L σ.heap Z' ρ' s'.heap σ'.heap→s'.gens=s.gens→s'.os=s.os→P (.ok (.ret v)) s'):
  codeAny (model W.prog W.w) A (.call (.ref f) ⟨pos,kw⟩) P s:=by
 (refine am (mO hcal) ?_;rintro Fn hF hb)
 (refine ay (F.fns f Fn hF) ?_;rintro fd ok)
 (refine dy (pX (s:=s) F.inj ok r.kin r.kz hp hk hb) ?_;rintro vs b1 b2 b3)
 exact HF f Fn fd args vs ⟨pos,kw⟩ σ σ' x Z ρ L m s A P hF ok b1 b2 b3 he o r rm (F.noLimit r.kin) h
theorem s9 (F:Facts2 W) (HF:fB W d R.fn) (HL:jl R.fn) {pos:List Value} {P:Result→Shared→Prop} (hcal:d7 W.T f xs ys=some args) (hp:bO W Z ρ pos xs) (hk:bz W Z ρ kw ys)
  (he:ed R f args σ=some (x,σ')) (o:ae σ') (r:a9 W Z ρ s.heap c.L m σ) (rm:gu A d) (h:EP W c Z ρ s σ.heap σ' x (fun v s'=>P (.ok (.ret v)) s')):codeAny (model W.prog W.w) A (.call (.ref f) ⟨pos,kw⟩) P s:=by
 unfold ed at he;induction q:R.fn f args σ using Option.casesOn with
 |none=>rw [q] at he;exact a0 he
 |some w=>
  obtain ⟨y,σ₁⟩:=w;rw [q] at he;induction y using X.casesOn with
  |m k g=>exact a0 he
  |r k=>
   (have za:=(af he).1;have zb:=(af he).2;clear he;obtain rfl:=za;obtain rfl:=zb)
   exact mH F HF hcal hp hk q o r rm fun v s' Z' ρ' r' hx ex hg ho=>h _ _ _ _ _ r' hx ex hg ho
  |v y=>
   dsimp only at he;induction hn:Nat.beq σ₁.heap.length σ.heap.length using Bool.casesOn with
   |true=>
    rw [hn] at he
    (have za:=(af he).1;have zb:=(af he).2;clear he;obtain rfl:=za;obtain rfl:=zb)
    exact mH F HF hcal hp hk q o r rm fun v s' Z' ρ' r' hx ex hg ho=>h _ _ _ _ _ r' hx ex hg ho
   |false=>
    rw [hn] at he;dsimp only at he;revert he;refine d8 (db (mM σ.heap.length) (σ₁.heap.take σ.heap.length)) ?_ ?_
    ·intro hb he;exact a0 he
    ·intro hb he
     (have za:=(af he).1;have zb:=(af he).2;clear he;obtain rfl:=za;obtain rfl:=zb)
     refine mH F HF hcal hp hk q o r rm fun v s' Z' ρ' r' hx ex hg ho=>?_
     (refine aw (r.trunc r' ex hb (HL _ _ _ _ _ q) rfl) ?_;rintro r2 ex2)
     exact h _ _ _ _ _ r2 hx ex2 hg ho
theorem Iq (F:Facts2 W) (HF:fB W d R.fn) {pos:List Value} {P:Result→Shared→Prop} (hcal:d7 W.T f xs ys=some args) (hp:bO W Z ρ pos xs) (hk:bz W Z ρ kw ys)
  (he:gn R f args σ=some (x,σ')) (o:ae σ') (r:a9 W Z ρ s.heap c.L m σ) (rm:gu A d) (h:EP W c Z ρ s σ.heap σ' x (fun v s'=>P (.ok (.ret v)) s')):codeAny (model W.prog W.w) A (.call (.ref f) ⟨pos,kw⟩) P s:=by
 (refine am (mO hcal) ?_;rintro Fn hF hb)
 (refine ay (F.fns f Fn hF) ?_;rintro fd ok)
 (refine dy (pX (s:=s) F.inj ok r.kin r.kz hp hk hb) ?_;rintro vs b1 b2 b3)
 unfold gn at he;induction hn:db noRef args using Bool.casesOn with
 |false=>rw [hn] at he;exact a0 he
 |true=>
  rw [hn] at he;dsimp only at he;revert he;refine aV (R.fn f args { σ with heap:=[],loc:=[] }) ?_ ?_
  ·intro he;exact a0 he
  ·intro w q he;obtain ⟨y,σ₁⟩:=w;induction y using X.casesOn with
   |m k g=>exact a0 he
   |r k=>exact a0 he
   |v y=>
    (have za:=(af he).1;have zb:=(af he).2;clear he;obtain rfl:=za;obtain rfl:=zb)
    refine HF f Fn fd args vs ⟨pos,kw⟩ _ σ₁ (.v y) Z [] c.L m s A P hF ok b1 (bO.noRef hn b2) b3 q o r.iso rm (F.noLimit r.kin) fun v s' Z' ρ' r' hx ex hg ho=>?_
    (refine aw (r.isoBack (lc:=σ.loc) r' ex rfl rfl) ?_;rintro r2 ex2)
    exact h _ _ _ _ _ r2 hx ex2 hg ho
theorem Io (F:Facts2 W) (HF:fB W d R.fn) {k :Nat} {pos:List Value} {P:Result→Shared→Prop} (hm:cL W.T.meths k fG=some f) (hp:bO W Z ρ pos xs) (hk:bz W Z ρ kw ys)
  (he:fF W.T R k f xs ys σ=some (x,σ')) (o:ae σ') (r:a9 W Z ρ s.heap c.L m σ) (rm:aL A d) (h:EP W c Z ρ s σ.heap σ' x (fun v s'=>P (.ok (.ret v)) s')):codeAny (model W.prog W.w) A (.call (.ref k) ⟨pos,kw⟩) P s:=by
 (refine aw (F.meth _ _ _ hm) ?_;rintro M _)
 (refine aw (F.mak _ _ hm) ?_;rintro mk _)
 have fi:findIn W.K (.ref k) "__init__"=some (some (.ref f)):=F.ini▸M.find;unfold fF at he;induction hcal:d7 W.T f (.r σ.heap.length::xs) ys using Option.casesOn with
 |none=>rw [hcal] at he;exact a0 he
 |some args=>
  rw [hcal] at he;dsimp only at he;revert he;refine aV (R.fn f args { σ with heap:=σ.heap++[.ins k []] }) ?_ ?_
  ·intro he;exact a0 he
  ·intro w q he;obtain ⟨y,σ₁⟩:=w;have hy:y=.v .none∧x=.r σ.heap.length∧σ'=σ₁:=by
    induction y using X.casesOn with
    |m k g=>exact a0 he
    |r k=>exact a0 he
    |v y=>clear q;induction y using V.casesOn<;>first|((first|exact a0 he|(have za:=(af he).1;have zb:=(af he).2;clear he;obtain rfl:=za;clear o h;obtain rfl:=zb));exact b7 rfl rfl rfl)|exact a0 he
   (refine bb hy ?_;(try clear hy);clear he;rintro rfl rfl rfl)
   obtain ⟨hh,g,dd,t,os⟩:=s
   (refine aw (r.push2 (c:=k)) ?_;rintro r2 ex2)
   refine make_core (makes_of r.kin mk) (looks_findIn r.kin fi) (fun self=>bind_fn r.kin self (Kx.mp M.fn)) (.inl rfl) ?_;have hself:(ρ++[(hh.objs.size+1,hh.objs.size)])[σ.heap.length]?=some (hh.objs.size+1,hh.objs.size):=by (refine aT (r.len ..) ?_;change List.getElem?_append_right (br _);change L7);rfl
   refine mH (s:=⟨gL hh k,g,dd,t,os⟩) F HF hcal (pos:=.ref (hh.objs.size+1)::pos) ⟨⟨_,hself,rfl⟩,hp.mono ex2.z ex2.r⟩ (hk.mono ex2.z ex2.r) q o r2 rm.twoC fun v s' Z' ρ' r' hx ex hg ho=>?_
   (have zq0:_=_:=aa.inv hx;clear hx;subst zq0)
   refine ⟨rfl,?_⟩
   (refine ay ex.r ?_;(try clear ex.r);rintro e rfl)
   exact h _ _ _ _ _ r' ⟨_,ga hself,rfl⟩ (ex2.trans ex) hg ho
theorem Ip (F:Facts2 W) (HF:fB W d R.fn) {k :Nat} {pos:List Value} {P:Result→Shared→Prop} (hm:cL W.T.meths k fG=some f) (hp:bO W Z ρ pos xs) (hk:bz W Z ρ kw ys)
  (he:ie W.T R k f xs ys σ=some (x,σ')) (o:ae σ') (r:a9 W Z ρ s.heap c.L m σ) (rm:aL A d) (h:EP W c Z ρ s σ.heap σ' x (fun v s'=>P (.ok (.ret v)) s')):codeAny (model W.prog W.w) A (.call (.ref k) ⟨pos,kw⟩) P s:=by
 (refine aw (F.meth _ _ _ hm) ?_;rintro M _)
 (refine aw (F.mak _ _ hm) ?_;rintro mk _)
 have fi:findIn W.K (.ref k) "__init__"=some (some (.ref f)):=F.ini▸M.find;unfold ie at he;induction n1:db noRef xs using Bool.casesOn with
 |false=>rw [n1] at he;exact a0 he
 |true=>
  rw [n1] at he;dsimp only at he;induction n2:db (fun p=>noRef p.2) ys using Bool.casesOn with
  |false=>rw [n2] at he;exact a0 he
  |true=>
   rw [n2] at he;dsimp only at he;revert he;refine aV (d7 W.T f (.r 0::xs) ys) ?_ ?_
   ·intro he;exact a0 he
   ·intro args hcal he;dsimp only at he;obtain ⟨σ₁,fs,rr,l,q,hh1,hl,rfl,rfl⟩:=wN he;obtain ⟨hh,g,dd,t,os⟩:=s
    (refine aw (r.iso.push2 (c:=k)) ?_;rintro r2 ex2)
    refine make_core (makes_of r.kin mk) (looks_findIn r.kin fi) (fun self=>bind_fn r.kin self (Kx.mp M.fn)) (.inl rfl) ?_;have hself:([]++[(hh.objs.size+1,hh.objs.size)]:List (Addr×Addr))[0]?=some (hh.objs.size+1,hh.objs.size):=rfl;refine mH (s:=⟨gL hh k,g,dd,t,os⟩) F HF hcal (pos:=.ref (hh.objs.size+1)::pos) ⟨⟨_,hself,rfl⟩,bO.noRef n1 hp⟩ (bz.noRef n2 hk) q o r2 rm.twoC fun v s' Z' ρ' r' hx ex hg ho=>?_
    (have zq0:_=_:=aa.inv hx;clear hx;subst zq0)
    refine ⟨rfl,?_⟩
    (refine ay ex.r ?_;(try clear ex.r);rintro e rfl)
    have hk0:σ₁.heap[0]?=some (.ins k fs):=by change hh1;rfl
    (refine aw (r'.freeze (ga hself) hk0) ?_;rintro r3 ex3)
    have V:=r'.frzInst (ga hself) hk0 hl
    (refine aw (r.isoBack (lc:=σ.loc) r3 ((ex2.trans ex).trans ex3) rfl rfl) ?_;rintro r4 ex4)
    exact h _ _ _ _ _ r4 V ex4 hg ho
end
section
variable {M:Model} {A:Around} {E:Value→Shared→Prop} {s:Shared} {Q:Value→Shared→Prop}
theorem qJ {pos:Pos} {env:Env}:∀ {es:List Expr},es.all cB=true→(backTo pos (starEach es env)).any (·.1)=false∧(backTo pos (starEach es env)).all (!·.1)=true
 |[],_=>⟨rfl,rfl⟩
 |e::es,h=>by
  rw [LJ,KD] at h
  (refine aw (qJ (pos:=pos) (env:=env) h.2) ?_;rintro a b)
  change dW h.1;exact ⟨a,b⟩
theorem Da {pos:Pos} {env:Env} {l:List (Option Str×Sem Value)} (h:l.all (·.1.isSome)=true):l.any (·.1.isNone)=false:=by
 refine dG (List.any_eq_false ..) ?_;intro x hx;have:=KM.mp h x hx;generalize x.1=q at this;induction q using Option.casesOn with
 |none=>exact ac this
 |some y=>simp
theorem nZ {o:Expr} {name:Str} {args:List Expr} (h1:gf o=true) (h2:(apos.endLine==pos.line)=true)
  (h3:methodCallForm (args.length+kws.length) (backTo pos (starEach args env)) (backToKw pos (keywordEach kws env))=true)
  (h:wpAny M A (eval o env) (fun ov s₁=>wpAny M A (getMethod ov name (do return (← importBound o env).getD true)) (fun fx s₂=>wpAny M A (callWith pos fx.1 fx.2 (backTo pos (starEach args env)) (backToKw pos (keywordEach kws env))) Q E s₂) E s₁) E s):
  wpAny M A (eval (.Call (.Attribute o name apos) args kws pos) env) Q E s:=by
 have e:eval (.Call (.Attribute o name apos) args kws pos) env=(do
  let ov ← attributeBase o name env (eval o env)
  standAt apos.atName
  methodCall o name apos pos env ov (args.length+kws.length) (backTo pos (starEach args env)) (backToKw pos (keywordEach kws env))):=rfl
 (change e;change yg h1)
 refine Km (KV h (fun ov s₁ h₁=>Km (Lv ?_)) fun _ _ x=>x);unfold methodCall;change h3;refine Km (L1 (KV (Q:=fun fx s₂=>wpAny M A (callWith pos fx.1 fx.2 (backTo pos (starEach args env)) (backToKw pos (keywordEach kws env))) Q E s₂) ?_ (fun fx s₂ h₂=>?_) fun _ _ x=>x))
 ·unfold calleeOf;exact h₁
 ·obtain ⟨f,first⟩:=fx;dsimp only;refine Km ?_;unfold methodCallPos;change Ks (by refine aU (h2 ..) ?_;rfl);exact Kv h₂
theorem Gq {W:Wd} {es:List Expr} (h1:es.all cB=true) (h2:(backToKw pos (keywordEach kws env)).all (·.1.isSome)=true) (h3:Nat.ble (es.length+kws.length) 20=true):
  methodCallForm (es.length+kws.length) (backTo pos (starEach es env)) (backToKw pos (keywordEach kws env))=true:=by
 unfold methodCallForm
 (change (qJ h1).2;change h2)
 have:=KB h3;simp only [Bool.and_self,Bool.true_and,decide_eq_true_eq]
 split<;>(first|exact Lg M1 M0|lia)
end
section
variable {W:Wd} {d:Nat} {R:ao} {c:Cx} {n:Nat} {e:Expr} {σ σ':St} {x:X} {Z:ZM} {ρ:List (Addr×Addr)} {m:Str→Option Value} {s:Shared} {A:Around} {Q:Value→Shared→Prop} {E:Value→Shared→Prop}
theorem pW (H:SE W d R.e) (M:aS R) (ok:aJ W c) (rm:aL A d) {f:Value} {first:List Value} {l:List CE} {es:List Expr} {ks:List (Nat×CE)} {P:Heap→Prop}
  (hk:∀ h,P h→∃ k,(k=Keeper.frame∨k=Keeper.machine∨k=Keeper.boundFrame)∧Looks (model W.prog W.w) h (keeperOf f) k)
  (h1:aY (al W.T c.fd.scope.names n) l es=true) (h2:es.all cB=true) (h3:aY (gN W.T (al W.T c.fd.scope.names n)) ks kws=true) (g1:dg R l σ=some (xs,σ₁)) (g2:eV R ks σ₁=some (ys,σ')) (o:ae σ') (r:a9 W Z ρ s.heap c.L m σ)
  (h:∀ vs kw s' Z' ρ' m',a9 W Z' ρ' s'.heap c.L m' σ'→bO W Z' ρ' vs xs→bz W Z' ρ' kw ys→aA Z ρ s.heap c.L σ.heap Z' ρ' s'.heap σ'.heap→s'.gens=s.gens→s'.os=s.os→P s'.heap∧wpAny (model W.prog W.w) A (call f (first++vs) kw) Q E s'):
  wpAny (model W.prog W.w) A (callWith pos f first (backTo pos (starEach es c.env)) (backToKw pos (keywordEach kws c.env))) Q E s:=by
 (refine aw (oi (pos:=pos) (env:=c.env) h3) ?_;rintro k1 k2)
 refine callWith_of (P:=P) (by (change (qJ h2).1;change Da (pos:=pos) (env:=c.env) k1);rfl) hk ?_;exact B2 H M ok rm h1 h2 h3 g1 g2 o r fun vs kw s' Z' ρ' m' r' hx hy ex hg ho=>h vs kw s' Z' ρ' m' r' hx hy ex hg ho
theorem rN {y :Nat} (h:gS W.T y f=true):look W.T.globs y=some (.stat f):=by
 unfold gS at h;revert h;refine aV (look W.T.globs y) (fun h=>ac h) fun v _=>?_;dsimp only;refine aV (pP v) (fun h=>ac h) fun a q h=>?_;exact Kq some ((zV q).trans (Kq V.stat (cS.mp h)))
theorem wL {y:Nat} {sc:List (Str×NameKind)} (h:eu W.T sc y e=true):∃ z p,e=.Name z p:=by
 unfold eu at h;induction q:dE e using Option.casesOn with
 |none=>rw [q] at h;exact ac h
 |some k=>(refine ay (gA q) ?_;clear h q;rintro p rfl);exact gR k p rfl
theorem rB (F:Facts2 W) {Fn:Fn} (hF:look W.T.fns f=some Fn):keepIn W.K (.ref f)=true∧fnIn W.K f=true:=by
 (refine ay (F.fns f Fn hF) ?_;rintro fd ok)
 (refine oR ok.at_ ?_;(try clear ok.at_);rintro a b c hat)
 unfold keepIn fnIn;dsimp only;change hat;exact ⟨rfl,rfl⟩
noncomputable abbrev Ki (Q:Value→Shared→Prop) (E:Value→Shared→Prop):Result→Shared→Prop:=fun r s'=>match r with|.ok (.ret v)=>Q v s'|.ok _=>False|.error e=>E e s'
theorem AX {y :Nat} {iso:Bool} {as:List CE} {ks:List (Nat×CE)} (F:Facts2 W) (ok:aJ W c) (H:SE W d R.e) (HF:fB W d R.fn) (HL:jl R.fn) (M:aS R) (hc:al W.T c.fd.scope.names (n+1) (.call y f iso as ks) e=true) (hx:bh W.T R (.call y f iso as ks) σ=some (x,σ'))
  (o:ae σ') (r:a9 W Z ρ s.heap c.L m σ) (rm:aL A d) (h:EP W c Z ρ s σ.heap σ' x Q):wpAny (model W.prog W.w) A (eval e c.env) Q E s:=by
 refine jD hc ?_;clear hc;intro fe es kws pos hc;refine eF hc fun c1 c2 c3 c4 c5=>?_
 (refine d6 (wL c1) ?_;clear hc;rintro nm np rfl)
 refine ah hx fun xs σ₁ g1 g2=>?_;refine ah g2 fun ys σ₂ g3 g4=>?_;refine ah g4 fun args σ₃ g5 g6=>?_
 (revert g6;refine dZ g5 fun hcal=>?_;intro g6)
 (refine am (mO hcal) ?_;rintro Fn hF _)
 have mo:yu (match iso with|true=>gn R f args|false=>ed R f args):=by clear hx g2 g6 g4;induction iso using Bool.casesOn<;>first|exact uc M|exact jy M
 refine LD (oB F ok c1 (rN c2) r fun u hu=>?_)
 (have zq0:_=_:=aa.inv hu;clear hu;subst zq0)
 refine pW H M ok rm (P:=W.K.In) (keeps_K (rB F hF).1) c3 c5 c4 g1 g3 (ae.of mo g6 o) r fun vs kw s' Z' ρ' m' r' hxs hys ex hg ho=>⟨r'.kin,Lq ?_⟩
 clear hx g2 g4 mo;induction iso using Bool.casesOn with
 |true=>exact Iq F HF hcal hxs hys g6 o r' rm.two fun v s'' Z'' ρ'' m'' r'' hx'' ex'' hg'' ho''=>h _ _ _ _ _ r'' hx'' (ex.trans ex'') (hg''.trans hg) (ho''.trans ho)
 |false=>exact s9 F HF HL hcal hxs hys g6 o r' rm.two fun v s'' Z'' ρ'' m'' r'' hx'' ex'' hg'' ho''=>h _ _ _ _ _ r'' hx'' (ex.trans ex'') (hg''.trans hg) (ho''.trans ho)
theorem At {y k:Nat} {fz:Bool} {as:List CE} {ks:List (Nat×CE)} (F:Facts2 W) (ok:aJ W c) (H:SE W d R.e) (HF:fB W d R.fn) (M:aS R) (hc:al W.T c.fd.scope.names (n+1) (.new y k fz as ks) e=true) (hx:bh W.T R (.new y k fz as ks) σ=some (x,σ'))
  (o:ae σ') (r:a9 W Z ρ s.heap c.L m σ) (rm:aL A d) (h:EP W c Z ρ s σ.heap σ' x Q):wpAny (model W.prog W.w) A (eval e c.env) Q E s:=by
 refine jD hc ?_;clear hc;intro fe es kws pos hc;refine eF hc fun c1 c2 c3 c4 c5=>?_
 (refine d6 (wL c1) ?_;clear hc;rintro nm np rfl)
 dsimp only [bh,uF] at hx;revert hx;refine aV (cL W.T.meths k fG) ?_ ?_
 ·intro hx;exact a0 hx
 ·intro f hm hx;dsimp only at hx;refine ah hx fun xs σ₁ g1 g2=>?_;refine ah g2 fun ys σ₂ g3 g6=>?_;have mo:yu (match fz with|true=>ie W.T R k f xs ys|false=>fF W.T R k f xs ys):=by clear hx g2 g6;induction fz using Bool.casesOn<;>first|exact tZ M|exact tY M
  refine LD (oB F ok c1 (rN c2) r fun u hu=>?_)
  (have zq0:_=_:=aa.inv hu;clear hu;subst zq0)
  refine pW H M ok rm (P:=W.K.In) (keeps_K (F.mak _ _ hm).2) c3 c5 c4 g1 g3 (ae.of mo g6 o) r fun vs kw s' Z' ρ' m' r' hxs hys ex hg ho=>⟨r'.kin,Lq ?_⟩
  clear hx g2 mo;induction fz using Bool.casesOn with
  |true=>exact Ip F HF hm hxs hys g6 o r' rm fun v s'' Z'' ρ'' m'' r'' hx'' ex'' hg'' ho''=>h _ _ _ _ _ r'' hx'' (ex.trans ex'') (hg''.trans hg) (ho''.trans ho)
  |false=>exact Io F HF hm hxs hys g6 o r' rm fun v s'' Z'' ρ'' m'' r'' hx'' ex'' hg'' ho''=>h _ _ _ _ _ r'' hx'' (ex.trans ex'') (hg''.trans hg) (ho''.trans ho)
theorem gp {y:Str} {q:Expr→Bool} {f:Expr} {p:Pos} (h:fw y q f p=true):∃ o ap,f=.Attribute o y ap∧q o=true∧gf o=true∧(ap.endLine==p.line)=true:=by
 unfold fw at h;refine DE h fun o a ap h=>?_;refine eG h fun h1 h2 h3 h4=>?_;clear h;obtain rfl:=dJ.mp h1;exact fj o ap rfl h2 h3 h4
theorem DS (F:Facts2 W) {fs:List (Nat×X)} {mm:Str→Option Value} (fe:∀ name v,mm name=some v→∃ n x,look fs n=some x∧W.T.nm n=name) (hz:look fs f=none):mm (W.T.nm f)=none:=by
 induction q:mm (W.T.nm f) using Option.casesOn with
 |none=>rfl
 |some w=>
  (refine aN (fe _ _ q) ?_;rintro n' x' a b)
  have:=F.inj _ _ b;clear q b;subst this;rw [hz] at a;exact a0 a
theorem Av {mn:Nat} {as:List CE} {ks:List (Nat×CE)} (F:Facts2 W) (ok:aJ W c) (H:SE W d R.e) (HF:fB W d R.fn) (HL:jl R.fn) (M:aS R) (hc:al W.T c.fd.scope.names (n+1) (.meth ce mn as ks) e=true) (hx:bh W.T R (.meth ce mn as ks) σ=some (x,σ'))
  (o:ae σ') (r:a9 W Z ρ s.heap c.L m σ) (rm:aL A d) (h:EP W c Z ρ s σ.heap σ' x Q):wpAny (model W.prog W.w) A (eval e c.env) Q E s:=by
 refine jD hc ?_;clear hc;intro fe es kws pos hc;refine eF hc fun c0 c1 c3 c4 c5=>?_
 (refine cv (gp c1) ?_;clear hc c1;rintro ob ap rfl a1 a2 a3)
 (refine aw (oi (pos:=pos) (env:=c.env) c4) ?_;rintro k1 k2)
 refine ah hx fun y σ₁ g1 g2=>?_;induction y using X.casesOn with
 |v y=>exact a0 g2
 |m k f=>exact a0 g2
 |r k=>
  dsimp only at g2;refine ah g2 fun cl σ₂ g3 g4=>?_
  (revert g4;refine dR g3 fun hcl=>?_;intro g4)
  clear g3;induction cl using a8.casesOn with
  |ins cc fs=>
   dsimp only at g4;induction hz:look fs mn using Option.casesOn with
   |some z=>rw [hz] at g4;exact a0 g4
   |none=>
    rw [hz] at g4;revert g4;refine aV (cL W.T.meths cc mn) ?_ ?_
    ·intro g4;exact a0 g4
    ·intro f hm g4;dsimp only at g4;refine ah g4 fun xs σ₃ g5 g6=>?_;refine ah g6 fun ys σ₄ g7 g8=>?_;refine ah g8 fun args σ₅ g9 g10=>?_
     (revert g10;refine dZ g9 fun hcal=>?_;intro g10)
     (refine am (mO hcal) ?_;rintro Fn hF _)
     have o4:=ae.of (jy M) g10 o;have o3:=ae.of (iJ M) g7 o4;have o1:=ae.of (fU M) g5 o3;refine nZ a2 a3 (Gq (W:=W) c5 k1 c0) (H c n ce ob σ _ _ Z ρ m s A _ E ok a1 g1 o1 r rm fun v s' Z' ρ' m' r' hv ex hg ho=>?_)
     (refine am hv ?_;(try clear hv);rintro p hp rfl)
     obtain ⟨hi,mm,hd,fo,fr,fe⟩:=r'.at hp hcl
     (refine am (j6 hi hd.ns) ?_;rintro od I lk)
     obtain ⟨MO,l,hl⟩:=F.meth _ _ _ hm;have C:=F.cls _ _ hl;refine method_fn r'.kin I (Ld C.get).1 (Ld C.get).2 MO.find (Kx.mp MO.fn) (by unfold shadowIn;dsimp only;(change lk;change DS F fe hz);rfl) ?_;refine pW H M ok rm (P:=W.K.In) (keeps_K (rB F hF).1) c3 c5 c4 g5 g7 o4 r' fun vs kw s'' Z'' ρ'' m'' r'' hx hy ex' hg' ho'=>⟨r''.kin,Lq ?_⟩
     have hs:bg W Z'' ρ'' (.ref p.1) (.r k):=bg.mono (x:=.r k) ex'.z ex'.r ⟨p,hp,rfl⟩;exact s9 F HF HL hcal (pos:=.ref p.1::vs) ⟨hs,hx⟩ hy g10 o r'' rm.two fun v s3 Z3 ρ3 m3 r3 hx3 ex3 hg3 ho3=>h _ _ _ _ _ r3 hx3 ((ex.trans ex').trans ex3) ((hg3.trans hg').trans hg) ((ho3.trans ho').trans ho)
  |_=>exact a0 g4
theorem AM {fn:Nat} (F:Facts2 W) (ok:aJ W c) (H:SE W d R.e) (HF:fB W d R.fn) (HL:jl R.fn) (M:aS R) (hc:al W.T c.fd.scope.names (n+1) (.fcall ce fn) e=true) (hx:bh W.T R (.fcall ce fn) σ=some (x,σ'))
  (o:ae σ') (r:a9 W Z ρ s.heap c.L m σ) (rm:aL A d) (h:EP W c Z ρ s σ.heap σ' x Q):wpAny (model W.prog W.w) A (eval e c.env) Q E s:=by
 refine nP hc ?_;clear hc;intro fe pos hc
 (refine cv (gp hc) ?_;clear hc;rintro ob ap rfl a1 a2 a3)
 refine ah hx fun y σ₁ g1 g2=>?_;induction y using X.casesOn with
 |v y=>exact a0 g2
 |m k f=>exact a0 g2
 |r k=>
  dsimp only at g2;refine ah g2 fun cl σ₂ g3 g4=>?_
  (revert g4;refine dR g3 fun hcl=>?_;intro g4)
  clear g3;induction cl using a8.casesOn with
  |ins cc fs=>
   dsimp only at g4;induction hz:look fs fn using Option.casesOn with
   |none=>rw [hz] at g4;exact a0 g4
   |some z=>
    rw [hz] at g4;induction z using X.casesOn with
    |v z=>exact a0 g4
    |r z=>exact a0 g4
    |m k' g=>
     dsimp only at g4;revert g4;refine aV (d7 W.T g [.r k'] []) ?_ ?_
     ·intro g4;exact a0 g4
     ·intro args hcal g4;dsimp only at g4
      (refine am (mO hcal) ?_;rintro Fn hF _)
      have o1:=ae.of (jy M) g4 o;refine nZ a2 a3 rfl (H c n ce ob σ _ _ Z ρ m s A _ E ok a1 g1 o1 r rm fun v s' Z' ρ' m' r' hv ex hg ho=>?_)
      (refine am hv ?_;(try clear hv);rintro p hp rfl)
      obtain ⟨hi,mm,hd,fo,fr,fe⟩:=r'.at hp hcl
      (refine am (j6 hi hd.ns) ?_;rintro od I lk)
      (refine am (fo fn _ hz) ?_;rintro l hl1 hl2)
      have C:=F.cls _ _ hl1;obtain ⟨u,hu,a,p',rfl,hp',hza⟩:=fr fn _ hz;refine method_usual (r:=none) r'.kin I (Ld C.get).1 (Ld C.get).2 (F.fld _ _ _ hl1 hl2) rfl ?_;refine rO F.toFacts r'.kin hi hd.ns (fo fn _ hz) hu rfl ?_;refine callWith_M0 (q:=a) (g:=g) (self:=.ref p'.1) (s:={ s' with toks:=s'.toks+1 }) ⟨r'.zh _ _ hza,r'.kin⟩ (rB F hF).2 (Lq (method_call (r'.zh _ _ hza) ?_));exact s9 (s:={ s' with toks:=s'.toks+1 }) F HF HL hcal (pos:=[.ref p'.1]) (kw:=[]) ⟨⟨p',hp',rfl⟩,trivial⟩ trivial g4 o r' rm.two fun v s3 Z3 ρ3 m3 r3 hx3 ex3 hg3 ho3=>h _ _ _ _ _ r3 hx3 (ex.trans ex3) (hg3.trans hg) (ho3.trans ho)
  |_=>exact a0 g4
end
noncomputable def qK:CE→Bool|.not _=>false|.and _=>false|.or _=>false|.ife _ _ _=>false|.cmp _ _=>false|.stuck=>false|.orz _=>false|_=>true
structure pw (e:Expr):Prop where
 hConst:∀ f,r7 e f=false
 hAttr:∀ f,lI e f=false
 hNeg:∀ f,qU e f=false
 hBin:∀ f,lH e f=false
 hTup:∀ f,nM e f=false
 hLst:∀ f,lC e f=false
 hSub:∀ f,jC e f=false
 hCall:∀ f,i9 e f=false
 hName:dE e=none
 hDict:qZ e=false
 hJoin:∀ f,qX e f=false
 hLC:∀ f,qW e f=false
 hT:ff e=false
theorem pw.not {sc:List (Str×NameKind)} {n:Nat} {c:CE} (B:pw e) (hp:qK c=true) (h:al T sc n c e=true):False:=by
 have loc:∀ x,cO T sc x e=true→False:=fun x h=>by unfold cO at h;rw [B.hName] at h;exact ac h
 have glo:∀ x,eu T sc x e=true→False:=fun x h=>by unfold eu at h;rw [B.hName] at h;exact ac h
 have two:∀ a:Bool,(a&&ff e)=true→False:=fun a h=>ac (B.hT.symm.trans (L3.mp h).2);induction n using Nat.casesOn with
 |zero=>exact ac h
 |succ n=>induction c using CE.casesOn<;>first|exact ac hp|exact loc _ h|exact glo _ h|exact two _ h|exact ac ((B.hConst _).symm.trans h)|exact ac ((B.hAttr _).symm.trans h)|exact ac ((B.hNeg _).symm.trans h)|exact ac ((B.hBin _).symm.trans h)|exact ac ((B.hTup _).symm.trans h)|exact ac ((B.hLst _).symm.trans h)|exact ac ((B.hSub _).symm.trans h)|exact ac ((B.hCall _).symm.trans h)|exact ac ((B.hJoin _).symm.trans h)|exact ac ((B.hLC _).symm.trans h)|exact ac (B.hDict.symm.trans h)|(dsimp only [al] at h;exact ac ((B.hLC _).symm.trans h))
set_option tactic.hygienic true in
theorem Db {sc:List (Str×NameKind)} {n:Nat} {c:CE} (hp:qK c=true) (hc:al T sc n c e=true):ff e=true:=by
 induction e using Expr.casesOn<;>first|rfl|exact (pw.not ⟨fun _=>rfl,fun _=>rfl,fun _=>rfl,fun _=>rfl,fun _=>rfl,fun _=>rfl,fun _=>rfl,fun _=>rfl,rfl,rfl,fun _=>rfl,fun _=>rfl,rfl⟩ hp hc).elim|skip
 case UnaryOp op x p=>induction op using UnaryOp.casesOn<;>first|rfl|exact (pw.not ⟨fun _=>rfl,fun _=>rfl,fun _=>rfl,fun _=>rfl,fun _=>rfl,fun _=>rfl,fun _=>rfl,fun _=>rfl,rfl,rfl,fun _=>rfl,fun _=>rfl,rfl⟩ hp hc).elim
set_option tactic.hygienic true in
theorem Fv {E:Value→Shared→Prop} {s:Shared} {whole:Sem Value} {Q:Bool→Shared→Prop} (hp:ff e=true) (h:wpAny M A whole (fun v s₁=>wpAny M A (truthy v) Q E s₁) E s):wpAny M A (isTrue e env whole) Q E s:=by
 refine isTrue_plain h ?_;induction e using Expr.casesOn<;>first|rfl|(exact ac hp;done)|skip
 case UnaryOp op x p=>induction op using UnaryOp.casesOn<;>first|rfl|exact ac hp
noncomputable def SC (W:Wd) (d:Nat):Prop:=∀ (c:Cx) (op:cG) (o:CmpOp) (a b:V) (va vb:Value) (t:Bool) (σ σ':St) (Z:ZM) (ρ:List (Addr×Addr)) (m:Str→Option Value) (s:Shared) (A:Around) (Q:Value→Shared→Prop) (E:Value→Shared→Prop),
 oT op o=true→eD op a b σ=some (t,σ')→ae σ'→a9 W Z ρ s.heap c.L m σ→aL A d→aa W Z va a→aa W Z vb b→
 (∀ s' m',a9 W Z ρ s'.heap c.L m' σ'→s'.heap=s.heap→s'.gens=s.gens→s'.os=s.os→Q (.bool t) s')→wpAny (model W.prog W.w) A (compareOp o va vb) Q E s
noncomputable def yt (W:Wd):Prop:=∀ (c:Cx) (x:X) (v:Value) (b:Bool) (σ σ':St) (Z:ZM) (ρ:List (Addr×Addr)) (m:Str→Option Value) (s:Shared) (A:Around) (Q:Bool→Shared→Prop) (E:Value→Shared→Prop),
 gC x σ=some (b,σ')→ae σ'→a9 W Z ρ s.heap c.L m σ→bg W Z ρ v x→pu W c Z ρ s σ' b Q→wpAny (model W.prog W.w) A (truthy v) Q E s
section
variable {W:Wd} {d:Nat} {R:ao} {c:Cx} {n:Nat} {e:Expr} {x:X} {A:Around} {E:Value→Shared→Prop}
noncomputable def fO {α:Type} (m:Mo α):Prop:=∀ σ x σ',m σ=some (x,σ')→σ'.heap=σ.heap∧σ'.loc=σ.loc
theorem ui {q:Option Bool}:fO (ec q):=fun σ y σ' h=>by
 unfold ec at h
 split at h
 ·exact a0 h
 ·(have za:=(af h).1;have zb:=(af h).2;clear h;obtain rfl:=za;obtain rfl:=zb);exact ⟨rfl,rfl⟩
 ·(have za:=(af h).1;have zb:=(af h).2;clear h;obtain rfl:=za;obtain rfl:=zb);exact ⟨rfl,rfl⟩
theorem n3 {x:X} {b:Bool} (h:gC x σ=some (b,σ')):σ'.heap=σ.heap∧σ'.loc=σ.loc:=by
 have hd:∀ {p:Prop} {b:Bool} {σ σ':St},cQ p σ=some (b,σ')→σ'.heap=σ.heap∧σ'.loc=σ.loc:=by
  intro p b σ σ' h;unfold cQ at h
  split at h
  ·exact a0 h
  ·(have za:=(af h).1;have zb:=(af h).2;clear h;obtain rfl:=za;obtain rfl:=zb);exact ⟨rfl,rfl⟩
  ·(have za:=(af h).1;have zb:=(af h).2;clear h;obtain rfl:=za;obtain rfl:=zb);exact ⟨rfl,rfl⟩
 induction x using X.casesOn with
 |v x=>induction x using V.casesOn<;>first|((first|exact a0 h|(have za:=(af h).1;have zb:=(af h).2;clear h;obtain rfl:=za;obtain rfl:=zb));exact ⟨rfl,rfl⟩)|exact hd h|exact ui _ _ _ h|exact a0 h
 |r k=>
  refine ah h fun cl σ₁ g1 g2=>?_
  (revert g2;refine dR g1 fun _=>?_;intro g2)
  clear g1;induction cl using a8.casesOn<;>first|((first|exact a0 g2|(have za:=(af g2).1;have zb:=(af g2).2;clear g2;obtain rfl:=za;clear h;obtain rfl:=zb));exact ⟨rfl,rfl⟩)|exact a0 g2
 |m k f=>exact a0 h
theorem qp {α:Type} {x:α}:fO (ak x):=fun σ y σ' e=>by (have za:=(af e).1;have zb:=(af e).2;clear e;obtain rfl:=za;obtain rfl:=zb);exact ⟨rfl,rfl⟩
theorem uh {α:Type}:fO (no:Mo α):=fun σ y σ' e=>by exact a0 e
theorem BH {α:Type} {x:Option α}:fO (aZ x):=fun σ y σ' e=>by
 unfold aZ at e
 split at e
 ·(have za:=(af e).1;have zb:=(af e).2;clear e;obtain rfl:=za;obtain rfl:=zb);exact ⟨rfl,rfl⟩
 ·exact a0 e
theorem BI {q:Prop}:fO (cQ q):=fun σ y σ' h=>by
 unfold cQ at h
 split at h
 ·exact a0 h
 ·(have za:=(af h).1;have zb:=(af h).2;clear h;obtain rfl:=za;obtain rfl:=zb);exact ⟨rfl,rfl⟩
 ·(have za:=(af h).1;have zb:=(af h).2;clear h;obtain rfl:=za;obtain rfl:=zb);exact ⟨rfl,rfl⟩
theorem nz {op:cG} {a b:V}:fO (eD op a b):=xO uh (fun _=>BI) (fun _=>ui) (fun _=>BH) fun _=>qp
theorem e7 {h h':Heap} {L:Addr} (e:h'=h) (e':hp'=hp):aA Z ρ h L hp Z ρ h' hp':=by subst e e';exact .refl
theorem cn {v:V} (h:bt R ce σ=some (v,σ')):R.e ce σ=some (.v v,σ'):=by
 refine ah h fun y σ₁ g1 g2=>?_
 (refine aw (dO g2) ?_;rintro h1 rfl)
 induction y using X.casesOn with
 |v y=>(replace h1:=Kj h1;clear h g2;obtain rfl:=h1);exact g1
 |r k=>exact a0 h1
 |m k f=>exact a0 h1
theorem ng (H:SE W d R.e) (M:aS R) (CC:SC W d) (ok:aJ W c) (rm:aL A d) {pos:Pos}:∀ (ops:List (cG×CE)) (os:List CmpOp) (es:List Expr) (a:V) (va:Value) (t:Bool) (σ σ':St) (Z:ZM) (ρ:List (Addr×Addr)) (m:Str→Option Value) (s:Shared) (Q:Bool→Shared→Prop),
  oV (al W.T c.fd.scope.names n) ops os es=true→gY R a ops σ=some (t,σ')→ae σ'→a9 W Z ρ s.heap c.L m σ→aa W Z va a→BP W c Z ρ s σ.heap σ' t Q→
  wpAny (model W.prog W.w) A (compareChain pos va os (evalEach es c.env)) (fun v s'=>∃ b,v=.bool b∧Q b s') E s∧wpAny (model W.prog W.w) A (testChain pos va os (evalEach es c.env)) Q E s
 |[],os,es,a,va,t,σ,σ',Z,ρ,m,s,Q,hc,he,o,r,hv,h=>by exact a0 he
 |p::ops,os,es,a,va,t,σ,σ',Z,ρ,m,s,Q,hc,he,o,r,hv,h=>by
  induction os using List.casesOn with
  |nil=>exact ac hc
  |cons co os=>
   induction es using List.casesOn with
   |nil=>exact ac hc
   |cons e1 es=>
    refine eG hc fun c1 c2 c3 c4=>?_;dsimp only [gY] at he;refine ah he fun b σ₁ g1 g2=>?_;refine ah g2 fun t1 σ₂ g3 g4=>?_;have g1:=cn g1;induction ops using List.casesOn with
    |nil=>
     induction os using List.casesOn with
     |cons=>exact ac c4
     |nil=>
      clear hc;induction es using List.casesOn with
      |cons=>exact ac c4
      |nil=>
       (refine aw (bi g4) ?_;clear g4;rintro rfl rfl)
       have o1:=ae.of qi g3 o;refine ⟨chain_last ?_,test_last ?_⟩
       ·refine H c n p.2 e1 σ σ₁ (.v b) Z ρ m s A _ E ok c2 g1 o1 r rm fun vb s' Z' ρ' m' r' hb ex hg ho=>?_;exact CC c p.1 co a b va vb t σ₁ _ Z' ρ' m' s' A _ E c1 g3 o r' rm (hv.mono ex.z) hb fun s'' m'' r'' hh hg' ho'=>⟨t,rfl,h _ _ _ _ r'' (ex.trans (e7 hh (nz _ _ _ g3).1)) (hg'.trans hg) (ho'.trans ho)⟩
       ·refine H c n p.2 e1 σ σ₁ (.v b) Z ρ m s A _ E ok c2 g1 o1 r rm fun vb s' Z' ρ' m' r' hb ex hg ho=>?_;exact CC c p.1 co a b va vb t σ₁ _ Z' ρ' m' s' A _ E c1 g3 o r' rm (hv.mono ex.z) hb fun s'' m'' r'' hh hg' ho'=>Lr (h _ _ _ _ r'' (ex.trans (e7 hh (nz _ _ _ g3).1)) (hg'.trans hg) (ho'.trans ho))
    |cons p2 ops=>
     induction os using List.casesOn with
     |nil=>exact ac c4
     |cons co2 os=>
      clear hc;induction es using List.casesOn with
      |nil=>exact ac c4
      |cons e2 es=>
       dsimp only at g4;have key:∃ hq:ae σ₂,(t1=false∧t=false∧σ'=σ₂)∨(t1=true∧gY R b (p2::ops) σ₂=some (t,σ')):=by
        induction t1 using Bool.casesOn with
        |false=>(revert o h;refine aR g4 ?_;intro o h);exact ba o (.inl ⟨rfl,rfl,rfl⟩)
        |true=>exact ba (ae.of (jx M) g4 o) (.inr ⟨rfl,g4⟩)
       (refine ay key ?_;(try clear key);rintro o2 key)
       have o1:=ae.of qi g3 o2;refine ⟨chain_link ?_,test_link ?_⟩
       ·refine H c n p.2 e1 σ σ₁ (.v b) Z ρ m s A _ E ok c2 g1 o1 r rm fun vb s' Z' ρ' m' r' hb ex hg ho=>?_;refine CC c p.1 co a b va vb t1 σ₁ _ Z' ρ' m' s' A _ E c1 g3 o2 r' rm (hv.mono ex.z) hb fun s'' m'' r'' hh hg' ho'=>Lr ?_;have ex2:=ex.trans (e7 hh (nz _ _ _ g3).1);clear g3 he g2 g4 o2;rcases key with ⟨rfl,rfl,rfl⟩|⟨rfl,g5⟩
        ·exact aF false rfl (h _ _ _ _ r'' ex2 (hg'.trans hg) (ho'.trans ho))
        ·exact (ng H M CC ok rm (p2::ops) (co2::os) (e2::es) b vb t σ₂ σ' Z' ρ' m'' s'' Q c4 g5 o r'' hb fun s3 Z3 ρ3 m3 r3 ex3 hg3 ho3=>h _ _ _ _ r3 (ex2.trans ex3) (hg3.trans (hg'.trans hg)) (ho3.trans (ho'.trans ho))).1
       ·refine H c n p.2 e1 σ σ₁ (.v b) Z ρ m s A _ E ok c2 g1 o1 r rm fun vb s' Z' ρ' m' r' hb ex hg ho=>?_;refine CC c p.1 co a b va vb t1 σ₁ _ Z' ρ' m' s' A _ E c1 g3 o2 r' rm (hv.mono ex.z) hb fun s'' m'' r'' hh hg' ho'=>Lr ?_;have ex2:=ex.trans (e7 hh (nz _ _ _ g3).1);clear g3 he g2 g4 o2;rcases key with ⟨rfl,rfl,rfl⟩|⟨rfl,g5⟩
        ·exact h _ _ _ _ r'' ex2 (hg'.trans hg) (ho'.trans ho)
        ·exact (ng H M CC ok rm (p2::ops) (co2::os) (e2::es) b vb t σ₂ σ' Z' ρ' m'' s'' Q c4 g5 o r'' hb fun s3 Z3 ρ3 m3 r3 ex3 hg3 ho3=>h _ _ _ _ r3 (ex2.trans ex3) (hg3.trans (hg'.trans hg)) (ho3.trans (ho'.trans ho))).2
theorem rn:∀ {ops:List (cG×CE)} {os:List CmpOp} {es:List Expr} {p:CE→Expr→Bool},oV p ops os es=true→lastMarks os es=false
 |[],os,es,_,h=>by
  refine d9 h fun h1 h2=>?_;obtain rfl:=KE.mp h1;clear h;obtain rfl:=KE.mp h2;rfl
 |c::r,[],es,p,h=>ac h
 |c::r,o::os,[],p,h=>ac h
 |c::r,o::os,e::es,p,h=>by
  refine eG h fun c1 c2 c3 c4=>?_;induction r using List.casesOn with
  |nil=>
   refine d9 c4 fun h1 h2=>?_;obtain rfl:=KE.mp h1;clear c4;obtain rfl:=KE.mp h2;clear c2 h;induction e using Expr.casesOn<;>first|rfl|exact ac c3
  |cons c' r=>
   induction os using List.casesOn with
   |nil=>exact ac c4
   |cons o' os=>
    clear h;induction es using List.casesOn with
    |nil=>exact ac c4
    |cons e' es=>exact rn (ops:=c'::r) (os:=o'::os) (es:=e'::es) c4
end
set_option tactic.hygienic true
section
variable {W:Wd} {d:Nat} {R:ao} {c:Cx} {n:Nat} {e:Expr} {σ σ':St} {x:X} {Z:ZM} {ρ:List (Addr×Addr)} {m:Str→Option Value} {s:Shared} {A:Around} {Q:Value→Shared→Prop} {E:Value→Shared→Prop}
theorem BP.after {s':Shared} {b:Bool} {P:Bool→Shared→Prop} (ex:aA Z ρ s.heap c.L hp Z' ρ' s'.heap hp') (hg:s'.gens=s.gens) (ho:s'.os=s.os) (h:BP W c Z ρ s hp σ' b P):BP W c Z' ρ' s' hp' σ' b P:=
 fun s2 Z2 ρ2 m2 r2 ex2 hg2 ho2=>h s2 Z2 ρ2 m2 r2 (ex.trans ex2) (hg2.trans hg) (ho2.trans ho)
theorem EP.after {s':Shared} (ex:aA Z ρ s.heap c.L hp Z' ρ' s'.heap hp') (hg:s'.gens=s.gens) (ho:s'.os=s.os) (h:EP W c Z ρ s hp σ' x Q):EP W c Z' ρ' s' hp' σ' x Q:=
 fun v s2 Z2 ρ2 m2 r2 hx ex2 hg2 ho2=>h v s2 Z2 ρ2 m2 r2 hx (ex.trans ex2) (hg2.trans hg) (ho2.trans ho)
theorem tE (HT:hH W d R.t) (M:aS R) (ok:aJ W c) (rm:aL A d) {pos:Pos} {whole:Sem Value}:∀ (l:List CE) (es:List Expr) (t:Bool) (σ σ':St) (Z:ZM) (ρ:List (Addr×Addr)) (m:Str→Option Value) (s:Shared) (P:Bool→Shared→Prop),
  aY (al W.T c.fd.scope.names n) l es=true→kU R l σ=some (t,σ')→ae σ'→a9 W Z ρ s.heap c.L m σ→BP W c Z ρ s σ.heap σ' t P→wpAny (model W.prog W.w) A (isTrue (.BoolOp .And es pos) c.env whole) P E s
 |[],es,t,σ,σ',Z,ρ,m,s,P,hc,he,o,r,h=>by
  change ef hc
  (revert o h;refine aR he ?_;intro o h)
  exact isTrue_and_nil (h _ _ _ _ r .refl rfl rfl)
 |ce::l,es,t,σ,σ',Z,ρ,m,s,P,hc,he,o,r,h=>by
  (refine be (cU hc) ?_;clear hc;rintro e es rfl h1 h2)
  refine ah he fun b σ₁ g1 g2=>?_;induction b using Bool.casesOn with
  |false=>
   (revert o h;refine aR g2 ?_;intro o h)
   exact isTrue_and (HT c n ce e σ _ false Z ρ m s A _ E ok h1 g1 o r rm fun s' Z' ρ' m' r' ex hg ho=>h _ _ _ _ r' ex hg ho)
  |true=>
   exact isTrue_and (HT c n ce e σ σ₁ true Z ρ m s A _ E ok h1 g1 (ae.of (q8 M) g2 o) r rm fun s' Z' ρ' m' r' ex hg ho=>tE HT M ok rm l es t σ₁ σ' Z' ρ' m' s' P h2 g2 o r' (BP.after ex hg ho h))
theorem tD (HT:hH W d R.t) (M:aS R) (ok:aJ W c) (rm:aL A d) {pos:Pos} {whole:Sem Value}:∀ (l:List CE) (es:List Expr) (t:Bool) (σ σ':St) (Z:ZM) (ρ:List (Addr×Addr)) (m:Str→Option Value) (s:Shared) (P:Bool→Shared→Prop),
  aY (al W.T c.fd.scope.names n) l es=true→kT R l σ=some (t,σ')→ae σ'→a9 W Z ρ s.heap c.L m σ→BP W c Z ρ s σ.heap σ' t P→wpAny (model W.prog W.w) A (isTrue (.BoolOp .Or es pos) c.env whole) P E s
 |[],es,t,σ,σ',Z,ρ,m,s,P,hc,he,o,r,h=>by
  change ef hc
  (revert o h;refine aR he ?_;intro o h)
  exact isTrue_or_nil (h _ _ _ _ r .refl rfl rfl)
 |ce::l,es,t,σ,σ',Z,ρ,m,s,P,hc,he,o,r,h=>by
  (refine be (cU hc) ?_;clear hc;rintro e es rfl h1 h2)
  refine ah he fun b σ₁ g1 g2=>?_;induction b using Bool.casesOn with
  |true=>
   (revert o h;refine aR g2 ?_;intro o h)
   exact isTrue_or (HT c n ce e σ _ true Z ρ m s A _ E ok h1 g1 o r rm fun s' Z' ρ' m' r' ex hg ho=>h _ _ _ _ r' ex hg ho)
  |false=>
   exact isTrue_or (HT c n ce e σ σ₁ false Z ρ m s A _ E ok h1 g1 (ae.of (q7 M) g2 o) r rm fun s' Z' ρ' m' r' ex hg ho=>tD HT M ok rm l es t σ₁ σ' Z' ρ' m' s' P h2 g2 o r' (BP.after ex hg ho h))
theorem Af (H:SE W d R.e) (HT:hH W d R.t) (CC:SC W d) (TT:yt W) (M:aS R):hH W d (kR R):=by
 intro c n ce e σ σ' b Z ρ m s A P E ok hc he o r rm h
 by_cases pc:qK ce=true
 ·have e1:kR R ce=a7 (R.e ce) gC:=by clear hc he;induction ce using CE.casesOn<;>first|rfl|exact ac pc
  rw [e1] at he;refine ah he fun y σ₁ g1 g2=>?_;refine Fv (Db pc hc) (H c n ce e σ σ₁ y Z ρ m s A _ E ok hc g1 (ae.of hX g2 o) r rm fun v s' Z' ρ' m' r' hx ex hg ho=>?_);exact TT c y v b σ₁ σ' Z' ρ' m' s' A _ E g2 o r' hx fun s2 m2 r2 hh hg2 ho2=>h _ _ _ _ r2 (ex.trans (e7 hh (n3 g2).1)) (hg2.trans hg) (ho2.trans ho)
 ·induction n using Nat.casesOn with
  |zero=>exact ac hc
  |succ n=>
   induction ce using CE.casesOn<;>first|(exact absurd rfl pc)|skip
   case not ce=>
    refine uY hc ?_;clear hc;intro y p hc;refine ah he fun t σ₁ g1 g2=>?_
    (revert o h;refine aR g2 ?_;intro o h)
    exact isTrue_not (HT c n ce y σ _ t Z ρ m s A _ E ok hc g1 o r rm fun s' Z' ρ' m' r' ex hg ho=>h _ _ _ _ r' ex hg ho)
   case and l=>
    refine vm hc ?_;clear hc;intro es p hc;exact tE HT M ok rm l es b σ σ' Z ρ m s P hc he o r h
   case or l=>
    refine qS hc ?_;clear hc;intro es p hc;exact tD HT M ok rm l es b σ σ' Z ρ m s P hc he o r h
   case ife t1 b1 o1=>
    refine v6 hc ?_;clear hc;intro et eb eo p hc;refine cq hc fun c1 c2 c3=>?_;refine ah he fun t σ₁ g1 g2=>?_;refine isTrue_IfExp (HT c n t1 et σ σ₁ t Z ρ m s A _ E ok c1 g1 ?_ r rm fun s' Z' ρ' m' r' ex hg ho=>?_)
    ·clear g1;induction t using Bool.casesOn<;>exact ae.of (M.t _) g2 o
    ·clear g1;induction t using Bool.casesOn with
     |true=>exact HT c n b1 eb σ₁ σ' b Z' ρ' m' s' A _ E ok c2 g2 o r' rm (BP.after ex hg ho h)
     |false=>exact HT c n o1 eo σ₁ σ' b Z' ρ' m' s' A _ E ok c3 g2 o r' rm (BP.after ex hg ho h)
   case cmp l ops=>
    refine vg hc ?_;clear hc;intro le os es p hc;refine d9 hc fun c1 c2=>?_;refine ah he fun a σ₁ g1 g2=>?_;refine (?_:wpAny _ _ (do testChain p (← eval le c.env) os (markedEach os es (evalEach es c.env))) _ _ _);change markedEach_of_false _ _ _ (rn c2);refine Km (H c n l le σ σ₁ (.v a) Z ρ m s A _ E ok c1 (cn g1) (ae.of (jx M) g2 o) r rm fun v s' Z' ρ' m' r' hx ex hg ho=>?_);exact (ng H M CC ok rm ops os es a v b σ₁ σ' Z' ρ' m' s' P c2 g2 o r' hx (BP.after ex hg ho h)).2
   case orz y=>exact a0 he
   case stuck=>exact a0 he
end
set_option tactic.hygienic false
theorem jw:yt W:=fun c x v b σ σ' Z ρ m s A Q E ht o r hv h=>Ag ht o r hv h
theorem nA {x y:List Nat}:(aq x==aq y)=bV x y:=by
 induction q:bV x y using Bool.casesOn with
 |true=>change ft.mp q;exact beq_self_eq_true _
 |false=>
  refine LM.mpr fun e=>?_;rw [ft.mpr (iM e)] at q;contradiction
theorem eh {x:List Nat}:(aq x).cps.toList=x:=by simp [aq]
theorem rp:∀ {a b:List Nat},dk a b=true↔a < b
 |[],[]=>by simp [dk]
 |_::_,[]=>by simp [dk]
 |[],_::_=>by simp [dk]
 |a::r,b::t=>by
  dsimp only [dk];refine dG (List.cons_lt_cons_iff ..) ?_;induction q:Nat.blt a b using Bool.casesOn with
  |true=>simp;exact .inl (KB q)
  |false=>
   have hn:¬ a < b:=fun h=>by rw [show Nat.blt a b=true from Nat.ble_eq_true_of_le h] at q;contradiction
   induction z:Nat.beq a b using Bool.casesOn with
   |true=>
    have:=cS.mp z;clear q hn z;subst this;simp [rp]
   |false=>
    have:=iz.mp z;simp [hn,this]
theorem lV {a b:List Nat}:decide (a < b)=dk a b:=by
 induction q:dk a b using Bool.casesOn with
 |true=>exact LA (rp.mp q)
 |false=>exact LB fun h=>by rw [rp.mpr h] at q;contradiction
theorem sg {o:Option Bool} {b:Bool} (h:ec o σ=some (b,σ')) (ob:ae σ'):o=some b∧σ'.heap=σ.heap∧σ'.loc=σ.loc:=by
 unfold ec at h
 split at h
 ·exact a0 h
 ·(have za:=(af h).1;have zb:=(af h).2;clear h;obtain rfl:=za;obtain rfl:=zb);exact b7 (ob _ (.head _)) rfl rfl
 ·(have za:=(af h).1;have zb:=(af h).2;clear h;obtain rfl:=za;obtain rfl:=zb);exact b7 (ob _ (.head _)) rfl rfl
section
variable {W:Wd} {Z:ZM} {A:Around} {E:Value→Shared→Prop} {s:Shared} {Q:Value→Shared→Prop}
theorem ww {v:Value} {x:V} {b:Bool} (h:aa W Z v x) (hn:e6 x=some b):plainIs v .none=true∧(v==.none)=b:=by
 cases h<;>(first|exact a0 hn|(replace hn:=Kj hn;obtain rfl:=hn))<;>exact ⟨rfl,rfl⟩
theorem oP {P:Value→Value→Bool→Prop} (h1:∀ y u,P .none (.str (aq y) u) false) (h2:∀ x u,P (.str (aq x) u) .none false) (h3:∀ i j t u,P (.int i t) (.int j u) (decide (i=j))) (h4:∀ x y t u,P (.str (aq x) t) (.str (aq y) u) (bV x y))
  {va vb:Value} {a b:V} {t:Bool} (ha:aa W Z va a) (hb:aa W Z vb b) (he:ea a b=some t):P va vb t:=by
 induction a using V.casesOn<;>first|contradiction|skip
 ·induction b using V.casesOn<;>first|contradiction|skip
  (replace he:=Kj he;obtain rfl:=he);(have zq0:_=_:=aa.inv ha;clear ha;subst zq0);(have zq0:Exists _:=aa.inv hb;clear hb;obtain ⟨_,zq0,_⟩:=zq0;subst zq0);exact h1 _ _
 ·induction b using V.casesOn<;>first|contradiction|skip
  (replace he:=Kj he;obtain rfl:=he);(have zq0:Exists _:=aa.inv ha;clear ha;obtain ⟨_,zq0⟩:=zq0;subst zq0);(have zq0:Exists _:=aa.inv hb;clear hb;obtain ⟨_,zq0⟩:=zq0;subst zq0);exact h3 _ _ _ _
 ·induction b using V.casesOn<;>first|contradiction|skip
  ·(replace he:=Kj he;obtain rfl:=he);(have zq0:Exists _:=aa.inv ha;clear ha;obtain ⟨_,zq0,_⟩:=zq0;subst zq0);(have zq0:_=_:=aa.inv hb;clear hb;subst zq0);exact h2 _ _
  ·(replace he:=Kj he;obtain rfl:=he);(have zq0:Exists _:=aa.inv ha;clear ha;obtain ⟨_,zq0,_⟩:=zq0;subst zq0);(have zq0:Exists _:=aa.inv hb;clear hb;obtain ⟨_,zq0,_⟩:=zq0;subst zq0);exact h4 _ _ _ _
theorem xi {va vb:Value} {a b:V} {t:Bool} (ha:aa W Z va a) (hb:aa W Z vb b) (he:ea a b=some t) (h:Q (.bool t) s):wpAny (model W.prog W.w) A (compareOp .Eq va vb) Q E s:=
 oP (P:=fun va vb t=>Q (.bool t) s→wpAny (model W.prog W.w) A (compareOp .Eq va vb) Q E s) (fun _ _ h=>EqNone.eq_none_str h) (fun _ _ h=>EqNone.eq_str_none h) (fun _ _ _ _ h=>eq_int h) (fun _ _ _ _ h=>eq_str (by change nA;exact h)) ha hb he h
theorem Ek {va vb:Value} {a b:V} {t:Bool} (ha:aa W Z va a) (hb:aa W Z vb b) (he:ea a b=some t) (h:Q (.bool (!t)) s):wpAny (model W.prog W.w) A (compareOp .NotEq va vb) Q E s:=
 oP (P:=fun va vb t=>Q (.bool (!t)) s→wpAny (model W.prog W.w) A (compareOp .NotEq va vb) Q E s) (fun _ _ h=>EqNone.ne_none_str h) (fun _ _ h=>EqNone.ne_str_none h) (fun _ _ _ _ h=>ne_int h) (fun _ _ _ _ h=>ne_str (by (rewrite [bne];change nA);exact h)) ha hb he h
theorem HX {va vb:Value} {a b:V} {t:Bool} (ha:aa W Z va a) (hb:aa W Z vb b) (he:ea b a=some t):MeetsSeq.EqGives va vb t:=
 oP (P:=fun vb va t=>MeetsSeq.EqGives va vb t) (fun _ _=>by
  intro prog w A E s Q h;dsimp only [eqBool];refine L1 ?_;refine wpAny_ite_split (fun hab=>by cases eq_of_beq hab) (fun _=>?_);exact Km (KV (EqNone.eq_str_none (Q:=fun v s'=>v=.bool false∧Q false s') ⟨rfl,h⟩) (fun v s' hv=>by (refine aw hv ?_;(try clear hv);rintro rfl hq);exact Lr hq) fun _ _ e=>e))
  (fun _ _=>by
  intro prog w A E s Q h;dsimp only [eqBool];refine L1 ?_;refine wpAny_ite_split (fun hab=>by cases eq_of_beq hab) (fun _=>?_);exact Km (KV (EqNone.eq_none_str (Q:=fun v s'=>v=.bool false∧Q false s') ⟨rfl,h⟩) (fun v s' hv=>by (refine aw hv ?_;(try clear hv);rintro rfl hq);exact Lr hq) fun _ _ e=>e))
  (fun i j t u=>(decide_eq_decide.mpr ⟨Eq.symm,Eq.symm⟩:decide (j=i)=decide (i=j))▸MeetsSeq.EqGives.int j i u t)
  (fun x y t u=>(show (aq y==aq x)=bV x y by refine aT (nA ..) ?_;exact Bool.beq_comm ..)▸eqGives_str (aq y) (aq x) u t) hb ha he
end
noncomputable def ve:Value→Value→Bool
 |.int a _,.int b _=>a==b
 |.str a _,.str b _=>a==b
 |_,_=>false
section
variable {W:Wd} {Z:ZM} {A:Around} {E:Value→Shared→Prop} {s:Shared} {Q:Value→Shared→Prop}
theorem HV {va vb:Value} {a b:V} {t:Bool} (ha:aa W Z va a) (hb:aa W Z vb b) (he:ea b a=some t):t=ve va vb:=
 oP (P:=fun vb va t=>t=ve va vb) (fun _ _=>rfl) (fun _ _=>rfl) (fun i j t u=>(decide_eq_decide.mpr ⟨Eq.symm,Eq.symm⟩:decide (i=j)=decide (j=i)))
  (fun x y t u=>show bV x y=(aq y==aq x) by refine aT (nA ..) ?_;exact Bool.beq_comm ..) hb ha he
theorem sA {vb:Value} {b:V} (hb:aa W Z vb b):∀ {l:List V} {vs:List Value} {t:Bool},vs.length=l.length→(∀ (i:Nat) (v:Value) (x:V),vs[i]?=some v→l[i]?=some x→aa W Z v x)→jf b l=some t→
  (∀ y∈vs,MeetsSeq.EqGives y vb (ve y vb))∧vs.any (ve · vb)=t
 |[],[],t,_,_,h=>by (replace h:=Kj h;obtain rfl:=h);exact ⟨fun y hy=>(nomatch hy),rfl⟩
 |[],_::_,_,h,_,_=>by contradiction
 |_::_,[],_,h,_,_=>by contradiction
 |x::l,v::vs,t,hl,hr,h=>by
  dsimp only [jf] at h;have hx:=hr 0 v x rfl rfl;induction q:ea b x using Option.casesOn with
  |none=>rw [q] at h;exact a0 h
  |some u=>
   have g:=HX hx hb q;have e:=HV hx hb q;rw [q] at h;dsimp only at h;induction z:jf b l using Option.casesOn with
   |none=>rw [z] at h;exact a0 h
   |some b'=>
    rw [z] at h
    (replace h:=Kj h;obtain rfl:=h)
    (refine aw (sA hb (l:=l) (vs:=vs) (by simpa using hl) (fun i v x a b=>hr (i+1) v x a b) z) ?_;rintro h1 h2)
    refine ⟨fun y hy=>?_,by (change List.any_cons;refine aT (e ..) ?_;change h2;with_reducible rfl)⟩;clear hl hr hx;rcases KQ.mp hy with rfl|hy
    ·refine aT (e ..) ?_;exact g
    ·exact h1 y hy
theorem vO {x:List Nat} {c:Nat}:decide (c∈(aq x).cps.toList)=bq x c:=by
 change eh;induction q:bq x c using Bool.casesOn with
 |true=>exact LA (ka.mp q)
 |false=>exact LB fun h=>by rw [ka.mpr h] at q;contradiction
end
noncomputable def uS (op:cG) (x y:List Nat):Bool:=match op with|.le=>!dk y x|.lt=>dk x y|.gt=>dk y x|_=>!dk x y
noncomputable def IJ (op:cG) (a b:V):Mo Bool:=match a with
 |.int x=>(match b with|.int y=>aZ (oU op x y)|b=>(match bR b with|some y=>(match kx op x y with|some p=>cQ p|none=>no)|none=>no))
 |.sint x=>(match bR b with|some y=>(match kx op x y with|some p=>cQ p|none=>no)|none=>no)
 |.str x=>(match b with|.str y=>ak (uS op x y)|_=>no)
 |_=>no
theorem IK {op:cG} {a b:V} (ho:op=.lt∨op=.le∨op=.gt∨op=.ge):eD op a b=IJ op a b:=by
 rcases ho with rfl|rfl|rfl|rfl<;>induction a using V.casesOn<;>first|rfl|(induction b using V.casesOn<;>rfl)
theorem Dx {op:cG} {a b:V} {t:Bool} (ho:op=.lt∨op=.le∨op=.gt∨op=.ge) (hc:eD op a b σ=some (t,σ')):(∃ x y,bR a=some x∧bR b=some y)∨(∃ x y,a=.str x∧b=.str y∧σ'=σ∧t=uS op x y):=by
 rw [IK ho] at hc;induction a using V.casesOn<;>first|(exact a0 hc;done)|(induction b using V.casesOn<;>first|exact .inl ⟨_,_,rfl,rfl⟩|((first|exact a0 hc|(have za:=(af hc).1;have zb:=(af hc).2;clear hc;obtain rfl:=za;obtain rfl:=zb));exact .inr ⟨_,_,rfl,rfl,rfl,rfl⟩)|exact a0 hc)
theorem HU {a b:V} {t:Bool} (h:eD .eq a b σ=some (t,σ')) (ob:ae σ'):(ea a b=some t∧σ'=σ)∨(∃ x y,bR a=some x∧bR b=some y∧t=decide (x=y)∧σ'.heap=σ.heap∧σ'.loc=σ.loc)∨(∃ x y,cg a=some x∧cg b=some y∧t=decide (x=y)∧σ'.heap=σ.heap∧σ'.loc=σ.loc)∨(∃ x y,a=.opq x∧b=.str y∧ea x (.str y)=some t∧σ'.heap=σ.heap∧σ'.loc=σ.loc):=by
 induction a using V.casesOn<;>first
  |exact .inl (dO h)
  |(induction b using V.casesOn<;>first
   |exact .inr (.inl ⟨_,_,rfl,rfl,mJ h ob⟩)
   |exact .inr (.inr (.inl ⟨_,_,rfl,rfl,mJ h ob⟩))
   |exact .inr (.inr (.inr ⟨_,_,rfl,rfl,sg h ob⟩))
   |exact .inl (dO h))
theorem Ft {va:Value} {a b:V} {t:Bool} (h:eD .is a b σ=some (t,σ')) (ob:ae σ') (ha:aa W Z va a):b=.none∧σ'.heap=σ.heap∧σ'.loc=σ.loc∧∃ x,aa W Z va x∧e6 x=some t:=by
 have l:aZ (e6 a) σ=some (t,σ')→σ'.heap=σ.heap∧σ'.loc=σ.loc∧∃ x,aa W Z va x∧e6 x=some t:=fun h=>by
  (refine aw (dO h) ?_;clear h;clear h;rintro e rfl)
  exact ⟨rfl,rfl,_,ha,e⟩
 induction b using V.casesOn<;>first|exact a0 h|skip
 refine ⟨rfl,?_⟩;induction a using V.casesOn<;>first|exact l h|skip
 (refine bb (sg h ob) ?_;rintro e e1 e2)
 exact ⟨e1,e2,_,ha.inv,e⟩
theorem Fr {va:Value} {a b:V} {t:Bool} (h:eD .isnt a b σ=some (t,σ')) (ob:ae σ') (ha:aa W Z va a):b=.none∧σ'.heap=σ.heap∧σ'.loc=σ.loc∧∃ x u,aa W Z va x∧e6 x=some u∧t=!u:=by
 have l:aZ ((e6 a).map not) σ=some (t,σ')→σ'.heap=σ.heap∧σ'.loc=σ.loc∧∃ x u,aa W Z va x∧e6 x=some u∧t=!u:=fun h=>by
  (refine aw (dO h) ?_;clear h;clear h;rintro e rfl)
  (refine am (Lc.mp e) ?_;rintro u hu e)
  exact ⟨rfl,rfl,_,u,ha,hu,e.symm⟩
 induction b using V.casesOn<;>first|exact a0 h|skip
 refine ⟨rfl,?_⟩;induction a using V.casesOn<;>first|exact l h|skip
 (refine bb (sg h ob) ?_;rintro e e1 e2)
 (refine am (Lc.mp e) ?_;rintro u hu e)
 exact ⟨e1,e2,_,u,ha.inv,hu,e.symm⟩
set_option tactic.hygienic true in
theorem FL {a b:V} {t:Bool} (h:eD .inn a b σ=some (t,σ')):(∃ z c,b=.str z∧a=.str [c]∧t=bq z c∧σ'=σ)∨∃ l,jf a l=some t∧σ'=σ∧(b=.tup l∨b=.lst l):=by
 induction b using V.casesOn<;>first|exact a0 h|skip
 ·induction a using V.casesOn<;>first|exact a0 h|skip
  rename_i z s;induction s using List.casesOn with
  |nil=>exact a0 h
  |cons c r=>
   induction r using List.casesOn with
   |nil=>exact .inl ⟨_,c,rfl,rfl,bi h⟩
   |cons=>exact a0 h
 ·(refine aw (dO h) ?_;rintro e e')
  exact .inr ⟨_,e,e',.inl rfl⟩
 ·(refine aw (dO h) ?_;rintro e e')
  exact .inr ⟨_,e,e',.inr rfl⟩
set_option tactic.hygienic true in
theorem DY {a b:V} {t:Bool} (h:eD .nin a b σ=some (t,σ')):∃ z c,b=.str z∧a=.str [c]∧t=(!bq z c)∧σ'=σ:=by
 induction b using V.casesOn<;>first|exact a0 h|skip
 induction a using V.casesOn<;>first|exact a0 h|skip
 rename_i z s;induction s using List.casesOn with
 |nil=>exact a0 h
 |cons c r=>
  induction r using List.casesOn with
  |nil=>exact cP _ c rfl rfl (bi h)
  |cons=>exact a0 h
theorem tK {d:Nat}:SC W d:=by
 intro c op o a b va vb t σ σ' Z ρ m s A Q E hop hc ob r rm ha hb h;obtain rfl:=xK hop;have h0:σ'.heap=σ.heap→σ'.loc=σ.loc→Q (.bool t) s:=fun e1 e2=>h s m (r.same e1 e2) rfl rfl rfl
 by_cases ho:op=.lt∨op=.le∨op=.gt∨op=.ge
 ·rcases Dx ho hc with ⟨x,y,hx,hy⟩|⟨x,y,rfl,rfl,rfl,rfl⟩
  ·exact AU hop ho hx hy hc ob r ha hb fun s' r' a b c=>h s' m r' a b c
  ·have h0:=h0 rfl rfl
   (have zq0:Exists _:=aa.inv ha;clear ha;obtain ⟨_,zq0,_⟩:=zq0;subst zq0);(have zq0:Exists _:=aa.inv hb;clear hb;obtain ⟨_,zq0,_⟩:=zq0;subst zq0)
   clear hop h hc;rcases ho with rfl|rfl|rfl|rfl
   ·exact lt_str (by (change eh;change eh;change lV);exact h0)
   ·exact PySem.P.le_str (by (change eh;change eh;change lV);exact h0)
   ·exact PySem.P.gt_str (by (change eh;change eh;change lV);exact h0)
   ·exact PySem.P.ge_str (by (change eh;change eh;change lV);exact h0)
 ·clear hop;induction op using cG.casesOn<;>first|(exact absurd (by first|exact .inl rfl|exact .inr (.inl rfl)|exact .inr (.inr (.inl rfl))|exact .inr (.inr (.inr rfl))) ho)|skip
  case eq=>
   have two:=HU hc ob;clear r h hc;rcases two with ⟨e,rfl⟩|⟨x,y,hx,hy,rfl,e1,e2⟩|⟨x,y,hx,hy,rfl,e1,e2⟩|⟨x,y,rfl,rfl,e,e1,e2⟩
   ·exact xi ha hb e (h0 rfl rfl)
   ·(refine ay (gd ha hx) ?_;clear ha;rintro u rfl)
    (refine ay (gd hb hy) ?_;clear hb;rintro u' rfl)
    refine eq_int ?_;refine aU (show (x==y)=decide (x=y) from rfl) ?_;exact h0 e1 e2
   ·(refine am (gB ha hx) ?_;clear ha;rintro u rfl _)
    (refine am (gB hb hy) ?_;clear hb;rintro u' rfl _)
    refine eq_str ?_;refine aU (show (aq x==aq y)=decide (x=y) from by by_cases e:x=y<;>simp [e]) ?_;exact h0 e1 e2
   ·have ha:aa _ _ _ _:=aa.inv ha;exact xi ha hb e (h0 e1 e2)
  case ne=>
   (refine aw (dO hc) ?_;clear r;clear hc;rintro e rfl)
   (refine am (Lc.mp e) ?_;clear h e;rintro u hu rfl)
   exact Ek ha hb hu (h0 rfl rfl)
  case is=>
   obtain ⟨rfl,e1,e2,x,hx,hn⟩:=Ft hc ob ha
   (have zq0:_=_:=aa.inv hb;clear hb;subst zq0)
   (refine aw (ww hx hn) ?_;rintro p q)
   exact wpAny_is_plain p (by change q;exact h0 e1 e2)
  case isnt=>
   clear h;obtain ⟨rfl,e1,e2,x,u,hx,hn,rfl⟩:=Fr hc ob ha
   (have zq0:_=_:=aa.inv hb;clear hb;subst zq0)
   (refine aw (ww hx hn) ?_;rintro p q)
   exact wpAny_isNot_plain p (by change q;exact h0 e1 e2)
  case inn=>
   clear h;rcases FL hc with ⟨z,ch,rfl,rfl,rfl,rfl⟩|⟨l,e,rfl,hb'⟩
   ·(have zq0:Exists _:=aa.inv ha;clear ha;obtain ⟨_,zq0,_⟩:=zq0;subst zq0);(have zq0:Exists _:=aa.inv hb;clear hb;obtain ⟨_,zq0,_⟩:=zq0;subst zq0)
    refine in_str ?_
    (refine aU (show aq [_]=(⟨#[_]⟩:Str) from rfl) ?_;change PySem.StrLaws.found_one;change vO)
    exact h0 rfl rfl
   ·clear hc;rcases hb' with rfl|rfl
    ·(refine dp hb.inv ?_;(try clear hb.inv);clear hb;rintro ad nn vs rfl hz hs hl hr)
     (refine aw (sA ha hl hr e) ?_;rintro g1 g2)
     exact PySem.SeqRoads2.in_tuple (ve · va) (fun y hy=>g1 y (by simpa using hy)) (r.zh _ _ hz) (by refine aT (Array.any_toList ..) ?_;simp only [];change g2;exact h0 rfl rfl)
    ·(refine dp hb.inv ?_;(try clear hb.inv);clear hb;rintro ad nn vs rfl hz hs hl hr)
     (refine aw (sA ha hl hr e) ?_;rintro g1 g2)
     exact PySem.SeqRoads2.in_list (ve · va) (fun y hy=>g1 y (by simpa using hy)) (r.zh _ _ hz) (by refine aT (Array.any_toList ..) ?_;simp only [];change g2;exact h0 rfl rfl)
  case nin=>
   (refine cv (DY hc) ?_;clear r h hc;rintro z ch rfl rfl rfl rfl)
   (have zq0:Exists _:=aa.inv ha;clear ha;obtain ⟨_,zq0,_⟩:=zq0;subst zq0);(have zq0:Exists _:=aa.inv hb;clear hb;obtain ⟨_,zq0,_⟩:=zq0;subst zq0)
   refine notIn_str ?_
   (refine aU (show aq [_]=(⟨#[_]⟩:Str) from rfl) ?_;change PySem.StrLaws.found_one;change vO)
   exact h0 rfl rfl
set_option backward.match.sparseCases true
section
variable {W:Wd} {d:Nat} {R:ao} {c:Cx} {n:Nat} {e:Expr} {σ σ':St} {x:X} {Z:ZM} {ρ:List (Addr×Addr)} {m:Str→Option Value} {s:Shared} {A:Around} {Q:Value→Shared→Prop} {E:Value→Shared→Prop}
theorem EP.same {s:Shared} {σ₁:St} (h:EP W c Z ρ s hp σ' x Q) (v:Value) {s':Shared} (r:a9 W Z' ρ' s'.heap c.L m' σ') (hx:bg W Z' ρ' v x) (ex:aA Z ρ s.heap c.L hp Z' ρ' s'.heap σ'.heap) (hg:s'.gens=s.gens) (ho:s'.os=s.os):Q v s':=h v s' Z' ρ' m' r hx ex hg ho
theorem Aq (H:SE W d R.e) (M:aS R) (ok:aJ W c) (hc:al W.T c.fd.scope.names (n+1) (.not ce) e=true) (hx:bh W.T R (.not ce) σ=some (x,σ')) (o:ae σ') (r:a9 W Z ρ s.heap c.L m σ) (rm:aL A d) (h:EP W c Z ρ s σ.heap σ' x Q):wpAny (model W.prog W.w) A (eval e c.env) Q E s:=by
 refine uY hc ?_;clear hc;intro y p hc;refine ah hx fun z σ₁ g1 g2=>?_;refine ah g2 fun b σ₂ g3 g4=>?_
 (revert o h;refine aR g4 ?_;intro o h)
 refine wpAny_UnaryOp (H c n ce y σ σ₁ z Z ρ m s A _ E ok hc g1 (ae.of hX g3 o) r rm fun v s' Z' ρ' m' r' hz ex hg ho=>not_of ?_);exact jw c z v b σ₁ _ Z' ρ' m' s' A _ E g3 o r' hz fun s2 m2 r2 hh hg2 ho2=>h _ _ _ _ _ r2 .bool (ex.trans (e7 hh (n3 g3).1)) (hg2.trans hg) (ho2.trans ho)
theorem Au (H:SE W d R.e) (M:aS R) (ok:aJ W c) (hc:al W.T c.fd.scope.names (n+1) (.neg ce) e=true) (hx:bh W.T R (.neg ce) σ=some (x,σ')) (o:ae σ') (r:a9 W Z ρ s.heap c.L m σ) (rm:aL A d) (h:EP W c Z ρ s σ.heap σ' x Q):wpAny (model W.prog W.w) A (eval e c.env) Q E s:=by
 refine DA hc ?_;clear hc;intro y p hc;refine ah hx fun z σ₁ g1 g2=>?_;have g1:=cn g1;induction z using V.casesOn<;>first|((first|exact a0 g2|(have za:=(af g2).1;have zb:=(af g2).2;clear g2;obtain rfl:=za;obtain rfl:=zb));done)|skip
 (revert o h;refine aR g2 ?_;intro o h)
 refine wpAny_UnaryOp (H c n ce y σ _ _ Z ρ m s A _ E ok hc g1 o r rm fun v s' Z' ρ' m' r' hz ex hg ho=>?_)
 (have zq0:Exists _:=aa.inv hz;clear hz;obtain ⟨_,zq0⟩:=zq0;subst zq0)
 exact neg_int (h _ { s' with toks:=s'.toks+1 } _ _ _ r' .int ex hg ho)
theorem tB (H:SE W d R.e) (M:aS R) (ok:aJ W c) (rm:aL A d) {pos:Pos}:∀ (l:List CE) (es:List Expr) (x:X) (σ σ':St) (Z:ZM) (ρ:List (Addr×Addr)) (m:Str→Option Value) (s:Shared) (Q:Value→Shared→Prop),
  aY (al W.T c.fd.scope.names n) l es=true→kP R l σ=some (x,σ')→ae σ'→a9 W Z ρ s.heap c.L m σ→EP W c Z ρ s σ.heap σ' x Q→wpAny (model W.prog W.w) A (boolOp pos .And (evalEach es c.env)) Q E s
 |[],es,x,σ,σ',Z,ρ,m,s,Q,hc,he,o,r,h=>by exact a0 he
 |[ce],es,x,σ,σ',Z,ρ,m,s,Q,hc,he,o,r,h=>by
  (refine be (cU hc) ?_;clear hc;rintro e es rfl h1 h2)
  change ef h2;refine ah he fun y σ₁ g1 g2=>?_
  (revert o h;refine aR g2 ?_;intro o h)
  exact H c n ce e σ _ _ Z ρ m s A _ E ok h1 g1 o r rm h
 |ce::ce2::l,es,x,σ,σ',Z,ρ,m,s,Q,hc,he,o,r,h=>by
  (refine be (cU hc) ?_;clear hc;rintro e es rfl h1 h2)
  refine ah he fun y σ₁ g1 g2=>?_;refine ah g2 fun b σ₂ g3 g4=>?_;have o2:ae σ₂:=by
   clear g3;induction b using Bool.casesOn with
   |false=>(refine aw (bi g4) ?_;clear g4;rintro _ rfl);exact o
   |true=>exact ae.of (pZ M) g4 o
  (refine be (cU h2) ?_;rintro e2 es2 rfl _ _)
  refine (?_:wpAny _ _ (do
   let v ← eval e c.env
   standAt pos
   let t ← holding [v] (truthy v)
   match BoolOp.And,t with
   |.And,false|.Or,true=>pure v
   |_,_=>boolOp pos .And (evalEach (e2::es2) c.env)) Q E s)
  refine Km (H c n ce e σ σ₁ y Z ρ m s A _ E ok h1 g1 (ae.of hX g3 o2) r rm fun v s' Z' ρ' m' r' hy ex hg ho=>Km (Lv (Km (L1 ?_))));refine jw c y v b σ₁ _ Z' ρ' m' s' A _ E g3 o2 r' hy fun s2 m2 r2 hh hg2 ho2=>?_;have ex2:=ex.trans (e7 hh (n3 g3).1);clear g3;induction b using Bool.casesOn with
  |false=>(revert o h;refine aR g4 ?_;intro o h);exact Kv (h _ _ _ _ _ r2 hy ex2 (hg2.trans hg) (ho2.trans ho))
  |true=>exact tB H M ok rm (ce2::l) (e2::es2) x σ₂ σ' Z' ρ' m2 s2 Q h2 g4 o r2 (EP.after ex2 (hg2.trans hg) (ho2.trans ho) h)
theorem tA (H:SE W d R.e) (M:aS R) (ok:aJ W c) (rm:aL A d) {pos:Pos}:∀ (l:List CE) (es:List Expr) (x:X) (σ σ':St) (Z:ZM) (ρ:List (Addr×Addr)) (m:Str→Option Value) (s:Shared) (Q:Value→Shared→Prop),
  aY (al W.T c.fd.scope.names n) l es=true→kO R l σ=some (x,σ')→ae σ'→a9 W Z ρ s.heap c.L m σ→EP W c Z ρ s σ.heap σ' x Q→wpAny (model W.prog W.w) A (boolOp pos .Or (evalEach es c.env)) Q E s
 |[],es,x,σ,σ',Z,ρ,m,s,Q,hc,he,o,r,h=>by exact a0 he
 |[ce],es,x,σ,σ',Z,ρ,m,s,Q,hc,he,o,r,h=>by
  (refine be (cU hc) ?_;clear hc;rintro e es rfl h1 h2)
  change ef h2;refine ah he fun y σ₁ g1 g2=>?_
  (revert o h;refine aR g2 ?_;intro o h)
  exact H c n ce e σ _ _ Z ρ m s A _ E ok h1 g1 o r rm h
 |ce::ce2::l,es,x,σ,σ',Z,ρ,m,s,Q,hc,he,o,r,h=>by
  (refine be (cU hc) ?_;clear hc;rintro e es rfl h1 h2)
  refine ah he fun y σ₁ g1 g2=>?_;refine ah g2 fun b σ₂ g3 g4=>?_;have o2:ae σ₂:=by
   clear g3;induction b using Bool.casesOn with
   |true=>(refine aw (bi g4) ?_;clear g4;rintro _ rfl);exact o
   |false=>exact ae.of (pY M) g4 o
  (refine be (cU h2) ?_;rintro e2 es2 rfl _ _)
  refine (?_:wpAny _ _ (do
   let v ← eval e c.env
   standAt pos
   let t ← holding [v] (truthy v)
   match BoolOp.Or,t with
   |.And,false|.Or,true=>pure v
   |_,_=>boolOp pos .Or (evalEach (e2::es2) c.env)) Q E s)
  refine Km (H c n ce e σ σ₁ y Z ρ m s A _ E ok h1 g1 (ae.of hX g3 o2) r rm fun v s' Z' ρ' m' r' hy ex hg ho=>Km (Lv (Km (L1 ?_))));refine jw c y v b σ₁ _ Z' ρ' m' s' A _ E g3 o2 r' hy fun s2 m2 r2 hh hg2 ho2=>?_;have ex2:=ex.trans (e7 hh (n3 g3).1);clear g3;induction b using Bool.casesOn with
  |true=>(revert o h;refine aR g4 ?_;intro o h);exact Kv (h _ _ _ _ _ r2 hy ex2 (hg2.trans hg) (ho2.trans ho))
  |false=>exact tA H M ok rm (ce2::l) (e2::es2) x σ₂ σ' Z' ρ' m2 s2 Q h2 g4 o r2 (EP.after ex2 (hg2.trans hg) (ho2.trans ho) h)
set_option tactic.hygienic true in
theorem Ao (H:SE W d R.e) (M:aS R) (ok:aJ W c) (hc:al W.T c.fd.scope.names (n+1) (.orz ce) e=true) (hx:bh W.T R (.orz ce) σ=some (x,σ')) (o:ae σ') (r:a9 W Z ρ s.heap c.L m σ) (rm:aL A d) (h:EP W c Z ρ s σ.heap σ' x Q):wpAny (model W.prog W.w) A (eval e c.env) Q E s:=by
 refine Dz hc ?_;clear hc;intro a b p hc;refine d9 hc fun c1 c2=>?_;refine ah hx fun y σ₁ g1 g2=>?_;have key:∃ (i:Int) (u:V),(y=.none∧i=0∨bR y=some i)∧x=.v u∧(∀ (Z:ZM) (t:Tok),aa W Z (.int i t) u)∧σ'=σ₁:=by
  clear g1;induction y using V.casesOn<;>first|((first|exact a0 g2|(have za:=(af g2).1;have zb:=(af g2).2;clear g2;obtain rfl:=za;obtain rfl:=zb));done)|skip
  ·(revert o h;refine aR g2 ?_;intro o h);exact fj 0 _ (.inl ⟨rfl,rfl⟩) rfl (fun _ _=>.int) rfl
  ·(revert o h;refine aR g2 ?_;intro o h);exact fj _ _ (.inr rfl) rfl (fun _ _=>.int) rfl
  ·(revert o h;refine aR g2 ?_;intro o h);exact fj _ _ (.inr rfl) rfl (fun _ _=>.sint) rfl
 (refine cv key ?_;(try clear key);clear hx;clear g2;rintro i u hy rfl vu rfl)
 refine (?_:wpAny _ _ (do
  let v ← eval a c.env
  standAt p
  let t ← holding [v] (truthy v)
  match BoolOp.Or,t with
  |.And,false|.Or,true=>pure v
  |_,_=>boolOp p .Or (evalEach [b] c.env)) Q E s)
 have zero:∀ (s2:Shared) (Z2:ZM) (ρ2:List (Addr×Addr)) (m2:Str→Option Value),a9 W Z2 ρ2 s2.heap c.L m2 σ'→aA Z ρ s.heap c.L σ.heap Z2 ρ2 s2.heap σ'.heap→s2.gens=s.gens→s2.os=s.os→i=0→wpAny (model W.prog W.w) A (eval b c.env) Q E s2:=by
  intro s2 Z2 ρ2 m2 r2 ex2 hg2 ho2 hi
  (refine d6 (yz c2) ?_;clear hc;clear c2;rintro k pb rfl)
  clear hy;subst hi;refine (?_:wpAny _ _ (constValue c.env (.int 0)) _ _ _);exact wpAny_mkInt (h _ { s2 with toks:=_ } _ _ _ r2 (vu _ _) ex2 hg2 ho2)
 refine Km (H c n ce a σ σ' (.v y) Z ρ m s A _ E ok c1 (cn g1) o r rm fun v s' Z' ρ' m' r' hv ex hg ho=>Km (Lv (Km (L1 ?_))));clear g1;rcases hy with ⟨rfl,hi⟩|hy
 ·refine jw c (.v .none) v false σ' σ' Z' ρ' m' s' A _ E rfl o r' hv fun s2 m2 r2 hh hg2 ho2=>?_;exact zero s2 Z' ρ' m2 r2 (ex.trans (e7 hh rfl)) (hg2.trans hg) (ho2.trans ho) hi
 ·(refine ay (gd hv hy) ?_;clear hv;rintro t rfl)
  refine jw c (.v (.int i)) (.int i t) (!decide (i=0)) σ' σ' Z' ρ' m' s' A _ E rfl o r' aa.int fun s2 m2 r2 hh hg2 ho2=>?_
  by_cases hi:i=0
  ·change LA hi;exact zero s2 Z' ρ' m2 r2 (ex.trans (e7 hh rfl)) (hg2.trans hg) (ho2.trans ho) hi
  ·change LB hi;exact Kv (h _ _ _ _ _ r2 (vu _ _) (ex.trans (e7 hh rfl)) (hg2.trans hg) (ho2.trans ho))
theorem B4 {l:List CE} (H:SE W d R.e) (M:aS R) (ok:aJ W c) (hc:al W.T c.fd.scope.names (n+1) (.and l) e=true) (hx:bh W.T R (.and l) σ=some (x,σ')) (o:ae σ') (r:a9 W Z ρ s.heap c.L m σ) (rm:aL A d) (h:EP W c Z ρ s σ.heap σ' x Q):wpAny (model W.prog W.w) A (eval e c.env) Q E s:=by
 refine vm hc ?_;clear hc;intro es p hc;exact tB H M ok rm l es x σ σ' Z ρ m s Q hc hx o r h
theorem Ap {l:List CE} (H:SE W d R.e) (M:aS R) (ok:aJ W c) (hc:al W.T c.fd.scope.names (n+1) (.or l) e=true) (hx:bh W.T R (.or l) σ=some (x,σ')) (o:ae σ') (r:a9 W Z ρ s.heap c.L m σ) (rm:aL A d) (h:EP W c Z ρ s σ.heap σ' x Q):wpAny (model W.prog W.w) A (eval e c.env) Q E s:=by
 refine qS hc ?_;clear hc;intro es p hc;exact tA H M ok rm l es x σ σ' Z ρ m s Q hc hx o r h
theorem AD {t b oe:CE} (H:SE W d R.e) (HT:hH W d R.t) (M:aS R) (ok:aJ W c) (hc:al W.T c.fd.scope.names (n+1) (.ife t b oe) e=true) (hx:bh W.T R (.ife t b oe) σ=some (x,σ')) (o:ae σ') (r:a9 W Z ρ s.heap c.L m σ) (rm:aL A d) (h:EP W c Z ρ s σ.heap σ' x Q):wpAny (model W.prog W.w) A (eval e c.env) Q E s:=by
 refine v6 hc ?_;clear hc;intro et eb eo p hc;refine cq hc fun c1 c2 c3=>?_;refine ah hx fun y σ₁ g1 g2=>?_;have o1:ae σ₁:=by clear g1;induction y using Bool.casesOn<;>exact ae.of (M.e _) g2 o
 refine wpAny_IfExp (HT c n t et σ σ₁ y Z ρ m s A _ E ok c1 g1 o1 r rm fun s' Z' ρ' m' r' ex hg ho=>?_);clear g1;induction y using Bool.casesOn with
 |true=>change Ks rfl;exact H c n b eb σ₁ σ' x Z' ρ' m' s' A _ E ok c2 g2 o r' rm (EP.after ex hg ho h)
 |false=>change Kp M0;exact H c n oe eo σ₁ σ' x Z' ρ' m' s' A _ E ok c3 g2 o r' rm (EP.after ex hg ho h)
theorem AT {l:CE} {ops:List (cG×CE)} (H:SE W d R.e) (M:aS R) (ok:aJ W c) (hc:al W.T c.fd.scope.names (n+1) (.cmp l ops) e=true) (hx:bh W.T R (.cmp l ops) σ=some (x,σ')) (o:ae σ') (r:a9 W Z ρ s.heap c.L m σ) (rm:aL A d) (h:EP W c Z ρ s σ.heap σ' x Q):wpAny (model W.prog W.w) A (eval e c.env) Q E s:=by
 refine vg hc ?_;clear hc;intro le os es p hc;refine d9 hc fun c1 c2=>?_;refine ah hx fun a σ₁ g1 g2=>?_;refine ah g2 fun b σ₂ g3 g4=>?_
 (revert o h;refine aR g4 ?_;intro o h)
 refine (?_:wpAny _ _ (do compareChain p (← eval le c.env) os (markedEach os es (evalEach es c.env))) _ _ _);change markedEach_of_false _ _ _ (rn c2);refine Km (H c n l le σ σ₁ (.v a) Z ρ m s A _ E ok c1 (cn g1) (ae.of (jx M) g3 o) r rm fun v s' Z' ρ' m' r' hy ex hg ho=>?_);refine KV (ng (Q:=fun b' s'=>b'=b∧Q (.bool b) s') H M tK ok rm ops os es a v b σ₁ _ Z' ρ' m' s' c2 g3 o r' hy fun s2 Z2 ρ2 m2 r2 ex2 hg2 ho2=>⟨rfl,h _ _ _ _ _ r2 .bool (ex.trans ex2) (hg2.trans hg) (ho2.trans ho)⟩).1 (fun v' s2 hv=>?_) fun _ _ z=>z
 (refine dy hv ?_;(try clear hv);clear hx h g2 g3 g4;rintro b' rfl rfl hb)
 exact hb
end
set_option backward.match.sparseCases false
set_option tactic.hygienic true in
theorem El {n:Int} {l:List Nat} (hl:l.length=1) (hn:n≤lim):Txt.mul (aq l) n=aq (List.replicate n.toNat l).flatten:=by
 dsimp only [Txt.mul]
 split
 ·rename_i h;have:n.toNat=0:=by lia
  change this;rfl
 ·split
  ·rename_i h1 h2;have e:n=1:=by
    rw [Bool.or_eq_true] at h2;rcases h2 with h2|h2
    ·exact Kx.mp h2
    ·have:=Kx.mp h2;rw [ct] at this;lia
   clear hn h1 h2;subst e;simp
  ·have:∀ (k:Nat) (a:Array Nat),(List.replicate k l.toArray).foldl (·++·) a=a++((List.replicate k l).flatten).toArray:=by
    intro k;induction k with
    |zero=>intro a;rfl
    |succ k ih=>intro a;(change LV;change LL;change ih;change LV;change List.flatten_cons);simp
   refine (?_:(⟨_⟩:Str)=⟨_⟩);change this;simp
theorem GB {l:List Nat} (hl:l.length=1) (k:Nat):(List.replicate k l).flatten.length=k:=by
 induction k with
 |zero=>rfl
 |succ k ih=>(change LV;change List.flatten_cons;change Kn;change ih;change hl);exact Nat.add_comm _ _
theorem Em {n:Int} {l:List Nat} (hl:l.length=1) (hn:n≤lim) (hlo:-lim≤n):MulOk (aq l) n:=by
 have e:lim=1048576:=rfl;rw [e] at hn hlo;refine b7 ?_ (fun h1 h2=>?_) (fun h1 h2=>?_)
 ·simp;lia
 ·(change ct;change hl)
  have:(2 ^ 63 - 1:Int) / n≥1:=by
   have:=Int.le_ediv_of_mul_le (a:=1) (b:=2 ^ 63 - 1) (c:=n) (by grind) M2;exact this
  lia
 ·(change ct;change hl)
  unfold PySem.Builtin.Str.tooLong;change KL;simp;exact Int.le_trans M1 M0
section
variable {W:Wd} {d:Nat} {R:ao} {c:Cx} {n:Nat} {e:Expr} {σ σ':St} {x:X} {Z:ZM} {ρ:List (Addr×Addr)} {m:Str→Option Value} {s:Shared} {A:Around} {Q:Value→Shared→Prop} {E:Value→Shared→Prop}
noncomputable abbrev Kh (W:Wd) (c:Cx) (Z:ZM) (ρ:List (Addr×Addr)) (s:Shared) (σ σ':St) (y:V) (Q:Value→Shared→Prop):Prop:=gq W c Z ρ s σ' y Q
theorem bM.cat {vs us:List Value} {l k:List V} (a:bM W Z vs l) (b:bM W Z us k) (h:vs.length+us.length≤sizeLine):bM W Z (vs++us) (l++k):=by
 (refine bb a ?_;(try clear a);rintro a1 a2 a3)
 (refine bb b ?_;(try clear b);rintro b1 b2 b3)
 refine b7 (by change Kn;exact h) (by simp [a2,b2]) (fun i v x e1 e2=>?_);rcases Nat.lt_or_ge i vs.length with q|q
 ·rw [List.getElem?_append_left q] at e1;rw [List.getElem?_append_left (a2▸q)] at e2;exact a3 i v x e1 e2
 ·rw [List.getElem?_append_right q] at e1;rw [List.getElem?_append_right (a2▸q),← a2] at e2;exact b3 _ v x e1 e2
theorem kH {a:Addr} {o:Obj}:addZ Z a o a=some o:=by unfold addZ;(change Ks rfl;with_reducible rfl)
theorem rd {vs:List Value} {l:List V} {s:Shared} (r:a9 W Z ρ s.heap c.L m σ') (hv:bM W Z vs l) (h:gq W c Z ρ s σ' (.lst l) Q):
  Q (.ref s.heap.objs.size) { s with heap:=s.heap.push (bn vs 0) }:=by
 have hz:=iB (o:=bn vs 0) r.fresh;refine h _ _ _ _ (r.addZ (bn vs 0) rfl) ?_ (aA.addZ _ r.fresh) rfl rfl
 (refine bb (hv.mono hz) ?_;rintro h1 h2 h3)
 exact .lst kH h1 h2 h3
theorem Ei {vs:List Value} {l:List V} {s:Shared} (r:a9 W Z ρ s.heap c.L m σ') (hv:bM W Z vs l) (h:gq W c Z ρ s σ' (.tup l) Q):
  Q (.ref s.heap.objs.size) { s with heap:=s.heap.push (dI vs 0) }:=by
 have hz:=iB (o:=dI vs 0) r.fresh;refine h _ _ _ _ (r.addZ (dI vs 0) rfl) ?_ (aA.addZ _ r.fresh) rfl rfl
 (refine bb (hv.mono hz) ?_;rintro h1 h2 h3)
 exact .tup kH h1 h2 h3
theorem y9 {op:bU} {a b :V} (h:cz op a b σ=some (y,σ')):σ'.heap=σ.heap∧σ'.loc=σ.loc:=by
 have S:fO (cz op a b):=by
  have sm:∀ {p:Prop},fO (bE p):=fun σ x σ' h=>by (have za:=(af h).1;have zb:=(af h).2;clear h;obtain rfl:=za;obtain rfl:=zb);exact ⟨rfl,rfl⟩
  have sb:∀ {α β:Type} {m:Mo α} {f:α→Mo β},fO m→(∀ x,fO (f x))→fO (a7 m f):=fun h1 h2 σ x σ' h=>by
   refine ah h fun y σ₁ g1 g2=>?_
   (refine aw (h1 _ _ _ g1) ?_;rintro a b)
   (refine aw (h2 _ _ _ _ g2) ?_;rintro c d)
   exact ⟨c.trans a,d.trans b⟩
  exact yf uh (fun _=>qp) fun _ _=>sb sm fun _=>qp
 exact S _ _ _ h
theorem yd {op:bU} {a b:V} {i:Int} (na:bR a=some i) (nb:bR b=none):cz op a b σ=none:=by
 unfold cz
 (change na;change nb)
 induction op using bU.casesOn<;>first|rfl|(induction a using V.casesOn<;>first|((first|exact a0 na|(replace na:=Kj na;obtain rfl:=na));done)|(induction b using V.casesOn<;>first|((first|contradiction|cases nb);done)|rfl))
theorem yp {a b :V} (na:bR a=none) (hb:cz .add a b σ=some (y,σ')):(∃ x z,a=.lst x∧b=.lst z)∨(∃ x z,cg a=some x∧cg b=some z):=by
 dsimp only [cz] at hb;rw [na] at hb;induction a using V.casesOn<;>first|((first|contradiction|cases na);done)|(cases hb;done)|(induction b using V.casesOn<;>first|(exact .inl ⟨_,_,rfl,rfl⟩)|(exact .inr ⟨_,_,rfl,rfl⟩)|(exact a0 hb;done))
theorem B0 {op:bU} {o:Operator} {a b :V} {va vb:Value} (hop:oZ op o=true) (hb:cz op a b σ=some (y,σ')) (ob:ae σ') (r:a9 W Z ρ s.heap c.L m σ) (ha:aa W Z va a) (hbv:aa W Z vb b) (h:gq W c Z ρ s σ' y Q):
  wpAny (model W.prog W.w) A (binaryOp o va vb) Q E s:=by
 obtain rfl:=xX hop;induction na:bR a using Option.casesOn with
 |some i=>induction nb:bR b using Option.casesOn with
  |some j=>exact AZ hop na nb hb ob r ha hbv h
  |none=>rw [yd na nb] at hb;exact a0 hb
 |none=>
  clear hop;induction op using bU.casesOn
  case add=>
   have hb':=hb;dsimp only [cz] at hb';rw [na] at hb';have two:=yp na hb;clear na;rcases two with ⟨x,z,rfl,rfl⟩|⟨x,z,h1,h2⟩
   ·skip;refine ah hb' fun u' σ₁ g1 g2=>?_;have g1:=eQ g1
    (refine aw (bi g2) ?_;clear hb hb' g2;rintro rfl rfl)
    have ob:=ob (x.length+z.length≤lim) (by change g1;exact .head _);have r':a9 W Z ρ s.heap c.L m σ':=r.same (by (change g1;with_reducible rfl)) (by (change g1;with_reducible rfl))
    (refine dp (aa.inv ha) ?_;clear ha;rintro _ _ _ rfl z1 l1 e1 f1)
    (refine dp (aa.inv hbv) ?_;clear hbv;rintro _ _ _ rfl z2 l2 e2 f2)
    refine PySem.P.add_list (r.zh _ _ z1) (r.zh _ _ z2) ?_ (by have:=dY;simp;lia);have:=rd (Q:=Q) (c:=c) r' (bM.cat ⟨l1,e1,f1⟩ ⟨l2,e2,f2⟩ (by have:=dY;lia)) h;simpa [bn] using this
   ·skip;exact B5 h1 h2 hb ob r ha hbv h
  case mul=>
   have hb':=hb;dsimp only [cz] at hb';rw [na] at hb';dsimp only at hb';induction ta:cg a using Option.casesOn with
   |none=>rw [ta] at hb';exact a0 hb'
   |some l=>
    induction nb:bR b using Option.casesOn with
    |none=>rw [ta,nb] at hb';exact a0 hb'
    |some k=>
     rw [ta,nb] at hb';dsimp only at hb';skip;refine ah hb' fun u' σ₁ g1 g2=>?_;have g1:=eQ g1
     (refine aw (bi g2) ?_;clear hb hb' g2;rintro rfl rfl)
     have ob:=ob (l.length=1∧k≤lim∧-lim≤k) (by change g1;exact .head _)
     (refine am (gB ha ta) ?_;clear ha;rintro t rfl _)
     (refine ay (gd hbv nb) ?_;clear hbv;rintro u rfl)
     have r':a9 W Z ρ s.heap c.L m σ':=r.same (by (change g1;with_reducible rfl)) (by (change g1;with_reducible rfl));refine SB.mul (Em ob.1 ob.2.1 ob.2.2) fun t' kk=>?_;change El ob.1 ob.2.1;exact h _ { s with toks:=kk } _ _ r' (nV (by rw [GB ob.1];have:=dY;have:lim=1048576:=rfl;lia)) .refl rfl rfl
  all_goals (exfalso;dsimp only [cz] at hb;rw [na] at hb;exact a0 hb)
end
set_option tactic.hygienic true
section
variable {W:Wd} {d:Nat} {R:ao} {c:Cx} {n:Nat} {e:Expr} {σ σ':St} {x:X} {Z:ZM} {ρ:List (Addr×Addr)} {m:Str→Option Value} {s:Shared} {A:Around} {Q:Value→Shared→Prop} {E:Value→Shared→Prop}
theorem gM {v:Value} {l:List V} (h:aa W Z v (.lst l)):∃ a vs n,v=.ref a∧Z a=some (bn vs n)∧bM W Z vs l:=by
 (refine dp h.inv ?_;(try clear h.inv);rintro a n vs e z1 l1 e1 f1);exact jW a vs n e z1 l1 e1 f1
theorem mZ {v:Value} {l:List V} (h:aa W Z v (.tup l)):∃ a vs n,v=.ref a∧Z a=some (dI vs n)∧bM W Z vs l:=by
 (refine dp h.inv ?_;(try clear h.inv);rintro a n vs e z1 l1 e1 f1);exact jW a vs n e z1 l1 e1 f1
theorem a9.newCell {h:Heap} {L:Addr} {vs:List Value} {cl:a8} (r:a9 W Z ρ h L m σ) (ha:b9 (h.objs.size,h.objs.size) cl=[h.objs.size]) (hi:∀ c₀ fs,cl≠.ins c₀ fs)
  (hc:eK W (h.push (bn vs 0)) Z (ρ++[(h.objs.size,h.objs.size)]) (h.objs.size,h.objs.size) cl):
  a9 W Z (ρ++[(h.objs.size,h.objs.size)]) (h.push (bn vs 0)) L m { σ with heap:=σ.heap++[cl] }∧bg W Z (ρ++[(h.objs.size,h.objs.size)]) (.ref h.objs.size) (.r σ.heap.length)∧
   aA Z ρ h L σ.heap Z (ρ++[(h.objs.size,h.objs.size)]) (h.push (bn vs 0)) (σ.heap++[cl]):=by
 refine ⟨r.pushCell rfl ha hc hi,⟨(h.objs.size,h.objs.size),by (refine aT (r.len ..) ?_;change List.getElem?_append_right (br _);change L7);rfl,rfl⟩,fun _ _ e=>e,⟨_,rfl⟩,by change Kz;exact KJ _,fun b o e _ _=>Heap.get?_push_of_some _ e,fun a q=>?_,fun a q=>.inl q⟩
 (refine cJ q ?_;(try clear q);rintro j p c₁ h1 h2 h3)
 rcases LI j ρ.length with q|q|q
 ·rw [List.getElem?_append_left q] at h1;rw [List.getElem?_append_left (r.len▸q)] at h2;exact .inl ⟨j,p,c₁,h1,h2,h3⟩
 ·subst q;rw [List.getElem?_append_right (br _),L7] at h1;rw [List.getElem?_append_right (by change r.len;exact br _),r.len,L7] at h2
  (replace h1:=Kj h1;obtain rfl:=h1);(replace h2:=Kj h2;obtain rfl:=h2)
  rw [ha] at h3;exact .inr (Nat.le_of_eq (List.mem_singleton.mp h3).symm)
 ·rw [List.getElem?_eq_none (by simp;assumption)] at h1;exact a0 h1
theorem B1 {op:bU} {l :CE} (H:SE W d R.e) (M:aS R) (ok:aJ W c) (hc:al W.T c.fd.scope.names (n+1) (.bin op l re) e=true) (hx:bh W.T R (.bin op l re) σ=some (x,σ')) (o:ae σ') (r:a9 W Z ρ s.heap c.L m σ) (rm:aL A d) (h:EP W c Z ρ s σ.heap σ' x Q):wpAny (model W.prog W.w) A (eval e c.env) Q E s:=by
 refine r8 hc ?_;clear hc;intro l' op' r' p hc;refine cq hc fun c1 c2 c3=>?_;refine ah hx fun a σ₁ g1 g2=>?_;refine ah g2 fun b σ₂ g3 g4=>?_;refine ah g4 fun y σ₃ g5 g6=>?_
 (revert o h;refine aR g6 ?_;intro o h)
 have o2:=ae.of qj g5 o;refine wpAny_BinOp (H c n l l' σ σ₁ (.v a) Z ρ m s A _ E ok c2 (cn g1) (ae.of (bk M) g3 o2) r rm fun va s' Z' ρ' m' r' ha ex hg ho=>?_);refine H c n re _ σ₁ σ₂ (.v b) Z' ρ' m' s' A _ E ok c3 (cn g3) o2 r' rm fun vb s2 Z2 ρ2 m2 r2 hb ex2 hg2 ho2=>?_;refine B0 (c:=c) c1 g5 o r2 (aa.mono ex2.z ha) hb fun v s3 Z3 m3 r3 hv ex3 hg3 ho3=>?_;refine h _ _ _ _ _ r3 hv ((ex.trans ex2).trans ?_) ((hg3.trans hg2).trans hg) ((ho3.trans ho2).trans ho);rw [(y9 g5).1] at ex3 ⊢;exact ex3
set_option tactic.hygienic true in
theorem IU {a b:V} {r:X×St} (h:qA a b σ=some r):∃ x y,a=.lst x∧b=.lst y∧(a7 (bE (x.length+y.length≤lim)) fun _=>push (.lst (x++y))) σ=some r:=by
 induction a using V.casesOn<;>first|exact a0 h|skip
 induction b using V.casesOn<;>first|exact a0 h|exact ⟨_,_,rfl,rfl,h⟩
theorem AV {l :CE} (H:SE W d R.e) (M:aS R) (ok:aJ W c) (hc:al W.T c.fd.scope.names (n+1) (.catn l re) e=true) (hx:bh W.T R (.catn l re) σ=some (x,σ')) (o:ae σ') (r:a9 W Z ρ s.heap c.L m σ) (rm:aL A d) (h:EP W c Z ρ s σ.heap σ' x Q):wpAny (model W.prog W.w) A (eval e c.env) Q E s:=by
 refine r8 hc ?_;clear hc;intro l' op' r' p hc;refine cq hc fun eo c2 c3=>?_;clear hc;obtain rfl:=KU eo;refine ah hx fun a σ₁ g1 g2=>?_;refine ah g2 fun b σ₂ g3 g4=>?_
 (refine be (IU g4) ?_;clear g2 hx;rintro y z rfl rfl g4)
 refine ah g4 fun u σ₃ g5 g6=>?_;have g5:=eQ g5;have o3:ae σ₃:=fun p hp=>o p ((af g6).2▸hp);have ob:=o3 (y.length+z.length≤lim) (by change g5;exact .head _);have o2:ae σ₂:=fun p hp=>o3 p (by change g5;exact .tail _ hp);refine wpAny_BinOp (H c n l l' σ σ₁ _ Z ρ m s A _ E ok c2 (cn g1) (ae.of (bk M) g3 o2) r rm fun va s' Z' ρ' m' r' ha ex hg ho=>?_);refine H c n re _ σ₁ σ₂ _ Z' ρ' m' s' A _ E ok c3 (cn g3) o2 r' rm fun vb s2 Z2 ρ2 m2 r2 hb ex2 hg2 ho2=>?_;have ha:=aa.mono ex2.z ha;have r3:a9 W Z2 ρ2 s2.heap c.L m2 σ₃:=r2.same (by (change g5;with_reducible rfl)) (by (change g5;with_reducible rfl))
 (refine cJ (gM ha) ?_;clear ha;clear ha;rintro a1 vs n1 rfl z1 V1)
 (refine cJ (gM hb) ?_;clear hb;rintro a2 us n2 rfl z2 V2)
 have h1:=V1.2.1;have h2:=V2.2.1;refine PySem.P.add_list (r2.zh _ _ z1) (r2.zh _ _ z2) ?_ (by have:=dY;simp;lia)
 (have za:=(af g6).1;have zb:=(af g6).2;clear g6;obtain rfl:=za;clear o;clear g4;obtain rfl:=zb)
 have V:=bM.cat V1 V2 (by have:=dY;lia)
 (refine bb (r3.newCell (vs:=vs++us) (cl:=.lst (y++z)) rfl (fun _ _ q=>by contradiction) ⟨_,0,Heap.get?_push_size _ rfl,V⟩) ?_;rintro k1 k2 k3)
 have:=h (.ref s2.heap.objs.size) { s2 with heap:=s2.heap.push (bn (vs++us) 0) } _ _ _ k1 k2 ((ex.trans ex2).trans (by refine aU (show σ₂.heap=σ₃.heap from by (change g5;with_reducible rfl)) ?_;exact k3)) (hg2.trans hg) (ho2.trans ho);simpa [bn] using this
end
set_option tactic.hygienic false
section
variable {W:Wd} {d:Nat} {R:ao} {c:Cx} {n:Nat} {e:Expr} {σ σ':St} {x:X} {Z:ZM} {ρ:List (Addr×Addr)} {m:Str→Option Value} {s:Shared} {A:Around} {Q:Value→Shared→Prop} {E:Value→Shared→Prop}
theorem mY:∀ {xs:List X} {vs:List Value} {l:List V},bO W Z ρ vs xs→gz xs=some l→vs.length=l.length∧∀ (i:Nat) (v:Value) (x:V),vs[i]?=some v→l[i]?=some x→aa W Z v x
 |[],[],l,_,h=>by (replace h:=Kj h;obtain rfl:=h);exact ⟨rfl,fun i v x a=>by simp at a⟩
 |[],_::_,_,h,_=>h.elim
 |_::_,[],_,h,_=>h.elim
 |x::xs,v::vs,l,h,hv=>by
  refine cps fun GG kk=>?_;induction x using X.casesOn with
  |v y=>
   dsimp only [gz] at hv;induction q:gz xs using Option.casesOn with
   |none=>rw [q] at hv;exact a0 hv
   |some l'=>
    rw [q] at hv
    (replace hv:=Kj hv;obtain rfl:=hv)
    (refine aw (mY h.2 q) ?_;rintro a b)
    refine kk (⟨by simp [a],fun i u z e1 e2=>?_⟩);induction i using Nat.casesOn with
    |zero=>simp at e1 e2;subst e1 e2;exact h.1
    |succ i=>exact b i u z (by simpa using e1) (by simpa using e2)
  |r k=>exact a0 hv
  |m k f=>exact a0 hv
theorem x9:∀ {l:List CE} {xs:List X} {σ σ':St},dg R l σ=some (xs,σ')→xs.length=l.length
 |[],xs,σ,σ',h=>by (refine aw (bi h) ?_;clear h;rintro rfl rfl);rfl
 |ce::l,xs,σ,σ',h=>by
  refine ah h fun x σ₁ g1 g2=>?_;refine ah g2 fun ys σ₂ g3 g4=>?_
  (revert h;refine aR g4 ?_;intro h)
  (change Ko;change Ko;change x9 g3;with_reducible rfl)
theorem jg {α β:Type} {p:α→β→Bool}:∀ {l:List α} {k:List β},aY p l k=true→l.length=k.length
 |[],k,h=>by change ef h;rfl
 |a::l,k,h=>by (refine be (cU h) ?_;clear h;rintro b t rfl _ h2);(change Ko;change Ko;change jg h2;with_reducible rfl)
theorem kn {l:List CE} {es:List Expr} {vs:List Value} {p:CE→Expr→Bool} (h1:aY p l es=true) (h2:Nat.ble es.length 1000=true) (h3:dg R l σ=some (xs,σ')) (h4:bO W Z ρ vs xs):vs.length≤sizeLine:=by
 have a:=bO.length h4;have b:=x9 h3;have c:=jg h1;have:=KB h2;change KL;lia
theorem Ae {l:List CE} (H:SE W d R.e) (M:aS R) (ok:aJ W c) (hc:al W.T c.fd.scope.names (n+1) (.tup l) e=true) (hx:bh W.T R (.tup l) σ=some (x,σ')) (o:ae σ') (r:a9 W Z ρ s.heap c.L m σ) (rm:aL A d) (h:EP W c Z ρ s σ.heap σ' x Q):wpAny (model W.prog W.w) A (eval e c.env) Q E s:=by
 refine uV hc ?_;clear hc;intro es k p hc;refine cq hc fun c1 c2 c3=>?_;refine ah hx fun xs σ₁ g1 g2=>?_;refine ah g2 fun vl σ₂ g3 g4=>?_
 (revert g4;refine dZ g3 fun hv=>?_;intro g4)
 (revert o h;refine aR g4 ?_;intro o h)
 refine wpAny_Tuple_spliced (kX H M ok rm l es σ _ xs Z ρ m s _ c1 c2 g1 o r fun vs s' Z' ρ' m' r' hxs ex hg ho=>⟨kn c1 c3 g1 hxs,?_⟩);have V:=mY hxs hv;exact Ei (c:=c) r' ⟨kn c1 c3 g1 hxs,V⟩ fun v s2 Z2 m2 r2 hv2 ex2 hg2 ho2=>h _ _ _ _ _ r2 hv2 (ex.trans ex2) (hg2.trans hg) (ho2.trans ho)
theorem Aw {l:List CE} (H:SE W d R.e) (M:aS R) (ok:aJ W c) (hc:al W.T c.fd.scope.names (n+1) (.lst l) e=true) (hx:bh W.T R (.lst l) σ=some (x,σ')) (o:ae σ') (r:a9 W Z ρ s.heap c.L m σ) (rm:aL A d) (h:EP W c Z ρ s σ.heap σ' x Q):wpAny (model W.prog W.w) A (eval e c.env) Q E s:=by
 refine nO hc ?_;clear hc;intro es p hc;refine cq hc fun c1 c2 c3=>?_;refine ah hx fun xs σ₁ g1 g2=>?_;refine ah g2 fun vl σ₂ g3 g4=>?_
 (revert g4;refine dZ g3 fun hv=>?_;intro g4)
 (revert o h;refine aR g4 ?_;intro o h)
 refine LN (kX H M ok rm l es σ _ xs Z ρ m s _ c1 c2 g1 o r fun vs s' Z' ρ' m' r' hxs ex hg ho=>⟨kn c1 c3 g1 hxs,?_⟩);have V:=mY hxs hv;exact rd (c:=c) r' ⟨kn c1 c3 g1 hxs,V⟩ fun v s2 Z2 m2 r2 hv2 ex2 hg2 ho2=>h _ _ _ _ _ r2 hv2 (ex.trans ex2) (hg2.trans hg) (ho2.trans ho)
theorem As {l:List CE} (H:SE W d R.e) (M:aS R) (ok:aJ W c) (hc:al W.T c.fd.scope.names (n+1) (.newl l) e=true) (hx:bh W.T R (.newl l) σ=some (x,σ')) (o:ae σ') (r:a9 W Z ρ s.heap c.L m σ) (rm:aL A d) (h:EP W c Z ρ s σ.heap σ' x Q):wpAny (model W.prog W.w) A (eval e c.env) Q E s:=by
 refine nO hc ?_;clear hc;intro es p hc;refine cq hc fun c1 c2 c3=>?_;refine ah hx fun xs σ₁ g1 g2=>?_;refine ah g2 fun vl σ₂ g3 g4=>?_
 (revert g4;refine dZ g3 fun hv=>?_;intro g4)
 (have za:=(af g4).1;have zb:=(af g4).2;clear g4;clear hx g2;obtain rfl:=za;obtain rfl:=zb)
 refine LN (kX H M ok rm l es σ _ xs Z ρ m s _ c1 c2 g1 o r fun vs s' Z' ρ' m' r' hxs ex hg ho=>⟨kn c1 c3 g1 hxs,?_⟩);have V:=mY hxs hv
 (refine bb (r'.newCell (vs:=vs) (cl:=.lst vl) rfl (fun _ _ q=>by contradiction) ⟨_,0,Heap.get?_push_size _ rfl,kn c1 c3 g1 hxs,V⟩) ?_;rintro k1 k2 k3)
 exact h (.ref s'.heap.objs.size) { s' with heap:=s'.heap.push (bn vs 0) } _ _ _ k1 k2 (ex.trans k3) hg ho
theorem Ar {k:LK} (ok:aJ W c) (hc:al W.T c.fd.scope.names (n+1) (.nil k) e=true) (hx:bh W.T R (.nil k) σ=some (x,σ')) (o:ae σ') (r:a9 W Z ρ s.heap c.L m σ) (h:EP W c Z ρ s σ.heap σ' x Q):wpAny (model W.prog W.w) A (eval e c.env) Q E s:=by
 refine nO hc ?_;clear hc;intro es p hc;induction es using List.casesOn with
 |cons=>exact ac hc
 |nil=>
   refine LN (Le ⟨KG _,?_⟩);have V:bM W Z ([]:List Value) []:=⟨KG _,rfl,fun i v x a=>by simp at a⟩
   induction k using LK.casesOn with
   |lst=>
    (have za:=(af hx).1;have zb:=(af hx).2;clear hx;obtain rfl:=za;clear o;obtain rfl:=zb)
    (refine bb (r.newCell (vs:=[]) (cl:=.lst []) rfl (fun _ _ q=>by contradiction) ⟨[],0,Heap.get?_push_size _ rfl,V⟩) ?_;rintro k1 k2 k3)
    exact h (.ref s.heap.objs.size) { s with heap:=s.heap.push (bn [] 0) } _ _ _ k1 k2 k3 rfl rfl
   |stk=>
    (have za:=(af hx).1;have zb:=(af hx).2;clear hx;obtain rfl:=za;clear o;obtain rfl:=zb)
    (refine bb (r.newCell (vs:=[]) (cl:=.stk []) rfl (fun _ _ q=>by contradiction) ⟨[],0,Heap.get?_push_size _ rfl,V⟩) ?_;rintro k1 k2 k3)
    exact h (.ref s.heap.objs.size) { s with heap:=s.heap.push (bn [] 0) } _ _ _ k1 k2 k3 rfl rfl
   |«strs»=>
    (have za:=(af hx).1;have zb:=(af hx).2;clear hx;obtain rfl:=za;clear o;obtain rfl:=zb)
    (refine bb (r.newCell (vs:=[]) (cl:=.strs []) rfl (fun _ _ q=>by contradiction) ⟨[],0,Heap.get?_push_size _ rfl,V⟩) ?_;rintro k1 k2 k3)
    exact h (.ref s.heap.objs.size) { s with heap:=s.heap.push (bn [] 0) } _ _ _ k1 k2 k3 rfl rfl
   |bms=>exact a0 hx
noncomputable def sG (W:Wd):Prop:=∃ a o,W.K.lookup a=some o∧sysModules < a
theorem wO {h:Heap} {L:Addr} (F:sG W) (r:a9 W Z ρ h L m σ):(h.objs.size==sysModules)=false:=by
 (refine aN F ?_;(try clear F);rintro a o e l)
 have:=KO (r.kin a o e);exact LM.mpr (Ly (Nat.lt_trans l this))
theorem AQ (F:sG W) (ok:aJ W c) (hc:al W.T c.fd.scope.names (n+1) .dnil e=true) (hx:bh W.T R .dnil σ=some (x,σ')) (o:ae σ') (r:a9 W Z ρ s.heap c.L m σ) (h:EP W c Z ρ s σ.heap σ' x Q):wpAny (model W.prog W.w) A (eval e c.env) Q E s:=by
 refine DC hc fun p=>?_
 (revert o h;refine aR hx ?_;intro o h)
 refine wpAny_Dict_empty ?_;have hz:=iB (o:=je [] 0) r.fresh;refine h _ { s with heap:=s.heap.push (je [] 0) } _ _ _ (r.addZ (je [] 0) rfl) ?_ (aA.addZ _ r.fresh) rfl rfl;exact .dct kH (wO F r) List.nodup_nil (KG _) rfl (fun i e p a=>by simp at a) (fun i e p a=>by simp at a)
set_option tactic.hygienic true in
theorem AJ (H:SE W d R.e) (M:aS R) (ok:aJ W c) (hc:al W.T c.fd.scope.names (n+1) (.frz ce) e=true) (hx:bh W.T R (.frz ce) σ=some (x,σ')) (o:ae σ') (r:a9 W Z ρ s.heap c.L m σ) (rm:aL A d) (h:EP W c Z ρ s σ.heap σ' x Q):wpAny (model W.prog W.w) A (eval e c.env) Q E s:=by
 have hc:al W.T c.fd.scope.names n ce e=true∧ff e=true:=L3.mp hc;refine ah hx fun y σ₁ g1 g2=>?_;induction y using X.casesOn<;>first|(exact a0 g2;done)|skip
 rename_i k;refine ah g2 fun cl σ₂ g3 g4=>?_
 (refine aw (so g3) ?_;clear g3;rintro hcl rfl)
 induction cl using a8.casesOn<;>first|(exact a0 g4;done)|skip
 rename_i l;refine ah g4 fun u σ₃ g5 g6=>?_
 (refine aw (bi g6) ?_;clear hx g2 g4 g6;rintro rfl rfl)
 have e5:σ'={ σ₂ with heap:=σ₂.heap.set k .dead }:=by rw [gD] at g5;(have za:=(af g5).1;have zb:=(af g5).2;clear g5;obtain rfl:=za;clear o h;obtain rfl:=zb);(change iL;with_reducible rfl)
 refine H c n ce e σ _ _ Z ρ m s A _ E ok hc.1 g1 (fun p hp=>o p (by change e5;exact hp)) r rm fun v s' Z' ρ' m' r' hv ex hg ho=>?_
 (refine am hv ?_;(try clear hv);rintro p hp rfl)
 (refine aN (r'.at hp hcl) ?_;rintro vs n1 h1 V)
 (refine aw (r'.freeze hp hcl) ?_;rintro r2 ex2)
 rw [← e5] at r2;have hz:=ex2.z;refine h _ s' _ _ _ r2 ?_ (ex.trans (by change e5;exact ex2)) hg ho
 (refine bb (V.mono hz) ?_;rintro a1 a2 a3)
 exact .lst (n:=n1) (by unfold eA;change Ks (by simp [b9]);exact h1) a1 a2 a3
theorem J9 {v:Value} (h:aa W Z v y):aa W Z v (sv y):=by
 cases h with
 |int=>exact .sint
 |str b=>exact .sstr b
 |_=>unfold sv;first|exact .none|exact .bool|exact .sint|exact .sstr M1|exact .stat|(constructor<;>assumption)
theorem AY (H:SE W d R.e) (M:aS R) (ok:aJ W c) (hc:al W.T c.fd.scope.names (n+1) (.blur ce) e=true) (hx:bh W.T R (.blur ce) σ=some (x,σ')) (o:ae σ') (r:a9 W Z ρ s.heap c.L m σ) (rm:aL A d) (h:EP W c Z ρ s σ.heap σ' x Q):wpAny (model W.prog W.w) A (eval e c.env) Q E s:=by
 have hc:al W.T c.fd.scope.names n ce e=true∧ff e=true:=L3.mp hc;refine ah hx fun y σ₁ g1 g2=>?_
 (revert o h;refine aR g2 ?_;intro o h)
 exact H c n ce e σ _ _ Z ρ m s A _ E ok hc.1 (cn g1) o r rm fun v s' Z' ρ' m' r' hv ex hg ho=>h _ _ _ _ _ r' (J9 hv) ex hg ho
set_option tactic.hygienic true in
theorem An (H:SE W d R.e) (M:aS R) (ok:aJ W c) (hc:al W.T c.fd.scope.names (n+1) (.pin ce) e=true) (hx:bh W.T R (.pin ce) σ=some (x,σ')) (o:ae σ') (r:a9 W Z ρ s.heap c.L m σ) (rm:aL A d) (h:EP W c Z ρ s σ.heap σ' x Q):wpAny (model W.prog W.w) A (eval e c.env) Q E s:=by
 have hc:al W.T c.fd.scope.names n ce e=true∧ff e=true:=L3.mp hc;refine ah hx fun y σ₁ g1 g2=>?_;refine ah g2 fun w σ₂ g3 g4=>?_
 (refine aw (bi g4) ?_;clear hx g2 g4;rintro rfl rfl)
 have key:(∀ v Z,aa W Z v y→aa W Z v w)∧σ'.heap=σ₁.heap∧σ'.loc=σ₁.loc:=by
  rcases Dk g3 with ⟨i,k,r,hy,hw,e⟩|⟨hw,e⟩
  ·refine ⟨fun v Z hv=>?_,e▸rfl,e▸rfl⟩;have hi:i=(k:Int):=o _ (by change e;exact .head _);change hw;refine aT (hi ..) ?_;rw [hy] at hv
   (refine ay (aa.inv hv) ?_;clear hv;rintro t rfl)
   exact .int
  ·exact ⟨fun v Z hv=>hw▸hv,e▸rfl,e▸rfl⟩
 (refine bb key ?_;(try clear key);rintro key h1 h2)
 exact H c n ce e σ _ _ Z ρ m s A _ E ok hc.1 (cn g1) (ae.of tV g3 o) r rm fun v s' Z' ρ' m' r' hv ex hg ho=>h _ _ _ _ _ (r'.same h1 h2) (key _ _ hv) (by change h1;exact ex) hg ho
theorem Ac {l:List V} (H:SE W d R.e) (M:aS R) (ok:aJ W c) (hc:al W.T c.fd.scope.names (n+1) (.unq l ce) e=true) (hx:bh W.T R (.unq l ce) σ=some (x,σ')) (o:ae σ') (r:a9 W Z ρ s.heap c.L m σ) (rm:aL A d) (h:EP W c Z ρ s σ.heap σ' x Q):wpAny (model W.prog W.w) A (eval e c.env) Q E s:=by
 have hc:al W.T c.fd.scope.names n ce e=true∧ff e=true:=L3.mp hc;refine ah hx fun y σ₁ g1 g2=>?_;refine ah g2 fun w σ₂ g3 g4=>?_
 (refine aw (bi g4) ?_;clear hx g2 g4;rintro rfl rfl)
 have key:(∀ v Z,aa W Z v y→aa W Z v w)∧σ'.heap=σ₁.heap∧σ'.loc=σ₁.loc:=by
  rcases z0 g3 with ⟨x,r,hy,e⟩|⟨hw,e⟩
  ·refine ⟨fun v Z hv=>?_,e▸rfl,e▸rfl⟩;have hi:x=w:=o _ (by change e;exact .head _);rw [hy] at hv;exact hi▸aa.inv hv
  ·exact ⟨fun v Z hv=>hw▸hv,e▸rfl,e▸rfl⟩
 (refine bb key ?_;(try clear key);rintro key h1 h2)
 exact H c n ce e σ _ _ Z ρ m s A _ E ok hc.1 (cn g1) (ae.of tP g3 o) r rm fun v s' Z' ρ' m' r' hv ex hg ho=>h _ _ _ _ _ (r'.same h1 h2) (key _ _ hv) (by change h1;exact ex) hg ho
end
section
variable {W:Wd} {d:Nat} {R:ao} {c:Cx} {n:Nat} {e:Expr} {σ σ':St} {x:X} {Z:ZM} {ρ:List (Addr×Addr)} {m:Str→Option Value} {s:Shared} {A:Around} {Q:Value→Shared→Prop} {E:Value→Shared→Prop}
theorem y3 {id:String} {b:Str} {a f:Expr} (hf:∃ y p,f=.Name y p) (hn:cB a=true) (h0:∀ {Q:Value→Shared→Prop},Q (.builtin id) s→wpAny M A (eval f env) Q E s)
  (h:wpAny M A (eval a env) (fun v s₁=>wpAny M A (call (.builtin id) [v]) Q E s₁) E s):wpAny M A (eval (.Call f [a] [] pos) env) Q E s:=by
 (refine d6 hf ?_;(try clear hf);rintro y p rfl)
 refine LD (h0 (PyProof.Rows.callWith_builtin1 ?_ (dW hn)));change dW hn;exact Lh (KV h (fun v s₁ h₁=>Le h₁) fun _ _ e=>e)
theorem p9 {b:Str} {sc:List (Str×NameKind)} {f:Expr} (h:iy sc b f=true):∃ y p,f=.Name y p:=by
 unfold iy at h;revert h;refine aV (dE f) ?_ ?_
 ·intro h;exact ac h
 ·intro k q h;(refine ay (gA q) ?_;clear h q;rintro p rfl);exact gR k p rfl
theorem Ax {y:X} {v:Value} (hl:jQ y σ=some (z,σ')) (r:a9 W Z ρ s.heap c.L m σ) (hy:bg W Z ρ v y) (h:∀ v' s',a9 W Z ρ s'.heap c.L m σ'→aa W Z v' z→s'.heap=s.heap→s'.gens=s.gens→s'.os=s.os→Q v' s'):
  wpAny (model W.prog W.w) A (call (.builtin "len") [v]) Q E s:=by
 induction y using X.casesOn with
 |v y=>
  induction y using V.casesOn<;>first|((first|exact a0 hl|(have za:=(af hl).1;have zb:=(af hl).2;clear hl;obtain rfl:=za;obtain rfl:=zb));done)|skip
  ·(revert h;refine aR hl ?_;intro h)
   (refine am (aa.inv hy) ?_;clear hy;rintro _ rfl hb);exact len_str (by change ct;have:=gj hb;lia) (h _ { s with toks:=s.toks+1+1 } r (by change ct;exact .int) rfl rfl rfl)
  ·(revert h;refine aR hl ?_;intro h)
   (refine am (aa.inv hy) ?_;clear hy;rintro _ rfl hb);exact len_str (by change ct;have:=gj hb;lia) (h _ { s with toks:=s.toks+1+1 } r (by change ct;exact .sint) rfl rfl rfl)
  ·(revert h;refine aR hl ?_;intro h)
   (refine dp (mZ hy) ?_;clear hy;rintro a vs k rfl z1 b1 b2 b3)
   exact len_tuple ⟨_,r.zh _ _ z1,rfl,_,rfl⟩ (by change KH;exact gj b1) (h _ { s with toks:=s.toks+1+1 } r (by (change KH;change b2);exact .int) rfl rfl rfl)
  ·(revert h;refine aR hl ?_;intro h)
   (refine dp (gM hy) ?_;clear hy;rintro a vs k rfl z1 b1 b2 b3)
   exact Calls.call_len_list ⟨_,r.zh _ _ z1,rfl,_,rfl⟩ (by change KH;exact gj b1) (h _ { s with toks:=s.toks+1+1 } r (by (change KH;change b2);exact .int) rfl rfl rfl)
 |r k=>
  refine ah hl fun cl σ₁ g1 g2=>?_
  (revert g2;refine dR g1 fun hc=>?_;intro g2)
  (refine am hy ?_;(try clear hy);rintro p hp rfl)
  clear g1;induction cl using a8.casesOn<;>first|((first|exact a0 g2|(have za:=(af g2).1;have zb:=(af g2).2;clear g2;obtain rfl:=za;obtain rfl:=zb));done)|skip
  (revert h;refine aR g2 ?_;intro h)
  (refine cv (r.at hp hc) ?_;rintro vs k z1 b1 b2 b3)
  exact Calls.call_len_list ⟨_,z1,rfl,_,rfl⟩ (by change KH;exact gj b1) (h _ { s with toks:=s.toks+1+1 } r (by (change KH;change b2);exact .int) rfl rfl rfl)
 |m k f=>exact a0 hl
theorem F9 {y:X} (h:jQ y σ=some (z,σ')):σ'=σ:=by
 induction y using X.casesOn with
 |v y=>induction y using V.casesOn<;>first|((first|exact a0 h|(have za:=(af h).1;have zb:=(af h).2;clear h;obtain rfl:=za;obtain rfl:=zb));done)|((refine aw (bi h) ?_;clear h;rintro _ rfl);rfl)
 |r k=>
  refine ah h fun cl σ₁ g1 g2=>?_
  (revert g2;refine dR g1 fun _=>?_;intro g2)
  clear g1;induction cl using a8.casesOn<;>first|((first|exact a0 g2|(have za:=(af g2).1;have zb:=(af g2).2;clear g2;obtain rfl:=za;obtain rfl:=zb));done)|((refine aw (bi g2) ?_;clear h g2;rintro _ rfl);rfl)
 |m k f=>exact a0 h
theorem Ay (F:Facts2 W) (H:SE W d R.e) (M:aS R) (ok:aJ W c) (hc:al W.T c.fd.scope.names (n+1) (.len ce) e=true) (hx:bh W.T R (.len ce) σ=some (x,σ')) (o:ae σ') (r:a9 W Z ρ s.heap c.L m σ) (rm:aL A d) (h:EP W c Z ρ s σ.heap σ' x Q):wpAny (model W.prog W.w) A (eval e c.env) Q E s:=by
 refine i8 hc ?_;clear hc;intro f a p hc;refine cq hc fun c1 c2 c3=>?_;refine ah hx fun y σ₁ g1 g2=>?_;refine ah g2 fun z σ₂ g3 g4=>?_
 (revert o h;refine aR g4 ?_;intro o h)
 have e3:=F9 g3;clear g2;subst e3;refine y3 (b:="len") (p9 c1) c3 (fun hq=>p7 F ok (v:=.builtin "len") (.tail _ (.head _)) c1 r hq) ?_;refine H c n ce a σ _ y Z ρ m s A _ E ok c2 g1 o r rm fun v s' Z' ρ' m' r' hy ex hg ho=>?_;exact Ax (c:=c) g3 r' hy fun v' s2 r2 hv hh hg2 ho2=>h _ _ _ _ _ r2 hv (ex.trans (e7 hh rfl)) (hg2.trans hg) (ho2.trans ho)
theorem sx {α:Type} {l:List α} {i:Int} {y:α} (h:at? l i=some y) (hb:l.length≤sizeLine):∃ j,seqIndex? i l.length=some j∧l[j]?=some y∧-2 ^ 63≤i∧i < 2 ^ 63∧((0≤i∧j=i.toNat)∨(i < 0∧-(l.length:Int)≤i∧j=(i+l.length).toNat)):=by
 rw [KL] at hb;induction i using Int.casesOn with
 |ofNat k=>
  have h:bB l k=some y:=h;rw [iQ] at h;have hk:k < l.length:=(List.getElem?_eq_some_iff.mp h).1;have e:Int.ofNat k=(k:Int):=rfl;change e;refine ow k ?_ h (by (first|assumption|exact KZ _)) (by (first|assumption|lia)) (.inl ⟨by exact KZ _,by rfl⟩);exact seqIndex_of (k:=(k:Int)) (by exact KZ _) M2
 |negSucc k=>
  have h:(match Nat.blt k l.length with|true=>bB l (l.length - (k+1))|false=>none)=some y:=h;revert h;refine d8 (Nat.blt k l.length) ?_ ?_
  ·intro hk h;exact a0 h
  ·intro hk h;have hk:k < l.length:=KB hk;dsimp only at h;rw [iQ] at h;refine ow (l.length - (k+1)) ?_ h (by (first|assumption|lia)) (by (first|assumption|lia)) (.inr ⟨by simp,by lia,by lia⟩);have:=seqIndex_neg (k:=Int.negSucc k) (n:=l.length) (by simp) M2;change this
   congr 1
   lia
theorem n9 {j:Expr} (h:iR j=true) (a b:Value):subscripted j false a b=operate [a,b] (getItem a b):=by
 unfold subscripted;induction j using Expr.casesOn<;>first|rfl|exact ac h
theorem rD {bX :Expr} {a:Addr} {vs:List Value} {k:Nat} {i:Int} {t:Tok} {l:List V} (hs:iR bX=true) (hz:s.heap.get? a=some (bn vs k)) (V:bM W Z vs l) (hi:at? l i=some y) (h:∀ v,aa W Z v y→Q v s):
  wpAny (model W.prog W.w) A (subscriptTail value bX (.ref a) (.int i t)) Q E s:=by
 (refine bb V ?_;(try clear V);rintro b1 b2 b3)
 (refine s8 (sx hi (b2▸b1)) ?_;rintro j j1 j2 j3 j4 j5)
 have hj:j < vs.length:=by change b2;exact (List.getElem?_eq_some_iff.mp j2).1
 have hv:=List.getElem?_eq_getElem hj;have IL:s.heap.IsList a vs.toArray:=⟨_,hz,rfl,_,rfl⟩
 refine tail_any IL.typeIs slot_list_getitem.lookup ?_ (n9 hs _ _);rcases j5 with ⟨p1,p2⟩|⟨p1,p2,p3⟩
 ·exact wpAny_getItem_list IL p1 j4 (x:=vs[j]) (by refine aT (p2 ..) ?_;simp [hj]) (h _ (b3 j _ _ hv j2))
 ·have hjj:(i+vs.toArray.size).toNat=j:=by change p3;simp [b2]
  exact wpAny_getItem_list_neg IL p1 (by simp [b2];assumption) j3 (x:=vs[j]) (by change hjj;simp [hj]) (h _ (b3 j _ _ hv j2))
theorem wm {bX :Expr} {a:Addr} {vs:List Value} {k:Nat} {i:Int} {t:Tok} {l:List V} (hs:iR bX=true) (hz:s.heap.get? a=some (dI vs k)) (V:bM W Z vs l) (hi:at? l i=some y) (h:∀ v,aa W Z v y→Q v s):
  wpAny (model W.prog W.w) A (subscriptTail value bX (.ref a) (.int i t)) Q E s:=by
 (refine bb V ?_;(try clear V);rintro b1 b2 b3)
 (refine s8 (sx hi (b2▸b1)) ?_;rintro j j1 j2 j3 j4 j5)
 have hj:j < vs.length:=by change b2;exact (List.getElem?_eq_some_iff.mp j2).1
 have hv:=List.getElem?_eq_getElem hj;exact item_tupleT ⟨_,hz,rfl,_,rfl⟩ j3 j4 (by change b2;exact j1) hv (h _ (b3 j _ _ hv j2)) (n9 hs _ _)
theorem Dm {l:List V} {i:Int} (h:fD l i σ=some (y,σ')) (o:ae σ'):at? l i=some y∧σ'.heap=σ.heap∧σ'.loc=σ.loc:=by
 (refine aN (Dn h) ?_;rintro k r q e)
 have hi:i=(k:Int):=o _ (by change e;exact .head _);refine b7 (by change hi;exact q) (e▸rfl) (e▸rfl)
set_option tactic.hygienic true in
theorem FV {i:Int} (h:jZ y i=true):∃ l,y=.tup l∧at? l i=some (ke y i):=by
 induction y using V.casesOn<;>first|(exact ac h;done)|skip
 rename_i l;refine aF l rfl ?_;have h:(at? l i).isSome=true:=h;refine (?_:at? l i=some ((at? l i).getD .none));generalize at? l i=q at h;induction q using Option.casesOn with
 |none=>exact ac h
 |some z=>rfl
theorem xj {knd:List Nat}:∀ {l:List (List Nat×V)} {kvs:List (Str×Value)} {p:List Nat×V},kvs.map (·.1)=l.map (fun p=>aq p.1)→(∀ (i:Nat) (kv:Str×Value) (p:List Nat×V),kvs[i]?=some kv→l[i]?=some p→aa W Z kv.2 p.2)→
  l.find? (fun p=>bV p.1 knd)=some p→∃ v,valueAt kvs (aq knd)=some v∧aa W Z v p.2
 |[],_,p,_,_,h=>by exact a0 h
 |_::_,[],p,h,_,_=>by contradiction
 |q::l,kv::kvs,p,hm,hv,h=>by
  (refine aw (Kr hm) ?_;rintro h1 h2)
  rw [List.find?_cons] at h;unfold valueAt;change List.find?_cons;have h1:kv.1=aq q.1:=h1;revert h;refine d8 (bV q.1 knd) ?_ ?_;rotate_left
  ·intro z h
   (replace h:=Kj h;obtain rfl:=h)
   (change h1;change ft.mp z)
   exact aF kv.2 (by (first|exact .head _|simp)) (hv 0 kv q rfl rfl)
  ·intro z h;have:¬ kv.1=aq knd:=fun e=>by rw [h1] at e;rw [ft.mpr (iM e)] at z;contradiction
   change LB this;exact xj h2 (fun i kv p a b=>hv (i+1) kv p a b) h
theorem Fw {pg:Program} {w:World} {x:Str} {t:Tok}:(strKind pg w).is x (.str x t)=true:=by refine (?_:Value.isStrOf x (.str x t)=true);simp [Value.isStrOf]
theorem rv {l:List V} {i :V} (h:jV (.v (.lst l)) i σ=some (z,σ')) (o:ae σ'):∃ j:Int,at? l j=some z∧(∀ {W:Wd} {Z:ZM} {v:Value},aa W Z v i→∃ t,v=.int j t)∧σ'.heap=σ.heap∧σ'.loc=σ.loc:=by
 induction i using V.casesOn<;>first|exact a0 h|skip
 ·(refine aw (dO h) ?_;clear h;rintro e1 rfl)
  exact jY _ e1 (fun h=>h.inv) rfl rfl
 ·(refine bb (Dm h o) ?_;rintro e1 e2 e3)
  exact jY _ e1 (fun h=>h.inv) e2 e3
theorem GC {l:List (List Nat×V)} {k:List Nat} (h:aZ (match l.find? (fun p=>bV p.1 k) with|some p=>some p.2|none=>none) σ=some (z,σ')):∃ p,l.find? (fun p=>bV p.1 k)=some p∧z=p.2∧σ'=σ:=by
 (refine aw (dO h) ?_;rintro e1 e2)
 generalize l.find? (fun p=>bV p.1 k)=w at e1;induction w using Option.casesOn with
 |none=>exact a0 e1
 |some p=>exact eT p rfl ((Kj e1).symm) e2
set_option tactic.hygienic true in
theorem AG {bX :Expr} {y:X} {i :V} {vi :Value} (F:Facts2 W) (hs:iR bX=true) (hx:jV y i σ=some (z,σ')) (o:ae σ') (r:a9 W Z ρ s.heap c.L m σ) (hy:bg W Z ρ vo y) (hi:aa W Z vi i)
  (h:∀ v s',a9 W Z ρ s'.heap c.L m σ'→aa W Z v z→s'.heap=s.heap→σ'.heap=σ.heap→s'.gens=s.gens→s'.os=s.os→Q v s'):wpAny (model W.prog W.w) A (subscriptTail value bX vo vi) Q E s:=by
 induction y using X.casesOn with
 |m k f=>exact a0 hx
 |r k=>
  refine ah hx fun cl σ₁ g1 g2=>?_
  (revert g2;refine dR g1 fun hc=>?_;intro g2)
  (refine am hy ?_;(try clear hy);rintro p hp rfl)
  clear g1;induction cl using a8.casesOn<;>first|exact a0 g2|skip
  (refine aN (r.at hp hc) ?_;rintro vs k z1 V)
  (refine km (rv g2 o) ?_;rintro j e1 hj e2 e3)
  (refine ay (hj hi) ?_;clear hi;rintro t rfl)
  exact rD hs z1 V e1 fun v hv=>h v s (r.same e2 e3) hv rfl e2 rfl rfl
 |v x=>
  induction x using V.casesOn<;>first|exact a0 hx|skip
  case tup l=>
   (refine cJ (mZ hy) ?_;clear hy;rintro a vs k rfl z1 V)
   (refine km (rv hx o) ?_;rintro j e1 hj e2 e3)
   (refine ay (hj hi) ?_;clear hi;rintro t rfl)
   exact wm hs (r.zh _ _ z1) V e1 fun v hv=>h v s (r.same e2 e3) hv rfl e2 rfl rfl
  case lst l=>
   (refine cJ (gM hy) ?_;clear hy;rintro a vs k rfl z1 V)
   (refine km (rv hx o) ?_;rintro j e1 hj e2 e3)
   (refine ay (hj hi) ?_;clear hi;rintro t rfl)
   exact rD hs (r.zh _ _ z1) V e1 fun v hv=>h v s (r.same e2 e3) hv rfl e2 rfl rfl
  case opq y'=>
   induction i using V.casesOn<;>first|exact a0 hx|skip
   rename_i ii;have hx:(a7 (bE (jZ y' ii=true)) fun _=>ak (V.opq (ke y' ii))) σ=some (z,σ'):=hx;refine ah hx fun u σ₁ g1 g2=>?_;have g1:=eQ g1
   (revert o h;refine aR g2 ?_;intro o h)
   have hh:=o _ (by change g1;exact .head _)
   (refine am (FV hh) ?_;clear hx g2 hh;clear hx;rintro l rfl hl)
   (have zq0:Exists _:=aa.inv hi;clear hi;obtain ⟨_,zq0⟩:=zq0;subst zq0)
   have hy:aa W Z vo (.tup l):=aa.inv hy
   (refine cJ (mZ hy) ?_;clear hy;clear hy;rintro a vs k rfl z1 V)
   exact wm hs (r.zh _ _ z1) V hl fun v hv=>h v s (r.same (by (change g1;with_reducible rfl)) (by (change g1;with_reducible rfl))) (.opq hv) rfl (by (change g1;with_reducible rfl)) rfl rfl
  case str l=>
   induction i using V.casesOn<;>first|exact a0 hx|skip
   refine ah hx fun ch σ₁ g1 g2=>?_
   (revert g2;refine dZ g1 fun e1=>?_;intro g2)
   (revert o h;refine aR g2 ?_;intro o h)
   (have zq0:Exists _:=aa.inv hi;clear hi;obtain ⟨_,zq0⟩:=zq0;subst zq0)
   (refine am (aa.inv hy) ?_;clear hy;rintro _ rfl hb)
   (refine s8 (sx e1 hb) ?_;rintro j j1 j2 j3 j4 _)
   refine tail_any (L6 s _ _) PySem.F.slot_str_getitem.lookup (PySem.P.getItem_str (by simp;lia) (c:=ch) ?_ ?_) (n9 hs _ _)
   ·(change ct;change j1);simp [aq,j2]
   ·exact h _ { s with toks:=s.toks+1 } r (show aa W Z _ (.str [ch]) from .str (by refine (?_:1≤_);change KL;decide)) rfl rfl rfl rfl
  case dct l=>
   induction i using V.casesOn<;>first|exact a0 hx|skip
   rename_i key
   (refine dy (GC hx) ?_;clear hx;rintro p hp rfl rfl)
   (refine am (aa.inv hi) ?_;clear hi;rintro _ rfl hkb)
   obtain ⟨_,_,_,rfl,hz,ha,nd,hb,hl,hk,hv⟩:=aa.inv hy
   (refine dy (oS (r.zh _ _ hz) nd hl hk) ?_;rintro kvs k1 k2 k3)
   (refine am (xj (W:=W) (Z:=Z) k2 (fun i kv p a b=>by
    have he:(kvs.map (·.2))[i]?=some kv.2:=by (change List.getElem?_map;change a);rfl
    rw [k3,List.getElem?_map] at he
    (refine am (Lc.mp he) ?_;rintro e he1 he2)
    refine aT (he2 ..) ?_;exact hv i e p he1 b) hp) ?_;rintro v hv1 hv2)
   exact tail_any k1.typeIs slot_dict_getitem.lookup (wpAny_getItem_of (knd:=strKind W.prog W.w) (k:=aq key) Fw k1.mapOf hv1 (h _ { s with toks:=s.toks+1 } r hv2 rfl rfl rfl rfl)) (n9 hs _ _)
theorem AH (F:Facts2 W) (H:SE W d R.e) (M:aS R) (ok:aJ W c) (hc:al W.T c.fd.scope.names (n+1) (.idx ce ci) e=true) (hx:bh W.T R (.idx ce ci) σ=some (x,σ')) (o:ae σ') (r:a9 W Z ρ s.heap c.L m σ) (rm:aL A d) (h:EP W c Z ρ s σ.heap σ' x Q):wpAny (model W.prog W.w) A (eval e c.env) Q E s:=by
 refine nN hc ?_;clear hc;intro eo ei p hc;refine eG hc fun c1 c2 c3 c4=>?_;refine ah hx fun y σ₁ g1 g2=>?_;refine ah g2 fun i σ₂ g3 g4=>?_;refine ah g4 fun z σ₃ g5 g6=>?_
 (revert o h;refine aR g6 ?_;intro o h)
 have o2:=ae.of u8 g5 o;refine Subscript_ (H c n ce eo σ σ₁ y Z ρ m s A _ E ok c1 g1 (ae.of (bk M) g3 o2) r rm fun vo s' Z' ρ' m' r' hy ex hg ho=>?_);refine H c n ci ei σ₁ σ₂ (.v i) Z' ρ' m' s' A _ E ok c2 (cn g3) o2 r' rm fun vi s2 Z2 ρ2 m2 r2 hi ex2 hg2 ho2=>?_;exact AG (c:=c) F c3 g5 o r2 (hy.mono ex2.z ex2.r) hi fun v s3 r3 hv hh he hg3 ho3=>h _ _ _ _ _ r3 hv ((ex.trans ex2).trans (e7 hh he)) ((hg3.trans hg2).trans hg) ((ho3.trans ho2).trans ho)
theorem AF (F:Facts2 W) (H:SE W d R.e) (M:aS R) (ok:aJ W c) (hc:al W.T c.fd.scope.names (n+1) (.idxq ce ci) e=true) (hx:bh W.T R (.idxq ce ci) σ=some (x,σ')) (o:ae σ') (r:a9 W Z ρ s.heap c.L m σ) (rm:aL A d) (h:EP W c Z ρ s σ.heap σ' x Q):wpAny (model W.prog W.w) A (eval e c.env) Q E s:=by
 refine nN hc ?_;clear hc;intro eo ei p hc;refine eG hc fun c1 c2 c3 c4=>?_;refine ah hx fun y σ₁ g1 g2=>?_;refine ah g2 fun i σ₂ g3 g4=>?_;refine ah g4 fun z σ₃ g5 g6=>?_
 (revert o h;refine aR g6 ?_;intro o h)
 have o2:=ae.of u7 g5 o;refine Subscript_ (H c n ce eo σ σ₁ y Z ρ m s A _ E ok c1 g1 (ae.of (bk M) g3 o2) r rm fun vo s' Z' ρ' m' r' hy ex hg ho=>?_);refine H c n ci ei σ₁ σ₂ (.v i) Z' ρ' m' s' A _ E ok c2 (cn g3) o2 r' rm fun vi s2 Z2 ρ2 m2 r2 hi ex2 hg2 ho2=>?_
 (refine be (FM g5) ?_;clear g1 g3;clear g2 g4 g5;rintro l k rfl rfl g9)
 refine ah g9 fun u σ₄ g7 g8=>?_;have g7:=eQ g7
 (revert o h;refine aR g8 ?_;intro o h)
 have hh:=o (0≤k∧k < l.length) (by change g7;exact .head _)
 (refine cJ (gM (hy.mono ex2.z ex2.r:aa W Z2 vo (.lst l))) ?_;clear hy;rintro a vs kk rfl z1 V)
 have hi:aa W Z2 vi (.sint k):=hi
 (have zq0:Exists _:=aa.inv hi;clear hi;obtain ⟨_,zq0⟩:=zq0;clear hi;subst zq0)
 refine rD c3 (r2.zh _ _ z1) V (y:=cZ l k) ?_ fun v hv=>h v s2 Z2 ρ2 m2 (r2.same (by (change g7;with_reducible rfl)) (by (change g7;with_reducible rfl))) (.opq hv) ((ex.trans ex2).trans (e7 rfl (by (change g7;with_reducible rfl)))) (hg2.trans hg) (ho2.trans ho);have e:k=Int.ofNat k.toNat:=by refine (?_:k=(k.toNat:Int));lia
 change e;refine (?_:bB l k.toNat=some ((bB l (Int.ofNat k.toNat).toNat).getD .none));have hlt:k.toNat < l.length:=by lia
 have e2:(Int.ofNat k.toNat).toNat=k.toNat:=rfl
 (change e2;change iQ;change List.getElem?_eq_getElem hlt)
 rfl
end
set_option tactic.hygienic true in
theorem IE {n:Nat} {v:Option V} {k:Nat} (h:eC n 0 v=some k):∃ i:Option Int,k=kms_lo i n∧((v=none∧i=none)∨∃ j,v=some (.int j)∧i=some j):=by
 induction v using Option.casesOn with
 |none=>(replace h:=Kj h;obtain rfl:=h);exact aF none rfl (.inl ⟨rfl,rfl⟩)
 |some v=>
  induction v using V.casesOn<;>first|(exact a0 h;done)|skip
  rename_i j;refine aF (some j) ?_ (.inr ⟨j,rfl,rfl⟩);induction j using Int.casesOn with
  |ofNat a=>(replace h:=Kj h;obtain rfl:=h);refine (?_:Nat.min a n=_);simp only [kms_lo];change Kp (by refine (?_:¬ (Int.ofNat a < 0));simp);rfl
  |negSucc a=>(replace h:=Kj h;obtain rfl:=h);simp only [kms_lo];change Ks (by simp);rfl
set_option tactic.hygienic true in
theorem IF {n:Nat} {v:Option V} {k:Nat} (h:eC n n v=some k):∃ i:Option Int,k=kms_hi i n∧((v=none∧i=none)∨∃ j,v=some (.int j)∧i=some j):=by
 induction v using Option.casesOn with
 |none=>(replace h:=Kj h;obtain rfl:=h);exact aF none rfl (.inl ⟨rfl,rfl⟩)
 |some v=>
  induction v using V.casesOn<;>first|(exact a0 h;done)|skip
  rename_i j;refine aF (some j) ?_ (.inr ⟨j,rfl,rfl⟩);induction j using Int.casesOn with
  |ofNat a=>(replace h:=Kj h;obtain rfl:=h);refine (?_:Nat.min a n=_);simp only [kms_hi];change Kp (by refine (?_:¬ (Int.ofNat a < 0));simp);rfl
  |negSucc a=>(replace h:=Kj h;obtain rfl:=h);simp only [kms_hi];change Ks (by simp);rfl
theorem zw {α:Type} (l:List α) (a b:Nat):(l.take b).drop a=(l.drop a).take (b - a):=by (change List.drop_take;with_reducible rfl)
theorem tN {α:Type} {l k:List α} (h:bX l lo hi=some k):∃ i j:Option Int,k=(l.drop (kms_lo i l.length)).take (kms_hi j l.length - kms_lo i l.length)∧
  ((lo=none∧i=none)∨∃ z,lo=some (.int z)∧i=some z)∧((hi=none∧j=none)∨∃ z,hi=some (.int z)∧j=some z):=by
 unfold bX at h;induction q1:eC l.length 0 lo using Option.casesOn with
 |none=>rw [q1] at h;exact a0 h
 |some a=>
  induction q2:eC l.length l.length hi using Option.casesOn with
  |none=>rw [q1,q2] at h;exact a0 h
  |some b=>
   rw [q1,q2] at h
   (replace h:=Kj h;obtain rfl:=h)
   (refine am (IE q1) ?_;clear q1;rintro i rfl hi')
   (refine am (IF q2) ?_;clear q2;rintro j rfl hj')
   exact cP i j (zw ..) hi' hj'
theorem tt (lo hi:Option Int) (n:Nat):PySem.Builtin.Str.strSliceIndices lo hi 1 n=sliceRange ((kms_lo lo n:Nat):Int) ((kms_hi hi n:Nat):Int) 1:=by
 have h:PySem.Builtin.Str.strSliceIndices lo hi 1 n=sliceRange (sliceBounds lo hi none n).1 (sliceBounds lo hi none n).2.1 1:=by induction lo using Option.casesOn<;>induction hi using Option.casesOn<;>rfl
 (change h;change kms_bounds;with_reducible rfl)
theorem zT (x:List Nat) (lo hi:Option Int):(PySem.Builtin.Str.strSliceIndices lo hi 1 x.length).filterMap ((aq x).cps[·]?)=(x.drop (kms_lo lo x.length)).take (kms_hi hi x.length - kms_lo lo x.length):=by
 (change tt;change sliceRange_one;change pick_run;change eh;with_reducible rfl)
section
variable {W:Wd} {d:Nat} {R:ao} {c:Cx} {n:Nat} {e:Expr} {σ σ':St} {x:X} {Z:ZM} {ρ:List (Addr×Addr)} {m:Str→Option Value} {s:Shared} {A:Around} {Q:Value→Shared→Prop} {E:Value→Shared→Prop}
noncomputable def hM (W:Wd) (Z:ZM) (v:Value):Option V→Prop
 |none=>v=.none
 |some y=>aa W Z v y
theorem hM.mono {v:Value} {y:Option V} (hz:∀ a o,Z a=some o→Z' a=some o) (h:hM W Z v y):hM W Z' v y:=by
 induction y using Option.casesOn with
 |none=>exact h
 |some y=>exact aa.mono hz h
theorem tJ {ce:Option CE} {oe:Option Expr} {y:Option V} (H:SE W d R.e) (M:aS R) (ok:aJ W c) (hc:qP (al W.T c.fd.scope.names n) ce oe=true) (hx:fK R ce σ=some (y,σ')) (o:ae σ') (r:a9 W Z ρ s.heap c.L m σ) (rm:aL A d)
  (h:∀ v s' Z' ρ' m',a9 W Z' ρ' s'.heap c.L m' σ'→hM W Z' v y→aA Z ρ s.heap c.L σ.heap Z' ρ' s'.heap σ'.heap→s'.gens=s.gens→s'.os=s.os→Q v s'):wpAny (model W.prog W.w) A (evalPart oe c.env) Q E s:=by
 induction ce using Option.casesOn with
 |none=>
  induction oe using Option.casesOn with
  |some=>exact ac hc
  |none=>
   (revert o h;refine aR hx ?_;intro o h)
   change evalPart_none;exact Kv (h _ _ _ _ _ r rfl .refl rfl rfl)
 |some ce=>
  induction oe using Option.casesOn with
  |none=>exact ac hc
  |some e=>
   refine ah hx fun v σ₁ g1 g2=>?_
   (revert o h;refine aR g2 ?_;intro o h)
   change evalPart_some;exact H c n ce e σ _ (.v v) Z ρ m s A _ E ok hc (cn g1) o r rm fun v s' Z' ρ' m' r' hv ex hg ho=>h _ _ _ _ _ r' hv ex hg ho
theorem nK {v:Value} {y:Option V} {i:Option Int} (h:hM W Z v y) (hi:(y=none∧i=none)∨∃ z,y=some (.int z)∧i=some z):IsPart v i∧∃ l:Option (Int×Tok),v=partValue l∧l.map (·.1)=i:=by
 rcases hi with ⟨rfl,rfl⟩|⟨z,rfl,rfl⟩
 ·have h:v=.none:=h;subst h;exact ⟨.none,none,rfl,rfl⟩
 ·have h:aa W Z v (.int z):=h
  (have zq0:Exists _:=aa.inv h;clear h;obtain ⟨_,zq0⟩:=zq0;clear h;subst zq0)
  exact ⟨.int _ _,some (z,_),rfl,rfl⟩
set_option tactic.hygienic true in
theorem B7 {vs:List Value} {l:List V} (V:bM W Z vs l) (i j:Option Int):bM W Z ((vs.drop (kms_lo i vs.length)).take (kms_hi j vs.length - kms_lo i vs.length)) ((l.drop (kms_lo i l.length)).take (kms_hi j l.length - kms_lo i l.length)):=by
 (refine bb V ?_;(try clear V);rintro a b c)
 change b;refine b7 (Kl (by simp;lia) a) (by simp [b]) (fun k v x e1 e2=>?_);rw [List.getElem?_take] at e1 e2
 split at e1
 ·rename_i hk;rw [Ks hk,List.getElem?_drop] at e2;rw [List.getElem?_drop] at e1;exact c _ v x e1 e2
 ·exact a0 e1
theorem Bf {y:X} (h:f0 y lo hi σ=some (z,σ')):(∃ l l',y=.v (.lst l)∧bX l lo hi=some l'∧z=.lst l'∧σ'=σ)∨(∃ l l',y=.v (.str l)∧bX l lo hi=some l'∧z=.str l'∧σ'=σ)∨
  (∃ k l l',y=.r k∧σ.heap[k]?=some (.lst l)∧bX l lo hi=some l'∧z=.lst l'∧σ'=σ):=by
 have two:∀ {α:Type} {l:List α} {f:List α→V} {s₁:St},a7 (aZ (bX l lo hi)) (fun x=>ak (f x)) s₁=some (z,σ')→∃ l',bX l lo hi=some l'∧z=f l'∧σ'=s₁:=fun h=>by
  refine ah h fun l' σ₅ g9 g10=>?_
  (revert g10;refine dZ g9 fun e1=>?_;intro g10)
  (refine aw (bi g10) ?_;rintro e2 e3)
  exact eT l' e1 e2 e3
 induction y using X.casesOn with
 |m=>exact a0 h
 |r k=>
  refine ah h fun cl σ₅ g9 g10=>?_
  (revert g10;refine dR g9 fun hcl=>?_;intro g10)
  clear g9;induction cl using a8.casesOn<;>first|exact a0 g10|skip
  (refine dy (two g10) ?_;rintro l' e1 e2 e3)
  exact .inr (.inr ⟨_,_,_,rfl,hcl,e1,e2,e3⟩)
 |v y=>
  induction y using V.casesOn<;>first|exact a0 h|skip
  ·(refine dy (two h) ?_;rintro l' e1 e2 e3)
   exact .inr (.inl ⟨_,_,rfl,e1,e2,e3⟩)
  ·(refine dy (two h) ?_;rintro l' e1 e2 e3)
   exact .inl ⟨_,_,rfl,e1,e2,e3⟩
noncomputable abbrev fS (vl vu:Value):Obj:={ cls:=.type "slice",data:=.fields #[vl,vu,.none] }
theorem tO {ob :Option Expr} {l l':List V} {vs:List Value} {a b:Addr} {k:Nat} (rs:a9 W Z ρ s.heap c.L m σ) (hsl:s.heap.get? b=some (fS vl vu)) (e2:s.heap.get? a=some (bn vs k)) (V:bM W Z vs l) (hl:hM W Z vl lo) (hu:hM W Z vu hi)
  (e3:bX l lo hi=some l') (h:gq W c Z ρ s σ (.lst l') Q):wpAny (model W.prog W.w) A (subscriptTail eo (.Slice oa ob none p2) (.ref a) (.ref b)) Q E s:=by
 (refine be (tN e3) ?_;clear e3;rintro i j rfl hi1 hj1)
 have IL:s.heap.IsList a vs.toArray:=⟨_,e2,rfl,_,rfl⟩
 refine tail_any IL.typeIs slot_list_getitem.lookup (wpAny_getItem_list_slice IL ⟨_,hsl,rfl,rfl⟩ (nK hl hi1).1 (nK hu hj1).1 .none M0 ?_ (by change KH;exact V.1)) rfl;change kms_pick_eq;exact rd (c:=c) (Q:=Q) rs (B7 V i j) h
set_option tactic.hygienic true in
theorem Be {ob :Option Expr} {l :List Nat} {b:Addr} {t:Tok} (rs:a9 W Z ρ s.heap c.L m σ) (hsl:s.heap.get? b=some (fS vl vu)) (hb:l.length≤sizeLine) (hl:hM W Z vl lo) (hu:hM W Z vu hi)
  (e1:bX l lo hi=some l') (h:gq W c Z ρ s σ (.str l') Q):wpAny (model W.prog W.w) A (subscriptTail eo (.Slice oa ob none p2) (.str (aq l) t) (.ref b)) Q E s:=by
 (refine be (tN e1) ?_;rintro i j e hi1 hj1)
 obtain ⟨_,ll,rfl,hl2⟩:=nK hl hi1;obtain ⟨_,lu,rfl,hu2⟩:=nK hu hj1;have hle:l'.length≤sizeLine:=Kl (by change e;simp;omega) hb;have pk:(slicePicked (aq l) ll lu none).filterMap ((aq l).cps[·]?)=l':=by
  unfold slicePicked
  (change hl2;change hu2;change ct;change e)
  exact zT l i j
 refine tail_any (L6 _ _ _) PySem.F.slot_str_getitem.lookup (wpAny_getItem_str_slice (l:=ll) (u:=lu) (st:=none) ⟨_,hsl,rfl,rfl⟩ rfl ?_) rfl;unfold sliceMade;refine post_val_or_made (fun _=>?_) fun t' k=>?_
 ·change pk;exact hle
 ·change pk
  split
  ·rename_i hcnd;rw [KD] at hcnd;have hlen:=Kx.mp hcnd.2;have:l'=l:=by
    change e;unfold slicePicked at hlen;rw [hl2,hu2,ct,show ((Option.map (fun x:Int×Tok=>x.1) none).getD 1:Int)=1 from rfl,tt,sliceRange_one] at hlen;simp only [L4,List.length_range] at hlen;have h1:kms_hi j l.length≤l.length:=by unfold kms_hi;split<;>first|exact br _|(split<;>(first|exact Nat.sub_le _ _|omega))
    have h0:kms_lo i l.length≤l.length:=by unfold kms_lo;split<;>first|exact KG _|(split<;>(first|exact Nat.sub_le _ _|omega))
    have h2:kms_lo i l.length=0:=by omega
    have h3:kms_hi j l.length=l.length:=by omega
    (change h2;change h3);simp
   clear hb e1 e pk hcnd hlen;subst this;exact h _ { s with toks:=k } _ _ rs (.str hle) .refl rfl rfl
  ·exact h _ { s with toks:=k } _ _ rs (.str hle) .refl rfl rfl
theorem Ak {clo chi:Option CE} (H:SE W d R.e) (M:aS R) (ok:aJ W c) (hc:al W.T c.fd.scope.names (n+1) (.sl ce clo chi) e=true) (hx:bh W.T R (.sl ce clo chi) σ=some (x,σ')) (o:ae σ') (r:a9 W Z ρ s.heap c.L m σ) (rm:aL A d) (h:EP W c Z ρ s σ.heap σ' x Q):wpAny (model W.prog W.w) A (eval e c.env) Q E s:=by
 refine nN hc ?_;clear hc;intro eo ei p hc;refine Dy hc ?_;clear hc;intro oa ob st p2 hc;refine eG hc fun c1 c2 c3 c4=>?_;clear hc;obtain rfl:=Lp.mp c4;refine ah hx fun y σ₁ g1 g2=>?_;refine ah g2 fun lo σ₂ g3 g4=>?_;refine ah g4 fun hi σ₃ g5 g6=>?_;refine ah g6 fun z σ₄ g7 g8=>?_
 (refine aw (bi g8) ?_;clear hx g2 g4 g6 g8;rintro rfl rfl)
 have o3:=ae.of tR g7 o;have o2:=ae.of (nt M) g5 o3;refine Subscript_ (H c n ce eo σ σ₁ y Z ρ m s A _ E ok c1 g1 (ae.of (nt M) g3 o2) r rm fun vo s1 Z1 ρ1 m1 r1 hy ex1 hg1 ho1=>?_);refine wpAny_Slice (tJ H M ok c2 g3 o2 r1 rm fun vl s2 Z2 ρ2 m2 r2 hl ex2 hg2 ho2=>?_);refine tJ H M ok c3 g5 o3 r2 rm fun vu s3 Z3 ρ3 m3 r3 hu ex3 hg3 ho3=>?_;change evalPart_none;refine Kv ?_;have hy:=(hy.mono ex2.z ex2.r).mono ex3.z ex3.r;have hl:=hl.mono ex3.z;have EX:=(ex1.trans ex2).trans ex3;have HG:=(hg3.trans hg2).trans hg1;have HO:=(ho3.trans ho2).trans ho1;have up:∀ b o,s3.heap.get? b=some o→(s3.heap.push (fS vl vu)).get? b=some o:=fun b o e=>Heap.get?_push_of_some _ e;have hs:s3.heap.objs.size≤(s3.heap.push (fS vl vu)).objs.size:=by change Kz;exact KJ _
 have rs:=r3.grow up hs;have hsl:(s3.heap.push (fS vl vu)).get? s3.heap.objs.size=some (fS vl vu):=Heap.get?_push_size _ rfl;have hp:σ'=σ₃→gq W c Z3 ρ3 { s3 with heap:=s3.heap.push (fS vl vu) } σ₃ z Q:=fun e0 v s4 Z4 m4 r4 hv4 ex4 hg4 ho4=>h v s4 Z4 ρ3 m4 (e0.symm▸r4) hv4 (e0.symm▸(EX.trans (aA.grow up hs)).trans ex4) (hg4.trans HG) (ho4.trans HO);clear g1 g5 h o3 ex3 EX;rcases Bf g7 with ⟨l,l',rfl,e1,rfl,rfl⟩|⟨l,l',rfl,e1,rfl,rfl⟩|⟨kc,l,l',rfl,hcl,e1,rfl,rfl⟩
 ·(refine cJ (gM hy) ?_;clear hy;clear hy;rintro a vs k rfl z1 V)
  exact tO (s:={ s3 with heap:=s3.heap.push (fS vl vu) }) rs hsl (up _ _ (r3.zh _ _ z1)) V hl hu e1 (hp rfl)
 ·(refine am (aa.inv hy) ?_;clear hy;clear hy;rintro _ rfl hb)
  exact Be (s:={ s3 with heap:=s3.heap.push (fS vl vu) }) rs hsl hb hl hu e1 (hp rfl)
 ·(refine am hy ?_;(try clear hy);clear hy;rintro p hp' rfl)
  (refine aN (r3.at hp' hcl) ?_;rintro vs k z1 V)
  exact tO (s:={ s3 with heap:=s3.heap.push (fS vl vu) }) rs hsl (up _ _ z1) V hl hu e1 (hp rfl)
end
section
variable {M:Model} {A:Around} {E:Value→Shared→Prop} {s:Shared} {Q:Value→Shared→Prop} {env:Env}
theorem lS {T id:String} {name:Str} {o a:Expr} (slot:Slot T name id) (ty:typeOf (.builtin id)=pure (.type "method_descriptor")) (pa:PlainAttrs T) (h1:gf o=true) (h2:(apos.endLine==pos.line)=true) (hn:cB a=true)
  (h:wpAny M A (eval o env) (fun v s₁=>s₁.TypeIs v T∧(∀ a,v=.ref a→∃ o,s₁.heap.get? a=some o∧o.dict=none)∧wpAny M A (eval a env) (fun y s₂=>wpAny M A (call (.builtin id) [v,y]) Q E s₂) E s₁) E s):wpAny M A (eval (.Call (.Attribute o name apos) [a] [] pos) env) Q E s:=by
 refine nZ h1 h2 ?_ (KV h (fun v s₁ h₁=>?_) fun _ _ e=>e)
 ·unfold methodCallForm;change dW hn;rfl
 ·(refine bb h₁ ?_;(try clear h₁);rintro hT hd h₁)
  refine getMethod_builtin hT pa slot ty hd ?_;refine callWith_method1 ?_ (dW hn);change dW hn;exact Lh (KV h₁ (fun y s₂ h₂=>Le h₂) fun _ _ e=>e)
theorem rk {T id:String} {name:Str} {o:Expr} (slot:Slot T name id) (ty:typeOf (.builtin id)=pure (.type "method_descriptor")) (pa:PlainAttrs T) (h1:gf o=true) (h2:(apos.endLine==pos.line)=true)
  (h:wpAny M A (eval o env) (fun v s₁=>s₁.TypeIs v T∧(∀ a,v=.ref a→∃ o,s₁.heap.get? a=some o∧o.dict=none)∧wpAny M A (call (.builtin id) [v]) Q E s₁) E s):wpAny M A (eval (.Call (.Attribute o name apos) [] [] pos) env) Q E s:=by
 refine nZ h1 h2 rfl (KV h (fun v s₁ h₁=>?_) fun _ _ e=>e)
 (refine bb h₁ ?_;(try clear h₁);rintro hT hd h₁)
 exact getMethod_builtin hT pa slot ty hd (callWith_method0 h₁)
end
noncomputable def LC (W:Wd) (Z:ZM) (ρ:List (Addr×Addr)):a8→List Value→Prop
 |.lst l,vs=>bM W Z vs l
 |.stk l,vs=>bM W Z vs l.reverse
 |.strs l,vs=>bM W Z vs (l.reverse.map .sstr)
 |.bms k l,vs=>vs.length≤sizeLine∧vs.length=l.length∧∀ (i:Nat) (v:Value) (f:Nat),vs[i]?=some v→l.reverse[i]?=some f→bg W Z ρ v (.m k f)
 |_,_=>False
theorem oW {h:Heap} {p:Addr×Addr} {c:a8} (hc:gO c=true) (H:eK W h Z ρ p c):∃ vs n,h.get? p.1=some (bn vs n)∧LC W Z ρ c vs:=by
 induction c using a8.casesOn<;>first|((first|exact ac hc|cases hc);done)|exact H
theorem Fe {h:Heap} {p:Addr×Addr} {c:a8} {vs:List Value} {n:Nat} (hz:h.get? p.1=some (bn vs n)) (H:LC W Z ρ c vs):eK W h Z ρ p c:=by
 induction c using a8.casesOn<;>first|exact H.elim|exact bI vs n hz H
theorem rE {p:Addr×Addr} {c:a8} (hc:gO c=true):b9 p c=[p.1]:=by induction c using a8.casesOn<;>first|((first|exact ac hc|cases hc);done)|rfl
theorem Fd {c:a8} {vs:List Value} (H:LC W Z ρ c vs):gO c=true:=by induction c using a8.casesOn<;>first|exact H.elim|rfl
section
variable {W:Wd} {d:Nat} {R:ao} {c:Cx} {n:Nat} {e:Expr} {σ σ':St} {x:X} {Z:ZM} {ρ:List (Addr×Addr)} {m:Str→Option Value} {s:Shared} {A:Around} {Q:Value→Shared→Prop} {E:Value→Shared→Prop}
theorem a9.listSet {h:Heap} {L:Addr} {k:Nat} {p:Addr×Addr} {cl cl':a8} {vs :List Value} {n:Nat} {f:Array Value→Array Value} (r:a9 W Z ρ h L m σ) (hp:ρ[k]?=some p) (hc:σ.heap[k]?=some cl) (hl:gO cl=true) (hz:h.get? p.1=some (bn vs n))
  (hf:f vs.toArray=vs'.toArray) (H:LC W Z ρ cl' vs'):
  a9 W Z ρ (h.update p.1 (Obj.mapSeq f)) L m { σ with heap:=eN σ.heap k cl' }∧aA Z ρ h L σ.heap Z ρ (h.update p.1 (Obj.mapSeq f)) (eN σ.heap k cl'):=by
 have hn:=IsL.update (h:=h) (l:=p.1) (items:=vs.toArray) (n:=n) hz f;rw [hf] at hn;have hs:Heap.SameBut p.1 h (h.update p.1 (Obj.mapSeq f)):=Heap.SameBut.update ..;have ha:p.1∈b9 p cl:=by change rE hl;exact .head _
 have hadr:∀ a,a∈b9 p cl'→a∈b9 p cl:=fun a q=>by rw [rE (Fd H)] at q;change rE hl;exact q
 change iL;exact ⟨r.upd hp hc ha hs (Fe hn H) hadr (fun c₀ fs e=>by clear hadr;subst e;exact H.elim),aA.upd hp hc ha hs hadr⟩
theorem qR {v:Value} (h:aa W Z v y):bM W Z [v] [y]:=⟨by refine (?_:1≤_);change KL;decide,rfl,fun i u z a b=>by
 induction i using Nat.casesOn with
 |zero=>simp at a b;subst a b;exact h
 |succ i=>simp at a⟩
theorem Ke {h:Heap} {a:Addr} {vs:List Value} {n:Nat} (hz:h.get? a=some (bn vs n)):({ s with heap:=h }:Shared).TypeIs (.ref a) "list":=⟨_,hz,rfl⟩
theorem Kf {h:Heap} {a:Addr} {vs:List Value} {n:Nat} (hz:h.get? a=some (bn vs n)):∀ b,Value.ref a=.ref b→∃ o,h.get? b=some o∧o.dict=none:=fun b e=>by (have zq0:_=_:=e;clear e;injection zq0 with zq0a;obtain rfl:=zq0a);exact aF _ hz rfl
inductive kK (W:Wd) (Z:ZM) (ρ:List (Addr×Addr)) (σ σ':St) (h:Heap) (vy:Value) (vs vs':List Value):Prop
 |mk (k:Nat) (p:Addr×Addr) (cl cl':a8) (nn:Nat) (e:vy=.ref p.1) (hp:ρ[k]?=some p) (hc:σ.heap[k]?=some cl) (hl:gO cl=true) (hz:h.get? p.1=some (bn vs nn)) (lc:LC W Z ρ cl' vs') (e2:σ'.heap=eN σ.heap k cl') (e3:σ'.loc=σ.loc)
theorem kK.run {h:Heap} {L:Addr} {vs :List Value} (H:kK W Z ρ σ σ' h vy vs vs') (r:a9 W Z ρ h L m σ):∃ a nn,vy=.ref a∧h.get? a=some (bn vs nn)∧∀ f:Array Value→Array Value,f vs.toArray=vs'.toArray→
  a9 W Z ρ (h.update a (Obj.mapSeq f)) L m σ'∧aA Z ρ h L σ.heap Z ρ (h.update a (Obj.mapSeq f)) σ'.heap:=by
 obtain ⟨k,p,cl,cl',nn,e,hp,hc,hl,hz,lc,e2,e3⟩:=H;refine cP p.1 nn e hz (fun f hf=>?_)
 (refine aw (r.listSet hp hc hl hz hf lc) ?_;rintro k1 k2)
 exact ⟨k1.same e2 e3,by change e2;exact k2⟩
theorem sy {z:X} {v:V} (h:fA z=some v):z=.v v:=by
 induction z using X.casesOn<;>first|exact a0 h|exact Kq X.v (Kj h)
theorem mR {k:Nat} {p:Prop} (g:(a7 (bE p) fun _=>a7 (df k c') fun _=>ak (X.v .none)) σ=some (w,σ')) (o:ae σ'):w=.v .none∧p∧σ'.heap=eN σ.heap k c'∧σ'.loc=σ.loc:=by
 refine ah g fun u σ₃ g5 g6=>?_;have g5:=eQ g5;refine ah g6 fun u' σ₄ g7 g8=>?_
 (refine aw (bi g8) ?_;clear g g6 g8;rintro rfl rfl)
 rw [gD] at g7
 (have za:=(af g7).1;have zb:=(af g7).2;clear g7;obtain rfl:=za;obtain rfl:=zb)
 exact wH rfl (o p (by change g5;exact .head _)) (by (change g5;with_reducible rfl)) (by (change g5;with_reducible rfl))
theorem o9 {n:Nat} {vs:List Value} {v:Value} (e:vs.length=n) (h:n < lim):vs.length+[v].length≤sizeLine:=by
 change e;exact Kl h dY
set_option tactic.hygienic true in
theorem Jn {k:Nat} {p:Addr×Addr} {cl:a8} {z :X} (g:(match cl with
  |.lst l=>a7 (aZ (fA z)) fun v=>a7 (bE (l.length < lim)) fun _=>a7 (df k (.lst (l++[v]))) fun _=>ak (.v .none)
  |.stk l=>a7 (aZ (fA z)) fun v=>a7 (bE (l.length < lim)) fun _=>a7 (df k (.stk (v::l))) fun _=>ak (.v .none)
  |.strs l=>a7 (aZ (fA z)) fun v=>a7 (aZ (cg v)) fun s=>a7 (bE (l.length < lim)) fun _=>a7 (df k (.strs (s::l))) fun _=>ak (.v .none)
  |.bms k' l=>match z with
   |.m k'' f=>match Nat.beq k' k'' with
    |true=>a7 (bE (l.length < lim)) fun _=>a7 (df k (.bms k' (f::l))) fun _=>ak (.v .none)
    |false=>no
   |_=>no
  |_=>no:Mo X) σ=some (w,σ')) (o:ae σ') {vs:List Value} (V:LC W Z ρ cl vs) (hz:bg W Z ρ vz z):w=.v .none∧∃ cl',vs.length < lim∧LC W Z ρ cl' (vs++[vz])∧σ'.heap=eN σ.heap k cl'∧σ'.loc=σ.loc:=by
 refine cps fun GG kk=>?_;induction cl using a8.casesOn<;>first|exact a0 g|skip
 ·rename_i l;refine ah g fun v σ₂ g3 g4=>?_
  (revert g4;refine dZ g3 fun e3=>?_;intro g4)
  clear g g3;obtain rfl:=sy e3
  (refine jc (mR g4 o) ?_;rintro e1 ob e2 e4)
  exact kk (⟨e1,.lst (l++[v]),V.2.1▸ob,bM.cat V (qR hz) (o9 V.2.1 ob),e2,e4⟩)
 ·rename_i l;refine ah g fun v σ₂ g3 g4=>?_
  (revert g4;refine dZ g3 fun e3=>?_;intro g4)
  clear g g3;obtain rfl:=sy e3
  (refine jc (mR g4 o) ?_;rintro e1 ob e2 e4)
  have hl:vs.length=l.length:=V.2.1.trans Lk;refine kk (⟨e1,.stk (v::l),hl▸ob,?_,e2,e4⟩);refine (?_:bM W Z _ (v::l).reverse);change Ll;exact bM.cat V (qR hz) (o9 hl ob)
 ·rename_i k' l;induction z using X.casesOn<;>first|exact a0 g|skip
  rename_i k'' f;have g':(match Nat.beq k' k'' with|true=>(a7 (bE (l.length < lim)) fun _=>a7 (df k (.bms k' (f::l))) fun _=>ak (X.v .none))|false=>no) σ=some (w,σ'):=g;clear g;cases hk:Nat.beq k' k''<;>rw [hk] at g'<;>first|exact a0 g'|skip
  obtain rfl:=cS.mp hk
  (refine jc (mR g' o) ?_;rintro e1 ob e2 e4)
  (refine bb V ?_;(try clear V);rintro V1 V2 V3)
  refine kk (⟨e1,.bms k' (f::l),V2▸ob,⟨by change Kn;exact o9 V2 ob,by simp [V2],fun i v g a b=>?_⟩,e2,e4⟩);rw [Ll] at b;rcases Nat.lt_or_ge i vs.length with q|q
  ·rw [List.getElem?_append_left q] at a;rw [List.getElem?_append_left (by (change Lk;refine aT (V2 ..) ?_);exact q)] at b;exact V3 i v g a b
  ·rw [List.getElem?_append_right q] at a;rw [List.getElem?_append_right (by (change Lk;refine aT (V2 ..) ?_);exact q),Lk,← V2] at b;generalize i - vs.length=j at a b;induction j using Nat.casesOn with
   |zero=>simp at a b;subst a b;exact hz
   |succ j=>simp at a
 ·rename_i l;refine ah g fun v σ₂ g3 g4=>?_
  (revert g4;refine dZ g3 fun e3=>?_;intro g4)
  clear g g3;obtain rfl:=sy e3;refine ah g4 fun t σ₂ g9 g10=>?_
  (revert g10;refine dZ g9 fun e9=>?_;intro g10)
  (refine jc (mR g10 o) ?_;rintro e1 ob e2 e4)
  have hl:vs.length=l.length:=V.2.1.trans (by (change L4;change Lk;with_reducible rfl));refine kk (⟨e1,.strs (t::l),hl▸ob,?_,e2,e4⟩);refine (?_:bM W Z _ ((t::l).reverse.map .sstr))
  (change Ll;change List.map_append)
  (refine am (gB (hz:aa W Z vz v) e9) ?_;clear hz;clear kk;rintro tk rfl hb)
  exact bM.cat V (qR (.sstr hb)) (o9 hl ob)
theorem Jo {y z:X} (h:pn y z σ=some (w,σ')) (o:ae σ') (r:a9 W Z ρ s.heap c.L m σ) (hy:bg W Z ρ vy y) (hz:bg W Z ρ vz z):
  w=.v .none∧∃ vs:List Value,kK W Z ρ σ σ' s.heap vy vs (vs++[vz])∧vs.length < lim:=by
 refine cps fun GG kk=>?_;induction y using X.casesOn<;>first|exact a0 h|skip
 refine ah h fun cl σ₁ g1 g2=>?_
 (revert g2;refine dR g1 fun hcl=>?_;intro g2)
 (refine am hy ?_;(try clear hy);rintro p hp rfl)
 have CL:=r.at hp hcl;induction q:gO cl using Bool.casesOn with
 |false=>clear g1 hcl CL;induction cl using a8.casesOn<;>first|exact a0 g2|(exfalso;exact ac q.symm)
 |true=>
  (refine aN (oW q CL) ?_;rintro vs nn hz1 V)
  obtain ⟨e1,cl',ob,lc,e2,e3⟩:=Jn (W:=W) (Z:=Z) (ρ:=ρ) (p:=p) g2 o V hz;exact kk (⟨e1,vs,⟨_,p,_,cl',nn,rfl,hp,hcl,q,hz1,lc,e2,e3⟩,ob⟩)
theorem wx {y:X} {u:Unit} (h:jT y σ=some (u,σ')):∃ k cl,y=.r k∧σ'.heap[k]?=some cl∧gO cl=true∧σ'=σ:=by
 unfold jT at h;induction y using X.casesOn with
 |r k=>
  refine ah h fun cl σ₁ g1 g2=>?_
  (revert g2;refine dR g1 fun hcl=>?_;intro g2)
  revert g2;refine d8 (gO cl) ?_ ?_;rotate_left
  ·intro q g2;(refine aw (bi g2) ?_;clear g2 h g1;rintro _ rfl);exact fj k cl rfl hcl q rfl
  ·intro q g2;exact a0 g2
 |v y=>exact a0 h
 |m k f=>exact a0 h
theorem B3 (H:SE W d R.e) (M:aS R) (ok:aJ W c) (hc:al W.T c.fd.scope.names (n+1) (.app ce cx) e=true) (hx:bh W.T R (.app ce cx) σ=some (x,σ')) (o:ae σ') (r:a9 W Z ρ s.heap c.L m σ) (rm:aL A d) (h:EP W c Z ρ s σ.heap σ' x Q):wpAny (model W.prog W.w) A (eval e c.env) Q E s:=by
 refine i8 hc ?_;clear hc;intro g a pos hc;refine cq hc fun c1 c2 c3=>?_
 (refine cv (gp c1) ?_;clear hc c1;rintro ob ap rfl a1 a2 a3)
 refine ah hx fun y σ₁ g1 g2=>?_;refine ah g2 fun u σ₃ g5 g6=>?_
 (refine cv (wx g5) ?_;clear g5;clear g2;rintro k cl rfl hcl hil rfl)
 refine ah g6 fun z σ₂ g3 g4=>?_;have o2:=ae.of ue g4 o;refine lS PySem.F.slot_list_append PySem.F.type_list_append LO a2 a3 c3 (H c n ce ob σ σ₃ (.r k) Z ρ m s A _ E ok a1 g1 (ae.of (M.e _) g3 o2) r rm fun v s1 Z1 ρ1 m1 r1 hy ex hg ho=>?_)
 (refine am (id hy) ?_;rintro p hp rfl)
 (refine aN (oW hil (r1.at hp hcl)) ?_;rintro vs nn hz1 _)
 refine b7 ⟨_,hz1,rfl⟩ (fun b e=>by (have zq0:_=_:=e;clear e;injection zq0 with zq0a;obtain rfl:=zq0a);exact aF _ hz1 rfl) ?_;refine H c n cx a σ₃ σ₂ z Z1 ρ1 m1 s1 A _ E ok c2 g3 o2 r1 rm fun vz s2 Z2 ρ2 m2 r2 hz ex2 hg2 ho2=>?_;clear hx g6;obtain ⟨rfl,vs',L,hlt⟩:=Jo g4 o r2 (hy.mono ex2.z ex2.r) hz
 (refine be (L.run r2) ?_;rintro a' nn' e1 hz' up)
 change e1;refine Lw PySem.F.slot_list_append (⟨_,hz',rfl⟩:s2.TypeIs (.ref a') "list") PySem.F.entry_list_append (PySem.F.args_list_append_2 _ _) (list_append a' vs'.toArray nn' vz (by have:=dY;change KH;lia)) ⟨hz',?_⟩
 (refine aw (up (fun xs=>xs.push vz) (by simp)) ?_;rintro k1 k2)
 exact h .none { s2 with heap:=s2.heap.update a' (Obj.mapSeq fun xs=>xs.push vz) } Z2 ρ2 m2 k1 .none ((ex.trans ex2).trans k2) (hg2.trans hg) (ho2.trans ho)
end
section
variable {W:Wd} {d:Nat} {R:ao} {c:Cx} {n:Nat} {e:Expr} {σ σ':St} {x:X} {Z:ZM} {ρ:List (Addr×Addr)} {m:Str→Option Value} {s:Shared} {A:Around} {Q:Value→Shared→Prop} {E:Value→Shared→Prop}
theorem tz {α:Type} {vs:List α} {n:Nat} (h:vs.length=n+1):∃ us v,vs=us++[v]∧us.length=n:=by
 have hne:vs≠[]:=by intro e;subst e;contradiction
 exact bI vs.dropLast (vs.getLast hne) ((List.dropLast_concat_getLast hne).symm) (by (change List.length_dropLast;change h);rfl)
theorem D8 {y :X} (h:lq y σ=some (w,σ')) (r:a9 W Z ρ s.heap c.L m σ) (hy:bg W Z ρ vy y):
  ∃ (us:List Value) (v:Value),kK W Z ρ σ σ' s.heap vy (us++[v]) us∧(us++[v]).length≤sizeLine∧bg W Z ρ v w:=by
 refine cps fun GG kk=>?_;unfold lq at h;induction y using X.casesOn with
 |v y=>exact a0 h
 |m k f=>exact a0 h
 |r k=>
  refine ah h fun cl σ₁ g1 g2=>?_
  (revert g2;refine dR g1 fun hcl=>?_;intro g2)
  (refine am hy ?_;(try clear hy);rintro p hp rfl)
  have CL:=r.at hp hcl;clear g1;induction cl using a8.casesOn with
  |stk l=>
   induction l using List.casesOn with
   |nil=>exact a0 g2
   |cons y l=>
    refine ah g2 fun u' σ₄ g7 g8=>?_
    (refine aw (bi g8) ?_;clear h g2 g8;rintro rfl rfl)
    rw [gD] at g7;(have za:=(af g7).1;have zb:=(af g7).2;clear g7;obtain rfl:=za;obtain rfl:=zb)
    (refine cv CL ?_;(try clear CL);rintro vs nn hz1 V1 V2 V3)
    (refine aN (tz (n:=l.length) (by change V2;exact Lk)) ?_;clear V2;rintro us v rfl hl)
    refine kk (cP us v ⟨k,p,_,.stk l,nn,rfl,hp,hcl,rfl,hz1,⟨?_,?_,fun i u z a b=>?_⟩,rfl,rfl⟩ V1 ?_)
    ·simp at V1;exact Li M1
    ·(change hl;change Lk;with_reducible rfl)
    ·refine V3 i u z (ga a) ?_;change Ll;exact ga b
    ·refine V3 us.length v y ?_ ?_
     ·simp
     ·(change Ll;change hl);simp
  |bms k' l=>
   induction l using List.casesOn with
   |nil=>exact a0 g2
   |cons f l=>
    refine ah g2 fun u' σ₄ g7 g8=>?_
    (refine aw (bi g8) ?_;clear h g2 g8;rintro rfl rfl)
    rw [gD] at g7;(have za:=(af g7).1;have zb:=(af g7).2;clear g7;obtain rfl:=za;obtain rfl:=zb)
    (refine cv CL ?_;(try clear CL);rintro vs nn hz1 V1 V2 V3)
    (refine aN (tz (n:=l.length) (by change V2;rfl)) ?_;clear V2;rintro us v rfl hl)
    refine kk (cP us v ⟨k,p,_,.bms k' l,nn,rfl,hp,hcl,rfl,hz1,⟨?_,hl,fun i u g a b=>?_⟩,rfl,rfl⟩ V1 ?_)
    ·simp at V1;exact Li M1
    ·refine V3 i u g (ga a) ?_;change Ll;exact ga b
    ·refine V3 us.length v f ?_ ?_
     ·simp
     ·(change Ll;change hl);simp
  |_=>exact a0 g2
theorem Am (H:SE W d R.e) (M:aS R) (ok:aJ W c) (hc:al W.T c.fd.scope.names (n+1) (.pop ce) e=true) (hx:bh W.T R (.pop ce) σ=some (x,σ')) (o:ae σ') (r:a9 W Z ρ s.heap c.L m σ) (rm:aL A d) (h:EP W c Z ρ s σ.heap σ' x Q):wpAny (model W.prog W.w) A (eval e c.env) Q E s:=by
 refine nP hc ?_;clear hc;intro g pos hc
 (refine cv (gp hc) ?_;clear hc;rintro ob ap rfl a1 a2 a3)
 refine ah hx fun y σ₁ g1 g2=>?_;refine rk LQ PySem.F.type_list_pop LO a2 a3 (H c n ce ob σ σ₁ y Z ρ m s A _ E ok a1 g1 (ae.of tT g2 o) r rm fun vy s1 Z1 ρ1 m1 r1 hy ex hg ho=>?_)
 (refine be (D8 g2 r1 hy) ?_;rintro us v L hlen hv)
 (refine be (L.run r1) ?_;clear hy L;rintro a' nn rfl hz up)
 refine b7 ⟨_,hz,rfl⟩ (fun b e=>by (have zq0:_=_:=e;clear e;injection zq0 with zq0a;obtain rfl:=zq0a);exact aF _ hz rfl) ?_;refine Lw LQ (⟨_,hz,rfl⟩:s1.TypeIs (.ref a') "list") PySem.F.entry_list_pop (PySem.F.args_list_pop_1 _) (PySem.MeetsSeq.list_pop_last a' (us++[v]).toArray nn v (by simp) (by change KH;exact hlen)) ⟨hz,?_⟩
 (refine aw (up (fun xs=>xs.eraseIdxIfInBounds ((us++[v]).toArray.size - 1)) (by simp [Array.eraseIdxIfInBounds];rw [List.eraseIdx_append_of_length_le (br _)];simp)) ?_;rintro k1 k2)
 exact h v { s1 with heap:=s1.heap.update a' (Obj.mapSeq fun xs=>xs.eraseIdxIfInBounds ((us++[v]).toArray.size - 1)) } Z1 ρ1 m1 k1 hv (ex.trans k2) hg ho
theorem D9 {y :X} (h:lr y σ=some (w,σ')) (r:a9 W Z ρ s.heap c.L m σ) (hy:bg W Z ρ vy y):
  ∃ (us:List Value) (v:Value),kK W Z ρ σ σ' s.heap vy (v::us) us∧(v::us).length≤sizeLine∧bg W Z ρ v w:=by
 refine cps fun GG kk=>?_;unfold lr at h;induction y using X.casesOn with
 |v y=>exact a0 h
 |m k f=>exact a0 h
 |r k=>
  refine ah h fun cl σ₁ g1 g2=>?_
  (revert g2;refine dR g1 fun hcl=>?_;intro g2)
  (refine am hy ?_;(try clear hy);rintro p hp rfl)
  have CL:=r.at hp hcl;clear g1;induction cl using a8.casesOn with
  |lst l=>
   induction l using List.casesOn with
   |nil=>exact a0 g2
   |cons y l=>
    refine ah g2 fun u' σ₄ g7 g8=>?_
    (refine aw (bi g8) ?_;clear h g2 g8;rintro rfl rfl)
    rw [gD] at g7;(have za:=(af g7).1;have zb:=(af g7).2;clear g7;obtain rfl:=za;obtain rfl:=zb)
    (refine cv CL ?_;(try clear CL);rintro vs nn hz1 V1 V2 V3)
    induction vs using List.casesOn with
    |nil=>contradiction
    |cons v us=>
     exact kk (cP us v ⟨k,p,_,.lst l,nn,rfl,hp,hcl,rfl,hz1,⟨Kl (KJ _) V1,Nat.succ.inj V2,fun i u z a b=>V3 (i+1) u z a b⟩,rfl,rfl⟩ V1 (V3 0 v y rfl rfl))
  |_=>exact a0 g2
theorem Al (H:SE W d R.e) (M:aS R) (ok:aJ W c) (hc:al W.T c.fd.scope.names (n+1) (.pop0 ce) e=true) (hx:bh W.T R (.pop0 ce) σ=some (x,σ')) (o:ae σ') (r:a9 W Z ρ s.heap c.L m σ) (rm:aL A d) (h:EP W c Z ρ s σ.heap σ' x Q):wpAny (model W.prog W.w) A (eval e c.env) Q E s:=by
 refine i8 hc ?_;clear hc;intro g a pos hc;refine d9 hc fun c1 c2=>?_
 (refine cv (gp c1) ?_;clear hc c1;rintro ob ap rfl a1 a2 a3)
 refine ah hx fun y σ₁ g1 g2=>?_;have hcst:∃ k p,a=.Constant (.int 0) k p:=by
  clear a1;induction n using Nat.casesOn with
  |zero=>exact ac c2
  |succ n=>
   refine v9 c2 ?_;clear c2;intro k j p hk;induction k using Const.casesOn<;>first|exact ac hk|skip
   obtain rfl:=KU hk;exact gR _ _ rfl
 (refine d6 hcst ?_;(try clear hcst);clear c2;rintro kc pc rfl)
 refine lS LQ PySem.F.type_list_pop LO a2 a3 rfl (H c n ce ob σ σ₁ y Z ρ m s A _ E ok a1 g1 (ae.of tU g2 o) r rm fun vy s1 Z1 ρ1 m1 r1 hy ex hg ho=>?_)
 (refine be (D9 g2 r1 hy) ?_;rintro us v L hlen hv)
 (refine be (L.run r1) ?_;clear hy L;rintro a' nn rfl hz up)
 refine b7 ⟨_,hz,rfl⟩ (fun b e=>by (have zq0:_=_:=e;clear e;injection zq0 with zq0a;obtain rfl:=zq0a);exact aF _ hz rfl) (wpAny_Constant_int ?_);refine Lw (s:={ s1 with toks:=s1.toks+1 }) LQ (⟨_,hz,rfl⟩:({ s1 with toks:=s1.toks+1 }:Shared).TypeIs (.ref a') "list") PySem.F.entry_list_pop (PySem.F.args_list_pop_2 _ _) (PySem.MeetsSeq.list_pop_at a' (v::us).toArray nn 0 s1.toks 0 v M0 (seqIndex_of (k:=0) (by exact KZ _) (by (change KH;change Ko);simp)) (by rfl) (by change KH;exact hlen)) ⟨hz,?_⟩
 (refine aw (up (fun xs=>xs.eraseIdxIfInBounds 0) (by simp [Array.eraseIdxIfInBounds])) ?_;rintro k1 k2)
 exact h v { s1 with heap:=s1.heap.update a' (Obj.mapSeq fun xs=>xs.eraseIdxIfInBounds 0),toks:=s1.toks+1 } Z1 ρ1 m1 k1 hv (ex.trans k2) hg ho
set_option tactic.hygienic true in
theorem HM {y :X} (h:oN y z σ=some (w,σ')) (o:ae σ') (r:a9 W Z ρ s.heap c.L m σ) (hy:bg W Z ρ vy y) (hz:aa W Z vz z):
  w=.v .none∧∃ (vs us:List Value) (n2:Nat) (b:Addr),kK W Z ρ σ σ' s.heap vy vs (vs++us)∧vz=.ref b∧s.heap.get? b=some (bn us n2)∧vs.length+us.length≤lim:=by
 refine cps fun GG kk=>?_;induction y using X.casesOn<;>first|exact a0 h|skip
 rename_i k;induction z using V.casesOn<;>first|exact a0 h|skip
 rename_i l2;refine ah h fun cl σ₁ g1 g2=>?_
 (revert g2;refine dR g1 fun hcl=>?_;intro g2)
 (refine am hy ?_;(try clear hy);rintro p hp rfl)
 have CL:=r.at hp hcl;clear g1;induction cl using a8.casesOn with
 |lst l=>
  (refine jc (mR g2 o) ?_;rintro e1 ob e2 e3)
  (refine aN (oW rfl CL) ?_;rintro vs nn hz1 V)
  have V:bM W Z vs l:=V
  (refine cJ (gM hz) ?_;clear hz;rintro b us n2 rfl z2 U)
  have ob:vs.length+us.length≤lim:=by (change V.2.1;change U.2.1);exact ob
  exact kk (⟨e1,vs,us,n2,b,⟨k,p,_,.lst (l++l2),nn,rfl,hp,hcl,rfl,hz1,bM.cat V U (Kl ob dY),e2,e3⟩,rfl,r.zh _ _ z2,ob⟩)
 |_=>exact a0 g2
theorem AN (H:SE W d R.e) (M:aS R) (ok:aJ W c) (hc:al W.T c.fd.scope.names (n+1) (.ext ce cx) e=true) (hx:bh W.T R (.ext ce cx) σ=some (x,σ')) (o:ae σ') (r:a9 W Z ρ s.heap c.L m σ) (rm:aL A d) (h:EP W c Z ρ s σ.heap σ' x Q):wpAny (model W.prog W.w) A (eval e c.env) Q E s:=by
 refine i8 hc ?_;clear hc;intro g a pos hc;refine cq hc fun c1 c2 c3=>?_
 (refine cv (gp c1) ?_;clear hc c1;rintro ob ap rfl a1 a2 a3)
 refine ah hx fun y σ₁ g1 g2=>?_;refine ah g2 fun u σ₃ g5 g6=>?_
 (refine cv (wx g5) ?_;clear g5;clear g2;rintro k cl rfl hcl hil rfl)
 refine ah g6 fun z σ₂ g3 g4=>?_;have o2:=ae.of u9 g4 o;refine lS PySem.F.slot_list_extend PySem.F.type_list_extend LO a2 a3 c3 (H c n ce ob σ σ₃ (.r k) Z ρ m s A _ E ok a1 g1 (ae.of (bk M) g3 o2) r rm fun v s1 Z1 ρ1 m1 r1 hy ex hg ho=>?_)
 (refine am (id hy) ?_;rintro p hp rfl)
 (refine aN (oW hil (r1.at hp hcl)) ?_;rintro vs nn hz1 _)
 refine b7 ⟨_,hz1,rfl⟩ (fun b e=>by (have zq0:_=_:=e;clear e;injection zq0 with zq0a;obtain rfl:=zq0a);exact aF _ hz1 rfl) ?_;refine H c n cx a σ₃ σ₂ (.v z) Z1 ρ1 m1 s1 A _ E ok c2 (cn g3) o2 r1 rm fun vz s2 Z2 ρ2 m2 r2 hz ex2 hg2 ho2=>?_;clear hx g6;obtain ⟨rfl,vs',us,n2,b,L,rfl,hz2,hlt⟩:=HM g4 o r2 (hy.mono ex2.z ex2.r) hz
 (refine be (L.run r2) ?_;rintro a' nn' e1 hz' up)
 change e1;have hl:=dY;refine Lw PySem.F.slot_list_extend (⟨_,hz',rfl⟩:s2.TypeIs (.ref a') "list") PySem.F.entry_list_extend (PySem.F.args_list_extend_2 _ _) (PySem.AutoSeq1.list_extend_list_list_0 a' vs'.toArray nn' b us.toArray n2 ?_ (by simp;lia) (by simp;exact Kl M1 M0)) ⟨hz',hz2,?_⟩
 ·have:PySem.Builtin.List.listTooLong (vs'.toArray.size+us.toArray.size)=false:=by
   unfold PySem.Builtin.List.listTooLong;have:lim=1048576:=rfl;simp;exact Kl M1 M1
  change this;simp
 (refine aw (up (fun xs=>xs++us.toArray) (by simp)) ?_;rintro k1 k2)
 exact h .none { s2 with heap:=s2.heap.update a' (Obj.mapSeq fun xs=>xs++us.toArray) } Z2 ρ2 m2 k1 .none ((ex.trans ex2).trans k2) (hg2.trans hg) (ho2.trans ho)
end
structure JB (W:Wd) (c:Nat):Prop where
 get:plainGet W.K c "__class__"=true
 dict:hasDictIn W.K c=true
 cls:findIn W.K (.ref c) "__class__"=some (some (.builtin "object.__class__"))
 obj:mroIn W.K c (.type "object")=some true
structure fC (W:Wd):Prop extends Facts2 W where
 top:sG W
 sub:∀ c l C l',look W.T.subs c=some l→look W.T.subs C=some l'→(bq l C=true→isIn W.K (.ref c) C=true)∧(bq l C=false→kin_not W.K c C=true)
 icl:∀ c l,look W.T.subs c=some l→JB W c
 cget:specialIn W.K (.builtin "object.__class__") "__get__"=some (some (.builtin "getset_descriptor.__get__"))
 ctak:takesIn W.K (.builtin "object.__class__")=some true
section
variable {M:Model} {A:Around} {E:Value→Shared→Prop} {s:Shared} {Q:Value→Shared→Prop} {env:Env}
theorem Jb {id:String} {a b f:Expr} (hf:∃ y p,f=.Name y p) (hn:cB a=true) (hn2:cB b=true) (h0:∀ {Q:Value→Shared→Prop},Q (.builtin id) s→wpAny M A (eval f env) Q E s)
  (h:wpAny M A (eval a env) (fun v s₁=>wpAny M A (eval b env) (fun u s₂=>wpAny M A (call (.builtin id) [v,u]) Q E s₂) E s₁) E s):wpAny M A (eval (.Call f [a,b] [] pos) env) Q E s:=by
 (refine d6 hf ?_;(try clear hf);rintro y p rfl)
 refine LD (h0 (PyProof.Rows.callWith_builtin1 ?_ (dW hn) ?_))
 ·(change dW hn;change dW hn2)
  exact Lh (KV h (fun v s₁ h₁=>Lh (KV h₁ (fun u s₂ h₂=>Le h₂) fun _ _ e=>e)) fun _ _ e=>e)
 ·change dW hn2;rfl
end
section
variable {W:Wd} {d:Nat} {R:ao} {c:Cx} {n:Nat} {e:Expr} {σ σ':St} {x:X} {Z:ZM} {ρ:List (Addr×Addr)} {m:Str→Option Value} {s:Shared} {A:Around} {Q:Value→Shared→Prop} {E:Value→Shared→Prop}
noncomputable def gx (W:Wd) (a:Addr) (cc:Nat):Shared→Prop:=fun s=>W.K.In s.heap∧∃ d od,InstAt s.heap a (instObj cc d) cc (some od)
theorem Kg {a:Addr} (s:Shared) (tk:Nat) (h:gx W a cc s):gx W a cc { s with toks:=tk }:=h
set_option tactic.hygienic true in
theorem ym (F:fC W) {a:Addr} {C :Nat} {l :List Nat} (h1:look W.T.subs cc=some l) (h2:look W.T.subs C=some l'):Answers (gx W a cc) (.ref a) (.ref C) (bq l C):=by
 (refine aw (F.sub _ _ _ _ h1 h2) ?_;rintro y nn)
 have I:=F.icl _ _ h1;intro dep tk prog w A R s hs
 (refine aw hs ?_;(try clear hs);rintro ⟨X,d,od,IA⟩ hr)
 revert hr;refine d8 (bq l C) ?_ ?_;rotate_left
 ·intro q hr;refine isi_nested X (IA.type (M:=model prog w)) (y q) ?_;exact hr s.toks
 ·intro q hr;have k:=nn q;dsimp only [kin_not] at k;rw [KD,KD,KD] at k
  (refine aw k ?_;(try clear k);rintro ⟨⟨e0,e1⟩,e2⟩ e3)
  refine kin_nested I.get I.dict I.cls F.cget F.ctak I.obj X IA (looks_typeIn X (Kx.mp e2)) ?_ ?_ (looks_subIn X (Kx.mp e3)) (hr _)
  ·dsimp only [clsIn] at e1
   split at e1
   ·rename_i c' d' cd' sl' ho;intro A' Q' E' s' k q;dsimp only [isType,loadHead];exact Km (wpAny_loadPart (k _ _ (X _ _ ho)) (Kv q))
   ·exact ac e1
  ·exact Bool.eq_false_iff.mpr fun q=>KU e0 (Value.ref.inj (Kx.mp q))
set_option tactic.hygienic true in
theorem IM {h:Heap} (X:W.K.In h) (hd:hasDictIn W.K cc=true):∃ o cd,h.get? cc=some o∧o.data=.cls cd:=by
 (refine am (any_some hd) ?_;rintro cd hc _)
 unfold clsIn at hc
 split at hc
 ·rename_i ho;exact bI _ _ (X _ _ ho) rfl
 ·exact a0 hc
theorem Fs {a tp:Addr} {cs:List Value} {vs:List Bool} {l:List Nat} (F:fC W) (h1:look W.T.subs cc=some l) (hx:gx W a cc s) (htp:s.heap.get? tp=some (dI cs 0)) (ha:AnswersAll (gx W a cc) (.ref a) cs vs) (h:∀ tk,Q (.bool (vs.any id)) { s with toks:=tk }):
  wpAny (model W.prog W.w) A (call (.builtin "isinstance") [.ref a,.ref tp]) Q E s:=by
 refine call_isinstance (S:=fun _ R s=>(gx W a cc s∧s.heap.get? tp=some (dI cs 0))∧∀ tk,R (.ok (.ret (.bool (vs.any id)))) { s with toks:=tk }) (fun prog w A R s hs=>isinstance_outer ?_ (by intro q;contradiction)) ⟨⟨hx,htp⟩,h⟩
 (refine aw hs ?_;(try clear hs);rintro ⟨hx,htp⟩ hq)
 obtain ⟨X,d,od,IA⟩:=id hx
 (refine aN (IM X (F.icl _ _ h1).dict) ?_;rintro o cd ho hcd)
 have hne:(Value.ref cc==Value.ref tp)=false:=Bool.eq_false_iff.mpr fun q=>by
  have e:=Value.ref.inj (Kx.mp q);clear q;subst e;rw [htp] at ho;(replace ho:=Kj ho;obtain rfl:=ho);contradiction
 have L0:=IA.type (M:=model prog w);clear hx ho;obtain ⟨h,g,dd,t,os⟩:=s;have hT2:(⟨h,g,dd,t,os⟩:Shared).TypeIs (.ref tp) "tuple":=⟨_,htp,rfl⟩
 have f1:=PySem.F.isi_sub_tuple;unfold Builtin.«isinstance.nested»;refine Km (L0.at ?_);change Kp (fun q=>by rw [hne] at q;exact ac q)
 repeat (any_goals (first|assumption|wp_step))
 refine wpAny_arrayLoop ?_;simp only [Option.getD_some,List.toList_toArray];refine isinstance_items (dep:=0) (fun s tk hs=>hs) cs vs _ _ ha ⟨X,d,od,IA⟩ fun tk'=>?_;induction hv:vs.any id using Bool.casesOn with
 |true=>
  simp only [if_true]
  repeat (any_goals (first|assumption|wp_step))
  exact hv▸hq tk'
 |false=>
  simp only [Lz,if_false]
  repeat (any_goals (first|assumption|wp_step))
  exact hv▸hq tk'
theorem yk {l:List Nat}:∀ {cs:List (Nat×Nat)},(cs.map fun p=>bq l p.2).any id=iA l cs
 |[]=>rfl
 |p::r=>by
  dsimp only [iA]
  (change Lj;change List.any_cons)
  induction q:bq l p.2 using Bool.casesOn with
  |true=>rfl
  |false=>change yk;rfl
theorem uT (F:fC W) (ok:aJ W c) {p:Nat×Nat} (hc:(eu W.T c.fd.scope.names p.1 e&&gS W.T p.1 p.2&&(look W.T.subs p.2).isSome)=true) (r:a9 W Z ρ s.heap c.L m σ) (h:Q (.ref p.2) s):wpAny (model W.prog W.w) A (eval e c.env) Q E s:=by
 simp only [KD] at hc;refine oB F.toFacts2 ok hc.1.1 (rN hc.1.2) r fun u hu=>?_
 (have zq0:_=_:=aa.inv hu;clear hu;subst zq0)
 exact h
theorem vP (F:fC W) (ok:aJ W c) {pos:Pos}:∀ (cs:List (Nat×Nat)) (es:List Expr) (s:Shared) (Q:List Value→Shared→Prop),aY (fun p e=>eu W.T c.fd.scope.names p.1 e&&gS W.T p.1 p.2&&(look W.T.subs p.2).isSome) cs es=true→es.all cB=true→
  a9 W Z ρ s.heap c.L m σ→Q (cs.map fun p=>.ref p.2) s→wpAny (model W.prog W.w) A (spliced (backTo pos (starEach es c.env))) Q E s
 |[],es,s,Q,hc,hs,r,h=>by change ef hc;exact Le h
 |p::cs,es,s,Q,hc,hs,r,h=>by
  (refine be (cU hc) ?_;clear hc;rintro e es rfl h1 h2)
  rw [LJ,KD] at hs;change dW hs.1;exact Lh (uT F ok h1 r (vP F ok cs es s _ h2 hs.2 r h))
theorem tm {C:Nat} (h:(look W.T.subs C).isSome=true):∃ l,look W.T.subs C=some l:=Option.isSome_iff_exists.mp h
theorem yn (F:fC W) {a:Addr} {cc:Nat} {l:List Nat} (h1:look W.T.subs cc=some l) {sc:List (Str×NameKind)}:∀ {cs:List (Nat×Nat)} {es:List Expr},aY (fun p e=>eu W.T sc p.1 e&&gS W.T p.1 p.2&&(look W.T.subs p.2).isSome) cs es=true→AnswersAll (gx W a cc) (.ref a) (cs.map fun p=>.ref p.2) (cs.map fun p=>bq l p.2)
 |[],es,h=>trivial
 |p::cs,es,h=>by
  (refine be (cU h) ?_;clear h;rintro e es rfl h2 h3)
  simp only [KD] at h2
  (refine ay (tm h2.2) ?_;rintro l' hl')
  exact ⟨ym F h1 hl',yn F h1 h3⟩
theorem wD {h:Heap} {L:Addr} {v:Value} {fs:List (Nat×V)} (r:a9 W Z ρ s.heap L m σ) (hv:aa W Z v (.inst cc fs)):∃ a,v=.ref a∧gx W a cc s:=by
 refine cps fun GG kk=>?_;obtain ⟨_,_,_,vf,rfl,fo,h1,h2,h3,h4⟩:=aa.inv hv
 (refine am (j6 (r.zh _ _ h1) (h2.ns r.zh)) ?_;rintro od I _)
 refine kk (⟨_,rfl,r.kin,_,od,I⟩)
set_option tactic.hygienic true in
theorem AC {cs:List (Nat×Nat)} (F:fC W) (H:SE W d R.e) (M:aS R) (ok:aJ W c) (hc:al W.T c.fd.scope.names (n+1) (.isi ce cs) e=true) (hx:bh W.T R (.isi ce cs) σ=some (x,σ')) (o:ae σ') (r:a9 W Z ρ s.heap c.L m σ) (rm:aL A d) (h:EP W c Z ρ s σ.heap σ' x Q):wpAny (model W.prog W.w) A (eval e c.env) Q E s:=by
 refine DD hc ?_;clear hc;intro f a b pos hc;refine eF hc fun c1 c2 c3 c4 c5=>?_;refine ah hx fun v σ₁ g1 g2=>?_;have key:∃ cc fs l,v=.inst cc fs∧look W.T.subs cc=some l∧x=.v (.bool (iA l cs))∧σ'=σ₁:=by
  clear g1;induction v using V.casesOn<;>first|(exact a0 g2;done)|skip
  rename_i cc fs;dsimp only at g2;revert g2;refine aV (look W.T.subs cc) ?_ ?_
  ·intro g2;exact a0 g2
  ·intro l q2 g2;(revert o h;refine aR g2 ?_;intro o h);exact FQ cc fs l rfl q2 rfl rfl
 (refine s7 key ?_;(try clear key);rintro cc fs l rfl hl rfl rfl)
 refine Jb (p9 c1) c4 c5 (fun hq=>p7 F.toFacts2 ok (v:=.builtin "isinstance") (.head _) c1 r hq) ?_;refine H c n ce a σ σ' _ Z ρ m s A _ E ok c2 (cn g1) o r rm fun v s1 Z1 ρ1 m1 r1 hv ex hg ho=>?_
 (refine am (wD (h:=s1.heap) r1 hv) ?_;rintro av rfl hans)
 dsimp only [xP] at c3;revert c3;refine aV (pH b) ?_ ?_
 ·intro c3;dsimp only at c3
  split at c3
  ·rename_i p;refine uT F ok c3 r1 ?_;simp only [KD] at c3
   (refine ay (tm c3.2) ?_;rintro l' hl')
   have an:=ym F (a:=av) hl hl';refine call_isinstance (S:=fun _ R s=>gx W av cc s∧∀ tk,R (.ok (.ret (.bool (bq l p.2)))) { s with toks:=tk }) (fun prog w A R s hs=>isinstance_outer (an 0 0 prog w A R s hs) (by intro q;contradiction)) ⟨hans,fun tk=>?_⟩;have e:iA l [p]=bq l p.2:=by dsimp only [iA,iA];cases bq l p.2<;>rfl
   refine aT (e ..) ?_;exact h _ { s1 with toks:=tk } _ _ _ r1 .bool ex hg ho
  ·exact ac c3
 ·intro es q3 c3
  (refine d6 (yW q3) ?_;clear hc c5 q3;rintro k pp rfl)
  dsimp only at c3;refine cq c3 fun c6 c7 c8=>?_;have hlen:(cs.map fun p=>Value.ref p.2).length≤sizeLine:=by
   (change L4;change jg c6)
   have:=KB c8;change KL;exact Kl M1 (Kk _ _)
  refine wpAny_Tuple_spliced (vP F ok cs es s1 _ c6 c7 r1 ⟨hlen,?_⟩);have r2:=r1.grow (h':=s1.heap.push (dI (cs.map fun p=>.ref p.2) 0)) (fun b o e=>Heap.get?_push_of_some _ e) (by change Kz;exact KJ _);have ex2:aA Z1 ρ1 s1.heap c.L σ'.heap Z1 ρ1 (s1.heap.push (dI (cs.map fun p=>.ref p.2) 0)) σ'.heap:=aA.grow (fun b o e=>Heap.get?_push_of_some _ e) (by change Kz;exact KJ _);have hans2:gx W av cc { s1 with heap:=s1.heap.push (dI (cs.map fun p=>.ref p.2) 0) }:=(wD (h:=s1.heap) (s:={ s1 with heap:=s1.heap.push (dI (cs.map fun p=>.ref p.2) 0) }) r2 hv).elim fun a' ha'=>by
   (refine aw ha' ?_;(try clear ha');rintro e ha')
   (have zq0:_=_:=e;clear e;injection zq0 with zq0a;obtain rfl:=zq0a)
   exact ha'
  refine Fs F hl hans2 (Heap.get?_push_size _ rfl) (yn F hl c6) fun tk=>?_;change yk;exact h _ { s1 with heap:=s1.heap.push (dI (cs.map fun p=>.ref p.2) 0),toks:=tk } _ _ _ r2 .bool (ex.trans ex2) hg ho
end
theorem uJ:∀ {t s:List Nat},iN t s=(decide (t.length≤s.length)&&(s.take t.length==t))
 |[],s=>by induction s using List.casesOn<;>simp [iN]
 |a::t,[]=>by simp [iN]
 |a::t,b::s=>by
  dsimp only [iN];induction q:Nat.beq a b using Bool.casesOn with
  |true=>
   have:=cS.mp q;clear q;subst this;simp only;change uJ;simp
  |false=>
   have:=iz.mp q;have e:¬ b=a:=fun h=>this h.symm;simp [e]
theorem wW (a b:List Nat):aq a++aq b=aq (a++b):=l6 a b
theorem wg (sep:List Nat):∀ ss:List (List Nat),Txt.join (aq sep) (ss.map aq)=aq (dQ sep ss)
 |[]=>by
  refine (?_:PySem.Builtin.Str.glued _ _=_);change LW;rfl
 |[s]=>by
  refine (?_:PySem.Builtin.Str.glued _ _=_);change LW;rfl
 |s::t::r=>by
  have ih:=wg sep (t::r);have ih:PySem.Builtin.Str.glued (aq sep) ((t::r).map aq)=aq (dQ sep (t::r)):=ih;refine (?_:PySem.Builtin.Str.glued _ _=_);rw [LW] at ih ⊢;refine (?_:aq s++aq sep++Str.join (aq sep) ((t::r).map aq)=_);rw [ih,wW,wW];refine (?_:_=aq (s++(sep++dQ sep (t::r))))
  (change Kw;with_reducible rfl)
theorem wh:∀ ss:List (List Nat),dQ [] ss=ss.flatten
 |[]=>rfl
 |[s]=>by simp [dQ]
 |s::t::r=>by
  refine (?_:s++([]++dQ [] (t::r))=_);change wh (t::r);rfl
theorem we (sep:List Nat):∀ ss:List (List Nat),((ss.map aq).map (·.length)).sum+(ss.map aq).length * (aq sep).length=jt sep ss
 |[]=>by simp [jt]
 |s::r=>by
  have ih:=we sep r;dsimp only [jt];refine aT (ih ..) ?_;simp only [Lj,List.sum_cons,Ko,ct,Nat.succ_mul];lia
theorem Fo (h:jt sep ss≤lim):PySem.Builtin.Str.tooLong ((ss.map aq).toArray.foldl (fun a p=>a+p.length+(aq sep).length) 0)=false:=by
 (change PySem.StrLaws.joinTotal;change we)
 unfold PySem.Builtin.Str.tooLong;have:lim=1048576:=rfl;change KL;simp;exact Kl M1 (Kk _ _)
section
variable {W:Wd} {d:Nat} {R:ao} {c:Cx} {n:Nat} {e:Expr} {σ σ':St} {x:X} {Z:ZM} {ρ:List (Addr×Addr)} {m:Str→Option Value} {s:Shared} {A:Around} {Q:Value→Shared→Prop} {E:Value→Shared→Prop}
set_option tactic.hygienic true in
theorem Aj (H:SE W d R.e) (M:aS R) (ok:aJ W c) (hc:al W.T c.fd.scope.names (n+1) (.starts ce cx) e=true) (hx:bh W.T R (.starts ce cx) σ=some (x,σ')) (o:ae σ') (r:a9 W Z ρ s.heap c.L m σ) (rm:aL A d) (h:EP W c Z ρ s σ.heap σ' x Q):wpAny (model W.prog W.w) A (eval e c.env) Q E s:=by
 refine i8 hc ?_;clear hc;intro g a pos hc;refine cq hc fun c1 c2 c3=>?_
 (refine cv (gp c1) ?_;clear hc c1;rintro ob ap rfl a1 a2 a3)
 refine ah hx fun y σ₁ g1 g2=>?_;refine ah g2 fun z σ₂ g3 g4=>?_;clear g2;induction y using V.casesOn<;>first|(exact a0 g4;done)|skip
 induction z using V.casesOn<;>first|((first|exact a0 g4|(have za:=(af g4).1;have zb:=(af g4).2;clear g4;obtain rfl:=za;obtain rfl:=zb));done)|skip
 (revert o h;refine aR g4 ?_;intro o h)
 refine lS PySem.F.slot_str_startswith PySem.F.type_str_startswith PySem.F.plainAttrs_str a2 a3 c3 (H c n ce ob σ σ₁ _ Z ρ m s A _ E ok a1 (cn g1) (ae.of (bk M) g3 o) r rm fun v s1 Z1 ρ1 m1 r1 hy ex hg ho=>?_)
 (have zq0:Exists _:=aa.inv hy;clear hy;obtain ⟨_,zq0,_⟩:=zq0;subst zq0)
 refine b7 (L6 _ _ _) (fun _ e=>nomatch e) ?_;refine H c n cx a σ₁ _ _ Z1 ρ1 m1 s1 A _ E ok c2 (cn g3) o r1 rm fun vz s2 Z2 ρ2 m2 r2 hz ex2 hg2 ho2=>?_
 (have zq0:Exists _:=aa.inv hz;clear hz;obtain ⟨_,zq0,_⟩:=zq0;subst zq0)
 refine call_gives PySem.F.slot_str_startswith (L6 _ _ _) PySem.F.entry_str_startswith (PySem.F.args_str_startswith_2 _ _) (gives_str_startswith _ _ _ _) ?_;rename_i s' s'' t' _ t'' _;have e:(decide (0+(aq s'').length≤(aq s').length)&&PySem.Builtin.Str.subAt (aq s') (aq s'') 0)=iN s'' s':=by
  (change PySem.StrLaws.subAt_eq;change uJ;change ct;change ct;change eh;change eh);simp
 refine (?_:Q (.bool (decide (0+(aq s'').length≤(aq s').length)&&PySem.Builtin.Str.subAt (aq s') (aq s'') 0)) s2);change e;exact h _ s2 Z2 ρ2 m2 r2 .bool (ex.trans ex2) (hg2.trans hg) (ho2.trans ho)
end
theorem nf {W:Wd} {Z:ZM}:∀ {vs:List Value} {l:List V} {ss:List (List Nat)},vs.length=l.length→(∀ (i:Nat) (v:Value) (x:V),vs[i]?=some v→l[i]?=some x→aa W Z v x)→fQ l=some ss→∃ ps:List (Str×Tok),vs=strValues ps∧ps.map (·.1)=ss.map aq
 |[],[],ss,_,_,h=>by (replace h:=Kj h;obtain rfl:=h);exact aF [] rfl rfl
 |[],_::_,_,h,_,_=>by contradiction
 |_::_,[],_,h,_,_=>by contradiction
 |v::vs,y::l,ss,hl,hr,h=>by
  refine cps fun GG kk=>?_;dsimp only [fQ] at h;induction q:cg y using Option.casesOn with
  |none=>rw [q] at h;exact a0 h
  |some t=>
   induction q2:fQ l using Option.casesOn with
   |none=>rw [q,q2] at h;exact a0 h
   |some r=>
    rw [q,q2] at h
    (replace h:=Kj h;obtain rfl:=h)
    (refine am (nf (vs:=vs) (l:=l) (by simpa using hl) (fun i v x a b=>hr (i+1) v x a b) q2) ?_;rintro ps e1 e2)
    (refine am (gB (hr 0 v y rfl rfl) q) ?_;rintro u e3 _)
    exact kk (aF ((aq t,u)::ps) (by (change e3;change e1);rfl) (by simp [e2]))
theorem zR (l:List (List Nat)):fQ (l.map .sstr)=some l:=by
 induction l with
 |nil=>rfl
 |cons a r ih=>refine (?_:(match cg (.sstr a),fQ (r.map .sstr) with|some s,some l=>some (s::l)|_,_=>none)=_);change ih;rfl
section
variable {W:Wd} {d:Nat} {R:ao} {c:Cx} {n:Nat} {e:Expr} {σ σ':St} {x:X} {Z:ZM} {ρ:List (Addr×Addr)} {m:Str→Option Value} {s:Shared} {A:Around} {Q:Value→Shared→Prop} {E:Value→Shared→Prop}
theorem IQ {t:Tok} {a:Addr} {vs:List Value} {k:Nat} (hz:s.heap.get? a=some (bn vs k)) (hv:∃ ps:List (Str×Tok),vs=strValues ps∧ps.map (·.1)=ss.map aq) (hj:jt sep ss≤lim)
  (h:∀ t' k,(dQ sep ss).length≤sizeLine→Q (.str (aq (dQ sep ss)) t') { s with toks:=k }):wpAny (model W.prog W.w) A (call (.builtin "str.join") [.str (aq sep) t,.ref a]) Q E s:=by
 (refine am hv ?_;(try clear hv);rintro ps rfl e)
 have hf:=Fo hj;rw [← e] at hf;have jt':=wg sep ss;rw [← e] at jt';have hlen:=joinFit_length hf;rw [jt',ct] at hlen;refine Lw PySem.F.slot_str_join (L6 _ _ _) PySem.F.entry_str_join (PySem.F.args_str_join_2 _ _) (meets_str_join_list (aq sep) t a ps hf) ⟨⟨_,hz,rfl,_,rfl⟩,post_join ps ⟨by (change jt';change ct);exact hlen,fun t' k=>?_⟩⟩;change jt';exact h t' k hlen
set_option tactic.hygienic true in
theorem Fp {y :X} (h:jS sep y σ=some (w,σ')) (o:ae σ') (r:a9 W Z ρ s.heap c.L m σ) (hy:bg W Z ρ vy y):
  ∃ (a:Addr) (vs:List Value) (k:Nat) (ss:List (List Nat)),vy=.ref a∧s.heap.get? a=some (bn vs k)∧(∃ ps:List (Str×Tok),vs=strValues ps∧ps.map (·.1)=ss.map aq)∧jt sep ss≤lim∧(∃ l,w=.v (fH l (dQ sep ss)))∧σ'.heap=σ.heap∧σ'.loc=σ.loc:=by
 refine cps fun GG kk=>?_;unfold jS at h;induction y using X.casesOn with
 |m k f=>exact a0 h
 |v y=>
  induction y using V.casesOn<;>first|(exact a0 h;done)|skip
  rename_i l;refine ah h fun ss σ₁ g1 g2=>?_
  (revert g2;refine dZ g1 fun e1=>?_;intro g2)
  refine ah g2 fun u σ₂ g3 g4=>?_;have g3:=eQ g3
  (refine aw (bi g4) ?_;clear g2 h g4;rintro rfl rfl)
  have ob:=o (jt sep ss≤lim) (by change g3;exact .head _)
  (refine dp (gM hy) ?_;clear hy;rintro a vs k rfl z1 V1 V2 V3)
  exact kk (⟨a,vs,k,ss,rfl,r.zh _ _ z1,nf V2 V3 e1,ob,⟨_,rfl⟩,by (change g3;with_reducible rfl),by (change g3;with_reducible rfl)⟩)
 |r k=>
  refine ah h fun cl σ₁ g1 g2=>?_
  (refine aw (so g1) ?_;rintro hcl rfl)
  (refine am hy ?_;(try clear hy);rintro p hp rfl)
  have CL:=r.at hp hcl;clear g1 hcl;induction cl using a8.casesOn with
  |«strs» l=>
   have key:sep=[]∧(a7 (bE (jt [] l.reverse≤lim)) fun _=>ak (X.v (.sstr l.reverse.flatten))) σ₁=some (w,σ'):=by
    clear h;clear kk;induction sep using List.casesOn with
    |nil=>exact ⟨rfl,g2⟩
    |cons=>exact a0 g2
   (refine aw key ?_;(try clear key);clear h g2;rintro rfl g9)
   refine ah g9 fun u σ₂ g3 g4=>?_;have g3:=eQ g3
   (refine aw (bi g4) ?_;clear g9 g4;rintro rfl rfl)
   have ob:=o (jt [] l.reverse≤lim) (by change g3;exact .head _)
   (refine cv CL ?_;(try clear CL);rintro vs nn hz1 V1 V2 V3)
   exact kk (⟨p.1,vs,nn,l.reverse,rfl,hz1,nf V2 V3 (zR _),ob,⟨false,by change wh;rfl⟩,by (change g3;with_reducible rfl),by (change g3;with_reducible rfl)⟩)
  |lst l=>
   refine ah g2 fun ss σ₁ g5 g6=>?_
   (refine aw (dO g5) ?_;clear r g5;clear h g2;rintro e1 rfl)
   refine ah g6 fun u σ₂ g3 g4=>?_;have g3:=eQ g3
   (refine aw (bi g4) ?_;clear g6 g4;rintro rfl rfl)
   have ob:=o (jt sep ss≤lim) (by change g3;exact .head _)
   (refine cv CL ?_;(try clear CL);rintro vs nn hz1 V1 V2 V3)
   exact kk (⟨p.1,vs,nn,ss,rfl,hz1,nf V2 V3 e1,ob,⟨_,rfl⟩,by (change g3;with_reducible rfl),by (change g3;with_reducible rfl)⟩)
  |_=>exact a0 g2
set_option tactic.hygienic true in
theorem AB (H:SE W d R.e) (M:aS R) (ok:aJ W c) (hc:al W.T c.fd.scope.names (n+1) (.join ce cx) e=true) (hx:bh W.T R (.join ce cx) σ=some (x,σ')) (o:ae σ') (r:a9 W Z ρ s.heap c.L m σ) (rm:aL A d) (h:EP W c Z ρ s σ.heap σ' x Q):wpAny (model W.prog W.w) A (eval e c.env) Q E s:=by
 refine i8 hc ?_;clear hc;intro g a pos hc;refine cq hc fun c1 c2 c3=>?_
 (refine cv (gp c1) ?_;clear hc c1;rintro ob ap rfl a1 a2 a3)
 refine ah hx fun y σ₁ g1 g2=>?_;refine ah g2 fun z σ₂ g3 g4=>?_;clear g2;induction y using V.casesOn<;>first|(exact a0 g4;done)|skip
 rename_i sep;have o2:=ae.of u5 g4 o;refine lS PySem.F.slot_str_join PySem.F.type_str_join PySem.F.plainAttrs_str a2 a3 c3 (H c n ce ob σ σ₁ _ Z ρ m s A _ E ok a1 (cn g1) (ae.of (M.e _) g3 o2) r rm fun v s1 Z1 ρ1 m1 r1 hy ex hg ho=>?_)
 (have zq0:Exists _:=aa.inv hy;clear hy;obtain ⟨_,zq0,_⟩:=zq0;subst zq0)
 refine b7 (L6 _ _ _) (fun _ e=>nomatch e) ?_;refine H c n cx a σ₁ σ₂ z Z1 ρ1 m1 s1 A _ E ok c2 g3 o2 r1 rm fun vz s2 Z2 ρ2 m2 r2 hz ex2 hg2 ho2=>?_;clear hx;obtain ⟨b,vs,k,ss,rfl,hz1,hps,hj,⟨l,rfl⟩,e2,e3⟩:=Fp (c:=c) g4 o r2 hz;refine IQ hz1 hps hj fun t' k hlen=>?_;exact h _ { s2 with toks:=k } Z2 ρ2 m2 (r2.same e2 e3) (nV hlen) ((ex.trans ex2).trans (e7 rfl e2)) (hg2.trans hg) (ho2.trans ho)
theorem En {b:Addr} {its:Array Value} {n:Nat} {T:Str} {X:Str} {t:Tok} (hb:s.heap.get? b=some ({ cls:=.type "tuple",data:=.seq its n }:Obj))
  (hm:Meets (PySem.Builtin.«str.__mod__» ⟨[.str X t,.ref b],[]⟩) (fun _ R s=>IsTup s.heap b its∧∀ t' k,R (.ok (.ret (.str T t'))) { s with toks:=k }))
  (h:∀ t' k,Q (.str T t') { s with toks:=k }):wpAny (model W.prog W.w) A (binaryOp .Mod (.str X t) (.ref b)) Q E s:=by
 have ht:IsTup s.heap b its:=⟨_,hb,rfl,_,rfl⟩
 exact KPt.bin_left (T:="str") (U:="tuple") (op:=.Mod) M0 (L6 s X t) ⟨_,hb,rfl⟩ PySem.F.fills_str_mod KPt.fills_tuple LX
  (Lw LX (L6 s X t) PySem.F.entry_str_mod (PySem.F.args_str_mod_2 _ _) hm ⟨ht,fun t' k=>⟨(fun e=>nomatch e),h t' k⟩⟩)
theorem Gz {t t1 t2:Tok} {b:Addr}:Meets (PySem.Builtin.«str.__mod__» ⟨[.str ⟨#[37,115,37,115]⟩ t,.ref b],[]⟩) (fun _ R s=>IsTup s.heap b #[.str ⟨#[33]⟩ t1,.str ⟨#[104]⟩ t2]∧∀ t' k,R (.ok (.ret (.str ⟨#[33,104]⟩ t'))) { s with toks:=k }):=by
 apply KPt.meets_tup;intro prog w A s Q E kptH hk;obtain ⟨kptO,kptG,kptC,kptN,kptD⟩:=kptH;refine iE (KPt.entry_is_r ..) ?_;refine Km (wpAny_isInstance (T:="tuple") ⟨kptO,kptG,kptC⟩ KPt.sub_tt (Km (KPt.asStr_ref kptG kptD (Km (KPt.fills_ref ⟨kptO,kptG,kptC⟩ fun _=>wpAny_ite (KPc.ite_yes rfl (Km (wpAny_seqItems kptG kptD (iE (m':=mkStr ⟨#[33,104]⟩ >>= fun v=>pure (.done (.ret v))) () (Km (wpAny_mkStr (Kv (hk _ _)) (by decide+kernel))))))))))))
theorem Gy {t u:Tok}:Meets (PySem.Builtin.«str.__mod__» ⟨[.str ⟨#[33,60,37,115,62]⟩ t,.str ⟨#[122]⟩ u],[]⟩) (fun _ R s=>∀ t' k,R (.ok (.ret (.str ⟨#[33,60,122,62]⟩ t'))) { s with toks:=k }):=by
 apply KPc.meets_of;intro prog w A s Q E hk;refine iE (KPc.entry_is_s ..) ?_;refine Km (wpAny_isInstance (L6 _ _ _) F.sub_str_tuple (Km (wpAny_of_eq (a:=some _) rfl (Km (KPc.wp_fills_str fun _=>?_)))))
 kpc_if
 refine Km (Kv (iE (m':=mkStr ⟨#[33,60,122,62]⟩ >>= fun v=>pure (.done (.ret v))) () (Km (wpAny_mkStr (Kv (hk _ _)) (by decide+kernel)))))
end
section
variable {W:Wd} {d:Nat} {R:ao} {c:Cx} {n:Nat} {e:Expr} {σ σ':St} {x:X} {Z:ZM} {ρ:List (Addr×Addr)} {m:Str→Option Value} {s:Shared} {A:Around} {Q:Value→Shared→Prop} {E:Value→Shared→Prop}
theorem iX {α:Type}:∀ {l:List α},l.length=2→∃ a b,l=[a,b]
 |[a,b],_=>⟨a,b,rfl⟩
theorem JO {l:List Nat} {k:Array Nat} (h:k=l.toArray):aq l=⟨k⟩:=by subst h;rfl
set_option tactic.hygienic true in
theorem z9 {l:List V} {r:List Nat} (h:two1 l=some r):l=[.str [33],.str [104]]∧r=[33,104]:=by
 induction l using List.casesOn with
 |nil=>contradiction
 |cons a l=>
  induction a using V.casesOn<;>first|contradiction|skip
  induction l using List.casesOn with
  |nil=>contradiction
  |cons b t=>
   induction b using V.casesOn<;>first|contradiction|skip
   rename_i s u;have h:(match (generalizing:=false) t,bV s [33],bV u [104] with|[],true,true=>some [33,104]|_,_,_=>none)=some r:=h;induction t using List.casesOn<;>first|contradiction|skip
   cases q:bV s [33]<;>rw [q] at h<;>first|contradiction|skip
   cases q2:bV u [104]<;>rw [q2] at h<;>first|contradiction|skip
   (replace h:=Kj h;obtain rfl:=h)
   (change ft.mp q;change ft.mp q2)
   exact ⟨rfl,rfl⟩
set_option tactic.hygienic true in
theorem Gx {p:List Nat} {r:List Nat} (h:rU p y=some r):(p=[37,115,37,115]∧y=.tup [.str [33],.str [104]]∧r=[33,104])∨(p=[33,60,37,115,62]∧y=.str [122]∧r=[33,60,122,62]):=by
 unfold rU at h;induction q:bV p [37,115,37,115] using Bool.casesOn with
 |true=>
  rw [q] at h;induction y using V.casesOn<;>first|contradiction|skip
  (refine aw (z9 h) ?_;rintro e1 e2)
  exact .inl ⟨ft.mp q,Kq _ e1,e2⟩
 |false=>
  rw [q] at h;dsimp only at h;cases q2:bV p [33,60,37,115,62]<;>rw [q2] at h<;>first|contradiction|skip
  induction y using V.casesOn<;>first|contradiction|skip
  rename_i s;have h:(match (generalizing:=false) bV s [122] with|true=>some [33,60,122,62]|false=>none)=some r:=h;cases q3:bV s [122]<;>rw [q3] at h<;>first|contradiction|skip
  (replace h:=Kj h;obtain rfl:=h)
  exact .inr ⟨ft.mp q2,Kq _ (ft.mp q3),rfl⟩
theorem AL {l :CE} (H:SE W d R.e) (M:aS R) (ok:aJ W c) (hc:al W.T c.fd.scope.names (n+1) (.fmt l re) e=true) (hx:bh W.T R (.fmt l re) σ=some (x,σ')) (o:ae σ') (r:a9 W Z ρ s.heap c.L m σ) (rm:aL A d) (h:EP W c Z ρ s σ.heap σ' x Q):wpAny (model W.prog W.w) A (eval e c.env) Q E s:=by
 refine r8 hc ?_;clear hc;intro l' op' r' p hc;refine cq hc fun eo c2 c3=>?_;clear hc;obtain rfl:=KU eo;refine ah hx fun a σ₁ g1 g2=>?_;refine ah g2 fun b σ₂ g3 g4=>?_;clear g2;induction a using V.casesOn<;>first|(exact a0 g4;done)|skip
 refine ah g4 fun res σ₃ g5 g6=>?_
 (revert g6;refine dZ g5 fun e5=>?_;intro g6)
 (revert o h;refine aR g6 ?_;intro o h)
 refine wpAny_BinOp (H c n l l' σ σ₁ _ Z ρ m s A _ E ok c2 (cn g1) (ae.of (bk M) g3 o) r rm fun va s1 Z1 ρ1 m1 r1 ha ex hg ho=>?_);refine H c n re _ σ₁ _ _ Z1 ρ1 m1 s1 A _ E ok c3 (cn g3) o r1 rm fun vb s2 Z2 ρ2 m2 r2 hb ex2 hg2 ho2=>?_;clear g1 hx g3 g5 g6 g4;rcases Gx e5 with ⟨rfl,rfl,rfl⟩|⟨rfl,rfl,rfl⟩
 ·have ha:aa W Z1 va (.str [37,115,37,115]):=ha
  (have zq0:Exists _:=aa.inv ha;clear ha;obtain ⟨_,zq0,_⟩:=zq0;clear ha;subst zq0)
  (refine dp (mZ hb) ?_;clear hb;rintro ab vs k rfl z1 V1 V2 V3)
  (refine d6 (iX (show vs.length=2 from V2)) ?_;rintro v1 v2 rfl)
  have e1:aa W Z2 v1 (.str [33]):=V3 0 v1 _ rfl rfl;have e2:aa W Z2 v2 (.str [104]):=V3 1 v2 _ rfl rfl
  (have zq0:Exists _:=aa.inv e1;clear e1;obtain ⟨_,zq0,_⟩:=zq0;clear V1 V2 V3;subst zq0);(have zq0:Exists _:=aa.inv e2;clear e2;obtain ⟨_,zq0,_⟩:=zq0;subst zq0)
  exact En (r2.zh _ _ z1) Gz fun t' k=>h _ { s2 with toks:=k } _ _ _ r2 (show aa W Z2 _ (.str [33,104]) from .str (by refine (?_:2≤_);change KL;decide)) (ex.trans ex2) (hg2.trans hg) (ho2.trans ho)
 ·have ha:aa W Z1 va (.str [33,60,37,115,62]):=ha;have hb:aa W Z2 vb (.str [122]):=hb
  (have zq0:Exists _:=aa.inv ha;clear ha;obtain ⟨_,zq0,_⟩:=zq0;clear ha;subst zq0);(have zq0:Exists _:=aa.inv hb;clear hb;obtain ⟨_,zq0,_⟩:=zq0;clear hb;subst zq0)
  exact PySem.binaryOp_meets (T:="str") (op:=.Mod) (L6 s2 _ _) (L6 s2 _ _) PySem.F.fills_str_mod LX PySem.F.entry_str_mod (PySem.F.args_str_mod_2 _ _) Gy (fun t' k=>⟨(fun e=>nomatch e),h _ { s2 with toks:=k } _ _ _ r2 (show aa W Z2 _ (.str [33,60,122,62]) from .str (by refine (?_:4≤_);change KL;decide)) (ex.trans ex2) (hg2.trans hg) (ho2.trans ho)⟩)
theorem a9.addAt {h h':Heap} {L:Addr} {a:Addr} {o:Obj} (r:a9 W Z ρ h L m σ) (hk:∀ b o,h.get? b=some o→h'.get? b=some o) (hs:h.objs.size≤h'.objs.size) (ha:h'.get? a=some o) (hge:h.objs.size≤a):
  a9 W (Mine.addZ Z a o) ρ h' L m σ∧aA Z ρ h L σ.heap (Mine.addZ Z a o) ρ h' σ.heap∧Z a=none:=by
 have hn:Z a=none:=by
  induction q:Z a using Option.casesOn with
  |none=>rfl
  |some o=>exact absurd (KO (r.zh _ _ q)) (KY.mpr hge)
 have hz:=iB (o:=o) hn;have R':=r.grow hk hs;refine b7 ⟨fun a x e=>hz _ _ (r.kz a x e),fun b x e=>?_,?_,R'.ns,fun n x e=>?_,r.len,fun k p c a b=>(R'.cell k p c a b).stay hz ⟨[],(Kt _).symm⟩ fun _ _ _ e=>e,fun b q=>?_,r.apart,r.two⟩ ⟨hz,⟨[],(Kt _).symm⟩,hs,fun b x e _ _=>hk b x e,fun _ e=>.inl e,fun b q=>?_⟩ hn
 ·unfold Mine.addZ at e
  by_cases q:b=a
  ·clear hge hn hz;subst q;rw [Ks rfl] at e;(replace e:=Kj e;obtain rfl:=e);exact ha
  ·rw [Kp q] at e;exact R'.zh b x e
 ·unfold Mine.addZ;change Kp (KW (KI r.ns.lt hge));exact r.zL
 ·(refine am (r.loc n x e) ?_;rintro v a b)
  exact aF v a (b.mono hz ⟨[],(Kt _).symm⟩)
 ·(refine bb (r.own b q) ?_;rintro x y z)
  refine b7 ?_ y ((R'.own b q).2.2);unfold Mine.addZ;change Kp (KW (KI z hge));exact x
 ·unfold Mine.addZ at q
  by_cases e:b=a
  ·clear ha hn hz q;subst e;exact .inr (.inr hge)
  ·rw [Kp e] at q;exact .inl q
theorem z7 {k0 k1:Str} {ss:List Str} (hp:ss.Perm [k0,k1]) (hs:sortedS ss=true) (hlt:Spec.ltCps k0.cps.toList k1.cps.toList=true):ss=[k0,k1]:=by
 (refine d6 (iX (l:=ss) hp.length_eq) ?_;rintro a b rfl)
 have ha:a∈[k0,k1]:=hp.mem_iff.mp (by exact .head _);have hb:b∈[k0,k1]:=hp.mem_iff.mp (by exact .tail _ (.head _));have h0:k0∈[a,b]:=hp.mem_iff.mpr (by exact .head _);have h1:k1∈[a,b]:=hp.mem_iff.mpr (by exact .tail _ (.head _));simp at ha hb h0 h1;have hne:k0≠k1:=fun e=>by clear hp ha hb h1;subst e;rw [ltCps_eq] at hlt;exact absurd (KU hlt) (List.lt_irrefl _)
 clear hp hb;rcases ha with rfl|rfl
 ·clear hs h0;rcases h1 with e|rfl
  ·exact absurd e.symm hne
  ·rfl
 ·clear h1;rcases h0 with e|rfl
  ·exact absurd e hne
  ·exfalso;have hs:(!Spec.ltCps k0.cps.toList a.cps.toList&&risingS k0 [])=true:=hs;rw [hlt] at hs;exact ac hs
theorem zS {vs:List Value} {a b:Str} (h:StrsAre vs [a,b]):∃ t u,vs=[.str a t,.str b u]:=by
 cases h with|cons _ t h=>cases h with|cons _ u h=>cases h;exact gR t u rfl
theorem IP {v dd:Addr} {a b:List Nat} {u0 u1:Value} (hh:A.handled=none) (hv:KdlKeysView s.heap v dd) (hd:s.heap.DictOf (strKind W.prog W.w) dd [(aq a,u0),(aq b,u1)]) (hlt:dk a b=true) (hlast:s.heap.objs.size≤v+1)
  (h:∀ h' tk B n t u,(∀ b o,s.heap.get? b=some o→h'.get? b=some o)→s.heap.objs.size≤B→s.heap.objs.size≤h'.objs.size→h'.get? B=some (bn [.str (aq a) t,.str (aq b) u] n)→Q (.ref B) { s with heap:=h',toks:=tk }):
  wpAny (model W.prog W.w) A (call (.builtin "sorted") [.ref v]) Q E s:=by
 (refine ay hd.dictAt ?_;(try clear hd.dictAt);rintro ep hat)
 refine Calls.call_function_entry kind_sorted plain_sorted entry_sorted (args_sorted1 _) ?_;unfold Builtin.«sorted»;refine Km (Kv ?_);refine Km (kdu_collect (A:=A.in1) (kdl_keys (knd:=strKind W.prog W.w) (kvs:=[(aq a,u0),(aq b,u1)]) (ep:=ep)) hh ⟨hv,hat⟩ (by refine (?_:2≤_);change KL;decide) fun h' tk acc hk hacc=>?_)
 (refine aw hacc ?_;(try clear hacc);rintro hsz hitem)
 have hS:StrsAre acc.toList [aq a,aq b]:=by
  have hl:acc.toList.length=2:=by change Array.length_toList;exact hsz
  (refine d6 (iX hl) ?_;rintro v0 v1 hq)
  change hq
  ·skip;have i0:=hitem 0 v0 (by (refine aT (Array.getElem?_toList ..) ?_;change hq);rfl);have i1:=hitem 1 v1 (by (refine aT (Array.getElem?_toList ..) ?_;change hq);rfl)
   (refine aN i0 ?_;(try clear i0);rintro k x e hk)
   (have za:=(af e).1;have zb:=(af e).2;clear e;obtain rfl:=za;obtain rfl:=zb)
   (refine aN i1 ?_;(try clear i1);rintro k x e hk')
   (have za:=(af e).1;have zb:=(af e).2;clear e;obtain rfl:=za;obtain rfl:=zb)
   (refine ay (LY hk) ?_;clear hk;clear hq;rintro t rfl)
   (refine ay (LY hk') ?_;clear hk';rintro t' rfl)
   exact .cons _ t (.cons _ t' .nil)
 have h2:acc.toList.length=2:=by change Array.length_toList;exact hsz
 refine Km (wpAny_newList ?_ (by (change h2;change KL);decide));have hoL:(h'.push (seqObj "list" acc.toList.toArray 0)).get? h'.objs.size=some (seqObj "list" acc.toList.toArray 0):=Heap.get?_push_size _ rfl;have hs1:s.heap.objs.size≤h'.objs.size:=by
  (refine am hv ?_;(try clear hv);rintro ov hov _)
  exact Kl hlast (KO (hk v ov hov))
 refine Km (L1 (wpAny_call_entry (s:={ s with heap:=h'.push (seqObj "list" acc.toList.toArray 0),toks:=tk }) slot_list_sort ⟨_,hoL,rfl⟩ entry_list_sort (list_sort_treeK strKind_oneLt hoL hS.keysOf (fun v₁ v₂ rest e=>keyKind_strs (by refine aT (e ..) ?_;exact hS)) (by change h2;decide) fun st' a1 a2=>⟨_,rfl,?_⟩) (args_list_sort _)))
 (refine dy (sorted_out_str hS a1 a2) ?_;rintro ss' b1 b2 b3)
 have e:=z7 b2 b3 (by (change ltCps_eq;change eh;change eh;change lV);exact hlt);clear b2 b3;subst e
 (refine d6 (zS b1) ?_;rintro t u hout)
 (refine ay (sortedHeap_at (out:=(arrOf st').map (·.2)) hoL) ?_;rintro en hen)
 refine Kv ⟨_,rfl,h _ tk h'.objs.size en t u (fun b o e=>?_) hs1 ?_ ?_⟩
 ·have hb:=KO (hk b o e);change sortedHeap_old (KW hb) (by refine aU (size_push' ..) ?_;exact Nat.lt_succ_of_lt hb);exact Heap.get?_push_of_some _ (hk b o e)
 ·dsimp only [sortedHeap]
  (change LR;change size_push';change size_push';change LR;change size_push')
  lia
 ·change hen;have:(arrOf st').map (·.2)=[Value.str (aq a) t,Value.str (aq b) u].toArray:=by (refine aT (hout ..) ?_;with_reducible rfl)
  (change this;with_reducible rfl)
theorem xy {v:Value} {l:List (List Nat×V)} (h:aa W Z v (.dct l)):∃ a es nn,v=.ref a∧Z a=some (je es nn)∧(a==sysModules)=false∧(l.map (·.1)).Nodup∧l.length≤1000∧es.length=l.length∧
  (∀ (i:Nat) (e:DictEntry) (p:List Nat×V),es[i]?=some e→l[i]?=some p→(∃ t,e.key=.str (aq p.1) t)∧e.hash=hashStr W.w (aq p.1)∧p.1.length≤sizeLine)∧(∀ (i:Nat) (e:DictEntry) (p:List Nat×V),es[i]?=some e→l[i]?=some p→aa W Z e.val p.2):=by
 refine cps fun GG kk=>?_;obtain ⟨a,n,es,e,hz,ha,nd,hb,hl,hk,hv⟩:=h.inv;exact kk (⟨a,es,n,e,hz,ha,nd,hb,hl,hk,hv⟩)
theorem Ir {v:Value} {p q:List Nat×V} (r:a9 W Z ρ s.heap c.L m σ) (h:aa W Z v (.dct [p,q])):∃ a u0 u1,v=.ref a∧(a==sysModules)=false∧s.heap.DictOf (strKind W.prog W.w) a [(aq p.1,u0),(aq q.1,u1)]∧p.1.length≤sizeLine∧q.1.length≤sizeLine:=by
 refine cps fun GG kk=>?_;obtain ⟨a,es,nn,rfl,hz,ha,nd,hb,hl,hk,hv⟩:=xy h
 (refine dy (oS (r.zh _ _ hz) nd hl hk) ?_;rintro kvs k1 k2 k3)
 have hkl:=Kq List.length k2;simp only [L4] at hkl
 (refine d6 (iX (show kvs.length=2 from hkl)) ?_;clear hkl;clear k3;rintro ⟨x0,u0⟩ ⟨x1,u1⟩ rfl)
 (refine d6 (iX (show es.length=2 from hl)) ?_;clear hz hl hv;rintro e0 e1 rfl)
 have h0:x0=aq p.1:=(Kr k2).1;have h1:x1=aq q.1:=(Kr (Kr k2).2).1;exact kk (jW _ u0 u1 rfl ha (h0▸h1▸k1) ((hk 0 e0 p rfl rfl).2.2) ((hk 1 e1 q rfl rfl).2.2))
theorem uQ {knd:KeyKind W.prog W.w Str}:∀ {es:List DictEntry} {kvs:List (Str×Value)},Pairs knd es kvs→∀ (i:Nat) (e:DictEntry) (kv:Str×Value),es[i]?=some e→kvs[i]?=some kv→knd.is kv.1 e.key=true∧e.val=kv.2:=fun {es kvs} h=>by
 induction h with
 |nil=>intro i e kv a;simp at a
 |cons h1 h2 h3 ih=>
  intro i e kv a b;induction i using Nat.casesOn with
  |zero=>
   obtain rfl:=Kj a;obtain rfl:=Kj b;exact ⟨h1,h2⟩
  |succ i=>exact ih i e kv a b
theorem JR {knd:KeyKind W.prog W.w Str} {es:List DictEntry} {kvs:List (Str×Value)} (h:Pairs knd es kvs):es.length=kvs.length:=h.length
theorem Az (F:fC W) (H:SE W d R.e) (M:aS R) (ok:aJ W c) (hc:al W.T c.fd.scope.names (n+1) (.keysS ce) e=true) (hx:bh W.T R (.keysS ce) σ=some (x,σ')) (o:ae σ') (r:a9 W Z ρ s.heap c.L m σ) (rm:aL A d) (h:EP W c Z ρ s σ.heap σ' x Q):wpAny (model W.prog W.w) A (eval e c.env) Q E s:=by
 refine i8 hc ?_;clear hc;intro f a pos hc;refine nP hc ?_;clear hc;intro g pos2 hc;refine d9 hc fun c1 c2=>?_
 (refine cv (gp c2) ?_;clear hc c2;rintro ob ap rfl a1 a2 a3)
 refine ah hx fun y σ₁ g1 g2=>?_;have key:∃ p q,y=.dct [p,q]∧dk p.1 q.1=true∧x=.v (.lst [.str p.1,.str q.1])∧σ'=σ₁:=by
  induction y using V.casesOn with
  |dct l=>
   match l,g2 with
   |[p,q],g2=>
    dsimp only at g2;revert g2;refine d8 (dk p.1 q.1) ?_ ?_;rotate_left
    ·intro q3 g2;(revert o h;refine aR g2 ?_;intro o h);exact fj p q rfl q3 rfl rfl
    ·intro q3 g2;exact a0 g2
   |[],g2=>exact a0 g2
   |[_],g2=>exact a0 g2
   |_::_::_::_,g2=>exact a0 g2
  |_=>exact a0 g2
 (refine cv key ?_;(try clear key);clear hx g2;rintro p q rfl hlt rfl rfl)
 refine y3 (b:="sorted") (p9 c1) rfl (fun hq=>p7 F.toFacts2 ok (v:=.builtin "sorted") (.tail _ (.tail _ (.tail _ (.head _)))) c1 r hq) ?_;refine rk PySem.F.slot_dict_keys PySem.F.type_dict_keys PySem.F.plainAttrs_dict a2 a3 (H c n ce ob σ σ' _ Z ρ m s A _ E ok a1 (cn g1) o r rm fun v s1 Z1 ρ1 m1 r1 hy ex hg ho=>?_)
 (refine dp (Ir (c:=c) r1 hy) ?_;clear hy;rintro dd u0 u1 rfl hdm hD b1 b2)
 (refine s7 (id hD) ?_;rintro oo ees eep hoo hexd hdat _)
 refine b7 hD.typeIs (fun a e=>by (have zq0:_=_:=e;clear e;injection zq0 with zq0a;obtain rfl:=zq0a);exact aF _ hoo hexd.2.1) ?_;refine call_meetsIn PySem.F.slot_dict_keys hD.typeIs PySem.F.entry_dict_keys (PySem.F.args_dict_keys_1 _) (kdl_meets_keys (strKind W.prog W.w) dd hdm) ⟨⟨_,hD⟩,?_⟩;have k0:∀ b o,s1.heap.get? b=some o→(s1.heap.push { cls:=.type "dict_keys",data:=.fields #[.ref dd] }).get? b=some o:=fun b o e=>Heap.get?_push_of_some _ e;have r2:=r1.grow (h':=s1.heap.push { cls:=.type "dict_keys",data:=.fields #[.ref dd] }) k0 (by change Kz;exact KJ _);refine IP (s:={ s1 with heap:=s1.heap.push { cls:=.type "dict_keys",data:=.fields #[.ref dd] } }) rm.2.2 ⟨_,Heap.get?_push_size _ rfl,rfl,rfl⟩ ⟨oo,ees,eep,k0 _ _ hoo,hexd,hdat,‹_›⟩ hlt (by refine (?_:(Heap.push _ _).objs.size≤_);change Kz;exact br _) fun h' tk B nn t u hk hge hsz hB=>?_
 (refine bb (r2.addAt hk hsz hB hge) ?_;rintro r3 ex3 hn)
 refine h (.ref B) { s1 with heap:=h',toks:=tk } _ _ _ r3 ?_ (ex.trans ((aA.grow k0 (by change Kz;exact KJ _)).trans ex3)) hg ho;refine .lst (n:=nn) kH (by refine (?_:2≤_);change KL;decide) rfl fun i v x e1 e2=>?_
 match i,e1,e2 with
 |0,e1,e2=>(replace e1:=Kj e1;obtain rfl:=e1);(replace e2:=Kj e2;obtain rfl:=e2);exact .str b1
 |1,e1,e2=>(replace e1:=Kj e1;obtain rfl:=e1);(replace e2:=Kj e2;obtain rfl:=e2);exact .str b2
 |i+2,e1,e2=>simp at e1
set_option tactic.hygienic true in
theorem AR (F:fC W) (H:SE W d R.e) (M:aS R) (ok:aJ W c) (hc:al W.T c.fd.scope.names (n+1) (.copyD ce) e=true) (hx:bh W.T R (.copyD ce) σ=some (x,σ')) (o:ae σ') (r:a9 W Z ρ s.heap c.L m σ) (rm:aL A d) (h:EP W c Z ρ s σ.heap σ' x Q):wpAny (model W.prog W.w) A (eval e c.env) Q E s:=by
 refine nP hc ?_;clear hc;intro g pos hc
 (refine cv (gp hc) ?_;clear hc;rintro ob ap rfl a1 a2 a3)
 refine ah hx fun y σ₁ g1 g2=>?_;induction y using V.casesOn<;>first|((first|exact a0 g2|(have za:=(af g2).1;have zb:=(af g2).2;clear g2;obtain rfl:=za;obtain rfl:=zb));done)|skip
 rename_i l
 (revert o h;refine aR g2 ?_;intro o h)
 refine rk PySem.F.slot_dict_copy PySem.F.type_dict_copy PySem.F.plainAttrs_dict a2 a3 (H c n ce ob σ _ _ Z ρ m s A _ E ok a1 (cn g1) o r rm fun v s1 Z1 ρ1 m1 r1 hy ex hg ho=>?_);obtain ⟨a,es,nn,rfl,hz,ha,nd,hb,hl,hk,hv⟩:=xy hy
 (refine dy (oS (r1.zh _ _ hz) nd hl hk) ?_;rintro kvs k1 k2 k3)
 have hkl:=Kq List.length k2;simp only [L4] at hkl;refine b7 k1.typeIs (fun a e=>by (have zq0:_=_:=e;clear e;injection zq0 with zq0a;obtain rfl:=zq0a);exact aF _ (r1.zh _ _ hz) rfl) ?_;refine call_meetsIn PySem.F.slot_dict_copy k1.typeIs PySem.F.entry_dict_copy (PySem.F.args_dict_copy_1 _) (meets_dict_copy (strKind W.prog W.w) _ ha) ⟨kvs,k1,by have:=KL;lia,fun h' d1 d2 hk2=>?_⟩;obtain ⟨o2,es2,ep2,ho2,hex2,hdat2,hks2,hps2,hnd2⟩:=d1;have hs2:=KO ho2;obtain ⟨oc,od,odat,osl⟩:=o2;obtain ⟨rfl,rfl,rfl⟩:oc=.type "dict"∧od=none∧osl=#[]:=hex2;have hdat2:odat=.dict es2 ep2:=hdat2;subst hdat2;clear hdat2;obtain ⟨es2⟩:=es2
 (refine bb (r1.addAt hk2 (Li hs2) ho2 (br _)) ?_;rintro r3 ex3 hn)
 have hl2:es2.length=l.length:=by refine aT (hkl ..) ?_;exact hps2.length
 have kv_at:∀ (i:Nat) (p:List Nat×V),l[i]?=some p→∃ kv,kvs[i]?=some kv∧kv.1=aq p.1:=by
  intro i p hp;have:(kvs.map (·.1))[i]?=some (aq p.1):=by (change k2;change List.getElem?_map;change hp);rfl
  rw [List.getElem?_map] at this
  (refine am (Lc.mp this) ?_;rintro kv e1 e2)
  exact aF kv e1 e2
 refine h (.ref s1.heap.objs.size) { s1 with heap:=h' } _ _ _ r3 ?_ (ex.trans ex3) hg ho;refine .dct (es:=es2) (n:=ep2) kH (wO F.top r1) nd hb hl2 (fun i e p e1 e2=>?_) (fun i e p e1 e2=>?_)
 ·(refine am (kv_at i p e2) ?_;rintro kv q1 q2)
  (refine aw (uQ hps2 i e kv e1 q1) ?_;rintro p1 p2)
  (refine ay (LY p1) ?_;rintro t ht)
  rw [q2] at ht
  (refine am (hks2 e (by simpa using List.mem_of_getElem? e1)) ?_;rintro k' p3 p4)
  have:k'=aq p.1:=Value.isStrOf_inj e.key _ _ p3 (q2▸p1);clear p3;subst this;have hlt:i < es.length:=by change hl;exact (List.getElem?_eq_some_iff.mp e2).1
  exact b7 ⟨t,ht⟩ p4 ((hk i es[i] p (List.getElem?_eq_getElem hlt) e2).2.2)
 ·(refine am (kv_at i p e2) ?_;rintro kv q1 q2)
  (refine aw (uQ hps2 i e kv e1 q1) ?_;rintro p1 p2)
  have hlt:i < es.length:=by change hl;exact (List.getElem?_eq_some_iff.mp e2).1
  have hv':=hv i es[i] p (List.getElem?_eq_getElem hlt) e2;have e3:(kvs.map (·.2))[i]?=some kv.2:=by (change List.getElem?_map;change q1);rfl
  rw [k3,List.getElem?_map,List.getElem?_eq_getElem hlt] at e3
  (change p2;refine aT (Kj e3 ..) ?_)
  exact aa.mono ex3.z hv'
end
theorem qw {p:Pos} {t:Sem PySem.Fin} {fs:List Frame} {s s':Shared} {e:End} (h:Runs M Γ p t fs s e s'):s.heap.objs.size≤s'.heap.objs.size:=by
 induction h<;>(try simp only [Shared.setGen,LR,Kz] at *)<;>(first|assumption|exact Li M1|exact Kl M1 M1|exact br _)
theorem yS {p:Pos} {r:Resume} {s s':Shared} {res:GenResult} (h:Wakes M Γ p g r s res s'):s.heap.objs.size≤s'.heap.objs.size:=by
 unfold Wakes at h
 split at h
 ·exact h.elim
 ·split at h
  ·(refine cv h ?_;(try clear h);rintro e₁ s₁ hr _ _ rfl);exact (qw hr:(s.setGen g .running).heap.objs.size≤s₁.heap.objs.size)
  ·change h.2;exact br _
  ·change h.2;exact br _
 ·(refine cv h ?_;(try clear h);rintro e₁ s₁ hr _ _ rfl);exact (qw hr:(s.setGen g .running).heap.objs.size≤s₁.heap.objs.size)
 ·change h.2;exact br _
 ·change h.2;exact br _
theorem yO {α:Type} (M:Model) (Γ:Ctx) (n:Nat) (t:Sem α):∀ (Q:α→Pos→Shared→Prop) (E:Value→Pos→Shared→Prop) (p:Pos) (s:Shared),n≤s.heap.objs.size→Sem.wp M Γ t Q E p s→
  Sem.wp M Γ t (fun a p' s'=>n≤s'.heap.objs.size∧Q a p' s') (fun e p' s'=>n≤s'.heap.objs.size∧E e p' s') p s:=by
 induction t with
 |pure a=>exact fun Q E p s hn h=>⟨hn,h⟩
 |raise e=>exact fun Q E p s hn h=>⟨hn,h⟩
 |unsupported _=>exact fun Q E p s _ h=>h
 |finish _=>exact fun Q E p s _ h=>h
 |rule _ k ih=>exact fun Q E p s hn h=>ih Unit.unit Q E p s hn h
 |«at» p' k ih=>exact fun Q E p s hn h=>ih Unit.unit Q E p' s hn h
 |load a _ k ih=>exact fun Q E p s hn ⟨o,ho,h⟩=>⟨o,ho,ih o Q E p s hn h⟩
 |update a _ f k ih=>exact fun Q E p s hn h=>⟨h.1,ih Unit.unit Q E p _ (by refine (?_:n≤(s.heap.update a f).objs.size);change LR;exact hn) h.2⟩
 |loadIfAlive a k ih=>exact fun Q E p s hn h=>ih _ Q E p s hn h
 |point _ k ih=>exact fun Q E p s hn h=>ih Unit.unit Q E p s hn h
 |register _ _=>exact fun Q E p s _ h=>h
 |alloc o k ih=>exact fun Q E p s hn h=>ih _ Q E p _ (by refine (?_:n≤(s.heap.push o).objs.size);change Kz;exact KK hn) h
 |fresh k ih=>exact fun Q E p s hn h=>ih _ Q E p _ hn h
 |ask k ih=>exact fun Q E p s hn h=>ih _ Q E p s hn h
 |choose src m k ih=>exact fun Q E p s hn h=>⟨h.1,ih _ Q E p _ hn h.2⟩
 |os q _ k ih=>exact fun Q E p s hn h=>ih _ Q E p _ hn h
 |call c hd _ _ k ih=>exact fun Q E p s hn ⟨r,s',hr,h⟩=>⟨r,s',hr,ih r Q E p s' (Kl hn (qw hr)) h⟩
 |handled own k ih=>exact fun Q E p s hn h=>ih _ Q E p s hn h
 |genState g k ih=>exact fun Q E p s hn ⟨st,hs,h⟩=>⟨st,hs,ih _ Q E p s hn h⟩
 |newGen c k ih=>exact fun Q E p s hn h=>ih _ Q E p _ hn h
 |resume g r _ k ih=>exact fun Q E p s hn ⟨res,s',hw,h⟩=>⟨res,s',hw,ih res Q E p s' (Kl hn (yS hw)) h⟩
 |yield _ _ _ _=>exact fun Q E p s _ h=>h
 |stack k ih=>exact fun Q E p s hn h=>ih _ Q E p s hn h
 |fork _ _=>exact fun Q E p s _ h=>h
 |thread k ih=>exact fun Q E p s hn h=>ih _ Q E p s hn h
 |await _ _ _ _ _=>exact fun Q E p s _ h=>h
theorem yQ {α:Type} {s:Shared} {t:Sem α} {Q:α→Shared→Prop} {E:Value→Shared→Prop} {n:Nat} (hn:n≤s.heap.objs.size) (h:wpAny M A t Q E s):
  wpAny M A t (fun a s'=>n≤s'.heap.objs.size∧Q a s') (fun e s'=>n≤s'.heap.objs.size∧E e s') s:=fun Γ p hΓ=>yO M Γ n t _ _ p s hn (h Γ p hΓ)
theorem iF {α:Type} {s:Shared} {t:Sem α} {Q:α→Shared→Prop} {E:Value→Shared→Prop} (h:wpAny M A t (fun a s'=>s.heap.objs.size≤s'.heap.objs.size→Q a s') E s):wpAny M A t Q E s:=
 KV (yQ (br _) h) (fun _ _ x=>x.2 x.1) (fun _ _ x=>x.2)
section
variable {W:Wd} {d:Nat} {R:ao} {c:Cx} {n:Nat} {e:Expr} {σ σ':St} {x:X} {Z:ZM} {ρ:List (Addr×Addr)} {m:Str→Option Value} {s:Shared} {A:Around} {Q:Value→Shared→Prop} {E:Value→Shared→Prop}
theorem Dt {h:Heap} {L a:Addr} (r:a9 W Z ρ h L m σ) (q:dh ρ σ.heap a):∃ o,h.get? a=some o:=by
 (refine cJ q ?_;(try clear q);rintro k p cl h1 h2 h3)
 have CL:=r.cell k p cl h1 h2;clear h2;induction cl using a8.casesOn with
 |ins cc fs=>
  obtain ⟨e1,m',⟨o,es,ep,e2,_⟩,_⟩:=CL;simp only [b9,KQ,Lm,Ln] at h3;rcases h3 with rfl|rfl
  ·exact ba _ e1
  ·exact ba _ e2
 |lst l=>(refine aN CL ?_;(try clear CL);rintro vs n e1 _);simp only [b9,KQ,Lm,Ln] at h3;subst h3;exact ba _ e1
 |stk l=>(refine aN CL ?_;(try clear CL);rintro vs n e1 _);simp only [b9,KQ,Lm,Ln] at h3;subst h3;exact ba _ e1
 |«strs» l=>(refine aN CL ?_;(try clear CL);rintro vs n e1 _);simp only [b9,KQ,Lm,Ln] at h3;subst h3;exact ba _ e1
 |bms k l=>(refine aN CL ?_;(try clear CL);rintro vs n e1 _);simp only [b9,KQ,Lm,Ln] at h3;subst h3;exact ba _ e1
 |dead=>cases h3
structure bP (Z:ZM) (ρ:List (Addr×Addr)) (hp:List a8) (L I:Addr):Prop where
 z:Z I=none
 o:¬ dh ρ hp I
 l:I≠L
theorem a9.but {h h':Heap} {L :Addr} (r:a9 W Z ρ h L m σ) (a:bP Z ρ σ.heap L I) (hk:∀ b o,b≠I→h.get? b=some o→h'.get? b=some o):a9 W Z ρ h' L m σ where
 kz:=r.kz
 zh:=fun b o e=>hk _ _ (fun q=>by clear hk;subst q;rw [a.z] at e;exact a0 e) (r.zh b o e)
 zL:=r.zL
 ns:=by (refine jb r.ns ?_;(try clear r.ns);rintro o es ep e1 e2);exact jX o es ep (hk _ _ (fun q=>a.l q.symm) e1) e2
 loc:=r.loc
 len:=r.len
 cell:=fun k p cl h1 h2=>(r.cell k p cl h1 h2).stay (fun _ _ e=>e) ⟨[],(Kt _).symm⟩ fun b o hb e=>hk b o (fun q=>by clear hk;subst q;exact a.o ⟨k,p,cl,h1,h2,hb⟩) e
 own:=fun b q=>by
  (refine bb (r.own b q) ?_;rintro x y z)
  (refine ay (Dt r q) ?_;rintro o e)
  exact b7 x y (KO (hk b o (fun q'=>by clear hk;subst q';exact a.o q) e))
 apart:=r.apart
 two:=r.two
theorem aA.but {h h' :Heap} {L :Addr} (ex:aA Z₀ ρ₀ h₀ L hp₀ Z ρ h σ.heap) (hI:h₀.objs.size≤I) (hs:h.objs.size≤h'.objs.size) (hk:∀ b o,b≠I→h.get? b=some o→h'.get? b=some o):aA Z₀ ρ₀ h₀ L hp₀ Z ρ h' σ.heap where
 z:=ex.z
 r:=ex.r
 size:=Kl ex.size hs
 keep:=fun b o e n l=>hk b o (KW (KI (KO e) hI)) (ex.keep b o e n l)
 own:=ex.own
 zn:=ex.zn
theorem bP.ext {h h':Heap} {L :Addr} (a:bP Z ρ hp L I) (ex:aA Z ρ h L hp Z' ρ' h' hp') (hI:I < h.objs.size):bP Z' ρ' hp' L I where
 z:=by
  induction q:Z' I using Option.casesOn with
  |none=>rfl
  |some o=>
   rcases ex.zn I (by change q;exact fun e=>by contradiction) with z|z|z
   ·exact absurd a.z z
   ·exact absurd z a.o
   ·exact absurd (KI hI z) (KS _)
 o:=fun q=>(ex.own I q).elim a.o fun z=>absurd (KI hI z) (KS _)
 l:=a.l
theorem bP.new {h:Heap} {L:Addr} (r:a9 W Z ρ h L m σ):bP Z ρ σ.heap L h.objs.size where
 z:=r.fresh
 o:=fun q=>absurd (r.own _ q).2.2 (KS _)
 l:=Ly r.ns.lt
end
set_option tactic.hygienic true
structure Wk (W:Wd) (A:Around) (Z:ZM) (I:Addr) (l:List V) (St:Nat→Heap→Prop):Prop where
 frame:∀ i h h',St i h→(∀ b,(b=I∨Z b≠none)→∀ o,h.get? b=some o→h'.get? b=some o)→St i h'
 item:∀ i (s:Shared) (Q:Option Value→Shared→Prop) (E:Value→Shared→Prop),i < l.length→St i s.heap→
  (∀ v h' tk y,l[i]?=some y→aa W Z v y→St (i+1) h'→(∀ b o,b≠I→s.heap.get? b=some o→h'.get? b=some o)→Q (some v) { s with heap:=h',toks:=tk })→wpAny (model W.prog W.w) A (pyNext (.ref I)) Q E s
 done:∀ (s:Shared) (Q:Option Value→Shared→Prop) (E:Value→Shared→Prop),St l.length s.heap→
  (∀ h' tk,(∀ b o,b≠I→s.heap.get? b=some o→h'.get? b=some o)→Q none { s with heap:=h',toks:=tk })→wpAny (model W.prog W.w) A (pyNext (.ref I)) Q E s
 self:∀ i (s:Shared) (Q:Value→Shared→Prop) (E:Value→Shared→Prop),St i s.heap→Q (.ref I) s→wpAny (model W.prog W.w) A (pyIter (.ref I)) Q E s
theorem pF {l:List V} {St:Nat→Heap→Prop} {fp wr:List Addr} {n:Nat} {P:Nat→Value→Prop} (hn:n=l.length) (K:Walks W.prog W.w A I fp wr n P St) (hw:∀ b,b∈wr→b=I) (hf:∀ b∈fp,b=I∨Z b≠none)
  (hP:∀ i v y,P i v→l[i]?=some y→aa W Z v y):Wk W A Z I l St where
 frame:=fun i h h' st hk=>K.frame i h h' st fun b hb o e=>hk b (hf b hb) o e
 item:=fun i s Q E hi st h=>K.item i s Q E (hn▸hi) st fun v h' tk hp st' hk=>h v h' tk l[i] (List.getElem?_eq_getElem hi) (hP i v _ hp (List.getElem?_eq_getElem hi)) st' fun b o hb e=>hk b o (fun q=>hb (hw b q)) e
 done:=fun s Q E st h=>K.done s Q E (hn▸st) fun h' tk hk=>h h' tk fun b o hb e=>hk b o (fun q=>hb (hw b q)) e
 self:=K.self
section
variable {W:Wd} {d:Nat} {R:ao} {c:Cx} {n:Nat} {e:Expr} {σ σ':St} {x:X} {Z:ZM} {ρ:List (Addr×Addr)} {m:Str→Option Value} {s:Shared} {A:Around} {E:Value→Shared→Prop}
theorem tw {y:X} {l:List V} {v:Value} {Q:Value→Shared→Prop} (hh:A.handled=none) (hi:items y σ=some (l,σ')) (r:a9 W Z ρ s.heap c.L m σ) (hy:bg W Z ρ v y)
  (h:∀ oI St,l.length≤sizeLine→Wk W A Z s.heap.objs.size l St→St 0 (s.heap.push oI)→Q (.ref s.heap.objs.size) { s with heap:=s.heap.push oI }):wpAny (model W.prog W.w) A (pyIter v) Q E s:=by
 rcases Fq hi with rfl|⟨t,rfl,rfl⟩
 ·clear hi
  (refine dp (gM hy) ?_;clear hy;rintro a vs k rfl z1 V1 V2 V3)
  have hl:s.heap.IsList a vs.toArray:=⟨_,r.zh _ _ z1,rfl,_,rfl⟩
  have hlt:a < s.heap.objs.size:=KO (r.zh _ _ z1);refine wpAny_pyIter_list hl (h _ _ (V2▸V1) (pF (by change KH;exact V2) (Walks.list hh s.heap.objs.size a (KW hlt) vs.toArray) (fun b hb=>by simpa using hb) (fun b hb=>?_) fun i u y p q=>V3 i u y (by simpa using p) q) ⟨⟨_,Heap.get?_push_size _ rfl,rfl,rfl⟩,hl.push _⟩);rcases KQ.mp hb with rfl|hb
  ·exact .inl rfl
  ·change List.mem_singleton.mp hb;exact .inr (by change z1;exact fun e=>by contradiction)
 ·clear hi;have hy:aa W Z v (.str t):=hy
  (refine am (aa.inv hy) ?_;clear hy;clear hy;rintro _ rfl hb)
  refine wpAny_pyIter_str fun o St K st=>h o St (by change L4;exact hb) (pF (l:=t.map fun c=>.str [c]) (by simp [aq]) (K A hh) (fun b hb=>by simpa using hb) (fun b hb=>.inl (by simpa using hb)) fun i u y p q=>?_) st
  (refine aN p ?_;(try clear p);rintro cc tk e1 rfl)
  rw [List.getElem?_map] at q
  (refine am (Lc.mp q) ?_;clear q;rintro c2 e2 rfl)
  have:c2=cc:=by
   have:(aq t).cps[i]?=some c2:=by simp [aq,e2]
   rw [this] at e1;exact Kj e1
  clear e1;subst this;exact .str (by refine (?_:1≤_);change KL;decide)
theorem mj (ok:aJ W c):(c.env.scope.kind==.class||(c.env.scope.kind==.module&&c.env.locals != c.env.globals))=false:=by
 have:c.env.scope.kind=.function:=ok.kind;change this;rfl
theorem gh {y:Nat} {sc:List (Str×NameKind)} (h:cO W.T sc y e=true):∃ p,e=.Name (W.T.nm y) p∧dP sc (W.T.nm y)=some .local:=by
 unfold cO at h;revert h;refine aV (dE e) ?_ ?_
 ·intro h;exact ac h
 ·intro z q h
  (refine ay (gA q) ?_;clear q;rintro p rfl)
  simp only [KD] at h;have:=dJ.mp h.1.1;subst this;exact aF p rfl (o8 h.1.2)
theorem nh {y:Nat} {v:Value} {xx:X} {p:Pos} {Q:Unit→Shared→Prop} (F:Facts W) (ok:aJ W c) (hk:dP c.fd.scope.names (W.T.nm y)=some .local) (r:a9 W Z ρ s.heap c.L m σ) (hx:bg W Z ρ v xx)
  (h:∀ h' tk m',a9 W Z ρ h' c.L m' { σ with loc:=put σ.loc y xx }→aA Z ρ s.heap c.L σ.heap Z ρ h' σ.heap→Q Unit.unit { s with heap:=h',toks:=tk }):wpAny (model W.prog W.w) A (assign (.Name (W.T.nm y) p) c.env v) Q E s:=
 wpAny_assign_Name (LF (by change fh;exact hk) r.ns (fun h' hn hs=>h h' _ _ (r.setLoc F.inj hn hs hx) (aA.setLoc hs)) (mj ok))
theorem xv {α:Type} {l:List α} {i:Nat} {y:α} (h:l[i]?=some y):l.drop i=y::l.drop (i+1):=by
 (refine ay (List.getElem?_eq_some_iff.mp h) ?_;rintro hi e)
 (refine aT (e ..) ?_;change List.drop_eq_getElem_cons hi;with_reducible rfl)
inductive yw (W:Wd) (R:ao) (Z:ZM) (ρ:List (Addr×Addr)) (L:Addr) (s:Shared) (h₀:Heap) (σ σ':St) (y:Nat) (a:List CS) (l:List V) (fl:Fl) (I:Addr) (St':Nat→Heap→Prop) (k:Nat) (s':Shared):Prop
 |mk (i:Nat) (σ1:St) (Z1:ZM) (ρ1:List (Addr×Addr)) (m1:Str→Option Value):i≤l.length→k=l.length+1 - i→e8 R y a (l.drop i) σ1=some (fl,σ')→a9 W Z1 ρ1 s'.heap L m1 σ1→aA Z ρ h₀ L σ.heap Z1 ρ1 s'.heap σ1.heap→bP Z1 ρ1 σ1.heap L I→I < s'.heap.objs.size→St' i s'.heap→s'.gens=s.gens→s'.os=s.os→yw W R Z ρ L s h₀ σ σ' y a l fl I St' k s'
theorem AO (F:Facts W) (H:SS W d R.ss) (M:aS R) (ok:aJ W c) (rm:aL A d) {y:Nat} {p:Pos} {a:List CS} {body:List Stmt} (hk:dP c.fd.scope.names (W.T.nm y)=some .local) (hc:aY (cR W.T c.fd.scope.names n) a body=true)
  {l:List V} {fl:Fl} {St:Nat→Heap→Prop} (he:e8 R y a l σ=some (fl,σ')) (o:ae σ') (r:a9 W Z ρ s.heap c.L m σ) (K:Wk W A Z I l St) (st:St 0 s.heap) (ai:bP Z ρ σ.heap c.L I) (hI:I < s.heap.objs.size) (hge:h₀.objs.size≤I)
  (ex0:aA Z ρ h₀ c.L σ.heap Z ρ s.heap σ.heap) {P:Result→Shared→Prop}
  (h:∀ g s' Z' ρ' m',a9 W Z' ρ' s'.heap c.L m' σ'→kL W Z' ρ' g fl→aA Z ρ h₀ c.L σ.heap Z' ρ' s'.heap σ'.heap→s'.gens=s.gens→s'.os=s.os→P (.ok g) s'):
  codeAny (model W.prog W.w) A (.forLoop (.Name (W.T.nm y) p) (.ref I) body [] c.env) P s:=by
 refine codeAny_forLoop (yw W R Z ρ c.L s h₀ σ σ' y a l fl I St) ?_ (l.length+1)
  ⟨0,σ,Z,ρ,m,KG _,rfl,he,r,ex0,ai,hI,st,rfl,rfl⟩
 rintro k s1 ⟨i,σ1,Z1,ρ1,m1,hi,rfl,he1,r1,ex1,ai1,hI1,st1,hg1,ho1⟩
 by_cases hlt:i < l.length
 ·refine iF (K.item i s1 _ _ hlt st1 fun v h2 tk2 yv hyv hv st2 hk2 hsz=>?_);rw [xv hyv] at he1;refine ah he1 fun u σ2 g1 g2=>?_;rw [fV] at g1
  (have za:=(af g1).1;have zb:=(af g1).2;clear g1;obtain rfl:=za;obtain rfl:=zb)
  refine ah g2 fun fl2 σ3 g3 g4=>?_;have r2:=r1.but ai1 hk2;have ex2:=aA.but ex1 hge hsz hk2;refine nh (s:={ s1 with heap:=h2,toks:=tk2 }) F ok hk r2 (xx:=.v yv) (aa.mono ex1.z hv) fun h3 tk3 m3 r3 ex3=>?_;have o3:ae σ3:=by
   clear g3;induction fl2 using Fl.casesOn with
   |next=>exact ae.of (qg M) g4 o
   |ret z=>(have za:=(af g4).1;have zb:=(af g4).2;clear g4;clear he h he1 g2;obtain rfl:=za;obtain rfl:=zb);exact o
  have ai2:bP Z1 ρ1 σ1.heap c.L I:=ai1;have hI3:I < h3.objs.size:=KI hI1 (Kl hsz ex3.size);refine H c n a body _ σ3 fl2 Z1 ρ1 m3 { s1 with heap:=h3,toks:=tk3 } A _ _ ok hc g3 o3 r3 rm fun g s4 Z4 ρ4 m4 r4 hf ex4 hg4 ho4=>?_;have EX:=(ex2.trans ex3).trans ex4;cases hf with
  |next=>
   refine ⟨l.length+1 - (i+1),by grind,i+1,σ3,Z4,ρ4,m4,hlt,rfl,g4,r4,EX,ai2.ext ex4 hI3,KI hI3 ex4.size,?_,hg4.trans hg1,ho4.trans ho1⟩;refine K.frame _ _ _ st2 fun b hb o' e=>?_;have zz:Z b≠none→Z1 b=none→False:=fun h1 h2=>by
    induction z:Z b using Option.casesOn with
    |none=>exact h1 z
    |some o2=>rw [ex1.z _ _ z] at h2;contradiction
   have key:¬ dh ρ1 σ1.heap b∧b≠c.L:=by
    clear K ai hI hge ai1 hI1 hk2 hI3;rcases hb with rfl|hb
    ·exact ⟨ai2.o,ai2.l⟩
    ·exact ⟨fun q=>zz hb (r1.own b q).1,fun q=>by clear e;subst q;exact zz hb r1.zL⟩
   exact ex4.keep b o' (ex3.keep b o' e key.1 key.2) key.1 key.2
  |ret hv=>(have za:=(af g4).1;have zb:=(af g4).2;clear g4;clear he he1 g2;obtain rfl:=za;clear o;obtain rfl:=zb);exact h _ _ _ _ _ r4 (.ret hv) EX (hg4.trans hg1) (ho4.trans ho1)
 ·obtain rfl:i=l.length:=Nat.le_antisymm hi (KY.mp hlt);rw [List.drop_length] at he1
  (have za:=(af he1).1;have zb:=(af he1).2;clear he1;clear he;obtain rfl:=za;clear o;obtain rfl:=zb)
  refine iF (K.done s1 _ _ st1 fun h2 tk2 hk2 hsz=>wpAny_execs_nil ?_);exact h .next { s1 with heap:=h2,toks:=tk2 } Z1 ρ1 m1 (r1.but ai1 hk2) .next (aA.but ex1 hge hsz hk2) hg1 ho1
end
set_option tactic.hygienic false
theorem xN {sc:Scope} (h:gX sc=true):sc.kind=.function∧(∀ y∈sc.names,y.2≠.cell)∧(∀ y∈sc.names,y.2≠.free)∧∀ y∈sc.names,y.2=.local→sc.names.lookup y.1=some .local:=by
 unfold gX at h;refine d9 h fun h1 h2=>?_;rw [KM] at h2;refine wH ?_ (fun y hy e=>?_) (fun y hy e=>?_) (fun y hy e=>?_)
 ·split at h1
  ·assumption
  ·exact ac h1
 ·have:=h2 y hy;rw [e] at this;exact ac this
 ·have:=h2 y hy;rw [e] at this;exact ac this
 ·have:=h2 y hy;rw [e] at this;refine aT (rA ..) ?_;exact o8 this
theorem vv {env:Env}:∀ {l:List (Str×NameKind)},(∀ y∈l,y.2≠.free)→(l.map fun (n,k)=>if (k==NameKind.free&&env.scope.kind==.function&&env.kindOf n==some .cell) then (n,NameKind.cell) else (n,k))=l
 |[],_=>rfl
 |(n,k)::r,h=>by
  have hk:(k==NameKind.free)=false:=LM.mpr (h (n,k) (.head _))
  (change Lj;change (vv fun y hy=>h y (.tail _ hy)))
  simp only [hk,Bool.false_and,Lz,if_false]
theorem uA {sc:Scope} (h:∀ y∈sc.names,y.2≠.free):relabel sc env=sc:=by
 unfold relabel
 (change vv h;with_reducible rfl)
theorem IN {sc:Scope} (h:∀ y∈sc.names,y.2≠.free):closureFor sc env=pure []:=by
 dsimp only [closureFor];have:∀ (l:List (Str×NameKind)),(∀ y∈l,y.2≠.free)→(forIn l ([]:List (Str×Addr)) fun x r=>(match x with|(name,kind)=>if (kind==NameKind.free)=true then (do let a ← cellOf env name;pure (ForInStep.yield ((name,a)::r))) else pure (ForInStep.yield r):Sem _))=pure []:=by
  intro l;induction l with
  |nil=>intro _;rfl
  |cons x r ih=>
   intro hl;obtain ⟨nn,k⟩:=x;have hk:(k==NameKind.free)=false:=LM.mpr (hl (nn,k) (.head _));change List.forIn_cons;simp only [hk,Lz,if_false];exact ih fun y hy=>hl y (.tail _ hy)
 have e:=this sc.names h
 show (forIn sc.names ([]:List (Str×Addr)) _ >>= fun cs=>pure cs)=pure []
 refine Eq.trans (Kq (· >>= fun cs=>pure cs) e) rfl
theorem rl (h:ic it=true) (v:Value):foldedSetIterable it env v=pure v:=by
 dsimp only [foldedSetIterable];induction it using Expr.casesOn<;>first|rfl|exact ac h
section
variable {W:Wd} {d:Nat} {R:ao} {c:Cx} {n:Nat} {e:Expr} {σ σ':St} {x:X} {Z:ZM} {ρ:List (Addr×Addr)} {m:Str→Option Value} {s:Shared} {A:Around} {E:Value→Shared→Prop}
theorem a9.addAside {h :Heap} {L a:Addr} {o:Obj} (r:a9 W Z ρ h L m σ) (ai:bP Z ρ σ.heap L a) (ha:h.get? a=some o) (hge:h₀.objs.size≤a) (ex:aA Z₀ ρ₀ h₀ L hp₀ Z ρ h σ.heap):
  a9 W (Mine.addZ Z a o) ρ h L m σ∧aA Z₀ ρ₀ h₀ L hp₀ (Mine.addZ Z a o) ρ h σ.heap∧(∀ b,b≠a→bP Z ρ σ.heap L b→bP (Mine.addZ Z a o) ρ σ.heap L b):=by
 have hz:=iB (o:=o) ai.z;refine b7 ⟨fun a x e=>hz _ _ (r.kz a x e),fun b x e=>?_,?_,r.ns,fun n x e=>?_,r.len,fun k p cl a b=>(r.cell k p cl a b).stay hz ⟨[],(Kt _).symm⟩ fun _ _ _ e=>e,fun b q=>?_,r.apart,r.two⟩ ⟨fun b x e=>hz _ _ (ex.z b x e),ex.r,ex.size,ex.keep,ex.own,fun b q=>?_⟩ (fun b hb ab=>⟨?_,ab.o,ab.l⟩)
 ·unfold Mine.addZ at e
  by_cases q:b=a
  ·clear ai hge hz;subst q;rw [Ks rfl] at e;(replace e:=Kj e;obtain rfl:=e);exact ha
  ·rw [Kp q] at e;exact r.zh b x e
 ·unfold Mine.addZ;change Kp (fun q=>ai.l q.symm);exact r.zL
 ·(refine am (r.loc n x e) ?_;rintro v a b)
  exact aF v a (b.mono hz ⟨[],(Kt _).symm⟩)
 ·(refine bb (r.own b q) ?_;rintro x y z)
  refine b7 ?_ y z;unfold Mine.addZ;change Kp (fun e=>by clear ha hge hz;subst e;exact ai.o q);exact x
 ·unfold Mine.addZ at q
  by_cases e:b=a
  ·clear ai ha hz q;subst e;exact .inr (.inr hge)
  ·rw [Kp e] at q;exact ex.zn b q
 ·unfold Mine.addZ;change Kp hb;exact ab.z
theorem a9.compIn {h:Heap} {L C:Addr} {mC:Str→Option Value} {y:Nat} {v:Value} {yv:V} (r:a9 W Z ρ h L m σ) (ai:bP Z ρ σ.heap L C) (hn:h.Ns C mC) (hy:mC (W.T.nm y)=some v) (hv:aa W Z v yv):a9 W Z [] h C mC { σ with heap:=[],loc:=[(y,.v yv)] }:=
 {kz:=r.kz,zh:=r.zh,zL:=ai.z,ns:=hn,len:=rfl
  loc:=fun n x e=>by
   dsimp only [look] at e;revert e;refine d8 (Nat.beq y n) ?_ ?_;rotate_left
   ·intro q e;(replace e:=Kj e;obtain rfl:=e);have:=cS.mp q;clear q;subst this;exact aF v hy hv
   ·intro q e;exact a0 e
  cell:=fun k p cl e=>by simp at e
  own:=fun a ⟨k,p,cl,e,_⟩=>by simp at e
  apart:=fun k k' p p' cl cl' a e=>by simp at e
  two:=fun k p cl fs e=>by simp at e }
theorem a9.compOut {h h' :Heap} {L C:Addr} {mC':Str→Option Value} (r:a9 W Z ρ h L m σ) (ai:bP Z ρ σ.heap L C) (ex0:aA Z₀ ρ₀ h₀ L hp₀ Z ρ h σ.heap) (hge:h₀.objs.size≤C)
  (r':a9 W Z' ρ' h' C mC' σ') (ex:aA Z [] h C [] Z' ρ' h' σ'.heap):a9 W Z' ρ h' L m { σ' with heap:=σ.heap,loc:=σ.loc }∧aA Z₀ ρ₀ h₀ L hp₀ Z' ρ h' σ.heap∧(∀ b,b < h.objs.size→bP Z ρ σ.heap L b→bP Z' ρ σ.heap L b):=by
 have zn:∀ b,b < h.objs.size→Z b=none→Z' b=none:=by
  intro b hb q;induction w:Z' b using Option.casesOn with
  |none=>rfl
  |some o=>
   rcases ex.zn b (by change w;exact fun e=>by contradiction) with t|t|t
   ·exact absurd q t
   ·exact absurd t gJ
   ·exact absurd (KI hb t) (KS _)
 have keep:∀ b o,b≠C→h.get? b=some o→h'.get? b=some o:=fun b o hb e=>ex.keep b o e gJ hb;refine b7 ⟨r'.kz,r'.zh,zn L r.ns.lt r.zL,?_,fun n x e=>?_,r.len,fun k p cl h1 h2=>?_,fun a q=>?_,r.apart,r.two⟩ ⟨fun b o e=>ex.z _ _ (ex0.z b o e),ex0.r,Kl ex0.size ex.size,fun b o e nn l=>?_,ex0.own,fun b q=>?_⟩ (fun b hb ab=>⟨zn b hb ab.z,ab.o,ab.l⟩)
 ·(refine jb r.ns ?_;(try clear r.ns);rintro o es ep e1 e2)
  exact jX o es ep (keep _ _ (fun q=>ai.l q.symm) e1) e2
 ·(refine am (r.loc n x e) ?_;rintro v a b)
  exact aF v a (b.mono ex.z ⟨[],(Kt _).symm⟩)
 ·exact (r.cell k p cl h1 h2).stay ex.z ⟨[],(Kt _).symm⟩ fun b o hb e=>keep b o (fun q=>by clear hge r' ex keep;subst q;exact ai.o ⟨k,p,cl,h1,h2,hb⟩) e
 ·(refine bb (r.own a q) ?_;rintro x y z)
  exact b7 (zn a z x) y (KI z ex.size)
 ·exact keep b o (KW (KI (KO e) hge)) (ex0.keep b o e nn l)
 ·rcases ex.zn b q with t|t|t
  ·exact ex0.zn b t
  ·exact absurd t gJ
  ·exact .inr (.inr (Kl ex0.size t))
theorem yU {vs:List Value} {l:List V} {v:Value} (hl:vs.length=l.length) (h:∀ (i:Nat) (v:Value) (x:V),vs[i]?=some v→l[i]?=some x→aa W Z v x) (hv:aa W Z v y):(vs++[v]).length=(l++[y]).length∧∀ (i:Nat) (u:Value) (x:V),(vs++[v])[i]?=some u→(l++[y])[i]?=some x→aa W Z u x:=by
 refine ⟨by simp [hl],fun i u x e1 e2=>?_⟩;rcases LI i vs.length with q|q|q
 ·rw [List.getElem?_append_left q] at e1;rw [List.getElem?_append_left (hl▸q)] at e2;exact h i u x e1 e2
 ·subst q;rw [List.getElem?_append_right (br _),L7] at e1;rw [List.getElem?_append_right (by change hl;exact br _),hl,L7] at e2
  (replace e1:=Kj e1;obtain rfl:=e1);(replace e2:=Kj e2;obtain rfl:=e2);exact hv
 ·rw [List.getElem?_eq_none (by simp;assumption)] at e1;exact a0 e1
inductive sT (W:Wd) (R:ao) (Z:ZM) (ρ:List (Addr×Addr)) (m:Str→Option Value) (L:Addr) (s:Shared) (h₀:Heap) (σ σ':St) (y:Nat) (body:CE) (l vs:List V) (I D C:Addr) (St':Nat→Heap→Prop) (k:Nat) (s':Shared):Prop
 |mk (h':Heap) (i:Nat) (σ1:St) (Z1:ZM) (mC:Str→Option Value) (acc us:List V) (ws:List Value) (nn:Nat):(h'=s'.heap)→(s'.gens=s.gens)→(s'.os=s.os)→(i≤l.length)→(k=l.length+1 - i)→(d0 R y body (l.drop i) σ1=some (us,σ'))→(acc++us=vs)→(acc.length=i)→(a9 W Z1 ρ h' L m σ1)→(σ1.heap=σ.heap)→(σ1.loc=σ.loc)→(aA Z ρ h₀ L σ.heap Z1 ρ h' σ.heap)→(bP Z1 ρ σ.heap L I)→(bP Z1 ρ σ.heap L C)→(bP Z1 ρ σ.heap L D)→(D+2≤h'.objs.size)→(St' i h')→(h'.Ns C mC)→(h'.get? D=some (bn ws nn))→(ws.length=acc.length)→(∀ (i:Nat) (v:Value) (x:V),ws[i]?=some v→acc[i]?=some x→aa W Z1 v x)→sT W R Z ρ m L s h₀ σ σ' y body l vs I D C St' k s'
theorem AP (F:Facts W) (H:SE W d R.e) (M:aS R) (ok:aJ W c) (rm:aL A d) {y:Nat} {iter tg :Expr} (hs:gX scope=true) (hk:cO W.T scope.names y tg=true) (hc:al W.T scope.names n body elt=true)
  {l vs:List V} {St:Nat→Heap→Prop} (hsz:l.length≤sizeLine) (he:d0 R y body l σ=some (vs,σ')) (o:ae σ') (r:a9 W Z ρ s.heap c.L m σ) (K:Wk W A Z I l St) (st:St 0 s.heap) (ai:bP Z ρ σ.heap c.L I) (hI:I < s.heap.objs.size) (hge:h₀.objs.size≤I)
  (ex0:aA Z ρ h₀ c.L σ.heap Z ρ s.heap σ.heap) {RR:Value→Addr→Result→Shared→Prop}
  (h:∀ D C s' Z' mC,s'.heap.Ns C mC→a9 W Z' ρ s'.heap c.L m σ'→aa W Z' (.ref D) (.lst vs)→aA Z ρ h₀ c.L σ.heap Z' ρ s'.heap σ'.heap→bP Z' ρ σ'.heap c.L C→h₀.objs.size≤C→s'.gens=s.gens→s'.os=s.os→RR (.ref D) C (.ok .next) s'):
  wpAny (model W.prog W.w) A (newList []) (fun acc s₃=>wpAny (model W.prog W.w) A (newFunctionEnv scope c.env.globals [] [] c.env.qual none .none (some c.env)) (fun cenv s₄=>
   codeAny (model W.prog W.w) A (.compStart (.ListComp elt [⟨tg,iter,[],0⟩] scope pos) 0 (.ref I) acc { cenv with scope:=relabel scope c.env }) (RR acc cenv.locals) s₄) E s₃) E s:=by
 (refine jc (xN hs) ?_;rintro k1 k2 k3 k4)
 (refine am (gh hk) ?_;clear hk;rintro px rfl hkk)
 refine wpAny_newObj_type (wpAny_newFunctionEnv k2 (by intro y hy;simp at hy) (fun h₁ hns₁ hsb₁=>?_) k1);dsimp only at hns₁ hsb₁ ⊢;generalize hH2:s.heap.push { cls:=.type "list",dict:=none,data:=.seq ([]:List Value).toArray }=H2 at hns₁ hsb₁ ⊢;have hC:H2.objs.size=s.heap.objs.size+1:=by (refine aT (hH2 ..) ?_;change Kz;with_reducible rfl)
 have hDC:s.heap.objs.size≠H2.objs.size:=by change hC;exact KW (KC _)
 have ky:∀ b,b < s.heap.objs.size→b≠H2.objs.size∧b≠s.heap.objs.size:=fun b hb=>⟨by change hC;exact KW (Nat.lt_succ_of_lt hb),KW hb⟩
 have old:∀ b o,s.heap.get? b=some o→h₁.get? b=some o:=fun b o e=>hsb₁.extBut b o (ky b (KO e)).1 (Heap.get?_push_of_some _ (hH2▸Heap.get?_push_of_some _ e));have hD1:h₁.get? s.heap.objs.size=some (bn [] 0):=hsb₁.extBut _ _ hDC (Heap.get?_push_of_some _ (hH2▸Heap.get?_push_size _ rfl));have hs1:s.heap.objs.size+2≤h₁.objs.size:=by (change hsb₁.1;change Kz;change hC);exact br _
 have r1:=r.grow old (by exact Kl (KT _ _) M1);have ex1:aA Z ρ h₀ c.L σ.heap Z ρ h₁ σ.heap:=ex0.trans (aA.grow old (by exact Kl (KT _ _) M1));have h0s:h₀.objs.size≤s.heap.objs.size:=ex0.size;have asN:∀ b,s.heap.objs.size≤b→bP Z ρ σ.heap c.L b:=fun b hb=>⟨by
  induction q:Z b using Option.casesOn with
  |none=>rfl
  |some o=>exact absurd (KO (r.zh _ _ q)) (KY.mpr hb),fun q=>absurd (KI (r.own _ q).2.2 hb) (KS _),fun q=>absurd (q▸r.ns.lt) (KY.mpr hb)⟩
 have hIC:I≠H2.objs.size:=(ky I hI).1;have hID:I≠s.heap.objs.size:=(ky I hI).2;have st1:St 0 h₁:=K.frame _ _ _ st fun b _ o e=>old b o e;have loop:∀ s₃:Shared,s₃={ s with heap:=h₁,toks:=s.toks+([]:List (Str×Value)).length }→
   codeAny (model W.prog W.w) A (.compLoop (.ListComp elt [⟨.Name (W.T.nm y) px,iter,[],0⟩] scope pos) 0 (.ref I) (.ref s.heap.objs.size) (compEnvC scope [] H2.objs.size c.env))
    (RR (.ref s.heap.objs.size) H2.objs.size) s₃:=by
  rintro s₃ rfl
  suffices key:∀ J:Nat→Shared→Prop,(∀ k s',sT W R Z ρ m c.L s h₀ σ σ' y body l vs I s.heap.objs.size H2.objs.size St k s'→J k s')→(∀ k s',J k s'→sT W R Z ρ m c.L s h₀ σ σ' y body l vs I s.heap.objs.size H2.objs.size St k s')→
    codeAny (model W.prog W.w) A (.compLoop (.ListComp elt [⟨.Name (W.T.nm y) px,iter,[],0⟩] scope pos) 0 (.ref I) (.ref s.heap.objs.size) (compEnvC scope [] H2.objs.size c.env)) (RR (.ref s.heap.objs.size) H2.objs.size) _ from key _ (fun _ _ h=>h) (fun _ _ h=>h)
  intro J jI jO;refine codeAny_compLoop_tests J ?_ (l.length+1)
   (jI _ _ ⟨h₁,0,σ,Z,_,[],vs,[],0,rfl,rfl,rfl,KG _,rfl,he,rfl,rfl,r1,rfl,rfl,ex1,ai,asN _ M2,asN _ (br _),hs1,st1,hns₁,hD1,rfl,fun i v x a=>by simp at a⟩)
  intro k s' hJ;refine gE fun E1=>?_;obtain ⟨h',i,σ1,Z1,mC,acc,us,ws,nn,rfl,hgs,hos,hi,rfl,he1,hacc,hlen,r1,e1,e2,ex1,aI,aC,aD,hs1,st1,hnC,hD1,hws1,hws2⟩:=jO _ _ hJ;have hws:=And.intro hws1 hws2;have okC:aJ W ⟨compEnvC scope [] H2.objs.size c.env⟩:=⟨by refine (?_:(relabel scope c.env).kind=_);change uA k3;exact k1,ok.glob,ok.blt⟩
  have nmC:(Cx.fd ⟨compEnvC scope [] H2.objs.size c.env⟩).scope.names=scope.names:=by refine (?_:(relabel scope c.env).names=_);(change uA k3;with_reducible rfl)
  by_cases hlt:i < l.length
  ·refine iF (K.item i _ _ _ hlt st1 fun v h2 tk2 yv hyv hv st2 hk2 hsz2=>?_);rw [xv hyv] at he1;have key:∃ yb σ2 us',R.e body { σ1 with heap:=[],loc:=[(y,.v yv)] }=some (.v yb,σ2)∧d0 R y body (l.drop (i+1)) { σ2 with heap:=σ1.heap,loc:=σ1.loc }=some (us',σ')∧us=yb::us':=by
    dsimp only [d0] at he1;revert he1;refine aV (bt R body { σ1 with heap:=[],loc:=[(y,.v yv)] }) ?_ ?_
    ·intro he1;exact a0 he1
    ·intro w q he1;obtain ⟨yb,σ2⟩:=w;refine ah he1 fun us' σ3 g1 g2=>?_
     (revert h;refine aR g2 ?_;intro h)
     exact gP yb σ2 us' (cn q) g1 rfl
   (refine cJ key ?_;(try clear key);clear he1;rintro yb σ2 us' g1 g2 rfl)
   have o2:=ae.of (qh M) g2 o;have o2:ae σ2:=fun p hp=>o2 p hp;have aI1:bP Z1 ρ σ1.heap c.L I:=e1▸aI;have aC1:bP Z1 ρ σ1.heap c.L H2.objs.size:=e1▸aC;have r2:=r1.but aI1 hk2;have ex2:aA Z ρ h₀ c.L σ.heap Z1 ρ h2 σ.heap:=by
    have:=aA.but (σ:=σ1) (e1▸ex1) hge hsz2 hk2;rw [e1] at this;exact this
   have hnC2:h2.Ns H2.objs.size mC:=hnC.at' fun o e=>hk2 _ o (fun q=>hIC q.symm) e;have hD2:h2.get? s.heap.objs.size=some (bn ws nn):=hk2 _ _ (fun q=>hID q.symm) hD1;refine gE fun E2=>?_;refine wpAny_assign_Name (LF (s:={ s' with heap:=h2,toks:=tk2 }) (by (refine aU (show (compEnvC scope [] H2.objs.size c.env)=(Cx.env ⟨compEnvC scope [] H2.objs.size c.env⟩) from rfl) ?_;change fh;change nmC);exact hkk) hnC2 (fun h3 hn3 hs3=>?_) (mj okC));have hs3':Heap.SameBut H2.objs.size h2 h3:=hs3;have kC:∀ b o,b≠H2.objs.size→h2.get? b=some o→h3.get? b=some o:=fun b o hb e=>hs3'.extBut b o hb e;have r3:=r2.but aC1 kC;have ex3:aA Z ρ h₀ c.L σ.heap Z1 ρ h3 σ.heap:=aA.but ex2 M2 (by change hs3'.1;exact br _) kC;refine gE fun E3=>?_;refine wpAny_tests_nil ?_;refine gE fun E4=>?_;simp only [if_true];have rin:=r3.compIn (y:=y) (v:=v) (yv:=yv) aC1 hn3 (by simp) (aa.mono ex1.z hv);refine H ⟨compEnvC scope [] H2.objs.size c.env⟩ n body elt _ σ2 (.v yb) Z1 [] _ { s' with heap:=h3,toks:=tk2+1 } A _ _ okC (by change nmC;exact hc) g1 o2 rin rm fun vb s4 Z4 ρ4 m4 r4 hvb ex4 hg4 ho4=>?_
   (refine bb (r3.compOut aC1 (by change e1;exact ex3) M2 r4 ex4) ?_;rintro r5 ex5 as5)
   have sz3:s.heap.objs.size+2≤h3.objs.size:=by change hs3'.1;exact Kl hs1 hsz2
   have hD4:s4.heap.get? s.heap.objs.size=some (bn ws nn):=ex4.keep _ _ (kC _ _ hDC hD2) gJ hDC;have hws1:ws.length≤sizeLine:=by (change hws.1;change hlen);exact Kl M1 M1
   refine append_at (hsz:=by change KH;exact hws1) hD4 fun h5 hs5 hD5=>?_;have kD:∀ b o,b≠s.heap.objs.size→s4.heap.get? b=some o→h5.get? b=some o:=fun b o hb e=>hs5.extBut b o hb e;have aI5:=as5 I (KI hI (by exact Kl (KT _ _) M1)) aI1;have aC5:=as5 H2.objs.size M2 aC1;have aD5:=as5 s.heap.objs.size (by exact Li M1) (e1▸aD);have r6:=r5.but aD5 kD;have ex6:=aA.but (σ:={ σ2 with heap:=σ1.heap,loc:=σ1.loc }) ex5 h0s (by change hs5.1;exact br _) kD
   (refine aw (yU (Z:=Z4) hws.1 (fun j u z a b=>aa.mono ex4.z (hws.2 j u z a b)) (hvb:aa W Z4 vb yb)) ?_;rintro w1 w2)
   refine ⟨l.length+1 - (i+1),by grind,jI _ _ ⟨h5,i+1,{ σ2 with heap:=σ1.heap,loc:=σ1.loc },Z4,m4,acc++[yb],us',ws++[vb],nn+1,rfl,hg4.trans hgs,ho4.trans hos,hlt,rfl,g2,by change Kw;exact hacc,by simp [hlen],r6,e1,e2,?_,?_,?_,?_,?_,?_,?_,?_,w1,w2⟩⟩
   ·have hx6:aA Z ρ h₀ c.L σ.heap Z4 ρ h5 σ1.heap:=ex6;rw [e1] at hx6;exact hx6
   ·refine aT (e1 ..) ?_;exact aI5
   ·refine aT (e1 ..) ?_;exact aC5
   ·refine aT (e1 ..) ?_;exact aD5
   ·change hs5.1;exact Kl sz3 ex4.size
   ·refine K.frame _ _ _ st2 fun b hb o' e=>?_;have bC:b≠H2.objs.size:=fun q=>by
     clear e;subst q;rcases hb with hb|hb
     ·exact hIC hb.symm
     ·exact hb (asN _ M2).z
    have bD:b≠s.heap.objs.size:=fun q=>by
     clear e bC;subst q;rcases hb with hb|hb
     ·exact hID hb.symm
     ·exact hb (asN _ (br _)).z
    exact kD b o' bD (ex4.keep b o' (kC b o' bC e) gJ bC)
   ·exact r4.ns.sameBut hs5 hDC.symm
   ·change hD5;simp
  ·clear hJ;obtain rfl:i=l.length:=Nat.le_antisymm hi (KY.mp hlt);rw [List.drop_length] at he1;clear e2;cases (he1);refine iF (K.done _ _ _ st1 fun h2 tk2 hk2 hsz2=>?_);have r2:=r1.but (e1▸aI) hk2;have ex2:aA Z ρ h₀ c.L σ.heap Z1 ρ h2 σ'.heap:=by
    have:=aA.but (σ:=σ') (e1▸ex1) hge hsz2 hk2;rw [e1] at this;change e1;exact this
   have hnC2:h2.Ns H2.objs.size mC:=hnC.at' fun o e=>hk2 _ o (fun q=>hIC q.symm) e;have hD2:h2.get? s.heap.objs.size=some (bn ws nn):=hk2 _ _ (fun q=>hID q.symm) hD1
   (refine bb (r2.addAside (h₀:=h₀) (e1▸aD) hD2 h0s ex2) ?_;rintro r3 ex3 as3)
   have hv:acc=vs:=by (refine aT (hacc ..) ?_;change Kt;with_reducible rfl)
   refine h _ _ { s' with heap:=h2,toks:=tk2 } _ mC hnC2 r3 ?_ ex3 (as3 _ hDC.symm (e1▸aC)) M2 hgs hos;refine aT (hv ..) ?_;exact .lst kH (by (change hws.1;change hlen);exact hsz) hws.1 fun j u z a b=>aa.mono (iB aD.z) (hws.2 j u z a b)
 exact codeAny_compStart_list (loop _ rfl) (K.self 0 _ _ _ st1 (loop _ rfl))
end
set_option tactic.hygienic true
noncomputable def kI (W:Wd) (d:Nat) (cp:Nat→CE→List V→Mo (List V)):Prop:=
 ∀ (c:Cx) (n y:Nat) (body:CE) (elt iter tg:Expr) (scope:Scope) (pos:Pos) (l vs:List V) (σ σ':St) (Z:ZM) (ρ:List (Addr×Addr)) (m:Str→Option Value) (s:Shared) (A:Around) (E:Value→Shared→Prop) (I:Addr) (St:Nat→Heap→Prop) (h₀:Heap) (RR:Value→Addr→Result→Shared→Prop),
  aJ W c→aL A d→gX scope=true→cO W.T scope.names y tg=true→al W.T scope.names n body elt=true→l.length≤sizeLine→cp y body l σ=some (vs,σ')→ae σ'→a9 W Z ρ s.heap c.L m σ→Wk W A Z I l St→St 0 s.heap→bP Z ρ σ.heap c.L I→I < s.heap.objs.size→
  h₀.objs.size≤I→aA Z ρ h₀ c.L σ.heap Z ρ s.heap σ.heap→
  (∀ D C s' Z' mC,s'.heap.Ns C mC→a9 W Z' ρ s'.heap c.L m σ'→aa W Z' (.ref D) (.lst vs)→aA Z ρ h₀ c.L σ.heap Z' ρ s'.heap σ'.heap→bP Z' ρ σ'.heap c.L C→h₀.objs.size≤C→s'.gens=s.gens→s'.os=s.os→RR (.ref D) C (.ok .next) s')→
  wpAny (model W.prog W.w) A (newList []) (fun acc s₃=>wpAny (model W.prog W.w) A (newFunctionEnv scope c.env.globals [] [] c.env.qual none .none (some c.env)) (fun cenv s₄=>
   codeAny (model W.prog W.w) A (.compStart (.ListComp elt [⟨tg,iter,[],0⟩] scope pos) 0 (.ref I) acc { cenv with scope:=relabel scope c.env }) (RR acc cenv.locals) s₄) E s₃) E s
section
variable {W:Wd} {d:Nat} {R:ao} {c:Cx} {n:Nat} {e:Expr} {σ σ':St} {x:X} {Z:ZM} {ρ:List (Addr×Addr)} {m:Str→Option Value} {s:Shared} {A:Around} {E:Value→Shared→Prop}
theorem BF (F:Facts W) (H:SE W d R.e) (M:aS R):kI W d (fun x c l=>d0 R x c l):=
 fun c n y body elt iter tg scope pos l vs σ σ' Z ρ m s A E I St h₀ RR ok rm hs hk hc hsz he o r K st ai hI hge ex0 h=>AP F H M ok rm hs hk hc hsz he o r K st ai hI hge ex0 h
theorem IH {y:Nat} (hc:al W.T c.fd.scope.names (n+1) (.comp y body src) e=true):∃ elt tg it scope pos,e=.ListComp elt [⟨tg,it,[],0⟩] scope pos∧al W.T c.fd.scope.names n src it=true∧ic it=true∧gX scope=true∧cO W.T scope.names y tg=true∧al W.T scope.names n body elt=true:=by
 dsimp only [al] at hc;refine v5 hc fun elt tg it scope p hc=>?_;refine eF hc fun h1 h2 h3 h4 h5=>?_;exact ⟨_,_,_,_,_,rfl,h1,h2,h3,h4,h5⟩
theorem xM {y:Nat} {tg :Expr} {ps :Pos} {use:Option (Value→Sem Unit)} {Q:Value→Shared→Prop} (HC:kI W d R.cp) (H:SE W d R.e) (M:aS R) (ok:aJ W c) (h1:al W.T c.fd.scope.names n src it=true) (h2:ic it=true) (h3:gX scope=true) (h4:cO W.T scope.names y tg=true)
  (h5:al W.T scope.names n body elt=true) (hx:bh W.T R (.comp y body src) σ=some (x,σ')) (o:ae σ') (r:a9 W Z ρ s.heap c.L m σ) (rm:aL A d)
  (h:∀ D C s' Z' ρ' m' mC,s'.heap.Ns C mC→a9 W Z' ρ' s'.heap c.L m' σ'→bg W Z' ρ' (.ref D) x→aA Z ρ s.heap c.L σ.heap Z' ρ' s'.heap σ'.heap→bP Z' ρ' σ'.heap c.L C→s.heap.objs.size≤C→s'.gens=s.gens→s'.os=s.os→compPost (model W.prog W.w) A E use Q (.ref D) C (.ok .next) s'):
  wpAny (model W.prog W.w) A (comprehension (.ListComp elt [⟨tg,it,[],0⟩] scope pos) scope c.env ps (newList []) false (eval it c.env) use) Q E s:=by
 (refine jc (xN h3) ?_;rintro k1 k2 k3 k4)
 refine ah hx fun y0 σ₁ g1 g2=>?_;refine ah g2 fun l σ₂ g3 g4=>?_;refine ah g4 fun vs σ₃ g5 g6=>?_
 (refine aw (bi g6) ?_;clear hx g4 g6;clear g2;rintro rfl rfl)
 have o2:=ae.of (M.cp _ _ _) g5 o;refine wpAny_comprehension_free (g:=⟨tg,it,[],0⟩) (gs:=[]) (cl:=[]) rfl (rl h2) (IN k3) k1 k4 ?_;refine H c n src it σ σ₁ y0 Z ρ m s A _ E ok h1 g1 (ae.of qd g3 o2) r rm fun v s1 Z1 ρ1 m1 r1 hy ex1 hg1 ho1=>?_;have e3:σ₂=σ₁:=wk g3;clear g1;subst e3;refine tw (c:=c) rm.2.2 g3 r1 hy fun oI St hsz K st=>?_;have up:∀ b o,s1.heap.get? b=some o→(s1.heap.push oI).get? b=some o:=fun b o e=>Heap.get?_push_of_some _ e;have r2:=r1.grow up (by change Kz;exact KJ _);have ex2:aA Z1 ρ1 s1.heap c.L σ₂.heap Z1 ρ1 (s1.heap.push oI) σ₂.heap:=aA.grow up (by change Kz;exact KJ _);refine HC c n y body elt it tg scope pos l vs σ₂ σ' Z1 ρ1 m1 { s1 with heap:=s1.heap.push oI } A E s1.heap.objs.size St s1.heap (fun acc C=>compPost (model W.prog W.w) A E use Q acc C) ok rm h3 h4 h5 hsz g5 o r2 K st (bP.new r1) (by refine (?_:_ < (s1.heap.push oI).objs.size);change Kz;exact KC _) (br _) ex2 fun D C s' Z' mC hn r3 hv ex3 aC hge hg3 ho3=>?_;exact h D C s' Z' ρ1 m1 mC hn r3 hv (ex1.trans ex3) aC (Kl ex1.size hge) (hg3.trans hg1) (ho3.trans ho1)
theorem AS {y:Nat} {Q:Value→Shared→Prop} (HC:kI W d R.cp) (H:SE W d R.e) (M:aS R) (ok:aJ W c) (hc:al W.T c.fd.scope.names (n+1) (.comp y body src) e=true) (hx:bh W.T R (.comp y body src) σ=some (x,σ')) (o:ae σ') (r:a9 W Z ρ s.heap c.L m σ) (rm:aL A d) (h:EP W c Z ρ s σ.heap σ' x Q):wpAny (model W.prog W.w) A (eval e c.env) Q E s:=by
 obtain ⟨elt,tg,it,scope,pos,rfl,h1,h2,h3,h4,h5⟩:=IH hc;change eval_ListComp;refine xM HC H M ok h1 h2 h3 h4 h5 hx o r rm fun D C s' Z' ρ' m' mC hn r' hv ex aC hge hg ho=>?_;refine aF mC hn (fun h' hs'=>?_);have kC:∀ b o,b≠C→s'.heap.get? b=some o→h'.get? b=some o:=fun b o hb e=>hs'.extBut b o hb e;exact h _ { s' with heap:=h' } Z' ρ' m' (r'.but aC kC) hv (aA.but ex hge (by change hs'.1;exact br _) kC) hg ho
theorem AW {ca cb:CE} {Q:Value→Shared→Prop} (H:SE W d R.e) (M:aS R) (ok:aJ W c) (hc:al W.T c.fd.scope.names (n+1) (.cat2 ca cb) e=true) (hx:bh W.T R (.cat2 ca cb) σ=some (x,σ')) (o:ae σ') (r:a9 W Z ρ s.heap c.L m σ) (rm:aL A d) (h:EP W c Z ρ s σ.heap σ' x Q):wpAny (model W.prog W.w) A (eval e c.env) Q E s:=by
 refine DB hc ?_;clear hc;intro a p1 b p2 p hc;refine d9 hc fun c1 c2=>?_;refine ah hx fun u σ₁ g1 g2=>?_;refine ah g2 fun v σ₂ g3 g4=>?_;clear g2;induction u using V.casesOn<;>first|exact a0 g4|skip
 induction v using V.casesOn<;>first|exact a0 g4|skip
 rename_i s1 t1;refine ah g4 fun _ σ₃ g5 g6=>?_;have g5:=eQ g5
 (refine aw (bi g6) ?_;clear hx g4 g6;rintro rfl rfl)
 have ob:=o (s1.length+t1.length≤lim) (by change g5;exact .head _);have o2:ae σ₂:=fun q hq=>o q (by change g5;exact .tail _ hq);refine PyProof.Rows.JoinedStr_many (PyProof.Rows.joinParts_cons (wpAny_FormattedValue_s ?_));refine H c n ca a σ σ₁ (.v (.str s1)) Z ρ m s A _ E ok c1 (cn g1) (ae.of (bk M) g3 o2) r rm fun va sa Z1 ρ1 m1 r1 hv ex1 hg1 ho1=>?_;have hv:aa W Z1 va (.str s1):=hv
 (refine am (aa.inv hv) ?_;clear hv;clear hv;rintro _ rfl hb1)
 have hz1:(aq s1).length≤sizeLine:=by change ct;exact hb1
 refine PyProof.Rows.habitSame_str (fun t' tk=>PyProof.Rows.formatField_str (fun t'' tk'=>?_) hz1) hz1;have e0:Str.empty++aq s1=aq s1:=l6 [] s1;dsimp only;change e0;refine ⟨hz1,PyProof.Rows.joinParts_cons (wpAny_FormattedValue_s ?_)⟩;refine H c n cb b σ₁ σ₂ (.v (.str t1)) Z1 ρ1 m1 { sa with toks:=tk' } A _ E ok c2 (cn g3) o2 r1 rm fun vb sb Z2 ρ2 m2 r2 hv2 ex2 hg2 ho2=>?_;have hv2:aa W Z2 vb (.str t1):=hv2
 (refine am (aa.inv hv2) ?_;clear hv2;clear hv2;rintro _ rfl hb2)
 have hz2:(aq t1).length≤sizeLine:=by change ct;exact hb2
 refine PyProof.Rows.habitSame_str (fun t3 tk3=>PyProof.Rows.formatField_str (fun t4 tk4=>?_) hz2) hz2;dsimp only;change l6;have hz3:(aq (s1++t1)).length≤sizeLine:=by (change ct;change Kn);exact Kl ob dY
 refine ⟨hz3,PyProof.Rows.joinParts_nil ?_ hz3⟩;exact h _ { sb with toks:=tk4+1 } _ _ _ (r2.same (by (change g5;with_reducible rfl)) (by (change g5;with_reducible rfl))) (aa.str (by refine aT (ct ..) ?_;exact hz3)) (by refine aU (show σ'.heap=σ₂.heap by (change g5;with_reducible rfl)) ?_;exact ex1.trans ex2) (hg2.trans hg1) (ho2.trans ho1)
theorem BD (F:fC W) (H:SE W d R.e) (HT:hH W d R.t) (HC:kI W d R.cp) (HF:fB W d R.fn) (HL:jl R.fn) (M:aS R):SE W d (bh W.T R):=by
 intro c n ce e σ σ' x Z ρ m s A Q E ok hc hx o r rm h;induction n using Nat.casesOn with
 |zero=>exact ac hc
 |succ n=>
  have F2:=F.toFacts2;have F1:=F2.toFacts;induction ce using CE.casesOn
  case k v=>(revert o h;refine aR hx ?_;intro o h);exact AA hc r h
  case n y=>
   have hx:(match look σ.loc y with|some z=>some (z,σ)|none=>none)=some (x,σ'):=hx;revert hx;refine aV (look σ.loc y) ?_ ?_
   ·intro hx;exact a0 hx
   ·intro z q hx;(have za:=(af hx).1;have zb:=(af hx).2;clear hx;clear hx;obtain rfl:=za;clear o;obtain rfl:=zb);exact tG ok hc q r h
  case g y=>exact AI F2 ok hc hx r h
  case a ce f=>exact B6 F1 ok H M hc hx o r rm h
  case not ce=>exact Aq H M ok hc hx o r rm h
  case and l=>exact B4 H M ok hc hx o r rm h
  case or l=>exact Ap H M ok hc hx o r rm h
  case ife t b oe=>exact AD H HT M ok hc hx o r rm h
  case bin op l re=>exact B1 H M ok hc hx o r rm h
  case neg ce=>exact Au H M ok hc hx o r rm h
  case cmp l ops=>exact AT H M ok hc hx o r rm h
  case isi ce cs=>exact AC F H M ok hc hx o r rm h
  case len ce=>exact Ay F2 H M ok hc hx o r rm h
  case tup l=>exact Ae H M ok hc hx o r rm h
  case lst l=>exact Aw H M ok hc hx o r rm h
  case newl l=>exact As H M ok hc hx o r rm h
  case nil k=>exact Ar ok hc hx o r h
  case catn l re=>exact AV H M ok hc hx o r rm h
  case frz ce=>exact AJ H M ok hc hx o r rm h
  case idx ce ci=>exact AH F2 H M ok hc hx o r rm h
  case sl ce a b=>exact Ak H M ok hc hx o r rm h
  case call y f iso as ks=>exact AX F2 ok H HF HL M hc hx o r rm h
  case new y k fz as ks=>exact At F2 ok H HF M hc hx o r rm h
  case meth ce mn as ks=>exact Av F2 ok H HF HL M hc hx o r rm h
  case fcall ce f=>exact AM F2 ok H HF HL M hc hx o r rm h
  case app ce cx=>exact B3 H M ok hc hx o r rm h
  case pop ce=>exact Am H M ok hc hx o r rm h
  case pop0 ce=>exact Al H M ok hc hx o r rm h
  case ext ce cx=>exact AN H M ok hc hx o r rm h
  case starts ce cx=>exact Aj H M ok hc hx o r rm h
  case join ce cx=>exact AB H M ok hc hx o r rm h
  case fmt ce cx=>exact AL H M ok hc hx o r rm h
  case keysS ce=>exact Az F H M ok hc hx o r rm h
  case copyD ce=>exact AR F H M ok hc hx o r rm h
  case rng ce=>exact a0 hx
  case comp y body src=>exact AS HC H M ok hc hx o r rm h
  case dnil=>exact AQ F.top ok hc hx o r h
  case cat2 ca cb=>exact AW H M ok hc hx o r rm h
  case orz ce=>exact Ao H M ok hc hx o r rm h
  case blur ce=>exact AY H M ok hc hx o r rm h
  case pin ce=>exact An H M ok hc hx o r rm h
  case idxq ce ci=>exact AF F2 H M ok hc hx o r rm h
  case unq l ce=>exact Ac H M ok hc hx o r rm h
  case stuck=>exact a0 hx
end
set_option backward.match.sparseCases true
theorem n8 {t:Option Expr} (h:gI e=true):swapsWith e t line env=pure false:=by
 induction e using Expr.casesOn<;>first|((first|exact ac h|cases h);done)|rfl
theorem FD {c:Cx} (ok:aJ W c):interactive c.env=false:=by
 have:c.env.scope.kind=.function:=ok.kind;dsimp only [interactive];change this;rfl
theorem D4 {α:Type} (l:List (Nat×α)) (k:Nat) (v:α):(put l k v).length=if (look l k).isSome then l.length else l.length+1:=by
 induction l with
 |nil=>rfl
 |cons p l ih=>
  unfold put look;induction q:Nat.beq p.1 k using Bool.casesOn with
  |true=>rfl
  |false=>
   dsimp only
   (change Ko;change ih;change Ko)
   split<;>rfl
section
variable {W:Wd} {d:Nat} {R:ao} {c:Cx} {n:Nat} {t:Stmt} {σ σ':St} {fl:Fl} {Z:ZM} {ρ:List (Addr×Addr)} {m:Str→Option Value} {s:Shared} {A:Around} {Q:Flow→Shared→Prop} {E:Value→Shared→Prop}
set_option tactic.hygienic true in
theorem BC {ob y:X} {u:Unit} {G:Prop} (h:iK T ob f y σ=some (u,σ')) (K:∀ k cc fs l,ob=.r k→σ.heap[k]?=some (.ins cc fs)→look T.flds cc=some l→bq l f=true→fs.length≤1000→σ'={ σ with heap:=eN σ.heap k (.ins cc (put fs f y)) }→G):G:=by
 induction ob using X.casesOn<;>first|exact a0 h|skip
 rename_i k;refine ah h fun cl σ₁ g1 g2=>?_
 (revert g2;refine dR g1 fun hc=>?_;intro g2)
 clear g1;induction cl using a8.casesOn<;>first|exact a0 g2|skip
 rename_i cc fs;refine ah g2 fun l σ₂ g3 g4=>?_
 (revert g4;refine dZ g3 fun hl=>?_)
 refine d8 (bq l f) (fun _ h=>a0 h) fun q1=>?_;refine d8 (Nat.ble fs.length 1000) (fun _ h=>a0 h) fun q2 g4=>?_;dsimp only at g4;rw [nH,gD] at g4;exact K k cc fs l rfl hc hl q1 (KB q2) (af g4).2.symm
theorem pU {y ob:X} {v :Value} {u:Unit} {Q:Unit→Shared→Prop} (F:Facts W) (hs:iK W.T ob f y σ=some (u,σ')) (r:a9 W Z ρ s.heap c.L m σ) (ho:bg W Z ρ vo ob) (hy:bg W Z ρ v y)
  (h:∀ s',a9 W Z ρ s'.heap c.L m σ'→aA Z ρ s.heap c.L σ.heap Z ρ s'.heap σ'.heap→s'.gens=s.gens→s'.os=s.os→Q Unit.unit s'):wpAny (model W.prog W.w) A (setAttr vo (W.T.nm f) v) Q E s:=by
 refine BC hs fun k cc fs l hx hc hl q1 q2 hσ=>?_;clear hs;subst hx;subst hσ
 (refine am ho ?_;(try clear ho);rintro p hp rfl)
 obtain ⟨hi,mm,hd,fo,fr,fe⟩:=r.at hp hc;have hne:=r.two _ _ _ _ hp hc;refine Bv F r.kin hi hd q2 ⟨l,hl,q1⟩ fun h' t' hd' hs'=>?_;have hadr:∀ a,a∈b9 p (.ins cc (put fs f y))→a∈b9 p (.ins cc fs):=fun a q=>q;have hiff:(mm (W.T.nm f)).isSome=(look fs f).isSome:=by
  induction q:look fs f using Option.casesOn with
  |some z=>(refine am (fr f z q) ?_;rintro w a _);change a;rfl
  |none=>
   induction q':mm (W.T.nm f) using Option.casesOn with
   |none=>rfl
   |some w=>(refine aN (fe _ _ q') ?_;rintro n' x' a b);have:=F.inj _ _ b;clear h hd' hadr q' b;clear q1;subst this;rw [q] at a;exact a0 a
 have hcell:eK W h' Z ρ p (.ins cc (put fs f y)):=by
  refine ⟨by change hs'.2 p.1 hne;exact hi,_,by (change D4;refine aT (hiff ..) ?_);exact hd',fun n' x' e=>?_,fun n' x' e=>?_,fun nm w e=>?_⟩
  ·rw [gg] at e
   split at e
   ·rename_i q;subst q;exact aF l hl q1
   ·exact fo n' x' e
  ·rw [gg] at e
   split at e
   ·rename_i q;subst q;(replace e:=Kj e;obtain rfl:=e);exact aF v (by (change Ks rfl;with_reducible rfl)) hy
   ·rename_i q
    (refine am (fr n' x' e) ?_;rintro w a b)
    exact aF w (by change Kp (fun z=>q (F.inj _ _ z).symm);exact a) b
  ·split at e
   ·rename_i q;subst q;exact bI f y (by (change gg;change Ks rfl;with_reducible rfl)) rfl
   ·rename_i q
    (refine aN (fe _ _ e) ?_;rintro n' x' a b)
    refine bI n' x' ?_ b
    (change gg;change Kp (fun z=>q (by clear a;subst z;exact b.symm)))
    exact a
 have ha:p.2∈b9 p (.ins cc fs):=.tail _ (.head _);refine h { s with heap:=h',toks:=t' } ?_ ?_ rfl rfl
 ·have:=r.upd hp hc ha hs' hcell hadr (fun _ _ _=>hne);rw [← iL] at this;exact this
 ·have:=aA.upd (Z:=Z) (L:=c.L) hp hc ha hs' hadr;rw [← iL] at this;exact this
set_option tactic.hygienic true in
theorem BE {y:X} {fl:Fl} (h:uE y σ=some (fl,σ')):fl=.next∧σ'=σ:=by
 induction y using X.casesOn<;>first|exact a0 h|skip
 rename_i v;induction v using V.casesOn<;>first|exact a0 h|exact bi h
theorem yJ {y:CE} (H:SE W d R.e) (M:aS R) (ok:aJ W c) (hc:cR W.T c.fd.scope.names (n+1) (.e y) t=true) (hx:bN W.T R (.e y) σ=some (fl,σ')) (o:ae σ') (r:a9 W Z ρ s.heap c.L m σ) (rm:aL A d) (h:FP W c Z ρ s σ.heap σ' fl Q):wpAny (model W.prog W.w) A (exec t c.env) Q E s:=by
 refine BN hc ?_;clear hc;intro e p hc;have hc:=L3.mp hc;refine ah hx fun x σ₁ g1 g2=>?_;have e2:fl=.next∧σ'=σ₁:=BE g2
 (refine aw e2 ?_;(try clear e2);clear hx g2;rintro rfl rfl)
 refine wpAny_Expr_any ?_ (FD ok) (n8 hc.2);exact H c n y e σ _ x Z ρ m s A _ E ok hc.1 g1 o r rm fun v s' Z' ρ' m' r' hv ex hg ho=>h _ _ _ _ _ r' .next ex hg ho
theorem yF {y:CE} (H:SE W d R.e) (M:aS R) (ok:aJ W c) (hc:cR W.T c.fd.scope.names (n+1) (.ret y) t=true) (hx:bN W.T R (.ret y) σ=some (fl,σ')) (o:ae σ') (r:a9 W Z ρ s.heap c.L m σ) (rm:aL A d) (h:FP W c Z ρ s σ.heap σ' fl Q):wpAny (model W.prog W.w) A (exec t c.env) Q E s:=by
 refine uk hc ?_;clear hc;intro oe p hc;induction oe using Option.casesOn with
 |none=>exact ac hc
 |some e=>
 skip;refine ah hx fun x σ₁ g1 g2=>?_
 (revert o h;refine aR g2 ?_;intro o h)
 exact wpAny_Return_some (H c n y e σ _ x Z ρ m s A _ E ok hc g1 o r rm fun v s' Z' ρ' m' r' hv ex hg ho=>h _ _ _ _ _ r' (.ret hv) ex hg ho)
theorem yE (hc:cR W.T c.fd.scope.names (n+1) .ret0 t=true) (hx:bN W.T R .ret0 σ=some (fl,σ')) (r:a9 W Z ρ s.heap c.L m σ) (h:FP W c Z ρ s σ.heap σ' fl Q):wpAny (model W.prog W.w) A (exec t c.env) Q E s:=by
 refine uk hc fun oe p hc=>?_;obtain rfl:=Lp.mp hc
 (revert h;refine aR hx ?_;intro h)
 exact wpAny_Return_none (h _ _ _ _ _ r (.ret (x:=.v .none) aa.none) .refl rfl rfl)
theorem yG (hc:cR W.T c.fd.scope.names (n+1) .pass t=true) (hx:bN W.T R .pass σ=some (fl,σ')) (r:a9 W Z ρ s.heap c.L m σ) (h:FP W c Z ρ s σ.heap σ' fl Q):wpAny (model W.prog W.w) A (exec t c.env) Q E s:=by
 refine BK hc fun p=>?_
 (revert h;refine aR hx ?_;intro h)
 exact wpAny_Pass (h _ _ _ _ _ r .next .refl rfl rfl)
theorem yH {y:CE} {a b:List CS} (HT:hH W d R.t) (HS:SS W d R.ss) (M:aS R) (ok:aJ W c) (hc:cR W.T c.fd.scope.names (n+1) (.ife y a b) t=true) (hx:bN W.T R (.ife y a b) σ=some (fl,σ')) (o:ae σ') (r:a9 W Z ρ s.heap c.L m σ) (rm:aL A d) (h:FP W c Z ρ s σ.heap σ' fl Q):wpAny (model W.prog W.w) A (exec t c.env) Q E s:=by
 refine BL hc ?_;clear hc;intro e l rr p hc;refine cq hc fun c1 c2 c3=>?_;refine ah hx fun q σ₁ g1 g2=>?_;have o1:ae σ₁:=by clear g1;induction q using Bool.casesOn<;>exact ae.of (M.ss _) g2 o
 refine wpAny_If (HT c n y e σ σ₁ q Z ρ m s A _ E ok c1 g1 o1 r rm fun s' Z' ρ' m' r' ex hg ho=>?_);clear g1;induction q using Bool.casesOn with
 |true=>exact HS c n a l σ₁ σ' fl Z' ρ' m' s' A Q E ok c2 g2 o r' rm fun g s2 Z2 ρ2 m2 r2 hf ex2 hg2 ho2=>h _ _ _ _ _ r2 hf (ex.trans ex2) (hg2.trans hg) (ho2.trans ho)
 |false=>exact HS c n b rr σ₁ σ' fl Z' ρ' m' s' A Q E ok c3 g2 o r' rm fun g s2 Z2 ρ2 m2 r2 hf ex2 hg2 ho2=>h _ _ _ _ _ r2 hf (ex.trans ex2) (hg2.trans hg) (ho2.trans ho)
theorem tM {v:Value} {x:X} (F:Facts W) (ok:aJ W c):∀ (xs:List Nat) (ts:List Expr) (σ σ':St) (u:Unit) (m:Str→Option Value) (s:Shared) (Q:Unit→Shared→Prop),aY (cO W.T c.fd.scope.names) xs ts=true→jA xs x σ=some (u,σ')→a9 W Z ρ s.heap c.L m σ→bg W Z ρ v x→
  (∀ s' m',a9 W Z ρ s'.heap c.L m' σ'→aA Z ρ s.heap c.L σ.heap Z ρ s'.heap σ'.heap→s'.gens=s.gens→s'.os=s.os→Q Unit.unit s')→wpAny (model W.prog W.w) A (assignAll v ((assignEach ts c.env).map (·.2))) Q E s
 |[],ts,σ,σ',u,m,s,Q,hc,hx,r,hv,h=>by
  change ef hc
  (revert h;refine aR hx ?_;intro h)
  exact Kv (h s m r .refl rfl rfl)
 |y::xs,ts,σ,σ',u,m,s,Q,hc,hx,r,hv,h=>by
  (refine be (cU hc) ?_;rintro e es rfl h1 h2)
  (refine am (gh h1) ?_;clear h1;rintro p rfl hk)
  refine ah hx fun u1 σ₁ g1 g2=>?_;rw [fV] at g1
  (have za:=(af g1).1;have zb:=(af g1).2;clear g1;obtain rfl:=za;obtain rfl:=zb)
  have one:∀ (Q:Unit→Shared→Prop),(∀ s' m',a9 W Z ρ s'.heap c.L m' { σ with loc:=put σ.loc y x }→aA Z ρ s.heap c.L σ.heap Z ρ s'.heap σ.heap→s'.gens=s.gens→s'.os=s.os→Q Unit.unit s')→wpAny (model W.prog W.w) A (assign (.Name (W.T.nm y) p) c.env v) Q E s:=
   fun Q hQ=>nh F ok hk r hv fun h' tk m' r' ex=>hQ { s with heap:=h',toks:=tk } m' r' ex rfl rfl
  clear hx;induction xs using List.casesOn with
  |nil=>
   change ef h2
   (revert h;refine aR g2 ?_;intro h)
   refine (?_:wpAny _ _ (assign (.Name (W.T.nm y) p) c.env v) _ _ _);exact one _ fun s' m' r' ex hg ho=>h s' m' r' ex hg ho
  |cons z xs=>
   (refine be (cU h2) ?_;clear hc;rintro e2 es2 rfl h3 h4)
   (refine am (gh h3) ?_;clear h3;rintro p2 rfl hk2)
   refine (?_:wpAny _ _ (do holding [v] (assign (.Name (W.T.nm y) p) c.env v);assignAll v ((assignEach (.Name (W.T.nm z) p2::es2) c.env).map (·.2))) _ _ _);refine Km (L1 (one _ fun s' m' r' ex hg ho=>?_));exact tM F ok (z::xs) _ _ _ u m' s' Q h2 g2 r' hv fun s2 m2 r2 ex2 hg2 ho2=>h s2 m2 r2 (ex.trans ex2) (hg2.trans hg) (ho2.trans ho)
theorem zM {xs:List Nat} {sc:List (Str×NameKind)} (h:aY (cO W.T sc) xs ts=true):swappedStores ts e env=pure none:=by
 induction xs using List.casesOn with
 |nil=>change ef h;rfl
 |cons y xs=>
  (refine be (cU h) ?_;rintro e1 es rfl h1 h2)
  (refine am (gh h1) ?_;clear h1;clear h;rintro p rfl _)
  clear h2;induction es using List.casesOn<;>rfl
theorem pR {xs:List Nat} (h:gI e=true):swapsWithSole ts e line env=pure false:=by
 induction ts using List.casesOn with
 |nil=>rfl
 |cons t ts=>induction ts using List.casesOn with
  |nil=>exact n8 h
  |cons=>rfl
theorem Jj {xs:List Nat} {y:CE} {p:Pos} (F:Facts W) (H:SE W d R.e) (M:aS R) (ok:aJ W c) (c1:aY (cO W.T c.fd.scope.names) xs ts=true) (c2:al W.T c.fd.scope.names n y e=true) (c3:gI e=true)
  (hx:bN W.T R (.asg xs y) σ=some (fl,σ')) (o:ae σ') (r:a9 W Z ρ s.heap c.L m σ) (rm:aL A d) (h:FP W c Z ρ s σ.heap σ' fl Q):wpAny (model W.prog W.w) A (exec (.Assign ts e p) c.env) Q E s:=by
 refine ah hx fun x σ₁ g1 g2=>?_;refine ah g2 fun u σ₂ g3 g4=>?_
 (revert o h;refine aR g4 ?_;intro o h)
 refine wpAny_Assign_stores ?_ (pR (xs:=xs) c3) (zM c1);refine H c n y e σ σ₁ x Z ρ m s A _ E ok c2 g1 (ae.of q9 g3 o) r rm fun v s' Z' ρ' m' r' hv ex hg ho=>?_;exact tM F ok xs ts σ₁ _ u m' s' _ c1 g3 r' hv fun s2 m2 r2 ex2 hg2 ho2=>h _ _ _ _ _ r2 .next (ex.trans ex2) (hg2.trans hg) (ho2.trans ho)
theorem yM {y :CE} (F:Facts W) (H:SE W d R.e) (M:aS R) (ok:aJ W c) (hc:cR W.T c.fd.scope.names (n+1) (.asgF ob f y) t=true) (hx:bN W.T R (.asgF ob f y) σ=some (fl,σ')) (o:ae σ') (r:a9 W Z ρ s.heap c.L m σ) (rm:aL A d) (h:FP W c Z ρ s σ.heap σ' fl Q):wpAny (model W.prog W.w) A (exec t c.env) Q E s:=by
 refine qt hc ?_;clear hc;intro tg e p hc;refine r9 hc ?_;clear hc;intro b a p1 hc;refine eG hc fun c1 c2 c3 c4=>?_;have c4:=dJ.mp c4;subst c4;refine plainObj_wpAny_Assign_Attribute ?_ (n8 c2);clear hc;rcases Jk hx with ⟨z,rfl,rfl,hx⟩|hx
 ·refine ah hx fun ox σ₁ g1 g2=>?_
  (refine aw (DT g1) ?_;clear hx;rintro hl rfl)
  clear g1;induction ox using X.casesOn with
  |v=>exact a0 g2
  |m=>exact a0 g2
  |r k=>
    dsimp only [qB] at g2;refine ah g2 fun yx σ₂ g3 g4=>?_;refine ah g4 fun u σ₃ g5 g6=>?_
    (revert o h;refine aR g6 ?_;intro o h)
    (have za:=(af g3).1;have zb:=(af g3).2;clear g3;clear g4;obtain rfl:=za;obtain rfl:=zb)
    induction n using Nat.casesOn with
    |zero=>exact ac c1
    |succ n=>
     refine nO c1 ?_;clear c1;intro es p c1;induction es using List.casesOn with
     |cons=>exact ac c1
     |nil=>
       refine LN (Le ⟨KG _,?_⟩)
       (refine bb (r.newCell (vs:=[]) (cl:=.bms k []) rfl (fun _ _ q=>by contradiction) ⟨[],0,Heap.get?_push_size _ rfl,KG _,rfl,fun i v x a=>by simp at a⟩) ?_;rintro k1 k2 k3)
       refine tG (σ:={ σ₁ with heap:=σ₁.heap++[.bms k []] }) (x:=.r k) ok c3 hl k1 fun v s' Z' ρ' m' r' hv ex hg ho=>?_;exact pU F g5 r' hv (k2.mono ex.z ex.r) fun s2 r2 ex2 hg2 ho2=>h _ _ _ _ _ r2 .next ((k3.trans ex).trans ex2) (hg2.trans hg) (ho2.trans ho)
 ·refine ah hx fun x σ₁ g1 g2=>?_;refine ah g2 fun ox σ₂ g3 g4=>?_;refine ah g4 fun u σ₃ g5 g6=>?_
  (revert o h;refine aR g6 ?_;intro o h)
  have o2:=ae.of l0 g5 o;refine H c n y e σ σ₁ x Z ρ m s A _ E ok c1 g1 (ae.of (M.e _) g3 o2) r rm fun v s' Z' ρ' m' r' hv ex hg ho=>?_;refine H c n ob b σ₁ σ₂ ox Z' ρ' m' s' A _ E ok c3 g3 o2 r' rm fun vo s2 Z2 ρ2 m2 r2 hvo ex2 hg2 ho2=>?_;exact pU F g5 r2 hvo (hv.mono ex2.z ex2.r) fun s3 r3 ex3 hg3 ho3=>h _ _ _ _ _ r3 .next ((ex.trans ex2).trans ex3) (hg3.trans (hg2.trans hg)) (ho3.trans (ho2.trans ho))
end
set_option tactic.hygienic false
section
variable {W:Wd} {d:Nat} {R:ao} {c:Cx} {n:Nat} {t:Stmt} {σ σ':St} {fl:Fl} {Z:ZM} {ρ:List (Addr×Addr)} {m:Str→Option Value} {s:Shared} {A:Around} {Q:Flow→Shared→Prop} {E:Value→Shared→Prop}
theorem Js {a b:V} {x z:List Nat} (hx:cg a=some x) (hz:cg b=some z):cz .add a b=a7 (bE (x.length+z.length≤lim)) fun _=>ak (fH (c9 a&&c9 b) (x++z)):=by
 dsimp only [cz];change t7 hx;induction a using V.casesOn<;>first|((first|exact a0 hx|(replace hx:=Kj hx;obtain rfl:=hx));done)|((replace hx:=Kj hx;obtain rfl:=hx);induction b using V.casesOn<;>first|((first|exact a0 hz|(replace hz:=Kj hz;obtain rfl:=hz));done)|((replace hz:=Kj hz;obtain rfl:=hz);rfl))
set_option tactic.hygienic true in
theorem tH {op:bU} {oo:Operator} {a b :V} {va vb:Value} {Q:Value→Shared→Prop} (hop:sw op oo=true) (hb:il op a b σ=some (y,σ')) (ob:ae σ') (r:a9 W Z ρ s.heap c.L m σ) (ha:aa W Z va a) (hbv:aa W Z vb b) (h:gq W c Z ρ s σ' y Q):
  wpAny (model W.prog W.w) A (inplaceOp oo va vb) Q E s:=by
 have hb2:(∀ l,a≠.lst l)∧cz op a b σ=some (y,σ'):=by
  dsimp only [il] at hb
  split at hb
  ·exact a0 hb
  ·rename_i q;exact ⟨q,hb⟩
 (refine aw hb2 ?_;(try clear hb2);rintro nl hb)
 induction na:bR a using Option.casesOn with
 |some i=>induction nb:bR b using Option.casesOn with
  |some j=>
   rw [yc na nb] at hb
   (refine ay (gd ha na) ?_;clear ha;rintro t rfl)
   (refine ay (gd hbv nb) ?_;rintro u e)
   clear hbv;subst e;induction op using bU.casesOn<;>induction oo using Operator.casesOn<;>first|((first|exact ac hop|cases hop);done)|skip
   ·(revert h;refine aR hb ?_;intro h)
    exact iadd_int (h _ _ _ _ r iS .refl rfl rfl)
   ·(refine aw (bi hb) ?_;clear hb;clear hb;rintro rfl rfl)
    exact isub_int (h _ _ _ _ r iS .refl rfl rfl)
  |none=>rw [yd na nb] at hb;exact a0 hb
 |none=>
  induction op using bU.casesOn
  case add=>
   induction oo using Operator.casesOn<;>first|((first|exact ac hop|cases hop);done)|skip
   have hb':=hb;dsimp only [cz] at hb';rw [na] at hb';have two:∃ x z,cg a=some x∧cg b=some z:=(yp na hb).elim (fun ⟨x,_,e,_⟩=>absurd e (nl x)) id
   (refine aN two ?_;(try clear two);rintro x z hx hz)
   have e:=Js hx hz;rw [e] at hb
   (refine am (gB ha hx) ?_;clear ha;rintro t rfl _)
   (refine am (gB hbv hz) ?_;rintro u e _)
   clear hbv;subst e;refine ah hb fun u' σ₁ g1 g2=>?_;have g1:=eQ g1
   (refine aw (bi g2) ?_;clear hb' hb g2;clear hb;rintro rfl rfl)
   have ob:=ob (x.length+z.length≤lim) (by change g1;exact .head _);refine iadd_str (fun t' tk=>?_) (by (change ct;change ct);exact Kl ob dY);change l6;exact h _ { s with toks:=tk } _ _ (r.same (by (change g1;with_reducible rfl)) (by (change g1;with_reducible rfl))) (nV (by change Kn;exact Kl ob dY)) .refl rfl rfl
  case sub=>exfalso;dsimp only [cz] at hb;rw [na] at hb;exact a0 hb
  all_goals (exact ac hop)
theorem yj {x:X} {v:V} (h:fA x=some v):x=.v v:=by induction x using X.casesOn<;>(first|exact a0 h|(replace h:=Kj h;obtain rfl:=h));rfl
theorem iI {y:CE} {a:V} {Q:Value→Shared→Prop} (H:SE W d R.e) (M:aS R) (ok:aJ W c) (hc:al W.T c.fd.scope.names n y e=true) (hx:bt R y σ=some (a,σ')) (o:ae σ') (r:a9 W Z ρ s.heap c.L m σ) (rm:aL A d) (h:EP W c Z ρ s σ.heap σ' (.v a) Q):wpAny (model W.prog W.w) A (eval e c.env) Q E s:=
 H c n y e σ σ' (.v a) Z ρ m s A Q E ok hc (cn hx) o r rm h
theorem wE {op:bU} {a b :V} (h:il op a b σ=some (y,σ')):σ'.heap=σ.heap∧σ'.loc=σ.loc:=by
 unfold il at h
 split at h
 ·exact a0 h
 ·exact y9 h
theorem yK {z:Nat} {op:bU} {y:CE} (F:Facts W) (H:SE W d R.e) (M:aS R) (ok:aJ W c) (hc:cR W.T c.fd.scope.names (n+1) (.augN z op y) t=true) (hx:bN W.T R (.augN z op y) σ=some (fl,σ')) (o:ae σ') (r:a9 W Z ρ s.heap c.L m σ) (rm:aL A d) (h:FP W c Z ρ s σ.heap σ' fl Q):wpAny (model W.prog W.w) A (exec t c.env) Q E s:=by
 refine ut hc ?_;clear hc;intro tg oo e p hc;refine v4 hc ?_;clear hc;intro zn zp hc;refine cq hc fun c1 c2 c3=>?_
 (refine am (gh c1) ?_;rintro p' hp' hk)
 (have zq0:_=_:=hp';clear hp';injection zq0 with zq0a zq0b;clear hc c1;obtain rfl:=zq0a;obtain rfl:=zq0b)
 dsimp only [bN] at hx;refine ah hx fun ya σ₀ g1 g2=>?_;have g1':look σ.loc z=some ya∧σ₀=σ:=by
  generalize look σ.loc z=q at g1;induction q using Option.casesOn with
  |none=>exact a0 g1
  |some w=>(have za:=(af g1).1;have zb:=(af g1).2;clear g1;clear g2;obtain rfl:=za;obtain rfl:=zb);exact ⟨rfl,rfl⟩
 (refine aw g1' ?_;(try clear g1');rintro hl rfl)
 refine ah g2 fun a σ₁ g3 g4=>?_
 (refine aw (dO g3) ?_;clear g2 hx g1 g3;rintro ha rfl)
 refine ah g4 fun b σ₂ g5 g6=>?_;refine ah g6 fun v σ₃ g7 g8=>?_;refine ah g8 fun u σ₄ g9 g10=>?_
 (revert o h;refine aR g10 ?_;intro o h)
 rw [fV] at g9
 (have za:=(af g9).1;have zb:=(af g9).2;clear g9;obtain rfl:=za;clear g4 g6 g8 g10;obtain rfl:=zb)
 (refine am (r.loc z ya hl) ?_;rintro va hva hra)
 clear hl;obtain rfl:=yj ha;have o3:ae σ₃:=o;refine wpAny_AugAssign_Name (wpAny_loadName_local ok.kind (by change fh;exact hk) r.ns hva ?_);refine iI H M ok c3 g5 (ae.of nq g7 o3) r rm fun vb s' Z' ρ' m' r' hb ex hg ho=>?_
 (refine aw (wE g7) ?_;rintro e1 e2)
 refine tH (c:=c) c2 g7 o3 r' (aa.mono ex.z hra) hb fun v' s2 Z2 m2 r2 hv ex2 hg2 ho2=>?_;refine LF (by change fh;exact hk) r2.ns (fun h' hn hs=>?_) (mj ok);exact h _ _ _ _ _ (r2.setLoc F.inj hn hs (x:=.v v) hv) .next ((ex.trans (by refine aT (e1 ..) ?_;exact ex2)).trans (aA.setLoc hs)) (hg2.trans hg) (ho2.trans ho)
theorem yL {op:bU} {y:CE} (F:Facts W) (H:SE W d R.e) (M:aS R) (ok:aJ W c) (hc:cR W.T c.fd.scope.names (n+1) (.augF ob f op y) t=true) (hx:bN W.T R (.augF ob f op y) σ=some (fl,σ')) (o:ae σ') (r:a9 W Z ρ s.heap c.L m σ) (rm:aL A d) (h:FP W c Z ρ s σ.heap σ' fl Q):wpAny (model W.prog W.w) A (exec t c.env) Q E s:=by
 refine ut hc ?_;clear hc;intro tg oo e p hc;refine r9 hc ?_;clear hc;intro b at_ ap hc;refine eF hc fun c1 c2 c3 c4 c5=>?_;have c2:=dJ.mp c2;clear hc;subst c2;refine ah hx fun ox σ₁ g1 g2=>?_;refine ah g2 fun yx σ₂ g3 g4=>?_;refine ah g4 fun a σ₃ g5 g6=>?_
 (refine aw (dO g5) ?_;clear g4 g5;rintro ha rfl)
 refine ah g6 fun bv σ₄ g7 g8=>?_;refine ah g8 fun v σ₅ g9 g10=>?_;refine ah g10 fun u σ₆ g11 g12=>?_
 (revert o h;refine aR g12 ?_;intro o h)
 obtain rfl:=yj ha;have o5:=ae.of l0 g11 o;have o4:=ae.of nq g9 o5;have o3:=ae.of (bk M) g7 o4;have o1:=ae.of nr g3 o3;refine wpAny_AugAssign_AttributeAny (H c n ob b σ σ₁ ox Z ρ m s A _ E ok c1 g1 o1 r rm fun vo s1 Z1 ρ1 m1 r1 hvo ex1 hg1 ho1=>?_);refine tI F g3 r1 hvo fun va s2 Z2 ρ2 m2 r2 hva ex2 hg2 ho2=>?_;refine iI H M ok c5 g7 o4 r2 rm fun vb s3 Z3 ρ3 m3 r3 hb ex3 hg3 ho3=>?_
 (refine aw (wE g9) ?_;rintro e1 e2)
 refine tH (c:=c) c4 g9 o5 r3 (aa.mono ex3.z hva) hb fun v' s4 Z4 m4 r4 hv ex4 hg4 ho4=>?_;have EX:=((ex1.trans ex2).trans ex3).trans (by refine aT (e1 ..) ?_;exact ex4);exact pU (y:=.v v) F g11 r4 (hvo.mono ((fun a o q=>ex4.z a o (ex3.z a o (ex2.z a o q)))) (ex2.r.elim fun e q=>ex3.r.elim fun e' q'=>⟨e++e',by (change q';change q;change Kw;with_reducible rfl)⟩)) hv fun s5 r5 ex5 hg5 ho5=>
  h _ _ _ _ _ r5 .next (EX.trans ex5) (hg5.trans (hg4.trans (hg3.trans (hg2.trans hg1)))) (ho5.trans (ho4.trans (ho3.trans (ho2.trans ho1))))
end
noncomputable def sJ (W:Wd) (d:Nat) (ev:CE→Mo X):Prop:=
 ∀ (c:Cx) (n y:Nat) (body src:CE) (elt tg it:Expr) (scope:Scope) (pos ps:Pos) (use:Option (Value→Sem Unit)) (σ σ':St) (x:X) (Z:ZM) (ρ:List (Addr×Addr)) (m:Str→Option Value) (s:Shared) (A:Around) (Q:Value→Shared→Prop) (E:Value→Shared→Prop),
  aJ W c→al W.T c.fd.scope.names n src it=true→ic it=true→gX scope=true→cO W.T scope.names y tg=true→al W.T scope.names n body elt=true→ev (.comp y body src) σ=some (x,σ')→ae σ'→a9 W Z ρ s.heap c.L m σ→aL A d→
  (∀ D C s' Z' ρ' m' mC,s'.heap.Ns C mC→a9 W Z' ρ' s'.heap c.L m' σ'→bg W Z' ρ' (.ref D) x→aA Z ρ s.heap c.L σ.heap Z' ρ' s'.heap σ'.heap→bP Z' ρ' σ'.heap c.L C→s.heap.objs.size≤C→s'.gens=s.gens→s'.os=s.os→compPost (model W.prog W.w) A E use Q (.ref D) C (.ok .next) s')→
  wpAny (model W.prog W.w) A (comprehension (.ListComp elt [⟨tg,it,[],0⟩] scope pos) scope c.env ps (newList []) false (eval it c.env) use) Q E s
theorem BG {d:Nat} (HC:kI W d R.cp) (H:SE W d R.e) (M:aS R):sJ W d (bh W.T R):=
 fun c n y body src elt tg it scope pos ps use σ σ' x Z ρ m s A Q E ok h1 h2 h3 h4 h5 hx o r rm h=>xM HC H M ok h1 h2 h3 h4 h5 hx o r rm h
section
variable {W:Wd} {d:Nat} {R:ao} {c:Cx} {n:Nat} {t:Stmt} {σ σ':St} {fl:Fl} {Z:ZM} {ρ:List (Addr×Addr)} {m:Str→Option Value} {s:Shared} {A:Around} {Q:Flow→Shared→Prop} {E:Value→Shared→Prop}
theorem y5 (ok:aJ W c):c.env.blockKind=.function:=by
 have:c.env.scope.kind=.function:=ok.kind;unfold Env.blockKind;change this;rfl
set_option tactic.hygienic true in
theorem Ji {x:CE} {P:Prop} (h:yi x ts e=true) (nc:gI e=false) (k:∀ cy body src t tp,x=.comp cy body src→ts=[.Name t tp]→P):P:=by
 induction e using Expr.casesOn<;>first|contradiction|exact ac h|skip
 rename_i elt gens scope ep;refine aw ((KD _ _).mp h) fun h1 h2=>?_;refine oR (FA h1) fun y b s hx=>?_;clear h;induction ts using List.casesOn with
 |nil=>exact ac h2
 |cons t ts=>
  refine aw ((KD _ _).mp h2) fun h3 h4=>?_;revert h4;refine aV (dE t) ?_ ?_
  ·intro h4;exact ac h4
  ·intro z q h4;refine ay (gA q) fun tp ht=>k y b s z tp hx (by rw [ht,KE.mp h3])
theorem w0 {sc:List (Str×NameKind)} {xs:List Nat} {t:Str} {tp:Pos} {P:Prop} (h:aY (cO W.T sc) xs [.Name t tp]=true) (k:∀ z,xs=[z]→t=W.T.nm z→dP sc (W.T.nm z)=some .local→P):P:=by
 induction xs using List.casesOn with
 |nil=>exact ac h
 |cons z xs=>
  (refine be (cU h) ?_;rintro e1 es h0 d1 d2)
  (refine aw (Kr h0) ?_;clear h0;rintro rfl rfl)
  (refine am (gh d1) ?_;rintro tp' h1 hk)
  clear h;induction xs using List.casesOn with
  |cons z2 xs=>exact ac d2
  |nil=>exact k z rfl (Expr.Name.inj h1).1 hk
theorem F6 {sc:List (Str×NameKind)} {xs:List Nat} {a b:Str} {p q:Pos} {P:Prop} (h:aY (cO W.T sc) xs [.Name a p,.Name b q]=true)
  (k:∀ x y,xs=[x,y]→a=W.T.nm x→b=W.T.nm y→dP sc (W.T.nm x)=some .local→dP sc (W.T.nm y)=some .local→P):P:=by
 induction xs using List.casesOn with
 |nil=>exact ac h
 |cons x xs=>
  (refine be (cU h) ?_;rintro e1 es h0 d1 d2)
  (refine aw (Kr h0) ?_;clear h0;rintro rfl rfl)
  (refine am (gh d1) ?_;rintro tp' h1 hk)
  exact w0 d2 fun y hy hb hk2=>k x y (Kq (x::·) hy) (Expr.Name.inj h1).1 hb hk hk2
theorem zN {vs :List Expr} {P:Prop} (h:tf vs ts=true) (k:∀ a p b q,ts=[.Name a p,.Name b q]→te vs p q a b=true→P):P:=by
 induction ts using List.casesOn with
 |nil=>exact ac h
 |cons a r=>
  induction r using List.casesOn with
  |nil=>exact ac h
  |cons b r=>
   refine aw ((KD _ _).mp h) fun h1 h2=>?_;obtain rfl:=KE.mp h1;revert h2;unfold th;refine aV (dE a) (fun h=>ac h) fun x qa=>?_;refine aV (dE b) (fun h=>ac h) fun y qb h2=>?_
   (refine ay (gA qa) ?_;clear qa;rintro p rfl)
   (refine ay (gA qb) ?_;clear qb h;rintro q rfl)
   exact k x p y q rfl h2
@[elab_as_elim] theorem II {W:Wd} {sc:List (Str×NameKind)} {n:Nat} {motive:Expr→Prop} {e:Expr} {y:Nat} {body src:CE} (hc:al W.T sc (n+1) (.comp y body src) e=true)
  (k:∀ elt tg it scope pos,al W.T sc n src it=true→ic it=true→gX scope=true→cO W.T scope.names y tg=true→al W.T scope.names n body elt=true→motive (.ListComp elt [⟨tg,it,[],0⟩] scope pos)):motive e:=by
 dsimp only [al] at hc;refine v5 hc fun elt tg it scope p hc=>?_;refine eF hc fun h1 h2 h3 h4 h5=>?_;exact k _ _ _ _ _ h1 h2 h3 h4 h5
theorem yN {xs:List Nat} {y:CE} (F:Facts W) (H:SE W d R.e) (HO:sJ W d R.e) (M:aS R) (ok:aJ W c) (hc:cR W.T c.fd.scope.names (n+1) (.asg xs y) t=true) (hx:bN W.T R (.asg xs y) σ=some (fl,σ')) (o:ae σ') (r:a9 W Z ρ s.heap c.L m σ) (rm:aL A d) (h:FP W c Z ρ s σ.heap σ' fl Q):wpAny (model W.prog W.w) A (exec t c.env) Q E s:=by
 refine uu hc ?_;clear hc;intro ts e p hc;refine cq hc fun c1 c2 c3=>?_;induction nc:gI e using Bool.casesOn with
 |true=>exact Jj F H M ok c1 c2 nc hx o r rm h
 |false=>
  refine Ji c3 nc fun cy body src zt tp hy ht=>?_;subst hy;subst ht;refine w0 c1 fun z hz ht hk=>?_;subst hz;clear c1;subst ht;clear hc;induction n using Nat.casesOn with
  |zero=>exact ac c2
  |succ n=>
   clear nc;revert c3;refine II c2 fun elt tg it scope ep k1 k2 k3 k4 k5 c3=>?_;clear c2;have c3:(tp.line==ep.line&&!(scope.names.any fun q=>q.1==W.T.nm z&&(q.2==.local||q.2==.cell)))=true:=c3;have c3:=(KD _ _).mp c3;have hsw:swapsWith (.ListComp elt [⟨tg,it,[],0⟩] scope ep) (some (.Name (W.T.nm z) tp)) p.line c.env=pure true:=by
    refine (?_:(pure (c.env.blockKind==.function&&c.env.kindOf (W.T.nm z)==some .local&&tp.line==ep.line&&!(scope.names.any fun q=>q.1==W.T.nm z&&(q.2==.local||q.2==.cell))):Sem Bool)=pure true)
    (change y5 ok;change fh;change hk;change c3.1;change c3.2)
    rfl
   refine ah hx fun x σ₁ g1 g2=>?_;refine ah g2 fun u σ₂ g3 g4=>?_
   (revert o h;refine aR g4 ?_;intro o h)
   refine ah g3 fun u2 σ₃ g5 g6=>?_;rw [fV] at g5
   (have za:=(af g5).1;have zb:=(af g5).2;clear g5;obtain rfl:=za;obtain rfl:=zb)
   (refine aw (bi g6) ?_;clear g3 g6;rintro _ rfl)
   change exec_Assign_Name_used _ _ _ _ hsw;refine Km (Lv (Km ?_));refine (?_:wpAny _ A (do let _ ← comprehension (.ListComp elt [⟨tg,it,[],0⟩] scope ep) scope c.env _ (newList []) false (eval it c.env) (some (assign (.Name (W.T.nm z) tp) c.env))) _ _ s);refine Km (KV (HO c n cy body src elt tg it scope ep _ (some (assign (.Name (W.T.nm z) tp) c.env)) σ σ₁ x Z ρ m s A (fun _ s'=>Q .next s') E ok k1 k2 k3 k4 k5 g1 o r rm fun D C s' Z' ρ' m' mC hn r' hv ex aC hge hg ho=>?_) (fun _ s' hq=>Kv (Kv hq)) fun _ _ e=>e);refine (?_:wpAny _ A (assign (.Name (W.T.nm z) tp) c.env (.ref D)) _ _ _);refine iF (nh F ok hk r' hv fun h' tk m2 r2 ex2 hsz=>?_);have hn2:h'.Ns C mC:=by (refine jb hn ?_;(try clear hn);rintro o es ep h1 h2);exact jX o es ep (ex2.keep _ _ h1 aC.o aC.l) h2
   refine aF mC hn2 (fun h'' hs''=>?_);have kC:∀ b o,b≠C→h'.get? b=some o→h''.get? b=some o:=fun b o hb e=>hs''.extBut b o hb e;exact h _ { s' with heap:=h'',toks:=tk } Z' ρ' m2 (r2.but aC kC) .next (aA.but (ex.trans ex2) hge (by change hs''.1;exact br _) kC) hg ho
theorem tC {p:Pos} (F:Facts W) (ok:aJ W c):∀ (xs:List Nat) (ts:List Expr) (vs:List Value) (l:List V) (σ σ':St) (u:Unit) (m:Str→Option Value) (s:Shared) (Q:Unit→Shared→Prop),aY (cO W.T c.fd.scope.names) xs ts=true→vs.length=l.length→
  (∀ (i:Nat) (v:Value) (x:V),vs[i]?=some v→l[i]?=some x→aa W Z v x)→js xs l σ=some (u,σ')→a9 W Z ρ s.heap c.L m σ→
  (∀ s' m',a9 W Z ρ s'.heap c.L m' σ'→aA Z ρ s.heap c.L σ.heap Z ρ s'.heap σ'.heap→s'.gens=s.gens→s'.os=s.os→Q Unit.unit s')→wpAny (model W.prog W.w) A (assignInOrder ((assignEach ts c.env).map (·.2)) vs) Q E s
 |[],ts,vs,l,σ,σ',u,m,s,Q,hc,hl,hv,hx,r,h=>by
  change ef hc;clear hl hv;induction l using List.casesOn with
  |cons=>exact a0 hx
  |nil=>
   (revert h;refine aR hx ?_;intro h)
   exact Kv (h s m r .refl rfl rfl)
 |y::xs,ts,vs,l,σ,σ',u,m,s,Q,hc,hl,hv,hx,r,h=>by
  (refine be (cU hc) ?_;clear hc;rintro e es rfl h1 h2)
  (refine am (gh h1) ?_;clear h1;rintro p rfl hk)
  induction l using List.casesOn with
  |nil=>exact a0 hx
  |cons w l=>
   induction vs using List.casesOn with
   |nil=>contradiction
   |cons v vs=>
    refine ah hx fun u1 σ₁ g1 g2=>?_;rw [fV] at g1
    (have za:=(af g1).1;have zb:=(af g1).2;clear g1;obtain rfl:=za;obtain rfl:=zb)
    refine (?_:wpAny _ _ (do holding vs (assign (.Name (W.T.nm y) p) c.env v);assignInOrder ((assignEach es c.env).map (·.2)) vs) _ _ _);refine Km (L1 (nh F ok hk r (xx:=.v w) (hv 0 v w rfl rfl) fun h' tk m' r' ex=>?_));exact tC (p:=p) F ok xs es vs l _ _ u m' { s with heap:=h',toks:=tk } Q h2 (by simpa using hl) (fun i v x a b=>hv (i+1) v x a b) g2 r' fun s2 m2 r2 ex2 hg2 ho2=>h s2 m2 r2 (ex.trans ex2) hg2 ho2
theorem vB:∀ {xs:List Nat} {ts:List Expr} {env:Env} {sc:List (Str×NameKind)},aY (cO W.T sc) xs ts=true→(assignEach ts env).length=xs.length∧(assignEach ts env).findIdx? (·.1)=none
 |[],ts,env,sc,h=>by change ef h;exact ⟨rfl,rfl⟩
 |y::xs,ts,env,sc,h=>by
  (refine be (cU h) ?_;clear h;rintro e es rfl h1 h2)
  (refine am (gh h1) ?_;clear h1;rintro p rfl _)
  (refine aw (vB (env:=env) h2) ?_;rintro a b)
  refine ⟨?_,?_⟩
  ·refine (?_:(assignEach es env).length+1=_);change a;rfl
  ·refine (?_:List.findIdx? (·.1) ((false,assign (.Name (W.T.nm y) p) env)::assignEach es env)=none)
   (change List.findIdx?_cons;change b);rfl
theorem pJ:∀ {xs:List Nat} {l:List V} {σ σ':St} {u:Unit},js xs l σ=some (u,σ')→xs.length=l.length
 |[],[],_,_,_,_=>rfl
 |[],_::_,_,_,_,h=>by exact a0 h
 |_::_,[],_,_,_,h=>by exact a0 h
 |x::xs,v::l,_,_,_,h=>by (refine aN (xZ h) ?_;rintro u1 σ₁ g1 g2);(change Ko;change Ko;change pJ g2;with_reducible rfl)
theorem zK {k:Nat} {tp:Pos} (h:tj ts e=true) (hn:∀ vs a b,e≠.Tuple vs a b):swappedStores [.Tuple ts k tp] e env=pure none:=by
 clear h;induction e using Expr.casesOn<;>first|rfl|(exact absurd rfl (hn _ _ _))
theorem a9.reloc {h:Heap} {L:Addr} (r:a9 W Z ρ h L m σ) (h1:σ'.heap=σ.heap) (h2:∀ n,look σ'.loc n=look σ.loc n):a9 W Z ρ h L m σ' where
 kz:=r.kz
 zh:=r.zh
 zL:=r.zL
 ns:=r.ns
 loc:=fun n x e=>r.loc n x (by refine aT (h2 ..) ?_;exact e)
 len:=by change h1;exact r.len
 cell:=fun k p cl a b=>r.cell k p cl a (by refine aT (h1 ..) ?_;exact b)
 own:=fun a q=>r.own a (by refine aT (h1 ..) ?_;exact q)
 apart:=fun k k' p p' cl cl' a h1' h2' h3 h4=>r.apart k k' p p' cl cl' a h1' h2' (by refine aT (h1 ..) ?_;exact h3) (by refine aT (h1 ..) ?_;exact h4)
 two:=fun k p cl fs a b=>r.two k p cl fs a (by refine aT (h1 ..) ?_;exact b)
end
section
variable {W:Wd} {d:Nat} {R:ao} {c:Cx} {n:Nat} {t:Stmt} {σ σ':St} {fl:Fl} {Z:ZM} {ρ:List (Addr×Addr)} {m:Str→Option Value} {s:Shared} {A:Around} {Q:Flow→Shared→Prop} {E:Value→Shared→Prop}
theorem wT {f:Expr→Option Str} {x y:Expr} {a b:Str} (h1:f x=some a) (h2:f y=some b):[x,y].filterMap f=[a,b]:=
 (List.filterMap_cons_some h1).trans (Kq (a::·) (List.filterMap_cons_some h2))
theorem HR {a b:Str} (h:(a==b)=false):[a,b].eraseDups=[a,b]:=by
 have hne:a≠b:=fun e=>by subst e;simp at h
 (change List.eraseDups_cons;change List.filter_cons)
 have:(!b==a)=true:=by simp;exact fun e=>hne e.symm
 change this;simp [List.eraseDups_cons]
theorem zJ {a b:Str} {p q kp c2:Pos} {k c1:Nat} {vs:List Expr} (hb:env.blockKind=.function) (ha:env.kindOf a=some .local) (hb':env.kindOf b=some .local) (hl:(q.line==p.line)=true) (hab:(a==b)=false)
  (hs:vs.any wt=false) (hn:(vs.length==2)=true) (h1:vs.all (foldedForSure 8)=false) (h2:vs.all (constantsAlone 8)=false):
  swappedStores [.Tuple [.Name a p,.Name b q] k kp] (.Tuple vs c1 c2) env=pure (some [a,b]):=by
 have hn':=Kx.mp hn;have f1:(if (env.kindOf a==some .local&&p.line==p.line)=true then some a else none)=some a:=Ks (by rw [ha];simp);have f2:(if (env.kindOf b==some .local&&q.line==p.line)=true then some b else none)=some b:=Ks (by rw [hb',hl];rfl);refine (Kp ?_).trans ((Kp ?_).trans ((Kp ?_).trans ((Kp ?_).trans ((Kp ?_).trans ?_))))
 ·rw [hb,hn'];exact Lu
 ·exact fun q=>ac (hs.symm.trans q)
 ·have key:∀ l:List Str,l=[a,b]→¬ ((l.length != 2||l.eraseDups.length != l.length)=true):=fun l e=>by rw [e,HR hab];exact Lu
  exact key _ (wT (by exact f1) (by exact f2))
 ·rw [h1];exact Lu
 ·rw [h2];exact Lu
 ·exact Kq (fun l=>pure (some l)) (wT (by exact f1) (by exact f2))
set_option tactic.hygienic true in
theorem yB {xs:List Nat} {y:CE} (F:Facts W) (H:SE W d R.e) (M:aS R) (ok:aJ W c) (hc:cR W.T c.fd.scope.names (n+1) (.unp xs y) t=true) (hx:bN W.T R (.unp xs y) σ=some (fl,σ')) (o:ae σ') (r:a9 W Z ρ s.heap c.L m σ) (rm:aL A d) (h:FP W c Z ρ s σ.heap σ' fl Q):wpAny (model W.prog W.w) A (exec t c.env) Q E s:=by
 refine qt hc ?_;clear hc;intro tg e p hc;refine uV hc ?_;clear hc;intro ts k tp hc;refine eG hc fun c1 c2 c3 c4=>?_;refine ah hx fun v σ₁ g1 g2=>?_
 split at g2
 ·rename_i l;refine ah g2 fun u σ₂ g3 g4=>?_
  (revert o h;refine aR g4 ?_;intro o h)
  have o1:=ae.of q0 g3 o
  by_cases hn:∀ vs a b,e≠.Tuple vs a b
  ·refine Assign_Tuple ?_ (pR (xs:=xs) c3) (zK c4 hn);refine iI H M ok c2 g1 o1 r rm fun va s1 Z1 ρ1 m1 r1 hv ex hg ho=>?_;have hv:aa W Z1 va (.tup l):=hv
   (refine dp (aa.inv hv) ?_;clear hv;clear hv;rintro ad nn vs rfl z1 V1 V2 V3)
   have ht:IsTup s1.heap ad vs.toArray:=⟨_,r1.zh _ _ z1,rfl,_,rfl⟩
   (refine aw (vB (env:=c.env) c1) ?_;rintro e1 e2)
   have e3:(assignEach ts c.env).length=vs.toArray.size:=by (change e1;change pJ g3;change KH;change V2;with_reducible rfl)
   change assign_Tuple;refine Km (Lv ?_);unfold unpack
   (change e3;change e2)
   refine Km (L1 (iF (unpackItems_tuple rm.2.2 ht fun h' he hsz=>?_)));have ai:=bP.new r1;have r2:=r1.but ai he;have ex2:aA Z1 ρ1 s1.heap c.L σ₁.heap Z1 ρ1 h' σ₁.heap:=aA.but (.refl) (br _) hsz he;exact tC (p:=p) F ok xs ts vs l σ₁ _ u m1 { s1 with heap:=h' } _ c1 V2 V3 g3 r2 fun s2 m2 r3 ex3 hg2 ho2=>h _ _ _ _ _ r3 .next ((ex.trans ex2).trans ex3) (hg2.trans hg) (ho2.trans ho)
  ·obtain ⟨es,k1,k2,rfl⟩:∃ vs a b,e=.Tuple vs a b:=by
    apply Classical.byContradiction;intro q;exact hn fun vs a b e=>q ⟨vs,a,b,e⟩
   refine zN c4 fun a1 p1 b1 p2 ht c4=>?_;subst ht;refine F6 c1 fun x1 x2 hx1 ha hb hk1 hk2=>?_;subst hx1;subst ha;subst hb;refine d9 c4 fun c4 q6=>eF c4 fun q1 q2 q3 q4 q5=>?_;have q2:=(Ls _).mp q2;refine Assign_Tuple_swapped ?_ (pR (xs:=[]) c3) (zJ (y5 ok) (by change fh;exact hk1) (by change fh;exact hk2) q1 q2 ((Ls _).mp q3) q4 ((Ls _).mp q5) ((Ls _).mp q6));refine iI H M ok c2 g1 o1 r rm fun va s1 Z1 ρ1 m1 r1 hv ex hg ho=>?_;have hv:aa W Z1 va (.tup l):=hv
   (refine dp (aa.inv hv) ?_;clear hv;rintro ad nn vs rfl z1 V1 V2 V3)
   have ht:IsTup s1.heap ad vs.toArray:=⟨_,r1.zh _ _ z1,rfl,_,rfl⟩
   have hl:=pJ g3
   (refine d6 (iX (l:=l) (by first|exact hl|exact hl.symm)) ?_;clear g1 hv;rintro w1 w2 rfl)
   (refine d6 (iX (l:=vs) V2) ?_;clear z1 V1 V2;rintro v1 v2 rfl)
   refine iF (unpackItems_tuple (items:=#[v1,v2]) rm.2.2 ht fun h' he hsz=>?_);have ai:=bP.new r1;have r2:=r1.but ai he;have ex2:aA Z1 ρ1 s1.heap c.L σ₁.heap Z1 ρ1 h' σ₁.heap:=aA.but (.refl) (br _) hsz he;refine (?_:wpAny _ _ (do holding [v1] (bindName c.env (W.T.nm x2) v2);(do holding [] (bindName c.env (W.T.nm x1) v1);pure Unit.unit)) _ _ _);refine Km (L1 (wpAny_bindName (LF (by change fh;exact hk2) r2.ns (fun h2 hn2 hs2=>?_) (mj ok))));have r3:=r2.setLoc F.inj hn2 hs2 (x:=.v w2) (V3 1 v2 w2 rfl rfl);refine Km (L1 (wpAny_bindName (LF (by change fh;exact hk1) r3.ns (fun h3 hn3 hs3=>Kv ?_) (mj ok))));have r4:=r3.setLoc F.inj hn3 hs3 (x:=.v w1) (V3 0 v1 w1 rfl rfl);have hne:x1≠x2:=fun e=>by clear hk2 hx c1 hc c4 q1 g2 g3 hl hn2 r3 hn3 r4;subst e;simp at q2
   refine ah g3 fun u1 σ₃ f1 f2=>?_;rw [fV] at f1;(have za:=(af f1).1;have zb:=(af f1).2;clear f1;obtain rfl:=za;obtain rfl:=zb);refine ah f2 fun u2 σ₄ f3 f4=>?_;rw [fV] at f3;(have za:=(af f3).1;have zb:=(af f3).2;clear f3;obtain rfl:=za;obtain rfl:=zb)
   (have za:=(af f4).1;have zb:=(af f4).2;clear f4;clear g3 f2;obtain rfl:=za;clear o g4 hx g2;obtain rfl:=zb)
   refine h _ { s1 with heap:=h3,toks:=_ } _ _ _ (r4.reloc rfl fun nn=>?_) .next ((ex.trans ex2).trans ((aA.setLoc hs2).trans (aA.setLoc hs3))) hg ho;dsimp only
   (change gg;change gg;change gg;change gg)
   split<;>split<;>first|rfl|(rename_i a b;exact absurd (b.trans a.symm) hne)|(rename_i a b;exact absurd (a.trans b.symm) hne)
 ·exact a0 g2
end
section
variable {W:Wd} {d:Nat} {R:ao} {c:Cx} {n:Nat} {t:Stmt} {σ σ':St} {fl:Fl} {Z:ZM} {ρ:List (Addr×Addr)} {m:Str→Option Value} {s:Shared} {A:Around} {Q:Flow→Shared→Prop} {E:Value→Shared→Prop}
theorem Bw {prog:Program} {w:World} {l:Addr} {items:Array Value} {k:Int} {t:Tok} {v:Value} {Q:Unit→Shared→Prop} (hl:s.heap.IsList l items)
  (h0:k < 0) (h1:-(items.size:Int)≤k) (hfit:-(2 ^ 63)≤k)
  (hQ:Q Unit.unit { s with heap:=s.heap.update l (Obj.mapSeq (·.setIfInBounds (k+items.size).toNat v)) }):
  wpAny (model prog w) A (setItem (.ref l) (.int k t) v) Q E s:=by
 obtain ⟨o,ho,hc,ne,hd⟩:=id hl;unfold setItem
 try with_reducible refine L1 ?_
 first|refine Km (Kv ?_)|skip
 refine Km (wpAny_sequenceKey hl.typeIs M0 ?_);refine Km (wpAny_callSpecial?_slot (name:=Str.ofString "__setitem__") hl.typeIs slot_list_setitem
  (wpAny_call_entry slot_list_setitem hl.typeIs entry_list_setitem ?_ (args_list_setitem _ _ _)))
 refine (?_:wpAny _ _ (Builtin.List.listSubscript? (.int k t) >>= _) _ _ s);refine Km (wpAny_listSubscript_int (fitsIndex_neg h0 hfit) ?_);clear hfit;have hidx:=seqIndex_neg h0 h1;have hj:(k+items.size).toNat < items.size:=by lia
 have hx':items[(k+items.size).toNat]?=some items[(k+items.size).toNat]:=Array.getElem?_eq_getElem hj;clear h1;obtain ⟨j,rfl⟩:∃ j:Nat,k=Int.negSucc j:=by
  clear hQ hidx hx';clear hj;induction k using Int.casesOn with
  |ofNat n=>exact absurd h0 (Int.not_lt.mpr (KZ n))
  |negSucc n=>exact ba n rfl
 refine (?_:wpAny _ _ ((Builtin.List.listItems (.ref l) >>= fun xs=>pure ((seqIndex? (Int.negSucc j) xs.size).bind fun i=>xs[i]?.map (i,·))) >>= _) _ _ s);refine Km (Km ?_);refine (?_:wpAny _ _ (seqItems? (.ref l) >>= _) _ _ s);refine Km (wpAny_seqItems ho hd (Kv (Kv ?_)));change hidx;simp only [Option.bind_some,hx',Option.map_some];refine (?_:wpAny _ _ (setSeqItemAt l (Int.negSucc j+items.size).toNat v >>= _) _ _ s);refine Km (wpAny_setSeqItemAt ho hd ?_)
 first
  |exact Km (Kv (Kv ⟨.none,rfl,Kv hQ⟩))
  |exact Kv ⟨.none,rfl,Kv hQ⟩
set_option tactic.hygienic true in
theorem yD {ix y :CE} (F:Facts W) (H:SE W d R.e) (M:aS R) (ok:aJ W c) (hc:cR W.T c.fd.scope.names (n+1) (.setI ob ix y) t=true) (hx:bN W.T R (.setI ob ix y) σ=some (fl,σ')) (o:ae σ') (r:a9 W Z ρ s.heap c.L m σ) (rm:aL A d) (h:FP W c Z ρ s σ.heap σ' fl Q):wpAny (model W.prog W.w) A (exec t c.env) Q E s:=by
 refine qt hc ?_;clear hc;intro tg e p hc;refine nN hc ?_;clear hc;intro b j jp hc;refine eF hc fun c1 c2 c3 c4 c5=>?_;refine ah hx fun x σ₁ g1 g2=>?_;refine ah g2 fun ox σ₂ g3 g4=>?_;refine ah g4 fun iv σ₃ g5 g6=>?_;refine ah g6 fun u σ₄ g7 g8=>?_
 (revert o h;refine aR g8 ?_;intro o h)
 have o3:=ae.of tS g7 o;have o2:=ae.of (bk M) g5 o3;have o1:=ae.of (M.e _) g3 o2;refine wpAny_Assign_Subscript ?_ (n8 c2);refine iI H M ok c1 g1 o1 r rm fun vx s1 Z1 ρ1 m1 r1 hv ex1 hg1 ho1=>?_;refine H c n ob b σ₁ σ₂ ox Z1 ρ1 m1 s1 A _ E ok c3 g3 o2 r1 rm fun vo s2 Z2 ρ2 m2 r2 hvo ex2 hg2 ho2=>?_;refine iI H M ok c4 g5 o3 r2 rm fun vi s3 Z3 ρ3 m3 r3 hvi ex3 hg3 ho3=>?_;have hv3:=aa.mono ex3.z (aa.mono ex2.z hv);have hvo3:=hvo.mono ex3.z ex3.r
 (refine dy (By g7) ?_;clear g3 g4 g5 g6 hvo;rintro k rfl rfl g7)
 refine ah g7 fun cl σ₅ g9 g10=>?_
 (revert g10;refine dR g9 fun hcl=>?_;intro g10)
 (refine aN (Bz g10) ?_;clear g9;rintro w l rfl g10)
 (refine am hvo3 ?_;(try clear hvo3);rintro pp hp rfl)
 rw [gD] at g10
 (have za:=(af g10).1;have zb:=(af g10).2;clear g10;obtain rfl:=za;clear g8 o g7 g10;obtain rfl:=zb)
 (refine cv (r3.at hp hcl) ?_;rintro vs nn hz V1 V2 V3)
 have hvi:aa W Z3 vi (.int (-1)):=hvi
 (have zq0:Exists _:=aa.inv hvi;clear hvi;obtain ⟨_,zq0⟩:=zq0;clear hvi;subst zq0)
 have IL:s3.heap.IsList pp.1 vs.toArray:=⟨_,hz,rfl,_,rfl⟩
 have hlen:vs.length=l.length+1:=V2;refine Bw IL M0 (by (change KH;change hlen);lia) (by exact KZ _) ?_;have hj:(-1+(vs.toArray.size:Int)).toNat=vs.length - 1:=by change KH;lia
 change hj
 (refine aw (r3.listSet (cl':=.lst (eN (w::l) ((w::l).length - 1) x)) (vs':=vs.set (vs.length - 1) vx) (f:=fun xs=>xs.setIfInBounds (vs.length - 1) vx) hp hcl rfl hz (by simp) (by
  refine b7 (by change Lx;exact V1) (by (change iL;change Lx;change Lx);exact V2) (fun i v z a b=>?_);rw [iL] at b;rw [List.getElem?_set] at a b;have e1:(w::l).length - 1=vs.length - 1:=by (change V2;with_reducible rfl)
  rw [e1] at b
  split at a
  ·rename_i q;rw [Ks q] at b
   split at a
   ·split at b
    ·(replace a:=Kj a;obtain rfl:=a);(replace b:=Kj b;obtain rfl:=b);exact hv3
    ·exact a0 b
   ·exact a0 a
  ·rename_i q;rw [Kp q] at b;exact V3 i v z a b)) ?_;rintro k1 k2)
 exact h _ { s3 with heap:=s3.heap.update pp.1 (Obj.mapSeq fun xs=>xs.setIfInBounds (vs.length - 1) vx) } _ _ _ k1 .next (((ex1.trans ex2).trans ex3).trans k2) (hg3.trans (hg2.trans hg1)) (ho3.trans (ho2.trans ho1))
end
noncomputable def mT (W:Wd) (A:Around) (e:Expr) (body:List Stmt) (env:Env) (P:Result→Shared→Prop):Nat→Shared→Prop
 |0,_=>False
 |k+1,s=>wpAny (model W.prog W.w) A (isTrue e env (eval e env)) (fun b s₂=>
    if b then wpAny (model W.prog W.w) A (execs body env) (fun f s₃=>match f with
      |.next=>mT W A e body env P k s₃
      |.cont=>mT W A e body env P k s₃
      |.brk=>P (.ok .next) s₃
      |.ret v=>P (.ok (.ret v)) s₃) (notedBy (model W.prog W.w) A env fun e s'=>P (.error e) s') s₂
    else wpAny (model W.prog W.w) A (execs [] env) (fun f s₃=>P (.ok f) s₃) (notedBy (model W.prog W.w) A env fun e s'=>P (.error e) s') s₂)
    (notedBy (model W.prog W.w) A env fun e s'=>P (.error e) s') s
theorem zc {body:List Stmt} {P:Result→Shared→Prop} {k:Nat} {s:Shared} (h:mT W A e body env P k s):codeAny (model W.prog W.w) A (.whileLoop e body [] env) P s:=by
 refine codeAny_whileLoop (fun n s=>mT W A e body env P n s) (fun n s hn=>?_) k h;induction n using Nat.casesOn with
 |zero=>exact hn.elim
 |succ n=>
  refine KV hn (fun b s₂ h₂=>?_) fun _ _ e=>e;induction b using Bool.casesOn with
  |false=>exact h₂
  |true=>
   simp only [if_true] at h₂ ⊢;refine KV h₂ (fun f s₃ h₃=>?_) fun _ _ e=>e;cases f with
   |next=>exact aF n (KC _) h₃
   |cont=>exact aF n (KC _) h₃
   |brk=>exact h₃
   |ret v=>exact h₃
noncomputable def pv (W:Wd) (d k:Nat) (whl:CE→List CS→Mo Fl):Prop:=
 ∀ (c:Cx) (n:Nat) (ce:CE) (cb:List CS) (e:Expr) (body:List Stmt) (σ σ':St) (fl:Fl) (Z:ZM) (ρ:List (Addr×Addr)) (m:Str→Option Value) (s:Shared) (A:Around) (P:Result→Shared→Prop),
  aJ W c→al W.T c.fd.scope.names n ce e=true→aY (cR W.T c.fd.scope.names n) cb body=true→whl ce cb σ=some (fl,σ')→ae σ'→a9 W Z ρ s.heap c.L m σ→aL A d→
  (∀ g s' Z' ρ' m',a9 W Z' ρ' s'.heap c.L m' σ'→kL W Z' ρ' g fl→aA Z ρ s.heap c.L σ.heap Z' ρ' s'.heap σ'.heap→s'.gens=s.gens→s'.os=s.os→P (.ok g) s')→mT W A e body c.env P k s
noncomputable def sI (W:Wd) (d:Nat) (fr:Nat→List V→List CS→Mo Fl):Prop:=
 ∀ (c:Cx) (n y:Nat) (p:Pos) (cb:List CS) (body:List Stmt) (l:List V) (σ σ':St) (fl:Fl) (Z:ZM) (ρ:List (Addr×Addr)) (m:Str→Option Value) (s:Shared) (A:Around) (I:Addr) (St:Nat→Heap→Prop) (h₀:Heap) (P:Result→Shared→Prop),
  aJ W c→aL A d→dP c.fd.scope.names (W.T.nm y)=some .local→aY (cR W.T c.fd.scope.names n) cb body=true→fr y l cb σ=some (fl,σ')→ae σ'→a9 W Z ρ s.heap c.L m σ→Wk W A Z I l St→St 0 s.heap→bP Z ρ σ.heap c.L I→I < s.heap.objs.size→
  h₀.objs.size≤I→aA Z ρ h₀ c.L σ.heap Z ρ s.heap σ.heap→
  (∀ g s' Z' ρ' m',a9 W Z' ρ' s'.heap c.L m' σ'→kL W Z' ρ' g fl→aA Z ρ h₀ c.L σ.heap Z' ρ' s'.heap σ'.heap→s'.gens=s.gens→s'.os=s.os→P (.ok g) s')→
  codeAny (model W.prog W.w) A (.forLoop (.Name (W.T.nm y) p) (.ref I) body [] c.env) P s
section
variable {W:Wd} {d:Nat} {R:ao} {c:Cx} {n:Nat} {t:Stmt} {σ σ':St} {fl:Fl} {Z:ZM} {ρ:List (Addr×Addr)} {m:Str→Option Value} {s:Shared} {A:Around} {Q:Flow→Shared→Prop} {E:Value→Shared→Prop}
theorem Bu (F:Facts W) (HS:SS W d R.ss) (M:aS R):sI W d (fun x l b=>e8 R x b l):=
 fun c n y p cb body l σ σ' fl Z ρ m s A I St h₀ P ok rm hk hc he o r K st ai hI hge ex0 h=>AO F HS M ok rm hk hc he o r K st ai hI hge ex0 h
theorem zI {k:Nat} (HT:hH W d R.t) (HS:SS W d R.ss) (HW:pv W d k R.whl) (M:aS R):pv W d (k+1) (kj R):=by
 intro c n ce cb e body σ σ' fl Z ρ m s A P ok hc hb hx o r rm h;refine ah hx fun b σ₁ g1 g2=>?_;induction b using Bool.casesOn with
 |false=>
  (revert o h;refine aR g2 ?_;intro o h)
  refine HT c n ce e σ _ false Z ρ m s A _ _ ok hc g1 o r rm fun s' Z' ρ' m' r' ex hg ho=>?_;simp only [Lz,if_false];exact wpAny_execs_nil (h .next s' Z' ρ' m' r' .next ex hg ho)
 |true=>
  refine ah g2 fun f σ₂ g3 g4=>?_;have o2:ae σ₂:=by
   clear g3;induction f using Fl.casesOn with
   |next=>exact ae.of (M.whl _ _) g4 o
   |ret x=>(refine aw (bi g4) ?_;clear g4;rintro _ rfl);exact o
  refine HT c n ce e σ σ₁ true Z ρ m s A _ _ ok hc g1 (ae.of (M.ss _) g3 o2) r rm fun s1 Z1 ρ1 m1 r1 ex1 hg1 ho1=>?_;simp only [if_true];refine HS c n cb body σ₁ σ₂ f Z1 ρ1 m1 s1 A _ _ ok hb g3 o2 r1 rm fun g s2 Z2 ρ2 m2 r2 hf ex2 hg2 ho2=>?_;cases hf with
  |next=>exact HW c n ce cb e body σ₂ σ' fl Z2 ρ2 m2 s2 A P ok hc hb g4 o r2 rm fun g s3 Z3 ρ3 m3 r3 hf3 ex3 hg3 ho3=>h g s3 Z3 ρ3 m3 r3 hf3 ((ex1.trans ex2).trans ex3) (hg3.trans (hg2.trans hg1)) (ho3.trans (ho2.trans ho1))
  |ret hv=>(revert o h;refine aR g4 ?_;intro o h);exact h _ s2 Z2 ρ2 m2 r2 (.ret hv) (ex1.trans ex2) (hg2.trans hg1) (ho2.trans ho1)
theorem yA {y:CE} {a:List CS} {k:Nat} (HW:pv W d k R.whl) (ok:aJ W c) (hc:cR W.T c.fd.scope.names (n+1) (.whl y a) t=true) (hx:bN W.T R (.whl y a) σ=some (fl,σ')) (o:ae σ') (r:a9 W Z ρ s.heap c.L m σ) (rm:aL A d) (h:FP W c Z ρ s σ.heap σ' fl Q):wpAny (model W.prog W.w) A (exec t c.env) Q E s:=by
 refine BJ hc ?_;clear hc;intro e l rr p hc;refine cq hc fun c0 c1 c2=>?_;clear hc;obtain rfl:=KE.mp c0;have hc:=And.intro c1 c2;refine wpAny_While (zc (k:=k) (HW c n y a e l σ σ' fl Z ρ m s A _ ok hc.1 hc.2 hx o r rm fun g s' Z' ρ' m' r' hf ex hg ho=>?_));exact h g s' Z' ρ' m' r' hf ex hg ho
theorem uD:∀ (k i j:Nat) (y:V),(dL k i)[j]?=some y→y=.int ((i+j:Nat):Int)
 |0,i,j,y,h=>by simp [dL] at h
 |k+1,i,0,y,h=>by simp only [dL,List.getElem?_cons_zero] at h;(replace h:=Kj h;obtain rfl:=h);rfl
 |k+1,i,j+1,y,h=>by
  simp only [dL,List.getElem?_cons_succ] at h;change uD k (i+1) j y h
  congr 2
  lia
theorem uC:∀ (k i:Nat),(dL k i).length=k
 |0,_=>rfl
 |k+1,i=>by refine (?_:(dL k (i+1)).length+1=_);rw [uC k]
set_option tactic.hygienic true in
theorem yI {y:Nat} {x:CE} {a:List CS} (F:Facts2 W) (H:SE W d R.e) (HFr:sI W d R.fr) (M:aS R) (ok:aJ W c) (hc:cR W.T c.fd.scope.names (n+1) (.for y x a) t=true) (hx:bN W.T R (.for y x a) σ=some (fl,σ')) (o:ae σ') (r:a9 W Z ρ s.heap c.L m σ) (rm:aL A d) (h:FP W c Z ρ s σ.heap σ' fl Q):wpAny (model W.prog W.w) A (exec t c.env) Q E s:=by
 refine BM hc ?_;clear hc;intro tg e l rr p hc;refine v4 hc ?_;clear hc;intro zn zp hc;refine eF hc fun c0 c1 c2 c3 c4=>?_;obtain rfl:=KE.mp c0
 (refine am (gh c1) ?_;rintro p' hp' hk)
 (have zq0:_=_:=hp';clear hp';injection zq0 with zq0a zq0b;clear c1;obtain rfl:=zq0a;obtain rfl:=zq0b)
 clear hc;rcases Gr hx with ⟨nx,rfl,hx⟩|hx
 ·refine ah hx fun v σ₁ g1 g2=>?_
  (refine dy (C6 g2) ?_;clear g2;rintro k rfl hk1000 g2)
  induction n using Nat.casesOn with
  |zero=>exact ac c2
  |succ n=>
   revert c3;refine i8 c2 ?_;clear c2;intro f av cp c2 c3;refine cq c2 fun d1 d2 d3=>?_;refine wpAny_For ?_ (rl c3)
   (refine d6 (p9 d1) ?_;rintro fy fp hf)
   have h0:∀ {Q:Value→Shared→Prop},Q (.type "range") s→wpAny (model W.prog W.w) A (eval f c.env) Q E s:=fun hq=>p7 F ok (v:=.type "range") (.tail _ (.tail _ (.head _))) d1 r hq;clear c2 c3 d1;subst hf;refine LD (h0 (PyProof.Rows.callWith_type1 ?_ (dW d3)));change dW d3;have o1:=ae.of (M.fr _ _ _) g2 o;refine Lh (iI H M ok d2 g1 o1 r rm fun va s1 Z1 ρ1 m1 r1 hva ex1 hg1 ho1=>Le ?_);have hva:aa W Z1 va (.int k):=hva
   (have zq0:Exists _:=aa.inv hva;clear hva;obtain ⟨_,zq0⟩:=zq0;clear hva;subst zq0)
   rename_i tk0;refine call_range_1 ?_;have z1:Builtin.Range.rangeSize 0 (k:Int) 1=(k:Int):=by change rangeSize_one;split<;>(first|rfl|lia)
   refine wpAny_pyIter_range (IsRange.new ..) (small_one (by exact KZ _) (by exact KZ _) (by exact KZ _) M2) ?_;have up:∀ (hh:Heap) (oo:Obj) (b:Addr) (o:Obj),hh.get? b=some o→(hh.push oo).get? b=some o:=fun hh oo b o e=>Heap.get?_push_of_some _ e;have sz:∀ (hh:Heap) (oo:Obj),hh.objs.size≤(hh.push oo).objs.size:=fun hh oo=>by change Kz;exact KJ _
   have r2:=r1.grow (up s1.heap { cls:=.type "range",data:=.fields #[.int 0 s1.toks,.int (k:Int) tk0,.int 1 (s1.toks+1)] }) (sz _ _);have r3:=r2.grow (up _ { cls:=.type "range_iterator",data:=.fields #[rawInt 0,rawInt (Builtin.Range.rangeSize 0 (k:Int) 1),rawInt 1] }) (sz _ _);have x2:aA Z1 ρ1 s1.heap c.L σ₁.heap Z1 ρ1 _ σ₁.heap:=aA.grow (up s1.heap { cls:=.type "range",data:=.fields #[.int 0 s1.toks,.int (k:Int) tk0,.int 1 (s1.toks+1)] }) (sz _ _);have x3:aA Z1 ρ1 _ c.L σ₁.heap Z1 ρ1 _ σ₁.heap:=aA.grow (up (s1.heap.push { cls:=.type "range",data:=.fields #[.int 0 s1.toks,.int (k:Int) tk0,.int 1 (s1.toks+1)] }) { cls:=.type "range_iterator",data:=.fields #[rawInt 0,rawInt (Builtin.Range.rangeSize 0 (k:Int) 1),rawInt 1] }) (sz _ _);have K:=pF (W:=W) (Z:=Z1) (l:=dL k 0) (uC k 0).symm (Walks.range (prog:=W.prog) (w:=W.w) rm.2.2 (s1.heap.push { cls:=.type "range",data:=.fields #[.int 0 s1.toks,.int (k:Int) tk0,.int 1 (s1.toks+1)] }).objs.size 0 1 k) (fun b hb=>by simpa using hb) (fun b hb=>.inl (by simpa using hb)) (fun i u y p q=>by
    (refine ay p ?_;(try clear p);rintro tk rfl)
    change uD k 0 i y q;have:(0:Int)+(i:Int) * 1=((0+i:Nat):Int):=by simp
    change this;exact .int)
   refine HFr c n.succ y _ a l (dL k 0) σ₁ σ' fl Z1 ρ1 m1 _ A _ _ s1.heap _ ok rm hk c4 g2 o r3 K ?_ (bP.new r2) ?_ (sz _ _) (x2.trans x3) fun g s' Z' ρ' m' r' hf ex hg ho=>?_
   ·have e1:(0:Int)+((0:Nat):Int) * 1=0:=by rfl
    have e2:(k:Int) - ((0:Nat):Int)=k:=by rfl
    refine (?_:IsRangeIter _ _ (0+((0:Nat):Int) * 1) ((k:Int) - ((0:Nat):Int)) 1)
    (change e1;change e2;change z1)
    exact Heap.get?_push_size _ rfl
   ·exact KI (KC _) (Nat.le_of_eq (Kz ..).symm)
   ·exact h g s' Z' ρ' m' r' hf (ex1.trans ex) (hg.trans hg1) (ho.trans ho1)
 ·refine ah hx fun yv σ₁ g1 g2=>?_;refine ah g2 fun lv σ₂ g3 g4=>?_;have o2:=ae.of (M.fr _ _ _) g4 o;have e3:σ₂=σ₁:=wk g3;clear g2;subst e3;refine wpAny_For ?_ (rl c3);refine H c n x e σ _ yv Z ρ m s A _ E ok c2 g1 o2 r rm fun v s1 Z1 ρ1 m1 r1 hy ex1 hg1 ho1=>?_;refine tw (c:=c) rm.2.2 g3 r1 hy fun oI St hsz K st=>?_;have up:∀ b o,s1.heap.get? b=some o→(s1.heap.push oI).get? b=some o:=fun b o e=>Heap.get?_push_of_some _ e;have r2:=r1.grow up (by change Kz;exact KJ _);have ex2:aA Z1 ρ1 s1.heap c.L σ₂.heap Z1 ρ1 (s1.heap.push oI) σ₂.heap:=aA.grow up (by change Kz;exact KJ _);refine HFr c n y _ a l lv σ₂ σ' fl Z1 ρ1 m1 { s1 with heap:=s1.heap.push oI } A s1.heap.objs.size St s1.heap _ ok rm hk c4 g4 o r2 K st (bP.new r1) (by refine (?_:_ < (s1.heap.push oI).objs.size);change Kz;exact KC _) (br _) ex2 fun g s' Z' ρ' m' r' hf ex hg ho=>?_;exact h g s' Z' ρ' m' r' hf (ex1.trans ex) (hg.trans hg1) (ho.trans ho1)
end
set_option tactic.hygienic true
section
variable {W:Wd} {d:Nat} {R:ao} {c:Cx} {n:Nat} {t:Stmt} {σ σ':St} {fl:Fl} {Z:ZM} {ρ:List (Addr×Addr)} {m:Str→Option Value} {s:Shared} {A:Around} {Q:Flow→Shared→Prop} {E:Value→Shared→Prop}
structure sH (W:Wd) (d k:Nat) (R:ao):Prop where
 e:SE W d R.e
 t:hH W d R.t
 ss:SS W d R.ss
 fn:fB W d R.fn
 cp:kI W d R.cp
 co:sJ W d R.e
 whl:pv W d k R.whl
 fr:sI W d R.fr
 lo:jl R.fn
 mo:aS R
theorem yC {k:Nat} {cs:CS} (F:Facts2 W) (S:sH W d k R) (ok:aJ W c) (hc:cR W.T c.fd.scope.names n cs t=true) (hx:bN W.T R cs σ=some (fl,σ')) (o:ae σ') (r:a9 W Z ρ s.heap c.L m σ) (rm:aL A d) (h:FP W c Z ρ s σ.heap σ' fl Q):wpAny (model W.prog W.w) A (exec t c.env) Q E s:=by
 have F1:=F.toFacts;induction n using Nat.casesOn with
 |zero=>exact ac hc
 |succ n=>
  induction cs using CS.casesOn
  case e y=>exact yJ S.e S.mo ok hc hx o r rm h
  case asg xs y=>exact yN F1 S.e S.co S.mo ok hc hx o r rm h
  case asgF ob f y=>exact yM F1 S.e S.mo ok hc hx o r rm h
  case unp xs y=>exact yB F1 S.e S.mo ok hc hx o r rm h
  case setI ob i y=>exact yD F1 S.e S.mo ok hc hx o r rm h
  case augN z op y=>exact yK F1 S.e S.mo ok hc hx o r rm h
  case augF ob f op y=>exact yL F1 S.e S.mo ok hc hx o r rm h
  case ife y a b=>exact yH S.t S.ss S.mo ok hc hx o r rm h
  case whl y a=>exact yA S.whl ok hc hx o r rm h
  case «for» y x a=>exact yI F S.e S.fr S.mo ok hc hx o r rm h
  case ret y=>exact yF S.e S.mo ok hc hx o r rm h
  case ret0=>exact yE hc hx r h
  case pass=>exact yG hc hx r h
  case stuck=>exact a0 hx
theorem Aa {k:Nat} (F:Facts2 W) (S:sH W d k R):SS W d (fJ W.T R):=by
 intro c n l;induction l with
 |nil=>
  intro b σ σ' fl Z ρ m s A Q E ok hc hx o r rm h;change ef hc
  (revert o h;refine aR hx ?_;intro o h)
  exact wpAny_execs_nil (h _ _ _ _ _ r .next .refl rfl rfl)
 |cons cs l ih=>
  intro b σ σ' fl Z ρ m s A Q E ok hc hx o r rm h
  (refine be (cU hc) ?_;clear hc;rintro t b rfl h1 h2)
  refine ah hx fun f σ₁ g1 g2=>?_;have o1:ae σ₁:=by
   clear g1;induction f using Fl.casesOn with
   |next=>exact ae.of (bm S.mo) g2 o
   |ret x=>(refine aw (bi g2) ?_;clear g2;rintro _ rfl);exact o
  refine wpAny_execs_cons (yC F S ok h1 g1 o1 r rm fun g s1 Z1 ρ1 m1 r1 hf ex hg ho=>?_);cases hf with
  |next=>exact ih b σ₁ σ' fl Z1 ρ1 m1 s1 A Q E ok h2 g2 o r1 rm fun g s2 Z2 ρ2 m2 r2 hf2 ex2 hg2 ho2=>h _ _ _ _ _ r2 hf2 (ex.trans ex2) (hg2.trans hg) (ho2.trans ho)
  |ret hv=>(revert o h;refine aR g2 ?_;intro o h);exact h _ _ _ _ _ r1 (.ret hv) ex hg ho
theorem cW (F:fC W):∀ n d,sH W d n (run W.T n d)
 |0,d=>{
   e:=fun c n ce e σ σ' x Z ρ m s A Q E ok hc hx=>by exact a0 hx
   t:=fun c n ce e σ σ' x Z ρ m s A Q E ok hc hx=>by exact a0 hx
   ss:=fun c n ce e σ σ' x Z ρ m s A Q E ok hc hx=>by exact a0 hx
   fn:=fun f Fn fd xs vs as σ σ' x Z ρ L m s A R hF ok hb hx hl he=>by exact a0 he
   cp:=fun c n y body elt it tg scope pos l vs σ σ' Z ρ m s A E I St h₀ RR ok rm hs hk hc hsz he=>by exact a0 he
   co:=fun c n y body src elt tg it scope pos ps use σ σ' x Z ρ m s A Q E ok h1 h2 h3 h4 h5 hx=>by exact a0 hx
   whl:=fun c n ce cb e body σ σ' fl Z ρ m s A P ok hc hb hx=>by exact a0 hx
   fr:=fun c n y p cb body l σ σ' fl Z ρ m s A I St h₀ P ok rm hk hc hx=>by exact a0 hx
   lo:=fun f a σ x σ' e=>by exact a0 e
   mo:=nu W.T 0 d }
 |n+1,d=>{
   e:=BD F (cW F n d).e (cW F n d).t (cW F n d).cp (cW F n d).fn (cW F n d).lo (cW F n d).mo
   t:=Af (cW F n d).e (cW F n d).t tK jw (cW F n d).mo
   ss:=Aa F.toFacts2 (cW F n d)
   fn:=by
    induction d using Nat.casesOn with
    |zero=>exact fun f Fn fd xs vs as σ σ' x Z ρ L m s A R hF ok hb hx hl he=>by exact a0 he
    |succ d=>exact AK F.toFacts2.toFacts (cW F n d).ss
   cp:=BF F.toFacts2.toFacts (cW F n d).e (cW F n d).mo
   co:=BG (cW F n d).cp (cW F n d).e (cW F n d).mo
   whl:=zI (cW F n d).t (cW F n d).ss (cW F n d).whl (cW F n d).mo
   fr:=Bu F.toFacts2.toFacts (cW F n d).ss (cW F n d).mo
   lo:=by
    induction d using Nat.casesOn with
    |zero=>exact fun f a σ x σ' e=>by exact a0 e
    |succ d=>exact F7
   mo:=nu W.T (n+1) d }
end
set_option tactic.hygienic false
noncomputable def rt (s:List Nat):Bool:=match s with|[c]=>Nat.blt c 1114112|_=>true
theorem yl {a:List Nat}:∀ {l:List (List Nat)},mS a l=false→a∉l
 |[],_=>fun h=>by cases h
 |b::r,h=>by
  dsimp only [mS] at h;revert h;refine d8 (bV a b) ?_ ?_;rotate_left
  ·intro q h;contradiction
  ·intro q h;intro m;rcases KQ.mp m with rfl|m
   ·rw [ft.mpr rfl] at q;contradiction
   ·exact yl h m
theorem sd:∀ {l:List (List Nat)},jd l=true→l.Nodup
 |[],_=>List.nodup_nil
 |a::r,h=>by
  dsimp only [jd] at h;revert h;refine d8 (mS a r) ?_ ?_;rotate_left
  ·intro q h;exact ac h
  ·intro q h;exact List.nodup_cons.mpr ⟨yl q,sd h⟩
theorem DW {l:List (List Nat)} (h1:jd l=true) (h2:l.all rt=true) (a b:Nat) (e:lM l a=lM l b):a=b:=by
 have low:∀ (i k:Nat) (s:List Nat),bB l i=some s→s≠[1114112+k]:=fun i k s hi q=>by
  rw [iQ] at hi;have:=KM.mp h2 s (List.mem_of_getElem? hi);clear hi;subst q;have:=KB this;lia
 unfold lM at e;induction qa:bB l a using Option.casesOn with
 |some s=>
  induction qb:bB l b using Option.casesOn with
  |some t=>
   rw [qa,qb] at e;have:=iM e;clear e;subst this;rw [iQ] at qa qb;exact (List.getElem?_inj (List.getElem?_eq_some_iff.mp qa).1 (sd h1)).mp (qa.trans qb.symm)
  |none=>rw [qa,qb] at e;exact absurd (iM e) (low a b s qa)
 |none=>
  induction qb:bB l b using Option.casesOn with
  |some t=>rw [qa,qb] at e;exact absurd (iM e).symm (low b a t qb)
  |none=>rw [qa,qb] at e;have:=iM e;simp at this;exact this
set_option tactic.hygienic true in
theorem lY {α:Type}:∀ {l:List ((Nat×Nat)×α)} {a b:Nat} {x:α},cL l a b=some x→((a,b),x)∈l
 |[],_,_,_,h=>by exact a0 h
 |p::r,a,b,x,h=>by
  dsimp only [cL] at h
  split at h
  ·rename_i q1 q2;(replace h:=Kj h;obtain rfl:=h);have e1:=cS.mp q1;have e2:=cS.mp q2;clear q1 q2;subst e1 e2;exact .head _
  ·exact .tail _ (lY h)
theorem kG {α β:Type} {p:α→β→Bool}:∀ {l:List α} {k:List β},aY p l k=true→∀ (i:Nat) (a:α) (b:β),l[i]?=some a→k[i]?=some b→p a b=true
 |[],k,h,i,a,b,x,y=>by simp at x
 |c::l,k,h,i,a,b,x,y=>by
  (refine be (cU h) ?_;clear h;rintro d t rfl h1 h2)
  induction i using Nat.casesOn with
  |zero=>simp at x y;subst x y;exact h1
  |succ i=>exact kG h2 i a b (by simpa using x) (by simpa using y)
theorem m8 {n:Nat} (h:n≤1000):n≤sizeLine:=by change KL;exact Kl M1 (Kk _ _)
theorem jr {W:Wd}:∀ (n:Nat) (v:Value) (y:V),gy W.K n v y=true→∀ Z:ZM,(∀ a o,W.K.lookup a=some o→Z a=some o)→aa W Z v y
 |0,v,y,h=>by exact ac h
 |n+1,v,y,h=>fun Z hz=>by
  induction y using V.casesOn with
  |none=>induction v using Value.casesOn<;>first|exact .none|exact ac h
  |bool b=>induction v using Value.casesOn<;>first|exact ac h|(refine aU (KU h) ?_;exact .bool)
  |int j=>induction v using Value.casesOn<;>first|exact ac h|(refine aU (KU h) ?_;exact .int)
  |str l=>induction v using Value.casesOn<;>first|exact ac h|exact d9 h fun h1 h2=>by refine aU (dJ.mp h1) ?_;exact .str (m8 (KB h2))
  |stat b=>induction v using Value.casesOn<;>first|exact ac h|(refine aU (cS.mp h) ?_;exact .stat)
  |tup l=>
   dsimp only [gy] at h;revert h;refine aV (fX v) (fun h=>ac h) fun a q=>?_;refine aU (nF q) ?_;dsimp only;refine aV (hZ W.K a "tuple") (fun h=>ac h) fun vs q2 h=>?_;exact ay (qo q2) fun k q3=>d9 h fun h1 h2=>.tup (hz _ _ q3) (m8 (KB h1)) (jg h2) fun i v x e1 e2=>jr n v x (kG h2 i v x e1 e2) Z hz
  |lst l=>
   dsimp only [gy] at h;revert h;refine aV (fX v) (fun h=>ac h) fun a q=>?_;refine aU (nF q) ?_;dsimp only;refine aV (hZ W.K a "list") (fun h=>ac h) fun vs q2 h=>?_;exact ay (qo q2) fun k q3=>d9 h fun h1 h2=>.lst (hz _ _ q3) (m8 (KB h1)) (jg h2) fun i v x e1 e2=>jr n v x (kG h2 i v x e1 e2) Z hz
  |_=>exact ac h
section
variable (T:b8) (K:Frag)
end
theorem Fz {k:ScopeKind} (h:wz k=true):k=.function:=by induction k using ScopeKind.casesOn<;>first|exact ac h|rfl
theorem zU {k:FuncBody} {b:List Stmt} (h:pO k=some b):k=.stmts b:=by induction k using FuncBody.casesOn<;>first|exact a0 h|exact Kq _ (Kj h)
theorem oy:∀ {l:List Nat} {k:Nat},bq l k=true↔k∈l
 |[],k=>⟨fun h=>(by exact ac h),fun h=>(by cases h)⟩
 |a::r,k=>by
  dsimp only [bq];induction q:Nat.beq a k using Bool.casesOn with
  |true=>have:=cS.mp q;clear q;subst this;exact ⟨fun _=>.head _,fun _=>rfl⟩
  |false=>
   refine ⟨fun h=>.tail _ (oy.mp h),fun h=>?_⟩;rcases KQ.mp h with e|h
   ·clear h;subst e;rw [cS.mpr rfl] at q;contradiction
   ·exact oy.mpr h
theorem vr:∀ {l:List Nat},nQ l=true→l.Nodup
 |[],_=>List.nodup_nil
 |a::r,h=>by
  dsimp only [nQ] at h;revert h;refine d8 (bq r a) ?_ ?_;rotate_left
  ·intro q h;exact ac h
  ·intro q h;exact List.nodup_cons.mpr ⟨fun m=>(by rw [oy.mpr m] at q;contradiction),vr h⟩
theorem yo {T:b8}:∀ {as:List Arg} {ps:List Nat},aY (fun (a:Arg) n=>sq a.arg (T.nm n)) as ps=true→as.map (·.arg)=ps.map T.nm
 |[],ps,h=>by induction ps using List.casesOn with|nil=>rfl|cons=>exact ac h
 |a::as,ps,h=>by
  (refine be (cU h) ?_;clear h;rintro n t rfl h1 h2)
  (change Lj;change Lj;change yo h2;change dJ.mp h1;with_reducible rfl)
theorem Ds {p:Arguments} (h1:p.posonlyargs.isEmpty=true) (h2:p.vararg.isNone=true) (h3:p.kwonlyargs.isEmpty=true) (h4:p.kw_defaults.isEmpty=true) (h5:p.kwarg.isNone=true):p=⟨[],p.args,none,[],[],none,p.defaults⟩:=by
 obtain ⟨a,b,c,d,e,f,g⟩:=p;obtain rfl:a=[]:=KE.mp h1;obtain rfl:c=none:=Lp.mp h2;obtain rfl:d=[]:=KE.mp h3;obtain rfl:e=[]:=KE.mp h4;clear h1 h2 h3 h4;obtain rfl:f=none:=Lp.mp h5;rfl
theorem Dr {fd:FuncData} (h:uO T fd F=true):∃ as ann,fd.params=⟨[],as,none,[],[],none,ann⟩∧as.map (·.arg)=F.params.map T.nm:=
 eG h fun h1 h2 h3 h=>cq h fun h4 h5 h6=>⟨_,_,Ds h1 h2 h3 h4 h5,yo h6⟩
theorem Iv {fd:FuncData} (h:sf W.K fd F=true):(fd.defaults=.none∧F.dflts=[])∨∃ t vs n,fd.defaults=.ref t∧W.K.lookup t=some (dI vs n)∧∀ Z:ZM,(∀ a o,W.K.lookup a=some o→Z a=some o)→bM W Z vs F.dflts:=by
 unfold sf at h;revert h;refine aV (fX fd.defaults) (fun h=>?_) fun t q=>?_
 ·exact d9 h fun h1 h2=>.inl ⟨KU h1,KE.mp h2⟩
 ·dsimp only;refine aV (hZ W.K t "tuple") (fun h=>ac h) fun vs q2 h=>?_;exact ay (qo q2) fun k q3=>d9 h fun h1 h2=>.inr ⟨t,vs,k,nF q,q3,fun Z hz=>⟨m8 (KB h1),jg h2,fun i v x e1 e2=>jr 5 v x (kG h2 i v x e1 e2) Z hz⟩⟩
theorem Gs (h:rS W.T W.K N (f,F)=true):∃ fd,jo W f F fd:=by
 unfold rS at h;revert h;refine aV (W.K.lookup f) (fun h=>ac h) fun o hl=>?_;dsimp only;refine aV (sj o.data) (fun h=>ac h) fun fd hd h=>?_;obtain ⟨oc,od,da,sl⟩:=o;have hd:da=.func fd:=IB hd;subst hd;refine eF h fun h1 h2 h3 h4 h=>eF h fun h5 h6 h7 h8 h=>eG h fun h9 h10 h11 h=>d9 h fun h12 h13=>?_;refine ⟨fd,⟨oc,od,sl,hl⟩,Fz h1,by simpa using h2,by simpa using h3,fun x hx e=>?_,h5,?_,cS.mp h7,cS.mp h8,KE.mp h9,fun p hp=>?_,vr h11,Dr h12,Iv h13⟩
 ·have:=KM.mp h4 x hx;rw [e] at this;exact ac this
 ·revert h6;refine aV (pO fd.body) (fun h=>ac h) fun b q h=>?_;exact ⟨b,N,zU q,h⟩
 ·have:=KM.mp h10 p hp;refine aT (rA ..) ?_;exact o8 this
section
variable (T:b8) (K:Frag)
end
theorem Iy {l:List (List Nat×V)} (h:mK y=some l):y=.dct l:=by
 induction y using V.casesOn<;>first|exact a0 h|exact Kq _ (Kj h)
theorem Fk {e:DictEntry} {l:List Nat} (h:wd e l=true):∃ t,e.key=.str (aq l) t:=by
 obtain ⟨x,k,v⟩:=e;induction k using Value.casesOn<;>first|exact ac h|exact ⟨_,Kq (Value.str · _) (dJ.mp h)⟩
theorem Ix {a:Addr} {l:List (List Nat×V)} (h:sh W.K a l=true) (hh:rI W.K a=l.map (fun q=>hashStr W.w (aq q.1))) (Z:ZM) (hz:∀ a o,W.K.lookup a=some o→Z a=some o):aa W Z (.ref a) (.dct l):=by
 unfold sh at h;unfold rI at hh;revert h hh;refine aV (mI W.K a "dict") (fun h=>ac h) fun es q h hh=>?_
 (refine ay (It q) ?_;rintro n hl)
 refine eG h fun h2 h3 h4 h5=>?_;have hh:es.map DictEntry.hash=l.map (fun q=>hashStr W.w (aq q.1)):=hh;refine .dct (hz _ _ hl) (by simpa using h2) (sd h3) (KB h4) (jg h5) (fun i e p x y=>?_) fun i e p x y=>?_
 ·refine cq (kG h5 i e p x y) fun q1 q2 q3=>b7 (Fk q1) ?_ (m8 (KB q2));have e1:(es.map DictEntry.hash)[i]?=(l.map (fun q=>hashStr W.w (aq q.1)))[i]?:=by (change hh;with_reducible rfl)
  rw [List.getElem?_map,List.getElem?_map,x,y] at e1;exact Kj e1
 ·exact cq (kG h5 i e p x y) fun _ _ q3=>jr 5 _ _ q3 Z hz
theorem ID {v:Value} {c n:Nat} (hv:findIn W.K (.ref c) (W.T.nm n)=some (some v)) (h:sn W.K v y=true) (hh:kr W.T W.K ((c,n),y)=ko W.w ((c,n),y)) (Z:ZM) (hz:∀ a o,W.K.lookup a=some o→Z a=some o):aa W Z v y:=by
 unfold kr ko at hh;dsimp only at hh;rw [hv] at hh;unfold sn at h;revert h hh;refine aV (mK y) (fun h _=>jr 5 _ _ h Z hz) fun l q=>?_;refine aU (Iy q) ?_;dsimp only [uB];refine aV (fX v) (fun h=>ac h) fun a q2 h hh=>?_;refine aU (nF q2) ?_;exact Ix h hh Z hz
set_option tactic.hygienic true in
theorem GF {hi :Nat} {l:List (List Nat)} (hn:W.T.nm=lM l) (h1:jd l=true) (h2:l.all rt=true) (h:oL W.T W.K hi=true) (hf:oG W.T W.K N=true) (hh:W.T.cvals.map (kr W.T W.K)=W.T.cvals.map (ko W.w)):fC W:=by
 refine pj h fun h f13 f14 f15 f16 f17=>pj h fun h f7 f8 f9 f11 f12=>pj h fun f1 f2 f3 f4 f5 f6=>d9 f13 fun f13 f13'=>?_;have cls:∀ c l,look W.T.flds c=some l→xQ W.T W.K (c,l)=true:=fun c l e=>KM.mp f1 _ (ig e);have some_of:∀ {α:Type} {o:Option α},o.isSome=true→∃ l,o=some l:=fun h=>Option.isSome_iff_exists.mp h;refine { inj:=fun a b e=>DW h1 h2 a b (by refine aT (hn ..) ?_;exact e),cls:=fun c l e=>?_,fld:=fun c l n e q=>?_,meth:=fun c n g e=>?_,cval:=fun c n y e=>?_,gns:=f4,bns:=f5,cst:=f6,lim:=Kx.mp f7,glob:=fun x y e=>?_,blt:=fun p hp=>?_,fns:=fun f F e=>?_,ini:=dJ.mp f11,mak:=fun c f e=>?_,top:=?_,sub:=fun c l C l' e e'=>?_,icl:=fun c l e=>?_,cget:=Kx.mp f16,ctak:=Kx.mp f17 }
 ·have:=cls c l e;exact eF this fun a b c d _=>⟨a,b,c,Kx.mp d⟩
 ·have:=cls c l e;exact eF this fun _ _ _ _ z=>Kx.mp (KM.mp z n (oy.mp q))
 ·have:=KM.mp f2 _ (lY e);refine pj this fun m1 m2 m3 m4 m5 m6=>?_;exact ⟨⟨Kx.mp m1,m2,Kx.mp m3,Kx.mp m4,by simpa using m5⟩,some_of m6⟩
 ·have:=KM.mp f3 _ (lY e);unfold xG at this;dsimp only at this;revert this;refine aV (findIn W.K (.ref c) (W.T.nm n)) (fun h=>ac h) fun u hu=>?_;dsimp only;cases u with
  |none=>exact fun h=>ac h
  |some v=>
   refine fun this=>eG this fun m1 m2 m3 m4=>?_
   (refine ay (some_of m3) ?_;rintro l m3)
   exact FR v l rfl (Kx.mp m1) (by simpa using m2) (fun Z hz=>ID hu m4 (List.map_inj_left.mp hh _ (lY e)) Z hz) m3
 ·have:=KM.mp f8 _ (ig e);unfold wJ at this;dsimp only at this;revert this;refine aV (nsIn W.K mainGlobals (W.T.nm x)) (fun h=>ac h) fun u hu=>?_;dsimp only;cases u with
  |none=>exact fun h=>ac h
  |some u=>exact fun this=>aF u rfl (fun Z hz=>jr 5 _ _ this Z hz)
 ·have:=KM.mp f9 p hp;exact d9 this fun a b=>⟨Kx.mp a,Kx.mp b⟩
 ·exact Gs (KM.mp hf _ (ig e))
 ·have:=KM.mp f12 _ (lY e);unfold vQ at this;dsimp only at this;rw [cS.mpr rfl] at this;dsimp only at this;exact d9 this fun a b=>⟨a,b⟩
 ·(refine ay (some_of f13) ?_;rintro o ho)
  exact bI hi o ho (KB f13')
 ·have:=KM.mp (KM.mp f14 _ (ig e)) _ (ig e');unfold tq at this;dsimp only at this;generalize bq l C=q at this;induction q using Bool.casesOn with
  |true=>exact ⟨fun _=>this,fun z=>(by contradiction)⟩
  |false=>exact ⟨fun z=>(by exact ac z),fun _=>this⟩
 ·have:=KM.mp f15 _ (ig e);exact eG this fun a b c d=>⟨a,b,Kx.mp c,Kx.mp d⟩
set_option backward.match.sparseCases false
set_option tactic.hygienic true
theorem DV:jd rb=true:=by decide+kernel
theorem DU:rb.all rt=true:=by decide+kernel
set_option tactic.hygienic false
section
variable {W:Wd} {d:Nat} {R:ao}
theorem Ai (F:Facts W) (H:SS W d R.ss) {Fn:Fn} {fd:FuncData} {vs:List Value} {as:Args} {x:X} {s:Shared} {P:Result→Shared→Prop} (hF:look W.T.fns f=some Fn) (ok:jo W f Fn fd)
  (hb:BindsTo s fd as (fN W Fn.params vs)) (hx:bO W Z [] vs xs) (hl:xs.length=Fn.params.length) (he:cI W.T R f xs ⟨[],[],ds,[]⟩=some (x,σ')) (o:ae σ') (kz:∀ a o,W.K.lookup a=some o→Z a=some o) (zh:∀ a o,Z a=some o→s.heap.get? a=some o)
  (rm:gu A (d+1)) (nl:s.heap.NoLimit) (h:∀ v s' Z',bg W Z' [] v x∨(∃ ρ',bg W Z' ρ' v x)→(∀ b o,s.heap.get? b=some o→s'.heap.get? b=some o)→s'.gens=s.gens→s'.os=s.os→P (.ok (.ret v)) s'):codeAny (model W.prog W.w) A (.call (.ref f) as) P s:=by
 refine cps fun GG kk=>?_
 (refine oR ok.at_ ?_;(try clear ok.at_);rintro oc od sl hat)
 (refine aN ok.body ?_;(try clear ok.body);rintro b n hbody hchk)
 have kin:W.K.In s.heap:=fun a o e=>zh a o (kz a o e);unfold cI at he;rw [hF] at he;dsimp only at he;induction q:R.ss Fn.body { (⟨[],[],ds,[]⟩:St) with loc:=dU Fn.params xs } using Option.casesOn with
 |none=>rw [q] at he;exact a0 he
 |some w=>
  obtain ⟨fl,σ₁⟩:=w;rw [q] at he
  (have za:=(af he).1;have zb:=(af he).2;clear he;obtain rfl:=za;obtain rfl:=zb)
  refine kk (codeAny_call_def (uy rm) (kin _ _ hat) rfl nl (codeRec_of kin ok.code) hbody hb ok.cell (y8 ok) (fun h₀ hns hk=>?_) ok.co ok.gen ok.kind);have hsz:s.heap.objs.size < h₀.objs.size:=hns.lt;have noOwn:∀ a,¬ dh ([]:List (Addr×Addr)) ([]:List a8) a:=fun a q=>by (refine jb q ?_;(try clear q);rintro k p c h1 _);simp at h1
  have r₀:a9 W Z [] h₀ s.heap.objs.size _ { (⟨[],[],ds,[]⟩:St) with loc:=dU Fn.params xs }:={
   kz:=kz
   zh:=fun a o e=>hk _ _ (zh a o e)
   zL:=by
    induction q:Z s.heap.objs.size using Option.casesOn with
    |none=>rfl
    |some o=>exact absurd (KO (zh _ _ q)) (KS _)
   ns:=hns
   loc:=ru F.inj ok.nod hx hl
   len:=rfl
   cell:=fun k p c h1=>by simp at h1
   own:=fun a q=>absurd q (noOwn a)
   apart:=fun k k' p p' c c' a h1=>by simp at h1
   two:=fun k p c fs h1=>by simp at h1 }
  refine H ⟨callEnv fd s.heap.objs.size f⟩ n Fn.body b _ σ₁ fl Z [] _ { s with heap:=h₀,toks:=_ } _ _ _ ⟨ok.kind,ok.glob,ok.blt⟩ hchk q o r₀ (uz rm) fun g s' Z' ρ' m' r' hf ex hg ho=>?_;have keep:∀ b o,s.heap.get? b=some o→s'.heap.get? b=some o:=fun b o e=>ex.keep b o (hk _ _ e) (noOwn b) (KW (KO e));cases hf with
  |next=>exact h .none s' Z' (.inr ⟨ρ',aa.none⟩) keep hg ho
  |ret hv=>exact h _ s' Z' (.inr ⟨ρ',hv⟩) keep hg ho
end
set_option backward.match.sparseCases true
set_option tactic.hygienic true
noncomputable def Jz:Prop:=∀ l:List Int,l.length≤63→∃ (n:Nat) (ds:List Nat) (σ':St),cI T7 (run T7 n 30) 825 [.v (.lst (l.map .sint))] ⟨[],[],ds,[]⟩=some (.v (.bool true),σ')∧ae σ'
theorem DO {h:Heap} {a:Addr} {m :Str→Option Value} (x:h.Ns a m) (y:h.Ns a m'):m=m':=by
 obtain ⟨o,es,ep,h1,h2,_,h4⟩:=x;obtain ⟨o',es',ep',k1,k2,_,k4⟩:=y;rw [h1] at k1;cases k1;rw [h2] at k2;cases k2
 funext z
 rw [← h4,← k4]
theorem wC {P:Params} {h:Heap}:∀ {ns:List Int} {vs:List Value},WellAll P h vs (ns.map .int)→vs.length=ns.length∧∀ (i:Nat) (v:Value) (x:V),vs[i]?=some v→(ns.map V.sint)[i]?=some x→∀ (W:Wd) (Z:ZM),aa W Z v x
 |[],_,w=>by
  cases w;exact ⟨rfl,fun i v x e=>by simp at e⟩
 |n::ns,_,w=>by
  cases w with
  |cons a b=>
   cases a with
   |int _ t=>
    obtain ⟨h1,h2⟩:=wC b;refine ⟨by simp [h1],fun i v x e1 e2=>?_⟩;cases i with
    |zero=>simp at e1 e2;subst e1 e2;exact fun W Z=>.sint
    |succ i=>exact h2 i v x (by simpa using e1) (by simpa using e2)
theorem D7 (args:List WData):PySem.Challenge.rw_rf0002_07.row.toRowW.claim.post args (.bool true) args=true:=by
 refine postC_of (r:=PySem.Challenge.rw_rf0002_07.row.toRowW) (X:=true) ?_ ?_ rfl
 ·show WShape.has [] (.bool true) .bool=true
  simp [WShape.has,WShape.arms]
 ·show WTm.value [] (.eq .res (.lit (.bool true))) _=_
  unfold WTm.value;unfold WTm.value
  first|rfl|(simp [same];done)
theorem F8 {ns:List Int} (h:PySem.Challenge.rw_rf0002_07.row.toRowW.pre.holds [] { args:=[.list (ns.map .int)] }=true):ns.length≤63:=by
 have h:WTm.holds [] (.and (.not (.lt (.lit (.int 63)) (.len (.arg 0)))) (.lit (.bool true))) { args:=[.list (ns.map .int)] }=true:=h;unfold WTm.holds at h
 split at h
 ·rename_i hv;simp [WTm.value,less?] at hv;have e:Num.less? (WData.int 63) (WData.int ↑ns.length)=some (decide ((63:Int) < (ns.length:Int))):=rfl;rw [e] at hv
  by_cases q:(63:Int) < (ns.length:Int)
  ·rw [LA q] at hv;cases hv
  ·omega
 ·cases h
theorem JD (hlaw:Jz):yq:=by
 intro w s₀ s₁ mg mb G Y a o pm cd doc dV kV ha hd hcr hdf hmg hg args gz as hp hl hr hw hns;obtain ⟨S⟩:=Y;have F:fC ⟨pr,w,T7,S.K⟩:=GF (W:=⟨pr,w,T7,S.K⟩) rfl DV DU S.ok S.fns S.hash;obtain ⟨u,hu,hv⟩:=F.glob 208 (.stat 825) (by rfl);have hv:=hv (fun b=>S.K.lookup b) (fun _ _ e=>e);obtain ⟨m',n1,n2⟩:=lJ S.kin F.gns;have e1:=n2 _ _ hu;have e2:=DO G.T.g n1;have e3:T7.nm 208=oh.name:=by rfl
 rw [← e2] at e1;have e4:mg oh.name=some u:=by rw [← e3];exact e1
 rw [hmg] at e4;cases e4;cases hv;obtain ⟨q1,q2⟩:=pre_splitW hp;obtain ⟨d1,r1,rfl,q3,q4⟩:=hasAllW_cons q1;have:=hasAllW_nil q4;subst this;obtain ⟨xs,rfl,q5⟩:=hasW_list q3;obtain ⟨ns,rfl⟩:=items_int q5;have hlen:=F8 q2;cases hw with
 |cons hw1 hw2=>
  cases hw2;cases hw1 with
  |list hget hwa=>
   rename_i la vs;obtain ⟨i1,i2⟩:=wC hwa;obtain ⟨n,ds,σ',he,ho⟩:=hlaw ns hlen;obtain ⟨fd,ok⟩:=F.fns 825 j9 (by rfl);have zk:∀ b o,S.K.lookup b=some o→(fun b=>if b=la then some (bn vs 0) else S.K.lookup b:ZM) b=some o:=fun b o e=>by
    by_cases hb:b=la
    ·subst hb;have:=S.kin _ _ e;rw [hget] at this
     show (if b=b then _ else _)=_
     rw [Ks rfl];exact this
    ·show (if b=la then _ else _)=_
     rw [Kp hb];exact e
   have zh:∀ b o,(fun b=>if b=la then some (bn vs 0) else S.K.lookup b:ZM) b=some o→s₁.heap.get? b=some o:=fun b o e=>by
    by_cases hb:b=la
    ·subst hb;have e:(if b=b then some (bn vs 0) else S.K.lookup b)=some o:=e;rw [Ks rfl] at e;rw [hget];exact e
    ·have e:(if b=la then some (bn vs 0) else S.K.lookup b)=some o:=e;rw [Kp hb] at e;exact S.kin _ _ e
   have hx:bO ⟨pr,w,T7,S.K⟩ (fun b=>if b=la then some (bn vs 0) else S.K.lookup b:ZM) [] [.ref la] [.v (.lst (ns.map .sint))]:=
    ⟨aa.lst (Ks rfl) (by rw [i1,KL];omega) (by rw [i1];simp) fun i v x a b=>i2 i v x a b _ _,trivial⟩
   obtain ⟨vs',b1,b2,b3⟩:=pX (W:=⟨pr,w,T7,S.K⟩) (s:=s₁) (F:=j9) (ks:=[]) (kw:=[]) F.inj ok S.kin zk hx trivial (xs:=[.v (.lst (ns.map .sint))]) (by rfl);refine Lq (Ai F.toFacts2.toFacts (cW F n 30).ss (by rfl) ok b1 b2 b3 he ho zk zh ⟨by decide+kernel,by decide+kernel,rfl⟩ (F.noLimit S.kin) fun v s' Z' hv hk hgs hos=>?_);have hv:v=.bool true:=by
    rcases hv with hv|⟨ρ,hv⟩<;>(have hv:aa _ _ v (.bool true):=hv;cases hv;rfl)
   subst hv;exact ⟨.inl ⟨_,_,[],rfl,fun _=>rfl,ReadsW.bool true,D7 _,fun _=>⟨List.nodup_nil,fun _ hm=>(nomatch hm)⟩⟩,.of_keep hk,hos,by rw [hgs,hg];exact AllBare.empty⟩
set_option backward.match.sparseCases false
set_option tactic.hygienic false
structure bH where
 f:Nat
 args:List X
 h:List a8
 x:X
 h':List a8
noncomputable def rJ:List bH→Nat→Bool
 |[],_=>false
 |q::r,f=>match Nat.beq q.f f with|true=>true|false=>rJ r f
noncomputable def ask (fs:List bH) (G:Nat→List X→Mo X) (f:Nat) (args:List X):Mo X:=match rJ fs f with
 |false=>G f args
 |true=>fun σ=>match σ.ds with
  |[]=>none
  |k::r=>match bB fs k with
   |some q=>some (q.x,⟨q.h',σ.loc,r,(f=q.f∧args=q.args∧σ.heap=q.h)::σ.obs⟩)
   |none=>none
noncomputable def IR (T:b8) (fs:List bH) (R:ao):Nat→List X→Mo X:=ask fs (cI T R)
noncomputable def fW (T:b8) (fs:List bH):Nat→Nat→ao
 |0,_=>su
 |n+1,d=>ju T (fW T fs n d) (match d with|0=>fun _ _=>no|d'+1=>IR T fs (fW T fs n d'))
set_option tactic.hygienic true
set_option tactic.hygienic false
noncomputable def sK (n d:Nat) (q:bH):Prop:=∃ ds l,bj l∧∀ loc r o,cI T7 (run T7 n d) q.f q.args ⟨q.h,loc,ds++r,o⟩=some (q.x,⟨q.h',loc,r,l++o⟩)
noncomputable def FG (D:Nat) (q:bH):Prop:=∃ n0,∀ n d,n0≤n→D≤d→sK n d q
noncomputable def aM (D:Nat) (fs:List bH):Prop:=∀ q∈fs,FG D q
theorem FG.mono {q:bH} (h:FG D q) (l:D≤D'):FG D' q:=by
 (refine ay h ?_;(try clear h);rintro n0 k)
 exact ba n0 (fun n d a b=>k n d a (Kl l b))
theorem aM.nil:aM D []:=fun _ h=>nomatch h
theorem aM.cons {q:bH} {fs:List bH} (a:FG D1 q) (b:aM D fs) (l:D1≤D):aM D (q::fs):=fun x h=>by
 cases h with
 |head=>exact a.mono l
 |tail _ h=>exact b x h
theorem vq {α:Type}:∀ {l:List α} {n:Nat} {x:α},bB l n=some x→x∈l
 |a::l,0,x,h=>by (replace h:=Kj h;obtain rfl:=h);exact .head _
 |a::l,n+1,x,h=>.tail _ (vq (l:=l) (n:=n) h)
theorem rW {D:Nat}:∀ (fs:List bH),aM D fs→∃ N,∀ q∈fs,∀ n d,N≤n→D≤d→sK n d q
 |[],_=>⟨0,fun _ h=>nomatch h⟩
 |q::fs,h=>by
  (refine ay (h q (.head _)) ?_;rintro n0 k)
  (refine ay (rW fs fun q hq=>h q (.tail _ hq)) ?_;rintro N K)
  refine ba (n0+N) (fun q' hq n d h1 h2=>?_);cases hq with
  |head=>exact k n d (by exact dz M1) h2
  |tail _ hq=>exact K q' hq n d (by exact Kl (Kk _ _) M1) h2
theorem Bp {fs:List bH} {G G':Nat→List X→Mo X} (hG:∀ f a,aW (G f a) (G' f a)) (hq:∀ q∈fs,∃ ds l,bj l∧∀ loc r o,G' q.f q.args ⟨q.h,loc,ds++r,o⟩=some (q.x,⟨q.h',loc,r,l++o⟩)) (f:Nat) (a:List X):aW (ask fs G f a) (G' f a):=by
 unfold ask;cases rJ fs f with
 |false=>exact hG f a
 |true=>
  intro σ y σ' e o;dsimp only at e;induction hd:σ.ds using List.casesOn with
  |nil=>rw [hd] at e;exact a0 e
  |cons k r=>
   rw [hd] at e;dsimp only at e;revert e;refine aV (bB fs k) ?_ ?_
   ·intro e;exact a0 e
   ·intro q hn e
    (have za:=(af e).1;have zb:=(af e).2;clear e;obtain rfl:=za;obtain rfl:=zb)
    (refine bb (o _ (.head _)) ?_;rintro rfl rfl hh)
    (refine aN (hq q (vq hn)) ?_;rintro ds l t k)
    exact ⟨fun p hp=>o p (.tail _ hp),ds,l,t,fun lc hs=>⟨lc,hs,fun r p=>by change hh;exact k _ _ _⟩⟩
theorem nj {fs:List bH} {N D:Nat} (K:∀ q∈fs,∀ n d,N≤n→D≤d→sK n d q):
  ∀ n d n' d',n+N≤n'→d+D≤d'→gr (fW T7 fs n d) (run T7 n' d')
 |0,d,n',d',h1,h2=>ud
 |n+1,d,n',d',h1,h2=>by
  obtain ⟨m,rfl⟩:∃ m,n'=m+1:=⟨n' - 1,by lia⟩
  refine (?_:gr (ju T7 (fW T7 fs n d) _) (ju T7 (run T7 m d') _));refine tQ (nj K n d m d' M2 h2) fun f a=>?_;induction d using Nat.casesOn with
  |zero=>exact az
  |succ d=>
   obtain ⟨e,rfl⟩:∃ e,d'=e+1:=⟨d' - 1,by lia⟩
   exact Bp (G:=cI T7 (fW T7 fs n d)) (G':=cI T7 (run T7 m e)) (fun f a=>qe (nj K n d m e M2 M2)) (fun q hq=>K q hq m e M2 M2) f a
theorem Gv {a:List X} {h:List a8} {l:List (Nat×X)} {d:List Nat} {o:List Prop}:cI T R f a ⟨h,l,d,o⟩=(cI T R f a ⟨h,[],d,o⟩).map fun p=>(p.1,{ p.2 with loc:=l }):=by
 unfold cI;cases look T.fns f with
 |none=>rfl
 |some F=>
  dsimp only;cases R.ss F.body _ with
  |none=>rfl
  |some w=>rfl
noncomputable def Dv (q:bH) (L:List Prop):Option (X×St):=some (q.x,⟨q.h',[],[],L⟩)
noncomputable abbrev Runs (fs:List bH) (n d:Nat) (q:bH) (ds:List Nat) (L:List Prop):Prop:=Dv q L=cI T7 (fW T7 fs n d) q.f q.args ⟨q.h,[],ds,[]⟩
theorem wX {fs:List bH} {d :Nat} {q:bH} (v:aM D fs) (n:Nat) {L:List Prop} (t:bj L) (e:Runs fs n d q ds L):FG (d+D) q:=by
 have e:cI T7 (fW T7 fs n d) q.f q.args ⟨q.h,[],ds,[]⟩=some (q.x,⟨q.h',[],[],L⟩):=e.symm;obtain ⟨N,K⟩:=rW fs v;refine ba (n+N) (fun n' d' h1 h2=>?_);obtain ⟨_,ds',l,t',k⟩:=qe (nj K n d n' d' h1 h2) _ _ _ e t
 (refine am (k [] .refl) ?_;rintro lc' _ k)
 refine bI ds' l t' (fun loc r o=>?_);change Gv;have k:=k r o;dsimp only at k;change k;rfl
structure ES where
 st:Nat
 stk:List Nat
 ind:V
 inds:List V
 fl:Int
 rc:Bool
 sc:Bool
 mc:Bool
 kc:Bool
 ln:Int
 col:Int
 ws:Bool
 ii:Bool
 can:V
 au:V
 bw:Int
 tp:V
 pt:V
 an:V
 out:List (List Nat)
variable {s' s2 s0 S sE s1 :ES}
noncomputable def em (b:Nat) (s:ES) (q:List V) (ev:V):List a8:=[
 .ins 771 [(170,.r (b+1))],.strs s.out,
 .ins 736 [(23,.r b),(8,.v .none),(24,.r (b+3)),(25,.m (b+2) s.st),(27,.r (b+4)),(28,.v ev),(29,.r (b+5)),(30,.v s.ind),(31,.v (.int s.fl)),
  (32,.v (.bool s.rc)),(33,.v (.bool s.sc)),(34,.v (.bool s.mc)),(35,.v (.bool s.kc)),(36,.v (.sint s.ln)),(37,.v (.int s.col)),(38,.v (.bool s.ws)),(39,.v (.bool s.ii)),
  (40,.v (.bool false)),(41,.v (.opq s.can)),(42,.v (.opq s.au)),(43,.v (.int 2)),(44,.v (.sint s.bw)),(46,.v (.str [10])),(48,.v s.tp),(49,.v .none),(50,.v s.pt),(51,.v s.an),(13,.v .none)],
 .bms (b+2) s.stk,.lst q,.stk s.inds]
noncomputable def bs (b:Bool):Nat:=match b with|true=>1|false=>7
noncomputable def hh (b:Bool) (pl:List V) (A B:List a8):List a8:=match b with|true=>.lst pl::(A++B)|false=>.lst pl::(B++A)
noncomputable def EF (b:Bool) (f:Nat) (as:List X) (q:List V) (ev:V) (s:ES) (x:X) (s':ES) (pl:List V) (s2:ES) (q2:List V) (ev2:V):bH:=
 ⟨f,.r (bs b+2)::as,hh b pl (em (bs b) s q ev) (em (bs (!b)) s2 q2 ev2),x,hh b pl (em (bs b) s' q ev) (em (bs (!b)) s2 q2 ev2)⟩
noncomputable def EG (D:Nat) (b:Bool) (f:Nat) (as:List X) (q:List V) (ev:V) (s:ES) (x:X) (s':ES):Prop:=∀ pl s2 q2 ev2,FG D (EF b f as q ev s x s' pl s2 q2 ev2)
theorem EG.mono {b:Bool} {q:List V} {ev:V} {s:ES} {x:X} (h:EG D b f as q ev s x s') (l:D≤D'):EG D' b f as q ev s x s':=fun _ _ _ _=>(h _ _ _ _).mono l
theorem bx {d:Nat} {q:bH} (n:Nat) (ds:List Nat) {L:List Prop} (t:bj L) (e:Runs [] n d q ds L):FG d q:=wX (D:=0) aM.nil n t e
theorem dm {d :Nat} {fs:List bH} {q:bH} (v:aM D fs) (l:d+D≤D') (n:Nat) (ds:List Nat) {L:List Prop} (t:bj L) (e:Runs fs n d q ds L):FG D' q:=(wX v n t e).mono l
structure TE where
 can:V
 imp:V
 sty:V
 tag:V
 fl:V
 tg:V
 col:Int
 bw:Int
 out:List (List Nat)
 stk:List Nat
 inds:List V
 q:List V
 fs:List bH
variable {E :TE}
inductive Tk where
 |c|z (t k:Nat)|l (a b:Nat)|rep (n:Nat)|w (l:List Nat)|F (k:Nat)|e (t k:Nat) (b:Bool)
noncomputable abbrev Tk.o (k:Nat):Tk:=.z 0 k
noncomputable abbrev Tk.s (k:Nat):Tk:=.z 1 k
noncomputable abbrev Tk.i (k:Nat):Tk:=.z 2 k
noncomputable abbrev Tk.q (k:Nat):Tk:=.z 3 k
noncomputable abbrev Tk.h (k:Nat):Tk:=.e 0 k true
noncomputable abbrev Tk.ti (k:Nat) (b:Bool):Tk:=.e 1 k b
noncomputable abbrev Tk.ye (k:Nat) (b:Bool):Tk:=.e 2 k b
noncomputable abbrev Tk.ty (b:Bool):Tk:=.e 3 0 b
noncomputable abbrev Tk.tn (b:Bool):Tk:=.e 4 0 b
noncomputable abbrev Tk.un (k:Nat):Tk:=.e 5 k true
noncomputable abbrev Tk.im (b:Bool):Tk:=.e 6 0 b
noncomputable abbrev Tk.fl (b:Bool):Tk:=.e 7 0 b
noncomputable abbrev Tk.tg (b:Bool):Tk:=.e 8 0 b
noncomputable def TE.len (E:TE) (t:Nat):Nat:=match t with|0=>E.out.length|1=>E.stk.length|2=>E.inds.length|_=>E.q.length
noncomputable def TE.ev (E:TE) (t k:Nat) (b:Bool):Prop:=match t with
 |0=>jZ E.imp (k:Int)=true
 |1=>tv (ke E.imp (k:Int))=some b
 |2=>ea E.sty (.str [k])=some b
 |3=>tv E.sty=some b
 |4=>(e6 E.tag).map not=some b
 |5=>E.tag=(match k with|0=>.str [33,104]|_=>.str [122])
 |6=>tv E.imp=some b
 |7=>tv E.fl=some b
 |_=>tv E.tg=some b
noncomputable def tk (E:TE):Tk→Prop
 |.c=>tv E.can=some false
 |.z t k=>E.len t+k < lim
 |.l a b=>a+b≤lim
 |.rep n=>1=1∧(n:Int)≤(lim:Nat)∧-((lim:Nat):Int)≤(n:Int)
 |.w l=>¬ (l.foldl (fun (a:Int) (k:Nat)=>a+(k:Int)) E.col > E.bw)
 |.F k=>match bB E.fs k with|some q=>q.f=q.f∧q.args=q.args∧q.h=q.h|none=>False
 |.e t k b=>E.ev t k b
structure bc (E:TE):Prop where
 can:tv E.can=some false
 out:E.out.length+60≤lim
 stk:E.stk.length+10≤lim
 inds:E.inds.length+10≤lim
 q:E.q.length+10≤lim
 col:E.col≤30
 bw:80≤E.bw
noncomputable def wP (n:Nat):Tk→Bool
 |.c=>true
 |.z t k=>Nat.blt k (match t with|0=>60|_=>10)
 |.l a b=>Nat.blt (a+b) 1000
 |.rep k=>Nat.blt k 1000
 |.w l=>Nat.blt l.sum 40
 |.F k=>Nat.blt k n
 |_=>false
theorem ra {α:Type}:∀ (l:List α) (k:Nat),k < l.length→∃ x,bB l k=some x
 |a::l,0,_=>⟨a,rfl⟩
 |a::l,k+1,h=>ra l k (by simpa using h)
theorem wS:∀ (l:List Nat) (c:Int),l.foldl (fun (a:Int) (k:Nat)=>a+(k:Int)) c=c+(l.sum:Int)
 |[],c=>by simp
 |k::l,c=>by (change LL;rewrite [wS l];change List.sum_cons);lia
theorem Gp (H:bc E) {t:Tk} (h:wP E.fs.length t=true):tk E t:=by
 have hl:lim=1048576:=rfl;obtain ⟨h1,h2,h3,h4,h5,h6,h7⟩:=H;have hh:∀ {a b:Nat},Nat.blt a b=true→a < b:=fun h=>KB h;cases t<;>first|(exact ac h;done)|skip
 ·exact h1
 ·have h:=hh h;refine KI (Nat.add_lt_add_left h _) ?_;induction t_1 using Nat.casesOn with
  |zero=>exact h2
  |succ t_1=>induction t_1 using Nat.casesOn with
   |zero=>exact h3
   |succ t_1=>induction t_1 using Nat.casesOn with
    |zero=>exact h4
    |succ t_1=>exact h5
 ·have h:=hh h;show _≤_;lia
 ·have h:=hh h;refine b7 rfl ?_ ?_<;>(change hl;lia)
 ·have h:=hh h;refine (?_:¬ _);change wS;lia
 ·(refine ay (ra _ _ (hh h)) ?_;rintro x e)
  refine (?_:(match bB E.fs _ with|some q=>_|none=>False));change e;exact b7 rfl rfl rfl
noncomputable abbrev KF:=Bool→List V→ES→List V→V→bH
variable {ks :List KF}
noncomputable def EK (f:Nat) (as:List X) (q:List V) (ev:V) (s:ES) (x:X) (s':ES):KF:=fun b pl s2 q2 ev2=>EF b f as q ev s x s' pl s2 q2 ev2
noncomputable def eY (D:Nat) (b:Bool) (ks:List KF):Prop:=∀ k∈ks,∀ pl s2 q2 ev2,FG D (k b pl s2 q2 ev2)
theorem eY.nil {b:Bool}:eY D b []:=fun _ h=>nomatch h
theorem eY.cons {b:Bool} {q:List V} {ev:V} {s:ES} {x:X} (h:EG D1 b f as q ev s x s') (t:eY D b ks) (l:D1≤D:=by decide):eY D b (EK f as q ev s x s'::ks):=fun k hk pl s2 q2 ev2=>by
 cases hk with
 |head=>exact (h pl s2 q2 ev2).mono l
 |tail _ hk=>exact t k hk pl s2 q2 ev2
noncomputable def j8 (ks:List KF) (b:Bool) (pl:List V) (s2:ES) (q2:List V) (ev2:V):List bH:=ks.map fun k=>k b pl s2 q2 ev2
noncomputable def Tk.at (a k:Nat) (b:Bool):Tk→Bool|.e a' k' b'=>Nat.beq a' a&&Nat.beq k' k&&(match b with|true=>b'|false=>!b')|_=>false
theorem Tk.at_eq {a k:Nat} {b:Bool} {u:Tk} (h:u.at a k b=true):u=.e a k b:=by
 induction u using Tk.casesOn<;>first|exact ac h|skip
 refine cq h fun h1 h2 h3=>?_;have h3:b_1=b:=by
  clear h h1 h2;induction b using Bool.casesOn with
  |true=>exact h3
  |false=>exact (Ls _).mp h3
 rw [KA h1,KA h2,h3]
noncomputable def zo (n:Nat) (ev:List Tk) (t:Tk):Bool:=wP n t||(match t with|.e a k b=>ev.any (Tk.at a k b)|_=>false)
noncomputable abbrev pq (n:Nat) (ev l:List Tk):Prop:=true=l.all (zo n ev)
theorem zl (H:bc E) (fs:List bH) (ev:List Tk) (he:bj (ev.map (tk E))) (l:List Tk) (h:pq fs.length ev l):bj (l.map (tk { E with fs:=fs })):=fun p hp=>by
 obtain ⟨t,ht,rfl⟩:=L8.mp hp;rcases Bool.or_eq_true_iff.mp (KM.mp h.symm t ht) with h|h
 ·exact Gp (E:={ E with fs:=fs }) ⟨H.can,H.out,H.stk,H.inds,H.q,H.col,H.bw⟩ h
 ·induction t using Tk.casesOn<;>first|exact ac h|skip
  obtain ⟨u,hu,h⟩:=List.any_eq_true.mp h;have w:=he _ (List.mem_map_of_mem hu);rw [Tk.at_eq h] at w;exact w
noncomputable def one (ks:List KF) (n d f:Nat) (as:List X) (q:List V) (ev:V) (s:ES) (ds:List Nat) (pl:List V) (s2:ES) (q2:List V) (ev2:V) (b:Bool):Option (X×St):=
 cI T7 (fW T7 (j8 ks b pl s2 q2 ev2) n d) f (.r (bs b+2)::as) ⟨hh b pl (em (bs b) s q ev) (em (bs (!b)) s2 q2 ev2),[],ds,[]⟩
noncomputable def qO (ks:List KF) (x:X) (s':ES) (q:List V) (ev:V) (E:TE) (l:List Tk) (pl:List V) (s2:ES) (q2:List V) (ev2:V) (b:Bool):Option (X×St):=
 some (x,⟨hh b pl (em (bs b) s' q ev) (em (bs (!b)) s2 q2 ev2),[],[],l.map (tk { E with fs:=j8 ks b pl s2 q2 ev2 })⟩)
noncomputable def BW (ks:List KF) (n d f:Nat) (as:List X) (q:List V) (ev:V) (s:ES) (ds:List Nat) (pl:List V) (s2:ES) (q2:List V) (ev2:V):Option (X×St)×Option (X×St):=
 (one ks n d f as q ev s ds pl s2 q2 ev2 true,one ks n d f as q ev s ds pl s2 q2 ev2 false)
noncomputable def Dw (ks:List KF) (x:X) (s':ES) (q:List V) (ev:V) (E:TE) (l:List Tk) (pl:List V) (s2:ES) (q2:List V) (ev2:V):Option (X×St)×Option (X×St):=
 (qO ks x s' q ev E l pl s2 q2 ev2 true,qO ks x s' q ev E l pl s2 q2 ev2 false)
noncomputable abbrev jh (ks:List KF) (n d f:Nat) (as:List X) (q:List V) (ev:V) (s:ES) (ds:List Nat) (x:X) (s':ES) (E:TE) (l:List Tk):Prop:=Dw ks x s' q ev E l=BW ks n d f as q ev s ds
theorem jh.at {n d :Nat} {q:List V} {ev:V} {s:ES} {x:X} {l:List Tk} (h:jh ks n d f as q ev s ds x s' E l) (pl:List V) (s2:ES) (q2:List V) (ev2:V) (b:Bool):one ks n d f as q ev s ds pl s2 q2 ev2 b=qO ks x s' q ev E l pl s2 q2 ev2 b:=by
 have e:=congrFun (congrFun (congrFun (congrFun h pl) s2) q2) ev2;cases b with
 |true=>exact (Kq Prod.fst e).symm
 |false=>exact (Kq Prod.snd e).symm
theorem wM {b:Bool} {ev2:V}:(j8 ks b pl s2 q2 ev2).length=ks.length:=L4 _
theorem eY.fgs {b:Bool} (hs:eY D b ks) (pl:List V) (s2:ES) (q2:List V) (ev2:V):aM D (j8 ks b pl s2 q2 ev2):=fun p hp=>by
 obtain ⟨k,hk,rfl⟩:=L8.mp hp;exact hs k hk pl s2 q2 ev2
theorem eW {d :Nat} {b:Bool} {q:List V} {ev:V} {s:ES} {x:X} (hs:eY D' b ks) (n:Nat) (ds:List Nat) (H:bc E) (ev':List Tk) (he:bj (ev'.map (tk E))) (l:List Tk) (hl:pq ks.length ev' l)
  (h:jh ks n d f as q ev s ds x s' E l) (le:d+D'≤D:=by decide):EG D b f as q ev s x s':=fun pl s2 q2 ev2=>
 dm (hs.fgs pl s2 q2 ev2) le n ds (zl H (j8 ks b pl s2 q2 ev2) ev' he l (by rw [wM];exact hl)) (h.at pl s2 q2 ev2 b).symm
theorem aX {d :Nat} {b:Bool} {q:List V} {ev:V} {s:ES} {x:X} (n:Nat) (ds:List Nat) (H:bc E) (ev':List Tk) (he:bj (ev'.map (tk E))) (l:List Tk) (hl:pq 0 ev' l)
  (h:jh [] n d f as q ev s ds x s' E l) (le:d≤D:=by decide):EG D b f as q ev s x s':=eW (D':=0) eY.nil n ds H ev' he l hl h le
noncomputable def E0:TE:=⟨.none,.none,.none,.none,.none,.none,0,80,[],[],[],[],[]⟩
theorem mF {d :Nat} {b:Bool} {q:List V} {ev:V} {s:ES} {x:X} (hs:eY D' b ks) (n:Nat) (ds:List Nat) (l:List Nat) (hl:true=l.all fun k=>Nat.blt k ks.length)
  (h:jh ks n d f as q ev s ds x s' E0 (l.map .F)) (le:d+D'≤D:=by decide):EG D b f as q ev s x s':=fun pl s2 q2 ev2=>
 dm (hs.fgs pl s2 q2 ev2) le n ds (fun p hp=>by
  obtain ⟨t,ht,rfl⟩:=L8.mp hp;clear hp;obtain ⟨k,hk,rfl⟩:=L8.mp ht;have hb:=KM.mp hl.symm k hk;rw [Nat.blt_eq] at hb;obtain ⟨x,e⟩:=ra (j8 ks b pl s2 q2 ev2) k (by rw [wM];exact hb);refine (?_:(match bB (j8 ks b pl s2 q2 ev2) _ with|some q=>_|none=>False));rw [e];exact b7 rfl rfl rfl) (h.at pl s2 q2 ev2 b).symm
theorem i7 {ι α:Type} {F G:ι→α} {c:ι} (l:List ι) (h:l.map F=l.map G) (hc:c∈l):F c=G c:=List.map_inj_left.mp h c hc
noncomputable def i6:Nat→List (List Nat)→List (List Nat)
 |0,o=>o
 |n+1,o=>List.replicate (n+1) 32::o
noncomputable def sQ (v:V) (n:Nat):Prop:=(v=.none∧n=0)∨(v=.int 0∧n=0)∨(v=.int 2∧n=2)∨(v=.int 4∧n=4)
noncomputable def wi (s:ES) (n:Nat) (ln:Int) (out:List (List Nat)):ES:={ s with ws:=true,ii:=true,col:=n,ln:=ln,out:=out }
noncomputable def pM (s:ES) (q:List V) (fs:List bH):TE:=⟨s.can,.none,.none,.none,.none,.none,0,s.bw,s.out,s.stk,s.inds,q,fs⟩
theorem pG {b:Bool} {q:List V} {ev:V} {st stk ind inds fl rc sc mc kc ln col can au bw tp pt an out n} (hi:sQ ind n) (H:bc (pM ⟨st,stk,ind,inds,fl,rc,sc,mc,kc,ln,col,false,false,can,au,bw,tp,pt,an,out⟩ q [])):
  EG 4 b 665 [] q ev ⟨st,stk,ind,inds,fl,rc,sc,mc,kc,ln,col,false,false,can,au,bw,tp,pt,an,out⟩ (.v .none) ⟨st,stk,ind,inds,fl,rc,sc,mc,kc,ln+1,n,true,true,can,au,bw,tp,pt,an,i6 n ([10]::out)⟩:=by
 rcases hi with ⟨rfl,rfl⟩|⟨rfl,rfl⟩|⟨rfl,rfl⟩|⟨rfl,rfl⟩
 ·exact aX (d:=4) 60 [] H [] .nil [.o 0] () ()
 ·exact aX (d:=4) 60 [] H [] .nil [.o 0] () ()
 ·exact aX (d:=4) 60 [] H [] .nil [.o 1,.rep 2,.o 0] () ()
 ·exact aX (d:=4) 60 [] H [] .nil [.o 1,.rep 4,.o 0] () ()
theorem sV {b:Bool} {q:List V} {ev:V} {st stk ind inds fl rc sc mc kc ln can au bw tp pt an out n} (hi:sQ ind n) (H:bc (pM ⟨st,stk,ind,inds,fl,rc,sc,mc,kc,ln,0,true,true,can,au,bw,tp,pt,an,out⟩ q [])):
  EG 4 b 665 [] q ev ⟨st,stk,ind,inds,fl,rc,sc,mc,kc,ln,0,true,true,can,au,bw,tp,pt,an,out⟩ (.v .none) ⟨st,stk,ind,inds,fl,rc,sc,mc,kc,ln,n,true,true,can,au,bw,tp,pt,an,i6 n out⟩:=by
 rcases hi with ⟨rfl,rfl⟩|⟨rfl,rfl⟩|⟨rfl,rfl⟩|⟨rfl,rfl⟩
 ·exact mF (d:=4) (D':=0) eY.nil 60 [] [] (by rfl) ()
 ·exact mF (d:=4) (D':=0) eY.nil 60 [] [] (by rfl) ()
 ·exact aX (d:=4) 60 [] H [] .nil [.o 0,.rep 2] () ()
 ·exact aX (d:=4) 60 [] H [] .nil [.o 0,.rep 4] () ()
theorem sW {b:Bool} {q:List V} {ev:V} {st stk inds fl rc sc mc kc ln can au bw tp pt an out i n} (hi:(i=2∧n=2)∨(i=4∧n=4)) (H:bc (pM ⟨st,stk,.int i,inds,fl,rc,sc,mc,kc,ln,0,false,true,can,au,bw,tp,pt,an,out⟩ q [])):
  EG 4 b 665 [] q ev ⟨st,stk,.int i,inds,fl,rc,sc,mc,kc,ln,i - 1,false,true,can,au,bw,tp,pt,an,out⟩ (.v .none) ⟨st,stk,.int i,inds,fl,rc,sc,mc,kc,ln,(n:Nat),true,true,can,au,bw,tp,pt,an,[32]::out⟩:=by
 rcases hi with ⟨rfl,rfl⟩|⟨rfl,rfl⟩
 ·exact aX (d:=4) 60 [] H [] .nil [.o 0,.rep 1] () ()
 ·exact aX (d:=4) 60 [] H [] .nil [.o 0,.rep 1] () ()
noncomputable def lU (k:Nat):List Nat:=match k with|0=>[97]|1=>[98,32,99]|2=>[45]|3=>[100]|4=>[101]|_=>[120,10,121,10]
noncomputable def F3 (k:Nat) (sty:V):V:=match k with|3=>.str [39]|4=>.str [34]|5=>.str [124]|_=>.opq sty
noncomputable def gV (tag imp sty m:V) (k:Nat):V:=.inst 217 [(4,.none),(5,.opq tag),(6,.opq imp),(12,.str (lU k)),(2,.opq m),(3,.none),(13,F3 k sty)]
noncomputable def kF (k:Nat):V:=.inst 296 [(14,.str (lU k)),(15,.bool false),(16,.bool (k==5)),(17,.bool (k < 2||k==3||k==4)),(18,.bool (k < 2||k==3||k==4)),(19,.bool true),(20,.bool true),(21,.bool true)]
noncomputable def Jr (k:Nat) (h:List a8) (x:X):bH:=⟨629,[x,.v (.str (lU k))],h,.v (kF k),h⟩
@[elab_as_elim] theorem rq {motive:Nat→Prop} {k:Nat} (h:k < 3) (p0:motive 0) (p1:motive 1) (p2:motive 2):motive k:=by
 induction k using Nat.casesOn with
 |zero=>exact p0
 |succ k=>
  induction k using Nat.casesOn with
  |zero=>exact p1
  |succ k=>
   induction k using Nat.casesOn with
   |zero=>exact p2
   |succ k=>
    exact absurd h (KY.mpr (Kk 3 k))
@[elab_as_elim] theorem jP {motive:Nat→Prop} {k:Nat} (h:k < 5) (p0:motive 0) (p1:motive 1) (p2:motive 2) (p3:motive 3) (p4:motive 4):motive k:=by
 induction k using Nat.casesOn with
 |zero=>exact p0
 |succ k=>
  induction k using Nat.casesOn with
  |zero=>exact p1
  |succ k=>
   induction k using Nat.casesOn with
   |zero=>exact p2
   |succ k=>
    induction k using Nat.casesOn with
    |zero=>exact p3
    |succ k=>
     induction k using Nat.casesOn with
     |zero=>exact p4
     |succ k=>
      exact absurd h (KY.mpr (Kk 5 k))
@[elab_as_elim] theorem iV {motive:Nat→Prop} {k:Nat} (h:k < 6) (p0:motive 0) (p1:motive 1) (p2:motive 2) (p3:motive 3) (p4:motive 4) (p5:motive 5):motive k:=by
 induction k using Nat.casesOn with
 |zero=>exact p0
 |succ k=>
  induction k using Nat.casesOn with
  |zero=>exact p1
  |succ k=>
   induction k using Nat.casesOn with
   |zero=>exact p2
   |succ k=>
    induction k using Nat.casesOn with
    |zero=>exact p3
    |succ k=>
     induction k using Nat.casesOn with
     |zero=>exact p4
     |succ k=>
      induction k using Nat.casesOn with
      |zero=>exact p5
      |succ k=>
       exact absurd h (KY.mpr (Kk 6 k))
theorem Jp {k:Nat} (hk:k < 6) (h:List a8) (x:X):FG 3 (Jr k h x):=by
 refine iV hk ?_ ?_ ?_ ?_ ?_ ?_
 ·exact bx (L:=[]) 90 [] .nil ()
 ·exact bx (L:=[]) 90 [] .nil ()
 ·exact bx (L:=[]) 90 [] .nil ()
 ·exact bx (L:=[]) 90 [] .nil ()
 ·exact bx (L:=[]) 90 [] .nil ()
 ·exact bx (L:=[]) 90 [] .nil ()
noncomputable def lp (k:Nat) (w:Bool) (n:Nat):List (List Nat):=match k with
 |0=>(match w with|true=>[[97],[32]]|false=>[[97]])
 |1=>(match w with|true=>[[99],[32],[98],[32]]|false=>[[99],[32],[98]])
 |2=>(match w with|true=>[[39],[45],[32,39]]|false=>[[39],[45],[39]])
 |3=>(match w with|true=>[[39],[100],[32,39]]|false=>[[39],[100],[39]])
 |4=>(match w with|true=>[[34],[101],[32,34]]|false=>[[34],[101],[34]])
 |_=>[[10],[121],List.replicate (n+2) 32,[10],[120],List.replicate (n+2) 32,[10],[32,124]]
noncomputable def lc (k:Nat) (w:Bool) (c:Int):Int:=match k with
 |0=>(match w with|true=>c+1+1|false=>c+1)
 |1=>(match w with|true=>c+1+1+1+1|false=>c+1+1+1)
 |5=>0
 |_=>(match w with|true=>c+2+1+1|false=>c+1+1+1)
noncomputable def dN (k:Nat) (ln:Int):Int:=match k with|5=>ln+1+1+1|_=>ln
noncomputable def cY (k:Nat):Bool:=match k with|5=>true|_=>false
noncomputable def iY (i0 i1:Bool):List Tk:=[.h 0,.h 1,.ye 34 false,.ty false,.ti 0 i0,.ti 1 i1]
noncomputable def mV (i:Int) (n:Nat):Prop:=(i=0∧n=0)∨(i=2∧n=2)∨(i=4∧n=4)
theorem Jq {k:Nat} {b:Bool} {q:List V} {ev:V} {s:ES} (hk:k < 6):EG 3 b 629 [.v (.str (lU k))] q ev s (.v (kF k)) s:=fun _ _ _ _=>Jp hk _ _
theorem bo {k:Nat} {b:Bool} {q:List V} {ev:V} {s :ES} {x:X} {ev':List Tk} (hk:k < 6) (ds:List Nat) (H:bc E) (he:bj (ev'.map (tk E))) (l:List Tk) (hl:pq 1 ev' l)
  (h:jh [EK 629 [.v (.str (lU k))] q ev s (.v (kF k)) s] 60 7 f as q ev s0 ds x s' E l):EG 10 b f as q ev s0 x s':=eW (D':=3) (.cons (Jq hk) .nil) 60 ds H ev' he l hl h
noncomputable abbrev iD {ι α:Type} (l:List ι) (F G:ι→α):Prop:=l.map F=l.map G
theorem t8 {α:Type} {F G:Nat→α} {a b x:Nat} (hc:x=a∨x=b) (h:iD [a,b] F G):F x=G x:=i7 _ h (by clear h;rcases hc with rfl|rfl;exact .head _;exact .tail _ (.head _))
theorem hR {α:Type} {F G:Nat→α} {a b c x:Nat} (hc:x=a∨x=b∨x=c) (h:iD [a,b,c] F G):F x=G x:=i7 _ h (by clear h;rcases hc with rfl|rfl|rfl;exact .head _;exact .tail _ (.head _);exact .tail _ (.tail _ (.head _)))
theorem ki {α:Type} {F G:Nat→Bool→α} {a1 a2 a3 a4 x:Nat} {b1 b2 b3 b4 y:Bool} (hc:(x=a1∧y=b1)∨(x=a2∧y=b2)∨(x=a3∧y=b3)∨(x=a4∧y=b4)) (h:iD [(a1,b1),(a2,b2),(a3,b3),(a4,b4)] (fun p=>F p.1 p.2) (fun p=>G p.1 p.2)):F x y=G x y:=by
 have k:=fun p hp=>i7 _ h (c:=p) hp;clear h;rcases hc with ⟨rfl,rfl⟩|⟨rfl,rfl⟩|⟨rfl,rfl⟩|⟨rfl,rfl⟩
 ·exact k (x,y) (.head _)
 ·exact k (x,y) (.tail _ (.head _))
 ·exact k (x,y) (.tail _ (.tail _ (.head _)))
 ·exact k (x,y) (.tail _ (.tail _ (.tail _ (.head _))))
theorem Ig {b:Bool} {q:List V} {st t stk i inds rc0 sc0 mc0 kc0 ln col can au bw tp pt out tag imp sty m k i0 i1 n sc mc} (hk:k=0∧i0=true∨k=1∧i0=true∨k=2∧i1=true∨k=3∧i1=true∨k=4∧i1=true∨k=5∧i1=true∧mV i n) (H:bc ⟨can,imp,sty,tag,.none,.none,col,bw,out,stk,inds,q,[]⟩) (HE:bj ((iY i0 i1).map (tk ⟨can,imp,sty,tag,.none,.none,col,bw,out,stk,inds,q,[]⟩))):
  EG 10 b 403 [.v (.bool false),.v (.bool sc),.v (.bool mc),.v (.bool false)] q (gV tag imp sty m k) ⟨st,t::stk,(.int i),inds,0,rc0,sc0,mc0,kc0,ln,col,false,true,can,au,bw,tp,pt,.none,out⟩ (.v .none) ⟨t,stk,(.int i),inds,0,false,sc,mc,false,dN k ln,lc k true col,cY k,cY k,can,au,bw,tp,.none,.none,lp k true n++out⟩:=by
 refine cps fun GG kk=>?_;rcases hk with ⟨rfl,rfl⟩|⟨rfl,rfl⟩|⟨rfl,rfl⟩|⟨rfl,rfl⟩|⟨rfl,rfl⟩|⟨rfl,rfl,hi⟩
 ·exact kk (bo (k:=0) (s:=⟨st,t::stk,(.int i),inds,0,false,sc,mc,false,ln,col,false,true,can,au,bw,tp,pt,.none,out⟩) M0 [0,0,0,0,1,0,1] H HE [.o 1,.o 0,.i 0,.ti 0 true,.h 0,.c,.ti 0 true,.h 0,.ty false,.c,.ye 34 false,.F 0] () ())
 ·exact kk (bo (k:=1) (s:=⟨st,t::stk,(.int i),inds,0,false,sc,mc,false,ln,col,false,true,can,au,bw,tp,pt,.none,out⟩) M0 [0,0,0,0,1,0,1,0] H HE [.o 3,.o 2,.w [1,1],.o 1,.o 0,.i 0,.ti 0 true,.h 0,.c,.ti 0 true,.h 0,.ty false,.c,.ye 34 false,.F 0] () ())
 ·cases i0
  ·exact kk (bo (k:=2) (s:=⟨st,t::stk,(.int i),inds,0,false,sc,mc,false,ln,col,false,true,can,au,bw,tp,pt,.none,out⟩) M0 [0,0,0,0,0,0,0,0,1] H HE [.o 2,.o 1,.o 0,.l 1 1,.i 0,.ti 1 true,.h 1,.c,.ty false,.ty false,.ti 0 false,.h 0,.ty false,.c,.ye 34 false,.F 0] () ())
  ·exact kk (bo (k:=2) (s:=⟨st,t::stk,(.int i),inds,0,false,sc,mc,false,ln,col,false,true,can,au,bw,tp,pt,.none,out⟩) M0 [0,0,0,0,1,0,0,0,1] H HE [.o 2,.o 1,.o 0,.l 1 1,.i 0,.ti 1 true,.h 1,.c,.ty false,.ty false,.ti 0 true,.h 0,.ty false,.c,.ye 34 false,.F 0] () ())
 ·exact kk (bo (k:=3) (s:=⟨st,t::stk,(.int i),inds,0,false,sc,mc,false,ln,col,false,true,can,au,bw,tp,pt,.none,out⟩) M0 [0,0,0,1] H HE [.o 2,.o 1,.o 0,.l 1 1,.i 0,.ti 1 true,.h 1,.c,.c,.F 0] () ())
 ·exact kk (bo (k:=4) (s:=⟨st,t::stk,(.int i),inds,0,false,sc,mc,false,ln,col,false,true,can,au,bw,tp,pt,.none,out⟩) M0 [0,0,1] H HE [.o 2,.o 1,.o 0,.l 1 1,.i 0,.ti 1 true,.h 1,.c,.F 0] () ())
 ·rcases hi with ⟨rfl,rfl⟩|⟨rfl,rfl⟩|⟨rfl,rfl⟩
  ·exact kk (bo (k:=5) (s:=⟨st,t::stk,(.int 0),inds,0,false,sc,mc,false,ln,col,false,true,can,au,bw,tp,pt,.none,out⟩) M0 [0,0,0,1] H HE [.o 7,.o 6,.o 5,.rep 2,.o 4,.o 3,.o 2,.rep 2,.o 1,.o 0,.l 1 1,.l 1 0,.i 0,.ti 1 true,.h 1,.c,.c,.F 0] () ())
  ·exact kk (bo (k:=5) (s:=⟨st,t::stk,(.int 2),inds,0,false,sc,mc,false,ln,col,false,true,can,au,bw,tp,pt,.none,out⟩) M0 [0,0,0,1] H HE [.o 7,.o 6,.o 5,.rep 4,.o 4,.o 3,.o 2,.rep 4,.o 1,.o 0,.l 1 1,.l 1 0,.i 0,.ti 1 true,.h 1,.c,.c,.F 0] () ())
  ·exact kk (bo (k:=5) (s:=⟨st,t::stk,(.int 4),inds,0,false,sc,mc,false,ln,col,false,true,can,au,bw,tp,pt,.none,out⟩) M0 [0,0,0,1] H HE [.o 7,.o 6,.o 5,.rep 6,.o 4,.o 3,.o 2,.rep 6,.o 1,.o 0,.l 1 1,.l 1 0,.i 0,.ti 1 true,.h 1,.c,.c,.F 0] () ())
theorem I9 {b:Bool} {q:List V} {st t stk i inds rc0 sc0 mc0 kc0 ln col can au bw tp pt out tag imp sty m k i0 i1 n sc mc} (hk:k=0∧i0=true∨k=1∧i0=true∨k=2∧i1=true∨k=3∧i1=true∨k=4∧i1=true∨k=5∧i1=true∧mV i n) (H:bc ⟨can,imp,sty,tag,.none,.none,col,bw,out,stk,inds,q,[]⟩) (HE:bj ((iY i0 i1).map (tk ⟨can,imp,sty,tag,.none,.none,col,bw,out,stk,inds,q,[]⟩))):
  EG 10 b 403 [.v (.bool false),.v (.bool sc),.v (.bool mc),.v (.bool false)] q (gV tag imp sty m k) ⟨st,t::stk,(.int i),inds,0,rc0,sc0,mc0,kc0,ln,col,false,false,can,au,bw,tp,pt,.none,out⟩ (.v .none) ⟨t,stk,(.int i),inds,0,false,sc,mc,false,dN k ln,lc k true col,cY k,cY k,can,au,bw,tp,.none,.none,lp k true n++out⟩:=by
 refine cps fun GG kk=>?_;rcases hk with ⟨rfl,rfl⟩|⟨rfl,rfl⟩|⟨rfl,rfl⟩|⟨rfl,rfl⟩|⟨rfl,rfl⟩|⟨rfl,rfl,hi⟩
 ·exact kk (bo (k:=0) (s:=⟨st,t::stk,(.int i),inds,0,false,sc,mc,false,ln,col,false,false,can,au,bw,tp,pt,.none,out⟩) M0 [0,0,0,0,1,0,1] H HE [.o 1,.o 0,.i 0,.ti 0 true,.h 0,.c,.ti 0 true,.h 0,.ty false,.c,.ye 34 false,.F 0] () ())
 ·exact kk (bo (k:=1) (s:=⟨st,t::stk,(.int i),inds,0,false,sc,mc,false,ln,col,false,false,can,au,bw,tp,pt,.none,out⟩) M0 [0,0,0,0,1,0,1,0] H HE [.o 3,.o 2,.w [1,1],.o 1,.o 0,.i 0,.ti 0 true,.h 0,.c,.ti 0 true,.h 0,.ty false,.c,.ye 34 false,.F 0] () ())
 ·cases i0
  ·exact kk (bo (k:=2) (s:=⟨st,t::stk,(.int i),inds,0,false,sc,mc,false,ln,col,false,false,can,au,bw,tp,pt,.none,out⟩) M0 [0,0,0,0,0,0,0,0,1] H HE [.o 2,.o 1,.o 0,.l 1 1,.i 0,.ti 1 true,.h 1,.c,.ty false,.ty false,.ti 0 false,.h 0,.ty false,.c,.ye 34 false,.F 0] () ())
  ·exact kk (bo (k:=2) (s:=⟨st,t::stk,(.int i),inds,0,false,sc,mc,false,ln,col,false,false,can,au,bw,tp,pt,.none,out⟩) M0 [0,0,0,0,1,0,0,0,1] H HE [.o 2,.o 1,.o 0,.l 1 1,.i 0,.ti 1 true,.h 1,.c,.ty false,.ty false,.ti 0 true,.h 0,.ty false,.c,.ye 34 false,.F 0] () ())
 ·exact kk (bo (k:=3) (s:=⟨st,t::stk,(.int i),inds,0,false,sc,mc,false,ln,col,false,false,can,au,bw,tp,pt,.none,out⟩) M0 [0,0,0,1] H HE [.o 2,.o 1,.o 0,.l 1 1,.i 0,.ti 1 true,.h 1,.c,.c,.F 0] () ())
 ·exact kk (bo (k:=4) (s:=⟨st,t::stk,(.int i),inds,0,false,sc,mc,false,ln,col,false,false,can,au,bw,tp,pt,.none,out⟩) M0 [0,0,1] H HE [.o 2,.o 1,.o 0,.l 1 1,.i 0,.ti 1 true,.h 1,.c,.F 0] () ())
 ·rcases hi with ⟨rfl,rfl⟩|⟨rfl,rfl⟩|⟨rfl,rfl⟩
  ·exact kk (bo (k:=5) (s:=⟨st,t::stk,(.int 0),inds,0,false,sc,mc,false,ln,col,false,false,can,au,bw,tp,pt,.none,out⟩) M0 [0,0,0,1] H HE [.o 7,.o 6,.o 5,.rep 2,.o 4,.o 3,.o 2,.rep 2,.o 1,.o 0,.l 1 1,.l 1 0,.i 0,.ti 1 true,.h 1,.c,.c,.F 0] () ())
  ·exact kk (bo (k:=5) (s:=⟨st,t::stk,(.int 2),inds,0,false,sc,mc,false,ln,col,false,false,can,au,bw,tp,pt,.none,out⟩) M0 [0,0,0,1] H HE [.o 7,.o 6,.o 5,.rep 4,.o 4,.o 3,.o 2,.rep 4,.o 1,.o 0,.l 1 1,.l 1 0,.i 0,.ti 1 true,.h 1,.c,.c,.F 0] () ())
  ·exact kk (bo (k:=5) (s:=⟨st,t::stk,(.int 4),inds,0,false,sc,mc,false,ln,col,false,false,can,au,bw,tp,pt,.none,out⟩) M0 [0,0,0,1] H HE [.o 7,.o 6,.o 5,.rep 6,.o 4,.o 3,.o 2,.rep 6,.o 1,.o 0,.l 1 1,.l 1 0,.i 0,.ti 1 true,.h 1,.c,.c,.F 0] () ())
theorem Ib {b:Bool} {q:List V} {st t stk i inds rc0 sc0 mc0 kc0 ln col can au bw tp pt out tag imp sty m k i0 i1 n sc mc} (hk:k=0∧i0=true∨k=1∧i0=true∨k=2∧i1=true∨k=3∧i1=true∨k=4∧i1=true) (H:bc ⟨can,imp,sty,tag,.none,.none,col,bw,out,stk,inds,q,[]⟩) (HE:bj ((iY i0 i1).map (tk ⟨can,imp,sty,tag,.none,.none,col,bw,out,stk,inds,q,[]⟩))):
  EG 10 b 403 [.v (.bool false),.v (.bool sc),.v (.bool mc),.v (.bool true)] q (gV tag imp sty m k) ⟨st,t::stk,(.int i),inds,0,rc0,sc0,mc0,kc0,ln,col,true,true,can,au,bw,tp,pt,(kF k),out⟩ (.v .none) ⟨t,stk,(.int i),inds,0,false,sc,mc,true,dN k ln,lc k false col,cY k,cY k,can,au,bw,tp,.none,.none,lp k false n++out⟩:=by
 rcases hk with ⟨rfl,rfl⟩|⟨rfl,rfl⟩|⟨rfl,rfl⟩|⟨rfl,rfl⟩|⟨rfl,rfl⟩
 ·exact aX (d:=7) 60 [0,0,0,1,0,1] H _ HE [.o 0,.i 0,.ti 0 true,.h 0,.c,.ti 0 true,.h 0,.ty false,.c,.ye 34 false] () ()
 ·exact aX (d:=7) 60 [0,0,0,1,0,1,0] H _ HE [.o 2,.o 1,.w [1],.o 0,.i 0,.ti 0 true,.h 0,.c,.ti 0 true,.h 0,.ty false,.c,.ye 34 false] () ()
 ·cases i0
  ·exact aX (d:=7) 60 [0,0,0,0,0,0,0,1] H _ HE [.o 2,.o 1,.o 0,.i 0,.ti 1 true,.h 1,.c,.ty false,.ty false,.ti 0 false,.h 0,.ty false,.c,.ye 34 false] () ()
  ·exact aX (d:=7) 60 [0,0,0,1,0,0,0,1] H _ HE [.o 2,.o 1,.o 0,.i 0,.ti 1 true,.h 1,.c,.ty false,.ty false,.ti 0 true,.h 0,.ty false,.c,.ye 34 false] () ()
 ·exact aX (d:=7) 60 [0,0,1] H _ HE [.o 2,.o 1,.o 0,.i 0,.ti 1 true,.h 1,.c,.c] () ()
 ·exact aX (d:=7) 60 [0,1] H _ HE [.o 2,.o 1,.o 0,.i 0,.ti 1 true,.h 1,.c] () ()
theorem Ie {b:Bool} {q:List V} {st t stk i inds rc0 sc0 mc0 kc0 ln col can au bw tp pt out tag imp sty m k i0 i1 n sc mc} (hk:k=0∧i0=true∨k=1∧i0=true∨k=2∧i1=true∨k=3∧i1=true∨k=4∧i1=true) (H:bc ⟨can,imp,sty,tag,.none,.none,col,bw,out,stk,inds,q,[]⟩) (HE:bj ((iY i0 i1).map (tk ⟨can,imp,sty,tag,.none,.none,col,bw,out,stk,inds,q,[]⟩))):
  EG 10 b 403 [.v (.bool false),.v (.bool sc),.v (.bool mc),.v (.bool false)] q (gV tag imp sty m k) ⟨st,t::stk,(.int i),inds,1,rc0,sc0,mc0,kc0,ln,col,true,false,can,au,bw,tp,pt,.none,out⟩ (.v .none) ⟨t,stk,(.int i),inds,1,false,sc,mc,false,dN k ln,lc k false col,cY k,cY k,can,au,bw,tp,.none,.none,lp k false n++out⟩:=by
 refine cps fun GG kk=>?_;rcases hk with ⟨rfl,rfl⟩|⟨rfl,rfl⟩|⟨rfl,rfl⟩|⟨rfl,rfl⟩|⟨rfl,rfl⟩
 ·exact kk (bo (k:=0) (s:=⟨st,t::stk,(.int i),inds,1,false,sc,mc,false,ln,col,true,false,can,au,bw,tp,pt,.none,out⟩) M0 [0,0,0,0,1,0,1] H HE [.o 0,.i 0,.ti 0 true,.h 0,.c,.ti 0 true,.h 0,.ty false,.c,.ye 34 false,.F 0] () ())
 ·exact kk (bo (k:=1) (s:=⟨st,t::stk,(.int i),inds,1,false,sc,mc,false,ln,col,true,false,can,au,bw,tp,pt,.none,out⟩) M0 [0,0,0,0,1,0,1,0] H HE [.o 2,.o 1,.w [1],.o 0,.i 0,.ti 0 true,.h 0,.c,.ti 0 true,.h 0,.ty false,.c,.ye 34 false,.F 0] () ())
 ·cases i0
  ·exact kk (bo (k:=2) (s:=⟨st,t::stk,(.int i),inds,1,false,sc,mc,false,ln,col,true,false,can,au,bw,tp,pt,.none,out⟩) M0 [0,0,0,0,0,0,0,0,1] H HE [.o 2,.o 1,.o 0,.i 0,.ti 1 true,.h 1,.c,.ty false,.ty false,.ti 0 false,.h 0,.ty false,.c,.ye 34 false,.F 0] () ())
  ·exact kk (bo (k:=2) (s:=⟨st,t::stk,(.int i),inds,1,false,sc,mc,false,ln,col,true,false,can,au,bw,tp,pt,.none,out⟩) M0 [0,0,0,0,1,0,0,0,1] H HE [.o 2,.o 1,.o 0,.i 0,.ti 1 true,.h 1,.c,.ty false,.ty false,.ti 0 true,.h 0,.ty false,.c,.ye 34 false,.F 0] () ())
 ·exact kk (bo (k:=3) (s:=⟨st,t::stk,(.int i),inds,1,false,sc,mc,false,ln,col,true,false,can,au,bw,tp,pt,.none,out⟩) M0 [0,0,0,1] H HE [.o 2,.o 1,.o 0,.i 0,.ti 1 true,.h 1,.c,.c,.F 0] () ())
 ·exact kk (bo (k:=4) (s:=⟨st,t::stk,(.int i),inds,1,false,sc,mc,false,ln,col,true,false,can,au,bw,tp,pt,.none,out⟩) M0 [0,0,1] H HE [.o 2,.o 1,.o 0,.i 0,.ti 1 true,.h 1,.c,.F 0] () ())
theorem Ic {b:Bool} {q:List V} {st t stk i inds rc0 sc0 mc0 kc0 ln col can au bw tp pt out tag imp sty m k i0 i1 n sc mc} (hk:k=0∧i0=true) (H:bc ⟨can,imp,sty,tag,.none,.none,col,bw,out,stk,inds,q,[]⟩) (HE:bj ((iY i0 i1).map (tk ⟨can,imp,sty,tag,.none,.none,col,bw,out,stk,inds,q,[]⟩))):
  EG 10 b 403 [.v (.bool false),.v (.bool sc),.v (.bool mc),.v (.bool false)] q (gV tag imp sty m k) ⟨st,t::stk,(.int i),inds,1,rc0,sc0,mc0,kc0,ln,col,false,false,can,au,bw,tp,pt,.none,out⟩ (.v .none) ⟨t,stk,(.int i),inds,1,false,sc,mc,false,dN k ln,lc k true col,cY k,cY k,can,au,bw,tp,.none,.none,lp k true n++out⟩:=by
 rcases hk with ⟨rfl,rfl⟩
 ·exact bo (k:=0) (s:=⟨st,t::stk,(.int i),inds,1,false,sc,mc,false,ln,col,false,false,can,au,bw,tp,pt,.none,out⟩) M0 [0,0,0,0,1,0,1] H HE [.o 1,.o 0,.i 0,.ti 0 true,.h 0,.c,.ti 0 true,.h 0,.ty false,.c,.ye 34 false,.F 0] () ()
theorem Ia {b:Bool} {q:List V} {st t stk i inds rc0 sc0 mc0 kc0 ln col can au bw tp pt out tag imp sty m k i0 i1 n sc mc} (hk:k=5∧i1=true∧mV i n) (H:bc ⟨can,imp,sty,tag,.none,.none,col,bw,out,stk,inds,q,[]⟩) (HE:bj ((iY i0 i1).map (tk ⟨can,imp,sty,tag,.none,.none,col,bw,out,stk,inds,q,[]⟩))):
  EG 10 b 403 [.v (.bool false),.v (.bool sc),.v (.bool mc),.v (.bool false)] q (gV tag imp sty m k) ⟨st,t::stk,(.int i),inds,0,rc0,sc0,mc0,kc0,ln,col,false,true,can,au,bw,tp,pt,(kF k),out⟩ (.v .none) ⟨t,stk,(.int i),inds,0,false,sc,mc,false,dN k ln,lc k true col,cY k,cY k,can,au,bw,tp,.none,.none,lp k true n++out⟩:=by
 rcases hk with ⟨rfl,rfl,hi⟩
 ·rcases hi with ⟨rfl,rfl⟩|⟨rfl,rfl⟩|⟨rfl,rfl⟩
  ·exact aX (d:=7) 60 [0,0,1] H _ HE [.o 7,.o 6,.o 5,.rep 2,.o 4,.o 3,.o 2,.rep 2,.o 1,.o 0,.l 1 1,.l 1 0,.i 0,.ti 1 true,.h 1,.c,.c] () ()
  ·exact aX (d:=7) 60 [0,0,1] H _ HE [.o 7,.o 6,.o 5,.rep 4,.o 4,.o 3,.o 2,.rep 4,.o 1,.o 0,.l 1 1,.l 1 0,.i 0,.ti 1 true,.h 1,.c,.c] () ()
  ·exact aX (d:=7) 60 [0,0,1] H _ HE [.o 7,.o 6,.o 5,.rep 6,.o 4,.o 3,.o 2,.rep 6,.o 1,.o 0,.l 1 1,.l 1 0,.i 0,.ti 1 true,.h 1,.c,.c] () ()
noncomputable def mB (tag im m fl:V):V:=.inst 229 [(4,.none),(5,.opq tag),(6,.opq im),(2,.none),(3,.opq m),(7,.opq fl)]
noncomputable def mD (tag im m fl:V):V:=.inst 253 [(4,.none),(5,.opq tag),(6,.opq im),(2,.opq m),(3,.none),(7,.opq fl)]
noncomputable def bu:V:=.dct [([33],.str [33]),([116,97,103,58,121,97,109,108,46,111,114,103,44,50,48,48,50,58],.str [33,33])]
noncomputable def cr (t:Nat):V:=match t with|0=>.none|1=>.str [33,104]|_=>.str [122]
noncomputable def cu (t:Nat):V:=match t with|0=>.none|1=>.str [33,104]|_=>.str [33,60,122,62]
noncomputable def rC (k:Nat):Bool:=match k with|5=>false|_=>true
noncomputable def n7 (t:Nat):List Tk:=match t with|0=>[.tn false]|1=>[.tn true,.un 0]|_=>[.tn true,.un 1]
theorem pN {t:Nat} (h:t < 3) (E:TE) (e:E.tag=cr t:=by rfl):bj ((n7 t).map (tk E)):=by
 match t,h with
 |0,_=>exact .cons (by refine (?_:(e6 E.tag).map not=_);change e;rfl) .nil
 |1,_=>exact .cons (by refine (?_:(e6 E.tag).map not=_);change e;rfl) (.cons e .nil)
 |2,_=>exact .cons (by refine (?_:(e6 E.tag).map not=_);change e;rfl) (.cons e .nil)
noncomputable def dH (ws:Bool) (c:Int):Int:=match ws with|true=>c+1|false=>c+2
noncomputable def cm (ch:Nat) (ws:Bool) (out:List (List Nat)):List (List Nat):=match ws with|true=>[ch]::out|false=>[32,ch]::out
@[elab_as_elim] theorem rV {A B C D:Type} {P:A→B→C→D→Prop} {a1 a2 a3 a4 a5:A} {b1 b2 b3 b4 b5:B} {c1 c2 c3 c4 c5:C} {d1 d2 d3 d4 d5:D} (p1:P a1 b1 c1 d1) (p2:P a2 b2 c2 d2) (p3:P a3 b3 c3 d3) (p4:P a4 b4 c4 d4) (p5:P a5 b5 c5 d5) {a:A} {b:B} {c:C} {d:D} (h:(a=a1∧b=b1∧c=c1∧d=d1)∨(a=a2∧b=b2∧c=c2∧d=d2)∨(a=a3∧b=b3∧c=c3∧d=d3)∨(a=a4∧b=b4∧c=c4∧d=d4)∨(a=a5∧b=b5∧c=c5∧d=d5)):P a b c d:=by
 rcases h with ⟨rfl,rfl,rfl,rfl⟩|⟨rfl,rfl,rfl,rfl⟩|⟨rfl,rfl,rfl,rfl⟩|⟨rfl,rfl,rfl,rfl⟩|⟨rfl,rfl,rfl,rfl⟩<;>assumption
@[elab_as_elim] theorem JF {P:Nat→Prop} (p1:P 217) (p2:P 229) (p3:P 253) {c:Nat} (h:c=217∨c=229∨c=253):P c:=by
 rcases h with rfl|rfl|rfl<;>assumption
theorem xl {b:Bool} {q:List V} {st stk i ind ind' inds rc sc mc rc0 sc0 mc0 kc0 ln col ws ii can au bw tp pt out tag im m fl0 c fs} (hc:c=217∨c=229∨c=253)
  (hk:(ind=.int i∧ind'=.int (i+2)∧mc=false∧ii=true)∨(ind=.int i∧ind'=.int (i+2)∧mc=true∧ii=true)∨(ind=.int i∧ind'=.int i∧mc=true∧ii=false)∨(ind=.none∧ind'=.int 0∧mc=false∧ii=false)∨(ind=.none∧ind'=.int 0∧mc=false∧ii=true))
  (H:bc ⟨can,im,.none,tag,fl0,.none,0,bw,out,stk,inds,q,[]⟩) (HE:bj ([.im true,.fl false].map (tk ⟨can,im,.none,tag,fl0,.none,0,bw,out,stk,inds,q,[]⟩))):
  EG 10 b 403 [.v (.bool rc),.v (.bool sc),.v (.bool mc),.v (.bool false)] (.inst c fs::q) (mB tag im m fl0) ⟨st,stk,ind,inds,0,rc0,sc0,mc0,kc0,ln,col,ws,ii,can,au,bw,tp,pt,.none,out⟩ (.v .none) ⟨487,stk,ind',ind::inds,0,rc,sc,mc,false,ln,col,ws,ii,can,au,bw,tp,.none,.none,out⟩:=by
 refine rV ?_ ?_ ?_ ?_ ?_ hk
 ·exact aX (d:=5) 60 [0,1,0,0] H _ HE [.i 0,.fl false,.c,.im true,.c] () (by apply hR hc;kernel_rfl)
 ·exact aX (d:=5) 60 [0,1,0,0] H _ HE [.i 0,.fl false,.c,.im true,.c] () (by apply hR hc;kernel_rfl)
 ·exact aX (d:=5) 60 [0,1,0,0] H _ HE [.i 0,.fl false,.c,.im true,.c] () (by apply hR hc;kernel_rfl)
 ·exact aX (d:=5) 60 [0,1,0,0] H _ HE [.i 0,.fl false,.c,.im true,.c] () (by apply hR hc;kernel_rfl)
 ·exact aX (d:=5) 60 [0,1,0,0] H _ HE [.i 0,.fl false,.c,.im true,.c] () (by apply hR hc;kernel_rfl)
theorem xm {b:Bool} {q:List V} {st stk i ind ind' inds rc sc mc rc0 sc0 mc0 kc0 ln col ws ii can au bw tp pt out tag im m fl0 c fs} (hc:c=217∨c=229∨c=253)
  (hk:(ind=.int i∧ind'=.int (i+2))∨(ind=.none∧ind'=.int 0))
  (H:bc ⟨can,im,.none,tag,fl0,.none,0,bw,out,stk,inds,q,[]⟩) (HE:bj ([.im true,.fl false].map (tk ⟨can,im,.none,tag,fl0,.none,0,bw,out,stk,inds,q,[]⟩))):
  EG 10 b 403 [.v (.bool rc),.v (.bool sc),.v (.bool mc),.v (.bool false)] (.inst c fs::q) (mD tag im m fl0) ⟨st,stk,ind,inds,0,rc0,sc0,mc0,kc0,ln,col,ws,ii,can,au,bw,tp,pt,.none,out⟩ (.v .none) ⟨509,stk,ind',ind::inds,0,rc,sc,mc,false,ln,col,ws,ii,can,au,bw,tp,.none,.none,out⟩:=by
 rcases hk with ⟨rfl,rfl⟩|⟨rfl,rfl⟩
 ·exact aX (d:=5) 60 [0,1,0,0] H _ HE [.i 0,.fl false,.c,.im true,.c] () (by apply hR hc;kernel_rfl)
 ·exact aX (d:=5) 60 [0,1,0,0] H _ HE [.i 0,.fl false,.c,.im true,.c] () (by apply hR hc;kernel_rfl)
theorem I7 {b:Bool} {q:List V} {st stk i ind ind' inds rc sc mc kc rc0 sc0 mc0 kc0 ln col ws ii can au bw tp pt out tag im m fl0}
  (hk:(ws=false∧ii=true∧ind=.int i∧ind'=.int (i+2))∨(ws=false∧ii=false∧ind=.int i∧ind'=.int (i+2))∨(ws=true∧ii=true∧ind=.int i∧ind'=.int (i+2))∨(ws=false∧ii=false∧ind=.none∧ind'=.int 2)∨(ws=true∧ii=true∧ind=.none∧ind'=.int 2))
  (fl1:Bool) (hf:fl1=true∨(fl1=false∧∃ fs q',q=.inst 241 fs::q'))
  (H:bc ⟨can,im,.none,tag,fl0,.none,0,bw,out,stk,inds,q,[]⟩) (HE:bj ([.im true,.fl fl1].map (tk ⟨can,im,.none,tag,fl0,.none,0,bw,out,stk,inds,q,[]⟩))):
  EG 10 b 403 [.v (.bool rc),.v (.bool sc),.v (.bool mc),.v (.bool kc)] q (mB tag im m fl0) ⟨st,stk,ind,inds,0,rc0,sc0,mc0,kc0,ln,col,ws,ii,can,au,bw,tp,pt,.none,out⟩ (.v .none) ⟨431,stk,ind',ind::inds,1,rc,sc,mc,kc,ln,dH ws col,true,false,can,au,bw,tp,.none,.none,cm 91 ws out⟩:=by
 rcases hf with rfl|⟨rfl,fs,q',rfl⟩<;>refine rV ?_ ?_ ?_ ?_ ?_ hk
 ·exact aX (d:=5) 60 [0,1,0,1] H _ HE [.i 0,.o 0,.l 1 1,.fl true,.c,.im true,.c] () ()
 ·exact aX (d:=5) 60 [0,1,0,1] H _ HE [.i 0,.o 0,.l 1 1,.fl true,.c,.im true,.c] () ()
 ·exact aX (d:=5) 60 [0,1,0,1] H _ HE [.i 0,.o 0,.fl true,.c,.im true,.c] () ()
 ·exact aX (d:=5) 60 [0,1,0,1] H _ HE [.i 0,.o 0,.l 1 1,.fl true,.c,.im true,.c] () ()
 ·exact aX (d:=5) 60 [0,1,0,1] H _ HE [.i 0,.o 0,.fl true,.c,.im true,.c] () ()
 ·exact aX (d:=5) 60 [0,1,0,0] H _ HE [.i 0,.o 0,.l 1 1,.fl false,.c,.im true,.c] () ()
 ·exact aX (d:=5) 60 [0,1,0,0] H _ HE [.i 0,.o 0,.l 1 1,.fl false,.c,.im true,.c] () ()
 ·exact aX (d:=5) 60 [0,1,0,0] H _ HE [.i 0,.o 0,.fl false,.c,.im true,.c] () ()
 ·exact aX (d:=5) 60 [0,1,0,0] H _ HE [.i 0,.o 0,.l 1 1,.fl false,.c,.im true,.c] () ()
 ·exact aX (d:=5) 60 [0,1,0,0] H _ HE [.i 0,.o 0,.fl false,.c,.im true,.c] () ()
theorem I8 {b:Bool} {q:List V} {st stk i ind ind' inds rc sc mc kc rc0 sc0 mc0 kc0 ln col ws ii can au bw tp pt out tag im m fl0}
  (hk:(ws=false∧ii=true∧ind=.int i∧ind'=.int (i+2))∨(ws=false∧ii=false∧ind=.int i∧ind'=.int (i+2))∨(ws=true∧ii=true∧ind=.int i∧ind'=.int (i+2))∨(ws=false∧ii=false∧ind=.none∧ind'=.int 2)∨(ws=true∧ii=true∧ind=.none∧ind'=.int 2))
  (fl1:Bool) (hf:fl1=true∨(fl1=false∧∃ fs q',q=.inst 265 fs::q'))
  (H:bc ⟨can,im,.none,tag,fl0,.none,0,bw,out,stk,inds,q,[]⟩) (HE:bj ([.im true,.fl fl1].map (tk ⟨can,im,.none,tag,fl0,.none,0,bw,out,stk,inds,q,[]⟩))):
  EG 10 b 403 [.v (.bool rc),.v (.bool sc),.v (.bool mc),.v (.bool kc)] q (mD tag im m fl0) ⟨st,stk,ind,inds,0,rc0,sc0,mc0,kc0,ln,col,ws,ii,can,au,bw,tp,pt,.none,out⟩ (.v .none) ⟨452,stk,ind',ind::inds,1,rc,sc,mc,kc,ln,dH ws col,true,false,can,au,bw,tp,.none,.none,cm 123 ws out⟩:=by
 rcases hf with rfl|⟨rfl,fs,q',rfl⟩<;>refine rV ?_ ?_ ?_ ?_ ?_ hk
 ·exact aX (d:=5) 60 [0,1,0,1] H _ HE [.i 0,.o 0,.l 1 1,.fl true,.c,.im true,.c] () ()
 ·exact aX (d:=5) 60 [0,1,0,1] H _ HE [.i 0,.o 0,.l 1 1,.fl true,.c,.im true,.c] () ()
 ·exact aX (d:=5) 60 [0,1,0,1] H _ HE [.i 0,.o 0,.fl true,.c,.im true,.c] () ()
 ·exact aX (d:=5) 60 [0,1,0,1] H _ HE [.i 0,.o 0,.l 1 1,.fl true,.c,.im true,.c] () ()
 ·exact aX (d:=5) 60 [0,1,0,1] H _ HE [.i 0,.o 0,.fl true,.c,.im true,.c] () ()
 ·exact aX (d:=5) 60 [0,1,0,0] H _ HE [.i 0,.o 0,.l 1 1,.fl false,.c,.im true,.c] () ()
 ·exact aX (d:=5) 60 [0,1,0,0] H _ HE [.i 0,.o 0,.l 1 1,.fl false,.c,.im true,.c] () ()
 ·exact aX (d:=5) 60 [0,1,0,0] H _ HE [.i 0,.o 0,.fl false,.c,.im true,.c] () ()
 ·exact aX (d:=5) 60 [0,1,0,0] H _ HE [.i 0,.o 0,.l 1 1,.fl false,.c,.im true,.c] () ()
 ·exact aX (d:=5) 60 [0,1,0,0] H _ HE [.i 0,.o 0,.fl false,.c,.im true,.c] () ()
@[elab_as_elim] theorem Bi {P:Nat→Nat→Prop} (p00:P 0 0) (p01:P 0 1) (p02:P 0 2) (p10:P 1 0) (p11:P 1 1) (p12:P 1 2) (p20:P 2 0) (p21:P 2 1) (p22:P 2 2) (p30:P 3 0) (p31:P 3 1) (p32:P 3 2) (p40:P 4 0) (p41:P 4 1) (p42:P 4 2) (p50:P 5 0) (p51:P 5 1) (p52:P 5 2) {k t:Nat} (hk:k < 6) (ht:t < 3):P k t:=by
 rcases (by decide:∀ k,k < 6→k=0∨k=1∨k=2∨k=3∨k=4∨k=5) k hk with rfl|rfl|rfl|rfl|rfl|rfl<;>rcases (by decide:∀ k,k < 3→k=0∨k=1∨k=2) t ht with rfl|rfl|rfl<;>assumption
theorem xJ {b:Bool} {q:List V} {st stk ind inds fl rc sc mc kc ln col ws ii can au bw out tag imp sty m k t} (hk:k < 6) (ht:t < 3) (hT:tag=cr t) (H:bc ⟨can,imp,sty,tag,.none,.none,col,bw,out,stk,inds,q,[]⟩):
  EG 10 b 559 [] q (gV tag imp sty m k) ⟨st,stk,ind,inds,fl,rc,sc,mc,kc,ln,col,ws,ii,can,au,bw,bu,.none,.none,out⟩ (.v (.bool (rC k))) ⟨st,stk,ind,inds,fl,rc,sc,mc,kc,ln,col,ws,ii,can,au,bw,bu,cu t,kF k,out⟩:=by
 subst hT;have HE:bj ((n7 t).map (tk ⟨can,imp,sty,(cr t),.none,.none,col,bw,out,stk,inds,q,[]⟩)):=pN ht _;revert H HE;refine Bi ?_ ?_ ?_ ?_ ?_ ?_ ?_ ?_ ?_ ?_ ?_ ?_ ?_ ?_ ?_ ?_ ?_ ?_ hk ht
 ·intro H HE;exact bo (k:=0) (s:=⟨st,stk,ind,inds,fl,rc,sc,mc,kc,ln,col,ws,ii,can,au,bw,bu,cu 0,.none,out⟩) M0 [0,0] H HE [.F 0,.tn false] () ()
 ·intro H HE;exact bo (k:=0) (s:=⟨st,stk,ind,inds,fl,rc,sc,mc,kc,ln,col,ws,ii,can,au,bw,bu,cu 1,.none,out⟩) M0 [1,0,0] H HE [.F 0,.l 1 1,.l 1 0,.l 1 0,.un 0,.tn true] () ()
 ·intro H HE;exact bo (k:=0) (s:=⟨st,stk,ind,inds,fl,rc,sc,mc,kc,ln,col,ws,ii,can,au,bw,bu,cu 2,.none,out⟩) M0 [1,1,0] H HE [.F 0,.l 1 0,.l 1 0,.un 1,.tn true] () ()
 ·intro H HE;exact bo (k:=1) (s:=⟨st,stk,ind,inds,fl,rc,sc,mc,kc,ln,col,ws,ii,can,au,bw,bu,cu 0,.none,out⟩) M0 [0,0] H HE [.F 0,.tn false] () ()
 ·intro H HE;exact bo (k:=1) (s:=⟨st,stk,ind,inds,fl,rc,sc,mc,kc,ln,col,ws,ii,can,au,bw,bu,cu 1,.none,out⟩) M0 [1,0,0] H HE [.F 0,.l 1 1,.l 1 0,.l 1 0,.un 0,.tn true] () ()
 ·intro H HE;exact bo (k:=1) (s:=⟨st,stk,ind,inds,fl,rc,sc,mc,kc,ln,col,ws,ii,can,au,bw,bu,cu 2,.none,out⟩) M0 [1,1,0] H HE [.F 0,.l 1 0,.l 1 0,.un 1,.tn true] () ()
 ·intro H HE;exact bo (k:=2) (s:=⟨st,stk,ind,inds,fl,rc,sc,mc,kc,ln,col,ws,ii,can,au,bw,bu,cu 0,.none,out⟩) M0 [0,0] H HE [.F 0,.tn false] () ()
 ·intro H HE;exact bo (k:=2) (s:=⟨st,stk,ind,inds,fl,rc,sc,mc,kc,ln,col,ws,ii,can,au,bw,bu,cu 1,.none,out⟩) M0 [1,0,0] H HE [.F 0,.l 1 1,.l 1 0,.l 1 0,.un 0,.tn true] () ()
 ·intro H HE;exact bo (k:=2) (s:=⟨st,stk,ind,inds,fl,rc,sc,mc,kc,ln,col,ws,ii,can,au,bw,bu,cu 2,.none,out⟩) M0 [1,1,0] H HE [.F 0,.l 1 0,.l 1 0,.un 1,.tn true] () ()
 ·intro H HE;exact bo (k:=3) (s:=⟨st,stk,ind,inds,fl,rc,sc,mc,kc,ln,col,ws,ii,can,au,bw,bu,cu 0,.none,out⟩) M0 [0,0] H HE [.F 0,.tn false] () ()
 ·intro H HE;exact bo (k:=3) (s:=⟨st,stk,ind,inds,fl,rc,sc,mc,kc,ln,col,ws,ii,can,au,bw,bu,cu 1,.none,out⟩) M0 [1,0,0] H HE [.F 0,.l 1 1,.l 1 0,.l 1 0,.un 0,.tn true] () ()
 ·intro H HE;exact bo (k:=3) (s:=⟨st,stk,ind,inds,fl,rc,sc,mc,kc,ln,col,ws,ii,can,au,bw,bu,cu 2,.none,out⟩) M0 [1,1,0] H HE [.F 0,.l 1 0,.l 1 0,.un 1,.tn true] () ()
 ·intro H HE;exact bo (k:=4) (s:=⟨st,stk,ind,inds,fl,rc,sc,mc,kc,ln,col,ws,ii,can,au,bw,bu,cu 0,.none,out⟩) M0 [0,0] H HE [.F 0,.tn false] () ()
 ·intro H HE;exact bo (k:=4) (s:=⟨st,stk,ind,inds,fl,rc,sc,mc,kc,ln,col,ws,ii,can,au,bw,bu,cu 1,.none,out⟩) M0 [1,0,0] H HE [.F 0,.l 1 1,.l 1 0,.l 1 0,.un 0,.tn true] () ()
 ·intro H HE;exact bo (k:=4) (s:=⟨st,stk,ind,inds,fl,rc,sc,mc,kc,ln,col,ws,ii,can,au,bw,bu,cu 2,.none,out⟩) M0 [1,1,0] H HE [.F 0,.l 1 0,.l 1 0,.un 1,.tn true] () ()
 ·intro H HE;exact bo (k:=5) (s:=⟨st,stk,ind,inds,fl,rc,sc,mc,kc,ln,col,ws,ii,can,au,bw,bu,cu 0,.none,out⟩) M0 [0,0] H HE [.F 0,.tn false] () ()
 ·intro H HE;exact bo (k:=5) (s:=⟨st,stk,ind,inds,fl,rc,sc,mc,kc,ln,col,ws,ii,can,au,bw,bu,cu 1,.none,out⟩) M0 [1,0,0] H HE [.F 0,.l 1 1,.l 1 0,.l 1 0,.un 0,.tn true] () ()
 ·intro H HE;exact bo (k:=5) (s:=⟨st,stk,ind,inds,fl,rc,sc,mc,kc,ln,col,ws,ii,can,au,bw,bu,cu 2,.none,out⟩) M0 [1,1,0] H HE [.F 0,.l 1 0,.l 1 0,.un 1,.tn true] () ()
@[elab_as_elim] theorem tc {P:Nat→Prop} (p0:P 0) (p1:P 1) (p2:P 2) {t:Nat} (ht:t < 3):P t:=by
 rcases (by decide:∀ k,k < 3→k=0∨k=1∨k=2) t ht with rfl|rfl|rfl<;>assumption
@[elab_as_elim] theorem four {P:Nat→Bool→Prop} {a1 a2 a3 a4:Nat} {b1 b2 b3 b4:Bool} (p1:P a1 b1) (p2:P a2 b2) (p3:P a3 b3) (p4:P a4 b4) {c:Nat} {r:Bool} (h:(c=a1∧r=b1)∨(c=a2∧r=b2)∨(c=a3∧r=b3)∨(c=a4∧r=b4)):P c r:=by
 rcases h with ⟨rfl,rfl⟩|⟨rfl,rfl⟩|⟨rfl,rfl⟩|⟨rfl,rfl⟩<;>assumption
theorem xH {b:Bool} {q:List V} {st stk ind inds fl rc sc mc kc ln col ws ii can au bw out tag im m fl0 t c fs} (r:Bool) (hc:(c=241∧r=true)∨(c=217∧r=false)∨(c=229∧r=false)∨(c=253∧r=false)) (ht:t < 3) (hT:tag=cr t) (H:bc ⟨can,im,.none,tag,fl0,.none,col,bw,out,stk,inds,q,[]⟩):
  EG 10 b 559 [] (.inst c fs::q) (mB tag im m fl0) ⟨st,stk,ind,inds,fl,rc,sc,mc,kc,ln,col,ws,ii,can,au,bw,bu,.none,.none,out⟩ (.v (.bool r)) ⟨st,stk,ind,inds,fl,rc,sc,mc,kc,ln,col,ws,ii,can,au,bw,bu,cu t,.none,out⟩:=by
 subst hT;have HE:bj ((n7 t).map (tk ⟨can,im,.none,(cr t),fl0,.none,col,bw,out,stk,inds,q,[]⟩)):=pN ht _;revert H HE;refine tc ?_ ?_ ?_ ht
 ·intro H HE;exact aX (d:=7) 90 [0] H _ HE [.tn false] () (by apply ki hc;kernel_rfl)
 ·intro H HE;exact aX (d:=7) 90 [1,0] H _ HE [.l 1 1,.l 1 0,.l 1 0,.un 0,.tn true] () (by apply ki hc;kernel_rfl)
 ·intro H HE;exact aX (d:=7) 90 [1,1] H _ HE [.l 1 0,.l 1 0,.un 1,.tn true] () (by apply ki hc;kernel_rfl)
theorem xI {b:Bool} {q:List V} {st stk ind inds fl rc sc mc kc ln col ws ii can au bw out tag im m fl0 t c fs} (r:Bool) (hc:(c=265∧r=true)∨(c=217∧r=false)∨(c=229∧r=false)∨(c=253∧r=false)) (ht:t < 3) (hT:tag=cr t) (H:bc ⟨can,im,.none,tag,fl0,.none,col,bw,out,stk,inds,q,[]⟩):
  EG 10 b 559 [] (.inst c fs::q) (mD tag im m fl0) ⟨st,stk,ind,inds,fl,rc,sc,mc,kc,ln,col,ws,ii,can,au,bw,bu,.none,.none,out⟩ (.v (.bool r)) ⟨st,stk,ind,inds,fl,rc,sc,mc,kc,ln,col,ws,ii,can,au,bw,bu,cu t,.none,out⟩:=by
 subst hT;have HE:bj ((n7 t).map (tk ⟨can,im,.none,(cr t),fl0,.none,col,bw,out,stk,inds,q,[]⟩)):=pN ht _;revert H HE;refine tc ?_ ?_ ?_ ht
 ·intro H HE;exact aX (d:=7) 90 [0] H _ HE [.tn false] () (by apply ki hc;kernel_rfl)
 ·intro H HE;exact aX (d:=7) 90 [1,0] H _ HE [.l 1 1,.l 1 0,.l 1 0,.un 0,.tn true] () (by apply ki hc;kernel_rfl)
 ·intro H HE;exact aX (d:=7) 90 [1,1] H _ HE [.l 1 0,.l 1 0,.un 1,.tn true] () (by apply ki hc;kernel_rfl)
noncomputable def oO (m ex tg:V):V:=.inst 165 [(2,.opq m),(3,.none),(9,.opq ex),(10,.none),(11,.opq tg)]
noncomputable def ja (m ex:V):V:=.inst 185 [(2,.opq m),(3,.none),(9,.opq ex)]
theorem G9 {b:Bool} {q:List V} {ev:V} {fl:Int} {n:Nat}  (hW:EG 10 b 665 [] q ev ⟨st,stk,ind,inds,fl,rc,sc,mc,kc,ln,col,ws,ii,can,au,bw,tp,pt,an,out⟩ (.v .none) ⟨st,stk,ind,inds,fl,rc,sc,mc,kc,ln',n,true,true,can,au,bw,tp,pt,an,out'⟩) (hE:EG 10 b 403 [.v (.bool false),.v (.bool true),.v (.bool false),.v (.bool false)] q ev ⟨st,495::stk,ind,inds,fl,rc,sc,mc,kc,ln',((n:Int)+1),false,true,can,au,bw,tp,pt,an,[45]::out'⟩ (.v .none) S) (H:bc ⟨can,.none,.none,.none,.none,.none,0,bw,out',stk,inds,q,[]⟩):EG 13 b 495 [.v (.bool true)] q ev ⟨st,stk,ind,inds,fl,rc,sc,mc,kc,ln,col,ws,ii,can,au,bw,tp,pt,an,out⟩ (.v .none) S:=by
 exact eW (D':=10) (d:=3) (.cons hW (.cons hE .nil)) 60 [0,1] H [] .nil [.F 1,.s 0,.o 0,.F 0] () ()
theorem Ga {b:Bool} {q:List V} {c:Nat} {fs:List (Nat×V)} {fl:Int} {n:Nat} (hc:c=217∨c=229∨c=253) (hW:EG 10 b 665 [] q (.inst c fs) ⟨st,stk,ind,inds,fl,rc,sc,mc,kc,ln,col,ws,ii,can,au,bw,tp,pt,an,out⟩ (.v .none) ⟨st,stk,ind,inds,fl,rc,sc,mc,kc,ln',n,true,true,can,au,bw,tp,pt,an,out'⟩) (hE:EG 10 b 403 [.v (.bool false),.v (.bool true),.v (.bool false),.v (.bool false)] q (.inst c fs) ⟨st,495::stk,ind,inds,fl,rc,sc,mc,kc,ln',((n:Int)+1),false,true,can,au,bw,tp,pt,an,[45]::out'⟩ (.v .none) S) (H:bc ⟨can,.none,.none,.none,.none,.none,0,bw,out',stk,inds,q,[]⟩):EG 13 b 495 [.v (.bool false)] q (.inst c fs) ⟨st,stk,ind,inds,fl,rc,sc,mc,kc,ln,col,ws,ii,can,au,bw,tp,pt,an,out⟩ (.v .none) S:=by
 exact eW (D':=10) (d:=3) (.cons hW (.cons hE .nil)) 60 [0,1] H [] .nil [.F 1,.s 0,.o 0,.F 0] () (by apply hR hc;kernel_rfl)
theorem rK {b:Bool} {q:List V} {ev:V} {fl:Int} {n:Nat} (hW:EG 10 b 665 [] q ev ⟨st,stk,ind,inds,fl,rc,sc,mc,kc,ln,col,ws,ii,can,au,bw,tp,pt,an,out⟩ (.v .none) ⟨st,stk,ind,inds,fl,rc,sc,mc,kc,ln',n,true,true,can,au,bw,tp,pt,an,out'⟩) (hC:EG 10 b 559 [] q ev ⟨st,stk,ind,inds,fl,rc,sc,mc,kc,ln',n,true,true,can,au,bw,tp,pt,an,out'⟩ (.v (.bool true)) ⟨st,stk,ind,inds,fl,rc,sc,mc,kc,ln',n,true,true,can,au,bw,tp,pt',an',out'⟩) (hE:EG 10 b 403 [.v (.bool false),.v (.bool false),.v (.bool true),.v (.bool true)] q ev ⟨st,524::stk,ind,inds,fl,rc,sc,mc,kc,ln',n,true,true,can,au,bw,tp,pt',an',out'⟩ (.v .none) S) (H:bc ⟨can,.none,.none,.none,.none,.none,0,bw,out',stk,inds,q,[]⟩):EG 13 b 517 [.v (.bool true)] q ev ⟨st,stk,ind,inds,fl,rc,sc,mc,kc,ln,col,ws,ii,can,au,bw,tp,pt,an,out⟩ (.v .none) S:=by
 exact eW (D':=10) (d:=3) (.cons hW (.cons hC (.cons hE .nil))) 60 [0,1,2] H [] .nil [.F 2,.s 0,.F 1,.F 0] () ()
theorem rM {b:Bool} {q:List V} {ev:V} {fl:Int} {n:Nat} (hW:EG 10 b 665 [] q ev ⟨st,stk,ind,inds,fl,rc,sc,mc,kc,ln,col,ws,ii,can,au,bw,tp,pt,an,out⟩ (.v .none) ⟨st,stk,ind,inds,fl,rc,sc,mc,kc,ln',n,true,true,can,au,bw,tp,pt,an,out'⟩) (hC:EG 10 b 559 [] q ev ⟨st,stk,ind,inds,fl,rc,sc,mc,kc,ln',n,true,true,can,au,bw,tp,pt,an,out'⟩ (.v (.bool false)) ⟨st,stk,ind,inds,fl,rc,sc,mc,kc,ln',n,true,true,can,au,bw,tp,pt',an',out'⟩) (hE:EG 10 b 403 [.v (.bool false),.v (.bool false),.v (.bool true),.v (.bool false)] q ev ⟨st,531::stk,ind,inds,fl,rc,sc,mc,kc,ln',((n:Int)+1),false,true,can,au,bw,tp,pt',an',[63]::out'⟩ (.v .none) S) (H:bc ⟨can,.none,.none,.none,.none,.none,0,bw,out',stk,inds,q,[]⟩):EG 13 b 517 [.v (.bool true)] q ev ⟨st,stk,ind,inds,fl,rc,sc,mc,kc,ln,col,ws,ii,can,au,bw,tp,pt,an,out⟩ (.v .none) S:=by
 exact eW (D':=10) (d:=3) (.cons hW (.cons hC (.cons hE .nil))) 60 [0,1,2] H [] .nil [.F 2,.s 0,.o 0,.F 1,.F 0] () ()
theorem G2 {b:Bool} {q:List V} {ev:V} {fl:Int} (hE:EG 10 b 403 [.v (.bool false),.v (.bool false),.v (.bool true),.v (.bool false)] q ev ⟨st,517::stk,ind,inds,fl,rc,sc,mc,kc,ln,(col+1),false,false,can,au,bw,tp,pt,an,[58]::out⟩ (.v .none) S) (H:bc ⟨can,.none,.none,.none,.none,.none,0,bw,out,stk,inds,q,[]⟩):EG 13 b 524 [] q ev ⟨st,stk,ind,inds,fl,rc,sc,mc,kc,ln,col,false,false,can,au,bw,tp,pt,an,out⟩ (.v .none) S:=by
 exact eW (D':=10) (d:=3) (.cons hE .nil) 60 [0] H [] .nil [.F 0,.s 0,.o 0] () ()
theorem G1 {b:Bool} {q:List V} {ev:V} {fl:Int} {n:Nat} (hW:EG 10 b 665 [] q ev ⟨st,stk,ind,inds,fl,rc,sc,mc,kc,ln,col,ws,ii,can,au,bw,tp,pt,an,out⟩ (.v .none) ⟨st,stk,ind,inds,fl,rc,sc,mc,kc,ln',n,true,true,can,au,bw,tp,pt,an,out'⟩) (hE:EG 10 b 403 [.v (.bool false),.v (.bool false),.v (.bool true),.v (.bool false)] q ev ⟨st,517::stk,ind,inds,fl,rc,sc,mc,kc,ln',((n:Int)+1),false,true,can,au,bw,tp,pt,an,[58]::out'⟩ (.v .none) S) (H:bc ⟨can,.none,.none,.none,.none,.none,0,bw,out',stk,inds,q,[]⟩):EG 13 b 531 [] q ev ⟨st,stk,ind,inds,fl,rc,sc,mc,kc,ln,col,ws,ii,can,au,bw,tp,pt,an,out⟩ (.v .none) S:=by
 exact eW (D':=10) (d:=3) (.cons hW (.cons hE .nil)) 60 [0,1] H [] .nil [.F 1,.s 0,.o 0,.F 0] () ()
theorem G5 {b:Bool} {q:List V} {fs:List (Nat×V)} {t:Nat} {a:V} {fl:Int}  (H:bc ⟨can,.none,.none,.none,.none,.none,0,bw,out,stk,inds,q,[]⟩):EG 13 b 495 [.v (.bool false)] q (.inst 241 fs) ⟨st,t::stk,ind,a::inds,fl,rc,sc,mc,kc,ln,col,ws,ii,can,au,bw,tp,pt,an,out⟩ (.v .none) ⟨t,stk,a,inds,fl,rc,sc,mc,kc,ln,col,ws,ii,can,au,bw,tp,pt,an,out⟩:=by
 exact aX (d:=13) 60 [] H [] .nil [] () ()
theorem G7 {b:Bool} {q:List V} {fs:List (Nat×V)} {t:Nat} {a:V} {fl:Int}  (H:bc ⟨can,.none,.none,.none,.none,.none,0,bw,out,stk,inds,q,[]⟩):EG 13 b 517 [.v (.bool false)] q (.inst 265 fs) ⟨st,t::stk,ind,a::inds,fl,rc,sc,mc,kc,ln,col,ws,ii,can,au,bw,tp,pt,an,out⟩ (.v .none) ⟨t,stk,a,inds,fl,rc,sc,mc,kc,ln,col,ws,ii,can,au,bw,tp,pt,an,out⟩:=by
 exact aX (d:=13) 60 [] H [] .nil [] () ()
theorem Gd {b:Bool} {q:List V} {fs:List (Nat×V)} {t:Nat} {a:V}  (H:bc ⟨can,.none,.none,.none,.none,.none,0,bw,out,stk,inds,q,[]⟩):EG 13 b 431 [] q (.inst 241 fs) ⟨st,t::stk,ind,a::inds,1,rc,sc,mc,kc,ln,col,true,false,can,au,bw,tp,pt,an,out⟩ (.v .none) ⟨t,stk,a,inds,0,rc,sc,mc,kc,ln,(col+1),false,false,can,au,bw,tp,pt,an,[93]::out⟩:=by
 exact aX (d:=13) 60 [] H [] .nil [.o 0] () ()
theorem G8 {b:Bool} {q:List V} {fs:List (Nat×V)} {t:Nat} {a:V}  (H:bc ⟨can,.none,.none,.none,.none,.none,0,bw,out,stk,inds,q,[]⟩):EG 13 b 452 [] q (.inst 265 fs) ⟨st,t::stk,ind,a::inds,1,rc,sc,mc,kc,ln,col,true,false,can,au,bw,tp,pt,an,out⟩ (.v .none) ⟨t,stk,a,inds,0,rc,sc,mc,kc,ln,(col+1),false,false,can,au,bw,tp,pt,an,[125]::out⟩:=by
 exact aX (d:=13) 60 [] H [] .nil [.o 0] () ()
theorem Gb {b:Bool} {q:List V} {fs:List (Nat×V)} {t:Nat} {a:V}  (H:bc ⟨can,.none,.none,.none,.none,.none,0,bw,out,stk,inds,q,[]⟩):EG 13 b 438 [] q (.inst 241 fs) ⟨st,t::stk,ind,a::inds,1,rc,sc,mc,kc,ln,col,false,false,can,au,bw,tp,pt,an,out⟩ (.v .none) ⟨t,stk,a,inds,0,rc,sc,mc,kc,ln,(col+1),false,false,can,au,bw,tp,pt,an,[93]::out⟩:=by
 exact aX (d:=13) 60 [0] H [] .nil [.o 0,.c] () ()
theorem Ge {b:Bool} {q:List V} {fs:List (Nat×V)} (hE:EG 10 b 403 [.v (.bool false),.v (.bool true),.v (.bool false),.v (.bool false)] q (.inst 217 fs) ⟨st,438::stk,ind,inds,1,rc,sc,mc,kc,ln,col,true,false,can,au,bw,tp,pt,an,out⟩ (.v .none) S) (H:bc ⟨can,.none,.none,.none,.none,.none,col,bw,out,stk,inds,q,[]⟩):EG 13 b 431 [] q (.inst 217 fs) ⟨st,stk,ind,inds,1,rc,sc,mc,kc,ln,col,true,false,can,au,bw,tp,pt,an,out⟩ (.v .none) S:=by
 exact eW (D':=10) (d:=3) (.cons hE .nil) 60 [0,0,0] H [] .nil [.F 0,.s 0,.w [],.c] () ()
theorem Gc {b:Bool} {q:List V} {fs:List (Nat×V)} (hE:EG 10 b 403 [.v (.bool false),.v (.bool true),.v (.bool false),.v (.bool false)] q (.inst 217 fs) ⟨st,438::stk,ind,inds,1,rc,sc,mc,kc,ln,(col+1),false,false,can,au,bw,tp,pt,an,[44]::out⟩ (.v .none) S) (H:bc ⟨can,.none,.none,.none,.none,.none,col,bw,out,stk,inds,q,[]⟩):EG 13 b 438 [] q (.inst 217 fs) ⟨st,stk,ind,inds,1,rc,sc,mc,kc,ln,col,false,false,can,au,bw,tp,pt,an,out⟩ (.v .none) S:=by
 exact eW (D':=10) (d:=3) (.cons hE .nil) 60 [0,0,0] H [] .nil [.F 0,.s 0,.w [1],.c,.o 0] () ()
theorem G6 {b:Bool} {q:List V} {ev:V} {fl:Int} (hE:EG 10 b 403 [.v (.bool true),.v (.bool false),.v (.bool false),.v (.bool false)] q ev ⟨st,388::stk,ind,inds,fl,rc,sc,mc,kc,ln,col,ws,ii,can,au,bw,tp,pt,an,out⟩ (.v .none) S) (H:bc ⟨can,.none,.none,.none,.none,.none,0,bw,out,stk,inds,q,[]⟩):EG 13 b 395 [] q ev ⟨st,stk,ind,inds,fl,rc,sc,mc,kc,ln,col,ws,ii,can,au,bw,tp,pt,an,out⟩ (.v .none) S:=by
 exact eW (D':=10) (d:=3) (.cons hE .nil) 60 [0] H [] .nil [.F 0,.s 0] () ()
theorem G0 {b:Bool} {q:List V} {ev:V} {s :ES} (hE:EG 13 b 495 [.v (.bool true)] q ev s (.v .none) S):EG 14 b 487 [] q ev s (.v .none) S:=
 mF (D':=13) (d:=1) (.cons hE .nil) 60 [0] [0] (by rfl) ()
theorem kb {b:Bool} {q:List V} {ev:V} {s :ES} (hE:EG 13 b 517 [.v (.bool true)] q ev s (.v .none) S):EG 14 b 509 [] q ev s (.v .none) S:=
 mF (D':=13) (d:=1) (.cons hE .nil) 60 [0] [0] (by rfl) ()
theorem G4 {b:Bool} {q:List V} {fs:List (Nat×V)} {fl:Int}  (H:bc ⟨can,.none,.none,.none,.none,.none,0,bw,out,stk,inds,q,[]⟩):EG 13 b 359 [] q (.inst 133 fs) ⟨st,stk,ind,inds,fl,rc,sc,mc,kc,ln,col,ws,ii,can,au,bw,tp,pt,an,out⟩ (.v .none) ⟨373,stk,ind,inds,fl,rc,sc,mc,kc,ln,col,ws,ii,can,au,bw,tp,pt,an,out⟩:=by
 exact aX (d:=13) 60 [] H [] .nil [] () ()
theorem Gg {b:Bool} {q:List V} {m tg :V} {c:Nat} {fs:List (Nat×V)} {fl:Int} (hc:c=229∨c=253) (HE:bj ([.fl false,.tg false].map (tk ⟨can,.none,.none,.none,ex,tg,0,bw,out,stk,inds,q,[]⟩))) (H:bc ⟨can,.none,.none,.none,ex,tg,0,bw,out,stk,inds,q,[]⟩):EG 13 b 373 [] (.inst c fs::q) (oO m ex tg) ⟨st,stk,.none,inds,fl,rc,sc,mc,kc,ln,0,true,true,can,au,bw,tp,pt,an,out⟩ (.v .none) ⟨395,stk,.none,inds,fl,rc,sc,mc,kc,ln,0,true,true,can,au,bw,bu,pt,an,out⟩:=by
 exact aX (d:=13) 60 [0,0,0,0,0] H _ HE [.tg false,.c,.fl false,.tg false,.tg false] () (by apply t8 hc;kernel_rfl)
theorem Gf {b:Bool} {q:List V} {m tg :V} {c:Nat} {fs:List (Nat×V)} {fl:Int} (hc:c=229∨c=253) (HE:bj ([.fl true,.tg false].map (tk ⟨can,.none,.none,.none,ex,tg,0,bw,out,stk,inds,q,[]⟩))) (H:bc ⟨can,.none,.none,.none,ex,tg,0,bw,out,stk,inds,q,[]⟩):EG 13 b 373 [] (.inst c fs::q) (oO m ex tg) ⟨st,stk,.none,inds,fl,rc,sc,mc,kc,ln,0,true,true,can,au,bw,tp,pt,an,out⟩ (.v .none) ⟨395,stk,.none,inds,fl,rc,sc,mc,kc,ln,3,false,false,can,au,bw,bu,pt,an,[45,45,45]::out⟩:=by
 exact aX (d:=13) 60 [0,0,1,0] H _ HE [.c,.o 0,.fl true,.tg false,.tg false] () (by apply t8 hc;kernel_rfl)
theorem Gi {b:Bool} {q:List V} {m :V} {fl:Int} (HE:bj ([.fl false].map (tk ⟨can,.none,.none,.none,ex,.none,0,bw,out',stk,inds,q,[]⟩))) (hW:EG 10 b 665 [] q (ja m ex) ⟨st,stk,.none,inds,fl,rc,sc,mc,kc,ln,col,ws,ii,can,au,bw,tp,pt,an,out⟩ (.v .none) ⟨st,stk,.none,inds,fl,rc,sc,mc,kc,ln',0,true,true,can,au,bw,tp,pt,an,out'⟩) (H:bc ⟨can,.none,.none,.none,ex,.none,0,bw,out',stk,inds,q,[]⟩):EG 13 b 388 [] q (ja m ex) ⟨st,stk,.none,inds,fl,rc,sc,mc,kc,ln,col,ws,ii,can,au,bw,tp,pt,an,out⟩ (.v .none) ⟨381,stk,.none,inds,fl,rc,sc,mc,kc,ln',0,true,true,can,au,bw,tp,pt,an,out'⟩:=by
 exact eW (D':=10) (d:=3) (.cons hW .nil) 60 [0,0] H _ HE [.fl false,.F 0] () ()
theorem Gh {b:Bool} {q:List V} {m :V} {fl:Int} (HE:bj ([.fl true].map (tk ⟨can,.none,.none,.none,ex,.none,0,bw,out',stk,inds,q,[]⟩))) (hW:EG 10 b 665 [] q (ja m ex) ⟨st,stk,.none,inds,fl,rc,sc,mc,kc,ln,col,ws,ii,can,au,bw,tp,pt,an,out⟩ (.v .none) ⟨st,stk,.none,inds,fl,rc,sc,mc,kc,ln',0,true,true,can,au,bw,tp,pt,an,out'⟩) (hV:EG 10 b 665 [] q (ja m ex) ⟨st,stk,.none,inds,fl,rc,sc,mc,kc,ln',3,false,false,can,au,bw,tp,pt,an,[46,46,46]::out'⟩ (.v .none) ⟨st,stk,.none,inds,fl,rc,sc,mc,kc,(ln'+1),0,true,true,can,au,bw,tp,pt,an,[10]::[46,46,46]::out'⟩) (H:bc ⟨can,.none,.none,.none,ex,.none,0,bw,out',stk,inds,q,[]⟩):EG 13 b 388 [] q (ja m ex) ⟨st,stk,.none,inds,fl,rc,sc,mc,kc,ln,col,ws,ii,can,au,bw,tp,pt,an,out⟩ (.v .none) ⟨381,stk,.none,inds,fl,rc,sc,mc,kc,(ln'+1),0,true,true,can,au,bw,tp,pt,an,[10]::[46,46,46]::out'⟩:=by
 exact eW (D':=10) (d:=3) (.cons hW (.cons hV .nil)) 60 [0,1,1] H _ HE [.F 1,.o 0,.fl true,.F 0] () ()
theorem G3 {b:Bool} {q:List V} {fs:List (Nat×V)} {fl:Int}  (H:bc ⟨can,.none,.none,.none,.none,.none,0,bw,out,stk,inds,q,[]⟩):EG 13 b 381 [.v (.bool false)] q (.inst 145 fs) ⟨st,stk,ind,inds,fl,rc,sc,mc,kc,ln,col,ws,ii,can,au,bw,tp,pt,an,out⟩ (.v .none) ⟨366,stk,ind,inds,fl,rc,sc,mc,kc,ln,col,ws,ii,can,au,bw,tp,pt,an,out⟩:=by
 exact aX (d:=13) 60 [] H [] .nil [] () ()
variable {α β:Type}
noncomputable def MG (D:Nat) (m:ao→Mo α) (h:List a8) (lc:List (Nat×X)) (x:α) (h':List a8) (lc':List (Nat×X)):Prop:=
 ∃ n0,∀ n d,n0≤n→D≤d→∃ ds l,bj l∧∀ lc1,Sub lc lc1→∃ aQ,Sub lc' aQ∧∀ r o,m (run T7 n d) ⟨h,lc1,ds++r,o⟩=some (x,⟨h',aQ,r,l++o⟩)
theorem MG.mono {m:ao→Mo α} {h :List a8} {lc :List (Nat×X)} {x:α} (a:MG D m h lc x h' lc') (l:D≤D'):MG D' m h lc x h' lc':=by
 (refine ay a ?_;(try clear a);rintro n0 k)
 exact ba n0 (fun n d a b=>k n d a (Kl l b))
theorem MG.sub {m:ao→Mo α} {h :List a8} {lc l1 l2 :List (Nat×X)} {x:α} (a:MG D m h lc x h' lc') (s1:Sub lc l1) (s2:Sub l2 lc'):MG D m h l1 x h' l2:=by
 (refine ay a ?_;(try clear a);rintro n0 k)
 refine ba n0 (fun n d a b=>?_)
 (refine aN (k n d a b) ?_;rintro ds l t k)
 refine bI ds l t (fun lc1 hs=>?_)
 (refine am (k lc1 fun x v e=>hs x v (s1 x v e)) ?_;rintro aQ q k)
 exact aF aQ (fun x v e=>q x v (s2 x v e)) k
noncomputable def Du (x:α) (h':List a8) (lc':List (Nat×X)) (L:List Prop):Option (α×St):=some (x,⟨h',lc',[],L⟩)
noncomputable abbrev sL (m:ao→Mo α) (fs:List bH) (n d:Nat) (h:List a8) (lc:List (Nat×X)) (ds:List Nat) (x:α) (h':List a8) (lc':List (Nat×X)) (L:List Prop):Prop:=Du x h' lc' L=m (fW T7 fs n d) ⟨h,lc,ds,[]⟩
theorem jL {m:ao→Mo α} (hm:∀ R R',gr R R'→aW (m R) (m R')) {fs:List bH} {d :Nat} (v:aM D fs) (le:d+D≤D') (n:Nat) (ds:List Nat) {L:List Prop} (t:bj L) {h :List a8} {lc :List (Nat×X)} {x:α}
  (e:sL m fs n d h lc ds x h' lc' L):MG D' m h lc x h' lc':=by
 have e:m (fW T7 fs n d) ⟨h,lc,ds,[]⟩=some (x,⟨h',lc',[],L⟩):=e.symm;obtain ⟨N,K⟩:=rW fs v;refine ba (n+N) (fun n' d' h1 h2=>?_);obtain ⟨_,ds',l,t',k⟩:=hm _ _ (nj K n d n' d' h1 (Kl le h2)) _ _ _ e t;exact bI ds' l t' k
theorem bd {h:List a8} {lc:List (Nat×X)} {x:α}:MG D (fun _=>ak x) h lc x h lc:=⟨0,fun _ _ _ _=>⟨[],[],.nil,fun lc1 hs=>⟨lc1,hs,fun _ _=>rfl⟩⟩⟩
theorem jK {m:Mo α} {h :List a8} {lc:List (Nat×X)} {x:α} (e:∀ lc1,Sub lc lc1→∀ d o,m ⟨h,lc1,d,o⟩=some (x,⟨h',lc1,d,o⟩)):MG D (fun _=>m) h lc x h' lc:=⟨0,fun _ _ _ _=>⟨[],[],.nil,fun lc1 hs=>⟨lc1,hs,fun r o=>e lc1 hs r o⟩⟩⟩
theorem vF {h:List a8} {lc:List (Nat×X)} {x:Nat} {v:X}:MG D (fun _=>hY x v) h lc Unit.unit h (put lc x v):=⟨0,fun _ _ _ _=>⟨[],[],.nil,fun lc1 hs=>⟨_,hs.put x v,fun r o=>fV _ _ _⟩⟩⟩
theorem aP {m:ao→Mo α} {f:ao→α→Mo β} {h :List a8} {lc lc1 aQ:List (Nat×X)} {x:α} {y:β} (a:MG D m h lc x h1 lc1) (b:MG D (fun R=>f R x) h1 lc1 y h2 aQ):MG D (fun R=>a7 (m R) (f R)) h lc y h2 aQ:=by
 (refine ay a ?_;(try clear a);rintro n1 k1)
 (refine ay b ?_;(try clear b);rintro n2 k2)
 refine ba (n1+n2) (fun n d u w=>?_)
 (refine aN (k1 n d (by exact dz M1) w) ?_;rintro d1 l1 t1 e1)
 (refine aN (k2 n d (by exact Kl (Kk _ _) M1) w) ?_;rintro d2 l2 t2 e2)
 refine bI (d1++d2) (l2++l1) (t2.app t1) (fun q hs=>?_)
 (refine am (e1 q hs) ?_;rintro q1 s1 e1)
 (refine am (e2 q1 s1) ?_;rintro q2 s2 e2)
 refine aF q2 s2 (fun r o=>?_);refine (?_:(match m _ _ with|some (x,σ')=>f _ x σ'|none=>none)=_)
 (change Kw;change e1)
 refine (?_:f _ x _=_);exact (e2 r (l1++o)).trans (by (change Kw;with_reducible rfl))
theorem jH {m m':ao→Mo α} {h :List a8} {lc :List (Nat×X)} {x:α} (a:MG D m h lc x h' lc') (e:∀ n d,D≤d→m' (run T7 (n+1) d)=m (run T7 n d)):MG D m' h lc x h' lc':=by
 (refine ay a ?_;(try clear a);rintro n0 k)
 refine ba (n0+1) (fun n d u w=>?_);obtain ⟨m0,rfl⟩:∃ m0,n=m0+1:=⟨n - 1,by lia⟩
 change e _ _ w;exact k m0 d (by exact L2 M1) w
theorem ED {m m':ao→Mo α} {h :List a8} {lc :List (Nat×X)} {x:α} (a:MG D m' h lc x h' lc') (e:∀ n d,D≤d→m' (run T7 (n+1) d)=m (run T7 n d)):MG D m h lc x h' lc':=by
 (refine ay a ?_;(try clear a);rintro n0 k)
 refine ba n0 (fun n d u w=>?_);refine aT (e _ _ w ..) ?_;exact k (n+1) d (by exact KK M1) w
theorem nX {m m':ao→Mo α} {h :List a8} {lc :List (Nat×X)} {x:α} (a:MG D m h lc x h' lc') (e:∀ R,m' R=m R):MG D m' h lc x h' lc':=by
 (refine ay a ?_;(try clear a);rintro n0 k)
 exact ba n0 (fun n d u w=>by change e;exact k n d u w)
theorem Es {t:CE} {b:List CS} {h :List a8} {lc lc1:List (Nat×X)} (a:MG D (fun R=>R.t t) h lc false h1 lc1):MG D (fun R=>R.whl t b) h lc .next h1 lc1:=
 jH (m:=fun R=>kj R t b) (aP a bd) fun _ _ _=>rfl
theorem Er {t:CE} {b:List CS} {h :List a8} {lc lc1 aQ lc3:List (Nat×X)} (a:MG D (fun R=>R.t t) h lc true h1 lc1) (c:MG D (fun R=>R.ss b) h1 lc1 .next h2 aQ) (e:MG D (fun R=>R.whl t b) h2 aQ .next h3 lc3):MG D (fun R=>R.whl t b) h lc .next h3 lc3:=
 jH (m:=fun R=>kj R t b) (aP a (aP c e)) fun _ _ _=>rfl
noncomputable def bf (b:List CS) (R:ao):Mo Fl:=fJ T7 R b
theorem jJ {b:List CS} {h :List a8} {lc :List (Nat×X)} {x:Fl} (a:MG D (bf b) h lc x h' lc'):MG D (fun R=>R.ss b) h lc x h' lc':=jH a fun _ _ _=>rfl
theorem JS {b:List CS} {h :List a8} {lc :List (Nat×X)} {x:Fl} (a:MG D (fun R=>R.ss b) h lc x h' lc'):MG D (bf b) h lc x h' lc':=ED a fun _ _ _=>rfl
theorem fg {c:CS} {b:List CS} {h :List a8} {lc lc1 aQ:List (Nat×X)} {x:Fl} (a:MG D (fun R=>bN T7 R c) h lc .next h1 lc1) (k:MG D (bf b) h1 lc1 x h2 aQ):MG D (bf (c::b)) h lc x h2 aQ:=aP a k
noncomputable def rz (m:Mo Fl) (f:Fl):Mo Fl:=match f with|.next=>m|.ret x=>ak (.ret x)
theorem J8 {γ:Type} {m:Mo α} {f:α→Mo β} {g:β→Mo γ}:a7 (a7 m f) g=a7 m fun x=>a7 (f x) g:=by
 funext σ
 dsimp only [a7];cases m σ<;>rfl
theorem x8 {c:CS} {r:List CS}:fJ T R (c::r)=a7 (bN T R c) (rz (fJ T R r)):=by
 refine (?_:a7 _ _=a7 _ _)
 congr 1
theorem HN {a b:List CS}:fJ T R (a++b)=a7 (fJ T R a) (rz (fJ T R b)):=by
 induction a with
 |nil=>rfl
 |cons c a ih=>
  (change Lf;change x8;change x8;change J8;change ih)
  congr 1
  funext f
  induction f using Fl.casesOn<;>rfl
theorem dw {a b:List CS} {h :List a8} {lc lc1 aQ:List (Nat×X)} {x:Fl} (u:MG D (bf a) h lc .next h1 lc1) (k:MG D (bf b) h1 lc1 x h2 aQ):MG D (bf (a++b)) h lc x h2 aQ:=
 nX (m:=fun R=>a7 (bf a R) (rz (bf b R))) (aP u k) fun _=>HN
theorem EC {x:Nat} {b:List CS} {h:List a8} {lc:List (Nat×X)}:MG D (fun R=>e8 R x b []) h lc .next h lc:=bd
theorem vM {x:Nat} {b:List CS} {v:V} {l:List V} {h :List a8} {lc lc1 aQ:List (Nat×X)} {fl:Fl} (a:MG D (fun R=>R.ss b) h (put lc x (.v v)) .next h1 lc1) (k:MG D (fun R=>e8 R x b l) h1 lc1 fl h2 aQ):MG D (fun R=>e8 R x b (v::l)) h lc fl h2 aQ:=
 aP vF (aP a k)
theorem vL {x:Nat} {b:List CS} {l:List V} {h :List a8} {lc aQ:List (Nat×X)} {fl:Fl} (k:MG D (fun R=>e8 R x b l) h lc fl h2 aQ):MG D (fun R=>R.fr x l b) h lc fl h2 aQ:=jH k fun _ _ _=>rfl
theorem wY {h :List a8} (hF:look T7.fns f=some F) (k:MG D (bf F.body) h (dU F.params args) .next h' lc'):FG D ⟨f,args,h,.v .none,h'⟩:=by
 (refine ay (jJ k) ?_;rintro n0 k)
 refine ba n0 (fun n d u w=>?_)
 (refine aN (k n d u w) ?_;rintro ds l t e)
 (refine am (e _ .refl) ?_;rintro _ _ e)
 refine bI ds l t (fun loc r o=>?_);dsimp only [cI];refine (?_:(match look T7.fns f with|some F=>_|none=>no) _=_);change hF;have e:=e r o;dsimp only at e ⊢
 (change e;with_reducible rfl)
theorem oK {h :List a8} {x:X} (hF:look T7.fns f=some F) (k:MG D (bf F.body) h (dU F.params args) (.ret x) h' lc'):FG D ⟨f,args,h,x,h'⟩:=by
 (refine ay (jJ k) ?_;rintro n0 k)
 refine ba n0 (fun n d u w=>?_)
 (refine aN (k n d u w) ?_;rintro ds l t e)
 (refine am (e _ .refl) ?_;rintro _ _ e)
 refine bI ds l t (fun loc r o=>?_);dsimp only [cI];refine (?_:(match look T7.fns f with|some F=>_|none=>no) _=_);change hF;have e:=e r o;dsimp only at e ⊢
 (change e;with_reducible rfl)
noncomputable def xq:List CS:=[.asgF (.n 1) 28 (.pop0 (.a (.n 1) 27)),.e (.fcall (.n 1) 25),.asgF (.n 1) 28 (.k (.none))]
noncomputable def xp:CE:=.not (.meth (.n 1) 52 [] [])
noncomputable def hE (b:Bool) (pl:List V) (s2:ES) (q2:List V) (ev2:V) (s:ES) (q:List V) (ev:V):List a8:=hh b pl (em (bs b) s q ev) (em (bs (!b)) s2 q2 ev2)
noncomputable def lE (b:Bool) (v:V):List (Nat×X):=[(1,.r (bs b+2)),(28,.v v)]
noncomputable def PG (b:Bool) (v:V) (q:List V) (s s':ES):Prop:=∀ pl s2 q2 ev2 v0,MG 15 (fun R=>R.ss xq) (hE b pl s2 q2 ev2 s (v::q) .none) (lE b v0) .next (hE b pl s2 q2 ev2 s' q .none) (lE b v0)
noncomputable def Dq (f:Nat) (as:List X):Bool:=match as with
 |[]=>bq [359,373,395,388,487,509,524,531,431,438,452] f
 |x::r=>(match x with
  |.v y=>(match y,r with
   |.bool b,[]=>!b&&bq [381,495,517] f
   |_,_=>false)
  |_=>false)
noncomputable abbrev iC (f:Nat) (as:List X):Prop:=Dq f as=true
set_option tactic.hygienic true in
@[elab_as_elim] theorem iC.all {P:Nat→List X→Prop} (k0:P 359 []) (k1:P 373 []) (k2:P 395 []) (k3:P 388 []) (k4:P 381 [.v (.bool false)]) (k5:P 487 []) (k6:P 495 [.v (.bool false)]) (k7:P 509 []) (k8:P 517 [.v (.bool false)]) (k9:P 524 []) (k10:P 531 []) (k11:P 431 []) (k12:P 438 []) (k13:P 452 []) {f:Nat} {as:List X} (h:iC f as):P f as:=by
 induction as using List.casesOn with
 |nil=>
  have h:=ka.mp (show bq [359,373,395,388,487,509,524,531,431,438,452] f=true from h);simp only [KQ,Lm,Ln] at h;rcases h with rfl|rfl|rfl|rfl|rfl|rfl|rfl|rfl|rfl|rfl|rfl
  ·exact k0
  ·exact k1
  ·exact k2
  ·exact k3
  ·exact k5
  ·exact k7
  ·exact k9
  ·exact k10
  ·exact k11
  ·exact k12
  ·exact k13
 |cons x r=>
  induction x using X.casesOn<;>first|contradiction|skip
  rename_i y;induction y using V.casesOn<;>first|contradiction|skip
  rename_i b;induction r using List.casesOn<;>first|contradiction|skip
  induction b using Bool.casesOn<;>first|contradiction|skip
  have h:=ka.mp (show bq [381,495,517] f=true from h);simp only [KQ,Lm,Ln] at h;rcases h with rfl|rfl|rfl
  ·exact k4
  ·exact k6
  ·exact k8
noncomputable def t9 (q:bH):Prop:=q.f=q.f∧q.args=q.args∧q.h=q.h
theorem zm (q:bH):bj [t9 q]:=.cons ⟨rfl,rfl,rfl⟩ .nil
noncomputable def lz:List (Nat×List X):=[(359,[]),(373,[]),(395,[]),(388,[]),(381,[.v (.bool false)]),(487,[]),(495,[.v (.bool false)]),(509,[]),(517,[.v (.bool false)]),(524,[]),(531,[]),(431,[]),(438,[]),(452,[])]
theorem iC.mem (h:iC f as):(f,as)∈lz:=iC.all (P:=fun f as=>(f,as)∈lz) (List.mem_of_getElem? (i:=0) rfl) (List.mem_of_getElem? (i:=1) rfl) (List.mem_of_getElem? (i:=2) rfl) (List.mem_of_getElem? (i:=3) rfl) (List.mem_of_getElem? (i:=4) rfl) (List.mem_of_getElem? (i:=5) rfl) (List.mem_of_getElem? (i:=6) rfl) (List.mem_of_getElem? (i:=7) rfl) (List.mem_of_getElem? (i:=8) rfl) (List.mem_of_getElem? (i:=9) rfl) (List.mem_of_getElem? (i:=10) rfl) (List.mem_of_getElem? (i:=11) rfl) (List.mem_of_getElem? (i:=12) rfl) (List.mem_of_getElem? (i:=13) rfl) h
noncomputable def kA:List Bool:=[true,false]
theorem pi:∀ b,b∈kA
 |true=>.head _
 |false=>.tail _ (.head _)
theorem Jh {α:Type} {F G:Bool→α} (b:Bool) (h:iD kA F G):F b=G b:=i7 _ h (pi b)
theorem iP {ι α:Type} {F G:ι→α} {c:ι} (l:List ι) (hc:c∈l) (h:iD l F G):F c=G c:=i7 l h hc
theorem lT {ι κ α:Type} {F G:ι→κ→α} {c:ι} {d:κ} (l1:List ι) (l2:List κ) (hc:c∈l1) (hd:d∈l2) (h:iD l1 (fun c=>l2.map (F c)) (fun c=>l2.map (G c))):F c d=G c d:=
 i7 (F:=F c) (G:=G c) l2 (i7 (F:=fun c=>l2.map (F c)) (G:=fun c=>l2.map (G c)) l1 h hc) hd
theorem F0 {ι κ μ α:Type} {F G:ι→κ→μ→α} {c:ι} {d:κ} {e:μ} (l1:List ι) (l2:List κ) (ee:List μ) (hc:c∈l1) (hd:d∈l2) (he:e∈ee) (h:iD l1 (fun c=>l2.map fun d=>ee.map (F c d)) (fun c=>l2.map fun d=>ee.map (G c d))):F c d e=G c d e:=
 i7 (F:=F c d) (G:=G c d) ee (lT (F:=fun c d=>ee.map (F c d)) (G:=fun c d=>ee.map (G c d)) l1 l2 hc hd h) he
theorem Dp {α:Type} {F G:Bool→Nat→List X→α} (b:Bool) (hf:iC f as) (h:iD kA (fun b=>lz.map fun p=>F b p.1 p.2) (fun b=>lz.map fun p=>G b p.1 p.2)):F b f as=G b f as:=
 lT (c:=b) (d:=(f,as)) (F:=fun b p=>F b p.1 p.2) (G:=fun b p=>G b p.1 p.2) kA lz (pi b) hf.mem h
theorem vI {m:ao→Mo α} (hm:∀ R R',gr R R'→aW (m R) (m R')) {q:bH} {d :Nat} (v:FG D q) (le:d+D≤D') (n:Nat) (ds:List Nat) {h :List a8} {lc :List (Nat×X)} {x:α}
  (e:sL m [q] n d h lc ds x h' lc' [t9 q]):MG D' m h lc x h' lc':=jL hm (aM.cons v .nil (br _)) le n ds (zm q) e
theorem fE {b:Bool} {v:V} {q:List V} {s :ES} (hs:s.st=f) (hf:iC f as)
  (k:EG 14 b f as q v s (.v .none) S):PG b v q s S:=fun pl s2 q2 ev2 v0=>by
 obtain ⟨st,stk,ind,inds,fl,rc,sc,mc,kc,ln,col,ws,ii,can,au,bw,tp,pt,an,out⟩:=s;have hs:st=f:=hs;subst hs;exact vI (fun R R' H=>H.ss _) (k pl s2 q2 ev2) (d:=1) M0 60 [0] (by apply Dp b hf;kernel_rfl)
noncomputable def NG (b:Bool) (q:List V) (r:Bool):Prop:=∀ s ev,EG 3 b 337 [] q ev s (.v (.bool r)) s
theorem td {b:Bool} {q:List V} {r:Bool} (k:NG b q r) (s:ES) (pl:List V) (s2:ES) (q2:List V) (ev2 v0:V):MG 15 (fun R=>R.t xp) (hE b pl s2 q2 ev2 s q .none) (lE b v0) (!r) (hE b pl s2 q2 ev2 s q .none) (lE b v0):=
 vI (fun R R' H=>H.t _) (k s .none pl s2 q2 ev2) (d:=1) M0 60 [0] (by apply lT kA kA (pi b) (pi r);kernel_rfl)
theorem Jm {b:Bool} {q:List V} (hq:q.length+10≤lim) (s:ES) (pl:List V) (s2:ES) (q2:List V) (ev2 v:V):MG 15 (bf [.e (.app (.a (.n 1) 27) (.n 28))]) (hE b pl s2 q2 ev2 s q .none) (lE b v) .next (hE b pl s2 q2 ev2 s (q++[v]) .none) (lE b v):=
 jL (fun R R' H=>bm H) (D:=0) (d:=1) .nil M0 60 [] (L:=[q.length < lim]) (.cons (by exact dl M1) .nil) (by apply Jh b;kernel_rfl)
noncomputable def ee:List Nat:=[217,229,253]
noncomputable def iw:List Nat:=[217,229,253,241,265]
noncomputable def xS:List Nat:=[133,145,185,217,241,265]
noncomputable def bW (c:Nat):Prop:=c=217∨c=229∨c=253
noncomputable def bS (c:Nat):Prop:=c=217∨c=229∨c=253∨c=241∨c=265
theorem bW.mem {c:Nat} (h:bW c):c∈ee:=by rcases h with rfl|rfl|rfl<;>decide
theorem bS.mem {c:Nat} (h:bS c):c∈iw:=by rcases h with rfl|rfl|rfl|rfl|rfl<;>decide
noncomputable abbrev Jw (q:List V) (ev:V) (s:ES) (r:Bool):Prop:=jh [] 60 3 337 [] q ev s [] (.v (.bool r)) s E0 []
theorem dX {b:Bool} {q:List V} {r:Bool} (h:∀ s ev,Jw q ev s r):NG b q r:=fun s ev=>mF (D':=0) (d:=3) eY.nil 60 [] [] (by rfl) (h s ev)
theorem E9 {b:Bool}:NG b [] true:=dX fun s ev=>by kernel_rfl
theorem jF {b:Bool} {c:Nat} {fs:List (Nat×V)} {q:List V} (hc:c=133∨c=145∨c=185∨c=217∨c=241∨c=265):NG b (.inst c fs::q) false:=dX fun s ev=>by
 have hm:c∈xS:=by rcases hc with rfl|rfl|rfl|rfl|rfl|rfl<;>decide
 apply iP xS hm;kernel_rfl
theorem Eh {b:Bool}:NG b [.inst 165 f1] true:=dX fun s ev=>by kernel_rfl
theorem Eg {b:Bool} {c:Nat} (hc:bW c):NG b [.inst 165 f1,.inst c f2] false:=dX fun s ev=>by apply iP ee hc.mem;kernel_rfl
theorem E8 {b:Bool}:NG b [.inst 229 f1] true:=dX fun s ev=>by kernel_rfl
theorem E7 {b:Bool} {c:Nat} (hc:bW c):NG b [.inst 229 f1,.inst c f2] true:=dX fun s ev=>by apply iP ee hc.mem;kernel_rfl
theorem E6 {b:Bool}:NG b [.inst 229 f1,.inst 241 f2] false:=dX fun s ev=>by kernel_rfl
theorem E5 {b:Bool} {c d:Nat} (hc:bW c) (hd:bS d):NG b [.inst 229 f1,.inst c f2,.inst d f3] false:=dX fun s ev=>by apply lT ee iw hc.mem hd.mem;kernel_rfl
theorem Ef {b:Bool}:NG b [.inst 253 f1] true:=dX fun s ev=>by kernel_rfl
theorem Ee {b:Bool} {c:Nat} (hc:bW c):NG b [.inst 253 f1,.inst c f2] true:=dX fun s ev=>by apply iP ee hc.mem;kernel_rfl
theorem Ed {b:Bool}:NG b [.inst 253 f1,.inst 265 f2] false:=dX fun s ev=>by kernel_rfl
theorem Ec {b:Bool} {c d:Nat} (hc:(c=217∧bW d)∨((c=229∨c=253)∧bS d)):NG b [.inst 253 f1,.inst c f2,.inst d f3] true:=dX fun s ev=>by
 rcases hc with ⟨rfl,hd⟩|⟨hc,hd⟩
 ·exact by apply iP ee hd.mem;kernel_rfl
 ·have hm:c∈[229,253]:=by rcases hc with rfl|rfl<;>decide
  apply lT [229,253] iw hm hd.mem;kernel_rfl
theorem Ea {b:Bool} {c d e:Nat} {f4 :List (Nat×V)} (hc:bW c) (hd:bS d) (he:bS e):NG b [.inst 253 f1,.inst c f2,.inst d f3,.inst e f4] false:=dX fun s ev=>by apply F0 ee iw iw hc.mem hd.mem he.mem;kernel_rfl
theorem DZ {b:Bool} {d:Nat} (hd:bS d):NG b [.inst 229 f1,.inst 241 f2,.inst d f3] false:=dX fun s ev=>by apply iP iw hd.mem;kernel_rfl
theorem Eb {b:Bool} {d:Nat} (hd:bS d):NG b [.inst 253 f1,.inst 265 f2,.inst d f3] false:=dX fun s ev=>by apply iP iw hd.mem;kernel_rfl
inductive Tr where
 |leaf (k:Nat)|flow (k:Nat)|emp|seq (l:List Tr)|map (a b:Tr)
variable {B :Tr}
noncomputable def Tr.ctorIdx (x:Tr):Nat:=@Tr.casesOn (fun _=>Nat) x (fun _=>0) (fun _=>1) 2 (fun _=>3) (fun _ _=>4)
inductive Kd where
 |sc (k:Nat)|sq (t:Nat)|mp (t:Nat)|se|me|ds (b:Bool)|de (b:Bool)|ss|st
variable {r rest fut kq :List Kd}
noncomputable def Kd.ctorIdx (x:Kd):Nat:=@Kd.casesOn (fun _=>Nat) x (fun _=>0) (fun _=>1) (fun _=>2) 3 4 (fun _=>5) (fun _=>6) 7 8
mutual
noncomputable def a6:Tr→List Kd
 |.leaf k=>[.sc k]
 |.flow k=>[.sq 1,.sc k,.sc 0,.se]
 |.emp=>[.mp 2,.me]
 |.seq l=>.sq (match l with|[]=>2|_::_=>0)::(aE l++[.se])
 |.map a b=>.mp 0::(a6 a++(a6 b++[.me]))
noncomputable def aE:List Tr→List Kd
 |[]=>[]
 |x::l=>a6 x++aE l
end
mutual
noncomputable def wf:Tr→Prop
 |.leaf k=>k < 6
 |.flow k=>k < 5
 |.emp=>True
 |.seq l=>dc l
 |.map a b=>wf a∧wf b
noncomputable def dc:List Tr→Prop
 |[]=>True
 |x::l=>wf x∧dc l
end
mutual
noncomputable def ht:Tr→Nat
 |.leaf _=>0
 |.flow _=>0
 |.emp=>0
 |.seq l=>aO l
 |.map a b=>Nat.max (ht a) (ht b)+1
noncomputable def aO:List Tr→Nat
 |[]=>0
 |x::l=>Nat.max (ht x+1) (aO l)
end
noncomputable def bY (k:Nat):List Nat:=match k with|0=>[97]|1=>[98,32,99]|2=>[39,45,39]|3=>[39,100,39]|4=>[34,101,34]|_=>[124]
structure Bx where
 k:Nat
 h:List Nat
 r:List (List Nat)
variable {xa xb xc :Bx}
noncomputable def cC (l:List (List Nat)):List (List Nat):=l.map fun r=>[32,32]++r
noncomputable def tl (x:Bx):List Nat:=match x.k,x.r with|2,r::_=>32::r|3,r::_=>32::r|_,_=>x.h
noncomputable def bl (x:Bx):List (List Nat):=match x.k,x.r with|2,_::l=>cC l|3,_::l=>cC l|_,r=>cC r
noncomputable def sl (x:Bx):List (List Nat):=match x.k with|2=>x.r|_=>cC x.r
noncomputable def ij (x:Bx):Bool:=match x.k,x.r with|4,_=>true|_,_::_=>true|_,[]=>false
noncomputable def cH (a b:Bx):List (List Nat):=match ij a with
 |true=>((63::tl a)::bl a)++((58::tl b)::bl b)
 |false=>((a.h.tail++[58])++b.h)::sl b
mutual
noncomputable def ag:Tr→Bx
 |.leaf k=>⟨0,32::bY k,match k with|5=>[[120],[121]]|_=>[]⟩
 |.flow k=>⟨4,[32,91]++(bY k++([44,32]++([97]++[93]))),[]⟩
 |.emp=>⟨3,[32,123,125],[]⟩
 |.seq l=>match l with|[]=>⟨2,[32,91,93],[]⟩|_::_=>⟨2,[],bL l⟩
 |.map a b=>⟨3,[],cH (ag a) (ag b)⟩
noncomputable def bL:List Tr→List (List Nat)
 |[]=>[]
 |x::l=>((45::tl (ag x))::bl (ag x))++bL l
end
noncomputable def sp (n:Nat):List Nat:=List.replicate n 32
noncomputable def bp (n:Nat) (l:List (List Nat)):List Nat:=(l.map fun r=>sp n++(r++[10])).flatten
theorem C0 {n:Nat}:bp n []=[]:=rfl
theorem i3 {n:Nat} {r:List Nat} {l:List (List Nat)}:bp n (r::l)=sp n++(r++[10])++bp n l:=rfl
theorem nD {n:Nat} {a l:List (List Nat)}:bp n (a++l)=bp n a++bp n l:=by simp [bp]
theorem Ab {n:Nat}:sp (n+2)=sp n++[32,32]:=by unfold sp;refine aT (List.replicate_append_replicate ..) ?_;rfl
theorem nC {n:Nat} {l:List (List Nat)}:bp n (cC l)=bp (n+2) l:=by
 induction l with
 |nil=>rfl
 |cons r l ih=>
  refine (?_:bp n (([32,32]++r)::cC l)=_)
  (change i3;change i3;change ih;change Ab)
  simp
noncomputable def bA (out:List (List Nat)):List Nat:=out.reverse.flatten
theorem cV {p:List Nat}:bA (p::out)=bA out++p:=by simp [bA]
theorem sU {a :List (List Nat)}:bA (a++out)=bA out++bA a:=by unfold bA;rw [List.reverse_append,List.flatten_append]
inductive AE where|x (i:Nat)|a (l r:AE)|n
noncomputable def AE.den (e:List (List Nat)):AE→List Nat
 |.x i=>match bB e i with|some l=>l|none=>[]
 |.a l r=>l.den e++r.den e
 |.n=>[]
noncomputable def AE.fl:AE→List Nat→List Nat
 |.x i,k=>i::k
 |.a l r,k=>l.fl (r.fl k)
 |.n,k=>k
noncomputable def AE.cat (e:List (List Nat)):List Nat→List Nat
 |[]=>[]
 |i::r=>(AE.x i).den e++AE.cat e r
theorem AE.fl_ok (e:List (List Nat)):∀ (t:AE) (k:List Nat),AE.cat e (t.fl k)=t.den e++AE.cat e k
 |.x _,_=>rfl
 |.a l r,k=>(fl_ok e l (r.fl k)).trans ((Kq (l.den e++·) (fl_ok e r k)).trans (Kw ..).symm)
 |.n,_=>rfl
theorem AE.ok (e:List (List Nat)) (s t:AE) (h:s.fl []=t.fl []):s.den e=t.den e:=
 (Kt _).symm.trans ((fl_ok e s []).symm.trans ((Kq (AE.cat e) h).trans ((fl_ok e t []).trans (Kt _))))
noncomputable def nl (w:Bool):List Nat:=match w with|true=>[]|false=>[10]
noncomputable def vt (w:Bool) (out:List (List Nat)):List Nat:=bA out++nl w
noncomputable def sN (k:Nat) (imp sty:V):Prop:=∃ i0 i1,(k < 2→i0=true)∧(2≤k→i1=true)∧jZ imp 0=true∧jZ imp 1=true∧ea sty (.str [34])=some false∧tv sty=some false∧tv (ke imp 0)=some i0∧tv (ke imp 1)=some i1
noncomputable def sS (t:Nat) (fl:V):Prop:=∃ f,tv fl=some f∧(t=0→f=false)∧(t=1→f=true)
noncomputable def dD:Kd→V→Prop
 |.sc k,v=>∃ t imp sty m,t < 3∧sN k imp sty∧v=gV (cr t) imp sty m k
 |.sq u,v=>∃ t im m fl,t < 3∧tv im=some true∧sS u fl∧v=mB (cr t) im m fl
 |.mp u,v=>∃ t im m fl,t < 3∧tv im=some true∧sS u fl∧v=mD (cr t) im m fl
 |.se,v=>∃ fs,v=.inst 241 fs
 |.me,v=>∃ fs,v=.inst 265 fs
 |.ds e,v=>∃ m ex tg,v=oO m ex tg∧tv ex=some e∧tv tg=some false
 |.de e,v=>∃ m ex,v=ja m ex∧tv ex=some e
 |.ss,v=>∃ fs,v=.inst 133 fs
 |.st,v=>∃ fs,v=.inst 145 fs
noncomputable def cls:Kd→Nat
 |.sc _=>217|.sq _=>229|.mp _=>253|.se=>241|.me=>265|.ds _=>165|.de _=>185|.ss=>133|.st=>145
theorem rZ {k:Kd} {v:V} (h:dD k v):∃ fs,v=.inst (cls k) fs:=by
 cases k with
 |sc=>(refine kl h ?_;(try clear h);rintro t imp sty m _ _ rfl);exact ba _ rfl
 |sq=>(refine fu h ?_;(try clear h);rintro t imp sty m _ _ _ rfl);exact ba _ rfl
 |mp=>(refine fu h ?_;(try clear h);rintro t imp sty m _ _ _ rfl);exact ba _ rfl
 |se=>exact h
 |me=>exact h
 |ds=>(refine jb h ?_;(try clear h);rintro m ex tg rfl _);exact ba _ rfl
 |de=>(refine aN h ?_;(try clear h);rintro m ex rfl _);exact ba _ rfl
 |ss=>exact h
 |st=>exact h
noncomputable def La (rest:List Kd) (q:List V):Prop:=q.length≤10∧match rest with|[]=>True|k::_=>∃ v q',q=v::q'∧dD k v
noncomputable def wu:Kd→Bool|.sq _=>true|.mp _=>true|.ds _=>true|_=>false
noncomputable def hN (k:Kd) (rest:List Kd) (q:List V):Prop:=q.length≤10∧(wu k=true→La rest q)
noncomputable def gZ (b:Bool) (k:Kd) (rest:List Kd) (s s':ES):Prop:=∀ v q,dD k v→hN k rest q→PG b v q s s'
inductive Ch (b:Bool):List Kd→List Kd→ES→ES→Prop where
 |nil {rest:List Kd} {s:ES}:Ch b [] rest s s
 |cons {k:Kd} {ks rest:List Kd} {s s1 s2:ES}:gZ b k (ks++rest) s s1→Ch b ks rest s1 s2→Ch b (k::ks) rest s s2
theorem Ch.app {b:Bool}:∀ {ks ks' rest:List Kd} {s s1 s2:ES},Ch b ks (ks'++rest) s s1→Ch b ks' rest s1 s2→Ch b (ks++ks') rest s s2
 |[],_,_,_,_,_,a,c=>by cases a;exact c
 |k::ks,ks',rest,s,s1,s2,a,c=>by
  cases a with
  |cons x y=>exact .cons (by refine (?_:gZ b k ((ks++ks')++rest) _ _);change Kw;exact x) (Ch.app y c)
theorem Ch.one {b:Bool} {k:Kd} {s :ES} (h:gZ b k rest s s'):Ch b [k] rest s s':=.cons h .nil
structure CC where
 can:V
 au:V
 bw:Int
 ok:tv can=some false
 wide:80≤bw
variable {C :CC}
structure J where
 rc:Bool
 sc:Bool
 mc:Bool
 kc:Bool
 ln:Int
 col:Int
variable {j :J}
noncomputable def jG (C:CC) (pt an:V) (st:Nat) (stk:List Nat) (ind:V) (inds:List V) (fl:Int) (ws ii:Bool) (j:J) (out:List (List Nat)):ES:=
 ⟨st,stk,ind,inds,fl,j.rc,j.sc,j.mc,j.kc,j.ln,j.col,ws,ii,C.can,C.au,C.bw,bu,pt,an,out⟩
noncomputable abbrev mk (C:CC) (st:Nat) (stk:List Nat) (ind:V) (inds:List V) (ws ii:Bool) (j:J) (out:List (List Nat)):ES:=jG C .none .none st stk ind inds 0 ws ii j out
structure Rm (m:Nat) (stk:List Nat) (inds:List V) (out:List (List Nat)):Prop where
 o:out.length+m≤1000000
 s:stk.length≤30
 i:inds.length≤30
theorem bG {tag fl tg :V} {q:List V} {m:Nat} (r:Rm m stk inds out) (hq:q.length≤10) (hc:col≤30):bc ⟨C.can,imp,sty,tag,fl,tg,col,C.bw,out,stk,inds,q,[]⟩:=by
 have hl:lim=1048576:=rfl;obtain ⟨h1,h2,h3⟩:=r;exact ⟨C.ok,by refine (?_:out.length+60≤lim);lia,by refine (?_:stk.length+10≤lim);lia,by refine (?_:inds.length+10≤lim);lia,by refine (?_:q.length+10≤lim);lia,hc,C.wide⟩
inductive eJ:Nat→Bool→Bool→Int→Prop where
 |mid {n:Nat} {c:Int}:eJ n false false c
 |nl {n:Nat}:eJ n true true 0
 |two:eJ 2 false true 1
 |four:eJ 4 false true 3
noncomputable def ls (n:Nat) (ws ii:Bool) (out:List (List Nat)):List Nat:=match ii with|false=>bA out++[10]++sp n|true=>(match ws with|true=>bA out++sp n|false=>bA out++[32])
theorem mW {n:Nat}:bA (i6 n out)=bA out++sp n:=by
 induction n using Nat.casesOn with
 |zero=>simp [i6,sp]
 |succ n=>exact cV
theorem uR {n:Nat}:(i6 n out).length≤out.length+1:=by induction n using Nat.casesOn<;>simp [i6]
theorem kM {b:Bool} {n:Nat} {m:Nat} (h:eJ n ws ii j.col) (hn:n=0∨n=2∨n=4) (r:Rm m stk inds out):
  ∃ ln' out',(∀ ev q,q.length≤10→EG 10 b 665 [] q ev (jG C pt an st stk (.int n) inds 0 ws ii j out) (.v .none) ⟨st,stk,.int n,inds,0,j.rc,j.sc,j.mc,j.kc,ln',n,true,true,C.can,C.au,C.bw,bu,pt,an,out'⟩)∧bA out'=ls n ws ii out∧out'.length≤out.length+2:=by
 have io:sQ (.int n) n:=by
  clear h;rcases hn with rfl|rfl|rfl
  ·exact .inr (.inl ⟨rfl,rfl⟩)
  ·exact .inr (.inr (.inl ⟨rfl,rfl⟩))
  ·exact .inr (.inr (.inr ⟨rfl,rfl⟩))
 obtain ⟨rc,sc,mc,kc,ln,col⟩:=j;cases h with
 |mid=>exact cP _ _ (fun ev q hq=>(pG io (bG r hq M0)).mono M0) (by (change mW;change cV);rfl) (by have:=uR (n:=n) (out:=[10]::out);simp at this;assumption)
 |nl=>exact cP _ _ (fun ev q hq=>(sV io (bG r hq M0)).mono M0) (by change mW;rfl) (by have:=uR (n:=n) (out:=out);exact KK M1)
 |two=>exact cP _ _ (fun ev q hq=>(sW (.inl ⟨rfl,rfl⟩) (bG r hq M0)).mono M0) (by change cV;rfl) (by simp)
 |four=>exact cP _ _ (fun ev q hq=>(sW (.inr ⟨rfl,rfl⟩) (bG r hq M0)).mono M0) (by change cV;rfl) (by simp)
theorem Rm.to {m m' a:Nat} (r:Rm m stk inds out) (h:out'.length≤out.length+a) (l:m'+a≤m):Rm m' stk inds out':=⟨by have:=r.o;lia,r.s,r.i⟩
theorem vV {n:Nat} {w:Bool}:ls n w w out=vt w out++sp n:=by induction w using Bool.casesOn<;>simp [ls,vt,nl]
theorem xk {n:Nat} {w:Bool} (h:w=true→j.col=0):eJ n w w j.col:=by
 induction w using Bool.casesOn with
 |false=>exact .mid
 |true=>change h rfl;exact .nl
theorem dA:∀ (T:Tr),∃ k ks,a6 T=k::ks∧bW (cls k)
 |.leaf k=>⟨_,_,by unfold a6;rfl,.inl rfl⟩
 |.flow k=>⟨_,_,by unfold a6;rfl,.inr (.inl rfl)⟩
 |.emp=>⟨_,_,by unfold a6;rfl,.inr (.inr rfl)⟩
 |.seq l=>⟨_,_,by unfold a6;rfl,.inr (.inl rfl)⟩
 |.map a b=>⟨_,_,by unfold a6;rfl,.inr (.inr rfl)⟩
noncomputable def fL (ii:Bool) (t:List Nat) (n:Nat) (x:Bx):List Nat:=match ii with|true=>t++(tl x++[10])++bp n (bl x)|false=>t++(x.h++[10])++bp n (sl x)
inductive cF (b:Bool) (ks rest:List Kd) (s0:ES) (C:CC) (st:Nat) (stk:List Nat) (ind:V) (inds:List V) (d N:Nat) (R:List Nat):Prop
 |en (j':J) (w:Bool) (out':List (List Nat)):Ch b ks rest s0 (mk C st stk ind inds w w j' out')→(w=true→j'.col=0)→out'.length+d≤N→vt w out'=R→cF b ks rest s0 C st stk ind inds d N R
theorem cF.k {b:Bool} {ks :List Kd} {d :Nat} {R:List Nat} {P:Prop} (h:cF b ks rest s0 C st stk ind inds d N R)
  (k:∀ j' w out',Ch b ks rest s0 (mk C st stk ind inds w w j' out')→(w=true→j'.col=0)→out'.length+d≤N→vt w out'=R→P):P:=match h with|.en a b c d e f g=>k a b c d e f g
noncomputable def cK (b:Bool) (T:Tr):Prop:=∀ (C:CC) (n st r:Nat) (ii sc mc:Bool) (stk:List Nat) (inds:List V) (rest:List Kd) (j:J) (out:List (List Nat)),
 (n=0∨n=2∨n=4)→n+2 * ht T≤4→(ii=false→mc=true)→(ii=true→j.col=n+1)→j.col≤10→Rm (20 * (a6 T).length - 3) (r::stk) inds out→stk.length+3 * ht T+3≤30→inds.length+3 * ht T+3≤30→
 ∃ k ks s2,a6 T=k::ks∧
  (∀ pt v q,dD k v→hN k (ks++rest) q→EG 10 b 403 [.v (.bool false),.v (.bool sc),.v (.bool mc),.v (.bool false)] q v (jG C pt .none st (r::stk) (.int n) inds 0 false ii j out) (.v .none) s2)∧
  cF b ks rest s2 C r stk (.int n) inds 4 (out.length+20 * (a6 T).length) (fL ii (bA out) n (ag T))
theorem cK.k {b:Bool} {T:Tr} (h:cK b T) (C:CC) (n st r:Nat) (ii sc mc:Bool) (stk:List Nat) (inds:List V) (rest:List Kd) (j:J) (out:List (List Nat)) {P:Prop}
 (h1:n=0∨n=2∨n=4) (h2:n+2 * ht T≤4) (h3:ii=false→mc=true) (h4:ii=true→j.col=n+1) (h5:j.col≤10) (h6:Rm (20 * (a6 T).length - 3) (r::stk) inds out) (h7:stk.length+3 * ht T+3≤30) (h8:inds.length+3 * ht T+3≤30)
 (K:∀ k ks s2 j' w out',a6 T=k::ks→(∀ pt v q,dD k v→hN k (ks++rest) q→EG 10 b 403 [.v (.bool false),.v (.bool sc),.v (.bool mc),.v (.bool false)] q v (jG C pt .none st (r::stk) (.int n) inds 0 false ii j out) (.v .none) s2)→Ch b ks rest s2 (mk C r stk (.int n) inds w w j' out')→(w=true→j'.col=0)→out'.length+4≤out.length+20 * (a6 T).length→vt w out'=fL ii (bA out) n (ag T)→P):P:=
 cJ (h C n st r ii sc mc stk inds rest j out h1 h2 h3 h4 h5 h6 h7 h8) fun k ks s2 a b c=>c.k fun j' w o=>K k ks s2 j' w o a b
noncomputable def yy (b:Bool) (pQ:Nat) (h:Nat) (ks:List Kd) (rows:List (List Nat)):Prop:=∀ (C:CC) (n r:Nat) (a:V) (ws ii:Bool) (stk:List Nat) (inds:List V) (rest:List Kd) (j:J) (out:List (List Nat)),
 (n=0∨n=2∨n=4)→n+2 * h≤4→eJ n ws ii j.col→Rm (20 * ks.length) (r::stk) (a::inds) out→stk.length+3 * h+6≤30→inds.length+3 * h+6≤30→
 cF b ks rest (mk C pQ (r::stk) (.int n) (a::inds) ws ii j out) C r stk a inds 0 (out.length+20 * ks.length) (match rows with|[]=>[]|r0::rs=>ls n ws ii out++(r0++[10])++bp n rs)
theorem ma {k:Nat} (h:sN k imp sty) (E:TE) (e1:E.imp=imp) (e2:E.sty=sty):∃ i0 i1,(k < 2→i0=true)∧(2≤k→i1=true)∧bj ((iY i0 i1).map (tk E)):=by
 obtain ⟨i0,i1,h1,h2,h3,h4,h5,h6,h7,h8⟩:=h;subst e1 e2;exact cP i0 i1 h1 h2 (.cons h3 (.cons h4 (.cons h5 (.cons h6 (.cons h7 (.cons h8 .nil))))))
theorem wF {n:Nat} (hn:n=0∨n=2∨n=4):mV (n:Int) n:=by
 rcases hn with rfl|rfl|rfl
 ·exact .inl ⟨rfl,rfl⟩
 ·exact .inr (.inl ⟨rfl,rfl⟩)
 ·exact .inr (.inr ⟨rfl,rfl⟩)
theorem JT (k:Nat) (h:k < 6):cY k=true→lc k true 0=0:=by
 refine iV h ?_ ?_ ?_ ?_ ?_ ?_
 ·intro h;exact ac h
 ·intro h;exact ac h
 ·intro h;exact ac h
 ·intro h;exact ac h
 ·intro h;exact ac h
 ·intro _;rfl
theorem o7 (k:Nat) (w:Bool) (n:Nat):(lp k w n).length≤8:=by
 unfold lp
 split<;>(try split)<;>simp
theorem w7 {k n:Nat} (h:k < 6):vt (cY k) (lp k true n++out)=bA out++(32::bY k++[10])++bp n (cC (ag (.leaf k)).r):=by
 have c:bA (lp k true n)++nl (cY k)=(32::bY k++[10])++bp n (cC (ag (.leaf k)).r):=by
  dsimp only [ag];refine iV h ?_ ?_ ?_ ?_ ?_ ?_
  ·rfl
  ·rfl
  ·rfl
  ·rfl
  ·rfl
  ·
   change nC;simp [bA,nl,cY,lp,bY,bp,sp]
 exact (Kq (·++nl (cY k)) sU).trans ((Kw ..).trans ((Kq (bA out++·) c).trans (Kw ..).symm))
set_option tactic.hygienic true in
theorem iG {x:Bx} (h:x.k=0∨x.k=4∨x.r=[]):tl x=x.h∧bl x=cC x.r:=by
 obtain ⟨k,hd,r⟩:=x;dsimp only [tl,bl];rcases h with h|h|h
 ·have h:k=0:=h;subst h;exact ⟨rfl,rfl⟩
 ·have h:k=4:=h;subst h;exact ⟨rfl,rfl⟩
 ·have h:r=[]:=h;subst h;constructor<;>split<;>first|rfl|(rename_i e;contradiction)
theorem Bg {x:Bx} (h:x.k=0∨x.k=4∨x.r=[]):sl x=cC x.r:=by
 obtain ⟨k,hd,r⟩:=x;unfold sl;rcases h with h|h|h
 ·have h:k=0:=h;subst h;rfl
 ·have h:k=4:=h;subst h;rfl
 ·have h:r=[]:=h;subst h;dsimp only
  split<;>rfl
theorem oH {x:Bx} {n:Nat} {t:List Nat} (h:x.k=0∨x.k=4∨x.r=[]):fL ii t n x=t++(x.h++[10])++bp n (cC x.r):=by
 unfold fL;induction ii using Bool.casesOn with
 |true=>dsimp only;(change (iG h).1;change (iG h).2;with_reducible rfl)
 |false=>dsimp only;(change Bg h;with_reducible rfl)
theorem I3 {b:Bool} {k:Nat} (hk:k < 6):cK b (.leaf k):=by
 intro C n st r ii sc mc stk inds rest j out hn hh hm hc hcol R hs hi;clear hc;obtain ⟨rc,sc0,mc0,kc0,ln,col⟩:=j;refine ⟨.sc k,[],⟨r,stk,.int n,inds,0,false,sc,mc,false,dN k ln,lc k true col,cY k,cY k,C.can,C.au,C.bw,bu,.none,.none,lp k true n++out⟩,by unfold a6;rfl,?_,.en ⟨false,sc,mc,false,dN k ln,lc k true col⟩ (cY k) _ .nil ?_ ?_ ?_⟩
 ·rintro pt v q ⟨t,imp,sty,m,ht,hl,rfl⟩ hla
  (refine be (ma hl ⟨C.can,imp,sty,cr t,.none,.none,col,C.bw,out,stk,inds,q,[]⟩ rfl rfl) ?_;rintro i0 i1 a1 a2 HE)
  have R':Rm 0 stk inds out:=⟨by have:=R.o;exact dz M1,by have:=R.s;simp at this;exact dz M1,R.i⟩
  have H:bc ⟨C.can,imp,sty,cr t,.none,.none,col,C.bw,out,stk,inds,q,[]⟩:=bG R' hla.1 (by have:col≤10:=hcol;exact Int.le_trans M1 M0);have hh:(k=0∧i0=true)∨(k=1∧i0=true)∨(k=2∧i1=true)∨(k=3∧i1=true)∨(k=4∧i1=true)∨(k=5∧i1=true∧mV (n:Int) n):=by
   have e3:=wF hn;rcases (by decide:∀ k,k < 6→k=0∨k=1∨k=2∨k=3∨k=4∨k=5) k hk with e|e|e|e|e|e
   ·exact .inl ⟨e,a1 (by change e;decide)⟩
   ·exact .inr (.inl ⟨e,a1 (by change e;decide)⟩)
   ·exact .inr (.inr (.inl ⟨e,a2 (by change e;decide)⟩))
   ·exact .inr (.inr (.inr (.inl ⟨e,a2 (by change e;decide)⟩)))
   ·exact .inr (.inr (.inr (.inr (.inl ⟨e,a2 (by change e;decide)⟩))))
   ·exact .inr (.inr (.inr (.inr (.inr ⟨e,a2 (by change e;decide),e3⟩))))
  clear hm;induction ii using Bool.casesOn with
  |true=>exact Ig hh H HE
  |false=>exact I9 hh H HE
 ·intro hw;clear hh R hs hi;obtain rfl:=(by decide:∀ k,k < 6→cY k=true→k=5) k hk hw;rfl
 ·have:=o7 k true n;change Kn;have e:(a6 (.leaf k)).length=1:=by dsimp only [a6];rfl
  lia
 ·have e:ag (.leaf k)=⟨0,32::bY k,(ag (.leaf k)).r⟩:=by unfold ag;rfl
  (change oH (.inl (by (refine aU (e ..) ?_;with_reducible rfl)));change w7 hk;change e;with_reducible rfl)
theorem eg {b:Bool} {k:Kd} {s :ES} (hs:s.st=f) (hf:iC f as)
  (h:∀ v q,dD k v→hN k rest q→EG 14 b f as q v s (.v .none) s'):gZ b k rest s s':=fun v q hv hl=>fE hs hf (h v q hv hl)
noncomputable def eI (ws ii:Bool) (ind:V) (ind':V) (i:Int):Prop:=(ws=false∧ii=true∧ind=.int i∧ind'=.int (i+2))∨(ws=false∧ii=false∧ind=.int i∧ind'=.int (i+2))∨(ws=true∧ii=true∧ind=.int i∧ind'=.int (i+2))∨(ws=false∧ii=false∧ind=.none∧ind'=.int 2)∨(ws=true∧ii=true∧ind=.none∧ind'=.int 2)
noncomputable def ms (C:CC) (st:Nat) (stk:List Nat) (ind ind':V) (inds:List V) (ch:Nat) (ws:Bool) (j:J) (out:List (List Nat)):ES:=
 ⟨st,stk,ind',ind::inds,1,j.rc,j.sc,j.mc,j.kc,j.ln,dH ws j.col,true,false,C.can,C.au,C.bw,bu,.none,.none,cm ch ws out⟩
theorem kt {im fl:V} {fb:Bool} (h1:tv im=some true) (h2:tv fl=some fb) (E:TE) (e1:E.imp=im) (e2:E.fl=fl):bj ([Tk.im true,Tk.fl fb].map (tk E)):=by
 subst e1 e2;exact .cons h1 (.cons h2 .nil)
theorem lA {b:Bool} {st i ind ind' ws ii rc sc mc kc} {u:Nat} {m:Nat} (hf:eI ws ii ind ind' i) (hu:u=1∨(u=2∧∃ r',rest=.se::r')) (R:Rm m stk inds out) {v:V} {q:List V} (hv:dD (.sq u) v) (hl:hN (.sq u) rest q):
  EG 10 b 403 [.v (.bool rc),.v (.bool sc),.v (.bool mc),.v (.bool kc)] q v (jG C pt .none st stk ind inds 0 ws ii j out) (.v .none) (ms C 431 stk ind ind' inds 91 ws { j with rc:=rc,sc:=sc,mc:=mc,kc:=kc } out):=by
 (refine fu hv ?_;(try clear hv);rintro t im mm fl ht h1 ⟨fb,h2,h3,h4⟩ rfl)
 refine I7 hf fb ?_ (bG R hl.1 M0) (kt h1 h2 _ rfl rfl);clear h3;rcases hu with rfl|⟨rfl,r',rfl⟩
 ·exact .inl (h4 rfl)
 ·clear h2 h4;induction fb using Bool.casesOn with
  |true=>exact .inl rfl
  |false=>
   obtain ⟨v',q',rfl,fs,rfl⟩:=(hl.2 rfl).2;exact .inr ⟨rfl,fs,q',rfl⟩
theorem qQ {b:Bool} {st i ind ind' ws ii rc sc mc kc} {m:Nat} (hf:eI ws ii ind ind' i) (hu:∃ r',rest=.me::r') (R:Rm m stk inds out) {v:V} {q:List V} (hv:dD (.mp 2) v) (hl:hN (.mp 2) rest q):
  EG 10 b 403 [.v (.bool rc),.v (.bool sc),.v (.bool mc),.v (.bool kc)] q v (jG C pt .none st stk ind inds 0 ws ii j out) (.v .none) (ms C 452 stk ind ind' inds 123 ws { j with rc:=rc,sc:=sc,mc:=mc,kc:=kc } out):=by
 (refine fu hv ?_;(try clear hv);rintro t im mm fl ht h1 ⟨fb,h2,h3,h4⟩ rfl)
 refine I8 hf fb ?_ (bG R hl.1 M0) (kt h1 h2 _ rfl rfl)
 (refine ay hu ?_;(try clear hu);rintro r' rfl)
 clear h2 h3 h4;induction fb using Bool.casesOn with
 |true=>exact .inl rfl
 |false=>
  obtain ⟨v',q',rfl,fs,rfl⟩:=(hl.2 rfl).2;exact .inr ⟨rfl,fs,q',rfl⟩
theorem ql {b:Bool} {r:Nat} {m:Nat} (R:Rm (m+2) (r::stk) inds out) (hi:inds.length+1≤30):
  gZ b .se rest (ms C 431 (r::stk) ind ind' inds ch ws j out) (mk C r stk ind inds false false { j with col:=dH ws j.col+1 } ([93]::cm ch ws out)):=
 eg (f:=431) (as:=[]) rfl rfl fun v q hv hl=>by
  (refine ay hv ?_;(try clear hv);rintro fs rfl)
  exact (Gd (bG (m:=0) ⟨by have:=R.o;have:(cm ch ws out).length=out.length+1:=(by induction ws using Bool.casesOn<;>rfl);lia,by have:=R.s;simp at this;exact KK M1,by exact dz M1⟩ hl.1 M0)).mono M0
theorem qm {b:Bool} {r:Nat} {m:Nat} (R:Rm (m+2) (r::stk) inds out) (hi:inds.length+1≤30):
  gZ b .me rest (ms C 452 (r::stk) ind ind' inds ch ws j out) (mk C r stk ind inds false false { j with col:=dH ws j.col+1 } ([125]::cm ch ws out)):=
 eg (f:=452) (as:=[]) rfl rfl fun v q hv hl=>by
  (refine ay hv ?_;(try clear hv);rintro fs rfl)
  exact (G8 (bG (m:=0) ⟨by have:=R.o;have:(cm ch ws out).length=out.length+1:=(by induction ws using Bool.casesOn<;>rfl);lia,by have:=R.s;simp at this;exact KK M1,by exact dz M1⟩ hl.1 M0)).mono M0
theorem iq:bA (cm ch ws out)=bA out++(match ws with|true=>[ch]|false=>[32,ch]):=by induction ws using Bool.casesOn<;>exact cV
theorem I6 {b:Bool}:cK b (.seq []):=by
 intro C n st r ii sc mc stk inds rest j out hn hh hm hc hcol R hs hi;have hf:eI false ii (.int n) (.int (n+2)) n:=by clear hm hc;induction ii using Bool.casesOn<;>simp [eI]
 have e:(a6 (.seq [])).length=2:=by dsimp only [a6,aE];rfl
 rw [e] at R;refine ⟨.sq 2,[.se],_,by dsimp only [a6,aE];rfl,fun pt v q hv hl=>lA hf (.inr ⟨rfl,rest,rfl⟩) R hv hl,.en _ false _ (.one (ql (m:=0) ⟨by have:=R.o;exact dn M1 _,R.s,R.i⟩ (by exact dn M1 _))) (fun h=>(nomatch h)) ?_ ?_⟩
 ·change e;simp [cm]
 ·have e:ag (.seq [])=⟨2,[32,91,93],[]⟩:=by unfold ag;rfl
  (change e;change oH (.inr (.inr rfl)))
  dsimp only [vt]
  (change cV;change iq)
  exact AE.ok [_,[32],[91],[93],[10]] (.a (.a (.a (.x 0) (.a (.x 1) (.x 2))) (.x 3)) (.x 4)) (.a (.a (.x 0) (.a (.a (.x 1) (.a (.x 2) (.x 3))) (.x 4))) .n) rfl
theorem I5 {b:Bool}:cK b .emp:=by
 intro C n st r ii sc mc stk inds rest j out hn hh hm hc hcol R hs hi;have hf:eI false ii (.int n) (.int (n+2)) n:=by clear hm hc;induction ii using Bool.casesOn<;>simp [eI]
 have e:(a6 .emp).length=2:=by dsimp only [a6];rfl
 rw [e] at R;refine ⟨.mp 2,[.me],_,by unfold a6;rfl,fun pt v q hv hl=>qQ hf ⟨rest,rfl⟩ R hv hl,.en _ false _ (.one (qm (m:=0) ⟨by have:=R.o;exact dn M1 _,R.s,R.i⟩ (by exact dn M1 _))) (fun h=>(nomatch h)) ?_ ?_⟩
 ·change e;simp [cm]
 ·have e:ag .emp=⟨3,[32,123,125],[]⟩:=by unfold ag;rfl
  (change e;change oH (.inr (.inr rfl)))
  dsimp only [vt]
  (change cV;change iq)
  exact AE.ok [_,[32],[123],[125],[10]] (.a (.a (.a (.x 0) (.a (.x 1) (.x 2))) (.x 3)) (.x 4)) (.a (.a (.x 0) (.a (.a (.x 1) (.a (.x 2) (.x 3))) (.x 4))) .n) rfl
theorem vU {k:Nat} (h:k < 5):cY k=false:=by
 refine jP h ?_ ?_ ?_ ?_ ?_
 ·rfl
 ·rfl
 ·rfl
 ·rfl
 ·rfl
theorem rx {k:Nat} {w:Bool} {c:Int} (h:k < 5):lc k w c≤c+4∧c≤lc k w c:=by
 refine jP h ?_ ?_ ?_ ?_ ?_
 ·induction w using Bool.casesOn<;>(constructor<;>(simp only [lc];(first|simp|lia)))
 ·induction w using Bool.casesOn<;>(constructor<;>(simp only [lc];lia))
 ·induction w using Bool.casesOn<;>(constructor<;>(simp only [lc];lia))
 ·induction w using Bool.casesOn<;>(constructor<;>(simp only [lc];lia))
 ·induction w using Bool.casesOn<;>(constructor<;>(simp only [lc];lia))
theorem vX {k n:Nat} (h:k < 5):bA (lp k false n++out)=bA out++bY k:=by
 change sU;refine jP h ?_ ?_ ?_ ?_ ?_
 ·rfl
 ·rfl
 ·rfl
 ·rfl
 ·rfl
theorem w8 {k:Nat} {i0 i1:Bool} (h:k < 5) (a1:k < 2→i0=true) (a2:2≤k→i1=true):(k=0∧i0=true)∨(k=1∧i0=true)∨(k=2∧i1=true)∨(k=3∧i1=true)∨(k=4∧i1=true):=by
 revert a1 a2;refine jP h ?_ ?_ ?_ ?_ ?_
 ·intro a1 a2;exact .inl ⟨rfl,a1 M0⟩
 ·intro a1 a2;exact .inr (.inl ⟨rfl,a1 M0⟩)
 ·intro a1 a2;exact .inr (.inr (.inl ⟨rfl,a2 M0⟩))
 ·intro a1 a2;exact .inr (.inr (.inr (.inl ⟨rfl,a2 M0⟩)))
 ·intro a1 a2;exact .inr (.inr (.inr (.inr ⟨rfl,a2 M0⟩)))
theorem wU {b:Bool} {k r:Nat} {i:Int} (hk:k < 5) (R:Rm 77 (r::stk) inds out) (hs:stk.length+2≤30) (hi:inds.length+1≤30) (hc:j.col≤10):
  ∃ j' out',Ch b [.sc k,.sc 0,.se] rest (ms C 431 (r::stk) ind (.int i) inds 91 ws j out) (mk C r stk ind inds false false j' out')∧bA out'=bA (cm 91 ws out)++(bY k++([44,32]++([97]++[93])))∧out'.length≤out.length+14:=by
 obtain ⟨rc,sc,mc,kc,ln,col⟩:=j;have hcol:col≤10:=hc;have c0:dH ws col≤col+2∧col≤dH ws col:=by induction ws using Bool.casesOn<;>(unfold dH;dsimp only;lia)
 have o0:(cm 91 ws out).length=out.length+1:=by clear c0;induction ws using Bool.casesOn<;>rfl
 have l1:=rx (w:=false) (c:=dH ws col) hk;have l2:=rx (k:=0) (w:=true) (c:=lc k false (dH ws col)+1) M0;have p1:=o7 k false 0;have q1:=R.o;have q2:=R.s;have q3:=R.i;refine cP ⟨false,true,false,false,dN 0 (dN k ln),lc 0 true (lc k false (dH ws col)+1)+1⟩ ([93]::(lp 0 true 0++([44]::(lp k false 0++cm 91 ws out)))) (.cons (s1:=⟨438,r::stk,.int i,ind::inds,1,false,true,false,false,dN k ln,lc k false (dH ws col),false,false,C.can,C.au,C.bw,bu,.none,.none,lp k false 0++cm 91 ws out⟩) (eg (f:=431) (as:=[]) rfl rfl fun v q hv hl=>?_) (.cons (s1:=⟨438,r::stk,.int i,ind::inds,1,false,true,false,false,dN 0 (dN k ln),lc 0 true (lc k false (dH ws col)+1),false,false,C.can,C.au,C.bw,bu,.none,.none,lp 0 true 0++([44]::(lp k false 0++cm 91 ws out))⟩) (eg (f:=438) (as:=[]) rfl rfl fun v q hv hl=>?_) (.one (eg (f:=438) (as:=[]) rfl rfl fun v q hv hl=>?_)))) ?_ ?_;rotate_left 3
 ·(change cV;refine aU (show lp 0 true 0++([44]::(lp k false 0++cm 91 ws out))=[97]::[32]::[44]::(lp k false 0++cm 91 ws out) from rfl) ?_;change cV;change cV;change cV;change vX hk)
  exact AE.ok [_,_,[44],[32],[97],[93]] (.a (.a (.a (.a (.a (.x 0) (.x 1)) (.x 2)) (.x 3)) (.x 4)) (.x 5)) (.a (.x 0) (.a (.x 1) (.a (.a (.x 2) (.x 3)) (.a (.x 4) (.x 5))))) rfl
 ·have:(lp 0 true 0).length=2:=rfl;simp only [Ko,Kn];lia
 ·(refine kl hv ?_;(try clear hv);rintro t imp sty m ht hl' rfl)
  have R':∀ l,Rm 0 (r::l) (ind::inds) (cm 91 ws out)→True:=fun _ _=>trivial;have H:bc ⟨C.can,imp,sty,cr t,.none,.none,dH ws col,C.bw,cm 91 ws out,r::stk,ind::inds,q,[]⟩:=bG (m:=0) ⟨by lia,q2,by simp;exact L2 M1⟩ hl.1 M2
  (refine be (ma hl' ⟨C.can,imp,sty,cr t,.none,.none,dH ws col,C.bw,cm 91 ws out,r::stk,ind::inds,q,[]⟩ rfl rfl) ?_;rintro i0 i1 a1 a2 HE)
  have e:=Ie (b:=b) (q:=q) (st:=431) (t:=438) (i:=i) (rc0:=rc) (sc0:=sc) (mc0:=mc) (kc0:=kc) (ln:=ln) (au:=C.au) (tp:=bu) (pt:=.none) (m:=m) (n:=0) (sc:=true) (mc:=false) (w8 hk a1 a2) H HE;rw [vU hk] at e;exact (Ge e (bG (m:=0) ⟨by lia,q2,by simp;exact L2 M1⟩ hl.1 M2)).mono M0
 ·(refine kl hv ?_;(try clear hv);rintro t imp sty m ht hl' rfl)
  have hlen:(lp k false 0++cm 91 ws out).length≤out.length+9:=by change Kn;lia
  have H:bc ⟨C.can,imp,sty,cr t,.none,.none,lc k false (dH ws col)+1,C.bw,[44]::(lp k false 0++cm 91 ws out),r::stk,ind::inds,q,[]⟩:=bG (m:=0) ⟨by change Ko;lia,q2,by simp;exact L2 M1⟩ hl.1 M2
  (refine be (ma hl' ⟨C.can,imp,sty,cr t,.none,.none,lc k false (dH ws col)+1,C.bw,[44]::(lp k false 0++cm 91 ws out),r::stk,ind::inds,q,[]⟩ rfl rfl) ?_;rintro i0 i1 a1 a2 HE)
  have e:=Ic (b:=b) (q:=q) (st:=438) (t:=438) (i:=i) (rc0:=false) (sc0:=true) (mc0:=false) (kc0:=false) (ln:=dN k ln) (au:=C.au) (tp:=bu) (pt:=.none) (m:=m) (n:=0) (sc:=true) (mc:=false) ⟨rfl,a1 M0⟩ H HE;exact (Gc e (bG (m:=0) ⟨by lia,q2,by simp;exact L2 M1⟩ hl.1 M2)).mono M0
 ·(refine ay hv ?_;(try clear hv);rintro fs rfl)
  have hlen:(lp 0 true 0++([44]::(lp k false 0++cm 91 ws out))).length≤out.length+12:=by
   have:(lp 0 true 0).length=2:=rfl;simp only [Ko,Kn];lia
  exact (Gb (bG (m:=0) ⟨by lia,by simp at q2;exact dz M1,by assumption⟩ hl.1 M0)).mono M0
theorem I4 {b:Bool} {k:Nat} (hk:k < 5):cK b (.flow k):=by
 intro C n st r ii sc mc stk inds rest j out hn hh hm hc hcol R hs hi;have hf:eI false ii (.int n) (.int (n+2)) n:=by clear hm hc;induction ii using Bool.casesOn<;>simp [eI]
 have e:(a6 (.flow k)).length=4:=by dsimp only [a6];rfl
 rw [e] at R ⊢
 (refine be (wU (b:=b) (C:=C) (ind:=.int n) (i:=n+2) (ws:=false) (j:={ j with rc:=false,sc:=sc,mc:=mc,kc:=false }) (rest:=rest) hk R (by exact dn M1 _) (by exact dn M1 _) hcol) ?_;rintro j' out' h1 h2 h3)
 refine ⟨.sq 1,[.sc k,.sc 0,.se],_,by unfold a6;rfl,fun pt v q hv hl=>lA hf (.inl rfl) R hv hl,.en j' false out' h1 (fun h=>(nomatch h)) M2 ?_⟩;have e:ag (.flow k)=⟨4,[32,91]++(bY k++([44,32]++([97]++[93]))),[]⟩:=by unfold ag;rfl
 (change e;change oH (.inr (.inl rfl)))
 dsimp only [vt]
 (change h2;change iq)
 exact AE.ok [_,[32],[91],_,[44],[97],[93],[10]] (.a (.a (.a (.x 0) (.a (.x 1) (.x 2))) (.a (.x 3) (.a (.a (.x 4) (.x 1)) (.a (.x 5) (.x 6))))) (.x 7)) (.a (.a (.x 0) (.a (.a (.a (.x 1) (.x 2)) (.a (.x 3) (.a (.a (.x 4) (.x 1)) (.a (.x 5) (.x 6))))) (.x 7))) .n) rfl
theorem tu {k:Kd} {v:V} (h:dD k v) (s:bW (cls k)):∃ c fs,v=.inst c fs∧bW c:=by
 (refine ay (rZ h) ?_;clear h;rintro fs rfl)
 exact bI _ fs rfl s
theorem wn {b:Bool} {x:Tr} (hx:cK b x) {n :Nat} (hst:st=487∨st=495)
  (hn:n=0∨n=2∨n=4) (hh:n+2 * ht x≤4) (he:eJ n ws ii j.col) (R:Rm (20 * (a6 x).length) stk inds out) (hs:stk.length+3 * ht x+4≤30) (hi:inds.length+3 * ht x+3≤30):
  cF b (a6 x) rest (mk C st stk (.int n) inds ws ii j out) C 495 stk (.int n) inds 0 (out.length+20 * (a6 x).length) (ls n ws ii out++((45::tl (ag x))++[10])++bp n (bl (ag x))):=by
 (refine be (kM (b:=b) (C:=C) (st:=st) (pt:=.none) (an:=.none) he hn R) ?_;rintro ln' out1 hW t1 l1)
 have q1:=R.o;have hcol:(n:Int)+1≤10:=by lia
 have e4:1≤(a6 x).length:=by (refine aN (dA x) ?_;rintro _ _ hp _);change hp;simp
 refine cK.k hx C n st 495 true true false stk inds rest ⟨j.rc,j.sc,j.mc,j.kc,ln',(n:Int)+1⟩ ([45]::out1) hn hh (fun h=>nomatch h) (fun _=>rfl) hcol ⟨by change Ko;lia,by change Ko;lia,R.i⟩ (by exact dn M1 _) hi ?_;rintro k ks s2 j' w out' hp hE hC h1 h2 h3
 (refine aN (dA x) ?_;rintro k' ks' hp' hst3)
 rw [hp] at hp'
 (have zq0:_=_:=hp';clear hp';injection zq0 with zq0a zq0b;obtain rfl:=zq0a;obtain rfl:=zq0b)
 refine .en j' w out' ?_ h1 (by rw [Ko] at h2;(first|assumption|lia)) ?_
 ·change hp;refine .cons (fun v q hv hl=>?_) hC;have H:bc ⟨C.can,.none,.none,.none,.none,.none,0,C.bw,out1,stk,inds,q,[]⟩:=bG (m:=0) ⟨by lia,R.s,R.i⟩ hl.1 M0;rcases hst with rfl|rfl
  ·exact fE (f:=487) (as:=[]) rfl rfl (G0 (G9 (hW v q hl.1) (hE .none v q hv hl) H))
  ·(refine aN (tu hv hst3) ?_;rintro c fs rfl hc3)
   exact fE (f:=495) (as:=[.v (.bool false)]) rfl rfl ((Ga hc3 (hW _ q hl.1) (hE .none _ q hv hl) H).mono M0)
 ·change h3;unfold fL;dsimp only
  (change cV;change t1)
  exact AE.ok [_,[45],_,[10],_] (.a (.a (.a (.x 0) (.x 1)) (.a (.x 2) (.x 3))) (.x 4)) (.a (.a (.x 0) (.a (.a (.x 1) (.x 2)) (.x 3))) (.x 4)) rfl
theorem wl {b:Bool}:∀ (l:List Tr),(∀ x∈l,cK b x)→∀ {C:CC} {n:Nat} {w:Bool} {stk:List Nat} {inds:List V} {rest:List Kd} {j:J} {out:List (List Nat)},(n=0∨n=2∨n=4)→n+2 * aO l≤6→(w=true→j.col=0)→Rm (20 * (aE l).length) stk inds out→stk.length+3 * aO l+4≤33→inds.length+3 * aO l+3≤33→
  cF b (aE l) rest (mk C 495 stk (.int n) inds w w j out) C 495 stk (.int n) inds 0 (out.length+20 * (aE l).length) (vt w out++bp n (bL l))
 |[],_,C,n,w,stk,inds,rest,j,out,hn,hh,hw,R,hs,hi=>.en j w out (by dsimp only [aE];exact .nil) hw (by exact br _) (by dsimp only [bL];(change C0;change Kt;with_reducible rfl))
 |x::l,hx,C,n,w,stk,inds,rest,j,out,hn,hh,hw,R,hs,hi=>by
  have e1:aE (x::l)=a6 x++aE l:=by rw [aE]
  have e2:bL (x::l)=((45::tl (ag x))::bl (ag x))++bL l:=by rw [bL]
  have e3:aO (x::l)=Nat.max (ht x+1) (aO l):=by rw [aO]
  have m1:ht x+1≤aO (x::l):=by change e3;exact Ky _ _
  have m2:aO l≤aO (x::l):=by change e3;exact KN _ _
  (refine aN (dA x) ?_;rintro k ks hp _)
  have e4:1≤(a6 x).length:=by change hp;simp
  rw [e1,Kn] at R ⊢;have q1:=R.o
  (refine cF.k (wn (hx x (.head _)) (C:=C) (st:=495) (j:=j) (out:=out) (.inr rfl) (rest:=aE l++rest) hn M2 (xk hw) ⟨by lia,R.s,R.i⟩ M2 M2) ?_;rintro j1 w1 out1 c1 v1 l1 t1)
  (refine cF.k (wl l (fun y hy=>hx y (.tail _ hy)) (C:=C) (j:=j1) (out:=out1) (rest:=rest) hn M2 v1 ⟨by lia,R.s,R.i⟩ M2 M2) ?_;rintro j2 w2 out2 c2 v2 l2 t2)
  refine .en j2 w2 out2 (c1.app c2) v2 (by (first|assumption|lia)) ?_
  (change t2;change t1;change vV;change e2;change nD;change i3)
  exact AE.ok [_,_,_,[45],_,[10],_,_] (.a (.a (.a (.a (.a (.x 0) (.x 1)) (.x 2)) (.a (.a (.x 3) (.x 4)) (.x 5))) (.x 6)) (.x 7)) (.a (.a (.x 0) (.x 1)) (.a (.a (.a (.x 2) (.a (.a (.x 3) (.x 4)) (.x 5))) (.x 6)) (.x 7))) rfl
theorem y4 {b:Bool} {x:Tr} {l:List Tr} (hx:∀ y∈x::l,cK b y):yy b 487 (aO (x::l) - 1) (aE (x::l)++[.se]) (bL (x::l)):=by
 intro C n r a ws ii stk inds rest j out hn hh he R hs hi;have e1:aE (x::l)=a6 x++aE l:=by rw [aE]
 have e2:bL (x::l)=((45::tl (ag x))::bl (ag x))++bL l:=by rw [bL]
 have e3:aO (x::l)=Nat.max (ht x+1) (aO l):=by rw [aO]
 have m1:ht x+1≤aO (x::l):=by change e3;exact Ky _ _
 have m2:aO l≤aO (x::l):=by change e3;exact KN _ _
 have q1:=R.o;have q2:=R.s;have q3:=R.i;rw [Kn,e1,Kn,KX] at q1
 (refine cF.k (wn (hx x (.head _)) (C:=C) (st:=487) (j:=j) (out:=out) (.inl rfl) (rest:=aE l++([.se]++rest)) hn M2 he ⟨by lia,q2,q3⟩ (by simp at q2 ⊢;lia) (by simp at q3 ⊢;lia)) ?_;rintro j1 w1 out1 c1 v1 l1 t1)
 (refine cF.k (wl l (fun y hy=>hx y (.tail _ hy)) (C:=C) (j:=j1) (out:=out1) (rest:=[.se]++rest) hn M2 v1 ⟨by lia,q2,q3⟩ (by simp at q2 ⊢;lia) (by simp at q3 ⊢;lia)) ?_;rintro j2 w2 out2 c2 v2 l2 t2)
 refine .en j2 w2 out2 ?_ v2 (by (change Kn;change e1;change Kn;change KX);(first|assumption|lia)) ?_
 ·change e1;refine Ch.app (Ch.app (by rw [Kw] at *;exact c1) c2) (.one (eg (f:=495) (as:=[.v (.bool false)]) rfl rfl fun v q hv hl=>?_))
  (refine ay hv ?_;(try clear hv);rintro fs rfl)
  exact (G5 (bG (m:=0) ⟨by lia,by simp at q2;exact KK M1,by simp at q3;exact KK M1⟩ hl.1 M0)).mono M0
 ·change e2;refine (?_:vt w2 out2=_++((45::tl (ag x))++[10])++bp n (bl (ag x)++bL l))
  (change t2;change t1;change nD)
  exact AE.ok [_,[45],_,[10],_,_] (.a (.a (.a (.x 0) (.a (.a (.x 1) (.x 2)) (.x 3))) (.x 4)) (.x 5)) (.a (.a (.x 0) (.a (.a (.x 1) (.x 2)) (.x 3))) (.a (.x 4) (.x 5))) rfl
theorem jR {k1:Kd} {ks :List Kd} {q:List V} (h:La ((k1::ks)++rest) q) (s:bW (cls k1)):∃ c fs q',q=.inst c fs::q'∧bW c∧q'.length≤10:=by
 obtain ⟨h1,v',q',rfl,hv⟩:=h
 (refine aN (tu hv s) ?_;clear hv;rintro c fs rfl hc)
 exact gP c fs q' rfl hc (by simp at h1;(first|assumption|exact KK M1))
theorem y7 {k n:Nat} {t :List Nat} (h:k=2∨k=3):fL true t n ⟨k,[],r0::rs⟩=t++[32]++(r0++[10])++bp (n+2) rs:=by
 rcases h with rfl|rfl
 ·refine (?_:t++(32::r0++[10])++bp n (cC rs)=_);change nC;exact AE.ok [_,[32],_,[10],_] (.a (.a (.x 0) (.a (.a (.x 1) (.x 2)) (.x 3))) (.x 4)) (.a (.a (.a (.x 0) (.x 1)) (.a (.x 2) (.x 3))) (.x 4)) rfl
 ·refine (?_:t++(32::r0++[10])++bp n (cC rs)=_);change nC;exact AE.ok [_,[32],_,[10],_] (.a (.a (.x 0) (.a (.a (.x 1) (.x 2)) (.x 3))) (.x 4)) (.a (.a (.a (.x 0) (.x 1)) (.a (.x 2) (.x 3))) (.x 4)) rfl
theorem Jd {n:Nat} {t :List Nat}:fL false t n ⟨2,[],r0::rs⟩=t++[10]++sp n++(r0++[10])++bp n rs:=by
 refine (?_:t++([]++[10])++bp n (r0::rs)=_);change i3;exact AE.ok [_,[10],_,_,_] (.a (.a (.x 0) (.a .n (.x 1))) (.a (.a (.x 2) (.a (.x 3) (.x 1))) (.x 4))) (.a (.a (.a (.a (.x 0) (.x 1)) (.x 2)) (.a (.x 3) (.x 1))) (.x 4)) rfl
theorem Jc {n:Nat} {t :List Nat}:fL false t n ⟨3,[],r0::rs⟩=t++[10]++sp (n+2)++(r0++[10])++bp (n+2) rs:=by
 refine (?_:t++([]++[10])++bp n (cC (r0::rs))=_)
 (change nC;change i3);exact AE.ok [_,[10],_,_,_] (.a (.a (.x 0) (.a .n (.x 1))) (.a (.a (.x 2) (.a (.x 3) (.x 1))) (.x 4))) (.a (.a (.a (.a (.x 0) (.x 1)) (.x 2)) (.a (.x 3) (.x 1))) (.x 4)) rfl
theorem HY {b:Bool} {x:Tr} {l:List Tr} (hx:∀ y∈x::l,cK b y):cK b (.seq (x::l)):=by
 intro C n st r ii sc mc stk inds rest j out hn hh hm hc hcol R hs hi;have e0:a6 (.seq (x::l))=.sq 0::(aE (x::l)++[.se]):=by rw [a6]
 have e1:ht (.seq (x::l))=aO (x::l):=by rw [ht]
 have e2:aO (x::l)=Nat.max (ht x+1) (aO l):=by rw [aO]
 have m1:ht x+1≤aO (x::l):=by change e2;exact Ky _ _
 have e3:ag (.seq (x::l))=⟨2,[],bL (x::l)⟩:=by rw [ag]
 have e4:bL (x::l)=(45::tl (ag x))::(bl (ag x)++bL l):=by rw [bL];rfl
 (refine aN (dA x) ?_;rintro k1 ks1 hp1 hst1)
 have e5:aE (x::l)=k1::(ks1++aE l):=by (rewrite [aE];change hp1);rfl
 rw [e1] at hh hs hi;have q1:=R.o;rw [e0,Ko] at q1;have hn2:ii=true→n=0∨n=2:=fun _=>by lia
 obtain ⟨jn,hjn,hj0,hj1,hent⟩:∃ jn:Nat,jn=(match ii with|true=>n+2|false=>n)∧(jn=0∨jn=2∨jn=4)∧jn+2 * (aO (x::l) - 1)≤4∧eJ jn false ii j.col:=by
  induction ii using Bool.casesOn with
  |false=>exact jY n rfl hn (by (first|assumption|lia)) .mid
  |true=>
   refine jY (n+2) rfl (by (first|assumption|lia)) (by (first|assumption|lia)) ?_;change hc rfl;clear hn hh hc;rcases hn2 rfl with rfl|rfl
   ·exact .two
   ·exact .four
 (refine cF.k (y4 hx C jn r (.int n) false ii stk inds rest ⟨false,sc,mc,false,j.ln,j.col⟩ out hj0 hj1 hent ⟨by lia,R.s,by have:=R.i;simp;lia⟩ M2 M2) ?_;rintro j' w out' hC h1 h2 h3)
 refine ⟨.sq 0,_,_,e0,fun pt v q hv hl=>?_,.en j' w out' hC h1 (by (change e0;change Ko);lia) ?_⟩
 ·(refine fu hv ?_;(try clear hv);rintro t im m fl ht hv1 ⟨fb,hv2,hv3,_⟩ rfl)
  have hfb:=hv3 rfl;clear hv3;clear right;subst hfb;have hla:=hl.2 rfl;rw [e5] at hla
  (refine cJ (jR (ks:=ks1++aE l++[.se]) (rest:=rest) (by simpa using hla) hst1) ?_;clear hl hla;rintro c fs q' rfl hc3 hq)
  refine xl (i:=n) hc3 ?_ (bG (m:=0) ⟨by exact dz M1,R.s,R.i⟩ hq M0) (kt hv1 hv2 _ rfl rfl);clear hent h3;clear hC;induction ii using Bool.casesOn with
  |true=>induction mc using Bool.casesOn with
   |true=>exact .inr (.inl ⟨rfl,by change hjn;rfl,rfl,rfl⟩)
   |false=>exact .inl ⟨rfl,by change hjn;rfl,rfl,rfl⟩
  |false=>
   have:=hm rfl;subst this;exact .inr (.inr (.inl ⟨rfl,by (change hjn;with_reducible rfl),rfl,rfl⟩))
 ·rw [e4] at h3;have h3:vt w out'=_:=h3
  (change h3;change e3;change e4)
  clear hent hC h3;induction ii using Bool.casesOn with
  |true=>
   clear hj0 hj1 h3;subst hjn;exact (y7 (.inl rfl)).symm
  |false=>
   clear hn hh;subst hjn;exact Jd.symm
noncomputable def yr:Tr→Prop
 |.leaf k=>k < 5
 |.flow _=>False
 |.emp=>True
 |.seq l=>l=[]
 |.map _ _=>False
theorem Fh {b:Bool} {A:Tr} (hA:yr A) {n:Nat}
  (hn:n=0∨n=2∨n=4) (he:eJ n ws ii j.col) (R:Rm (20 * (a6 A).length) stk inds out) (hs:stk.length+2≤30) (hi:inds.length+2≤30):
  ∃ j' out',Ch b (a6 A) rest (mk C 509 stk (.int n) inds ws ii j out) (mk C 524 stk (.int n) inds false false j' out')∧j'.col≤9∧out'.length+4≤out.length+20 * (a6 A).length∧bA out'=ls n ws ii out++(ag A).h.tail:=by
 (refine be (kM (b:=b) (C:=C) (st:=509) (pt:=.none) (an:=.none) he hn R) ?_;rintro ln' out1 hW t1 l1)
 have q1:=R.o;have hyp:∀ (q:List V) (imp sty tag fl tg:V) (c:Int),q.length≤10→c≤30→bc ⟨C.can,imp,sty,tag,fl,tg,c,C.bw,out1,stk,inds,q,[]⟩:=fun q _ _ _ _ _ c hq hc=>bG (m:=0) ⟨by
  have e4:1≤(a6 A).length:=by (refine aN (dA A) ?_;rintro _ _ hp _);change hp;simp
  lia,R.s,R.i⟩ hq hc
 induction A using Tr.casesOn with
 |flow=>exact hA.elim
 |map=>exact hA.elim
 |leaf k=>
  have hk:k < 5:=hA;have e0:a6 (.leaf k)=[.sc k]:=by rw [a6]
  have l2:=rx (w:=false) (c:=(n:Int)) hk;have l3:=o7 k false 0;refine fj ⟨false,false,true,true,dN k ln',lc k false n⟩ (lp k false 0++out1) ?_ (by refine (?_:lc k false n≤9);lia) (by (change e0;change Kn;change KX);(first|assumption|lia)) ?_
  ·change e0;refine .one fun v q hv hl=>?_
   (refine kl hv ?_;(try clear hv);rintro t imp sty m ht hl' rfl)
   (refine be (ma hl' ⟨C.can,imp,sty,cr t,.none,.none,n,C.bw,out1,stk,inds,q,[]⟩ rfl rfl) ?_;rintro i0 i1 a1 a2 HE)
   have H:bc ⟨C.can,imp,sty,cr t,.none,.none,(n:Int),C.bw,out1,stk,inds,q,[]⟩:=hyp q _ _ _ _ _ _ hl.1 M2;have hE:=Ib (b:=b) (q:=q) (st:=509) (t:=524) (i:=n) (rc0:=j.rc) (sc0:=j.sc) (mc0:=j.mc) (kc0:=j.kc) (ln:=ln') (au:=C.au) (tp:=bu) (pt:=cu t) (m:=m) (n:=0) (sc:=false) (mc:=true) (w8 hk a1 a2) H HE;rw [vU hk] at hE;have hC:=xJ (b:=b) (q:=q) (st:=509) (stk:=stk) (ind:=.int n) (inds:=inds) (fl:=0) (rc:=j.rc) (sc:=j.sc) (mc:=j.mc) (kc:=j.kc) (ln:=ln') (col:=n) (ws:=true) (ii:=true) (can:=C.can) (au:=C.au) (bw:=C.bw) (out:=out1) (tag:=cr t) (imp:=imp) (sty:=sty) (m:=m) (k:=k) (by exact KK M1) ht rfl (hyp q _ _ _ _ _ _ hl.1 M2);have hok:rC k=true:=(by decide:∀ k,k < 5→rC k=true) k hk;rw [hok] at hC;exact fE (f:=509) (as:=[]) rfl rfl (kb (rK (hW _ q hl.1) hC hE (hyp q _ _ _ _ _ _ hl.1 M0)))
  ·(change vX hk;change t1)
   have e:ag (.leaf k)=⟨0,32::bY k,(ag (.leaf k)).r⟩:=by unfold ag;rfl
   change e;rfl
 |seq l=>
  obtain rfl:l=[]:=hA;have e0:a6 (.seq [])=[.sq 2,.se]:=by dsimp only [a6,aE];rfl
  rw [e0] at q1 ⊢;simp only [Ko,L9] at q1 ⊢;have hf:eI true true (.int n) (.int (n+2)) n:=by simp [eI]
  refine fj _ _ (.cons (fun v q hv hl=>?_) (.one (ql (r:=524) (m:=0) (ind:=.int n) (ind':=.int (n+2)) (ws:=true) (ch:=91) (out:=out1) (j:=⟨false,false,true,true,ln',n⟩) ⟨by lia,by simp;lia,R.i⟩ (by exact dn M1 _)))) (by refine (?_:(n:Int)+1+1≤9);lia) (by simp [cm];lia) ?_
  ·have hv':=hv
   (refine fu hv' ?_;(try clear hv');rintro t im m fl ht hv1 ⟨fb,hv2,hv3,_⟩ rfl)
   obtain ⟨v',q',rfl,fs,rfl⟩:=(hl.2 rfl).2;have hq:q'.length≤10:=by have:=hl.1;simp at this;exact KK M1
   have hC:=xH (b:=b) (q:=q') (st:=509) (stk:=stk) (ind:=.int n) (inds:=inds) (fl:=0) (rc:=j.rc) (sc:=j.sc) (mc:=j.mc) (kc:=j.kc) (ln:=ln') (col:=n) (ws:=true) (ii:=true) (can:=C.can) (au:=C.au) (bw:=C.bw) (out:=out1) (tag:=cr t) (im:=im) (m:=m) (fl0:=fl) (fs:=fs) true (.inl ⟨rfl,rfl⟩) ht rfl (hyp q' _ _ _ _ _ _ hq M2);exact fE (f:=509) (as:=[]) rfl rfl (kb (rK (hW _ _ hl.1) hC (lA (C:=C) (st:=509) (stk:=524::stk) (inds:=inds) (j:=⟨j.rc,j.sc,j.mc,j.kc,ln',n⟩) (out:=out1) (pt:=cu t) (m:=0) hf (.inr ⟨rfl,rest,rfl⟩) ⟨by lia,by simp;lia,R.i⟩ hv hl) (hyp _ _ _ _ _ _ _ hl.1 M0)))
  ·have e:ag (.seq [])=⟨2,[32,91,93],[]⟩:=by unfold ag;rfl
   (change e;change cV;change iq;change t1)
   simp
 |emp=>
  have e0:a6 .emp=[.mp 2,.me]:=by unfold a6;rfl
  rw [e0] at q1 ⊢;simp only [Ko,L9] at q1 ⊢;have hf:eI true true (.int n) (.int (n+2)) n:=by simp [eI]
  refine fj _ _ (.cons (fun v q hv hl=>?_) (.one (qm (r:=524) (m:=0) (ind:=.int n) (ind':=.int (n+2)) (ws:=true) (ch:=123) (out:=out1) (j:=⟨false,false,true,true,ln',n⟩) ⟨by lia,by simp;lia,R.i⟩ (by exact dn M1 _)))) (by refine (?_:(n:Int)+1+1≤9);lia) (by simp [cm];lia) ?_
  ·have hv':=hv
   (refine fu hv' ?_;(try clear hv');rintro t im m fl ht hv1 ⟨fb,hv2,hv3,_⟩ rfl)
   obtain ⟨v',q',rfl,fs,rfl⟩:=(hl.2 rfl).2;have hq:q'.length≤10:=by have:=hl.1;simp at this;exact KK M1
   have hC:=xI (b:=b) (q:=q') (st:=509) (stk:=stk) (ind:=.int n) (inds:=inds) (fl:=0) (rc:=j.rc) (sc:=j.sc) (mc:=j.mc) (kc:=j.kc) (ln:=ln') (col:=n) (ws:=true) (ii:=true) (can:=C.can) (au:=C.au) (bw:=C.bw) (out:=out1) (tag:=cr t) (im:=im) (m:=m) (fl0:=fl) (fs:=fs) true (.inl ⟨rfl,rfl⟩) ht rfl (hyp q' _ _ _ _ _ _ hq M2);exact fE (f:=509) (as:=[]) rfl rfl (kb (rK (hW _ _ hl.1) hC (qQ (C:=C) (st:=509) (stk:=524::stk) (inds:=inds) (j:=⟨j.rc,j.sc,j.mc,j.kc,ln',n⟩) (out:=out1) (pt:=cu t) (m:=0) hf ⟨rest,rfl⟩ ⟨by lia,by simp;lia,R.i⟩ hv hl) (hyp _ _ _ _ _ _ _ hl.1 M0)))
  ·have e:ag .emp=⟨3,[32,123,125],[]⟩:=by unfold ag;rfl
   (change e;change cV;change iq;change t1)
   simp
noncomputable def Qk:Tr→Prop
 |.leaf _=>False
 |.flow _=>True
 |.emp=>False
 |.seq l=>l≠[]
 |.map _ _=>True
theorem CI {A:Tr} (h:Qk A):∃ k k2 ks,a6 A=k::k2::ks∧bW (cls k2)∧((∃ u,k=.sq u)∨(∃ u,k=.mp u)):=by
 match A,h with
 |.flow k,_=>exact gP _ _ _ (by rw [a6]) (.inl rfl) (.inl ⟨_,rfl⟩)
 |.seq (x::l),_=>
  (refine aN (dA x) ?_;rintro k1 ks1 hp1 h1)
  exact gP _ _ _ (by (rewrite [a6,aE];change hp1);rfl) h1 (.inl ⟨_,rfl⟩)
 |.map a c,_=>
  (refine aN (dA a) ?_;rintro k1 ks1 hp1 h1)
  exact gP _ _ _ (by (rewrite [a6];change hp1);rfl) h1 (.inr ⟨_,rfl⟩)
theorem xU {c e:Nat} (h:bW c):(c=e∧false=true)∨(c=217∧false=false)∨(c=229∧false=false)∨(c=253∧false=false):=.inr (h.imp (fun h=>⟨h,rfl⟩) fun h=>h.imp (fun h=>⟨h,rfl⟩) fun h=>⟨h,rfl⟩)
theorem Fi {b:Bool} {A:Tr} (hE:cK b A) (hq:Qk A) {n:Nat}
  (hn:n=0∨n=2∨n=4) (hh:n+2 * ht A≤4) (he:eJ n ws ii j.col) (R:Rm (20 * (a6 A).length) stk inds out) (hs:stk.length+3 * ht A+4≤30) (hi:inds.length+3 * ht A+3≤30):
  cF b (a6 A) rest (mk C 509 stk (.int n) inds ws ii j out) C 531 stk (.int n) inds 0 (out.length+20 * (a6 A).length) (ls n ws ii out++((63::tl (ag A))++[10])++bp n (bl (ag A))):=by
 (refine be (kM (b:=b) (C:=C) (st:=509) (pt:=.none) (an:=.none) he hn R) ?_;rintro ln' out1 hW t1 l1)
 have q1:=R.o;have hcol:(n:Int)+1≤10:=by lia
 (refine cJ (CI hq) ?_;rintro k0 k2 ks0 hp0 hst2 hk0)
 have e4:2≤(a6 A).length:=by change hp0;simp
 refine cK.k hE C n 509 531 true false true stk inds rest ⟨j.rc,j.sc,j.mc,j.kc,ln',(n:Int)+1⟩ ([63]::out1) hn hh (fun h=>nomatch h) (fun _=>rfl) hcol ⟨by change Ko;lia,by change Ko;lia,R.i⟩ (by exact dn M1 _) hi ?_;rintro k ks s2 j' w out' hp hE hC h1 h2 h3;rw [hp] at hp0
 (have zq0:_=_:=hp0;clear hp0;injection zq0 with zq0a zq0b;obtain rfl:=zq0a;obtain rfl:=zq0b)
 refine .en j' w out' ?_ h1 (by rw [Ko] at h2;(first|assumption|lia)) ?_
 ·change hp;refine .cons (fun v q hv hl=>?_) hC;have H:bc ⟨C.can,.none,.none,.none,.none,.none,0,C.bw,out1,stk,inds,q,[]⟩:=bG (m:=0) ⟨by lia,R.s,R.i⟩ hl.1 M0;clear hp;rcases hk0 with ⟨u,rfl⟩|⟨u,rfl⟩
  ·have hE:=fun pt=>hE pt v q hv hl;have hv':=hv
   (refine fu hv' ?_;(try clear hv');clear hv;rintro t im m fl ht hv1 ⟨fb,hv2,hv3,_⟩ rfl)
   (refine cJ (jR (hl.2 rfl) hst2) ?_;rintro c fs q' rfl hc3 hq')
   have hC:=xH (b:=b) (q:=q') (st:=509) (stk:=stk) (ind:=.int n) (inds:=inds) (fl:=0) (rc:=j.rc) (sc:=j.sc) (mc:=j.mc) (kc:=j.kc) (ln:=ln') (col:=n) (ws:=true) (ii:=true) (can:=C.can) (au:=C.au) (bw:=C.bw) (out:=out1) (tag:=cr t) (im:=im) (m:=m) (fl0:=fl) (fs:=fs) false (xU hc3) ht rfl (bG (m:=0) ⟨by lia,R.s,R.i⟩ hq' M2);exact fE (f:=509) (as:=[]) rfl rfl (kb (rM (hW _ _ hl.1) hC (hE (cu t)) H))
  ·have hE:=fun pt=>hE pt v q hv hl;have hv':=hv
   (refine fu hv' ?_;(try clear hv');clear hv;rintro t im m fl ht hv1 ⟨fb,hv2,hv3,_⟩ rfl)
   (refine cJ (jR (hl.2 rfl) hst2) ?_;rintro c fs q' rfl hc3 hq')
   have hC:=xI (b:=b) (q:=q') (st:=509) (stk:=stk) (ind:=.int n) (inds:=inds) (fl:=0) (rc:=j.rc) (sc:=j.sc) (mc:=j.mc) (kc:=j.kc) (ln:=ln') (col:=n) (ws:=true) (ii:=true) (can:=C.can) (au:=C.au) (bw:=C.bw) (out:=out1) (tag:=cr t) (im:=im) (m:=m) (fl0:=fl) (fs:=fs) false (xU hc3) ht rfl (bG (m:=0) ⟨by lia,R.s,R.i⟩ hq' M2);exact fE (f:=509) (as:=[]) rfl rfl (kb (rM (hW _ _ hl.1) hC (hE (cu t)) H))
 ·change h3;unfold fL;dsimp only
  (change cV;change t1)
  exact AE.ok [_,[63],_,[10],_] (.a (.a (.a (.x 0) (.x 1)) (.a (.x 2) (.x 3))) (.x 4)) (.a (.a (.x 0) (.a (.a (.x 1) (.x 2)) (.x 3))) (.x 4)) rfl
theorem Fj {b:Bool} {n:Nat}
  (hn:n=0∨n=2∨n=4) (he:eJ n ws ii j.col) (R:Rm 20 stk inds out) (hs:stk.length+4≤30):
  cF b [.sc 5] rest (mk C 509 stk (.int n) inds ws ii j out) C 531 stk (.int n) inds 0 (out.length+20) (ls n ws ii out++((63::tl (ag (.leaf 5)))++[10])++bp n (bl (ag (.leaf 5)))):=by
 (refine be (kM (b:=b) (C:=C) (st:=509) (pt:=.none) (an:=.none) he hn R) ?_;rintro ln' out1 hW t1 l1)
 have q1:=R.o;have l3:=o7 5 true n;refine .en ⟨false,false,true,false,dN 5 ln',lc 5 true ((n:Int)+1)⟩ true (lp 5 true n++([63]::out1)) (.one fun v q hv hl=>?_) (fun _=>rfl) (by rw [Kn,Ko] at ⊢;lia) ?_
 ·(refine kl hv ?_;(try clear hv);rintro t imp sty m ht hl' rfl)
  have hyp:∀ (imp sty tag fl tg:V) (c:Int),c≤30→bc ⟨C.can,imp,sty,tag,fl,tg,c,C.bw,out1,stk,inds,q,[]⟩:=fun _ _ _ _ _ c hc=>bG (m:=0) ⟨by lia,R.s,R.i⟩ hl.1 hc
  (refine be (ma hl' ⟨C.can,imp,sty,cr t,.none,.none,(n:Int)+1,C.bw,[63]::out1,stk,inds,q,[]⟩ rfl rfl) ?_;rintro i0 i1 a1 a2 HE)
  have H:bc ⟨C.can,imp,sty,cr t,.none,.none,(n:Int)+1,C.bw,[63]::out1,stk,inds,q,[]⟩:=bG (m:=0) ⟨by change Ko;lia,R.s,R.i⟩ hl.1 M2;have hE:=Ia (b:=b) (q:=q) (st:=509) (t:=531) (i:=n) (rc0:=j.rc) (sc0:=j.sc) (mc0:=j.mc) (kc0:=j.kc) (ln:=ln') (au:=C.au) (tp:=bu) (pt:=cu t) (m:=m) (n:=n) (sc:=false) (mc:=true) ⟨rfl,a2 M0,wF hn⟩ H HE;have hC:=xJ (b:=b) (q:=q) (st:=509) (stk:=stk) (ind:=.int n) (inds:=inds) (fl:=0) (rc:=j.rc) (sc:=j.sc) (mc:=j.mc) (kc:=j.kc) (ln:=ln') (col:=n) (ws:=true) (ii:=true) (can:=C.can) (au:=C.au) (bw:=C.bw) (out:=out1) (tag:=cr t) (imp:=imp) (sty:=sty) (m:=m) (k:=5) M0 ht rfl (hyp _ _ _ _ _ _ M2);exact fE (f:=509) (as:=[]) rfl rfl (kb (rM (hW _ q hl.1) hC hE (hyp _ _ _ _ _ _ M0)))
 ·have e:ag (.leaf 5)=⟨0,32::bY 5,(ag (.leaf 5)).r⟩:=by unfold ag;rfl
  have t2:=w7 (k:=5) (n:=n) M0 (out:=[63]::out1);rw [show cY 5=true from rfl] at t2
  (change t2;change cV;change t1;change (iG (x:=ag (.leaf 5)) (.inl (by (refine aU (e ..) ?_;with_reducible rfl)))).1;change (iG (x:=ag (.leaf 5)) (.inl (by (refine aU (e ..) ?_;with_reducible rfl)))).2;change e)
  simp
theorem t5 {b:Bool} (hE:cK b B) {n:Nat} {w:Bool}
  (hn:n=0∨n=2∨n=4) (hh:n+2 * ht B≤4) (hw:w=true→j.col=0) (R:Rm (20 * (a6 B).length) stk inds out) (hs:stk.length+3 * ht B+4≤30) (hi:inds.length+3 * ht B+3≤30):
  cF b (a6 B) rest (mk C 531 stk (.int n) inds w w j out) C 517 stk (.int n) inds 0 (out.length+20 * (a6 B).length) (vt w out++(sp n++((58::tl (ag B))++[10]))++bp n (bl (ag B))):=by
 (refine be (kM (b:=b) (C:=C) (st:=531) (pt:=.none) (an:=.none) (xk hw) hn R) ?_;rintro ln' out1 hW t1 l1)
 have q1:=R.o;have hcol:(n:Int)+1≤10:=by lia
 have e4:1≤(a6 B).length:=by (refine aN (dA B) ?_;rintro _ _ hp _);change hp;simp
 refine cK.k hE C n 531 517 true false true stk inds rest ⟨j.rc,j.sc,j.mc,j.kc,ln',(n:Int)+1⟩ ([58]::out1) hn hh (fun h=>nomatch h) (fun _=>rfl) hcol ⟨by change Ko;lia,by change Ko;lia,R.i⟩ (by exact dn M1 _) hi ?_;rintro k ks s2 j' w' out' hp hE hC h1 h2 h3;refine .en j' w' out' ?_ h1 (by rw [Ko] at h2;(first|assumption|lia)) ?_
 ·change hp;refine .cons (fun v q hv hl=>?_) hC;exact fE (f:=531) (as:=[]) rfl rfl ((G1 (hW v q hl.1) (hE .none v q hv hl) (bG (m:=0) ⟨by lia,R.s,R.i⟩ hl.1 M0)).mono M0)
 ·(change h3;refine aT (Kw ..) ?_;refine aT (vV ..) ?_)
  unfold fL;dsimp only
  (change cV;change t1)
  exact AE.ok [_,[58],_,[10],_] (.a (.a (.a (.x 0) (.x 1)) (.a (.x 2) (.x 3))) (.x 4)) (.a (.a (.x 0) (.a (.a (.x 1) (.x 2)) (.x 3))) (.x 4)) rfl
theorem yV {b:Bool} (hE:cK b B) {n:Nat}
  (hn:n=0∨n=2∨n=4) (hh:n+2 * ht B≤4) (hc:j.col≤9) (R:Rm (20 * (a6 B).length) stk inds out) (hs:stk.length+3 * ht B+4≤30) (hi:inds.length+3 * ht B+3≤30):
  cF b (a6 B) rest (mk C 524 stk (.int n) inds false false j out) C 517 stk (.int n) inds 0 (out.length+20 * (a6 B).length) (bA out++(58::(ag B).h++[10])++bp n (sl (ag B))):=by
 have q1:=R.o;have e4:1≤(a6 B).length:=by (refine aN (dA B) ?_;rintro _ _ hp _);change hp;simp
 refine cK.k hE C n 524 517 false false true stk inds rest ⟨j.rc,j.sc,j.mc,j.kc,j.ln,j.col+1⟩ ([58]::out) hn hh (fun h=>rfl) (fun h=>nomatch h) (by refine (?_:j.col+1≤10);exact Int.lt_of_le_of_lt M1 M0) ⟨by change Ko;lia,by change Ko;lia,R.i⟩ (by exact dn M1 _) hi ?_;rintro k ks s2 j' w' out' hp hE hC h1 h2 h3;refine .en j' w' out' ?_ h1 (by rw [Ko] at h2;(first|assumption|lia)) ?_
 ·change hp;refine .cons (fun v q hv hl=>?_) hC;exact fE (f:=524) (as:=[]) rfl rfl ((G2 (hE .none v q hv hl) (bG (m:=0) ⟨by exact dz M1,R.s,R.i⟩ hl.1 M0)).mono M0)
 ·change h3;unfold fL;dsimp only;change cV;exact AE.ok [_,[58],_,[10],_] (.a (.a (.a (.x 0) (.x 1)) (.a (.x 2) (.x 3))) (.x 4)) (.a (.a (.x 0) (.a (.a (.x 1) (.x 2)) (.x 3))) (.x 4)) rfl
theorem wc {A:Tr} (hw:wf A):(yr A∧ij (ag A)=false)∨(A=.leaf 5∧ij (ag A)=true)∨(Qk A∧ij (ag A)=true):=by
 match A,hw with
 |.leaf k,hk=>
  have hk:k < 6:=hk;refine iV hk ?_ ?_ ?_ ?_ ?_ ?_
  ·exact .inl ⟨by refine (?_:0 < 5);decide,by dsimp only [ag];rfl⟩
  ·exact .inl ⟨by refine (?_:1 < 5);decide,by dsimp only [ag];rfl⟩
  ·exact .inl ⟨by refine (?_:2 < 5);decide,by dsimp only [ag];rfl⟩
  ·exact .inl ⟨by refine (?_:3 < 5);decide,by dsimp only [ag];rfl⟩
  ·exact .inl ⟨by refine (?_:4 < 5);decide,by dsimp only [ag];rfl⟩
  ·exact .inr (.inl ⟨rfl,by dsimp only [ag];rfl⟩)
 |.flow k,_=>exact .inr (.inr ⟨trivial,by dsimp only [ag];rfl⟩)
 |.emp,_=>exact .inl ⟨trivial,by dsimp only [ag];rfl⟩
 |.seq [],_=>exact .inl ⟨rfl,by dsimp only [ag];rfl⟩
 |.seq (x::l),_=>exact .inr (.inr ⟨(fun h=>(nomatch h)),by dsimp only [ag,bL];rfl⟩)
 |.map a c,_=>
  refine .inr (.inr ⟨trivial,?_⟩);dsimp only [ag,cH];cases ij (ag a)<;>rfl
theorem y6 {b:Bool} {A :Tr} (hA:cK b A) (hB:cK b B) (hw:wf A):yy b 509 (Nat.max (ht A) (ht B)) (a6 A++(a6 B++[.me])) (cH (ag A) (ag B)):=by
 intro C n r a ws ii stk inds rest j out hn hh he R hs hi;have m1:ht A≤Nat.max (ht A) (ht B):=Ky _ _;have m2:ht B≤Nat.max (ht A) (ht B):=KN _ _;have q1:=R.o;have q2:=R.s;have q3:=R.i;rw [Kn,Kn,KX] at q1;have mt:∀ {j1:J} {w:Bool} {out1:List (List Nat)},out1.length≤out.length+20 * (a6 A).length+20 * (a6 B).length→Ch b [.me] rest (mk C 517 (r::stk) (.int n) (a::inds) w w j1 out1) (mk C r stk a inds w w j1 out1):=fun hl1=>.one (eg (f:=517) (as:=[.v (.bool false)]) rfl rfl fun v q hv hl=>by
  (refine ay hv ?_;(try clear hv);rintro fs rfl)
  exact (G7 (bG (m:=0) ⟨by lia,by simp at q2;exact KK M1,by simp at q3;exact KK M1⟩ hl.1 M0)).mono M0)
 simp only [Ko] at q2 q3;rcases wc hw with ⟨hs1,hq⟩|⟨rfl,hq⟩|⟨hs1,hq⟩
 ·(refine cv (Fh (b:=b) (C:=C) (A:=A) hs1 (rest:=(a6 B++[.me])++rest) (stk:=r::stk) (inds:=a::inds) (out:=out) (j:=j) hn he ⟨by lia,R.s,R.i⟩ (by simp;lia) (by simp;lia)) ?_;rintro j1 out1 c1 v1 l1 t1)
  (refine cF.k (yV hB (C:=C) (rest:=[.me]++rest) (stk:=r::stk) (inds:=a::inds) (out:=out1) (j:=j1) hn M2 v1 ⟨by lia,R.s,R.i⟩ (by simp;lia) (by simp;lia)) ?_;rintro j2 w2 out2 c2 v2 l2 t2)
  refine .en j2 w2 out2 (c1.app (c2.app (mt M2))) v2 (by (change Kn;change Kn;change KX);(first|assumption|lia)) ?_;unfold cH;change hq;refine (?_:vt w2 out2=_++((((ag A).h.tail++[58])++(ag B).h)++[10])++bp n (sl (ag B)))
  (change t2;change t1)
  exact AE.ok [_,_,[58],_,[10],_] (.a (.a (.a (.x 0) (.x 1)) (.a (.a (.x 2) (.x 3)) (.x 4))) (.x 5)) (.a (.a (.x 0) (.a (.a (.a (.x 1) (.x 2)) (.x 3)) (.x 4))) (.x 5)) rfl
 ·have e0:a6 (.leaf 5)=[.sc 5]:=by rw [a6]
  rw [e0] at q1 ⊢;rw [KX] at q1
  (refine cF.k (Fj (b:=b) (C:=C) (rest:=(a6 B++[.me])++rest) (stk:=r::stk) (inds:=a::inds) (out:=out) (j:=j) hn he ⟨by lia,R.s,R.i⟩ (by simp;lia)) ?_;rintro j1 w1 out1 c1 v1 l1 t1)
  (refine cF.k (t5 hB (C:=C) (rest:=[.me]++rest) (stk:=r::stk) (inds:=a::inds) (out:=out1) (j:=j1) hn M1 v1 ⟨by lia,R.s,R.i⟩ (by simp;lia) (by simp;lia)) ?_;rintro j2 w2 out2 c2 v2 l2 t2)
  refine .en j2 w2 out2 (c1.app (c2.app (mt (by change e0;simp;lia)))) v2 (by rw [Kn,Kn,KX,KX];lia) ?_;unfold cH;change hq;refine (?_:vt w2 out2=_++((63::tl (ag (.leaf 5)))++[10])++bp n (bl (ag (.leaf 5))++((58::tl (ag B))::bl (ag B))));rw [t2,t1,nD,i3] at ⊢;exact AE.ok [_,[63],_,[10],_,_,[58],_,_] (.a (.a (.a (.a (.x 0) (.a (.a (.x 1) (.x 2)) (.x 3))) (.x 4)) (.a (.x 5) (.a (.a (.x 6) (.x 7)) (.x 3)))) (.x 8)) (.a (.a (.x 0) (.a (.a (.x 1) (.x 2)) (.x 3))) (.a (.x 4) (.a (.a (.x 5) (.a (.a (.x 6) (.x 7)) (.x 3))) (.x 8)))) rfl
 ·(refine cF.k (Fi hA hs1 (C:=C) (rest:=(a6 B++[.me])++rest) (stk:=r::stk) (inds:=a::inds) (out:=out) (j:=j) hn M2 he ⟨by lia,R.s,R.i⟩ (by simp;lia) (by simp;lia)) ?_;rintro j1 w1 out1 c1 v1 l1 t1)
  (refine cF.k (t5 hB (C:=C) (rest:=[.me]++rest) (stk:=r::stk) (inds:=a::inds) (out:=out1) (j:=j1) hn M2 v1 ⟨by lia,R.s,R.i⟩ (by simp;lia) (by simp;lia)) ?_;rintro j2 w2 out2 c2 v2 l2 t2)
  refine .en j2 w2 out2 (c1.app (c2.app (mt M2))) v2 (by (change Kn;change Kn;change KX);(first|assumption|lia)) ?_;unfold cH;change hq;refine (?_:vt w2 out2=_++((63::tl (ag A))++[10])++bp n (bl (ag A)++((58::tl (ag B))::bl (ag B))))
  (change t2;change t1;change nD;change i3)
  exact AE.ok [_,[63],_,[10],_,_,[58],_,_] (.a (.a (.a (.a (.x 0) (.a (.a (.x 1) (.x 2)) (.x 3))) (.x 4)) (.a (.x 5) (.a (.a (.x 6) (.x 7)) (.x 3)))) (.x 8)) (.a (.a (.x 0) (.a (.a (.x 1) (.x 2)) (.x 3))) (.a (.x 4) (.a (.a (.x 5) (.a (.a (.x 6) (.x 7)) (.x 3))) (.x 8)))) rfl
theorem vC {a b:Bx} {G:Prop} (h:cH a b=[]):G:=by
 unfold cH at h;generalize ij a=q at h;induction q using Bool.casesOn with
 |true=>cases h
 |false=>cases h
theorem HZ {b:Bool} {A :Tr} (hA:cK b A) (hB:cK b B) (hw:wf A):cK b (.map A B):=by
 intro C n st r ii sc mc stk inds rest j out hn hh hm hc hcol R hs hi;have e0:a6 (.map A B)=.mp 0::(a6 A++(a6 B++[.me])):=by rw [a6]
 have e1:ht (.map A B)=Nat.max (ht A) (ht B)+1:=by rw [ht]
 have e3:ag (.map A B)=⟨3,[],cH (ag A) (ag B)⟩:=by rw [ag]
 (refine aN (dA A) ?_;rintro k1 ks1 hp1 hst1)
 rw [e1] at hh hs hi;have q1:=R.o;rw [e0,Ko] at q1;have hn2:n=0∨n=2:=by lia
 have hent:eJ (n+2) false ii j.col:=by
  clear hm;induction ii using Bool.casesOn with
  |false=>exact .mid
  |true=>
   change hc rfl;clear hn hh hc;rcases hn2 with rfl|rfl
   ·exact .two
   ·exact .four
 (refine cF.k (y6 hA hB hw C (n+2) r (.int n) false ii stk inds rest ⟨false,sc,mc,false,j.ln,j.col⟩ out M2 M2 hent ⟨by lia,R.s,by have:=R.i;simp;lia⟩ M1 M1) ?_;rintro j' w out' hC h1 h2 h3)
 refine ⟨.mp 0,_,_,e0,fun pt v q hv hl=>?_,.en j' w out' hC h1 (by (change e0;change Ko);lia) ?_⟩
 ·(refine fu hv ?_;(try clear hv);rintro t im m fl ht hv1 ⟨fb,hv2,hv3,_⟩ rfl)
  have hfb:=hv3 rfl;clear hv3;clear right;subst hfb;have hla:=hl.2 rfl;rw [hp1] at hla
  (refine cJ (jR (ks:=ks1++(a6 B++[.me])) (rest:=rest) (by simpa using hla) hst1) ?_;clear hl hla;rintro c fs q' rfl hc3 hq)
  exact xm (i:=n) hc3 (.inl ⟨rfl,rfl⟩) (bG (m:=0) ⟨by exact dz M1,R.s,R.i⟩ hq M0) (kt hv1 hv2 _ rfl rfl)
 ·change e3;induction hr:cH (ag A) (ag B) using List.casesOn with
  |nil=>exact vC hr
  |cons r0 rs=>
   rw [hr] at h3;have h3:vt w out'=_:=h3;change h3;clear hm hc hent hC h3;clear h3;induction ii using Bool.casesOn with
   |true=>exact (y7 (.inr rfl)).symm
   |false=>exact Jc.symm
mutual
theorem mE {b:Bool}:∀ T,wf T→cK b T
 |.leaf k,h=>I3 (by dsimp only [wf] at h;exact h)
 |.flow k,h=>I4 (by dsimp only [wf] at h;exact h)
 |.emp,_=>I5
 |.seq [],_=>I6
 |.seq (x::l),h=>HY (by dsimp only [wf] at h;exact s6 (x::l) h)
 |.map A B,h=>by
  dsimp only [wf] at h;exact HZ (mE A h.1) (mE B h.2) h.1
theorem s6 {b:Bool}:∀ l,dc l→∀ x∈l,cK b x
 |[],_,_,hx=>nomatch hx
 |y::l,h,x,hx=>by
  dsimp only [dc] at h;cases hx with
  |head=>exact mE y h.1
  |tail _ hx=>exact s6 l h.2 x hx
end
noncomputable def i4 (op:Bool) (t:List Nat) (x:Bx):List Nat:=match op with
 |true=>t++(x.h++[10])++bp 0 x.r
 |false=>t++(match x.h with|[]=>[]|_::h=>h++[10])++bp 0 x.r
noncomputable def mf:Tr→Prop|.leaf _=>False|_=>True
noncomputable def Jx (b:Bool) (T:Tr):Prop:=∀ (C:CC) (op:Bool) (rest:List Kd) (j:J) (out:List (List Nat)),(op=false→j.col=0)→j.col≤8→Rm (20 * (a6 T).length) [388] [] out→
 cF b (a6 T) rest (mk C 395 [] .none [] (!op) (!op) j out) C 388 [] .none [] 0 (out.length+20 * (a6 T).length) (i4 op (bA out) (ag T))
theorem l7 {b:Bool} {k:Kd} {s:ES} {m:Nat} (R:Rm m [388] [] out) (h:∀ v q,dD k v→hN k rest q→EG 10 b 403 [.v (.bool true),.v (.bool false),.v (.bool false),.v (.bool false)] q v (mk C 395 [388] .none [] ws ii j out) (.v .none) s):gZ b k rest (mk C 395 [] .none [] ws ii j out) s:=
 eg (f:=395) (as:=[]) rfl rfl fun v q hv hl=>(G6 (h v q hv hl) (bG (m:=0) ⟨by have:=R.o;exact dz M1,by exact Kk _ _,by exact Kk _ _⟩ hl.1 M0)).mono M0
theorem qx:eI (!op) (!op) .none (.int 2) 0:=by induction op using Bool.casesOn<;>simp [eI]
theorem vW:ls 0 (!op) (!op) out=bA out++(match op with|true=>[10]|false=>[]):=by induction op using Bool.casesOn<;>simp [ls,sp]
theorem ux {k:Nat} {t :List Nat}:i4 op t ⟨k,[],r0::rs⟩=t++(match op with|true=>[10]|false=>[])++(r0++[10])++bp 0 rs:=by
 induction op using Bool.casesOn<;>simp [i4,i3,sp]
theorem uw {c:Int} (h:op=false→c=0):eJ 0 (!op) (!op) c:=by
 induction op using Bool.casesOn with
 |true=>exact .mid
 |false=>change h rfl;exact .nl
theorem C4 {b:Bool}:∀ T,wf T→mf T→ht T≤3→Jx b T
 |.leaf k,_,h,_=>h.elim
 |.flow k,hw,_,_=>fun C op rest j out h0 hc R=>by
  have hk:k < 5:=by dsimp only [wf] at hw;exact hw
  have e:a6 (.flow k)=[.sq 1,.sc k,.sc 0,.se]:=by rw [a6]
  rw [e] at R ⊢;simp only [Ko,L9] at R ⊢;have q1:=R.o
  (refine be (wU (b:=b) (C:=C) (r:=388) (stk:=[]) (inds:=[]) (ind:=.none) (i:=2) (ws:=!op) (j:={ j with rc:=true,sc:=false,mc:=false,kc:=false }) (out:=out) (rest:=rest) hk ⟨by exact dn M1 _,by exact Ku _,by exact Kk _ _⟩ (by exact Kk _ _) (by exact Ku _) (by refine (?_:j.col≤10);exact Int.le_trans M1 M0)) ?_;rintro j' out' h1 h2 h3)
  refine .en j' false out' (.cons (l7 R fun v q hv hl=>lA qx (.inl rfl) R hv hl) h1) (fun h=>(nomatch h)) (by (first|assumption|lia)) ?_;have e:ag (.flow k)=⟨4,[32,91]++(bY k++([44,32]++([97]++[93]))),[]⟩:=by unfold ag;rfl
  unfold vt
  (change h2;change iq;change e)
  clear h0 h1 h2;induction op using Bool.casesOn<;>first|exact AE.ok [_,[91],_,[44],[32],[97],[93],[10]] (.a (.a (.a (.x 0) (.x 1)) (.a (.x 2) (.a (.a (.x 3) (.x 4)) (.a (.x 5) (.x 6))))) (.x 7)) (.a (.a (.x 0) (.a (.a (.x 1) (.a (.x 2) (.a (.a (.x 3) (.x 4)) (.a (.x 5) (.x 6))))) (.x 7))) .n) rfl|simp [i4,nl,bp]
 |.emp,_,_,_=>fun C op rest j out h0 hc R=>by
  have e:a6 .emp=[.mp 2,.me]:=by rw [a6]
  rw [e] at R ⊢;simp only [Ko,L9] at R ⊢;have q1:=R.o;refine .en _ false _ (.cons (l7 R fun v q hv hl=>qQ qx ⟨rest,rfl⟩ R hv hl) (.one (qm (m:=0) ⟨by exact dn M1 _,by exact Ku _,by exact Kk _ _⟩ (by exact Ku _)))) (fun h=>(nomatch h)) (by clear h0;induction op using Bool.casesOn<;>simp [cm]) ?_;have e:ag .emp=⟨3,[32,123,125],[]⟩:=by unfold ag;rfl
  unfold vt
  (change cV;change iq;change e)
  clear h0;induction op using Bool.casesOn<;>first|exact AE.ok [_,[123],[125],[10]] (.a (.a (.a (.x 0) (.x 1)) (.x 2)) (.x 3)) (.a (.a (.x 0) (.a (.a (.x 1) (.x 2)) (.x 3))) .n) rfl|simp [i4,nl,bp]
 |.seq [],_,_,_=>fun C op rest j out h0 hc R=>by
  have e:a6 (.seq [])=[.sq 2,.se]:=by rw [a6,aE];rfl
  rw [e] at R ⊢;simp only [Ko,L9] at R ⊢;have q1:=R.o;refine .en _ false _ (.cons (l7 R fun v q hv hl=>lA qx (.inr ⟨rfl,rest,rfl⟩) R hv hl) (.one (ql (m:=0) ⟨by exact dn M1 _,by exact Ku _,by exact Kk _ _⟩ (by exact Ku _)))) (fun h=>(nomatch h)) (by clear h0;induction op using Bool.casesOn<;>simp [cm]) ?_;have e:ag (.seq [])=⟨2,[32,91,93],[]⟩:=by unfold ag;rfl
  unfold vt
  (change cV;change iq;change e)
  clear h0;induction op using Bool.casesOn<;>first|exact AE.ok [_,[91],[93],[10]] (.a (.a (.a (.x 0) (.x 1)) (.x 2)) (.x 3)) (.a (.a (.x 0) (.a (.a (.x 1) (.x 2)) (.x 3))) .n) rfl|simp [i4,nl,bp]
 |.seq (x::l),hw,_,hh=>fun C op rest j out h0 hc R=>by
  have e0:a6 (.seq (x::l))=.sq 0::(aE (x::l)++[.se]):=by rw [a6]
  have e1:ht (.seq (x::l))=aO (x::l):=by rw [ht]
  have e3:ag (.seq (x::l))=⟨2,[],bL (x::l)⟩:=by rw [ag]
  have e4:bL (x::l)=(45::tl (ag x))::(bl (ag x)++bL l):=by rw [bL];rfl
  (refine aN (dA x) ?_;rintro k1 ks1 hp1 hst1)
  have e5:aE (x::l)=k1::(ks1++aE l):=by (rewrite [aE];change hp1);rfl
  rw [e1] at hh;have q1:=R.o;rw [e0,Ko] at q1
  (refine cF.k (y4 (b:=b) (s6 (x::l) (by unfold wf at hw;exact hw)) C 0 388 .none (!op) (!op) [] [] rest ⟨true,false,false,false,j.ln,j.col⟩ out (.inl rfl) M2 (uw h0) ⟨by lia,by exact Ku _,by exact Ku _⟩ (by simp;lia) (by simp;lia)) ?_;rintro j' w out' hC h1 h2 h3)
  change e0;refine .en j' w out' (.cons (l7 R fun v q hv hl=>?_) hC) h1 (by change Ko;(first|assumption|lia)) ?_
  ·(refine fu hv ?_;(try clear hv);rintro t im m fl ht hv1 ⟨fb,hv2,hv3,_⟩ rfl)
   have hfb:=hv3 rfl;clear hv3;clear right;subst hfb;have hla:=hl.2 rfl;rw [e5] at hla
   (refine cJ (jR (ks:=ks1++aE l++[.se]) (rest:=rest) (by simpa using hla) hst1) ?_;clear hl hla;rintro c fs q' rfl hc3 hq)
   refine xl (i:=0) hc3 ?_ (bG (m:=0) ⟨by exact dz M1,R.s,R.i⟩ hq M0) (kt hv1 hv2 _ rfl rfl);clear h0 hC h3;induction op using Bool.casesOn with
   |true=>exact .inr (.inr (.inr (.inl ⟨rfl,rfl,rfl,rfl⟩)))
   |false=>exact .inr (.inr (.inr (.inr ⟨rfl,rfl,rfl,rfl⟩)))
  ·rw [e4] at h3;have h3:vt w out'=_:=h3
   (change h3;change e3;change e4;change vW;change ux;with_reducible rfl)
 |.map A B,hw,_,hh=>fun C op rest j out h0 hc R=>by
  have e0:a6 (.map A B)=.mp 0::(a6 A++(a6 B++[.me])):=by rw [a6]
  have e1:ht (.map A B)=Nat.max (ht A) (ht B)+1:=by rw [ht]
  have e3:ag (.map A B)=⟨3,[],cH (ag A) (ag B)⟩:=by rw [ag]
  (refine aN (dA A) ?_;rintro k1 ks1 hp1 hst1)
  rw [e1] at hh;have q1:=R.o;rw [e0,Ko] at q1;have hw:wf A∧wf B:=by unfold wf at hw;exact hw
  (refine cF.k (y6 (b:=b) (mE A hw.1) (mE B hw.2) hw.1 C 0 388 .none (!op) (!op) [] [] rest ⟨true,false,false,false,j.ln,j.col⟩ out (.inl rfl) M2 (uw h0) ⟨by lia,by exact Ku _,by exact Ku _⟩ (by simp;lia) (by simp;lia)) ?_;rintro j' w out' hC h1 h2 h3)
  change e0;refine .en j' w out' (.cons (l7 R fun v q hv hl=>?_) hC) h1 (by change Ko;(first|assumption|lia)) ?_
  ·(refine fu hv ?_;(try clear hv);rintro t im m fl ht hv1 ⟨fb,hv2,hv3,_⟩ rfl)
   have hfb:=hv3 rfl;clear hv3;clear right;subst hfb;have hla:=hl.2 rfl;rw [hp1] at hla
   (refine cJ (jR (ks:=ks1++(a6 B++[.me])) (rest:=rest) (by simpa using hla) hst1) ?_;clear hl hla;rintro c fs q' rfl hc3 hq)
   exact xm (i:=0) hc3 (.inr ⟨rfl,rfl⟩) (bG (m:=0) ⟨by exact dz M1,R.s,R.i⟩ hq M0) (kt hv1 hv2 _ rfl rfl)
  ·induction hr:cH (ag A) (ag B) using List.casesOn with
   |nil=>exact vC hr
   |cons r0 rs=>
    rw [hr] at h3;have h3:vt w out'=_:=h3
    (change h3;change e3;change hr;change vW;change ux;with_reducible rfl)
noncomputable def dC (C:CC):ES:=⟨359,[],.none,[],0,false,false,false,false,0,0,true,true,C.can,C.au,C.bw,.none,.none,.none,[]⟩
noncomputable def mG (op cl:Bool) (x:Bx):List Nat:=i4 op (match op with|true=>[45,45,45]|false=>[]) x++(match cl with|true=>[46,46,46,10]|false=>[])
noncomputable def gm (op cl:Bool) (T:Tr):List Kd:=.ss::.ds op::(a6 T++[.de cl,.st])
theorem xw {b:Bool} {T:Tr} (hw:wf T) (hT:mf T) (hh:ht T≤3) (hl:(a6 T).length≤10000) (C:CC) (op cl:Bool):
  ∃ s,Ch b (gm op cl T) [] (dC C) s∧bA s.out=mG op cl (ag T)∧s.out.length≤300000:=by
 (refine aN (dA T) ?_;rintro k1 ks1 hp1 hst1)
 have hk1:cls k1=229∨cls k1=253:=by
  clear hw hh hl;induction T using Tr.casesOn with
  |leaf=>exact hT.elim
  |_=>dsimp only [a6] at hp1;(have zq0:_=_:=hp1;clear hp1;injection zq0 with zq0a zq0b;clear hst1;obtain rfl:=zq0a;obtain rfl:=zq0b);first|exact .inl rfl|exact .inr rfl
 obtain ⟨j1,o1,hds,t1,c1,l1⟩:∃ (j:J) (o:List (List Nat)),(∀ rest,gZ b (.ds op) (a6 T++rest) ⟨373,[],.none,[],0,false,false,false,false,0,0,true,true,C.can,C.au,C.bw,.none,.none,.none,[]⟩ (mk C 395 [] .none [] (!op) (!op) j o))∧bA o=(match op with|true=>[45,45,45]|false=>[])∧((op=false→j.col=0)∧j.col≤8)∧o.length≤1:=by
  have la:∀ {rest q},hN (.ds op) (a6 T++rest) q→∃ c fs q',q=.inst c fs::q'∧(c=229∨c=253)∧q'.length≤10:=fun {rest q} h=>by
   have h:=h.2 rfl;rw [hp1] at h;obtain ⟨h1,v',q',rfl,hv⟩:=h
   (refine ay (rZ hv) ?_;clear hv h;rintro fs rfl)
   exact gP _ fs q' rfl hk1 (by simp at h1;(first|assumption|exact KK M1))
  induction op using Bool.casesOn with
  |true=>
   refine fj ⟨false,false,false,false,0,3⟩ [[45,45,45]] (fun rest=>eg (f:=373) (as:=[]) rfl rfl fun v q hv hl=>?_) rfl ⟨fun h=>(nomatch h),by refine (?_:(3:Int)≤8);decide⟩ (by exact KC _)
   (refine cJ hv ?_;(try clear hv);rintro m ex tg rfl hv1 hv2)
   (refine cJ (la hl) ?_;clear hl;rintro c fs q' rfl hc hq)
   exact (Gf hc (.cons hv1 (.cons hv2 .nil)) (bG (m:=0) (out:=[]) (stk:=[]) (inds:=[]) ⟨by exact KG _,by exact Kk _ _,by exact Kk _ _⟩ hq M0)).mono M0
  |false=>
   refine fj ⟨false,false,false,false,0,0⟩ [] (fun rest=>eg (f:=373) (as:=[]) rfl rfl fun v q hv hl=>?_) rfl ⟨fun h=>rfl,by refine (?_:(0:Int)≤8);decide⟩ (by exact KG _)
   (refine cJ hv ?_;(try clear hv);rintro m ex tg rfl hv1 hv2)
   (refine cJ (la hl) ?_;clear hl;rintro c fs q' rfl hc hq)
   exact (Gg hc (.cons hv1 (.cons hv2 .nil)) (bG (m:=0) (out:=[]) (stk:=[]) (inds:=[]) ⟨by exact KG _,by exact Kk _ _,by exact Kk _ _⟩ hq M0)).mono M0
 (refine cF.k (C4 (b:=b) T hw hT hh C op ([.de cl,.st]++[]) j1 o1 c1.1 c1.2 ⟨by lia,by exact Ku _,by exact Kk _ _⟩) ?_;rintro j2 w2 o2 hC v2 l2 t2)
 obtain ⟨s3,hde,hst3,hemp,t3,l3⟩:∃ s:ES,gZ b (.de cl) [.st] (mk C 388 [] .none [] w2 w2 j2 o2) s∧s.st=381∧(∃ ln col,s=⟨381,[],.none,[],0,j2.rc,j2.sc,j2.mc,j2.kc,ln,col,true,true,C.can,C.au,C.bw,bu,.none,.none,s.out⟩)∧bA s.out=vt w2 o2++(match cl with|true=>[46,46,46,10]|false=>[])∧s.out.length≤o2.length+5:=by
  obtain ⟨rc,sc,mc,kc,ln,col⟩:=j2;have R2:Rm 100 ([]:List Nat) ([]:List V) o2:=⟨by lia,by exact Kk _ _,by exact Kk _ _⟩
  obtain ⟨ln',out',hW,tW,lW⟩:∃ ln' out',(∀ ev q,q.length≤10→EG 10 b 665 [] q ev (mk C 388 [] .none [] w2 w2 ⟨rc,sc,mc,kc,ln,col⟩ o2) (.v .none) ⟨388,[],.none,[],0,rc,sc,mc,kc,ln',0,true,true,C.can,C.au,C.bw,bu,.none,.none,out'⟩)∧bA out'=vt w2 o2∧out'.length≤o2.length+1:=by
   clear t2;clear hC;induction w2 using Bool.casesOn with
   |false=>exact cP _ _ (fun ev q hq=>(pG (n:=0) (.inl ⟨rfl,rfl⟩) (bG R2 hq M0)).mono M0) (by (change mW;change cV);simp [sp,vt,nl]) (by simp [i6])
   |true=>
    have hcol:col=0:=v2 rfl;clear v2;subst hcol;exact cP _ _ (fun ev q hq=>(sV (n:=0) (.inl ⟨rfl,rfl⟩) (bG R2 hq M0)).mono M0) (by change mW;simp [sp,vt,nl]) (by simp [i6])
  induction cl using Bool.casesOn with
  |false=>
   refine ow ⟨381,[],.none,[],0,rc,sc,mc,kc,ln',0,true,true,C.can,C.au,C.bw,bu,.none,.none,out'⟩ (eg (f:=388) (as:=[]) rfl rfl fun v q hv hl=>?_) rfl ⟨_,_,rfl⟩ (by change tW;simp) (by refine (?_:out'.length≤_);lia)
   (refine aN hv ?_;(try clear hv);rintro m ex rfl hv1)
   exact (Gi (.cons hv1 .nil) (hW _ q hl.1) (bG (m:=0) ⟨by lia,by exact Kk _ _,by exact Kk _ _⟩ hl.1 M0)).mono M0
  |true=>
   refine ow ⟨381,[],.none,[],0,rc,sc,mc,kc,ln'+1,0,true,true,C.can,C.au,C.bw,bu,.none,.none,[10]::[46,46,46]::out'⟩ (eg (f:=388) (as:=[]) rfl rfl fun v q hv hl=>?_) rfl ⟨_,_,rfl⟩ (by (change cV;change cV;change tW);exact Kw _ _ _) (by simp;lia)
   (refine aN hv ?_;(try clear hv);rintro m ex rfl hv1)
   exact (Gh (.cons hv1 .nil) (hW _ q hl.1) ((pG (n:=0) (.inl ⟨rfl,rfl⟩) (bG (m:=0) ⟨by simp;lia,by exact KG _,by exact KG _⟩ hl.1 M0)).mono M0) (bG (m:=0) ⟨by lia,by exact Kk _ _,by exact Kk _ _⟩ hl.1 M0)).mono M0
 (refine d6 hemp ?_;(try clear hemp);rintro ln3 col3 e3)
 refine eT ({ s3 with st:=366 }) (.cons (s1:=⟨373,[],.none,[],0,false,false,false,false,0,0,true,true,C.can,C.au,C.bw,.none,.none,.none,[]⟩) (eg (f:=359) (as:=[]) rfl rfl fun v q hv hl=>?_) (.cons (by change Kw;exact hds _) (hC.app (.cons hde (.one (eg (f:=381) (as:=[.v (.bool false)]) hst3 rfl fun v q hv hl=>?_)))))) ?_ ?_
 ·(refine ay hv ?_;(try clear hv);rintro fs rfl)
  exact (G4 (bG (C:=C) (m:=0) (out:=[]) (stk:=[]) (inds:=[]) ⟨by exact KG _,by exact Kk _ _,by exact Kk _ _⟩ hl.1 M0)).mono M0
 ·(refine ay hv ?_;(try clear hv);rintro fs rfl)
  change e3;exact (G3 (bG (m:=0) ⟨by lia,by exact Kk _ _,by exact Kk _ _⟩ hl.1 M0)).mono M0
 ·refine (?_:bA s3.out=_)
  (change t3;change t2;change t1)
  clear hde t3;induction cl using Bool.casesOn<;>rfl
 ·refine (?_:s3.out.length≤_);lia
noncomputable def di:List Kd→List V→Prop
 |[],[]=>True
 |k::ks,v::vs=>dD k v∧di ks vs
 |_,_=>False
theorem rY:∀ {ks:List Kd} {vs:List V},di ks vs→vs.length=ks.length
 |[],[],_=>rfl
 |k::ks,v::vs,h=>by simp [rY h.2]
 |[],_::_,h=>h.elim
 |_::_,[],h=>h.elim
theorem HP:∀ {ks ks':List Kd} {vs vs':List V},di ks vs→di ks' vs'→di (ks++ks') (vs++vs')
 |[],_,[],_,_,h=>h
 |k::ks,_,v::vs,_,h,h'=>⟨h.1,HP h.2 h'⟩
 |[],_,_::_,_,h,_=>h.elim
 |_::_,_,[],_,h,_=>h.elim
theorem xh {q:List V} (h:di [] q):q=[]:=by
 induction q using List.casesOn with
 |nil=>rfl
 |cons=>exact h.elim
theorem HQ {k:Kd} {q:List V} (h:di (k::r) q):∃ v q',q=v::q'∧dD k v∧di r q':=by
 induction q using List.casesOn with
 |nil=>exact h.elim
 |cons v q=>exact cP v q rfl h.1 h.2
theorem w9 (h:r.length≤0):r=[]:=List.eq_nil_of_length_eq_zero (Nat.le_zero.mp h)
noncomputable def Nx:Kd→List Kd→Prop
 |.ds _,r=>∃ k' r',r=k'::r'∧bW (cls k')
 |.sq _,r=>(∃ r',r=.se::r')∨(∃ k1 k2 r',r=k1::k2::r'∧bW (cls k1)∧bS (cls k2))
 |.mp _,r=>(∃ r',r=.me::r')∨(∃ k1 k2 k3 r',r=k1::k2::k3::r'∧bW (cls k1)∧bS (cls k2)∧bS (cls k3)∧(cls k1=217→bW (cls k2)))
 |_,_=>True
noncomputable def Vw:List Kd→Prop
 |[]=>True
 |k::r=>Nx k r∧Vw r
inductive dT:List Kd→Prop
 |nil:dT []
 |ds {x}:dT [.ds x]
 |sq {u}:dT [.sq u]
 |sq1 {u c}:bW (cls c)→dT [.sq u,c]
 |mp {u}:dT [.mp u]
 |mp1 {u c}:bW (cls c)→dT [.mp u,c]
 |mp2 {u c d}:bW (cls c)→bS (cls d)→dT [.mp u,c,d]
noncomputable def ji (b:Bool) (fut:List Kd) (sE s:ES) (q:List V):Prop:=∃ kq q' s',dT kq∧di kq q'∧Vw (kq++fut)∧Ch b (kq++fut) [] s' sE∧
 ∀ pl s2 q2 ev2 v0,MG 15 (fun R=>R.whl xp xq) (hE b pl s2 q2 ev2 s q .none) (lE b v0) .next (hE b pl s2 q2 ev2 s' q' .none) (lE b v0)
theorem iW {b:Bool} {s :ES} {q:List V} (n:NG b q true) (w:dT kq) (e:di kq q) (d:Vw (kq++fut)) (c:Ch b (kq++fut) [] s sE):ji b fut sE s q:=
 ⟨kq,q,s,w,e,d,c,fun pl s2 q2 ev2 v0=>Es (td n s pl s2 q2 ev2 v0)⟩
theorem eR {b:Bool} {k:Kd} {s :ES} {v:V} {q:List V} (n:NG b (v::q) false) (hr:wu k=true→r≠[]) (hl:r.length≤5) (e:di (k::r) (v::q)) (c:Ch b ((k::r)++fut) [] s sE)
  (go:∀ s1,Ch b (r++fut) [] s1 sE→ji b fut sE s1 q):ji b fut sE s (v::q):=by
 cases c with
 |cons st c=>
  (refine dp (go _ c) ?_;rintro kq q' s' w e' d c' m)
  have hq:=rY e.2;have la:hN k (r++fut++[]) q:=⟨by lia,fun hs=>by
   clear st c;clear go;induction r using List.casesOn with
   |nil=>exact absurd rfl (hr hs)
   |cons k' r'=>
    clear n m;induction q using List.casesOn with
    |nil=>exact e.2.elim
    |cons v' q'=>exact ⟨by (first|assumption|lia),v',q',rfl,e.2.1⟩⟩
  exact jW kq q' s' w e' d c' (fun pl s2 q2 ev2 v0=>Er (td n s pl s2 q2 ev2 v0) (st v q e.1 la pl s2 q2 ev2 v0) (m pl s2 q2 ev2 v0))
theorem fq {k:Kd} {v:V} (h:dD k v):∃ fs,v=.inst (cls k) fs:=rZ h
theorem mN {α:Type} {P:α→Prop}:∀ x∈([]:List α),P x:=fun _ h=>nomatch h
theorem mC {α:Type} {P:α→Prop} {a:α} {l:List α} (h:P a) (k:∀ x∈l,P x):∀ x∈a::l,P x:=fun x hx=>(KQ.mp hx).elim (fun e=>e▸h) (k x)
theorem mA {α:Type} {P:α→Prop} {l m:List α} (h:∀ x∈l,P x) (k:∀ x∈m,P x):∀ x∈l++m,P x:=fun x hx=>(Lb.mp hx).elim (h x) (k x)
theorem nR {G:Prop} {c:Nat} (h:bS c) (n:bq iw c=false):G:=by
 rcases h with rfl|rfl|rfl|rfl|rfl<;>exact ac n.symm
theorem jE {G:Prop} {c:Nat} (h:bW c) (n:bq ee c=false):G:=by
 rcases h with rfl|rfl|rfl<;>exact ac n.symm
@[elab_as_elim] theorem fm {motive:List V→Prop} {q:List V} (h:di [] q) (K:motive []):motive q:=(xh h).symm▸K
@[elab_as_elim] theorem eB {motive:List V→Prop} {k:Kd} {r:List Kd} {q:List V} (h:di (k::r) q) (K:∀ v q',dD k v→di r q'→motive (v::q')):motive q:=by
 (refine be (HQ h) ?_;rintro v q' e1 e2 e3)
 exact e1.symm▸K v q' e2 e3
theorem eS {b:Bool} {fut:List Kd} {sE:ES}:∀ (kq:List Kd) (q:List V) (s:ES),kq.length≤3→(∀ k∈kq,bS (cls k))→di kq q→Vw (kq++fut)→Ch b (kq++fut) [] s sE→ji b fut sE s q
 |[],[],s,_,_,e,d,c=>iW (kq:=[]) E9 .nil e d c
 |[],_::_,_,_,_,e,_,_=>e.elim
 |_::_,[],_,_,_,e,_,_=>e.elim
 |k::r,v::q,s,hl,h5,e,d,c=>by
  have go:∀ q',di r q'→∀ s1,Ch b (r++fut) [] s1 sE→ji b fut sE s1 q':=fun q' e' s1 c1=>eS r q' s1 (Nat.le_of_succ_le hl) (fun x hx=>h5 x (.tail _ hx)) e' d.2 c1;have hl':r.length≤2:=by simpa using hl
  (refine ay (fq e.1) ?_;rintro fs hv)
  cases k with
  |sc k=>subst hv;exact eR (jF (.inr (.inr (.inr (.inl rfl))))) (fun h=>by exact ac h) (by exact Kl M1 (Kk _ _)) e c (go q e.2)
  |se=>subst hv;exact eR (jF (.inr (.inr (.inr (.inr (.inl rfl)))))) (fun h=>by exact ac h) (by exact Kl M1 (Kk _ _)) e c (go q e.2)
  |me=>subst hv;exact eR (jF (.inr (.inr (.inr (.inr (.inr rfl)))))) (fun h=>by exact ac h) (by exact Kl M1 (Kk _ _)) e c (go q e.2)
  |ds=>exact nR (h5 _ (.head _)) rfl
  |de=>exact nR (h5 _ (.head _)) rfl
  |ss=>exact nR (h5 _ (.head _)) rfl
  |st=>exact nR (h5 _ (.head _)) rfl
  |sq u=>
   subst hv
   (refine aw e ?_;(try clear e);rintro e0 e1)
   induction r using List.casesOn with
   |nil=>exact fm e1 (iW (kq:=[.sq u]) E8 .sq ⟨e0,trivial⟩ d c)
   |cons x r=>
    revert e1;refine fun e1=>eB e1 fun w q ew e2=>?_
    (refine ay (fq ew) ?_;rintro f2 hw)
    induction r using List.casesOn with
    |nil=>
     refine fm e2 ?_;rcases d.1 with ⟨r',h⟩|⟨k1,k2,r',h,h1,h2⟩
     ·clear hl' hl h5 d e1;obtain rfl:=(Kr h).1;exact eR (r:=[.se]) (q:=[w]) (by change hw;exact E6) (fun _=>Lo _ _) (by exact Ku _) ⟨e0,ew,trivial⟩ c (go [w] ⟨ew,trivial⟩)
     ·have h1:bW (cls x):=(Kr h).1▸h1;exact iW (kq:=[.sq u,x]) (by change hw;exact E7 h1) (.sq1 h1) ⟨e0,ew,trivial⟩ d c
    |cons y r=>
     obtain rfl:=w9 (L2 (L2 hl'));refine eB e2 fun z q ez e3=>fm e3 ?_
     (refine ay (fq ez) ?_;rintro f3 hz)
     have hy:bS (cls y):=h5 y (.tail _ (.tail _ (.head _)));have l:([x,y]:List Kd).length≤5:=by exact Kk _ _
     rcases d.1 with ⟨r',h⟩|⟨k1,k2,r',h,h1,h2⟩
     ·clear hl' hl h5 d e1;obtain rfl:=(Kr h).1;exact eR (r:=[.se,y]) (q:=[w,z]) (by (change hw;change hz);exact DZ hy) (fun _=>Lo _ _) l ⟨e0,ew,ez,trivial⟩ c (go [w,z] ⟨ew,ez,trivial⟩)
     ·exact eR (r:=[x,y]) (q:=[w,z]) (by (change hw;change hz);exact E5 ((Kr h).1▸h1) hy) (fun _=>Lo _ _) l ⟨e0,ew,ez,trivial⟩ c (go [w,z] ⟨ew,ez,trivial⟩)
  |mp u=>
   subst hv
   (refine aw e ?_;(try clear e);rintro e0 e1)
   induction r using List.casesOn with
   |nil=>exact fm e1 (iW (kq:=[.mp u]) Ef .mp ⟨e0,trivial⟩ d c)
   |cons x r=>
    revert e1;refine fun e1=>eB e1 fun w q ew e2=>?_
    (refine ay (fq ew) ?_;rintro f2 hw)
    induction r using List.casesOn with
    |nil=>
     refine fm e2 ?_;rcases d.1 with ⟨r',h⟩|⟨k1,k2,k3,r',h,h1,h2,h3,h4⟩
     ·clear hl' hl h5 d e1;obtain rfl:=(Kr h).1;exact eR (r:=[.me]) (q:=[w]) (by change hw;exact Ed) (fun _=>Lo _ _) (by exact Ku _) ⟨e0,ew,trivial⟩ c (go [w] ⟨ew,trivial⟩)
     ·have h1:bW (cls x):=(Kr h).1▸h1;exact iW (kq:=[.mp u,x]) (by change hw;exact Ee h1) (.mp1 h1) ⟨e0,ew,trivial⟩ d c
    |cons y r=>
     obtain rfl:=w9 (L2 (L2 hl'));refine eB e2 fun z q ez e3=>fm e3 ?_
     (refine ay (fq ez) ?_;rintro f3 hz)
     have hy:bS (cls y):=h5 y (.tail _ (.tail _ (.head _)));rcases d.1 with ⟨r',h⟩|⟨k1,k2,k3,r',h,h1,h2,h3,h4⟩
     ·clear hl' hl h5 d e1;obtain rfl:=(Kr h).1;exact eR (r:=[.me,y]) (q:=[w,z]) (by (change hw;change hz);exact Eb hy) (fun _=>Lo _ _) (by exact Kk _ _) ⟨e0,ew,ez,trivial⟩ c (go [w,z] ⟨ew,ez,trivial⟩)
     ·have ex:=(Kr h).1;have ey:=(Kr (Kr h).2).1;have h1:bW (cls x):=ex▸h1;have h4:cls x=217→bW (cls y):=ex▸ey▸h4;exact iW (kq:=[.mp u,x,y]) (by (change hw;change hz);exact Ec (h1.elim (fun h=>.inl ⟨h,h4 h⟩) fun h=>.inr ⟨h,hy⟩)) (.mp2 h1 hy) ⟨e0,ew,ez,trivial⟩ d c
theorem jv {c:Nat} (h:bW c):bS c:=by
 rcases h with h|h|h
 ·exact .inl h
 ·exact .inr (.inl h)
 ·exact .inr (.inr (.inl h))
theorem DK {u:Nat} {k:Kd} (h:Nx (.sq u) (k::r)):bS (cls k):=by
 rcases h with ⟨r',h⟩|⟨k1,k2,r',h,h1,h2⟩<;>refine aU (Kr h).1 ?_
 ·exact .inr (.inr (.inr (.inl rfl)))
 ·exact jv h1
theorem DN {u:Nat} {k:Kd} (h:Nx (.mp u) (k::r)):bS (cls k):=by
 rcases h with ⟨r',h⟩|⟨k1,k2,k3,r',h,h1,h2⟩<;>refine aU (Kr h).1 ?_
 ·exact .inr (.inr (.inr (.inr rfl)))
 ·exact jv h1
theorem DJ {u:Nat} {y k:Kd} (h:Nx (.sq u) (y::k::r)) (w:bW (cls y)):bS (cls k):=by
 rcases h with ⟨r',h⟩|⟨k1,k2,r',h,h1,h2⟩
 ·exact jE ((Kr h).1▸w) rfl
 ·exact (Kr (Kr h).2).1▸h2
theorem DM {u:Nat} {y k:Kd} (h:Nx (.mp u) (y::k::r)) (w:bW (cls y)):bS (cls k):=by
 rcases h with ⟨r',h⟩|⟨k1,k2,k3,r',h,h1,h2,_⟩
 ·exact jE ((Kr h).1▸w) rfl
 ·exact (Kr (Kr h).2).1▸h2
theorem DL {u:Nat} {y z k:Kd} (h:Nx (.mp u) (y::z::k::r)) (w:bW (cls y)):bS (cls k):=by
 rcases h with ⟨r',h⟩|⟨k1,k2,k3,r',h,h1,h2,h3,_⟩
 ·exact jE ((Kr h).1▸w) rfl
 ·exact (Kr (Kr (Kr h).2).2).1▸h3
theorem F4 {b:Bool} {s :ES} {k:Kd} {q:List V} {v:V} (w:dT kq) (e:di kq q) (hv:dD k v) (d:Vw (kq++(k::fut))) (c:Ch b (kq++(k::fut)) [] s sE):ji b fut sE s (q++[v]):=by
 cases w with
 |nil=>
  obtain rfl:=xh e;have e:di [k] [v]:=⟨hv,trivial⟩
  (refine ay (fq hv) ?_;rintro fs hv')
  have go:∀ s1,Ch b ([]++fut) [] s1 sE→ji b fut sE s1 []:=fun s1 c1=>eS [] [] s1 (by exact Kk _ _) (fun _ h=>nomatch h) trivial d.2 c1;cases k with
  |ss=>clear hv;subst hv';exact eR (r:=[]) (jF (.inl rfl)) (fun h=>by exact ac h) (by exact Kk _ _) e c go
  |st=>clear hv;subst hv';exact eR (r:=[]) (jF (.inr (.inl rfl))) (fun h=>by exact ac h) (by exact Kk _ _) e c go
  |de=>clear hv;subst hv';exact eR (r:=[]) (jF (.inr (.inr (.inl rfl)))) (fun h=>by exact ac h) (by exact Kk _ _) e c go
  |ds x=>clear hv;subst hv';exact iW (kq:=[.ds x]) Eh .ds e d c
  |sc=>exact eS [_] [v] s (by exact Ku _) (mC (.inl rfl) mN) e d c
  |sq=>exact eS [_] [v] s (by exact Ku _) (mC (.inr (.inl rfl)) mN) e d c
  |mp=>exact eS [_] [v] s (by exact Ku _) (mC (.inr (.inr (.inl rfl))) mN) e d c
  |se=>exact eS [_] [v] s (by exact Ku _) (mC (.inr (.inr (.inr (.inl rfl)))) mN) e d c
  |me=>exact eS [_] [v] s (by exact Ku _) (mC (.inr (.inr (.inr (.inr rfl)))) mN) e d c
 |@ds x=>
  refine eB e fun u q e0 e1=>fm e1 ?_
  (refine aN (d.1) ?_;rintro k' r' h h3)
  have h3:bW (cls k):=(Kr h).1▸h3
  (refine ay (fq e0) ?_;rintro f1 hu)
  (refine ay (fq hv) ?_;rintro f2 hv')
  exact eR (k:=.ds x) (r:=[k]) (q:=[v]) (by (change hu;change hv');exact Eg h3) (fun _=>Lo _ _) (by exact Ku _) ⟨e0,hv,trivial⟩ c fun s1 c1=>eS [k] [v] s1 (by exact Ku _) (mC (jv h3) mN) ⟨hv,trivial⟩ d.2 c1
 |@sq u=>
  exact eB e fun x q e0 e1=>fm e1 (eS [.sq u,k] [x,v] s (by exact Kk _ _) (mC (.inr (.inl rfl)) (mC (DK d.1) mN)) ⟨e0,hv,trivial⟩ d c)
 |@sq1 u y1 w=>
  exact eB e fun x1 q e0 e1=>eB e1 fun x2 q e2 e3=>fm e3 (eS [.sq u,y1,k] [x1,x2,v] s (by exact KC _) (mC (.inr (.inl rfl)) (mC (jv w) (mC (DJ d.1 w) mN))) ⟨e0,e2,hv,trivial⟩ d c)
 |@mp u=>
  exact eB e fun x q e0 e1=>fm e1 (eS [.mp u,k] [x,v] s (by exact Kk _ _) (mC (.inr (.inr (.inl rfl))) (mC (DN d.1) mN)) ⟨e0,hv,trivial⟩ d c)
 |@mp1 u y1 w=>
  exact eB e fun x1 q e0 e1=>eB e1 fun x2 q e2 e3=>fm e3 (eS [.mp u,y1,k] [x1,x2,v] s (by exact KC _) (mC (.inr (.inr (.inl rfl))) (mC (jv w) (mC (DM d.1 w) mN))) ⟨e0,e2,hv,trivial⟩ d c)
 |@mp2 u y1 y2 w1 w2=>
  refine eB e fun x1 q e0 e1=>eB e1 fun x2 q e2 e3=>eB e3 fun x3 q e4 e5=>fm e5 ?_;have h5:=DL d.1 w1
  (refine ay (fq e0) ?_;rintro f1 h1)
  (refine ay (fq e2) ?_;rintro f2 h2)
  (refine ay (fq e4) ?_;rintro f3 h3)
  (refine ay (fq hv) ?_;rintro f4 h4)
  exact eR (k:=.mp u) (r:=[y1,y2,k]) (q:=[x2,x3,v]) (by (change h1;change h2;change h3;change h4);exact Ea w1 w2 h5) (fun _=>Lo _ _) (by exact Kk _ _) ⟨e0,e2,e4,hv,trivial⟩ c fun s1 c1=>eS [y1,y2,k] [x2,x3,v] s1 (by exact KC _) (mC (jv w1) (mC w2 (mC h5 mN))) ⟨e2,e4,hv,trivial⟩ d.2 c1
theorem yT (w:dT kq):kq.length≤3:=by
 cases w<;>exact KB rfl
theorem sY (w:dT kq) (d:Vw (kq++[])):kq=[]:=by
 rw [Kt] at d;cases w with
 |nil=>rfl
 |ds=>(refine aN (d.1) ?_;rintro k' r' h _);contradiction
 |sq=>rcases d.1 with ⟨r',h⟩|⟨k1,k2,r',h,_⟩<;>contradiction
 |sq1 w=>
  rcases d.1 with ⟨r',h⟩|⟨k1,k2,r',h,_⟩
  ·exact jE ((Kr h).1▸w) rfl
  ·cases (Kr h).2
 |mp=>rcases d.1 with ⟨r',h⟩|⟨k1,k2,k3,r',h,_⟩<;>contradiction
 |mp1 w=>
  rcases d.1 with ⟨r',h⟩|⟨k1,k2,k3,r',h,_⟩
  ·exact jE ((Kr h).1▸w) rfl
  ·cases (Kr h).2
 |mp2 w w2=>
  rcases d.1 with ⟨r',h⟩|⟨k1,k2,k3,r',h,_⟩
  ·exact jE ((Kr h).1▸w) rfl
  ·cases (Kr (Kr h).2).2
theorem xn {b:Bool} {s :ES} {k:Kd} {q:List V} {v:V} (w:dT kq) (e:di kq q) (hv:dD k v) (d:Vw (kq++(k::fut))) (c:Ch b (kq++(k::fut)) [] s sE):
  ∃ kq' q' s',dT kq'∧di kq' q'∧Vw (kq'++fut)∧Ch b (kq'++fut) [] s' sE∧∀ pl s2 q2 ev2,FG 15 ⟨330,[.r (bs b+2),.v v],hE b pl s2 q2 ev2 s q .none,.v .none,hE b pl s2 q2 ev2 s' q' .none⟩:=by
 (refine dp (F4 w e hv d c) ?_;rintro kq' q' s' w' e' d' c' m)
 refine jW kq' q' s' w' e' d' c' (fun pl s2 q2 ev2=>?_);have hq:=rY e;have hw:=yT w;have hl:lim=1048576:=rfl;have a:=Jm (b:=b) (q:=q) M2 s pl s2 q2 ev2 v;exact wY (F:=wZ) (lc':=lE b v) rfl (dw a (fg (b:=[]) (m pl s2 q2 ev2 v) bd))
noncomputable def aH:Kd→V
 |.sc k=>.tup [.int 0,.int k]|.sq t=>.tup [.int 2,.int t]|.mp t=>.tup [.int 3,.int t]|.se=>.tup [.int 4,.int 0]|.me=>.tup [.int 5,.int 0]
 |.ds b=>.tup [.int 6,.bool b]|.de b=>.tup [.int 7,.bool b]|.ss=>.tup [.int 8,.int 0]|.st=>.tup [.int 9,.int 0]
noncomputable def fP:Kd→Prop|.sc k=>k < 6|.sq t=>t < 3|.mp t=>t < 3|_=>True
noncomputable def In (m:Nat) (i:Int):Prop:=0≤i∧i < (m:Int)
theorem mh (i:Int):In 2 (i % 2):=⟨by lia,by refine (?_:i % 2 < (2:Int));lia⟩
theorem jU (i:Int):In 3 (i % 3):=⟨by lia,by refine (?_:i % 3 < (3:Int));lia⟩
theorem rP {x :V} (i:Int):cZ [x,y] (i % 2)=x∨cZ [x,y] (i % 2)=y:=by
 have h:i % 2=0∨i % 2=1:=by lia
 rcases h with h|h<;>change h
 ·exact .inl rfl
 ·exact .inr rfl
theorem gT {x :V} (i:Int):cZ [x,y,z] (i % 3)=x∨cZ [x,y,z] (i % 3)=y∨cZ [x,y,z] (i % 3)=z:=by
 have h:i % 3=0∨i % 3=1∨i % 3=2:=by lia
 rcases h with h|h|h<;>change h
 ·exact .inl rfl
 ·exact .inr (.inl rfl)
 ·exact .inr (.inr rfl)
noncomputable def oC (n:Int):V:=cZ [.none,.str [33,104],.str [122]] (n / 2 / 6 % 3)
noncomputable def gi (n:Int):V:=cZ [.none,.int 5] (n % 2)
theorem Gn (n:Int):∃ t,t < 3∧oC n=cr t:=by
 rcases gT (x:=.none) (y:=.str [33,104]) (z:=.str [122]) (n / 2 / 6) with h|h|h
 ·exact aF 0 M0 h
 ·exact aF 1 M0 h
 ·exact aF 2 M0 h
noncomputable def rR (k:Nat) (n:Int):V:=match Nat.blt k 2 with
 |true=>cZ [.tup [.bool true,.bool true],.tup [.bool true,.bool false],.tup [.int 1,.int 0]] (n / 2 % 3)
 |false=>cZ [.tup [.bool true,.bool true],.tup [.bool false,.bool true],.tup [.int 0,.int 1]] (n / 2 % 3)
noncomputable def mq (n:Int):V:=cZ [.none,.str []] (n / 2 / 3 % 2)
theorem Fc (k:Nat) (n:Int):sN k (rR k n) (mq n):=by
 have sty:ea (mq n) (.str [34])=some false∧tv (mq n)=some false:=by
  rcases rP (x:=.none) (y:=.str []) (n / 2 / 3) with h|h<;>(unfold mq;change h;exact ⟨rfl,rfl⟩)
 unfold rR;induction hk:Nat.blt k 2 using Bool.casesOn with
 |true=>
  have hk:k < 2:=by simpa using hk
  dsimp only;rcases gT (x:=.tup [.bool true,.bool true]) (y:=.tup [.bool true,.bool false]) (z:=.tup [.int 1,.int 0]) (n / 2) with h|h|h<;>change h
  ·exact ⟨true,true,fun _=>rfl,fun _=>rfl,rfl,rfl,sty.1,sty.2,rfl,rfl⟩
  ·exact ⟨true,false,fun _=>rfl,fun h=>by lia,rfl,rfl,sty.1,sty.2,rfl,rfl⟩
  ·exact ⟨true,false,fun _=>rfl,fun h=>by lia,rfl,rfl,sty.1,sty.2,rfl,rfl⟩
 |false=>
  have hk:¬ k < 2:=by intro h;rw [show Nat.blt k 2=true by simpa using h] at hk;contradiction
  dsimp only;rcases gT (x:=.tup [.bool true,.bool true]) (y:=.tup [.bool false,.bool true]) (z:=.tup [.int 0,.int 1]) (n / 2) with h|h|h<;>change h
  ·exact ⟨true,true,fun _=>rfl,fun _=>rfl,rfl,rfl,sty.1,sty.2,rfl,rfl⟩
  ·exact ⟨false,true,fun h=>absurd h hk,fun _=>rfl,rfl,rfl,sty.1,sty.2,rfl,rfl⟩
  ·exact ⟨false,true,fun h=>absurd h hk,fun _=>rfl,rfl,rfl,sty.1,sty.2,rfl,rfl⟩
noncomputable def kh (t:Nat) (n:Int):V:=match t with
 |0=>cZ [.none,.bool false,.int 0] (n / 2 % 3)|1=>cZ [.bool true,.int 1,.str [120]] (n / 2 % 3)|_=>cZ [.none,.bool true,.bool false] (n / 2 % 3)
noncomputable def oD (n:Int):V:=cZ [.bool true,.int 1] (n / 2 / 3 % 2)
theorem fl_ok {t:Nat} (h:t < 3) (n:Int):sS t (kh t n):=by
 refine rq h ?_ ?_ ?_
 ·
  rcases gT (x:=.none) (y:=.bool false) (z:=.int 0) (n / 2) with h|h|h<;>(unfold kh;change h;exact eT false rfl (fun _=>rfl) (fun h=>nomatch h))
 ·
  rcases gT (x:=.bool true) (y:=.int 1) (z:=.str [120]) (n / 2) with h|h|h<;>(unfold kh;change h;exact eT true rfl (fun h=>(nomatch h)) (fun _=>rfl))
 ·
  rcases gT (x:=.none) (y:=.bool true) (z:=.bool false) (n / 2) with h|h|h<;>(unfold kh;change h)
  ·exact eT false rfl (fun h=>(nomatch h)) (fun h=>(nomatch h))
  ·exact eT true rfl (fun h=>(nomatch h)) (fun h=>(nomatch h))
  ·exact eT false rfl (fun h=>(nomatch h)) (fun h=>(nomatch h))
theorem wG (n:Int):tv (oD n)=some true:=by
 rcases rP (x:=.bool true) (y:=.int 1) (n / 2 / 3) with h|h<;>(unfold oD;change h;rfl)
noncomputable def mr (b:Bool) (n:Int):V:=match b with|true=>cZ [.bool true,.int 1,.bool true] (n / 2 % 3)|false=>cZ [.bool false,.none,.int 0] (n / 2 % 3)
theorem x7 (b:Bool) (n:Int):tv (mr b n)=some b:=by
 induction b using Bool.casesOn with
 |true=>rcases gT (x:=.bool true) (y:=.int 1) (z:=.bool true) (n / 2) with h|h|h<;>(unfold mr;dsimp only;change h;rfl)
 |false=>rcases gT (x:=.bool false) (y:=.none) (z:=.int 0) (n / 2) with h|h|h<;>(unfold mr;dsimp only;change h;rfl)
noncomputable def rQ (n:Int):V:=cZ [.none,.dct []] (n / 2 / 3 % 2)
theorem zs (n:Int):tv (rQ n)=some false:=by
 rcases rP (x:=.none) (y:=.dct []) (n / 2 / 3) with h|h<;>(unfold rQ;change h;rfl)
theorem l4 (n:Int):bj [In 2 (n / 2 / 3 % 2),In 3 (n / 2 % 3),In 3 (n / 2 / 6 % 3),In 2 (n % 2)]:=.cons (mh _) (.cons (jU _) (.cons (jU _) (.cons (mh _) .nil)))
theorem l3 (n:Int):bj [In 3 (n / 2 % 3),In 3 (n / 2 / 6 % 3),In 2 (n % 2)]:=.cons (jU _) (.cons (jU _) (.cons (mh _) .nil))
theorem l2 (n:Int):bj [In 3 (n / 2 / 6 % 3),In 2 (n % 2)]:=.cons (jU _) (.cons (mh _) .nil)
theorem xg {k:Kd} (hk:fP k) (n:Int):∃ v,dD k v∧FG 4 ⟨803,[.v (aH k),.v (.sint n)],[],.v v,[]⟩:=by
 (refine am (Gn n) ?_;rintro t ht htag)
 cases k with
 |sc k=>
  refine aF (gV (oC n) (rR k n) (mq n) (gi n) k) ⟨t,_,_,_,ht,Fc k n,by (change htag;with_reducible rfl)⟩ ?_;have hk:k < 6:=hk;refine iV hk ?_ ?_ ?_ ?_ ?_ ?_
  ·exact bx 60 [] (l4 n) ()
  ·exact bx 60 [] (l4 n) ()
  ·exact bx 60 [] (l4 n) ()
  ·exact bx 60 [] (l3 n) ()
  ·exact bx 60 [] (l3 n) ()
  ·exact bx 60 [] (l3 n) ()
 |sq u=>
  refine aF (mB (oC n) (oD n) (gi n) (kh u n)) ⟨t,_,_,_,ht,wG n,fl_ok hk n,by (change htag;with_reducible rfl)⟩ ?_;have hk:u < 3:=hk;refine rq hk ?_ ?_ ?_
  ·exact bx 60 [] (l4 n) ()
  ·exact bx 60 [] (l4 n) ()
  ·exact bx 60 [] (l4 n) ()
 |mp u=>
  refine aF (mD (oC n) (oD n) (gi n) (kh u n)) ⟨t,_,_,_,ht,wG n,fl_ok hk n,by (change htag;with_reducible rfl)⟩ ?_;have hk:u < 3:=hk;refine rq hk ?_ ?_ ?_
  ·exact bx 60 [] (l4 n) ()
  ·exact bx 60 [] (l4 n) ()
  ·exact bx 60 [] (l4 n) ()
 |se=>exact aF (.inst 241 [(2,.opq (gi n)),(3,.opq (gi n))]) ⟨_,rfl⟩ (bx 60 [] (l2 n) ())
 |me=>exact aF (.inst 265 [(2,.opq (gi n)),(3,.none)]) ⟨_,rfl⟩ (bx 60 [] (l2 n) ())
 |ds b=>
  refine aF (oO (gi n) (mr b n) (rQ n)) ⟨_,_,_,rfl,x7 b n,zs n⟩ ?_;clear hk;induction b using Bool.casesOn<;>exact bx 60 [] (l4 n) ()
 |de b=>
  refine aF (ja (gi n) (mr b n)) ⟨_,_,rfl,x7 b n⟩ ?_;clear hk;induction b using Bool.casesOn<;>exact bx 60 [] (l3 n) ()
 |ss=>exact aF (.inst 133 [(2,.opq (gi n)),(3,.none),(8,.none)]) ⟨_,rfl⟩ (bx 60 [] (l3 n) ())
 |st=>exact aF (.inst 145 [(2,.opq (gi n)),(3,.none)]) ⟨_,rfl⟩ (bx 60 [] (l3 n) ())
theorem aK {α:Type} {m:ao→Mo α} (hm:∀ R R',gr R R'→aW (m R) (m R')) {d:Nat} (n:Nat) (ds:List Nat) {L:List Prop} (t:bj L) {h :List a8} {lc :List (Nat×X)} {x:α}
  (e:sL m [] n d h lc ds x h' lc' L):MG d m h lc x h' lc':=jL hm (D:=0) aM.nil (br _) n ds t e
theorem rf {q:bH} {lc:List (Nat×X)} (h:FG D q):MG (D+1) (fun R=>R.fn q.f q.args) q.h lc q.x q.h' lc:=by
 (refine ay h ?_;(try clear h);rintro n0 k)
 refine ba (n0+1) (fun n d u w=>?_);obtain ⟨m,rfl⟩:∃ m,n=m+1:=⟨n - 1,by lia⟩
 obtain ⟨e,rfl⟩:∃ e,d=e+1:=⟨d - 1,by lia⟩
 (refine aN (k m e (by exact L2 M1) (by exact L2 M1)) ?_;rintro ds l t k)
 exact bI ds l t (fun lc1 hs=>⟨lc1,hs,fun r o=>k lc1 r o⟩)
theorem Ex {c :Nat} {h :List a8} {lc:List (Nat×X)} (hc:d7 T7 f (.r h.length::xs) ys=some args) (k:FG D ⟨f,args,h++[.ins c []],.v .none,h'⟩):MG (D+1) (fun R=>fF T7 R c f xs ys) h lc (.r h.length) h' lc:=by
 (refine ay (rf (lc:=lc) k) ?_;rintro n0 k)
 refine ba n0 (fun n d u w=>?_)
 (refine aN (k n d u w) ?_;rintro ds l t k)
 refine bI ds l t (fun lc1 hs=>?_)
 (refine am (k lc1 hs) ?_;rintro aQ hs2 k)
 refine aF aQ hs2 (fun r o=>?_);have k:=k r o;dsimp only [fF];dsimp only at k ⊢;change hc;dsimp only
 (change k;with_reducible rfl)
noncomputable def cA (k:Bool) (pl:List V) (s:ES):List a8:=match k with|false=>[.lst pl]|true=>.lst pl::em 1 s [] .none
noncomputable def b0 (k:Bool):Nat:=match k with|false=>1|true=>7
noncomputable def gW (b:Nat) (can au:V):List (Nat×X):=[(23,.r b),(8,.v .none),(24,.r (b+3)),(25,.m (b+2) 359),(27,.r (b+4)),(28,.v .none),(29,.r (b+5)),(30,.v .none),(31,.v (.int 0)),
  (32,.v (.bool false)),(33,.v (.bool false)),(34,.v (.bool false)),(35,.v (.bool false)),(36,.v (.sint 0)),(37,.v (.int 0)),(38,.v (.bool true)),(39,.v (.bool true)),
  (40,.v (.bool false)),(41,.v (.opq can)),(42,.v (.opq au)),(43,.v (.int 2))]
noncomputable def eH (k:Bool) (pl:List V) (s:ES) (fs:List (Nat×X)):List a8:=cA k pl s++[.ins 771 [(170,.r (b0 k+1))],.strs [],.ins 736 fs,.bms (b0 k+2) [],.lst [],.stk []]
noncomputable def eL (k:Bool) (can iv wv au lv:V):List (Nat×X):=[(1,.r (b0 k+2)),(23,.r (b0 k)),(41,.v (.opq can)),(30,.v iv),(45,.v wv),(42,.v (.opq au)),(47,.v lv)]
noncomputable def sP (v:V):Prop:=v=.int 2∨v=.none∨v=.int 0∨v=.int 1∨v=.int 10∨v=.int (-3)∨v=.int 99
noncomputable def sF (v:V) (w:Int):Prop:=(v=.int 80∧w=80)∨(v=.none∧w=80)∨(v=.int 0∧w=80)∨(v=.int 4∧w=80)∨(v=.int (-1)∧w=80)∨(v=.int 500∧w=500)
noncomputable def sM (v:V):Prop:=v=.str [10]∨v=.none∨v=.str []∨v=.str [120]
theorem FK {k:Bool} {s:ES}:MG 1 (bf (eU.body.take 21)) (cA k pl s++[.ins 771 [(170,.r (b0 k+1))],.strs [],.ins 736 []]) (eL k can iv wv au lv) .next (eH k pl s (gW (b0 k) can au)) (eL k can iv wv au lv):=
 aK (fun R R' H=>bm H) 60 [] (L:=[]) .nil (by induction k using Bool.casesOn<;>kernel_rfl)
theorem FJ {k:Bool} {s:ES} (h:sP iv):MG 1 (bf [eU.body.getD 21 .pass]) (eH k pl s (gW (b0 k) can au)) (eL k can iv wv au lv) .next (eH k pl s (gW (b0 k) can au)) (eL k can iv wv au lv):=by
 rcases h with rfl|rfl|rfl|rfl|rfl|rfl|rfl<;>exact aK (fun R R' H=>bm H) 60 [] (L:=[]) .nil (by induction k using Bool.casesOn<;>kernel_rfl)
theorem FI {k:Bool} {s:ES}:MG 1 (bf [eU.body.getD 22 .pass]) (eH k pl s (gW (b0 k) can au)) (eL k can iv wv au lv) .next (eH k pl s (gW (b0 k) can au++[(44,.v (.sint 80))])) (eL k can iv wv au lv):=
 aK (fun R R' H=>bm H) 60 [] (L:=[]) .nil (by induction k using Bool.casesOn<;>kernel_rfl)
theorem FH {k:Bool} {s:ES} {w:Int} (h:sF wv w):MG 1 (bf [eU.body.getD 23 .pass]) (eH k pl s (gW (b0 k) can au++[(44,.v (.sint 80))])) (eL k can iv wv au lv) .next (eH k pl s (gW (b0 k) can au++[(44,.v (.sint w))])) (eL k can iv wv au lv):=by
 have lt:(2:Int).natAbs≤lim∧(2:Int).natAbs≤lim:=⟨by decide,by decide⟩
 rcases h with ⟨rfl,rfl⟩|⟨rfl,rfl⟩|⟨rfl,rfl⟩|⟨rfl,rfl⟩|⟨rfl,rfl⟩|⟨rfl,rfl⟩
 ·exact aK (fun R R' H=>bm H) 60 [] (.cons lt .nil) (by induction k using Bool.casesOn<;>kernel_rfl)
 ·exact aK (fun R R' H=>bm H) 60 [] (L:=[]) .nil (by induction k using Bool.casesOn<;>kernel_rfl)
 ·exact aK (fun R R' H=>bm H) 60 [] (L:=[]) .nil (by induction k using Bool.casesOn<;>kernel_rfl)
 ·exact aK (fun R R' H=>bm H) 60 [] (.cons lt .nil) (by induction k using Bool.casesOn<;>kernel_rfl)
 ·exact aK (fun R R' H=>bm H) 60 [] (.cons lt .nil) (by induction k using Bool.casesOn<;>kernel_rfl)
 ·exact aK (fun R R' H=>bm H) 60 [] (.cons lt .nil) (by induction k using Bool.casesOn<;>kernel_rfl)
theorem FF {k:Bool} {s:ES} {w:Int} (h:sM lv):MG 1 (bf (eU.body.drop 24)) (eH k pl s (gW (b0 k) can au++[(44,.v (.sint w))])) (eL k can iv wv au lv) .next (eH k pl s (gW (b0 k) can au++[(44,.v (.sint w)),(46,.v (.str [10])),(48,.v .none),(49,.v .none),(50,.v .none),(51,.v .none),(13,.v .none)])) (eL k can iv wv au lv):=by
 rcases h with rfl|rfl|rfl|rfl<;>exact aK (fun R R' H=>bm H) 60 [] (L:=[]) .nil (by induction k using Bool.casesOn<;>kernel_rfl)
theorem FE {k:Bool} {s:ES} {w:Int} (C:CC) (h1:C.can=can) (h2:C.au=au) (h3:C.bw=w) (hi:sP iv) (hw:sF wv w) (hl:sM lv):
  FG 1 ⟨316,[.r (b0 k+2),.r (b0 k),.v (.opq can),.v iv,.v wv,.v (.opq au),.v lv],cA k pl s++[.ins 771 [(170,.r (b0 k+1))],.strs [],.ins 736 []],.v .none,cA k pl s++em (b0 k) (dC C) [] .none⟩:=by
 subst h1 h2 h3;have e:eU.body=eU.body.take 21++([eU.body.getD 21 .pass]++([eU.body.getD 22 .pass]++([eU.body.getD 23 .pass]++eU.body.drop 24))):=by rfl
 refine wY (F:=eU) (lc':=eL k C.can iv wv C.au lv) (by rfl) ?_;change e;have a:=dw (FK (k:=k) (pl:=pl) (s:=s) (can:=C.can) (iv:=iv) (wv:=wv) (au:=C.au) (lv:=lv)) (dw (FJ hi) (dw FI (dw (FH hw) (FF hl))));exact a
theorem mz {c:Nat×CE} {r:List (Nat×CE)} {x:X} {xs:List (Nat×X)} {h :List a8} {lc lc1 aQ:List (Nat×X)} (a:MG D (fun R=>R.e c.2) h lc x h1 lc1) (k:MG D (fun R=>eV R r) h1 lc1 xs h2 aQ):MG D (fun R=>eV R (c::r)) h lc ((c.1,x)::xs) h2 aQ:=
 aP a (aP k bd)
theorem dB {c:CE} {x:X} {h :List a8} {lc :List (Nat×X)} (a:MG D (fun R=>bh T7 R c) h lc x h' lc'):MG D (fun R=>R.e c) h lc x h' lc':=jH a fun _ _ _=>rfl
noncomputable def eE (i:Nat):CE:=match rX.body with|[.ret (.new _ _ _ _ ks)]=>(ks.getD i (0,.stuck)).2|_=>.stuck
noncomputable def JQ (i:Int):V:=if i=0 then .int 2 else if i=1 then .none else if i=2 then .int 0 else if i=3 then .int 1 else if i=4 then .int 10 else if i=5 then .int (-3) else .int 99
theorem Ij {n:Int} {h:List a8}:∃ v,sP v∧MG 1 (fun R=>R.e (eE 1)) h [(172,.v (.sint n))] (.v v) h [(172,.v (.sint n))]:=by
 have c:n / 3 % 7=0∨n / 3 % 7=1∨n / 3 % 7=2∨n / 3 % 7=3∨n / 3 % 7=4∨n / 3 % 7=5∨n / 3 % 7=6:=by lia
 rcases c with c|c|c|c|c|c|c
 ·exact aF _ (.inl rfl) (aK (fun R R' H=>H.e _) 60 [0] (.cons c .nil) ())
 ·exact aF _ (.inr (.inl rfl)) (aK (fun R R' H=>H.e _) 60 [1] (.cons c .nil) ())
 ·exact aF _ (.inr (.inr (.inl rfl))) (aK (fun R R' H=>H.e _) 60 [2] (.cons c .nil) ())
 ·exact aF _ (.inr (.inr (.inr (.inl rfl)))) (aK (fun R R' H=>H.e _) 60 [3] (.cons c .nil) ())
 ·exact aF _ (.inr (.inr (.inr (.inr (.inl rfl))))) (aK (fun R R' H=>H.e _) 60 [4] (.cons c .nil) ())
 ·exact aF _ (.inr (.inr (.inr (.inr (.inr (.inl rfl)))))) (aK (fun R R' H=>H.e _) 60 [5] (.cons c .nil) ())
 ·exact aF _ (.inr (.inr (.inr (.inr (.inr (.inr rfl)))))) (aK (fun R R' H=>H.e _) 60 [6] (.cons c .nil) ())
theorem Ih {n:Int} {h:List a8}:∃ v w,sF v w∧80≤w∧MG 1 (fun R=>R.e (eE 2)) h [(172,.v (.sint n))] (.v v) h [(172,.v (.sint n))]:=by
 have c:n / 21 % 6=0∨n / 21 % 6=1∨n / 21 % 6=2∨n / 21 % 6=3∨n / 21 % 6=4∨n / 21 % 6=5:=by lia
 rcases c with c|c|c|c|c|c
 ·exact cP _ _ (.inl ⟨rfl,rfl⟩) M0 (aK (fun R R' H=>H.e _) 60 [0] (.cons c .nil) ())
 ·exact cP _ _ (.inr (.inl ⟨rfl,rfl⟩)) M0 (aK (fun R R' H=>H.e _) 60 [1] (.cons c .nil) ())
 ·exact cP _ _ (.inr (.inr (.inl ⟨rfl,rfl⟩))) M0 (aK (fun R R' H=>H.e _) 60 [2] (.cons c .nil) ())
 ·exact cP _ _ (.inr (.inr (.inr (.inl ⟨rfl,rfl⟩)))) M0 (aK (fun R R' H=>H.e _) 60 [3] (.cons c .nil) ())
 ·exact cP _ _ (.inr (.inr (.inr (.inr (.inl ⟨rfl,rfl⟩))))) M0 (aK (fun R R' H=>H.e _) 60 [4] (.cons c .nil) ())
 ·exact cP _ _ (.inr (.inr (.inr (.inr (.inr ⟨rfl,rfl⟩))))) M0 (aK (fun R R' H=>H.e _) 60 [5] (.cons c .nil) ())
theorem Ii {n:Int} {h:List a8}:∃ v,sM v∧MG 1 (fun R=>R.e (eE 4)) h [(172,.v (.sint n))] (.v v) h [(172,.v (.sint n))]:=by
 have c:n / 252 % 4=0∨n / 252 % 4=1∨n / 252 % 4=2∨n / 252 % 4=3:=by lia
 rcases c with c|c|c|c
 ·exact aF _ (.inl rfl) (aK (fun R R' H=>H.e _) 60 [0] (.cons c .nil) ())
 ·exact aF _ (.inr (.inl rfl)) (aK (fun R R' H=>H.e _) 60 [1] (.cons c .nil) ())
 ·exact aF _ (.inr (.inr (.inl rfl))) (aK (fun R R' H=>H.e _) 60 [2] (.cons c .nil) ())
 ·exact aF _ (.inr (.inr (.inr rfl))) (aK (fun R R' H=>H.e _) 60 [3] (.cons c .nil) ())
theorem xo {k:Bool} {s:ES} (n:Int):∃ C:CC,FG 4 ⟨810,[.v (.sint n)],cA k pl s,.r (b0 k+2),cA k pl s++em (b0 k) (dC C) [] .none⟩:=by
 (refine am (Ij (n:=n) (h:=cA k pl s++[.ins 771 [(170,.r (b0 k+1))],.strs []])) ?_;rintro iv hi mi)
 (refine be (Ih (n:=n) (h:=cA k pl s++[.ins 771 [(170,.r (b0 k+1))],.strs []])) ?_;rintro wv w hw h80 mw)
 (refine am (Ii (n:=n) (h:=cA k pl s++[.ins 771 [(170,.r (b0 k+1))],.strs []])) ?_;rintro lv hl ml)
 have hcan:tv (cZ [.none,.bool false,.int 0] (n % 3))=some false:=by
  rcases gT (x:=.none) (y:=.bool false) (z:=.int 0) n with h|h|h<;>(change h;rfl)
 let C:CC:=⟨cZ [.none,.bool false,.int 0] (n % 3),cZ [.none,.bool true] (n / 126 % 2),w,hcan,h80⟩
 refine ba C ?_;have init:=FE (k:=k) (pl:=pl) (s:=s) (iv:=iv) (wv:=wv) (lv:=lv) C rfl rfl rfl hi hw hl;have rows:MG 4 (fun R=>dg R [.new 190 771 false [] []]) (cA k pl s) [(172,.v (.sint n))] [.r (b0 k)] (cA k pl s++[.ins 771 [(170,.r (b0 k+1))],.strs []]) [(172,.v (.sint n))]:=
  aK (fun R R' H=>fU H) 60 [] (L:=[]) .nil (by clear mi mw ml init;induction k using Bool.casesOn<;>kernel_rfl)
 have m0:MG 4 (fun R=>R.e (eE 0)) (cA k pl s++[.ins 771 [(170,.r (b0 k+1))],.strs []]) [(172,.v (.sint n))] (.v (.opq C.can)) (cA k pl s++[.ins 771 [(170,.r (b0 k+1))],.strs []]) [(172,.v (.sint n))]:=
  aK (fun R R' H=>H.e _) 60 [] (.cons (jU n) .nil) ()
 have m3:MG 4 (fun R=>R.e (eE 3)) (cA k pl s++[.ins 771 [(170,.r (b0 k+1))],.strs []]) [(172,.v (.sint n))] (.v (.opq C.au)) (cA k pl s++[.ins 771 [(170,.r (b0 k+1))],.strs []]) [(172,.v (.sint n))]:=
  aK (fun R R' H=>H.e _) 60 [] (.cons (mh (n / 126)) .nil) ()
 have hlen:(cA k pl s++([.ins 771 [(170,.r (b0 k+1))],.strs []]:List a8)).length=b0 k+2:=by clear mi mw ml init rows m0 m3;induction k using Bool.casesOn<;>rfl
 have new:MG 4 (fun R=>fF T7 R 736 316 [.r (b0 k)] [(41,.v (.opq C.can)),(30,.v iv),(45,.v wv),(42,.v (.opq C.au)),(47,.v lv)]) (cA k pl s++[.ins 771 [(170,.r (b0 k+1))],.strs []]) [(172,.v (.sint n))] (.r (b0 k+2)) (cA k pl s++em (b0 k) (dC C) [] .none) [(172,.v (.sint n))]:=by
  have e:=Ex (c:=736) (f:=316) (xs:=[.r (b0 k)]) (ys:=[(41,.v (.opq C.can)),(30,.v iv),(45,.v wv),(42,.v (.opq C.au)),(47,.v lv)]) (h:=cA k pl s++[.ins 771 [(170,.r (b0 k+1))],.strs []]) (lc:=[(172,.v (.sint n))]) (D:=1) (args:=[.r (b0 k+2),.r (b0 k),.v (.opq C.can),.v iv,.v wv,.v (.opq C.au),.v lv]) (h':=cA k pl s++em (b0 k) (dC C) [] .none) (by change hlen;rfl) (by change Kw;exact init);rw [hlen] at e;exact e.mono M0
 have ks:MG 4 (fun R=>eV R [(41,eE 0),(30,eE 1),(45,eE 2),(42,eE 3),(47,eE 4)]) (cA k pl s++[.ins 771 [(170,.r (b0 k+1))],.strs []]) [(172,.v (.sint n))] [(41,.v (.opq C.can)),(30,.v iv),(45,.v wv),(42,.v (.opq C.au)),(47,.v lv)] (cA k pl s++[.ins 771 [(170,.r (b0 k+1))],.strs []]) [(172,.v (.sint n))]:=
  mz m0 (mz (mi.mono M0) (mz (mw.mono M0) (mz m3 (mz (ml.mono M0) bd))))
 refine oK (F:=rX) (lc':=[(172,.v (.sint n))]) (by rfl) ?_;refine (?_:MG 4 (bf [.ret (.new 189 736 false [.new 190 771 false [] []] [(41,eE 0),(30,eE 1),(45,eE 2),(42,eE 3),(47,eE 4)])]) _ _ _ _ _);refine aP (m:=fun R=>bN T7 R _) (x:=.ret (.r (b0 k+2))) (aP (dB (aP rows (aP ks new))) bd) bd
mutual
noncomputable def aB:Tr→V
 |.leaf k=>.tup [.int 0,.int k]
 |.flow k=>.tup [.int 4,.lst [.tup [.int 0,.int k],.tup [.int 0,.int 0]]]
 |.emp=>.tup [.int 3,.lst []]
 |.seq l=>.tup [.int 2,.lst (b6 l)]
 |.map a b=>.tup [.int 3,.lst [aB a,aB b]]
noncomputable def b6:List Tr→List V
 |[]=>[]
 |x::l=>aB x::b6 l
end
mutual
noncomputable def bZ:Tr→Prop
 |.leaf _=>True
 |.flow _=>True
 |.emp=>True
 |.seq l=>l.length≤4∧cE l
 |.map a b=>bZ a∧bZ b
noncomputable def cE:List Tr→Prop
 |[]=>True
 |x::l=>bZ x∧cE l
end
theorem kS:∀ l,(b6 l).length=l.length
 |[]=>by dsimp only [b6];rfl
 |x::l=>by dsimp only [b6];simp [kS l]
noncomputable def ck (x:V) (p l:List V):bH:=⟨796,[.v x,.r 0],[.lst p],.v .none,[.lst (p++l)]⟩
noncomputable def Qf (q:bH):Prop:=q.f=q.f∧q.args=q.args∧q.h=q.h
theorem qf (q:bH):Qf q:=⟨rfl,rfl,rfl⟩
theorem qL {k:Nat} {p:List V} (hp:p.length < lim):FG 1 (ck (.tup [.int 0,.int k]) p [.tup [.int 0,.int k]]):=bx 60 [] (.cons hp .nil) ()
theorem iu {h h'' :List a8} {x:X} (a:FG D ⟨f,args,h,x,h'⟩) (e:h'=h''):FG D ⟨f,args,h,x,h''⟩:=e▸a
noncomputable def pE (k t:Int):V:=.tup [.int k,.int t]
theorem De {k:Nat} {p:List V} (hp:p.length+4≤lim):FG 2 (ck (aB (.flow k)) p ((a6 (.flow k)).map aH)):=by
 have f1:=qL (k:=k) (p:=p++[pE 2 1]) (by simp;lia);have f2:=qL (k:=0) (p:=(p++[pE 2 1])++[pE 0 k]) (by simp;exact Li M1);have e:FG 2 ⟨796,[.v (.tup [.int 4,.lst [.tup [.int 0,.int k],.tup [.int 0,.int 0]]]),.r 0],[.lst p],.v .none,[.lst (((p++[pE 2 1])++[pE 0 k]++[pE 0 0])++[pE 4 0])]⟩:=
  dm (D:=1) (d:=1) (aM.cons f1 (aM.cons f2 .nil M0) M0) M0 60 [0,1] (L:=[(((p++[pE 2 1])++[pE 0 k])++[pE 0 0]).length < lim,Qf (ck (.tup [.int 0,.int (0:Nat)]) ((p++[pE 2 1])++[pE 0 k]) [.tup [.int 0,.int (0:Nat)]]),Qf (ck (.tup [.int 0,.int k]) (p++[pE 2 1]) [.tup [.int 0,.int k]]),p.length < lim]) (.cons (by simp;assumption) (.cons (qf _) (.cons (qf _) (.cons (by exact dl M1) .nil)))) ()
 dsimp only [ck];dsimp only [aB,a6];refine iu e ?_;simp [aH,pE]
theorem Df {p:List V} (hp:p.length+4≤lim):FG 2 (ck (aB .emp) p ((a6 .emp).map aH)):=by
 have e:FG 2 ⟨796,[.v (.tup [.int 3,.lst []]),.r 0],[.lst p],.v .none,[.lst ((p++[pE 3 2])++[pE 5 0])]⟩:=
  bx 60 [] (L:=[(p++[pE 3 2]).length < lim,p.length < lim]) (.cons (by simp;lia) (.cons (by exact dl M1) .nil)) ()
 dsimp only [ck,aB,a6];refine iu e ?_;simp [aH,pE]
theorem Dc {p:List V} (hp:p.length+4≤lim):FG 2 (ck (aB (.seq [])) p ((a6 (.seq [])).map aH)):=by
 have e:FG 2 ⟨796,[.v (.tup [.int 2,.lst []]),.r 0],[.lst p],.v .none,[.lst ((p++[pE 2 2])++[pE 4 0])]⟩:=
  bx 60 [] (L:=[(p++[pE 2 2]).length < lim,p.length < lim]) (.cons (by simp;lia) (.cons (by exact dl M1) .nil)) ()
 dsimp only [ck,aB,a6,b6,aE];refine iu e ?_;simp [aH,pE]
noncomputable def dq (D:Nat) (T:Tr):Prop:=∀ p:List V,p.length+(a6 T).length≤100000→FG D (ck (aB T) p ((a6 T).map aH))
theorem Dj {a:Tr} (ha:dq D a):dq (D+1) (.seq [a]):=fun p hp=>by
 dsimp only [a6,aE,aE] at hp;simp only [Ko,Kn,L9] at hp;have hl:lim=1048576:=rfl;have fa:=ha (p++[pE 2 0]) (by simp;lia);have e:=dm (D':=D+1) (D:=D) (d:=1) (q:=⟨796,[.v (.tup [.int 2,.lst [aB a]]),.r 0],[.lst p],.v .none,[.lst (((p++[pE 2 0])++(a6 a).map aH)++[pE 4 0])]⟩) (aM.cons fa .nil (br _)) M2 60 [0]
  (L:=[((p++[pE 2 0])++(a6 a).map aH).length < lim,Qf (ck (aB a) (p++[pE 2 0]) ((a6 a).map aH)),p.length < lim]) (.cons (by simp;exact Kl M1 (Kk _ _)) (.cons (qf _) (.cons M2 .nil))) ()
 dsimp only [ck,aB,a6,b6,b6,aE,aE];refine iu e ?_;simp [aH,pE]
theorem Di {a b:Tr} (ha:dq D a) (hb:dq D b):dq (D+1) (.seq [a,b]):=fun p hp=>by
 dsimp only [a6,aE,aE,aE] at hp;simp only [Ko,Kn,L9] at hp;have hl:lim=1048576:=rfl;have fa:=ha (p++[pE 2 0]) (by simp;lia);have fb:=hb ((p++[pE 2 0])++(a6 a).map aH) (by simp;lia);have e:=dm (D':=D+1) (D:=D) (d:=1) (q:=⟨796,[.v (.tup [.int 2,.lst [aB a,aB b]]),.r 0],[.lst p],.v .none,[.lst ((((p++[pE 2 0])++(a6 a).map aH)++(a6 b).map aH)++[pE 4 0])]⟩) (aM.cons fa (aM.cons fb .nil (br _)) (br _)) M2 60 [0,1]
  (L:=[(((p++[pE 2 0])++(a6 a).map aH)++(a6 b).map aH).length < lim,Qf (ck (aB b) ((p++[pE 2 0])++(a6 a).map aH) ((a6 b).map aH)),Qf (ck (aB a) (p++[pE 2 0]) ((a6 a).map aH)),p.length < lim]) (.cons (by simp;exact Kl M1 (Kk _ _)) (.cons (qf _) (.cons (qf _) (.cons M2 .nil)))) ()
 dsimp only [ck,aB,a6,b6,b6,b6,aE,aE,aE];refine iu e ?_;simp [aH,pE]
theorem Dh {a b c:Tr} (ha:dq D a) (hb:dq D b) (hc:dq D c):dq (D+1) (.seq [a,b,c]):=fun p hp=>by
 dsimp only [a6,aE,aE,aE,aE] at hp;simp only [Ko,Kn,L9] at hp;have hl:lim=1048576:=rfl;have fa:=ha (p++[pE 2 0]) (by simp;lia);have fb:=hb ((p++[pE 2 0])++(a6 a).map aH) (by simp;lia);have fc:=hc (((p++[pE 2 0])++(a6 a).map aH)++(a6 b).map aH) (by simp;lia);have e:=dm (D':=D+1) (D:=D) (d:=1) (q:=⟨796,[.v (.tup [.int 2,.lst [aB a,aB b,aB c]]),.r 0],[.lst p],.v .none,[.lst (((((p++[pE 2 0])++(a6 a).map aH)++(a6 b).map aH)++(a6 c).map aH)++[pE 4 0])]⟩) (aM.cons fa (aM.cons fb (aM.cons fc .nil (br _)) (br _)) (br _)) M2 60 [0,1,2]
  (L:=[((((p++[pE 2 0])++(a6 a).map aH)++(a6 b).map aH)++(a6 c).map aH).length < lim,Qf (ck (aB c) (((p++[pE 2 0])++(a6 a).map aH)++(a6 b).map aH) ((a6 c).map aH)),Qf (ck (aB b) ((p++[pE 2 0])++(a6 a).map aH) ((a6 b).map aH)),Qf (ck (aB a) (p++[pE 2 0]) ((a6 a).map aH)),p.length < lim]) (.cons (by simp;exact Kl M1 (Kk _ _)) (.cons (qf _) (.cons (qf _) (.cons (qf _) (.cons M2 .nil))))) ()
 dsimp only [ck,aB,a6,b6,b6,b6,b6,aE,aE,aE,aE];refine iu e ?_;simp [aH,pE]
theorem Dg {a b c d:Tr} (ha:dq D a) (hb:dq D b) (hc:dq D c) (hd:dq D d):dq (D+1) (.seq [a,b,c,d]):=fun p hp=>by
 dsimp only [a6,aE,aE,aE,aE,aE] at hp;simp only [Ko,Kn,L9] at hp;have hl:lim=1048576:=rfl;have fa:=ha (p++[pE 2 0]) (by simp;lia);have fb:=hb ((p++[pE 2 0])++(a6 a).map aH) (by simp;lia);have fc:=hc (((p++[pE 2 0])++(a6 a).map aH)++(a6 b).map aH) (by simp;lia);have fd:=hd ((((p++[pE 2 0])++(a6 a).map aH)++(a6 b).map aH)++(a6 c).map aH) (by simp;lia);have e:=dm (D':=D+1) (D:=D) (d:=1) (q:=⟨796,[.v (.tup [.int 2,.lst [aB a,aB b,aB c,aB d]]),.r 0],[.lst p],.v .none,[.lst ((((((p++[pE 2 0])++(a6 a).map aH)++(a6 b).map aH)++(a6 c).map aH)++(a6 d).map aH)++[pE 4 0])]⟩) (aM.cons fa (aM.cons fb (aM.cons fc (aM.cons fd .nil (br _)) (br _)) (br _)) (br _)) M2 60 [0,1,2,3]
  (L:=[(((((p++[pE 2 0])++(a6 a).map aH)++(a6 b).map aH)++(a6 c).map aH)++(a6 d).map aH).length < lim,Qf (ck (aB d) ((((p++[pE 2 0])++(a6 a).map aH)++(a6 b).map aH)++(a6 c).map aH) ((a6 d).map aH)),Qf (ck (aB c) (((p++[pE 2 0])++(a6 a).map aH)++(a6 b).map aH) ((a6 c).map aH)),Qf (ck (aB b) ((p++[pE 2 0])++(a6 a).map aH) ((a6 b).map aH)),Qf (ck (aB a) (p++[pE 2 0]) ((a6 a).map aH)),p.length < lim]) (.cons (by simp;exact Kl M1 (Kk _ _)) (.cons (qf _) (.cons (qf _) (.cons (qf _) (.cons (qf _) (.cons M2 .nil)))))) ()
 dsimp only [ck,aB,a6,b6,b6,b6,b6,b6,aE,aE,aE,aE,aE];refine iu e ?_;simp [aH,pE]
theorem Dd {a b:Tr} (ha:dq D a) (hb:dq D b):dq (D+1) (.map a b):=fun p hp=>by
 dsimp only [a6] at hp;simp only [Ko,Kn,L9] at hp;have hl:lim=1048576:=rfl;have fa:=ha (p++[pE 3 0]) (by simp;lia);have fb:=hb ((p++[pE 3 0])++(a6 a).map aH) (by simp;lia);have e:=dm (D':=D+1) (D:=D) (d:=1) (q:=⟨796,[.v (.tup [.int 3,.lst [aB a,aB b]]),.r 0],[.lst p],.v .none,[.lst ((((p++[pE 3 0])++(a6 a).map aH)++(a6 b).map aH)++[pE 5 0])]⟩) (aM.cons fa (aM.cons fb .nil (br _)) (br _)) M2 60 [0,1]
  (L:=[(((p++[pE 3 0])++(a6 a).map aH)++(a6 b).map aH).length < lim,Qf (ck (aB b) ((p++[pE 3 0])++(a6 a).map aH) ((a6 b).map aH)),Qf (ck (aB a) (p++[pE 3 0]) ((a6 a).map aH)),p.length < lim]) (.cons (by simp;exact Kl M1 (Kk _ _)) (.cons (qf _) (.cons (qf _) (.cons M2 .nil)))) ()
 dsimp only [ck,aB,a6];refine iu e ?_;simp [aH,pE]
theorem cD (x:Tr) (l:List Tr):aO (x::l)=Nat.max (ht x+1) (aO l):=by rw [aO]
theorem fI (l:List Tr):ht (.seq l)=aO l:=by rw [ht]
theorem dq.up {T:Tr} (h:dq D T) (l:D≤D'):dq D' T:=fun p hp=>(h p hp).mono l
theorem eP:∀ T,bZ T→dq (ht T+2) T
 |.leaf k,_=>fun p hp=>by
  have hl:lim=1048576:=rfl;have e0:a6 (.leaf k)=[.sc k]:=by rw [a6]
  rw [e0] at hp ⊢;have e1:aB (.leaf k)=.tup [.int 0,.int k]:=by rw [aB]
  change e1;exact (qL (by exact Kl M1 (Kk _ _))).mono (by exact Ku _)
 |.flow k,_=>fun p hp=>(De (by have hl:lim=1048576:=rfl;exact Kl M1 (Kk _ _))).mono (by exact br _)
 |.emp,_=>fun p hp=>(Df (by have hl:lim=1048576:=rfl;lia)).mono (by exact br _)
 |.seq [],_=>fun p hp=>(Dc (by have hl:lim=1048576:=rfl;lia)).mono (by exact br _)
 |.seq [a],h=>by
  dsimp only [bZ,cE] at h;refine (Dj (eP a h.2.1)).up ?_
  (change fI;change cD)
  have:ht a+1≤Nat.max (ht a+1) (aO []):=Ky _ _;exact KC _
 |.seq [a,b],h=>by
  dsimp only [bZ,cE,cE] at h;have e:ht (.seq [a,b])=Nat.max (ht a+1) (Nat.max (ht b+1) (aO [])):=by (change fI;change cD;change cD;with_reducible rfl)
  have m1:ht a+1≤Nat.max (ht a+1) (Nat.max (ht b+1) (aO [])):=Ky _ _;have m2:Nat.max (ht b+1) (aO [])≤Nat.max (ht a+1) (Nat.max (ht b+1) (aO [])):=KN _ _;have m3:ht b+1≤Nat.max (ht b+1) (aO []):=Ky _ _;change e;exact (Di (D:=Nat.max (ht a+1) (Nat.max (ht b+1) (aO []))+1) ((eP a h.2.1).up (by exact KR M1)) ((eP b h.2.2.1).up (by exact KR M1)))
 |.seq [a,b,c],h=>by
  dsimp only [bZ,cE,cE,cE] at h;have e:ht (.seq [a,b,c])=Nat.max (ht a+1) (Nat.max (ht b+1) (Nat.max (ht c+1) (aO []))):=by (change fI;change cD;change cD;change cD;with_reducible rfl)
  have m1:ht a+1≤Nat.max (ht a+1) (Nat.max (ht b+1) (Nat.max (ht c+1) (aO []))):=Ky _ _;have m2:Nat.max (ht b+1) (Nat.max (ht c+1) (aO []))≤Nat.max (ht a+1) (Nat.max (ht b+1) (Nat.max (ht c+1) (aO []))):=KN _ _;have m3:ht b+1≤Nat.max (ht b+1) (Nat.max (ht c+1) (aO [])):=Ky _ _;have m4:Nat.max (ht c+1) (aO [])≤Nat.max (ht b+1) (Nat.max (ht c+1) (aO [])):=KN _ _;have m5:ht c+1≤Nat.max (ht c+1) (aO []):=Ky _ _;change e;exact (Dh (D:=Nat.max (ht a+1) (Nat.max (ht b+1) (Nat.max (ht c+1) (aO [])))+1) ((eP a h.2.1).up (by exact KR M1)) ((eP b h.2.2.1).up M2) ((eP c h.2.2.2.1).up M2))
 |.seq [a,b,c,d],h=>by
  dsimp only [bZ,cE,cE,cE,cE] at h;have e:ht (.seq [a,b,c,d])=Nat.max (ht a+1) (Nat.max (ht b+1) (Nat.max (ht c+1) (Nat.max (ht d+1) (aO [])))):=by (change fI;change cD;change cD;change cD;change cD;with_reducible rfl)
  have m1:ht a+1≤Nat.max (ht a+1) (Nat.max (ht b+1) (Nat.max (ht c+1) (Nat.max (ht d+1) (aO [])))):=Ky _ _;have m2:Nat.max (ht b+1) (Nat.max (ht c+1) (Nat.max (ht d+1) (aO [])))≤Nat.max (ht a+1) (Nat.max (ht b+1) (Nat.max (ht c+1) (Nat.max (ht d+1) (aO [])))):=KN _ _;have m3:ht b+1≤Nat.max (ht b+1) (Nat.max (ht c+1) (Nat.max (ht d+1) (aO []))):=Ky _ _;have m4:Nat.max (ht c+1) (Nat.max (ht d+1) (aO []))≤Nat.max (ht b+1) (Nat.max (ht c+1) (Nat.max (ht d+1) (aO []))):=KN _ _;have m5:ht c+1≤Nat.max (ht c+1) (Nat.max (ht d+1) (aO [])):=Ky _ _;have m6:Nat.max (ht d+1) (aO [])≤Nat.max (ht c+1) (Nat.max (ht d+1) (aO [])):=KN _ _;have m7:ht d+1≤Nat.max (ht d+1) (aO []):=Ky _ _;change e;exact (Dg (D:=Nat.max (ht a+1) (Nat.max (ht b+1) (Nat.max (ht c+1) (Nat.max (ht d+1) (aO []))))+1) ((eP a h.2.1).up (by exact KR M1)) ((eP b h.2.2.1).up M2) ((eP c h.2.2.2.1).up M2) ((eP d h.2.2.2.2.1).up M2))
 |.seq (_::_::_::_::_::_),h=>by dsimp only [bZ] at h;have:=h.1;simp at this
 |.map a b,h=>by
  dsimp only [bZ] at h;have e:ht (.map a b)=Nat.max (ht a) (ht b)+1:=by rw [ht]
  have m1:ht a≤Nat.max (ht a) (ht b):=Ky _ _;have m2:ht b≤Nat.max (ht a) (ht b):=KN _ _;change e;exact (Dd (D:=Nat.max (ht a) (ht b)+2) ((eP a h.1).up (by exact LS M1 _)) ((eP b h.2).up (by exact LS M1 _))).up (by exact KC _)
noncomputable def bT:List CS:=match my.body with|[_,.for _ _ b,_]=>b|_=>[]
theorem du {l:List (Nat×X)} {x:Nat} {v:X} (h:look l x=some v):Sub [(x,v)] l:=fun y w e=>by
 dsimp only [look] at e;induction q:Nat.beq x y using Bool.casesOn with
 |true=>
  rw [show Nat.beq (x,v).1 y=true from q] at e;have:=KA q;clear q;subst this;change h;exact e
 |false=>
  rw [show Nat.beq (x,v).1 y=false from q] at e;exact a0 e
noncomputable def lf (a:Nat):V:=.tup [.int 0,.int a]
noncomputable def tL (k:Nat) (n:Int):List (Nat×X):=[(171,.r k),(172,.v (.sint n))]
noncomputable def TS (n:Int) (old:List a8) (ps:List V) (old':List a8) (ps':List V):Prop:=MG 1 (bf bT) (old++[.lst ps]) (tL old.length n) .next (old'++[.lst ps']) [(171,.r old'.length)]
theorem ro {n:Nat} (h:n≤1000):n < lim:=by have:lim=1048576:=rfl;exact Lg M1 M0
theorem iZ {n:Nat} (h:n≤1000):n≤lim:=by have:lim=1048576:=rfl;exact Kl M1 (Kk _ _)
theorem zF {n:Int} {a:Nat} (ho:old.length≤2) (hp:ps.length≤3) (hw:n % 6=((0:Nat):Int)) (hr:n / 6 % 6=(a:Int)):TS n old ps old (ps++[lf a]):=by
 have hl:=ro (n:=ps.length) (by exact Kl M1 (Kk _ _));rcases old with _|⟨o1,_|⟨o2,_|⟨o3,old⟩⟩⟩
 ·clear hp;rcases ps with _|⟨x1,_|⟨x2,_|⟨x3,_|⟨x4,ps⟩⟩⟩⟩<;>first|(exfalso;simp at hp;lia)|exact (aK (fun R R' H=>bm H) 60 [0,a] (lc':=[(171,.r 0),(172,.v (.sint n)),(174,.v (.int 0)),(175,.v (.sint (n / 6)))]) (.cons hl (.cons hr (.cons hw .nil))) ()).sub .refl (du rfl)
 ·clear hp;rcases ps with _|⟨x1,_|⟨x2,_|⟨x3,_|⟨x4,ps⟩⟩⟩⟩<;>first|(exfalso;simp at hp;lia)|exact (aK (fun R R' H=>bm H) 60 [0,a] (lc':=[(171,.r 1),(172,.v (.sint n)),(174,.v (.int 0)),(175,.v (.sint (n / 6)))]) (.cons hl (.cons hr (.cons hw .nil))) ()).sub .refl (du rfl)
 ·clear hp;rcases ps with _|⟨x1,_|⟨x2,_|⟨x3,_|⟨x4,ps⟩⟩⟩⟩<;>first|(exfalso;simp at hp;lia)|exact (aK (fun R R' H=>bm H) 60 [0,a] (lc':=[(171,.r 2),(172,.v (.sint n)),(174,.v (.int 0)),(175,.v (.sint (n / 6)))]) (.cons hl (.cons hr (.cons hw .nil))) ()).sub .refl (du rfl)
 ·exfalso;simp at ho
theorem zH {n:Int} {w a:Nat} (hw2:w=2∨w=3∨w=4∨w=5) (hw:n % 6=(w:Int)) (hr:n / 6 % 6=(a:Int)):TS n [] [] [] [lf a]:=by
 have hl:=ro (n:=0) (by exact KG _);rcases hw2 with rfl|rfl|rfl|rfl
 ·exact (aK (fun R R' H=>bm H) 60 [2,a] (lc':=[(171,.r 0),(172,.v (.sint n)),(174,.v (.int 2)),(175,.v (.sint (n / 6)))]) (.cons hl (.cons hr (.cons hw .nil))) ()).sub .refl (du rfl)
 ·exact (aK (fun R R' H=>bm H) 60 [3,a] (lc':=[(171,.r 0),(172,.v (.sint n)),(174,.v (.int 3)),(175,.v (.sint (n / 6)))]) (.cons hl (.cons hr (.cons hw .nil))) ()).sub .refl (du rfl)
 ·exact (aK (fun R R' H=>bm H) 60 [4,a] (lc':=[(171,.r 0),(172,.v (.sint n)),(174,.v (.int 4)),(175,.v (.sint (n / 6)))]) (.cons hl (.cons hr (.cons hw .nil))) ()).sub .refl (du rfl)
 ·exact (aK (fun R R' H=>bm H) 60 [5,a] (lc':=[(171,.r 0),(172,.v (.sint n)),(174,.v (.int 5)),(175,.v (.sint (n / 6)))]) (.cons hl (.cons hr (.cons hw .nil))) ()).sub .refl (du rfl)
noncomputable def uU (e c:Nat):V:=match e with|0=>.tup [.int 2,.lst []]|1=>.tup [.int 3,.lst []]|_=>.tup [.int 4,.lst [lf c,lf 0]]
theorem zE {n:Int} {e c:Nat} (ho:old.length≤2) (hp:ps.length≤3) (he:e < 3) (hw:n % 6=((1:Nat):Int)) (hc:n / 6 / 3 % 5=(c:Int)) (hr:n / 6 % 3=(e:Int)):TS n old ps old (ps++[uU e c]):=by
 have hl:=ro (n:=ps.length) (by exact Kl M1 (Kk _ _))
 match e,he with
 |0,_=>
  rcases old with _|⟨o1,_|⟨o2,_|⟨o3,old⟩⟩⟩<;>first|(exfalso;simp at ho;done)|(clear hp;rcases ps with _|⟨x1,_|⟨x2,_|⟨x3,_|⟨x4,ps⟩⟩⟩⟩<;>first|(exfalso;simp at hp;lia)|exact (aK (fun R R' H=>bm H) 60 [1,c,0] (lc':=[(171,.r (List.length _)),(172,.v (.sint n)),(174,.v (.int 1)),(175,.v (.sint (n / 6)))]) (.cons hl (.cons hr (.cons hc (.cons hw .nil)))) ()).sub .refl (du rfl))
 |1,_=>
  rcases old with _|⟨o1,_|⟨o2,_|⟨o3,old⟩⟩⟩<;>first|(exfalso;simp at ho;done)|(clear hp;rcases ps with _|⟨x1,_|⟨x2,_|⟨x3,_|⟨x4,ps⟩⟩⟩⟩<;>first|(exfalso;simp at hp;lia)|exact (aK (fun R R' H=>bm H) 60 [1,c,1] (lc':=[(171,.r (List.length _)),(172,.v (.sint n)),(174,.v (.int 1)),(175,.v (.sint (n / 6)))]) (.cons hl (.cons hr (.cons hc (.cons hw .nil)))) ()).sub .refl (du rfl))
 |2,_=>
  rcases old with _|⟨o1,_|⟨o2,_|⟨o3,old⟩⟩⟩<;>first|(exfalso;simp at ho;done)|(clear hp;rcases ps with _|⟨x1,_|⟨x2,_|⟨x3,_|⟨x4,ps⟩⟩⟩⟩<;>first|(exfalso;simp at hp;lia)|exact (aK (fun R R' H=>bm H) 60 [1,c,2] (lc':=[(171,.r (List.length _)),(172,.v (.sint n)),(174,.v (.int 1)),(175,.v (.sint (n / 6)))]) (.cons hl (.cons hr (.cons hc (.cons hw .nil)))) ()).sub .refl (du rfl))
theorem zG {n:Int} {a:Nat} {x:V} (ho:old.length≤2) (hp:qs.length≤2) (hw:n % 6=((3:Nat):Int)) (hr:n / 6 % 6=(a:Int)):TS n old (qs++[x]) old (qs++[.tup [.int 3,.lst [x,lf a]]]):=by
 rcases old with _|⟨o1,_|⟨o2,_|⟨o3,old⟩⟩⟩<;>first|(exfalso;simp at ho;done)|(rcases qs with _|⟨q1,_|⟨q2,_|⟨q3,qs⟩⟩⟩<;>first|(exfalso;simp at hp;done)|exact (aK (fun R R' H=>bm H) 60 [3,a] (lc':=[(171,.r (List.length _)),(172,.v (.sint n)),(174,.v (.int 3)),(175,.v (.sint (n / 6)))]) (.cons hr (.cons hw .nil)) ()).sub .refl (du rfl))
theorem zB {n:Int} {a:Nat} {x:V} (ho:old.length≤2) (hp:qs.length≤2) (hw:n % 6=((4:Nat):Int)) (hr:n / 6 % 6=(a:Int)):TS n old (qs++[x]) old (qs++[.tup [.int 3,.lst [lf a,x]]]):=by
 rcases old with _|⟨o1,_|⟨o2,_|⟨o3,old⟩⟩⟩<;>first|(exfalso;simp at ho;done)|(rcases qs with _|⟨q1,_|⟨q2,_|⟨q3,qs⟩⟩⟩<;>first|(exfalso;simp at hp;done)|exact (aK (fun R R' H=>bm H) 60 [4,a] (lc':=[(171,.r (List.length _)),(172,.v (.sint n)),(174,.v (.int 4)),(175,.v (.sint (n / 6)))]) (.cons hr (.cons hw .nil)) ()).sub .refl (du rfl))
theorem zA {n:Int} {x:V} (ho:old.length≤2) (hp:qs.length≤2) (hw:n % 6=((2:Nat):Int)) (hr:n / 6 % 2=((0:Nat):Int)):TS n old (qs++[x]) (old++[.lst (qs++[x])]) (qs++[.tup [.int 2,.lst [x]]]):=by
 have hl:=iZ (n:=qs.length+1) (by exact Lg M1 M0);rcases old with _|⟨o1,_|⟨o2,_|⟨o3,old⟩⟩⟩<;>first|(exfalso;simp at ho;done)|(rcases qs with _|⟨q1,_|⟨q2,_|⟨q3,qs⟩⟩⟩<;>first|(exfalso;simp at hp;done)|exact (aK (fun R R' H=>bm H) 60 [2,0] (lc':=[(171,.r (List.length _)),(172,.v (.sint n)),(174,.v (.int 2)),(175,.v (.sint (n / 6))),(62,.v (.int 1))]) (.cons hl (.cons hr (.cons hw .nil))) ()).sub .refl (du rfl))
theorem zy {n:Int} {x :V} (ho:old.length≤2) (hp:qs.length≤1) (hw:n % 6=((2:Nat):Int)) (hr:n / 6 % 2=((1:Nat):Int)):TS n old (qs++[x,y]) (old++[.lst (qs++[x,y])]) (qs++[.tup [.int 2,.lst [x,y]]]):=by
 have hl:=iZ (n:=qs.length+1) (by exact Lg M1 M0);rcases old with _|⟨o1,_|⟨o2,_|⟨o3,old⟩⟩⟩<;>first|(exfalso;simp at ho;done)|(rcases qs with _|⟨q1,_|⟨q2,qs⟩⟩<;>first|(exfalso;simp at hp;done)|exact (aK (fun R R' H=>bm H) 60 [2,1] (lc':=[(171,.r (List.length _)),(172,.v (.sint n)),(174,.v (.int 2)),(175,.v (.sint (n / 6))),(62,.v (.int 2))]) (.cons hl (.cons hr (.cons hw .nil))) ()).sub .refl (du rfl))
theorem zx {n:Int} {x:V} (ho:old.length≤2) (hw:n % 6=((2:Nat):Int)) (hr:n / 6 % 2=((1:Nat):Int)):TS n old [x] (old++[.lst [x]]) [.tup [.int 2,.lst [x]]]:=by
 have hl:=iZ (n:=1) (by exact Ku _);rcases old with _|⟨o1,_|⟨o2,_|⟨o3,old⟩⟩⟩<;>first|(exfalso;simp at ho;done)|exact (aK (fun R R' H=>bm H) 60 [2,1] (lc':=[(171,.r (List.length _)),(172,.v (.sint n)),(174,.v (.int 2)),(175,.v (.sint (n / 6))),(62,.v (.int 2))]) (.cons hl (.cons hr (.cons hw .nil))) ()).sub .refl (du rfl)
theorem zC {n:Int} {x :V} (ho:old.length≤2) (hp:qs.length≤1) (hw:n % 6=((5:Nat):Int)):TS n old (qs++[x,y]) (old++[.lst (qs++[x,y])]) (qs++[.tup [.int 3,.lst [x,y]]]):=by
 have hl:=iZ (n:=qs.length+1) (by exact Lg M1 M0);have h3:=iZ (n:=3) (by exact Kk _ _);rcases old with _|⟨o1,_|⟨o2,_|⟨o3,old⟩⟩⟩<;>first|(exfalso;simp at ho;done)|(rcases qs with _|⟨q1,_|⟨q2,qs⟩⟩<;>first|(exfalso;simp at hp;done)|exact (aK (fun R R' H=>bm H) 60 [5] (lc':=[(171,.r (List.length _)),(172,.v (.sint n)),(174,.v (.int 5)),(175,.v (.sint (n / 6))),(176,.v (.lst [x,y]))]) (.cons hl (.cons h3 (.cons hw .nil))) ()).sub .refl (du rfl))
theorem zD {n:Int} {x:V} (ho:old.length≤2) (hw:n % 6=((5:Nat):Int)):TS n old [x] (old++[.lst [x]]) [.tup [.int 3,.lst [x,lf 0]]]:=by
 have hl:=iZ (n:=1) (by exact Ku _);have h3:=iZ (n:=2) (by exact Kk _ _);rcases old with _|⟨o1,_|⟨o2,_|⟨o3,old⟩⟩⟩<;>first|(exfalso;simp at ho;done)|exact (aK (fun R R' H=>bm H) 60 [5] (lc':=[(171,.r (List.length _)),(172,.v (.sint n)),(174,.v (.int 5)),(175,.v (.sint (n / 6))),(176,.v (.lst [x,lf 0]))]) (.cons hl (.cons h3 (.cons hw .nil))) ()).sub .refl (du rfl)
theorem cj {x:Tr} {l:List Tr}:b6 (x::l)=aB x::b6 l:=by rw [b6]
theorem dj:b6 []=[]:=by rw [b6]
theorem eZ:∀ {a l:List Tr},b6 (a++l)=b6 a++b6 l
 |[],l=>by change dj;rfl
 |x::a,l=>by (change Lf;change cj;change cj;change eZ);rfl
theorem dr {x:Tr} {l:List Tr}:dc (x::l)↔wf x∧dc l:=by rw [dc]
theorem kN:∀ {a l:List Tr},dc (a++l)↔dc a∧dc l
 |[],l=>by simp [dc]
 |x::a,l=>by (change Lf;refine dG (dr ..) ?_;refine dG (dr ..) ?_;refine dG (kN ..) ?_;refine dG (and_assoc ..) ?_;with_reducible rfl)
theorem dx {x:Tr} {l:List Tr}:cE (x::l)↔bZ x∧cE l:=by rw [cE]
theorem mv:∀ {a l:List Tr},cE (a++l)↔cE a∧cE l
 |[],l=>by simp [cE]
 |x::a,l=>by (change Lf;refine dG (dx ..) ?_;refine dG (dx ..) ?_;refine dG (mv ..) ?_;refine dG (and_assoc ..) ?_;with_reducible rfl)
noncomputable def ph:List Tr→Nat
 |[]=>0
 |x::l=>ht x+1+ph l
theorem uN:∀ {a l:List Tr},ph (a++l)=ph a+ph l
 |[],l=>by simp [ph]
 |x::a,l=>by (change Lf;rewrite [ph,ph];change uN);lia
theorem qM:∀ l,l.length≤ph l
 |[]=>by simp [ph]
 |x::l=>by have:=qM l;(rewrite [ph];change Ko);lia
theorem eO {x:Tr} {l:List Tr}:aE (x::l)=a6 x++aE l:=by rw [aE]
theorem qH:∀ {a l:List Tr},aE (a++l)=aE a++aE l
 |[],l=>by rw [aE];rfl
 |x::a,l=>by (change Lf;change eO;change eO;change qH;change Kw;with_reducible rfl)
structure gv (j:Nat) (old:List a8) (ts:List Tr):Prop where
 w:dc ts
 f:cE ts
 p:ph ts≤j
 n:1≤j→ts≠[]
 o:old.length≤j - 1
 l:(aE ts).length≤4 * j
structure gw (x:Tr) (h pl:Nat):Prop where
 w:wf x
 f:bZ x
 h:ht x≤h
 l:(a6 x).length≤pl
theorem lP {k:Nat} (h:k < 6):gw (.leaf k) 0 1:=⟨by dsimp only [wf];exact h,by unfold bZ;trivial,by dsimp only [ht];exact br _,by dsimp only [a6];exact KC _⟩
theorem Ej {e c:Nat} (h:c < 5):∃ x,gw x 0 4∧uU e c=aB x:=by
 match e with
 |0=>exact aF (.seq []) ⟨by unfold wf dc;trivial,by dsimp only [bZ,cE];exact ⟨by exact Kk _ _,trivial⟩,by dsimp only [ht,aO];exact br _,by dsimp only [a6,aE];exact Kk _ _⟩ (by dsimp only [aB,b6];rfl)
 |1=>exact aF .emp ⟨by unfold wf;trivial,by unfold bZ;trivial,by unfold ht;exact br _,by unfold a6;exact Kk _ _⟩ (by unfold aB;rfl)
 |e+2=>exact aF (.flow c) ⟨by unfold wf;exact h,by unfold bZ;trivial,by unfold ht;exact br _,by unfold a6;exact KC _⟩ (by unfold aB;rfl)
theorem nS {x y:Tr} {h1 h2 p1 p2:Nat} (a:gw x h1 p1) (b:gw y h2 p2):gw (.map x y) (Nat.max h1 h2+1) (p1+p2+2):=
 ⟨by dsimp only [wf];exact ⟨a.w,b.w⟩,by dsimp only [bZ];exact ⟨a.f,b.f⟩,by
  refine aU (show ht (.map x y)=Nat.max (ht x) (ht y)+1 by rw [ht]) ?_;have m1:h1≤Nat.max h1 h2:=Ky _ _;have m2:h2≤Nat.max h1 h2:=KN _ _;have:=a.h;have:=b.h;exact KR (LG.mpr ⟨by exact Kl M1 M1,by exact Kl M1 M1⟩),by
  refine aU (show a6 (.map x y)=.mp 0::(a6 x++(a6 y++[.me])) by rw [a6]) ?_;have:=a.l;have:=b.l;simp;lia⟩
theorem jB (l:List Tr):∃ u,a6 (.seq l)=.sq u::(aE l++[.se]):=by
 induction l using List.casesOn with
 |nil=>exact ba _ (by rw [a6])
 |cons=>exact ba _ (by rw [a6])
theorem vw {l:List Tr} (w:dc l) (f:cE l) (h4:l.length≤4) (hp:(aE l).length≤p):gw (.seq l) (aO l) (p+2):=
 ⟨by dsimp only [wf];exact w,by dsimp only [bZ];exact ⟨h4,f⟩,by change fI;exact br _,by
  (refine ay (jB l) ?_;rintro u e)
  change e;simp;assumption⟩
theorem sX {x:Tr} (w:wf x) (f:bZ x):gw x (ht x) (a6 x).length:=⟨w,f,br _,br _⟩
theorem m9 {a:Nat}:lf a=aB (.leaf a):=by rw [aB];rfl
theorem ik {j h d :Nat} {old' :List a8} {us vs:List Tr} {x:Tr} (I:gv j old (us++vs)) (N:gw x h p) (hh:h+1≤ph vs+1) (hp:p≤(aE vs).length+4) (ho:old'.length≤j):gv (j+1) old' (us++[x]):=
 ⟨kN.mpr ⟨(kN.mp I.w).1,dr.mpr ⟨N.w,by unfold dc;trivial⟩⟩,mv.mpr ⟨(mv.mp I.f).1,dx.mpr ⟨N.f,by unfold cE;trivial⟩⟩,by
  have:=N.h;have e:=I.p;rw [uN] at e ⊢;simp only [ph];lia,fun _=>by simp,by assumption,by
  have:=I.l;have:=N.l
  (change qH;change eO;refine aU (show aE []=[] by rw [aE]) ?_)
  have e:=I.l;rw [qH,Kn] at e;simp;lia⟩
theorem n6 {i:Int} {m:Nat} (h0:0≤i) (h:i < m):∃ a:Nat,a < m∧i=(a:Int):=⟨i.toNat,by lia,by lia⟩
theorem Dl {j:Nat} {ts:List Tr} (n:Int) (hj:j≤3) (I:gv j old ts):∃ old' ts',TS n old (b6 ts) old' (b6 ts')∧gv (j+1) old' ts':=by
 (refine am (n6 (i:=n % 6) (m:=6) M2 M2) ?_;rintro w hw6 hw)
 (refine am (n6 (i:=n / 6 % 6) (m:=6) (by grind) (by grind)) ?_;rintro a ha6 ha)
 have hlen:=qM ts;have hp3:=I.p;have ho:old.length≤2:=by have:=I.o;lia
 have tl:(b6 ts).length≤3:=by change kS;lia
 have app:∀ {x:Tr} {p:Nat},gw x 0 p→p≤4→gv (j+1) old (ts++[x]):=fun {x p} N hp=>ik (d:=0) (us:=ts) (vs:=[]) (by change Kt;exact I) N (by simp [ph]) (by simp [aE];assumption) (by have:=I.o;lia);have vapp:∀ x,b6 (ts++[x])=b6 ts++[aB x]:=fun x=>by (change eZ;change cj;change dj;with_reducible rfl)
 by_cases hw0:w=0
 ·clear hw6;subst hw0;exact bI old (ts++[.leaf a]) (by (change vapp;refine aT (m9 ..) ?_);exact zF ho tl hw ha) (app (lP ha6) M0)
 by_cases hw1:w=1
 ·clear hw6 hw0;subst hw1
  (refine am (n6 (i:=n / 6 / 3 % 5) (m:=5) M2 M2) ?_;rintro c hc5 hc)
  (refine am (n6 (i:=n / 6 % 3) (m:=3) (by grind) (by grind)) ?_;rintro e he3 he)
  (refine am (Ej (e:=e) hc5) ?_;rintro x N ex)
  exact bI old (ts++[x]) (by (change vapp;refine aT (ex ..) ?_);exact zE ho tl he3 hw hc he) (app N (br _))
 by_cases hne:ts=[]
 ·clear hlen hp3 tl vapp;subst hne;have hj0:j=0:=by
   rcases Nat.eq_zero_or_pos j with h|h
   ·exact h
   ·exact absurd rfl (I.n h)
  have hold:old=[]:=by have:=I.o;exact List.length_eq_zero_iff.mp M2
  clear ho I;subst hold;exact bI [] [.leaf a] (by (change cj;change dj;refine aT (m9 ..) ?_);exact zH M2 hw ha) (app (lP ha6) M0)
 obtain ⟨us,x,rfl⟩:∃ us x,ts=us++[x]:=⟨_,_,(List.dropLast_concat_getLast hne).symm⟩
 have hx:=dr.mp (kN.mp I.w).2;have fx:=dx.mp (mv.mp I.f).2;have vx:b6 (us++[x])=b6 us++[aB x]:=by (change eZ;change cj;change dj;with_reducible rfl)
 have Nx:=sX hx.1 fx.1;have php:ph [x]=ht x+1:=by simp [ph]
 have plp:(aE [x]).length=(a6 x).length:=by (change eO;refine aU (show aE []=[] by rw [aE]) ?_);simp
 have hus:(b6 us).length≤2:=by change kS;rw [Kn,KX] at hlen;lia
 have oj:old.length≤j:=by have:=I.o;lia
 have m0:∀ h:Nat,Nat.max h 0=h:=fun h=>Nat.max_eq_left (KG h);have m0':∀ h:Nat,Nat.max 0 h=h:=fun h=>Nat.max_eq_right (KG h)
 by_cases hw3:w=3
 ·clear hw6 hw0 hw1;subst hw3;refine bI old (us++[.map x (.leaf a)]) ?_ (ik (d:=0) I (nS Nx (lP ha6)) (by (change m0;change php)<;>exact KC _) (by change plp<;>simp) oj)
  (change vx;change eZ;change cj;change dj;refine aU (show aB (.map x (.leaf a))=.tup [.int 3,.lst [aB x,lf a]] by (rewrite [aB];change m9;with_reducible rfl)) ?_)
  exact zG ho hus hw ha
 by_cases hw4:w=4
 ·clear hw6 hw0 hw1 hw3;subst hw4;refine bI old (us++[.map (.leaf a) x]) ?_ (ik (d:=0) I (nS (lP ha6) Nx) (by (change m0';change php)<;>exact KC _) (by change plp;lia) oj)
  (change vx;change eZ;change cj;change dj;refine aU (show aB (.map (.leaf a) x)=.tup [.int 3,.lst [lf a,aB x]] by (rewrite [aB];change m9;with_reducible rfl)) ?_)
  exact zB ho hus hw ha
 have oj1:∀ c:a8,(old++[c]).length≤j:=fun c=>by
  have:=I.o;have:1≤j:=by rw [Kn,KX] at hlen;lia
  (change Kn;change KX);lia
 have N1:gw (.seq [x]) (ht x+1) ((a6 x).length+2):=by
  have N:=vw (l:=[x]) (p:=(a6 x).length) (dr.mpr ⟨hx.1,by unfold dc;trivial⟩) (dx.mpr ⟨fx.1,by unfold cE;trivial⟩) (by exact Ku _) (by change plp<;>exact br _);rw [cD,show aO []=0 by rw [aO],m0] at N;exact N
 have v1:aB (.seq [x])=.tup [.int 2,.lst [aB x]]:=by (rewrite [aB];change cj;change dj;with_reducible rfl)
 have two:∀ {vs:List Tr} {y:Tr},us=vs++[y]→(wf y∧bZ y)∧ph [y,x]=ht y+1+(ht x+1)∧(aE [y,x]).length=(a6 y).length+(a6 x).length∧gv j old (vs++[y,x])∧(b6 vs).length≤1∧b6 (us++[x])=b6 vs++[aB y,aB x]:=fun {vs y} e=>by
  clear hlen hp3 tl app vapp hne;subst e;have I':=I;rw [Kw] at I';refine FS ⟨(dr.mp (kN.mp I'.w).2).1,(dx.mp (mv.mp I'.f).2).1⟩ (by simp [ph]) (by (change eO;change Kn;change plp;with_reducible rfl)) I' ?_ (by (change vx;change eZ;change cj;change dj;change Kw);rfl);rw [eZ,cj,dj,Kn,KX] at hus;exact L2 M1
 by_cases hw2:w=2
 ·clear hw6 hw0 hw1 hw3 hw4;subst hw2
  by_cases he:n / 6 % 2=((0:Nat):Int)
  ·refine bI (old++[.lst (b6 (us++[x]))]) (us++[.seq [x]]) ?_ (ik (d:=0) I N1 (by change php<;>exact KC _) (by change plp;simp) (oj1 _))
   (change vx;change eZ;change cj;change dj;change v1)
   exact zA ho hus hw he
  ·have he:n / 6 % 2=((1:Nat):Int):=by lia
   rcases List.eq_nil_or_concat us with hu|⟨vs,y,hu⟩
   ·clear hlen hp3 tl app vapp hne hus two;subst hu;refine bI (old++[.lst (b6 ([]++[x]))]) ([]++[.seq [x]]) ?_ (ik (d:=0) I N1 (by change php<;>exact KC _) (by change plp;simp) (oj1 _))
    (change vx;change eZ;change cj;change dj;change v1)
    exact zx ho hw he
   ·rw [List.concat_eq_append] at hu
    (refine xr (two hu) ?_;rintro ⟨wy,fy⟩ p2 l2 I2 hv1 ev)
    have N:=vw (l:=[y,x]) (p:=(a6 y).length+(a6 x).length) (dr.mpr ⟨wy,dr.mpr ⟨hx.1,by unfold dc;trivial⟩⟩) (dx.mpr ⟨fy,dx.mpr ⟨fx.1,by unfold cE;trivial⟩⟩) (by exact Kk _ _) (by change l2<;>exact br _);rw [cD,cD,show aO []=0 by rw [aO],m0] at N;refine bI (old++[.lst (b6 (us++[x]))]) (vs++[.seq [y,x]]) ?_ (ik (d:=0) I2 N (by change p2;exact KR (LG.mpr ⟨by exact KT _ _,by exact Kk _ _⟩)) (by change l2;simp) (oj1 _))
    (change ev;change eZ;change cj;change dj;refine aU (show aB (.seq [y,x])=.tup [.int 2,.lst [aB y,aB x]] by (rewrite [aB];change cj;change cj;change dj;with_reducible rfl)) ?_)
    exact zy ho hv1 hw he
 ·have hw5:w=5:=by lia
  clear hw6 hw0 hw1 hw3 hw4 hw2;subst hw5;rcases List.eq_nil_or_concat us with hu|⟨vs,y,hu⟩
  ·clear hlen hp3 tl app vapp hne hus two;subst hu;refine bI (old++[.lst (b6 ([]++[x]))]) ([]++[.map x (.leaf 0)]) ?_ (ik (d:=0) I (nS Nx (lP M0)) (by (change m0;change php)<;>exact KC _) (by change plp<;>simp) (oj1 _))
   (change vx;change eZ;change cj;change dj;refine aU (show aB (.map x (.leaf 0))=.tup [.int 3,.lst [aB x,lf 0]] by (rewrite [aB];change m9;with_reducible rfl)) ?_)
   exact zD ho hw
  ·rw [List.concat_eq_append] at hu
   (refine xr (two hu) ?_;rintro ⟨wy,fy⟩ p2 l2 I2 hv1 ev)
   refine bI (old++[.lst (b6 (us++[x]))]) (vs++[.map y x]) ?_ (ik (d:=0) I2 (nS (sX wy fy) Nx) (by change p2;exact KR (Nat.succ_le_of_lt (Nat.max_lt.mpr ⟨by exact KT _ _,by exact Kk _ _⟩))) (by change l2;simp) (oj1 _))
   (change ev;change eZ;change cj;change dj;refine aU (show aB (.map y x)=.tup [.int 3,.lst [aB y,aB x]] by rw [aB]) ?_)
   exact zC ho hv1 hw
theorem uM:∀ (t:List Int) {j:Nat} {old:List a8} {ts:List Tr},j+t.length≤4→gv j old ts→∃ old' ts',MG 1 (fun R=>e8 R 172 bT (t.map .sint)) (old++[.lst (b6 ts)]) [(171,.r old.length)] .next (old'++[.lst (b6 ts')]) [(171,.r old'.length)]∧gv (j+t.length) old' ts'
 |[],j,old,ts,_,I=>⟨old,ts,bd,I⟩
 |n::t,j,old,ts,hj,I=>by
  simp only [Ko] at hj
  (refine aN (Dl n M2 I) ?_;rintro o1 t1 m1 I1)
  (refine aN (uM t M2 I1) ?_;rintro o2 t2 m2 I2)
  exact bI o2 t2 (vM (jJ m1) m2) (by (change Ko;refine aU (show j+(t.length+1)=j+1+t.length by lia) ?_);exact I2)
noncomputable def rT:List CS:=match my.body with|[_,_,r]=>[r]|_=>[]
theorem C9 {kd:Int} (ho:old.length≤3) (hk:kd=2∨kd=3∨kd=4):MG 1 (bf rT) (old++[.lst [.tup [.int kd,y]]]) [(171,.r old.length)] (.ret (.v (.tup [.int kd,y]))) (old++[.lst [.tup [.int kd,y]]]) [(171,.r old.length)]:=by
 rcases old with _|⟨o1,_|⟨o2,_|⟨o3,_|⟨o4,old⟩⟩⟩⟩<;>first|(exfalso;simp at ho;done)|(rcases hk with rfl|rfl|rfl<;>exact aK (fun R R' H=>bm H) 60 [] (L:=[]) .nil ())
theorem C8 (ho:old.length≤3):MG 1 (bf rT) (old++[.lst [.tup [.int 0,y]]]) [(171,.r old.length)] (.ret (.v (.tup [.int 2,.lst [.tup [.int 0,y]]]))) (old++[.dead]) [(171,.r old.length)]:=by
 rcases old with _|⟨o1,_|⟨o2,_|⟨o3,_|⟨o4,old⟩⟩⟩⟩<;>first|(exfalso;simp at ho;done)|exact aK (fun R R' H=>bm H) 60 [] (L:=[]) .nil ()
theorem C7 (ho:old.length≤3) (hp:ps.length≤4) (h1:ps.length≠1):MG 1 (bf rT) (old++[.lst ps]) [(171,.r old.length)] (.ret (.v (.tup [.int 2,.lst ps]))) (old++[.dead]) [(171,.r old.length)]:=by
 rcases old with _|⟨o1,_|⟨o2,_|⟨o3,_|⟨o4,old⟩⟩⟩⟩<;>first|(exfalso;simp at ho;done)|(clear hp;rcases ps with _|⟨x1,_|⟨x2,_|⟨x3,_|⟨x4,_|⟨x5,ps⟩⟩⟩⟩⟩<;>first|(exfalso;simp at hp;lia)|(exfalso;exact h1 rfl)|exact aK (fun R R' H=>bm H) 60 [] (L:=[]) .nil ())
theorem zj {x:Tr} (h:mf x):∃ kd y,aB x=.tup [.int kd,y]∧(kd=2∨kd=3∨kd=4):=by
 induction x using Tr.casesOn with
 |leaf=>exact h.elim
 |flow=>exact bI _ _ (by rw [aB]) (.inr (.inr rfl))
 |emp=>exact bI _ _ (by rw [aB]) (.inr (.inl rfl))
 |seq=>exact bI _ _ (by rw [aB]) (.inl rfl)
 |map=>exact bI _ _ (by rw [aB]) (.inr (.inl rfl))
theorem rH:∀ l:List Tr,aO l≤ph l
 |[]=>by rw [aO,ph];exact br _
 |x::l=>by
  have:=rH l
  (change cD;rewrite [ph])
  exact LG.mpr ⟨by exact KT _ _,by exact Kl M1 (Kk _ _)⟩
structure jm (T:Tr):Prop where
 w:wf T
 f:bZ T
 c:mf T
 h:ht T≤3
 l:(a6 T).length≤18
theorem zf {j:Nat} {ts:List Tr} (I:gv j old ts) (hj:j≤4):∃ T h',jm T∧MG 1 (bf rT) (old++[.lst (b6 ts)]) [(171,.r old.length)] (.ret (.v (aB T))) h' [(171,.r old.length)]:=by
 have ho:old.length≤3:=by have:=I.o;lia
 have hp:=I.p;have hl:=qM ts;have vseq:aB (.seq ts)=.tup [.int 2,.lst (b6 ts)]:=by rw [aB]
 have many:ts.length≠1→∃ T h',jm T∧MG 1 (bf rT) (old++[.lst (b6 ts)]) [(171,.r old.length)] (.ret (.v (aB T))) h' [(171,.r old.length)]:=fun h1=>by
  have m:=C7 (old:=old) (ps:=b6 ts) ho (by change kS;lia) (by change kS;exact h1);refine bI (.seq ts) _ ⟨by dsimp only [wf];exact I.w,by dsimp only [bZ];exact ⟨by (first|assumption|lia),I.f⟩,trivial,?_,?_⟩ (by change vseq;exact m)
  ·change fI
   match ts,h1,hp with
   |[],_,_=>rw [aO];exact KG _
   |[_],h1,_=>exact absurd rfl h1
   |x::y::l,_,hp=>
    have a:=rH l;rw [ph,ph] at hp
    (change cD;change cD)
    exact LG.mpr ⟨by lia,LG.mpr ⟨by lia,by lia⟩⟩
  ·(refine ay (jB ts) ?_;rintro u e)
   change e;have:=I.l;simp;lia
 by_cases h1:ts.length=1
 ·(refine ay (List.length_eq_one_iff.mp h1) ?_;clear hl vseq many h1;rintro x rfl)
  have hx:=(dr.mp I.w).1;have fx:=(dx.mp I.f).1;have vx:b6 [x]=[aB x]:=by (change cj;change dj;with_reducible rfl)
  have lx:=I.l;rw [eO,show aE []=[] by rw [aE],Kt] at lx
  by_cases hc:mf x
  ·(refine aN (zj hc) ?_;rintro kd y e hk)
   have m:=C9 (old:=old) (y:=y) ho hk;refine bI x _ ⟨hx,fx,hc,?_,by lia⟩ (by (change vx;change e);exact m);simp only [ph] at hp;lia
  ·clear hp hx fx lx;induction x using Tr.casesOn with
   |leaf k=>
    have e:aB (.leaf k)=.tup [.int 0,.int k]:=by rw [aB]
    have m:=C8 (old:=old) (y:=.int k) ho;refine bI (.seq [.leaf k]) _ ⟨by dsimp only [wf];exact I.w,by dsimp only [bZ];exact ⟨by exact Ku _,I.f⟩,trivial,?_,?_⟩ (by (change vx;change e;refine aU (show aB (.seq [.leaf k])=.tup [.int 2,.lst [.tup [.int 0,.int k]]] by (rewrite [aB];change vx;change e;with_reducible rfl)) ?_);exact m)
    ·change fI;have:=rH [.leaf k];have h0:ht (.leaf k)=0:=by rw [ht]
     simp only [ph,h0] at this;exact Ku _
    ·(refine ay (jB [.leaf k]) ?_;rintro u e)
     change e;have:=I.l;simp;exact Ku _
   |flow=>exact absurd trivial hc
   |emp=>exact absurd trivial hc
   |seq=>exact absurd trivial hc
   |map=>exact absurd trivial hc
 ·exact many h1
theorem dM {x:Nat} {v:X} {h:List a8} {lc:List (Nat×X)} (e:look lc x=some v):MG D (fun R=>R.e (.n x)) h lc v h lc:=
 dB (jK (m:=fun σ=>match look σ.loc x with|some y=>some (y,σ)|none=>none) fun lc1 hs d o=>by
  refine (?_:(match look lc1 x with|some y=>_|none=>none)=_)
  (change hs _ _ e;with_reducible rfl))
theorem EB {x:Nat} {e:CE} {b:List CS} {l:List V} {ov:X} {h :List a8} {lc lc1 aQ:List (Nat×X)} (he:l8 e=none) (a:MG D (fun R=>R.e e) h lc ov h1 lc1) (hi:items ov=ak l) (k:MG D (fun R=>e8 R x b l) h1 lc1 .next h2 aQ):MG D (fun R=>bN T7 R (.for x e b)) h lc .next h2 aQ:=by
 refine nX (m:=fun R=>a7 (R.e e) fun o=>a7 (items o) fun l=>R.fr x l b) (aP a (aP (m:=fun _=>items ov) (by change hi;exact bd) (vL k))) fun R=>?_;refine (?_:qz R x e b=_);unfold qz;change he;rfl
theorem ze (t:List Int) (ht:t.length≤4):∃ T h',jm T∧FG 2 ⟨789,[.v (.lst (t.map .sint))],[],.v (aB T),h'⟩:=by
 have I0:gv 0 [] []:=⟨by unfold dc;trivial,by unfold cE;trivial,by simp [ph],fun h=>by contradiction,by exact br _,by dsimp only [aE];exact br _⟩
 (refine aN (uM t (j:=0) (by exact LH M1 _) I0) ?_;rintro old ts m1 I1)
 rw [dj] at m1
 (refine aN (zf I1 (by exact LH M1 _)) ?_;rintro T h' g m2)
 refine bI T h' g (oK (F:=my) (lc':=[(171,.r old.length)]) (by rfl) ?_);have e:my.body=[.asg [171] (.nil .lst)]++([.for 172 (.n 173) bT]++rT):=by rfl
 change e;have a:MG 2 (bf [.asg [171] (.nil .lst)]) [] [(173,.v (.lst (t.map .sint)))] .next ([]++[.lst []]) [(173,.v (.lst (t.map .sint))),(171,.r 0)]:=(aK (d:=1) (fun R R' H=>bm H) 60 [] (L:=[]) .nil ()).mono M0;have b:MG 2 (bf [.for 172 (.n 173) bT]) ([]++[.lst []]) [(173,.v (.lst (t.map .sint))),(171,.r 0)] .next (old++[.lst (b6 ts)]) [(171,.r old.length)]:=
  fg (EB rfl (dM rfl) rfl ((m1.sub (l1:=[(173,.v (.lst (t.map .sint))),(171,.r 0)]) (du rfl) .refl).mono M0)) bd
 exact dw a (dw b (m2.mono M0))
noncomputable def ax (l:List (List Nat)):List V:=l.map .str
noncomputable def fv (x:Bx):V:=.tup [.int x.k,.str x.h,.lst (ax x.r)]
theorem rh {x:Nat} {c:CE} {v :V} {l ys:List V} {h:List a8} {lc :List (Nat×X)} (a:MG D (fun R=>bt R c) [] [(x,.v v)] y h' lc') (k:MG D (fun R=>d0 R x c l) h lc ys h lc):MG D (fun R=>d0 R x c (v::l)) h lc (y::ys) h lc:=by
 (refine ay a ?_;(try clear a);rintro n1 k1)
 (refine ay ((aP k (f:=fun _ ys=>ak (y::ys)) bd:MG D (fun R=>a7 (d0 R x c l) fun ys=>ak (y::ys)) h lc (y::ys) h lc)) ?_;rintro n2 k2)
 refine ba (n1+n2) (fun n d u w=>?_)
 (refine aN (k1 n d (by exact dz M1) w) ?_;rintro d1 l1 t1 e1)
 (refine aN (k2 n d (by exact Kl (Kk _ _) M1) w) ?_;rintro d2 l2 t2 e2)
 refine bI (d1++d2) (l2++l1) (t2.app t1) (fun q hs=>?_)
 (refine am (e1 _ .refl) ?_;rintro q1 _ e1)
 (refine am (e2 q hs) ?_;rintro q2 s2 e2)
 refine aF q2 s2 (fun r o=>?_);have e1:=e1 (d2++r) o;have e2:=e2 r (l1++o);dsimp only [d0];dsimp only at e1 e2 ⊢
 (change Kw;change e1)
 dsimp only
 (change e2;change Kw;with_reducible rfl)
theorem rg {x:Nat} {c:CE} {h:List a8} {lc:List (Nat×X)}:MG D (fun R=>d0 R x c []) h lc [] h lc:=bd
theorem EE {x:Nat} {c:CE} {l ys:List V} {h:List a8} {lc:List (Nat×X)} (k:MG D (fun R=>d0 R x c l) h lc ys h lc):MG D (fun R=>R.cp x c l) h lc ys h lc:=jH k fun _ _ _=>rfl
theorem iU {c:CE} {v:V} {h :List a8} {lc :List (Nat×X)} (a:MG D (fun R=>R.e c) h lc (.v v) h' lc'):MG D (fun R=>bt R c) h lc v h' lc':=aP a (jK (m:=aZ (fA (.v v))) fun _ _ _ _=>rfl)
theorem lR {x:Nat} {c :CE} {l ys:List V} {h :List a8} {lc lc1:List (Nat×X)} (a:MG D (fun R=>R.e src) h lc (.v (.lst l)) h1 lc1) (k:MG D (fun R=>d0 R x c l) h1 lc1 ys h1 lc1):MG D (fun R=>R.e (.comp x c src)) h lc (.v (.lst ys)) h1 lc1:=
 dB (aP a (aP (m:=fun _=>items (.v (.lst l))) (x:=l) bd (aP (EE k) bd)))
theorem nY {a b:CE} {x y:List V} {h :List a8} {lc lc1 aQ:List (Nat×X)} (ha:MG D (fun R=>R.e a) h lc (.v (.lst x)) h1 lc1) (hb:MG D (fun R=>R.e b) h1 lc1 (.v (.lst y)) h2 aQ) (hl:x.length+y.length≤lim):MG D (fun R=>R.e (.bin .add a b)) h lc (.v (.lst (x++y))) h2 aQ:=
 dB (aP (iU ha) (aP (iU hb) (aP (m:=fun _=>cz .add (.lst x) (.lst y)) (x:=.lst (x++y)) ⟨0,fun _ _ _ _=>⟨[],[x.length+y.length≤lim],.cons hl .nil,fun lc1 hs=>⟨lc1,hs,fun _ _=>rfl⟩⟩⟩ bd)))
theorem Et {e:CE} {a:V} {l:List V} {h :List a8} {lc lc1:List (Nat×X)} (k:MG D (fun R=>R.e e) h lc (.v (.lst (a::l))) h1 lc1):MG D (fun R=>R.e (.sl e (some (.k (.int 1))) none)) h lc (.v (.lst l)) h1 lc1:=by
 have s:f0 (.v (.lst (a::l))) (some (.int 1)) none=ak (.lst l):=by
  have e:bX (a::l) (some (.int 1)) none=some l:=by
   have h1:eC (a::l).length 0 (some (.int 1))=some (Nat.min 1 (l.length+1)):=rfl;have h2:eC (a::l).length (a::l).length none=some (l.length+1):=rfl;unfold bX
   (change h1;change h2)
   have:Nat.min 1 (l.length+1)=1:=LU (by exact Ku _);change this;simp
  unfold f0;dsimp only;change e;rfl
 have t1:MG D (fun _=>f0 (.v (.lst (a::l))) (some (.int 1)) none) h1 lc1 (.lst l) h1 lc1:=by change s;exact bd
 have t2:MG D (fun _=>a7 (f0 (.v (.lst (a::l))) (some (.int 1)) none) fun v=>ak (X.v v)) h1 lc1 (.v (.lst l)) h1 lc1:=aP t1 bd;have lo:MG D (fun R=>fK R (some (.k (.int 1)))) h1 lc1 (some (.int 1)) h1 lc1:=aP (iU (dB bd)) bd;have hi:MG D (fun R=>fK R none) h1 lc1 none h1 lc1:=bd;exact dB (aP k (aP lo (aP hi t2)))
theorem Ez {t:CE} {b o:List CS} {fl:Fl} {h :List a8} {lc lc1 aQ:List (Nat×X)} (a:MG D (fun R=>R.t t) h lc true h1 lc1) (k:MG D (bf b) h1 lc1 fl h2 aQ):MG D (fun R=>bN T7 R (.ife t b o)) h lc fl h2 aQ:=aP a (jJ k)
theorem EA {t:CE} {b o:List CS} {fl:Fl} {h :List a8} {lc lc1 aQ:List (Nat×X)} (a:MG D (fun R=>R.t t) h lc false h1 lc1) (k:MG D (bf o) h1 lc1 fl h2 aQ):MG D (fun R=>bN T7 R (.ife t b o)) h lc fl h2 aQ:=aP a (jJ k)
theorem vH {e:CE} {x:X} {h :List a8} {lc lc1:List (Nat×X)} (a:MG D (fun R=>R.e e) h lc x h1 lc1):MG D (bf [.ret e]) h lc (.ret x) h1 lc1:=aP (m:=fun R=>bN T7 R (.ret e)) (x:=.ret x) (aP a bd) bd
theorem EH {c:CS} {b:List CS} {x:X} {h :List a8} {lc lc1:List (Nat×X)} (a:MG D (fun R=>bN T7 R c) h lc (.ret x) h1 lc1):MG D (bf (c::b)) h lc (.ret x) h1 lc1:=aP a bd
noncomputable def c2:CE:=.bin .add (.k (.str [32,32])) (.n 193)
theorem nE {h:List a8} {lc:List (Nat×X)}:∀ (r:List (List Nat)),(∀ x∈r,x.length≤100000)→MG 1 (fun R=>d0 R 193 c2 (ax r)) h lc (ax (cC r)) h lc
 |[],_=>rg
 |x::r,hx=>by
  have hl:lim=1048576:=rfl;have:=hx x (.head _);exact rh (y:=.str ([32,32]++x)) (aK (d:=1) (fun R R' H=>bk H) 60 [] (L:=[2+x.length≤lim]) (lc':=[(193,.v (.str x))]) (h':=[]) (.cons M2 .nil) ()) (nE r fun y hy=>hx y (.tail _ hy))
noncomputable def hL (m:List Nat) (x:Bx):List (Nat×X):=[(185,.v (.str m)),(192,.v (fv x)),(177,.v (.int x.k)),(191,.v (.str x.h)),(170,.v (.lst (ax x.r)))]
noncomputable def hB (i:Nat):List CS:=match oM.body with|[a,b,c]=>(match i with|0=>[a]|1=>[b]|_=>[c])|_=>[]
noncomputable def hT:CE:=match oM.body with|[_,.ife t _ _,_]=>t|_=>.stuck
noncomputable def Gk:CE:=.lst [.bin .add (.bin .add (.n 185) (.k (.str [32]))) (.idx (.n 170) (.k (.int 0)))]
noncomputable def Gj:CE:=.lst [.bin .add (.n 185) (.n 191)]
noncomputable def hI:CE:=.ife (.and [.cmp (.n 177) [(.eq,.k (.int 2))],.cmp (.n 185) [(.ne,.k (.str [45]))]]) (.n 170) (.comp 193 c2 (.n 170))
structure mU (x:Bx):Prop where
 h:x.h.length≤90000
 n:x.r.length≤90000
 r:∀ y∈x.r,y.length≤90000
theorem FW {m:List Nat} {x:Bx}:MG 1 (bf (hB 0)) [] [(185,.v (.str m)),(192,.v (fv x))] .next [] (hL m x):=aK (fun R R' H=>bm H) 60 [] (L:=[]) .nil ()
theorem wI {m:List Nat} {x:Bx} {v:X} (k:MG 1 (bf (hB 1++hB 2)) [] (hL m x) (.ret v) [] (hL m x)):FG 1 ⟨815,[.v (.str m),.v (fv x)],[],v,[]⟩:=
 oK (F:=oM) (lc':=hL m x) (by rfl) (dw FW k)
theorem FY {m:List Nat} {kd:Nat} (hm:m=[45]∨m=[63]∨m=[58]) (hk:kd=2∨kd=3) (S:mU ⟨kd,hd,r0::rs⟩):FG 1 ⟨815,[.v (.str m),.v (fv ⟨kd,hd,r0::rs⟩)],[],.v (.lst (ax ((m++(32::r0))::cC rs))),[]⟩:=by
 have hl:lim=1048576:=rfl;have h0:=S.r r0 (.head _);have hn:rs.length+1≤90000:=S.n;refine wI ?_;have ht:MG 1 (fun R=>R.t hT) [] (hL m ⟨kd,hd,r0::rs⟩) true [] (hL m ⟨kd,hd,r0::rs⟩):=by
  rcases hm with rfl|rfl|rfl<;>(clear S;rcases hk with rfl|rfl)<;>exact aK (fun R R' H=>H.t _) 60 [] (L:=[]) .nil ()
 have a1:MG 1 (fun R=>R.e Gk) [] (hL m ⟨kd,hd,r0::rs⟩) (.v (.lst [.str (m++(32::r0))])) [] (hL m ⟨kd,hd,r0::rs⟩):=by
  clear ht;rcases hm with rfl|rfl|rfl<;>exact aK (fun R R' H=>H.e _) 60 [] (L:=[2+r0.length≤lim,1+1≤lim]) (.cons M2 (.cons (by exact Kk _ _) .nil)) ()
 have a2:MG 1 (fun R=>R.e (.comp 193 c2 (.sl (.n 170) (some (.k (.int 1))) none))) [] (hL m ⟨kd,hd,r0::rs⟩) (.v (.lst (ax (cC rs)))) [] (hL m ⟨kd,hd,r0::rs⟩):=
  lR (Et (a:=.str r0) (dM (by rfl))) (nE rs fun y hy=>by have:=S.r y (.tail _ hy);exact Kl M1 (Kk _ _))
 exact EH (Ez ht (vH (nY a1 a2 (by simp [ax,cC];lia))))
theorem oz {m:List Nat} {x:Bx} (S:mU x) (hm:m.length≤90000) {ys:List (List Nat)} (ht:MG 1 (fun R=>R.t hT) [] (hL m x) false [] (hL m x)) (hi:MG 1 (fun R=>R.e hI) [] (hL m x) (.v (.lst (ax ys))) [] (hL m x)) (hy:ys.length≤100000):FG 1 ⟨815,[.v (.str m),.v (fv x)],[],.v (.lst (ax ((m++x.h)::ys))),[]⟩:=by
 have hl:lim=1048576:=rfl;have:=S.h;refine wI ?_;have a1:MG 1 (fun R=>R.e Gj) [] (hL m x) (.v (.lst [.str (m++x.h)])) [] (hL m x):=
  aK (fun R R' H=>H.e _) 60 [] (L:=[m.length+x.h.length≤lim]) (.cons M2 .nil) ()
 exact dw (a:=hB 1) (fg (EA (o:=[]) ht bd) bd) (vH (nY a1 hi (by simp [ax];lia)))
theorem nW {t a o:CE} {v:X} {h :List a8} {lc lc1 aQ:List (Nat×X)} (k:MG D (fun R=>R.t t) h lc false h1 lc1) (m:MG D (fun R=>R.e o) h1 lc1 v h2 aQ):MG D (fun R=>R.e (.ife t a o)) h lc v h2 aQ:=dB (aP k m)
noncomputable def sO (k:Nat):Prop:=k=0∨k=2∨k=3∨k=4
noncomputable def K4:CE:=.and [.cmp (.n 177) [(.eq,.k (.int 2))],.cmp (.n 185) [(.ne,.k (.str [45]))]]
theorem FX {m:List Nat} {x:Bx} (hm:m=[45]∨m=[63]∨m=[58]) (hk:sO x.k) (S:mU x):FG 1 ⟨815,[.v (.str m),.v (fv x)],[],.v (.lst (ax ((m++tl x)::bl x))),[]⟩:=by
 obtain ⟨k,hd,r⟩:=x;have hml:m.length≤90000:=by rcases hm with rfl|rfl|rfl<;>simp
 have hn:r.length≤90000:=S.n;have rr:=nE (h:=[]) (lc:=hL m ⟨k,hd,r⟩) r fun y hy=>by have:=S.r y hy;exact Kl M1 (Kk _ _)
 have hr:(cC r).length≤100000:=by simp [cC];exact Kl M1 (Kk _ _)
 have flat:k=0∨k=4→FG 1 ⟨815,[.v (.str m),.v (fv ⟨k,hd,r⟩)],[],.v (.lst (ax ((m++tl ⟨k,hd,r⟩)::bl ⟨k,hd,r⟩))),[]⟩:=fun h=>by
  have e:=iG (x:=⟨k,hd,r⟩) (h.elim .inl fun h=>.inr (.inl h))
  (change e.1;change e.2)
  refine oz S hml ?_ ?_ hr
  ·rcases h with h|h<;>(have h:k=_:=h;clear hk S rr e;subst h;exact aK (fun R R' H=>H.t _) 60 [] (L:=[]) .nil ())
  ·refine nW (lc1:=hL m ⟨k,hd,r⟩) (h1:=[]) ?_ (lR (dM (by rfl)) rr);rcases h with h|h<;>(have h:k=_:=h;clear hk S rr e;subst h;exact aK (fun R R' H=>H.t _) 60 [] (L:=[]) .nil ())
 have block:k=2∨k=3→FG 1 ⟨815,[.v (.str m),.v (fv ⟨k,hd,r⟩)],[],.v (.lst (ax ((m++tl ⟨k,hd,r⟩)::bl ⟨k,hd,r⟩))),[]⟩:=fun h=>by
  clear hn hr;clear hk;induction r using List.casesOn with
  |nil=>
   have e:=iG (x:=⟨k,hd,[]⟩) (.inr (.inr rfl))
   (change e.1;change e.2)
   refine oz (ys:=[]) S hml ?_ ?_ (by exact KG _)
   ·rcases h with h|h<;>(have h:k=_:=h;clear S rr flat e;subst h;exact aK (fun R R' H=>H.t _) 60 [] (L:=[]) .nil ())
   ·rcases h with h|h<;>(have h:k=_:=h;clear S e;clear rr flat;subst h;clear hml;rcases hm with rfl|rfl|rfl<;>exact aK (fun R R' H=>H.e _) 60 [] (L:=[]) .nil ())
  |cons r0 rs=>
   have e:=FY hm h S;rcases h with h|h<;>(have h:k=_:=h;clear S rr flat;subst h;exact e)
 rcases hk with h|h|h|h
 ·exact flat (.inl h)
 ·exact block (.inl h)
 ·exact block (.inr h)
 ·exact flat (.inr h)
noncomputable def JA (m:List Nat):Prop:=m=[97,58]∨m=[98,32,99,58]∨m=[39,45,39,58]∨m=[39,100,39,58]∨m=[34,101,34,58]∨m=[91,93,58]∨m=[123,125,58]
theorem j7 {m:List Nat} {x:Bx} (hm:JA m) (hk:sO x.k) (S:mU x):FG 1 ⟨815,[.v (.str m),.v (fv x)],[],.v (.lst (ax ((m++x.h)::sl x))),[]⟩:=by
 obtain ⟨k,hd,r⟩:=x;have hml:m.length≤90000:=by rcases hm with rfl|rfl|rfl|rfl|rfl|rfl|rfl<;>simp
 have hn:r.length≤90000:=S.n;have rr:=nE (h:=[]) (lc:=hL m ⟨k,hd,r⟩) r fun y hy=>by have:=S.r y hy;exact Kl M1 (Kk _ _)
 have hr:(cC r).length≤100000:=by simp [cC];exact Kl M1 (Kk _ _)
 have ht:MG 1 (fun R=>R.t hT) [] (hL m ⟨k,hd,r⟩) false [] (hL m ⟨k,hd,r⟩):=by
  have hk:k=0∨k=2∨k=3∨k=4:=hk;clear hn hr;clear S;induction r using List.casesOn with
  |nil=>clear rr;rcases hk with rfl|rfl|rfl|rfl<;>exact aK (fun R R' H=>H.t _) 60 [] (L:=[]) .nil ()
  |cons r0 rs=>clear rr;rcases hk with rfl|rfl|rfl|rfl<;>(clear hml;rcases hm with rfl|rfl|rfl|rfl|rfl|rfl|rfl)<;>exact aK (fun R R' H=>H.t _) 60 [] (L:=[]) .nil ()
 by_cases h2:k=2
 ·clear hk;clear rr;subst h2;refine (?_:FG 1 ⟨815,_,[],.v (.lst (ax ((m++hd)::r))),[]⟩);refine oz S hml ht ?_ (by exact Kl M1 (Kk _ _));clear hml ht;rcases hm with rfl|rfl|rfl|rfl|rfl|rfl|rfl<;>exact aK (fun R R' H=>H.e _) 60 [] (L:=[]) .nil ()
 ·have hk:k=0∨k=3∨k=4:=by rcases hk with h|h|h|h<;>(have h:k=_:=h;(first|contradiction|lia))
  have e:sl ⟨k,hd,r⟩=cC r:=by clear S rr ht h2;rcases hk with rfl|rfl|rfl<;>rfl
  change e;refine oz S hml ht ?_ hr;refine nW (lc1:=hL m ⟨k,hd,r⟩) (h1:=[]) ?_ (lR (dM (by rfl)) rr);clear S rr ht h2 e;rcases hk with rfl|rfl|rfl<;>exact aK (fun R R' H=>H.t _) 60 [] (L:=[]) .nil ()
noncomputable def hO (D:Nat) (T:Tr):Prop:=∃ h',FG D ⟨820,[.v (aB T)],[],.v (fv (ag T)),h'⟩
theorem oX {T:Tr} (h:(∃ k,T=.leaf k∧k < 6)∨(∃ k,T=.flow k∧k < 5)∨T=.emp∨T=.seq []):hO 2 T:=by
 rcases h with ⟨k,rfl,hk⟩|⟨k,rfl,hk⟩|rfl|rfl
 ·refine ba [] ?_;dsimp only [aB,ag];refine iV hk ?_ ?_ ?_ ?_ ?_ ?_
  ·exact bx 60 [] (L:=[1+1≤lim]) (.cons M0 .nil) ()
  ·exact bx 60 [] (L:=[1+3≤lim]) (.cons M0 .nil) ()
  ·exact bx 60 [] (L:=[1+3≤lim]) (.cons M0 .nil) ()
  ·exact bx 60 [] (L:=[1+3≤lim]) (.cons M0 .nil) ()
  ·exact bx 60 [] (L:=[1+3≤lim]) (.cons M0 .nil) ()
  ·exact bx 60 [] (L:=[1+1≤lim]) (.cons M0 .nil) ()
 ·refine ba [] ?_;dsimp only [aB,ag];refine jP hk ?_ ?_ ?_ ?_ ?_
  ·exact bx 60 [] (L:=[6+1≤lim,2+4≤lim,6≤lim]) (.cons M0 (.cons M0 (.cons M0 .nil))) ()
  ·exact bx 60 [] (L:=[8+1≤lim,2+6≤lim,8≤lim]) (.cons M0 (.cons M0 (.cons M0 .nil))) ()
  ·exact bx 60 [] (L:=[8+1≤lim,2+6≤lim,8≤lim]) (.cons M0 (.cons M0 (.cons M0 .nil))) ()
  ·exact bx 60 [] (L:=[8+1≤lim,2+6≤lim,8≤lim]) (.cons M0 (.cons M0 (.cons M0 .nil))) ()
  ·exact bx 60 [] (L:=[8+1≤lim,2+6≤lim,8≤lim]) (.cons M0 (.cons M0 (.cons M0 .nil))) ()
 ·refine ba [] ?_;dsimp only [aB,ag];exact bx 60 [] (L:=[]) .nil ()
 ·refine ba [] ?_;dsimp only [aB,b6,ag];exact bx 60 [] (L:=[]) .nil ()
structure Bd (p:Nat) (x:Bx):Prop where
 k:sO x.k
 h:x.h.length≤20 * p
 n:x.r.length+2≤20 * p
 r:∀ y∈x.r,y.length≤20 * p
theorem oq {l:List (List Nat)} {b:Nat} (h:∀ y∈l,y.length≤b):∀ y∈cC l,y.length≤b+2:=fun y hy=>by
 (refine am (L8.mp hy) ?_;clear hy;rintro z hz rfl)
 have:=h z hz;simp;assumption
theorem ot {l:List (List Nat)}:(cC l).length=l.length:=by simp [cC]
theorem pL {x:Bx} (B:Bd p x):(tl x).length≤20 * p+1:=by
 obtain ⟨k,hd,r⟩:=x;have h:hd.length≤20 * p:=B.h;induction r using List.casesOn with
 |nil=>change (iG (x:=⟨k,hd,[]⟩) (.inr (.inr rfl))).1;refine (?_:hd.length≤_);exact KK M1
 |cons r0 rs=>
  have h0:r0.length≤20 * p:=B.r r0 (.head _);rcases B.k with e|e|e|e<;>(have e:k=_:=e;clear B;subst e)
  ·refine (?_:hd.length≤_);exact KK M1
  ·refine (?_:(32::r0).length≤_);change Ko;exact KR M1
  ·refine (?_:(32::r0).length≤_);change Ko;exact KR M1
  ·refine (?_:hd.length≤_);exact KK M1
set_option tactic.hygienic true in
theorem pe {x:Bx} (B:Bd p x):(bl x).length≤x.r.length∧∀ y∈bl x,y.length≤20 * p+2:=by
 obtain ⟨k,hd,r⟩:=x;unfold bl;dsimp only
 split
 ·rename_i a b c;exact ⟨by change ot;exact KT _ _,oq fun y hy=>B.r y (.tail _ hy)⟩
 ·rename_i a b c;exact ⟨by change ot;exact KT _ _,oq fun y hy=>B.r y (.tail _ hy)⟩
 ·exact ⟨by change ot;exact br _,oq B.r⟩
theorem hU {x:Bx} (B:Bd p x):(sl x).length=x.r.length∧∀ y∈sl x,y.length≤20 * p+2:=by
 unfold sl
 split
 ·exact ⟨rfl,fun y hy=>by have:=B.r y hy;(first|assumption|exact Kl M1 (KT _ _))⟩
 ·exact ⟨ot,oq B.r⟩
theorem JP (T:Tr):1≤(a6 T).length:=by (refine aN (dA T) ?_;rintro _ _ h _);change h;simp
mutual
theorem dS:∀ T,wf T→Bd (a6 T).length (ag T)
 |.leaf k,h=>by
  dsimp only [wf] at h;refine aU (show (a6 (.leaf k)).length=1 by rw [a6];rfl) ?_;dsimp only [ag];refine iV h ?_ ?_ ?_ ?_ ?_ ?_
  ·exact ⟨.inl rfl,by simp [bY],by exact Kk _ _,fun y hy=>nomatch hy⟩
  ·exact ⟨.inl rfl,by simp [bY],by exact Kk _ _,fun y hy=>nomatch hy⟩
  ·exact ⟨.inl rfl,by simp [bY],by exact Kk _ _,fun y hy=>nomatch hy⟩
  ·exact ⟨.inl rfl,by simp [bY],by exact Kk _ _,fun y hy=>nomatch hy⟩
  ·exact ⟨.inl rfl,by simp [bY],by exact Kk _ _,fun y hy=>nomatch hy⟩
  ·exact ⟨.inl rfl,by simp [bY],by exact Kk _ _,fun y hy=>by simp at hy;rcases hy with rfl|rfl<;>exact Ku _⟩
 |.flow k,h=>by
  dsimp only [wf] at h;refine aU (show (a6 (.flow k)).length=4 by rw [a6];rfl) ?_;dsimp only [ag];refine ⟨.inr (.inr (.inr rfl)),?_,by exact Kk _ _,fun y hy=>nomatch hy⟩;refine jP h ?_ ?_ ?_ ?_ ?_
  ·simp [bY]
  ·simp [bY]
  ·simp [bY]
  ·simp [bY]
  ·simp [bY]
 |.emp,_=>by
  refine aU (show (a6 .emp).length=2 by rw [a6];rfl) ?_;dsimp only [ag];exact ⟨.inr (.inr (.inl rfl)),by exact Kk _ _,by exact Kk _ _,fun y hy=>nomatch hy⟩
 |.seq [],_=>by
  refine aU (show (a6 (.seq [])).length=2 by rw [a6,aE];rfl) ?_;dsimp only [ag];exact ⟨.inr (.inl rfl),by exact Kk _ _,by exact Kk _ _,fun y hy=>nomatch hy⟩
 |.seq (x::l),h=>by
  dsimp only [wf] at h
  (refine aw (xV (x::l) h) ?_;rintro h1 h2)
  (refine ay (jB (x::l)) ?_;rintro u e)
  (change e;refine aU (show ag (.seq (x::l))=⟨2,[],bL (x::l)⟩ by rw [ag]) ?_)
  have:(Kd.sq u::(aE (x::l)++[.se])).length=(aE (x::l)).length+2:=by simp
  change this;exact ⟨.inr (.inl rfl),by exact KG _,by refine (?_:(bL (x::l)).length+2≤_);lia,fun y hy=>by have:=h2 y hy;lia⟩
 |.map a b,h=>by
  dsimp only [wf] at h;have A:=dS a h.1;have B:=dS b h.2
  (refine aU (show ag (.map a b)=⟨3,[],cH (ag a) (ag b)⟩ by rw [ag]) ?_;refine aU (show (a6 (.map a b)).length=(a6 a).length+(a6 b).length+2 by rw [a6];simp;rfl) ?_)
  have t1:=pL A;have t2:=pL B;have b1:=pe A;have b2:=pe B;have s2:=hU B;have n1:=A.n;have n2:=B.n;have h1:=A.h;have h2:=B.h;refine ⟨.inr (.inr (.inl rfl)),by exact KG _,?_,?_⟩
  ·refine (?_:(cH (ag a) (ag b)).length+2≤_);dsimp only [cH]
   split
   ·simp;lia
   ·simp;lia
  ·refine (?_:∀ y∈cH (ag a) (ag b),_);dsimp only [cH]
   split
   ·intro y hy;simp at hy;rcases hy with rfl|hy|rfl|hy
    ·simp;lia
    ·have:=b1.2 y hy;lia
    ·simp;lia
    ·have:=b2.2 y hy;lia
   ·intro y hy;simp at hy;rcases hy with rfl|hy
    ·simp;lia
    ·have:=s2.2 y hy;lia
theorem xV:∀ l,dc l→(bL l).length≤20 * (aE l).length∧∀ y∈bL l,y.length≤20 * (aE l).length+2
 |[],_=>by dsimp only [bL];exact ⟨by exact br _,fun y hy=>nomatch hy⟩
 |x::l,h=>by
  dsimp only [dc] at h;have X:=dS x h.1;have L:=xV l h.2;have t1:=pL X;have b1:=pe X;have n1:=X.n;have e:(aE (x::l)).length=(a6 x).length+(aE l).length:=by (change eO;change Kn;with_reducible rfl)
  (refine aU (show bL (x::l)=((45::tl (ag x))::bl (ag x))++bL l by rw [bL]) ?_;change e)
  refine ⟨by simp;lia,fun y hy=>?_⟩;simp at hy;rcases hy with rfl|hy|hy
  ·simp;lia
  ·have:=b1.2 y hy;lia
  ·have:=L.2 y hy;lia
end
theorem Bd.sm {x:Bx} (B:Bd p x) (h:p≤4000):mU x:=⟨by have:=B.h;lia,by have:=B.n;lia,fun y hy=>by have:=B.r y hy;lia⟩
noncomputable def bF (v:V) (x:Bx) (h:List a8):bH:=⟨820,[.v v],[],.v (fv x),h⟩
noncomputable def hF (m:List Nat) (x:Bx) (rows:List (List Nat)):bH:=⟨815,[.v (.str m),.v (fv x)],[],.v (.lst (ax rows)),[]⟩
noncomputable def hg (m:List Nat) (x:Bx):List (List Nat):=(m++tl x)::bl x
theorem ek {m:List Nat} {x:Bx} (B:Bd p x) (h:p≤4000):(ax (hg m x)).length≤100000:=by
 have:=(pe B).1;have:=B.n;simp [ax,hg];lia
theorem er {m:List Nat} {x:Bx} (hm:m=[45]∨m=[63]∨m=[58]) (B:Bd p x) (h:p≤4000) (hD:1≤D):FG D (hF m x (hg m x)):=(FX hm B.k (B.sm h)).mono hD
theorem IY (fa:FG D (bF va xa ha)) (Ba:Bd p xa) (hp:p≤4000) (hD:1≤D):
  FG (D+1) ⟨820,[.v (.tup [.int 2,.lst [va]])],[],.v (.tup [.int 2,.str [],.lst (ax (hg [45] xa))]),[.dead]⟩:=by
 have hl:lim=1048576:=rfl;have la:=ek (m:=[45]) Ba hp;exact dm (D:=D) (d:=1) (aM.cons fa (aM.cons (er (.inl rfl) Ba hp hD) .nil (br _)) (br _)) M2 60 [0,1] (L:=[0+(ax (hg [45] xa)).length≤lim,Qf (hF [45] xa (hg [45] xa)),Qf (bF va xa ha)]) (.cons M2 (.cons (qf _) (.cons (qf _) .nil))) ()
theorem IX (fa:FG D (bF va xa ha)) (Ba:Bd p xa) (fb:FG D (bF vb xb hb)) (Bb:Bd p xb) (hp:p≤4000) (hD:1≤D):
  FG (D+1) ⟨820,[.v (.tup [.int 2,.lst [va,vb]])],[],.v (.tup [.int 2,.str [],.lst ((ax (hg [45] xa)++ax (hg [45] xb)))]),[.dead]⟩:=by
 have hl:lim=1048576:=rfl;have la:=ek (m:=[45]) Ba hp;have lb:=ek (m:=[45]) Bb hp;exact dm (D:=D) (d:=1) (aM.cons fa (aM.cons fb (aM.cons (er (.inl rfl) Ba hp hD) (aM.cons (er (.inl rfl) Bb hp hD) .nil (br _)) (br _)) (br _)) (br _)) M2 60 [0,1,2,3] (L:=[(ax (hg [45] xa)).length+(ax (hg [45] xb)).length≤lim,Qf (hF [45] xb (hg [45] xb)),0+(ax (hg [45] xa)).length≤lim,Qf (hF [45] xa (hg [45] xa)),Qf (bF vb xb hb),Qf (bF va xa ha)]) (.cons (by (try rw [Kn]);(try rw [Kn]);(try rw [Kn]);lia) (.cons (qf _) (.cons M2 (.cons (qf _) (.cons (qf _) (.cons (qf _) .nil)))))) ()
theorem IW (fa:FG D (bF va xa ha)) (Ba:Bd p xa) (fb:FG D (bF vb xb hb)) (Bb:Bd p xb) (fc:FG D (bF vc xc hc)) (Bc:Bd p xc) (hp:p≤4000) (hD:1≤D):
  FG (D+1) ⟨820,[.v (.tup [.int 2,.lst [va,vb,vc]])],[],.v (.tup [.int 2,.str [],.lst (((ax (hg [45] xa)++ax (hg [45] xb))++ax (hg [45] xc)))]),[.dead]⟩:=by
 have hl:lim=1048576:=rfl;have la:=ek (m:=[45]) Ba hp;have lb:=ek (m:=[45]) Bb hp;have lc:=ek (m:=[45]) Bc hp;exact dm (D:=D) (d:=1) (aM.cons fa (aM.cons fb (aM.cons fc (aM.cons (er (.inl rfl) Ba hp hD) (aM.cons (er (.inl rfl) Bb hp hD) (aM.cons (er (.inl rfl) Bc hp hD) .nil (br _)) (br _)) (br _)) (br _)) (br _)) (br _)) M2 60 [0,1,2,3,4,5] (L:=[((ax (hg [45] xa)++ax (hg [45] xb))).length+(ax (hg [45] xc)).length≤lim,Qf (hF [45] xc (hg [45] xc)),(ax (hg [45] xa)).length+(ax (hg [45] xb)).length≤lim,Qf (hF [45] xb (hg [45] xb)),0+(ax (hg [45] xa)).length≤lim,Qf (hF [45] xa (hg [45] xa)),Qf (bF vc xc hc),Qf (bF vb xb hb),Qf (bF va xa ha)]) (.cons (by (try change Kn);(try rw [Kn]);(try rw [Kn]);lia) (.cons (qf _) (.cons (by (try rw [Kn]);(try rw [Kn]);(try rw [Kn]);lia) (.cons (qf _) (.cons M2 (.cons (qf _) (.cons (qf _) (.cons (qf _) (.cons (qf _) .nil))))))))) ()
theorem IV {vd :V} {xd :Bx} {hd :List a8} (fa:FG D (bF va xa ha)) (Ba:Bd p xa) (fb:FG D (bF vb xb hb)) (Bb:Bd p xb) (fc:FG D (bF vc xc hc)) (Bc:Bd p xc) (fd:FG D (bF vd xd hd)) (Bd:Bd p xd) (hp:p≤4000) (hD:1≤D):
  FG (D+1) ⟨820,[.v (.tup [.int 2,.lst [va,vb,vc,vd]])],[],.v (.tup [.int 2,.str [],.lst ((((ax (hg [45] xa)++ax (hg [45] xb))++ax (hg [45] xc))++ax (hg [45] xd)))]),[.dead]⟩:=by
 have hl:lim=1048576:=rfl;have la:=ek (m:=[45]) Ba hp;have lb:=ek (m:=[45]) Bb hp;have lc:=ek (m:=[45]) Bc hp;have ld:=ek (m:=[45]) Bd hp;exact dm (D:=D) (d:=1) (aM.cons fa (aM.cons fb (aM.cons fc (aM.cons fd (aM.cons (er (.inl rfl) Ba hp hD) (aM.cons (er (.inl rfl) Bb hp hD) (aM.cons (er (.inl rfl) Bc hp hD) (aM.cons (er (.inl rfl) Bd hp hD) .nil (br _)) (br _)) (br _)) (br _)) (br _)) (br _)) (br _)) (br _)) M2 60 [0,1,2,3,4,5,6,7] (L:=[(((ax (hg [45] xa)++ax (hg [45] xb))++ax (hg [45] xc))).length+(ax (hg [45] xd)).length≤lim,Qf (hF [45] xd (hg [45] xd)),((ax (hg [45] xa)++ax (hg [45] xb))).length+(ax (hg [45] xc)).length≤lim,Qf (hF [45] xc (hg [45] xc)),(ax (hg [45] xa)).length+(ax (hg [45] xb)).length≤lim,Qf (hF [45] xb (hg [45] xb)),0+(ax (hg [45] xa)).length≤lim,Qf (hF [45] xa (hg [45] xa)),Qf (bF vd xd hd),Qf (bF vc xc hc),Qf (bF vb xb hb),Qf (bF va xa ha)]) (.cons (by (try change Kn);(try change Kn);(try rw [Kn]);lia) (.cons (qf _) (.cons (by (try change Kn);(try rw [Kn]);(try rw [Kn]);lia) (.cons (qf _) (.cons (by (try rw [Kn]);(try rw [Kn]);(try rw [Kn]);lia) (.cons (qf _) (.cons M2 (.cons (qf _) (.cons (qf _) (.cons (qf _) (.cons (qf _) (.cons (qf _) .nil)))))))))))) ()
theorem sr {k:Nat} (fa:FG D (bF va ⟨k,hd,r0::rs⟩ ha)) (Ba:Bd p ⟨k,hd,r0::rs⟩) (fb:FG D (bF vb xb hb)) (Bb:Bd p xb) (hp:p≤4000) (hD:1≤D):
  FG (D+1) ⟨820,[.v (.tup [.int 3,.lst [va,vb]])],[],.v (.tup [.int 3,.str [],.lst (ax (hg [63] ⟨k,hd,r0::rs⟩)++ax (hg [58] xb))]),[.dead]⟩:=by
 have hl:lim=1048576:=rfl;have la:=ek (m:=[63]) Ba hp;have lb:=ek (m:=[58]) Bb hp;exact dm (D:=D) (d:=1) (aM.cons fa (aM.cons fb (aM.cons (er (.inr (.inl rfl)) Ba hp hD) (aM.cons (er (.inr (.inr rfl)) Bb hp hD) .nil (br _)) (br _)) (br _)) (br _)) M2 60 [0,1,2,3] (L:=[(ax (hg [63] ⟨k,hd,r0::rs⟩)).length+(ax (hg [58] xb)).length≤lim,Qf (hF [58] xb (hg [58] xb)),0+(ax (hg [63] ⟨k,hd,r0::rs⟩)).length≤lim,Qf (hF [63] ⟨k,hd,r0::rs⟩ (hg [63] ⟨k,hd,r0::rs⟩)),Qf (bF vb xb hb),Qf (bF va ⟨k,hd,r0::rs⟩ ha)]) (.cons M2 (.cons (qf _) (.cons M2 (.cons (qf _) (.cons (qf _) (.cons (qf _) .nil)))))) ()
theorem IZ (fa:FG D (bF va ⟨4,hd,[]⟩ ha)) (Ba:Bd p ⟨4,hd,[]⟩) (fb:FG D (bF vb xb hb)) (Bb:Bd p xb) (hp:p≤4000) (hD:1≤D):
  FG (D+1) ⟨820,[.v (.tup [.int 3,.lst [va,vb]])],[],.v (.tup [.int 3,.str [],.lst (ax (hg [63] ⟨4,hd,[]⟩)++ax (hg [58] xb))]),[.dead]⟩:=by
 have hl:lim=1048576:=rfl;have la:=ek (m:=[63]) Ba hp;have lb:=ek (m:=[58]) Bb hp;exact dm (D:=D) (d:=1) (aM.cons fa (aM.cons fb (aM.cons (er (.inr (.inl rfl)) Ba hp hD) (aM.cons (er (.inr (.inr rfl)) Bb hp hD) .nil (br _)) (br _)) (br _)) (br _)) M2 60 [0,1,2,3] (L:=[(ax (hg [63] ⟨4,hd,[]⟩)).length+(ax (hg [58] xb)).length≤lim,Qf (hF [58] xb (hg [58] xb)),0+(ax (hg [63] ⟨4,hd,[]⟩)).length≤lim,Qf (hF [63] ⟨4,hd,[]⟩ (hg [63] ⟨4,hd,[]⟩)),Qf (bF vb xb hb),Qf (bF va ⟨4,hd,[]⟩ ha)]) (.cons M2 (.cons (qf _) (.cons (by exact Ku _) (.cons (qf _) (.cons (qf _) (.cons (qf _) .nil)))))) ()
theorem J7 (fa:FG D (bF va ⟨0,[32,97],[]⟩ ha)) (fb:FG D (bF vb xb hb)) (Bb:Bd p xb) (hp:p≤4000) (hD:1≤D):
  FG (D+1) ⟨820,[.v (.tup [.int 3,.lst [va,vb]])],[],.v (.tup [.int 3,.str [],.lst (ax (([97,58]++xb.h)::sl xb))]),[.dead]⟩:=by
 have hl:lim=1048576:=rfl;have lb:(ax (([97,58]++xb.h)::sl xb)).length≤100000:=by have:=(hU Bb).1;have:=Bb.n;simp [ax];lia
 exact dm (D:=D) (d:=1) (aM.cons fa (aM.cons fb (aM.cons ((j7 (m:=[97,58]) (.inl rfl) Bb.k (Bb.sm hp)).mono hD) .nil (br _)) (br _)) (br _)) M2 60 [0,1,2] (L:=[0+(ax (([97,58]++xb.h)::sl xb)).length≤lim,Qf (hF [97,58] xb (([97,58]++xb.h)::sl xb)),1+1≤lim,Qf (bF vb xb hb),Qf (bF va ⟨0,[32,97],[]⟩ ha)]) (.cons M2 (.cons (qf _) (.cons M0 (.cons (qf _) (.cons (qf _) .nil))))) ()
theorem J6 (fa:FG D (bF va ⟨0,[32,98,32,99],[]⟩ ha)) (fb:FG D (bF vb xb hb)) (Bb:Bd p xb) (hp:p≤4000) (hD:1≤D):
  FG (D+1) ⟨820,[.v (.tup [.int 3,.lst [va,vb]])],[],.v (.tup [.int 3,.str [],.lst (ax (([98,32,99,58]++xb.h)::sl xb))]),[.dead]⟩:=by
 have hl:lim=1048576:=rfl;have lb:(ax (([98,32,99,58]++xb.h)::sl xb)).length≤100000:=by have:=(hU Bb).1;have:=Bb.n;simp [ax];lia
 exact dm (D:=D) (d:=1) (aM.cons fa (aM.cons fb (aM.cons ((j7 (m:=[98,32,99,58]) (.inr (.inl rfl)) Bb.k (Bb.sm hp)).mono hD) .nil (br _)) (br _)) (br _)) M2 60 [0,1,2] (L:=[0+(ax (([98,32,99,58]++xb.h)::sl xb)).length≤lim,Qf (hF [98,32,99,58] xb (([98,32,99,58]++xb.h)::sl xb)),3+1≤lim,Qf (bF vb xb hb),Qf (bF va ⟨0,[32,98,32,99],[]⟩ ha)]) (.cons M2 (.cons (qf _) (.cons M0 (.cons (qf _) (.cons (qf _) .nil))))) ()
theorem J5 (fa:FG D (bF va ⟨0,[32,39,45,39],[]⟩ ha)) (fb:FG D (bF vb xb hb)) (Bb:Bd p xb) (hp:p≤4000) (hD:1≤D):
  FG (D+1) ⟨820,[.v (.tup [.int 3,.lst [va,vb]])],[],.v (.tup [.int 3,.str [],.lst (ax (([39,45,39,58]++xb.h)::sl xb))]),[.dead]⟩:=by
 have hl:lim=1048576:=rfl;have lb:(ax (([39,45,39,58]++xb.h)::sl xb)).length≤100000:=by have:=(hU Bb).1;have:=Bb.n;simp [ax];lia
 exact dm (D:=D) (d:=1) (aM.cons fa (aM.cons fb (aM.cons ((j7 (m:=[39,45,39,58]) (.inr (.inr (.inl rfl))) Bb.k (Bb.sm hp)).mono hD) .nil (br _)) (br _)) (br _)) M2 60 [0,1,2] (L:=[0+(ax (([39,45,39,58]++xb.h)::sl xb)).length≤lim,Qf (hF [39,45,39,58] xb (([39,45,39,58]++xb.h)::sl xb)),3+1≤lim,Qf (bF vb xb hb),Qf (bF va ⟨0,[32,39,45,39],[]⟩ ha)]) (.cons M2 (.cons (qf _) (.cons M0 (.cons (qf _) (.cons (qf _) .nil))))) ()
theorem J4 (fa:FG D (bF va ⟨0,[32,39,100,39],[]⟩ ha)) (fb:FG D (bF vb xb hb)) (Bb:Bd p xb) (hp:p≤4000) (hD:1≤D):
  FG (D+1) ⟨820,[.v (.tup [.int 3,.lst [va,vb]])],[],.v (.tup [.int 3,.str [],.lst (ax (([39,100,39,58]++xb.h)::sl xb))]),[.dead]⟩:=by
 have hl:lim=1048576:=rfl;have lb:(ax (([39,100,39,58]++xb.h)::sl xb)).length≤100000:=by have:=(hU Bb).1;have:=Bb.n;simp [ax];lia
 exact dm (D:=D) (d:=1) (aM.cons fa (aM.cons fb (aM.cons ((j7 (m:=[39,100,39,58]) (.inr (.inr (.inr (.inl rfl)))) Bb.k (Bb.sm hp)).mono hD) .nil (br _)) (br _)) (br _)) M2 60 [0,1,2] (L:=[0+(ax (([39,100,39,58]++xb.h)::sl xb)).length≤lim,Qf (hF [39,100,39,58] xb (([39,100,39,58]++xb.h)::sl xb)),3+1≤lim,Qf (bF vb xb hb),Qf (bF va ⟨0,[32,39,100,39],[]⟩ ha)]) (.cons M2 (.cons (qf _) (.cons M0 (.cons (qf _) (.cons (qf _) .nil))))) ()
theorem J3 (fa:FG D (bF va ⟨0,[32,34,101,34],[]⟩ ha)) (fb:FG D (bF vb xb hb)) (Bb:Bd p xb) (hp:p≤4000) (hD:1≤D):
  FG (D+1) ⟨820,[.v (.tup [.int 3,.lst [va,vb]])],[],.v (.tup [.int 3,.str [],.lst (ax (([34,101,34,58]++xb.h)::sl xb))]),[.dead]⟩:=by
 have hl:lim=1048576:=rfl;have lb:(ax (([34,101,34,58]++xb.h)::sl xb)).length≤100000:=by have:=(hU Bb).1;have:=Bb.n;simp [ax];lia
 exact dm (D:=D) (d:=1) (aM.cons fa (aM.cons fb (aM.cons ((j7 (m:=[34,101,34,58]) (.inr (.inr (.inr (.inr (.inl rfl))))) Bb.k (Bb.sm hp)).mono hD) .nil (br _)) (br _)) (br _)) M2 60 [0,1,2] (L:=[0+(ax (([34,101,34,58]++xb.h)::sl xb)).length≤lim,Qf (hF [34,101,34,58] xb (([34,101,34,58]++xb.h)::sl xb)),3+1≤lim,Qf (bF vb xb hb),Qf (bF va ⟨0,[32,34,101,34],[]⟩ ha)]) (.cons M2 (.cons (qf _) (.cons M0 (.cons (qf _) (.cons (qf _) .nil))))) ()
theorem J1 (fa:FG D (bF va ⟨2,[32,91,93],[]⟩ ha)) (fb:FG D (bF vb xb hb)) (Bb:Bd p xb) (hp:p≤4000) (hD:1≤D):
  FG (D+1) ⟨820,[.v (.tup [.int 3,.lst [va,vb]])],[],.v (.tup [.int 3,.str [],.lst (ax (([91,93,58]++xb.h)::sl xb))]),[.dead]⟩:=by
 have hl:lim=1048576:=rfl;have lb:(ax (([91,93,58]++xb.h)::sl xb)).length≤100000:=by have:=(hU Bb).1;have:=Bb.n;simp [ax];lia
 exact dm (D:=D) (d:=1) (aM.cons fa (aM.cons fb (aM.cons ((j7 (m:=[91,93,58]) (.inr (.inr (.inr (.inr (.inr (.inl rfl)))))) Bb.k (Bb.sm hp)).mono hD) .nil (br _)) (br _)) (br _)) M2 60 [0,1,2] (L:=[0+(ax (([91,93,58]++xb.h)::sl xb)).length≤lim,Qf (hF [91,93,58] xb (([91,93,58]++xb.h)::sl xb)),2+1≤lim,Qf (bF vb xb hb),Qf (bF va ⟨2,[32,91,93],[]⟩ ha)]) (.cons M2 (.cons (qf _) (.cons M0 (.cons (qf _) (.cons (qf _) .nil))))) ()
theorem J2 (fa:FG D (bF va ⟨3,[32,123,125],[]⟩ ha)) (fb:FG D (bF vb xb hb)) (Bb:Bd p xb) (hp:p≤4000) (hD:1≤D):
  FG (D+1) ⟨820,[.v (.tup [.int 3,.lst [va,vb]])],[],.v (.tup [.int 3,.str [],.lst (ax (([123,125,58]++xb.h)::sl xb))]),[.dead]⟩:=by
 have hl:lim=1048576:=rfl;have lb:(ax (([123,125,58]++xb.h)::sl xb)).length≤100000:=by have:=(hU Bb).1;have:=Bb.n;simp [ax];lia
 exact dm (D:=D) (d:=1) (aM.cons fa (aM.cons fb (aM.cons ((j7 (m:=[123,125,58]) (.inr (.inr (.inr (.inr (.inr (.inr (rfl))))))) Bb.k (Bb.sm hp)).mono hD) .nil (br _)) (br _)) (br _)) M2 60 [0,1,2] (L:=[0+(ax (([123,125,58]++xb.h)::sl xb)).length≤lim,Qf (hF [123,125,58] xb (([123,125,58]++xb.h)::sl xb)),2+1≤lim,Qf (bF vb xb hb),Qf (bF va ⟨3,[32,123,125],[]⟩ ha)]) (.cons M2 (.cons (qf _) (.cons M0 (.cons (qf _) (.cons (qf _) .nil))))) ()
theorem Bd.up {p' :Nat} {x:Bx} (B:Bd p x) (h:p≤p'):Bd p' x:=⟨B.k,by have:=B.h;lia,by have:=B.n;lia,fun y hy=>by have:=B.r y hy;lia⟩
theorem hO.up {T:Tr} (h:hO D T) (l:D≤D'):hO D' T:=by
 (refine ay h ?_;(try clear h);rintro h' k)
 exact ba h' (k.mono l)
theorem fR {a b:List (List Nat)}:ax (a++b)=ax a++ax b:=by simp [ax]
theorem fM (x:Tr) (l:List Tr):bL (x::l)=hg [45] (ag x)++bL l:=by rw [bL];rfl
theorem oY:bL []=[]:=by rw [bL]
theorem mP (x:Tr) (l:List Tr):ag (.seq (x::l))=⟨2,[],bL (x::l)⟩:=by rw [ag]
theorem n5 (l:List Tr):aB (.seq l)=.tup [.int 2,.lst (b6 l)]:=by rw [aB]
theorem zi (a b:Tr):aB (.map a b)=.tup [.int 3,.lst [aB a,aB b]]:=by rw [aB]
theorem xW (a b:Tr):ag (.map a b)=⟨3,[],cH (ag a) (ag b)⟩:=by rw [ag]
theorem gc {x:Tr} {l:List Tr} (h:x∈l):(a6 x).length≤(aE l).length:=by
 induction l with
 |nil=>cases h
 |cons y l ih=>
  (change eO;change Kn)
  cases h with
  |head=>exact KT _ _
  |tail _ h=>have:=ih h;exact Kl M1 (Kk _ _)
theorem ny (l:List Tr):(a6 (.seq l)).length=(aE l).length+2:=by (refine ay (jB l) ?_;rintro u e);change e;simp
theorem EN (a b:Tr):(a6 (.map a b)).length=(a6 a).length+(a6 b).length+2:=by rw [a6];simp;rfl
theorem FU (a b:Tr):ht (.map a b)=Nat.max (ht a) (ht b)+1:=by rw [ht]
theorem J0 {A :Tr} (hA:hO D A) (hB:hO D B) (wA:wf A) (BA:Bd p (ag A)) (BB:Bd p (ag B)) (hp:p≤4000) (hD:1≤D):hO (D+1) (.map A B):=by
 (refine ay hA ?_;(try clear hA);rintro ha fa)
 (refine ay hB ?_;(try clear hB);rintro hb fb)
 refine ba [.dead] ?_
 (change zi;change xW)
 refine (?_:FG _ ⟨820,_,[],.v (.tup [.int 3,.str [],.lst (ax (cH (ag A) (ag B)))]),[.dead]⟩);have q:ij (ag A)=true→cH (ag A) (ag B)=hg [63] (ag A)++hg [58] (ag B):=fun h=>by unfold cH;change h;rfl
 have s:ij (ag A)=false→cH (ag A) (ag B)=(((ag A).h.tail++[58])++(ag B).h)::sl (ag B):=fun h=>by unfold cH;(change h;with_reducible rfl)
 rcases wc wA with ⟨hS,hq⟩|⟨rfl,hq⟩|⟨hQ,hq⟩
 ·change s hq
  match A,hS,fa with
  |.leaf k,hk,fa=>
   have hk:k < 5:=hk
   match k,hk,fa with
   |0,_,fa=>rw [show ag (.leaf 0)=⟨0,32::bY 0,[]⟩ by unfold ag;rfl] at fa ⊢;exact J7 fa fb BB hp hD
   |1,_,fa=>rw [show ag (.leaf 1)=⟨0,32::bY 1,[]⟩ by unfold ag;rfl] at fa ⊢;exact J6 fa fb BB hp hD
   |2,_,fa=>rw [show ag (.leaf 2)=⟨0,32::bY 2,[]⟩ by unfold ag;rfl] at fa ⊢;exact J5 fa fb BB hp hD
   |3,_,fa=>rw [show ag (.leaf 3)=⟨0,32::bY 3,[]⟩ by unfold ag;rfl] at fa ⊢;exact J4 fa fb BB hp hD
   |4,_,fa=>rw [show ag (.leaf 4)=⟨0,32::bY 4,[]⟩ by unfold ag;rfl] at fa ⊢;exact J3 fa fb BB hp hD
  |.seq [],_,fa=>rw [show ag (.seq [])=⟨2,[32,91,93],[]⟩ by unfold ag;rfl] at fa ⊢;exact J1 fa fb BB hp hD
  |.emp,_,fa=>rw [show ag .emp=⟨3,[32,123,125],[]⟩ by unfold ag;rfl] at fa ⊢;exact J2 fa fb BB hp hD
 ·(change q hq;change fR)
  rw [show ag (.leaf 5)=⟨0,32::bY 5,[[120],[121]]⟩ by unfold ag;rfl] at fa BA ⊢;exact sr fa BA fb BB hp hD
 ·(change q hq;change fR)
  match A,hQ,fa,BA with
  |.flow k,_,fa,BA=>
   rw [show ag (.flow k)=⟨4,[32,91]++(bY k++([44,32]++([97]++[93]))),[]⟩ by unfold ag;rfl] at fa BA ⊢;exact IZ fa BA fb BB hp hD
  |.seq (x::l),_,fa,BA=>
   have e:ag (.seq (x::l))=⟨2,[],([45]++tl (ag x))::(bl (ag x)++bL l)⟩:=by (change mP;change fM);rfl
   rw [e] at fa BA ⊢;exact sr fa BA fb BB hp hD
  |.map a c,_,fa,BA=>
   have e:∃ r0 rs,cH (ag a) (ag c)=r0::rs:=by unfold cH;split<;>exact gR _ _ rfl
   (refine d6 e ?_;(try clear e);rintro r0 rs e)
   rw [xW,e] at fa BA ⊢;exact sr fa BA fb BB hp hD
theorem eX:∀ T,wf T→bZ T→(a6 T).length≤4000→hO (ht T+2) T
 |.leaf k,w,_,_=>(oX (.inl ⟨k,rfl,by dsimp only [wf] at w;exact w⟩)).up (by exact br _)
 |.flow k,w,_,_=>(oX (.inr (.inl ⟨k,rfl,by dsimp only [wf] at w;exact w⟩))).up (by exact br _)
 |.emp,_,_,_=>(oX (.inr (.inr (.inl rfl)))).up (by exact br _)
 |.seq [],_,_,_=>(oX (.inr (.inr (.inr rfl)))).up (by exact br _)
 |.seq [a],w,f,hp=>by
  dsimp only [wf] at w;dsimp only [bZ] at f;rw [ny] at hp;have wa:=(dr.mp w).1;have pa:=gc (x:=a) (l:=[a]) (by exact .head _);have ia:=eX a wa (dx.mp f.2).1 M2;have e:ht (.seq [a])=Nat.max (ht a+1) 0:=by (change fI;change cD;refine aU (show aO []=0 by rw [aO]) ?_;with_reducible rfl)
  have m1:ht a+1≤Nat.max (ht a+1) 0:=Ky _ _;change e
  (refine ay ia ?_;(try clear ia);rintro h1 k1)
  refine hO.up (D:=ht a+2+1) ⟨[.dead],?_⟩ (by exact KC _)
  (change n5;change cj;change dj;change mP;change fM;change oY;change Kt)
  exact IY k1 (dS a wa) M2 (by exact Ku _)
 |.seq [a,b],w,f,hp=>by
  dsimp only [wf] at w;dsimp only [bZ] at f;rw [ny] at hp;have w:=dr.mp w;have w2:=dr.mp w.2;have f:=dx.mp f.2;have f2:=dx.mp f.2;have pa:=gc (x:=a) (l:=[a,b]) (by exact .head _);have pb:=gc (x:=b) (l:=[a,b]) (by exact .tail _ (.head _));have e:ht (.seq [a,b])=Nat.max (ht a+1) (Nat.max (ht b+1) 0):=by (change fI;change cD;change cD;refine aU (show aO []=0 by rw [aO]) ?_;with_reducible rfl)
  change e;have m1:ht a+1≤Nat.max (ht a+1) (Nat.max (ht b+1) 0):=Ky _ _;have m2:Nat.max (ht b+1) 0≤Nat.max (ht a+1) (Nat.max (ht b+1) 0):=KN _ _;have m3:ht b+1≤Nat.max (ht b+1) 0:=Ky _ _;generalize Nat.max (ht a+1) (Nat.max (ht b+1) 0)=M at m1 m2 ⊢
  (refine ay ((eX a w.1 f.1 M2).up (D':=M+1) (by exact KR M1)) ?_;rintro h1 k1)
  (refine ay ((eX b w2.1 f2.1 M2).up (D':=M+1) (by exact KR M1)) ?_;rintro h2 k2)
  refine ba [.dead] ?_
  (change n5;change cj;change cj;change dj;change mP;change fM;change fM;change oY;change Kt)
  refine (?_:FG _ ⟨820,_,[],.v (.tup [.int 2,.str [],.lst (ax (hg [45] (ag a)++hg [45] (ag b)))]),[.dead]⟩);change fR;exact IX (p:=(aE [a,b]).length) k1 ((dS a w.1).up pa) k2 ((dS b w2.1).up pb) (by exact dz M1) (by exact Ku _)
 |.seq [a,b,c],w,f,hp=>by
  dsimp only [wf] at w;dsimp only [bZ] at f;rw [ny] at hp;have w:=dr.mp w;have w2:=dr.mp w.2;have w3:=dr.mp w2.2;have f:=dx.mp f.2;have f2:=dx.mp f.2;have f3:=dx.mp f2.2;have pa:=gc (x:=a) (l:=[a,b,c]) (by exact .head _);have pb:=gc (x:=b) (l:=[a,b,c]) (by exact .tail _ (.head _));have pc:=gc (x:=c) (l:=[a,b,c]) (by exact .tail _ (.tail _ (.head _)));have e:ht (.seq [a,b,c])=Nat.max (ht a+1) (Nat.max (ht b+1) (Nat.max (ht c+1) 0)):=by (change fI;change cD;change cD;change cD;refine aU (show aO []=0 by rw [aO]) ?_;with_reducible rfl)
  change e;have m1:ht a+1≤Nat.max (ht a+1) (Nat.max (ht b+1) (Nat.max (ht c+1) 0)):=Ky _ _;have m2:Nat.max (ht b+1) (Nat.max (ht c+1) 0)≤Nat.max (ht a+1) (Nat.max (ht b+1) (Nat.max (ht c+1) 0)):=KN _ _;have m3:ht b+1≤Nat.max (ht b+1) (Nat.max (ht c+1) 0):=Ky _ _;have m4:Nat.max (ht c+1) 0≤Nat.max (ht b+1) (Nat.max (ht c+1) 0):=KN _ _;have m5:ht c+1≤Nat.max (ht c+1) 0:=Ky _ _;generalize Nat.max (ht a+1) (Nat.max (ht b+1) (Nat.max (ht c+1) 0))=M at m1 m2 ⊢
  (refine ay ((eX a w.1 f.1 M2).up (D':=M+1) (by exact KR M1)) ?_;rintro h1 k1)
  (refine ay ((eX b w2.1 f2.1 M2).up (D':=M+1) M2) ?_;rintro h2 k2)
  (refine ay ((eX c w3.1 f3.1 M2).up (D':=M+1) M2) ?_;rintro h3 k3)
  refine ba [.dead] ?_
  (change n5;change cj;change cj;change cj;change dj;change mP;change fM;change fM;change fM;change oY;change Kt;refine aT (Kw ..) ?_)
  refine (?_:FG _ ⟨820,_,[],.v (.tup [.int 2,.str [],.lst (ax (hg [45] (ag a)++hg [45] (ag b)++hg [45] (ag c)))]),[.dead]⟩)
  (change fR;change fR)
  exact IW (p:=(aE [a,b,c]).length) k1 ((dS a w.1).up pa) k2 ((dS b w2.1).up pb) k3 ((dS c w3.1).up pc) (by exact dz M1) (by exact Ku _)
 |.seq [a,b,c,d],w,f,hp=>by
  dsimp only [wf] at w;dsimp only [bZ] at f;rw [ny] at hp;have w:=dr.mp w;have w2:=dr.mp w.2;have w3:=dr.mp w2.2;have w4:=dr.mp w3.2;have f:=dx.mp f.2;have f2:=dx.mp f.2;have f3:=dx.mp f2.2;have f4:=dx.mp f3.2;have pa:=gc (x:=a) (l:=[a,b,c,d]) (by exact .head _);have pb:=gc (x:=b) (l:=[a,b,c,d]) (by exact .tail _ (.head _));have pc:=gc (x:=c) (l:=[a,b,c,d]) (by exact .tail _ (.tail _ (.head _)));have pd:=gc (x:=d) (l:=[a,b,c,d]) (by simp);have e:ht (.seq [a,b,c,d])=Nat.max (ht a+1) (Nat.max (ht b+1) (Nat.max (ht c+1) (Nat.max (ht d+1) 0))):=by (change fI;change cD;change cD;change cD;change cD;refine aU (show aO []=0 by rw [aO]) ?_;with_reducible rfl)
  change e;have m1:ht a+1≤Nat.max (ht a+1) (Nat.max (ht b+1) (Nat.max (ht c+1) (Nat.max (ht d+1) 0))):=Ky _ _;have m2:Nat.max (ht b+1) (Nat.max (ht c+1) (Nat.max (ht d+1) 0))≤Nat.max (ht a+1) (Nat.max (ht b+1) (Nat.max (ht c+1) (Nat.max (ht d+1) 0))):=KN _ _;have m3:ht b+1≤Nat.max (ht b+1) (Nat.max (ht c+1) (Nat.max (ht d+1) 0)):=Ky _ _;have m4:Nat.max (ht c+1) (Nat.max (ht d+1) 0)≤Nat.max (ht b+1) (Nat.max (ht c+1) (Nat.max (ht d+1) 0)):=KN _ _;have m5:ht c+1≤Nat.max (ht c+1) (Nat.max (ht d+1) 0):=Ky _ _;have m6:Nat.max (ht d+1) 0≤Nat.max (ht c+1) (Nat.max (ht d+1) 0):=KN _ _;have m7:ht d+1≤Nat.max (ht d+1) 0:=Ky _ _;generalize Nat.max (ht a+1) (Nat.max (ht b+1) (Nat.max (ht c+1) (Nat.max (ht d+1) 0)))=M at m1 m2 ⊢
  (refine ay ((eX a w.1 f.1 M2).up (D':=M+1) (by exact KR M1)) ?_;rintro h1 k1)
  (refine ay ((eX b w2.1 f2.1 M2).up (D':=M+1) M2) ?_;rintro h2 k2)
  (refine ay ((eX c w3.1 f3.1 M2).up (D':=M+1) M2) ?_;rintro h3 k3)
  (refine ay ((eX d w4.1 f4.1 M2).up (D':=M+1) M2) ?_;rintro h4 k4)
  refine ba [.dead] ?_
  (change n5;change cj;change cj;change cj;change cj;change dj;change mP;change fM;change fM;change fM;change fM;change oY;change Kt;refine aT (Kw ..) ?_;refine aT (Kw ..) ?_)
  refine (?_:FG _ ⟨820,_,[],.v (.tup [.int 2,.str [],.lst (ax (hg [45] (ag a)++hg [45] (ag b)++hg [45] (ag c)++hg [45] (ag d)))]),[.dead]⟩)
  (change fR;change fR;change fR)
  exact IV (p:=(aE [a,b,c,d]).length) k1 ((dS a w.1).up pa) k2 ((dS b w2.1).up pb) k3 ((dS c w3.1).up pc) k4 ((dS d w4.1).up pd) (by exact dz M1) (by exact Ku _)
 |.seq (_::_::_::_::_::_),_,f,_=>by dsimp only [bZ] at f;have:=f.1;simp at this
 |.map a b,w,f,hp=>by
  dsimp only [wf] at w;dsimp only [bZ] at f;rw [EN] at hp;change FU;have m1:ht a≤Nat.max (ht a) (ht b):=Ky _ _;have m2:ht b≤Nat.max (ht a) (ht b):=KN _ _;generalize Nat.max (ht a) (ht b)=M at m1 m2 ⊢;exact J0 (D:=M+2) (p:=(a6 a).length+(a6 b).length) ((eX a w.1 f.1 M2).up (by exact LS M1 _)) ((eX b w.2 f.2 M2).up (by exact LS M1 _)) w.1 ((dS a w.1).up (by exact KT _ _)) ((dS b w.2).up (by exact Kk _ _)) (by exact dz M1) (by exact Ku _)
mutual
theorem lw:∀ T,∀ k∈a6 T,bS (cls k)
 |.leaf k=>by dsimp only [a6];exact mC (.inl rfl) mN
 |.flow k=>by dsimp only [a6];exact mC (.inr (.inl rfl)) (mC (.inl rfl) (mC (.inl rfl) (mC (.inr (.inr (.inr (.inl rfl)))) mN)))
 |.emp=>by dsimp only [a6];exact mC (.inr (.inr (.inl rfl))) (mC (.inr (.inr (.inr (.inr rfl)))) mN)
 |.seq l=>by
  (refine ay (jB l) ?_;rintro u e)
  change e;exact mC (.inr (.inl rfl)) (mA (qI l) (mC (.inr (.inr (.inr (.inl rfl)))) mN))
 |.map a b=>by
  dsimp only [a6];exact mC (.inr (.inr (.inl rfl))) (mA (lw a) (mA (lw b) (mC (.inr (.inr (.inr (.inr rfl)))) mN)))
theorem qI:∀ l,∀ k∈aE l,bS (cls k)
 |[],x,h=>by dsimp only [aE] at h;cases h
 |y::l,x,h=>by
  rw [eO] at h;rcases Lb.mp h with h|h
  ·exact lw y x h
  ·exact qI l x h
end
mutual
theorem nJ:∀ T,wf T→∀ k∈a6 T,fP k
 |.leaf k,w=>by dsimp only [wf] at w;dsimp only [a6];exact mC w mN
 |.flow k,w=>by dsimp only [wf] at w;dsimp only [a6];exact mC (by simp [fP]) (mC (KK w) (mC (by simp [fP]) (mC trivial mN)))
 |.emp,w=>by dsimp only [a6];exact mC (by simp [fP]) (mC trivial mN)
 |.seq [],w=>by dsimp only [a6,aE];exact mC (by simp [fP]) (mC trivial mN)
 |.seq (y::l),w=>by
  dsimp only [wf] at w;refine aU (show a6 (.seq (y::l))=.sq 0::(aE (y::l)++[.se]) by rw [a6]) ?_;exact mC (by simp [fP]) (mA (uK (y::l) w) (mC trivial mN))
 |.map a b,w=>by
  dsimp only [wf] at w;dsimp only [a6];exact mC (by simp [fP]) (mA (nJ a w.1) (mA (nJ b w.2) (mC trivial mN)))
theorem uK:∀ l,dc l→∀ k∈aE l,fP k
 |[],_,x,h=>by dsimp only [aE] at h;cases h
 |y::l,w,x,h=>by
  dsimp only [dc] at w;rw [eO] at h;rcases Lb.mp h with h|h
  ·exact nJ y w.1 x h
  ·exact uK l w.2 x h
end
theorem z8 {L:List Kd} (h5:∀ k∈L,bS (cls k)) (h2:2≤L.length):∃ k1 k2 r,L=k1::k2::r∧bS (cls k2):=by
 match L,h2 with
 |k1::k2::r,_=>exact jX k1 k2 r rfl (h5 k2 (.tail _ (.head _)))
theorem zr {L:List Kd} (h5:∀ k∈L,bS (cls k)) (h2:3≤L.length):∃ k1 k2 k3 r,L=k1::k2::k3::r∧bS (cls k2)∧bS (cls k3):=by
 match L,h2 with
 |k1::k2::k3::r,_=>exact FO k1 k2 k3 r rfl (h5 k2 (.tail _ (.head _))) (h5 k3 (.tail _ (.tail _ (.head _))))
mutual
theorem mX:∀ (T:Tr) (rest:List Kd),Vw rest→Vw (a6 T++rest)
 |.leaf k,rest,h=>by dsimp only [a6];exact ⟨trivial,h⟩
 |.flow k,rest,h=>by
  dsimp only [a6];exact FT (.inr ⟨_,_,_,rfl,.inl rfl,.inl rfl⟩) trivial trivial trivial h
 |.emp,rest,h=>by dsimp only [a6];exact b7 (.inl ⟨_,rfl⟩) trivial h
 |.seq [],rest,h=>by dsimp only [a6,aE];exact b7 (.inl ⟨_,rfl⟩) trivial h
 |.seq (x::l),rest,h=>by
  refine aU (show a6 (.seq (x::l))=.sq 0::(aE (x::l)++[.se]) by rw [a6]) ?_;refine ⟨?_,?_⟩
  ·(refine aN (dA x) ?_;rintro k1 ks hp h3)
   have L5:∀ k∈aE (x::l)++[.se],bS (cls k):=fun k hk=>by
    rcases Lb.mp hk with hk|hk
    ·exact qI _ k hk
    ·simp at hk;subst hk;simp [bS,cls]
   (refine jb (z8 L5 (by (change eO;change hp);simp;exact Ku _)) ?_;rintro a c r e hc)
   have e2:k1=a:=by rw [eO,hp] at e;exact (Kr e).1
   subst e2;exact .inr ⟨k1,c,r++rest,by change e;rfl,h3,hc⟩
  ·refine (?_:Vw ((aE (x::l)++[.se])++rest));change Kw;exact sZ (x::l) _ ⟨trivial,h⟩
 |.map a b,rest,h=>by
  refine aU (show a6 (.map a b)=.mp 0::(a6 a++(a6 b++[.me])) by rw [a6]) ?_;refine ⟨?_,?_⟩
  ·(refine aN (dA a) ?_;rintro k1 ks hp h3)
   (refine aN (dA b) ?_;rintro k2 ks2 hp2 h32)
   have L5:∀ k∈a6 a++(a6 b++[.me]),bS (cls k):=fun k hk=>by
    rcases Lb.mp hk with hk|hk
    ·exact lw _ k hk
    ·rcases Lb.mp hk with hk|hk
     ·exact lw _ k hk
     ·simp at hk;subst hk;simp [bS,cls]
   (refine kl (zr L5 (by (change hp;change hp2);simp;exact Kk _ _)) ?_;rintro x y z r e hy hz)
   have e2:k1=x:=by rw [hp] at e;exact (Kr e).1
   subst e2;refine .inr ⟨k1,y,z,r++rest,by change e;rfl,h3,hy,hz,fun h217=>?_⟩;clear L5;induction a using Tr.casesOn with
   |leaf k=>
    rw [show a6 (.leaf k)=[.sc k] by rw [a6],hp2] at e;have:=(Kr (Kr e).2).1;clear hy e;subst this;exact h32
   |flow=>dsimp only [a6] at hp;(have zq0:_=_:=hp;clear hp;injection zq0 with zq0a zq0b;clear h3 e;obtain rfl:=zq0a;obtain rfl:=zq0b);contradiction
   |emp=>dsimp only [a6] at hp;(have zq0:_=_:=hp;clear hp;injection zq0 with zq0a zq0b;clear h3 e;obtain rfl:=zq0a;obtain rfl:=zq0b);contradiction
   |seq=>dsimp only [a6] at hp;(have zq0:_=_:=hp;clear hp;injection zq0 with zq0a zq0b;clear h3 e;obtain rfl:=zq0a;obtain rfl:=zq0b);(have zq0:_=_:=h217;clear h217;injection zq0 with zq0a;contradiction)
   |map=>dsimp only [a6] at hp;(have zq0:_=_:=hp;clear hp;injection zq0 with zq0a zq0b;clear h3 e;obtain rfl:=zq0a;obtain rfl:=zq0b);contradiction
  ·refine (?_:Vw ((a6 a++(a6 b++[.me]))++rest))
   (change Kw;change Kw)
   exact mX a _ (mX b _ ⟨trivial,h⟩)
theorem sZ:∀ (l:List Tr) (rest:List Kd),Vw rest→Vw (aE l++rest)
 |[],rest,h=>by dsimp only [aE];exact h
 |x::l,rest,h=>by
  (change eO;change Kw)
  exact mX x _ (sZ l rest h)
end
theorem t0 {T:Tr}:Vw (gm op cl T):=by
 (refine aN (dA T) ?_;rintro k ks hp h3)
 exact b7 trivial ⟨k,ks++[.de cl,.st],by change hp;rfl,h3⟩ (mX T _ ⟨trivial,trivial,trivial⟩)
theorem Il {T:Tr} (w:wf T):∀ k∈gm op cl T,fP k:=fun k hk=>by
 unfold gm at hk;simp at hk;rcases hk with rfl|rfl|hk|rfl|rfl
 ·trivial
 ·trivial
 ·exact nJ T w k hk
 ·trivial
 ·trivial
theorem EI {v:V} {h :List a8} {lc:List (Nat×X)} (hn:db noRef args=true) (k:FG D ⟨f,args,[],.v v,h'⟩):MG (D+1) (fun R=>gn R f args) h lc (.v v) h lc:=by
 (refine ay (rf (lc:=[]) k) ?_;rintro n0 k)
 refine ba n0 (fun n d u w=>?_)
 (refine aN (k n d u w) ?_;rintro ds l t k)
 refine bI ds l t (fun lc1 hs=>⟨lc1,hs,fun r o=>?_⟩)
 (refine am (k [] .refl) ?_;rintro aQ _ k)
 have k:=k r o;dsimp only [gn];change hn;dsimp only at k ⊢
 (change k;with_reducible rfl)
theorem EJ {v:V} {h :List a8} {lc:List (Nat×X)} (hl:h'.length=h.length) (k:FG D ⟨f,args,h,.v v,h'⟩):MG (D+1) (fun R=>ed R f args) h lc (.v v) h' lc:=by
 (refine ay (rf (lc:=lc) k) ?_;rintro n0 k)
 refine ba n0 (fun n d u w=>?_)
 (refine aN (k n d u w) ?_;rintro ds l t k)
 refine bI ds l t (fun lc1 hs=>?_)
 (refine am (k lc1 hs) ?_;rintro aQ hs2 k)
 refine aF aQ hs2 (fun r o=>?_);have k:=k r o;dsimp only [ed];dsimp only at k ⊢;change k;dsimp only
 (change hl;refine aU (show Nat.beq h.length h.length=true from Nat.beq_refl _) ?_;with_reducible rfl)
theorem iT {α:Type} {o:Option α} {x:α} {h:List a8} {lc:List (Nat×X)} (e:o=some x):MG D (fun _=>aZ o) h lc x h lc:=by
 subst e;exact jK fun _ _ _ _=>rfl
theorem lQ {h:List a8} {lc:List (Nat×X)}:MG D (fun R=>dg R []) h lc [] h lc:=bd
theorem jM {c:CE} {r:List CE} {x:X} {h :List a8} {lc lc1 aQ:List (Nat×X)} (a:MG D (fun R=>R.e c) h lc x h1 lc1) (k:MG D (fun R=>dg R r) h1 lc1 xs h2 aQ):MG D (fun R=>dg R (c::r)) h lc (x::xs) h2 aQ:=aP a (aP k bd)
theorem vN {as:List CE} {v:V} {h :List a8} {lc lc1:List (Nat×X)} (a:MG D (fun R=>dg R as) h lc xs h1 lc1) (hc:d7 T7 f xs []=some args) (hn:db noRef args=true) (k:FG D' ⟨f,args,[],.v v,h'⟩) (le:D'+1≤D):MG D (fun R=>R.e (.call g f true as [])) h lc (.v v) h1 lc1:=
 dB (aP a (aP (x:=[]) (bd (α:=List (Nat×X))) (aP (iT hc) ((EI hn k).mono le))))
theorem vJ {k c m :Nat} {e:CE} {as:List CE} {fs:List (Nat×X)} {v:V} {h :List a8} {lc lc1 aQ:List (Nat×X)} (o:MG D (fun R=>R.e e) h lc (.r k) h1 lc1) (hc:bB h1 k=some (.ins c fs)) (e1:look fs m=none) (e2:cL T7.meths c m=some f) (a:MG D (fun R=>dg R as) h1 lc1 xs h2 aQ) (hcal:d7 T7 f (.r k::xs) []=some args) (hl:h3.length=h2.length) (q:FG D' ⟨f,args,h2,.v v,h3⟩) (le:D'+1≤D):MG D (fun R=>R.e (.meth e m as [])) h lc (.v v) h3 aQ:=by
 have cell:MG D (fun _=>cw k) h1 lc1 (.ins c fs) h1 lc1:=jK fun _ _ _ _=>by refine (?_:(match bB h1 k with|some c=>_|none=>none)=_);(change hc;with_reducible rfl)
 have rest:MG D (fun R=>a7 (dg R as) fun xs=>a7 (eV R []) fun ys=>a7 (aZ (d7 T7 f (.r k::xs) ys)) fun args=>ed R f args) h1 lc1 (.v v) h3 aQ:=
  aP a (aP (x:=[]) (bd (α:=List (Nat×X))) (aP (iT hcal) ((EJ hl q).mono le)))
 refine dB (aP o (aP cell ?_));exact nX rest fun R=>by dsimp only;(change e1;change e2;with_reducible rfl)
theorem vK {t a o:CE} {v:X} {h :List a8} {lc lc1 aQ:List (Nat×X)} (k:MG D (fun R=>R.t t) h lc true h1 lc1) (m:MG D (fun R=>R.e a) h1 lc1 v h2 aQ):MG D (fun R=>R.e (.ife t a o)) h lc v h2 aQ:=dB (aP k m)
theorem jN {x :Nat} {e:CE} {v:X} {h :List a8} {lc lc1:List (Nat×X)} (a:MG D (fun R=>R.e e) h lc v h1 lc1):MG D (fun R=>bN T7 R (.asg [x] e)) h lc .next h1 (put lc1 x v):=aP a (aP (m:=fun _=>jA [x] v) (x:=Unit.unit) (aP vF bd) bd)
theorem vG {e:CE} {h :List a8} {lc lc1:List (Nat×X)} (a:MG D (fun R=>R.e e) h lc (.v .none) h1 lc1):MG D (fun R=>bN T7 R (.e e)) h lc .next h1 lc1:=aP a bd
noncomputable def HH (pl:List V) (s1:ES) (q1:List V) (s2:ES) (q2:List V):List a8:=.lst pl::(em 1 s1 q1 .none++em 7 s2 q2 .none)
theorem Ew {i:Nat} {v:V} {lc:List (Nat×X)} (h0:look lc 180=some (.r 0)) (hi:look lc 204=some (.v (.int i))) (e:bB pl i=some v):MG D (fun R=>R.e (.idx (.n 180) (.n 204))) (HH pl s1 q1 s2 q2) lc (.v v) (HH pl s1 q1 s2 q2) lc:=by
 have t:MG D (fun _=>jV (.r 0) (.int i)) (HH pl s1 q1 s2 q2) lc v (HH pl s1 q1 s2 q2) lc:=by
  have c:MG D (fun _=>cw 0) (HH pl s1 q1 s2 q2) lc (.lst pl) (HH pl s1 q1 s2 q2) lc:=jK fun _ _ _ _=>rfl;exact aP c (iT (o:=at? pl (.ofNat i)) e)
 exact dB (aP (dM h0) (aP (iU (dM hi)) (aP t bd)))
noncomputable def lB:List CS:=match j9.body with|[_,_,_,_,_,_,_,_,_,_,_,.for _ _ b,_,_,_,_]=>b|_=>[]
noncomputable def xA:CE:=.idx (.n 180) (.n 204)
noncomputable def xB:CE:=.bin .mod (.bin .mul (.bin .add (.bin .fdiv (.n 69) (.k (.int 4))) (.k (.int 7))) (.bin .add (.n 204) (.k (.int 1)))) (.k (.int 997))
noncomputable def xC:CE:=.bin .mod (.bin .mul (.bin .add (.n 198) (.k (.int 5))) (.bin .add (.n 204) (.k (.int 1)))) (.k (.int 997))
noncomputable def xT:CE:=.cmp (.bin .mod (.n 172) (.k (.int 3))) [(.eq,.k (.int 0))]
noncomputable def xD:CE:=.bin .fdiv (.n 172) (.k (.int 3))
theorem Fg:lB=[.asg [28] (.call 205 803 true [xA,xB] []),.e (.meth (.n 181) 206 [.n 28] []),.asg [172] xC,.e (.meth (.n 203) 206 [.ife xT (.n 28) (.call 205 803 true [xA,xD] [])] [])]:=by rfl
noncomputable def lL (f s:Int) (e3:X×X×X):List (Nat×X):=[(180,.r 0),(181,.r 3),(203,.r 9),(69,.v (.sint f)),(198,.v (.sint s)),(179,e3.1),(199,e3.2.1),(200,e3.2.2)]
theorem vp {α:Type}:∀ (a:List α) (x:α) (r:List α),bB (a++x::r) a.length=some x
 |[],_,_=>rfl
 |_::a,x,r=>vp a x r
theorem nT {x:Int} {m:Nat} (h0:0≤x) (h:x≤m) (hm:m≤1000000):x.natAbs≤lim:=by have:lim=1048576:=rfl;lia
noncomputable def ry (f s:Int) (e3:X×X×X) (i:Nat):List (Nat×X):=lL f s e3++[(204,.v (.int i))]
theorem EU {f s:Int} {i:Nat} {h:List a8} (hf:0≤f∧f < 100800) (hi:i≤1000):MG 20 (fun R=>R.e xB) h (ry f s e3 i) (.v (.sint ((f / 4+7) * ((i:Int)+1) % 997))) h (ry f s e3 i):=
 (aK (d:=1) (fun R R' H=>H.e _) 60 [] (L:=[(f / 4+7).natAbs≤lim∧((i:Int)+1).natAbs≤lim]) (.cons ⟨nT (m:=30000) M2 M2 (by exact Kk _ _),nT (m:=1001) (by exact KZ _) M2 (by exact Kk _ _)⟩ .nil) ()).mono M0
noncomputable def lc1 (f s:Int) (e3:X×X×X) (i:Nat) (v:V):List (Nat×X):=lL f s e3++[(204,.v (.int i)),(28,.v v)]
theorem ET {f s:Int} {i:Nat} {v:V} {h:List a8} (hs:0≤s∧s < 100800) (hi:i≤1000):MG 20 (fun R=>R.e xC) h (lc1 f s e3 i v) (.v (.sint ((s+5) * ((i:Int)+1) % 997))) h (lc1 f s e3 i v):=
 (aK (d:=1) (fun R R' H=>H.e _) 60 [] (L:=[(s+5).natAbs≤lim∧((i:Int)+1).natAbs≤lim]) (.cons ⟨nT (m:=200000) M2 M2 (by exact Kk _ _),nT (m:=1001) (by exact KZ _) M2 (by exact Kk _ _)⟩ .nil) ()).mono M0
noncomputable def aQ (f s:Int) (e3:X×X×X) (i:Nat) (v:V) (n:Int):List (Nat×X):=lL f s e3++[(204,.v (.int i)),(28,.v v),(172,.v (.sint n))]
theorem vS {f s n:Int} {i:Nat} {v:V} {h:List a8} {b:Bool} (hb:if b then n % 3=0 else ¬ n % 3=0):MG 20 (fun R=>R.t xT) h (aQ f s e3 i v n) b h (aQ f s e3 i v n):=by
 induction b using Bool.casesOn with
 |true=>exact (aK (d:=1) (fun R R' H=>H.t _) 60 [1] (L:=[n % 3=0]) (.cons hb .nil) ()).mono M0
 |false=>exact (aK (d:=1) (fun R R' H=>H.t _) 60 [0] (L:=[¬ n % 3=0]) (.cons (by simpa using hb) .nil) ()).mono M0
theorem ER {f s n:Int} {i:Nat} {v:V} {h:List a8}:MG 20 (fun R=>R.e xD) h (aQ f s e3 i v n) (.v (.sint (n / 3))) h (aQ f s e3 i v n):=
 (aK (d:=1) (fun R R' H=>H.e _) 60 [] (L:=[]) .nil ()).mono M0
theorem IS {a b:V}:d7 T7 803 [.v a,.v b] []=some [.v a,.v b]:=by kernel_rfl
theorem xR {k:Nat} {v:V}:d7 T7 330 [.r k,.v v] []=some [.r k,.v v]:=by kernel_rfl
theorem vT {D:Nat} {lc:List (Nat×X)} {i:Nat} {e:V} {n:Int} {c:CE} {v:V} (h0:look lc 180=some (.r 0)) (hi:look lc 204=some (.v (.int i))) (he:bB pl i=some e) (hc:MG 20 (fun R=>R.e c) (HH pl s1 q1 s2 q2) lc (.v (.sint n)) (HH pl s1 q1 s2 q2) lc) (k:FG 4 ⟨803,[.v e,.v (.sint n)],[],.v v,[]⟩):
  MG 20 (fun R=>R.e (.call 205 803 true [xA,c] [])) (HH pl s1 q1 s2 q2) lc (.v v) (HH pl s1 q1 s2 q2) lc:=
 vN (jM (Ew h0 hi he) (jM hc lQ)) IS rfl k M0
theorem EW {lc:List (Nat×X)} {v:V} {t1 :ES} {p1 :List V} {c:CE} {lc':List (Nat×X)} (h1:look lc 181=some (.r 3)) (hc:MG 20 (fun R=>R.e c) (HH pl s1 q1 s2 q2) lc (.v v) (HH pl s1 q1 s2 q2) lc) (k:FG 15 ⟨330,[.r 3,.v v],HH pl s1 q1 s2 q2,.v .none,HH pl t1 p1 s2 q2⟩):
  MG 20 (fun R=>bN T7 R (.e (.meth (.n 181) 206 [c] []))) (HH pl s1 q1 s2 q2) lc .next (HH pl t1 p1 s2 q2) lc:=
 vG (vJ (c:=736) (f:=330) (dM h1) rfl (by rfl) (by rfl) (jM hc lQ) xR (by rfl) k M0)
theorem EV {lc:List (Nat×X)} {v:V} {t2 :ES} {p2 :List V} {c:CE} {lc':List (Nat×X)} (h1:look lc 203=some (.r 9)) (hc:MG 20 (fun R=>R.e c) (HH pl s1 q1 s2 q2) lc (.v v) (HH pl s1 q1 s2 q2) lc) (k:FG 15 ⟨330,[.r 9,.v v],HH pl s1 q1 s2 q2,.v .none,HH pl s1 q1 t2 p2⟩):
  MG 20 (fun R=>bN T7 R (.e (.meth (.n 203) 206 [c] []))) (HH pl s1 q1 s2 q2) lc .next (HH pl s1 q1 t2 p2) lc:=
 vG (vJ (c:=736) (f:=330) (dM h1) rfl (by rfl) (by rfl) (jM hc lQ) xR (by rfl) k M0)
theorem zP {f s:Int} {r:List (Nat×X)}:Sub (lL f s e3) (lL f s e3++r):=fun x v e=>by
 have:∀ (a b:List (Nat×X)),look a x=some v→look (a++b) x=some v:=fun a b h=>by
  induction a with
  |nil=>exact a0 h
  |cons p a ih=>
   unfold look at h ⊢;refine (?_:(match Nat.beq p.1 x with|true=>some p.2|false=>look (a++b) x)=_);generalize Nat.beq p.1 x=q at h;induction q using Bool.casesOn with
   |true=>exact h
   |false=>exact ih h
 exact this _ _ e
theorem vZ {f s:Int} {e3:X×X×X} (hf:0≤f∧f < 100800) (hs:0≤s∧s < 100800) {sE1 sE2:ES}:∀ (fut:List Kd) (pre:List V) (pl:List V) (kq1 kq2:List Kd) (q1 q2:List V) (s1 s2:ES),pl=pre++fut.map aH→pl.length≤1000→(∀ k∈fut,fP k)→dT kq1→di kq1 q1→Vw (kq1++fut)→Ch true (kq1++fut) [] s1 sE1→dT kq2→di kq2 q2→Vw (kq2++fut)→Ch false (kq2++fut) [] s2 sE2→
  MG 20 (fun R=>e8 R 204 lB (dL fut.length pre.length)) (HH pl s1 q1 s2 q2) (lL f s e3) .next (HH pl sE1 [] sE2 []) (lL f s e3)
 |[],pre,pl,kq1,kq2,q1,q2,s1,s2,hp,hl,ok,w1,e1,d1,c1,w2,e2,d2,c2=>by
  have h1:=sY w1 d1;have h2:=sY w2 d2;clear w1 d1 w2 d2;subst h1 h2;cases c1;cases c2;induction q1 using List.casesOn with
  |cons=>exact e1.elim
  |nil=>induction q2 using List.casesOn with
   |cons=>exact e2.elim
   |nil=>exact EC
 |k::fut,pre,pl,kq1,kq2,q1,q2,s1,s2,hp,hl,ok,w1,e1,d1,c1,w2,e2,d2,c2=>by
  have hi:pre.length≤1000:=by rw [hp] at hl;simp at hl;exact dz M1
  have he:bB pl pre.length=some (aH k):=by change hp;exact vp _ _ _
  have hk:=ok k (.head _)
  (refine am (xg hk ((f / 4+7) * ((pre.length:Int)+1) % 997)) ?_;rintro v hv kv)
  (refine dp (xn w1 e1 hv d1 c1) ?_;rintro kq1' q1' s1' w1' e1' d1' c1' m1)
  let n:Int:=(s+5) * ((pre.length:Int)+1) % 997
  obtain ⟨u,hu,mu⟩:∃ u,dD k u∧∀ S1 Q1,MG 20 (fun R=>R.e (.ife xT (.n 28) (.call 205 803 true [xA,xD] []))) (HH pl S1 Q1 s2 q2) (aQ f s e3 pre.length v n) (.v u) (HH pl S1 Q1 s2 q2) (aQ f s e3 pre.length v n):=by
   by_cases h3:n % 3=0
   ·exact aF v hv (fun S1 Q1=>vK (vS (b:=true) (by simpa using h3)) (dM (by rfl)))
   ·(refine am (xg hk (n / 3)) ?_;rintro u hu ku)
    exact aF u hu (fun S1 Q1=>nW (vS (b:=false) (by simpa using h3)) (vT (D:=20) (by rfl) (by rfl) he ER ku))
  (refine dp (xn w2 e2 hu d2 c2) ?_;rintro kq2' q2' s2' w2' e2' d2' c2' m2)
  have body:MG 20 (bf lB) (HH pl s1 q1 s2 q2) (ry f s e3 pre.length) .next (HH pl s1' q1' s2' q2') (aQ f s e3 pre.length v n):=by
   change Fg;refine fg (jN (vT (D:=20) (by rfl) (by rfl) he (EU hf hi) kv)) ?_;refine fg (lc1:=lc1 f s e3 pre.length v) (EW (lc':=[]) (by rfl) (dM (by rfl)) (m1 pl s2 q2 .none)) ?_;refine fg (lc1:=aQ f s e3 pre.length v n) (jN (ET hs hi)) ?_;exact fg (EV (lc':=[]) (by rfl) (mu _ _) (m2 pl s1' q1' .none)) bd
  have rest:=vZ (e3:=e3) hf hs fut (pre++[aH k]) pl kq1' kq2' q1' q2' s1' s2' (by change hp;simp) hl (fun x hx=>ok x (.tail _ hx)) w1' e1' d1' c1' w2' e2' d2' c2';rw [Kn,KX] at rest;exact vM ((jJ body).sub .refl zP) rest
theorem vE {e:CE} {lo hi:Option CE} {l r:List V} {vlo vhi:Option V} {h:List a8} {lc:List (Nat×X)} (k:MG D (fun R=>R.e e) h lc (.v (.lst l)) h lc) (klo:MG D (fun R=>fK R lo) h lc vlo h lc) (khi:MG D (fun R=>fK R hi) h lc vhi h lc) (s:bX l vlo vhi=some r):MG D (fun R=>R.e (.sl e lo hi)) h lc (.v (.lst r)) h lc:=by
 have t1:MG D (fun _=>f0 (.v (.lst l)) vlo vhi) h lc (.lst r) h lc:=aP (iT s) bd;have t2:MG D (fun _=>a7 (f0 (.v (.lst l)) vlo vhi) fun v=>ak (X.v v)) h lc (.v (.lst r)) h lc:=aP t1 bd;exact dB (aP k (aP klo (aP khi t2)))
theorem ri {v:V} {h:List a8} {lc:List (Nat×X)}:MG D (fun R=>fK R (some (.k v))) h lc (some v) h lc:=aP (iU (dB bd)) bd
theorem rj {h:List a8} {lc:List (Nat×X)}:MG D (fun R=>fK R none) h lc none h lc:=bd
theorem B8 (l:List V):bX l none (some (.int 6))=some (l.take 6):=by
 have h1:eC l.length 0 none=some 0:=rfl;have h2:eC l.length l.length (some (.int 6))=some (Nat.min 6 l.length):=rfl;unfold bX
 (change h1;change h2)
 refine (?_:some ((l.take (Nat.min 6 l.length)).drop 0)=_);change List.drop_zero
 congr 1
 by_cases h:6≤l.length
 ·(refine aU (show Nat.min 6 l.length=6 from LU h) ?_;with_reducible rfl)
 ·(refine aU (show Nat.min 6 l.length=l.length from Nat.min_eq_right M2) ?_;change List.take_length;change List.take_of_length_le M2;with_reducible rfl)
theorem B9 (l:List V):bX l (some (.int 2)) none=some (l.drop 2):=by
 have h1:eC l.length 0 (some (.int 2))=some (Nat.min 2 l.length):=rfl;have h2:eC l.length l.length none=some l.length:=rfl;unfold bX
 (change h1;change h2)
 refine (?_:some ((l.take l.length).drop (Nat.min 2 l.length))=_);change List.take_length
 congr 1
 by_cases h:2≤l.length
 ·(refine aU (show Nat.min 2 l.length=2 from LU h) ?_;with_reducible rfl)
 ·(refine aU (show Nat.min 2 l.length=l.length from Nat.min_eq_right M2) ?_;change List.drop_length;change List.drop_of_length_le M2;with_reducible rfl)
noncomputable def bQ (i:Nat):List CS:=[j9.body.getD i .pass]
noncomputable def cM:CE:=.bin .mod (.n 172) (.k (.int 100800))
theorem vD {h:List a8} {lc:List (Nat×X)}:∀ l:List Int,MG 20 (fun R=>d0 R 172 cM (l.map .sint)) h lc ((l.map (· % 100800)).map .sint) h lc
 |[]=>rg
 |x::l=>rh (y:=.sint (x % 100800)) ((aK (d:=1) (fun R R' H=>bk H) 60 [] (L:=[]) (lc':=[(172,.v (.sint x))]) (h':=[]) .nil ()).mono M0) (vD l)
noncomputable def dF (l:List Int):List Int:=(l.take 6).map (· % 100800)
theorem pQ {l:List Int}:MG 20 (bf (bQ 0)) [] [(197,.v (.lst (l.map .sint)))] .next [] [(173,.v (.lst ((dF l).map .sint)))]:=by
 have a:MG 20 (fun R=>R.e (.sl (.n 197) none (some (.k (.int 6))))) [] [(197,.v (.lst (l.map .sint)))] (.v (.lst ((l.take 6).map .sint))) [] [(197,.v (.lst (l.map .sint)))]:=
  vE (dM (by rfl)) rj ri (by (change B8;change List.map_take;with_reducible rfl))
 exact (fg (jN (lR a (vD _))) bd:MG 20 (bf [.asg [173] (.comp 172 cM (.sl (.n 197) none (some (.k (.int 6)))))]) _ _ _ _ _).sub .refl (du (by rfl))
noncomputable def fk (t:List Int):Int:=match t with|[]=>0|x::_=>x
noncomputable def kg (t:List Int):Int:=match t with|_::y::_=>y|_=>0
theorem A8 {t:List Int} (ht:t.length≤6):MG 20 (bf (bQ 1++bQ 2)) [] [(173,.v (.lst (t.map .sint)))] .next [] [(173,.v (.lst (t.map .sint))),(69,.v (.sint (fk t))),(198,.v (.sint (kg t)))]:=by
 rcases t with _|⟨a,_|⟨b,_|⟨c,_|⟨d,_|⟨e,_|⟨g,_|⟨h,t⟩⟩⟩⟩⟩⟩⟩<;>first|(exfalso;simp only [Ko] at ht;lia)|exact (aK (d:=1) (fun R R' H=>bm H) 60 [] (L:=[]) .nil ()).mono M0
theorem zZ {t:V} {f s:Int} (h1:if op then f % 2=0 else ¬ f % 2=0) (h2:if cl then f / 2 % 2=1 else ¬ f / 2 % 2=1):MG 20 (bf (bQ 3++bQ 4)) [] [(173,.v t),(69,.v (.sint f)),(198,.v (.sint s))] .next [] [(173,.v t),(69,.v (.sint f)),(198,.v (.sint s)),(199,.v (.bool op)),(200,.v (.bool cl))]:=by
 induction op using Bool.casesOn<;>induction cl using Bool.casesOn
 ·exact (aK (d:=1) (fun R R' H=>bm H) 60 [0,0] (L:=[¬ f / 2 % 2=1,¬ f % 2=0]) (.cons (by simpa using h2) (.cons (by simpa using h1) .nil)) ()).mono M0
 ·exact (aK (d:=1) (fun R R' H=>bm H) 60 [0,1] (L:=[f / 2 % 2=1,¬ f % 2=0]) (.cons h2 (.cons (by simpa using h1) .nil)) ()).mono M0
 ·exact (aK (d:=1) (fun R R' H=>bm H) 60 [1,0] (L:=[¬ f / 2 % 2=1,f % 2=0]) (.cons (by simpa using h2) (.cons h1 .nil)) ()).mono M0
 ·exact (aK (d:=1) (fun R R' H=>bm H) 60 [1,1] (L:=[f / 2 % 2=1,f % 2=0]) (.cons h2 (.cons h1 .nil)) ()).mono M0
noncomputable def lN (f s:Int) (op cl:Bool) (T:Tr):List (Nat×X):=[(69,.v (.sint f)),(198,.v (.sint s)),(199,.v (.bool op)),(200,.v (.bool cl)),(179,.v (aB T))]
theorem IT {a:V}:d7 T7 789 [.v a] []=some [.v a]:=by kernel_rfl
theorem JG {l r:List (Nat×X)}:Sub l (l++r):=fun x v e=>by
 induction l with
 |nil=>exact a0 e
 |cons p a ih=>
  dsimp only [look] at e;refine (?_:(match Nat.beq p.1 x with|true=>some p.2|false=>look (a++r) x)=_);generalize Nat.beq p.1 x=q at e;induction q using Bool.casesOn with
  |true=>exact e
  |false=>exact ih e
theorem zQ {p:Nat×X} {a b:List (Nat×X)} (h:∀ x v,look a x=some v→Nat.beq p.1 x=false) (k:Sub a b):Sub a (p::b):=fun x v e=>by
 dsimp only [look];change h x v e;exact k x v e
theorem zY {t:List Int} {f s:Int} (ht:t.length≤6):∃ T,jm T∧MG 20 (bf (bQ 5)) [] [(173,.v (.lst (t.map .sint))),(69,.v (.sint f)),(198,.v (.sint s)),(199,.v (.bool op)),(200,.v (.bool cl))] .next [] (((173,.v (.lst (t.map .sint))))::lN f s op cl T):=by
 (refine aN (ze (t.drop 2) (by simp;assumption)) ?_;rintro T h' g k)
 refine aF T g ?_;have a:MG 20 (fun R=>R.e (.sl (.n 173) (some (.k (.int 2))) none)) [] [(173,.v (.lst (t.map .sint))),(69,.v (.sint f)),(198,.v (.sint s)),(199,.v (.bool op)),(200,.v (.bool cl))] (.v (.lst ((t.drop 2).map .sint))) [] [(173,.v (.lst (t.map .sint))),(69,.v (.sint f)),(198,.v (.sint s)),(199,.v (.bool op)),(200,.v (.bool cl))]:=
  vE (dM (by rfl)) ri rj (by (change B9;change List.map_drop;with_reducible rfl))
 exact (fg (jN (vN (jM a lQ) IT rfl k M0)) bd:MG 20 (bf [.asg [179] (.call 201 789 true [.sl (.n 173) (some (.k (.int 2))) none] [])]) _ _ _ _ _)
noncomputable def gG (op cl:Bool) (T:Tr):List V:=([aH .ss,aH (.ds op)]++(a6 T).map aH)++[aH (.de cl),aH .st]
theorem uL {T:Tr}:gG op cl T=(gm op cl T).map aH:=by simp [gG,gm]
theorem zX {f s:Int} {T:Tr} (g:jm T) {h0:Nat×X}:MG 20 (bf (bQ 6++bQ 7++bQ 8)) [] (lN f s op cl T) .next [.lst (gG op cl T)] (lN f s op cl T++[(180,.r 0)]):=by
 have hl:lim=1048576:=rfl;have gl:=g.l;have k:=(eP T g.f [aH .ss,aH (.ds op)] (by simp;lia)).mono (D':=10) (by have:=g.h;lia);have e:([aH .ss,aH (.ds op)]++(a6 T).map aH).length+2≤lim:=by simp;lia
 exact jL (D':=20) (d:=1) (fun R R' H=>bm H) (aM.cons k .nil (br _)) M0 60 [0] (L:=[([aH .ss,aH (.ds op)]++(a6 T).map aH).length+2≤lim,Qf (ck (aB T) [aH .ss,aH (.ds op)] ((a6 T).map aH))]) (.cons e (.cons (qf _) .nil)) ()
theorem zW {f s:Int} {T:Tr}:∃ C1 C2:CC,MG 20 (bf (bQ 9++bQ 10)) [.lst pl] (lN f s op cl T++[(180,.r 0)]) .next (HH pl (dC C1) [] (dC C2) []) (lN f s op cl T++[(180,.r 0),(181,.r 3),(203,.r 9)]):=by
 (refine ay (xo (k:=false) (pl:=pl) (s:=⟨0,[],.none,[],0,false,false,false,false,0,0,true,true,.none,.none,0,.none,.none,.none,[]⟩) (f / 4)) ?_;rintro C1 k1)
 (refine ay (xo (k:=true) (pl:=pl) (s:=dC C1) s) ?_;rintro C2 k2)
 refine gR C1 C2 (jL (D':=20) (d:=1) (fun R R' H=>bm H) (aM.cons k1 (aM.cons k2 .nil (br _)) (br _)) M0 60 [0,1] (L:=[Qf _,Qf _]) (.cons (qf ⟨810,[.v (.sint s)],cA true pl (dC C1),.r (b0 true+2),cA true pl (dC C1)++em (b0 true) (dC C2) [] .none⟩) (.cons (qf ⟨810,[.v (.sint (f / 4))],cA false pl (dC C1),.r (b0 false+2),cA false pl (dC C1)++em (b0 false) (dC C1) [] .none⟩) .nil)) ())
noncomputable def lK (f s:Int) (op cl:Bool) (T:Tr):List (Nat×X):=lN f s op cl T++[(180,.r 0),(181,.r 3),(203,.r 9)]
theorem Ev {x:Nat} {e:CE} {b:List CS} {n:Nat} {h :List a8} {lc lc1 aQ:List (Nat×X)} (a:MG D (fun R=>R.e e) h lc (.v (.int n)) h1 lc1) (hn:n≤1000) (k:MG D (fun R=>e8 R x b (dL n 0)) h1 lc1 .next h2 aQ):MG D (fun R=>bN T7 R (.for x (.rng e) b)) h lc .next h2 aQ:=by
 have k2:MG D (fun R=>(match Nat.ble n 1000 with|true=>R.fr x (dL n 0) b|false=>no:Mo Fl)) h1 lc1 .next h2 aQ:=by
  refine aU (show Nat.ble n 1000=true from Nat.ble_eq.mpr hn) ?_;exact vL k
 exact nX (aP (f:=fun R v=>(match v with|.int (.ofNat k)=>(match Nat.ble k 1000 with|true=>R.fr x (dL k 0) b|false=>no)|_=>no:Mo Fl)) (iU a) k2) fun R=>rfl
theorem Ey {lc:List (Nat×X)} (h0:look lc 180=some (.r 0)):MG D (fun R=>R.e (.len (.n 180))) (HH pl s1 q1 s2 q2) lc (.v (.int pl.length)) (HH pl s1 q1 s2 q2) lc:=by
 have t:MG D (fun _=>jQ (.r 0)) (HH pl s1 q1 s2 q2) lc (.int pl.length) (HH pl s1 q1 s2 q2) lc:=jK fun _ _ _ _=>rfl;exact dB (aP (dM h0) (aP t bd))
set_option tactic.hygienic true in
theorem A9 {f s:Int} {T:Tr} (hf:0≤f∧f < 100800) (hs:0≤s∧s < 100800) (g:jm T) (C1 C2:CC):∃ sE1 sE2:ES,bA sE1.out=mG op cl (ag T)∧bA sE2.out=mG op cl (ag T)∧
  MG 20 (bf (bQ 11)) (HH (gG op cl T) (dC C1) [] (dC C2) []) (lK f s op cl T) .next (HH (gG op cl T) sE1 [] sE2 []) (lL f s (.v (aB T),.v (.bool op),.v (.bool cl))):=by
 have gl:=g.l
 (refine dy (xw (b:=true) g.w g.c g.h (by exact Kl M1 (Kk _ _)) C1 op cl) ?_;rintro sE1 c1 t1 _)
 (refine dy (xw (b:=false) g.w g.c g.h (by exact Kl M1 (Kk _ _)) C2 op cl) ?_;rintro sE2 c2 t2 _)
 refine cP sE1 sE2 t1 t2 ?_;have hlen:(gG op cl T).length=(gm op cl T).length:=by (change uL;change L4;with_reducible rfl)
 have hle:(gm op cl T).length≤1000:=by simp [gm];exact Kl M1 (Kk _ _)
 have sub:Sub (lL f s (.v (aB T),.v (.bool op),.v (.bool cl))) (lK f s op cl T):=fun x v e=>by
  dsimp only [lL] at e;dsimp only [lK,lN];simp only [Lf,List.nil_append];simp only [look] at e ⊢
  split at e<;>first|(rename_i q;have:=KA q;clear q;subst this;exact e)|skip
  split at e<;>first|(rename_i q;have:=KA q;clear q;subst this;exact e)|skip
  split at e<;>first|(rename_i q;have:=KA q;clear q;subst this;exact e)|skip
  split at e<;>first|(rename_i q;have:=KA q;clear q;subst this;exact e)|skip
  split at e<;>first|(rename_i q;have:=KA q;clear q;subst this;exact e)|skip
  split at e<;>first|(rename_i q;have:=KA q;clear q;subst this;exact e)|skip
  split at e<;>first|(rename_i q;have:=KA q;clear q;subst this;exact e)|skip
  split at e<;>first|(rename_i q;have:=KA q;clear q;subst this;exact e)|skip
  exact a0 e
 have loop:=vZ (e3:=(.v (aB T),.v (.bool op),.v (.bool cl))) hf hs (gm op cl T) [] (gG op cl T) [] [] [] [] (dC C1) (dC C2) (by change uL;rfl) (by change hlen;exact hle) (Il g.w) .nil trivial t0 c1 .nil trivial t0 c2;rw [← hlen] at loop;exact (fg (Ev (Ey (by rfl)) (by change hlen;exact hle) (loop.sub sub .refl)) bd:MG 20 (bf [.for 204 (.rng (.len (.n 180))) lB]) _ _ _ _ _)
noncomputable def d1 (op:Bool) (h:List Nat):List (List Nat):=match op with|true=>[[45,45,45]++h]|false=>(match h with|[]=>[]|_::t=>[t])
noncomputable def d3 (cl:Bool):List (List Nat):=match cl with|true=>[[46,46,46]]|false=>[]
noncomputable def cf (op cl:Bool) (x:Bx):List (List Nat):=(d1 op x.h++x.r)++d3 cl
noncomputable def gk (op cl:Bool) (x:Bx):List Nat:=((cf op cl x).map (·++[10])).flatten
theorem C3 (l:List (List Nat)):bp 0 l=(l.map (·++[10])).flatten:=by
 unfold bp
 congr 1
theorem Im {x:Bx}:mG op cl x=gk op cl x:=by
 dsimp only [mG,gk,cf,i4,d1,d3];change C3;induction op using Bool.casesOn<;>induction cl using Bool.casesOn<;>(try (induction x.h using List.casesOn))<;>simp
noncomputable def lF (op cl:Bool) (x:Bx):List (Nat×X):=[(181,.r 3),(203,.r 9),(199,.v (.bool op)),(200,.v (.bool cl)),(191,.v (.str x.h)),(170,.v (.lst (ax x.r)))]
set_option tactic.hygienic true in
theorem A7 {f s:Int} {T:Tr} (g:jm T):MG 20 (bf (bQ 12)) (HH pl s1 [] s2 []) (lL f s (.v (aB T),.v (.bool op),.v (.bool cl))) .next (HH pl s1 [] s2 []) (lF op cl (ag T)):=by
 have gl:=g.l
 (refine ay (eX T g.w g.f (by exact Kl M1 (Kk _ _))) ?_;rintro h' k)
 have k:=k.mono (D':=10) (by have:=g.h;lia);have m:MG 20 (bf (bQ 12)) (HH pl s1 [] s2 []) (lL f s (.v (aB T),.v (.bool op),.v (.bool cl))) .next (HH pl s1 [] s2 []) (lL f s (.v (aB T),.v (.bool op),.v (.bool cl))++[(177,.v (.int (ag T).k)),(191,.v (.str (ag T).h)),(170,.v (.lst (ax (ag T).r)))]):=
  jL (D':=20) (d:=1) (fun R R' H=>bm H) (aM.cons k .nil (br _)) M0 60 [0] (L:=[Qf (bF (aB T) (ag T) h')]) (.cons (qf _) .nil) ()
 refine m.sub .refl fun x v e=>?_;dsimp only [lF] at e;dsimp only [lL];simp only [Lf,List.nil_append];simp only [look] at e ⊢
 split at e<;>first|(rename_i q;have:=KA q;clear q;subst this;exact e)|skip
 split at e<;>first|(rename_i q;have:=KA q;clear q;subst this;exact e)|skip
 split at e<;>first|(rename_i q;have:=KA q;clear q;subst this;exact e)|skip
 split at e<;>first|(rename_i q;have:=KA q;clear q;subst this;exact e)|skip
 split at e<;>first|(rename_i q;have:=KA q;clear q;subst this;exact e)|skip
 split at e<;>first|(rename_i q;have:=KA q;clear q;subst this;exact e)|skip
 exact a0 e
theorem Eu {e:CE} {c:Nat} {t:List Nat} {h:List a8} {lc:List (Nat×X)} (k:MG D (fun R=>R.e e) h lc (.v (.str (c::t))) h lc):MG D (fun R=>R.e (.sl e (some (.k (.int 1))) none)) h lc (.v (.str t)) h lc:=by
 have s:bX (c::t) (some (.int 1)) none=some t:=by
  have h1:eC (c::t).length 0 (some (.int 1))=some (Nat.min 1 (t.length+1)):=rfl;have h2:eC (c::t).length (c::t).length none=some (t.length+1):=rfl;unfold bX
  (change h1;change h2)
  have:Nat.min 1 (t.length+1)=1:=LU (by exact Ku _);change this;simp
 have t1:MG D (fun _=>f0 (.v (.str (c::t))) (some (.int 1)) none) h lc (.str t) h lc:=aP (f:=fun _ (x:List Nat)=>ak (V.str x)) (iT s) bd;have t2:MG D (fun _=>a7 (f0 (.v (.str (c::t))) (some (.int 1)) none) fun v=>ak (X.v v)) h lc (.v (.str t)) h lc:=aP t1 bd;exact dB (aP k (aP ri (aP rj t2)))
noncomputable def pC:CE:=.ife (.n 199) (.lst [.bin .add (.k (.str [45,45,45])) (.n 191)]) (.ife (.n 191) (.lst [.sl (.n 191) (some (.k (.int 1))) none]) (.lst []))
noncomputable def pB:CE:=.ife (.n 200) (.lst [.k (.str [46,46,46])]) (.lst [])
theorem EZ {x:Bx} {h:List a8} (B:Bd 18 x):MG 20 (fun R=>R.e pC) h (lF op cl x) (.v (.lst (ax (d1 op x.h)))) h (lF op cl x):=by
 have hl:lim=1048576:=rfl;have hh:=B.h;clear B;obtain ⟨k,hd,r⟩:=x;induction op using Bool.casesOn with
 |true=>exact (aK (d:=1) (fun R R' H=>H.e _) 60 [] (L:=[3+hd.length≤lim]) (.cons (by dsimp only at hh;lia) .nil) ()).mono M0
 |false=>
  clear hh;induction hd using List.casesOn with
  |nil=>exact (aK (d:=1) (fun R R' H=>H.e _) 60 [] (L:=[]) .nil ()).mono M0
  |cons c t=>
   have l:MG 20 (fun R=>dg R [.sl (.n 191) (some (.k (.int 1))) none]) h (lF false cl ⟨k,c::t,r⟩) [.v (.str t)] h (lF false cl ⟨k,c::t,r⟩):=jM (Eu (dM (by rfl))) lQ;refine nW (h1:=h) (lc1:=lF false cl ⟨k,c::t,r⟩) ((aK (d:=1) (fun R R' H=>H.t _) 60 [] (L:=[]) .nil ()).mono M0) (vK (h1:=h) (lc1:=lF false cl ⟨k,c::t,r⟩) ((aK (d:=1) (fun R R' H=>H.t _) 60 [] (L:=[]) .nil ()).mono M0) ?_);exact dB (aP l (aP (m:=fun _=>aZ (gz [.v (.str t)])) (x:=[.str t]) (iT rfl) bd))
theorem EY {x:Bx} {h:List a8}:MG 20 (fun R=>R.e pB) h (lF op cl x) (.v (.lst (ax (d3 cl)))) h (lF op cl x):=by
 induction cl using Bool.casesOn<;>exact (aK (d:=1) (fun R R' H=>H.e _) 60 [] (L:=[]) .nil ()).mono M0
theorem xF {h:List Nat}:(d1 op h).length≤1:=by induction op using Bool.casesOn<;>(try induction h using List.casesOn)<;>simp [d1]
theorem xE:(d3 cl).length≤1:=by induction cl using Bool.casesOn<;>simp [d3]
theorem kW {l:List (List Nat)}:(ax l).length=l.length:=by simp [ax]
noncomputable def lG (tx:V):List (Nat×X):=[(181,.r 3),(203,.r 9),(165,.v tx)]
theorem A6 {x:Bx} {h:List a8} (B:Bd 18 x):MG 20 (bf (bQ 13)) h (lF op cl x) .next h (put (lF op cl x) 207 (.v (.lst (ax (cf op cl x))))):=by
 have hl:lim=1048576:=rfl;have hn:=B.n;have a:=xF (op:=op) (h:=x.h);have b:=xE (cl:=cl);have e:MG 20 (fun R=>R.e (.bin .add (.bin .add pC (.n 170)) pB)) h (lF op cl x) (.v (.lst (ax (cf op cl x)))) h (lF op cl x):=by
  unfold cf
  (change fR;change fR)
  exact nY (nY (EZ B) (dM (by rfl)) (by (change kW;change kW);lia)) EY (by (change Kn;change kW;change kW;change kW);lia)
 exact (fg (jN e) bd:MG 20 (bf [.asg [207] (.bin .add (.bin .add pC (.n 170)) pB)]) _ _ _ _ _)
noncomputable def cN:CE:=.bin .add (.n 193) (.k (.str [10]))
theorem uv {h:List a8} {lc:List (Nat×X)}:∀ (r:List (List Nat)),(∀ x∈r,x.length≤100000)→MG 20 (fun R=>d0 R 193 cN (ax r)) h lc (ax (r.map (·++[10]))) h lc
 |[],_=>rg
 |x::r,hx=>by
  have hl:lim=1048576:=rfl;have:=hx x (.head _);exact rh (y:=.str (x++[10])) ((aK (d:=1) (fun R R' H=>bk H) 60 [] (L:=[x.length+1≤lim]) (lc':=[(193,.v (.str x))]) (h':=[]) (.cons (by exact Lg M1 M0) .nil) ()).mono M0) (uv r fun y hy=>hx y (.tail _ hy))
theorem tr:∀ l:List (List Nat),fQ (ax l)=some l
 |[]=>rfl
 |x::l=>by
  refine (?_:(match cg (.str x),fQ (ax l) with|some s,some l=>some (s::l)|_,_=>none)=_);change tr l;rfl
theorem w5:∀ l:List (List Nat),lZ (ax l)=true
 |[]=>rfl
 |x::l=>w5 l
theorem wj:∀ l:List (List Nat),dQ [] l=l.flatten
 |[]=>rfl
 |[x]=>by simp [dQ]
 |x::y::l=>by
  refine (?_:x++([]++dQ [] (y::l))=_);change wj (y::l);rfl
theorem ol:∀ l:List (List Nat),jt [] l=l.flatten.length
 |[]=>rfl
 |x::l=>by
  refine (?_:x.length+0+jt [] l=_);change ol l;simp
theorem wV {m:Nat}:∀ l:List (List Nat),(∀ x∈l,x.length≤m)→l.flatten.length≤l.length * m
 |[],_=>by simp
 |x::l,h=>by
  have a:=wV l fun y hy=>h y (.tail _ hy);have b:=h x (.head _)
  (change List.flatten_cons;change Kn;change Ko;change Nat.add_mul)
  lia
theorem xt {x:Bx} (B:Bd 18 x):(cf op cl x).length≤360∧∀ y∈cf op cl x,y.length≤370:=by
 have hn:=B.n;have hh:=B.h;have a:=xF (op:=op) (h:=x.h);have b:=xE (cl:=cl);refine ⟨by unfold cf;(change Kn;change Kn);lia,fun y hy=>?_⟩;unfold cf at hy;rcases Lb.mp hy with hy|hy
 ·rcases Lb.mp hy with hy|hy
  ·clear a;induction op using Bool.casesOn with
   |true=>simp [d1] at hy;subst hy;simp;exact Kl M1 (Kk _ _)
   |false=>
    induction hx:x.h using List.casesOn with
    |nil=>rw [hx] at hy;simp [d1] at hy
    |cons c t=>rw [hx] at hy hh;simp [d1] at hy;clear hx;subst hy;simp at hh;exact Kl M1 (Kk _ _)
  ·have:=B.r y hy;exact Kl M1 (Kk _ _)
 ·clear b;induction cl using Bool.casesOn with
  |true=>simp [d3] at hy;subst hy;simp
  |false=>simp [d3] at hy
theorem xu {x:Bx} (B:Bd 18 x):(gk op cl x).length≤200000:=by
 (refine aw (xt (op:=op) (cl:=cl) B) ?_;rintro h1 h2)
 have:=wV (m:=371) ((cf op cl x).map (·++[10])) fun y hy=>by
  (refine am (L8.mp hy) ?_;clear hy;rintro z hz rfl)
  have:=h2 z hz;simp;assumption
 rw [L4] at this;unfold gk;have k:(cf op cl x).length * 371≤360 * 371:=Nat.mul_le_mul_right _ h1;lia
set_option tactic.hygienic true in
theorem A5 {x:Bx} {h:List a8} (B:Bd 18 x):MG 20 (bf (bQ 14)) h (put (lF op cl x) 207 (.v (.lst (ax (cf op cl x))))) .next h (lG (.str (gk op cl x))):=by
 have hl:lim=1048576:=rfl;have hd:=xu (op:=op) (cl:=cl) B
 (refine aw (xt (op:=op) (cl:=cl) B) ?_;rintro h1 h2)
 have j:MG 20 (fun _=>jS [] (.v (.lst (ax ((cf op cl x).map (·++[10])))))) h (put (lF op cl x) 207 (.v (.lst (ax (cf op cl x))))) (.v (.str (gk op cl x))) h (put (lF op cl x) 207 (.v (.lst (ax (cf op cl x))))):=by
  have m:MG 20 (fun _=>bE (jt [] ((cf op cl x).map (·++[10]))≤lim)) h (put (lF op cl x) 207 (.v (.lst (ax (cf op cl x))))) Unit.unit h (put (lF op cl x) 207 (.v (.lst (ax (cf op cl x))))):=
   ⟨0,fun _ _ _ _=>⟨[],[jt [] ((cf op cl x).map (·++[10]))≤lim],.cons (by change ol;unfold gk at hd;exact Kl M1 (Kk _ _)) .nil,fun lc1 hs=>⟨lc1,hs,fun _ _=>rfl⟩⟩⟩
  have r:MG 20 (fun _=>ak (X.v (fH (lZ (ax ((cf op cl x).map (·++[10])))) (dQ [] ((cf op cl x).map (·++[10])))))) h (put (lF op cl x) 207 (.v (.lst (ax (cf op cl x))))) (.v (.str (gk op cl x))) h (put (lF op cl x) 207 (.v (.lst (ax (cf op cl x))))):=by
   (change w5;change wj)
   exact bd
  exact aP (iT (tr _)) (aP m r)
 have c:MG 20 (fun R=>R.e (.comp 193 cN (.n 207))) h (put (lF op cl x) 207 (.v (.lst (ax (cf op cl x))))) (.v (.lst (ax ((cf op cl x).map (·++[10]))))) h (put (lF op cl x) 207 (.v (.lst (ax (cf op cl x))))):=
  lR (dM (by rfl)) (uv _ fun y hy=>by have:=h2 y hy;exact Kl M1 (Kk _ _))
 have e:MG 20 (fun R=>R.e (.join (.k (.str [])) (.comp 193 cN (.n 207)))) h (put (lF op cl x) 207 (.v (.lst (ax (cf op cl x))))) (.v (.str (gk op cl x))) h (put (lF op cl x) 207 (.v (.lst (ax (cf op cl x))))):=
  dB (aP (iU (dB bd)) (aP c j))
 refine (fg (jN e) bd:MG 20 (bf [.asg [165] (.join (.k (.str [])) (.comp 193 cN (.n 207)))]) _ _ _ _ _).sub .refl fun y v q=>?_;unfold lG at q;simp only [look] at q
 split at q<;>first|(rename_i q';have:=KA q';clear q';subst this;exact q)|skip
 split at q<;>first|(rename_i q';have:=KA q';clear q';subst this;exact q)|skip
 split at q<;>first|(rename_i q';have:=KA q';clear q';subst this;exact q)|skip
 exact a0 q
theorem A4 {tx:List Nat} (h1:bA s1.out=tx) (h2:bA s2.out=tx) (hl:tx.length≤200000):MG 20 (bf (bQ 15)) (HH pl s1 [] s2 []) (lG (.str tx)) (.ret (.v (.bool true))) (HH pl s1 [] s2 []) (lG (.str tx)):=by
 have lm:lim=1048576:=rfl;have j1:jt [] s1.out.reverse≤lim:=by change ol;have e:s1.out.reverse.flatten=tx:=h1;change e;exact Kl M1 (Kk _ _)
 have j2:jt [] s2.out.reverse≤lim:=by change ol;have e:s2.out.reverse.flatten=tx:=h2;change e;exact Kl M1 (Kk _ _)
 exact (aK (d:=3) (fun R R' H=>bm H) 60 [1,1] (L:=[s2.out.reverse.flatten=tx,jt [] s2.out.reverse≤lim,s1.out.reverse.flatten=tx,jt [] s1.out.reverse≤lim]) (.cons h2 (.cons j2 (.cons h1 (.cons j1 .nil)))) ()).mono M0
theorem zu (l:List Int):(dF l).length≤6∧∀ x∈dF l,0≤x∧x < 100800:=by
 unfold dF;refine ⟨by simp;lia,fun x hx=>?_⟩
 (refine am (L8.mp hx) ?_;clear hx;rintro y _ rfl)
 lia
theorem GH {t:List Int} (h:∀ x∈t,0≤x∧x < 100800):0≤fk t∧fk t < 100800:=by
 induction t using List.casesOn with
 |nil=>exact ⟨by decide,by decide⟩
 |cons x t=>exact h x (.head _)
theorem Go {t:List Int} (h:∀ x∈t,0≤x∧x < 100800):0≤kg t∧kg t < 100800:=by
 match t,h with
 |[],_=>exact ⟨by decide,by decide⟩
 |[_],_=>exact ⟨(by decide:(0:Int)≤0),(by decide:(0:Int) < 100800)⟩
 |_::y::_,h=>exact h y (.tail _ (.head _))
set_option tactic.hygienic true in
theorem Ff (l:List Int):∃ h',FG 20 ⟨825,[.v (.lst (l.map .sint))],[],.v (.bool true),h'⟩:=by
 (refine aw (zu l) ?_;rintro t6 tb)
 have hf:=GH tb;have hs:=Go tb;obtain ⟨op,ho⟩:∃ op:Bool,if op then fk (dF l) % 2=0 else ¬ fk (dF l) % 2=0:=by
  by_cases h:fk (dF l) % 2=0
  ·exact ba true (by simpa using h)
  ·exact ba false (by simpa using h)
 obtain ⟨cl,hc⟩:∃ cl:Bool,if cl then fk (dF l) / 2 % 2=1 else ¬ fk (dF l) / 2 % 2=1:=by
  by_cases h:fk (dF l) / 2 % 2=1
  ·exact ba true (by simpa using h)
  ·exact ba false (by simpa using h)
 (refine am (zY (t:=dF l) (f:=fk (dF l)) (s:=kg (dF l)) (op:=op) (cl:=cl) t6) ?_;rintro T g m5)
 (refine d6 (zW (f:=fk (dF l)) (s:=kg (dF l)) (op:=op) (cl:=cl) (T:=T) (pl:=gG op cl T)) ?_;rintro C1 C2 m910)
 (refine be (A9 (op:=op) (cl:=cl) hf hs g C1 C2) ?_;rintro sE1 sE2 t1 t2 m11)
 have B:Bd 18 (ag T):=(dS T g.w).up g.l;rw [Im] at t1 t2;refine ba (HH (gG op cl T) sE1 [] sE2 []) (oK (F:=j9) (lc':=lG (.str (gk op cl (ag T)))) (by rfl) ?_);have e:j9.body=bQ 0++((bQ 1++bQ 2)++((bQ 3++bQ 4)++(bQ 5++((bQ 6++bQ 7++bQ 8)++((bQ 9++bQ 10)++(bQ 11++(bQ 12++(bQ 13++(bQ 14++bQ 15))))))))):=by rfl
 change e;have m5':=m5.sub (l2:=lN (fk (dF l)) (kg (dF l)) op cl T) .refl (zQ (fun x v q=>by
  unfold lN at q;simp only [look] at q
  split at q<;>first|(rename_i q';have:=KA q';clear q';subst this;rfl)|skip
  split at q<;>first|(rename_i q';have:=KA q';clear q';subst this;rfl)|skip
  split at q<;>first|(rename_i q';have:=KA q';clear q';subst this;rfl)|skip
  split at q<;>first|(rename_i q';have:=KA q';clear q';subst this;rfl)|skip
  split at q<;>first|(rename_i q';have:=KA q';clear q';subst this;rfl)|skip
  exact a0 q) .refl)
 exact dw pQ (dw (A8 t6) (dw (zZ ho hc) (dw m5' (dw (zX g (h0:=(0,.r 0))) (dw m910 (dw m11 (dw (A7 g) (dw (A6 B) (dw (A5 B) (A4 t1 t2 (xu B)))))))))))
theorem JU (l:List Int):∃ (n:Nat) (ds:List Nat) (σ':St),cI T7 (run T7 n 30) 825 [.v (.lst (l.map .sint))] ⟨[],[],ds,[]⟩=some (.v (.bool true),σ')∧ae σ':=by
 (refine d6 (Ff l) ?_;rintro h' n0 k)
 (refine aN (k n0 30 (br _) M0) ?_;rintro ds L t k)
 refine jX n0 (ds++[]) _ (k [] [] []) ?_;intro p hp;exact t p (by simpa using hp)
end Mine
set_option maxHeartbeats 8000000 in
theorem PySem.Challenge.cw_rf0002_07_holds : PySem.Challenge.rw_rf0002_07.Holds := by
  w_on; refine holds_law Mine.JN fun said => ?_; refine Mine.K3 (by assumption) ?_ (Mine.JD fun l _ => Mine.JU l); w_witness2
