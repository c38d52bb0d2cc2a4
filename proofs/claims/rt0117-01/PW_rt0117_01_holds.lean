import PyProof.Rows.All
import Wide.All
import OpenK.AllK
import Wide.FinOn
import Lean
import PySem.Challenge.RW_rt0117_01
set_option Elab.async false
set_option linter.all false
set_option tactic.hygienic false
set_option genInjectivity false
set_option genSizeOf false
set_option maxRecDepth 100000
set_option maxHeartbeats 0
open PySem PySem.W PyProof.Rows
namespace Mine.Internal
abbrev Yn:=@List.mem_append_right
abbrev Yo:=@wpAny_bind
abbrev Yp:=@List.mem_append_left
abbrev Yq:=@List.mem_singleton
abbrev Yr:=@List.mem_append
abbrev Ys:=@Nat.le_trans
abbrev Yt:=@List.mem_map
abbrev Yu:=@List.mem_cons_self
abbrev Yv:=@List.mem_cons_of_mem
abbrev Yw:=@Heap.get?_push_size
abbrev Yx:=@Option.some.inj
abbrev Yy:=@sizeLine_eq
abbrev Yz:=@if_neg
abbrev YA:=@wpAny_pure
abbrev YB:=@Heap.get?_push_of_some
abbrev YC:=@List.mem_cons
abbrev YD:=@List.getElem?_eq_some_iff
abbrev YE:=@Nat.le_refl
abbrev YF:=@of_decide_eq_true
abbrev YG:=@Nat.lt_of_lt_of_le
abbrev YH:=@if_pos
abbrev YI:=@Option.map_eq_some_iff
abbrev YJ:=@List.mem_filter
abbrev YK:=@beq_iff_eq
abbrev YL:=@List.map_congr_left
abbrev YM:=@List.getElem?_eq_getElem
abbrev YN:=@List.mem_of_getElem?
abbrev YO:=@Nat.ne_of_lt
abbrev YP:=@Nat.lt_of_le_of_lt
abbrev YQ:=@Int.toNat_natCast
abbrev YR:=@Bool.and_eq_true
abbrev YS:=@List.lookup_cons
abbrev YT:=@List.size_toArray
abbrev YU:=@Nat.le_add_left_of_le
abbrev YV:=@wpAny_holding
abbrev YW:=@Int.eq_ofNat_of_zero_le
abbrev YX:=@of_decide_eq_false
abbrev YY:=@List.foldl_append
abbrev YZ:=@Heap.get?_update_self
abbrev Y0:=@List.nodup_cons
abbrev Y1:=@List.length_filter_le
abbrev Y2:=@List.getElem?_map
abbrev Y3:=@List.any_eq_true
abbrev Y4:=@Heap.get?_update_other
noncomputable section
section
open PySem PySem.W PySem.W.X PyProof.Rows
noncomputable def X_ {α:Type}(as:Array α)(p:α→Bool)(start stop:Nat):Bool:=
 @Bool.rec (fun χ=>Bool) (Array.any as p start stop) (@Bool.rec (fun χ=>Bool) (Array.any as p start stop) (PySem.W.R.anyR as.toList p) (Nat.beq stop as.size)) (Nat.beq start 0)
theorem DM:@Array.any.{0}=@X_:=by
 funext α as p start stop;unfold X_;cases h:Nat.beq start 0 with
 | false=>rfl
 | true=>
  cases h':Nat.beq stop as.size with
  | false=>rfl
  | true=>
   show Array.any as p start stop=PySem.W.R.anyR as.toList p;rw [Nat.eq_of_beq_eq_true h,Nat.eq_of_beq_eq_true h',← PySem.W.R.anyR_eq,Array.any_toList]
inductive KK {α:Type}(a:α):α→Type where
 | refl:KK a a
theorem KK.eq {α:Type}{a b:α}(h:KK a b):a=b:=by cases h;rfl
noncomputable abbrev E1:Type 1:={α:Type}→Array α→(α→Bool)→Nat→Nat→Bool
structure MZ (b:Builtin) where
 f:E1→Builtin
 e:KK b (f @Array.any)
noncomputable def Kg:MZ PySem.W.Fast.tw4202317264376624991:=
 ⟨_,by
  delta PySem.W.Fast.tw4202317264376624991
  generalize @Array.any.{0}=G;exact .refl⟩
noncomputable def Lf:Builtin:=Kg.1 @X_
theorem H5:Builtin.«type.__new__»=Lf:=by
 have h:∀ (A B:E1),@A=@B→Kg.1 @A=Kg.1 @B:=fun A B e=>by cases e;rfl
 exact (PySem.W.Fast.te4202317264376624991.trans Kg.2.eq).trans (h @Array.any @X_ DM)
noncomputable def Ki:String→Option Builtin:=fun id=>
 @Bool.rec (fun χ=>Option Builtin) (NTree.find PySem.W.Fast.tw1115789885857029328 (PySem.W.Fast.tw13482112738370960269 id)) (some Lf) (Nat.beq (PySem.W.Fast.tw13482112738370960269 id) 29827186395103491166823348853)
theorem Dt:NTree.find entriesT 29827186395103491166823348853=some Builtin.«type.__new__»:=by kernel_rfl
theorem H7:treeTable=Ki:=by
 funext id;unfold Ki;rw [← PySem.W.Fast.te1115789885857029328,← PySem.W.Fast.te13482112738370960269];cases h:Nat.beq (PySem.code id) 29827186395103491166823348853 with
 | false=>rfl
 | true=>
  show NTree.find entriesT (PySem.code id)=some Lf;rw [Nat.eq_of_beq_eq_true h,Dt,H5]
end
section
open PySem PySem.W PySem.W.X PyProof.Rows
variable {tb:String→Option Builtin}{p:Program}{w:World}{gu:Nat}{ann:Option Value}
noncomputable def i6 (tb:String→Option Builtin)(p:Program)(w:World)(gu:Nat)(ann:Option Value):Nat→SharedT→Thread→Option SharedT
 | 0,_,_=>none
 | n+1,s,t=>match through t with
  | true=>some s
  | false=>match stepOk gu ann t with
   | false=>none
   | true=>match stepT (denote tb) p w s t with
    | some (s',t')=>i6 tb p w gu ann n s' t'
    | none=>none
theorem uj:∀ {n:Nat} {s s':SharedT} {t:Thread},i6 tb p w gu ann n s t=some s'→topRun tb p w gu ann n s.abs t=some s'.abs:=by
 intro n
 induction n with
 | zero=>
  intro χ χ χ h;cases h
 | succ n ih=>
  intro s s' t h;unfold i6 at h;unfold topRun;cases he:through t with
  | true=>rw [he] at h;obtain rfl:=Yx h;rfl
  | false=>
   rw [he] at h;cases hk:stepOk gu ann t with
   | false=>rw [hk] at h;cases h
   | true=>
    rw [hk] at h;cases hs:stepT (denote tb) p w s t with
    | none=>rw [hs] at h;cases h
    | some r=>obtain ⟨ag,BS⟩:=r;rw [hs] at h;rw [stepT_spec hs];exact ih h
noncomputable def yF (p:Program)(w:World)(gu:Nat)(ann:Option Value)(n:Nat):SharedT→Thread→Option SharedT:=
 @Nat.rec (fun χ=>SharedT→Thread→Option SharedT) (fun χ χ=>none)
  (fun χ ih s t=>@Bool.rec (fun χ=>Option SharedT)
   (@Bool.rec (fun χ=>Option SharedT) none
    (@Option.rec (SharedT×Thread) (fun χ=>Option SharedT) none (fun q=>@Prod.rec SharedT Thread (fun χ=>Option SharedT) (fun s' t'=>ih s' t') q)
     (PySem.W.Fast.tw10156331382660048174 (PySem.W.Fast.tw11892475500146522536 Ki) p w s t))
    (PySem.W.Fast.tw6613529449190102663 gu ann t))
   (some s) (through t)) n
theorem GQ (p:Program)(w:World)(gu:Nat)(ann:Option Value):∀ (n:Nat) (s:SharedT) (t:Thread),yF p w gu ann n s t=i6 treeTable p w gu ann n s t:=by
 intro n
 induction n with
 | zero=>
  intro χ χ;exact rfl
 | succ n ih=>
  intro s t;unfold i6;show @Bool.rec (fun χ=>Option SharedT)
   (@Bool.rec (fun χ=>Option SharedT) none
    (@Option.rec (SharedT×Thread) (fun χ=>Option SharedT) none (fun q=>@Prod.rec SharedT Thread (fun χ=>Option SharedT) (fun s' t'=>yF p w gu ann n s' t') q)
     (PySem.W.Fast.tw10156331382660048174 (PySem.W.Fast.tw11892475500146522536 Ki) p w s t))
    (PySem.W.Fast.tw6613529449190102663 gu ann t))
   (some s) (through t)=_
  rw [← PySem.W.Fast.te10156331382660048174,← PySem.W.Fast.te11892475500146522536,← PySem.W.Fast.te6613529449190102663,← H7];cases through t with
  | true=>rfl
  | false=>
   cases stepOk gu ann t with
   | false=>rfl
   | true=>
    cases stepT (denote treeTable) p w s t with
    | none=>rfl
    | some q=>obtain ⟨s',t'⟩:=q;exact ih s' t'
noncomputable def JJ (P:Params):BT:=
 .node (boot_o_0 P) (.node (boot_o_1 P) (.node (boot_o_3 P) (.node (boot_o_7 P) .nil .nil) .nil) (.node (boot_o_5 P) (.node (boot_o_9 P) .nil .nil) .nil))
  (.node (boot_o_2 P) (.node (boot_o_4 P) (.node (boot_o_8 P) .nil .nil) .nil) (.node (boot_o_6 P) (.node (boot_o_10 P) .nil .nil) .nil))
noncomputable def S0 (w:World)(os:OsState):SharedT:=⟨JJ w.params,11,(boot_heap w.params).life,#[],boot_drawn,boot_toks,os⟩
theorem Hd (w:World)(os:OsState):(S0 w os).abs=⟨boot_heap w.params,#[],boot_drawn,boot_toks,os⟩:=by kernel_rfl
noncomputable def ti:List Stmt→Str
 | _::_::_::_::_::.ClassDef _ _ _ (.Expr (.Constant (.str d) _ _) _::_) _ _ _ _ _ _ _::_=>d
 | _=>Str.empty
noncomputable def FA (d:Str):List Stmt→List Stmt
 | a::b::c::e::f::.ClassDef n x k (.Expr (.Constant (.str _) q p) p'::body) y t s z g h i::r=>
  a::b::c::e::f::.ClassDef n x k (.Expr (.Constant (.str d) q p) p'::body) y t s z g h i::r
 | l=>l
noncomputable def Kj (d:Str):Program:={ PySem.Challenge.pw_rt0117_01 with main:={ PySem.Challenge.pw_rt0117_01.main with body:=FA d PySem.Challenge.pw_rt0117_01.main.body } }
theorem zp:Kj (ti PySem.Challenge.pw_rt0117_01.main.body)=PySem.Challenge.pw_rt0117_01:=by kernel_rfl
noncomputable def JH:{ cs:List Char // ti PySem.Challenge.pw_rt0117_01.main.body=Str.ofString (String.ofList cs) }:=
 ⟨_,by
  delta PySem.Challenge.pw_rt0117_01
  dsimp only [ti]⟩
noncomputable def yf:Str:=⟨⟨PySem.W.R.mapR Char.toNat JH.1⟩⟩
theorem wR:ti PySem.Challenge.pw_rt0117_01.main.body=yf:=by
 rw [JH.2,PySem.W.Fast.ofString_ofList];unfold yf;rw [← PySem.W.R.mapR_eq]
theorem Ir:PySem.Challenge.pw_rt0117_01=Kj yf:=by
 rw [← wR];exact zp.symm
noncomputable def pd (s:SharedT)(a:Addr):Option Obj:=match Nat.blt a s.n with
 | true=>match s.tree.get a with
  | some o=>alive o
  | none=>none
 | false=>none
theorem zJ {s:SharedT}{a:Addr}{o:Obj}(h:pd s a=some o):s.abs.heap.get? a=some o:=by
 unfold pd at h;cases e:Nat.blt a s.n with
 | false=>rw [e] at h;cases h
 | true=>
  rw [e] at h;have lt:a<s.n:=Nat.le_of_ble_eq_true e;cases g:s.tree.get a with
  | none=>rw [g] at h;cases h
  | some o'=>
   rw [g] at h;show (absHeap s.tree s.n s.life).get? a=some o;rw [abs_get lt g];exact h
theorem wj {s:SharedT}:∀ {as:List Addr} {K:List (Addr×Obj)},as.map (pd s)=K.map (fun p=>some p.2)→as.map s.abs.heap.get? = K.map fun p=>some p.2
 | [],[],_=>rfl
 | [],_::_,h=>by cases h
 | _::_,[],h=>by cases h
 | a::as,p::K,h=>by
  rw [List.map_cons,List.map_cons] at h ⊢;injection h with h1 h2
  rw [zJ h1,wj h2]
noncomputable abbrev run (w:World)(os:OsState):Option SharedT:=yF (Kj yf) w 11 (some (.ref 6)) 4000 (S0 w os) (topStub (Kj yf))
theorem xF:opening PySem.Challenge.pw_rt0117_01=plainProg PySem.Challenge.pw_rt0117_01.main.scope.names:=by kernel_rfl
theorem u6 (s:Shared):fenceModules? PySem.Challenge.pw_rt0117_01 s=some s:=by kernel_rfl
theorem DC (w:World):(fencedOpening treeTable PySem.Challenge.pw_rt0117_01 w (4000+4000)).map (fun s=>(s.heap,s.gens,s.drawn,s.toks))=some (boot_heap w.params,Array.mk [],boot_drawn,boot_toks):=
 boot_open xF (by decide) u6 w
theorem vi (w:World):((boot_heap w.params).isNs mainGlobals&&(Array.mk []:Array GenState).size==0,(boot_heap w.params).objs.size,(boot_heap w.params).nsMap mainGlobals "__annotations__")=(true,11,some (Value.ref 6)):=by kernel_rfl
theorem z4 {p q:Program}{loose:List Str}{Xt:Shared→Bool}{as:List Addr}{K:Params→Frag}{M N:Nat}{nY:Params→Heap}{cD:Drawn}{xS IR:Nat}{ann:Option Value}{R:World→OsState→Option SharedT}
  (Iw:∀ w:World,(fencedOpening treeTable p w (M+N)).map (fun s=>(s.heap,s.gens,s.drawn,s.toks))=some (nY w.params,Array.mk [],cD,xS))
  (size:∀ w:World,((nY w.params).isNs mainGlobals&&(Array.mk []:Array GenState).size==0,(nY w.params).objs.size,(nY w.params).nsMap mainGlobals "__annotations__")=(true,IR,ann))
  (run:∀ w os S,R w os=some S→topRun treeTable p w IR ann M ⟨nY w.params,Array.mk [],cD,xS,os⟩ (topStub p)=some S.abs)
  (h:∀ w os,(R w os).map (fun s=>((staticsOk (importedModules p.main.body) (nY w.params) s.abs.heap&&namesBound p s.abs.heap&&gensDone s.abs&&laidKept (nY w.params) s.abs.heap),
   openSeen q loose (importedModules p.main.body) Xt true s.abs,as.map (pd s)))=some (true,openGood q loose,(K w.params).map fun p=>some p.2)):
  LeftO p q loose Xt (fun s=>as.map s.heap.get?) (fun w=>(K w.params).map fun p=>some p.2) (M+N) true:=fun w=>by
 obtain ⟨⟨hp,gs,d,k,os⟩,e,e'⟩:=YI.mp (Iw w);obtain ⟨rfl,rfl,rfl,rfl⟩:hp=nY w.params∧gs=Array.mk []∧d=cD∧k=xS:=by simpa using e'
 obtain ⟨S,hS,hl⟩:=YI.mp (h w os);obtain ⟨l1,l2,l3⟩:_∧_∧_:=by simpa only [Prod.mk.injEq] using hl
 have r:=topRun_mono N _ _ _ _ (run w os S hS);obtain ⟨z1,z2,z3⟩:_∧_∧_:=by simpa only [Prod.mk.injEq] using size w
 have t:topFrom treeTable p w (M+N) ⟨nY w.params,Array.mk [],d,k,os⟩=some S.abs:=by
  unfold topFrom;dsimp only;rw [z1,z2,z3,r];show (match staticsOk (importedModules p.main.body) (nY w.params) S.abs.heap&&namesBound p S.abs.heap&&gensDone S.abs&&laidKept (nY w.params) S.abs.heap with | true=>_ | false=>_)=_;rw [l1]
 unfold openEnds;rw [e];show (topFrom treeTable p w (M+N) _).map _=_;rw [t];exact congrArg some (Prod.ext l2 (wj l3))
theorem Cc {p p':Program}(e:p=p'){w:World}{os:OsState}{gu M:Nat}{ann:Option Value}{JP S:SharedT}{H:Shared}(hS:JP.abs=H)(h:yF p' w gu ann M JP (topStub p')=some S):
  topRun treeTable p w gu ann M H (topStub p)=some S.abs:=by
 rw [← e,GQ] at h;rw [← hS];exact uj h
theorem Fu (w:World)(os:OsState)(S:SharedT)(h:run w os=some S):topRun treeTable PySem.Challenge.pw_rt0117_01 w 11 (some (.ref 6)) 4000 ⟨boot_heap w.params,Array.mk [],boot_drawn,boot_toks,os⟩ (topStub PySem.Challenge.pw_rt0117_01)=some S.abs:=
 Cc Ir (os:=os) (Hd w os) h
theorem xR {q:Program}{loose:List Str}{Xt:Shared→Bool}{as:List Addr}{K:Params→Frag}
  (h:∀ w os,(run w os).map (fun s=>((staticsOk (importedModules PySem.Challenge.pw_rt0117_01.main.body) (boot_heap w.params) s.abs.heap&&namesBound PySem.Challenge.pw_rt0117_01 s.abs.heap&&gensDone s.abs&&laidKept (boot_heap w.params) s.abs.heap),
   openSeen q loose (importedModules PySem.Challenge.pw_rt0117_01.main.body) Xt true s.abs,as.map (pd s)))=some (true,openGood q loose,(K w.params).map fun p=>some p.2)):
  LeftO PySem.Challenge.pw_rt0117_01 q loose Xt (fun s=>as.map s.heap.get?) (fun w=>(K w.params).map fun p=>some p.2) (4000+4000) true:=
 z4 DC vi Fu h
noncomputable def Fj (d:Str)(o:Obj):Obj:=⟨o.cls,o.dict,(match o.data with
 | .dict es n=>(match es.toList with
  | a::b::⟨h,k,.str _ t⟩::r=>.dict (a::b::⟨h,k,.str d t⟩::r).toArray n
  | _=>.dict es n)
 | x=>x),o.slots⟩
noncomputable def JD (d:Str)(K:Frag):Frag:=K.map fun p=>match Nat.beq p.1 241 with
 | true=>(p.1,Fj d p.2)
 | false=>p
theorem XX {q:Program}{loose:List Str}{Xt:Shared→Bool}{as:List Addr}{K:Params→Frag}
  (hK:∀ P,JD (ti PySem.Challenge.pw_rt0117_01.main.body) (K P)=K P)
  (h:∀ w os,(run w os).map (fun s=>((staticsOk (importedModules PySem.Challenge.pw_rt0117_01.main.body) (boot_heap w.params) s.abs.heap&&namesBound PySem.Challenge.pw_rt0117_01 s.abs.heap&&gensDone s.abs&&laidKept (boot_heap w.params) s.abs.heap),
   openSeen q loose (importedModules PySem.Challenge.pw_rt0117_01.main.body) Xt true s.abs,as.map (pd s)))=some (true,openGood q loose,(JD yf (K w.params)).map fun p=>some p.2)):
  LeftO PySem.Challenge.pw_rt0117_01 q loose Xt (fun s=>as.map s.heap.get?) (fun w=>(K w.params).map fun p=>some p.2) (4000+4000) true:=
 xR fun w os=>by
  have:=h w os;rw [← wR,hK] at this;exact this
noncomputable def rQ:Program:=view PySem.Challenge.pw_rt0117_01 [35]
noncomputable def z0:List Str:=["_wall","_tuplegetter","Match","_calculate_ratio","SequenceMatcher","bytes_types","_bytes_from_decode_data","Error","_ascii_buffer","_buffer","_truth","_B64","_b64_value","a2b_base64","b2a_base64","b64encode","b64decode","_NODE_OUT","_NODE_DONE","_NodeInfo","CycleError","TopologicalSorter","_law_bits","_law_octets","_law_rounds","_law_layers","_law_path","_law_matches","_law_met"]
theorem X8:OpenLaw.wellSaid PySem.Challenge.rw_rt0117_01=true:=by kernel_rfl
theorem XQ (H:Hook){d:DefRec}{LU:List (Str×PySem.Expr)}(hl:LeftO PySem.Challenge.pw_rt0117_01 rQ z0 (fun s=>xlAt rQ [] s&&recOk (RowW.records (OpenRow.toRowW (OpenLaw.row PySem.Challenge.rw_rt0117_01))) s) H.obs H.val 8000 true)(Mt:defOf rQ (OpenLaw.row PySem.Challenge.rw_rt0117_01).name=some (d,LU))(hp:(OpenLaw.row PySem.Challenge.rw_rt0117_01).prog.theDef (OpenLaw.row PySem.Challenge.rw_rt0117_01).name=some (d.params,d.body,d.scope))(hk:kwWritten? d.params.kwonlyargs d.params.kw_defaults=some LU)(k1:(OpenLaw.row PySem.Challenge.rw_rt0117_01).wellSaid=true)(hw:(OpenLaw.row PySem.Challenge.rw_rt0117_01).toRowW.promised)
  (call:WalkO rQ z0 (XL rQ []) H.says (OpenLaw.row PySem.Challenge.rw_rt0117_01).toRowW d LU fun f vs=>PySem.call f vs):(OpenLaw.row PySem.Challenge.rw_rt0117_01).Holds:=
 holds_open hl H.of H.keeps (fun s e=>xl_of s (Bool.and_eq_true_iff.mp e).1) XL.keeps Mt hp hk (fun s e=>recFacts_of (Bool.and_eq_true_iff.mp e).2) (by rfl) k1 (by decide+kernel) ⟨rfl,rfl,rfl,rfl,rfl,by decide+kernel⟩ hw call
local macro_rules | `(tactic| o_head $H) => `(tactic| (refine XQ $H ?hl rfl rfl rfl (by assumption) ?hw ?hc; case hl => (refine XX (fun P => by kernel_rfl) ?_; intro w os; kernel_rfl)))
local macro_rules | `(tactic| o_law) => `(tactic| (refine holds_law X8 fun said => ?_))
open_top hd for PySem.Challenge.rw_rt0117_01
end
@[elab_as_elim] theorem rv.{u} {α:Sort u}{motive:α→Prop}{a b:α}(h:a=b)(t:motive b):motive a:=Eq.ndrec t h.symm
theorem Ii {a b m n k:Int}(h0:0≤a)(h1:a<m)(h2:0≤b)(h3:b<n)(e:m*n=k):(0≤a*n+b)∧(a*n+b<k):=
 have hn:0≤n:=Int.le_of_lt (Int.lt_of_le_of_lt h2 h3)
 ⟨Int.add_nonneg (Int.mul_nonneg h0 hn) h2,e▸Int.lt_of_lt_of_le (Int.add_lt_add_left h3 _) (((Int.add_mul a 1 n).trans (congrArg (a*n+·) (Int.one_mul n))).symm▸Int.mul_le_mul_of_nonneg_right h1 hn)⟩
theorem yC {a b:Int}(h0:0≤a)(h1:0≤b):0≤a+b:=Int.add_nonneg h0 h1
theorem yB {a:Int}(h0:0<a):0≤a-1:=Int.le_sub_one_of_lt h0
theorem BM {a b:Nat}(h0:a<b):a≠b:=YO h0
theorem BL {a b:Nat}(h0:a<b):¬a=b:=YO h0
theorem BK {a:Nat}(h0:a≤20):a≤16777216:=YU h0
theorem Eg {a b:Nat}(h0:a<b):a<b+1:=Nat.lt_succ_of_lt h0
theorem Ef {a b:Nat}(h0:¬a≤b):b≤a:=Nat.le_of_not_le h0
theorem Lb {a:Int}(h0:0≤a):0≤a:=by omega
theorem Hs {a:Int}(h0:0≤a):(((a).toNat:Nat):Int)=a:=Int.toNat_of_nonneg h0
theorem Hr {a b c:Nat}(h0:a=b+3)(h1:c<b):c<a:=by lia -abstractProof
theorem HU {a b c:Nat}(h0:a=b+1)(h1:c<b):c<a:=by lia -abstractProof
theorem HT {a b:Nat}(h0:a<b):b≠a:=Nat.ne_of_gt h0
theorem HS {a:Nat}:0≤(a:Int):=Int.natCast_nonneg _
theorem Ke {a:Int}{b:Nat}(h0:0≤a)(h1:a<(b:Int)):(a).toNat<b:=(Int.toNat_lt h0).mpr h1
theorem Kd {a:Int}(h0:1≤a):0≤a:=Int.le_of_lt h0
theorem Kc {a:Nat}{b:Int}(h0:a=4)(h1:b<4):b.toNat<a:=h0▸(Int.toNat_lt' (by decide)).mpr h1
theorem Kb {a b c:Nat}(h0:a<b)(h1:c<a):c≠b:=YO (Nat.lt_trans h1 h0)
theorem Ka {a b:Nat}(h0:(a+(b+1))<PySem.cLine):a<PySem.cLine:=Nat.lt_of_add_right_lt h0
theorem J' {a b:Nat}(h0:a+1≤b):a≤b:=Nat.le_of_lt h0
theorem J_ {a b:Nat}(h0:a<b):¬a=b+1:=by lia -abstractProof
theorem J9 {a b:Nat}(h0:a=b+2):b<a:=by lia -abstractProof
theorem J8 {a:Nat}:¬a=a+1:=Nat.ne_add_one a
theorem K4 {a:Int}:a%2=0∨a%2=1:=Int.emod_two_eq a
theorem K3 {a:Int}(h0:0≤a):0≤a+1:=Int.le_add_one h0
theorem K2 {a:Int}(h0:a<((8:Nat):Int)):(a).toNat<8:=(Int.toNat_lt' (by decide)).mpr h0
theorem K1 {a:Nat}{b c:Int}(h0:a≤20)(h1:(b+c)<(a:Int)):(b+c)<100:=by lia -abstractProof
theorem K0 {a:Nat}{b c:Int}(h0:a≤20)(h1:0≤b)(h2:(c+b)≤(a:Int)):(c-1)<100:=Int.lt_of_lt_of_le (Int.sub_lt_self c (by decide)) (Int.le_trans (Int.le_add_of_nonneg_right h1) (Int.le_trans h2 (Int.le_trans (Int.ofNat_le.mpr h0) (by decide))))
theorem KZ {a b c:Nat}(h0:a+4≤b)(h1:c<a):c≠b:=by lia -abstractProof
theorem KY {a b c:Nat}(h0:a<b)(h1:b<c):c≠a:=Nat.ne_of_gt (Nat.lt_trans h0 h1)
theorem KW {a b c:Nat}(h0:a<b)(h1:c=b+1):a<c:=by lia -abstractProof
theorem KV {a b c:Nat}(h0:a=b+2)(h1:c<b):c<a:=by lia -abstractProof
theorem UU {a b:Nat}:a+1+b=a+(b+1):=Nat.succ_add_eq_add_succ a b
theorem KU {a b:Nat}(h0:a+4≤b):a≤b:=Nat.le_of_add_right_le h0
theorem KT {a b:Nat}(h0:1≤a):b+a-1+1=b+a:=Nat.sub_add_cancel (Ys h0 (Nat.le_add_left a b))
theorem KS {a b:Nat}(h0:a<b):a≠b+1:=by lia -abstractProof
theorem La {a:Nat}:((((a:Int)-1)+1)).toNat=a:=(congrArg Int.toNat (Int.sub_add_cancel (a:Int) 1)).trans (YQ a)
theorem K' {a:Nat}(h0:a<(2^8)):(a:Int)<256:=Int.ofNat_lt.mpr h0
theorem K_ {a:Nat}(h0:a≤1000):a≤16777216:=YU h0
theorem K9 {a:Nat}(h0:a≤11):a≤16777216:=YU h0
theorem K8 {a:Nat}(h0:a≤20):a<2^63:=YP h0 (by decide)
theorem K7 {a:Nat}:0≤(((4*a):Nat):Int):=Int.natCast_nonneg _
theorem K6 {a:Nat}:a<a+1:=Nat.lt_succ_self _
theorem K5 {a:Nat}:a≠a+1:=Nat.ne_add_one a
theorem Ot {a b:Int}{c:Nat}(h0:(a+b)<(c:Int)):(a+b)<(c:Int):=by omega
theorem Os {a b:Int}{c:Nat}(h0:0≤a)(h1:(b+a)≤(c:Int)):(b-1)<(c:Int):=by lia -abstractProof
theorem Oq {a b:Int}(h0:a+b<4):a+b<4:=by omega
theorem Op {a b:Int}(h0:0≤a)(h1:b+a≤4):b-1<4:=by lia -abstractProof
theorem Oo {a:Int}(h0:a=0∨a=1):0≤a:=by lia -abstractProof
theorem On {a:Int}(h0:0<a):a≠0:=Int.ne_of_gt h0
theorem Om {a:Int}:0≤a%256∧a%256<256:=⟨Int.emod_nonneg _ (by decide),Int.emod_lt_of_pos _ (by decide)⟩
theorem Ol {a:Int}(h0:0≤a)(h1:a<64) : -9223372036854775808≤a∧a<9223372036854775808:=⟨Int.le_trans (by decide) h0,Int.lt_of_lt_of_le h1 (by decide)⟩
theorem Oj {a:Int}(h0:a<128):a.toNat<128:=(Int.toNat_lt' (by decide)).mpr h0
theorem Oi {a:Int}(h0:a<128):a<256:=Int.lt_trans h0 (by decide)
theorem UW {a:Nat}{b:Int}(h0:a<(2^62))(h1:(-(a:Int))≤b):(-(2^63))≤b:=by lia -abstractProof
theorem UV {a:Nat}{b:Int}(h0:a<2^62)(h1:b.toNat<a):b<2^63:=Int.lt_of_le_of_lt (Int.self_le_toNat b) (Int.lt_of_lt_of_le (Int.ofNat_lt.mpr (Nat.lt_trans h1 h0)) (by decide))
theorem Oh {a b c d:Nat}(h0:a+1≤b+1)(h1:b≤c)(h2:d=a):c-a+d=c:=(congrArg ((c-a)+·) h2).trans (Nat.sub_add_cancel (Ys (Nat.le_of_succ_le_succ h0) h1))
theorem Og {a b c d:Nat}(h0:a<b)(h1:b<c)(h2:d=c+1):a≠d:=by lia -abstractProof
theorem Of {a b c d:Nat}(h0:a<b)(h1:b<c)(h2:d=c+2):a<d:=h2▸YG (Nat.lt_trans h0 h1) (Nat.le_add_right c 2)
theorem Oe {a b c d:Nat}(h0:a≤b)(h1:b<c)(h2:d<a):d≠c:=by lia -abstractProof
theorem Od {a b c:Nat}(h0:a+1≤b)(h1:c≤a):c+1≤b:=YP h1 h0
theorem Oc {a b c:Nat}(h0:0<(((a:Int)-(b:Int))+1)):(((a+1)-b)+c)=((a-b)+(c+1)):=(congrArg (·+c) (Nat.succ_sub (Int.ofNat_le.mp (Int.le_of_sub_nonneg (Int.le_of_lt_add_one h0))))).trans (Nat.succ_add_eq_add_succ (a-b) c)
theorem Ob {a b c:Nat}(h0:1≤a)(h1:b<c+1-a):b+a-1<c:=YG (Nat.sub_lt (YG h0 (Nat.le_add_left _ _)) Nat.one_pos) (Nat.le_of_lt_succ (Nat.add_lt_of_lt_sub h1))
theorem Oa {a b c:Nat}(h0:a<b)(h1:b<c):¬a=c:=YO (Nat.lt_trans h0 h1)
theorem N' {a b c:Nat}(h0:a<b)(h1:c<a):c<b:=Nat.lt_trans h1 h0
theorem N_ {a b c:Nat}(h0:a<b)(h1:c=b):a≠c:=by lia -abstractProof
theorem N9 {a b c:Nat}(h0:a=b+1)(h1:a≤c):b≤c:=by lia -abstractProof
theorem N8 {a b c:Nat}(h0:a=b)(h1:c<b):¬c=a:=by lia -abstractProof
theorem N7 {a b c:Nat}(h0:a≤8)(h1:b<a)(h2:c≤b+1):c<2^62:=by lia -abstractProof
theorem N6 {a b c:Nat}(h0:a≤b)(h1:b<c):a≤c:=Ys h0 (Nat.le_of_lt h1)
theorem N5 {a b c:Nat}(h0:a≤b)(h1:c≤a+1):c≤b+1:=by lia -abstractProof
theorem N4 {a b:Nat}:(((((a:Int)-(b:Int))+1)+(b:Int))).toNat=(a+1):=congrArg Int.toNat ((Int.add_right_comm _ _ _).trans (congrArg (·+1) (Int.sub_add_cancel (a:Int) b)))
theorem ND {a b:Nat}:(((((a:Int)-(b:Int))+1)-1)).toNat=(a-b):=(congrArg Int.toNat (Int.add_sub_cancel _ _)).trans (Int.toNat_sub a b)
theorem NC {a b:Nat}(h0:(a+(2*(b+1)))<PySem.recursionLimit):((a+1)+(2*b))<PySem.recursionLimit:=YP (Ys (Nat.le_of_eq (Nat.add_right_comm a 1 (2*b))) (Nat.le_succ _)) h0
theorem NB {a b:Nat}(h0:(a+(b+1))<PySem.cLine):((a+1)+b)<PySem.cLine:=by lia -abstractProof
theorem NA {a b:Nat}:a+1-(b+1)=a-b:=Nat.add_sub_add_right a 1 b
theorem Nz {a b:Nat}(h0:a+4≤b):a+2≠b:=by lia -abstractProof
theorem Ny {a b:Nat}(h0:a+4≤b):b≠a+1:=by lia -abstractProof
theorem Nx {a b:Nat}(h0:a+4≤b):b≠a+3:=Nat.ne_of_gt h0
theorem Nw {a b:Nat}(h0:a+4≤b):b≠a:=by lia -abstractProof
theorem Nv {a b:Nat}(h0:a+4≤b):¬a+1=b:=by lia -abstractProof
theorem Nu {a b:Nat}(h0:a+4≤b):¬a=b:=by lia -abstractProof
theorem Nt {a b:Nat}(h0:0<(((a:Int)-(b:Int))+1)):((a-b)+(b+1))=(a+1):=congrArg (fun x=>x+1) (Nat.sub_add_cancel (Int.ofNat_le.mp (Int.le_of_sub_nonneg (Int.le_of_lt_add_one h0))))
theorem Nr {a b:Nat}(h0:a<b):b+1-(a+1)<b+1-a:=Nat.sub_lt_sub_left (Nat.lt_succ_of_lt h0) (Nat.lt_succ_self a)
theorem Nq {a b:Nat}(h0:a<b):b+1≠a:=by lia -abstractProof
theorem Np {a b:Nat}(h0:a<b):b+2≠a:=by lia -abstractProof
theorem No {a b:Nat}(h0:a<b):a≠b+2:=by lia -abstractProof
theorem Nn {a b:Nat}(h0:a<b):a≠b+3:=YO (YG h0 (Nat.le_add_right b 3))
theorem Nm {a b:Nat}(h0:a<b):¬b=a:=Nat.ne_of_gt h0
theorem Nl {a b:Nat}(h0:a=b+1):b<a:=Nat.le_of_eq h0.symm
theorem Nk {a b:Nat}(h0:a=b+2):b+1<a:=Nat.le_of_eq h0.symm
theorem Nj {a b:Nat}(h0:a=4)(h1:b<4):b<a:=Nat.lt_of_lt_of_eq h1 (id (Eq.symm h0))
theorem Ni {a b:Nat}(h0:a=4)(h1:b≤a):b≤16777216:=by lia -abstractProof
theorem Nh {a b:Nat}(h0:a≤(b+1)):((((b+1)-a):Nat):Int)=(((b:Int)-(a:Int))+1):=(Int.ofNat_sub h0).trans (Int.add_right_comm (b:Int) 1 (-(a:Int)))
theorem Ng {a b:Nat}(h0:a≤(b+1)):0≤(((b:Int)-(a:Int))+1):=by lia -abstractProof
theorem Nf {a b:Nat}(h0:a≤20)(h1:b≤a):b≤20:=Ys h1 h0
theorem Nd {a b:Nat}(h0:a≤8)(h1:b≤a):b≤8:=Ys h1 h0
theorem N3 {a b:Nat}(h0:a≤b)(h1:b<a):False:=Nat.not_lt.mpr h0 h1
theorem N2 {a b:Nat}(h0:a≤b):b=a+(b-a):=Eq.symm (Nat.add_sub_of_le h0)
theorem N1 {a b:Nat}(h0:¬a=0):b+a-1+1=b+a:=Nat.sub_add_cancel (YG (Nat.pos_of_ne_zero h0) (Nat.le_add_left _ _))
theorem N0 {a b:Nat}:a≤a+b:=Nat.le_add_right _ _
theorem NZ {a:Nat}:(((-((-(a:Int))-1))-1)).toNat=a:=by lia -abstractProof
theorem NY {a:Nat}(h0:(a:Int)≤1000000):a≤1000000:=Int.ofNat_le.mp h0
theorem NX {a:Nat}:(-(a:Int))<1:=by lia -abstractProof
theorem NW {a:Nat}:0+a=a:=Nat.zero_add a
theorem NV {a:Nat}(h0:4≤a):3<a:=h0
theorem NU {a:Nat}:a+1≠a+2:=Nat.ne_add_one (a+1)
theorem NT {a:Nat}:a+1≠a+3:=by lia -abstractProof
theorem NS {a:Nat}:a+1≠a:=Nat.succ_ne_self _
theorem NR {a:Nat}:a+3≠a:=by lia -abstractProof
theorem NQ {a:Nat}(h0:a<128):a<2^8:=Nat.lt_add_right _ h0
theorem NP {a:Nat}(h0:a≤100):a≤16777216:=YU h0
theorem NO {a:Nat}(h0:a≤16):a≤16777216:=YU h0
theorem NN {a:Nat}(h0:a≤20):a<16777216:=YP h0 (by decide)
theorem NM {a:Nat}(h0:a≤20):a≤100:=YU h0
theorem NL {a:Nat}(h0:a≤63):a≤16777216:=YU h0
theorem NK {a:Nat}(h0:a≤8):a≤20:=YU h0
theorem NJ {a:Nat}:min 8 a≤16777216:=Ys (Nat.min_le_left 8 a) (by decide)
theorem NI {a:Nat}:a≠a+3:=by lia -abstractProof
theorem NH {a:Nat}:¬ ((0≤(((0:Nat):Int)-1))∧((((0:Nat):Int)-1)<(a:Int))):=YX rfl
theorem NG {a:Nat}:¬a+1=a+3:=by lia -abstractProof
theorem NF {a:Nat}:¬a+2=a+3:=Nat.ne_add_one (a+2)
theorem NE {a:Nat}:¬a+2=a:=by lia -abstractProof
theorem Nc {a:Nat}:¬a=a+3:=by lia -abstractProof
theorem UT (h0:1≤0):False:=Nat.not_succ_le_zero 0 h0
theorem US {a b c d e f g:Int}(h0:a*16+b=c)(h1:d*4+e=f):g*64*64+(c*64+f)=((g*4+a)*256+(b*16+d))*4+e:=by lia -abstractProof
theorem UR {a b c d e f:Int}(h0:a*16+b=c)(h1:d*64+e=f):c*256+f=(a*64+(b*4+d))*64+e:=by lia -abstractProof
theorem UQ {a b c d e f:Int}(h0:a*4+b=c)(h1:d*16+e=f):c*256+f=(a*64+(b*16+d))*16+e:=by lia -abstractProof
theorem UP {a b c d e:Int}:(((a*64+b)*64+c)*64+d)*64+e=((a*64+b)*64+c)*4096+(d*64+e):=by lia -abstractProof
theorem UO {a b c d e:Int}(h0:a*4+b=c):(d*64+c)*64+e=(d*16+a)*256+(b*64+e):=by lia -abstractProof
theorem UN {a b c d:Int}:((a*64+b)*64+c)*64+d=(a*64+b)*64*64+(c*64+d):=by lia -abstractProof
theorem UM {a b c:Int}:(a*256+b)%65536*256+c=((a*256+b)%65536-b)/256*65536+(b*256+c):=by lia -abstractProof
theorem UL {a b c:Int}:(a*64+b)*64+c=a*4096+(b*64+c):=by lia -abstractProof
theorem Ul {a b:Int}:(a+b-a).toNat=b.toNat:=by lia -abstractProof
theorem Uk {a b:Int}(h0:(a%4)=(b/2))(h1:0≤a)(h2:a<((8:Nat):Int)):(a=(b/2))∨(a=((b/2)+4)):=by lia -abstractProof
theorem Uj {a b:Int}:a*256+b=a*4*64+b:=by lia -abstractProof
theorem Ui {a b:Int}(h0:a+b<4):a+b<100:=Int.lt_trans h0 (by decide)
theorem Uh {a b:Int}(h0:a=b%64∨a=(b+1+b/64%63)%64):0≤a∧a<64:=h0.elim (fun e=>e▸⟨Int.emod_nonneg _ (by decide),Int.emod_lt_of_pos _ (by decide)⟩) (fun e=>e▸⟨Int.emod_nonneg _ (by decide),Int.emod_lt_of_pos _ (by decide)⟩)
theorem Ug {a b:Int}(h0:a=0∨a=1∧b<64∨a=2∧b<16∨a=3∧b<4)(h1:a≠0)(h2:a≠1)(h3:a≠2):a=3:=(((h0.resolve_left h1).resolve_left fun h=>h2 h.1).resolve_left fun h=>h3 h.1).1
theorem Uf {a b:Int}(h0:0≤a)(h1:b+a≤4):b-1<100:=Int.lt_of_lt_of_le (Int.sub_lt_self b (by decide)) (Int.le_trans (Int.le_add_of_nonneg_right h0) (Int.le_trans h1 (by decide)))
theorem Ue {a b:Int}(h0:0≤a)(h1:a<((8:Nat):Int))(h2:(b=(a/2))∨(b=((a/2)+4))):(b%4)=(a/2):=
 have e:a/2%4=a/2:=Int.emod_eq_of_lt (Int.ediv_nonneg h0 (by decide)) (Int.ediv_lt_of_lt_mul (by decide) h1)
 h2.elim (fun q=>q▸e) fun q=>q▸(Int.add_emod_right _ _).trans e
theorem Ud {a b:Int}(h0:0≤a)(h1:a<((8:Nat):Int)):(0≤((2*a)+(b%2)))∧(((2*a)+(b%2))<((16:Nat):Int)):=Int.mul_comm a 2▸Ii h0 h1 (Int.emod_nonneg b (by decide)) (Int.emod_lt_of_pos b (by decide)) rfl
theorem Uc {a b:Int}(h0:0≤a)(h1:a<64)(h2:0≤b)(h3:b<16):0≤b*16+a/4∧b*16+a/4<256:=Ii h2 h3 (Int.ediv_nonneg h0 (by decide)) (Int.ediv_lt_of_lt_mul (by decide) h1) rfl
theorem Ub {a b:Int}(h0:0≤a)(h1:a<64)(h2:0≤b)(h3:b<4):0≤b*64+a∧b*64+a<256:=Ii h2 h3 h0 h1 rfl
theorem Ua {a b:Int}(h0:0≤a)(h1:a<64)(h2:0≤b)(h3:b<64):0≤a*64+b∧a*64+b<4096:=Ii h0 h1 h2 h3 rfl
theorem T_ {a b:Int}(h0:0≤a)(h1:a<64)(h2:0≤b)(h3:b<64):0≤b*4+a/16∧b*4+a/16<256:=Ii h2 h3 (Int.ediv_nonneg h0 (by decide)) (Int.ediv_lt_of_lt_mul (by decide) h1) rfl
theorem T9 {a b:Int}(h0:0≤a):b≤b+a:=Int.le_add_of_nonneg_right h0
theorem T8 {a b:Int}(h0:¬a≤b):b≤a:=Int.le_of_not_le h0
theorem T7 {a:Int}{b:Nat}{c:Int}:min a.toNat (b-c.toNat)≤b:=Ys (Nat.min_le_right _ _) (Nat.sub_le _ _)
theorem T6 {a:Int}{b:Nat}(h0:(a+1)=(b:Int)):a=((b:Int)-1):=by lia -abstractProof
theorem T5 {a:Int}{b:Nat}:((max 0 (min a (b:Int)))).toNat≤b:=Int.toNat_le.mpr (Int.max_le.mpr ⟨Int.natCast_nonneg b,Int.min_le_right _ _⟩)
theorem T4 {a:Int}{b:Nat}(h0:0≤(a+(b:Int)))(h1:(a+(b:Int))<(b:Int)):(((a+(b:Int))).toNat<b)∧(((0≤a)∧((a).toNat=((a+(b:Int))).toNat))∨((a<0)∧(((-(b:Int))≤a)∧(((a+(b:Int))).toNat=((a+(b:Int))).toNat)))):=⟨(Int.toNat_lt h0).mpr h1,.inr ⟨by omega,by omega,rfl⟩⟩
theorem T3 {a:Int}{b:Nat}(h0:0≤a)(h1:(a).toNat<b):(0≤a)∧(a<(b:Int)):=⟨h0,(Int.toNat_lt h0).mp h1⟩
theorem T2 {a:Int}{b:Nat}(h0:0≤a)(h1:a<(b:Int)):((((b:Int)-1)-a)).toNat<b:=(Int.toNat_lt (Int.sub_nonneg_of_le (Int.le_sub_one_of_lt h1))).mpr (Int.lt_of_le_of_lt (Int.sub_le_self _ h0) (Int.sub_lt_self (b:Int) (by decide)))
theorem T1 {a:Int}{b:Nat}(h0:0≤a)(h1:a<(b:Int)):((a).toNat<b)∧(((0≤a)∧((a).toNat=(a).toNat))∨((a<0)∧(((-(b:Int))≤a)∧(((a+(b:Int))).toNat=(a).toNat)))):=⟨(Int.toNat_lt h0).mpr h1,.inl ⟨h0,rfl⟩⟩
theorem T0 {a:Int}{b:Nat}:(a+(((b+(0+1)):Nat):Int))=((a+(b:Int))+1):=by lia -abstractProof
theorem TZ {a:Int}{b:Nat}(h0:a<(b:Int)):(((b:Int)-1)-((((((b:Int)-1)-a)).toNat:Nat):Int))=a:=by rw [Int.toNat_of_nonneg (Int.sub_nonneg_of_le (Int.le_sub_one_of_lt h0)),Int.sub_sub_self]
theorem TY {a:Int}{b:Nat}(h0:a<(b:Int))(h1:(b:Int)≤a):False:=by lia -abstractProof
theorem TX {a:Int}{b:Nat}(h0:a<(b:Int)):a<(b:Int):=by omega
theorem UK {a:Int}{b:Nat}(h0:¬ ((0≤a)∧(a<(b:Int))))(h1:0≤a)(h2:(a).toNat<b):False:=h0 ⟨h1,(Int.toNat_lt h1).mp h2⟩
theorem UJ {a:Int}(h0 : -1≤a):0≤a+1:=Int.lt_add_one_of_le h0
theorem UI {a:Int}(h0:a=4∨a=3∨a=2∨a=1):1≤a∧a≤4:=by rcases h0 with rfl | rfl | rfl | rfl<;>decide
theorem UH {a:Int} : -2^64<a%65536:=by lia -abstractProof
theorem UG {a:Int}(h0:0≤a):(a+1).toNat=a.toNat+1:=PyProof.Rows.toNat_add_one_of_nonneg h0
theorem UF {a:Int}(h0:0≤a):(a+3).toNat=3+a.toNat:=(Int.toNat_add h0 (by decide)).trans (Nat.add_comm _ _)
theorem UE {a:Int}(h0:0≤a)(h1:a<((4:Nat):Int)):(0≤a)∧(a<4):=⟨h0,h1⟩
theorem UD {a:Int}(h0:0≤a)(h1:a<100) : -9223372036854775808≤a∧a<9223372036854775808:=⟨Int.le_trans (by decide) h0,Int.lt_trans h1 (by decide)⟩
theorem UC {a:Int}(h0:0≤a)(h1:a<4) : -9223372036854775808≤a∧a<9223372036854775808:=by lia -abstractProof
theorem UB {a:Int}(h0:0≤a):a=(((a).toNat:Nat):Int):=Int.eq_natCast_toNat.mpr h0
theorem UA {a:Int}(h0:0≤a):¬a<0:=Int.not_lt_of_ge h0
theorem Uz {a:Int}(h0:1≤a):(5-a).toNat≤16777216:=Int.toNat_le.mpr (Int.le_trans (Int.sub_le_self 5 (Int.le_trans (by decide) h0)) (by decide))
theorem Uy {a:Int}(h0:1≤a):(5-a).toNat≤5:=Int.toNat_le.mpr (Int.sub_le_self 5 (Int.le_trans (by decide) h0))
theorem Ux {a:Int}:a%16<16:=Int.emod_lt_of_pos _ (by decide)
theorem Uw {a:Int}:a%4<4:=Int.emod_lt_of_pos _ (by decide)
theorem Uv {a:Int}:a%65536<2^64:=by lia -abstractProof
theorem Uu {a:Int}(h0:a<((8:Nat):Int)):((a).toNat+1)<9:=Nat.succ_lt_succ ((Int.toNat_lt' (by decide)).mpr h0)
theorem Ut {a:Int}(h0:a<((8:Nat):Int)):(a).toNat<9:=Nat.lt_succ_of_le (Int.toNat_le.mpr (Int.le_of_lt h0))
theorem Us {a:Int}(h0:a<256):a.toNat<2^8:=(Int.toNat_lt' (by decide)).mpr h0
theorem Ur {a:Int}(h0:a<256):a<256:=by omega
theorem Uq {a:Int}(h0:a<64):a<64:=by omega
theorem Up {a:Int}(h0:a=1):a-1=0:=Int.sub_eq_zero.mpr h0
theorem Uo {a:Int}(h0:¬a.toNat<65):64≤a.toNat:=by lia -abstractProof
theorem Un {a:Int}(h0:¬a=1):¬a-1=0:=by lia -abstractProof
theorem Um {a:Int}:0≤a%16:=Int.emod_nonneg _ (by decide)
theorem TU {a:Int}:0≤a%4:=Int.emod_nonneg _ (by decide)
theorem TT {a:Nat}{b c:Int}(h0:a=4)(h1:0≤b)(h2:b<((((5-c)).toNat:Nat):Int)):(b+c)≤(a:Int):=by lia -abstractProof
theorem TQ {a:Nat}{b:Int}{c:Nat}(h0:(a:Int)>b)(h1:(c:Int)≤b):(c:Int)≤(a:Int):=by lia -abstractProof
theorem TP {a:Nat}{b:Int}{c:Nat}(h0:(a:Int)>b)(h1:(c:Int)≤b):c<a:=by lia -abstractProof
theorem TO {a:Nat}{b:Int}(h0:a≤16)(h1:b<((((a/4)*3):Nat):Int)):(9*b)≤(2^27):=Int.le_trans (Int.mul_le_mul_of_nonneg_left (Int.le_of_lt (Int.lt_of_lt_of_le h1 (Int.ofNat_le.mpr (Nat.mul_le_mul_right 3 (Nat.div_le_div_right h0))))) (by decide)) (by decide)
theorem TN {a:Nat}{b:Int}(h0:a≤16)(h1:b<((((a/4)*3):Nat):Int)):(b).toNat≤16:=Int.toNat_le.mpr (Int.le_trans (Int.le_of_lt h1) (Int.ofNat_le.mpr (Ys (Ys (Nat.mul_le_mul_left _ (by decide)) (Nat.div_mul_le_self a 4)) h0)))
theorem TM {a:Nat}{b:Int}(h0:a≤16)(h1:b<(a:Int)):(2*b)≤(2^27):=by lia -abstractProof
theorem TL {a:Nat}{b:Int}(h0:a≤16)(h1:b<(a:Int)):(b).toNat≤16:=Int.toNat_le.mpr (Int.le_trans (Int.le_of_lt h1) (Int.ofNat_le.mpr h0))
theorem TK {a:Nat}{b:Int}(h0:¬ ((a:Int)>b)):(a:Int)≤b:=Int.not_lt.mp h0
theorem TJ {a b:Nat}{c:Int}(h0:(a:Int)=((b:Int)-c)):(((a+1):Nat):Int)=((((b+1):Nat):Int)-c):=(congrArg (·+1) h0).trans (Int.add_right_comm (b:Int) 1 (-c)).symm
theorem Ti {a b:Nat}{c:Int}(h0:a<b)(h1:(((b:Int)-1)-(a:Int))=c):(0≤c)∧(c<(b:Int)):=h1▸⟨Int.sub_nonneg_of_le (Int.le_sub_one_of_lt (Int.ofNat_lt.mpr h0)),Int.lt_of_le_of_lt (Int.sub_le_self _ (Int.natCast_nonneg a)) (Int.sub_lt_self (b:Int) (by decide))⟩
theorem Th {a b:Nat}{c:Int}(h0:a<b)(h1:(a:Int)=c):(0≤c)∧(c<(b:Int)):=⟨h1▸Int.natCast_nonneg a,h1▸Int.ofNat_lt.mpr h0⟩
theorem Tg {a b c d e:Nat}(h0:a+(b+1)=c):a+(b-d+e)+1≤c+e:=
 h0▸Ys (Nat.succ_le_succ (Nat.add_le_add_left (Nat.add_le_add_right (Nat.sub_le b d) e) a)) (Nat.le_of_eq ((congrArg Nat.succ (Nat.add_assoc a b e).symm).trans (Nat.add_right_comm (a+b) e 1)))
theorem Tf {a b c d e:Nat}(h0:a+(b-1)<c)(h1:d+(b-1)<e):a+b≤c∧d+b≤e:=⟨Ys (Nat.add_le_add_left (Nat.le_add_of_sub_le (YE (b-1)):b≤b-1+1) a) h0,Ys (Nat.add_le_add_left (Nat.le_add_of_sub_le (YE (b-1)):b≤b-1+1) d) h1⟩
theorem Te {a b c d e:Nat}(h0:a≤b+500*c)(h1:d≤500)(h2:e≤a+d):e≤b+500*(c+(0+1)):=Ys (Ys h2 (Nat.add_le_add h0 h1)) (Nat.le_of_eq (Nat.add_assoc b (500*c) 500))
theorem Td {a b c d e:Nat}(h0:a≤100)(h1:b+1≤20)(h2:c≤a+500*b)(h3:d+1≤500)(h4:e≤c+d):e≤16777216:=Ys h4 (Ys (Nat.add_le_add (Ys h2 (Nat.add_le_add h0 (Nat.mul_le_mul_left 500 (Nat.le_of_succ_le_succ h1)))) (Nat.le_of_succ_le_succ h3)) (by decide))
theorem Tc {a b c d e:Nat}(h0:a≤20)(h1:b≤c)(h2:d=c+(e+1))(h3:d≤a):b≤16777216:=Ys h1 (Ys (Nat.le_add_right c (e+1)) (Ys (h2▸h3) (Ys h0 (by decide))))
theorem Tb {a b c d:Nat}(h:a<b∨a=b∧c<d+1):(a<b∨a=b∧c<d)∨a=b∧c=d:=
 h.elim (fun h=>.inl (.inl h)) fun h=>(Nat.lt_succ_iff_lt_or_eq.mp h.2).elim (fun x=>.inl (.inr ⟨h.1,x⟩)) fun x=>.inr ⟨h.1,x⟩
theorem Ta {a b c d:Nat}(h0:a+(b+1)=c):d+1+a+(b+1)=d+1+c:=by lia -abstractProof
theorem S_ {a b c d:Nat}(h0:a+b≤c)(h1:d+1≤a):d+(b+1)≤c:=by lia -abstractProof
theorem S9 {a b c d:Nat}(h0:(a+b)≤c)(h1:(d:Int)<(a:Int)):(d+b)≤c:=Ys (Nat.add_le_add_right (Nat.le_of_lt (Int.ofNat_lt.mp h1)) b) h0
theorem S8 {a b c d:Nat}(h0:a+b≤c)(h1:d<b):a+d<c:=by lia -abstractProof
theorem S7 {a b c d:Nat}(h0:a<b+1∨a=b+1∧c<0)(h1:¬(a<b∨a=b∧c<d))(h2:c<d):False:=
 h0.elim (fun h=>(Nat.lt_succ_iff_lt_or_eq.mp h).elim (fun x=>h1 (.inl x)) fun x=>h1 (.inr ⟨x,h2⟩)) fun h=>Nat.not_lt_zero _ h.2
theorem S6 {a b c d:Nat}(h0:min (a-b) a=c+(d+1)):c+1≤a-b:=Ys (Nat.add_le_add_left (Nat.le_add_left 1 d) c) (h0▸Nat.min_le_left _ _)
theorem S5 {a b c d:Nat}:a+b≤a+(c-d+b):=by lia -abstractProof
theorem S4 {a b c d:Nat}(h0:a<b):c+(b-(a+1)+d)+1=c+(b-a+d):=((congrArg (c+·) (Nat.succ_add (b-(a+1)) d)).symm).trans (congrArg (fun y=>c+(y+d)) (Nat.sub_add_cancel (Nat.sub_pos_of_lt h0)))
theorem S3 {a b c d:Nat}(h0:a≤b+c)(h1:b≤d+1):a≤d+(c+1):=by lia -abstractProof
theorem S2 {a b c d:Nat}(h0:a≤20)(h1:b≤a+1)(h2:c≤b+1)(h3:d≤c+1):d≤30:=Ys h3 (Nat.succ_le_succ (Ys h2 (Nat.succ_le_succ (Ys h1 (Nat.succ_le_succ (Ys h0 (by decide:20≤27)))))))
theorem S1 {a b c d:Nat}(h0:a≤b)(h1:c+3≤d)(h2:d<a):c+3≤d∧d<b+4:=⟨h1,YG h2 (Ys h0 (Nat.le_add_right b 4))⟩
theorem SZ {a b c d:Nat}(h0:a≤b)(h1:b≤c)(h2:d=c+3):a+3≤d∧d<c+4:=h2▸⟨Nat.add_le_add_right (Ys h0 h1) 3,Nat.lt_succ_self _⟩
theorem SY {a b c d:Nat}(h0:a≤b)(h1:c=b+3)(h2:d<a):d<c:=by lia -abstractProof
theorem SX {a b c:Nat}(h0:a+(b+1)=c):a+1+b=c:=by lia -abstractProof
theorem SW {a b c:Nat}(h0:a+1≤b-c):a≤b-(c+1):=Nat.le_pred_of_lt h0
theorem SV {a b c:Nat}(h0:a+1≤b)(h1:c+1=a):c+1≤b-1:=Nat.le_sub_one_of_lt (h1.symm▸h0:c+1<b)
theorem SU {a b c:Nat}(h0:a+4≤b)(h1:c=b):a≤c:=by lia -abstractProof
theorem ST {a b c:Nat}(h0:a+4≤b)(h1:c=b):¬a+1=c:=by lia -abstractProof
theorem TI {a b c:Nat}(h0:a+b=c)(h1:a≥c):a=c:=by lia -abstractProof
theorem TH {a b c:Nat}(h0:a+b=c)(h1:b=0):a=c:=by lia -abstractProof
theorem TG {a b c:Nat}(h0:a+b=c)(h1:b≠0):a+1+(b-1)=c:=by
 cases b with
 | zero=>exact absurd rfl h1
 | succ n=>exact (Nat.succ_add_eq_add_succ a n).trans h0
theorem TF {a b c:Nat}(h0:a+b≤c):min b (c-a)=b:=Nat.min_eq_left (Nat.le_sub_of_add_le' h0)
theorem TD {a b c:Nat}(h0:(a:Int)≤(b:Int))(h1:(c:Int)≤(a:Int)):c≤b:=by lia -abstractProof
theorem TC {a b c:Nat}(h0:4≤a)(h1:a=b)(h2:b<c):3<c:=by lia -abstractProof
theorem TB {a b c:Nat}(h0:a<b+1+c):a<b+(c+1):=by lia -abstractProof
theorem Tz {a b c:Nat}(h0:a<(2^62))(h1:b<c)(h2:c=a):(b:Int)<((2^63)-1):=Int.lt_of_lt_of_le (Int.ofNat_lt.mpr (Nat.lt_trans (h2▸h1:b<a) h0)) (by decide)
theorem Ty {a b c:Nat}(h0:a<min (b+1) c)(h1:min b c≤a):a=b:=Nat.le_antisymm (Nat.le_of_lt_succ (YG h0 (Nat.min_le_left _ _))) (Nat.le_of_not_lt fun h=>Nat.not_lt.mpr h1 (Nat.lt_min.mpr ⟨h,YG h0 (Nat.min_le_right _ _)⟩))
theorem Tx {a b c:Nat}(h0:a<b):((((a:Int)-(c:Int))+1)+(c:Int))≤(b:Int):=by lia -abstractProof
theorem Tw {a b c:Nat}(h0:a<b)(h1:b<c):a<b∧b<c+1:=by lia -abstractProof
theorem Tv {a b c:Nat}(h0:a<b)(h1:b<c):¬c=a:=Nat.ne_of_gt (Nat.lt_trans h0 h1)
theorem Tu {a b c:Nat}(h0:a<b)(h1:b≤c):a<c:=YG h0 h1
theorem Tt {a b c:Nat}(h0:a<b)(h1:c<a):c<b+1:=Nat.lt_succ_of_lt (Nat.lt_trans h1 h0)
theorem Ts {a b c:Nat}(h0:a<b)(h1:c=b+2):a<c:=by lia -abstractProof
theorem Tr {a b c:Nat}(h0:a<b)(h1:c=b+2):a≤c:=by lia -abstractProof
theorem Tq {a b c:Nat}(h0:a=b+1)(h1:c<b+1):¬c=a:=by lia -abstractProof
theorem Tp {a b c:Nat}(h0:a=b+2)(h1:a≤c):b+2≤c:=h0▸h1
theorem To {a b c:Nat}(h0:a=b+2)(h1:c<b):c≠a:=by lia -abstractProof
theorem Tn {a b c:Nat}(h0:a=b+2)(h1:c=a+1):c=b+3:=by lia -abstractProof
theorem Nb {a b c:Nat}(h0:a=4)(h1:b+1-c+c≤a):c≤4:=Ys (Nat.le_add_left c _) (h0▸h1)
theorem Tm {a b c:Nat}(h0:a=4)(h1:(b+c)≤a):((5-(c:Int))).toNat=((b+1)+((4-c)-b)):=by
 subst h0;exact (Int.toNat_sub 5 c).trans ((Nat.succ_sub (Ys (Nat.le_add_left c b) h1)).trans ((congrArg Nat.succ (Nat.add_sub_cancel' (Nat.le_sub_of_add_le h1)).symm).trans (Nat.succ_add b _).symm))
theorem Tl {a b c:Nat}(h0:a=4)(h1:(b:Int)<((((5-(c:Int))).toNat:Nat):Int)):(b+c)≤a:=h0▸Nat.le_of_lt_succ (Nat.add_lt_of_lt_sub (Nat.lt_of_lt_of_eq (Int.ofNat_lt.mp h1) (Int.toNat_sub 5 c)))
theorem Tk {a b c:Nat}(h0:a=4)(h1:b<a):((((b:Int)-(c:Int))+1)+(c:Int))≤4:=by lia -abstractProof
theorem Tj {a b c:Nat}(h0:a=4)(h1:b<a):b-c+0<4:=YP (Nat.sub_le b c) (h0▸h1)
theorem SS {a b c:Nat}(h0:a=b)(h1:b=c+2)(h2:a<c):False:=by lia -abstractProof
theorem SR {a b c:Nat}(h0:a≤8*b+c)(h1:c≤8):a≤8*(b+(0+1)):=Ys h0 (Nat.add_le_add_left h1 (8*b))
theorem SQ {a b c:Nat}(h0:a≤b+c):a+(0+1)≤b+(c+(0+1)):=Nat.add_le_add_right h0 (0+1)
theorem SP {a b c:Nat}(h0:a≤b+c):a≤b+(c+(0+1)):=Nat.le_succ_of_le h0
theorem SO {a b c:Nat}(h0:a≤100)(h1:b+c=a):b≤1000000:=by lia -abstractProof
theorem SN {a b c:Nat}(h0:a≤100)(h1:b+c=a):b≤16777216:=by lia -abstractProof
theorem SM {a b c:Nat}(h0:a≤100)(h1:a=b+(c+1)):b≤100:=by lia -abstractProof
theorem SL {a b c:Nat}(h0:a≤20)(h1:a=b+(c+1)):b≤20:=by lia -abstractProof
theorem SK {a b c:Nat}(h0:a≤20)(h1:b≤a+1)(h2:c≤b+1):c<1000:=by lia -abstractProof
theorem SJ {a b c:Nat}(h0:a≤20)(h1:b≤c)(h2:c≤a):b≤20:=by lia -abstractProof
theorem Sf {a b c:Nat}(h0:a≤9)(h1:b≤a-1+(0+1))(h2:c=3):c+(b-1)≤11:=h2▸Nat.add_le_add_left (Nat.sub_le_of_le_add (Ys h1 (Nat.add_le_add_right (Nat.sub_le_sub_right h0 1) 1))) 3
theorem Se {a b c:Nat}(h0:a≤b)(h1:((c+(20*b))+20)<PySem.cLine):((c+(20*a))+20)<PySem.cLine:=YP (Nat.add_le_add_right (Nat.add_le_add_left (Nat.mul_le_mul_left 20 h0) c) 20) h1
theorem Sd {a b c:Nat}(h0:a≤b)(h1:a-c=b):c=0∨b=0:=
 (Nat.eq_zero_or_pos c).imp_right fun hc=>(Nat.eq_zero_or_pos a).elim (fun ha=>h1.symm.trans (ha▸Nat.zero_sub c)) fun ha=>absurd h1 (YO (YG (Nat.sub_lt ha hc) h0))
theorem Sc {a b c:Nat}(h0:a≤b)(h1:(c+(2*b))<PySem.recursionLimit):(c+(2*a))<PySem.recursionLimit:=YP (Nat.add_le_add_left (Nat.mul_le_mul_left 2 h0) c) h1
theorem Sb {a b c:Nat}(h0:a≤b)(h1:b≤c):a≤c:=Ys h0 h1
theorem Sa {a b c:Nat}(h0:a≤b)(h1:c≤a):b=c+(b-c):=(Nat.add_sub_of_le (Ys h1 h0)).symm
theorem R_ {a b c:Nat}:min (a-b) (c-b)≤c:=Ys (Nat.min_le_right _ _) (Nat.sub_le _ _)
theorem R9 {a b:Nat}:(((((a+3):Nat):Int)-1)-(b:Int))=((((a:Int)-1)-(b:Int))+3):=by lia -abstractProof
theorem R8 {a b:Nat}(h0:((((a:Int)-(b:Int))+1)+(b:Int))<4):(a+1)<4:=by lia -abstractProof
theorem R7 {a b:Nat}(h0:((a+(20*(b+1)))+20)<PySem.cLine):(((a+1)+(20*b))+20)<PySem.cLine:=by lia -abstractProof
theorem R6 {a b:Nat}(h0:((a+(20*(b+1)))+20)<PySem.cLine):(((a+3)+(20*b))+20)<PySem.cLine:=YP (Nat.add_le_add_right (Ys (Nat.le_of_eq (Nat.add_assoc a 3 (20*b))) (Nat.add_le_add_left (Ys (Nat.le_of_eq (Nat.add_comm 3 (20*b))) (Nat.add_le_add_left (by decide) _)) a)) 20) h0
theorem R5 {a b:Nat}(h0:((a+(20*b))+20)<PySem.cLine):(a+(7+1))<PySem.cLine:=YP (Nat.add_le_add (Nat.le_add_right a (20*b)) (by decide)) h0
theorem R4 {a b:Nat}(h0:((a+(20*b))+20)<PySem.cLine):(a+8)<PySem.cLine:=YP (Nat.add_le_add (Nat.le_add_right a (20*b)) (by decide)) h0
theorem R3 {a b:Nat}:(((a:Int)-(b:Int))).toNat=(a-b):=Int.toNat_sub a b
theorem R2 {a b:Nat}:(((a:Int)-1)+((b:Int)*(-1)))=(((a:Int)-1)-(b:Int)):=by lia -abstractProof
theorem R1 {a b:Nat}(h0:4*a≤b):min (4*a) b=4*a:=Nat.min_eq_left h0
theorem R0 {a b:Nat}(h0:(a+(2*(b+1)))<PySem.recursionLimit):a<PySem.recursionLimit:=Nat.lt_of_add_right_lt h0
theorem RZ {a b:Nat}(h0:a+(b+1)≤20):a+1≤20:=by lia -abstractProof
theorem RY {a b:Nat}(h0:a+(b+1)≤500):a+1≤500:=by lia -abstractProof
theorem RX {a b:Nat}(h0:a+(b+1)≤b):False:=by lia -abstractProof
theorem RW {a b:Nat}(h0:a+1<b+1):a<b:=Nat.sub_le_of_le_add h0
theorem RV {a b:Nat}(h0:a+1≤b+1):a≤b:=Nat.le_of_lt_succ h0
theorem RU {a b:Nat}(h0:(a+1)≤b)(h1:¬ (a=0)):(0≤((a:Int)-1))∧(((a:Int)-1)<(b:Int)):=by lia -abstractProof
theorem RT {a b:Nat}(h0:a+1≤b):a<b:=h0
theorem RS {a b:Nat}(h0:a+1≤b):b=b-1+1:=(Nat.sub_add_cancel (Ys (Nat.le_add_left 1 a) h0)).symm
theorem SI {a b:Nat}(h0:a+3≤b):b≠0:=Nat.ne_zero_of_lt h0
theorem SH {a b:Nat}(h0:a+4≤b):a+1≠b:=by lia -abstractProof
theorem SG {a b:Nat}(h0:a+4≤b):a+3<b:=h0
theorem SF {a b:Nat}(h0:a+4≤b):a+3≠b:=YO h0
theorem SE {a b:Nat}(h0:a+4≤b):a+4≤b+1:=Nat.le_succ_of_le h0
theorem SD {a b:Nat}(h0:a+4≤b):a<b:=Nat.lt_of_add_right_lt h0
theorem SB {a b:Nat}(h0:a+4≤b):a≠b:=by lia -abstractProof
theorem SA {a b:Nat}(h0:a+4≤b):b≠a+2:=by lia -abstractProof
theorem Sz {a b:Nat}(h0:a+4≤b):¬a+2=b:=by lia -abstractProof
theorem Sy {a b:Nat}(h0:a+4≤b):¬a+3=b:=YO h0
theorem Sx {a b:Nat}(h0:a+4≤b):¬b=a+1:=by lia -abstractProof
theorem Sw {a b:Nat}(h0:a+4≤b):¬b=a+3:=Nat.ne_of_gt h0
theorem Sv {a b:Nat}(h0:a+4≤b):¬b=a:=by lia -abstractProof
theorem Su {a b:Nat}(h0:a-0=b):b≤a-0:=Nat.le_of_eq h0.symm
theorem Ss {a b:Nat}(h0:(a:Int)<(b:Int))(h1:¬ (a=0)):(0≤((a:Int)-1))∧(((a:Int)-1)<(b:Int)):=by lia -abstractProof
theorem Sr {a b:Nat}(h0:(a:Int)<(b:Int)):a<b:=Int.ofNat_lt.mp h0
theorem Sq {a b:Nat}(h0:(a:Int)≤(b:Int)):a≤b:=Int.ofNat_le.mp h0
theorem Sp {a b:Nat}:min 1 a+b≤b+1:=Ys (Nat.add_le_add_right (Nat.min_le_left 1 a) b) (Nat.le_of_eq (Nat.add_comm 1 b))
theorem So {a b:Nat}(h0:8=a+(b+1)):a≤8:=Nat.le.intro (id (Eq.symm h0))
theorem Sn {a b:Nat}:a+(b+1)=b+1+a:=Nat.add_comm _ _
theorem Sm {a b:Nat}(h0:a<(0+b)):(a:Int)<(b:Int):=by lia -abstractProof
theorem Sl {a b:Nat}(h0:a<b+1)(h1:a≥b):a=b:=Nat.eq_of_le_of_lt_succ h1 h0
theorem Sk {a b:Nat}(h0:a<b+1)(h1:¬a=b):a<b:=by lia -abstractProof
theorem Sj {a b:Nat}(h0:a<b+1):a≤b:=Nat.le_of_lt_succ h0
theorem Si {a b:Nat}(h0:a<1000)(h1:b≤a+1):b≤1000:=Ys h1 h0
theorem Sh {a b:Nat}(h0:a<900)(h1:b≤a+1):b<1000:=YP h1 (YP h0 (by decide))
theorem RQ {a b:Nat}(h0:a<b):min a b+1=min (a+1) b:=(congrArg (fun x=>x+1) (Nat.min_eq_left (Nat.le_of_lt h0))).trans (Nat.min_eq_left h0).symm
theorem RP {a b:Nat}(h0:a<b):b+3≠a:=by lia -abstractProof
theorem RO {a b:Nat}(h0:a<b):a<b:=by omega
theorem RN {a b:Nat}(h0:a<b):¬a=b+2:=by lia -abstractProof
theorem RM {a b:Nat}(h0:a<b):¬a=b+3:=by lia -abstractProof
theorem RL {a b:Nat}(h0:a=4*(b+1)):a-4*b=4:=Eq.symm (Nat.eq_sub_of_add_eq' (id (Eq.symm h0)))
theorem RK {a b:Nat}(h0:a=4*(b+1)):min (4*b) a=4*b:=Nat.min_eq_left (h0▸Nat.mul_le_mul_left 4 (Nat.le_succ b))
theorem RJ {a b:Nat}(h0:a=b+1):a≤b+1:=Nat.le_of_eq h0
theorem RI {a b:Nat}(h0:a=b+2):b+1≠a:=by lia -abstractProof
theorem RH {a b:Nat}(h0:a=b+2):b+2=a:=h0.symm
theorem Rk {a b:Nat}(h0:a=b+2):b≠a:=by lia -abstractProof
theorem Rj {a b:Nat}(h0:a=b+3):b+1<a:=by lia -abstractProof
theorem Ri {a b:Nat}(h0:a=b+3):b+2<a:=Nat.le_of_eq h0.symm
theorem Rh {a b:Nat}(h0:a=b+3):b<a:=by lia -abstractProof
theorem Rg {a b:Nat}(h0:a=b+4):b+4≤a:=Nat.le_of_eq h0.symm
theorem Rf {a b:Nat}(h0:a=4)(h1:¬b<4)(h2:b<a):False:=by lia -abstractProof
theorem Re {a b:Nat}(h0:a=8)(h1:b≤8*a):b≤500:=by lia -abstractProof
theorem Rd {a b:Nat}(h0:a=b)(h1:a<b):False:=by lia -abstractProof
theorem Rc {a b:Nat}(h0:a=b):a≤b:=Nat.le_of_eq h0
theorem Rb {a b:Nat}(h0:a=b):b<a+1:=h0▸Nat.lt_succ_self _
theorem Ra {a b:Nat}(h0:a≤b+1):b+1-a+a=b+1:=Nat.sub_add_cancel h0
theorem Q_ {a b:Nat}(h0:a≤b+1):a≤b+1:=by omega
theorem Q9 {a b:Nat}(h0:a≤1000):a+b*0≤16777216:=YU h0
theorem Q8 {a b:Nat}(h0:a≤1000)(h1:b≤a):b≤1000:=Ys h1 h0
theorem Q7 {a b:Nat}(h0:a≤1000):min b a≤16777216:=Ys (Nat.min_le_right _ _) (Ys h0 (by decide))
theorem Q6 {a b:Nat}(h0:a≤11)(h1:(((a:Int)/4)*4)=(((4*b):Nat):Int)):(((4*b)/4)*3)≤100:=Ys (Nat.mul_le_mul_right 3 (Ys (Nat.div_le_self _ _) (Ys (Nat.le_of_eq (Int.ofNat_inj.mp h1:a/4*4=4*b).symm) (Ys (Nat.div_mul_le_self a 4) h0)))) (by decide)
theorem Q5 {a b:Nat}(h0:a≤11)(h1:(((a:Int)/4)*4)=(((4*b):Nat):Int)):(4*b)≤1000:=Ys (Nat.le_of_eq (Int.ofNat_inj.mp h1:a/4*4=4*b).symm) (Ys (Nat.div_mul_le_self a 4) (Ys h0 (by decide)))
theorem Q4 {a b:Nat}(h0:a≤11)(h1:(((a:Int)/4)*4)=(((4*b):Nat):Int)):(4*b)≤16:=by lia -abstractProof
theorem Q3 {a b:Nat}(h0:a≤11)(h1:(((a:Int)/4)*4)=(((4*b):Nat):Int)):(4*b)≤16777216:=Int.ofNat_le.mp (h1▸Int.le_trans (Int.ediv_mul_le _ (by decide)) (Int.le_trans (Int.ofNat_le.mpr h0) (by decide)))
theorem Q2 {a b:Nat}(h0:a≤20)(h1:b≤a+1):b<1000:=by lia -abstractProof
theorem Q1 {a b:Nat}(h0:a≤20)(h1:b≤a):b+(0+1)≤16777216:=by lia -abstractProof
theorem Q0 {a b:Nat}(h0:a≤20)(h1:b≤a):b+(0+1)≤30:=by lia -abstractProof
theorem QZ {a b:Nat}(h0:a≤20)(h1:b≤a):b≤16777216:=Ys h1 (Ys h0 (by decide))
theorem QY {a b:Nat}(h0:a≤8)(h1:b+1≤a+(0+1)):3+b≤16777216:=by lia -abstractProof
theorem QX {a b:Nat}(h0:a≤8)(h1:b+1≤a+(0+1)):b+1<4611686018427387904:=by lia -abstractProof
theorem QW {a b:Nat}(h0:a≤8)(h1:b+1≤a+(0+1)):b≤16777216:=by lia -abstractProof
theorem RG {a b:Nat}(h0:a≤8)(h1:b≤8*a):b≤500:=by lia -abstractProof
theorem RF {a b:Nat}(h0:a≤8)(h1:b≤8):a+1+b≤20:=by lia -abstractProof
theorem RE {a b:Nat}(h0:a≤8)(h1:b≤a):b≤16777216:=Ys h1 (Ys h0 (by decide))
theorem RD {a b:Nat}(h0:a≤9)(h1:b≤a):b≤16777216:=Ys h1 (Ys h0 (by decide))
theorem RC {a b:Nat}(h0:a≤b):a+1≤b+1:=Nat.add_le_add_right h0 1
theorem RB {a b:Nat}(h0:a≤b)(h1:b≤20):a≤16777216:=Ys h0 (Ys h1 (by decide))
theorem RA {a b:Nat}(h0:a≤b):a≤b+1:=Nat.le_succ_of_le h0
theorem Rz {a b:Nat}:min a b≤a:=Nat.min_le_left _ _
theorem Ry {a b:Nat}(h0:¬ (a<b))(h1:¬ (b<a)):(a:Int)=(b:Int):=by lia -abstractProof
theorem Rx {a b:Nat}(h0:¬a=b)(h1:a<b+1):a<b:=by lia -abstractProof
theorem Rw {a:Nat}:(((((((a:Int)-1)-(-1))).toNat:Nat):Int)).toNat=a:=(YQ _).trans ((congrArg Int.toNat (Int.sub_add_cancel (a:Int) 1)).trans (YQ a))
theorem Rv {a:Nat}:((((((a:Int)/4)*3)-1)+1)).toNat=((a/4)*3):=(congrArg Int.toNat (Int.sub_add_cancel _ 1)).trans (YQ (a/4*3))
theorem Rt {a:Nat}:(((((a+3):Nat):Int)-1)-(((a+1):Nat):Int))=1:=by lia -abstractProof
theorem Rs {a:Nat}:(((((a+3):Nat):Int)-1)-(((a+2):Nat):Int))=0:=by lia -abstractProof
theorem Rr {a:Nat}:(((((a+3):Nat):Int)-1)-(a:Int))=2:=by lia -abstractProof
theorem Rq {a:Nat}(h0:(((a+1):Nat):Int)≤(a:Int)):False:=by lia -abstractProof
theorem Rp {a:Nat}:(((-1)+(a:Int))).toNat=(a-1):=(congrArg Int.toNat (Int.add_comm _ _)).trans (Int.toNat_sub a 1)
theorem Ro {a:Nat}(h0:((0:Nat):Int)=((a:Int)-0)):a=0:=Int.ofNat_eq_zero.mp h0.symm
theorem Rn {a:Nat}(h0:((0:Nat):Int)=((a:Int)-1)):(a:Int)=1:=(Int.sub_left_inj 1).mp h0.symm
theorem Rl {a:Nat}:(((a:Int)+1)).toNat=(a+1):=Int.toNat_natCast_add_one
theorem QV {a:Nat}(h0:((a:Int)-1)≤900000):a≤1000000:=by lia -abstractProof
theorem QU {a:Nat}:(((a:Int)/4)*4)=(((4*(a/4)):Nat):Int):=by lia -abstractProof
theorem QT {a:Nat}:((-((-(a:Int))-1))-1)=(a:Int):=by lia -abstractProof
theorem QS {a:Nat}:((0≤((-1)+((a:Int)+1)))∧(((-1)+((a:Int)+1))<((a:Int)+1)))∧((((-1)+((a:Int)+1))).toNat=a):=
 have e:(-1:Int)+((a:Int)+1)=a:=(congrArg ((-1:Int)+·) (Int.add_comm (a:Int) 1)).trans (Int.neg_add_cancel_left 1 a)
 e.symm▸⟨⟨Int.natCast_nonneg a,Int.lt_succ a⟩,YQ a⟩
theorem QQ {a:Nat}:4*a%4=0:=Nat.mul_mod_right 4 a
theorem QP {a:Nat}(h0:a+1≤0):False:=Nat.not_succ_le_zero a h0
theorem QO {a:Nat}(h0:a+1≤20):a≤20:=Nat.le_of_lt h0
theorem QN {a:Nat}(h0:a+1≤a):False:=by lia -abstractProof
theorem QM {a:Nat}:((a:Int)-0)=((((a+1):Nat):Int)-1):=Eq.symm ((fun {b a c}=>Int.sub_eq_iff_eq_add.mpr) rfl)
theorem QL {a:Nat}(h0:(a:Int)<(2^63)):¬ ((a:Int)≥(2^63)):=Int.not_le.mpr h0
theorem Qj {a:Nat}(h0:(a:Int)=(1-1)):a=0:=Int.ofNat_eq_zero.mp h0
theorem Qi {a:Nat}(h0:(a:Int)=0):a=0:=Int.ofNat_eq_zero.mp h0
theorem Qh {a:Nat}(h0:(a:Int)=61):a=61:=Int.ofNat_inj.mp h0
theorem Qg {a:Nat}:((max 0 (min ((-1)+(a:Int)) (a:Int)))).toNat=(a-1):=by
 cases a with
 | zero=>rfl
 | succ n=>
  have e:(-1:Int)+((n+1:Nat):Int)=(n:Int):=(Int.add_comm _ _).trans (Int.add_sub_cancel (n:Int) 1);rw [e,Int.min_eq_left (Int.ofNat_le.mpr (Nat.le_succ n)),Int.max_eq_right (Int.natCast_nonneg n)];rfl
theorem Qf {a:Nat}:(-(2^62))≤((a:Int)-1):=by lia -abstractProof
theorem Qe {a:Nat}:(-(2^62))≤(a:Int):=Int.natCast_nonneg _
theorem Qd {a:Nat}:(-1)≤((((a:Int)/4)*3)-1):=Int.le.intro (a/4*3) rfl
theorem Qc {a:Nat}:(0+((a:Int)*1))=(a:Int):=by lia -abstractProof
theorem Qb {a:Nat}(h0:0<a):(0≤((-1)+(a:Int)))∧(((-1)+(a:Int))<(a:Int)):=by lia -abstractProof
theorem Qa {a:Nat}(h0:1≤a):a-1<a:=Nat.sub_one_lt_of_lt h0
theorem P_ {a:Nat}(h0:3<a):¬3=a:=YO h0
theorem P9 {a:Nat}:4*(a/4)≤a:=Nat.mul_div_le a 4
theorem P8 {a:Nat}(h0:4≤a)(h1:3=a):False:=by lia -abstractProof
theorem P7 {a:Nat}(h0:4≤a)(h1:a≤3):False:=Nat.not_lt.mpr h1 h0
theorem P6 {a:Nat}:a+2≠a+1:=Nat.succ_ne_self _
theorem P5 {a:Nat}:a+2≠a+3:=Nat.ne_add_one (a+2)
theorem P4 {a:Nat}:a+2≠a:=by lia -abstractProof
theorem P3 {a:Nat}:a+3≠a+1:=by lia -abstractProof
theorem P2 {a:Nat}:a+3≠a+2:=Nat.succ_ne_self _
theorem P1 {a:Nat}(h0:a<(2^63)):¬ ((a:Int)≥(2^63)):=by lia -abstractProof
theorem P0 {a:Nat}(h0:a<128):(0≤(a:Int))∧((a:Int)<128):=⟨Int.natCast_nonneg a,Int.ofNat_lt.mpr h0⟩
theorem PZ {a:Nat}(h0:a<200):a/30+1≤300:=Ys (Nat.succ_le_succ (Nat.div_le_self a 30)) (Ys h0 (by decide))
theorem PY {a:Nat}(h0:a<900):a<1000:=YU h0
theorem PX {a:Nat}(h0:a<PySem.sizeLine):(a+1)≤PySem.sizeLine:=h0
theorem PW {a:Nat}(h0:a=16):min 8 a=8:=by lia -abstractProof
theorem QK {a:Nat}(h0:a=3):0≠a:=by lia -abstractProof
theorem QJ {a:Nat}(h0:a=3):1<a+1:=Nat.lt_of_sub_eq_succ h0
theorem QI {a:Nat}(h0:a=3):1≠a:=by lia -abstractProof
theorem QH {a:Nat}(h0:a=3):2<a+1:=by lia -abstractProof
theorem QG {a:Nat}(h0:a=3):2≠a:=by lia -abstractProof
theorem QF {a:Nat}(h0:a=4):4≤a:=Nat.le_of_eq h0.symm
theorem QE {a:Nat}(h0:a=4):a≤1000:=by lia -abstractProof
theorem QD {a:Nat}(h0:a=4):a≤16:=by lia -abstractProof
theorem QC {a:Nat}(h0:a≠0):a=a-1+1:=Eq.symm (Nat.succ_pred_eq_of_ne_zero h0)
theorem QB {a:Nat}(h0:a≤1000):a≤16777216+1:=Ys h0 (by decide)
theorem QA {a:Nat}(h0:a≤1000):¬a>16777216:=by lia -abstractProof
theorem Qz {a:Nat}(h0:a≤1000000):((a:Int)-1)<(2^62):=by lia -abstractProof
theorem Qy {a:Nat}(h0:a≤1000000):(a:Int)<(2^62):=by lia -abstractProof
theorem Qx {a:Nat}(h0:a≤1000000):a≤2^24:=Ys h0 (by decide)
theorem Qw {a:Nat}(h0:a≤11):a<2^63:=YP h0 (by decide)
theorem Qv {a:Nat}(h0:a≤11):a≤1000:=YU h0
theorem Qu {a:Nat}(h0:a≤11):a≤20:=YU h0
theorem Qs {a:Nat}(h0:a≤16):8*a<200:=YP (Nat.mul_le_mul_left 8 h0) (by decide)
theorem Qr {a:Nat}(h0:a≤16):a<200:=YP h0 (by decide)
theorem Qq {a:Nat}(h0:a≤20):a+(0+1)<2^62:=by lia -abstractProof
theorem Qp {a:Nat}(h0:a≤20):a+1<4096:=by lia -abstractProof
theorem Qo {a:Nat}(h0:a≤20):(a:Int)<(2^63):=by lia -abstractProof
theorem Qn {a:Nat}(h0:a≤20):a<1000:=YP h0 (by decide)
theorem Qm {a:Nat}(h0:a≤20):a<64:=YP h0 (by decide)
theorem Ql {a:Nat}(h0:a≤30):(a:Int)<(2^63):=by lia -abstractProof
theorem Qk {a:Nat}(h0:a≤300):¬a>300:=Nat.not_lt.mpr h0
theorem PV {a:Nat}(h0:a≤5):a<2^62:=YP h0 (by decide)
theorem PU {a:Nat}(h0:a≤64):((a:Int)+8)≤(2^27):=by lia -abstractProof
theorem PT {a:Nat}(h0:a≤8):a+1<4611686018427387904:=by lia -abstractProof
theorem PS {a:Nat}(h0:a≤8):a<2^62:=YP h0 (by decide)
theorem PR {a:Nat}(h0:a≤8):a≤100:=YU h0
theorem PQ {a:Nat}(h0:a≤8):a≤16777215:=YU h0
theorem PP {a:Nat}(h0:a≤8):a≤16777216:=YU h0
theorem PO {a:Nat}(h0:a≤9):a<2^62:=YP h0 (by decide)
theorem PN {a:Nat}(h0:a≤9):a≤16777216:=YU h0
theorem PM {a:Nat}(h0:a≤9):a≤9:=by omega
theorem z7d {a:Nat}(h0:¬ (((63:Nat):Int)<(a:Int))):a≤63:=by lia -abstractProof
theorem PL {a:Nat}:0<a+1:=Nat.succ_pos _
theorem PK {a:Nat}:1≤a+1:=Nat.succ_pos _
theorem PJ {a:Nat}:a≠a+2:=by lia -abstractProof
theorem PI {a:Nat}:a≤a+1+1:=Nat.le.step (Nat.le.step Nat.le.refl)
theorem PH {a:Nat}:a≤a+1:=Nat.le_succ _
theorem PG {a:Nat}:a≤a:=YE _
theorem PF {a:Nat}:¬a+1=a+2:=Nat.ne_add_one (a+1)
theorem PD {a:Nat}:¬a+1=a:=Nat.succ_ne_self _
theorem PC {a:Nat}:¬a+2=a+1:=Nat.succ_ne_self _
theorem PB {a:Nat}:¬a+3=a+1:=by lia -abstractProof
theorem PA {a:Nat}:¬a=a+2:=by lia -abstractProof
theorem iZ {α:Type}{C:Prop}{a:α}(h:none=some a):C:=nomatch h
theorem cc {α:Type}{C:Prop}{x:Option α}{a:α}(h:x=none)(e:x=some a):C:=iZ (h.symm.trans e)
theorem oF {C:Prop}(h:false=true):C:=nomatch h
theorem Pn {P Q R S T:Prop}{G:Prop}(k:P→Q→R→S→T→G)(h:P∧Q∧R∧S∧T):G:=k h.1 h.2.1 h.2.2.1 h.2.2.2.1 h.2.2.2.2
theorem aF {α:Type}{P Q:α→Prop}(a:α)(p1:P a)(q1:Q a):∃ a,P a∧Q a:=⟨a,p1,q1⟩
theorem eQ {α:Type}{P Q R:α→Prop}(a:α)(p1:P a)(q1:Q a)(r1:R a):∃ a,P a∧Q a∧R a:=⟨a,p1,q1,r1⟩
theorem BD {α:Type}{P Q R S:α→Prop}(a:α)(p1:P a)(q1:Q a)(r1:R a)(s1:S a):∃ a,P a∧Q a∧R a∧S a:=⟨a,p1,q1,r1,s1⟩
theorem Kp {α:Type}{P Q R S T:α→Prop}(a:α)(p1:P a)(q1:Q a)(r1:R a)(s1:S a)(t1:T a):∃ a,P a∧Q a∧R a∧S a∧T a:=⟨a,p1,q1,r1,s1,t1⟩
theorem uK {α:Type}{β:Type}{P:α→β→Prop}(a:α)(b:β)(p1:P a b):∃ a b,P a b:=⟨a,b,p1⟩
theorem gY {α:Type}{β:Type}{P Q:α→β→Prop}(a:α)(b:β)(p1:P a b)(q1:Q a b):∃ a b,P a b∧Q a b:=⟨a,b,p1,q1⟩
theorem lA {α:Type}{β:Type}{P Q R:α→β→Prop}(a:α)(b:β)(p1:P a b)(q1:Q a b)(r1:R a b):∃ a b,P a b∧Q a b∧R a b:=⟨a,b,p1,q1,r1⟩
theorem Vl {α:Type}{β:Type}{P Q R S T:α→β→Prop}(a:α)(b:β)(p1:P a b)(q1:Q a b)(r1:R a b)(s1:S a b)(t1:T a b):∃ a b,P a b∧Q a b∧R a b∧S a b∧T a b:=⟨a,b,p1,q1,r1,s1,t1⟩
theorem IU {α:Type}{β:Type}{P Q R S T U:α→β→Prop}(a:α)(b:β)(p1:P a b)(q1:Q a b)(r1:R a b)(s1:S a b)(t1:T a b)(u1:U a b):∃ a b,P a b∧Q a b∧R a b∧S a b∧T a b∧U a b:=⟨a,b,p1,q1,r1,s1,t1,u1⟩
theorem OC {α:Type}{β:Type}{γ:Type}{P:α→β→γ→Prop}(a:α)(b:β)(c:γ)(p1:P a b c):∃ a b c,P a b c:=⟨a,b,c,p1⟩
theorem OB {α:Type}{β:Type}{γ:Type}{P Q:α→β→γ→Prop}(a:α)(b:β)(c:γ)(p1:P a b c)(q1:Q a b c):∃ a b c,P a b c∧Q a b c:=⟨a,b,c,p1,q1⟩
theorem Ko {α:Type}{β:Type}{γ:Type}{P Q R:α→β→γ→Prop}(a:α)(b:β)(c:γ)(p1:P a b c)(q1:Q a b c)(r1:R a b c):∃ a b c,P a b c∧Q a b c∧R a b c:=⟨a,b,c,p1,q1,r1⟩
theorem Hv {α:Type}{β:Type}{γ:Type}{P Q R S:α→β→γ→Prop}(a:α)(b:β)(c:γ)(p1:P a b c)(q1:Q a b c)(r1:R a b c)(s1:S a b c):∃ a b c,P a b c∧Q a b c∧R a b c∧S a b c:=⟨a,b,c,p1,q1,r1,s1⟩
theorem Vk {α:Type}{β:Type}{γ:Type}{P Q R S T:α→β→γ→Prop}(a:α)(b:β)(c:γ)(p1:P a b c)(q1:Q a b c)(r1:R a b c)(s1:S a b c)(t1:T a b c):∃ a b c,P a b c∧Q a b c∧R a b c∧S a b c∧T a b c:=⟨a,b,c,p1,q1,r1,s1,t1⟩
theorem Vj {α:Type}{β:Type}{γ:Type}{δ:Type}{P:α→β→γ→δ→Prop}(a:α)(b:β)(c:γ)(d:δ)(p1:P a b c d):∃ a b c d,P a b c d:=⟨a,b,c,d,p1⟩
theorem Vi {α:Type}{β:Type}{γ:Type}{δ:Type}{P Q:α→β→γ→δ→Prop}(a:α)(b:β)(c:γ)(d:δ)(p1:P a b c d)(q1:Q a b c d):∃ a b c d,P a b c d∧Q a b c d:=⟨a,b,c,d,p1,q1⟩
theorem Vh {α:Type}{β:Type}{γ:Type}{δ:Type}{P Q R S:α→β→γ→δ→Prop}(a:α)(b:β)(c:γ)(d:δ)(p1:P a b c d)(q1:Q a b c d)(r1:R a b c d)(s1:S a b c d):∃ a b c d,P a b c d∧Q a b c d∧R a b c d∧S a b c d:=⟨a,b,c,d,p1,q1,r1,s1⟩
theorem Vg {α:Type}{β:Type}{γ:Type}{δ:Type}{P Q R S T U V:α→β→γ→δ→Prop}(a:α)(b:β)(c:γ)(d:δ)(p1:P a b c d)(q1:Q a b c d)(r1:R a b c d)(s1:S a b c d)(t1:T a b c d)(u1:U a b c d)(v1:V a b c d):∃ a b c d,P a b c d∧Q a b c d∧R a b c d∧S a b c d∧T a b c d∧U a b c d∧V a b c d:=⟨a,b,c,d,p1,q1,r1,s1,t1,u1,v1⟩
theorem Vf {α:Type}{β:Type}{γ:Type}{δ:Type}{P Q R S T U V X:α→β→γ→δ→Prop}(a:α)(b:β)(c:γ)(d:δ)(p1:P a b c d)(q1:Q a b c d)(r1:R a b c d)(s1:S a b c d)(t1:T a b c d)(u1:U a b c d)(v1:V a b c d)(x1:X a b c d):∃ a b c d,P a b c d∧Q a b c d∧R a b c d∧S a b c d∧T a b c d∧U a b c d∧V a b c d∧X a b c d:=⟨a,b,c,d,p1,q1,r1,s1,t1,u1,v1,x1⟩
theorem Ve {α:Type}{β:Type}{γ:Type}{δ:Type}{ε:Type}{P:α→β→γ→δ→ε→Prop}(a:α)(b:β)(c:γ)(d:δ)(e:ε)(p1:P a b c d e):∃ a b c d e,P a b c d e:=⟨a,b,c,d,e,p1⟩
theorem LQ {α:Type}{β:Type}{γ:Type}{δ:Type}{ε:Type}{P Q R S T U:α→β→γ→δ→ε→Prop}(a:α)(b:β)(c:γ)(d:δ)(e:ε)(p1:P a b c d e)(q1:Q a b c d e)(r1:R a b c d e)(s1:S a b c d e)(t1:T a b c d e)(u1:U a b c d e):∃ a b c d e,P a b c d e∧Q a b c d e∧R a b c d e∧S a b c d e∧T a b c d e∧U a b c d e:=⟨a,b,c,d,e,p1,q1,r1,s1,t1,u1⟩
theorem OA {α:Type}{β:Type}{γ:Type}{δ:Type}{ε:Type}{P Q R S T U V:α→β→γ→δ→ε→Prop}(a:α)(b:β)(c:γ)(d:δ)(e:ε)(p1:P a b c d e)(q1:Q a b c d e)(r1:R a b c d e)(s1:S a b c d e)(t1:T a b c d e)(u1:U a b c d e)(v1:V a b c d e):∃ a b c d e,P a b c d e∧Q a b c d e∧R a b c d e∧S a b c d e∧T a b c d e∧U a b c d e∧V a b c d e:=⟨a,b,c,d,e,p1,q1,r1,s1,t1,u1,v1⟩
theorem Vd {α:Type}{β:Type}{γ:Type}{δ:Type}{ε:Type}{ζ:Type}{η:Type}{P Q R S T:α→β→γ→δ→ε→ζ→η→Prop}(a:α)(b:β)(c:γ)(d:δ)(e:ε)(f:ζ)(g:η)(p1:P a b c d e f g)(q1:Q a b c d e f g)(r1:R a b c d e f g)(s1:S a b c d e f g)(t1:T a b c d e f g):∃ a b c d e f g,P a b c d e f g∧Q a b c d e f g∧R a b c d e f g∧S a b c d e f g∧T a b c d e f g:=⟨a,b,c,d,e,f,g,p1,q1,r1,s1,t1⟩
theorem pD {P Q:Prop}{G:Prop}(k:P→Q→G)(h:P∧Q):G:=k h.1 h.2
theorem e8 {P Q R:Prop}{G:Prop}(k:P→Q→R→G)(h:P∧Q∧R):G:=k h.1 h.2.1 h.2.2
theorem rO {P Q R S:Prop}{G:Prop}(k:P→Q→R→S→G)(h:P∧Q∧R∧S):G:=k h.1 h.2.1 h.2.2.1 h.2.2.2
theorem az {α:Type}{P Q:α→Prop}{G:Prop}(k:∀ a,P a→Q a→G)(h:∃ a,P a∧Q a):G:=h.elim fun a h=>k a h.1 h.2
theorem db {α:Type}{P Q R:α→Prop}{G:Prop}(k:∀ a,P a→Q a→R a→G)(h:∃ a,P a∧Q a∧R a):G:=h.elim fun a h=>k a h.1 h.2.1 h.2.2
theorem A1 {α:Type}{P Q R S:α→Prop}{G:Prop}(k:∀ a,P a→Q a→R a→S a→G)(h:∃ a,P a∧Q a∧R a∧S a):G:=h.elim fun a h=>k a h.1 h.2.1 h.2.2.1 h.2.2.2
theorem GY {α:Type}{P Q R S T:α→Prop}{G:Prop}(k:∀ a,P a→Q a→R a→S a→T a→G)(h:∃ a,P a∧Q a∧R a∧S a∧T a):G:=h.elim fun a h=>k a h.1 h.2.1 h.2.2.1 h.2.2.2.1 h.2.2.2.2
theorem jE {α:Type}{β:Type}{P:α→β→Prop}{G:Prop}(k:∀ a b,P a b→G)(h:∃ a b,P a b):G:=h.elim fun a h=>h.elim fun b h=>k a b h
theorem cS {α:Type}{β:Type}{P Q:α→β→Prop}{G:Prop}(k:∀ a b,P a b→Q a b→G)(h:∃ a b,P a b∧Q a b):G:=h.elim fun a h=>h.elim fun b h=>k a b h.1 h.2
theorem gf {α:Type}{β:Type}{P Q R:α→β→Prop}{G:Prop}(k:∀ a b,P a b→Q a b→R a b→G)(h:∃ a b,P a b∧Q a b∧R a b):G:=h.elim fun a h=>h.elim fun b h=>k a b h.1 h.2.1 h.2.2
theorem Pk {α:Type}{β:Type}{P Q R S:α→β→Prop}{G:Prop}(k:∀ a b,P a b→Q a b→R a b→S a b→G)(h:∃ a b,P a b∧Q a b∧R a b∧S a b):G:=h.elim fun a h=>h.elim fun b h=>k a b h.1 h.2.1 h.2.2.1 h.2.2.2
theorem MO {α:Type}{β:Type}{γ:Type}{P:α→β→γ→Prop}{G:Prop}(k:∀ a b c,P a b c→G)(h:∃ a b c,P a b c):G:=h.elim fun a h=>h.elim fun b h=>h.elim fun c h=>k a b c h
theorem GX {α:Type}{β:Type}{γ:Type}{P Q:α→β→γ→Prop}{G:Prop}(k:∀ a b c,P a b c→Q a b c→G)(h:∃ a b c,P a b c∧Q a b c):G:=h.elim fun a h=>h.elim fun b h=>h.elim fun c h=>k a b c h.1 h.2
theorem MN {α:Type}{β:Type}{γ:Type}{P Q R:α→β→γ→Prop}{G:Prop}(k:∀ a b c,P a b c→Q a b c→R a b c→G)(h:∃ a b c,P a b c∧Q a b c∧R a b c):G:=h.elim fun a h=>h.elim fun b h=>h.elim fun c h=>k a b c h.1 h.2.1 h.2.2
theorem fD {α:Type}{β:Type}{γ:Type}{P Q R S:α→β→γ→Prop}{G:Prop}(k:∀ a b c,P a b c→Q a b c→R a b c→S a b c→G)(h:∃ a b c,P a b c∧Q a b c∧R a b c∧S a b c):G:=h.elim fun a h=>h.elim fun b h=>h.elim fun c h=>k a b c h.1 h.2.1 h.2.2.1 h.2.2.2
theorem Pj {α:Type}{β:Type}{γ:Type}{P Q R S T:α→β→γ→Prop}{G:Prop}(k:∀ a b c,P a b c→Q a b c→R a b c→S a b c→T a b c→G)(h:∃ a b c,P a b c∧Q a b c∧R a b c∧S a b c∧T a b c):G:=h.elim fun a h=>h.elim fun b h=>h.elim fun c h=>k a b c h.1 h.2.1 h.2.2.1 h.2.2.2.1 h.2.2.2.2
theorem KJ {α:Type}{β:Type}{γ:Type}{δ:Type}{P:α→β→γ→δ→Prop}{G:Prop}(k:∀ a b c d,P a b c d→G)(h:∃ a b c d,P a b c d):G:=h.elim fun a h=>h.elim fun b h=>h.elim fun c h=>h.elim fun d h=>k a b c d h
theorem MM {α:Type}{β:Type}{γ:Type}{δ:Type}{P Q:α→β→γ→δ→Prop}{G:Prop}(k:∀ a b c d,P a b c d→Q a b c d→G)(h:∃ a b c d,P a b c d∧Q a b c d):G:=h.elim fun a h=>h.elim fun b h=>h.elim fun c h=>h.elim fun d h=>k a b c d h.1 h.2
theorem KH {α:Type}{β:Type}{γ:Type}{δ:Type}{P Q R S:α→β→γ→δ→Prop}{G:Prop}(k:∀ a b c d,P a b c d→Q a b c d→R a b c d→S a b c d→G)(h:∃ a b c d,P a b c d∧Q a b c d∧R a b c d∧S a b c d):G:=h.elim fun a h=>h.elim fun b h=>h.elim fun c h=>h.elim fun d h=>k a b c d h.1 h.2.1 h.2.2.1 h.2.2.2
theorem WC {α:Type}{β:Type}{γ:Type}{δ:Type}{P Q R S T:α→β→γ→δ→Prop}{G:Prop}(k:∀ a b c d,P a b c d→Q a b c d→R a b c d→S a b c d→T a b c d→G)(h:∃ a b c d,P a b c d∧Q a b c d∧R a b c d∧S a b c d∧T a b c d):G:=h.elim fun a h=>h.elim fun b h=>h.elim fun c h=>h.elim fun d h=>k a b c d h.1 h.2.1 h.2.2.1 h.2.2.2.1 h.2.2.2.2
theorem WB {α:Type}{β:Type}{γ:Type}{δ:Type}{P Q R S T U V:α→β→γ→δ→Prop}{G:Prop}(k:∀ a b c d,P a b c d→Q a b c d→R a b c d→S a b c d→T a b c d→U a b c d→V a b c d→G)(h:∃ a b c d,P a b c d∧Q a b c d∧R a b c d∧S a b c d∧T a b c d∧U a b c d∧V a b c d):G:=h.elim fun a h=>h.elim fun b h=>h.elim fun c h=>h.elim fun d h=>k a b c d h.1 h.2.1 h.2.2.1 h.2.2.2.1 h.2.2.2.2.1 h.2.2.2.2.2.1 h.2.2.2.2.2.2
theorem Pi {α:Type}{β:Type}{γ:Type}{δ:Type}{ε:Type}{P:α→β→γ→δ→ε→Prop}{G:Prop}(k:∀ a b c d e,P a b c d e→G)(h:∃ a b c d e,P a b c d e):G:=h.elim fun a h=>h.elim fun b h=>h.elim fun c h=>h.elim fun d h=>h.elim fun e h=>k a b c d e h
theorem Ph {α:Type}{β:Type}{γ:Type}{δ:Type}{ε:Type}{P Q R S T U:α→β→γ→δ→ε→Prop}{G:Prop}(k:∀ a b c d e,P a b c d e→Q a b c d e→R a b c d e→S a b c d e→T a b c d e→U a b c d e→G)(h:∃ a b c d e,P a b c d e∧Q a b c d e∧R a b c d e∧S a b c d e∧T a b c d e∧U a b c d e):G:=h.elim fun a h=>h.elim fun b h=>h.elim fun c h=>h.elim fun d h=>h.elim fun e h=>k a b c d e h.1 h.2.1 h.2.2.1 h.2.2.2.1 h.2.2.2.2.1 h.2.2.2.2.2
theorem WA {α:Type}{β:Type}{γ:Type}{δ:Type}{ε:Type}{P Q R S T U V:α→β→γ→δ→ε→Prop}{G:Prop}(k:∀ a b c d e,P a b c d e→Q a b c d e→R a b c d e→S a b c d e→T a b c d e→U a b c d e→V a b c d e→G)(h:∃ a b c d e,P a b c d e∧Q a b c d e∧R a b c d e∧S a b c d e∧T a b c d e∧U a b c d e∧V a b c d e):G:=h.elim fun a h=>h.elim fun b h=>h.elim fun c h=>h.elim fun d h=>h.elim fun e h=>k a b c d e h.1 h.2.1 h.2.2.1 h.2.2.2.1 h.2.2.2.2.1 h.2.2.2.2.2.1 h.2.2.2.2.2.2
theorem Wz {α:Type}{β:Type}{γ:Type}{δ:Type}{ε:Type}{ζ:Type}{η:Type}{P Q R S T:α→β→γ→δ→ε→ζ→η→Prop}{G:Prop}(k:∀ a b c d e f g,P a b c d e f g→Q a b c d e f g→R a b c d e f g→S a b c d e f g→T a b c d e f g→G)(h:∃ a b c d e f g,P a b c d e f g∧Q a b c d e f g∧R a b c d e f g∧S a b c d e f g∧T a b c d e f g):G:=h.elim fun a h=>h.elim fun b h=>h.elim fun c h=>h.elim fun d h=>h.elim fun e h=>h.elim fun f h=>h.elim fun g h=>k a b c d e f g h.1 h.2.1 h.2.2.1 h.2.2.2.1 h.2.2.2.2
theorem Wy {α:Type}{β:Type}{γ:Type}{δ:Type}{ε:Type}{ζ:Type}{η:Type}{θ:Type}{P Q R S T:α→β→γ→δ→ε→ζ→η→θ→Prop}{G:Prop}(k:∀ a b c d e f g i,P a b c d e f g i→Q a b c d e f g i→R a b c d e f g i→S a b c d e f g i→T a b c d e f g i→G)(h:∃ a b c d e f g i,P a b c d e f g i∧Q a b c d e f g i∧R a b c d e f g i∧S a b c d e f g i∧T a b c d e f g i):G:=h.elim fun a h=>h.elim fun b h=>h.elim fun c h=>h.elim fun d h=>h.elim fun e h=>h.elim fun f h=>h.elim fun g h=>h.elim fun i h=>k a b c d e f g i h.1 h.2.1 h.2.2.1 h.2.2.2.1 h.2.2.2.2
theorem jR {M:Model}{Γ:Ctx}{p:Pos}{t:Sem Fin}{fs:List Frame}{s:Shared}{e:End}{s':Shared}(r:Runs M Γ p t fs s e s'):s.toks≤s'.toks:=by
 induction r<;>first
  | exact YE _
  | assumption
  | lia -abstractProof
  | (simp only [Shared.setGen] at*;exact Sb a_ih a_ih_1)
theorem pS {M:Model}{Γ:Ctx}{p:Pos}{s:Shared}{r:Result}{s':Shared}(x:Returns M Γ p s r s'):s.toks≤s'.toks:=jR x
theorem uc {M:Model}{Γ:Ctx}{p:Pos}{g:Nat}{r:Resume}{s:Shared}{res:GenResult}{s':Shared}(x:Wakes M Γ p g r s res s'):s.toks≤s'.toks:=by
 unfold Wakes at x;split at x
 ·exact x.elim
 ·split at x
  ·obtain ⟨x_,s₁,h,_,_,rfl⟩:=x;have:=jR h;simpa [Shared.setGen] using this
  ·obtain ⟨_,rfl⟩:=x;exact YE _
  ·obtain ⟨_,rfl⟩:=x;exact YE _
 ·obtain ⟨x_,s₁,h,_,_,rfl⟩:=x;have:=jR h;simpa [Shared.setGen] using this
 ·obtain ⟨_,rfl⟩:=x;exact YE _
 ·obtain ⟨_,rfl⟩:=x;exact YE _
theorem X6 {α:Type}{M:Model}{Γ:Ctx}{Q:α→Pos→Shared→Prop}{E:Value→Pos→Shared→Prop}(n:Nat):∀ (t:Sem α) (p:Pos) (s:Shared),n≤s.toks→Sem.wp M Γ t Q E p s→Sem.wp M Γ t (fun a p' s'=>Q a p' s'∧n≤s'.toks) (fun e p' s'=>E e p' s'∧n≤s'.toks) p s:=by
 intro t
 induction t with
 | pure a=>intro p s l h;rw [Sem.wp] at h ⊢;exact ⟨h,l⟩
 | raise e=>intro p s l h;rw [Sem.wp] at h ⊢;exact ⟨h,l⟩
 | rule _ k ih=>intro p s l h;rw [Sem.wp] at h ⊢;exact ih _ _ _ l h
 | «at» p' k ih=>intro p s l h;rw [Sem.wp] at h ⊢;exact ih _ _ _ l h
 | load a _ k ih=>intro p s l h;rw [Sem.wp] at h ⊢;obtain ⟨o,e,h⟩:=h;exact ⟨o,e,ih _ _ _ l h⟩
 | update a _ f k ih=>intro p s l h;rw [Sem.wp] at h ⊢;exact ⟨h.1,ih _ _ _ l h.2⟩
 | loadIfAlive a k ih=>intro p s l h;rw [Sem.wp] at h ⊢;exact ih _ _ _ l h
 | point _ k ih=>intro p s l h;rw [Sem.wp] at h ⊢;exact ih _ _ _ l h
 | alloc o k ih=>intro p s l h;rw [Sem.wp] at h ⊢;exact ih _ _ _ l h
 | fresh k ih=>intro p s l h;rw [Sem.wp] at h ⊢;exact ih _ _ _ (Nat.le_succ_of_le l) h
 | ask k ih=>intro p s l h;rw [Sem.wp] at h ⊢;exact ih _ _ _ l h
 | choose src m k ih=>intro p s l h;rw [Sem.wp] at h ⊢;exact ⟨h.1,ih _ _ _ l h.2⟩
 | os q _ k ih=>intro p s l h;rw [Sem.wp] at h ⊢;exact ih _ _ _ l h
 | call c hh _ _ k ih=>
  intro p s l h;rw [Sem.wp] at h ⊢;obtain ⟨r,s',x,h⟩:=h;exact ⟨r,s',x,ih _ _ _ (Ys l (pS x)) h⟩
 | handled own k ih=>intro p s l h;rw [Sem.wp] at h ⊢;exact ih _ _ _ l h
 | genState g k ih=>intro p s l h;rw [Sem.wp] at h ⊢;obtain ⟨st,e,h⟩:=h;exact ⟨st,e,ih _ _ _ l h⟩
 | newGen c k ih=>intro p s l h;rw [Sem.wp] at h ⊢;exact ih _ _ _ l h
 | resume g r _ k ih=>
  intro p s l h;rw [Sem.wp] at h ⊢;obtain ⟨res,s',x,h⟩:=h;exact ⟨res,s',x,ih _ _ _ (Ys l (uc x)) h⟩
 | stack k ih=>intro p s l h;rw [Sem.wp] at h ⊢;exact ih _ _ _ l h
 | thread k ih=>intro p s l h;rw [Sem.wp] at h ⊢;exact ih _ _ _ l h
 | _=>intro p s l h;rw [Sem.wp] at h;exact h.elim
theorem Xl {α:Type}{M:Model}{A:Around}{t:Sem α}{Q:α→Shared→Prop}{E:Value→Shared→Prop}{s:Shared}(h:wpAny M A t Q E s):wpAny M A t (fun a s'=>Q a s'∧s.toks≤s'.toks) (fun e s'=>E e s'∧s.toks≤s'.toks) s:=
 fun Γ p Vq=>X6 s.toks t p s (YE _) (h Γ p Vq)
theorem d9 {α:Type}{M:Model}{A:Around}{t:Sem α}{Q:α→Shared→Prop}{E:Value→Shared→Prop}{s:Shared}(h:wpAny M A t (fun a s'=>s.toks≤s'.toks→Q a s') (fun e s'=>s.toks≤s'.toks→E e s') s):wpAny M A t Q E s:=
 wpAny_mono (Xl h) (fun χ χ z=>z.1 z.2) fun χ χ z=>z.1 z.2
theorem Ht {α:Type}{n:Nat}{vs:List α}(h:vs.length=n+1):∃ a l,vs=a::l∧l.length=n:=by
 cases vs with
 | nil=>cases h
 | cons a l=>exact gY a l rfl (Nat.succ.inj h)
theorem eJ {α:Type}{vs:List α}(h:vs.length=1):∃ a0,vs=[a0]:=by
 refine cS (fun a l e h=>⟨a,?_⟩) (Ht h);exact rv e (rv (List.eq_nil_of_length_eq_zero h) rfl)
theorem ka {α:Type}{vs:List α}(h:vs.length=2):∃ a0 a1,vs=[a0,a1]:=by
 refine cS (fun a l e h=>?_) (Ht h);exact (eJ h).elim fun b h=>uK a b (rv e (rv h rfl))
theorem F4 {α:Type}{vs:List α}(h:vs.length=3):∃ a0 a1 a2,vs=[a0,a1,a2]:=by
 refine cS (fun a l e h=>?_) (Ht h);refine jE (fun b c h=>?_) (ka h);exact OC a b c (rv e (rv h rfl))
theorem CT {α:Type}{vs:List α}(h:vs.length=4):∃ a0 a1 a2 a3,vs=[a0,a1,a2,a3]:=by
 refine cS (fun a l e h=>?_) (Ht h);refine MO (fun b c d h=>?_) (F4 h);exact Vj a b c d (rv e (rv h rfl))
theorem IV {α:Type}{vs:List α}(h:vs.length=5):∃ a0 a1 a2 a3 a4,vs=[a0,a1,a2,a3,a4]:=by
 refine cS (fun a l e h=>?_) (Ht h);refine KJ (fun b c d f h=>?_) (CT h);exact Ve a b c d f (rv e (rv h rfl))
inductive D where
 | none
 | bool (b:Bool)
 | int (i:Int)
 | str (s:Str)
 | bytes (b:Array UInt8)
 | list (xs:List D)
 | tup (xs:List D)
 | ip (a b c:Int)
 | val (v:Value)
 | loc (n:Nat)
 | jK (d:D)(id:String)
 | inst (C:Addr)(xs:List D)
 | ca (s:Str)(t:Tok)
 deriving Inhabited
structure Pl where
 ok:Addr→Prop
 loc:List Addr
noncomputable def ni:Value→Bool
 | .type _ | .builtin _ | .ref _=>true
 | _=>false
mutual
inductive W_ (P:Pl)(h:Heap):D→Value→Prop where
 | none:W_ P h .none .none
 | bool (b:Bool):W_ P h (.bool b) (.bool b)
 | int (i:Int)(t:Tok):W_ P h (.int i) (.int i t)
 | str (s:Str)(t:Tok):W_ P h (.str s) (.str s t)
 | bytes (b:Array UInt8)(t:Tok):W_ P h (.bytes b) (.bytes b t)
 | list (xs:List D)(a:Addr)(vs:List Value)(n:Nat)(p:P.ok a)(o:h.get? a=some { cls:=.type "list",data:=.seq vs.toArray n })(r:au P h xs vs):W_ P h (.list xs) (.ref a)
 | tup (xs:List D)(a:Addr)(vs:List Value)(n:Nat)(p:P.ok a)(o:h.get? a=some { cls:=.type "tuple",data:=.seq vs.toArray n })(r:au P h xs vs):W_ P h (.tup xs) (.ref a)
 | ip (a b c:Int)(r:Addr)(t u v:Tok)(p:P.ok r)(o:IsRange h r a b c t u v):W_ P h (.ip a b c) (.ref r)
 | val (v:Value)(f:ni v=true):W_ P h (.val v) v
 | loc (n:Nat)(a:Addr)(e:P.loc[n]? = some a):W_ P h (.loc n) (.ref a)
 | jK (d:D)(id:String)(a:Addr)(v:Value)(T:String)(hT:T="builtin_function_or_method"∨T="method-wrapper")(p:P.ok a)(o:h.get? a=some { cls:=.type T,data:=.fields #[.builtin id,v] })(r:W_ P h d v):W_ P h (.jK d id) (.ref a)
 | inst (C:Addr)(xs:List D)(a:Addr)(vs:List Value)(n:Nat)(dd:Option Addr)(p:P.ok a)(o:h.get? a=some { cls:=.ref C,dict:=dd,data:=.seq vs.toArray n })(r:au P h xs vs):W_ P h (.inst C xs) (.ref a)
 | ca (s:Str)(t:Tok):W_ P h (.ca s t) (.str s t)
inductive au (P:Pl)(h:Heap):List D→List Value→Prop where
 | nil:au P h [] []
 | cons (d:D)(v:Value)(ds:List D)(vs:List Value)(x:W_ P h d v)(r:au P h ds vs):au P h (d::ds) (v::vs)
end
theorem W_.keeps {P P':Pl}{h h':Heap}(l:∀ (n:Nat) (a:Addr),P.loc[n]? = some a→P'.loc[n]? = some a)(k:∀ a o,P.ok a→h.get? a=some o→P'.ok a∧h'.get? a=some o){d v}(x:W_ P h d v):W_ P' h' d v:=
 W_.rec (motive_1:=fun d v χ=>W_ P' h' d v) (motive_2:=fun ds vs χ=>au P' h' ds vs)
  .none .bool .int .str .bytes
  (fun xs a vs n p o χ ih=>.list xs a vs n (k _ _ p o).1 (k _ _ p o).2 ih) (fun xs a vs n p o χ ih=>.tup xs a vs n (k _ _ p o).1 (k _ _ p o).2 ih)
  (fun a b c r t u v p o=>.ip a b c r t u v (k _ _ p o).1 (k _ _ p o).2) .val (fun n a e=>.loc n a (l _ _ e))
  (fun d id a v T hT p o χ ih=>.jK d id a v T hT (k _ _ p o).1 (k _ _ p o).2 ih) (fun C xs a vs n dd p o χ ih=>.inst C xs a vs n dd (k _ _ p o).1 (k _ _ p o).2 ih)
  .ca .nil (fun d v ds vs χ χ i j=>.cons d v ds vs i j) x
theorem au.ind {P:Pl}{h:Heap}{motive:List D→List Value→Prop}(nil:motive [] [])(cons:∀ d v ds vs,W_ P h d v→au P h ds vs→motive ds vs→motive (d::ds) (v::vs)){ds vs}(r:au P h ds vs):motive ds vs:=
 au.rec (motive_1:=fun χ χ χ=>True) (motive_2:=fun ds vs χ=>motive ds vs)
  trivial (fun χ=>trivial) (fun χ χ=>trivial) (fun χ χ=>trivial) (fun χ χ=>trivial) (fun χ χ χ χ χ χ χ χ=>trivial) (fun χ χ χ χ χ χ χ χ=>trivial)
  (fun χ χ χ χ χ χ χ χ χ=>trivial) (fun χ χ=>trivial) (fun χ χ χ=>trivial) (fun χ χ χ χ χ χ χ χ χ χ=>trivial) (fun χ χ χ χ χ χ χ χ χ χ=>trivial)
  (fun χ χ=>trivial) nil (fun d v ds vs x r χ j=>cons d v ds vs x r j) r
theorem au.keeps {P P':Pl}{h h':Heap}(l:∀ (n:Nat) (a:Addr),P.loc[n]? = some a→P'.loc[n]? = some a)(k:∀ a o,P.ok a→h.get? a=some o→P'.ok a∧h'.get? a=some o){ds vs}(r:au P h ds vs):au P' h' ds vs:=
 au.ind .nil (fun d v ds vs x χ i=>.cons d v ds vs (x.keeps l k) i) r
theorem au.length {P:Pl}{h:Heap}{ds vs}(r:au P h ds vs):vs.length=ds.length:=
 au.ind (motive:=fun ds vs=>vs.length=ds.length) rfl (fun χ χ χ χ χ χ i=>congrArg (fun x=>x+1) i) r
theorem au.app {P:Pl}{h:Heap}{ds vs te n8}(r:au P h ds vs)(r':au P h te n8):au P h (ds++te) (vs++n8):=
 au.ind (motive:=fun ds vs=>au P h (ds++te) (vs++n8)) r' (fun d v χ χ x χ i=>.cons d v _ _ x i) r
theorem au.snoc {P:Pl}{h:Heap}{ds vs d v}(r:au P h ds vs)(x:W_ P h d v):au P h (ds++[d]) (vs++[v]):=r.app (.cons _ _ _ _ x .nil)
theorem au.at {P:Pl}{h:Heap}{ds vs}(r:au P h ds vs):∀ (i:Nat) {d},ds[i]? = some d→∃ v,vs[i]? = some v∧W_ P h d v:=
 au.ind (motive:=fun ds vs=>∀ (i:Nat) {d},ds[i]? = some d→∃ v,vs[i]? = some v∧W_ P h d v) (fun i χ e=>by cases e)
  (fun d v ds vs x χ ih i d' e=>by
   cases i with
   | zero=>cases e;exact aF v rfl x
   | succ i=>exact ih i e) r
mutual
noncomputable def HM:D→D
 | .ca x _=>.str x
 | .list xs=>.list (EM xs)
 | .tup xs=>.tup (EM xs)
 | d=>d
noncomputable def EM:List D→List D
 | []=>[]
 | d::ds=>HM d::EM ds
end
theorem W_.fg {P:Pl}{h:Heap}{d v}(x:W_ P h d v):W_ P h (HM d) v:=
 W_.rec (motive_1:=fun d v χ=>W_ P h (HM d) v) (motive_2:=fun ds vs χ=>au P h (EM ds) vs)
  .none .bool .int .str .bytes
  (fun xs a vs n p o χ ih=>.list _ a vs n p o ih) (fun xs a vs n p o χ ih=>.tup _ a vs n p o ih)
  .ip .val .loc (fun d id a v T hT p o r χ=>.jK d id a v T hT p o r) (fun C xs a vs n dd p o r χ=>.inst C xs a vs n dd p o r)
  (fun s t=>.str s t) .nil (fun d v ds vs χ χ i j=>.cons _ v _ vs i j) x
theorem au.fg {P:Pl}{h:Heap}{ds vs}(r:au P h ds vs):au P h (EM ds) vs:=
 au.ind (motive:=fun ds vs=>au P h (EM ds) vs) .nil (fun χ v χ vs x χ i=>.cons _ v _ vs x.fg i) r
noncomputable def MX:D→Value→Prop
 | .none,v=>v=.none
 | .bool b,v=>v=.bool b
 | .int i,v=>∃ t,v=.int i t
 | .str x,v=>∃ t,v=.str x t
 | .bytes b,v=>∃ t,v=.bytes b t
 | .val w,v=>v=w
 | .ca x t,v=>v=.str x t
 | _,v=>∃ a,v=.ref a
theorem W_.inv {P:Pl}{h:Heap}{d:D}{v:Value}(r:W_ P h d v):MX d v:=by
 cases r<;>first | rfl | exact ⟨_,rfl⟩
@[elab_as_elim] theorem W_.jD {P:Pl}{h:Heap}{C:Value→Prop}{i:Int}{v:Value}(r:W_ P h (.int i) v)(k:∀ t,C (.int i t)):C v:=Exists.elim r.inv fun t e=>Eq.ndrec (k t) (Eq.symm e)
@[elab_as_elim] theorem W_.cK {P:Pl}{h:Heap}{C:Value→Prop}{x:Str}{v:Value}(r:W_ P h (.str x) v)(k:∀ t,C (.str x t)):C v:=Exists.elim r.inv fun t e=>Eq.ndrec (k t) (Eq.symm e)
@[elab_as_elim] theorem W_.lU {P:Pl}{h:Heap}{C:Value→Prop}{x:Array UInt8}{v:Value}(r:W_ P h (.bytes x) v)(k:∀ t,C (.bytes x t)):C v:=Exists.elim r.inv fun t e=>Eq.ndrec (k t) (Eq.symm e)
@[elab_as_elim] theorem W_.u9 {P:Pl}{h:Heap}{C:Value→Prop}{b:Bool}{v:Value}(r:W_ P h (.bool b) v)(k:C (.bool b)):C v:=Eq.ndrec k (Eq.symm r.inv)
@[elab_as_elim] theorem W_.GW {P:Pl}{h:Heap}{C:Value→Prop}{v:Value}(r:W_ P h .none v)(k:C .none):C v:=Eq.ndrec k (Eq.symm r.inv)
@[elab_as_elim] theorem W_.cR {P:Pl}{h:Heap}{C:Value→Prop}{w v:Value}(r:W_ P h (.val w) v)(k:C w):C v:=Eq.ndrec k (Eq.symm r.inv)
@[elab_as_elim] theorem W_.A0 {P:Pl}{h:Heap}{C:Value→Prop}{x:Str}{t:Tok}{v:Value}(r:W_ P h (.ca x t) v)(k:C (.str x t)):C v:=Eq.ndrec k (Eq.symm r.inv)
theorem W_.fixed {P:Pl}{h:Heap}{w:Value}{v:Value}(r:W_ P h (.val w) v):ni w=true:=by
 cases r with | val _ f=>exact f
noncomputable def Xi (h h':Heap):Prop:=∀ a o,h.get? a=some o→h'.get? a=some o
theorem Xi.refl (h:Heap):Xi h h:=fun χ χ e=>e
theorem Xi.trans {aP cW dW:Heap}(x:Xi aP cW)(y:Xi cW dW):Xi aP dW:=fun a o e=>y a o (x a o e)
theorem Xi.gone {h h':Heap}(x:Xi h h'){b:Addr}(e:h'.get? b=.none):h.get? b=.none:=by
 cases q:h.get? b with
 | none=>rfl
 | some o=>exact cc e (x b o q)
theorem gE {h:Heap}{a:Addr}(l:h.objs.size≤a):h.get? a=none:=by
 cases q:h.get? a with
 | none=>rfl
 | some o=>exact absurd (Heap.lt_size q) (Nat.not_lt.mpr l)
theorem W_.ext {P:Pl}{h h':Heap}(k:Xi h h'){d v}(x:W_ P h d v):W_ P h' d v:=x.keeps (fun χ χ e=>e) fun a o p e=>⟨p,k a o e⟩
theorem au.ext {P:Pl}{h h':Heap}(k:Xi h h'){ds vs}(x:au P h ds vs):au P h' ds vs:=x.keeps (fun χ χ e=>e) fun a o p e=>⟨p,k a o e⟩
noncomputable def aH (s s':Shared):Prop:=∃ h' t',s'={ s with heap:=h',toks:=t' }∧Xi s.heap h'∧s.toks≤t'
theorem aH.refl (s:Shared):aH s s:=(lA s.heap s.toks rfl (.refl _) (YE _))
theorem aH.trans {s₁ ag aE:Shared}(x:aH s₁ ag)(y:aH ag aE):aH s₁ aE:=by
 revert x;refine gf fun h t e_1 e l=>?_;subst e_1;revert y;refine gf fun h' t' e_2 e' l'=>?_;subst e_2;exact lA h' t' rfl (e.trans e') (Ys l l')
theorem aH.ext {s s':Shared}(x:aH s s'):Xi s.heap s'.heap:=by revert x;refine gf fun h t e_3 e χ=>?_;subst e_3;exact e
theorem aH.toks {s s':Shared}(x:aH s s'):s.toks≤s'.toks:=by revert x;refine gf fun h t e_4 χ l=>?_;subst e_4;exact l
theorem aH.E_ (s:Shared)(t:Nat)(l:s.toks≤t):aH s { s with toks:=t }:=(lA s.heap t rfl (.refl _) l)
theorem aH.tok (s:Shared)(k:Nat):aH s { s with toks:=s.toks+k }:=.E_ _ _ (Nat.le_add_right _ _)
theorem aH.heap {s:Shared}{h:Heap}(e:Xi s.heap h):aH s { s with heap:=h }:=(lA h s.toks rfl e (YE _))
noncomputable def dB (s s':Shared):Prop:=∃ h' t',s'={ s with heap:=h',toks:=t' }∧Xi s.heap h'
theorem dB.tok (s:Shared)(t:Nat):dB s { s with toks:=t }:=(gY s.heap t rfl (.refl _))
theorem dB.Fg {s s':Shared}(x:dB s s')(l:s.toks≤s'.toks):aH s s':=by revert x;refine cS fun h t e_5 e=>?_;subst e_5;exact lA h t rfl e l
theorem dB.ext {s s':Shared}(x:dB s s'):Xi s.heap s'.heap:=by revert x;refine cS fun h t e_7 e=>?_;subst e_7;exact e
theorem dB.trans {s₁ ag aE:Shared}(x:dB s₁ ag)(y:dB ag aE):dB s₁ aE:=by
 revert x;refine cS fun h t e_8 e=>?_;subst e_8;revert y;refine cS fun h' t' e_9 e'=>?_;subst e_9;exact gY h' t' rfl (e.trans e')
section
variable {M:Model}{A:Around}
noncomputable def a5 {β:Type}(M:Model)(A:Around)(t:Sem β)(s:Shared)(R:β→Shared→Prop):Prop:=
 ∀ (Q:β→Shared→Prop) (E:Value→Shared→Prop),(∀ v s',aH s s'→R v s'→Q v s')→wpAny M A t Q E s
theorem a5.FJ {β:Type}{t:Sem β}{s:Shared}{R:β→Shared→Prop}(x:∀ (Q:β→Shared→Prop) (E:Value→Shared→Prop),(∀ v s',dB s s'→R v s'→Q v s')→wpAny M A t Q E s):a5 M A t s R:=fun Q E h=>
 wpAny_mono (Xl (x (fun v s'=>dB s s'∧R v s') (fun χ χ=>False) fun v s' g r=>⟨g,r⟩)) (fun v s' z=>h v s' (z.1.1.Fg z.2) z.1.2) fun χ χ f=>f.1.elim
noncomputable def Xo (M:Model)(A:Around)(P:Pl)(t:Sem Value)(s:Shared)(d:D):Prop:=a5 M A t s fun v s'=>W_ P s'.heap d v
theorem a5.bind {β γ:Type}{m:Sem β}{f:β→Sem γ}{s:Shared}{R:β→Shared→Prop}{R':γ→Shared→Prop}(x:a5 M A m s R)
  (y:∀ v s',aH s s'→R v s'→a5 M A (f v) s' R'):a5 M A (m >>= f) s R':=fun Q E h=>
 Yo (x _ _ fun v s' g r=>y v s' g r Q E fun v' fc g' r'=>h v' fc (g.trans g') r')
theorem a5.use {β:Type}{t:Sem β}{s:Shared}{R:β→Shared→Prop}(x:a5 M A t s R){Q:β→Shared→Prop}{E:Value→Shared→Prop}(h:∀ v s',aH s s'→R v s'→Q v s'):wpAny M A t Q E s:=x Q E h
theorem Xo.mono {P:Pl}{t:Sem Value}{s:Shared}{d d':D}(e:d=d')(x:Xo M A P t s d):Xo M A P t s d':=e▸x
structure Cx where
 base:Addr→Obj→Prop
 mg:Str→Option Value
 mb:Str→Option Value
noncomputable abbrev Cx.fB (C:Cx)(h:Heap):Prop:=∀ a o,C.base a o→h.get? a=some o
structure Cx.Ok (C:Cx):Prop where
 g:∀ h,C.fB h→h.Ns mainGlobals C.mg
 b:∀ h,C.fB h→h.Ns builtinsNs C.mb
inductive XE (P:Pl)(env:Env)(h:Heap)(x:Str)(d:D):Prop where
 | loc (k:env.kindOf x=some .local)(m:Str→Option Value)(v:Value)(n:h.Ns env.locals m)(e:m x=some v)(r:W_ P h d v)
 | cell (k:env.kindOf x=some .cell∨env.kindOf x=some .free)(c:Addr)(v:Value)(e:env.cells.lookup x=some c)(i:h.IsCell c (some v))(r:W_ P h d v)
theorem XE.to {P P':Pl}{env:Env}{h h':Heap}{x:Str}{d:D}(V:XE P env h x d)(kl:∀ m,h.Ns env.locals m→h'.Ns env.locals m)(kc:∀ c v,env.cells.lookup x=some c→h.IsCell c (some v)→h'.IsCell c (some v))(rk:∀ v,W_ P h d v→W_ P' h' d v):XE P' env h' x d:=by
 cases V with
 | loc k m v n e r=>exact .loc k m v (kl m n) e (rk v r)
 | cell k c v e i r=>exact .cell k c v e (kc c v e i) (rk v r)
theorem Ns.ext {h h':Heap}{a:Addr}{m:Str→Option Value}(k:Xi h h')(x:h.Ns a m):h'.Ns a m:=GX (fun o es ep e r=>OB o es ep (k a o e) r) x
theorem XE.ext {P:Pl}{env:Env}{h h':Heap}{x:Str}{d:D}(k:Xi h h')(V:XE P env h x d):XE P env h' x d:=V.to (fun χ n=>Ns.ext k n) (fun χ χ χ i=>i.keeps k) fun χ r=>r.ext k
noncomputable abbrev Xa (μ Mut:List Addr):Pl:=⟨fun a=>a∉Mut,μ⟩
structure Fm (C:Cx)(μ Mut:List Addr)(env:Env)(ρ:List (Str×D))(s:Shared):Prop where
 ok:C.Ok
 stays:C.fB s.heap
 clear:∀ a o,C.base a o→a∉Mut
 vars:∀ x d,ρ.lookup x=some d→XE (Xa μ Mut) env s.heap x d
 held:∀ a∈Mut,∃ o,s.heap.get? a=some o
 kind:env.scope.kind=.function
 globals:env.globals=mainGlobals
 builtins:env.builtins=builtinsNs
end
section
variable {prog:Program}{w:World}{A:Around}{C:Cx}{μ Mut:List Addr}{env:Env}{ρ ρf:List (Str×D)}{s:Shared}{P P':Pl}
theorem HW {i:Int}{k:Nat}{pos:Pos}:Xo (model prog w) A P (eval (.Constant (.int i) k pos) env) s (.int i):=fun χ χ h=>wpAny_Constant_int (h _ _ (.tok ..) (.int ..))
theorem HV {x:Str}{k:Nat}{pos:Pos}:Xo (model prog w) A P (eval (.Constant (.str x) k pos) env) s (.str x):=fun χ χ h=>wpAny_Constant_str (h _ _ (.tok ..) (.str ..))
theorem E3 {k:Nat}{pos:Pos}:Xo (model prog w) A P (eval (.Constant .none k pos) env) s .none:=fun χ χ h=>wpAny_Constant_none (h _ _ (.refl _) .none)
theorem Ya {b:Bool}{k:Nat}{pos:Pos}:Xo (model prog w) A P (eval (.Constant (.bool b) k pos) env) s (.bool b):=fun χ χ h=>wpAny_Constant_bool (h _ _ (.refl _) (.bool b))
theorem XE.load {x:Str}{d:D}(V:XE P env s.heap x d)(kind:env.scope.kind=.function)(hc:(x==("__classdict__":Str))=false):Xo (model prog w) A P (loadName env x) s d:=fun Q E h=>by
 cases V with
 | loc k m v n e r=>exact wpAny_loadName_local kind k n e (h _ _ (.refl _) r)
 | cell k c v e i r=>exact k.elim (fun k=>wpAny_loadName_cell kind k e i (h _ _ (.refl _) r)) fun k=>wpAny_loadName_free kind k e i (h _ _ (.refl _) r) hc
theorem E4 {x:Str}{d:D}{pos:Pos}(F:Fm C μ Mut env ρ s)(e:ρ.lookup x=some d)(hd:(x==("__debug__":Str))=false)(hc:(x==("__classdict__":Str))=false):
  Xo (model prog w) A (Xa μ Mut) (eval (.Name x pos) env) s d:=fun Q E h=>by
 exact wpAny_Name ((F.vars x d e).load F.kind hc Q E h) hd
theorem ou {x:Str}(hk:env.scope.kind=.function)(hg:env.kindOf x=some .globalImplicit):loadName env x=loadGlobal env x:=by
 unfold loadName;simp only [Env.blockKind,hk,hg,ScopeKind.isAnnotationScope,Bool.false_and,Bool.false_eq_true,if_false]
theorem Fm.grown (F:Fm C μ Mut env ρ s){s':Shared}(g:aH s s'):Fm C μ Mut env ρ s':=
 ⟨F.ok,fun a o e=>g.ext a o (F.stays a o e),F.clear,fun x d e=>(F.vars x d e).ext g.ext,fun a ha=>let ⟨o,e⟩:=F.held a ha;⟨o,g.ext a o e⟩,F.kind,F.globals,F.builtins⟩
theorem Fm.off (F:Fm C μ Mut env ρ s){a:Addr}(e:s.heap.get? a=none):(Xa μ Mut).ok a:=fun ha=>by obtain ⟨o,q⟩:=F.held a ha;exact cc e q
noncomputable def Xk (P:Pl)(h:Heap):Prop:=∀ x,h.get? x=none→P.ok x
theorem Xk.ext {h h':Heap}(x:Xk P h)(k:Xi h h'):Xk P h':=fun a e=>x a (by
 cases q:h.get? a with
 | none=>rfl
 | some o=>exact cc e (k a o q))
theorem Xk.grown {s s':Shared}(x:Xk P s.heap)(g:aH s s'):Xk P s'.heap:=x.ext g.ext
theorem Fm.lets (F:Fm C μ Mut env ρ s):Xk (Xa μ Mut) s.heap:=fun χ e=>F.off e
theorem Xk.size {h:Heap}(x:Xk P h):P.ok h.objs.size:=x _ (by
 exact gE (YE _))
noncomputable def jN (f:Value→Value→Sem Value)(prog:Program)(w:World)(A:Around)(P:Pl)(d1 d2 d:D):Prop:=∀ s a b,Xk P s.heap→W_ P s.heap d1 a→W_ P s.heap d2 b→Xo (model prog w) A P (f a b) s d
noncomputable abbrev X2 (M:Model)(A:Around)(t:Sem Bool)(s:Shared)(b:Bool):Prop:=a5 M A t s fun v χ=>v=b
theorem jN.ints {op:Value→Value→Sem Value}{a b:Int}{d:D}(h:∀ s t u,Xo (model prog w) A P (op (.int a t) (.int b u)) s d):jN op prog w A P (.int a) (.int b) d:=fun s χ χ χ x y=>W_.jD x fun t=>W_.jD y fun u=>h s t u
theorem IL (a b:Int):jN (binaryOp .Add) prog w A P (.int a) (.int b) (.int (a+b)):=.ints fun s t u Q E h=>add_int (h _ _ (.tok ..) (.int ..))
theorem IA (a b:Int):jN (binaryOp .Sub) prog w A P (.int a) (.int b) (.int (a-b)):=.ints fun s t u Q E h=>sub_int (h _ _ (.tok ..) (.int ..))
theorem IF (a b:Int)(hm:IntMulOk a b):jN (binaryOp .Mult) prog w A P (.int a) (.int b) (.int (a*b)):=.ints fun s t u Q E h=>mul_int (h _ _ (.tok ..) (.int ..)) hm
theorem IG (a b:Int)(hb:b≠0):jN (binaryOp .Mod) prog w A P (.int a) (.int b) (.int (a.fmod b)):=.ints fun s t u Q E h=>mod_int' hb (h _ _ (.tok ..) (.int ..))
theorem ID (a n:Int)(hn:0≤n)(hsz:(Builtin.Int.intBits a:Int)*n≤2^27):jN (binaryOp .Pow) prog w A P (.int a) (.int n) (.int (a^n.toNat)):=.ints fun s t u Q E h=>pow_int hn hsz (h _ _ (.tok ..) (.int ..))
theorem FM (a b:Int):jN (binaryOp .BitAnd) prog w A P (.int a) (.int b) (.int (Builtin.bitAnd a b)):=.ints fun s t u Q E h=>and_int (h _ _ (.tok ..) (.int ..))
theorem IK (a b:Int):jN (binaryOp .BitOr) prog w A P (.int a) (.int b) (.int (Builtin.bitOr a b)):=.ints fun s t u Q E h=>or_int (h _ _ (.tok ..) (.int ..))
theorem IB (a n:Int)(hn:0≤n):jN (binaryOp .RShift) prog w A P (.int a) (.int n) (.int (a.fdiv (2^n.toNat))):=.ints fun s t u Q E h=>rshift_int hn (h _ _ (.tok ..) (.int ..))
theorem IC (a n:Int)(hn:0≤n)(hsz:(Builtin.Int.intBits a:Int)+n≤2^27):jN (binaryOp .LShift) prog w A P (.int a) (.int n) (.int (a*2^n.toNat)):=.ints fun s t u Q E h=>lshift_int hn hsz (h _ _ (.tok ..) (.int ..))
theorem IJ (x y:Str)(hsz:x.length+y.length≤sizeLine):jN (binaryOp .Add) prog w A P (.str x) (.str y) (.str (x++y)):=fun s χ χ χ a b Q E h=>by
 refine W_.cK a fun ϑ=>?_;refine W_.cK b fun ϑ=>?_;exact a5.FJ (fun Q E h=>add_str (fun t' tk=>h _ _ (.tok ..) (.str ..)) hsz) Q E h
theorem LK (a b:Int):jN (compareOp .Eq) prog w A P (.int a) (.int b) (.bool (a==b)):=.ints fun s t u Q E h=>eq_int (h _ _ (.refl _) (.bool _))
theorem LD (a b:Int):jN (compareOp .NotEq) prog w A P (.int a) (.int b) (.bool (a != b)):=.ints fun s t u Q E h=>ne_int (h _ _ (.refl _) (.bool _))
theorem LF (a b:Int):jN (compareOp .Lt) prog w A P (.int a) (.int b) (.bool (decide (a<b))):=.ints fun s t u Q E h=>lt_int (h _ _ (.refl _) (.bool _))
theorem LG (a b:Int):jN (compareOp .LtE) prog w A P (.int a) (.int b) (.bool (decide (a≤b))):=.ints fun s t u Q E h=>le_int (h _ _ (.refl _) (.bool _))
theorem LI (a b:Int):jN (compareOp .Gt) prog w A P (.int a) (.int b) (.bool (decide (b<a))):=.ints fun s t u Q E h=>gt_int (h _ _ (.refl _) (.bool _))
theorem LJ (a b:Int):jN (compareOp .GtE) prog w A P (.int a) (.int b) (.bool (decide (b≤a))):=.ints fun s t u Q E h=>ge_int (h _ _ (.refl _) (.bool _))
theorem IH (x y:Str):jN (compareOp .Eq) prog w A P (.str x) (.str y) (.bool (x==y)):=fun s χ χ χ a b Q E h=>by
 refine W_.cK a fun ϑ=>?_;refine W_.cK b fun ϑ=>?_;exact eq_str (h _ _ (.refl _) (.bool _))
theorem Xi.push (h:Heap)(o:Obj):Xi h (h.push o):=fun a x e=>YB _ e
inductive nV (prog:Program)(w:World)(A:Around)(μ Mut:List Addr)(xs:List D)(s₁:Shared)(it:Value)(ag:Shared):Prop where
 | mk (I:Addr)(fp wr:List Addr)(Pt:Nat→Value→Prop)(St:Nat→Heap→Prop)(f0:it=.ref I)(f1:Walks prog w A I fp wr xs.length Pt St)(f2:St 0 ag.heap)(f3:(∀ b∈fp,∃ o,ag.heap.get? b=some o))(f4:(∀ b∈wr,s₁.heap.get? b=none))(f5:(∀ i h,St i h→∀ b∈wr,∃ o,h.get? b=some o))(f6:aH s₁ ag)(f7:(∀ b∈fp,b∈wr∨b∉Mut))(f8:∀ i v,Pt i v→∃ d,xs[i]? = some d∧W_ (Xa μ (wr++Mut)) ag.heap d v)
inductive EU (prog:Program)(w:World)(A:Around)(μ Mut:List Addr)(xs:List D)(s₁:Shared)(it:Value)(ag:Shared):Prop where
 | mk (I:Addr)(fp wr:List Addr)(Pt:Nat→Value→Prop)(St:Nat→Heap→Prop)(f0:it=.ref I)(f1:Walks prog w A I fp wr xs.length Pt St)(f2:St 0 ag.heap)(f3:(∀ b∈fp,∃ o,ag.heap.get? b=some o))(f4:(∀ b∈wr,s₁.heap.get? b=none))(f5:(∀ i h,St i h→∀ b∈wr,∃ o,h.get? b=some o))(f6:aH s₁ ag)(f7:∀ i v,Pt i v→∃ d,xs[i]? = some d∧W_ (Xa μ (wr++Mut)) ag.heap d v)
theorem nV.c {prog:Program}{w:World}{A:Around}{μ Mut:List Addr}{xs:List D}{s₁:Shared}{it:Value}{ag:Shared}(x:nV prog w A μ Mut xs s₁ it ag):EU prog w A μ Mut xs s₁ it ag:=by
 obtain ⟨I,fp,wr,Pt,St,a,b,c,d,e,f,g,_,h⟩:=x;exact ⟨I,fp,wr,Pt,St,a,b,c,d,e,f,g,h⟩
theorem W_.turn {μ Mut:List Addr}{h h':Heap}(k:∀ b o,b∉Mut→h.get? b=some o→h'.get? b=some o){d v}(x:W_ (Xa μ Mut) h d v):W_ (Xa μ Mut) h' d v:=W_.keeps (P:=Xa μ Mut) (P':=Xa μ Mut) (fun χ χ e=>e) (fun a o p e=>⟨p,k a o p e⟩) x
theorem au.turn {μ Mut:List Addr}{h h':Heap}(k:∀ b o,b∉Mut→h.get? b=some o→h'.get? b=some o){d v}(x:au (Xa μ Mut) h d v):au (Xa μ Mut) h' d v:=au.keeps (P:=Xa μ Mut) (P':=Xa μ Mut) (fun χ χ e=>e) (fun a o p e=>⟨p,k a o p e⟩) x
theorem W_.apart {μ Mut new:List Addr}{h:Heap}(f:∀ b∈new,h.get? b=Option.none){d v}(x:W_ (Xa μ Mut) h d v):W_ (Xa μ (new++Mut)) h d v:=
 W_.keeps (P:=Xa μ Mut) (P':=Xa μ (new++Mut)) (fun χ χ e=>e) (fun a o p e=>⟨fun m=>by
  rcases Yr.mp m with m | m
  ·exact cc (f a m) e
  ·exact p m,e⟩) x
noncomputable def i8 (ifs:List PySem.Expr)(env:Env):Sem Bool:=forIn ifs true fun c r=>if r=true then do let ok ← isTrue c env (eval c env);pure (ForInStep.yield ok) else pure (ForInStep.yield r)
theorem E9 {env:Env}:X2 (model prog w) A (i8 [] env) s true:=fun Q E k=>wpAny_tests_nil (k _ _ (.refl _) rfl)
theorem Ns.turn {h h':Heap}{a:Addr}{m:Str→Option Value}(x:h.Ns a m)(k:∀ o,h.get? a=some o→h'.get? a=some o):h'.Ns a m:=let ⟨o,es,ep,e,r⟩:=x;(OB o es ep (k o e) r)
inductive By (s:Shared)(St:Nat→Heap→Prop)(Hold:Heap→Prop)(Da:Addr)(P:Pl)(O:List Addr)(xs:List D)(Inv:Nat→List D→Nat→Prop):Nat→Shared→Prop where
 | mk (h':Heap)(tk i:Nat)(vs:List Value)(ds:List D)(st:St i h')(acc:h'.PlainList Da (List.toArray vs))(hold:Hold h')(hi:i≤xs.length)(rs:au P h' ds vs)(keep:∀ b o,b∉O→s.heap.get? b=some o→h'.get? b=some o)(lJ:s.toks≤tk)(inv:Inv i ds tk)(hl:ds.length≤i):By s St Hold Da P O xs Inv (xs.length+1-i) { s with heap:=h',toks:=tk }
theorem vb {O:List Addr}{elt iter:PySem.Expr}{x:Str}{px:Pos}{ifs:List PySem.Expr}{scope:Scope}{pos:Pos}{I Da:Addr}{fp wr:List Addr}{Pt:Nat→Value→Prop}{St:Nat→Heap→Prop}{cenv:Env}{X:Addr}{Hold:Heap→Prop}{Has:Heap→Value→Prop}
  {R:Result→Shared→Prop} {xs:List D} (hP:∀ b,P.ok b→b∉O) (Wo:Da∈O) (Wg:X∈O) (OH:∀ b∈wr,b∈O) (hO:∀ b∈O,b=Da∨b=X∨b∈wr) (p:D→Bool) (Inv:Nat→List D→Nat→Prop) (gD:∀ i ds t t',t≤t'→Inv i ds t→Inv i ds t') (h0:Inv 0 [] s.toks) (W:Walks prog w A I fp wr xs.length Pt St)
  (pj:∀ h h',Hold h→(∀ o,h.get? X=some o→h'.get? X=some o)→Hold h') (hX:∀ h,Hold h→∃ o,h.get? X=some o)
  (uT:∀ (s:Shared) (v:Value) (Q:Unit→Shared→Prop) (E:Value→Shared→Prop),Hold s.heap→(∀ h' tk,Has h' v→Hold h'→Heap.SameBut X s.heap h'→Q () { s with heap:=h',toks:=tk })→wpAny (model prog w) A (storeName cenv x v) Q E s)
  (GP:Da≠X) (HI:Da∉fp) (HJ:X∉fp) (lN:St 0 s.heap) (ie:s.heap.PlainList Da #[]) (hn:Hold s.heap) (hsz:xs.length≤sizeLine)
  (na:∀ i v,Pt i v→∃ d,xs[i]? = some d∧W_ P s.heap d v)
  (turn:∀ (i:Nat) (d:D) (ds:List D) (s':Shared) (v:Value),xs[i]? = some d→Inv i ds s'.toks→Has s'.heap v→Hold s'.heap→W_ P s'.heap d v→(∀ b o,b∉O→s.heap.get? b=some o→s'.heap.get? b=some o)→(∀ b∈O,∃ o,s'.heap.get? b=some o)→
   (∃ h tk,s'={ s with heap:=h,toks:=tk })→s.toks≤s'.toks→
   X2 (model prog w) A (i8 ifs cenv) s' (p d)∧(p d=true→∀ fc,aH s' fc→a5 (model prog w) A (eval elt cenv) fc fun y aE=>∃ e,Inv (i+1) (ds++[e]) aE.toks∧W_ P aE.heap e y)∧(p d=false→Inv (i+1) ds s'.toks))
  (uV:∀ i h,St i h→∀ b∈wr,∃ o,h.get? b=some o)
  (hR:∀ h' tk vs ds,s.toks≤tk→Hold h'→h'.PlainList Da vs.toArray→Inv xs.length ds tk→au P h' ds vs→(∀ b o,b∉O→s.heap.get? b=some o→h'.get? b=some o)→
   R (.ok .next) { s with heap:=h',toks:=tk }):
  codeAny (model prog w) A (.compLoop (.ListComp elt [⟨.Name x px,iter,ifs,0⟩] scope pos) 0 (.ref I) (.ref Da) cenv) R s:=by
 have Pb:X∉wr:=fun h=>HJ (W.sub _ h);have Pa:Da∉wr:=fun h=>HI (W.sub _ h);have tu:∀ {h h':Heap} {d v},(∀ b o,b∉O→h.get? b=some o→h'.get? b=some o)→W_ P h d v→W_ P h' d v:=fun k r=>r.keeps (fun χ χ e=>e) fun a o p e=>⟨p,k a o (hP a p) e⟩;have Lc:∀ {h h':Heap} {d v},(∀ b o,b∉O→h.get? b=some o→h'.get? b=some o)→au P h d v→au P h' d v:=fun k r=>r.keeps (fun χ χ e=>e) fun a o p e=>⟨p,k a o (hP a p) e⟩;refine codeAny_compLoop_tests (By s St Hold Da P O xs Inv) ?_ (xs.length+1)
  (By.mk s.heap s.toks 0 [] [] lN ie hn (Nat.zero_le _) au.nil (fun χ χ χ e=>e) (YE _) h0 (YE _))
 intro k s' r_1;obtain ⟨H,tk,i,vs,ds,Gs,AF,ic,hi,hF,hk,lJ,hI,Di⟩:=r_1
 by_cases n_:i<xs.length
 ·refine d9 (W.item i _ _ _ n_ Gs fun v aP rS Wk m8 ct mO=>?_);refine az (fun d hd hr=>?_) (na i v Wk);refine wpAny_assign_Name (d9 (uT _ v _ _ (pj _ _ ic fun o e=>ct _ o Pb e) fun cW Eh I5 wJ ln l₂=>?_));have He:s.toks≤Eh:=Ys lJ (Ys mO l₂);have up:∀ b o,b∉O→H.get? b=some o→cW.get? b=some o:=fun b o hb e=>ln.extBut b o (fun q=>hb (q▸Wg)) (ct b o (fun q=>hb (OH b q)) e);have uS:St (i+1) cW:=W.frame _ _ _ m8 fun b hb o e=>ln.extBut b o (fun q=>HJ (q▸hb)) e;have qE:cW.PlainList Da (List.toArray vs):=AF.at fun o e=>ln.extBut _ o GP (ct _ o Pa e);have CR:∀ b∈O,∃ o,cW.get? b=some o:=fun b hb=>by
   exact (hO b hb).elim (fun q=>q▸⟨_,qE.choose_spec⟩) fun hb=>hb.elim (fun q=>q▸hX _ wJ) (uV _ _ uS b)
  have pX:∀ b o,b∉O→s.heap.get? b=some o→cW.get? b=some o:=fun b o hb e=>up b o hb (hk b o hb e);have AK:=Lc up hF;have I':W_ P cW d v:=tu pX hr;clear hF up hr hk lN ie Gs AF m8 ct hn ic;refine e8 (fun t1 t2 t3=>?_) (turn i d ds { s with heap:=cW,toks:=Eh } v hd (gD _ _ _ _ (Ys mO l₂) hI) I5 wJ I' pX CR (uK _ _ rfl) He);refine t1.use fun b aE aU hb=>?_;subst hb;cases OS:p d with
  | false=>
   revert aU;refine gf fun dW BR e_1 jA mM=>?_;subst e_1;refine rv (Yz Bool.false_ne_true) ?_;exact ⟨xs.length+1-(i+1),Nr n_,dW,BR,i+1,vs,ds,W.frame _ _ _ uS fun b χ o e=>jA b o e,qE.at fun o e=>jA _ o e,pj _ _ wJ (fun o e=>jA _ o e),n_,AK.ext jA,fun b o hb e=>jA b o (pX b o hb e),Ys He mM,gD _ _ _ _ mM (t3 OS),Nat.le_succ_of_le Di⟩
  | true=>
   refine rv (YH rfl) ?_;refine (t2 OS aE aU).use fun y iz c4 hy=>?_;revert hy;refine az fun ye Wl ry=>?_;refine gf (fun uP yL e_2 lE F2=>?_) (aU.trans c4);subst e_2;have Dk:uP.PlainList Da (List.toArray vs):=qE.at fun o e=>lE _ o e;have Vx:vs.length≤sizeLine:=by
    exact rv AK.length (Ys Di (Ys hi hsz))
   refine wpAny_list_append_plain (hsz:=rv YT Vx) Dk fun Gk Jg Am=>?_;have K:∀ b o,b∉O→uP.get? b=some o→Gk.get? b=some o:=fun b o hb e=>Am.extBut b o (fun q=>hb (q▸Wo)) e;exact ⟨xs.length+1-(i+1),Nr n_,Gk,yL,i+1,vs++[y],ds++[ye],W.frame _ _ _ uS fun b hb o e=>Am.extBut b o (fun q=>HI (q▸hb)) (lE b o e),(by simpa using Jg),(pj _ _ wJ fun o e=>Am.extBut _ o (Ne.symm GP) (lE _ o e)),n_,(Lc K (AK.ext lE)).snoc (tu K ry),
    fun b o hb e=>K b o hb (lE b o (pX b o hb e)),Ys He F2,Wl,rv List.length_append (Nat.succ_le_succ Di)⟩
 ·have Dh:i=xs.length:=Nat.le_antisymm hi (Nat.le_of_not_lt n_);subst Dh;refine d9 (W.done _ _ _ Gs fun aP rS ct mO=>?_);have up:∀ b o,b∉O→H.get? b=some o→aP.get? b=some o:=fun b o hb e=>ct b o (fun q=>hb (OH b q)) e;exact hR aP rS vs ds (Ys lJ mO) (pj _ _ ic fun o e=>ct _ o Pb e) (AF.at fun o e=>ct _ o Pa e) (gD _ _ _ _ mO hI) (Lc up hF) fun b o hb e=>up b o hb (hk b o hb e)
theorem yj {elt iter:PySem.Expr}{x:Str}{px:Pos}{ifs:List PySem.Expr}{scope:Scope}{pos:Pos}{I Da:Addr}{fp wr:List Addr}{Pt:Nat→Value→Prop}{St:Nat→Heap→Prop}{cenv:Env}{X:Addr}{Hold:Heap→Prop}{Has:Heap→Value→Prop}
  {R:Result→Shared→Prop} {xs:List D} (p:D→Bool) (Inv:Nat→List D→Nat→Prop) (gD:∀ i ds t t',t≤t'→Inv i ds t→Inv i ds t') (h0:Inv 0 [] s.toks) (W:Walks prog w A I fp wr xs.length Pt St)
  (pj:∀ h h',Hold h→(∀ o,h.get? X=some o→h'.get? X=some o)→Hold h') (hX:∀ h,Hold h→∃ o,h.get? X=some o)
  (uT:∀ (s:Shared) (v:Value) (Q:Unit→Shared→Prop) (E:Value→Shared→Prop),Hold s.heap→(∀ h' tk,Has h' v→Hold h'→Heap.SameBut X s.heap h'→Q () { s with heap:=h',toks:=tk })→wpAny (model prog w) A (storeName cenv x v) Q E s)
  (GP:Da≠X) (HI:Da∉fp) (HJ:X∉fp) (lN:St 0 s.heap) (ie:s.heap.PlainList Da #[]) (hn:Hold s.heap) (hsz:xs.length≤sizeLine)
  (na:∀ i v,Pt i v→∃ d,xs[i]? = some d∧W_ (Xa μ (Da::X::(wr++Mut))) s.heap d v)
  (turn:∀ (i:Nat) (d:D) (ds:List D) (s':Shared) (v:Value),xs[i]? = some d→Inv i ds s'.toks→Has s'.heap v→Hold s'.heap→W_ (Xa μ (Da::X::(wr++Mut))) s'.heap d v→(∀ b o,b∉Da::X::wr→s.heap.get? b=some o→s'.heap.get? b=some o)→(∀ b∈Da::X::wr,∃ o,s'.heap.get? b=some o)→
   (∃ h tk,s'={ s with heap:=h,toks:=tk })→s.toks≤s'.toks→
   X2 (model prog w) A (i8 ifs cenv) s' (p d)∧(p d=true→∀ fc,aH s' fc→a5 (model prog w) A (eval elt cenv) fc fun y aE=>∃ e,Inv (i+1) (ds++[e]) aE.toks∧W_ (Xa μ (Da::X::(wr++Mut))) aE.heap e y)∧(p d=false→Inv (i+1) ds s'.toks))
  (uV:∀ i h,St i h→∀ b∈wr,∃ o,h.get? b=some o)
  (hR:∀ h' tk vs ds,s.toks≤tk→Hold h'→h'.PlainList Da vs.toArray→Inv xs.length ds tk→au (Xa μ (Da::X::(wr++Mut))) h' ds vs→(∀ b o,b∉Da::X::wr→s.heap.get? b=some o→h'.get? b=some o)→
   R (.ok .next) { s with heap:=h',toks:=tk }):
  codeAny (model prog w) A (.compLoop (.ListComp elt [⟨.Name x px,iter,ifs,0⟩] scope pos) 0 (.ref I) (.ref Da) cenv) R s:=
 vb (P:=Xa μ (Da::X::(wr++Mut))) (O:=Da::X::wr) (fun b hb hm=>hb ((YC.mp hm).elim (fun q=>q▸Yu) fun hm=>(YC.mp hm).elim (fun q=>q▸Yv _ Yu) fun hm=>Yv _ (Yv _ (Yp _ hm)))) Yu (Yv _ Yu) (fun b m=>Yv _ (Yv _ m)) (fun b m=>(YC.mp m).imp id YC.mp) p Inv gD h0 W pj hX uT GP HI HJ lN ie hn hsz na turn uV hR
noncomputable def J3 (env:Env)(scope:Scope)(cl:List (Str×Addr))(μ Mut:List Addr)(h:Heap)(ρf:List (Str×D)):Prop:=
 ∀ y d,ρf.lookup y=some d→((relabel scope env).names.lookup y=some .cell∨(relabel scope env).names.lookup y=some .free)∧∃ c v,cl.lookup y=some c∧h.IsCell c (some v)∧W_ (Xa μ Mut) h d v
theorem mP {f:Str→NameKind→NameKind}:∀ (names:List (Str×NameKind)) (y:Str),(names.map fun p=>(p.1,f p.1 p.2)).lookup y=(names.lookup y).map (f y):=by
 intro names
 induction names with
 | nil=>
  intro y;exact rfl
 | cons pr r ih=>
  obtain ⟨n,k⟩:=pr;intro y;simp only [List.map_cons,YS];cases q:y==n with
  | true=>refine rv (YK.mp q) ?_;rfl
  | false=>exact ih y
theorem ir (scope:Scope)(env:Env):(relabel scope env).names=scope.names.map fun p=>(p.1,if (p.2==.free&&env.scope.kind==.function&&env.kindOf p.1==some .cell) then NameKind.cell else p.2):=by
 unfold relabel;show scope.names.map _=_;refine YL fun p χ=>?_;obtain ⟨n,k⟩:=p
 by_cases q:(k==.free&&env.scope.kind==.function&&env.kindOf n==some .cell)=true
 ·simp only [q,if_true]
 ·simp only [q];rfl
theorem gB (scope:Scope)(env:Env)(y:Str):(relabel scope env).names.lookup y=(scope.names.lookup y).map fun k=>if (k==.free&&env.scope.kind==.function&&env.kindOf y==some .cell) then .cell else k:=by
 refine rv (ir _ _) ?_;exact mP (f:=fun n k=>if (k==.free&&env.scope.kind==.function&&env.kindOf n==some .cell) then NameKind.cell else k) scope.names y
structure M0 (scope:Scope)(env:Env)(cl oa:List (Str×Addr))(x:Str)(h aP:Heap)(Co X:Addr)(Hold:Heap→Prop)(Has:Heap→Value→Prop)(prog:Program)(w:World)(A:Around):Prop where
 co:Co=h.objs.size
 up:Co≤X
 old:Xi h aP
 ns:∃ m,aP.Ns Co m
 hold:Hold aP
 Li:∀ h h',Hold h→(∀ o,h.get? X=some o→h'.get? X=some o)→Hold h'
 live:∀ h,Hold h→∃ o,h.get? X=some o
 store:∀ (s:Shared) (v:Value) (Q:Unit→Shared→Prop) (E:Value→Shared→Prop),Hold s.heap→(∀ h' tk,Has h' v→Hold h'→Heap.SameBut X s.heap h'→Q () { s with heap:=h',toks:=tk })→wpAny (model prog w) A (storeName (compEnvC scope oa Co env) x v) Q E s
 fin:∀ h',Hold h'→(Co≠X→∀ o,aP.get? Co=some o→h'.get? Co=some o)→∃ m,h'.Ns Co m
 var:∀ h v (μ Mut:List Addr) d,Has h v→W_ (Xa μ Mut) h d v→XE (Xa μ Mut) (compEnvC scope oa Co env) h x d
 look:∀ y,(y==x)=false→oa.lookup y=cl.lookup y
 mem:∀ y c,oa.lookup y=some c→cl.lookup y=some c∨c=X
noncomputable def X3 (prog:Program)(w:World)(A:Around)(scope:Scope)(env:Env)(cl:List (Str×Addr))(x:Str):Prop:=
 ∀ (s:Shared) (Q:Env→Shared→Prop) (E:Value→Shared→Prop),
  (∀ aP tk oa X Hold Has,M0 scope env cl oa x s.heap aP s.heap.objs.size X Hold Has prog w A→∀ cenv,({ cenv with scope:=relabel scope env }:Env)=compEnvC scope oa s.heap.objs.size env→cenv.locals=s.heap.objs.size→Q cenv { s with heap:=aP,toks:=tk })→
  wpAny (model prog w) A (newFunctionEnv scope env.globals cl [] env.qual none .none (some env)) Q E s
theorem sD {scope:Scope}{cl:List (Str×Addr)}{x:Str}(sS:∀ y∈scope.names,y.2≠.cell)(fx:scope.kind=.function)(hx:scope.names.lookup x=some .local):X3 prog w A scope env cl x:=fun s Q E k=>by
 refine wpAny_newFunctionEnv sS (by intro y hy;simp at hy) (fun aP As Gv=>?_) fx;refine k aP _ cl s.heap.objs.size (fun h=>∃ m,h.Ns s.heap.objs.size m) (fun h v=>∃ m,h.Ns s.heap.objs.size m∧m x=some v) ?_ _ rfl rfl;refine ⟨rfl,YE _,fun b o e=>Gv.extBut b o (YO (Heap.lt_size e)) (YB _ e),⟨_,As⟩,⟨_,As⟩,fun h h' z e=>z.elim fun m n=>⟨m,Ns.turn n e⟩,fun h z=>z.elim fun m n=>?_,?_,fun h' z χ=>z,?_,fun χ χ=>rfl,fun χ χ h=>.inl h⟩
 ·revert n;refine GX fun o χ χ e χ=>?_;exact ⟨o,e⟩
 ·intro s' v Q' E' r_2 kk;obtain ⟨m,n⟩:=r_2;refine wpAny_storeName_local (lookup_relabel_local hx) n (fun h' ic eK=>?_) (by simp [compEnvC,relabel,fx]);exact kk h' _ (aF _ ic (by simp)) ⟨_,ic⟩ eK
 ·intro h v μ M d r_3 r;revert r_3;refine az fun m n e=>?_;exact .loc (lookup_relabel_local hx) m v n e r
theorem pE {x:Str}:∀ {names:List (Str×NameKind)},names.filter (fun x=>x.2==.cell)=[(x,.cell)]→(∀ a cl,cellsFrom a names cl=(x,a)::cl)∧(∀ h,pushCells h names=h.push { cls:=.type "cell",data:=.cell none })
 | [],e=>by cases e
 | (n,k)::r,e=>by
  rw [List.filter_cons] at e;have IQ:∀ {r:List (Str×NameKind)},r.filter (fun x=>x.2==.cell)=[]→(∀ a cl,cellsFrom a r cl=cl)∧(∀ h,pushCells h r=h):=by
   intro r
   induction r with
   | nil=>exact fun χ=>⟨fun χ χ=>rfl,fun χ=>rfl⟩
   | cons q r ih=>
    obtain ⟨n,k⟩:=q;intro e;rw [List.filter_cons] at e;split at e
    ·cases e
    ·rename_i hk;obtain ⟨i1,i2⟩:=ih e;exact ⟨fun a cl=>by unfold cellsFrom;exact rv (Yz hk) (i1 _ _),fun h=>by unfold pushCells;exact rv (Yz hk) (i2 _)⟩
  split at e
  ·rename_i hk;injection e with e1 e2
   injection e1 with e1 e3
   subst e1;obtain ⟨i1,i2⟩:=IQ e2;exact ⟨fun a cl=>by unfold cellsFrom;exact rv (YH hk) (i1 _ _),fun h=>by unfold pushCells;exact rv (YH hk) (i2 _)⟩
  ·rename_i hk;obtain ⟨i1,i2⟩:=pE e;exact ⟨fun a cl=>by unfold cellsFrom;exact rv (Yz hk) (i1 _ _),fun h=>by unfold pushCells;exact rv (Yz hk) (i2 _)⟩
theorem uJ {scope:Scope}{cl:List (Str×Addr)}{x:Str}(sS:scope.names.filter (fun x=>x.2==.cell)=[(x,.cell)])(fx:scope.kind=.function)(hx:scope.names.lookup x=some .cell):X3 prog w A scope env cl x:=fun s Q E k=>by
 obtain ⟨c1,c2⟩:=pE sS;simp only [newFunctionEnv,Option.isSome_some,if_true];refine Yo (wpAny_alloc ?_);refine Yo (wpAny_layCells _ (fun name kind cells=>by cases W6:kind==NameKind.cell<;>simp) _ _ _ _ ?_);refine rv (c1 _ _) ?_;refine Yo ?_;refine rv List.forIn_nil ?_;refine YA (YA ?_);dsimp only;refine rv (c2 _) (rv (Heap.size_push _ _) ?_);have sP:(compEnvC scope ((x,s.heap.objs.size+1)::cl) s.heap.objs.size env).kindOf x=some .cell:=by
  show (relabel scope env).names.lookup x=_;refine rv (gB _ _ _) (rv hx ?_);rfl
 have hl:((x,s.heap.objs.size+1)::cl).lookup x=some (s.heap.objs.size+1):=rv YS (rv (beq_self_eq_true _) rfl);have hN:(s.heap.push { cls:=.type "dict",data:=.dict #[] }).Ns s.heap.objs.size (fun χ=>none):=Heap.Ns.new ..;have hsz:(s.heap.push { cls:=.type "dict",data:=.dict #[] }).objs.size=s.heap.objs.size+1:=Heap.size_push ..;refine k _ s.toks ((x,s.heap.objs.size+1)::cl) (s.heap.objs.size+1) (fun h=>∃ v,h.IsCell (s.heap.objs.size+1) v) (fun h v=>h.IsCell (s.heap.objs.size+1) (some v)) ?_ _ rfl rfl;refine ⟨rfl,Nat.le_succ _,(Xi.push _ _).trans (Xi.push _ _),⟨_,Ns.turn hN fun o e=>YB _ e⟩,(gY none _ (rv hsz.symm (Yw _ rfl)) rfl),fun h h' z kk=>cS (fun v o e d=>gY v o (kk o e) d) z,fun h z=>cS (fun v o e d=>⟨o,e⟩) z,?_,?_,?_,fun y hy=>?_,fun y c hy=>?_⟩
 ·intro s' v Q' E' r_4 kk;obtain ⟨v',c⟩:=r_4;exact wpAny_storeName_cell fx sP hl c fun h' c' eK=>kk h' _ c' ⟨_,c'⟩ eK
 ·intro h' _ kk;exact ⟨_,Ns.turn hN fun o e=>kk (YO (Nat.lt_succ_self _)) o (YB _ e)⟩
 ·intro h v μ M d c r;exact .cell (.inl sP) _ v hl c r
 ·exact rv YS (rv hy rfl)
 ·rw [YS] at hy;cases q:y==x with
  | true=>rw [q] at hy;obtain rfl:=Yx hy;exact .inr rfl
  | false=>rw [q] at hy;exact .inl hy
noncomputable def rE (prog:Program)(w:World)(A:Around)(μ Mut:List Addr)(env:Env)(e:PySem.Expr)(s:Shared)(kk:List D→Prop):Prop:=
 ∀ (Q:Value→Shared→Prop) (E:Value→Shared→Prop),(∀ s₁ it ag xs,aH s s₁→kk xs→nV prog w A μ Mut xs s₁ it ag→Q it ag)→wpAny (model prog w) A (eval e env) (fun v s₁=>wpAny (model prog w) A (pyIter v) Q E s₁) E s
noncomputable def lZ (prog:Program)(w:World)(A:Around)(μ Mut:List Addr)(env:Env)(e:PySem.Expr)(s:Shared)(kk:List D→Prop):Prop:=
 ∀ (Q:Value→Shared→Prop) (E:Value→Shared→Prop),(∀ s₁ it ag xs,aH s s₁→kk xs→EU prog w A μ Mut xs s₁ it ag→Q it ag)→wpAny (model prog w) A (eval e env) (fun v s₁=>wpAny (model prog w) A (pyIter v) Q E s₁) E s
theorem rE.c {e:PySem.Expr}{kk:List D→Prop}(x:rE prog w A μ Mut env e s kk):lZ prog w A μ Mut env e s kk:=fun Q E h=>x Q E fun s₁ it ag xs g k i=>h s₁ it ag xs g k i.c
theorem LP {b Da X Co:Addr}{wr Mut:List Addr}:b∈Da::X::(wr++Co::Mut)↔b=Da∨b=X∨b∈wr∨b=Co∨b∈Mut:=by rw [YC,YC,Yr,YC]
theorem zW {C:Addr→Prop}{Da X Co:Addr}{wr Mut:List Addr}(h1:C Da)(h2:C X)(h3:∀ b∈wr,C b)(h4:C Co)(h5:∀ b∈Mut,C b){b:Addr}(hm:b∈Da::X::(wr++Co::Mut)):C b:=
 (LP.mp hm).elim (fun e=>e▸h1) fun hm=>hm.elim (fun e=>e▸h2) fun hm=>hm.elim (h3 b) fun hm=>hm.elim (fun e=>e▸h4) (h5 b)
theorem BN {elt iter:PySem.Expr}{x:Str}{px:Pos}{ifs:List PySem.Expr}{scope:Scope}{cl:List (Str×Addr)}{pos:Pos}{kk:List D→Prop}{k:Nat→List D→Prop}{use:Option (Value→Sem Unit)}{Q:Value→Shared→Prop}{E:Value→Shared→Prop}(F:Fm C μ Mut env ρ s)
  (Gu:lZ prog w A μ Mut env iter s kk) (AE:closureFor scope env=pure cl) (VK:X3 prog w A scope env cl x) (fx:scope.kind=.function)
  (Gz:∀ y∈scope.names,y.2=.local→scope.names.lookup y.1=some .local) (hs:∀ v,foldedSetIterable iter env v=pure v)
  (AB:J3 env scope cl μ Mut s.heap ρf)
  (turn:∀ xs,kk xs→xs.length≤sizeLine∧∃ (p:D→Bool) (Inv:Nat→List D→Nat→Prop),(∀ i ds t t',t≤t'→Inv i ds t→Inv i ds t')∧Inv 0 [] s.toks∧(∀ L oa nU i d ds s',xs[i]? = some d→Inv i ds s'.toks→Fm C μ nU (compEnvC scope oa L env) ((x,d)::ρf) s'→Xi s.heap s'.heap→s.toks≤s'.toks→(∀ b∈Mut,b∈nU)→(∀ b∈nU,b∈Mut∨s.heap.get? b=none)→s.heap.get? L=none→
    (∀ y c,oa.lookup y=some c→cl.lookup y=some c∨s.heap.get? c=none)→
   X2 (model prog w) A (i8 ifs (compEnvC scope oa L env)) s' (p d)∧(p d=true→∀ fc,aH s' fc→a5 (model prog w) A (eval elt (compEnvC scope oa L env)) fc fun v aE=>∃ e,Inv (i+1) (ds++[e]) aE.toks∧W_ (Xa μ nU) aE.heap e v)∧(p d=false→Inv (i+1) ds s'.toks))∧∀ ds t,Inv xs.length ds t→k t ds)
  (fin:∀ s' ds a vs n Co m,k s'.toks ds→aH s s'→s.heap.get? a=none→s'.heap.get? a=some { cls:=.type "list",data:=.seq (List.toArray vs) n }→au (Xa μ Mut) s'.heap ds vs→(∀ b o,b≠Co→s'.heap.get? b=some o→s'.heap.get? b=some o)→s.heap.get? Co=none→Co≠a→s'.heap.Ns Co m→
   au (Xa μ (Co::Mut)) s'.heap ds vs→compPost (model prog w) A E use Q (.ref a) Co (.ok .next) s'):
  wpAny (model prog w) A (comprehension (.ListComp elt [⟨.Name x px,iter,ifs,0⟩] scope pos) scope env iter.pos (newList []) false (eval iter env) use) Q E s:=by
 refine wpAny_comprehension_free rfl hs AE fx Gz (Gu _ _ fun s₁ it ag xs ai Jl hit=>?_);refine pD (fun hsz z_1=>?_) (turn xs Jl);refine Pk (fun p Inv gD h0 turn VQ=>?_) z_1;obtain ⟨I,fp,wr,Pt,St,rfl,W,lN,Mq,I4,wK,ar,na⟩:=hit;have Jo:∀ b∈fp,b<ag.heap.objs.size:=fun b hb=>let ⟨o,e⟩:=Mq b hb;Heap.lt_size e;have G:=ai.trans ar;have aI:=F.grown G;refine wpAny_newObj_type (d9 (VK _ _ _ fun aP rS oa X Hold Has N cenv HF GL mO=>?_));dsimp only at N ⊢;refine rv HF (rv GL ?_);clear HF GL cenv;generalize MH:ag.heap.push { cls:=.type "list",dict:=none,data:=.seq ([]:List Value).toArray }=H2 at N ⊢;have hC:H2.objs.size=ag.heap.objs.size+1:=rv MH.symm (rv (Heap.size_push _ _) rfl);have GO:ag.heap.objs.size+1≤X:=rv hC.symm N.up;have Wn:ag.heap.objs.size≠X:=YO GO;have HI:ag.heap.objs.size∉fp:=fun hm=>Nat.lt_irrefl _ (Jo _ hm);have Wf:X∉fp:=fun hm=>Nat.lt_irrefl _ (Nat.lt_trans (Jo _ hm) (YG (Nat.lt_succ_self _) GO));have HJ:H2.objs.size∉fp:=fun hm=>by have:=Jo _ hm;rw [hC] at this;exact Nat.lt_irrefl _ (Nat.lt_of_succ_lt this)
 have GP:ag.heap.objs.size≠H2.objs.size:=rv hC (YO (Nat.lt_succ_self _));have qR:ag.heap.get? H2.objs.size=none:=gE (rv hC (Nat.le_succ _));have old:Xi ag.heap aP:=fun b o e=>N.old b o (MH▸YB _ e);have ie:aP.PlainList ag.heap.objs.size #[]:=⟨_,N.old _ _ (MH▸Yw _ rfl)⟩;have m8:St 0 aP:=W.frame _ _ _ lN fun b χ o e=>old b o e;have freshD:ag.heap.get? ag.heap.objs.size=none:=gE (YE _);have qQ:ag.heap.get? X=none:=gE (Nat.le_of_succ_le GO);have nL:∀ {b o},ag.heap.get? b=some o→b∉wr++Mut→b∉ag.heap.objs.size::X::(wr++H2.objs.size::Mut):=fun {b o} e n hm=>
  zW (C:=fun b=>ag.heap.get? b=some o→b∉wr++Mut→False) (fun e χ=>cc freshD e) (fun e χ=>cc qQ e) (fun χ m χ n=>n (Yp _ m)) (fun e χ=>cc qR e) (fun χ m χ n=>n (Yn _ m)) hm e n
 have nW:∀ {b o},s.heap.get? b=some o→b∉wr:=fun {b o} e hm=>cc (I4 b hm) (ai.ext b o e);have FO:∀ b o,s.heap.get? b=some o→b∉ag.heap.objs.size::X::wr:=fun b o e hm=>
  (YC.mp hm).elim (fun q=>cc freshD (q▸G.ext b o e)) fun hm=>(YC.mp hm).elim (fun q=>cc qQ (q▸G.ext b o e)) (nW e)
 have nS:∀ {b o},s.heap.get? b=some o→b∉Mut→b∉ag.heap.objs.size::X::(wr++H2.objs.size::Mut):=fun {b o} e n=>nL (G.ext b o e) fun m=>(Yr.mp m).elim (nW e) n;have loop:∀ aE:Shared,aE={ ag with heap:=aP,toks:=rS }→
   codeAny (model prog w) A (.compStart (.ListComp elt [⟨.Name x px,iter,ifs,0⟩] scope pos) 0 (.ref I) (.ref ag.heap.objs.size) (compEnvC scope oa H2.objs.size env))
    (compPost (model prog w) A E use Q (.ref ag.heap.objs.size) H2.objs.size) aE:=by
  rintro aE rfl;have zL:H2.objs.size≠X→H2.objs.size∉ag.heap.objs.size::X::wr:=fun gi hm=>by
   rcases YC.mp hm with q | hm
   ·exact GP q.symm
   ·rcases YC.mp hm with q | hm
    ·exact gi q
    ·exact HJ (W.sub _ hm)
  have Vb:∀ b∈Mut,b∉ag.heap.objs.size::X::wr:=fun b hb=>let ⟨o,e⟩:=F.held b hb;FO b o e;have main:codeAny (model prog w) A (.compLoop (.ListComp elt [⟨.Name x px,iter,ifs,0⟩] scope pos) 0 (.ref I) (.ref ag.heap.objs.size) (compEnvC scope oa H2.objs.size env))
    (compPost (model prog w) A E use Q (.ref ag.heap.objs.size) H2.objs.size) { ag with heap:=aP,toks:=rS }:=by
   refine yj (μ:=μ) (Mut:=H2.objs.size::Mut) (X:=X) (Hold:=Hold) (Has:=Has) (cenv:=compEnvC scope oa H2.objs.size env) p Inv gD (gD _ _ _ _ (Ys G.toks mO) h0) W N.Li N.live N.store Wn HI Wf m8 ie N.hold hsz ?_ ?_ wK ?_
   ·intro i v hv;refine az (fun d hd r=>?_) (na i v hv);refine aF d hd (W_.keeps (P:=Xa μ (wr++Mut)) (P':=Xa μ (ag.heap.objs.size::X::(wr++H2.objs.size::Mut))) (fun χ χ e=>e) (fun a o pa e=>⟨nL e pa,old a o e⟩) r)
   ·intro i d ds s' v hd hI Hy ic HA hk hl eK Vm;have mU:∀ b o,s.heap.get? b=some o→s'.heap.get? b=some o:=fun b o e=>hk b o (FO b o e) (old b o (G.ext b o e));have FF:Fm C μ (ag.heap.objs.size::X::(wr++H2.objs.size::Mut)) (compEnvC scope oa H2.objs.size env) ((x,d)::ρf) s':=by
     refine ⟨F.ok,fun b o e=>mU b o (F.stays b o e),fun b o e=>nS (F.stays b o e) (F.clear b o e),fun y dy e=>?_,fun b hb=>?_,fx,F.globals,F.builtins⟩
     ·rw [YS] at e;cases q:y==x with
      | true=>
       rw [q] at e;obtain rfl:=Yx e;refine rv (YK.mp q) ?_;exact N.var _ _ _ _ _ Hy HA
      | false=>
       rw [q] at e;refine pD (fun kr z_2=>?_) (AB y dy e);refine gf (fun c u hc hi hu=>?_) z_2;refine .cell kr c u ((N.look y q).trans hc) (hi.keeps mU) (W_.keeps (P:=Xa μ Mut) (P':=Xa μ (ag.heap.objs.size::X::(wr++H2.objs.size::Mut))) (fun χ χ e=>e) (fun a o pa ea=>⟨nS ea pa,mU a o ea⟩) hu)
     ·refine zW (C:=fun b=>∃ o,s'.heap.get? b=some o) (hl _ Yu) (hl _ (Yv _ Yu)) (fun b hb=>hl _ (Yv _ (Yv _ hb))) ?_ (fun b hb=>let ⟨o,e⟩:=F.held b hb;⟨o,mU b o e⟩) hb
      by_cases q:H2.objs.size=X
      ·exact rv q (hl _ (Yv _ Yu))
      ·refine MM (fun m o χ χ e χ=>?_) N.ns;exact ⟨o,hk _ o (zL q) e⟩
    refine turn H2.objs.size oa _ i d ds s' hd hI FF mU (Ys G.toks (Ys mO Vm)) (fun b hb=>Yv _ (Yv _ (Yn _ (Yv _ hb)))) (fun b hb=>?_) ?_ fun y c hy=>?_
    ·exact zW (C:=fun b=>b∈Mut∨s.heap.get? b=none) (.inr (Xi.gone G.ext freshD)) (.inr (Xi.gone G.ext qQ)) (fun b hb=>.inr (Xi.gone ai.ext (I4 b hb))) (.inr (Xi.gone G.ext qR)) (fun b hb=>.inl hb) hb
    ·exact Xi.gone G.ext qR
    ·rcases N.mem y c hy with h | h
     ·exact .inl h
     ·refine .inr ?_;refine rv h ?_;exact Xi.gone G.ext qQ
   ·intro h' tk vs ds lJ ic g0 hI hF hk;have LL:=Ys G.toks (Ys mO lJ);obtain ⟨m',Ky⟩:=N.fin h' ic fun gi o e=>hk _ o (zL gi) e;have mU:Xi s.heap h':=fun b o e=>hk b o (FO b o e) (old b o (G.ext b o e));have Wm:s.heap.get? ag.heap.objs.size=none:=Xi.gone G.ext freshD;have Wp:s.heap.get? H2.objs.size=none:=by
     exact Xi.gone G.ext qR
    revert G;refine cS fun cW BS qY χ=>?_;obtain ⟨n,hn⟩:=g0;have rr:au (Xa μ (H2.objs.size::Mut)) h' ds vs:=au.keeps (P:=Xa μ (ag.heap.objs.size::X::(wr++H2.objs.size::Mut))) (P':=Xa μ (H2.objs.size::Mut)) (fun χ χ e=>e) (fun a o pa ea=>⟨fun hm=>pa (Yv _ (Yv _ (Yn _ hm))),ea⟩) hF;exact fin _ _ _ vs n _ m' (VQ _ _ hI) (lA h' tk (rv qY rfl) mU LL) Wm hn (au.keeps (P:=Xa μ (H2.objs.size::Mut)) (P':=Xa μ Mut) (fun χ χ e=>e) (fun a o pa ea=>⟨fun hm=>pa (Yv _ hm),ea⟩) rr) (fun χ χ χ e=>e) Wp (Ne.symm GP) Ky rr
  exact codeAny_compStart_list main (W.self 0 _ _ _ m8 main)
 exact loop _ rfl
noncomputable def b0 (prog:Program)(w:World)(A:Around)(P:Pl)(s:Shared)(f:Value)(ds:List D)(d:D):Prop:=
 ∀ s' vs,aH s s'→au P s'.heap ds vs→Xo (model prog w) A P (call f vs) s' d
theorem bw {f:Value}{args:List (Bool×Sem Value)}{Q:Args→Shared→Prop}{E:Value→Shared→Prop}(hp:args.any (fun x=>x.1)=false)(h:wpAny (model prog w) A (spliced args) (fun vs s'=>Q ⟨vs,[]⟩ s') E s):
  wpAny (model prog w) A (evalArgs f true args []) Q E s:=by
 cases args with
 | nil=>
  unfold evalArgs;show wpAny (model prog w) A (spliced [] >>= _) Q E s;refine Yo (wpAny_mono h (fun vs s' h'=>Yo (YA ?_)) fun χ χ e=>e);exact YV (Yo (YA (Yo (YA (YA h')))))
 | cons p rest=>
  obtain ⟨b,x⟩:=p;cases b with
  | false=>exact Calls.evalArgs_plain h
  | true=>cases hp
theorem au.one {h:Heap}{d:D}{vs:List Value}(r:au P h [d] vs):∃ v,vs=[v]∧W_ P h d v:=by
 cases r with | cons _ v _ _ x r=>cases r;exact aF v rfl x
theorem au.two {h:Heap}{d d':D}{vs:List Value}(r:au P h [d,d'] vs):∃ v v',vs=[v,v']∧W_ P h d v∧W_ P h d' v':=by
 cases r with | cons _ v _ _ x r=>refine az (fun v' e_1 y=>?_) r.one;subst e_1;exact lA v v' rfl x y
theorem au.three {h:Heap}{d d' Po:D}{vs:List Value}(r:au P h [d,d',Po] vs):∃ v v' HZ,vs=[v,v',HZ]∧W_ P h d v∧W_ P h d' v'∧W_ P h Po HZ:=by
 cases r with | cons _ v _ _ x r=>refine gf (fun v' HZ e_2 y z=>?_) r.two;subst e_2;exact Hv v v' HZ rfl x y z
theorem Xg {h:Heap}{xs:List D}{v:Value}(r:W_ P h (.list xs) v):∃ a vs n,v=.ref a∧P.ok a∧h.get? a=some { cls:=.type "list",data:=.seq vs.toArray n }∧au P h xs vs:=by
 cases r with | list _ a vs n p o r=>exact Hv a vs n rfl p o r
theorem a_ {h:Heap}{a:Addr}{vs:List Value}{n:Nat}(o:h.get? a=some { cls:=.type "list",data:=.seq vs.toArray n }):h.IsList a vs.toArray:=(eQ _ o rfl ⟨n,rfl⟩)
theorem xm {v:Value}{xs:List D}{s₁:Shared}(hA:A.handled=none)(F:Fm C μ Mut env ρ s₁)(r:W_ (Xa μ Mut) s₁.heap (.list xs) v)(Q:Value→Shared→Prop)(E:Value→Shared→Prop)
  (k:∀ ag it aE,aH s₁ ag→nV prog w A μ Mut xs ag it aE→Q it aE):wpAny (model prog w) A (pyIter v) Q E s₁:=by
  have ai:=aH.refl s₁;refine fD (fun a vs n e_3 pa o rs=>?_) (Xg r);subst e_3;have hl:=a_ o;refine wpAny_pyIter_list hl ?_;have e1:s₁.heap.get? s₁.heap.objs.size=none:=by
   exact gE (YE _)
  have gi:a≠s₁.heap.objs.size:=fun q=>by rw [← q,o] at e1;exact iZ e1.symm
  have W:=Walks.list (prog:=prog) (w:=w) hA s₁.heap.objs.size a gi vs.toArray;have hsz:vs.toArray.size=xs.length:=by refine rv rs.length.symm ?_;simp
  rw [hsz] at W;refine k s₁ _ _ ai ⟨_,_,_,_,_,rfl,W,⟨(eQ _ (Yw _ rfl) rfl rfl),hl.at fun o' e'=>YB _ e'⟩,?_,?_,?_,.heap (Xi.push _ _),fun b hb=>by
   rcases YC.mp hb with rfl | hb
   ·exact .inl Yu
   ·exact rv (Yq.mp hb) (.inr pa),?_⟩
  ·intro b hb;rcases YC.mp hb with rfl | hb
   ·exact ⟨_,Yw _ rfl⟩
   ·exact rv (Yq.mp hb) ⟨_,YB _ o⟩
  ·intro b hb;exact rv (Yq.mp hb) e1
  ·intro i h' st b hb;refine rv (Yq.mp hb) ?_;refine az (fun o' e' χ=>?_) st.1;exact ⟨o',e'⟩
  ·intro i v hv;have hi:i<vs.length:=by
    have:vs[i]? = some v:=by simpa using hv
    exact (YD.mp this).1
   have hd:xs[i]? = some (xs[i]'(rv rs.length.symm hi)):=YM _;refine az (fun u hu ru=>?_) (rs.at i hd);have:u=v:=by
    have q:vs[i]? = some v:=by simpa using hv
    rw [hu] at q;exact Yx q
   subst this;refine aF _ hd ?_;exact (ru.apart (new:=[s₁.heap.objs.size]) fun b hb=>rv (Yq.mp hb) e1).ext (Xi.push _ _)
theorem a9 (h:Heap):h.get? h.objs.size=none:=by
 exact gE (YE _)
theorem jd {a c:Int}{n i:Nat}(h:i<n):(rangeInts a c n)[i]? = some (a+i*c):=by
 unfold rangeInts;refine rv (Y2) (rv (List.getElem?_range h) ?_);rfl
noncomputable def ed (a b c:Int):List D:=(rangeInts a c (Builtin.Range.rangeSize a b c).toNat).map D.int
theorem fo (a b c:Int)(hc:c≠0):0≤Builtin.Range.rangeSize a b c:=by
 unfold Builtin.Range.rangeSize;split
 ·split
  ·have:=Int.ediv_nonneg (a:=b-a-1) (b:=c) (by lia -abstractProof) (by lia -abstractProof);exact K3 this
  ·decide
 ·split
  ·have:=Int.ediv_nonneg (a:=a-b-1) (b := -c) (by lia -abstractProof) (by lia -abstractProof);exact K3 this
  ·decide
theorem um {v:Value}{a b c:Int}{s₁:Shared}(hA:A.handled=none)(hc:c≠0)(L7:Builtin.Range.small a b c=true)(F:Fm C μ Mut env ρ s₁)(r:W_ (Xa μ Mut) s₁.heap (.ip a b c) v)(Q:Value→Shared→Prop)(E:Value→Shared→Prop)
  (k:∀ ag it aE,aH s₁ ag→nV prog w A μ Mut (ed a b c) ag it aE→Q it aE):wpAny (model prog w) A (pyIter v) Q E s₁:=by
  have ai:=aH.refl s₁;cases r with
  | ip _ _ _ r t u v p o=>
   refine wpAny_pyIter_range o L7 ?_;have e1:=a9 s₁.heap;have W:=(Walks.range (prog:=prog) (w:=w) hA s₁.heap.objs.size a c (Builtin.Range.rangeSize a b c).toNat).bound;have hl:(ed a b c).length=(Builtin.Range.rangeSize a b c).toNat:=by simp [ed,rangeInts]
   rw [← hl] at W;refine k s₁ _ _ ai ⟨_,_,_,_,_,rfl,W,?_,?_,?_,?_,.heap (Xi.push _ _),fun b hb=>.inl hb,?_⟩
   ·show (s₁.heap.push _).get? _=_;refine rv (Yw _ rfl) (rv hl ?_);have:=fo a b c hc;simp [Int.toNat_of_nonneg this]
   ·intro b hb;exact rv (Yq.mp hb) ⟨_,Yw _ rfl⟩
   ·intro b hb;exact rv (Yq.mp hb) e1
   ·intro i h' st b hb;exact rv (Yq.mp hb) ⟨_,st⟩
   ·intro i v r_5;revert r_5;refine pD fun hi z_1=>?_;obtain ⟨t,rfl⟩:=z_1;refine aF (.int (a+i*c)) ?_ (.int _ t);rw [ed,Y2,jd (by exact rv hl.symm hi)];rfl
theorem y3 {v:Value}{xs:List D}{s₁:Shared}(hA:A.handled=none)(F:Fm C μ Mut env ρ s₁)(r:W_ (Xa μ Mut) s₁.heap (.tup xs) v)(Q:Value→Shared→Prop)(E:Value→Shared→Prop)
  (k:∀ ag it aE,aH s₁ ag→nV prog w A μ Mut xs ag it aE→Q it aE):wpAny (model prog w) A (pyIter v) Q E s₁:=by
  have ai:=aH.refl s₁;obtain ⟨a,vs,n,rfl,pa,o,rs⟩:∃ a vs n,v=.ref a∧(Xa μ Mut).ok a∧s₁.heap.get? a=some { cls:=.type "tuple",data:=.seq vs.toArray n }∧au (Xa μ Mut) s₁.heap xs vs:=by
   cases r with | tup _ a vs n p o r=>exact Hv a vs n rfl p o r
  have hl:s₁.heap.IsTuple a vs.toArray:=(eQ _ o rfl ⟨n,rfl⟩);refine wpAny_pyIter_tuple hl ?_;have e1:=a9 s₁.heap;have gi:a≠s₁.heap.objs.size:=fun q=>by rw [← q,o] at e1;exact iZ e1.symm
  have W:=Walks.tuple (prog:=prog) (w:=w) hA s₁.heap.objs.size a gi vs.toArray;have hsz:vs.toArray.size=xs.length:=by refine rv rs.length.symm ?_;simp
  rw [hsz] at W;refine k s₁ _ _ ai ⟨_,_,_,_,_,rfl,W,⟨(eQ _ (Yw _ rfl) rfl rfl),hl.at fun o' e'=>YB _ e'⟩,?_,?_,?_,.heap (Xi.push _ _),fun b hb=>by
   rcases YC.mp hb with rfl | hb
   ·exact .inl Yu
   ·exact rv (Yq.mp hb) (.inr pa),?_⟩
  ·intro b hb;rcases YC.mp hb with rfl | hb
   ·exact ⟨_,Yw _ rfl⟩
   ·exact rv (Yq.mp hb) ⟨_,YB _ o⟩
  ·intro b hb;exact rv (Yq.mp hb) e1
  ·intro i h' st b hb;refine rv (Yq.mp hb) ?_;refine az (fun o' e' χ=>?_) st.1;exact ⟨o',e'⟩
  ·intro i v hv;have hi:i<vs.length:=by
    have:vs[i]? = some v:=by simpa using hv
    exact (YD.mp this).1
   have hd:xs[i]? = some (xs[i]'(rv rs.length.symm hi)):=YM _;refine az (fun u hu ru=>?_) (rs.at i hd);have:u=v:=by
    have q:vs[i]? = some v:=by simpa using hv
    rw [hu] at q;exact Yx q
   subst this;refine aF _ hd ?_;exact (ru.apart (new:=[s₁.heap.objs.size]) fun b hb=>rv (Yq.mp hb) e1).ext (Xi.push _ _)
theorem uo {v:Value}{b:Array UInt8}{s₁:Shared}(hA:A.handled=none)(F:Fm C μ Mut env ρ s₁)(r:W_ (Xa μ Mut) s₁.heap (.bytes b) v)(Q:Value→Shared→Prop)(E:Value→Shared→Prop)
  (k:∀ ag it aE,aH s₁ ag→nV prog w A μ Mut (b.toList.map fun c=>.int (c.toNat:Int)) ag it aE→Q it aE):wpAny (model prog w) A (pyIter v) Q E s₁:=by
  have ai:=aH.refl s₁;refine W_.lU r fun t=>?_;refine KBw.pyIter_bytes ?_;have e1:=a9 s₁.heap;have W:=KBw.walks (prog:=prog) (w:=w) hA s₁.heap.objs.size b t;have hl:(b.toList.map fun c=>D.int (c.toNat:Int)).length=b.size:=by simp
  rw [← hl] at W;refine k s₁ _ _ ai ⟨_,_,_,_,_,rfl,W,(eQ _ (Yw _ rfl) rfl rfl),?_,?_,?_,.heap (Xi.push _ _),fun b hb=>.inl hb,?_⟩
  ·intro b hb;exact rv (Yq.mp hb) ⟨_,Yw _ rfl⟩
  ·intro b hb;exact rv (Yq.mp hb) e1
  ·intro i h' st b hb;refine rv (Yq.mp hb) ?_;revert st;refine az fun o' e' χ=>?_;exact ⟨o',e'⟩
  ·intro i v r_6;revert r_6;refine cS fun c u hc e_2=>?_;subst e_2;refine aF (.int (c.toNat:Int)) ?_ (.int _ u);refine rv (Y2) (rv (Array.getElem?_toList) (rv hc ?_));rfl
theorem Bc {n:Int}(L:Xk P s.heap):b0 prog w A P s (.type "range") [.int n] (.ip 0 n 1):=fun s' vs g r Q E k=>by
 refine az (fun v e_1 x=>?_) r.one;subst e_1;refine W_.jD x fun ϑ=>?_;exact call_range_1 (k _ _ (lA _ _ rfl (Xi.push _ _) PI) (.ip _ _ _ _ _ _ _ (L.grown g).size (IsRange.new ..)))
theorem Bb {a b:Int}(L:Xk P s.heap):b0 prog w A P s (.type "range") [.int a,.int b] (.ip a b 1):=fun s' vs g r Q E k=>by
 refine gf (fun v v' e_2 x y=>?_) r.two;subst e_2;refine W_.jD x fun ϑ=>?_;refine W_.jD y fun ϑ=>?_;exact call_range_2 (k _ _ (lA _ _ rfl (Xi.push _ _) (Nat.le_succ _)) (.ip _ _ _ _ _ _ _ (L.grown g).size (IsRange.new ..)))
theorem Ba {a b c:Int}(L:Xk P s.heap)(hc:c≠0)(hp:Builtin.divisionGoesByPylong (b-a) c=false):b0 prog w A P s (.type "range") [.int a,.int b,.int c] (.ip a b c):=fun s' vs g r Q E k=>by
 refine fD (fun v v' HZ e_3 x y z=>?_) r.three;subst e_3;refine W_.jD x fun ϑ=>?_;refine W_.jD y fun ϑ=>?_;refine W_.jD z fun ϑ=>?_;exact call_range_3 hc (k _ _ (lA _ _ rfl (Xi.push _ _) (YE _)) (.ip _ _ _ _ _ _ _ (L.grown g).size (IsRange.new ..))) (.inl hp)
theorem vg {xs:List D}(hs:xs.length<2^63):b0 prog w A P s (.builtin "len") [.list xs] (.int xs.length):=fun s' vs g r Q E k=>by
 refine az (fun v e_4 x=>?_) r.one;subst e_4;refine fD (fun a us n e_5 pa o rs=>?_) (Xg x);subst e_5;have hz:us.toArray.size=xs.length:=by refine rv rs.length.symm ?_;simp
 refine Calls.call_len_list (a_ o) (by refine rv hz ?_;exact_mod_cast hs) ?_;refine rv hz ?_;exact k _ _ (.tok _ 2) (.int ..)
theorem ym {x:Str}(hs:x.length<2^63):b0 prog w A P s (.builtin "len") [.str x] (.int x.length):=fun s' vs g r Q E k=>by
 refine az (fun v e_6 x=>?_) r.one;subst e_6;refine W_.cK x fun ϑ=>?_;exact PyProof.Rows.len_str (by have:(_:Int)<2^63:=Int.ofNat_lt.mpr hs;exact P1 hs) (k _ _ (.tok _ 2) (.int ..))
noncomputable def kW:PySem.Expr→Bool
 | .Slice ..=>true
 | _=>false
theorem d6 {sl:PySem.Expr}(h:kW sl=false)(o i:Value):subscripted sl false o i=operate [o,i] (getItem o i):=by
 cases sl<;>first | rfl | cases h
noncomputable def Xs (xs:List D)(lo hi st:Option Int):List D:=(sliceRange (sliceBounds lo hi st xs.length).1 (sliceBounds lo hi st xs.length).2.1 (sliceBounds lo hi st xs.length).2.2).filterMap (xs[·]?)
theorem au.pick {h:Heap}{xs:List D}{vs:List Value}(r:au P h xs vs):∀ is:List Nat,au P h (is.filterMap (xs[·]?)) (is.filterMap (vs[·]?))
 | []=>.nil
 | i::is=>by
  cases e:xs[i]? with
  | none=>
   have e':vs[i]? = none:=by
    rw [List.getElem?_eq_none_iff] at e ⊢;exact rv r.length e
   refine rv (List.filterMap_cons_none e) (rv (List.filterMap_cons_none e') ?_);exact r.pick is
  | some d=>
   refine az (fun v hv x=>?_) (r.at i e);refine rv (List.filterMap_cons_some e) (rv (List.filterMap_cons_some hv) ?_);exact .cons _ _ _ _ x (r.pick is)
theorem oQ {l u st:Option PySem.Expr}{p:Pos}(o i:Value):∃ ops,subscripted (.Slice l u st p) false o i=operate ops (getItem o i):=by
 cases st with
 | none=>exact ⟨_,rfl⟩
 | some e=>exact ⟨_,rfl⟩
noncomputable def kG (f:D→D→Option Bool):List D→List D→Option Bool
 | [],[]=>some true
 | x::xs,y::ys=>(f x y).bind fun a=>(kG f xs ys).map (a&&·)
 | _,_=>none
theorem kF {f:D→D→Option Bool}{x:D}{xs ys:List D}{b:Bool}(e:kG f (x::xs) ys=some b):∃ y zs a c,ys=y::zs∧f x y=some a∧kG f xs zs=some c∧(a&&c)=b:=by
 cases ys with
 | nil=>cases e
 | cons y zs=>
  refine az (fun a ha e=>?_) (Option.bind_eq_some_iff.mp e);refine az (fun c hc e=>?_) (YI.mp e);exact Vh y zs a c rfl ha hc e
theorem s7 {f:D→D→Option Bool}{ys:List D}{b:Bool}(e:kG f [] ys=some b):ys=[]∧b=true:=by
 cases ys<;>cases e;exact ⟨rfl,rfl⟩
noncomputable def OD:D→Option Unit
 | .none=>some ()
 | _=>none
noncomputable def X1:D→Option Bool
 | .bool b=>some b
 | _=>none
noncomputable def XY:D→Option Int
 | .int b=>some b
 | _=>none
noncomputable def XT:D→Option Str
 | .str b=>some b
 | _=>none
noncomputable def XW:D→Option (List D)
 | .list b=>some b
 | _=>none
noncomputable def Yj (f:List D→List D→Option Bool)(d d':D):Option Bool:=match d with
 | .none=>(OD d').map fun χ=>true
 | .bool a=>(X1 d').map (a==·)
 | .int a=>(XY d').map (a==·)
 | .str a=>(XT d').map (a==·)
 | .list xs=>(XW d').bind (f xs)
 | _=>none
noncomputable def lT:Nat→D→D→Option Bool
 | 0=>Yj fun χ χ=>none
 | n+1=>Yj fun xs ys=>if xs.length=ys.length then kG (lT n) xs ys else some false
theorem Ag {d:D}{b:Unit}(h:OD d=some b):d=.none:=by cases d<;>first | rfl | cases h
theorem tD {d:D}{b:Bool}(h:X1 d=some b):d=.bool b:=by cases d<;>cases h;rfl
theorem m0 {d:D}{b:Int}(h:XY d=some b):d=.int b:=by cases d<;>cases h;rfl
theorem mc {d:D}{b:Str}(h:XT d=some b):d=.str b:=by cases d<;>cases h;rfl
theorem sF {d:D}{b:List D}(h:XW d=some b):d=.list b:=by cases d<;>cases h;rfl
inductive EW (f:List D→List D→Option Bool):D→D→Bool→Prop where
 | none:EW f .none .none true
 | bool (a b:Bool):EW f (.bool a) (.bool b) (a==b)
 | int (a b:Int):EW f (.int a) (.int b) (a==b)
 | str (a b:Str):EW f (.str a) (.str b) (a==b)
 | list (xs ys:List D)(b:Bool)(h:f xs ys=some b):EW f (.list xs) (.list ys) b
theorem jC {f:List D→List D→Option Bool}{d d':D}{b:Bool}(h:Yj f d d'=some b):EW f d d' b:=by
 unfold Yj at h;cases d with
 | none=>refine az (fun u e e_1=>?_) (YI.mp h);subst e_1;exact rv (Ag e) .none
 | bool a=>refine az (fun u e e_2=>?_) (YI.mp h);subst e_2;exact rv (tD e) (.bool a u)
 | int a=>refine az (fun u e e_3=>?_) (YI.mp h);subst e_3;exact rv (m0 e) (.int a u)
 | str a=>refine az (fun u e e_4=>?_) (YI.mp h);subst e_4;exact rv (mc e) (.str a u)
 | list xs=>refine az (fun u e q=>?_) (Option.bind_eq_some_iff.mp h);exact rv (sF e) (.list xs u b q)
 | _=>exact iZ h
theorem ya {f:D→D→Option Bool}{h:Heap}(hf:∀ d d' b v,f d d'=some b→W_ P h d v→W_ P' h d' v→b=true){xs ys:List D}{vs:List Value}{b:Bool}(e:kG f xs ys=some b)(r:au P h xs vs)(r':au P' h ys vs):b=true:=by
 revert ys b;refine au.ind (motive:=fun xs vs=>∀ {ys b},kG f xs ys=some b→au P' h ys vs→b=true) (fun e χ=>(s7 e).2) (fun d v ds vs x χ ih ys b e r'=>?_) r;refine KH (fun y zs a c e_5 ha hc e_6=>?_) (kF e);subst e_5;subst e_6;cases r' with
 | cons _ _ _ _ x' r'=>refine rv (hf _ _ _ _ ha x x') (rv (ih hc r') ?_);rfl
theorem xQ {h:Heap}{xs ys:List D}{v:Value}(r:W_ P h (.list xs) v)(r':W_ P' h (.list ys) v):∃ vs,au P h xs vs∧au P' h ys vs:=by
 refine fD (fun a vs n e_7 χ o rs=>?_) (Xg r);subst e_7;refine fD (fun a' n8 n' e χ o' n9=>?_) (Xg r');cases e;rw [o] at o';have ev:vs=n8:=by injection o' with o';injection o' with _ _ o' _;injection o' with o' _;simpa using o'
 exact aF vs rs (ev▸n9)
theorem s9 {f:List D→List D→Option Bool}{h:Heap}{d d':D}{b:Bool}{v:Value}(e:EW f d d' b)(r:W_ P h d v)(r':W_ P' h d' v)(hl:∀ xs ys vs,f xs ys=some b→au P h xs vs→au P' h ys vs→b=true):b=true:=by
 cases e with
 | none=>rfl
 | bool a b=>have q:=r.inv;rw [r'.inv] at q;cases q;exact beq_self_eq_true _
 | int a b=>obtain ⟨t,q⟩:=r.inv;obtain ⟨t',q'⟩:=r'.inv;rw [q'] at q;cases q;exact beq_self_eq_true _
 | str a b=>obtain ⟨t,q⟩:=r.inv;obtain ⟨t',q'⟩:=r'.inv;rw [q'] at q;cases q;exact beq_self_eq_true _
 | list xs ys b h=>refine az (fun vs r1 r2=>?_) (xQ r r');exact hl xs ys vs h r1 r2
theorem s8 {h:Heap}:∀ (n:Nat) (d d':D) (b:Bool) (v:Value),lT n d d'=some b→W_ P h d v→W_ P' h d' v→b=true
 | 0,d,d',b,v,e,r,r'=>s9 (jC e) r r' fun χ χ χ q=>nomatch q
 | n+1,d,d',b,v,e,r,r'=>s9 (jC e) r r' fun xs ys vs q r1 r2=>by
  split at q
  ·exact ya (s8 n) q r1 r2
  ·rename_i z;exact absurd (r1.length.symm.trans r2.length) z
theorem Du {f:D→D→Option Bool}:∀ {xs ys b},kG f xs ys=some b→∀ j,∀ (h1:j<xs.length) (h2:j<ys.length),∃ c,f xs[j] ys[j]=some c:=by
 intro xs
 induction xs with
 | nil=>
  intro χ χ χ j h1 χ;exact absurd h1 (Nat.not_lt_zero j)
 | cons x xs ih=>
  intro χ b e j h1 h2;refine KH (fun y ys a c e_8 ha hc e_9=>?_) (kF e);subst e_8;subst e_9;cases j with
  | zero=>exact ⟨a,ha⟩
  | succ j=>exact ih hc j (Nat.lt_of_succ_lt_succ h1) (Nat.lt_of_succ_lt_succ h2)
theorem nz {f:D→D→Option Bool}:∀ {xs ys b},kG f xs ys=some b→(List.range xs.length).all (fun j=>match xs[j]?,ys[j]? with | some x,some y=>(f x y).getD false | _,_=>false)=b
 | [],ys,b,e=>(s7 e).2.symm
 | x::xs,_,b,e=>by
  refine KH (fun y ys a c e_10 ha hc e_11=>?_) (kF e);subst e_10;subst e_11;refine rv List.length_cons (rv List.range_succ_eq_map (rv List.all_cons (rv List.all_map ?_)));exact congr (congrArg and (congrArg (·.getD false) ha)) (nz hc)
theorem v4 {f:List D→List D→Option Bool}{A:Around}{s:Shared}{d d':D}{b:Bool}{v v':Value}(e:EW f d d' b)(r:W_ P s.heap d v)(r':W_ P' s.heap d' v')
  (hl:∀ xs ys,d=.list xs→d'=.list ys→f xs ys=some b→(SeqAt.RcAt A s v v' b)∧SeqAt.EqAt A s v v' b):(SeqAt.RcAt A s v v' b)∧SeqAt.EqAt A s v v' b:=by
 cases e with
 | none=>rw [r.inv,r'.inv];exact ⟨SeqAt.RcAt.none_none,SeqAt.EqAt.same _⟩
 | bool a b=>rw [r.inv,r'.inv];exact ⟨SeqAt.RcAt.bool_bool _ _,SeqAt.EqAt.bool_bool _ _⟩
 | int a b=>obtain ⟨t,q⟩:=r.inv;obtain ⟨t',q'⟩:=r'.inv;exact rv q (rv q' ⟨SeqAt.RcAt.int_int _ _ _ _,SeqAt.EqAt.int_int _ _ _ _⟩)
 | str a b=>obtain ⟨t,q⟩:=r.inv;obtain ⟨t',q'⟩:=r'.inv;exact rv q (rv q' ⟨SeqAt.RcAt.str_str _ _ _ _,SeqAt.EqAt.str_str _ _ _ _⟩)
 | list xs ys b h=>exact hl xs ys rfl rfl h
theorem v0 {f:D→D→Option Bool}{h:Heap}{xs ys:List D}{vs n8:List Value}{b:Bool}(e:kG f xs ys=some b)(r:au P h xs vs)(r':au P' h ys n8){j:Nat}(h1:j<vs.toArray.size)(h2:j<n8.toArray.size):
  ∃ x y c,f x y=some c∧W_ P h x vs.toArray[j]∧W_ P' h y n8.toArray[j]∧(match xs[j]?,ys[j]? with | some x,some y=>(f x y).getD false | _,_=>false)=c:=by
 have j1:j<xs.length:=rv r.length.symm h1;have j2:j<ys.length:=rv r'.length.symm h2;obtain ⟨c,hc⟩:=Du e j j1 j2;refine az (fun u Kt ru=>?_) (r.at j (YM j1));refine az (fun u' L5 Lo=>?_) (r'.at j (YM j2));have e1:vs.toArray[j]=u:=(YD.mp Kt).2;have e2:n8.toArray[j]=u':=(YD.mp L5).2;refine rv e1 (rv e2 (rv (YM j1) (rv (YM j2) ?_)));exact Hv _ _ c hc ru Lo (congrArg (·.getD false) hc)
theorem zm:∀ (n:Nat) (A:Around) (s:Shared) (d d':D) (b:Bool) (v v':Value),A.units+n<cLine→lT n d d'=some b→W_ P s.heap d v→W_ P' s.heap d' v'→
  (SeqAt.RcAt A s v v' b)∧SeqAt.EqAt A s v v' b
 | 0,A,s,d,d',b,v,v',hu,e,r,r'=>v4 (jC e) r r' fun χ χ χ χ q=>nomatch q
 | n+1,A,s,d,d',b,v,v',hu,e,r,r'=>v4 (jC e) r r' fun xs ys hd x6 q=>by
  subst hd x6;refine fD (fun a vs k e_12 p o rs=>?_) (Xg r);subst e_12;refine fD (fun a' n8 k' e_13 p' o' n9=>?_) (Xg r');subst e_13;have L:=a_ o;have L':=a_ o';have rc:SeqAt.RcAt A s (.ref a) (.ref a') b:=by
   split at q
   ·rename_i hl;have hz:vs.toArray.size=n8.toArray.size:=(rs.length.trans hl).trans n9.length.symm;have:=SeqAt.RcAt.lists (A:=A) (s:=s) (e:=fun j=>match xs[j]?,ys[j]? with | some x,some y=>(lT n x y).getD false | _,_=>false) L L' hz (Ka hu) (fun j h1 h2=>by
     refine fD (fun x y c hc r1 r2 ec=>?_) (v0 q rs n9 h1 h2);refine rv ec ?_;exact (zm n A.in1 s x y c _ _ (by show A.units+1+n<cLine;exact NB hu) hc r1 r2).2)
    have hs:vs.toArray.size=xs.length:=rs.length;rw [hs,nz q] at this;exact this
   ·rename_i hl;obtain rfl:=Yx q;exact SeqAt.RcAt.lists_lengths L L' (bne_iff_ne.mpr fun z=>hl ((rs.length.symm.trans z).trans n9.length)) (Ka hu)
  refine ⟨rc,?_⟩
  by_cases z:a=a'
  ·subst z;have:b=true:=s8 (n+1) (.list xs) (.list ys) b (.ref a) e r r';subst this;exact SeqAt.EqAt.same _
  ·exact SeqAt.EqAt.of_refs z rc
theorem Ij:∀ (n:Nat) (A:Around) (s:Shared) (xs ys:List D) (b:Bool) (v v':Value),A.units+(n+1)<cLine→lT (n+1) (.list xs) (.list ys)=some b→W_ P s.heap (.list xs) v→W_ P' s.heap (.list ys) v'→
  SeqAt.RcNeAt A s v v' (!b):=by
 intro n A s xs ys b v v' hu e rr BC;refine fD (fun a vs k e_14 p o r=>?_) (Xg rr);subst e_14;refine fD (fun a' n8 k' e_15 p' o' r'=>?_) (Xg BC);subst e_15;have L:=a_ o;have L':=a_ o';have q:(if xs.length=ys.length then kG (lT n) xs ys else some false)=some b:=e;split at q
 ·rename_i hl;have hz:vs.toArray.size=n8.toArray.size:=(r.length.trans hl).trans r'.length.symm;have:=SeqAt.RcNeAt.lists (A:=A) (s:=s) (e:=fun j=>match xs[j]?,ys[j]? with | some x,some y=>(lT n x y).getD false | _,_=>false) L L' hz (Ka hu) (fun j h1 h2=>by
   refine fD (fun x y c hc r1 r2 ec=>?_) (v0 q r r' h1 h2);refine rv ec ?_;exact (zm n A.in1 s x y c _ _ (by show A.units+1+n<cLine;exact NB hu) hc r1 r2).2)
  have hs:vs.toArray.size=xs.length:=r.length;rw [hs,nz q] at this;exact this
 ·rename_i hl;obtain rfl:=Yx q;exact SeqAt.RcNeAt.lists_lengths L L' (bne_iff_ne.mpr fun z=>hl ((r.length.symm.trans z).trans r'.length)) (Ka hu)
theorem IE {xs ys:List D}{b:Bool}(n:Nat)(hu:A.units+(n+1)<cLine)(e:lT (n+1) (.list xs) (.list ys)=some b):jN (compareOp .NotEq) prog w A P (.list xs) (.list ys) (.bool (!b)):=fun s v v' χ r r' Q E h=>
 Ij n A s xs ys b v v' hu e r r' prog w E Q (h _ _ (.refl _) (.bool _))
theorem II {d d':D}{b:Bool}(n:Nat)(hu:A.units+n<cLine)(e:lT n d d'=some b):jN (compareOp .Eq) prog w A P d d' (.bool b):=fun s v v' χ r r' Q E h=>
 (zm n A s d d' b v v' hu e r r').1 prog w E Q (h _ _ (.refl _) (.bool _))
noncomputable def XD (x:D):List D→Option Bool
 | []=>some false
 | d::ds=>match lT 0 d x,XD x ds with
  | some a,some b=>some (a||b)
  | _,_=>none
noncomputable def dG (x:D)(y:Value):Bool:=match x,y with
 | .int k,.int i _=>i==k
 | .str k,.str i _=>i==k
 | _,_=>false
noncomputable def Xm:D→Bool
 | .int _ | .str _=>true
 | _=>false
theorem Aj {x d:D}{v u:Value}{a:Bool}(hx:Xm x=true)(r:W_ P s.heap x v)(ru:W_ P s.heap d u)(ha:lT 0 d x=some a):dG x u=a∧SeqAt.EqAt A s u v (dG x u):=by
 cases jC ha with
 | int a b=>obtain ⟨t,q⟩:=r.inv;obtain ⟨t',q'⟩:=ru.inv;exact rv q (rv q' ⟨rfl,SeqAt.EqAt.int_int _ _ _ _⟩)
 | str a b=>obtain ⟨t,q⟩:=r.inv;obtain ⟨t',q'⟩:=ru.inv;exact rv q (rv q' ⟨rfl,SeqAt.EqAt.str_str _ _ _ _⟩)
 | _=>cases hx
set_option tactic.hygienic true in
theorem m5 {x:D}{v:Value}(hx:Xm x=true)(r:W_ P s.heap x v){xs:List D}{vs:List Value}{b:Bool}(e:XD x xs=some b)(rs:au P s.heap xs vs):
  vs.any (dG x)=b∧∀ y∈vs,SeqAt.EqAt A s y v (dG x y):=by
 revert b;refine au.ind (motive:=fun xs vs=>∀ {b:Bool},XD x xs=some b→vs.any (dG x)=b∧∀ y∈vs,SeqAt.EqAt A s y v (dG x y)) (fun {b} e=>⟨Yx e,fun y m=>absurd m List.not_mem_nil⟩) (fun d u ds us ru U2 ih=>?_) rs;intro b e;unfold XD at e;split at e
 ·rename_i a c ha hc;obtain rfl:=Yx e;have key:dG x u=a∧SeqAt.EqAt A s u v (dG x u):=Aj hx r ru ha;refine ⟨rv List.any_cons (rv key.1 (rv (ih hc).1 rfl)),fun y hy=>?_⟩;rcases YC.mp hy with rfl | hy
  ·exact key.2
  ·exact (ih hc).2 y hy
 ·exact iZ e
theorem LH {x:D}{xs:List D}{b:Bool}(hx:Xm x=true)(e:XD x xs=some b):jN (compareOp .In) prog w A P x (.list xs) (.bool b):=fun s v v' χ r r' Q E h=>by
 refine fD (fun a vs n e_1 χ o rs=>?_) (Xg r');subst e_1;obtain ⟨i1,i2⟩:=m5 (A:=A.in1) hx r e rs;refine SeqAt.in_listAt (dG x) (a_ o) (fun y hy=>i2 y (by simpa using hy)) ?_;refine rv List.any_toArray (rv i1 ?_);exact h _ _ (.refl _) (.bool _)
theorem Ct {x:D}{xs:List D}{b:Bool}(hx:Xm x=true)(e:XD x xs=some b):jN (compareOp .NotIn) prog w A P x (.list xs) (.bool (!b)):=fun s v v' χ r r' Q E h=>by
 refine fD (fun a vs n e_2 χ o rs=>?_) (Xg r');subst e_2;obtain ⟨i1,i2⟩:=m5 (A:=A.in1) hx r e rs;refine SeqAt.notIn_listAt (dG x) (a_ o) (fun y hy=>i2 y (by simpa using hy)) ?_;refine rv List.any_toArray (rv i1 ?_);exact h _ _ (.refl _) (.bool _)
theorem Cu {x y:Str}:jN (compareOp .In) prog w A P (.str y) (.str x) (.bool !(Builtin.Str.occurrences x y 0 x.length 1).isEmpty):=fun s v v' χ r r' Q E h=>by
 obtain ⟨t,rfl⟩:=r.inv;obtain ⟨t',rfl⟩:=r'.inv;exact PySem.P.in_str (h _ _ (.refl _) (.bool _))
theorem FL {xs ys:List D}(hsz:xs.length+ys.length≤sizeLine):jN (binaryOp .Add) prog w A P (.list xs) (.list ys) (.list (xs++ys)):=fun s v v' L r r' Q E h=>by
 refine fD (fun a vs n e_3 χ o rs=>?_) (Xg r);subst e_3;refine fD (fun a' n8 n' e_4 χ o' n9=>?_) (Xg r');subst e_4;refine PySem.P.add_list o o' (h _ _ (.heap (Xi.push _ _)) (.list _ _ (vs++n8) 0 L.size ?_ ((rs.app n9).ext (Xi.push _ _)))) (by simpa [rs.length,n9.length] using hsz);show (s.heap.push _).get? _=_;refine rv (Yw _ rfl) ?_;simp
noncomputable def ms (x:Str)(lo hi st:Option Int):List Nat:=Builtin.Str.strSliceIndices lo hi (st.getD 1) x.length
noncomputable def jG (x:Str)(lo hi st:Option Int):Str:=if (st.getD 1==1&&(ms x lo hi st).length==x.length)=true then x else ⟨((ms x lo hi st).filterMap (x.cps[·]?)).toArray⟩
theorem uB {v:Value}{i:Option Int}(h:IsPart v i):∃ l:Option (Int×Tok),v=partValue l∧l.map (fun x=>x.1)=i:=by
 cases h with
 | none=>exact aF none rfl rfl
 | int i t=>exact aF (some (i,t)) rfl rfl
noncomputable def eX:List D→Option (List Int)
 | []=>some []
 | d::ds=>(XY d).bind fun i=>(eX ds).map (i::·)
noncomputable def i9:List D→Option (List Str)
 | []=>some []
 | d::ds=>(XT d).bind fun i=>(i9 ds).map (i::·)
theorem qz {h:Heap}{ds:List D}{ns:List Int}{vs:List Value}(e:eX ds=some ns)(r:au P h ds vs):IntsAre vs ns:=
 au.ind (motive:=fun ds vs=>∀ {ns},eX ds=some ns→IntsAre vs ns) (fun e=>Yx e▸.nil) (fun d v ds vs x χ ih ns e=>by
  refine az (fun i hi e=>?_) (Option.bind_eq_some_iff.mp e);refine az (fun l q e_1=>?_) (YI.mp e);subst e_1;rw [m0 hi] at x;obtain ⟨t,rfl⟩:=x.inv;exact .cons _ _ (ih q)) r e
theorem B7 {h:Heap}{ds:List D}{ns:List Str}{vs:List Value}(e:i9 ds=some ns)(r:au P h ds vs):StrsAre vs ns:=
 au.ind (motive:=fun ds vs=>∀ {ns},i9 ds=some ns→StrsAre vs ns) (fun e=>Yx e▸.nil) (fun d v ds vs x χ ih ns e=>by
  refine az (fun i hi e=>?_) (Option.bind_eq_some_iff.mp e);refine az (fun l q e_2=>?_) (YI.mp e);subst e_2;rw [mc hi] at x;obtain ⟨t,rfl⟩:=x.inv;exact .cons _ _ (ih q)) r e
theorem vY {h:Heap}{ns:List Int}{vs:List Value}(r:IntsAre vs ns):au P h (ns.map .int) vs:=by
 induction r with
 | nil=>exact .nil
 | cons x t r i=>exact .cons _ _ _ _ (.int _ _) i
theorem nb {s:Shared}{h':Heap}{tk:Nat}(l:s.toks≤tk)(k:∀ b o,s.heap.get? b=some o→h'.get? b=some o):aH s { s with heap:=h',toks:=tk }:=(lA h' tk rfl k l)
theorem g1 {s:Shared}{h':Heap}{tk:Nat}(k:∀ b o,s.heap.get? b=some o→h'.get? b=some o):dB s { s with heap:=h',toks:=tk }:=(gY h' tk rfl k)
theorem tC {xs:List D}(L:Xk P s.heap)(hsz:xs.length≤sizeLine):b0 prog w A P s (.type "list") [.list xs] (.list xs):=fun s' vs g r Q E k=>by
 refine az (fun v e_3 x=>?_) r.one;subst e_3;refine fD (fun a us n e_4 pa o rs=>?_) (Xg x);subst e_4;refine call_list_seq a (.inl rfl) o rfl rfl (fun h' c' hk hn=>?_) (by simpa [rs.length] using hsz);exact k _ _ (nb (tk:=s'.toks) (YE _) hk) (.list xs _ us c' (L.grown g).size hn (rs.ext hk))
theorem ve {xs:List D}(L:Xk P s.heap)(hsz:xs.length≤sizeLine):b0 prog w A P s (.type "list") [.tup xs] (.list xs):=fun s' vs g r Q E k=>by
 refine az (fun v e_5 x=>?_) r.one;subst e_5;cases x with
 | tup _ a us n pa o rs=>
 refine call_list_seq a (.inr rfl) o rfl rfl (fun h' c' hk hn=>?_) (by simpa [rs.length] using hsz);exact k _ _ (nb (tk:=s'.toks) (YE _) hk) (.list xs _ us c' (L.grown g).size hn (rs.ext hk))
theorem vX {P:Pl}{h:Heap}(ns:List Int)(us:List Value)(e:us.length=ns.length)(f:∀ (i:Nat) (x:Int),ns[i]? = some x→∃ t,us[i]? = some (Value.int x t)):au P h (ns.map .int) us:=by
 induction ns generalizing us with
 | nil=>exact rv (List.length_eq_zero_iff.mp e) .nil
 | cons n ns ih=>
  cases us with
  | nil=>cases e
  | cons u us=>exact (f 0 n rfl).elim fun t q=>rv (Yx q) (.cons _ _ _ _ (.int _ _) (ih us (Nat.succ.inj e) fun i x=>f (i+1) x))
theorem vf {a b c:Int}(hA:A.handled=none)(L:Xk P s.heap)(hc:c≠0)(L7:Builtin.Range.small a b c=true)(hsz:(Builtin.Range.rangeSize a b c).toNat≤2^24):
  b0 prog w A P s (.type "list") [.ip a b c] (.list (ed a b c)):=fun s' vs g r Q E k=>by
 refine az (fun v e_6 x=>?_) r.one;subst e_6;cases x with
 | ip _ _ _ r t u v p o=>
 have:=fo a b c hc;refine (a5.FJ fun Q E k=>?_) Q E k;refine call_list_range (n:=(Builtin.Range.rangeSize a b c).toNat) hA o L7 (UB this) hsz fun h' tk acc c' hk hn hi=>?_;refine k _ _ (g1 (tk:=tk) hk) (.list _ _ acc.toList c' (L.grown g).size (by simpa using hn) ?_);obtain ⟨h1,h2⟩:=hi;refine vX _ _ (by simpa [rangeInts] using h1) fun i x hx=>?_;have hi:i<(Builtin.Range.rangeSize a b c).toNat:=by simpa [rangeInts] using (YD.mp hx).1
 have:i<acc.size:=rv h1 hi;refine (h2 i acc[i] (by simp [this])).elim fun t e=>⟨t,?_⟩;refine rv (Yx ((jd hi).symm.trans hx)).symm ?_;exact rv (Array.getElem?_toList) (rv (Array.getElem?_eq_getElem this) (rv e rfl))
theorem JI {xs:List D}{ns:List Int}(hA:A.handled=none)(e:eX xs=some ns):b0 prog w A P s (.builtin "sum") [.list xs] (.int ns.sum):=fun s' vs g r Q E k=>by
 refine az (fun v e_7 x=>?_) r.one;subst e_7;refine fD (fun a us n e_8 pa o rs=>?_) (Xg x);subst e_8;have hi:=qz e rs;obtain ⟨ys,hy⟩:=hi.allInts.items;have hl:s'.heap.IsList a (intItems ys):=rv hy.symm (a_ o);refine (a5.FJ fun Q E k=>?_) Q E k;refine sum_intListG hA hl fun h' tk t' hk=>?_;have e2:preSum (numAt ys) ys.size=ns.sum:=by
  exact rv (preSum_eq _ _) (rv (List.take_of_length_le (by simp)) (rv (nums_intItems _).symm (rv hy.symm (rv (show us.toArray.toList=us from rfl) (rv hi.numsOf rfl)))))
 refine rv e2 ?_;exact k _ _ (g1 (tk:=tk) hk) (.int _ _)
theorem DA {xs:List D}{ns:List Int}(hA:A.handled=none)(e:eX xs=some ns)(hr:∀ n∈ns,0≤n∧n<256)(hsz:xs.length≤sizeLine):b0 prog w A P s (.type "bytes") [.list xs] (.bytes (byteArr ns)):=fun s' vs g r Q E k=>by
 refine az (fun v e_9 x=>?_) r.one;subst e_9;refine fD (fun a us n e_10 pa o rs=>?_) (Xg x);subst e_10;refine (a5.FJ fun Q E k=>?_) Q E k;refine call_bytes_ints (a_ o) (qz e rs) hr (rv rs.length hsz) hA fun h' t tk hk=>?_;exact k _ _ (g1 (tk:=tk) hk) (.bytes _ _)
theorem G4 {x:Str}{xs:List D}{ys:List Str}(e:i9 xs=some ys)(lp:(ys.map (fun x=>x.length)).sum+ys.length*x.length≤16777216):b0 prog w A P s (.builtin "str.join") [.str x,.list xs] (.str (Txt.join x ys)):=fun s' vs g r Q E k=>by
 refine gf (fun v v' e_11 x1 x2=>?_) r.two;subst e_11;refine fD (fun a us n e_12 pa o rs=>?_) (Xg x2);subst e_12;refine W_.cK x1 fun ϑ=>?_;refine (a5.FJ fun Q E k=>?_) Q E k;exact join_list (a_ o) (by simpa using B7 e rs) lp fun t' tk=>k _ _ (.tok ..) (.str _ _)
noncomputable def ff (x:D):List D→Option Nat
 | []=>none
 | d::ds=>match lT 0 d x with
  | some true=>some 0
  | some false=>(ff x ds).map (fun x=>x+1)
  | none=>none
theorem Yb {s':Shared}{x:Str}{v:Value}(r:W_ P s'.heap (.str x) v):s'.TypeIs v "str"∧∀ a,v=.ref a→∃ ob:Obj,s'.heap.get? a=some ob∧ob.dict=none:=by
 refine W_.cK r fun ϑ=>?_;exact ⟨typeIs_str _ _ _,fun χ e=>nomatch e⟩
theorem XS {s':Shared}{x:Array UInt8}{v:Value}(r:W_ P s'.heap (.bytes x) v):s'.TypeIs v "bytes"∧∀ a,v=.ref a→∃ ob:Obj,s'.heap.get? a=some ob∧ob.dict=none:=by
 refine W_.lU r fun ϑ=>?_;exact ⟨PySem.W.typeIs_bytes _ _ _,fun χ e=>nomatch e⟩
theorem X7 {s':Shared}{x:List D}{v:Value}(r:W_ P s'.heap (.list x) v):s'.TypeIs v "list"∧∀ a,v=.ref a→∃ ob:Obj,s'.heap.get? a=some ob∧ob.dict=none:=by
 refine fD (fun a us n e_1 pa o rs=>?_) (Xg r);subst e_1;exact ⟨(aF _ o rfl),fun χ e=>by cases e;exact (aF _ o rfl)⟩
theorem G5 {x y:Str}:b0 prog w A P s (.builtin "str.find") [.str x,.str y] (.int (Txt.find x y)):=fun s' vs g r Q E k=>by
 refine gf (fun v v' e_2 x1 x2=>?_) r.two;subst e_2;refine W_.cK x1 fun ϑ=>?_;refine W_.cK x2 fun ϑ=>?_;exact SC.find (k _ _ (.tok ..) (.int ..))
theorem yn {x:Str}:b0 prog w A P s (.builtin "str.isascii") [.str x] (.bool (Txt.isascii x)):=fun s' vs g r Q E k=>by
 refine az (fun v e_3 x1=>?_) r.one;subst e_3;refine W_.cK x1 fun ϑ=>?_;exact SC.isascii (k _ _ (.refl _) (.bool _))
theorem sM {x:D}{v:Value}(hx:Xm x=true)(r:W_ P s.heap x v){xs:List D}{vs:List Value}{j:Nat}(e:ff x xs=some j)(rs:au P s.heap xs vs):
  ∃ (hj:j<vs.length),dG x vs[j]=true∧(∀ m (hm:m<vs.length),m<j→dG x vs[m]=false):=by
 revert j;refine au.ind (motive:=fun xs vs=>∀ {j:Nat},ff x xs=some j→∃ (hj:j<vs.length),dG x vs[j]=true∧(∀ m (hm:m<vs.length),m<j→dG x vs[m]=false)) (fun {j} e=>iZ e) (fun d u ds us ru U2 ih=>?_) rs;intro j e;have key:∀ b,lT 0 d x=some b→dG x u=b:=by
  exact fun b ha=>(Aj (A:=callerA) hx r ru ha).1
 unfold ff at e;split at e
 ·rename_i q;obtain rfl:=Yx e;exact ⟨Nat.succ_pos _,key true q,fun m hm h=>absurd h (Nat.not_lt_zero _)⟩
 ·rename_i q;cases q':ff x ds with
  | none=>rw [q'] at e;cases e
  | some i=>
   rw [q'] at e;cases e;obtain ⟨hj,h1,h2⟩:=ih q';refine ⟨Nat.succ_lt_succ hj,by simpa using h1,fun m hm n_=>?_⟩;cases m with
   | zero=>exact key false q
   | succ m=>exact h2 m (by simpa using hm) (Nat.lt_of_succ_lt_succ (show m+1<i+1 from n_))
 ·exact iZ e
theorem xV {x:D}{v:Value}(hx:Xm x=true)(r:W_ P s.heap x v):∀ {xs:List D} {vs:List Value} {b:Bool},XD x xs=some b→au P s.heap xs vs→∀ y∈vs,SeqAt.EqAt A s y v (dG x y):=
 fun e rs=>(m5 hx r e rs).2
theorem Dz {x:D}{xs:List D}{j:Nat}{b:Bool}(hx:Xm x=true)(e:ff x xs=some j)(e':XD x xs=some b)(hsz:xs.length<2^62):b0 prog w A P s (.builtin "list.index") [.list xs,x] (.int j):=fun s' vs g r Q E k=>by
 refine gf (fun v v' e_4 x1 x2=>?_) r.two;subst e_4;refine fD (fun a us n e_5 pa o rs=>?_) (Xg x1);subst e_5;obtain ⟨hj,h1,h2⟩:=sM hx x2 e rs;refine call_meets PySem.F.slot_list_index (aF _ o rfl) PySem.F.entry_list_index (PySem.F.args_list_index_2 _ _)
  (SeqAt.list_indexAt a us.toArray n none #[] v' (dG x) j (by simpa using hj) (by have:=rs.length;exact Tz hsz hj this) (by simpa using h1) (fun m hm n_=>by simpa using h2 m (by simpa using hm) n_))
  ⟨o,fun y hy=>xV hx x2 e' rs y (by simpa using hy),?_⟩
 exact k _ _ (.tok ..) (.int ..)
noncomputable def XP (a:Int):List Int→List Int
 | []=>[a]
 | b::l=>if a≤b then a::b::l else b::XP a l
noncomputable def Xv:List Int→List Int
 | []=>[]
 | a::l=>XP a (Xv l)
theorem Xz (a:Int):∀ l,(XP a l).Perm (a::l):=by
 intro l
 induction l with
 | nil=>exact .refl _
 | cons b l ih=>
  unfold XP;split
  ·exact .refl _
  ·exact ((ih).cons b).trans (.swap a b l)
theorem Xw:∀ l,(Xv l).Perm l:=by
 intro l
 induction l with
 | nil=>exact .refl _
 | cons a l ih=>exact (Xz a _).trans ((ih).cons a)
theorem Ai (a:Int):∀ l,l.Pairwise (·≤·)→(XP a l).Pairwise (·≤·):=by
 intro l
 induction l with
 | nil=>
  intro χ;exact List.pairwise_singleton _ _
 | cons b l ih=>
  intro h;unfold XP;have h':=List.pairwise_cons.mp h;split
  ·rename_i q;refine List.pairwise_cons.mpr ⟨fun x hx=>?_,h⟩;rcases YC.mp hx with rfl | hx
   ·exact q
   ·exact Int.le_trans q (h'.1 x hx)
  ·rename_i q;refine List.pairwise_cons.mpr ⟨fun x hx=>?_,ih h'.2⟩;rcases YC.mp ((Xz a l).mem_iff.mp hx) with rfl | hx
   ·exact T8 q
   ·exact h'.1 x hx
theorem oP:∀ l,(Xv l).Pairwise (·≤·):=by
 intro l
 induction l with
 | nil=>exact .nil
 | cons a l ih=>exact Ai a _ (ih)
theorem A_ {xs:List D}{ns:List Int}(L:Xk P s.heap)(e:eX xs=some ns)(Wq:xs.length<64):b0 prog w A P s (.builtin "sorted") [.list xs] (.list ((Xv ns).map .int)):=fun s' vs g r Q E k=>by
 refine az (fun v e_1 x=>?_) r.one;subst e_1;refine fD (fun a us n e_2 pa o rs=>?_) (Xg x);subst e_2;refine sorted_ints (a_ o) (qz e rs) (rv rs.length Wq) fun out Va a1 a2 a3=>?_;obtain ⟨c,hc⟩:=sortedAll_at s'.heap us out;have e2:Va=Xv ns:=lks_uniq (a2.trans (Xw ns).symm) a3 (oP ns);subst e2;refine k _ _ (nb (tk:=s'.toks) (YE _) fun χ χ=>sortedAll_old) (.list _ _ out.toList c ((L.grown g) _ ?_) ?_ (vY a1))
 ·exact gE (Nat.le_succ _)
 ·simpa [seqObj] using hc
inductive cB where
 | dead
 | list (xs:List D)
 | bB (es:List (Str×D))
 | fy (es:List (Int×D))
 | kH (es:List (Str×D))(ep:Nat)
 | set (xs:List Str)
 | inst (C:Addr)(m:Nat)(sl:List (Option D))
 | attrs (fs:List (Str×D))
 | iter (l:Nat)(i:Nat)
 deriving Inhabited
theorem DL {C:Prop}{a b:cB}(h:a=b)(n:Nat.beq a.ctorIdx b.ctorIdx=false):C:=absurd (congrArg cB.ctorIdx h) (Nat.ne_of_beq_eq_false n)
theorem gR {C:Prop}{x a b:cB}(h:x=a)(e:x=b)(n:Nat.beq a.ctorIdx b.ctorIdx=false):C:=DL (h.symm.trans e) n
structure Sg where
 o:Nat→cB
 n:Nat
noncomputable def Sg.put (σ:Sg)(i:Nat)(x:cB):Sg:=⟨fun j=>if j=i then x else σ.o j,σ.n⟩
noncomputable def Sg.add (σ:Sg)(x:cB):Sg:=⟨fun j=>if j=σ.n then x else σ.o j,σ.n+1⟩
noncomputable def Sg.nil:Sg:=⟨fun χ=>.dead,0⟩
noncomputable def SlotsOnly (o o':Obj):Prop:=o'.cls=o.cls∧o'.dict=o.dict∧o'.data=o.data
theorem SlotsOnly.trans {a b c:Obj}(x:SlotsOnly a b)(y:SlotsOnly b c):SlotsOnly a c:=⟨y.1.trans x.1,y.2.1.trans x.2.1,y.2.2.trans x.2.2⟩
theorem Ns.bP {h h':Heap}{a:Addr}{m:Str→Option Value}(x:h.Ns a m)(k:∀ o,h.get? a=some o→∃ o',h'.get? a=some o'∧SlotsOnly o o'):h'.Ns a m:=by
 refine MN (fun o es ep e z r=>?_) x;refine az (fun o' e' s=>?_) (k o e);exact Ko o' es ep e' (s.2.2.trans z) r
inductive bK {K:Type}(P:Pl)(h:Heap):List (K×D)→List (K×Value)→Prop where
 | nil:bK P h [] []
 | cons (k:K)(d:D)(v:Value)(es:List (K×D))(aV:List (K×Value))(x:W_ P h d v)(r:bK P h es aV):bK P h ((k,d)::es) ((k,v)::aV)
inductive cL (P:Pl)(h:Heap):List (Option D)→List (Option Value)→Prop where
 | nil:cL P h [] []
 | yes (d:D)(v:Value)(ds:List (Option D))(vs:List (Option Value))(x:W_ P h d v)(r:cL P h ds vs):cL P h (Option.some d::ds) (Option.some v::vs)
 | no (ds:List (Option D))(vs:List (Option Value))(r:cL P h ds vs):cL P h (Option.none::ds) (Option.none::vs)
inductive dY (P:Pl)(h:Heap):List (Str×D)→List DictEntry→Prop where
 | nil:dY P h [] []
 | cons (k:Str)(d:D)(e:DictEntry)(t:Tok)(es:List (Str×D))(l:List DictEntry)(a:e.key=.str k t)(x:W_ P h d e.val)(hh:handedIn e.val=true)(r:dY P h es l):dY P h ((k,d)::es) (e::l)
section
variable (prog:Program)(w:World)
noncomputable def kX (P:Pl)(h:Heap)(a:Addr):cB→Prop
 | .dead=>∃ o,h.get? a=some o
 | .list xs=>∃ vs n,h.get? a=some { cls:=.type "list",data:=.seq vs.toArray n }∧au P h xs vs
 | .bB es=>∃ aV,(a==sysModules)=false∧h.DictOf (strKind prog w) a aV∧bK P h es aV
 | .fy es=>∃ aV,(a==sysModules)=false∧h.DictOf (intKind prog w) a aV∧bK P h es aV
 | .kH es ep=>∃ aV,(a==sysModules)=false∧h.DictAt (strKind prog w) a aV ep∧bK P h es aV
 | .set xs=>h.SetOf (strKind prog w) a (fun x=>decide (x∈xs)) xs.length
 | .inst C m sl=>∃ dx vs,P.loc[m]? = some dx∧h.get? a=some { cls:=.ref C,dict:=some dx,data:=.plain,slots:=vs.toArray }∧cL P h sl vs
 | .attrs fs=>∃ l n,h.get? a=some { cls:=.type "dict",data:=.dict l.toArray n }∧dY P h fs l
 | .iter l i=>∃ al,P.loc[l]? = some al∧h.IsListIter a al i
structure Hp (μ B:List Addr)(σ:Sg)(h:Heap):Prop where
 len:μ.length=σ.n
 nodup:μ.Nodup
 obj:∀ (i:Nat) (a:Addr),μ[i]? = some a→kX prog w (Xa μ (μ++B)) h a (σ.o i)
 held:∀ a∈μ++B,∃ o,h.get? a=some o
 apart:∀ a∈μ,a∉B
structure bd (L W B μ:List Addr)(s:Shared)(aD:List Addr)(σ':Sg)(s':Shared):Prop where
 same:∃ h' t',s'={ s with heap:=h',toks:=t' }
 new:∃ ν,aD=μ++ν∧∀ b∈ν,s.heap.get? b=none
 keep:∀ b o,b∉μ→b∉W→(b∈L→b∉B)→s.heap.get? b=some o→s'.heap.get? b=some o
 bP:∀ b o,b∉μ→b∉W→s.heap.get? b=some o→∃ o',s'.heap.get? b=some o'∧SlotsOnly o o'
 hp:Hp prog w aD B σ' s'.heap
 tk:s.toks≤s'.toks
theorem bd.loc {prog:Program}{w:World}{L W B μ:List Addr}{s:Shared}{aD:List Addr}{σ':Sg}{s':Shared}(x:bd prog w L W B μ s aD σ' s'){n:Nat}{a:Addr}(ha:μ[n]? = some a):aD[n]? = some a:=by
 refine az (fun ν e_1 χ=>?_) x.new;subst e_1;refine rv (List.getElem?_append_left (YD.mp ha).1) ?_;exact ha
theorem bd.IS {prog:Program}{w:World}{L W B μ:List Addr}{s:Shared}{aD:List Addr}{σ':Sg}{s':Shared}(same:∃ h' t',s'={ s with heap:=h',toks:=t' })(new:∃ ν,aD=μ++ν∧∀ b∈ν,s.heap.get? b=none)
  (keep:∀ b o,b∉μ→b∉W→s.heap.get? b=some o→s'.heap.get? b=some o) (hp:Hp prog w aD B σ' s'.heap) (tk:s.toks≤s'.toks):bd prog w L W B μ s aD σ' s':=
 ⟨same,new,fun b o hm hw χ e=>keep b o hm hw e,fun b o hm hw e=>(BD o (keep b o hm hw e) rfl rfl rfl),hp,tk⟩
theorem bK.keeps {K:Type}{P P':Pl}{h h':Heap}(l:∀ (n:Nat) (a:Addr),P.loc[n]? = some a→P'.loc[n]? = some a)(k:∀ a o,P.ok a→h.get? a=some o→P'.ok a∧h'.get? a=some o){ds:List (K×D)}{vs}(r:bK P h ds vs):bK P' h' ds vs:=
 bK.rec (motive:=fun ds vs χ=>bK P' h' ds vs) .nil (fun c d v ds vs x χ i=>.cons c d v ds vs (x.keeps l k) i) r
theorem cL.keeps {P P':Pl}{h h':Heap}(l:∀ (n:Nat) (a:Addr),P.loc[n]? = some a→P'.loc[n]? = some a)(k:∀ a o,P.ok a→h.get? a=some o→P'.ok a∧h'.get? a=some o){ds vs}(r:cL P h ds vs):cL P' h' ds vs:=
 cL.rec (motive:=fun ds vs χ=>cL P' h' ds vs) .nil (fun d v ds vs x χ i=>.yes d v ds vs (x.keeps l k) i) (fun ds vs χ i=>.no ds vs i) r
theorem dY.keeps {P P':Pl}{h h':Heap}(l:∀ (n:Nat) (a:Addr),P.loc[n]? = some a→P'.loc[n]? = some a)(k:∀ a o,P.ok a→h.get? a=some o→P'.ok a∧h'.get? a=some o){ds vs}(r:dY P h ds vs):dY P' h' ds vs:=
 dY.rec (motive:=fun ds vs χ=>dY P' h' ds vs) .nil (fun c d e t ds vs a x hh χ i=>.cons c d e t ds vs a (x.keeps l k) hh i) r
end
theorem kX.keeps {P P':Pl}{h h':Heap}{a:Addr}(l:∀ (n:Nat) (a:Addr),P.loc[n]? = some a→P'.loc[n]? = some a)(k:∀ a o,P.ok a→h.get? a=some o→P'.ok a∧h'.get? a=some o)
  (e:∀ o,h.get? a=some o→h'.get? a=some o) {x}:kX prog w P h a x→kX prog w P' h' a x:=by
 cases x with
 | dead=>exact fun q=>q.elim fun o q=>⟨o,e o q⟩
 | list xs=>refine cS fun vs n q r=>?_;exact gY vs n (e _ q) (r.keeps l k)
 | bB es=>refine db fun aV z q r=>?_;exact eQ aV z (q.at e) (r.keeps l k)
 | fy es=>refine db fun aV z q r=>?_;exact eQ aV z (q.at e) (r.keeps l k)
 | kH es ep=>refine db fun aV z q r=>?_;exact eQ aV z (q.at' e) (r.keeps l k)
 | set xs=>refine MM fun o es ep t q r=>?_;exact Vi o es ep t (e _ q) r
 | inst C m sl=>refine gf fun dx vs q r x=>?_;exact lA dx vs (l _ _ q) (e _ r) (x.keeps l k)
 | attrs fs=>refine cS fun vs n q r=>?_;exact gY vs n (e _ q) (r.keeps l k)
 | iter m i=>refine az fun al q=>?_;refine az fun o r x=>?_;exact aF al (l _ _ q) (aF o (e _ r) x)
theorem Hp.lt {μ B:List Addr}{σ:Sg}{h:Heap}(H:Hp prog w μ B σ h){i:Nat}{a:Addr}(e:μ[i]? = some a):i<σ.n:=by
 exact rv H.len.symm ((YD.mp e).1)
theorem Hp.mem {μ B:List Addr}{i:Nat}{a:Addr}(e:μ[i]? = some a):a∈μ:=YN e
theorem Hp.inj {μ B:List Addr}{σ:Sg}{h:Heap}(H:Hp prog w μ B σ h){i j:Nat}{a:Addr}(e:μ[i]? = some a)(e':μ[j]? = some a):i=j:=
 (List.getElem?_inj (YD.mp e).1 H.nodup).mp (e.trans e'.symm)
theorem Hp.keeps {μ B B':List Addr}{σ:Sg}{h h':Heap}(H:Hp prog w μ B σ h)(k:∀ b o,(b∈μ∨b∉μ++B)→h.get? b=some o→h'.get? b=some o)(hB:∀ b o,b∈B'→h.get? b=some o→b∈B)
  (held:∀ a∈B',∃ o,h'.get? a=some o):Hp prog w μ B' σ h' where
 len:=H.len
 nodup:=H.nodup
 obj i a e:=kX.keeps (P:=Xa μ (μ++B)) (P':=Xa μ (μ++B')) (fun χ χ q=>q)
  (fun b o p q=>⟨fun m=>by
   rcases Yr.mp m with m | m
   ·exact p (Yp _ m)
   ·exact p (Yn _ (hB b o m q)),k b o (.inr p) q⟩) (fun o q=>k a o (.inl (Hp.mem (B:=B) e)) q) (H.obj i a e)
 held a m:=by
  rcases Yr.mp m with m | m
  ·obtain ⟨o,q⟩:=H.held a (Yp _ m);exact ⟨o,k a o (.inl m) q⟩
  ·exact held a m
 apart a m m':=by
  obtain ⟨o,e⟩:=H.held a (Yp _ m);exact H.apart a m (hB a o m' e)
theorem Hp.ext {μ B:List Addr}{σ:Sg}{h h':Heap}(H:Hp prog w μ B σ h)(k:Xi h h'):Hp prog w μ B σ h':=
 H.keeps (fun b o χ e=>k b o e) (fun χ χ m χ=>m) fun a m=>let ⟨o,e⟩:=H.held a (Yn _ m);⟨o,k a o e⟩
theorem Hp.turn {μ B:List Addr}{σ:Sg}{h h':Heap}(H:Hp prog w μ B σ h){i:Nat}{a:Addr}{x:cB}(e:μ[i]? = some a)(k:∀ b o,b≠a→h.get? b=some o→h'.get? b=some o)
  (hx:kX prog w (Xa μ (μ++B)) h' a x) (live:∃ o,h'.get? a=some o):Hp prog w μ B (σ.put i x) h' where
 len:=H.len
 nodup:=H.nodup
 obj j b q:=by
  unfold Sg.put
  by_cases z:j=i
  ·subst z;rw [e] at q;obtain rfl:=Yx q;simpa using hx
  ·have ne:b≠a:=fun y=>z (H.inj (y▸q) e);simp only [z,if_false];exact kX.keeps (P:=Xa μ (μ++B)) (P':=Xa μ (μ++B)) (fun χ χ q=>q) (fun c o p y=>⟨p,k c o (fun y=>p (y▸Yp _ (Hp.mem (B:=B) e))) y⟩) (fun o y=>k b o ne y) (H.obj j b q)
 held b m:=by
  by_cases z:b=a
  ·exact z▸live
  ·obtain ⟨o,q⟩:=H.held b m;exact ⟨o,k b o z q⟩
 apart:=H.apart
theorem W_.turned {μ ν B:List Addr}{h h':Heap}(k:∀ b o,b∉μ→b∉B→h.get? b=some o→h'.get? b=some o)(fC:∀ b∈ν,h.get? b=Option.none){d v}(x:W_ (Xa μ (μ++B)) h d v):W_ (Xa (μ++ν) (μ++ν++B)) h' d v:=
 W_.keeps (P:=Xa μ (μ++B)) (P':=Xa (μ++ν) (μ++ν++B)) (fun n a e=>by show (μ++ν)[n]? = some a;refine rv (List.getElem?_append_left (YD.mp e).1) ?_;exact e)
  (fun a o p e=>⟨fun m=>by
   rcases Yr.mp m with m | m
   ·rcases Yr.mp m with m | m
    ·exact p (Yp _ m)
    ·exact cc (fC a m) e
   ·exact p (Yn _ m),k a o (fun m=>p (Yp _ m)) (fun m=>p (Yn _ m)) e⟩) x
theorem au.turned {μ ν B:List Addr}{h h':Heap}(k:∀ b o,b∉μ→b∉B→h.get? b=some o→h'.get? b=some o)(fC:∀ b∈ν,h.get? b=Option.none){d v}(r:au (Xa μ (μ++B)) h d v):au (Xa (μ++ν) (μ++ν++B)) h' d v:=
 au.ind (motive:=fun d v=>au (Xa (μ++ν) (μ++ν++B)) h' d v) .nil (fun d v ds vs x χ i=>.cons d v ds vs (x.turned k fC) i) r
theorem Hp.push {μ B:List Addr}{σ:Sg}{h h':Heap}(H:Hp prog w μ B σ h){a:Addr}{x:cB}(f:h.get? a=none)(k:Xi h h')(hx:kX prog w (Xa (μ++[a]) (μ++[a]++B)) h' a x)(live:∃ o,h'.get? a=some o):
  Hp prog w (μ++[a]) B (σ.add x) h' where
 len:=by simp [Sg.add,H.len]
 nodup:=by
  refine List.nodup_append.mpr ⟨H.nodup,by simp,fun b hb c hc=>?_⟩;rw [Yq] at hc;intro q;obtain ⟨o,e⟩:=H.held b (Yp _ hb);rw [q,hc,f] at e;exact iZ e
 obj j b q:=by
  unfold Sg.add
  by_cases z:j=σ.n
  ·subst z;rw [← H.len,List.getElem?_append_right (YE _)] at q;simp at q;subst q;simpa using hx
  ·simp only [z,if_false];have hj:j<μ.length:=by
    have:=(YD.mp q).1;rw [List.length_append,List.length_singleton,H.len] at this;exact rv H.len (Rx z this)
   rw [List.getElem?_append_left hj] at q;refine kX.keeps (P:=Xa μ (μ++B)) (P':=Xa (μ++[a]) (μ++[a]++B)) (fun n b e=>by show (μ++[a])[n]? = some b;refine rv (List.getElem?_append_left (YD.mp e).1) ?_;exact e)
    (fun c o p y=>⟨fun m=>?_,k c o y⟩) (fun o y=>k b o y) (H.obj j b q)
   rcases Yr.mp m with m | m
   ·rcases Yr.mp m with m | m
    ·exact p (Yp _ m)
    ·rw [Yq.mp m,f] at y;exact iZ y
   ·exact p (Yn _ m)
 held b m:=by
  rcases Yr.mp m with m | m
  ·rcases Yr.mp m with m | m
   ·obtain ⟨o,e⟩:=H.held b (Yp _ m);exact ⟨o,k b o e⟩
   ·exact rv (Yq.mp m) live
  ·obtain ⟨o,e⟩:=H.held b (Yn _ m);exact ⟨o,k b o e⟩
 apart b m m':=by
  rcases Yr.mp m with m | m
  ·exact H.apart b m m'
  ·rw [Yq.mp m] at m';obtain ⟨o,e⟩:=H.held a (Yn _ m');exact cc f e
theorem Hp.nil {B:List Addr}{h:Heap}(held:∀ a∈B,∃ o,h.get? a=some o):Hp prog w [] B .nil h:=⟨rfl,List.nodup_nil,fun i a e=>by simp at e,fun a m=>held a (by simpa using m),fun a m=>nomatch m⟩
theorem bd.refl {L W B μ:List Addr}{σ:Sg}{s:Shared}(H:Hp prog w μ B σ s.heap):bd prog w L W B μ s μ σ s:=.IS (uK _ _ rfl) (aF [] (by simp) (by simp)) (fun χ χ χ χ e=>e) H (YE _)
theorem bd.aG {L W B μ:List Addr}{σ:Sg}{s s':Shared}(H:Hp prog w μ B σ s.heap)(g:aH s s'):bd prog w L W B μ s μ σ s':=by
 revert g;refine gf fun h' t' e_2 e l=>?_;subst e_2;exact .IS (uK _ _ rfl) (aF [] (by simp) (by simp)) (fun b o χ χ q=>e b o q) (H.ext e) l
theorem bd.trans {L W B μ aW bh:List Addr}{aq aM:Sg}{s s₁ ag:Shared}(x:bd prog w L W B μ s aW aq s₁)(y:bd prog w L W B aW s₁ bh aM ag)(hW:∀ b∈W,b∈B):bd prog w L W B μ s bh aM ag:=by
 obtain ⟨⟨h,t,rfl⟩,⟨ν,rfl,f⟩,k,sl,hp,l⟩:=x;obtain ⟨⟨h',t',rfl⟩,⟨KO,rfl,f'⟩,k',H_,HB,l'⟩:=y;have out:∀ b o,b∉μ→s.heap.get? b=some o→b∉μ++ν:=fun b o hb e m=>by
  rcases Yr.mp m with m | m
  ·exact hb m
  ·exact cc (f b m) e
 refine ⟨(uK _ _ rfl),(aF (ν++KO) (rv (List.append_assoc _ _ _) rfl) (fun b m=>?_)),fun b o hb hw hB e=>k' b o (out b o hb e) hw hB (k b o hb hw hB e),fun b o hb hw e=>?_,HB,Ys l l'⟩
 ·rcases Yr.mp m with m | m
  ·exact f b m
  ·cases q:s.heap.get? b with
   | none=>rfl
   | some o=>
    by_cases hb:b∈μ
    ·obtain ⟨o',e'⟩:=hp.held b (Yp _ (Yp _ hb));exact cc (f' b m) e'
    ·by_cases hw:b∈W
     ·obtain ⟨o',e'⟩:=hp.held b (Yn _ (hW b hw));exact cc (f' b m) e'
     ·refine az (fun o' this χ=>?_) (sl b o hb hw q);exact cc (f' b m) this
 ·refine az (fun Lx x_ KQ=>?_) (sl b o hb hw e);refine az (fun Lw qY KP=>?_) (H_ b Lx (out b o hb e) hw x_);exact aF Lw qY (KQ.trans KP)
noncomputable abbrev aO:=List (Str×D)
noncomputable abbrev ay:=List (Str×NameKind)
noncomputable def sEq (x y:Str):Bool:=x.cps.toList==y.cps.toList
noncomputable def lk {α:Type}(x:Str):List (Str×α)→Option α
 | []=>none
 | (y,v)::r=>if sEq x y then some v else lk x r
theorem eO (x y:Str):sEq x y=(x==y):=by
 unfold sEq;refine rv (propext (Bool.eq_iff_iff)) (rv (propext (YK)) (rv (propext (YK)) ?_));exact ⟨fun h=>by cases x;cases y;simp only [Str.mk.injEq];exact Array.toList_inj.mp h,fun h=>rv h rfl⟩
theorem be {α:Type}(x:Str):∀ l:List (Str×α),lk x l=l.lookup x:=by
 intro l
 induction l with
 | nil=>exact rfl
 | cons pr r ih=>
  obtain ⟨y,v⟩:=pr;unfold lk;refine rv YS (rv (eO _ _) (rv (ih) ?_));cases x==y<;>rfl
theorem pR {x y:Str}(h:sEq x y=true):x=y:=by rw [eO] at h;exact YK.mp h
structure U where
 prog:Program
 w:World
 C:Cx
 K:Frag
 ok:C.Ok
 qA:∀ a o,K.lookup a=some o→C.base a o
 lim:∀ h,C.fB h→h.NoLimit
 gl:∀ x r,nsIn K mainGlobals x=some r→C.mg x=r
 bi:∀ x,x≠("__name__":Str)→C.mb x=bootBuiltins x
 t0:Nat
structure U.St (Ω:U)(s:Shared):Prop where
 stays:Ω.C.fB s.heap
 tk:Ω.t0≤s.toks
theorem U.m6 (Ω:U)(h:Heap)(s:Ω.C.fB h):Ω.K.In h:=fun a o e=>s a o (Ω.qA a o e)
noncomputable abbrev U.M (Ω:U):Model:=model Ω.prog Ω.w
structure Md where
 calm:Bool
 loud:Bool
noncomputable instance:Coe Bool Md:=⟨fun b=>⟨b,false⟩⟩
structure Lv where
 n:Nat
 md:Md
noncomputable abbrev Lv.calm (l:Lv):Bool:=l.md.calm
structure Rm (l:Lv)(A:Around):Prop where
 depth:A.depth+2*l.n<recursionLimit
 units:A.units+20*l.n+20<cLine
 calm:l.calm=true→A.handled=none
theorem Rm.mono {l:Lv}{m:Nat}{A:Around}(h:Rm l A)(hm:m≤l.n):Rm ⟨m,l.md⟩ A:=⟨by have:=h.depth;simp only at this ⊢;exact Sc hm this,by have:=h.units;simp only at this ⊢;exact Se hm this,h.calm⟩
noncomputable def Xb (A:Around):List Addr:=(A.frames.getD []).map (fun x=>x.locals)
structure RmS (l:Lv)(A:Around)(B:List Addr):Prop extends Rm l A where
 out:∀ b∈Xb A,b∈B
 fr:l.md.loud=true→∃ fs,A.frames=some fs∧∀ e∈fs,e.scope.kind=.function∧e.frame=some e.locals
noncomputable instance {l:Lv} {A:Around} {B:List Addr}:CoeOut (RmS l A B) (Rm l A):=⟨RmS.toRm⟩
structure oK (l:Lv)(A:Around)(B:List Addr)(env:Env):Prop extends RmS l A B where
 here:l.md.loud=true→∃ fs,A.frames=some (env::fs)
noncomputable instance {l:Lv} {A:Around} {B:List Addr} {env:Env}:CoeOut (oK l A B env) (RmS l A B):=⟨oK.toRmS⟩
noncomputable instance {l:Lv} {A:Around} {B:List Addr} {env:Env}:CoeOut (oK l A B env) (Rm l A):=⟨fun h=>h.toRmS.toRm⟩
theorem RmS.mono {l:Lv}{m:Nat}{A:Around}{B:List Addr}(h:RmS l A B)(hm:m≤l.n):RmS ⟨m,l.md⟩ A B:=⟨h.toRm.mono hm,h.out,h.fr⟩
theorem oK.mono {l:Lv}{m:Nat}{A:Around}{B:List Addr}{env:Env}(h:oK l A B env)(hm:m≤l.n):oK ⟨m,l.md⟩ A B env:=⟨h.toRmS.mono hm,h.here⟩
structure Fx (Ω:U)(B μ:List Addr)(env:Env)(N:ay)(ρ:aO)(σ:Sg)(s:Shared):Prop where
 stays:Ω.C.fB s.heap
 clear:∀ a o,Ω.C.base a o→a∉μ++B
 vars:∀ x d,ρ.lookup x=some d→XE (Xa μ (μ++B)) env s.heap x d
 kind:env.scope.kind=.function
 globals:env.globals=mainGlobals
 builtins:env.builtins=builtinsNs
 names:env.scope.names=N
 hp:Hp Ω.prog Ω.w μ B σ s.heap
 dK:env.locals∉μ
 dk:∀ x c,env.cells.lookup x=some c→c∉μ
 tk:Ω.t0≤s.toks
inductive X4 {α β:Type}(r:Heap→α→β→Prop)(k:α→Prop)(v:β)(s':Shared):Prop where
 | mk (d:α)(hk:k d)(hr:r s'.heap d v)
inductive tS {α β:Type}(r:Pl→Heap→α→β→Prop)(k:α→Sg→Prop)(B:List Addr)(v:β)(aD:List Addr)(σ':Sg)(s':Shared):Prop where
 | mk (d:α)(hk:k d σ')(hr:r (Xa aD (aD++B)) s'.heap d v)
inductive eL (C:Nat→Prop)(d:D):Prop where
 | mk (n:Nat)(e:d=.loc n)(h:C n)
inductive tM (C:Str→Prop)(d:D):Prop where
 | mk (x:Str)(e:d=.str x)(h:C x)
inductive vx (C:Int→Prop)(d:D):Prop where
 | mk (x:Int)(e:d=.int x)(h:C x)
theorem eR {μ B:List Addr}{n:Nat}{v:Value}{h:Heap}(r:W_ (Xa μ (μ++B)) h (.loc n) v):∃ a,v=.ref a∧μ[n]? = some a:=by
 cases r with | loc _ a e=>exact aF a rfl e
inductive DY (C:D→Prop)(ds:List D):Prop where
 | mk (d:D)(e:ds=[d])(h:C d)
theorem eL.el {μ B:List Addr}{C:Nat→Prop}{d:D}{v:Value}{h:Heap}{G:Value→Prop}(p:eL C d)(r:W_ (Xa μ (μ++B)) h d v)(k:∀ n a,μ[n]? = some a→C n→G (.ref a)):G v:=by
 cases p with | mk n e hc=>
 rw [e] at r;refine az (fun a e_1 ha=>?_) (eR r);subst e_1;exact k n a ha hc
theorem tM.el {P:Pl}{C:Str→Prop}{d:D}{v:Value}{h:Heap}{G:Value→Prop}(p:tM C d)(r:W_ P h d v)(k:∀ x t,C x→G (.str x t)):G v:=by
 cases p with | mk x e hc=>
 rw [e] at r;obtain ⟨t,rfl⟩:=r.inv;exact k x t hc
theorem vx.el {P:Pl}{C:Int→Prop}{d:D}{v:Value}{h:Heap}{G:Value→Prop}(p:vx C d)(r:W_ P h d v)(k:∀ x t,C x→G (.int x t)):G v:=by
 cases p with | mk x e hc=>
 rw [e] at r;obtain ⟨t,rfl⟩:=r.inv;exact k x t hc
theorem a5.go {α β:Type}{M:Model}{A:Around}{t:Sem β}{s:Shared}{r:Heap→α→β→Prop}{k:α→Prop}(x:a5 M A t s (X4 r k)){Q:β→Shared→Prop}{E:Value→Shared→Prop}(h:∀ v s',aH s s'→∀ d,k d→r s'.heap d v→Q v s'):wpAny M A t Q E s:=
 x Q E fun v s' g hh=>hh.casesOn fun d hk hr=>h v s' g d hk hr
theorem a5.dM {M:Model}{A:Around}{t:Sem Value}{s:Shared}{μ B:List Addr}{C:Nat→Prop}(x:a5 M A t s (X4 (W_ (Xa μ (μ++B))) (eL C))){Q:Value→Shared→Prop}{E:Value→Shared→Prop}(h:∀ n a s',aH s s'→μ[n]? = some a→C n→Q (.ref a) s'):wpAny M A t Q E s:=
 x.go fun v s' g d hk r=>hk.el (G:=fun v=>Q v s') r fun n a ha hc=>h n a s' g ha hc
theorem a5.AL {M:Model}{A:Around}{t:Sem Value}{s:Shared}{P:Pl}{C:Str→Prop}(x:a5 M A t s (X4 (W_ P) (tM C))){Q:Value→Shared→Prop}{E:Value→Shared→Prop}(h:∀ u t s',aH s s'→C u→Q (.str u t) s'):wpAny M A t Q E s:=
 x.go fun v s' g d hk r=>hk.el (G:=fun v=>Q v s') r fun u t hc=>h u t s' g hc
theorem a5.sU {M:Model}{A:Around}{t:Sem Value}{s:Shared}{P:Pl}{C:Int→Prop}(x:a5 M A t s (X4 (W_ P) (vx C))){Q:Value→Shared→Prop}{E:Value→Shared→Prop}(h:∀ u t s',aH s s'→C u→Q (.int u t) s'):wpAny M A t Q E s:=
 x.go fun v s' g d hk r=>hk.el (G:=fun v=>Q v s') r fun u t hc=>h u t s' g hc
theorem a5.AM {M:Model}{A:Around}{t:Sem (List Value)}{s:Shared}{P:Pl}{C:D→Prop}(x:a5 M A t s (X4 (au P) (DY C))){Q:List Value→Shared→Prop}{E:Value→Shared→Prop}(h:∀ d v s',aH s s'→C d→W_ P s'.heap d v→Q [v] s'):wpAny M A t Q E s:=
 x.go fun vs s' g ds hk r=>by
  obtain ⟨d,rfl,hc⟩:=hk;cases r with | cons _ v _ vs r rs=>
  cases rs;exact h d v s' g hc r
noncomputable abbrev du (M:Model)(A:Around)(P:Pl)(t:Sem Value)(s:Shared)(k:D→Prop):Prop:=a5 M A t s (X4 (W_ P) k)
noncomputable abbrev w3 (M:Model)(A:Around)(t:Sem Bool)(s:Shared)(k:Bool→Prop):Prop:=a5 M A t s fun b χ=>k b
noncomputable def EV (Ω:U)(l:Lv)(N:ay)(ρ:aO)(σ:Sg)(e:PySem.Expr)(k:D→Prop):Prop:=
 ∀ (A:Around) (B μ:List Addr) (env:Env) (s:Shared),Rm l A→Fx Ω B μ env N ρ σ s→du Ω.M A (Xa μ (μ++B)) (eval e env) s k
noncomputable def TV (Ω:U)(l:Lv)(N:ay)(ρ:aO)(σ:Sg)(e:PySem.Expr)(k:Bool→Prop):Prop:=
 ∀ (A:Around) (B μ:List Addr) (env:Env) (s:Shared),Rm l A→Fx Ω B μ env N ρ σ s→w3 Ω.M A (isTrue e env (eval e env)) s k
noncomputable def Ru (Ω:U)(A:Around)(W B μ:List Addr){α:Type}(t:Sem α)(s:Shared)(R:α→List Addr→Sg→Shared→Prop):Prop:=
 ∀ (Q:α→Shared→Prop) (E:Value→Shared→Prop),(∀ v aD σ' s',bd Ω.prog Ω.w (Xb A) W B μ s aD σ' s'→R v aD σ' s'→Q v s')→wpAny Ω.M A t Q E s
noncomputable abbrev MW (Ω:U)(A:Around)(B μ:List Addr)(t:Sem Value)(s:Shared)(k:D→Sg→Prop):Prop:=Ru Ω A [] B μ t s (tS W_ k B)
structure Fs (Ω:U)(B μ:List Addr)(env:Env)(N:ay)(ρ:aO)(σ:Sg)(s:Shared):Prop extends Fx Ω B μ env N ρ σ s where
 ns:∃ m,s.heap.Ns env.locals m
 cA:∀ x c,env.cells.lookup x=some c→∃ v,s.heap.IsCell c v
 apart:env.cells.Pairwise fun x y=>x.2≠y.2
 off:∀ p∈env.cells,p.2≠env.locals
 qA:env.locals∈B
 jH:∀ p∈env.cells,p.2∈B
 nH:∀ x,N.lookup x=some .cell→∃ c,env.cells.lookup x=some c
 frame:env.frame=some env.locals
noncomputable def own (env:Env):List Addr:=env.locals::env.cells.map (fun x=>x.2)
noncomputable def EF (Ω:U)(l:Lv)(N:ay)(ρ:aO)(σ:Sg)(e:PySem.Expr)(k:D→Sg→Prop):Prop:=
 ∀ (A:Around) (B μ:List Addr) (env:Env) (s:Shared),oK l A B env→Fs Ω B μ env N ρ σ s→MW Ω A B μ (eval e env) s k
noncomputable def TE (Ω:U)(l:Lv)(N:ay)(ρ:aO)(σ:Sg)(e:PySem.Expr)(k:Bool→Sg→Prop):Prop:=
 ∀ (A:Around) (B μ:List Addr) (env:Env) (s:Shared),oK l A B env→Fs Ω B μ env N ρ σ s→Ru Ω A [] B μ (isTrue e env (eval e env)) s fun b χ σ' χ=>k b σ'
structure D0 (c:Bool)(P Q:Prop):Prop where
 t:c=true→P
 f:c=false→Q
inductive Fl where
 | next
 | brk
 | cont
 | ret (d:D)
inductive ge (P:Pl)(h:Heap):Fl→Flow→Prop where
 | next:ge P h .next .next
 | brk:ge P h .brk .brk
 | cont:ge P h .cont .cont
 | ret (d:D)(v:Value)(r:W_ P h d v):ge P h (.ret d) (.ret v)
inductive Hh (Ω:U)(B:List Addr)(env:Env)(N:ay)(k:Fl→aO→Sg→Prop)(f:Flow)(aD:List Addr)(σ':Sg)(s':Shared):Prop where
 | mk (fl:Fl)(ρ':aO)(hk:k fl ρ' σ')(F:Fs Ω B aD env N ρ' σ' s')(r:ge (Xa aD (aD++B)) s'.heap fl f)
noncomputable abbrev Ps (Ω:U)(A:Around)(B μ:List Addr)(env:Env)(N:ay)(t:Sem Flow)(s:Shared)(k:Fl→aO→Sg→Prop):Prop:=
 Ru Ω A (own env) B μ t s (Hh Ω B env N k)
noncomputable def ES (Ω:U)(l:Lv)(N:ay)(ρ:aO)(σ:Sg)(st:Stmt)(k:Fl→aO→Sg→Prop):Prop:=
 ∀ (A:Around) (B μ:List Addr) (env:Env) (s:Shared),oK l A B env→Fs Ω B μ env N ρ σ s→Ps Ω A B μ env N (exec st env) s k
noncomputable def EX (Ω:U)(l:Lv)(N:ay)(ρ:aO)(σ:Sg)(ss:List Stmt)(k:Fl→aO→Sg→Prop):Prop:=
 ∀ (A:Around) (B μ:List Addr) (env:Env) (s:Shared),oK l A B env→Fs Ω B μ env N ρ σ s→Ps Ω A B μ env N (execs ss env) s k
end
section
variable {prog:Program}{w:World}{M:Model}{Ω:U}{l:Lv}{A:Around}{E:Value→Shared→Prop}{L W B μ:List Addr}{env:Env}{N:ay}{ρ ρ':aO}{σ:Sg}{s:Shared}{Q:Value→Shared→Prop}{P P':Pl}
theorem Fx.toFm (F:Fx Ω B μ env N ρ σ s):Fm Ω.C μ (μ++B) env ρ s:=⟨Ω.ok,F.stays,F.clear,F.vars,F.hp.held,F.kind,F.globals,F.builtins⟩
theorem Fx.st (F:Fx Ω B μ env N ρ σ s):Ω.St s:=⟨F.stays,F.tk⟩
theorem Fx.lets (F:Fx Ω B μ env N ρ σ s):Xk (Xa μ (μ++B)) s.heap:=F.toFm.lets
theorem XE.turned {ν:List Addr}{h h':Heap}(k:∀ b o,b∉μ→b∉B→h.get? b=some o→h'.get? b=some o)(sl:∀ b o,b∉μ→h.get? b=some o→∃ o',h'.get? b=some o'∧SlotsOnly o o')(fC:∀ b∈ν,h.get? b=none)(hl:env.locals∉μ)(hc:∀ x c,env.cells.lookup x=some c→c∉μ){x:Str}{d:D}(V:XE (Xa μ (μ++B)) env h x d):XE (Xa (μ++ν) (μ++ν++B)) env h' x d:=
 V.to (fun χ n=>Ns.bP n fun o q=>sl _ o hl q) (fun c χ e i=>let ⟨o,q,z⟩:=i;let ⟨o',q',_,_,z'⟩:=sl c o (hc _ _ e) q;aF o' q' (z'.trans z)) fun χ r=>r.turned k fC
theorem kC {ν:List Addr}{h h':Heap}{a:Addr}{o:Obj}(e:h.get? a=some o)(fC:∀ b∈ν,h.get? b=none)(n:a∉μ):a∉μ++ν:=fun m=>by
 rcases Yr.mp m with m | m
 ·exact n m
 ·exact cc (fC a m) e
theorem Fs.c5 {L:List Addr}(F:Fs Ω B μ env N ρ σ s){aD:List Addr}{σ':Sg}{s':Shared}(x:bd Ω.prog Ω.w L [] B μ s aD σ' s'):Fs Ω B aD env N ρ σ' s':=by
 obtain ⟨⟨h',t',rfl⟩,⟨ν,rfl,fC⟩,k,sl,hp,lJ⟩:=x;have k':∀ b o,b∉μ→b∉B→s.heap.get? b=some o→h'.get? b=some o:=fun b o hb hB e=>k b o hb (fun m=>nomatch m) (fun χ=>hB) e;have H_:∀ b o,b∉μ→s.heap.get? b=some o→∃ o',h'.get? b=some o'∧SlotsOnly o o':=fun b o hb e=>sl b o hb (fun m=>nomatch m) e;have Pp:∀ a o,Ω.C.base a o→a∉μ:=fun a o e m=>F.clear a o e (Yp _ m);obtain ⟨m,n⟩:=F.ns;have ll:∃ o,s.heap.get? env.locals=some o:=by revert n;refine GX fun o χ χ e χ=>?_;exact ⟨o,e⟩
 refine ⟨⟨fun a o e=>k' a o (Pp a o e) (fun m=>F.clear a o e (Yn _ m)) (F.stays a o e),fun a o e m=>?_,fun x d e=>(F.vars x d e).turned k' H_ fC F.dK F.dk,F.kind,F.globals,F.builtins,F.names,hp,?_,fun x c e=>?_,Ys F.tk lJ⟩,
  ⟨m,Ns.bP n fun o e=>H_ _ o F.dK e⟩,fun x c e=>?_,F.apart,F.off,F.qA,F.jH,F.nH,F.frame⟩
 ·rcases Yr.mp m with m | m
  ·exact kC (h':=h') (F.stays a o e) fC (Pp a o e) m
  ·exact F.clear a o e (Yn _ m)
 ·obtain ⟨o,e⟩:=ll;exact kC (h':=h') e fC F.dK
 ·refine cS (fun v o q χ=>?_) (F.cA x c e);exact kC (h':=h') q fC (F.dk x c e)
 ·refine cS (fun v o q z=>?_) (F.cA x c e);refine A1 (fun o' q' χ χ z'=>?_) (H_ _ o (F.dk x c e) q);exact gY v o' q' (z'.trans z)
theorem Fx.grown (F:Fx Ω B μ env N ρ σ s){s':Shared}(g:aH s s'):Fx Ω B μ env N ρ σ s':=by
 have:=F.toFm.grown g;exact ⟨this.stays,F.clear,this.vars,F.kind,F.globals,F.builtins,F.names,F.hp.ext g.ext,F.dK,F.dk,Ys F.tk g.toks⟩
theorem Fs.grown (F:Fs Ω B μ env N ρ σ s){s':Shared}(g:aH s s'):Fs Ω B μ env N ρ σ s':=F.c5 (L:=[]) (.aG F.hp g)
theorem Ru.FJ {α:Type}{t:Sem α}{R:α→List Addr→Sg→Shared→Prop}(x:∀ (Q:α→Shared→Prop) (E:Value→Shared→Prop),(∀ v aD σ' s',(s.toks≤s'.toks→bd Ω.prog Ω.w (Xb A) W B μ s aD σ' s')→R v aD σ' s'→Q v s')→wpAny Ω.M A t Q E s):Ru Ω A W B μ t s R:=fun Q E h=>
 wpAny_mono (Xl (x (fun v s'=>∃ aD σ',(s.toks≤s'.toks→bd Ω.prog Ω.w (Xb A) W B μ s aD σ' s')∧R v aD σ' s') (fun χ χ=>False) fun v aD σ' s' e r=>(gY aD σ' e r))) (fun v s' z=>by
  obtain ⟨⟨aD,σ',e,r⟩,l⟩:=z;exact h v aD σ' s' (e l) r) fun χ χ f=>f.1.elim
theorem Ru.use {α:Type}{t:Sem α}{R:α→List Addr→Sg→Shared→Prop}(x:Ru Ω A W B μ t s R){Q:α→Shared→Prop}{E:Value→Shared→Prop}(h:∀ v aD σ' s',bd Ω.prog Ω.w (Xb A) W B μ s aD σ' s'→R v aD σ' s'→Q v s'):wpAny Ω.M A t Q E s:=x Q E h
theorem Ru.go {α β:Type}{t:Sem β}{r:Pl→Heap→α→β→Prop}{k:α→Sg→Prop}(x:Ru Ω A W B μ t s (tS r k B)){Q:β→Shared→Prop}{E:Value→Shared→Prop}(h:∀ v aD σ' s',bd Ω.prog Ω.w (Xb A) W B μ s aD σ' s'→∀ d,k d σ'→r (Xa aD (aD++B)) s'.heap d v→Q v s'):wpAny Ω.M A t Q E s:=
 x Q E fun v aD σ' s' e hh=>hh.casesOn fun d hk hr=>h v aD σ' s' e d hk hr
theorem Ru.yF {t:Sem Flow}{k:Fl→aO→Sg→Prop}(x:Ru Ω A W B μ t s (Hh Ω B env N k)){Q:Flow→Shared→Prop}{E:Value→Shared→Prop}(h:∀ f aD σ' s',bd Ω.prog Ω.w (Xb A) W B μ s aD σ' s'→∀ fl ρ',k fl ρ' σ'→Fs Ω B aD env N ρ' σ' s'→ge (Xa aD (aD++B)) s'.heap fl f→Q f s'):wpAny Ω.M A t Q E s:=
 x Q E fun v aD σ' s' e hh=>hh.casesOn fun fl ρ' hk F' hr=>h v aD σ' s' e fl ρ' hk F' hr
theorem Xo.toK {t:Sem Value}{d:D}{k:D→Prop}(y:Xo Ω.M A P t s d)(hk:k d):du Ω.M A P t s k:=fun Q E h=>y Q E fun v s' g r=>h v s' g ⟨d,hk,r⟩
theorem du.mono {t:Sem Value}{k k':D→Prop}(y:du Ω.M A P t s k)(hk:∀ d,k d→k' d):du Ω.M A P t s k':=fun Q E h=>y Q E fun v s' g z=>z.casesOn fun d a r=>h v s' g ⟨d,hk d a,r⟩
theorem EV.mono {e:PySem.Expr}{k k':D→Prop}(y:EV Ω l N ρ σ e k)(hk:∀ d,k d→k' d):EV Ω l N ρ σ e k':=fun A B μ env s R F=>(y A B μ env s R F).mono hk
theorem TV.mono {e:PySem.Expr}{k k':Bool→Prop}(y:TV Ω l N ρ σ e k)(hk:∀ d,k d→k' d):TV Ω l N ρ σ e k':=fun A B μ env s R F Q E h=>y A B μ env s R F Q E fun v s' g a=>h v s' g (hk v a)
theorem EF.mono {e:PySem.Expr}{k k':D→Sg→Prop}(y:EF Ω l N ρ σ e k)(hk:∀ d σ',k d σ'→k' d σ'):EF Ω l N ρ σ e k':=fun A B μ env s R F Q E h=>y A B μ env s R F Q E fun v aD σ' s' x z=>z.casesOn fun d a r=>h v aD σ' s' x ⟨d,hk d σ' a,r⟩
theorem TE.mono {e:PySem.Expr}{k k':Bool→Sg→Prop}(y:TE Ω l N ρ σ e k)(hk:∀ d σ',k d σ'→k' d σ'):TE Ω l N ρ σ e k':=fun A B μ env s R F Q E h=>y A B μ env s R F Q E fun v aD σ' s' x a=>h v aD σ' s' x (hk v σ' a)
theorem EF.pure {e:PySem.Expr}{k:D→Sg→Prop}(y:EV Ω l N ρ σ e fun d=>k d σ):EF Ω l N ρ σ e k:=fun A B μ env s R F Q E h=>y A B μ env s R F.toFx Q E fun v s' g z=>z.casesOn fun d a r=>h v μ σ s' (.aG F.hp g) ⟨d,a,r⟩
theorem TE.pure {e:PySem.Expr}{k:Bool→Sg→Prop}(y:TV Ω l N ρ σ e fun d=>k d σ):TE Ω l N ρ σ e k:=fun A B μ env s R F Q E h=>y A B μ env s R F.toFx Q E fun v s' g a=>h v μ σ s' (.aG F.hp g) a
theorem EX.mono {ss:List Stmt}{k k':Fl→aO→Sg→Prop}(y:EX Ω l N ρ σ ss k)(hk:∀ f ρ' σ',k f ρ' σ'→k' f ρ' σ'):EX Ω l N ρ σ ss k':=fun A B μ env s R F Q E h=>y A B μ env s R F Q E fun v aD σ' s' x z=>z.casesOn fun f ρ' a r r'=>h v aD σ' s' x ⟨f,ρ',hk f ρ' σ' a,r,r'⟩
theorem ES.mono {ss:Stmt}{k k':Fl→aO→Sg→Prop}(y:ES Ω l N ρ σ ss k)(hk:∀ f ρ' σ',k f ρ' σ'→k' f ρ' σ'):ES Ω l N ρ σ ss k':=fun A B μ env s R F Q E h=>y A B μ env s R F Q E fun v aD σ' s' x z=>z.casesOn fun f ρ' a r r'=>h v aD σ' s' x ⟨f,ρ',hk f ρ' σ' a,r,r'⟩
theorem bd.wide {L:List Addr}{aD:List Addr}{σ':Sg}{s':Shared}(x:bd Ω.prog Ω.w L [] B μ s aD σ' s'):bd Ω.prog Ω.w L W B μ s aD σ' s':=⟨x.same,x.new,fun b o hb χ hB e=>x.keep b o hb (fun m=>nomatch m) hB e,fun b o hb χ e=>x.bP b o hb (fun m=>nomatch m) e,x.hp,x.tk⟩
theorem eo (F:Fs Ω B μ env N ρ σ s):∀ b∈own env,b∈B:=fun b m=>by
 rcases YC.mp m with rfl | m
 ·exact F.qA
 ·refine az (fun p hp e_2=>?_) (Yt.mp m);subst e_2;exact F.jH p hp
theorem bd.then {L:List Addr}{aW bh:List Addr}{aq aM:Sg}{s₁ ag:Shared}(F:Fs Ω B μ env N ρ σ s)(x:bd Ω.prog Ω.w L (own env) B μ s aW aq s₁)(y:bd Ω.prog Ω.w L (own env) B aW s₁ bh aM ag):bd Ω.prog Ω.w L (own env) B μ s bh aM ag:=x.trans y (eo F)
inductive kT {α:Type}(o:Option α)(k:α→Prop):Prop where
 | mk (c:α)(e:o=some c)(h:k c)
theorem kT.el {α:Type}{o:Option α}{k:α→Prop}{G:Prop}(h:kT o k)(f:∀ c,o=some c→k c→G):G:=h.casesOn f
noncomputable def bX:D→(Int→Prop)→Prop
 | .int i,k=>k i
 | _,_=>False
noncomputable def dl:D→(Str→Prop)→Prop
 | .str i,k=>k i
 | _,_=>False
noncomputable def cT:D→(List D→Prop)→Prop
 | .list i,k=>k i
 | _,_=>False
noncomputable def DK:D→(Bool→Prop)→Prop
 | .bool i,k=>k i
 | _,_=>False
noncomputable def wZ:D→(Value→Prop)→Prop
 | .val v,k=>k v
 | _,_=>False
noncomputable def oH (d:D)(k:String→Prop):Prop:=wZ d fun v=>match v with
 | .type t=>k t
 | _=>False
theorem bX.el {m:D→Prop}{d:D}{k:Int→Prop}(h:bX d k)(f:∀ a,k a→m (.int a)):m d:=by cases d<;>first | exact f _ h | exact h.elim
theorem dl.el {m:D→Prop}{d:D}{k:Str→Prop}(h:dl d k)(f:∀ a,k a→m (.str a)):m d:=by cases d<;>first | exact f _ h | exact h.elim
theorem cT.el {m:D→Prop}{d:D}{k:List D→Prop}(h:cT d k)(f:∀ a,k a→m (.list a)):m d:=by cases d<;>first | exact f _ h | exact h.elim
theorem DK.el {m:D→Prop}{d:D}{k:Bool→Prop}(h:DK d k)(f:∀ a,k a→m (.bool a)):m d:=by cases d<;>first | exact f _ h | exact h.elim
theorem wZ.el {m:D→Prop}{d:D}{k:Value→Prop}(h:wZ d k)(f:∀ a,k a→m (.val a)):m d:=by cases d<;>first | exact f _ h | exact h.elim
theorem oH.el {m:D→Prop}{d:D}{k:String→Prop}(h:oH d k)(f:∀ t,k t→m (.val (.type t))):m d:=wZ.el h fun v h=>by
 cases v with
 | type t=>exact f t h
 | _=>exact h.elim
theorem bX.toP {d:D}{k:Int→Prop}(h:bX d k):vx k d:=bX.el h fun a h=>⟨a,rfl,h⟩
noncomputable def cJ (d1 d2:D)(k:Int→Int→Prop):Prop:=bX d1 fun a=>bX d2 fun b=>k a b
theorem cJ.el {m:D→D→Prop}{d d':D}{k:Int→Int→Prop}(h:cJ d d' k)(f:∀ a b,k a b→m (.int a) (.int b)):m d d':=bX.el (m:=fun d=>m d d') h fun a h=>bX.el h fun b h=>f a b h
noncomputable def MS (d1 d2:D)(k:D→Prop):Prop:=match d1 with
 | .int a=>bX d2 fun b=>k (.int (a+b))
 | .str a=>dl d2 fun b=>a.length+b.length≤sizeLine∧k (.str (a++b))
 | .list a=>cT d2 fun b=>a.length+b.length≤sizeLine∧k (.list (a++b))
 | _=>False
noncomputable def fz (op:PySem.Operator)(d1 d2:D)(k:D→Prop):Prop:=match op with
 | .Add=>MS d1 d2 k
 | .Sub=>cJ d1 d2 fun a b=>k (.int (a-b))
 | .Mult=>cJ d1 d2 fun a b=>IntMulOk a b∧k (.int (a*b))
 | .FloorDiv=>cJ d1 d2 fun a b=>b≠0∧Builtin.divisionGoesByPylong a b=false∧k (.int (a.fdiv b))
 | .Mod=>cJ d1 d2 fun a b=>b≠0∧k (.int (a.fmod b))
 | .Pow=>cJ d1 d2 fun a n=>0≤n∧(Builtin.Int.intBits a:Int)*n≤2^27∧k (.int (a^n.toNat))
 | .BitAnd=>cJ d1 d2 fun a b=>k (.int (Builtin.bitAnd a b))
 | .BitOr=>cJ d1 d2 fun a b=>k (.int (Builtin.bitOr a b))
 | .RShift=>cJ d1 d2 fun a n=>0≤n∧k (.int (a.fdiv (2^n.toNat)))
 | .LShift=>cJ d1 d2 fun a n=>0≤n∧(Builtin.Int.intBits a:Int)+n≤2^27∧k (.int (a*2^n.toNat))
 | _=>False
noncomputable def iu:D→Bool
 | .none=>true
 | _=>false
noncomputable def Wv (d1 d2:D)(k:Bool→Prop):Prop:=match d1 with
 | .int a=>bX d2 fun b=>k (a==b)
 | .str a=>dl d2 fun b=>k (a==b)
 | .list a=>cT d2 fun b=>kT (lT 8 (.list a) (.list b)) k
 | _=>False
noncomputable def Vc (d1 d2:D)(k:Bool→Prop):Prop:=match d1 with
 | .int a=>bX d2 fun b=>k (a != b)
 | .bool a=>DK d2 fun b=>k (a != b)
 | .list a=>cT d2 fun b=>kT (lT 8 (.list a) (.list b)) fun c=>k (!c)
 | _=>False
noncomputable def m6 (x d2:D)(k:Bool→Prop):Prop:=match d2 with
 | .list xs=>Xm x=true∧kT (XD x xs) k
 | .str y=>dl x fun z=>k (!(Builtin.Str.occurrences y z 0 y.length 1).isEmpty)
 | _=>False
noncomputable def Vn (d1 d2:D)(k:Bool→Prop):Prop:=match d2 with
 | .none=>k (iu d1)
 | .val v=>oH d1 fun a=>oH (.val v) fun b=>k (a==b)
 | _=>False
noncomputable def LW (d1 d2:D)(k:Bool→Prop):Prop:=match d2 with
 | .none=>k (!iu d1)
 | _=>False
noncomputable def fh (op:PySem.CmpOp)(d1 d2:D)(k:Bool→Prop):Prop:=match op with
 | .Eq=>Wv d1 d2 k
 | .NotEq=>Vc d1 d2 k
 | .Lt=>cJ d1 d2 fun a b=>k (decide (a<b))
 | .LtE=>cJ d1 d2 fun a b=>k (decide (a≤b))
 | .Gt=>cJ d1 d2 fun a b=>k (decide (b<a))
 | .GtE=>cJ d1 d2 fun a b=>k (decide (b≤a))
 | .In=>m6 d1 d2 k
 | .NotIn=>cT d2 fun xs=>Xm d1=true∧kT (XD d1 xs) fun c=>k (!c)
 | .Is=>Vn d1 d2 k
 | .IsNot=>LW d1 d2 k
noncomputable def I2 (d:D)(i:Int)(k:D→Prop):Prop:=match d with
 | .list xs=>xs.length<2^62∧kT ((seqIndex? i xs.length).bind (xs[·]?)) k
 | .str x=>(decide (i < -(2^63:Int))||decide (i≥2^63))=false∧kT ((seqIndex? i x.length).bind (x.cps[·]?)) fun c=>k (.str ⟨#[c]⟩)
 | .bytes b=>b.size≤1099511627776∧0≤i∧i<(b.size:Int)∧k (.int (b.toList.getD i.toNat 0).toNat)
 | _=>False
noncomputable def ph (d j:D)(k:D→Prop):Prop:=bX j fun i=>I2 d i k
noncomputable def G2:D→Option Int→Option Int→Option Int→(D→Prop)→Prop
 | .list xs,lo,hi,st,k=>st≠some 0∧xs.length≤sizeLine∧k (.list (Xs xs lo hi st))
 | .str x,lo,hi,st,k=>(st.getD 1==0)=false∧(jG x lo hi st).length≤sizeLine∧k (.str (jG x lo hi st))
 | _,_,_,_,_=>False
noncomputable def t_ (ds:List D)(k:D→Prop):Prop:=match ds with
 | [a]=>k a
 | _=>False
noncomputable def BI (ds:List D)(k:D→D→Prop):Prop:=match ds with
 | [a,b]=>k a b
 | _=>False
theorem t_.el {m:List D→Prop}{ds:List D}{k:D→Prop}(h:t_ ds k)(f:∀ a,k a→m [a]):m ds:=by
 cases ds with
 | nil=>exact h.elim
 | cons a ds=>
  cases ds with
  | nil=>exact f a h
  | cons b ds=>exact h.elim
theorem BI.el {m:List D→Prop}{ds:List D}{k:D→D→Prop}(h:BI ds k)(f:∀ a b,k a b→m [a,b]):m ds:=by
 cases ds with
 | nil=>exact h.elim
 | cons a ds=>
  cases ds with
  | nil=>exact h.elim
  | cons b ds=>
   cases ds with
   | nil=>exact f a b h
   | cons c ds=>exact h.elim
noncomputable def H3 (d:D)(k:D→Prop):Prop:=match d with
 | .str _=>k (.val (.type "str"))
 | .bytes _=>k (.val (.type "bytes"))
 | .bool _=>k (.val (.type "bool"))
 | _=>False
noncomputable def vM (ds:List D)(k:D→Prop):Prop:=t_ ds fun d=>H3 d k
noncomputable def mq (ds:List D)(k:D→Prop):Prop:=match ds with
 | [n]=>bX n fun n=>k (.ip 0 n 1)
 | [a,b]=>cJ a b fun a b=>k (.ip a b 1)
 | [a,b,c]=>cJ a b fun a b=>bX c fun c=>c≠0∧Builtin.divisionGoesByPylong (b-a) c=false∧k (.ip a b c)
 | _=>False
noncomputable def Yh (d:D)(k:D→Prop):Prop:=match d with
 | .list xs=>xs.length≤sizeLine∧k (.list xs)
 | .tup xs=>xs.length≤sizeLine∧k (.list xs)
 | .ip a b c=>c≠0∧Builtin.Range.small a b c=true∧(Builtin.Range.rangeSize a b c).toNat≤2^24∧k (.list (ed a b c))
 | _=>False
noncomputable def wv (ds:List D)(k:D→Prop):Prop:=t_ ds fun d=>Yh d k
noncomputable def vh (ds:List D)(k:D→Prop):Prop:=t_ ds fun d=>cT d fun xs=>kT (eX xs) fun ns=>(∀ n∈ns,0≤n∧n<256)∧xs.length≤sizeLine∧k (.bytes (byteArr ns))
noncomputable def LT (d:D)(k:D→Prop):Prop:=match d with
 | .list xs=>xs.length<2^63∧k (.int xs.length)
 | .str x=>x.length<2^63∧k (.int x.length)
 | _=>False
noncomputable def CS (ds:List D)(k:D→Prop):Prop:=t_ ds fun d=>LT d k
noncomputable def Yc (ds:List D)(k:D→Prop):Prop:=t_ ds fun d=>cT d fun xs=>kT (eX xs) fun ns=>k (.int ns.sum)
noncomputable def XA (ds:List D)(k:D→Prop):Prop:=t_ ds fun d=>cT d fun xs=>kT (eX xs) fun ns=>xs.length<64∧k (.list ((Xv ns).map .int))
noncomputable def Gg (ds:List D)(k:D→Prop):Prop:=BI ds fun a b=>dl a fun χ=>oH b fun T=>T="str"∧k (.bool true)
noncomputable def uh (T:String)(ds:List D)(k:D→Prop):Prop:=
 if T="range" then mq ds k else if T="list" then wv ds k else if T="bytes" then vh ds k else if T="type" then vM ds k else False
noncomputable def vj (id:String)(ds:List D)(k:D→Prop):Prop:=
 if id="len" then CS ds k else if id="sum" then Yc ds k else if id="sorted" then XA ds k else if id="isinstance" then Gg ds k else False
noncomputable def Xc:List PySem.Expr→Bool
 | []=>true
 | .Starred ..::_=>false
 | _::es=>Xc es
noncomputable def JE (ds:List D)(k:D→Prop):Prop:=BI ds fun a b=>dl a fun x=>dl b fun y=>k (.int (Txt.find x y))
noncomputable def I1 (ds:List D)(k:D→Prop):Prop:=BI ds fun a b=>dl a fun x=>cT b fun xs=>kT (i9 xs) fun ys=>(ys.map (fun x=>x.length)).sum+ys.length*x.length≤16777216∧k (.str (Txt.join x ys))
noncomputable def G_ (ds:List D)(k:D→Prop):Prop:=t_ ds fun a=>dl a fun x=>k (.bool (Txt.isascii x))
noncomputable def Gh (ds:List D)(k:D→Prop):Prop:=BI ds fun a x=>cT a fun xs=>Xm x=true∧(∃ b,XD x xs=some b)∧xs.length<2^62∧kT (ff x xs) fun j=>k (.int (j:Nat))
noncomputable def sx (id:String)(ds:List D)(k:D→Prop):Prop:=
 if id="str.find" then JE ds k else if id="str.join" then I1 ds k else if id="str.isascii" then G_ ds k else if id="list.index" then Gh ds k else False
noncomputable def ia:D→(List D→Prop)→Prop
 | .list xs,k=>k xs
 | .tup xs,k=>k xs
 | .bytes b,k=>k (b.toList.map fun c=>.int (c.toNat:Int))
 | .ip a b c,k=>c≠0∧Builtin.Range.small a b c=true∧k (ed a b c)
 | _,_=>False
theorem jN.toK {f:Value→Value→Sem Value}{d1 d2 d:D}{k:D→Prop}(o:jN f Ω.prog Ω.w A P d1 d2 d)(hk:k d){a b:Value}(L:Xk P s.heap)(r1:W_ P s.heap d1 a)(r2:W_ P s.heap d2 b):du Ω.M A P (f a b) s k:=
 (o s a b L r1 r2).toK hk
noncomputable def vF (Ω:U)(A:Around)(P:Pl)(s:Shared)(f:Value→Value→Sem Value)(k:D→Prop)(a b:Value)(d1 d2:D):Prop:=W_ P s.heap d1 a→W_ P s.heap d2 b→du Ω.M A P (f a b) s k
theorem jN.toB {f:Value→Value→Sem Value}{d1 d2 d:D}{k:D→Prop}(o:jN f Ω.prog Ω.w A P d1 d2 d)(hk:k d)(L:Xk P s.heap){a b:Value}:vF Ω A P s f k a b d1 d2:=fun r1 r2=>(o s a b L r1 r2).toK hk
theorem Bf (L:Xk P s.heap){op:PySem.Operator}{d1 d2:D}{k:D→Prop}{a b:Value}(h:fz op d1 d2 k):vF Ω A P s (binaryOp op) k a b d1 d2:=by
 cases op with
 | Add=>
  cases d1 with
  | int x=>exact bX.el h fun y h=>(IL _ _).toB h L
  | str x=>exact dl.el h fun y h=>(IJ _ _ h.1).toB h.2 L
  | list x=>exact cT.el h fun y h=>(FL h.1).toB h.2 L
  | _=>exact h.elim
 | Sub=>exact cJ.el h fun x y h=>(IA _ _).toB h L
 | Mult=>exact cJ.el h fun x y h=>(IF _ _ h.1).toB h.2 L
 | FloorDiv=>
  refine cJ.el h fun x y h r1 r2=>?_;obtain ⟨t,rfl⟩:=r1.inv;obtain ⟨t',rfl⟩:=r2.inv;exact fun Q E kk=>floordiv_int h.1 (kk _ _ (.tok ..) ⟨_,h.2.2,.int ..⟩) (.inl h.2.1)
 | Mod=>exact cJ.el h fun x y h=>(IG _ _ h.1).toB h.2 L
 | Pow=>exact cJ.el h fun x y h=>(ID _ _ h.1 h.2.1).toB h.2.2 L
 | BitAnd=>exact cJ.el h fun x y h=>(FM _ _).toB h L
 | BitOr=>exact cJ.el h fun x y h=>(IK _ _).toB h L
 | RShift=>exact cJ.el h fun x y h=>(IB _ _ h.1).toB h.2 L
 | LShift=>exact cJ.el h fun x y h=>(IC _ _ h.1 h.2.1).toB h.2.2 L
 | _=>exact h.elim
theorem mB {d:D}{v:Value}(r:W_ P s.heap d v):(v==.none)=iu d:=by
 cases d with
 | none=>rw [r.inv];rfl
 | bool b=>rw [r.inv];rfl
 | int i=>obtain ⟨t,rfl⟩:=r.inv;rfl
 | str x=>obtain ⟨t,rfl⟩:=r.inv;rfl
 | bytes x=>obtain ⟨t,rfl⟩:=r.inv;rfl
 | ca x t=>rw [r.inv];rfl
 | val w=>
  have f:=r.fixed;rw [r.inv];cases w<;>first | rfl | cases f
 | _=>obtain ⟨a,rfl⟩:=r.inv;rfl
inductive E0 (k:Bool→Prop)(d:D):Prop where
 | mk (c:Bool)(e:d=.bool c)(h:k c)
theorem a5.qF {M:Model}{A:Around}{t:Sem Value}{s:Shared}{P:Pl}{k:Bool→Prop}(x:a5 M A t s (X4 (W_ P) (E0 k))){Q:Value→Shared→Prop}{E:Value→Shared→Prop}(h:∀ c s',aH s s'→k c→Q (.bool c) s'):wpAny M A t Q E s:=
 x.go fun v s' g d hk r=>by
  obtain ⟨c,rfl,hc⟩:=hk;rw [r.inv];exact h c s' g hc
theorem nG (R:Rm l A)(L:Xk P s.heap){op:PySem.CmpOp}{d1 d2:D}{k:Bool→Prop}{a b:Value}(h:fh op d1 d2 k):vF Ω A P s (compareOp op) (E0 k) a b d1 d2:=by
 have hu:=R.units;cases op with
 | Eq=>
  cases d1 with
  | int x=>exact bX.el h fun y h=>(LK _ _).toB ⟨_,rfl,h⟩ L
  | str x=>exact dl.el h fun y h=>(IH _ _).toB ⟨_,rfl,h⟩ L
  | list x=>exact cT.el h fun y h=>h.el fun c e h=>(II 8 (R4 hu) e).toB ⟨_,rfl,h⟩ L
  | _=>exact h.elim
 | NotEq=>
  cases d1 with
  | int x=>exact bX.el h fun y h=>(LD _ _).toB ⟨_,rfl,h⟩ L
  | bool x=>
   refine DK.el h fun y h r1 r2=>?_;rw [r1.inv,r2.inv];exact fun Q E kk=>ne_bool (kk _ _ (.refl _) ⟨_,⟨_,rfl,h⟩,.bool _⟩)
  | list x=>exact cT.el h fun y h=>h.el fun c e h=>(IE 7 (R5 hu) e).toB ⟨_,rfl,h⟩ L
  | _=>exact h.elim
 | Lt=>exact cJ.el h fun x y h=>(LF _ _).toB ⟨_,rfl,h⟩ L
 | LtE=>exact cJ.el h fun x y h=>(LG _ _).toB ⟨_,rfl,h⟩ L
 | Gt=>exact cJ.el h fun x y h=>(LI _ _).toB ⟨_,rfl,h⟩ L
 | GtE=>exact cJ.el h fun x y h=>(LJ _ _).toB ⟨_,rfl,h⟩ L
 | In=>
  cases d2 with
  | list xs=>exact h.2.el fun c e hk=>(LH h.1 e).toB ⟨_,rfl,hk⟩ L
  | str y=>exact dl.el (m:=fun d=>vF Ω A P s _ _ _ _ d _) h fun x h=>Cu.toB ⟨_,rfl,h⟩ L
  | _=>exact h.elim
 | NotIn=>exact cT.el h fun xs h=>h.2.el fun c e hk=>(Ct h.1 e).toB ⟨_,rfl,hk⟩ L
 | Is=>
  cases d2 with
  | none=>
   intro r1 r2;rw [r2.inv];refine fun Q E kk=>is_none_gen (kk _ _ (.refl _) ⟨_,⟨_,rfl,h⟩,?_⟩);exact rv (mB r1) (.bool _)
  | val v=>
   refine oH.el (m:=fun d=>vF Ω A P s _ _ _ _ d _) (show oH d1 fun a=>oH (.val v) fun b=>k (a==b) from h) fun x h=>oH.el (m:=fun d=>vF Ω A P s _ _ _ _ _ d) h fun y h r1 r2=>?_;rw [r1.inv,r2.inv];refine fun Q E kk=>wpAny_is_plain rfl (kk _ _ (.refl _) ⟨_,⟨_,rfl,h⟩,?_⟩);have e:(Value.type x==Value.type y)=(x==y):=by
    exact rv (propext (Bool.eq_iff_iff)) (rv (propext (YK)) (rv (propext (YK)) ⟨fun e=>Value.type.inj e,fun e=>congrArg _ e⟩))
   exact rv e (.bool _)
  | _=>exact h.elim
 | IsNot=>
  cases d2 with
  | none=>
   intro r1 r2;rw [r2.inv];refine fun Q E kk=>isnot_none_gen (kk _ _ (.refl _) ⟨_,⟨_,rfl,h⟩,?_⟩);exact rv (mB r1) (.bool _)
  | _=>exact h.elim
theorem d_ {i:Int}{n j:Nat}(h:seqIndex? i n=some j):j<n∧((0≤i∧i.toNat=j)∨(i<0 ∧ -(n:Int)≤i∧(i+n).toNat=j)):=by
 unfold seqIndex? at h
 by_cases hn:i<0
 ·simp only [hn,if_true] at h;split at h
  ·rename_i q;rw [YR,decide_eq_true_eq,decide_eq_true_eq] at q;obtain rfl:=Yx h;exact T4 q.1 q.2
  ·exact iZ h
 ·simp only [hn,if_false] at h;split at h
  ·rename_i q;rw [YR,decide_eq_true_eq,decide_eq_true_eq] at q;obtain rfl:=Yx h;exact T1 q.1 q.2
  ·exact iZ h
theorem Xy {prog:Program}{w:World}{A:Around}{s:Shared}{a:Addr}{us:List Value}{i:Int}{t:Tok}{n j:Nat}{u:Value}{Q:Value→Shared→Prop}{E:Value→Shared→Prop}(hl:s.heap.IsList a us.toArray)(hn:us.length=n)(hz:n<2^62)(hc:j<n∧((0≤i∧i.toNat=j)∨(i<0 ∧ -(n:Int)≤i∧(i+n).toNat=j)))(hu:us[j]? = some u)(h:Q u s):wpAny (model prog w) A (getItem (.ref a) (.int i t)) Q E s:=by
 subst hn;rcases hc with ⟨hj,⟨h0,rfl⟩ | ⟨h0,h1,rfl⟩⟩
 ·exact wpAny_getItem_list hl h0 (UV hz hj) (by simpa using hu) h
 ·exact wpAny_getItem_list_neg hl h0 (rv YT h1) (UW hz h1) (by simpa using hu) h
theorem C6 {value slice:PySem.Expr}(hs:kW slice=false){d1 d2:D}{k:D→Prop}{a b:Value}(h:ph d1 d2 k):vF Ω A P s (subscriptTail value slice) k a b d1 d2:=bX.el h fun i h r1 r2=>by
 obtain ⟨BS,rfl⟩:=r2.inv;cases d1 with
 | list xs=>
  refine h.2.el fun d e hk=>?_;cases e1:seqIndex? i xs.length with
  | none=>rw [e1] at e;cases e
  | some j=>
   rw [e1] at e;have hc:=(d_ e1).2;refine fD (fun a us n e_1 pa o rs=>?_) (Xg r1);subst e_1;have hl:=a_ o;refine az (fun u hu ru=>?_) (rs.at j e);intro Q E kk;exact tail_any hl.typeIs slot_list_getitem.lookup (Xy hl rs.length h.1 (d_ e1) hu (kk _ _ (.refl _) ⟨_,hk,ru⟩)) (d6 hs _ _)
 | str x=>
  refine h.2.el fun c e hk=>?_;obtain ⟨t,rfl⟩:=r1.inv;exact fun Q E kk=>tail_any (T:="str") (typeIs_str _ x t) F.slot_str_getitem.lookup (getItem_str h.1 e (kk _ _ (.tok ..) ⟨_,hk,.str ..⟩)) (d6 hs _ _)
 | bytes x=>
  obtain ⟨t,rfl⟩:=r1.inv;refine fun Q E kk=>tail_any (T:="bytes") (PySem.W.typeIs_bytes _ _ t) FB.slot_bytes_getitem.lookup ?_ (d6 hs _ _);have e:x=x.toList.toArray:=by simp
  conv in Value.bytes x t=>rw [e]
  exact getItem_bytes (by simpa using h.1) h.2.1 (by simpa using h.2.2.1) (kk _ _ (.tok ..) ⟨_,h.2.2.2,.int ..⟩)
 | _=>exact h.elim
noncomputable abbrev DO (M:Model)(A:Around)(P:Pl)(t:Sem (List Value))(s:Shared)(k:List D→Prop):Prop:=a5 M A t s (X4 (au P) k)
theorem mC {e:PySem.Expr}{es fs:List PySem.Expr}(h:Xc (e::es)=true):Xc es=true∧starEach (e::fs) env=(false,eval e env)::starEach fs env:=by
 cases e<;>first | exact ⟨h,rfl⟩ | exact oF h
theorem cn {e:PySem.Expr}{es:List PySem.Expr}(h:Xc (e::es)=true):Xc es=true∧starEach (e::es) env=(false,eval e env)::starEach es env:=mC h
theorem sv:∀ {es:List PySem.Expr},Xc es=true→(starEach es env).all (fun x=>!x.1)=true:=by
 intro es
 induction es with
 | nil=>
  intro χ;exact rfl
 | cons e es ih=>
  intro h;obtain ⟨h1,h2⟩:=cn (env:=env) h;refine rv h2 (rv List.all_cons (rv (ih h1) ?_));rfl
theorem lf {es:List PySem.Expr}(pos:Pos)(h:Xc es=true):(backTo pos (starEach es env)).all (fun x=>!x.1)=true:=by
 have:=sv (env:=env) h;unfold backTo;refine rv List.all_map ?_;exact this
theorem aK {es:List PySem.Expr}(pos:Pos)(h:Xc es=true):(backTo pos (starEach es env)).any (fun x=>x.1)=false:=by
 have h1:=lf (env:=env) pos h;rw [List.all_eq_true] at h1;refine rv (propext (List.any_eq_false)) ?_;intro x hx;simpa using h1 x hx
theorem b0.toK {f:Value}{ds:List D}{d:D}{k:D→Prop}{vs:List Value}(c:b0 Ω.prog Ω.w A P s f ds d)(hk:k d)(r:au P s.heap ds vs):du Ω.M A P (call f vs) s k:=(c s vs (.refl _) r).toK hk
noncomputable def bf (Ω:U)(A:Around)(P:Pl)(s:Shared)(f:Value)(k:D→Prop)(vs:List Value)(ds:List D):Prop:=au P s.heap ds vs→du Ω.M A P (call f vs) s k
theorem b0.toC {f:Value}{ds:List D}{d:D}{k:D→Prop}{vs:List Value}(c:b0 Ω.prog Ω.w A P s f ds d)(hk:k d):bf Ω A P s f k vs ds:=fun r=>(c s vs (.refl _) r).toK hk
theorem dU {T x:String}{a b:Prop}{m:String→Prop}(h:if T=x then a else b)(f:a→m x)(g:b→m T):m T:=by
 by_cases e:T=x
 ·rw [YH e] at h;exact rv e (f h)
 ·rw [Yz e] at h;exact g h
theorem yM (R:Rm l A)(hc:l.calm=true)(L:Xk P s.heap){T:String}{ds:List D}{k:D→Prop}{vs:List Value}(h:uh T ds k):bf Ω A P s (.type T) k vs ds:=by
 refine dU (m:=fun T=>bf Ω A P s (.type T) k vs ds) h (fun h=>?_) fun h=>dU (m:=fun T=>bf Ω A P s (.type T) k vs ds) h (fun h=>?_) fun h=>dU (m:=fun T=>bf Ω A P s (.type T) k vs ds) h (fun h=>?_) fun h=>dU (m:=fun T=>bf Ω A P s (.type T) k vs ds) h (fun h=>?_) False.elim
 ·cases ds with
  | nil=>exact h.elim
  | cons a ds=>
   cases ds with
   | nil=>exact bX.el (m:=fun d=>bf Ω A P s _ k vs [d]) h fun n h=>(Bc L).toC h
   | cons b ds=>
    cases ds with
    | nil=>exact cJ.el (m:=fun d d'=>bf Ω A P s _ k vs [d,d']) h fun x y h=>(Bb L).toC h
    | cons c ds=>
     cases ds with
     | nil=>exact cJ.el (m:=fun d d'=>bf Ω A P s _ k vs [d,d',c]) h fun x y h=>bX.el (m:=fun d=>bf Ω A P s _ k vs [_,_,d]) h fun z h=>(Ba L h.1 h.2.1).toC h.2.2
     | cons e ds=>exact h.elim
 ·refine t_.el (m:=bf Ω A P s _ k vs) h fun d h=>?_;cases d with
  | list xs=>exact (tC L h.1).toC h.2
  | tup xs=>exact (ve L h.1).toC h.2
  | ip a b c=>exact (vf (R.calm hc) L h.1 h.2.1 h.2.2.1).toC h.2.2.2
  | _=>exact h.elim
 ·exact t_.el (m:=bf Ω A P s _ k vs) h fun d h=>cT.el (m:=fun d=>bf Ω A P s _ k vs [d]) h fun xs h=>h.el fun ns e h=>(DA (R.calm hc) e h.1 h.2.1).toC h.2.2
 ·refine t_.el (m:=bf Ω A P s _ k vs) h fun d h r=>?_;refine az (fun v e_2 x=>?_) r.one;subst e_2;cases d with
  | str y=>obtain ⟨t,rfl⟩:=x.inv;exact fun Q E kk=>call_type_of (typeIs_str _ _ _) (by decide) (kk _ _ (.refl _) ⟨_,h,.val _ rfl⟩)
  | bytes y=>obtain ⟨t,rfl⟩:=x.inv;exact fun Q E kk=>call_type_of (PySem.W.typeIs_bytes _ _ _) (by decide) (kk _ _ (.refl _) ⟨_,h,.val _ rfl⟩)
  | bool y=>rw [x.inv];exact fun Q E kk=>call_type_of (PySem.typeIs_bool _ _) (by decide) (kk _ _ (.refl _) ⟨_,h,.val _ rfl⟩)
  | _=>exact h.elim
theorem Be (R:Rm l A)(hc:l.calm=true)(L:Xk P s.heap){id:String}{ds:List D}{k:D→Prop}{vs:List Value}(h:vj id ds k):bf Ω A P s (.builtin id) k vs ds:=by
 refine dU (m:=fun T=>bf Ω A P s (.builtin T) k vs ds) h (fun h=>?_) fun h=>dU (m:=fun T=>bf Ω A P s (.builtin T) k vs ds) h (fun h=>?_) fun h=>dU (m:=fun T=>bf Ω A P s (.builtin T) k vs ds) h (fun h=>?_) fun h=>dU (m:=fun T=>bf Ω A P s (.builtin T) k vs ds) h (fun h=>?_) False.elim
 ·refine t_.el (m:=bf Ω A P s _ k vs) h fun d h=>?_;cases d with
  | list xs=>exact (vg h.1).toC h.2
  | str xs=>exact (ym h.1).toC h.2
  | _=>exact h.elim
 ·exact t_.el (m:=bf Ω A P s _ k vs) h fun d h=>cT.el (m:=fun d=>bf Ω A P s _ k vs [d]) h fun xs h=>h.el fun ns e h=>(JI (R.calm hc) e).toC h
 ·exact t_.el (m:=bf Ω A P s _ k vs) h fun d h=>cT.el (m:=fun d=>bf Ω A P s _ k vs [d]) h fun xs h=>h.el fun ns e h=>(A_ L e h.1).toC h.2
 ·refine BI.el (m:=bf Ω A P s _ k vs) h fun a b h=>dl.el (m:=fun d=>bf Ω A P s _ k vs [d,b]) h fun x h=>oH.el (m:=fun d=>bf Ω A P s _ k vs [_,d]) h fun T h r=>?_;refine gf (fun v v' e_3 x1 x2=>?_) r.two;subst e_3;obtain ⟨t,rfl⟩:=x1.inv;rw [x2.inv,h.1];exact fun Q E kk=>PySem.IsiPair.str_str (kk _ _ (.refl _) ⟨_,h.2,.bool _⟩)
theorem CM {id:String}{ds:List D}{k:D→Prop}{vs:List Value}(h:sx id ds k):bf Ω A P s (.builtin id) k vs ds:=by
 refine dU (m:=fun T=>bf Ω A P s (.builtin T) k vs ds) h (fun h=>?_) fun h=>dU (m:=fun T=>bf Ω A P s (.builtin T) k vs ds) h (fun h=>?_) fun h=>dU (m:=fun T=>bf Ω A P s (.builtin T) k vs ds) h (fun h=>?_) fun h=>dU (m:=fun T=>bf Ω A P s (.builtin T) k vs ds) h (fun h=>?_) False.elim
 ·exact BI.el (m:=bf Ω A P s _ k vs) h fun a b h=>dl.el (m:=fun d=>bf Ω A P s _ k vs [d,b]) h fun x h=>dl.el (m:=fun d=>bf Ω A P s _ k vs [_,d]) h fun y h=>G5.toC h
 ·exact BI.el (m:=bf Ω A P s _ k vs) h fun a b h=>dl.el (m:=fun d=>bf Ω A P s _ k vs [d,b]) h fun x h=>cT.el (m:=fun d=>bf Ω A P s _ k vs [_,d]) h fun y h=>h.el fun ys e h=>(G4 e h.1).toC h.2
 ·exact t_.el (m:=bf Ω A P s _ k vs) h fun d h=>dl.el (m:=fun d=>bf Ω A P s _ k vs [d]) h fun x h=>yn.toC h
 ·exact BI.el (m:=bf Ω A P s _ k vs) h fun a x h=>cT.el (m:=fun d=>bf Ω A P s _ k vs [d,x]) h fun xs h=>h.2.1.elim fun b e'=>h.2.2.2.el fun j e hk=>(Dz h.1 e e' h.2.2.1).toC hk
noncomputable def rP (Ω:U)(l:Lv)(N:ay)(ρ:aO)(σ:Sg)(es:List PySem.Expr)(k:List D→Prop):Prop:=
 ∀ (A:Around) (B μ:List Addr) (env:Env) (s:Shared) (pos:Pos),Rm l A→Fx Ω B μ env N ρ σ s→DO Ω.M A (Xa μ (μ++B)) (spliced (backTo pos (starEach es env))) s k
noncomputable def EY (Ω:U)(l:Lv)(N:ay)(ρ:aO)(σ:Sg)(e:Option PySem.Expr)(k:Option Int→Prop):Prop:=
 ∀ (A:Around) (B μ:List Addr) (env:Env) (s:Shared),Rm l A→Fx Ω B μ env N ρ σ s→a5 Ω.M A (evalPart e env) s (X4 (fun χ i v=>IsPart v i) k)
noncomputable def Yf (Ω:U)(l:Lv)(N:ay)(ρ:aO)(σ:Sg)(e:PySem.Expr)(k:List D→Prop):Prop:=
 ∀ (A:Around) (B μ:List Addr) (env:Env) (s:Shared),Rm l A→Fx Ω B μ env N ρ σ s→rE Ω.prog Ω.w A μ (μ++B) env e s k
inductive XR:Value→D→Prop where
 | int (i:Int)(t:Tok):XR (.int i t) (.int i)
 | bytes (b:Array UInt8)(t:Tok):XR (.bytes b t) (.bytes b)
 | val (v:Value)(h:ni v=true):XR v (.val v)
theorem XR.rep {v:Value}{d:D}(f:XR v d){P:Pl}{h:Heap}:W_ P h d v:=by
 cases f with
 | int i t=>exact .int i t
 | bytes b t=>exact .bytes b t
 | val _ h=>exact .val _ h
noncomputable def gn:D→(Bool→Prop)→Prop
 | .none,k=>k false
 | .bool b,k=>k b
 | .int i,k=>k (i != 0)
 | .str x,k=>(x.length:Int)<2^63∧k ((x.length:Int) != 0)
 | .list xs,k=>(xs.length:Int)<2^63∧k (!xs.isEmpty)
 | _,_=>False
section
variable {k:D→Prop}
theorem af {i:Int}{m:Nat}{pos:Pos}(h:k (.int i)):EV Ω l N ρ σ (.Constant (.int i) m pos) k:=fun A B μ env s R F=>HW.toK h
theorem b_ {x:Str}{m:Nat}{pos:Pos}(h:k (.str x)):EV Ω l N ρ σ (.Constant (.str x) m pos) k:=fun A B μ env s R F=>HV.toK h
theorem bL {m:Nat}{pos:Pos}(h:k .none):EV Ω l N ρ σ (.Constant .none m pos) k:=fun A B μ env s R F=>E3.toK h
theorem f_ {b:Bool}{m:Nat}{pos:Pos}(h:k (.bool b)):EV Ω l N ρ σ (.Constant (.bool b) m pos) k:=fun A B μ env s R F=>Ya.toK h
theorem aa {x:Str}{d:D}{pos:Pos}(e:lk x ρ=some d)(h:k d)(hd:(sEq x "__debug__"||sEq x "__classdict__")=false):EV Ω l N ρ σ (.Name x pos) k:=fun A B μ env s R F=>by
 rw [Bool.or_eq_false_iff,eO,eO] at hd;exact (E4 F.toFm (rv (be _ _).symm e) hd.1 hd.2).toK h
theorem aT {x:Str}{v:Value}{d:D}{pos:Pos}(hg:lk x N=some .globalImplicit)(e:(Ω.C.mg x).or (Ω.C.mb x)=some v)(hv:XR v d)(h:k d)(hd:sEq x "__debug__"=false):EV Ω l N ρ σ (.Name x pos) k:=fun A B μ env s R F Q E kk=>by
 rw [eO] at hd;refine wpAny_Name ?_ hd;refine rv (ou F.kind (by show env.scope.names.lookup x=_;rw [F.names,← be];exact hg)) ?_;unfold loadGlobal;refine rv F.globals (rv F.builtins ?_);refine Yo (wpAny_nsGet (Ω.ok.g _ F.stays) ?_);cases q:Ω.C.mg x with
 | some u=>
  rw [q] at e;cases e;exact YA (kk _ _ (.refl _) ⟨d,h,hv.rep⟩)
 | none=>
  rw [q] at e;refine Yo (wpAny_nsGet (Ω.ok.b _ F.stays) ?_);refine rv (show Ω.C.mb x=some v from e) ?_;exact YA (kk _ _ (.refl _) ⟨d,h,hv.rep⟩)
theorem ap {x y:PySem.Expr}{op:PySem.Operator}{pos:Pos}(h:EV Ω l N ρ σ x fun a=>EV Ω l N ρ σ y fun b=>fz op a b k):EV Ω l N ρ σ (.BinOp x op y pos) k:=fun A B μ env s R F Q E kk=>
 wpAny_BinOp ((h A B μ env s R F).go fun a s₁ ai yd aP b6=>by
  refine (aP A B μ env s₁ R (F.grown ai)).go fun b ag ar yc cW cU=>?_;exact (Bf (F.lets.grown (ai.trans ar)) cW (b6.ext ar.ext) cU).use fun v aE aU r=>kk v aE ((ai.trans ar).trans aU) r)
theorem n0 {x y:PySem.Expr}{op:PySem.CmpOp}{pos:Pos}(hm:behindInMarks op y=false)(h:EV Ω l N ρ σ x fun a=>EV Ω l N ρ σ y fun b=>fh op a b fun c=>k (.bool c)):EV Ω l N ρ σ (.Compare x [op] [y] pos) k:=fun A B μ env s R F Q E kk=>
 wpAny_Compare1 ((h A B μ env s R F).go fun a s₁ ai yd aP b6=>by
  refine (aP A B μ env s₁ R (F.grown ai)).go fun b ag ar yc cW cU=>?_;exact (nG R (F.lets.grown (ai.trans ar)) cW (b6.ext ar.ext) cU).qF fun c aE aU hc=>kk _ aE ((ai.trans ar).trans aU) ⟨_,hc,.bool _⟩) hm
theorem f9 {x:PySem.Expr}{pos:Pos}(h:EV Ω l N ρ σ x fun d=>bX d fun i=>k (.int (-i))):EV Ω l N ρ σ (.UnaryOp .USub x pos) k:=fun A B μ env s R F Q E kk=>
 wpAny_UnaryOp (((h.mono fun d h=>bX.toP h) A B μ env s R F).sU fun i t s₁ ai hd=>neg_int (kk _ _ (ai.trans (.tok ..)) ⟨_,hd,.int ..⟩))
theorem ak {k:List D→Prop}(h:k []):rP Ω l N ρ σ [] k:=fun A B μ env s pos R F Q E kk=>wpAny_items_nil (kk _ _ (.refl _) ⟨[],h,.nil⟩)
theorem ae {e:PySem.Expr}{es:List PySem.Expr}{k:List D→Prop}(hn:Xc (e::es)=true)(h:EV Ω l N ρ σ e fun d=>rP Ω l N ρ σ es fun ds=>k (d::ds)):rP Ω l N ρ σ (e::es) k:=fun A B μ env s pos R F Q E kk=>by
 obtain ⟨h1,h2⟩:=cn (env:=env) hn;refine wpAny_items_cons ((h A B μ env s R F).go fun v s₁ ai d hd r=>?_) h2;refine (hd A B μ env s₁ pos R (F.grown ai)).go fun vs ag ar ds uX rs=>?_;exact kk _ _ (ai.trans ar) ⟨d::ds,uX,.cons _ _ _ _ (r.ext ar.ext) rs⟩
theorem bM {es:List PySem.Expr}{pos:Pos}(h:rP Ω l N ρ σ es fun ds=>ds.length≤sizeLine∧k (.list ds)):EV Ω l N ρ σ (.List es pos) k:=fun A B μ env s R F Q E kk=>
 wpAny_List ((h A B μ env s pos R F).go fun vs s₁ g ds hq r=>by
  obtain ⟨hz,hk⟩:=hq;exact ⟨rv r.length hz,kk _ _ (g.trans (.heap (.push _ _))) ⟨_,hk,.list ds _ vs 0 (F.lets.grown g).size (Yw _ rfl) (r.ext (.push _ _))⟩⟩)
theorem rH {es:List PySem.Expr}{n:Nat}{pos:Pos}(h:rP Ω l N ρ σ es fun ds=>ds.length≤sizeLine∧k (.tup ds)):EV Ω l N ρ σ (.Tuple es n pos) k:=fun A B μ env s R F Q E kk=>
 wpAny_Tuple ((h A B μ env s pos R F).go fun vs s₁ g ds hq r=>by
  obtain ⟨hz,hk⟩:=hq;exact ⟨rv r.length hz,kk _ _ (g.trans (.heap (.push _ _))) ⟨_,hk,.tup ds _ vs 0 (F.lets.grown g).size (Yw _ rfl) (r.ext (.push _ _))⟩⟩)
theorem J5 {t a b:PySem.Expr}{pos:Pos}(h:TV Ω l N ρ σ t fun c=>D0 c (EV Ω l N ρ σ a k) (EV Ω l N ρ σ b k)):EV Ω l N ρ σ (.IfExp t a b pos) k:=fun A B μ env s R F Q E kk=>
 wpAny_IfExp ((h A B μ env s R F).use fun c s₁ g hh=>by
  cases c with
  | true=>exact (hh.1 rfl A B μ env s₁ R (F.grown g)).use fun v ag ar r=>kk v ag (g.trans ar) r
  | false=>exact (hh.2 rfl A B μ env s₁ R (F.grown g)).use fun v ag ar r=>kk v ag (g.trans ar) r)
theorem aX {v i:PySem.Expr}{pos:Pos}(hs:kW i=false)(h:EV Ω l N ρ σ v fun d=>EV Ω l N ρ σ i fun j=>ph d j k):EV Ω l N ρ σ (.Subscript v i pos) k:=fun A B μ env s R F Q E kk=>
 Subscript_ ((h A B μ env s R F).go fun a s₁ ai yd aP b6=>by
  refine (aP A B μ env s₁ R (F.grown ai)).go fun b ag ar yc cW cU=>?_;exact (C6 hs cW (b6.ext ar.ext) cU).use fun v aE aU r=>kk v aE ((ai.trans ar).trans aU) r)
theorem aS {k:Option Int→Prop}(h:k none):EY Ω l N ρ σ none k:=fun A B μ env s R F Q E kk=>YA (kk _ _ (.refl _) ⟨none,h,.none⟩)
theorem bx {e:PySem.Expr}{k:Option Int→Prop}(h:EV Ω l N ρ σ e fun d=>bX d fun i=>k (some i)):EY Ω l N ρ σ (some e) k:=fun A B μ env s R F Q E kk=>((h.mono fun d h=>bX.toP h) A B μ env s R F).sU fun i t s₁ g hd=>kk _ _ g ⟨some i,hd,.int i t⟩
theorem sE {v:PySem.Expr}{lo hi st:Option PySem.Expr}{p:Pos}{a:Addr}{us:List Value}{m:Nat}{xs:List D}{vl vu vs:Value}{xO iP step:Option Int}(L:Xk P s.heap)(o:s.heap.get? a=some { cls:=.type "list",data:=.seq us.toArray m })(rs:au P s.heap xs us)
  (pl:IsPart vl xO) (pu:IsPart vu iP) (ps:IsPart vs step) (h0:step≠some 0) (hsz:xs.length≤sizeLine) (hk:k (.list (Xs xs xO iP step))) {Q:Value→Shared→Prop} {E:Value→Shared→Prop} (kk:∀ v s',aH s s'→X4 (W_ P) k v s'→Q v s'):
  wpAny Ω.M A (subscriptTail v (.Slice lo hi st p) (.ref a) (.ref s.heap.objs.size)) Q E { s with heap:=s.heap.push { cls:=.type "slice",data:=.fields #[vl,vu,vs] } }:=by
 have Ji:=a_ o;have hz:us.toArray.size=xs.length:=rs.length;obtain ⟨ops,he⟩:=oQ (l:=lo) (u:=hi) (st:=st) (p:=p) (.ref a) (.ref s.heap.objs.size);refine tail_any (T:="list") ((Ji.at fun χ e=>YB _ e).typeIs) slot_list_getitem.lookup ?_ he;refine wpAny_getItem_list_slice (Ji.at fun χ e=>YB _ e) (Heap.IsSliceOf.new ..) pl pu ps h0 ?_ (rv hz hsz);have X:Xi s.heap ((s.heap.push { cls:=.type "slice",data:=.fields #[vl,vu,vs] }).push { cls:=.type "list",data:=.seq (slicePick us.toArray xO iP step) }):=(Xi.push _ _).trans (Xi.push _ _);refine kk _ _ (.heap X) ⟨_,hk,.list _ _ ((sliceRange (sliceBounds xO iP step xs.length).1 (sliceBounds xO iP step xs.length).2.1 (sliceBounds xO iP step xs.length).2.2).filterMap (us[·]?)) 0 (L.ext (Xi.push _ _)).size ?_ ((rs.pick _).ext X)⟩;show (((s.heap.push _).push _).get? _)=_;refine rv (Yw _ rfl) ?_;simp only [slicePick,hz];congr 3;simp
theorem c9 {v:PySem.Expr}{lo hi st:Option PySem.Expr}{p pos:Pos}(h:EV Ω l N ρ σ v fun d=>EY Ω l N ρ σ lo fun a=>EY Ω l N ρ σ hi fun b=>EY Ω l N ρ σ st fun c=>G2 d a b c k):EV Ω l N ρ σ (.Subscript v (.Slice lo hi st p) pos) k:=fun A B μ env s R F Q E' kk=>by
 refine Subscript_ ((h A B μ env s R F).go fun v s₁ ai d hd b6=>?_);refine wpAny_Slice ((hd A B μ env s₁ R (F.grown ai)).go fun vl ag ar xO hlo pl=>?_);refine (hlo A B μ env ag R (F.grown (ai.trans ar))).go fun vu aE aU iP Mo pu=>?_;refine (Mo A B μ env aE R (F.grown ((ai.trans ar).trans aU))).go fun vs iz c4 step lN ps=>?_;have G:=(ai.trans ar).trans (aU.trans c4);have Ih:=b6.ext (ar.trans (aU.trans c4)).ext;cases d with
 | list xs=>
  refine fD (fun a us n e_1 pa o rs=>?_) (Xg Ih);subst e_1;exact sE (F.lets.grown G) o rs pl pu ps lN.1 lN.2.1 lN.2.2 fun v s' g hh=>kk v s' (G.trans g) hh
 | str x=>
  obtain ⟨t,rfl⟩:=Ih.inv;refine az (fun l' e_2 e1=>?_) (uB pl);subst e_2;refine az (fun u' e_3 e2=>?_) (uB pu);subst e_3;refine az (fun B8 e_4 e3=>?_) (uB ps);subst e_4;obtain ⟨ops,he⟩:=oQ (l:=lo) (u:=hi) (st:=st) (p:=p) (.str x t) (.ref iz.heap.objs.size);refine tail_any (T:="str") (typeIs_str _ x t) PySem.F.slot_str_getitem.lookup (wpAny_getItem_str_slice (l:=l') (u:=u') (st:=B8) (eQ _ (Yw _ rfl) rfl rfl) (rv e3 lN.1) ?_) he;unfold sliceMade slicePicked;refine rv e1 (rv e2 (rv e3 ?_));have G':aH s { iz with heap:=iz.heap.push { cls:=.type "slice",data:=.fields #[partValue l',partValue u',partValue B8] } }:=G.trans (.heap (Xi.push _ _));split
  ·rename_i q;exact kk _ _ G' ⟨_,(YH q:jG x xO iP step=x)▸lN.2.2,.str ..⟩
  ·rename_i q;have e:jG x xO iP step=⟨((ms x xO iP step).filterMap (x.cps[·]?)).toArray⟩:=Yz q;have h2:(jG x xO iP step).length≤sizeLine∧k (.str (jG x xO iP step)):=lN.2;rw [e] at h2;exact ⟨h2.1,kk _ _ (G'.trans (.tok ..)) ⟨_,h2.2,.str ..⟩⟩
 | _=>exact lN.elim
theorem aC {x y:PySem.Expr}{op:PySem.CmpOp}{pos:Pos}{k:Bool→Prop}(hm:behindInMarks op y=false)(h:EV Ω l N ρ σ x fun a=>EV Ω l N ρ σ y fun b=>fh op a b k):TV Ω l N ρ σ (.Compare x [op] [y] pos) k:=fun A B μ env s R F Q E kk=>
 wpAny_isTrue_Compare1 ((h A B μ env s R F).go fun a s₁ ai yd aP b6=>by
  refine (aP A B μ env s₁ R (F.grown ai)).go fun b ag ar yc cW cU=>?_;exact (nG R (F.lets.grown (ai.trans ar)) cW (b6.ext ar.ext) cU).qF fun c aE aU hc=>wpAny_truthy_bool (kk _ aE ((ai.trans ar).trans aU) hc)) hm
theorem DT {x y z:PySem.Expr}{op Ix:PySem.CmpOp}{pos:Pos}{k:Bool→Prop}(hm:lastMarks [op,Ix] [y,z]=false)
  (h:EV Ω l N ρ σ x fun a=>EV Ω l N ρ σ y fun b=>fh op a b fun c=>D0 c (EV Ω l N ρ σ z fun d=>fh Ix b d k) (k false)):TV Ω l N ρ σ (.Compare x [op,Ix] [y,z] pos) k:=fun A B μ env s R F Q E kk=>
 isTrue_chain ((h A B μ env s R F).go fun a s₁ ai yd aP b6=>by
  refine test_link ((aP A B μ env s₁ R (F.grown ai)).go fun b ag ar yc cW cU=>?_);refine (nG R (F.lets.grown (ai.trans ar)) cW (b6.ext ar.ext) cU).qF fun c aE aU hc=>?_;have G:=(ai.trans ar).trans aU;refine wpAny_truthy_bool ?_;cases c with
  | false=>exact kk _ aE G (hc.2 rfl)
  | true=>
   refine test_last ((hc.1 rfl A B μ env aE R (F.grown G)).go fun e iz c4 WE dW zf=>?_);exact (nG R (F.lets.grown (G.trans c4)) dW (cU.ext (aU.trans c4).ext) zf).qF fun c Lh Dl hc=>wpAny_truthy_bool (kk _ Lh ((G.trans c4).trans Dl) hc)) hm
theorem Bi {x:PySem.Expr}{pos:Pos}{k:Bool→Prop}(h:TV Ω l N ρ σ x fun b=>k (!b)):TV Ω l N ρ σ (.UnaryOp .Not x pos) k:=fun A B μ env s R F Q E kk=>wpAny_isTrue_Not ((h A B μ env s R F).use fun b s' g hb=>kk _ _ g hb)
theorem DU {op:BoolOp}{vs:List PySem.Expr}{pos:Pos}{k:Bool→Prop}(h:∀ A B μ env s,Rm l A→Fx Ω B μ env N ρ σ s→w3 Ω.M A (allTrue op vs env) s k):TV Ω l N ρ σ (.BoolOp op vs pos) k:=fun A B μ env s R F Q E kk=>wpAny_isTrue_BoolOp (h A B μ env s R F Q E kk)
noncomputable def TA (Ω:U)(l:Lv)(N:ay)(ρ:aO)(σ:Sg)(op:BoolOp)(vs:List PySem.Expr)(k:Bool→Prop):Prop:=∀ A B μ env s,Rm l A→Fx Ω B μ env N ρ σ s→w3 Ω.M A (allTrue op vs env) s k
theorem fZ {k:Bool→Prop}(h:k true):TA Ω l N ρ σ .And [] k:=fun A B μ env s R F Q E kk=>wpAny_allTrue_And_nil (kk _ _ (.refl _) h)
theorem bD {x:PySem.Expr}{vs:List PySem.Expr}{k:Bool→Prop}(h:TV Ω l N ρ σ x fun b=>D0 b (TA Ω l N ρ σ .And vs k) (k false)):TA Ω l N ρ σ .And (x::vs) k:=fun A B μ env s R F Q E kk=>
 wpAny_allTrue_And_cons ((h A B μ env s R F).use fun b s₁ g hb=>by
  cases b with
  | true=>exact (hb.1 rfl A B μ env s₁ R (F.grown g)).use fun c ag ar hc=>kk _ _ (g.trans ar) hc
  | false=>exact kk _ _ g (hb.2 rfl))
theorem EQ {x:PySem.Expr}{vs:List PySem.Expr}{k:Bool→Prop}(h:TV Ω l N ρ σ x fun b=>(b=false→TA Ω l N ρ σ .Or vs k)∧(b=true→k true)):TA Ω l N ρ σ .Or (x::vs) k:=fun A B μ env s R F Q E kk=>
 wpAny_allTrue_Or_cons ((h A B μ env s R F).use fun b s₁ g hb=>by
  cases b with
  | false=>exact (hb.1 rfl A B μ env s₁ R (F.grown g)).use fun c ag ar hc=>kk _ _ (g.trans ar) hc
  | true=>exact kk _ _ g (hb.2 rfl))
theorem bO {op:BoolOp}{vs:List PySem.Expr}{pos:Pos}{k:Bool→Prop}(h:TA Ω l N ρ σ op vs k):TV Ω l N ρ σ (.BoolOp op vs pos) k:=DU h
theorem l9 {d:D}{v:Value}{k:Bool→Prop}(h:gn d k)(r:W_ P s.heap d v):w3 Ω.M A (truthy v) s k:=by
 cases d with
 | none=>rw [r.inv];exact fun Q E kk=>truthy_none (kk _ _ (.refl _) h)
 | bool b=>rw [r.inv];exact fun Q E kk=>wpAny_truthy_bool (kk _ _ (.refl _) h)
 | int i=>obtain ⟨t,rfl⟩:=r.inv;exact fun Q E kk=>truthy_int (kk _ _ (.refl _) h)
 | str x=>obtain ⟨t,rfl⟩:=r.inv;exact fun Q E kk=>PySem.P.truthy_str (by have:=h.1;exact QL this) (kk _ _ (.tok _ 2) h.2)
 | list xs=>
  refine fD (fun a us n e_5 pa o rs=>?_) (Xg r);subst e_5;have e:us.toArray.isEmpty=xs.isEmpty:=by
   cases rs with
   | nil=>rfl
   | cons=>rfl
  exact fun Q E kk=>wpAny_truthy_list (a_ o) (rv YT (rv rs.length h.1)) (rv e (kk _ _ ((aH.tok _ _).trans (.tok ..)) h.2))
 | _=>exact h.elim
noncomputable def gX:PySem.Expr→Bool
 | .Name ..=>true
 | .Constant ..=>true
 | .Call ..=>true
 | .Attribute ..=>true
 | _=>false
theorem fJ {e:PySem.Expr}(h:gX e=true)(env:Env)(whole:Sem Value):isTrue e env whole=(do let v ← whole;standAt e.pos;holding [v] (truthy v)):=by
 cases e<;>first | rfl | cases h
theorem dz {e:PySem.Expr}{k:Bool→Prop}(hp:gX e=true)(h:EV Ω l N ρ σ e fun d=>gn d k):TV Ω l N ρ σ e k:=fun A B μ env s R F Q E kk=>
 wpAny_isTrue_value ((h A B μ env s R F).go fun v s₁ g d hd r=>by
  exact (l9 hd r).use fun b ag ar hb=>kk _ _ (g.trans ar) hb) (fJ hp env _)
noncomputable def oE (env:Env):ay→List (Str×Addr)→List (Str×Addr)
 | [],acc=>acc
 | (y,kd)::r,acc=>if kd==.free then (match env.cells.lookup y with | some c=>oE env r ((y,c)::acc) | none=>oE env r acc) else oE env r acc
theorem A9 {env:Env}(f:Str×NameKind→List (Str×Addr)→Sem (ForInStep (List (Str×Addr))))(hf:∀ y kd r,f (y,kd) r=if kd==.free then (do let a ← cellOf env y;pure (.yield ((y,a)::r))) else pure (.yield r)):
  ∀ (names:ay) (acc:List (Str×Addr)),(∀ y,(y,NameKind.free)∈names→(env.cells.lookup y).isSome=true)→forIn names acc f=pure (oE env names acc):=by
 intro names
 induction names with
 | nil=>
  intro acc χ;exact rfl
 | cons pr r ih=>
  obtain ⟨y,kd⟩:=pr;intro acc h;refine rv (List.forIn_cons _ _ _ _) (rv (hf _ _ _) ?_);unfold oE
  by_cases q:(kd==.free)=true
  ·simp only [q,if_true];have e:kd=.free:=YK.mp q;subst e;have:=h y Yu;cases q':env.cells.lookup y with
   | none=>rw [q'] at this;cases this
   | some c=>
    have ec:cellOf env y=pure c:=by unfold cellOf;exact rv q' rfl
    refine rv ec ?_;exact ih _ fun z hz=>h z (Yv _ hz)
  ·simp only [q];exact ih _ fun z hz=>h z (Yv _ hz)
theorem yk {env:Env}{y:Str}{c:Addr}(hc:env.cells.lookup y=some c):∀ (names:ay) (acc:List (Str×Addr)),((y,NameKind.free)∈names∨acc.lookup y=some c)→(acc.lookup y=none∨acc.lookup y=some c)→(oE env names acc).lookup y=some c:=by
 intro names
 induction names with
 | nil=>
  intro acc h χ;rcases h with h | h
  ·cases h
  ·exact h
 | cons pr r ih=>
  obtain ⟨z,kd⟩:=pr;intro acc h h';unfold oE;split
  ·rename_i q;have e:kd=.free:=YK.mp q;subst e
   by_cases e:y=z
   ·subst e;refine rv hc ?_;refine ih _ (.inr ?_) (.inr ?_)<;>rw [YS,beq_self_eq_true]
   ·have e':(y==z)=false:=beq_eq_false_iff_ne.mpr e;have h2:(y,NameKind.free)∈r∨acc.lookup y=some c:=by
     rcases h with h | h
     ·rcases YC.mp h with h | h
      ·cases h;exact absurd rfl e
      ·exact .inl h
     ·exact .inr h
    split
    ·refine ih _ ?_ ?_<;>rw [YS,e']<;>assumption
    ·exact ih _ h2 h'
  ·rename_i q;refine ih _ ?_ h';rcases h with h | h
   ·rcases YC.mp h with h | h
    ·cases h;exact absurd rfl q
    ·exact .inl h
   ·exact .inr h
theorem yl {env:Env}{y:Str}{c:Addr}:∀ (names:ay) (acc:List (Str×Addr)),(oE env names acc).lookup y=some c→acc.lookup y=some c∨env.cells.lookup y=some c:=by
 intro names
 induction names with
 | nil=>
  intro acc h;exact .inl h
 | cons pr r ih=>
  obtain ⟨z,kd⟩:=pr;intro acc h;unfold oE at h;split at h
  ·split at h
   ·rename_i c' q;rcases ih _ h with h | h
    ·rw [YS] at h;cases e:y==z with
     | true=>rw [e] at h;obtain rfl:=Yx h;exact rv (YK.mp e) (.inr q)
     | false=>rw [e] at h;exact .inl h
    ·exact .inr h
   ·exact ih _ h
  ·exact ih _ h
noncomputable def bQ (names:ay)(ρ:aO):aO:=names.filterMap fun (y,kd)=>if kd==.free then (lk y ρ).map (y,·) else none
noncomputable def ib (N names:ay):ay:=names.map fun (y,kd)=>(y,if kd==.free&&lk y N==some .cell then .cell else kd)
noncomputable def uD:PySem.Expr→Bool
 | .Set ..=>false
 | _=>true
noncomputable def gt (N:ay)(ρ:aO)(scope:Scope)(x:Str)(iter:PySem.Expr):Bool:=
 scope.kind==.function&&uD iter
 &&scope.names.all (fun (y,kd)=>kd != .free||((lk y ρ).isSome&&(lk y N==some .cell||lk y N==some .free)))
 &&scope.names.all (fun (y,kd)=>lk y scope.names==some kd)
 &&((lk x scope.names==some .local&&scope.names.all (fun (y,kd)=>kd != .cell))||(lk x scope.names==some .cell&&((scope.names.filter (fun x=>x.2==.cell)).map (fun x=>x.1)).length==1))
theorem qS {names:ay}{ρ:aO}{y:Str}{d:D}:(bQ names ρ).lookup y=some d→(y,NameKind.free)∈names∧ρ.lookup y=some d:=by
 induction names with
 | nil=>intro h;cases h
 | cons q r ih=>
  obtain ⟨z,kd⟩:=q;intro h;unfold bQ at h;rw [List.filterMap_cons] at h
  by_cases e:(kd==.free)=true
  ·simp only [e,if_true] at h;have e':kd=.free:=YK.mp e;subst e';cases q:lk z ρ with
   | none=>
    rw [q] at h;obtain ⟨i1,i2⟩:=ih h;exact ⟨Yv _ i1,i2⟩
   | some d'=>
    rw [q] at h;simp only [Option.map_some,YS] at h
    by_cases ez:y=z
    ·subst ez;rw [beq_self_eq_true] at h;obtain rfl:=Yx h;exact ⟨Yu,rv (be _ _).symm q⟩
    ·rw [beq_eq_false_iff_ne.mpr ez] at h;obtain ⟨i1,i2⟩:=ih h;exact ⟨Yv _ i1,i2⟩
  ·simp only [e] at h;obtain ⟨i1,i2⟩:=ih h;exact ⟨Yv _ i1,i2⟩
theorem xB (F:Fx Ω B μ env N ρ σ s)(scope:Scope):(relabel scope env).names=ib N scope.names:=by
 refine rv (ir _ _) ?_;unfold ib;refine YL fun p χ=>?_;obtain ⟨y,kd⟩:=p;have e:env.kindOf y=lk y N:=by unfold Env.kindOf;exact rv F.names (rv (be _ _) rfl)
 simp only [F.kind,e];cases kd<;>rfl
noncomputable def xW (Ω:U)(l:Lv)(N:ay)(ρ:aO)(σ:Sg):List PySem.Expr→(Bool→Prop)→Prop
 | [],k=>k true
 | [e],k=>TV Ω l N ρ σ e k
 | _,_=>False
theorem W_.cH {μ M M':List Addr}{h:Heap}(q:∀ a,a∉M→(∃ o,h.get? a=some o)→a∉M'){d v}(x:W_ (Xa μ M) h d v):W_ (Xa μ M') h d v:=
 W_.keeps (P:=Xa μ M) (P':=Xa μ M') (fun χ χ e=>e) (fun a o p e=>⟨q a p ⟨o,e⟩,e⟩) x
theorem XE.cH {M M':List Addr}{h:Heap}(q:∀ a,a∉M→(∃ o,h.get? a=some o)→a∉M'){x d}(V:XE (Xa μ M) env h x d):XE (Xa μ M') env h x d:=V.to (fun χ n=>n) (fun χ χ χ i=>i) fun χ r=>r.cH q
noncomputable def Hm (Ω:U)(l:Lv)(N:ay)(ρ:aO)(σ:Sg)(e:PySem.Expr)(k:Nat→D→Prop):Prop:=
 ∀ (A:Around) (B μ:List Addr) (env:Env) (s:Shared),Rm l A→Fx Ω B μ env N ρ σ s→a5 Ω.M A (eval e env) s fun v s'=>∃ d,k s'.toks d∧W_ (Xa μ (μ++B)) s'.heap d v
noncomputable def U.at (Ω:U)(t:Nat):U:={ Ω with t0:=t }
theorem Fx.at (F:Fx Ω B μ env N ρ σ s):Fx (Ω.at s.toks) B μ env N ρ σ s:=⟨F.stays,F.clear,F.vars,F.kind,F.globals,F.builtins,F.names,F.hp,F.dK,F.dk,YE _⟩
noncomputable def wT (Ω:U)(l:Lv)(N:ay)(ρ:aO)(σ:Sg)(elt:PySem.Expr)(x:Str)(ifs:List PySem.Expr)(scope:Scope)(k:Nat→List D→Prop)(xs:List D):Prop:=
 xs.length≤sizeLine∧∃ (p:D→Bool) (Inv:Nat→List D→Nat→Prop),(∀ i ds t t',t≤t'→Inv i ds t→Inv i ds t')∧Inv 0 [] Ω.t0∧
  (∀ i d ds t,xs[i]? = some d→Ω.t0≤t→Inv i ds t→xW Ω l (ib N scope.names) ((x,d)::bQ scope.names ρ) σ ifs (fun b=>b=p d)∧(p d=true→Hm (Ω.at t) l (ib N scope.names) ((x,d)::bQ scope.names ρ) σ elt fun t' y=>Inv (i+1) (ds++[y]) t')∧(p d=false→Inv (i+1) ds t))∧
  ∀ ds t,Inv xs.length ds t→k t ds
theorem Gi {ifs:List PySem.Expr}{b:Bool}(h:xW Ω l N ρ σ ifs fun c=>c=b)(R:Rm l A)(F:Fx Ω B μ env N ρ σ s):X2 Ω.M A (i8 ifs env) s b:=by
 cases ifs with
 | nil=>exact h▸E9
 | cons e es=>
  cases es with
  | nil=>exact fun Q E kk=>wpAny_tests_one ((h A B μ env s R F).use kk)
  | cons=>exact h.elim
theorem pe {e:PySem.Expr}(h:uD e=true)(env:Env)(v:Value):foldedSetIterable e env v=pure v:=by
 cases e<;>first | rfl | exact oF h
theorem nD {elt iter:PySem.Expr}{x:Str}{px:Pos}{ifs:List PySem.Expr}{scope:Scope}{pos:Pos}{kk:List D→Prop}{k:Nat→List D→Prop}{use:Option (Value→Sem Unit)}{Q:Value→Shared→Prop}{E:Value→Shared→Prop}(R:Rm l A)(F:Fx Ω B μ env N ρ σ s)(lp:gt N ρ scope x iter=true)
  (Gu:lZ Ω.prog Ω.w A μ (μ++B) env iter s kk)
  (turn:∀ xs,kk xs→wT Ω l N ρ σ elt x ifs scope k xs)
  (fin:∀ s' ds a vs n Co m,k s'.toks ds→aH s s'→s.heap.get? a=none→s'.heap.get? a=some { cls:=.type "list",data:=.seq (List.toArray vs) n }→au (Xa μ (μ++B)) s'.heap ds vs→s.heap.get? Co=none→Co≠a→s'.heap.Ns Co m→
   au (Xa μ (Co::(μ++B))) s'.heap ds vs→compPost Ω.M A E use Q (.ref a) Co (.ok .next) s'):
  wpAny Ω.M A (comprehension (.ListComp elt [⟨.Name x px,iter,ifs,0⟩] scope pos) scope env iter.pos (newList []) false (eval iter env) use) Q E s:=by
 unfold gt at lp;simp only [YR,Bool.or_eq_true,List.all_eq_true] at lp;obtain ⟨⟨⟨⟨fx,m9⟩,AB⟩,Js⟩,L6⟩:=lp;have fx:scope.kind=.function:=YK.mp fx;have dist:∀ y kd,(y,kd)∈scope.names→scope.names.lookup y=some kd:=fun y kd hm=>by
  have:=Js (y,kd) hm;exact rv (be _ _).symm (YK.mp this)
 have free:∀ y,(y,NameKind.free)∈scope.names→∃ c v d,ρ.lookup y=some d∧env.cells.lookup y=some c∧s.heap.IsCell c (some v)∧W_ (Xa μ (μ++B)) s.heap d v:=fun y hm=>by
  have:=AB (y,.free) hm;rcases this with h | h
  ·cases h
  ·obtain ⟨h1,h2⟩:=h;obtain ⟨d,hd⟩:=Option.isSome_iff_exists.mp h1;rw [be] at hd;have kf:env.kindOf y=some .cell∨env.kindOf y=some .free:=by
    have e:env.kindOf y=lk y N:=by unfold Env.kindOf;exact rv F.names (rv (be _ _) rfl)
    refine rv e ?_;rcases h2 with h2 | h2
    ·exact .inl (YK.mp h2)
    ·exact .inr (YK.mp h2)
   rcases F.vars y d hd with ⟨hl,_⟩ | ⟨_,c,v,hc,hi,hr⟩
   ·rw [hl] at kf;rcases kf with kf | kf<;>cases kf
   ·exact Hv c v d hd hc hi hr
 have AE:closureFor scope env=pure (oE env scope.names []):=by
  unfold closureFor;refine (congrArg (· >>= fun cs=>(pure cs:Sem (List (Str×Addr)))) (A9 (env:=env) _ (fun y kd r=>?_) scope.names [] fun y hm=>?_)).trans ?_
  rotate_right
  ·rfl
  ·cases kd<;>rfl
  ·refine MN (fun c v d χ hc χ=>?_) (free y hm);refine rv hc ?_;rfl
 refine BN (k:=k) (ρf:=bQ scope.names ρ) F.toFm Gu AE ?_ fx (fun y hy hl=>by have:=dist y.1 y.2 hy;rw [hl] at this;exact this) ?_ ?_ (fun xs Al=>?_) (fun s' ds a vs n Co m h1 h2 h3 h4 h5 χ h6 h7 h8 h9=>fin s' ds a vs n Co m h1 h2 h3 h4 h5 h6 h7 h8 h9)
 ·rcases L6 with ⟨h1,h2⟩ | ⟨h1,h2⟩
  ·refine sD (fun y hy e=>?_) fx (rv (be _ _).symm (YK.mp h1));have:=h2 y hy;rw [e] at this;cases this
  ·have hx:scope.names.lookup x=some .cell:=rv (be _ _).symm (YK.mp h1);refine uJ ?_ fx hx;have hm:(x,NameKind.cell)∈scope.names.filter (fun x=>x.2==.cell):=YJ.mpr ⟨mem_of_lookup hx,rfl⟩;have hl:(scope.names.filter (fun x=>x.2==.cell)).length=1:=by simpa using YK.mp h2
   obtain ⟨q,hq⟩:=List.length_eq_one_iff.mp hl;rw [hq] at hm ⊢;exact rv (Yq.mp hm) rfl
 ·exact pe m9 env
 ·intro y d hy;obtain ⟨h1,h2⟩:=qS hy;refine fD (fun c v d' x6 hc hi hr=>?_) (free y h1);rw [h2] at x6;obtain rfl:=Yx x6;refine ⟨?_,c,v,yk hc _ _ (.inl h1) (.inl rfl),hi,hr⟩;refine rv (gB _ _ _) (rv (dist y _ h1) ?_);show some (if _ then _ else _)=_∨some (if _ then _ else _)=_;split
  ·exact .inl rfl
  ·exact .inr rfl
 ·refine pD (fun hz z_1=>?_) (turn xs Al);refine Pk (fun p Inv gD h0 ht hk=>?_) z_1;refine ⟨hz,p,Inv,gD,gD _ _ _ _ F.tk h0,fun L oa nU i d ds s' hd hI FF ext lJ sub new hL GL=>?_,hk⟩;have Kr:∀ a,a∈nU.filter (fun a=>decide (a∉μ))→a∈nU∧a∉μ:=fun a hm=>by
   obtain ⟨h1,h2⟩:=YJ.mp hm;exact ⟨h1,YF h2⟩
  have q1:∀ a,a∉nU→(∃ o,s'.heap.get? a=some o)→a∉μ++nU.filter (fun a=>decide (a∉μ)):=fun a ha χ hm=>by
   rcases Yr.mp hm with hm | hm
   ·exact ha (sub a (Yp _ hm))
   ·exact ha (Kr a hm).1
  have FX:Fx Ω (nU.filter (fun a=>decide (a∉μ))) μ (compEnvC scope oa L env) (ib N scope.names) ((x,d)::bQ scope.names ρ) σ s':=by
   refine ⟨FF.stays,fun a o e=>q1 a (FF.clear a o e) ⟨o,FF.stays a o e⟩,fun y dy e=>(FF.vars y dy e).cH q1,FF.kind,FF.globals,FF.builtins,xB F scope,?_,fun hm=>?_,fun y c hy hm=>?_,Ys F.tk lJ⟩
   ·exact F.hp.keeps (fun b o χ e=>ext b o e) (fun b o hm e=>by
     rcases new b (Kr b hm).1 with h | h
     ·rcases Yr.mp h with h | h
      ·exact absurd h (Kr b hm).2
      ·exact h
     ·exact cc h e) fun a hm=>FF.held a (Kr a hm).1
   ·obtain ⟨o,e⟩:=F.hp.held L (Yp _ hm);exact cc hL e
   ·rcases GL y c hy with h | h
    ·rcases yl _ _ h with h | h
     ·cases h
     ·exact F.dk y c h hm
    ·obtain ⟨o,e⟩:=F.hp.held c (Yp _ hm);exact cc h e
  refine e8 (fun t1 t2 t3=>?_) (ht i d ds s'.toks hd FX.tk hI);refine ⟨?_,fun hp fc Wr=>?_,t3⟩
  ·exact Gi t1 R FX
  ·exact fun Q E kk=>(t2 hp A _ μ _ fc R (FX.at.grown Wr)).use fun v s₁ ai hh=>by
    revert hh;refine az fun y hy r=>?_;exact kk v s₁ ai ⟨y,hy,r.cH fun a ha hl=>by
     have this:a∉μ++nU.filter (fun a=>decide (a∉μ)):=ha;exact fun hm=>this (by
      by_cases z:a∈μ
      ·exact Yp _ z
      ·exact Yn _ (YJ.mpr ⟨hm,decide_eq_true z⟩))⟩
noncomputable def DW (Ω:U)(l:Lv)(N:ay)(ρ:aO)(σ:Sg)(e:PySem.Expr)(k:List D→Prop):Prop:=
 ∀ (A:Around) (B μ:List Addr) (env:Env) (s:Shared),Rm l A→Fx Ω B μ env N ρ σ s→lZ Ω.prog Ω.w A μ (μ++B) env e s k
theorem Yf.c {e:PySem.Expr}{k:List D→Prop}(h:Yf Ω l N ρ σ e k):DW Ω l N ρ σ e k:=fun A B μ env s R F=>(h A B μ env s R F).c
theorem Fx.BQ {t:Nat}(ht:Ω.t0≤t)(F:Fx (Ω.at t) B μ env N ρ σ s):Fx Ω B μ env N ρ σ s:=⟨F.stays,F.clear,F.vars,F.kind,F.globals,F.builtins,F.names,F.hp,F.dK,F.dk,Ys ht F.tk⟩
theorem EV.t {t:Nat}(ht:Ω.t0≤t){e:PySem.Expr}{k:D→Prop}(h:EV Ω l N ρ σ e k):Hm (Ω.at t) l N ρ σ e fun χ d=>k d:=fun A B μ env s R F Q E kk=>h A B μ env s R (F.BQ ht) Q E fun v s' g ⟨d,hk,r⟩=>kk v s' g (aF d hk r)
theorem tU {elt iter:PySem.Expr}{x:Str}{px:Pos}{ifs:List PySem.Expr}{scope:Scope}{pos:Pos}{k:Nat→D→Prop}(lp:gt N ρ scope x iter=true)(h:DW Ω l N ρ σ iter (wT Ω l N ρ σ elt x ifs scope fun t ds=>k t (.list ds))):Hm Ω l N ρ σ (.ListComp elt [⟨.Name x px,iter,ifs,0⟩] scope pos) k:=fun A B μ env s R F Q E kk=>by
 refine rv (eval_ListComp _ _ _ _) ?_;refine nD (k:=fun t ds=>k t (.list ds)) R F lp (h A B μ env s R F) (fun xs hx=>hx) fun s' ds a vs n Co m hk g hn ha rs hC gi Au n9=>?_;refine aF m Au (fun h' eK=>?_);have keep:Xi s.heap h':=fun b o e=>eK.extBut b o (fun q=>by rw [q,hC] at e;exact iZ e) (g.ext b o e);revert g;refine gf fun aP ug e_2 χ lJ=>?_;subst e_2;refine kk _ _ (lA h' ug rfl keep lJ) (aF _ hk (.list ds a vs n ?_ (eK.extBut a _ (Ne.symm gi) ha) ?_))
 ·intro hm;obtain ⟨o,e⟩:=F.hp.held a hm;exact cc hn e
 ·exact au.keeps (P:=Xa μ (Co::(μ++B))) (P':=Xa μ (μ++B)) (fun χ χ e=>e) (fun b o pb eb=>⟨fun hm=>pb (Yv _ hm),eK.extBut b o (fun q=>pb (q▸Yu)) eb⟩) n9
theorem nE {elt:PySem.Expr}{x:Str}{ifs:List PySem.Expr}{scope:Scope}{k:List D→Prop}{xs:List D}(hz:xs.length≤sizeLine)(p:D→Bool)(g:D→D)
  (h:∀ d∈xs,xW Ω l (ib N scope.names) ((x,d)::bQ scope.names ρ) σ ifs (fun b=>b=p d)∧(p d=true→EV Ω l (ib N scope.names) ((x,d)::bQ scope.names ρ) σ elt fun y=>y=g d)) (hk:k ((xs.filter p).map g)):wT Ω l N ρ σ elt x ifs scope (fun χ ds=>k ds) xs:=by
 refine ⟨hz,p,fun i ds χ=>ds=((xs.take i).filter p).map g,fun χ χ χ χ χ e=>e,by simp,fun i d ds t hd ht hI=>?_,fun ds t hI=>by rw [hI,List.take_length];exact hk⟩;obtain ⟨h1,h2⟩:=h d (YN hd);have tk:(xs.take (i+1)).filter p=(xs.take i).filter p++(if p d then [d] else []):=take_succ_filter p xs i d hd;refine ⟨h1,fun hp=>fun A B μ env s R F Q E kk=>(h2 hp A B μ env s R (F.BQ ht)).go fun v s' g' y hq r=>?_,fun hp=>?_⟩
 ·obtain rfl:=hq;refine kk v s' g' (aF _ ?_ r);show ds++[g d]=((xs.take (i+1)).filter p).map g;rw [tk,hp,YH rfl,List.map_append,hI];rfl
 ·show ds=((xs.take (i+1)).filter p).map g;refine rv tk (rv hp ?_);simpa using hI
theorem Hm.ev {e:PySem.Expr}{k:D→Prop}(h:Hm Ω l N ρ σ e fun χ d=>k d):EV Ω l N ρ σ e k:=fun A B μ env s R F Q E kk=>h A B μ env s R F Q E fun v s' g z=>az (fun d hk r=>kk v s' g ⟨d,hk,r⟩) z
theorem xa {elt iter:PySem.Expr}{x:Str}{px:Pos}{ifs:List PySem.Expr}{scope:Scope}{pos:Pos}(lp:gt N ρ scope x iter=true)
  (h:Yf Ω l N ρ σ iter fun xs=>xs.length≤sizeLine∧∃ (p:D→Bool) (g:D→D),(∀ d∈xs,xW Ω l (ib N scope.names) ((x,d)::bQ scope.names ρ) σ ifs (fun b=>b=p d)∧(p d=true→EV Ω l (ib N scope.names) ((x,d)::bQ scope.names ρ) σ elt fun y=>y=g d))∧k (.list ((xs.filter p).map g))):
  EV Ω l N ρ σ (.ListComp elt [⟨.Name x px,iter,ifs,0⟩] scope pos) k:=
 (tU lp fun A B μ env s R F Q E kk=>h.c A B μ env s R F Q E fun s₁ it ag xs ai hx i=>kk s₁ it ag xs ai (cS (fun p g=>nE (k:=fun ds=>k (.list ds)) hx.1 p g) hx.2) i).ev
theorem lY {e:PySem.Expr}{k:List D→Prop}(hc:l.calm=true)(h:EV Ω l N ρ σ e fun d=>ia d k):Yf Ω l N ρ σ e k:=fun A B μ env s R F Q E kk=>by
 refine (h A B μ env s R F).go fun v s₁ ai d hd r=>?_;cases d with
 | list xs=>exact (xm (R.calm hc) (F.grown ai).toFm r) Q E fun ag it aE ar hit=>kk ag it aE _ (ai.trans ar) hd hit
 | tup xs=>exact (y3 (R.calm hc) (F.grown ai).toFm r) Q E fun ag it aE ar hit=>kk ag it aE _ (ai.trans ar) hd hit
 | bytes b=>exact (uo (R.calm hc) (F.grown ai).toFm r) Q E fun ag it aE ar hit=>kk ag it aE _ (ai.trans ar) hd hit
 | ip a b c=>exact (um (R.calm hc) hd.1 hd.2.1 (F.grown ai).toFm r) Q E fun ag it aE ar hit=>kk ag it aE _ (ai.trans ar) hd.2.2 hit
 | _=>exact hd.elim
noncomputable def CP (Ω:U)(l:Lv)(a:Addr)(ds:List D)(kw:List (Str×D))(k:D→Prop):Prop:=
 ∀ (A:Around) (μ Mut:List Addr) (s:Shared) (vs aV:List Value),Rm l A→Ω.St s→(∀ b o,Ω.C.base b o→b∉Mut)→(∀ b∈Mut,∃ o,s.heap.get? b=some o)→au (Xa μ Mut) s.heap ds vs→au (Xa μ Mut) s.heap (kw.map (fun x=>x.2)) aV→
  du Ω.M A (Xa μ Mut) (call (.ref a) vs ((kw.map (fun x=>x.1)).zip aV)) s k
noncomputable def rF (Ω:U)(a:Addr):Prop:=∃ o fd,Ω.C.base a o∧o.data=.func fd
noncomputable def bu:PySem.Expr→Bool
 | .Call _ [] _ _=>false
 | _=>true
theorem CP.mono {a:Addr}{ds:List D}{kw:List (Str×D)}{k k':D→Prop}(h:CP Ω l a ds kw k)(hk:∀ d,k d→k' d):CP Ω l a ds kw k':=fun A μ Mut s vs aV a b c d e f=>(h A μ Mut s vs aV a b c d e f).mono hk
theorem cE {f:Str}{p pos:Pos}{T:String}{args:List PySem.Expr}(hg:lk f N=some .globalImplicit)(e:(Ω.C.mg f).or (Ω.C.mb f)=some (.type T))(hc:l.calm=true)(hn:Xc args=true)(hd:sEq f "__debug__"=false)
  (h:rP Ω l N ρ σ args fun ds=>uh T ds k):EV Ω l N ρ σ (.Call (.Name f p) args [] pos) k:=fun A B μ env s R F Q E kk=>
 Call_Name rfl ((aT (k:=fun d=>d=.val (.type T)) hg e (.val _ rfl) rfl hd A B μ env s R F).go fun v s₁ ai d hq r=>by
  obtain rfl:=hq;refine W_.cR r ?_;have hp:=aK (env:=env) pos hn;refine PyProof.Rows.callWith_type hp (bw hp ((h A B μ env s₁ pos R (F.grown ai)).go fun vs ag ar ds hk rs=>?_));exact (yM R hc (F.lets.grown (ai.trans ar)) hk rs).use fun v aE aU r=>kk v aE ((ai.trans ar).trans aU) r)
theorem gS {f:Str}{p pos:Pos}{id:String}{args:List PySem.Expr}(hg:lk f N=some .globalImplicit)(e:(Ω.C.mg f).or (Ω.C.mb f)=some (.builtin id))(hc:l.calm=true)(hn:Xc args=true)(hd:sEq f "__debug__"=false)
  (h:rP Ω l N ρ σ args fun ds=>vj id ds k):EV Ω l N ρ σ (.Call (.Name f p) args [] pos) k:=fun A B μ env s R F Q E kk=>
 Call_Name rfl ((aT (k:=fun d=>d=.val (.builtin id)) hg e (.val _ rfl) rfl hd A B μ env s R F).go fun v s₁ ai d hq r=>by
  obtain rfl:=hq;refine W_.cR r ?_;have hp:=aK (env:=env) pos hn;refine Calls.callWith_builtin hp (bw hp ((h A B μ env s₁ pos R (F.grown ai)).go fun vs ag ar ds hk rs=>?_));exact (Be R hc (F.lets.grown (ai.trans ar)) hk rs).use fun v aE aU r=>kk v aE ((ai.trans ar).trans aU) r)
theorem d0 {f:Str}{p pos:Pos}{a:Addr}{args:List PySem.Expr}(hg:lk f N=some .globalImplicit)(e:(Ω.C.mg f).or (Ω.C.mb f)=some (.ref a))(hf:rF Ω a)(hn:Xc args=true)(hd:sEq f "__debug__"=false)
  (h:rP Ω l N ρ σ args fun ds=>CP Ω l a ds [] k):EV Ω l N ρ σ (.Call (.Name f p) args [] pos) k:=fun A B μ env s R F Q E kk=>
 Call_Name rfl ((aT (k:=fun d=>d=.val (.ref a)) hg e (.val _ rfl) rfl hd A B μ env s R F).go fun v s₁ ai d hq r=>by
  obtain rfl:=hq;refine W_.cR r ?_;have hp:=aK (env:=env) pos hn;revert hf;refine cS fun o fd ho hd=>?_;refine callWith_function_kw (o:=o) (fd:=fd) (bw hp ((h A B μ env s₁ pos R (F.grown ai)).go fun vs ag ar ds hk rs=>?_));have aI:=F.grown (ai.trans ar);refine ⟨⟨aI.stays _ _ ho,hd⟩,?_⟩;exact (hk A μ (μ++B) ag vs [] R aI.st aI.clear aI.hp.held rs .nil).use fun v aE aU r=>kk v aE ((ai.trans ar).trans aU) r)
theorem Br {f:Str}{p pos:Pos}{a:Addr}{kE:PySem.Expr}{args:List PySem.Expr}{x:Str}{v:PySem.Expr}{kp:Pos}(hg:lk f N=some .globalImplicit)(e:(Ω.C.mg f).or (Ω.C.mb f)=some (.ref a))(hf:rF Ω a)(hn:Xc (kE::args)=true)(hd:sEq f "__debug__"=false)
  (h:rP Ω l N ρ σ (kE::args) fun ds=>EV Ω l N ρ σ v fun d=>CP Ω l a ds [(x,d)] k):EV Ω l N ρ σ (.Call (.Name f p) (kE::args) [⟨some x,v,kp⟩] pos) k:=fun A B μ env s R F Q E kk=>by
 have he:eval (.Call (.Name f p) (kE::args) [⟨some x,v,kp⟩] pos) env=(eval (.Name f p) env >>= fun g=>callWith pos g [] (backTo pos (starEach (kE::args) env)) (backToKw pos (keywordEach [⟨some x,v,kp⟩] env))):=rfl;refine rv he ?_;refine Yo ((aT (k:=fun d=>d=.val (.ref a)) hg e (.val _ rfl) rfl hd A B μ env s R F).go fun v s₁ ai d hq r=>?_);obtain rfl:=hq;refine W_.cR r ?_;revert hf;refine cS fun o fd ho hd=>?_;refine callWith_function_kw (o:=o) (fd:=fd) (evalArgs_kw2 rfl ((h A B μ env s₁ pos R (F.grown ai)).go fun vs ag ar ds hk rs=>?_) (cn hn).2);show wpAny _ _ (evalAll [(do let u ← eval _ env;standAt pos;pure u)]) _ _ _;refine wpAny_evalAll_cons (Yo ((hk A B μ env ag R (F.grown (ai.trans ar))).go fun u aE aU d hk r=>Yo (wpAny_standAt (YA (wpAny_evalAll_nil ?_)))));have dX:=F.grown ((ai.trans ar).trans aU);refine ⟨⟨dX.stays _ _ ho,hd⟩,?_⟩;exact (hk A μ (μ++B) aE vs [u] R dX.st dX.clear dX.hp.held (rs.ext aU.ext) (.cons _ _ _ _ r .nil)).use fun v iz c4 r=>kk v iz (((ai.trans ar).trans aU).trans c4) r
set_option tactic.hygienic true in
theorem bJ {o:PySem.Expr}{name:Str}(hb:bu o=true):attributeBase o name env (eval o env)=eval o env:=by
 cases o<;>first | rfl | skip
 rename_i f as ks p;cases as with
 | nil=>cases hb
 | cons a as=>cases f<;>rfl
structure dZ (id:String)(T:String)(name:Str):Prop where
 pa:PlainAttrs T
 slot:Slot T name id
 ty:typeOf (.builtin id)=pure (.type "method_descriptor")
noncomputable def z9:D→String
 | .str _=>"str"
 | .bytes _=>"bytes"
 | .list _=>"list"
 | _=>""
theorem C3 {d:D}{v:Value}{T:String}(hT:z9 d=T)(ne:T≠"")(r:W_ P s.heap d v):s.TypeIs v T∧∀ a,v=.ref a→∃ ob:Obj,s.heap.get? a=some ob∧ob.dict=none:=by
 cases d<;>first | (subst hT;exact Yb r) | (subst hT;exact XS r) | (subst hT;exact X7 r) | exact absurd hT.symm ne
theorem et {es:List PySem.Expr}{env:Env}(pos:Pos)(hn:Xc es=true)(hl:es.length<30):((backTo pos (starEach es env)).all (fun x=>!x.1)&&(backToKw pos (keywordEach [] env)).all (fun x=>x.1.isSome)&&decide (es.length+([]:List Keyword).length+(if ([]:List Keyword).isEmpty then 0 else 1)<30))=true:=by
 refine rv (lf pos hn) ?_;exact decide_eq_true hl
theorem w7 {o:PySem.Expr}{name:Str}{apos pos:Pos}{args:List PySem.Expr}(id T:String)(hb:bu o=true)(hn:Xc args=true)(hl:args.length<30)(fw:(apos.endLine==pos.line)=true)(I:dZ id T name)(ne:T≠"")
  (h:EV Ω l N ρ σ o fun d=>z9 d=T∧rP Ω l N ρ σ args fun ds=>∀ A s P vs,Rm l A→Xk P s.heap→au P s.heap (d::ds) vs→du Ω.M A P (call (.builtin id) vs) s k):
  EV Ω l N ρ σ (.Call (.Attribute o name apos) args [] pos) k:=fun A B μ env s R F Q E kk=>by
 refine wpAny_Call_method_lateS (bJ hb) (et pos hn hl) fw ((h A B μ env s R F).go fun ov s₁ ai d hq b6=>?_);obtain ⟨hT,hd⟩:=hq;obtain ⟨t1,t2⟩:=C3 hT ne b6;refine IU T id I.pa I.slot I.ty t1 t2 ?_;have hp:=aK (env:=env) pos hn;refine Calls.callWith_builtin hp (bw hp ((hd A B μ env s₁ pos R (F.grown ai)).go fun vs ag ar ds uX rs=>?_));exact (uX A ag _ (ov::vs) R (F.lets.grown (ai.trans ar)) (.cons _ _ _ _ (b6.ext ar.ext) rs)).use fun v aE aU zf=>kk v aE ((ai.trans ar).trans aU) zf
theorem CL:dZ "str.find" "str" "find":=⟨PySem.F.plainAttrs_str,PySem.F.slot_str_find,PySem.F.type_str_find⟩
theorem wq:dZ "str.join" "str" "join":=⟨PySem.F.plainAttrs_str,PySem.F.slot_str_join,PySem.F.type_str_join⟩
theorem xN:dZ "str.encode" "str" "encode":=⟨PySem.F.plainAttrs_str,PySem.F.slot_str_encode,PySem.F.type_str_encode⟩
theorem zU:dZ "list.index" "list" "index":=⟨PySem.F.plainAttrs_list,PySem.F.slot_list_index,PySem.F.type_list_index⟩
theorem j8:dZ "bytes.decode" "bytes" "decode":=⟨FB.plainAttrs_bytes,FB.slot_bytes_decode,FB.type_bytes_decode⟩
theorem D3 {o:PySem.Expr}{name:Str}{apos pos:Pos}{args:List PySem.Expr}(id T:String)(I:dZ id T name)(ne:T≠"")(hb:bu o=true)(hn:Xc args=true)(hl:args.length<30)(fw:(apos.endLine==pos.line)=true)
  (h:EV Ω l N ρ σ o fun d=>z9 d=T∧rP Ω l N ρ σ args fun ds=>sx id (d::ds) k):EV Ω l N ρ σ (.Call (.Attribute o name apos) args [] pos) k:=
 w7 id T hb hn hl fw I ne (h.mono fun d hd=>⟨hd.1,fun A B μ env s pos R F Q E kk=>(hd.2 A B μ env s pos R F).use fun vs s' g z=>z.casesOn fun ds hk r=>kk vs s' g ⟨ds,fun A s P vs χ L rs=>CM hk rs,r⟩⟩)
theorem Ns.uniq {h:Heap}{a:Addr}{m m':Str→Option Value}(x:h.Ns a m)(y:h.Ns a m'):m=m':=by
 revert x;refine fD fun o es ep e d k f=>?_;revert y;refine fD fun o' gc Ww e' d' k' f'=>?_;rw [e] at e';obtain rfl:=Yx e';rw [d] at d';cases d';funext n;exact rv (f n).symm (rv (f' n).symm rfl)
theorem Fs.kindOf (F:Fs Ω B μ env N ρ σ s)(x:Str):env.kindOf x=lk x N:=by
 unfold Env.kindOf;exact rv F.names (rv (be _ _) rfl)
theorem Fs.zM (F:Fs Ω B μ env N ρ σ s):(env.scope.kind==.class||(env.scope.kind==.module&&env.locals != env.globals))=false:=by refine rv F.kind ?_;rfl
theorem Fs.v9 (F:Fs Ω B μ env N ρ σ s){h':Heap}{tk:Nat}{kJ:Addr}{ρ':aO}(l:s.toks≤tk)(hb:kJ∈own env)(HH:kJ∉μ)(hs:Heap.SameBut kJ s.heap h')(live:∃ o,h'.get? kJ=some o)
  (Au:∃ m,h'.Ns env.locals m) (sS:∀ x c,env.cells.lookup x=some c→∃ v,h'.IsCell c v)
  (hv:∀ x d,ρ'.lookup x=some d→XE (Xa μ (μ++B)) env h' x d):
  bd Ω.prog Ω.w (Xb A) (own env) B μ s μ σ { s with heap:=h',toks:=tk }∧Fs Ω B μ env N ρ' σ { s with heap:=h',toks:=tk }:=by
 have hB:=eo F kJ hb;have keep:∀ b o,b≠kJ→s.heap.get? b=some o→h'.get? b=some o:=fun b o n e=>hs.extBut b o n e;have hp:Hp Ω.prog Ω.w μ B σ h':=F.hp.keeps (fun b o hm e=>keep b o (fun q=>by
  subst q;rcases hm with hm | hm
  ·exact HH hm
  ·exact hm (Yn _ hB)) e) (fun χ χ m χ=>m) fun a m=>by
   by_cases q:a=kJ
   ·exact rv q live
   ·obtain ⟨o,e⟩:=F.hp.held a (Yn _ m);exact ⟨o,keep a o q e⟩
 refine ⟨.IS (uK _ _ rfl) (aF [] (by simp) (by simp)) (fun b o χ hw e=>keep b o (fun q=>hw (q▸hb)) e) hp l,⟨⟨fun a o e=>keep a o (fun q=>F.clear a o e (Yn _ (q▸hB))) (F.stays a o e),F.clear,hv,F.kind,F.globals,F.builtins,F.names,hp,F.dK,F.dk,Ys F.tk l⟩,Au,sS,F.apart,F.off,F.qA,F.jH,F.nH,F.frame⟩⟩
theorem W_.sameBut {h h':Heap}{kJ:Addr}{d:D}{v:Value}(hB:kJ∈B)(hs:Heap.SameBut kJ h h')(r:W_ (Xa μ (μ++B)) h d v):W_ (Xa μ (μ++B)) h' d v:=
 W_.keeps (P:=Xa μ (μ++B)) (P':=Xa μ (μ++B)) (fun χ χ e=>e) (fun a o p e=>⟨p,hs.extBut a o (fun q=>p (q▸Yn _ hB)) e⟩) r
theorem eM {E:Value→Shared→Prop}{Q:Unit→Shared→Prop}{x:Str}{v:Value}{d:D}(F:Fs Ω B μ env N ρ σ s)(hx:lk x N=some .local∨lk x N=some .cell)(r:W_ (Xa μ (μ++B)) s.heap d v)
  (h:∀ s',bd Ω.prog Ω.w (Xb A) (own env) B μ s μ σ s'→Fs Ω B μ env N ((x,d)::ρ) σ s'→W_ (Xa μ (μ++B)) s'.heap d v→Q () s'):wpAny Ω.M A (storeName env x v) Q E s:=by
 rcases hx with hx | hx
 ·obtain ⟨m,n⟩:=F.ns;refine wpAny_storeName_local ((F.kindOf x).trans hx) n (fun h' ic eK=>?_) F.zM;have hL:env.locals∈own env:=Yu;have rr:=fun d v (r:W_ (Xa μ (μ++B)) s.heap d v)=>r.sameBut F.qA eK;obtain ⟨e1,e2⟩:=F.v9 (ρ':=(x,d)::ρ) (tk:=s.toks+1) (Nat.le_succ _) hL F.dK eK (by revert ic;refine GX fun o χ χ e χ=>?_;exact ⟨o,e⟩) ⟨_,ic⟩ (fun y c e=>by
    refine cS (fun v o q z=>?_) (F.cA y c e);exact (gY v o (eK.extBut c o (F.off _ (mem_of_lookup e)) q) z)) fun y dy e=>by
   rw [YS] at e;cases q:y==x with
   | true=>
    rw [q] at e;obtain rfl:=Yx e;refine rv (YK.mp q) ?_;exact .loc ((F.kindOf x).trans hx) _ v ic (by simp) (rr _ _ r)
   | false=>
    rw [q] at e;rcases F.vars y dy e with ⟨a,m',v',n',Hy,r'⟩ | ⟨a,c,v',e',⟨o,q',z⟩,r'⟩
    ·rw [Ns.uniq n' n] at Hy;refine .loc a _ v' ic ?_ (rr _ _ r');simp only [beq_eq_false_iff_ne.mp q,if_false];exact Hy
    ·exact .cell a c v' e' (aF o (eK.extBut c o (F.off _ (mem_of_lookup e')) q') z) (rr _ _ r')
  exact h _ e1 e2 (rr _ _ r)
 ·obtain ⟨c,hc⟩:=F.nH x (rv (be _ _).symm hx);obtain ⟨UX,I6⟩:=F.cA x c hc;refine wpAny_storeName_cell F.kind ((F.kindOf x).trans hx) hc I6 fun h' qC eK=>?_;have cm:(x,c)∈env.cells:=mem_of_lookup hc;have Mv:c∈B:=F.jH _ cm;have rr:=fun d v (r:W_ (Xa μ (μ++B)) s.heap d v)=>r.sameBut Mv eK;have ne:env.locals≠c:=fun q=>F.off _ cm q.symm;obtain ⟨e1,e2⟩:=F.v9 (ρ':=(x,d)::ρ) (tk:=s.toks) (YE _) (Yv _ (Yt.mpr (aF _ cm rfl))) (F.dk x c hc) eK (let ⟨o,e,_⟩:=qC;⟨o,e⟩)
   (let ⟨m,n⟩:=F.ns;⟨m,Ns.turn n fun o e=>eK.extBut _ o ne e⟩) (fun y c' e=>by
    by_cases q:c'=c
    ·subst q;exact ⟨_,qC⟩
    ·refine cS (fun v o q' z=>?_) (F.cA y c' e);exact (gY v o (eK.extBut c' o q q') z)) fun y dy e=>by
   rw [YS] at e;cases q:y==x with
   | true=>
    rw [q] at e;obtain rfl:=Yx e;refine rv (YK.mp q) ?_;exact .cell (.inl ((F.kindOf x).trans hx)) c v hc qC (rr _ _ r)
   | false=>
    rw [q] at e;exact (F.vars y dy e).to (fun χ n'=>Ns.turn n' fun o e=>eK.extBut _ o ne e) (fun c' χ e' i=>let ⟨o,q',z⟩:=i;aF o (eK.extBut c' o (fun z=>(beq_eq_false_iff_ne.mp q) (name_of_addr F.apart (mem_of_lookup e') (z.symm▸cm))) q') z) fun χ r'=>rr _ _ r'
  exact h _ e1 e2 (rr _ _ r)
noncomputable def bS (N:ay)(x:Str):Bool:=lk x N==some .local||lk x N==some .cell
theorem cg {x:Str}(h:bS N x=true):lk x N=some .local∨lk x N=some .cell:=by
 unfold bS at h;rw [Bool.or_eq_true,YK,YK] at h;exact h
noncomputable def jj:PySem.Expr→Bool
 | .ListComp ..=>false
 | .SetComp ..=>false
 | .DictComp ..=>false
 | _=>true
theorem dD {e:PySem.Expr}(h:jj e=true)(t:Option PySem.Expr)(n:Nat)(env:Env):swapsWith e t n env=pure false:=by
 cases e<;>first | rfl | cases h
theorem Fs.sr (F:Fs Ω B μ env N ρ σ s):interactive env=false:=by unfold interactive;refine rv F.kind ?_;rfl
theorem ao {k:Fl→aO→Sg→Prop}(h:k .next ρ σ):EX Ω l N ρ σ [] k:=fun A B μ env s R F Q E kk=>wpAny_execs_nil (kk .next μ σ s (.refl F.hp) ⟨.next,ρ,h,F,.next⟩)
noncomputable abbrev Oy (Ω:U)(l:Lv)(N:ay)(ss:List Stmt)(k:Fl→aO→Sg→Prop):Fl→aO→Sg→Prop:=fun fl ρ' σ'=>match fl with | .next=>EX Ω l N ρ' σ' ss k | fl=>k fl ρ' σ'
theorem ac {st:Stmt}{ss:List Stmt}{k:Fl→aO→Sg→Prop}(h:ES Ω l N ρ σ st (Oy Ω l N ss k)):EX Ω l N ρ σ (st::ss) k:=fun A B μ env s R F Q E kk=>
 wpAny_execs_cons ((h A B μ env s R F).yF fun f aD σ' s' x fl ρ' hk F' hr=>by
  cases hr with
  | next=>exact (hk A B aD env s' R F').use fun f gk aY fc y hh=>kk f gk aY fc (bd.then F x y) hh
  | brk=>exact kk .brk aD σ' s' x ⟨.brk,ρ',hk,F',.brk⟩
  | cont=>exact kk .cont aD σ' s' x ⟨.cont,ρ',hk,F',.cont⟩
  | ret d v r=>exact kk (.ret v) aD σ' s' x ⟨.ret d,ρ',hk,F',.ret d v r⟩)
theorem tZ {pos:Pos}{k:Fl→aO→Sg→Prop}(h:k .brk ρ σ):ES Ω l N ρ σ (.Break pos) k:=fun A B μ env s R F Q E kk=>wpAny_Break (kk .brk μ σ s (.refl F.hp) ⟨.brk,ρ,h,F,.brk⟩)
theorem tY {pos:Pos}{k:Fl→aO→Sg→Prop}(h:k .cont ρ σ):ES Ω l N ρ σ (.Continue pos) k:=fun A B μ env s R F Q E kk=>wpAny_Continue (kk .cont μ σ s (.refl F.hp) ⟨.cont,ρ,h,F,.cont⟩)
theorem bg {e:PySem.Expr}{pos:Pos}{k:Fl→aO→Sg→Prop}(h:EF Ω l N ρ σ e fun d σ'=>k (.ret d) ρ σ'):ES Ω l N ρ σ (.Return (some e) pos) k:=fun A B μ env s R F Q E kk=>
 wpAny_Return_some ((h A B μ env s R F).go fun v aD σ' s' x d hk r=>by
  exact kk (.ret v) aD σ' s' x.wide ⟨.ret d,ρ,hk,F.c5 x,.ret d v r⟩)
theorem aL {e:PySem.Expr}{pos:Pos}{k:Fl→aO→Sg→Prop}(hs:jj e=true)(h:EF Ω l N ρ σ e fun χ σ'=>k .next ρ σ'):ES Ω l N ρ σ (.Expr e pos) k:=fun A B μ env s R F Q E kk=>
 wpAny_Expr_any ((h A B μ env s R F).go fun v aD σ' s' x d hk r=>by
  exact kk .next aD σ' s' x.wide ⟨.next,ρ,hk,F.c5 x,.next⟩) F.sr (dD hs ..)
theorem ah {x:Str}{px pos:Pos}{e:PySem.Expr}{k:Fl→aO→Sg→Prop}(hx:bS N x=true)(hs:jj e=true)(h:EF Ω l N ρ σ e fun d σ'=>k .next ((x,d)::ρ) σ'):ES Ω l N ρ σ (.Assign [.Name x px] e pos) k:=fun A B μ env s R F Q E kk=>
 wpAny_Assign_Name ((h A B μ env s R F).go fun v aD σ' s' y d hk r=>by
  exact eM (F.c5 y) (cg hx) r fun fc z tT χ=>kk .next aD σ' fc (bd.then F y.wide z) ⟨.next,_,hk,tT,.next⟩) (dD hs ..)
theorem bc {t:PySem.Expr}{a b:List Stmt}{pos:Pos}{k:Fl→aO→Sg→Prop}(h:TE Ω l N ρ σ t fun c σ'=>D0 c (EX Ω l N ρ σ' a k) (EX Ω l N ρ σ' b k)):ES Ω l N ρ σ (.If t a b pos) k:=fun A B μ env s R F Q E kk=>
 wpAny_If ((h A B μ env s R F).use fun c aD σ' s' x hh=>by
  cases c with
  | true=>exact (hh.1 rfl A B aD env s' R (F.c5 x)).use fun f gk aY fc y hh=>kk f gk aY fc (bd.then F x.wide y) hh
  | false=>exact (hh.2 rfl A B aD env s' R (F.c5 x)).use fun f gk aY fc y hh=>kk f gk aY fc (bd.then F x.wide y) hh)
theorem fE {ws:List Addr}{a:Addr}(h:a∉μ++B)(hw:a∉ws):a∉μ++(ws++B):=fun m=>by
 rcases Yr.mp m with m | m
 ·exact h (Yp _ m)
 ·rcases Yr.mp m with m | m
  ·exact hw m
  ·exact h (Yn _ m)
theorem Fs.widen (F:Fs Ω B μ env N ρ σ s){ws:List Addr}{s':Shared}(g:aH s s')(f:∀ b∈ws,s.heap.get? b=none)(live:∀ b∈ws,∃ o,s'.heap.get? b=some o):Fs Ω (ws++B) μ env N ρ σ s':=by
 have G:=F.grown g;have out:∀ a o,s.heap.get? a=some o→a∉ws:=fun a o e m=>cc (f a m) e;refine ⟨⟨G.stays,fun a o e=>fE (F.clear a o e) (out a o (F.stays a o e)),fun x d e=>?_,F.kind,F.globals,F.builtins,F.names,?_,F.dK,F.dk,G.tk⟩,G.ns,G.cA,F.apart,F.off,Yn _ F.qA,fun p m=>Yn _ (F.jH p m),F.nH,F.frame⟩
 ·exact ((F.vars x d e).cH (M':=μ++(ws++B)) fun a ha z=>z.elim fun o e=>fE ha (out a o e)).ext g.ext
 ·exact F.hp.keeps (fun b o χ e=>g.ext b o e) (fun b o m e=>by
   rcases Yr.mp m with m | m
   ·exact absurd m (out b o e)
   ·exact m) fun a m=>by
   rcases Yr.mp m with m | m
   ·exact live a m
   ·obtain ⟨o,e⟩:=F.hp.held a (Yn _ m);exact ⟨o,g.ext a o e⟩
theorem Fs.DB {ws:List Addr}(F:Fs Ω (ws++B) μ env N ρ σ s){s':Shared}(same:∃ h' t',s'={ s with heap:=h',toks:=t' }∧s.toks≤t')(k:∀ b o,b∉ws→s.heap.get? b=some o→s'.heap.get? b=some o)(hw:∀ b∈ws,b∉own env∧b∉μ)(dj:∀ b∈ws,b∉B)
  (hB:env.locals∈B) (Mv:∀ p∈env.cells,p.2∈B):Fs Ω B μ env N ρ σ s':=by
 revert same;refine cS fun h' t' e_1 lJ=>?_;subst e_1;have nw:∀ a,a∉μ++(ws++B)→a∉ws∧a∉μ++B:=fun a h=>⟨fun m=>h (Yn _ (Yp _ m)),fun m=>by
  rcases Yr.mp m with m | m
  ·exact h (Yp _ m)
  ·exact h (Yn _ (Yn _ m))⟩
 have rk:∀ d v,W_ (Xa μ (μ++(ws++B))) s.heap d v→W_ (Xa μ (μ++B)) h' d v:=fun d v r=>
  W_.keeps (P:=Xa μ (μ++(ws++B))) (P':=Xa μ (μ++B)) (fun χ χ e=>e) (fun a o p e=>⟨(nw a p).2,k a o (nw a p).1 e⟩) r
 have lo:env.locals∉ws:=fun m=>(hw _ m).1 Yu;have ce:∀ p∈env.cells,p.2∉ws:=fun p hp m=>(hw _ m).1 (Yv _ (Yt.mpr (aF p hp rfl)));refine ⟨⟨fun a o e=>k a o (nw a (F.clear a o e)).1 (F.stays a o e),fun a o e=>(nw a (F.clear a o e)).2,fun x d e=>?_,F.kind,F.globals,F.builtins,F.names,?_,F.dK,F.dk,Ys F.tk lJ⟩,?_,fun x c e=>?_,F.apart,F.off,hB,Mv,F.nH,F.frame⟩
 ·exact (F.vars x d e).to (fun χ n=>Ns.turn n fun o e=>k _ o lo e) (fun c χ hc i=>let ⟨o,q,z⟩:=i;aF o (k c o (ce _ (mem_of_lookup hc)) q) z) fun v r=>rk _ _ r
 ·exact F.hp.keeps (fun b o hb e=>k b o (fun m=>by
   rcases hb with hb | hb
   ·exact (hw b m).2 hb
   ·exact hb (Yn _ (Yp _ m))) e) (fun b o m χ=>Yn _ m) fun a m=>by
   obtain ⟨o,e⟩:=F.hp.held a (Yn _ (Yn _ m));exact ⟨o,k a o (fun q=>dj a q m) e⟩
 ·obtain ⟨m,n⟩:=F.ns;exact ⟨m,Ns.turn n fun o e=>k _ o lo e⟩
 ·refine cS (fun v o q z=>?_) (F.cA x c e);exact gY v o (k c o (ce _ (mem_of_lookup e)) q) z
structure kS (Ω:U)(A:Around)(own:List Addr)(target:PySem.Expr)(it:Value)(ws B:List Addr)(bC:Sg→Prop)(xs:List D)(St:Nat→List Addr→Sg→Heap→Prop):Prop where
 item:∀ i μ σ (s:Shared) (Q:Value→Shared→Prop) (E:Value→Shared→Prop) d,xs[i]? = some d→St i μ σ s.heap→bC σ→Hp Ω.prog Ω.w μ (ws++B) σ s.heap→
  (∀ v h' tk,W_ (Xa μ (μ++(ws++B))) h' d v→St (i+1) μ σ h'→(∀ b o,b∉ws→s.heap.get? b=some o→h'.get? b=some o)→(∀ b∈ws,∃ o,h'.get? b=some o)→Q v { s with heap:=h',toks:=tk })→
  wpAny Ω.M A (pyNext it) (fun r s₁=>∃ v,r=some v∧wpAny Ω.M A (letOwnedTupleGo target it v) (fun χ ag=>Q v ag) E s₁) E s
 done:∀ μ σ (s:Shared) (Q:Shared→Prop) (E:Value→Shared→Prop),St xs.length μ σ s.heap→bC σ→Hp Ω.prog Ω.w μ (ws++B) σ s.heap→
  (∀ h' tk,(∀ b o,b∉ws→s.heap.get? b=some o→h'.get? b=some o)→Q { s with heap:=h',toks:=tk })→wpAny Ω.M A (pyNext it) (fun r s₁=>r=none∧Q s₁) E s
 frame:∀ i μ ν σ σ' h h',St i μ σ h→bC σ→bC σ'→(∀ b∈ν,h.get? b=none)→(∀ b o,b∉μ→b∉own→h.get? b=some o→h'.get? b=some o)→St i (μ++ν) σ' h'
structure ER (Ω:U)(A:Around)(own:List Addr)(target:PySem.Expr)(it:Value)(ws B:List Addr)(bC:Sg→Prop)(xs:List D)(St:Nat→List Addr→Sg→Heap→Prop):Prop where
 item:∀ i μ σ (s:Shared) (Q:Value→Shared→Prop) (E:Value→Shared→Prop) d,xs[i]? = some d→St i μ σ s.heap→bC σ→Hp Ω.prog Ω.w μ (ws++B) σ s.heap→
  (∀ v h' tk,s.toks≤tk→W_ (Xa μ (μ++(ws++B))) h' d v→St (i+1) μ σ h'→(∀ b o,b∉ws→s.heap.get? b=some o→h'.get? b=some o)→(∀ b∈ws,∃ o,h'.get? b=some o)→Q v { s with heap:=h',toks:=tk })→
  wpAny Ω.M A (pyNext it) (fun r s₁=>∃ v,r=some v∧wpAny Ω.M A (letOwnedTupleGo target it v) (fun χ ag=>Q v ag) E s₁) E s
 done:∀ μ σ (s:Shared) (Q:Shared→Prop) (E:Value→Shared→Prop),St xs.length μ σ s.heap→bC σ→Hp Ω.prog Ω.w μ (ws++B) σ s.heap→
  (∀ h' tk,s.toks≤tk→(∀ b o,b∉ws→s.heap.get? b=some o→h'.get? b=some o)→Q { s with heap:=h',toks:=tk })→wpAny Ω.M A (pyNext it) (fun r s₁=>r=none∧Q s₁) E s
 frame:∀ i μ ν σ σ' h h',St i μ σ h→bC σ→bC σ'→(∀ b∈ν,h.get? b=none)→(∀ b o,b∉μ→b∉own→h.get? b=some o→h'.get? b=some o)→St i (μ++ν) σ' h'
theorem kS.up {own:List Addr}{target:PySem.Expr}{it:Value}{ws:List Addr}{bC:Sg→Prop}{xs:List D}{St:Nat→List Addr→Sg→Heap→Prop}(x:kS Ω A own target it ws B bC xs St):ER Ω A own target it ws B bC xs St where
 item i μ σ s Q E d e st ok hp k:=by
  have w:=x.item i μ σ s (fun v ag=>∃ h' tk,ag={ s with heap:=h',toks:=tk }∧W_ (Xa μ (μ++(ws++B))) h' d v∧St (i+1) μ σ h'∧(∀ b o,b∉ws→s.heap.get? b=some o→h'.get? b=some o)∧(∀ b∈ws,∃ o,h'.get? b=some o)) (fun χ χ=>False) d e st ok hp fun v h' tk a b c d=>(Vl h' tk rfl a b c d);refine wpAny_mono (Xl w) (fun r s₁ z=>?_) fun χ χ f=>f.1.elim;obtain ⟨⟨v,hv,z⟩,l⟩:=z;refine aF v hv (wpAny_mono (Xl z) (fun u ag z=>?_) fun χ χ f=>f.1.elim);obtain ⟨⟨h',tk,rfl,a,b,c,d⟩,l'⟩:=z;exact k v h' tk (Ys l l') a b c d
 done μ σ s Q E st ok hp k:=by
  have w:=x.done μ σ s (fun ag=>∃ h' tk,ag={ s with heap:=h',toks:=tk }∧(∀ b o,b∉ws→s.heap.get? b=some o→h'.get? b=some o)) (fun χ χ=>False) st ok hp fun h' tk a=>(gY h' tk rfl a);refine wpAny_mono (Xl w) (fun r s₁ z=>?_) fun χ χ f=>f.1.elim;obtain ⟨⟨hr,h',tk,rfl,a⟩,l⟩:=z;exact ⟨hr,k h' tk l a⟩
 frame:=x.frame
noncomputable def XB:PySem.Expr→Option Str
 | .Name x _=>some x
 | _=>none
theorem gA {e:PySem.Expr}{x:Str}(h:XB e=some x):∃ p,e=.Name x p:=by
 cases e with
 | Name y p=>cases h;exact ⟨p,rfl⟩
 | _=>cases h
noncomputable def two:List PySem.Expr→Option (Str×Str)
 | [a,b]=>(XB a).bind fun x=>(XB b).map fun y=>(x,y)
 | _=>none
theorem yN {es:List PySem.Expr}{q:Str×Str}(h:two es=some q):∃ p p',es=[.Name q.1 p,.Name q.2 p']:=by
 cases es with
 | nil=>cases h
 | cons a es=>
  cases es with
  | nil=>cases h
  | cons b es=>
   cases es with
   | nil=>
    refine az (fun x hx h=>?_) (Option.bind_eq_some_iff.mp h);refine az (fun y hy e_2=>?_) (YI.mp h);subst e_2;obtain ⟨p,rfl⟩:=gA hx;obtain ⟨p',rfl⟩:=gA hy;exact uK p p' rfl
   | cons c es=>cases h
noncomputable def XV:D→Option (D×D)
 | .tup ds=>(match ds with
  | [a,b]=>some (a,b)
  | _=>none)
 | _=>none
theorem si {d:D}{q:D×D}(h:XV d=some q):d=.tup [q.1,q.2]:=by
 cases d with
 | tup ds=>
  cases ds with
  | nil=>cases h
  | cons a ds=>
   cases ds with
   | nil=>cases h
   | cons b ds=>
    cases ds with
    | nil=>cases h;rfl
    | cons c ds=>cases h
 | _=>cases h
noncomputable def wW (io:PySem.Expr)(d:D)(ρ:aO):Option aO:=match io with
 | .Name x _=>some ((x,d)::ρ)
 | .Tuple es _ _=>(two es).bind fun q=>(XV d).map fun r=>(q.2,r.2)::(q.1,r.1)::ρ
 | _=>none
noncomputable def Ow (N:ay)(io:PySem.Expr):Bool:=match io with
 | .Name x _=>bS N x
 | .Tuple es _ _=>(two es).any fun q=>bS N q.1&&bS N q.2
 | _=>false
noncomputable abbrev F3 (nx:aO→Sg→Prop)(k:Fl→aO→Sg→Prop):Fl→aO→Sg→Prop:=fun fl ρ' σ'=>match fl with
 | .next=>nx ρ' σ'
 | .cont=>nx ρ' σ'
 | .brk=>k .next ρ' σ'
 | .ret d=>k (.ret d) ρ' σ'
inductive w4 (bC:Sg→Prop)(σ:Sg)(b:Option aO)(C:aO→Prop):Prop where
 | mk (o:bC σ)(bV:aO)(e:b=some bV)(h:C bV)
theorem w4.ok {bC:Sg→Prop}{σ:Sg}{b:Option aO}{C:aO→Prop}(h:w4 bC σ b C):bC σ:=h.casesOn fun o χ χ χ=>o
noncomputable def oD (Ω:U)(l:Lv)(N:ay)(io:PySem.Expr)(body:List Stmt)(bC:Sg→Prop):List D→aO→Sg→(Fl→aO→Sg→Prop)→Prop
 | [],ρ,σ,k=>bC σ∧k .next ρ σ
 | x::xs,ρ,σ,k=>w4 bC σ (wW io x ρ) fun bV=>EX Ω l N bV σ body (F3 (fun ρ' σ'=>oD Ω l N io body bC xs ρ' σ' k) k)
noncomputable def tO (Ω:U)(l:Lv)(N:ay)(ρ:aO)(σ:Sg)(target e:PySem.Expr)(k:(Sg→Prop)→List D→Prop):Prop:=
 ∀ (A:Around) (B μ:List Addr) (env:Env) (s:Shared),oK l A B env→Fs Ω B μ env N ρ σ s→∀ (Q:Value→Shared→Prop) (E:Value→Shared→Prop),
  (∀ it ws bC xs St s',ER Ω A (own env++Xb A) target it ws B bC xs St→(∀ b∈ws,s.heap.get? b=none)→aH s s'→(∀ b∈ws,∃ o,s'.heap.get? b=some o)→St 0 μ σ s'.heap→k bC xs→Q it s')→
  wpAny Ω.M A (eval e env) (fun v s₁=>wpAny Ω.M A (pyIter v) Q E s₁) E s
theorem oM {h:Heap}{xs:List D}{v:Value}(r:W_ P h (.tup xs) v):∃ a vs n,v=.ref a∧P.ok a∧h.get? a=some { cls:=.type "tuple",data:=.seq vs.toArray n }∧au P h xs vs:=by
 cases r with | tup _ a vs n p o r=>exact Hv a vs n rfl p o r
noncomputable def nK:List Str→List D→aO→aO
 | x::xs,d::ds,ρ=>nK xs ds ((x,d)::ρ)
 | _,_,ρ=>ρ
theorem rD {E:Value→Shared→Prop}(ts:List (Str×(Value→Sem Unit))):
  ∀ (ds:List D) (vs:List Value) (ρ:aO) (s:Shared) (Q:Unit→Shared→Prop),(∀ p∈ts,∀ v s (Q:Unit→Shared→Prop),wpAny Ω.M A (storeName env p.1 v) Q E s→wpAny Ω.M A (p.2 v) Q E s)→Fs Ω B μ env N ρ σ s→(ts.map (fun x=>x.1)).all (bS N)=true→ds.length=ts.length→au (Xa μ (μ++B)) s.heap ds vs→
  (∀ s',bd Ω.prog Ω.w (Xb A) (own env) B μ s μ σ s'→Fs Ω B μ env N (nK (ts.map (fun x=>x.1)) ds ρ) σ s'→Q () s')→wpAny Ω.M A (assignInOrder (ts.map (fun x=>x.2)) vs) Q E s:=by
 induction ts with
 | nil=>
  intro ds vs ρ s Q χ F χ hl r h;cases r with
  | nil=>exact wpAny_assignInOrder_none (h s (.refl F.hp) F)
  | cons=>cases hl
 | cons p xs ih=>
  intro ds vs ρ s Q hf F ok hl r h;cases r with
  | nil=>cases hl
  | cons d v ds vs a r=>
   simp only [List.map_cons,List.all_cons,YR] at ok;refine wpAny_assignInOrder_more (hf p Yu v s _ (eM F (cg ok.1) a fun s' y F' χ=>?_));have r':au (Xa μ (μ++B)) s'.heap ds vs:=au.keeps (P:=Xa μ (μ++B)) (P':=Xa μ (μ++B)) (fun χ χ e=>e) (fun b o p e=>⟨p,y.keep b o (fun m=>p (Yp _ m)) (fun m=>p (Yn _ (eo F b m))) (fun χ m=>p (Yn _ m)) e⟩) r;exact ih ds vs _ s' Q (fun p hp=>hf p (Yv _ hp)) F' ok.2 (Nat.succ.inj hl) r' fun fc z tT=>h fc (bd.then F y z) tT
theorem MR {E:Value→Shared→Prop}{Q:Unit→Shared→Prop}{io:PySem.Expr}{v:Value}{d:D}{bV:aO}(hc:A.handled=none)(F:Fs Ω B μ env N ρ σ s)(ht:Ow N io=true)(hb:wW io d ρ=some bV)(r:W_ (Xa μ (μ++B)) s.heap d v)
  (h:∀ s',bd Ω.prog Ω.w (Xb A) (own env) B μ s μ σ s'→Fs Ω B μ env N bV σ s'→Q () s'):wpAny Ω.M A (assign io env v) Q E s:=by
 cases io with
 | Name x px=>
  cases hb;exact assign_Name (eM F (cg ht) r fun s' x F' χ=>h s' x F')
 | Tuple es n p=>
  refine az (fun y_3 h2 hb=>?_) (Option.bind_eq_some_iff.mp hb);obtain ⟨x,y⟩:=y_3;refine az (fun y_4 h3 e_5=>?_) (YI.mp hb);obtain ⟨a,b⟩:=y_4;subst e_5;refine jE (fun px py e_6=>?_) (yN h2);subst e_6;have uR:(bS N x&&bS N y)=true:=ht;rw [si h3] at r;refine fD (fun t vs m e_7 pa o rs=>?_) (oM r);subst e_7;have hl:vs.length=2:=rs.length;refine wpAny_assign_Tuple hc (eQ _ o rfl ⟨m,rfl⟩) hl.symm rfl fun h' hx=>?_;have g:aH s { s with heap:=h' }:=.heap fun b o e=>hx b o (YO (Heap.lt_size e)) e;refine rD [(x,assign (.Name x px) env),(y,assign (.Name y py) env)] [a,b] vs ρ _ Q (fun p hp v s Q hh=>?_) (F.grown g) ?_ rfl (rs.ext g.ext) (fun s' z F'=>h s' (bd.then F (.aG F.hp g) z) F')
  ·rcases YC.mp hp with rfl | hp
   ·exact assign_Name hh
   ·rw [Yq.mp hp] at hh ⊢;exact assign_Name hh
  ·show (bS N x&&(bS N y&&true))=true;exact rv (Bool.and_true _) uR
 | _=>cases hb
theorem bd.more {L W' aD:List Addr}{σ':Sg}{s':Shared}(x:bd Ω.prog Ω.w L W B μ s aD σ' s')(h:∀ b∈W,b∈W'):bd Ω.prog Ω.w L W' B μ s aD σ' s':=⟨x.same,x.new,fun b o hb hw e=>x.keep b o hb (fun m=>hw (h b m)) e,fun b o hb hw e=>x.bP b o hb (fun m=>hw (h b m)) e,x.hp,x.tk⟩
theorem cF {io iter:PySem.Expr}{body:List Stmt}{pos:Pos}{k:Fl→aO→Sg→Prop}(hc:l.calm=true)(ht:Ow N io=true)(hs:uD iter=true)(h:tO Ω l N ρ σ io iter fun bC xs=>oD Ω l N io body bC xs ρ σ k):ES Ω l N ρ σ (.For io iter body [] pos) k:=fun A B μ env s R F Q E kk=>by
 refine wpAny_For (h A B μ env s R F _ _ fun it ws bC xs St s' T fr g lv st hk=>?_) (pe hs env);have Fw:=F.widen (ws:=ws) g fr lv;have hA:=R.calm hc;have Cl:∀ b∈ws,b∉own env∧b∉μ:=fun b hb=>by
  refine ⟨fun m=>?_,fun m=>?_⟩
  ·obtain ⟨o,e⟩:=F.hp.held b (Yn _ (eo F b m));exact cc (fr b hb) e
  ·obtain ⟨o,e⟩:=F.hp.held b (Yp _ m);exact cc (fr b hb) e
 refine codeAny_forLoop_any (fun n s₁=>∃ i ys bV aq aW,xs.drop i=ys∧n=ys.length+1∧i+ys.length=xs.length∧St i aW aq s₁.heap∧Fs Ω (ws++B) aW env N bV aq s₁∧bd Ω.prog Ω.w (Xb A) (ws++own env) (ws++B) μ s' aW aq s₁∧oD Ω l N io body bC ys bV aq k)
  (fun n s₁ hI=>?_) (xs.length+1) (OA 0 xs ρ σ μ rfl rfl (NW) st Fw (.refl Fw.hp) hk)
 revert hI;refine WA fun i ys bV aq aW hd e_8 hlen El av gm ct=>?_;subst e_8;refine az (fun ν e_9 fC=>?_) gm.new;subst e_9;have nw:∀ b∈ws,b∉own env∧b∉μ++ν:=fun b hb=>⟨(Cl b hb).1,fun m=>by
  rcases Yr.mp m with m | m
  ·exact (Cl b hb).2 m
  ·obtain ⟨o,e⟩:=lv b hb;exact cc (fC b m) e⟩
 have WZ:∀ b∈own env++Xb A,b∈B:=fun b m=>by
  rcases Yr.mp m with m | m
  ·exact eo F b m
  ·exact R.out b m
 have RR:oK l A (ws++B) env:=⟨⟨R.toRm,fun b m=>Yn _ (R.out b m),R.fr⟩,R.here⟩;have dj:∀ b∈ws,b∉B:=fun b hb m=>by
  obtain ⟨o,e⟩:=F.hp.held b (Yn _ m);exact cc (fr b hb) e
 have fin:∀ (f:Flow) (fl:Fl) (bh:List Addr) (gj:aO) (aM:Sg) (ag:Shared),(∃ h' t',ag={ s' with heap:=h',toks:=t' }∧s'.toks≤t')→(∃ ν,bh=μ++ν∧∀ b∈ν,s'.heap.get? b=none)→(∀ b o,b∉μ→b∉ws++own env→(b∈Xb A→b∉ws++B)→s'.heap.get? b=some o→ag.heap.get? b=some o)→(∀ b o,b∉μ→b∉ws++own env→s'.heap.get? b=some o→∃ o',ag.heap.get? b=some o'∧SlotsOnly o o')→
   Fs Ω B bh env N gj aM ag→ge (Xa bh (bh++B)) ag.heap fl f→k fl gj aM→Q f ag:=fun f fl bh gj aM ag same new keep bP Fb hr hk=>by
  revert new;refine az fun l6 e_10 qB=>?_;subst e_10;revert g;refine gf fun dW BR e_11 jA mM=>?_;subst e_11;revert same;refine cS fun uP yL lE F2=>?_;refine kk f (μ++l6) aM ag ⟨(uK uP yL (rv lE rfl)),(aF l6 rfl (fun b hb=>?_)),fun b o hb hw hL e=>keep b o hb (fun m=>by
   rcases Yr.mp m with m | m
   ·exact cc (fr b m) e
   ·exact hw m) (fun hl m=>by
   rcases Yr.mp m with m | m
   ·exact cc (fr b m) e
   ·exact hL hl m) (jA b o e),fun b o hb hw e=>bP b o hb (fun m=>by
   rcases Yr.mp m with m | m
   ·exact cc (fr b m) e
   ·exact hw m) (jA b o e),Fb.hp,rv lE (Ys mM F2)⟩ ⟨fl,gj,hk,Fb,hr⟩
  cases q:s.heap.get? b with
  | none=>rfl
  | some o=>have:=qB b hb;exact cc this (jA b o q)
 have AX:∀ (f:Flow) (fl:Fl) (bh:List Addr) (gj:aO) (aM:Sg) (ag:Shared),bd Ω.prog Ω.w (Xb A) (ws++own env) (ws++B) μ s' bh aM ag→Fs Ω (ws++B) bh env N gj aM ag→ge (Xa bh (bh++(ws++B))) ag.heap fl f→k fl gj aM→Q f ag:=fun f fl bh gj aM ag x aI hr hk=>by
  refine az (fun l6 e_12 qB=>?_) x.new;subst e_12;have IM:∀ b∈ws,b∉own env∧b∉μ++l6:=fun b hb=>⟨(Cl b hb).1,fun m=>by
   rcases Yr.mp m with m | m
   ·exact (Cl b hb).2 m
   ·obtain ⟨o,e⟩:=lv b hb;exact cc (qB b m) e⟩
  have Fb:=aI.DB (s':=ag) (gY _ _ rfl (YE _)) (fun χ χ χ e=>e) IM dj F.qA F.jH;refine fin f fl (μ++l6) gj aM ag (by refine jE (fun h' t' e'=>?_) x.same;exact (gY h' t' e' (by have:=x.tk;rw [e'] at this;exact this))) (aF l6 rfl qB) x.keep x.bP Fb ?_ hk;cases hr with
  | next=>exact .next
  | brk=>exact .brk
  | cont=>exact .cont
  | ret d v r=>exact .ret d v (r.cH fun a ha χ hm=>by
    have ha:a∉μ++l6++(ws++B):=ha;rcases Yr.mp hm with m | m
    ·exact ha (Yp _ m)
    ·exact ha (Yn _ (Yn _ m)))
 have step:∀ (h':Heap) (tk:Nat),s₁.toks≤tk→(∀ b o,b∉ws→s₁.heap.get? b=some o→h'.get? b=some o)→(∀ b∈ws,∃ o,h'.get? b=some o)→
   Fs Ω (ws++B) (μ++ν) env N bV aq { s₁ with heap:=h',toks:=tk }∧bd Ω.prog Ω.w (Xb A) (ws++own env) (ws++B) μ s' (μ++ν) aq { s₁ with heap:=h',toks:=tk }:=fun h' tk lJ hk hl=>by
  have Fb:=av.DB (s':={ s₁ with heap:=h',toks:=tk }) (gY _ _ rfl lJ) hk nw dj F.qA F.jH;have hp:Hp Ω.prog Ω.w (μ++ν) (ws++B) aq h':=av.hp.keeps (fun b o hb e=>hk b o (fun m=>by
    rcases hb with hb | hb
    ·exact (nw b m).2 hb
    ·exact hb (Yn _ (Yp _ m))) e) (fun χ χ m χ=>m) fun a m=>by
    by_cases q:a∈ws
    ·exact hl a q
    ·obtain ⟨o,e⟩:=av.hp.held a (Yn _ m);exact ⟨o,hk a o q e⟩
  have rk:∀ d v,W_ (Xa (μ++ν) (μ++ν++(ws++B))) s₁.heap d v→W_ (Xa (μ++ν) (μ++ν++(ws++B))) h' d v:=fun d v r=>
   W_.keeps (P:=Xa (μ++ν) (μ++ν++(ws++B))) (P':=Xa (μ++ν) (μ++ν++(ws++B))) (fun χ χ e=>e) (fun a o p e=>⟨p,hk a o (fun m=>p (Yn _ (Yp _ m))) e⟩) r
  refine ⟨⟨⟨Fb.stays,av.clear,fun x d e=>?_,av.kind,av.globals,av.builtins,av.names,hp,av.dK,av.dk,Fb.tk⟩,Fb.ns,Fb.cA,av.apart,av.off,av.qA,av.jH,av.nH,av.frame⟩,?_⟩
  ·exact (av.vars x d e).to (fun χ n=>Ns.turn n fun o e=>hk _ o (fun m=>(nw _ m).1 Yu) e) (fun c χ hc i=>let ⟨o,q,z⟩:=i;aF o (hk c o (fun m=>(nw _ m).1 (Yv _ (Yt.mpr (aF _ (mem_of_lookup hc) rfl)))) q) z) fun v r=>rk _ _ r
  ·refine jE (fun uP yL lE=>?_) gm.same;refine ⟨(uK h' tk (rv lE rfl)),(aF ν rfl fC),fun b o hb hw hL e=>hk b o (fun m=>hw (Yp _ m)) (gm.keep b o hb hw hL e),fun b o hb hw e=>(let ⟨o',e',z⟩:=gm.bP b o hb hw e;(aF o' (hk b o' (fun m=>hw (Yp _ m)) e') z)),hp,Ys gm.tk lJ⟩
 have wB:∀ b∈ws++own env,b∈ws++B:=fun b m=>by
  rcases Yr.mp m with m | m
  ·exact Yp _ m
  ·exact Yn _ (eo F b m)
 cases ys with
 | nil=>
  have hi:i=xs.length:=by simpa using hlen
  subst hi;obtain ⟨lp,ct⟩:=ct;refine wpAny_mono (T.done (μ++ν) aq s₁ (Q .next) _ El lp av.hp fun h' tk lJ hk=>?_) (fun r ag hh=>?_) fun χ χ e=>e;rotate_left
  ·obtain ⟨rfl,hh⟩:=hh;exact wpAny_execs_nil hh
  ·have Fb:=av.DB (s':={ s₁ with heap:=h',toks:=tk }) (gY _ _ rfl lJ) hk nw dj F.qA F.jH;refine jE (fun uP yL lE=>?_) gm.same;exact fin .next .next _ bV aq _ (gY h' tk (rv lE rfl) (Ys gm.tk lJ)) (aF ν rfl fC) (fun b o hb hw hL e=>hk b o (fun m=>hw (Yp _ m)) (gm.keep b o hb hw hL e)) (fun b o hb hw e=>(let ⟨o',e',z⟩:=gm.bP b o hb hw e;(aF o' (hk b o' (fun m=>hw (Yp _ m)) e') z))) Fb .next ct
 | cons d ys=>
  obtain ⟨lp,gj,hb,ct⟩:=ct;have x6:xs[i]? = some d:=by
   have:=congrArg (·[0]?) hd;simpa using this
  refine wpAny_mono (T.item i (μ++ν) aq s₁ (?q:Value→Shared→Prop) _ d x6 El lp av.hp ?it) ?mo fun χ χ e=>e
  case mo=>
   intro r ag hh;revert hh;refine az fun v e_13 hh=>?_;subst e_13;exact hh
  case it=>
   intro v h' tk lJ r H9 hk hl;obtain ⟨aI,pF⟩:=step h' tk lJ hk hl;refine MR hA aI ht hb r fun aE oc dX=>?_;have HX:=pF.trans (oc.more fun b m=>Yn ws m) wB;refine (ct A (ws++B) (μ++ν) env aE RR dX).yF fun f yH fk iz yJ fl vI wM ij hr=>?_;have X:=HX.trans (yJ.more fun b m=>Yn ws m) wB;have next:oD Ω l N io body bC ys vI fk k→∃ m,m<(d::ys).length+1∧∃ i ys bV aq aW,xs.drop i=ys∧m=ys.length+1∧i+ys.length=xs.length∧St i aW aq iz.heap∧Fs Ω (ws++B) aW env N bV aq iz∧bd Ω.prog Ω.w (Xb A) (ws++own env) (ws++B) μ s' aW aq iz∧oD Ω l N io body bC ys bV aq k:=fun hk=>by
    refine aF (ys.length+1) (by simp) (OA (i+1) ys vI fk yH ?_ rfl ?_ ?_ ij X hk)
    ·have:=congrArg (List.drop 1) hd;rw [List.drop_drop] at this;simpa using this
    ·simp only [List.length_cons] at hlen;exact SX hlen
    ·refine az (fun KO e_14 LX=>?_) yJ.new;subst e_14;have Me:bC fk:=by
      cases ys with
      | nil=>exact hk.1
      | cons=>exact hk.ok
     refine T.frame (i+1) (μ++ν) KO aq fk h' iz.heap H9 lp Me (fun b hb=>?_) fun b o hb hw e=>?_
     ·refine jE (fun Gk UY Wu=>?_) oc.same;cases q:h'.get? b with
      | none=>rfl
      | some o=>
       have n3:=LX b hb
       by_cases hm:b∈μ++ν
       ·obtain ⟨o',e'⟩:=dX.hp.held b (Yp _ hm);exact cc n3 e'
       ·by_cases hw:b∈own env
        ·obtain ⟨o',e'⟩:=dX.hp.held b (Yn _ (Yn _ (eo F b hw)));exact cc n3 e'
        ·refine az (fun χ this χ=>?_) (oc.bP b o hm hw q);exact cc n3 this
     ·have OI:b∉own env:=fun m=>hw (Yp _ m);have hL:b∈Xb A→b∉ws++B:=fun m=>absurd (Yn _ m) hw;exact yJ.keep b o hb OI hL (oc.keep b o hb OI hL e)
   cases hr with
   | next=>exact next wM
   | cont=>exact next wM
   | brk=>exact AX .next .next _ vI fk _ X ij .next wM
   | ret d' v r=>exact AX (.ret v) (.ret d') _ vI fk _ X ij (.ret d' v r) wM
theorem W_.FG {ν wr B own:List Addr}{h h':Heap}(Db:∀ b∈own,b∈B)(fC:∀ b∈ν,h.get? b=Option.none)(k:∀ b o,b∉μ→b∉own→h.get? b=some o→h'.get? b=some o){d v}(r:W_ (Xa μ (μ++(wr++B))) h d v):
  W_ (Xa (μ++ν) (μ++ν++(wr++B))) h' d v:=
 W_.keeps (P:=Xa μ (μ++(wr++B))) (P':=Xa (μ++ν) (μ++ν++(wr++B))) (fun n a e=>by show (μ++ν)[n]? = some a;refine rv (List.getElem?_append_left (YD.mp e).1) ?_;exact e)
  (fun a o p e=>⟨fun m=>by
   rcases Yr.mp m with m | m
   ·rcases Yr.mp m with m | m
    ·exact p (Yp _ m)
    ·exact cc (fC a m) e
   ·exact p (Yn _ m),k a o (fun m=>p (Yp _ m)) (fun m=>p (Yn _ (Yn _ (Db a m)))) e⟩) r
theorem yr {e:PySem.Expr}{x:Str}{px:Pos}{kk:List D→Prop}{k:(Sg→Prop)→List D→Prop}(h:Yf Ω l N ρ σ e kk)(hk:∀ xs,kk xs→k (fun χ=>True) xs):tO Ω l N ρ σ (.Name x px) e k:=fun A B μ env s R F Q E kq=>by
 refine h A B μ env s R F.toFx Q E fun s₁ it ag xs ai Jl hit=>?_;obtain ⟨I,fp,wr,Pt,St,rfl,W,lN,Jo,I4,wK,ar,VX,na⟩:=hit;have gone:∀ b,s₁.heap.get? b=none→s.heap.get? b=none:=fun b e=>by
  exact Xi.gone ai.ext e
 have Db:∀ b∈own env++Xb A,b∈B:=fun b m=>by
  rcases Yr.mp m with m | m
  ·exact eo F b m
  ·exact R.out b m
 have LA:∀ a,a∉wr++(μ++B)→a∉μ++(wr++B):=fun a h m=>by
  rcases Yr.mp m with m | m
  ·exact h (Yn _ (Yp _ m))
  ·rcases Yr.mp m with m | m
   ·exact h (Yp _ m)
   ·exact h (Yn _ (Yn _ m))
 refine kq (.ref I) wr (fun χ=>True) xs (fun i aD σ' h=>St i h∧(∀ b∈fp,b∉aD∧b∉own env++Xb A∧∃ o,h.get? b=some o)∧∀ j v,Pt j v→∃ d,xs[j]? = some d∧W_ (Xa aD (aD++(wr++B))) h d v) ag ?_ (fun b hb=>gone b (I4 b hb)) (ai.trans ar) (wK 0 _ lN) ⟨lN,fun b hb=>?_,fun j v hv=>?_⟩ (hk xs Jl)
 ·refine kS.up ⟨?_,?_,?_⟩
  ·intro i aD σ' s' Q' E' d hd r_10 _ H uM;revert r_10;refine e8 fun st hf hp=>?_;have hi:i<xs.length:=(YD.mp hd).1;refine W.item i s' _ _ hi st fun v h' tk hv B8 kr=>(aF v rfl ?_);refine YA ?_;have keep:∀ d v,W_ (Xa aD (aD++(wr++B))) s'.heap d v→W_ (Xa aD (aD++(wr++B))) h' d v:=fun d v r=>
    W_.keeps (P:=Xa aD (aD++(wr++B))) (P':=Xa aD (aD++(wr++B))) (fun χ χ e=>e) (fun a o p e=>⟨p,kr a o (fun m=>p (Yn _ (Yp _ m))) e⟩) r
   have lv:=wK _ _ B8;refine az (fun d' x6 r=>?_) (hp i v hv);rw [hd] at x6;obtain rfl:=Yx x6;refine uM v h' tk (keep _ _ r) ⟨B8,fun b hb=>⟨(hf b hb).1,(hf b hb).2.1,?_⟩,fun j u hu=>?_⟩ kr lv
   ·by_cases q:b∈wr
    ·exact lv b q
    ·obtain ⟨o,e⟩:=(hf b hb).2.2;exact ⟨o,kr b o q e⟩
   ·refine az (fun d' x6 r=>?_) (hp j u hu);exact aF d' x6 (keep _ _ r)
  ·intro aD σ' s' Q' E' r_11 _ H uM;revert r_11;refine e8 fun st hf hp=>?_;exact W.done s' _ _ st fun h' tk kr=>⟨rfl,uM h' tk kr⟩
  ·intro i aD ν aq aM h h' r_12 _ _ fC BE;revert r_12;refine e8 fun st hf hp=>?_;refine ⟨W.frame i h h' st fun b hb o e=>BE b o (hf b hb).1 (hf b hb).2.1 e,fun b hb=>⟨fun m=>?_,(hf b hb).2.1,?_⟩,fun j v hv=>?_⟩
   ·obtain ⟨o,e⟩:=(hf b hb).2.2;rcases Yr.mp m with m | m
    ·exact (hf b hb).1 m
    ·exact cc (fC b m) e
   ·obtain ⟨o,e⟩:=(hf b hb).2.2;exact ⟨o,BE b o (hf b hb).1 (hf b hb).2.1 e⟩
   ·refine az (fun d hd r=>?_) (hp j v hv);exact aF d hd (r.FG Db fC BE)
 ·obtain ⟨o,e⟩:=Jo b hb;have nm:b∉μ++B:=fun m=>by
   rcases VX b hb with q | q
   ·obtain ⟨o',e'⟩:=F.hp.held b m;have:=I4 b q;exact cc this (ai.ext b o' e')
   ·exact q m
  exact ⟨fun m=>nm (Yp _ m),fun m=>nm (Yn _ (Db b m)),o,e⟩
 ·refine az (fun d hd r=>?_) (na j v hv);exact aF d hd (r.cH fun a ha χ=>LA a ha)
theorem bZ {e:PySem.Expr}{x:Str}{px:Pos}{k:(Sg→Prop)→List D→Prop}(hc:l.calm=true)(h:EV Ω l N ρ σ e fun d=>ia d fun xs=>k (fun χ=>True) xs):tO Ω l N ρ σ (.Name x px) e k:=yr (lY hc h) fun χ h=>h
inductive Hc (σ:Sg)(k:(Sg→Prop)→List D→Prop)(n:Nat):Prop where
 | mk (xs:List D)(hn:σ.o n=.list xs)(hk:k (fun σ'=>σ'.o n=.list xs) xs)
theorem tN {e:PySem.Expr}{x:Str}{px:Pos}{k:(Sg→Prop)→List D→Prop}(hc:l.calm=true)(h:EV Ω l N ρ σ e (eL (Hc σ k))):tO Ω l N ρ σ (.Name x px) e k:=fun A B μ env s R F Q E kq=>by
 refine (h A B μ env s R F.toFx).dM fun n a s₁ ai ha hq=>?_;obtain ⟨xs,hn,hk⟩:=hq;have av:=F.grown ai;have hA:=R.calm hc;have ob:=av.hp.obj n a ha;rw [hn] at ob;revert ob;refine cS fun vs m o rs=>?_;have hl:=a_ o;refine wpAny_pyIter_list hl ?_;have e1:=a9 s₁.heap;have gone:s.heap.get? s₁.heap.objs.size=none:=by
  exact Xi.gone ai.ext e1
 have In:s₁.heap.objs.size∉μ:=fun m=>by
  obtain ⟨o,e⟩:=av.hp.held _ (Yp _ m);exact cc e1 e
 have Io:s₁.heap.objs.size∉own env++Xb A:=fun m=>by
  have m:s₁.heap.objs.size∈B:=by
   rcases Yr.mp m with m | m
   ·exact eo av _ m
   ·exact R.out _ m
  obtain ⟨o,e⟩:=av.hp.held _ (Yn _ m);exact cc e1 e
 refine kq _ [s₁.heap.objs.size] _ xs (fun i aD σ' h=>s₁.heap.objs.size∉aD∧∃ a,aD[n]? = some a∧h.IsListIter s₁.heap.objs.size a i) _ ?_ (fun b hb=>rv (Yq.mp hb) gone) (ai.trans (.heap (Xi.push _ _))) (fun b hb=>rv (Yq.mp hb) ⟨_,Yw _ rfl⟩) ⟨In,a,ha,_,Yw _ rfl,rfl,rfl⟩ hk;refine kS.up ⟨?_,?_,?_⟩
 ·intro i aD σ' s' Q' E' d hd r_13 dF H uM;revert r_13;refine pD fun hI z_1=>?_;refine az (fun b hb hit=>?_) z_1;have ob:=H.obj n b hb;rw [dF] at ob;revert ob;refine cS fun n8 m' o' n9=>?_;refine az (fun u hu ru=>?_) (n9.at i hd);refine wpAny_pyNext_list_item hit (a_ o') (by simpa using hu) fun h' xY eK=>(aF u rfl (YA ?_));have Lo:W_ (Xa aD (aD++([s₁.heap.objs.size]++B))) h' d u:=W_.keeps (P:=Xa aD (aD++([s₁.heap.objs.size]++B))) (P':=Xa aD (aD++([s₁.heap.objs.size]++B))) (fun χ χ e=>e)
   (fun c o p e=>⟨p,eK.extBut c o (fun q=>p (q▸Yn _ (Yp _ Yu))) e⟩) ru
  exact uM u h' s'.toks Lo ⟨hI,b,hb,xY⟩ (fun c o hc e=>eK.extBut c o (fun q=>hc (rv q Yu)) e) (fun c hc=>by refine rv (Yq.mp hc) ?_;revert xY;refine az fun o e χ=>?_;exact ⟨o,e⟩)
 ·intro aD σ' s' Q' E' r_14 dF H uM;revert r_14;refine pD fun hI z_2=>?_;refine az (fun b hb hit=>?_) z_2;have ob:=H.obj n b hb;rw [dF] at ob;revert ob;refine cS fun n8 m' o' n9=>?_;refine wpAny_pyNext_list_end hA hit (a_ o') (by simp [n9.length]) fun h' eK=>⟨rfl,?_⟩;exact uM h' s'.toks fun c o hc e=>eK c o (fun q=>hc (rv q Yu)) e
 ·intro i aD ν aq aM h h' r_15 _ _ fC BE;revert r_15;refine pD fun hI z_3=>?_;refine az (fun b hb hit=>?_) z_3;revert hit;refine az fun o e r=>?_;refine ⟨fun m=>?_,b,?_,o,BE _ o hI Io e,r⟩
  ·rcases Yr.mp m with m | m
   ·exact hI m
   ·exact cc (fC _ m) e
  ·refine rv (List.getElem?_append_left (YD.mp hb).1) ?_;exact hb
noncomputable def Xp (x:Str):List D:=x.cps.toList.mapIdx fun (i:Nat) c=>.tup [.int (i:Int),.str ⟨#[c]⟩]
theorem Xr (x:Str):(Xp x).length=x.cps.size:=by simp [Xp]
theorem XU {x:Str}{i c:Nat}(e:x.cps[i]? = some c):(Xp x)[i]? = some (.tup [.int (i:Int),.str ⟨#[c]⟩]):=by
 unfold Xp;refine rv (List.getElem?_mapIdx) (rv (Array.getElem?_toList) (rv e ?_));rfl
theorem A2 {A:Around}(hh:A.handled=none)(it:Addr)(x:Str)(t:Tok):Draws Ω.prog Ω.w A it [it] x.cps.size (fun i v=>∃ c u,x.cps[i]? = some c∧v=.str ⟨#[c]⟩ u) (fun i h=>h.IsStrIter it (strIterType x) x t i):=by
 cases ha:x.cps.all (· < 128)
 ·simpa [strIterType,ha] using Draws.strWide hh it x t
 ·simpa [strIterType,ha] using Draws.strAscii hh it x t
theorem yt {f y z:Str}{p pos py pz pt:Pos}{n:Nat}{arg:PySem.Expr}{k:(Sg→Prop)→List D→Prop}(hg:lk f N=some .globalImplicit)(e:(Ω.C.mg f).or (Ω.C.mb f)=some (.type "enumerate"))(hc:l.calm=true)(hn:Xc [arg]=true)(hd:sEq f "__debug__"=false)
  (h:EV Ω l N ρ σ arg (tM fun x=>k (fun χ=>True) (Xp x))):tO Ω l N ρ σ (.Tuple [.Name y py,.Name z pz] n pt) (.Call (.Name f p) [arg] [] pos) k:=fun A B μ env s R F Q E kq=>by
 have hA:=R.calm hc;refine Call_Name rfl ((aT (k:=fun d=>d=.val (.type "enumerate")) hg e (.val _ rfl) rfl hd A B μ env s R.toRm F.toFx).go fun v s₀ JC d hq r=>?_);obtain rfl:=hq;refine W_.cR r ?_;have hp:=aK (env:=env) pos hn;refine PyProof.Rows.callWith_type hp (bw hp ((ae (k:=DY (tM fun x=>k (fun χ=>True) (Xp x))) hn (h.mono fun d hd=>ak ⟨d,rfl,hd⟩) A B μ env s₀ pos R (F.toFx.grown JC)).AM fun d v s₁ ai hq r=>?_));obtain ⟨x,rfl,hk⟩:=hq;obtain ⟨t,rfl⟩:=r.inv;have ai:=JC.trans ai;have av:=F.grown ai;refine call_enumerate_str fun h' he hi hz kr=>?_;have ar:aH s { s₁ with heap:=h' }:=ai.trans (.heap kr);refine wpAny_pyIter_enum he ?_;have fr:∀ b∈[s₁.heap.objs.size+1,s₁.heap.objs.size],s.heap.get? b=none:=fun b hb=>by
  cases q:s.heap.get? b with
  | none=>rfl
  | some o=>
   have:=Heap.lt_size (ai.ext b o q);rcases YC.mp hb with rfl | hb
   ·exact absurd this (Nat.not_lt.mpr (Nat.le_succ _))
   ·rw [Yq.mp hb] at this;exact absurd this (Nat.lt_irrefl _)
 have off:∀ b∈[s₁.heap.objs.size+1,s₁.heap.objs.size],b∉μ∧b∉own env++Xb A:=fun b hb=>by
  refine ⟨fun m=>?_,fun m=>?_⟩
  ·obtain ⟨o,e⟩:=F.hp.held b (Yp _ m);exact cc (fr b hb) e
  ·have m:b∈B:=by
    rcases Yr.mp m with m | m
    ·exact eo F b m
    ·exact R.out b m
   obtain ⟨o,e⟩:=F.hp.held b (Yn _ m);exact cc (fr b hb) e
 have D:=A2 (Ω:=Ω) (A:=A.in1) hA s₁.heap.objs.size x t;have gi:s₁.heap.objs.size+1≠s₁.heap.objs.size:=Nat.succ_ne_self _;generalize s₁.heap.objs.size+1=ee at*;generalize s₁.heap.objs.size=ii at*;have V4:ee∉[ii]:=fun m=>gi (Yq.mp m);refine kq (.ref ee) [ee,ii] (fun χ=>True) (Xp x) (fun i aD σ' h=>(ee∉aD∧ii∉aD)∧(∃ old,IsEnum h ee ii i old)∧h.IsStrIter ii (strIterType x) x t i) _ ?_ fr ar ?_ ⟨⟨(off ee (by simp)).1,(off ii (by simp)).1⟩,⟨_,he⟩,hi⟩ hk
 ·refine kS.up ⟨?_,?_,?_⟩
  ·intro i aD σ' s' Q' E' d hd r_7 _ H uM;revert r_7;refine e8 fun hm y_1 iP=>?_;obtain ⟨old,oy⟩:=y_1;have n_:i<x.cps.size:=by have:=(YD.mp hd).1;rwa [Xr] at this
   refine wpAny_pyNext_enum_itemD D oy iP n_ gi V4 fun v aP tk hv ho st ht W1 ct=>(aF _ rfl ?_);revert hv;refine cS fun c u qC e_1=>?_;subst e_1;refine wpAny_letOwnedTupleGo_enum ho fun cW iw ln=>?_;have kE:=XU qC;have:d=.tup [.int i,.str ⟨#[c]⟩]:=by
    have q:(Xp x)[i]? = some (.tup [.int i,.str ⟨#[c]⟩]):=kE;rw [hd] at q;obtain rfl:=Yx q;rfl
   subst this;have nT:s'.heap.get? s'.heap.objs.size=none:=a9 _;have WR:s'.heap.objs.size≠ee:=fun q=>by
    have lq:s'.heap.get? ee=some _:=oy;rw [← q,nT] at lq;exact iZ lq
   refine uM _ cW _ (.tup _ _ [.int i tk,.str ⟨#[c]⟩ u] 0 ?_ (ln.extBut _ _ WR ht) (.cons _ _ _ _ (.int _ _) (.cons _ _ _ _ (.str _ _) .nil))) ⟨hm,⟨_,by simpa using iw⟩,?_⟩ (fun b o hb e=>?_) fun b hb=>?_
   ·intro m;obtain ⟨o,e⟩:=H.held _ m;exact cc nT e
   ·revert st;refine az fun o e r=>?_;exact aF o (ln.extBut _ o gi.symm e) r
   ·exact ln.extBut b o (fun q=>hb (by simp [q])) (ct b o (fun q=>hb (by simp [q])) (fun q=>hb (by simp [q])) e)
   ·rcases YC.mp hb with rfl | hb
    ·exact ⟨_,iw⟩
    ·refine rv (Yq.mp hb) ?_;revert st;refine az fun o e r=>?_;exact ⟨o,ln.extBut _ o gi.symm e⟩
  ·intro aD σ' s' Q' E' r_8 _ H uM;revert r_8;refine e8 fun hm y_2 iP=>?_;obtain ⟨old,oy⟩:=y_2;rw [Xr] at iP oy;exact wpAny_pyNext_enum_endD D oy iP fun h' eK=>⟨rfl,uM h' s'.toks fun b o hb e=>eK b o (fun q=>hb (by simp [q])) e⟩
  ·intro i aD ν aq aM h h' r_9 _ _ fC BE;revert r_9;refine e8 fun hm y_3 iP=>?_;obtain ⟨old,oy⟩:=y_3;revert iP;refine az fun o e r=>?_;refine ⟨⟨fun m=>?_,fun m=>?_⟩,⟨old,BE _ _ hm.1 (off ee (by simp)).2 oy⟩,o,BE _ o hm.2 (off ii (by simp)).2 e,r⟩
   ·rcases Yr.mp m with m | m
    ·exact hm.1 m
    ·have lq:h.get? ee=some _:=oy;exact cc (fC _ m) lq
   ·rcases Yr.mp m with m | m
    ·exact hm.2 m
    ·exact cc (fC _ m) e
 ·intro b hb;rcases YC.mp hb with rfl | hb
  ·exact ⟨_,he⟩
  ·refine rv (Yq.mp hb) ?_;revert hi;refine az fun o e χ=>?_;exact ⟨o,e⟩
noncomputable def jQ (Ω:U)(l:Lv)(N:ay)(test:PySem.Expr)(body orelse:List Stmt):Nat→aO→Sg→(Fl→aO→Sg→Prop)→Prop
 | 0,_,_,_=>False
 | n+1,ρ,σ,k=>TE Ω l N ρ σ test fun c σ'=>D0 c (EX Ω l N ρ σ' body (F3 (fun ρ' aY=>jQ Ω l N test body orelse n ρ' aY k) k)) (EX Ω l N ρ σ' orelse k)
theorem cM {test:PySem.Expr}{body orelse:List Stmt}{pos:Pos}{k:Fl→aO→Sg→Prop}(n:Nat)(h:jQ Ω l N test body orelse n ρ σ k):ES Ω l N ρ σ (.While test body orelse pos) k:=fun A B μ env s R F Q E kk=>by
 refine wpAny_While (codeAny_whileLoop (fun n s₁=>∃ bV aq aW,Fs Ω B aW env N bV aq s₁∧bd Ω.prog Ω.w (Xb A) (own env) B μ s aW aq s₁∧jQ Ω l N test body orelse n bV aq k) (fun n s₁ hI=>?_) n (Ko ρ σ μ F (.refl F.hp) h));revert hI;refine MN fun bV aq aW av gm hk=>?_;cases n with
 | zero=>exact hk.elim
 | succ n=>
  refine (hk A B aW env s₁ R av).use fun c bh aM ag pF hh=>?_;have aI:=av.c5 pF;have JK:=bd.then F gm pF.wide;cases c with
  | false=>
   refine (hh.2 rfl A B bh env ag R aI).use fun f ch aQ aE oc hh=>?_;exact kk f ch aQ aE (bd.then F JK oc) hh
  | true=>
   refine (hh.1 rfl A B bh env ag R aI).yF fun f ch aQ aE oc fl vJ pp dX hr=>?_;have DP:=bd.then F JK oc;cases hr with
   | next=>exact aF n (Nat.lt_succ_self n) (Ko vJ aQ ch dX DP pp)
   | cont=>exact aF n (Nat.lt_succ_self n) (Ko vJ aQ ch dX DP pp)
   | brk=>exact kk .next ch aQ aE DP ⟨.next,vJ,pp,dX,.next⟩
   | ret d v r=>exact kk (.ret v) ch aQ aE DP ⟨.ret d,vJ,pp,dX,.ret d v r⟩
noncomputable def yY (N:ay)(x:Str)(px gg:Pos)(scope:Scope):Bool:=lk x N==some .local&&px.line==gg.line&&!(scope.names.any fun (n,k)=>n==x&&(k==.local||k==.cell))
theorem XM (F:Fs Ω B μ env N ρ σ s){elt:PySem.Expr}{gens:List Comprehension}{scope:Scope}{gg px:Pos}{x:Str}(n:Nat):swapsWith (.ListComp elt gens scope gg) (some (.Name x px)) n env=pure (yY N x px gg scope):=by
 have e:env.kindOf x=lk x N:=F.kindOf x;have hb:env.blockKind=.function:=by unfold Env.blockKind;refine rv F.kind ?_;rfl
 unfold swapsWith yY;simp only [e,hb];rfl
noncomputable def EP (Ω:U)(l:Lv)(N:ay)(ρ:aO)(σ:Sg)(elt:PySem.Expr)(x:Str)(ifs:List PySem.Expr)(scope:Scope)(k:List D→Prop)(xs:List D):Prop:=
 xs.length≤sizeLine∧∃ (p:D→Bool) (g:D→D),(∀ d∈xs,xW Ω l (ib N scope.names) ((x,d)::bQ scope.names ρ) σ ifs (fun b=>b=p d)∧(p d=true→EV Ω l (ib N scope.names) ((x,d)::bQ scope.names ρ) σ elt fun y=>y=g d))∧k ((xs.filter p).map g)
theorem vB {x y:Str}{px py pos gg:Pos}{elt iter:PySem.Expr}{ifs:List PySem.Expr}{scope:Scope}{k:Fl→aO→Sg→Prop}(hx:bS N x=true)(lp:gt N ρ scope y iter=true)
  (h:Yf Ω l N ρ σ iter (EP Ω l N ρ σ elt y ifs scope fun ds=>k .next ((x,.list ds)::ρ) σ)):ES Ω l N ρ σ (.Assign [.Name x px] (.ListComp elt [⟨.Name y py,iter,ifs,0⟩] scope gg) pos) k:=fun A B μ env s R F Q E kk=>by
 cases hb:yY N x px gg scope with
 | false=>
  refine wpAny_Assign_Name ((xa (k:=fun d=>k .next ((x,d)::ρ) σ) (pos:=gg) (px:=py) lp h A B μ env s R F.toFx).go fun v s' g d hk r=>?_) (rv (XM F _) (rv hb rfl));exact eM (F.grown g) (cg hx) r fun fc z tT χ=>kk .next μ σ fc (bd.then F (.aG F.hp g) z) ⟨.next,_,hk,tT,.next⟩
 | true=>
  refine rv (exec_Assign_Name_used _ _ _ _ ((XM F _).trans (by rw [hb]))) ?_;refine Yo (wpAny_standAt (Yo ?_));show wpAny _ _ (comprehension _ _ _ _ _ _ _ _ >>= fun χ=>pure ()) _ _ _;refine Yo ?_;refine nD (px:=py) (k:=fun χ ds=>k .next ((x,.list ds)::ρ) σ) R F.toFx lp (h.c A B μ env s R F.toFx) (fun xs hx=>cS (fun p g=>nE (k:=fun ds=>k .next ((x,.list ds)::ρ) σ) hx.1 p g) hx.2) fun s' ds a vs n Co m hk g hn ha rs hC gi Au n9=>?_;show wpAny _ _ (assign (.Name x px) env (.ref a)) _ _ _;have live:∃ o,s'.heap.get? Co=some o:=by revert Au;refine GX fun o χ χ e χ=>?_;exact ⟨o,e⟩
  have Fw:=F.widen (ws:=[Co]) g (fun b hb=>rv (Yq.mp hb) hC) (fun b hb=>rv (Yq.mp hb) live);have Cn:Co∉μ++B:=fun m=>by obtain ⟨o,e⟩:=F.hp.held Co m;exact cc hC e
  have Py:Co∉own env:=fun m=>Cn (Yn _ (eo F Co m));have r:W_ (Xa μ (μ++([Co]++B))) s'.heap (.list ds) (.ref a):=by
   refine .list ds a vs n (fun m=>?_) ha (au.keeps (P:=Xa μ (Co::(μ++B))) (P':=Xa μ (μ++([Co]++B))) (fun χ χ e=>e) (fun b o pb e=>⟨fun m=>?_,e⟩) n9)
   ·rcases Yr.mp m with m | m
    ·obtain ⟨o,e⟩:=F.hp.held a (Yp _ m);exact cc hn e
    ·rcases Yr.mp m with m | m
     ·exact gi (Yq.mp m).symm
     ·obtain ⟨o,e⟩:=F.hp.held a (Yn _ m);exact cc hn e
   ·have pb:b∉Co::(μ++B):=pb;rcases Yr.mp m with m | m
    ·exact pb (Yv _ (Yp _ m))
    ·rcases Yr.mp m with m | m
     ·exact pb (rv (Yq.mp m) Yu)
     ·exact pb (Yv _ (Yn _ m))
  refine assign_Name (eM Fw (cg hx) r fun fc z tT χ=>(aF m (Ns.bP Au fun o e=>z.bP Co o (fun m=>Cn (Yp _ m)) Py e) (fun h' eK=>?_)));refine YA (YA ?_);have Fb:=tT.DB (s':={ fc with heap:=h' }) (gY h' _ rfl (YE _)) (fun b o hb e=>eK.extBut b o (fun q=>hb (rv q Yu)) e)
   (fun b hb=>rv (Yq.mp hb) ⟨Py,fun m=>Cn (Yp _ m)⟩) (fun b hb m=>Cn (Yn _ (rv (Yq.mp hb).symm m))) F.qA F.jH
  revert g;refine gf fun aP ug e_1 x_ mO=>?_;subst e_1;have l₂:=z.tk;refine jE (fun cW BS e_2=>?_) z.same;subst e_2;refine kk .next μ σ _ ⟨(uK h' BS rfl),(aF [] (by simp) (by simp)),fun b o hb hw hL e=>?_,fun b o hb hw e=>?_,Fb.hp,Ys mO l₂⟩ ⟨.next,_,hk,Fb,.next⟩
  ·refine eK.extBut b o (fun q=>by rw [q,hC] at e;exact iZ e) (z.keep b o hb hw (fun hl m=>?_) (x_ b o e));rcases Yr.mp m with m | m
   ·rw [Yq.mp m,hC] at e;exact iZ e
   ·exact hL hl m
  ·refine az (fun o' e' zz=>?_) (z.bP b o hb hw (x_ b o e));exact aF o' (eK.extBut b o' (fun q=>by rw [q,hC] at e;exact iZ e) e') zz
noncomputable def yG (Ω:U)(l:Lv)(N:ay)(ρ:aO)(σ:Sg)(es:List PySem.Expr)(k:List D→Sg→Prop):Prop:=
 ∀ (A:Around) (B μ:List Addr) (env:Env) (s:Shared) (pos:Pos),oK l A B env→Fs Ω B μ env N ρ σ s→Ru Ω A [] B μ (spliced (backTo pos (starEach es env))) s (tS au k B)
theorem bd.bt {L aW bh:List Addr}{aq aM:Sg}{s₁ ag:Shared}(x:bd Ω.prog Ω.w L [] B μ s aW aq s₁)(y:bd Ω.prog Ω.w L [] B aW s₁ bh aM ag):bd Ω.prog Ω.w L [] B μ s bh aM ag:=x.trans y fun χ m=>nomatch m
theorem W_.c5 {L aD:List Addr}{σ':Sg}{s':Shared}(x:bd Ω.prog Ω.w L [] B μ s aD σ' s'){d:D}{v:Value}(r:W_ (Xa μ (μ++B)) s.heap d v):W_ (Xa aD (aD++B)) s'.heap d v:=by
 obtain ⟨_,⟨ν,rfl,fC⟩,k,_⟩:=x;exact r.turned (fun b o hb hB e=>k b o hb (fun m=>nomatch m) (fun χ=>hB) e) fC
theorem au.c5 {L aD:List Addr}{σ':Sg}{s':Shared}(x:bd Ω.prog Ω.w L [] B μ s aD σ' s'){d:List D}{v:List Value}(r:au (Xa μ (μ++B)) s.heap d v):au (Xa aD (aD++B)) s'.heap d v:=by
 obtain ⟨_,⟨ν,rfl,fC⟩,k,_⟩:=x;exact r.turned (fun b o hb hB e=>k b o hb (fun m=>nomatch m) (fun χ=>hB) e) fC
theorem aB {k:List D→Sg→Prop}(h:k [] σ):yG Ω l N ρ σ [] k:=fun A B μ env s pos R F Q E kk=>wpAny_items_nil (kk _ _ _ _ (.refl F.hp) ⟨[],h,.nil⟩)
theorem aw {e:PySem.Expr}{es:List PySem.Expr}{k:List D→Sg→Prop}(hn:Xc (e::es)=true)(h:EF Ω l N ρ σ e fun d σ'=>yG Ω l N ρ σ' es fun ds aY=>k (d::ds) aY):yG Ω l N ρ σ (e::es) k:=fun A B μ env s pos R F Q E kk=>by
 obtain ⟨h1,h2⟩:=cn (env:=env) hn;refine wpAny_items_cons ((h A B μ env s R F).go fun v aW aq s₁ gm d hd r=>?_) h2;refine (hd A B aW env s₁ pos R (F.c5 gm)).go fun vs bh aM ag pF ds uX rs=>?_;exact kk _ _ _ _ (gm.bt pF) ⟨d::ds,uX,.cons _ _ _ _ (r.c5 pF) rs⟩
theorem rK {es:List PySem.Expr}{n:Nat}{pos:Pos}{k:D→Sg→Prop}(h:yG Ω l N ρ σ es fun ds σ'=>ds.length≤sizeLine∧k (.tup ds) σ'):EF Ω l N ρ σ (.Tuple es n pos) k:=fun A B μ env s R F Q E kk=>
 wpAny_Tuple ((h A B μ env s pos R F).go fun vs aW aq s₁ x ds hq r=>by
  obtain ⟨hz,hk⟩:=hq;have g:aH s₁ { s₁ with heap:=s₁.heap.push { cls:=.type "tuple",data:=.seq vs.toArray } }:=.heap (.push _ _);exact ⟨rv r.length hz,kk _ _ _ _ (x.bt (.aG (F.c5 x).hp g)) ⟨_,hk,.tup ds _ vs 0 (F.c5 x).lets.size (Yw _ rfl) (r.ext (.push _ _))⟩⟩)
noncomputable def i5:List PySem.Expr→Option (List Str)
 | []=>some []
 | e::es=>(XB e).bind fun x=>(i5 es).map (x::·)
noncomputable def yX (N:ay)(ts vs:List PySem.Expr):Option (Option (List Str)):=
 if (!(ts.length==2||ts.length==3)||vs.length != ts.length||ScopeKind.function != .function)=true then some none else
 if vs.any (fun | .Starred ..=>true | _=>false)=true then some none else
 let line:=(ts.head?.map (fun x=>x.pos.line)).getD 0;let names:=ts.filterMap fun
  | .Name id pos=>if (lk id N==some .local&&pos.line==line)=true then some id else none
  | _=>none
 if (names.length != ts.length||names.eraseDups.length != names.length)=true then some none else
 if vs.all (foldedForSure 8)=true then some none else
 if vs.all (constantsAlone 8)=true then none else some (some names)
theorem H8 {α β:Type}{b1 b2 b3 b4 b5:Bool}{x:α}{u:β}{f:Option α→β}{r:Option α}(h:(if b1=true then some none else if b2=true then some none else if b3=true then some none else if b4=true then some none else if b5=true then none else some (some x))=some r):(if b1=true then f none else if b2=true then f none else if b3=true then f none else if b4=true then f none else if b5=true then u else f (some x))=f r:=by
 cases b1 with
 | true=>cases h;rfl
 | false=>cases b2 with
  | true=>cases h;rfl
  | false=>cases b3 with
   | true=>cases h;rfl
   | false=>cases b4 with
    | true=>cases h;rfl
    | false=>cases b5<;>cases h;rfl
theorem l_ (F:Fs Ω B μ env N ρ σ s){ts vs:List PySem.Expr}{n m:Nat}{p q:Pos}{r:Option (List Str)}(h:yX N ts vs=some r):swappedStores [.Tuple ts n p] (.Tuple vs m q) env=pure r:=by
 have e:env.kindOf=fun x=>lk x N:=funext F.kindOf;have hb:env.blockKind=.function:=by delta Env.blockKind;refine rv F.kind ?_;rfl
 delta swappedStores
 refine rv e (rv hb ?_);exact H8 (f:=pure) h
theorem fA:∀ {ts:List PySem.Expr} {xs:List Str},i5 ts=some xs→∃ ps:List (Str×(Value→Sem Unit)),ps.map (fun x=>x.1)=xs∧(assignEach ts env).map (fun x=>x.2)=ps.map (fun x=>x.2)∧(assignEach ts env).findIdx? (fun x=>x.1)=none∧(assignEach ts env).length=xs.length∧
  ∀ p∈ps,∀ v s (Q:Unit→Shared→Prop) (E:Value→Shared→Prop),wpAny Ω.M A (storeName env p.1 v) Q E s→wpAny Ω.M A (p.2 v) Q E s:=by
 intro ts
 induction ts with
 | nil=>
  intro xs h;cases h;exact Kp [] rfl rfl rfl rfl (fun p hp=>nomatch hp)
 | cons t ts ih=>
  intro xs h;refine az (fun x hx h=>?_) (Option.bind_eq_some_iff.mp h);refine az (fun ys q e_3=>?_) (YI.mp h);subst e_3;obtain ⟨px,rfl⟩:=gA hx;refine GY (fun ps h1 h2 h3 h4 h5=>?_) (ih q);have e:assignEach (.Name x px::ts) env=(false,assign (.Name x px) env)::assignEach ts env:=rfl;refine Kp ((x,assign (.Name x px) env)::ps) (by simp [h1]) (by refine rv e ?_;simp [h2]) ?_ (by refine rv e ?_;simp [h4]) (fun p hp v s Q E hh=>?_)
  ·refine rv e (rv (List.findIdx?_cons) ?_);simp [h3]
  ·rcases YC.mp hp with rfl | hp
   ·exact assign_Name hh
   ·exact h5 p hp v s Q E hh
inductive JN (n:Nat)(k:List D→Sg→Prop)(d:D)(σ:Sg):Prop where
 | mk (ds:List D)(e:d=.tup ds)(hl:ds.length=n)(hk:k ds σ)
theorem iX {ts vs:List PySem.Expr}{n m:Nat}{p q pos:Pos}{xs:List Str}{k:Fl→aO→Sg→Prop}(hc:l.calm=true)(ht:i5 ts=some xs)(hN:xs.all (bS N)=true)(r:Option (List Str))(hr:yX N ts vs=some r)(HA:r=none∨r=some xs)
  (h:EF Ω l N ρ σ (.Tuple vs m q) (JN xs.length fun ds σ'=>k .next (if r=none then nK xs ds ρ else nK xs.reverse ds.reverse ρ) σ')):ES Ω l N ρ σ (.Assign [.Tuple ts n p] (.Tuple vs m q) pos) k:=fun A B μ env s R F Q E kk=>by
 have hA:=R.calm hc;have ev:∀ (Q':Value→Shared→Prop),(∀ v aD σ' s',bd Ω.prog Ω.w (Xb A) [] B μ s aD σ' s'→tS W_ (JN xs.length fun ds σ'=>k .next (if r=none then nK xs ds ρ else nK xs.reverse ds.reverse ρ) σ') B v aD σ' s'→Q' v s')→wpAny Ω.M A (eval (.Tuple vs m q) env) Q' E s:=fun Q' h'=>(h A B μ env s R F) Q' E h';rcases HA with rfl | rfl
 ·refine Assign_Tuple (ev _ fun v aW aq s₁ x hh=>?_) rfl (l_ F hr);obtain ⟨d,⟨ds,rfl,hl,hk⟩,r⟩:=hh;simp only [if_true] at hk;refine fD (fun t us i e_4 pa o rs=>?_) (oM r);subst e_4;refine GY (fun ps h1 h2 h3 h4 h5=>?_) (fA (env:=env) (A:=A) (Ω:=Ω) ht);refine wpAny_assign_Tuple hA (eQ _ o rfl ⟨i,rfl⟩) (by refine rv h4 (rv hl.symm (rv rs.length.symm ?_));simp) h3 fun h' hx=>?_;have g:aH s₁ { s₁ with heap:=h' }:=.heap fun b o e=>hx b o (YO (Heap.lt_size e)) e;have av:=F.c5 x;refine rv h2 ?_;refine rD ps ds us ρ _ _ (fun p hp v s Q hh=>h5 p hp v s Q E hh) (av.grown g) (rv h1 hN) (by refine rv hl (rv h1.symm ?_);simp) (rs.ext g.ext) fun s' z F'=>?_;rw [h1] at F';exact kk .next aW aq s' (bd.then F x.wide (bd.then av (.aG av.hp g) z)) ⟨.next,_,hk,F',.next⟩
 ·refine Assign_Tuple_swapped (ev _ fun v aW aq s₁ x hh=>?_) rfl (l_ F hr);obtain ⟨d,⟨ds,rfl,hl,hk⟩,r⟩:=hh;simp only [reduceCtorEq,if_false] at hk;refine fD (fun t us i e_5 pa o rs=>?_) (oM r);subst e_5;have hz:xs.length=us.toArray.size:=by refine rv hl.symm (rv rs.length.symm ?_);simp
  refine rv hz ?_;refine unpackItems_tuple hA (eQ _ o rfl ⟨i,rfl⟩) fun h' hx=>?_;have g:aH s₁ { s₁ with heap:=h' }:=.heap fun b o e=>hx b o (YO (Heap.lt_size e)) e;have av:=F.c5 x;have hm:xs.reverse.map (fun n=>bindName env n)=(xs.reverse.map fun n=>(n,bindName env n)).map (fun x=>x.2):=by simp
  refine rv hm ?_;have rr:au (Xa aW (aW++B)) h' ds.reverse us.toArray.toList.reverse:=by
   have:∀ {ds:List D} {us:List Value},au (Xa aW (aW++B)) h' ds us→au (Xa aW (aW++B)) h' ds.reverse us.reverse:=by
    intro ds us r
    induction ds generalizing us with
    | nil=>cases r;exact .nil
    | cons d ds ih=>
     cases r with
     | cons _ v _ vs x r=>
      simp only [List.reverse_cons];exact (ih r).snoc x
   exact this (rs.ext g.ext)
  refine rD _ ds.reverse _ ρ _ _ (fun p hp v s Q hh=>?_) (av.grown g) ?_ (by simp [hl]) rr fun s' z F'=>?_
  ·refine az (fun n χ e_6=>?_) (Yt.mp hp);subst e_6;exact wpAny_bindName hh
  ·refine rv List.map_map ?_;simpa using hN
  ·have:((xs.reverse.map fun n=>(n,bindName env n)).map (fun x=>x.1))=xs.reverse:=rv List.map_map (List.map_id _);rw [this] at F';exact kk .next aW aq s' (bd.then F x.wide (bd.then av (.aG av.hp g) z)) ⟨.next,_,hk,F',.next⟩
inductive c_ (P:Pl)(h:Heap):aO→List (Str×Value)→Prop where
 | nil:c_ P h [] []
 | cons (x:Str)(d:D)(v:Value)(ρ:aO)(bs:List (Str×Value))(r:W_ P h d v)(rs:c_ P h ρ bs):c_ P h ((x,d)::ρ) ((x,v)::bs)
theorem c_.names {P:Pl}{h:Heap}{ρ bs}(b:c_ P h ρ bs):bs.map (fun x=>x.1)=ρ.map (fun x=>x.1):=
 c_.rec (motive:=fun ρ bs χ=>bs.map (fun x=>x.1)=ρ.map (fun x=>x.1)) rfl (fun y d v ρ bs r χ i=>congrArg (List.cons y) i) b
theorem c_.at {P:Pl}{h:Heap}{x:Str}{d:D}{ρ bs}(b:c_ P h ρ bs):ρ.lookup x=some d→∃ v,bs.lookup x=some v∧W_ P h d v:=by
 induction b with
 | nil=>exact fun e=>iZ e
 | cons y d' v ρ bs r rs i=>
  rw [YS,YS];cases x==y with
  | true=>exact fun e=>aF v rfl (rv (Yx e).symm r)
  | false=>exact i
noncomputable def Xe (Ω:U)(fd:FuncData)(ds:List D)(kw:List (Str×D))(ρ:aO):Prop:=
 ∀ (A:Around) (P:Pl) (s:Shared) (vs aV:List Value),Ω.C.fB s.heap→Xk P s.heap→au P s.heap ds vs→au P s.heap (kw.map (fun x=>x.2)) aV→a5 Ω.M A (bindArgs fd ⟨vs,(kw.map (fun x=>x.1)).zip aV⟩) s fun bs s'=>c_ P s'.heap ρ bs
structure b7 (Ω:U)(a:Addr)(fd:FuncData)(body:List Stmt)(N:ay):Prop where
 base:∃ o,Ω.C.base a o∧o.data=.func fd
 body:fd.body=.stmts body
 names:fd.scope.names=N
 kind:fd.scope.kind=.function
 co:fd.scope.isCoroutine=false
 gen:fd.scope.isGenerator=false
 globals:fd.globals=mainGlobals
 builtins:fd.builtins=builtinsNs
 closure:fd.closure=[]
 code:∀ h,Ω.C.fB h→h.CodeRec fd.code fd.qualname
 dist:(N.map (fun x=>x.1)).Nodup
noncomputable def sq (N:ay)(ρ:aO):Bool:=ρ.all (fun p=>bS N p.1)&&(ρ.map (fun x=>x.1)).Nodup
noncomputable def CE (Ω:U)(l:Lv)(a:Addr)(ds:List D)(kw:List (Str×D))(σ:Sg)(k:D→Sg→Prop):Prop:=
 ∀ (A:Around) (B μ:List Addr) (s:Shared) (vs aV:List Value),RmS l A B→Ω.St s→(∀ b o,Ω.C.base b o→b∉μ++B)→Hp Ω.prog Ω.w μ B σ s.heap→au (Xa μ (μ++B)) s.heap ds vs→au (Xa μ (μ++B)) s.heap (kw.map (fun x=>x.2)) aV→
  MW Ω A B μ (call (.ref a) vs ((kw.map (fun x=>x.1)).zip aV)) s k
noncomputable def vD (Ω:U)(l:Lv)(a:Addr)(ds:List D)(kw:List (Str×D))(σ:Sg)(k:D→Sg→Prop):Prop:=
 ∀ (A:Around) (B μ:List Addr) (s:Shared) (vs aV:List Value),RmS l A B→Ω.St s→(∀ b o,Ω.C.base b o→b∉μ++B)→Hp Ω.prog Ω.w μ B σ s.heap→au (Xa μ (μ++B)) s.heap ds vs→au (Xa μ (μ++B)) s.heap (kw.map (fun x=>x.2)) aV→
  ∀ R:Result→Shared→Prop,(∀ v aD σ' s',bd Ω.prog Ω.w (Xb A) [] B μ s aD σ' s'→tS W_ k B v aD σ' s'→R (.ok (.ret v)) s')→codeAny Ω.M A (.call (.ref a) ⟨vs,(kw.map (fun x=>x.1)).zip aV⟩) R s
theorem tE {kindOf:Str→Option NameKind}{x:Str}{v:Value}(hk:kindOf x=some .local):∀ (bs:List (Str×Value)) (m:Str→Option Value),(bs.map (fun x=>x.1)).Nodup→bs.lookup x=some v→bindL kindOf bs m x=some v
 | [],m,_,e=>nomatch e
 | (y,u)::bs,m,hn,e=>by
  unfold bindL;rw [YS] at e;rw [List.map_cons,Y0] at hn;have keep:∀ (bs:List (Str×Value)) (m:Str→Option Value),x∉bs.map (fun x=>x.1)→bindL kindOf bs m x=m x:=by
   intro bs
   induction bs with
   | nil=>intro m _;rfl
   | cons b bs ih=>
    intro m hx;obtain ⟨z,w⟩:=b;rw [List.map_cons,YC,not_or] at hx;unfold bindL;refine rv (ih _ hx.2) ?_;split
    ·simp [hx.1]
    ·rfl
  cases q:x==y with
  | true=>
   rw [q] at e;obtain rfl:=Yx e;have:=YK.mp q;subst this;refine rv (keep bs _ hn.1) ?_;simp [hk]
  | false=>rw [q] at e;exact tE hk bs _ hn.2 e
theorem tF {kindOf:Str→Option NameKind}{x:Str}{v:Value}(hk:kindOf x≠some .local):∀ (bs:List (Str×Value)) (m:Str→Option Value),(bs.map (fun x=>x.1)).Nodup→bs.lookup x=some v→bindC kindOf bs m x=some v
 | [],m,_,e=>nomatch e
 | (y,u)::bs,m,hn,e=>by
  unfold bindC;rw [YS] at e;rw [List.map_cons,Y0] at hn;have keep:∀ (bs:List (Str×Value)) (m:Str→Option Value),x∉bs.map (fun x=>x.1)→bindC kindOf bs m x=m x:=by
   intro bs
   induction bs with
   | nil=>intro m _;rfl
   | cons b bs ih=>
    intro m hx;obtain ⟨z,w⟩:=b;rw [List.map_cons,YC,not_or] at hx;unfold bindC;refine rv (ih _ hx.2) ?_;split
    ·rfl
    ·simp [hx.1]
  cases q:x==y with
  | true=>
   rw [q] at e;obtain rfl:=Yx e;have:=YK.mp q;subst this;refine rv (keep bs _ hn.1) ?_;simp [hk]
  | false=>rw [q] at e;exact tF hk bs _ hn.2 e
theorem fj {x:Str}:∀ (names:ay) (n:Nat) (acc:List (Str×Addr)),(names.lookup x=some .cell∨∃ c,acc.lookup x=some c)→∃ c,(cellsFrom n names acc).lookup x=some c:=by
 intro names
 induction names with
 | nil=>
  intro n acc h;rcases h with h | h
  ·cases h
  ·exact h
 | cons pr r ih=>
  obtain ⟨y,kd⟩:=pr;intro n acc h;unfold cellsFrom;have up:(∃ c,acc.lookup x=some c)→∃ c,((y,n)::acc).lookup x=some c:=fun q=>q.elim fun c e=>by
   refine rv YS ?_;cases x==y
   ·exact ⟨c,e⟩
   ·exact ⟨n,rfl⟩
  split
  ·rename_i q;rcases h with h | h
   ·rw [YS] at h;cases q':x==y with
    | true=>exact ih _ _ (.inr ⟨n,rv YS (rv q' rfl)⟩)
    | false=>rw [q'] at h;exact ih _ _ (.inl h)
   ·exact ih _ _ (.inr (up h))
  ·rename_i q;rcases h with h | h
   ·rw [YS] at h;cases q':x==y with
    | true=>rw [q'] at h;obtain rfl:=Yx h;exact absurd rfl q
    | false=>rw [q'] at h;exact ih _ _ (.inl h)
   ·exact ih _ _ (.inr h)
theorem lG (names:ay):∀ (n:Nat) (acc:List (Str×Addr)),(names.map (fun x=>x.1)).Nodup→(acc.map (fun x=>x.1)).Nodup→(∀ x∈names.map (fun x=>x.1),x∉acc.map (fun x=>x.1))→((cellsFrom n names acc).map (fun x=>x.1)).Nodup:=by
 induction names with
 | nil=>exact fun χ χ χ h χ=>h
 | cons p r i=>
  intro n acc h h' hd;rw [List.map_cons,Y0] at h;unfold cellsFrom;split
  ·refine i _ _ h.2 ?_ fun x hx=>?_
   ·exact rv List.map_cons (rv (propext (Y0)) ⟨hd p.1 Yu,h'⟩)
   ·refine rv List.map_cons (rv (propext (YC)) (rv (propext (not_or)) ?_));exact ⟨fun e=>h.1 (e▸hx),hd x (Yv _ hx)⟩
  ·exact i _ _ h.2 h' fun x hx=>hd x (Yv _ hx)
theorem ot {α:Type}{l:List (Str×α)}{x:Str}{c:α}:(l.map (fun x=>x.1)).Nodup→(x,c)∈l→l.lookup x=some c:=by
 induction l with
 | nil=>exact fun χ h=>absurd h List.not_mem_nil
 | cons p l i=>
  intro hn h;rw [List.map_cons,Y0] at hn;refine rv YS ?_;rcases YC.mp h with e | h
  ·exact rv e.symm (rv (beq_self_eq_true _) rfl)
  ·have:(x==p.1)=false:=beq_eq_false_iff_ne.mpr fun e=>hn.1 (e▸Yt.mpr (aF _ h rfl));exact rv this (i hn.2 h)
theorem CE.mono {a:Addr}{ds:List D}{kw:List (Str×D)}{k k':D→Sg→Prop}(h:CE Ω l a ds kw σ k)(hk:∀ d σ',k d σ'→k' d σ'):CE Ω l a ds kw σ k':=fun A B μ s vs aV a b c d e f Q E h'=>(h A B μ s vs aV a b c d e f) Q E fun v aD σ' s' x z=>z.casesOn fun d q r=>h' v aD σ' s' x ⟨d,hk d σ' q,r⟩
theorem c_.more {μ M M':List Addr}{h:Heap}(q:∀ a,a∉M→(∃ o,h.get? a=some o)→a∉M'){ρ bs}(b:c_ (Xa μ M) h ρ bs):c_ (Xa μ M') h ρ bs:=
 c_.rec (motive:=fun ρ bs χ=>c_ (Xa μ M') h ρ bs) .nil (fun x d v ρ bs r χ i=>.cons x d v ρ bs (r.cH q) i) b
theorem c_.ext {P:Pl}{h h':Heap}(q:Xi h h'):∀ {ρ bs},c_ P h ρ bs→c_ P h' ρ bs
 | _,_,.nil=>.nil
 | _,_,.cons x d v ρ bs r rs=>.cons x d v ρ bs (r.ext q) (rs.ext q)
theorem je {e:Env}{b:Addr}(m:b∈Xb (A.deeper e)):b=e.locals∨b∈Xb A:=by
 unfold Xb at m ⊢;have q:(A.deeper e).frames=A.frames.map (e::·):=rfl;rw [q] at m;cases h:A.frames with
 | none=>rw [h] at m;cases m
 | some fs=>
  rw [h] at m;rcases YC.mp m with m | m
  ·exact .inl m
  ·exact .inr m
noncomputable abbrev Ce (k:D→Sg→Prop):Fl→aO→Sg→Prop:=fun fl χ σ'=>match fl with | .ret d=>k d σ' | .next=>k .none σ' | _=>False
theorem td {n:Nat}{c:Md}{a:Addr}{fd:FuncData}{body:List Stmt}{ds:List D}{kw:List (Str×D)}{vs aV:List Value}{QR:Result→Shared→Prop}(ok:b7 Ω a fd body N)(hb:Xe Ω fd ds kw ρ)(hp:sq N ρ=true)
  (R:RmS ⟨n+1,c⟩ A B) (oO:Ω.St s) (cl:∀ b o,Ω.C.base b o→b∉μ++B) (H:Hp Ω.prog Ω.w μ B σ s.heap) (rs:au (Xa μ (μ++B)) s.heap ds vs) (rk:au (Xa μ (μ++B)) s.heap (kw.map (fun x=>x.2)) aV)
  (k:∀ env ag,aH s ag→(∀ b∈own env,s.heap.get? b=none)→Fs Ω (own env++B) μ env N ρ σ ag→oK ⟨n,c⟩ (A.deeper env) (own env++B) env→codeAny Ω.M A (.func body env) QR ag):codeAny Ω.M A (.call (.ref a) ⟨vs,(kw.map (fun x=>x.1)).zip aV⟩) QR s:=by
 have st:=oO.stays;refine az (fun o ho Jt=>?_) ok.base;simp only [sq,YR,decide_eq_true_eq,List.all_eq_true] at hp;obtain ⟨Mk,VI⟩:=hp;have L:Xk (Xa μ (μ++B)) s.heap:=fun x e m=>by obtain ⟨o,q⟩:=H.held x m;exact cc e q
 have Ms:A.depth<recursionLimit:=by have:=R.depth;simp only at this;exact R0 this
 refine codeAny_call_function Ms (st _ _ ho) Jt ok.co ok.gen ok.body (ok.code _ st) ((hb A.in1 _ s vs aV st L rs rk).use fun bs s₁ ai Mx=>?_);refine rv ok.closure ?_;have names:∀ x∈bs,bS N x.1=true:=fun x hx=>by
  have hm:x.1∈ρ.map (fun x=>x.1):=rv Mx.names.symm (Yt.mpr (aF x hx rfl));refine az (fun p hp e=>?_) (Yt.mp hm);exact rv e.symm (Mk p hp)
 refine d9 (wpAny_newFunctionEnv_cells ok.kind (fun x hx=>?_) fun env x5 ag X l₂=>⟨?_,?_⟩)
 ·rcases cg (names x hx) with h | h
  ·exact .inl (rv ok.names (rv (be _ _).symm h))
  ·refine .inr ⟨rv ok.names (rv (be _ _).symm h),?_⟩;obtain ⟨c,e⟩:=fj (x:=x.1) fd.scope.names (s₁.heap.objs.size+1) [] (.inl (rv ok.names (rv (be _ _).symm h)));refine rv e ?_;rfl
 ·refine cS (fun hh tt e_1 e=>?_) X.done;subst e_1;exact (Ω.lim _ fun a o q=>e _ _ (ai.ext _ _ (st a o q)))
 ·have hL:env.locals=s₁.heap.objs.size:=by refine rv x5 ?_;rfl
  have Hz:env.scope=fd.scope:=by refine rv x5 ?_;rfl
  have HF:env.cells=cellsFrom (s₁.heap.objs.size+1) fd.scope.names []:=by refine rv x5 ?_;rfl
  have VW:env.globals=mainGlobals:=by refine rv x5 (rv ok.globals.symm ?_);rfl
  have Wa:env.builtins=builtinsNs:=by refine rv x5 (rv ok.builtins.symm ?_);rfl
  have uW:env.frame=some env.locals:=by refine rv x5 ?_;rfl
  have ar:aH s₁ ag:=by refine cS (fun hh tt e_2 e=>?_) X.done;subst e_2;exact lA hh tt rfl e l₂
  have G:=ai.trans ar;have above:∀ b∈own env,s₁.heap.objs.size≤b:=fun b m=>by
   rcases YC.mp m with rfl | m
   ·exact rv hL (YE _)
   ·refine az (fun p hp e_3=>?_) (Yt.mp m);subst e_3;have:=X.above p.1 p.2 hp;rw [hL] at this;exact Nat.le_of_lt this
  have gK:∀ b∈own env,s₁.heap.get? b=none:=fun b m=>by
   exact gE (above b m)
  have fresh:∀ b∈own env,s.heap.get? b=none:=fun b m=>by
   exact Xi.gone ai.ext (gK b m)
  have out:∀ b o,s.heap.get? b=some o→b∉own env:=fun b o e m=>cc (fresh b m) e;have live:∀ b∈own env,∃ o,ag.heap.get? b=some o:=fun b m=>by
   rcases YC.mp m with rfl | m
   ·refine GX (fun o χ χ e χ=>?_) X.toInCall.ns;exact ⟨o,e⟩
   ·refine az (fun p hp e_4=>?_) (Yt.mp m);subst e_4;have hl:env.cells.lookup p.1=some p.2:=ot (rv HF (lG _ _ _ (by refine rv ok.names ?_;exact ok.dist) List.nodup_nil fun χ χ h=>nomatch h)) hp;refine az (fun o e χ=>?_) (X.cell p.1 p.2 hl);exact ⟨o,e⟩
  have IY:∀ a,a∉μ++B→(∃ o,s.heap.get? a=some o)→a∉μ++(own env++B):=fun a ha z=>z.elim fun o e=>fE ha (out a o e);have EH:c_ (Xa μ (μ++(own env++B))) ag.heap ρ bs:=by
   refine (Mx.more fun a ha z=>z.elim fun o e=>fE ha fun m=>?_).ext ar.ext;exact cc (gK a m) e
  have nd:(bs.map (fun x=>x.1)).Nodup:=rv Mx.names VI;have F:Fs Ω (own env++B) μ env N ρ σ ag:=by
   refine ⟨⟨fun b o e=>G.ext b o (st b o e),fun b o e=>IY b (cl b o e) ⟨o,st b o e⟩,fun x d e=>?_,rv Hz ok.kind,VW,Wa,rv Hz ok.names,?_,?_,?_,Ys oO.tk G.toks⟩,⟨_,X.toInCall.ns⟩,fun x c e=>⟨_,X.cell x c e⟩,X.apart,fun p hp=>?_,?_,fun p hp=>?_,fun x e=>?_,uW⟩
   ·refine az (fun v hv r=>?_) (EH.at e);have hx:bS N x=true:=names (x,v) (mem_of_lookup hv);have hk:env.kindOf x=lk x N:=by unfold Env.kindOf;exact rv Hz (rv ok.names (rv (be _ _) rfl))
    rcases cg hx with h | h
    ·exact .loc (hk.trans h) _ v X.toInCall.ns (tE (hk.trans h) bs _ nd hv) r
    ·obtain ⟨c,hc⟩:=fj (x:=x) fd.scope.names (s₁.heap.objs.size+1) [] (.inl (rv ok.names (rv (be _ _).symm h)));rw [← HF] at hc;have:=X.cell x c hc;rw [tF (by exact rv hk (rv h (fun e=>nomatch e))) bs _ nd hv] at this;exact .cell (.inl (hk.trans h)) c v hc this r
   ·refine H.keeps (fun b o χ e=>G.ext b o e) (fun b o m e=>?_) fun b m=>?_
    ·rcases Yr.mp m with m | m
     ·exact absurd m (out b o e)
     ·exact m
    ·rcases Yr.mp m with m | m
     ·exact live b m
     ·obtain ⟨o,e⟩:=H.held b (Yn _ m);exact ⟨o,G.ext b o e⟩
   ·intro m;obtain ⟨o,e⟩:=H.held _ (Yp _ m);exact out _ o e Yu
   ·intro x c hc m;obtain ⟨o,e⟩:=H.held _ (Yp _ m);exact out _ o e (Yv _ (Yt.mpr (aF _ (mem_of_lookup hc) rfl)))
   ·exact Nat.ne_of_gt (X.above p.1 p.2 hp)
   ·exact Yp _ Yu
   ·exact Yp _ (Yv _ (Yt.mpr (aF p hp rfl)))
   ·refine rv HF ?_;exact fj _ _ _ (.inl (rv ok.names e))
  have RR:oK ⟨n,c⟩ (A.deeper env) (own env++B) env:=⟨⟨⟨by have:=R.depth;show A.depth+1+2*n<_;simp only at this;exact NC this,by have:=R.units;show A.units+3+20*n+20<_;simp only at this;exact R6 this,R.calm⟩,fun b m=>by
    rcases je m with m | m
    ·exact rv m (Yp _ Yu)
    ·exact Yn _ (R.out b m),fun q=>by
    refine az (fun fs e EB=>?_) (R.fr q);refine aF (env::fs) (by show A.frames.map _=_;refine rv e ?_;rfl) (fun e' m=>?_);rcases YC.mp m with rfl | m
    ·exact ⟨rv Hz ok.kind,uW⟩
    ·exact EB e' m⟩,fun q=>by
    refine az (fun fs e EB=>?_) (R.fr q);exact ⟨fs,by show A.frames.map _=_;refine rv e ?_;rfl⟩⟩
  exact k env ag G fresh F RR
theorem bd.leave {ag aE:Shared}{aD:List Addr}{σ':Sg}(G:aH s ag)(fresh:∀ b∈own env,s.heap.get? b=none)(x:bd Ω.prog Ω.w (Xb (A.deeper env)) (own env) (own env++B) μ ag aD σ' aE):bd Ω.prog Ω.w (Xb A) [] B μ s aD σ' aE:=by
 have out:∀ b o,s.heap.get? b=some o→b∉own env:=fun b o e m=>cc (fresh b m) e;have g:=G;revert g;refine gf fun aP ug e_5 χ χ=>?_;subst e_5;refine jE (fun dW BR e_7=>?_) x.same;subst e_7;refine az (fun ν e_8 fC=>?_) x.new;subst e_8;refine ⟨(uK dW BR rfl),(aF ν rfl (fun b hb=>Xi.gone G.ext (fC b hb))),fun b o hb χ hL e=>x.keep b o hb (out b o e) (fun m m'=>by
  rcases Yr.mp m' with m' | m'
  ·exact out b o e m'
  ·rcases je m with m | m
   ·exact out b o e (rv m Yu)
   ·exact hL m m') (G.ext b o e),fun b o hb χ e=>x.bP b o hb (out b o e) (G.ext b o e),?_,Ys G.toks x.tk⟩
 exact x.hp.keeps (fun χ χ χ e=>e) (fun b o m χ=>Yn _ m) fun b m=>x.hp.held b (Yn _ (Yn _ m))
theorem ge.back {aD:List Addr}{h:Heap}{fl:Fl}{f:Flow}{k:D→Sg→Prop}{ρ':aO}{σ':Sg}{G:Prop}(hk:Ce k fl ρ' σ')
  (g:∀ d v,k d σ'→W_ (Xa aD (aD++B)) h d v→(match f with | .ret v=>v | _=>.none)=v→G) (hr:ge (Xa aD (aD++(own env++B))) h fl f):G:=by
 cases hr with
 | next=>exact g .none .none hk .none rfl
 | brk=>exact hk.elim
 | cont=>exact hk.elim
 | ret d v r=>exact g d v hk (r.cH fun a ha χ m=>(Yr.mp m).elim (fun m=>ha (Yp _ m)) fun m=>ha (Yn _ (Yn _ m))) rfl
theorem iY {n:Nat}{c:Md}{a:Addr}{fd:FuncData}{body:List Stmt}{ds:List D}{kw:List (Str×D)}{k:D→Sg→Prop}(ok:b7 Ω a fd body N)(hb:Xe Ω fd ds kw ρ)(hp:sq N ρ=true)
  (h:EX Ω ⟨n,c⟩ N ρ σ body (Ce k)):vD Ω ⟨n+1,c⟩ a ds kw σ k:=fun A B μ s vs aV R oO cl H rs rk QR kk=>
 td ok hb hp R oO cl H rs rk fun env ag G fresh F RR=>codeAny_func ((h _ _ _ env ag RR F).yF fun f aD σ' aE x fl ρ' hk F' hr=>
  ge.back (f:=f) hk (fun d v hd rv e=>Eq.mpr (congrArg (fun v=>QR (.ok (.ret v)) aE) e) (kk v aD σ' aE (x.leave G fresh) ⟨d,hd,rv⟩)) hr)
theorem vD.ce {a:Addr}{ds:List D}{kw:List (Str×D)}{k:D→Sg→Prop}{l:Lv}(h:vD Ω l a ds kw σ k):CE Ω l a ds kw σ k:=fun A B μ s vs aV R st cl H rs rk Q E kk=>wpAny_call (h A B μ s vs aV R st cl H rs rk _ kk)
theorem b8 {n:Nat}{c:Md}{a:Addr}{fd:FuncData}{body:List Stmt}{ds:List D}{kw:List (Str×D)}{k:D→Sg→Prop}(ok:b7 Ω a fd body N)(hb:Xe Ω fd ds kw ρ)(hp:sq N ρ=true)
  (h:EX Ω ⟨n,c⟩ N ρ σ body (Ce k)):CE Ω ⟨n+1,c⟩ a ds kw σ k:=(iY ok hb hp h).ce
mutual
noncomputable def eu:D→Bool
 | .loc _=>false
 | .jK d _=>eu d
 | .list xs=>cQ xs
 | .tup xs=>cQ xs
 | .inst _ xs=>cQ xs
 | _=>true
noncomputable def cQ:List D→Bool
 | []=>true
 | d::ds=>eu d&&cQ ds
end
theorem W_.eu {P P':Pl}{h:Heap}(k:∀ a o,P.ok a→h.get? a=some o→P'.ok a){d v}(x:W_ P h d v):Internal.eu d=true→W_ P' h d v:=
 W_.rec (motive_1:=fun d v χ=>Internal.eu d=true→W_ P' h d v) (motive_2:=fun ds vs χ=>cQ ds=true→au P' h ds vs)
  (fun χ=>.none) (fun b χ=>.bool b) (fun i t χ=>.int i t) (fun s t χ=>.str s t) (fun b t χ=>.bytes b t)
  (fun xs a vs n p o χ ih e=>.list xs a vs n (k _ _ p o) o (ih e)) (fun xs a vs n p o χ ih e=>.tup xs a vs n (k _ _ p o) o (ih e))
  (fun a b c r t u v p o χ=>.ip a b c r t u v (k _ _ p o) o) (fun v f χ=>.val v f) (fun χ χ χ e=>(Bool.false_ne_true e).elim)
  (fun d id a v T hT p o χ ih e=>.jK d id a v T hT (k _ _ p o) o (ih e)) (fun C xs a vs n dd p o χ ih e=>.inst C xs a vs n dd (k _ _ p o) o (ih e))
  (fun s t χ=>.ca s t) (fun χ=>.nil) (fun d v ds vs χ χ i j e=>.cons d v ds vs (i (Bool.and_eq_true_iff.mp e).1) (j (Bool.and_eq_true_iff.mp e).2)) x
theorem au.eu {P P':Pl}{h:Heap}(k:∀ a o,P.ok a→h.get? a=some o→P'.ok a){ds vs}(r:au P h ds vs):cQ ds=true→au P' h ds vs:=
 au.ind (motive:=fun ds vs=>cQ ds=true→au P' h ds vs) (fun χ=>.nil) (fun d v ds vs x χ i e=>.cons d v ds vs (x.eu k (Bool.and_eq_true_iff.mp e).1) (i (Bool.and_eq_true_iff.mp e).2)) r
theorem Kn {α:Type}{x:α}{C:Prop}(e:none=some x):C:=(Option.some_ne_none _ e.symm).elim
noncomputable def jv (f:D→Option D):List D→Option (List D)
 | []=>some []
 | d::ds=>(f d).bind fun d'=>(jv f ds).map (d'::·)
noncomputable def LS:cB→Option (List D)
 | .list xs=>some xs
 | _=>none
theorem zZ {x:cB}{xs:List D}(h:LS x=some xs):x=.list xs:=by
 cases x<;>cases h;rfl
noncomputable def u2 (σ:Sg):Nat→D→Option D
 | 0,_=>none
 | n+1,d=>match d with
  | .list xs=>(jv (u2 σ n) xs).map .list
  | .tup xs=>(jv (u2 σ n) xs).map .tup
  | .inst C xs=>(jv (u2 σ n) xs).map (.inst C)
  | .loc i=>(LS (σ.o i)).bind fun xs=>(jv (u2 σ n) xs).map .list
  | .none=>some .none
  | .bool b=>some (.bool b)
  | .int i=>some (.int i)
  | .str x=>some (.str x)
  | .bytes b=>some (.bytes b)
  | _=>none
theorem lO {f:D→Option D}{h:Heap}(hf:∀ d d' v,f d=some d'→W_ P h d v→W_ P' h d' v){ds vs}(r:au P h ds vs):∀ {te},jv f ds=some te→au P' h te vs:=
 au.ind (motive:=fun ds vs=>∀ {te},jv f ds=some te→au P' h te vs) (fun e=>Yx e▸.nil) (fun d v ds vs x χ ih χ e=>by
  refine az (fun d' e1 e=>?_) (Option.bind_eq_some_iff.mp e);refine az (fun te e2 e_1=>?_) (YI.mp e);subst e_1;exact .cons _ _ _ _ (hf _ _ _ e1 x) (ih e2)) r
theorem u0 {h:Heap}{σ:Sg}(H:Hp Ω.prog Ω.w μ B σ h)(ok:∀ a,a∉μ++B→P'.ok a)(Iy:∀ a∈μ,P'.ok a):∀ (n:Nat) (d d':D) (v:Value),u2 σ n d=some d'→W_ (Xa μ (μ++B)) h d v→W_ P' h d' v
 | 0,_,_,_,e,_=>nomatch e
 | n+1,d,d',v,e,r=>by
  have ih:=fun d d' v=>u0 H ok Iy n d d' v;revert e;refine W_.casesOn (motive_1:=fun d v χ=>u2 σ (n+1) d=some d'→W_ P' h d' v) r ?_ ?_ ?_ ?_ ?_ ?_ ?_ ?_ ?_ ?_ ?_ ?_ ?_
  ·exact fun e=>Yx e▸.none
  ·exact fun χ e=>Yx e▸.bool _
  ·exact fun χ χ e=>Yx e▸.int _ _
  ·exact fun χ χ e=>Yx e▸.str _ _
  ·exact fun χ χ e=>Yx e▸.bytes _ _
  ·intro xs a vs m p o r e;refine az (fun ys e1 e_2=>?_) (YI.mp e);subst e_2;exact .list _ a vs m (ok a p) o (lO ih r e1)
  ·intro xs a vs m p o r e;refine az (fun ys e1 e_3=>?_) (YI.mp e);subst e_3;exact .tup _ a vs m (ok a p) o (lO ih r e1)
  ·exact fun χ χ χ χ χ χ χ χ χ e=>Kn e
  ·exact fun χ χ e=>Kn e
  ·intro i a ha e;refine az (fun xs hx e=>?_) (Option.bind_eq_some_iff.mp e);have ob:=H.obj i a ha;rw [zZ hx] at ob;revert ob;refine cS fun vs m o rs=>?_;refine az (fun ys e1 e_4=>?_) (YI.mp e);subst e_4;exact .list _ a vs m (Iy a (YN ha)) o (lO ih rs e1)
  ·exact fun χ χ χ χ χ χ χ χ χ e=>Kn e
  ·intro C xs a vs m dd p o r e;refine az (fun ys e1 e_5=>?_) (YI.mp e);subst e_5;exact .inst C _ a vs m dd (ok a p) o (lO ih r e1)
  ·exact fun χ χ e=>Kn e
theorem l7 {α:Type}{M:Model}{t:Sem α}{Q:α→Shared→Prop}{E:Value→Shared→Prop}(x:wpAny M { A with frames:=none } t Q E s):wpAny M A t Q E s:=fun Γ p h=>
 x Γ p ⟨h.1,h.2.1,(fun χ q=>nomatch q),h.2.2.2.1,h.2.2.2.2⟩
theorem eI {a:Addr}{ds:List D}{kw:List (Str×D)}{k:D→Prop}(hq:l.md.loud=false)(h1:cQ ds=true)(h2:cQ (kw.map (fun x=>x.2))=true)(h:CE Ω l a ds kw .nil fun d σ'=>∃ d',u2 σ' 9 d=some d'∧k d'):CP Ω l a ds kw k:=fun A μ Mut s vs aV R st cl held rs rk Q E kk=>by
 have conv:∀ {ds vs},cQ ds=true→au (Xa μ Mut) s.heap ds vs→au (Xa [] ([]++Mut)) s.heap ds vs:=fun n r=>au.eu (P:=Xa μ Mut) (P':=Xa [] ([]++Mut)) (fun a o p χ=>p) r n
 refine l7 (h { A with frames:=none } Mut [] s vs aV ⟨⟨R.depth,R.units,R.calm⟩,(fun χ m=>nomatch m),(fun q=>by rw [hq] at q;exact oF q)⟩ st (fun b o e=>by simpa using cl b o e) (Hp.nil held) (conv h1 rs) (conv h2 rk) Q E fun v aD σ' s' x hh=>?_);obtain ⟨d,⟨d',e,hk⟩,r⟩:=hh;have LL:=x.tk;refine jE (fun h' t' e_6=>?_) x.same;subst e_6;refine az (fun ν e_7 fC=>?_) x.new;subst e_7;refine kk v _ (lA h' t' rfl (fun b o e=>x.keep b o (fun m=>nomatch m) (fun m=>nomatch m) (fun m=>nomatch m) e) LL) ⟨d',hk,u0 x.hp (fun a ha=>?_) (fun a ha=>?_) 9 d d' v e r⟩
 ·exact fun m=>ha (Yn _ m)
 ·intro m;obtain ⟨o,e⟩:=held a m;exact cc (fC a (by simpa using ha)) e
@[simp] theorem Sg.aN (σ:Sg)(i:Nat)(x:cB)(j:Nat):(σ.put i x).o j=if j=i then x else σ.o j:=rfl
@[simp] theorem Sg.bF (σ:Sg)(i:Nat)(x:cB):(σ.put i x).n=σ.n:=rfl
@[simp] theorem Sg.aZ (σ:Sg)(x:cB)(j:Nat):(σ.add x).o j=if j=σ.n then x else σ.o j:=rfl
@[simp] theorem Sg.add_n (σ:Sg)(x:cB):(σ.add x).n=σ.n+1:=rfl
theorem Sg.pn {σ:Sg}{i:Nat}{x y:cB}{j:Nat}(h:j≠i)(e:σ.o j=y):(σ.put i x).o j=y:=(Yz h).trans e
theorem Sg.an {σ:Sg}{x y:cB}{j:Nat}(h:j≠σ.n)(e:σ.o j=y):(σ.add x).o j=y:=(Yz h).trans e
theorem Sg.ps {σ:Sg}{i:Nat}{x:cB}:(σ.put i x).o i=x:=YH rfl
theorem Sg.as {σ:Sg}{x:cB}:(σ.add x).o σ.n=x:=YH rfl
noncomputable def wD:cB→String
 | .list _=>"list"
 | .bB _=>"dict"
 | .fy _=>"dict"
 | .set _=>"set"
 | _=>""
noncomputable def HQ (Ω:U)(l:Lv)(id:String)(n:Nat)(ds:List D)(σ:Sg)(k:D→Sg→Prop):Prop:=
 ∀ (A:Around) (B μ:List Addr) (s:Shared) (a:Addr) (vs:List Value),RmS l A B→Ω.St s→(∀ b o,Ω.C.base b o→b∉μ++B)→Hp Ω.prog Ω.w μ B σ s.heap→μ[n]? = some a→au (Xa μ (μ++B)) s.heap ds vs→MW Ω A B μ (call (.builtin id) (.ref a::vs)) s k
theorem W_.turnAt {a:Addr}{h h':Heap}(m:a∈μ)(k:∀ b o,b≠a→h.get? b=some o→h'.get? b=some o){d v}(r:W_ (Xa μ (μ++B)) h d v):W_ (Xa μ (μ++B)) h' d v:=
 W_.keeps (P:=Xa μ (μ++B)) (P':=Xa μ (μ++B)) (fun χ χ e=>e) (fun b o p e=>⟨p,k b o (fun q=>p (q▸Yp _ m)) e⟩) r
theorem au.turnAt {a:Addr}{h h':Heap}(m:a∈μ)(k:∀ b o,b≠a→h.get? b=some o→h'.get? b=some o){d v}(r:au (Xa μ (μ++B)) h d v):au (Xa μ (μ++B)) h' d v:=
 au.keeps (P:=Xa μ (μ++B)) (P':=Xa μ (μ++B)) (fun χ χ e=>e) (fun b o p e=>⟨p,k b o (fun q=>p (q▸Yp _ m)) e⟩) r
theorem bH {L:List Addr}{n:Nat}{a:Addr}{x:cB}{h':Heap}{tk:Nat}(l:s.toks≤tk)(H:Hp Ω.prog Ω.w μ B σ s.heap)(ha:μ[n]? = some a)(k:∀ b o,b≠a→s.heap.get? b=some o→h'.get? b=some o)(hx:kX Ω.prog Ω.w (Xa μ (μ++B)) h' a x)(live:∃ o,h'.get? a=some o):
  bd Ω.prog Ω.w L [] B μ s μ (σ.put n x) { s with heap:=h',toks:=tk }:=
 .IS (uK _ _ rfl) (aF [] (by simp) (by simp)) (fun b o hb χ e=>k b o (fun q=>hb (q▸YN ha)) e) (H.turn ha k hx live) l
theorem dP {L:List Addr}{a:Addr}{x:cB}{h':Heap}{tk:Nat}(l:s.toks≤tk)(H:Hp Ω.prog Ω.w μ B σ s.heap)(f:s.heap.get? a=none)(k:Xi s.heap h')(hx:kX Ω.prog Ω.w (Xa (μ++[a]) (μ++[a]++B)) h' a x)(live:∃ o,h'.get? a=some o):
  bd Ω.prog Ω.w L [] B μ s (μ++[a]) (σ.add x) { s with heap:=h',toks:=tk }:=
 .IS (uK _ _ rfl) (aF [a] rfl (fun b hb=>rv (Yq.mp hb) f)) (fun b o χ χ e=>k b o e) (H.push f k hx live) l
theorem j_ (H:Hp Ω.prog Ω.w μ B σ s.heap)(a:Addr):(μ++[a])[σ.n]? = some a:=by
 refine rv H.len.symm (rv (List.getElem?_append_right (YE _)) ?_);simp
theorem jm {n:Nat}{a:Addr}{xs:List D}{h:Heap}(H:Hp Ω.prog Ω.w μ B σ h)(ha:μ[n]? = some a)(hn:σ.o n=.list xs):∃ vs m,h.get? a=some { cls:=.type "list",data:=.seq vs.toArray m }∧au (Xa μ (μ++B)) h xs vs:=by
 have:=H.obj n a ha;rw [hn] at this;exact this
theorem mT {n:Nat}{a:Addr}{T:String}(H:Hp Ω.prog Ω.w μ B σ s.heap)(ha:μ[n]? = some a)(hT:wD (σ.o n)=T)(ne:T≠""):s.TypeIs (.ref a) T∧∀ b,Value.ref a=.ref b→∃ ob:Obj,s.heap.get? b=some ob∧ob.dict=none:=by
 have ob:=H.obj n a ha;cases q:σ.o n<;>rw [q] at hT ob<;>try exact absurd hT.symm ne
 ·subst hT;revert ob;refine cS fun vs m o χ=>?_;exact ⟨(aF _ o rfl),fun b e=>by cases e;exact (aF _ o rfl)⟩
 ·subst hT;revert ob;refine db fun aV χ q χ=>?_;exact ⟨q.typeIs,q.mapOf.noDict⟩
 ·subst hT;revert ob;refine db fun aV χ q χ=>?_;exact ⟨q.typeIs,q.mapOf.noDict⟩
 ·subst hT;exact ⟨Heap.SetOf.typeIs ob,Heap.SetOf.noDict ob⟩
structure WS (Ω:U)(l:Lv)(N:ay)(ρ:aO)(σ:Sg)(id T:String)(args:List PySem.Expr)(k:D→Sg→Prop)(n:Nat):Prop where
 hk:wD (σ.o n)=T
 h:yG Ω l N ρ σ args fun ds σ'=>HQ Ω l id n ds σ' k
theorem cN {o:PySem.Expr}{name:Str}{apos pos:Pos}{args:List PySem.Expr}{k:D→Sg→Prop}(id T:String)(I:dZ id T name)(ne:T≠"")(hb:bu o=true)(hn:Xc args=true)(hl:args.length<30)(fw:(apos.endLine==pos.line)=true)
  (h:EV Ω l N ρ σ o (eL (WS Ω l N ρ σ id T args k))):EF Ω l N ρ σ (.Call (.Attribute o name apos) args [] pos) k:=fun A B μ env s R F Q E kk=>by
 refine wpAny_Call_method_lateS (bJ hb) (et pos hn hl) fw ((h A B μ env s R F.toFx).dM fun n a s₁ ai ha hq=>?_);have av:=F.grown ai;have t:=mT av.hp ha hq.hk ne;refine IU T id I.pa I.slot I.ty t.1 t.2 ?_;have hp:=aK (env:=env) pos hn;refine Calls.callWith_builtin hp (bw hp ((hq.h A B μ env s₁ pos R av).go fun vs bh aM ag x ds uX rs=>?_));have aI:=av.c5 x;exact (uX A B bh ag a vs R aI.st aI.clear aI.hp (x.loc ha) rs).use fun v ch aQ aE y hh=>kk v ch aQ aE ((bd.aG F.hp ai).bt (x.bt y)) hh
theorem bo:dZ "list.append" "list" "append":=⟨PySem.F.plainAttrs_list,PySem.F.slot_list_append,PySem.F.type_list_append⟩
theorem zT:dZ "list.pop" "list" "pop":=⟨PySem.F.plainAttrs_list,PySem.F.slot_list_pop,PySem.F.type_list_pop⟩
theorem zV:dZ "list.clear" "list" "clear":=⟨PySem.F.plainAttrs_list,PySem.F.slot_list_clear,PySem.F.type_list_clear⟩
theorem bn {n:Nat}{xs:List D}{d:D}{k:D→Sg→Prop}(hn:σ.o n=.list xs)(hz:xs.length≤sizeLine)(h:k .none (σ.put n (.list (xs++[d])))):HQ Ω l "list.append" n [d] σ k:=fun A B μ s a vs R st cl H ha rs Q E kk=>by
 refine az (fun v e_1 r=>?_) rs.one;subst e_1;refine cS (fun us m o rr=>?_) (jm H ha hn);refine wpAny_list_append_plain (hsz:=rv YT (rv rr.length hz)) ⟨m,o⟩ fun h' GF eK=>?_;obtain ⟨m',o'⟩:=GF;have kp:∀ b o,b≠a→s.heap.get? b=some o→h'.get? b=some o:=fun b o n e=>eK.extBut b o n e;refine kk .none μ _ _ (bH (YE _) (x:=.list (xs++[d])) (tk:=s.toks) H ha kp (gY (us++[v]) m' (by simpa using o') ?_) ⟨_,o'⟩) ⟨.none,h,.none⟩;exact (rr.turnAt (YN ha) kp).snoc (r.turnAt (YN ha) kp)
theorem zA {n:Nat}{xs:List D}{k:D→Sg→Prop}(hn:σ.o n=.list xs)(hz:xs.length≤sizeLine)(h:k .none (σ.put n (.list []))):HQ Ω l "list.clear" n [] σ k:=fun A B μ s a vs R st cl H ha rs Q E kk=>by
 cases rs;refine cS (fun us m o rr=>?_) (jm H ha hn);refine call_meets PySem.F.slot_list_clear (aF _ o rfl) PySem.F.entry_list_clear (PySem.F.args_list_clear_1 _) (PySem.AutoSeq1.list_clear_list_0 a us.toArray m (rv YT (rv rr.length hz))) ⟨o,?_⟩;have kp:∀ b o,b≠a→s.heap.get? b=some o→(s.heap.update a (Obj.mapSeq fun χ=>#[])).get? b=some o:=fun b o n e=>(Heap.get?_update_ne _ _ _ _ n).trans e;have o':(s.heap.update a (Obj.mapSeq fun χ=>#[])).get? a=some _:=YZ _ o rfl;exact kk .none μ _ _ (bH (YE _) (x:=.list []) (tk:=s.toks) H ha kp (gY [] _ o' .nil) ⟨_,o'⟩) ⟨.none,h,.none⟩
theorem zy {n:Nat}{xs:List D}{d:D}{k:D→Sg→Prop}(hn:σ.o n=.list (xs++[d]))(hz:xs.length<sizeLine)(h:k d (σ.put n (.list xs))):HQ Ω l "list.pop" n [] σ k:=fun A B μ s a vs R st cl H ha rs Q E kk=>by
 cases rs;refine cS (fun us m o rr=>?_) (jm H ha hn);have hl:us.length=xs.length+1:=by refine rv rr.length ?_;simp
 refine az (fun v hv r=>?_) (rr.at xs.length (d:=d) (by simp));have Hy:us.toArray[us.toArray.size-1]? = some v:=by refine rv YT (rv hl ?_);simpa using hv
 refine call_meets PySem.F.slot_list_pop (aF _ o rfl) PySem.F.entry_list_pop (PySem.F.args_list_pop_1 _) (PySem.MeetsSeq.list_pop_last a us.toArray m v Hy (rv YT (rv hl (PX hz)))) ⟨o,?_⟩;generalize hf:(Obj.mapSeq fun xs=>xs.eraseIdxIfInBounds (us.toArray.size-1))=f;have kp:∀ b o,b≠a→s.heap.get? b=some o→(s.heap.update a f).get? b=some o:=fun b o n e=>(Heap.get?_update_ne _ _ _ _ n).trans e;have o':(s.heap.update a f).get? a=some _:=YZ _ o (by refine rv hf.symm ?_;rfl);have hd:us=us.take xs.length++[v]:=by
  have:=List.take_append_drop xs.length us;rw [List.drop_eq_getElem_cons (Nl hl),List.drop_eq_nil_of_le (RJ hl)] at this;refine rv this.symm ?_;congr 1
  ·exact rv this rfl
  ·congr 1;have:=YD.mp hv;exact this.2
 have rt:au (Xa μ (μ++B)) s.heap xs (us.take xs.length):=by
  have key:∀ (xs:List D) (us:List Value) (d:D),au (Xa μ (μ++B)) s.heap (xs++[d]) us→au (Xa μ (μ++B)) s.heap xs (us.take xs.length):=by
   intro xs
   induction xs with
   | nil=>intro us d r;simp;exact .nil
   | cons x xs ih=>
    intro us d r;cases r with
    | cons _ v _ vs x r=>simp only [List.length_cons,List.take_succ_cons];exact .cons _ _ _ _ x (ih _ _ r)
  exact key xs us d rr
 refine kk v μ _ _ (bH (YE _) (x:=.list xs) (tk:=s.toks) H ha kp (gY (us.take xs.length) (m+1) ?_ (rt.turnAt (YN ha) kp)) ⟨_,o'⟩) ⟨d,h,r.turnAt (YN ha) kp⟩;refine rv o' (rv hf.symm ?_);have e1:us.toArray.eraseIdxIfInBounds (us.toArray.size-1)=(us.take xs.length).toArray:=by
  refine rv YT (rv hl (rv (Nat.add_sub_cancel _ _) ?_));refine rv (List.eraseIdxIfInBounds_toArray _ _) ?_;congr 1
  conv=>lhs;rw [hd]
  refine rv (List.eraseIdx_append_of_length_le (by rw [List.length_take];exact Rz) _) ?_;simp [hl]
 simp only [Obj.mapSeq,e1];have e2:((us.take xs.length).toArray.size==us.toArray.size)=false:=by
  simp [hl]
 refine rv e2 ?_;rfl
noncomputable def look (σ:Sg):D→D
 | .loc n=>match σ.o n with
  | .list xs=>.list xs
  | _=>.loc n
 | d=>d
noncomputable def XF:D→Bool
 | .none=>true
 | .bool _=>true
 | .int _=>true
 | .str _=>true
 | .bytes _=>true
 | _=>false
noncomputable def tJ (μ:List Addr):Pl:=⟨fun χ=>True,μ⟩
theorem W_.flatten {P P':Pl}{h h':Heap}{d:D}{v:Value}(f:XF d=true)(r:W_ P h d v):W_ P' h' d v:=
 W_.rec (motive_1:=fun d v χ=>XF d=true→W_ P' h' d v) (motive_2:=fun χ χ χ=>True)
  (fun χ=>.none) (fun b χ=>.bool b) (fun i t χ=>.int i t) (fun s t χ=>.str s t) (fun b t χ=>.bytes b t)
  (fun χ χ χ χ χ χ χ χ f=>oF f) (fun χ χ χ χ χ χ χ χ f=>oF f) (fun χ χ χ χ χ χ χ χ χ f=>oF f) (fun χ χ f=>oF f) (fun χ χ χ f=>oF f) (fun χ χ χ χ χ χ χ χ χ χ f=>oF f) (fun χ χ χ χ χ χ χ χ χ χ f=>oF f) (fun χ χ f=>oF f)
  trivial (fun χ χ χ χ χ χ χ χ=>trivial) r f
theorem W_.any {h:Heap}{d:D}{v:Value}(r:W_ (Xa μ (μ++B)) h d v):W_ (tJ μ) h d v:=W_.keeps (P:=Xa μ (μ++B)) (P':=tJ μ) (fun χ χ e=>e) (fun a o χ e=>⟨trivial,e⟩) r
theorem au.any {h:Heap}{d:List D}{v:List Value}(r:au (Xa μ (μ++B)) h d v):au (tJ μ) h d v:=au.keeps (P:=Xa μ (μ++B)) (P':=tJ μ) (fun χ χ e=>e) (fun a o χ e=>⟨trivial,e⟩) r
set_option tactic.hygienic true in
theorem W_.look {h:Heap}{d:D}{v:Value}(H:Hp Ω.prog Ω.w μ B σ h)(r:W_ (Xa μ (μ++B)) h d v):W_ (tJ μ) h (Internal.look σ d) v:=by
 unfold Internal.look;split
 ·rename_i n;refine az (fun a e_1 ha=>?_) (eR r);subst e_1;split
  ·rename_i xs hx;refine cS (fun vs m o rs=>?_) (jm H ha hx);exact .list xs a vs m trivial o rs.any
  ·exact r.any
 ·exact r.any
theorem au.look {h:Heap}(H:Hp Ω.prog Ω.w μ B σ h){d:List D}{v:List Value}(r:au (Xa μ (μ++B)) h d v):au (tJ μ) h (d.map (Internal.look σ)) v:=
 au.ind (motive:=fun d v=>au (tJ μ) h (d.map (Internal.look σ)) v) .nil (fun d v ds vs x χ i=>.cons _ _ _ _ (x.look H) i) r
theorem w0 {h:Heap}:Xk (tJ μ) h:=fun χ χ=>trivial
theorem w6 {f:Str}{p pos:Pos}{T:String}{args:List PySem.Expr}(hg:lk f N=some .globalImplicit)(e:(Ω.C.mg f).or (Ω.C.mb f)=some (.type T))(hc:l.calm=true)(hn:Xc args=true)(hd:sEq f "__debug__"=false)
  (h:rP Ω l N ρ σ args fun ds=>uh T (ds.map (look σ)) fun r=>XF r=true∧k r):EV Ω l N ρ σ (.Call (.Name f p) args [] pos) k:=fun A B μ env s R F Q E kk=>
 Call_Name rfl ((aT (k:=fun d=>d=.val (.type T)) hg e (.val _ rfl) rfl hd A B μ env s R F).go fun v s₁ ai d hq r=>by
  obtain rfl:=hq;refine W_.cR r ?_;have hp:=aK (env:=env) pos hn;refine PyProof.Rows.callWith_type hp (bw hp ((h A B μ env s₁ pos R (F.grown ai)).go fun vs ag ar ds hk rs=>?_));have aI:=F.grown (ai.trans ar);exact (yM R hc w0 hk (rs.look aI.hp)).go fun v aE aU d hq r=>by
   obtain ⟨hf,hk⟩:=hq;exact kk v aE ((ai.trans ar).trans aU) ⟨d,hk,r.flatten hf⟩)
theorem D6 {f:Str}{p pos:Pos}{id:String}{args:List PySem.Expr}(hg:lk f N=some .globalImplicit)(e:(Ω.C.mg f).or (Ω.C.mb f)=some (.builtin id))(hc:l.calm=true)(hn:Xc args=true)(hd:sEq f "__debug__"=false)
  (h:rP Ω l N ρ σ args fun ds=>vj id (ds.map (look σ)) fun r=>XF r=true∧k r):EV Ω l N ρ σ (.Call (.Name f p) args [] pos) k:=fun A B μ env s R F Q E kk=>
 Call_Name rfl ((aT (k:=fun d=>d=.val (.builtin id)) hg e (.val _ rfl) rfl hd A B μ env s R F).go fun v s₁ ai d hq r=>by
  obtain rfl:=hq;refine W_.cR r ?_;have hp:=aK (env:=env) pos hn;refine Calls.callWith_builtin hp (bw hp ((h A B μ env s₁ pos R (F.grown ai)).go fun vs ag ar ds hk rs=>?_));have aI:=F.grown (ai.trans ar);exact (Be R hc w0 hk (rs.look aI.hp)).go fun v aE aU d hq r=>by
   obtain ⟨hf,hk⟩:=hq;exact kk v aE ((ai.trans ar).trans aU) ⟨d,hk,r.flatten hf⟩)
theorem DR {e:PySem.Expr}{k:Bool→Prop}(hp:gX e=true)(h:EV Ω l N ρ σ e fun d=>gn (look σ d) k):TV Ω l N ρ σ e k:=fun A B μ env s R F Q E kk=>
 wpAny_isTrue_value ((h A B μ env s R F).go fun v s₁ g d hd r=>by
  exact (l9 hd (r.look (F.grown g).hp)).use fun b ag ar hb=>kk _ _ (g.trans ar) hb) (fJ hp env _)
inductive EZ (σ:Sg)(k:D→Prop)(d:D):Prop where
 | mk (xs:List D)(e:look σ d=.list xs)(hz:(xs.length:Int)<2^63)(hk:k (.bool (!xs.isEmpty)))
theorem Bs {f:Str}{p pos:Pos}{arg:PySem.Expr}(hg:lk f N=some .globalImplicit)(e:(Ω.C.mg f).or (Ω.C.mb f)=some (.type "bool"))(hn:Xc [arg]=true)(hd:sEq f "__debug__"=false)
  (h:EV Ω l N ρ σ arg (EZ σ k)):EV Ω l N ρ σ (.Call (.Name f p) [arg] [] pos) k:=fun A B μ env s R F Q E kk=>
 Call_Name rfl ((aT (k:=fun d=>d=.val (.type "bool")) hg e (.val _ rfl) rfl hd A B μ env s R F).go fun v s₁ ai d hq r=>by
  obtain rfl:=hq;refine W_.cR r ?_;have hp:=aK (env:=env) pos hn;refine PyProof.Rows.callWith_type hp (bw hp ((ae (k:=DY (EZ σ k)) hn (h.mono fun d hd=>ak ⟨d,rfl,hd⟩) A B μ env s₁ pos R (F.grown ai)).AM fun d v ag ar hq r=>?_));obtain ⟨xs,hx,hz,hk⟩:=hq;have aI:=F.grown (ai.trans ar);have r':=r.look aI.hp;rw [hx] at r';refine fD (fun a us n e_2 pa o rr=>?_) (Xg r');subst e_2;have Vr:us.toArray.size=xs.length:=rv YT (rv rr.length rfl);have L:=a_ o;refine call_bool_1 (S:=fun A R s=>s.heap.IsList a us.toArray∧R (.ok (.ret (.bool (!us.toArray.isEmpty)))) { s with toks:=s.toks+1+1 }) (.of_wp fun prog w A R s hS=>?_) ⟨L,PySem.typeIs_bool _ _,?_⟩
  ·obtain ⟨hl,hr⟩:=hS;obtain ⟨hp,g,d,tk,os⟩:=s;have f1:=PySem.F.conv_sub_bool;have VY:(us.toArray.size:Int)<2^63:=rv Vr hz
   repeat (any_goals (first | assumption | with_reducible apply wpAny_truthy_list (hl:=hl) | wp_step))
   all_goals first | exact (aF _ rfl hr) | skip
  ·have e:us.toArray.isEmpty=xs.isEmpty:=by
    have:=rr.length;cases us<;>cases xs<;>simp_all
   refine rv e ?_;exact kk _ _ ((ai.trans ar).trans ((aH.tok _ _).trans (.tok ..))) ⟨_,hk,.bool _⟩)
inductive Pz (xs:List D)(k:D→Prop)(i:Int):Prop where
 | mk (d:D)(e:(seqIndex? i xs.length).bind (xs[·]?)=some d)(h:k d)
inductive WW (Ω:U)(l:Lv)(N:ay)(ρ:aO)(σ:Sg)(i:PySem.Expr)(k:D→Prop)(n:Nat):Prop where
 | mk (xs:List D)(hn:σ.o n=.list xs)(hz:xs.length<2^62)(h:EV Ω l N ρ σ i fun j=>bX j (Pz xs k))
theorem tV {v i:PySem.Expr}{pos:Pos}(hs:kW i=false)(h:EV Ω l N ρ σ v (eL (WW Ω l N ρ σ i k))):EV Ω l N ρ σ (.Subscript v i pos) k:=fun A B μ env s R F Q E kk=>
 Subscript_ ((h A B μ env s R F).dM fun n a s₁ ai ha hq=>by
  obtain ⟨xs,hn,hz,aP⟩:=hq;have av:=F.grown ai;refine (aP.mono (k':=vx (Pz xs k)) (fun d h=>bX.toP h) A B μ env s₁ R av).sU fun j t ag ar cW=>?_;have aI:=av.grown ar;obtain ⟨e,he,hk⟩:=cW;refine cS (fun us m o rs=>?_) (jm aI.hp ha hn);cases e1:seqIndex? j xs.length with
  | none=>rw [e1] at he;cases he
  | some p=>
   rw [e1] at he;have hl:=a_ o;refine az (fun u hu ru=>?_) (rs.at p he);exact tail_any hl.typeIs slot_list_getitem.lookup (Xy hl rs.length hz (d_ e1) hu (kk _ _ (ai.trans ar) ⟨_,hk,ru⟩)) (d6 hs _ _))
inductive M8 (Ω:U)(l:Lv)(N:ay)(ρ:aO)(σ:Sg)(lo hi st:Option PySem.Expr)(k:D→Prop)(n:Nat):Prop where
 | mk (xs:List D)(hn:σ.o n=.list xs)(h:EY Ω l N ρ σ lo fun a=>EY Ω l N ρ σ hi fun b=>EY Ω l N ρ σ st fun c=>c≠some 0∧xs.length≤sizeLine∧k (.list (Xs xs a b c)))
theorem D5 {v:PySem.Expr}{lo hi st:Option PySem.Expr}{p pos:Pos}(h:EV Ω l N ρ σ v (eL (M8 Ω l N ρ σ lo hi st k))):EV Ω l N ρ σ (.Subscript v (.Slice lo hi st p) pos) k:=fun A B μ env s R F Q E' kk=>by
 refine Subscript_ ((h A B μ env s R F).dM fun n a s₁ ai ha hq=>?_);obtain ⟨xs,hn,hd⟩:=hq;refine wpAny_Slice ((hd A B μ env s₁ R (F.grown ai)).go fun vl ag ar xO hlo pl=>?_);refine (hlo A B μ env ag R (F.grown (ai.trans ar))).go fun vu aE aU iP Mo pu=>?_;refine (Mo A B μ env aE R (F.grown ((ai.trans ar).trans aU))).go fun vs iz c4 step hq ps=>?_;revert hq;refine e8 fun h0 hsz hk=>?_;have G:=(ai.trans ar).trans (aU.trans c4);have ij:=F.grown G;refine cS (fun us m o rs=>?_) (jm ij.hp ha hn);exact sE ij.lets o rs pl pu ps h0 hsz hk fun v s' g hh=>kk v s' (G.trans g) hh
inductive JO (σ:Sg)(k:D→Prop)(n:Nat):Prop where
 | mk (xs:List D)(hn:σ.o n=.list xs)(hz:xs.length≤sizeLine)(hk:k (.tup xs))
theorem yu {f:Str}{p pos:Pos}{arg:PySem.Expr}(hg:lk f N=some .globalImplicit)(e:(Ω.C.mg f).or (Ω.C.mb f)=some (.type "tuple"))(hn:Xc [arg]=true)(hd:sEq f "__debug__"=false)
  (h:EV Ω l N ρ σ arg (eL (JO σ k))):EV Ω l N ρ σ (.Call (.Name f p) [arg] [] pos) k:=fun A B μ env s R F Q E kk=>
 Call_Name rfl ((aT (k:=fun d=>d=.val (.type "tuple")) hg e (.val _ rfl) rfl hd A B μ env s R F).go fun v s₁ ai d hq r=>by
  obtain rfl:=hq;refine W_.cR r ?_;have hp:=aK (env:=env) pos hn;refine PyProof.Rows.callWith_type hp (bw hp ((ae (k:=DY (eL (JO σ k))) hn (h.mono fun d hd=>ak ⟨d,rfl,hd⟩) A B μ env s₁ pos R (F.grown ai)).AM fun d v ag ar hq r=>hq.el (G:=fun v=>wpAny Ω.M A (call (.type "tuple") [v]) Q E ag) r fun n a ha hq=>?_));obtain ⟨xs,hx,hz,hk⟩:=hq;have aI:=F.grown (ai.trans ar);refine cS (fun us m o rr=>?_) (jm aI.hp ha hx);refine call_tuple_list (a_ o) (fun h' kr=>?_) (rv YT (rv rr.length hz));have X:Xi ag.heap (h'.push { cls:=.type "tuple",data:=.seq us.toArray }):=fun b o e=>YB _ (kr b o e);exact kk _ _ ((ai.trans ar).trans (.heap X)) ⟨_,hk,.tup xs _ us 0 (aI.lets.ext kr).size (Yw _ rfl) (rr.ext X)⟩)
theorem bU {es:List PySem.Expr}{pos:Pos}{k:D→Sg→Prop}(h:yG Ω l N ρ σ es fun ds σ'=>ds.length≤sizeLine∧k (.loc σ'.n) (σ'.add (.list ds))):EF Ω l N ρ σ (.List es pos) k:=fun A B μ env s R F Q E kk=>
 wpAny_List ((h A B μ env s pos R F).go fun vs aW aq s₁ x ds hq r=>by
  obtain ⟨hz,hk⟩:=hq;have av:=F.c5 x;have nn:=a9 s₁.heap;have y:bd Ω.prog Ω.w (Xb A) [] B aW s₁ (aW++[s₁.heap.objs.size]) (aq.add (.list ds)) { s₁ with heap:=s₁.heap.push { cls:=.type "list",data:=.seq vs.toArray } }:=
   dP (YE _) (tk:=s₁.toks) av.hp nn (Xi.push _ _) (gY vs 0 (Yw _ rfl) (au.turned (ν:=[s₁.heap.objs.size]) (fun b o χ χ e=>YB _ e) (fun b hb=>rv (Yq.mp hb) nn) r)) ⟨_,Yw _ rfl⟩
  exact ⟨rv r.length hz,kk _ _ _ _ (x.bt y) ⟨_,hk,.loc _ _ (j_ av.hp _)⟩⟩)
theorem n7 {pos:Pos}{k:D→Sg→Prop}(h:k (.loc σ.n) (σ.add (.bB []))):EF Ω l N ρ σ (.Dict [] [] pos) k:=fun A B μ env s R F Q E kk=>by
 have nn:=a9 s.heap;refine wpAny_Dict_empty (kk _ (μ++[s.heap.objs.size]) _ _ (dP (YE _) (x:=.bB []) (tk:=s.toks) F.hp nn (Xi.push _ _) (eQ [] (rv (propext (beq_eq_false_iff_ne)) (Nat.ne_of_gt (modules_low (Ω.lim _ F.stays)))) (Heap.DictOf.new s.heap) .nil) ⟨_,Yw _ rfl⟩) ⟨_,h,.loc _ _ (j_ F.hp _)⟩)
theorem t6 {pos:Pos}{k:D→Sg→Prop}(h:k (.loc σ.n) (σ.add (.fy []))):EF Ω l N ρ σ (.Dict [] [] pos) k:=fun A B μ env s R F Q E kk=>by
 have nn:=a9 s.heap;refine wpAny_Dict_empty (kk _ (μ++[s.heap.objs.size]) _ _ (dP (YE _) (x:=.fy []) (tk:=s.toks) F.hp nn (Xi.push _ _) (eQ [] (rv (propext (beq_eq_false_iff_ne)) (Nat.ne_of_gt (modules_low (Ω.lim _ F.stays)))) (Heap.DictOf.new s.heap) .nil) ⟨_,Yw _ rfl⟩) ⟨_,h,.loc _ _ (j_ F.hp _)⟩)
theorem rL {f:Str}{p pos:Pos}{k:D→Sg→Prop}(hg:lk f N=some .globalImplicit)(e:(Ω.C.mg f).or (Ω.C.mb f)=some (.type "set"))(hd:sEq f "__debug__"=false)(h:k (.loc σ.n) (σ.add (.set []))):EF Ω l N ρ σ (.Call (.Name f p) [] [] pos) k:=fun A B μ env s R F Q E kk=>
 Call_Name rfl ((aT (k:=fun d=>d=.val (.type "set")) hg e (.val _ rfl) rfl hd A B μ env s R.toRm F.toFx).go fun v s₁ ai d hq r=>by
  obtain rfl:=hq;refine W_.cR r ?_;have av:=F.grown ai;refine PyProof.Rows.callWith_type rfl (bw rfl (wpAny_items_nil (pos:=pos) (env:=env) ?_));refine call_set_0 fun led=>?_;have nn:=a9 s₁.heap;have so:(s₁.heap.push { cls:=.type "set",dict:=none,data:=.set #[] 0 (.fresh 0 0 led) }).SetOf (strKind Ω.prog Ω.w) s₁.heap.objs.size (fun x=>decide (x∈([]:List Str))) ([]:List Str).length:=by
   refine Vf ({ cls:=.type "set",dict:=none,data:=.set #[] 0 (.fresh 0 0 led) }) #[] 0 (.fresh 0 0 led) (Yw _ rfl) ⟨rfl,rfl,rfl⟩ rfl ?_ ?_ ?_ ?_ rfl
   ·intro e he;cases he
   ·intro k;simp
   ·decide
   ·cases led<;>rfl
  exact kk _ _ _ _ ((bd.aG F.hp ai).bt (dP (YE _) (x:=.set []) (tk:=s₁.toks) av.hp nn (Xi.push _ _) so ⟨_,Yw _ rfl⟩)) ⟨_,h,.loc _ _ (j_ av.hp _)⟩)
noncomputable def cX:D→Int
 | .int i=>i
 | _=>0
noncomputable def H0:D→Str
 | .str x=>x
 | _=>⟨#[]⟩
theorem mL {α:Type}(f:α→D)(un:D→α)(C9:∀ y,un (f y)=y)(p:α→Bool)(g:α→D)(ys:List α):((ys.map f).filter (fun d=>p (un d))).map (fun d=>g (un d))=(ys.filter p).map g:=by
 induction ys with
 | nil=>rfl
 | cons y ys ih=>
  simp only [List.map_cons,List.filter_cons,C9];split<;>simp [ih,C9]
inductive JT {α:Type}(f:α→D)(C:List α→Prop)(xs:List D):Prop where
 | mk (ys:List α)(e:xs=ys.map f)(h:C ys)
theorem ia.mono {d:D}{k k':List D→Prop}(h:∀ xs,k xs→k' xs)(h':ia d k):ia d k':=by
 cases d with
 | list xs=>exact h _ h'
 | tup xs=>exact h _ h'
 | bytes b=>exact h _ h'
 | ip a b c=>exact ⟨h'.1,h'.2.1,h _ h'.2.2⟩
 | _=>exact h'.elim
noncomputable def bI (Ω:U)(l:Lv)(N:ay)(ρ:aO)(σ:Sg)(elt:PySem.Expr)(x:Str)(ifs:List PySem.Expr)(scope:Scope){α:Type}(f:α→D)(k:List D→Prop)(ys:List α):Prop:=
 ys.length≤sizeLine∧∃ (p:α→Bool) (g:α→D),(∀ y∈ys,xW Ω l (ib N scope.names) ((x,f y)::bQ scope.names ρ) σ ifs (fun b=>b=p y)∧(p y=true→EV Ω l (ib N scope.names) ((x,f y)::bQ scope.names ρ) σ elt fun r=>r=g y))∧k ((ys.filter p).map g)
theorem wU {elt:PySem.Expr}{x:Str}{ifs:List PySem.Expr}{scope:Scope}{α:Type}(f:α→D)(un:D→α)(C9:∀ y,un (f y)=y){kk:List D→Prop}{ys:List α}(h:bI Ω l N ρ σ elt x ifs scope f kk ys):EP Ω l N ρ σ elt x ifs scope kk (ys.map f):=by
 revert h;refine pD fun hz z_1=>?_;refine cS (fun p g ht hk=>?_) z_1;refine ⟨by simpa using hz,fun d=>p (un d),fun d=>g (un d),fun d hd=>?_,rv (mL f un C9 _ _ _) hk⟩;refine az (fun y hy e_2=>?_) (Yt.mp hd);subst e_2;simp only [C9];exact ht y hy
theorem bz {α:Type}(f:α→D)(un:D→α)(C9:∀ y,un (f y)=y){elt iter:PySem.Expr}{x:Str}{px:Pos}{ifs:List PySem.Expr}{scope:Scope}{pos:Pos}(hc:l.calm=true)(lp:gt N ρ scope x iter=true)
  (h:EV Ω l N ρ σ iter fun d=>ia d (JT f (bI Ω l N ρ σ elt x ifs scope f fun ds=>k (.list ds)))):EV Ω l N ρ σ (.ListComp elt [⟨.Name x px,iter,ifs,0⟩] scope pos) k:=
 xa lp (lY hc (h.mono fun d hd=>ia.mono (fun xs hx=>by
  obtain ⟨ys,rfl,hx⟩:=hx;exact wU f un C9 hx) hd))
theorem cw {α:Type}(f:α→D)(un:D→α)(C9:∀ y,un (f y)=y){x y:Str}{px py pos gg:Pos}{elt iter:PySem.Expr}{ifs:List PySem.Expr}{scope:Scope}{k:Fl→aO→Sg→Prop}(hc:l.calm=true)(hx:bS N x=true)(lp:gt N ρ scope y iter=true)
  (h:EV Ω l N ρ σ iter fun d=>ia d (JT f (bI Ω l N ρ σ elt y ifs scope f fun ds=>k .next ((x,.list ds)::ρ) σ))):ES Ω l N ρ σ (.Assign [.Name x px] (.ListComp elt [⟨.Name y py,iter,ifs,0⟩] scope gg) pos) k:=
 vB hx lp (lY hc (h.mono fun d hd=>ia.mono (fun xs hx=>by
  obtain ⟨ys,rfl,hx⟩:=hx;exact wU f un C9 hx) hd))
theorem w_ {e:PySem.Expr}{k:D→Prop}(h:EV Ω l N ρ σ e fun d=>k (HM d)):EV Ω l N ρ σ e k:=fun A B μ env s R F Q E kk=>(h A B μ env s R F).use fun v s' g ⟨d,hk,r⟩=>kk v s' g ⟨_,hk,r.fg⟩
theorem D2 {x:Str}{m:Nat}{pos:Pos}{k:D→Prop}(h:∀ t,Ω.t0≤t→k (.ca x t)):EV Ω l N ρ σ (.Constant (.str x) m pos) k:=fun A B μ env s R F Q E kk=>wpAny_Constant_str (kk _ _ (.tok ..) ⟨_,h _ F.tk,.ca ..⟩)
theorem Fs.at (F:Fs Ω B μ env N ρ σ s):Fs (Ω.at s.toks) B μ env N ρ σ s:=
 ⟨⟨F.stays,F.clear,F.vars,F.kind,F.globals,F.builtins,F.names,F.hp,F.dK,F.dk,YE _⟩,F.ns,F.cA,F.apart,F.off,F.qA,F.jH,F.nH,F.frame⟩
theorem Fs.BQ {t:Nat}(ht:Ω.t0≤t)(F:Fs (Ω.at t) B μ env N ρ σ s):Fs Ω B μ env N ρ σ s:=
 ⟨⟨F.stays,F.clear,F.vars,F.kind,F.globals,F.builtins,F.names,F.hp,F.dK,F.dk,Ys ht F.tk⟩,F.ns,F.cA,F.apart,F.off,F.qA,F.jH,F.nH,F.frame⟩
noncomputable def Xj (K:Frag)(a:Addr):Option FuncData:=match K.lookup a with
 | some ⟨_,_,.func fd,_⟩=>some fd
 | _=>none
noncomputable def Iz (K:Frag)(fd:FuncData):Bool:=fd.scope.kind==.function&&!fd.scope.isCoroutine&&!fd.scope.isGenerator&&fd.globals==mainGlobals&&fd.builtins==builtinsNs&&fd.closure.isEmpty&&codeIn K fd.code fd.qualname&&decide (fd.scope.names.map (fun x=>x.1)).Nodup
set_option tactic.hygienic true in
theorem b7.of {a:Addr}{fd:FuncData}{body:List Stmt}{N:ay}(e:Xj Ω.K a=some fd)(hb:fd.body=.stmts body)(hn:fd.scope.names=N)(ok:Iz Ω.K fd=true):b7 Ω a fd body N:=by
 simp only [Iz,YR,YK,Bool.not_eq_true',decide_eq_true_eq,List.isEmpty_iff] at ok;obtain ⟨⟨⟨⟨⟨⟨⟨h1,h2⟩,h3⟩,h4⟩,h5⟩,h6⟩,h7⟩,h8⟩:=ok;unfold Xj at e;split at e
 ·rename_i c d W9 sl q;obtain rfl:=Yx e;exact ⟨(aF _ (Ω.qA _ _ q) rfl),hb,hn,h1,h2,h3,h4,h5,h6,fun h st=>codeRec_of (Ω.m6 h st) h7,rv hn.symm h8⟩
 ·exact iZ e
theorem rF.of {a:Addr}{fd:FuncData}{body:List Stmt}{N:ay}(h:b7 Ω a fd body N):rF Ω a:=az (fun o e d=>gY o fd e d) h.base
theorem BJ {P:Pl}{h:Heap}{ds:List D}{vs:List Value}(r:au P h ds vs){xs:List Str}(hl:ds.length=xs.length):c_ P h (xs.zip ds) (xs.zip vs):=
 au.ind (motive:=fun ds vs=>∀ xs:List Str,ds.length=xs.length→c_ P h (xs.zip ds) (xs.zip vs)) (fun xs e=>rv (List.eq_nil_of_length_eq_zero e.symm) .nil)
  (fun d v ds vs x χ i xs e=>by refine cS (fun y l q z=>?_) (Ht e.symm);exact rv q (.cons y d v _ _ x (i l z.symm))) r xs hl
theorem Xe.of_eq {fd:FuncData}{ds:List D}{xs:List Str}(hl:ds.length=xs.length)(h:∀ vs:List Value,vs.length=xs.length→bindArgs fd ⟨vs,[]⟩=pure (xs.zip vs)):Xe Ω fd ds [] (xs.zip ds):=fun A P s vs aV st L rs rk Q E kk=>by
 cases rk;have hv:vs.length=xs.length:=rs.length.trans hl;show wpAny _ _ (bindArgs fd ⟨vs,[]⟩) _ _ _;refine rv (h vs hv) ?_;exact YA (kk _ _ (.refl _) (BJ rs hl))
theorem cj {x:Str}{v:Value}{mg mb:Option Value}(a:mg=some v):mg.or mb=some v:=by refine rv a ?_;rfl
theorem eE {x:Str}{v:Value}{mg mb:Option Value}(a:mg=none)(b:mb=some v):mg.or mb=some v:=by refine rv a (rv b ?_);rfl
noncomputable def eY (P:Params):{fd:FuncData // Xj (hd.heap_1 P) 82=some fd}:=⟨_,rfl⟩
noncomputable def gM:{b:List Stmt // ∀ P,(eY P).1.body=.stmts b}:=⟨_,fun χ=>rfl⟩
noncomputable def gv:{b:ay // ∀ P,(eY P).1.scope.names=b}:=⟨_,fun χ=>rfl⟩
noncomputable def g4 (P:Params):{fd:FuncData // Xj (hd.heap_1 P) 160=some fd}:=⟨_,rfl⟩
noncomputable def kL:{b:List Stmt // ∀ P,(g4 P).1.body=.stmts b}:=⟨_,fun χ=>rfl⟩
noncomputable def jW:{b:ay // ∀ P,(g4 P).1.scope.names=b}:=⟨_,fun χ=>rfl⟩
noncomputable def fQ (P:Params):{fd:FuncData // Xj (hd.heap_1 P) 167=some fd}:=⟨_,rfl⟩
noncomputable def iR:{b:List Stmt // ∀ P,(fQ P).1.body=.stmts b}:=⟨_,fun χ=>rfl⟩
noncomputable def iI:{b:ay // ∀ P,(fQ P).1.scope.names=b}:=⟨_,fun χ=>rfl⟩
noncomputable def fS (P:Params):{fd:FuncData // Xj (hd.heap_1 P) 174=some fd}:=⟨_,rfl⟩
noncomputable def iT:{b:List Stmt // ∀ P,(fS P).1.body=.stmts b}:=⟨_,fun χ=>rfl⟩
noncomputable def iK:{b:ay // ∀ P,(fS P).1.scope.names=b}:=⟨_,fun χ=>rfl⟩
noncomputable def fR (P:Params):{fd:FuncData // Xj (hd.heap_1 P) 181=some fd}:=⟨_,rfl⟩
noncomputable def iS:{b:List Stmt // ∀ P,(fR P).1.body=.stmts b}:=⟨_,fun χ=>rfl⟩
noncomputable def iJ:{b:ay // ∀ P,(fR P).1.scope.names=b}:=⟨_,fun χ=>rfl⟩
noncomputable def g9 (P:Params):{fd:FuncData // Xj (hd.heap_1 P) 188=some fd}:=⟨_,rfl⟩
noncomputable def kQ:{b:List Stmt // ∀ P,(g9 P).1.body=.stmts b}:=⟨_,fun χ=>rfl⟩
noncomputable def j4:{b:ay // ∀ P,(g9 P).1.scope.names=b}:=⟨_,fun χ=>rfl⟩
noncomputable def qX (P:Params):{fd:FuncData // Xj (hd.heap_1 P) 196=some fd}:=⟨_,rfl⟩
noncomputable def vm:{b:List Stmt // ∀ P,(qX P).1.body=.stmts b}:=⟨_,fun χ=>rfl⟩
noncomputable def uF:{b:ay // ∀ P,(qX P).1.scope.names=b}:=⟨_,fun χ=>rfl⟩
noncomputable def lR (P:Params):{fd:FuncData // Xj (hd.heap_1 P) 254=some fd}:=⟨_,rfl⟩
noncomputable def rz:{b:List Stmt // ∀ P,(lR P).1.body=.stmts b}:=⟨_,fun χ=>rfl⟩
noncomputable def qe:{b:ay // ∀ P,(lR P).1.scope.names=b}:=⟨_,fun χ=>rfl⟩
noncomputable def e7 (P:Params):{fd:FuncData // Xj (hd.heap_1 P) 274=some fd}:=⟨_,rfl⟩
noncomputable def gP:{b:List Stmt // ∀ P,(e7 P).1.body=.stmts b}:=⟨_,fun χ=>rfl⟩
noncomputable def gy:{b:ay // ∀ P,(e7 P).1.scope.names=b}:=⟨_,fun χ=>rfl⟩
noncomputable def g_ (P:Params):{fd:FuncData // Xj (hd.heap_1 P) 281=some fd}:=⟨_,rfl⟩
noncomputable def kR:{b:List Stmt // ∀ P,(g_ P).1.body=.stmts b}:=⟨_,fun χ=>rfl⟩
noncomputable def j5:{b:ay // ∀ P,(g_ P).1.scope.names=b}:=⟨_,fun χ=>rfl⟩
noncomputable def jw (P:Params):{fd:FuncData // Xj (hd.heap_1 P) 288=some fd}:=⟨_,rfl⟩
noncomputable def nM:{b:List Stmt // ∀ P,(jw P).1.body=.stmts b}:=⟨_,fun χ=>rfl⟩
noncomputable def mG:{b:ay // ∀ P,(jw P).1.scope.names=b}:=⟨_,fun χ=>rfl⟩
noncomputable def lS (P:Params):{fd:FuncData // Xj (hd.heap_1 P) 295=some fd}:=⟨_,rfl⟩
noncomputable def rA:{b:List Stmt // ∀ P,(lS P).1.body=.stmts b}:=⟨_,fun χ=>rfl⟩
noncomputable def qf:{b:ay // ∀ P,(lS P).1.scope.names=b}:=⟨_,fun χ=>rfl⟩
noncomputable def nv (P:Params):{fd:FuncData // Xj (hd.heap_1 P) 303=some fd}:=⟨_,rfl⟩
noncomputable def vp:{b:List Stmt // ∀ P,(nv P).1.body=.stmts b}:=⟨_,fun χ=>rfl⟩
noncomputable def uI:{b:ay // ∀ P,(nv P).1.scope.names=b}:=⟨_,fun χ=>rfl⟩
noncomputable def nt (P:Params):{fd:FuncData // Xj (hd.heap_1 P) 311=some fd}:=⟨_,rfl⟩
noncomputable def vn:{b:List Stmt // ∀ P,(nt P).1.body=.stmts b}:=⟨_,fun χ=>rfl⟩
noncomputable def uG:{b:ay // ∀ P,(nt P).1.scope.names=b}:=⟨_,fun χ=>rfl⟩
noncomputable def jy (P:Params):{fd:FuncData // Xj (hd.heap_1 P) 319=some fd}:=⟨_,rfl⟩
noncomputable def rB:{b:List Stmt // ∀ P,(jy P).1.body=.stmts b}:=⟨_,fun χ=>rfl⟩
noncomputable def qg:{b:ay // ∀ P,(jy P).1.scope.names=b}:=⟨_,fun χ=>rfl⟩
noncomputable def jz (P:Params):{fd:FuncData // Xj (hd.heap_1 P) 327=some fd}:=⟨_,rfl⟩
noncomputable def rC:{b:List Stmt // ∀ P,(jz P).1.body=.stmts b}:=⟨_,fun χ=>rfl⟩
noncomputable def qh:{b:ay // ∀ P,(jz P).1.scope.names=b}:=⟨_,fun χ=>rfl⟩
noncomputable def g7 (P:Params):{fd:FuncData // Xj (hd.heap_1 P) 342=some fd}:=⟨_,rfl⟩
noncomputable def kO:{b:List Stmt // ∀ P,(g7 P).1.body=.stmts b}:=⟨_,fun χ=>rfl⟩
noncomputable def jZ:{b:ay // ∀ P,(g7 P).1.scope.names=b}:=⟨_,fun χ=>rfl⟩
noncomputable def g3 (P:Params):{fd:FuncData // Xj (hd.heap_1 P) 379=some fd}:=⟨_,rfl⟩
noncomputable def kK:{b:List Stmt // ∀ P,(g3 P).1.body=.stmts b}:=⟨_,fun χ=>rfl⟩
noncomputable def jV:{b:ay // ∀ P,(g3 P).1.scope.names=b}:=⟨_,fun χ=>rfl⟩
noncomputable def fV (P:Params):{fd:FuncData // Xj (hd.heap_1 P) 386=some fd}:=⟨_,rfl⟩
noncomputable def iW:{b:List Stmt // ∀ P,(fV P).1.body=.stmts b}:=⟨_,fun χ=>rfl⟩
noncomputable def iN:{b:ay // ∀ P,(fV P).1.scope.names=b}:=⟨_,fun χ=>rfl⟩
noncomputable def nu (P:Params):{fd:FuncData // Xj (hd.heap_1 P) 393=some fd}:=⟨_,rfl⟩
noncomputable def vo:{b:List Stmt // ∀ P,(nu P).1.body=.stmts b}:=⟨_,fun χ=>rfl⟩
noncomputable def uH:{b:ay // ∀ P,(nu P).1.scope.names=b}:=⟨_,fun χ=>rfl⟩
noncomputable def fT (P:Params):{fd:FuncData // Xj (hd.heap_1 P) 398=some fd}:=⟨_,rfl⟩
noncomputable def iU:{b:List Stmt // ∀ P,(fT P).1.body=.stmts b}:=⟨_,fun χ=>rfl⟩
noncomputable def iL:{b:ay // ∀ P,(fT P).1.scope.names=b}:=⟨_,fun χ=>rfl⟩
noncomputable def e6 (P:Params):{fd:FuncData // Xj (hd.heap_1 P) 405=some fd}:=⟨_,rfl⟩
noncomputable def gO:{b:List Stmt // ∀ P,(e6 P).1.body=.stmts b}:=⟨_,fun χ=>rfl⟩
noncomputable def gx:{b:ay // ∀ P,(e6 P).1.scope.names=b}:=⟨_,fun χ=>rfl⟩
noncomputable def eZ (P:Params):{fd:FuncData // Xj (hd.heap_1 P) 412=some fd}:=⟨_,rfl⟩
noncomputable def gN:{b:List Stmt // ∀ P,(eZ P).1.body=.stmts b}:=⟨_,fun χ=>rfl⟩
noncomputable def gw:{b:ay // ∀ P,(eZ P).1.scope.names=b}:=⟨_,fun χ=>rfl⟩
noncomputable def jx (P:Params):{fd:FuncData // Xj (hd.heap_1 P) 426=some fd}:=⟨_,rfl⟩
noncomputable def rq:{b:List Stmt // ∀ P,(jx P).1.body=.stmts b}:=⟨_,fun χ=>rfl⟩
noncomputable def qb:{b:ay // ∀ P,(jx P).1.scope.names=b}:=⟨_,fun χ=>rfl⟩
noncomputable def d5 (P:Params):{fd:FuncData // Xj (hd.heap_1 P) 433=some fd}:=⟨_,rfl⟩
noncomputable def fY:{b:List Stmt // ∀ P,(d5 P).1.body=.stmts b}:=⟨_,fun χ=>rfl⟩
noncomputable def fL:{b:ay // ∀ P,(d5 P).1.scope.names=b}:=⟨_,fun χ=>rfl⟩
noncomputable def lQ (P:Params):{fd:FuncData // Xj (hd.heap_1 P) 452=some fd}:=⟨_,rfl⟩
noncomputable def rx:{b:List Stmt // ∀ P,(lQ P).1.body=.stmts b}:=⟨_,fun χ=>rfl⟩
noncomputable def qc:{b:ay // ∀ P,(lQ P).1.scope.names=b}:=⟨_,fun χ=>rfl⟩
noncomputable def g6 (P:Params):{fd:FuncData // Xj (hd.heap_1 P) 457=some fd}:=⟨_,rfl⟩
noncomputable def kN:{b:List Stmt // ∀ P,(g6 P).1.body=.stmts b}:=⟨_,fun χ=>rfl⟩
noncomputable def jY:{b:ay // ∀ P,(g6 P).1.scope.names=b}:=⟨_,fun χ=>rfl⟩
noncomputable def g5 (P:Params):{fd:FuncData // Xj (hd.heap_1 P) 462=some fd}:=⟨_,rfl⟩
noncomputable def kM:{b:List Stmt // ∀ P,(g5 P).1.body=.stmts b}:=⟨_,fun χ=>rfl⟩
noncomputable def jX:{b:ay // ∀ P,(g5 P).1.scope.names=b}:=⟨_,fun χ=>rfl⟩
noncomputable def g8 (P:Params):{fd:FuncData // Xj (hd.heap_1 P) 467=some fd}:=⟨_,rfl⟩
noncomputable def kP:{b:List Stmt // ∀ P,(g8 P).1.body=.stmts b}:=⟨_,fun χ=>rfl⟩
noncomputable def j3:{b:ay // ∀ P,(g8 P).1.scope.names=b}:=⟨_,fun χ=>rfl⟩
noncomputable def lP (P:Params):{fd:FuncData // Xj (hd.heap_1 P) 472=some fd}:=⟨_,rfl⟩
noncomputable def rp:{b:List Stmt // ∀ P,(lP P).1.body=.stmts b}:=⟨_,fun χ=>rfl⟩
noncomputable def p_:{b:ay // ∀ P,(lP P).1.scope.names=b}:=⟨_,fun χ=>rfl⟩
noncomputable def fU (P:Params):{fd:FuncData // Xj (hd.heap_1 P) 479=some fd}:=⟨_,rfl⟩
noncomputable def iV:{b:List Stmt // ∀ P,(fU P).1.body=.stmts b}:=⟨_,fun χ=>rfl⟩
noncomputable def iM:{b:ay // ∀ P,(fU P).1.scope.names=b}:=⟨_,fun χ=>rfl⟩
noncomputable def qV (P:Params):{fd:FuncData // Xj (hd.heap_1 P) 484=some fd}:=⟨_,rfl⟩
noncomputable def vk:{b:List Stmt // ∀ P,(qV P).1.body=.stmts b}:=⟨_,fun χ=>rfl⟩
noncomputable def uE:{b:ay // ∀ P,(qV P).1.scope.names=b}:=⟨_,fun χ=>rfl⟩
noncomputable def qW (P:Params):{fd:FuncData // Xj (hd.heap_1 P) 489=some fd}:=⟨_,rfl⟩
noncomputable def nN:{b:List Stmt // ∀ P,(qW P).1.body=.stmts b}:=⟨_,fun χ=>rfl⟩
noncomputable def mH:{b:ay // ∀ P,(qW P).1.scope.names=b}:=⟨_,fun χ=>rfl⟩
end
section
variable (HK:Ω.K=hd.heap_1 Ω.w.params)
include HK
theorem sm:b7 Ω 82 (eY Ω.w.params).1 gM.1 gv.1:=.of (rv HK ((eY _).2)) (gM.2 _) (gv.2 _) (by refine rv HK ?_;rfl)
theorem xH:b7 Ω 160 (g4 Ω.w.params).1 kL.1 jW.1:=.of (rv HK ((g4 _).2)) (kL.2 _) (jW.2 _) (by refine rv HK ?_;rfl)
theorem mx:b7 Ω 167 (fQ Ω.w.params).1 iR.1 iI.1:=.of (rv HK ((fQ _).2)) (iR.2 _) (iI.2 _) (by refine rv HK ?_;rfl)
theorem iE:b7 Ω 174 (fS Ω.w.params).1 iT.1 iK.1:=.of (rv HK ((fS _).2)) (iT.2 _) (iK.2 _) (by refine rv HK ?_;rfl)
theorem my:b7 Ω 181 (fR Ω.w.params).1 iS.1 iJ.1:=.of (rv HK ((fR _).2)) (iS.2 _) (iJ.2 _) (by refine rv HK ?_;rfl)
theorem o9:b7 Ω 188 (g9 Ω.w.params).1 kQ.1 j4.1:=.of (rv HK ((g9 _).2)) (kQ.2 _) (j4.2 _) (by refine rv HK ?_;rfl)
theorem zE:b7 Ω 196 (qX Ω.w.params).1 vm.1 uF.1:=.of (rv HK ((qX _).2)) (vm.2 _) (uF.2 _) (by refine rv HK ?_;rfl)
theorem wc:b7 Ω 254 (lR Ω.w.params).1 rz.1 qe.1:=.of (rv HK ((lR _).2)) (rz.2 _) (qe.2 _) (by refine rv HK ?_;rfl)
theorem lc:b7 Ω 274 (e7 Ω.w.params).1 gP.1 gy.1:=.of (rv HK ((e7 _).2)) (gP.2 _) (gy.2 _) (by refine rv HK ?_;rfl)
theorem o_:b7 Ω 281 (g_ Ω.w.params).1 kR.1 j5.1:=.of (rv HK ((g_ _).2)) (kR.2 _) (j5.2 _) (by refine rv HK ?_;rfl)
theorem mw:b7 Ω 288 (jw Ω.w.params).1 nM.1 mG.1:=.of (rv HK ((jw _).2)) (nM.2 _) (mG.2 _) (by refine rv HK ?_;rfl)
theorem wd:b7 Ω 295 (lS Ω.w.params).1 rA.1 qf.1:=.of (rv HK ((lS _).2)) (rA.2 _) (qf.2 _) (by refine rv HK ?_;rfl)
theorem zG:b7 Ω 303 (nv Ω.w.params).1 vp.1 uI.1:=.of (rv HK ((nv _).2)) (vp.2 _) (uI.2 _) (by refine rv HK ?_;rfl)
theorem zF:b7 Ω 311 (nt Ω.w.params).1 vn.1 uG.1:=.of (rv HK ((nt _).2)) (vn.2 _) (uG.2 _) (by refine rv HK ?_;rfl)
theorem we:b7 Ω 319 (jy Ω.w.params).1 rB.1 qg.1:=.of (rv HK ((jy _).2)) (rB.2 _) (qg.2 _) (by refine rv HK ?_;rfl)
theorem wf:b7 Ω 327 (jz Ω.w.params).1 rC.1 qh.1:=.of (rv HK ((jz _).2)) (rC.2 _) (qh.2 _) (by refine rv HK ?_;rfl)
theorem xI:b7 Ω 342 (g7 Ω.w.params).1 kO.1 jZ.1:=.of (rv HK ((g7 _).2)) (kO.2 _) (jZ.2 _) (by refine rv HK ?_;rfl)
theorem xG:b7 Ω 379 (g3 Ω.w.params).1 kK.1 jV.1:=.of (rv HK ((g3 _).2)) (kK.2 _) (jV.2 _) (by refine rv HK ?_;rfl)
theorem iF:b7 Ω 386 (fV Ω.w.params).1 iW.1 iN.1:=.of (rv HK ((fV _).2)) (iW.2 _) (iN.2 _) (by refine rv HK ?_;rfl)
theorem FI:b7 Ω 393 (nu Ω.w.params).1 vo.1 uH.1:=.of (rv HK ((nu _).2)) (vo.2 _) (uH.2 _) (by refine rv HK ?_;rfl)
theorem mz:b7 Ω 398 (fT Ω.w.params).1 iU.1 iL.1:=.of (rv HK ((fT _).2)) (iU.2 _) (iL.2 _) (by refine rv HK ?_;rfl)
theorem lb:b7 Ω 405 (e6 Ω.w.params).1 gO.1 gx.1:=.of (rv HK ((e6 _).2)) (gO.2 _) (gx.2 _) (by refine rv HK ?_;rfl)
theorem k_:b7 Ω 412 (eZ Ω.w.params).1 gN.1 gw.1:=.of (rv HK ((eZ _).2)) (gN.2 _) (gw.2 _) (by refine rv HK ?_;rfl)
theorem Cr:b7 Ω 426 (jx Ω.w.params).1 rq.1 qb.1:=.of (rv HK ((jx _).2)) (rq.2 _) (qb.2 _) (by refine rv HK ?_;rfl)
theorem jh:b7 Ω 433 (d5 Ω.w.params).1 fY.1 fL.1:=.of (rv HK ((d5 _).2)) (fY.2 _) (fL.2 _) (by refine rv HK ?_;rfl)
theorem pY:b7 Ω 452 (lQ Ω.w.params).1 rx.1 qc.1:=.of (rv HK ((lQ _).2)) (rx.2 _) (qc.2 _) (by refine rv HK ?_;rfl)
theorem jU:b7 Ω 457 (g6 Ω.w.params).1 kN.1 jY.1:=.of (rv HK ((g6 _).2)) (kN.2 _) (jY.2 _) (by refine rv HK ?_;rfl)
theorem o7:b7 Ω 462 (g5 Ω.w.params).1 kM.1 jX.1:=.of (rv HK ((g5 _).2)) (kM.2 _) (jX.2 _) (by refine rv HK ?_;rfl)
theorem o8:b7 Ω 467 (g8 Ω.w.params).1 kP.1 j3.1:=.of (rv HK ((g8 _).2)) (kP.2 _) (j3.2 _) (by refine rv HK ?_;rfl)
theorem wa:b7 Ω 472 (lP Ω.w.params).1 rp.1 p_.1:=.of (rv HK ((lP _).2)) (rp.2 _) (p_.2 _) (by refine rv HK ?_;rfl)
theorem mA:b7 Ω 479 (fU Ω.w.params).1 iV.1 iM.1:=.of (rv HK ((fU _).2)) (iV.2 _) (iM.2 _) (by refine rv HK ?_;rfl)
theorem zC:b7 Ω 484 (qV Ω.w.params).1 vk.1 uE.1:=.of (rv HK ((qV _).2)) (vk.2 _) (uE.2 _) (by refine rv HK ?_;rfl)
theorem FH:b7 Ω 489 (qW Ω.w.params).1 nN.1 mH.1:=.of (rv HK ((qW _).2)) (nN.2 _) (mH.2 _) (by refine rv HK ?_;rfl)
theorem jt:(Ω.C.mg "_law_bits").or (Ω.C.mb "_law_bits")=some (.ref 452):=cj (x:="_law_bits") (Ω.gl _ _ (by refine rv HK ?_;rfl))
theorem gH:(Ω.C.mg "_law_octets").or (Ω.C.mb "_law_octets")=some (.ref 457):=cj (x:="_law_octets") (Ω.gl _ _ (by refine rv HK ?_;rfl))
theorem nc:(Ω.C.mg "_law_rounds").or (Ω.C.mb "_law_rounds")=some (.ref 462):=cj (x:="_law_rounds") (Ω.gl _ _ (by refine rv HK ?_;rfl))
theorem ng:(Ω.C.mg "_law_layers").or (Ω.C.mb "_law_layers")=some (.ref 467):=cj (x:="_law_layers") (Ω.gl _ _ (by refine rv HK ?_;rfl))
theorem qL:(Ω.C.mg "_law_path").or (Ω.C.mb "_law_path")=some (.ref 472):=cj (x:="_law_path") (Ω.gl _ _ (by refine rv HK ?_;rfl))
theorem lC:(Ω.C.mg "_law_matches").or (Ω.C.mb "_law_matches")=some (.ref 479):=cj (x:="_law_matches") (Ω.gl _ _ (by refine rv HK ?_;rfl))
theorem sW:(Ω.C.mg "_law_met").or (Ω.C.mb "_law_met")=some (.ref 484):=cj (x:="_law_met") (Ω.gl _ _ (by refine rv HK ?_;rfl))
theorem qJ:(Ω.C.mg "b64encode").or (Ω.C.mb "b64encode")=some (.ref 319):=cj (x:="b64encode") (Ω.gl _ _ (by refine rv HK ?_;rfl))
theorem qK:(Ω.C.mg "b64decode").or (Ω.C.mb "b64decode")=some (.ref 327):=cj (x:="b64decode") (Ω.gl _ _ (by refine rv HK ?_;rfl))
theorem oA:(Ω.C.mg "b2a_base64").or (Ω.C.mb "b2a_base64")=some (.ref 311):=cj (x:="b2a_base64") (Ω.gl _ _ (by refine rv HK ?_;rfl))
theorem oB:(Ω.C.mg "a2b_base64").or (Ω.C.mb "a2b_base64")=some (.ref 303):=cj (x:="a2b_base64") (Ω.gl _ _ (by refine rv HK ?_;rfl))
theorem uZ:(Ω.C.mg "_buffer").or (Ω.C.mb "_buffer")=some (.ref 281):=cj (x:="_buffer") (Ω.gl _ _ (by refine rv HK ?_;rfl))
theorem kt:(Ω.C.mg "_ascii_buffer").or (Ω.C.mb "_ascii_buffer")=some (.ref 274):=cj (x:="_ascii_buffer") (Ω.gl _ _ (by refine rv HK ?_;rfl))
theorem pw:(Ω.C.mg "_truth").or (Ω.C.mb "_truth")=some (.ref 288):=cj (x:="_truth") (Ω.gl _ _ (by refine rv HK ?_;rfl))
theorem oC:(Ω.C.mg "_b64_value").or (Ω.C.mb "_b64_value")=some (.ref 295):=cj (x:="_b64_value") (Ω.gl _ _ (by refine rv HK ?_;rfl))
theorem eA:(Ω.C.mg "_bytes_from_decode_data").or (Ω.C.mb "_bytes_from_decode_data")=some (.ref 254):=cj (x:="_bytes_from_decode_data") (Ω.gl _ _ (by refine rv HK ?_;rfl))
theorem iQ:(Ω.C.mg "SequenceMatcher").or (Ω.C.mb "SequenceMatcher")=some (.ref 242):=cj (x:="SequenceMatcher") (Ω.gl _ _ (by refine rv HK ?_;rfl))
theorem AO:(Ω.C.mg "Match").or (Ω.C.mb "Match")=some (.ref 135):=cj (x:="Match") (Ω.gl _ _ (by refine rv HK ?_;rfl))
theorem gI:(Ω.C.mg "TopologicalSorter").or (Ω.C.mb "TopologicalSorter")=some (.ref 443):=cj (x:="TopologicalSorter") (Ω.gl _ _ (by refine rv HK ?_;rfl))
theorem qM:(Ω.C.mg "_NodeInfo").or (Ω.C.mb "_NodeInfo")=some (.ref 346):=cj (x:="_NodeInfo") (Ω.gl _ _ (by refine rv HK ?_;rfl))
theorem ix:(Ω.C.mg "CycleError").or (Ω.C.mb "CycleError")=some (.ref 361):=cj (x:="CycleError") (Ω.gl _ _ (by refine rv HK ?_;rfl))
theorem cu:(Ω.C.mg "range").or (Ω.C.mb "range")=some (.type "range"):=eE (x:="range") (Ω.gl _ _ (by refine rv HK ?_;rfl)) ((Ω.bi _ (by decide)).trans Boot.«range»)
theorem qH:(Ω.C.mg "list").or (Ω.C.mb "list")=some (.type "list"):=eE (x:="list") (Ω.gl _ _ (by refine rv HK ?_;rfl)) ((Ω.bi _ (by decide)).trans Boot.«list»)
theorem gG:(Ω.C.mg "bytes").or (Ω.C.mb "bytes")=some (.type "bytes"):=eE (x:="bytes") (Ω.gl _ _ (by refine rv HK ?_;rfl)) ((Ω.bi _ (by decide)).trans Boot.«bytes»)
theorem qG:(Ω.C.mg "type").or (Ω.C.mb "type")=some (.type "type"):=eE (x:="type") (Ω.gl _ _ (by refine rv HK ?_;rfl)) ((Ω.bi _ (by decide)).trans Boot.«type»)
theorem XZ:(Ω.C.mg "str").or (Ω.C.mb "str")=some (.type "str"):=eE (x:="str") (Ω.gl _ _ (by refine rv HK ?_;rfl)) ((Ω.bi _ (by decide)).trans Boot.«str»)
theorem XN:(Ω.C.mg "bool").or (Ω.C.mb "bool")=some (.type "bool"):=eE (x:="bool") (Ω.gl _ _ (by refine rv HK ?_;rfl)) ((Ω.bi _ (by decide)).trans Boot.«bool»)
theorem sV:(Ω.C.mg "tuple").or (Ω.C.mb "tuple")=some (.type "tuple"):=eE (x:="tuple") (Ω.gl _ _ (by refine rv HK ?_;rfl)) ((Ω.bi _ (by decide)).trans Boot.«tuple»)
theorem uY:(Ω.C.mg "set").or (Ω.C.mb "set")=some (.type "set"):=eE (x:="set") (Ω.gl _ _ (by refine rv HK ?_;rfl)) ((Ω.bi _ (by decide)).trans Boot.«set»)
theorem qI:(Ω.C.mg "enumerate").or (Ω.C.mb "enumerate")=some (.type "enumerate"):=eE (x:="enumerate") (Ω.gl _ _ (by refine rv HK ?_;rfl)) ((Ω.bi _ (by decide)).trans Boot.«enumerate»)
theorem ku:(Ω.C.mg "StopIteration").or (Ω.C.mb "StopIteration")=some (.type "StopIteration"):=eE (x:="StopIteration") (Ω.gl _ _ (by refine rv HK ?_;rfl)) ((Ω.bi _ (by decide)).trans Boot.«StopIteration»)
theorem gF:(Ω.C.mg "len").or (Ω.C.mb "len")=some (.builtin "len"):=eE (x:="len") (Ω.gl _ _ (by refine rv HK ?_;rfl)) ((Ω.bi _ (by decide)).trans Boot.«len»)
theorem GR:(Ω.C.mg "sum").or (Ω.C.mb "sum")=some (.builtin "sum"):=eE (x:="sum") (Ω.gl _ _ (by refine rv HK ?_;rfl)) ((Ω.bi _ (by decide)).trans Boot.«sum»)
theorem x7:(Ω.C.mg "sorted").or (Ω.C.mb "sorted")=some (.builtin "sorted"):=eE (x:="sorted") (Ω.gl _ _ (by refine rv HK ?_;rfl)) ((Ω.bi _ (by decide)).trans Boot.«sorted»)
theorem oz:(Ω.C.mg "isinstance").or (Ω.C.mb "isinstance")=some (.builtin "isinstance"):=eE (x:="isinstance") (Ω.gl _ _ (by refine rv HK ?_;rfl)) ((Ω.bi _ (by decide)).trans Boot.«isinstance»)
theorem Dm:(Ω.C.mg "iter").or (Ω.C.mb "iter")=some (.builtin "iter"):=eE (x:="iter") (Ω.gl _ _ (by refine rv HK ?_;rfl)) ((Ω.bi _ (by decide)).trans Boot.«iter»)
end
theorem sz {n:Nat}(h:Nat.ble n 100000=true):n≤sizeLine:=rv Yy (Ys (Nat.le_of_ble_eq_true h) (by decide))
theorem np (a b:Int)(h:b.natAbs<2^200):Builtin.divisionGoesByPylong a b=false:=by
 unfold Builtin.divisionGoesByPylong;have:(if (b==0)=true then 0 else b.natAbs.log2/30+1)≤300:=by
  split
  ·decide
  ·rename_i h0;have:b.natAbs≠0:=by simpa using h0
   have:=(Nat.log2_lt this).mpr h;exact PZ this
 simp only [Bool.and_eq_false_iff,decide_eq_false_iff_not];left;exact Qk this
theorem mE:∀ {l:List D},(∀ d∈l,eu d=true)→cQ l=true:=by
 intro l
 induction l with
 | nil=>
  intro χ;exact rfl
 | cons d ds ih=>
  intro h;show (eu d&&cQ ds)=true;refine rv (h d (.head _)) (rv (ih fun x m=>h x (.tail _ m)) ?_);rfl
theorem iH {α:Type}{f:α→D}(h:∀ y,eu (f y)=true)(l:List α):cQ (l.map f)=true:=mE fun d m=>by refine az (fun y χ e_1=>?_) (Yt.mp m);subst e_1;exact h y
theorem fK (l:List Int):eu (.list (l.map .int))=true:=iH (fun χ=>rfl) l
theorem iG {d:D}(h:eu d=true):cQ [d]=true:=mE fun χ m=>Yq.mp m▸h
theorem mD {d e:D}(h:eu d=true)(h':eu e=true):cQ [d,e]=true:=Bool.and_eq_true_iff.mpr ⟨h,iG h'⟩
theorem FN {a:Int}{n:Nat}(h:n≤16):Builtin.divisionGoesByPylong a (2^n)=false:=np _ _ (by
 refine rv (Int.natAbs_pow _ _) ?_;exact Nat.pow_lt_pow_right (by decide) (Qr h))
theorem Yd {a:Int}{n:Nat}(h:n≤16):Builtin.divisionGoesByPylong a (256^n)=false:=np _ _ (by
 refine rv (Int.natAbs_pow _ _) (rv (show Int.natAbs 256=2^8 from rfl) (rv (Nat.pow_mul _ _ _).symm ?_));exact Nat.pow_lt_pow_right (by decide) (Qs h))
noncomputable def plain:Nat→D→Bool
 | 0,_=>false
 | n+1,d=>match d with
  | .list xs=>xs.all (plain n)
  | .tup xs=>xs.all (plain n)
  | .none=>true
  | .bool _=>true
  | .int _=>true
  | .str _=>true
  | .bytes _=>true
  | _=>false
theorem kB {f:D→Option D}{d d':D}{ds te:List D}(h:f d=some d')(h':jv f ds=some te):jv f (d::ds)=some (d'::te):=by
 show ((f d).bind fun d'=>(jv f ds).map (d'::·))=_;refine rv h (rv h' ?_);rfl
theorem nh {f:D→Option D}:∀ {xs:List D},(∀ d∈xs,f d=some d)→jv f xs=some xs:=by
 intro xs
 induction xs with
 | nil=>
  intro χ;exact rfl
 | cons d ds ih=>
  intro h;exact kB (h d (Yu ..)) (ih fun x hx=>h x (Yv _ hx))
theorem d7 {σ:Sg}:∀ {n:Nat} {d:D},plain n d=true→u2 σ n d=some d:=by
 intro n
 induction n with
 | zero=>
  intro χ h;exact (Bool.false_ne_true h).elim
 | succ n ih=>
  intro d h;have go:∀ {xs},xs.all (plain n)=true→jv (u2 σ n) xs=some xs:=fun h=>nh fun x hx=>ih (List.all_eq_true.mp h x hx);cases d with
  | list xs=>exact congrArg (Option.map D.list) (go h)
  | tup xs=>exact congrArg (Option.map D.tup) (go h)
  | _=>first | rfl | exact (Bool.false_ne_true h).elim
theorem gW {α:Type}{f:α→D}{n:Nat}(h:∀ y,plain n (f y)=true)(l:List α):plain (n+1) (.list (l.map f))=true:=List.all_eq_true.mpr fun d m=>by refine az (fun y χ e_2=>?_) (Yt.mp m);subst e_2;exact h y
theorem iC {n:Nat}(l:List Int):plain (n+2) (.list (l.map .int))=true:=gW (fun χ=>rfl) l
theorem AQ {σ:Sg}{n i:Nat}{xs:List D}(h:σ.o i=.list xs):u2 σ (n+1) (.loc i)=(jv (u2 σ n) xs).map .list:=by
 show ((LS (σ.o i)).bind fun xs=>(jv (u2 σ n) xs).map D.list)=_;refine rv h ?_;rfl
theorem qP {σ:Sg}{n i:Nat}{xs:List D}(h:σ.o i=.list xs)(hp:∀ d∈xs,plain n d=true):u2 σ (n+1) (.loc i)=some (.list xs):=by
 refine rv (AQ h) (rv (nh fun x hx=>d7 (hp x hx)) ?_);rfl
noncomputable def Xf (n:Nat):List Int:=(List.range n).map fun (i:Nat)=>(i:Int)
noncomputable def Xn (n:Nat):List Int:=(List.range n).map fun (i:Nat)=>(n:Int)-1-(i:Int)
theorem b9 {n:Nat}{y:Int}:y∈Xf n↔0≤y∧y<n:=by
 simp only [Xf,Yt,List.mem_range];exact ⟨az fun i h e=>Th h e,fun h=>(aF y.toNat (Ke h.1 h.2) (Hs h.1))⟩
theorem j9 {n:Nat}{y:Int}:y∈Xn n↔0≤y∧y<n:=by
 simp only [Xn,Yt,List.mem_range];exact ⟨az fun i h e=>Ti h e,fun h=>(aF ((n-1-y).toNat) (T2 h.1 h.2) (TZ h.2))⟩
theorem r8 (m:Nat):ed ((m:Int)-1) (-1) (-1)=(Xn m).map .int:=by
 have hn:(Builtin.Range.rangeSize ((m:Int)-1) (-1) (-1)).toNat=m:=rv (rangeSize_downNat _ _) Rw;unfold ed;refine rv hn ?_;simp only [rangeInts,Xn,List.map_map];refine YL fun i χ=>?_;simp only [Function.comp];congr 1;exact R2
theorem og (m:Nat):Builtin.Range.rangeSize 0 m 1=m:=by
 unfold Builtin.Range.rangeSize;refine rv (YH (by decide)) (rv (Int.ediv_one _) ?_);split<;>lia -abstractProof
theorem jc (m:Nat):(Builtin.Range.rangeSize 0 m 1).toNat=m:=by refine rv (og _) ?_;rfl
theorem oW (m:Nat):ed 0 m 1=(Xf m).map .int:=by
 unfold ed;refine rv (jc _) ?_;simp only [rangeInts,Xf,List.map_map];refine YL fun i χ=>?_;simp only [Function.comp];congr 1;exact Qc
theorem aJ (n:Nat):(Xf n).length=n:=by simp [Xf]
theorem aA (n:Nat):(Xn n).length=n:=by simp [Xn]
theorem rU {m:Nat}(h:m≤1000000):Builtin.Range.small 0 m 1=true:=PySem.small_one (by decide) (by decide) (Qe) (Qy h)
theorem bI.all {elt:PySem.Expr}{x:Str}{scope:Scope}{α:Type}{f:α→D}{k:List D→Prop}{ys:List α}(g:α→D)(hz:ys.length≤sizeLine)(he:∀ y∈ys,EV Ω l (ib N scope.names) ((x,f y)::bQ scope.names ρ) σ elt fun r=>r=g y)(hk:k (ys.map g)):bI Ω l N ρ σ elt x [] scope f k ys:=
 ⟨hz,fun χ=>true,g,fun y hy=>⟨rfl,fun χ=>he y hy⟩,rv (List.filter_eq_self.mpr (fun χ χ=>rfl)) hk⟩
theorem bI.cond {elt e:PySem.Expr}{x:Str}{scope:Scope}{α:Type}{f:α→D}{k:List D→Prop}{ys:List α}(p:α→Bool)(g:α→D)(hz:ys.length≤sizeLine)(ht:∀ y∈ys,TV Ω l (ib N scope.names) ((x,f y)::bQ scope.names ρ) σ e fun b=>b=p y)(he:∀ y∈ys,p y=true→EV Ω l (ib N scope.names) ((x,f y)::bQ scope.names ρ) σ elt fun r=>r=g y)(hk:k ((ys.filter p).map g)):bI Ω l N ρ σ elt x [e] scope f k ys:=
 ⟨hz,p,g,fun y hy=>⟨ht y hy,he y hy⟩,hk⟩
section
variable {k:D→Prop}{kb:Bool→Prop}{ki:Int→Prop}{kl:List D→Prop}{kv:Value→Prop}
theorem bm {a b:Int}(h:k (.int (a+b))):fz .Add (.int a) (.int b) k:=h
theorem Ge {a b:Str}(h:k (.str (a++b)))(z:a.length+b.length≤sizeLine):fz .Add (.str a) (.str b) k:=⟨z,h⟩
theorem lM {a b:List D}(h:k (.list (a++b)))(z:a.length+b.length≤sizeLine):fz .Add (.list a) (.list b) k:=⟨z,h⟩
theorem bY {a b:Int}(h:k (.int (a-b))):fz .Sub (.int a) (.int b) k:=h
theorem mV {a b:Int}(h:k (.int (a*b)))(z:IntMulOk a b):fz .Mult (.int a) (.int b) k:=⟨z,h⟩
theorem eW {a b:Int}(h:k (.int (a/b)))(z:0<b)(y:Builtin.divisionGoesByPylong a b=false):fz .FloorDiv (.int a) (.int b) k:=⟨On z,y,rv (Int.fdiv_eq_ediv_of_nonneg _ (Int.le_of_lt z)) h⟩
theorem ew {a b:Int}(h:k (.int (a%b)))(z:0<b):fz .Mod (.int a) (.int b) k:=⟨On z,rv (Int.fmod_eq_emod_of_nonneg _ (Int.le_of_lt z)) h⟩
theorem Ae {a n:Int}(h:k (.int (a^n.toNat)))(z:0≤n)(y:(Builtin.Int.intBits a:Int)*n≤2^27):fz .Pow (.int a) (.int n) k:=⟨z,y,h⟩
theorem qx {a b:Int}(h:k (.int (Builtin.bitAnd a b))):fz .BitAnd (.int a) (.int b) k:=h
theorem I0 {a b:Int}(h:k (.int (Builtin.bitOr a b))):fz .BitOr (.int a) (.int b) k:=h
theorem km {a n:Int}(h:k (.int (a/(2^n.toNat))))(z:0≤n):fz .RShift (.int a) (.int n) k:=⟨z,rv (Int.fdiv_eq_ediv_of_nonneg _ (Int.le_of_lt (Int.pow_pos (by decide)))) h⟩
theorem kn {a n:Int}(h:k (.int (a*2^n.toNat)))(z:0≤n)(y:(Builtin.Int.intBits a:Int)+n≤2^27):fz .LShift (.int a) (.int n) k:=⟨z,y,h⟩
theorem eV {a b:Int}(h:kb (a==b)):fh .Eq (.int a) (.int b) kb:=h
theorem uO {a b:Str}(h:kb (a==b)):fh .Eq (.str a) (.str b) kb:=h
theorem Gd {a b:List D}{c:Bool}(h:kb c)(z:lT 8 (.list a) (.list b)=some c):fh .Eq (.list a) (.list b) kb:=⟨c,z,h⟩
theorem Ev {a b:Int}(h:kb (a != b)):fh .NotEq (.int a) (.int b) kb:=h
theorem Gb {a b:Bool}(h:kb (a != b)):fh .NotEq (.bool a) (.bool b) kb:=h
theorem kj {a b:List D}{c:Bool}(h:kb (!c))(z:lT 8 (.list a) (.list b)=some c):fh .NotEq (.list a) (.list b) kb:=⟨c,z,h⟩
theorem IZ {a b:Int}(h:kb (decide (a<b))):fh .Lt (.int a) (.int b) kb:=h
theorem Ew {a b:Int}(h:kb (decide (a≤b))):fh .LtE (.int a) (.int b) kb:=h
theorem lg {a b:Int}(h:kb (decide (b≤a))):fh .GtE (.int a) (.int b) kb:=h
theorem Ad {x:D}{xs:List D}{c:Bool}(h:kb c)(z:Xm x=true)(y:XD x xs=some c):fh .In x (.list xs) kb:=by
 cases x<;>exact ⟨z,c,y,h⟩
theorem Gc {y x:Str}(h:kb (!(Builtin.Str.occurrences x y 0 x.length 1).isEmpty)):fh .In (.str y) (.str x) kb:=h
theorem qu {x:D}{xs:List D}{c:Bool}(h:kb (!c))(z:Xm x=true)(y:XD x xs=some c):fh .NotIn x (.list xs) kb:=⟨z,c,y,h⟩
theorem qv {a b:String}(h:kb (a==b)):fh .Is (.val (.type a)) (.val (.type b)) kb:=h
theorem qw {d:D}(h:kb (iu d)):fh .Is d .none kb:=h
theorem jp {d:D}(h:kb (!iu d)):fh .IsNot d .none kb:=h
theorem cy {xs:List D}{i:Int}{d:D}(h:k d)(y:(seqIndex? i xs.length).bind (xs[·]?)=some d)(z:xs.length<2^62):ph (.list xs) (.int i) k:=⟨z,d,y,h⟩
theorem dp {x:Str}{i:Int}{c:Nat}(h:k (.str ⟨#[c]⟩))(y:(seqIndex? i x.length).bind (x.cps[·]?)=some c)(z:(decide (i < -(2^63:Int))||decide (i≥2^63))=false):ph (.str x) (.int i) k:=⟨z,c,y,h⟩
theorem z_ {b:Array UInt8}{i:Int}(h:k (.int (b.toList.getD i.toNat 0).toNat))(y:0≤i)(z:i<(b.size:Int))(z':b.size≤1099511627776):ph (.bytes b) (.int i) k:=⟨z',y,z,h⟩
theorem eU {xs:List D}{lo hi st:Option Int}(h:k (.list (Xs xs lo hi st)))(y:st≠some 0)(z:xs.length≤sizeLine):G2 (.list xs) lo hi st k:=⟨y,z,h⟩
theorem kg {x:Str}{lo hi st:Option Int}(h:k (.str (jG x lo hi st)))(y:(st.getD 1==0)=false)(z:(jG x lo hi st).length≤sizeLine):G2 (.str x) lo hi st k:=⟨y,z,h⟩
theorem bq {i:Int}(h:ki i):bX (.int i) ki:=h
theorem qr {ds:List D}(h:vM ds k):uh "type" ds k:=h
theorem cq {ds:List D}(h:mq ds k):uh "range" ds k:=h
theorem CY {ds:List D}(h:wv ds k):uh "list" ds k:=h
theorem mS {ds:List D}(h:vh ds k):uh "bytes" ds k:=h
theorem sH {x:Array UInt8}(h:k (.val (.type "bytes"))):vM [.bytes x] k:=h
theorem CW {x:Bool}(h:k (.val (.type "bool"))):vM [.bool x] k:=h
theorem sK {n:Int}(h:k (.ip 0 n 1)):mq [.int n] k:=h
theorem LV {a b:Int}(h:k (.ip a b 1)):mq [.int a,.int b] k:=h
theorem IX {a b c:Int}(h:k (.ip a b c))(y:c≠0)(z:Builtin.divisionGoesByPylong (b-a) c=false):mq [.int a,.int b,.int c] k:=⟨y,z,h⟩
theorem F9 {n:Nat}(h:k (.list ((Xf n).map .int)))(z:n≤1000000):wv [.ip 0 n 1] k:=⟨by decide,rU z,rv (jc _) (Qx z),rv (oW _) h⟩
theorem wA {xs:List D}{ns:List Int}(h:k (.bytes (byteArr ns)))(y:eX xs=some ns)(z:∀ n∈ns,0≤n∧n<256)(z':xs.length≤sizeLine):vh [.list xs] k:=⟨ns,y,z,z',h⟩
theorem kh {ds:List D}(h:CS ds k):vj "len" ds k:=h
theorem F_ {ds:List D}(h:Yc ds k):vj "sum" ds k:=h
theorem xT {ds:List D}(h:XA ds k):vj "sorted" ds k:=h
theorem Ga {ds:List D}(h:Gg ds k):vj "isinstance" ds k:=h
theorem lK {xs:List D}(h:k (.int xs.length))(z:xs.length<2^63):CS [.list xs] k:=⟨z,h⟩
theorem z7 {x:Str}(h:k (.int x.length))(z:x.length<2^63):CS [.str x] k:=⟨z,h⟩
theorem CZ {xs:List D}{ns:List Int}(h:k (.int ns.sum))(y:eX xs=some ns):Yc [.list xs] k:=⟨ns,y,h⟩
theorem C0 {xs:List D}{ns:List Int}(h:k (.list ((Xv ns).map .int)))(y:eX xs=some ns)(z:xs.length<64):XA [.list xs] k:=⟨ns,y,z,h⟩
theorem F6 {x:Str}(h:k (.bool true)):Gg [.str x,.val (.type "str")] k:=⟨rfl,h⟩
theorem wy (h:kb false):gn .none kb:=h
theorem dE {b:Bool}(h:kb b):gn (.bool b) kb:=h
theorem F8 {i:Int}(h:kb (i != 0)):gn (.int i) kb:=h
theorem wz {x:List D}(h:kb (!x.isEmpty))(z:(x.length:Int)<2^63):gn (.list x) kb:=⟨z,h⟩
theorem C1 {x y:Str}(h:k (.int (Txt.find x y))):sx "str.find" [.str x,.str y] k:=h
theorem wC {x:Str}{xs:List D}{ys:List Str}(h:k (.str (Txt.join x ys)))(y:i9 xs=some ys)(z:(ys.map (fun x=>x.length)).sum+ys.length*x.length≤16777216):sx "str.join" [.str x,.list xs] k:=⟨ys,y,z,h⟩
theorem z8 {x:D}{xs:List D}{j:Nat}(h:k (.int j))(z:Xm x=true)(y:∃ b,XD x xs=some b)(z':xs.length<2^62)(w:ff x xs=some j):sx "list.index" [.list xs,x] k:=⟨z,y,z',j,w,h⟩
theorem br {xs:List D}(h:kl xs):ia (.list xs) kl:=h
theorem qq {xs:List D}(h:kl xs):ia (.tup xs) kl:=h
theorem sJ {b:Array UInt8}(h:kl (b.toList.map fun c=>.int (c.toNat:Int))):ia (.bytes b) kl:=h
theorem F7 {n:Nat}(h:kl ((Xf n).map .int))(z:n≤1000000):ia (.ip 0 n 1) kl:=⟨by decide,rU z,rv (oW _) h⟩
theorem CX {n:Nat}(h:kl ((Xn n).map .int))(z:n≤1000000):ia (.ip ((n:Int)-1) (-1) (-1)) kl:=⟨by decide,small_down (Qf) (Qz z) (by decide) (by decide),rv (r8 _) h⟩
theorem eT {z:Int}(h:kl ((Xf z.toNat).map .int))(y:0≤z)(y':z≤1000000):ia (.ip 0 z 1) kl:=by
 obtain ⟨n,rfl⟩:=YW y;exact F7 h (NY y')
theorem C2 {z:Int}(h:k (.list ((Xf z.toNat).map .int)))(y:0≤z)(y':z≤1000000):wv [.ip 0 z 1] k:=by
 obtain ⟨n,rfl⟩:=YW y;exact F9 h (NY y')
theorem sI {z:Int}(h:kl ((Xn (z+1).toNat).map .int))(y : -1≤z)(y':z≤900000):ia (.ip z (-1) (-1)) kl:=by
 obtain ⟨n,e⟩:=YW (show 0≤z+1 by exact UJ y);have:z=(n:Int)-1:=by exact T6 e
 subst this;rw [e] at h;exact CX h (by exact QV y')
noncomputable def Le (ρ' ρ:aO):Prop:=∀ x d,ρ'.lookup x=some d→ρ.lookup x=some d
theorem Le.nil {ρ:aO}:Le [] ρ:=fun x d e=>nomatch e
theorem Le.refl {ρ:aO}:Le ρ ρ:=fun x d e=>e
theorem Le.cons {ρ' ρ:aO}{x:Str}{d:D}(h:lk x ρ=some d)(r:Le ρ' ρ):Le ((x,d)::ρ') ρ:=fun y e q=>by
 rw [YS] at q;split at q
 ·rename_i w;have w:=YK.mp w;subst w;rw [be] at h;exact rv h (rv q.symm rfl)
 ·exact r y e q
inductive JV (I:aO→Sg→Prop)(ρ:aO)(σ:Sg):Prop where
 | mk (ρ':aO)(le:Le ρ' ρ)(h:I ρ' σ)
inductive M6 (m:Nat)(C:Nat→Prop):Prop where
 | mk (m':Nat)(e:m=m'+1)(h:C m')
theorem Fs.le (F:Fs Ω B μ env N ρ σ s)(h:Le ρ' ρ):Fs Ω B μ env N ρ' σ s:={ F with vars:=fun x d e=>F.vars x d (h x d e) }
theorem EX.le {ss:List Stmt}{k:Fl→aO→Sg→Prop}(h:Le ρ' ρ)(y:EX Ω l N ρ' σ ss k):EX Ω l N ρ σ ss k:=fun A B μ env s R F=>y A B μ env s R (F.le h)
theorem ES.le {st:Stmt}{k:Fl→aO→Sg→Prop}(h:Le ρ' ρ)(y:ES Ω l N ρ' σ st k):ES Ω l N ρ σ st k:=fun A B μ env s R F=>y A B μ env s R (F.le h)
theorem EX.post {ss:List Stmt}{k:Fl→aO→Sg→Prop}(y:EX Ω l N ρ σ ss fun fl=>JV (k fl)):EX Ω l N ρ σ ss k:=fun A B μ env s R F Q E h=>y A B μ env s R F Q E fun v aD σ' s' x hh=>hh.casesOn fun f ρ' z F' r=>z.casesOn fun h_ le a=>h v aD σ' s' x ⟨f,h_,a,F'.le le,r⟩
theorem bG {io:PySem.Expr}{body:List Stmt}{bC:Sg→Prop}{k:Fl→aO→Sg→Prop}{α:Type}(f:α→D)(I:List α→aO→Sg→Prop)(xs:List α)
  (step:∀ pre x post ρ σ,xs=pre++x::post→I pre ρ σ→w4 bC σ (wW io (f x) ρ) fun bV=>EX Ω l N bV σ body (F3 (JV (I (pre++[x]))) k))
  (fin:∀ ρ σ,I xs ρ σ→bC σ∧k .next ρ σ) (post:List α):∀ (pre:List α) (ρ:aO) (σ:Sg),xs=pre++post→I pre ρ σ→oD Ω l N io body bC (post.map f) ρ σ k:=by
 induction post with
 | nil=>exact fun pre ρ σ e h=>fin ρ σ (rv e (rv (List.append_nil _) h))
 | cons x post i=>
  intro pre ρ σ e h;have go:∀ ρ' σ',JV (I (pre++[x])) ρ' σ'→JV (fun ρ σ=>oD Ω l N io body bC (post.map f) ρ σ k) ρ' σ':=fun ρ' σ' q=>q.casesOn fun h_ le q=>⟨h_,le,i (pre++[x]) h_ σ' (by simp [e]) q⟩;refine (step pre x post ρ σ e h).casesOn fun o bV b y=>⟨o,bV,b,EX.post (y.mono fun fl ρ' σ' q=>?_)⟩;cases fl with
  | next=>exact go ρ' σ' q
  | cont=>exact go ρ' σ' q
  | brk=>exact ⟨ρ',.refl,q⟩
  | ret d=>exact ⟨ρ',.refl,q⟩
theorem d8 {test:PySem.Expr}{body orelse:List Stmt}{k:Fl→aO→Sg→Prop}(I:Nat→aO→Sg→Prop)
  (step:∀ m ρ σ,I m ρ σ→TE Ω l N ρ σ test fun c σ'=>D0 c (M6 m fun m'=>EX Ω l N ρ σ' body (F3 (JV (I m')) k)) (EX Ω l N ρ σ' orelse k)):∀ (m:Nat) (ρ:aO) (σ:Sg),I m ρ σ→jQ Ω l N test body orelse (m+1) ρ σ k
 | m,ρ,σ,h=>by
  refine (step m ρ σ h).mono fun c σ' q=>⟨fun hc=>?_,q.2⟩;obtain ⟨m',rfl,y⟩:=q.1 hc;refine EX.post (y.mono fun fl ρ' σ' q=>?_);cases fl with
  | next=>
   obtain ⟨h_,le,q⟩:=q;exact ⟨h_,le,d8 I step m' h_ σ' q⟩
  | cont=>
   obtain ⟨h_,le,q⟩:=q;exact ⟨h_,le,d8 I step m' h_ σ' q⟩
  | brk=>exact ⟨ρ',.refl,q⟩
  | ret d=>exact ⟨ρ',.refl,q⟩
theorem c8 {ss:List Stmt}{k:Fl→aO→Sg→Prop}(h:∀ K:Fl→aO→Sg→Prop,(∀ f ρ' σ',k f ρ' σ'→K f ρ' σ')→EX Ω l N ρ σ ss K):EX Ω l N ρ σ ss k:=h k fun χ χ χ h=>h
theorem Bv {st:Stmt}{k:Fl→aO→Sg→Prop}(h:∀ K:Fl→aO→Sg→Prop,(∀ f ρ' σ',k f ρ' σ'→K f ρ' σ')→ES Ω l N ρ σ st K):ES Ω l N ρ σ st k:=h k fun χ χ χ h=>h
theorem vt {e:PySem.Expr}{k:Bool→Sg→Prop}(h:∀ K:Bool→Sg→Prop,(∀ c σ',k c σ'→K c σ')→TE Ω l N ρ σ e K):TE Ω l N ρ σ e k:=h k fun χ χ h=>h
noncomputable def sl (l:List Nat):Str:=⟨l.toArray⟩
theorem bk (l:List Nat):(sl l).length=l.length:=by simp [sl,Str.length]
theorem xo (a b:List Nat):sl a++sl b=sl (a++b):=by
 show Str.append (sl a) (sl b)=_;simp [Str.append,sl]
theorem fF {a b:List Nat}(h:sl a=sl b):a=b:=by
 simp only [sl,Str.mk.injEq] at h;simpa using congrArg Array.toList h
theorem y9 (a b:List Nat):(sl a==sl b)=(a==b):=by
 refine rv (propext (Bool.eq_iff_iff)) (rv (propext (YK)) (rv (propext (YK)) ?_));exact ⟨fF,fun h=>rv h rfl⟩
theorem jT {α:Type}(xs:List α)(a k:Nat):((List.range k).map (a+·)).filterMap (xs[·]?)=(xs.drop a).take k:=by
 have:=pick_run xs.toArray a k;simpa using this
theorem fX (xs:List D)(lo hi:Option Int):Xs xs lo hi none=(xs.drop (lo.elim 0 (clipAt xs.length))).take (hi.elim xs.length (clipAt xs.length)-lo.elim 0 (clipAt xs.length)):=by
 unfold Xs;exact rv (sliceBounds_plain _ _ _) (rv (sliceRange_one _ _) (rv (jT _ _ _) rfl))
theorem yi {xs:List D}{a:Int}(h:0≤a):Xs xs (some a) none none=xs.drop a.toNat:=by
 obtain ⟨n,rfl⟩:=YW h;refine rv (fX _ _ _) ?_;simp only [Option.elim,clipAt_nat,YQ]
 by_cases q:n≤xs.length
 ·rw [Nat.min_eq_left q,List.take_of_length_le];simp
 ·refine rv (Nat.min_eq_right (by exact Ef q)) ?_;simp [List.drop_of_length_le (show xs.length≤n by exact Ef q)]
theorem lX {xs:List D}{a:Int}(h:0≤a):Xs xs none (some a) none=xs.take a.toNat:=by
 obtain ⟨n,rfl⟩:=YW h;refine rv (fX _ _ _) ?_;simp only [Option.elim,clipAt_nat,YQ,List.drop_zero,Nat.sub_zero]
 by_cases q:n≤xs.length
 ·exact rv (Nat.min_eq_left q) rfl
 ·exact rv (Nat.min_eq_right (Ef q)) (rv (List.take_of_length_le (YE _)) (rv (List.take_of_length_le (Ef q)) rfl))
theorem yh {xs:List D}:Xs xs none (some (-1)) none=xs.dropLast:=by
 refine rv (fX _ _ _) ?_;have:clipAt xs.length (-1)=xs.length-1:=by unfold clipAt;simp only [show ((-1:Int)<0)=True from eq_true (by decide),if_true];exact Qg
 simp only [Option.elim,this,List.drop_zero,Nat.sub_zero];exact rv List.dropLast_eq_take rfl
theorem rb (xs:List D)(lo hi:Option Int):(Xs xs lo hi none).length≤xs.length:=by
 refine rv (fX _ _ _) ?_;simp only [List.length_take,List.length_drop];exact R_
theorem Bg {α:Type}(xs:List α):(List.range xs.length).filterMap (xs[·]?)=xs:=by
 have h:=jT xs 0 xs.length;have e:(List.range xs.length).map (0+·)=List.range xs.length:=by
  exact rv (show ((0+·):Nat→Nat)=id from funext fun k=>Nat.zero_add k) (rv (List.map_id _) rfl)
 rw [e] at h;simpa using h
theorem zn (n:Nat):(List.range n).map (fun k=>n-1-k)=(List.range n).reverse:=by
 apply List.ext_getElem
 ·simp
 ·intro i h1 h2;simp at h1 h2;simp
theorem A8 {xs:List D}:Xs xs none none (some (-1))=xs.reverse:=by
 unfold Xs;refine rv (krv_bounds _) ?_;show (sliceRange ((xs.length:Int)-1) (-1) (-1)).filterMap (xs[·]?)=_;exact rv (krv_sliceRange _) (rv (zn _) (rv List.filterMap_reverse (rv (Bg _) rfl)))
theorem q_ (l:List Nat)(lo hi:Option Int):jG (sl l) lo hi none=sl ((l.drop (lo.elim 0 (clipAt l.length))).take (hi.elim l.length (clipAt l.length)-lo.elim 0 (clipAt l.length))):=by
 have e:ms (sl l) lo hi none=(List.range (hi.elim l.length (clipAt l.length)-lo.elim 0 (clipAt l.length))).map (lo.elim 0 (clipAt l.length)+·):=by
  have:ms (sl l) lo hi none=sliceRange (sliceBounds lo hi none (sl l).length).1 (sliceBounds lo hi none (sl l).length).2.1 (sliceBounds lo hi none (sl l).length).2.2:=rfl;exact rv this (rv (bk _) (rv (sliceBounds_plain _ _ _) (rv (sliceRange_one _ _) rfl)))
 unfold jG;refine rv e ?_;have p:(sl l).cps=l.toArray:=rfl;have z:clipAt l.length=clipAt l.length:=rfl;have c1:∀ i,clipAt l.length i≤l.length:=fun i=>by unfold clipAt;exact T5
 have c2:lo.elim 0 (clipAt l.length)≤l.length:=by cases lo<;>simp [c1]
 have c3:hi.elim l.length (clipAt l.length)≤l.length:=by cases hi<;>simp [c1]
 generalize lo.elim 0 (clipAt l.length)=a at*;generalize hi.elim l.length (clipAt l.length)=b at*;split
 ·rename_i q;simp only [YR,YK,List.length_map,List.length_range,bk] at q;obtain ⟨_,q⟩:=q;have a0:a=0∨l.length=0:=Sd c3 q;rcases a0 with a0 | a0
  ·subst a0;exact rv List.drop_zero (rv (List.take_of_length_le (Su q)) rfl)
  ·refine rv (List.eq_nil_of_length_eq_zero a0) ?_;simp
 ·show (⟨_⟩:Str)=⟨_⟩;congr 1;have:=jT l a (b-a);refine rv this.symm ?_;congr 2;funext i;simp [p]
theorem hV {l:List Nat}{a:Int}(h:0≤a):jG (sl l) (some a) none none=sl (l.drop a.toNat):=by
 obtain ⟨n,rfl⟩:=YW h;refine rv (q_ _ _ _) ?_;simp only [Option.elim,clipAt_nat,YQ];congr 1
 by_cases q:n≤l.length
 ·rw [Nat.min_eq_left q,List.take_of_length_le];simp
 ·refine rv (Nat.min_eq_right (by exact Ef q)) ?_;simp [List.drop_of_length_le (show l.length≤n by exact Ef q)]
theorem lW {l:List Nat}{a:Int}(h:0≤a):jG (sl l) none (some a) none=sl (l.take a.toNat):=by
 obtain ⟨n,rfl⟩:=YW h;refine rv (q_ _ _ _) ?_;simp only [Option.elim,clipAt_nat,YQ,List.drop_zero,Nat.sub_zero];congr 1
 by_cases q:n≤l.length
 ·exact rv (Nat.min_eq_left q) rfl
 ·exact rv (Nat.min_eq_right (Ef q)) (rv (List.take_of_length_le (YE _)) (rv (List.take_of_length_le (Ef q)) rfl))
theorem A7 {l:List Nat}{a b:Int}(h:0≤a)(h':a≤b)(h2:b≤l.length):jG (sl l) (some a) (some b) none=sl ((l.drop a.toNat).take (b-a).toNat):=by
 obtain ⟨n,rfl⟩:=YW h;obtain ⟨m,rfl⟩:=YW (Int.le_trans h h');refine rv (q_ _ _ _) ?_;simp only [Option.elim,clipAt_nat,YQ];exact rv (Nat.min_eq_left (by exact Sq h2)) (rv (Nat.min_eq_left (by exact TD h2 h')) (rv (show ((m:Int)-n).toNat=m-n by exact R3) rfl))
theorem cx {α:Type}{xs:List α}{i:Int}{d:α}(h:0≤i)(e:xs[i.toNat]? = some d):(seqIndex? i xs.length).bind (xs[·]?)=some d:=by
 have hl:i.toNat<xs.length:=by
  rcases Nat.lt_or_ge i.toNat xs.length with q | q
  ·exact q
  ·exact cc (List.getElem?_eq_none q) e
 unfold seqIndex?;simp only [show ¬ (i<0) by exact UA h,if_false];refine rv (YH (by simp;exact T3 h hl)) ?_;exact e
theorem rZ {α:Type}{xs:List α}{d:α}(e:xs.getLast? = some d):(seqIndex? (-1) xs.length).bind (xs[·]?)=some d:=by
 have hl:xs≠[]:=by rintro rfl;cases e
 have hp:0<xs.length:=List.length_pos_iff.mpr hl;unfold seqIndex?;simp only [show ((-1:Int)<0)=True from eq_true (by decide),if_true];refine rv (YH (by simp;exact Qb hp)) ?_;show xs[((-1:Int)+xs.length).toNat]? = _;refine rv (show ((-1:Int)+xs.length).toNat=xs.length-1 by exact Rp) (rv (List.getLast?_eq_getElem?).symm ?_);exact e
theorem cO {l:List Nat}{i:Int}{c:Nat}(h:0≤i)(e:l[i.toNat]? = some c):(seqIndex? i (sl l).length).bind ((sl l).cps[·]?)=some c:=by
 have:=cx h e;refine rv (bk _) ?_;simpa [sl] using this
theorem wY {α:Type}[BEq α][LawfulBEq α](a b:α):(a==b)=(b==a):=Bool.eq_iff_iff.mpr ⟨fun h=>by rw [YK] at h ⊢;exact h.symm,fun h=>by rw [YK] at h ⊢;exact h.symm⟩
theorem fv (x:Int):∀ l:List Int,XD (.int x) (l.map .int)=some (l.contains x):=by
 intro l
 induction l with
 | nil=>exact rfl
 | cons y l ih=>
  show (match lT 0 (D.int y) (D.int x),XD (.int x) (l.map .int) with | some a,some b=>some (a||b) | _,_=>none)=_;exact rv (ih) (rv (show lT 0 (D.int y) (D.int x)=some (y==x) from rfl) (rv List.contains_cons (rv (wY x y) rfl)))
theorem sO (x:List Nat):∀ l:List (List Nat),XD (.str (sl x)) (l.map fun y=>.str (sl y))=some (l.contains x):=by
 intro l
 induction l with
 | nil=>exact rfl
 | cons y l ih=>
  show (match lT 0 (D.str (sl y)) (D.str (sl x)),XD (.str (sl x)) (l.map fun y=>D.str (sl y)) with | some a,some b=>some (a||b) | _,_=>none)=_;exact rv (ih) (rv (show lT 0 (D.str (sl y)) (D.str (sl x))=some (sl y==sl x) from rfl) (rv (y9 _ _) (rv List.contains_cons (rv (wY x y) rfl))))
theorem jB (n:Nat)(xs:List D):lT (n+1) (.list xs) (.list [])=some xs.isEmpty:=by
 cases xs<;>rfl
theorem yb {f:D→D→Option Bool}:∀ {xs:List D},(∀ d∈xs,f d d=some true)→kG f xs xs=some true:=by
 intro xs
 induction xs with
 | nil=>
  intro χ;exact rfl
 | cons x xs ih=>
  intro h;show ((f x x).bind fun a=>(kG f xs xs).map (a&&·))=_;refine rv (h x (.head _)) (rv (ih fun d m=>h d (.tail _ m)) ?_);rfl
noncomputable def Ox:D→Bool
 | .none=>true
 | .bool _=>true
 | .int _=>true
 | .str _=>true
 | _=>false
noncomputable def qZ:Nat→D→Bool
 | 0,d=>Ox d
 | n+1,d=>match d with
  | .list xs=>xs.all (qZ n)
  | d=>Ox d
theorem ny {α:Type}{f:α→D}{n:Nat}(h:∀ y,qZ n (f y)=true)(l:List α):qZ (n+1) (.list (l.map f))=true:=List.all_eq_true.mpr fun d m=>by refine az (fun y χ e_1=>?_) (Yt.mp m);subst e_1;exact h y
theorem s_ {f:List D→List D→Option Bool}{d:D}{n:Nat}(h:qZ n d=true)(hl:∀ xs,d=.list xs→f xs xs=some true):Yj f d d=some true:=by
 cases d with
 | none=>rfl
 | bool a=>exact congrArg some (beq_self_eq_true a)
 | int a=>exact congrArg some (beq_self_eq_true a)
 | str a=>exact congrArg some (beq_self_eq_true a)
 | list xs=>exact hl xs rfl
 | _=>cases n<;>cases h
theorem nA:∀ {n:Nat} {d:D},qZ n d=true→lT n d d=some true
 | 0,d,h=>s_ h fun xs e=>by subst e;cases h
 | n+1,d,h=>s_ h fun xs e=>by
  subst e;have h':xs.all (qZ n)=true:=h;rw [List.all_eq_true] at h';refine rv (YH rfl) ?_;exact yb fun d m=>nA (h' d m)
theorem gZ:∀ l:List Int,eX (l.map .int)=some l:=by
 intro l
 induction l with
 | nil=>exact rfl
 | cons x l ih=>
  show (eX (l.map .int)).map (x::·)=_;refine rv (ih) ?_;rfl
theorem xi:∀ l:List Str,i9 (l.map .str)=some l:=by
 intro l
 induction l with
 | nil=>exact rfl
 | cons x l ih=>
  show (i9 (l.map .str)).map (x::·)=_;refine rv (ih) ?_;rfl
theorem x9 {β:Type}(f:Nat→β→Sem (ForInStep β))(S:Nat→β):∀ (l:List Nat) (i:Nat),(∀ j x,i≤j→j<i+l.length→f x (S j)=pure (.yield (S (j+1))))→forIn l (S i) f=(pure (S (i+l.length)):Sem β):=by
 intro l
 induction l with
 | nil=>
  intro i χ;simp
 | cons a l ih=>
  intro i h;refine rv (List.forIn_cons _ _ _ _) (rv (h i a (YE _) (by simp)) ?_);show forIn l (S (i+1)) f=_;refine rv (ih (i+1) fun j x h1 h2=>h j x (J' h1) (by simp;exact TB h2)) ?_;congr 2;simp;exact UU
open Builtin in
theorem zh (id:String)(b:Array UInt8)(hb:∀ i,i<b.size→(b.getD i 0).toNat<128)(hz:b.size≤1000):_codecs.runDecoder id _codecs.asciiDecoder none true b 0 []=pure (b.map (fun x=>x.toNat),b.size):=by
 unfold _codecs.runDecoder;simp only [Std.Legacy.Range.forIn_eq_forIn_range',Std.Legacy.Range.size];have e:b.size=0+(List.range' 0 ((b.size-0+1-1)/1)).length:=by simp
 let S:Nat→Nat×Array Nat×_codecs.Faults:=fun j=>(j,(b.map (fun x=>x.toNat)).extract 0 j,({ held:=[] }:_codecs.Faults));have s0:((0,#[],({ held:=[] }:_codecs.Faults)):Nat×Array Nat×_codecs.Faults)=S 0:=by simp [S]
 rw [s0,x9 _ S]
 ·refine rv e.symm ?_;show (pure (((b.map (fun x=>x.toNat)).extract 0 b.size),b.size):Sem (Array Nat×Nat))=_;congr 2;simp
 ·intro j x h1 h2;rw [← e] at h2;have hj:=hb j h2;have z:¬ ((S j).snd.fst.size>sizeLine):=by refine rv Yy ?_;simp [S];exact Q7 hz
  have z':¬ ((S j).fst≥b.size):=by simp [S];exact RO h2
  have fd:_codecs.asciiDecoder.find true b (S j).fst=.text [(b.getD j 0).toNat] (j+1):=by
   show (if (b.getD j 0).toNat<128 then _ else _)=_;refine rv (YH hj) ?_;rfl
  refine rv (Yz z) (rv (Yz z') (rv fd ?_));dsimp only;refine congrArg (fun o=>(pure (ForInStep.yield (j+1,o,({ held:=[] }:_codecs.Faults))):Sem (ForInStep (Nat×Array Nat×_codecs.Faults)))) ?_;show (b.map (fun x=>x.toNat)).extract 0 j++#[(b.getD j 0).toNat]=(b.map (fun x=>x.toNat)).extract 0 (j+1);have q:(b.getD j 0)=b[j]:=by simp [Array.getD,h2]
  refine rv q ?_;apply Array.ext
  ·simp;exact RQ h2
  ·intro i h1 h2;simp at h1 h2;rw [Array.getElem_append];split
   ·simp
   ·rename_i h3;simp at h3;have:i=j:=Ty h2 h3;subst this;simp
theorem u5:∀ (l:List Nat) (acc:Array UInt8),l.foldl (fun acc y=>acc++(Builtin._codecs.asciiCodec.bytesOf y).toArray) acc=acc++(l.map (fun x=>x.toUInt8)).toArray:=by
 intro l
 induction l with
 | nil=>
  intro acc;exact rv List.foldl_nil (rv List.map_nil ((Array.append_empty).symm))
 | cons c l ih=>
  intro acc;refine rv List.foldl_cons (rv (ih _) ?_);show acc++#[c.toUInt8]++_=_;refine rv Array.append_assoc ?_;exact congrArg (acc++·) (List.append_toArray _ _)
theorem sZ {β:Type}{f:Nat→β→Sem (ForInStep β)}{a:Nat}{l:List Nat}{b b':β}(h:f a b=pure (.yield b')):forIn (a::l) b f=(forIn l b' f:Sem β):=by
 refine rv (List.forIn_cons _ _ _ _) (rv h ?_);rfl
theorem u4 {β:Type}{f:Nat→β→Sem (ForInStep β)}{l:List Nat}{b:β}(h:∀ a,f a b=pure (.done b)):forIn l b f=(pure b:Sem β):=by
 cases l with
 | nil=>rfl
 | cons a l=>refine rv (List.forIn_cons _ _ _ _) (rv (h _) ?_);rfl
open Builtin in
theorem Dv (id:String)(v:Value)(x:Str):∃ f:Nat→(Nat×Array UInt8×_codecs.Faults)→Sem (ForInStep (Nat×Array UInt8×_codecs.Faults)),
  _codecs.encodeNarrow id _codecs.asciiCodec none v x=(forIn [0:x.length] (0,#[],({}:_codecs.Faults)) f >>= fun r=>pure r.2.1)∧
  (∀ a i o st c,¬ o.size>sizeLine→x.cps[i]? = some c→_codecs.asciiCodec.bad c=false→(x.cps.extract i x.cps.size).findIdx? _codecs.asciiCodec.bad=none→f a (i,o,st)=pure (.yield (i+(x.cps.extract i x.cps.size).size,((x.cps.extract i x.cps.size).extract 0 (x.cps.extract i x.cps.size).size).foldl (fun acc y=>acc++(_codecs.asciiCodec.bytesOf y).toArray) o,st)))∧
  (∀ a i o st,¬ o.size>sizeLine→x.cps[i]? = none→f a (i,o,st)=pure (.done (i,o,st))):=by
 refine eQ _ rfl (fun a i o st c h hc hb hf=>?_) (fun a i o st h hc=>?_)
 ·dsimp only;refine rv (Yz h) (rv hc ?_);dsimp only;refine rv hb (rv hf ?_);rfl
 ·dsimp only;exact rv (Yz h) (rv hc rfl)
open Builtin in
theorem AZ (id:String)(v:Value)(x:Str)(hb:∀ c∈x.cps.toList,c<128)(hz:x.length≤1000):_codecs.encodeNarrow id _codecs.asciiCodec none v x=pure (x.cps.map (fun x=>x.toUInt8)):=by
 refine db (fun f h0 h1 h2=>?_) (Dv id v x);have Jw:∀ y∈x.cps,_codecs.asciiCodec.bad y=false:=fun y hy=>decide_eq_false (Nat.not_le_of_lt (hb y (Array.mem_toList_iff.mpr hy)));refine rv h0 (rv (Std.Legacy.Range.forIn_eq_forIn_range' _ _ _) ?_);show (forIn (List.range' 0 ((x.length-0+1-1)/1)) _ f >>= _:Sem _)=_;refine rv (Nat.div_one _) (rv (Nat.add_sub_cancel _ _) (rv (Nat.sub_zero _) ?_));have hx:x.cps.size=x.length:=rfl;cases hn:x.length with
 | zero=>
  refine rv (Array.eq_empty_of_size_eq_zero (hx.trans hn)) (rv Array.map_empty ?_);rfl
 | succ n=>
  have n_:0<x.cps.size:=rv hx (rv hn (Nat.succ_pos _));have z1:¬ ((#[]:Array UInt8).size>sizeLine):=Nat.not_lt_zero _;have e1:x.cps.extract 0 x.cps.size=x.cps:=Array.extract_size;have z2:¬ ((x.cps.map (fun x=>x.toUInt8)).size>sizeLine):=rv Array.size_map (rv hx (rv Yy (QA hz)));have s1:=h1 0 0 #[] {} _ z1 (Array.getElem?_eq_getElem n_) (Jw _ (Array.getElem_mem n_)) (rv e1 (Array.findIdx?_eq_none_iff.mpr fun y hy=>Jw y hy));rw [e1,e1,← Array.foldl_toList,u5] at s1;have e2:(#[]:Array UInt8)++(x.cps.toList.map (fun x=>x.toUInt8)).toArray=x.cps.map (fun x=>x.toUInt8):=by
   exact rv Array.empty_append (Array.toList_inj.mp (Array.toList_map ..).symm)
  rw [e2,Nat.zero_add] at s1;refine rv List.range'_succ (rv (sZ s1) (rv (u4 fun a=>h2 a _ _ _ z2 (Array.getElem?_eq_none (YE _))) ?_));rfl
open Builtin in
theorem q7 (x:Str)(t u:Tok)(hb:∀ c∈x.cps.toList,c<128)(hz:x.length≤1000):«str.encode» ⟨[.str x t,.str (Str.ofString "ascii") u],[]⟩=(mkBytes (x.cps.map (fun x=>x.toUInt8)) >>= fun v=>ret v):=by
 have e:«str.encode» ⟨[.str x t,.str (Str.ofString "ascii") u],[]⟩=((_codecs.encodeNarrow "str.encode" _codecs.asciiCodec none (.str x t) x >>= fun b=>mkBytes b) >>= fun v=>ret v):=by kernel_rfl
 refine rv e (rv (AZ _ _ _ hb hz) ?_);rfl
open Builtin in
theorem q9 (c:UInt8)(cs:List UInt8)(t u:Tok):«bytes.decode» ⟨[.bytes (c::cs).toArray t,.str (Str.ofString "ascii") u],[]⟩=(mkStr (Str.ofString "utf-8") >>= fun χ=>mkStr (Str.ofString "ascii") >>= fun e=>mkStr (Str.ofString "bytes.decode") >>= fun d=>
  call (.builtin "_codecs.decode.text") [.bytes (c::cs).toArray t,e,.none,d] >>= fun v=>ret v):=by kernel_rfl
open Builtin in
theorem uz {id:String}{b:Array UInt8}:_codecs.decodeRoad id b (Str.ofString "ascii") none []=(_codecs.runDecoder id _codecs.asciiDecoder none true b 0 [] >>= fun r=>mkStr ⟨r.1⟩):=by kernel_rfl
end
section
variable {t u:Tok}
open Builtin in
theorem ql {x:Str}(hb:∀ c∈x.cps.toList,c<128)(hz:x.length≤1000):Meets («str.encode» ⟨[.str x t,.str (Str.ofString "ascii") u],[]⟩) (fun χ R s=>∀ t' k,R (.ok (.ret (.bytes (x.cps.map (fun x=>x.toUInt8)) t'))) { s with toks:=k }):=by
 refine .of_wp fun prog w A R s h=>?_;refine rv (q7 x t u hb hz) ?_;exact Yo (wpAny_mkBytes (YA (aF _ rfl (h _ _))) (by refine rv Yy ?_;simp;exact Ys hz (by decide)))
theorem tA {x:Str}{Q:Value→Shared→Prop}(hb:∀ c∈x.cps.toList,c<128)(hz:x.length≤1000)(h:∀ t' k,Q (.bytes (x.cps.map (fun x=>x.toUInt8)) t') { s with toks:=k }):
  wpAny (model prog w) A (call (.builtin "str.encode") [.str x t,.str (Str.ofString "ascii") u]) Q E s:=
 call_meets PySem.F.slot_str_encode (typeIs_str _ _ _) PySem.F.entry_str_encode (PySem.F.args_str_encode_2 _ _) (ql hb hz) h
open Builtin in
theorem sB {b:Array UInt8}{t1 t2:Tok}{d:Str}(hb:∀ i,i<b.size→(b.getD i 0).toNat<128)(hz:b.size≤1000):
  Meets («_codecs.decode.text» ⟨[.bytes b t,.str (Str.ofString "ascii") t1,.none,.str d t2],[]⟩) (fun χ R s=>R (.ok (.ret (.str ⟨b.map (fun x=>x.toNat)⟩ s.toks))) { s with toks:=s.toks+1 }):=by
 refine .of_wp fun prog w A R s h=>?_;show wpAny _ _ (Bytes.bytesLike _ (.bytes b t) >>= fun r=>_) _ _ s;refine Yo (wpAny_of_eq KBd.like_eq ?_);refine Yo (wpAny_of_eq KBd.held_eq ?_);show wpAny _ _ (_codecs.decodeRoad _ b (Str.ofString "ascii") none [] >>= fun v=>_) _ _ s;refine rv uz (rv (zh _ _ hb hz) ?_);refine Yo (Yo (YA ?_));exact wpAny_mkStr (YA (aF _ rfl h)) (by refine rv Yy ?_;simp [Str.length];exact K_ hz)
open Builtin in
theorem oq {c:UInt8}{cs:List UInt8}(hb:∀ i,i<(c::cs).toArray.size→((c::cs).toArray.getD i 0).toNat<128)(hz:(c::cs).toArray.size≤1000):
  Meets («bytes.decode» ⟨[.bytes (c::cs).toArray t,.str (Str.ofString "ascii") u],[]⟩) (fun χ R s=>R (.ok (.ret (.str ⟨(c::cs).toArray.map (fun x=>x.toNat)⟩ (s.toks+3)))) { s with toks:=s.toks+4 }):=by
 refine .of_wp fun prog w A R s h=>?_;refine rv (q9 _ _ _ _) ?_;refine Yo (wpAny_mkStr ?_ (by decide));refine Yo (wpAny_mkStr ?_ (by decide));refine Yo (wpAny_mkStr ?_ (by decide));exact Yo (call_function_meets KBd.kind_text KBd.plain_text KBd.entry_text (KBd.args_text _ _ _ _) (sB hb hz) (YA (aF _ rfl h)))
theorem oI (a b:Value):argsOk "bytes.decode" ⟨[a,b],[]⟩:=by unfold argsOk;kernel_rfl
theorem tB {c:UInt8}{cs:List UInt8}{Q:Value→Shared→Prop}(hb:∀ i,i<(c::cs).toArray.size→((c::cs).toArray.getD i 0).toNat<128)(hz:(c::cs).toArray.size≤1000)(h:Q (.str ⟨(c::cs).toArray.map (fun x=>x.toNat)⟩ (s.toks+3)) { s with toks:=s.toks+4 }):
  wpAny (model prog w) A (call (.builtin "bytes.decode") [.bytes (c::cs).toArray t,.str (Str.ofString "ascii") u]) Q E s:=
 call_meets FB.slot_bytes_decode (typeIs_bytes _ _ _) FB.entry_bytes_decode (oI _ _) (oq hb hz) h
end
section
variable {k:D→Prop}
theorem yx {o arg:PySem.Expr}{apos pos:Pos}(hb:bu o=true)(hn:Xc [arg]=true)(fw:(apos.endLine==pos.line)=true)
  (h:EV Ω l N ρ σ o fun d=>∃ x,d=.str x∧EV Ω l N ρ σ arg fun e=>e=.str (Str.ofString "ascii")∧(∀ c∈x.cps.toList,c<128)∧x.length≤1000∧k (.bytes (x.cps.map (fun x=>x.toUInt8)))):
  EV Ω l N ρ σ (.Call (.Attribute o "encode" apos) [arg] [] pos) k:=
 w7 "str.encode" "str" hb hn (show (1:Nat)<30 by decide) fw xN (by decide) (h.mono fun d hd=>by
  revert hd;refine az fun x e_1 hd=>?_;subst e_1;refine ⟨rfl,ae hn (hd.mono fun e he=>ak ?_)⟩;revert he;refine rO fun e_2 hb hz hk=>?_;subst e_2;intro A s P vs R L rs Q E kk;cases rs with | cons _ v _ vs r1 rs=>
  refine az (fun u e_3 r2=>?_) rs.one;subst e_3;refine W_.cK r1 fun ϑ=>?_;refine W_.cK r2 fun ϑ=>?_;exact d9 (tA hb hz fun t' k l=>kk _ _ (.E_ _ _ l) ⟨_,hk,.bytes _ _⟩))
theorem Ho {body orelse:List Stmt}{h₀:ExceptHandler}{hs:List ExceptHandler}{pos:Pos}{k:Fl→aO→Sg→Prop}(h:EX Ω l N ρ σ body (Oy Ω l N orelse k)):ES Ω l N ρ σ (.Try body (h₀::hs) orelse [] pos) k:=fun A B μ env s R F Q E kk=>
 wpAny_Try_except ((h A B μ env s R F).yF fun f aD σ' s' x fl ρ' hk F' r=>by
  cases r with
  | next=>exact (hk A B aD env s' R F').use fun MI bh aM ag pF hh=>kk MI bh aM ag (x.then F pF) hh
  | brk=>exact kk _ aD σ' s' x ⟨.brk,ρ',hk,F',.brk⟩
  | cont=>exact kk _ aD σ' s' x ⟨.cont,ρ',hk,F',.cont⟩
  | ret d v r=>exact kk _ aD σ' s' x ⟨.ret d,ρ',hk,F',.ret d v r⟩)
theorem c_.app {P:Pl}{h:Heap}{ρ ρ':aO}{bs MP:List (Str×Value)}(r:c_ P h ρ bs)(r':c_ P h ρ' MP):c_ P h (ρ++ρ') (bs++MP):=
 c_.rec (motive:=fun ρ bs χ=>c_ P h (ρ++ρ') (bs++MP)) r' (fun y d v ρ bs x χ i=>.cons y d v _ _ x i) r
theorem KR {P:Pl}{h:Heap}{kw:List (Str×D)}{vs:List Value}(r:au P h (kw.map (fun x=>x.2)) vs):c_ P h kw ((kw.map (fun x=>x.1)).zip vs):=by
 induction kw generalizing vs with
 | nil=>exact .nil
 | cons p kw i=>
  cases r with
  | cons _ v _ vs r rs=>exact .cons p.1 p.2 v _ _ r (i rs)
theorem Xe.Eo {fd:FuncData}{ds:List D}{kw:List (Str×D)}{xs:List Str}(hl:ds.length=xs.length)(h:∀ vs aV:List Value,vs.length=xs.length→aV.length=kw.length→bindArgs fd ⟨vs,(kw.map (fun x=>x.1)).zip aV⟩=pure (xs.zip vs++(kw.map (fun x=>x.1)).zip aV)):Xe Ω fd ds kw (xs.zip ds++kw):=fun A P s vs aV st L rs rk Q E kk=>by
 have hv:vs.length=xs.length:=rs.length.trans hl;have hk:aV.length=kw.length:=rk.length.trans (by simp);refine rv (h vs aV hv hk) ?_;exact YA (kk _ _ (.refl _) ((BJ rs hl).app (KR rk)))
theorem Xe.pZ {fd:FuncData}{ds:List D}{xs:List Str}{T:Addr}{o:Obj}{items:Array Value}{n:Nat}{ex:List (Str×Value)}{exρ:aO}(hd:fd.defaults=.ref T)(ho:Ω.K.lookup T=some o)(hs:o.data=.seq items n)(hl:ds.length=xs.length)
  (h:∀ vs:List Value,vs.length=xs.length→∃ k,bindArgs fd ⟨vs,[]⟩=(seqItems? fd.defaults >>= k)∧k (some items)=pure (xs.zip vs++ex)) (hx:∀ P h,c_ P h exρ ex):Xe Ω fd ds [] (xs.zip ds++exρ):=fun A P s vs aV st L rs rk Q E kk=>by
 cases rk;have hv:vs.length=xs.length:=rs.length.trans hl;refine az (fun k h1 h2=>?_) (h vs hv);show wpAny _ _ (bindArgs fd ⟨vs,[]⟩) _ _ _;refine rv h1 (rv hd ?_);exact Yo (wpAny_seqItems (st _ _ (Ω.qA _ _ ho)) hs (h2▸YA (kk _ _ (.refl _) ((BJ rs hl).app (hx _ _)))))
end
section
variable (HK:Ω.K=hd.heap_1 Ω.w.params)
include HK
theorem G6 (d b:D):Xe Ω (nt Ω.w.params).1 [d] [("newline",b)] [("data",d),("newline",b)]:=Xe.Eo (xs:=["data"]) rfl fun vs aV hv hk=>by
 obtain ⟨a0,rfl⟩:=eJ hv;obtain ⟨a1,rfl⟩:=eJ hk;rfl
theorem DE (d:D):Xe Ω (jy Ω.w.params).1 [d] [] [("s",d),("altchars",.none)]:=Xe.pZ (xs:=["s"]) (T:=312) (ex:=[("altchars",.none)]) (exρ:=[("altchars",.none)]) rfl (by refine rv HK ?_;rfl) rfl rfl (fun vs hv=>by
 obtain ⟨a0,rfl⟩:=eJ hv;exact (aF _ rfl rfl)) (fun P h=>.cons _ _ _ _ _ .none .nil)
omit HK in
noncomputable def vq:List UInt8:=[65,66,67,68,69,70,71,72,73,74,75,76,77,78,79,80,81,82,83,84,85,86,87,88,89,90,97,98,99,100,101,102,103,104,105,106,107,108,109,110,111,112,113,114,115,116,117,118,119,120,121,122,48,49,50,51,52,53,54,55,56,57,43,47]
omit HK in
noncomputable def cz (i:Int):Int:=((vq.getD i.toNat 0).toNat:Int)
theorem qN:(Ω.C.mg "_B64").or (Ω.C.mb "_B64")=some (.bytes ⟨vq⟩ 629):=cj (x:="_B64") (Ω.gl _ _ (by refine rv HK ?_;rfl))
end
theorem yo (a b:Nat):Builtin.bitOr a b=((a |||b:Nat):Int):=by
 unfold Builtin.bitOr Builtin.bitAnd Builtin.bitNot;have h1:decide (0 ≤ -(a:Int)-1)=false:=by simp;exact NX
 have h2:decide (0 ≤ -(b:Int)-1)=false:=by simp;exact NX
 refine rv h1 (rv h2 ?_);show -(-(((-(-(a:Int)-1)-1).toNat |||(-(-(b:Int)-1)-1).toNat:Nat):Int)-1)-1=_;refine rv (show (-(-(a:Int)-1)-1).toNat=a by exact NZ) (rv (show (-(-(b:Int)-1)-1).toNat=b by exact NZ) ?_);exact QT
theorem yp {a b:Int}{n:Nat}(ha:0≤a)(hb:0≤b)(h:b<2^n):Builtin.bitOr (a*2^n) b=a*2^n+b:=by
 obtain ⟨x,rfl⟩:=YW ha;obtain ⟨y,rfl⟩:=YW hb;have hy:y<2^n:=by exact_mod_cast h
 have:=Nat.two_pow_add_eq_or_of_lt hy x;have e:((x:Int)*2^n)=((2^n*x:Nat):Int):=by
  refine rv (Int.natCast_mul _ _) (rv (Int.mul_comm _ _) ?_);congr 1
 refine rv e (rv (yo _ _) (rv this.symm ?_));simp
section
variable {k:D→Prop}
theorem C5 {a:Int}(h:k (.int (a%4))):fz .BitAnd (.int a) (.int 3) k:=by
 refine qx ?_;exact rv (PyProof.Rows.bitAnd_m2 _) h
theorem Af {a:Int}(h:k (.int (a%16))):fz .BitAnd (.int a) (.int 15) k:=by
 refine qx ?_;exact rv (PyProof.Rows.bitAnd_m4 _) h
theorem jq {a:Int}(h:k (.int (a%64))):fz .BitAnd (.int a) (.int 63) k:=by
 refine qx ?_;exact rv (PyProof.Rows.bitAnd_m6 _) h
theorem iO {a:Int}(h:k (.int (a%65536))):fz .BitAnd (.int a) (.int 65535) k:=by
 refine qx ?_;exact rv (PyProof.Rows.bitAnd_m16 _) h
theorem qt {e:Int}(h:k (.int (cz e)))(y:0≤e)(z:e<64):ph (.bytes ⟨vq⟩) (.int e) k:=z_ h y z (Nat.le_of_ble_eq_true (by rfl))
theorem ko {a b n:Int}(h:k (.int (a*2^n.toNat+b)))(ha:0≤a)(hb:0≤b)(hn:b<2^n.toNat):fz .BitOr (.int (a*2^n.toNat)) (.int b) k:=by
 refine I0 ?_;exact rv (yp ha hb hn) h
theorem yg {X Y k:Int}(h:0≤Y∧Y<k):(X*k+Y)/k=X:=by
 exact rv (Int.add_comm _ _) (rv (Int.add_mul_ediv_right _ _ (Int.ne_of_gt (Int.lt_of_le_of_lt h.1 h.2))) (rv (Int.ediv_eq_zero_of_lt h.1 h.2) (rv (Int.zero_add _) rfl)))
theorem CO {X Y k:Int}(h:0≤Y∧Y<k):(X*k+Y)%k=Y:=by
 exact rv (Int.mul_add_emod_self_right _ _ _) (rv (Int.emod_eq_of_lt h.1 h.2) rfl)
theorem dv {x k m c:Int}(hk:0<k)(h:0≤x∧x<c)(e:m*k=c):0≤x/k∧x/k<m:=⟨Int.ediv_nonneg h.1 (Int.le_of_lt hk),Int.ediv_lt_of_lt_mul hk (e▸h.2)⟩
theorem mv (x:Int){k:Int}(hk:0<k):0≤x%k∧x%k<k:=⟨Int.emod_nonneg x (Int.ne_of_gt hk),Int.emod_lt_of_pos x hk⟩
theorem rg {A B m n c:Int}(hA:0≤A∧A<m)(hB:0≤B∧B<n)(hm:m*n=c):0≤A*n+B∧A*n+B<c:=by
 have hn:0≤n:=Int.le_of_lt (Int.lt_of_le_of_lt hB.1 hB.2);refine ⟨Int.add_nonneg (Int.mul_nonneg hA.1 hn) hB.1,?_⟩;have h2:=Int.mul_le_mul_of_nonneg_right (Int.add_one_le_of_lt hA.2) hn;rw [Int.add_mul,Int.one_mul,hm] at h2;exact Int.lt_of_lt_of_le (Int.add_lt_add_left hB.2 _) h2
theorem WO {x y:Int}(hx:0≤x∧x<256)(hy:0≤y∧y<256):(x*256+y)%65536/16%64=x%4*16+y/16:=by
 have hr:=rg hx hy (c:=65536) rfl;have e:x*256+y=((x/4)*64+(x%4*16+y/16))*16+y%16:=by
  have h1:=Int.ediv_mul_add_emod x 4;have h2:=Int.ediv_mul_add_emod y 16;generalize x/4=q at*;generalize y/16=p at*;generalize x%4=r at*;generalize y%16=s at*;clear hr;exact UQ h1 h2
 exact rv (Int.emod_eq_of_lt hr.1 hr.2) (rv e (rv (yg (mv y (by decide))) (rv (CO (rg (c:=64) (m:=4) (n:=16) (mv x (by decide)) (dv (by decide) hy rfl) rfl)) rfl)))
theorem WP {x y z:Int}(hy:0≤y∧y<256)(hz:0≤z∧z<256):((x*256+y)%65536*256+z)%65536=y*256+z:=by
 have e:(x*256+y)%65536*256+z=(((x*256+y)%65536-y)/256)*65536+(y*256+z):=UM;exact rv e (rv (CO (rg (c:=65536) hy hz rfl)) rfl)
theorem WN {y z:Int}(hy:0≤y∧y<256)(hz:0≤z∧z<256):(y*256+z)/64%64=y%16*4+z/64:=by
 have e:y*256+z=((y/16)*64+(y%16*4+z/64))*64+z%64:=by
  have h1:=Int.ediv_mul_add_emod y 16;have h2:=Int.ediv_mul_add_emod z 64;generalize y/16=q at*;generalize z/64=p at*;generalize y%16=r at*;generalize z%64=s at*;exact UR h1 h2
 exact rv e (rv (yg (mv z (by decide))) (rv (CO (rg (c:=64) (m:=16) (n:=4) (mv y (by decide)) (dv (by decide) hz rfl) rfl)) rfl))
theorem WM (y z:Int):(y*256+z)/1%64=z%64:=by
 exact rv (Int.ediv_one _) (rv (show y*256+z=y*4*64+z by exact Uj) (rv (Int.mul_add_emod_self_right _ _ _) rfl))
noncomputable def bv (a:Int)(m:Nat):List Int:=(Xn m).map fun i=>a/2^i.toNat%2
noncomputable def iv (l:List Int):Int:=l.foldl (fun n f=>n*64+f) 0
noncomputable def a8 (l:List Int):List Int:=(Xn (l.length/4*3)).map fun i=>iv l/256^i.toNat%256
end
section
variable (HK:Ω.K=hd.heap_1 Ω.w.params)
include HK
theorem ze (n:Nat)(a:Int)(m:Nat)(hm:m≤16)(k:D→Prop)(h:k (.list ((bv a m).map .int))):CP Ω ⟨n+1,true⟩ 452 [.int a,.int m] [] k:=by
 refine eI rfl rfl rfl (b8 (pY HK) (Xe.of_eq (xs:=["number","many"]) rfl fun vs hv=>by refine jE (fun a0 a1 e_1=>?_) (ka hv);subst e_1;rfl) (by rfl) ?_);dsimp only [qc,rx,List.zip,List.zipWith];refine ac (bg ?_);refine .pure (bz D.int cX (fun χ=>rfl) rfl rfl (cE rfl (cu HK) rfl rfl rfl ?_));refine ae rfl (ap (aa rfl (af (bY (ae rfl (f9 (af (bq (ae rfl (f9 (af (bq (ak (cq (IX (sI ?_ ?_ ?_) ?_ ?_))))))))))))) rfl));refine ⟨Xn m,by exact rv (show ((m:Int)-1+1).toNat=m by exact La) rfl,bI.all (fun y=>.int (a/2^y.toNat%2)) ?_ (fun y hy=>?_) ?_⟩
 ·exact rv (aA _) (rv Yy (NO hm))
 ·have hi:=j9.mp hy;refine ap (ap (aa rfl (ap (af (aa rfl (Ae (eW (af (ew ?_ ?_)) ?_ ?_) ?_ ?_) rfl))) rfl))
  ·rfl
  ·decide
  ·exact Int.pow_pos (by decide)
  ·exact FN (by exact TL hm hi.2)
  ·exact Lb hi.1
  ·have e2:(Builtin.Int.intBits 2:Int)=2:=rfl;exact rv e2 (TM hm hi.2)
 ·refine aF _ (d7 ?_) ?_
  ·exact gW (fun χ=>rfl) _
  ·simpa [bv,Function.comp_def] using h
 all_goals (first | decide | lia -abstractProof | exact np _ _ (by decide))
theorem r5 (n:Nat)(l:List Int)(hl:l.length≤16)(k:D→Prop)(h:k (.list ((a8 l).map .int))):CP Ω ⟨n+1,true⟩ 457 [.list (l.map .int)] [] k:=by
 refine eI rfl (iG (fK l)) rfl (b8 (jU HK) (Xe.of_eq (xs:=["figures"]) rfl fun vs hv=>by obtain ⟨a0,rfl⟩:=eJ hv;rfl) (by rfl) ?_);dsimp only [jY,kN,List.zip,List.zipWith];refine ac (ah rfl rfl ?_);refine EF.pure ?_;refine af (ac ?_);refine ES.le (ρ':=[("figures",D.list (l.map .int)),("number",D.int 0)]) (.cons rfl (.cons rfl .nil)) ?_;refine cF rfl rfl rfl ?_;refine bZ rfl ?_;refine aa rfl (br ?_) rfl;refine bG D.int (fun pre ρ σ=>ρ=([("figures",.list (l.map .int)),("number",.int (iv pre))]:aO)∧σ=.nil) l ?_ ?_ l [] _ _ rfl ⟨rfl,rfl⟩
 ·intro pre x post ρ σ e r_16;obtain ⟨rfl,rfl⟩:=r_16;refine ⟨trivial,_,rfl,?_⟩;refine ac (ah rfl rfl ?_);refine EF.pure ?_;refine ap (ap (aa rfl (af (mV (aa rfl (bm (ao ?_)) rfl) ?_)) rfl))
  ·refine rv (show iv (pre++[x])=iv pre*64+x by simp [iv]) ?_;exact ⟨[_,_],.cons rfl (.cons rfl .nil),rfl,rfl⟩
  ·exact IntMulOk.of_right (by decide)
 ·intro ρ σ r_17;obtain ⟨rfl,rfl⟩:=r_17;refine ⟨trivial,?_⟩;refine ac (bg ?_);refine .pure (bz D.int cX (fun χ=>rfl) rfl rfl (cE rfl (cu HK) rfl rfl rfl ?_));refine ae rfl (ap (ap (ap (gS rfl (gF HK) rfl rfl rfl (ae rfl (aa rfl (ak (kh (lK (af (eW (af (mV (af (bY (ae rfl (f9 (af (bq (ae rfl (f9 (af (bq (ak (cq (IX (sI ?_ ?_ ?_) ?_ ?_))))))))))))) ?_)) ?_ ?_)) ?_))) rfl))))));refine rv (List.length_map _) ?_;refine ⟨Xn (l.length/4*3),by exact rv (show ((l.length:Int)/4*3-1+1).toNat=l.length/4*3 by exact Rv) rfl,bI.all (fun y=>.int (iv l/256^y.toNat%256)) ?_ (fun y hy=>?_) ?_⟩
  ·simp only [List.length_map,List.length_append,List.length_cons,List.length_nil,aJ,aA,Yy];lia -abstractProof
  ·have hi:=j9.mp hy;refine ap (ap (aa rfl (ap (af (aa rfl (Ae (eW (af (ew ?_ ?_)) ?_ ?_) ?_ ?_) rfl))) rfl))
   ·rfl
   ·decide
   ·exact Int.pow_pos (by decide)
   ·exact Yd (by exact TN hl hi.2)
   ·exact Lb hi.1
   ·have e2:(Builtin.Int.intBits 256:Int)=9:=rfl;exact rv e2 (TO hl hi.2)
  ·refine aF _ (d7 ?_) ?_
   ·exact gW (fun χ=>rfl) _
   ·simpa [a8,Function.comp_def] using h
  all_goals (first | decide | exact Qd | exact np _ _ (by decide) | exact IntMulOk.of_right (by decide) | (simp only [List.length_map,List.length_append,List.length_cons,List.length_nil,aJ,aA,Yy];lia -abstractProof))
end
noncomputable def dh (bar:List Int)(o t:Int):Bool:=!(bar.contains (2*o+t%2))
noncomputable def XC (bar last:List Int)(t:Int):List Int:=[t/2,t/2+4].filter fun o=>last.contains o&&dh bar o t
noncomputable def wm (bar last:List Int):List Int:=(Xf 8).filter fun t=>!(XC bar last t).isEmpty
noncomputable def cI (bar:List Int):Nat→List Int
 | 0=>Xf 8
 | k+1=>wm bar (cI bar k)
noncomputable def bT (bar:List Int)(m:Nat):List (List Int):=(List.range m).map (cI bar)
noncomputable abbrev dL (l:List Int):D:=.list (l.map .int)
noncomputable def H1:D→List Int:=fun d=>match d with
 | .list xs=>xs.map cX
 | _=>[]
theorem ue (l:List Int):H1 (dL l)=l:=by simp [H1,dL,Function.comp_def,cX]
theorem eB {α:Type}(p:α→Bool)(l:List α):(l.filter p).length≤l.length:=Y1 p l
theorem CU (bar:List Int)(k:Nat):(cI bar k).length≤8:=by
 cases k with
 | zero=>simp [cI,Xf]
 | succ k=>exact Ys (eB _ _) (by simp [Xf])
section
variable (HK:Ω.K=hd.heap_1 Ω.w.params)
include HK
theorem zb (n:Nat)(bar:List Int)(hb:bar.length≤16)(k:D→Prop)(h:k (.list ((bT bar 9).map dL))):CP Ω ⟨n+1,true⟩ 467 [dL bar] [] k:=by
 refine eI rfl (iG (fK bar)) rfl (b8 (o8 HK) (Xe.of_eq (xs:=["barred"]) rfl fun vs hv=>by obtain ⟨a0,rfl⟩:=eJ hv;rfl) (by rfl) ?_);dsimp only [j3,kP,List.zip,List.zipWith];refine ac (ah rfl rfl ?_);refine bU (aw rfl (.pure (cE rfl (qH HK) rfl rfl rfl ?_)));refine ae rfl ?_;refine cE rfl (cu HK) rfl rfl rfl ?_;refine ae rfl (af (ak (cq (sK (ak (CY (C2 ?_ ?_ ?_)))))));refine aB ⟨?_,?_⟩
 ·decide
 refine ac ?_;refine ES.le (ρ':=[("barred",dL bar),("layers",D.loc 0)]) (.cons rfl (.cons rfl .nil)) ?_;refine cF rfl rfl rfl ?_;refine bZ rfl ?_;refine cE rfl (cu HK) rfl rfl rfl ?_;refine ae rfl (af (ak (cq (sK (eT ?_ ?_ ?_)))));refine bG D.int (fun pre ρ σ=>ρ=([("barred",dL bar),("layers",D.loc 0)]:aO)∧σ.o 0=.list ((bT bar (pre.length+1)).map dL)) (Xf 8) ?_ ?_ (Xf 8) [] _ _ rfl ⟨rfl,rfl⟩
 ·intro pre x post ρ σ e r_18;obtain ⟨rfl,dF⟩:=r_18;have hpre:pre.length≤8:=by have:=congrArg List.length e;simp [Xf] at this;exact So this
  refine ⟨trivial,_,rfl,?_⟩;refine ac (aL rfl ?_);refine cN "list.append" "list" bo (by decide) rfl rfl (by decide) rfl ?_;refine aa rfl ?_ rfl;refine ⟨0,rfl,by refine rv dF ?_;rfl,aw rfl (.pure (bz D.int cX (fun χ=>rfl) rfl rfl ?_))⟩;refine cE rfl (cu HK) rfl rfl rfl ?_;refine ae rfl (af (ak (cq (sK (eT ?_ ?_ ?_)))));refine ⟨Xf 8,rfl,bI.cond (fun t=>!(XC bar (cI bar pre.length) t).isEmpty) .int (by decide) (fun t ht=>?_) (fun t ht χ=>?_) ?_⟩
  ·have Jj:((bT bar (pre.length+1)).map dL).getLast? = some (dL (cI bar pre.length)):=by simp [bT,List.range_succ]
   refine aC rfl (bz D.int cX (fun χ=>rfl) rfl rfl ?_);refine bM (ae rfl (ap (aa rfl (af (eW (ae rfl (ap (ap (aa rfl (af (eW (af (bm (ak (And.symm ⟨(br ?_),?_⟩)))) ?_ ?_)) rfl)))) ?_ ?_)) rfl)));refine ⟨[t/2,t/2+4],rfl,bI.cond (fun o=>(cI bar pre.length).contains o&&dh bar o t) .int (by simp only [List.length_map,List.length_append,List.length_cons,List.length_nil,aJ,aA,Yy];lia -abstractProof) (fun o ho=>?_) (fun o ho χ=>?_) ?_⟩
   ·refine bO (bD (aC rfl (aa rfl ?_ rfl)));refine tV rfl ?_;refine aa rfl ?_ rfl;refine ⟨0,rfl,_,dF,by simp [bT];exact PT hpre,?_⟩;refine f9 (af (bq (bq ?_)));refine ⟨_,rZ Jj,?_⟩;refine Ad ?_ rfl (fv o _);refine ⟨fun hc=>?_,fun hc=>?_⟩
    ·refine bD (aC rfl (ap (ap (af (aa rfl (mV (ap (aa rfl (af (ew (bm (aa rfl ?_ rfl)) ?_)) rfl)) ?_) rfl)))));refine qu ?_ rfl (fv _ _);refine ⟨fun qC=>fZ ?_,fun qC=>?_⟩
     ·rw [hc,dh,qC];rfl
     ·rw [hc,dh,qC];rfl
     all_goals (first | decide | exact IntMulOk.of_left (by decide))
    ·refine rv hc ?_;rfl
   ·refine aa rfl ?_ rfl;rfl
   ·refine bM (ak (And.symm ⟨?_,?_⟩));refine kj ?_ (jB _ _)
    ·simp [XC]
    ·exact Nat.zero_le _
   all_goals (first | decide | exact np _ _ (by decide) | (simp only [List.length_map,List.length_append,List.length_cons,List.length_nil,aJ,aA,Yy];lia -abstractProof))
  ·refine aa rfl ?_ rfl;rfl
  ·refine aB (bn dF (by simp [bT,Yy];exact PQ hpre) ?_);refine ao ?_;refine ⟨_,.cons rfl (.cons rfl .nil),rfl,?_⟩;simp [bT,List.range_succ,cI,wm,dL]
  all_goals decide
 ·intro ρ σ r_19;obtain ⟨rfl,dF⟩:=r_19;refine ⟨trivial,?_⟩;refine ac (bg ?_);refine .pure ?_;refine aa rfl ?_ rfl;refine aF _ (qP dF (fun d hd=>?_)) ?_
  ·refine az (fun l χ e_1=>?_) (Yt.mp hd);subst e_1;exact iC _
  ·simpa [Xf] using h
 all_goals decide
end
noncomputable def fm (bar:List Int)(layer path:List Int):List Int:=(layer.filter fun o=>o%4==path.headD 0/2&&dh bar o (path.headD 0)).take 1++path
noncomputable def k6 (bar:List Int)(full:List (List Int)):List Int:=full.dropLast.reverse.foldl (fun p l=>fm bar l p) [(full.getLast?.getD []).headD 0]
noncomputable def gr (bar:List Int)(full:List (List Int)):List Int:=bv ((k6 bar full).headD 0) 3++(k6 bar full).tail.map (fun x=>x%2)
theorem y2 {bar layer path:List Int}(h:path≠[]):fm bar layer path≠[]:=by
 simp only [fm,ne_eq,List.append_eq_nil_iff,not_and];exact fun χ=>h
theorem xk {bar layer path:List Int}:(fm bar layer path).length≤path.length+1:=by
 simp only [fm,List.length_append,List.length_take];exact Sp
theorem vK (bar:List Int):∀ (ls:List (List Int)) (p:List Int),p≠[]→ls.foldl (fun p l=>fm bar l p) p≠[]:=by
 intro ls
 induction ls with
 | nil=>
  intro χ h;exact h
 | cons l ls ih=>
  intro p h;exact ih _ (y2 h)
theorem l8 (bar:List Int):∀ (ls:List (List Int)) (p:List Int),(ls.foldl (fun p l=>fm bar l p) p).length≤ls.length+p.length:=by
 intro ls
 induction ls with
 | nil=>
  intro p;simp
 | cons l ls ih=>
  intro p;have:=ih (fm bar l p);have:=xk (bar:=bar) (layer:=l) (path:=p);simp only [List.foldl_cons,List.length_cons];lia -abstractProof
section
variable (HK:Ω.K=hd.heap_1 Ω.w.params)
include HK
theorem Fk (n:Nat)(bar:List Int)(ls:List (List Int))(hb:bar.length≤16)(hn:ls.length≤9)(h8:∀ l∈ls,l.length≤8)(h0:ls.filter (fun l=>!l.isEmpty)≠[])(k:D→Prop)(h:k (dL (gr bar (ls.filter fun l=>!l.isEmpty)))):CP Ω ⟨n+2,true⟩ 472 [.list (ls.map dL),dL bar] [] k:=by
 have hf:∀ l∈ls.filter (fun l=>!l.isEmpty),l.length≤8∧l≠[]:=fun l m=>⟨h8 l (YJ.mp m).1,by have:=(YJ.mp m).2;simpa using this⟩;have Jq:(ls.filter (fun l=>!l.isEmpty)).length≤9:=Ys (eB _ _) hn;refine eI rfl (mD (iH (fun l=>fK l) _) (fK bar)) rfl (b8 (wa HK) (Xe.of_eq (xs:=["layers","barred"]) rfl fun vs hv=>by refine jE (fun a0 a1 e_1=>?_) (ka hv);subst e_1;rfl) (by rfl) ?_);dsimp only [p_,rp,List.zip,List.zipWith];refine ac ?_;refine cw dL H1 ue rfl rfl rfl ?_;refine aa rfl (br ?_) rfl;refine ⟨ls,rfl,bI.cond (fun l=>!l.isEmpty) dL (rv Yy (PN hn)) (fun l hl=>?_) (fun l hl χ=>?_) ?_⟩
 ·refine aC rfl (aa rfl (bM (ak (And.symm ⟨?_,?_⟩))) rfl);refine kj ?_ (jB _ _)
  ·simp
  ·exact Nat.zero_le _
 ·refine aa rfl ?_ rfl;rfl
 generalize ls.filter (fun l=>!l.isEmpty)=full at*;obtain ⟨top,Gm⟩:∃ top,full.getLast? = some top:=by
  cases q:full.getLast? with
  | some t=>exact ⟨t,rfl⟩
  | none=>exact absurd (List.getLast?_eq_none_iff.mp q) h0
 have hm:top∈full:=List.mem_of_getLast? Gm;refine jE (fun t0 tr I7=>?_) (List.exists_cons_of_ne_nil (hf top hm).2);subst I7;refine ac (ah rfl rfl ?_);refine .pure ?_;refine bM (ae rfl ?_);refine aX rfl ?_;refine aX rfl ?_;refine aa rfl (f9 (af (bq ?_))) rfl;refine cy ?_ (rZ (d:=dL (t0::tr)) (by refine rv (List.getLast?_map) (rv Gm ?_);rfl)) (rv (List.length_map _) (PO Jq));refine af ?_;refine cy ?_ (cx (d:=D.int t0) (by decide) (by rfl)) (by have:=(hf _ hm).1;exact rv (List.length_map _) (PS this));refine ak (And.symm ⟨(ac ?_),?_⟩);refine ES.le (ρ':=[("barred",dL bar),("full",.list (full.map dL)),("path",dL [t0])]) (.cons rfl (.cons rfl (.cons rfl .nil))) ?_;refine cF rfl rfl rfl ?_;refine bZ rfl ?_;refine c9 (c9 (aa rfl (aS (bx (f9 (af (bq (bq (aS (eU (aS (aS (bx (f9 (af (bq (bq (eU (br ?_) ?_ ?_)))))))) ?_ ?_)))))))) rfl));refine rv yh (rv A8 (rv List.map_dropLast.symm (rv List.map_reverse.symm ?_)));have hlen:full.dropLast.reverse.length≤8:=by simp;exact PM Jq
 have m_:∀ l∈full.dropLast.reverse,l.length≤8:=fun l m=>(hf l (List.dropLast_subset _ (List.mem_reverse.mp m))).1;have e0:k6 bar full=full.dropLast.reverse.foldl (fun p l=>fm bar l p) [t0]:=by simp [k6,Gm]
 rw [show gr bar full=bv ((k6 bar full).headD 0) 3++(k6 bar full).tail.map (fun x=>x%2) from rfl,e0] at h;generalize full.dropLast.reverse=rest at*;refine bG dL (fun pre ρ σ=>ρ=([("barred",dL bar),("full",.list (full.map dL)),("path",dL (pre.foldl (fun p l=>fm bar l p) [t0]))]:aO)∧σ=.nil) rest ?_ ?_ rest [] _ _ rfl ⟨rfl,rfl⟩
 ·intro pre layer post ρ σ e r_20;obtain ⟨rfl,rfl⟩:=r_20;have Gx:=vK bar pre [t0] (by simp);have g0:_≤pre.length+1:=l8 bar pre [t0];have:pre.length<rest.length:=by refine rv e ?_;simp
  have VO:=m_ layer (by refine rv e ?_;simp);refine ⟨trivial,_,rfl,?_⟩;refine rv YY ?_;simp only [List.foldl_cons,List.foldl_nil];generalize pre.foldl (fun p l=>fm bar l p) [t0]=path at*;refine jE (fun p0 pr e_2=>?_) (List.exists_cons_of_ne_nil Gx);subst e_2;refine ac (ah rfl rfl ?_);refine .pure ?_;refine ap (c9 ?_);refine bz D.int cX (fun χ=>rfl) rfl rfl ?_;refine aa rfl (br ?_) rfl;refine ⟨layer,rfl,bI.cond (fun o=>o%4==p0/2&&dh bar o p0) .int (by simp only [List.length_map,List.length_append,List.length_cons,List.length_nil,aJ,aA,Yy];lia -abstractProof) (fun o ho=>?_) (fun o ho χ=>?_) ?_⟩
  ·refine bO (bD (aC rfl (ap (aa rfl (af (ew (ap ?_) ?_)) rfl))));refine aX rfl ?_;refine aa rfl (af ?_) rfl;refine cy ?_ (cx (d:=D.int p0) (by decide) (by rfl)) (rv (List.length_map _) (N7 hlen this g0));refine af (eW (eV ?_) ?_ ?_);refine ⟨fun hc=>?_,fun hc=>?_⟩
   ·refine bD (aC rfl (ap (ap (af (aa rfl (mV (ap ?_) ?_) rfl)))));refine aX rfl ?_;refine aa rfl (af ?_) rfl;refine cy ?_ (cx (d:=D.int p0) (by decide) (by rfl)) (rv (List.length_map _) (N7 hlen this g0));refine af (ew (bm (aa rfl ?_ rfl)) ?_);refine qu ?_ rfl (fv _ _);refine ⟨fun qC=>fZ ?_,fun qC=>?_⟩
    ·rw [hc,dh,qC];rfl
    ·rw [hc,dh,qC];rfl
    all_goals (first | decide | exact IntMulOk.of_left (by decide))
   ·refine rv hc ?_;rfl
   all_goals (first | decide | exact np _ _ (by decide))
  ·refine aa rfl ?_ rfl;rfl
  ·refine aS (bx (af (bq (aS (eU (aa rfl (lM (ao ?_) ?_) rfl) ?_ ?_)))));refine rv (lX (by decide)) (rv List.map_take.symm ?_)
   ·refine rv List.map_append.symm ?_;refine ⟨_,?_,rfl,rfl⟩;exact .cons rfl (.cons rfl (.cons rfl .nil))
   ·have:=rb (List.map D.int (List.filter (fun o=>o%4==p0/2&&dh bar o p0) layer)) none (some 1);have:=eB (fun o=>o%4==p0/2&&dh bar o p0) layer;refine rv Yy ?_;simp only [List.length_map] at this ⊢;simp only [List.length_map] at*;lia -abstractProof
   ·decide
   ·have:=eB (fun o=>o%4==p0/2&&dh bar o p0) layer;refine rv Yy (rv (List.length_map _) ?_);exact RE VO this
 ·intro ρ σ r_21;obtain ⟨rfl,rfl⟩:=r_21;have Gx:=vK bar rest [t0] (by simp);have g0:=l8 bar rest [t0];refine ⟨trivial,?_⟩;generalize rest.foldl (fun p l=>fm bar l p) [t0]=path at*;refine jE (fun p0 pr e_3=>?_) (List.exists_cons_of_ne_nil Gx);subst e_3;simp only [List.length_cons,List.length_nil] at g0;refine ac (bg ?_);refine .pure ?_;refine ap ?_;refine d0 rfl (jt HK) (.of (pY HK)) rfl rfl ?_;refine ae rfl ?_;refine aX rfl ?_;refine aa rfl (af ?_) rfl;refine cy ?_ (cx (d:=D.int p0) (by decide) (by rfl)) (by refine rv (List.length_map _) ?_;simp;exact QX hlen g0);refine ae rfl (af (ak ?_));refine ze HK n p0 3 (by decide) _ ?_;refine bz D.int cX (fun χ=>rfl) rfl rfl ?_;refine c9 (aa rfl (bx (af (bq (aS (aS (eU (br ?_) ?_ ?_)))))) rfl);refine rv (yi (by decide)) (rv List.map_drop.symm ?_);refine ⟨pr,rfl,bI.all (fun y=>.int (y%2)) (rv Yy (QW hlen g0)) (fun y hy=>?_) ?_⟩
  ·refine ap (aa rfl (af (ew ?_ ?_)) rfl)
   ·rfl
   ·decide
  ·refine lM ?_ ?_
   ·refine aF _ (d7 ?_) ?_
    ·exact gW (fun χ=>rfl) _
    ·simpa [dL,Function.comp_def] using h
   ·refine rv Yy ?_;simp [bv,aA];exact QY hlen g0
  all_goals (first | decide | (simp only [List.length_map,List.length_append,List.length_cons,List.length_nil,aJ,aA,Yy];lia -abstractProof))
 all_goals first
  | decide
  | exact Nat.zero_le _
  | (simp only [List.length_map,List.length_append,List.length_cons,List.length_nil,aJ,aA,Yy];lia -abstractProof)
  | (have:=rb (full.map dL) none (some (-1));rw [List.length_map] at this;refine rv Yy ?_;exact RD Jq this)
end
noncomputable def XI (t q:List Nat):Bool:=!(Builtin.Str.occurrences (sl t) (sl q) 0 (sl t).length 1).isEmpty
noncomputable def dI (q:List Nat)(k size:Int):List Nat:=(q.drop k.toNat).take size.toNat
noncomputable def Xh (t q:List Nat)(size:Int):List (List Int):=((Xf (5-size).toNat).filter fun k=>XI t (dI q k size)).map fun k=>[k,Txt.find (sl t) (sl (dI q k size)),size]
noncomputable def ft (t q:List Nat):List Int:=(([4,3,2,1]:List Int).findSome? fun size=>(Xh t q size).head?).getD [0,0,0]
theorem g2 {q:List Nat}{k size:Int}(hq:q.length=4)(h0:0≤size)(h:0≤k∧k<((5-size).toNat:Int)):jG (sl q) (some k) (some (k+size)) none=sl (dI q k size):=by
 refine rv (A7 h.1 (by exact T9 h0) (by exact TT hq h.1 h.2)) (rv (show (k+size-k).toNat=size.toNat by exact Ul) ?_);rfl
theorem sf (q:List Nat)(k size:Int):(dI q k size).length≤q.length:=by
 simp only [dI,List.length_take,List.length_drop];exact T7
section
variable (HK:Ω.K=hd.heap_1 Ω.w.params)
include HK
theorem Ia (n:Nat)(t q:List Nat)(hq:q.length=4)(k:D→Prop)(h:k (dL (ft t q))):CP Ω ⟨n+1,true⟩ 484 [.str (sl t),.str (sl q)] [] k:=by
 refine eI rfl rfl rfl (b8 (zC HK) (Xe.of_eq (xs:=["text","quad"]) rfl fun vs hv=>by refine jE (fun a0 a1 e_1=>?_) (ka hv);subst e_1;rfl) (by rfl) ?_);dsimp only [uE,vk,List.zip,List.zipWith];refine ac ?_;refine cF rfl rfl rfl ?_;refine bZ rfl ?_;refine bM (ae rfl (af (ae rfl (af (ae rfl (af (ae rfl (af (ak (And.symm ⟨(br ?_),?_⟩))))))))));refine bG D.int (fun pre ρ σ=>ρ=([("text",.str (sl t)),("quad",.str (sl q))]:aO)∧σ=.nil∧∀ s∈pre,Xh t q s=[]) ([4,3,2,1]:List Int) ?_ ?_ ([4,3,2,1]:List Int) [] _ _ rfl ⟨rfl,rfl,by simp⟩
 ·intro pre size post ρ σ e r_22;revert r_22;refine e8 fun e_1 e_2 hpre=>?_;subst e_1;subst e_2;have hs:1≤size∧size≤4:=by
   have:size∈([4,3,2,1]:List Int):=by refine rv e ?_;simp
   simp at this;exact UI this
  refine ⟨trivial,_,rfl,?_⟩;refine ac ?_;refine cw D.int cX (fun χ=>rfl) rfl rfl rfl ?_;refine cE rfl (cu HK) rfl rfl rfl ?_;refine ae rfl (ap (af (aa rfl (bY (ak (cq (sK (eT ?_ ?_ ?_))))) rfl)));refine ⟨_,rfl,bI.cond (fun k=>XI t (dI q k size)) (fun k=>dL [k,Txt.find (sl t) (sl (dI q k size)),size]) (rv (aJ _) (rv Yy (Uz hs.1))) (fun k hk=>?_) (fun k hk χ=>?_) ?_⟩
  ·have kr:=b9.mp hk;refine aC rfl (c9 (aa rfl (bx (aa rfl (bq (bx (ap (aa rfl (aa rfl (bm (bq (aS (kg (aa rfl (Gc ?_) rfl) ?_ ?_)))) rfl) rfl)))) rfl)) rfl));refine rv (g2 hq (Kd hs.1) kr) ?_
   ·rfl
   ·rfl
   ·refine rv (g2 hq (Kd hs.1) kr) (rv (bk _) (rv Yy ?_));have:=sf q k size;exact Ni hq this
  ·have kr:=b9.mp hk;refine bM (ae rfl (aa rfl (ae rfl ?_) rfl));refine D3 "str.find" "str" CL (by decide) rfl rfl (by decide) rfl ?_;refine aa rfl ?_ rfl;refine ⟨rfl,?_⟩;refine ae rfl (c9 (aa rfl (bx (aa rfl (bq (bx (ap (aa rfl (aa rfl (bm (bq (aS (kg (ak (C1 (ae rfl (aa rfl (ak (And.symm ⟨?_,?_⟩)) rfl)))) ?_ ?_)))) rfl) rfl)))) rfl)) rfl));refine rv (g2 hq (Kd hs.1) kr) ?_
   ·rfl
   ·simp only [List.length_map,List.length_append,List.length_cons,List.length_nil,aJ,aA,Yy];lia -abstractProof
   ·rfl
   ·refine rv (g2 hq (Kd hs.1) kr) (rv (bk _) (rv Yy ?_));have:=sf q k size;exact Ni hq this
  ·have ef:((Xf (5-size).toNat).filter fun k=>XI t (dI q k size)).map (fun k=>dL [k,Txt.find (sl t) (sl (dI q k size)),size])=(Xh t q size).map dL:=by
    simp [Xh,Function.comp_def]
   refine rv ef ?_;refine ac ?_;refine bc (.pure ?_);refine aC rfl (aa rfl (bM (ak (And.symm ⟨?_,?_⟩))) rfl);refine kj ?_ (jB _ _);refine ⟨fun hc=>?_,fun hc=>?_⟩
   ·refine ac (bg ?_);refine .pure ?_;refine aX rfl ?_;refine aa rfl (af ?_) rfl;cases hf:Xh t q size with
    | nil=>rw [hf] at hc;simp at hc
    | cons r rs=>
     refine cy ?_ (cx (d:=dL r) (by decide) (by rfl)) ?_;refine aF _ (d7 ?_) ?_
     ·exact iC _
     ·have:ft t q=r:=by
       have e2:([4,3,2,1]:List Int).findSome? (fun size=>(Xh t q size).head?)=some r:=by
        refine rv e (rv (List.findSome?_append) (rv (List.findSome?_eq_none_iff.mpr (fun s hs=>by rw [hpre s hs];rfl)) ?_));simp [hf]
       rw [ft,e2];rfl
      exact rv this.symm h
     ·have:(Xh t q size).length≤5:=by
       rw [Xh,List.length_map];refine Ys (eB _ _) ?_;exact rv (aJ _) (Uy hs.1)
      rw [hf] at this;refine rv (List.length_map _) ?_;exact PV this
   ·refine ao (ao ?_);refine ⟨_,?_,rfl,rfl,?_⟩
    ·exact .cons rfl (.cons rfl .nil)
    ·intro s hs;rcases Yr.mp hs with hs | hs
     ·exact hpre s hs
     ·refine rv (Yq.mp hs) ?_;have:(Xh t q size).isEmpty=true:=by simpa using hc
      exact List.isEmpty_iff.mp this
   ·exact Nat.zero_le _
  all_goals lia -abstractProof
 ·intro ρ σ r_23;revert r_23;refine e8 fun e_3 e_4 hpre=>?_;subst e_3;subst e_4;refine ⟨trivial,?_⟩;refine ac (bg ?_);refine .pure ?_;refine bM (ae rfl (af (ae rfl (af (ae rfl (af (ak (And.symm ⟨?_,?_⟩))))))));refine aF _ (d7 ?_) ?_
  ·rfl
  ·have e2:([4,3,2,1]:List Int).findSome? (fun size=>(Xh t q size).head?)=none:=List.findSome?_eq_none_iff.mpr (fun s hs=>by refine rv (hpre s hs) ?_;rfl);have:ft t q=[0,0,0]:=by rw [ft,e2];rfl
   rw [this] at h;exact h
  all_goals decide
 all_goals decide
omit HK in
noncomputable def bb (c:Int):Int:=if 65≤c∧c≤90 then c-65 else if 97≤c∧c≤122 then c-71 else if 48≤c∧c≤57 then c+4 else if c=43 then 62 else if c=47 then 63 else 64
omit HK in
theorem mY {p:Prop}[Decidable p]{a b:Int}(h:p→0≤a)(h':0≤b):0≤if p then a else b:=by
 split
 ·exact h (by assumption)
 ·exact h'
omit HK in
theorem yq (c:Int):0≤bb c:=mY (fun h=>Int.sub_nonneg_of_le h.1) (mY (fun h=>Int.sub_nonneg_of_le (Int.le_trans (by decide) h.1)) (mY (fun h=>Int.add_nonneg (Int.le_trans (by decide) h.1) (by decide)) (mY (fun χ=>by decide) (mY (fun χ=>by decide) (by decide)))))
omit HK in
theorem vr {Ω:U}{l:Lv}{N:ay}{ρ:aO}{σ:Sg}{x y:PySem.Expr}{m:Int}{j:Nat}{p pos:Pos}{k:Bool→Prop}(hm:lastMarks [.LtE,.LtE] [y,.Constant (.int m) j p]=false)
  (h:EV Ω l N ρ σ x fun a=>EV Ω l N ρ σ y fun b=>∃ i j,a=.int i∧b=.int j∧k (decide (i≤j∧j≤m))):TV Ω l N ρ σ (.Compare x [.LtE,.LtE] [y,.Constant (.int m) j p] pos) k:=
 DT hm (h.mono fun a ha=>ha.mono fun b hb=>by
  revert hb;refine gf fun i j e_1 e_2 hk=>?_;subst e_1;subst e_2;refine Ew ⟨fun q=>af (Ew ?_),fun q=>?_⟩
  ·have q:=YF q;simpa [q] using hk
  ·have q:=YX q;simpa [q] using hk)
theorem zd (n:Nat)(b:Array UInt8)(k:D→Prop)(h:k (.bytes b)):CP Ω ⟨n+1,true⟩ 281 [.bytes b] [] k:=by
 refine eI rfl rfl rfl (b8 (o_ HK) (Xe.of_eq (xs:=["data"]) rfl fun vs hv=>by obtain ⟨a0,rfl⟩:=eJ hv;rfl) (by rfl) ?_);dsimp only [j5,kR,List.zip,List.zipWith];refine ac (ah rfl rfl ?_);refine .pure (cE rfl (qG HK) rfl rfl rfl ?_);refine ae rfl (aa rfl (ak (qr (sH (ac (bc (.pure (aC rfl (aa rfl ?_ rfl)))))))) rfl);refine aT rfl (gG HK) (.val _ rfl) ?_ rfl;refine qv ?_;refine ⟨fun χ=>?_,fun hc=>absurd hc (by decide)⟩;refine ac (bg ?_);refine .pure ?_;refine aa rfl ?_ rfl;exact aF _ rfl h
theorem vW (n:Nat)(b:Bool)(k:D→Prop)(h:k (.bool b)):CP Ω ⟨n+1,true⟩ 288 [.bool b] [] k:=by
 refine eI rfl rfl rfl (b8 (mw HK) (Xe.of_eq (xs:=["x"]) rfl fun vs hv=>by obtain ⟨a0,rfl⟩:=eJ hv;rfl) (by rfl) ?_);dsimp only [mG,nM,List.zip,List.zipWith];refine ac (ah rfl rfl ?_);refine .pure (cE rfl (qG HK) rfl rfl rfl ?_);refine ae rfl (aa rfl (ak (qr (CW (ac (bc (.pure (bO (EQ (aC rfl (aa rfl (bL (qw ?_)) rfl)))))))))) rfl);refine ⟨fun χ=>?_,fun hc=>absurd hc (by simp [iu])⟩;refine EQ (aC rfl (aa rfl ?_ rfl));refine aT rfl (XN HK) (.val _ rfl) ?_ rfl;refine qv ?_;refine ⟨fun hc=>absurd hc (by decide),fun χ=>?_⟩;refine ⟨fun χ=>?_,fun hc=>absurd hc (by decide)⟩;refine ac (bg ?_);refine .pure (J5 (dz rfl ?_));refine aa rfl (dE ?_) rfl;refine ⟨fun hc=>?_,fun hc=>?_⟩
 ·refine f_ ?_;exact aF _ rfl (hc▸h)
 ·refine f_ ?_;exact aF _ rfl (hc▸h)
theorem Fp (n:Nat)(c:Int)(k:D→Prop)(h:k (.int (bb c))):CP Ω ⟨n+1,true⟩ 295 [.int c] [] k:=by
 refine eI rfl rfl rfl (b8 (wd HK) (Xe.of_eq (xs:=["c"]) rfl fun vs hv=>by obtain ⟨a0,rfl⟩:=eJ hv;rfl) (by rfl) ?_);dsimp only [qf,rA,List.zip,List.zipWith];refine ac (bc (.pure (vr rfl ?_)));refine af (aa rfl ?_ rfl);refine ⟨_,_,rfl,rfl,fun h1=>?_,fun h1=>?_⟩
 ·refine ac (bg ?_);refine .pure ?_;refine ap (aa rfl (af (bY ?_)) rfl);exact aF _ rfl (by simpa [bb,YF h1] using h)
 refine ao (ac (bc (.pure ?_)));refine vr rfl ?_;refine af (aa rfl ?_ rfl);refine ⟨_,_,rfl,rfl,fun h2=>?_,fun h2=>?_⟩
 ·refine ac (bg ?_);refine .pure ?_;refine ap (aa rfl (af (bY ?_)) rfl);exact aF _ rfl (by rw [bb,Yz (YX h1),YH (YF h2)] at h;exact h)
 refine ao (ac (bc (.pure ?_)));refine vr rfl ?_;refine af (aa rfl ?_ rfl);refine ⟨_,_,rfl,rfl,fun h3=>?_,fun h3=>?_⟩
 ·refine ac (bg ?_);refine .pure ?_;refine ap (aa rfl (af (bm ?_)) rfl);exact aF _ rfl (by rw [bb,Yz (YX h1),Yz (YX h2),YH (YF h3)] at h;exact h)
 refine ao (ac (bc (.pure (aC rfl (aa rfl (af (eV ?_)) rfl)))));refine ⟨fun h4=>?_,fun h4=>?_⟩
 ·refine ac (bg ?_);refine .pure ?_;refine af ?_;exact aF _ rfl (by rw [bb,Yz (YX h1),Yz (YX h2),Yz (YX h3),YH (by simpa using h4)] at h;exact h)
 refine ao (ac (bc (.pure (aC rfl (aa rfl (af (eV ?_)) rfl)))));refine ⟨fun h5=>?_,fun h5=>?_⟩
 ·refine ac (bg ?_);refine .pure ?_;refine af ?_;exact aF _ rfl (by rw [bb,Yz (YX h1),Yz (YX h2),Yz (YX h3),Yz (by simpa using h4),YH (by simpa using h5)] at h;exact h)
 refine ao (ac (bg ?_));refine .pure ?_;refine af ?_;exact aF _ rfl (by rw [bb,Yz (YX h1),Yz (YX h2),Yz (YX h3),Yz (by simpa using h4),Yz (by simpa using h5)] at h;exact h)
omit HK in
theorem hY (i:Int):0≤cz i∧cz i<128:=by
 have:∀ n,n<65→(vq.getD n 0).toNat<128:=by decide
 have h2:(vq.getD i.toNat 0).toNat<128:=by
  by_cases q:i.toNat<65
  ·exact this _ q
  ·refine rv (List.getD_eq_getElem?_getD) (rv (List.getElem?_eq_none (show vq.length≤i.toNat by simp [vq];exact Uo q)) ?_);decide
 unfold cz;exact P0 h2
omit HK in
theorem dm {Ω:U}{l:Lv}{N:ay}{test:PySem.Expr}{body orelse:List Stmt}{n:Nat}{ρ:aO}{σ:Sg}{k:Fl→aO→Sg→Prop}(h:TE Ω l N ρ σ test fun c σ'=>D0 c (EX Ω l N ρ σ' body (F3 (fun ρ' aY=>jQ Ω l N test body orelse n ρ' aY k) k)) (EX Ω l N ρ σ' orelse k)):jQ Ω l N test body orelse (n+1) ρ σ k:=h
omit HK in
theorem qT {Ω:U}{l:Lv}{N:ay}{io:PySem.Expr}{body:List Stmt}{bC:Sg→Prop}{x:D}{xs:List D}{ρ bV:aO}{σ:Sg}{k:Fl→aO→Sg→Prop}(ho:bC σ)(hb:wW io x ρ=some bV)(h:EX Ω l N bV σ body (F3 (fun ρ' σ'=>oD Ω l N io body bC xs ρ' σ' k) k)):oD Ω l N io body bC (x::xs) ρ σ k:=⟨ho,bV,hb,h⟩
omit HK in
theorem Gj (a:Int):(Builtin.Int.intBits (a%65536):Int)+8≤2^27:=by
 have:=intBits_le_64 (k:=a%65536) (UH) (Uv);exact PU this
theorem Id (n:Nat)(a b c:UInt8)(k:D→Prop)(h:k (.bytes (byteArr [cz ((a.toNat:Int)/4),cz ((a.toNat:Int)%4*16+(b.toNat:Int)/16),cz ((b.toNat:Int)%16*4+(c.toNat:Int)/64),cz ((c.toNat:Int)%64)]))):
  CP Ω ⟨n+2,true⟩ 311 [.bytes #[a,b,c]] [("newline",.bool false)] k:=by
 refine eI rfl rfl rfl (b8 (zF HK) (G6 HK _ _) (by rfl) ?_);have ha:(a.toNat:Int)<256:=by have:=a.toNat_lt;exact K' this
 have hb:(b.toNat:Int)<256:=by have:=b.toNat_lt;exact K' this
 have hc:(c.toNat:Int)<256:=by have:=c.toNat_lt;exact K' this
 have MC:(0:Int)≤a.toNat:=HS;have My:(0:Int)≤b.toNat:=HS;have KC:(0:Int)≤c.toNat:=HS;dsimp only [uG,vn,List.zip,List.zipWith];refine ac (ah rfl rfl ?_);refine .pure (d0 rfl (uZ HK) (.of (o_ HK)) rfl rfl ?_);refine ae rfl (aa rfl (ak ?_) rfl);refine zd HK n _ _ ?_;refine ac (ah rfl rfl ?_);refine .pure (d0 rfl (pw HK) (.of (mw HK)) rfl rfl ?_);refine ae rfl (aa rfl (ak ?_) rfl);refine vW HK n _ _ ?_;refine ac (ah rfl rfl ?_);refine bU (aB ⟨Nat.zero_le _,?_⟩);refine ac (ah rfl rfl ?_);refine .pure ?_;refine af (ac (ah rfl rfl ?_));refine .pure ?_;refine af (ac ?_);refine cF rfl rfl rfl ?_;refine bZ rfl ?_;refine aa rfl (sJ ?_) rfl;change oD _ _ _ _ _ _ [D.int (a.toNat:Int),D.int (b.toNat:Int),D.int (c.toNat:Int)] _ _ _;generalize (a.toNat:Int)=x at*;generalize (b.toNat:Int)=y at*;generalize (c.toNat:Int)=z at*;refine qT trivial rfl ?_;refine ac (ah rfl rfl ?_);refine .pure ?_;refine ap (ap (ap (aa rfl (af (kn (aa rfl (ko (af (iO (ac (ah rfl rfl ?_)))) ?_ ?_ ?_) rfl) ?_ ?_)) rfl)));refine .pure ?_;refine ap (aa rfl (af (bm (ac ?_))) rfl);refine cM 3 ?_;refine dm (.pure ?_);refine aC rfl (aa rfl (af (lg ?_)) rfl);refine ⟨fun χ=>?_,fun hc=>absurd hc (by decide)⟩;refine ac (aL rfl ?_);refine cN "list.append" "list" bo (by decide) rfl rfl (by decide) rfl ?_;refine aa rfl ?_ rfl;refine ⟨0,rfl,rfl,aw rfl (.pure (aX rfl (aT rfl (qN (by assumption)) (.bytes _ _) ?_ rfl)))⟩;refine ap (ap (aa rfl (ap (aa rfl (af (bY (km (af (jq (qt ?_ ?_ ?_))) ?_))) rfl)) rfl));refine aB (bn rfl (Nat.zero_le _) ?_);refine ac (ah rfl rfl ?_);refine .pure ?_;refine ap (aa rfl (af (bY (ao ?_))) rfl);refine dm (.pure ?_);refine aC rfl (aa rfl (af (lg ?_)) rfl);refine ⟨fun hc=>absurd hc (by decide),fun χ=>?_⟩;refine ao (ao ?_);refine qT trivial rfl ?_;refine ac (ah rfl rfl ?_);refine .pure ?_;refine ap (ap (ap (aa rfl (af (kn (aa rfl (ko (af (iO (ac (ah rfl rfl ?_)))) ?_ ?_ ?_) rfl) ?_ ?_)) rfl)));refine .pure ?_;refine ap (aa rfl (af (bm (ac ?_))) rfl);refine cM 3 ?_;refine dm (.pure ?_);refine aC rfl (aa rfl (af (lg ?_)) rfl);refine ⟨fun χ=>?_,fun hc=>absurd hc (by decide)⟩;refine ac (aL rfl ?_);refine cN "list.append" "list" bo (by decide) rfl rfl (by decide) rfl ?_;refine aa rfl ?_ rfl;refine ⟨0,rfl,rfl,aw rfl (.pure (aX rfl (aT rfl (qN (by assumption)) (.bytes _ _) ?_ rfl)))⟩;refine ap (ap (aa rfl (ap (aa rfl (af (bY (km (af (jq (qt ?_ ?_ ?_))) ?_))) rfl)) rfl));refine aB (bn rfl (by simp only [List.length_map,List.length_append,List.length_cons,List.length_nil,aJ,aA,Yy];lia -abstractProof) ?_);refine ac (ah rfl rfl ?_);refine .pure ?_;refine ap (aa rfl (af (bY (ao ?_))) rfl);refine dm (.pure ?_);refine aC rfl (aa rfl (af (lg ?_)) rfl);refine ⟨fun hc=>absurd hc (by decide),fun χ=>?_⟩;refine ao (ao ?_);refine qT trivial rfl ?_;refine ac (ah rfl rfl ?_);refine .pure ?_;refine ap (ap (ap (aa rfl (af (kn (aa rfl (ko (af (iO (ac (ah rfl rfl ?_)))) ?_ ?_ ?_) rfl) ?_ ?_)) rfl)));refine .pure ?_;refine ap (aa rfl (af (bm (ac ?_))) rfl);refine cM 3 ?_;refine dm (.pure ?_);refine aC rfl (aa rfl (af (lg ?_)) rfl);refine ⟨fun χ=>?_,fun hc=>absurd hc (by decide)⟩;refine ac (aL rfl ?_);refine cN "list.append" "list" bo (by decide) rfl rfl (by decide) rfl ?_;refine aa rfl ?_ rfl;refine ⟨0,rfl,rfl,aw rfl (.pure (aX rfl (aT rfl (qN (by assumption)) (.bytes _ _) ?_ rfl)))⟩;refine ap (ap (aa rfl (ap (aa rfl (af (bY (km (af (jq (qt ?_ ?_ ?_))) ?_))) rfl)) rfl));refine aB (bn rfl (by simp only [List.length_map,List.length_append,List.length_cons,List.length_nil,aJ,aA,Yy];lia -abstractProof) ?_);refine ac (ah rfl rfl ?_);refine .pure ?_;refine ap (aa rfl (af (bY (ao ?_))) rfl);refine dm (.pure ?_);refine aC rfl (aa rfl (af (lg ?_)) rfl);refine ⟨fun χ=>?_,fun hc=>absurd hc (by decide)⟩;refine ac (aL rfl ?_);refine cN "list.append" "list" bo (by decide) rfl rfl (by decide) rfl ?_;refine aa rfl ?_ rfl;refine ⟨0,rfl,rfl,aw rfl (.pure (aX rfl (aT rfl (qN (by assumption)) (.bytes _ _) ?_ rfl)))⟩;refine ap (ap (aa rfl (ap (aa rfl (af (bY (km (af (jq (qt ?_ ?_ ?_))) ?_))) rfl)) rfl));refine aB (bn rfl (by simp only [List.length_map,List.length_append,List.length_cons,List.length_nil,aJ,aA,Yy];lia -abstractProof) ?_);refine ac (ah rfl rfl ?_);refine .pure ?_;refine ap (aa rfl (af (bY (ao ?_))) rfl);refine dm (.pure ?_);refine aC rfl (aa rfl (af (lg ?_)) rfl);refine ⟨fun hc=>absurd hc (by decide),fun χ=>?_⟩;refine ao (ao ?_);refine ⟨trivial,?_⟩;refine ac (bc (.pure (aC rfl (aa rfl (af (eV ?_)) rfl))));refine ⟨fun hc=>absurd hc (by decide),fun χ=>?_⟩;refine ac (bc (.pure (aC rfl (aa rfl (af (eV ?_)) rfl))));refine ⟨fun hc=>absurd hc (by decide),fun χ=>?_⟩;refine ao (ao (ac (bc (.pure ?_))));refine dz rfl ?_;refine aa rfl (dE ?_) rfl;refine ⟨fun hc=>absurd hc (by decide),fun χ=>?_⟩;refine ao (ac (bg ?_));refine .pure (w6 rfl (gG HK) rfl rfl rfl ?_);refine ae rfl (aa rfl (ak (mS ?_)) rfl);refine wA (ns:=[cz (((0*2^Int.toNat 8+x)%65536)/2^Int.toNat (0+8-6)%64),cz (((0*2^Int.toNat 8+x)%65536*2^Int.toNat 8+y)%65536/2^Int.toNat (0+8-6+8-6)%64),
  cz ((((0*2^Int.toNat 8+x)%65536*2^Int.toNat 8+y)%65536*2^Int.toNat 8+z)%65536/2^Int.toNat (0+8-6+8-6+8-6)%64),cz ((((0*2^Int.toNat 8+x)%65536*2^Int.toNat 8+y)%65536*2^Int.toNat 8+z)%65536/2^Int.toNat (0+8-6+8-6+8-6-6)%64)]) ?_ ?_ ?_ ?_
 ·refine ⟨rfl,_,rfl,?_⟩;have e1:((0*2^Int.toNat 8+x)%65536)=x:=rv (Int.zero_mul _) (rv (Int.zero_add _) (Int.emod_eq_of_lt MC (Int.lt_trans ha (by decide))));have p2:(2:Int)^Int.toNat (0+8-6)=4:=rfl;have p4:(2:Int)^Int.toNat (0+8-6+8-6)=16:=rfl;have p6:(2:Int)^Int.toNat (0+8-6+8-6+8-6)=64:=rfl;have p0:(2:Int)^Int.toNat (0+8-6+8-6+8-6-6)=1:=rfl;have p8:(2:Int)^Int.toNat 8=256:=rfl;refine rv e1 (rv p2 (rv p4 (rv p6 (rv p0 (rv p8 ?_)))));have qa:=dv (m:=64) (k:=4) (by decide) ⟨MC,ha⟩ rfl;refine rv (Int.emod_eq_of_lt qa.1 qa.2) (rv (WO ⟨MC,ha⟩ ⟨My,hb⟩) (rv (WP ⟨My,hb⟩ ⟨KC,hc⟩) (rv (WN ⟨My,hb⟩ ⟨KC,hc⟩) (rv (WM _ _) ?_))));exact h
 ·rfl
 ·intro v hv;simp only [YC,List.not_mem_nil,or_false] at hv;rcases hv with rfl | rfl | rfl | rfl<;>exact ⟨(hY _).1,Int.lt_trans (hY _).2 (by decide)⟩
 all_goals first
  | with_reducible exact Int.emod_nonneg _ (by decide)
  | with_reducible exact Gj _
  | with_reducible exact Int.emod_lt_of_pos _ (by decide)
  | (with_reducible show (_:Int)<2^Int.toNat 8;simp only [Int.reduceToNat,Int.reducePow];exact Ur hc)
  | (refine Ys (m:=4) (Nat.le_of_eq rfl) ?_;refine rv Yy ?_;decide)
  | decide
  | lia -abstractProof
  | lia -abstractProof
end
structure Hq where
 q:Int
 l:Int
 out:List Int
noncomputable def cY (s:Hq)(f:Int):Hq:=if s.q=0 then ⟨1,f,s.out⟩ else if s.q=1 then ⟨2,f%16,s.out++[s.l*4+f/16]⟩ else if s.q=2 then ⟨3,f%4,s.out++[s.l*16+f/4]⟩ else ⟨0,0,s.out++[s.l*64+f]⟩
noncomputable def Lz (s:Hq):Prop:=(s.q=0∨s.q=1∧s.l<64∨s.q=2∧s.l<16∨s.q=3∧s.l<4)∧0≤s.l∧∀ n∈s.out,0≤n∧n<256
theorem zH {s:Hq}{f:Int}(h:Lz s)(h0:0≤f)(h1:f<64):Lz (cY s f):=by
 revert h;refine e8 fun hq hl ho=>?_;have add:∀ x:Int,0≤x∧x<256→∀ n∈s.out++[x],0≤n∧n<256:=fun x hx n hn=>by
  rcases Yr.mp hn with hn | hn
  ·exact ho n hn
  ·exact rv (Yq.mp hn) hx
 rcases hq with hq | ⟨hq,hb⟩ | ⟨hq,hb⟩ | ⟨hq,hb⟩<;>simp only [cY,hq,if_true,if_false,show ((1:Int)=0)=False from eq_false (by decide),show ((2:Int)=0)=False from eq_false (by decide),show ((2:Int)=1)=False from eq_false (by decide),show ((3:Int)=0)=False from eq_false (by decide),show ((3:Int)=1)=False from eq_false (by decide),show ((3:Int)=2)=False from eq_false (by decide)]
 ·exact ⟨.inr (.inl ⟨rfl,h1⟩),h0,ho⟩
 ·exact ⟨.inr (.inr (.inl ⟨rfl,show f%16<16 by exact Ux⟩)),show 0≤f%16 by exact Um,add _ (by exact T_ h0 h1 hl hb)⟩
 ·exact ⟨.inr (.inr (.inr ⟨rfl,show f%4<4 by exact Uw⟩)),show 0≤f%4 by exact TU,add _ (by exact Uc h0 h1 hl hb)⟩
 ·exact ⟨.inl rfl,show (0:Int)≤0 by decide,add _ (by exact Ub h0 h1 hl hb)⟩
noncomputable def fH (fs:List Int):Hq:=fs.foldl cY ⟨0,0,[]⟩
theorem r7:∀ (fs:List Int) (s:Hq),(fs.foldl cY s).out.length≤s.out.length+fs.length:=by
 intro fs
 induction fs with
 | nil=>
  intro s;simp
 | cons f fs ih=>
  intro s;have:=ih (cY s f);have h:(cY s f).out.length≤s.out.length+1:=by
   unfold cY;split
   ·simp
   split
   ·simp
   split<;>simp
  simp only [List.foldl_cons,List.length_cons];exact S3 this h
section
variable (HK:Ω.K=hd.heap_1 Ω.w.params)
include HK
theorem ux (n:Nat)(b:Array UInt8)(k:D→Prop)(h:k (.bytes b)):CP Ω ⟨n+1,true⟩ 274 [.bytes b] [] k:=by
 refine eI rfl rfl rfl (b8 (lc HK) (Xe.of_eq (xs:=["data"]) rfl fun vs hv=>by obtain ⟨a0,rfl⟩:=eJ hv;rfl) (by rfl) ?_);dsimp only [gy,gP,List.zip,List.zipWith];refine ac (ah rfl rfl ?_);refine .pure (cE rfl (qG HK) rfl rfl rfl ?_);refine ae rfl (aa rfl (ak (qr (sH (ac (bc (.pure (aC rfl (aa rfl ?_ rfl)))))))) rfl);refine aT rfl (XZ HK) (.val _ rfl) ?_ rfl;refine qv ?_;refine ⟨fun hc=>absurd hc (by decide),fun χ=>?_⟩;refine ao (ac (bc (.pure (aC rfl (aa rfl ?_ rfl)))));refine aT rfl (gG HK) (.val _ rfl) ?_ rfl;refine qv ?_;refine ⟨fun χ=>?_,fun hc=>absurd hc (by decide)⟩;refine ac (bg ?_);refine .pure ?_;refine aa rfl ?_ rfl;exact aF _ rfl h
theorem Fo (n:Nat)(x:Str)(hb:∀ c∈x.cps.toList,c<128)(hz:x.length≤1000)(k:D→Prop)(h:k (.bytes (x.cps.map (fun x=>x.toUInt8)))):CP Ω ⟨n+1,true⟩ 254 [.str x] [] k:=by
 refine eI rfl rfl rfl (b8 (wc HK) (Xe.of_eq (xs:=["s"]) rfl fun vs hv=>by obtain ⟨a0,rfl⟩:=eJ hv;rfl) (by rfl) ?_);dsimp only [qe,rz,List.zip,List.zipWith];refine ac (bc (.pure ?_));refine dz rfl (gS rfl (oz HK) rfl rfl rfl ?_);refine ae rfl (aa rfl (ae rfl ?_) rfl);refine aT rfl (XZ HK) (.val _ rfl) ?_ rfl;refine ak (Ga (F6 (dE ?_)));refine ⟨fun χ=>?_,fun hc=>absurd hc (by decide)⟩;refine ac ?_;refine Ho ?_;refine ac (bg ?_);refine .pure (yx rfl rfl rfl ?_);refine aa rfl ?_ rfl;refine aF x rfl ?_;refine b_ ?_;exact ⟨rfl,hb,hz,_,rfl,h⟩
theorem G7 (d b:D):Xe Ω (nv Ω.w.params).1 [d] [("strict_mode",b)] [("data",d),("strict_mode",b)]:=Xe.Eo (xs:=["data"]) rfl fun vs aV hv hk=>by
 obtain ⟨a0,rfl⟩:=eJ hv;obtain ⟨a1,rfl⟩:=eJ hk;rfl
theorem DF (d:D):Xe Ω (jz Ω.w.params).1 [d] [] [("s",d),("altchars",.none),("validate",.bool false)]:=Xe.pZ (xs:=["s"]) (T:=320) (ex:=[("altchars",.none),("validate",.bool false)]) (exρ:=[("altchars",.none),("validate",.bool false)]) rfl (by refine rv HK ?_;rfl) rfl rfl (fun vs hv=>by
 obtain ⟨a0,rfl⟩:=eJ hv;exact (aF _ rfl rfl)) (fun P h=>.cons _ _ _ _ _ .none (.cons _ _ _ _ _ (.bool _) .nil))
theorem Ig (n:Nat)(cs:List UInt8)(hv:∀ c∈cs,bb (c.toNat:Int)<64∧c≠61)(hz:cs.length≤1000)(hq:(fH (cs.map fun c=>bb (c.toNat:Int))).q=0)(k:D→Prop)(h:k (.bytes (byteArr (fH (cs.map fun c=>bb (c.toNat:Int))).out))):
  CP Ω ⟨n+2,true⟩ 303 [.bytes cs.toArray] [("strict_mode",.bool false)] k:=by
 refine eI rfl rfl rfl (b8 (zG HK) (G7 HK _ _) (by rfl) ?_);dsimp only [uI,vp,List.zip,List.zipWith];refine ac (ah rfl rfl ?_);refine .pure (d0 rfl (kt HK) (.of (lc HK)) rfl rfl ?_);refine ae rfl (aa rfl (ak ?_) rfl);refine ux HK n _ _ ?_;refine ac (ah rfl rfl ?_);refine .pure (d0 rfl (pw HK) (.of (mw HK)) rfl rfl ?_);refine ae rfl (aa rfl (ak ?_) rfl);refine vW HK n _ _ ?_;refine ac (ah rfl rfl ?_);refine bU (aB ⟨Nat.zero_le _,?_⟩);refine ac (ah rfl rfl ?_);refine .pure ?_;refine af (ac (ah rfl rfl ?_));refine .pure ?_;refine af (ac (ah rfl rfl ?_));refine .pure ?_;refine af (ac (ah rfl rfl ?_));refine .pure ?_;refine af (ac ?_);let J:Hq→Int→aO:=fun s i=>[("ascii_data",.bytes cs.toArray),("strict_mode",.bool false),("out",.loc 0),("quad_pos",.int s.q),("leftchar",.int s.l),("pads",.int 0),("i",.int i)];refine ES.le (ρ':=J ⟨0,0,[]⟩ 0) (.cons rfl (.cons rfl (.cons rfl (.cons rfl (.cons rfl (.cons rfl (.cons rfl .nil))))))) ?_;refine cF rfl rfl rfl ?_;refine bZ rfl ?_;refine aa rfl ?_ rfl;refine sJ ?_;refine rv (show (cs.toArray.toList.map fun c=>D.int (c.toNat:Int))=cs.map fun c=>D.int (c.toNat:Int) by simp) ?_;refine bG (fun c:UInt8=>D.int (c.toNat:Int)) (fun pre ρ σ=>Lz (fH (pre.map fun c=>bb (c.toNat:Int)))∧σ.o 0=.list ((fH (pre.map fun c=>bb (c.toNat:Int))).out.map .int)∧∃ i,ρ=J (fH (pre.map fun c=>bb (c.toNat:Int))) i) cs ?_ ?_ cs [] _ _ rfl ⟨⟨.inl rfl,by decide,fun n hn=>nomatch hn⟩,rfl,0,rfl⟩
 ·intro pre c post ρ σ e r_24;revert r_24;refine e8 fun hA dF z_1=>?_;obtain ⟨i,rfl⟩:=z_1;obtain ⟨hc,qC⟩:=hv c (by refine rv e ?_;simp);have KC:0≤bb (c.toNat:Int):=yq _;refine rv List.map_append (rv List.map_singleton (rv (show fH (pre.map (fun c=>bb (c.toNat:Int))++[bb (c.toNat:Int)])=cY (fH (pre.map fun c=>bb (c.toNat:Int))) (bb (c.toNat:Int)) by simp [fH,YY]) ?_));have hlen:(fH (pre.map fun c=>bb (c.toNat:Int))).out.length≤1000:=by
   have:=r7 (pre.map fun c=>bb (c.toNat:Int)) ⟨0,0,[]⟩;have:=congrArg List.length e;simp [fH] at*;lia -abstractProof
  have KG:=zH hA KC hc;generalize fH (pre.map fun c=>bb (c.toNat:Int))=s at*;obtain ⟨q,l,out⟩:=s;revert hA;refine e8 fun C_ hl ho=>?_;have Mw:((c.toNat:Int)==61)=false:=by
   refine rv (propext (beq_eq_false_iff_ne)) ?_;intro h;apply qC;have:c.toNat=61:=Qh h;exact UInt8.toNat_inj.mp (by refine rv this ?_;rfl)
  refine ⟨trivial,_,rfl,c8 fun K hK=>?_⟩;refine ac (bc (.pure (aC rfl (aa rfl (af (eV ?_)) rfl))));refine ⟨fun hx=>absurd hx (by refine rv Mw ?_;decide),fun χ=>?_⟩;refine ao (ac (ah rfl rfl ?_));refine .pure (d0 rfl (oC HK) (.of (wd HK)) rfl rfl ?_);refine ae rfl (aa rfl (ak ?_) rfl);refine Fp HK n _ _ ?_;generalize bb (c.toNat:Int)=f at*;refine ac (bc (.pure (aC rfl (aa rfl (af (lg ?_)) rfl))));refine ⟨fun hx=>absurd hx (by simp;exact Uq hc),fun χ=>?_⟩;refine ao (ac (bc (.pure (bO (bD ?_)))));refine dz rfl ?_;refine aa rfl (F8 ?_) rfl;refine ⟨fun hx=>absurd hx (by decide),fun χ=>?_⟩;refine ⟨fun hx=>absurd hx (by decide),fun χ=>?_⟩;refine ao (ac (ah rfl rfl ?_));refine .pure ?_;refine af (ac (bc (.pure (aC rfl (aa rfl (af (eV ?_)) rfl)))));dsimp only at C_ hl ho hlen dF ⊢;have so:(out.map D.int).length≤sizeLine:=rv (List.length_map _) (rv Yy (K_ hlen));refine ⟨fun h0=>?_,fun h0=>?_⟩
  ·have h0:q=0:=by simpa using h0
   subst h0;refine ac (ah rfl rfl (.pure (af (ac (ah rfl rfl (.pure (aa rfl (ao (ac (ah rfl rfl (.pure (ap (aa rfl (af (bm (ao ?_))) rfl)))))) rfl)))))));refine hK .next _ _ ⟨J (cY ⟨0,l,out⟩ f) (i+1),?_,KG,dF,_,rfl⟩;exact .cons rfl (.cons rfl (.cons rfl (.cons rfl (.cons rfl (.cons rfl (.cons rfl .nil))))))
  have h0:q≠0:=by simpa using h0
  refine ac (bc (.pure (aC rfl (aa rfl (af (eV ?_)) rfl))));refine ⟨fun h1=>?_,fun h1=>?_⟩
  ·have h1:q=1:=by simpa using h1
   subst h1;refine ac (ah rfl rfl (.pure (af (ac (aL rfl ?_)))));refine cN "list.append" "list" bo (by decide) rfl rfl (by decide) rfl ?_;refine aa rfl ?_ rfl;refine ⟨0,rfl,by refine rv dF ?_;rfl,aw rfl ?_⟩;refine .pure (ap (ap (aa rfl (af (kn (ap (aa rfl (af (km (ko ?_ ?_ ?_ ?_) ?_)) rfl)) ?_ ?_)) rfl)));refine aB (bn dF so ?_);refine ac (ah rfl rfl (.pure (ap (aa rfl (af (Af (ao (ao (ac (ah rfl rfl (.pure (ap (aa rfl (af (bm (ao ?_))) rfl))))))))) rfl))));refine hK .next _ _ ⟨J (cY ⟨1,l,out⟩ f) (i+1),?_,KG,by simp [cY],_,rfl⟩;exact .cons rfl (.cons rfl (.cons rfl (.cons rfl (.cons rfl (.cons rfl (.cons rfl .nil))))))
   all_goals first
   | decide
    | (dsimp only;lia -abstractProof)
    | lia -abstractProof
    | (simp only [Int.reduceToNat,Int.reducePow];lia -abstractProof)
    | (have:=intBits_le_64 (k:=l) (by lia -abstractProof) (by lia -abstractProof);dsimp only;lia -abstractProof)
  have h1:q≠1:=by simpa using h1
  refine ac (bc (.pure (aC rfl (aa rfl (af (eV ?_)) rfl))));refine ⟨fun h2=>?_,fun h2=>?_⟩
  ·have h2:q=2:=by simpa using h2
   subst h2;refine ac (ah rfl rfl (.pure (af (ac (aL rfl ?_)))));refine cN "list.append" "list" bo (by decide) rfl rfl (by decide) rfl ?_;refine aa rfl ?_ rfl;refine ⟨0,rfl,by refine rv dF ?_;rfl,aw rfl ?_⟩;refine .pure (ap (ap (aa rfl (af (kn (ap (aa rfl (af (km (ko ?_ ?_ ?_ ?_) ?_)) rfl)) ?_ ?_)) rfl)));refine aB (bn dF so ?_);refine ac (ah rfl rfl (.pure (ap (aa rfl (af (C5 (ao (ao (ao (ac (ah rfl rfl (.pure (ap (aa rfl (af (bm (ao ?_))) rfl)))))))))) rfl))));refine hK .next _ _ ⟨J (cY ⟨2,l,out⟩ f) (i+1),?_,KG,by simp [cY],_,rfl⟩;exact .cons rfl (.cons rfl (.cons rfl (.cons rfl (.cons rfl (.cons rfl (.cons rfl .nil))))))
   all_goals first
   | decide
    | (dsimp only;lia -abstractProof)
    | lia -abstractProof
    | (simp only [Int.reduceToNat,Int.reducePow];lia -abstractProof)
    | (have:=intBits_le_64 (k:=l) (by lia -abstractProof) (by lia -abstractProof);dsimp only;lia -abstractProof)
  have h2:q≠2:=by simpa using h2
  have h3:q=3:=Ug C_ h0 h1 h2;subst h3;refine ac (ah rfl rfl (.pure (af (ac (aL rfl ?_)))));refine cN "list.append" "list" bo (by decide) rfl rfl (by decide) rfl ?_;refine aa rfl ?_ rfl;refine ⟨0,rfl,by refine rv dF ?_;rfl,aw rfl ?_⟩;refine .pure (ap (ap (aa rfl (af (kn (aa rfl (ko ?_ ?_ ?_ ?_) rfl) ?_ ?_)) rfl)));refine aB (bn dF so ?_);refine ac (ah rfl rfl (.pure (af (ao (ao (ao (ac (ah rfl rfl (.pure (ap (aa rfl (af (bm (ao ?_))) rfl)))))))))));refine hK .next _ _ ⟨J (cY ⟨3,l,out⟩ f) (i+1),?_,KG,by simp [cY],_,rfl⟩;exact .cons rfl (.cons rfl (.cons rfl (.cons rfl (.cons rfl (.cons rfl (.cons rfl .nil))))))
  all_goals first
   | decide
    | (dsimp only;lia -abstractProof)
    | lia -abstractProof
    | (simp only [Int.reduceToNat,Int.reducePow];lia -abstractProof)
    | (have:=intBits_le_64 (k:=l) (by lia -abstractProof) (by lia -abstractProof);dsimp only;lia -abstractProof)
 ·intro ρ σ r_25;revert r_25;refine e8 fun hA dF z_2=>?_;obtain ⟨i,rfl⟩:=z_2;have hlen:(fH (cs.map fun c=>bb (c.toNat:Int))).out.length≤1000:=by
   have:=r7 (cs.map fun c=>bb (c.toNat:Int)) ⟨0,0,[]⟩;simp [fH] at*;exact Q8 hz this
  generalize fH (cs.map fun c=>bb (c.toNat:Int))=s at*;obtain ⟨q,l,out⟩:=s;revert hA;refine e8 fun C_ hl ho=>?_;dsimp only at hq hlen dF h;subst hq;refine ⟨trivial,?_⟩;refine ac (bc (.pure (aC rfl (aa rfl (af (eV ?_)) rfl))));refine ⟨fun hx=>absurd hx (by simp),fun χ=>?_⟩;refine ao (ac (bc (.pure (bO (bD (aC rfl (aa rfl (af (Ev ?_)) rfl)))))));refine ⟨fun hx=>absurd hx (by simp),fun χ=>?_⟩;refine ⟨fun hx=>absurd hx (by decide),fun χ=>?_⟩;refine ao (ac (bg ?_));refine .pure (w6 rfl (gG HK) rfl rfl rfl ?_);refine ae rfl (aa rfl (ak (mS ?_)) rfl);have el:[D.loc 0].map (look σ)=[.list (out.map .int)]:=by simp [look,dF]
  refine rv el ?_;refine wA ?_ (gZ out) ho ?_
  ·exact ⟨rfl,_,rfl,h⟩
  ·exact rv (List.length_map _) (rv Yy (K_ hlen))
theorem Fq (n:Nat)(a b c:UInt8)(k:D→Prop)(h:k (.bytes (byteArr [cz ((a.toNat:Int)/4),cz ((a.toNat:Int)%4*16+(b.toNat:Int)/16),cz ((b.toNat:Int)%16*4+(c.toNat:Int)/64),cz ((c.toNat:Int)%64)]))):
  CP Ω ⟨n+3,true⟩ 319 [.bytes #[a,b,c]] [] k:=by
 refine eI rfl rfl rfl (b8 (we HK) (DE HK _) (by rfl) ?_);dsimp only [qg,rB,List.zip,List.zipWith];refine ac (aL rfl (.pure (b_ (ac (ah rfl rfl ?_)))));refine .pure (Br rfl (oA HK) (.of (zF HK)) rfl rfl ?_);refine ae rfl (aa rfl (ak (f_ ?_)) rfl);refine Id HK n _ _ _ _ ?_;refine ac (bc (.pure (aC rfl (aa rfl (bL (jp ?_)) rfl))));refine ⟨fun hx=>absurd hx (by simp [iu]),fun χ=>?_⟩;refine ao (ac (bg (.pure (aa rfl ?_ rfl))));exact aF _ rfl h
theorem Ft (n:Nat)(cs:List Nat)(hv:∀ c∈cs,c<128∧bb (c:Int)<64∧c≠61)(hz:cs.length≤1000)(hq:(fH (cs.map fun c:Nat=>bb (c:Int))).q=0)(k:D→Prop)(h:k (.bytes (byteArr (fH (cs.map fun c:Nat=>bb (c:Int))).out))):
  CP Ω ⟨n+3,true⟩ 327 [.str (sl cs)] [] k:=by
 refine eI rfl rfl rfl (b8 (wf HK) (DF HK _) (by rfl) ?_);dsimp only [qh,rC,List.zip,List.zipWith];refine ac (aL rfl (.pure (b_ (ac (ah rfl rfl ?_)))));refine .pure (d0 rfl (eA HK) (.of (wc HK)) rfl rfl ?_);refine ae rfl (aa rfl (ak ?_) rfl);refine Fo HK (n+1) _ (fun c hc=>(hv c (by simpa [sl] using hc)).1) (rv (bk _) hz) _ ?_;refine ac (bc (.pure (aC rfl (aa rfl (bL (jp ?_)) rfl))));refine ⟨fun hx=>absurd hx (by simp [iu]),fun χ=>?_⟩;refine ao (ac (bg ?_));refine .pure (Br rfl (oB HK) (.of (zG HK)) rfl rfl ?_);refine ae rfl (aa rfl (ak (aa rfl ?_ rfl)) rfl);have e1:(sl cs).cps.map (fun x=>x.toUInt8)=(cs.map (fun x=>x.toUInt8)).toArray:=by simp [sl]
 have e2:(cs.map (fun x=>x.toUInt8)).map (fun c:UInt8=>bb (c.toNat:Int))=cs.map fun c:Nat=>bb (c:Int):=by
  refine rv List.map_map ?_;refine YL fun c hc=>?_;have:=(hv c hc).1;simp only [Function.comp];congr 2;rw [Nat.toUInt8,UInt8.toNat_ofNat'];exact Nat.mod_eq_of_lt (NQ this)
 refine rv e1 ?_;refine Ig HK n _ (fun c hc=>?_) (by simpa using hz) (rv e2 hq) _ ?_
 ·refine az (fun x hx e_1=>?_) (Yt.mp hc);subst e_1;refine e8 (fun h1 h2 h3=>?_) (hv x hx);have e:x.toUInt8.toNat=x:=by
   rw [Nat.toUInt8,UInt8.toNat_ofNat'];exact Nat.mod_eq_of_lt (NQ h1)
  refine ⟨rv e h2,fun q=>h3 ?_⟩;refine rv e.symm (rv q ?_);rfl
 ·refine rv e2 ?_;exact aF _ rfl h
end
noncomputable def cP {K:Type}[DecidableEq K](es:List (K×D))(k:K):Option D:=(es.find? fun kv=>kv.1=k).map (fun x=>x.2)
noncomputable def c6 {K:Type}[DecidableEq K](es:List (K×D))(k:K)(d:D):List (K×D):=
 if es.any (fun kv=>kv.1=k) then es.map (fun kv=>if kv.1=k then (kv.1,d) else kv) else es++[(k,d)]
section
variable {K:Type}[DecidableEq K]{h:Heap}
theorem bK.any {es:List (K×D)}{aV:List (K×Value)}(r:bK P h es aV)(p:K→Bool):aV.any (fun kv=>p kv.1)=es.any fun kv=>p kv.1:=
 bK.rec (motive:=fun es aV χ=>aV.any (fun kv=>p kv.1)=es.any fun kv=>p kv.1) rfl (fun c d v es aV x χ i=>congrArg (p c||·) i) r
theorem bK.at {es:List (K×D)}{aV:List (K×Value)}(r:bK P h es aV)(k:K):(∀ d,cP es k=some d→∃ v,valueAt aV k=some v∧W_ P h d v)∧(cP es k=none→valueAt aV k=none):=by
 induction r with
 | nil=>exact ⟨fun d e=>iZ e,fun χ=>rfl⟩
 | cons c d v es aV x r i=>
  by_cases q:c=k
  ·subst q;refine ⟨fun d' e=>?_,fun e=>?_⟩
   ·simp [cP] at e;subst e;exact aF v (by simp [valueAt]) x
   ·simp [cP] at e
  ·simpa [cP,valueAt,q] using i
theorem bK.app {es gc:List (K×D)}{aV uL:List (K×Value)}(r:bK P h es aV)(r':bK P h gc uL):bK P h (es++gc) (aV++uL):=
 bK.rec (motive:=fun es aV χ=>bK P h (es++gc) (aV++uL)) r' (fun c d v es aV x χ i=>.cons c d v _ _ x i) r
theorem bK.sub {k:K}{d:D}{v:Value}(x:W_ P h d v):∀ {es:List (K×D)} {aV:List (K×Value)},bK P h es aV→bK P h (es.map fun kv=>if kv.1=k then (kv.1,d) else kv) (aV.map fun kv=>if kv.1=k then (kv.1,v) else kv)
 | _,_,.nil=>.nil
 | _,_,.cons c d' v' es aV y r=>by
  simp only [List.map_cons];split
  ·exact .cons c d v _ _ x (bK.sub x r)
  ·exact .cons c d' v' _ _ y (bK.sub x r)
theorem bK.put {k:K}{d:D}{v:Value}{es:List (K×D)}{aV:List (K×Value)}(r:bK P h es aV)(x:W_ P h d v):bK P h (c6 es k d) (stored aV k v):=by
 unfold c6 stored;refine rv (r.any (fun c=>decide (c=k))) ?_;split
 ·exact bK.sub x r
 ·exact r.app (.cons k d v _ _ x .nil)
theorem bK.len:∀ {es:List (K×D)} {aV:List (K×Value)},bK P h es aV→aV.length=es.length
 | _,_,.nil=>rfl
 | _,_,.cons c d v es aV x r=>by simp [r.len]
theorem bK.keys:∀ {es:List (K×D)} {aV:List (K×Value)},bK P h es aV→aV.map (fun x=>x.1)=es.map (fun x=>x.1)
 | _,_,.nil=>rfl
 | _,_,.cons c d v es aV x r=>by simp [r.keys]
noncomputable def Bk (Ω:U)(l:Lv)(id:String)(n:Nat)(ds:List D)(σ:Sg)(k:D→Prop):Prop:=
 ∀ (A:Around) (B μ:List Addr) (s:Shared) (a:Addr) (vs:List Value),Rm l A→Ω.St s→(∀ b o,Ω.C.base b o→b∉μ++B)→Hp Ω.prog Ω.w μ B σ s.heap→μ[n]? = some a→au (Xa μ (μ++B)) s.heap ds vs→du Ω.M A (Xa μ (μ++B)) (call (.builtin id) (.ref a::vs)) s k
structure WU (Ω:U)(l:Lv)(N:ay)(ρ:aO)(σ:Sg)(id T:String)(args:List PySem.Expr)(k:D→Prop)(n:Nat):Prop where
 hk:wD (σ.o n)=T
 h:rP Ω l N ρ σ args fun ds=>Bk Ω l id n ds σ k
theorem w8 {o:PySem.Expr}{name:Str}{apos pos:Pos}{args:List PySem.Expr}{k:D→Prop}(id T:String)(I:dZ id T name)(ne:T≠"")(hb:bu o=true)(hn:Xc args=true)(hl:args.length<30)(fw:(apos.endLine==pos.line)=true)
  (h:EV Ω l N ρ σ o (eL (WU Ω l N ρ σ id T args k))):EV Ω l N ρ σ (.Call (.Attribute o name apos) args [] pos) k:=fun A B μ env s R F Q E kk=>by
 refine wpAny_Call_method_lateS (bJ hb) (et pos hn hl) fw ((h A B μ env s R F).dM fun n a s₁ ai ha hq=>?_);have av:=F.grown ai;have t:=mT av.hp ha hq.hk ne;refine IU T id I.pa I.slot I.ty t.1 t.2 ?_;have hp:=aK (env:=env) pos hn;refine Calls.callWith_builtin hp (bw hp ((hq.h A B μ env s₁ pos R av).go fun vs ag ar ds uX rs=>?_));have aI:=av.grown ar;exact (uX A B μ ag a vs R aI.st aI.clear aI.hp ha rs).use fun v aE aU r=>kk v aE ((ai.trans ar).trans aU) r
theorem jF {n:Nat}{a:Addr}{es:List (Str×D)}{h:Heap}(H:Hp Ω.prog Ω.w μ B σ h)(ha:μ[n]? = some a)(hn:σ.o n=.bB es):∃ aV,(a==sysModules)=false∧h.DictOf (strKind Ω.prog Ω.w) a aV∧bK (Xa μ (μ++B)) h es aV:=by
 have:=H.obj n a ha;rw [hn] at this;exact this
theorem EO {n:Nat}{a:Addr}{es:List (Int×D)}{h:Heap}(H:Hp Ω.prog Ω.w μ B σ h)(ha:μ[n]? = some a)(hn:σ.o n=.fy es):∃ aV,(a==sysModules)=false∧h.DictOf (intKind Ω.prog Ω.w) a aV∧bK (Xa μ (μ++B)) h es aV:=by
 have:=H.obj n a ha;rw [hn] at this;exact this
theorem Cb {n:Nat}{a:Addr}{xs:List Str}{h:Heap}(H:Hp Ω.prog Ω.w μ B σ h)(ha:μ[n]? = some a)(hn:σ.o n=.set xs):h.SetOf (strKind Ω.prog Ω.w) a (fun x=>decide (x∈xs)) xs.length:=by
 have:=H.obj n a ha;rw [hn] at this;exact this
theorem isStr (x:Str)(t:Tok):(strKind Ω.prog Ω.w).is x (.str x t)=true:=by
 show Value.isStrOf x (.str x t)=true;simp [Value.isStrOf]
theorem Ah (x:Int)(t:Tok):(intKind Ω.prog Ω.w).is x (.int x t)=true:=by
 show Value.isInt x (.int x t)=true;simp [Value.isInt]
theorem qj:dZ "dict.get" "dict" "get":=⟨PySem.F.plainAttrs_dict,PySem.F.slot_dict_get,PySem.F.type_dict_get⟩
theorem om:dZ "dict.setdefault" "dict" "setdefault":=⟨PySem.F.plainAttrs_dict,PySem.F.slot_dict_setdefault,PySem.F.type_dict_setdefault⟩
theorem FU:dZ "set.add" "set" "add":=⟨PySem.F.plainAttrs_set,PySem.F.slot_set_add,PySem.F.type_set_add⟩
theorem v7 {n:Nat}{x:Str}{es:List (Str×D)}{k:D→Prop}(hn:σ.o n=.bB es)(h:k ((cP es x).getD .none)):Bk Ω l "dict.get" n [.str x] σ k:=fun A B μ s a vs R st cl H ha rs Q E kk=>by
 refine az (fun v e_1 r=>?_) rs.one;subst e_1;refine W_.cK r fun ϑ=>?_;refine db (fun aV z dd rr=>?_) (jF H ha hn);refine call_meetsIn PySem.F.slot_dict_get dd.typeIs PySem.F.entry_dict_get (PySem.F.args_dict_get_2 _ _) (meets_dict_get _ a (isStr x _) z) (aF _ dd.mapOf ?_);refine kk _ _ (.tok ..) ⟨_,h,?_⟩;cases q:cP es x with
 | none=>exact rv ((rr.at x).2 q) .none
 | some d=>
  refine az (fun v e r=>?_) ((rr.at x).1 d q);exact rv e r
theorem v6 {n:Nat}{x:Str}{cD:D}{es:List (Str×D)}{k:D→Prop}(hn:σ.o n=.bB es)(h:k ((cP es x).getD cD)):Bk Ω l "dict.get" n [.str x,cD] σ k:=fun A B μ s a vs R st cl H ha rs Q E kk=>by
 cases rs with | cons _ v _ vs r1 rs=>
 refine az (fun u e_2 r2=>?_) rs.one;subst e_2;refine W_.cK r1 fun ϑ=>?_;refine db (fun aV z dd rr=>?_) (jF H ha hn);refine call_meetsIn PySem.F.slot_dict_get dd.typeIs PySem.F.entry_dict_get (PySem.F.args_dict_get_3 _ _ _) (meets_dict_get_default _ a (isStr x _) z u) (aF _ dd.mapOf ?_);refine kk _ _ (.tok ..) ⟨_,h,?_⟩;cases q:cP es x with
 | none=>exact rv ((rr.at x).2 q) r2
 | some d=>
  refine az (fun v e r=>?_) ((rr.at x).1 d q);exact rv e r
theorem d4 {a:Addr}{h h':Heap}(x:Heap.SameBut a h h'):∀ b o,b≠a→h.get? b=some o→h'.get? b=some o:=fun b o n e=>x.extBut b o n e
theorem bK.turnAt {K:Type}{a:Addr}{h h':Heap}(m:a∈μ)(k:∀ b o,b≠a→h.get? b=some o→h'.get? b=some o){es:List (K×D)}{aV}(r:bK (Xa μ (μ++B)) h es aV):bK (Xa μ (μ++B)) h' es aV:=
 bK.keeps (P:=Xa μ (μ++B)) (P':=Xa μ (μ++B)) (fun χ χ e=>e) (fun b o p e=>⟨p,k b o (fun q=>p (q▸Yp _ m)) e⟩) r
theorem hE {K:Type}[DecidableEq K]{knd:KeyKind Ω.prog Ω.w K}{h:Heap}{a:Addr}{aV:List (K×Value)}(d:h.DictOf knd a aV):∃ o,h.get? a=some o:=GX (fun o χ χ e χ=>⟨o,e⟩) d
theorem oj {n:Nat}{x:Str}{cD:D}{es:List (Str×D)}{k:D→Sg→Prop}(hn:σ.o n=.bB es)(hz:es.length≤sizeLine)(h1:∀ d,cP es x=some d→k d σ)(h2:cP es x=none→k cD (σ.put n (.bB (c6 es x cD)))):HQ Ω l "dict.setdefault" n [.str x,cD] σ k:=fun A B μ s a vs R st cl H ha rs Q E kk=>by
 cases rs with | cons _ v _ vs r1 rs=>
 refine az (fun u e_4 r2=>?_) rs.one;subst e_4;refine W_.cK r1 fun ϑ=>?_;refine db (fun aV z dd rr=>?_) (jF H ha hn);refine call_meetsIn PySem.F.slot_dict_setdefault dd.typeIs PySem.F.entry_dict_setdefault (PySem.F.args_dict_setdefault_3 _ _ _) (kt_meets_setdefault _ a (isStr x _) z u) (BD aV dd (rv rr.len hz) (fun v hv=>?_) (fun hv h' A4 sb=>?_))
 ·cases q:cP es x with
  | none=>exact cc ((rr.at x).2 q) hv
  | some d=>
   refine az (fun v' e r=>?_) ((rr.at x).1 d q);rw [e] at hv;obtain rfl:=Yx hv;exact kk _ μ σ _ (.aG H (.tok ..)) ⟨_,h1 d q,r⟩
 ·cases q:cP es x with
  | some d=>
   refine az (fun v' e r=>?_) ((rr.at x).1 d q);exact cc hv e
  | none=>
   have kp:=d4 sb;have m:=YN ha;exact kk _ μ _ _ (bH (by lia -abstractProof) (x:=.bB (c6 es x cD)) H ha kp (eQ _ z A4 ((rr.turnAt m kp).put (r2.turnAt m kp))) (hE A4)) ⟨_,h2 q,r2.turnAt m kp⟩
noncomputable def pP (xs:List Str)(x:Str):List Str:=if x∈xs then xs else xs++[x]
theorem FE {n:Nat}{x:Str}{xs:List Str}{k:D→Sg→Prop}(hn:σ.o n=.set xs)(hz:xs.length+1<scanBound)(h:k .none (σ.put n (.set (pP xs x)))):HQ Ω l "set.add" n [.str x] σ k:=fun A B μ s a vs R st cl H ha rs Q E kk=>by
 refine az (fun v e_5 r=>?_) rs.one;subst e_5;refine W_.cK r fun ϑ=>?_;have ss:=Cb H ha hn;refine call_set_add (isStr x _) rfl ss hz fun h' sb Lj=>?_;have kp:=d4 sb;have e1:(fun k'=>decide (k'∈xs)||decide (k'=x))=fun k'=>decide (k'∈pP xs x):=by
  funext y;unfold pP;split
  ·rename_i hx
   by_cases q:y=x
   ·subst q;simp [hx]
   ·simp [q]
  ·simp [Yr]
 have e2:(if decide (x∈xs)=true then xs.length else xs.length+1)=(pP xs x).length:=by
  unfold pP
  by_cases hx:x∈xs<;>simp [hx]
 rw [e1,e2] at Lj;exact kk _ μ _ _ (bH (by lia -abstractProof) (x:=.set (pP xs x)) H ha kp Lj (MM (fun o χ χ χ e χ=>⟨o,e⟩) Lj)) ⟨_,h,.none⟩
noncomputable def AS (Ω:U)(l:Lv)(N:ay)(ρ:aO)(σ:Sg)(io:PySem.Expr)(d:D)(k:aO→Sg→Prop):Prop:=
 ∀ (A:Around) (B μ:List Addr) (env:Env) (s:Shared) (v:Value),oK l A B env→Fs Ω B μ env N ρ σ s→W_ (Xa μ (μ++B)) s.heap d v→∀ (Q:Unit→Shared→Prop) (E:Value→Shared→Prop),
  (∀ aD σ' s' ρ',bd Ω.prog Ω.w (Xb A) (own env) B μ s aD σ' s'→Fs Ω B aD env N ρ' σ' s'→W_ (Xa aD (aD++B)) s'.heap d v→k ρ' σ'→Q () s')→wpAny Ω.M A (assign io env v) Q E s
theorem jP {x:Str}{px:Pos}{d:D}{k:aO→Sg→Prop}(hx:bS N x=true)(h:k ((x,d)::ρ) σ):AS Ω l N ρ σ (.Name x px) d k:=fun A B μ env s v R F r Q E kk=>by
 refine rv (arm_assign_Name _ _ _ _) ?_;exact Yo (wpAny_standAt (wpAny_bindName (eM F (cg hx) r fun s' z F' r'=>kk μ σ s' _ z F' r' h)))
inductive MT (Ω:U)(l:Lv)(N:ay)(ρ:aO)(σ:Sg)(i:PySem.Expr)(d:D)(k:aO→Sg→Prop)(n:Nat):Prop where
 | mk (es:List (Str×D))(hn:σ.o n=.bB es)(hz:es.length≤sizeLine)(h:EV Ω l N ρ σ i (tM fun x=>k ρ (σ.put n (.bB (c6 es x d)))))
theorem xe {o i:PySem.Expr}{p:Pos}{d:D}{k:aO→Sg→Prop}(h:EV Ω l N ρ σ o (eL (MT Ω l N ρ σ i d k))):AS Ω l N ρ σ (.Subscript o i p) d k:=fun A B μ env s v R F r Q E kk=>by
 refine rv (arm_assign_Subscript _ _ _ _ _) ?_;refine Yo (YV ((h A B μ env s R F.toFx).dM fun n a s₁ ai ha hq=>?_));obtain ⟨es,hn,hz,aP⟩:=hq;have av:=F.grown ai;refine Yo (YV ((aP A B μ env s₁ R av.toFx).AL fun x t ag ar hk=>?_));have aI:=av.grown ar;refine db (fun aV z dd rr=>?_) (jF aI.hp ha hn);refine Yo (wpAny_standAt (Yo (YV (wpAny_setItem_pairs (isStr x _) dd (fun h' A4 sb=>?_) (rv rr.len hz)))));have kp:=d4 sb;have m:=YN ha;have rv:=(r.ext (ai.trans ar).ext).turnAt m kp;have x:bd Ω.prog Ω.w (Xb A) [] B μ ag μ (σ.put n (.bB (c6 es x d))) { ag with heap:=h',toks:=ag.toks+1 }:=bH (Nat.le_succ _) (x:=.bB (c6 es x d)) (tk:=ag.toks+1) aI.hp ha kp (eQ _ z A4 ((rr.turnAt m kp).put rv)) (hE A4);exact wpAny_release (kk μ _ _ ρ ((bd.aG F.hp (ai.trans ar)).bt x).wide (aI.c5 x) rv hk)
inductive MU (Ω:U)(l:Lv)(N:ay)(ρ:aO)(σ:Sg)(i:PySem.Expr)(d:D)(k:aO→Sg→Prop)(n:Nat):Prop where
 | mk (es:List (Int×D))(hn:σ.o n=.fy es)(hz:es.length≤sizeLine)(h:EV Ω l N ρ σ i (vx fun x=>k ρ (σ.put n (.fy (c6 es x d)))))
theorem Ec {o i:PySem.Expr}{p:Pos}{d:D}{k:aO→Sg→Prop}(h:EV Ω l N ρ σ o (eL (MU Ω l N ρ σ i d k))):AS Ω l N ρ σ (.Subscript o i p) d k:=fun A B μ env s v R F r Q E kk=>by
 refine rv (arm_assign_Subscript _ _ _ _ _) ?_;refine Yo (YV ((h A B μ env s R F.toFx).dM fun n a s₁ ai ha hq=>?_));obtain ⟨es,hn,hz,aP⟩:=hq;have av:=F.grown ai;refine Yo (YV ((aP A B μ env s₁ R av.toFx).sU fun x t ag ar hk=>?_));have aI:=av.grown ar;refine db (fun aV z dd rr=>?_) (EO aI.hp ha hn);refine Yo (wpAny_standAt (Yo (YV (wpAny_setItem_pairs (Ah x _) dd (fun h' A4 sb=>?_) (rv rr.len hz)))));have kp:=d4 sb;have m:=YN ha;have rv:=(r.ext (ai.trans ar).ext).turnAt m kp;have x:bd Ω.prog Ω.w (Xb A) [] B μ ag μ (σ.put n (.fy (c6 es x d))) { ag with heap:=h',toks:=ag.toks+1 }:=bH (Nat.le_succ _) (x:=.fy (c6 es x d)) (tk:=ag.toks+1) aI.hp ha kp (eQ _ z A4 ((rr.turnAt m kp).put rv)) (hE A4);exact wpAny_release (kk μ _ _ ρ ((bd.aG F.hp (ai.trans ar)).bt x).wide (aI.c5 x) rv hk)
theorem cG {t e:PySem.Expr}{pos:Pos}{k:Fl→aO→Sg→Prop}(hs:∀ env,swapsWithSole [t] e pos.line env=pure false)(hw:∀ env,swappedStores [t] e env=pure none)(he:∀ env,(assignEach [t] env).map (fun x=>x.2)=[assign t env])
  (h:EF Ω l N ρ σ e fun d σ'=>AS Ω l N ρ σ' t d fun ρ' aY=>k .next ρ' aY):ES Ω l N ρ σ (.Assign [t] e pos) k:=fun A B μ env s R F Q E kk=>
 wpAny_Assign_stores ((h A B μ env s R F).go fun v aW aq s₁ x d hk r=>by
  refine rv (he _) ?_;exact hk A B aW env s₁ v R (F.c5 x) r _ _ fun aD σ' s' ρ' y F' r' kr=>kk .next aD σ' s' (bd.then F x.wide y) ⟨.next,ρ',kr,F',.next⟩) (hs env) (hw env)
theorem gT {t t' e:PySem.Expr}{pos:Pos}{k:Fl→aO→Sg→Prop}(hw:∀ env,swappedStores [t,t'] e env=pure none)(he:∀ env,(assignEach [t,t'] env).map (fun x=>x.2)=[assign t env,assign t' env])
  (h:EF Ω l N ρ σ e fun d σ'=>AS Ω l N ρ σ' t d fun ρ' aY=>AS Ω l N ρ' aY t' d fun ρ' aY=>k .next ρ' aY):ES Ω l N ρ σ (.Assign [t,t'] e pos) k:=fun A B μ env s R F Q E kk=>
 wpAny_Assign_two ((h A B μ env s R F).go fun v aW aq s₁ x d hk r=>by
  refine hk A B aW env s₁ v R (F.c5 x) r _ _ fun bh aM ag gj y aI cU wN=>?_;exact wN A B bh env ag v R aI cU _ _ fun aD σ' s' ρ' y' F' r' kr=>kk .next aD σ' s' (bd.then F x.wide (bd.then (F.c5 x) y y')) ⟨.next,ρ',kr,F',.next⟩) (he env) (hw env)
inductive Px {K:Type}[DecidableEq K](es:List (K×D))(k:D→Prop)(x:K):Prop where
 | mk (e:D)(q:cP es x=some e)(h:k e)
inductive M2 (Ω:U)(l:Lv)(N:ay)(ρ:aO)(σ:Sg)(i:PySem.Expr)(k:D→Prop)(n:Nat):Prop where
 | mk (es:List (Str×D))(hn:σ.o n=.bB es)(h:EV Ω l N ρ σ i (tM (Px es k)))
inductive M3 (σ:Sg)(k:Bool→Prop)(a b:D):Prop where
 | mk (u:Str)(n:Nat)(es:List (Str×D))(e:a=.str u)(e':b=.loc n)(hn:σ.o n=.bB es)(h:k (cP es u).isSome)
inductive JY (σ:Sg)(k:Bool→Prop)(a b:D):Prop where
 | mk (u:Str)(n:Nat)(xs:List Str)(e:a=.str u)(e':b=.loc n)(hn:σ.o n=.set xs)(h:k (decide (u∈xs)))
theorem kY {v i:PySem.Expr}{pos:Pos}{k:D→Prop}(hs:kW i=false)(h:EV Ω l N ρ σ v (eL (M2 Ω l N ρ σ i k))):EV Ω l N ρ σ (.Subscript v i pos) k:=fun A B μ env s R F Q E kk=>
 Subscript_ ((h A B μ env s R F).dM fun n a s₁ ai ha hq=>by
  obtain ⟨es,hn,aP⟩:=hq;have av:=F.grown ai;refine (aP A B μ env s₁ R av).AL fun x t ag ar hq=>?_;obtain ⟨e,he,hk⟩:=hq;have aI:=av.grown ar;refine db (fun aV z dd rr=>?_) (jF aI.hp ha hn);refine az (fun u hu ru=>?_) ((rr.at x).1 e he);exact tail_any dd.typeIs slot_dict_getitem.lookup (wpAny_getItem_of (isStr x _) dd.mapOf hu (kk _ _ ((ai.trans ar).trans (.tok ..)) ⟨_,hk,ru⟩)) (d6 hs _ _))
theorem DS {x y:PySem.Expr}{pos:Pos}{k:Bool→Prop}(hm:behindInMarks .In y=false)(h:EV Ω l N ρ σ x fun a=>EV Ω l N ρ σ y (M3 σ k a)):TV Ω l N ρ σ (.Compare x [.In] [y] pos) k:=fun A B μ env s R F Q E kk=>
 wpAny_isTrue_Compare1 ((h A B μ env s R F).go fun a s₁ ai cD aP b6=>by
  refine (aP A B μ env s₁ R (F.grown ai)).go fun b ag ar cD hq cU=>?_;obtain ⟨u,n,es,rfl,rfl,hn,hk⟩:=hq;have aI:=F.grown (ai.trans ar);refine az (fun a e_1 ha=>?_) (eR cU);subst e_1;refine W_.cK b6 fun ϑ=>?_;refine db (fun aV z dd rr=>?_) (jF aI.hp ha hn);refine wpAny_in_of (isStr u _) z dd.mapOf (wpAny_truthy_bool (kk _ _ ((ai.trans ar).trans (.tok ..)) ?_));have e:(valueAt aV u).isSome=(cP es u).isSome:=by
   cases q:cP es u with
   | none=>refine rv ((rr.at u).2 q) ?_;rfl
   | some d=>refine az (fun v e χ=>?_) ((rr.at u).1 d q);refine rv e ?_;rfl
  exact rv e hk) hm
theorem tL {x y:PySem.Expr}{pos:Pos}{k:Bool→Prop}(hm:behindInMarks .In y=false)(h:EV Ω l N ρ σ x fun a=>EV Ω l N ρ σ y (JY σ k a)):TV Ω l N ρ σ (.Compare x [.In] [y] pos) k:=fun A B μ env s R F Q E kk=>
 wpAny_isTrue_Compare1 ((h A B μ env s R F).go fun a s₁ ai cD aP b6=>by
  refine (aP A B μ env s₁ R (F.grown ai)).go fun b ag ar cD hq cU=>?_;obtain ⟨u,n,xs,rfl,rfl,hn,hk⟩:=hq;have aI:=F.grown (ai.trans ar);refine az (fun a e_2 ha=>?_) (eR cU);subst e_2;refine W_.cK b6 fun ϑ=>?_;exact wpAny_inSet_of (isStr u _) rfl (Cb aI.hp ha hn) (wpAny_truthy_bool (kk _ _ ((ai.trans ar).trans (.tok ..)) hk))) hm
structure jM (K:Frag)(C:Addr)(name:Str):Prop where
 cls:∃ cd,clsIn K C=some cd∧cd.hasDict=true
 miss:findIn K (.ref C) name=some none
 ga:findIn K (.ref C) "__getattribute__"=some (some (.builtin "object.__getattribute__"))
theorem pQ (x y:Str):sEq x y=(y==x):=by
 refine rv (eO _ _) (rv (propext (Bool.eq_iff_iff)) (rv (propext (YK)) (rv (propext (YK)) ?_)));exact ⟨Eq.symm,Eq.symm⟩
theorem dY.find {P:Pl}{h:Heap}{name:Str}{d:D}{fs:List (Str×D)}{l:List DictEntry}(r:dY P h fs l):lk name fs=some d→∃ e,l.find? (·.key.isStr name)=some e∧W_ P h d e.val∧handedIn e.val=true:=by
 induction r with
 | nil=>exact fun e=>iZ e
 | cons k d' e t es l a x hh r i=>
  have b:e.key.isStr name=sEq name k:=rv a (rv (pQ _ _) rfl);unfold lk;refine rv List.find?_cons (rv b ?_);cases sEq name k with
  | true=>exact fun q=>eQ e rfl (rv (Yx q).symm x) hh
  | false=>exact i
theorem lh {n:Nat}{a C:Addr}{m:Nat}{sl:List (Option D)}{h:Heap}(H:Hp Ω.prog Ω.w μ B σ h)(ha:μ[n]? = some a)(hn:σ.o n=.inst C m sl):∃ dx vs,μ[m]? = some dx∧h.get? a=some { cls:=.ref C,dict:=some dx,data:=.plain,slots:=vs.toArray }∧cL (Xa μ (μ++B)) h sl vs:=by
 have:=H.obj n a ha;rw [hn] at this;exact this
theorem gQ {n:Nat}{a:Addr}{fs:List (Str×D)}{h:Heap}(H:Hp Ω.prog Ω.w μ B σ h)(ha:μ[n]? = some a)(hn:σ.o n=.attrs fs):∃ l n,h.get? a=some { cls:=.type "dict",data:=.dict l.toArray n }∧dY (Xa μ (μ++B)) h fs l:=by
 have:=H.obj n a ha;rw [hn] at this;exact this
inductive J7 (Ω:U)(σ:Sg)(name:Str)(k:D→Prop)(n:Nat):Prop where
 | mk (C:Addr)(m:Nat)(sl:List (Option D))(fs:List (Str×D))(e:D)(hn:σ.o n=.inst C m sl)(hm:σ.o m=.attrs fs)(O:jM Ω.K C name)(he:lk name fs=some e)(hk:k e)
theorem xb {o:PySem.Expr}{name:Str}{pos:Pos}{k:D→Prop}(hb:bu o=true)
  (h:EV Ω l N ρ σ o (eL (J7 Ω σ name k))):EV Ω l N ρ σ (.Attribute o name pos) k:=fun A B μ env s R F Q E kk=>by
 refine Attribute_any_ ((h A B μ env s R F).dM fun n a s₁ ai ha hq=>?_) (rv (arm_eval_Attribute _ _ _ _) (rv (bJ hb) rfl));obtain ⟨C,m,sl,fs,e,hn,hm,O,he,hk⟩:=hq;have av:=F.grown ai;refine gf (fun dx vs hd ho χ=>?_) (lh av.hp ha hn);refine cS (fun l' n' sR fl=>?_) (gQ av.hp hd hm);refine db (fun en q1 q2 q3=>?_) (fl.find he);refine az (fun cd hc hcd=>?_) O.cls;have hl:lookIn name { cls:=.type "dict",data:=.dict l'.toArray n' }=some (some en.val):=by
  unfold lookIn;dsimp only;exact rv q1 rfl
 have hf:findObj Ω.K C (some { cls:=.type "dict",data:=.dict l'.toArray n' }) name=some (.value en.val):=by
  unfold findObj;refine rv hc (rv O.miss ?_);simp only [Option.bind_some];unfold PySem.W.ownOf;simp only [hcd,if_true,hl];rfl
 exact get_value (Ω.m6 _ av.stays) ⟨ho,rfl,rfl,sR⟩ O.ga hf q3 (kk _ _ (ai.trans (.tok ..)) ⟨_,hk,q2⟩)
noncomputable def bE (x:Str)(d:D):List (Str×D)→List (Str×D)
 | []=>[(x,d)]
 | (k,d')::r=>if sEq x k then (k,d)::r else (k,d')::bE x d r
theorem dO (x:Str)(d:D):∀ fs,(bE x d fs).length≤fs.length+1:=by
 intro fs
 induction fs with
 | nil=>simp [bE]
 | cons pr r ih=>
  obtain ⟨k,d'⟩:=pr;unfold bE;split
  ·simp
  ·have:=ih;simp;exact Q_ this
theorem dY.put {P:Pl}{h:Heap}{name:Str}{d:D}{v:Value}{hsh:Int}{t:Tok}(x:W_ P h d v)(hh:handedIn v=true):∀ {fs:List (Str×D)} {l:List DictEntry},dY P h fs l→dY P h (bE name d fs) (putL name hsh (.str name t) v l)
 | _,_,.nil=>.cons name d _ t _ _ rfl x hh .nil
 | _,_,.cons k d' e t' es l a y hy r=>by
  have b:e.key.isStr name=sEq name k:=by refine rv a (rv (pQ _ _) ?_);rfl
  unfold bE putL;refine rv b ?_;split
  ·exact .cons k d _ t' _ _ a x hh r
  ·exact .cons k d' e t' _ _ a y hy (r.put x hh)
theorem dY.len {P:Pl}{h:Heap}:∀ {fs:List (Str×D)} {l:List DictEntry},dY P h fs l→l.length=fs.length
 | _,_,.nil=>rfl
 | _,_,.cons _ _ _ _ _ _ _ _ _ r=>by simp [r.len]
theorem dY.noRef {P:Pl}{h:Heap}:∀ {fs:List (Str×D)} {l:List DictEntry},dY P h fs l→l.any (fun x=>x.refKey)=false
 | _,_,.nil=>rfl
 | _,_,.cons _ _ e _ _ _ a _ _ r=>by
  refine rv List.any_cons (rv r.noRef ?_);have:e.refKey=false:=by unfold DictEntry.refKey;exact rv a rfl
  refine rv this ?_;rfl
structure eH (K:Frag)(C:Addr)(name:Str):Prop where
 sa:findIn K (.ref C) "__setattr__"=some (some (.builtin "object.__setattr__"))
 plain:plainOver K C=true
 yW:takerIn K C name=some none
 has:(clsIn K C).any (fun x=>x.hasDict)=true
end
section
variable {K:Frag}{x C dx:Addr}
theorem Ck {l:List DictEntry}{n:Nat}{sl:Array (Option Value)}{name:Str}{v:Value}{tk:Tok}{R:Result→Shared→Prop}(X:K.In s.heap)(hx:s.heap.get? x=some ⟨.ref C,some dx,.plain,sl⟩)(hd:s.heap.get? dx=some (dictOf l n))(O:eH K C name)
  (nr:l.any (fun x=>x.refKey)=false) (hz:(putL name (PyData.keyHash w.params name) (.str name s.toks) v l).length≤1000)
  (h:R (.ok (.ret .none)) { s with heap:=s.heap.update dx (Obj.putName name (PyData.keyHash w.params name) (.str name s.toks) v),toks:=s.toks+1 }):
  codeAny (model prog w) A (.call (.builtin "object.__setattr__") ⟨[.ref x,.str name tk,v],[]⟩) R s:=by
 have I:InstAt s.heap x ⟨.ref C,some dx,.plain,sl⟩ C (some (dictOf l n)):=⟨hx,rfl,rfl,hd⟩;refine osa_open X I O.plain O.yW fun b=>?_;refine az (fun cd hc hcd=>?_) (any_some O.has);refine Yo (YA (Yo (Yo (wpAny_loadPart hx (Yo ((looks_clsIn X hc).here ?_))))));refine rv hcd ?_;refine YA (a:=some dx) (Yo (YA (Yo ?_)));unfold nsSet;refine Yo (Yo (wpAny_askSetting (YA (Yo (wpAny_mkText (Yo (wpAny_loadPart hd ?_)))))));dsimp only [dictOf];have c:(!l.toArray.any (·.key.isStr name)&&l.toArray.any (fun x=>x.refKey))=false:=by
  exact rv Array.any_toList.symm (rv Array.any_toList.symm (rv nr (rv (Bool.and_false _) rfl)))
 refine rv (aRefKeyMayBeTheName_at _ _) (rv c ?_);refine wpAny_updatePart hd ?_;have D':(s.heap.update dx (Obj.putName name (PyData.keyHash w.params name) (.str name s.toks) v)).get? dx=some (dictOf (putL name (PyData.keyHash w.params name) (.str name s.toks) v l) (putN name l n)):=by
  refine rv (putName_dict _ _ _ _ _ _).symm ?_;exact YZ _ hd (by refine rv (putName_dict _ _ _ _ _ _) ?_;rfl)
 refine Yo (wpAny_lookBehind D' (pastItsLine_dict (rv YT (rv Yy (QB hz)))) ?_);exact YA h
theorem k8 {l:List DictEntry}{n:Nat}{sl:Array (Option Value)}{name:Str}{v:Value}{Q:Unit→Shared→Prop}(X:K.In s.heap)(hx:s.heap.get? x=some ⟨.ref C,some dx,.plain,sl⟩)(hd:s.heap.get? dx=some (dictOf l n))(O:eH K C name)
  (nr:l.any (fun x=>x.refKey)=false) (hz:(putL name (PyData.keyHash w.params name) (.str name (s.toks+1)) v l).length≤1000)
  (h:Q () { s with heap:=s.heap.update dx (Obj.putName name (PyData.keyHash w.params name) (.str name (s.toks+1)) v),toks:=s.toks+2 }):wpAny (model prog w) A (setAttr (.ref x) name v) Q E s:=
 set_plain X (od:=some (dictOf l n)) ⟨hx,rfl,rfl,hd⟩ O.sa (Ck (s:={ s with toks:=s.toks+1 }) X hx hd O nr hz h)
noncomputable def XH:D→Bool
 | .val _=>false
 | .jK ..=>false
 | _=>true
theorem pW {d:D}{v:Value}{h:Heap}(o:XH d=true)(r:W_ P h d v):handedIn v=true:=
 W_.rec (motive_1:=fun d v χ=>XH d=true→handedIn v=true) (motive_2:=fun χ χ χ=>True)
  (fun χ=>rfl) (fun χ χ=>rfl) (fun χ χ χ=>rfl) (fun χ χ χ=>rfl) (fun χ χ χ=>rfl)
  (fun χ χ χ χ χ χ χ χ χ=>rfl) (fun χ χ χ χ χ χ χ χ χ=>rfl) (fun χ χ χ χ χ χ χ χ χ χ=>rfl) (fun χ χ f=>oF f) (fun χ χ χ χ=>rfl) (fun χ χ χ χ χ χ χ χ χ χ f=>oF f) (fun χ χ χ χ χ χ χ χ χ χ χ=>rfl) (fun χ χ χ=>rfl)
  trivial (fun χ χ χ χ χ χ χ χ=>trivial) r o
inductive MV (Ω:U)(ρ:aO)(σ:Sg)(name:Str)(d:D)(k:aO→Sg→Prop)(n:Nat):Prop where
 | mk (C:Addr)(m:Nat)(sl:List (Option D))(fs:List (Str×D))(hn:σ.o n=.inst C m sl)(hm:σ.o m=.attrs fs)(O:eH Ω.K C name)(hz:fs.length<1000)(hk:k ρ (σ.put m (.attrs (bE name d fs))))
theorem xg {o:PySem.Expr}{name:Str}{p:Pos}{d:D}{k:aO→Sg→Prop}(ho:XH d=true)
  (h:EV Ω l N ρ σ o (eL (MV Ω ρ σ name d k))):AS Ω l N ρ σ (.Attribute o name p) d k:=fun A B μ env s v R F r Q E kk=>by
 refine rv (arm_assign_Attribute _ _ _ _ _) ?_;refine Yo (YV ((h A B μ env s R F.toFx).dM fun n a s₁ ai ha hq=>?_));obtain ⟨C,m,sl,fs,hn,hm,O,hz,hk⟩:=hq;have av:=F.grown ai;refine gf (fun dx vs hd hx χ=>?_) (lh av.hp ha hn);refine cS (fun l' n' sR fl=>?_) (gQ av.hp hd hm);have zg:=r.ext ai.ext;have Dh:=pW ho zg;have pl:=(fl.put (name:=name) (hsh:=PyData.keyHash Ω.w.params name) (t:=s₁.toks+1) zg Dh);refine Yo (wpAny_standAt (Yo (YV (k8 (Ω.m6 _ av.stays) hx sR O fl.noRef (by refine rv pl.len ?_;have:=dO name d fs;exact Si hz this) ?_))));have kp:∀ b o,b≠dx→s₁.heap.get? b=some o→(s₁.heap.update dx (Obj.putName name (PyData.keyHash Ω.w.params name) (.str name (s₁.toks+1)) v)).get? b=some o:=fun b o n e=>(Heap.get?_update_ne _ _ _ _ n).trans e;have D':(s₁.heap.update dx (Obj.putName name (PyData.keyHash Ω.w.params name) (.str name (s₁.toks+1)) v)).get? dx=some (dictOf (putL name (PyData.keyHash Ω.w.params name) (.str name (s₁.toks+1)) v l') (putN name l' n')):=by
  refine rv (putName_dict _ _ _ _ _ _).symm ?_;exact YZ _ sR (by refine rv (putName_dict _ _ _ _ _ _) ?_;rfl)
 have mm:=YN hd;have Lu:dY (Xa μ (μ++B)) (s₁.heap.update dx (Obj.putName name (PyData.keyHash Ω.w.params name) (.str name (s₁.toks+1)) v)) (bE name d fs) (putL name (PyData.keyHash Ω.w.params name) (.str name (s₁.toks+1)) v l'):=
  dY.keeps (P:=Xa μ (μ++B)) (P':=Xa μ (μ++B)) (fun χ χ e=>e) (fun b o p e=>⟨p,kp b o (fun q=>p (q▸Yp _ mm)) e⟩) pl
 have x:bd Ω.prog Ω.w (Xb A) [] B μ s₁ μ (σ.put m (.attrs (bE name d fs))) { s₁ with heap:=s₁.heap.update dx (Obj.putName name (PyData.keyHash Ω.w.params name) (.str name (s₁.toks+1)) v),toks:=s₁.toks+2 }:=
  bH (Nat.le_add_right _ _) (x:=.attrs (bE name d fs)) (tk:=s₁.toks+2) av.hp hd kp (gY _ _ D' Lu) ⟨_,D'⟩
 exact wpAny_release (kk μ _ _ ρ ((bd.aG F.hp ai).bt x).wide (av.c5 x) (zg.turnAt mm kp) hk)
theorem bd.stays {L aD:List Addr}{σ':Sg}{s':Shared}(x:bd Ω.prog Ω.w L [] B μ s aD σ' s')(st:Ω.St s)(cl:∀ b o,Ω.C.base b o→b∉μ++B):Ω.St s'∧∀ b o,Ω.C.base b o→b∉aD++B:=by
 refine az (fun ν e_1 fC=>?_) x.new;subst e_1;refine ⟨⟨fun b o e=>x.keep b o (fun m=>cl b o e (Yp _ m)) (fun m=>nomatch m) (fun χ m=>cl b o e (Yn _ m)) (st.stays b o e),Ys st.tk x.tk⟩,fun b o e m=>?_⟩;rcases Yr.mp m with m | m
 ·rcases Yr.mp m with m | m
  ·exact cl b o e (Yp _ m)
  ·have:=fC b m;exact cc this (st.stays b o e)
 ·exact cl b o e (Yn _ m)
theorem lu {c:Code}(hc:c.envs=[]):(A.under c).frames=A.frames:=by
 show pushEnvs c.envs A.frames=A.frames;refine rv hc ?_;cases h:A.frames<;>rfl
theorem sj {c:Code}(hc:c.envs=[]):Xb (A.under c)=Xb A:=by
 unfold Xb;exact rv (lu hc) rfl
theorem RmS.under {l l':Lv}{c:Code}(R:RmS l A B)(hm:l'.md=l.md)(hc:c.envs=[])(h:Rm l' (A.under c)):RmS l' (A.under c) B:=
 ⟨h,rv (sj hc) R.out,rv hm (rv (lu hc) R.fr)⟩
theorem rM {n:Nat}{c:Md}{C fI:Addr}{ds:List D}{kw:List (Str×D)}{k:D→Sg→Prop}(hm:makesIn Ω.K C=true)(hi:findIn Ω.K (.ref C) "__init__"=some (some (.ref fI)))(hf:typeIn Ω.K (.ref fI)=some (.type "function"))
  (h:vD Ω ⟨n,c⟩ fI (.loc (σ.n+1)::ds) kw ((σ.add (.attrs [])).add (.inst C σ.n [])) fun d σ'=>d=.none∧k (.loc (σ.n+1)) σ'):CE Ω ⟨n+1,c⟩ C ds kw σ k:=fun A B μ s vs aV R st cl H rs rk Q E kk=>by
 have X:=Ω.m6 _ st.stays;have nn:=a9 s.heap;have e1:bd Ω.prog Ω.w (Xb A) [] B μ s (μ++[s.heap.objs.size]) (σ.add (.attrs [])) { s with heap:=s.heap.push emptyDict,toks:=s.toks }:=
  dP (YE _) (tk:=s.toks) H nn (Xi.push _ _) (gY [] 0 (Yw _ rfl) .nil) ⟨_,Yw _ rfl⟩
 have cc:=a9 (s.heap.push emptyDict);have e2:bd Ω.prog Ω.w (Xb A) [] B (μ++[s.heap.objs.size]) { s with heap:=s.heap.push emptyDict,toks:=s.toks } (μ++[s.heap.objs.size]++[(s.heap.push emptyDict).objs.size]) ((σ.add (.attrs [])).add (.inst C σ.n [])) { s with heap:=(s.heap.push emptyDict).push (instObj C s.heap.objs.size),toks:=s.toks }:=
  dP (YE _) (s:={ s with heap:=s.heap.push emptyDict,toks:=s.toks }) (tk:=s.toks) e1.hp cc (Xi.push _ _) ⟨s.heap.objs.size,[],by
   show (μ++[s.heap.objs.size]++[(s.heap.push emptyDict).objs.size])[σ.n]? = some s.heap.objs.size;refine rv H.len.symm (rv (List.append_assoc _ _ _) (rv (List.getElem?_append_right (YE _)) ?_));simp,Yw _ rfl,.nil⟩ ⟨_,Yw _ rfl⟩
 have e:=e1.bt e2;obtain ⟨B8,oa⟩:=e.stays st cl;have sz:(s.heap.push emptyDict).objs.size=s.heap.objs.size+1:=Heap.size_push _ _;have hl:(μ++[s.heap.objs.size]++[(s.heap.push emptyDict).objs.size])[σ.n+1]? = some (s.heap.objs.size+1):=by
  refine rv sz (rv H.len.symm (rv (List.append_assoc _ _ _) (rv (List.getElem?_append_right (PH)) ?_)));simp
 have RR:RmS ⟨n,c⟩ (A.under (.builtin "type.__call__" ⟨.ref C::vs,(kw.map (fun x=>x.1)).zip aV⟩)) B:=
  R.under rfl rfl ⟨by have:=R.depth;simp only at this;show A.depth+1+2*n<recursionLimit;exact NC this,by have:=R.units;simp only at this;show A.units+1+20*n+20<cLine;exact R7 this,R.calm⟩
 have n9:=rs.c5 e;have U5:=rk.c5 e;obtain ⟨hh,g,d,t,os⟩:=s;refine wpAny_call (make_core (makes_of X hm) (looks_findIn X hi) (fun self=>bind_fn X self hf) (.inl rfl) ?_);refine h _ B _ _ (.ref (hh.objs.size+1)::vs) aV RR B8 oa e.hp (.cons _ _ _ _ (.loc _ _ hl) n9) U5 _ fun v aD σ' s' x hq=>?_;obtain ⟨d',⟨rfl,hk⟩,r⟩:=hq;refine W_.GW r ?_;refine ⟨rfl,kk _ _ _ _ (e.bt x) ⟨_,hk,.loc _ _ ?_⟩⟩;refine az (fun ν e_2 χ=>?_) x.new;subst e_2;show (_++ν)[σ.n+1]? = _;refine rv (List.getElem?_append_left (YD.mp hl).1) ?_;exact hl
structure Xu (K:Frag)(C:Addr)(name:Str)(f:Addr):Prop where
 ga:findIn K (.ref C) "__getattribute__"=some (some (.builtin "object.__getattribute__"))
 hook:findIn K (.ref C) "__getattr__"=some none
 at_:findIn K (.ref C) name=some (some (.ref f))
 fn:typeIn K (.ref f)=some (.type "function")
theorem dY.none {P:Pl}{h:Heap}{name:Str}{fs:List (Str×D)}{l:List DictEntry}(r:dY P h fs l):lk name fs=Option.none→l.find? (·.key.isStr name)=Option.none:=by
 induction r with
 | nil=>exact fun χ=>rfl
 | cons k d' e t es l a x hh r i=>
  have b:e.key.isStr name=sEq name k:=rv a (rv (pQ _ _) rfl);unfold lk;refine rv List.find?_cons (rv b ?_);cases sEq name k with
  | true=>exact fun q=>iZ q.symm
  | false=>exact i
inductive WT (Ω:U)(l:Lv)(N:ay)(ρ:aO)(σ:Sg)(name:Str)(f:Addr)(args:List PySem.Expr)(k:D→Sg→Prop)(n:Nat):Prop where
 | mk (C:Addr)(m:Nat)(sl:List (Option D))(fs:List (Str×D))(hn:σ.o n=.inst C m sl)(hm:σ.o m=.attrs fs)(hl:lk name fs=none)(M:Xu Ω.K C name f)(h:yG Ω l N ρ σ args fun ds σ'=>CE Ω l f (.loc n::ds) [] σ' k)
theorem t4 {o:PySem.Expr}{name:Str}{apos pos:Pos}{args:List PySem.Expr}{k:D→Sg→Prop}(f:Addr)
  (he:∀ env,∃ pl,eval (.Call (.Attribute o name apos) args [] pos) env=(do
   let ov ← eval o env
   standAt apos.atName
   let (f,first) ← holding [ov] (getMethod ov name pl)
   callWith pos f first (backTo pos (starEach args env)) (backToKw pos (keywordEach [] env)))) (hn:Xc args=true) (hf:rF Ω f)
  (h:EV Ω l N ρ σ o (eL (WT Ω l N ρ σ name f args k))):EF Ω l N ρ σ (.Call (.Attribute o name apos) args [] pos) k:=fun A B μ env s R F Q E kk=>by
 obtain ⟨pl,he⟩:=he env;refine methodCall_KW (pl:=pl) ((h A B μ env s R F.toFx).dM fun n a s₁ ai ha hq=>?_) he;obtain ⟨C,m,sl,fs,ic,hm,hl,M,hd⟩:=hq;have av:=F.grown ai;refine gf (fun dx vs AD hx χ=>?_) (lh av.hp ha ic);refine cS (fun l' n' sR fl=>?_) (gQ av.hp AD hm);have hs:shadowIn (some (dictOf l' n')) name=some false:=by
  have e1:=fl.none hl;have e2:=fl.noRef;show (lookIn name (dictOf l' n')).map _=_;unfold lookIn;dsimp only;refine rv e1 ?_;simp only [e2];rfl
 refine method_fn (od:=some (dictOf l' n')) (Ω.m6 _ av.stays) ⟨hx,rfl,rfl,sR⟩ M.ga M.hook M.at_ M.fn hs ?_;have hp:=aK (env:=env) pos hn;revert hf;refine cS fun ob fd HC na=>?_;refine callWith_function_kw (o:=ob) (fd:=fd) (bw hp ((hd A B μ env s₁ pos R av).go fun vs bh aM ag x ds uX rs=>?_));have aI:=av.c5 x;have t9:bh[n]? = some a:=x.loc ha;refine ⟨⟨aI.stays _ _ HC,na⟩,?_⟩;exact (uX A B bh ag (.ref a::vs) [] R aI.st aI.clear aI.hp (.cons _ _ _ _ (.loc _ _ t9) rs) .nil).use fun v ch aQ aE y hh=>kk v ch aQ aE ((bd.aG F.hp ai).bt (x.bt y)) hh
theorem D9 {f:Str}{p pos:Pos}{a:Addr}{args:List PySem.Expr}{k:D→Sg→Prop}(hg:lk f N=some .globalImplicit)(e:(Ω.C.mg f).or (Ω.C.mb f)=some (.ref a))(hf:rF Ω a)(hn:Xc args=true)(hd:sEq f "__debug__"=false)
  (h:yG Ω l N ρ σ args fun ds σ'=>CE Ω l a ds [] σ' k):EF Ω l N ρ σ (.Call (.Name f p) args [] pos) k:=fun A B μ env s R F Q E kk=>
 Call_Name rfl ((aT (k:=fun d=>d=.val (.ref a)) hg e (.val _ rfl) rfl hd A B μ env s R.toRm F.toFx).go fun v s₁ ai d hq r=>by
  obtain rfl:=hq;refine W_.cR r ?_;have hp:=aK (env:=env) pos hn;revert hf;refine cS fun o fd ho hd=>?_;have av:=F.grown ai;refine callWith_function_kw (o:=o) (fd:=fd) (bw hp ((h A B μ env s₁ pos R av).go fun vs bh aM ag x ds hk rs=>?_));have aI:=av.c5 x;refine ⟨⟨aI.stays _ _ ho,hd⟩,?_⟩;exact (hk A B bh ag vs [] R aI.st aI.clear aI.hp rs .nil).use fun v ch aQ aE y hh=>kk v ch aQ aE ((bd.aG F.hp ai).bt (x.bt y)) hh)
theorem jO {f:Str}{p pos:Pos}{a:Addr}{args:List PySem.Expr}{k:D→Sg→Prop}(hg:lk f N=some .globalImplicit)(e:(Ω.C.mg f).or (Ω.C.mb f)=some (.ref a))(hf:keepIn Ω.K (.ref a)=true)(hn:Xc args=true)(hd:sEq f "__debug__"=false)
  (h:yG Ω l N ρ σ args fun ds σ'=>CE Ω l a ds [] σ' k):EF Ω l N ρ σ (.Call (.Name f p) args [] pos) k:=fun A B μ env s R F Q E kk=>
 Call_Name rfl ((aT (k:=fun d=>d=.val (.ref a)) hg e (.val _ rfl) rfl hd A B μ env s R.toRm F.toFx).go fun v s₁ ai d hq r=>by
  obtain rfl:=hq;refine W_.cR r ?_;have hp:=aK (env:=env) pos hn;have av:=F.grown ai;refine callWith_of (P:=fun h=>Ω.K.In h) (by refine rv hp ?_;rfl) (keeps_K hf) (bw hp ((h A B μ env s₁ pos R av).go fun vs bh aM ag x ds hk rs=>?_));have aI:=av.c5 x;refine ⟨Ω.m6 _ aI.stays,?_⟩;exact (hk A B bh ag vs [] R aI.st aI.clear aI.hp rs .nil).use fun v ch aQ aE y hh=>kk v ch aQ aE ((bd.aG F.hp ai).bt (x.bt y)) hh)
end
section
open PySem.Sem (wp)
theorem FW:typeLookup (.type "method_descriptor") "__get__"=pure (some (.builtin "method_descriptor.__get__")):=by refine rv (typeLookup_type _ _) (rv builtinLookup_eq_fast ?_);kernel_rfl
theorem E6:typeLookup (.type "wrapper_descriptor") "__get__"=pure (some (.builtin "wrapper_descriptor.__get__")):=by refine rv (typeLookup_type _ _) (rv builtinLookup_eq_fast ?_);kernel_rfl
theorem wt {a:Addr}{o:Obj}{T id K G:String}{name:Str}{prog:Program}{w:World}{A:Around}{E:Value→Shared→Prop}{s:Shared}{Q:Builtin.ObjectAttr.Found→Shared→Prop}(hx:s.heap.get? a=some o)(hc:o.cls=.type T)(hd:o.dict=none)(hn:∀ c,o.data≠.cls c)
  (f1:typeLookup (.type T) name=pure (some (.builtin id))) (f2:typeOf (.builtin id)=pure (.type K)) (f3:typeLookup (.type K) "__get__"=pure (some (.builtin G)))
  (f4:typeLookup (.type K) "__set__"=pure none) (f5:typeLookup (.type K) "__delete__"=pure none) (sQ:(["__module__","__name__","__qualname__","__doc__","__annotations__"]:List Str).contains name=false)
  (h:Q (.bind (.builtin G) (.builtin id)) s):wpAny (model prog w) A (Builtin.ObjectAttr.find (.ref a) (.type T) name) Q E s:=by
 unfold Builtin.ObjectAttr.find;refine Yo (wpAny_of_eq f1 ?_);refine Yo ?_;unfold Builtin.ObjectAttr.getOf specialOf;dsimp only;refine Yo (wpAny_of_eq f2 (wpAny_of_eq f3 ?_));refine Yo ?_;unfold Builtin.ObjectAttr.dataDescriptor? Builtin.ObjectAttr.takesStores specialOf;dsimp only;refine Yo (Yo (Yo (wpAny_of_eq f2 (wpAny_of_eq f4 ?_))));refine Yo (Yo (wpAny_of_eq f2 (wpAny_of_eq f5 ?_)));refine YA ?_;refine wpAny_ite_false rfl ?_;refine YA ?_;unfold Builtin.ObjectAttr.ownThenClass Builtin.ObjectAttr.inOwnDict Builtin.ObjectAttr.ownDict instanceDict;dsimp only;obtain ⟨c,dc,dt,sl⟩:=o;simp only at hc hd hn;subst hc hd;obtain ⟨hp,g,d,tk,os⟩:=s
 repeat (any_goals (first | assumption | wp_step))
 dsimp only;split
 ·exact absurd rfl (hn _)
 ·repeat (any_goals (first | assumption | wp_step))
  refine wpAny_ite_false (decide_eq_false (ne_true_of_eq_false sQ)) ?_
  repeat (any_goals (first | assumption | wp_step))
theorem sC {a:Addr}{T id:String}(ow:".".intercalate (id.cutAt '.').dropLast=T)(tc:Manifest.toldItsClass.contains id=false)(sub:isSubtype (.type T) (.type T)=pure true):Meets (Builtin.«method_descriptor.__get__» ⟨[.builtin id,.ref a,.type T],[]⟩) (fun A R s=>s.TypeIs (.ref a) T∧R (.ok (.ret (.ref s.heap.objs.size))) { s with heap:=s.heap.push { cls:=.type "builtin_function_or_method",data:=.fields #[.builtin id,.ref a] } }):=
 Meets.of_wp fun prog w A R s hs=>by
  obtain ⟨hp,g,d,tk,os⟩:=s;obtain ⟨hT,hs⟩:=hs;unfold Builtin.«method_descriptor.__get__»
  repeat (any_goals (first | assumption | wp_step))
  refine wpAny_ite_false (decide_eq_false (ne_true_of_eq_false tc)) ?_
  repeat (any_goals (first | assumption | wp_step))
  refine rv ow ?_
  repeat (any_goals (first | assumption | wp_step))
  exact aF _ rfl hs
theorem sA {a:Addr}{T id:String}(ow:".".intercalate (id.cutAt '.').dropLast=T)(sub:isSubtype (.type T) (.type T)=pure true):Meets (Builtin.«wrapper_descriptor.__get__» ⟨[.builtin id,.ref a,.type T],[]⟩) (fun A R s=>s.TypeIs (.ref a) T∧R (.ok (.ret (.ref s.heap.objs.size))) { s with heap:=s.heap.push { cls:=.type "method-wrapper",data:=.fields #[.builtin id,.ref a] } }):=
 Meets.of_wp fun prog w A R s hs=>by
  obtain ⟨hp,g,d,tk,os⟩:=s;obtain ⟨hT,hs⟩:=hs;unfold Builtin.«wrapper_descriptor.__get__»
  repeat (any_goals (first | assumption | wp_step))
  refine rv ow ?_
  repeat (any_goals (first | assumption | wp_step))
  exact aF _ rfl hs
theorem rW:Slot "method_descriptor" "__get__" "method_descriptor.__get__":=
 .of (owner:="method_descriptor") (n:="__get__") (by refine rv (typeLookup_type _ _) (rv builtinLookup_eq_fast ?_);kernel_rfl) (by decide+kernel) (by decide+kernel) (by decide+kernel)
  (by first | exact .inl (by decide+kernel) | exact .inr (by decide+kernel)) (by refine rv (isSubtype_type _ _) ?_;kernel_rfl)
theorem rV:Slot "wrapper_descriptor" "__get__" "wrapper_descriptor.__get__":=
 .of (owner:="wrapper_descriptor") (n:="__get__") (by refine rv (typeLookup_type _ _) (rv builtinLookup_eq_fast ?_);kernel_rfl) (by decide+kernel) (by decide+kernel) (by decide+kernel)
  (by first | exact .inl (by decide+kernel) | exact .inr (by decide+kernel)) (by refine rv (isSubtype_type _ _) ?_;kernel_rfl)
theorem q6:entryFor table "method_descriptor.__get__"=some Builtin.«method_descriptor.__get__»:=entryFor_of_tree (by kernel_rfl)
theorem q0:entryFor table "wrapper_descriptor.__get__"=some Builtin.«wrapper_descriptor.__get__»:=entryFor_of_tree (by kernel_rfl)
theorem tI (a b c:Value):argsOk "method_descriptor.__get__" ⟨[a,b,c],[]⟩:=by unfold argsOk;kernel_rfl
theorem tH (a b c:Value):argsOk "wrapper_descriptor.__get__" ⟨[a,b,c],[]⟩:=by unfold argsOk;kernel_rfl
theorem FV:typeLookup (.type "method_descriptor") "__set__"=pure none:=by refine rv (typeLookup_type _ _) (rv builtinLookup_eq_fast ?_);kernel_rfl
theorem FY:typeLookup (.type "method_descriptor") "__delete__"=pure none:=by refine rv (typeLookup_type _ _) (rv builtinLookup_eq_fast ?_);kernel_rfl
theorem E5:typeLookup (.type "wrapper_descriptor") "__set__"=pure none:=by refine rv (typeLookup_type _ _) (rv builtinLookup_eq_fast ?_);kernel_rfl
theorem E7:typeLookup (.type "wrapper_descriptor") "__delete__"=pure none:=by refine rv (typeLookup_type _ _) (rv builtinLookup_eq_fast ?_);kernel_rfl
theorem eC {a:Addr}{o:Obj}{T id:String}{name:Str}{u:Tok}{prog:Program}{w:World}{A:Around}{R:Result→Shared→Prop}{s:Shared}
  (hx:s.heap.get? a=some o) (hc:o.cls=.type T) (hd:o.dict=none) (hn:∀ c,o.data≠.cls c)
  (f1:typeLookup (.type T) name=pure (some (.builtin id))) (f2:typeOf (.builtin id)=pure (.type "method_descriptor")) (sQ:(["__module__","__name__","__qualname__","__doc__","__annotations__"]:List Str).contains name=false)
  (ow:".".intercalate (id.cutAt '.').dropLast=T) (tc:Manifest.toldItsClass.contains id=false) (sub:isSubtype (.type T) (.type T)=pure true)
  (h:R (.ok (.ret (.ref s.heap.objs.size))) { s with heap:=s.heap.push { cls:=.type "builtin_function_or_method",data:=.fields #[.builtin id,.ref a] } }):
  wpAny (model prog w) A (Builtin.«object.__getattribute__» ⟨[.ref a,.str name u],[]⟩) (fun fin s'=>∃ v,fin=.done (.ret v)∧R (.ok (.ret v)) s') (fun e s'=>R (.error e) s') s:=by
 have hT:s.TypeIs (.ref a) T:=(aF _ hx hc);unfold Builtin.«object.__getattribute__»;refine Yo (wpAny_of_eq (show slotArgs "__getattribute__" 1 ⟨[.ref a,.str name u],[]⟩=pure (.ref a,[.str name u]) from rfl) ?_);dsimp only;refine Yo (wpAny_of_eq (show Builtin.ObjectAttr.attrName (.str name u)=pure name from rfl) ?_);refine (Yo (wpAny_typeOf hT (Yo (wt hx hc hd hn f1 f2 FW FV FY sQ ?_))));dsimp only;unfold Builtin.ObjectAttr.bindTo;dsimp only;refine Yo (YV (call_meets rW f2 q6 (tI _ _ _) (sC ow tc sub) ⟨hT,?_⟩));exact YA (aF _ rfl h)
theorem ig {a:Addr}{o:Obj}{T id:String}{name:Str}{u:Tok}{prog:Program}{w:World}{A:Around}{R:Result→Shared→Prop}{s:Shared}
  (hx:s.heap.get? a=some o) (hc:o.cls=.type T) (hd:o.dict=none) (hn:∀ c,o.data≠.cls c)
  (f1:typeLookup (.type T) name=pure (some (.builtin id))) (f2:typeOf (.builtin id)=pure (.type "wrapper_descriptor")) (sQ:(["__module__","__name__","__qualname__","__doc__","__annotations__"]:List Str).contains name=false)
  (ow:".".intercalate (id.cutAt '.').dropLast=T) (sub:isSubtype (.type T) (.type T)=pure true)
  (h:R (.ok (.ret (.ref s.heap.objs.size))) { s with heap:=s.heap.push { cls:=.type "method-wrapper",data:=.fields #[.builtin id,.ref a] } }):
  wpAny (model prog w) A (Builtin.«object.__getattribute__» ⟨[.ref a,.str name u],[]⟩) (fun fin s'=>∃ v,fin=.done (.ret v)∧R (.ok (.ret v)) s') (fun e s'=>R (.error e) s') s:=by
 have hT:s.TypeIs (.ref a) T:=(aF _ hx hc);unfold Builtin.«object.__getattribute__»;refine Yo (wpAny_of_eq (show slotArgs "__getattribute__" 1 ⟨[.ref a,.str name u],[]⟩=pure (.ref a,[.str name u]) from rfl) ?_);dsimp only;refine Yo (wpAny_of_eq (show Builtin.ObjectAttr.attrName (.str name u)=pure name from rfl) ?_);refine (Yo (wpAny_typeOf hT (Yo (wt hx hc hd hn f1 f2 E6 E5 E7 sQ ?_))));dsimp only;unfold Builtin.ObjectAttr.bindTo;dsimp only;refine Yo (YV (call_meets rV f2 q0 (tH _ _ _) (sA ow sub) ⟨hT,?_⟩));exact YA (aF _ rfl h)
theorem fW:entryFor table "set.__getattribute__"=some Builtin.«object.__getattribute__»:=
 entryFor_alias (id':="object.__getattribute__") (by kernel_rfl) (by decide+kernel) (by decide+kernel) (by kernel_rfl)
theorem yZ:isSubtype (.type "dict") (.type "dict")=pure true:=by refine rv (isSubtype_type _ _) ?_;kernel_rfl
theorem B3:isSubtype (.type "set") (.type "set")=pure true:=by refine rv (isSubtype_type _ _) ?_;kernel_rfl
theorem kz {a:Addr}{o:Obj}(hx:s.heap.get? a=some o)(hc:o.cls=.type "dict")(hd:o.dict=none)(hn:∀ c,o.data≠.cls c)
  (h:∀ tk,Q (.ref s.heap.objs.size) { s with heap:=s.heap.push { cls:=.type "builtin_function_or_method",data:=.fields #[.builtin "dict.get",.ref a] },toks:=tk }):wpAny (model prog w) A (getAttr (.ref a) "get" true) Q E s:=by
 obtain ⟨hp,g,d,tk,os⟩:=s;obtain ⟨c,dc,dt,sl⟩:=o;simp only at hc hd hn;subst hc hd;have hT:∀ H6,(⟨hp,g,d,H6,os⟩:Shared).TypeIs (.ref a) "dict":=fun χ=>(aF _ hx rfl);have f3:=PySem.F.slot_dict_getattribute.lookup;have f4:=PySem.F.slot_dict_getattribute.bind (.ref a);unfold getAttr getAttrBy
 repeat (any_goals (first | assumption | exact hT _ | ((with_reducible show wpAny _ _ (call (Value.builtin "dict.__getattribute__") _ _) _ _ _);refine call_meets PySem.F.slot_dict_getattribute (hT _) am_entry_dict_getattribute (PySem.F.args_dict_getattribute_2 _ _) (S:=fun A R s=>s.heap.get? a=some ⟨.type "dict",none,dt,sl⟩∧R (.ok (.ret (.ref s.heap.objs.size))) { s with heap:=s.heap.push { cls:=.type "builtin_function_or_method",data:=.fields #[.builtin "dict.get",.ref a] } }) (.of_wp fun prog w A R s hs=>eC hs.1 rfl rfl hn PySem.F.slot_dict_get.lookup PySem.F.type_dict_get (by decide+kernel) (by decide+kernel) (by decide+kernel) yZ hs.2) ⟨hx,?_⟩) | wp_step))
 exact YA (h _)
theorem gJ {a:Addr}{o:Obj}(hx:s.heap.get? a=some o)(hc:o.cls=.type "set")(hd:o.dict=none)(hn:∀ c,o.data≠.cls c)
  (h:∀ tk,Q (.ref s.heap.objs.size) { s with heap:=s.heap.push { cls:=.type "builtin_function_or_method",data:=.fields #[.builtin "set.__contains__",.ref a] },toks:=tk }):wpAny (model prog w) A (getAttr (.ref a) "__contains__" true) Q E s:=by
 obtain ⟨hp,g,d,tk,os⟩:=s;obtain ⟨c,dc,dt,sl⟩:=o;simp only at hc hd hn;subst hc hd;have hT:∀ H6,(⟨hp,g,d,H6,os⟩:Shared).TypeIs (.ref a) "set":=fun χ=>(aF _ hx rfl);have f3:=PySem.F.slot_set_getattribute.lookup;have f4:=PySem.F.slot_set_getattribute.bind (.ref a);unfold getAttr getAttrBy
 repeat (any_goals (first | assumption | exact hT _ | ((with_reducible show wpAny _ _ (call (Value.builtin "set.__getattribute__") _ _) _ _ _);refine call_meets PySem.F.slot_set_getattribute (hT _) fW (PySem.F.args_set_getattribute_2 _ _) (S:=fun A R s=>s.heap.get? a=some ⟨.type "set",none,dt,sl⟩∧R (.ok (.ret (.ref s.heap.objs.size))) { s with heap:=s.heap.push { cls:=.type "builtin_function_or_method",data:=.fields #[.builtin "set.__contains__",.ref a] } }) (.of_wp fun prog w A R s hs=>eC hs.1 rfl rfl hn PySem.F.slot_set_contains.lookup PySem.F.type_set_contains (by decide+kernel) (by decide+kernel) (by decide+kernel) B3 hs.2) ⟨hx,?_⟩) | wp_step))
 exact YA (h _)
noncomputable def Bd (T id:String)(v:Value):Obj:={ cls:=.type T,data:=.fields #[.builtin id,v] }
theorem uN {u:Addr}{T id:String}{v:Value}(hT:T="builtin_function_or_method"∨T="method-wrapper"){Q:Keeper→Shared→Prop}(ho:s.heap.get? u=some (Bd T id v))(h:Q .machine s):wpAny M A (keeperOf (.ref u)) Q E s:=by
 unfold keeperOf;refine Yo (wpAny_load ho ?_);rcases hT with rfl | rfl<;>exact YA h
theorem jI {pos:Pos}{u:Addr}{T id:String}{v:Value}{first:List Value}{args:List (Bool×Sem Value)}{Q:Value→Shared→Prop}(hT:T="builtin_function_or_method"∨T="method-wrapper")(Gy:args.any (fun x=>x.1)=false)
  (h:wpAny M A (evalArgs (.ref u) true args []) (fun x s₁=>s₁.heap.get? u=some (Bd T id v)∧wpAny M A (call (.ref u) (first++x.pos) x.kw) Q E s₁) E s):wpAny M A (callWith pos (.ref u) first args []) Q E s:=by
 unfold callWith;refine Yo (YV (wpAny_mono h (fun x s₁ aP=>Yo (wpAny_standAt ?_)) fun χ χ x=>x));obtain ⟨ho,Jv⟩:=aP;simp only [Gy,List.any_nil,Bool.or_false];refine Yo (m:=keeperOf (.ref u)) (uN hT ho ?_);exact Yo (wpAny_mono Jv (fun r ag hr=>Yo (YV (wpAny_point (YA hr)))) fun χ χ x=>x)
theorem nI {u:Addr}{T id:String}{v:Value}{args:List Value}{B:Builtin}{S:PySem.Spec}{Q:Value→Shared→Prop}(hT:T="builtin_function_or_method"∨T="method-wrapper")(ho:s.heap.get? u=some (Bd T id v))
  (WG:wpAny (model prog w) A.in1 (checkBoundCall id ⟨v::args,[]⟩) (fun χ s'=>s'=s) (fun χ χ=>False) s) (plain:plainId id=true) (entry:entryFor table id=some B) (g:MeetsIn prog w (B ⟨v::args,[]⟩) S) (h:S A (wants Q E) s):wpAny (model prog w) A (call (.ref u) args) Q E s:=by
 refine wpAny_call (codeAny_of_tree ?_);show wpAny _ A.in1 (callAny (.ref u) ⟨args,[]⟩) _ _ s;simp only [callAny];refine Yo (wpAny_load ho ?_);have e:(Value.type T==Value.type "method"||Value.type T==Value.type "builtin_function_or_method"||Value.type T==Value.type "method-wrapper")=true:=by rcases hT with rfl | rfl<;>decide
 have e':(Value.type T != Value.type "method")=true:=by rcases hT with rfl | rfl<;>decide
 simp only [Bd,e,if_true];show wpAny _ _ (if (Value.type T != Value.type "method")=true then _ else _) _ _ _;refine rv (YH e') ?_;refine Yo (wpAny_mono WG (fun χ s' q=>?_) fun χ χ q=>q.elim);subst q;refine Yo (YA (YA ?_));refine ⟨plainId_quiet plain _,codeAny_builtin entry ?_⟩;refine rv (Around.under_plainId plain _) ?_;exact g A (wants Q E) s' h
theorem re {a:Addr}{o:Obj}{x y:Value}(hx:s.heap.get? a=some o)(hc:o.cls=.type "dict")(hn:∀ c,o.data≠.cls c):wpAny (model prog w) A (checkBoundCall "dict.get" ⟨[.ref a,x,y],[]⟩) (fun χ s'=>s'=s) (fun χ χ=>False) s:=by
 obtain ⟨hp,g,d,tk,os⟩:=s;obtain ⟨c,dc,dt,sl⟩:=o;simp only at hc hn;subst hc;have hT:(⟨hp,g,d,tk,os⟩:Shared).TypeIs (.ref a) "dict":=(aF _ hx rfl);have f1:isSubtype (.type "dict") (.type "module")=pure false:=by refine rv (isSubtype_type _ _) ?_;kernel_rfl
 unfold checkBoundCall
 repeat (any_goals (first | assumption | wp_step))
 rfl
 repeat (any_goals (first | assumption | wp_step))
theorem kI {a:Addr}{o:Obj}{x:Value}(hx:s.heap.get? a=some o)(hc:o.cls=.type "set")(hn:∀ c,o.data≠.cls c):wpAny (model prog w) A (checkBoundCall "set.__contains__" ⟨[.ref a,x],[]⟩) (fun χ s'=>s'=s) (fun χ χ=>False) s:=by
 obtain ⟨hp,g,d,tk,os⟩:=s;obtain ⟨c,dc,dt,sl⟩:=o;simp only at hc hn;subst hc;have hT:(⟨hp,g,d,tk,os⟩:Shared).TypeIs (.ref a) "set":=(aF _ hx rfl);have f1:isSubtype (.type "set") (.type "module")=pure false:=by refine rv (isSubtype_type _ _) ?_;kernel_rfl
 unfold checkBoundCall
 repeat (any_goals (first | assumption | wp_step))
 rfl
 repeat (any_goals (first | assumption | wp_step))
end
section
open PySem.Sem (wp)
variable {K:Type}[DecidableEq K]{knd:KeyKind prog w K}{a:Addr}{k:K}{key:Value}
open Builtin in
theorem qk {S:K→Bool}{n:Nat}(Dd:knd.is k key=true)(Hz:key.scannable=true):MeetsIn prog w (Builtin.«frozenset.__contains__» ⟨[.ref a,key],[]⟩) (fun A R s=>s.heap.SetOf knd a S n∧R (.ok (.ret (.bool (S k)))) { s with toks:=s.toks+1 }):=fun A R s hs=>by
 obtain ⟨hS,h⟩:=hs;unfold Builtin.«frozenset.__contains__» Builtin.Frozenset.oneOther;simp only [List.isEmpty_nil,bind_assoc];unfold Builtin.Frozenset.addrOf Builtin.Frozenset.withSetAsKey setContains;refine Yo (YA ?_)
 try dsimp only
 refine Yo (YA ?_)
 try dsimp only
 refine Yo (wpAny_tryCatch ?_);refine YV ?_;refine Yo (knd.pyHash Dd ?_);refine Yo (wpAny_setFind_of (s:={ s with toks:=s.toks+1 }) Dd Hz hS fun r hr=>?_);refine YA ?_;show wpAny _ _ (ret (Value.bool r.isSome)) _ _ _;refine rv hr ?_;exact YA h
noncomputable def DX (Ω:U)(l:Lv)(id:String)(n:Nat)(ds:List D)(σ:Sg)(k:D→Prop):Prop:=
 ∀ (A:Around) (B μ:List Addr) (s:Shared) (a u:Addr) (T:String) (vs:List Value),Rm l A→Ω.St s→(∀ b o,Ω.C.base b o→b∉μ++B)→Hp Ω.prog Ω.w μ B σ s.heap→μ[n]? = some a→au (Xa μ (μ++B)) s.heap ds vs→(T="builtin_function_or_method"∨T="method-wrapper")→s.heap.get? u=some (Bd T id (.ref a))→du Ω.M A (Xa μ (μ++B)) (call (.ref u) vs) s k
theorem nB {K:Type}[DecidableEq K]{knd:KeyKind Ω.prog Ω.w K}{h:Heap}{a:Addr}{aV:List (K×Value)}(d:h.DictOf knd a aV):∃ o,h.get? a=some o∧o.cls=.type "dict"∧o.dict=none∧∀ c,o.data≠.cls c:=by
 revert d;refine Pj fun o es n e hc hd hx χ=>?_;refine BD o e hc.1 hc.2.1 (fun c q=>?_);rw [q] at hd;cases hd
theorem vV {K:Type}[DecidableEq K]{knd:KeyKind Ω.prog Ω.w K}{h:Heap}{a:Addr}{S:K→Bool}{n:Nat}(d:h.SetOf knd a S n):∃ o,h.get? a=some o∧o.cls=.type "set"∧o.dict=none∧∀ c,o.data≠.cls c:=by
 revert d;refine KH fun o es n t e y_1 hx χ=>?_;revert y_1;refine e8 fun hc hd χ=>?_;refine BD o e hc hd (fun c q=>?_);rw [q] at hx;cases hx
theorem rm {n:Nat}{id T:String}{a:Addr}{d:D}{v:Value}(L:Xk P s.heap)(hT:T="builtin_function_or_method"∨T="method-wrapper")(r:W_ P s.heap d v):W_ P (s.heap.push { cls:=.type T,data:=.fields #[.builtin id,v] }) (.jK d id) (.ref s.heap.objs.size):=
 .jK d id _ v T hT L.size (Yw _ rfl) (r.ext (.push _ _))
theorem Bp {o:PySem.Expr}{pos:Pos}{k:D→Prop}(hb:bu o=true)(h:EV Ω l N ρ σ o fun d=>∃ n,d=.loc n∧wD (σ.o n)="dict"∧k (.jK (.loc n) "dict.get")):EV Ω l N ρ σ (.Attribute o "get" pos) k:=fun A B μ env s R F Q E kk=>by
 refine Attribute_any_ ((h A B μ env s R F).go fun v s₁ ai cD hq b6=>?_) (rv (arm_eval_Attribute _ _ _ _) (rv (bJ hb) rfl));revert hq;refine db fun n e_2 hn hk=>?_;subst e_2;have av:=F.grown ai;refine az (fun a e_3 ha=>?_) (eR b6);subst e_3;have ob:∃ o,s₁.heap.get? a=some o∧o.cls=.type "dict"∧o.dict=none∧∀ c,o.data≠.cls c:=by
  have ob:=av.hp.obj n a ha;cases q:σ.o n<;>rw [q] at hn ob<;>try first | exact absurd hn (show ¬ "list"="dict" by decide) | exact absurd hn (show ¬ "set"="dict" by decide) | exact absurd hn (show ¬ ""="dict" by decide)
  ·revert ob;refine db fun χ χ d χ=>?_;exact nB d
  ·revert ob;refine db fun χ χ d χ=>?_;exact nB d
 revert ob;refine A1 fun o e hc hd hn=>?_;refine d9 (kz e hc hd hn fun tk lt=>kk _ _ (ai.trans (lA _ tk rfl (.push _ _) lt)) ⟨_,hk,rm (n:=0) (a:=0) av.lets (.inl rfl) b6⟩)
theorem D4 {o:PySem.Expr}{pos:Pos}{k:D→Prop}(hb:bu o=true)(h:EV Ω l N ρ σ o fun d=>∃ n xs,d=.loc n∧σ.o n=.set xs∧k (.jK (.loc n) "set.__contains__")):EV Ω l N ρ σ (.Attribute o "__contains__" pos) k:=fun A B μ env s R F Q E kk=>by
 refine Attribute_any_ ((h A B μ env s R F).go fun v s₁ ai cD hq b6=>?_) (rv (arm_eval_Attribute _ _ _ _) (rv (bJ hb) rfl));revert hq;refine gf fun n xs e_4 hn hk=>?_;subst e_4;have av:=F.grown ai;refine az (fun a e_5 ha=>?_) (eR b6);subst e_5;refine A1 (fun o e hc hd hn=>?_) (vV (Cb av.hp ha hn));refine d9 (gJ e hc hd hn fun tk lt=>kk _ _ (ai.trans (lA _ tk rfl (.push _ _) lt)) ⟨_,hk,rm (n:=0) (a:=0) av.lets (.inl rfl) b6⟩)
theorem tW {f:Str}{p pos:Pos}{n:Nat}{id:String}{args:List PySem.Expr}{k:D→Prop}(e:lk f ρ=some (.jK (.loc n) id))(hd:(sEq f "__debug__"||sEq f "__classdict__")=false)(hn:Xc args=true)
  (h:rP Ω l N ρ σ args fun ds=>DX Ω l id n ds σ k):EV Ω l N ρ σ (.Call (.Name f p) args [] pos) k:=fun A B μ env s R F Q E kk=>
 Call_Name rfl ((aa (k:=fun d=>d=.jK (.loc n) id) e rfl hd A B μ env s R F).go fun v s₁ ai d hq r=>by
  obtain rfl:=hq;cases r with
  | jK _ _ u v T hT p o r=>
  have hp:=aK (env:=env) pos hn;refine az (fun a e_6 ha=>?_) (eR r);subst e_6;refine jI (T:=T) (id:=id) (v:=.ref a) hT hp (bw hp ((h A B μ env s₁ pos R (F.grown ai)).go fun vs ag ar ds hk rs=>?_));have aI:=F.grown (ai.trans ar);refine ⟨ar.ext _ _ o,?_⟩;exact (hk A B μ ag a u T vs R aI.st aI.clear aI.hp ha rs hT (ar.ext _ _ o)).use fun v aE aU zf=>kk v aE ((ai.trans ar).trans aU) zf)
theorem zw {n:Nat}{x:Int}{cD:D}{es:List (Int×D)}{k:D→Prop}(hn:σ.o n=.fy es)(h:k ((cP es x).getD cD)):DX Ω l "dict.get" n [.int x,cD] σ k:=fun A B μ s a u T vs R st cl H ha rs hT ho Q E kk=>by
 cases rs with | cons _ v _ vs r1 rs=>
 refine az (fun u e_7 r2=>?_) rs.one;subst e_7;refine W_.jD r1 fun ϑ=>?_;refine db (fun aV z dd rr=>?_) (EO H ha hn);refine A1 (fun o e hc hd Mi=>?_) (nB dd);refine nI hT ho (re e hc Mi) (by decide+kernel) PySem.F.entry_dict_get (meets_dict_get_default _ a (Ah x _) z u) (aF _ dd.mapOf ?_);refine kk _ _ (.tok ..) ⟨_,h,?_⟩;cases q:cP es x with
 | none=>exact rv ((rr.at x).2 q) r2
 | some d=>
  refine az (fun v e r=>?_) ((rr.at x).1 d q);exact rv e r
theorem Iv {n:Nat}{x:Str}{xs:List Str}{k:D→Prop}(hn:σ.o n=.set xs)(h:k (.bool (decide (x∈xs)))):DX Ω l "set.__contains__" n [.str x] σ k:=fun A B μ s a u T vs R st cl H ha rs hT ho Q E kk=>by
 refine az (fun v e_8 r=>?_) rs.one;subst e_8;refine W_.cK r fun ϑ=>?_;have ss:=Cb H ha hn;refine A1 (fun o e hc hd Mi=>?_) (vV ss);exact nI hT ho (kI e hc Mi) (by decide+kernel) PySem.entry_set_contains (qk (isStr x _) rfl) ⟨ss,kk _ _ (.tok ..) ⟨_,h,.bool _⟩⟩
end
section
variable (P:Params)(pr:Program)
theorem wn:peek (hd.heap_1 P) ⟨pr,P⟩ (Bind.madeBy (.ref 135))=some none:=by rfl
theorem FS:peek (hd.heap_1 P) ⟨pr,P⟩ (mroOf (.ref 135))=some [.ref 135,.type "tuple",.type "object"]:=by rfl
theorem xL:peek (hd.heap_1 P) ⟨pr,P⟩ (isType (.ref 135))=some true:=by rfl
theorem CC:findIn (hd.heap_1 P) (.ref 135) "__init__"=some (some (.builtin "object.__init__")):=by rfl
theorem FR:findCls (hd.heap_1 P) (.ref 135) (.type "type") "__new__"=some (.get (.builtin "staticmethod.__get__") (.ref 136) .none (.ref 135)):=by rfl
theorem zR:readsIn (hd.heap_1 P) 135 (.type "type")=true:=by rfl
theorem FP:subIn (hd.heap_1 P) (.ref 135) (.ref 135)=some true:=by rfl
theorem lI:subIn (hd.heap_1 P) (.ref 135) (.type "tuple")=some true:=by rfl
theorem CB:subIn (hd.heap_1 P) (.ref 135) (.type "object")=some true:=by rfl
theorem FQ:recIn (hd.heap_1 P) 136 "staticmethod"=some [.ref 82]:=by rfl
theorem CJ:specialIn (hd.heap_1 P) (.ref 135) "__call__"=some (some (.builtin "type.__call__")):=by rfl
theorem CG:instIn (hd.heap_1 P) (.ref 135) (.type "type")=some true:=by rfl
theorem CF:findIn (hd.heap_1 P) (.ref 135) "__iter__"=some (some (.builtin "tuple.__iter__")):=by rfl
theorem Es:findIn (hd.heap_1 P) (.ref 135) "__len__"=some (some (.builtin "tuple.__len__")):=by rfl
theorem BX:Bind.madeBy (.type "tuple")=pure (some "tuple.__new__"):=by
 unfold Bind.madeBy
 kernel_rfl
theorem CK:peek (hd.heap_1 P) ⟨pr,P⟩ (Bind.staticBase (.ref 135))=some (.type "tuple"):=by
 kernel_rfl
end
section
open Builtin Builtin.ObjectAttr PySem.Calls
theorem Bz (HK:Ω.K=hd.heap_1 Ω.w.params){n:Nat}{c:Md}{d1 d2 d3:D}{k:D→Sg→Prop}
  (h:CE Ω ⟨n,c⟩ 82 [.val (.ref 135),d1,d2,d3] [] σ fun d σ'=>(∃ xs,d=.inst 135 xs)∧k d σ'):CE Ω ⟨n+1,c⟩ 135 [d1,d2,d3] [] σ k:=fun A B μ s vs aV R st cl H rs rk Q E kk=>by
 cases rk;have X:=Ω.m6 _ st.stays;rw [HK] at X;have Lk:∀ {α:Type} {t:Sem α} {r:α},peek (hd.heap_1 Ω.w.params) ⟨Ω.prog,Ω.w.params⟩ t=some r→Looks Ω.M s.heap t r:=fun e=>Looks.of_peek X e;have made:=Lk (wn _ _);have mro:=Lk (FS _ _);obtain ⟨cd,sl,hC⟩:∃ cd sl,∀ P,(hd.heap_1 P).lookup 135=some ⟨.type "type",none,.cls cd,sl⟩:=(uK _ _ (fun χ=>rfl));have hC:=X _ _ (hC _);have call:=looks_specialIn (M:=Ω.M) X (CJ Ω.w.params);have typ:=looks_instIn (M:=Ω.M) X (CG Ω.w.params);cases rs with | cons _ v1 _ vs r1 rs=>
 cases rs with | cons _ v2 _ vs r2 rs=>
 refine az (fun v3 e_1 r3=>?_) rs.one;subst e_1;refine wpAny_call (codeAny_of_tree ?_);show wpAny _ _ (callAny (.ref 135) _) _ _ _;refine nd_load hC ?_;show wpAny _ _ (callAny.viaDunder (.ref 135) _) _ _ _;unfold callAny.viaDunder;refine Yo (call.at ?_);dsimp only;refine rv (tc_bind _) ?_;refine Yo (YA (Yo (YA ?_)));refine YA (a:=Fin.again (.call (.builtin "type.__call__") ⟨.ref 135::[v1,v2,v3],[]⟩)) (And.intro rfl ?_);refine codeAny_call_builtin_at (Code.quiet_builtin _ (by decide+kernel)) entry_typeCall (check_slot tc_kind tc_split typ (tc_args _ _ _) ?_);unfold Builtin.«type.__call__»;have e4:([Value.ref 135,Value.type "tuple",Value.type "object"]:List Value).isEmpty=false:=rfl
 iterate 8 (first | (with_reducible refine wpAny_ite_false rfl ?_;try dsimp only) | lk)
 refine cls_bind X (zR _) (FR _) ?_;refine wpAny_call (sm_get (s:={ s with toks:=s.toks+1 }) X (FQ _) (handed_on rfl ?_));refine Yo (YV ?_);have RR:RmS ⟨n,c⟩ (A.under (.builtin "type.__call__" ⟨[.ref 135,v1,v2,v3],[]⟩)) B:=
  R.under rfl rfl ⟨by have:=R.depth;simp only at this;show A.depth+1+2*n<recursionLimit;lia -abstractProof,by have:=R.units;simp only at this;show A.units+1+20*n+20<cLine;lia -abstractProof,R.calm⟩
 refine (h _ B μ { s with toks:=s.toks+1 } [.ref 135,v1,v2,v3] [] RR ⟨st.stays,Nat.le_succ_of_le st.tk⟩ cl H (.cons _ _ _ _ (.val _ rfl) (.cons _ _ _ _ r1 (.cons _ _ _ _ r2 (.cons _ _ _ _ r3 .nil)))) .nil).go fun v aD σ' s' x d hq r=>?_;obtain ⟨⟨xs,rfl⟩,hk⟩:=hq;have x0:bd Ω.prog Ω.w (Xb A) [] B μ s μ σ { s with toks:=s.toks+1 }:=.aG H (.tok ..);have B8:=(x.stays ⟨st.stays,Nat.le_succ_of_le st.tk⟩ cl).1;have X':=Ω.m6 _ B8.stays;rw [HK] at X';have r':=r;cases r with
 | inst _ _ a us m dd p o rs=>
 have t1:Looks Ω.M s'.heap (typeOf (.ref a)) (.ref 135):=(Looks.ld o).andThen .now;have s1:=looks_subIn (M:=Ω.M) X' (FP Ω.w.params);have i1:=looks_findIn (M:=Ω.M) X' (CC Ω.w.params);have i2:Looks Ω.M s'.heap (isInstance (.ref a) (.ref 135)) true:=t1.andThen s1;have i3:Looks Ω.M s'.heap (isInstance (.ref a) (.type "object")) true:=t1.andThen (looks_subIn X' (CB Ω.w.params));refine Yo (i2.here ?_);refine wpAny_ite_false rfl ?_;refine Yo (YV ?_);unfold callSpecial? specialOf;refine Yo (Yo (t1.here (i1.here ?_)));dsimp only;refine YV ?_;refine rv (oi_bind _) ?_;refine Yo (YA (Yo (wpAny_call ?_)));have IT:Looks Ω.M s'.heap (Bind.madeBy (.ref 135)) none:=Looks.of_peek X' (wn _ _);refine codeAny_call_builtin oi_plain entry_oi (@check_slot (model Ω.prog Ω.w) _ _ _ "object.__init__" "object" "__init__" (.ref a) [v1,v2,v3] [] _ oi_kind oi_split i3 (by unfold argsOk;kernel_rfl) ?_);unfold Builtin.«object.__init__»;refine Yo (t1.here (Yo (i1.here (Yo (IT.here ?_)))));refine YA (YA (YA ?_));exact kk _ _ _ _ (x0.bt x) ⟨_,hk,r'⟩
end
theorem yR:plainId "tuple.__new__"=true:=by decide+kernel
theorem BY:builtinKind "tuple.__new__"=some .builtinFn:=by decide+kernel
theorem yQ:splitId "tuple.__new__"=some ("tuple","__new__"):=by decide+kernel
theorem Fa (P:Params):findCls (hd.heap_1 P) (.type "tuple") (.type "type") "__new__"=some (.val (.builtin "tuple.__new__")):=by kernel_rfl
theorem zS (P:Params)(pr:Program):peek (hd.heap_1 P) ⟨pr,P⟩ (typeLookup (.ref 135) "__init__")=some (some (.builtin "object.__init__")):=by rfl
section
open Builtin Builtin.ObjectAttr PySem.Calls
noncomputable def zX (dx:Addr)(vs:Array Value):Obj:={ cls:=.ref 135,dict:=some dx,data:=.seq vs }
theorem tz {t:Addr}{vs:Array Value}{n:Nat}{Q:Value→Shared→Prop}(X:(hd.heap_1 w.params).In s.heap)(ht:s.heap.get? t=some { cls:=.type "tuple",data:=.seq vs n })
  (hz:vs.size≤sizeLine) (h:∀ h' dx a,Xi s.heap h'→s.heap.get? a=none→h'.get? a=some (zX dx vs)→Q (.ref a) { s with heap:=h' }):wpAny (model prog w) A (call (.builtin "tuple.__new__") [.ref 135,.ref t]) Q E s:=by
 have Lk:∀ {α:Type} {t:Sem α} {r:α},peek (hd.heap_1 w.params) ⟨prog,w.params⟩ t=some r→Looks (model prog w) s.heap t r:=fun e=>Looks.of_peek X e;have ty:=Lk (xL _ _);have su:=looks_subIn (M:=model prog w) X (lI w.params);have ba:=Lk (CK _ _);have ma:Looks (model prog w) s.heap (Bind.madeBy (.type "tuple")) (some "tuple.__new__"):=Looks.of_pure BX;have W0:=Lk (zS _ _);obtain ⟨cd,sl,hC⟩:∃ cd sl,(∀ P,(hd.heap_1 P).lookup 135=some ⟨.type "type",none,.cls cd,sl⟩)∧cd.hasDel=false:=(gY _ _ (fun χ=>rfl) rfl);have x6:=hC.2;have hC:=X _ _ (hC.1 _);refine wpAny_call (codeAny_call_builtin yR PySem.F.entry_tuple_new ?_);unfold checkBuiltinCall;refine rv BY (rv yQ ?_);dsimp only
 repeat (first | with_reducible refine wpAny_ite_false rfl ?_ | with_reducible refine wpAny_ite_true rfl ?_ | (with_reducible refine wpAny_collect_seq t (.inr rfl) ht rfl rfl (fun h' hk=>?_) hz) | lk)
 refine rv (Yz (by simpa using hz)) ?_;unfold newObjAsIs classHasDel;refine Yo (wpAny_alloc (Yo (Yo (wpAny_load (YB _ (YB _ (hk _ _ hC))) (YA ?_)))));dsimp only;refine rv x6 ?_;refine YA (YA ?_);refine h _ h'.objs.size (h'.push emptyDict).objs.size (fun b o e=>YB _ (YB _ (hk _ _ e))) ?_ ?_
 ·cases q:s.heap.get? (h'.push emptyDict).objs.size with
  | none=>rfl
  | some o=>exact absurd (Heap.lt_size (hk _ _ q)) (rv (Heap.size_push _ _) (Nat.not_lt.mpr (Nat.le_succ _)))
 ·refine rv Array.toArray_toList ?_;exact Yw _ rfl
theorem qi {it t:Addr}{i:Nat}{vs:Array Value}{o:Obj}{m:Nat}{x:Value}{Q:Option Value→Shared→Prop}(hit:s.heap.IsTupleIter it t i)(ho:s.heap.get? t=some o)(hd:o.data=.seq vs m)(hx:vs[i]? = some x)
  (hQ:∀ h',h'.IsTupleIter it t (i+1)→Heap.SameBut it s.heap h'→Q (some x) { s with heap:=h' }):wpAny (model prog w) A (pyNext (.ref it)) Q E s:=by
 unfold pyNext;refine Yo (wpAny_attempt (wpAny_callSpecial?_slot (name:=Str.ofString "__next__") hit.typeIs PySem.F.slot_tuple_iterator_next
  (wpAny_call_entry PySem.F.slot_tuple_iterator_next hit.typeIs PySem.F.entry_tuple_iterator_next ?_ (PySem.F.args_tuple_iterator_next_1 _))))
 revert hit;refine db fun y_1 Kw hc GK=>?_;obtain ⟨ci,di,WF,U0⟩:=y_1;obtain ⟨c,dd,dt,sl⟩:=o;simp only at hd hc GK;subst hd hc GK;obtain ⟨hp,g,d,tk,os⟩:=s;unfold Builtin.«tuple_iterator.__next__»
 repeat (any_goals (first | assumption | wp_step))
 refine rv (show ((i:Int)).toNat=i by simp) (rv hx ?_)
 repeat (any_goals (first | assumption | wp_step))
 refine aF _ rfl (YA (hQ _ (eQ _ (YZ _ Kw rfl) rfl ?_) (Heap.SameBut.update ..)));simp [Obj.mapFields,rawInt]
theorem sw {it t:Addr}{vs:Array Value}{o:Obj}{m:Nat}{Q:Option Value→Shared→Prop}(hh:A.handled=none)(hit:s.heap.IsTupleIter it t vs.size)(ho:s.heap.get? t=some o)(hd:o.data=.seq vs m)
  (hQ:∀ h',Heap.ExtBut it s.heap h'→Q none { s with heap:=h' }):wpAny (model prog w) A (pyNext (.ref it)) Q E s:=by
 unfold pyNext;refine Yo (wpAny_attempt (wpAny_callSpecial?_slot (name:=Str.ofString "__next__") hit.typeIs PySem.F.slot_tuple_iterator_next
  (wpAny_call_entry PySem.F.slot_tuple_iterator_next hit.typeIs PySem.F.entry_tuple_iterator_next ?_ (PySem.F.args_tuple_iterator_next_1 _))))
 revert hit;refine db fun y_2 Kw hc GK=>?_;obtain ⟨ci,di,WF,U0⟩:=y_2;obtain ⟨c,dd,dt,sl⟩:=o;simp only at hd hc GK;subst hd hc GK;obtain ⟨hp,g,d,tk,os⟩:=s;unfold Builtin.«tuple_iterator.__next__»
 repeat (any_goals (first | assumption | wp_step))
 refine rv (show ((vs.size:Int)).toNat=vs.size by simp) (rv (show vs[vs.size]? = none by simp) ?_)
 repeat (any_goals (first | assumption | wp_step))
 delta raiseNew;dsimp only
 refine Yo (wpAny_handled ?_);refine rv (show A.in1.handled=none from hh) ?_;refine Yo (YA (wpAny_throw ?_));refine Yo (wpAny_isInstance (T:="StopIteration") (b:=true) (aF _ (Yw _ rfl) rfl) isSubtype_stop ?_);exact YA (hQ _ (((Heap.SameBut.update ..).extBut.push _).push _))
end
theorem B1:builtinKind "tuple.__iter__"=some .slot:=by decide+kernel
theorem yU:splitId "tuple.__iter__"=some ("tuple","__iter__"):=by decide+kernel
theorem yV:plainId "tuple.__iter__"=true:=by decide+kernel
theorem B2 (self:Value):bindSpecial (.builtin "tuple.__iter__") self=pure (.builtin "tuple.__iter__",[self]):=PySem.F.slot_tuple_iter.bind self
theorem BZ:builtinKind "tuple.__len__"=some .slot:=by decide+kernel
theorem yS:splitId "tuple.__len__"=some ("tuple","__len__"):=by decide+kernel
theorem yT:plainId "tuple.__len__"=true:=by decide+kernel
theorem B0 (self:Value):bindSpecial (.builtin "tuple.__len__") self=pure (.builtin "tuple.__len__",[self]):=PySem.F.slot_tuple_len.bind self
section
open Builtin Builtin.ObjectAttr PySem.Calls
theorem BO (hh:A.handled=none)(I ax:Addr)(gi:ax≠I)(vs:Array Value)(m:Nat)(o:Obj)(hd:o.data=.seq vs m):Walks prog w A I [I,ax] [I] vs.size (fun i v=>vs[i]? = some v) (fun i h=>h.IsTupleIter I ax i∧h.get? ax=some o) where
 sub:=fun b hb=>YC.mpr (.inl (Yq.mp hb))
 frame:=fun χ χ χ st hk=>⟨st.1.at fun o e=>hk I Yu o e,hk ax (by simp) o st.2⟩
 item:=fun i s Q E hi st hQ=>qi st.1 st.2 hd (x:=vs[i]) (by simp [hi]) fun h' hit hs=>hQ _ h' s.toks (by simp [hi]) ⟨hit,hs.extBut ax o gi st.2⟩ fun b o hb e=>hs.extBut b o (fun q=>hb (by simp [q])) e
 done:=fun s Q E st hQ=>sw hh st.1 st.2 hd fun h' he=>hQ h' s.toks fun b o hb e=>he b o (fun q=>hb (by simp [q])) e
 self:=fun χ χ χ χ st hQ=>wpAny_pyIter_tupleiter st.1 hQ
theorem xK {a:Addr}{o:Obj}{Q:Value→Shared→Prop}(X:(hd.heap_1 w.params).In s.heap)(ho:s.heap.get? a=some o)(hc:o.cls=.ref 135)
  (h:Q (.ref s.heap.objs.size) { s with heap:=s.heap.push { cls:=.type "tuple_iterator",data:=.fields #[.ref a,.int 0 0] } }):wpAny (model prog w) A (pyIter (.ref a)) Q E s:=by
 obtain ⟨c,dd,dt,sl⟩:=o;simp only at hc;subst hc;have t1:Looks (model prog w) s.heap (typeOf (.ref a)) (.ref 135):=(Looks.ld ho).andThen .now;have i1:=looks_findIn (M:=model prog w) X (CF w.params);have i3:Looks (model prog w) s.heap (isInstance (.ref a) (.type "tuple")) true:=t1.andThen (looks_subIn X (lI w.params));have sp:Looks (model prog w) s.heap (specialOf (.ref a) "__iter__") (some (.builtin "tuple.__iter__")):=t1.andThen i1;unfold pyIter callSpecialIfBoundUnlessNone? bindSpecialIfBound?;refine Yo (sp.here ?_);dsimp only;refine Yo (YV (Yo ?_));refine Yo (sp.here ?_);dsimp only;refine rv (B2 _) ?_;refine Yo (wpAny_askSetting ?_);have fin:∀ A',wpAny (model prog w) A' (call (.builtin "tuple.__iter__") [.ref a]) (fun v s'=>v=.ref s.heap.objs.size∧s'={ s with heap:=s.heap.push { cls:=.type "tuple_iterator",data:=.fields #[.ref a,.int 0 0] } }) (fun χ χ=>False) s:=fun A'=>by
  refine wpAny_call (codeAny_call_builtin yV PySem.F.entry_tuple_iter (@check_slot (model prog w) _ _ _ "tuple.__iter__" "tuple" "__iter__" (.ref a) [] [] _ B1 yU i3 (PySem.F.args_tuple_iter_1 _) ?_));show wpAny _ _ (do ret (← newFields "tuple_iterator" [.ref a,rawInt 0])) _ _ s;exact Yo (wpAny_newObj_type (YA ⟨rfl,rfl⟩))
 refine wpAny_mono (Q:=fun r s'=>r=some (Value.builtin "tuple.__iter__",[Value.ref a])∧s'=s) (E:=fun χ χ=>False) ?_ (fun r s' q=>?_) fun χ χ q=>q.elim
 ·refine wpAny_ite_split (fun χ=>YA ⟨rfl,rfl⟩) (fun χ=>wpAny_tryCatch (YA ⟨rfl,rfl⟩))
 obtain ⟨rfl,rfl⟩:=q;dsimp only;refine rv (Yz (show ¬ (Value.builtin "tuple.__iter__"==Value.none)=true from Bool.false_ne_true)) ?_;refine Yo (wpAny_mono (fin _) (fun r fc q=>?_) fun χ χ q=>q.elim);obtain ⟨rfl,rfl⟩:=q;refine YA ?_;dsimp only;refine Yo (wpAny_specialOf (T:="tuple_iterator") (aF _ (Yw _ rfl) rfl) PySem.F.slot_tuple_iterator_next.lookup ?_);exact YA h
theorem FT {a:Addr}{o:Obj}{vs:Array Value}{m:Nat}{Q:Value→Shared→Prop}(X:(hd.heap_1 w.params).In s.heap)(ho:s.heap.get? a=some o)(hc:o.cls=.ref 135)(hd:o.data=.seq vs m)(hz:(vs.size:Int)<2^63)
  (h:Q (.int vs.size (s.toks+1)) { s with toks:=s.toks+1+1 }):wpAny (model prog w) A (call (.builtin "len") [.ref a]) Q E s:=by
 obtain ⟨c,dd,dt,sl⟩:=o;simp only at hc hd;subst hc hd;have t1:Looks (model prog w) s.heap (typeOf (.ref a)) (.ref 135):=(Looks.ld ho).andThen .now;have i1:=looks_findIn (M:=model prog w) X (Es w.params);have i3:Looks (model prog w) s.heap (isInstance (.ref a) (.type "tuple")) true:=t1.andThen (looks_subIn X (lI w.params));refine Calls.call_function_entry kind_len plain_len entry_len (args_len1 _) ?_;unfold Builtin.«len»;refine Yo (m:=oneArg "len" _) (YA ?_);unfold callSpecial? specialOf;refine Yo (Yo (Yo (t1.here (i1.here ?_))));dsimp only;refine YV ?_;refine rv (B0 _) ?_;refine Yo (YA ?_);refine Yo (wpAny_call (codeAny_call_builtin yT PySem.F.entry_tuple_len (@check_slot (model prog w) _ _ _ "tuple.__len__" "tuple" "__len__" (.ref a) [] [] _ BZ yS i3 (PySem.F.args_tuple_len_1 _) ?_)));obtain ⟨hp,g,d,tk,os⟩:=s;unfold Builtin.«tuple.__len__»
 repeat (any_goals (first | assumption | wp_step))
 refine rv (Yz (by lia -abstractProof)) ?_;exact Yo (wpAny_mkInt (YA (aF _ rfl h)))
theorem CI {a:Addr}{o:Obj}{vs:Array Value}{m:Nat}{Q:Bool→Shared→Prop}(X:(hd.heap_1 w.params).In s.heap)(ho:s.heap.get? a=some o)(hc:o.cls=.ref 135)(hd:o.data=.seq vs m)(hz:vs.size=3)
  (h:Q true { s with toks:=s.toks+1+1 }):wpAny (model prog w) A (Builtin.List.listLengthHint (.ref a)) Q E s:=by
 have t1:Looks (model prog w) s.heap (typeOf (.ref a)) (.ref 135):=by
  obtain ⟨c,dd,dt,sl⟩:=o;simp only at hc;subst hc;exact (Looks.ld ho).andThen .now
 have i1:=looks_findIn (M:=model prog w) X (Es w.params);have i3:Looks (model prog w) s.heap (isInstance (.ref a) (.type "tuple")) true:=t1.andThen (looks_subIn X (lI w.params));have sp:Looks (model prog w) s.heap (specialOf (.ref a) "__len__") (some (.builtin "tuple.__len__")):=t1.andThen i1;unfold Builtin.List.listLengthHint;refine Yo (sp.here ?_);generalize O4:("tuple.__len__":String)=Vo
 wp_delta
 refine rv (show splitId Vo=some ("tuple","__len__") from by subst O4;decide+kernel) ?_;subst O4;refine Yo (i3.here ?_);refine wpAny_ite_split (fun MB=>absurd MB (by decide)) (fun χ=>?_);refine wpAny_ite_split (fun χ=>?_) (fun MB=>absurd (show _=true by decide+kernel) MB);refine Yo (t1.here ?_);dsimp only;refine Yo (FT X ho hc hd (by lia -abstractProof) ?_);refine Yo (m:=asInt? _) (YA (YA ?_));refine rv hz ?_;exact h
theorem xM {R:Result→Shared→Prop}{a:Addr}{o:Obj}{vs:Array Value}{m:Nat}(hh:A.handled=none)(X:(hd.heap_1 w.params).In s.heap)(ho:s.heap.get? a=some o)(hc:o.cls=.ref 135)(hd:o.data=.seq vs m)(hz:vs.size=3)(S:Addr)(res:Value)(c₀:Nat)
  (hS:s.heap.get? S=some { cls:=.type "list",data:=.seq #[] c₀ })
  (hR:∀ h' tk de c',(∀ b o,b≠S→s.heap.get? b=some o→h'.get? b=some o)→h'.get? S=some { cls:=.type "list",dict:=none,data:=.seq de c',slots:=#[] }→ItemsOf (fun i v=>vs[i]? = some v) de vs.size→R (.ok (.ret res)) { s with heap:=h',toks:=tk }):
  wpAny (model prog w) A.in1 (Builtin.List.listExtendWith (.ref S) (.ref a) res)
   (fun fin s'=>match fin with | .done f=>R (.ok f) s' | .again c'=>c'.quiet=true∧codeAny (model prog w) A c' R s') (fun e s'=>R (.error e) s') s:=by
 have t1:Looks (model prog w) s.heap (typeOf (.ref a)) (.ref 135):=by
  obtain ⟨c,dd,dt,sl⟩:=o;simp only at hc;subst hc;exact (Looks.ld ho).andThen .now
 have JA:S≠a:=fun e=>by
  rw [e,ho] at hS;obtain rfl:=Yx hS;cases hc
 have JB:S≠s.heap.objs.size:=YO (Heap.lt_size hS);have We:a≠s.heap.objs.size:=YO (Heap.lt_size ho);have W:=(BO (prog:=prog) (w:=w) (A:=A.in1) hh s.heap.objs.size a We vs m o hd).toS;have key:∀ (h:Heap) (c₁ tk:Nat),h.IsTupleIter s.heap.objs.size a 0→(∀ b o,b≠S→s.heap.get? b=some o→h.get? b=some o)→
   h.get? S=some { cls:=.type "list",data:=.seq #[] c₁ }→codeAny (model prog w) A (.builtin "list.extend.loop" ⟨[.ref S,.ref s.heap.objs.size,res],[]⟩) R { s with heap:=h,toks:=tk }:=by
  intro h c₁ tk hit hk sT;refine codeAny_extend_loopS W (by refine rv Yy ?_;lia -abstractProof) S (fun hm=>?_) res vs.size 0 _ #[] c₁ rfl (Nat.zero_le _) ⟨hit,hk _ _ (Ne.symm JA) ho⟩ sT (ItemsOf.nil _) fun s' de c' hm AJ ie=>?_
  ·rcases YC.mp hm with e | hm
   ·exact JB e
   ·exact JA (Yq.mp hm)
  refine rv (Moved.eq_with hm) ?_;refine hR s'.heap s'.toks de c' (fun b o hb e=>hm.heap b o (fun m_=>?_) (hk b o hb e)) AJ ie;rcases YC.mp m_ with e' | m_
  ·exact hb e'
  ·exact absurd (Heap.lt_size e) (rv (Yq.mp m_) (Nat.lt_irrefl _))
 unfold Builtin.List.listExtendWith;refine Yo (t1.here ?_);have h1:Builtin.List.listSameRef (.ref S) (.ref a)=false:=by simp [Builtin.List.listSameRef,JA]
 have h2:(Value.ref 135==Value.type "list")=false:=by decide
 have h3:(Value.ref 135==Value.type "tuple")=false:=by decide
 refine wpAny_ite_false (by refine rv h1 (rv h2 (rv h3 ?_));rfl) ?_;refine Yo (xK X ho hc ?_);refine Yo (YV (CI (X.keeps fun b o e=>YB _ e) (YB _ ho) hc hd hz ?_));have AA:(s.heap.push { cls:=.type "tuple_iterator",data:=.fields #[.ref a,.int 0 0] }).IsTupleIter s.heap.objs.size a 0:=(eQ _ (Yw _ rfl) rfl rfl);have sT:=YB { cls:=.type "tuple_iterator",data:=.fields #[.ref a,.int 0 0] } hS;refine wpAny_ite_split (fun χ=>?_) (fun χ=>YA ⟨plainId_quiet PySem.F.plain_extend_loop _,key _ c₀ _ AA (fun b o χ e=>YB _ e) sT⟩);refine Yo (wpAny_rule ?_);refine Yo ?_;show wpAny _ _ (updateSeq S (·.push .none) >>= fun χ=>updateSeq S (fun x=>x.pop)) _ _ _;refine Yo (wpAny_updateSeq sT rfl ?_);have pq:=YZ (Obj.mapSeq (·.push Value.none)) sT rfl;refine wpAny_updateSeq (hz:=by simp [Yy]) pq rfl ?_;have Jz:=YZ (Obj.mapSeq (fun x=>x.pop)) pq rfl;refine YA ⟨plainId_quiet PySem.F.plain_extend_loop _,key _ _ _ ?_ (fun b o hb e=>?_) Jz⟩
 ·exact AA.at fun o e=>(Y4 _ _ JB).trans ((Y4 _ _ JB).trans e)
 ·exact (Y4 _ _ (Ne.symm hb)).trans ((Y4 _ _ (Ne.symm hb)).trans (YB _ e))
theorem CH {S:Addr}{R:Result→Shared→Prop}{a:Addr}{o:Obj}{vs:Array Value}{m:Nat}(hh:A.handled=none)(hX:(Internal.hd.heap_1 w.params).In s.heap)(hS:s.heap.get? S=some { cls:=.type "list",data:=.seq #[] })(MD:(Internal.hd.heap_1 w.params).lookup S=none)
  (ho:s.heap.get? a=some o) (hc:o.cls=.ref 135) (hd:o.data=.seq vs m) (hz:vs.size=3)
  (hR:∀ h' tk de c',(∀ b o,b≠S→s.heap.get? b=some o→h'.get? b=some o)→h'.get? S=some { cls:=.type "list",dict:=none,data:=.seq de c',slots:=#[] }→ItemsOf (fun i v=>vs[i]? = some v) de vs.size→R (.ok (.ret .none)) { s with heap:=h',toks:=tk }):
  wpAny (model prog w) A.in1 (Builtin.«list.__init__» ⟨[.ref S,.ref a],[]⟩)
   (fun fin s'=>match fin with | .done f=>R (.ok f) s' | .again c'=>c'.quiet=true∧codeAny (model prog w) A c' R s') (fun e s'=>R (.error e) s') s:=by
 have JA:S≠a:=fun e=>by rw [e,ho] at hS;obtain rfl:=Yx hS;cases hc
 show wpAny _ _ (do let old ← Builtin.List.listItems (.ref S);Builtin.List.listUpdate (.ref S) (fun χ=>#[]);letGo old.toList.reverse;Builtin.List.listExtendWith (.ref S) (.ref a) .none) _ _ s;refine Yo ?_;unfold Builtin.List.listItems;refine Yo (wpAny_seqItems hS rfl (YA ?_));show wpAny _ _ (updateSeq S (fun χ=>#[]) >>= fun χ=>letGo (#[]:Array Value).toList.reverse >>= fun χ=>Builtin.List.listExtendWith (.ref S) (.ref a) .none) _ _ s;refine Yo (wpAny_updateSeq hS rfl ?_);have pq:=YZ (Obj.mapSeq (fun χ=>(#[]:Array Value))) hS rfl;have Ly:∀ b o,b≠S→s.heap.get? b=some o→(s.heap.update S (Obj.mapSeq (fun χ=>(#[]:Array Value)))).get? b=some o:=
  fun b o hb e=>(Y4 _ _ (Ne.symm hb)).trans e
 refine Yo (wpAny_letGo ?_);refine xM hh (fun b o e=>Ly b o (fun q=>by rw [q,MD] at e;exact iZ e) (hX b o e)) (Ly a _ (Ne.symm JA) ho) hc hd hz S .none _ pq fun h' tk de c' hk AJ ie=>?_;exact hR h' tk de c' (fun b o hb e=>hk b o hb (Ly b o hb e)) AJ ie
theorem rf {a:Addr}{o:Obj}{vs:Array Value}{m:Nat}{Q:Value→Shared→Prop}(hh:A.handled=none)(X:(Internal.hd.heap_1 w.params).In s.heap)(ho:s.heap.get? a=some o)(hc:o.cls=.ref 135)(hd:o.data=.seq vs m)(hz:vs.size=3)
  (hQ:∀ h' tk de c',(∀ b o,s.heap.get? b=some o→h'.get? b=some o)→h'.get? s.heap.objs.size=some { cls:=.type "list",dict:=none,data:=.seq de c',slots:=#[] }→ItemsOf (fun i v=>vs[i]? = some v) de vs.size→Q (.ref s.heap.objs.size) { s with heap:=h',toks:=tk }):
  wpAny (model prog w) A (call (.type "list") [.ref a]) Q E s:=by
 refine callType_codes (Q₁:=fun obj s₁=>obj=.ref s.heap.objs.size∧s₁={ s with heap:=s.heap.push { cls:=.type "list",data:=.seq #[] } }) PySem.F.called_list (PySem.F.typeCall_list_1 _) PySem.F.entry_list_init
  (code_list_new _ ⟨rfl,rfl⟩) fun obj s₁ aP=>?_
 obtain ⟨rfl,rfl⟩:=aP;have hS:(s.heap.push { cls:=.type "list",data:=.seq #[] }).get? s.heap.objs.size=some { cls:=.type "list",data:=.seq #[] }:=Yw _ rfl;have MD:(Internal.hd.heap_1 w.params).lookup s.heap.objs.size=none:=by
  cases q:(Internal.hd.heap_1 w.params).lookup s.heap.objs.size with
  | none=>rfl
  | some o=>exact absurd (Heap.lt_size (X _ _ q)) (Nat.lt_irrefl _)
 refine ⟨(aF _ hS rfl),PySem.F.args_list_init_2 _ _,CH (A:=A.in1) hh (X.keeps fun b o e=>YB _ e) hS MD (YB _ ho) hc hd hz fun h' tk de c' hk AJ ie=>?_⟩;exact ⟨rfl,hQ h' tk de c' (fun b o e=>hk b o (YO (Heap.lt_size e)) (YB _ e)) AJ ie⟩
end
theorem yz (HK:Ω.K=hd.heap_1 Ω.w.params){f:Str}{p pos:Pos}{arg:PySem.Expr}{k:D→Sg→Prop}(hg:lk f N=some .globalImplicit)(e:(Ω.C.mg f).or (Ω.C.mb f)=some (.type "list"))(hc:l.calm=true)(hn:Xc [arg]=true)(hd:sEq f "__debug__"=false)
  (h:EF Ω l N ρ σ arg fun d σ'=>∃ xs,d=.inst 135 xs∧xs.length=3∧k (.list xs) σ'):EF Ω l N ρ σ (.Call (.Name f p) [arg] [] pos) k:=fun A B μ env s R F Q E kk=>
 Call_Name rfl ((aT (k:=fun d=>d=.val (.type "list")) hg e (.val _ rfl) rfl hd A B μ env s R.toRm F.toFx).go fun v s₁ ai d hq r=>by
  obtain rfl:=hq;refine W_.cR r ?_;have hp:=aK (env:=env) pos hn;have av:=F.grown ai;refine PyProof.Rows.callWith_type hp (bw hp ((aw (k:=fun ds σ'=>∃ xs,ds=[.inst 135 xs]∧xs.length=3∧k (.list xs) σ') hn (h.mono fun d σ' hd=>aB (by revert hd;refine az fun xs e_1 r=>?_;subst e_1;exact (aF xs rfl r))) A B μ env s₁ pos R av).go fun vs bh aM ag x ds hq rs=>?_));revert hq;refine db fun xs e_2 hl hk=>?_;subst e_2;refine az (fun v e_3 r=>?_) rs.one;subst e_3;have aI:=av.c5 x;cases r with
  | inst _ _ a us n dd p o rr=>
  have X:=Ω.m6 _ aI.stays;rw [HK] at X;refine d9 (rf (prog:=Ω.prog) (w:=Ω.w) (R.calm hc) X o rfl rfl (rv YT (rv rr.length (rv hl rfl))) fun h' tk de c' kr ic hi lt=>?_);have ha:de=us.toArray:=by
   obtain ⟨h1,h2⟩:=hi;apply Array.ext h1;intro i hi iP;have:=h2 i de[i] (by simp [hi]);have this:us.toArray[i]? = some de[i]:=this;rw [Array.getElem?_eq_getElem iP] at this;exact (Yx this).symm
  subst ha;have g:aH ag { ag with heap:=h',toks:=tk }:=(lA h' tk rfl kr lt);exact kk _ _ _ _ ((bd.aG F.hp ai).bt (x.bt (.aG aI.hp g))) ⟨_,hk,.list xs _ us c' aI.lets.size ic (rr.ext kr)⟩)
theorem mI (HK:Ω.K=hd.heap_1 Ω.w.params){pl:Sem Bool}{E:Value→Shared→Prop}{Q:Value×List Value→Shared→Prop}(X:Ω.K.In s.heap)(h:Q (.builtin "tuple.__new__",[]) { s with toks:=s.toks+1 }):wpAny Ω.M A (getMethod (.type "tuple") "__new__" pl) Q E s:=by
 have I8:opaqueClassAbove (.type "tuple")=pure none:=by unfold opaqueClassAbove;dsimp only;refine rv (show Manifest.isStub "tuple"=false by decide+kernel) ?_;rfl
 have ht:typeOf (.type "tuple")=pure (.type "type"):=by first | rfl | kernel_rfl
 have L0:Looks Ω.M s.heap (typeOf (.type "tuple")) (.type "type"):=Looks.of_pure ht;have hg:findIn Ω.K (.type "type") "__getattribute__"=some (some (.builtin "type.__getattribute__")):=type_tga;unfold getMethod specialOf;refine Yo (Yo (L0.here ((looks_findIn X hg).here ?_)));dsimp only;refine rv (YH canon_tga) ?_;refine Yo (wpAny_mono (Q:=fun v=>Q (v,[])) (E:=E) ?_ (fun χ χ z=>YA z) fun χ χ z=>z);refine cls_open X (Looks.of_pure I8) L0 hg (looks_hook X (r:=none) (by rfl)) (by show subIn Ω.K _ _=_;rfl) (r:=.val (.builtin "tuple.__new__")) (rv HK (Fa _)) ?_;exact YA (by show wpAny _ _ (handedOut _) _ _ _;exact handed_on rfl h)
theorem yv (HK:Ω.K=hd.heap_1 Ω.w.params){f:Str}{p apos pos:Pos}{args:List PySem.Expr}{k:D→Prop}(hg:lk f N=some .globalImplicit)(e:(Ω.C.mg f).or (Ω.C.mb f)=some (.type "tuple"))
  (he:∀ env,∃ pl,eval (.Call (.Attribute (.Name f p) "__new__" apos) args [] pos) env=(do
   let ov ← eval (.Name f p) env
   standAt apos.atName
   let (f,first) ← holding [ov] (getMethod ov "__new__" pl)
   callWith pos f first (backTo pos (starEach args env)) (backToKw pos (keywordEach [] env)))) (hn:Xc args=true) (hd:sEq f "__debug__"=false)
  (h:rP Ω l N ρ σ args fun ds=>∃ xs,ds=[.val (.ref 135),.tup xs]∧xs.length≤sizeLine∧k (.inst 135 xs)):EV Ω l N ρ σ (.Call (.Attribute (.Name f p) "__new__" apos) args [] pos) k:=fun A B μ env s R F Q E kk=>by
 obtain ⟨pl,he⟩:=he env;refine methodCall_KW (pl:=pl) ((aT (k:=fun d=>d=.val (.type "tuple")) hg e (.val _ rfl) rfl hd A B μ env s R F).go fun v s₁ ai d hq r=>?_) he;obtain rfl:=hq;refine W_.cR r ?_;have av:=F.grown ai;refine mI HK (Ω.m6 _ av.stays) ?_;have hp:=aK (env:=env) pos hn;have ar:aH s { s₁ with toks:=s₁.toks+1 }:=ai.trans (.tok ..);refine Calls.callWith_builtin hp (bw hp ((h A B μ env _ pos R (F.grown ar)).go fun vs aE aU ds hq rs=>?_));revert hq;refine db fun xs e_4 hz hk=>?_;subst e_4;have dX:=F.grown (ar.trans aU);cases rs with | cons _ v1 _ vs r1 rs=>
 refine az (fun v2 e_5 r2=>?_) rs.one;subst e_5;refine W_.cR r1 ?_;refine fD (fun t us n e_6 pt o rr=>?_) (oM r2);subst e_6;have X:=Ω.m6 _ dX.stays;rw [HK] at X;refine tz (prog:=Ω.prog) (w:=Ω.w) X o (rv YT (rv rr.length hz)) fun h' dx a hx ic ha=>?_;refine kk _ _ ((ar.trans aU).trans (.heap hx)) ⟨_,hk,.inst 135 xs a us 0 (some dx) (fun m=>?_) ha (rr.ext hx)⟩;obtain ⟨o,e⟩:=dX.hp.held a m;exact cc ic e
noncomputable def xE (K:Frag)(C:Addr)(name:Str):Bool:=
 (clsIn K C).any (fun x=>x.hasDict)&&findIn K (.ref C) name==some none&&findIn K (.ref C) "__getattribute__"==some (some (.builtin "object.__getattribute__"))&&
 findIn K (.ref C) "__setattr__"==some (some (.builtin "object.__setattr__"))&&plainOver K C&&takerIn K C name==some none
theorem o5 {K:Frag}{C:Addr}{name:Str}(h:xE K C name=true):jM K C name:=by
 simp only [xE,YR,YK] at h;obtain ⟨⟨⟨⟨⟨h1,h2⟩,h3⟩,h4⟩,h5⟩,h6⟩:=h;exact ⟨any_some h1,h2,h3⟩
theorem mu {K:Frag}{C:Addr}{name:Str}(h:xE K C name=true):eH K C name:=by
 simp only [xE,YR,YK] at h;obtain ⟨⟨⟨⟨⟨h1,h2⟩,h3⟩,h4⟩,h5⟩,h6⟩:=h;exact ⟨h4,h5,h6,h1⟩
noncomputable def sy (K:Frag)(C:Addr)(name:Str)(f:Addr):Bool:=
 findIn K (.ref C) "__getattribute__"==some (some (.builtin "object.__getattribute__"))&&findIn K (.ref C) "__getattr__"==some none&&findIn K (.ref C) name==some (some (.ref f))&&typeIn K (.ref f)==some (.type "function")
theorem mJ {K:Frag}{C:Addr}{name:Str}{f:Addr}(h:sy K C name f=true):Xu K C name f:=by
 simp only [sy,YR,YK] at h;obtain ⟨⟨⟨h1,h2⟩,h3⟩,h4⟩:=h;exact ⟨h1,h2,h3,h4⟩
theorem Fh (P:Params):(["isjunk","a","b","autojunk","matching_blocks","opcodes","fullbcount","b2j","bjunk","bpopular"]:List String).all (fun x=>xE (hd.heap_1 P) 242 (Str.ofString x))=true:=by rfl
theorem B9 (P:Params):([("set_seqs",167),("set_seq1",174),("set_seq2",181),("_SequenceMatcher__chain_b",188),("find_longest_match",196)]:List (String×Addr)).all (fun x=>sy (hd.heap_1 P) 242 (Str.ofString x.1) x.2)=true:=by rfl
theorem y4 (P:Params):makesIn (hd.heap_1 P) 242=true:=by rfl
theorem Ca (P:Params):findIn (hd.heap_1 P) (.ref 242) "__init__"=some (some (.ref 160)):=by rfl
theorem y5 (P:Params):typeIn (hd.heap_1 P) (.ref 160)=some (.type "function"):=by rfl
theorem B_ (P:Params):keepIn (hd.heap_1 P) (.ref 242)=true:=by rfl
theorem CD (P:Params):keepIn (hd.heap_1 P) (.ref 135)=true:=by rfl
theorem vU (HK:Ω.K=hd.heap_1 Ω.w.params)(x:String)(h:x∈(["isjunk","a","b","autojunk","matching_blocks","opcodes","fullbcount","b2j","bjunk","bpopular"]:List String)):jM Ω.K 242 (Str.ofString x)∧eH Ω.K 242 (Str.ofString x):=by
 refine rv HK ?_;have:=List.all_eq_true.mp (Fh Ω.w.params) x h;exact ⟨o5 this,mu this⟩
theorem xn (HK:Ω.K=hd.heap_1 Ω.w.params)(x:String)(f:Addr)(h:(x,f)∈([("set_seqs",167),("set_seq1",174),("set_seq2",181),("_SequenceMatcher__chain_b",188),("find_longest_match",196)]:List (String×Addr))):Xu Ω.K 242 (Str.ofString x) f:=by
 refine rv HK ?_;exact mJ (List.all_eq_true.mp (B9 Ω.w.params) (x,f) h)
theorem Ha {x y:PySem.Expr}{pos:Pos}{k:Bool→Prop}(hm:behindInMarks .Is y=false)(h:EV Ω l N ρ σ x fun a=>EV Ω l N ρ σ y fun b=>∃ u v t t',a=.ca u t∧b=.ca v t'∧t≠0∧t'≠0∧t≠t'∧u≠v∧k false):TV Ω l N ρ σ (.Compare x [.Is] [y] pos) k:=fun A B μ env s R F Q E kk=>
 wpAny_isTrue_Compare1 ((h A B μ env s R F).go fun a s₁ ai cD aP b6=>by
  refine (aP A B μ env s₁ R (F.grown ai)).go fun b ag ar cD hq cU=>?_;revert hq;refine WB fun u v t t' e_1 e_2 h0 h1 h2 h3 hk=>?_;subst e_1;subst e_2;refine W_.A0 b6 ?_;refine W_.A0 cU ?_;show wpAny _ _ (isSame (.str u t) (.str v t') >>= fun b=>pure (Value.bool b)) _ _ _;refine Yo (wpAny_of_eq (isSame_str_other u v t t' (by simp [h0,h1]) (by simp [h2]) (by simpa using h3)) (YA ?_));exact wpAny_truthy_bool (kk _ _ (ai.trans ar) hk)) hm
theorem iy (HK:Ω.K=hd.heap_1 Ω.w.params)(x:String){i m:Nat}{fs:List (Str×D)}{e:D}{p pos:Pos}{k:D→Prop}(hx:x∈(["isjunk","a","b","autojunk","matching_blocks","opcodes","fullbcount","b2j","bjunk","bpopular"]:List String))(hs:lk "self" ρ=some (.loc i))(hi:σ.o i=.inst 242 m [])(hm:σ.o m=.attrs fs)(he:lk (Str.ofString x) fs=some e)(h:k e):
  EV Ω l N ρ σ (.Attribute (.Name "self" p) (Str.ofString x) pos) k:=
 xb rfl (aa hs ⟨_,rfl,_,_,_,_,_,hi,hm,(vU HK x hx).1,he,h⟩ rfl)
theorem e_ (HK:Ω.K=hd.heap_1 Ω.w.params)(x:String){i m:Nat}{fs:List (Str×D)}{d:D}{p pos:Pos}{k:aO→Sg→Prop}(hx:x∈(["isjunk","a","b","autojunk","matching_blocks","opcodes","fullbcount","b2j","bjunk","bpopular"]:List String))(hs:lk "self" ρ=some (.loc i))(hi:σ.o i=.inst 242 m [])(hm:σ.o m=.attrs fs)(hz:fs.length<1000)(ho:XH d=true)(h:k ρ (σ.put m (.attrs (bE (Str.ofString x) d fs)))):
  AS Ω l N ρ σ (.Attribute (.Name "self" p) (Str.ofString x) pos) d k:=
 xg ho (aa hs ⟨_,rfl,_,_,_,_,hi,hm,(vU HK x hx).2,hz,h⟩ rfl)
theorem a7 {σ:Sg}{i m C q:Nat}{sl:List (Option D)}{fs:List (Str×D)}{x:cB}(hi:σ.o i=.inst C q sl)(hm:σ.o m=.attrs fs):(σ.put m x).o i=.inst C q sl:=by
 exact Sg.pn (fun e=>by rw [e,hm] at hi;exact DL hi rfl) hi
theorem aR {σ:Sg}{m:Nat}{x:cB}:(σ.put m x).o m=x:=rv (Sg.aN _ _ _ _) (rv (YH rfl) rfl)
theorem cZ {σ:Sg}{m:Nat}{x y:cB}:(σ.put m x).put m y=σ.put m y:=by
 unfold Sg.put;congr 1;funext j;dsimp only;split<;>rfl
section
variable (HK:Ω.K=hd.heap_1 Ω.w.params)
include HK
theorem uu (n:Nat)(a b c:Int)(σ:Sg)(k:D→Sg→Prop)(h:k (.inst 135 [.int a,.int b,.int c]) σ):CE Ω ⟨n+1,true⟩ 82 [.val (.ref 135),.int a,.int b,.int c] [] σ k:=by
 refine b8 (sm HK) (Xe.of_eq (xs:=["_cls","a","b","size"]) rfl fun vs hv=>by refine KJ (fun a0 a1 a2 a3 e_1=>?_) (CT hv);subst e_1;rfl) (by rfl) ?_;dsimp only [gv,gM,List.zip,List.zipWith];refine ac (aL rfl (.pure ?_));refine b_ (ac (bg ?_));refine .pure (yv HK rfl (sV HK) (fun χ=>⟨_,rfl⟩) rfl rfl ?_);refine ae rfl (aa rfl (ae rfl (rH (ae rfl (aa rfl (ae rfl (aa rfl (ae rfl (aa rfl (ak (And.symm ⟨(ak ?_),?_⟩)) rfl)) rfl)) rfl)))) rfl)
 ·exact eQ ([.int a,.int b,.int c]) rfl (sz rfl) h
 ·simp only [List.length_map,List.length_append,List.length_cons,List.length_nil,aJ,aA,Yy];lia -abstractProof
noncomputable def BB (σ:Sg)(m:Nat)(fs:List (Str×D))(x:Str)(t:Tok):Sg:=σ.put m (.attrs (bE "opcodes" .none (bE "matching_blocks" .none (bE "a" (.ca x t) fs))))
theorem oU (n:Nat)(σ:Sg)(i m:Nat)(fs:List (Str×D))(x:Str)(t:Tok)(k:D→Sg→Prop)(hi:σ.o i=.inst 242 m [])(hm:σ.o m=.attrs fs)(hz:fs.length<900)
  (ha:lk "a" fs=some .none∨∃ y u,lk "a" fs=some (.ca y u)∧t≠0∧u≠0∧t≠u∧x≠y) (h:k .none (BB σ m fs x t)):CE Ω ⟨n+1,true⟩ 174 [.loc i,.ca x t] [] σ k:=by
 refine b8 (iE HK) (Xe.of_eq (xs:=["self","a"]) rfl fun vs hv=>by refine jE (fun a0 a1 e_2=>?_) (ka hv);subst e_2;rfl) (by rfl) ?_;dsimp only [iK,iT,List.zip,List.zipWith];refine ac (aL rfl (.pure (b_ ?_)));refine ac (bc (.pure (TV.mono (k:=fun b=>b=false) ?_ fun b hb=>?_)))
 ·rcases ha with ha | ⟨y,u,ha,h0,h1,h2,h3⟩
  ·refine aC rfl (aa rfl ?_ rfl);exact iy HK "a" (by simp) rfl hi hm ha rfl
  ·refine Ha rfl (aa rfl ?_ rfl);exact iy HK "a" (by simp) rfl hi hm ha (Vg _ _ _ _ rfl rfl h0 h1 h2 h3 rfl)
 subst hb;refine ⟨(fun h=>nomatch h),fun χ=>ao ?_⟩;refine ac (cG (fun χ=>rfl) (fun χ=>rfl) (fun χ=>rfl) (.pure (aa rfl ?_ rfl)));refine e_ HK "a" (by simp) rfl hi hm (PY hz) rfl ?_;refine ac (gT (fun χ=>rfl) (fun χ=>rfl) (.pure (bL ?_)));refine e_ HK "matching_blocks" (by simp) rfl (a7 hi hm) aR (by have:=dO "a" (.ca x t) fs;exact Sh hz this) rfl ?_;refine e_ HK "opcodes" (by simp) rfl (a7 (a7 hi hm) aR) aR (by have:=dO "a" (.ca x t) fs;have:=dO "matching_blocks" .none (bE "a" (.ca x t) fs);lia -abstractProof) rfl ?_;refine ao ?_;refine rv cZ (rv cZ ?_);exact h
end
theorem wu (x y:Str)(d:D):∀ fs:List (Str×D),lk x (bE y d fs)=if sEq x y then some d else lk x fs:=by
 intro fs
 induction fs with
 | nil=>
  show lk x [(y,d)]=_;unfold lk;split<;>rfl
 | cons pr r ih=>
  obtain ⟨k,e⟩:=pr;unfold bE
  by_cases q:sEq y k=true
  ·refine rv (YH q) ?_;have:=pR q;subst this;unfold lk;split<;>rfl
  ·refine rv (Yz q) ?_;unfold lk;refine rv (ih) ?_
   by_cases w:sEq x k=true
   ·refine rv (YH w) (rv (YH w) ?_);have:=pR w;subst this;rw [Yz];intro w';have:=pR w';subst this;exact q w
   ·exact rv (Yz w) (rv (Yz w) rfl)
theorem kD (x:Str)(d e:D):∀ fs:List (Str×D),lk x fs=some e→(bE x d fs).length=fs.length:=by
 intro fs
 induction fs with
 | nil=>
  intro h;exact nomatch h
 | cons pr r ih=>
  obtain ⟨k,v⟩:=pr;intro h;unfold bE;unfold lk at h
  by_cases q:sEq x k=true
  ·refine rv (YH q) ?_;rfl
  ·rw [Yz q] at h ⊢;simp [ih h]
theorem xP {x y:Str}{d:D}{fs:List (Str×D)}(h:sEq x y=false):lk x (bE y d fs)=lk x fs:=by refine rv (wu _ _ _ _) (rv h ?_);rfl
theorem gb {x y:Str}{d:D}{fs:List (Str×D)}{r:Option D}(h:sEq x y=false)(e:lk x fs=r):lk x (bE y d fs)=r:=(xP h).trans e
theorem fu {x:Str}{d:D}{fs:List (Str×D)}:lk x (bE x d fs)=some d:=rv (wu _ _ _ _) (rv (YH (by rw [eO];exact beq_self_eq_true _)) rfl)
theorem hH {K:Type}[DecidableEq K]{es:List (K×D)}{x y:K}{d:D}(h:cP es x=none):cP (c6 es x d) y=if x=y then some d else cP es y:=by
 have hn:es.any (fun kv=>decide (kv.1=x))=false:=by
  rw [cP,Option.map_eq_none_iff,List.find?_eq_none] at h;refine rv (propext (List.any_eq_false)) ?_;intro kv hk;simpa using h kv hk
 unfold c6;refine rv hn ?_;simp only [Bool.false_eq_true,if_false];unfold cP;refine rv (List.find?_append) ?_
 by_cases q:x=y
 ·subst q;rw [cP,Option.map_eq_none_iff] at h;refine rv h (rv (YH rfl) ?_);simp
 ·refine rv (Yz q) ?_;cases es.find? _ with
  | some v=>rfl
  | none=>simp [q]
theorem tm {K:Type}[DecidableEq K](es:List (K×D))(x:K)(d:D):(c6 es x d).length≤es.length+1:=by
 unfold c6;split<;>simp
noncomputable def cV (c:Nat)(l:List (Nat×Nat)):List Int:=(l.filter fun p=>p.1=c).map fun p=>(p.2:Int)
theorem jS (c:Nat)(l:List (Nat×Nat))(x:Nat×Nat):cV c (l++[x])=if x.1=c then cV c l++[(x.2:Int)] else cV c l:=by
 unfold cV;refine rv (List.filter_append _ _) ?_
 by_cases q:x.1=c<;>simp [q]
noncomputable def dT (c:Nat):Str:=⟨#[c]⟩
theorem jg {c d:Nat}(h:dT c=dT d):c=d:=by
 unfold dT at h;simpa using h
noncomputable def Ym (p:Nat×Nat):D:=.tup [.int (p.2:Int),.str (dT p.1)]
theorem xp (t:List Nat):Xp (sl t)=t.zipIdx.map Ym:=by
 unfold Xp;refine rv List.mapIdx_eq_zipIdx_map ?_;rfl
inductive HP (σ:Sg)(jb:Nat)(es:List (Str×D))(c:Nat)(xs:List Int):Prop where
 | no (e1:xs=[])(e2:cP es (dT c)=none)
 | hit (e1:xs≠[])(l:Nat)(e2:cP es (dT c)=some (.loc l))(e3:jb<l∧l<σ.n)(e4:σ.o l=.list (xs.map .int))
theorem HP.el {σ:Sg}{jb:Nat}{es:List (Str×D)}{c:Nat}{xs:List Int}{G:Prop}(p:HP σ jb es c xs)(a:xs=[]→cP es (dT c)=none→G)(b:xs≠[]→∀ l,cP es (dT c)=some (.loc l)→(jb<l∧l<σ.n)→σ.o l=.list (xs.map .int)→G):G:=by
 cases p with
 | no e1 e2=>exact a e1 e2
 | hit e1 l e2 e3 e4=>exact b e1 l e2 e3 e4
noncomputable def Hg (es:List (Str×D)):Prop:=∀ c d l,cP es (dT c)=some (.loc l)→cP es (dT d)=some (.loc l)→c=d
inductive tQ (σ:Sg)(jb:Nat)(pre:List (Nat×Nat)):Prop where
 | mk (es:List (Str×D))(p1:σ.o jb=.bB es)(p2:es.length≤pre.length)(p3:∀ c,HP σ jb es c (cV c pre))(p4:Hg es)
inductive JQ (σ:Sg)(m:Nat)(t:List Nat)(a:D):Prop where
 | mk (fs:List (Str×D))(jb js:Nat)(hm:σ.o m=.attrs fs)(hz:fs.length≤30)(ha:lk "a" fs=some a)(hb:lk "b" fs=some (.str (sl t)))(EH:lk "b2j" fs=some (.loc jb))(HG:lk "bjunk" fs=some (.loc js))(e1:D)(GE:lk "matching_blocks" fs=some e1)(e2:D)(Dc:lk "opcodes" fs=some e2)
  (n1:lk "set_seq1" fs=none) (n2:lk "find_longest_match" fs=none) (GJ:jb<σ.n) (GH:js<σ.n) (m9:σ.o js=.set []) (hp:tQ σ jb t.zipIdx)
structure jL (σ:Sg)(i m:Nat)(t:List Nat)(a:D):Prop where
 inst:σ.o i=.inst 242 m []
 il:i<σ.n
 ml:m<σ.n
 rest:JQ σ m t a
noncomputable def oL (n:Nat)(σ σ':Sg):Prop:=∀ j,j<n→σ'.o j=σ.o j
theorem tQ.old {σ:Sg}{jb:Nat}{pre:List (Nat×Nat)}{c x l:Nat}{es:List (Str×D)}(hj:jb<σ.n)(x3:σ.o jb=.bB es)(hlen:es.length≤pre.length)
  (h1:∀ c,HP σ jb es c (cV c pre))
  (h2:Hg es) (hl:cP es (dT c)=some (.loc l)) (Ml:jb<l∧l<σ.n) (ho:σ.o l=.list ((cV c pre).map .int)):
  tQ ((σ.add (.list [])).put l (.list ((cV c pre).map .int++[.int (x:Int)]))) jb (pre++[(c,x)]):=by
 have nl:l≠σ.n:=YO Ml.2;have nj:jb≠σ.n:=YO hj;have jl:jb≠l:=fun e=>by rw [e,ho] at x3;exact DL x3 rfl
 refine ⟨es,by simp [jl,nj,x3],by simp;exact RA hlen,fun d=>?_,h2⟩;refine rv (jS _ _ _) ?_
 by_cases q:c=d
 ·subst q;simp only [if_true];exact .hit (by simp) l hl ⟨Ml.1,by simp;exact Eg Ml.2⟩ (by simp)
 ·refine rv (Yz q) ?_;rcases h1 d with ⟨e1,e2⟩ | ⟨e1,l',e2,e3,e4⟩
  ·exact .no e1 e2
  ·refine .hit e1 l' e2 (by simp;exact Tw e3.1 e3.2) ?_;have n1:l'≠l:=fun e=>q (h2 c d l hl (e▸e2));have n2:l'≠σ.n:=YO e3.2;simp [n1,n2,e4]
theorem tQ.new {σ:Sg}{jb:Nat}{pre:List (Nat×Nat)}{c x:Nat}{es:List (Str×D)}(hj:jb<σ.n)(x3:σ.o jb=.bB es)(hlen:es.length≤pre.length)
  (h1:∀ c,HP σ jb es c (cV c pre))
  (h2:Hg es) (hl:cP es (dT c)=none):
  tQ (((σ.add (.list [])).put jb (.bB (c6 es (dT c) (.loc σ.n)))).put σ.n (.list ([]++[.int (x:Int)]))) jb (pre++[(c,x)]):=by
 have nj:jb≠σ.n:=YO hj;have old:∀ d l,cP es (dT d)=some (.loc l)→l<σ.n∧l≠jb:=fun d l e=>by
  rcases h1 d with ⟨_,e2⟩ | ⟨_,l',e2,e3,e4⟩
  ·exact cc e2 e
  ·rw [e2] at e;cases e;exact ⟨e3.2,fun q=>by rw [q,x3] at e4;exact DL e4 rfl⟩
 have pc:cV c pre=[]:=by
  rcases h1 c with ⟨e,_⟩ | ⟨_,l',e2,_⟩
  ·exact e
  ·exact cc hl e2
 refine ⟨c6 es (dT c) (.loc σ.n),by simp [nj],by have:=tm es (dT c) (.loc σ.n);simp;exact N5 hlen this,fun d=>?_,fun d e l=>?_⟩
 ·refine rv (jS _ _ _) ?_
  by_cases q:c=d
  ·subst q;simp only [if_true,pc];exact .hit (by simp) σ.n ((hH hl).trans (YH rfl)) ⟨hj,by simp⟩ (by simp)
  ·have q':dT c≠dT d:=fun e=>q (jg e);refine rv (Yz q) ?_;rcases h1 d with ⟨e1,e2⟩ | ⟨e1,l',e2,e3,e4⟩
   ·exact .no e1 ((hH hl).trans ((Yz q').trans e2))
   ·exact .hit e1 l' ((hH hl).trans ((Yz q').trans e2)) ⟨e3.1,Nat.lt_succ_of_lt e3.2⟩ (Sg.pn (YO e3.2) (Sg.pn (old d l' e2).2 (Sg.an (YO e3.2) e4)))
 ·refine rv (hH hl) (rv (hH hl) ?_);intro e1 e2
  by_cases q:dT c=dT d
  ·rw [YH q] at e1;cases e1
   by_cases q':dT c=dT e
   ·exact jg (q.symm.trans q')
   ·rw [Yz q'] at e2;exact absurd (old _ _ e2).1 (Nat.lt_irrefl _)
  ·rw [Yz q] at e1
   by_cases q':dT c=dT e
   ·rw [YH q'] at e2;cases e2;exact absurd (old _ _ e1).1 (Nat.lt_irrefl _)
   ·rw [Yz q'] at e2;exact h2 d e l e1 e2
section
variable (HK:Ω.K=hd.heap_1 Ω.w.params)
include HK
theorem zc (n:Nat)(σ:Sg)(i m:Nat)(fs:List (Str×D))(t:List Nat)(a:D)(k:D→Sg→Prop)(hi:σ.o i=.inst 242 m [])(rN:i<σ.n)(lB:m<σ.n)(hm:σ.o m=.attrs fs)(hz:fs.length≤20)(ht:t.length≤20)
  (ha:lk "a" fs=some a) (hb:lk "b" fs=some (.str (sl t))) (hj:lk "isjunk" fs=some .none) (Wd:lk "autojunk" fs=some (.bool false)) (GE:lk "matching_blocks" fs=some .none) (Dc:lk "opcodes" fs=some .none) (Kx:lk "set_seq1" fs=none∧lk "find_longest_match" fs=none)
  (h:∀ σ',jL σ' i m t a→(∀ j,j<σ.n→j≠m→σ'.o j=σ.o j)→σ.n≤σ'.n→k .none σ'):CE Ω ⟨n+1,true⟩ 188 [.loc i] [] σ k:=by
 refine b8 (o9 HK) (Xe.of_eq (xs:=["self"]) rfl fun vs hv=>by obtain ⟨a0,rfl⟩:=eJ hv;rfl) (by rfl) ?_;dsimp only [j4,kQ,List.zip,List.zipWith];refine ac (ah rfl rfl (.pure (iy HK "b" (by simp) rfl hi hm hb ?_)));refine ac (gT (fun χ=>rfl) (fun χ=>rfl) (n7 ?_));have lm:m≠σ.n:=YO lB;have li:i≠σ.n:=YO rN;have EA:(σ.add (.bB [])).o i=.inst 242 m []:=Sg.an li hi;have Jf:(σ.add (.bB [])).o m=.attrs fs:=Sg.an lm hm;refine e_ HK "b2j" (by simp) rfl EA Jf (Qn hz) rfl (jP rfl ?_);refine ac (cF rfl rfl rfl ?_);refine yt rfl (qI HK) rfl rfl rfl ?_;refine aa rfl ⟨_,rfl,?_⟩ rfl;refine rv (xp _) ?_;refine bG Ym (fun pre ρ σ'=>ρ=([("b2j",.loc σ.n),("b",.str (sl t)),("self",.loc i)]:aO)∧σ.n<σ'.n∧oL σ.n ((σ.add (.bB [])).put m (.attrs (bE "b2j" (.loc σ.n) fs))) σ'∧tQ σ' σ.n pre) t.zipIdx ?_ ?_ t.zipIdx [] _ _ rfl ⟨rfl,by simp,fun χ χ=>rfl,?_⟩
 ·intro pre r_53 post ρ σ' e r_54;obtain ⟨c,x⟩:=r_53;revert r_54;refine rO fun e_2 hn hk z_1=>?_;subst e_2;obtain ⟨es,x3,hlen,h1,h2⟩:=z_1;have hpre:pre.length≤20:=by
   have:=congrArg List.length e;simp at this;exact SL ht this
  refine ⟨trivial,_,rfl,c8 fun K hK=>?_⟩;have nj:σ.n≠σ'.n:=YO hn;refine ac (ah rfl rfl (cN "dict.setdefault" "dict" om (by decide) rfl rfl (by decide) rfl (aa rfl ⟨_,rfl,by refine rv x3 ?_;rfl,?_⟩ rfl)));refine aw rfl (.pure (aa rfl ?_ rfl));refine aw rfl (bU (aB ⟨by simp,aB ?_⟩));refine oj (es:=es) (Sg.an nj x3) (rv Yy (RB hlen hpre)) (fun d hd=>?_) fun hd=>?_
  ·rcases h1 c with ⟨_,e2⟩ | ⟨e1,l,e2,e3,e4⟩
   ·exact cc e2 hd
   ·rw [e2] at hd;obtain rfl:=Yx hd;have nl:l≠σ'.n:=YO e3.2;have hl:(σ'.add (.list [])).o l=.list ((cV c pre).map .int):=Sg.an nl e4;refine ac (aL rfl (cN "list.append" "list" bo (by decide) rfl rfl (by decide) rfl (aa rfl ⟨l,rfl,by refine rv hl ?_;rfl,aw rfl (.pure (aa rfl (aB (bn hl ?_ (ao ?_))) rfl))⟩ rfl)))
    ·have:=Y1 (fun p:Nat×Nat=>decide (p.1=c)) pre;refine rv Yy ?_;simp [cV];exact QZ hpre this
    ·exact hK .next _ _ ⟨_,.cons rfl (.cons rfl (.cons rfl .nil)),rfl,by simp;exact Eg hn,fun j hj=>by
      exact Sg.pn (Kb e3.1 hj) (Sg.an (Kb hn hj) (hk j hj)),tQ.old hn x3 hlen h1 h2 e2 e3 e4⟩
  ·have hl:((σ'.add (.list [])).put σ.n (.bB (c6 es (dT c) (.loc σ'.n)))).o σ'.n=.list []:=by simp [Ne.symm nj]
   refine ac (aL rfl (cN "list.append" "list" bo (by decide) rfl rfl (by decide) rfl (aa rfl ⟨σ'.n,rfl,by refine rv hl ?_;rfl,aw rfl (.pure (aa rfl (aB (bn hl (by simp) (ao ?_))) rfl))⟩ rfl)));exact hK .next _ _ ⟨_,.cons rfl (.cons rfl (.cons rfl .nil)),rfl,by simp;exact Eg hn,fun j hj=>by
    exact Sg.pn (Kb hn hj) (Sg.pn (BM hj) (Sg.an (Kb hn hj) (hk j hj))),tQ.new hn x3 hlen h1 h2 hd⟩
 ·intro ρ σ' r_55;revert r_55;refine rO fun e_3 hn hk hp=>?_;subst e_3;refine ⟨trivial,?_⟩;have Az:(σ'.add (.set [])).o i=.inst 242 m []:=by
   refine rv (Sg.aZ _ _ _) (rv (Yz (Oa rN hn)) (rv (hk i rN) (rv (Sg.aN _ _ _ _) (rv (Yz (fun e=>by rw [e,hm] at hi;exact DL hi rfl)) ?_))));exact EA
  have Ax:(σ'.add (.set [])).o m=.attrs (bE "b2j" (.loc σ.n) fs):=by
   exact rv (Sg.aZ _ _ _) (rv (Yz (Oa lB hn)) (rv (hk m lB) (rv (Sg.aN _ _ _ _) (rv (YH rfl) rfl))))
  have z1:=dO "b2j" (.loc σ.n) fs;refine ac (gT (fun χ=>rfl) (fun χ=>rfl) (rL rfl (uY HK) rfl ?_));refine e_ HK "bjunk" (by simp) rfl Az Ax (Q2 hz z1) rfl (jP rfl ?_);have z2:=dO "bjunk" (.loc σ'.n) (bE "b2j" (.loc σ.n) fs);refine ac (ah rfl rfl (.pure (iy HK "isjunk" (by simp) rfl (a7 Az Ax) aR (gb rfl (gb rfl hj)) ?_)));refine ac (bc (.pure (dz rfl (aa rfl (wy ⟨(fun h=>nomatch h),fun χ=>ao ?_⟩) rfl))));generalize dF:(σ'.add (.set [])).put m (.attrs (bE "bjunk" (.loc σ'.n) (bE "b2j" (.loc σ.n) fs)))=aQ;have i3:aQ.o i=.inst 242 m []:=rv dF.symm (a7 Az Ax);have m3:aQ.o m=.attrs (bE "bjunk" (.loc σ'.n) (bE "b2j" (.loc σ.n) fs)):=rv dF.symm aR;have n3:aQ.n=σ'.n+1:=by refine rv dF.symm ?_;rfl
  have o3:∀ j,j≠m→j<σ'.n→aQ.o j=σ'.o j:=fun j h1 h2=>rv dF.symm (rv (Sg.aN _ _ _ _) (rv (Yz h1) (rv (Sg.aZ _ _ _) (rv (Yz (YO h2)) rfl))));have s3:aQ.o σ'.n=.set []:=rv dF.symm (rv (Sg.aN _ _ _ _) (rv (Yz (Tv lB hn)) (rv (Sg.aZ _ _ _) (rv (YH rfl) rfl))));have i4:(aQ.add (.set [])).o i=.inst 242 m []:=Sg.an (Og rN hn n3) i3;have m4:(aQ.add (.set [])).o m=.attrs (bE "bjunk" (.loc σ'.n) (bE "b2j" (.loc σ.n) fs)):=Sg.an (Og lB hn n3) m3;refine ac (gT (fun χ=>rfl) (fun χ=>rfl) (rL rfl (uY HK) rfl ?_));refine e_ HK "bpopular" (by simp) rfl i4 m4 (SK hz z1 z2) rfl (jP rfl ?_);have z3:=dO "bpopular" (.loc aQ.n) (bE "bjunk" (.loc σ'.n) (bE "b2j" (.loc σ.n) fs));refine ac (ah rfl rfl (.pure (gS rfl (gF HK) rfl rfl rfl ?_)));refine ae rfl (aa rfl (ak (kh (z7 (ac (bc (.pure (bO (bD ?_))))) ?_))) rfl)
  ·refine dz rfl (iy HK "autojunk" (by simp) rfl (a7 i4 m4) aR (gb rfl (gb rfl (gb rfl Wd))) ?_);refine dE ⟨(fun h=>nomatch h),fun χ=>⟨(fun h=>nomatch h),fun χ=>ao (ao ?_)⟩⟩;obtain ⟨es,q1,q2,q3,q4⟩:=hp;have n4:((aQ.add (.set [])).put m (.attrs (bE "bpopular" (.loc aQ.n) (bE "bjunk" (.loc σ'.n) (bE "b2j" (.loc σ.n) fs))))).n=σ'.n+2:=rv (Sg.bF _ _ _) (rv (Sg.add_n _ _) (rv n3 rfl));have o4:∀ j,j≠m→j<σ'.n+1→((aQ.add (.set [])).put m (.attrs (bE "bpopular" (.loc aQ.n) (bE "bjunk" (.loc σ'.n) (bE "b2j" (.loc σ.n) fs))))).o j=aQ.o j:=fun j h1 h2=>rv (Sg.aN _ _ _ _) (rv (Yz h1) (rv (Sg.aZ _ _ _) (rv (Yz (Tq n3 h2)) rfl)));have w:∀ {x d},lk x fs=some d→sEq x "bpopular"=false→sEq x "bjunk"=false→sEq x "b2j"=false→lk x (bE "bpopular" (.loc aQ.n) (bE "bjunk" (.loc σ'.n) (bE "b2j" (.loc σ.n) fs)))=some d:=fun e h1 h2 h3=>gb h1 (gb h2 (gb h3 e));refine h _ ⟨a7 i4 m4,Of rN hn n4,Of lB hn n4,_,σ.n,σ'.n,aR,S2 hz z1 z2 z3,w ha rfl rfl rfl,w hb rfl rfl rfl,gb rfl (gb rfl fu),gb rfl fu,_,w GE rfl rfl rfl,_,w Dc rfl rfl rfl,gb rfl (gb rfl (gb rfl Kx.1)),gb rfl (gb rfl (gb rfl Kx.2)),Ts hn n4,J9 n4,?_,⟨es,?_,q2,fun c=>?_,q4⟩⟩ (fun j h1 h2=>?_) (Tr hn n4)
   ·exact rv (o4 _ (KY lB hn) (K6)) s3
   ·exact rv (o4 _ (HT lB) (Eg hn)) (rv (o3 _ (HT lB) hn) q1)
   ·rcases q3 c with ⟨z,z'⟩ | ⟨e1,l,e2,e3,e4⟩
    ·exact .no z z'
    ·exact .hit e1 l e2 ⟨e3.1,KV n4 e3.2⟩ (((o4 _ (KY lB e3.1) (Eg e3.2)).trans (o3 _ (KY lB e3.1) e3.2)).trans e4)
   ·exact rv (o4 _ h2 (Tt hn h1)) (rv (o3 _ h2 (N' hn h1)) (rv (hk j h1) (rv (Sg.aN _ _ _ _) (rv (Yz h2) (rv (Sg.aZ _ _ _) (rv (Yz (YO h1)) rfl))))))
  ·exact rv (bk _) (K8 ht)
 ·exact ⟨[],Sg.pn (Ne.symm lm) Sg.as,by simp,fun c=>.no rfl rfl,fun c d l e=>nomatch e⟩
omit HK in
noncomputable def MJ:List (Str×D):=[("isjunk",.none),("a",.none),("b",.none),("autojunk",.bool false)]
omit HK in
noncomputable def Pe (x:Str)(u:Tok):List (Str×D):=[("isjunk",.none),("a",.ca x u),("b",.none),("autojunk",.bool false),("matching_blocks",.none),("opcodes",.none)]
omit HK in
theorem Xe.wg {fd:FuncData}{ds:List D}{xs:List Str}{T:Addr}{o:Obj}{items:Array Value}{n:Nat}(hd:fd.defaults=.ref T)(ho:Ω.K.lookup T=some o)(hs:o.data=.seq items n)(hl:ds.length=xs.length)
  (h:∀ vs:List Value,vs.length=xs.length→∃ k,bindArgs fd ⟨vs,[]⟩=(seqItems? fd.defaults >>= k)∧k (some items)=pure (xs.zip vs)):Xe Ω fd ds [] (xs.zip ds):=by
 have:=Xe.pZ (Ω:=Ω) (ex:=[]) (exρ:=[]) hd ho hs hl (fun vs hv=>by refine az (fun k a b=>?_) (h vs hv);exact (aF k a (rv b (rv (List.append_nil _) rfl)))) fun P h=>.nil
 rwa [List.append_nil] at this
omit HK in
theorem kZ (HK:Ω.K=hd.heap_1 Ω.w.params)(x:String){f:Addr}{i m:Nat}{fs:List (Str×D)}{p apos pos:Pos}{args:List PySem.Expr}{k:D→Sg→Prop}(hx:(x,f)∈([("set_seqs",167),("set_seq1",174),("set_seq2",181),("_SequenceMatcher__chain_b",188),("find_longest_match",196)]:List (String×Addr))){nm:Str}(hs:lk nm ρ=some (.loc i))(hi:σ.o i=.inst 242 m [])(hm:σ.o m=.attrs fs)(hl:lk (Str.ofString x) fs=none)(hf:rF Ω f)
  (he:∀ env,∃ pl,eval (.Call (.Attribute (.Name nm p) (Str.ofString x) apos) args [] pos) env=(do
   let ov ← eval (.Name nm p) env
   standAt apos.atName
   let (f,first) ← holding [ov] (getMethod ov (Str.ofString x) pl)
   callWith pos f first (backTo pos (starEach args env)) (backToKw pos (keywordEach [] env)))) (hn:Xc args=true) (hd:(sEq nm "__debug__"||sEq nm "__classdict__")=false)
  (h:yG Ω l N ρ σ args fun ds σ'=>CE Ω l f (.loc i::ds) [] σ' k):EF Ω l N ρ σ (.Call (.Attribute (.Name nm p) (Str.ofString x) apos) args [] pos) k:=
 t4 f he hn hf (aa hs ⟨_,rfl,_,_,_,_,hi,hm,hl,xn HK x f hx,h⟩ hd)
theorem xu (n:Nat)(σ:Sg)(i m:Nat)(t:List Nat)(x:Str)(u:Tok)(k:D→Sg→Prop)(hi:σ.o i=.inst 242 m [])(rN:i<σ.n)(lB:m<σ.n)(hm:σ.o m=.attrs (Pe x u))(ht:t.length≤20)
  (h:∀ σ',jL σ' i m t (.ca x u)→(∀ j,j<σ.n→j≠m→σ'.o j=σ.o j)→σ.n≤σ'.n→k .none σ'):CE Ω ⟨n+2,true⟩ 181 [.loc i,.str (sl t)] [] σ k:=by
 refine b8 (my HK) (Xe.of_eq (xs:=["self","b"]) rfl fun vs hv=>by refine jE (fun a0 a1 e_1=>?_) (ka hv);subst e_1;rfl) (by rfl) ?_;dsimp only [iJ,iS,List.zip,List.zipWith];refine ac (aL rfl (.pure (b_ ?_)));refine ac (bc (.pure (aC rfl (aa rfl ?_ rfl))));refine iy HK "b" (by simp) rfl hi hm rfl ⟨(fun h=>nomatch h),fun χ=>ao ?_⟩;refine ac (cG (fun χ=>rfl) (fun χ=>rfl) (fun χ=>rfl) (.pure (aa rfl ?_ rfl)));refine e_ HK "b" (by simp) rfl hi hm (YF rfl) rfl ?_;refine ac (gT (fun χ=>rfl) (fun χ=>rfl) (.pure (bL ?_)));refine e_ HK "matching_blocks" (by simp) rfl (a7 hi hm) aR (YF rfl) rfl ?_;refine e_ HK "opcodes" (by simp) rfl (a7 (a7 hi hm) aR) aR (YF rfl) rfl ?_;refine rv cZ (rv cZ ?_);refine ac (cG (fun χ=>rfl) (fun χ=>rfl) (fun χ=>rfl) (.pure (bL ?_)));refine e_ HK "fullbcount" (by simp) rfl (a7 hi hm) aR (YF rfl) rfl ?_;refine rv cZ ?_;refine ac (aL rfl ?_);refine kZ HK "_SequenceMatcher__chain_b" (f:=188) (by simp) rfl (a7 hi hm) aR rfl (.of (o9 HK)) (fun χ=>⟨_,rfl⟩) rfl rfl (aB ?_);refine zc HK n _ i m _ t (.ca x u) _ (a7 hi hm) rN lB aR (YF rfl) ht rfl rfl rfl rfl rfl rfl ⟨rfl,rfl⟩ fun σ' hS hk hn=>?_;refine ao (h σ' hS (fun j h1 h2=>?_) hn);exact rv (hk j h1 h2) (rv (Sg.aN _ _ _ _) (rv (Yz h2) rfl))
theorem xr (n:Nat)(σ:Sg)(i m:Nat)(t:List Nat)(x:Str)(u:Tok)(k:D→Sg→Prop)(hi:σ.o i=.inst 242 m [])(rN:i<σ.n)(lB:m<σ.n)(hm:σ.o m=.attrs MJ)(ht:t.length≤20)
  (h:∀ σ',jL σ' i m t (.ca x u)→(∀ j,j<σ.n→j≠m→σ'.o j=σ.o j)→σ.n≤σ'.n→k .none σ'):CE Ω ⟨n+3,true⟩ 167 [.loc i,.ca x u,.str (sl t)] [] σ k:=by
 refine b8 (mx HK) (Xe.of_eq (xs:=["self","a","b"]) rfl fun vs hv=>by refine MO (fun a0 a1 a2 e_2=>?_) (F4 hv);subst e_2;rfl) (by rfl) ?_;dsimp only [iI,iR,List.zip,List.zipWith];refine ac (aL rfl (.pure (b_ ?_)));refine ac (aL rfl ?_);refine kZ HK "set_seq1" (f:=174) (by simp) rfl hi hm rfl (.of (iE HK)) (fun χ=>⟨_,rfl⟩) rfl rfl (aw rfl (.pure (aa rfl (aB ?_) rfl)));refine oU HK (n+1) σ i m MJ x u _ hi hm (YF rfl) (.inl rfl) ?_;have e:BB σ m MJ x u=σ.put m (.attrs (Pe x u)):=rfl;refine rv e ?_;refine ac (aL rfl ?_);refine kZ HK "set_seq2" (f:=181) (by simp) rfl (a7 hi hm) aR rfl (.of (my HK)) (fun χ=>⟨_,rfl⟩) rfl rfl (aw rfl (.pure (aa rfl (aB ?_) rfl)));refine xu HK n _ i m t x u _ (a7 hi hm) rN lB aR ht fun σ' hS hk hn=>?_;refine ao (h σ' hS (fun j h1 h2=>?_) hn);exact rv (hk j h1 h2) (rv (Sg.aN _ _ _ _) (rv (Yz h2) rfl))
theorem Lm (n:Nat)(σ:Sg)(t:List Nat)(x:Str)(u:Tok)(k:D→Sg→Prop)(ht:t.length≤20)
  (h:∀ σ' m,jL σ' (σ.n+1) m t (.ca x u)→oL σ.n σ σ'→σ.n+2≤σ'.n→k (.loc (σ.n+1)) σ'):CE Ω ⟨n+5,true⟩ 242 [.none,.ca x u,.str (sl t),.bool false] [] σ k:=by
 refine rM (fI:=160) (rv HK (y4 _)) (rv HK (Ca _)) (rv HK (y5 _)) ?_;refine iY (xH HK) (Xe.wg (xs:=["self","isjunk","a","b","autojunk"]) (T:=153) rfl (by refine rv HK ?_;rfl) rfl rfl fun vs hv=>by refine Pi (fun a0 a1 a2 a3 a4 e_3=>?_) (IV hv);subst e_3;exact (aF _ rfl rfl)) (by rfl) ?_;dsimp only [jW,kL,List.zip,List.zipWith];generalize dF:(σ.add (.attrs [])).add (.inst 242 σ.n [])=aq;have hi:aq.o (σ.n+1)=.inst 242 σ.n []:=rv dF.symm (rv (Sg.aZ _ _ _) (rv (YH (by rw [Sg.add_n])) rfl));have hm:aq.o σ.n=.attrs []:=rv dF.symm (rv (Sg.aZ _ _ _) (rv (Yz (by rw [Sg.add_n];exact J8)) (rv (Sg.aZ _ _ _) (rv (YH rfl) rfl))));have hn:aq.n=σ.n+2:=by refine rv dF.symm ?_;rfl
 have ho:∀ j,j<σ.n→aq.o j=σ.o j:=fun j hj=>rv dF.symm (rv (Sg.aZ _ _ _) (rv (Yz (by rw [Sg.add_n];exact J_ hj)) (rv (Sg.aZ _ _ _) (rv (Yz (BL hj)) rfl))));refine ac (aL rfl (.pure (b_ ?_)));refine ac (cG (fun χ=>rfl) (fun χ=>rfl) (fun χ=>rfl) (.pure (aa rfl ?_ rfl)));refine e_ HK "isjunk" (by simp) rfl hi hm (YF rfl) rfl ?_;refine ac (gT (fun χ=>rfl) (fun χ=>rfl) (.pure (bL ?_)));refine e_ HK "a" (by simp) rfl (a7 hi hm) aR (YF rfl) rfl ?_;refine rv cZ ?_;refine e_ HK "b" (by simp) rfl (a7 hi hm) aR (YF rfl) rfl ?_;refine rv cZ ?_;refine ac (cG (fun χ=>rfl) (fun χ=>rfl) (fun χ=>rfl) (.pure (aa rfl ?_ rfl)));refine e_ HK "autojunk" (by simp) rfl (a7 hi hm) aR (YF rfl) rfl ?_;refine rv cZ ?_;refine ac (aL rfl ?_);refine kZ HK "set_seqs" (f:=167) (by simp) rfl (a7 hi hm) aR rfl (.of (mx HK)) (fun χ=>⟨_,rfl⟩) rfl rfl (aw rfl (.pure (aa rfl (aw rfl (.pure (aa rfl (aB ?_) rfl))) rfl)));refine xr HK n _ (σ.n+1) σ.n t x u _ (a7 hi hm) (by rw [Sg.bF];exact Nk hn) (by rw [Sg.bF];exact J9 hn) aR ht fun σ' hS hk ic=>?_;refine ao ⟨rfl,h σ' σ.n hS (fun j hj=>?_) (by rw [Sg.bF] at ic;exact Tp hn ic)⟩;exact rv (hk j (by rw [Sg.bF];exact KV hn hj) (BM hj)) (rv (Sg.aN _ _ _ _) (rv (Yz (BL hj)) (rv (ho j hj) rfl)))
end
noncomputable abbrev gh:=Int×Int×Int
noncomputable def wG (i:Int)(J:Int→Int)(st:(Int→Int)×gh)(j:Int):(Int→Int)×gh:=
 let k:=J (j-1)+1
 (fun x=>if x=j then k else st.1 x,if k>st.2.2.2 then (i-k+1,j-k+1,k) else st.2)
noncomputable def lz (t q:List Nat)(st:(Int→Int)×gh)(i:Int):(Int→Int)×gh:=
 (cV (q.getD i.toNat 0) t.zipIdx).foldl (wG i st.1) (fun χ=>0,st.2)
noncomputable def pA (t q:List Nat):gh:=((Xf 4).foldl (lz t q) (fun χ=>0,(0,0,0))).2
noncomputable def Hf (σ:Sg)(n:Nat)(J:Int→Int)(m:Nat):Prop:=∃ es,σ.o n=.fy es∧es.length≤m∧∀ x,(cP es x).getD (.int 0)=.int (J x)
noncomputable def zk (t q:List Nat)(jb js jl:Nat)(b:gh):aO:=[("besti",.int b.1),("bestj",.int b.2.1),("bestsize",.int b.2.2),("j2len",.loc jl),("nothing",.list []),("a",.str (sl q)),("b",.str (sl t)),("b2j",.loc jb),("isbjunk",.jK (.loc js) "set.__contains__"),("alo",.int 0),("ahi",.int 4),("blo",.int 0),("bhi",.int t.length)]
noncomputable def xA (t q:List Nat)(jb js jl nj:Nat)(y:Int)(b:gh):aO:=("newj2len",.loc nj)::("j2lenget",.jK (.loc jl) "dict.get")::("i",.int y)::zk t q jb js jl b
theorem sc {c:Nat}{t:List Nat}{z:Int}(h:z∈cV c t.zipIdx):0≤z∧z<t.length∧t[z.toNat]? = some c:=by
 simp only [cV,Yt,YJ,decide_eq_true_eq] at h;revert h;refine az fun y_1 y_2 e_3=>?_;obtain ⟨a,b⟩:=y_1;obtain ⟨h1,h2⟩:=y_2;subst e_3;have:=List.mem_zipIdx h1;simp only at h2 this ⊢;refine ⟨HS,Sm this.2.1,?_⟩;refine rv (YQ _) (rv h2.symm ?_);have h3:=List.mk_mem_zipIdx_iff_getElem?.mp h1;exact h3
theorem A5 {K:Type}[DecidableEq K](es:List (K×D))(x y:K)(d:D):cP (c6 es x d) y=if x=y then some d else cP es y:=by
 by_cases h:cP es x=none
 ·exact hH h
 ·have hm:∀ es:List (K×D),cP (es.map (fun kv=>if kv.1=x then (kv.1,d) else kv)) y=if x=y then (cP es y).map (fun χ=>d) else cP es y:=by
   intro es
   induction es with
   | nil=>simp [cP]
   | cons kv es ih=>
    obtain ⟨a,v⟩:=kv;simp only [List.map_cons]
    by_cases q:a=y
    ·subst q
     by_cases q':a=x
     ·subst q';simp [cP]
     ·simp [cP,q',Ne.symm q']
    ·have e1:∀ (v:D) (r:List (K×D)),cP ((a,v)::r) y=cP r y:=fun v r=>by simp [cP,q]
     refine rv (e1 _ _) ?_
     by_cases q':a=x
     ·exact rv (YH q') (rv (e1 _ _) ih)
     ·exact rv (Yz q') (rv (e1 _ _) ih)
  have ha:es.any (fun kv=>decide (kv.1=x))=true:=by
   cases q:es.any (fun kv=>decide (kv.1=x)) with
   | true=>rfl
   | false=>
    refine absurd ?_ h;rw [List.any_eq_false] at q;rw [cP,Option.map_eq_none_iff,List.find?_eq_none];intro kv hk;simpa using q kv hk
  unfold c6;refine rv ha (rv (YH rfl) (rv (hm _) ?_))
  by_cases q:x=y
  ·subst q;refine rv (YH rfl) (rv (YH rfl) ?_);cases q:cP es x with
   | none=>exact absurd q h
   | some v=>rfl
  ·exact rv (Yz q) (rv (Yz q) rfl)
theorem zt {n:Nat}{x:Str}{cD:D}{es:List (Str×D)}{k:D→Prop}(hn:σ.o n=.bB es)(hx:cP es x=none)(h:k cD):Bk Ω l "dict.get" n [.str x,cD] σ k:=v6 hn (rv hx h)
theorem zr {n:Nat}{x:Str}{cD d:D}{es:List (Str×D)}{k:D→Prop}(hn:σ.o n=.bB es)(hx:cP es x=some d)(h:k d):Bk Ω l "dict.get" n [.str x,cD] σ k:=v6 hn (rv hx h)
theorem zv {n:Nat}{x v:Int}{es:List (Int×D)}{k:D→Prop}(hn:σ.o n=.fy es)(hx:(cP es x).getD (.int 0)=.int v)(h:k (.int v)):DX Ω l "dict.get" n [.int x,.int 0] σ k:=zw hn (rv hx h)
theorem l0 {js:Nat}{arg:PySem.Expr}{p pos:Pos}{k:D→Prop}(m9:σ.o js=.set [])(e:lk "isbjunk" ρ=some (.jK (.loc js) "set.__contains__"))(hn:Xc [arg]=true)(h:EV Ω l N ρ σ arg fun d=>∃ x,d=.str x∧k (.bool false)):EV Ω l N ρ σ (.Call (.Name "isbjunk" p) [arg] [] pos) k:=
 tW e rfl hn (ae hn (h.mono fun d hd=>by
  revert hd;refine az fun x e_4 hk=>?_;subst e_4;exact ak (Iv m9 (by simpa using hk))))
theorem vv {io e:PySem.Expr}{k:(Sg→Prop)→List D→Prop}{P:(Sg→Prop)→Prop}{xs:List D}(h:tO Ω l N ρ σ io e fun bC ys=>P bC∧ys=xs)(hk:∀ bC,P bC→k bC xs):tO Ω l N ρ σ io e k:=fun A B μ env s R F Q E kk=>
 h A B μ env s R F Q E fun it ws bC ys St s' T fr g lv st hq=>by
  obtain ⟨hP,rfl⟩:=hq;exact kk it ws bC ys St s' T fr g lv st (hk bC hP)
structure Bm (t q:List Nat)(b:gh):Prop where
 i0:0≤b.1
 j0:0≤b.2.1
 s0:0≤b.2.2
 i1:b.1+b.2.2≤4
 j1:b.2.1+b.2.2≤t.length
 back:0<b.1→0<b.2.1→q[(b.1-1).toNat]?≠t[(b.2.1-1).toNat]?
 on:b.1+b.2.2<4→b.2.1+b.2.2<t.length→q[(b.1+b.2.2).toNat]?≠t[(b.2.1+b.2.2).toNat]?
section
variable (HK:Ω.K=hd.heap_1 Ω.w.params)
include HK
theorem Ic (n:Nat)(σ:Sg)(i m:Nat)(t q:List Nat)(u:Tok)(k:D→Sg→Prop)(hS:jL σ i m t (.ca (sl q) u))(ht:t.length≤20)(hq:q.length=4)(hf:Bm t q (pA t q))
  (h:∀ σ',oL σ.n σ σ'→σ.n≤σ'.n→k (.inst 135 [.int (pA t q).1,.int (pA t q).2.1,.int (pA t q).2.2]) σ'):CE Ω ⟨n+3,true⟩ 196 [.loc i,.int 0,.int 4,.int 0,.int t.length] [] σ k:=by
 obtain ⟨hi,rN,lB,fs,jb,js,hm,hz,ha,hb,EH,HG,_,GE,_,Dc,n1,n2,GJ,GH,m9,Ar⟩:=hS;refine b8 (zE HK) (Xe.wg (xs:=["self","alo","ahi","blo","bhi"]) (T:=189) rfl (by refine rv HK ?_;rfl) rfl rfl fun vs hv=>by refine Pi (fun a0 a1 a2 a3 a4 e_5=>?_) (IV hv);subst e_5;exact (aF _ rfl rfl)) (by rfl) ?_;dsimp only [uF,vm,List.zip,List.zipWith];refine ac (aL rfl (.pure (b_ ?_)));refine ac (iX rfl rfl rfl none rfl (.inl rfl) (.pure (rH (ae rfl (w_ (iy HK "a" (by simp) rfl hi hm ha ?_))))));refine ae rfl (iy HK "b" (by simp) rfl hi hm hb ?_);refine ae rfl (iy HK "b2j" (by simp) rfl hi hm EH ?_);refine ae rfl (D4 rfl (iy HK "bjunk" (by simp) rfl hi hm HG (lA js [] rfl m9 (ak ⟨sz rfl,_,rfl,rfl,?_⟩))));refine rv (YH rfl) ?_;refine ac (bc (.pure (aC rfl (aa rfl (bL ?_) rfl))));refine ⟨(fun h=>nomatch h),fun χ=>ao ?_⟩;refine ac (bc (.pure (aC rfl (aa rfl (bL ?_) rfl))));refine ⟨(fun h=>nomatch h),fun χ=>ao ?_⟩;refine ac (iX rfl rfl rfl (some ["besti","bestj","bestsize"]) rfl (.inr rfl) (.pure (rH (ae rfl (aa rfl (ae rfl (aa rfl (ae rfl (af (ak ⟨by decide,_,rfl,rfl,?_⟩))) rfl)) rfl)))));refine rv (Yz (by simp)) ?_;refine ac (ah rfl rfl (t6 ?_));refine ac (ah rfl rfl (.pure (bM (ak ⟨Nat.zero_le _,?_⟩))));refine ac ?_;refine ES.le (ρ':=zk t q jb js σ.n (0,0,0)) (.cons rfl (.cons rfl (.cons rfl (.cons rfl (.cons rfl (.cons rfl (.cons rfl (.cons rfl (.cons rfl (.cons rfl (.cons rfl (.cons rfl (.cons rfl .nil))))))))))))) ?_;refine cF rfl rfl rfl (bZ rfl (cE rfl (cu HK) rfl rfl rfl (ae rfl (aa rfl (ae rfl (aa rfl (ak (cq (LV (eT ?_ (by decide) (by decide))))) rfl)) rfl))));have aj:∀ (σ':Sg),oL σ.n σ σ'→∀ es,σ.o jb=.bB es→σ'.o jb=.bB es:=fun σ' hk es e=>(hk jb GJ).trans e;refine bG D.int (fun pre ρ σ'=>∃ jl,ρ=zk t q jb js jl (pre.foldl (lz t q) (fun χ=>0,(0,0,0))).2∧oL σ.n σ σ'∧σ.n≤jl∧jl<σ'.n∧Hf σ' jl (pre.foldl (lz t q) (fun χ=>0,(0,0,0))).1 20) (Xf 4) ?_ ?_ (Xf 4) [] _ _ rfl (Kp σ.n rfl (fun j hj=>rv (Sg.aZ _ _ _) (rv (Yz (BL hj)) rfl)) (PG) (by simp) (eQ [] (by simp) (by simp) (fun x=>rfl)))
 ·intro pre y post ρ σ' e r_56;revert r_56;refine GY fun jl e_1 hk Df xX hJ=>?_;subst e_1;have hy:0≤y∧y<4:=by
   have:y∈Xf 4:=by refine rv e ?_;simp
   have:=b9.mp this;exact UE this.1 this.2
  generalize lN:pre.foldl (lz t q) (fun χ=>0,(0,0,0))=st at hJ ⊢;obtain ⟨J,b⟩:=st;dsimp only at hJ ⊢;refine ⟨trivial,_,rfl,c8 fun K hK=>?_⟩;revert hJ;refine db fun ej Jn W7 VT=>?_;refine ac (ah rfl rfl (.pure (Bp rfl (aa rfl (eQ _ rfl (by refine rv Jn ?_;rfl) ?_) rfl))));refine ac (ah rfl rfl (t6 ?_));obtain ⟨c,hc⟩:∃ c,q[y.toNat]? = some c:=⟨q[y.toNat]'(Kc hq hy.2),YM (Kc hq hy.2)⟩;have hcd:q.getD y.toNat 0=c:=by refine rv (List.getD_eq_getElem?_getD) (rv hc ?_);rfl
  obtain ⟨es,p1,p2,p3,p4⟩:=Ar;have Hw:oL σ.n σ (σ'.add (.fy [])):=fun j hj=>Sg.an (Oe Df xX hj) (hk j hj);refine ac (ES.le (ρ':=xA t q jb js jl σ'.n y b) (.cons rfl (.cons rfl (.cons rfl (.cons rfl (.cons rfl (.cons rfl (.cons rfl (.cons rfl (.cons rfl (.cons rfl (.cons rfl (.cons rfl (.cons rfl (.cons rfl (.cons rfl (.cons rfl .nil)))))))))))))))) (cF rfl rfl rfl ?_));have side:(decide (y < -(2^63:Int))||decide (y≥2^63))=false:=by simp;exact UC hy.1 hy.2
  have kd:σ'.n≠jl:=HT xX;refine vv (P:=fun bC=>∀ aY,oL σ.n σ aY→bC aY) (xs:=(cV c t.zipIdx).map D.int) (HP.el (p3 c) (fun e1 e2=>?A) (fun e1 l e2 e3 e4=>?B)) fun bC lp=>?_
  case A=>
   exact bZ rfl (w8 "dict.get" "dict" qj (by decide) rfl rfl (by decide) rfl (aa rfl ⟨jb,rfl,by refine rv (aj _ Hw es p1) ?_;rfl,ae rfl (aX rfl (aa rfl (aa rfl (dp (ae rfl (aa rfl (ak (zt (aj _ Hw es p1) e2 (br ⟨fun χ χ=>trivial,by refine rv e1 ?_;rfl⟩))) rfl)) (cO hy.1 hc) side) rfl) rfl))⟩ rfl))
  case B=>
   exact tN rfl (w8 "dict.get" "dict" qj (by decide) rfl rfl (by decide) rfl (aa rfl ⟨jb,rfl,by refine rv (aj _ Hw es p1) ?_;rfl,ae rfl (aX rfl (aa rfl (aa rfl (dp (ae rfl (aa rfl (ak (zr (aj _ Hw es p1) e2 ⟨l,rfl,_,(Hw l e3.2).trans e4,fun aY hk=>(hk l e3.2).trans e4,rfl⟩)) rfl)) (cO hy.1 hc) side) rfl) rfl))⟩ rfl))
  ·refine bG D.int (fun pr ρ aY=>ρ=xA t q jb js jl σ'.n y (pr.foldl (wG y J) (fun χ=>0,b)).2∧oL σ.n σ aY∧aY.o jl=.fy ej∧σ'.n<aY.n∧Hf aY σ'.n (pr.foldl (wG y J) (fun χ=>0,b)).1 pr.length) (cV c t.zipIdx) ?_ ?_ (cV c t.zipIdx) [] _ _ rfl ⟨rfl,Hw,Sg.an (Ne.symm kd) Jn,by simp,[],by simp,by simp,fun x=>rfl⟩
   ·intro pr z po ρ aY e r_57;revert r_57;refine Pn fun e_3 De GI GB z_2=>?_;subst e_3;refine db (fun en Je GA HD=>?_) z_2;have hz:=sc (show z∈cV c t.zipIdx by refine rv e ?_;simp);refine ⟨lp _ De,_,rfl,c8 fun DZ ey=>?_⟩;generalize hr:pr.foldl (wG y J) (fun χ=>0,b)=r at HD ⊢;obtain ⟨nJ,b2⟩:=r;dsimp only at HD ⊢;refine ac (bc (.pure (aC rfl (aa rfl (aa rfl ⟨(fun h=>absurd h (by simp;exact Lb hz.1)),fun χ=>ao ?_⟩ rfl) rfl))));refine ac (bc (.pure (aC rfl (aa rfl (aa rfl ⟨(fun h=>absurd h (by simp;exact TX hz.2.1)),fun χ=>ao ?_⟩ rfl) rfl))));refine ac (gT (fun χ=>rfl) (fun χ=>rfl) (.pure (ap (tW rfl rfl rfl (ae rfl (ap (aa rfl (af (bY (ae rfl (af (ak (zv GI (VT _) (af (bm ?_)))))))) rfl)))))));refine jP rfl (Ec (aa rfl ⟨σ'.n,rfl,en,Je,?_,aa rfl ⟨z,rfl,?_⟩ rfl⟩ rfl))
    ·have:=congrArg List.length e;have l1:=Y1 (fun p:Nat×Nat=>decide (p.1=c)) t.zipIdx;simp [cV] at this l1;exact rv Yy (Tc ht GA this l1)
    have fin:(oL σ.n σ (aY.put σ'.n (.fy (c6 en z (.int (J (z-1)+1)))))∧(aY.put σ'.n (.fy (c6 en z (.int (J (z-1)+1))))).o jl=.fy ej∧σ'.n<(aY.put σ'.n (.fy (c6 en z (.int (J (z-1)+1))))).n∧Hf (aY.put σ'.n (.fy (c6 en z (.int (J (z-1)+1))))) σ'.n (wG y J (nJ,b2) z).1 (pr++[z]).length):=by
     refine ⟨fun j hj=>?_,?_,GB,_,aR,?_,fun x=>?_⟩
     ·exact Sg.pn (Oe Df xX hj) (De j hj)
     ·exact Sg.pn (Ne.symm kd) GI
     ·have:=tm en z (.int (J (z-1)+1));simp;exact N5 GA this
     ·refine rv (A5 _ _ _ _) ?_;show _=D.int (if x=z then J (z-1)+1 else nJ x)
      by_cases q:z=x
      ·refine rv (YH q) (rv (YH q.symm) ?_);rfl
      ·exact rv (Yz q) (rv (Yz (Ne.symm q)) (HD x))
    refine ac (bc (.pure (aC rfl (aa rfl (aa rfl ⟨fun Mp=>?_,fun Mp=>ao (ao ?_)⟩ rfl) rfl))))
    ·refine ac (iX rfl rfl rfl (some ["besti","bestj","bestsize"]) rfl (.inr rfl) (.pure ?_));refine rH (ae rfl (ap (ap (aa rfl (aa rfl (bY (af (bm (ae rfl (ap (ap (aa rfl (aa rfl (bY (af (bm (ae rfl (aa rfl (ak (And.symm ⟨?_,?_⟩)) rfl))))) rfl) rfl))))))) rfl) rfl))));refine ⟨_,rfl,rfl,?_⟩;refine rv (Yz (by simp)) ?_;refine ao (ao ?_);have hb:(wG y J (nJ,b2) z).2=(y-(J (z-1)+1)+1,z-(J (z-1)+1)+1,J (z-1)+1):=YH (YF Mp);refine ey .next _ _ ⟨xA t q jb js jl σ'.n y (y-(J (z-1)+1)+1,z-(J (z-1)+1)+1,J (z-1)+1),.cons rfl (.cons rfl (.cons rfl (.cons rfl (.cons rfl (.cons rfl (.cons rfl (.cons rfl (.cons rfl (.cons rfl (.cons rfl (.cons rfl (.cons rfl (.cons rfl (.cons rfl (.cons rfl (.nil)))))))))))))))),?_,?_⟩
     ·refine rv YY (rv hr ?_);show _=xA t q jb js jl σ'.n y (wG y J (nJ,b2) z).2;exact rv hb rfl
     ·exact rv YY (rv hr fin)
     (simp only [List.length_map,List.length_append,List.length_cons,List.length_nil,aJ,aA,Yy];lia -abstractProof)
    ·have hb:(wG y J (nJ,b2) z).2=b2:=Yz (YX Mp);refine ey .next _ _ ⟨xA t q jb js jl σ'.n y b2,.cons rfl (.cons rfl (.cons rfl (.cons rfl (.cons rfl (.cons rfl (.cons rfl (.cons rfl (.cons rfl (.cons rfl (.cons rfl (.cons rfl (.cons rfl (.cons rfl (.cons rfl (.cons rfl (.nil)))))))))))))))),?_,?_⟩
     ·refine rv YY (rv hr ?_);show _=xA t q jb js jl σ'.n y (wG y J (nJ,b2) z).2;exact rv hb rfl
     ·exact rv YY (rv hr fin)
   ·intro ρ aY r_58;revert r_58;refine Pn fun e_5 De GI GB z_4=>?_;subst e_5;refine db (fun en Je GA HD=>?_) z_4;refine ⟨lp _ De,ac (ah rfl rfl (.pure (aa rfl (ao ?_) rfl)))⟩;have ho:(pre++[y]).foldl (lz t q) (fun χ=>0,(0,0,0))=(cV c t.zipIdx).foldl (wG y J) (fun χ=>0,b):=by
     refine rv YY (rv lN ?_);show lz t q (J,b) y=_;unfold lz;exact rv hcd rfl
    refine hK .next _ _ ?_;dsimp only [F3];refine rv ho ?_;generalize (cV c t.zipIdx).foldl (wG y J) (fun χ=>0,b)=r at HD ⊢;obtain ⟨nJ,b2⟩:=r;refine ⟨zk t q jb js σ'.n b2,.cons rfl (.cons rfl (.cons rfl (.cons rfl (.cons rfl (.cons rfl (.cons rfl (.cons rfl (.cons rfl (.cons rfl (.cons rfl (.cons rfl (.cons rfl (.nil))))))))))))),σ'.n,rfl,De,N6 Df xX,GB,en,Je,?_,HD⟩;have l1:=Y1 (fun p:Nat×Nat=>decide (p.1=c)) t.zipIdx;simp [cV] at GA l1;exact SJ ht GA l1
 ·intro ρ σ' r_59;revert r_59;refine GY fun jl e_6 hk Df xX hJ=>?_;subst e_6;refine ⟨trivial,?_⟩;have wH:σ'.o js=.set []:=(hk js GH).trans m9;have Jq:((Xf 4).foldl (lz t q) (fun χ=>0,(0,0,0))).2=pA t q:=rfl;refine rv Jq ?_;generalize pA t q=b at hf h ⊢;obtain ⟨bi,bj,bs⟩:=b;obtain ⟨f1,f2,f3,f4,f5,f6,f7⟩:=hf;dsimp only at f1 f2 f3 f4 f5 f6 f7 h;dsimp only [zk];have it:∀ z:Int,0≤z→z<t.length→∃ c,t[z.toNat]? = some c:=fun z h0 h1=>⟨t[z.toNat]'(Ke h0 h1),YM (Ke h0 h1)⟩;have iq:∀ z:Int,0≤z→z<4→∃ c,q[z.toNat]? = some c:=fun z h0 h1=>⟨q[z.toNat]'(Kc hq h1),YM (Kc hq h1)⟩;have sd:∀ z:Int,0≤z→z<100→(decide (z < -(2^63:Int))||decide (z≥2^63))=false:=fun z h0 h1=>by simp;exact UD h0 h1
  refine ac (cM 1 (TE.mono (k:=fun c aY=>c=false∧σ'=aY) (.pure (TV.mono (k:=fun c=>c=false) ?_ fun c hc=>⟨hc,rfl⟩)) fun c aY hc=>?_))
  ·refine bO (bD (aC rfl (aa rfl (aa rfl ⟨fun w1=>?_,fun χ=>rfl⟩ rfl) rfl)));refine bD (aC rfl (aa rfl (aa rfl ⟨fun w2=>?_,fun χ=>rfl⟩ rfl) rfl));have w1:0<bi:=YF w1;have w2:0<bj:=YF w2;obtain ⟨c,hc⟩:=it (bj-1) (yB w2) (Os f3 f5);obtain ⟨d,hd⟩:=iq (bi-1) (yB w1) (Op f3 f4);refine bD (Bi (dz rfl (l0 wH rfl rfl (aX rfl (aa rfl (ap (aa rfl (af (bY (dp (aF _ rfl (dE ⟨fun χ=>?_,fun χ=>rfl⟩)) (cO (yB w2) hc) (sd _ (yB w2) (K0 ht f3 f5))))) rfl)) rfl)))));refine bD (aC rfl (aX rfl (aa rfl (ap (aa rfl (af (bY (dp (aX rfl (aa rfl (ap (aa rfl (af (bY (dp (uO ?_) (cO (yB w2) hc) (sd _ (yB w2) (K0 ht f3 f5))))) rfl)) rfl)) (cO (yB w1) hd) (sd _ (yB w1) (Uf f3 f4))))) rfl)) rfl)));have gi:d≠c:=fun e=>f6 w1 w2 (rv hc (rv hd (rv e rfl)));exact ⟨fun e=>absurd (jg (eq_of_beq e)) gi,fun χ=>rfl⟩
  obtain ⟨rfl,rfl⟩:=hc;refine ⟨(fun h=>nomatch h),fun χ=>ao ?_⟩;refine ac (cM 1 (TE.mono (k:=fun c aY=>c=false∧σ'=aY) (.pure (TV.mono (k:=fun c=>c=false) ?_ fun c hc=>⟨hc,rfl⟩)) fun c aY hc=>?_))
  ·refine bO (bD (aC rfl (ap (aa rfl (aa rfl (bm (aa rfl ⟨fun w1=>?_,fun χ=>rfl⟩ rfl)) rfl) rfl))));refine bD (aC rfl (ap (aa rfl (aa rfl (bm (aa rfl ⟨fun w2=>?_,fun χ=>rfl⟩ rfl)) rfl) rfl)));have w1:bi+bs<4:=YF w1;have w2:bj+bs<t.length:=YF w2;obtain ⟨c,hc⟩:=it (bj+bs) (yC f2 f3) (Ot w2);obtain ⟨d,hd⟩:=iq (bi+bs) (yC f1 f3) (Oq w1);refine bD (Bi (dz rfl (l0 wH rfl rfl (aX rfl (aa rfl (ap (aa rfl (aa rfl (bm (dp (aF _ rfl (dE ⟨fun χ=>?_,fun χ=>rfl⟩)) (cO (yC f2 f3) hc) (sd _ (yC f2 f3) (K1 ht w2)))) rfl) rfl)) rfl)))));refine bD (aC rfl (aX rfl (aa rfl (ap (aa rfl (aa rfl (bm (dp (aX rfl (aa rfl (ap (aa rfl (aa rfl (bm (dp (uO ?_) (cO (yC f2 f3) hc) (sd _ (yC f2 f3) (K1 ht w2)))) rfl) rfl)) rfl)) (cO (yC f1 f3) hd) (sd _ (yC f1 f3) (Ui w1)))) rfl) rfl)) rfl)));have gi:d≠c:=fun e=>f7 w1 w2 (rv hc (rv hd (rv e rfl)));exact ⟨fun e=>absurd (jg (eq_of_beq e)) gi,fun χ=>rfl⟩
  obtain ⟨rfl,rfl⟩:=hc;refine ⟨(fun h=>nomatch h),fun χ=>ao ?_⟩;refine ac (cM 1 (TE.mono (k:=fun c aY=>c=false∧σ'=aY) (.pure (TV.mono (k:=fun c=>c=false) ?_ fun c hc=>⟨hc,rfl⟩)) fun c aY hc=>?_))
  ·refine bO (bD (aC rfl (aa rfl (aa rfl ⟨fun w1=>?_,fun χ=>rfl⟩ rfl) rfl)));refine bD (aC rfl (aa rfl (aa rfl ⟨fun w2=>?_,fun χ=>rfl⟩ rfl) rfl));have w1:0<bi:=YF w1;have w2:0<bj:=YF w2;obtain ⟨c,hc⟩:=it (bj-1) (yB w2) (Os f3 f5);obtain ⟨d,hd⟩:=iq (bi-1) (yB w1) (Op f3 f4);exact bD (dz rfl (l0 wH rfl rfl (aX rfl (aa rfl (ap (aa rfl (af (bY (dp (aF _ rfl (dE ⟨(fun h=>nomatch h),fun χ=>rfl⟩)) (cO (yB w2) hc) (sd _ (yB w2) (K0 ht f3 f5))))) rfl)) rfl))))
  obtain ⟨rfl,rfl⟩:=hc;refine ⟨(fun h=>nomatch h),fun χ=>ao ?_⟩;refine ac (cM 1 (TE.mono (k:=fun c aY=>c=false∧σ'=aY) (.pure (TV.mono (k:=fun c=>c=false) ?_ fun c hc=>⟨hc,rfl⟩)) fun c aY hc=>?_))
  ·refine bO (bD (aC rfl (ap (aa rfl (aa rfl (bm (aa rfl ⟨fun w1=>?_,fun χ=>rfl⟩ rfl)) rfl) rfl))));refine bD (aC rfl (ap (aa rfl (aa rfl (bm (aa rfl ⟨fun w2=>?_,fun χ=>rfl⟩ rfl)) rfl) rfl)));have w1:bi+bs<4:=YF w1;have w2:bj+bs<t.length:=YF w2;obtain ⟨c,hc⟩:=it (bj+bs) (yC f2 f3) (Ot w2);obtain ⟨d,hd⟩:=iq (bi+bs) (yC f1 f3) (Oq w1);exact bD (dz rfl (l0 wH rfl rfl (aX rfl (aa rfl (ap (aa rfl (aa rfl (bm (dp (aF _ rfl (dE ⟨(fun h=>nomatch h),fun χ=>rfl⟩)) (cO (yC f2 f3) hc) (sd _ (yC f2 f3) (K1 ht w2)))) rfl) rfl)) rfl))))
  obtain ⟨rfl,rfl⟩:=hc;refine ⟨(fun h=>nomatch h),fun χ=>ao ?_⟩;refine ac (bg (jO rfl (AO HK) (rv HK (CD _)) rfl rfl (aw rfl (.pure (aa rfl (aw rfl (.pure (aa rfl (aw rfl (.pure (aa rfl (aB ?_) rfl))) rfl))) rfl)))));refine Bz HK (uu HK n bi bj bs σ' _ ⟨⟨_,rfl⟩,?_⟩);exact h σ' hk (N6 Df xX)
omit HK in
noncomputable abbrev Qt:=List Nat×Tok
omit HK in
noncomputable def qD (x:Qt):D:=.ca (sl x.1) x.2
omit HK in
noncomputable def wX (b:gh):D:=.list [.int b.1,.int b.2.1,.int b.2.2]
omit HK in
theorem jL.keep {σ σ':Sg}{i m:Nat}{t:List Nat}{a:D}(hS:jL σ i m t a)(hk:oL σ.n σ σ')(hn:σ.n≤σ'.n):jL σ' i m t a:=by
 obtain ⟨hi,rN,lB,fs,jb,js,hm,hz,ha,hb,EH,HG,f1,GE,f2,Dc,n1,n2,GJ,GH,m9,es,p1,p2,p3,p4⟩:=hS;refine ⟨(hk i rN).trans hi,YG rN hn,YG lB hn,fs,jb,js,(hk m lB).trans hm,hz,ha,hb,EH,HG,f1,GE,f2,Dc,n1,n2,YG GJ hn,YG GH hn,(hk js GH).trans m9,es,(hk jb GJ).trans p1,p2,fun c=>?_,p4⟩;rcases p3 c with ⟨z,z'⟩ | ⟨e1,l,e2,e3,e4⟩
 ·exact .no z z'
 ·exact .hit e1 l e2 ⟨e3.1,YG e3.2 hn⟩ ((hk l e3.2).trans e4)
omit HK in
theorem Dp {σ:Sg}{i m:Nat}{t:List Nat}{a:D}(hS:jL σ i m t a)(x:Str)(u:Tok):∃ fs,σ.o m=.attrs fs∧lk "set_seq1" fs=none∧fs.length<900∧lk "a" fs=some a∧jL (BB σ m fs x u) i m t (.ca x u):=by
 obtain ⟨hi,rN,lB,fs,jb,js,hm,hz,ha,hb,EH,HG,f1,GE,f2,Dc,n1,n2,GJ,GH,m9,es,p1,p2,p3,p4⟩:=hS;have keep:∀ {j:Nat} {y:cB},σ.o j=y→Nat.beq y.ctorIdx (cB.attrs fs).ctorIdx=false→(BB σ m fs x u).o j=y:=fun {j y} h1 h2=>
  (Yz fun e=>DL (h1.symm.trans ((congrArg σ.o e).trans hm)) h2:(BB σ m fs x u).o j=σ.o j).trans h1
 have l3:(bE "opcodes" .none (bE "matching_blocks" .none (bE "a" (.ca x u) fs))).length=fs.length:=(kD _ _ f2 _ (gb rfl (gb rfl Dc))).trans ((kD _ _ f1 _ (gb rfl GE)).trans (kD _ _ _ _ ha));refine Kp fs hm n1 (YP hz (by decide)) ha ⟨keep hi rfl,rN,lB,_,jb,js,aR,Ys (Nat.le_of_eq l3) hz,gb rfl (gb rfl fu),gb rfl (gb rfl (gb rfl hb)),gb rfl (gb rfl (gb rfl EH)),gb rfl (gb rfl (gb rfl HG)),_,gb rfl fu,_,fu,gb rfl (gb rfl (gb rfl n1)),gb rfl (gb rfl (gb rfl n2)),GJ,GH,keep m9 rfl,es,keep p1 rfl,p2,fun c=>?_,p4⟩;rcases p3 c with ⟨z,z'⟩ | ⟨e1,l,e2,e3,e4⟩
 ·exact .no z z'
 ·exact .hit e1 l e2 e3 (keep e4 rfl)
theorem xw (n:Nat)(t:List Nat)(qs:List Qt)(k:D→Prop)(ht:t.length≤20)(VE:qs.length≤100)(hq:∀ x∈qs,x.1.length=4∧x.2≠0∧x.2<Ω.t0∧Bm t x.1 (pA t x.1))(hc:∀ pre x y post,qs=pre++x::y::post→y.2≠x.2∧y.1≠x.1)
  (h:k (.list (qs.map fun x=>wX (pA t x.1)))):CP Ω ⟨n+7,true⟩ 479 [.str (sl t),.list (qs.map qD)] [] k:=by
 refine eI rfl ?_ rfl (b8 (mA HK) (Xe.of_eq (xs:=["text","quads"]) rfl fun vs hv=>by refine jE (fun a0 a1 e_1=>?_) (ka hv);subst e_1;rfl) (by rfl) ?_)
 ·exact mD rfl (iH (fun χ=>rfl) qs)
 dsimp only [iM,iV,List.zip,List.zipWith];refine ac (iX rfl rfl rfl (some ["matcher","matches"]) rfl (.inr rfl) (rK (aw rfl ?_)));refine jO rfl (iQ HK) (rv HK (B_ _)) rfl rfl (aw rfl (.pure (bL (aw rfl (.pure (D2 fun u hu=>aw rfl (.pure (aa rfl (aw rfl (.pure (f_ (aB ?_)))) rfl))))))));refine Lm HK (n+1) .nil t _ u _ ht fun aq m hS hk hn=>?_;refine aw rfl (bU (aB ⟨by simp,aB ⟨sz rfl,_,rfl,rfl,?_⟩⟩));refine rv (Yz (by simp)) ?_;generalize GD:aq.n=mm at hS hk hn;have O9:jL ⟨(aq.add (.list [])).o,mm⟩ 1 m t (.ca "" u):=by
  refine hS.keep (fun j hj=>?_) (by show aq.n≤mm;exact Rc GD);show (aq.add (.list [])).o j=_;exact rv (Sg.aZ _ _ _) (rv (Yz (BL hj)) rfl)
 have O1:(aq.add (.list [])).o mm=.list []:=rv (Sg.aZ _ _ _) (rv (YH GD.symm) rfl);have OX:mm<(aq.add (.list [])).n:=rv (Sg.add_n _ _) (Rb GD);generalize aq.add (.list [])=aM at O9 O1 OX ⊢;refine ac (ES.le (ρ':=[("matches",.loc mm),("matcher",.loc 1),("text",.str (sl t)),("quads",.list (qs.map qD))]) (.cons (by refine rv GD.symm ?_;rfl) (.cons rfl (.cons rfl (.cons rfl .nil)))) ?_);refine cF rfl rfl rfl (bZ rfl (aa rfl (br ?_) rfl));refine bG qD (fun pre ρ σ'=>ρ=([("matches",.loc mm),("matcher",.loc 1),("text",.str (sl t)),("quads",.list (qs.map qD))]:aO)∧mm<σ'.n∧σ'.o mm=.list (pre.map fun x=>wX (pA t x.1))∧∃ y v,jL ⟨σ'.o,mm⟩ 1 m t (.ca y v)∧(pre=[]→y=""∧v=u)∧∀ pr w,pre=pr++[w]→y=sl w.1∧v=w.2) qs ?_ ?_ qs [] _ _ rfl ⟨rfl,OX,O1,_,_,O9,fun χ=>⟨rfl,rfl⟩,fun pr w e=>by simp at e⟩
 ·intro pre x post ρ σ' e r_60;revert r_60;refine rO fun e_2 hn hl z_1=>?_;subst e_2;refine gf (fun y v hS Vs OE=>?_) z_1;refine ⟨trivial,_,rfl,c8 fun K hK=>?_⟩;refine rO (fun x4 x0 xt xf=>?_) (hq x (by refine rv e ?_;simp));refine GY (fun fs hm Kx hz ha AJ=>?_) (Dp hS (sl x.1) x.2);have g0:pre.length≤100:=by have:=congrArg List.length e;simp at this;exact SM VE this
  have t9:x.2≠0∧v≠0∧x.2≠v∧sl x.1≠y:=by
   rcases List.eq_nil_or_concat pre with rfl | ⟨pr,w,rfl⟩
   ·obtain ⟨rfl,rfl⟩:=Vs rfl;refine ⟨x0,Nat.ne_of_gt (YG (Nat.zero_lt_of_lt xt) hu),YO (YG xt hu),fun e=>?_⟩;have:=congrArg (fun s:Str=>s.cps.size) e;have h0:(("":Str)).cps.size=0:=rfl;simp only [h0] at this;simp [sl] at this;rw [this] at x4;cases x4
   ·rw [List.concat_eq_append] at OE e;obtain ⟨rfl,rfl⟩:=OE pr w rfl;have hw:=hq w (by refine rv e ?_;simp);obtain ⟨c1,c2⟩:=hc pr w x post (by refine rv e ?_;simp);exact ⟨x0,hw.2.1,c1,fun e=>c2 (fF e)⟩
  refine ac (aL rfl (kZ HK "set_seq1" (f:=174) (by simp) rfl hS.inst hm Kx (.of (iE HK)) (fun χ=>⟨_,rfl⟩) rfl rfl (aw rfl (.pure (aa rfl (aB ?_) rfl)))));refine oU HK (n+5) σ' 1 m fs (sl x.1) x.2 _ hS.inst hm hz (.inr (gY y v ha t9)) ?_;have Mm:(BB σ' m fs (sl x.1) x.2).o mm=.list (pre.map fun x=>wX (pA t x.1)):=by
   unfold BB;exact Sg.pn (fun e=>by rw [← e,hl] at hm;exact DL hm rfl) hl
  have MF:jL ⟨(BB σ' m fs (sl x.1) x.2).o,mm⟩ 1 m t (.ca (sl x.1) x.2):=AJ;have GC:mm<(BB σ' m fs (sl x.1) x.2).n:=hn;generalize BB σ' m fs (sl x.1) x.2=aQ at Mm MF GC ⊢;have ME:jL aQ 1 m t (.ca (sl x.1) x.2):=MF.keep (fun χ χ=>rfl) (Nat.le_of_lt GC);obtain ⟨MK,VL,Mg⟩:∃ MK,aQ.o m=.attrs MK∧lk "find_longest_match" MK=none:=by
   obtain ⟨f,jb,js,q,_,_,_,_,_,_,_,_,_,_,q',_,_,_,_⟩:=ME.rest;exact aF f q q'
  refine ac (aL rfl (cN "list.append" "list" bo (by decide) rfl rfl (by decide) rfl (aa rfl ⟨mm,rfl,by refine rv Mm ?_;rfl,aw rfl (yz HK rfl (qH HK) rfl rfl rfl ?_)⟩ rfl)));refine kZ HK "find_longest_match" (f:=196) (by simp) rfl ME.inst VL Mg (.of (zE HK)) (fun χ=>⟨_,rfl⟩) rfl rfl ?_;refine aw rfl (.pure (af ?_));refine aw rfl (.pure (af ?_));refine aw rfl (.pure (af ?_));refine aw rfl (.pure ?_);refine gS rfl (gF HK) rfl rfl rfl (ae rfl (aa rfl (ak (kh (z7 (aB ?_) ?_))) rfl))
  ·refine rv (bk _) ?_;refine Ic HK (n+3) aQ 1 m t x.1 x.2 _ ME ht x4 xf fun fk Kz GA=>(eQ _ rfl rfl (aB (bn ((Kz mm GC).trans Mm) ?_ (ao ?_))))
   ·refine rv Yy ?_;simp;exact NP g0
   ·refine hK .next _ _ ⟨_,.cons rfl (.cons rfl (.cons rfl (.cons rfl .nil))),rfl,rv (Sg.bF _ _ _) (Tu GC GA),?_,sl x.1,x.2,?_,fun e=>by simp at e,fun pr w e=>?_⟩
    ·refine rv aR (rv List.map_append ?_);rfl
    ·refine MF.keep (fun j hj=>?_) (YE _);show (fk.put mm _).o j=aQ.o j;have hj:j<mm:=hj;refine rv (Sg.aN _ _ _ _) (rv (Yz (BL hj)) ?_);exact Kz j (N' GC hj)
    ·have:=List.append_inj_right' e rfl;cases this;exact ⟨rfl,rfl⟩
  ·exact rv (bk _) (K8 ht)
 ·intro ρ σ' r_61;revert r_61;refine rO fun e_3 hn hl χ=>?_;subst e_3;refine ⟨trivial,ac (bg (.pure (aa rfl (aF _ (qP hl fun d hd=>?_) h) rfl)))⟩;refine az (fun x χ e_2=>?_) (Yt.mp hd);subst e_2;rfl
end
structure kU (K:Frag)(C:Addr)(name:Str)(p:Addr)(i:Nat):Prop where
 ga:findIn K (.ref C) "__getattribute__"=some (some (.builtin "object.__getattribute__"))
 hook:findIn K (.ref C) "__getattr__"=some none
 cls:(clsIn K C).isSome=true
 Wt:findIn K (.ref C) name=some (some (.ref p))
 get:specialIn K (.ref p) "__get__"=some (some (.builtin "member_descriptor.__get__"))
 takes:takesIn K (.ref p)=some true
 slot:slotIn K p C=some i
 sa:findIn K (.ref C) "__setattr__"=some (some (.builtin "object.__setattr__"))
 plain:plainOver K C=true
 yW:takerIn K C name=some (some (.ref p))
 typ:typeIn K (.ref p)=some (.type "member_descriptor")
 lt:i<1000
noncomputable def y8 (K:Frag)(C:Addr)(name:Str)(p:Addr)(i:Nat):Bool:=
 findIn K (.ref C) "__getattribute__"==some (some (.builtin "object.__getattribute__"))&&findIn K (.ref C) "__getattr__"==some none&&(clsIn K C).isSome&&findIn K (.ref C) name==some (some (.ref p))&&
 specialIn K (.ref p) "__get__"==some (some (.builtin "member_descriptor.__get__"))&&takesIn K (.ref p)==some true&&slotIn K p C==some i&&findIn K (.ref C) "__setattr__"==some (some (.builtin "object.__setattr__"))&&plainOver K C&&
 takerIn K C name==some (some (.ref p))&&typeIn K (.ref p)==some (.type "member_descriptor")&&decide (i<1000)
theorem y7 {K:Frag}{C:Addr}{name:Str}{p:Addr}{i:Nat}(h:y8 K C name p i=true):kU K C name p i:=by
 simp only [y8,YR,YK,decide_eq_true_eq] at h;exact ⟨h.1.1.1.1.1.1.1.1.1.1.1,h.1.1.1.1.1.1.1.1.1.1.2,h.1.1.1.1.1.1.1.1.1.2,h.1.1.1.1.1.1.1.1.2,h.1.1.1.1.1.1.1.2,h.1.1.1.1.1.1.2,h.1.1.1.1.1.2,h.1.1.1.1.2,h.1.1.1.2,h.1.1.2,h.1.2,h.2⟩
noncomputable def k7 (sl:List (Option D))(i:Nat)(d:D):List (Option D):=(sl++List.replicate (i+1-sl.length) Option.none).set i (some d)
theorem cL.len {P:Pl}{h:Heap}:∀ {ds vs},cL P h ds vs→vs.length=ds.length
 | _,_,.nil=>rfl
 | _,_,.yes _ _ _ _ _ r=>by simp [r.len]
 | _,_,.no _ _ r=>by simp [r.len]
theorem cL.app {P:Pl}{h:Heap}{ds vs te n8}(r:cL P h ds vs)(r':cL P h te n8):cL P h (ds++te) (vs++n8):=
 cL.rec (motive:=fun ds vs χ=>cL P h (ds++te) (vs++n8)) r' (fun d v ds vs x χ i=>.yes d v _ _ x i) (fun ds vs χ i=>.no _ _ i) r
theorem cL.rep {P:Pl}{h:Heap}:∀ n,cL P h (List.replicate n Option.none) (List.replicate n Option.none):=by
 intro n
 induction n with
 | zero=>exact .nil
 | succ n ih=>exact .no _ _ (ih)
theorem cL.set {P:Pl}{h:Heap}{d:D}{v:Value}(x:W_ P h d v){ds vs}(i:Nat)(r:cL P h ds vs):cL P h (ds.set i (some d)) (vs.set i (some v)):=by
 induction r generalizing i with
 | nil=>exact .nil
 | yes e u ds vs y r ih=>
  cases i with
  | zero=>exact .yes d v _ _ x r
  | succ i=>exact .yes e u _ _ y (ih i)
 | no ds vs r ih=>
  cases i with
  | zero=>exact .yes d v _ _ x r
  | succ i=>exact .no _ _ (ih i)
theorem cL.at {P:Pl}{h:Heap}{d:D}{ds vs}(i:Nat)(r:cL P h ds vs):ds[i]? = some (some d)→∃ v,vs[i]? = some (some v)∧W_ P h d v:=by
 induction r generalizing i with
 | nil=>exact fun e=>iZ (List.getElem?_nil.symm.trans e)
 | yes d' v ds vs x r ih=>
  cases i with
  | zero=>exact fun e=>aF v rfl (rv (Yx (Yx e)).symm x)
  | succ i=>exact ih i
 | no ds vs r ih=>
  cases i with
  | zero=>exact fun e=>iZ (Yx e)
  | succ i=>exact ih i
section
open Builtin Builtin.ObjectAttr PySem.Calls Builtin.Getset_descriptor
variable {K:Frag}{x C p:Addr}{R:Result→Shared→Prop}
noncomputable def rX (i:Nat)(v:Value)(o:Obj):Obj:={ o with slots:=(o.slots++Array.replicate (i+1-o.slots.size) none).setIfInBounds i (some v) }
theorem y6 {ox:Obj}{od:Option Obj}{v:Value}{i:Nat}(X:K.In s.heap)(I:InstAt s.heap x ox C od)(hp:slotIn K p C=some i)(hi:i<1000)
  (h:R (.ok (.ret .none)) { s with heap:=s.heap.update x (rX i v) }):codeAny (model prog w) A (.call (.builtin "member_descriptor.__set__") ⟨[.ref p,.ref x,v],[]⟩) R s:=by
 refine Wy (fun n tn owner behind tb d sl cd ho hc hm hb e_1=>?_) (slot_of X hp);subst e_1;obtain ⟨hh,g,dr,t,os⟩:=s;have L0:=I.type (M:=model prog w);have L1:=looks_mroIn (M:=model prog w) X hm;have L2:Looks (model prog w) hh (Slots.slotNamesOf (.ref C)) cd.slotNames:=(looks_clsIn X hc).andThen .now;have hx:=I.at_;dsimp only at ho hx L0 L1;have f0:=looks_field (M:=model prog w) ho 0 (v:=.str n tn) rfl;have f1:=looks_field (M:=model prog w) ho 1 (v:=owner) rfl;have f3:=looks_field (M:=model prog w) ho 3 (v:=.builtin "proto.slot#set") rfl;have f4:=looks_field (M:=model prog w) ho 4 (v:=.int behind tb) rfl;have f5:Looks (model prog w) hh (descrItself (.ref p)) [.ref p]:=((Looks.ld (part:=none) ho).andThen .now).andThen (Looks.of_pure (by kernel_rfl));refine codeAny_call_builtin KF.slot_mset.plain KF.entry_mset (KF.slot_mset.check _ _ _ _ _ _ _ _ (aF _ ho rfl) (KF.args_mset _ _ _) ?_);unfold Builtin.«member_descriptor.__set__» descrSet descrStoreThrough descrCheckInstance descrNameAndClass isInstance
 repeat lk
 refine ⟨Code.quiet_builtin _ (by decide+kernel),codeAny_builtin KF.entry_slotset ?_⟩;unfold Builtin.«proto.slot#set» Slots.target
 repeat lk
 refine rv (Yz hb) ?_;refine YA (Yo ?_);unfold setSlotAt;dsimp only;refine rv (Yz (by rw [Yy];lia -abstractProof)) ?_;exact wpAny_updatePart hx (YA h)
end
theorem wF {n m:Nat}{C:Addr}{sl:List (Option D)}{fs:List (Str×D)}{a:Addr}{h:Heap}(H:Hp Ω.prog Ω.w μ B σ h)(ha:μ[n]? = some a)(hn:σ.o n=.inst C m sl)(hm:σ.o m=.attrs fs):
  ∃ dx vs od,μ[m]? = some dx∧h.get? a=some { cls:=.ref C,dict:=some dx,data:=.plain,slots:=vs.toArray }∧cL (Xa μ (μ++B)) h sl vs∧InstAt h a { cls:=.ref C,dict:=some dx,data:=.plain,slots:=vs.toArray } C (some od):=by
 refine gf (fun dx vs hd ho op=>?_) (lh H ha hn);refine cS (fun l' n' sR fl=>?_) (gQ H hd hm);exact ⟨dx,vs,_,hd,ho,op,ho,rfl,rfl,sR⟩
theorem ja {n m i:Nat}{C p a:Addr}{sl:List (Option D)}{fs:List (Str×D)}{name:Str}{d:D}{v:Value}{Q:Unit→Shared→Prop}{E:Value→Shared→Prop}(st:Ω.C.fB s.heap)(H:Hp Ω.prog Ω.w μ B σ s.heap)(ha:μ[n]? = some a)(hn:σ.o n=.inst C m sl)(hm:σ.o m=.attrs fs)(O:kU Ω.K C name p i)(r:W_ (Xa μ (μ++B)) s.heap d v)
  (h:∀ s',bd Ω.prog Ω.w (Xb A) [] B μ s μ (σ.put n (.inst C m (k7 sl i d))) s'→W_ (Xa μ (μ++B)) s'.heap d v→Q () s'):wpAny Ω.M A (setAttr (.ref a) name v) Q E s:=by
 refine fD (fun dx vs od hd hx op I=>?_) (wF H ha hn hm);have X:=Ω.m6 _ st;refine set_plain X I O.sa (osa_descr (s:={ s with toks:=s.toks+1 }) KF.slot_mset X I O.plain O.yW O.typ (y6 (s:={ s with toks:=s.toks+1 }) X I O.slot O.lt ?_));have kp:∀ b o,b≠a→s.heap.get? b=some o→(s.heap.update a (rX i v)).get? b=some o:=fun b o n e=>(Heap.get?_update_ne _ _ _ _ n).trans e;have mm:=YN ha;have D':(s.heap.update a (rX i v)).get? a=some { cls:=.ref C,dict:=some dx,data:=.plain,slots:=((vs++List.replicate (i+1-vs.length) none).set i (some v)).toArray }:=by
  refine (YZ _ hx rfl).trans ?_;simp only [rX,YT];congr 2;apply Array.ext';simp
 have Ix:cL (Xa μ (μ++B)) (s.heap.update a (rX i v)) (k7 sl i d) ((vs++List.replicate (i+1-vs.length) none).set i (some v)):=by
  have o1:=cL.set (d:=d) (v:=v) r i (op.app (cL.rep (i+1-sl.length)));rw [← op.len] at o1;exact cL.keeps (P:=Xa μ (μ++B)) (P':=Xa μ (μ++B)) (fun χ χ e=>e) (fun b o p e=>⟨p,kp b o (fun q=>p (q▸Yp _ mm)) e⟩) (by rw [op.len] at o1 ⊢;exact o1)
 exact h _ (bH (Nat.le_succ _) (x:=.inst C m (k7 sl i d)) (tk:=s.toks+1) H ha kp (lA dx _ hd D' Ix) ⟨_,D'⟩) (r.turnAt mm kp)
theorem Ed {o:PySem.Expr}{name:Str}{Lr:Pos}{d:D}{k:aO→Sg→Prop}
  (h:EV Ω l N ρ σ o fun ov=>∃ n C m sl fs p i,ov=.loc n∧σ.o n=.inst C m sl∧σ.o m=.attrs fs∧kU Ω.K C name p i∧k ρ (σ.put n (.inst C m (k7 sl i d)))):AS Ω l N ρ σ (.Attribute o name Lr) d k:=fun A B μ env s v R F r Q E kk=>by
 refine rv (arm_assign_Attribute _ _ _ _ _) ?_;refine Yo (YV ((h A B μ env s R F.toFx).go fun ov s₁ ai cD hq b6=>?_));revert hq;refine Wz fun n C m sl fs p i e_4 hn hm O hk=>?_;subst e_4;have av:=F.grown ai;refine az (fun a e_5 ha=>?_) (eR b6);subst e_5;refine Yo (wpAny_standAt (Yo (YV (ja av.stays av.hp ha hn hm O (r.ext ai.ext) fun ag x cU=>?_))));exact wpAny_release (kk μ _ _ ρ ((bd.aG F.hp ai).bt x).wide (av.c5 x) cU hk)
noncomputable def vy (Ω:U)(σ:Sg)(n:Nat)(name:Str)(e:D):Prop:=∀ (A:Around) (B μ:List Addr) (s:Shared) (a:Addr) (Q:Value→Shared→Prop) (E:Value→Shared→Prop),Ω.C.fB s.heap→Hp Ω.prog Ω.w μ B σ s.heap→μ[n]? = some a→
 (∀ v,W_ (Xa μ (μ++B)) s.heap e v→Q v { s with toks:=s.toks+1 })→wpAny Ω.M A (getAttr (.ref a) name true) Q E s
noncomputable def Bj (Ω:U)(σ:Sg)(n:Nat)(name:Str)(d:D)(σ':Sg):Prop:=∀ (A:Around) (B μ:List Addr) (s:Shared) (a:Addr) (v:Value) (Q:Unit→Shared→Prop) (E:Value→Shared→Prop),Ω.C.fB s.heap→Hp Ω.prog Ω.w μ B σ s.heap→μ[n]? = some a→W_ (Xa μ (μ++B)) s.heap d v→
 (∀ s',bd Ω.prog Ω.w (Xb A) [] B μ s μ σ' s'→W_ (Xa μ (μ++B)) s'.heap d v→Q () s')→wpAny Ω.M A (setAttr (.ref a) name v) Q E s
theorem sX {n m:Nat}{C:Addr}{sl:List (Option D)}{fs:List (Str×D)}{name:Str}{e:D}(hn:σ.o n=.inst C m sl)(hm:σ.o m=.attrs fs)(O:jM Ω.K C name)(he:lk name fs=some e):vy Ω σ n name e:=fun A B μ s a Q E st H ha kk=>by
 refine gf (fun dx vs hd ho χ=>?_) (lh H ha hn);refine cS (fun l' n' sR fl=>?_) (gQ H hd hm);refine db (fun en q1 q2 q3=>?_) (fl.find he);refine az (fun cd hc hcd=>?_) O.cls;have hl:lookIn name { cls:=.type "dict",data:=.dict l'.toArray n' }=some (some en.val):=by
  unfold lookIn;dsimp only;exact rv q1 rfl
 have hf:findObj Ω.K C (some { cls:=.type "dict",data:=.dict l'.toArray n' }) name=some (.value en.val):=by
  unfold findObj;refine rv hc (rv O.miss ?_);simp only [Option.bind_some];unfold PySem.W.ownOf;simp only [hcd,if_true,hl];rfl
 exact get_value (Ω.m6 _ st) ⟨ho,rfl,rfl,sR⟩ O.ga hf q3 (kk _ q2)
theorem kA {n m p i:Nat}{C:Addr}{sl:List (Option D)}{fs:List (Str×D)}{name:Str}{e:D}(hn:σ.o n=.inst C m sl)(hm:σ.o m=.attrs fs)(O:kU Ω.K C name p i)(he:sl[i]? = some (some e))(ho:XH e=true):vy Ω σ n name e:=fun A B μ s a Q E st H ha kk=>by
 refine fD (fun dx vs od hd hx op I=>?_) (wF H ha hn hm);refine az (fun u hu ru=>?_) (op.at i he);have hv:(vs.toArray[i]?).join=some u:=by refine rv (List.getElem?_toArray) (rv hu ?_);rfl
 have X:=Ω.m6 _ st;exact get_bind X I O.ga (findObj_data O.cls O.Wt O.get O.takes) O.hook (wpAny_call (slot_get (s:={ s with toks:=s.toks+1 }) X I O.slot hv (handed_on (pW ho ru) (kk _ ru))))
theorem rY {n m:Nat}{C:Addr}{sl:List (Option D)}{fs:List (Str×D)}{name:Str}{d:D}(hn:σ.o n=.inst C m sl)(hm:σ.o m=.attrs fs)(O:eH Ω.K C name)(hz:fs.length<1000)(ho:XH d=true):Bj Ω σ n name d (σ.put m (.attrs (bE name d fs))):=fun A B μ s a v Q E st H ha r kk=>by
 refine gf (fun dx vs hd hx χ=>?_) (lh H ha hn);refine cS (fun l' n' sR fl=>?_) (gQ H hd hm);have Dh:=pW ho r;have pl:=(fl.put (name:=name) (hsh:=PyData.keyHash Ω.w.params name) (t:=s.toks+1) r Dh);refine k8 (Ω.m6 _ st) hx sR O fl.noRef (by refine rv pl.len ?_;have:=dO name d fs;lia -abstractProof) ?_;have kp:∀ b o,b≠dx→s.heap.get? b=some o→(s.heap.update dx (Obj.putName name (PyData.keyHash Ω.w.params name) (.str name (s.toks+1)) v)).get? b=some o:=fun b o n e=>(Heap.get?_update_ne _ _ _ _ n).trans e;have D':(s.heap.update dx (Obj.putName name (PyData.keyHash Ω.w.params name) (.str name (s.toks+1)) v)).get? dx=some (dictOf (putL name (PyData.keyHash Ω.w.params name) (.str name (s.toks+1)) v l') (putN name l' n')):=by
  refine rv (putName_dict _ _ _ _ _ _).symm ?_;exact YZ _ sR (by refine rv (putName_dict _ _ _ _ _ _) ?_;rfl)
 have mm:=YN hd;have Lu:dY (Xa μ (μ++B)) (s.heap.update dx (Obj.putName name (PyData.keyHash Ω.w.params name) (.str name (s.toks+1)) v)) (bE name d fs) (putL name (PyData.keyHash Ω.w.params name) (.str name (s.toks+1)) v l'):=
  dY.keeps (P:=Xa μ (μ++B)) (P':=Xa μ (μ++B)) (fun χ χ e=>e) (fun b o p e=>⟨p,kp b o (fun q=>p (q▸Yp _ mm)) e⟩) pl
 exact kk _ (bH (Nat.le_add_right _ _) (x:=.attrs (bE name d fs)) (tk:=s.toks+2) H hd kp (gY _ _ D' Lu) ⟨_,D'⟩) (r.turnAt mm kp)
theorem xq {n m p i:Nat}{C:Addr}{sl:List (Option D)}{fs:List (Str×D)}{name:Str}{d:D}(hn:σ.o n=.inst C m sl)(hm:σ.o m=.attrs fs)(O:kU Ω.K C name p i):Bj Ω σ n name d (σ.put n (.inst C m (k7 sl i d))):=fun A B μ s a v Q E st H ha r kk=>
 ja st H ha hn hm O r kk
inductive WY (Ω:U)(σ:Sg)(name:Str)(k:D→Prop)(n:Nat):Prop where
 | mk (e:D)(G:vy Ω σ n name e)(hk:k e)
inductive WX (Ω:U)(ρ:aO)(σ:Sg)(name:Str)(d:D)(k:aO→Sg→Prop)(n:Nat):Prop where
 | mk (σ':Sg)(S:Bj Ω σ n name d σ')(hk:k ρ σ')
inductive M_ (Ω:U)(ρ:aO)(σ:Sg)(name:Str)(op:Operator)(x:Int)(n:Nat)(k:Fl→aO→Sg→Prop)(y:Int):Prop where
 | mk (σ':Sg)(S:Bj Ω σ n name (.int (if op=.Add then x+y else x-y)) σ')(hk:k .next ρ σ')
inductive Na (Ω:U)(l:Lv)(N:ay)(ρ:aO)(σ:Sg)(name:Str)(op:Operator)(value:PySem.Expr)(k:Fl→aO→Sg→Prop)(n:Nat):Prop where
 | mk (x:Int)(G:vy Ω σ n name (.int x))(h:EV Ω l N ρ σ value (vx (M_ Ω ρ σ name op x n k)))
theorem n5 {o:PySem.Expr}{name:Str}{pos:Pos}{k:D→Prop}(hb:bu o=true)(h:EV Ω l N ρ σ o (eL (WY Ω σ name k))):EV Ω l N ρ σ (.Attribute o name pos) k:=fun A B μ env s R F Q E kk=>by
 refine Attribute_any_ ((h A B μ env s R F).dM fun n a s₁ ai ha hq=>?_) (rv (arm_eval_Attribute _ _ _ _) (rv (bJ hb) rfl));obtain ⟨e,G,hk⟩:=hq;have av:=F.grown ai;exact G A B μ s₁ a _ _ av.stays av.hp ha fun v r=>kk _ _ (ai.trans (.tok ..)) ⟨_,hk,r⟩
theorem E2 {o:PySem.Expr}{name:Str}{p:Pos}{d:D}{k:aO→Sg→Prop}(h:EV Ω l N ρ σ o (eL (WX Ω ρ σ name d k))):AS Ω l N ρ σ (.Attribute o name p) d k:=fun A B μ env s v R F r Q E kk=>by
 refine rv (arm_assign_Attribute _ _ _ _ _) ?_;refine Yo (YV ((h A B μ env s R F.toFx).dM fun n a s₁ ai ha hq=>?_));obtain ⟨σ',S,hk⟩:=hq;have av:=F.grown ai;refine Yo (wpAny_standAt (Yo (YV (S _ B μ s₁ a v _ _ av.stays av.hp ha (r.ext ai.ext) fun ag x cU=>?_))));exact wpAny_release (kk μ _ _ ρ ((bd.aG F.hp ai).bt x).wide (av.c5 x) cU hk)
theorem l4 {o value:PySem.Expr}{name:Str}{Ld pos:Pos}{op:Operator}{k:Fl→aO→Sg→Prop}(Dc:op=.Add∨op=.Sub)
  (h:EV Ω l N ρ σ o (eL (Na Ω l N ρ σ name op value k))):ES Ω l N ρ σ (.AugAssign (.Attribute o name Ld) op value pos) k:=fun A B μ env s R F Q E kk=>by
 refine wpAny_AugAssign_AttributeAny ((h A B μ env s R F.toFx).dM fun n a s₁ ai ha hq=>?_);obtain ⟨x,G,hv⟩:=hq;have av:=F.grown ai;refine G A B μ s₁ a _ _ av.stays av.hp ha fun old ro=>?_;have ar:aH s { s₁ with toks:=s₁.toks+1 }:=ai.trans (.tok ..);refine (hv A B μ env _ R (F.grown ar).toFx).sU fun y ty aE aU hq=>?_;obtain ⟨σ',S,hk⟩:=hq;obtain ⟨tx,rfl⟩:=ro.inv;have c4:=ar.trans aU;have fin:∀ z:Int,(if op=.Add then x+y else x-y)=z→∀ t,wpAny Ω.M A (setAttr (.ref a) name (.int z t)) (fun χ=>Q .next) E { aE with toks:=aE.toks+1 }:=fun z hz t=>by
  rw [hz] at S;have Dl:aH s { aE with toks:=aE.toks+1 }:=c4.trans (.tok ..);have Hi:=F.grown Dl;refine S A B μ _ a _ _ _ Hi.stays Hi.hp ha (.int z t) fun UZ x U1=>?_;exact kk .next _ _ _ (bd.then F (.aG F.hp Dl) x.wide) ⟨.next,ρ,hk,Hi.c5 x,.next⟩
 rcases Dc with rfl | rfl
 ·exact PySem.P.iadd_int (fin _ (YH rfl) _)
 ·exact PySem.P.isub_int (fin _ (Yz (by simp)) _)
theorem tX {x:Str}{px p1 p2 p3 pos:Pos}{m:Nat}{e:PySem.Expr}{a b:List Stmt}{k:Fl→aO→Sg→Prop}(hx:bS N x=true)(h:EF Ω l N ρ σ e fun d σ'=>D0 (iu d) (EX Ω l N ((x,d)::ρ) σ' a k) (EX Ω l N ((x,d)::ρ) σ' b k)):
  ES Ω l N ρ σ (.If (.Compare (.NamedExpr (.Name x px) e p1) [.Is] [.Constant .none m p2] p3) a b pos) k:=fun A B μ env s R F Q E kk=>by
 refine wpAny_If (wpAny_isTrue_Compare1 (wpAny_NamedExpr ((h A B μ env s R F).go fun v aW aq s₁ y d hq r=>?_)) rfl);obtain ⟨hA,hB⟩:=hq;refine assign_Name (eM (F.c5 y) (cg hx) r fun ag z aI cU=>?_);refine wpAny_Constant_none ?_;refine is_none_gen ?_;refine rv (mB cU) ?_;refine wpAny_truthy_bool ?_;have X:=bd.then F y.wide z;cases q:iu d with
 | true=>exact (hA q A B aW env ag R aI).use fun f ch aQ aE w hh=>kk f _ _ _ (bd.then F X w) hh
 | false=>exact (hB q A B aW env ag R aI).use fun f ch aQ aE w hh=>kk f _ _ _ (bd.then F X w) hh
theorem G9 (P:Params)(a b:Value)(r:List Value):bindArgs (nu P).1 ⟨a::b::r,[]⟩=(newTuple r >>= fun t=>pure [(("self":Str),a),(("node":Str),b),(("predecessors":Str),t)]):=by
 cases r with
 | nil=>rfl
 | cons x r=>rfl
theorem DI (P:Params)(a:Value)(r:List Value):bindArgs (jx P).1 ⟨a::r,[]⟩=(newTuple r >>= fun t=>pure [(("self":Str),a),(("nodes":Str),t)]):=by
 cases r with
 | nil=>rfl
 | cons x r=>rfl
theorem au.split {P:Pl}{h:Heap}{ds es:List D}{vs:List Value}(r:au P h (ds++es) vs):∃ us ws,vs=us++ws∧au P h ds us∧au P h es ws:=by
 induction ds generalizing vs with
 | nil=>exact lA [] vs rfl .nil r
 | cons d ds i=>
  cases r with
  | cons _ v _ vs x r=>refine gf (fun us ws e r1 r2=>?_) (i r);exact lA (v::us) ws (congrArg (List.cons v) e) (.cons d v _ _ x r1) r2
theorem Xe.zI {fd:FuncData}{ds es:List D}{xs:List Str}{x:Str}(hl:ds.length=xs.length)(hz:es.length≤sizeLine)(hb:∀ us ws:List Value,us.length=xs.length→bindArgs fd ⟨us++ws,[]⟩=(newTuple ws >>= fun t=>pure (xs.zip us++[(x,t)]))):
  Xe Ω fd (ds++es) [] (xs.zip ds++[(x,.tup es)]):=fun A P s vs aV st L rs rk Q E kk=>by
 cases rk;refine gf (fun us ws e_1 r1 r2=>?_) (au.split rs);subst e_1;show wpAny _ _ (bindArgs fd ⟨us++ws,[]⟩) _ _ _;refine rv (hb us ws (r1.length.trans hl)) ?_;refine Yo (wpAny_newObj_type (YA ?_) (by show ws.toArray.size≤sizeLine;exact rv YT (rv r2.length hz)));refine kk _ _ (.heap (.push _ _)) (c_.app ((BJ r1 hl).ext (.push _ _)) (.cons _ _ _ _ _ (.tup es _ ws 0 L.size (Yw _ rfl) (r2.ext (.push _ _))) .nil))
theorem Em {v:Value}{d:D}{xs:List D}{Q:List Value→Shared→Prop}{E:Value→Shared→Prop}(r:W_ P s.heap d v)(hd:d=.list xs∨d=.tup xs)(hz:xs.length≤sizeLine)
  (h:∀ h' vs,Xi s.heap h'→au P s.heap xs vs→Q vs { s with heap:=h' }):StarOf Ω.M A E v Q s:=by
 unfold StarOf notIterableAtAll;rcases hd with rfl | rfl
 ·refine fD (fun a us n e_2 pa o rs=>?_) (Xg r);subst e_2;have hT:s.TypeIs (.ref a) "list":=(aF _ o rfl);refine Yo (wpAny_specialOf hT PySem.F.slot_list_iter.lookup (YA ⟨rfl,?_⟩));exact wpAny_collect_seq a (.inl rfl) o rfl rfl (fun h' hk=>h h' us hk rs) (rv YT (rv rs.length hz))
 ·refine fD (fun a us n e_3 pa o rs=>?_) (oM r);subst e_3;have hT:s.TypeIs (.ref a) "tuple":=(aF _ o rfl);refine Yo (wpAny_specialOf hT PySem.F.slot_tuple_iter.lookup (YA ⟨rfl,?_⟩));exact wpAny_collect_seq a (.inr rfl) o rfl rfl (fun h' hk=>h h' us hk rs) (rv YT (rv rs.length hz))
section
open PySem.Sem (wp)
theorem iA:Slot "list_iterator" "__getattribute__" "object.__getattribute__":=
 .of (owner:="object") (n:="__getattribute__") (by refine rv (typeLookup_type _ _) (rv builtinLookup_eq_fast ?_);kernel_rfl) (by decide+kernel) (by decide+kernel) (by decide+kernel)
  (by first | exact .inl (by decide+kernel) | exact .inr (by decide+kernel)) (by refine rv (isSubtype_type _ _) ?_;kernel_rfl)
theorem pH:typeOf (.builtin "list_iterator.__next__")=pure (.type "wrapper_descriptor"):=by kernel_rfl
theorem Fd:isSubtype (.type "list_iterator") (.type "list_iterator")=pure true:=by refine rv (isSubtype_type _ _) ?_;kernel_rfl
theorem lD {a:Addr}{o:Obj}(hx:s.heap.get? a=some o)(hc:o.cls=.type "list_iterator")(hd:o.dict=none)(hn:∀ c,o.data≠.cls c)
  (h:∀ tk,Q (.ref s.heap.objs.size) { s with heap:=s.heap.push { cls:=.type "method-wrapper",data:=.fields #[.builtin "list_iterator.__next__",.ref a] },toks:=tk }):wpAny (model prog w) A (getAttr (.ref a) "__next__" true) Q E s:=by
 obtain ⟨hp,g,d,tk,os⟩:=s;obtain ⟨c,dc,dt,sl⟩:=o;simp only at hc hd hn;subst hc hd;have hT:∀ H6,(⟨hp,g,d,H6,os⟩:Shared).TypeIs (.ref a) "list_iterator":=fun χ=>(aF _ hx rfl);have f3:=iA.lookup;have f4:=iA.bind (.ref a);unfold getAttr getAttrBy
 repeat (any_goals (first | assumption | exact hT _ | ((with_reducible show wpAny _ _ (call (Value.builtin "object.__getattribute__") _ _) _ _ _);refine call_meets iA (hT _) PySem.F.entry_object_getattribute (PySem.F.args_object_getattribute_2 _ _) (S:=fun A R s=>s.heap.get? a=some ⟨.type "list_iterator",none,dt,sl⟩∧R (.ok (.ret (.ref s.heap.objs.size))) { s with heap:=s.heap.push { cls:=.type "method-wrapper",data:=.fields #[.builtin "list_iterator.__next__",.ref a] } }) (.of_wp fun prog w A R s hs=>ig hs.1 rfl rfl hn slot_listiter_next.lookup pH (by decide+kernel) (by decide+kernel) Fd hs.2) ⟨hx,?_⟩) | wp_step))
 exact YA (h _)
theorem t5 {f:Str}{p gg pos:Pos}{arg:PySem.Expr}{k:D→Sg→Prop}(hg:lk f N=some .globalImplicit)(e:(Ω.C.mg f).or (Ω.C.mb f)=some (.builtin "iter"))(hn:Xc [arg]=true)(hd:sEq f "__debug__"=false)
  (h:EV Ω l N ρ σ arg fun d=>∃ n xs,d=.loc n∧σ.o n=.list xs∧k (.jK (.loc σ.n) "list_iterator.__next__") (σ.add (.iter n 0))):EF Ω l N ρ σ (.Attribute (.Call (.Name f p) [arg] [] gg) "__next__" pos) k:=fun A B μ env s R F Q E kk=>by
 refine Attribute_any_ ?_ (rv (arm_eval_Attribute _ _ _ _) (rv (bJ rfl) rfl));refine Call_Name rfl ((aT (k:=fun d=>d=.val (.builtin "iter")) hg e (.val _ rfl) rfl hd A B μ env s R.toRm F.toFx).go fun v s₁ ai d hq r=>?_);obtain rfl:=hq;refine W_.cR r ?_;have hp:=aK (env:=env) gg hn;refine Calls.callWith_builtin hp (bw hp ((ae (k:=fun ds=>∃ n xs,ds=[.loc n]∧σ.o n=.list xs∧k (.jK (.loc σ.n) "list_iterator.__next__") (σ.add (.iter n 0))) hn (h.mono fun d hd=>ak (by revert hd;refine cS fun n xs e_1 r=>?_;subst e_1;exact (gY n xs rfl r))) A B μ env s₁ gg R.toRm (F.toFx.grown ai)).go fun vs ag ar ds hq rs=>?_));revert hq;refine gf fun n xs e_2 hx hk=>?_;subst e_2;refine az (fun v e_3 r=>?_) rs.one;subst e_3;have aI:=F.grown (ai.trans ar);refine az (fun a e_4 ha=>?_) (eR r);subst e_4;refine cS (fun us m o rr=>?_) (jm aI.hp ha hx);refine PySem.Calls.call_function_entry (by decide+kernel) (by decide+kernel) kdk_entry_iter (kdk_args_iter _) ?_;unfold Builtin.«iter»;refine Yo (m:=someArgs "iter" 1 2 _) (wpAny_of_eq (a:=[Value.ref a]) (by first | rfl | kernel_rfl!) ?_);show wpAny _ _ (pyIter (.ref a) >>= _) _ _ _;refine Yo (wpAny_pyIter_list (a_ o) ?_);refine YA (aF _ rfl ?_);have nn:=a9 ag.heap;have x:bd Ω.prog Ω.w (Xb A) [] B μ ag (μ++[ag.heap.objs.size]) (σ.add (.iter n 0)) { ag with heap:=ag.heap.push { cls:=.type "list_iterator",data:=.fields #[.ref a,.int 0 0] } }:=
  dP (YE _) (x:=.iter n 0) (tk:=ag.toks) aI.hp nn (Xi.push _ _) (aF a (by show (μ++[_])[n]? = _;refine rv (List.getElem?_append_left (YD.mp ha).1) ?_;exact ha) (eQ _ (Yw _ rfl) rfl rfl)) ⟨_,Yw _ rfl⟩
 have dX:=aI.c5 x;have rI:W_ (Xa (μ++[ag.heap.objs.size]) (μ++[ag.heap.objs.size]++B)) (ag.heap.push { cls:=.type "list_iterator",data:=.fields #[.ref a,.int 0 0] }) (.loc σ.n) (.ref ag.heap.objs.size):=.loc _ _ (j_ aI.hp _);refine d9 (lD (Yw _ rfl) rfl rfl (fun χ q=>nomatch q) fun tk lt=>?_);have aU:aH { ag with heap:=ag.heap.push { cls:=.type "list_iterator",data:=.fields #[.ref a,.int 0 0] } } { ag with heap:=(ag.heap.push { cls:=.type "list_iterator",data:=.fields #[.ref a,.int 0 0] }).push { cls:=.type "method-wrapper",data:=.fields #[.builtin "list_iterator.__next__",.ref ag.heap.objs.size] },toks:=tk }:=(lA _ tk rfl (.push _ _) lt);exact kk _ _ _ _ (((bd.aG F.hp (ai.trans ar)).bt x).bt (.aG dX.hp aU)) ⟨_,hk,rm (n:=0) (a:=0) dX.lets (.inr rfl) rI⟩
structure HO (X F:List Addr)(h h':Heap):Prop where
 exact:∀ b o,b∉F→b∉X→h.get? b=some o→h'.get? b=some o
 bP:∀ b o,b∉X→h.get? b=some o→∃ o',h'.get? b=some o'∧SlotsOnly o o'
inductive e9 (h:Heap)(e:Addr)(cls a0:Value)(X:List Addr):Prop where
 | one (oe:Obj)(vs:Array Value)(he:h.get? e=some oe)(hc:oe.cls=cls)(hd:oe.data=.fields vs)(h0:vs[0]? = some a0)(h1:vs[1]? = some .none)(q:X=[e])
 | two (oe:Obj)(vs:Array Value)(he:h.get? e=some oe)(hc:oe.cls=cls)(hd:oe.data=.fields vs)(h0:vs[0]? = some a0)(T:Addr)(oT:Obj)(ts:Array Value)(h1:vs[1]? = some (.ref T))(AI:T≠e)(hT:h.get? T=some oT)(BG:oT.data=.fields ts)(h3:ts[3]? = some .none)(q:X=[e,T])
noncomputable def hZ (h:Heap)(e:Env):Prop:=e.scope.kind=.function∧e.frame=some e.locals∧∃ o,h.get? e.locals=some o
theorem zl:∀ {l:List Env} {s:Shared} {Q:Unit→Shared→Prop},(∀ e∈l,hZ s.heap e)→(∀ h',Heap.SlotsOnly (l.map (fun x=>x.locals)) s.heap h'→Q () { s with heap:=h' })→wpAny M A (readyFrames l) Q E s:=by
 intro l
 induction l with
 | nil=>
  intro s Q χ h;simp only [readyFrames];exact YA (h _ (.refl ..))
 | cons env Xb ih=>
  intro s Q hl h;refine e8 (fun hk hf z_1=>?_) (hl env Yu);obtain ⟨o,ho⟩:=z_1;simp only [readyFrames,hf];refine Yo (wpAny_load ho ?_)
  by_cases hrd:((o.slots.getD 3 none).isSome)=true
  ·exact rv (YH hrd) (YA (h _ (.refl ..)))
  ·refine rv (Yz hrd) ?_;refine Yo (wpAny_of_eq (a:=false) (by simp [behindIsImport,hk]) ?_);refine Yo (wpAny_keptBack_false fun back=>?_);refine Yo (wpAny_update ho ?_);have hu:=Heap.SlotsOnly.update ho fun o=>#[some env.code,some (.ref env.globals),o.slots.getD 2 none,some back,o.slots.getD 4 none,env.func.map Value.ref,some (.ref env.builtins)]
    ++(env.cells.map fun c=>some (.ref c.2)).toArray
   refine ih (fun e he=>?_) fun h' eK=>?_
   ·refine e8 (fun kr V2 z_2=>?_) (hl e (Yv _ he));obtain ⟨o',Mf⟩:=z_2;obtain ⟨sl,hs⟩:=hu.2.2 _ _ Mf;exact ⟨kr,V2,_,hs⟩
   ·exact h h' ((hu.mono fun b hb=>YC.mpr (Or.inl (Yq.mp hb))).trans (eK.mono fun b hb=>Yv _ hb))
theorem u3 {env:Env}{fs:List Env}{Q:Value→Shared→Prop}(uW:A.frames=some (env::fs))(hl:∀ e∈env::fs,hZ s.heap e)
  (h:∀ h',Heap.SlotsOnly ((env::fs).map (fun x=>x.locals)) s.heap h'→Q (.ref env.locals) { s with heap:=h' }):wpAny M A (PySem.frameOf env) Q E s:=by
 unfold PySem.frameOf;refine Yo (wpAny_frameEnvs uW ?_);have V5:((env::fs).dropWhile fun x=>x.frame != env.frame)=env::fs:=by simp [List.dropWhile]
 refine rv V5 ?_;unfold frameObject;refine Yo (Yo (zl hl fun aP pi=>YA ?_));refine rv ((hl env Yu).2.1) ?_;exact YA (h aP pi)
theorem ta {env:Env}{fs:List Env}{e:Addr}{oe:Obj}{vs:Array Value}{head a0:Value}{Dj:Bool}{Q:Unit→Shared→Prop}
  (uW:A.frames=some (env::fs)) (hl:∀ e∈env::fs,hZ s.heap e) (V3:e∉(env::fs).map (fun x=>x.locals))
  (he:s.heap.get? e=some oe) (hd:oe.data=.fields vs) (hsz:1<vs.size) (h0:vs[0]? = some a0)
  (h:∀ h' T,s.heap.get? T=none→e9 h' e oe.cls a0 [e,T]→HO [e] ((env::fs).map (fun x=>x.locals)) s.heap h'→Q () { s with heap:=h' }):
  wpAny M A (do let a ← PySem.frameOf env;let pl ← entryPlaceOf env.locals Dj;let b ← EntryCells.newEntry head a .none (rawInt env.locals) .none pl;setField (.ref e) 1 b) (fun χ s'=>wpAny M A (setFlight (.ref e) none) Q E s') E s:=by
 refine Yo (u3 uW hl fun aP pi=>?_);refine Yo (wpAny_entryPlaceOf fun pl g0=>?_);unfold EntryCells.newEntry newFields;refine Yo (wpAny_newObj_type ?_ (g0.sizeOk5 _ _ _ _ _));have EE:aP.get? e=some oe:=(pi.2.1 e V3).trans he;generalize HC:({ cls:=.type "traceback",dict:=none,data:=.fields ([head,.ref env.locals,.none,rawInt env.locals,.none]++(if pl.isEmpty then List.replicate 6 Value.none else pl)).toArray }:Obj)=ob;have LC:ob.data=.fields ([head,.ref env.locals,.none,rawInt env.locals,.none]++(if pl.isEmpty then List.replicate 6 Value.none else pl)).toArray:=rv HC.symm rfl;have iw:=YB (h:=aP) ob EE;show wpAny M A (setField (.ref e) 1 (.ref aP.objs.size)) _ _ { s with heap:=aP.push ob };refine wpAny_setField iw hd hsz ?_;have AI:aP.objs.size≠e:=Nat.ne_of_gt (Heap.lt_size EE);have AC:=Obj.data_mapFields hd (·.setIfInBounds 1 (Value.ref aP.objs.size));have ED:=YZ (Obj.mapFields (·.setIfInBounds 1 (Value.ref aP.objs.size))) iw (Obj.isFreed_of_fields AC);have EI:=(Y4 (aP.push ob) (Obj.mapFields (·.setIfInBounds 1 (Value.ref aP.objs.size))) (Ne.symm AI)).trans (Yw aP (by refine rv HC.symm ?_;rfl));unfold setFlight;refine Yo (wpAny_field ED AC (x:=.ref aP.objs.size) (by simp [hsz]) ?_);refine rv (YH (show (Value.ref aP.objs.size != Value.none)=true from by simp)) ?_;refine wpAny_setField EI LC (by simp only [YT,List.length_append,List.length_cons,List.length_nil]<;>lia -abstractProof) (h _ aP.objs.size ?_ ?_ ?_)
 ·cases q:s.heap.get? aP.objs.size with
  | none=>rfl
  | some o=>obtain ⟨sl,hs⟩:=pi.2.2 _ _ q;exact absurd (Heap.lt_size hs) (Nat.lt_irrefl _)
 ·refine .two _ _ ((Y4 _ _ AI).trans ED) (Obj.cls_mapFields _ _) AC ((Array.getElem?_setIfInBounds_ne (by decide)).trans h0) aP.objs.size _ _ (by simp [hsz]) AI (YZ _ EI (Obj.isFreed_of_fields (Obj.data_mapFields LC _))) (Obj.data_mapFields LC _) ?_ rfl
  first | (simp;done) | (rcases g0 with rfl | ⟨_,_,_,_,_,_,_,rfl⟩<;>simp)
 ·have keep:∀ b o,b≠e→aP.get? b=some o→(((aP.push ob).update e (Obj.mapFields (·.setIfInBounds 1 (Value.ref aP.objs.size)))).update aP.objs.size
    (Obj.mapFields (·.setIfInBounds 3 ((none:Option Addr).elim Value.none fun f=>rawInt f)))).get? b=some o:=fun b o Wb hb=>by
   have Wc:aP.objs.size≠b:=Nat.ne_of_gt (Heap.lt_size hb);refine rv (Y4 _ _ Wc) (rv (Y4 _ _ (Ne.symm Wb)) ?_);exact YB _ hb
  refine ⟨fun b o hF hX hb=>keep b o (fun q=>hX (rv q Yu)) ((pi.2.1 b hF).trans hb),fun b o hX hb=>?_⟩;obtain ⟨sl,hs⟩:=pi.2.2 b o hb;exact BD _ (keep b _ (fun q=>hX (rv q Yu)) hs) rfl rfl rfl
theorem sG {env:Env}{fs:List Env}{e:Addr}{cls a0:Value}{X:List Addr}{Q:Unit→Shared→Prop}
  (uW:A.frames=some (env::fs)) (hl:∀ e∈env::fs,hZ s.heap e) (hX:∀ b∈X,b∉(env::fs).map (fun x=>x.locals)) (hf:e9 s.heap e cls a0 X)
  (h:∀ h' X',(∃ T,X'=[e,T])→e9 h' e cls a0 X'→(∀ b∈X',b∈X∨s.heap.get? b=none)→HO X ((env::fs).map (fun x=>x.locals)) s.heap h'→Q () { s with heap:=h' }):
  wpAny M A (noteFrame (.ref e) env) (fun χ s'=>wpAny M A (setFlight (.ref e) none) Q E s') E s:=by
 have VZ:=(hl env Yu).2.1;unfold noteFrame;simp only [VZ];rcases hf with ⟨oe,vs,he,hc,hd,h0,h1,q⟩ | ⟨oe,vs,he,hc,hd,h0,T,oT,ts,h1,AI,hT,BG,h3,q⟩
 ·have HE:e∈X:=q▸Yu;refine Yo (wpAny_field he hd h1 ?_);refine rv (Yz (by decide)) ?_;exact ta uW hl (hX e HE) he hd (Array.getElem?_eq_some_iff.mp h1).1 h0 fun h' T hT fl tc=>h h' _ ⟨T,rfl⟩ (hc▸fl) (fun b hb=>(YC.mp hb).elim (fun w=>.inl (w▸HE)) fun hb=>.inr ((Yq.mp hb).symm▸hT)) (q▸tc)
 ·have HE:e∈X:=q▸Yu;have KE:T∈X:=q▸Yv _ Yu;have OM:∀ {b},b∉X→b∉[e]:=fun n m=>n ((Yq.mp m).symm▸HE);clear q;refine Yo (wpAny_field he hd h1 ?_);refine rv (YH (show (Value.ref T != Value.none)=true from by simp)) ?_;refine Yo (wpAny_field hT BG h3 ?_);refine rv (Yz (show ¬ ((Value.none==rawInt env.locals)=true) from by simp [rawInt])) ?_;refine Yo (wpAny_setField hT BG (Array.getElem?_eq_some_iff.mp h3).1 ?_);have other:∀ b,b≠T→(s.heap.update T (Obj.mapFields (·.setIfInBounds 3 Value.none))).get? b=s.heap.get? b:=fun b hb=>Y4 _ _ (Ne.symm hb);have nF:∀ e'∈env::fs,e'.locals≠T:=fun e' oy q=>hX T KE (Yt.mpr (aF e' oy q));refine ta uW (fun e' oy=>?_) (hX e HE) ((other e (Ne.symm AI)).trans he) hd (Array.getElem?_eq_some_iff.mp h1).1 h0 fun h' T' Wh fl tc=>h h' _ ⟨T',rfl⟩ (hc▸fl) (fun b hb=>(YC.mp hb).elim (fun w=>.inl (w▸HE)) fun hb=>?_) ⟨fun b o hF Jy hb=>tc.exact b o hF (OM Jy) ((other b fun q=>Jy (q▸KE)).trans hb),fun b o Jy hb=>tc.bP b o (OM Jy) ((other b fun q=>Jy (q▸KE)).trans hb)⟩
  ·refine e8 (fun k1 k2 z_4=>?_) (hl e' oy);obtain ⟨o,k3⟩:=z_4;exact ⟨k1,k2,o,(other _ (nF e' oy)).trans k3⟩
  ·refine rv (Yq.mp hb) ?_
   by_cases q:T'=T
   ·exact .inl (q▸KE)
   ·exact .inr ((other T' q).symm.trans Wh)
theorem Dx {e:Addr}{cls a0:Value}{X:List Addr}{Q:Unit→Shared→Prop}(hf:e9 s.heap e cls a0 X)(hn:∃ T,X=[e,T])
  (h:∀ h',e9 h' e cls a0 X→HO X [] s.heap h'→Q () { s with heap:=h' }):wpAny M A (setFlight (.ref e) none) Q E s:=by
 rcases hf with ⟨oe,vs,he,hc,hd,h0,h1,q'⟩ | ⟨oe,vs,he,hc,hd,h0,T,oT,ts,h1,AI,hT,BG,h3,q'⟩
 ·obtain ⟨T,q⟩:=hn;exact nomatch q'.symm.trans q
 ·unfold setFlight;refine Yo (wpAny_field he hd h1 ?_);refine rv (YH (show (Value.ref T != Value.none)=true from by simp)) ?_;refine wpAny_setField hT BG (Array.getElem?_eq_some_iff.mp h3).1 ?_;have e':=Heap.update_setField_same s.heap T oT ts 3 .none hT BG h3;refine h _ ?_ ?_
  ·show e9 (s.heap.update T (Obj.mapFields (·.setIfInBounds 3 .none))) _ _ _ _;refine rv e' ?_;exact .two oe vs he hc hd h0 T oT ts h1 AI hT BG h3 q'
  ·show HO _ _ _ (s.heap.update T (Obj.mapFields (·.setIfInBounds 3 .none)));refine rv e' ?_;exact ⟨fun χ χ χ χ q=>q,fun χ o χ q=>(BD o q rfl rfl rfl)⟩
theorem bd.Lg {X F aD:List Addr}{σ':Sg}{s':Shared}{h':Heap}(x:bd Ω.prog Ω.w L W B μ s aD σ' s')(H:Hp Ω.prog Ω.w aD (X++B) σ' s'.heap)(tc:HO X F s'.heap h')(fr:∀ b∈X,s.heap.get? b=none)(hF:∀ b∈F,b∈L∧b∈B)(AH:∀ b∈X,b∉B):
  bd Ω.prog Ω.w L W B μ s aD σ' { s' with heap:=h' }∧∀ ws,(∀ b∈ws,(∃ o,h'.get? b=some o)∧(b∈X∨s'.heap.get? b=none))→Hp Ω.prog Ω.w aD (ws++B) σ' h':=by
 have nX:∀ b o,s.heap.get? b=some o→b∉X:=fun b o e m=>cc (fr b m) e;have mX:∀ b∈aD,b∉X:=fun b m m'=>H.apart b m (Yp _ m');have mF:∀ b∈aD,b∉F:=fun b m m'=>H.apart b m (Yn _ (hF b m').2);have Jr:∀ b∈B,∃ o,h'.get? b=some o:=fun b m=>by
  obtain ⟨o,e⟩:=H.held b (Yn _ (Yn _ m));refine az (fun o' e' χ=>?_) (tc.bP b o (fun q=>AH b q m) e);exact ⟨o',e'⟩
 have hp:∀ ws,(∀ b∈ws,(∃ o,h'.get? b=some o)∧(b∈X∨s'.heap.get? b=none))→Hp Ω.prog Ω.w aD (ws++B) σ' h':=fun ws hw=>by
  refine H.keeps (fun b o hb e=>?_) (fun b o m e=>?_) fun b m=>?_
  ·rcases hb with hb | hb
   ·exact tc.exact b o (mF b hb) (mX b hb) e
   ·exact tc.exact b o (fun q=>hb (Yn _ (Yn _ (hF b q).2))) (fun q=>hb (Yn _ (Yp _ q))) e
  ·rcases Yr.mp m with m | m
   ·rcases (hw b m).2 with q | q
    ·exact Yp _ q
    ·exact cc q e
   ·exact Yn _ m
  ·rcases Yr.mp m with m | m
   ·exact (hw b m).1
   ·exact Jr b m
 refine jE (fun aP ug e_1=>?_) x.same;subst e_1;refine ⟨⟨(uK h' ug rfl),x.new,fun b o hb hw hL e=>tc.exact b o (fun q=>hL (hF b q).1 (hF b q).2) (nX b o e) (x.keep b o hb hw hL e),fun b o hb hw e=>?_,hp [] (fun χ m=>nomatch m),x.tk⟩,hp⟩;refine az (fun o' e' z=>?_) (x.bP b o hb hw e);refine az (fun U' WD z'=>?_) (tc.bP b o' (nX b o e) e');exact aF U' WD (z.trans z')
theorem Fs.JF (F:Fs Ω B μ env N ρ σ s){X aD:List Addr}{σ':Sg}{s':Shared}(x:bd Ω.prog Ω.w L [] B μ s aD σ' s')(H:Hp Ω.prog Ω.w aD (X++B) σ' s'.heap)(fr:∀ b∈X,s.heap.get? b=none):Fs Ω (X++B) aD env N ρ σ' s':=by
 have G:=F.c5 x;have nX:∀ b o,s.heap.get? b=some o→b∉X:=fun b o e m=>cc (fr b m) e;refine ⟨⟨G.stays,fun a o e=>fE (G.clear a o e) (nX a o (F.stays a o e)),fun y d e=>?_,G.kind,G.globals,G.builtins,G.names,H,G.dK,G.dk,G.tk⟩,G.ns,G.cA,G.apart,G.off,Yn _ G.qA,fun p hp=>Yn _ (G.jH p hp),G.nH,G.frame⟩;obtain ⟨⟨h',t',rfl⟩,⟨ν,rfl,fC⟩,k,sl,hp,lJ⟩:=x;have v:=(F.vars y d e).cH (M':=μ++(X++B)) fun a ha z=>z.elim fun o e=>fE ha (nX a o e);exact v.turned (fun b o hb hB e=>k b o hb (fun m=>nomatch m) (fun χ m=>hB (Yn _ m)) e) (fun b o hb e=>sl b o hb (fun m=>nomatch m) e) fC F.dK F.dk
theorem bd.live {aD:List Addr}{σ':Sg}{s':Shared}(x:bd Ω.prog Ω.w L W B μ s aD σ' s')(hW:∀ b∈W,b∈B){b:Addr}(e:s'.heap.get? b=none):s.heap.get? b=none:=by
 cases q:s.heap.get? b with
 | none=>rfl
 | some o=>
  refine az (fun ν e_2 χ=>?_) x.new;subst e_2;have no:∀ o,s'.heap.get? b=some o→False:=fun o' e'=>cc e e'
  by_cases hm:b∈μ
  ·obtain ⟨o',e'⟩:=x.hp.held b (Yp _ (Yp _ hm));exact (no o' e').elim
  ·by_cases hw:b∈W
   ·obtain ⟨o',e'⟩:=x.hp.held b (Yn _ (hW b hw));exact (no o' e').elim
   ·refine az (fun o' e' χ=>?_) (x.bP b o hm hw q);exact (no o' e').elim
theorem Fs.land {X:List Addr}(F:Fs Ω (X++B) μ env N ρ σ s){h':Heap}{Fr:List Addr}(tc:HO X Fr s.heap h')(hF:∀ b∈Fr,b∈B)(AH:∀ b∈X,b∉B)(ho:∀ b∈own env,b∈B)(ws:List Addr)(L3:∀ b∈ws,(∃ o,h'.get? b=some o)∧(b∈X∨s.heap.get? b=none)):Fs Ω (ws++B) μ env N ρ σ { s with heap:=h' }:=by
 have oX:∀ b∈own env,b∉X:=fun b m q=>AH b q (ho b m);have mX:∀ b∈μ,b∉X:=fun b m m'=>F.hp.apart b m (Yp _ m');have mF:∀ b∈μ,b∉Fr:=fun b m m'=>F.hp.apart b m (Yn _ (hF b m'));have nw:∀ a o,a∉X→s.heap.get? a=some o→a∉ws:=fun a o h e m=>by
  rcases (L3 a m).2 with q | q
  ·exact h q
  ·exact cc q e
 have off:∀ a o,a∉μ++(X++B)→s.heap.get? a=some o→a∉Fr∧a∉X∧a∉μ++(ws++B):=fun a o h e=>by
  have hX:a∉X:=fun m=>h (Yn _ (Yp _ m));refine ⟨fun m=>h (Yn _ (Yn _ (hF a m))),hX,fun m=>?_⟩;rcases Yr.mp m with m | m
  ·exact h (Yp _ m)
  ·rcases Yr.mp m with m | m
   ·exact nw a o hX e m
   ·exact h (Yn _ (Yn _ m))
 have rk:∀ d v,W_ (Xa μ (μ++(X++B))) s.heap d v→W_ (Xa μ (μ++(ws++B))) h' d v:=fun d v r=>
  W_.keeps (P:=Xa μ (μ++(X++B))) (P':=Xa μ (μ++(ws++B))) (fun χ χ e=>e) (fun a o p e=>⟨(off a o p e).2.2,tc.exact a o (off a o p e).1 (off a o p e).2.1 e⟩) r
 have lo:env.locals∉X:=oX _ Yu;have ce:∀ p∈env.cells,p.2∉X:=fun p hp=>oX _ (Yv _ (Yt.mpr (aF p hp rfl)));have hp:Hp Ω.prog Ω.w μ (ws++B) σ h':=F.hp.keeps (fun b o hb e=>by
   rcases hb with hb | hb
   ·exact tc.exact b o (mF b hb) (mX b hb) e
   ·exact tc.exact b o (off b o hb e).1 (off b o hb e).2.1 e) (fun b o m e=>by
   rcases Yr.mp m with m | m
   ·rcases (L3 b m).2 with q | q
    ·exact Yp _ q
    ·exact cc q e
   ·exact Yn _ m) fun b m=>by
   rcases Yr.mp m with m | m
   ·exact (L3 b m).1
   ·obtain ⟨o,e⟩:=F.hp.held b (Yn _ (Yn _ m));refine az (fun o' e' χ=>?_) (tc.bP b o (fun q=>AH b q m) e);exact ⟨o',e'⟩
 refine ⟨⟨fun a o e=>tc.exact a o (off a o (F.clear a o e) (F.stays a o e)).1 (off a o (F.clear a o e) (F.stays a o e)).2.1 (F.stays a o e),fun a o e=>(off a o (F.clear a o e) (F.stays a o e)).2.2,fun y d e=>?_,F.kind,F.globals,F.builtins,F.names,hp,F.dK,F.dk,F.tk⟩,?_,fun y c e=>?_,F.apart,F.off,Yn _ (ho _ Yu),fun p hp=>Yn _ (ho _ (Yv _ (Yt.mpr (aF p hp rfl)))),F.nH,F.frame⟩
 ·exact (F.vars y d e).to (fun χ n=>Ns.bP n fun o e=>tc.bP _ o lo e) (fun c χ hc i=>let ⟨o,q,z⟩:=i;let ⟨o',q',_,_,z'⟩:=tc.bP c o (ce _ (mem_of_lookup hc)) q;aF o' q' (z'.trans z)) fun v r=>rk _ _ r
 ·obtain ⟨m,n⟩:=F.ns;exact ⟨m,Ns.bP n fun o e=>tc.bP _ o lo e⟩
 ·refine cS (fun v o q z=>?_) (F.cA y c e);refine A1 (fun o' q' χ χ z'=>?_) (tc.bP c o (ce _ (mem_of_lookup e)) q);exact gY v o' q' (z'.trans z)
structure dA (Ω:U)(L W B μ:List Addr)(s:Shared)(a:Addr)(cls:Value)(X aD:List Addr)(σ':Sg)(s':Shared):Prop where
 c5:bd Ω.prog Ω.w L W B μ s aD σ' s'
 hp:Hp Ω.prog Ω.w aD (X++B) σ' s'.heap
 s5:∃ a0,e9 s'.heap a cls a0 X
 fresh:∀ b∈X,s.heap.get? b=none
noncomputable def KN (Ω:U)(l:Lv)(N:ay)(ρ:aO)(σ:Sg)(e:PySem.Expr)(k:D→Sg→Prop)(kx:Value→Sg→Prop):Prop:=
 ∀ (A:Around) (B μ:List Addr) (env:Env) (s:Shared),oK l A B env→Fs Ω B μ env N ρ σ s→∀ (Q:Value→Shared→Prop) (E:Value→Shared→Prop),
  (∀ v aD σ' s',bd Ω.prog Ω.w (Xb A) [] B μ s aD σ' s'→tS W_ k B v aD σ' s'→Q v s')→
  (∀ a cls X aD σ' s',dA Ω (Xb A) [] B μ s a cls X aD σ' s'→kx cls σ'→E (.ref a) s')→wpAny Ω.M A (eval e env) Q E s
noncomputable abbrev JS (Ω:U)(A:Around)(B μ:List Addr)(env:Env)(N:ay)(t:Sem Flow)(s:Shared)(k:Fl→aO→Sg→Prop)(kx:Value→aO→Sg→Prop):Prop:=
 ∀ (Q:Flow→Shared→Prop) (E:Value→Shared→Prop),
  (∀ f aD σ' s',bd Ω.prog Ω.w (Xb A) (own env) B μ s aD σ' s'→Hh Ω B env N k f aD σ' s'→Q f s')→
  (∀ a cls X aD ρ' σ' s',dA Ω (Xb A) (own env) B μ s a cls X aD σ' s'→Fs Ω (X++B) aD env N ρ' σ' s'→kx cls ρ' σ'→E (.ref a) s')→wpAny Ω.M A t Q E s
noncomputable def Hl (Ω:U)(l:Lv)(N:ay)(ρ:aO)(σ:Sg)(ss:List Stmt)(k:Fl→aO→Sg→Prop)(kx:Value→aO→Sg→Prop):Prop:=
 ∀ (A:Around) (B μ:List Addr) (env:Env) (s:Shared),oK l A B env→Fs Ω B μ env N ρ σ s→JS Ω A B μ env N (execs ss env) s k kx
noncomputable def HR (Ω:U)(l:Lv)(N:ay)(ρ:aO)(σ:Sg)(st:Stmt)(k:Fl→aO→Sg→Prop)(kx:Value→aO→Sg→Prop):Prop:=
 ∀ (A:Around) (B μ:List Addr) (env:Env) (s:Shared),oK l A B env→Fs Ω B μ env N ρ σ s→JS Ω A B μ env N (exec st env) s k kx
theorem rG {ss:List Stmt}{k:Fl→aO→Sg→Prop}{kx:Value→aO→Sg→Prop}(h:EX Ω l N ρ σ ss k):Hl Ω l N ρ σ ss k kx:=fun A B μ env s R F Q E kk χ=>h A B μ env s R F Q E kk
theorem rJ {st:Stmt}{k:Fl→aO→Sg→Prop}{kx:Value→aO→Sg→Prop}(h:ES Ω l N ρ σ st k):HR Ω l N ρ σ st k kx:=fun A B μ env s R F Q E kk χ=>h A B μ env s R F Q E kk
theorem dA.behind (F:Fs Ω B μ env N ρ σ s){aW:List Addr}{aq:Sg}{s₁:Shared}(x:bd Ω.prog Ω.w L (own env) B μ s aW aq s₁){a:Addr}{cls:Value}{X aD:List Addr}{σ':Sg}{s':Shared}(r:dA Ω L (own env) B aW s₁ a cls X aD σ' s'):dA Ω L (own env) B μ s a cls X aD σ' s':=
 ⟨bd.then F x r.c5,r.hp,r.s5,fun b m=>x.live (eo F) (r.fresh b m)⟩
theorem dA.wide {a:Addr}{cls:Value}{X aD:List Addr}{σ':Sg}{s':Shared}(r:dA Ω L [] B μ s a cls X aD σ' s'):dA Ω L W B μ s a cls X aD σ' s':=⟨r.c5.wide,r.hp,r.s5,r.fresh⟩
noncomputable abbrev LM (Ω:U)(l:Lv)(N:ay)(ss:List Stmt)(k:Fl→aO→Sg→Prop)(kx:Value→aO→Sg→Prop):Fl→aO→Sg→Prop:=fun fl ρ' σ'=>match fl with | .next=>Hl Ω l N ρ' σ' ss k kx | fl=>k fl ρ' σ'
theorem c7 {st:Stmt}{ss:List Stmt}{k:Fl→aO→Sg→Prop}{kx:Value→aO→Sg→Prop}(h:HR Ω l N ρ σ st (LM Ω l N ss k kx) kx):Hl Ω l N ρ σ (st::ss) k kx:=fun A B μ env s R F Q E kk ke=>
 wpAny_execs_cons (h A B μ env s R F _ _ (fun f aD σ' s' x hh=>by
  obtain ⟨fl,ρ',hk,F',hr⟩:=hh;cases hr with
  | next=>exact hk A B aD env s' R F' _ _ (fun f gk aY fc y hh=>kk f gk aY fc (bd.then F x y) hh) fun a cls X gk h_ aY fc r tT hx=>ke a cls X gk h_ aY fc (r.behind F x) tT hx
  | brk=>exact kk .brk aD σ' s' x ⟨.brk,ρ',hk,F',.brk⟩
  | cont=>exact kk .cont aD σ' s' x ⟨.cont,ρ',hk,F',.cont⟩
  | ret d v r=>exact kk (.ret v) aD σ' s' x ⟨.ret d,ρ',hk,F',.ret d v r⟩) ke)
theorem Bu {e:PySem.Expr}{pos:Pos}{k:Fl→aO→Sg→Prop}{kx:Value→aO→Sg→Prop}(hs:jj e=true)(h:KN Ω l N ρ σ e (fun χ σ'=>k .next ρ σ') fun cls σ'=>kx cls ρ σ'):HR Ω l N ρ σ (.Expr e pos) k kx:=fun A B μ env s R F Q E kk ke=>
 wpAny_Expr_any (h A B μ env s R F _ _ (fun v aD σ' s' x hh=>by
  obtain ⟨d,hk,r⟩:=hh;exact kk .next aD σ' s' x.wide ⟨.next,ρ,hk,F.c5 x,.next⟩) fun a cls X aD σ' s' r hx=>ke a cls X aD ρ σ' s' r.wide (F.JF r.c5 r.hp r.fresh) hx) F.sr (dD hs ..)
theorem vA {x:Str}{px pos:Pos}{e:PySem.Expr}{k:Fl→aO→Sg→Prop}{kx:Value→aO→Sg→Prop}(hx:bS N x=true)(hs:jj e=true)(h:KN Ω l N ρ σ e (fun d σ'=>k .next ((x,d)::ρ) σ') fun cls σ'=>kx cls ρ σ'):HR Ω l N ρ σ (.Assign [.Name x px] e pos) k kx:=fun A B μ env s R F Q E kk ke=>
 wpAny_Assign_Name (h A B μ env s R F _ _ (fun v aD σ' s' y hh=>by
  obtain ⟨d,hk,r⟩:=hh;exact eM (F.c5 y) (cg hx) r fun fc z tT χ=>kk .next aD σ' fc (bd.then F y.wide z) ⟨.next,_,hk,tT,.next⟩) fun a cls X aD σ' s' r hx=>ke a cls X aD ρ σ' s' r.wide (F.JF r.c5 r.hp r.fresh) hx) (dD hs ..)
theorem Bt {t:PySem.Expr}{a b:List Stmt}{pos:Pos}{k:Fl→aO→Sg→Prop}{kx:Value→aO→Sg→Prop}(h:TE Ω l N ρ σ t fun c σ'=>D0 c (Hl Ω l N ρ σ' a k kx) (Hl Ω l N ρ σ' b k kx)):HR Ω l N ρ σ (.If t a b pos) k kx:=fun A B μ env s R F Q E kk ke=>
 wpAny_If ((h A B μ env s R F).use fun c aD σ' s' x hh=>by
  cases c with
  | true=>exact hh.1 rfl A B aD env s' R (F.c5 x) _ _ (fun f gk aY fc y hh=>kk f gk aY fc (bd.then F x.wide y) hh) fun a cls X gk h_ aY fc r tT hx=>ke a cls X gk h_ aY fc (r.behind F x.wide) tT hx
  | false=>exact hh.2 rfl A B aD env s' R (F.c5 x) _ _ (fun f gk aY fc y hh=>kk f gk aY fc (bd.then F x.wide y) hh) fun a cls X gk h_ aY fc r tT hx=>ke a cls X gk h_ aY fc (r.behind F x.wide) tT hx)
noncomputable def Bh (Ω:U)(cv cls:Value):Prop:=∀ (A:Around) (s:Shared) (e:Addr) (oe:Obj) (Q:Bool→Shared→Prop) (E:Value→Shared→Prop),Ω.K.In s.heap→s.heap.get? e=some oe→oe.cls=cls→Q true s→wpAny Ω.M A (excMatches (.ref e) cv) Q E s
theorem e9.there {h:Heap}{e:Addr}{cls a0:Value}{X:List Addr}(x:e9 h e cls a0 X):∃ oe,h.get? e=some oe∧oe.cls=cls:=by
 cases x with
 | one oe vs he hc=>exact aF oe he hc
 | two oe vs he hc=>exact aF oe he hc
theorem e9.alive {h:Heap}{e:Addr}{cls a0:Value}{X:List Addr}(x:e9 h e cls a0 X)(b:Addr)(m:b∈X):∃ o,h.get? b=some o:=by
 cases x with
 | one oe vs he hc hd h0 h1 q=>exact ⟨oe,(Yq.mp (q▸m)).symm▸he⟩
 | two oe vs he hc hd h0 T oT ts h1 AI hT BG h3 q=>exact (YC.mp (q▸m:b∈[e,T])).elim (fun q=>⟨oe,q.symm▸he⟩) fun m=>⟨oT,(Yq.mp m).symm▸hT⟩
theorem e9.keeps {h h':Heap}{e:Addr}{cls a0:Value}{X:List Addr}(x:e9 h e cls a0 X)(k:∀ b o,h.get? b=some o→h'.get? b=some o):e9 h' e cls a0 X:=by
 cases x with
 | one oe vs he hc hd h0 h1 q=>exact .one oe vs (k _ _ he) hc hd h0 h1 q
 | two oe vs he hc hd h0 T oT ts h1 AI hT BG h3 q=>exact .two oe vs (k _ _ he) hc hd h0 T oT ts h1 AI (k _ _ hT) BG h3 q
theorem xc {body:List Stmt}{t:PySem.Expr}{kJ:Stmt}{Ej:List Stmt}{Ar pos:Pos}{cv:Value}{k:Fl→aO→Sg→Prop}(hl:l.md.loud=true)
  (h:Hl Ω l N ρ σ body k fun cls ρ' σ'=>Bh Ω cv cls∧EV Ω ⟨l.n,⟨false,l.md.loud⟩⟩ N ρ' σ' t (fun d=>d=.val cv)∧EX Ω ⟨l.n,⟨false,l.md.loud⟩⟩ N ρ' σ' (kJ::Ej) k):ES Ω l N ρ σ (.Try body [.ExceptHandler (some t) none (kJ::Ej) Ar] [] [] pos) k:=fun A B μ env s R F Q E kk=>by
 refine wpAny_Try_except (h A B μ env s R F _ _ (fun f aD σ' s' x hh=>?_) fun a cls X aD ρ' σ' s' r F' hx=>?_)
 ·obtain ⟨fl,ρ',hk,F',hr⟩:=hh;cases hr with
  | next=>exact wpAny_execs_nil (kk _ aD σ' s' x ⟨.next,ρ',hk,F',.next⟩)
  | brk=>exact kk _ aD σ' s' x ⟨.brk,ρ',hk,F',.brk⟩
  | cont=>exact kk _ aD σ' s' x ⟨.cont,ρ',hk,F',.cont⟩
  | ret d v r=>exact kk _ aD σ' s' x ⟨.ret d,ρ',hk,F',.ret d v r⟩
 ·revert hx;refine e8 fun hT ht hb=>?_;obtain ⟨fs,uW⟩:=R.here hl;refine az (fun Ws xZ EB=>?_) (R.fr hl);rw [uW] at xZ;obtain rfl:=Yx xZ;obtain ⟨a0,fl⟩:=r.s5;have hO:Xb A=(env::fs).map (fun x=>x.locals):=by unfold Xb;refine rv uW ?_;rfl
  have hF:∀ b∈(env::fs).map (fun x=>x.locals),b∈Xb A∧b∈B:=fun b m=>by rw [← hO] at m;exact ⟨m,R.out b m⟩
  have AH:∀ b∈X,b∉B:=fun b m m'=>by
   obtain ⟨o,e⟩:=F.hp.held b (Yn _ m');exact cc (r.fresh b m) e
  have GF:∀ e∈env::fs,hZ s'.heap e:=fun e m=>⟨(EB e m).1,(EB e m).2,F'.hp.held _ (Yn _ (Yn _ (hF e.locals (Yt.mpr (aF e m rfl))).2))⟩;refine sG uW GF (fun b m m'=>AH b m (hF b m').2) fl fun aP tK EJ s2 sY vN=>?_;have ho:=eo F;have HY:∀ b∈tK,(∃ o,aP.get? b=some o)∧(b∈X∨s'.heap.get? b=none):=fun b m=>⟨s2.alive b m,sY b m⟩;obtain ⟨gm,wI⟩:=r.c5.Lg r.hp vN r.fresh hF AH;have av:=F'.land vN (fun b m=>(hF b m).2) AH ho tK HY;have gK:∀ b∈tK,s.heap.get? b=none:=fun b m=>by
   rcases sY b m with q | q
   ·exact r.fresh b q
   ·exact r.c5.live ho q
  have AG:∀ b∈tK,b∉B:=fun b m m'=>by
   obtain ⟨o,e⟩:=F.hp.held b (Yn _ m');exact cc (gK b m) e
  have JR:oK ⟨l.n,⟨false,l.md.loud⟩⟩ (A.mark (some (.ref a))) B env:=⟨⟨⟨R.depth,R.units,fun q=>nomatch q⟩,R.out,R.fr⟩,R.here⟩;refine wpAny_handleBy_cons (codeAny_handlers_test ((ht (A.mark (some (.ref a))) (tK++B) aD env _ JR.toRm av.toFx).go fun v ag ar d hq rv=>?_)) (by intro q;cases q);obtain rfl:=hq;refine W_.cR rv ?_;have aI:=av.grown ar;have EL:=s2.keeps ar.ext;refine az (fun oe he hc=>?_) EL.there;refine hT _ ag a oe _ _ (Ω.m6 _ aI.stays) he hc ?_;refine codeAny_handlers_suite (Dx EL EJ fun dW Pf Ei=>?_);have qY:bd Ω.prog Ω.w (Xb A) (own env) B μ s aD σ' ag:=bd.then F gm (.aG gm.hp ar);obtain ⟨oc,_⟩:=qY.Lg aI.hp Ei gK (fun b m=>nomatch m) AG;have dX:=aI.land Ei (fun b m=>nomatch m) AG ho [] (fun b m=>nomatch m);exact (hb (A.mark (some (.ref a))) B aD env _ JR dX).use fun f yH fk iz yJ hh=>kk f yH fk iz (bd.then F oc yJ) hh
noncomputable def zQ (a:Addr):PySem.Spec:=fun A R s=>A.handled=none∧∃ l i items,s.heap.IsListIter a l i∧s.heap.IsList l items∧
 (∀ x,items[i]? = some x→∀ h',h'.IsListIter a l (i+1)→Heap.SameBut a s.heap h'→R (.ok (.ret x)) { s with heap:=h' })∧
 (items[i]? = none→∀ h' e t,s.heap.get? e=none→s.heap.get? t=none→(∀ b o,b≠a→s.heap.get? b=some o→h'.get? b=some o)→(∃ o,h'.get? a=some o)→
  (∃ oe vs a0,h'.get? e=some oe∧oe.cls=.type "StopIteration"∧oe.data=.fields vs∧vs[0]? = some a0∧vs[1]? = some .none)→R (.error (.ref e)) { s with heap:=h' })
theorem oo (a:Addr):Meets (Builtin.«list_iterator.__next__» ⟨[.ref a],[]⟩) (zQ a):=.of_wp fun prog w A R s hs=>by
 revert hs;refine pD fun hh z_1=>?_;refine fD (fun l i items hit hl h1 h2=>?_) z_1;refine db (fun o ho hc hd=>?_) (id hit);revert hl;refine db fun ol Mc χ z_2=>?_;obtain ⟨nl,Di⟩:=z_2;show wpAny _ _ (field (.ref a) 0 >>= _) _ _ s;refine Yo (wpAny_field ho hd (x:=.ref l) rfl ?_);show wpAny _ _ (if (Value.ref l==Value.none)=true then _ else _) _ _ s;refine rv (Yz (show ¬ ((Value.ref l==Value.none)=true) from Bool.false_ne_true)) ?_;show wpAny _ _ (field (.ref a) 1 >>= _) _ _ s;refine Yo (wpAny_field ho hd (x:=.int i 0) rfl ?_);show wpAny _ _ (seqItems? (.ref l) >>= _) _ _ s;refine Yo (wpAny_seqItems Mc Di ?_);cases hx:items[i]? with
 | some x=>
  simp only [YQ,hx];refine Yo (wpAny_setField ho hd (by simp) (YA (aF x rfl (h1 x hx _ ?_ (Heap.SameBut.update ..)))));exact ⟨_,YZ _ ho (Obj.isFreed_of_fields (Obj.data_mapFields hd _)),(Obj.cls_mapFields ..).trans hc,by
   refine rv (Obj.data_mapFields hd _) ?_;simp [rawInt]⟩
 | none=>
  simp only [YQ,hx];refine Yo (wpAny_rule (Yo (wpAny_setField ho hd (by simp) ?_)));show wpAny _ _ (newExc (.type "StopIteration") [] >>= _) _ _ _;refine Yo ?_;simp only [newExc,newTuple];refine Yo (wpAny_newObj_type ?_ (by size_fits));refine Yo (m:=firstArgMember _ _) (wpAny_of_eq (a:=Value.none) (by first | rfl | (simp only [firstArgMember];rfl)) ?_);refine wpAny_newObj_type ?_ (by size_fits)
  delta raiseNew;dsimp only
  refine Yo (wpAny_handled ?_);refine rv (show A.handled=none from hh) ?_;refine Yo (YA (wpAny_throw ?_));have Vy:=YZ (Obj.mapFields (·.setIfInBounds 0 Value.none)) ho (Obj.isFreed_of_fields (Obj.data_mapFields hd _));have hsz:(s.heap.update a (Obj.mapFields (·.setIfInBounds 0 Value.none))).objs.size=s.heap.objs.size:=Heap.size_after_update ..;refine h2 hx _ _ s.heap.objs.size ?_ (Heap.get?_none_of_le (YE _)) (fun b o hb e=>?_) ?_ (Vk _ _ _ (Yw _ rfl) rfl rfl rfl rfl)
  ·refine Heap.get?_none_of_le ?_;refine rv (Heap.size_push _ _) (rv hsz ?_);lia -abstractProof
  ·exact YB _ (YB _ ((Y4 _ _ (Ne.symm hb)).trans e))
  ·exact ⟨_,YB _ (YB _ Vy)⟩
theorem tw {a:Addr}{o:Obj}(hx:s.heap.get? a=some o)(hc:o.cls=.type "list_iterator")(hn:∀ c,o.data≠.cls c):wpAny (model prog w) A (checkBoundCall "list_iterator.__next__" ⟨[.ref a],[]⟩) (fun χ s'=>s'=s) (fun χ χ=>False) s:=by
 obtain ⟨hp,g,d,tk,os⟩:=s;obtain ⟨c,dc,dt,sl⟩:=o;simp only at hc hn;subst hc;have hT:(⟨hp,g,d,tk,os⟩:Shared).TypeIs (.ref a) "list_iterator":=(aF _ hx rfl);have f1:isSubtype (.type "list_iterator") (.type "module")=pure false:=by refine rv (isSubtype_type _ _) ?_;kernel_rfl
 unfold checkBoundCall
 repeat (any_goals (first | assumption | wp_step))
 rfl
 repeat (any_goals (first | assumption | wp_step))
theorem Hp.H4 {h h':Heap}{X:List Addr}(H:Hp Ω.prog Ω.w μ B σ h){i:Nat}{a:Addr}{x:cB}(e:μ[i]? = some a)(k:∀ b o,b≠a→h.get? b=some o→h'.get? b=some o)
  (hx:kX Ω.prog Ω.w (Xa μ (μ++(X++B))) h' a x) (live:∃ o,h'.get? a=some o) (fr:∀ b∈X,h.get? b=none) (lv:∀ b∈X,∃ o,h'.get? b=some o):Hp Ω.prog Ω.w μ (X++B) (σ.put i x) h' where
 len:=H.len
 nodup:=H.nodup
 obj j b q:=by
  unfold Sg.put
  by_cases z:j=i
  ·subst z;rw [e] at q;obtain rfl:=Yx q;simpa using hx
  ·have ne:b≠a:=fun y=>z (H.inj (y▸q) e);simp only [z,if_false];exact kX.keeps (P:=Xa μ (μ++B)) (P':=Xa μ (μ++(X++B))) (fun χ χ q=>q) (fun c o p y=>⟨fE p (fun m=>cc (fr c m) y),k c o (fun y=>p (y▸Yp _ (Hp.mem (B:=B) e))) y⟩) (fun o y=>k b o ne y) (H.obj j b q)
 held b m:=by
  by_cases z:b=a
  ·exact z▸live
  ·rcases Yr.mp m with m | m
   ·obtain ⟨o,q⟩:=H.held b (Yp _ m);exact ⟨o,k b o z q⟩
   ·rcases Yr.mp m with m | m
    ·exact lv b m
    ·obtain ⟨o,q⟩:=H.held b (Yn _ m);exact ⟨o,k b o z q⟩
 apart b m m':=by
  rcases Yr.mp m' with m' | m'
  ·obtain ⟨o,q⟩:=H.held b (Yp _ m);exact cc (fr b m') q
  ·exact H.apart b m m'
theorem Bw {v i:PySem.Expr}{p pos:Pos}{k:D→Sg→Prop}{kx:Value→Sg→Prop}(hc:l.calm=true)
  (h:EV Ω l N ρ σ (.Subscript v i p) fun d=>∃ it n j xs,d=.jK (.loc it) "list_iterator.__next__"∧σ.o it=.iter n j∧σ.o n=.list xs∧(∀ x,xs[j]? = some x→k x (σ.put it (.iter n (j+1))))∧(xs[j]? = none→kx (.type "StopIteration") (σ.put it .dead))):
  KN Ω l N ρ σ (.Call (.Subscript v i p) [] [] pos) k kx:=fun A B μ env s R F Q E kk ke=>by
 have hA:=R.calm hc;show wpAny _ _ (do callWith pos (← eval (.Subscript v i p) env) [] (backTo pos (starEach [] env)) (backToKw pos (keywordEach [] env))) _ _ _;refine Yo ((h A B μ env s R.toRm F.toFx).go fun f s₁ ai d hq r=>?_);revert hq;refine WC fun it n j xs e_1 hit hn k1 k2=>?_;subst e_1;have av:=F.grown ai;cases r with
 | jK _ _ u v' T hT p o r=>
 refine az (fun a e_2 ha=>?_) (eR r);subst e_2;have ob:=av.hp.obj it a ha;rw [hit] at ob;revert ob;refine az fun al KD Ji=>?_;have KD:μ[n]? = some al:=KD;refine cS (fun us m ol rr=>?_) (jm av.hp KD hn);refine db (fun oi Kw V_ GK=>?_) (id Ji);have hp:(backTo pos (starEach [] env)).any (fun x=>x.1)=false:=aK pos rfl;refine jI (T:=T) (id:="list_iterator.__next__") (v:=.ref a) hT hp (bw hp ((ak (k:=fun ds=>ds=[]) rfl A B μ env s₁ pos R.toRm av.toFx).go fun vs ag ar ds hq rs=>?_));obtain rfl:=hq;cases rs;have aI:=av.grown ar;have am:a∈μ:=YN ha;refine ⟨ar.ext _ _ o,?_⟩;refine nI hT (ar.ext _ _ o) (tw (ar.ext _ _ Kw) V_ (fun c q=>by rw [GK] at q;cases q)) (by decide+kernel) entry_listiter_next (oo a Ω.prog Ω.w) ⟨hA,al,j,us.toArray,Ji.at (fun o e=>ar.ext _ o e),(a_ ol).at (fun o e=>ar.ext _ o e),fun x hx h' iP sb=>?_,fun hx h' e t he ht keep live Mr=>?_⟩
 ·have sP:us[j]? = some x:=by simpa using hx
  cases hd:xs[j]? with
  | none=>
   have h1:=List.getElem?_eq_none_iff.mp hd;have h2:=(YD.mp sP).1;have:=rr.length;lia -abstractProof
  | some d=>
   refine az (fun u' Kt ru=>?_) (rr.at j hd);rw [sP] at Kt;obtain rfl:=Yx Kt;have kp:∀ b o,b≠a→ag.heap.get? b=some o→h'.get? b=some o:=fun b o hb e=>sb.extBut b o hb e;have x:bd Ω.prog Ω.w (Xb A) [] B μ ag μ (σ.put it (.iter n (j+1))) { ag with heap:=h',toks:=ag.toks }:=bH (YE _) (x:=.iter n (j+1)) (tk:=ag.toks) aI.hp ha kp (aF al KD iP) (by revert iP;refine az fun o e χ=>?_;exact ⟨o,e⟩);exact kk _ μ _ _ ((bd.aG F.hp (ai.trans ar)).bt x) ⟨d,k1 d hd,(ru.ext ar.ext).turnAt am kp⟩
 ·have hd:xs[j]? = none:=by
   have h1:us.length≤j:=by simpa using hx
   exact List.getElem?_eq_none_iff.mpr (rv rr.length.symm h1)
  revert Mr;refine Pj fun oe ws a0 OV VG VF h0 h1=>?_;have x:bd Ω.prog Ω.w (Xb A) [] B μ ag μ (σ.put it .dead) { ag with heap:=h',toks:=ag.toks }:=bH (YE _) (x:=.dead) (tk:=ag.toks) aI.hp ha keep live live;have fr:∀ b∈[e],ag.heap.get? b=none:=fun b m=>rv (Yq.mp m) he;refine ke e (.type "StopIteration") [e] μ _ _ ⟨(bd.aG F.hp (ai.trans ar)).bt x,aI.hp.H4 ha keep live live fr (fun b m=>rv (Yq.mp m) ⟨_,OV⟩),⟨a0,.one oe ws OV VG VF h0 h1 rfl⟩,fun b m=>?_⟩ (k2 hd);exact Xi.gone (ai.trans ar).ext (fr b m)
noncomputable def M9 (Ω:U)(l:Lv)(a:Addr)(ds:List D)(kw:List (Str×D))(σ:Sg)(k:D→Sg→Prop)(kx:Value→Sg→Prop):Prop:=
 ∀ (A:Around) (B μ:List Addr) (s:Shared) (vs aV:List Value),RmS l A B→Ω.St s→(∀ b o,Ω.C.base b o→b∉μ++B)→Hp Ω.prog Ω.w μ B σ s.heap→au (Xa μ (μ++B)) s.heap ds vs→au (Xa μ (μ++B)) s.heap (kw.map (fun x=>x.2)) aV→
  ∀ (Q:Value→Shared→Prop) (E:Value→Shared→Prop),(∀ v aD σ' s',bd Ω.prog Ω.w (Xb A) [] B μ s aD σ' s'→tS W_ k B v aD σ' s'→Q v s')→
   (∀ e cls X aD σ' s',dA Ω (Xb A) [] B μ s e cls X aD σ' s'→kx cls σ'→E (.ref e) s')→wpAny Ω.M A (call (.ref a) vs ((kw.map (fun x=>x.1)).zip aV)) Q E s
noncomputable def Eb (Ω:U)(l:Lv)(a:Addr)(ds:List D)(kw:List (Str×D))(σ:Sg)(k:D→Sg→Prop)(kx:Value→Sg→Prop):Prop:=
 ∀ (A:Around) (B μ:List Addr) (s:Shared) (vs aV:List Value),RmS l A B→Ω.St s→(∀ b o,Ω.C.base b o→b∉μ++B)→Hp Ω.prog Ω.w μ B σ s.heap→au (Xa μ (μ++B)) s.heap ds vs→au (Xa μ (μ++B)) s.heap (kw.map (fun x=>x.2)) aV→
  ∀ R:Result→Shared→Prop,(∀ v aD σ' s',bd Ω.prog Ω.w (Xb A) [] B μ s aD σ' s'→tS W_ k B v aD σ' s'→R (.ok (.ret v)) s')→
   (∀ e cls X aD σ' s',dA Ω (Xb A) [] B μ s e cls X aD σ' s'→kx cls σ'→R (.error (.ref e)) s')→codeAny Ω.M A (.call (.ref a) ⟨vs,(kw.map (fun x=>x.1)).zip aV⟩) R s
theorem CE.loud {n:Nat}{c:Bool}{a:Addr}{ds:List D}{kw:List (Str×D)}{k:D→Sg→Prop}(h:CE Ω ⟨n,⟨c,false⟩⟩ a ds kw σ k){lo:Bool}:CE Ω ⟨n,⟨c,lo⟩⟩ a ds kw σ k:=fun A B μ s vs aV R st cl H rs rk Q E kk=>
 h A B μ s vs aV ⟨⟨R.depth,R.units,R.calm⟩,R.out,fun q=>nomatch q⟩ st cl H rs rk Q E kk
theorem CP.loud {n:Nat}{c:Bool}{a:Addr}{ds:List D}{kw:List (Str×D)}{k:D→Prop}(h:CP Ω ⟨n,⟨c,false⟩⟩ a ds kw k){lo:Bool}:CP Ω ⟨n,⟨c,lo⟩⟩ a ds kw k:=fun A μ Mut s vs aV R=>
 h A μ Mut s vs aV ⟨R.depth,R.units,R.calm⟩
theorem Ea {n:Nat}{c:Md}{a:Addr}{fd:FuncData}{body:List Stmt}{ds:List D}{kw:List (Str×D)}{k:D→Sg→Prop}{kx:Value→Sg→Prop}(hlo:c.loud=true)(ok:b7 Ω a fd body N)(hb:Xe Ω fd ds kw ρ)(hp:sq N ρ=true)
  (h:Hl Ω ⟨n,c⟩ N ρ σ body (Ce k) fun cls χ σ'=>kx cls σ'):Eb Ω ⟨n+1,c⟩ a ds kw σ k kx:=fun A B μ s vs aV R oO cl H rs rk QR kk ke=>by
 refine td ok hb hp R oO cl H rs rk fun env ag G fresh F RR=>codeAny_func (h _ _ _ env ag RR F _ _ (fun f aD σ' aE x hh=>?_) fun e cls X aD ρ' σ' aE r F' hx=>?_)
 ·obtain ⟨fl,ρ',hk,F',hr⟩:=hh;exact ge.back (f:=f) hk (fun d v hd rv e=>Eq.mpr (congrArg (fun v=>QR (.ok (.ret v)) aE) e) (kk v aD σ' aE (x.leave G fresh) ⟨d,hd,rv⟩)) hr
 ·obtain ⟨fs,xZ⟩:=RR.here hlo;refine az (fun Ws EC EB=>?_) (RR.fr hlo);rw [xZ] at EC;obtain rfl:=Yx EC;obtain ⟨a0,fl⟩:=r.s5;have hO:Xb (A.deeper env)=(env::fs).map (fun x=>x.locals):=by unfold Xb;refine rv xZ ?_;rfl
  have hF:∀ b∈(env::fs).map (fun x=>x.locals),b∈Xb (A.deeper env)∧b∈own env++B:=fun b m=>by rw [← hO] at m;exact ⟨m,RR.out b m⟩
  have AH:∀ b∈X,b∉own env++B:=fun b m m'=>by
   obtain ⟨o,e⟩:=F.hp.held b (Yn _ m');exact cc (r.fresh b m) e
  have GF:∀ e∈env::fs,hZ aE.heap e:=fun e m=>⟨(EB e m).1,(EB e m).2,F'.hp.held _ (Yn _ (Yn _ (hF e.locals (Yt.mpr (aF e m rfl))).2))⟩;unfold leaving;refine Yo (sG xZ GF (fun b m m'=>AH b m (hF b m').2) fl fun uP tK EJ s2 sY vN=>?_);obtain ⟨x,wI⟩:=r.c5.Lg r.hp vN r.fresh hF AH;have JZ:=wI tK fun b m=>⟨s2.alive b m,sY b m⟩;refine ke e cls tK aD σ' _ ⟨x.leave G fresh,JZ.keeps (fun χ χ χ e=>e) (fun b o m χ=>?_) fun b m=>JZ.held b ?_,⟨a0,s2⟩,fun b m=>Xi.gone G.ext ((sY b m).elim (r.fresh b) (r.c5.live (eo F)))⟩ hx
  ·rcases Yr.mp m with m | m
   ·exact Yp _ m
   ·exact Yn _ (Yn _ m)
  ·rcases Yr.mp m with m | m
   ·exact Yn _ (Yp _ m)
   ·exact Yn _ (Yn _ (Yn _ m))
theorem Eb.ce {a:Addr}{ds:List D}{kw:List (Str×D)}{k:D→Sg→Prop}{kx:Value→Sg→Prop}{l:Lv}(h:Eb Ω l a ds kw σ k kx):M9 Ω l a ds kw σ k kx:=fun A B μ s vs aV R st cl H rs rk Q E kk ke=>wpAny_call (h A B μ s vs aV R st cl H rs rk (wants Q E) kk ke)
end
section
open PySem.Sem (wp)
variable (P:Params)
inductive M7:Prop where
 | mk (nm q:Str)(bs:List Value)(hdct:Bool)(sn:List Str)(sub:List Value)(ab:Bool)(col:Option Bool)(dd:Option Addr)(k0 k1 k2 k3 k5:Option Value)(h:∀ P,(hd.heap_1 P).lookup 361=some (excClassObj nm q 361 360 bs [.type "ValueError",.type "Exception",.type "BaseException",.type "object"] hdct sn sub ab col dd k0 k1 k2 k3 k5 "ValueError.__new__"))
theorem tv:M7:=
 ⟨_,_,_,_,_,_,_,_,_,_,_,_,_,_,fun χ=>rfl⟩
theorem tq:nsOkIn (hd.heap_1 P) 360=true:=by kernel_rfl
theorem A6:nsIn (hd.heap_1 P) 360 "__init__"=some none:=by rfl
end
section
open PySem.Sem (wp)
theorem uk {Ω:U}:Bh Ω (.type "StopIteration") (.type "StopIteration"):=fun A s e oe Q E X he hc h=>
 wpAny_excMatches_type (X:="StopIteration") (T:="StopIteration") (b:=true) (aF _ he hc) (by refine rv (isSubtype_type _ _) ?_;kernel_rfl) (by refine rv (isSubtype_type _ _) ?_;kernel_rfl) (by refine rv (isSubtype_type _ _) ?_;kernel_rfl) h
theorem xh {Ω:U}(HK:Ω.K=hd.heap_1 Ω.w.params):Bh Ω (.ref 361) (.ref 361):=fun A s e oe Q E X he hc h=>by
 obtain ⟨nm,q,bs,hdct,sn,sub,ab,col,dd,k0,k1,k2,k3,k5,hC⟩:=tv;rw [HK] at X;obtain ⟨hp,g,d,tk,os⟩:=s;exact wpAny_excMatches_sub_self (X _ _ (hC _)) he hc (by decide+kernel) h
theorem dA.DG {aW:List Addr}{aq:Sg}{s₁:Shared}(x:bd Ω.prog Ω.w L [] B μ s aW aq s₁){a:Addr}{cls:Value}{X aD:List Addr}{σ':Sg}{s':Shared}(r:dA Ω L [] B aW s₁ a cls X aD σ' s'):dA Ω L [] B μ s a cls X aD σ' s':=
 ⟨x.bt r.c5,r.hp,r.s5,fun b m=>x.live (fun χ m=>nomatch m) (r.fresh b m)⟩
theorem yy {o:PySem.Expr}{name:Str}{apos pos:Pos}{args:List PySem.Expr}{k:D→Sg→Prop}{kx:Value→Sg→Prop}(f:Addr)
  (he:∀ env,∃ pl,eval (.Call (.Attribute o name apos) args [] pos) env=(do
   let ov ← eval o env
   standAt apos.atName
   let (f,first) ← holding [ov] (getMethod ov name pl)
   callWith pos f first (backTo pos (starEach args env)) (backToKw pos (keywordEach [] env)))) (hn:Xc args=true) (hf:rF Ω f)
  (h:EV Ω l N ρ σ o fun d=>∃ n C m sl fs,d=.loc n∧σ.o n=.inst C m sl∧σ.o m=.attrs fs∧lk name fs=none∧Xu Ω.K C name f∧yG Ω l N ρ σ args fun ds σ'=>M9 Ω l f (.loc n::ds) [] σ' k kx):KN Ω l N ρ σ (.Call (.Attribute o name apos) args [] pos) k kx:=fun A B μ env s R F Q E kk ke=>by
 obtain ⟨pl,he⟩:=he env;refine methodCall_KW (pl:=pl) ((h A B μ env s R F.toFx).go fun ov s₁ ai cD hq b6=>?_) he;revert hq;refine Ph fun n C m sl fs e_1 ic hm hl M hd=>?_;subst e_1;have av:=F.grown ai;refine az (fun a e_2 ha=>?_) (eR b6);subst e_2;refine gf (fun dx vs AD hx χ=>?_) (lh av.hp ha ic);refine cS (fun l' n' sR fl=>?_) (gQ av.hp AD hm);have hs:shadowIn (some (dictOf l' n')) name=some false:=by
  have e1:=fl.none hl;have e2:=fl.noRef;show (lookIn name (dictOf l' n')).map _=_;unfold lookIn;dsimp only;refine rv e1 ?_;simp only [e2];rfl
 refine method_fn (od:=some (dictOf l' n')) (Ω.m6 _ av.stays) ⟨hx,rfl,rfl,sR⟩ M.ga M.hook M.at_ M.fn hs ?_;have hp:=aK (env:=env) pos hn;revert hf;refine cS fun ob fd HC na=>?_;refine callWith_function_kw (o:=ob) (fd:=fd) (bw hp ((hd A B μ env s₁ pos R av).go fun vs bh aM ag x ds uX rs=>?_));have aI:=av.c5 x;have t9:bh[n]? = some a:=by
  refine az (fun ν e_3 χ=>?_) x.new;subst e_3;refine rv (List.getElem?_append_left (YD.mp ha).1) ?_;exact ha
 refine ⟨⟨aI.stays _ _ HC,na⟩,?_⟩;have x0:=(bd.aG F.hp ai).bt x;exact uX A B bh ag (.ref a::vs) [] R aI.st aI.clear aI.hp (.cons _ _ _ _ (.loc _ _ t9) rs) .nil _ _ (fun v ch aQ aE y hh=>kk v ch aQ aE (x0.bt y) hh) fun e cls X ch aQ aE r hx=>ke e cls X ch aQ aE (r.DG x0) hx
theorem D7 (HK:Ω.K=hd.heap_1 Ω.w.params){x:Str}{np gg pos:Pos}{args:List PySem.Expr}{k:Fl→aO→Sg→Prop}{kx:Value→aO→Sg→Prop}(hg:lk x N=some .globalImplicit)(e:(Ω.C.mg x).or (Ω.C.mb x)=some (.ref 361))(hc:l.calm=true)(hn:Xc args=true)(V6:sEq x "__debug__"=false)
  (h:rP Ω l N ρ σ args fun ds=>ds.length≤sizeLine∧kx (.ref 361) ρ σ):HR Ω l N ρ σ (.Raise (some (.Call (.Name x np) args [] gg)) none pos) k kx:=fun A B μ env s R F Q E kk ke=>by
 obtain ⟨nm,q,bs,hdct,sn,sub,ab,col,dd,k0,k1,k2,k3,k5,hC⟩:=tv;have hp:=aK (env:=env) gg hn;have XK:∀ h,Ω.C.fB h→(hd.heap_1 Ω.w.params).In h:=fun h st=>rv HK.symm (Ω.m6 h st);have JL:=XK _ F.stays;have ok:=isNs_of_in JL (tq Ω.w.params);refine wpAny_Raise_call_sub (nm:=nm) (q:=q) (bs:=bs) (hdct:=hdct) (sn:=sn) (sub:=sub) (ab:=ab) (col:=col) (dd:=dd) (k0:=k0) (k1:=k1) (k2:=k2) (k3:=k3) (k5:=k5) (C:=361) (N:=360) (mN:=s.heap.nsMap 360) PySem.F.excBase_ValueError (R.calm hc) hp (nsMap_none_of_in JL (tq Ω.w.params) (A6 Ω.w.params)) ((aT (k:=fun d=>d=.val (.ref 361)) hg e (.val _ rfl) rfl V6 A B μ env s R.toRm F.toFx).go fun v s₁ ai d hq r=>?_);obtain rfl:=hq;refine W_.cR r ?_;refine ⟨rfl,bw hp ((h A B μ env s₁ gg R.toRm (F.grown ai).toFx).go fun vs ag ar ds hq rs=>?_)⟩;obtain ⟨hz,hk⟩:=hq;have G:=ai.trans ar;have aI:=F.grown G;refine ⟨rfl,by show vs.length≤_;exact rv rs.length hz,XK _ aI.stays _ _ (hC _),Ns.turn (Heap.Ns.of_isNs ok) fun o e=>G.ext _ o e,fun h' e hm=>?_⟩;refine db (fun t he W4 ht=>?_) hm.there;have aU:aH ag { ag with heap:=h' }:=.heap hm.keeps;have GG:=G.trans aU;have fr:∀ b∈[e],s.heap.get? b=none:=fun b m=>by
  refine rv (Yq.mp m) ?_;exact Xi.gone G.ext (hm.new)
 have Fw:=F.widen (ws:=[e]) GG fr (fun b m=>rv (Yq.mp m) ⟨_,he⟩);exact ke e (.ref 361) [e] μ ρ σ _ ⟨.aG F.hp GG,Fw.hp,⟨.ref t,.one _ _ he rfl rfl rfl rfl rfl⟩,fr⟩ Fw hk
theorem Bq {e:PySem.Expr}{pos:Pos}{k:D→Prop}(h:EV Ω l N ρ σ e k):EV Ω l N ρ σ (.JoinedStr [e] pos) k:=fun A B μ env s R F Q E kk=>JoinedStr_one (h A B μ env s R F Q E kk)
theorem bK.get {K:Type}{P:Pl}{h:Heap}{k:K}{d:D}{j:Nat}{es:List (K×D)}{aV:List (K×Value)}(r:bK P h es aV):es[j]? = some (k,d)→∃ v,aV[j]? = some (k,v)∧W_ P h d v:=by
 induction r generalizing j with
 | nil=>exact fun e=>iZ (List.getElem?_nil.symm.trans e)
 | cons k' d' v es aV x r i=>
  cases j with
  | zero=>exact fun e=>aF v (congrArg (fun z=>some (z,v)) (Prod.mk.inj (Yx e)).1) (rv (Prod.mk.inj (Yx e)).2.symm x)
  | succ j=>exact i
theorem Cs {h:Heap}{x:Str}{v:Value}(e:(strKind Ω.prog Ω.w).is x v=true):W_ P h (.str x) v:=by
 have e:Value.isStrOf x v=true:=e;cases v<;>simp [Value.isStrOf] at e;subst e;exact .str _ _
theorem tj {n ep:Nat}{a:Addr}{es:List (Str×D)}{h:Heap}(H:Hp Ω.prog Ω.w μ B σ h)(ha:μ[n]? = some a)(hn:σ.o n=.kH es ep):∃ aV,(a==sysModules)=false∧h.DictAt (strKind Ω.prog Ω.w) a aV ep∧bK (Xa μ (μ++B)) h es aV:=by
 have:=H.obj n a ha;rw [hn] at this;exact this
inductive J6 (n:Nat)(k:Fl→aO→Sg→Prop)(fl:Fl)(ρ:aO)(σ:Sg):Prop where
 | mk (es:List (Str×D))(ep:Nat)(hn:σ.o n=.kH es ep)(hk:k fl ρ (σ.put n (.bB es)))
inductive M1 (Ω:U)(l:Lv)(N:ay)(ρ:aO)(σ:Sg)(i:PySem.Expr)(k:D→Prop)(n:Nat):Prop where
 | mk (es:List (Str×D))(ep:Nat)(hn:σ.o n=.kH es ep)(h:EV Ω l N ρ σ i (tM (Px es k)))
inductive JX (σ:Sg)(k:(Sg→Prop)→List D→Prop)(n:Nat):Prop where
 | mk (es:List (Str×D))(ep:Nat)(hn:σ.o n=.kH es ep)(hk:k (fun σ'=>σ'.o n=.kH es ep) (es.map fun p=>.str p.1))
theorem Bn {x:Str}{n:Nat}{es:List (Str×D)}{ss:List Stmt}{k:Fl→aO→Sg→Prop}(e:lk x ρ=some (.loc n))(hn:σ.o n=.bB es)
  (h:∀ ep,EX Ω l N ρ (σ.put n (.kH es ep)) ss (J6 n k)):EX Ω l N ρ σ ss k:=fun A B μ env s R F Q E kk=>by
 rw [be] at e;obtain ⟨v,r⟩:∃ v,W_ (Xa μ (μ++B)) s.heap (.loc n) v:=by
  rcases F.vars x _ e with ⟨_,_,v,_,_,r⟩ | ⟨_,_,v,_,_,r⟩
  ·exact ⟨v,r⟩
  ·exact ⟨v,r⟩
 refine az (fun a e_1 ha=>?_) (eR r);subst e_1;refine db (fun aV z dd rr=>?_) (jF F.hp ha hn);obtain ⟨ep,da⟩:=dd.dictAt;have live:∃ o,s.heap.get? a=some o:=F.hp.held a (Yp _ (YN ha));have x:bd Ω.prog Ω.w (Xb A) [] B μ s μ (σ.put n (.kH es ep)) s:=bH (YE _) (s:=s) (x:=.kH es ep) (tk:=s.toks) (h':=s.heap) F.hp ha (fun χ χ χ e=>e) (eQ aV z da rr) live;refine (h ep A B μ env s R (F.c5 x)).yF fun f aD σ' s' y fl ρ' hq F' hr=>?_;obtain ⟨gc,Ww,ic,hk⟩:=hq;have t9:aD[n]? = some a:=y.loc ha;refine db (fun uL z' BH BC=>?_) (tj F'.hp t9 ic);have x':bd Ω.prog Ω.w (Xb A) [] B aD s' aD (σ'.put n (.bB gc)) s':=bH (YE _) (s:=s') (x:=.bB gc) (tk:=s'.toks) (h':=s'.heap) F'.hp t9 (fun χ χ χ e=>e) (eQ uL z' BH.dictOf BC) (F'.hp.held a (Yp _ (YN t9)));exact kk f aD _ s' (bd.then F x.wide (bd.then (F.c5 x) y x'.wide)) ⟨fl,ρ',hk,F'.c5 x',hr⟩
theorem yw {v i:PySem.Expr}{pos:Pos}{k:D→Prop}(hs:kW i=false)(h:EV Ω l N ρ σ v (eL (M1 Ω l N ρ σ i k))):EV Ω l N ρ σ (.Subscript v i pos) k:=fun A B μ env s R F Q E kk=>
 Subscript_ ((h A B μ env s R F).dM fun n a s₁ ai ha hq=>by
  obtain ⟨es,ep,hn,aP⟩:=hq;have av:=F.grown ai;refine (aP A B μ env s₁ R av).AL fun x t ag ar hq=>?_;obtain ⟨e,he,hk⟩:=hq;have aI:=av.grown ar;refine db (fun aV z da rr=>?_) (tj aI.hp ha hn);refine az (fun u hu ru=>?_) ((rr.at x).1 e he);exact tail_any da.dictOf.typeIs slot_dict_getitem.lookup (wpAny_getItem_of (isStr x _) da.dictOf.mapOf hu (kk _ _ ((ai.trans ar).trans (.tok ..)) ⟨_,hk,ru⟩)) (d6 hs _ _))
theorem vw {e:PySem.Expr}{x:Str}{px:Pos}{k:(Sg→Prop)→List D→Prop}(hc:l.calm=true)(h:EV Ω l N ρ σ e (eL (JX σ k))):tO Ω l N ρ σ (.Name x px) e k:=fun A B μ env s R F Q E kq=>by
 refine (h A B μ env s R F.toFx).dM fun n a s₁ ai ha hq=>?_;obtain ⟨es,ep,hn,hk⟩:=hq;have av:=F.grown ai;have hA:=R.calm hc;refine db (fun aV z da rr=>?_) (tj av.hp ha hn);refine wpAny_pyIter_dict z da ?_;have e1:=a9 s₁.heap;have gone:s.heap.get? s₁.heap.objs.size=none:=by
  exact Xi.gone ai.ext e1
 have In:s₁.heap.objs.size∉μ:=fun m=>by
  obtain ⟨o,e⟩:=av.hp.held _ (Yp _ m);exact cc e1 e
 have Io:s₁.heap.objs.size∉own env++Xb A:=fun m=>by
  have m:s₁.heap.objs.size∈B:=by
   rcases Yr.mp m with m | m
   ·exact eo av _ m
   ·exact R.out _ m
  obtain ⟨o,e⟩:=av.hp.held _ (Yn _ m);exact cc e1 e
 refine kq _ [s₁.heap.objs.size] _ _ (fun i aD σ' h=>s₁.heap.objs.size∉aD∧∃ a,aD[n]? = some a∧h.IsKeyIter s₁.heap.objs.size a i es.length ep) _ ?_ (fun b hb=>rv (Yq.mp hb) gone) (ai.trans (.heap (Xi.push _ _))) (fun b hb=>rv (Yq.mp hb) ⟨_,Yw _ rfl⟩) ⟨In,a,ha,_,Yw _ rfl,rfl,by refine rv rr.len ?_;rfl⟩ hk;refine kS.up ⟨?_,?_,?_⟩
 ·intro i aD σ' s' Q' E' d hd r_66 dF H uM;revert r_66;refine pD fun hI z_1=>?_;refine az (fun b hb hit=>?_) z_1;refine db (fun uL z' BH BC=>?_) (tj H hb dF);rw [Y2,YI] at hd;revert hd;refine az fun y_2 hd e_3=>?_;obtain ⟨key,dv⟩:=y_2;subst e_3;refine az (fun u hu ru=>?_) (BC.get hd);rw [← BC.len] at hit;refine wpAny_pyNext_dict_item hit BH hu fun kv h' Dd xY eK=>(aF kv rfl (YA ?_));rw [BC.len] at xY;exact uM kv h' s'.toks (Cs Dd) ⟨hI,b,hb,xY⟩ (fun c o hc e=>eK.extBut c o (fun q=>hc (rv q Yu)) e) (fun c hc=>by refine rv (Yq.mp hc) ?_;revert xY;refine az fun o e χ=>?_;exact ⟨o,e⟩)
 ·intro aD σ' s' Q' E' r_67 dF H uM;revert r_67;refine pD fun hI z_2=>?_;refine az (fun b hb hit=>?_) z_2;refine db (fun uL z' BH BC=>?_) (tj H hb dF);rw [← BC.len] at hit;refine wpAny_pyNext_dict_end hA hit BH (by simp [BC.len]) fun h' eK=>⟨rfl,?_⟩;exact uM h' s'.toks fun c o hc e=>eK c o (fun q=>hc (rv q Yu)) e
 ·intro i aD ν aq aM h h' r_68 _ _ fC BE;revert r_68;refine pD fun hI z_3=>?_;refine az (fun b hb hit=>?_) z_3;revert hit;refine az fun o e r=>?_;refine ⟨fun m=>?_,b,?_,o,BE _ o hI Io e,r⟩
  ·rcases Yr.mp m with m | m
   ·exact hI m
   ·exact cc (fC _ m) e
  ·refine rv (List.getElem?_append_left (YD.mp hb).1) ?_;exact hb
noncomputable def tp {K:Type}[DecidableEq K](es:List (K×D))(k:K):List (K×D):=es.filter fun kv=>decide (kv.1≠k)
theorem bK.del {K:Type}[DecidableEq K]{P:Pl}{h:Heap}{k:K}:∀ {es:List (K×D)} {aV:List (K×Value)},bK P h es aV→bK P h (tp es k) (without aV k)
 | _,_,.nil=>.nil
 | _,_,.cons k' d v es aV x r=>by
  unfold tp without
  by_cases q:k'=k
  ·simp only [List.filter_cons,q,ne_eq,not_true_eq_false,decide_false,Bool.false_eq_true,if_false];exact r.del
  ·simp only [List.filter_cons,ne_eq,q,not_false_eq_true,decide_true,if_true];exact .cons _ _ _ _ _ x r.del
inductive M5 (ρ:aO)(n:Nat)(k:Fl→aO→Sg→Prop)(d:D)(σ:Sg):Prop where
 | mk (x:Str)(es:List (Str×D))(e:d=.str x)(hn:σ.o n=.bB es)(hs:(cP es x).isSome=true)(hz:es.length≤sizeLine)(hk:k .next ρ (σ.put n (.bB (tp es x))))
theorem D8 {o i:PySem.Expr}{p pos:Pos}{k:Fl→aO→Sg→Prop}(h:EV Ω l N ρ σ o (eL fun n=>EF Ω l N ρ σ i (M5 ρ n k))):ES Ω l N ρ σ (.Delete [.Subscript o i p] pos) k:=fun A B μ env s R F Q E kk=>by
 refine wpAny_Delete (wpAny_deleteEach_cons (wpAny_delete_Subscript ((h A B μ env s R.toRm F.toFx).dM fun n a s₁ ai ha aP=>?_)));have av:=F.grown ai;refine (aP A B μ env s₁ R av).go fun u aD σ' ag x cD hq cU=>?_;obtain ⟨y,es,rfl,hn,I9,hz,hk⟩:=hq;have aI:=av.c5 x;have t9:aD[n]? = some a:=x.loc ha;refine W_.cK cU fun ϑ=>?_;refine db (fun aV z dd rr=>?_) (jF aI.hp t9 hn);have hv:(valueAt aV y).isSome=true:=by
  obtain ⟨d,hd⟩:=Option.isSome_iff_exists.mp I9;refine az (fun v e χ=>?_) ((rr.at y).1 d hd);refine rv e ?_;rfl
 refine wpAny_delItem_slot dd.typeIs (by decide+kernel) PySem.F.slot_dict_delitem (call_meetsIn PySem.F.slot_dict_delitem dd.typeIs PySem.F.entry_dict_delitem (PySem.F.args_dict_delitem_2 _ _) (meets_dict_delitem_pairs _ a (isStr y _)) (BD aV dd (rv rr.len hz) hv (fun h' A4 sb=>?_)));refine wpAny_deleteEach_nil ?_;have am:a∈aD:=YN t9;have kp:∀ b o,b≠a→ag.heap.get? b=some o→h'.get? b=some o:=fun b o hb e=>sb.extBut b o hb e;have y':bd Ω.prog Ω.w (Xb A) [] B aD ag aD (σ'.put n (.bB (tp es y))) { ag with heap:=h',toks:=ag.toks+1 }:=bH (Nat.le_add_right _ _) (x:=.bB (tp es y)) (tk:=ag.toks+1) aI.hp t9 kp (eQ _ z A4 ((rr.turnAt am kp).del)) (hE A4);have X:=((bd.aG F.hp ai).bt x).bt y';exact kk .next aD _ _ X.wide ⟨.next,ρ,hk,F.c5 X,.next⟩
end
theorem zN (P:Params):([("node",347,0),("npredecessors",348,1),("successors",349,2)]:List (String×Addr×Nat)).all (fun x=>y8 (hd.heap_1 P) 346 (Str.ofString x.1) x.2.1 x.2.2)=true:=by rfl
theorem zO (P:Params):makesIn (hd.heap_1 P) 346=true:=by rfl
theorem CA (P:Params):findIn (hd.heap_1 P) (.ref 346) "__init__"=some (some (.ref 342)):=by rfl
theorem zP (P:Params):typeIn (hd.heap_1 P) (.ref 342)=some (.type "function"):=by rfl
theorem Cz (P:Params):keepIn (hd.heap_1 P) (.ref 346)=true:=by rfl
theorem E8 (P:Params):(["_node2info","_ready_nodes","_npassedout","_nfinished"]:List String).all (fun x=>xE (hd.heap_1 P) 443 (Str.ofString x))=true:=by rfl
theorem BU (P:Params):([("_get_nodeinfo",386),("add",393),("prepare",398),("get_ready",405),("is_active",412),("done",426),("_find_cycle",433)]:List (String×Addr)).all (fun x=>sy (hd.heap_1 P) 443 (Str.ofString x.1) x.2)=true:=by rfl
theorem yO (P:Params):makesIn (hd.heap_1 P) 443=true:=by rfl
theorem BW (P:Params):findIn (hd.heap_1 P) (.ref 443) "__init__"=some (some (.ref 379)):=by rfl
theorem yP (P:Params):typeIn (hd.heap_1 P) (.ref 379)=some (.type "function"):=by rfl
theorem BV (P:Params):keepIn (hd.heap_1 P) (.ref 443)=true:=by rfl
theorem jk (HK:Ω.K=hd.heap_1 Ω.w.params)(x:String)(p:Addr)(i:Nat)(h:(x,p,i)∈([("node",347,0),("npredecessors",348,1),("successors",349,2)]:List (String×Addr×Nat))):kU Ω.K 346 (Str.ofString x) p i:=by
 have:=List.all_eq_true.mp (zN Ω.w.params) _ h;exact rv HK (y7 this)
theorem gU (HK:Ω.K=hd.heap_1 Ω.w.params)(x:String)(h:x∈(["_node2info","_ready_nodes","_npassedout","_nfinished"]:List String)):jM Ω.K 443 (Str.ofString x)∧eH Ω.K 443 (Str.ofString x):=by
 have:=List.all_eq_true.mp (E8 Ω.w.params) _ h;exact rv HK ⟨o5 this,mu this⟩
theorem oN (HK:Ω.K=hd.heap_1 Ω.w.params)(x:String)(f:Addr)(h:(x,f)∈([("_get_nodeinfo",386),("add",393),("prepare",398),("get_ready",405),("is_active",412),("done",426),("_find_cycle",433)]:List (String×Addr))):Xu Ω.K 443 (Str.ofString x) f:=by
 have:=List.all_eq_true.mp (BU Ω.w.params) _ h;exact rv HK (mJ this)
theorem dQ (HK:Ω.K=hd.heap_1 Ω.w.params)(x:String){i m:Nat}{fs:List (Str×D)}{e:D}{p pos:Pos}{k:D→Prop}(hx:x∈(["_node2info","_ready_nodes","_npassedout","_nfinished"]:List String))(hs:lk "self" ρ=some (.loc i))(hi:σ.o i=.inst 443 m [])(hm:σ.o m=.attrs fs)(he:lk (Str.ofString x) fs=some e)(h:k e):
  EV Ω l N ρ σ (.Attribute (.Name "self" p) (Str.ofString x) pos) k:=
 xb rfl (aa hs ⟨_,rfl,_,_,_,_,_,hi,hm,(gU HK x hx).1,he,h⟩ rfl)
theorem t7 (HK:Ω.K=hd.heap_1 Ω.w.params)(x:String){i m:Nat}{fs:List (Str×D)}{d:D}{p pos:Pos}{k:aO→Sg→Prop}(hx:x∈(["_node2info","_ready_nodes","_npassedout","_nfinished"]:List String))(hs:lk "self" ρ=some (.loc i))(hi:σ.o i=.inst 443 m [])(hm:σ.o m=.attrs fs)(hz:fs.length<1000)(ho:XH d=true)(h:k ρ (σ.put m (.attrs (bE (Str.ofString x) d fs)))):
  AS Ω l N ρ σ (.Attribute (.Name "self" p) (Str.ofString x) pos) d k:=
 xg ho (aa hs ⟨_,rfl,_,_,_,_,hi,hm,(gU HK x hx).2,hz,h⟩ rfl)
theorem BA (HK:Ω.K=hd.heap_1 Ω.w.params)(x:String)(q:Addr)(j:Nat){i m:Nat}{sl:List (Option D)}{fs:List (Str×D)}{d:D}{o:PySem.Expr}{pos:Pos}{k:aO→Sg→Prop}(hx:(x,q,j)∈([("node",347,0),("npredecessors",348,1),("successors",349,2)]:List (String×Addr×Nat)))(hi:σ.o i=.inst 346 m sl)(hm:σ.o m=.attrs fs)(h:k ρ (σ.put i (.inst 346 m (k7 sl j d))))(ho:EV Ω l N ρ σ o fun ov=>ov=.loc i):
  AS Ω l N ρ σ (.Attribute o (Str.ofString x) pos) d k:=
 Ed (ho.mono fun ov e=>(Vd i _ _ _ _ q j e hi hm (jk HK x q j hx) h))
section
variable (HK:Ω.K=hd.heap_1 Ω.w.params)
include HK
theorem za (n:Nat)(σ:Sg)(i m:Nat)(x:Str)(k:D→Sg→Prop)(hi:σ.o i=.inst 346 m [])(hm:σ.o m=.attrs [])(rN:i<σ.n)(lB:m<σ.n)
  (h:∀ σ',σ'.n=σ.n+1→σ'.o i=.inst 346 m [some (.str x),some (.int 0),some (.loc σ.n)]→σ'.o σ.n=.list []→(∀ j,j<σ.n→j≠i→σ'.o j=σ.o j)→k .none σ'):vD Ω ⟨n+1,true⟩ 342 [.loc i,.str x] [] σ k:=by
 refine iY (xI HK) (Xe.of_eq (xs:=["self","node"]) rfl fun vs hv=>by refine jE (fun a0 a1 e_1=>?_) (ka hv);subst e_1;rfl) (by rfl) ?_;dsimp only [jZ,kO,List.zip,List.zipWith];have mi:m≠i:=fun e=>by rw [e,hi] at hm;exact DL hm rfl
 refine ac (cG (fun χ=>rfl) (fun χ=>rfl) (fun χ=>rfl) (.pure (aa rfl ?_ rfl)));refine BA HK "node" 347 0 (by simp) hi hm ?_ (aa rfl rfl rfl);generalize C8:σ.put i (.inst 346 m (k7 [] 0 (.str x)))=aq;have i1:aq.o i=.inst 346 m [some (.str x)]:=by refine rv C8.symm (rv (Sg.aN _ _ _ _) (rv (YH rfl) ?_));rfl
 have m1:aq.o m=.attrs []:=rv C8.symm (rv (Sg.aN _ _ _ _) (rv (Yz mi) hm));refine ac (cG (fun χ=>rfl) (fun χ=>rfl) (fun χ=>rfl) (.pure (af ?_)));refine BA HK "npredecessors" 348 1 (by simp) i1 m1 ?_ (aa rfl rfl rfl);generalize C7:aq.put i (.inst 346 m (k7 [some (.str x)] 1 (.int 0)))=aM;have i2:aM.o i=.inst 346 m [some (.str x),some (.int 0)]:=by refine rv C7.symm (rv (Sg.aN _ _ _ _) (rv (YH rfl) ?_));rfl
 have m2:aM.o m=.attrs []:=rv C7.symm (rv (Sg.aN _ _ _ _) (rv (Yz mi) m1));have n2:aM.n=σ.n:=by refine rv C7.symm (rv C8.symm ?_);rfl
 refine ac (cG (fun χ=>rfl) (fun χ=>rfl) (fun χ=>rfl) (bU (aB ⟨Nat.zero_le _,?_⟩)));have i3:(aM.add (.list [])).o i=.inst 346 m [some (.str x),some (.int 0)]:=Sg.an (N_ rN n2) i2;have m3:(aM.add (.list [])).o m=.attrs []:=Sg.an (N_ lB n2) m2;refine BA HK "successors" 349 2 (by simp) i3 m3 ?_ (aa rfl rfl rfl);refine rv n2 ?_;refine ao (h _ ?_ ?_ ?_ fun j h1 h2=>?_)
 ·exact rv (Sg.bF _ _ _) (rv (Sg.add_n _ _) (rv n2 rfl))
 ·refine rv (Sg.aN _ _ _ _) (rv (YH rfl) ?_);rfl
 ·exact rv (Sg.aN _ _ _ _) (rv (Yz (Nm rN)) (rv (Sg.aZ _ _ _) (rv (YH n2.symm) rfl)))
 ·exact rv (Sg.aN _ _ _ _) (rv (Yz h2) (rv (Sg.aZ _ _ _) (rv (Yz (N8 n2 h1)) (rv C7.symm (rv (Sg.aN _ _ _ _) (rv (Yz h2) (rv C8.symm (rv (Sg.aN _ _ _ _) (rv (Yz h2) rfl)))))))))
theorem Ln (n:Nat)(σ:Sg)(x:Str)(k:D→Sg→Prop)
  (h:∀ σ',σ'.n=σ.n+3→σ'.o (σ.n+1)=.inst 346 σ.n [some (.str x),some (.int 0),some (.loc (σ.n+2))]→σ'.o σ.n=.attrs []→σ'.o (σ.n+2)=.list []→(∀ j,j<σ.n→σ'.o j=σ.o j)→k (.loc (σ.n+1)) σ'):CE Ω ⟨n+2,true⟩ 346 [.str x] [] σ k:=by
 refine rM (fI:=342) (rv HK (zO _)) (rv HK (CA _)) (rv HK (zP _)) ?_;generalize dF:(σ.add (.attrs [])).add (.inst 346 σ.n [])=aq;have hi:aq.o (σ.n+1)=.inst 346 σ.n []:=rv dF.symm (rv (Sg.aZ _ _ _) (rv (YH (by rw [Sg.add_n])) rfl));have hm:aq.o σ.n=.attrs []:=rv dF.symm (rv (Sg.aZ _ _ _) (rv (Yz (by rw [Sg.add_n];exact J8)) (rv (Sg.aZ _ _ _) (rv (YH rfl) rfl))));have hn:aq.n=σ.n+2:=by refine rv dF.symm ?_;rfl
 have ho:∀ j,j<σ.n→aq.o j=σ.o j:=fun j hj=>rv dF.symm (rv (Sg.aZ _ _ _) (rv (Yz (by rw [Sg.add_n];exact J_ hj)) (rv (Sg.aZ _ _ _) (rv (Yz (BL hj)) rfl))));refine za HK n aq (σ.n+1) σ.n x _ hi hm (Nk hn) (J9 hn) fun σ' e1 e2 e3 e4=>⟨rfl,h σ' (Tn hn e1) (rv e2 (rv hn rfl)) ((e4 _ (J9 hn) (K5)).trans hm) (rv hn.symm e3) fun j hj=>(e4 j (KV hn hj) (KS hj)).trans (ho j hj)⟩
theorem Ll (n:Nat)(σ:Sg)(k:D→Sg→Prop)
  (h:∀ σ',σ'.n=σ.n+3→σ'.o (σ.n+1)=.inst 443 σ.n []→σ'.o σ.n=.attrs [("_node2info",.loc (σ.n+2)),("_ready_nodes",.none),("_npassedout",.int 0),("_nfinished",.int 0)]→σ'.o (σ.n+2)=.bB []→(∀ j,j<σ.n→σ'.o j=σ.o j)→k (.loc (σ.n+1)) σ'):CE Ω ⟨n+2,true⟩ 443 [] [] σ k:=by
 refine rM (fI:=379) (rv HK (yO _)) (rv HK (BW _)) (rv HK (yP _)) ?_;refine iY (xG HK) (Xe.pZ (xs:=["self"]) (T:=372) (ex:=[("graph",.none)]) (exρ:=[("graph",.none)]) rfl (by refine rv HK ?_;rfl) rfl rfl (fun vs hv=>by obtain ⟨a0,rfl⟩:=eJ hv;exact (aF _ rfl rfl)) fun P h=>.cons _ _ _ _ _ .none .nil) (by rfl) ?_;generalize dF:(σ.add (.attrs [])).add (.inst 443 σ.n [])=aq;have hi:aq.o (σ.n+1)=.inst 443 σ.n []:=rv dF.symm (rv (Sg.aZ _ _ _) (rv (YH (by rw [Sg.add_n])) rfl));have hm:aq.o σ.n=.attrs []:=rv dF.symm (rv (Sg.aZ _ _ _) (rv (Yz (by rw [Sg.add_n];exact J8)) (rv (Sg.aZ _ _ _) (rv (YH rfl) rfl))));have hn:aq.n=σ.n+2:=by refine rv dF.symm ?_;rfl
 have ho:∀ j,j<σ.n→aq.o j=σ.o j:=fun j hj=>rv dF.symm (rv (Sg.aZ _ _ _) (rv (Yz (by rw [Sg.add_n];exact J_ hj)) (rv (Sg.aZ _ _ _) (rv (Yz (BL hj)) rfl))));dsimp only [jV,kK,List.zip,List.zipWith,List.cons_append,List.nil_append];refine ac (cG (fun χ=>rfl) (fun χ=>rfl) (fun χ=>rfl) (n7 ?_));have i1:(aq.add (.bB [])).o (σ.n+1)=.inst 443 σ.n []:=Sg.an (RI hn) hi;have m1:(aq.add (.bB [])).o σ.n=.attrs []:=Sg.an (Rk hn) hm;refine t7 HK "_node2info" (by simp) rfl i1 m1 (YF rfl) rfl ?_;refine ac (cG (fun χ=>rfl) (fun χ=>rfl) (fun χ=>rfl) (.pure (bL ?_)));refine t7 HK "_ready_nodes" (by simp) rfl (a7 i1 m1) aR (YF rfl) rfl ?_;refine rv cZ ?_;refine ac (cG (fun χ=>rfl) (fun χ=>rfl) (fun χ=>rfl) (.pure (af ?_)));refine t7 HK "_npassedout" (by simp) rfl (a7 i1 m1) aR (YF rfl) rfl ?_;refine rv cZ ?_;refine ac (cG (fun χ=>rfl) (fun χ=>rfl) (fun χ=>rfl) (.pure (af ?_)));refine t7 HK "_nfinished" (by simp) rfl (a7 i1 m1) aR (YF rfl) rfl ?_;refine rv cZ ?_;refine ac (bc (.pure (aC rfl (aa rfl (bL ?_) rfl))));refine jp ⟨(fun h=>nomatch h),fun χ=>ao (ao ⟨rfl,h _ ?_ (a7 i1 m1) ?_ ?_ fun j hj=>?_⟩)⟩
 ·exact rv (Sg.bF _ _ _) (rv (Sg.add_n _ _) (rv hn rfl))
 ·refine rv aR (rv hn ?_);rfl
 ·exact rv (Sg.aN _ _ _ _) (rv (Yz (NE)) (rv (Sg.aZ _ _ _) (rv (YH (RH hn)) rfl)))
 ·exact Sg.pn (BM hj) (Sg.an (To hn hj) (ho j hj))
end
structure Xd where
 key:Str
 np:Int
 su:List Str
 a:Nat
 m:Nat
 s:Nat
structure Xd.At (e:Xd)(σ:Sg):Prop where
 ha:σ.o e.a=.inst 346 e.m [some (.str e.key),some (.int e.np),some (.loc e.s)]
 hm:σ.o e.m=.attrs []
 hs:σ.o e.s=.list (e.su.map D.str)
 la:e.a<σ.n
 lm:e.m<σ.n
 ls:e.s<σ.n
noncomputable def bW (es:List Xd):List (Str×D):=es.map fun e=>(e.key,D.loc e.a)
noncomputable def pI (jn:Nat)(r:D)(po nf:Int):List (Str×D):=[("_node2info",.loc jn),("_ready_nodes",r),("_npassedout",.int po),("_nfinished",.int nf)]
structure TS (σ:Sg)(i m jn:Nat)(r:D)(po nf:Int)(es:List Xd):Prop where
 hi:σ.o i=.inst 443 m []
 hm:σ.o m=.attrs (pI jn r po nf)
 hj:σ.o jn=.bB (bW es)
 li:i<σ.n
 lm:m<σ.n
 lj:jn<σ.n
 ent:∀ e∈es,e.At σ
 keys:(es.map (fun x=>x.key)).Nodup
 ss:(es.map (fun x=>x.s)).Nodup
noncomputable def Dq (i m jn:Nat)(es:List Xd)(j:Nat):Prop:=j=i∨j=m∨j=jn∨∃ e∈es,j=e.a∨j=e.m∨j=e.s
theorem fP {α β:Type}{f:α→β}{l:List α}(h:(l.map f).Nodup)(x:α)(hx:x∈l)(y:α)(hy:y∈l)(e:f x=f y):x=y:=by
 induction l with
 | nil=>exact absurd hx List.not_mem_nil
 | cons a l i=>
  rw [List.map_cons,Y0] at h;rcases YC.mp hx with e1 | hx
  ·rcases YC.mp hy with e2 | hy
   ·exact rv e1 (rv e2 rfl)
   ·exact absurd (Yt.mpr (aF y hy (by exact rv e.symm (rv e1 rfl)))) h.1
  ·rcases YC.mp hy with e2 | hy
   ·exact absurd (Yt.mpr (aF x hx (by exact rv e (rv e2 rfl)))) h.1
   ·exact i h.2 hx hy
section
variable {i m jn:Nat}{r:D}{po nf:Int}{es:List Xd}
theorem TS.pg (T:TS σ i m jn r po nf es){e f:Xd}(he:e∈es)(hf:f∈es)(h:e.key=f.key):e=f:=fP T.keys e he f hf h
theorem TS.Pq (T:TS σ i m jn r po nf es){e f:Xd}(he:e∈es)(hf:f∈es)(h:e.a=f.a):e=f:=by
 have h1:=(T.ent e he).ha;have h2:=(T.ent f hf).ha;rw [h,h2] at h1;injection h1 with _ _ h3
 injection h3 with h3 _
 injection h3 with h3
 injection h3 with h3
 exact T.pg he hf h3.symm
theorem TS.sEq (T:TS σ i m jn r po nf es){e f:Xd}(he:e∈es)(hf:f∈es)(h:e.s=f.s):e=f:=fP T.ss e he f hf h
theorem xU (es:List Xd):(bW es).length=es.length:=List.length_map ..
theorem nC (x:Str):∀ es:List Xd,cP (bW es) x=(es.find? fun e=>e.key=x).map fun e=>D.loc e.a
 | []=>rfl
 | e::es=>by
  have ih:=nC x es;unfold cP bW at ih ⊢;refine rv List.map_cons (rv (List.find?_cons) (rv (List.find?_cons) ?_))
  by_cases q:e.key=x
  ·simp [q]
  ·simp only [q,decide_false];exact ih
theorem TS.at (T:TS σ i m jn r po nf es){e:Xd}(he:e∈es){x:Str}(hx:e.key=x):cP (bW es) x=some (.loc e.a):=by
 refine rv (nC _ _) ?_;cases q:es.find? fun e=>e.key=x with
 | none=>exact absurd hx (by simpa using List.find?_eq_none.mp q e he)
 | some f=>
  have h1:=List.mem_of_find?_eq_some q;have h2:=List.find?_some q;refine rv (T.pg he h1 (hx.trans (by simpa using h2:f.key=x).symm)) ?_;rfl
theorem DJ {x:Str}(h:∀ e∈es,e.key≠x):cP (bW es) x=none:=by
 refine rv (nC _ _) (rv (List.find?_eq_none.mpr (fun e he=>by simpa using h e he)) ?_);rfl
theorem TS.keep (T:TS σ i m jn r po nf es){σ':Sg}(hn:σ.n≤σ'.n)(h:∀ j,j<σ.n→Dq i m jn es j→σ'.o j=σ.o j):TS σ' i m jn r po nf es where
 hi:=(h i T.li (.inl rfl)).trans T.hi
 hm:=(h m T.lm (.inr (.inl rfl))).trans T.hm
 hj:=(h jn T.lj (.inr (.inr (.inl rfl)))).trans T.hj
 li:=YG T.li hn
 lm:=YG T.lm hn
 lj:=YG T.lj hn
 ent e he:=by
  have E:=T.ent e he;exact ⟨(h _ E.la (.inr (.inr (.inr (aF e he (.inl rfl)))))).trans E.ha,(h _ E.lm (.inr (.inr (.inr (aF e he (.inr (.inl rfl))))))).trans E.hm,(h _ E.ls (.inr (.inr (.inr (aF e he (.inr (.inr rfl))))))).trans E.hs,
   YG E.la hn,YG E.lm hn,YG E.ls hn⟩
 keys:=T.keys
 ss:=T.ss
theorem dJ {α:Type}{es:List Xd}{f:Xd→Xd}{g:Xd→α}(h:∀ e,g (f e)=g e):(es.map f).map g=es.map g:=by
 exact rv List.map_map (YL fun e χ=>h e)
noncomputable def cb (x:Str)(c:Int)(es:List Xd):List Xd:=es.map fun f=>if f.key=x then { f with np:=c } else f
noncomputable def i_ (x:Str)(xs:List Str)(es:List Xd):List Xd:=es.map fun f=>if f.key=x then { f with su:=xs } else f
theorem ut (x:Str)(c:Int)(es:List Xd):bW (cb x c es)=bW es:=dJ fun e=>by (try dsimp only);split<;>rfl
theorem uq (x:Str)(c:List Str)(es:List Xd):bW (i_ x c es)=bW es:=dJ fun e=>by (try dsimp only);split<;>rfl
theorem TS.np (T:TS σ i m jn r po nf es){e:Xd}(he:e∈es)(c:Int):TS (σ.put e.a (.inst 346 e.m [some (.str e.key),some (.int c),some (.loc e.s)])) i m jn r po nf (cb e.key c es):=by
 have E:=T.ent e he;have ne:∀ j,(∀ q sl,σ.o j≠.inst 346 q sl)→j≠e.a:=fun j h q=>h _ _ (q▸E.ha);have o:∀ j,j≠e.a→(σ.put e.a (.inst 346 e.m [some (.str e.key),some (.int c),some (.loc e.s)])).o j=σ.o j:=fun j h=>rv (Sg.aN _ _ _ _) (rv (Yz h) rfl);refine ⟨(o i (ne i fun q sl z=>by rw [T.hi] at z;injection z with z;exact absurd z (by decide))).trans T.hi,(o m (ne m fun q sl z=>gR T.hm z rfl)).trans T.hm,?_,T.li,T.lm,T.lj,fun f hf=>?_,?_,?_⟩
 ·exact rv (ut _ _ _) ((o jn (ne jn fun q sl z=>gR T.hj z rfl)).trans T.hj)
 ·refine az (fun g hg e_1=>?_) (Yt.mp hf);subst e_1;have G:=T.ent g hg
  by_cases q:g.key=e.key
  ·obtain rfl:=T.pg hg he q;simp only [if_true];exact ⟨rv (Sg.aN _ _ _ _) (rv (YH rfl) rfl),(o _ (ne _ fun q sl z=>gR G.hm z rfl)).trans G.hm,(o _ (ne _ fun q sl z=>gR G.hs z rfl)).trans G.hs,G.la,G.lm,G.ls⟩
  ·simp only [q,if_false];exact ⟨(o _ fun z=>q (congrArg _ (T.Pq hg he z))).trans G.ha,(o _ (ne _ fun q sl z=>gR G.hm z rfl)).trans G.hm,(o _ (ne _ fun q sl z=>gR G.hs z rfl)).trans G.hs,G.la,G.lm,G.ls⟩
 ·unfold cb;refine rv (dJ (g:=(fun x=>x.key)) fun e=>by (try dsimp only);split<;>rfl) ?_;exact T.keys
 ·unfold cb;refine rv (dJ (g:=(fun x=>x.s)) fun e=>by (try dsimp only);split<;>rfl) ?_;exact T.ss
theorem TS.su (T:TS σ i m jn r po nf es){e:Xd}(he:e∈es)(xs:List Str):TS (σ.put e.s (.list (xs.map D.str))) i m jn r po nf (i_ e.key xs es):=by
 have E:=T.ent e he;have ne:∀ j,(∀ q,σ.o j≠.list q)→j≠e.s:=fun j h q=>h _ (q▸E.hs);have o:∀ j,j≠e.s→(σ.put e.s (.list (xs.map D.str))).o j=σ.o j:=fun j h=>rv (Sg.aN _ _ _ _) (rv (Yz h) rfl);refine ⟨(o i (ne i fun q z=>gR T.hi z rfl)).trans T.hi,(o m (ne m fun q z=>gR T.hm z rfl)).trans T.hm,?_,T.li,T.lm,T.lj,fun f hf=>?_,?_,?_⟩
 ·exact rv (uq _ _ _) ((o jn (ne jn fun q z=>gR T.hj z rfl)).trans T.hj)
 ·refine az (fun g hg e_2=>?_) (Yt.mp hf);subst e_2;have G:=T.ent g hg
  by_cases q:g.key=e.key
  ·obtain rfl:=T.pg hg he q;simp only [if_true];exact ⟨(o _ (ne _ fun q z=>gR G.ha z rfl)).trans G.ha,(o _ (ne _ fun q z=>gR G.hm z rfl)).trans G.hm,rv (Sg.aN _ _ _ _) (rv (YH rfl) rfl),G.la,G.lm,G.ls⟩
  ·simp only [q,if_false];exact ⟨(o _ (ne _ fun q z=>gR G.ha z rfl)).trans G.ha,(o _ (ne _ fun q z=>gR G.hm z rfl)).trans G.hm,(o _ fun z=>q (congrArg _ (T.sEq hg he z))).trans G.hs,G.la,G.lm,G.ls⟩
 ·unfold i_;refine rv (dJ (g:=(fun x=>x.key)) fun e=>by (try dsimp only);split<;>rfl) ?_;exact T.keys
 ·unfold i_;refine rv (dJ (g:=(fun x=>x.s)) fun e=>by (try dsimp only);split<;>rfl) ?_;exact T.ss
end
section
variable (HK:Ω.K=hd.heap_1 Ω.w.params)
include HK
theorem xx (n:Nat)(σ:Sg)(i m jn:Nat)(r:D)(po nf:Int)(es:List Xd)(x:Str)(k:D→Sg→Prop)(T:TS σ i m jn r po nf es)(hz:es.length≤20)
  (h1:∀ e∈es,e.key=x→k (.loc e.a) σ)
  (h2:(∀ e∈es,e.key≠x)→∀ σ',TS σ' i m jn r po nf (es++[⟨x,0,[],σ.n+1,σ.n,σ.n+2⟩])→σ'.n=σ.n+3→(∀ j,j<σ.n→j≠jn→σ'.o j=σ.o j)→k (.loc (σ.n+1)) σ'):CE Ω ⟨n+3,true⟩ 386 [.loc i,.str x] [] σ k:=by
 refine b8 (iF HK) (Xe.of_eq (xs:=["self","node"]) rfl fun vs hv=>by refine jE (fun a0 a1 e_3=>?_) (ka hv);subst e_3;rfl) (by rfl) ?_;dsimp only [iN,iW,List.zip,List.zipWith];refine ac (tX rfl (.pure (w8 "dict.get" "dict" qj (by decide) rfl rfl (by decide) rfl (dQ HK "_node2info" (by simp) rfl T.hi T.hm rfl ⟨jn,rfl,by refine rv T.hj ?_;rfl,ae rfl (aa rfl (ak (v7 T.hj ?_)) rfl)⟩))))
 by_cases hx:∃ e∈es,e.key=x
 ·revert hx;refine az fun e he hx=>?_;refine rv (T.at he hx) ?_;refine ⟨(fun h=>nomatch h),fun χ=>ao ?_⟩;exact ac (bg (.pure (aa rfl (h1 e he hx) rfl)))
 ·have sP:∀ e∈es,e.key≠x:=fun e he q=>hx (aF e he q);refine rv (DJ sP) ?_;refine ⟨fun χ=>?_,(fun h=>nomatch h)⟩;refine ac (gT (fun χ=>rfl) (fun χ=>rfl) (jO rfl (qM HK) (rv HK (Cz _)) rfl rfl (aw rfl (.pure (aa rfl (aB (Ln HK n σ x _ fun σ' e1 e2 e3 e4 e5=>?_)) rfl)))));have iP:=(e5 i T.li).trans T.hi;have Ky:=(e5 m T.lm).trans T.hm;have Dg:=(e5 jn T.lj).trans T.hj;refine xe (dQ HK "_node2info" (by simp) rfl iP Ky rfl ⟨jn,rfl,_,Dg,rv (xU _) (rv Yy (BK hz)),aa rfl ⟨x,rfl,?_⟩ rfl⟩);refine jP rfl (ao (ac (bg (.pure (aa rfl (h2 sP _ ?_ e1 fun j hj gi=>?_) rfl)))))
  ·have lj:=T.lj;have li:=T.li;have lm:=T.lm;have o:∀ j,j≠jn→(σ'.put jn (.bB (c6 (bW es) x (.loc (σ.n+1))))).o j=σ'.o j:=fun j h=>rv (Sg.aN _ _ _ _) (rv (Yz h) rfl);have ep:c6 (bW es) x (.loc (σ.n+1))=bW (es++[⟨x,0,[],σ.n+1,σ.n,σ.n+2⟩]):=by
    unfold c6;rw [Yz,bW,bW,List.map_append];rfl;intro q;refine az (fun kv VP q=>?_) (Y3.mp q);refine az (fun e he e_4=>?_) (Yt.mp VP);subst e_4;exact sP e he (YF q)
   have nj:∀ j,(∀ q,σ.o j≠.bB q)→j≠jn:=fun j h q=>h _ (q▸T.hj);refine ⟨(o i (nj i fun q z=>gR T.hi z rfl)).trans iP,(o m (nj m fun q z=>gR T.hm z rfl)).trans Ky,rv aR (rv ep rfl),rv (Sg.bF _ _ _) (Hr e1 li),rv (Sg.bF _ _ _) (Hr e1 lm),rv (Sg.bF _ _ _) (Hr e1 lj),fun e he=>?_,?_,?_⟩
   ·rcases Yr.mp he with he | he
    ·have E:=T.ent e he;have la:=E.la;have lm:=E.lm;have ls:=E.ls;exact ⟨(o _ (nj _ fun q z=>gR E.ha z rfl)).trans ((e5 _ la).trans E.ha),(o _ (nj _ fun q z=>gR E.hm z rfl)).trans ((e5 _ lm).trans E.hm),(o _ (nj _ fun q z=>gR E.hs z rfl)).trans ((e5 _ ls).trans E.hs),rv (Sg.bF _ _ _) (Hr e1 la),rv (Sg.bF _ _ _) (Hr e1 lm),rv (Sg.bF _ _ _) (Hr e1 ls)⟩
    ·refine rv (Yq.mp he) ?_;exact ⟨(o _ (by (try dsimp only);exact Nq lj)).trans e2,(o _ (by (try dsimp only);exact HT lj)).trans e3,(o _ (by (try dsimp only);exact Np lj)).trans e4,by rw [Sg.bF];(try dsimp only);exact Rj e1,by rw [Sg.bF];(try dsimp only);exact Rh e1,by rw [Sg.bF];(try dsimp only);exact Ri e1⟩
   ·refine rv List.map_append (rv (propext (List.nodup_append)) ?_);refine ⟨T.keys,by simp,fun a ha b hb q=>?_⟩;refine az (fun e he e_5=>?_) (Yt.mp ha);subst e_5;simp only [List.map_cons,List.map_nil,Yq] at hb;exact sP e he (q.trans hb)
   ·refine rv List.map_append (rv (propext (List.nodup_append)) ?_);refine ⟨T.ss,by simp,fun a ha b hb q=>?_⟩;refine az (fun e he e_6=>?_) (Yt.mp ha);subst e_6;simp only [List.map_cons,List.map_nil,Yq] at hb;have:=(T.ent e he).ls;exact SS q hb this
  ·exact Sg.pn gi (e5 j hj)
end
theorem w9 {f:Str}{p pos:Pos}{arg:PySem.Expr}{k:D→Prop}(hg:lk f N=some .globalImplicit)(e:(Ω.C.mg f).or (Ω.C.mb f)=some (.builtin "len"))(hn:Xc [arg]=true)(hd:sEq f "__debug__"=false)
  (h:EV Ω l N ρ σ arg fun d=>∃ xs,d=.tup xs∧xs.length<2^63∧k (.int xs.length)):EV Ω l N ρ σ (.Call (.Name f p) [arg] [] pos) k:=fun A B μ env s R F Q E kk=>
 Call_Name rfl ((aT (k:=fun d=>d=.val (.builtin "len")) hg e (.val _ rfl) rfl hd A B μ env s R F).go fun v s₁ ai d hq r=>by
  obtain rfl:=hq;refine W_.cR r ?_;have hp:=aK (env:=env) pos hn;refine Calls.callWith_builtin hp (bw hp ((ae (k:=fun ds=>∃ xs,ds=[.tup xs]∧xs.length<2^63∧k (.int xs.length)) hn (h.mono fun d hd=>ak (by revert hd;refine az fun xs e_1 r=>?_;subst e_1;exact (aF xs rfl r))) A B μ env s₁ pos R (F.grown ai)).go fun vs ag ar ds hq rs=>?_));revert hq;refine db fun xs e_2 hz hk=>?_;subst e_2;refine az (fun v e_3 r=>?_) rs.one;subst e_3;refine fD (fun a us n e_4 pa o rr=>?_) (oM r);subst e_4;have hs:us.toArray.size=xs.length:=rv YT (rv rr.length rfl);refine len_tuple (eQ _ o rfl ⟨_,rfl⟩) (by refine rv hs ?_;exact_mod_cast hz) (kk _ _ ((ai.trans ar).trans (.tok _ 2)) ⟨_,hk,?_⟩);exact rv hs (.int _ _))
noncomputable abbrev PE:=Str×Int×List Str
noncomputable def Xd.pr (e:Xd):PE:=(e.key,e.np,e.su)
noncomputable def dq (ps:List PE)(x:Str):List PE:=if ps.any (fun p=>decide (p.1=x)) then ps else ps++[(x,0,[])]
noncomputable def gd (ps:List PE)(x:Str)(c:Int):List PE:=ps.map fun p=>if p.1=x then (p.1,p.2.1+c,p.2.2) else p
noncomputable def df (ps:List PE)(x y:Str):List PE:=ps.map fun p=>if p.1=x then (p.1,p.2.1,p.2.2++[y]) else p
noncomputable def oJ (ps:List PE)(x:Str)(xs:List Str):List PE:=xs.foldl (fun ps p=>df (dq ps p) p x) (gd (dq ps x) x xs.length)
theorem Iu {es:List Xd}{e:Xd}{i m jn:Nat}{r:D}{po nf:Int}{σ:Sg}(T:TS σ i m jn r po nf es)(he:e∈es)(c:Int):(cb e.key (e.np+c) es).map Xd.pr=gd (es.map Xd.pr) e.key c:=by
 unfold cb gd;refine rv List.map_map (rv List.map_map ?_);refine YL fun f hf=>?_;simp only [Function.comp,Xd.pr]
 by_cases q:f.key=e.key
 ·obtain rfl:=T.pg hf he q;simp
 ·simp [q]
theorem It {es:List Xd}{e:Xd}{i m jn:Nat}{r:D}{po nf:Int}{σ:Sg}(T:TS σ i m jn r po nf es)(he:e∈es)(y:Str):(i_ e.key (e.su++[y]) es).map Xd.pr=df (es.map Xd.pr) e.key y:=by
 unfold i_ df;refine rv List.map_map (rv List.map_map ?_);refine YL fun f hf=>?_;simp only [Function.comp,Xd.pr]
 by_cases q:f.key=e.key
 ·obtain rfl:=T.pg hf he q;simp
 ·simp [q]
theorem B6 {ps:List PE}{c:Nat}(h:∀ p∈ps,p.2.2.length≤c)(x:Str):∀ p∈dq ps x,p.2.2.length≤c:=fun p hp=>by
 unfold dq at hp;split at hp
 ·exact h p hp
 ·rcases Yr.mp hp with hp | hp
  ·exact h p hp
  ·exact rv (Yq.mp hp) (Nat.zero_le _)
theorem vS {ps:List PE}{c:Nat}(h:∀ p∈ps,p.2.2.length≤c)(x:Str)(y:Int):∀ p∈gd ps x y,p.2.2.length≤c:=fun p hp=>by
 refine az (fun q hq e_1=>?_) (Yt.mp hp);subst e_1;have:=h q hq;split<;>exact this
theorem B4 {ps:List PE}{c:Nat}(h:∀ p∈ps,p.2.2.length≤c)(x y:Str):∀ p∈df ps x y,p.2.2.length≤c+1:=fun p hp=>by
 refine az (fun q hq e_2=>?_) (Yt.mp hp);subst e_2;have:=h q hq;split
 ·simp only [List.length_append,List.length_cons,List.length_nil];lia -abstractProof
 ·lia -abstractProof
theorem vR {x:Str}(l:List Str){ps:List PE}{c:Nat}(h:∀ p∈ps,p.2.2.length≤c)(p:PE)(hp:p∈l.foldl (fun ps p=>df (dq ps p) p x) ps):p.2.2.length≤c+l.length:=by
 induction l generalizing ps c with
 | nil=>exact h p hp
 | cons a l i=>
  have:=i (B4 (B6 h a) a x) hp;simp only [List.length_cons];lia -abstractProof
structure Go (i m jn:Nat)(σ:Sg)(es:List Xd)(σ':Sg)(gc:List Xd):Prop where
 le:σ.n≤σ'.n
 keep:∀ j,j<σ.n→¬ Dq i m jn es j→σ'.o j=σ.o j
 fp:∀ j,Dq i m jn gc j→Dq i m jn es j∨σ.n≤j
section
variable {aq aM:Sg}{i m jn:Nat}{r:D}{po nf:Int}{es bl dg:List Xd}
theorem Go.refl:Go i m jn σ es σ es:=⟨YE _,fun χ χ χ=>rfl,fun χ h=>.inl h⟩
theorem Go.trans (x:Go i m jn σ es aq bl)(y:Go i m jn aq bl aM dg):Go i m jn σ es aM dg where
 le:=Ys x.le y.le
 keep j hj hn:=(y.keep j (YG hj x.le) fun h=>by
  rcases x.fp j h with h | h
  ·exact hn h
  ·lia -abstractProof).trans (x.keep j hj hn)
 fp j h:=by
  rcases y.fp j h with h | h
  ·exact x.fp j h
  ·exact .inr (Ys x.le h)
theorem AR {f:Xd→Xd}(h:∀ e,(f e).a=e.a∧(f e).m=e.m∧(f e).s=e.s){j:Nat}(x:Dq i m jn (es.map f) j):Dq i m jn es j:=by
 rcases x with x | x | x | ⟨e,he,x⟩
 ·exact .inl x
 ·exact .inr (.inl x)
 ·exact .inr (.inr (.inl x))
 ·refine az (fun g hg e=>?_) (Yt.mp he);subst e;refine e8 (fun h1 h2 h3=>?_) (h g);rw [h1,h2,h3] at x;exact .inr (.inr (.inr (aF g hg x)))
theorem Go.put {f:Xd→Xd}(h:∀ e,(f e).a=e.a∧(f e).m=e.m∧(f e).s=e.s){b:Nat}(hb:Dq i m jn es b){x:cB}:Go i m jn σ es (σ.put b x) (es.map f):=
 ⟨YE _,fun j χ hn=>rv (Sg.aN _ _ _ _) (rv (Yz fun (q:j=b)=>hn (q▸hb)) rfl),fun j h'=>.inl (AR h h')⟩
theorem Go.np {e:Xd}(he:e∈es)(c:Int){x:cB}:Go i m jn σ es (σ.put e.a x) (cb e.key c es):=Go.put (fun e=>by (try dsimp only);split<;>exact ⟨rfl,rfl,rfl⟩) (.inr (.inr (.inr (aF e he (.inl rfl)))))
theorem Go.su {e:Xd}(he:e∈es)(c:List Str){x:cB}:Go i m jn σ es (σ.put e.s x) (i_ e.key c es):=Go.put (fun e=>by (try dsimp only);split<;>exact ⟨rfl,rfl,rfl⟩) (.inr (.inr (.inr (aF e he (.inr (.inr rfl))))))
theorem oS {e:Xd}(he:e∈es)(c:Int):{ e with np:=c }∈cb e.key c es:=Yt.mpr (aF e he (by simp))
theorem n6 (HK:Ω.K=hd.heap_1 Ω.w.params)(x:String){f:Addr}{i m:Nat}{fs:List (Str×D)}{p apos pos:Pos}{args:List PySem.Expr}{k:D→Sg→Prop}(hx:(x,f)∈([("_get_nodeinfo",386),("add",393),("prepare",398),("get_ready",405),("is_active",412),("done",426),("_find_cycle",433)]:List (String×Addr))){nm:Str}(hs:lk nm ρ=some (.loc i))(hi:σ.o i=.inst 443 m [])(hm:σ.o m=.attrs fs)(hl:lk (Str.ofString x) fs=none)(hf:rF Ω f)
  (he:∀ env,∃ pl,eval (.Call (.Attribute (.Name nm p) (Str.ofString x) apos) args [] pos) env=(do
   let ov ← eval (.Name nm p) env
   standAt apos.atName
   let (f,first) ← holding [ov] (getMethod ov (Str.ofString x) pl)
   callWith pos f first (backTo pos (starEach args env)) (backToKw pos (keywordEach [] env)))) (hn:Xc args=true) (hd:(sEq nm "__debug__"||sEq nm "__classdict__")=false)
  (h:yG Ω l N ρ σ args fun ds σ'=>CE Ω l f (.loc i::ds) [] σ' k):EF Ω l N ρ σ (.Call (.Attribute (.Name nm p) (Str.ofString x) apos) args [] pos) k:=
 t4 f he hn hf (aa hs ⟨_,rfl,_,_,_,_,hi,hm,hl,oN HK x f hx,h⟩ hd)
end
section
variable (HK:Ω.K=hd.heap_1 Ω.w.params)
include HK
theorem ju {σ:Sg}{e:Xd}(E:e.At σ):vy Ω σ e.a "npredecessors" (.int e.np):=kA E.ha E.hm (jk HK "npredecessors" 348 1 (by simp)) rfl rfl
theorem lH {σ:Sg}{e:Xd}(E:e.At σ)(c:Int):Bj Ω σ e.a "npredecessors" (.int c) (σ.put e.a (.inst 346 e.m [some (.str e.key),some (.int c),some (.loc e.s)])):=xq E.ha E.hm (jk HK "npredecessors" 348 1 (by simp))
theorem qO {σ:Sg}{e:Xd}(E:e.At σ):vy Ω σ e.a "successors" (.loc e.s):=kA E.ha E.hm (jk HK "successors" 349 2 (by simp)) rfl rfl
theorem Do {σ:Sg}{e:Xd}(E:e.At σ):vy Ω σ e.a "node" (.str e.key):=kA E.ha E.hm (jk HK "node" 347 0 (by simp)) rfl rfl
theorem mj (n:Nat)(σ:Sg)(i m jn:Nat)(r:D)(po nf:Int)(es:List Xd)(x:Str)(k:D→Sg→Prop)(T:TS σ i m jn r po nf es)(hz:es.length≤20)
  (h:∀ σ' gc e,TS σ' i m jn r po nf gc→e∈gc→e.key=x→gc.map Xd.pr=dq (es.map Xd.pr) x→Go i m jn σ es σ' gc→gc.length≤es.length+1→k (.loc e.a) σ'):CE Ω ⟨n+3,true⟩ 386 [.loc i,.str x] [] σ k:=by
 refine xx HK n σ i m jn r po nf es x k T hz (fun e he hx=>h σ es e T he hx ?_ .refl (Nat.le_succ _)) fun hx σ' T' hn hk=>h σ' _ _ T' (Yn _ Yu) rfl ?_ ⟨by lia -abstractProof,fun j hj hf=>hk j hj fun q=>hf (q▸.inr (.inr (.inl rfl))),fun j hf=>?_⟩ (by simp)
 ·unfold dq;rw [YH];refine rv (propext (Y3)) ?_;exact aF e.pr (Yt.mpr (aF e he rfl)) (decide_eq_true hx)
 ·unfold dq;rw [Yz,List.map_append]
  ·rfl
  ·intro q;refine az (fun p hp q=>?_) (Y3.mp q);refine az (fun e he e_3=>?_) (Yt.mp hp);subst e_3;exact hx e he (YF q)
 ·rcases hf with hf | hf | hf | ⟨e,he,hf⟩
  ·exact .inl (.inl hf)
  ·exact .inl (.inr (.inl hf))
  ·exact .inl (.inr (.inr (.inl hf)))
  ·rcases Yr.mp he with he | he
   ·exact .inl (.inr (.inr (.inr (aF e he hf))))
   ·rw [Yq.mp he] at hf;dsimp only at hf;exact .inr (by lia -abstractProof)
theorem Ie (n:Nat)(σ:Sg)(i m jn:Nat)(po nf:Int)(es:List Xd)(x:Str)(xs:List Str)(k:D→Sg→Prop)(T:TS σ i m jn .none po nf es)(hz:es.length+1+xs.length≤20)(hs:∀ e∈es,e.su.length≤500)
  (h:∀ σ' gc,TS σ' i m jn .none po nf gc→gc.map Xd.pr=oJ (es.map Xd.pr) x xs→Go i m jn σ es σ' gc→gc.length≤es.length+1+xs.length→k .none σ'):vD Ω ⟨n+4,true⟩ 393 (.loc i::.str x::xs.map D.str) [] σ k:=by
 have Al:(xs.map D.str).length≤sizeLine:=by refine rv (List.length_map _) (rv Yy ?_);lia -abstractProof
 refine iY (FI HK) (Xe.zI (ds:=[.loc i,.str x]) (es:=xs.map D.str) (xs:=["self","node"]) (x:="predecessors") rfl Al fun us ws hu=>by refine jE (fun a b e=>?_) (ka hu);subst e;exact G9 Ω.w.params a b ws) (by rfl) ?_;dsimp only [uH,vo,List.zip,List.zipWith,List.cons_append,List.nil_append];refine ac (aL rfl (.pure (b_ ?_)));refine ac (bc (.pure (aC rfl (dQ HK "_ready_nodes" (by simp) rfl T.hi T.hm rfl (bL ?_)))));refine jp ⟨(fun h=>nomatch h),fun χ=>ao ?_⟩;refine ac (ah rfl rfl (n6 HK "_get_nodeinfo" (f:=386) (by simp) rfl T.hi T.hm rfl (.of (iF HK)) (fun χ=>⟨_,rfl⟩) rfl rfl (aw rfl (.pure (aa rfl (aB ?_) rfl)))));refine mj HK n σ i m jn .none po nf es x _ T (by lia -abstractProof) fun aq bl e nQ he hx wI ai Jh=>?_;subst hx;have E:=nQ.ent e he;have LY:(xs.map D.str).length=xs.length:=List.length_map ..;refine ac (l4 (.inl rfl) (aa rfl ⟨e.a,rfl,e.np,ju HK E,w9 rfl (gF HK) rfl rfl (aa rfl ⟨_,rfl,by lia -abstractProof,xs.length,rv LY rfl,_,rv (YH rfl) (lH HK E _),?_⟩ rfl)⟩ rfl));have dw:=nQ.np he (e.np+xs.length);have Fz:=Iu nQ he xs.length;have ar:=ai.trans (Go.np (σ:=aq) he (e.np+xs.length) (x:=.inst 346 e.m [some (.str e.key),some (.int (e.np+xs.length)),some (.loc e.s)]));have l₂:(cb e.key (e.np+xs.length) bl).length≤es.length+1:=by unfold cb;exact rv (List.length_map _) Jh
 rw [wI] at Fz;generalize aq.put e.a (.inst 346 e.m [some (.str e.key),some (.int (e.np+xs.length)),some (.loc e.s)])=aM at dw ar ⊢;generalize cb e.key (e.np+xs.length) bl=dg at dw Fz ar l₂;refine ac (cF rfl rfl rfl (bZ rfl (aa rfl (qq ?_) rfl)));refine bG D.str (fun pre ρ σ'=>ρ=([("nodeinfo",.loc e.a),("self",.loc i),("node",.str e.key),("predecessors",.tup (xs.map D.str))]:aO)∧∃ gc,TS σ' i m jn .none po nf gc∧gc.map Xd.pr=pre.foldl (fun ps p=>df (dq ps p) p e.key) (gd (dq (es.map Xd.pr) e.key) e.key xs.length)∧Go i m jn σ es σ' gc∧gc.length≤es.length+1+pre.length) xs ?_ ?_ xs [] _ _ rfl ⟨rfl,dg,dw,Fz,ar,l₂⟩
 ·intro pre p post ρ σ' eq r_62;revert r_62;refine pD fun e_2 z_1=>?_;subst e_2;refine A1 (fun gc T' p' g' l'=>?_) z_1;have hpre:pre.length+1≤xs.length:=by refine rv eq (rv List.length_append (rv List.length_cons ?_));lia -abstractProof
  refine ⟨trivial,_,rfl,c8 fun K hK=>?_⟩;refine ac (ah rfl rfl (n6 HK "_get_nodeinfo" (f:=386) (by simp) rfl T'.hi T'.hm rfl (.of (iF HK)) (fun χ=>⟨_,rfl⟩) rfl rfl (aw rfl (.pure (aa rfl (aB ?_) rfl)))));refine mj HK n σ' i m jn .none po nf gc p _ T' (by lia -abstractProof) fun aQ pC f eG hf hp Ey aU OY=>?_;have Hk:=eG.ent f hf;have yD:f.su.length≤500+pre.length:=by
   refine B6 (x:=p) (vR pre (vS (B6 (x:=e.key) (ps:=es.map Xd.pr) (c:=500) fun p hp=>?_) e.key xs.length)) f.pr (rv p'.symm (rv Ey.symm (Yt.mpr (aF f hf rfl))));refine az (fun g hg e_4=>?_) (Yt.mp hp);subst e_4;exact hs g hg
  refine ac (aL rfl (cN "list.append" "list" bo (by decide) rfl rfl (by decide) rfl (n5 rfl (aa rfl ⟨f.a,rfl,_,qO HK Hk,f.s,rfl,by refine rv Hk.hs ?_;rfl,aw rfl (.pure (aa rfl (aB (bn Hk.hs ?_ (ao ?_))) rfl))⟩ rfl))))
  ·refine rv (List.length_map _) (rv Yy ?_);have:=yD;lia -abstractProof
  ·have nP:=eG.su hf (f.su++[e.key]);rw [List.map_append] at nP;refine hK .next _ _ ⟨_,Le.cons rfl (Le.cons rfl (Le.cons rfl (Le.cons rfl Le.nil))),rfl,i_ f.key (f.su++[e.key]) pC,nP,?_,(g'.trans aU).trans (Go.su hf _),?_⟩
   ·refine rv YY (rv p'.symm (rv (It eG hf _) (rv Ey (rv hp ?_))));rfl
   ·unfold i_;refine rv (List.length_map _) (rv List.length_append ?_);simp only [List.length_cons,List.length_nil];lia -abstractProof
 ·intro ρ σ' r_63;revert r_63;refine pD fun e_4 z_3=>?_;subst e_4;refine A1 (fun gc T' p' g' l'=>?_) z_3;exact ⟨trivial,ao (h σ' gc T' p' g' l')⟩
end
theorem Hn {a b:PySem.Expr}{pos:Pos}{k:D→Prop}(h:EV Ω l N ρ σ a fun d=>∃ c,d=.bool c∧(c=true→k (.bool true))∧(c=false→EV Ω l N ρ σ b k)):EV Ω l N ρ σ (.BoolOp .Or [a,b] pos) k:=fun A B μ env s R F Q E kk=>
 BoolOp_or ((h A B μ env s R F).go fun v s₁ ai cD hq r=>by
  revert hq;refine db fun c e_1 h1 h2=>?_;subst e_1;refine W_.u9 r ?_;refine wpAny_truthy_bool ?_;cases c with
  | true=>exact kk _ _ ai ⟨_,h1 rfl,.bool _⟩
  | false=>exact BoolOp_one ((h2 rfl A B μ env s₁ R (F.grown ai)).use fun v ag ar hh=>kk v ag (ai.trans ar) hh))
structure TR (σ:Sg)(i m jn rn:Nat)(po nf:Int)(es:List Xd)(rd:List Str):Prop where
 t:TS σ i m jn (.loc rn) po nf es
 hr:σ.o rn=.list (rd.map D.str)
 lr:rn<σ.n
 nr:∀ e∈es,e.s≠rn
section
variable {i m jn rn:Nat}{po nf:Int}{es:List Xd}{rd:List Str}
theorem TR.np (T:TR σ i m jn rn po nf es rd){e:Xd}(he:e∈es)(c:Int):TR (σ.put e.a (.inst 346 e.m [some (.str e.key),some (.int c),some (.loc e.s)])) i m jn rn po nf (cb e.key c es) rd:=by
 refine ⟨T.t.np he c,?_,T.lr,fun f hf=>?_⟩
 ·exact Sg.pn (fun q=>by have:=(T.t.ent e he).ha;rw [← q,T.hr] at this;exact DL this rfl) T.hr
 ·refine az (fun g hg e_2=>?_) (Yt.mp hf);subst e_2;have:=T.nr g hg;split<;>exact this
theorem TR.ready (T:TR σ i m jn rn po nf es rd)(Lp:List Str):TR (σ.put rn (.list (Lp.map D.str))) i m jn rn po nf es Lp:=by
 have o:∀ j,j≠rn→(σ.put rn (.list (Lp.map D.str))).o j=σ.o j:=fun j h=>rv (Sg.aN _ _ _ _) (rv (Yz h) rfl);have ne:∀ j,(∀ q,σ.o j≠.list q)→j≠rn:=fun j h q=>h _ (q▸T.hr);refine ⟨T.t.keep (YE _) fun j χ hj=>o j ?_,rv (Sg.aN _ _ _ _) (rv (YH rfl) rfl),T.lr,T.nr⟩;rcases hj with rfl | rfl | rfl | ⟨e,he,rfl | rfl | rfl⟩
 ·exact ne _ fun q z=>gR T.t.hi z rfl
 ·exact ne _ fun q z=>gR T.t.hm z rfl
 ·exact ne _ fun q z=>gR T.t.hj z rfl
 ·exact ne _ fun q z=>gR ((T.t.ent e he).ha) z rfl
 ·exact ne _ fun q z=>gR ((T.t.ent e he).hm) z rfl
 ·exact T.nr e he
theorem TR.own (T:TR σ i m jn rn po nf es rd)(Ls LN:Int):TR (σ.put m (.attrs (pI jn (.loc rn) Ls LN))) i m jn rn Ls LN es rd:=by
 have o:∀ j,j≠m→(σ.put m (.attrs (pI jn (.loc rn) Ls LN))).o j=σ.o j:=fun j h=>rv (Sg.aN _ _ _ _) (rv (Yz h) rfl);have ne:∀ j,σ.o j≠.attrs (pI jn (.loc rn) po nf)→j≠m:=fun j h q=>h (q▸T.t.hm);refine ⟨⟨(o i (ne _ fun z=>gR T.t.hi z rfl)).trans T.t.hi,rv (Sg.aN _ _ _ _) (rv (YH rfl) rfl),(o jn (ne _ fun z=>gR T.t.hj z rfl)).trans T.t.hj,T.t.li,T.t.lm,T.t.lj,fun e he=>?_,T.t.keys,T.t.ss⟩,(o rn (ne _ fun z=>gR T.hr z rfl)).trans T.hr,T.lr,T.nr⟩;have E:=T.t.ent e he;exact ⟨(o _ (ne _ fun z=>gR E.ha z rfl)).trans E.ha,(o _ (ne _ fun z=>by rw [E.hm] at z;cases z)).trans E.hm,(o _ (ne _ fun z=>gR E.hs z rfl)).trans E.hs,E.la,E.lm,E.ls⟩
noncomputable def GS (i m jn rn:Nat)(es:List Xd)(j:Nat):Prop:=Dq i m jn es j∨j=rn
structure Gr (i m jn rn:Nat)(σ:Sg)(es:List Xd)(σ':Sg)(gc:List Xd):Prop where
 n:σ'.n=σ.n
 keep:∀ j,¬ GS i m jn rn es j→σ'.o j=σ.o j
 fp:∀ j,GS i m jn rn gc j→GS i m jn rn es j
end
section
variable {aq aM:Sg}{i m jn rn:Nat}{es bl dg:List Xd}
theorem Gr.refl:Gr i m jn rn σ es σ es:=⟨rfl,fun χ χ=>rfl,fun χ h=>h⟩
theorem Gr.trans (x:Gr i m jn rn σ es aq bl)(y:Gr i m jn rn aq bl aM dg):Gr i m jn rn σ es aM dg:=
 ⟨y.n.trans x.n,fun j h=>(y.keep j fun q=>h (x.fp j q)).trans (x.keep j h),fun j h=>x.fp j (y.fp j h)⟩
theorem Gr.np {e:Xd}(he:e∈es)(c:Int){x:cB}:Gr i m jn rn σ es (σ.put e.a x) (cb e.key c es):=
 ⟨rfl,fun j hn=>rv (Sg.aN _ _ _ _) (rv (Yz fun (q:j=e.a)=>hn (.inl (.inr (.inr (.inr (aF e he (.inl q))))))) rfl),fun j h=>h.elim (fun h=>.inl (AR (fun e=>by split<;>exact ⟨rfl,rfl,rfl⟩) h)) .inr⟩
theorem Gr.rd {x:cB}:Gr i m jn rn σ es (σ.put rn x) es:=⟨rfl,fun j hn=>rv (Sg.aN _ _ _ _) (rv (Yz fun (q:j=rn)=>hn (.inr q)) rfl),fun j h=>h⟩
theorem Gr.own {x:cB}:Gr i m jn rn σ es (σ.put m x) es:=⟨rfl,fun j hn=>rv (Sg.aN _ _ _ _) (rv (Yz fun (q:j=m)=>hn (.inl (.inr (.inl q)))) rfl),fun j h=>h⟩
end
section
variable (HK:Ω.K=hd.heap_1 Ω.w.params)
include HK
theorem AN:∃ t,(Ω.C.mg "_NODE_OUT").or (Ω.C.mb "_NODE_OUT")=some (.int (-1) t):=⟨_,cj (x:="_NODE_OUT") (Ω.gl _ _ (by refine rv HK ?_;rfl))⟩
theorem Dn:∃ t,(Ω.C.mg "_NODE_DONE").or (Ω.C.mb "_NODE_DONE")=some (.int (-2) t):=⟨_,cj (x:="_NODE_DONE") (Ω.gl _ _ (by refine rv HK ?_;rfl))⟩
theorem uv (n:Nat)(σ:Sg)(i m jn rn:Nat)(po nf:Int)(es:List Xd)(rd:List Str)(k:D→Sg→Prop)(T:TR σ i m jn rn po nf es rd)(hz:rd.length≤100)(h:k (.bool (decide (nf<po)||!rd.isEmpty)) σ):CE Ω ⟨n+1,true⟩ 412 [.loc i] [] σ k:=by
 refine b8 (k_ HK) (Xe.of_eq (xs:=["self"]) rfl fun vs hv=>by obtain ⟨a0,rfl⟩:=eJ hv;rfl) (by rfl) ?_;dsimp only [gw,gN,List.zip,List.zipWith];refine ac (aL rfl (.pure (b_ ?_)));refine ac (bc (.pure (aC rfl (dQ HK "_ready_nodes" (by simp) rfl T.t.hi T.t.hm rfl (bL ?_)))));refine qw ⟨(fun h=>nomatch h),fun χ=>ao ?_⟩;refine ac (bg (.pure (Hn (n0 rfl (dQ HK "_nfinished" (by simp) rfl T.t.hi T.t.hm rfl (dQ HK "_npassedout" (by simp) rfl T.t.hi T.t.hm rfl (IZ (eQ _ rfl (fun hc=>?_) (fun hc=>?_)))))))))
 ·rw [hc] at h;exact h
 ·rw [hc,Bool.false_or] at h;refine Bs rfl (XN HK) rfl rfl (dQ HK "_ready_nodes" (by simp) rfl T.t.hi T.t.hm rfl ⟨rd.map D.str,by simp only [look,T.hr],by refine rv (List.length_map _) ?_;lia -abstractProof,?_⟩);exact rv List.isEmpty_map h
noncomputable def fe (es:List Xd)(rd:List Str):List Xd:=rd.foldl (fun es x=>cb x (-1) es) es
omit HK in
theorem mh (x:Str)(c:Int)(es:List Xd):(cb x c es).map (fun x=>x.key)=es.map (fun x=>x.key):=dJ fun e=>by split<;>rfl
omit HK in
theorem o6:∀ (rd:List Str) (es:List Xd),(fe es rd).map (fun x=>x.key)=es.map (fun x=>x.key):=by
 intro rd
 induction rd with
 | nil=>
  intro χ;exact rfl
 | cons x rd ih=>
  intro es;exact (ih _).trans (mh x _ es)
omit HK in
theorem lL {es:List Xd}{x:Str}(h:x∈es.map (fun x=>x.key)):∃ e∈es,e.key=x:=let ⟨e,he,q⟩:=Yt.mp h;(aF e he q)
theorem uw (n:Nat)(σ:Sg)(i m jn rn:Nat)(po nf:Int)(es:List Xd)(rd:List Str)(k:D→Sg→Prop)(T:TR σ i m jn rn po nf es rd)(hz:rd.length≤100)(hm:∀ x∈rd,x∈es.map (fun x=>x.key))
  (h:∀ σ',TR σ' i m jn rn (po+rd.length) nf (fe es rd) []→Gr i m jn rn σ es σ' (fe es rd)→k (.tup (rd.map D.str)) σ'):CE Ω ⟨n+1,true⟩ 405 [.loc i] [] σ k:=by
 have hl:(rd.map D.str).length=rd.length:=List.length_map ..;refine b8 (lb HK) (Xe.of_eq (xs:=["self"]) rfl fun vs hv=>by obtain ⟨a0,rfl⟩:=eJ hv;rfl) (by rfl) ?_;dsimp only [gx,gO,List.zip,List.zipWith];refine ac (aL rfl (.pure (b_ ?_)));refine ac (bc (.pure (aC rfl (dQ HK "_ready_nodes" (by simp) rfl T.t.hi T.t.hm rfl (bL ?_)))));refine qw ⟨(fun h=>nomatch h),fun χ=>ao ?_⟩;refine ac (ah rfl rfl (.pure (yu rfl (sV HK) rfl rfl (dQ HK "_ready_nodes" (by simp) rfl T.t.hi T.t.hm rfl ⟨rn,rfl,_,T.hr,by refine rv hl (rv Yy ?_);lia -abstractProof,?_⟩))));refine ac (ah rfl rfl (.pure (dQ HK "_node2info" (by simp) rfl T.t.hi T.t.hm rfl ?_)));refine ac (cF rfl rfl rfl (bZ rfl (aa rfl (qq ?_) rfl)));refine bG D.str (fun pre ρ σ'=>ρ=([("n2i",.loc jn),("result",.tup (rd.map D.str)),("self",.loc i)]:aO)∧TR σ' i m jn rn po nf (fe es pre) rd∧Gr i m jn rn σ es σ' (fe es pre)) rd ?_ ?_ rd [] _ _ rfl ⟨rfl,T,.refl⟩
 ·intro pre p post ρ σ' eq r_64;revert r_64;refine e8 fun e_1 T' g'=>?_;subst e_1;refine ⟨trivial,_,rfl,c8 fun K hK=>?_⟩;refine az (fun e he hk=>?_) (lL (es:=fe es pre) (x:=p) (rv (o6 _ _) (hm p (by refine rv eq ?_;simp))));obtain ⟨t,ht⟩:=AN HK;refine ac (cG (fun χ=>rfl) (fun χ=>rfl) (fun χ=>rfl) (.pure (aT rfl ht (.int _ t) ?_ rfl)));refine E2 (kY rfl (aa rfl ⟨jn,rfl,_,T'.t.hj,aa rfl ⟨p,rfl,_,T'.t.at he hk,e.a,rfl,_,lH HK (T'.t.ent e he) (-1),?_⟩ rfl⟩ rfl));subst hk;refine ao (hK .next _ _ ⟨_,Le.cons rfl (Le.cons rfl (Le.cons rfl Le.nil)),rfl,?_,?_⟩)
  ·unfold fe;exact rv YY (T'.np he (-1))
  ·refine g'.trans ?_;have:=Gr.np (i:=i) (m:=m) (jn:=jn) (rn:=rn) (σ:=σ') he (-1) (x:=.inst 346 e.m [some (.str e.key),some (.int (-1)),some (.loc e.s)]);unfold fe at this ⊢;exact rv YY this
 ·intro ρ σ' r_65;revert r_65;refine e8 fun e_2 T' g'=>?_;subst e_2;refine ⟨trivial,?_⟩;refine ac (aL rfl (cN "list.clear" "list" zV (by decide) rfl rfl (by decide) rfl (dQ HK "_ready_nodes" (by simp) rfl T'.t.hi T'.t.hm rfl ⟨rn,rfl,by refine rv T'.hr ?_;rfl,aB (zA T'.hr (by refine rv hl (rv Yy ?_);lia -abstractProof) ?_)⟩)));have dw:=T'.ready [];have ar:=g'.trans (Gr.rd (i:=i) (m:=m) (jn:=jn) (rn:=rn) (σ:=σ') (x:=.list []));refine ac (l4 (.inl rfl) (aa rfl ⟨i,rfl,po,sX dw.t.hi dw.t.hm (gU HK "_npassedout" (by simp)).1 rfl,w9 rfl (gF HK) rfl rfl (aa rfl ⟨_,rfl,by lia -abstractProof,rd.length,rv hl rfl,_,rv (YH rfl) (rY dw.t.hi dw.t.hm (gU HK "_npassedout" (by simp)).2 (YF rfl) rfl),?_⟩ rfl)⟩ rfl));exact ac (bg (.pure (aa rfl (h _ (dw.own _ _) (ar.trans .own)) rfl)))
end
noncomputable def uC (es:List Xd)(x:Str):Int:=((es.find? fun e=>e.key=x).map (fun x=>x.np)).getD 0
noncomputable def dS (es:List Xd)(x:Str):List Str:=((es.find? fun e=>e.key=x).map (fun x=>x.su)).getD []
noncomputable def dH (st:List Xd×List Str)(y:Str):List Xd×List Str:=(cb y (uC st.1 y-1) st.1,if uC st.1 y-1=0 then st.2++[y] else st.2)
noncomputable def rT (st:List Xd×List Str)(x:Str):List Xd×List Str:=(dS st.1 x).foldl dH (cb x (-2) st.1,st.2)
noncomputable def cC (st:List Xd×List Str)(xs:List Str):List Xd×List Str:=xs.foldl rT st
noncomputable def Xd.sh (e:Xd):Str×List Str×Nat×Nat×Nat:=(e.key,e.su,e.a,e.m,e.s)
theorem mf (x:Str)(c:Int)(es:List Xd):(cb x c es).map Xd.sh=es.map Xd.sh:=dJ fun e=>by split<;>rfl
theorem me:∀ (ys:List Str) (st:List Xd×List Str),(ys.foldl dH st).1.map Xd.sh=st.1.map Xd.sh:=by
 intro ys
 induction ys with
 | nil=>
  intro χ;exact rfl
 | cons y ys ih=>
  intro st;exact (ih _).trans (mf ..)
theorem tg:∀ (xs:List Str) (st:List Xd×List Str),(cC st xs).1.map Xd.sh=st.1.map Xd.sh:=by
 intro xs
 induction xs with
 | nil=>
  intro χ;exact rfl
 | cons x xs ih=>
  intro st;exact (ih _).trans ((me _ _).trans (mf ..))
theorem pM {es gc:List Xd}(h:gc.map Xd.sh=es.map Xd.sh){e:Xd}(he:e∈es):∃ e'∈gc,e'.sh=e.sh:=by
 have:e.sh∈gc.map Xd.sh:=rv h (Yt.mpr (aF e he rfl));exact let ⟨e',h1,h2⟩:=Yt.mp this;(aF e' h1 h2)
theorem XG {es:List Xd}(hk:(es.map (fun x=>x.key)).Nodup){e:Xd}(he:e∈es):es.find? (fun f=>f.key=e.key)=some e:=by
 cases q:es.find? fun f=>f.key=e.key with
 | none=>
  have:=List.find?_eq_none.mp q e he;simp at this
 | some f=>
  have h1:=List.mem_of_find?_eq_some q;have h2:=List.find?_some q;exact rv (fP hk f h1 e he (by simpa using h2)) rfl
theorem wl {es:List Xd}(hk:(es.map (fun x=>x.key)).Nodup){e:Xd}(he:e∈es):uC es e.key=e.np:=by unfold uC;refine rv (XG hk he) ?_;rfl
theorem pK {es:List Xd}(hk:(es.map (fun x=>x.key)).Nodup){e:Xd}(he:e∈es):dS es e.key=e.su:=by unfold dS;refine rv (XG hk he) ?_;rfl
section
variable (HK:Ω.K=hd.heap_1 Ω.w.params)
include HK
theorem Fn (n:Nat)(σ:Sg)(i m jn rn:Nat)(po nf:Int)(es:List Xd)(rd xs:List Str)(k:D→Sg→Prop)(T:TR σ i m jn rn po nf es rd)(hz:rd.length≤100)(hx:xs.length≤20)(hs:∀ e∈es,e.su.length≤500∧∀ y∈e.su,y∈es.map (fun x=>x.key))
  (hm:∀ x∈xs,x∈es.map (fun x=>x.key)) (ho:∀ pre x post,xs=pre++x::post→uC (cC (es,rd) pre).1 x = -1)
  (h:∀ σ',TR σ' i m jn rn po (nf+xs.length) (cC (es,rd) xs).1 (cC (es,rd) xs).2→Gr i m jn rn σ es σ' (cC (es,rd) xs).1→k .none σ'):vD Ω ⟨n+1,true⟩ 426 (.loc i::xs.map D.str) [] σ k:=by
 have hl:(xs.map D.str).length=xs.length:=List.length_map ..;refine iY (Cr HK) (Xe.zI (ds:=[.loc i]) (es:=xs.map D.str) (xs:=["self"]) (x:="nodes") rfl (by exact rv hl (rv Yy (BK hx))) fun us ws hu=>by obtain ⟨a,rfl⟩:=eJ hu;exact DI Ω.w.params a ws) (by rfl) ?_;dsimp only [qb,rq,List.zip,List.zipWith,List.cons_append,List.nil_append];refine ac (aL rfl (.pure (b_ ?_)));refine ac (bc (.pure (aC rfl (dQ HK "_ready_nodes" (by simp) rfl T.t.hi T.t.hm rfl (bL ?_)))));refine qw ⟨(fun h=>nomatch h),fun χ=>ao ?_⟩;refine ac (ah rfl rfl (.pure (dQ HK "_node2info" (by simp) rfl T.t.hi T.t.hm rfl ?_)));refine ac (cF rfl rfl rfl (bZ rfl (aa rfl (qq ?_) rfl)));refine bG D.str (fun pre ρ σ'=>ρ=([("n2i",.loc jn),("self",.loc i),("nodes",.tup (xs.map D.str))]:aO)∧TR σ' i m jn rn po (nf+pre.length) (cC (es,rd) pre).1 (cC (es,rd) pre).2∧Gr i m jn rn σ es σ' (cC (es,rd) pre).1∧(cC (es,rd) pre).2.length≤rd.length+500*pre.length) xs ?_ ?_ xs [] _ _ rfl ⟨rfl,by simpa [cC] using T,.refl,by simp [cC]⟩
 ·intro pre p post ρ σ' eq r_39;revert r_39;refine rO fun e_1 T' g' l'=>?_;subst e_1;have hpre:pre.length+1≤20:=by rw [eq,List.length_append,List.length_cons] at hx;exact RZ hx
  have hsh:=tg pre (es,rd);have OW:=ho pre p post eq;generalize lN:cC (es,rd) pre=st at*;obtain ⟨bl,eP⟩:=st;dsimp only at*;have ct:bl.map (fun x=>x.key)=es.map (fun x=>x.key):=by
   have:=congrArg (List.map (fun x=>x.1)) hsh;rw [List.map_map,List.map_map] at this;exact this
  refine ⟨trivial,_,rfl,c8 fun K hK=>?_⟩;refine az (fun e he e_1=>?_) (lL (es:=bl) (x:=p) (by exact rv ct (hm p (by refine rv eq ?_;simp))));subst e_1;have E:=T'.t.ent e he;rw [wl T'.t.keys he] at OW;obtain ⟨t,ht⟩:=AN HK;obtain ⟨t',uR⟩:=Dn HK;refine ac (tX rfl (.pure (w8 "dict.get" "dict" qj (by decide) rfl rfl (by decide) rfl (aa rfl ⟨jn,rfl,by refine rv T'.t.hj ?_;rfl,ae rfl (aa rfl (ak (v7 T'.t.hj ?_)) rfl)⟩ rfl))));refine rv (T'.t.at he rfl) ?_;refine ⟨(fun h=>nomatch h),fun χ=>ao ?_⟩;refine ac (ah rfl rfl (.pure (n5 rfl (aa rfl ⟨e.a,rfl,_,ju HK E,?_⟩ rfl))));refine rv OW ?_;refine ac (bc (.pure (aC rfl (aa rfl (aT rfl ht (.int _ t) (Ev ?_) rfl) rfl))));refine ⟨(fun h=>by simp at h),fun χ=>ao ?_⟩;refine ac (cG (fun χ=>rfl) (fun χ=>rfl) (fun χ=>rfl) (.pure (aT rfl uR (.int _ t') ?_ rfl)));refine E2 (aa rfl ⟨e.a,rfl,_,lH HK E (-2),?_⟩ rfl);have dw:=T'.np he (-2);have ar:=g'.trans (Gr.np (i:=i) (m:=m) (jn:=jn) (rn:=rn) (σ:=σ') he (-2) (x:=.inst 346 e.m [some (.str e.key),some (.int (-2)),some (.loc e.s)]));generalize σ'.put e.a (.inst 346 e.m [some (.str e.key),some (.int (-2)),some (.loc e.s)])=aM at dw ar ⊢;have iw:{ e with np := -2 }∈cb e.key (-2) bl:=oS he _;have J4:=dw.t.ent _ iw;refine az (fun kE lq uU=>?_) (pM hsh.symm he);have yD:kE.su=e.su:=congrArg (fun x=>x.2.1) uU;obtain ⟨Ku,ON⟩:=hs kE lq;rw [yD] at Ku ON;have W5:(bl,eP).1=bl:=rfl;have eN:rT (bl,eP) e.key=e.su.foldl dH (cb e.key (-2) bl,eP):=by unfold rT;exact rv (pK T'.t.keys he) rfl
  have wN:(cb e.key (-2) bl).map (fun x=>x.key)=es.map (fun x=>x.key):=(mh ..).trans ct;generalize cb e.key (-2) bl=dg at dw ar iw eN wN;refine ac (cF rfl rfl rfl (tN rfl (n5 rfl (aa rfl ⟨e.a,rfl,_,qO HK (e:={ e with np := -2 }) J4,e.s,rfl,_,J4.hs,?_⟩ rfl))));refine bG D.str (fun eh ρ aY=>ρ=([("stat",.int (-1)),("nodeinfo",.loc e.a),("node",.str e.key),("n2i",.loc jn),("self",.loc i),("nodes",.tup (xs.map D.str))]:aO)∧TR aY i m jn rn po (nf+pre.length) (eh.foldl dH (dg,eP)).1 (eh.foldl dH (dg,eP)).2∧Gr i m jn rn σ es aY (eh.foldl dH (dg,eP)).1∧(eh.foldl dH (dg,eP)).2.length≤eP.length+eh.length) e.su ?_ ?_ e.su [] _ _ rfl ⟨rfl,dw,ar,by simp⟩
  ·intro eh y Km ρ aY EN r_40;revert r_40;refine rO fun e_2 eG aU mM=>?_;subst e_2;have C':eh.length+1≤500:=by rw [EN,List.length_append,List.length_cons] at Ku;exact RY Ku
   have An:=me eh (dg,eP);have eF:(eh++[y]).foldl dH (dg,eP)=dH (eh.foldl dH (dg,eP)) y:=by refine rv YY ?_;rfl
   refine rv eF ?_;generalize eh.foldl dH (dg,eP)=st at*;obtain ⟨pC,oV⟩:=st;dsimp only at*;have pp:pC.map (fun x=>x.key)=es.map (fun x=>x.key):=by
    have:=congrArg (List.map (fun x=>x.1)) An;rw [List.map_map,List.map_map] at this;exact this.trans wN
   refine az (fun e' oy Ao=>?_) (pM An iw);have q1:e'.su=e.su:=congrArg (fun x=>x.2.1) Ao;have q2:e'.s=e.s:=congrArg (fun x=>x.2.2.2.2) Ao;refine ⟨by have:=(eG.t.ent e' oy).hs;rw [q1,q2] at this;exact this,_,rfl,c8 fun DZ ey=>?_⟩;refine az (fun f hf e_2=>?_) (lL (es:=pC) (x:=y) (by exact rv pp (ON y (by refine rv EN ?_;simp))));subst e_2;have G:=eG.t.ent f hf;have Jd:=wl eG.t.keys hf;refine ac (ah rfl rfl (.pure (kY rfl (aa rfl ⟨jn,rfl,_,eG.t.hj,aa rfl ⟨f.key,rfl,_,eG.t.at hf rfl,?_⟩ rfl⟩ rfl))));refine ac (l4 (.inr rfl) (aa rfl ⟨f.a,rfl,f.np,ju HK G,af ⟨1,rfl,_,by exact rv (Yz (by decide)) (lH HK G (f.np-1)),?_⟩⟩ rfl));have nP:=eG.np hf (f.np-1);have c4:=aU.trans (Gr.np (i:=i) (m:=m) (jn:=jn) (rn:=rn) (σ:=aY) hf (f.np-1) (x:=.inst 346 f.m [some (.str f.key),some (.int (f.np-1)),some (.loc f.s)]));have J1:=nP.t.ent _ (oS hf (f.np-1));have eS:dH (pC,oV) f.key=(cb f.key (f.np-1) pC,if f.np-1=0 then oV++[f.key] else oV):=by unfold dH;exact rv Jd rfl
   rw [eS] at ey;generalize aY.put f.a (.inst 346 f.m [some (.str f.key),some (.int (f.np-1)),some (.loc f.s)])=fk at nP c4 J1 ⊢;refine ac (bc (.pure (aC rfl (n5 rfl (aa rfl ⟨f.a,rfl,_,ju HK (e:={ f with np:=f.np-1 }) J1,af (eV ?_)⟩ rfl)))));have VM:(oV.map D.str).length=oV.length:=List.length_map ..;have LE:Le ([("stat",.int (-1)),("nodeinfo",.loc e.a),("node",.str e.key),("n2i",.loc jn),("self",.loc i),("nodes",.tup (xs.map D.str))]:aO) (("successor_info",.loc f.a)::("successor",.str f.key)::[("stat",.int (-1)),("nodeinfo",.loc e.a),("node",.str e.key),("n2i",.loc jn),("self",.loc i),("nodes",.tup (xs.map D.str))]):=
    Le.cons rfl (Le.cons rfl (Le.cons rfl (Le.cons rfl (Le.cons rfl (Le.cons rfl Le.nil)))))
   refine ⟨fun hc=>?_,fun hc=>?_⟩
   ·have qC:f.np-1=0:=by simpa using hc
    rw [YH qC] at ey;refine ac (aL rfl (cN "list.append" "list" bo (by decide) rfl rfl (by decide) rfl (dQ HK "_ready_nodes" (by simp) rfl nP.t.hi nP.t.hm rfl ⟨rn,rfl,by refine rv nP.hr ?_;rfl,aw rfl (.pure (aa rfl (aB (bn nP.hr (by exact rv VM (rv Yy (Td hz hpre l' C' mM))) (ao (ao ?_)))) rfl))⟩)));have DQ:=nP.ready (oV++[f.key]);rw [List.map_append] at DQ;exact ey .next _ _ ⟨_,LE,rfl,DQ,c4.trans .rd,by simp only [List.length_append,List.length_cons,List.length_nil];exact SQ mM⟩
   ·have qC:¬ (f.np-1=0):=by simpa using hc
    rw [Yz qC] at ey;exact ao (ao (ey .next _ _ ⟨_,LE,rfl,nP,c4,by simp only [List.length_append,List.length_cons,List.length_nil];exact SP mM⟩))
  ·intro ρ aY r_41;revert r_41;refine rO fun e_3 eG aU mM=>?_;subst e_3;have eD:cC (es,rd) (pre++[e.key])=e.su.foldl dH (dg,eP):=by refine rv eN.symm (rv lN.symm ?_);unfold cC;refine rv YY ?_;rfl
   refine az (fun e' oy Ao=>?_) (pM (me e.su (dg,eP)) iw);have q1:e'.su=e.su:=congrArg (fun x=>x.2.1) Ao;have q2:e'.s=e.s:=congrArg (fun x=>x.2.2.2.2) Ao;have q3:=(eG.t.ent e' oy).hs;rw [q1,q2] at q3;rw [← eD] at eG aU mM;refine ⟨q3,?_⟩
   ·refine ac (l4 (.inl rfl) (aa rfl ⟨i,rfl,nf+pre.length,sX eG.t.hi eG.t.hm (gU HK "_nfinished" (by simp)).1 rfl,af ⟨1,rfl,_,by exact rv (YH rfl) (rY eG.t.hi eG.t.hm (gU HK "_nfinished" (by simp)).2 (YF rfl) rfl),?_⟩⟩ rfl));have DQ:=eG.own po (nf+pre.length+1);refine ao (hK .next _ _ ⟨_,Le.cons rfl (Le.cons rfl (Le.cons rfl Le.nil)),rfl,?_,aU.trans .own,?_⟩)
    ·exact rv List.length_append (rv List.length_cons (rv List.length_nil (rv (show (nf+((pre.length+(0+1):Nat):Int))=nf+pre.length+1 by exact T0) DQ)))
    ·exact rv List.length_append (rv List.length_cons (rv List.length_nil (Te l' Ku mM)))
 ·intro ρ σ' r_42;revert r_42;refine rO fun e_4 T' g' l'=>?_;subst e_4;exact ⟨trivial,ao (h σ' T' g')⟩
end
noncomputable def nZ (su:Str→List Str)(fin:List Str):Prop:=∀ a x b,fin=a++x::b→∀ y∈su x,y∈a
inductive ua (su:Str→List Str):Str→Str→Prop where
 | one (x y:Str)(h:y∈su x):ua su x y
 | step (x y z:Str)(h:y∈su x)(r:ua su y z):ua su x z
theorem ua.snoc {su:Str→List Str}{x y z:Str}(r:ua su x y)(h:z∈su y):ua su x z:=by
 induction r with
 | one x y h'=>exact .step _ _ _ h' (.one _ _ h)
 | step x y w h' _ ih=>exact .step _ _ _ h' (ih h)
noncomputable abbrev ly:=List (Str×Nat×Nat)
noncomputable def Xq (su:Str→List Str)(fin:List Str):Str→ly→Prop
 | _,[]=>True
 | z,(x,j,_)::r=>(∃ i,j=i+1∧(su x)[i]? = some z∧∀ y∈(su x).take i,y∈fin)∧Xq su fin x r
noncomputable def MY (su:Str→List Str)(fin:List Str):ly→Prop
 | []=>True
 | (x,j,_)::r=>(∀ y∈(su x).take j,y∈fin)∧Xq su fin x r
theorem Xq.mono {su:Str→List Str}{fin AX:List Str}(h:∀ x∈fin,x∈AX){rs:ly}{z:Str}(u:Xq su fin z rs):Xq su AX z rs:=by
 induction rs generalizing z with
 | nil=>trivial
 | cons a r ih=>refine pD (fun u v=>⟨?_,ih v⟩) u;refine db (fun i h1 h2 h3=>?_) u;exact eQ i h1 h2 fun y hy=>h _ (h3 y hy)
theorem Xq.Ov {su:Str→List Str}{fin:List Str}{z:Str}(hz:z∈fin){rs:ly}(u:Xq su fin z rs):MY su fin rs:=by
 cases rs with
 | nil=>trivial
 | cons a r=>
  refine pD (fun u v=>⟨fun y hy=>?_,v⟩) u;refine db (fun i h1 h2 h3=>?_) u;rw [h1,List.take_succ,h2] at hy;rcases Yr.mp hy with hy | hy
  ·exact h3 y hy
  ·exact rv (Yq.mp hy) hz
theorem Xq.U6 {su:Str→List Str}{fin:List Str}{t:Str}{rs:ly}{z:Str}(u:Xq su fin z rs)(h:t∈rs.map (fun x=>x.1)):ua su t z:=by
 induction rs generalizing z with
 | nil=>exact absurd h List.not_mem_nil
 | cons a r ih=>
  refine pD (fun u v=>?_) u;refine db (fun i h1 h2 h3=>?_) u;have hz:z∈su a.1:=YN h2;exact (YC.mp h).elim (fun e=>rv e (.one _ _ hz)) (fun h=>(ih v h).snoc hz)
theorem nZ.snoc {su:Str→List Str}{fin:List Str}{t:Str}(h:nZ su fin)(ht:∀ y∈su t,y∈fin):nZ su (fin++[t]):=fun a x b e y hy=>by
 rcases List.eq_nil_or_concat b with rfl | ⟨b',c,rfl⟩
 ·obtain ⟨rfl,e2⟩:=List.append_inj' e rfl;cases e2;exact ht y hy
 ·rw [List.concat_eq_append,← List.cons_append,← List.append_assoc] at e;obtain ⟨rfl,-⟩:=List.append_inj' e rfl;exact h a x b' rfl y hy
noncomputable def dn:ly→List (Str×D)
 | []=>[]
 | (x,_,_)::r=>dn r++[(x,.int r.length)]
theorem lV (rs:ly):(dn rs).map (fun x=>x.1)=(rs.map (fun x=>x.1)).reverse:=by
 induction rs with
 | nil=>rfl
 | cons t r ih=>obtain ⟨x,j,i⟩:=t;simp [dn,ih]
theorem A3 (rs:ly):(dn rs).length=rs.length:=by
 have:=congrArg List.length (lV rs);simpa using this
theorem u_ {es:List (Str×D)}{x:Str}:(cP es x).isSome=decide (x∈es.map (fun x=>x.1)):=by
 unfold cP;refine rv Option.isSome_map (rv (propext (Bool.eq_iff_iff)) (rv (propext (List.find?_isSome)) (rv decide_eq_true_eq (rv (propext (Yt)) ?_))));constructor
 ·intro r_43;revert r_43;refine az fun p hp e=>?_;exact aF p hp (by simpa using e)
 ·intro r_44;revert r_44;refine az fun p hp e=>?_;exact aF p hp (by simpa using e)
theorem q8 (rs:ly)(x:Str):(cP (dn rs) x).isSome=decide (x∈rs.map (fun x=>x.1)):=by
 refine rv u_ (rv (lV _) ?_);simp
theorem G0:∀ (rs:ly) (x:Str) (d:D),cP (dn rs) x=some d→∃ i:Nat,d=.int i∧i<rs.length:=by
 intro rs x d h;have:∀ p∈dn rs,∃ i:Nat,p.2=.int i∧i<rs.length:=by
  induction rs with
  | nil=>intro p hp;cases hp
  | cons t r ih=>
   obtain ⟨y,j,k⟩:=t;intro p hp;rcases Yr.mp hp with hp | hp
   ·have aux:∀ (r:ly) (p:Str×D),p∈dn r→∃ i:Nat,p.2=.int i∧i<r.length:=by
     intro r
     induction r with
     | nil=>intro p hp;cases hp
     | cons t r ih=>
      obtain ⟨y,j,k⟩:=t;intro p hp;rcases Yr.mp hp with hp | hp
      ·refine az (fun i h1 h2=>?_) (ih p hp);exact aF i h1 (Nat.lt_succ_of_lt h2)
      ·exact rv (Yq.mp hp) (aF _ rfl (Nat.lt_succ_self _))
    refine az (fun i h1 h2=>?_) (aux r p hp);exact aF i h1 (Nat.lt_succ_of_lt h2)
   ·exact rv (Yq.mp hp) (aF _ rfl (Nat.lt_succ_self _))
 unfold cP at h;refine az (fun p hp e_1=>?_) (YI.mp h);subst e_1;exact this p (List.mem_of_find?_eq_some hp)
theorem G1 {x:Str}{j i:Nat}{r:ly}(h:x∉r.map (fun x=>x.1)):tp (dn ((x,j,i)::r)) x=dn r:=by
 unfold tp;simp only [dn,List.filter_append];rw [List.filter_eq_self.mpr fun p hp=>?_]
 ·simp
 ·have:p.1∈(dn r).map (fun x=>x.1):=Yt.mpr (aF p hp rfl);rw [lV,List.mem_reverse] at this;exact decide_eq_true fun q=>h (q▸this)
structure FC (aq σ':Sg)(M:Nat)(es:List Xd)(seen:List Str)(rs:ly):Prop where
 old:∀ j,j<M→σ'.o j=aq.o j
 n:M+4≤σ'.n
 sk:σ'.o M=.list (rs.reverse.map fun t=>.str t.1)
 ik:σ'.o (M+1)=.list (rs.reverse.map fun t=>.jK (.loc t.2.2) "list_iterator.__next__")
 sn:σ'.o (M+2)=.set seen
 nk:σ'.o (M+3)=.bB (dn rs)
 it:∀ t∈rs,M+4≤t.2.2∧t.2.2<σ'.n∧∃ e∈es,e.key=t.1∧σ'.o t.2.2=.iter e.s t.2.1
 Kq:(rs.map (fun x=>x.2.2)).Nodup
structure Sem (es:List Xd)(seen fin:List Str)(rs:ly):Prop where
 mem:∀ x,x∈seen↔x∈fin∨x∈rs.map (fun x=>x.1)
 nd:(rs.map (fun x=>x.1)).Nodup
 fn:nZ (dS es) fin
 ks:∀ x∈seen,x∈es.map (fun x=>x.key)
 sn:seen.Nodup
noncomputable def mW (es:List Xd)(seen:List Str)(rs:ly):Nat:=((es.filter fun e=>decide (e.key∉seen)).map fun e=>e.su.length+1).sum+(rs.map fun t=>(dS es t.1).length-t.2.1).sum
theorem FZ {es:List Xd}{seen:List Str}{rs:ly}{e:Xd}{i:Nat}(hk:(es.map (fun x=>x.key)).Nodup)(he:e∈es)(h:e.key∉seen):mW es (seen++[e.key]) ((e.key,0,i)::rs)+1≤mW es seen rs:=by
 have aux:∀ (l:List Xd),(l.map (fun x=>x.key)).Nodup→e∈l→((l.filter fun f=>decide (f.key∉seen++[e.key])).map fun e=>e.su.length+1).sum+(e.su.length+1)=((l.filter fun f=>decide (f.key∉seen)).map fun e=>e.su.length+1).sum:=by
  intro l
  induction l with
  | nil=>intro _ h;cases h
  | cons f l ih=>
   intro hl hm;rw [List.map_cons,Y0] at hl;rcases YC.mp hm with rfl | hm
   ·have same:l.filter (fun f=>decide (f.key∉seen++[e.key]))=l.filter fun f=>decide (f.key∉seen):=by
     refine List.filter_congr fun g hg=>?_;have:g.key≠e.key:=fun q=>hl.1 (Yt.mpr (aF g hg q));simp [this]
    refine rv List.filter_cons (rv (Yz (by simp)) (rv List.filter_cons (rv (YH (by simpa using h)) (rv same ?_))));simp;exact Sn
   ·have ne:f.key≠e.key:=fun q=>hl.1 (Yt.mpr (aF e hm q.symm));have:=ih hl.2 hm;refine rv List.filter_cons (rv List.filter_cons ?_)
    by_cases q:f.key∈seen
    ·exact rv (Yz (by simp [q])) (rv (Yz (by simp [q])) this)
    ·refine rv (YH (by simp [q,ne])) (rv (YH (by simp [q])) ?_);simp only [List.map_cons,List.sum_cons];exact Ta this
 have:=aux es hk he;unfold mW;refine rv List.map_cons (rv List.sum_cons (rv (pK hk he) ?_));exact Tg this
theorem CQ {es:List Xd}{seen:List Str}{x:Str}{j i:Nat}{r:ly}(h:j<(dS es x).length):mW es seen ((x,j+1,i)::r)+1=mW es seen ((x,j,i)::r):=by
 unfold mW;simp only [List.map_cons,List.sum_cons];exact S4 h
theorem F1 {es:List Xd}{seen:List Str}{t:Str×Nat×Nat}{r:ly}:mW es seen r≤mW es seen (t::r):=by
 unfold mW;simp only [List.map_cons,List.sum_cons];exact S5
noncomputable abbrev HN (M jn i:Nat):aO:=[("node2stacki",.loc (M+3)),("seen",.loc (M+2)),("itstack",.loc (M+1)),("stack",.loc M),("n2i",.loc jn),("self",.loc i)]
section
variable {aq σ':Sg}{M jn:Nat}{es:List Xd}{seen fin:List Str}{rs:ly}
theorem FC.len (h:Sem es seen fin rs)(hz:es.length≤20):seen.length≤20∧rs.length≤20:=by
 have l1:seen.length≤20:=by
  have:=List.Nodup.length_le_of_subset h.sn (fun x hx=>h.ks x hx);rw [List.length_map] at this;exact Nf hz this
 have l2:(rs.map (fun x=>x.1)).length≤seen.length:=List.Nodup.length_le_of_subset h.nd fun x hx=>(h.mem x).mpr (.inr hx);rw [List.length_map] at l2;exact ⟨l1,Nf l1 l2⟩
theorem FC.push (F:FC aq σ' M es seen rs){x:Str}{e:Xd}(he:e∈es)(hx:e.key=x)(hs:x∉seen)(hr:x∉rs.map (fun x=>x.1)):FC aq (((((σ'.put (M+2) (.set (pP seen x))).add (.iter e.s 0)).put (M+1) (.list ((rs.reverse.map fun t=>.jK (.loc t.2.2) "list_iterator.__next__")++[.jK (.loc σ'.n) "list_iterator.__next__"]))).put (M+3) (.bB (c6 (dn rs) x (.int rs.length)))).put M (.list ((rs.reverse.map fun t=>.str t.1)++[.str x]))) M es (seen++[x]) ((x,0,σ'.n)::rs):=by
 have hn:=F.n;refine ⟨fun j hj=>?_,?_,?_,?_,?_,?_,fun t ht=>?_,?_⟩
 ·exact Sg.pn (BM hj) (Sg.pn (Nn hj) (Sg.pn (KS hj) (Sg.an (rv (Sg.bF _ _ _) (KZ hn hj)) (Sg.pn (No hj) (F.old j hj)))))
 ·exact rv (Sg.bF _ _ _) (rv (Sg.bF _ _ _) (rv (Sg.bF _ _ _) (rv (Sg.add_n _ _) (rv (Sg.bF _ _ _) (SE hn)))))
 ·refine rv (Sg.aN _ _ _ _) (rv (YH rfl) ?_);simp
 ·refine Sg.pn (NS) (Sg.pn (NT) (Sg.ps.trans ?_));simp
 ·rw [Sg.aN,Yz (by exact NE),Sg.aN,Yz (by exact NF),Sg.aN,Yz (by exact PC),Sg.aZ,Yz (by exact rv (Sg.bF _ _ _) (Sz hn)),Sg.aN,YH rfl,pP,Yz hs]
 ·refine Sg.pn (NR) (Sg.ps.trans ?_);have:c6 (dn rs) x (.int rs.length)=dn ((x,0,σ'.n)::rs):=by
   unfold c6;rw [Yz]
   ·rfl
   ·intro q;refine az (fun p hp q=>?_) (Y3.mp q);have:p.1∈(dn rs).map (fun x=>x.1):=Yt.mpr (aF p hp rfl);rw [lV,List.mem_reverse,YF q] at this;exact hr this
  exact rv this rfl
 ·refine rv (Sg.bF _ _ _) (rv (Sg.bF _ _ _) (rv (Sg.bF _ _ _) (rv (Sg.add_n _ _) (rv (Sg.bF _ _ _) ?_))));rcases YC.mp ht with rfl | ht
  ·exact ⟨hn,Nat.lt_succ_self _,e,he,hx,rv (Sg.aN _ _ _ _) (rv (Yz (by dsimp only;exact Sv hn)) (rv (Sg.aN _ _ _ _) (rv (Yz (by dsimp only;exact Sw hn)) (rv (Sg.aN _ _ _ _) (rv (Yz (by dsimp only;exact Sx hn)) (rv (Sg.aZ _ _ _) (rv (YH (by rw [Sg.bF])) rfl)))))))⟩
  ·refine e8 (fun h1 h2 z_1=>?_) (F.it t ht);refine db (fun f hf h3 h4=>?_) z_1;exact ⟨h1,Eg h2,f,hf,h3,Sg.pn (Nw h1) (Sg.pn (Nx h1) (Sg.pn (Ny h1) (Sg.an (rv (Sg.bF _ _ _) (BM h2)) (Sg.pn (SA h1) h4))))⟩
 ·refine rv List.map_cons (rv (propext (Y0)) ?_);refine ⟨fun q=>?_,F.Kq⟩;refine az (fun t ht q=>?_) (Yt.mp q);have:=(F.it t ht).2.1;dsimp only at q;exact Rd q this
theorem FC.next (F:FC aq σ' M es seen rs){x:Str}{j b:Nat}{r:ly}(hr:rs=(x,j,b)::r){e:Xd}(he:e∈es)(hx:e.key=x):FC aq (σ'.put b (.iter e.s (j+1))) M es seen ((x,j+1,b)::r):=by
 subst hr;have hn:=F.n;refine e8 (fun h1 h2 χ=>?_) (F.it _ Yu);dsimp only at h1 h2;refine ⟨fun j hj=>?_,hn,?_,?_,?_,?_,fun t ht=>?_,F.Kq⟩
 ·exact Sg.pn (KZ h1 hj) (F.old j hj)
 ·refine rv (Sg.aN _ _ _ _) (rv (Yz (Nu h1)) (rv F.sk ?_));simp
 ·refine rv (Sg.aN _ _ _ _) (rv (Yz (Nv h1)) (rv F.ik ?_));simp
 ·exact Sg.pn (Nz h1) F.sn
 ·refine rv (Sg.aN _ _ _ _) (rv (Yz (Sy h1)) (rv F.nk ?_));rfl
 ·rcases YC.mp ht with rfl | ht
  ·exact ⟨h1,h2,e,he,hx,rv (Sg.aN _ _ _ _) (rv (YH rfl) rfl)⟩
  ·refine e8 (fun h3 h4 z_2=>?_) (F.it t (Yv _ ht));refine db (fun f hf h5 h6=>?_) z_2;have:=F.Kq;rw [List.map_cons,Y0] at this;refine ⟨h3,h4,f,hf,h5,?_⟩;exact Sg.pn (fun q=>this.1 (Yt.mpr (aF t ht q))) h6
theorem FC.pop (F:FC aq σ' M es seen rs){x:Str}{j b:Nat}{r:ly}(hr:rs=(x,j,b)::r)(hx:x∉r.map (fun x=>x.1)):FC aq ((((σ'.put b .dead).put M (.list (r.reverse.map fun t=>.str t.1))).put (M+3) (.bB (tp (dn rs) x))).put (M+1) (.list (r.reverse.map fun t=>.jK (.loc t.2.2) "list_iterator.__next__"))) M es seen r:=by
 subst hr;have hn:=F.n;refine e8 (fun h1 h2 χ=>?_) (F.it _ Yu);dsimp only at h1 h2;have:=F.Kq;rw [List.map_cons,Y0] at this;refine ⟨fun j hj=>?_,hn,?_,?_,?_,?_,fun t ht=>?_,this.2⟩
 ·exact Sg.pn (KS hj) (Sg.pn (Nn hj) (Sg.pn (BM hj) (Sg.pn (KZ h1 hj) (F.old j hj))))
 ·exact Sg.pn (K5) (Sg.pn (NI) Sg.ps)
 ·exact rv (Sg.aN _ _ _ _) (rv (YH rfl) rfl)
 ·exact Sg.pn (P6) (Sg.pn (P5) (Sg.pn (P4) (Sg.pn (Nz h1) F.sn)))
 ·exact rv (Sg.aN _ _ _ _) (rv (Yz (PB)) (rv (Sg.aN _ _ _ _) (rv (YH rfl) (rv (G1 hx) rfl))))
 ·refine e8 (fun h3 h4 z_3=>?_) (F.it t (Yv _ ht));refine db (fun f hf h5 h6=>?_) z_3;refine ⟨h3,h4,f,hf,h5,?_⟩;exact Sg.pn (Ny h3) (Sg.pn (Nx h3) (Sg.pn (Nw h3) (Sg.pn (fun q=>this.1 (Yt.mpr (aF t ht q))) h6)))
theorem Sem.push (h:Sem es seen fin rs){x:Str}{j i:Nat}(hx:x∉seen)(hk:x∈es.map (fun x=>x.key)):Sem es (seen++[x]) fin ((x,j,i)::rs):=by
 refine ⟨fun y=>?_,?_,h.fn,fun y hy=>?_,?_⟩
 ·refine rv (propext (Yr)) (rv (propext (Yq)) (rv List.map_cons (rv (propext (YC)) (rv (propext (h.mem _)) ?_))));constructor
  ·rintro ((q | q) | q)
   ·exact .inl q
   ·exact .inr (.inr q)
   ·exact .inr (.inl q)
  ·rintro (q | q | q)
   ·exact .inl (.inl q)
   ·exact .inr q
   ·exact .inl (.inr q)
 ·refine rv List.map_cons (rv (propext (Y0)) ?_);exact ⟨fun q=>hx ((h.mem x).mpr (.inr q)),h.nd⟩
 ·rcases Yr.mp hy with hy | hy
  ·exact h.ks y hy
  ·exact rv (Yq.mp hy) hk
 ·refine rv (propext (List.nodup_append)) ?_;exact ⟨h.sn,by simp,fun a ha b hb q=>hx (by rw [Yq.mp hb] at q;exact q▸ha)⟩
theorem Sem.next {x:Str}{j j' i:Nat}{r:ly}(h:Sem es seen fin ((x,j,i)::r)):Sem es seen fin ((x,j',i)::r):=⟨h.mem,h.nd,h.fn,h.ks,h.sn⟩
theorem Sem.pop {x:Str}{j i:Nat}{r:ly}(h:Sem es seen fin ((x,j,i)::r))(hx:∀ y∈dS es x,y∈fin):Sem es seen (fin++[x]) r:=by
 have nd:=h.nd;rw [List.map_cons,Y0] at nd;refine ⟨fun y=>?_,nd.2,h.fn.snoc hx,h.ks,h.sn⟩;refine rv (propext (h.mem _)) (rv List.map_cons (rv (propext (YC)) (rv (propext (Yr)) (rv (propext (Yq)) ?_))));constructor
 ·rintro (q | q | q)
  ·exact .inl (.inl q)
  ·exact .inl (.inr q)
  ·exact .inr q
 ·rintro ((q | q) | q)
  ·exact .inl q
  ·exact .inr (.inl q)
  ·exact .inr (.inr q)
inductive Pw (aq:Sg)(M:Nat)(es:List Xd)(pre:List Str)(p:Str)(rh:aO)(mm:Nat)(σ':Sg):aO→Prop where
 | mk (x:Str)(seen fin:List Str)(rs:ly)(F:FC aq σ' M es seen rs)(S:Sem es seen fin rs)(U:Xq (dS es) fin x rs)(hx:x∈es.map (fun x=>x.key))(hW:mW es seen rs+1≤mm)(hpre:∀ y∈pre,y∈fin)(hp:p∈seen∨(x=p∧rs=[])):Pw aq M es pre p rh mm σ' (("node",.str x)::rh)
inductive M4 (aq:Sg)(M:Nat)(es:List Xd)(fin:List Str)(x p:Str)(rh:aO)(m:Nat)(σ':Sg):Fl→aO→Prop where
 | go (seen:List Str)(rs:ly)(F:FC aq σ' M es seen rs)(S:Sem es seen fin rs)(P:MY (dS es) fin rs)(hm:mW es seen rs≤m)(hp:p∈seen):M4 aq M es fin x p rh m σ' .next (("node",.str x)::rh)
 | ret (ρ':aO)(ds:List D)(ne:ds≠[])(hl:ds.length≤30)(R:ua (dS es) x x)(ho:∀ j,j<M→σ'.o j=aq.o j)(hn:M≤σ'.n):M4 aq M es fin x p rh m σ' (.ret (.list ds)) ρ'
inductive Pv (aq:Sg)(M:Nat)(es:List Xd)(pre seen:List Str)(x:Str)(rh:aO)(mm:Nat)(σ':Sg):Nat→aO→Prop where
 | mk (fin:List Str)(rs:ly)(F:FC aq σ' M es seen rs)(S:Sem es seen fin rs)(P:MY (dS es) fin rs)(hW:mW es seen rs+1≤mm)(hpre:∀ y∈pre,y∈fin):Pv aq M es pre seen x rh mm σ' rs.length (("node",.str x)::rh)
end
section
variable (HK:Ω.K=hd.heap_1 Ω.w.params)
include HK
omit HK in
theorem CV {α:Type}(xs:List α)(x:α):(seqIndex? (-1) (xs++[x]).length).bind ((xs++[x])[·]?)=some x:=by
 have:seqIndex? (-1) (xs++[x]).length=some xs.length:=by
  unfold seqIndex?;simp;exact QS
 refine rv this ?_;simp
theorem r6 (n:Nat)(σ:Sg)(i m jn:Nat)(r:D)(po nf:Int)(es:List Xd)(k:D→Sg→Prop)(T:TS σ i m jn r po nf es)(hz:es.length≤20)(hs:∀ e∈es,e.su.length≤500∧∀ y∈e.su,y∈es.map (fun x=>x.key))
  (h1:∀ fin,nZ (dS es) fin→(∀ e∈es,e.key∈fin)→∀ σ',(∀ j,j<σ.n→σ'.o j=σ.o j)→σ.n≤σ'.n→k .none σ')
  (h2:∀ x ds,ua (dS es) x x→ds≠[]→ds.length≤30→∀ σ',(∀ j,j<σ.n→σ'.o j=σ.o j)→σ.n≤σ'.n→k (.list ds) σ'):CE Ω ⟨n+1,⟨true,true⟩⟩ 433 [.loc i] [] σ k:=by
 have li:=T.li;have lm:=T.lm;have lj:=T.lj;refine b8 (jh HK) (Xe.of_eq (xs:=["self"]) rfl fun vs hv=>by obtain ⟨a0,rfl⟩:=eJ hv;rfl) (by rfl) ?_;dsimp only [fL,fY,List.zip,List.zipWith];refine ac (ah rfl rfl (.pure (dQ HK "_node2info" (by simp) rfl T.hi T.hm rfl ?_)));refine ac (ah rfl rfl (bU (aB ⟨Nat.zero_le _,?_⟩)));refine ac (ah rfl rfl (bU (aB ⟨Nat.zero_le _,?_⟩)));refine ac (ah rfl rfl (rL rfl (uY HK) rfl ?_));refine ac (ah rfl rfl (n7 ?_));have n1:(σ.add (.list [])).n=σ.n+1:=rfl;have n2:((σ.add (.list [])).add (.list [])).n=σ.n+2:=rfl;have n3:(((σ.add (.list [])).add (.list [])).add (.set [])).n=σ.n+3:=rfl;refine rv n1 (rv n2 (rv n3 ?_));generalize dF:(((σ.add (.list [])).add (.list [])).add (.set [])).add (.bB [])=k4;have hn:k4.n=σ.n+4:=by refine rv dF.symm ?_;rfl
 have o:∀ j,j<σ.n→k4.o j=σ.o j:=fun j hj=>by
  exact rv dF.symm (rv (Sg.aZ _ _ _) (rv (Yz (by rw [n3];exact RM hj)) (rv (Sg.aZ _ _ _) (rv (Yz (by rw [n2];exact RN hj)) (rv (Sg.aZ _ _ _) (rv (Yz (by rw [n1];exact J_ hj)) (rv (Sg.aZ _ _ _) (rv (Yz (BL hj)) rfl))))))))
 have o0:k4.o σ.n=.list []:=rv dF.symm (rv (Sg.aZ _ _ _) (rv (Yz (by rw [n3];exact Nc)) (rv (Sg.aZ _ _ _) (rv (Yz (by rw [n2];exact PA)) (rv (Sg.aZ _ _ _) (rv (Yz (by rw [n1];exact J8)) (rv (Sg.aZ _ _ _) (rv (YH rfl) rfl))))))));have o1:k4.o (σ.n+1)=.list []:=rv dF.symm (rv (Sg.aZ _ _ _) (rv (Yz (by rw [n3];exact NG)) (rv (Sg.aZ _ _ _) (rv (Yz (by rw [n2];exact PF)) (rv (Sg.aZ _ _ _) (rv (YH n1.symm) rfl))))));have o2:k4.o (σ.n+2)=.set []:=rv dF.symm (rv (Sg.aZ _ _ _) (rv (Yz (by rw [n3];exact NF)) (rv (Sg.aZ _ _ _) (rv (YH n2.symm) rfl))));have o3:k4.o (σ.n+3)=.bB []:=rv dF.symm (rv (Sg.aZ _ _ _) (rv (YH n3.symm) rfl));clear dF;refine Bn (x:="n2i") (n:=jn) (es:=bW es) rfl ((o jn lj).trans T.hj) fun ep=>?_;generalize uQ:k4.put jn (.kH (bW es) ep)=aq;have ne1:∀ j,j≠jn→aq.o j=k4.o j:=fun j h=>rv uQ.symm (rv (Sg.aN _ _ _ _) (rv (Yz h) rfl));have Jn:aq.o jn=.kH (bW es) ep:=rv uQ.symm (rv (Sg.aN _ _ _ _) (rv (YH rfl) rfl));have GC:aq.n=σ.n+4:=rv uQ.symm hn;have Cp:∀ j,j<σ.n→j≠jn→aq.o j=σ.o j:=fun j hj gi=>(ne1 j gi).trans (o j hj);have ent:∀ σ':Sg,(∀ j,j<σ.n→σ'.o j=aq.o j)→σ.n≤σ'.n→∀ e∈es,e.At σ':=fun σ' ho hn e he=>by
  have E:=T.ent e he;have nj:∀ j,(∀ q,σ.o j≠.bB q)→j≠jn:=fun j h q=>h _ (q▸T.hj);exact ⟨((ho _ E.la).trans (Cp _ E.la (nj _ fun q z=>gR E.ha z rfl))).trans E.ha,((ho _ E.lm).trans (Cp _ E.lm (nj _ fun q z=>gR E.hm z rfl))).trans E.hm,((ho _ E.ls).trans (Cp _ E.ls (nj _ fun q z=>gR E.hs z rfl))).trans E.hs,YG E.la hn,YG E.lm hn,YG E.ls hn⟩
 have AD:∀ σ':Sg,(∀ j,j<σ.n→σ'.o j=aq.o j)→σ'.o jn=.kH (bW es) ep:=fun σ' ho=>(ho jn lj).trans Jn;have back:∀ σ':Sg,(∀ j,j<σ.n→σ'.o j=aq.o j)→∀ j,j<σ.n→(σ'.put jn (.bB (bW es))).o j=σ.o j:=fun σ' ho j hj=>by
  by_cases q:j=jn
  ·exact rv q (rv (Sg.aN _ _ _ _) (rv (YH rfl) T.hj.symm))
  ·exact rv (Sg.aN _ _ _ _) (rv (Yz q) (rv (ho j hj) (Cp j hj q)))
 have F0:FC aq aq σ.n es [] []:=⟨fun χ χ=>rfl,Rg GC,(ne1 _ (HT lj)).trans o0,(ne1 _ (Nq lj)).trans o1,(ne1 _ (Np lj)).trans o2,(ne1 _ (RP lj)).trans o3,(fun t ht=>nomatch ht),List.nodup_nil⟩;have S0:Sem es [] [] []:=⟨fun x=>by simp,List.nodup_nil,(fun a x b e=>by simp at e),(fun x h=>nomatch h),List.nodup_nil⟩;have Jm:(bW es).map (fun p=>D.str p.1)=(es.map (fun x=>x.key)).map D.str:=by unfold bW;refine rv List.map_map (rv List.map_map ?_);rfl
 refine ac (cF rfl rfl rfl (vw rfl (aa rfl ⟨jn,rfl,bW es,ep,Jn,?_⟩ rfl)));refine rv Jm ?_;refine bG D.str (fun pre ρ σ'=>ρ=HN σ.n jn i∧∃ seen fin,FC aq σ' σ.n es seen []∧Sem es seen fin []∧∀ x∈pre,x∈fin) (es.map (fun x=>x.key)) ?_ ?_ (es.map (fun x=>x.key)) [] _ _ rfl ⟨rfl,[],[],F0,S0,fun x h=>nomatch h⟩
 ·intro pre p post ρ σ' eq r_45;revert r_45;refine pD fun e_2 z_1=>?_;subst e_2;refine gf (fun seen fin F S hpre=>?_) z_1;have Kv:p∈es.map (fun x=>x.key):=by refine rv eq ?_;simp
  refine ⟨AD σ' F.old,_,rfl,c8 fun K hK=>?_⟩;refine ac (bc (.pure (tL rfl (aa rfl (aa rfl ⟨p,σ.n+2,seen,rfl,rfl,F.sn,?_⟩ rfl) rfl))));have LB:∀ x,Le (HN σ.n jn i) (("node",.str x)::HN σ.n jn i):=fun x=>Le.cons rfl (Le.cons rfl (Le.cons rfl (Le.cons rfl (Le.cons rfl (Le.cons rfl Le.nil)))));refine ⟨fun hc=>ac (tY (hK .cont _ _ ⟨_,LB p,rfl,seen,fin,F,S,fun x hx=>?_⟩)),fun hc=>ao ?_⟩
  ·rcases Yr.mp hx with hx | hx
   ·exact hpre x hx
   ·refine rv (Yq.mp hx) ?_;have:=(S.mem p).mp (YF hc);simpa using this
  have Ap:p∉seen:=YX hc;refine ac (cM _ (d8 (fun mm ρ σ'=>Pw aq σ.n es pre p (HN σ.n jn i) mm σ' ρ) ?_ (mW es seen []+1) _ σ' (.mk p seen fin [] F S trivial Kv (YE _) hpre (.inr ⟨rfl,rfl⟩))));clear F S hpre Ap hc;intro mm ρ σ' r_46;obtain ⟨x,seen,fin,rs,F,S,hU,OF,hW,hpre,hp⟩:=r_46;refine vt fun DZ ey=>.pure (dz rfl (f_ (dE (ey _ _ ⟨fun χ=>?_,(fun h=>nomatch h)⟩))));clear DZ ey;have hl:=FC.len S hz;have hM:=F.n;refine az (fun e he hx=>?_) (lL OF);refine ⟨mm-1,RS hW,c8 fun DZ ey=>?_⟩;refine ac (ES.mono (k:=fun fl ρ' aY=>M4 aq σ.n es fin x p (HN σ.n jn i) (mW es seen rs) aY fl ρ') ?_ ?_)
  ·refine Bv fun JW pv=>?_;refine bc (.pure (tL rfl (aa rfl (aa rfl ⟨x,σ.n+2,seen,rfl,rfl,F.sn,?_⟩ rfl) rfl)));refine ⟨fun hc=>?_,fun hc=>?_⟩
   ·have Al:x∈seen:=YF hc;refine ac (bc (.pure (DS rfl (aa rfl (aa rfl ⟨x,σ.n+3,_,rfl,rfl,F.nk,?_⟩ rfl) rfl))));refine rv (q8 _ _) ?_;refine ⟨fun hc=>?_,fun hc=>?_⟩
    ·have I3:x∈rs.map (fun x=>x.1):=YF hc;obtain ⟨d,hd⟩:=Option.isSome_iff_exists.mp (rv (q8 rs x) hc:(cP (dn rs) x).isSome=true);refine az (fun idx e_4 VU=>?_) (G0 rs x d hd);subst e_4;have hlen:(rs.reverse.map fun t=>D.str t.1).length≤20:=by simpa using hl.2
     have Ju:=rb (rs.reverse.map fun t=>D.str t.1) (some (idx:Int)) none;refine ac (bg (.pure (ap (D5 (aa rfl ⟨σ.n,rfl,_,F.sk,bx (kY rfl (aa rfl ⟨σ.n+3,rfl,_,F.nk,aa rfl ⟨x,rfl,_,hd,bq (aS (aS ⟨by simp,rv Yy (BK hlen),?_⟩))⟩ rfl⟩ rfl))⟩ rfl)))));refine bM (ae rfl (aa rfl (ak ⟨sz rfl,lM (pv (.ret _) _ _ (.ret _ _ (by simp) ?_ (hU.U6 I3) F.old (KU hM))) ?_⟩) rfl))
     ·simp only [List.length_append,List.length_cons,List.length_nil];exact Q0 hlen Ju
     ·simp only [List.length_cons,List.length_nil];exact rv Yy (Q1 hlen Ju)
    ·have I3:x∉rs.map (fun x=>x.1):=YX hc;have Vv:x∈fin:=by rcases (S.mem x).mp Al with q | q;exact q;exact absurd q I3
     refine ao (ao (pv .next _ _ (.go seen rs F S (hU.Ov Vv) (YE _) ?_)));rcases hp with hp | ⟨rfl,_⟩
     ·exact hp
     ·exact Al
   ·have Al:x∉seen:=YX hc;have I3:x∉rs.map (fun x=>x.1):=fun q=>Al ((S.mem x).mpr (.inr q));have F':=F.push he hx Al I3;refine ac (aL rfl (cN "set.add" "set" FU (by decide) rfl rfl (by decide) rfl (aa rfl ⟨σ.n+2,rfl,by refine rv F.sn ?_;rfl,aw rfl (.pure (aa rfl (aB (FE F.sn (by have:=hl.1;unfold scanBound;exact Qp hl.1) ?_)) rfl))⟩ rfl)));generalize Ak:σ'.put (σ.n+2) (.set (pP seen x))=l5 at F' ⊢;have t1:∀ j,j≠σ.n+2→l5.o j=σ'.o j:=fun j h=>rv Ak.symm (rv (Sg.aN _ _ _ _) (rv (Yz h) rfl));have Kh:l5.n=σ'.n:=by refine rv Ak.symm ?_;rfl
    have zB:∀ j,j<σ.n→l5.o j=aq.o j:=fun j hj=>(t1 j (No hj)).trans (F.old j hj);have E:=ent l5 zB (SU hM Kh) e he;refine ac (aL rfl (cN "list.append" "list" bo (by decide) rfl rfl (by decide) rfl (aa rfl ⟨σ.n+1,rfl,by refine rv (t1 _ (NU)) (rv F.ik ?_);rfl,aw rfl (t5 rfl (Dm HK) rfl rfl (n5 rfl (yw rfl (aa rfl ⟨jn,rfl,_,ep,AD l5 zB,aa rfl ⟨x,rfl,_,T.at he hx,e.a,rfl,_,qO HK E,e.s,_,rfl,E.hs,aB (bn (rv (Sg.aZ _ _ _) (rv (Yz (ST hM Kh)) (rv (t1 _ (NU)) F.ik))) (rv (List.length_map _) (rv List.length_reverse (rv Yy (BK hl.2)))) ?_)⟩ rfl⟩ rfl))))⟩ rfl)));refine rv Kh ?_;generalize Gl:(l5.add (.iter e.s 0)).put (σ.n+1) (.list ((rs.reverse.map fun t=>D.jK (.loc t.2.2) "list_iterator.__next__")++[.jK (.loc σ'.n) "list_iterator.__next__"]))=vH at F' ⊢;have t2:∀ j,j≠σ.n+1→j<σ'.n→vH.o j=l5.o j:=fun j h h'=>rv Gl.symm (rv (Sg.aN _ _ _ _) (rv (Yz h) (rv (Sg.aZ _ _ _) (rv (Yz (N8 Kh h')) rfl))));have De:vH.o σ.n=.list (rs.reverse.map fun t=>D.str t.1):=rv (t2 _ (K5) (SD hM)) (rv (t1 _ (PJ)) F.sk);have GB:vH.o (σ.n+3)=.bB (dn rs):=rv (t2 _ (P3) (SG hM)) (rv (t1 _ (P2)) F.nk);have Ay:look vH (.loc σ.n)=.list (rs.reverse.map fun t=>D.str t.1):=by simp only [look,De]
    refine ac (cG (fun χ=>rfl) (fun χ=>rfl) (fun χ=>rfl) (.pure (D6 rfl (gF HK) rfl rfl rfl (ae rfl (aa rfl (ak ?_) rfl)))));refine rv List.map_cons (rv Ay ?_);refine kh (lK ⟨rfl,?_⟩ (rv (List.length_map _) (rv List.length_reverse (K8 hl.2))));have VN:((rs.reverse.map fun t=>D.str t.1).length:Int)=rs.length:=by simp
    refine rv VN ?_;refine xe (aa rfl ⟨σ.n+3,rfl,_,GB,rv (A3 _) (rv Yy (BK hl.2)),aa rfl ⟨x,rfl,?_⟩ rfl⟩ rfl);refine ac (aL rfl (cN "list.append" "list" bo (by decide) rfl rfl (by decide) rfl (aa rfl ⟨σ.n,rfl,by refine rv (Sg.aN _ _ _ _) (rv (Yz (Nc)) (rv De ?_));rfl,aw rfl (.pure (aa rfl (aB (bn (Sg.pn (NI) De) (rv (List.length_map _) (rv List.length_reverse (rv Yy (BK hl.2)))) (ao ?_))) rfl))⟩ rfl)));refine pv .next _ _ (.go _ _ F' (S.push Al OF) ⟨by simp,hU⟩ ?_ ?_)
    ·have:=FZ (rs:=rs) (i:=σ'.n) T.keys he (rv hx Al);rw [hx] at this;exact J' this
    ·rcases hp with hp | ⟨rfl,_⟩
     ·exact Yp _ hp
     ·exact Yn _ Yu
  ·intro fl ρ' aY Il;rcases Il with ⟨r4,n9,F',S',hP,O8,HB⟩ | ⟨ρ',ds,gi,Di,hR,ho,ic⟩
   ·clear F S hU hl hM hp he hx;refine ac (cM _ (d8 (fun Et ρ aM=>Pv aq σ.n es pre r4 x (HN σ.n jn i) mm aM Et ρ) ?_ n9.length _ aY (.mk fin n9 F' S' hP (Od hW O8) hpre)));clear F' S' hP O8 hpre;intro Et ρ aM r_47;obtain ⟨fin,rs,F,S,hP,hW,hpre⟩:=r_47;have hl:=FC.len S hz;have hM:=F.n;have Ay:look aM (.loc σ.n)=.list (rs.reverse.map fun t=>D.str t.1):=by simp only [look,F.sk]
    refine vt fun JW pv=>.pure (DR rfl (aa rfl ?_ rfl));refine rv Ay ?_;refine wz (pv _ _ ?_) (rv (List.length_map _) (rv List.length_reverse (Qo hl.2)));cases rs with
    | nil=>
     refine ⟨(fun h=>nomatch h),fun χ=>ac (tZ (ey .brk _ _ (ao (hK .next _ _ ⟨_,LB x,rfl,r4,fin,F,S,fun y hy=>?_⟩))))⟩;rcases Yr.mp hy with hy | hy
     ·exact hpre y hy
     ·refine rv (Yq.mp hy) ?_;have:=(S.mem p).mp HB;simpa using this
    | cons t r=>
     obtain ⟨t,j,b⟩:=t;refine ⟨fun χ=>⟨r.length,rfl,c8 fun WV EK=>?_⟩,fun h=>by simp at h⟩;clear JW pv;refine e8 (fun b1 b2 z_6=>?_) (F.it _ Yu);refine db (fun e he hx hit=>?_) z_6;dsimp only at b1 b2 hx hit;have E:=ent aM F.old (KU hM) e he;have yD:dS es t=e.su:=rv hx.symm (pK T.keys he);have Mn:aM.o (σ.n+1)=.list ((r.reverse.map fun t=>D.jK (.loc t.2.2) "list_iterator.__next__")++[.jK (.loc b) "list_iterator.__next__"]):=by refine rv F.ik ?_;simp
     have OL:aM.o σ.n=.list ((r.reverse.map fun t=>D.str t.1)++[.str t]):=by refine rv F.sk ?_;simp
     have BF:r.length≤20:=by have:=hl.2;simp only [List.length_cons] at this;exact QO this
     refine ac (xc (cv:=.type "StopIteration") rfl (c7 (vA rfl rfl (Bw rfl (tV rfl (aa rfl ⟨σ.n+1,rfl,_,Mn,?_,f9 (af (bq (bq ⟨_,CV _ _,b,e.s,j,e.su.map D.str,rfl,hit,E.hs,fun y hy=>?_,fun hy=>?_⟩)))⟩ rfl))))))
     ·simp only [List.length_append,List.length_map,List.length_reverse,List.length_cons,List.length_nil];exact Qq BF
     ·rw [Y2,YI] at hy;revert hy;refine az fun y hy e_7=>?_;subst e_7;have Ks:(dS es t)[j]? = some y:=rv yD hy;have Df:j<(dS es t).length:=(YD.mp Ks).1;have VJ:=CQ (es:=es) (seen:=r4) (i:=b) (r:=r) Df;refine rG (ac (tZ (EK .brk _ _ (ao (ey .next _ _ ⟨_,Le.cons rfl (Le.cons rfl (Le.cons rfl (Le.cons rfl (Le.cons rfl (Le.cons rfl (Le.cons rfl Le.nil)))))),y,r4,fin,_,F.next rfl he hx,S.next,⟨(eQ j rfl Ks hP.1),hP.2⟩,?_,SV hW VJ,hpre,.inl HB⟩)))));rw [yD] at Ks;exact (hs e he).2 y (YN Ks)
     ·refine ⟨uk,aT rfl (ku HK) (.val _ rfl) rfl rfl,?_⟩;have Df:(dS es t).length≤j:=by
       refine rv yD ?_;have:=List.getElem?_eq_none_iff.mp hy
       rwa [List.length_map] at this
      have Mz:∀ y∈dS es t,y∈fin:=fun y hy=>hP.1 y (rv (List.take_of_length_le Df) hy);have VA:t∉r.map (fun x=>x.1):=by
       have:=S.nd;rw [List.map_cons,Y0] at this;exact this.1
      have hd:(cP (dn ((t,j,b)::r)) t).isSome=true:=by refine rv (q8 _ _) ?_;simp
      refine ac (D8 (aa rfl ⟨σ.n+3,rfl,cN "list.pop" "list" zT (by decide) rfl rfl (by decide) rfl (aa rfl ⟨σ.n,rfl,by refine rv (Sg.aN _ _ _ _) (rv (Yz (Nu b1)) (rv OL ?_));rfl,aB (zy (Sg.pn (SB b1) OL) (rv (List.length_map _) (rv List.length_reverse (rv Yy (NN BF)))) ⟨t,_,rfl,Sg.pn (NR) (Sg.pn (SF b1) F.nk),hd,rv (A3 _) (rv Yy (Ys hl.2 (by decide))),?_⟩)⟩ rfl)⟩ rfl));refine ac (aL rfl (cN "list.pop" "list" zT (by decide) rfl rfl (by decide) rfl (aa rfl ⟨σ.n+1,rfl,by refine rv (Sg.aN _ _ _ _) (rv (Yz (NG)) (rv (Sg.aN _ _ _ _) (rv (Yz (PD)) (rv (Sg.aN _ _ _ _) (rv (Yz (Nv b1)) (rv Mn ?_))))));rfl,aB (zy (Sg.pn (NT) (Sg.pn (NS) (Sg.pn (SH b1) Mn))) (rv (List.length_map _) (rv List.length_reverse (rv Yy (NN BF)))) (ao (ao ?_)))⟩ rfl)));refine EK .next _ _ ⟨_,Le.refl,fin++[t],r,F.pop rfl VA,S.pop Mz,(hP.2.mono fun y hy=>Yp _ hy).Ov (Yn _ Yu),?_,fun y hy=>Yp _ (hpre y hy)⟩;have:=F1 (es:=es) (seen:=r4) (t:=(t,j,b)) (r:=r);exact Od hW this
   ·exact ey (.ret _) _ _ (hK (.ret _) _ _ ⟨bW es,ep,AD _ ho,h2 x ds hR gi Di _ (back _ ho) (by rw [Sg.bF];exact ic)⟩)
 ·intro ρ σ' r_48;revert r_48;refine pD fun e_9 z_8=>?_;subst e_9;refine gf (fun seen fin F S hpre=>?_) z_8;refine ⟨AD σ' F.old,?_⟩;refine ac (bg (.pure (bL ⟨bW es,ep,AD σ' F.old,?_⟩)));refine h1 fin S.fn (fun e he=>hpre _ (Yt.mpr (aF e he rfl))) _ (back σ' F.old) ?_;have:=F.n;rw [Sg.bF];exact KU this
end
theorem j7:dZ "dict.values" "dict" "values":=⟨PySem.F.plainAttrs_dict,PySem.F.slot_dict_values,PySem.F.type_dict_values⟩
theorem au.flatten {P P':Pl}{h h':Heap}{ds:List D}{vs:List Value}(f:ds.all XF=true)(r:au P h ds vs):au P' h' ds vs:=
 au.ind (motive:=fun ds vs=>ds.all XF=true→au P' h' ds vs) (fun χ=>.nil)
  (fun d v ds vs x χ ih f=>.cons _ _ _ _ (x.flatten (Bool.and_eq_true_iff.mp f).1) (ih (Bool.and_eq_true_iff.mp f).2)) r f
theorem tP {o:PySem.Expr}{apos pos:Pos}{k:List D→Prop}(hc:l.calm=true)(hb:bu o=true)(fw:(apos.endLine==pos.line)=true)
  (h:EV Ω l N ρ σ o fun d=>∃ n es,d=.loc n∧σ.o n=.bB es∧k (es.map (fun x=>x.2))):DW Ω l N ρ σ (.Call (.Attribute o "values" apos) [] [] pos) k:=fun A B μ env s R F Q E kk=>by
 have hA:=R.calm hc;refine wpAny_Call_method_lateS (bJ hb) (et pos rfl (by decide)) fw ((h A B μ env s R F).go fun ov s₁ ai d hq b6=>?_);revert hq;refine gf fun n es e_1 hn hk=>?_;subst e_1;have av:=F.grown ai;refine az (fun a e_2 ha=>?_) (eR b6);subst e_2;obtain ⟨t1,t2⟩:=mT (T:="dict") av.hp ha (by refine rv hn ?_;rfl) (by decide);refine IU "dict" "dict.values" j7.pa j7.slot j7.ty t1 t2 ?_;have hp:(backTo pos (starEach [] env)).any (fun x=>x.1)=false:=aK pos rfl;refine Calls.callWith_builtin hp (bw hp ((ak (k:=fun ds=>ds=[]) rfl A B μ env s₁ pos R av).go fun vs ag ar ds hq rs=>?_));obtain rfl:=hq;cases rs;have aI:=av.grown ar;refine db (fun aV z dd rr=>?_) (jF aI.hp ha hn);refine call_meetsIn PySem.F.slot_dict_values dd.typeIs PySem.F.entry_dict_values (PySem.F.args_dict_values_1 _) (meets_dict_values (strKind Ω.prog Ω.w) a z) ⟨⟨aV,dd⟩,?_⟩;have qY:Xi ag.heap (ag.heap.push { cls:=.type "dict_values",data:=.fields #[.ref a] }):=.push _ _;obtain ⟨ep,da⟩:=dd.dictAt;have BH:=da.at' (h':=ag.heap.push { cls:=.type "dict_values",data:=.fields #[.ref a] }) fun o e=>qY _ o e;refine wpAny_pyIter_values (eQ _ (Yw _ rfl) rfl rfl) BH ?_;generalize OK:ag.heap.push { cls:=.type "dict_values",data:=.fields #[.ref a] }=dW at*;have nn:=a9 dW;have jA:Xi dW (dW.push { cls:=.type "dict_valueiterator",data:=.fields #[.ref a,.int 0 0,.int aV.length 0,.int ep 0] }):=.push _ _;have aU:aH s { ag with heap:=dW }:=(ai.trans ar).trans (.heap qY);have hlen:=rr.len;have gi:a≠dW.objs.size:=by
  revert BH;refine cS fun o χ e χ=>?_;exact fun q=>by rw [q,nn] at e;exact iZ e
 refine kk { ag with heap:=dW } (.ref dW.objs.size) { ag with heap:=dW.push { cls:=.type "dict_valueiterator",data:=.fields #[.ref a,.int 0 0,.int aV.length 0,.int ep 0] } } (es.map (fun x=>x.2)) aU hk ?_;refine ⟨dW.objs.size,[dW.objs.size,a],[dW.objs.size],(fun i v=>∃ k,aV[i]? = some (k,v)),(fun i h=>h.IsValIter dW.objs.size a i aV.length ep∧h.DictAt (strKind Ω.prog Ω.w) a aV ep),rfl,?_,⟨(eQ _ (Yw _ rfl) rfl rfl),BH.at' fun o e=>jA _ o e⟩,?_,?_,?_,.heap jA,?_⟩
 ·have W:=Walks.dictValues (prog:=Ω.prog) (w:=Ω.w) (knd:=strKind Ω.prog Ω.w) (A:=A) hA dW.objs.size a gi aV ep;refine rv (List.length_map _) (rv hlen.symm ?_);exact W
 ·intro b hb;rcases YC.mp hb with rfl | hb
  ·exact ⟨_,Yw _ rfl⟩
  ·refine rv (Yq.mp hb) ?_;revert BH;refine cS fun o χ e χ=>?_;exact ⟨o,jA _ o e⟩
 ·intro b hb;exact rv (Yq.mp hb) nn
 ·intro j h r_69 b hb;obtain ⟨⟨o,e,_⟩,_⟩:=r_69;exact rv (Yq.mp hb) ⟨o,e⟩
 ·intro j v r_70;obtain ⟨key,hv⟩:=r_70;have hj:j<es.length:=rv hlen.symm ((YD.mp hv).1);refine az (fun u hu ru=>?_) (rr.get (j:=j) (k:=(es[j]).1) (d:=(es[j]).2) (rv (YM hj) rfl));rw [hv] at hu;cases hu;refine aF ((es[j]).2) (by refine rv (Y2) (rv (YM hj) ?_);rfl) (((ru.ext qY).apart (new:=[dW.objs.size]) fun b hb=>?_).ext jA);exact rv (Yq.mp hb) nn
theorem Bx {elt iter:PySem.Expr}{x:Str}{px:Pos}{ifs:List PySem.Expr}{scope:Scope}{pos:Pos}{k:D→Sg→Prop}(lp:gt N ρ scope x iter=true)
  (h:DW Ω l N ρ σ iter (wT Ω l N ρ σ elt x ifs scope fun χ ds=>ds.all XF=true∧k (.loc σ.n) (σ.add (.list ds)))):EF Ω l N ρ σ (.ListComp elt [⟨.Name x px,iter,ifs,0⟩] scope pos) k:=fun A B μ env s R F Q E kk=>by
 refine rv (eval_ListComp _ _ _ _) ?_;refine nD (k:=fun χ ds=>ds.all XF=true∧k (.loc σ.n) (σ.add (.list ds))) R.toRm F.toFx lp (h A B μ env s R.toRm F.toFx) (fun xs hx=>hx) fun s' ds a vs n Co m hk g hn ha rs hC gi Au n9=>?_;refine aF m Au (fun h' eK=>?_);have keep:Xi s.heap h':=fun b o e=>eK.extBut b o (fun q=>by rw [q,hC] at e;exact iZ e) (g.ext b o e);revert g;refine gf fun aP ug e_3 χ lJ=>?_;subst e_3;have t9:=eK.extBut a _ (Ne.symm gi) ha;exact kk _ _ _ _ (dP lJ (x:=.list ds) (tk:=ug) F.hp hn keep (gY vs n t9 (au.flatten hk.1 rs)) ⟨_,t9⟩) ⟨_,hk.2,.loc _ _ (j_ F.hp _)⟩
noncomputable def ck (es:List Xd):List Str:=(es.filter fun e=>decide (e.np=0)).map (fun x=>x.key)
noncomputable def u7 (es:List Xd):D→Option Xd
 | .loc a=>es.find? fun e=>e.a=a
 | _=>none
theorem wQ {σ:Sg}{i m jn:Nat}{r:D}{po nf:Int}{es:List Xd}(T:TS σ i m jn r po nf es){e:Xd}(he:e∈es):u7 es (.loc e.a)=some e:=by
 show (es.find? fun f=>decide (f.a=e.a))=some e;cases q:es.find? fun f=>f.a=e.a with
 | none=>
  have:=List.find?_eq_none.mp q e he;simp at this
 | some f=>
  have h1:=List.mem_of_find?_eq_some q;have h2:=List.find?_some q;exact congrArg some (T.Pq h1 he (by simpa using h2))
theorem uA {σ:Sg}{i m jn:Nat}{r:D}{po nf:Int}{es:List Xd}(T:TS σ i m jn r po nf es):(((es.map fun e=>D.loc e.a).filter fun d=>((u7 es d).map fun e=>decide (e.np=0)).getD false).map fun d=>((u7 es d).map fun e=>D.str e.key).getD .none)=(ck es).map D.str:=by
 have aux:∀ l:List Xd,(∀ e∈l,e∈es)→(((l.map fun e=>D.loc e.a).filter fun d=>((u7 es d).map fun e=>decide (e.np=0)).getD false).map fun d=>((u7 es d).map fun e=>D.str e.key).getD .none)=(ck l).map D.str:=by
  intro l
  induction l with
  | nil=>intro _;rfl
  | cons e l ih=>
   intro h;have ih:=ih fun f hf=>h f (Yv _ hf);have e1:=wQ T (h e Yu);unfold ck at ih ⊢;refine rv List.map_cons (rv List.filter_cons (rv e1 (rv List.filter_cons ?_)))
   by_cases q:e.np=0
   ·simp only [q,Option.map_some,decide_true,Option.getD_some,if_true,List.map_cons,e1];exact rv ih rfl
   ·simp only [q,Option.map_some,decide_false,Option.getD_some,Bool.false_eq_true,if_false];exact ih
 exact aux es fun e he=>he
section
variable (HK:Ω.K=hd.heap_1 Ω.w.params)
include HK
theorem xv (n:Nat)(σ:Sg)(i m jn:Nat)(po nf:Int)(es:List Xd)(k:D→Sg→Prop)(kx:Value→Sg→Prop)(T:TS σ i m jn .none po nf es)(hz:es.length≤20)(hs:∀ e∈es,e.su.length≤500∧∀ y∈e.su,y∈es.map (fun x=>x.key))
  (h1:∀ fin,nZ (dS es) fin→(∀ e∈es,e.key∈fin)→∀ σ',TR σ' i m jn σ.n po nf es (ck es)→(∀ j,j<σ.n→j≠m→σ'.o j=σ.o j)→σ.n≤σ'.n→k .none σ')
  (h2:∀ x,ua (dS es) x x→∀ σ',TR σ' i m jn σ.n po nf es (ck es)→(∀ j,j<σ.n→j≠m→σ'.o j=σ.o j)→σ.n≤σ'.n→kx (.ref 361) σ'):M9 Ω ⟨n+2,⟨true,true⟩⟩ 398 [.loc i] [] σ k kx:=by
 have li:=T.li;have lm:=T.lm;have lj:=T.lj;refine Eb.ce (Ea rfl (mz HK) (Xe.of_eq (xs:=["self"]) rfl fun vs hv=>by obtain ⟨a0,rfl⟩:=eJ hv;rfl) (by rfl) ?_);dsimp only [iL,iU,List.zip,List.zipWith];refine c7 (rJ (aL rfl (.pure (b_ ?_))));refine c7 (rJ (bc (.pure (aC rfl (dQ HK "_ready_nodes" (by simp) rfl T.hi T.hm rfl (bL ?_))))));refine jp ⟨(fun h=>nomatch h),fun χ=>ao ?_⟩;refine c7 (rJ (cG (fun χ=>rfl) (fun χ=>rfl) (fun χ=>rfl) (Bx rfl (tP rfl rfl rfl (dQ HK "_node2info" (by simp) rfl T.hi T.hm rfl (lA jn (bW es) rfl T.hj ?_))))));have L4:(bW es).map (fun x=>x.2)=es.map fun e=>D.loc e.a:=by unfold bW;refine rv List.map_map ?_;rfl
 refine rv L4 ?_;refine nE (rv (List.length_map _) (rv Yy (BK hz))) (fun d=>((u7 es d).map fun e=>decide (e.np=0)).getD false) (fun d=>((u7 es d).map fun e=>D.str e.key).getD .none) (fun d hd=>?_) ?_
 ·refine az (fun e he e_1=>?_) (Yt.mp hd);subst e_1;have E:=T.ent e he;refine rv (wQ T he) ?_;refine ⟨aC rfl (n5 rfl (aa rfl ⟨e.a,rfl,_,ju HK E,af (eV ?_)⟩ rfl)),fun χ=>n5 rfl (aa rfl ⟨e.a,rfl,_,Do HK E,rfl⟩ rfl)⟩;rfl
 refine rv (uA T) ?_;refine ⟨rv List.all_map (List.all_eq_true.mpr fun χ χ=>rfl),?_⟩;have rl:(ck es).length≤es.length:=by unfold ck;exact rv (List.length_map _) (Y1 ..)
 have i1:(σ.add (.list ((ck es).map D.str))).o i=.inst 443 m []:=Sg.an (BM li) T.hi;have m1:(σ.add (.list ((ck es).map D.str))).o m=.attrs (pI jn .none po nf):=Sg.an (BM lm) T.hm;refine t7 HK "_ready_nodes" (by simp) rfl i1 m1 (YF rfl) rfl ?_;have ef:bE "_ready_nodes" (.loc σ.n) (pI jn .none po nf)=pI jn (.loc σ.n) po nf:=rfl;refine rv ef ?_;generalize m7:(σ.add (.list ((ck es).map D.str))).put m (.attrs (pI jn (.loc σ.n) po nf))=aM;have n2:aM.n=σ.n+1:=by refine rv m7.symm ?_;rfl
 have o2:∀ j,j<σ.n→j≠m→aM.o j=σ.o j:=fun j hj hm=>rv m7.symm (rv (Sg.aN _ _ _ _) (rv (Yz hm) (rv (Sg.aZ _ _ _) (rv (Yz (BL hj)) rfl))));have ne:∀ j,(∀ q,σ.o j≠.attrs (pI jn .none po q))→j≠m:=fun j h q=>h nf (q▸T.hm);have nm:∀ e∈es,e.m≠m:=fun e he q=>by
  have:=(T.ent e he).hm;rw [q,T.hm] at this;cases this
 have dw:TR aM i m jn σ.n po nf es (ck es):=by
  refine ⟨⟨(o2 i li (ne _ fun q z=>gR T.hi z rfl)).trans T.hi,rv m7.symm (rv (Sg.aN _ _ _ _) (rv (YH rfl) rfl)),(o2 jn lj (ne _ fun q z=>gR T.hj z rfl)).trans T.hj,KW li n2,KW lm n2,KW lj n2,fun e he=>?_,T.keys,T.ss⟩,rv m7.symm (rv (Sg.aN _ _ _ _) (rv (Yz (Nm lm)) (rv (Sg.aZ _ _ _) (rv (YH rfl) rfl)))),Nl n2,fun e he=>by have:=(T.ent e he).ls;exact BM this⟩;have E:=T.ent e he;have la:=E.la;have lm:=E.lm;have ls:=E.ls;exact ⟨(o2 _ la (ne _ fun q z=>gR E.ha z rfl)).trans E.ha,(o2 _ lm (nm e he)).trans E.hm,(o2 _ ls (ne _ fun q z=>gR E.hs z rfl)).trans E.hs,HU n2 la,HU n2 lm,HU n2 ls⟩
 clear m7 i1 m1;have eG:∀ σ',(∀ j,j<aM.n→σ'.o j=aM.o j)→aM.n≤σ'.n→TR σ' i m jn σ.n po nf es (ck es):=fun σ' ho hn=>by
  refine ⟨dw.t.keep hn fun j hj χ=>ho j hj,(ho _ dw.lr).trans dw.hr,YG dw.lr hn,dw.nr⟩
 refine c7 (rJ (ah rfl rfl (n6 HK "_find_cycle" (f:=433) (by simp) rfl dw.t.hi dw.t.hm rfl (.of (jh HK)) (fun χ=>⟨_,rfl⟩) rfl rfl (aB ?_))));refine r6 HK n aM i m jn _ po nf es _ dw.t hz hs (fun fin hf hk σ' ho hn=>?_) fun x ds hx gi Di σ' ho hn=>?_
 ·refine c7 (Bt (.pure (dz rfl (aa rfl (wy ⟨(fun h=>nomatch h),fun χ=>rG (ao (rG (ao ?_)))⟩) rfl))));exact h1 fin hf hk σ' (eG σ' ho hn) (fun j hj hm=>(ho j (HU n2 hj)).trans (o2 j hj hm)) (N9 n2 hn)
 ·refine c7 (Bt (.pure (dz rfl (aa rfl (wz ⟨fun χ=>?_,fun h=>?_⟩ (Ql Di)) rfl))))
  ·refine c7 (D7 HK rfl (ix HK) rfl rfl rfl (ae rfl (Bq (b_ (ae rfl (aa rfl (ak ⟨sz rfl,?_⟩) rfl))))));exact h2 x hx σ' (eG σ' ho hn) (fun j hj hm=>(ho j (HU n2 hj)).trans (o2 j hj hm)) (N9 n2 hn)
  ·cases ds with
   | nil=>exact absurd rfl gi
   | cons d ds=>simp at h
end
noncomputable def dR (ps:List PE)(x:Str):Int:=((ps.find? fun e=>decide (e.1=x)).map (fun x=>x.2.1)).getD 0
noncomputable def dC (ps:List PE)(x:Str):List Str:=((ps.find? fun e=>decide (e.1=x)).map (fun x=>x.2.2)).getD []
noncomputable def gq (x:Str)(c:Int)(ps:List PE):List PE:=ps.map fun p=>if p.1=x then (p.1,c,p.2.2) else p
noncomputable def fb (st:List PE×List Str)(y:Str):List PE×List Str:=(gq y (dR st.1 y-1) st.1,if dR st.1 y-1=0 then st.2++[y] else st.2)
noncomputable def gp (st:List PE×List Str)(x:Str):List PE×List Str:=(dC st.1 x).foldl fb (gq x (-2) st.1,st.2)
noncomputable def lw (st:List PE×List Str)(xs:List Str):List PE×List Str:=xs.foldl gp st
noncomputable def iD (ps:List PE)(rd:List Str):List PE:=rd.foldl (fun ps x=>gq x (-1) ps) ps
noncomputable def iB (ps:List PE):List Str:=(ps.filter fun e=>decide (e.2.1=0)).map (fun x=>x.1)
noncomputable def mn (st:List PE×List Str):List PE×List Str:=lw (iD st.1 st.2,[]) st.2
noncomputable def cf (ps:List PE):Nat→List PE×List Str
 | 0=>(ps,iB ps)
 | k+1=>mn (cf ps k)
noncomputable def t8 (st:List Xd×List Str):List PE×List Str:=(st.1.map Xd.pr,st.2)
theorem wP (es:List Xd)(x:Str):(es.map Xd.pr).find? (fun e=>decide (e.1=x))=(es.find? fun e=>decide (e.key=x)).map Xd.pr:=by
 refine rv (List.find?_map) ?_;rfl
theorem zK (es:List Xd)(x:Str):dR (es.map Xd.pr) x=uC es x:=by
 unfold dR uC;refine rv (wP _ _) (rv (Option.map_map _ _ _) ?_);rfl
theorem y1 (es:List Xd)(x:Str):dC (es.map Xd.pr) x=dS es x:=by
 unfold dC dS;refine rv (wP _ _) (rv (Option.map_map _ _ _) ?_);rfl
theorem pO (es:List Xd)(x:Str)(c:Int):gq x c (es.map Xd.pr)=(cb x c es).map Xd.pr:=by
 unfold gq cb;refine rv List.map_map (rv List.map_map ?_);refine YL fun e χ=>?_;simp only [Function.comp,Xd.pr]
 by_cases q:e.key=x<;>simp [q]
theorem xj (st:List Xd×List Str)(y:Str):fb (t8 st) y=t8 (dH st y):=by
 unfold fb dH t8;simp only [zK,pO]
theorem AU:∀ (ys:List Str) (st:List Xd×List Str),ys.foldl fb (t8 st)=t8 (ys.foldl dH st):=by
 intro ys
 induction ys with
 | nil=>
  intro χ;exact rfl
 | cons y ys ih=>
  intro st;exact rv List.foldl_cons (rv List.foldl_cons (rv (xj _ _) (rv (ih _) rfl)))
theorem xl (st:List Xd×List Str)(x:Str):gp (t8 st) x=t8 (rT st x):=by
 unfold gp rT;refine rv (AU _ _).symm ?_;simp only [t8,y1,pO]
theorem tf:∀ (xs:List Str) (st:List Xd×List Str),lw (t8 st) xs=t8 (cC st xs):=by
 intro xs
 induction xs with
 | nil=>
  intro χ;exact rfl
 | cons x xs ih=>
  intro st;unfold lw cC;refine rv List.foldl_cons (rv List.foldl_cons (rv (xl _ _) ?_));exact ih _
theorem v_:∀ (rd:List Str) (es:List Xd),iD (es.map Xd.pr) rd=(fe es rd).map Xd.pr:=by
 intro rd
 induction rd with
 | nil=>
  intro χ;exact rfl
 | cons x rd ih=>
  intro es;unfold iD fe;refine rv List.foldl_cons (rv List.foldl_cons (rv (pO _ _ _) ?_));exact ih _
theorem xC (es:List Xd):iB (es.map Xd.pr)=ck es:=by
 unfold iB ck;refine rv List.filter_map (rv List.map_map ?_);rfl
theorem xz (es:List Xd)(rd:List Str):mn (es.map Xd.pr,rd)=t8 (cC (fe es rd,[]) rd):=by
 unfold mn;refine rv (tf _ _).symm ?_;show lw (iD (es.map Xd.pr) rd,[]) rd=_;refine rv (v_ _ _) ?_;rfl
structure nR (ps:List PE)(R:Nat):Prop where
 fin:(cf ps R).2=[]
 act:∀ k,k<R→(cf ps k).2≠[]
 len:∀ k,(cf ps k).2.length≤20
 key:∀ k,∀ x∈(cf ps k).2,x∈ps.map (fun x=>x.1)
 out:∀ k pre x post,(cf ps k).2=pre++x::post→dR (lw (iD (cf ps k).1 (cf ps k).2,[]) pre).1 x = -1
theorem CE.freeze {a:Addr}{ds:List D}{kw:List (Str×D)}{k:D→Sg→Prop}(h:CE Ω l a ds kw .nil fun d σ'=>∃ d',u2 σ' 9 d=some d'∧k d' .nil):CE Ω l a ds kw .nil k:=fun A B μ s vs aV R st cl H rs rk Q E kk=>by
 have Vp:μ=[]:=List.length_eq_zero_iff.mp H.len;subst Vp;refine (h A B [] s vs aV R st cl H rs rk).go fun v aD σ' s' x d hq r=>?_;revert hq;refine az fun d' e hk=>?_;refine kk v [] .nil s' ⟨x.same,(aF [] rfl (fun χ m=>nomatch m)),x.keep,x.bP,Hp.nil fun a m=>x.hp.held a (Yn _ m),x.tk⟩ ⟨d',hk,u0 x.hp (fun a ha m=>ha (Yn _ m)) (fun a ha m=>x.hp.apart a ha m) 9 d d' v e r⟩
section
open PySem.Sem (wp)
structure xd (K:Frag)(C:Addr)(name:Str)(f:Addr):Prop extends Xu K C name f where
 hd:hasDictIn K C=true
 get:specialIn K (.ref f) "__get__"=some (some (.builtin "function.__get__"))
 tk:takesIn K (.ref f)=some false
 cp:copiedNames.contains name=false
 fi:fnIn K f=true
theorem vD.loud {n:Nat}{c:Bool}{a:Addr}{ds:List D}{kw:List (Str×D)}{k:D→Sg→Prop}(h:vD Ω ⟨n,⟨c,false⟩⟩ a ds kw σ k){lo:Bool}:vD Ω ⟨n,⟨c,lo⟩⟩ a ds kw σ k:=fun A B μ s vs aV R st cl H rs rk=>
 h A B μ s vs aV ⟨⟨R.depth,R.units,R.calm⟩,R.out,fun q=>nomatch q⟩ st cl H rs rk
theorem jJ {o:PySem.Expr}{name:Str}{apos pos:Pos}{args:List PySem.Expr}{f:Nat}{xS:Nat→Prop}{Q:Value→Shared→Prop}{E:Value→Shared→Prop}(hb:bu o=true)(lN:(backTo pos (starEach args env)).any (fun x=>x.1)=true)(F:Fs Ω B μ env N ρ σ s)(R:oK l A B env)
  (h:EV Ω l N ρ σ o fun d=>∃ n C m sl fs,d=.loc n∧σ.o n=.inst C m sl∧σ.o m=.attrs fs∧lk name fs=none∧xd Ω.K C name f∧xS n)
  (kk:∀ n a q s',μ[n]? = some a→aH s s'→s'.heap.get? q=some (methodObj (.ref f) (.ref a))→xS n→wpAny Ω.M A (evalArgs (.ref q) true (backTo pos (starEach args env)) []) (fun x s₁=>MethP Ω.K q f (.ref a) s₁.heap∧wpAny Ω.M A (call (.ref q) ([]++x.pos) x.kw) Q E s₁) E s'):
  wpAny Ω.M A (eval (.Call (.Attribute o name apos) args [] pos) env) Q E s:=by
 refine rv (arm_eval_Call _ _ _ _ _ _ _) (rv (bJ hb) ?_);refine Yo ((h A B μ env s R.toRm F.toFx).go fun ov s₁ ai cD hq b6=>Yo (wpAny_standAt ?_));revert hq;refine Ph fun n C m sl fs e_1 ic hm hl M Jk=>?_;subst e_1;have av:=F.grown ai;refine az (fun ad e_2 ha=>?_) (eR b6);subst e_2;refine gf (fun dx vs AD hx χ=>?_) (lh av.hp ha ic);refine cS (fun l' n' sR fl=>?_) (gQ av.hp AD hm);have hs:lookIn name (dictOf l' n')=some none:=by
  unfold lookIn;dsimp only;refine rv (fl.none hl) ?_;simp only [fl.noRef];rfl
 have Jp:methodCallForm (args.length+([]:List Keyword).length) (backTo pos (starEach args env)) (backToKw pos (keywordEach [] env))=false:=by
  unfold methodCallForm;have:(backTo pos (starEach args env)).all (fun x=>!x.1)=false:=by
   refine rv (propext (Bool.eq_false_iff)) ?_;intro q;refine az (fun p hp HB=>?_) (Y3.mp lN);have:=List.all_eq_true.mp q p hp;rw [HB] at this;cases this
  refine rv this ?_;rfl
 unfold methodCall;refine rv Jp ?_;have X:=Ω.m6 _ av.stays;have I:InstAt s₁.heap ad _ C (some (dictOf l' n')):=⟨hx,rfl,rfl,sR⟩;refine Yo (YV (Yo (m:=getAttr (.ref ad) name true) (d9 (get_bind X I M.ga (findObj_fn M.hd M.at_ M.get M.tk M.cp hs) M.hook (wpAny_call (fn_get (s:={ s₁ with toks:=s₁.toks+1 }) X M.fn (handed_on rfl fun lt=>YA ?_)))))));refine Yo (m:=methodCallPos false o env apos pos) (YA ?_);refine ks_call (P:=MethP Ω.K s₁.heap.objs.size f (.ref ad)) lN (keeps_M M.fi) ?_;exact kk n ad s₁.heap.objs.size _ ha (ai.trans (lA _ _ rfl (.push _ _) lt)) (Yw _ rfl) Jk
theorem yA {o a b:PySem.Expr}{name:Str}{apos pos p:Pos}{k:D→Sg→Prop}(f:Addr)(hb:bu o=true)(hn:Xc [a]=true)
  (h:EV Ω l N ρ σ o fun d=>∃ n C m sl fs,d=.loc n∧σ.o n=.inst C m sl∧σ.o m=.attrs fs∧lk name fs=none∧xd Ω.K C name f∧EV Ω l N ρ σ a fun d1=>EV Ω l N ρ σ b fun d2=>∃ xs,(d2=.list xs∨d2=.tup xs)∧xs.length≤sizeLine∧vD Ω l f (.loc n::d1::xs) [] σ k):EF Ω l N ρ σ (.Call (.Attribute o name apos) [a,.Starred b p] [] pos) k:=fun A B μ env s R F Q E kk=>by
 have O5:=(cn (env:=env) (show Xc [a]=true from hn)).2;have KB:starEach [a,.Starred b p] env=(false,eval a env)::starEach [.Starred b p] env:=(mC hn).2;refine jJ hb (by refine rv KB ?_;rfl) F R h fun n ad q s₁ ha ai hq hd=>?_;have av:=F.grown ai;refine rv KB ?_;refine Calls.evalArgs_plain ?_;show wpAny _ _ (spliced (backTo pos ((false,eval a env)::starEach [.Starred b p] env))) _ _ _;refine rv KB.symm ?_;refine wpAny_items_cons ((hd A B μ env s₁ R.toRm av.toFx).go fun v ag ar d1 V7 r1=>?_) KB;have wO:=ai.trans ar;have aI:=F.grown wO;refine ks_spliced ((V7 A B μ env ag R.toRm aI.toFx).go fun v2 aE aU d2 hq r2=>?_);revert hq;refine db fun xs Mu hz hc=>?_;have jr:=wO.trans aU;have dX:=F.grown jr;refine Em r2 Mu hz fun h' ws hx rw=>?_;refine wpAny_items_nil (pos:=pos) (env:=env) ?_;have c4:aH s { aE with heap:=h' }:=jr.trans (.heap hx);have ij:=F.grown c4;refine rv (List.append_nil _) ?_;have C_:h'.get? q=some (methodObj (.ref f) (.ref ad)):=hx _ _ (aU.ext _ _ (ar.ext _ _ hq));refine ⟨⟨C_,Ω.m6 _ ij.stays⟩,wpAny_call (method_call C_ ?_)⟩;exact hc A B μ { aE with heap:=h' } (.ref ad::v::ws) [] R ij.st ij.clear ij.hp (.cons _ _ _ _ (.loc _ _ ha) (.cons _ _ _ _ ((r1.ext aU.ext).ext hx) (rw.ext hx))) .nil _ fun v ch aQ aE y hh=>kk v ch aQ aE ((bd.aG F.hp c4).bt y) hh
theorem vC {o b:PySem.Expr}{name:Str}{apos pos p:Pos}{k:D→Sg→Prop}(f:Addr)(hb:bu o=true)
  (h:EV Ω l N ρ σ o fun d=>∃ n C m sl fs,d=.loc n∧σ.o n=.inst C m sl∧σ.o m=.attrs fs∧lk name fs=none∧xd Ω.K C name f∧EV Ω l N ρ σ b fun d2=>∃ xs,(d2=.list xs∨d2=.tup xs)∧xs.length≤sizeLine∧vD Ω l f (.loc n::xs) [] σ k):EF Ω l N ρ σ (.Call (.Attribute o name apos) [.Starred b p] [] pos) k:=fun A B μ env s R F Q E kk=>by
 refine jJ hb rfl F R h fun n ad q s₁ ha ai hq hd=>?_;have av:=F.grown ai;refine ks_lone ((hd A B μ env s₁ R.toRm av.toFx).go fun v2 aE aU d2 hq r2=>?_);revert hq;refine db fun xs Mu hz hc=>?_;have jr:=ai.trans aU;have dX:=F.grown jr;refine Em r2 Mu hz fun h' ws hx rw=>?_;have c4:aH s { aE with heap:=h' }:=jr.trans (.heap hx);have ij:=F.grown c4;have C_:h'.get? q=some (methodObj (.ref f) (.ref ad)):=hx _ _ (aU.ext _ _ hq);refine ⟨⟨C_,Ω.m6 _ ij.stays⟩,wpAny_call (method_call C_ ?_)⟩;exact hc A B μ { aE with heap:=h' } (.ref ad::ws) [] R ij.st ij.clear ij.hp (.cons _ _ _ _ (.loc _ _ ha) (rw.ext hx)) .nil _ fun v ch aQ aE y hh=>kk v ch aQ aE ((bd.aG F.hp c4).bt y) hh
noncomputable def DD (K:Frag)(C:Addr)(name:Str)(f:Addr):Bool:=
 sy K C name f&&hasDictIn K C&&specialIn K (.ref f) "__get__"==some (some (.builtin "function.__get__"))&&takesIn K (.ref f)==some false&&!copiedNames.contains name&&fnIn K f
theorem wV {K:Frag}{C:Addr}{name:Str}{f:Addr}(h:DD K C name f=true):xd K C name f:=by
 simp only [DD,YR,YK,Bool.not_eq_true'] at h;obtain ⟨⟨⟨⟨⟨h1,h2⟩,h3⟩,h4⟩,h5⟩,h6⟩:=h;exact ⟨mJ h1,h2,h3,h4,h5,h6⟩
theorem ui (P:Params):DD (hd.heap_1 P) 443 "add" 393=true:=by kernel_rfl
theorem rR (P:Params):DD (hd.heap_1 P) 443 "done" 426=true:=by kernel_rfl
end
theorem Hb {e:PySem.Expr}{k:Bool→Sg→Prop}(hp:gX e=true)(h:EF Ω l N ρ σ e fun d σ'=>gn d fun b=>k b σ'):TE Ω l N ρ σ e k:=fun A B μ env s R F Q E kk=>
 wpAny_isTrue_value ((h A B μ env s R F).go fun v aD σ' s₁ x d hd r=>by
  exact (l9 hd r).use fun b ag ar hb=>kk b aD σ' ag (x.bt (.aG (F.c5 x).hp ar)) hb) (fJ hp env _)
noncomputable def fN (x:List Nat):D:=.str (sl x)
noncomputable def Kf:D→List Nat
 | .str s=>s.cps.toList
 | _=>[]
theorem ud (x:List Nat):Kf (fN x)=x:=rfl
noncomputable def a6 (q:List (List Nat)):List (List Nat):=(q.take 8).map fun x=>x.drop 1
noncomputable def k9 (b:List (List Nat))(x o:List Nat):Bool:=(o.drop 1==x.take 2)&&!b.contains (o++x.drop 2)
noncomputable def pU (q b:List (List Nat))(x:List Nat):List (List Nat):=(a6 q).filter (k9 b x)
noncomputable def bA (q b:List (List Nat))(xs:List (List Nat)):List PE:=xs.foldl (fun ps x=>oJ ps (sl x) ((pU q b x).map sl)) []
noncomputable def Hx (q:List (List Nat))(s:Str):Int:=((((a6 q).map sl).idxOf s:Nat):Int)
noncomputable def Hu (q:List (List Nat))(rd:List Str):D:=.list ((Xv (rd.map (Hx q))).map .int)
theorem sN (s:Str):∀ l:List (List Nat),s∈l.map sl→ff (.str s) (l.map fN)=some ((l.map sl).idxOf s):=by
 intro l
 induction l with
 | nil=>
  intro h;exact nomatch h
 | cons y l ih=>
  intro h;have q:lT 0 (fN y) (.str s)=some (sl y==s):=rfl;refine rv List.map_cons (rv List.map_cons (rv List.idxOf_cons ?_));unfold ff;refine rv q ?_
  by_cases z:sl y=s
  ·refine rv z ?_;simp
  ·have z':(sl y==s)=false:=rv (eO _ _).symm (Bool.eq_false_iff.mpr fun w=>z (pR w));refine rv z' ?_;rcases YC.mp h with h | h
   ·exact absurd h.symm z
   ·refine rv (ih h) ?_;rfl
theorem Cj:∀ (rd:List Str) (es:List Xd),(fe es rd).map Xd.sh=es.map Xd.sh:=by
 intro rd
 induction rd with
 | nil=>
  intro χ;exact rfl
 | cons x rd ih=>
  intro es;exact (ih _).trans (mf ..)
theorem TR.keep {σ σ':Sg}{i m jn rn:Nat}{po nf:Int}{es:List Xd}{rd:List Str}(T:TR σ i m jn rn po nf es rd)(hn:σ'.n=σ.n)(h:∀ j,GS i m jn rn es j→σ'.o j=σ.o j):TR σ' i m jn rn po nf es rd:=
 ⟨T.t.keep (Nat.le_of_eq hn.symm) fun j χ hj=>h j (.inl hj),(h rn (.inr rfl)).trans T.hr,rv hn T.lr,T.nr⟩
theorem JG {x:List Nat}(h:x.length=3):∃ c,x[2]? = some c∧x.drop 2=[c]:=by
 refine MO (fun a b c e=>?_) (F4 h);subst e;exact aF c rfl rfl
theorem Eu (ps:List PE)(x:Str):∀ y∈(dq ps x).map (fun x=>x.1),y∈ps.map (fun x=>x.1)∨y=x:=fun y hy=>by
 unfold dq at hy;split at hy
 ·exact .inl hy
 ·rw [List.map_append,Yr] at hy;rcases hy with hy | hy
  ·exact .inl hy
  ·simp at hy;exact .inr hy
theorem Aa (ps:List PE)(x z:Str):(df ps x z).map (fun x=>x.1)=ps.map (fun x=>x.1):=by
 unfold df;refine rv List.map_map ?_;refine YL fun p χ=>?_;simp only [Function.comp]
 by_cases q:p.1=x<;>simp [q]
theorem Ac (ps:List PE)(x:Str)(c:Int):(gd ps x c).map (fun x=>x.1)=ps.map (fun x=>x.1):=by
 unfold gd;refine rv List.map_map ?_;refine YL fun p χ=>?_;simp only [Function.comp]
 by_cases q:p.1=x<;>simp [q]
theorem Ab {x:Str}:∀ (l:List Str) (ps:List PE),∀ y∈(l.foldl (fun ps p=>df (dq ps p) p x) ps).map (fun x=>x.1),y∈ps.map (fun x=>x.1)∨y∈l:=by
 intro l
 induction l with
 | nil=>
  intro ps y hy;exact .inl hy
 | cons a l ih=>
  intro ps y hy;rcases ih _ y hy with h | h
  ·rw [Aa] at h;rcases Eu ps a y h with h | h
   ·exact .inl h
   ·exact .inr (h▸Yu)
  ·exact .inr (Yv _ h)
theorem C4 (ps:List PE)(x:Str)(xs:List Str):∀ y∈(oJ ps x xs).map (fun x=>x.1),y∈ps.map (fun x=>x.1)∨y=x∨y∈xs:=fun y hy=>by
 rcases Ab xs _ y hy with h | h
 ·rw [Ac] at h;rcases Eu ps x y h with h | h
  ·exact .inl h
  ·exact .inr (.inl h)
 ·exact .inr (.inr h)
theorem Ff {ps:List PE}{c:Nat}(h:∀ p∈ps,p.2.2.length≤c)(x:Str)(xs:List Str):∀ p∈oJ ps x xs,p.2.2.length≤c+xs.length:=
 vR xs (vS (B6 h x) x _)
theorem mQ {α:Type}{motive:List α→Prop}(h0:motive [])(h1:∀ xs x,motive xs→motive (xs++[x]))(xs:List α):motive xs:=by
 have:∀ n (l:List α),l.length=n→motive l:=by
  intro n
  induction n with
  | zero=>intro l hl;exact rv (List.length_eq_zero_iff.mp hl) h0
  | succ n ih=>
   intro l hl;rcases List.eq_nil_or_concat l with rfl | ⟨l',a,rfl⟩
   ·cases hl
   ·rw [List.concat_eq_append] at hl ⊢;exact h1 _ _ (ih l' (by simpa using hl))
 exact this _ xs rfl
theorem mr {q b:List (List Nat)}:∀ xs:List (List Nat),(∀ x∈xs,x∈a6 q)→∀ y∈(bA q b xs).map (fun x=>x.1),y∈(a6 q).map sl:=fun xs=>by
 refine mQ (motive:=fun xs=>(∀ x∈xs,x∈a6 q)→∀ y∈(bA q b xs).map (fun x=>x.1),y∈(a6 q).map sl) ?_ ?_ xs
 ·intro _ y hy;cases hy
 ·intro xs x ih h y hy;unfold bA at hy;rw [YY] at hy;rcases C4 _ _ _ y hy with hy | hy | hy
  ·exact ih (fun z hz=>h z (Yp _ hz)) y hy
  ·exact Yt.mpr (aF x (h x (Yn _ Yu)) hy.symm)
  ·refine az (fun z hz e_1=>?_) (Yt.mp hy);subst e_1;exact Yt.mpr (aF z ((YJ.mp hz).1) rfl)
theorem v5 {q b:List (List Nat)}(h8:(a6 q).length=8):∀ xs:List (List Nat),∀ p∈bA q b xs,p.2.2.length≤8*xs.length:=fun xs=>by
 refine mQ (motive:=fun xs=>∀ p∈bA q b xs,p.2.2.length≤8*xs.length) ?_ ?_ xs
 ·intro p hp;cases hp
 ·intro xs x ih p hp;unfold bA at hp;rw [YY] at hp;have:=Ff ih (sl x) ((pU q b x).map sl) p hp;have l:(pU q b x).length≤8:=rv h8.symm (Y1 ..);rw [List.length_map] at this;exact rv List.length_append (rv List.length_cons (rv List.length_nil (SR this l)))
inductive Pu (q b:List (List Nat))(R rn:Nat)(es:List Xd)(ring:Bool)(mm:Nat)(aQ:Sg):aO→Prop where
 | mk (j:Nat)(bl:List Xd)(rd:List Str)(po:Int)(hj:j+mm=R)(T:TR aQ 1 0 2 rn po po bl rd)(hi:t8 (bl,rd)=cf (bA q b (a6 q)) j)(hsh:bl.map Xd.sh=es.map Xd.sh)(hl:aQ.o 3=.list ((List.range j).map fun j=>Hu q (cf (bA q b (a6 q)) j).2))(Jd:¬ GS 1 0 2 rn bl 3):Pu q b R rn es ring mm aQ [("ring",.bool ring),("sorter",.loc 1),("rounds",.loc 3),("threes",.list ((a6 q).map fN))]
inductive Pr (q b pre:List (List Nat))(σ':Sg):aO→Prop where
 | mk (es:List Xd)(T:TS σ' 1 0 2 .none 0 0 es)(Ap:es.map Xd.pr=bA q b pre)(hr:σ'.o 3=.list [])(hn:4≤σ'.n)(hf:¬ Dq 1 0 2 es 3):Pr q b pre σ' [("sorter",.loc 1),("rounds",.loc 3),("ring",.bool false),("threes",.list ((a6 q).map fN)),("quads",.list (q.map fN)),("barred",.list (b.map fN))]
section
variable (HK:Ω.K=hd.heap_1 Ω.w.params)
include HK
theorem y_ (n:Nat)(q b:List (List Nat))(k:D→Sg→Prop)(hq:q.length=16)(OP:∀ x∈q,x.length=4)(hb:b.length≤16)(Gq:∀ p∈bA q b (a6 q),∀ y∈p.2.2,y∈(bA q b (a6 q)).map (fun x=>x.1))
  (R:Nat) (O_:R≤100) (hR:nR (bA q b (a6 q)) R)
  (h:∀ ring:Bool,(ring=false→∃ fin,nZ (dC (bA q b (a6 q))) fin∧∀ x∈(bA q b (a6 q)).map (fun x=>x.1),x∈fin)→(ring=true→∃ x,ua (dC (bA q b (a6 q))) x x)→k (.list [.bool ring,.list ((List.range R).map fun j=>Hu q (cf (bA q b (a6 q)) j).2)]) .nil):CE Ω ⟨n+6,⟨true,true⟩⟩ 462 [.list (q.map fN),.list (b.map fN)] [] .nil k:=by
 refine CE.freeze (b8 (o7 HK) (Xe.of_eq (xs:=["quads","barred"]) rfl fun vs hv=>by refine jE (fun a0 a1 e_2=>?_) (ka hv);subst e_2;rfl) (by rfl) ?_);dsimp only [jX,kM,List.zip,List.zipWith];have h3:∀ x∈a6 q,x.length=3:=fun x hx=>by
  refine az (fun y hy e_3=>?_) (Yt.mp hx);subst e_3;exact rv List.length_drop (rv (OP y (List.mem_of_mem_take hy)) rfl)
 have h8:(a6 q).length=8:=by unfold a6;exact rv (List.length_map _) (rv List.length_take (PW hq))
 refine ac (cw fN Kf ud rfl rfl rfl ?_);refine c9 (aa rfl (aS (bx (af (bq (aS (eU (br ?_) (by simp) ?_)))))) rfl)
 ·refine rv (lX (by decide)) (rv List.map_take.symm ?_);refine ⟨q.take 8,rfl,bI.all (fun x=>fN (x.drop 1)) (rv List.length_take (rv Yy NJ)) (fun y hy=>?_) ?_⟩
  ·have W2:=OP y (List.mem_of_mem_take hy);refine c9 (aa rfl (bx (af (bq (aS (aS (kg ?_ rfl ?_)))))) rfl)
   ·refine rv (hV (by decide)) ?_;rfl
   ·refine rv (hV (by decide)) (rv (bk _) (rv List.length_drop (rv Yy ?_)));lia -abstractProof
  ·have e1:(q.take 8).map (fun x=>fN (x.drop 1))=(a6 q).map fN:=by unfold a6;refine rv List.map_map ?_;rfl
   refine rv e1 ?_;refine ac (iX rfl rfl rfl (some ["sorter","rounds","ring"]) rfl (.inr rfl) (rK (aw rfl ?_)));refine jO rfl (gI HK) (rv HK (BV _)) rfl rfl (aB (CE.loud (Ll HK (n+3) .nil _ fun aq e1 e2 e3 e4 e5=>?_)));refine aw rfl (bU (aB ⟨Nat.zero_le _,aw rfl (.pure (f_ (aB ⟨sz rfl,_,rfl,rfl,?_⟩)))⟩));refine rv (Yz (by simp)) ?_;have JM:TS (aq.add (.list [])) 1 0 2 .none 0 0 []:=by
    have n3:aq.n=3:=e1;exact ⟨Sg.an (QI n3) e2,Sg.an (QK n3) e3,Sg.an (QG n3) e4,rv (Sg.add_n _ _) (QJ n3),rv (Sg.add_n _ _) PL,rv (Sg.add_n _ _) (QH n3),(fun χ h=>nomatch h),List.nodup_nil,List.nodup_nil⟩
   have Ex:(aq.add (.list [])).o 3=.list []:=rv (Sg.aZ _ _ _) (rv (YH (show 3=aq.n from e1.symm)) rfl);have Ez:(aq.add (.list [])).n=4:=rv (Sg.add_n _ _) (congrArg (fun x=>x+1) e1);have Pm:aq.n=3:=e1;refine rv Pm ?_;generalize aq.add (.list [])=aM at JM Ex Ez ⊢;clear e1 e2 e3 e4 e5 Pm;refine ac (ES.le (ρ':=[("sorter",.loc 1),("rounds",.loc 3),("ring",.bool false),("threes",.list ((a6 q).map fN)),("quads",.list (q.map fN)),("barred",.list (b.map fN))]) (.cons rfl (.cons rfl (.cons rfl (.cons rfl (.cons rfl (.cons rfl .nil)))))) ?_);refine cF rfl rfl rfl (bZ rfl (aa rfl (br ?_) rfl));refine bG fN (fun pre ρ σ'=>Pr q b pre σ' ρ) (a6 q) ?_ ?_ (a6 q) [] _ _ rfl ⟨[],JM,rfl,Ex,QF Ez,fun h=>by rcases h with h | h | h | ⟨_,h,_⟩<;>first | (cases h;done) | lia -abstractProof⟩
   ·intro pre x post ρ σ' eq r_49;obtain ⟨es,T,Ap,hr,hn,hf⟩:=r_49;have m_:∀ y∈pre,y∈a6 q:=fun y hy=>rv eq (Yp _ hy);have hx:x∈a6 q:=by refine rv eq ?_;simp
    have g0:pre.length≤8:=rv h8.symm (rv eq (rv List.length_append N0));have LZ:=h3 x hx;have hlen:es.length≤8:=by
     have k1:es.map (fun x=>x.key)=(bA q b pre).map (fun x=>x.1):=by refine rv Ap.symm (rv List.map_map ?_);rfl
     have:=List.Nodup.length_le_of_subset T.keys (l₂:=(a6 q).map sl) fun y hy=>mr pre m_ y (rv k1.symm hy);rw [List.length_map,List.length_map,h8] at this;exact this
    have yD:∀ e∈es,e.su.length≤500:=fun e he=>by
     have:=v5 (b:=b) h8 pre e.pr (rv Ap.symm (Yt.mpr (aF e he rfl)));have q1:e.pr.2.2=e.su:=rfl;rw [q1] at this;exact RG g0 this
    have Aq:(pU q b x).length≤8:=rv h8.symm (Y1 ..);refine ⟨trivial,_,rfl,c8 fun K hK=>?_⟩;refine ac (aL rfl (yA 393 rfl rfl (aa rfl (LQ 1 443 0 [] _ rfl T.hi T.hm rfl (rv HK (wV (ui _))) (aa rfl (bz fN Kf ud rfl rfl (aa rfl (br ⟨a6 q,rfl,bI.cond (k9 b x) fN (by refine rv h8 (rv Yy ?_);decide) (fun o ho=>?_) (fun o ho χ=>aa rfl rfl rfl) (eQ _ (.inl rfl) ?_ ?_)⟩) rfl)) rfl)) rfl)))
    ·have VH:=h3 o ho;refine az (fun c hc hd2=>?_) (JG LZ);refine bO (bD (aC rfl (c9 (aa rfl (bx (af (bq (aS (aS (kg (c9 (aa rfl (aS (bx (af (bq (aS (kg (uO ?_) rfl ?_)))))) rfl)) rfl ?_)))))) rfl))))
     ·refine rv (hV (a:=1) (by decide)) (rv (lW (a:=2) (by decide)) (rv (y9 _ _) ?_));refine ⟨fun he=>?_,fun he=>?_⟩
      ·refine bD (aC rfl (ap (aa rfl ?_ rfl)));refine aX rfl (aa rfl ?_ rfl);refine af (dp ?_ (cO (i:=2) (by decide) hc) ?_)
       ·refine Ge ?_ ?_
        ·refine rv (show (⟨#[c]⟩:Str)=sl [c] from rfl) (rv (xo _ _) (rv hd2.symm ?_));refine aa rfl (qu ?_ rfl (sO (o++x.drop 2) b)) rfl;have oy:(o.drop 1==x.take 2)=true:=he;unfold k9;refine rv oy (rv (Bool.true_and _) ?_);refine ⟨fun h'=>fZ ?_,fun h'=>?_⟩
         ·exact rv h' rfl
         ·exact rv h' rfl
        ·refine rv (bk _) (rv VH (rv (show (⟨#[c]⟩:Str).length=1 from rfl) (rv Yy ?_)));decide
       ·rfl
      ·have oy:(o.drop 1==x.take 2)=false:=he;unfold k9;exact rv oy (rv (Bool.false_and _) rfl)
     ·refine rv (lW (a:=2) (by decide)) (rv (bk _) (rv List.length_take (rv Yy ?_)));lia -abstractProof
     ·refine rv (hV (a:=1) (by decide)) (rv (bk _) (rv List.length_drop (rv Yy ?_)));lia -abstractProof
    ·refine rv (List.length_map _) (rv Yy ?_);have:((a6 q).filter (k9 b x)).length≤8:=rv h8.symm (Y1 ..);exact PP this
    ·have em:((a6 q).filter (k9 b x)).map fN=((pU q b x).map sl).map D.str:=by refine rv List.map_map ?_;rfl
     refine rv em ?_;refine vD.loud (Ie HK (n+1) σ' 1 0 2 0 0 es (sl x) ((pU q b x).map sl) _ T (rv (List.length_map _) (RF hlen Aq)) yD fun aY gc T' p' g' l'=>ao (hK .next _ _ ⟨_,Le.cons rfl (Le.cons rfl (Le.cons rfl (Le.cons rfl (Le.cons rfl (Le.cons rfl Le.nil))))),gc,T',?_,(g'.keep 3 (NV hn) hf).trans hr,Ys hn g'.le,fun q=>?_⟩))
     ·refine rv p' (rv Ap ?_);unfold bA;refine rv YY ?_;rfl
     ·rcases g'.fp 3 q with q | q
      ·exact hf q
      ·exact P7 hn q
   ·intro ρ σ' r_50;obtain ⟨es,T,Ap,hr,hn,hf⟩:=r_50;refine ⟨trivial,?_⟩;have KA:es.map (fun x=>x.key)=(bA q b (a6 q)).map (fun x=>x.1):=by refine rv Ap.symm (rv List.map_map ?_);rfl
    have hlen:es.length≤8:=by
     have:=List.Nodup.length_le_of_subset T.keys (l₂:=(a6 q).map sl) fun y hy=>mr (a6 q) (fun χ h=>h) y (rv KA.symm hy);rw [List.length_map,List.length_map,h8] at this;exact this
    have yD:∀ e∈es,e.su.length≤500∧∀ y∈e.su,y∈es.map (fun x=>x.key):=fun e he=>by
     have hm:e.pr∈bA q b (a6 q):=rv Ap.symm (Yt.mpr (aF e he rfl));have:=v5 (b:=b) h8 (a6 q) e.pr hm;have q1:e.pr.2.2=e.su:=rfl;rw [q1] at this;refine ⟨Re h8 this,fun y hy=>?_⟩;exact rv KA (Gq e.pr hm y hy)
    refine ac (ES.mono (k:=fun fl ρ' aY=>fl=.next∧∃ ring:Bool,Le ([("ring",.bool ring),("sorter",.loc 1),("rounds",.loc 3),("threes",.list ((a6 q).map fN))]:aO) ρ'∧TR aY 1 0 2 σ'.n 0 0 es (ck es)∧(∀ j,j<σ'.n→j≠0→aY.o j=σ'.o j)∧(ring=false→∃ fin,nZ (dS es) fin∧∀ e∈es,e.key∈fin)∧(ring=true→∃ x,ua (dS es) x x)) ?_ ?_)
    ·refine Bv fun K hK=>?_;refine xc (cv:=.ref 361) rfl (c7 (Bu rfl (yy 398 (fun χ=>⟨_,rfl⟩) rfl (.of (mz HK)) (aa rfl (LQ 1 443 0 [] _ rfl T.hi T.hm rfl (oN HK "prepare" 398 (by simp)) (aB (xv HK (n+3) σ' 1 0 2 0 0 es _ _ T (NK hlen) yD (fun fin V1 V0 aY T' ho ic=>?_) fun z hz aY T' ho ic=>?_))) rfl))))
     ·exact rG (ao (hK .next _ _ ⟨rfl,false,.cons rfl (.cons rfl (.cons rfl (.cons rfl .nil))),T',ho,fun χ=>(aF fin V1 V0),fun h=>nomatch h⟩))
     ·refine ⟨xh HK,aT rfl (ix HK) (.val _ rfl) rfl rfl,ac (ah rfl rfl (.pure (f_ (ao (hK .next _ _ ⟨rfl,true,.cons rfl (.cons rfl (.cons rfl (.cons rfl .nil))),T',ho,(fun h=>nomatch h),fun χ=>⟨z,hz⟩⟩)))))⟩
    ·intro fl ρ' aY r_51;revert r_51;refine pD fun e_6 z_5=>?_;subst e_6;refine GY (fun ring hle T' ho VD VC=>?_) z_5;have Jd:¬ GS 1 0 2 σ'.n es 3:=fun z=>by
      rcases z with z | z
      ·exact hf z
      ·exact P8 hn z
     have HA:aY.o 3=.list []:=(ho 3 (NV hn) (by decide)).trans hr;have Pg:dC (bA q b (a6 q))=dS es:=by refine rv Ap.symm ?_;funext x;exact y1 es x
     generalize VB:σ'.n=rn at T' Jd;have Jc:cf (bA q b (a6 q)) 0=t8 (es,ck es):=by refine rv Ap.symm ?_;unfold cf t8;exact rv (xC _) rfl
     refine EX.le hle ?_;refine ac (cM _ (d8 (fun mm ρ aQ=>Pu q b R rn es ring mm aQ ρ) ?_ R _ aY (.mk 0 es (ck es) 0 (NW) T' Jc.symm rfl HA Jd)));clear T' ho HA Jc hle;intro mm ρ aQ r_52;obtain ⟨j,bl,rd,po,hj,nQ,hi,hsh,O0,Aw⟩:=r_52;have hrd:(cf (bA q b (a6 q)) j).2=rd:=by refine rv hi.symm ?_;rfl
     have x3:(cf (bA q b (a6 q)) j).1=bl.map Xd.pr:=by refine rv hi.symm ?_;rfl
     have BF:rd.length≤20:=rv hrd.symm (hR.len j);have ct:bl.map (fun x=>x.key)=es.map (fun x=>x.key):=by
      have:=congrArg (List.map (fun x=>x.1)) hsh;rw [List.map_map,List.map_map] at this;exact this
     have OO:∀ x∈rd,x∈bl.map (fun x=>x.key):=fun x hx=>by
      exact rv ct (rv KA (hR.key j x (by refine rv hrd ?_;exact hx)))
     refine vt fun K hK=>Hb rfl (n6 HK "is_active" (f:=412) (by simp) rfl nQ.t.hi nQ.t.hm rfl (.of (k_ HK)) (fun χ=>⟨_,rfl⟩) rfl rfl (aB (CE.loud (uv HK (n+4) aQ 1 0 2 rn po po bl rd _ nQ (NM BF) (dE ?_)))));have MA:(decide (po<po)||!rd.isEmpty) = !rd.isEmpty:=by simp
     refine rv MA ?_;refine hK _ _ ⟨fun hc=>?_,fun hc=>?_⟩<;>clear K hK
     ·have L9:rd≠[]:=fun z=>by rw [z] at hc;cases hc
      have GD:mm≠0:=fun z=>by
       have:j=R:=TH hj z;exact L9 (hrd.symm.trans (rv this hR.fin))
      have VR:j≤1000000:=SO O_ hj;refine ⟨mm-1,QC GD,c8 fun K hK=>?_⟩;refine ac (ah rfl rfl (n6 HK "get_ready" (f:=405) (by simp) rfl nQ.t.hi nQ.t.hm rfl (.of (lb HK)) (fun χ=>⟨_,rfl⟩) rfl rfl (aB (CE.loud (uw HK (n+4) aQ 1 0 2 rn po po bl rd _ nQ (NM BF) OO fun fk dw ar=>?_)))));have I_:=(Cj rd bl).trans hsh;have O3:(fe bl rd).map (fun x=>x.key)=bl.map (fun x=>x.key):=o6 rd bl;refine ac (aL rfl (vC 426 rfl (aa rfl (LQ 1 443 0 [] _ rfl dw.t.hi dw.t.hm rfl (rv HK (wV (rR _))) (aa rfl (eQ _ (.inr rfl) (rv (List.length_map _) (rv Yy (BK BF))) (vD.loud (Fn HK (n+4) fk 1 0 2 rn _ po (fe bl rd) [] rd _ dw (by simp) BF (fun e he=>?_) (fun x hx=>rv O3 (OO x hx)) (fun pre x post he=>?_) fun Ee eG aU=>?_))) rfl)) rfl)))
      ·refine az (fun kE lq uU=>?_) (pM I_.symm he);have Gp:kE.su=e.su:=congrArg (fun x=>x.2.1) uU;have:=yD kE lq;rw [Gp] at this;refine ⟨this.1,fun y hy=>?_⟩;exact rv O3 (rv ct (this.2 y hy))
      ·have:=hR.out j pre x post (rv hrd he);rw [hrd,x3,v_] at this;have e2:lw ((fe bl rd).map Xd.pr,[]) pre=t8 (cC (fe bl rd,[]) pre):=tf pre (fe bl rd,[]);rw [e2] at this;exact rv (zK _ _).symm this
      ·have g:=ar.trans aU;have OZ:Ee.o 3=_:=(g.keep 3 Aw).trans O0;have Av:¬ GS 1 0 2 rn (cC (fe bl rd,[]) rd).1 3:=fun z=>Aw (g.fp 3 z);have O2:∀ s∈rd,s∈(a6 q).map sl:=fun s hs=>mr (b:=b) (a6 q) (fun χ h=>h) s (hR.key j s (rv hrd hs));have Gw:t8 (cC (fe bl rd,[]) rd)=cf (bA q b (a6 q)) (j+1):=by
        refine rv (xz _ _).symm (rv x3.symm ?_);show _=mn (cf _ j);exact rv hrd.symm rfl
       refine ac (aL rfl (cN "list.append" "list" bo (by decide) rfl rfl (by decide) rfl (aa rfl ⟨3,rfl,by refine rv OZ ?_;rfl,aw rfl (.pure (gS rfl (x7 HK) rfl rfl rfl (ae rfl (bz D.str H0 (fun χ=>rfl) rfl rfl (aa rfl (qq ⟨rd,rfl,bI.all (fun s=>D.int (Hx q s)) (rv Yy (BK BF)) (fun s hs=>?_) ?_⟩) rfl)))))⟩ rfl)))
       ·refine D3 "list.index" "list" zU (by decide) rfl rfl (by decide) rfl (aa rfl ⟨rfl,ae rfl (aa rfl (ak (z8 rfl rfl ?_ ?_ (sN s (a6 q) (O2 s hs)))) rfl)⟩ rfl)
        ·refine az (fun y hy e_4=>?_) (Yt.mp (O2 s hs));subst e_4;exact ⟨_,sO y (a6 q)⟩
        ·refine rv (List.length_map _) (rv h8 ?_);decide
       ·have em:rd.map (fun s=>D.int (Hx q s))=(rd.map (Hx q)).map D.int:=by refine rv List.map_map ?_;rfl
        refine rv em ?_;refine ak (xT (C0 ?_ (gZ _) (rv (List.length_map _) (rv (List.length_map _) (Qm BF)))));refine aB (bn OZ (rv (List.length_map _) (rv List.length_range (rv Yy (SN O_ hj)))) (ao (hK .next _ _ ⟨_,.cons rfl (.cons rfl (.cons rfl (.cons rfl .nil))),j+1,(cC (fe bl rd,[]) rd).1,(cC (fe bl rd,[]) rd).2,po+rd.length,TG hj GD,eG.keep (σ':=Ee.put 3 _) rfl (fun i hi=>rv (Sg.aN _ _ _ _) (rv (Yz fun (z:i=3)=>Av (z▸hi)) rfl)),Gw,(tg rd _).trans I_,?_,Av⟩)));refine rv (Sg.aN _ _ _ _) (rv (YH rfl) (rv List.range_succ (rv List.map_append (rv hrd.symm ?_))));rfl
     ·have L_:rd=[]:=by simpa using hc
      have VS:j=R:=by
       rcases Nat.lt_or_ge j R with z | z
       ·exact absurd (hrd.trans L_) (hR.act j z)
       ·exact TI hj z
      subst VS;refine ao (ac (bg (bU (aw rfl (.pure (aa rfl (aw rfl (.pure (aa rfl (aB ⟨sz rfl,?_⟩) rfl))) rfl))))));have L8:3<aQ.n:=by
       have:=nQ.lr;exact TC hn VB this
      have o3:(aQ.add (.list [.bool ring,.loc 3])).o 3=_:=(rv (Sg.aZ _ _ _) (rv (Yz (P_ L8)) rfl):(aQ.add (.list [.bool ring,.loc 3])).o 3=aQ.o 3).trans O0;have on:(aQ.add (.list [.bool ring,.loc 3])).o aQ.n=.list [.bool ring,.loc 3]:=rv (Sg.aZ _ _ _) (rv (YH rfl) rfl);refine aF (.list [.bool ring,.list ((List.range j).map fun j=>Hu q (cf (bA q b (a6 q)) j).2)]) ?_ (h ring (fun hr=>?_) fun hr=>?_)
      ·have f3:=qP (n:=7) o3 (fun d hd=>by
        refine az (fun j' χ e_5=>?_) (Yt.mp hd);subst e_5;exact iC _)
       refine rv (AQ on) (rv (kB (rfl:u2 _ 8 (.bool ring)=_) (kB f3 rfl)) ?_);rfl
      ·refine az (fun fin f1 f2=>?_) (VD hr);refine aF fin (rv Pg f1) (fun x hx=>?_);rw [← KA] at hx;refine az (fun e he e_6=>?_) (Yt.mp hx);subst e_6;exact f2 e he
      ·obtain ⟨x,hx⟩:=VC hr;exact ⟨x,rv Pg hx⟩
 ·refine rv (List.length_map _) (rv hq (rv Yy ?_));decide
end
theorem Fs.MQ {t:Nat}(ht:t≤s.toks)(F:Fs Ω B μ env N ρ σ s):Fs (Ω.at t) B μ env N ρ σ s:=
 ⟨⟨F.stays,F.clear,F.vars,F.kind,F.globals,F.builtins,F.names,F.hp,F.dK,F.dk,ht⟩,F.ns,F.cA,F.apart,F.off,F.qA,F.jH,F.nH,F.frame⟩
theorem D1 {rest:List Stmt}{tl:List PySem.Expr}{e1 e2:PySem.Expr}{n m:Nat}{p q pos:Pos}{x y:Str}{k:Fl→aO→Sg→Prop}(hc:l.calm=true)(ht:i5 tl=some [x,y])(hN:[x,y].all (bS N)=true)(hr:yX N tl [e1,e2]=some none)(hn:Xc [e1,e2]=true)
  (h:Hm Ω l N ρ σ e1 fun t d1=>EV Ω l N ρ σ e2 fun d2=>Ω.t0≤t→EX (Ω.at t) l N (nK [x,y] [d1,d2] ρ) σ rest k):EX Ω l N ρ σ (.Assign [.Tuple tl n p] (.Tuple [e1,e2] m q) pos::rest) k:=fun A B μ env s R F Q E kk=>by
 have hA:=R.calm hc;obtain ⟨O5,GB⟩:=cn (env:=env) hn;obtain ⟨W8,Je⟩:=cn (env:=env) O5;refine wpAny_execs_cons (Assign_Tuple (wpAny_Tuple (wpAny_items_cons ((h A B μ env s R.toRm F.toFx).use fun v1 s₁ ai hh=>?_) GB)) rfl (l_ F hr));revert hh;refine az fun d1 h1 r1=>?_;have av:=F.grown ai;refine wpAny_items_cons ((h1 A B μ env s₁ R.toRm av.toFx).go fun v2 ag ar d2 h2 r2=>?_) Je;have aI:=av.grown ar;refine wpAny_items_nil (pos:=q) (env:=env) ⟨(by decide+kernel:2≤sizeLine),?_⟩;have aU:aH ag { ag with heap:=ag.heap.push { cls:=.type "tuple",data:=.seq [v1,v2].toArray } }:=.heap (.push _ _);have dX:=aI.grown aU;refine GY (fun ps q1 q2 q3 q4 q5=>?_) (fA (env:=env) (A:=A) (Ω:=Ω) ht);refine wpAny_assign_Tuple hA (eQ _ (Yw _ rfl) rfl ⟨0,rfl⟩) (by refine rv q4 ?_;rfl) q3 fun h' hx=>?_;have c4:aH { ag with heap:=ag.heap.push { cls:=.type "tuple",data:=.seq [v1,v2].toArray } } { ag with heap:=h' }:=.heap fun b o e=>hx b o (YO (Heap.lt_size e)) e;refine rv q2 ?_;refine rD ps [d1,d2] [v1,v2] ρ _ _ (fun p hp v s Q hh=>q5 p hp v s Q E hh) (dX.grown c4) (rv q1 hN) (by have:=congrArg List.length q1;simpa using this.symm) (.cons _ _ _ _ (((r1.ext ar.ext).ext aU.ext).ext c4.ext) (.cons _ _ _ _ ((r2.ext aU.ext).ext c4.ext) .nil)) fun s' z F'=>?_;rw [q1] at F';have hle:s₁.toks≤s'.toks:=Ys ar.toks z.tk;have G:=((ai.trans ar).trans aU).trans c4;have I7:Ω.t0≤s₁.toks:=av.tk;refine (h2 I7 A B μ env s' R (F'.MQ hle)).yF fun f aD σ' fc w fl ρ' hk tT uW=>?_;exact kk f aD σ' fc (bd.then F (.aG F.hp G) (bd.then (F.grown G) z w)) ⟨fl,ρ',hk,tT.BQ I7,uW⟩
theorem vz {o arg:PySem.Expr}{apos pos:Pos}{k:Nat→D→Prop}(hb:bu o=true)(hn:Xc [arg]=true)(fw:(apos.endLine==pos.line)=true)
  (h:EV Ω l N ρ σ o fun d=>∃ c cs,d=.bytes (c::cs).toArray∧EV Ω l N ρ σ arg fun e=>e=.str (Str.ofString "ascii")∧(∀ x∈c::cs,x.toNat<128)∧(c::cs).length≤1000∧∀ t,Ω.t0≤t→k (t+4) (.ca (sl ((c::cs).map (fun x=>x.toNat))) (t+3))):
  Hm Ω l N ρ σ (.Call (.Attribute o "decode" apos) [arg] [] pos) k:=fun A B μ env s R F Q E kk=>by
 refine wpAny_Call_method_lateS (bJ hb) (et pos hn (show 1<30 by decide)) fw ((h A B μ env s R F).go fun ov s₁ ai cD hq b6=>?_);revert hq;refine cS fun c cs e_1 hd=>?_;subst e_1;have av:=F.grown ai;refine W_.lU b6 fun ϑ=>?_;refine IU "bytes" "bytes.decode" j8.pa j8.slot j8.ty (typeIs_bytes _ _ _) (fun b q=>nomatch q) ?_;have hp:=aK (env:=env) pos hn;refine Calls.callWith_builtin hp (bw hp ((ae (k:=fun ds=>ds=[.str (Str.ofString "ascii")]∧(∀ x∈c::cs,x.toNat<128)∧(c::cs).length≤1000∧∀ t,Ω.t0≤t→k (t+4) (.ca (sl ((c::cs).map (fun x=>x.toNat))) (t+3))) hn (hd.mono fun d hd=>ak (by obtain ⟨rfl,r⟩:=hd;exact ⟨rfl,r⟩)) A B μ env s₁ pos R av).go fun vs ag ar ds hq rs=>?_));revert hq;refine rO fun e_2 HH hz hk=>?_;subst e_2;refine az (fun u e_3 r2=>?_) rs.one;subst e_3;refine W_.cK r2 fun ϑ=>?_;have aI:=av.grown ar;refine tB (fun i hi=>?_) (by simpa using hz) (kk _ _ ((ai.trans ar).trans (.E_ _ _ (Nat.le_add_right _ _))) (aF _ (hk ag.toks aI.tk) ?_))
 ·have iP:i<(c::cs).length:=by simpa using hi
  have:(c::cs).toArray.getD i 0=(c::cs)[i]:=by
   simp only [Array.getD];refine rv (dif_pos hi) ?_;simp
  refine rv this ?_;exact HH _ (List.getElem_mem _)
 ·refine rv (show (⟨(c::cs).toArray.map (fun x=>x.toNat)⟩:Str)=sl ((c::cs).map (fun x=>x.toNat)) by simp [sl]) ?_;exact .ca _ _
theorem D_ {x y:PySem.Expr}{op:PySem.Operator}{pos:Pos}{k:D→Sg→Prop}(h:EV Ω l N ρ σ x fun a=>EF Ω l N ρ σ y fun b σ'=>fz op a b fun d=>k d σ'):EF Ω l N ρ σ (.BinOp x op y pos) k:=fun A B μ env s R F Q E kk=>
 wpAny_BinOp ((h A B μ env s R.toRm F.toFx).go fun a s₁ ai yd aP b6=>by
  have av:=F.grown ai;refine (aP A B μ env s₁ R av).go fun b aD σ' ag z yc cW cU=>?_;have aI:=av.c5 z;exact (Bf aI.lets cW (b6.c5 z) cU).use fun v aE aU r=>kk v aD σ' aE (((bd.aG F.hp ai).bt z).bt (.aG aI.hp aU)) (by obtain ⟨d,hk,r⟩:=r;exact ⟨d,hk,r⟩))
theorem DV {x y:PySem.Expr}{op:PySem.CmpOp}{pos:Pos}{k:Bool→Sg→Prop}(hm:behindInMarks op y=false)(h:EF Ω l N ρ σ x fun a σ'=>EV Ω l N ρ σ' y fun b=>fh op a b fun c=>k c σ'):TE Ω l N ρ σ (.Compare x [op] [y] pos) k:=fun A B μ env s R F Q E kk=>
 wpAny_isTrue_Compare1 ((h A B μ env s R F).go fun a aD σ' s₁ z yd aP b6=>by
  have av:=F.c5 z;refine (aP A B aD env s₁ R.toRm av.toFx).go fun b ag ar yc cW cU=>?_;have aI:=av.grown ar;refine (nG R.toRm aI.lets cW (b6.ext ar.ext) cU).go fun v aE aU d hq r=>?_;obtain ⟨c,rfl,hc⟩:=hq;refine W_.u9 r ?_;exact wpAny_truthy_bool (kk _ aD σ' aE (z.bt (.aG av.hp (ar.trans aU))) hc)) hm
open Builtin in
theorem vc {prog:Program}{w:World}{A:Around}{s:Shared}{R:Result→Shared→Prop}(hh:A.handled=none)(x:Array UInt8)(t:Tok)(S:Addr)(res:Value)(c₀:Nat)(hS:s.heap.get? S=some { cls:=.type "list",data:=.seq #[] c₀ })(hn:x.size≤sizeLine)
  (hR:∀ h' tk de c',(∀ b o,b≠S→s.heap.get? b=some o→h'.get? b=some o)→h'.get? S=some { cls:=.type "list",dict:=none,data:=.seq de c',slots:=#[] }→
   ItemsOf (fun i v=>∃ c u,x[i]? = some c∧v=.int (c.toNat:Int) u) de x.size→R (.ok (.ret res)) { s with heap:=h',toks:=tk }):
  wpAny (model prog w) A.in1 (Builtin.List.listExtendWith (.ref S) (.bytes x t) res)
   (fun fin s'=>match fin with | .done f=>R (.ok f) s' | .again c'=>c'.quiet=true∧codeAny (model prog w) A c' R s') (fun e s'=>R (.error e) s') s:=by
 have JB:S≠s.heap.objs.size:=YO (Heap.lt_size hS);have Wi:S∉[s.heap.objs.size]:=fun hm=>JB (Yq.mp hm);unfold Builtin.List.listExtendWith;refine Yo (wpAny_typeOf (T:="bytes") (v:=.bytes x t) rfl ?_);have h1:Builtin.List.listSameRef (.ref S) (.bytes x t)=false:=rfl;have h2:(Value.type "bytes"==Value.type "list")=false:=by decide
 have h3:(Value.type "bytes"==Value.type "tuple")=false:=by decide
 refine wpAny_ite_false (by refine rv h1 (rv h2 (rv h3 ?_));rfl) ?_;refine Yo (KBw.pyIter_bytes ?_);refine Yo (YV ?_);unfold Builtin.List.listLengthHint;refine Yo (wpAny_specialOf (T:="bytes") (v:=.bytes x t) rfl FB.slot_bytes_len.lookup ?_)
 wp_delta
 refine Yo (wpAny_isInstance (T:="bytes") (v:=.bytes x t) (b:=true) rfl (by refine rv (isSubtype_type _ _) ?_;kernel_rfl) ?_);show wpAny _ _ (typeOf (Value.bytes x t) >>= _) _ _ _;refine Yo (wpAny_typeOf (T:="bytes") (v:=.bytes x t) rfl ?_);refine YA ?_;refine rv (Yz (by decide)) ?_;refine YA ⟨plainId_quiet F.plain_extend_loop _,codeAny_extend_loopS (KBw.walks (prog:=prog) (w:=w) (A:=A.in1) hh s.heap.objs.size x t).toS hn _ Wi _ x.size 0 _ _ _ rfl (Nat.zero_le _) (eQ _ (Yw _ rfl) rfl rfl) (YB _ hS) (ItemsOf.nil _) fun s' de c' hm AJ ie=>?_⟩;refine rv (Moved.eq_with hm) ?_;refine hR s'.heap s'.toks de c' (fun b ob hb e=>hm.heap b ob (fun m_=>?_) (YB _ e)) AJ ie;rcases YC.mp m_ with e' | m_
 ·exact hb e'
 ·exact absurd (Heap.lt_size e) (rv (Yq.mp m_) (Nat.lt_irrefl _))
theorem vd {prog:Program}{w:World}{A:Around}{s:Shared}{E:Value→Shared→Prop}{Q:Value→Shared→Prop}(hh:A.handled=none)(x:Array UInt8)(t:Tok)(hn:x.size≤sizeLine)
  (hQ:∀ h' tk de c',(∀ b o,s.heap.get? b=some o→h'.get? b=some o)→
   h'.get? s.heap.objs.size=some { cls:=.type "list",dict:=none,data:=.seq de c',slots:=#[] }→ItemsOf (fun i v=>∃ c u,x[i]? = some c∧v=.int (c.toNat:Int) u) de x.size→Q (.ref s.heap.objs.size) { s with heap:=h',toks:=tk }):
  wpAny (model prog w) A (call (.type "list") [.bytes x t]) Q E s:=by
 refine callType_codes (Q₁:=fun obj s₁=>obj=.ref s.heap.objs.size∧s₁={ s with heap:=s.heap.push { cls:=.type "list",data:=.seq #[] } }) F.called_list (F.typeCall_list_1 _) F.entry_list_init
  (code_list_new _ ⟨rfl,rfl⟩) fun obj s₁ aP=>?_
 obtain ⟨rfl,rfl⟩:=aP;have hS:(s.heap.push { cls:=.type "list",data:=.seq #[] }).get? s.heap.objs.size=some { cls:=.type "list",data:=.seq #[] }:=Yw _ rfl;refine ⟨(aF _ hS rfl),F.args_list_init_2 _ _,?_⟩;show wpAny _ _ (do let old ← Builtin.List.listItems (.ref s.heap.objs.size);Builtin.List.listUpdate (.ref s.heap.objs.size) (fun χ=>#[]);letGo old.toList.reverse;Builtin.List.listExtendWith (.ref s.heap.objs.size) (.bytes x t) .none) _ _ _;refine Yo ?_;unfold Builtin.List.listItems;refine Yo (wpAny_seqItems hS rfl (YA ?_));show wpAny _ _ (updateSeq s.heap.objs.size (fun χ=>#[]) >>= fun χ=>letGo (#[]:Array Value).toList.reverse >>= fun χ=>Builtin.List.listExtendWith (.ref s.heap.objs.size) (.bytes x t) .none) _ _ _;refine Yo (wpAny_updateSeq hS rfl ?_);have pq:=YZ (Obj.mapSeq (fun χ=>(#[]:Array Value))) hS rfl;refine Yo (wpAny_letGo ?_);refine vc (A:=A.in1) hh x t _ .none _ pq hn fun h' tk de c' hk AJ ie=>?_;refine ⟨rfl,hQ h' tk de c' (fun b o e=>?_) AJ ie⟩;have hb:b≠s.heap.objs.size:=YO (Heap.lt_size e);exact hk b o hb ((Y4 _ _ (Ne.symm hb)).trans (YB _ e))
theorem Dy {prog:Program}{w:World}{A:Around}{s:Shared}{P:Pl}{b:Array UInt8}(hA:A.handled=none)(L:Xk P s.heap)(hz:b.size≤sizeLine):b0 prog w A P s (.type "list") [.bytes b] (.list ((KBw.bInts b).map .int)):=fun s' vs g r Q E k=>by
 refine az (fun v e_1 x=>?_) r.one;subst e_1;refine W_.lU x fun t=>?_;refine (a5.FJ fun Q E k=>?_) Q E k;refine vd hA b t hz fun h' tk acc c' hk hn hi=>?_;obtain ⟨h1,h2⟩:=hi;refine k _ _ (g1 (tk:=tk) hk) (.list _ _ acc.toList c' (L.grown g).size (by simpa using hn) ?_);refine vX _ _ (by refine rv (KBw.ints_length _) ?_;simpa using h1) fun i x hx=>?_;have n_:i<acc.size:=rv h1 (rv (KBw.ints_length _).symm ((YD.mp hx).1));refine cS (fun c u hc e=>?_) (h2 i acc[i] (by simp [n_]));have:=KBw.ints_get hc;rw [this] at hx;obtain rfl:=Yx hx;exact ⟨u,rv (Array.getElem?_toList) (rv (Array.getElem?_eq_getElem n_) (rv e rfl))⟩
section
variable {k:D→Prop}
theorem Bo {f:Str}{p pos:Pos}{args:List PySem.Expr}(hg:lk f N=some .globalImplicit)(e:(Ω.C.mg f).or (Ω.C.mb f)=some (.type "list"))(hc:l.calm=true)(hn:Xc args=true)(hd:sEq f "__debug__"=false)
  (h:rP Ω l N ρ σ args fun ds=>∃ b,ds=[.bytes b]∧b.size≤sizeLine∧k (.list ((KBw.bInts b).map .int))):EV Ω l N ρ σ (.Call (.Name f p) args [] pos) k:=fun A B μ env s R F Q E kk=>
 Call_Name rfl ((aT (k:=fun d=>d=.val (.type "list")) hg e (.val _ rfl) rfl hd A B μ env s R F).go fun v s₁ ai d hq r=>by
  obtain rfl:=hq;refine W_.cR r ?_;have hp:=aK (env:=env) pos hn;refine PyProof.Rows.callWith_type hp (bw hp ((h A B μ env s₁ pos R (F.grown ai)).go fun vs ag ar ds hq rs=>?_));revert hq;refine db fun b e_2 hz hk=>?_;subst e_2;exact ((Dy (R.calm hc) (F.lets.grown (ai.trans ar)) hz).toK hk rs).use fun v aE aU r=>kk v aE ((ai.trans ar).trans aU) r)
noncomputable abbrev bp (ps:List PE):List Str:=ps.map (fun x=>x.1)
theorem pB {f:PE→PE}(hf:∀ p,(f p).1=p.1)(x:Str):∀ ps:List PE,(ps.map f).find? (fun e=>decide (e.1=x))=(ps.find? fun e=>decide (e.1=x)).map f:=by
 intro ps
 induction ps with
 | nil=>exact rfl
 | cons p ps ih=>
  refine rv List.map_cons (rv (List.find?_cons) (rv (List.find?_cons) (rv (hf _) ?_)))
  by_cases q:p.1=x
  ·simp [q]
  ·simp only [q,decide_false];exact ih
theorem dN {ps:List PE}{x:Str}(h:x∈bp ps):∃ p,ps.find? (fun e=>decide (e.1=x))=some p∧p.1=x:=by
 cases q:ps.find? (fun e=>decide (e.1=x)) with
 | some p=>exact aF p rfl (by simpa using List.find?_some q)
 | none=>
  refine az (fun p hp e_1=>?_) (Yt.mp h);subst e_1;exact absurd (List.find?_eq_none.mp q p hp) (by simp)
theorem nq {ps:List PE}{x:Str}(h:x∉bp ps):ps.find? (fun e=>decide (e.1=x))=none:=
 List.find?_eq_none.mpr fun p hp=>by
  refine rv decide_eq_true_eq ?_;rintro rfl;exact h (Yt.mpr (aF p hp rfl))
theorem p9 {f:PE→PE}(hf:∀ p,(f p).1=p.1){ps:List PE}{x:Str}{p:PE}(h:ps.find? (fun e=>decide (e.1=x))=some p):dR (ps.map f) x=(f p).2.1:=by
 unfold dR;refine rv (pB hf _ _) (rv h ?_);rfl
theorem vQ {f:PE→PE}(hf:∀ p,(f p).1=p.1){ps:List PE}{x:Str}{p:PE}(h:ps.find? (fun e=>decide (e.1=x))=some p):dC (ps.map f) x=(f p).2.2:=by
 unfold dC;refine rv (pB hf _ _) (rv h ?_);rfl
theorem ji {ps:List PE}{x:Str}{p:PE}(h:ps.find? (fun e=>decide (e.1=x))=some p):dR ps x=p.2.1:=by unfold dR;refine rv h ?_;rfl
theorem pJ {ps:List PE}{x:Str}{p:PE}(h:ps.find? (fun e=>decide (e.1=x))=some p):dC ps x=p.2.2:=by unfold dC;refine rv h ?_;rfl
theorem wk {ps:List PE}{x:Str}(h:x∉bp ps):dR ps x=0:=by unfold dR;refine rv (nq h) ?_;rfl
theorem vO {ps:List PE}{x:Str}(h:x∉bp ps):dC ps x=[]:=by unfold dC;refine rv (nq h) ?_;rfl
theorem jo {f:PE→PE}(hf:∀ p,(f p).1=p.1)(ps:List PE):bp (ps.map f)=bp ps:=by
 unfold bp;exact rv List.map_map (YL fun p χ=>hf p)
theorem vP {f:PE→PE}(hf:∀ p,(f p).1=p.1)(hs:∀ p,(f p).2.2=p.2.2)(ps:List PE)(x:Str):dC (ps.map f) x=dC ps x:=by
 by_cases h:x∈bp ps
 ·refine az (fun p e χ=>?_) (dN h);exact rv (vQ hf e) (rv (pJ e) (rv (hs _) rfl))
 ·exact rv (vO h) (rv (vO (by rw [jo hf];exact h)) rfl)
theorem Cw {f:PE→PE}(hf:∀ p,(f p).1=p.1)(hs:∀ p,(f p).2.1=p.2.1)(ps:List PE)(x:Str):dR (ps.map f) x=dR ps x:=by
 by_cases h:x∈bp ps
 ·refine az (fun p e χ=>?_) (dN h);exact rv (p9 hf e) (rv (ji e) (rv (hs _) rfl))
 ·exact rv (wk h) (rv (wk (by rw [jo hf];exact h)) rfl)
theorem ur (x:Str)(c:Int):∀ p:PE,(if p.1=x then (p.1,c,p.2.2) else p).1=p.1:=fun p=>by split<;>rfl
theorem fO (x:Str)(c:Int)(ps:List PE):bp (gq x c ps)=bp ps:=jo (ur x c) ps
theorem ul (x:Str)(c:Int)(ps:List PE)(y:Str):dC (gq x c ps) y=dC ps y:=vP (ur x c) (fun p=>by split<;>rfl) ps y
theorem p7 {x:Str}{c:Int}{ps:List PE}{y:Str}(h:y∈bp ps):dR (gq x c ps) y=if y=x then c else dR ps y:=by
 refine az (fun p e e_2=>?_) (dN h);subst e_2;refine rv (show dR (gq x c ps) p.1=_ from p9 (ur x c) e) (rv (ji e) ?_);split<;>rfl
theorem IW (ps:List PE)(x:Str):bp (dq ps x)=if x∈bp ps then bp ps else bp ps++[x]:=by
 have e:ps.any (fun p=>decide (p.1=x))=decide (x∈bp ps):=by
  refine rv (propext (Bool.eq_iff_iff)) (rv (propext (Y3)) (rv decide_eq_true_eq ?_));exact ⟨fun ⟨p,hp,q⟩=>Yt.mpr (aF p hp (by simpa using q)),fun h=>by refine az (fun p hp q=>?_) (Yt.mp h);exact (aF p hp (by simpa using q))⟩
 unfold dq;refine rv e ?_
 by_cases h:x∈bp ps
 ·exact rv (YH h) (rv (YH (decide_eq_true h)) rfl)
 ·refine rv (Yz h) (rv (Yz (by simpa using h)) ?_);unfold bp;refine rv List.map_append ?_;rfl
theorem AV (ps:List PE)(x y:Str):(dq ps x).find? (fun e=>decide (e.1=y))=(ps.find? (fun e=>decide (e.1=y))).or (if y=x∧x∉bp ps then some (x,0,[]) else none):=by
 unfold dq;split
 ·rename_i h;rw [Y3] at h;revert h;refine az fun p hp q=>?_;exact rv (Yz fun z=>z.2 (Yt.mpr (aF p hp (by simpa using q)))) (rv Option.or_none rfl)
 ·rename_i h;have hx:x∉bp ps:=fun z=>h (by refine az (fun p hp q=>?_) (Yt.mp z);exact rv (propext (Y3)) ((aF p hp (by simpa using q))));refine rv (List.find?_append) ?_;congr 1
  by_cases q:y=x
  ·subst q;simp [hx]
  ·simp [q,Ne.symm q,List.find?]
theorem IN (ps:List PE)(x y:Str):dR (dq ps x) y=dR ps y:=by
 unfold dR;refine rv (AV _ _ _) ?_;cases ps.find? (fun e=>decide (e.1=y)) with
 | some p=>rfl
 | none=>refine rv Option.none_or ?_;split<;>rfl
theorem Ek (ps:List PE)(x y:Str):dC (dq ps x) y=dC ps y:=by
 unfold dC;refine rv (AV _ _ _) ?_;cases ps.find? (fun e=>decide (e.1=y)) with
 | some p=>rfl
 | none=>refine rv Option.none_or ?_;split<;>rfl
theorem rj (x:Str)(c:Int):∀ p:PE,(if p.1=x then (p.1,p.2.1+c,p.2.2) else p).1=p.1:=fun p=>by split<;>rfl
theorem pT (x y:Str):∀ p:PE,(if p.1=x then (p.1,p.2.1,p.2.2++[y]) else p).1=p.1:=fun p=>by split<;>rfl
theorem qp (ps:List PE)(x:Str)(c:Int):bp (gd ps x c)=bp ps:=jo (rj x c) ps
theorem qo (ps:List PE)(x y:Str):bp (df ps x y)=bp ps:=jo (pT x y) ps
theorem Fe (ps:List PE)(x:Str)(c:Int)(y:Str):dC (gd ps x c) y=dC ps y:=vP (rj x c) (fun p=>by split<;>rfl) ps y
theorem Cv (ps:List PE)(x z:Str)(y:Str):dR (df ps x z) y=dR ps y:=Cw (pT x z) (fun p=>by split<;>rfl) ps y
theorem Cy {ps:List PE}{x:Str}{c:Int}{y:Str}(h:x∈bp ps):dR (gd ps x c) y=dR ps y+if y=x then c else 0:=by
 by_cases hy:y∈bp ps
 ·refine az (fun p e e_3=>?_) (dN hy);subst e_3;refine rv (show dR (gd ps x c) p.1=_ from p9 (rj x c) e) (rv (ji e) ?_);split<;>simp
 ·refine rv (wk hy) (rv (wk (by rw [qp];exact hy)) (rv (Yz (fun q:y=x=>hy (q▸h))) ?_));rfl
theorem y0 {ps:List PE}{x z:Str}{y:Str}(h:x∈bp ps):dC (df ps x z) y=dC ps y++if y=x then [z] else []:=by
 by_cases hy:y∈bp ps
 ·refine az (fun p e e_4=>?_) (dN hy);subst e_4;refine rv (show dC (df ps x z) p.1=_ from vQ (pT x z) e) (rv (pJ e) ?_);split<;>simp
 ·refine rv (vO hy) (rv (vO (by rw [qo];exact hy)) (rv (Yz (fun q:y=x=>hy (q▸h))) ?_));rfl
theorem w5 {ps:List PE}{x y:Str}:y∈bp (dq ps x)↔y∈bp ps∨y=x:=by
 refine rv (IW _ _) ?_;split
 ·rename_i h;exact ⟨.inl,fun z=>z.elim id (fun q=>q▸h)⟩
 ·rw [Yr,Yq]
theorem J2 {ps:List PE}{x:Str}(h:(bp ps).Nodup):(bp (dq ps x)).Nodup:=by
 refine rv (IW _ _) ?_;split
 ·exact h
 ·rename_i q;exact List.nodup_append.mpr ⟨h,by simp,fun a ha b hb=>by rw [Yq] at hb;rintro rfl;exact q (hb▸ha)⟩
theorem X0 (x:Str):∀ (xs:List Str) (ps:List PE),xs.Nodup→(bp ps).Nodup→
  (bp (xs.foldl (fun ps p=>df (dq ps p) p x) ps)).Nodup∧(∀ y,y∈bp (xs.foldl (fun ps p=>df (dq ps p) p x) ps)↔y∈bp ps∨y∈xs)∧(∀ y,dR (xs.foldl (fun ps p=>df (dq ps p) p x) ps) y=dR ps y)∧∀ y,dC (xs.foldl (fun ps p=>df (dq ps p) p x) ps) y=dC ps y++if y∈xs then [x] else []:=by
 intro xs
 induction xs with
 | nil=>
  intro ps χ h;exact ⟨h,fun y=>by simp,fun y=>rfl,fun y=>by simp⟩
 | cons a xs ih=>
  intro ps hn h;rw [Y0] at hn;refine rO (fun i1 i2 i3 i4=>?_) (ih (df (dq ps a) a x) hn.2 (rv (qo _ _ _) (J2 h)));refine rv List.foldl_cons ?_;refine ⟨i1,fun y=>?_,fun y=>?_,fun y=>?_⟩
  ·refine rv (propext (i2 _)) (rv (qo _ _ _) (rv (propext (w5)) (rv (propext (YC)) ?_)));constructor
   ·rintro ((h | h) | h)
    ·exact .inl h
    ·exact .inr (.inl h)
    ·exact .inr (.inr h)
   ·rintro (h | h | h)
    ·exact .inl (.inl h)
    ·exact .inl (.inr h)
    ·exact .inr h
  ·exact rv (i3 _) (rv (Cv _ _ _ _) (rv (IN _ _ _) rfl))
  ·refine rv (i4 _) (rv (y0 (w5.mpr (.inr rfl))) (rv (Ek _ _ _) (rv (List.append_assoc _ _ _) ?_)));congr 1
   by_cases q:y=a
   ·subst q;simp [hn.1]
   ·simp [q]
theorem DN {x:Str}{xs:List Str}{ps:List PE}(hn:xs.Nodup)(h:(bp ps).Nodup):
  (bp (oJ ps x xs)).Nodup∧(∀ y,y∈bp (oJ ps x xs)↔y∈bp ps∨y=x∨y∈xs)∧(∀ y,dR (oJ ps x xs) y=dR ps y+if y=x then (xs.length:Int) else 0)∧∀ y,dC (oJ ps x xs) y=dC ps y++if y∈xs then [x] else []:=by
 refine rO (fun i1 i2 i3 i4=>?_) (X0 x xs (gd (dq ps x) x xs.length) hn (rv (qp _ _ _) (J2 h)));unfold oJ;refine ⟨i1,fun y=>?_,fun y=>?_,fun y=>?_⟩
 ·rw [i2,qp,w5,or_assoc]
 ·exact rv (i3 _) (rv (Cy (w5.mpr (.inr rfl))) (rv (IN _ _ _) rfl))
 ·exact rv (i4 _) (rv (Fe _ _ _ _) (rv (Ek _ _ _) rfl))
noncomputable def Lk (pr:Str→List Str):Nat→Str→Bool
 | 0,_=>true
 | k+1,x=>(pr x).any (Lk pr k)
structure KM (ps:List PE)(pr:Str→List Str):Prop where
 nd:(bp ps).Nodup
 np:∀ x∈bp ps,dR ps x=((pr x).length:Int)
 U7:∀ x∈bp ps,(pr x).Nodup
 Kl:∀ x∈bp ps,∀ y∈pr x,y∈bp ps
 Ou:∀ x,(dC ps x).Nodup
 su:∀ x y,y∈dC ps x↔y∈bp ps∧x∈pr y
theorem tR {ps:List PE}{pr:Str→List Str}(G:KM ps pr):∀ (k:Nat) (x:Str),x∈bp ps→Lk pr (k+1) x=true→Lk pr k x=true:=by
 intro k
 induction k with
 | zero=>
  intro χ χ χ;exact rfl
 | succ k ih=>
  intro x hx h;refine az (fun p hp hl=>?_) (Y3.mp h);exact Y3.mpr (aF p hp (ih p (G.Kl x hx p hp) hl))
theorem s6 (P:Str→Bool)(pre:List Str){x:Str}(hx:P x=true)(hp:x∉pre):∀ {l:List Str},l.Nodup→
  ((l.filter fun p=>P p&&!(pre++[x]).contains p).length:Int)=((l.filter fun p=>P p&&!pre.contains p).length:Int)-if x∈l then 1 else 0
 | [],_=>by simp
 | a::l,hn=>by
  rw [Y0] at hn;have ih:=s6 P pre hx hp hn.2
  by_cases q:a=x
  ·subst q;rw [Yz hn.1] at ih;refine rv (List.filter_cons_of_neg (by simp)) (rv (List.filter_cons_of_pos (by simp [hx,hp])) (rv ih (rv (YH Yu) (rv List.length_cons ?_))));exact QM
  ·have e:(P a&&!(pre++[x]).contains a)=(P a&&!pre.contains a):=by simp [q]
   have e2:(if x∈a::l then (1:Int) else 0)=if x∈l then 1 else 0:=by simp [Ne.symm q]
   refine rv e2 (rv List.filter_cons (rv List.filter_cons (rv e ?_)));split
   ·exact rv List.length_cons (rv List.length_cons (TJ ih))
   ·exact ih
theorem Ds:∀ (ys:List Str) (ps:List PE) (rd:List Str),ys.Nodup→(∀ y∈ys,y∈bp ps)→
  bp (ys.foldl fb (ps,rd)).1=bp ps∧(∀ z,dC (ys.foldl fb (ps,rd)).1 z=dC ps z)∧(∀ z∈bp ps,dR (ys.foldl fb (ps,rd)).1 z=dR ps z-if z∈ys then 1 else 0)∧(ys.foldl fb (ps,rd)).2=rd++ys.filter fun y=>decide (dR ps y=1):=by
 intro ys
 induction ys with
 | nil=>
  intro ps rd χ χ;exact ⟨rfl,fun χ=>rfl,fun χ χ=>by simp,by simp⟩
 | cons y ys ih=>
  intro ps rd hn hk;rw [Y0] at hn;have e:fb (ps,rd) y=(gq y (dR ps y-1) ps,if dR ps y-1=0 then rd++[y] else rd):=rfl;obtain ⟨i1,i2,i3,i4⟩:=ih (gq y (dR ps y-1) ps) (if dR ps y-1=0 then rd++[y] else rd) hn.2 fun z hz=>rv (fO _ _ _) (hk z (Yv _ hz));refine rv List.foldl_cons (rv e ?_);refine ⟨i1.trans (fO ..),fun z=>(i2 z).trans (ul ..),fun z hz=>?_,?_⟩
  ·refine rv (i3 z (by rw [fO];exact hz)) (rv (p7 hz) ?_)
   by_cases q:z=y
   ·subst q;simp [hn.1]
   ·simp [q]
  ·refine rv i4 ?_;have e3:ys.filter (fun z=>decide (dR (gq y (dR ps y-1) ps) z=1))=ys.filter fun z=>decide (dR ps z=1):=by
    refine List.filter_congr fun z hz=>?_;exact rv (p7 (hk z (Yv _ hz))) (rv (Yz fun q:z=y=>hn.1 (q▸hz)) rfl)
   refine rv e3 (rv List.filter_cons ?_)
   by_cases q:dR ps y=1
   ·refine rv (YH (Up q)) (rv (YH (by simpa using q)) (rv (List.append_assoc _ _ _) ?_));rfl
   ·exact rv (Yz (Un q)) (rv (Yz (by simpa using q)) rfl)
theorem Ci:∀ (rd:List Str) (ps:List PE),bp (iD ps rd)=bp ps∧(∀ z,dC (iD ps rd) z=dC ps z)∧∀ z∈bp ps,dR (iD ps rd) z=if z∈rd then -1 else dR ps z:=by
 intro rd
 induction rd with
 | nil=>
  intro ps;exact ⟨rfl,fun χ=>rfl,fun z χ=>by simp [iD]⟩
 | cons x rd ih=>
  intro ps;refine e8 (fun i1 i2 i3=>?_) (ih (gq x (-1) ps));have e:iD ps (x::rd)=iD (gq x (-1) ps) rd:=rfl;refine rv e ?_;refine ⟨i1.trans (fO ..),fun z=>(i2 z).trans (ul ..),fun z hz=>?_⟩;refine rv (i3 z (by rw [fO];exact hz)) (rv (p7 hz) ?_)
  by_cases q:z=x
  ·subst q;simp
  ·simp [q]
theorem Er {ps:List PE}{p q:PE}(hn:(bp ps).Nodup)(hp:p∈ps)(hq:q∈ps)(e:p.1=q.1):p=q:=by
 induction ps with
 | nil=>exact absurd hp List.not_mem_nil
 | cons a ps i=>
  rw [show bp (a::ps)=a.1::bp ps from rfl,Y0] at hn;have im:∀ {r:PE},r∈ps→r.1∈bp ps:=fun h=>Yt.mpr (aF _ h rfl);rcases YC.mp hp with h1 | h1
  ·rcases YC.mp hq with h2 | h2
   ·exact rv h1 (rv h2 rfl)
   ·exact absurd (im h2) (rv e.symm (rv h1 hn.1))
  ·rcases YC.mp hq with h2 | h2
   ·exact absurd (im h1) (rv e (rv h2 hn.1))
   ·exact i hn.2 h1 h2
structure KI (bR:List PE)(pr:Str→List Str)(k:Nat)(st:List PE×List Str):Prop where
 ky:bp st.1=bp bR
 su:∀ x,dC st.1 x=dC bR x
 np:∀ x∈bp bR,Lk pr k x=true→dR st.1 x=(((pr x).filter (Lk pr k)).length:Int)
 nd:st.2.Nodup
 rd:∀ x,x∈st.2↔x∈bp bR∧Lk pr k x=true∧Lk pr (k+1) x=false
structure ub (bR:List PE)(pr:Str→List Str)(k:Nat)(pre post:List Str)(st:List PE×List Str):Prop where
 ky:bp st.1=bp bR
 su:∀ x,dC st.1 x=dC bR x
 Oz:∀ x∈post,dR st.1 x = -1
 IO:∀ x∈bp bR,Lk pr (k+1) x=true→dR st.1 x=(((pr x).filter fun p=>Lk pr k p&&!pre.contains p).length:Int)
 nd:st.2.Nodup
 rd:∀ x,x∈st.2↔x∈bp bR∧Lk pr (k+1) x=true∧(pr x).filter (fun p=>Lk pr k p&&!pre.contains p)=[]
end
section
variable {bR:List PE}{pr:Str→List Str}(G:KM bR pr){k:Nat}
include G
theorem ub.start {st:List PE×List Str}(K:KI bR pr k st):ub bR pr k [] st.2 (iD st.1 st.2,[]):=by
 refine e8 (fun o1 o2 o3=>?_) (Ci st.2 st.1);have e:∀ x,(pr x).filter (fun p=>Lk pr k p&&!([]:List Str).contains p)=(pr x).filter (Lk pr k):=fun x=>List.filter_congr fun p χ=>by simp
 have hk:∀ x,x∈st.2→x∈bp st.1:=fun x hx=>rv K.ky (((K.rd x).mp hx).1);refine ⟨o1.trans K.ky,fun x=>(o2 x).trans (K.su x),fun x hx=>?_,fun x hx hl=>?_,List.nodup_nil,fun x=>Iff.intro (fun h=>nomatch h) (e8 fun h1 h2 h3=>?_)⟩
 ·show dR (iD st.1 st.2) x = -1;exact rv (o3 x (hk x hx)) (rv (YH hx) rfl)
 ·show dR (iD st.1 st.2) x=_;refine rv (o3 x (by rw [K.ky];exact hx)) (rv (Yz (fun z=>by rw [((K.rd x).mp z).2.2] at hl;exact oF hl)) (rv (e _) ?_));exact K.np x hx (tR G k x hx hl)
 ·rw [e] at h3;refine az (fun p hp hl=>?_) (Y3.mp h2);exact absurd (YJ.mpr ⟨hp,hl⟩) (rv h3 (fun h=>nomatch h))
theorem ub.step {pre post:List Str}{x:Str}{st:List PE×List Str}(I:ub bR pr k pre (x::post) st)(hd:(pre++x::post).Nodup)(hR:∀ y∈x::post,y∈bp bR∧Lk pr k y=true∧Lk pr (k+1) y=false):ub bR pr k (pre++[x]) post (gp st x):=by
 refine e8 (fun W3 OG LZ=>?_) (hR x Yu);have Vu:x∉pre:=fun z=>(List.nodup_append.mp hd).2.2 x z x Yu rfl;have Vt:x∉post:=(Y0.mp (List.nodup_append.mp hd).2.1).1;have hs:dC st.1 x=dC bR x:=I.su x;have hy:∀ y∈dC bR x,y∈bp bR∧Lk pr (k+1) y=true:=fun y hy=>by
  obtain ⟨a,b⟩:=(G.su x y).mp hy;exact ⟨a,Y3.mpr (aF x b OG)⟩
 obtain ⟨f1,f2,f3,f4⟩:=Ds (dC bR x) (gq x (-2) st.1) st.2 (G.Ou x) fun y h=>rv (fO _ _ _) (rv I.ky ((hy y h).1));have e:gp st x=(dC bR x).foldl fb (gq x (-2) st.1,st.2):=by unfold gp;exact rv hs rfl
 have IP:∀ y∈bp bR,y≠x→dR (gq x (-2) st.1) y=dR st.1 y:=fun y h q=>rv (p7 (by rw [I.ky];exact h)) (rv (Yz q) rfl);have cnt:∀ y∈bp bR,(((pr y).filter fun p=>Lk pr k p&&!(pre++[x]).contains p).length:Int)=(((pr y).filter fun p=>Lk pr k p&&!pre.contains p).length:Int)-if x∈pr y then 1 else 0:=fun y h=>s6 (Lk pr k) pre OG Vu (G.U7 y h);have nx:∀ y,Lk pr (k+1) y=true→y≠x:=fun y h q=>by rw [q,LZ] at h;exact oF h
 have Dh:∀ y∈bp bR,(y∈dC bR x↔x∈pr y):=fun y h=>(G.su x y).trans ⟨fun z=>z.2,fun z=>⟨h,z⟩⟩;refine rv e ?_;refine ⟨rv f1 (rv (fO _ _ _) I.ky),fun z=>rv (f2 _) (rv (ul _ _ _ _) (I.su z)),fun y h=>?_,fun y h hl=>?_,?_,fun y=>?_⟩
 ·refine e8 (fun a1 a2 a3=>?_) (hR y (Yv _ h));refine rv (f3 y (by rw [fO,I.ky];exact a1)) (rv (Yz (fun z=>by rw [(hy y z).2] at a3;exact oF a3.symm)) (rv (IP y a1 (fun q:y=x=>Vt (q▸h))) (rv (I.Oz y (Yv _ h)) ?_)));rfl
 ·refine rv (f3 y (by rw [fO,I.ky];exact h)) (rv (IP y h (nx y hl)) (rv (I.IO y h hl) (rv (cnt y h) ?_)));simp only [Dh y h]
 ·refine rv f4 ?_;refine List.nodup_append.mpr ⟨I.nd,(G.Ou x).filter _,fun a ha b hb=>?_⟩;rintro rfl;refine e8 (fun r1 r2 r3=>?_) ((I.rd a).mp ha);have h1:=(YJ.mp hb).2;rw [decide_eq_true_eq,IP a r1 (nx a r2),I.IO a r1 r2,r3] at h1;cases h1
 ·refine rv f4 (rv (propext (Yr)) (rv (propext (YJ)) (rv decide_eq_true_eq ?_)));constructor
  ·rintro (h | ⟨h1,h2⟩)
   ·refine e8 (fun r1 r2 r3=>?_) ((I.rd y).mp h);refine ⟨r1,r2,List.filter_eq_nil_iff.mpr fun p hp z=>?_⟩;have:=List.filter_eq_nil_iff.mp r3 p hp;simp only [YR,Bool.not_eq_true',List.contains_eq_mem,decide_eq_false_iff_not,Yr] at this z;exact this ⟨z.1,fun q=>z.2 (.inl q)⟩
   ·obtain ⟨r1,r2⟩:=hy y h1;refine ⟨r1,r2,List.length_eq_zero_iff.mp ?_⟩;have c:=cnt y r1;rw [IP y r1 (nx y r2),I.IO y r1 r2] at h2;rw [h2,YH ((Dh y r1).mp h1)] at c;exact Qj c
  ·intro r_26;revert r_26;refine e8 fun r1 r2 r3=>?_;have c:=cnt y r1;rw [r3] at c
   by_cases q:x∈pr y
   ·rw [YH q] at c;refine .inr ⟨(Dh y r1).mpr q,?_⟩;refine rv (IP y r1 (nx y r2)) (rv (I.IO y r1 r2) ?_);simp only [List.length_nil] at c;exact Rn c
   ·rw [Yz q] at c;refine .inl ((I.rd y).mpr ⟨r1,r2,List.length_eq_zero_iff.mp ?_⟩);simp only [List.length_nil] at c;exact Ro c
theorem ub.run (post:List Str):∀ (pre:List Str) (st:List PE×List Str),ub bR pr k pre post st→(pre++post).Nodup→(∀ y∈post,y∈bp bR∧Lk pr k y=true∧Lk pr (k+1) y=false)→ub bR pr k (pre++post) [] (lw st post):=by
 induction post with
 | nil=>exact fun pre st I χ χ=>rv (List.append_nil _) I
 | cons x post i=>
  intro pre st I hd hR;have e:pre++x::post=(pre++[x])++post:=by simp
  refine rv e ?_;exact i (pre++[x]) (gp st x) (I.step G hd hR) (rv e.symm hd) fun y hy=>hR y (Yv _ hy)
theorem ub.runs (mid:List Str):∀ (pre post:List Str) (st:List PE×List Str),ub bR pr k pre (mid++post) st→(pre++(mid++post)).Nodup→(∀ y∈mid++post,y∈bp bR∧Lk pr k y=true∧Lk pr (k+1) y=false)→ub bR pr k (pre++mid) post (lw st mid):=by
 induction mid with
 | nil=>exact fun pre post st I χ χ=>rv (List.append_nil _) I
 | cons x mid i=>
  intro pre post st I hd hR;have e:pre++x::mid=(pre++[x])++mid:=by simp
  refine rv e ?_;refine i (pre++[x]) post (gp st x) (I.step G hd hR) ?_ fun y hy=>hR y (Yv _ hy);exact rv (List.append_assoc _ _ _) hd
theorem KI.zero:KI bR pr 0 (bR,iB bR):=by
 have hr:∀ x,x∈iB bR↔x∈bp bR∧dR bR x=0:=fun x=>by
  unfold iB;refine rv (propext (Yt)) ?_;constructor
  ·intro r_27;revert r_27;refine az fun p hp e_1=>?_;subst e_1;obtain ⟨h1,h2⟩:=YJ.mp hp;have hk:p.1∈bp bR:=Yt.mpr (aF p h1 rfl);refine az (fun p' e ek=>?_) (dN hk);have:p'=p:=by
    exact Er G.nd (List.mem_of_find?_eq_some e) h1 ek
   exact ⟨hk,by refine rv (ji e) (rv this ?_);simpa using h2⟩
  ·intro r_28;obtain ⟨h1,h2⟩:=r_28;refine az (fun p e e_1=>?_) (dN h1);subst e_1;exact aF p (YJ.mpr ⟨List.mem_of_find?_eq_some e,by rw [ji e] at h2;simpa using h2⟩) rfl
 refine ⟨rfl,fun χ=>rfl,fun x hx χ=>?_,?_,fun x=>?_⟩
 ·exact rv (G.np x hx) (rv (show (pr x).filter (Lk pr 0)=pr x from List.filter_eq_self.mpr fun χ χ=>rfl) rfl)
 ·have:(iB bR).Sublist (bp bR):=List.filter_sublist.map _;exact this.nodup G.nd
 ·refine rv (propext (hr _)) ?_;constructor
  ·intro r_29;obtain ⟨h1,h2⟩:=r_29;rw [G.np x h1] at h2;refine ⟨h1,rfl,?_⟩;have:pr x=[]:=List.length_eq_zero_iff.mp (Qi h2);unfold Lk;refine rv this ?_;rfl
  ·intro r_30;revert r_30;refine e8 fun h1 χ h3=>?_;refine ⟨h1,?_⟩;refine rv (G.np x h1) ?_;cases q:pr x with
   | nil=>rfl
   | cons a l=>
    unfold Lk at h3;rw [q] at h3;simp [Lk] at h3
theorem KI.next {st:List PE×List Str}(K:KI bR pr k st):KI bR pr (k+1) (mn st):=by
 have I:=ub.run G st.2 [] _ (ub.start G K) K.nd fun y hy=>(K.rd y).mp hy;rw [List.nil_append] at I;have e:∀ x∈bp bR,(pr x).filter (fun p=>Lk pr k p&&!st.2.contains p)=(pr x).filter (Lk pr (k+1)):=fun x hx=>by
  refine List.filter_congr fun p hp=>?_;have Kv:=G.Kl x hx p hp
  by_cases h:Lk pr (k+1) p=true
  ·have h2:p∉st.2:=fun z=>by rw [((K.rd p).mp z).2.2] at h;exact oF h
   refine rv h (rv (tR G k p Kv h) ?_);simp [h2]
  ·rw [Bool.not_eq_true] at h;refine rv h ?_;cases h1:Lk pr k p with
   | false=>rfl
   | true=>simp [(K.rd p).mpr ⟨Kv,h1,h⟩]
 refine ⟨I.ky,I.su,fun x hx hl=>?_,I.nd,fun x=>?_⟩
 ·exact rv (e x hx).symm (I.IO x hx hl)
 ·refine (I.rd x).trans ⟨e8 fun a b c=>⟨a,b,?_⟩,e8 fun a b c=>⟨a,b,?_⟩⟩
  ·rw [e x a] at c;show (pr x).any (Lk pr (k+1))=false;refine rv (propext (List.any_eq_false)) ?_;exact fun p hp=>by have:=List.filter_eq_nil_iff.mp c p hp;exact this
  ·refine rv (e x a) ?_;have c':(pr x).any (Lk pr (k+1))=false:=c;rw [List.any_eq_false] at c';exact List.filter_eq_nil_iff.mpr c'
theorem KI.all:∀ k,KI bR pr k (cf bR k):=by
 intro k
 induction k with
 | zero=>exact KI.zero G
 | succ k ih=>exact KI.next G (ih)
theorem xy {R:Nat}(hz:(bp bR).length≤20)(hR:∀ x∈bp bR,Lk pr R x=true→Lk pr (R+1) x=true)(ha:∀ k,k<R→∃ x∈bp bR,Lk pr k x=true∧Lk pr (k+1) x=false):nR bR R where
 fin:=by
  have K:=KI.all G R;cases q:(cf bR R).2 with
  | nil=>rfl
  | cons x l=>
   refine e8 (fun a b c=>?_) ((K.rd x).mp (rv q Yu));rw [hR x a b] at c;exact oF c.symm
 act k hk z:=by
  refine db (fun x h1 h2 h3=>?_) (ha k hk);have:=((KI.all G k).rd x).mpr ⟨h1,h2,h3⟩;rw [z] at this;cases this
 len k:=Ys (List.Nodup.length_le_of_subset (KI.all G k).nd fun x hx=>(((KI.all G k).rd x).mp hx).1) hz
 key k x hx:=(((KI.all G k).rd x).mp hx).1
 out k pre x post h:=by
  have K:=KI.all G k;have S:=ub.start G K;have hn:=K.nd;have hm:=fun y=>(K.rd y).mp;rw [h] at hn;have S':ub bR pr k [] (pre++x::post) (iD (cf bR k).1 (cf bR k).2,[]):=h▸S;have I:=ub.runs G pre [] (x::post) _ S' (rv (List.nil_append _) hn) fun y hy=>hm y (rv h hy);exact I.Oz x Yu
end
noncomputable def Hj (K:List Str)(pr:Str→List Str)(k:Nat):Prop:=∀ x∈K,Lk pr k x=true→Lk pr (k+1) x=true
section
variable {bR:List PE}{pr:Str→List Str}(G:KM bR pr)
include G
theorem Bl {k:Nat}(h:Hj (bp bR) pr k):∀ m,Hj (bp bR) pr (k+m)
 | 0=>h
 | m+1=>fun x hx hl=>by
  refine az (fun p hp hq=>?_) (Y3.mp hl);exact Y3.mpr (aF p hp (Bl h m p (G.Kl x hx p hp) hq))
theorem JU {k:Nat}(h:Hj (bp bR) pr k){x:Str}(hx:x∈bp bR)(hl:Lk pr k x=true):∀ m,Lk pr (k+m) x=true:=by
 intro m
 induction m with
 | zero=>exact hl
 | succ m ih=>exact Bl G h m x hx (ih)
theorem ET {k:Nat}{x:Str}(hx:x∈bp bR):∀ m,Lk pr (k+m) x=true→Lk pr k x=true:=by
 intro m
 induction m with
 | zero=>
  intro h;exact h
 | succ m ih=>
  intro h;exact ih (tR G _ x hx h)
theorem Dw {k:Nat}{x:Str}(hx:x∈bp bR)(h1:Lk pr k x=true)(h2:Lk pr (k+1) x=false):((bp bR).filter (Lk pr (k+1))).length+1≤((bp bR).filter (Lk pr k)).length:=by
 have hd:=G.nd;have hm:∀ y∈bp bR,Lk pr (k+1) y=true→Lk pr k y=true:=fun y hy=>tR G k y hy;generalize bp bR=K at hd hx hm;have h:((x::K.filter (Lk pr (k+1))):List Str).length≤(K.filter (Lk pr k)).length:=by
  refine List.Nodup.length_le_of_subset (Y0.mpr ⟨fun z=>?_,hd.filter _⟩) fun y hy=>?_
  ·rw [(YJ.mp z).2] at h2;exact oF h2.symm
  ·rcases YC.mp hy with rfl | hy
   ·exact YJ.mpr ⟨hx,h1⟩
   ·obtain ⟨a,b⟩:=YJ.mp hy;exact YJ.mpr ⟨a,hm y a b⟩
 exact h
theorem Yi (n:Nat):(∃ R,R<n∧Hj (bp bR) pr R∧∀ k,k<R→∃ x∈bp bR,Lk pr k x=true∧Lk pr (k+1) x=false)∨((∀ k,k<n→∃ x∈bp bR,Lk pr k x=true∧Lk pr (k+1) x=false)∧((bp bR).filter (Lk pr n)).length+n≤(bp bR).length):=by
 induction n with
 | zero=>exact .inr ⟨fun k h=>absurd h (Nat.not_lt_zero k),Y1 ..⟩
 | succ n ih=>
  rcases ih with ⟨R,h1,h2,h3⟩ | ⟨h1,h2⟩
  ·exact .inl (eQ R (Eg h1) h2 h3)
  ·by_cases q:Hj (bp bR) pr n
   ·exact .inl (eQ n (K6) q h1)
   ·unfold Hj at q;have q':∃ x∈bp bR,Lk pr n x=true∧Lk pr (n+1) x=false:=by
     refine Classical.byContradiction fun z=>q fun x hx hl=>?_;cases e:Lk pr (n+1) x with
     | true=>rfl
     | false=>exact absurd (eQ x hx hl e) z
    refine .inr ⟨fun k hk=>?_,?_⟩
    ·rcases Nat.lt_or_ge k n with c | c
     ·exact h1 k c
     ·have:k=n:=Sl hk c;subst this;exact q'
    ·revert q';refine db fun x hx a b=>?_;have:=Dw G hx a b;exact S_ h2 this
theorem wx:∃ R,R≤(bp bR).length∧Hj (bp bR) pr R∧∀ k,k<R→∃ x∈bp bR,Lk pr k x=true∧Lk pr (k+1) x=false:=by
 rcases Yi G ((bp bR).length+1) with ⟨R,h1,h2⟩ | ⟨_,h⟩
 ·exact aF R (Sj h1) h2
 ·exact (RX h).elim
theorem GU {fin:List Str}(F:nZ (dC bR) fin)(ha:∀ x∈bp bR,x∈fin):∀ n x,x∈bp bR→x∉fin.take (fin.length-n)→Lk pr n x=false:=by
 intro n
 induction n with
 | zero=>
  intro x hx h;exact absurd (ha x hx) (by rw [Nat.sub_zero,List.take_length] at h;exact h)
 | succ n ih=>
  intro x hx h;show (pr x).any (Lk pr n)=false;refine rv (propext (List.any_eq_false)) ?_;intro p hp;refine rv (Bool.not_eq_true _) ?_;refine ih p (G.Kl x hx p hp) fun z=>h ?_;refine jE (fun a b e=>?_) (List.append_of_mem z);have hs:x∈dC bR p:=(G.su p x).mpr ⟨hx,hp⟩;have e2:fin=a++p::(b++fin.drop (fin.length-n)):=by
   have:=(List.take_append_drop (fin.length-n) fin).symm;rw [e] at this;simpa using this
  have Vw:=F a p _ e2 x hs;have la:a.length+1≤fin.length-n:=by
   have:=congrArg List.length e;rw [List.length_take,List.length_append,List.length_cons] at this;exact S6 this
  have hh:∀ m,a.length≤m→x∈fin.take m:=fun m hm=>by
   refine rv e2 (rv List.take_append (rv (propext (Yr)) ?_));left;exact rv (List.take_of_length_le hm) Vw
  exact hh _ (SW la)
theorem AW {fin:List Str}(F:nZ (dC bR) fin)(ha:∀ x∈bp bR,x∈fin){x:Str}{m:Nat}(hm:(bp bR).length≤m)(hx:x∈bp bR):Lk pr m x=false:=by
 refine db (fun R h1 h2 h3=>?_) (wx G);cases q:Lk pr m x with
 | false=>rfl
 | true=>
  have e:m=R+(m-R):=Sa hm h1;rw [e] at q;have q2:=ET G hx _ q;have q3:=JU G h2 hx q2 fin.length;have q4:Lk pr fin.length x=true:=ET G (k:=fin.length) hx R (rv (Nat.add_comm _ _) q3);rw [GU G F ha fin.length x hx (by simp)] at q4;exact oF q4
theorem vZ {x y:Str}(r:ua (dC bR) x y):y∈bp bR:=by
 induction r with
 | one x y h=>exact ((G.su x y).mp h).1
 | step x y z h r ih=>exact ih
theorem Fv {x y:Str}(r:ua (dC bR) x y):∀ k,Lk pr k x=true→Lk pr (k+1) y=true:=by
 induction r with
 | one x y h=>exact fun k hl=>Y3.mpr (aF x (((G.su x y).mp h).2) hl)
 | step x y z h r ih=>exact fun k hl=>tR G _ z (vZ G r) (ih (k+1) (Y3.mpr (aF x (((G.su x y).mp h).2) hl)))
theorem Cg {x:Str}(r:ua (dC bR) x x):∀ k,Lk pr k x=true:=by
 intro k
 induction k with
 | zero=>exact rfl
 | succ k ih=>exact Fv G r k (ih)
end
theorem gz {α β:Type}{f:α→β}{l:List α}(h:l.Nodup)(hi:∀ a∈l,∀ b∈l,f a=f b→a=b):(l.map f).Nodup:=by
 induction l with
 | nil=>exact List.nodup_nil
 | cons a l i=>
  rw [Y0] at h;refine rv List.map_cons (rv (propext (Y0)) ?_);refine ⟨fun z=>?_,i h.2 fun x hx y hy=>hi x (Yv _ hx) y (Yv _ hy)⟩;refine az (fun y hy e=>?_) (Yt.mp z);exact h.1 (rv (hi y (Yv _ hy) a Yu e).symm hy)
theorem fM {x:List Nat}{l:List (List Nat)}:sl x∈l.map sl↔x∈l:=by
 refine rv (propext (Yt)) ?_;exact ⟨fun ⟨y,hy,e⟩=>fF e▸hy,fun h=>(aF x h rfl)⟩
theorem r_ {q b:List (List Nat)}(hd:(a6 q).Nodup)(xs:List (List Nat)):xs.Nodup→(bp (bA q b xs)).Nodup∧(∀ y,y∈bp (bA q b xs)↔∃ x∈xs,y=sl x∨y∈(pU q b x).map sl)∧(∀ z,dR (bA q b xs) (sl z)=if z∈xs then ((pU q b z).length:Int) else 0)∧∀ z,dC (bA q b xs) (sl z)=(xs.filter fun x=>(pU q b x).contains z).map sl:=by
 refine mQ (motive:=fun xs=>xs.Nodup→(bp (bA q b xs)).Nodup∧(∀ y,y∈bp (bA q b xs)↔∃ x∈xs,y=sl x∨y∈(pU q b x).map sl)∧(∀ z,dR (bA q b xs) (sl z)=if z∈xs then ((pU q b z).length:Int) else 0)∧∀ z,dC (bA q b xs) (sl z)=(xs.filter fun x=>(pU q b x).contains z).map sl) ?_ ?_ xs
 ·intro _;exact ⟨List.nodup_nil,fun y=>⟨(fun h=>nomatch h),az fun x h χ=>nomatch h⟩,fun z=>rfl,fun z=>rfl⟩
 ·intro xs x ih hn;have hx:x∉xs:=fun z=>(List.nodup_append.mp hn).2.2 x z x Yu rfl;refine rO (fun i1 i2 i3 i4=>?_) (ih (List.nodup_append.mp hn).1);have hp:((pU q b x).map sl).Nodup:=gz (hd.filter _) fun a χ b χ=>fF;have e:bA q b (xs++[x])=oJ (bA q b xs) (sl x) ((pU q b x).map sl):=by unfold bA;refine rv YY ?_;rfl
  refine rO (fun a1 a2 a3 a4=>?_) (DN (x:=sl x) hp i1);refine rv e ?_;refine ⟨a1,fun y=>?_,fun z=>?_,fun z=>?_⟩
  ·refine rv (propext (a2 _)) (rv (propext (i2 _)) ?_);constructor
   ·rintro (⟨u,hu,h⟩ | h)
    ·exact aF u (Yp _ hu) h
    ·exact aF x (Yn _ Yu) h
   ·intro r_31;revert r_31;refine az fun u hu h=>?_;rcases Yr.mp hu with hu | hu
    ·exact .inl (aF u hu h)
    ·rw [Yq] at hu;subst hu;exact .inr h
  ·refine rv (a3 _) (rv (i3 _) (rv (List.length_map _) ?_))
   by_cases c:z=x
   ·subst c;simp [hx]
   ·refine rv (Yz fun w=>c (fF w)) ?_;simp [c]
  ·refine rv (a4 _) (rv (i4 _) (rv (List.filter_append _ _) (rv List.map_append ?_)));congr 1
   by_cases c:z∈pU q b x
   ·refine rv (YH (fM.mpr c)) (rv (List.filter_cons_of_pos (by simpa using c)) ?_);rfl
   ·refine rv (Yz (fun w=>c (fM.mp w))) (rv (List.filter_cons_of_neg (by simpa using c)) ?_);rfl
noncomputable def Kk (q b:List (List Nat))(s:Str):List Str:=(pU q b s.cps.toList).map sl
theorem pV (q b:List (List Nat))(x:List Nat):Kk q b (sl x)=(pU q b x).map sl:=rfl
section
variable {q b:List (List Nat)}(hd:(a6 q).Nodup)
include hd
theorem mR (y:Str):y∈bp (bA q b (a6 q))↔y∈(a6 q).map sl:=by
 refine rO (fun χ i2 χ χ=>?_) (r_ (b:=b) hd (a6 q) hd);refine rv (propext (i2 _)) ?_;constructor
 ·rintro ⟨x,hx,rfl | h⟩
  ·exact fM.mpr hx
  ·refine az (fun z hz e_1=>?_) (Yt.mp h);subst e_1;exact fM.mpr (YJ.mp hz).1
 ·intro h;refine az (fun x hx e_2=>?_) (Yt.mp h);subst e_2;exact aF x hx (.inl rfl)
theorem HL:KM (bA q b (a6 q)) (Kk q b):=by
 refine rO (fun i1 i2 i3 i4=>?_) (r_ (b:=b) hd (a6 q) hd);have ks:∀ y∈bp (bA q b (a6 q)),∃ x∈a6 q,y=sl x:=fun y hy=>by
  refine az (fun x hx e=>?_) (Yt.mp ((mR hd y).mp hy));exact aF x hx e.symm
 refine ⟨i1,fun x hx=>?_,fun x hx=>?_,fun x hx y hy=>?_,fun x=>?_,fun x y=>?_⟩
 ·refine az (fun z hz e_3=>?_) (ks x hx);subst e_3;exact rv (i3 _) (rv (YH hz) (rv (pV _ _ _) (rv (List.length_map _) rfl)))
 ·exact gz (hd.filter _) fun a χ b χ=>fF
 ·refine az (fun z hz e_4=>?_) (Yt.mp hy);subst e_4;exact (mR hd _).mpr (fM.mpr (YJ.mp hz).1)
 ·have e:x=sl x.cps.toList:=rfl;refine rv e (rv (i4 _) ?_);exact gz (hd.filter _) fun a χ b χ=>fF
 ·have e:x=sl x.cps.toList:=rfl;refine rv e (rv (i4 _) (rv (propext (mR hd _)) ?_));constructor
  ·intro h;refine az (fun z hz e_5=>?_) (Yt.mp h);subst e_5;obtain ⟨h1,h2⟩:=YJ.mp hz;exact ⟨fM.mpr h1,rv (pV _ _ _) (fM.mpr (by simpa using h2))⟩
  ·intro r_32;obtain ⟨h1,h2⟩:=r_32;refine az (fun z hz e_6=>?_) (Yt.mp h1);subst e_6;rw [pV] at h2;exact fM.mpr (YJ.mpr ⟨hz,by simpa using fM.mp h2⟩)
theorem B5:∀ p∈bA q b (a6 q),∀ y∈p.2.2,y∈(bA q b (a6 q)).map (fun x=>x.1):=fun p hp y hy=>by
 have G:=HL (b:=b) hd;have hk:p.1∈bp (bA q b (a6 q)):=Yt.mpr (aF p hp rfl);refine az (fun p' e ek=>?_) (dN hk);have:p'=p:=Er G.nd (List.mem_of_find?_eq_some e) hp ek;refine ((G.su p.1 y).mp ?_).1;exact rv (pJ e) (rv this hy)
end
noncomputable def th (w:Int→Nat)(t:Int):List Nat:=(bv t 3).map w
noncomputable def qd (w:Int→Nat)(k:Int):List Nat:=(bv k 4).map w
theorem gL (a:Int)(m:Nat):∀ x∈bv a m,x=0∨x=1:=fun x hx=>by
 refine az (fun i χ e_7=>?_) (Yt.mp hx);subst e_7;exact K4
theorem WL:∀ o∈Xf 8,∀ t∈Xf 8,((bv o 3).drop 1==(bv t 3).take 2)=(o%4==t/2):=by decide+kernel
theorem WK:∀ o∈Xf 8,∀ t∈Xf 8,bv o 3++(bv t 3).drop 2=bv (2*o+t%2) 4:=by decide+kernel
theorem WJ:∀ a∈Xf 16,∀ b∈Xf 16,bv a 4=bv b 4→a=b:=by decide+kernel
theorem WI:∀ a∈Xf 8,∀ b∈Xf 8,bv a 3=bv b 3→a=b:=by decide+kernel
theorem WH:∀ t∈Xf 8,(bv t 4).drop 1=bv t 3:=by decide+kernel
section
variable {w:Int→Nat}(hw:w 0≠w 1)
include hw
theorem mK {l l':List Int}(h:∀ x∈l,x=0∨x=1)(h':∀ x∈l',x=0∨x=1)(e:l.map w=l'.map w):l=l':=by
 induction l generalizing l' with
 | nil=>exact (List.map_eq_nil_iff.mp e.symm).symm
 | cons a l i=>
  cases l' with
  | nil=>cases e
  | cons a' l'=>
   rw [List.map_cons,List.map_cons,List.cons.injEq] at e;refine rv (i (fun x hx=>h x (Yv _ hx)) (fun x hx=>h' x (Yv _ hx)) e.2) ?_;congr 1;rcases h a Yu with rfl | rfl<;>rcases h' a' Yu with rfl | rfl
   ·rfl
   ·exact absurd e.1 hw
   ·exact absurd e.1.symm hw
   ·rfl
theorem zY {l l':List Int}(h:∀ x∈l,x=0∨x=1)(h':∀ x∈l',x=0∨x=1):(l.map w==l'.map w)=(l==l'):=by
 refine rv (propext (Bool.eq_iff_iff)) (rv (propext (YK)) (rv (propext (YK)) ?_));exact ⟨mK hw h h',fun e=>e▸rfl⟩
theorem Fc {a b:Int}(ha:a∈Xf 8)(hb:b∈Xf 8)(e:th w a=th w b):a=b:=WI a ha b hb (mK hw (gL _ _) (gL _ _) e)
theorem zo {a b:Int}(ha:a∈Xf 16)(hb:b∈Xf 16)(e:qd w a=qd w b):a=b:=WJ a ha b hb (mK hw (gL _ _) (gL _ _) e)
end
theorem gV (w:Int→Nat):a6 ((Xf 16).map (qd w))=(Xf 8).map (th w):=by
 unfold a6;rw [← List.map_take,List.map_map];refine YL (l:=Xf 8) fun t ht=>?_;simp only [Function.comp,qd,th];rw [← List.map_drop,WH t ht]
noncomputable def pn (bar:List Int)(t:Int):List Int:=(Xf 8).filter fun o=>o%4==t/2&&dh bar o t
section
variable {w:Int→Nat}(hw:w 0≠w 1){bar:List Int}(hb:∀ x∈bar,x∈Xf 16)
include hw
theorem i7:(a6 ((Xf 16).map (qd w))).Nodup:=by
 refine rv (gV _) ?_;exact gz (by decide+kernel) fun a ha b hb=>Fc hw ha hb
end
section
variable {w:Int→Nat}(hw:w 0≠w 1){bar:List Int}(hb:∀ x∈bar,x∈Xf 16)
include hw
include hb
theorem zq {o t:Int}(ho:o∈Xf 8)(ht:t∈Xf 8):k9 (bar.map (qd w)) (th w t) (th w o)=(o%4==t/2&&dh bar o t):=by
 unfold k9 dh th;rw [← List.map_drop,← List.map_take,← List.map_drop,← List.map_append,WK o ho t ht,zY hw (fun x hx=>gL o 3 x (List.mem_of_mem_drop hx)) (fun x hx=>gL t 3 x (List.mem_of_mem_take hx)),WL o ho t ht];congr 2;have hm:2*o+t%2∈Xf 16:=by
  have:=b9.mp ho;exact b9.mpr (Ud this.1 this.2)
 refine rv (propext (Bool.eq_iff_iff)) (rv (propext (List.contains_iff_mem)) (rv (propext (List.contains_iff_mem)) (rv (propext (Yt)) ?_)));exact ⟨az fun k hk e=>zo hw (hb k hk) hm e▸hk,fun h=>(aF _ h rfl)⟩
theorem FD {t:Int}(ht:t∈Xf 8):pU ((Xf 16).map (qd w)) (bar.map (qd w)) (th w t)=(pn bar t).map (th w):=by
 unfold pU pn;refine rv (gV _) (rv List.filter_map ?_);congr 1;exact List.filter_congr fun o ho=>zq hw hb ho ht
theorem gC:∀ (k:Nat) (t:Int),t∈Xf 8→(t∈cI bar k↔Lk (Kk ((Xf 16).map (qd w)) (bar.map (qd w))) k (sl (th w t))=true):=by
 intro k
 induction k with
 | zero=>
  intro t ht;exact ⟨fun χ=>rfl,fun χ=>ht⟩
 | succ k ih=>
  intro t ht;have sub:∀ k,∀ x∈cI bar k,x∈Xf 8:=fun k x hx=>by
   cases k with
   | zero=>exact hx
   | succ k=>exact (YJ.mp hx).1
  show t∈wm bar (cI bar k)↔(Kk _ _ (sl (th w t))).any (Lk _ k)=true;refine rv (pV _ _ _) (rv (FD hw hb ht) (rv List.map_map (rv List.any_map (rv (propext (Y3)) ?_))));unfold wm XC;refine rv (propext (YJ)) ?_;have uR:=b9.mp ht;constructor
  ·intro r_33;obtain ⟨_,h⟩:=r_33;refine jE (fun o l e=>?_) (List.exists_cons_of_ne_nil (l:=([t/2,t/2+4].filter fun o=>(cI bar k).contains o&&dh bar o t)) (by simpa using h));have m:=YJ.mp (e▸Yu:o∈([t/2,t/2+4].filter fun o=>(cI bar k).contains o&&dh bar o t));obtain ⟨m1,m2⟩:=m;rw [YR,List.contains_iff_mem] at m2;have ho:=sub k o m2.1;refine aF o (YJ.mpr ⟨ho,?_⟩) ((ih o ho).mp m2.1);refine rv (YR _ _) (rv (propext (YK)) ?_);refine ⟨?_,m2.2⟩;simp at m1;exact Ue uR.1 uR.2 m1
  ·intro r_34;revert r_34;refine az fun o ho hl=>?_;obtain ⟨h1,h2⟩:=YJ.mp ho;rw [YR,YK] at h2;have Pc:=b9.mp h1;have GF:o∈cI bar k:=(ih o h1).mpr hl;refine ⟨ht,?_⟩;have:o∈([t/2,t/2+4].filter fun o=>(cI bar k).contains o&&dh bar o t):=YJ.mpr ⟨by simp;exact Uk h2.1 Pc.1 Pc.2,rv (YR _ _) (rv (propext (List.contains_iff_mem)) ⟨GF,h2.2⟩)⟩;cases q:([t/2,t/2+4].filter fun o=>(cI bar k).contains o&&dh bar o t) with
   | nil=>rw [q] at this;cases this
   | cons=>rfl
end
noncomputable def yE (bar:List Int)(k:Nat):List Int:=(Xf 8).filter fun t=>(cI bar k).contains t&&!(cI bar (k+1)).contains t
theorem BP (n:Nat):(Xf n).Pairwise (·≤·):=by
 unfold Xf;refine rv (propext (List.pairwise_map)) ?_;exact List.pairwise_le_range.imp fun h=>Int.ofNat_le.mpr h
theorem yK (n:Nat):(Xf n).Nodup:=gz List.nodup_range fun a χ b χ e=>by
 exact Int.ofNat.inj e
theorem vL {n:Nat}{t:Int}(h:t∈Xf n):(Xf n)[t.toNat]? = some t:=by
 have:=b9.mp h;unfold Xf;refine rv (Y2) (rv (List.getElem?_range (Ke this.1 this.2)) ?_);simp only [Option.map_some];congr 1;exact Hs this.1
theorem oh {α:Type}(g:Nat→List α){R n:Nat}(hR:R≤n)(h1:∀ k,k<R→g k≠[])(h2:∀ k,R≤k→g k=[]):((List.range n).map g).filter (fun l=>!l.isEmpty)=(List.range R).map g:=by
 obtain ⟨m,rfl⟩:∃ m,n=R+m:=⟨n-R,N2 hR⟩;rw [List.range_add,List.map_append,List.filter_append,List.filter_eq_self.mpr,List.filter_eq_nil_iff.mpr,List.append_nil]
 ·intro l hl;rw [List.map_map] at hl;refine az (fun x χ e_1=>?_) (Yt.mp hl);subst e_1;simp only [Function.comp];refine rv (h2 (R+x) (N0)) ?_;simp
 ·intro l hl;refine az (fun x hx e_2=>?_) (Yt.mp hl);subst e_2;have:=h1 x (List.mem_range.mp hx);simpa using this
section
variable {w:Int→Nat}(hw:w 0≠w 1){bar:List Int}(hb:∀ x∈bar,x∈Xf 16)
include hw
theorem qy {t:Int}(ht:t∈Xf 8):Hx ((Xf 16).map (qd w)) (sl (th w t))=t:=by
 unfold Hx;refine rv (gV _) ?_;have hn:(((Xf 8).map (th w)).map sl).Nodup:=gz (rv (gV _).symm (i7 hw)) fun a χ b χ=>fF;have hl:(((Xf 8).map (th w)).map sl).length=8:=rv (List.length_map _) (rv (List.length_map _) (rv (aJ _) rfl));have uR:=b9.mp ht;have:=hn.idxOf_getElem t.toNat (rv hl (K2 uR.2));have e:(((Xf 8).map (th w)).map sl)[t.toNat]'(rv hl (K2 uR.2))=sl (th w t):=by
  have:(((Xf 8).map (th w)).map sl)[t.toNat]? = some (sl (th w t)):=by refine rv (Y2) (rv (Y2) (rv (vL ht) ?_));rfl
  rw [YM (rv hl (K2 uR.2))] at this;exact Yx this
 rw [e] at this;exact rv this (Hs uR.1)
theorem pf (b:List (List Nat)){y:Str}:y∈bp (bA ((Xf 16).map (qd w)) b (a6 ((Xf 16).map (qd w))))↔∃ t∈Xf 8,y=sl (th w t):=by
 refine rv (propext (mR (i7 hw) _)) (rv (gV _) (rv List.map_map (rv (propext (Yt)) ?_)));exact ⟨az fun t h e=>aF t h e.symm,az fun t h e=>aF t h e.symm⟩
theorem z6 (b:List (List Nat)):(bp (bA ((Xf 16).map (qd w)) b (a6 ((Xf 16).map (qd w))))).length≤8:=by
 have:=List.Nodup.length_le_of_subset (HL (b:=b) (i7 hw)).nd (l₂:=(a6 ((Xf 16).map (qd w))).map sl) fun y hy=>(mR (i7 hw) y).mp hy;have e:((a6 ((Xf 16).map (qd w))).map sl).length=8:=rv (List.length_map _) (rv (gV _) (rv (List.length_map _) (rv (aJ _) rfl)));rw [e] at this;exact this
end
section
variable {w:Int→Nat}(hw:w 0≠w 1){bar:List Int}(hb:∀ x∈bar,x∈Xf 16)
include hw
include hb
theorem Cf (k:Nat):Hu ((Xf 16).map (qd w)) (cf (bA ((Xf 16).map (qd w)) (bar.map (qd w)) (a6 ((Xf 16).map (qd w)))) k).2=dL (yE bar k):=by
 have G:=HL (q:=(Xf 16).map (qd w)) (b:=bar.map (qd w)) (i7 hw);have K:=KI.all G k;generalize (cf (bA ((Xf 16).map (qd w)) (bar.map (qd w)) (a6 ((Xf 16).map (qd w)))) k)=st at K;have hs:∀ s∈st.2,∃ t∈Xf 8,s=sl (th w t):=fun s h=>(pf hw _).mp ((K.rd s).mp h).1;unfold Hu dL;congr 2;refine lks_uniq ((Xw _).trans ((List.perm_ext_iff_of_nodup (gz K.nd fun a ha b hb e=>?_) ((yK 8).filter _)).mpr fun t=>?_)) (oP _) ((BP 8).filter _)
 ·refine az (fun t ht e_3=>?_) (hs a ha);subst e_3;refine az (fun t' uR e_4=>?_) (hs b hb);subst e_4;rw [qy hw ht,qy hw uR] at e;exact rv e rfl
 ·have key:∀ t∈Xf 8,(sl (th w t)∈st.2↔t∈cI bar k∧t∉cI bar (k+1)):=fun t ht=>by
   refine rv (propext (K.rd _)) (rv (propext (pf hw _)) (rv (propext (gC hw hb k t ht)) (rv (propext (gC hw hb (k+1) t ht)) (rv (Bool.not_eq_true _) ?_))));exact ⟨fun h=>h.2,fun h=>⟨(aF t ht rfl),h⟩⟩
  refine rv (propext (Yt)) (rv (propext (YJ)) (rv (YR _ _) (rv (Bool.not_eq_true' _) (rv (propext (List.contains_iff_mem)) (rv (Bool.not_eq_true _).symm (rv (propext (List.contains_iff_mem)) ?_))))));constructor
  ·intro r_35;revert r_35;refine az fun s eK e_1=>?_;subst e_1;refine az (fun t ht e_5=>?_) (hs s eK);subst e_5;refine rv (qy hw ht) ?_;exact ⟨ht,(key t ht).mp eK⟩
  ·intro r_36;obtain ⟨ht,h⟩:=r_36;exact aF _ ((key t ht).mpr h) (qy hw ht)
theorem uy:∃ R,R≤8∧nR (bA ((Xf 16).map (qd w)) (bar.map (qd w)) (a6 ((Xf 16).map (qd w)))) R∧(List.range R).map (fun j=>Hu ((Xf 16).map (qd w)) (cf (bA ((Xf 16).map (qd w)) (bar.map (qd w)) (a6 ((Xf 16).map (qd w)))) j).2)=(((List.range 8).map (yE bar)).filter fun l=>!l.isEmpty).map dL:=by
 have G:=HL (q:=(Xf 16).map (qd w)) (b:=bar.map (qd w)) (i7 hw);have hl:=z6 hw (bar.map (qd w));refine db (fun R h1 h2 h3=>?_) (wx G);refine eQ R (Nd hl h1) (xy G (NK hl) h2 h3) ?_;rw [oh (yE bar) (R:=R) (Nd hl h1),List.map_map]
 ·exact YL fun j χ=>Cf hw hb j
 ·intro k hk z;refine db (fun x hx a c=>?_) (h3 k hk);refine az (fun t ht e_6=>?_) ((pf hw _).mp hx);subst e_6;have:t∈yE bar k:=by
   unfold yE;refine rv (propext (YJ)) (rv (YR _ _) (rv (Bool.not_eq_true' _) (rv (propext (List.contains_iff_mem)) (rv (Bool.not_eq_true _).symm (rv (propext (List.contains_iff_mem)) (rv (propext (gC hw hb k t ht)) (rv (propext (gC hw hb (k+1) t ht)) (rv (Bool.not_eq_true _) ?_))))))));exact ⟨ht,a,c⟩
  rw [z] at this;cases this
 ·intro k hk;unfold yE;refine List.filter_eq_nil_iff.mpr fun t ht=>?_;refine rv (YR _ _) (rv (Bool.not_eq_true' _) (rv (propext (List.contains_iff_mem)) (rv (Bool.not_eq_true _).symm (rv (propext (List.contains_iff_mem)) (rv (propext (gC hw hb k t ht)) (rv (propext (gC hw hb (k+1) t ht)) ?_))))));intro r_37;obtain ⟨a,c⟩:=r_37;obtain ⟨m,rfl⟩:∃ m,k=R+m:=⟨k-R,N2 hk⟩;exact c (Bl G h2 m _ ((pf hw _).mpr (aF t ht rfl)) a)
theorem Cd {fin:List Str}(F:nZ (dC (bA ((Xf 16).map (qd w)) (bar.map (qd w)) (a6 ((Xf 16).map (qd w))))) fin)(ha:∀ x∈(bA ((Xf 16).map (qd w)) (bar.map (qd w)) (a6 ((Xf 16).map (qd w)))).map (fun x=>x.1),x∈fin):cI bar 8=[]:=by
 have G:=HL (q:=(Xf 16).map (qd w)) (b:=bar.map (qd w)) (i7 hw);cases e:cI bar 8 with
 | nil=>rfl
 | cons t l=>
  have ht:t∈cI bar 8:=rv e Yu;have hu:t∈Xf 8:=(YJ.mp ht).1;have h1:=(gC hw hb 8 t hu).mp ht;rw [AW G F ha (z6 hw _) ((pf hw _).mpr (aF t hu rfl))] at h1;exact oF h1
theorem zj {x:Str}(r:ua (dC (bA ((Xf 16).map (qd w)) (bar.map (qd w)) (a6 ((Xf 16).map (qd w))))) x x):cI bar 8≠[]:=fun e=>by
 have G:=HL (q:=(Xf 16).map (qd w)) (b:=bar.map (qd w)) (i7 hw);refine az (fun t ht e_7=>?_) ((pf hw _).mp (vZ G r));subst e_7;have:=(gC hw hb 8 t ht).mpr (Cg G r 8);rw [e] at this;cases this
end
section
variable (t q:List Nat)
noncomputable def mt (i j:Nat):Bool:=q[i]?.isSome&&q[i]? == t[j]?
noncomputable def cs:Nat→Nat→Nat
 | 0,_=>0
 | _+1,0=>0
 | i+1,j+1=>if mt t q i j then cs i j+1 else 0
noncomputable def xJ (a b k:Nat):Prop:=∀ m,m<k→mt t q (a+m) (b+m)=true
noncomputable def lx (i j n m:Nat):Prop:=i<n∨i=n∧j<m
inductive vG:gh→Prop where
 | no:vG (0,0,0)
 | yes (i j:Nat)(hp:1≤cs t q (i+1) (j+1))(hf:∀ i' j',lx i' j' i j→cs t q (i'+1) (j'+1)<cs t q (i+1) (j+1)):vG ((i:Int)-cs t q (i+1) (j+1)+1,(j:Int)-cs t q (i+1) (j+1)+1,(cs t q (i+1) (j+1):Int))
structure vE (n m:Nat)(b:gh):Prop where
 max:∀ i j,lx i j n m→(cs t q (i+1) (j+1):Int)≤b.2.2
 it:vG t q b
noncomputable def KL (n:Nat)(J:Int→Int):Prop:=∀ x:Int,J x=if 0≤x∧x<t.length then (cs t q n (x+1).toNat:Int) else 0
end
section
variable {t q:List Nat}
theorem j6 {i j:Nat}:mt t q i j=true↔∃ c,q[i]? = some c∧t[j]? = some c:=by
 unfold mt;refine rv (YR _ _) (rv (propext (YK)) (rv (propext (Option.isSome_iff_exists)) ?_));exact ⟨fun z=>z.1.elim fun c h=>aF c h (z.2▸h),az fun c h e=>⟨⟨c,h⟩,h.trans e.symm⟩⟩
theorem wo {i j:Nat}(h:mt t q i j=true):i<q.length∧j<t.length:=by
 refine az (fun c h1 h2=>?_) (j6.mp h);exact ⟨(YD.mp h1).1,(YD.mp h2).1⟩
theorem lF {i j:Nat}:cs t q (i+1) (j+1)=if mt t q i j then cs t q i j+1 else 0:=by rw [cs]
theorem Yk (i:Nat):cs t q i 0=0:=by cases i<;>rfl
theorem wS:∀ i j,cs t q i j≤i∧cs t q i j≤j
 | 0,j=>⟨YE _,Nat.zero_le _⟩
 | i+1,0=>⟨Nat.zero_le _,YE _⟩
 | i+1,j+1=>by
  have:=wS i j;refine rv lF ?_;split<;>lia -abstractProof
theorem fq {a b:Nat}:∀ k,xJ t q a b k→k≤cs t q (a+k) (b+k)
 | 0,_=>Nat.zero_le _
 | k+1,h=>by
  have ih:=fq k fun m hm=>h m (Eg hm);have:=h k (K6);refine rv (Nat.add_assoc _ _ _).symm (rv (Nat.add_assoc _ _ _).symm (rv lF (rv (YH this) ?_)));exact RC ih
theorem va:∀ i j k,k≤cs t q i j→xJ t q (i-k) (j-k) k
 | _,_,0,_=>fun m hm=>absurd hm (Nat.not_lt_zero m)
 | 0,_,k+1,h=>by simp [cs] at h
 | i+1,0,k+1,h=>by simp [cs] at h
 | i+1,j+1,k+1,h=>fun m hm=>by
  rw [lF] at h
  by_cases c:mt t q i j=true
  ·rw [YH c] at h;have l:=wS (t:=t) (q:=q) i j;have ih:=va i j k (by exact RV h);refine rv (show i+1-(k+1)=i-k by exact NA) (rv (show j+1-(k+1)=j-k by exact NA) ?_)
   by_cases e:m=k
   ·exact rv (show i-k+m=i by exact Oh h l.1 e) (rv (show j-k+m=j by exact Oh h l.2 e) c)
   ·exact ih m (by exact Sk hm e)
  ·rw [Yz c] at h;exact (QP h).elim
noncomputable def Yg (i k j:Int)(b:gh):gh:=if k>b.2.2 then (i-k+1,j-k+1,k) else b
theorem Dr (i:Int)(J:Int→Int):∀ (ps:List Int) (J0:Int→Int) (b:gh),ps.foldl (wG i J) (J0,b)=(fun x=>if x∈ps then J (x-1)+1 else J0 x,ps.foldl (fun b j=>Yg i (J (j-1)+1) j b) b):=by
 intro ps
 induction ps with
 | nil=>
  intro J0 b;simp
 | cons p ps ih=>
  intro J0 b;refine rv List.foldl_cons (rv List.foldl_cons (rv (show wG i J (J0,b) p=(fun x=>if x=p then J (p-1)+1 else J0 x,Yg i (J (p-1)+1) p b) from rfl) (rv (ih _ _) ?_)));congr 1;funext x
  by_cases h:x∈ps
  ·simp [h]
  ·by_cases e:x=p
   ·subst e;simp
   ·simp [h,e]
theorem se {c:Nat}{z:Int}:z∈cV c t.zipIdx↔0≤z∧t[z.toNat]? = some c:=by
 constructor
 ·intro h;refine e8 (fun a χ b=>?_) (sc h);exact ⟨a,b⟩
 ·intro r_38;obtain ⟨h0,h⟩:=r_38;simp only [cV,Yt,YJ,decide_eq_true_eq];exact aF (c,z.toNat) ⟨List.mk_mem_zipIdx_iff_getElem?.mpr h,rfl⟩ (by simp only;exact Hs h0)
theorem vE.pos {n m:Nat}{b:gh}(h:vE t q n m b):0≤b.2.2:=by
 rcases h.it with _ | ⟨i,j,_,_⟩
 ·exact Int.le_refl _
 ·exact Int.natCast_nonneg _
theorem vE.row {n c:Nat}(hc:q[n]? = some c){J:Int→Int}(hJ:KL t q n J):∀ (m:Nat) (b:gh),m≤t.length→vE t q n 0 b→vE t q n m ((cV c (t.take m).zipIdx).foldl (fun b j=>Yg n (J (j-1)+1) j b) b)
 | 0,b,_,h=>h
 | m+1,b,hm,h=>by
  have ih:=vE.row hc hJ m b (by exact J' hm) h;have hx:t[m]? = some t[m]:=YM (by exact RT hm);have e:t.take (m+1)=t.take m++[t[m]]:=by refine rv List.take_add_one (rv hx ?_);rfl
  have e2:(t.take (m+1)).zipIdx=(t.take m).zipIdx++[(t[m],m)]:=by
   refine rv e (rv List.zipIdx_append (rv List.length_take (rv (Nat.min_eq_left (by exact J' hm)) (rv (Nat.zero_add _) ?_))));rfl
  refine rv e2 (rv (jS _ _ _) ?_);have Mj:mt t q n m=decide (t[m]=c):=by
   refine rv (propext (Bool.eq_iff_iff)) (rv (propext (j6)) (rv decide_eq_true_eq ?_));exact ⟨fun ⟨d,h1,h2⟩=>by rw [hc] at h1;rw [hx] at h2;obtain rfl:=Yx h1;obtain rfl:=Yx h2;rfl,fun h=>(aF c hc (by exact rv hx (rv h rfl)))⟩
  have LR:∀ i j,lx i j n (m+1)→lx i j n m∨i=n∧j=m:=fun i j=>by unfold lx;exact Tb
  by_cases hq:t[m]=c
  ·have hv:J ((m:Int)-1)+1=(cs t q (n+1) (m+1):Int):=by
    refine rv lF (rv Mj (rv (YH (by simpa using hq)) (rv (hJ _) ?_)))
    by_cases z:m=0
    ·subst z;refine rv (Yz (by exact NH)) (rv (Yk _) ?_);rfl
    ·refine rv (YH (by exact RU hm z)) (rv (show ((m:Int)-1+1).toNat=m by exact La) ?_);rfl
   have Ar:1≤cs t q (n+1) (m+1):=by exact rv lF (rv Mj (rv (YH (by simpa using hq)) PK))
   refine rv (YH hq) (rv YY (rv List.foldl_cons (rv List.foldl_nil (rv hv ?_))));generalize (cV c (t.take m).zipIdx).foldl (fun b j=>Yg n (J (j-1)+1) j b) b=b' at ih;unfold Yg;split
   ·rename_i g;refine ⟨fun i j l=>?_,.yes n m Ar (fun i j l=>?_)⟩
    ·rcases LR i j l with l | ⟨rfl,rfl⟩
     ·have:=ih.max i j l;show (cs t q (i+1) (j+1):Int)≤(cs t q (n+1) (m+1):Int);exact TQ g this
     ·exact Int.le_refl _
    ·have:=ih.max i j l;exact TP g this
   ·rename_i g;refine ⟨fun i j l=>?_,ih.it⟩;rcases LR i j l with l | ⟨rfl,rfl⟩
    ·exact ih.max i j l
    ·exact TK g
  ·refine rv (Yz hq) ?_;refine ⟨fun i j l=>?_,ih.it⟩;rcases LR i j l with l | ⟨rfl,rfl⟩
   ·exact ih.max i j l
   ·exact rv lF (rv Mj (rv (Yz (by simpa using hq)) ih.pos))
theorem vE.end {n:Nat}{b:gh}(h:vE t q n t.length b):vE t q (n+1) 0 b:=by
 refine ⟨fun i j l=>?_,h.it⟩
 by_cases c:lx i j n t.length
 ·exact h.max i j c
 ·unfold lx at l c;refine rv lF (rv (Yz fun z=>by have:=(wo z).2;exact S7 l c this) ?_);exact h.pos
theorem jf (hq:q.length=4){n:Nat}(hn:n<4){st:(Int→Int)×gh}(hJ:KL t q n st.1)(hB:vE t q n 0 st.2):KL t q (n+1) (lz t q st n).1∧vE t q (n+1) 0 (lz t q st n).2:=by
 obtain ⟨c,hc⟩:∃ c,q[n]? = some c:=⟨_,YM (by exact Nj hq hn)⟩;have e:lz t q st n=(cV c t.zipIdx).foldl (wG n st.1) (fun χ=>0,st.2):=by
  unfold lz;refine rv (YQ _) (rv (List.getD_eq_getElem?_getD) (rv hc ?_));rfl
 refine rv e (rv (Dr _ _ _ _ _) ?_);refine ⟨fun x=>?_,vE.end ?_⟩
 ·show (if x∈cV c t.zipIdx then st.1 (x-1)+1 else 0)=_
  by_cases hx:0≤x∧x<t.length
  ·obtain ⟨j,rfl⟩:=YW hx.1;have em:mt t q n j=true↔(j:Int)∈cV c t.zipIdx:=by
    refine rv (propext (j6)) (rv (propext (se)) (rv (YQ _) ?_));exact ⟨fun ⟨d,h1,h2⟩=>by rw [hc] at h1;obtain rfl:=Yx h1;exact ⟨hx.1,h2⟩,fun h=>(aF c hc h.2)⟩
   refine rv (YH hx) (rv (show ((j:Int)+1).toNat=j+1 by exact Rl) (rv lF ?_))
   by_cases h:mt t q n j=true
   ·refine rv (YH (em.mp h)) (rv (YH h) (rv (hJ _) ?_))
    by_cases z:j=0
    ·subst z;refine rv (Yz (by exact NH)) (rv (Yk _) ?_);rfl
    ·refine rv (YH (by exact Ss hx.2 z)) (rv (show ((j:Int)-1+1).toNat=j by exact La) ?_);rfl
   ·refine rv (Yz fun z=>h (em.mpr z)) (rv (Yz h) ?_);rfl
  ·rw [Yz hx,Yz fun z=>?_];obtain ⟨h0,h1⟩:=se.mp z;have:=(YD.mp h1).1;exact UK hx h0 this
 ·have:=vE.row hc hJ t.length st.2 (YE _) hB;rw [List.take_length] at this;exact this
theorem s4 (hq:q.length=4):vE t q 4 0 (pA t q):=by
 have h0:KL t q 0 (fun χ=>0)∧vE t q 0 0 (0,0,0):=⟨fun x=>by simp [cs],fun i j l=>by unfold lx at l;lia -abstractProof,.no⟩;have h1:=jf hq (n:=0) (by decide) (st:=(fun χ=>0,(0,0,0))) h0.1 h0.2;have h2:=jf hq (n:=1) (by decide) h1.1 h1.2;have h3:=jf hq (n:=2) (by decide) h2.1 h2.2;exact (jf hq (n:=3) (by decide) h3.1 h3.2).2
theorem qU (hq:q.length=4)(i j:Nat):(cs t q (i+1) (j+1):Int)≤(pA t q).2.2:=by
 by_cases h:i<4
 ·exact (s4 hq).max i j (.inl h)
 ·refine rv lF (rv (Yz fun z=>by have:=(wo z).1;exact Rf hq h this) ?_);exact (s4 hq).pos
theorem FK (hq:q.length=4){a b k:Nat}(h:xJ t q a b k):(k:Int)≤(pA t q).2.2:=by
 by_cases z:k=0
 ·exact rv z ((s4 hq).pos)
 ·have:=fq k h;have:=qU (t:=t) hq (a+k-1) (b+k-1);rw [show a+k-1+1=a+k by exact N1 z,show b+k-1+1=b+k by exact N1 z] at this;lia -abstractProof
theorem GT (hq:q.length=4):Bm t q (pA t q):=by
 have B:=s4 (t:=t) hq;have A:=qU (t:=t) hq;generalize pA t q=b at A B;have pL:∀ {i j:Nat},i<4→q[i]? = t[j]?→mt t q i j=true:=fun {i j} h e=>by
  have:q[i]? = some q[i]:=YM (by exact Nj hq h);exact j6.mpr (aF _ this (e▸this))
 rcases B.it with _ | ⟨i,j,hp,hf⟩
 ·refine ⟨Int.le_refl _,Int.le_refl _,Int.le_refl _,by simp,by simp,fun h=>absurd h (by simp),fun χ χ e=>?_⟩;have e':q[0]? = t[0]?:=e;have:=A 0 0;rw [lF,YH (pL (by decide) e')] at this;simp [cs] at this
 ·have l:=wS (t:=t) (q:=q) (i+1) (j+1);have hm:mt t q i j=true:=by
   rw [lF] at hp;exact Classical.byContradiction fun z=>by rw [Yz z] at hp;exact UT hp
  have n_:=wo hm;have ho:=va (t:=t) (q:=q) (i+1) (j+1) _ (YE _);generalize hk:cs t q (i+1) (j+1)=k at*;refine ⟨by simp only;exact Ng l.1,by simp only;exact Ng l.2,by simp only;exact HS,by simp only;exact Tk hq n_.1,by simp only;exact Tx n_.2,fun h1 h2 e=>?_,fun h1 h2 e=>?_⟩
  ·simp only at h1 h2 e;rw [show ((i:Int)-k+1-1).toNat=i-k by exact ND,show ((j:Int)-k+1-1).toNat=j-k by exact ND] at e;have:xJ t q (i-k) (j-k) (k+1):=fun m hm=>by
    cases m with
    | zero=>exact pL (by exact Tj hq n_.1) e
    | succ m=>
     have:=ho m (by exact RW hm);rw [show i+1-k+m=i-k+(m+1) by exact Oc h1,show j+1-k+m=j-k+(m+1) by exact Oc h2] at this;exact this
   have:=fq (k+1) this;rw [show i-k+(k+1)=i+1 by exact Nt h1,show j-k+(k+1)=j+1 by exact Nt h2,hk] at this;exact QN this
  ·simp only at h1 h2 e;rw [show ((i:Int)-k+1+k).toNat=i+1 by exact N4,show ((j:Int)-k+1+k).toNat=j+1 by exact N4] at e;have:=A (i+1) (j+1);rw [lF,YH (pL (by exact R8 h1) e),hk] at this;simp only at this;exact Rq this
theorem nO {a k i:Nat}(h:a+k≤q.length):StrLaws.At (sl t) (sl ((q.drop a).take k)) (sl t).length i↔(i+k≤t.length∧xJ t q a i k):=by
 have lk:((q.drop a).take k).length=k:=rv List.length_take (rv List.length_drop (TF h));have e1:Builtin.Str.subAt (sl t) (sl ((q.drop a).take k)) i=((t.drop i).take k==(q.drop a).take k):=by
  unfold Builtin.Str.subAt;refine rv (bk _) (rv lk ?_);have:(sl t).cps.extract i (i+k)=((t.drop i).take k).toArray:=by
   simp [sl,List.extract_toArray,List.extract_eq_take_drop]
  refine rv this ?_;exact Bool.eq_iff_iff.mpr ⟨fun h=>by rw [YK] at h ⊢;exact congrArg Array.toList h,fun h=>by rw [YK] at h ⊢;refine rv h ?_;rfl⟩
 unfold StrLaws.At;refine rv e1 (rv (bk _) (rv (bk _) (rv lk (rv (propext (YK)) ?_))));refine and_congr_right fun hi=>⟨fun e m hm=>j6.mpr ?_,fun ho=>List.ext_getElem? fun m=>?_⟩
 ·have e2:=congrArg (·[m]?) e;simp only [List.getElem?_take,hm,if_true,List.getElem?_drop] at e2;have e3:q[a+m]? = some q[a+m]:=YM (S8 h hm);exact aF _ e3 (e2.trans e3)
 ·by_cases hm:m<k
  ·refine az (fun c h1 h2=>?_) (j6.mp (ho m hm));simp only [List.getElem?_take,hm,if_true,List.getElem?_drop];exact rv h1 (rv h2 rfl)
  ·simp only [List.getElem?_take,hm,if_false]
theorem p5 {a b k:Nat}(hk:1≤k)(h:xJ t q a b k):a+k≤q.length∧b+k≤t.length:=by
 have:=wo (h (k-1) (Qa hk));exact Tf this.1 this.2
theorem mZ {a k:Nat}(hk:1≤k)(h:a+k≤q.length):XI t (dI q a k)=true↔∃ b,xJ t q a b k:=by
 have ep:dI q (a:Int) (k:Int)=(q.drop a).take k:=by unfold dI;exact rv (YQ _) (rv (YQ _) rfl)
 unfold XI;refine rv ep ?_;rcases StrLaws.occ_head (sl t) (sl ((q.drop a).take k)) 1 (YE 1) with ⟨h0,hn⟩ | ⟨i,r,h0,hi,hn⟩
 ·refine rv h0 ?_;refine ⟨fun h=>by simp at h,fun ⟨b,ho⟩=>absurd ((nO h).mpr ⟨(p5 hk ho).2,ho⟩) (hn b)⟩
 ·refine rv h0 ?_;exact ⟨fun χ=>⟨i,((nO h).mp hi).2⟩,fun χ=>rfl⟩
theorem X9 {a k b:Nat}(hk:1≤k)(ho:xJ t q a b k)(hl:∀ b',b'<b→¬ xJ t q a b' k):Txt.find (sl t) (sl (dI q a k))=b:=by
 have ep:dI q (a:Int) (k:Int)=(q.drop a).take k:=by unfold dI;exact rv (YQ _) (rv (YQ _) rfl)
 have hb:=p5 hk ho;refine rv ep ?_;rcases find_whole (sl t) (sl ((q.drop a).take k)) with ⟨h0,hn⟩ | ⟨i,h0,hi,hn⟩
 ·exact absurd ((nO hb.1).mpr ⟨hb.2,ho⟩) (hn b)
 ·refine rv h0 ?_;have h1:¬ i<b:=fun z=>hl i z ((nO hb.1).mp hi).2;have h2:¬ b<i:=fun z=>hn b z ((nO hb.1).mpr ⟨hb.2,ho⟩);exact Ry h1 h2
theorem x8 (hq:q.length=4){k:Nat}(hk:1≤k)(Kz:k≤4)(h:∀ a b,¬ xJ t q a b k):Xh t q k=[]:=by
 unfold Xh;refine rv (propext (List.map_eq_nil_iff)) (rv (propext (List.filter_eq_nil_iff)) ?_);intro x hx;have sP:=b9.mp hx;obtain ⟨a,rfl⟩:=YW sP.1;refine rv (propext (mZ hk (Tl hq sP.2))) ?_;exact fun ⟨b,ho⟩=>h a b ho
theorem AT (hq:q.length=4){a b k:Nat}(hk:1≤k)(Kz:k≤4)(ho:xJ t q a b k)(hl:∀ b',b'<b→¬ xJ t q a b' k)(ha:∀ a',a'<a→∀ b',¬ xJ t q a' b' k):(Xh t q k).head? = some [(a:Int),b,k]:=by
 have hb:=p5 hk ho;unfold Xh;have e:Xf (5-(k:Int)).toNat=Xf a++(a:Int)::((List.range (4-k-a)).map fun x=>((a+1+x:Nat):Int)):=by
  unfold Xf;refine rv (show (5-(k:Int)).toNat=(a+1)+(4-k-a) by exact Tm hq hb.1) (rv List.range_add (rv List.range_succ (rv List.map_append (rv List.map_append (rv List.map_map ?_)))));simp
 have e0:(Xf a).filter (fun x=>XI t (dI q x k))=[]:=List.filter_eq_nil_iff.mpr fun x hx=>by
  have sP:=b9.mp hx;obtain ⟨a',rfl⟩:=YW sP.1;refine rv (propext (mZ hk (by exact S9 hb.1 sP.2))) ?_;exact fun ⟨b',Mf⟩=>ha a' (by exact Sr sP.2) b' Mf
 exact rv e (rv (List.filter_append _ _) (rv e0 (rv (List.nil_append _) (rv (List.filter_cons_of_pos (p:=fun x=>XI t (dI q x k)) ((mZ hk hb.1).mpr ⟨b,ho⟩)) (rv List.map_cons (rv (List.head?_cons) (rv (X9 hk ho hl) rfl)))))))
@[elab_as_elim]
theorem Yl {motive:Nat→Prop}(h1:motive 1)(h2:motive 2)(h3:motive 3)(h4:motive 4){k:Nat}(a:1≤k)(b:k≤4):motive k:=by
 obtain rfl | rfl | rfl | rfl:k=1∨k=2∨k=3∨k=4:=by lia -abstractProof
 all_goals assumption
theorem CN (hq:q.length=4):ft t q=[(pA t q).1,(pA t q).2.1,(pA t q).2.2]:=by
 have B:=s4 (t:=t) hq;have A:=qU (t:=t) hq;have O:=@FK t q hq;generalize pA t q=b at A B O;have nil:∀ k:Nat,1≤k→k≤4→(b.2.2<k)→Xh t q k=[]:=fun k h1 h2 h3=>x8 hq h1 h2 fun a c ho=>by have:=O ho;exact TY h3 this
 unfold ft;rcases B.it with _ | ⟨i,j,hp,hf⟩
 ·have n1:=nil 1 (by decide) (by decide) (by simp);have n2:=nil 2 (by decide) (by decide) (by simp);have n3:=nil 3 (by decide) (by decide) (by simp);have n4:=nil 4 (by decide) (by decide) (by simp);simp only [List.findSome?_cons,List.findSome?_nil];refine rv (show Xh t q 4=[] from n4) (rv (show Xh t q 3=[] from n3) (rv (show Xh t q 2=[] from n2) (rv (show Xh t q 1=[] from n1) ?_)));rfl
 ·have l:=wS (t:=t) (q:=q) (i+1) (j+1);have ho:=va (t:=t) (q:=q) (i+1) (j+1) _ (YE _);generalize hk:cs t q (i+1) (j+1)=k at*;have hb:=p5 hp ho;have hh:=AT hq hp (by exact Nb hq hb.1) ho (fun b' h1 h2=>by
    have h3:=fq k h2;have:=hf i (b'+k-1) (.inr ⟨rfl,by exact Ob hp h1⟩);rw [show i+1-k+k=i+1 by exact Ra l.1] at h3;rw [show b'+k-1+1=b'+k by exact KT hp] at this;exact N3 h3 this) fun a' h1 b' h2=>by
    have h3:=fq k h2;have:=hf (a'+k-1) (b'+k-1) (.inl (by exact Ob hp h1));rw [show b'+k-1+1=b'+k by exact KT hp,show a'+k-1+1=a'+k by exact KT hp] at this;exact N3 h3 this
  have ei:((i+1-k:Nat):Int)=(i:Int)-k+1:=by exact Nh l.1
  have ej:((j+1-k:Nat):Int)=(j:Int)-k+1:=by exact Nh l.2
  rw [ei,ej] at hh;simp only [List.findSome?_cons,List.findSome?_nil];simp only at nil;have h4:k≤4:=by exact Nb hq hb.1
  revert nil hh;refine Yl ?_ ?_ ?_ ?_ hp h4<;>intro nil hh
  ·exact rv (show Xh t q 4=[] from nil 4 (by decide) (by decide) (by decide)) (rv (show Xh t q 3=[] from nil 3 (by decide) (by decide) (by decide)) (rv (show Xh t q 2=[] from nil 2 (by decide) (by decide) (by decide)) (rv (show (Xh t q 1).head? = _ from hh) rfl)))
  ·exact rv (show Xh t q 4=[] from nil 4 (by decide) (by decide) (by decide)) (rv (show Xh t q 3=[] from nil 3 (by decide) (by decide) (by decide)) (rv (show (Xh t q 2).head? = _ from hh) rfl))
  ·exact rv (show Xh t q 4=[] from nil 4 (by decide) (by decide) (by decide)) (rv (show (Xh t q 3).head? = _ from hh) rfl)
  ·exact rv (show (Xh t q 4).head? = _ from hh) rfl
noncomputable abbrev u8 (n:Int):UInt8:=n.toNat.toUInt8
theorem uf {x:Int}(h0:0≤x)(h1:x<256):(u8 x).toNat=x.toNat:=by
 unfold u8;rw [Nat.toUInt8,UInt8.toNat_ofNat'];exact Nat.mod_eq_of_lt (Us h1)
theorem pG {x:Int}(h0:0≤x)(h1:x<256):((u8 x).toNat:Int)=x:=by
 exact rv (uf h0 h1) (Hs h0)
theorem GZ (m:Nat):Xn (m+3)=(Xn m).map (·+3)++[2,1,0]:=by
 unfold Xn;refine rv List.range_succ (rv List.range_succ (rv List.range_succ (rv List.map_append (rv List.map_append (rv List.map_append (rv List.map_map (rv (List.append_assoc _ _ _) (rv (List.append_assoc _ _ _) ?_))))))));congr 1
 ·exact YL fun i χ=>by simp only [Function.comp];exact R9
 ·simp only [List.map_cons,List.map_nil,List.cons_append,List.nil_append];congr 1
  ·exact Rr
  ·congr 1
   ·exact Rt
   ·congr 1;exact Rs
theorem Gf (l:List Int)(a b c d:Int):iv (l++[a,b,c,d])=(((iv l*64+a)*64+b)*64+c)*64+d:=by
 unfold iv;refine rv YY ?_;rfl
theorem VV {X r:Int}(h:0≤r∧r<4096):(X*4096+r)/65536=X/16:=by
 exact rv (show (65536:Int)=4096*16 from rfl) (rv (Int.ediv_ediv_of_nonneg (by decide)).symm (rv (yg h) rfl))
theorem LO {X r:Int}(h:0≤r∧r<64):(X*64+r)/256=X/4:=by
 exact rv (show (256:Int)=64*4 from rfl) (rv (Int.ediv_ediv_of_nonneg (by decide)).symm (rv (yg h) rfl))
theorem sp {X q r k:Int}:X*k+(q*k+r)=(X+q)*k+r:=rv (Int.add_mul _ _ _) (rv (Int.add_assoc _ _ _) rfl)
theorem U_ {Y a b:Int}(ha:0≤a∧a<64)(hb:0≤b∧b<64):(Y*4096+(a*64+b))/16%256=a*4+b/16:=by
 have e:Y*4096+(a*64+b)=(Y*256+(a*4+b/16))*16+b%16:=by
  refine rv (Int.add_mul _ _ _) (rv (Int.add_mul _ _ _) (rv (Int.mul_assoc _ _ _) (rv (Int.mul_assoc _ _ _) (rv (Int.add_assoc _ _ _) (rv (Int.add_assoc _ _ _) (rv (Int.ediv_mul_add_emod _ _) ?_))))));rfl
 exact rv e (rv (yg (mv b (by decide))) (rv (CO (rg (c:=256) ha (dv (m:=4) (by decide) hb rfl) rfl)) rfl))
theorem U9 {Y b c:Int}(hc:0≤c∧c<64):(Y*64*64+(b*64+c))/4%256=b%16*16+c/4:=by
 have e:Y*64*64+(b*64+c)=((Y*4+b/16)*256+(b%16*16+c/4))*4+c%4:=by
  have h1:=Int.ediv_mul_add_emod b 16;have h2:=Int.ediv_mul_add_emod c 4;generalize b/16=q at*;generalize c/4=p at*;generalize b%16=r at*;generalize c%4=s at*;exact US h1 h2
 exact rv e (rv (yg (mv c (by decide))) (rv (CO (rg (c:=256) (A:=b%16) (B:=c/4) (m:=16) (n:=16) (mv b (by decide)) (dv (by decide) hc rfl) rfl)) rfl))
theorem U8 {Y c d:Int}(hd:0≤d∧d<64):((Y*64+c)*64+d)/1%256=c%4*64+d:=by
 have e:(Y*64+c)*64+d=(Y*16+c/4)*256+(c%4*64+d):=by
  have h1:=Int.ediv_mul_add_emod c 4;generalize c/4=q at*;generalize c%4=r at*;exact UO h1
 exact rv (Int.ediv_one _) (rv e (rv (CO (rg (c:=256) (A:=c%4) (B:=d) (m:=4) (n:=64) (mv c (by decide)) hd rfl)) rfl))
theorem wi {l:List Int}(hl:l.length%4=0){a b c d:Int}(ha:0≤a∧a<64)(hb:0≤b∧b<64)(hc:0≤c∧c<64)(hd:0≤d∧d<64):a8 (l++[a,b,c,d])=a8 l++[a*4+b/16,b%16*16+c/4,c%4*64+d]:=by
 have hn:(l++[a,b,c,d]).length/4*3=l.length/4*3+3:=by
  exact rv List.length_append (rv (show l.length+[a,b,c,d].length=l.length+4 from rfl) (rv (Nat.add_div_right _ (by decide)) (rv (Nat.succ_mul _ _) rfl)))
 unfold a8;refine rv (Gf _ _ _ _ _) (rv hn (rv (GZ _) (rv List.map_append (rv List.map_map ?_))));generalize iv l=J;congr 1
 ·refine YL fun i hi=>?_;have iP:=(j9.mp hi).1;simp only [Function.comp];have e:(i+3).toNat=3+i.toNat:=UF iP;have e3:(256:Int)^3=64*64*64*64:=by decide
  exact rv e (rv (Int.pow_add _ _ _) (rv (Int.ediv_ediv_of_nonneg (by decide)).symm (rv e3 (rv (Int.ediv_ediv_of_nonneg (by decide)).symm (rv (Int.ediv_ediv_of_nonneg (by decide)).symm (rv (Int.ediv_ediv_of_nonneg (by decide)).symm (rv (yg hd) (rv (yg hc) (rv (yg hb) (rv (yg ha) rfl))))))))))
 ·have e1:((((J*64+a)*64+b)*64+c)*64+d)=((J*64+a)*64+b)*4096+(c*64+d):=by exact UP
  have e2:(J*64+a)*64+b=J*4096+(a*64+b):=UL;have q1:((((J*64+a)*64+b)*64+c)*64+d)/(256:Int)^(2:Int).toNat%256=a*4+b/16:=by
   exact rv (show (256:Int)^(2:Int).toNat=65536 from by decide) (rv e1 (rv (VV (Ua hc.1 hc.2 hd.1 hd.2)) (rv e2 (U_ ha hb))))
  have q2:((((J*64+a)*64+b)*64+c)*64+d)/(256:Int)^(1:Int).toNat%256=b%16*16+c/4:=by
   exact rv (show (256:Int)^(1:Int).toNat=256 from by decide) (rv (LO hd) (rv (show ((J*64+a)*64+b)*64+c=(J*64+a)*64*64+(b*64+c) by exact UN) (U9 hc)))
  have q3:((((J*64+a)*64+b)*64+c)*64+d)/(256:Int)^(0:Int).toNat%256=c%4*64+d:=by
   exact rv (show (256:Int)^(0:Int).toNat=1 from by decide) (U8 hd)
  exact rv List.map_cons (rv List.map_cons (rv List.map_cons (rv List.map_nil (rv q1 (rv q2 (rv q3 rfl))))))
theorem Ye {motive:List Int→Prop}(h0:motive [])(h1:∀ l a b c d,l.length%4=0→motive l→motive (l++[a,b,c,d]))(n:Nat):∀ l:List Int,l.length=4*n→motive l:=by
 induction n with
 | zero=>exact fun l h=>rv (List.length_eq_zero_iff.mp h) h0
 | succ n ih=>
  intro l h;have h4:(l.drop (4*n)).length=4:=rv List.length_drop (RL h);refine KJ (fun a b c d q=>?_) (CT h4);refine rv (List.take_append_drop (4*n) l).symm (rv q ?_);have ht:(l.take (4*n)).length=4*n:=rv List.length_take (RK h);exact h1 _ a b c d (rv ht QQ) (ih _ ht)
theorem zi {l:List Int}{n:Nat}(hl:l.length=4*n)(hr:∀ x∈l,0≤x∧x<64):fH l=⟨0,0,a8 l⟩:=by
 refine Ye (motive:=fun l=>(∀ x∈l,0≤x∧x<64)→fH l=⟨0,0,a8 l⟩) (fun χ=>rfl) (fun l a b c d h4 ih hr=>?_) n l hl hr;have h:=fun x hx=>hr x (Yn _ hx);refine rv (wi h4 (h a (by simp)) (h b (by simp)) (h c (by simp)) (h d (by simp))) ?_;have ih:=ih fun x hx=>hr x (Yp _ hx);unfold fH at ih ⊢;refine rv YY (rv ih ?_);have e1:cY ⟨0,0,a8 l⟩ a=⟨1,a,a8 l⟩:=rfl;have e2:cY ⟨1,a,a8 l⟩ b=⟨2,b%16,a8 l++[a*4+b/16]⟩:=rfl;have e3:cY ⟨2,b%16,a8 l++[a*4+b/16]⟩ c=⟨3,c%4,a8 l++[a*4+b/16]++[b%16*16+c/4]⟩:=rfl;have e4:cY ⟨3,c%4,a8 l++[a*4+b/16]++[b%16*16+c/4]⟩ d=⟨0,0,a8 l++[a*4+b/16]++[b%16*16+c/4]++[c%4*64+d]⟩:=rfl;refine rv List.foldl_cons (rv List.foldl_cons (rv List.foldl_cons (rv List.foldl_cons (rv List.foldl_nil (rv e1 (rv e2 (rv e3 (rv e4 (rv (List.append_assoc _ _ _) (rv (List.append_assoc _ _ _) ?_))))))))));rfl
theorem U4 {w x y:Int}(hx:0≤x∧x<64)(hy:0≤y∧y<64):(w*4+x/16)%4*16+(x%16*16+y/4)/16=x:=by
 exact rv (CO (dv (by decide) hx rfl)) (rv (yg (dv (by decide) hy rfl)) (rv (Int.ediv_mul_add_emod _ _) rfl))
theorem U3 {x y z:Int}(hy:0≤y∧y<64)(hz:0≤z∧z<64):(x%16*16+y/4)%16*4+(y%4*64+z)/64=y:=by
 exact rv (CO (dv (by decide) hy rfl)) (rv (yg hz) (rv (Int.ediv_mul_add_emod _ _) rfl))
theorem ML {f:List Int}(hl:f.length=4)(hr:∀ x∈f,0≤x∧x<64){a b c:Int}(h:a8 f=[a,b,c]):
  (0≤a∧a<256)∧(0≤b∧b<256)∧(0≤c∧c<256)∧[a/4,a%4*16+b/16,b%16*4+c/64,c%64]=f:=by
 refine KJ (fun w x y z e'=>?_) (CT hl);subst e';have hw:=hr w (by simp);have hx:=hr x (by simp);have hy:=hr y (by simp);have hz:=hr z (by simp);have e:=wi (l:=[]) rfl hw hx hy hz;rw [List.nil_append,h] at e;have e0:a8 []=[]:=rfl;rw [e0,List.nil_append] at e;obtain ⟨q1,e1⟩:=List.cons.inj e;obtain ⟨q2,e2⟩:=List.cons.inj e1;obtain ⟨q3,_⟩:=List.cons.inj e2;clear e e1 e2 h;subst q1 q2 q3;refine ⟨rg (A:=w) (B:=x/16) (m:=64) (n:=4) hw (dv (by decide) hx rfl) rfl,rg (A:=x%16) (B:=y/4) (m:=16) (n:=16) (mv x (by decide)) (dv (by decide) hy rfl) rfl,rg (A:=y%4) (B:=z) (m:=4) (n:=64) (mv y (by decide)) hz rfl,?_⟩;exact rv (yg (dv (by decide) hx rfl)) (rv (U4 hx hy) (rv (U3 hy hz) (rv (CO hz) rfl)))
theorem G3:∀ x∈Xf 64,bb (cz x)=x∧(cz x).toNat≠61:=by decide+kernel
noncomputable def sg (x:Int):Nat:=(cz x).toNat
theorem H' (x:Int):sg x<128:=by have:=hY x;unfold sg;exact Oj this.2
theorem pN {x:Int}(h:0≤x∧x<64):bb (sg x:Int)=x∧sg x≠61:=by
 obtain ⟨h1,h2⟩:=G3 x (b9.mpr h);refine ⟨?_,h2⟩;refine rv (show (sg x:Int)=cz x by have:=hY x;unfold sg;exact Hs this.1) ?_;exact h1
theorem Fi {x y:Int}(hx:0≤x∧x<64)(hy:0≤y∧y<64)(e:sg x=sg y):x=y:=by
 exact rv ((pN hx).1).symm (rv ((pN hy).1).symm (rv e rfl))
theorem oG {ns:List Int}(h:∀ n∈ns,0≤n∧n<256):KBw.bInts (byteArr ns)=ns:=by
 have e:KBw.bInts (byteArr ns)=ns.map fun n=>((u8 n).toNat:Int):=by
  unfold KBw.bInts byteArr;simp
 refine rv e ?_;exact (YL fun n hn=>pG (h n hn).1 (h n hn).2).trans (List.map_id ns)
noncomputable def fG:Str:="ABCDEFGHIJKLMNOPQRSTUVWXYZabcdefghijklmnopqrstuvwxyz0123456789+/"
theorem XO:∀ x∈Xf 64,fG.cps[x.toNat]? = some (sg x):=by decide+kernel
theorem oR {x:Int}(h:0≤x∧x<64):(seqIndex? x fG.length).bind (fG.cps[·]?)=some (sg x):=by
 have e:fG=sl fG.cps.toList:=rfl;refine rv e ?_;refine cO h.1 ?_;have:=XO x (b9.mpr h);refine rv (Array.getElem?_toList) ?_;exact this
theorem wE (fs:List Int):Txt.join ⟨#[]⟩ (fs.map fun x=>(⟨#[sg x]⟩:Str))=sl (fs.map sg):=by
 unfold Txt.join;refine rv (StrLaws.glued_eq_join _ _) ?_;have:=join_ones (fs.map sg);rw [List.map_map] at this;exact this
noncomputable def XJ (ns:List Int):Int:=(ns.take 8).sum+62
noncomputable def DH (ns:List Int)(k:Int):Bool:=([0,8,9,10,13,15]:List Int).contains k != ((((ns.take 8).filter fun x=>x%16==k).length:Int)%2==1)
noncomputable def tG (ns:List Int):List Int:=(Xf 16).filter (DH ns)
noncomputable def pk (pa:List Int)(b:Int):Int:=(pa[b.toNat]?).getD 0
noncomputable def bN (pa:List Int)(k:Int):List Int:=(bv k 4).map (pk pa)
noncomputable def oZ (f:List Int):Str:=sl (f.map sg)
noncomputable abbrev wL (pa:List Int)(b:Int):Nat:=sg (pk pa b)
theorem oY (pa:List Int)(k:Int):oZ (bN pa k)=sl (qd (wL pa) k):=by
 unfold oZ bN qd;refine rv List.map_map ?_;rfl
theorem v8 {pa:List Int}(g0:pa.length=2)(Aq:∀ x∈pa,0≤x∧x<64){b:Int}(hb:b=0∨b=1):0≤pk pa b∧pk pa b<64:=by
 refine jE (fun x y e=>?_) (ka g0);subst e;rcases hb with rfl | rfl
 ·exact Aq x (by simp)
 ·exact Aq y (by simp)
theorem zu {pa:List Int}(g0:pa.length=2){b:Int}(hb:b=0∨b=1):(pa.map D.int)[b.toNat]? = some (.int (pk pa b)):=by
 refine jE (fun x y e=>?_) (ka g0);subst e;rcases hb with rfl | rfl<;>rfl
theorem AY {pa:List Int}(g0:pa.length=2)(Aq:∀ x∈pa,0≤x∧x<64)(k:Int):∀ x∈bN pa k,0≤x∧x<64:=fun x hx=>by
 refine az (fun b hb e_1=>?_) (Yt.mp hx);subst e_1;exact v8 g0 Aq (gL _ _ b hb)
noncomputable def Xx (pa bar:List Int):List Int:=(gr bar ((bT bar 9).filter fun l=>!l.isEmpty)).map (pk pa)
theorem xD (bar:List Int)(full:List (List Int)):∀ x∈gr bar full,x=0∨x=1:=fun x hx=>by
 unfold gr at hx;rcases Yr.mp hx with hx | hx
 ·exact gL _ _ x hx
 ·refine az (fun y χ e_2=>?_) (Yt.mp hx);subst e_2;exact K4
theorem zx (bar:List Int){full:List (List Int)}(h:full.length≤9):(gr bar full).length≤11:=by
 unfold gr;have h1:=l8 bar full.dropLast.reverse [(full.getLast?.getD []).headD 0];have e:k6 bar full=full.dropLast.reverse.foldl (fun p l=>fm bar l p) [(full.getLast?.getD []).headD 0]:=rfl;rw [← e] at h1;simp only [List.length_reverse,List.length_dropLast,List.length_cons,List.length_nil] at h1;rw [List.length_append,List.length_map,List.length_tail];have:(bv ((k6 bar full).headD 0) 3).length=3:=by unfold bv;exact rv (List.length_map _) (rv (aA _) rfl)
 exact Sf h h1 this
theorem AP (bar:List Int):((bT bar 9).filter fun l=>!l.isEmpty).length≤9:=Ys (Y1 ..) (by unfold bT;refine rv (List.length_map _) (rv List.length_range ?_);decide)
theorem X5 {α β:Type}(l:List α)(us:List β)(i:Nat)(x:α)(e:l.length=us.length)(h:l[i]? = some x):∃ u,(l.zip us)[i]? = some (x,u):=by
 have hi:=(YD.mp h).1;refine ⟨us[i]'(rv e.symm hi),?_⟩;rw [List.getElem?_zip_eq_some];exact ⟨h,YM _⟩
theorem GV:∀ qs:List Qt,EM (qs.map qD)=(qs.map (fun x=>x.1)).map fN:=by
 intro qs
 induction qs with
 | nil=>exact rfl
 | cons x qs ih=>
  show HM (qD x)::EM (qs.map qD)=_;refine rv (ih) ?_;rfl
theorem zD (n:Nat)(l:List Int):qZ (n+1) (dL l)=true:=ny (fun χ=>by cases n<;>rfl) l
theorem wb (n:Nat)(l:List (List Int)):qZ (n+2) (.list (l.map dL))=true:=ny (zD n) l
theorem Cq (n:Nat)(l:List (List Nat)):qZ (n+1) (.list (l.map fN))=true:=ny (fun χ=>by cases n<;>rfl) l
theorem Cm:∀ f:List Int,((f.map fun x=>(⟨#[sg x]⟩:Str)).map (fun x=>x.length)).sum=f.length:=by
 intro f
 induction f with
 | nil=>exact rfl
 | cons x f ih=>
  rw [List.map_cons,List.map_cons,List.sum_cons,ih,List.length_cons];exact Nat.add_comm 1 _
theorem sL {f:List Int}(h:f.length≤1000)(x:Str)(hx:x.length=0):((f.map fun x=>(⟨#[sg x]⟩:Str)).map (fun x=>x.length)).sum+(f.map fun x=>(⟨#[sg x]⟩:Str)).length*x.length≤16777216:=by
 exact rv (Cm _) (rv hx (Q9 h))
theorem vT (f:List Int):i9 (f.map fun x=>D.str ⟨#[sg x]⟩)=some (f.map fun x=>⟨#[sg x]⟩):=by
 have:=xi (f.map fun x=>(⟨#[sg x]⟩:Str));rw [List.map_map] at this;exact this
end
section
variable {O:U}(HK:O.K=hd.heap_1 O.w.params)
include HK
theorem z5 (n:Nat)(pa bar:List Int)(us:List Nat)(k:Fl→aO→Sg→Prop)(hk:∀ ρ,k (.ret (.bool true)) ρ .nil)(g0:pa.length=2)(Aq:∀ x∈pa,0≤x∧x<64)(gi:pk pa 0≠pk pa 1)(GM:bar.length≤16)(hb:∀ x∈bar,x∈Xf 16)(hu:us.length=16)(GN:us.Pairwise (· < ·))(OJ:∀ u∈us,u≠0∧u<O.t0):
  EX O ⟨n+11,⟨true,true⟩⟩ mH.1 [("quads",.list ((((Xf 16).map (qd (wL pa))).zip us).map qD)),("layers",.list ((bT bar 9).map dL)),("figures",.list (((Xf 16).map (bN pa)).map dL)),("barred",dL bar),("pair",dL pa),("signs",.str fG)] .nil (nN.1.drop 5) k:=by
 dsimp only [mH,nN,List.drop];have hw:wL pa 0≠wL pa 1:=fun e=>gi (Fi (v8 g0 Aq (.inl rfl)) (v8 g0 Aq (.inr rfl)) e);have qn:∀ i:Nat,i<9→((bT bar 9).map dL)[i]? = some (dL (cI bar i)):=fun i hi=>by
  unfold bT;refine rv (Y2) (rv (Y2) (rv (List.getElem?_range hi) ?_));rfl
 have qm:((bT bar 9).map dL).length<2^62:=by unfold bT;refine rv (List.length_map _) (rv (List.length_map _) (rv List.length_range ?_));decide
 refine ac (cw D.int cX (fun χ=>rfl) rfl rfl rfl ?_);refine cE rfl (cu HK) rfl rfl rfl ?_;refine ae rfl (af (ak (cq (sK (eT ?_ ?_ ?_)))));refine ⟨Xf 8,rfl,bI.all (fun k=>dL (yE bar k.toNat)) (by decide) (fun j hj=>?_) ?_⟩
 ·have Dg:=b9.mp hj;refine bz D.int cX (fun χ=>rfl) rfl rfl ?_;refine cE rfl (cu HK) rfl rfl rfl ?_;refine ae rfl (af (ak (cq (sK (eT ?_ ?_ ?_)))));refine ⟨Xf 8,rfl,bI.cond (fun t=>(cI bar j.toNat).contains t&&!(cI bar (j.toNat+1)).contains t) .int (by decide) (fun t ht=>?_) (fun t ht χ=>aa rfl rfl rfl) rfl⟩
  ·refine bO (bD (aC rfl (aa rfl (aX rfl (aa rfl (aa rfl (cy ?_ (cx Dg.1 (qn j.toNat (by exact Ut Dg.2))) qm) rfl) rfl)) rfl)));refine Ad ?_ rfl (fv t _);refine ⟨fun hc=>?_,fun hc=>?_⟩
   ·refine rv hc (rv (Bool.true_and _) ?_);refine bD (aC rfl (aa rfl (aX rfl (aa rfl (ap (aa rfl (af (bm (cy ?_ (cx (by exact K3 Dg.1) (by exact rv (show (j+1).toNat=j.toNat+1 by exact UG Dg.1) (qn (j.toNat+1) (by exact Uu Dg.2)))) qm))) rfl)) rfl)) rfl));refine qu ?_ rfl (fv t _);refine ⟨fun h'=>fZ ?_,fun h'=>?_⟩
    ·exact rv h' rfl
    ·exact rv h' rfl
   ·refine rv hc ?_;rfl
  all_goals decide
 ·have eg:(Xf 8).map (fun k=>dL (yE bar k.toNat))=((List.range 8).map (yE bar)).map dL:=by
   unfold Xf;rw [List.map_map,List.map_map];rfl
  refine rv eg ?_;have fl:∀ f∈(Xf 16).map (bN pa),f.length=4∧∀ x∈f,0≤x∧x<64:=fun f hf=>by
   refine az (fun j χ e_3=>?_) (Yt.mp hf);subst e_3;exact ⟨by unfold bN bv;exact rv (List.length_map _) (rv (List.length_map _) (rv (aA _) rfl)),AY g0 Aq j⟩
  refine ac (ah rfl rfl (.pure (bM (ae rfl (bz dL H1 ue rfl rfl (aa rfl (br ⟨(Xf 16).map (bN pa),rfl,bI.all (fun f=>.str (oZ f)) (by simp only [List.length_map,List.length_append,List.length_cons,List.length_nil,aJ,aA,Yy];lia -abstractProof) (fun f hf=>?_) ?_⟩) rfl))))))
  ·obtain ⟨f4,fr⟩:=fl f hf;refine D3 "str.join" "str" wq (by decide) rfl rfl (by decide) rfl (b_ ⟨rfl,ae rfl (bz D.int cX (fun χ=>rfl) rfl rfl (aa rfl (br ⟨f,rfl,bI.all (fun x=>.str ⟨#[sg x]⟩) (by refine rv f4 (rv Yy ?_);decide) (fun x hx=>aX rfl (aa rfl (aa rfl (dp rfl (oR (fr x hx)) ?_) rfl) rfl)) (ak (wC (ys:=f.map fun x=>⟨#[sg x]⟩) ?_ ?_ ?_))⟩) rfl))⟩)
   ·have:=fr x hx;simp;exact Ol this.1 this.2
   ·exact congrArg D.str (wE f)
   ·exact vT f
   ·exact sL (by exact QE f4) _ rfl
  ·refine ae rfl (n0 rfl (aX rfl (aa rfl (af (cy ?_ (cx (by decide) (qn 8 (by decide))) qm)) rfl)));refine bM (ak ⟨Nat.zero_le _,kj ?_ (jB _ _)⟩);have gl:∀ l∈(List.range 8).map (yE bar),l.length≤8:=fun l hl=>by
    refine az (fun j χ e_4=>?_) (Yt.mp hl);subst e_4;exact Ys (Y1 ..) (by exact rv (aJ _) (YE _))
   refine ae rfl (bz dL H1 ue rfl rfl (aa rfl (br ⟨(List.range 8).map (yE bar),rfl,bI.cond (fun l=>!l.isEmpty) dL (by (simp only [List.length_map,List.length_append,List.length_cons,List.length_nil,Yy];decide)) (fun l hl=>?_) (fun l hl χ=>aa rfl rfl rfl) ?_⟩) rfl))
   ·refine aC rfl (aa rfl (bM (ak ⟨Nat.zero_le _,kj ?_ (jB _ _)⟩)) rfl);exact rv List.isEmpty_map rfl
   ·have eq1:((Xf 16).map (bN pa)).map (fun f=>D.str (oZ f))=((Xf 16).map (qd (wL pa))).map fN:=by
     refine rv List.map_map (rv List.map_map ?_);exact YL fun j χ=>congrArg D.str (oY pa j)
    refine rv eq1 ?_;refine db (fun R Wj MG O'=>?_) (uy hw hb);have Lq:=@Cd _ hw _ hb;have Ik:=@zj _ hw _ hb;have Gq:=B5 (q:=(Xf 16).map (qd (wL pa))) (b:=bar.map (qd (wL pa))) (i7 hw);generalize hG:((List.range 8).map (yE bar)).filter (fun l=>!l.isEmpty)=G at O' ⊢;have q4:∀ x∈(Xf 16).map (qd (wL pa)),x.length=4:=fun x hx=>by
     refine az (fun j χ e_5=>?_) (Yt.mp hx);subst e_5;unfold qd bv;exact rv (List.length_map _) (rv (List.length_map _) (rv (aA _) rfl))
    have Fy:((Xf 16).map (qd (wL pa))).length=16:=by exact rv (List.length_map _) (rv (aJ _) rfl)
    refine ak ⟨sz rfl,?_⟩;refine EX.le (ρ':=[("due",.list [.list (((Xf 16).map (qd (wL pa))).map fN),.bool (!((cI bar 8).map D.int).isEmpty),.list (G.map dL)]),("quads",.list ((((Xf 16).map (qd (wL pa))).zip us).map qD)),("layers",.list ((bT bar 9).map dL)),("barred",dL bar),("pair",dL pa),("signs",.str fG)]) (.cons rfl (.cons rfl (.cons rfl (.cons rfl (.cons rfl (.cons rfl .nil)))))) ?_;have Ip:∀ j∈Xf 16,∃ u,((((Xf 16).map (qd (wL pa))).zip us).map qD)[j.toNat]? = some (.ca (sl (qd (wL pa) j)) u):=fun j hj=>by
     obtain ⟨u,e⟩:=X5 ((Xf 16).map (qd (wL pa))) us j.toNat (qd (wL pa) j) (by exact rv Fy (rv hu rfl)) (by refine rv (Y2) (rv (vL hj) ?_);rfl);exact ⟨u,by refine rv (Y2) (rv e ?_);rfl⟩
    have Im:((((Xf 16).map (qd (wL pa))).zip us).map qD).length=16:=by refine rv (List.length_map _) (rv List.length_zip (rv Fy (rv hu ?_)));rfl
    have r9:(((Xf 16).map (qd (wL pa))).zip us).map (fun x=>x.1)=(Xf 16).map (qd (wL pa)):=List.map_fst_zip (by exact rv Fy (rv hu (YE _)));have En:(((Xf 16).map (qd (wL pa))).zip us).map (fun x=>x.2)=us:=List.map_snd_zip (by exact rv Fy (rv hu (YE _)));have Iq:HM (.list ((((Xf 16).map (qd (wL pa))).zip us).map qD))=.list (((Xf 16).map (qd (wL pa))).map fN):=(congrArg D.list (GV _)).trans (by exact rv r9 rfl);refine ac (bc (DV rfl (D_ (bM (ae rfl (w_ (aa rfl (ak ⟨sz rfl,?_⟩) rfl)))))));refine rv Iq ?_;refine D9 rfl (nc HK) (.of (o7 HK)) rfl rfl ?_;refine aw rfl (.pure (w_ (aa rfl ?_ rfl)));refine aw rfl (.pure (bz D.int cX (fun χ=>rfl) rfl rfl (aa rfl (br ⟨bar,rfl,bI.all (fun j=>fN (qd (wL pa) j)) (by exact rv Yy (NO GM)) (fun j hj=>?_) ?_⟩) rfl)))
    ·obtain ⟨u,e⟩:=Ip j (hb j hj);have Dg:=b9.mp (hb j hj);exact w_ (aX rfl (aa rfl (aa rfl (cy rfl (cx Dg.1 e) (by refine rv Im ?_;decide)) rfl) rfl))
    ·refine rv Iq ?_;refine rv (show bar.map (fun j=>fN (qd (wL pa) j))=(bar.map (qd (wL pa))).map fN by rw [List.map_map];rfl) ?_;refine aB (y_ HK (n+5) _ _ _ Fy q4 (by exact rv (List.length_map _) GM) Gq R (by exact PR Wj) MG fun ring h1 h2=>?_);refine rv O' ?_;have Jb:ring = !((cI bar 8).map D.int).isEmpty:=by
      refine rv List.isEmpty_map ?_;cases ring with
      | false=>
       refine az (fun fin f1 f2=>?_) (h1 rfl);refine rv (Lq f1 f2) ?_;rfl
      | true=>
       obtain ⟨x,hx⟩:=h2 rfl;have:=Ik hx;cases q:cI bar 8 with
       | nil=>exact absurd q this
       | cons a l=>rfl
     refine rv Jb ?_;refine lM (aa rfl (kj (c:=true) ?_ (nA ?_)) rfl) (by simp only [List.length_map,List.length_append,List.length_cons,List.length_nil,aJ,aA,Yy];lia -abstractProof)
     ·refine ⟨(fun h=>nomatch h),fun χ=>ao ?_⟩;have OT:=xD bar ((bT bar 9).filter fun l=>!l.isEmpty);have OQ:=zx bar (AP bar);have er:(gr bar ((bT bar 9).filter fun l=>!l.isEmpty)).map (fun b=>D.int (pk pa b))=(Xx pa bar).map D.int:=by unfold Xx;refine rv List.map_map ?_;rfl
      have rl:(Xx pa bar).length≤11:=by unfold Xx;exact rv (List.length_map _) OQ
      have ri:∀ x∈Xx pa bar,0≤x∧x<64:=fun x hx=>by
       refine az (fun b hb e_6=>?_) (Yt.mp hx);subst e_6;exact v8 g0 Aq (OT b hb)
      refine ac (cw D.int cX (fun χ=>rfl) rfl rfl rfl (d0 rfl (qL HK) (.of (wa HK)) rfl rfl (ae rfl (aa rfl (ae rfl (aa rfl (ak (CP.loud (Fk HK (n+9) bar (bT bar 9) GM ?_ ?_ ?_ _ (br ⟨_,rfl,bI.all (fun b=>.int (pk pa b)) (by exact rv Yy (K9 OQ)) (fun b hb=>?_) ?_⟩)))) rfl)) rfl))))
      ·unfold bT;refine rv (List.length_map _) (rv List.length_range ?_);decide
      ·intro l hl;refine az (fun j χ e_7=>?_) (Yt.mp hl);subst e_7;exact CU bar j
      ·intro z;have:=List.filter_eq_nil_iff.mp z (cI bar 0) (Yt.mpr (aF 0 (by decide) rfl));exact this rfl
      ·have HH:=OT b hb;exact aX rfl (aa rfl (aa rfl (cy rfl (cx (by exact Oo HH) (zu g0 HH)) (by refine rv (List.length_map _) (rv g0 ?_);decide)) rfl) rfl)
      ·refine rv er ?_;generalize Xx pa bar=row at rl ri ⊢;clear er;refine ac (iX (xs:=["text","fours"]) rfl rfl rfl none rfl (.inl rfl) (rK (aw rfl (.pure ?_))));refine D3 "str.join" "str" wq (by decide) rfl rfl (by decide) rfl (b_ ⟨rfl,ae rfl (bz D.int cX (fun χ=>rfl) rfl rfl (aa rfl (br ⟨row,rfl,bI.all (fun x=>.str ⟨#[sg x]⟩) (by exact rv Yy (K9 rl)) (fun x hx=>aX rfl (aa rfl (aa rfl (dp rfl (oR (ri x hx)) ?_) rfl) rfl)) (ak (wC (ys:=row.map fun x=>⟨#[sg x]⟩) ?_ (vT row) (sL (by exact Qv rl) _ rfl)))⟩) rfl))⟩)
       ·have:=ri x hx;simp;exact Ol this.1 this.2
       ·refine rv (show Txt.join (Str.ofString "") (row.map fun x=>(⟨#[sg x]⟩:Str))=sl (row.map sg) from wE row) ?_;refine aw rfl (.pure (ap (ap (gS rfl (gF HK) rfl rfl rfl (ae rfl (aa rfl (ak (kh (lK ?_ ?_))) rfl))))))
        ·refine af (eW (af (mV (aB ⟨sz rfl,_,rfl,rfl,?_⟩) ?_)) (by decide) (np _ _ (by decide)))
         ·refine rv (YH rfl) (rv (List.length_map _) ?_);have hF:∃ m:Nat,(row.length:Int)/4*4=(4*m:Nat)∧4*m≤row.length:=(aF (row.length/4) (by exact QU) (by exact P9));revert hF;refine az fun m hm lB=>?_;refine rv hm ?_;refine EX.le (ρ':=[("text",.str (sl (row.map sg))),("fours",.int (4*m:Nat)),("row",dL row),("due",.list [.list (((Xf 16).map (qd (wL pa))).map fN),.bool (!((cI bar 8).map D.int).isEmpty),.list (G.map dL)]),("quads",.list ((((Xf 16).map (qd (wL pa))).zip us).map qD))]) (.cons rfl (.cons rfl (.cons rfl (.cons rfl (.cons rfl .nil))))) ?_;have tl:(row.map sg).length≤20:=by exact rv (List.length_map _) (Qu rl)
          refine ac (bg (.pure (n0 rfl (bM (ae rfl (d0 rfl (lC HK) (.of (mA HK)) rfl rfl (ae rfl (aa rfl (ae rfl (aa rfl (ak (CP.loud (xw HK (n+4) (row.map sg) (((Xf 16).map (qd (wL pa))).zip us) _ tl ?_ ?_ ?_ ?_))) rfl)) rfl))))))))
          ·refine rv List.length_zip (rv Fy (rv hu ?_));decide
          ·intro x hx;have x1:x.1∈(Xf 16).map (qd (wL pa)):=by exact rv r9.symm (Yt.mpr (aF x hx rfl))
           have x2:x.2∈us:=by exact rv En.symm (Yt.mpr (aF x hx rfl))
           exact ⟨q4 _ x1,(OJ _ x2).1,(OJ _ x2).2,GT (q4 _ x1)⟩
          ·intro pre x y post e;have e1:=r9;have e2:=En;rw [e] at e1 e2;have d1:((Xf 16).map (qd (wL pa))).Nodup:=gz (yK 16) fun a ha b hb=>zo hw ha hb;rw [← e1] at d1;rw [← e2] at GN;rw [List.map_append,List.map_cons,List.map_cons] at d1 GN;have a1:=(List.pairwise_cons.mp (List.pairwise_append.mp d1).2.1).1 y.1 Yu;have a2:=(List.pairwise_cons.mp (List.pairwise_append.mp GN).2.1).1 y.2 Yu;exact ⟨fun h=>by rw [h] at a2;exact Nat.lt_irrefl _ a2,fun h=>a1 h.symm⟩
          ·have hT:(row.take (4*m)).length=4*m:=by exact rv List.length_take (R1 lB)
           have tr:∀ x∈row.take (4*m),0≤x∧x<64:=fun x hx=>ri x (List.mem_of_mem_take hx);have e1:(row.map sg).take (4*m)=(row.take (4*m)).map sg:=List.map_take.symm;have e2:((row.take (4*m)).map sg).map (fun c:Nat=>bb (c:Int))=row.take (4*m):=by
            refine rv List.map_map ?_;exact (YL fun x hx=>(pN (tr x hx)).1).trans (List.map_id _)
           have Ja:=zi hT tr;have ho:∀ o∈a8 (row.take (4*m)),0≤o∧o<256:=fun o ho=>by
            refine az (fun i' χ e_8=>?_) (Yt.mp ho);subst e_8;exact Om
           have Mc:(a8 (row.take (4*m))).length≤100:=by unfold a8;exact rv (List.length_map _) (rv (aA _) (rv hT (Q6 rl hm)))
           refine ae rfl (Bo rfl (qH HK) rfl rfl rfl (ae rfl (d0 rfl (qK HK) (.of (wf HK)) rfl rfl (ae rfl (c9 (aa rfl (aS (bx (aa rfl (bq (aS (kg ?_ rfl ?_))) rfl))) rfl))))))
           ·refine rv (lW (by exact K7)) (rv (YQ _) (rv e1 ?_));refine ak (CP.loud (Ft HK (n+8) ((row.take (4*m)).map sg) (fun c hc=>?_) (by exact rv (List.length_map _) (rv hT (Q5 rl hm))) (by exact rv e2 (rv Ja rfl)) _ ?_))
            ·refine az (fun x hx e_9=>?_) (Yt.mp hc);subst e_9;have:=pN (tr x hx);exact ⟨H' x,by exact rv this.1 ((tr x hx).2),this.2⟩
            ·refine rv e2 (rv Ja ?_);refine ak (eQ _ rfl ?_ ?_)
             ·unfold byteArr;refine rv YT (rv (List.length_map _) (rv Yy ?_));simp only;exact NP Mc
             ·refine rv (oG ho) ?_;refine ak ⟨sz rfl,bM (ae rfl (bz fN Kf ud rfl rfl (aX rfl (aa rfl (af (cy (d:=.list (((Xf 16).map (qd (wL pa))).map fN)) (br ⟨(Xf 16).map (qd (wL pa)),rfl,bI.all (fun x=>dL (ft (row.map sg) x)) (by refine rv Fy (rv Yy ?_);decide) (fun x hx=>?_) ?_⟩) (cx (by decide) rfl) (by show 3<2^62;decide))) rfl))))⟩
              ·exact d0 rfl (sW HK) (.of (zC HK)) rfl rfl (ae rfl (aa rfl (ae rfl (aa rfl (ak (CP.loud (Ia HK (n+10) (row.map sg) x (q4 x hx) (fun r=>r=dL (ft (row.map sg) x)) rfl))) rfl)) rfl))
              ·refine ae rfl (d0 rfl (gH HK) (.of (jU HK)) rfl rfl (ae rfl (c9 (aa rfl (aS (bx (aa rfl (bq (aS (eU ?_ (by simp) ?_))) rfl))) rfl))))
               ·refine rv (lX (by exact K7)) (rv (YQ _) (rv List.map_take.symm ?_));refine ak (CP.loud (r5 HK (n+10) (row.take (4*m)) (by exact rv hT (Q4 rl hm)) _ (ak ⟨sz rfl,?_⟩)));have em:(((Xf 16).map (qd (wL pa))).zip us).map (fun x=>wX (pA (row.map sg) x.1))=((Xf 16).map (qd (wL pa))).map (fun x=>dL (ft (row.map sg) x)):=by
                 have e3:(((Xf 16).map (qd (wL pa))).zip us).map (fun x=>dL (ft (row.map sg) x.1))=((Xf 16).map (qd (wL pa))).map (fun x=>dL (ft (row.map sg) x)):=by
                  conv=>rhs;rw [← r9]
                  rw [List.map_map];rfl
                 refine rv e3.symm ?_;refine YL fun x hx=>?_;have x1:x.1∈(Xf 16).map (qd (wL pa)):=by exact rv r9.symm (Yt.mpr (aF x hx rfl))
                 refine rv (CN (q4 _ x1)) ?_;rfl
                refine rv em ?_;refine Gd (c:=true) (hk _) (nA ?_);show (List.all _ _)=true;simp only [List.all_cons,List.all_nil,Bool.and_true,YR];refine ⟨?_,zD 6 _⟩;have:=wb 5 (((Xf 16).map (qd (wL pa))).map fun x=>ft (row.map sg) x);rw [List.map_map] at this;exact this
               ·exact rv (List.length_map _) (rv Yy (K9 rl))
           ·exact rv (lW (by exact K7)) (rv (bk _) (rv (YQ _) (rv e1 (rv (List.length_map _) (rv hT (rv Yy (Q3 rl hm)))))))
         ·exact IntMulOk.of_right (by decide)
        ·exact rv (List.length_map _) (Qw rl)
     ·show (List.all _ _)=true;simp only [List.cons_append,List.nil_append,List.all_cons,List.all_nil,Bool.and_true,YR];exact ⟨Cq 6 _,rfl,wb 5 _⟩
 all_goals decide
end
theorem yI {α β:Type}(l:List α)(us:List β)(x:α)(u:β)(h:l[us.length]? = some x):l.zip (us++[u])=l.zip us++[(x,u)]:=by
 induction l generalizing us with
 | nil=>exact iZ (List.getElem?_nil.symm.trans h)
 | cons y l i=>
  cases us with
  | nil=>exact rv (Yx h).symm (congrArg (List.cons (y,u)) List.zip_nil_right)
  | cons v us=>exact congrArg (List.cons (y,v)) (i us h)
theorem Ch (wh:Int):pk [wh%64,(wh+1+wh/64%63)%64] 0≠pk [wh%64,(wh+1+wh/64%63)%64] 1:=by
 show wh%64≠(wh+1+wh/64%63)%64;omega
theorem G8 (ns:List Int):∀ x∈tG ns,x∈Xf 16:=fun x hx=>(YJ.mp hx).1
section
variable (HK:Ω.K=hd.heap_1 Ω.w.params)
include HK
theorem Ib (n:Nat)(ns:List Int)(Au:ns.length≤63):vD Ω ⟨n+12,⟨true,true⟩⟩ 489 [dL ns] [] .nil fun d χ=>d=.bool true:=by
 refine iY (FH HK) (Xe.of_eq (xs:=["script"]) rfl fun vs hv=>by obtain ⟨a0,rfl⟩:=eJ hv;rfl) (by rfl) ?_;dsimp only [mH,nN,List.zip,List.zipWith];have O6:Xs (ns.map D.int) none (some 8) none=(ns.take 8).map .int:=by refine rv (lX (by decide)) (rv List.map_take.symm ?_);rfl
 refine ac (iX (xs:=["whole","signs"]) rfl rfl rfl none rfl (.inl rfl) (rK (aw rfl (.pure ?_))));refine ap (gS rfl (GR HK) rfl rfl rfl ?_);refine ae rfl (c9 (aa rfl ?_ rfl));refine aS (bx (af (bq (aS (eU ?_ (by simp) ?_)))));rotate_left
 ·exact rv (List.length_map _) (rv Yy (NL Au))
 refine ak (F_ (CZ ?_ (rv O6 (gZ _))));refine af (bm ?_);refine aw rfl (.pure (b_ (aB ⟨sz rfl,_,rfl,rfl,?_⟩)));refine rv (YH rfl) ?_;refine ac (ES.le (ρ':=[("whole",.int (XJ ns)),("signs",.str fG),("script",dL ns)]) (.cons rfl (.cons rfl (.cons rfl .nil))) ?_);generalize XJ ns=wh;refine ah rfl rfl (.pure ?_);refine bM (ae rfl (ap (aa rfl (af (ew (ae rfl (ap (ap (ap (aa rfl (af (bm (ap (ap (aa rfl (af (eW (af (ew (bm (af (ew (ak (And.symm ⟨(ac ?_),?_⟩)) ?_))) ?_)) ?_ ?_)) rfl))))) rfl))))) ?_)) rfl)));have OR:=Ch wh;have Ma:∀ x∈[wh%64,(wh+1+wh/64%63)%64],0≤x∧x<64:=fun x hx=>by
  simp only [YC,List.not_mem_nil,or_false] at hx;exact Uh hx
 generalize OU:[wh%64,(wh+1+wh/64%63)%64]=pa at OR Ma;have Mb:D.list [D.int (wh%64),D.int ((wh+1+wh/64%63)%64)]=dL pa:=by refine rv OU.symm ?_;rfl
 refine rv Mb ?_;refine cw D.int cX (fun χ=>rfl) rfl rfl rfl ?_;refine cE rfl (cu HK) rfl rfl rfl ?_;refine ae rfl (af (ak (cq (sK (eT ?_ ?_ ?_)))));refine ⟨Xf 16,rfl,bI.cond (DH ns) .int (by decide) (fun t ht=>?_) (fun t ht χ=>?_) ?_⟩
 ·refine aC rfl (n0 rfl (aa rfl (bM (ae rfl (af (ae rfl (af (ae rfl (af (ae rfl (af (ae rfl (af (ae rfl (af (ak (And.symm ⟨?_,?_⟩))))))))))))))) rfl));refine Ad (c:=([0,8,9,10,13,15]:List Int).contains t) ?_ rfl (fv t [0,8,9,10,13,15]);refine n0 rfl (ap (gS rfl (gF HK) rfl rfl rfl ?_));refine ae rfl (bz D.int cX (fun χ=>rfl) rfl rfl ?_);refine c9 (aa rfl ?_ rfl);refine aS (bx (af (bq (aS (eU (br ?_) (by simp) ?_)))))
  ·refine rv O6 ?_;refine ⟨ns.take 8,rfl,bI.cond (fun x=>x%16==t) .int (rv List.length_take (rv Yy NJ)) (fun x hx=>?_) (fun x hx χ=>?_) ?_⟩
   ·refine aC rfl (ap (aa rfl (af (ew (aa rfl (eV ?_) rfl) ?_)) rfl))
    ·rfl
    all_goals decide
   ·refine aa rfl ?_ rfl;rfl
   ·refine ak (kh (lK (af (ew (af (eV (Gb ?_))) ?_)) ?_))
    ·unfold DH;exact rv (List.length_map _) rfl
    all_goals (try rw [List.length_map])
    all_goals (first | (simp only [List.length_map,List.length_append,List.length_cons,List.length_nil,aJ,aA,Yy];lia -abstractProof) | (have:=Y1 (fun x=>x%16==t) (ns.take 8);rw [List.length_take] at this;lia -abstractProof))
  ·exact rv (List.length_map _) (rv Yy (NL Au))
  all_goals decide
 ·refine aa rfl ?_ rfl;rfl
 ·have eb:((Xf 16).filter (DH ns)).map D.int=(tG ns).map D.int:=rfl;refine rv eb ?_;have GM:(tG ns).length≤16:=by unfold tG;exact Ys (Y1 ..) (by refine rv (aJ _) ?_;decide)
  have g0:pa.length=2:=by refine rv OU.symm ?_;rfl
  have O7:=G8 ns;generalize tG ns=bar at GM O7 ⊢;refine ac ?_;refine cw D.int cX (fun χ=>rfl) rfl rfl rfl ?_;refine cE rfl (cu HK) rfl rfl rfl ?_;refine ae rfl (af (ak (cq (sK (eT ?_ ?_ ?_)))));refine ⟨Xf 16,rfl,bI.all (fun k=>dL (bN pa k)) (by decide) (fun k hk=>?_) ?_⟩
  ·refine bz D.int cX (fun χ=>rfl) rfl rfl ?_;refine d0 rfl (jt HK) (.of (pY HK)) rfl rfl ?_;refine ae rfl (aa rfl (ae rfl (af (ak ?_))) rfl);refine CP.loud (ze HK (n+10) k 4 (by decide) _ (br ⟨bv k 4,rfl,bI.all (fun b=>D.int (pk pa b)) (by unfold bv;refine rv (List.length_map _) (rv (aA _) ?_);decide) (fun b hb=>?_) ?_⟩))
   ·have Pd:b=0∨b=1:=by
     refine az (fun i χ e_1=>?_) (Yt.mp hb);subst e_1;exact K4
    refine aX rfl (aa rfl (aa rfl (cy (d:=.int (pk pa b)) ?_ (cx (Oo Pd) ?_) ?_) rfl) rfl)
    ·rfl
    ·exact zu g0 Pd
    ·refine rv (List.length_map _) (rv g0 ?_);decide
   ·unfold dL bN;refine rv List.map_map ?_;rfl
  ·have ef:(Xf 16).map (fun k=>dL (bN pa k))=((Xf 16).map (bN pa)).map dL:=by refine rv List.map_map ?_;rfl
   refine rv ef ?_;refine D1 (x:="quads") (y:="layers") rfl rfl rfl rfl rfl (tU rfl ((lY rfl (aa rfl (br ?_) rfl)).c));refine ⟨by refine rv (List.length_map _) (rv (List.length_map _) (rv (aJ _) (rv Yy ?_)));decide,fun χ=>true,fun i ds t=>∃ us:List Nat,us.length=i∧ds=(((Xf 16).map (bN pa)).zip us).map (fun x=>D.ca (oZ x.1) x.2)∧us.Pairwise (· < ·)∧∀ u∈us,Ω.t0+3≤u∧u<t,fun i ds t t' Vz hI=>?_,(BD [] rfl (by simp) .nil (fun u hu=>nomatch hu)),fun i d ds t hd ht hI=>?_,fun ds t hI=>?_⟩
   ·revert hI;refine A1 fun us h1 h2 h3 h4=>?_;exact BD us h1 h2 h3 (fun u hu=>⟨(h4 u hu).1,YG (h4 u hu).2 Vz⟩)
   ·revert hI;refine A1 fun us h1 h2 h3 h4=>?_;rw [Y2,Y2,Option.map_map,YI] at hd;revert hd;refine az fun kk Jl e_2=>?_;subst e_2;have fl:(bN pa kk).length=4:=by unfold bN bv;exact rv (List.length_map _) (rv (List.length_map _) (rv (aA _) rfl))
    refine ⟨rfl,fun χ=>?_,fun h=>nomatch h⟩;refine vz rfl rfl rfl (d0 rfl (qJ HK) (.of (we HK)) rfl rfl ?_);refine ae rfl (cE rfl (gG HK) rfl rfl rfl ?_);refine ae rfl (d0 rfl (gH HK) (.of (jU HK)) rfl rfl ?_);refine ae rfl (aa rfl (ak (CP.loud (r5 (Ω:=Ω.at t) HK (n+10) (bN pa kk) (QD fl) _ ?_))) rfl);refine ak (mS ⟨a8 (bN pa kk),gZ _,?_,?_,?_⟩)
    ·intro o ho;refine az (fun i' χ e_3=>?_) (Yt.mp ho);subst e_3;exact Om
    ·refine rv (List.length_map _) ?_;unfold a8;refine rv (List.length_map _) (rv (aA _) (rv fl (rv Yy ?_)));decide
    ·obtain ⟨a,b,c,Jx⟩:∃ a b c,a8 (bN pa kk)=[a,b,c]:=by unfold a8;exact rv fl (OC _ _ _ rfl)
     refine rO (fun ha hb hc he=>?_) (ML fl (AY g0 Ma kk) Jx);refine rv Jx ?_;have V8:byteArr [cz (((u8 a).toNat:Int)/4),cz (((u8 a).toNat:Int)%4*16+((u8 b).toNat:Int)/16),cz (((u8 b).toNat:Int)%16*4+((u8 c).toNat:Int)/64),cz (((u8 c).toNat:Int)%64)]=((bN pa kk).map fun x=>u8 (cz x)).toArray:=by
      refine rv (pG ha.1 ha.2) (rv (pG hb.1 hb.2) (rv (pG hc.1 hc.2) (rv he.symm ?_)));rfl
     have V9:((bN pa kk).map fun x=>u8 (cz x)).map (fun x=>x.toNat)=(bN pa kk).map sg:=by
      refine rv List.map_map ?_;refine YL fun x χ=>?_;have:=hY x;exact uf this.1 (Oi this.2)
     have EG:∀ x∈(bN pa kk).map (fun x=>u8 (cz x)),x.toNat<128:=fun x hx=>by
      refine az (fun y χ e_4=>?_) (Yt.mp hx);subst e_4;have:=hY y;exact rv (uf this.1 (Oi this.2)) (Oj this.2)
     have GL:((bN pa kk).map fun x=>u8 (cz x)).length≤1000:=by refine rv (List.length_map _) (rv fl ?_);decide
     have hq:oZ (bN pa kk)=sl (((bN pa kk).map fun x=>u8 (cz x)).map (fun x=>x.toNat)):=by refine rv V9 ?_;rfl
     have Mh:((bN pa kk).map fun x=>u8 (cz x))≠[]:=fun z=>by have:=congrArg List.length z;rw [List.length_map,fl] at this;cases this
     refine ak (CP.loud (Fq (Ω:=Ω.at t) HK (n+8) _ _ _ _ ?_));refine rv (show byteArr [cz (((u8 a).toNat:Int)/4),cz (((u8 a).toNat:Int)%4*16+((u8 b).toNat:Int)/16),cz (((u8 b).toNat:Int)%16*4+((u8 c).toNat:Int)/64),cz (((u8 c).toNat:Int)%64)]=_ from V8) ?_;refine jE (fun c0 cr V'=>?_) (List.exists_cons_of_ne_nil Mh);rw [V'] at EG GL hq ⊢;refine gY c0 cr rfl (b_ ⟨rfl,EG,GL,fun t' uR=>?_⟩);refine rv hq.symm ?_;have Gn:t≤t':=uR;refine BD (us++[t'+3]) (by refine rv List.length_append (rv h1 ?_);rfl) ?_ ?_ ?_
     ·refine rv (yI _ us (bN pa kk) (t'+3) (by rw [h1,Y2,Jl];rfl)) (rv List.map_append (rv h2.symm ?_));rfl
     ·refine List.pairwise_append.mpr ⟨h3,List.pairwise_singleton _ _,fun x hx y hy=>?_⟩;rw [Yq] at hy;have:=(h4 x hx).2;exact SY Gn hy this
     ·intro u hu;rcases Yr.mp hu with hu | hu
      ·have:=h4 u hu;exact S1 Gn this.1 this.2
      ·rw [Yq] at hu;exact SZ ht Gn hu
   ·revert hI;refine A1 fun us h1 h2 h3 h4=>?_;refine d0 rfl (ng HK) (.of (o8 HK)) rfl rfl (ae rfl (aa rfl (ak (CP.loud (zb HK (n+10) bar GM _ fun I7=>?_))) rfl));have uX:ds=(((Xf 16).map (qd (wL pa))).zip us).map qD:=by
     refine rv h2 ?_;have ez:((Xf 16).map (qd (wL pa))).zip us=(((Xf 16).map (bN pa)).zip us).map (fun x=>(x.1.map sg,x.2)):=by
      refine rv (show (Xf 16).map (qd (wL pa))=((Xf 16).map (bN pa)).map (fun f=>f.map sg) by rw [List.map_map];exact YL fun j χ=>fF (oY pa j).symm) (rv List.zip_map_left ?_);rfl
     rw [ez,List.map_map];rfl
    refine EX.le (ρ':=[("quads",.list ds),("layers",.list ((bT bar 9).map dL)),("figures",.list (((Xf 16).map (bN pa)).map dL)),("barred",dL bar),("pair",dL pa),("signs",.str fG)]) (.cons rfl (.cons rfl (.cons rfl (.cons rfl (.cons rfl (.cons rfl .nil)))))) ?_;refine rv uX ?_;refine z5 (O:=Ω.at t) HK n pa bar us _ (fun ρ=>rfl) g0 Ma OR GM O7 (rv h1 (rv (List.length_map _) (rv (List.length_map _) (rv (aJ _) rfl)))) h3 fun u hu=>?_;have:=h4 u hu;exact ⟨SI this.1,this.2⟩
  all_goals decide
 all_goals (first | decide | exact np _ _ (by decide) | (simp only [List.length_map,List.length_append,List.length_cons,List.length_nil,aJ,aA,Yy];lia -abstractProof))
end
set_option tactic.hygienic true in
theorem Ep {K:Frag}{h:Heap}{N:Addr}{mg:Str→Option Value}{n:Str}{r:Option Value}(X:K.In h)(G:h.Ns N mg)(e:nsIn K N n=some r):mg n=r:=by
 revert G;refine fD fun o es ep ho hd χ hf=>?_;unfold nsIn at e;split at e
 ·rename_i c d gc n' sl q;have:=X _ _ q;rw [ho] at this;obtain rfl:=Yx this;cases hd;refine rv (hf _).symm ?_;unfold nsFind findBy;refine rv (Array.find?_toList).symm ?_;split at e
  ·rename_i en he;obtain rfl:=Yx e;refine rv he ?_;rfl
  ·rename_i he;split at e
   ·exact iZ e
   ·obtain rfl:=Yx e;refine rv he ?_;rfl
 ·exact iZ e
theorem well_list {P:Params}{h:Heap}{a:Addr}{W:WData}{ws:List WData}(x:Well P h (.ref a) W)(e:W=.list ws):∃ vs:List Value,h.get? a=some { cls:=.type "list",data:=.seq vs.toArray }:=by
 subst e;cases x with
 | list o _=>exact ⟨_,o⟩
noncomputable def WQ (prog:Program)(w:World)(s:Shared)(mg mb:Str→Option Value)(g:s.heap.Ns mainGlobals mg)(b:s.heap.Ns builtinsNs mb)(lim:s.heap.NoLimit)(bi:∀ x:Str,x≠"__name__"→mb x=bootBuiltins x)(X:(hd.heap_1 w.params).In s.heap):U where
 prog:=prog
 w:=w
 C:=⟨fun a o=>s.heap.get? a=some o,mg,mb⟩
 K:=hd.heap_1 w.params
 ok:=⟨fun h st=>g.keeps st,fun h st=>b.keeps st⟩
 qA:=fun a o e=>X a o e
 lim:=fun h st=>lim.keeps st
 gl:=fun x r e=>Ep X g e
 bi:=bi
 t0:=0
theorem F5 (w:World):nsIn (hd.heap_1 w.params) mainGlobals "law"=some (some (.ref 489)):=by rfl
theorem law_code {prog:Program}{w:World}{s:Shared}{mg mb:Str→Option Value}(g:s.heap.Ns mainGlobals mg)(b:s.heap.Ns builtinsNs mb)(lim:s.heap.NoLimit)(bi:∀ x:Str,x≠"__name__"→mb x=bootBuiltins x)(X:(hd.heap_1 w.params).In s.heap)
  {a fa:Addr} {vs us:List Value} {ns:List Int} (hf:mg "law"=some (.ref fa)) (hL:s.heap.IsList a vs.toArray) (ho:s.heap.get? a=some { cls:=.type "list",data:=.seq us.toArray }) (hI:IntsAre vs ns) (hn:ns.length≤63) {R:Result→Shared→Prop}
  (hR:∀ s',(∀ b o,s.heap.get? b=some o→s'.heap.get? b=some o)→s'.os=s.os→s'.gens=s.gens→R (.ok (.ret (.bool true))) s'):codeAny (model prog w) callerA (.call (.ref fa) ⟨[.ref a],[]⟩) R s:=by
 have Wx:fa=489:=by
  have:=Ep X g (F5 w);rw [hf] at this;cases this;rfl
 subst Wx;have ev:vs=us:=by
  revert hL;refine db fun o h1 χ z_1=>?_;obtain ⟨n,h2⟩:=z_1;rw [ho] at h1;obtain rfl:=Yx h1;cases h2;rfl
 subst ev;refine Ib (Ω:=WQ prog w s mg mb g b lim bi X) rfl 0 ns hn callerA [] [] s [.ref a] [] ?_ ⟨fun χ χ e=>e,Nat.zero_le _⟩ (fun χ χ χ=>by simp) (Hp.nil fun χ m=>nomatch m) (.cons _ _ _ _ (.list _ a vs 0 (by simp) ho (vY hI)) .nil) .nil R fun v aD σ' s' x hh=>?_
 ·exact ⟨⟨by decide+kernel,by decide+kernel,fun χ=>rfl⟩,(fun χ m=>nomatch m),fun χ=>(aF [] rfl (fun χ m=>nomatch m))⟩
 ·obtain ⟨d,rfl,r⟩:=hh;refine W_.u9 r ?_;refine jE (fun h' t' e_2=>?_) x.same;subst e_2;exact hR _ (fun b o e=>x.keep b o (by simp) (by simp) (fun m=>nomatch m) e) rfl rfl
end
end
end Mine.Internal
theorem PySem.Challenge.cw_rt0117_01_holds : PySem.Challenge.rw_rt0117_01.Holds :=
  Mine.Internal.hd (by
    k_fill
    intro w s₀ s₁ mg mb G Y fa o pm cd doc dV kV ho hd hcd hD hmg hg args vals as hpre hlay hrd hwl hlo
    have KX := kIn_of Y
    refine Ground.open G ?_
    intro T B D TE TW
    clear hd hcd hD
    wrow_args hpre hlay hrd hwl hlo
    all_goals (first | refine callC_kw (enter_call ?_) | refine enter_call ?_)
    w_top on
    try refine codeAny_mono ?_ (fun χ χ g => GoodW.toG g)
    rename_i w1 hL ra ww r0 hI hr hc1 hc2
    obtain ⟨us, hus⟩ := Mine.Internal.well_list ww rfl
    refine Mine.Internal.law_code T.g T.b T.nolimit T.builtins KX hmg hL hus hI (Mine.Internal.z7d hc1) fun s' hk hos hgs => ?_
    exact ⟨.inl ⟨_, _, _, rfl, fun χ => rfl, .bool true, by wrow_post, fun χ => ⟨List.nodup_nil, (fun χ m => nomatch m)⟩⟩, hk, hos, hgs.trans hg⟩)
