import PyProof.Rows.All
import Wide.All
import OpenK.AllK
import Wide.FinOn
import KE.KCallOwn
import KE.KParD
import KE.KItemsList
import KE.KTryDeep
import KE.KWhile
import PyProof.EqKinds
import Wide.Txt
import PyProof.Rows.StrWeight2
import Lean
import PySem.Challenge.RW_oh0110_01
open PySem PySem.W PySem.Spec PySem.Calls PyProof.Rows
set_option Elab.async false
set_option maxRecDepth 100000
set_option linter.all false
set_option genInjectivity false
set_option genSizeOf false
namespace Mine
section
set_option maxHeartbeats 200000
noncomputable abbrev pw:Program:=PySem.Challenge.pw_oh0110_01
noncomputable def runP (thr ok:Thread→Bool) (stp:SharedT→Thread→Option (SharedT × Thread)):Nat→SharedT→Thread→Option SharedT
 | 0,_,_=>none
 | n + 1,s,t=>match thr t with
   | true=>some s
   | false=>match ok t with
     | false=>none
     | true=>match stp s t with
       | some r=>runP thr ok stp n r.1 r.2
       | none=>none
noncomputable def OS {α:Type _} (o:Option α) (P:α→Prop):Prop:=match o with
 | some a=>P a
 | none=>True
section
variable {α:Type _} {o:Option α} {P P':α→Prop}
theorem OS.use (h:OS o P) {a:α} (e:o=some a):P a:=by subst e; exact h
theorem OS.imp (h:OS o P) (k:∀ a,P a→P' a):OS o P':=by
 cases o with
 | none=>exact True.intro
 | some a=>exact k a h
end
section
variable {tb:String→Option Builtin} {p:Program} {w:World} {n₀:Nat} {ann:Option Value} {n:Nat} {s s':Shared} {t t':Thread}
theorem runP_c {thr ok:Thread→Bool} {stp:SharedT→Thread→Option (SharedT × Thread)} {s:SharedT}:runP thr ok stp (n + 1) s t=(match thr t with
   | true=>some s
   | false=>match ok t with
     | false=>none
     | true=>match stp s t with
       | some r=>runP thr ok stp n r.1 r.2
       | none=>none):=rfl
theorem top_t (h:through t=true):topRun tb p w n₀ ann (n + 1) s t=some s:=by unfold topRun; rw [h]
theorem top_s (h:through t=false) (k:stepOk n₀ ann t=true) (e:step (denote tb) p w s t=.go s' t'):topRun tb p w n₀ ann (n + 1) s t=topRun tb p w n₀ ann n s' t':=by
 rw [topRun,h,k,e]
theorem imp_s (h:t.atExitBegin=none) (e:step (denote tb) p w s t=.go s' t'):importEnds tb p w (n + 1) s t=importEnds tb p w n s' t':=by
 rw [importEnds,h,e]
end
theorem runP_top {tb:String→Option Builtin} {p:Program} {w:World} {n₀:Nat} {ann:Option Value} (n:Nat):∀ (s:SharedT) (t:Thread),OS (runP through (stepOk n₀ ann) (stepT (denote tb) p w) n s t) fun s'=>topRun tb p w n₀ ann n s.abs t=some s'.abs:=by
 induction n with
 | zero=>exact fun _ _=>True.intro
 | succ n ih =>
   intro s t
   rw [runP_c]
   cases ht:through t with
   | true=>exact top_t ht
   | false =>
     cases hk:stepOk n₀ ann t with
     | false=>exact True.intro
     | true =>
       cases hs:stepT (denote tb) p w s t with
       | none=>exact True.intro
       | some r=>exact (ih r.1 r.2).imp fun s' h=>(top_s ht hk (stepT_spec hs)).trans h
noncomputable def impP (fin:Thread→Option (List Value)) (stp:SharedT→Thread→Option (SharedT × Thread)):Nat→SharedT→Thread→Option SharedT
 | 0,_,_=>none
 | n + 1,s,t=>match fin t with
   | some []=>some s
   | some (_::_)=>none
   | none=>match stp s t with
     | some r=>impP fin stp n r.1 r.2
     | none=>none
theorem impP_c {fin:Thread→Option (List Value)} {stp:SharedT→Thread→Option (SharedT × Thread)} {n:Nat} {s:SharedT} {t:Thread}:impP fin stp (n + 1) s t=(match fin t with
   | some []=>some s
   | some (_::_)=>none
   | none=>match stp s t with
     | some r=>impP fin stp n r.1 r.2
     | none=>none):=rfl
theorem impP_ends {tb:String→Option Builtin} {p:Program} {w:World} (n:Nat):∀ (s:SharedT) (t:Thread),OS (impP Thread.atExitBegin (stepT (denote tb) p w) n s t) fun s'=>importEnds tb p w n s.abs t=some s'.abs:=by
 induction n with
 | zero=>exact fun _ _=>True.intro
 | succ n ih =>
   intro s t
   rw [impP_c]
   cases ht:t.atExitBegin with
   | some l =>
     cases l with
     | nil=>show importEnds _ _ _ _ _ _=_; rw [importEnds,ht]
     | cons a r=>exact True.intro
   | none =>
     cases hs:stepT (denote tb) p w s t with
     | none=>exact True.intro
     | some r=>exact (ih r.1 r.2).imp fun s' h=>(imp_s ht (stepT_spec hs)).trans h
noncomputable def build:List Obj→BT→Nat→Option (BT × Nat)
 | [],t,n=>some (t,n)
 | o::r,t,n=>match ((t.ins n o).get n).isSome with
   | true=>build r (t.ins n o) (n + 1)
   | false=>none
theorem build_c {o:Obj} {r:List Obj} {t:BT} {n:Nat}:build (o::r) t n=(match ((t.ins n o).get n).isSome with | true=>build r (t.ins n o) (n + 1) | false=>none):=rfl
theorem build_abs {life:Life} (l:List Obj):∀ (t:BT) (n:Nat),OS (build l t n) fun r=>absHeap r.1 r.2 life=⟨(absHeap t n life).objs++l.toArray,life⟩:=by
 induction l with
 | nil=>intro t n; show Heap.mk _ _=Heap.mk _ _; simp [absHeap]
 | cons o r ih =>
   intro t n
   rw [build_c]
   cases g:((t.ins n o).get n).isSome with
   | false=>exact True.intro
   | true =>
     refine (ih _ _).imp fun r' h=>h.trans ?_
     rw [absHeap_ins g]
     show Heap.mk _ _=Heap.mk _ _
     simp [Heap.push]
noncomputable def toT (s:Shared):Option SharedT:=match build s.heap.objs.toList .nil 0 with
 | some r=>some ⟨r.1,r.2,s.heap.life,s.gens,s.drawn,s.toks,s.os⟩
 | none=>none
theorem toT_abs (s:Shared):OS (toT s) fun t=>t.abs=s:=by
 unfold toT
 cases hb:build s.heap.objs.toList .nil 0 with
 | none=>exact True.intro
 | some r =>
   obtain ⟨⟨objs,life⟩,gens,drawn,toks,os⟩:=s
   have:=(build_abs (life:=life) _ _ _).use hb
   show Shared.mk (absHeap r.1 r.2 life) _ _ _ _=_
   rw [this]
   simp [absHeap,BT.list]
section
variable (fin:Thread→Option (List Value)) (thr:Thread→Bool) (okk:Nat→Option Value→Thread→Bool) (sT:(Code→Sem Fin)→Program→World→SharedT→Thread→Option (SharedT × Thread)) (den:Code→Sem Fin)
 (fence:Shared→Option Shared) (st:Shared × Thread) (isn:Heap→Bool) (ann:Heap→Option Value)
noncomputable def endsP (p q:Program) (w:World) (N:Nat) (stub:Thread):Option (Shared × SharedT) :=
 match toT st.1 with
 | none=>none
 | some t0=>match impP fin (sT den q w) N t0 st.2 with
   | none=>none
   | some t1=>match fence t1.abs with
     | none=>none
     | some s0=>match isn s0.heap&&s0.gens.size==0 with
       | false=>none
       | true=>match toT s0 with
         | none=>none
         | some t2=>match runP thr (okk s0.heap.objs.size (ann s0.heap)) (sT den p w) N t2 stub with
           | none=>none
           | some t3=>some (s0,t3)
end
noncomputable def chkS (p:Program) (s₀ s₁:Shared):Bool:=staticsOk (importedModules p.main.body) s₀.heap s₁.heap&&namesBound p s₁.heap&&gensDone s₁&&laidKept s₀.heap s₁.heap
noncomputable def tget (t:SharedT) (a:Nat):Option Obj:=match Nat.blt a t.n with
 | true=>alive ((t.tree.get a).getD default)
 | false=>none
theorem tget_abs (t:SharedT) (a:Nat):tget t a=t.abs.heap.get? a:=by
 unfold tget
 show _=(absHeap t.tree t.n t.life).get? a
 unfold Heap.get?
 rw [absHeap_at]
 cases h:Nat.blt a t.n with
 | false=>rw [if_neg (fun g=>by rw [Nat.blt_eq.mpr g] at h; cases h)]
 | true =>
   rw [if_pos (Nat.blt_eq.mp h)]
   generalize (t.tree.get a).getD default=o
   obtain ⟨c,d,dt,sl⟩:=o
   cases dt<;>rfl
theorem ends_of {p:Program} {w:World} {N:Nat} {r:Shared × SharedT}
   (h:endsP Thread.atExitBegin through stepOk stepT (denote treeTable) (fenceModules? p) (start (opening p)) (fun h=>h.isNs mainGlobals) (fun h=>h.nsMap mainGlobals "__annotations__") p (opening p) w N (topStub p)=some r)
   (c:chkS p r.1 r.2.abs=true):openEnds treeTable p w N=some r.2.abs:=by
 revert c
 refine OS.use (a:=r) (P:=fun (r:Shared × SharedT)=>chkS p r.1 r.2.abs=true→openEnds treeTable p w N=some r.2.abs) ?_ h
 clear h
 unfold endsP
 cases h0:toT (start (opening p)).1 with
 | none=>exact True.intro
 | some t0 =>
 dsimp only
 cases h1:impP Thread.atExitBegin (stepT (denote treeTable) (opening p) w) N t0 (start (opening p)).2 with
 | none=>exact True.intro
 | some t1 =>
 dsimp only
 cases h2:fenceModules? p t1.abs with
 | none=>exact True.intro
 | some s0 =>
 dsimp only
 cases h3:s0.heap.isNs mainGlobals&&s0.gens.size==0 with
 | false=>exact True.intro
 | true =>
 dsimp only
 cases h4:toT s0 with
 | none=>exact True.intro
 | some t2 =>
 dsimp only
 cases h5:runP through (stepOk s0.heap.objs.size (s0.heap.nsMap mainGlobals "__annotations__")) (stepT (denote treeTable) p w) N t2 (topStub p) with
 | none=>exact True.intro
 | some t3 =>
 dsimp only
 intro h6
 replace h6:(staticsOk (importedModules p.main.body) s0.heap t3.abs.heap&&namesBound p t3.abs.heap&&gensDone t3.abs&&laidKept s0.heap t3.abs.heap)=true:=h6
 have a:=(impP_ends _ _ _).use h1
 rw [(toT_abs _).use h0] at a
 have b:=(runP_top _ _ _).use h5
 rw [(toT_abs _).use h4] at b
 show openEnds treeTable p w N=some t3.abs
 unfold openEnds fencedOpening
 rw [a,Option.bind_some,h2,Option.bind_some]
 unfold topFrom
 rw [h3]
 dsimp only
 rw [b,Option.bind_some,h6]
end
section
set_option maxHeartbeats 0
noncomputable abbrev S (s:String):Str:=Str.ofString s
noncomputable def atL (l:List Stmt) (i:Nat):Stmt:=match l,i with
 | [],_=>.Pass ⟨0,0,0,0⟩
 | a::_,0=>a
 | _::r,i + 1=>atL r i
noncomputable def stA (i:Nat):Stmt:=atL pw.main.body i
noncomputable def stB (i j:Nat):Stmt:=match stA i with
 | .ClassDef _ _ _ b _ _ _ _ _ _ _=>atL b j
 | _=>.Pass ⟨0,0,0,0⟩
noncomputable def fnO (st:Stmt) (qn:String) (dv kv doc pm:Value) (an:Option Addr) (cd ct:Value) (gl bl:Addr) (_:Nat) (sl:Array (Option Value)):Obj:=match st with
 | .FunctionDef n a b _ _ _ sc _ _ _=>{ cls:=.type "function",data:=.func { name:=n,qualname:=S qn,params:=a,body:=.stmts b,scope:=sc,globals:=gl,closure:=[],defaults:=dv,kwdefaults:=kv,doc:=doc,pyModule:=pm,annotations:=an,code:=cd,closureTuple:=ct,builtins:=bl },slots:=sl }
 | _=>default
noncomputable def dcE (P:Params):List (String × Nat × Value)→List DictEntry
 | []=>[]
 | e::r=>⟨PyData.keyHash P (S e.1),.str (S e.1) e.2.1,e.2.2⟩::dcE P r
noncomputable def dcO (P:Params) (es:List (String × Nat × Value)) (ep:Nat) (c:Value):Obj:={ cls:=c,data:=.dict (dcE P es).toArray ep }
noncomputable def sqO (c:Value) (vs:List Value) (n:Nat):Obj:={ cls:=c,data:=.seq vs.toArray n }
noncomputable def fdO (c:Value) (vs:List Value) (sl:Array (Option Value)):Obj:={ cls:=c,data:=.fields vs.toArray,slots:=sl }
noncomputable def clO (nm:String) (bs mro:List Value) (ns:Addr) (qn:String) (hd:Bool) (_:Nat) (subs:List Value) (ab:Bool) (co:Option Bool) (del:Bool) (c:Value) (sl:Array (Option Value)):Obj :=
 { cls:=c,data:=.cls { name:=S nm,bases:=bs,mro:=mro,ns:=ns,qualname:=S qn,hasDict:=hd,slotNames:=[],subclasses:=subs,abstract:=ab,collection:=co,hasDel:=del },slots:=sl }
noncomputable def KA:List Addr:=[1,2,3,57,58,84,85,87,88,89,114,115,345,355,361,362,368,369,375,376,531,537,538,591,592,644,650,651,657,658,659,687,688,694,695,726,727,737,738,739,740,741,742,743,744,745,746,747,748,749,750,751,752,753,754,755,756,757,758,759,760,761,762,763,764,765,766,767,768,769,770,771,777,778,782,783,787,788,792,793,794,800,801,809,815,816,822,823,899,900,920,921,923,924,934,935,941,942,946,947,951,952,958,959,963,964]
noncomputable def KP (P:Params):Frag:=[(1,dcO P [("builtins",162,(.ref 4)),("__main__",163,(.ref 5)),("_sre",244,(.ref 12)),("_collections",292,(.ref 30))] 4 (.type "dict")),
 (2,dcO P [("\x69mport.loaded._sre",183,(.bool true)),("class._frozen_importlib.BuiltinImporter",185,(.ref 14)),("watched.\x69mport",206,(.ref 18)),("class._frozen_importlib.ModuleSpec",216,(.ref 22)),("sys.modules.booked-epoch",245,(.int (4) 0)),("\x69mport.later-laid._sre",270,(.bool true)),("watched.library",272,(.ref 27)),("watched.library-objects",0,(.str (S "\x0c\x1e") 0)), ("watched.library-deep._sre", 273, (.str (S "\x04\x00\x00\x0b\x04\x00\x00\x0b\x04\x00\x00\x03\x04\x00\x00\x0b\x08\x04dict\x02") 0)), ("\x69mport.loaded._collections", 280, (.bool true)), ("sys.modules.landed._collections", 294, (.bool true)), ("\x69mport.later-laid._collections", 309, (.bool true)), ("watched.library-deep._collections", 311, (.str (S "\x04\x00\x00\x1d\x04\x00\x00\x1d\x04\x00\x00\x03\x04\x00\x00\x1d\x08\x04dict\x02") 0)), ("type.__subclasses__.OSError.0", 367, (.int (68) 0)), ("type.__subclasses__.OSError.n", 368, (.int (1) 0))] 15 .none),
 (3, dcO P [("__name__", 165, (.str (S "law_oh0110_01") 1537)), ("__doc__", 166, .none), ("__package__", 167, .none), ("__loader__", 168, (.builtin "__main__.__loader__#opaque")), ("__spec__", 169, .none), ("__annotations__", 170, (.ref 6)), ("__builtins__", 171, (.ref 4)), ("__file__", 173, (.str (S "/claim/cut.py") 172)), ("__cached__", 174, .none), ("_sre", 275, (.ref 12)), ("deque", 317, (.type "collections.deque")), ("_wall", 330, (.ref 44)), ("_whence", 340, (.ref 51)), ("_index", 348, (.ref 58)), ("UnsupportedOperation", 370, (.ref 68)), ("IOBase", 402, (.ref 88)), ("BufferedIOBase", 420, (.ref 103)), ("TextIOBase", 438, (.ref 115)), ("BytesIO", 700, (.ref 345)), ("StringIO", 987, (.ref 592)), ("_kind", 998, (.ref 601)), ("_fspath", 1007, (.ref 608)), ("_check_arg_types", 1017, (.ref 615)), ("isabs", 1024, (.ref 622)), ("join", 1035, (.ref 629)), ("dirname", 1045, (.ref 636)), ("shlex", 1186, (.ref 727)), ("S_IFMT", 1195, (.ref 738)), ("S_IFDIR", 1197, (.int (16384) 1196)), ("S_IFCHR", 1199, (.int (8192) 1198)), ("S_IFBLK", 1201, (.int (24576) 1200)), ("S_IFREG", 1203, (.int (32768) 1202)), ("S_IFIFO", 1205, (.int (4096) 1204)), ("S_IFLNK", 1207, (.int (40960) 1206)), ("S_IFSOCK", 1209, (.int (49152) 1208)), ("S_ISUID", 1211, (.int (2048) 1210)), ("S_ISGID", 1213, (.int (1024) 1212)), ("S_ISVTX", 1215, (.int (512) 1214)), ("S_IRUSR", 1217, (.int (256) 1216)), ("S_IWUSR", 1219, (.int (128) 1218)), ("S_IXUSR", 1221, (.int (64) 1220)), ("S_IRGRP", 1223, (.int (32) 1222)), ("S_IWGRP", 1225, (.int (16) 1224)), ("S_IXGRP", 1227, (.int (8) 1226)), ("S_IROTH", 1229, (.int (4) 1228)), ("S_IWOTH", 1231, (.int (2) 1230)), ("S_IXOTH", 1233, (.int (1) 1232)), ("_filemode_table", 1259, (.ref 771)), ("filemode", 1271, (.ref 778)), ("tspecials", 1307, (.ref 783)), ("_name_disallowed_re", 1333, (.ref 788)), ("_value_disallowed_re", 1367, (.ref 793)), ("_formatparam", 1377, (.ref 801)), ("Headers", 1536, (.ref 924)), ("_law_row", 1549, (.ref 935)), ("_law_table", 1558, (.ref 942)), ("_law_runs", 1564, (.ref 947)), ("_law_due", 1570, (.ref 952)), ("_law_told", 1580, (.ref 959)), ("law", 1586, (.ref 964))] 60 (.type "dict")),
 (57, fdO (.type "code") [(.str (S "_index") 341), (.str (S "_index") 342), (.str (S "/claim/cut.py") 343), (.int (12) 0), (.int (2) 0), (.int (0) 0), (.int (0) 0), (.int (3) 0), (.ref 52), (.bool true), (.int (318) 0), (.ref 53), .none, (.ref 54), (.ref 55), (.ref 56), (.int (346) 0), (.int (12) 0), (.str (S "/claim/cut.py") 347)] #[]),
 (58, fnO (stA 5) "_index" .none .none .none (.str (S "io") 331) none (.ref 57) .none 3 0 0 #[]),
 (84, fdO (.type "code") [(.str (S "__new__") 385), (.str (S "IOBase.__new__") 386), (.str (S "/claim/cut.py") 387), (.int (24) 0), (.int (1) 0), (.int (1) 0), (.int (0) 0), (.int (15) 0), (.ref 79), (.bool true), (.int (318) 0), (.ref 80), .none, (.ref 81), (.ref 82), (.ref 83), (.int (391) 0), (.int (24) 0), (.str (S "/claim/cut.py") 392)] #[]),
 (85, fnO (stB 7 1) "IOBase.__new__" .none .none .none (.str (S "io") 331) none (.ref 84) .none 3 0 0 #[]),
 (87, dcO P [("__module__", 378, (.str (S "io") 383)), ("__firstlineno__", 382, (.int (21) 381)), ("__new__", 393, (.ref 89)), ("__static_attributes__", 394, (.ref 86)), ("__dict__", 397, (.ref 90)), ("__weakref__", 399, (.ref 91)), ("__doc__", 400, .none)] 4 (.type "dict")),
 (88, clO "IOBase" [(.type "object")] [(.ref 88), (.type "object")] 87 "IOBase" true 0 [(.ref 103), (.ref 115)] false none false (.type "type") #[none, none, (some (.str (S "IOBase") 371)), (some (.str (S "IOBase") 379)), (some .none), (some (.bool true))]),
 (89, fdO (.type "staticmethod") [(.ref 85)] #[]),
 (114, dcO P [("__module__", 428, (.str (S "io") 433)), ("__firstlineno__", 432, (.int (30) 431)), ("__static_attributes__", 435, (.ref 113)), ("__doc__", 436, .none)] 2 (.type "dict")),
 (115, clO "TextIOBase" [(.ref 88)] [(.ref 115), (.ref 88), (.type "object")] 114 "TextIOBase" true 0 [(.ref 592)] false none false (.type "type") #[(some (.ref 106)), none, (some (.str (S "TextIOBase") 421)), (some (.str (S "TextIOBase") 429)), (some .none), (some (.bool true))]),
 (345, clO "BytesIO" [(.ref 103)] [(.ref 345), (.ref 103), (.ref 88), (.type "object")] 344 "BytesIO" true 0 [] false none false (.type "type") #[(some (.ref 118)), none, (some (.str (S "BytesIO") 439)), (some (.str (S "BytesIO") 447)), (some .none), (some (.bool true))]),
 (355, sqO (.type "tuple") [(.str (S "") 715), (.str (S "\n") 716)] 0),
 (361, fdO (.type "code") [(.str (S "__init__") 717), (.str (S "StringIO.__init__") 718), (.str (S "/claim/cut.py") 719), (.int (205) 0), (.int (3) 0), (.int (0) 0), (.int (0) 0), (.int (3) 0), (.ref 356), (.bool true), (.int (318) 0), (.ref 357), .none, (.ref 358), (.ref 359), (.ref 360), (.int (723) 0), (.int (205) 0), (.str (S "/claim/cut.py") 724)] #[]),
 (362, fnO (stB 11 1) "StringIO.__init__" (.ref 355) .none .none (.str (S "io") 331) none (.ref 361) .none 3 0 0 #[]),
 (368, fdO (.type "code") [(.str (S "__translated") 726), (.str (S "StringIO.__translated") 727), (.str (S "/claim/cut.py") 728), (.int (218) 0), (.int (2) 0), (.int (0) 0), (.int (0) 0), (.int (3) 0), (.ref 363), (.bool true), (.int (318) 0), (.ref 364), .none, (.ref 365), (.ref 366), (.ref 367), (.int (732) 0), (.int (218) 0), (.str (S "/claim/cut.py") 733)] #[]),
 (369, fnO (stB 11 2) "StringIO.__translated" .none .none .none (.str (S "io") 331) none (.ref 368) .none 3 0 0 #[]),
 (375, fdO (.type "code") [(.str (S "__check") 735), (.str (S "StringIO.__check") 736), (.str (S "/claim/cut.py") 737), (.int (226) 0), (.int (1) 0), (.int (0) 0), (.int (0) 0), (.int (3) 0), (.ref 370), (.bool true), (.int (318) 0), (.ref 371), .none, (.ref 372), (.ref 373), (.ref 374), (.int (739) 0), (.int (226) 0), (.str (S "/claim/cut.py") 740)] #[]),
 (376, fnO (stB 11 3) "StringIO.__check" .none .none .none (.str (S "io") 331) none (.ref 375) .none 3 0 0 #[]),
 (531, sqO (.type "tuple") [(.int (-1) 908)] 0),
 (537, fdO (.type "code") [(.str (S "read") 909), (.str (S "StringIO.read") 910), (.str (S "/claim/cut.py") 911), (.int (348) 0), (.int (2) 0), (.int (2) 0), (.int (0) 0), (.int (3) 0), (.ref 532), (.bool true), (.int (318) 0), (.ref 533), .none, (.ref 534), (.ref 535), (.ref 536), (.int (916) 0), (.int (348) 0), (.str (S "/claim/cut.py") 917)] #[]),
 (538, fnO (stB 11 25) "StringIO.read" (.ref 531) .none .none (.str (S "io") 331) none (.ref 537) .none 3 0 0 #[]),
 (591, dcO P [("__module__", 708, (.str (S "_io") 713)), ("__firstlineno__", 712, (.int (202) 711)), ("__init__", 725, (.ref 362)), ("_StringIO__translated", 734, (.ref 369)), ("_StringIO__check", 741, (.ref 376)), ("_StringIO__check_dot", 748, (.ref 383)), ("_StringIO__line", 763, (.ref 390)), ("closed", 771, (.ref 398)), ("line_buffering", 779, (.ref 406)), ("newlines", 787, (.ref 414)), ("encoding", 795, (.ref 422)), ("errors", 803, (.ref 430)), ("close", 810, (.ref 437)), ("__enter__", 817, (.ref 444)), ("__exit__", 825, (.ref 451)), ("readable", 832, (.ref 458)), ("writable", 839, (.ref 465)), ("seekable", 846, (.ref 472)), ("isatty", 853, (.ref 479)), ("flush", 860, (.ref 486)), ("fileno", 867, (.ref 493)), ("detach", 874, (.ref 500)), ("getvalue", 881, (.ref 507)), ("tell", 888, (.ref 514)), ("seek", 898, (.ref 522)), ("truncate", 906, (.ref 530)), ("read", 918, (.ref 538)), ("readline", 928, (.ref 546)), ("readlines", 938, (.ref 554)), ("__iter__", 945, (.ref 561)), ("__next__", 953, (.ref 568)), ("write", 965, (.ref 575)), ("writelines", 973, (.ref 582)), ("__repr__", 980, (.ref 589)), ("__static_attributes__", 984, (.ref 590)), ("__doc__", 985, .none)] 2 (.type "dict")),
 (592, clO "StringIO" [(.ref 115)] [(.ref 592), (.ref 115), (.ref 88), (.type "object")] 591 "StringIO" true 0 [] false none false (.type "type") #[(some (.ref 348)), none, (some (.str (S "StringIO") 701)), (some (.str (S "StringIO") 709)), (some .none), (some (.bool true))]),
 (644, sqO (.type "tuple") [.none, .none, (.bool false), (.bool false)] 0),
 (650, fdO (.type "code") [(.str (S "__init__") 1060), (.str (S "shlex.__init__") 1061), (.str (S "/claim/cut.py") 1062), (.int (473) 0), (.int (5) 0), (.int (0) 0), (.int (0) 0), (.int (3) 0), (.ref 645), (.bool true), (.int (318) 0), (.ref 646), .none, (.ref 647), (.ref 648), (.ref 649), (.int (1069) 0), (.int (473) 0), (.str (S "/claim/cut.py") 1070)] #[]),
 (651, fnO (stB 20 0) "shlex.__init__" (.ref 644) .none .none (.str (S "cpy313.shlex") 1046) none (.ref 650) .none 3 0 0 #[]),
 (657, fdO (.type "code") [(.str (S "punctuation_chars") 1072), (.str (S "shlex.punctuation_chars") 1073), (.str (S "/claim/cut.py") 1074), (.int (514) 0), (.int (1) 0), (.int (0) 0), (.int (0) 0), (.int (3) 0), (.ref 652), (.bool true), (.int (318) 0), (.ref 653), .none, (.ref 654), (.ref 655), (.ref 656), (.int (1076) 0), (.int (514) 0), (.str (S "/claim/cut.py") 1077)] #[]),
 (658, fnO (stB 20 1) "shlex.punctuation_chars" .none .none .none (.str (S "cpy313.shlex") 1046) none (.ref 657) .none 3 0 0 #[]),
 (659, fdO (.type "property") [(.ref 658), .none, .none, .none, (.str (S "punctuation_chars") 1079), (.bool false)] #[]),
 (687, fdO (.type "code") [(.str (S "get_token") 1104), (.str (S "shlex.get_token") 1105), (.str (S "/claim/cut.py") 1106), (.int (541) 0), (.int (1) 0), (.int (0) 0), (.int (0) 0), (.int (3) 0), (.ref 682), (.bool true), (.int (318) 0), (.ref 683), .none, (.ref 684), (.ref 685), (.ref 686), (.int (1113) 0), (.int (541) 0), (.str (S "/claim/cut.py") 1114)] #[]),
 (688, fnO (stB 20 5) "shlex.get_token" .none .none .none (.str (S "cpy313.shlex") 1046) none (.ref 687) .none 3 0 0 #[]),
 (694, fdO (.type "code") [(.str (S "read_token") 1116), (.str (S "shlex.read_token") 1117), (.str (S "/claim/cut.py") 1118), (.int (568) 0), (.int (1) 0), (.int (0) 0), (.int (0) 0), (.int (3) 0), (.ref 689), (.bool true), (.int (318) 0), (.ref 690), .none, (.ref 691), (.ref 692), (.ref 693), (.int (1124) 0), (.int (568) 0), (.str (S "/claim/cut.py") 1125)] #[]),
 (695, fnO (stB 20 6) "shlex.read_token" .none .none .none (.str (S "cpy313.shlex") 1046) none (.ref 694) .none 3 0 0 #[]),
 (726, dcO P [("__module__", 1055, (.str (S "cpy313.shlex") 1046)), ("__firstlineno__", 1059, (.int (471) 1058)), ("__init__", 1071, (.ref 651)), ("punctuation_chars", 1079, (.ref 659)), ("push_token", 1087, (.ref 666)), ("push_source", 1096, (.ref 674)), ("pop_source", 1103, (.ref 681)), ("get_token", 1115, (.ref 688)), ("read_token", 1126, (.ref 695)), ("sourcehook", 1134, (.ref 702)), ("error_leader", 1143, (.ref 710)), ("__iter__", 1150, (.ref 717)), ("__next__", 1158, (.ref 724)), ("__static_attributes__", 1179, (.ref 725)), ("__dict__", 1181, (.ref 728)), ("__weakref__", 1183, (.ref 729)), ("__doc__", 1184, .none)] 4 (.type "dict")),
 (727, clO "shlex" [(.type "object")] [(.ref 727), (.type "object")] 726 "shlex" true 0 [] false none false (.type "type") #[none, none, (some (.str (S "shlex") 1048)), (some (.str (S "shlex") 1056)), (some (.builtin "object.__new__")), (some (.bool true))]),
 (737, fdO (.type "code") [(.str (S "S_IFMT") 1189), (.str (S "S_IFMT") 1190), (.str (S "/claim/cut.py") 1191), (.int (724) 0), (.int (1) 0), (.int (0) 0), (.int (0) 0), (.int (3) 0), (.ref 732), (.bool true), (.int (318) 0), (.ref 733), .none, (.ref 734), (.ref 735), (.ref 736), (.int (1193) 0), (.int (724) 0), (.str (S "/claim/cut.py") 1194)] #[]),
 (738, fnO (stA 22) "S_IFMT" .none .none .none (.str (S "cpy313.stat") 1187) none (.ref 737) .none 3 0 0 #[]),
 (739, sqO (.type "tuple") [(.int (40960) 1206), (.str (S "l") 1234)] 0),
 (740, sqO (.type "tuple") [(.int (49152) 1208), (.str (S "s") 1235)] 0),
 (741, sqO (.type "tuple") [(.int (32768) 1202), (.str (S "-") 1236)] 0),
 (742, sqO (.type "tuple") [(.int (24576) 1200), (.str (S "b") 1237)] 0),
 (743, sqO (.type "tuple") [(.int (16384) 1196), (.str (S "d") 1238)] 0),
 (744, sqO (.type "tuple") [(.int (8192) 1198), (.str (S "c") 1239)] 0),
 (745, sqO (.type "tuple") [(.int (4096) 1204), (.str (S "p") 1240)] 0),
 (746, sqO (.type "tuple") [(.ref 739), (.ref 740), (.ref 741), (.ref 742), (.ref 743), (.ref 744), (.ref 745)] 0),
 (747, sqO (.type "tuple") [(.int (256) 1216), (.str (S "r") 1241)] 0),
 (748, sqO (.type "tuple") [(.ref 747)] 0),
 (749, sqO (.type "tuple") [(.int (128) 1218), (.str (S "w") 1242)] 0),
 (750, sqO (.type "tuple") [(.ref 749)] 0),
 (751, sqO (.type "tuple") [(.int (2112) 1243), (.str (S "s") 1244)] 0),
 (752, sqO (.type "tuple") [(.int (2048) 1210), (.str (S "S") 1245)] 0),
 (753, sqO (.type "tuple") [(.int (64) 1220), (.str (S "x") 1246)] 0),
 (754, sqO (.type "tuple") [(.ref 751), (.ref 752), (.ref 753)] 0),
 (755, sqO (.type "tuple") [(.int (32) 1222), (.str (S "r") 1247)] 0),
 (756, sqO (.type "tuple") [(.ref 755)] 0),
 (757, sqO (.type "tuple") [(.int (16) 1224), (.str (S "w") 1248)] 0),
 (758, sqO (.type "tuple") [(.ref 757)] 0),
 (759, sqO (.type "tuple") [(.int (1032) 1249), (.str (S "s") 1250)] 0),
 (760, sqO (.type "tuple") [(.int (1024) 1212), (.str (S "S") 1251)] 0),
 (761, sqO (.type "tuple") [(.int (8) 1226), (.str (S "x") 1252)] 0),
 (762, sqO (.type "tuple") [(.ref 759), (.ref 760), (.ref 761)] 0),
 (763, sqO (.type "tuple") [(.int (4) 1228), (.str (S "r") 1253)] 0),
 (764, sqO (.type "tuple") [(.ref 763)] 0),
 (765, sqO (.type "tuple") [(.int (2) 1230), (.str (S "w") 1254)] 0),
 (766, sqO (.type "tuple") [(.ref 765)] 0),
 (767, sqO (.type "tuple") [(.int (513) 1255), (.str (S "t") 1256)] 0),
 (768, sqO (.type "tuple") [(.int (512) 1214), (.str (S "T") 1257)] 0),
 (769, sqO (.type "tuple") [(.int (1) 1232), (.str (S "x") 1258)] 0),
 (770, sqO (.type "tuple") [(.ref 767), (.ref 768), (.ref 769)] 0),
 (771, sqO (.type "tuple") [(.ref 746), (.ref 748), (.ref 750), (.ref 754), (.ref 756), (.ref 758), (.ref 762), (.ref 764), (.ref 766), (.ref 770)] 0),
 (777, fdO (.type "code") [(.str (S "filemode") 1260), (.str (S "filemode") 1261), (.str (S "/claim/cut.py") 1262), (.int (746) 0), (.int (1) 0), (.int (0) 0), (.int (0) 0), (.int (3) 0), (.ref 772), (.bool true), (.int (318) 0), (.ref 773), .none, (.ref 774), (.ref 775), (.ref 776), (.int (1269) 0), (.int (746) 0), (.str (S "/claim/cut.py") 1270)] #[]),
 (778, fnO (stA 43) "filemode" .none .none .none (.str (S "cpy313.stat") 1187) none (.ref 777) .none 3 0 0 #[]),
 (782, sqO (.type "tuple") [(.int (14) 0), (.int (14) 0), (.int (4) 0), (.int (1) 0), (.int (1) 0), (.int (9) 0), (.int (0) 0), (.int (4227896069) 0), (.int (939524097) 0), (.int (0) 0), (.int (0) 0), (.int (0) 0), (.int (0) 0), (.int (0) 0), (.int (0) 0), (.int (13) 0), (.int (11) 0), (.int (9) 0), (.int (0) 0), (.int (4227896069) 0), (.int (939524097) 0), (.int (0) 0), (.int (0) 0), (.int (0) 0), (.int (0) 0), (.int (0) 0), (.int (0) 0), (.int (1) 0)] 0),
 (783, fdO (.type "re.Pattern") [(.str (S "[ \\(\\)<>@,;:\\\\\"/\\[\\]\\?=]") 1275),(.int (32) 1306),(.int (0) 0),.none,.none,(.ref 782),(.int (0) 0)] #[]),
 (787,sqO (.type "tuple") [(.int (14) 0),(.int (10) 0),(.int (4) 0),(.int (1) 0),(.int (1) 0),(.int (22) 0),(.int (0) 0),(.int (31) 0),(.int (16) 0),(.int (127) 0),(.int (0) 0),(.int (13) 0),(.int (7) 0),(.int (22) 0),(.int (0) 0),(.int (31) 0),(.int (16) 0),(.int (127) 0),(.int (0) 0),(.int (1) 0)] 0),
 (788,fdO (.type "re.Pattern") [(.str (S "[\\x00-\\x1F\\x7F]") 1309),(.int (32) 1332),(.int (0) 0),.none,.none,(.ref 787),(.int (0) 0)] #[]),
 (792,sqO (.type "tuple") [(.int (14) 0),(.int (14) 0),(.int (4) 0),(.int (1) 0),(.int (1) 0),(.int (9) 0),(.int (4294966783) 0),(.int (0) 0),(.int (0) 0),(.int (2147483648) 0),(.int (0) 0),(.int (0) 0),(.int (0) 0),(.int (0) 0),(.int (0) 0),(.int (13) 0),(.int (11) 0),(.int (9) 0),(.int (4294966783) 0),(.int (0) 0),(.int (0) 0),(.int (2147483648) 0),(.int (0) 0),(.int (0) 0),(.int (0) 0),(.int (0) 0),(.int (0) 0),(.int (1) 0)] 0),
 (793,fdO (.type "re.Pattern") [(.str (S "[\\x00-\\x08\\x0A-\\x1F\\x7F]") 1335),(.int (32) 1366),(.int (0) 0),.none,.none,(.ref 792),(.int (0) 0)] #[]),
 (794,sqO (.type "tuple") [.none,(.int (1) 1368)] 0),
 (800,fdO (.type "code") [(.str (S "_formatparam") 1369),(.str (S "_formatparam") 1370),(.str (S "/claim/cut.py") 1371),(.int (767) 0),(.int (3) 0),(.int (0) 0),(.int (0) 0),(.int (3) 0),(.ref 795),(.bool true),(.int (318) 0),(.ref 796),.none,(.ref 797),(.ref 798),(.ref 799),(.int (1375) 0),(.int (767) 0),(.str (S "/claim/cut.py") 1376)] #[]),
 (801,fnO (stA 48) "_formatparam" (.ref 794) .none .none (.str (S "cpy313.wsgiref.headers") 1272) none (.ref 800) .none 3 0 0 #[]),
 (809,sqO (.type "tuple") [.none] 0),
 (815,fdO (.type "code") [(.str (S "__init__") 1390),(.str (S "Headers.__init__") 1391),(.str (S "/claim/cut.py") 1392),(.int (778) 0),(.int (2) 0),(.int (0) 0),(.int (0) 0),(.int (3) 0),(.ref 810),(.bool true),(.int (318) 0),(.ref 811),.none,(.ref 812),(.ref 813),(.ref 814),(.int (1397) 0),(.int (778) 0),(.str (S "/claim/cut.py") 1398)] #[]),
 (816,fnO (stB 49 0) "Headers.__init__" (.ref 809) .none .none (.str (S "cpy313.wsgiref.headers") 1272) none (.ref 815) .none 3 0 0 #[]),
 (822,fdO (.type "code") [(.str (S "_convert_string_type") 1400),(.str (S "Headers._convert_string_type") 1401),(.str (S "/claim/cut.py") 1402),(.int (788) 0),(.int (2) 0),(.int (0) 0),(.int (1) 0),(.int (3) 0),(.ref 817),(.bool true),(.int (318) 0),(.ref 818),.none,(.ref 819),(.ref 820),(.ref 821),(.int (1407) 0),(.int (788) 0),(.str (S "/claim/cut.py") 1408)] #[]),
 (823,fnO (stB 49 1) "Headers._convert_string_type" .none .none .none (.str (S "cpy313.wsgiref.headers") 1272) none (.ref 822) .none 3 0 0 #[]),
 (899,fdO (.type "code") [(.str (S "__str__") 1493),(.str (S "Headers.__str__") 1494),(.str (S "/claim/cut.py") 1495),(.int (835) 0),(.int (1) 0),(.int (0) 0),(.int (0) 0),(.int (3) 0),(.ref 896),(.bool true),(.int (318) 0),(.ref 897),.none,.none,.none,(.ref 898),(.int (1496) 0),(.int (835) 0),(.str (S "/claim/cut.py") 1497)] #[]),
 (900,fnO (stB 49 13) "Headers.__str__" .none .none .none (.str (S "cpy313.wsgiref.headers") 1272) none (.ref 899) .none 3 0 0 #[]),
 (920,fdO (.type "code") [(.str (S "add_header") 1515),(.str (S "Headers.add_header") 1516),(.str (S "/claim/cut.py") 1517),(.int (844) 0),(.int (3) 0),(.int (0) 0),(.int (0) 0),(.int (11) 0),(.ref 915),(.bool true),(.int (318) 0),(.ref 916),.none,(.ref 917),(.ref 918),(.ref 919),(.int (1525) 0),(.int (844) 0),(.str (S "/claim/cut.py") 1526)] #[]),
 (921,fnO (stB 49 16) "Headers.add_header" .none .none .none (.str (S "cpy313.wsgiref.headers") 1272) none (.ref 920) .none 3 0 0 #[]),
 (923,dcO P [("__module__",1385,(.str (S "cpy313.wsgiref.headers") 1272)),("__firstlineno__",1389,(.int (776) 1388)),("__init__",1399,(.ref 816)),("_convert_string_type",1409,(.ref 823)),("__len__",1416,(.ref 830)),("__setitem__",1425,(.ref 837)),("__delitem__",1431,(.ref 842)),("__getitem__",1439,(.ref 849)),("__contains__",1447,(.ref 856)),("get_all",1455,(.ref 863)),("get",1466,(.ref 871)),("keys",1472,(.ref 876)),("values",1478,(.ref 881)),("items",1485,(.ref 888)),("__repr__",1492,(.ref 895)),("__str__",1498,(.ref 900)),("__bytes__",1505,(.ref 907)),("setdefault",1514,(.ref 914)),("add_header",1527,(.ref 921)),("__static_attributes__",1529,(.ref 922)),("__dict__",1531,(.ref 925)),("__weakref__",1533,(.ref 926)),("__doc__",1534,.none)] 4 (.type "dict")),
 (924,clO "Headers" [(.type "object")] [(.ref 924),(.type "object")] 923 "Headers" true 0 [] false none false (.type "type") #[none,none,(some (.str (S "Headers") 1378)),(some (.str (S "Headers") 1386)),(some (.builtin "object.__new__")),(some (.bool true))]),
 (934,fdO (.type "code") [(.str (S "_law_row") 1539),(.str (S "_law_row") 1540),(.str (S "/claim/cut.py") 1541),(.int (858) 0),(.int (1) 0),(.int (0) 0),(.int (0) 0),(.int (3) 0),(.ref 929),(.bool true),(.int (318) 0),(.ref 930),.none,(.ref 931),(.ref 932),(.ref 933),(.int (1547) 0),(.int (858) 0),(.str (S "/claim/cut.py") 1548)] #[]),
 (935,fnO (stA 51) "_law_row" .none .none .none (.str (S "law_oh0110_01") 1537) none (.ref 934) .none 3 0 0 #[]),
 (941,fdO (.type "code") [(.str (S "_law_table") 1550),(.str (S "_law_table") 1551),(.str (S "/claim/cut.py") 1552),(.int (863) 0),(.int (1) 0),(.int (0) 0),(.int (0) 0),(.int (3) 0),(.ref 936),(.bool true),(.int (318) 0),(.ref 937),.none,(.ref 938),(.ref 939),(.ref 940),(.int (1556) 0),(.int (863) 0),(.str (S "/claim/cut.py") 1557)] #[]),
 (942,fnO (stA 52) "_law_table" .none .none .none (.str (S "law_oh0110_01") 1537) none (.ref 941) .none 3 0 0 #[]),
 (946,fdO (.type "code") [(.str (S "_law_runs") 1559),(.str (S "_law_runs") 1560),(.str (S "/claim/cut.py") 1561),(.int (868) 0),(.int (1) 0),(.int (0) 0),(.int (0) 0),(.int (3) 0),(.ref 943),(.bool true),(.int (318) 0),(.ref 944),.none,.none,.none,(.ref 945),(.int (1562) 0),(.int (868) 0),(.str (S "/claim/cut.py") 1563)] #[]),
 (947,fnO (stA 53) "_law_runs" .none .none .none (.str (S "law_oh0110_01") 1537) none (.ref 946) .none 3 0 0 #[]),
 (951,fdO (.type "code") [(.str (S "_law_due") 1565),(.str (S "_law_due") 1566),(.str (S "/claim/cut.py") 1567),(.int (871) 0),(.int (1) 0),(.int (0) 0),(.int (0) 0),(.int (3) 0),(.ref 948),(.bool true),(.int (318) 0),(.ref 949),.none,.none,.none,(.ref 950),(.int (1568) 0),(.int (871) 0),(.str (S "/claim/cut.py") 1569)] #[]),
 (952,fnO (stA 54) "_law_due" .none .none .none (.str (S "law_oh0110_01") 1537) none (.ref 951) .none 3 0 0 #[]),
 (958,fdO (.type "code") [(.str (S "_law_told") 1571),(.str (S "_law_told") 1572),(.str (S "/claim/cut.py") 1573),(.int (887) 0),(.int (1) 0),(.int (0) 0),(.int (0) 0),(.int (3) 0),(.ref 953),(.bool true),(.int (318) 0),(.ref 954),.none,(.ref 955),(.ref 956),(.ref 957),(.int (1578) 0),(.int (887) 0),(.str (S "/claim/cut.py") 1579)] #[]),
 (959,fnO (stA 55) "_law_told" .none .none .none (.str (S "law_oh0110_01") 1537) none (.ref 958) .none 3 0 0 #[]),
 (963,fdO (.type "code") [(.str (S "law") 1581),(.str (S "law") 1582),(.str (S "/claim/cut.py") 1583),(.int (897) 0),(.int (1) 0),(.int (0) 0),(.int (0) 0),(.int (3) 0),(.ref 960),(.bool true),(.int (318) 0),(.ref 961),.none,.none,.none,(.ref 962),(.int (1584) 0),(.int (897) 0),(.str (S "/claim/cut.py") 1585)] #[]),
 (964,fnO (stA 56) "law" .none .none .none (.str (S "law_oh0110_01") 1537) none (.ref 963) .none 3 0 0 #[])]
theorem KA_eq (P:Params):KA=(KP P).map (·.1):=by kernel_rfl
noncomputable def qv:Program:={ pw with main:={ pw.main with body:=pw.main.body.drop 56 } }
noncomputable def looseN:List Str:=[Str.ofString "_sre",Str.ofString "deque",Str.ofString "_wall",Str.ofString "_whence",Str.ofString "_index",Str.ofString "UnsupportedOperation",Str.ofString "IOBase",Str.ofString "BufferedIOBase",Str.ofString "TextIOBase",Str.ofString "BytesIO",Str.ofString "StringIO",Str.ofString "_kind",Str.ofString "_fspath",Str.ofString "_check_arg_types",Str.ofString "isabs",Str.ofString "join",Str.ofString "dirname",Str.ofString "shlex",Str.ofString "S_IFMT",Str.ofString "S_IFDIR",Str.ofString "S_IFCHR",Str.ofString "S_IFBLK",Str.ofString "S_IFREG",Str.ofString "S_IFIFO",Str.ofString "S_IFLNK",Str.ofString "S_IFSOCK",Str.ofString "S_ISUID",Str.ofString "S_ISGID",Str.ofString "S_ISVTX",Str.ofString "S_IRUSR",Str.ofString "S_IWUSR",Str.ofString "S_IXUSR",Str.ofString "S_IRGRP",Str.ofString "S_IWGRP",Str.ofString "S_IXGRP",Str.ofString "S_IROTH",Str.ofString "S_IWOTH",Str.ofString "S_IXOTH",Str.ofString "_filemode_table",Str.ofString "filemode",Str.ofString "tspecials",Str.ofString "_name_disallowed_re",Str.ofString "_value_disallowed_re",Str.ofString "_formatparam",Str.ofString "Headers",Str.ofString "_law_row",Str.ofString "_law_table",Str.ofString "_law_runs",Str.ofString "_law_due",Str.ofString "_law_told"]
noncomputable def endsQ (w:World):Option (Shared × SharedT) :=
 endsP PySem.W.Fast.tw3805553451399329143 through PySem.W.Fast.tw6613529449190102663 PySem.W.Fast.tw10156331382660048174 (PySem.W.Fast.tw11892475500146522536 PySem.W.Fast.tw14364793385576792824) (PySem.W.Fast.tw14289696077712309145 pw) (PySem.W.Fast.tw1435165496053646825 (opening pw)) (fun h=>h.isNs mainGlobals) (fun h=>PySem.W.Fast.tw8920871248978507458 h mainGlobals "__annotations__") pw (opening pw) w 13000 (topStub pw)
set_option profiler true
theorem ends_seen (w:World):(endsQ w).map (fun r=>(chkS pw r.1 r.2.abs,PySem.W.Fast.tw4187177175401517315 qv looseN (importedModules pw.main.body) (fun _=>true) true r.2.abs))=some (true,openGood qv looseN):=by kernel_rfl
theorem heap_seen (w:World):(endsQ w).map (fun r=>KA.map (tget r.2))=some ((KP w.params).map fun p=>some p.2):=by kernel_rfl
set_option profiler false
end
section
set_option maxHeartbeats 4000000
theorem law_said:PySem.Challenge.rw_oh0110_01.wellSaid=true:=by
 rw [PySem.W.Fast.te9446332074065402090]
 delta PySem.W.Fast.tw9446332074065402090
 repeat' with_reducible refine look_both ?_ ?_
 focus
  delta PySem.W.Fast.tw17960256430627541270
  repeat' with_reducible refine look_both ?_ ?_
  focus
   delta PySem.W.Fast.tw2436336058641802641
   repeat' with_reducible refine look_both ?_ ?_
   focus
    delta PySem.W.Fast.tw12908688711261696721
    repeat' with_reducible refine look_both ?_ ?_
 all_goals decide +kernel
end
section
set_option maxHeartbeats 4000000
theorem left_ok:LeftO pw qv looseN (fun _=>true) (fun s=>KA.map s.heap.get?) (fun w=>(KP w.params).map fun p=>some p.2) 13000:=by
 intro w
 obtain ⟨r,hs,hv⟩:=Option.map_eq_some_iff.mp (ends_seen w)
 have hd:=heap_seen w
 rw [hs] at hd
 replace hv:=Prod.mk.inj hv
 have hk:KA.map (tget r.2)=(KP w.params).map fun p=>some p.2:=Option.some.inj hd
 rw [funext (tget_abs r.2)] at hk
 have h:openEnds treeTable pw w 13000=some r.2.abs:=by
   refine ends_of ?_ hv.1
   rw [← hs]
   unfold endsQ
   rw [← PySem.W.Fast.te3805553451399329143,← PySem.W.Fast.te6613529449190102663,← PySem.W.Fast.te10156331382660048174,← PySem.W.Fast.te11892475500146522536,← PySem.W.Fast.te14364793385576792824,← PySem.W.Fast.te14289696077712309145,← PySem.W.Fast.te1435165496053646825,← PySem.W.Fast.te8920871248978507458]
 rw [h]
 have hg:=hv.2
 rw [← PySem.W.Fast.te4187177175401517315] at hg
 exact congrArg some (congr (congrArg Prod.mk hg) hk)
noncomputable abbrev rw_:OpenRow:=PySem.Challenge.rw_oh0110_01.row
noncomputable def dOf:Stmt→DefRec
 | .FunctionDef n a b _ _ _ sc _ _ p=>⟨n,a,b,sc,p⟩
 | _=>⟨default,default,[],default,⟨0,0,0,0⟩⟩
noncomputable def dLaw:DefRec:=dOf (stA 56)
theorem def_law:defOf qv rw_.name=some (dLaw,[]):=by kernel_rfl
theorem the_law:rw_.prog.theDef rw_.name=some (dLaw.params,dLaw.body,dLaw.scope):=by kernel_rfl
theorem kw_law:kwWritten? dLaw.params.kwonlyargs dLaw.params.kw_defaults=some []:=by kernel_rfl
theorem rec_law (s:Shared) (_:(fun (_:Shared)=>true) s=true):RecFacts rw_.records s.heap:=recFacts_of (by kernel_rfl)
theorem ok_law:(chainsOk qv&&opensWell rw_.prog&&(frees rw_.toRowW&&rw_.within.isEmpty))=true:=by kernel_rfl
theorem wr_law:(!rw_.writes || rw_.records.isEmpty)=true:=by kernel_rfl
theorem prom_law:rw_.toRowW.promised:=⟨[.list []],by kernel_rfl,by kernel_rfl⟩
theorem head (walk:WalkO qv looseN (fun _ _=>True) (InK KP) rw_.toRowW dLaw [] fun f vs=>PySem.call f vs):PySem.Challenge.rw_oh0110_01.Holds :=
 holds_law law_said fun said=>holds_open left_ok (InK.of KA_eq) InK.keeps (fun _ _=>trivial) (fun _ _ _ _ _=>trivial) def_law the_law kw_law rec_law wr_law said ok_law ⟨rfl,rfl,rfl,rfl,rfl,by decide +kernel⟩ prom_law walk
end
section
set_option maxHeartbeats 200000
inductive Bi where
 | len | range | zip | enumerate | type | int | bool | str | list | tuple | isinstance | deque | object
 | lAppend | lExtend | sJoin | sReplace | sMaketrans | sTranslate | dItems | dFromkeys | ValueError | dict | reSearch
noncomputable def Bi.val:Bi→Value
 | .len=>.builtin "len" | .range=>.type "range" | .zip=>.type "zip" | .enumerate=>.type "enumerate" | .type=>.type "type" | .int=>.type "int" | .bool=>.type "bool" | .str=>.type "str" | .list=>.type "list" | .tuple=>.type "tuple"
 | .isinstance=>.builtin "isinstance" | .deque=>.type "collections.deque" | .object=>.type "object"
 | .lAppend=>.builtin "list.append" | .lExtend=>.builtin "list.extend" | .sJoin=>.builtin "str.join" | .sReplace=>.builtin "str.replace" | .sMaketrans=>.builtin "str.maketrans" | .sTranslate=>.builtin "str.translate" | .dItems=>.builtin "dict.items" | .dFromkeys=>.builtin "dict.fromkeys" | .ValueError=>.type "ValueError" | .dict=>.type "dict" | .reSearch=>.builtin "re.Pattern.search"
inductive AV where
 | none | bool (b:Bool) | int (i:Int) | str (s:Str) | obj (i:Nat) | top (a:Nat) | bi (b:Bi)
inductive AO where
 | inst (C d:Nat)
 | dict (es:List (Str × AV))
 | list (xs:List AV)
 | tup (xs:List AV)
 | deq (xs:List AV)
 | sio (dn rest:List Nat)
 | cell (v:Option AV)
 | kw (es:List (Str × AV))
 | frk (ks:List Nat)
 | trn (ks:List Nat)
structure AS where
 lo:List (Str × AV)
 hp:List AO
 ob:List Nat
noncomputable def addOb (n:Nat) (ob:List Nat):List Nat:=match Nat.ble n 4096 with
 | true=>ob
 | false=>n::ob
inductive Fl where
 | next | brk | cont | ret (v:AV)
inductive R (α:Type) where
 | ok (a:α) (s:AS)
 | exc (m:Str) (s:AS)
 | bad
noncomputable def R.bind {α β:Type} (r:R α) (f:α→AS→R β):R β:=match r with
 | .ok a s=>f a s
 | .exc m s=>.exc m s
 | .bad=>.bad
theorem ceBad {α:Type} {a:α} {s:AS} {C:Prop} (h:R.bad=R.ok a s):C:=nomatch h
theorem ceNS {α:Type _} {a:α} {C:Prop} (h:none=some a):C:=nomatch h
theorem ceSN {α:Type _} {a:α} {C:Prop} (h:some a=none):C:=nomatch h
theorem ceTF {C:Prop} (h:true=false):C:=nomatch h
theorem ceFT {C:Prop} (h:false=true):C:=nomatch h
theorem ceOk {α:Type} {a b:α} {s t:AS} {C:Prop} (h:R.ok a s=R.ok b t) (k:a=b→s=t→C):C:=by injection h with h1 h2; exact k h1 h2
theorem ceSS {α:Type _} {a b:α} {C:Prop} (h:some a=some b) (k:a=b→C):C:=by injection h with h1; exact k h1
theorem ceSS' {α:Type _} {a b:α} {C:Prop} (h:some a=some b) (k:a=b→True→C):C:=ceSS h fun e=>k e True.intro
theorem cePP {α β:Type _} {a b:α} {c d:β} {C:Prop} (h:(a,c)=(b,d)) (k:a=b→c=d→C):C:=by injection h with h1 h2; exact k h1 h2
theorem ceCC {α:Type _} {a b:α} {c d:List α} {C:Prop} (h:a::c=b::d) (k:a=b→c=d→C):C:=by injection h with h1 h2; exact k h1 h2
theorem ceCN {α:Type _} {a:α} {l:List α} {C:Prop} (h:a::l=[]):C:=nomatch h
theorem cdSS {α:Type _} {a b:α} {C:Prop} (h:some a=some b) (k:b=a→C):C:=by injection h with h1; exact k h1.symm
theorem cdSS' {α:Type _} {a b:α} {C:Prop} (h:some a=some b) (k:b=a→True→C):C:=cdSS h fun e=>k e True.intro
theorem ob02 {p0 p1:Prop} {C:Prop}:(p0∧p1)→(p0→p1→C)→C:=fun h f=>f h.1 h.2
theorem ob11 {α0:Sort _} {p0:α0→Prop} {C:Prop}:(∃ x0,p0 x0)→(∀ x0,p0 x0→C)→C:=fun h f=>Exists.elim h fun x0 h=>f x0 h
theorem ob03 {p0 p1 p2:Prop} {C:Prop}:(p0∧p1∧p2)→(p0→p1→p2→C)→C:=fun h f=>f h.1 h.2.1 h.2.2
theorem ob12 {α0:Sort _} {p0 p1:α0→Prop} {C:Prop}:(∃ x0,p0 x0∧p1 x0)→(∀ x0,p0 x0→p1 x0→C)→C:=fun h f=>Exists.elim h fun x0 h=>f x0 h.1 h.2
theorem ob21 {α0 α1:Sort _} {p0:α0→α1→Prop} {C:Prop}:(∃ x0 x1,p0 x0 x1)→(∀ x0 x1,p0 x0 x1→C)→C:=fun h f=>Exists.elim h fun x0 h=>Exists.elim h fun x1 h=>f x0 x1 h
theorem ob04 {p0 p1 p2 p3:Prop} {C:Prop}:(p0∧p1∧p2∧p3)→(p0→p1→p2→p3→C)→C:=fun h f=>f h.1 h.2.1 h.2.2.1 h.2.2.2
theorem ob13 {α0:Sort _} {p0 p1 p2:α0→Prop} {C:Prop}:(∃ x0,p0 x0∧p1 x0∧p2 x0)→(∀ x0,p0 x0→p1 x0→p2 x0→C)→C:=fun h f=>Exists.elim h fun x0 h=>f x0 h.1 h.2.1 h.2.2
theorem ob22 {α0 α1:Sort _} {p0 p1:α0→α1→Prop} {C:Prop}:(∃ x0 x1,p0 x0 x1∧p1 x0 x1)→(∀ x0 x1,p0 x0 x1→p1 x0 x1→C)→C:=fun h f=>Exists.elim h fun x0 h=>Exists.elim h fun x1 h=>f x0 x1 h.1 h.2
theorem ob31 {α0 α1 α2:Sort _} {p0:α0→α1→α2→Prop} {C:Prop}:(∃ x0 x1 x2,p0 x0 x1 x2)→(∀ x0 x1 x2,p0 x0 x1 x2→C)→C:=fun h f=>Exists.elim h fun x0 h=>Exists.elim h fun x1 h=>Exists.elim h fun x2 h=>f x0 x1 x2 h
theorem ob05 {p0 p1 p2 p3 p4:Prop} {C:Prop}:(p0∧p1∧p2∧p3∧p4)→(p0→p1→p2→p3→p4→C)→C:=fun h f=>f h.1 h.2.1 h.2.2.1 h.2.2.2.1 h.2.2.2.2
theorem ob14 {α0:Sort _} {p0 p1 p2 p3:α0→Prop} {C:Prop}:(∃ x0,p0 x0∧p1 x0∧p2 x0∧p3 x0)→(∀ x0,p0 x0→p1 x0→p2 x0→p3 x0→C)→C:=fun h f=>Exists.elim h fun x0 h=>f x0 h.1 h.2.1 h.2.2.1 h.2.2.2
theorem ob23 {α0 α1:Sort _} {p0 p1 p2:α0→α1→Prop} {C:Prop}:(∃ x0 x1,p0 x0 x1∧p1 x0 x1∧p2 x0 x1)→(∀ x0 x1,p0 x0 x1→p1 x0 x1→p2 x0 x1→C)→C:=fun h f=>Exists.elim h fun x0 h=>Exists.elim h fun x1 h=>f x0 x1 h.1 h.2.1 h.2.2
theorem ob32 {α0 α1 α2:Sort _} {p0 p1:α0→α1→α2→Prop} {C:Prop}:(∃ x0 x1 x2,p0 x0 x1 x2∧p1 x0 x1 x2)→(∀ x0 x1 x2,p0 x0 x1 x2→p1 x0 x1 x2→C)→C:=fun h f=>Exists.elim h fun x0 h=>Exists.elim h fun x1 h=>Exists.elim h fun x2 h=>f x0 x1 x2 h.1 h.2
theorem ob41 {α0 α1 α2 α3:Sort _} {p0:α0→α1→α2→α3→Prop} {C:Prop}:(∃ x0 x1 x2 x3,p0 x0 x1 x2 x3)→(∀ x0 x1 x2 x3,p0 x0 x1 x2 x3→C)→C:=fun h f=>Exists.elim h fun x0 h=>Exists.elim h fun x1 h=>Exists.elim h fun x2 h=>Exists.elim h fun x3 h=>f x0 x1 x2 x3 h
theorem ob06 {p0 p1 p2 p3 p4 p5:Prop} {C:Prop}:(p0∧p1∧p2∧p3∧p4∧p5)→(p0→p1→p2→p3→p4→p5→C)→C:=fun h f=>f h.1 h.2.1 h.2.2.1 h.2.2.2.1 h.2.2.2.2.1 h.2.2.2.2.2
theorem ob15 {α0:Sort _} {p0 p1 p2 p3 p4:α0→Prop} {C:Prop}:(∃ x0,p0 x0∧p1 x0∧p2 x0∧p3 x0∧p4 x0)→(∀ x0,p0 x0→p1 x0→p2 x0→p3 x0→p4 x0→C)→C:=fun h f=>Exists.elim h fun x0 h=>f x0 h.1 h.2.1 h.2.2.1 h.2.2.2.1 h.2.2.2.2
theorem ob24 {α0 α1:Sort _} {p0 p1 p2 p3:α0→α1→Prop} {C:Prop}:(∃ x0 x1,p0 x0 x1∧p1 x0 x1∧p2 x0 x1∧p3 x0 x1)→(∀ x0 x1,p0 x0 x1→p1 x0 x1→p2 x0 x1→p3 x0 x1→C)→C:=fun h f=>Exists.elim h fun x0 h=>Exists.elim h fun x1 h=>f x0 x1 h.1 h.2.1 h.2.2.1 h.2.2.2
theorem ob33 {α0 α1 α2:Sort _} {p0 p1 p2:α0→α1→α2→Prop} {C:Prop}:(∃ x0 x1 x2,p0 x0 x1 x2∧p1 x0 x1 x2∧p2 x0 x1 x2)→(∀ x0 x1 x2,p0 x0 x1 x2→p1 x0 x1 x2→p2 x0 x1 x2→C)→C:=fun h f=>Exists.elim h fun x0 h=>Exists.elim h fun x1 h=>Exists.elim h fun x2 h=>f x0 x1 x2 h.1 h.2.1 h.2.2
theorem ob42 {α0 α1 α2 α3:Sort _} {p0 p1:α0→α1→α2→α3→Prop} {C:Prop}:(∃ x0 x1 x2 x3,p0 x0 x1 x2 x3∧p1 x0 x1 x2 x3)→(∀ x0 x1 x2 x3,p0 x0 x1 x2 x3→p1 x0 x1 x2 x3→C)→C:=fun h f=>Exists.elim h fun x0 h=>Exists.elim h fun x1 h=>Exists.elim h fun x2 h=>Exists.elim h fun x3 h=>f x0 x1 x2 x3 h.1 h.2
theorem ob51 {α0 α1 α2 α3 α4:Sort _} {p0:α0→α1→α2→α3→α4→Prop} {C:Prop}:(∃ x0 x1 x2 x3 x4,p0 x0 x1 x2 x3 x4)→(∀ x0 x1 x2 x3 x4,p0 x0 x1 x2 x3 x4→C)→C:=fun h f=>Exists.elim h fun x0 h=>Exists.elim h fun x1 h=>Exists.elim h fun x2 h=>Exists.elim h fun x3 h=>Exists.elim h fun x4 h=>f x0 x1 x2 x3 x4 h
theorem ob25 {α0 α1:Sort _} {p0 p1 p2 p3 p4:α0→α1→Prop} {C:Prop}:(∃ x0 x1,p0 x0 x1∧p1 x0 x1∧p2 x0 x1∧p3 x0 x1∧p4 x0 x1)→(∀ x0 x1,p0 x0 x1→p1 x0 x1→p2 x0 x1→p3 x0 x1→p4 x0 x1→C)→C:=fun h f=>Exists.elim h fun x0 h=>Exists.elim h fun x1 h=>f x0 x1 h.1 h.2.1 h.2.2.1 h.2.2.2.1 h.2.2.2.2
theorem ob34 {α0 α1 α2:Sort _} {p0 p1 p2 p3:α0→α1→α2→Prop} {C:Prop}:(∃ x0 x1 x2,p0 x0 x1 x2∧p1 x0 x1 x2∧p2 x0 x1 x2∧p3 x0 x1 x2)→(∀ x0 x1 x2,p0 x0 x1 x2→p1 x0 x1 x2→p2 x0 x1 x2→p3 x0 x1 x2→C)→C:=fun h f=>Exists.elim h fun x0 h=>Exists.elim h fun x1 h=>Exists.elim h fun x2 h=>f x0 x1 x2 h.1 h.2.1 h.2.2.1 h.2.2.2
theorem ob61 {α0 α1 α2 α3 α4 α5:Sort _} {p0:α0→α1→α2→α3→α4→α5→Prop} {C:Prop}:(∃ x0 x1 x2 x3 x4 x5,p0 x0 x1 x2 x3 x4 x5)→(∀ x0 x1 x2 x3 x4 x5,p0 x0 x1 x2 x3 x4 x5→C)→C:=fun h f=>Exists.elim h fun x0 h=>Exists.elim h fun x1 h=>Exists.elim h fun x2 h=>Exists.elim h fun x3 h=>Exists.elim h fun x4 h=>Exists.elim h fun x5 h=>f x0 x1 x2 x3 x4 x5 h
theorem ob35 {α0 α1 α2:Sort _} {p0 p1 p2 p3 p4:α0→α1→α2→Prop} {C:Prop}:(∃ x0 x1 x2,p0 x0 x1 x2∧p1 x0 x1 x2∧p2 x0 x1 x2∧p3 x0 x1 x2∧p4 x0 x1 x2)→(∀ x0 x1 x2,p0 x0 x1 x2→p1 x0 x1 x2→p2 x0 x1 x2→p3 x0 x1 x2→p4 x0 x1 x2→C)→C:=fun h f=>Exists.elim h fun x0 h=>Exists.elim h fun x1 h=>Exists.elim h fun x2 h=>f x0 x1 x2 h.1 h.2.1 h.2.2.1 h.2.2.2.1 h.2.2.2.2
theorem ob36 {α0 α1 α2:Sort _} {p0 p1 p2 p3 p4 p5:α0→α1→α2→Prop} {C:Prop}:(∃ x0 x1 x2,p0 x0 x1 x2∧p1 x0 x1 x2∧p2 x0 x1 x2∧p3 x0 x1 x2∧p4 x0 x1 x2∧p5 x0 x1 x2)→(∀ x0 x1 x2,p0 x0 x1 x2→p1 x0 x1 x2→p2 x0 x1 x2→p3 x0 x1 x2→p4 x0 x1 x2→p5 x0 x1 x2→C)→C:=fun h f=>Exists.elim h fun x0 h=>Exists.elim h fun x1 h=>Exists.elim h fun x2 h=>f x0 x1 x2 h.1 h.2.1 h.2.2.1 h.2.2.2.1 h.2.2.2.2.1 h.2.2.2.2.2
theorem ob45 {α0 α1 α2 α3:Sort _} {p0 p1 p2 p3 p4:α0→α1→α2→α3→Prop} {C:Prop}:(∃ x0 x1 x2 x3,p0 x0 x1 x2 x3∧p1 x0 x1 x2 x3∧p2 x0 x1 x2 x3∧p3 x0 x1 x2 x3∧p4 x0 x1 x2 x3)→(∀ x0 x1 x2 x3,p0 x0 x1 x2 x3→p1 x0 x1 x2 x3→p2 x0 x1 x2 x3→p3 x0 x1 x2 x3→p4 x0 x1 x2 x3→C)→C:=fun h f=>Exists.elim h fun x0 h=>Exists.elim h fun x1 h=>Exists.elim h fun x2 h=>Exists.elim h fun x3 h=>f x0 x1 x2 x3 h.1 h.2.1 h.2.2.1 h.2.2.2.1 h.2.2.2.2
noncomputable def lbq:List Nat→List Nat→Bool
 | [],[]=>true
 | a::r,b::q=>match Nat.beq a b with
   | true=>lbq r q
   | false=>false
 | _,_=>false
noncomputable def sq (a b:Str):Bool:=lbq a.cps.toList b.cps.toList
theorem lbq_c (a b:Nat) (r q:List Nat):lbq (a::r) (b::q)=(match Nat.beq a b with | true=>lbq r q | false=>false):=rfl
theorem lbq_refl (a:List Nat):lbq a a=true:=by
 induction a with
 | nil=>rfl
 | cons a r ih=>rw [lbq_c,Nat.beq_refl]; exact ih
theorem lbq_to (a:List Nat):∀ b,lbq a b=true→a=b:=by
 induction a with
 | nil =>
   intro b h
   cases b with
   | nil=>rfl
   | cons=>exact ceFT h
 | cons a r ih =>
   intro b h
   cases b with
   | nil=>exact ceFT h
   | cons b q =>
     rw [lbq_c] at h
     revert h
     cases h:Nat.beq a b with
     | true=>exact fun k=>by rw [Nat.eq_of_beq_eq_true h,ih q k]
     | false=>exact fun h=>ceFT h
theorem lbq_iff (a b:List Nat):lbq a b=true ↔ a=b:=⟨lbq_to a b,fun h=>h ▸ lbq_refl a⟩
theorem sq_iff (a b:Str):sq a b=true ↔ a=b:=by
 unfold sq
 rw [lbq_iff]
 constructor
 · intro h
   cases a with | mk x=>cases b with | mk y =>
   cases x; cases y
   simp at h
   subst h; rfl
 · rintro rfl; rfl
theorem sq_no {a b:Str} (h:sq a b=false):a ≠ b:=fun e=>by rw [(sq_iff a b).mpr e] at h; cases h
noncomputable def look {α:Type} (x:Str):List (Str × α)→Option α
 | []=>.none
 | p::r=>match sq p.1 x with
   | true=>some p.2
   | false=>look x r
noncomputable def put {α:Type} (x:Str) (v:α):List (Str × α)→List (Str × α)
 | []=>[(x,v)]
 | p::r=>match sq p.1 x with
   | true=>(p.1,v)::r
   | false=>p::put x v r
noncomputable def setAt {α:Type}:List α→Nat→α→List α
 | [],_,_=>[]
 | _::r,0,v=>v::r
 | a::r,i + 1,v=>a::setAt r i v
noncomputable def atI {α:Type}:List α→Nat→Option α
 | [],_=>.none
 | a::_,0=>some a
 | _::r,i + 1=>atI r i
noncomputable def inS (x y:Str):Option Bool:=match x.cps.toList with
 | [c]=>some (y.cps.toList.any (Nat.beq c))
 | _=>.none
noncomputable def strsA:List AV→Option (List Str)
 | []=>some []
 | .str y::r=>(strsA r).map (y::·)
 | _::_=>.none
noncomputable def cmpA (op:CmpOp) (a b:AV) (hp:List AO):Option Bool:=match op with
 | .Eq=>match a,b with
   | .str x,.str y=>some (sq x y)
   | .int x,.int y=>some (x==y)
   | .bool x,.bool y=>some (x==y)
   | _,_=>.none
 | .NotEq=>match a,b with
   | .str x,.str y=>some (!sq x y)
   | .int x,.int y=>some (!(x==y))
   | .bool x,.bool y=>some (!(x==y))
   | _,_=>.none
 | .Lt=>match a,b with | .int x,.int y=>some (decide (x<y)) | _,_=>.none
 | .LtE=>match a,b with | .int x,.int y=>some (decide (x≤y)) | _,_=>.none
 | .Gt=>match a,b with | .int x,.int y=>some (decide (x > y)) | _,_=>.none
 | .GtE=>match a,b with | .int x,.int y=>some (decide (x ≥ y)) | _,_=>.none
 | .Is=>match a,b with
   | .none,.none=>some true
   | .bool _,.none=>some false
   | .int _,.none=>some false
   | .str _,.none=>some false
   | .obj _,.none=>some false
   | .top _,.none=>some false
   | _,_=>.none
 | .IsNot=>match a,b with
   | .none,.none=>some false
   | .bool _,.none=>some true
   | .int _,.none=>some true
   | .str _,.none=>some true
   | .obj _,.none=>some true
   | .top _,.none=>some true
   | _,_=>.none
 | .In=>match a,b with
   | .str x,.str y=>inS x y
   | .str x,.obj i=>(match atI hp i with
     | some (.tup xs)=>(strsA xs).map fun ys=>ys.any fun y=>sq y x
     | _=>.none)
   | _,_=>.none
 | .NotIn=>match a,b with
   | .str x,.str y=>(inS x y).map (! ·)
   | _,_=>.none
noncomputable def trA (v:AV) (hp:List AO):Option Bool:=match v with
 | .none=>some false
 | .bool b=>some b
 | .int i=>some (!(i==0))
 | .str s=>match s.cps.toList with | []=>some false | _::_=>some true
 | .obj i=>match atI hp i with
   | some (.deq [])=>some false
   | some (.deq [_])=>some true
   | _=>.none
 | _=>.none
noncomputable def binA (op:Operator) (a b:AV) (s:AS):R AV:=match op with
 | .Add=>match a,b with
   | .int x,.int y=>.ok (.int (x + y)) s
   | .str x,.str y=>.ok (.str (x++y)) { s with ob:=addOb (x.length + y.length) s.ob }
   | _,_=>.bad
 | .Sub=>match a,b with | .int x,.int y=>.ok (.int (x - y)) s | _,_=>.bad
 | _=>.bad
noncomputable def augA (op:Operator) (a b:AV) (s:AS):R AV:=match op with
 | .Add=>binA .Add a b s
 | _=>.bad
structure FnI where
 prm:List Str
 scn:List (Str × NameKind)
 body:List Stmt
 kws:List Str
 dfl:List (Str × AV)
inductive Mb where
 | own | meth (f:Nat) | prop (f:Nat)
structure Tab where
 bin:Operator→AV→AV→AS→Option (R AV)
 cmp:CmpOp→AV→AV→AS→Option Bool
 bic:Bi→List AV→AS→Option (R AV)
 mbi:AV→Str→List AO→Option (Bi × Bool)
 sub:AV→AV→AS→Option (R AV)
 slc:AV→Option AV→Option AV→AS→Option (R AV)
 fn:Nat→Option FnI
 cls:Nat→Str→Option Mb
 glob:Str→Option AV
 prim:Nat→List AV→List (Str × AV)→AS→Option (R AV)
 make:Nat→Option Nat
 tup:Nat→Option (List AV)
 spc:List (Str × NameKind)→Expr→AS→Option (R AV)
 turns:Nat
noncomputable def cmpT (T:Tab) (op:CmpOp) (a b:AV) (s:AS):Option Bool:=match T.cmp op a b s with
 | some r=>some r
 | .none=>cmpA op a b s.hp
structure I where
 ev:List (Str × NameKind)→Expr→AS→R AV
 tr:List (Str × NameKind)→Expr→AS→R Bool
 ex:List (Str × NameKind)→Stmt→AS→R Fl
 exs:List (Str × NameKind)→List Stmt→AS→R Fl
 call:AV→List AV→List (Str × AV)→AS→R AV
noncomputable def I.bad:I:=⟨fun _ _ _=>.bad,fun _ _ _=>.bad,fun _ _ _=>.bad,fun _ _ _=>.bad,fun _ _ _ _=>.bad⟩
noncomputable def optR {α:Type} (o:Option α) (s:AS):R α:=match o with | some a=>.ok a s | .none=>.bad
noncomputable def loopW (tr:AS→R Bool) (body:AS→R Fl):Nat→AS→R Fl
 | 0,_=>.bad
 | k + 1,s=>(tr s).bind fun b s₁=>match b with
   | false=>.ok .next s₁
   | true=>(body s₁).bind fun f s₂=>match f with
     | .next=>loopW tr body k s₂
     | .cont=>loopW tr body k s₂
     | .brk=>.ok .next s₂
     | .ret v=>.ok (.ret v) s₂
noncomputable def evL (ev:Expr→AS→R AV):List Expr→AS→R (List AV)
 | [],s=>.ok [] s
 | e::r,s=>(ev e s).bind fun v s₁=>(evL ev r s₁).bind fun vs s₂=>.ok (v::vs) s₂
noncomputable def optE (ev:Expr→AS→R AV) (o:Option Expr) (s:AS):R (Option AV):=match o with
 | .none=>.ok .none s
 | some e=>(ev e s).bind fun v s₁=>.ok (some v) s₁
noncomputable def allA (tr:Expr→AS→R Bool):List Expr→AS→R Bool
 | [],s=>.ok true s
 | e::r,s=>(tr e s).bind fun b s₁=>match b with
   | false=>.ok false s₁
   | true=>allA tr r s₁
noncomputable def anyA (tr:Expr→AS→R Bool):List Expr→AS→R Bool
 | [],s=>.ok false s
 | e::r,s=>(tr e s).bind fun b s₁=>match b with
   | true=>.ok true s₁
   | false=>anyA tr r s₁
noncomputable def zipP:List Str→List AV→Option (List (Str × AV))
 | [],[]=>some []
 | x::r,v::q=>(zipP r q).map ((x,v)::·)
 | _,_=>.none
noncomputable def nmNl:Str:=⟨⟨[95,83,116,114,105,110,103,73,79,95,95,110,101,119,108,105,110,101]⟩⟩
noncomputable def nmBuf:Str:=⟨⟨[95,83,116,114,105,110,103,73,79,95,95,98,117,102]⟩⟩
noncomputable def nmPos:Str:=⟨⟨[95,83,116,114,105,110,103,73,79,95,95,112,111,115]⟩⟩
noncomputable def esOf:AO→Option (List (Str × AV))
 | .dict es=>some es
 | .sio dn r=>some [(nmNl,.str ⟨⟨[10]⟩⟩),(nmBuf,.str ⟨⟨dn++r⟩⟩),(nmPos,.int dn.length)]
 | _=>.none
noncomputable def getA (T:Tab) (i:I) (v:AV) (n:Str) (s:AS):R AV:=match v with
 | .obj k=>match atI s.hp k with
   | some (.inst C d)=>match T.cls C n with
     | some (.prop f)=>i.call (.top f) [v] [] s
     | some .own=>match atI s.hp d with
       | some (.dict es)=>optR (look n es) s
       | _=>.bad
     | _=>.bad
   | _=>.bad
 | _=>.bad
noncomputable def setA (T:Tab) (v:AV) (n:Str) (x:AV) (s:AS):R Fl:=match v with
 | .obj k=>match atI s.hp k with
   | some (.inst C d)=>match T.cls C n with
     | some .own=>match atI s.hp d with
       | some (.dict es)=>match Nat.ble es.length 900 with
         | true=>.ok .next { s with hp:=setAt s.hp d (.dict (put n x es)) }
         | false=>.bad
       | _=>.bad
     | _=>.bad
   | _=>.bad
 | _=>.bad
inductive Tg where
 | fn (f:Nat) | deqPop | deqApp | bi (b:Bi) (st:Bool)
noncomputable def nmPop:Str:=⟨⟨[112,111,112]⟩⟩
noncomputable def nmAppend:Str:=⟨⟨[97,112,112,101,110,100]⟩⟩
noncomputable def nmDebug:Str:=⟨⟨[95,95,100,101,98,117,103,95,95]⟩⟩
noncomputable def methF (T:Tab) (v:AV) (n:Str) (hp:List AO):Option Tg:=match T.mbi v n hp with
 | some b=>some (.bi b.1 b.2)
 | .none=>match v with
 | .obj k=>match atI hp k with
   | some (.inst C d)=>match T.cls C n with
     | some (.meth f)=>match (atI hp d).bind esOf with
       | some es=>match look n es with
         | .none=>some (.fn f)
         | some _=>.none
       | _=>.none
     | _=>.none
   | some (.deq _)=>match sq n nmPop with
     | true=>some .deqPop
     | false=>match sq n nmAppend with
       | true=>some .deqApp
       | false=>.none
   | _=>.none
 | _=>.none
noncomputable def tgA (T:Tab) (i:I) (t:Tg) (v:AV) (as:List AV) (ks:List (Str × AV)) (s:AS):R AV:=match t with
 | .fn f=>i.call (.top f) (v::as) ks s
 | .bi b st=>match ks with
   | []=>(T.bic b (match st with | true=>as | false=>v::as) s).getD .bad
   | _=>.bad
 | .deqPop=>match v,as,ks with
   | .obj k,[],[]=>(match atI s.hp k with
     | some (.deq [x])=>.ok x { s with hp:=setAt s.hp k (.deq []) }
     | _=>.bad)
   | _,_,_=>.bad
 | .deqApp=>match v,as,ks with
   | .obj k,[x],[]=>(match atI s.hp k with
     | some (.deq [])=>.ok .none { s with hp:=setAt s.hp k (.deq [x]) }
     | _=>.bad)
   | _,_,_=>.bad
noncomputable def noStar:List Expr→Bool
 | []=>true
 | .Starred _ _::_=>false
 | _::r=>noStar r
noncomputable def inTup:CmpOp→Expr→Option (List Expr)
 | .In,.Tuple es _ _=>some es
 | _,_=>.none
noncomputable def inTupA (a:AV) (vs:List AV):Option Bool:=match a with
 | .str x=>(strsA vs).map fun ys=>ys.any fun y=>sq y x
 | _=>.none
noncomputable def isComp:Expr→Bool
 | .ListComp ..=>true | .SetComp ..=>true | .DictComp ..=>true | .GeneratorExp ..=>true | _=>false
inductive Src where
 | lst (k:Nat) | tpl (k:Nat) | rng (n:Nat) | top (a:Nat) (vs:List AV) | enum (a:Nat) (vs:List AV) | zip (k l:Nat)
inductive It where
 | one (v:AV) | many (vs:List AV)
noncomputable def tupOf (hp:List AO) (k:Nat):Option (List AV):=match atI hp k with
 | some (.tup xs)=>some xs
 | _=>.none
noncomputable def listOf (hp:List AO) (k:Nat):Option (List AV):=match atI hp k with
 | some (.list xs)=>some xs
 | _=>.none
noncomputable def itemA (src:Src) (j:Nat) (hp:List AO):Option (Option It):=match src with
 | .lst k=>match listOf hp k with
   | some xs=>some (match atI xs j with | some v=>some (.one v) | .none=>.none)
   | .none=>.none
 | .tpl k=>match tupOf hp k with
   | some xs=>some (match atI xs j with | some v=>some (.one v) | .none=>.none)
   | .none=>.none
 | .rng n=>some (match Nat.blt j n with | true=>some (.one (.int j)) | false=>.none)
 | .top _ vs=>some (match atI vs j with | some v=>some (.one v) | .none=>.none)
 | .enum _ vs=>some (match atI vs j with | some v=>some (.many [.int j,v]) | .none=>.none)
 | .zip k l=>match listOf hp k,listOf hp l with
   | some xs,some ys=>some (match atI xs j,atI ys j with | some a,some b=>some (.many [a,b]) | _,_=>.none)
   | _,_=>.none
noncomputable def stoA (sc:List (Str × NameKind)) (x:Str) (v:AV) (s:AS):Option AS:=match look x sc with
 | some .local=>some { s with lo:=put x v s.lo }
 | some .cell=>match look x s.lo with
   | some (.obj i)=>match atI s.hp i with
     | some (.cell _)=>some { s with hp:=setAt s.hp i (.cell (some v)) }
     | _=>.none
   | _=>.none
 | _=>.none
noncomputable def namesOf:List Expr→Option (List Str)
 | []=>some []
 | .Name x _::r=>(namesOf r).map (x::·)
 | _::_=>.none
noncomputable def stoL (sc:List (Str × NameKind)):List Str→List AV→AS→Option AS
 | [],[],s=>some s
 | x::r,v::q,s=>match stoA sc x v s with
   | some s₁=>stoL sc r q s₁
   | .none=>.none
 | _,_,_=>.none
noncomputable def unpA (T:Tab) (it:It) (hp:List AO):Option (List AV):=match it with
 | .many vs=>some vs
 | .one v=>match v with
   | .obj k=>match atI hp k with
     | some (.tup xs)=>some xs
     | _=>.none
   | .top a=>T.tup a
   | _=>.none
noncomputable def asgA (T:Tab) (sc:List (Str × NameKind)) (t:Expr) (it:It) (s:AS):Option AS:=match t with
 | .Name x _=>match it with
   | .one v=>stoA sc x v s
   | .many _=>.none
 | .Tuple es _ _=>match namesOf es,unpA T it s.hp with
   | some xs,some vs=>stoL sc xs vs s
   | _,_=>.none
 | _=>.none
noncomputable def forA (turn:Nat→AS→Option (Option AS)) (body els:AS→R Fl):Nat→Nat→AS→R Fl
 | 0,_,_=>.bad
 | k + 1,j,s=>match turn j s with
   | .none=>.bad
   | some .none=>els s
   | some (some s₁)=>(body s₁).bind fun f s₂=>match f with
     | .next=>forA turn body els k (j + 1) s₂
     | .cont=>forA turn body els k (j + 1) s₂
     | .brk=>.ok .next s₂
     | .ret v=>.ok (.ret v) s₂
noncomputable def compA (turn:Nat→AS→Option (Option AS)) (test:AS→R Bool) (elt:AS→R AV):Nat→Nat→List AV→AS→R (List AV)
 | 0,_,_,_=>.bad
 | k + 1,j,acc,s=>match turn j s with
   | .none=>.bad
   | some .none=>.ok acc s
   | some (some s₁)=>(test s₁).bind fun b s₂=>match b with
     | false=>compA turn test elt k (j + 1) acc s₂
     | true=>(elt s₂).bind fun v s₃=>compA turn test elt k (j + 1) (acc++[v]) s₃
noncomputable def forTurn (T:Tab) (sc:List (Str × NameKind)) (t:Expr) (src:Src) (j:Nat) (s:AS):Option (Option AS):=match itemA src j s.hp with
 | .none=>.none
 | some .none=>some .none
 | some (some it)=>match asgA T sc t it s with
   | some s₁=>some (some s₁)
   | .none=>.none
noncomputable def compScn (sc:List (Str × NameKind)):List (Str × NameKind):=sc.map fun p=>match p.2 with | .free=>(p.1,.cell) | k=>(p.1,k)
noncomputable def nmDot:Str:=⟨⟨[46,48]⟩⟩
noncomputable def nodupS:List Str→Bool
 | []=>true
 | a::r=>(r.all fun b=>!sq b a)&&nodupS r
noncomputable def isLoc (sc:List (Str × NameKind)) (x:Str):Bool:=match look x sc with | some .local=>true | _=>false
noncomputable def compOk (outer sc:List (Str × NameKind)) (t:Expr):Bool:=match look nmDot outer,look nmDot sc with
 | .none,some _=>(sc.all fun p=>match p.2 with
     | .local=>true
     | .globalImplicit=>true
     | .free=>(match look p.1 outer with | some .cell=>true | _=>false)
     | _=>false)&&nodupS (sc.map (·.1))&&(match t with
     | .Name x _=>isLoc sc x
     | .Tuple es _ _=>(match namesOf es with
       | some xs=>nodupS xs&&xs.all (isLoc sc)
       | .none=>false)
     | _=>false)
 | _,_=>false
noncomputable def kindFn (s:Scope):Bool:=match s.kind with | .function=>true | _=>false
noncomputable def compVars (t:Expr) (it:It):Option (List (Str × AV)):=match t with
 | .Name x _=>match it with
   | .one v=>some [(x,v)]
   | .many _=>.none
 | .Tuple es _ _=>match namesOf es,it with
   | some xs,.many vs=>zipP xs vs
   | _,_=>.none
 | _=>.none
noncomputable def cellLo (csc:List (Str × NameKind)):List (Str × AV)→List (Str × AV)
 | []=>[]
 | p::r=>match look p.1 csc with
   | some .cell=>p::cellLo csc r
   | _=>cellLo csc r
noncomputable def compTurn (t:Expr) (src:Src) (lo:List (Str × AV)) (j:Nat) (s:AS):Option (Option AS):=match itemA src j s.hp with
 | .none=>.none
 | some .none=>some .none
 | some (some it)=>match compVars t it with
   | some vs=>some (some { s with lo:=vs++lo })
   | .none=>.none
noncomputable def srcV (T:Tab) (v:AV) (s:AS):R Src:=match v with
 | .obj k=>(match atI s.hp k with
   | some ao=>(match ao with
     | .list _=>.ok (.lst k) s
     | .tup _=>.ok (.tpl k) s
     | _=>.bad)
   | .none=>.bad)
 | .top a=>(match T.tup a with
   | some vs=>.ok (.top a vs) s
   | .none=>.bad)
 | _=>.bad
noncomputable def srcB (T:Tab) (v:AV) (vs:List AV) (s:AS):R Src:=match v with
 | .bi b=>(match b with
   | .range=>(match vs with
     | [.int n]=>(match decide (0≤n)&&decide (n≤1000) with
       | true=>.ok (.rng n.toNat) s
       | false=>.bad)
     | _=>.bad)
   | .enumerate=>(match vs with
     | [.top a]=>(match T.tup a with
       | some us=>.ok (.enum a us) s
       | .none=>.bad)
     | _=>.bad)
   | .zip=>(match vs with
     | [.obj k,.obj l]=>(match listOf s.hp k,listOf s.hp l with
       | some _,some _=>.ok (.zip k l) s
       | _,_=>.bad)
     | _=>.bad)
   | _=>.bad)
 | _=>.bad
noncomputable def guardR {α:Type} (b:Bool) (r:R α):R α:=match b with
 | true=>r
 | false=>.bad
noncomputable def srcF (T:Tab) (i:I) (sc:List (Str × NameKind)) (f:Expr) (as:List Expr) (s:AS):R Src :=
 (i.ev sc f s).bind fun v s₁=>(evL (i.ev sc) as s₁).bind fun vs s₂=>srcB T v vs s₂
noncomputable def srcA (T:Tab) (i:I) (sc:List (Str × NameKind)) (e:Expr) (s:AS):R Src:=match e with
 | .Call f as ks _=>(match ks with
   | []=>guardR (noStar as) (match f with
     | .Name x q=>srcF T i sc (.Name x q) as s
     | _=>.bad)
   | _::_=>.bad)
 | e=>(i.ev sc e s).bind (srcV T)
noncomputable def kwNames:List Keyword→Option (List (Str × Expr))
 | []=>some []
 | k::r=>match k with
   | ⟨some n,e,_⟩=>(kwNames r).map ((n,e)::·)
   | _=>.none
noncomputable def evK (ev:Expr→AS→R AV):List (Str × Expr)→AS→R (List (Str × AV))
 | [],s=>.ok [] s
 | e::r,s=>(ev e.2 s).bind fun v s₁=>(evK ev r s₁).bind fun vs s₂=>.ok ((e.1,v)::vs) s₂
noncomputable def sqL:List Str→List Str→Bool
 | [],[]=>true
 | a::r,b::q=>match sq a b with | true=>sqL r q | false=>false
 | _,_=>false
noncomputable def cellNs:List (Str × NameKind)→List Str
 | []=>[]
 | p::r=>match p.2 with
   | .cell=>p.1::cellNs r
   | _=>cellNs r
noncomputable def enter (fi:FnI) (as:List AV) (ks:List (Str × AV)) (hp:List AO):Option (List (Str × AV) × List AO):=match sqL (ks.map (·.1)) fi.kws with
 | false=>.none
 | true=>match zipP fi.prm (as++ks.map (·.2)) with
   | .none=>.none
   | some lo=>match cellNs fi.scn with
     | []=>some (lo++fi.dfl,hp)
     | [c]=>some ((c,AV.obj hp.length)::(lo++fi.dfl),hp++[AO.cell (look c (lo++fi.dfl))])
     | _=>.none
noncomputable def baseOk:Expr→Bool
 | .Name ..=>true | .Attribute ..=>true | .Constant ..=>true | .Subscript ..=>true
 | .Call (.Attribute ..) _ _ _=>true
 | _=>false
noncomputable def evC (c:Const) (s:AS):R AV:=match c with
 | .none=>.ok .none s
 | .bool b=>.ok (.bool b) s
 | .int k=>.ok (.int k) s
 | .str x=>.ok (.str x) { s with ob:=addOb x.length s.ob }
 | _=>.bad
noncomputable def cellA (x:Str) (s:AS):R AV:=match look x s.lo with
 | some (.obj k)=>(match atI s.hp k with
   | some (.cell (some v))=>.ok v s
   | _=>.bad)
 | _=>.bad
noncomputable def evN (T:Tab) (sc:List (Str × NameKind)) (x:Str) (s:AS):R AV:=match sq x nmDebug with
 | true=>.ok (.bool true) s
 | false=>match look x sc with
   | some k=>(match k with
     | .local=>optR (look x s.lo) s
     | .cell=>cellA x s
     | .globalImplicit=>optR (T.glob x) s
     | _=>.bad)
   | .none=>.bad
noncomputable def evB (T:Tab) (i:I) (sc:List (Str × NameKind)) (l:Expr) (op:Operator) (r:Expr) (s:AS):R AV :=
 (i.ev sc l s).bind fun a s₁=>(i.ev sc r s₁).bind fun b s₂=>(T.bin op a b s₂).getD (binA op a b s₂)
noncomputable def cmp2 (T:Tab) (i:I) (sc:List (Str × NameKind)) (l:Expr) (op:CmpOp) (r:Expr) (s:AS):R Bool :=
 guardR (!behindInMarks op r) ((i.ev sc l s).bind fun a s₁=>(i.ev sc r s₁).bind fun b s₂=>optR (cmpT T op a b s₂) s₂)
noncomputable def newA (f:List AV→AO) (vs:List AV) (s:AS):R AV:=.ok (.obj s.hp.length) { s with hp:=s.hp++[f vs],ob:=addOb vs.length s.ob }
noncomputable def evSeq (i:I) (sc:List (Str × NameKind)) (f:List AV→AO) (es:List Expr) (s:AS):R AV :=
 guardR (noStar es) ((evL (i.ev sc) es s).bind (newA f))
noncomputable def evU (op:UnaryOp) (e:Expr) (s:AS):R AV:=match op with
 | .USub=>(match e with
   | .Constant c _ _=>(match c with
     | .int k=>.ok (.int (-k)) s
     | _=>.bad)
   | _=>.bad)
 | _=>.bad
noncomputable def evI (i:I) (sc:List (Str × NameKind)) (t b o:Expr) (s:AS):R AV:=(i.tr sc t s).bind fun c s₁=>i.ev sc (match c with | true=>b | false=>o) s₁
noncomputable def evSl (T:Tab) (i:I) (sc:List (Str × NameKind)) (v:Expr) (l u:Option Expr) (s:AS):R AV :=
 (i.ev sc v s).bind fun a s₁=>(optE (i.ev sc) l s₁).bind fun l' s₂=>(optE (i.ev sc) u s₂).bind fun u' s₃=>(T.slc a l' u' s₃).getD .bad
noncomputable def evS (T:Tab) (i:I) (sc:List (Str × NameKind)) (v ix:Expr) (s:AS):R AV :=
 (i.ev sc v s).bind fun a s₁=>(i.ev sc ix s₁).bind fun b s₂=>(T.sub a b s₂).getD .bad
noncomputable def evLC (T:Tab) (i:I) (sc:List (Str × NameKind)) (el t it:Expr) (ifs:List Expr) (csc:Scope) (s:AS):R AV :=
 guardR (compOk sc csc.names t&&kindFn csc) ((srcA T i sc it s).bind fun src s₁ =>
   (compA (compTurn t src (cellLo (compScn csc.names) s₁.lo)) (allA (i.tr (compScn csc.names)) ifs) (i.ev (compScn csc.names) el) T.turns 0 [] s₁).bind fun vs s₂ =>
     newA .list vs { s₂ with lo:=s₁.lo })
noncomputable def isZero:Int→Bool
 | .ofNat 0=>true
 | _=>false
noncomputable def evM (T:Tab) (i:I) (sc:List (Str × NameKind)) (o:Expr) (n:Str) (as:List Expr) (kes:List (Str × Expr)) (s:AS):R AV :=
 (i.ev sc o s).bind fun v s₁=>(optR (methF T v n s₁.hp) s₁).bind fun t s₁=>(evL (i.ev sc) as s₁).bind fun vs s₂=>(evK (i.ev sc) kes s₂).bind fun ws s₃=>tgA T i t v vs ws s₃
noncomputable def calA (T:Tab) (i:I) (v:AV) (vs:List AV) (ws:List (Str × AV)) (s:AS):R AV:=match v with
 | .bi b=>(match ws with
   | []=>(T.bic b vs s).getD .bad
   | _::_=>.bad)
 | v=>i.call v vs ws s
noncomputable def evF (T:Tab) (i:I) (sc:List (Str × NameKind)) (f:Expr) (as:List Expr) (kes:List (Str × Expr)) (s:AS):R AV :=
 (i.ev sc f s).bind fun v s₁=>(evL (i.ev sc) as s₁).bind fun vs s₂=>(evK (i.ev sc) kes s₂).bind fun ws s₃=>calA T i v vs ws s₃
noncomputable def evCall (T:Tab) (i:I) (sc:List (Str × NameKind)) (f:Expr) (as:List Expr) (ks:List Keyword) (p:Pos) (s:AS):R AV:=match kwNames ks with
 | some kes=>guardR (noStar as) (match f with
   | .Attribute o n ap=>guardR (ap.endLine==p.line&&decide (as.length + ks.length<15)&&baseOk o) (evM T i sc o n as kes s)
   | .Name x q=>evF T i sc (.Name x q) as kes s
   | _=>.bad)
 | .none=>.bad
noncomputable def trP (i:I) (sc:List (Str × NameKind)) (e:Expr) (s:AS):R Bool:=(i.ev sc e s).bind fun v s₁=>optR (trA v s₁.hp) s₁
noncomputable def trIn (i:I) (sc:List (Str × NameKind)) (l:Expr) (es:List Expr) (s:AS):R Bool :=
 guardR (noStar es) ((i.ev sc l s).bind fun a s₁=>(evL (i.ev sc) es s₁).bind fun vs s₂=>optR (inTupA a vs) { s₂ with ob:=addOb vs.length s₂.ob })
noncomputable def exE (i:I) (sc:List (Str × NameKind)) (v:Expr) (s:AS):R Fl:=guardR (!isComp v) ((i.ev sc v s).bind fun x s₁=>match x with | .none=>.ok .next s₁ | _=>.bad)
noncomputable def isLocal (o:Option NameKind):Bool:=match o with
 | some k=>(match k with | .local=>true | _=>false)
 | .none=>false
noncomputable def putR (x:Str) (a:AV) (s:AS):R Fl:=.ok .next { s with lo:=put x a s.lo }
noncomputable def exA (T:Tab) (i:I) (sc:List (Str × NameKind)) (t v:Expr) (s:AS):R Fl:=match t with
 | .Name x _=>guardR (isLocal (look x sc)) ((i.ev sc v s).bind (putR x))
 | .Attribute o n _=>(match o with
   | .Name o q=>guardR (!isComp v) ((i.ev sc v s).bind fun a s₁=>(i.ev sc (.Name o q) s₁).bind fun ov s₂=>setA T ov n a s₂)
   | _=>.bad)
 | _=>.bad
noncomputable def exG (T:Tab) (i:I) (sc:List (Str × NameKind)) (t:Expr) (op:Operator) (v:Expr) (s:AS):R Fl:=match t with
 | .Name x _=>guardR (isLocal (look x sc)) ((optR (look x s.lo) s).bind fun a s₁=>(i.ev sc v s₁).bind fun b s₂=>(augA op a b s₂).bind (putR x))
 | .Attribute o n _=>(match o with
   | .Name o q=>(i.ev sc (.Name o q) s).bind fun ov s₀=>(getA T i ov n s₀).bind fun a s₁=>(i.ev sc v s₁).bind fun b s₂=>(augA op a b s₂).bind fun c s₃=>setA T ov n c s₃
   | _=>.bad)
 | _=>.bad
noncomputable def exF (T:Tab) (i:I) (sc:List (Str × NameKind)) (t it:Expr) (b o:List Stmt) (s:AS):R Fl:=(srcA T i sc it s).bind fun src s₁=>forA (forTurn T sc t src) (i.exs sc b) (i.exs sc o) T.turns 0 s₁
noncomputable def retV:Fl→AV
 | .ret v=>v
 | _=>.none
noncomputable def bodyA (i:I) (fi:FnI) (lo:List (Str × AV)) (hp:List AO) (s:AS):R AV:=match i.exs fi.scn fi.body { s with lo:=lo,hp:=hp } with
 | .ok fl s₁=>.ok (retV fl) { s₁ with lo:=s.lo }
 | .exc m s₁=>.exc m { s₁ with lo:=s.lo }
 | .bad=>.bad
noncomputable def callF (i:I) (fi:FnI) (as:List AV) (ks:List (Str × AV)) (s:AS):R AV:=match enter fi as ks s.hp with
 | some p=>bodyA i fi p.1 p.2 s
 | .none=>.bad
noncomputable def makeA (i:I) (a f:Nat) (as:List AV) (ks:List (Str × AV)) (s:AS):R AV :=
 (i.call (.top f) (.obj (s.hp.length + 1)::as) ks { s with hp:=s.hp++[.dict [],.inst a s.hp.length] }).bind fun v s₁=>match v with
   | .none=>.ok (.obj (s.hp.length + 1)) s₁
   | _=>.bad
noncomputable def callT (T:Tab) (i:I) (a:Nat) (as:List AV) (ks:List (Str × AV)) (s:AS):R AV:=match T.prim a as ks s with
 | some r=>r
 | .none=>match T.make a with
   | some f=>makeA i a f as ks s
   | .none=>match T.fn a with
     | some fi=>callF i fi as ks s
     | .none=>.bad
noncomputable def step (T:Tab) (i:I):I where
 ev:=fun sc e s=>match e with
   | .Constant c _ _=>evC c s
   | .Name x _=>evN T sc x s
   | .Attribute o n _=>guardR (baseOk o) ((i.ev sc o s).bind fun v s₁=>getA T i v n s₁)
   | .BinOp l op r _=>evB T i sc l op r s
   | .Compare l ops rs _=>(match ops,rs with
     | [op],[r]=>(cmp2 T i sc l op r s).bind fun b s₁=>.ok (.bool b) s₁
     | _,_=>.bad)
   | .Tuple es _ _=>evSeq i sc .tup es s
   | .List es _=>evSeq i sc .list es s
   | .UnaryOp op e _=>evU op e s
   | .IfExp t b o _=>evI i sc t b o s
   | .Subscript v ix _=>(match ix with
     | .Slice l u st _=>(match st with
       | .none=>evSl T i sc v l u s
       | some _=>.bad)
     | ix=>evS T i sc v ix s)
   | .ListComp el gs csc _=>(match gs with
     | [⟨t,it,ifs,k⟩]=>guardR (isZero k) (evLC T i sc el t it ifs csc s)
     | _=>.bad)
   | .JoinedStr es p=>(T.spc sc (.JoinedStr es p) s).getD .bad
   | .Call f as ks p=>(T.spc sc (.Call f as ks p) s).getD (evCall T i sc f as ks p s)
   | _=>.bad
 tr:=fun sc e s=>match e with
   | .UnaryOp op x _=>(match op with
     | .Not=>(i.tr sc x s).bind fun b s₁=>.ok (!b) s₁
     | _=>.bad)
   | .BoolOp op vs _=>(match op with
     | .And=>allA (i.tr sc) vs s
     | .Or=>anyA (i.tr sc) vs s)
   | .Compare l ops rs _=>(match ops,rs with
     | [op],[r]=>(match inTup op r with
       | some es=>trIn i sc l es s
       | .none=>cmp2 T i sc l op r s)
     | _,_=>.bad)
   | .Constant c k p=>trP i sc (.Constant c k p) s
   | .Name x p=>trP i sc (.Name x p) s
   | .Attribute o n p=>trP i sc (.Attribute o n p) s
   | .Call f as ks p=>trP i sc (.Call f as ks p) s
   | _=>.bad
 ex:=fun sc st s=>match st with
   | .Expr v _=>exE i sc v s
   | .Assign ts v _=>(match ts with
     | [t]=>exA T i sc t v s
     | _=>.bad)
   | .AugAssign t op v _=>exG T i sc t op v s
   | .If t b o _=>(i.tr sc t s).bind fun c s₁=>i.exs sc (match c with | true=>b | false=>o) s₁
   | .While t b o _=>(match o with
     | []=>loopW (i.tr sc t) (i.exs sc b) T.turns s
     | _::_=>.bad)
   | .For t it b o _=>exF T i sc t it b o s
   | .Return v _=>(match v with
     | some e=>(i.ev sc e s).bind fun x s₁=>.ok (.ret x) s₁
     | .none=>.ok (.ret .none) s)
   | .Break _=>.ok .brk s
   | .Continue _=>.ok .cont s
   | .Pass _=>.ok .next s
   | _=>.bad
 exs:=fun sc l s=>match l with
   | []=>.ok .next s
   | st::r=>(i.ex sc st s).bind fun f s₁=>match f with
     | .next=>i.exs sc r s₁
     | f=>.ok f s₁
 call:=fun f as ks s=>match f with
   | .top a=>callT T i a as ks s
   | _=>.bad
noncomputable def interp (T:Tab):Nat→I
 | 0=>.bad
 | n + 1=>step T (interp T n)
end
section
section
set_option maxHeartbeats 200000
theorem look_c {α:Type} {x:Str} {p:Str × α} {r:List (Str × α)}:look x (p::r)=(match sq p.1 x with | true=>some p.2 | false=>look x r):=rfl
theorem look_t {α:Type} {x:Str} {p:Str × α} {r:List (Str × α)} (h:sq p.1 x=true):look x (p::r)=some p.2:=by rw [look_c,h]
theorem look_f {α:Type} {x:Str} {p:Str × α} {r:List (Str × α)} (h:sq p.1 x=false):look x (p::r)=look x r:=by rw [look_c,h]
theorem put_c {α:Type} {x:Str} {v:α} {p:Str × α} {r:List (Str × α)}:put x v (p::r)=(match sq p.1 x with | true=>(p.1,v)::r | false=>p::put x v r):=rfl
theorem put_t {α:Type} {x:Str} {v:α} {p:Str × α} {r:List (Str × α)} (h:sq p.1 x=true):put x v (p::r)=(p.1,v)::r:=by rw [put_c,h]
theorem put_f {α:Type} {x:Str} {v:α} {p:Str × α} {r:List (Str × α)} (h:sq p.1 x=false):put x v (p::r)=p::put x v r:=by rw [put_c,h]
theorem zipP_c {x:Str} {v:AV} {r:List Str} {q:List AV}:zipP (x::r) (v::q)=(zipP r q).map ((x,v)::·):=rfl
theorem stoL_c {sc:List (Str × NameKind)} {x:Str} {v:AV} {r:List Str} {q:List AV} {s:AS}:stoL sc (x::r) (v::q) s=(match stoA sc x v s with | some s₁=>stoL sc r q s₁ | .none=>.none):=rfl
theorem sqL_c {a b:Str} {r q:List Str}:sqL (a::r) (b::q)=(match sq a b with | true=>sqL r q | false=>false):=rfl
theorem namesOf_c {x:Str} {p:Pos} {r:List Expr}:namesOf (.Name x p::r)=(namesOf r).map (x::·):=rfl
theorem nodupS_c {a:Str} {r:List Str}:nodupS (a::r)=((r.all fun b=>!sq b a)&&nodupS r):=rfl
theorem cellNs_c {p:Str × NameKind} {r:List (Str × NameKind)}:cellNs (p::r)=(match p.2 with | .cell=>p.1::cellNs r | _=>cellNs r):=rfl
theorem kwNames_c {k:Keyword} {r:List Keyword}:kwNames (k::r)=(match k with | ⟨some n,e,_⟩=>(kwNames r).map ((n,e)::·) | _=>.none):=rfl
theorem cellLo_c {csc:List (Str × NameKind)} {p:Str × AV} {r:List (Str × AV)}:cellLo csc (p::r)=(match look p.1 csc with | some .cell=>p::cellLo csc r | _=>cellLo csc r):=rfl
theorem forA_c {turn:Nat→AS→Option (Option AS)} {body els:AS→R Fl} {k j:Nat} {s:AS}:forA turn body els (k + 1) j s=(match turn j s with
   | .none=>.bad
   | some .none=>els s
   | some (some s₁)=>(body s₁).bind fun f s₂=>match f with
     | .next=>forA turn body els k (j + 1) s₂
     | .cont=>forA turn body els k (j + 1) s₂
     | .brk=>.ok .next s₂
     | .ret v=>.ok (.ret v) s₂):=rfl
theorem compA_c {turn:Nat→AS→Option (Option AS)} {test:AS→R Bool} {elt:AS→R AV} {k j:Nat} {acc:List AV} {s:AS}:compA turn test elt (k + 1) j acc s=(match turn j s with
   | .none=>.bad
   | some .none=>.ok acc s
   | some (some s₁)=>(test s₁).bind fun b s₂=>match b with
     | false=>compA turn test elt k (j + 1) acc s₂
     | true=>(elt s₂).bind fun v s₃=>compA turn test elt k (j + 1) (acc++[v]) s₃):=rfl
theorem atI_eq {α:Type}:∀ (l:List α) (i:Nat),atI l i=l[i]?
 | [],_=>rfl
 | _::_,0=>rfl
 | _::r,i + 1=>(atI_eq r i).trans List.getElem?_cons_succ.symm
theorem setAt_eq {α:Type}:∀ (l:List α) (i:Nat) (v:α),setAt l i v=l.set i v
 | [],_,_=>rfl
 | _::_,0,_=>rfl
 | a::r,i + 1,v=>congrArg (a::·) (setAt_eq r i v)
noncomputable def VR (ρ:List Addr):AV→Value→Prop
 | .none,v=>v=.none
 | .bool b,v=>v=.bool b
 | .int i,v=>∃ t,v=.int i t
 | .str s,v=>(∃ t,v=.str s t)∧s.length≤sizeLine
 | .obj i,v=>∃ a,ρ[i]?=some a∧v=.ref a
 | .top a,v=>v=.ref a
 | .bi b,v=>v=b.val
inductive All2 {α β:Type} (P:α→β→Prop):List α→List β→Prop
 | nil:All2 P [] []
 | cons {a:α} {b:β} {r:List α} {q:List β}:P a b→All2 P r q→All2 P (a::r) (b::q)
end
theorem cA0 {α β:Type} {P:α→β→Prop} {y:List β} {C:Prop} (h:All2 P [] y) (k:y=[]→True→C):C:=by cases h; exact k rfl True.intro
theorem cA2 {α β:Type} {P:α→β→Prop} {a:α} {r:List α} {b:β} {q:List β} {C:Prop} (h:All2 P (a::r) (b::q)) (k:P a b→All2 P r q→C):C:=by cases h with | cons h1 h2=>exact k h1 h2
theorem cA1 {α β:Type} {P:α→β→Prop} {a:α} {r:List α} {y:List β} {C:Prop} (h:All2 P (a::r) y) (k:∀ b q,P a b→All2 P r q→y=b::q→C):C:=by cases h with | cons h1 h2=>exact k _ _ h1 h2 rfl
set_option compiler.extract_closed false
local macro_rules
  | `(tactic| cases $h:ident) => `(tactic| first
    | exact Mine.ceBad $h
    | exact Mine.ceNS $h
    | exact Mine.ceSN $h
    | exact Mine.ceTF $h
    | exact Mine.ceFT $h
    | subst $h
    | ((first | refine Mine.ceOk $h fun e1 e2 => ?_ | refine Mine.ceSS' $h fun e1 e2 => ?_ | refine Mine.cePP $h fun e1 e2 => ?_ | refine Mine.ceCC $h fun e1 e2 => ?_ | refine Mine.cA0 $h fun e1 e2 => ?_); clear $h; (first | subst e1 | cases e1); (first | subst e2 | (revert e2; refine fun (t : True) => ?_; clear t) | cases e2))
    | (refine Mine.cA2 $h fun h1 h2 => ?_; clear $h)
    | (refine Mine.cA1 $h fun b q h1 h2 e1 => ?_; clear $h; subst e1)
    | (injection $h:ident; done)
    | (injection $h:ident with e1; clear $h; (first | subst e1 | cases e1))
    | (injection $h:ident with e1 e2; clear $h; (first | subst e1 | cases e1); (first | subst e2 | cases e2))
    | (rcases $h:ident with ⟨⟩)
    | cases ($h))
  | `(tactic| obtain ⟨⟩ := $h:ident) => `(tactic| first
    | (refine Mine.cdSS $h fun e1 => ?_; clear $h; (first | subst e1 | cases e1))
    | (have e := ($h).symm; clear $h; subst e)
    | cases ($h))
  | `(tactic| cases $h:ident with | cons $x:ident $y:ident => $t:tacticSeq) => `(tactic| first
    | ((first | (refine Mine.cA2 $h fun $x $y => ?_; clear $h) | (refine Mine.cA1 $h fun b q $x $y e1 => ?_; clear $h; subst e1)); ($t:tacticSeq))
    | (cases ($h) with | cons $x:ident $y:ident => $t:tacticSeq))
  | `(tactic| cases $h:ident $alts:inductionAlts) => do
    let mut a : Array (Lean.TSyntax `tactic) := #[]
    for n in [`Option.casesOn, `List.casesOn, `Bool.casesOn, `Or.casesOn, `Mine.AV.casesOn, `Mine.R.casesOn, `Mine.Fl.casesOn, `Mine.AO.casesOn] do a := a.push (← `(tactic| induction $h:term using $(Lean.mkIdent n) $alts:inductionAlts))
    `(tactic| first $[| $a:tactic]* | cases ($h) $alts:inductionAlts)
local macro_rules
  | `(tactic| obtain ⟨$[$ps],*⟩ := $e) => do
    let n := ps.size
    if n < 2 || n > 9 then Lean.Macro.throwUnsupported
    let mut xs : Array (Lean.TSyntax `ident) := #[]
    let mut later : Array (Lean.TSyntax `tactic) := #[]
    let mut names : Array Lean.Name := #[]
    let mut back : Array (Lean.TSyntax `tactic) := #[]
    let mut i := 0
    for p in ps do
      match p with
      | `(Lean.Parser.Tactic.rcasesPatLo| $x:ident) =>
        if x.getId == `rfl then
          let h := Lean.mkIdent (Lean.Name.mkSimple s!"ob_h{i}")
          xs := xs.push h
          let q : Lean.TSyntax `Lean.Parser.Tactic.rcasesPatMed := ⟨p.raw[0]⟩
          later := later.push (← `(tactic| rcases $h:ident with $q))
        else
          let same := match e with
            | `($y:ident) => y.getId == x.getId
            | _ => false
          if same then
            let h := Lean.mkIdent (Lean.Name.mkSimple s!"ob_r{i}")
            xs := xs.push h
            back := back.push (← `(tactic| (revert $h:ident; intro $x:ident)))
          else
            xs := xs.push x
          names := names.push x.getId
      | `(Lean.Parser.Tactic.rcasesPatLo| _) => xs := xs.push (Lean.mkIdent (Lean.Name.mkSimple s!"ob_u{i}"))
      | _ =>
        let h := Lean.mkIdent (Lean.Name.mkSimple s!"ob_h{i}")
        xs := xs.push h
        let q : Lean.TSyntax `Lean.Parser.Tactic.rcasesPatMed := ⟨p.raw[0]⟩
        later := later.push (← `(tactic| rcases $h:ident with $q))
      i := i + 1
    let mut alts : Array (Lean.TSyntax `tactic) := #[]
    if n == 5 then alts := alts.push (← `(tactic| refine Mine.obHS $e fun $xs* => ?_))
    if n == 4 then alts := alts.push (← `(tactic| refine Mine.obHm $e fun $xs* => ?_))
    for k in [0:n] do
      if k < 7 then
        let nm := Lean.mkIdent (Lean.Name.mkStr `Mine s!"ob{k}{n - k}")
        alts := alts.push (← `(tactic| refine $nm $e fun $xs* => ?_))
    let clr : Lean.TSyntax `tactic ← match e with
      | `($x:ident) => `(tactic| try clear $x)
      | _ => `(tactic| skip)
    let main ← `(tactic| first $[| $alts:tactic]*)
    let seq := #[main, clr] ++ back ++ later
    let whole ← `(tactic| ($[$seq:tactic];*))
    `(tactic| first | $whole:tactic | rcases $e:term with ⟨$[$ps],*⟩)
local macro_rules
  | `(tactic| show $t:term) => `(tactic| refine (?_ : $t))
local macro_rules
  | `(tactic| rw [$rs,*]) => do
    let mut ts : Array (Lean.TSyntax `tactic) := #[]
    for r in rs.getElems do
      match r with
      | `(Lean.Parser.Tactic.rwRule| ← $e:term) => ts := ts.push (← `(tactic| first | refine Eq.substr (Eq.symm $e) ?_ | rewrite [← $e:term]))
      | `(Lean.Parser.Tactic.rwRule| $e:term) => ts := ts.push (← `(tactic| first | refine Eq.substr $e ?_ | rewrite [$e:term]))
      | _ => Lean.Macro.throwUnsupported
    ts := ts.push (← `(tactic| try (with_reducible rfl)))
    `(tactic| ($[$ts:tactic];*))
local macro_rules
  | `(tactic| omega) => `(tactic| first | exact Nat.le_of_ble_eq_true (Eq.refl true) | omega +splitDisjunctions)
section
set_option maxHeartbeats 200000
noncomputable abbrev VRs (ρ:List Addr):List AV→List Value→Prop:=All2 (VR ρ)
noncomputable def ER (ρ:List Addr) (e:Str × AV) (d:DictEntry):Prop:=(∃ t,d.key=.str e.1 t)∧VR ρ e.2 d.val
noncomputable abbrev DR (ρ:List Addr):List (Str × AV)→List DictEntry→Prop:=All2 (ER ρ)
noncomputable def listO (vs:List Value) (n:Nat):Obj:={ cls:=.type "list",data:=.seq vs.toArray n }
noncomputable def tupO (vs:List Value) (n:Nat):Obj:={ cls:=.type "tuple",data:=.seq vs.toArray n }
noncomputable def deqO (vs:List Value) (k:Int):Obj:={ cls:=.type "collections.deque",data:=.fields (#[.none,rawInt k]++vs.toArray) }
noncomputable def CR (ρ:List Addr):Option AV→Option Value→Prop
 | some a,v=>∃ v',v=some v'∧VR ρ a v'
 | .none,v=>v=.none
noncomputable def OR (ρ:List Addr):AO→Obj→Prop
 | .inst C d,o=>∃ dx,ρ[d]?=some dx∧o=instObj C dx
 | .dict es,o=>∃ ds n,o=dictOf ds n∧DR ρ es ds
 | .list xs,o=>∃ vs n,o=listO vs n∧VRs ρ xs vs
 | .tup xs,o=>∃ vs n,o=tupO vs n∧VRs ρ xs vs
 | .deq xs,o=>∃ vs k,o=deqO vs k∧VRs ρ xs vs
 | .sio dn r,o=>∃ ds n,o=dictOf ds n∧DR ρ [(nmNl,.str ⟨⟨[10]⟩⟩),(nmBuf,.str ⟨⟨dn++r⟩⟩),(nmPos,.int dn.length)] ds
 | .cell v,o=>∃ v',o.data=.cell v'∧CR ρ v v'
 | .kw es,o=>∃ ds,o=dictOf ds es.length∧DR ρ es ds
 | .frk ks,o=>∃ ds n,o=dictOf ds n∧All2 (fun k d=>(∃ t,d.key=.str ⟨⟨[k]⟩⟩ t)∧d.val=.none) ks ds
 | .trn ks,o=>∃ ds n,o=dictOf ds n∧All2 (fun (k:Nat) d=>(∃ t,d.key=.int k t)∧d.val=.none∧d.hash=hashInt k) ks ds
noncomputable abbrev ORs (ρ:List Addr):List AO→List Obj→Prop:=All2 (OR ρ)
noncomputable def LR (ρ:List Addr) (lo:List (Str × AV)) (m:Str→Option Value):Prop:=∀ x v,look x lo=some v→∃ v',m x=some v'∧VR ρ v v'
theorem pre_get {ρ ρ':List Addr} (h:ρ <+: ρ') {i:Nat} {a:Addr} (e:ρ[i]?=some a):ρ'[i]?=some a:=by
 obtain ⟨t,rfl⟩:=h
 obtain ⟨hl,_⟩:=List.getElem?_eq_some_iff.mp e
 rw [List.getElem?_append_left hl]; exact e
theorem VR.mono {ρ ρ':List Addr} (h:ρ <+: ρ'):∀ {a:AV} {v:Value},VR ρ a v→VR ρ' a v
 | .none,_,e=>e
 | .bool _,_,e=>e
 | .int _,_,e=>e
 | .str _,_,e=>e
 | .obj _,_,⟨a,h1,h2⟩=>⟨a,pre_get h h1,h2⟩
 | .top _,_,e=>e
 | .bi _,_,e=>e
theorem All2.imp {α β:Type} {P P':α→β→Prop} (f:∀ a b,P a b→P' a b) {as:List α} {bs:List β} (h:All2 P as bs):All2 P' as bs:=by
 induction h with
 | nil=>exact .nil
 | cons x _ ih=>exact .cons (f _ _ x) ih
theorem All2.len {α β:Type} {P:α→β→Prop} {as:List α} {bs:List β} (h:All2 P as bs):as.length=bs.length:=by
 induction h with
 | nil=>rfl
 | cons _ _ ih=>simp [ih]
theorem All2.get {α β:Type} {P:α→β→Prop} {as:List α} {bs:List β} (h:All2 P as bs):∀ {i:Nat} {a:α},as[i]?=some a→∃ b,bs[i]?=some b∧P a b:=by
 induction h with
 | nil=>intro i a e; simp at e
 | cons x _ ih =>
   intro i a e
   cases i with
   | zero=>simp at e; subst e; exact ⟨_,by simp,x⟩
   | succ i=>simp at e; simpa using ih e
theorem All2.set {α β:Type} {P:α→β→Prop} {as:List α} {bs:List β} (h:All2 P as bs) {a:α} {b:β} (x:P a b):∀ i:Nat,All2 P (as.set i a) (bs.set i b):=by
 induction h with
 | nil=>intro i; exact .nil
 | cons y z ih =>
   intro i
   cases i with
   | zero=>exact .cons x z
   | succ i=>exact .cons y (ih i)
theorem All2.app {α β:Type} {P:α→β→Prop} {as as':List α} {bs bs':List β} (h:All2 P as bs) (h':All2 P as' bs'):All2 P (as++as') (bs++bs'):=by
 induction h with
 | nil=>exact h'
 | cons y _ ih=>exact .cons y ih
theorem All2.snoc {α β:Type} {P:α→β→Prop} {as:List α} {bs:List β} (h:All2 P as bs) {a:α} {b:β} (x:P a b):All2 P (as++[a]) (bs++[b]):=h.app (.cons x .nil)
theorem VRs.mono {ρ ρ':List Addr} (h:ρ <+: ρ') {as:List AV} {vs:List Value} (x:VRs ρ as vs):VRs ρ' as vs:=x.imp fun _ _ y=>y.mono h
theorem DR.mono {ρ ρ':List Addr} (h:ρ <+: ρ') {as:List (Str × AV)} {vs:List DictEntry} (x:DR ρ as vs):DR ρ' as vs:=x.imp fun _ _ y=>⟨y.1,y.2.mono h⟩
theorem CR.mono {ρ ρ':List Addr} (h:ρ <+: ρ'):∀ {a:Option AV} {v:Option Value},CR ρ a v→CR ρ' a v
 | some _,_,⟨v',a,b⟩=>⟨v',a,b.mono h⟩
 | .none,_,e=>e
theorem OR.mono {ρ ρ':List Addr} (h:ρ <+: ρ') {a:AO} {o:Obj} (x:OR ρ a o):OR ρ' a o:=by
 cases a with
 | inst=>exact Exists.imp (fun dx x=>⟨pre_get h x.1,x.2⟩) x
 | dict=>exact Exists.imp (fun ds x=>Exists.imp (fun n x=>⟨x.1,DR.mono h x.2⟩) x) x
 | list=>exact Exists.imp (fun ds x=>Exists.imp (fun n x=>⟨x.1,VRs.mono h x.2⟩) x) x
 | tup=>exact Exists.imp (fun ds x=>Exists.imp (fun n x=>⟨x.1,VRs.mono h x.2⟩) x) x
 | deq=>exact Exists.imp (fun ds x=>Exists.imp (fun n x=>⟨x.1,VRs.mono h x.2⟩) x) x
 | sio=>exact Exists.imp (fun ds x=>Exists.imp (fun n x=>⟨x.1,DR.mono h x.2⟩) x) x
 | cell=>exact Exists.imp (fun v x=>⟨x.1,CR.mono h x.2⟩) x
 | kw=>exact Exists.imp (fun ds x=>⟨x.1,DR.mono h x.2⟩) x
 | frk=>exact x
 | trn=>exact x
theorem OR.es {ρ:List Addr} {ao:AO} {o:Obj} {es:List (Str × AV)} (h:OR ρ ao o) (e:esOf ao=some es):∃ ds n,o=dictOf ds n∧DR ρ es ds:=by
 cases ao <;> first | (cases e; exact h) | cases e
theorem ORs.mono {ρ ρ':List Addr} (h:ρ <+: ρ') {as:List AO} {vs:List Obj} (x:ORs ρ as vs):ORs ρ' as vs:=x.imp fun _ _ y=>y.mono h
theorem LR.mono {ρ ρ':List Addr} (h:ρ <+: ρ') {lo:List (Str × AV)} {m:Str→Option Value} (l:LR ρ lo m):LR ρ' lo m:=fun x v e=>let ⟨v',a,b⟩:=l x v e; ⟨v',a,b.mono h⟩
theorem look_put_self {α:Type} (x:Str) (v:α) (l:List (Str × α)):look x (put x v l)=some v:=by
 induction l with
 | nil=>exact look_t (p:=(x,v)) ((sq_iff x x).mpr rfl)
 | cons p r ih =>
   cases h:sq p.1 x with
   | true=>rw [put_t h]; exact look_t (p:=(p.1,v)) h
   | false=>rw [put_f h]; exact (look_f h).trans ih
theorem look_put_ne {α:Type} {x y:Str} (v:α) (h:y ≠ x) (l:List (Str × α)):look y (put x v l)=look y l:=by
 have key:∀ z,z=x→sq z y=false:=fun z e=>by
   cases q:sq z y with
   | false=>rfl
   | true=>exact absurd (((sq_iff z y).mp q).symm.trans e) h
 induction l with
 | nil=>exact look_f (p:=(x,v)) (key x rfl)
 | cons p r ih =>
   cases q:sq p.1 x with
   | true =>
     have k:=key _ ((sq_iff _ _).mp q)
     rw [put_t q]; exact (look_f (p:=(p.1,v)) k).trans (look_f k).symm
   | false =>
     rw [put_f q,look_c,look_c,ih]
structure CV where
 sc:Scope
 cl:List (Str × Addr)
 C:Addr
 mC:Str→Option Value
 mo:Str→Option Value
structure Cx where
 A₀:Around
 base:Heap
 outer:List Env
 h₀:Heap
 L:Addr
 qual:Str
 scope:Scope
 fa:Addr
 cdv:Value
 cl:List (Str × Addr)
 fz:List (Addr × Obj)
 cv:Option CV
noncomputable abbrev Cx.env (x:Cx):Env:=envX x.qual x.scope x.L x.fa x.cdv x.cl
noncomputable abbrev Cx.A (x:Cx):Around:=x.A₀.deeper x.env
noncomputable def Cx.cur (x:Cx):Env:=match x.cv with
 | .none=>x.env
 | some c=>compEnvC c.sc c.cl c.C x.env
noncomputable def Cx.scn (x:Cx):List (Str × NameKind):=match x.cv with
 | .none=>x.scope.names
 | some c=>compScn c.sc.names
noncomputable def Cx.ccl (x:Cx):List (Str × Addr):=match x.cv with
 | .none=>x.cl
 | some c=>c.cl
noncomputable def Cx.vm (x:Cx) (m:Str→Option Value):Str→Option Value:=fun y=>match x.ccl.lookup y with
 | some a=>some (.ref a)
 | .none=>match x.cv with
   | .none=>m y
   | some c=>c.mC y
noncomputable def Cx.fm (x:Cx) (m:Str→Option Value):Str→Option Value:=match x.cv with
 | .none=>m
 | some c=>c.mo
structure HpR (h₀:Heap) (L:Addr) (fz:List (Addr × Obj)) (ρ:List Addr) (hp:List AO) (h:Heap) (os:List Obj):Prop where
 nw:News h₀ L h (ρ.zip os++fz)
 nd:ρ.Nodup
 dj:∀ p∈fz,p.1 ∉ ρ
 ln:ρ.length=hp.length
 or:ORs ρ hp os
structure HS (x:Cx) (ρ:List Addr) (σ:AS) (h:Heap):Prop where
 ex:∃ m os,Fr x.h₀ x.L h (x.fm m)∧HpR x.h₀ x.L x.fz ρ σ.hp h os∧LR ρ σ.lo (x.vm m)
structure HSm (x:Cx) (ρ:List Addr) (σ:AS) (h:Heap) (m:Str→Option Value):Prop where
 ex:∃ os,Fr x.h₀ x.L h (x.fm m)∧HpR x.h₀ x.L x.fz ρ σ.hp h os∧LR ρ σ.lo (x.vm m)
theorem obHS {x:Cx} {ρ:List Addr} {σ:AS} {h:Heap} {C:Prop} (H:HS x ρ σ h) (k:∀ m os,Fr x.h₀ x.L h (x.fm m)→HpR x.h₀ x.L x.fz ρ σ.hp h os→LR ρ σ.lo (x.vm m)→C):C:=H.ex.elim fun m h=>h.elim fun os h=>k m os h.1 h.2.1 h.2.2
theorem obHm {x:Cx} {ρ:List Addr} {σ:AS} {h:Heap} {m:Str→Option Value} {C:Prop} (H:HSm x ρ σ h m) (k:∀ os,Fr x.h₀ x.L h (x.fm m)→HpR x.h₀ x.L x.fz ρ σ.hp h os→LR ρ σ.lo (x.vm m)→C):C:=H.ex.elim fun os h=>k os h.1 h.2.1 h.2.2
theorem HSm.hs {x:Cx} {ρ:List Addr} {σ:AS} {h:Heap} {m:Str→Option Value} (H:HSm x ρ σ h m):HS x ρ σ h:=let ⟨os,a⟩:=H.ex; ⟨m,os,a⟩
theorem HS.m {x:Cx} {ρ:List Addr} {σ:AS} {h:Heap} (H:HS x ρ σ h):∃ m,HSm x ρ σ h m:=let ⟨m,os,a⟩:=H.ex; ⟨m,os,a⟩
theorem zip_mem' {ρ:List Addr} {os:List Obj} {i:Nat} {a:Addr} {o:Obj} (h1:ρ[i]?=some a) (h2:os[i]?=some o):(a,o)∈ρ.zip os:=by
 apply List.mem_of_getElem? (i:=i)
 rw [List.getElem?_zip_eq_some]
 exact ⟨h1,h2⟩
theorem zip_mem {fz:List (Addr × Obj)} {ρ:List Addr} {os:List Obj} {i:Nat} {a:Addr} {o:Obj} (h1:ρ[i]?=some a) (h2:os[i]?=some o):(a,o)∈ρ.zip os++fz:=List.mem_append_left _ (zip_mem' h1 h2)
section
variable {h₀:Heap} {L:Addr} {fz:List (Addr × Obj)} {ρ:List Addr} {hp:List AO} {h h':Heap} {os:List Obj}
theorem HpR.get (H:HpR h₀ L fz ρ hp h os) {i:Nat} {ao:AO} (e:hp[i]?=some ao) :
   ∃ a o,ρ[i]?=some a∧os[i]?=some o∧OR ρ ao o∧(a,o)∈ρ.zip os++fz:=by
 obtain ⟨o,h2,r⟩:=H.or.get e
 obtain ⟨hl,_⟩:=List.getElem?_eq_some_iff.mp e
 have hl':i<ρ.length:=H.ln ▸ hl
 have h1:ρ[i]?=some ρ[i]:=List.getElem?_eq_getElem hl'
 exact ⟨_,o,h1,h2,r,zip_mem h1 h2⟩
theorem upd_pre {d:Addr} {o o':Obj} {l l' r:List (Addr × Obj)} (hr:∀ p∈r,p.1 ≠ d):Upd d o o' l l'→Upd d o o' (l++r) (l'++r)
 | .head h=>.head fun p hp=>by
   rcases List.mem_append.mp hp with q | q
   · exact h p q
   · exact hr p q
 | .tail h u=>.tail h (upd_pre hr u)
theorem upd_zip':∀ {ρ:List Addr} {os:List Obj} {i:Nat} {a:Addr} {o o':Obj},ρ.Nodup→ρ.length=os.length→ρ[i]?=some a→os[i]?=some o→Upd a o o' (ρ.zip os) (ρ.zip (os.set i o'))
 | [],_,_,_,_,_,_,_,h1,_=>by simp at h1
 | _::_,[],_,_,_,_,_,_,_,h2=>by simp at h2
 | b::ρ,p::os,0,a,o,o',nd,hl,h1,h2=>by
   simp at h1 h2
   subst h1 h2
   simp only [List.set_cons_zero,List.zip_cons_cons]
   refine Upd.head fun q hq=>?_
   have:=(List.of_mem_zip hq).1
   intro e
   rw [e] at this
   exact (List.nodup_cons.mp nd).1 this
 | b::ρ,p::os,i + 1,a,o,o',nd,hl,h1,h2=>by
   simp at h1 h2 hl
   simp only [List.set_cons_succ,List.zip_cons_cons]
   refine Upd.tail ?_ (upd_zip' (List.nodup_cons.mp nd).2 hl h1 h2)
   intro e
   have e:b=a:=e
   subst e
   exact (List.nodup_cons.mp nd).1 (List.mem_of_getElem? h1)
theorem HpR.olen (H:HpR h₀ L fz ρ hp h os):ρ.length=os.length:=H.ln.trans H.or.len
theorem HpR.upd (H:HpR h₀ L fz ρ hp h os) {i:Nat} {a:Addr} {o o':Obj} (h1:ρ[i]?=some a) (h2:os[i]?=some o):Upd a o o' (ρ.zip os++fz) (ρ.zip (os.set i o')++fz) :=
 upd_pre (fun p hp e=>H.dj p hp (e ▸ List.mem_of_getElem? h1)) (upd_zip' H.nd H.olen h1 h2)
theorem HpR.put (H:HpR h₀ L fz ρ hp h os) {i:Nat} {ao:AO} {o:Obj} (N:News h₀ L h' (ρ.zip (os.set i o)++fz)) (r:OR ρ ao o):HpR h₀ L fz ρ (hp.set i ao) h' (os.set i o) :=
 ⟨N,H.nd,H.dj,by rw [List.length_set]; exact H.ln,H.or.set r _⟩
theorem HpR.fresh (H:HpR h₀ L fz ρ hp h os) {a:Addr} (ha:h.objs.size≤a):a ∉ ρ:=by
 intro hm
 obtain ⟨i,hi⟩:=List.getElem?_of_mem hm
 have hl:i<os.length:=H.olen ▸ (List.getElem?_eq_some_iff.mp hi).1
 have:=(H.nw _ (zip_mem hi (List.getElem?_eq_getElem hl))).1
 exact absurd (Heap.lt_size this) (Nat.not_lt.mpr ha)
theorem HpR.adopt (H:HpR h₀ L fz ρ hp h os) {a:Addr} {ao:AO} {o:Obj} (N:News h₀ L h' ((a,o)::(ρ.zip os++fz))) (hn:a ∉ ρ) (hf:∀ p∈fz,p.1 ≠ a) (r:OR ρ ao o) :
   HpR h₀ L fz (ρ++[a]) (hp++[ao]) h' (os++[o]):=by
 refine ⟨?_,?_,?_,by simp [H.ln],(ORs.mono ⟨_,rfl⟩ H.or).snoc (r.mono ⟨_,rfl⟩)⟩
 · rw [List.zip_append H.olen]
   intro p hp
   rcases List.mem_append.mp hp with q | q
   · rcases List.mem_append.mp q with q | q
     · exact N p (.tail _ (List.mem_append_left _ q))
     · simp at q; subst q; exact N _ (.head _)
   · exact N p (.tail _ (List.mem_append_right _ q))
 · rw [List.nodup_append]
   refine ⟨H.nd,by simp,?_⟩
   intro b hb c hc
   simp at hc
   subst hc
   intro e
   subst e
   exact hn hb
 · intro p hp hm
   rcases List.mem_append.mp hm with q | q
   · exact H.dj p hp q
   · simp at q; exact hf p hp q
theorem HpR.more {m:Str→Option Value} (F:Fr h₀ L h m) (H:HpR h₀ L fz ρ hp h os) {ao:AO} {o:Obj} (hf:o.isFreed=false) (r:OR ρ ao o) :
   HpR h₀ L fz (ρ++[h.objs.size]) (hp++[ao]) (h.push o) (os++[o]) :=
 H.adopt (H.nw.push F o hf) (H.fresh (Nat.le_refl _)) (fun p hp e=>absurd (e ▸ Heap.lt_size (H.nw p (List.mem_append_right _ hp)).1) (Nat.lt_irrefl _)) r
end
end
section
set_option maxHeartbeats 200000
noncomputable def OSat {α:Type} (o:Option α) (P:α→Prop):Prop:=match o with
 | some a=>P a
 | .none=>True
theorem OSat.use {α:Type} {o:Option α} {P:α→Prop} {a:α} (h:OSat o P) (e:o=some a):P a:=by subst e; exact h
theorem sq_beq (x y:Str):sq x y=(x==y):=by
 rw [Bool.eq_iff_iff,sq_iff,beq_iff_eq]
theorem inS_eq {x y:Str} {r:Bool} (h:inS x y=some r):(!(Builtin.Str.occurrences y x 0 y.length 1).isEmpty)=r:=by
 unfold inS at h
 split at h
 · rename_i c e
   have hx:x=⟨#[c]⟩:=by
     cases x with | mk a=>cases a with | mk l=>simp at e; subst e; rfl
   subst hx
   cases h
   rw [StrLaws.found_one]
   rw [Bool.eq_iff_iff,decide_eq_true_eq,List.any_eq_true]
   constructor
   · intro h; exact ⟨c,h,Nat.beq_refl c⟩
   · rintro ⟨d,hd,e⟩; rw [Nat.eq_of_beq_eq_true e]; exact hd
 · cases h
theorem strsA_cons {a:AV} {r:List AV} {ys:List Str} (h:strsA (a::r)=some ys):∃ y zs,a=.str y∧strsA r=some zs∧ys=y::zs:=by
 cases a with
 | str y =>
   obtain ⟨zs,hz,e⟩:=Option.map_eq_some_iff.mp h
   exact ⟨y,zs,rfl,hz,e.symm⟩
 | _=>cases h
theorem strsA_are {ρ:List Addr} {xs:List AV} {ys:List Str} {vs:List Value} (h:strsA xs=some ys) (v:VRs ρ xs vs):StrsAre vs ys:=by
 induction v generalizing ys with
 | nil=>cases h; exact .nil
 | cons hv hr ih =>
   obtain ⟨y,zs,rfl,hz,rfl⟩:=strsA_cons h
   obtain ⟨⟨t,rfl⟩,_⟩:=hv
   exact .cons y t (ih hz)
theorem isTup_of {h:Heap} {a:Addr} {vs:List Value} {n:Nat} (e:h.get? a=some (tupO vs n)):IsTup h a vs.toArray:=⟨_,e,rfl,n,rfl⟩
section
variable {prog:Program} {w:World} {A:Around} {E:Value→Shared→Prop} {s:Shared} {h₀:Heap} {L:Addr} {fz:List (Addr × Obj)} {ρ:List Addr} {hp:List AO} {os:List Obj}
noncomputable def CmpS (prog:Program) (w:World) (A:Around) (E:Value→Shared→Prop) (s:Shared) (op:CmpOp) (a' b':Value) (r:Bool):Prop:=∀ Q:Value→Shared→Prop,Q (.bool r) s→wpAny (model prog w) A (compareOp op a' b') Q E s
theorem cmp_sound {op:CmpOp} {a b:AV} {a' b':Value} (H:HpR h₀ L fz ρ hp s.heap os) (va:VR ρ a a') (vb:VR ρ b b'):OSat (cmpA op a b hp) (CmpS prog w A E s op a' b'):=by
 cases op with
 | Eq =>
   cases a <;> first | exact True.intro | skip
   all_goals cases b <;> first | exact True.intro | skip
   · cases va; cases vb; exact fun Q hQ=>eq_bool hQ
   · obtain ⟨t,rfl⟩:=va; obtain ⟨u,rfl⟩:=vb; exact fun Q hQ=>eq_int hQ
   · obtain ⟨⟨t,rfl⟩,_⟩:=va; obtain ⟨⟨u,rfl⟩,_⟩:=vb; exact fun Q hQ=>eq_str (by rw [← sq_beq]; exact hQ)
 | NotEq =>
   cases a <;> first | exact True.intro | skip
   all_goals cases b <;> first | exact True.intro | skip
   · cases va; cases vb; exact fun Q hQ=>ne_bool hQ
   · obtain ⟨t,rfl⟩:=va; obtain ⟨u,rfl⟩:=vb; exact fun Q hQ=>ne_int hQ
   · obtain ⟨⟨t,rfl⟩,_⟩:=va; obtain ⟨⟨u,rfl⟩,_⟩:=vb; exact fun Q hQ=>ne_str (by rw [bne,← sq_beq]; exact hQ)
 | Lt =>
         cases a <;> first | exact True.intro | skip
         cases b <;> first | exact True.intro | skip
         obtain ⟨t,rfl⟩:=va; obtain ⟨u,rfl⟩:=vb; exact fun Q hQ=>lt_int hQ
 | LtE =>
          cases a <;> first | exact True.intro | skip
          cases b <;> first | exact True.intro | skip
          obtain ⟨t,rfl⟩:=va; obtain ⟨u,rfl⟩:=vb; exact fun Q hQ=>le_int hQ
 | Gt =>
         cases a <;> first | exact True.intro | skip
         cases b <;> first | exact True.intro | skip
         obtain ⟨t,rfl⟩:=va; obtain ⟨u,rfl⟩:=vb; exact fun Q hQ=>gt_int hQ
 | GtE =>
          cases a <;> first | exact True.intro | skip
          cases b <;> first | exact True.intro | skip
          obtain ⟨t,rfl⟩:=va; obtain ⟨u,rfl⟩:=vb; exact fun Q hQ=>ge_int hQ
 | Is =>
   cases b <;> first | (cases a <;> exact True.intro) | skip
   cases vb
   cases a <;> first | exact True.intro | skip
   · cases va; exact fun Q hQ=>is_none_none hQ
   · cases va; exact fun Q hQ=>is_bool_none hQ
   · obtain ⟨t,rfl⟩:=va; exact fun Q hQ=>is_int_none hQ
   · obtain ⟨⟨t,rfl⟩,_⟩:=va; exact fun Q hQ=>is_str_none hQ
   · obtain ⟨t,_,rfl⟩:=va; exact fun Q hQ=>is_ref_none hQ
   · cases va; exact fun Q hQ=>is_ref_none hQ
 | IsNot =>
   cases b <;> first | (cases a <;> exact True.intro) | skip
   cases vb
   cases a <;> first | exact True.intro | skip
   · cases va; exact fun Q hQ=>isnot_none_none hQ
   · cases va; exact fun Q hQ=>isnot_none_ne (fun e=>nomatch e) hQ
   · obtain ⟨t,rfl⟩:=va; exact fun Q hQ=>isnot_none_ne (fun e=>nomatch e) hQ
   · obtain ⟨⟨t,rfl⟩,_⟩:=va; exact fun Q hQ=>isnot_none_ne (fun e=>nomatch e) hQ
   · obtain ⟨t,_,rfl⟩:=va; exact fun Q hQ=>isnot_none_ne (fun e=>nomatch e) hQ
   · cases va; exact fun Q hQ=>isnot_none_ne (fun e=>nomatch e) hQ
 | In =>
   cases a <;> first | exact True.intro | skip
   cases b <;> first | exact True.intro | skip
   · rename_i x y
     obtain ⟨⟨t,rfl⟩,_⟩:=va; obtain ⟨⟨u,rfl⟩,_⟩:=vb
     unfold cmpA
     dsimp only
     cases h:inS x y with
     | none=>exact True.intro
     | some r=>exact fun Q hQ=>in_str (by rw [inS_eq h]; exact hQ)
   · rename_i x i
     obtain ⟨⟨t,rfl⟩,_⟩:=va
     obtain ⟨ad,had,rfl⟩:=vb
     unfold cmpA
     dsimp only
     cases e:atI hp i with
     | none=>exact True.intro
     | some ao =>
     cases ao <;> first | exact True.intro | skip
     rename_i xs
     dsimp only
     cases hy:strsA xs with
     | none=>exact True.intro
     | some ys =>
     rw [atI_eq] at e
     obtain ⟨a2,o,h1,h2,ho,hm⟩:=H.get e
     cases (had.symm.trans h1)
     obtain ⟨vs,n,rfl,hv⟩:=ho
     refine fun Q hQ=>in_tuple_strs (isTup_of (H.nw _ hm).1) (ys:=ys) (by simpa using strsA_are hy hv) ?_
     simp only [← sq_beq]; exact hQ
 | NotIn =>
   cases a <;> first | exact True.intro | skip
   cases b <;> first | exact True.intro | skip
   rename_i x y
   obtain ⟨⟨t,rfl⟩,_⟩:=va; obtain ⟨⟨u,rfl⟩,_⟩:=vb
   unfold cmpA
   dsimp only
   cases hz:inS x y with
   | none=>exact True.intro
   | some z=>exact fun Q hQ=>notIn_str (by rw [inS_eq hz]; exact hQ)
theorem sizeLine63 {n:Nat} (h:n≤sizeLine):¬ ((n:Int) ≥ 2 ^ 63):=by
 rw [sizeLine_eq] at h
 omega
theorem tr_sound {a:AV} {a':Value} {r:Bool} {Q:Bool→Shared→Prop} (hn:∀ i,a ≠ .obj i) (h:trA a hp=some r) (va:VR ρ a a') (hQ:∀ tk,Q r { s with toks:=tk }) :
   wpAny (model prog w) A (truthy a') Q E s:=by
 unfold trA at h
 cases a with
 | none=>cases va; cases h; exact truthy_none (hQ s.toks)
 | bool b=>cases va; cases h; exact wpAny_truthy_bool (hQ s.toks)
 | int i=>obtain ⟨t,rfl⟩:=va; cases h; exact truthy_int (hQ s.toks)
 | str x =>
   obtain ⟨⟨t,rfl⟩,hl⟩:=va
   refine P.truthy_str (sizeLine63 hl) ?_
   have:((x.length:Int) != 0)=r:=by
     dsimp only at h
     have hx:x.length=x.cps.toList.length:=by simp [Str.length]
     rw [hx]
     split at h <;> rename_i e <;> cases h <;> rw [e]
     · rfl
     · simp only [List.length_cons,bne_iff_ne,ne_eq]; omega
   rw [this]
   exact hQ _
 | obj i=>exact absurd rfl (hn i)
 | top a=>cases h
 | bi a=>cases h
end
end
section
set_option maxHeartbeats 4000000
theorem deq_attrs:PlainAttrs "collections.deque" :=
 ⟨⟨"collections.deque.__getattribute__",by rw [typeLookup_type,builtinLookup_eq_fast]; kernel_rfl,by decide +kernel⟩,by rw [typeLookup_type,builtinLookup_eq_fast]; kernel_rfl⟩
theorem deq_slot_append:Slot "collections.deque" "append" "collections.deque.append" :=
 .of (owner := "collections.deque") (n := "append") (by rw [typeLookup_type,builtinLookup_eq_fast]; kernel_rfl) (by decide +kernel) (by decide +kernel) (by decide +kernel)
   (by first | exact .inl (by decide +kernel) | exact .inr (by decide +kernel)) (by rw [isSubtype_type]; kernel_rfl)
theorem deq_type_append:typeOf (.builtin "collections.deque.append")=pure (.type "method_descriptor"):=by show builtinType _=_; rw [builtinType_eq_fast]; kernel_rfl
theorem deq_entry_append:entryFor table "collections.deque.append" = some Builtin.«collections.deque.append» := entryFor_of_tree (by kernel_rfl)
theorem deq_args_append (a b:Value):argsOk "collections.deque.append" ⟨[a,b],[]⟩:=by unfold argsOk; kernel_rfl
theorem deq_slot_pop:Slot "collections.deque" "pop" "collections.deque.pop" :=
 .of (owner := "collections.deque") (n := "pop") (by rw [typeLookup_type,builtinLookup_eq_fast]; kernel_rfl) (by decide +kernel) (by decide +kernel) (by decide +kernel)
   (by first | exact .inl (by decide +kernel) | exact .inr (by decide +kernel)) (by rw [isSubtype_type]; kernel_rfl)
theorem deq_type_pop:typeOf (.builtin "collections.deque.pop")=pure (.type "method_descriptor"):=by show builtinType _=_; rw [builtinType_eq_fast]; kernel_rfl
theorem deq_entry_pop:entryFor table "collections.deque.pop" = some Builtin.«collections.deque.pop» := entryFor_of_tree (by kernel_rfl)
theorem deq_args_pop (a:Value):argsOk "collections.deque.pop" ⟨[a],[]⟩:=by unfold argsOk; kernel_rfl
theorem deq_slot_len:Slot "collections.deque" "__len__" "collections.deque.__len__" :=
 .of (owner := "collections.deque") (n := "__len__") (by rw [typeLookup_type,builtinLookup_eq_fast]; kernel_rfl) (by decide +kernel) (by decide +kernel) (by decide +kernel)
   (by first | exact .inl (by decide +kernel) | exact .inr (by decide +kernel)) (by rw [isSubtype_type]; kernel_rfl)
theorem deq_entry_len:entryFor table "collections.deque.__len__" = some Builtin.«collections.deque.__len__» := entryFor_of_tree (by kernel_rfl)
theorem deq_args_len (a:Value):argsOk "collections.deque.__len__" ⟨[a],[]⟩:=by unfold argsOk; kernel_rfl
theorem deq_noBool:typeLookup (.type "collections.deque") "__bool__" = pure none:=by rw [typeLookup_type,builtinLookup_eq_fast]; kernel_rfl
section
variable {prog:Program} {w:World} {A:Around} {E:Value→Shared→Prop} {s:Shared} {D:Addr} {vs:List Value} {k:Int}
theorem deq_method_append {pl:Sem Bool} {Q:Value × List Value→Shared→Prop} (ho:s.heap.get? D=some (deqO vs k)) (h:Q (.builtin "collections.deque.append",[.ref D]) s):wpAny (model prog w) A (getMethod (.ref D) "append" pl) Q E s :=
 getMethod_builtin ⟨_,ho,rfl⟩ deq_attrs deq_slot_append deq_type_append (fun a e=>by cases e; exact ⟨_,ho,rfl⟩) h
theorem deq_method_pop {pl:Sem Bool} {Q:Value × List Value→Shared→Prop} (ho:s.heap.get? D=some (deqO vs k)) (h:Q (.builtin "collections.deque.pop",[.ref D]) s):wpAny (model prog w) A (getMethod (.ref D) "pop" pl) Q E s :=
 getMethod_builtin ⟨_,ho,rfl⟩ deq_attrs deq_slot_pop deq_type_pop (fun a e=>by cases e; exact ⟨_,ho,rfl⟩) h
theorem deq_fields (vs:List Value) (k:Int):(deqO vs k).data=.fields (.none::rawInt k::vs).toArray:=by simp [deqO]
theorem deq_change {M:Model} {f:Array Value→Array Value} {Q:Unit→Shared→Prop} (ho:s.heap.get? D=some (deqO vs k)) (hz:(f vs.toArray).size≤100)
   (h:∀ h',Heap.SameBut D s.heap h'→h'.get? D=some (deqO (f vs.toArray).toList (k + 1))→Q () { s with heap:=h' }) :
   wpAny M A (Builtin.Deque.change (.ref D) f) Q E s:=by
 unfold Builtin.Deque.change Builtin.Deque.state
 refine wpAny_bind (wpAny_bind (wpAny_field ho (deq_fields vs k) (x:=rawInt k) (by simp) ?_))
 refine wpAny_pure ?_
 have ee:((Value.none::rawInt k::vs).toArray.extract 2 (Value.none::rawInt k::vs).toArray.size)=vs.toArray:=by
   apply Array.ext'
   simp
 refine wpAny_updateFields ho (deq_fields vs k) (h _ (Heap.SameBut.update ..) ?_) ?_
 · rw [Heap.get?_update_self _ ho (by simp only [deqO,Obj.mapFields]; rfl)]
   have:(deqO vs k)={ cls:=.type "collections.deque",data:=.fields (.none::rawInt k::vs).toArray }:=by simp [deqO]
   rw [this]
   simp only [Obj.mapFields,ee,deqO]
   simp
 · rw [ee]
   rw [sizeLine_eq]
   simp only [Array.size_append,List.size_toArray,List.length_cons,List.length_nil]
   omega
theorem deq_append {x:Value} {Q:Value→Shared→Prop} (ho:s.heap.get? D=some (deqO [] k))
   (h:∀ h',Heap.SameBut D s.heap h'→h'.get? D=some (deqO [x] (k + 1))→Q .none { s with heap:=h' }) :
   wpAny (model prog w) A (call (.builtin "collections.deque.append") [.ref D,x]) Q E s:=by
 refine wpAny_call_entry deq_slot_append ⟨_,ho,rfl⟩ deq_entry_append ?_ (deq_args_append _ _)
 unfold Builtin.«collections.deque.append»
 refine wpAny_bind (m:=selfAndOne _ _) (wpAny_pure ?_)
 show wpAny _ _ (Builtin.Deque.pushRight (.ref D) x >>= fun _=>ret .none) _ _ s
 unfold Builtin.Deque.pushRight
 refine wpAny_bind (wpAny_bind (deq_change ho (by simp) fun h' hs ho'=>?_))
 unfold Builtin.Deque.maxlen
 refine wpAny_bind (wpAny_bind (wpAny_field (s:={ s with heap:=h' }) ho' (deq_fields _ _) (x:=.none) (by simp) ?_))
 refine wpAny_pure (wpAny_pure (wpAny_pure ⟨.none,rfl,h h' hs (by simpa using ho')⟩))
theorem deq_pop {x:Value} {Q:Value→Shared→Prop} (ho:s.heap.get? D=some (deqO [x] k))
   (h:∀ h',Heap.SameBut D s.heap h'→h'.get? D=some (deqO [] (k + 1))→Q x { s with heap:=h' }) :
   wpAny (model prog w) A (call (.builtin "collections.deque.pop") [.ref D]) Q E s:=by
 refine wpAny_call_entry deq_slot_pop ⟨_,ho,rfl⟩ deq_entry_pop ?_ (deq_args_pop _)
 unfold Builtin.«collections.deque.pop»
 refine wpAny_bind (m:=selfOnly _ _) (wpAny_pure ?_)
 unfold Builtin.Deque.items
 refine wpAny_bind (wpAny_bind (wpAny_fieldsOf ho (deq_fields _ _) ?_))
 refine wpAny_pure ?_
 show wpAny _ _ (Builtin.Deque.change (.ref D) (·.pop) >>= fun _=>ret x) _ _ s
 exact wpAny_bind (deq_change ho (by simp) fun h' hs ho'=>wpAny_pure ⟨x,rfl,h h' hs (by simpa using ho')⟩)
theorem deq_call_len {Q':Value→Shared→Prop} (ho:s.heap.get? D=some (deqO vs k)) (h:Q' (.int vs.length s.toks) { s with toks:=s.toks + 1 }) :
   wpAny (model prog w) A (call (.builtin "collections.deque.__len__") [.ref D]) Q' E s:=by
 refine wpAny_call_entry deq_slot_len ⟨_,ho,rfl⟩ deq_entry_len ?_ (deq_args_len _)
 unfold Builtin.«collections.deque.__len__»
 refine wpAny_bind (m:=slotArgs _ _ _) (wpAny_pure ?_)
 unfold Builtin.Deque.size
 refine wpAny_bind (wpAny_bind (wpAny_fieldsOf ho (deq_fields _ _) (wpAny_pure ?_)))
 have e:((((Value.none::rawInt k::vs).toArray.size - 2:Nat)):Int)=vs.length:=by simp
 rw [e]
 exact wpAny_bind (wpAny_mkInt (wpAny_pure ⟨_,rfl,h⟩))
theorem deq_truthy {Q:Bool→Shared→Prop} (ho:s.heap.get? D=some (deqO vs k)) (hl:vs.length≤1) (h:∀ tk,Q (vs.length != 0) { s with toks:=tk }):wpAny (model prog w) A (truthy (.ref D)) Q E s:=by
 have e:((vs.length:Int) != 0)=(vs.length != 0):=by
   cases hv:vs.length with
   | zero=>rfl
   | succ n=>simp; omega
 have hT:s.TypeIs (.ref D) "collections.deque" := ⟨_,ho,rfl⟩
 have key:wpAny (model prog w) A (runValue (.builtin "len" ⟨[.ref D],[]⟩)) (fun r s'=>r=.int vs.length (s.toks + 1)∧Q (vs.length != 0) s') E s:=by
   refine wpAny_runValue (codeAny_builtin entry_len ?_)
   rw [Around.under_plainId plain_len _]
   unfold Builtin.«len»
   refine wpAny_bind (m:=oneArg "len" _) (wpAny_pure ?_)
   refine wpAny_bind (m:=callSpecial? (.ref D) (Str.ofString "__len__")) (wpAny_callSpecial?_slot (name:=Str.ofString "__len__") hT deq_slot_len (deq_call_len ho ?_))
   show wpAny _ _ _ _ _ { s with toks:=s.toks + 1 }
   refine wpAny_bind (wpAny_holding (wpAny_pure ?_))
   refine wpAny_bind (wpAny_letGo ?_)
   show wpAny _ _ (if (vs.length:Int)<0 then _ else _) _ _ _
   rw [if_neg (by omega)]
   show wpAny _ _ (if (vs.length:Int) ≥ 2 ^ 63 then _ else _) _ _ _
   rw [if_neg (by omega)]
   exact wpAny_bind (wpAny_mkInt (wpAny_pure ⟨rfl,h _⟩))
 unfold truthy
 first
   | refine wpAny_bind (wpAny_callSpecial?_none (name:=Str.ofString "__bool__") hT deq_noBool ?_)
   | refine wpAny_bind (wpAny_pure (wpAny_bind (wpAny_callSpecial?_none (name:=Str.ofString "__bool__") hT deq_noBool ?_)))
 first
   | refine wpAny_bind (wpAny_specialOf (name:=Str.ofString "__len__") hT deq_slot_len.lookup ?_)
   | refine wpAny_bind (wpAny_pure (wpAny_bind (wpAny_specialOf (name:=Str.ofString "__len__") hT deq_slot_len.lookup ?_)))
 first
   | exact wpAny_bind (wpAny_mono key (fun r s' h'=>by obtain ⟨rfl,hq⟩:=h'; exact wpAny_pure (e ▸ hq)) fun _ _ e=>e)
   | exact wpAny_bind (wpAny_pure (wpAny_bind (wpAny_mono key (fun r s' h'=>by obtain ⟨rfl,hq⟩:=h'; exact wpAny_pure (e ▸ hq)) fun _ _ e=>e)))
end
end
section
set_option maxHeartbeats 4000000
theorem sfx_refl (l:List Nat):l <:+ l:=List.suffix_refl l
theorem addOb_sfx (n:Nat) (l:List Nat):l <:+ addOb n l:=by
 unfold addOb
 cases Nat.ble n 4096 with
 | true=>exact List.suffix_refl l
 | false=>exact List.suffix_cons _ _
noncomputable def Sat {α:Type} (ob:List Nat) (r:R α) (P:α→AS→Prop):Prop:=match r with
 | .ok a s=>ob <:+ s.ob∧P a s
 | .exc _ _=>True
 | .bad=>True
section
variable {α β:Type} {ob:List Nat} {r:R α} {P P':α→AS→Prop} {a:α} {s:AS} {o:Option α}
theorem Sat.ret (p:P a s):Sat s.ob (.ok a s) P:=⟨sfx_refl _,p⟩
theorem Sat.use (h:Sat ob r P) (e:r=.ok a s):P a s:=by subst e; exact h.2
theorem Sat.imp (h:Sat ob r P) (k:∀ a s,ob <:+ s.ob→P a s→P' a s):Sat ob r P':=by
 cases r with
 | ok a s=>exact ⟨h.1,k a s h.1 h.2⟩
 | exc=>trivial
 | bad=>trivial
theorem Sat.of {ob':List Nat} (h:Sat ob' r P) (g:ob <:+ ob'):Sat ob r P:=by
 cases r with
 | ok a s=>exact ⟨g.trans h.1,h.2⟩
 | exc=>trivial
 | bad=>trivial
theorem Sat.bind {f:α→AS→R β} {P':β→AS→Prop} (h:Sat ob r P) (k:∀ a s,ob <:+ s.ob→P a s→Sat s.ob (f a s) P'):Sat ob (r.bind f) P':=by
 cases r with
 | ok a s=>exact (k a s h.1 h.2).of h.1
 | exc=>trivial
 | bad=>trivial
theorem Sat.opt (k:∀ a,o=some a→P a s):Sat s.ob (optR o s) P:=by
 cases o with
 | some a=>exact ⟨sfx_refl _,k a rfl⟩
 | none=>trivial
theorem Sat.bindO {f:α→AS→R β} {P':β→AS→Prop} (k:∀ a,o=some a→Sat ob (f a s) P'):Sat ob ((optR o s).bind f) P':=by
 cases o with
 | some a=>exact k a rfl
 | none=>trivial
theorem Sat.guard {b:Bool} (k:b=true→Sat ob r P):Sat ob (guardR b r) P:=by
 cases b with
 | true=>exact k rfl
 | false=>trivial
end
noncomputable def TSat {α:Type} (σ:AS) (o:Option (R α)) (P:α→AS→Prop):Prop:=match o with
 | some r=>Sat σ.ob r P
 | .none=>True
theorem TSat.use {α:Type} {σ:AS} {o:Option (R α)} {P:α→AS→Prop} {r:R α} (h:TSat σ o P) (e:o=some r):Sat σ.ob r P:=by subst e; exact h
theorem TSat.getD {α:Type} {σ:AS} {o:Option (R α)} {d:R α} {P P':α→AS→Prop} (h:TSat σ o P) (k:∀ a s,σ.ob <:+ s.ob→P a s→P' a s) (k':Sat σ.ob d P'):Sat σ.ob (o.getD d) P':=by
 cases o with
 | some r=>exact Sat.imp (P:=P) h k
 | none=>exact k'
theorem TSat.with {α:Type} {σ:AS} {o:Option (R α)} {P:α→AS→Prop} {q:Prop} (k:q) (h:TSat σ o P):OSat o fun r=>q∧Sat σ.ob r P:=by
 cases o with
 | some r=>exact ⟨k,h⟩
 | none=>exact True.intro
theorem stoA_ob {sc:List (Str × NameKind)} {x:Str} {v:AV} {σ:AS}:OSat (stoA sc x v σ) fun σ'=>σ'.ob=σ.ob:=by
 unfold stoA
 cases look x sc with
 | none=>trivial
 | some k =>
             cases k <;> first | trivial | exact rfl | skip
             cases look x σ.lo with
             | none=>trivial
             | some w =>
                         cases w <;> first | trivial | skip
                         rename_i i
                         dsimp only
                         cases atI σ.hp i with
                         | none=>trivial
                         | some ao=>cases ao <;> first | trivial | exact rfl
theorem stoL_ob {sc:List (Str × NameKind)}:∀ {xs:List Str} {vs:List AV} {σ:AS},OSat (stoL sc xs vs σ) fun σ'=>σ'.ob=σ.ob:=by
 intro xs
 induction xs with
 | nil=>intro vs σ; cases vs <;> first | exact rfl | trivial
 | cons x r ih =>
   intro vs σ
   cases vs with
   | nil=>trivial
   | cons v q =>
     rw [stoL_c]
     cases h:stoA sc x v σ with
     | none=>trivial
     | some σ₁ =>
       have h1:=stoA_ob.use h
       rw [← h1]
       exact ih
theorem asgA_ob {T:Tab} {sc:List (Str × NameKind)} {t:Expr} {it:It} {σ:AS}:OSat (asgA T sc t it σ) fun σ'=>σ'.ob=σ.ob:=by
 cases t <;> first | trivial | skip
 · cases it <;> first | trivial | exact stoA_ob
 · rename_i es k p
   unfold asgA
   dsimp only
   cases namesOf es with
   | none=>trivial
   | some xs=>cases unpA T it σ.hp with
     | none=>trivial
     | some vs=>exact stoL_ob
end
section
set_option maxHeartbeats 1000000
theorem bind_ok {α β:Type} {r:R α} {f:α→AS→R β} {b:β} {σ':AS} (h:r.bind f=.ok b σ'):∃ a σ₁,r=.ok a σ₁∧f a σ₁=.ok b σ':=by
 cases r with
 | ok a σ=>exact ⟨a,σ,rfl,h⟩
 | exc=>cases h
 | bad=>cases h
noncomputable def Sz (ob:List Nat):Prop:=∀ l∈ob,l≤sizeLine
theorem Sz.hd {n:Nat} {ob:List Nat} (z:Sz (addOb n ob)):n≤sizeLine:=by
 unfold addOb at z
 revert z
 cases h:Nat.ble n 4096 with
 | true=>exact fun _=>Nat.le_trans (Nat.le_of_ble_eq_true h) (by rw [sizeLine_eq]; decide)
 | false=>exact fun z=>z _ (.head _)
theorem Sz.add {n:Nat} {ob:List Nat} (h:n≤sizeLine) (z:Sz ob):Sz (addOb n ob):=by
 unfold addOb
 cases Nat.ble n 4096 with
 | true=>exact z
 | false =>
   intro l hl
   rcases List.mem_cons.mp hl with rfl | hl
   · exact h
   · exact z l hl
theorem Sz.of {ob ob':List Nat} (h:ob <:+ ob') (z:Sz ob'):Sz ob:=fun l hl=>z l (h.subset hl)
theorem look_lookup {α:Type} (x:Str):∀ l:List (Str × α),look x l=l.lookup x
 | []=>rfl
 | (k,v)::r=>by
   rw [look_c,List.lookup_cons,look_lookup x r,sq_beq,BEq.comm]
   cases h:x==k <;> rfl
structure Gl where
 w:World
 K:Frag
 prog:Program
 p:Program
 loose:List Str
 mean:ExcName→Option Value
 mg:Str→Option Value
 mb:Str→Option Value
 sl:Nat
 ex:Frag
structure CxOk (g:Gl) (x:Cx) (n:Nat):Prop where
 B:Below x.A₀ x.base x.outer x.h₀
 X:g.K.In x.h₀
 T:Top g.p g.loose g.mean g.mg g.mb x.h₀
 kd:x.scope.kind=.function
 hh:x.A.handled=none
 ck:x.cur.scope.kind=.function
 kn:∀ y,x.cur.kindOf y=x.scn.lookup y
 clk:∀ y,(x.ccl.lookup y).isSome=true ↔ look y x.scn=some .cell
 cvo:∀ c,x.cv=some c→(∃ oC,(c.C,oC)∈x.fz∧LCg.NsObj oC c.mC)∧∃ k,look nmDot x.scn=some k
 dp:x.A.depth + n + g.sl<recursionLimit
 un:x.A.units + 8 * (n + g.sl)<cLine
 EX:g.ex.In x.h₀
theorem CxOk.one {g:Gl} {x:Cx} {n:Nat} (o:CxOk g x (n + 1)):CxOk g x 1:=⟨o.B,o.X,o.T,o.kd,o.hh,o.ck,o.kn,o.clk,o.cvo,by have:=o.dp; omega,by have:=o.un; omega,o.EX⟩
theorem CxOk.less {g:Gl} {x:Cx} {n:Nat} (o:CxOk g x (n + 1)):CxOk g x n:=⟨o.B,o.X,o.T,o.kd,o.hh,o.ck,o.kn,o.clk,o.cvo,by have:=o.dp; omega,by have:=o.un; omega,o.EX⟩
theorem CxOk.top {g:Gl} {x:Cx} {n:Nat} (o:CxOk g x n) {ρ:List Addr} {σ:AS} {h:Heap} (H:HS x ρ σ h):g.K.In h:=H.ex.elim fun _ h=>h.elim fun _ h=>o.X.keeps h.1.keep
noncomputable def Same (s s':Shared):Prop:=s'.gens=s.gens∧s'.drawn=s.drawn∧s'.os=s.os
theorem Same.rfl {s:Shared}:Same s s:=⟨.refl _,.refl _,.refl _⟩
theorem Same.of {s:Shared} {h:Heap} {t:Nat}:Same s { s with heap:=h,toks:=t }:=⟨.refl _,.refl _,.refl _⟩
theorem Same.trans {a b c:Shared} (h:Same a b) (k:Same b c):Same a c:=⟨k.1.trans h.1,k.2.1.trans h.2.1,k.2.2.trans h.2.2⟩
noncomputable def OVR (ρ:List Addr):Option AV→Value→Prop
 | some a,v=>VR ρ a v
 | .none,v=>v=.none
theorem OVR.mono {ρ ρ':List Addr} (h:ρ <+: ρ') {a:Option AV} {v:Value} (x:OVR ρ a v):OVR ρ' a v:=by
 cases a with
 | none=>exact x
 | some a=>exact VR.mono h x
noncomputable def isSlice:Expr→Bool
 | .Slice ..=>true
 | _=>false
noncomputable abbrev EF:Value→Shared→Prop:=fun _ _=>False
structure FnD where
 name:Str
 qual:Str
 params:Arguments
 scope:Scope
 dV:Value
 kV:Value
 doc:Value
 pm:Value
 cdv:Value
 ct:Value
 oc:Value
 an:Option Addr
 od:Option Addr
 osl:Array (Option Value)
noncomputable abbrev FnD.fn (d:FnD) (body:List Stmt):FuncData:=fnOf d.name d.qual d.params body d.scope d.dV d.kV d.doc d.pm d.an d.cdv d.ct
structure Bnd (fi:FnI) (s:Shared) (f:FuncData) (vs:List Value) (kvs:List (Str × Value)) (binds:List (Str × Value)):Prop where
 to:BindsTo s f ⟨vs,kvs⟩ binds
 nd:(binds.map (·.1)).Nodup
 prm:∀ p∈fi.prm.zip (vs++kvs.map (·.2)),p∈binds
 dfl:∀ p∈fi.dfl,∃ v',(p.1,v')∈binds∧VR [] p.2 v'
 kd:(binds.all fun y=>fi.scn.lookup y.1==some .local || fi.scn.lookup y.1==some .cell)=true
 nm:∀ p∈binds,p.1∈fi.prm ∨ p.1∈fi.dfl.map (·.1)
structure FnIs (g:Gl) (a:Addr) (fi:FnI) (d:FnD):Prop where
 at_:g.K.lookup a=some ⟨d.oc,d.od,.func (d.fn fi.body),d.osl⟩
 code:codeIn g.K d.cdv d.qual=true
 scn:d.scope.names=fi.scn
 kind:d.scope.kind=.function
 co:d.scope.isCoroutine=false
 gen:d.scope.isGenerator=false
 bnd:∀ (s:Shared) (vs:List Value) (kvs:List (Str × Value)),g.K.In s.heap→vs.length + kvs.length=fi.prm.length→kvs.map (·.1)=fi.kws→∃ binds,Bnd fi s (d.fn fi.body) vs kvs binds
structure FnOk (g:Gl) (a:Addr) (fi:FnI):Prop where
 ex:∃ d,FnIs g a fi d
 ck:∀ c∈cellNs fi.scn,look c fi.scn=some .cell
 cd:((cellsFrom 0 fi.scn []).map (·.1)).Nodup
noncomputable def ClsOk (g:Gl) (C:Addr) (n:Str):Mb→Prop
 | .own=>plainGet g.K C n=true∧hasDictIn g.K C=true∧(∃ attr,findIn g.K (.ref C) n=some attr∧noGet g.K attr=true)∧findIn g.K (.ref C) "__setattr__" = some (some (.builtin "object.__setattr__"))∧plainOver g.K C=true∧takerIn g.K C n=some none
 | .meth f=>plainGet g.K C n=true∧findIn g.K (.ref C) n=some (some (.ref f))∧isFn g.K (.ref f)=true∧keepIn g.K (.ref f)=true
 | .prop f=>plainGet g.K C n=true∧hasDictIn g.K C=true∧∃ p rest,findIn g.K (.ref C) n=some (some (.ref p))∧specialIn g.K (.ref p) "__get__" = some (some (.builtin "property.__get__"))∧takesIn g.K (.ref p)=some true∧recIn g.K p "property" = some (.ref f::rest)
noncomputable def MkOk (g:Gl) (C f:Addr):Prop:=keepIn g.K (.ref C)=true∧makesIn g.K C=true∧findIn g.K (.ref C) "__init__" = some (some (.ref f))∧isFn g.K (.ref f)=true
noncomputable def GlobOk (g:Gl) (x:Str) (v:AV):Prop :=
 (∃ a,v=.top a∧nsIn g.K mainGlobals x=some (some (.ref a))) ∨
 (∃ b,v=.bi b∧nsIn g.K mainGlobals x=some none∧bootBuiltins x=some b.val∧x ≠ "__name__") ∨
 (∃ b,v=.bi b∧nsIn g.K mainGlobals x=some (some b.val))
noncomputable abbrev RQ (Q:Value→Shared→Prop):Result→Shared→Prop:=fun r s'=>match r with
 | .ok (.ret v)=>Q v s'
 | .ok _=>False
 | .error _=>False
theorem RQ_to {Q:Value→Shared→Prop} {r:Result} {s':Shared} (h:RQ Q r s'):∃ v,r=.ok (.ret v)∧Q v s':=by
 rcases r with e | f
 · exact h.elim
 · cases f <;> first | exact ⟨_,rfl,h⟩ | exact h.elim
noncomputable abbrev KRs (ρ:List Addr):List (Str × AV)→List (Str × Value)→Prop:=All2 fun p q=>q.1=p.1∧VR ρ p.2 q.2
noncomputable def FR (ρ:List Addr):Fl→Flow→Prop
 | .next,f=>f=.next
 | .brk,f=>f=.brk
 | .cont,f=>f=.cont
 | .ret v,f=>∃ v',f=.ret v'∧VR ρ v v'
section
variable (g:Gl) (T:Tab)
noncomputable def Cnt {α β:Type} (V:List Addr→α→β→Prop) (x:Cx) (ρ:List Addr) (s:Shared) (a:α) (σ':AS) (Q:β→Shared→Prop):Prop:=∀ ρ' s' b,ρ <+: ρ'→HS x ρ' σ' s'.heap→Same s s'→V ρ' a b→Q b s'
noncomputable def Run {α β:Type} (V:List Addr→α→β→Prop) (x:Cx) (σ:AS) (m:Sem β) (a:α) (σ':AS):Prop:=Sz σ'.ob→∀ ρ s (Q:β→Shared→Prop),HS x ρ σ s.heap→Cnt V x ρ s a σ' Q→wpAny (model g.prog g.w) x.A m Q EF s
noncomputable def RunB (x:Cx) (σ:AS) (m:Sem Bool) (b:Bool) (σ':AS):Prop:=Sz σ'.ob→∀ ρ s (Q:Bool→Shared→Prop),HS x ρ σ s.heap→(∀ ρ' s',ρ <+: ρ'→HS x ρ' σ' s'.heap→Same s s'→Q b s')→wpAny (model g.prog g.w) x.A m Q EF s
noncomputable def EvP (n:Nat) (sc:List (Str × NameKind)) (σ:AS) (e:Expr) (v:AV) (σ':AS):Prop:=∀ x,CxOk g x n→x.scn=sc→Run g VR x σ (eval e x.cur) v σ'
noncomputable def TrP (n:Nat) (sc:List (Str × NameKind)) (σ:AS) (e:Expr) (b:Bool) (σ':AS):Prop:=∀ x,CxOk g x n→x.scn=sc→RunB g x σ (isTrue e x.cur (eval e x.cur)) b σ'
noncomputable def ExP (n:Nat) (sc:List (Str × NameKind)) (σ:AS) (e:Stmt) (f:Fl) (σ':AS):Prop:=∀ x,CxOk g x n→x.cv=none→x.scope.names=sc→Run g FR x σ (exec e x.env) f σ'
noncomputable def ExsP (n:Nat) (sc:List (Str × NameKind)) (σ:AS) (e:List Stmt) (f:Fl) (σ':AS):Prop:=∀ x,CxOk g x n→x.cv=none→x.scope.names=sc→Run g FR x σ (execs e x.env) f σ'
noncomputable def EvS (n:Nat):Prop:=∀ sc e σ,Sat σ.ob ((interp T n).ev sc e σ) (EvP g n sc σ e)
noncomputable def TrS (n:Nat):Prop:=∀ sc e σ,Sat σ.ob ((interp T n).tr sc e σ) (TrP g n sc σ e)
noncomputable def ExS (n:Nat):Prop:=∀ sc e σ,Sat σ.ob ((interp T n).ex sc e σ) (ExP g n sc σ e)
noncomputable def ExsS (n:Nat):Prop:=∀ sc e σ,Sat σ.ob ((interp T n).exs sc e σ) (ExsP g n sc σ e)
noncomputable def CallP (n:Nat) (f:AV) (as:List AV) (ks:List (Str × AV)) (σ:AS) (v:AV) (σ':AS):Prop:=∀ x,CxOk g x n→∀ A':Around,A'.frames=some (x.env::x.outer)→A'.handled=none→A'.depth + n + g.sl<recursionLimit→A'.units + 8 * (n + g.sl)<cLine→Sz σ'.ob→∀ ρ s f' as' ks' m (Q:Value→Shared→Prop),
 HSm x ρ σ s.heap m→VR ρ f f'→VRs ρ as as'→KRs ρ ks ks'→(∀ ρ' s' v',ρ <+: ρ'→HSm x ρ' σ' s'.heap m→Same s s'→VR ρ' v v'→Q v' s') →
 codeAny (model g.prog g.w) A' (.call f' ⟨as',ks'⟩) (RQ Q) s
noncomputable def CallS (n:Nat):Prop:=∀ f as ks σ,Sat σ.ob ((interp T n).call f as ks σ) (CallP g n f as ks σ)
noncomputable def OpP (σ:AS) (as:List AV) (t:List Value→Sem Value) (v:AV) (σ':AS):Prop:=∀ x,CxOk g x 1→Sz σ'.ob→∀ ρ s as' (Q:Value→Shared→Prop),HS x ρ σ s.heap→VRs ρ as as'→Cnt VR x ρ s v σ' Q→wpAny (model g.prog g.w) x.A (t as') Q EF s
noncomputable def Op2 (σ:AS) (t:Value→Value→Sem Value) (a b r:AV) (σ':AS):Prop:=∀ x,CxOk g x 1→Sz σ'.ob→∀ ρ s a' b' (Q:Value→Shared→Prop),HS x ρ σ s.heap→VR ρ a a'→VR ρ b b'→Cnt VR x ρ s r σ' Q→wpAny (model g.prog g.w) x.A (t a' b') Q EF s
noncomputable def CmpP (σ:AS) (op:CmpOp) (a b:AV) (r:Bool):Prop:=∀ x,CxOk g x 1→Sz σ.ob→∀ ρ s a' b' (Q:Value→Shared→Prop),HS x ρ σ s.heap→VR ρ a a'→VR ρ b b'→(∀ ρ' s',ρ <+: ρ'→HS x ρ' σ s'.heap→Same s s'→Q (.bool r) s')→wpAny (model g.prog g.w) x.A (compareOp op a' b') Q EF s
noncomputable def MbiP (σ:AS) (v:AV) (n:Str) (p:Bi × Bool):Prop:=(∃ id,p.1.val=.builtin id)∧∀ x,CxOk g x 1→∀ ρ s v' (pl:Sem Bool) (Q:Value × List Value→Shared→Prop),HS x ρ σ s.heap→VR ρ v v'→(∀ tk,Q (p.1.val,match p.2 with | true=>[] | false=>[v']) { s with toks:=tk })→wpAny (model g.prog g.w) x.A (getMethod v' n pl) Q EF s
noncomputable def SubP (σ:AS) (a b v:AV) (σ':AS):Prop:=∀ value slice:Expr,isSlice slice=false→Op2 g σ (subscriptTail value slice) a b v σ'
noncomputable def SlcP (σ:AS) (a:AV) (l u:Option AV) (v:AV) (σ':AS):Prop:=∀ (value:Expr) (el eu:Option Expr) (q:Pos) x,CxOk g x 1→Sz σ'.ob→∀ ρ s a' lv uv (Q:Value→Shared→Prop),HS x ρ σ s.heap→VR ρ a a'→OVR ρ l lv→OVR ρ u uv→Cnt VR x ρ s v σ' Q →
 wpAny (model g.prog g.w) x.A (subscriptTail value (.Slice el eu none q) a' (.ref s.heap.objs.size)) Q EF { s with heap:=s.heap.push { cls:=.type "slice",data:=.fields #[lv,uv,.none] } }
structure TabOk:Prop where
 bin:∀ op a b σ,TSat σ (T.bin op a b σ) (Op2 g σ (binaryOp op) a b)
 cmp:∀ op a b σ,OSat (T.cmp op a b σ) (CmpP g σ op a b)
 bic:∀ b as σ,TSat σ (T.bic b as σ) (OpP g σ as (call b.val ·))
 mbi:∀ v n σ,OSat (T.mbi v n σ.hp) (MbiP g σ v n)
 sub:∀ a b σ,TSat σ (T.sub a b σ) (SubP g σ a b)
 slc:∀ a l u σ,TSat σ (T.slc a l u σ) (SlcP g σ a l u)
 fn:∀ a fi,T.fn a=some fi→FnOk g a fi
 cls:∀ C n m,T.cls C n=some m→ClsOk g C n m
 glob:∀ x v,T.glob x=some v→GlobOk g x v
 prim:∀ a as ks σ,OSat (T.prim a as ks σ) fun r=>keepIn g.K (.ref a)=true∧Sat σ.ob r fun v σ'=>∀ n,CallP g n (.top a) as ks σ v σ'
 make:∀ a f,T.make a=some f→MkOk g a f
 tup:∀ a vs,T.tup a=some vs→∃ o vs' n,g.K.lookup a=some o∧o=tupO vs' n∧VRs [] vs vs'
 spc:∀ sc e σ,TSat σ (T.spc sc e σ) (EvP g 1 sc σ e)
end
theorem VR.handed {ρ:List Addr}:∀ {a:AV} {v:Value},VR ρ a v→handedIn v=true
 | .none,_,h=>by cases h; rfl
 | .bool _,_,h=>by cases h; rfl
 | .int _,_,⟨_,h⟩=>by cases h; rfl
 | .str _,_,⟨⟨_,h⟩,_⟩=>by cases h; rfl
 | .obj _,_,⟨_,_,h⟩=>by cases h; rfl
 | .top _,_,h=>by cases h; rfl
 | .bi b,_,h=>by
   cases h
   cases b <;> decide +kernel
theorem isStr_eq {k:Value} {x n:Str} {t:Tok} (h:k=.str x t):k.isStr n=sq x n:=by
 subst h
 rw [sq_beq]; rfl
theorem look_getL {ρ:List Addr} {n:Str}:∀ {es:List (Str × AV)} {ds:List DictEntry} {a:AV},DR ρ es ds→look n es=some a→∃ v,getL n ds=some (some v)∧VR ρ a v:=by
 intro es ds a h e
 have key:∃ d,ds.find? (fun d=>d.key.isStr n)=some d∧VR ρ a d.val:=by
   induction h with
   | nil=>cases e
   | @cons p d r q hp _ ih =>
     obtain ⟨⟨t,hk⟩,hv⟩:=hp
     rw [List.find?_cons,isStr_eq hk]
     rw [look_c] at e
     cases hs:sq p.1 n with
     | true=>rw [hs] at e; cases e; exact ⟨d,rfl,hv⟩
     | false=>rw [hs] at e; exact ih e
 obtain ⟨d,h1,h2⟩:=key
 exact ⟨d.val,by unfold getL; rw [h1],h2⟩
theorem look_getL_none {ρ:List Addr} {n:Str} {es:List (Str × AV)} {ds:List DictEntry} (h:DR ρ es ds) (e:look n es=.none):getL n ds=some none:=by
 have key:ds.find? (fun d=>d.key.isStr n)=none∧ds.any (·.refKey)=false:=by
   induction h with
   | nil=>exact ⟨rfl,rfl⟩
   | @cons p d r q hp _ ih =>
     obtain ⟨⟨t,hk⟩,_⟩:=hp
     rw [look_c] at e
     rw [List.find?_cons,isStr_eq hk,List.any_cons]
     cases hs:sq p.1 n with
     | true=>rw [hs] at e; cases e
     | false =>
       rw [hs] at e
       obtain ⟨a,b⟩:=ih e
       refine ⟨a,?_⟩
       rw [b,Bool.or_false]
       show DictEntry.refKey d=false
       unfold DictEntry.refKey
       rw [hk]
 unfold getL
 rw [key.1]
 simp only
 rw [if_neg (by rw [key.2]; exact Bool.false_ne_true)]
theorem put_putL {ρ:List Addr} {n:Str} {a:AV} {v:Value} {hsh:Int} {k:Tok} {es:List (Str × AV)} {ds:List DictEntry} (h:DR ρ es ds) (va:VR ρ a v):DR ρ (put n a es) (putL n hsh (.str n k) v ds):=by
 induction h with
 | nil=>exact .cons ⟨⟨k,rfl⟩,va⟩ .nil
 | @cons p d r q hp hr ih =>
   rw [put_c]
   unfold putL
   rw [isStr_eq hp.1.choose_spec]
   cases hs:sq p.1 n with
   | true=>simp only [if_true]; exact .cons ⟨hp.1,va⟩ hr
   | false=>simp only [Bool.false_eq_true,if_false]; exact .cons hp ih
section
variable {g:Gl} {T:Tab} {x:Cx} {n:Nat} {ρ:List Addr} {σ σ':AS} {s:Shared}
theorem HS.upd {h h':Heap} {σ:AS} (H:HS x ρ σ h) {i:Nat} {a:Addr} {ao:AO} (hi:ρ[i]?=some a) (hl:i<σ.hp.length) (hs:Heap.SameBut a h h') {o:Obj} (ho:h'.get? a=some o) (r:OR ρ ao o) :
   HS x ρ { σ with hp:=σ.hp.set i ao } h':=by
 obtain ⟨m,os,F,H,l⟩:=H
 have hlo:i<os.length:=H.or.len ▸ hl
 have hm:=zip_mem (fz:=x.fz) hi (List.getElem?_eq_getElem hlo)
 have z:=H.nw _ hm
 obtain ⟨pre,post,e1,e2,n1,n2⟩:=(H.upd (o':=o) hi (List.getElem?_eq_getElem hlo)).split
 refine ⟨m,os.set i o,F.change hs z.2.1 z.2.2,H.put ?_ r,l⟩
 rw [e2]
 have N:=H.nw
 rw [e1] at N
 exact news_set N n1 n2 hs ho
noncomputable def GetP (g:Gl) (n:Nat) (σ:AS) (v:AV) (nm:Str) (r:AV) (σ':AS):Prop:=∀ x,CxOk g x (n + 1)→Sz σ'.ob→∀ ρ s v' (Q:Value→Shared→Prop),HS x ρ σ s.heap→VR ρ v v'→Cnt VR x ρ s r σ' Q→wpAny (model g.prog g.w) x.A (getAttr v' nm true) Q EF s
noncomputable def SetP (g:Gl) (σ:AS) (v:AV) (nm:Str) (a:AV) (f:Fl) (σ':AS):Prop:=f=.next∧∀ x n,CxOk g x n→∀ ρ s v' a' (Q:Unit→Shared→Prop),HS x ρ σ s.heap→VR ρ v v'→VR ρ a a'→(∀ s',HS x ρ σ' s'.heap→Same s s'→Q () s')→wpAny (model g.prog g.w) x.A (setAttr v' nm a') Q EF s
theorem HpR.at {h₀:Heap} {L:Addr} {fz:List (Addr × Obj)} {hp:List AO} {h:Heap} {os:List Obj} {k:Nat} {ad:Addr} {ao:AO} (HP:HpR h₀ L fz ρ hp h os) (hk:ρ[k]?=some ad) (e:atI hp k=some ao) {P:Prop} (f:∀ o,os[k]?=some o→OR ρ ao o→(ad,o)∈ρ.zip os++fz→P):P:=by
 rw [atI_eq] at e
 obtain ⟨a2,o2,h1,h2,hor,hm⟩:=HP.get e
 cases hk.symm.trans h1
 exact f o2 h2 hor hm
theorem getA_s (ok:TabOk g T) (hc:CallS g T n) {v:AV} {nm:Str} {σ:AS}:Sat σ.ob (getA T (interp T n) v nm σ) (GetP g n σ v nm):=by
 cases v <;> first | exact True.intro | skip
 rename_i k
 unfold getA
 dsimp only
 cases e:atI σ.hp k with
 | none=>exact True.intro
 | some ao =>
 cases ao <;> first | exact True.intro | skip
 rename_i C d
 dsimp only
 cases hcls:T.cls C nm with
 | none=>exact True.intro
 | some mb =>
 cases mb <;> first | exact True.intro | skip
 · dsimp only
   cases he:atI σ.hp d with
   | none=>exact True.intro
   | some ao =>
   cases ao <;> first | exact True.intro | skip
   refine Sat.opt fun r hl=>?_
   intro x o z ρ s v' Q H vr hQ
   obtain ⟨ad,hk,rfl⟩:=vr
   obtain ⟨c1,c2,⟨attr,c3,c4⟩,_⟩:=ok.cls _ _ _ hcls
   obtain ⟨m,os,F,HP,l⟩:=id H
   refine HP.at hk e fun o1 _ hor hm=>?_
   obtain ⟨dx,hdx,rfl⟩:=hor
   refine HP.at hdx he fun o2 _ kor km=>?_
   obtain ⟨ds,nn,rfl,hdr⟩:=kor
   obtain ⟨v',hg,hv⟩:=look_getL hdr hl
   exact get_own F o.X (InstAt.of_news HP.nw hm km) c1 c2 c3 c4 hg hv.handed (hQ ρ _ v' (List.prefix_refl _) H Same.of hv)
 · rename_i f
   refine (hc _ _ _ _).imp fun r σ' _ D=>?_
   intro x o z ρ s v' Q H vr hQ
   obtain ⟨ad,hk,rfl⟩:=vr
   obtain ⟨c1,c2,p,rest,c3,c4,c5,c6⟩:=ok.cls _ _ _ hcls
   obtain ⟨m,os,F,HP,l⟩:=H
   refine HP.at hk e fun o1 _ hor hm=>?_
   obtain ⟨dx,hdx,rfl⟩:=hor
   have hd2:d<os.length:=by
     have:=(List.getElem?_eq_some_iff.mp hdx).1
     rw [HP.olen] at this; exact this
   have I:=InstAt.of_news HP.nw hm (zip_mem hdx (List.getElem?_eq_getElem hd2))
   refine get_prop F o.X I c1 c2 c3 c4 c5 c6 ?_
   refine codeAny_mono (D x o.less x.A.in1 (Around.frames_deeper o.B.stack) o.hh (by have:=o.dp; show x.A.depth + n + g.sl<_; omega) (by have:=o.un; rw [units_in1]; omega) z ρ { s with toks:=s.toks + 1 } (.ref f) [.ref ad] [] m (fun v s'=>wpAny (model g.prog g.w) x.A (handedOut v) Q EF s') ⟨os,F,HP,l⟩ rfl (.cons ⟨_,hk,rfl⟩ .nil) .nil fun ρ' s' v' a b c d=>handed_on d.handed (hQ ρ' s' v' a b.hs (Same.of.trans c) d)) fun r s' hr=>?_
   obtain ⟨v,rfl,hq⟩:=RQ_to hr
   exact hq
theorem put_len {α:Type} (n:Str) (a:α):∀ es:List (Str × α),(put n a es).length≤es.length + 1:=by
 intro es
 induction es with
 | nil=>exact Nat.le_refl _
 | cons p r ih =>
   rw [put_c]
   cases sq p.1 n with
   | true=>exact Nat.le_succ _
   | false=>exact Nat.succ_le_succ ih
theorem setA_s (ok:TabOk g T) {v a:AV} {nm:Str} {σ:AS}:Sat σ.ob (setA T v nm a σ) (SetP g σ v nm a):=by
 cases v <;> first | exact True.intro | skip
 rename_i k
 unfold setA
 dsimp only
 cases e:atI σ.hp k with
 | none=>exact True.intro
 | some ao =>
 cases ao <;> first | exact True.intro | skip
 rename_i C d
 dsimp only
 cases hcls:T.cls C nm with
 | none=>exact True.intro
 | some mb =>
 cases mb <;> first | exact True.intro | skip
 dsimp only
 cases he:atI σ.hp d with
 | none=>exact True.intro
 | some ao =>
 cases ao <;> first | exact True.intro | skip
 rename_i es
 dsimp only
 cases hb:Nat.ble es.length 900 with
 | false=>exact True.intro
 | true =>
 refine ⟨sfx_refl _,rfl,?_⟩
 intro x n o ρ s v' a' Q H vr ar hQ
 obtain ⟨ad,hk,rfl⟩:=vr
 obtain ⟨c1,c2,⟨attr,c3,c4⟩,c5,c6,c7⟩:=ok.cls _ _ _ hcls
 obtain ⟨m,os,F,HP,l⟩:=H
 refine HP.at hk e fun o1 _ hor hm=>?_
 obtain ⟨dx,hdx,rfl⟩:=hor
 refine HP.at hdx he fun o2 k2 kor km=>?_
 obtain ⟨ds,nn,rfl,hdr⟩:=kor
 have hg:(getL nm ds).isSome=true:=by
   cases hl:look nm es with
   | none=>rw [look_getL_none hdr hl]; rfl
   | some b=>obtain ⟨v',hg,hv⟩:=look_getL hdr hl; rw [hg]; rfl
 have hdr':DR ρ (put nm a es) (putL nm (PyData.keyHash g.w.params nm) (.str nm (s.toks + 1)) a' ds):=put_putL hdr ar
 refine set_dict F o.X HP.nw (InstAt.of_news HP.nw hm km) rfl c5 c6 c7 c2 hg rfl (HP.upd hdx k2) ?_ fun h' F' N'=>?_
 · rw [← hdr'.len]
   exact Nat.le_trans (put_len _ _ _) (by have:=Nat.le_of_ble_eq_true hb; omega)
 · have HP':=HP.put N' (ao:=.dict (put nm a es)) ⟨_,_,rfl,hdr'⟩
   rw [← setAt_eq] at HP'
   exact hQ _ ⟨m,_,F',HP',l⟩ Same.of
end
end
section
set_option maxHeartbeats 1000000
theorem Cnt.after {α β:Type} {V:List Addr→α→β→Prop} {x:Cx} {ρ ρ₁:List Addr} {s s₁:Shared} {a:α} {σ':AS} {Q:β→Shared→Prop} (h:Cnt V x ρ s a σ' Q) (p:ρ <+: ρ₁) (S:Same s s₁):Cnt V x ρ₁ s₁ a σ' Q :=
 fun ρ' s' b q H S' v=>h ρ' s' b (p.trans q) H (S.trans S') v
theorem Cnt.now {α β:Type} {V:List Addr→α→β→Prop} {x:Cx} {ρ:List Addr} {s:Shared} {a:α} {σ':AS} {Q:β→Shared→Prop} (h:Cnt V x ρ s a σ' Q) {s':Shared} {b:β} (H:HS x ρ σ' s'.heap) (S:Same s s') (v:V ρ a b):Q b s':=h ρ s' b (List.prefix_refl _) H S v
theorem noStar_cons {e:Expr} {r:List Expr} {env:Env} (h:noStar (e::r)=true):starEach (e::r) env=(false,eval e env)::starEach r env∧noStar r=true:=by
 cases e <;> first | exact ⟨rfl,h⟩ | cases h
theorem starEach_plain {env:Env} {pos:Pos}:∀ {args:List Expr},noStar args=true→(backTo pos (starEach args env)).any (·.1)=false
 | [],_=>rfl
 | e::r,h=>by
   obtain ⟨h1,h2⟩:=noStar_cons (env:=env) h
   rw [h1]
   exact starEach_plain h2
theorem starEach_all {env:Env} {pos:Pos}:∀ {args:List Expr},noStar args=true→(backTo pos (starEach args env)).all (fun x=>!x.1)=true
 | [],_=>rfl
 | e::r,h=>by
   obtain ⟨h1,h2⟩:=noStar_cons (env:=env) h
   rw [h1]
   exact starEach_all h2
noncomputable def EvLP (g:Gl) (n:Nat) (sc:List (Str × NameKind)) (σ:AS) (args:List Expr) (vs:List AV) (σ':AS):Prop:=(args=[]→vs=[]∧σ'=σ)∧∀ x,CxOk g x n→x.scn=sc→∀ pos,Run g VRs x σ (spliced (backTo pos (starEach args x.cur))) vs σ'
section
variable {g:Gl} {T:Tab} {x:Cx} {n:Nat} {ρ:List Addr} {σ σ':AS} {s:Shared} {sc:List (Str × NameKind)}
theorem evL_s (hev:EvS g T n):∀ (args:List Expr) (σ:AS),noStar args=true→Sat σ.ob (evL ((interp T n).ev sc) args σ) (EvLP g n sc σ args):=by
 intro args
 induction args with
 | nil=>exact fun σ _=>Sat.ret ⟨fun _=>⟨rfl,rfl⟩,fun x o hs pos z ρ s Q H hQ=>spliced_nil (hQ.now H Same.rfl .nil)⟩
 | cons e r ih =>
   intro σ hn
   refine (hev sc e σ).bind fun v σ₁ _ D₁=>(ih σ₁ (noStar_cons (env:=default) hn).2).bind fun vs σ₂ m₂ D₂=>Sat.ret ⟨fun h=>ceCN h,fun x o hs pos z ρ s Q H hQ=>?_⟩
   rw [(noStar_cons hn).1]
   exact spliced_cons (D₁ x o hs (z.of m₂) ρ s _ H fun ρ₁ s₁ v' p₁ H₁ S₁ vr=>D₂.2 x o hs pos z ρ₁ s₁ _ H₁ fun ρ₂ s₂ vs' p₂ H₂ S₂ vrs=>hQ ρ₂ s₂ _ (p₁.trans p₂) H₂ (S₁.trans S₂) (.cons (vr.mono p₂) vrs))
theorem kwNames_all {pos:Pos} {env:Env}:∀ {ks:List Keyword} {kes:List (Str × Expr)},kwNames ks=some kes→(backToKw pos (keywordEach ks env)).all (·.1.isSome)=true∧(backToKw pos (keywordEach ks env)).filterMap (·.1)=kes.map (·.1)∧ks.length=kes.length
 | [],_,h=>by cases h; exact ⟨rfl,rfl,rfl⟩
 | ⟨nm,e,q⟩::r,kes,h=>by
   cases nm with
   | none=>cases h
   | some nm =>
     obtain ⟨l,hl,rfl⟩:=Option.map_eq_some_iff.mp h
     obtain ⟨a,b,c⟩:=kwNames_all (pos:=pos) (env:=env) hl
     refine ⟨a,?_,by simp [c]⟩
     show nm::(backToKw pos (keywordEach r env)).filterMap (·.1)=nm::l.map (·.1)
     rw [b]
noncomputable def KV (kes:List (Str × Expr)) (ρ:List Addr) (ws:List (Str × AV)) (vs:List Value):Prop:=KRs ρ ws ((kes.map (·.1)).zip vs)
noncomputable def EvKP (g:Gl) (n:Nat) (sc:List (Str × NameKind)) (σ:AS) (ks:List Keyword) (kes:List (Str × Expr)) (ws:List (Str × AV)) (σ':AS):Prop:=(ws=[]→ks=[]∧σ'=σ)∧∀ x,CxOk g x n→x.scn=sc→∀ pos,Run g (KV kes) x σ (evalAll ((backToKw pos (keywordEach ks x.cur)).map (·.2))) ws σ'
theorem evK_s (hev:EvS g T n):∀ (ks:List Keyword) (kes:List (Str × Expr)) (σ:AS),kwNames ks=some kes→Sat σ.ob (evK ((interp T n).ev sc) kes σ) (EvKP g n sc σ ks kes):=by
 intro ks
 induction ks with
 | nil =>
   intro kes σ hk
   cases hk
   exact Sat.ret ⟨fun _=>⟨rfl,rfl⟩,fun x o hs pos z ρ s Q H hQ=>kwAll_nil (hQ.now H Same.rfl .nil)⟩
 | cons k r ih =>
   obtain ⟨nm,e,q⟩:=k
   intro kes σ hk
   cases nm with
   | none=>cases hk
   | some nm =>
     obtain ⟨l,hl,rfl⟩:=Option.map_eq_some_iff.mp hk
     refine (hev sc e σ).bind fun v σ₁ _ D₁=>(ih l σ₁ hl).bind fun ws σ₂ m₂ D₂=>Sat.ret ⟨fun h=>ceCN h,fun x o hs pos z ρ s Q H hQ=>?_⟩
     exact kwAll_cons (D₁ x o hs (z.of m₂) ρ s _ H fun ρ₁ s₁ v' p₁ H₁ S₁ vr=>D₂.2 x o hs pos z ρ₁ s₁ _ H₁ fun ρ₂ s₂ vs' p₂ H₂ S₂ vrs=>hQ ρ₂ s₂ _ (p₁.trans p₂) H₂ (S₁.trans S₂) (.cons ⟨rfl,vr.mono p₂⟩ vrs))
noncomputable def AR (ρ:List Addr) (a:List AV × List (Str × AV)) (b:Args):Prop:=VRs ρ a.1 b.pos∧KRs ρ a.2 b.kw
theorem argsK_s (o:CxOk g x n) {f:Value} {pos:Pos} {args:List Expr} {ks:List Keyword} {kes:List (Str × Expr)} {vs:List AV} {ws:List (Str × AV)} {σ₁:AS}
   (hn:noStar args=true) (hk:kwNames ks=some kes) (D₁:EvLP g n x.scn σ args vs σ₁) (m₂:σ₁.ob <:+ σ'.ob) (D₂:EvKP g n x.scn σ₁ ks kes ws σ'):Run g AR x σ (evalArgs f true (backTo pos (starEach args x.cur)) (backToKw pos (keywordEach ks x.cur))) (vs,ws) σ':=by
 intro z ρ s Q H hQ
 obtain ⟨ka,kb,_⟩:=kwNames_all (pos:=pos) (env:=x.cur) hk
 have tail:∀ ρ₁ s₁ vs',ρ <+: ρ₁→HS x ρ₁ σ₁ s₁.heap→Same s s₁→VRs ρ₁ vs vs' →
     wpAny (model g.prog g.w) x.A (evalAll ((backToKw pos (keywordEach ks x.cur)).map (·.2))) (fun kk s₂=>Q ⟨vs',((backToKw pos (keywordEach ks x.cur)).filterMap (·.1)).zip kk⟩ s₂) EF s₁ :=
   fun ρ₁ s₁ vs' p₁ H₁ S₁ vrs=>D₂.2 x o rfl pos z ρ₁ s₁ _ H₁ fun ρ₂ s₂ kk p₂ H₂ S₂ krs=>hQ ρ₂ s₂ _ (p₁.trans p₂) H₂ (S₁.trans S₂) ⟨VRs.mono p₂ vrs,by rw [kb]; exact krs⟩
 cases args with
 | nil =>
   obtain ⟨rfl,rfl⟩:=D₁.1 rfl
   exact evalArgs_kw2_nil ka (tail ρ s [] (List.prefix_refl _) H Same.rfl .nil)
 | cons e r=>exact evalArgs_kw2 ka (D₁.2 x o rfl pos (z.of m₂) ρ s _ H tail) (noStar_cons hn).1
theorem any_kw {pos:Pos} {env:Env} {ks:List Keyword} {kes:List (Str × Expr)} (hk:kwNames ks=some kes):(backToKw pos (keywordEach ks env)).any (·.1.isNone)=false:=by
 have:=(kwNames_all (pos:=pos) (env:=env) hk).1
 rw [List.any_eq_false]
 intro p hp
 have:=List.all_eq_true.mp this p hp
 cases h:p.1 <;> simp_all
noncomputable def tgV:Tg→Value→Value × List Value
 | .fn f,v=>(.ref f,[v])
 | .bi b st,v=>(b.val,match st with | true=>[] | false=>[v])
 | .deqPop,v=>(.builtin "collections.deque.pop",[v])
 | .deqApp,v=>(.builtin "collections.deque.append",[v])
noncomputable def TgF (g:Gl):Tg→Prop
 | .fn f=>keepIn g.K (.ref f)=true
 | .bi b _=>∃ id,b.val=.builtin id
 | _=>True
noncomputable def MtP (g:Gl) (σ:AS) (v:AV) (nm:Str) (t:Tg):Prop:=TgF g t∧∀ x,CxOk g x 1→∀ ρ s v' pl (Q:Value × List Value→Shared→Prop),HS x ρ σ s.heap→VR ρ v v'→(∀ tk,Q (tgV t v') { s with toks:=tk })→wpAny (model g.prog g.w) x.A (getMethod v' nm pl) Q EF s
theorem methF_s (ok:TabOk g T) {v:AV} {nm:Str} {σ:AS}:OSat (methF T v nm σ.hp) (MtP g σ v nm):=by
 unfold methF
 cases hb:T.mbi v nm σ.hp with
 | some b =>
   obtain ⟨h1,h2⟩:=(ok.mbi v nm σ).use hb
   exact ⟨h1,fun x o ρ s v' pl Q H vr k=>h2 x o ρ s v' pl Q H vr k⟩
 | none =>
 cases v <;> first | exact True.intro | skip
 rename_i k
 dsimp only
 cases e:atI σ.hp k with
 | none=>exact True.intro
 | some ao =>
 cases ao <;> first | exact True.intro | skip
 · rename_i C d
   dsimp only
   cases hcls:T.cls C nm with
   | none=>exact True.intro
   | some mb =>
   cases mb <;> first | exact True.intro | skip
   rename_i f
   dsimp only
   cases hd:atI σ.hp d with
   | none=>exact True.intro
   | some ao =>
   dsimp only [Option.bind]
   cases hes:esOf ao with
   | none=>exact True.intro
   | some es =>
   dsimp only
   cases hl:look nm es with
   | some=>exact True.intro
   | none =>
   obtain ⟨c1,c2,c3,c4⟩:=ok.cls _ _ _ hcls
   refine ⟨c4,fun x o ρ s v' pl Q H vr hk=>?_⟩
   obtain ⟨ad,ha,rfl⟩:=vr
   obtain ⟨m,os,F,HP,l⟩:=H
   refine HP.at ha e fun o1 _ hor hm=>?_
   obtain ⟨dx,hdx,rfl⟩:=hor
   refine HP.at hdx hd fun o2 _ kor km=>?_
   obtain ⟨ds,nn,rfl,hdr⟩:=kor.es hes
   exact method_inst F o.X (InstAt.of_news HP.nw hm km) c1 c2 c3 (look_getL_none hdr hl) (hk s.toks)
 · dsimp only
   cases hs:sq nm nmPop with
   | true =>
     refine ⟨True.intro,fun x o ρ s v' pl Q H vr hk=>?_⟩
     obtain ⟨ad,ha,rfl⟩:=vr
     obtain ⟨m,os,F,HP,l⟩:=H
     refine HP.at ha e fun o1 _ hor hm=>?_
     obtain ⟨qs,kk,rfl,_⟩:=hor
     rw [show nm=("pop" : Str) from (sq_iff _ _).mp hs]
     exact deq_method_pop (HP.nw _ hm).1 (hk s.toks)
   | false =>
     dsimp only
     cases hs:sq nm nmAppend with
     | false=>exact True.intro
     | true =>
       refine ⟨True.intro,fun x o ρ s v' pl Q H vr hk=>?_⟩
       obtain ⟨ad,ha,rfl⟩:=vr
       obtain ⟨m,os,F,HP,l⟩:=H
       refine HP.at ha e fun o1 _ hor hm=>?_
       obtain ⟨qs,kk,rfl,_⟩:=hor
       rw [show nm=("append" : Str) from (sq_iff _ _).mp hs]
       exact deq_method_append (HP.nw _ hm).1 (hk s.toks)
noncomputable def TgP (g:Gl) (n:Nat) (t:Tg) (v:AV) (as:List AV) (ks:List (Str × AV)) (σ:AS) (r:AV) (σ':AS):Prop:=match t with
 | .fn f=>CallP g n (.top f) (v::as) ks σ r σ'
 | .bi b st=>ks=[]∧OpP g σ (match st with | true=>as | false=>v::as) (call b.val ·) r σ'
 | .deqPop=>ks=[]∧as=[]∧∃ k x,v=.obj k∧atI σ.hp k=some (.deq [x])∧r=x∧σ'={ σ with hp:=setAt σ.hp k (.deq []) }
 | .deqApp=>ks=[]∧∃ k x,v=.obj k∧as=[x]∧atI σ.hp k=some (.deq [])∧r=.none∧σ'={ σ with hp:=setAt σ.hp k (.deq [x]) }
theorem bic_s (ok:TabOk g T) {b:Bi} {as:List AV} {σ:AS}:Sat σ.ob ((T.bic b as σ).getD .bad) (OpP g σ as (call b.val ·)) :=
 (ok.bic b as σ).getD (fun _ _ _ p=>p) True.intro
theorem tgA_s (ok:TabOk g T) (hc:CallS g T n) {t:Tg} {v:AV} {as:List AV} {ks:List (Str × AV)} {σ:AS}:Sat σ.ob (tgA T (interp T n) t v as ks σ) (TgP g n t v as ks σ):=by
 cases t with
 | fn f=>exact hc _ _ _ _
 | bi b st =>
   cases ks with
   | cons=>exact True.intro
   | nil=>exact (bic_s ok).imp fun _ _ _ h=>⟨rfl,h⟩
 | deqPop =>
   cases v <;> first | exact True.intro | skip
   cases as with
   | cons=>exact True.intro
   | nil =>
   cases ks with
   | cons=>exact True.intro
   | nil =>
   unfold tgA
   dsimp only
   rename_i k
   cases e:atI σ.hp k with
   | none=>exact True.intro
   | some ao =>
   cases ao <;> first | exact True.intro | skip
   rename_i xs
   rcases xs with _ | ⟨y,_ | _⟩ <;> first | exact True.intro | skip
   exact ⟨sfx_refl _,rfl,rfl,_,_,rfl,e,rfl,rfl⟩
 | deqApp =>
   cases v <;> first | exact True.intro | skip
   rcases as with _ | ⟨y,_ | _⟩ <;> first | exact True.intro | skip
   cases ks with
   | cons=>exact True.intro
   | nil =>
   unfold tgA
   dsimp only
   rename_i k
   cases e:atI σ.hp k with
   | none=>exact True.intro
   | some ao =>
   cases ao <;> first | exact True.intro | skip
   rename_i xs
   cases xs with
   | cons=>exact True.intro
   | nil=>exact ⟨sfx_refl _,rfl,_,_,rfl,rfl,e,rfl,rfl⟩
theorem callDef_s (o:CxOk g x (n + 1)) {f:Addr} {first:List AV} {fv:List Value} {args:List Expr} {ks:List Keyword} {kes:List (Str × Expr)} {vs:List AV} {ws:List (Str × AV)} {r:AV} {σ₁ σ₂:AS} {pos:Pos} (hk:keepIn g.K (.ref f)=true)
   (hn:noStar args=true) (hks:kwNames ks=some kes) (D₁:EvLP g n x.scn σ args vs σ₁) (m₂:σ₁.ob <:+ σ₂.ob) (D₂:EvKP g n x.scn σ₁ ks kes ws σ₂) (m₃:σ₂.ob <:+ σ'.ob) (D:CallP g n (.top f) (first++vs) ws σ₂ r σ') (z:Sz σ'.ob) {Q:Value→Shared→Prop} (H:HS x ρ σ s.heap) (vf:VRs ρ first fv) (hQ:Cnt VR x ρ s r σ' Q) :
   wpAny (model g.prog g.w) x.A (callWith pos (.ref f) fv (backTo pos (starEach args x.cur)) (backToKw pos (keywordEach ks x.cur))) Q EF s:=by
 refine callWith_of (P:=g.K.In) (by rw [starEach_plain hn,any_kw hks]; rfl) (keeps_K hk) ?_
 refine argsK_s o.less hn hks D₁ m₂ D₂ (z.of m₃) ρ s _ H fun ρ₁ s₁ a p₁ H₁ S₁ ar=>?_
 obtain ⟨m₁,os₁,F₁,HP₁,l₁⟩:=H₁
 refine ⟨o.X.keeps F₁.keep,?_⟩
 refine wpAny_call (codeAny_mono (D x o.less x.A (Around.frames_deeper o.B.stack) o.hh o.less.dp o.less.un z ρ₁ s₁ (.ref f) (fv++a.pos) a.kw m₁ Q ⟨os₁,F₁,HP₁,l₁⟩ rfl ((VRs.mono p₁ vf).app ar.1) ar.2 fun ρ' s' v' a b c d=>hQ ρ' s' v' (p₁.trans a) b.hs (S₁.trans c) d) fun r s' hr=>?_)
 obtain ⟨v,rfl,hq⟩:=RQ_to hr
 exact hq
theorem tgCall_s (o:CxOk g x (n + 1)) {t:Tg} {v r:AV} {args:List Expr} {ks:List Keyword} {kes:List (Str × Expr)} {vs:List AV} {ws:List (Str × AV)} {σ₁ σ₂:AS} {pos:Pos} {v':Value} {Q:Value→Shared→Prop} (tf:TgF g t)
   (hn:noStar args=true) (hks:kwNames ks=some kes) (D₁:EvLP g n x.scn σ args vs σ₁) (m₂:σ₁.ob <:+ σ₂.ob) (D₂:EvKP g n x.scn σ₁ ks kes ws σ₂) (m₃:σ₂.ob <:+ σ'.ob) (tp:TgP g n t v vs ws σ₂ r σ') (z:Sz σ'.ob) (H:HS x ρ σ s.heap) (vr:VR ρ v v') (hQ:Cnt VR x ρ s r σ' Q) :
   wpAny (model g.prog g.w) x.A (callWith pos (tgV t v').1 (tgV t v').2 (backTo pos (starEach args x.cur)) (backToKw pos (keywordEach ks x.cur))) Q EF s:=by
 cases t with
 | fn f=>exact callDef_s (first:=[v]) (fv:=[v']) o tf hn hks D₁ m₂ D₂ m₃ tp z H (.cons vr .nil) hQ
 | bi b st =>
   obtain ⟨rfl,tp⟩:=tp
   obtain ⟨rfl,_⟩:=D₂.1 rfl
   obtain ⟨id,hid⟩:=tf
   rw [show (tgV (.bi b st) v').1=.builtin id from hid]
   refine callWith_builtin (starEach_plain hn) (argsK_s o.less hn hks D₁ m₂ D₂ (z.of m₃) ρ s _ H fun ρ₁ s₁ a p₁ H₁ S₁ ar=>?_)
   obtain ⟨pv,kw⟩:=a
   obtain ⟨vrs,krs⟩:=ar
   have krs:KRs ρ₁ [] kw:=krs
   cases krs
   rw [hid] at tp
   cases st with
   | true=>exact tp x o.one z ρ₁ s₁ pv Q H₁ vrs (hQ.after p₁ S₁)
   | false=>exact tp x o.one z ρ₁ s₁ (v'::pv) Q H₁ (.cons (vr.mono p₁) vrs) (hQ.after p₁ S₁)
 | deqPop =>
   obtain ⟨rfl,rfl,k,y,rfl,e,rfl,rfl⟩:=tp
   obtain ⟨rfl,_⟩:=D₂.1 rfl
   refine callWith_builtin (starEach_plain hn) (argsK_s o.less hn hks D₁ m₂ D₂ (z.of m₃) ρ s _ H fun ρ₁ s₁ a p₁ H₁ S₁ ar=>?_)
   obtain ⟨pv,kw⟩:=a
   obtain ⟨vrs,krs⟩:=ar
   have krs:KRs ρ₁ [] kw:=krs
   have vrs:VRs ρ₁ [] pv:=vrs
   cases krs
   cases vrs
   obtain ⟨ad,ha,rfl⟩:=vr
   have ha:=pre_get p₁ ha
   obtain ⟨m₁,os₁,F₁,HP₁,l₁⟩:=id H₁
   refine HP₁.at ha e fun o1 _ hor hm=>?_
   obtain ⟨us,kk',rfl,hus⟩:=hor
   cases hus with
   | cons hu hnil =>
     cases hnil
     refine deq_pop (HP₁.nw _ hm).1 fun h' hsb hget=>?_
     rw [atI_eq] at e
     have H₂:=H₁.upd (ao:=.deq []) ha (List.getElem?_eq_some_iff.mp e).1 hsb hget ⟨[],_,rfl,.nil⟩
     rw [← setAt_eq] at H₂
     exact hQ ρ₁ _ _ p₁ H₂ (S₁.trans Same.of) hu
 | deqApp =>
   obtain ⟨rfl,k,y,rfl,rfl,e,rfl,rfl⟩:=tp
   obtain ⟨rfl,_⟩:=D₂.1 rfl
   refine callWith_builtin (starEach_plain hn) (argsK_s o.less hn hks D₁ m₂ D₂ (z.of m₃) ρ s _ H fun ρ₁ s₁ a p₁ H₁ S₁ ar=>?_)
   obtain ⟨pv,kw⟩:=a
   obtain ⟨vrs,krs⟩:=ar
   have krs:KRs ρ₁ [] kw:=krs
   have vrs:VRs ρ₁ [y] pv:=vrs
   cases krs
   cases vrs with
   | cons hu hnil =>
   cases hnil
   obtain ⟨ad,ha,rfl⟩:=vr
   have ha:=pre_get p₁ ha
   obtain ⟨m₁,os₁,F₁,HP₁,l₁⟩:=id H₁
   refine HP₁.at ha e fun o1 _ hor hm=>?_
   obtain ⟨us,kk',rfl,hus⟩:=hor
   cases hus
   refine deq_append (HP₁.nw _ hm).1 fun h' hsb hget=>?_
   rw [atI_eq] at e
   have H₂:=H₁.upd (ao:=.deq [y]) ha (List.getElem?_eq_some_iff.mp e).1 hsb hget ⟨[_],_,rfl,.cons hu .nil⟩
   rw [← setAt_eq] at H₂
   exact hQ ρ₁ _ _ p₁ H₂ (S₁.trans Same.of) rfl
end
end
section
set_option maxHeartbeats 1000000
theorem attrBase_ok {o:Expr} {attr:Str} {env:Env} {whole:Sem Value} (h:baseOk o=true):attributeBase o attr env whole=whole:=by
 cases o <;> first | rfl | (cases h; done) | skip
 rename_i f as ks p
 cases f <;> first | rfl | cases h
theorem methodCall_plain {o:Expr} {name:Str} {apos pos:Pos} {env:Env} {ov:Value} {args:List Expr} {ks:List Keyword} {kes:List (Str × Expr)} (hl:args.length + ks.length<15) (hn:noStar args=true) (hk:kwNames ks=some kes) (hp:(apos.endLine==pos.line)=true) :
   methodCall o name apos pos env ov (args.length + ks.length) (backTo pos (starEach args env)) (backToKw pos (keywordEach ks env)) =
     (do let fx ← holding [ov] (getMethod ov name (do return (← importBound o env).getD true)); callWith pos fx.1 fx.2 (backTo pos (starEach args env)) (backToKw pos (keywordEach ks env))):=by
 have hf:methodCallForm (args.length + ks.length) (backTo pos (starEach args env)) (backToKw pos (keywordEach ks env))=true:=by
   unfold methodCallForm
   rw [starEach_all hn,(kwNames_all hk).1]
   simp only [Bool.and_true,Bool.true_and,decide_eq_true_eq]
   split <;> omega
 unfold methodCall
 rw [hf]
 unfold calleeOf methodCallPos
 rw [hp]
 rfl
section
variable {g:Gl} {T:Tab} {x:Cx} {n:Nat} {ρ:List Addr} {σ σ':AS} {s:Shared} {sc:List (Str × NameKind)}
noncomputable def TruP (g:Gl) (σ:AS) (v:AV) (b:Bool):Prop:=∀ x ρ s v' A E (Q:Bool→Shared→Prop),HS x ρ σ s.heap→VR ρ v v'→(∀ tk,Q b { s with toks:=tk })→wpAny (model g.prog g.w) A (truthy v') Q E s
theorem trA_s {v:AV}:OSat (trA v σ.hp) (TruP g σ v):=by
 have gen:(∀ i,v ≠ .obj i)→OSat (trA v σ.hp) (TruP g σ v):=fun ne=>by
   cases h:trA v σ.hp with
   | none=>exact True.intro
   | some b=>exact fun x ρ s v' A E Q H vr hQ=>tr_sound (hp:=σ.hp) ne h vr hQ
 cases v <;> first | (refine gen fun _ h=>?_; injection h; done) | skip
 clear gen
 rename_i i
 unfold trA
 dsimp only
 cases e:atI σ.hp i with
 | none=>exact True.intro
 | some ao =>
 cases ao <;> first | exact True.intro | skip
 rename_i xs
 have go:xs.length≤1→TruP g σ (.obj i) (xs.length != 0):=fun hl x ρ s v' A E Q H vr hQ=>by
   obtain ⟨ad,hk,rfl⟩:=vr
   obtain ⟨m,os,F,HP,l⟩:=H
   refine HP.at hk e fun o1 _ hor hm=>?_
   obtain ⟨ws,kk,rfl,hws⟩:=hor
   rw [hws.len] at hl hQ
   exact deq_truthy (HP.nw _ hm).1 hl hQ
 rcases xs with _ | ⟨y,_ | _⟩
 · exact go (Nat.zero_le _)
 · exact go (Nat.le_refl _)
 · exact True.intro
theorem add_s' {a b:AV} {t:Value→Value→Sem Value} (hi:∀ (x:Cx) (s:Shared) i u j w (Q:Value→Shared→Prop),Q (.int (i + j) s.toks) { s with toks:=s.toks + 1 }→wpAny (model g.prog g.w) x.A (t (.int i u) (.int j w)) Q EF s)
   (hs:∀ (x:Cx) (s:Shared) y u z w (Q:Value→Shared→Prop),(∀ t' tk,Q (.str (y++z) t') { s with toks:=tk })→y.length + z.length≤sizeLine→wpAny (model g.prog g.w) x.A (t (.str y u) (.str z w)) Q EF s):Sat σ.ob (binA .Add a b σ) (Op2 g σ t a b):=by
 cases a <;> first | exact True.intro | skip
 · cases b <;> first | exact True.intro | skip
   refine ⟨sfx_refl _,fun x o z ρ s a' b' Q H va vb hQ=>?_⟩
   obtain ⟨t,rfl⟩:=va
   obtain ⟨u,rfl⟩:=vb
   exact hi _ _ _ _ _ _ _ (hQ.now H Same.of ⟨_,rfl⟩)
 · cases b <;> first | exact True.intro | skip
   refine ⟨addOb_sfx _ _,fun x o z ρ s a' b' Q H va vb hQ=>?_⟩
   obtain ⟨⟨t,rfl⟩,_⟩:=va
   obtain ⟨⟨u,rfl⟩,_⟩:=vb
   have hz:=z.hd
   exact hs _ _ _ _ _ _ _ (fun t' tk=>hQ.now ⟨H.ex⟩ Same.of ⟨⟨t',rfl⟩,by rw [Str.length_append]; exact hz⟩) hz
theorem binA_s {op:Operator} {a b:AV}:Sat σ.ob (binA op a b σ) (Op2 g σ (binaryOp op) a b):=by
 cases op <;> first | exact True.intro | skip
 · exact add_s' (fun _ _ _ _ _ _ _ h=>add_int h) fun _ _ _ _ _ _ _ h hz=>add_str h hz
 · cases a <;> first | exact True.intro | skip
   cases b <;> first | exact True.intro | skip
   refine ⟨sfx_refl _,fun x o z ρ s a' b' Q H va vb hQ=>?_⟩
   obtain ⟨t,rfl⟩:=va
   obtain ⟨u,rfl⟩:=vb
   exact sub_int (hQ.now H Same.of ⟨_,rfl⟩)
theorem binT_s (ok:TabOk g T) {op:Operator} {a b:AV}:Sat σ.ob ((T.bin op a b σ).getD (binA op a b σ)) (Op2 g σ (binaryOp op) a b) :=
 (ok.bin op a b σ).getD (fun _ _ _ p=>p) binA_s
theorem augA_s {op:Operator} {a b:AV}:Sat σ.ob (augA op a b σ) (Op2 g σ (inplaceOp op) a b):=by
 cases op <;> first | exact True.intro | skip
 exact add_s' (fun _ _ _ _ _ _ _ h=>iadd_int h) fun _ _ _ _ _ _ _ h hz=>iadd_str h hz
theorem lookup_mem {α:Type} {x:Str} {l:List (Str × α)} {v:α} (h:l.lookup x=some v):(x,v)∈l:=by
 induction l with
 | nil=>cases h
 | cons p r ih =>
   obtain ⟨k,w⟩:=p
   rw [List.lookup_cons] at h
   cases e:x==k with
   | true=>rw [e] at h; cases h; rw [beq_iff_eq.mp e]; exact .head _
   | false=>rw [e] at h; exact .tail _ (ih h)
theorem cmpT_s (ok:TabOk g T) {op:CmpOp} {a b:AV}:OSat (cmpT T op a b σ) (CmpP g σ op a b):=by
 unfold cmpT
 cases hc:T.cmp op a b σ with
 | some r=>exact (ok.cmp op a b σ).use hc
 | none =>
   dsimp only
   cases h:cmpA op a b σ.hp with
   | none=>exact True.intro
   | some r =>
     exact fun x o z ρ s a' b' Q H va vb hQ=>by
       obtain ⟨m,os,F,HP,l⟩:=id H
       exact (cmp_sound HP va vb).use h _ (hQ ρ s (List.prefix_refl _) H Same.rfl)
theorem vm_local (o:CxOk g x n) {nm:Str} (hk:look nm x.scn=some .local):x.ccl.lookup nm=none:=by
 cases e:x.ccl.lookup nm with
 | none=>rfl
 | some c =>
   have:=(o.clk nm).mp (by rw [e]; rfl)
   rw [hk] at this; cases this
theorem cur_globals:x.cur.globals=mainGlobals:=by
 unfold Cx.cur
 cases x.cv <;> rfl
theorem local_s (o:CxOk g x n) {nm:Str} {v:AV} {Q:Value→Shared→Prop} {A:Around} {E:Value→Shared→Prop} (hk:look nm x.scn=some .local) (hl:look nm σ.lo=some v) (H:HS x ρ σ s.heap)
   (hQ:∀ v',VR ρ v v'→Q v' s):wpAny (model g.prog g.w) A (loadName x.cur nm) Q E s:=by
 obtain ⟨m,os,F,HP,l⟩:=id H
 obtain ⟨v',hv,vr⟩:=l _ _ hl
 have hk':=o.kn nm
 rw [← look_lookup,hk] at hk'
 unfold Cx.vm at hv
 rw [vm_local o hk] at hv
 dsimp only at hv
 cases hc:x.cv with
 | none =>
   rw [hc] at hv
   refine wpAny_loadName_local o.ck hk' (m:=m) ?_ hv (hQ v' vr)
   have hfm:x.fm m=m:=by unfold Cx.fm; rw [hc]
   rw [hfm] at F
   unfold Cx.cur; rw [hc]; exact F.ns
 | some c =>
   rw [hc] at hv
   obtain ⟨⟨oC,hm,ns⟩,_⟩:=o.cvo c hc
   refine wpAny_loadName_local o.ck hk' (m:=c.mC) ?_ hv (hQ v' vr)
   unfold Cx.cur; rw [hc]; exact ns.ns (HP.nw _ (List.mem_append_right _ hm)).1
theorem cur_cells:x.cur.cells=x.ccl:=by
 unfold Cx.cur Cx.ccl
 cases x.cv <;> rfl
noncomputable def NmP (g:Gl) (sc:List (Str × NameKind)) (σ:AS) (nm:Str) (v:AV) (σ':AS):Prop:=∀ x n,CxOk g x n→x.scn=sc→∀ ρ s q A E (Q:Value→Shared→Prop),HS x ρ σ s.heap→(∀ v',HS x ρ σ' s.heap→VR ρ v v'→Q v' s)→wpAny (model g.prog g.w) A (eval (.Name nm q) x.cur) Q E s
theorem cell_s {nm:Str} (hk:look nm sc=some .cell) (hd:(nm==("__debug__" : Str))=false):Sat σ.ob (cellA nm σ) (NmP g sc σ nm):=by
 unfold cellA
 cases hl:look nm σ.lo with
 | none=>exact True.intro
 | some w =>
 cases w <;> first | exact True.intro | skip
 rename_i k
 dsimp only
 cases hw:atI σ.hp k with
 | none=>exact True.intro
 | some ao =>
 cases ao <;> first | exact True.intro | skip
 rename_i ov
 cases ov with
 | none=>exact True.intro
 | some v =>
 refine ⟨sfx_refl _,fun x n o hs ρ s q A E Q H hQ=>?_⟩
 subst hs
 obtain ⟨m,os,F,HP,l⟩:=id H
 obtain ⟨u,hu,ad,had,rfl⟩:=l _ _ hl
 refine HP.at had hw fun o2 _ hor hm=>?_
 obtain ⟨v',hd',w',rfl,vw⟩:=hor
 obtain ⟨c,hc⟩:=Option.isSome_iff_exists.mp ((o.clk nm).mpr hk)
 unfold Cx.vm at hu
 rw [hc] at hu
 cases hu
 have hk':=o.kn nm
 rw [← look_lookup,hk] at hk'
 exact wpAny_Name (wpAny_loadName_cell o.ck hk' (by rw [cur_cells]; exact hc) ⟨o2,(HP.nw _ hm).1,hd'⟩ (hQ w' H vw)) hd
theorem glob_s (ok:TabOk g T) {nm:Str} (hk:look nm sc=some .globalImplicit) (hd:(nm==("__debug__" : Str))=false):Sat σ.ob (optR (T.glob nm) σ) (NmP g sc σ nm):=by
 refine Sat.opt fun v hl x n o hs ρ s q A E Q H hQ=>?_
 subst hs
 obtain ⟨m,os,F,HP,l⟩:=id H
 have hk':=o.kn nm
 rw [← look_lookup,hk] at hk'
 have tr:=topRead_of o.T
 have G:s.heap.Ns x.cur.globals g.mg:=by rw [cur_globals]; exact tr.g.keeps F.keep
 rcases ok.glob _ _ hl with ⟨a,rfl,hn⟩ | ⟨b,rfl,hn,hb,hne⟩ | ⟨b,rfl,hn⟩
 · exact Name_function_global o.ck hk' (loadGlobal_global G (mg_of o.X tr.g hn) (hQ _ H rfl)) hd
 · refine Name_function_global o.ck hk' (loadGlobal_builtin G (mg_none_of o.X tr.g hn) ?_ ((tr.builtins nm hne).trans hb) (hQ _ H rfl)) hd
   have:x.cur.builtins=builtinsNs:=by unfold Cx.cur; cases x.cv <;> rfl
   rw [this]
   exact tr.b.keeps F.keep
 · exact Name_function_global o.ck hk' (loadGlobal_global G (mg_of o.X tr.g hn) (hQ _ H rfl)) hd
theorem name_s (ok:TabOk g T) {nm:Str}:Sat σ.ob (evN T sc nm σ) (NmP g sc σ nm):=by
 unfold evN
 cases hs:sq nm nmDebug with
 | true =>
   refine ⟨sfx_refl _,fun x n o _ ρ s q A E Q H hQ=>?_⟩
   rw [arm_eval_Name,(sq_iff _ _).mp hs,if_pos (by decide +kernel)]
   exact fun Γ p hΓ=>hQ _ H rfl
 | false =>
   have hd:(nm==("__debug__" : Str))=false:=(sq_beq nm nmDebug).symm.trans hs
   dsimp only
   cases hk:look nm sc with
   | none=>exact True.intro
   | some k =>
   cases k <;> first | exact True.intro | skip
   · refine Sat.opt fun v hl x n o hs ρ s q A E Q H hQ=>?_
     subst hs
     exact wpAny_Name (local_s o hk hl H fun v' vr=>hQ v' H vr) hd
   · exact cell_s hk hd
   · exact glob_s ok hk hd
theorem loc_ev (o:CxOk g x n) {nm:Str} {q:Pos} {v:AV} {A:Around} {E Q:Value→Shared→Prop} (hd:sq nm nmDebug=false) (hk:look nm x.scn=some .local) (hl:look nm σ.lo=some v) (H:HS x ρ σ s.heap) (hQ:∀ v',HS x ρ σ s.heap→VR ρ v v'→Q v' s):wpAny (model g.prog g.w) A (eval (.Name nm q) x.cur) Q E s :=
 wpAny_Name (local_s o hk hl H fun v' vr=>hQ v' H vr) ((sq_beq nm nmDebug).symm.trans hd)
theorem glb_ev (ok:TabOk g T) (o:CxOk g x n) {nm:Str} {q:Pos} {v:AV} {A:Around} {E Q:Value→Shared→Prop} (hd:sq nm nmDebug=false) (hk:look nm x.scn=some .globalImplicit) (hl:T.glob nm=some v) (H:HS x ρ σ s.heap) (hQ:∀ v',HS x ρ σ s.heap→VR ρ v v'→Q v' s):wpAny (model g.prog g.w) A (eval (.Name nm q) x.cur) Q E s :=
 ((glob_s (σ:=σ) ok hk ((sq_beq nm nmDebug).symm.trans hd)).use (by rw [hl]; rfl)) x n o rfl ρ s q A E Q H hQ
theorem arg1_s {nm:Str} {q:Pos} {v:AV} (hd:sq nm nmDebug=false) (hk:look nm sc=some .local) (hl:look nm σ.lo=some v):EvLP g n sc σ [.Name nm q] [v] σ :=
 ⟨fun h=>ceCN h,fun x o hs pos z ρ s Q H hQ=>by subst hs; exact spliced_cons (loc_ev o hd hk hl H fun v' H vr=>spliced_nil (hQ.now H Same.rfl (.cons vr .nil)))⟩
theorem arg0_s:EvLP g n sc σ [] [] σ:=⟨fun _=>⟨rfl,rfl⟩,fun x o hs pos z ρ s Q H hQ=>spliced_nil (hQ.now H Same.rfl .nil)⟩
theorem kw0_s:EvKP g n sc σ [] [] [] σ:=⟨fun _=>⟨rfl,rfl⟩,fun x o hs pos z ρ s Q H hQ=>kwAll_nil (hQ.now H Same.rfl .nil)⟩
end
section
variable {g:Gl} {T:Tab} {n:Nat} {sc:List (Str × NameKind)}
theorem keep_of_fn {a:Addr} {fi:FnI} (h:FnOk g a fi):keepIn g.K (.ref a)=true:=by
 obtain ⟨d,D⟩:=h.ex
 unfold keepIn
 simp only [D.at_]
theorem Sat.const {α:Type} {r:R α} {P:α→AS→Prop} (p:∀ a s,P a s):Sat [] r P:=by
 cases r with
 | ok a s=>exact ⟨List.nil_suffix,p a s⟩
 | exc=>exact True.intro
 | bad=>exact True.intro
theorem Sat.and {α:Type} {ob:List Nat} {r:R α} {P P':α→AS→Prop} (h:Sat ob r P) (h':Sat [] r P'):Sat ob r fun a s=>P' a s∧P a s:=by
 cases r with
 | ok a s=>exact ⟨h.1,h'.2,h.2⟩
 | exc=>exact True.intro
 | bad=>exact True.intro
theorem call_keep (ok:TabOk g T) {f:AV} {as:List AV} {ks:List (Str × AV)} {σ:AS}:Sat [] ((interp T n).call f as ks σ) fun _ _=>∃ a,f=.top a∧keepIn g.K (.ref a)=true:=by
 cases n with
 | zero=>exact True.intro
 | succ n =>
 cases f <;> first | exact True.intro | skip
 rename_i a
 refine (?_:Sat [] (callT T (interp T n) a as ks σ) _)
 unfold callT
 cases hp:T.prim a as ks σ with
 | some r=>exact Sat.const fun _ _=>⟨a,rfl,((ok.prim a as ks σ).use hp).1⟩
 | none =>
 dsimp only
 cases hm:T.make a with
 | some f=>exact Sat.const fun _ _=>⟨a,rfl,(ok.make _ _ hm).1⟩
 | none =>
 dsimp only
 cases hf:T.fn a with
 | some fi=>exact Sat.const fun _ _=>⟨a,rfl,keep_of_fn (ok.fn _ _ hf)⟩
 | none=>exact True.intro
theorem bi_kind (b:Bi):(∃ i,b.val=.builtin i) ∨ (∃ i,b.val=.type i):=by
 cases b
 all_goals first | exact .inl ⟨_,rfl⟩ | exact .inr ⟨_,rfl⟩
theorem callWith_bi {M:Model} {A:Around} {E:Value→Shared→Prop} {s:Shared} {env:Env} {pos:Pos} {b:Bi} {args:List Expr} {Q:Value→Shared→Prop} (hn:noStar args=true)
   (P:wpAny M A (evalArgs b.val true (backTo pos (starEach args env)) []) (fun a s₁=>wpAny M A (call b.val ([]++a.pos) a.kw) Q E s₁) E s):wpAny M A (callWith pos b.val [] (backTo pos (starEach args env)) []) Q E s:=by
 rcases bi_kind b with ⟨i,hb⟩ | ⟨i,hb⟩
 · rw [hb] at P ⊢; exact callWith_builtin (starEach_plain hn) P
 · rw [hb] at P ⊢; exact PyProof.Rows.callWith_type (starEach_plain hn) P
theorem letGo_str {value:Expr} {x:Str} {t:Tok} {r:Value}:letTemporaryGo value (.str x t) r=pure ():=by
 cases value <;> rfl
noncomputable def OEP (g:Gl) (n:Nat) (sc:List (Str × NameKind)) (σ:AS) (e:Option Expr) (v:Option AV) (σ':AS):Prop:=∀ x,CxOk g x n→x.scn=sc→Run g OVR x σ (evalPart e x.cur) v σ'
theorem optE_s (hev:EvS g T n) {e:Option Expr} {σ:AS}:Sat σ.ob (optE ((interp T n).ev sc) e σ) (OEP g n sc σ e):=by
 cases e with
 | none=>exact Sat.ret fun x o hs z ρ s Q H hQ=>wpAny_pure (hQ.now H Same.rfl rfl)
 | some e=>exact (hev sc e σ).bind fun v σ₁ _ D=>Sat.ret D
noncomputable def ValP (g:Gl) (n:Nat) (v:AV) (vs:List AV) (ws:List (Str × AV)) (σ:AS) (r:AV) (σ':AS):Prop :=
 (∃ b,v=.bi b∧ws=[]∧OpP g σ vs (call b.val ·) r σ') ∨ ∃ a,v=.top a∧keepIn g.K (.ref a)=true∧CallP g n v vs ws σ r σ'
theorem calA_s (ok:TabOk g T) (hc:CallS g T n) {v:AV} {vs:List AV} {ws:List (Str × AV)} {σ:AS}:Sat σ.ob (calA T (interp T n) v vs ws σ) (ValP g n v vs ws σ):=by
 have gen:Sat σ.ob ((interp T n).call v vs ws σ) (ValP g n v vs ws σ):=((hc _ _ _ _).and (call_keep ok)).imp fun r σ' _ h=>by
   obtain ⟨⟨a,e,k⟩,h⟩:=h
   exact .inr ⟨a,e,k,h⟩
 cases v <;> first | exact gen | skip
 cases ws with
 | cons=>exact True.intro
 | nil=>exact (bic_s ok).imp fun r σ' _ h=>.inl ⟨_,rfl,rfl,h⟩
theorem cmp2_s (ok:TabOk g T) (hev:EvS g T n) {l r:Expr} {op:CmpOp} {σ:AS}:Sat σ.ob (cmp2 T (interp T n) sc l op r σ) fun b σ'=>behindInMarks op r=false∧∀ x,CxOk g x n→x.scn=sc→CxOk g x 1→Sz σ'.ob→∀ ρ s (Q:Value→Shared→Prop),HS x ρ σ s.heap→(∀ ρ' s',ρ <+: ρ'→HS x ρ' σ' s'.heap→Same s s'→Q (.bool b) s') →
   wpAny (model g.prog g.w) x.A (eval l x.cur) (fun a s₁=>wpAny (model g.prog g.w) x.A (eval r x.cur) (fun b s₂=>wpAny (model g.prog g.w) x.A (compareOp op a b) Q EF s₂) EF s₁) EF s :=
 Sat.guard fun hm=>(hev sc l σ).bind fun a σ₁ _ D₁=>(hev sc r σ₁).bind fun b σ₂ m₂ D₂=>Sat.opt fun c hc=>⟨(Bool.not_eq_true' _).mp hm,fun x o hs o1 z ρ s Q H hQ =>
   D₁ x o hs (z.of m₂) ρ s _ H fun ρ₁ s₁ a' p₁ H₁ S₁ va=>D₂ x o hs z ρ₁ s₁ _ H₁ fun ρ₂ s₂ b' p₂ H₂ S₂ vb =>
     (cmpT_s ok).use hc x o1 z ρ₂ s₂ a' b' Q H₂ (va.mono p₂) vb fun ρ' s' a b c=>hQ ρ' s' ((p₁.trans p₂).trans a) b ((S₁.trans S₂).trans c)⟩
noncomputable def CompS (g:Gl) (T:Tab) (n:Nat):Prop:=∀ sc el t it ifs csc pos σ,Sat σ.ob (evLC T (interp T n) sc el t it ifs csc σ) (EvP g (n + 1) sc σ (.ListComp el [⟨t,it,ifs,0⟩] csc pos))
theorem Cnt.new {x:Cx} {ρ:List Addr} {s:Shared} {σ:AS} {ao:AO} {ob:List Nat} {o:Obj} {Q:Value→Shared→Prop} (h:Cnt VR x ρ s (.obj σ.hp.length) { σ with hp:=σ.hp++[ao],ob:=ob } Q) (H:HS x ρ σ s.heap) (hf:o.isFreed=false) (r:OR ρ ao o):Q (.ref s.heap.objs.size) { s with heap:=s.heap.push o }:=by
 obtain ⟨m,os,F,HP,l⟩:=H
 refine h (ρ++[s.heap.objs.size]) _ _ ⟨_,rfl⟩ ⟨m,_,F.push _,HP.more F hf r,l.mono ⟨_,rfl⟩⟩ Same.of ⟨_,?_,rfl⟩
 rw [← HP.ln,List.getElem?_append_right (Nat.le_refl _),Nat.sub_self]
 rfl
theorem attr_s (ok:TabOk g T) (hev:EvS g T n) (hc:CallS g T n) {e:Expr} {nm:Str} {q:Pos} {σ:AS} (hb:baseOk e=true):Sat σ.ob (((interp T n).ev sc e σ).bind fun v s₁=>getA T (interp T n) v nm s₁) (EvP g (n + 1) sc σ (.Attribute e nm q)):=by
 refine (hev sc e σ).bind fun v σ₁ _ D₁=>(getA_s ok hc).imp fun r σ' m₂ D₂ x o hs z ρ s Q H hQ=>?_
 rw [arm_eval_Attribute,attrBase_ok hb]
 exact wpAny_bind (D₁ x o.less hs (z.of m₂) ρ s _ H fun ρ₁ s₁ v' p₁ H₁ S₁ vr=>wpAny_bind (wpAny_standAt (wpAny_bind (wpAny_holding (D₂ x o z ρ₁ s₁ v' _ H₁ vr fun ρ₂ s₂ v' p₂ H₂ S₂ vr₂=>wpAny_bind (wpAny_letTemporaryGo (wpAny_pure (hQ ρ₂ s₂ v' (p₁.trans p₂) H₂ (S₁.trans S₂) vr₂))))))))
theorem meth_s (ok:TabOk g T) (hev:EvS g T n) (hc:CallS g T n) {e:Expr} {nm:Str} {ap p:Pos} {as:List Expr} {ks:List Keyword} {kes:List (Str × Expr)} {σ:AS} (hb:(ap.endLine==p.line&&decide (as.length + ks.length<15)&&baseOk e)=true) (hn:noStar as=true) (hk:kwNames ks=some kes) :
   Sat σ.ob (evM T (interp T n) sc e nm as kes σ) (EvP g (n + 1) sc σ (.Call (.Attribute e nm ap) as ks p)):=by
 simp only [Bool.and_eq_true,decide_eq_true_eq] at hb
 refine (hev sc e σ).bind fun v σ₁ _ D₁=>Sat.bindO fun t ht=>(evL_s hev as σ₁ hn).bind fun vs σ₂ m₂ D₂=>(evK_s hev ks kes σ₂ hk).bind fun ws σ₃ m₃ D₃=>(tgA_s ok hc).imp fun r σ' m₄ D₄ x o hs z ρ s Q H hQ=>?_
 subst hs
 rw [arm_eval_Call,attrBase_ok hb.2]
 refine wpAny_bind (D₁ x o.less rfl (z.of ((m₂.trans m₃).trans m₄)) ρ s _ H fun ρ₁ s₁ v' p₁ H₁ S₁ vr=>wpAny_bind (wpAny_standAt ?_))
 rw [methodCall_plain hb.1.2 hn hk hb.1.1]
 obtain ⟨tf,hm⟩:=(methF_s ok).use ht
 exact wpAny_bind (wpAny_holding (hm x o.one ρ₁ s₁ v' _ _ H₁ vr fun tk=>tgCall_s (s:={ s₁ with toks:=tk }) o tf hn hk D₂ m₃ D₃ m₄ D₄ z H₁ vr (hQ.after p₁ (S₁.trans Same.of))))
theorem fcall_s (ok:TabOk g T) (hev:EvS g T n) (hc:CallS g T n) {nm:Str} {q p:Pos} {as:List Expr} {ks:List Keyword} {kes:List (Str × Expr)} {σ:AS} (hn:noStar as=true) (hk:kwNames ks=some kes) :
   Sat σ.ob (evF T (interp T n) sc (.Name nm q) as kes σ) (EvP g (n + 1) sc σ (.Call (.Name nm q) as ks p)):=by
 refine (hev sc _ σ).bind fun v σ₁ _ D₁=>(evL_s hev as σ₁ hn).bind fun vs σ₂ m₂ D₂=>(evK_s hev ks kes σ₂ hk).bind fun ws σ₃ m₃ D₃=>(calA_s ok hc).imp fun r σ' m₄ D₄ x o hs z ρ s Q H hQ=>?_
 subst hs
 refine wpAny_Call_Name_kw (D₁ x o.less rfl (z.of ((m₂.trans m₃).trans m₄)) ρ s _ H fun ρ₁ s₁ f' p₁ H₁ S₁ vf=>?_)
 rcases D₄ with ⟨b,rfl,rfl,D₄⟩ | ⟨a,rfl,hk',D₄⟩
 · cases vf
   obtain ⟨rfl,_⟩:=D₃.1 rfl
   refine callWith_bi hn (argsK_s o.less hn hk D₂ m₃ D₃ (z.of m₄) ρ₁ s₁ _ H₁ fun ρ₂ s₂ a p₂ H₂ S₂ ar=>?_)
   obtain ⟨pv,kw⟩:=a
   obtain ⟨vrs,krs⟩:=ar
   have krs:KRs ρ₂ [] kw:=krs
   cases krs
   exact D₄ x o.one z ρ₂ s₂ pv Q H₂ vrs ((hQ.after p₁ S₁).after p₂ S₂)
 · cases vf
   exact callDef_s (first:=[]) (fv:=[]) o hk' hn hk D₂ m₃ D₃ m₄ D₄ z H₁ .nil (hQ.after p₁ S₁)
theorem slice_s (ok:TabOk g T) (hev:EvS g T n) {e:Expr} {l u:Option Expr} {q p:Pos} {σ:AS}:Sat σ.ob (evSl T (interp T n) sc e l u σ) (EvP g (n + 1) sc σ (.Subscript e (.Slice l u none q) p)) :=
 (hev sc e σ).bind fun a σ₁ _ D₁=>(optE_s hev).bind fun l' σ₂ m₂ D₂=>(optE_s hev).bind fun u' σ₃ m₃ D₃=>(ok.slc a l' u' σ₃).getD (fun v σ' m₄ h x o hs z ρ s Q H hQ =>
   Subscript_ (D₁ x o.less hs (z.of ((m₂.trans m₃).trans m₄)) ρ s _ H fun ρ₁ s₁ a' p₁ H₁ S₁ va=>wpAny_Slice (D₂ x o.less hs (z.of (m₃.trans m₄)) ρ₁ s₁ _ H₁ fun ρ₂ s₂ lv p₂ H₂ S₂ vl=>D₃ x o.less hs (z.of m₄) ρ₂ s₂ _ H₂ fun ρ₃ s₃ uv p₃ H₃ S₃ vu=>wpAny_pure
     (h _ _ _ _ x o.one z ρ₃ s₃ a' lv uv Q H₃ (va.mono (p₂.trans p₃)) (vl.mono p₃) vu (((hQ.after p₁ S₁).after p₂ S₂).after p₃ S₃))))) True.intro
theorem sub_s (ok:TabOk g T) (hev:EvS g T n) {e ix:Expr} {p:Pos} {σ:AS} (hix:isSlice ix=false):Sat σ.ob (evS T (interp T n) sc e ix σ) (EvP g (n + 1) sc σ (.Subscript e ix p)) :=
 (hev sc e σ).bind fun a σ₁ _ D₁=>(hev sc ix σ₁).bind fun b σ₂ m₂ D₂=>(ok.sub a b σ₂).getD (fun v σ' m₃ h x o hs z ρ s Q H hQ =>
   Subscript_ (D₁ x o.less hs (z.of (m₂.trans m₃)) ρ s _ H fun ρ₁ s₁ a' p₁ H₁ S₁ va=>D₂ x o.less hs (z.of m₃) ρ₁ s₁ _ H₁ fun ρ₂ s₂ b' p₂ H₂ S₂ vb =>
     h _ _ hix x o.one z ρ₂ s₂ a' b' Q H₂ (va.mono p₂) vb ((hQ.after p₁ S₁).after p₂ S₂))) True.intro
theorem seq_s (hev:EvS g T n) {es:List Expr} {σ:AS} {f:List AV→AO} {fo:List Value→Obj} {e:Expr} (hf:∀ vs,(fo vs).isFreed=false) (hr:∀ ρ vs vs',VRs ρ vs vs'→OR ρ (f vs) (fo vs'))
   (he:∀ (x:Cx) (s:Shared) (Q:Value→Shared→Prop),(∀ pos,wpAny (model g.prog g.w) x.A (spliced (backTo pos (starEach es x.cur))) (fun vs s₁=>vs.length≤sizeLine∧Q (.ref s₁.heap.objs.size) { s₁ with heap:=s₁.heap.push (fo vs) }) EF s)→wpAny (model g.prog g.w) x.A (eval e x.cur) Q EF s):Sat σ.ob (evSeq (interp T n) sc f es σ) (EvP g (n + 1) sc σ e) :=
 Sat.guard fun hn=>(evL_s hev es σ hn).bind fun vs σ₁ _ D=>⟨addOb_sfx _ _,fun x o hs z ρ s Q H hQ=>he x s Q fun pos=>D.2 x o.less hs pos (z.of (addOb_sfx _ _)) ρ s _ H fun ρ₁ s₁ vs' p₁ H₁ S₁ vrs=>⟨by rw [← vrs.len]; exact z.hd,(hQ.after p₁ S₁).new H₁ (hf vs') (hr ρ₁ vs vs' vrs)⟩⟩
theorem ev_step (ok:TabOk g T) (hev:EvS g T n) (htr:TrS g T n) (hc:CallS g T n) (hcomp:CompS g T n):EvS g T (n + 1):=by
 intro sc e σ
 cases e <;> first | exact True.intro | skip
 case BinOp l op r p =>
   exact (hev sc l σ).bind fun a σ₁ _ D₁=>(hev sc r σ₁).bind fun b σ₂ m₂ D₂=>(binT_s ok).imp fun v σ' m₃ D₃ x o hs z ρ s Q H hQ =>
     wpAny_BinOp (D₁ x o.less hs (z.of (m₂.trans m₃)) ρ s _ H fun ρ₁ s₁ a' p₁ H₁ S₁ va=>D₂ x o.less hs (z.of m₃) ρ₁ s₁ _ H₁ fun ρ₂ s₂ b' p₂ H₂ S₂ vb=>D₃ x o.one z ρ₂ s₂ a' b' Q H₂ (va.mono p₂) vb ((hQ.after p₁ S₁).after p₂ S₂))
 case UnaryOp op e p =>
   cases op <;> first | exact True.intro | skip
   cases e <;> first | exact True.intro | skip
   rename_i c k q
   cases c <;> first | exact True.intro | skip
   refine Sat.ret fun x o hs z ρ s Q H hQ=>?_
   rw [arm_eval_UnaryOp]
   exact wpAny_bind (wpAny_Constant_int (wpAny_bind (wpAny_standAt (wpAny_holding (neg_int (hQ.now H Same.of ⟨_,rfl⟩))))))
 case IfExp t b e p =>
   refine (htr sc t σ).bind fun c σ₁ _ D₁=>(hev sc _ σ₁).imp fun v σ' m₂ D₂ x o hs z ρ s Q H hQ=>?_
   rw [arm_eval_IfExp]
   refine wpAny_bind (D₁ x o.less hs (z.of m₂) ρ s _ H fun ρ₁ s₁ p₁ H₁ S₁=>?_)
   cases c with
   | true=>exact D₂ x o.less hs z ρ₁ s₁ _ H₁ (hQ.after p₁ S₁)
   | false=>exact D₂ x o.less hs z ρ₁ s₁ _ H₁ (hQ.after p₁ S₁)
 case ListComp el gs csc p =>
   rcases gs with _ | ⟨⟨t,it,ifs,k⟩,_ | _⟩ <;> first | exact True.intro | skip
   refine Sat.guard fun hk=>?_
   rcases k with k | k <;> first | (cases hk; done) | skip
   cases k with
   | succ=>cases hk
   | zero=>exact hcomp _ _ _ _ _ _ _ _
 case Compare l ops rs p =>
   rcases ops with _ | ⟨op,_ | _⟩ <;> first | exact True.intro | skip
   rcases rs with _ | ⟨r,_ | _⟩ <;> first | exact True.intro | skip
   exact (cmp2_s ok hev).bind fun b σ' _ D=>Sat.ret fun x o hs z ρ s Q H hQ=>wpAny_Compare1 (D.2 x o.less hs o.one z ρ s Q H fun ρ' s' p H' S=>hQ ρ' s' _ p H' S rfl) D.1
 case Call f as ks p =>
   refine (ok.spc sc _ σ).getD (fun v σ' _ D x o=>D x o.one) ?_
   unfold evCall
   cases hk:kwNames ks with
   | none=>exact True.intro
   | some kes =>
     refine Sat.guard fun hn=>?_
     cases f <;> first | exact True.intro | skip
     · exact Sat.guard fun hb=>meth_s ok hev hc hb hn hk
     · exact fcall_s ok hev hc hn hk
 case JoinedStr es p=>exact (ok.spc sc _ σ).getD (fun v σ' _ D x o=>D x o.one) True.intro
 case Constant c k p =>
   cases c <;> first | exact True.intro | skip
   · exact Sat.ret fun x o hs z ρ s Q H hQ _ _ _=>hQ.now H Same.rfl rfl
   · exact Sat.ret fun x o hs z ρ s Q H hQ _ _ _=>hQ.now H Same.rfl rfl
   · exact Sat.ret fun x o hs z ρ s Q H hQ=>wpAny_Constant_int (hQ.now H Same.of ⟨_,rfl⟩)
   · exact ⟨addOb_sfx _ _,fun x o hs z ρ s Q H hQ=>Constant_str (hQ.now ⟨H.ex⟩ Same.of ⟨⟨_,rfl⟩,z.hd⟩)⟩
 case Attribute e nm q=>exact Sat.guard fun hb=>attr_s ok hev hc hb
 case Subscript e ix p =>
   cases ix <;> first | exact sub_s ok hev rfl | skip
   rename_i l u st q
   cases st with
   | some=>exact True.intro
   | none=>exact slice_s ok hev
 case Name nm q=>exact (name_s ok).imp fun v σ' _ D x o hs z ρ s Q H hQ=>D x _ o hs ρ s q x.A EF Q H fun v' H' vr=>hQ.now H' Same.rfl vr
 case List es p=>exact seq_s hev (fo:=fun vs=>listO vs 0) (fun _=>rfl) (fun _ _ _ h=>⟨_,_,rfl,h⟩) fun x s Q h=>wpAny_List_spliced (h p)
 case Tuple es k p=>exact seq_s hev (fo:=fun vs=>tupO vs 0) (fun _=>rfl) (fun _ _ _ h=>⟨_,_,rfl,h⟩) fun x s Q h=>wpAny_Tuple_spliced (h p)
end
end
section
set_option maxHeartbeats 1000000
theorem swaps_plain {e:Expr} {t:Option Expr} {l:Nat} {env:Env} (h:isComp e=false):swapsWith e t l env=pure false:=by
 cases e <;> first | rfl | cases h
theorem not_interactive {x:Cx} (h:x.scope.kind=.function):interactive x.env=false:=by
 unfold interactive
 show (x.scope.kind==.module&&_)=false
 rw [h]; rfl
section
variable {g:Gl} {T:Tab} {n:Nat} {sc:List (Str × NameKind)}
noncomputable def AllP (g:Gl) (n:Nat) (op:BoolOp) (sc:List (Str × NameKind)) (σ:AS) (vs:List Expr) (b:Bool) (σ':AS):Prop:=∀ x,CxOk g x n→x.scn=sc→RunB g x σ (allTrue op vs x.cur) b σ'
theorem all_nil {op:BoolOp} {b:Bool} {σ:AS} (hb:(match op with | .And=>true | .Or=>false)=b):AllP g n op sc σ [] b σ:=fun x o hs z ρ s Q H hQ=>by
 rw [arm_allTrue_nil]
 refine wpAny_pure ?_
 cases op <;> cases hb <;> exact hQ ρ s (List.prefix_refl _) H Same.rfl
theorem allA_s (htr:TrS g T n):∀ (vs:List Expr) (σ:AS),Sat σ.ob (allA ((interp T n).tr sc) vs σ) (AllP g n .And sc σ vs):=by
 intro vs
 induction vs with
 | nil=>exact fun σ=>Sat.ret (all_nil rfl)
 | cons e r ih =>
   refine fun σ=>(htr sc e σ).bind fun c σ₁ _ D₁=>?_
   cases c with
   | false =>
     exact Sat.ret fun x o hs z ρ s Q H hQ=>by
       rw [arm_allTrue_cons]
       exact wpAny_bind (D₁ x o hs z ρ s _ H fun ρ₁ s₁ p₁ H₁ S₁=>wpAny_pure (hQ ρ₁ s₁ p₁ H₁ S₁))
   | true =>
     exact (ih σ₁).imp fun b σ' m D₂ x o hs z ρ s Q H hQ=>by
       rw [arm_allTrue_cons]
       exact wpAny_bind (D₁ x o hs (z.of m) ρ s _ H fun ρ₁ s₁ p₁ H₁ S₁=>D₂ x o hs z ρ₁ s₁ _ H₁ fun ρ₂ s₂ p₂ H₂ S₂=>hQ ρ₂ s₂ (p₁.trans p₂) H₂ (S₁.trans S₂))
theorem anyA_s (htr:TrS g T n):∀ (vs:List Expr) (σ:AS),Sat σ.ob (anyA ((interp T n).tr sc) vs σ) (AllP g n .Or sc σ vs):=by
 intro vs
 induction vs with
 | nil=>exact fun σ=>Sat.ret (all_nil rfl)
 | cons e r ih =>
   refine fun σ=>(htr sc e σ).bind fun c σ₁ _ D₁=>?_
   cases c with
   | true =>
     exact Sat.ret fun x o hs z ρ s Q H hQ=>by
       rw [arm_allTrue_cons]
       exact wpAny_bind (D₁ x o hs z ρ s _ H fun ρ₁ s₁ p₁ H₁ S₁=>wpAny_pure (hQ ρ₁ s₁ p₁ H₁ S₁))
   | false =>
     exact (ih σ₁).imp fun b σ' m D₂ x o hs z ρ s Q H hQ=>by
       rw [arm_allTrue_cons]
       exact wpAny_bind (D₁ x o hs (z.of m) ρ s _ H fun ρ₁ s₁ p₁ H₁ S₁=>D₂ x o hs z ρ₁ s₁ _ H₁ fun ρ₂ s₂ p₂ H₂ S₂=>hQ ρ₂ s₂ (p₁.trans p₂) H₂ (S₁.trans S₂))
theorem inTup_is {op:CmpOp} {r:Expr} {es:List Expr} (h:inTup op r=some es):∃ k q,op=.In∧r=.Tuple es k q:=by
 cases op <;> first | exact ceNS h | skip
 cases r <;> first | exact ceNS h | skip
 cases h
 exact ⟨_,_,rfl,rfl⟩
theorem HS.push {x:Cx} {ρ:List Addr} {σ:AS} {h:Heap} (H:HS x ρ σ h) (o:Obj):HS x ρ σ (h.push o):=by
 obtain ⟨m,os,F,HP,l⟩:=H
 exact ⟨m,os,F.push o,⟨fun p hp=>⟨Heap.get?_push_of_some _ (HP.nw p hp).1,(HP.nw p hp).2⟩,HP.nd,HP.dj,HP.ln,HP.or⟩,l⟩
theorem plain_s (hev:EvS g T n) {e:Expr} {σ:AS} (he:∀ env,isTrue e env (eval e env)=(do let v ← eval e env; standAt e.pos; holding [v] (truthy v))):Sat σ.ob (trP (interp T n) sc e σ) (TrP g (n + 1) sc σ e) :=
 (hev sc e σ).bind fun v σ₁ _ D₁=>Sat.opt fun b hb x o hs z ρ s Q H hQ=>by
   rw [he]
   exact wpAny_bind (D₁ x o.less hs z ρ s _ H fun ρ₁ s₁ v' p₁ H₁ S₁ vr=>wpAny_bind (wpAny_standAt (wpAny_holding (trA_s.use hb x ρ₁ s₁ v' x.A EF _ H₁ vr fun tk=>hQ ρ₁ _ p₁ H₁ (S₁.trans Same.of)))))
theorem trIn_s (hev:EvS g T n) {l:Expr} {es:List Expr} {k:Nat} {q p:Pos} {σ:AS}:Sat σ.ob (trIn (interp T n) sc l es σ) (TrP g (n + 1) sc σ (.Compare l [.In] [.Tuple es k q] p)) :=
 Sat.guard fun hn=>(hev sc l σ).bind fun a σ₁ _ D₁=>(evL_s hev es σ₁ hn).bind fun vs σ₂ m₂ D₂=>(Sat.opt fun b hb=>by
   cases a <;> first | exact ceNS hb | skip
   rename_i y
   obtain ⟨ys,hy,rfl⟩:=Option.map_eq_some_iff.mp hb
   refine fun x o hs z ρ s Q H hQ=>?_
   refine wpAny_isTrue_Compare1 (D₁ x o.less hs (z.of (m₂.trans (addOb_sfx _ _))) ρ s _ H fun ρ₁ s₁ a' p₁ H₁ S₁ va=>?_) rfl
   refine wpAny_Tuple_spliced (D₂.2 x o.less hs _ (z.of (addOb_sfx _ _)) ρ₁ s₁ _ H₁ fun ρ₂ s₂ vs' p₂ H₂ S₂ vrs=>⟨by rw [← vrs.len]; exact z.hd,?_⟩)
   obtain ⟨⟨t,rfl⟩,_⟩:=va
   refine in_tuple_strs (ys:=ys) (isTup_of (n:=0) (Heap.get?_push_size _ rfl)) (by simpa using strsA_are hy vrs) (wpAny_truthy_bool ?_)
   simp only [← sq_beq]
   exact hQ ρ₂ _ (p₁.trans p₂) ⟨(H₂.push _).ex⟩ ((S₁.trans S₂).trans Same.of):Sat (addOb vs.length σ₂.ob) (optR (inTupA a vs) { σ₂ with ob:=addOb vs.length σ₂.ob }) _).of (addOb_sfx _ _)
theorem tr_step (ok:TabOk g T) (hev:EvS g T n) (htr:TrS g T n):TrS g T (n + 1):=by
 intro sc e σ
 cases e <;> first | exact True.intro | exact plain_s hev (fun _=>rfl) | skip
 case BoolOp op vs p =>
   cases op with
   | And=>exact (allA_s htr vs σ).imp fun b σ' _ D x o hs z ρ s Q H hQ=>by rw [arm_isTrue_BoolOp]; exact D x o.less hs z ρ s Q H hQ
   | Or=>exact (anyA_s htr vs σ).imp fun b σ' _ D x o hs z ρ s Q H hQ=>by rw [arm_isTrue_BoolOp]; exact D x o.less hs z ρ s Q H hQ
 case UnaryOp op e p =>
   cases op <;> first | exact True.intro | skip
   exact (htr sc e σ).bind fun b σ₁ _ D=>Sat.ret fun x o hs z ρ s Q H hQ=>by
     rw [arm_isTrue_UnaryOp]
     exact wpAny_bind (D x o.less hs z ρ s _ H fun ρ₁ s₁ p₁ H₁ S₁=>wpAny_pure (hQ ρ₁ s₁ p₁ H₁ S₁))
 case Compare l ops rs p =>
   rcases ops with _ | ⟨op,_ | _⟩ <;> first | exact True.intro | skip
   rcases rs with _ | ⟨r,_ | _⟩ <;> first | exact True.intro | skip
   refine (?_:Sat σ.ob (match inTup op r with | some es=>trIn (interp T n) sc l es σ | .none=>cmp2 T (interp T n) sc l op r σ) _)
   cases hit:inTup op r with
   | some es =>
     obtain ⟨k,q,rfl,rfl⟩:=inTup_is hit
     exact trIn_s hev
   | none=>exact (cmp2_s ok hev).imp fun b σ' _ D x o hs z ρ s Q H hQ=>wpAny_isTrue_Compare1 (D.2 x o.less hs o.one z ρ s _ H fun ρ' s' p H' S=>wpAny_truthy_bool (hQ ρ' s' p H' S)) D.1
end
end
section
set_option maxHeartbeats 1000000
section
variable {g:Gl} {T:Tab} {n:Nat} {sc:List (Str × NameKind)}
theorem Cx.cur_fn {x:Cx} (h:x.cv=none):x.cur=x.env:=by unfold Cx.cur; rw [h]
theorem Cx.scn_fn {x:Cx} (h:x.cv=none):x.scn=x.scope.names:=by unfold Cx.scn; rw [h]
theorem EvP.fn {e:Expr} {v:AV} {σ σ':AS} (D:EvP g n sc σ e v σ') {x:Cx} (o:CxOk g x n) (hv:x.cv=none) (hs:x.scope.names=sc):Run g VR x σ (eval e x.env) v σ':=by
 rw [← Cx.cur_fn hv]
 exact D x o ((Cx.scn_fn hv).trans hs)
theorem TrP.fn {e:Expr} {b:Bool} {σ σ':AS} (D:TrP g n sc σ e b σ') {x:Cx} (o:CxOk g x n) (hv:x.cv=none) (hs:x.scope.names=sc):RunB g x σ (isTrue e x.env (eval e x.env)) b σ':=by
 rw [← Cx.cur_fn hv]
 exact D x o ((Cx.scn_fn hv).trans hs)
noncomputable def LwP (g:Gl) (n:Nat) (sc:List (Str × NameKind)) (t:Expr) (b:List Stmt) (σ:AS) (f:Fl) (σ':AS):Prop:=∀ x,CxOk g x n→x.cv=none→x.scope.names=sc→Sz σ'.ob→∀ ρ s (Q:Flow→Shared→Prop),HS x ρ σ s.heap→Cnt FR x ρ s f σ' Q→∀ j,WhlRest g.prog g.w x.A EF x.env t b [] Q j s
theorem loopW_s (htr:TrS g T n) (hex:ExsS g T n) {t:Expr} {b:List Stmt}:∀ (k:Nat) (σ:AS),Sat σ.ob (loopW ((interp T n).tr sc t) ((interp T n).exs sc b) k σ) (LwP g n sc t b σ):=by
 intro k
 induction k with
 | zero=>exact fun σ=>True.intro
 | succ k ih =>
   refine fun σ=>(htr sc t σ).bind fun c σ₁ _ D₁=>?_
   have turn:∀ {f:Fl} {σ':AS},σ₁.ob <:+ σ'.ob→(∀ x,CxOk g x n→x.cv=none→x.scope.names=sc→Sz σ'.ob→∀ ρ s (Q:Flow→Shared→Prop),HS x ρ σ₁ s.heap→Cnt FR x ρ s f σ' Q→∀ j,WhlIf c (wpAny (model g.prog g.w) x.A (execs b x.env) (WhlPost g.prog g.w x.A EF x.env t b [] Q j) EF s) (wpAny (model g.prog g.w) x.A (execs [] x.env) Q EF s))→LwP g n sc t b σ f σ' :=
     fun m h x o hv hs z ρ s Q H hQ j=>show WhlRest g.prog g.w x.A EF x.env t b [] Q (j + 1) s from whl_turn PassesOwn.never (D₁.fn o hv hs (z.of m) ρ s _ H fun ρ₁ s₁ p₁ H₁ S₁=>h x o hv hs z ρ₁ s₁ Q H₁ (hQ.after p₁ S₁) j)
   cases c with
   | false=>exact Sat.ret (turn (sfx_refl _) fun x o hv hs z ρ s Q H hQ j=>WhlIf.no rfl (wpAny_execs_nil (hQ.now H Same.rfl rfl)))
   | true =>
     refine (hex sc b σ₁).bind fun fl σ₂ m₂ D₂=>?_
     cases fl with
     | next=>exact (ih σ₂).imp fun f σ' m D=>turn (m₂.trans m) fun x o hv hs z ρ s Q H hQ j=>WhlIf.yes rfl (D₂ x o hv hs (z.of m) ρ s _ H fun ρ₂ s₂ f' p₂ H₂ S₂ fr=>by cases fr; exact D x o hv hs z ρ₂ s₂ Q H₂ (hQ.after p₂ S₂) j)
     | cont=>exact (ih σ₂).imp fun f σ' m D=>turn (m₂.trans m) fun x o hv hs z ρ s Q H hQ j=>WhlIf.yes rfl (D₂ x o hv hs (z.of m) ρ s _ H fun ρ₂ s₂ f' p₂ H₂ S₂ fr=>by cases fr; exact D x o hv hs z ρ₂ s₂ Q H₂ (hQ.after p₂ S₂) j)
     | brk=>exact Sat.ret (turn m₂ fun x o hv hs z ρ s Q H hQ j=>WhlIf.yes rfl (D₂ x o hv hs z ρ s _ H fun ρ₂ s₂ f' p₂ H₂ S₂ fr=>by cases fr; exact hQ ρ₂ s₂ _ p₂ H₂ S₂ rfl))
     | ret v=>exact Sat.ret (turn m₂ fun x o hv hs z ρ s Q H hQ j=>WhlIf.yes rfl (D₂ x o hv hs z ρ s _ H fun ρ₂ s₂ f' p₂ H₂ S₂ fr=>by obtain ⟨v',rfl,vr⟩:=fr; exact hQ ρ₂ s₂ _ p₂ H₂ S₂ ⟨v',rfl,vr⟩))
noncomputable def StoP (g:Gl) (sc:List (Str × NameKind)) (σ:AS) (nm:Str) (v:AV) (σ':AS):Prop:=∀ x n,CxOk g x n→x.cv=none→x.scope.names=sc→∀ ρ s v' (Q:Unit→Shared→Prop),HS x ρ σ s.heap→VR ρ v v'→(∀ s',HS x ρ σ' s'.heap→Same s s'→Q () s')→wpAny (model g.prog g.w) x.A (storeName x.env nm v') Q EF s
theorem sto_local {nm:Str} {v:AV} {σ:AS} (hk:look nm sc=some .local):StoP g sc σ nm v { σ with lo:=put nm v σ.lo }:=by
 intro x n o hv hs ρ s v' Q H vr hQ
 subst hs
 obtain ⟨m,os,F,HP,l⟩:=H
 have hfm:∀ m,x.fm m=m:=by intro m; unfold Cx.fm; rw [hv]
 rw [hfm] at F
 have hno:x.ccl.lookup nm=none:=vm_local o (by rw [Cx.scn_fn hv]; exact hk)
 rw [look_lookup] at hk
 refine storeX_L F HP.nw (fun h' F' N'=>hQ _ ⟨_,os,by rw [hfm]; exact F',⟨N',HP.nd,HP.dj,HP.ln,HP.or⟩,?_⟩ Same.of) o.kd hk
 intro y w hw
 by_cases e:y=nm
 · subst e
   rw [look_put_self] at hw
   cases hw
   refine ⟨v',?_,vr⟩
   unfold Cx.vm
   rw [hno,hv]
   exact if_pos rfl
 · rw [look_put_ne _ e] at hw
   obtain ⟨w',h1,h2⟩:=l y w hw
   refine ⟨w',?_,h2⟩
   rw [← h1]
   unfold Cx.vm
   rw [hv]
   cases x.ccl.lookup y with
   | none=>exact if_neg e
   | some=>rfl
theorem store_s {nm:Str} {v:AV} {σ:AS}:OSat (stoA sc nm v σ) (StoP g sc σ nm v):=by
 unfold stoA
 cases hk:look nm sc with
 | none=>exact True.intro
 | some k =>
 cases k <;> first | exact True.intro | exact sto_local hk | skip
 dsimp only
 cases hl:look nm σ.lo with
 | none=>exact True.intro
 | some w =>
 cases w <;> first | exact True.intro | skip
 rename_i i
 dsimp only
 cases hc0:atI σ.hp i with
 | none=>exact True.intro
 | some ao =>
 cases ao <;> first | exact True.intro | skip
 rename_i c0
 refine fun x n o hv hs ρ s v' Q H vr hQ=>?_
 subst hs
 obtain ⟨m,os,F,HP,l⟩:=id H
 obtain ⟨u,hu,ad,had,rfl⟩:=l _ _ hl
 refine HP.at had hc0 fun o2 _ hor hm=>?_
 obtain ⟨u0,hu0,_⟩:=hor
 obtain ⟨c,hc⟩:=Option.isSome_iff_exists.mp ((o.clk nm).mpr (by rw [Cx.scn_fn hv]; exact hk))
 unfold Cx.vm at hu
 rw [hc] at hu
 cases hu
 rw [look_lookup] at hk
 rw [show x.ccl=x.cl by unfold Cx.ccl; rw [hv]] at hc
 refine wpAny_storeName_cell o.kd hk hc ⟨o2,(HP.nw _ hm).1,hu0⟩ fun h' hv' hsb=>?_
 obtain ⟨o',ho',hd'⟩:=hv'
 rw [atI_eq] at hc0
 have H₂:=H.upd (ao:=.cell (some v)) had (List.getElem?_eq_some_iff.mp hc0).1 hsb ho' ⟨_,hd',_,rfl,vr⟩
 rw [← setAt_eq] at H₂
 exact hQ _ H₂ Same.of
noncomputable def ForS (g:Gl) (T:Tab) (n:Nat):Prop:=∀ sc t it b els p σ,Sat σ.ob (exF T (interp T n) sc t it b els σ) (ExP g (n + 1) sc σ (.For t it b els p))
noncomputable def CompA (g:Gl) (T:Tab) (n:Nat):Prop:=∀ sc y q v p σ,isComp v=true→look y sc=some .local→Sat σ.ob (((interp T n).ev sc v σ).bind (putR y)) (ExP g (n + 1) sc σ (.Assign [.Name y q] v p))
theorem isLocal_is {o:Option NameKind} (h:isLocal o=true):o=some .local:=by
 cases o with
 | none=>cases h
 | some k=>cases k <;> first | rfl | exact ceFT h
theorem not_is {b:Bool} (h:(!b)=true):b=false:=(Bool.not_eq_true' b).mp h
theorem exA_s (ok:TabOk g T) (hev:EvS g T n) (hca:CompA g T n) {t v:Expr} {p:Pos} {σ:AS}:Sat σ.ob (exA T (interp T n) sc t v σ) (ExP g (n + 1) sc σ (.Assign [t] v p)):=by
 cases t <;> first | exact True.intro | skip
 · rename_i o nm q
   cases o <;> first | exact True.intro | skip
   exact Sat.guard fun hb=>(hev sc v σ).bind fun a σ₁ _ D₁=>(hev sc _ σ₁).bind fun ov σ₂ m₂ D₂=>(setA_s ok).imp fun f σ' m₃ D₃ x o hv hs z ρ s Q H hQ =>
     plainObj_wpAny_Assign_Attribute (D₁.fn o.less hv hs (z.of (m₂.trans m₃)) ρ s _ H fun ρ₁ s₁ v' p₁ H₁ S₁ vr=>D₂.fn o.less hv hs (z.of m₃) ρ₁ s₁ _ H₁ fun ρ₂ s₂ ov' p₂ H₂ S₂ vo=>D₃.2 x _ o ρ₂ s₂ ov' v' _ H₂ vo (vr.mono p₂) fun s₃ H₃ S₃=>hQ ρ₂ s₃ _ (p₁.trans p₂) H₃ ((S₁.trans S₂).trans S₃) (by rw [D₃.1]; rfl)) (swaps_plain (not_is hb))
 · rename_i nm q
   refine Sat.guard fun hk=>?_
   have hk:=isLocal_is hk
   cases hcmp:isComp v with
   | true=>exact hca sc nm q v p σ hcmp hk
   | false=>exact (hev sc v σ).bind fun a σ₁ _ D₁=>Sat.ret (s:={ σ₁ with lo:=put nm a σ₁.lo }) fun x o hv hs z ρ s Q H hQ =>
       wpAny_Assign_Name (D₁.fn o.less hv hs z ρ s _ H fun ρ₁ s₁ v' p₁ H₁ S₁ vr=>sto_local hk x _ o hv hs ρ₁ s₁ v' _ H₁ vr fun s₂ H₂ S₂=>hQ ρ₁ s₂ _ p₁ H₂ (S₁.trans S₂) rfl) (swaps_plain hcmp)
theorem exG_s (ok:TabOk g T) (hev:EvS g T n) (hc:CallS g T n) {t v:Expr} {op:Operator} {p:Pos} {σ:AS}:Sat σ.ob (exG T (interp T n) sc t op v σ) (ExP g (n + 1) sc σ (.AugAssign t op v p)):=by
 cases t <;> first | exact True.intro | skip
 · rename_i o nm q
   cases o <;> first | exact True.intro | skip
   exact (hev sc _ σ).bind fun ov σ₀ _ D₀=>(getA_s ok hc).bind fun a σ₁ m₁ D₁=>(hev sc v σ₁).bind fun b σ₂ m₂ D₂=>(augA_s (g:=g)).bind fun c σ₃ m₃ D₃=>(setA_s ok).imp fun f σ' m₄ D₄ x o hv hs z ρ s Q H hQ =>
     wpAny_AugAssign_AttributeAny (D₀.fn o.less hv hs (z.of (((m₁.trans m₂).trans m₃).trans m₄)) ρ s _ H fun ρ₀ s₀ ov' p₀ H₀ S₀ vo=>D₁ x o (z.of ((m₂.trans m₃).trans m₄)) ρ₀ s₀ ov' _ H₀ vo fun ρ₁ s₁ a' p₁ H₁ S₁ va=>D₂.fn o.less hv hs (z.of (m₃.trans m₄)) ρ₁ s₁ _ H₁ fun ρ₂ s₂ b' p₂ H₂ S₂ vb =>
       D₃ x o.one (z.of m₄) ρ₂ s₂ a' b' _ H₂ (va.mono p₂) vb fun ρ₃ s₃ c' p₃ H₃ S₃ vc=>D₄.2 x _ o ρ₃ s₃ ov' c' _ H₃ (vo.mono ((p₁.trans p₂).trans p₃)) vc fun s₄ H₄ S₄=>hQ ρ₃ s₄ _ (((p₀.trans p₁).trans p₂).trans p₃) H₄ ((((S₀.trans S₁).trans S₂).trans S₃).trans S₄) (by rw [D₄.1]; rfl))
 · rename_i nm q
   refine Sat.guard fun hk=>Sat.bindO fun a hl=>(hev sc v σ).bind fun b σ₂ _ D₂=>(augA_s (g:=g)).bind fun c σ₃ m₃ D₃=>Sat.ret (s:={ σ₃ with lo:=put nm c σ₃.lo }) fun x o hv hs z ρ s Q H hQ=>?_
   have hk:=isLocal_is hk
   refine wpAny_AugAssign_Name ?_
   have rd:=local_s (A:=x.A) (E:=EF) (Q:=fun a' s'=>s'=s∧VR ρ a a') o (by rw [Cx.scn_fn hv,hs]; exact hk) hl H fun v' vr=>⟨rfl,vr⟩
   rw [Cx.cur_fn hv] at rd
   refine wpAny_mono rd (fun a' s' hh=>?_) fun _ _ y=>y
   obtain ⟨rfl,va⟩:=hh
   exact D₂.fn o.less hv hs (z.of m₃) ρ _ _ H fun ρ₂ s₂ b' p₂ H₂ S₂ vb=>D₃ x o.one z ρ₂ s₂ a' b' _ H₂ (va.mono p₂) vb fun ρ₃ s₃ c' p₃ H₃ S₃ vc=>sto_local hk x _ o hv hs ρ₃ s₃ c' _ H₃ vc fun s₄ H₄ S₄=>hQ ρ₃ s₄ _ (p₂.trans p₃) H₄ ((S₂.trans S₃).trans S₄) rfl
theorem ex_step (ok:TabOk g T) (hev:EvS g T n) (htr:TrS g T n) (hexs:ExsS g T n) (hc:CallS g T n) (hfor:ForS g T n) (hca:CompA g T n):ExS g T (n + 1):=by
 intro sc e σ
 cases e <;> first | exact True.intro | skip
 case «Return» v p =>
   cases v with
   | some e=>exact (hev sc e σ).bind fun v σ₁ _ D₁=>Sat.ret fun x o hv hs z ρ s Q H hQ=>wpAny_Return_some (D₁.fn o.less hv hs z ρ s _ H fun ρ₁ s₁ v' p₁ H₁ S₁ vr=>hQ ρ₁ s₁ _ p₁ H₁ S₁ ⟨v',rfl,vr⟩)
   | none=>exact Sat.ret fun x o hv hs z ρ s Q H hQ=>wpAny_Return_none (hQ.now H Same.rfl ⟨_,rfl,rfl⟩)
 case Assign ts v p =>
   rcases ts with _ | ⟨t,_ | _⟩ <;> first | exact True.intro | skip
   exact exA_s ok hev hca
 case AugAssign t op v p=>exact exG_s ok hev hc
 case For t it b els p=>exact hfor _ _ _ _ _ _ _
 case While t b els p =>
   cases els with
   | cons=>exact True.intro
   | nil=>exact (loopW_s htr hexs _ σ).imp fun f σ' _ D x o hv hs z ρ s Q H hQ=>whl_start 0 (D x o.less hv hs z ρ s Q H hQ 0)
 case If t b els p =>
   refine (htr sc t σ).bind fun c σ₁ _ D₁=>(hexs sc _ σ₁).imp fun f σ' m₂ D₂ x o hv hs z ρ s Q H hQ=>wpAny_If (D₁.fn o.less hv hs (z.of m₂) ρ s _ H fun ρ₁ s₁ p₁ H₁ S₁=>?_)
   cases c with
   | true=>exact D₂ x o.less hv hs z ρ₁ s₁ _ H₁ (hQ.after p₁ S₁)
   | false=>exact D₂ x o.less hv hs z ρ₁ s₁ _ H₁ (hQ.after p₁ S₁)
 case Expr v p =>
   refine Sat.guard fun hb=>(hev sc v σ).bind fun w σ₁ _ D₁=>?_
   cases w <;> first | exact True.intro | skip
   exact Sat.ret fun x o hv hs z ρ s Q H hQ=>wpAny_Expr (D₁.fn o.less hv hs z ρ s _ H fun ρ₁ s₁ v' p₁ H₁ S₁ vr=>by cases vr; exact hQ ρ₁ s₁ _ p₁ H₁ S₁ rfl) (not_interactive o.kd) (swaps_plain (not_is hb))
 case Pass p=>exact Sat.ret fun x o hv hs z ρ s Q H hQ=>wpAny_Pass (hQ.now H Same.rfl rfl)
 case Break p=>exact Sat.ret fun x o hv hs z ρ s Q H hQ=>wpAny_Break (hQ.now H Same.rfl rfl)
 case Continue p=>exact Sat.ret fun x o hv hs z ρ s Q H hQ=>wpAny_Continue (hQ.now H Same.rfl rfl)
theorem exs_step (hex:ExS g T n) (hexs:ExsS g T n):ExsS g T (n + 1):=by
 intro sc l σ
 cases l with
 | nil=>exact Sat.ret fun x o hv hs z ρ s Q H hQ=>wpAny_execs_nil (hQ.now H Same.rfl rfl)
 | cons st r =>
   refine (hex sc st σ).bind fun c σ₁ _ D₁=>?_
   cases c with
   | next=>exact (hexs sc r σ₁).imp fun f σ' m D₂ x o hv hs z ρ s Q H hQ=>wpAny_execs_cons (D₁ x o.less hv hs (z.of m) ρ s _ H fun ρ₁ s₁ f' p₁ H₁ S₁ fr=>by cases fr; exact D₂ x o.less hv hs z ρ₁ s₁ _ H₁ (hQ.after p₁ S₁))
   | brk=>exact Sat.ret fun x o hv hs z ρ s Q H hQ=>wpAny_execs_cons (D₁ x o.less hv hs z ρ s _ H fun ρ₁ s₁ f' p₁ H₁ S₁ fr=>by cases fr; exact hQ ρ₁ s₁ _ p₁ H₁ S₁ rfl)
   | cont=>exact Sat.ret fun x o hv hs z ρ s Q H hQ=>wpAny_execs_cons (D₁ x o.less hv hs z ρ s _ H fun ρ₁ s₁ f' p₁ H₁ S₁ fr=>by cases fr; exact hQ ρ₁ s₁ _ p₁ H₁ S₁ rfl)
   | ret v=>exact Sat.ret fun x o hv hs z ρ s Q H hQ=>wpAny_execs_cons (D₁ x o.less hv hs z ρ s _ H fun ρ₁ s₁ f' p₁ H₁ S₁ fr=>by obtain ⟨v',rfl,vr⟩:=fr; exact hQ ρ₁ s₁ _ p₁ H₁ S₁ ⟨v',rfl,vr⟩)
end
end
section
set_option maxHeartbeats 1000000
theorem cellNs_mem {y:Str}:∀ {l:List (Str × NameKind)},look y l=some .cell→y∈cellNs l
 | [],h=>by cases h
 | (k,c)::r,h=>by
   rw [look_c] at h
   rw [cellNs_c]
   cases e:sq k y with
   | true =>
     rw [e] at h
     cases h
     rw [(sq_iff _ _).mp e]
     exact .head _
   | false =>
     rw [e] at h
     have:=cellNs_mem h
     cases c <;> first | exact this | exact .tail _ this
theorem cellsFrom_app:∀ (l:List (Str × NameKind)) (n:Nat) (acc:List (Str × Addr)),cellNs l=[]→cellsFrom n l acc=acc
 | [],_,_,_=>rfl
 | (k,c)::r,n,acc,h=>by
   unfold cellNs at h
   unfold cellsFrom
   cases c <;> first | exact cellsFrom_app r n acc h | cases h
theorem cellsFrom_one {c:Str}:∀ (l:List (Str × NameKind)) (n:Nat),cellNs l=[c]→cellsFrom n l []=[(c,n)]
 | [],_,h=>by cases h
 | (k,kd)::r,n,h=>by
   unfold cellNs at h
   unfold cellsFrom
   cases kd
   all_goals first
     | exact cellsFrom_one r n h
     | (obtain ⟨rfl,h2⟩:=List.cons.inj h
        exact cellsFrom_app r (n + 1) _ h2)
theorem bindL_get {kd:Str→Option NameKind} {y:Str} {v:Value}:∀ (bs:List (Str × Value)) (m:Str→Option Value),(bs.map (·.1)).Nodup→(y,v)∈bs→kd y=some .local→bindL kd bs m y=some v:=by
 have stay:∀ (bs:List (Str × Value)) (m:Str→Option Value),y ∉ bs.map (·.1)→bindL kd bs m y=m y:=by
   intro bs
   induction bs with
   | nil=>intro m _; rfl
   | cons p r ih =>
     obtain ⟨k,w⟩:=p
     intro m hn
     rw [List.map_cons,List.mem_cons,not_or] at hn
     unfold bindL
     rw [ih _ hn.2]
     split
     · exact if_neg hn.1
     · rfl
 intro bs
 induction bs with
 | nil=>intro m _ h; cases h
 | cons p r ih =>
   obtain ⟨k,w⟩:=p
   intro m nd h hk
   rw [List.map_cons,List.nodup_cons] at nd
   unfold bindL
   rcases List.mem_cons.mp h with e | h
   · cases e
     rw [stay _ _ nd.1,if_pos hk,if_pos rfl]
   · exact ih _ nd.2 h hk
theorem bindC_not {kd:Str→Option NameKind} {y:Str}:∀ (bs:List (Str × Value)) (m:Str→Option Value),y ∉ bs.map (·.1)→bindC kd bs m y=m y:=by
 intro bs
 induction bs with
 | nil=>intro m _; rfl
 | cons p r ih =>
   obtain ⟨k,w⟩:=p
   intro m hn
   rw [List.map_cons,List.mem_cons,not_or] at hn
   unfold bindC
   rw [ih _ hn.2]
   split
   · rfl
   · exact if_neg hn.1
theorem bindC_get {kd:Str→Option NameKind} {y:Str} {v:Value}:∀ (bs:List (Str × Value)) (m:Str→Option Value),(bs.map (·.1)).Nodup→(y,v)∈bs→kd y ≠ some .local→bindC kd bs m y=some v:=by
 intro bs
 induction bs with
 | nil=>intro m _ h; cases h
 | cons p r ih =>
   obtain ⟨k,w⟩:=p
   intro m nd h hk
   rw [List.map_cons,List.nodup_cons] at nd
   unfold bindC
   rcases List.mem_cons.mp h with e | h
   · cases e
     rw [bindC_not _ _ nd.1,if_neg hk,if_pos rfl]
   · exact ih _ nd.2 h hk
theorem zipP_look {ρ:List Addr}:∀ {prm:List Str} {as:List AV} {lo:List (Str × AV)} {vs:List Value},zipP prm as=some lo→VRs ρ as vs→prm.length=vs.length∧∀ x v,look x lo=some v→∃ v',(x,v')∈prm.zip vs∧VR ρ v v'
 | [],[],_,_,h,.nil=>by cases h; exact ⟨rfl,fun _ _ e=>by cases e⟩
 | [],_::_,_,_,h,_=>by cases h
 | _::_,[],_,_,h,_=>by cases h
 | p::r,a::q,lo,_::vs,h,.cons hv hr=>by
   rw [zipP_c] at h
   obtain ⟨l,hl,rfl⟩:=Option.map_eq_some_iff.mp h
   obtain ⟨h1,h2⟩:=zipP_look hl hr
   refine ⟨by simp [h1],fun x v e=>?_⟩
   rw [look_c] at e
   cases hs:sq p x with
   | true =>
     rw [hs] at e
     cases e
     have:=(sq_iff _ _).mp hs
     subst this
     exact ⟨_,.head _,hv⟩
   | false =>
     rw [hs] at e
     obtain ⟨v',h3,h4⟩:=h2 x v e
     exact ⟨v',.tail _ h3,h4⟩
theorem zipP_names:∀ {prm:List Str} {as:List AV} {lo:List (Str × AV)},zipP prm as=some lo→lo.map (·.1)=prm
 | [],[],_,h=>by cases h; rfl
 | [],_::_,_,h=>by cases h
 | _::_,[],_,h=>by cases h
 | p::r,a::q,lo,h=>by
   rw [zipP_c] at h
   obtain ⟨l,hl,rfl⟩:=Option.map_eq_some_iff.mp h
   rw [List.map_cons,zipP_names hl]
theorem look_app {α:Type} {x:Str}:∀ {l l':List (Str × α)},look x (l++l')=match look x l with | some v=>some v | .none=>look x l'
 | [],_=>rfl
 | p::r,l'=>by
   rw [List.cons_append]
   have ih:=look_app (x:=x) (l:=r) (l':=l')
   cases e:sq p.1 x with
   | true=>rw [look_t e,look_t e]
   | false=>rw [look_f e,look_f e]; exact ih
theorem look_none {α:Type} {x:Str}:∀ {l:List (Str × α)},look x l=.none→x ∉ l.map (·.1)
 | [],_=>by simp
 | p::r,h=>by
   rw [look_c] at h
   rw [List.map_cons,List.mem_cons,not_or]
   cases e:sq p.1 x with
   | true=>rw [e] at h; cases h
   | false =>
     rw [e] at h
     exact ⟨fun q=>sq_no e q.symm,look_none h⟩
theorem sqL_eq:∀ {a b:List Str},sqL a b=true→a=b
 | [],[],_=>rfl
 | [],_::_,h=>by cases h
 | _::_,[],h=>by cases h
 | a::r,b::q,h=>by
   rw [sqL_c] at h
   cases e:sq a b with
   | true=>rw [e] at h; rw [(sq_iff _ _).mp e,sqL_eq h]
   | false=>rw [e] at h; cases h
theorem VR.nil {a:AV} {v:Value} {ρ:List Addr} (h:VR [] a v):VR ρ a v:=h.mono (List.nil_prefix)
theorem KRs.names {ρ:List Addr} {ks:List (Str × AV)} {ks':List (Str × Value)} (h:KRs ρ ks ks'):ks'.map (·.1)=ks.map (·.1):=by
 induction h with
 | nil=>rfl
 | cons h _ ih=>rw [List.map_cons,List.map_cons,ih,h.1]
theorem KRs.vals {ρ:List Addr} {ks:List (Str × AV)} {ks':List (Str × Value)} (h:KRs ρ ks ks'):VRs ρ (ks.map (·.2)) (ks'.map (·.2)):=by
 induction h with
 | nil=>exact .nil
 | cons h _ ih=>exact .cons h.2 ih
theorem cells_nil {cm:Str→Option Value} {cells:List (Addr × Obj)} (h:CellsAre cm [] cells):cells=[]:=by cases h; rfl
section
variable {g:Gl} {T:Tab} {n:Nat}
theorem Bnd.got {fi:FnI} {s:Shared} {f:FuncData} {vs:List Value} {kvs binds:List (Str × Value)} (b:Bnd fi s f vs kvs binds) {ρ:List Addr} {as:List AV} {lo:List (Str × AV)} (hz:zipP fi.prm as=some lo) (hv:VRs ρ as (vs++kvs.map (·.2))) {y:Str} {w:AV} (hw:look y (lo++fi.dfl)=some w):∃ w',(y,w')∈binds∧VR ρ w w':=by
 rw [look_app] at hw
 cases hy:look y lo with
 | some u =>
   rw [hy] at hw
   obtain ⟨w',h1,h2⟩:=(zipP_look hz hv).2 y u hy
   cases hw
   exact ⟨w',b.prm _ h1,h2⟩
 | none =>
   rw [hy] at hw
   obtain ⟨w',h1,h2⟩:=b.dfl (y,w) (by rw [look_lookup] at hw; exact lookup_mem hw)
   exact ⟨w',h1,h2.nil⟩
theorem Bnd.unl {fi:FnI} {s:Shared} {f:FuncData} {vs:List Value} {kvs binds:List (Str × Value)} (b:Bnd fi s f vs kvs binds) {as:List AV} {lo:List (Str × AV)} (hz:zipP fi.prm as=some lo) {y:Str} (hy:look y (lo++fi.dfl)=.none):y ∉ binds.map (·.1):=by
 intro hm
 have hn:=look_none hy
 rw [List.map_append,List.mem_append,not_or,zipP_names hz] at hn
 obtain ⟨p,hp,rfl⟩:=List.mem_map.mp hm
 exact (b.nm p hp).elim hn.1 hn.2
theorem Bnd.local {fi:FnI} {s:Shared} {f:FuncData} {vs:List Value} {kvs binds:List (Str × Value)} (b:Bnd fi s f vs kvs binds) {p:Str × Value} (hp:p∈binds):fi.scn.lookup p.1=some .local ∨ p.1∈cellNs fi.scn:=by
 rcases Bool.or_eq_true_iff.mp (List.all_eq_true.mp b.kd p hp) with q | q
 · exact .inl (beq_iff_eq.mp q)
 · exact .inr (cellNs_mem (by rw [look_lookup]; exact beq_iff_eq.mp q))
noncomputable abbrev Cx.sub (x:Cx) (A':Around) (gg:Heap) (L':Addr) (qual:Str) (scope:Scope) (a:Addr) (cdv:Value) (cl:List (Str × Addr)):Cx:=⟨A',x.base,x.env::x.outer,gg,L',qual,scope,a,cdv,cl,x.fz,none⟩
inductive Entered (fi:FnI) (as:List AV) (ks:List (Str × AV)) (hp:List AO) (lo:List (Str × AV)) (hp':List AO):Prop
 | plain (lo₀:List (Str × AV)):ks.map (·.1)=fi.kws→zipP fi.prm (as++ks.map (·.2))=some lo₀→cellNs fi.scn=[]→lo=lo₀++fi.dfl→hp'=hp→Entered fi as ks hp lo hp'
 | cell (lo₀:List (Str × AV)) (c:Str):ks.map (·.1)=fi.kws→zipP fi.prm (as++ks.map (·.2))=some lo₀→cellNs fi.scn=[c]→lo=(c,AV.obj hp.length)::(lo₀++fi.dfl)→hp'=hp++[AO.cell (look c (lo₀++fi.dfl))]→Entered fi as ks hp lo hp'
theorem enter_ok {fi:FnI} {as:List AV} {ks:List (Str × AV)} {hp:List AO}:OSat (enter fi as ks hp) fun p=>Entered fi as ks hp p.1 p.2:=by
 unfold enter
 cases hk:sqL (ks.map (·.1)) fi.kws with
 | false=>exact True.intro
 | true =>
 dsimp only
 cases hz:zipP fi.prm (as++ks.map (·.2)) with
 | none=>exact True.intro
 | some lo₀ =>
 dsimp only
 cases hc:cellNs fi.scn with
 | nil=>exact .plain lo₀ (sqL_eq hk) hz hc rfl rfl
 | cons c r=>cases r with
   | nil=>exact .cell lo₀ c (sqL_eq hk) hz hc rfl rfl
   | cons=>exact True.intro
theorem sub_lr {fi:FnI} {s:Shared} {f:FuncData} {vs:List Value} {kvs binds:List (Str × Value)} (b:Bnd fi s f vs kvs binds) {ρ:List Addr} {as:List AV} {lo:List (Str × AV)} (hz:zipP fi.prm as=some lo) (hv:VRs ρ as (vs++kvs.map (·.2))) (hc:cellNs fi.scn=[]) :
   LR ρ (lo++fi.dfl) (bindL (fun y=>fi.scn.lookup y) binds fun _=>none):=fun y w hw=>by
 obtain ⟨w',hm,hv⟩:=b.got hz hv hw
 refine ⟨w',bindL_get _ _ b.nd hm ((b.local hm).resolve_right fun q=>?_),hv⟩
 rw [hc] at q
 cases q
theorem vm_nil {x:Cx} (hcv:x.cv=none) (hcl:x.cl=[]) (m:Str→Option Value):x.vm m=m:=by
 funext y
 unfold Cx.vm Cx.ccl
 rw [hcv]
 dsimp only
 rw [hcl]
 rfl
theorem sub_lr1 {fi:FnI} {s:Shared} {f:FuncData} {vs:List Value} {kvs binds:List (Str × Value)} (b:Bnd fi s f vs kvs binds) {ρ:List Addr} {as:List AV} {lo:List (Str × AV)} (hz:zipP fi.prm as=some lo) (hv:VRs ρ as (vs++kvs.map (·.2))) {c:Str} (hc:cellNs fi.scn=[c]) {C:Addr} {k:Nat} (hk:ρ.length=k) {x:Cx} (hcv:x.cv=none) (hcl:x.cl=[(c,C)]) :
   LR (ρ++[C]) ((c,.obj k)::(lo++fi.dfl)) (x.vm (bindL (fun y=>fi.scn.lookup y) binds fun _=>none)):=fun y w hw=>by
 unfold Cx.vm Cx.ccl
 rw [hcv]
 dsimp only
 rw [hcl,List.lookup_cons]
 rw [look_c] at hw
 cases hs:sq c y with
 | true =>
   simp only [hs] at hw
   cases hw
   rw [(sq_iff _ _).mp hs,BEq.rfl]
   refine ⟨_,rfl,C,?_,rfl⟩
   rw [← hk,List.getElem?_append_right (Nat.le_refl _),Nat.sub_self]
   rfl
 | false =>
   simp only [hs] at hw
   obtain ⟨w',hm,hv⟩:=b.got hz hv hw
   have hne:y ≠ c:=fun e=>sq_no hs e.symm
   rw [beq_eq_false_iff_ne.mpr hne]
   refine ⟨w',bindL_get _ _ b.nd hm ((b.local hm).resolve_right fun q=>?_),hv.mono ⟨_,rfl⟩⟩
   rw [hc] at q
   exact hne (List.mem_singleton.mp q)
theorem sub_cell {fi:FnI} {s:Shared} {f:FuncData} {vs:List Value} {kvs binds:List (Str × Value)} (b:Bnd fi s f vs kvs binds) {ρ:List Addr} {as:List AV} {lo:List (Str × AV)} (hz:zipP fi.prm as=some lo) (hv:VRs ρ as (vs++kvs.map (·.2))) {c:Str} (hck:look c fi.scn=some .cell) :
   CR ρ (look c (lo++fi.dfl)) (bindC (fun y=>fi.scn.lookup y) binds (fun _=>none) c):=by
 cases hc:look c (lo++fi.dfl) with
 | none=>exact bindC_not _ _ (b.unl hz hc)
 | some w =>
   obtain ⟨w',hm,hv⟩:=b.got hz hv hc
   refine ⟨w',bindC_get _ _ b.nd hm ?_,hv⟩
   rw [← look_lookup,hck]
   exact fun h=>ceSS h fun h=>NameKind.noConfusion h
theorem enter_s {a:Nat} {fi:FnI} (fo:FnOk g a fi) {as:List AV} {ks:List (Str × AV)} {σ:AS} {lo:List (Str × AV)} {hp:List AO} (he:Entered fi as ks σ.hp lo hp) {x:Cx} (o:CxOk g x (n + 1)) {A':Around} (hA:A'.frames=some (x.env::x.outer)) (hh:A'.handled=none) (hd:A'.depth + (n + 1) + g.sl<recursionLimit) (hu:A'.units + 8 * (n + 1 + g.sl)<cLine)
   {ρ:List Addr} {s:Shared} {as':List Value} {ks':List (Str × Value)} {m:Str→Option Value} {R:Result→Shared→Prop} (H:HSm x ρ σ s.heap m) (vas:VRs ρ as as') (vks:KRs ρ ks ks')
   (h:∀ gg L' qual scope cdv cl ρ₀ s₀,CxOk g (x.sub A' gg L' qual scope a cdv cl) n→scope.names=fi.scn→(cellNs fi.scn=[]→cl=[])→Fr x.h₀ x.L gg (x.fm m)→ρ <+: ρ₀→Same s s₀→HS (x.sub A' gg L' qual scope a cdv cl) ρ₀ { σ with lo:=lo,hp:=hp } s₀.heap →
     wpAny (model g.prog g.w) (x.sub A' gg L' qual scope a cdv cl).A (execs fi.body (x.sub A' gg L' qual scope a cdv cl).env) (fun fl s'=>LeaveK x.h₀ x.L (x.fm m) gg R (match fl with | .ret v=>v | _=>.none) s')
       (fun e s'=>wpAny (model g.prog g.w) (x.sub A' gg L' qual scope a cdv cl).A (leaving (x.sub A' gg L' qual scope a cdv cl).env e) (fun _ s''=>R (.error e) s'') (fun e' s''=>R (.error e') s'') s') s₀) :
   codeAny (model g.prog g.w) A' (.call (.ref a) ⟨as',ks'⟩) R s:=by
 obtain ⟨d,D⟩:=fo.ex
 obtain ⟨os,F,HP,l⟩:=H
 have hv:=vas.app vks.vals
 have hb:∀ lo₀,ks.map (·.1)=fi.kws→zipP fi.prm (as++ks.map (·.2))=some lo₀→∃ binds,Bnd fi s (d.fn fi.body) as' ks' binds:=fun lo₀ hkn hzp =>
   D.bnd s as' ks' (o.X.keeps F.keep) (by rw [(zipP_look hzp hv).1,List.length_append,List.length_map]) (vks.names.trans hkn)
 have go:∀ binds,Bnd fi s (d.fn fi.body) as' ks' binds→(cellNs fi.scn=[] ∨ ∃ c,cellNs fi.scn=[c]) →
     (∀ gg L' h₁ tk cells,Fr gg L' h₁ (bindL (fun y=>fi.scn.lookup y) binds fun _=>none)→News gg L' h₁ (cells++(ρ.zip os++x.fz))→CellsAre (bindC (fun y=>fi.scn.lookup y) binds fun _=>none) (cellsFrom (L' + 1) fi.scn []) cells→(∀ p∈ρ.zip os++x.fz,p.1<L') →
       ∃ ρ₀,ρ <+: ρ₀∧HS (x.sub A' gg L' d.qual d.scope a d.cdv (cellsFrom (L' + 1) fi.scn [])) ρ₀ { σ with lo:=lo,hp:=hp } ({ s with heap:=h₁,toks:=tk }:Shared).heap)→codeAny (model g.prog g.w) A' (.call (.ref a) ⟨as',ks'⟩) R s:=by
   intro binds b hcs hh'
   refine code_defC (env:=x.env) (outer:=x.outer) o.B F o.X HP.nw o.T hA rfl o.kd D.at_ D.code (by omega) b.to (by rw [D.scn]; exact b.kd) (by rw [D.scn]; exact fo.cd) ?_ D.co D.gen D.kind
   intro gg L' h₁ tk cells FG F' N' Y B' X' T' lt
   rw [show (envOfC d.qual d.scope L' a d.cdv).kindOf=(fun y=>fi.scn.lookup y) by rw [← D.scn]; rfl] at F' Y
   rw [D.scn] at Y
   obtain ⟨ρ₀,p₀,H₀⟩:=hh' gg L' h₁ tk cells F' N' Y lt
   rw [← D.scn] at H₀
   refine h gg L' d.qual d.scope d.cdv (cellsFrom (L' + 1) d.scope.names []) ρ₀ _ ⟨B',X',T',D.kind,hh,D.kind,fun _=>rfl,fun y=>?_,(fun c hc=>ceNS hc),by show A'.depth + 1 + n + g.sl<_; omega,by show A'.units + 3 + 8 * (n + g.sl)<_; omega,fun b o' e=>FG.keep b o' (o.EX b o' e)⟩ D.scn (fun hc=>by rw [D.scn]; exact cellsFrom_app _ _ _ hc) FG p₀ Same.of H₀
   refine (?_:((cellsFrom (L' + 1) d.scope.names []).lookup y).isSome=true ↔ look y d.scope.names=some .cell)
   rw [look_lookup]
   refine ⟨fun hy=>?_,fun hy=>cellsFrom_some _ _ _ (.inl hy)⟩
   rw [D.scn] at hy ⊢
   rcases hcs with hc | ⟨c,hc⟩
   · rw [cellsFrom_app _ _ _ hc] at hy
     cases hy
   · rw [cellsFrom_one _ _ hc,List.lookup_cons] at hy
     rw [← look_lookup]
     cases hb:y==c with
     | true=>rw [beq_iff_eq.mp hb]; exact fo.ck c (by rw [hc]; exact .head _)
     | false=>rw [hb] at hy; cases hy
 cases he with
 | plain lo₀ hkn hzp hc hlo hhp =>
   subst hlo hhp
   obtain ⟨binds,b⟩:=hb lo₀ hkn hzp
   refine go binds b (.inl hc) fun gg L' h₁ tk cells F' N' Y lt=>?_
   have hcl:=cellsFrom_app fi.scn (L' + 1) [] hc
   rw [hcl] at Y ⊢
   cases cells_nil Y
   refine ⟨ρ,List.prefix_refl _,_,os,F',⟨N',HP.nd,HP.dj,HP.ln,HP.or⟩,?_⟩
   rw [vm_nil rfl rfl]
   exact sub_lr b hzp hv hc
 | cell lo₀ c hkn hzp hc hlo hhp =>
   subst hlo hhp
   obtain ⟨binds,b⟩:=hb lo₀ hkn hzp
   refine go binds b (.inr ⟨c,hc⟩) fun gg L' h₁ tk cells F' N' Y lt=>?_
   have hcl:=cellsFrom_one fi.scn (L' + 1) hc
   rw [hcl] at Y ⊢
   obtain ⟨oc,rfl,hoc⟩:=CellsAre.one Y
   have nm:∀ p∈ρ.zip os++x.fz,p.1 ≠ L' + 1:=fun p hp e=>absurd (lt p hp) (by rw [e]; exact Nat.not_lt.mpr (Nat.le_succ L'))
   refine ⟨ρ++[L' + 1],⟨_,rfl⟩,_,os++[oc],F',HpR.adopt (h:=h₁) ⟨fun p hp=>N' p (.tail _ hp),HP.nd,HP.dj,HP.ln,HP.or⟩ N' (fun hm=>?_) (fun p hp=>nm p (List.mem_append_right _ hp)) ⟨_,hoc,sub_cell b hzp hv (fo.ck c (by rw [hc]; exact .head _))⟩,sub_lr1 b hzp hv hc HP.ln rfl rfl⟩
   obtain ⟨i,hi⟩:=List.getElem?_of_mem hm
   have hl:i<os.length:=HP.olen ▸ (List.getElem?_eq_some_iff.mp hi).1
   exact nm _ (zip_mem hi (List.getElem?_eq_getElem hl)) rfl
noncomputable def BodyP (g:Gl) (n:Nat) (fi:FnI) (σ₀:AS) (fl:Fl) (σ₁:AS):Prop:=∀ x',CxOk g x' n→x'.cv=none→x'.scope.names=fi.scn→Run g FR x' σ₀ (execs fi.body x'.env) fl σ₁
theorem call_fnB {a:Nat} {fi:FnI} (fo:FnOk g a fi) {as:List AV} {ks:List (Str × AV)} {σ:AS} {lo:List (Str × AV)} {hp:List AO} (hz:enter fi as ks σ.hp=some (lo,hp)) {fl:Fl} {σ₁:AS}
   (hr:BodyP g n fi { σ with lo:=lo,hp:=hp } fl σ₁):CallP g (n + 1) (.top a) as ks σ (retV fl) { σ₁ with lo:=σ.lo }:=by
 intro x o A' hA hh hd hu z ρ s f' as' ks' m Q H vf vas vks hQ
 cases vf
 refine enter_s fo (enter_ok.use hz) o hA hh hd hu H vas vks fun gg L' qual scope cdv cl ρ₀ s₀ o' hs _ FG p₀ S₀ H₀=>?_
 refine wpAny_mono (hr _ o' rfl hs z ρ₀ s₀ (fun fl s'=>LeaveK x.h₀ x.L (x.fm m) gg (RQ Q) (match fl with | .ret v=>v | _=>.none) s') H₀ fun ρ₁ s₁ f₁ p₁ H₁ S₁ fr=>?_) (fun _ _ y=>y) fun _ _ y=>y.elim
 obtain ⟨os,F,HP,l⟩:=H
 obtain ⟨m₁,os₁,F₁,HP₁,l₁⟩:=H₁
 refine ⟨L',m₁,_,F₁,HP₁.nw,fun F₂ N₂=>?_⟩
 have fin:∀ w,VR ρ₁ (retV fl) w→Q w s₁:=fun w=>hQ ρ₁ s₁ w (p₀.trans p₁) ⟨os₁,F₂,⟨N₂,HP₁.nd,HP₁.dj,HP₁.ln,HP₁.or⟩,l.mono (p₀.trans p₁)⟩ (S₀.trans S₁)
 cases fl with
 | next=>cases fr; exact fin _ rfl
 | brk=>cases fr; exact fin _ rfl
 | cont=>cases fr; exact fin _ rfl
 | ret w=>obtain ⟨w',rfl,vr⟩:=fr; exact fin _ vr
theorem callF_s (hexs:ExsS g T n) {a:Nat} {fi:FnI} (fo:FnOk g a fi) {as:List AV} {ks:List (Str × AV)} {σ:AS}:Sat σ.ob (callF (interp T n) fi as ks σ) (CallP g (n + 1) (.top a) as ks σ):=by
 unfold callF
 cases hz:enter fi as ks σ.hp with
 | none=>exact True.intro
 | some p =>
   have h:=hexs fi.scn fi.body { σ with lo:=p.1,hp:=p.2 }
   refine (?_:Sat σ.ob (bodyA (interp T n) fi p.1 p.2 σ) _)
   unfold bodyA
   revert h
   cases (interp T n).exs fi.scn fi.body { σ with lo:=p.1,hp:=p.2 } with
   | ok fl σ₁=>exact fun h=>⟨h.1,call_fnB fo hz fun x' o hv hs=>h.2 x' o hv hs⟩
   | exc=>exact fun _=>True.intro
   | bad=>exact fun _=>True.intro
end
end
section
set_option maxHeartbeats 1000000
noncomputable abbrev Cx.fzd (x:Cx) (l:List (Addr × Obj)):Cx:={ x with fz:=l }
theorem HS.drop {x:Cx} {ρ:List Addr} {σ:AS} {h:Heap} {l:List (Addr × Obj)} (H:HS x ρ σ h) (sub:∀ p∈l,p∈x.fz):HS (x.fzd l) ρ σ h:=by
 obtain ⟨m,os,F,HP,lr⟩:=H
 refine ⟨m,os,F,⟨fun p hp=>?_,HP.nd,fun p hp=>HP.dj p (sub p hp),HP.ln,HP.or⟩,lr⟩
 rcases List.mem_append.mp hp with q | q
 · exact HP.nw p (List.mem_append_left _ q)
 · exact HP.nw p (List.mem_append_right _ (sub p q))
theorem HS.frz {x:Cx} {ρ:List Addr} {σ:AS} {h:Heap} (H:HS x ρ σ h) {p:Addr × Obj} (hp:p∈x.fz):h.get? p.1=some p.2:=by
 obtain ⟨m,os,F,HP,lr⟩:=H
 exact (HP.nw p (List.mem_append_right _ hp)).1
theorem HS.turn {x:Cx} {ρ:List Addr} {σ:AS} {h h':Heap} {its its' tmp fz₀:List (Addr × Obj)} {adr:List Addr} (H:HS x ρ σ h) (hx:x.fz=its++fz₀) (hd:∀ p∈fz₀,p.1 ∉ adr) (ha:its.map (·.1)=adr)
   (hk:∀ b o,b ∉ adr→h.get? b=some o→h'.get? b=some o) (hi:∀ p∈its',p.1∈adr∧h'.get? p.1=some p.2) (ht:∀ p∈tmp,h.objs.size≤p.1∧h'.get? p.1=some p.2):HS (x.fzd (tmp++(its'++fz₀))) ρ σ h':=by
 obtain ⟨m,os,F,HP,lr⟩:=H
 have old:∀ a∈adr,a ≠ x.L∧x.h₀.get? a=none∧a ∉ ρ:=by
   intro a h1
   rw [← ha] at h1
   obtain ⟨p,hp,rfl⟩:=List.mem_map.mp h1
   have hm:p∈x.fz:=by rw [hx]; exact List.mem_append_left _ hp
   have z:=HP.nw p (List.mem_append_right _ hm)
   exact ⟨z.2.1,z.2.2,HP.dj p hm⟩
 have new:∀ a,h.objs.size≤a→a ≠ x.L∧x.h₀.get? a=none∧a ∉ ρ:=by
   intro a h1
   have hL:x.L<h.objs.size:=F.ns.lt
   refine ⟨fun e=>absurd (e ▸ hL) (Nat.not_lt.mpr h1),?_,HP.fresh h1⟩
   cases q:x.h₀.get? a with
   | none=>rfl
   | some o=>exact absurd (Heap.lt_size (F.keep a o q)) (Nat.not_lt.mpr h1)
 refine ⟨m,os,⟨F.ns.at' fun o e=>hk _ o (fun q=>(old _ q).1 rfl) e,fun b o e=>hk b o (fun q=>by rw [(old _ q).2.1] at e; cases e) (F.keep b o e),F.above⟩,⟨fun p hp=>?_,HP.nd,fun p hp=>?_,HP.ln,HP.or⟩,lr⟩
 · rcases List.mem_append.mp hp with q | q
   · have z:=HP.nw p (List.mem_append_left _ q)
     exact ⟨hk _ _ (fun e=>(old _ e).2.2 ((List.of_mem_zip (a:=p.1) (b:=p.2) q).1)) z.1,z.2⟩
   · rcases List.mem_append.mp q with q | q
     · obtain ⟨a,b⟩:=ht p q
       exact ⟨b,(new _ a).1,(new _ a).2.1⟩
     · rcases List.mem_append.mp q with q | q
       · obtain ⟨a,b⟩:=hi p q
         exact ⟨b,(old _ a).1,(old _ a).2.1⟩
       · have z:=HP.nw p (List.mem_append_right _ (by rw [hx]; exact List.mem_append_right _ q))
         exact ⟨hk _ _ (hd p q) z.1,z.2⟩
 · rcases List.mem_append.mp hp with q | q
   · exact (new _ (ht p q).1).2.2
   · rcases List.mem_append.mp q with q | q
     · exact (old _ (hi p q).1).2.2
     · exact HP.dj p (by rw [hx]; exact List.mem_append_right _ q)
noncomputable def ItR (ρ:List Addr) (it:It) (v:Value) (tmp:List (Addr × Obj)):Prop:=match it with
 | .one a=>VR ρ a v∧tmp=[]
 | .many as=>∃ (Ta:Addr) (vs:List Value) (n:Nat),v=.ref Ta∧tmp=[(Ta,tupO vs n)]∧VRs ρ as vs
structure Wk (g:Gl) (t:Expr) (src:Src) (I:Addr) (adr:List Addr) (ρ₀:List Addr) (St:Nat→List (Addr × Obj)→Prop):Prop where
 ad:∀ j its,St j its→its.map (·.1)=adr
 item:∀ x,CxOk g x 1→∀ j its fz₀ σ ρ (s:Shared) it (Q:Value→Shared→Prop) (E:Value→Shared→Prop),ρ₀ <+: ρ→x.fz=its++fz₀→(∀ p∈fz₀,p.1 ∉ adr)→St j its→HS x ρ σ s.heap→itemA src j σ.hp=some (some it) →
   ((∃ vs,it=.many vs)→∃ es k p,t=.Tuple es k p) →
   (∀ v its' tmp s',ItR ρ it v tmp→St (j + 1) its'→HS (x.fzd (tmp++(its'++fz₀))) ρ σ s'.heap→Same s s'→(∀ p∈tmp,s.heap.objs.size≤p.1)→Q v s') →
   wpAny (model g.prog g.w) x.A (pyNext (.ref I)) (fun r s₁=>∃ v,r=some v∧wpAny (model g.prog g.w) x.A (letOwnedTupleGo t (.ref I) v) (fun _ s₂=>Q v s₂) E s₁) E s
 done:∀ x,CxOk g x 1→∀ j its fz₀ σ ρ (s:Shared) (Q:Shared→Prop) (E:Value→Shared→Prop),ρ₀ <+: ρ→x.fz=its++fz₀→(∀ p∈fz₀,p.1 ∉ adr)→St j its→HS x ρ σ s.heap→itemA src j σ.hp=some none →
   (∀ s',HS (x.fzd fz₀) ρ σ s'.heap→Same s s'→Q s')→wpAny (model g.prog g.w) x.A (pyNext (.ref I)) (fun r s₁=>r=none∧Q s₁) E s
 self:∀ x its fz₀ σ ρ (s:Shared) (Q:Value→Shared→Prop) (E:Value→Shared→Prop),x.fz=its++fz₀→St 0 its→HS x ρ σ s.heap→Q (.ref I) s→wpAny (model g.prog g.w) x.A (pyIter (.ref I)) Q E s
section
variable {g:Gl}
theorem letGo_other {A:Around} {E:Value→Shared→Prop} {s:Shared} {t:Expr} {I:Addr} {v:Value} {o:Obj} {n:String} {Q:Unit→Shared→Prop} (ho:s.heap.get? I=some o) (hc:o.cls=.type n)
   (hn:(["enumerate", "zip", "dict_itemiterator", "dict_reverseitemiterator", "odict_iterator", "itertools.zip_longest", "itertools.pairwise"].contains n)=false) (h:Q () s):wpAny (model g.prog g.w) A (letOwnedTupleGo t (.ref I) v) Q E s:=by
 have go:∀ a:Addr,wpAny (model g.prog g.w) A (load I >>= fun o=>(match o.cls,o.data with
   | .type n,.fields vs =>
     if ["enumerate", "zip", "dict_itemiterator", "dict_reverseitemiterator", "odict_iterator", "itertools.zip_longest", "itertools.pairwise"].contains n&&vs[0]?==some (rawInt a) then do
       rule "for.unpacks-the-owned-tuple"
       updateField I 0 .none
     else pure ()
   | _,_=>pure ():Sem Unit)) Q E s:=by
   intro a
   refine wpAny_bind (wpAny_load ho ?_)
   rw [hc]
   cases o.data with
   | fields vs=>dsimp only; rw [hn,Bool.false_and,if_neg Bool.false_ne_true]; exact wpAny_pure h
   | _=>exact wpAny_pure h
 cases t with
 | Tuple es k p=>cases v with
   | ref a=>exact go a
   | _=>exact wpAny_pure h
 | List es p=>cases v with
   | ref a=>exact go a
   | _=>exact wpAny_pure h
 | _=>exact wpAny_pure h
noncomputable def ItO (T:String) (I ax:Addr) (j:Nat) (its:List (Addr × Obj)):Prop:=∃ o:Obj,its=[(I,o)]∧o.cls=.type T∧o.data=.fields #[.ref ax,.int j 0]
theorem listOf_of {hp:List AO} {k:Nat} {xs:List AV} (e:atI hp k=some (.list xs)):listOf hp k=some xs:=by unfold listOf; rw [e]
theorem tupOf_of {hp:List AO} {k:Nat} {xs:List AV} (e:atI hp k=some (.tup xs)):tupOf hp k=some xs:=by unfold tupOf; rw [e]
theorem listOf_is {hp:List AO} {k:Nat}:OSat (listOf hp k) fun xs=>atI hp k=some (.list xs):=by
 unfold listOf
 cases atI hp k with
 | none=>exact True.intro
 | some ao=>cases ao <;> first | exact True.intro | exact rfl
theorem tupOf_is {hp:List AO} {k:Nat}:OSat (tupOf hp k) fun xs=>atI hp k=some (.tup xs):=by
 unfold tupOf
 cases atI hp k with
 | none=>exact True.intro
 | some ao=>cases ao <;> first | exact True.intro | exact rfl
theorem HS.isList {x:Cx} {ρ:List Addr} {σ:AS} {h:Heap} (H:HS x ρ σ h) {k:Nat} {xs:List AV} {ax:Addr} (hl:listOf σ.hp k=some xs) (ha:ρ[k]?=some ax):∃ vs:List Value,h.IsList ax vs.toArray∧VRs ρ xs vs:=by
 obtain ⟨m,os,F,HP,lr⟩:=H
 refine HP.at ha (listOf_is.use hl) fun o _ ho hm=>?_
 obtain ⟨vs,n,rfl,hv⟩:=ho
 exact ⟨vs,⟨_,(HP.nw _ hm).1,rfl,n,rfl⟩,hv⟩
theorem HS.isTuple {x:Cx} {ρ:List Addr} {σ:AS} {h:Heap} (H:HS x ρ σ h) {k:Nat} {xs:List AV} {ax:Addr} (hl:tupOf σ.hp k=some xs) (ha:ρ[k]?=some ax):∃ vs:List Value,h.IsTuple ax vs.toArray∧VRs ρ xs vs:=by
 obtain ⟨m,os,F,HP,lr⟩:=H
 refine HP.at ha (tupOf_is.use hl) fun o _ ho hm=>?_
 obtain ⟨vs,n,rfl,hv⟩:=ho
 exact ⟨vs,⟨_,(HP.nw _ hm).1,rfl,n,rfl⟩,hv⟩
theorem at_item {ρ:List Addr} {xs:List AV} {vs:List Value} (h:VRs ρ xs vs) {j:Nat} {a:AV} (e:atI xs j=some a):∃ v,vs.toArray[j]?=some v∧VR ρ a v:=by
 rw [atI_eq] at e
 obtain ⟨v,h1,h2⟩:=h.get e
 exact ⟨v,by simpa using h1,h2⟩
theorem at_end {ρ:List Addr} {xs:List AV} {vs:List Value} (h:VRs ρ xs vs) {j:Nat} (e:atI xs j=.none):vs.toArray[j]?=none:=by
 rw [atI_eq,List.getElem?_eq_none_iff] at e
 rw [Array.getElem?_eq_none_iff]
 simp [← h.len,e]
theorem one_turn {x:Cx} {ρ:List Addr} {σ:AS} {s:Shared} {h':Heap} {tk:Nat} {I:Addr} {its fz₀:List (Addr × Obj)} (H:HS x ρ σ s.heap) (hx:x.fz=its++fz₀) (hd:∀ p∈fz₀,p.1 ∉ [I]) (ha:its.map (·.1)=[I])
   (hs:∀ b o,b ≠ I→s.heap.get? b=some o→h'.get? b=some o) {o':Obj} (ho:h'.get? I=some o'):HS (x.fzd ([]++([(I,o')]++fz₀))) ρ σ ({ s with heap:=h',toks:=tk }:Shared).heap :=
 H.turn hx hd ha (fun b o hb e=>hs b o (by simpa using hb) e) (fun p hp=>by simp at hp; subst hp; exact ⟨by simp,ho⟩) (fun p hp=>by cases hp)
theorem one_done {x:Cx} {ρ:List Addr} {σ:AS} {s:Shared} {h':Heap} {I:Addr} {its fz₀:List (Addr × Obj)} (H:HS x ρ σ s.heap) (hx:x.fz=its++fz₀) (hd:∀ p∈fz₀,p.1 ∉ [I]) (ha:its.map (·.1)=[I])
   (hs:∀ b o,b ≠ I→s.heap.get? b=some o→h'.get? b=some o):HS (x.fzd fz₀) ρ σ h' :=
 H.turn (its':=[]) (tmp:=[]) hx hd ha (fun b o hb e=>hs b o (by simpa using hb) e) (fun p hp=>by cases hp) (fun p hp=>by cases hp)
theorem wk_lst {t:Expr} {k:Nat} {I ax:Addr} {ρ₀:List Addr} (ha:ρ₀[k]?=some ax):Wk g t (.lst k) I [I] ρ₀ (ItO "list_iterator" I ax) where
 ad:=fun j its ⟨o,e,_⟩=>by subst e; rfl
 item:=by
   intro x o j its fz₀ σ ρ s it Q E hp hx hd hst H hi _ hQ
   obtain ⟨ob,rfl,hc,hda⟩:=hst
   have hI:s.heap.get? I=some ob:=H.frz (p:=(I,ob)) (by rw [hx]; exact .head _)
   unfold itemA at hi
   dsimp only at hi
   split at hi
   · rename_i xs hxs
     obtain ⟨vs,hL,hv⟩:=H.isList hxs (pre_get hp ha)
     cases hat:atI xs j with
     | none=>rw [hat] at hi; cases hi
     | some a =>
       rw [hat] at hi
       cases hi
       obtain ⟨v,h1,h2⟩:=at_item hv hat
       refine wpAny_pyNext_list_item ⟨ob,hI,hc,hda⟩ hL h1 fun h' hit hs=>⟨v,rfl,?_⟩
       obtain ⟨o',e1,e2,e3⟩:=hit
       refine letGo_other e1 e2 (by decide +kernel) ?_
       exact hQ v [(I,o')] [] _ ⟨h2,rfl⟩ ⟨o',rfl,e2,by rw [e3]⟩ (one_turn (tk:=s.toks) H hx hd rfl (fun b o hb e=>(hs.2 b hb).trans e) e1) Same.of (fun p hp=>by cases hp)
   · cases hi
 done:=by
   intro x o j its fz₀ σ ρ s Q E hp hx hd hst H hi hQ
   obtain ⟨ob,rfl,hc,hda⟩:=hst
   have hI:s.heap.get? I=some ob:=H.frz (p:=(I,ob)) (by rw [hx]; exact .head _)
   unfold itemA at hi
   dsimp only at hi
   split at hi
   · rename_i xs hxs
     obtain ⟨vs,hL,hv⟩:=H.isList hxs (pre_get hp ha)
     cases hat:atI xs j with
     | some a=>rw [hat] at hi; cases hi
     | none =>
       refine wpAny_pyNext_list_end o.hh ⟨ob,hI,hc,hda⟩ hL (at_end hv hat) fun h' hs=>⟨rfl,hQ _ (one_done H hx hd rfl fun b o hb e=>hs b o hb e) Same.of⟩
   · cases hi
 self:=by
   intro x its fz₀ σ ρ s Q E hx hst H hQ
   obtain ⟨ob,rfl,hc,hda⟩:=hst
   exact wpAny_pyIter_listiter ⟨ob,H.frz (p:=(I,ob)) (by rw [hx]; exact .head _),hc,hda⟩ hQ
theorem wk_tpl {t:Expr} {k:Nat} {I ax:Addr} {ρ₀:List Addr} (ha:ρ₀[k]?=some ax):Wk g t (.tpl k) I [I] ρ₀ (ItO "tuple_iterator" I ax) where
 ad:=fun j its ⟨o,e,_⟩=>by subst e; rfl
 item:=by
   intro x o j its fz₀ σ ρ s it Q E hp hx hd hst H hi _ hQ
   obtain ⟨ob,rfl,hc,hda⟩:=hst
   have hI:s.heap.get? I=some ob:=H.frz (p:=(I,ob)) (by rw [hx]; exact .head _)
   unfold itemA at hi
   dsimp only at hi
   split at hi
   · rename_i xs hxs
     obtain ⟨vs,hL,hv⟩:=H.isTuple hxs (pre_get hp ha)
     cases hat:atI xs j with
     | none=>rw [hat] at hi; cases hi
     | some a =>
       rw [hat] at hi
       cases hi
       obtain ⟨v,h1,h2⟩:=at_item hv hat
       refine wpAny_pyNext_tuple_item ⟨ob,hI,hc,hda⟩ hL h1 fun h' hit hs=>⟨v,rfl,?_⟩
       obtain ⟨o',e1,e2,e3⟩:=hit
       refine letGo_other e1 e2 (by decide +kernel) ?_
       exact hQ v [(I,o')] [] _ ⟨h2,rfl⟩ ⟨o',rfl,e2,by rw [e3]⟩ (one_turn (tk:=s.toks) H hx hd rfl (fun b o hb e=>(hs.2 b hb).trans e) e1) Same.of (fun p hp=>by cases hp)
   · cases hi
 done:=by
   intro x o j its fz₀ σ ρ s Q E hp hx hd hst H hi hQ
   obtain ⟨ob,rfl,hc,hda⟩:=hst
   have hI:s.heap.get? I=some ob:=H.frz (p:=(I,ob)) (by rw [hx]; exact .head _)
   unfold itemA at hi
   dsimp only at hi
   split at hi
   · rename_i xs hxs
     obtain ⟨vs,hL,hv⟩:=H.isTuple hxs (pre_get hp ha)
     cases hat:atI xs j with
     | some a=>rw [hat] at hi; cases hi
     | none =>
       refine wpAny_pyNext_tuple_end o.hh ⟨ob,hI,hc,hda⟩ hL (at_end hv hat) fun h' hs=>⟨rfl,hQ _ (one_done H hx hd rfl fun b o hb e=>hs b o hb e) Same.of⟩
   · cases hi
 self:=by
   intro x its fz₀ σ ρ s Q E hx hst H hQ
   obtain ⟨ob,rfl,hc,hda⟩:=hst
   exact wpAny_pyIter_tupleiter ⟨ob,H.frz (p:=(I,ob)) (by rw [hx]; exact .head _),hc,hda⟩ hQ
theorem top_tuple {x:Cx} {n:Nat} (o:CxOk g x n) {a:Nat} {vs:List AV} (ht:∃ o vs' n,g.K.lookup a=some o∧o=tupO vs' n∧VRs [] vs vs') {ρ:List Addr} {σ:AS} {h:Heap} (H:HS x ρ σ h):∃ ws:List Value,h.IsTuple a ws.toArray∧VRs ρ vs ws:=by
 obtain ⟨ob,ws,k,h1,rfl,h2⟩:=ht
 obtain ⟨m,os,F,HP,lr⟩:=H
 exact ⟨ws,⟨_,F.keep _ _ (o.X _ _ h1),rfl,k,rfl⟩,VRs.mono List.nil_prefix h2⟩
theorem wk_top {t:Expr} {a:Nat} {vs:List AV} (ht:∃ o vs' n,g.K.lookup a=some o∧o=tupO vs' n∧VRs [] vs vs') {I:Addr} {ρ₀:List Addr}:Wk g t (.top a vs) I [I] ρ₀ (ItO "tuple_iterator" I a) where
 ad:=fun j its ⟨o,e,_⟩=>by subst e; rfl
 item:=by
   intro x o j its fz₀ σ ρ s it Q E hp hx hd hst H hi _ hQ
   obtain ⟨ob,rfl,hc,hda⟩:=hst
   have hI:s.heap.get? I=some ob:=H.frz (p:=(I,ob)) (by rw [hx]; exact .head _)
   unfold itemA at hi
   dsimp only at hi
   obtain ⟨ws,hL,hv⟩:=top_tuple o ht H
   cases hat:atI vs j with
   | none=>rw [hat] at hi; cases hi
   | some b =>
     rw [hat] at hi
     cases hi
     obtain ⟨v,h1,h2⟩:=at_item hv hat
     refine wpAny_pyNext_tuple_item ⟨ob,hI,hc,hda⟩ hL h1 fun h' hit hs=>⟨v,rfl,?_⟩
     obtain ⟨o',e1,e2,e3⟩:=hit
     refine letGo_other e1 e2 (by decide +kernel) ?_
     exact hQ v [(I,o')] [] _ ⟨h2,rfl⟩ ⟨o',rfl,e2,by rw [e3]⟩ (one_turn (tk:=s.toks) H hx hd rfl (fun b o hb e=>(hs.2 b hb).trans e) e1) Same.of (fun p hp=>by cases hp)
 done:=by
   intro x o j its fz₀ σ ρ s Q E hp hx hd hst H hi hQ
   obtain ⟨ob,rfl,hc,hda⟩:=hst
   have hI:s.heap.get? I=some ob:=H.frz (p:=(I,ob)) (by rw [hx]; exact .head _)
   unfold itemA at hi
   dsimp only at hi
   obtain ⟨ws,hL,hv⟩:=top_tuple o ht H
   cases hat:atI vs j with
   | some a=>rw [hat] at hi; cases hi
   | none =>
     refine wpAny_pyNext_tuple_end o.hh ⟨ob,hI,hc,hda⟩ hL (at_end hv hat) fun h' hs=>⟨rfl,hQ _ (one_done H hx hd rfl fun b o hb e=>hs b o hb e) Same.of⟩
 self:=by
   intro x its fz₀ σ ρ s Q E hx hst H hQ
   obtain ⟨ob,rfl,hc,hda⟩:=hst
   exact wpAny_pyIter_tupleiter ⟨ob,H.frz (p:=(I,ob)) (by rw [hx]; exact .head _),hc,hda⟩ hQ
noncomputable def RgO (I:Addr) (n:Nat) (j:Nat) (its:List (Addr × Obj)):Prop:=its=[(I,{ cls:=.type "range_iterator",dict:=none,data:=.fields #[rawInt (j:Int),rawInt ((n:Int) - j),rawInt 1],slots:=#[] })]
theorem wk_rng {t:Expr} {n:Nat} {I:Addr} {ρ₀:List Addr}:Wk g t (.rng n) I [I] ρ₀ (RgO I n) where
 ad:=fun j its e=>by cases e; rfl
 item:=by
   intro x o j its fz₀ σ ρ s it Q E hp hx hd hst H hi _ hQ
   have hI:=H.frz (p:=(I,{ cls:=.type "range_iterator",dict:=none,data:=.fields #[rawInt (j:Int),rawInt ((n:Int) - j),rawInt 1],slots:=#[] })) (by rw [hx,hst]; exact .head _)
   unfold itemA at hi
   dsimp only at hi
   cases hat:Nat.blt j n with
   | false=>rw [hat] at hi; cases hi
   | true =>
     rw [hat] at hi
     cases hi
     have hlt':j + 1≤n:=by simpa [Nat.blt] using hat
     have hlt:j<n:=hlt'
     refine wpAny_pyNext_range_item hI (by omega) fun h' hit hs=>⟨_,rfl,?_⟩
     refine letGo_other hit rfl (by decide +kernel) ?_
     refine hQ _ [(I,_)] [] _ ⟨⟨_,rfl⟩,rfl⟩ ?_ (one_turn (tk:=s.toks + 1) H hx hd (by rw [hst]; rfl) (fun b o hb e=>(hs.2 b hb).trans e) hit) Same.of (fun p hp=>by cases hp)
     unfold RgO
     rw [show ((j + 1:Nat):Int)=(j:Int) + 1 from rfl,show (n:Int) - ((j:Int) + 1)=(n:Int) - j - 1 by omega]
 done:=by
   intro x o j its fz₀ σ ρ s Q E hp hx hd hst H hi hQ
   have hI:=H.frz (p:=(I,{ cls:=.type "range_iterator",dict:=none,data:=.fields #[rawInt (j:Int),rawInt ((n:Int) - j),rawInt 1],slots:=#[] })) (by rw [hx,hst]; exact .head _)
   unfold itemA at hi
   dsimp only at hi
   cases hat:Nat.blt j n with
   | true=>rw [hat] at hi; cases hi
   | false =>
     have hlt:¬ j<n:=by
       intro h
       have:Nat.blt j n=true:=by
         have:j + 1≤n:=by omega
         simpa [Nat.blt] using this
       rw [hat] at this; cases this
     exact wpAny_pyNext_range_end o.hh hI (by omega) fun h' hs=>⟨rfl,hQ _ (one_done H hx hd (by rw [hst]; rfl) fun b o hb e=>hs b o hb e) Same.of⟩
 self:=by
   intro x its fz₀ σ ρ s Q E hx hst H hQ
   have hI:=H.frz (p:=(I,{ cls:=.type "range_iterator",dict:=none,data:=.fields #[rawInt ((0:Nat):Int),rawInt ((n:Int) - (0:Nat)),rawInt 1],slots:=#[] })) (by rw [hx,hst]; exact .head _)
   exact wpAny_pyIter_rangeiter hI hQ
end
end
section
open AutoSeq1 (wpAny_loadPart')
set_option maxHeartbeats 1000000
section
variable {prog:Program} {w:World} {A:Around} {E:Value→Shared→Prop} {s:Shared}
theorem pure_any {α:Type} {M:Model} {a:α} {Q:α→Shared→Prop} (h:∀ b,Q b s):wpAny M A (pure a) Q E s:=wpAny_pure (h a)
theorem nextOf_tuple_item {it l:Addr} {i:Nat} {items:Array Value} {x:Value} {Q:Value→Shared→Prop} (hit:s.heap.IsTupleIter it l i) (hl:s.heap.IsTuple l items) (hx:items[i]?=some x)
   (hQ:∀ h',h'.IsTupleIter it l (i + 1)→Heap.SameBut it s.heap h'→Q x { s with heap:=h' }):wpAny (model prog w) A (Builtin.SmallTypes.nextOf (.ref it)) Q E s:=by
 obtain ⟨o,ho,hc,hd⟩:=id hit
 obtain ⟨ol,hol,_,nl,hdl⟩:=hl
 unfold Builtin.SmallTypes.nextOf
 refine wpAny_bind (wpAny_callSpecial?_slot (name:=Str.ofString "__next__") hit.typeIs F.slot_tuple_iterator_next
   (wpAny_call_entry F.slot_tuple_iterator_next hit.typeIs F.entry_tuple_iterator_next ?_ (F.args_tuple_iterator_next_1 _)))
 show wpAny _ _ (field (.ref it) 0 >>= _) _ _ s
 refine wpAny_bind (wpAny_field ho hd (x:=.ref l) rfl ?_)
 show wpAny _ _ (if (Value.ref l==Value.none)=true then _ else _) _ _ s
 rw [if_neg (show ¬ ((Value.ref l==Value.none)=true) from Bool.false_ne_true)]
 show wpAny _ _ (field (.ref it) 1 >>= _) _ _ s
 refine wpAny_bind (wpAny_field ho hd (x:=.int i 0) rfl ?_)
 show wpAny _ _ (seqItems? (.ref l) >>= _) _ _ s
 refine wpAny_bind (wpAny_seqItems hol hdl ?_)
 simp only [Int.toNat_natCast,hx]
 refine wpAny_bind (wpAny_setField ho hd (by simp) (wpAny_pure ⟨x,rfl,wpAny_pure (hQ _ ?_ (Heap.SameBut.update ..))⟩))
 exact ⟨_,Heap.get?_update_self _ ho (Obj.isFreed_of_fields (Obj.data_mapFields hd _)),(Obj.cls_mapFields ..).trans hc,by
   rw [Obj.data_mapFields hd]; simp [rawInt]⟩
theorem nextOf_tuple_end {it l:Addr} {i:Nat} {items:Array Value} {Q:Value→Shared→Prop} (hh:A.handled=none) (hit:s.heap.IsTupleIter it l i) (hl:s.heap.IsTuple l items) (hx:items[i]?=none)
   (hE:∀ h' e,Heap.ExtBut it s.heap h'→(∃ o,h'.get? e=some o∧o.cls=.type "StopIteration")→E (.ref e) { s with heap:=h' }):wpAny (model prog w) A (Builtin.SmallTypes.nextOf (.ref it)) Q E s:=by
 obtain ⟨o,ho,hc,hd⟩:=id hit
 obtain ⟨ol,hol,_,nl,hdl⟩:=hl
 unfold Builtin.SmallTypes.nextOf
 refine wpAny_bind (wpAny_callSpecial?_slot (name:=Str.ofString "__next__") hit.typeIs F.slot_tuple_iterator_next
   (wpAny_call_entry F.slot_tuple_iterator_next hit.typeIs F.entry_tuple_iterator_next ?_ (F.args_tuple_iterator_next_1 _)))
 show wpAny _ _ (field (.ref it) 0 >>= _) _ _ s
 refine wpAny_bind (wpAny_field ho hd (x:=.ref l) rfl ?_)
 show wpAny _ _ (if (Value.ref l==Value.none)=true then _ else _) _ _ s
 rw [if_neg (show ¬ ((Value.ref l==Value.none)=true) from Bool.false_ne_true)]
 show wpAny _ _ (field (.ref it) 1 >>= _) _ _ s
 refine wpAny_bind (wpAny_field ho hd (x:=.int i 0) rfl ?_)
 show wpAny _ _ (seqItems? (.ref l) >>= _) _ _ s
 refine wpAny_bind (wpAny_seqItems hol hdl ?_)
 simp only [Int.toNat_natCast,hx]
 refine wpAny_bind (wpAny_rule (wpAny_bind (wpAny_setField ho hd (by simp) ?_)))
 show wpAny _ _ (newExc (.type "StopIteration") [] >>= _) _ _ _
 refine wpAny_bind ?_
 refine wpAny_bind (wpAny_newObj_type ?_ (by size_fits))
 refine wpAny_bind (m:=firstArgMember _ _) (wpAny_of_eq (a:=Value.none) (by first | rfl | (simp only [firstArgMember]; rfl)) ?_)
 refine wpAny_newObj_type ?_ (by size_fits)
 refine wpAny_bind (wpAny_handled ?_)
 first | rw [show A.in1.handled=none from hh] | rw [hh]
 refine wpAny_bind (wpAny_pure (wpAny_throw ?_))
 exact hE _ _ (((Heap.SameBut.update ..).extBut.push _).push _) ⟨_,Heap.get?_push_size _ rfl,rfl⟩
end
theorem draws_tuple {prog:Program} {w:World} {A:Around} (hh:A.handled=none) (it l:Addr) (hne:l ≠ it) (items:Array Value) :
   Draws prog w A it [it,l] items.size (fun i v=>items[i]?=some v) (fun i h=>h.IsTupleIter it l i∧h.IsTuple l items) where
 live:=fun _ _ st=>st.1.imp fun _ h=>h.1
 frame:=fun _ _ _ st hk=>⟨st.1.imp fun o r=>⟨hk it (.head _) o r.1,r.2⟩,st.2.imp fun o r=>⟨hk l (.tail _ (.head _)) o r.1,r.2⟩⟩
 item:=fun i s Q E hi st hQ=>by
   refine nextOf_tuple_item st.1 st.2 (x:=items[i]) (by simp [hi]) fun h' hit' hs'=>?_
   exact hQ _ h' s.toks (by simp [hi]) ⟨hit',st.2.extBut hs'.extBut hne⟩ hs'
 done:=fun s Q E st hE=>nextOf_tuple_end hh st.1 st.2 (by simp) hE
theorem meets_enum_tuple (l:Addr) (items:Array Value) (n:Nat) :
   Meets (Builtin.«enumerate.__new__» ⟨[.type "enumerate",.ref l],[]⟩) (fun _ R s=>s.heap.get? l=some { cls:=.type "tuple",data:=.seq items n } ∧
     R (.ok (.ret (.ref (s.heap.push { cls:=.type "tuple_iterator",data:=.fields #[.ref l,.int 0 0] }).objs.size)))
       { s with heap:=(s.heap.push { cls:=.type "tuple_iterator",data:=.fields #[.ref l,.int 0 0] }).push { cls:=.type "enumerate",data:=.fields #[.none,.bool false,.ref s.heap.objs.size,rawInt 0,.none,.none] } }) :=
 .of_wp fun prog w A R s h=>by
   obtain ⟨hp,g,d,tk,os⟩:=s; obtain ⟨hl,h⟩:=h
   have hsub:=sub_enumerate
   have hL:Heap.IsTuple (Shared.heap ⟨hp,g,d,tk,os⟩) l items:=⟨_,hl,rfl,n,rfl⟩
   wp_walk using wpAny_loadPart' hl
   refine wpAny_stack_any fun st=>pure_any fun b=>?_
   cases b
   · wp_walk using wpAny_loadPart' hl,wpAny_pyIter_tuple hL
     exact ⟨_,rfl,h⟩
   · wp_walk using wpAny_loadPart' hl,wpAny_pyIter_tuple hL
     exact ⟨_,rfl,h⟩
section
variable {g:Gl} {A:Around} {E:Value→Shared→Prop} {s:Shared}
theorem call_enum_tuple {l:Addr} {vs:List Value} {n:Nat} {Q:Value→Shared→Prop} (hl:s.heap.get? l=some (tupO vs n))
   (h:∀ h',IsEnum h' (s.heap.objs.size + 1) s.heap.objs.size 0 .none→h'.IsTupleIter s.heap.objs.size l 0→h'.objs.size=s.heap.objs.size + 2 →
     (∀ b o,s.heap.get? b=some o→h'.get? b=some o)→Q (.ref (s.heap.objs.size + 1)) { s with heap:=h' }):wpAny (model g.prog g.w) A (call (.type "enumerate") [.ref l]) Q E s:=by
 refine callType_new F.called_enumerate (by decide) (F.typeCall_enumerate_1 _) (F.newCall_enumerate_1 _) (fun obj=>F.args_object_init_2 obj _) F.entry_enumerate_new
   (meets_enum_tuple l vs.toArray n) ⟨hl,?_⟩
 have hz:(s.heap.push { cls:=.type "tuple_iterator",data:=.fields #[.ref l,.int 0 0] }).objs.size=s.heap.objs.size + 1:=Heap.size_push ..
 show _∧_
 rw [hz]
 have he:IsEnum ((s.heap.push { cls:=.type "tuple_iterator",data:=.fields #[.ref l,.int 0 0] }).push
     { cls:=.type "enumerate",data:=.fields #[.none,.bool false,.ref s.heap.objs.size,rawInt 0,.none,.none] }) (s.heap.objs.size + 1) s.heap.objs.size 0 .none:=by
   have:=Heap.get?_push_size (s.heap.push { cls:=.type "tuple_iterator",data:=.fields #[.ref l,.int 0 0] })
     (o:={ cls:=.type "enumerate",data:=.fields #[.none,.bool false,.ref s.heap.objs.size,rawInt 0,.none,.none] }) rfl
   rw [hz] at this; exact this
 refine ⟨⟨_,he,rfl⟩,h _ he ⟨_,Heap.get?_push_of_some _ (Heap.get?_push_size _ rfl),rfl,rfl⟩ (by rw [Heap.size_push,hz]) fun b o x=>Heap.get?_push_of_some _ (Heap.get?_push_of_some _ x)⟩
end
section
variable {g:Gl}
theorem fa_cons {α:Type _} {P:α→Prop} {a:α} {l:List α} (h:P a) (k:∀ x∈l,P x):∀ x∈a::l,P x:=List.forall_mem_cons.mpr ⟨h,k⟩
theorem fa_nil {α:Type _} {P:α→Prop}:∀ x∈([]:List α),P x:=fun _ h=>(List.not_mem_nil h).elim
theorem nm {α:Type _} {b a:α} {l:List α} (h:b ∉ a::l):b ≠ a:=fun e=>h (e ▸ .head _)
theorem nt {α:Type _} {b a:α} {l:List α} (h:b ∉ a::l):b ∉ l:=fun m=>h (.tail _ m)
noncomputable def EnO (len:Nat) (e I ax:Addr) (j:Nat) (its:List (Addr × Obj)):Prop:=j≤len∧∃ (o:Obj) (old:Value),its=[(e,{ cls:=.type "enumerate",dict:=none,data:=.fields #[.none,.bool false,.ref I,rawInt (j:Int),.none,old],slots:=#[] }),(I,o)]∧o.cls=.type "tuple_iterator" ∧ o.data=.fields #[.ref ax,.int j 0]
theorem wk_enum {t:Expr} {a:Nat} {vs:List AV} (ht:∃ o vs' n,g.K.lookup a=some o∧o=tupO vs' n∧VRs [] vs vs') {e I:Addr} {ρ₀:List Addr} (hne:e ≠ I) (hae:a ≠ e) (haI:a ≠ I):Wk g t (.enum a vs) e [e,I] ρ₀ (EnO vs.length e I a) where
 ad:=fun j its h=>by obtain ⟨_,o,old,q,_⟩:=h; subst q; rfl
 item:=by
   intro x o j its fz₀ σ ρ s it Q E hp hx hd hst H hi htup hQ
   obtain ⟨hjl,ob,old,rfl,hc,hda⟩:=hst
   have hE:=H.frz (p:=(e,_)) (by rw [hx]; exact .head _)
   have hI:=H.frz (p:=(I,ob)) (by rw [hx]; exact .tail _ (.head _))
   unfold itemA at hi
   dsimp only at hi
   obtain ⟨ws,hL,hv⟩:=top_tuple o ht H
   cases hat:atI vs j with
   | none=>rw [hat] at hi; cases hi
   | some b =>
     rw [hat] at hi
     cases hi
     obtain ⟨es,kk,pp,rfl⟩:=htup ⟨_,rfl⟩
     obtain ⟨v,h1,h2⟩:=at_item hv hat
     have hlt:j<ws.toArray.size:=(Array.getElem?_eq_some_iff.mp h1).1
     refine wpAny_pyNext_enum_itemD (draws_tuple (A:=x.A.in1) o.hh I a haI ws.toArray) hE ⟨⟨ob,hI,hc,hda⟩,hL⟩ hlt hne (by simp [hne,Ne.symm hae]) fun y h' tk hy hout hst' hT hsz hk=>⟨_,rfl,?_⟩
     cases h1.symm.trans hy
     refine wpAny_letOwnedTupleGo_enum hout fun h'' hen hs=>?_
     obtain ⟨⟨o',i1,i2,i3⟩,hL'⟩:=hst'
     have hTe:s.heap.objs.size ≠ e:=Nat.ne_of_gt (Heap.lt_size hE)
     refine hQ _ [(e,_),(I,o')] [(s.heap.objs.size,tupO [.int j tk,v] 0)] _ ⟨_,_,_,rfl,rfl,.cons ⟨_,rfl⟩ (.cons h2 .nil)⟩ ⟨by rw [hv.len]; exact Nat.succ_le_of_lt (by simpa using hlt),o',v,rfl,i2,i3⟩ (H.turn (h':=h'') hx hd rfl (fun b o hb q=>(hs.2 b (nm hb)).trans (hk b o (nm hb) (nm (nt hb)) q)) (fa_cons ⟨.head _,hen⟩ (fa_cons ⟨.tail _ (.head _),(hs.2 I (Ne.symm hne)).trans i1⟩ fa_nil)) (fa_cons ⟨Nat.le_refl _,(hs.2 _ hTe).trans hT⟩ fa_nil)) Same.of (fa_cons (Nat.le_refl _) fa_nil)
 done:=by
   intro x o j its fz₀ σ ρ s Q E hp hx hd hst H hi hQ
   obtain ⟨hjl,ob,old,rfl,hc,hda⟩:=hst
   have hE:=H.frz (p:=(e,_)) (by rw [hx]; exact .head _)
   have hI:=H.frz (p:=(I,ob)) (by rw [hx]; exact .tail _ (.head _))
   unfold itemA at hi
   dsimp only at hi
   obtain ⟨ws,hL,hv⟩:=top_tuple o ht H
   cases hat:atI vs j with
   | some b=>rw [hat] at hi; cases hi
   | none =>
     have hend:=at_end hv hat
     have hge:ws.toArray.size≤j:=Array.getElem?_eq_none_iff.mp hend
     have hj:j=ws.toArray.size:=by
       have:=hv.len
       simp at hge ⊢
       omega
     subst hj
     exact wpAny_pyNext_enum_endD (draws_tuple (A:=x.A.in1) o.hh I a haI ws.toArray) hE ⟨⟨ob,hI,hc,hda⟩,hL⟩ fun h' hs=>⟨rfl,hQ _ (H.turn (its':=[]) (tmp:=[]) hx hd rfl (fun b o hb q=>hs b o (nm (nt hb)) q) fa_nil fa_nil) Same.of⟩
 self:=by
   intro x its fz₀ σ ρ s Q E hx hst H hQ
   obtain ⟨hjl,ob,old,rfl,hc,hda⟩:=hst
   exact wpAny_pyIter_enum (H.frz (p:=(e,_)) (by rw [hx]; exact .head _)) hQ
noncomputable def ZpO (z TI TO i1 i2 l1 l2:Addr) (j:Nat) (its:List (Addr × Obj)):Prop:=∃ (o1 o2:Obj) (a b:Value),its=[(z,{ cls:=.type "zip",dict:=none,data:=.fields #[.none,.bool false,.bool false,.ref TI,.ref TO],slots:=#[] }),
   (TI,{ cls:=.type "tuple",data:=.seq #[.ref i1,.ref i2] }),(TO,{ cls:=.type "tuple",data:=.seq #[a,b] }),(i1,o1),(i2,o2)]∧o1.cls=.type "list_iterator" ∧ o1.data=.fields #[.ref l1,.int j 0]∧o2.cls=.type "list_iterator" ∧ o2.data=.fields #[.ref l2,.int j 0]
theorem wk_zip {t:Expr} {k l:Nat} {z TI TO i1 i2 l1 l2:Addr} {ρ₀:List Addr} (D:ZipApart z TI TO i1 i2 l1 l2) (h1:ρ₀[k]?=some l1) (h2:ρ₀[l]?=some l2):Wk g t (.zip k l) z [z,TI,TO,i1,i2] ρ₀ (ZpO z TI TO i1 i2 l1 l2) where
 ad:=fun j its h=>by obtain ⟨o1,o2,a,b,q,_⟩:=h; subst q; rfl
 item:=by
   intro x o j its fz₀ σ ρ s it Q E hp hx hd hst H hi htup hQ
   obtain ⟨o1,o2,a,b,rfl,c1,d1,c2,d2⟩:=hst
   have hz:=H.frz (p:=(z,_)) (by rw [hx]; exact .head _)
   have hTI:=H.frz (p:=(TI,_)) (by rw [hx]; exact .tail _ (.head _))
   have hTO:=H.frz (p:=(TO,_)) (by rw [hx]; exact .tail _ (.tail _ (.head _)))
   have hi1:=H.frz (p:=(i1,o1)) (by rw [hx]; exact .tail _ (.tail _ (.tail _ (.head _))))
   have hi2:=H.frz (p:=(i2,o2)) (by rw [hx]; exact .tail _ (.tail _ (.tail _ (.tail _ (.head _)))))
   revert hi
   unfold itemA
   dsimp only
   cases hxs:listOf σ.hp k with
   | none=>exact fun hi=>ceNS hi
   | some xs =>
   cases hys:listOf σ.hp l with
   | none=>exact fun hi=>ceNS hi
   | some ys =>
   obtain ⟨us,hL1,hu⟩:=H.isList hxs (pre_get hp h1)
   obtain ⟨ws,hL2,hw⟩:=H.isList hys (pre_get hp h2)
   dsimp only
   cases hp':atI xs j with
   | none=>exact fun hi=>ceSS hi fun hi=>ceNS hi
   | some p =>
   cases hq':atI ys j with
   | none=>exact fun hi=>ceSS hi fun hi=>ceNS hi
   | some q =>
   intro hi
   cases hi
   obtain ⟨es,kk,pp,rfl⟩:=htup ⟨_,rfl⟩
   obtain ⟨u,e1,e2⟩:=at_item hu hp'
   obtain ⟨v,f1,f2⟩:=at_item hw hq'
   refine wpAny_pyNext_zip_item D hz hTI hTO ⟨o1,hi1,c1,d1⟩ ⟨o2,hi2,c2,d2⟩ hL1 hL2 e1 f1 fun h' a1 a2 a3 a4 a5 a6 hk=>⟨_,rfl,?_⟩
   refine wpAny_letOwnedTupleGo_zip a1 fun h'' hz' hs=>?_
   obtain ⟨o1',b1,b2,b3⟩:=a3
   obtain ⟨o2',g1,g2,g3⟩:=a4
   have hTz:s.heap.objs.size ≠ z:=Nat.ne_of_gt (Heap.lt_size hz)
   exact hQ _ [(z,_),(TI,_),(TO,_),(i1,o1'),(i2,o2')] [(s.heap.objs.size,tupO [u,v] 0)] _ ⟨_,_,_,rfl,rfl,.cons e2 (.cons f2 .nil)⟩ ⟨o1',o2',u,v,rfl,b2,b3,g2,g3⟩ (H.turn (h':=h'') hx hd rfl (fun b o hb q=>(hs.2 b (nm hb)).trans (hk b o (nm hb) (nm (nt (nt hb))) (nm (nt (nt (nt hb)))) (nm (nt (nt (nt (nt hb))))) q))
     (fa_cons ⟨.head _,hz'⟩ (fa_cons ⟨.tail _ (.head _),(hs.2 _ D.TIz).trans (hk _ _ D.TIz D.TITO D.TIi1 D.TIi2 hTI)⟩ (fa_cons ⟨.tail _ (.tail _ (.head _)),(hs.2 _ D.TOz).trans a2⟩ (fa_cons ⟨.tail _ (.tail _ (.tail _ (.head _))),(hs.2 _ D.i1z).trans b1⟩ (fa_cons ⟨.tail _ (.tail _ (.tail _ (.tail _ (.head _)))),(hs.2 _ D.i2z).trans g1⟩ fa_nil)))))
     (fa_cons ⟨Nat.le_refl _,(hs.2 _ hTz).trans a5⟩ fa_nil)) Same.of (fa_cons (Nat.le_refl _) fa_nil)
 done:=by
   intro x o j its fz₀ σ ρ s Q E hp hx hd hst H hi hQ
   obtain ⟨o1,o2,a,b,rfl,c1,d1,c2,d2⟩:=hst
   have hz:=H.frz (p:=(z,_)) (by rw [hx]; exact .head _)
   have hTI:=H.frz (p:=(TI,_)) (by rw [hx]; exact .tail _ (.head _))
   have hTO:=H.frz (p:=(TO,_)) (by rw [hx]; exact .tail _ (.tail _ (.head _)))
   have hi1:=H.frz (p:=(i1,o1)) (by rw [hx]; exact .tail _ (.tail _ (.tail _ (.head _))))
   have hi2:=H.frz (p:=(i2,o2)) (by rw [hx]; exact .tail _ (.tail _ (.tail _ (.tail _ (.head _)))))
   revert hi
   unfold itemA
   dsimp only
   cases hxs:listOf σ.hp k with
   | none=>exact fun hi=>ceNS hi
   | some xs =>
   cases hys:listOf σ.hp l with
   | none=>exact fun hi=>ceNS hi
   | some ys =>
   obtain ⟨us,hL1,hu⟩:=H.isList hxs (pre_get hp h1)
   obtain ⟨ws,hL2,hw⟩:=H.isList hys (pre_get hp h2)
   dsimp only
   intro hi
   have hend:us.toArray[j]?=none ∨ ws.toArray[j]?=none:=by
     cases e1:atI xs j with
     | none=>exact .inl (at_end hu e1)
     | some u =>
       cases e2:atI ys j with
       | none=>exact .inr (at_end hw e2)
       | some v=>rw [e1,e2] at hi; exact ceSS hi fun hi=>ceSN hi
   exact wpAny_pyNext_zip_end o.hh D hz hTI hTO ⟨o1,hi1,c1,d1⟩ ⟨o2,hi2,c2,d2⟩ hL1 hL2 hend fun h' hk=>⟨rfl,hQ _ (H.turn (its':=[]) (tmp:=[]) hx hd rfl (fun b o hb q=>hk b o (nm hb) (nm (nt (nt hb))) (nm (nt (nt (nt hb)))) (nm (nt (nt (nt (nt hb))))) q) fa_nil fa_nil) Same.of⟩
 self:=by
   intro x its fz₀ σ ρ s Q E hx hst H hQ
   obtain ⟨o1,o2,a,b,rfl,c1,d1,c2,d2⟩:=hst
   exact wpAny_pyIter_zip (H.frz (p:=(z,_)) (by rw [hx]; exact .head _)) hQ
end
end
section
set_option maxHeartbeats 1000000
section
variable {g:Gl} {T:Tab} {n:Nat}
theorem HS.grow {x:Cx} {ρ:List Addr} {σ:AS} {h h':Heap} {tmp:List (Addr × Obj)} (H:HS x ρ σ h) (hk:∀ b o,h.get? b=some o→h'.get? b=some o) (ht:∀ p∈tmp,h.objs.size≤p.1∧h'.get? p.1=some p.2):HS (x.fzd (tmp++x.fz)) ρ σ h' :=
 H.turn (its:=[]) (its':=[]) (adr:=[]) (fz₀:=x.fz) rfl (fun _ _ h=>by cases h) rfl (fun b o _ e=>hk b o e) (fun p hp=>by cases hp) ht
theorem HS.fz_lt {x:Cx} {ρ:List Addr} {σ:AS} {h:Heap} (H:HS x ρ σ h) {p:Addr × Obj} (hp:p∈x.fz):p.1<h.objs.size:=Heap.lt_size (H.frz hp)
theorem off_new {adr:List Addr} {N a:Nat} (hl:∀ b∈adr,N≤b) (h:a<N):a ∉ adr:=fun q=>absurd (hl a q) (Nat.not_le.mpr h)
theorem no_set {e:Expr} {env:Env} (h:∀ a b c,e ≠ .Set a b c) (v:Value):foldedSetIterable e env v=pure v:=by
 cases e <;> first | rfl | exact absurd rfl (h _ _ _)
noncomputable def SrcK (g:Gl) (x:Cx) (ρ:List Addr) (s:Shared) (t:Expr) (src:Src) (σ':AS) (Q:Value→Shared→Prop):Prop :=
 ∀ ρ' s' I adr St its,ρ <+: ρ'→Wk g t src I adr ρ' St→St 0 its→HS (x.fzd (its++x.fz)) ρ' σ' s'.heap→(∀ p∈x.fz,p.1 ∉ adr)→Same s s'→Q (.ref I) s'
noncomputable def ItrP (g:Gl) (σ:AS) (v:AV) (src:Src) (σ':AS):Prop:=∀ x n,CxOk g x n→∀ ρ s v' t (Q:Value→Shared→Prop),HS x ρ σ s.heap→VR ρ v v'→SrcK g x ρ s t src σ' Q→wpAny (model g.prog g.w) x.A (pyIter v') Q EF s
noncomputable def SrcP (g:Gl) (n:Nat) (sc:List (Str × NameKind)) (σ:AS) (e:Expr) (src:Src) (σ':AS):Prop:=∀ x,CxOk g x n→x.scn=sc→Sz σ'.ob→∀ ρ s t (Q:Value→Shared→Prop),HS x ρ σ s.heap→SrcK g x ρ s t src σ' Q →
 (∀ v,foldedSetIterable e x.cur v=pure v)∧wpAny (model g.prog g.w) x.A (eval e x.cur) (fun xv s₁=>wpAny (model g.prog g.w) x.A (pyIter xv) Q EF s₁) EF s
theorem SrcK.after {x:Cx} {ρ ρ₁:List Addr} {s s₁:Shared} {t:Expr} {src:Src} {σ':AS} {Q:Value→Shared→Prop} (h:SrcK g x ρ s t src σ' Q) (p:ρ <+: ρ₁) (S:Same s s₁):SrcK g x ρ₁ s₁ t src σ' Q :=
 fun ρ' s' I adr St its q W st H hd S'=>h ρ' s' I adr St its (p.trans q) W st H hd (S.trans S')
theorem SrcK.one {x:Cx} {ρ:List Addr} {s:Shared} {t:Expr} {src:Src} {σ:AS} {Q:Value→Shared→Prop} (h:SrcK g x ρ s t src σ Q) (H:HS x ρ σ s.heap) {St:Nat→List (Addr × Obj)→Prop} {o:Obj} {h₁:Heap} {tk:Nat} (W:Wk g t src h₁.objs.size [h₁.objs.size] ρ St) (st:St 0 [(h₁.objs.size,o)]) (hf:o.isFreed=false)
   (le:s.heap.objs.size≤h₁.objs.size) (up:∀ b o,s.heap.get? b=some o→h₁.get? b=some o):Q (.ref h₁.objs.size) { s with heap:=h₁.push o,toks:=tk } :=
 h ρ _ _ _ St _ (List.prefix_refl _) W st (H.grow (fun b o q=>Heap.get?_push_of_some _ (up b o q)) fun p hp=>by
   cases List.mem_singleton.mp hp
   exact ⟨le,Heap.get?_push_size _ hf⟩) (fun p hp=>off_new (N:=s.heap.objs.size) (fun b hb=>by cases List.mem_singleton.mp hb; exact le) (H.fz_lt hp)) Same.of
theorem SrcK.new {x:Cx} {ρ:List Addr} {s:Shared} {t:Expr} {src:Src} {σ:AS} {Q:Value→Shared→Prop} (h:SrcK g x ρ s t src σ Q) (H:HS x ρ σ s.heap) {St:Nat→List (Addr × Obj)→Prop} {o:Obj} (W:Wk g t src s.heap.objs.size [s.heap.objs.size] ρ St) (st:St 0 [(s.heap.objs.size,o)]) (hf:o.isFreed=false):Q (.ref s.heap.objs.size) { s with heap:=s.heap.push o } :=
 h.one (tk:=s.toks) H W st hf (Nat.le_refl _) fun _ _ q=>q
theorem srcV_s (ok:TabOk g T) {v:AV} {σ:AS}:Sat σ.ob (srcV T v σ) (ItrP g σ v):=by
 cases v <;> first | exact True.intro | skip
 · rename_i k
   unfold srcV
   dsimp only
   cases e:atI σ.hp k with
   | none=>exact True.intro
   | some ao =>
   cases ao <;> first | exact True.intro | skip
   · refine Sat.ret fun x n o ρ s v' t Q H vr hQ=>?_
     obtain ⟨ax,ha,rfl⟩:=vr
     obtain ⟨vs,hL,_⟩:=H.isList (listOf_of e) ha
     exact wpAny_pyIter_list hL (hQ.new (St:=ItO "list_iterator" s.heap.objs.size ax) H (wk_lst ha) ⟨_,rfl,rfl,rfl⟩ rfl)
   · refine Sat.ret fun x n o ρ s v' t Q H vr hQ=>?_
     obtain ⟨ax,ha,rfl⟩:=vr
     obtain ⟨vs,hL,_⟩:=H.isTuple (tupOf_of e) ha
     exact wpAny_pyIter_tuple hL (hQ.new (St:=ItO "tuple_iterator" s.heap.objs.size ax) H (wk_tpl ha) ⟨_,rfl,rfl,rfl⟩ rfl)
 · rename_i a
   unfold srcV
   dsimp only
   cases e:T.tup a with
   | none=>exact True.intro
   | some us =>
   refine Sat.ret fun x n o ρ s v' t Q H vr hQ=>?_
   cases vr
   have ht:=ok.tup _ _ e
   obtain ⟨vs,hL,_⟩:=top_tuple o ht H
   exact wpAny_pyIter_tuple hL (hQ.new (St:=ItO "tuple_iterator" s.heap.objs.size a) H (wk_top ht) ⟨_,rfl,rfl,rfl⟩ rfl)
noncomputable def SrbP (g:Gl) (σ:AS) (v:AV) (vs:List AV) (src:Src) (σ':AS):Prop:=∃ b,v=.bi b∧∀ x n,CxOk g x n→∀ ρ s vs' t (Q:Value→Shared→Prop),HS x ρ σ s.heap→VRs ρ vs vs'→SrcK g x ρ s t src σ' Q →
 wpAny (model g.prog g.w) x.A (call b.val vs') (fun xv s₁=>wpAny (model g.prog g.w) x.A (pyIter xv) Q EF s₁) EF s
theorem range_s {k:Int} {σ:AS} (hk:(decide (0≤k)&&decide (k≤1000))=true):SrbP g σ (.bi .range) [.int k] (.rng k.toNat) σ:=by
 refine ⟨_,rfl,fun x n o ρ s vs' t Q H vrs hQ=>?_⟩
 obtain ⟨k1,k2⟩:=Bool.and_eq_true_iff.mp hk
 have k1:=of_decide_eq_true k1
 have k2:=of_decide_eq_true k2
 cases vrs with
 | cons hv hnil =>
 cases hnil
 obtain ⟨tk,rfl⟩:=hv
 refine call_range_1 ?_
 have hsz:Builtin.Range.rangeSize 0 k 1=k:=by
   unfold Builtin.Range.rangeSize
   simp only [Int.zero_lt_one,gt_iff_lt,if_true,Int.ediv_one]
   split <;> omega
 refine wpAny_pyIter_range (Heap.get?_push_size _ rfl) ?_ ?_
 · unfold Builtin.Range.small Builtin.Range.rangeFitsLong
   rw [hsz]
   have a1:k<2 ^ 63:=by omega
   have a2:-(2 ^ 63)≤k:=by omega
   simp only [decide_eq_true a1,decide_eq_true a2]
   simp
   omega
 · rw [hsz]
   refine hQ.one (St:=RgO _ k.toNat) H wk_rng ?_ rfl (by rw [Heap.size_push]; exact Nat.le_succ _) fun b o q=>Heap.get?_push_of_some _ q
   unfold RgO
   rw [show ((k.toNat:Nat):Int) - ((0:Nat):Int)=k by omega]
   rfl
theorem enum_s (ok:TabOk g T) {a:Nat} {us:List AV} {σ:AS} (e:T.tup a=some us):SrbP g σ (.bi .enumerate) [.top a] (.enum a us) σ:=by
 refine ⟨_,rfl,fun x n o ρ s vs' t Q H vrs hQ=>?_⟩
 cases vrs with
 | cons hv hnil =>
 cases hnil
 cases hv
 have ht:=ok.tup _ _ e
 obtain ⟨ob,ws,nn,hl,rfl,_⟩:=id ht
 obtain ⟨m,os,F,HP,lr⟩:=id H
 have hob:=F.keep _ _ (o.X _ _ hl)
 have hlt:a<s.heap.objs.size:=Heap.lt_size hob
 refine call_enum_tuple hob fun h' e1 e2 e3 hk=>?_
 refine wpAny_pyIter_enum e1 ?_
 obtain ⟨ot,t1,t2,t3⟩:=e2
 refine hQ ρ _ _ [_,_] (EnO us.length (s.heap.objs.size + 1) s.heap.objs.size a) [(_,_),(_,ot)] (List.prefix_refl _) (wk_enum ht (by simp) (by k_ne) (by k_ne)) ⟨Nat.zero_le _,ot,.none,rfl,t2,t3⟩ (H.grow hk fun p hp=>?_) (fun p hp=>off_new (N:=s.heap.objs.size) (by simp) (H.fz_lt hp)) Same.of
 simp at hp
 rcases hp with rfl | rfl
 · exact ⟨Nat.le_succ _,e1⟩
 · exact ⟨Nat.le_refl _,t1⟩
theorem zip_s {k l:Nat} {xs ys:List AV} {σ:AS} (hxs:listOf σ.hp k=some xs) (hys:listOf σ.hp l=some ys):SrbP g σ (.bi .zip) [.obj k,.obj l] (.zip k l) σ:=by
 refine ⟨_,rfl,fun x n o ρ s vs' t Q H vrs hQ=>?_⟩
 cases vrs with
 | cons hv hr =>
 cases hr with
 | cons hw hnil =>
 cases hnil
 obtain ⟨l1,hl1,rfl⟩:=hv
 obtain ⟨l2,hl2,rfl⟩:=hw
 obtain ⟨us,hL1,_⟩:=H.isList hxs hl1
 obtain ⟨ws,hL2,_⟩:=H.isList hys hl2
 have lt1:@LT.lt Nat _ l1 s.heap.objs.size:=by obtain ⟨_,q,_⟩:=hL1; exact Heap.lt_size q
 have lt2:@LT.lt Nat _ l2 s.heap.objs.size:=by obtain ⟨_,q,_⟩:=hL2; exact Heap.lt_size q
 refine call_zip_2 hL1 hL2 fun h' e1 e2 e3 e4 e5 e6 hk=>?_
 refine wpAny_pyIter_zip e1 ?_
 obtain ⟨o1,a1,a2,a3⟩:=e4
 obtain ⟨o2,b1,b2,b3⟩:=e5
 refine hQ ρ _ _ [_,_,_,_,_] (ZpO (s.heap.objs.size + 4) (s.heap.objs.size + 2) (s.heap.objs.size + 3) s.heap.objs.size (s.heap.objs.size + 1) l1 l2) [(_,_),(_,_),(_,_),(_,o1),(_,o2)] (List.prefix_refl _) (wk_zip ?_ hl1 hl2) ⟨o1,o2,.none,.none,rfl,a2,a3,b2,b3⟩ (H.grow hk fun p hp=>?_) (fun p hp=>off_new (N:=s.heap.objs.size) (by simp) (H.fz_lt hp)) Same.of
 · constructor <;> k_ne
 · simp at hp
   rcases hp with rfl | rfl | rfl | rfl | rfl
   · exact ⟨by simp,e1⟩
   · exact ⟨by simp,e2⟩
   · exact ⟨by simp,e3⟩
   · exact ⟨by simp,a1⟩
   · exact ⟨by simp,b1⟩
theorem srcB_s (ok:TabOk g T) {v:AV} {vs:List AV} {σ:AS}:Sat σ.ob (srcB T v vs σ) (SrbP g σ v vs):=by
 cases v <;> first | exact True.intro | skip
 rename_i b
 cases b <;> first | exact True.intro | skip
 · rcases vs with _ | ⟨a,_ | _⟩ <;> first | exact True.intro | skip
   · cases a <;> first | exact True.intro | skip
     rename_i k
     unfold srcB
     dsimp only
     cases hk:decide (0≤k)&&decide (k≤1000) with
     | false=>exact True.intro
     | true=>exact Sat.ret (range_s hk)
   · cases a <;> exact True.intro
 · rcases vs with _ | ⟨a,_ | ⟨b,_ | _⟩⟩ <;> first | exact True.intro | skip
   · cases a <;> exact True.intro
   · cases a <;> first | exact True.intro | skip
     cases b <;> first | exact True.intro | skip
     rename_i k l
     unfold srcB
     dsimp only
     cases hk:listOf σ.hp k with
     | none=>exact True.intro
     | some xs =>
     cases hl:listOf σ.hp l with
     | none=>exact True.intro
     | some ys=>exact Sat.ret (zip_s hk hl)
   · cases a <;> first | exact True.intro | (cases b <;> exact True.intro)
 · rcases vs with _ | ⟨a,_ | _⟩ <;> first | exact True.intro | skip
   · cases a <;> first | exact True.intro | skip
     rename_i a
     unfold srcB
     dsimp only
     cases e:T.tup a with
     | none=>exact True.intro
     | some us=>exact Sat.ret (enum_s ok e)
   · cases a <;> exact True.intro
theorem src_s (ok:TabOk g T) (hev:EvS g T n) {sc:List (Str × NameKind)} {e:Expr} {σ:AS}:Sat σ.ob (srcA T (interp T n) sc e σ) (SrcP g n sc σ e):=by
 have gen:(∀ a b c,e ≠ .Set a b c)→Sat σ.ob (((interp T n).ev sc e σ).bind (srcV T)) (SrcP g n sc σ e):=fun hne =>
   (hev sc e σ).bind fun v σ₁ _ D₁=>(srcV_s ok).imp fun src σ' m D₂ x o hs z ρ s t Q H hQ=>⟨no_set hne,D₁ x o hs (z.of m) ρ s _ H fun ρ₁ s₁ v' p₁ H₁ S₁ vr=>D₂ x n o ρ₁ s₁ v' t Q H₁ vr (hQ.after p₁ S₁)⟩
 cases e <;> first | (refine gen fun _ _ _ h=>?_; injection h; done) | skip
 · cases n <;> exact True.intro
 · clear gen
   rename_i f as ks p
   cases ks with
   | cons=>exact True.intro
   | nil =>
   refine Sat.guard fun hn=>?_
   cases f <;> first | exact True.intro | skip
   rename_i nm q
   refine (hev sc _ σ).bind fun v σ₁ _ D₁=>(evL_s hev as σ₁ hn).bind fun vs σ₂ m₂ D₂=>(srcB_s ok).imp fun src σ' m₃ D₃ x o hs z ρ s t Q H hQ=>⟨fun _=>rfl,?_⟩
   subst hs
   obtain ⟨b,rfl,D₃⟩:=D₃
   refine wpAny_Call_Name_kw (D₁ x o rfl (z.of (m₂.trans m₃)) ρ s _ H fun ρ₁ s₁ f' p₁ H₁ S₁ vf=>?_)
   cases vf
   refine callWith_bi hn (argsK_s (ks:=[]) (kes:=[]) (ws:=[]) o hn rfl D₂ (sfx_refl _) ⟨fun _=>⟨rfl,rfl⟩,fun x o hs pos z ρ s Q H hQ=>kwAll_nil (hQ.now H Same.rfl .nil)⟩ (z.of m₃) ρ₁ s₁ _ H₁ fun ρ₂ s₂ a p₂ H₂ S₂ ar=>?_)
   obtain ⟨pv,kw⟩:=a
   obtain ⟨vrs,krs⟩:=ar
   have krs:KRs ρ₂ [] kw:=krs
   cases krs
   exact D₃ x n o ρ₂ s₂ pv t Q H₂ vrs ((hQ.after p₁ S₁).after p₂ S₂)
end
end
section
set_option maxHeartbeats 1000000
section
variable {g:Gl} {T:Tab} {n:Nat} {sc:List (Str × NameKind)}
theorem names_each {env:Env}:∀ {es:List Expr} {xs:List Str},namesOf es=some xs→(assignEach es env).length=xs.length∧(assignEach es env).findIdx? (·.1)=none:=by
 intro es
 induction es with
 | nil=>intro xs h; cases h; exact ⟨rfl,rfl⟩
 | cons e r ih =>
   intro xs h
   cases e <;> first | exact ceNS h | skip
   obtain ⟨ys,hy,rfl⟩:=Option.map_eq_some_iff.mp h
   obtain ⟨a,b⟩:=ih hy
   refine ⟨congrArg (· + 1) a,?_⟩
   show ((false,_)::assignEach r env).findIdx? (·.1)=none
   rw [List.findIdx?_cons,b]
   rfl
noncomputable def EachP (g:Gl) (sc:List (Str × NameKind)) (σ:AS) (es:List Expr) (as:List AV) (σ':AS):Prop:=∀ x n,CxOk g x n→x.cv=none→x.scope.names=sc→∀ ρ s vs (Q:Unit→Shared→Prop),VRs ρ as vs→HS x ρ σ s.heap→(∀ s',HS x ρ σ' s'.heap→Same s s'→Q () s')→wpAny (model g.prog g.w) x.A (assignInOrder ((assignEach es x.env).map (·.2)) vs) Q EF s
theorem each_s:∀ {es:List Expr} {xs:List Str} {as:List AV} {σ:AS},namesOf es=some xs→OSat (stoL sc xs as σ) fun σ'=>xs.length=as.length∧EachP g sc σ es as σ':=by
 intro es
 induction es with
 | nil =>
   intro xs as σ h
   cases h
   cases as with
   | cons=>exact True.intro
   | nil=>exact ⟨rfl,fun x n o hv hs ρ s vs Q vr H hQ=>by cases vr; exact wpAny_pure (hQ s H Same.rfl)⟩
 | cons e r ih =>
   intro xs as σ h
   cases e <;> first | exact ceNS h | skip
   rename_i nm pos
   obtain ⟨ys,hy,rfl⟩:=Option.map_eq_some_iff.mp h
   cases as with
   | nil=>exact True.intro
   | cons a as =>
     rw [stoL_c]
     cases ha:stoA sc nm a σ with
     | none=>exact True.intro
     | some σ₁ =>
       have h1:=(store_s (g:=g)).use ha
       have h2:=ih (as:=as) (σ:=σ₁) hy
       revert h2
       dsimp only
       cases stoL sc ys as σ₁ with
       | none=>exact fun _=>True.intro
       | some σ' =>
         refine fun h2=>⟨congrArg (· + 1) h2.1,fun x n o hv hs ρ s vs Q vr H hQ=>?_⟩
         cases vr with
         | cons hv' hvs =>
           refine assignInOrder_cons (wpAny_assign_Name (h1 x n o hv hs ρ s _ _ H hv' fun s₁ H₁ S₁=>h2.2 x n o hv hs ρ s₁ _ _ hvs H₁ fun s₂ H₂ S₂=>hQ s₂ H₂ (S₁.trans S₂)))
noncomputable def UnpP (g:Gl) (σ:AS) (it:It) (as:List AV):Prop:=∀ x n,CxOk g x n→∀ tmp fz₁ ρ h v,x.fz=tmp++fz₁→ItR ρ it v tmp→HS x ρ σ h→∃ (Ta:Addr) (vs:List Value),v=.ref Ta∧h.IsTuple Ta vs.toArray∧VRs ρ as vs
theorem unp_s (ok:TabOk g T) {it:It} {σ:AS}:OSat (unpA T it σ.hp) (UnpP g σ it):=by
 cases it with
 | many as =>
   refine fun x n o tmp fz₁ ρ h v hx ir H=>?_
   obtain ⟨Ta,vs,k,rfl,rfl,hv⟩:=ir
   exact ⟨Ta,vs,rfl,⟨_,H.frz (p:=(Ta,tupO vs k)) (by rw [hx]; exact .head _),rfl,k,rfl⟩,hv⟩
 | one v =>
   cases v <;> first | exact True.intro | skip
   · rename_i k
     unfold unpA
     dsimp only
     cases e:atI σ.hp k with
     | none=>exact True.intro
     | some ao =>
     cases ao <;> first | exact True.intro | skip
     refine fun x n o tmp fz₁ ρ h v hx ir H=>?_
     obtain ⟨ad,ha,rfl⟩:=ir.1
     obtain ⟨vs,h1,h2⟩:=H.isTuple (tupOf_of e) ha
     exact ⟨ad,vs,rfl,h1,h2⟩
   · rename_i a
     refine (?_:OSat (T.tup a) _)
     cases e:T.tup a with
     | none=>exact True.intro
     | some as =>
       refine fun x n o tmp fz₁ ρ h v hx ir H=>?_
       obtain ⟨hv,_⟩:=ir
       cases hv
       obtain ⟨vs,h1,h2⟩:=top_tuple o (ok.tup _ _ e) H
       exact ⟨_,vs,rfl,h1,h2⟩
theorem HS.ext {x:Cx} {ρ:List Addr} {σ:AS} {h h':Heap} (H:HS x ρ σ h) (he:Heap.ExtBut h.objs.size h h'):HS x ρ σ h' :=
 H.grow (tmp:=[]) (fun b o q=>he b o (Nat.ne_of_lt (Heap.lt_size q)) q) (fun p hp=>by cases hp)
noncomputable def AsgP (g:Gl) (sc:List (Str × NameKind)) (σ:AS) (t:Expr) (it:It) (σ':AS):Prop:=∀ x n,CxOk g x n→x.cv=none→x.scope.names=sc→∀ tmp fz₁ ρ s v (Q:Unit→Shared→Prop),x.fz=tmp++fz₁→ItR ρ it v tmp→HS x ρ σ s.heap→(∀ s',HS x ρ σ' s'.heap→Same s s'→Q () s')→wpAny (model g.prog g.w) x.A (assign t x.env v) Q EF s
theorem asg_s (ok:TabOk g T) {t:Expr} {it:It} {σ:AS}:OSat (asgA T sc t it σ) (AsgP g sc σ t it):=by
 cases t <;> first | exact True.intro | skip
 · rename_i nm p
   cases it with
   | many=>exact True.intro
   | one v =>
     refine (?_:OSat (stoA sc nm v σ) _)
     cases h:stoA sc nm v σ with
     | none=>exact True.intro
     | some σ'=>exact fun x n o hv hs tmp fz₁ ρ s v Q hx ir H hQ=>wpAny_assign_Name (store_s.use h x n o hv hs ρ s v Q H ir.1 hQ)
 · rename_i es k p
   unfold asgA
   dsimp only
   cases hn:namesOf es with
   | none=>exact True.intro
   | some xs =>
   cases hu:unpA T it σ.hp with
   | none=>exact True.intro
   | some as =>
   dsimp only
   cases hl:stoL sc xs as σ with
   | none=>exact True.intro
   | some σ' =>
     refine fun x n o hv hs tmp fz₁ ρ s v Q hx ir H hQ=>?_
     obtain ⟨Ta,vs,rfl,hT,hv'⟩:=(unp_s ok).use hu x n o tmp fz₁ ρ s.heap v hx ir H
     obtain ⟨hlen,he⟩:=(each_s hn).use hl
     obtain ⟨hl,hst⟩:=names_each (env:=x.env) hn
     exact wpAny_assign_Tuple o.hh hT (by rw [hl,hlen,hv'.len]; simp) hst fun h' hx'=>he x n o hv hs ρ _ vs Q hv' (H.ext hx') fun s' H' S'=>hQ s' H' (Same.of.trans S')
end
end
section
set_option maxHeartbeats 1000000
section
variable {g:Gl} {T:Tab} {n:Nat}
theorem CxOk.fzd {x:Cx} (o:CxOk g x n) (hcv:x.cv=none) (l:List (Addr × Obj)):CxOk g (x.fzd l) n :=
 ⟨o.B,o.X,o.T,o.kd,o.hh,o.ck,o.kn,o.clk,(fun c hc=>by rw [show (x.fzd l).cv=x.cv from rfl,hcv] at hc; cases hc),o.dp,o.un,o.EX⟩
theorem asg_tup {sc:List (Str × NameKind)} {t:Expr} {it:It} {σ σ₁:AS} (h:asgA T sc t it σ=some σ₁) (hm:∃ vs,it=.many vs):∃ es k p,t=.Tuple es k p:=by
 obtain ⟨vs,rfl⟩:=hm
 cases t <;> first | exact ceNS h | exact ⟨_,_,_,rfl⟩
noncomputable def ForT (g:Gl) (A:Around) (t:Expr) (it:Value) (b els:List Stmt) (env:Env) (R:Result→Shared→Prop):Nat→Shared→Prop
 | 0,_=>False
 | n + 1,s=>wpAny (model g.prog g.w) A (pyNext it) (fun r s₁=>match r with
     | none=>wpAny (model g.prog g.w) A (execs els env) (fun f s₃=>R (.ok f) s₃) EF s₁
     | some v=>wpAny (model g.prog g.w) A (letOwnedTupleGo t it v) (fun _ s₁'=>wpAny (model g.prog g.w) A (assign t env v) (fun _ s₂=>wpAny (model g.prog g.w) A (execs b env) (fun f s₃=>match f with
       | .next=>ForT g A t it b els env R n s₃
       | .cont=>ForT g A t it b els env R n s₃
       | .brk=>R (.ok .next) s₃
       | .ret v=>R (.ok (.ret v)) s₃) EF s₂) EF s₁') EF s₁) EF s
theorem forT_loop {A:Around} {t:Expr} {it:Value} {b els:List Stmt} {env:Env} {R:Result→Shared→Prop} {k:Nat} {s:Shared} (h:ForT g A t it b els env R k s):codeAny (model g.prog g.w) A (.forLoop t it b els env) R s:=by
 refine codeAny_forLoop_any (ForT g A t it b els env R) (fun n s h=>?_) k h
 cases n with
 | zero=>exact h.elim
 | succ n =>
   refine wpAny_mono h (fun r s₁ h₁=>?_) fun _ _ e=>e.elim
   cases r with
   | none=>exact wpAny_mono h₁ (fun _ _ q=>q) fun _ _ e=>e.elim
   | some v =>
     refine wpAny_mono h₁ (fun _ s₁' h₂=>wpAny_mono h₂ (fun _ s₂ h₃=>wpAny_mono h₃ (fun f s₃ h₄=>?_) fun _ _ e=>e.elim) fun _ _ e=>e.elim) fun _ _ e=>e.elim
     cases f with
     | next=>exact ⟨n,Nat.lt_succ_self _,h₄⟩
     | cont=>exact ⟨n,Nat.lt_succ_self _,h₄⟩
     | brk=>exact h₄
     | ret v=>exact h₄
noncomputable abbrev ForR (g:Gl) (x:Cx) (Q:Flow→Shared→Prop):Result→Shared→Prop:=fun r s'=>match r with
 | .ok f=>Q f s'
 | .error e=>cameBackBy (model g.prog g.w) x.A x.env EF e s'
noncomputable def ForP (g:Gl) (n:Nat) (sc:List (Str × NameKind)) (t:Expr) (src:Src) (b els:List Stmt) (k j:Nat) (σ:AS) (f:Fl) (σ':AS):Prop :=
 ∀ x,CxOk g x (n + 1)→x.cv=none→x.scope.names=sc→Sz σ'.ob→∀ I adr ρ₀ St,Wk g t src I adr ρ₀ St→(∀ p∈x.fz,p.1 ∉ adr)→∀ its ρ s (Q:Flow→Shared→Prop),ρ₀ <+: ρ→St j its→HS (x.fzd (its++x.fz)) ρ σ s.heap→Cnt FR x ρ s f σ' Q→ForT g x.A t (.ref I) b els x.env (ForR g x Q) k s
theorem forA_s (ok:TabOk g T) (hexs:ExsS g T n) {sc:List (Str × NameKind)} {t:Expr} {src:Src} {b els:List Stmt}:∀ (k j:Nat) (σ:AS),Sat σ.ob (forA (Mine.forTurn T sc t src) ((interp T n).exs sc b) ((interp T n).exs sc els) k j σ) (ForP g n sc t src b els k j σ):=by
 intro k
 induction k with
 | zero=>exact fun _ _=>True.intro
 | succ k ih =>
   intro j σ
   rw [forA_c]
   unfold Mine.forTurn
   cases hi:itemA src j σ.hp with
   | none=>exact True.intro
   | some o =>
   cases o with
   | none =>
     refine (hexs sc els σ).imp fun f σ' _ D x o hv hs z I adr ρ₀ St W hd its ρ s Q p₀ st H hQ=>?_
     refine wpAny_mono (W.done (x.fzd (its++x.fz)) ((o.fzd hv _).one) j its x.fz σ ρ s (fun s₃=>HS x ρ σ s₃.heap∧Same s s₃) EF p₀ rfl hd st H hi fun s₃ H₃ S₃=>⟨H₃,S₃⟩) (fun r s₃ h₃=>?_) fun _ _ e=>e
     obtain ⟨rfl,H₃,S₃⟩:=h₃
     exact D x o.less hv hs z ρ s₃ _ H₃ (hQ.after (List.prefix_refl _) S₃)
   | some im =>
   dsimp only
   cases ha:asgA T sc t im σ with
   | none=>exact True.intro
   | some σa =>
     have hob:=asgA_ob.use ha
     dsimp only
     rw [← hob]
     refine (hexs sc b σa).bind fun fl σb _ D=>?_
     have turn:∀ {f:Fl} {σ':AS},σb.ob <:+ σ'.ob→(∀ x,CxOk g x (n + 1)→x.cv=none→x.scope.names=sc→Sz σ'.ob→∀ I adr ρ₀ St,Wk g t src I adr ρ₀ St→(∀ p∈x.fz,p.1 ∉ adr)→∀ its ρ s (Q:Flow→Shared→Prop),ρ₀ <+: ρ→St (j + 1) its→HS (x.fzd (its++x.fz)) ρ σb s.heap→Cnt FR x ρ s f σ' Q→∀ f',FR ρ fl f'→match f' with
         | .next=>ForT g x.A t (.ref I) b els x.env (ForR g x Q) k s
         | .cont=>ForT g x.A t (.ref I) b els x.env (ForR g x Q) k s
         | .brk=>ForR g x Q (.ok .next) s
         | .ret v=>ForR g x Q (.ok (.ret v)) s)→ForP g n sc t src b els (k + 1) j σ f σ':=by
       intro f σ' m h x o hv hs z I adr ρ₀ St W hd its ρ s Q p₀ st H hQ
       refine wpAny_mono (W.item (x.fzd (its++x.fz)) ((o.fzd hv _).one) j its x.fz σ ρ s im
         (fun v s₃=>∃ its' tmp,ItR ρ im v tmp∧St (j + 1) its'∧HS (x.fzd (tmp++(its'++x.fz))) ρ σ s₃.heap∧Same s s₃) EF p₀ rfl hd st H hi (asg_tup ha) fun v its' tmp s₃ ir st' H₃ S₃ _=>⟨its',tmp,ir,st',H₃,S₃⟩) (fun r s₃ h₃=>?_) fun _ _ e=>e
       obtain ⟨v,e,h₃⟩:=h₃
       subst e
       refine wpAny_mono h₃ (fun _ s₄ h₄=>?_) fun _ _ e=>e
       obtain ⟨its',tmp,ir,st',H₄,S₄⟩:=h₄
       have o':=o.fzd hv (tmp++(its'++x.fz))
       refine (asg_s ok).use ha (x.fzd (tmp++(its'++x.fz))) _ o' hv hs tmp (its'++x.fz) ρ s₄ v _ rfl ir H₄ fun s₅ H₅ S₅=>?_
       refine D (x.fzd (tmp++(its'++x.fz))) o'.less hv hs (z.of m) ρ s₅ _ H₅ fun ρ₆ s₆ f' p₆ H₆ S₆ fr=>?_
       exact h x o hv hs z I adr ρ₀ St W hd its' ρ₆ s₆ Q (p₀.trans p₆) st' (H₆.drop fun p hp=>List.mem_append_right _ hp) (hQ.after p₆ ((S₄.trans S₅).trans S₆)) f' fr
     cases fl with
     | next=>exact (ih (j + 1) σb).imp fun f σ' m E=>turn m fun x o hv hs z I adr ρ₀ St W hd its ρ s Q p₀ st H hQ f' fr=>by cases fr; exact E x o hv hs z I adr ρ₀ St W hd its ρ s Q p₀ st H hQ
     | cont=>exact (ih (j + 1) σb).imp fun f σ' m E=>turn m fun x o hv hs z I adr ρ₀ St W hd its ρ s Q p₀ st H hQ f' fr=>by cases fr; exact E x o hv hs z I adr ρ₀ St W hd its ρ s Q p₀ st H hQ
     | brk=>exact Sat.ret (turn (sfx_refl _) fun x o hv hs z I adr ρ₀ St W hd its ρ s Q p₀ st H hQ f' fr=>by cases fr; exact hQ.now (H.drop fun p hp=>List.mem_append_right _ hp) Same.rfl rfl)
     | ret v=>exact Sat.ret (turn (sfx_refl _) fun x o hv hs z I adr ρ₀ St W hd its ρ s Q p₀ st H hQ f' fr=>by obtain ⟨v',rfl,vr⟩:=fr; exact hQ.now (H.drop fun p hp=>List.mem_append_right _ hp) Same.rfl ⟨v',rfl,vr⟩)
theorem for_s (ok:TabOk g T) (hev:EvS g T n) (hexs:ExsS g T n):ForS g T n:=by
 intro sc t it b els p σ
 refine (src_s ok hev).bind fun src σ₁ _ D₁=>(forA_s ok hexs _ _ _).imp fun f σ' m D₂ x o hv hs z ρ s Q H hQ=>?_
 have h:=D₁ x o.less ((Cx.scn_fn hv).trans hs) (z.of m) ρ s t (fun it s₂=>codeAny (model g.prog g.w) x.A (.forLoop t it b els x.env) (ForR g x Q) s₂) H fun ρ' s' I adr St its p₁ W st H₁ hd S₁=>forT_loop (D₂ x o hv hs z I adr ρ' St W hd its ρ' s' Q (List.prefix_refl _) st H₁ (hQ.after p₁ S₁))
 rw [Cx.cur_fn hv] at h
 exact wpAny_For h.2 h.1
end
end
section
set_option maxHeartbeats 1000000
theorem nodupS_iff:∀ {l:List Str},nodupS l=true→l.Nodup
 | [],_=>List.nodup_nil
 | a::r,h=>by
   rw [nodupS_c] at h
   obtain ⟨h1,h2⟩:=Bool.and_eq_true_iff.mp h
   refine List.nodup_cons.mpr ⟨fun q=>?_,nodupS_iff h2⟩
   have:=List.all_eq_true.mp h1 a q
   rw [(sq_iff a a).mpr rfl] at this
   cases this
noncomputable def closL (cells:List (Str × Addr)):List (Str × NameKind)→List (Str × Addr)→List (Str × Addr)
 | [],acc=>acc
 | (n,k)::r,acc=>match k with
   | .free=>closL cells r ((n,(cells.lookup n).getD 0)::acc)
   | _=>closL cells r acc
theorem clos_go {env:Env}:∀ (names:List (Str × NameKind)) (acc:List (Str × Addr)),(∀ p∈names,p.2=.free→(env.cells.lookup p.1).isSome=true) →
   (forIn names acc (fun x r=>if (x.2==NameKind.free)=true then do let c ← cellOf env x.1; pure (ForInStep.yield ((x.1,c)::r)) else pure (ForInStep.yield r)):Sem (List (Str × Addr)))=pure (closL env.cells names acc)
 | [],acc,_=>rfl
 | (n,k)::r,acc,h=>by
   rw [List.forIn_cons]
   have ih:=fun acc'=>clos_go r acc' fun p hp=>h p (.tail _ hp)
   cases k with
   | free =>
     obtain ⟨c,hc⟩:=Option.isSome_iff_exists.mp (h (n,.free) (.head _) rfl)
     have hc:env.cells.lookup n=some c:=hc
     have e:cellOf env n=pure c:=by unfold cellOf; rw [hc]
     have ec:closL env.cells ((n,.free)::r) acc=closL env.cells r ((n,(env.cells.lookup n).getD 0)::acc):=rfl
     simp only [beq_self_eq_true,if_true,e,ec,hc,Option.getD_some]
     exact ih _
   | _=>exact ih _
theorem closureFor_is {scope:Scope} {env:Env} (h:∀ p∈scope.names,p.2=.free→(env.cells.lookup p.1).isSome=true):closureFor scope env=pure (closL env.cells scope.names []):=by
 simp only [closureFor]
 have:=clos_go scope.names [] h
 rw [this]
 rfl
theorem lookup_self {α:Type} {y:Str} {v:α} {l:List (Str × α)}:((y,v)::l).lookup y=some v:=by rw [List.lookup_cons,beq_self_eq_true]
theorem closL_lookup {cells:List (Str × Addr)} {y:Str}:∀ (names:List (Str × NameKind)) (acc:List (Str × Addr)),(names.map (·.1)).Nodup→(∀ p∈names,p.1=y→acc.lookup y=none) →
   (closL cells names acc).lookup y=match names.lookup y with | some .free=>some ((cells.lookup y).getD 0) | _=>acc.lookup y
 | [],acc,_,_=>rfl
 | (n,k)::r,acc,nd,ha=>by
   rw [List.map_cons,List.nodup_cons] at nd
   rw [List.lookup_cons]
   have other:y ≠ n→∀ acc':List (Str × Addr),acc'.lookup y=acc.lookup y→(closL cells r acc').lookup y=match r.lookup y with | some .free=>some ((cells.lookup y).getD 0) | _=>acc.lookup y:=by
     intro hy acc' he
     rw [closL_lookup r acc' nd.2 fun p hp q=>he.trans (ha p (.tail _ hp) q),he]
   by_cases hy:y=n
   · subst hy
     have hno:r.lookup y=none:=by
       cases q:r.lookup y with
       | none=>rfl
       | some k'=>exact absurd (List.mem_map_of_mem (f:=(·.1)) (lookup_mem q)) nd.1
     have off:∀ (acc':List (Str × Addr)),∀ p∈r,p.1=y→acc'.lookup y=none:=fun acc' p hp q=>absurd (by rw [← q]; exact List.mem_map_of_mem (f:=(·.1)) hp) nd.1
     rw [beq_self_eq_true]
     cases k with
     | free =>
       show (closL cells r ((y,_)::acc)).lookup y=_
       rw [closL_lookup r _ nd.2 (off _),hno]
       exact lookup_self
     | _ =>
       show (closL cells r acc).lookup y=_
       rw [closL_lookup r _ nd.2 (off _),hno]
   · have hb:(y==n)=false:=by simpa using hy
     rw [hb]
     cases k with
     | free=>exact other hy _ (by rw [List.lookup_cons,hb])
     | _=>exact other hy _ rfl
theorem lookup_map_kind {f:NameKind→NameKind} {y:Str}:∀ (l:List (Str × NameKind)),(l.map fun p=>(p.1,f p.2)).lookup y=(l.lookup y).map f
 | []=>rfl
 | (n,k)::r=>by
   rw [List.map_cons,List.lookup_cons,List.lookup_cons]
   cases y==n with
   | true=>rfl
   | false=>exact lookup_map_kind r
noncomputable def unfree:NameKind→NameKind
 | .free=>.cell
 | k=>k
theorem compScn_eq (l:List (Str × NameKind)):compScn l=l.map fun p=>(p.1,unfree p.2):=by
 unfold compScn
 refine List.map_congr_left fun p _=>?_
 obtain ⟨n,k⟩:=p
 cases k <;> rfl
theorem relabel_is {scope:Scope} {env:Env} (hk:env.scope.kind=.function) (h:∀ p∈scope.names,p.2=.free→env.kindOf p.1=some .cell):(relabel scope env).names=compScn scope.names:=by
 unfold relabel compScn
 refine List.map_congr_left fun p hp=>?_
 obtain ⟨n,k⟩:=p
 cases k with
 | free =>
   have:=h (n,.free) hp rfl
   have this:env.kindOf n=some .cell:=this
   simp [hk,this]
 | _=>rfl
structure CompFacts (outer:List (Str × NameKind)) (scope:Scope) (t:Expr):Prop where
 dot:look nmDot outer=.none
 dotIn:∃ k,look nmDot scope.names=some k
 kinds:∀ p∈scope.names,p.2=.local ∨ p.2=.globalImplicit ∨ (p.2=.free∧look p.1 outer=some .cell)
 nd:(scope.names.map (·.1)).Nodup
 kind:scope.kind=.function
 tgt:(∃ x p,t=.Name x p∧look x scope.names=some .local) ∨ (∃ es k p xs,t=.Tuple es k p∧namesOf es=some xs∧xs.Nodup∧∀ x∈xs,look x scope.names=some .local)
theorem isLoc_iff {sc:List (Str × NameKind)} {x:Str} (h:isLoc sc x=true):look x sc=some .local:=by
 unfold isLoc at h
 revert h
 cases look x sc with
 | none=>exact fun h=>ceFT h
 | some k=>cases k <;> first | exact fun _=>rfl | exact fun h=>ceFT h
theorem compFacts_of {outer:List (Str × NameKind)} {scope:Scope} {t:Expr} (h:(compOk outer scope.names t&&kindFn scope)=true):CompFacts outer scope t:=by
 obtain ⟨h,hk⟩:=Bool.and_eq_true_iff.mp h
 unfold compOk at h
 revert h
 cases h1:look nmDot outer with
 | some=>exact fun h=>ceFT h
 | none =>
 cases h2:look nmDot scope.names with
 | none=>exact fun h=>ceFT h
 | some kd =>
 intro h
 obtain ⟨h,h5⟩:=Bool.and_eq_true_iff.mp h
 obtain ⟨h3,h4⟩:=Bool.and_eq_true_iff.mp h
 clear h
 refine ⟨h1,⟨_,h2⟩,fun p hp=>?_,nodupS_iff h4,?_,?_⟩
 · have:=List.all_eq_true.mp h3 p hp
   obtain ⟨n,k⟩:=p
   cases k <;> first | exact .inl rfl | exact .inr (.inl rfl) | exact ceFT this | skip
   refine .inr (.inr ⟨rfl,?_⟩)
   dsimp only at this ⊢
   revert this
   cases look n outer with
   | none=>exact fun h=>ceFT h
   | some k=>cases k <;> first | exact fun _=>rfl | exact fun h=>ceFT h
 · unfold kindFn at hk
   revert hk
   cases scope.kind <;> first | exact fun _=>rfl | exact fun h=>ceFT h
 · cases t with
   | Name x q=>exact .inl ⟨_,_,rfl,isLoc_iff h5⟩
   | Tuple es k q =>
     dsimp only at h5
     revert h5
     cases e:namesOf es with
     | none=>exact fun h=>ceFT h
     | some xs =>
       intro h5
       obtain ⟨a,b⟩:=Bool.and_eq_true_iff.mp h5
       exact .inr ⟨_,_,_,xs,rfl,e,nodupS_iff a,fun x hx=>isLoc_iff (List.all_eq_true.mp b x hx)⟩
   | _=>exact ceFT h5
end
section
set_option maxHeartbeats 1000000
section
variable {g:Gl} {T:Tab} {n:Nat} {sc:List (Str × NameKind)}
noncomputable def tstS (ifs:List Expr) (env:Env):Sem Bool:=forIn ifs true fun c r=>if r=true then do let ok ← isTrue c env (eval c env); pure (ForInStep.yield ok) else pure (ForInStep.yield r)
noncomputable def CompT (g:Gl) (A:Around) (elt t:Expr) (ifs:List Expr) (it acc:Value) (env:Env) (R:Result→Shared→Prop):Nat→Shared→Prop
 | 0,_=>False
 | n + 1,s=>wpAny (model g.prog g.w) A (pyNext it) (fun r s₁=>match r with
     | none=>R (.ok .next) s₁
     | some v=>wpAny (model g.prog g.w) A (letOwnedTupleGo t it v) (fun _ s₁'=>wpAny (model g.prog g.w) A (assign t env v) (fun _ s₂=>wpAny (model g.prog g.w) A (tstS ifs env) (fun ok s₃=>match ok with
       | true=>wpAny (model g.prog g.w) A (eval elt env) (fun x s₄=>wpAny (model g.prog g.w) A (call (.builtin "list.append") [acc,x]) (fun _ s₅=>CompT g A elt t ifs it acc env R n s₅) EF s₄) EF s₃
       | false=>CompT g A elt t ifs it acc env R n s₃) EF s₂) EF s₁') EF s₁) EF s
theorem compT_loop {A:Around} {elt t iter:Expr} {ifs:List Expr} {sc:Scope} {pos:Pos} {it acc:Value} {env:Env} {R:Result→Shared→Prop} {k:Nat} {s:Shared} (h:CompT g A elt t ifs it acc env R k s):codeAny (model g.prog g.w) A (.compLoop (.ListComp elt [⟨t,iter,ifs,0⟩] sc pos) 0 it acc env) R s:=by
 refine codeAny_loop rfl (CompT g A elt t ifs it acc env R) (fun n s h=>?_) k h
 cases n with
 | zero=>exact h.elim
 | succ n =>
 show wpAny _ A ((PySem.compTurn (.ListComp elt [⟨t,iter,ifs,0⟩] sc pos) 0 it acc env).onRaise (fun x=>do noteFrame x env; theTreesLotGoes x)) _ _ s
 refine wpAny_noted ?_
 rw [compTurn_list]
 refine wpAny_bind (wpAny_standAt (wpAny_bind (wpAny_mono h (fun r s₁ h₁=>?_) fun _ _ h'=>h'.elim)))
 cases r with
 | none=>exact wpAny_pure h₁
 | some v =>
   refine wpAny_bind (wpAny_mono h₁ (fun _ s₁' h₁'=>?_) fun _ _ h'=>h'.elim)
   refine wpAny_bind (wpAny_mono h₁' (fun _ s₂ h₂=>wpAny_bind (wpAny_mono h₂ (fun ok s₃ h₃=>?_) fun _ _ h'=>h'.elim)) fun _ _ h'=>h'.elim)
   cases ok with
   | false=>exact wpAny_pure ⟨rfl,n,Nat.lt_succ_self _,h₃⟩
   | true =>
     exact wpAny_bind (wpAny_bind (wpAny_mono h₃ (fun x s₄ h₄=>wpAny_bind (wpAny_mono h₄ (fun _ s₅ h₅=>wpAny_pure (wpAny_pure ⟨rfl,n,Nat.lt_succ_self _,h₅⟩)) fun _ _ h'=>h'.elim)) fun _ _ h'=>h'.elim))
noncomputable def TstP (g:Gl) (n:Nat) (sc:List (Str × NameKind)) (σ:AS) (ifs:List Expr) (b:Bool) (σ':AS):Prop:=∀ x,CxOk g x n→x.scn=sc→RunB g x σ (tstS ifs x.cur) b σ'
theorem tst_no {M:Model} {A:Around} {env:Env} {E:Value→Shared→Prop} {Q:Bool→Shared→Prop} {s:Shared} (hq:Q false s):∀ l:List Expr,wpAny M A (forIn l false fun c r=>if r=true then do let ok ← isTrue c env (eval c env); pure (ForInStep.yield ok) else pure (ForInStep.yield r)) Q E s:=by
 intro l
 induction l with
 | nil=>exact wpAny_pure hq
 | cons a l ih=>rw [List.forIn_cons]; exact wpAny_bind (wpAny_pure ih)
theorem tests_s (htr:TrS g T n):∀ (ifs:List Expr) (σ:AS),Sat σ.ob (allA ((interp T n).tr sc) ifs σ) (TstP g n sc σ ifs):=by
 intro ifs
 induction ifs with
 | nil=>exact fun σ=>Sat.ret fun x o hs z ρ s Q H hQ=>wpAny_pure (hQ ρ s (List.prefix_refl _) H Same.rfl)
 | cons e r ih =>
   refine fun σ=>(htr sc e σ).bind fun c σ₁ _ D₁=>?_
   have turn:∀ {b:Bool} {σ':AS},σ₁.ob <:+ σ'.ob→(∀ x,CxOk g x n→x.scn=sc→Sz σ'.ob→∀ ρ s (Q:Bool→Shared→Prop),HS x ρ σ₁ s.heap→(∀ ρ' s',ρ <+: ρ'→HS x ρ' σ' s'.heap→Same s s'→Q b s') →
       wpAny (model g.prog g.w) x.A (forIn r c fun c r=>if r=true then do let ok ← isTrue c x.cur (eval c x.cur); pure (ForInStep.yield ok) else pure (ForInStep.yield r)) Q EF s)→TstP g n sc σ (e::r) b σ':=fun m h x o hs z ρ s Q H hQ=>by
     unfold tstS
     rw [List.forIn_cons,if_pos rfl]
     exact wpAny_bind (wpAny_bind (D₁ x o hs (z.of m) ρ s _ H fun ρ₁ s₁ p₁ H₁ S₁=>wpAny_pure (h x o hs z ρ₁ s₁ Q H₁ fun ρ₂ s₂ p₂ H₂ S₂=>hQ ρ₂ s₂ (p₁.trans p₂) H₂ (S₁.trans S₂))))
   cases c with
   | false=>exact Sat.ret (turn (sfx_refl _) fun x o hs z ρ s Q H hQ=>tst_no (hQ ρ s (List.prefix_refl _) H Same.rfl) r)
   | true=>exact (ih σ₁).imp fun b σ' m D=>turn m D
end
end
section
open PySem PySem.W PySem.Spec PySem.Calls PyProof.Rows PyProof.Rows.LCg
set_option maxHeartbeats 1000000
section
variable {g:Gl} {T:Tab} {n:Nat}
theorem HS.swap1 {x:Cx} {ρ:List Addr} {σ:AS} {h h':Heap} {pre post:List (Addr × Obj)} {a:Addr} {ob ob':Obj} (H:HS (x.fzd (pre++(a,ob)::post)) ρ σ h) (hne:∀ p∈pre++post,p.1 ≠ a) (hs:Heap.SameBut a h h') (ho:h'.get? a=some ob') :
   HS (x.fzd (pre++(a,ob')::post)) ρ σ h':=by
 have H1:HS (x.fzd ([(a,ob)]++(pre++post))) ρ σ h:=H.drop fun p hp=>by
   show p∈pre++(a,ob)::post
   simp at hp ⊢
   rcases hp with rfl | hp | hp <;> simp_all
 have H2:=H1.turn (h':=h') (its':=[(a,ob')]) (tmp:=[]) (adr:=[a]) rfl (fun p hp=>by simpa using hne p hp) rfl (fun b o hb e=>(hs.2 b (by simpa using hb)).trans e) (fun p hp=>by simp at hp; subst hp; exact ⟨by simp,ho⟩) (fun p hp=>by cases hp)
 exact H2.drop fun p hp=>by
   show p∈[]++([(a,ob')]++(pre++post))
   have hp:p∈pre++(a,ob')::post:=hp
   simp at hp ⊢
   rcases hp with hp | rfl | hp <;> simp_all
noncomputable abbrev Cx.inC (x:Cx) (csc:Scope) (C:Addr) (mC m:Str→Option Value) (l:List (Addr × Obj)):Cx:={ x with cv:=some ⟨csc,closL x.cl csc.names [],C,mC,m⟩,fz:=l }
theorem comp_free {x:Cx} (o:CxOk g x n) (hcv:x.cv=none) {csc:Scope} {t:Expr} (FC:CompFacts x.scope.names csc t) {p:Str × NameKind} (hp:p∈csc.names) (hf:p.2=.free):(∃ c,x.cl.lookup p.1=some c)∧x.env.kindOf p.1=some .cell:=by
 have hk:look p.1 x.scope.names=some .cell:=by
   rcases FC.kinds p hp with q | q | q
   · rw [q] at hf; cases hf
   · rw [q] at hf; cases hf
   · exact q.2
 have h1:=(o.clk p.1).mpr (by rw [Cx.scn_fn hcv]; exact hk)
 have hccl:x.ccl=x.cl:=by unfold Cx.ccl; rw [hcv]
 rw [hccl] at h1
 refine ⟨Option.isSome_iff_exists.mp h1,?_⟩
 have h2:=o.kn p.1
 rw [Cx.cur_fn hcv,Cx.scn_fn hcv,← look_lookup,hk] at h2
 exact h2
theorem CxOk.inC {x:Cx} (o:CxOk g x (n + 1)) (hcv:x.cv=none) {csc:Scope} {t:Expr} (FC:CompFacts x.scope.names csc t) {C:Addr} {oC:Obj} {mC m:Str→Option Value} {l:List (Addr × Obj)} (hm:(C,oC)∈l) (hn:NsObj oC mC):CxOk g (x.inC csc C mC m l) n:=by
 have rel:=relabel_is (scope:=csc) (env:=x.env) o.kd fun p hp hf=>(comp_free o hcv FC hp hf).2
 refine ⟨o.B,o.X,o.T,o.kd,o.hh,FC.kind,fun y=>?_,fun y=>?_,fun c hc=>?_,o.less.dp,o.less.un,o.EX⟩
 · show (relabel csc x.env).names.lookup y=(compScn csc.names).lookup y
   rw [rel]
 · show ((closL x.cl csc.names []).lookup y).isSome=true ↔ look y (compScn csc.names)=some .cell
   rw [closL_lookup _ _ FC.nd fun _ _ _=>rfl,look_lookup,compScn_eq,lookup_map_kind]
   cases hl:csc.names.lookup y with
   | none=>simp
   | some k =>
     rcases FC.kinds _ (lookup_mem hl) with q | q | q
     · have q:k=.local:=q; subst q; simp [unfree]
     · have q:k=.globalImplicit:=q; subst q; simp [unfree]
     · have q:k=.free:=q.1; subst q; simp [unfree]
 · cases hc
   refine ⟨⟨oC,hm,hn⟩,?_⟩
   obtain ⟨k,hk⟩:=FC.dotIn
   refine ⟨unfree k,?_⟩
   show look nmDot (compScn csc.names)=_
   rw [look_lookup,compScn_eq,lookup_map_kind,← look_lookup,hk]
   rfl
theorem casg_s {x:Cx} (o:CxOk g x (n + 1)) {csc:Scope} {t:Expr} (FC:CompFacts x.scope.names csc t) {it:It} {vars:List (Str × AV)} (hv:compVars t it=some vars) {C:Addr} {pre post tmp:List (Addr × Obj)} {fz₁:Obj→List (Addr × Obj)} {oC:Obj} {mC:Str→Option Value} {ρ:List Addr} {σ:AS} {s:Shared} {v:Value}
   (hfz:∀ ob,pre++(C,ob)::post=tmp++fz₁ ob) (hne:∀ p∈pre++post,p.1 ≠ C) (ir:ItR ρ it v tmp) (hn:NsObj oC mC) (H:HS (x.fzd (pre++(C,oC)::post)) ρ σ s.heap) {Q:Unit→Shared→Prop} {cl:List (Str × Addr)}
   (hQ:∀ oC' mC' s',NsObj oC' mC'→HS (x.fzd (pre++(C,oC')::post)) ρ σ s'.heap→Same s s'→(∀ y a,look y vars=some a→∃ v',mC' y=some v'∧VR ρ a v')→Q () s') :
   wpAny (model g.prog g.w) x.A (assign t (compEnvC csc cl C x.env) v) Q EF s:=by
 have one:∀ (nm:Str) (a:AV) (v:Value) (oC:Obj) (mC:Str→Option Value) (s':Shared) (Q:Unit→Shared→Prop),look nm csc.names=some .local→VR ρ a v→NsObj oC mC→HS (x.fzd (pre++(C,oC)::post)) ρ σ s'.heap→Same s s' →
     (∀ oC' s'',NsObj oC' (fun z=>if z=nm then some v else mC z)→HS (x.fzd (pre++(C,oC')::post)) ρ σ s''.heap→Same s s''→Q () s'')→wpAny (model g.prog g.w) x.A (storeName (compEnvC csc cl C x.env) nm v) Q EF s':=by
   intro nm a v oC mC s' Q hl va hn H S hQ
   rw [look_lookup] at hl
   have hC:s'.heap.get? C=some oC:=H.frz (p:=(C,oC)) (by show _∈pre++(C,oC)::post; simp)
   refine wpAny_storeName_local (lookup_relabel_local hl) (hn.ns hC) (fun h₃ hn₃ hs₃=>?_) (by simp [compEnvC,relabel,FC.kind])
   obtain ⟨oC',e1,e2⟩:=ns_obj hn₃
   exact hQ oC' _ e2 (H.swap1 hne hs₃ e1) (S.trans Same.of)
 rcases FC.tgt with ⟨nm,p,rfl,hl⟩ | ⟨es,k,p,xs,rfl,hns,hnd,hloc⟩
 · unfold compVars at hv
   dsimp only at hv
   split at hv
   · rename_i a
     cases hv
     refine wpAny_assign_Name (one nm a v oC mC s _ hl ir.1 hn H Same.rfl fun oC' s' hn' H' S'=>hQ oC' _ s' hn' H' S' fun y b hy=>?_)
     rw [look_c] at hy
     cases hs:sq nm y with
     | true =>
       rw [hs] at hy
       cases hy
       have:=(sq_iff _ _).mp hs
       subst this
       exact ⟨v,by simp,ir.1⟩
     | false=>rw [hs] at hy; cases hy
   · cases hv
 · unfold compVars at hv
   dsimp only at hv
   rw [hns] at hv
   cases it with
   | one a=>cases hv
   | many as =>
     obtain ⟨Ta,ws,kk,rfl,rfl,hws⟩:=ir
     have hv:zipP xs as=some vars:=hv
     have hT:s.heap.get? Ta=some (tupO ws kk):=H.frz (p:=(Ta,tupO ws kk)) (by show _∈pre++(C,oC)::post; rw [hfz]; exact .head _)
     obtain ⟨hlen,hst⟩:=names_each (env:=compEnvC csc cl C x.env) hns
     obtain ⟨hl2,_⟩:=zipP_look hv hws
     refine wpAny_assign_Tuple o.hh (t:=Ta) (items:=ws.toArray) ⟨_,hT,rfl,kk,rfl⟩ (by rw [hlen,hl2]; simp) hst fun h' he=>?_
     have go:∀ (es:List Expr) (xs:List Str) (as:List AV) (ws:List Value) (vars:List (Str × AV)) (oC:Obj) (mC:Str→Option Value) (s':Shared),namesOf es=some xs→xs.Nodup→(∀ x∈xs,look x csc.names=some .local)→zipP xs as=some vars→VRs ρ as ws →
         NsObj oC mC→HS (x.fzd (pre++(C,oC)::post)) ρ σ s'.heap→Same s s' →
         (∀ oC' mC' s',NsObj oC' mC'→HS (x.fzd (pre++(C,oC')::post)) ρ σ s'.heap→Same s s'→(∀ y,y ∉ xs→mC' y=mC y)→(∀ y a,look y vars=some a→∃ v',mC' y=some v'∧VR ρ a v')→Q () s') →
         wpAny (model g.prog g.w) x.A (assignInOrder ((assignEach es (compEnvC csc cl C x.env)).map (·.2)) ws) Q EF s':=by
       intro es
       induction es with
       | nil =>
         intro xs as ws vars oC mC s' h1 _ _ h3 h4 hn H S hQ
         cases h1
         cases as with
         | nil=>cases h3; cases h4; exact wpAny_pure (hQ oC mC s' hn H S (fun _ _=>rfl) fun y a e=>by cases e)
         | cons=>cases h3
       | cons e r ih =>
         intro xs as ws vars oC mC s' h1 nd hloc h3 h4 hn H S hQ
         cases e <;> first | (cases h1; done) | skip
         rename_i nm pos
         rw [namesOf_c] at h1
         obtain ⟨ys,hy,rfl⟩:=Option.map_eq_some_iff.mp h1
         cases h4 with
         | nil=>cases h3
         | @cons a v as' ws' hva hvs =>
           rw [zipP_c] at h3
           obtain ⟨vr,hvr,rfl⟩:=Option.map_eq_some_iff.mp h3
           rw [List.nodup_cons] at nd
           show wpAny _ _ (assignInOrder (assign (.Name nm pos) (compEnvC csc cl C x.env)::(assignEach r (compEnvC csc cl C x.env)).map (·.2)) (v::ws')) Q EF s'
           refine assignInOrder_cons (wpAny_assign_Name (one nm a v oC mC s' _ (hloc nm (.head _)) hva hn H S fun oC₁ s₁ hn₁ H₁ S₁=>?_))
           refine ih ys as' ws' vr oC₁ _ s₁ hy nd.2 (fun x hx=>hloc x (.tail _ hx)) hvr hvs hn₁ H₁ S₁ fun oC₂ mC₂ s₂ hn₂ H₂ S₂ hk hl=>hQ oC₂ mC₂ s₂ hn₂ H₂ S₂ (fun y hy=>?_) fun y b hb=>?_
           · rw [List.mem_cons,not_or] at hy
             rw [hk y hy.2,if_neg hy.1]
           · rw [look_c] at hb
             cases hs:sq nm y with
             | true =>
               simp only [hs] at hb
               cases hb
               have:=(sq_iff _ _).mp hs
               subst this
               exact ⟨v,by rw [hk _ nd.1,if_pos rfl],hva⟩
             | false=>simp only [hs] at hb; exact hl y b hb
     exact go es xs as ws vars oC mC _ hns hnd hloc hv hws hn (H.ext he) Same.of fun oC' mC' s' a b c _ d=>hQ oC' mC' s' a b c d
end
end
section
open PySem PySem.W PySem.Spec PySem.Calls PyProof.Rows PyProof.Rows.LCg
set_option maxHeartbeats 2000000
section
variable {g:Gl} {T:Tab} {n:Nat}
theorem cvar_tup {t:Expr} {it:It} {vars:List (Str × AV)} (h:compVars t it=some vars) (hm:∃ vs,it=.many vs):∃ es k p,t=.Tuple es k p:=by
 obtain ⟨vs,rfl⟩:=hm
 cases t <;> first | exact ceNS h | exact ⟨_,_,_,rfl⟩
theorem look_cons {α:Type} {y:Str} {p:Str × α} {r:List (Str × α)}:look y (p::r)=match sq p.1 y with | true=>some p.2 | false=>look y r:=rfl
theorem cellLo_look {csc:List (Str × NameKind)} {y:Str} {a:AV}:∀ {lo:List (Str × AV)},look y (cellLo csc lo)=some a→look y csc=some .cell∧look y lo=some a
 | [],h=>by cases h
 | p::r,h=>by
   rw [cellLo_c] at h
   split at h
   · rename_i hc
     rw [look_cons] at h
     rw [look_cons]
     cases hs:sq p.1 y with
     | true =>
       simp only [hs] at h
       have:=(sq_iff _ _).mp hs
       subst this
       exact ⟨hc,h⟩
     | false=>simp only [hs] at h; exact cellLo_look h
   · rename_i hc
     obtain ⟨h1,h2⟩:=cellLo_look h
     rw [look_cons]
     cases hs:sq p.1 y with
     | true =>
       have:=(sq_iff _ _).mp hs
       subst this
       exact absurd h1 hc
     | false=>exact ⟨h1,h2⟩
theorem zipP_mem {y:Str} {a:AV}:∀ {xs:List Str} {as:List AV} {vars:List (Str × AV)},zipP xs as=some vars→look y vars=some a→y∈xs:=by
 intro xs as vars h e
 rw [← zipP_names h]
 rw [look_lookup] at e
 exact List.mem_map_of_mem (f:=(·.1)) (lookup_mem e)
theorem cvar_loc {outer:List (Str × NameKind)} {csc:Scope} {t:Expr} (FC:CompFacts outer csc t) {it:It} {vars:List (Str × AV)} (hv:compVars t it=some vars) {y:Str} {a:AV} (h:look y vars=some a):csc.names.lookup y=some .local:=by
 rw [← look_lookup]
 rcases FC.tgt with ⟨nm,p,rfl,hl⟩ | ⟨es,k,p,xs,rfl,hns,hnd,hloc⟩
 · unfold compVars at hv
   dsimp only at hv
   split at hv
   · cases hv
     rw [look_cons] at h
     cases hs:sq nm y with
     | true=>rw [← (sq_iff _ _).mp hs]; exact hl
     | false=>simp only [hs] at h; cases h
   · cases hv
 · unfold compVars at hv
   dsimp only at hv
   rw [hns] at hv
   cases it with
   | one a=>cases hv
   | many as=>exact hloc y (zipP_mem hv h)
structure CSet (g:Gl) (n:Nat) (x:Cx) (csc:Scope) (t:Expr) (src:Src) (I:Addr) (adr ρ₀:List Addr) (St:Nat→List (Addr × Obj)→Prop) (C D:Addr):Prop where
 o:CxOk g x (n + 1)
 hv:x.cv=none
 FC:CompFacts x.scope.names csc t
 W:Wk g t src I adr ρ₀ St
 hd:∀ p∈x.fz,p.1 ∉ adr
 fz:∀ p∈x.fz,p.1 ≠ C∧p.1 ≠ D
 ad:∀ a∈adr,a ≠ C∧a ≠ D
 ne:D ≠ C
section
variable {x:Cx} {csc:Scope} {t elt:Expr} {ifs:List Expr} {src:Src} {I:Addr} {adr ρ₀:List Addr} {St:Nat→List (Addr × Obj)→Prop} {C D:Addr}
theorem CSet.hd' (S:CSet g n x csc t src I adr ρ₀ St C D) {oC oD:Obj}:∀ p∈(C,oC)::(D,oD)::x.fz,p.1 ∉ adr:=by
 intro p hp q
 rcases List.mem_cons.mp hp with rfl | hp
 · exact (S.ad _ q).1 rfl
 · rcases List.mem_cons.mp hp with rfl | hp
   · exact (S.ad _ q).2 rfl
   · exact S.hd p hp q
theorem CSet.its (S:CSet g n x csc t src I adr ρ₀ St C D) {j:Nat} {its:List (Addr × Obj)} (st:St j its):∀ p∈its,p.1 ≠ C∧p.1 ≠ D:=fun p hp=>S.ad _ (by rw [← S.W.ad j its st]; exact List.mem_map_of_mem (f:=(·.1)) hp)
theorem CSet.inn (S:CSet g n x csc t src I adr ρ₀ St C D) {it:It} {vars lo₀:List (Str × AV)} (hv:compVars t it=some vars) {oC:Obj} {mC:Str→Option Value} {fzl:List (Addr × Obj)} (hn:NsObj oC mC) (hm:(C,oC)∈fzl) {ρ:List Addr} {σ:AS} {h:Heap}
   (H:HS (x.fzd fzl) ρ { σ with lo:=lo₀ } h) (hvars:∀ y a,look y vars=some a→∃ v',mC y=some v'∧VR ρ a v') {P:Prop}
   (k:∀ m,CxOk g (x.inC csc C mC m fzl) n→HS (x.inC csc C mC m fzl) ρ { σ with lo:=vars++cellLo (compScn csc.names) lo₀ } h→(∀ ρ₆ σ₆ h₆,ρ <+: ρ₆→HS (x.inC csc C mC m fzl) ρ₆ σ₆ h₆→HS (x.fzd fzl) ρ₆ { σ₆ with lo:=lo₀ } h₆)→P):P:=by
 obtain ⟨m,os,F,HP,lr⟩:=H
 have hfm:x.fm m=m:=by unfold Cx.fm; rw [S.hv]
 have F:Fr x.h₀ x.L h m:=hfm ▸ F
 refine k m (S.o.inC S.hv S.FC (oC:=oC) hm hn) ⟨m,os,F,HP,fun y a hy=>?_⟩ fun ρ₆ σ₆ h₆ p₆ H₆=>?_
 · have hvm:(x.inC csc C mC m fzl).vm m y=match (closL x.cl csc.names []).lookup y with | some a=>some (Value.ref a) | none=>mC y:=rfl
   rw [hvm,closL_lookup _ _ S.FC.nd fun _ _ _=>rfl]
   have hy:look y (vars++cellLo (compScn csc.names) lo₀)=some a:=hy
   rw [look_app] at hy
   cases hl:look y vars with
   | some b =>
     rw [hl] at hy
     obtain ⟨v',h1,h2⟩:=hvars y b hl
     cases hy
     rw [cvar_loc S.FC hv hl]
     exact ⟨v',h1,h2⟩
   | none =>
     rw [hl] at hy
     obtain ⟨h1,h2⟩:=cellLo_look hy
     rw [look_lookup,compScn_eq,lookup_map_kind] at h1
     cases hk:csc.names.lookup y with
     | none=>rw [hk] at h1; cases h1
     | some kd =>
       have hfree:kd=.free:=by
         rcases S.FC.kinds _ (lookup_mem hk) with q | q | q
         · have q:kd=.local:=q; subst q; rw [hk] at h1; cases h1
         · have q:kd=.globalImplicit:=q; subst q; rw [hk] at h1; cases h1
         · exact q.1
       subst hfree
       obtain ⟨⟨c,hcl⟩,_⟩:=comp_free S.o S.hv S.FC (lookup_mem hk) rfl
       have hcl:x.cl.lookup y=some c:=hcl
       obtain ⟨v',e1,e2⟩:=lr y a h2
       refine ⟨v',?_,e2⟩
       have e1:x.vm m y=some v':=e1
       unfold Cx.vm Cx.ccl at e1
       rw [S.hv] at e1
       dsimp only at e1
       rw [hcl] at e1
       simp only [hcl,Option.getD_some]
       exact e1
 · obtain ⟨m₂,os₂,F₂,HP₂,_⟩:=H₆
   have F₂:Fr x.h₀ x.L h₆ m:=F₂
   exact ⟨m,os₂,by rw [show (x.fzd fzl).fm m=x.fm m from rfl,hfm]; exact F₂,HP₂,lr.mono p₆⟩
end
noncomputable def LcP (g:Gl) (n:Nat) (csc:Scope) (t elt:Expr) (ifs:List Expr) (src:Src) (lo₀:List (Str × AV)) (k j:Nat) (acc:List AV) (σ:AS) (vs:List AV) (σ':AS):Prop:=acc.length≤vs.length ∧
 ∀ x I adr ρ₀ St C D,CSet g n x csc t src I adr ρ₀ St C D→Sz σ'.ob→vs.length≤sizeLine→∀ its ρ s ys oC mC (R:Result→Shared→Prop),ρ₀ <+: ρ→St j its→NsObj oC mC→HS (x.fzd (its++((C,oC)::(D,lst ys)::x.fz))) ρ { σ with lo:=lo₀ } s.heap→VRs ρ acc ys →
   (∀ oC mC ys ρ' s',ρ <+: ρ'→HS (x.fzd ((C,oC)::(D,lst ys)::x.fz)) ρ' { σ' with lo:=lo₀ } s'.heap→NsObj oC mC→VRs ρ' vs ys→Same s s'→R (.ok .next) s') →
   CompT g x.A elt t ifs (.ref I) (.ref D) (compEnvC csc (closL x.cl csc.names []) C x.env) R k s
theorem compA_s (hev:EvS g T n) (htr:TrS g T n) {csc:Scope} {t elt:Expr} {ifs:List Expr} {src:Src} {lo₀:List (Str × AV)}:∀ (k j:Nat) (acc:List AV) (σ:AS),
   Sat σ.ob (compA (Mine.compTurn t src (cellLo (compScn csc.names) lo₀)) (allA ((interp T n).tr (compScn csc.names)) ifs) ((interp T n).ev (compScn csc.names) elt) k j acc σ) (LcP g n csc t elt ifs src lo₀ k j acc σ):=by
 intro k
 induction k with
 | zero=>exact fun _ _ _=>True.intro
 | succ k ih =>
   intro j acc σ
   rw [compA_c]
   unfold Mine.compTurn
   cases hi:itemA src j σ.hp with
   | none=>exact True.intro
   | some o =>
   cases o with
   | none =>
     refine Sat.ret ⟨Nat.le_refl _,fun x I adr ρ₀ St C D S z zv its ρ s ys oC mC R p₀ st hn H hacc hR=>?_⟩
     refine wpAny_mono (S.W.done (x.fzd (its++((C,oC)::(D,lst ys)::x.fz))) ((S.o.fzd S.hv _).one) j its ((C,oC)::(D,lst ys)::x.fz) { σ with lo:=lo₀ } ρ s (fun s₃=>HS (x.fzd ((C,oC)::(D,lst ys)::x.fz)) ρ { σ with lo:=lo₀ } s₃.heap∧Same s s₃) EF p₀ rfl S.hd' st H hi fun s₃ H₃ S₃=>⟨H₃,S₃⟩) (fun r s₃ h₃=>?_) fun _ _ e=>e
     obtain ⟨rfl,H₃,S₃⟩:=h₃
     exact hR oC mC ys ρ s₃ (List.prefix_refl _) H₃ hn hacc S₃
   | some im =>
   dsimp only
   cases hv:compVars t im with
   | none=>exact True.intro
   | some vars =>
     refine (tests_s htr ifs { σ with lo:=vars++cellLo (compScn csc.names) lo₀ }).bind fun b σb _ D₁=>?_
     have turn:∀ {vs:List AV} {σ':AS},σb.ob <:+ σ'.ob→acc.length≤vs.length→(∀ x I adr ρ₀ St C D,CSet g n x csc t src I adr ρ₀ St C D→Sz σ'.ob→vs.length≤sizeLine→∀ its tmp m ρ s ys oC mC (R:Result→Shared→Prop),ρ₀ <+: ρ→St (j + 1) its→NsObj oC mC →
           CxOk g (x.inC csc C mC m ((tmp++its)++(C,oC)::(D,lst ys)::x.fz)) n→HS (x.inC csc C mC m ((tmp++its)++(C,oC)::(D,lst ys)::x.fz)) ρ σb s.heap→(∀ ρ₆ σ₆ h₆,ρ <+: ρ₆→HS (x.inC csc C mC m ((tmp++its)++(C,oC)::(D,lst ys)::x.fz)) ρ₆ σ₆ h₆→HS (x.fzd (its++((C,oC)::(D,lst ys)::x.fz))) ρ₆ { σ₆ with lo:=lo₀ } h₆)→VRs ρ acc ys →
           (∀ oC mC ys ρ' s',ρ <+: ρ'→HS (x.fzd ((C,oC)::(D,lst ys)::x.fz)) ρ' { σ' with lo:=lo₀ } s'.heap→NsObj oC mC→VRs ρ' vs ys→Same s s'→R (.ok .next) s')→match (generalizing:=false) b with
           | true=>wpAny (model g.prog g.w) x.A (eval elt (compEnvC csc (closL x.cl csc.names []) C x.env)) (fun v s₄=>wpAny (model g.prog g.w) x.A (call (.builtin "list.append") [.ref D,v]) (fun _ s₅=>CompT g x.A elt t ifs (.ref I) (.ref D) (compEnvC csc (closL x.cl csc.names []) C x.env) R k s₅) EF s₄) EF s
           | false=>CompT g x.A elt t ifs (.ref I) (.ref D) (compEnvC csc (closL x.cl csc.names []) C x.env) R k s)→LcP g n csc t elt ifs src lo₀ (k + 1) j acc σ vs σ':=by
       intro vs σ' mb hl h
       refine ⟨hl,fun x I adr ρ₀ St C D S z zv its ρ s ys oC mC R p₀ st hn H hacc hR=>?_⟩
       refine wpAny_mono (S.W.item (x.fzd (its++((C,oC)::(D,lst ys)::x.fz))) ((S.o.fzd S.hv _).one) j its ((C,oC)::(D,lst ys)::x.fz) { σ with lo:=lo₀ } ρ s im
         (fun v s₃=>∃ its' tmp,ItR ρ im v tmp∧St (j + 1) its'∧HS (x.fzd (tmp++(its'++((C,oC)::(D,lst ys)::x.fz)))) ρ { σ with lo:=lo₀ } s₃.heap∧Same s s₃∧∀ p∈tmp,s.heap.objs.size≤p.1) EF p₀ rfl S.hd' st H hi (cvar_tup hv) fun v its' tmp s₃ ir st' H₃ S₃ hfr=>⟨its',tmp,ir,st',H₃,S₃,hfr⟩) (fun r s₃ h₃=>?_) fun _ _ e=>e
       obtain ⟨v,e,h₃⟩:=h₃
       subst e
       refine wpAny_mono h₃ (fun _ s₄ h₄=>?_) fun _ _ e=>e
       obtain ⟨its',tmp,ir,st',H₄,S₄,htmp⟩:=h₄
       rw [← List.append_assoc] at H₄
       have hC':=H.fz_lt (p:=(C,oC)) (List.mem_append_right its (.head _))
       refine casg_s S.o S.FC hv (pre:=tmp++its') (post:=(D,lst ys)::x.fz) (fz₁:=fun ob=>its'++(C,ob)::(D,lst ys)::x.fz) (fun ob=>List.append_assoc _ _ _) (fun p hp=>?_) ir hn H₄ fun oC' mC' s₅ hn' H₅ S₅ hvars=>?_
       · rcases List.mem_append.mp hp with hp | hp
         · rcases List.mem_append.mp hp with hp | hp
           · exact fun e=>absurd (htmp p hp) (by rw [e]; exact Nat.not_le.mpr hC')
           · exact (S.its st' p hp).1
         · rcases List.mem_cons.mp hp with rfl | hp
           · exact S.ne
           · exact (S.fz p hp).1
       refine S.inn hv hn' (List.mem_append_right _ (.head _)) H₅ hvars fun m o' H₆ back=>?_
       refine D₁ _ o' rfl (z.of mb) ρ s₅ _ H₆ fun ρ₆ s₆ p₆ H₇ S₆=>?_
       exact h x I adr ρ₀ St C D S z zv its' tmp m ρ₆ s₆ ys oC' mC' R (p₀.trans p₆) st' hn' o' H₇ (fun ρ₇ σ₇ h₇ p₇ H₈=>(back ρ₇ σ₇ h₇ (p₆.trans p₇) H₈).drop fun p hp=>by rw [List.append_assoc]; exact List.mem_append_right _ hp) (VRs.mono p₆ hacc)
         fun oC mC ys ρ' s' p' H' hn hvs S'=>hR oC mC ys ρ' s' (p₆.trans p') H' hn hvs (((S₄.trans S₅).trans S₆).trans S')
     cases b with
     | false=>exact (ih (j + 1) acc σb).imp fun vs σ' m E=>turn m E.1 fun x I adr ρ₀ St C D S z zv its tmp mm ρ s ys oC mC R p₀ st hn o' H back hacc hR=>E.2 x I adr ρ₀ St C D S z zv its ρ s ys oC mC R p₀ st hn (back ρ σb _ (List.prefix_refl _) H) hacc hR
     | true =>
       refine (hev (compScn csc.names) elt σb).bind fun v σv mv D₂=>(ih (j + 1) (acc++[v]) σv).imp fun vs σ' m E=>turn (mv.trans m) (by have:=E.1; rw [List.length_append] at this; exact Nat.le_of_succ_le this) fun x I adr ρ₀ St C D S z zv its tmp mm ρ s ys oC mC R p₀ st hn o' H back hacc hR=>?_
       refine D₂ _ o' rfl (z.of m) ρ s _ H fun ρ₇ s₇ v' p₇ H₈ S₇ vr=>?_
       have hD:s₇.heap.get? D=some (lst ys):=H₈.frz (p:=(D,lst ys)) (List.mem_append_right _ (.tail _ (.head _)))
       have hsz:ys.length≤sizeLine:=by
         have:=E.1
         rw [List.length_append,List.length_singleton,hacc.len] at this
         omega
       refine append_at (hsz:=hsz) hD fun h₈ hs₈ hD₈=>?_
       have hD₈:h₈.get? D=some (lst (ys++[v'])):=hD₈.trans (congrArg some (lst_snoc ys v'))
       have H₉:=back ρ₇ σv _ p₇ H₈
       rw [show its++((C,oC)::(D,lst ys)::x.fz)=(its++[(C,oC)])++(D,lst ys)::x.fz from (List.append_assoc its [(C,oC)] _).symm] at H₉
       have H₁₀:=H₉.swap1 (fun p hp=>by
         rcases List.mem_append.mp hp with hp | hp
         · rcases List.mem_append.mp hp with hp | hp
           · exact (S.its st p hp).2
           · cases List.mem_singleton.mp hp; exact Ne.symm S.ne
         · exact (S.fz p hp).2) hs₈ hD₈
       rw [List.append_assoc] at H₁₀
       exact E.2 x I adr ρ₀ St C D S z zv its ρ₇ _ (ys++[v']) oC mC R (p₀.trans p₇) st hn H₁₀ ((VRs.mono p₇ hacc).snoc vr) fun oC mC ys ρ' s' p' H' hn hvs S'=>hR oC mC ys ρ' s' (p₇.trans p') H' hn hvs ((S₇.trans Same.of).trans S')
end
end
section
open PySem PySem.W PySem.Spec PySem.Calls PyProof.Rows PyProof.Rows.LCg
set_option maxHeartbeats 2000000
section
variable {g:Gl} {T:Tab} {n:Nat}
theorem HS.adoptF {x:Cx} {ρ:List Addr} {σ:AS} {h:Heap} {D:Addr} {ob:Obj} {l:List (Addr × Obj)} {ao:AO} (H:HS (x.fzd ((D,ob)::l)) ρ σ h) (hne:∀ p∈l,p.1 ≠ D) (r:OR ρ ao ob):HS (x.fzd l) (ρ++[D]) { σ with hp:=σ.hp++[ao] } h:=by
 obtain ⟨m,os,F,HP,lr⟩:=H
 have HP':HpR x.h₀ x.L l ρ σ.hp h os:=⟨fun p hp=>HP.nw p (by
   rcases List.mem_append.mp hp with q | q
   · exact List.mem_append_left _ q
   · exact List.mem_append_right _ (.tail _ q)),HP.nd,fun p hp=>HP.dj p (.tail _ hp),HP.ln,HP.or⟩
 refine ⟨m,os++[ob],F,HP'.adopt (fun p hp=>?_) (HP.dj (D,ob) (.head _)) hne r,lr.mono ⟨_,rfl⟩⟩
 rcases List.mem_cons.mp hp with rfl | hp
 · exact HP.nw _ (List.mem_append_right _ (.head _))
 · exact HP'.nw p hp
theorem HS.dropC {x:Cx} {ρ:List Addr} {σ:AS} {h h':Heap} {C:Addr} {oC:Obj} {l:List (Addr × Obj)} (H:HS (x.fzd ((C,oC)::l)) ρ σ h) (hne:∀ p∈l,p.1 ≠ C) (hs:Heap.SameBut C h h'):HS (x.fzd l) ρ σ h' :=
 HS.turn (x:=x.fzd ((C,oC)::l)) (its:=[(C,oC)]) (its':=[]) (tmp:=[]) (fz₀:=l) (adr:=[C]) H rfl (fun p hp=>by simpa using hne p hp) rfl (fun b o hb e=>(hs.2 b (by simpa using hb)).trans e) (fun p hp=>by cases hp) (fun p hp=>by cases hp)
theorem comp_names {csc:Scope} {outer:List (Str × NameKind)} {t:Expr} (FC:CompFacts outer csc t):∀ y∈csc.names,y.2=.local→csc.names.lookup y.1=some .local:=by
 intro y hy hl
 have:∀ (l:List (Str × NameKind)),(l.map (·.1)).Nodup→y∈l→l.lookup y.1=some y.2:=by
   intro l
   induction l with
   | nil=>intro _ h; cases h
   | cons p r ih =>
     obtain ⟨a,b⟩:=p
     intro nd h
     rw [List.map_cons,List.nodup_cons] at nd
     rw [List.lookup_cons]
     rcases List.mem_cons.mp h with rfl | h
     · simp
     · have hne:(y.1==a)=false:=by
         have:y.1 ≠ a:=fun e=>nd.1 (by rw [← e]; exact List.mem_map_of_mem (f:=(·.1)) h)
         simpa using this
       rw [hne]
       exact ih nd.2 h
 rw [this _ FC.nd hy,hl]
theorem clos_is {x:Cx} (o:CxOk g x n) (hcv:x.cv=none) {csc:Scope} {t:Expr} (FC:CompFacts x.scope.names csc t):closureFor csc x.env=pure (closL x.cl csc.names []) :=
 closureFor_is fun p hp hf=>by
   obtain ⟨⟨c,hc⟩,_⟩:=comp_free o hcv FC hp hf
   show (x.cl.lookup p.1).isSome=true
   rw [hc]; rfl
noncomputable def CoreQ (g:Gl) (x:Cx) (elt t iter:Expr) (ifs:List Expr) (csc:Scope) (pos:Pos) (RR:Value→Addr→Result→Shared→Prop):Value→Shared→Prop:=fun it' s₂=>wpAny (model g.prog g.w) x.A (newList []) (fun acc s₃=>wpAny (model g.prog g.w) x.A (newFunctionEnv csc x.env.globals (closL x.cl csc.names []) [] x.env.qual none .none (some x.env)) (fun cenv s₄ =>
     codeAny (model g.prog g.w) x.A (.compStart (.ListComp elt [⟨t,iter,ifs,0⟩] csc pos) 0 it' acc { cenv with scope:=relabel csc x.env }) (RR acc cenv.locals) s₄) EF s₃) EF s₂
theorem comp_core {x:Cx} (o:CxOk g x (n + 1)) (hcv:x.cv=none) {csc:Scope} {t elt iter:Expr} {ifs:List Expr} {pos:Pos} (FC:CompFacts x.scope.names csc t)
   {src:Src} {σ₁ σ₂:AS} {vs:List AV} {ρ₁:List Addr} {s₁:Shared} {I:Addr} {adr:List Addr} {St:Nat→List (Addr × Obj)→Prop} {its:List (Addr × Obj)} {k:Nat} (W:Wk g t src I adr ρ₁ St) (st:St 0 its) (H₁:HS (x.fzd (its++x.fz)) ρ₁ σ₁ s₁.heap) (hd:∀ p∈x.fz,p.1 ∉ adr)
   (D₂:LcP g n csc t elt ifs src σ₁.lo k 0 [] σ₁ vs σ₂) (z:Sz σ₂.ob) (zv:vs.length≤sizeLine) {RR:Value→Addr→Result→Shared→Prop}
   (hRR:∀ D C oC mC ys ρ₂ s₂,ρ₁ <+: ρ₂→HS (x.fzd ((C,oC)::(D,lst ys)::x.fz)) ρ₂ { σ₂ with lo:=σ₁.lo } s₂.heap→NsObj oC mC→C ≠ D→(∀ p∈x.fz,p.1 ≠ C∧p.1 ≠ D)→VRs ρ₂ vs ys→Same s₁ s₂→RR (.ref D) C (.ok .next) s₂) :
   CoreQ g x elt t iter ifs csc pos RR (.ref I) s₁:=by
 have hcell:∀ y∈csc.names,y.2 ≠ .cell:=fun y hy e=>by
   rcases FC.kinds y hy with q | q | q
   · rw [q] at e; cases e
   · rw [q] at e; cases e
   · rw [q.1] at e; cases e
 unfold CoreQ
 refine wpAny_newObj_type (wpAny_newFunctionEnv hcell (by intro y hy; simp at hy) (fun h₁ hns₁ hsb₁=>?_) FC.kind)
 dsimp only at hns₁ hsb₁ ⊢
 generalize hH2:s₁.heap.push { cls:=.type "list",dict:=none,data:=.seq ([]:List Value).toArray }=H2 at hns₁ hsb₁ ⊢
 generalize hDD:s₁.heap.objs.size=D
 have hC:H2.objs.size=D + 1:=by rw [← hH2,Heap.size_push,hDD]
 generalize hCC:H2.objs.size=C at hns₁ hsb₁ hC ⊢
 have hDC:D ≠ C:=by rw [hC]; exact Nat.ne_of_lt (Nat.lt_succ_self _)
 have below:∀ b,@LT.lt Nat _ b D→b ≠ C∧b ≠ D:=fun b hb=>⟨by rw [hC]; exact Nat.ne_of_lt (Nat.lt_succ_of_lt hb),Nat.ne_of_lt hb⟩
 have old:∀ b o,s₁.heap.get? b=some o→h₁.get? b=some o:=fun b o e=>hsb₁.extBut b o (below b (hDD ▸ Heap.lt_size e)).1 (Heap.get?_push_of_some _ (hH2 ▸ Heap.get?_push_of_some _ e))
 have hacc:h₁.get? D=some (lst []):=hsb₁.extBut _ _ hDC (Heap.get?_push_of_some _ (by rw [← hH2,← hDD]; exact Heap.get?_push_size _ rfl))
 obtain ⟨oC₀,hoC,hnC⟩:=ns_obj hns₁
 have had:=W.ad 0 its st
 have fzlt:∀ p∈x.fz,p.1 ≠ C∧p.1 ≠ D:=fun p hp=>below _ (hDD ▸ H₁.fz_lt (List.mem_append_right _ hp))
 have S:CSet g n x csc t src I adr ρ₁ St C D:=⟨o,hcv,FC,W,hd,fzlt,fun a ha=>by
   rw [← had] at ha
   obtain ⟨p,hp,rfl⟩:=List.mem_map.mp ha
   exact below _ (hDD ▸ H₁.fz_lt (List.mem_append_left _ hp)),hDC⟩
 have HS₀:HS (x.fzd (its++((C,oC₀)::(D,lst [])::x.fz))) ρ₁ σ₁ h₁ :=
   (H₁.grow (h':=h₁) (tmp:=[(C,oC₀),(D,lst [])]) old fun p hp=>by
     rcases List.mem_cons.mp hp with rfl | hp
     · exact ⟨by show s₁.heap.objs.size≤C; rw [hDD,hC]; exact Nat.le_succ _,hoC⟩
     · cases List.mem_singleton.mp hp
       exact ⟨by show s₁.heap.objs.size≤D; rw [hDD]; exact Nat.le_refl _,hacc⟩).drop fun p hp=>by
   rcases List.mem_append.mp hp with hp | hp
   · exact .tail _ (.tail _ (show p∈its++x.fz from List.mem_append_left _ hp))
   · rcases List.mem_cons.mp hp with rfl | hp
     · exact .head _
     · rcases List.mem_cons.mp hp with rfl | hp
       · exact .tail _ (.head _)
       · exact .tail _ (.tail _ (show p∈its++x.fz from List.mem_append_right _ hp))
 have loop:=compT_loop (iter:=iter) (sc:=csc) (pos:=pos) (s:={ s₁ with heap:=h₁,toks:=s₁.toks + ([]:List (Str × Value)).length }) (D₂.2 x I adr ρ₁ St C D S z zv its ρ₁ _ [] oC₀ _ (RR (.ref D) C) (List.prefix_refl _) st hnC HS₀ .nil fun oC mC ys ρ' s' p' H' hn hvs S'=>hRR D C oC mC ys ρ' s' p' H' hn (Ne.symm hDC) fzlt hvs (Same.of.trans S'))
 exact codeAny_compStart_list loop (W.self (x.fzd (its++((C,oC₀)::(D,lst [])::x.fz))) its _ σ₁ ρ₁ _ _ _ rfl st HS₀ loop)
noncomputable def CoreP (g:Gl) (n:Nat) (sc:List (Str × NameKind)) (σ:AS) (el t it:Expr) (ifs:List Expr) (csc:Scope) (pos:Pos) (v:AV) (σ':AS):Prop:=∃ (vs:List AV) (σ₂:AS) (lo:List (Str × AV)),v=.obj σ₂.hp.length∧σ'={ σ₂ with lo:=lo,hp:=σ₂.hp++[.list vs],ob:=addOb vs.length σ₂.ob } ∧
 ∀ x,CxOk g x (n + 1)→x.scn=sc→Sz σ'.ob→x.cv=none∧CompFacts x.scope.names csc t∧∀ ρ s (RR:Value→Addr→Result→Shared→Prop),HS x ρ σ s.heap →
   (∀ D C oC mC ys ρ₂ s₂,ρ <+: ρ₂→HS (x.fzd ((C,oC)::(D,lst ys)::x.fz)) ρ₂ { σ₂ with lo:=lo } s₂.heap→NsObj oC mC→C ≠ D→(∀ p∈x.fz,p.1 ≠ C∧p.1 ≠ D)→VRs ρ₂ vs ys→Same s s₂→RR (.ref D) C (.ok .next) s₂) →
   (∀ v,foldedSetIterable it x.env v=pure v)∧wpAny (model g.prog g.w) x.A (eval it x.env) (fun xv s₁=>wpAny (model g.prog g.w) x.A (pyIter xv) (CoreQ g x el t it ifs csc pos RR) EF s₁) EF s
theorem core_s (ok:TabOk g T) (hev:EvS g T n) (htr:TrS g T n) {sc:List (Str × NameKind)} {el t it:Expr} {ifs:List Expr} {csc:Scope} {pos:Pos} {σ:AS}:Sat σ.ob (evLC T (interp T n) sc el t it ifs csc σ) (CoreP g n sc σ el t it ifs csc pos):=by
 refine Sat.guard fun hc=>(src_s ok hev).bind fun src σ₁ _ D₁=>(compA_s hev htr T.turns 0 [] σ₁).bind fun vs σ₂ m₂ D₂=>⟨addOb_sfx _ _,vs,σ₂,σ₁.lo,rfl,rfl,fun x o hs z=>?_⟩
 have FC:=compFacts_of hc
 have hcv:x.cv=none:=by
   cases hq:x.cv with
   | none=>rfl
   | some c =>
     obtain ⟨_,k,hk⟩:=o.cvo c hq
     rw [hs,FC.dot] at hk
     cases hk
 rw [← hs,Cx.scn_fn hcv] at FC
 refine ⟨hcv,FC,fun ρ s RR H hRR=>?_⟩
 have z₂:Sz (addOb vs.length σ₂.ob):=z
 have h:=D₁ x o.less hs (z₂.of (m₂.trans (addOb_sfx _ _))) ρ s t (CoreQ g x el t it ifs csc pos RR) H fun ρ₁ s₁ I adr St its p₁ W st H₁ hd S₁=>comp_core (pos:=pos) (iter:=it) o hcv FC W st H₁ hd D₂ (z₂.of (addOb_sfx _ _)) z₂.hd (RR:=RR) fun D C oC mC ys ρ₂ s₂ p₂ H₂ hn hCD hne hvs S₂=>hRR D C oC mC ys ρ₂ s₂ (p₁.trans p₂) H₂ hn hCD hne hvs (S₁.trans S₂)
 rw [Cx.cur_fn hcv] at h
 exact h
theorem obj_new {x:Cx} {ρ:List Addr} {σ:AS} {h:Heap} {D:Addr} (H:HS x ρ σ h):VR (ρ++[D]) (.obj σ.hp.length) (.ref D):=by
 obtain ⟨m,os,F,HP,lr⟩:=H
 refine ⟨D,?_,rfl⟩
 rw [← HP.ln,List.getElem?_append_right (Nat.le_refl _),Nat.sub_self]
 rfl
theorem comp_s (ok:TabOk g T) (hev:EvS g T n) (htr:TrS g T n):CompS g T n:=by
 intro sc el t it ifs csc pos σ
 refine (core_s ok hev htr (pos:=pos)).imp fun v σ' _ D x o hs z ρ s Q H hQ=>?_
 obtain ⟨vs,σ₂,lo,rfl,rfl,D⟩:=D
 obtain ⟨hcv,FC,D⟩:=D x o hs z
 have h:=D ρ s (fun acc C=>compPost (model g.prog g.w) x.A EF none Q acc C) H fun D C oC mC ys ρ₂ s₂ p₂ H₂ hn hCD hne hvs S₂=>?_
 · rw [Cx.cur_fn hcv,eval_ListComp]
   exact wpAny_comprehension_free (use:=none) rfl h.1 (clos_is o hcv FC) FC.kind (comp_names FC) h.2
 have hC:s₂.heap.get? C=some oC:=H₂.frz (p:=(C,oC)) (.head _)
 refine ⟨mC,hn.ns hC,fun h' hs'=>?_⟩
 have H₃:=H₂.dropC (fun p hp=>by
   rcases List.mem_cons.mp hp with rfl | hp
   · exact Ne.symm hCD
   · exact (hne p hp).1) hs'
 have H₄:=H₃.adoptF (ao:=.list vs) (fun p hp=>(hne p hp).2) ⟨ys,_,rfl,hvs⟩
 exact hQ (ρ₂++[D]) _ _ (p₂.trans ⟨_,rfl⟩) ⟨H₄.ex⟩ (S₂.trans Same.of) (obj_new (σ:={ σ₂ with lo:=lo }) H₃)
theorem Sat.both {α:Type} {ob:List Nat} {r:R α} {P P':α→AS→Prop} (h:Sat ob r P) (h':Sat ob r P'):Sat ob r fun a s=>P a s∧P' a s:=by
 cases r with
 | ok a s=>exact ⟨h.1,h.2,h'.2⟩
 | exc=>exact True.intro
 | bad=>exact True.intro
theorem compN_s (ok:TabOk g T) (hev:EvS g T n) (htr:TrS g T n) (hev1:EvS g T (n + 1)):CompA g T (n + 1):=by
 intro sc y q v p σ hcmp hk
 cases v <;> first | exact ceFT hcmp | exact True.intro | skip
 rename_i el gs csc pos
 rcases gs with _ | ⟨⟨t,it,ifs,k⟩,_ | _⟩ <;> first | exact True.intro | skip
 refine ((hev1 sc (.ListComp el [⟨t,it,ifs,k⟩] csc pos) σ).both (P':=fun v σ'=>k=0∧CoreP g n sc σ el t it ifs csc pos v σ') (Sat.guard fun hz=>(core_s ok hev htr).imp fun v σ' _ D=>⟨?_,D⟩)).bind fun v σ₁ _ D=>Sat.ret (s:={ σ₁ with lo:=put y v σ₁.lo }) fun x o hv hs z ρ s Q H hQ=>?_
 · rcases k with k | k <;> first | exact ceFT hz | skip
   cases k with
   | zero=>rfl
   | succ=>cases hz
 obtain ⟨D₁,rfl,D⟩:=D
 have hkind:x.env.kindOf y=some .local:=by
   have:=o.kn y
   rw [Cx.cur_fn hv,Cx.scn_fn hv,hs,← look_lookup,hk] at this
   exact this
 generalize hb:(x.env.blockKind==.function&&x.env.kindOf y==some .local&&q.line==(Expr.ListComp el [⟨t,it,ifs,0⟩] csc pos).pos.line&&!(csc.names.any fun (nk:Str × NameKind)=>nk.1==y&&(nk.2==.local || nk.2==.cell)))=b
 have hsw:swapsWith (.ListComp el [⟨t,it,ifs,0⟩] csc pos) (some (.Name y q)) p.line x.env=pure b:=by
   rw [← hb]; rfl
 cases b with
 | false=>exact wpAny_Assign_Name (D₁.fn o.less hv hs z ρ s _ H fun ρ₁ s₁ v' p₁ H₁ S₁ vr=>sto_local hk x _ o hv hs ρ₁ s₁ v' _ H₁ vr fun s₂ H₂ S₂=>hQ ρ₁ s₂ _ p₁ H₂ (S₁.trans S₂) rfl) hsw
 | true =>
   obtain ⟨vs,σ₂,lo,rfl,rfl,D⟩:=D
   obtain ⟨hcv,FC,D⟩:=D x o.less ((Cx.scn_fn hv).trans hs) z
   have h:=D ρ s (fun acc C=>compPost (model g.prog g.w) x.A EF (some (assign (.Name y q) x.env)) (fun _ s'=>Q .next s') acc C) H fun D C oC mC ys ρ₂ s₂ p₂ H₂ hn hCD hne hvs S₂=>?_
   · rw [exec_Assign_Name_used _ _ _ _ hsw]
     refine wpAny_bind (wpAny_standAt (wpAny_bind ?_))
     show wpAny _ x.A (do let _ ← comprehension (.ListComp el [⟨t,it,ifs,0⟩] csc pos) csc x.env _ (newList []) false (eval it x.env) (some (assign (.Name y q) x.env))) _ _ s
     exact wpAny_bind (wpAny_mono (wpAny_comprehension_free (use:=some (assign (.Name y q) x.env)) (Q:=fun _ s'=>Q .next s') rfl h.1 (clos_is o hcv FC) FC.kind (comp_names FC) h.2) (fun _ s' hq=>wpAny_pure (wpAny_pure hq)) fun _ _ e=>e)
   have H₂':HS (x.fzd ((D,lst ys)::(C,oC)::x.fz)) ρ₂ { σ₂ with lo:=lo } s₂.heap:=H₂.drop fun p hp=>by
     rcases List.mem_cons.mp hp with rfl | hp
     · exact .tail _ (.head _)
     · rcases List.mem_cons.mp hp with rfl | hp
       · exact .head _
       · exact .tail _ (.tail _ hp)
   have H₃:=H₂'.adoptF (ao:=.list vs) (fun p hp=>by
     rcases List.mem_cons.mp hp with rfl | hp
     · exact hCD
     · exact (hne p hp).2) ⟨ys,_,rfl,hvs⟩
   show wpAny _ x.A (assign (.Name y q) x.env (.ref D)) _ _ _
   refine wpAny_assign_Name (sto_local (g:=g) (sc:=sc) (v:=.obj σ₂.hp.length) hk (x.fzd ((C,oC)::x.fz)) _ (o.fzd hcv _) hcv hs (ρ₂++[D]) s₂ _ _ H₃ (obj_new (σ:={ σ₂ with lo:=lo }) H₂) fun s₃ H₄ S₃=>?_)
   have hC:s₃.heap.get? C=some oC:=H₄.frz (p:=(C,oC)) (.head _)
   refine ⟨mC,hn.ns hC,fun h' hs'=>?_⟩
   have H₅:=H₄.dropC (fun p hp=>(hne p hp).1) hs'
   exact hQ (ρ₂++[D]) _ _ (p₂.trans ⟨_,rfl⟩) ⟨H₅.ex⟩ ((S₂.trans S₃).trans Same.of) rfl
end
end
section
set_option maxHeartbeats 1000000
section
variable {g:Gl} {T:Tab} {n:Nat}
theorem under_tc (A':Around) (a:Addr) (vs:List Value) (ks:List (Str × Value)):(A'.under (.builtin "type.__call__" ⟨.ref a::vs,ks⟩)).frames=A'.frames∧(A'.under (.builtin "type.__call__" ⟨.ref a::vs,ks⟩)).handled=A'.handled∧(A'.under (.builtin "type.__call__" ⟨.ref a::vs,ks⟩)).depth=A'.depth + 1 ∧
   (A'.under (.builtin "type.__call__" ⟨.ref a::vs,ks⟩)).units=A'.units + (Code.builtin "type.__call__" ⟨.ref a::vs,ks⟩).cUnits:=by
 refine ⟨?_,rfl,?_,rfl⟩
 · show pushEnvs (Code.builtin "type.__call__" ⟨.ref a::vs,ks⟩).envs A'.frames=A'.frames
   have:(Code.builtin "type.__call__" ⟨.ref a::vs,ks⟩).envs=[]:=by first | rfl | kernel_rfl
   rw [this]
   cases A'.frames <;> rfl
 · show A'.depth + (Code.builtin "type.__call__" ⟨.ref a::vs,ks⟩).weight=A'.depth + 1
   have:(Code.builtin "type.__call__" ⟨.ref a::vs,ks⟩).weight=1:=by kernel_rfl
   rw [this]
theorem tc_units (args:Args):(Code.builtin "type.__call__" args).cUnits≤1:=by
 have:(Code.builtin "type.__call__" args).cUnits=1:=by kernel_rfl
 rw [this]
 exact Nat.le_refl _
theorem call_make (ok:TabOk g T) {a f:Nat} (hm:T.make a=some f) {as:List AV} {ks:List (Str × AV)} {σ σ₁:AS} (hc:CallP g n (.top f) (.obj (σ.hp.length + 1)::as) ks { σ with hp:=σ.hp++[.dict [],.inst a σ.hp.length] } .none σ₁) :
   CallP g (n + 1) (.top a) as ks σ (.obj (σ.hp.length + 1)) σ₁:=by
 intro x o A' hA hh hd hu z ρ s f' as' ks' m Q H vf vas vks hQ
 cases vf
 obtain ⟨_,c1,c2,c3⟩:=ok.make _ _ hm
 obtain ⟨os,F,HP,l⟩:=H
 refine make_K F HP.nw (o.X.keeps F.keep) c1 c2 (beq_iff_eq.mp c3) fun X dx h' F' N' lt ltx=>?_
 have nm:∀ p∈ρ.zip os++x.fz,p.1<dx:=lt
 have off:∀ b:Addr,dx≤b→b ∉ ρ:=by
   intro b hb hmem
   obtain ⟨i,hi⟩:=List.getElem?_of_mem hmem
   have hl:i<os.length:=HP.olen ▸ (List.getElem?_eq_some_iff.mp hi).1
   exact absurd (nm _ (zip_mem hi (List.getElem?_eq_getElem hl))) (Nat.not_lt.mpr hb)
 have HP0:HpR x.h₀ x.L x.fz ρ σ.hp h' os:=⟨fun p hp=>N' p (.tail _ (.tail _ hp)),HP.nd,HP.dj,HP.ln,HP.or⟩
 have HP1:=HP0.adopt (ao:=.dict []) (fun p hp=>N' p (.tail _ hp)) (off dx (Nat.le_refl _)) (fun p hp e=>absurd (e ▸ nm p (List.mem_append_right _ hp)) (Nat.lt_irrefl _)) ⟨[],0,rfl,.nil⟩
 have hdx:(ρ++[dx])[σ.hp.length]?=some dx:=by rw [← HP.ln,List.getElem?_append_right (Nat.le_refl _)]; simp
 have HP2:=HP1.adopt (a:=X) (ao:=.inst a σ.hp.length) (o:=instObj a dx) (h':=h') (fun p hp=>by
     rcases List.mem_cons.mp hp with rfl | hp
     · exact N' _ (.head _)
     · exact HP1.nw p hp) (by
     rw [List.mem_append,not_or]
     exact ⟨off X (Nat.le_of_lt ltx),by simp; exact Nat.ne_of_gt ltx⟩) (fun p hp e=>absurd (Nat.lt_trans (nm p (List.mem_append_right _ hp)) ltx) (by rw [e]; exact Nat.lt_irrefl _)) ⟨dx,hdx,rfl⟩
 have e1:(ρ++[dx])++[X]=ρ++[dx,X]:=by simp
 have e2:(σ.hp++[AO.dict []])++[AO.inst a σ.hp.length]=σ.hp++[AO.dict [],AO.inst a σ.hp.length]:=by simp
 rw [e1,e2] at HP2
 have p0:ρ <+: ρ++[dx,X]:=⟨_,rfl⟩
 have HS2:HSm x (ρ++[dx,X]) { σ with hp:=σ.hp++[.dict [],.inst a σ.hp.length] } h' m:=⟨_,F',HP2,l.mono p0⟩
 have hX:VR (ρ++[dx,X]) (.obj (σ.hp.length + 1)) (.ref X):=⟨X,by rw [← HP.ln,List.getElem?_append_right (Nat.le_succ _)]; simp,rfl⟩
 obtain ⟨u1,u2,u3,u4⟩:=under_tc A' a as' ks'
 have u5:=tc_units ⟨.ref a::as',ks'⟩
 refine codeAny_mono (hc x o.less (A'.under (.builtin "type.__call__" ⟨.ref a::as',ks'⟩)) (u1.trans hA) (u2.trans hh) (by rw [u3]; omega) (by rw [u4]; omega) z (ρ++[dx,X]) { s with heap:=h' } (.ref f) (.ref X::as') ks' m (fun v s'=>v=.none∧Q (.ref X) s') HS2 rfl (.cons hX (VRs.mono p0 vas)) (vks.imp fun _ _ q=>⟨q.1,q.2.mono p0⟩) fun ρ' s' v' p1 H1 S1 vr=>?_) fun r s' hr=>?_
 · cases vr
   exact ⟨rfl,hQ ρ' s' _ (p0.trans p1) H1 (Same.of.trans S1) (hX.mono p1)⟩
 · obtain ⟨v,rfl,rfl,hq⟩:=RQ_to hr
   exact ⟨rfl,hq⟩
theorem call_step (ok:TabOk g T) (hexs:ExsS g T n) (hcall:CallS g T n):CallS g T (n + 1):=by
 intro f as ks σ
 cases f <;> first | exact True.intro | skip
 rename_i a
 refine (?_:Sat σ.ob (callT T (interp T n) a as ks σ) _)
 unfold callT
 cases hp:T.prim a as ks σ with
 | some r=>exact ((ok.prim a as ks σ).use hp).2.imp fun v σ' _ h=>h (n + 1)
 | none =>
 dsimp only
 cases hm:T.make a with
 | some f =>
   refine (hcall (.top f) (.obj (σ.hp.length + 1)::as) ks { σ with hp:=σ.hp++[.dict [],.inst a σ.hp.length] }).bind fun v σ₁ _ D=>?_
   cases v <;> first | exact True.intro | skip
   exact Sat.ret (call_make ok hm D)
 | none =>
 dsimp only
 cases hf:T.fn a with
 | some fi=>exact callF_s hexs (ok.fn _ _ hf)
 | none=>exact True.intro
structure AllS (g:Gl) (T:Tab) (n:Nat):Prop where
 ev:EvS g T n
 tr:TrS g T n
 ex:ExS g T n
 exs:ExsS g T n
 call:CallS g T n
theorem sound2 (ok:TabOk g T):∀ n,AllS g T n∧CompA g T n:=by
 intro n
 induction n with
 | zero=>exact ⟨⟨fun _ _ _=>True.intro,fun _ _ _=>True.intro,fun _ _ _=>True.intro,fun _ _ _=>True.intro,fun _ _ _ _=>True.intro⟩,fun _ _ _ _ _ _ _ _=>True.intro⟩
 | succ n ih =>
   have a:=ih.1
   have ev1:=ev_step ok a.ev a.tr a.call (comp_s ok a.ev a.tr)
   exact ⟨⟨ev1,tr_step ok a.ev a.tr,ex_step ok a.ev a.tr a.exs a.call (for_s ok a.ev a.exs) ih.2,exs_step a.ex a.exs,call_step ok a.exs a.call⟩,compN_s ok a.ev a.tr ev1⟩
theorem sound (ok:TabOk g T) (n:Nat):AllS g T n:=(sound2 ok n).1
end
end
section
set_option maxHeartbeats 1000000
noncomputable def nth:List Nat→Nat→Nat
 | [],_=>0
 | a::_,0=>a
 | _::r,i + 1=>nth r i
noncomputable def rnV (f:Nat→Nat):AV→AV
 | .obj i=>.obj (f i)
 | a=>a
noncomputable def rnE (f:Nat→Nat):List (Str × AV)→List (Str × AV)
 | []=>[]
 | p::r=>(p.1,rnV f p.2)::rnE f r
noncomputable def rnL (f:Nat→Nat):List AV→List AV
 | []=>[]
 | a::r=>rnV f a::rnL f r
noncomputable def rnO (f:Nat→Nat):AO→AO
 | .inst C d=>.inst C (f d)
 | .dict es=>.dict (rnE f es)
 | .list xs=>.list (rnL f xs)
 | .tup xs=>.tup (rnL f xs)
 | .deq xs=>.deq (rnL f xs)
 | .cell v=>.cell (match v with | some a=>some (rnV f a) | .none=>.none)
 | .kw es=>.kw (rnE f es)
 | o=>o
theorem rnV_id (a:AV):rnV id a=a:=by cases a <;> rfl
theorem rnL_id (l:List AV):rnL id l=l:=by
 induction l with
 | nil=>rfl
 | cons a r ih=>exact (congr (congrArg List.cons (rnV_id a)) ih:rnV id a::rnL id r=a::r)
theorem rnE_id (l:List (Str × AV)):rnE id l=l:=by
 induction l with
 | nil=>rfl
 | cons p r ih=>exact (congr (congrArg (fun v=>List.cons (p.1,v)) (rnV_id p.2)) ih:(p.1,rnV id p.2)::rnE id r=(p.1,p.2)::r)
theorem rnO_id (ao:AO):rnO id ao=ao:=by
 cases ao with
 | cell v =>
   cases v with
   | none=>rfl
   | some a=>exact congrArg (fun a=>AO.cell (some a)) (rnV_id a)
 | dict es=>exact congrArg AO.dict (rnE_id es)
 | kw es=>exact congrArg AO.kw (rnE_id es)
 | list xs=>exact congrArg AO.list (rnL_id xs)
 | tup xs=>exact congrArg AO.tup (rnL_id xs)
 | deq xs=>exact congrArg AO.deq (rnL_id xs)
 | _=>rfl
noncomputable def okV (n:Nat):AV→Bool
 | .obj i=>Nat.blt i n
 | _=>true
noncomputable def okL (n:Nat):List AV→Bool
 | []=>true
 | a::r=>match okV n a with | true=>okL n r | false=>false
noncomputable def okE (n:Nat):List (Str × AV)→Bool
 | []=>true
 | p::r=>match okV n p.2 with | true=>okE n r | false=>false
noncomputable def okO (n:Nat):AO→Bool
 | .inst _ d=>Nat.blt d n
 | .dict es=>okE n es
 | .list xs=>okL n xs
 | .tup xs=>okL n xs
 | .deq xs=>okL n xs
 | .cell v=>(match v with | some a=>okV n a | .none=>true)
 | .kw es=>okE n es
 | _=>true
theorem blt_lt {a b:Nat} (h:Nat.blt a b=true):a<b:=by
 have:a + 1≤b:=by simpa [Nat.blt] using h
 exact this
noncomputable def Along (ρ' ρ:List Addr) (f:Nat→Nat) (n:Nat):Prop:=∀ i a,i<n→ρ[f i]?=some a→ρ'[i]?=some a
section
variable {ρ' ρ:List Addr} {f:Nat→Nat} {n:Nat}
theorem VR.sel (h:Along ρ' ρ f n):∀ {a:AV} {v:Value},okV n a=true→VR ρ (rnV f a) v→VR ρ' a v
 | .obj i,_,hk,⟨a,h1,h2⟩=>⟨a,h i a (blt_lt hk) h1,h2⟩
 | .none,_,_,e=>e
 | .bool _,_,_,e=>e
 | .int _,_,_,e=>e
 | .str _,_,_,e=>e
 | .top _,_,_,e=>e
 | .bi _,_,_,e=>e
theorem okL_cons {n:Nat} {a:AV} {r:List AV} (h:okL n (a::r)=true):okV n a=true∧okL n r=true:=by
 have h:(match okV n a with | true=>okL n r | false=>false)=true:=h
 revert h
 cases okV n a with
 | true=>exact fun h=>⟨rfl,h⟩
 | false=>exact fun h=>ceFT h
theorem okE_cons {n:Nat} {p:Str × AV} {r:List (Str × AV)} (h:okE n (p::r)=true):okV n p.2=true∧okE n r=true:=by
 have h:(match okV n p.2 with | true=>okE n r | false=>false)=true:=h
 revert h
 cases okV n p.2 with
 | true=>exact fun h=>⟨rfl,h⟩
 | false=>exact fun h=>ceFT h
theorem VRs.sel (h:Along ρ' ρ f n) {xs:List AV}:∀ {vs:List Value},okL n xs=true→VRs ρ (rnL f xs) vs→VRs ρ' xs vs:=by
 induction xs with
 | nil=>intro vs _ x; cases x; exact .nil
 | cons a r ih =>
   intro vs hk x
   cases x with
   | cons hv hr=>exact .cons (VR.sel h (okL_cons hk).1 hv) (ih (okL_cons hk).2 hr)
theorem DR.sel (h:Along ρ' ρ f n) {es:List (Str × AV)}:∀ {ds:List DictEntry},okE n es=true→DR ρ (rnE f es) ds→DR ρ' es ds:=by
 induction es with
 | nil=>intro ds _ x; cases x; exact .nil
 | cons p r ih =>
   intro ds hk x
   cases x with
   | cons hv hr=>exact .cons ⟨hv.1,VR.sel h (okE_cons hk).1 hv.2⟩ (ih (okE_cons hk).2 hr)
theorem rnE_len {es:List (Str × AV)}:(rnE f es).length=es.length:=by
 induction es with
 | nil=>rfl
 | cons p r ih=>exact congrArg (· + 1) ih
theorem OR.sel (h:Along ρ' ρ f n) {ao:AO} {o:Obj} (hk:okO n ao=true) (x:OR ρ (rnO f ao) o):OR ρ' ao o:=by
 cases ao with
 | inst C d=>exact Exists.imp (fun dx x=>⟨h d dx (blt_lt hk) x.1,x.2⟩) x
 | dict=>exact Exists.imp (fun ds x=>Exists.imp (fun m x=>⟨x.1,DR.sel h hk x.2⟩) x) x
 | list=>exact Exists.imp (fun ds x=>Exists.imp (fun m x=>⟨x.1,VRs.sel h hk x.2⟩) x) x
 | tup=>exact Exists.imp (fun ds x=>Exists.imp (fun m x=>⟨x.1,VRs.sel h hk x.2⟩) x) x
 | deq=>exact Exists.imp (fun ds x=>Exists.imp (fun m x=>⟨x.1,VRs.sel h hk x.2⟩) x) x
 | sio=>exact Exists.imp (fun ds x=>Exists.imp (fun m x=>⟨x.1,DR.sel (n:=0) (f:=f) (fun i _ hi=>absurd hi (Nat.not_lt_zero _)) rfl x.2⟩) x) x
 | cell v =>
   refine Exists.imp (fun v' x=>⟨x.1,?_⟩) x
   cases v with
   | none=>exact x.2
   | some a=>exact Exists.imp (fun u x=>⟨x.1,VR.sel h hk x.2⟩) x.2
 | kw=>exact Exists.imp (fun ds x=>⟨by rw [x.1,rnE_len],DR.sel h hk x.2⟩) x
 | frk=>exact x
 | trn=>exact x
end
noncomputable def nodupN:List Nat→Bool
 | []=>true
 | a::r=>(r.all fun b=>!Nat.beq b a)&&nodupN r
theorem nodupN_iff:∀ {l:List Nat},nodupN l=true→l.Nodup
 | [],_=>List.nodup_nil
 | a::r,h=>by
   obtain ⟨h1,h2⟩:=Bool.and_eq_true_iff.mp (show ((r.all fun b=>!Nat.beq b a)&&nodupN r)=true from h)
   refine List.nodup_cons.mpr ⟨fun q=>?_,nodupN_iff h2⟩
   have:=List.all_eq_true.mp h1 a q
   rw [Nat.beq_refl] at this
   cases this
theorem nth_get:∀ {l:List Nat} {i:Nat},i<l.length→l[i]?=some (nth l i)
 | [],i,h=>absurd h (Nat.not_lt_zero _)
 | a::r,0,_=>rfl
 | a::r,i + 1,h=>List.getElem?_cons_succ.trans (nth_get (l:=r) (i:=i) (Nat.lt_of_succ_lt_succ h))
noncomputable def lookAll (lo:List (Str × AV)):List (Str × AV)→List (Option AV)
 | []=>[]
 | p::r=>look p.1 lo::lookAll lo r
noncomputable def rnAll (f:Nat→Nat):List (Str × AV)→List (Option AV)
 | []=>[]
 | p::r=>some (rnV f p.2)::rnAll f r
theorem lookAll_get {lo:List (Str × AV)} {f:Nat→Nat} {y:Str} {a:AV}:∀ {lo':List (Str × AV)},lookAll lo lo'=rnAll f lo'→look y lo'=some a→look y lo=some (rnV f a)
 | [],_,h=>by cases h
 | p::r,e,h=>by
   obtain ⟨e1,e2⟩:=List.cons.inj e
   rw [look_cons] at h
   cases hs:sq p.1 y with
   | true =>
     simp only [hs] at h
     cases h
     rw [← (sq_iff _ _).mp hs]
     exact e1
   | false=>simp only [hs] at h; exact lookAll_get e2 h
theorem okE_get {n:Nat} {y:Str} {a:AV} {lo:List (Str × AV)}:okE n lo=true→look y lo=some a→okV n a=true:=by
 induction lo with
 | nil=>exact fun _ h=>ceNS h
 | cons p r ih =>
   intro e h
   rw [look_cons] at h
   revert h
   cases sq p.1 y with
   | true=>intro h; cases h; exact (okE_cons e).1
   | false=>exact fun h=>ih (okE_cons e).2 h
theorem HS.sel {x:Cx} {ρ:List Addr} {σ:AS} {h:Heap} (H:HS x ρ σ h) (sel:List Nat) (hp':List AO) (lo':List (Str × AV)) (e:(sel.map fun j=>atI σ.hp j)=hp'.map fun ao=>some (rnO (nth sel) ao)) (b:(hp'.all (okO hp'.length))=true) (nd:nodupN sel=true)
   (el:lookAll σ.lo lo'=rnAll (nth sel) lo') (bl:okE hp'.length lo'=true) {ob:List Nat}:∃ ρ',HS x ρ' ⟨lo',hp',ob⟩ h∧Along ρ' ρ (nth sel) hp'.length:=by
 obtain ⟨m,os,F,HP,lr⟩:=H
 have hlen:sel.length=hp'.length:=by have:=congrArg List.length e; simpa using this
 have key:∀ i,i<sel.length→∃ ad o ao,ρ[nth sel i]?=some ad∧os[nth sel i]?=some o∧hp'[i]?=some ao∧OR ρ (rnO (nth sel) ao) o:=by
   intro i hi
   have h1:(sel.map fun j=>atI σ.hp j)[i]?=some (atI σ.hp (nth sel i)):=by rw [List.getElem?_map,nth_get hi]; rfl
   rw [e,List.getElem?_map] at h1
   obtain ⟨ao,h2,h3⟩:=Option.map_eq_some_iff.mp h1
   have h4:σ.hp[nth sel i]?=some (rnO (nth sel) ao):=by rw [← atI_eq]; exact h3.symm
   obtain ⟨ad,o,k1,k2,k3,k4⟩:=HP.get h4
   exact ⟨ad,o,ao,k1,k2,h2,k3⟩
 let ρ':=sel.map fun j=>(ρ[j]?).getD 0
 let os':=sel.map fun j=>(os[j]?).getD default
 have al:Along ρ' ρ (nth sel) hp'.length:=by
   intro i a hi ha
   show (sel.map _)[i]?=some a
   rw [List.getElem?_map,nth_get (hlen ▸ hi)]
   simp [ha]
 have memsel:∀ j∈sel,∃ ad o,ρ[j]?=some ad∧os[j]?=some o:=by
   intro j hj
   obtain ⟨i,hi⟩:=List.getElem?_of_mem hj
   have hil:i<sel.length:=(List.getElem?_eq_some_iff.mp hi).1
   obtain ⟨ad,o,ao,k1,k2,_⟩:=key i hil
   rw [nth_get hil] at hi
   cases hi
   exact ⟨ad,o,k1,k2⟩
 refine ⟨ρ',⟨m,os',F,⟨fun p hp=>?_,?_,fun p hp hm=>?_,?_,?_⟩,fun y a hy=>?_⟩,al⟩
 · rcases List.mem_append.mp hp with q | q
   · refine HP.nw p (List.mem_append_left _ ?_)
     have:∀ l:List Nat,(∀ j∈l,j∈sel)→p∈(l.map fun j=>(ρ[j]?).getD 0).zip (l.map fun j=>(os[j]?).getD default)→p∈ρ.zip os:=by
       intro l
       induction l with
       | nil=>intro _ h; cases h
       | cons j r ih =>
         intro hs h
         rw [List.map_cons,List.map_cons,List.zip_cons_cons] at h
         rcases List.mem_cons.mp h with rfl | h
         · obtain ⟨ad,o,k1,k2⟩:=memsel j (hs j (.head _))
           rw [k1,k2]
           exact zip_mem' k1 k2
         · exact ih (fun j hj=>hs j (.tail _ hj)) h
     exact this sel (fun _ hj=>hj) q
   · exact HP.nw p (List.mem_append_right _ q)
 · have:∀ l:List Nat,l.Nodup→(∀ j∈l,j∈sel)→(l.map fun j=>(ρ[j]?).getD 0).Nodup:=by
     intro l
     induction l with
     | nil=>intro _ _; exact List.nodup_nil
     | cons j r ih =>
       intro nd hs
       rw [List.nodup_cons] at nd
       rw [List.map_cons,List.nodup_cons]
       refine ⟨fun q=>?_,ih nd.2 fun j hj=>hs j (.tail _ hj)⟩
       obtain ⟨k,hk,ek⟩:=List.mem_map.mp q
       obtain ⟨ad,_,k1,_⟩:=memsel j (hs j (.head _))
       obtain ⟨ad',_,k1',_⟩:=memsel k (hs k (.tail _ hk))
       rw [k1,k1'] at ek
       simp at ek
       subst ek
       have:=(List.getElem?_inj (List.getElem?_eq_some_iff.mp k1).1 HP.nd).mp (k1.trans k1'.symm)
       subst this
       exact nd.1 hk
   exact this sel (nodupN_iff nd) fun _ hj=>hj
 · obtain ⟨j,hj,ej⟩:=List.mem_map.mp hm
   obtain ⟨ad,_,k1,_⟩:=memsel j hj
   rw [k1] at ej
   exact HP.dj p hp (ej ▸ List.mem_of_getElem? k1)
 · show (sel.map _).length=hp'.length
   rw [List.length_map,hlen]
 ·
   have:∀ (l:List AO) (k:List Nat),l.length=k.length→(∀ i,i<k.length→∃ o ao,os[nth k i]?=some o∧l[i]?=some ao∧okO hp'.length ao=true∧OR ρ (rnO (nth sel) ao) o)→ORs ρ' l (k.map fun j=>(os[j]?).getD default):=by
     intro l
     induction l with
     | nil =>
       intro k hk _
       cases k with
       | nil=>exact .nil
       | cons=>cases hk
     | cons a r ih =>
       intro k hk hh
       cases k with
       | nil=>cases hk
       | cons j k =>
         rw [List.map_cons]
         refine .cons ?_ (ih k (Nat.succ.inj hk) fun i hi=>?_)
         · obtain ⟨o,ao,e1,e2,e3,e4⟩:=hh 0 (Nat.succ_pos _)
           cases e2
           have e1:os[j]?=some o:=e1
           rw [e1]
           exact OR.sel al e3 e4
         · obtain ⟨o,ao,e1,e2,e3,e4⟩:=hh (i + 1) (Nat.succ_lt_succ hi)
           exact ⟨o,ao,e1,e2,e3,e4⟩
   refine this hp' sel hlen.symm fun i hi=>?_
   obtain ⟨ad,o,ao,k1,k2,k3,k4⟩:=key i hi
   exact ⟨o,ao,k2,k3,List.all_eq_true.mp b ao (List.mem_of_getElem? k3),k4⟩
 · have h1:=lookAll_get el hy
   obtain ⟨v,h2,h3⟩:=lr y _ h1
   exact ⟨v,h2,VR.sel al (okE_get bl hy) h3⟩
end
section
set_option maxHeartbeats 1000000
noncomputable abbrev Gl.slk (g:Gl) (k:Nat):Gl:={ g with sl:=k }
section
variable {g:Gl} {T T0:Tab} {n:Nat}
theorem CxOk.slk {x:Cx} (o:CxOk g x n) {k m:Nat} (h:m + k≤g.sl):CxOk (g.slk k) x m :=
 ⟨o.B,o.X,o.T,o.kd,o.hh,o.ck,o.kn,o.clk,o.cvo,by have:=o.dp; show x.A.depth + m + k<_; omega,by have:=o.un; show x.A.units + 8 * (m + k)<_; omega,o.EX⟩
theorem CxOk.wide {x:Cx} (o:CxOk g x n) {l:List (Addr × Obj)} (h:∀ p∈x.fz,p∈l):CxOk g (x.fzd l) n :=
 ⟨o.B,o.X,o.T,o.kd,o.hh,o.ck,o.kn,o.clk,fun c hc=>by obtain ⟨⟨oC,a,b⟩,d⟩:=o.cvo c hc; exact ⟨⟨oC,h _ a,b⟩,d⟩,o.dp,o.un,o.EX⟩
theorem VR.free {ρ ρ':List Addr}:∀ {a:AV} {v:Value},okV 0 a=true→VR ρ a v→VR ρ' a v
 | .obj _,_,h,_=>absurd (blt_lt h) (Nat.not_lt_zero _)
 | .none,_,_,e=>e
 | .bool _,_,_,e=>e
 | .int _,_,_,e=>e
 | .str _,_,_,e=>e
 | .top _,_,_,e=>e
 | .bi _,_,_,e=>e
theorem VRs.free {ρ ρ':List Addr} {as:List AV} {vs:List Value} (hk:okL 0 as=true) (h:VRs ρ as vs):VRs ρ' as vs:=by
 induction h with
 | nil=>exact .nil
 | cons hv _ ih=>exact .cons (hv.free (okL_cons hk).1) (ih (okL_cons hk).2)
theorem rnL_free {f:Nat→Nat} {as:List AV}:okL 0 as=true→rnL f as=as:=by
 induction as with
 | nil=>exact fun _=>rfl
 | cons a r ih =>
   intro h
   obtain ⟨e,h⟩:=okL_cons h
   refine (congrArg (rnV _ a::·) (ih h)).trans ?_
   cases a <;> first | rfl | exact absurd (blt_lt e) (Nat.not_lt_zero _)
theorem HSm.freeze {x:Cx} {ρ:List Addr} {σ:AS} {h:Heap} {m:Str→Option Value} (H:HSm x ρ σ h m):∃ fz,(∀ p∈x.fz,p∈fz)∧(∀ ob,HSm (x.fzd fz) [] ⟨[],[],ob⟩ h m) ∧
   ∀ (ρ₁:List Addr) (σ₁:AS) (h₁:Heap),HSm (x.fzd fz) ρ₁ σ₁ h₁ m→∃ os,Fr x.h₀ x.L h₁ (x.fm m)∧HpR x.h₀ x.L x.fz ρ σ.hp h₁ os∧LR ρ σ.lo (x.vm m)∧(∀ p∈ρ.zip os++x.fz,p∈fz)∧∀ p∈fz,p.1 ∉ ρ₁:=by
 obtain ⟨os,F,HP,l⟩:=H
 refine ⟨ρ.zip os++x.fz,fun p hp=>List.mem_append_right _ hp,fun ob=>⟨[],F,⟨HP.nw,List.nodup_nil,(fun _ _ h=>by cases h),rfl,.nil⟩,(fun y a e=>by cases e)⟩,fun ρ₁ σ₁ h₁ H₁=>?_⟩
 obtain ⟨os₁,F₁,HP₁,_⟩:=H₁
 exact ⟨os,F₁,⟨fun p hp=>HP₁.nw p (List.mem_append_right _ hp),HP.nd,HP.dj,HP.ln,HP.or⟩,l,fun p hp=>hp,HP₁.dj⟩
theorem pure_call {k m:Nat} (hk:m + k≤g.sl) (ok0:TabOk (g.slk k) T0) {a:Nat} {as:List AV} {v:AV} {σ₁:AS} (h:(interp T0 m).call (.top a) as [] ⟨[],[],[]⟩=.ok v σ₁) (oa:okL 0 as=true) (ov:okV 0 v=true) (σ:AS) :
   CallP g n (.top a) as [] σ v { σ with ob:=σ₁.ob++σ.ob }:=by
 intro x o A' hA hh hd hu z ρ s f' as' ks' mm Q H vf vas vks hQ
 cases vks
 obtain ⟨fz,sub,H0,back⟩:=H.freeze
 have c:=((sound ok0 m).call (.top a) as [] ⟨[],[],[]⟩).use h
 refine c (x.fzd fz) ((o.slk hk).wide sub) A' hA hh (by show A'.depth + m + k<_; omega) (by show A'.units + 8 * (m + k)<_; omega) (fun l hl=>z l (List.mem_append_left _ hl)) [] s f' as' [] mm Q (H0 _) (VR.free rfl vf) (VRs.free oa vas) .nil fun ρ₁ s₁ v₁ p₁ H₁ S₁ vr=>?_
 obtain ⟨os,F₁,HP₁,l₁,_⟩:=back ρ₁ σ₁ _ H₁
 exact hQ ρ s₁ v₁ (List.prefix_refl _) ⟨os,F₁,HP₁,l₁⟩ S₁ (vr.free ov)
theorem OR.free {ρ ρ':List Addr} {ao:AO} {o:Obj} (hk:okO 0 ao=true) (h:OR ρ ao o):OR ρ' ao o:=by
 exact OR.sel (f:=id) (n:=0) (fun i _ hi=>absurd hi (Nat.not_lt_zero _)) hk (by rw [rnO_id]; exact h)
theorem new_call {k m:Nat} (hk:m + k≤g.sl) (ok0:TabOk (g.slk k) T0) {a:Nat} {as:List AV} {j:Nat} {ao:AO} {σ₁:AS} (h:(interp T0 m).call (.top a) as [] ⟨[],[],[]⟩=.ok (.obj j) σ₁) (hj:atI σ₁.hp j=some ao) (oa:okL 0 as=true) (ov:okO 0 ao=true) (σ:AS) :
   CallP g n (.top a) as [] σ (.obj σ.hp.length) { σ with hp:=σ.hp++[ao],ob:=σ₁.ob++σ.ob }:=by
 intro x o A' hA hh hd hu z ρ s f' as' ks' mm Q H vf vas vks hQ
 cases vks
 obtain ⟨fz,sub,H0,back⟩:=H.freeze
 have c:=((sound ok0 m).call (.top a) as [] ⟨[],[],[]⟩).use h
 refine c (x.fzd fz) ((o.slk hk).wide sub) A' hA hh (by show A'.depth + m + k<_; omega) (by show A'.units + 8 * (m + k)<_; omega) (fun l hl=>z l (List.mem_append_left _ hl)) [] s f' as' [] mm Q (H0 _) (VR.free rfl vf) (VRs.free oa vas) .nil fun ρ₁ s₁ v₁ p₁ H₁ S₁ vr=>?_
 obtain ⟨os,F₁,HP₁,l₁,hin,hdj⟩:=back ρ₁ σ₁ _ H₁
 obtain ⟨ad,had,rfl⟩:=vr
 obtain ⟨os₁,_,HQ,_⟩:=H₁
 rw [atI_eq] at hj
 obtain ⟨ad',ob,k1,k2,k3,k4⟩:=HQ.get hj
 cases had.symm.trans k1
 have hmem:ad∈ρ₁:=List.mem_of_getElem? had
 have hne:∀ p∈ρ.zip os++x.fz,p.1 ≠ ad:=fun p hp e=>hdj p (hin p hp) (e ▸ hmem)
 have hnρ:ad ∉ ρ:=by
   intro q
   obtain ⟨i,hi⟩:=List.getElem?_of_mem q
   have hl:i<os.length:=HP₁.olen ▸ (List.getElem?_eq_some_iff.mp hi).1
   exact hne _ (zip_mem hi (List.getElem?_eq_getElem hl)) rfl
 have HP₂:=HP₁.adopt (h':=s₁.heap) (ao:=ao) (o:=ob) (a:=ad) (fun p hp=>by
   rcases List.mem_cons.mp hp with rfl | hp
   · exact HQ.nw _ k4
   · exact HP₁.nw p hp) hnρ (fun p hp=>hne p (List.mem_append_right _ hp)) (k3.free ov)
 refine hQ (ρ++[ad]) s₁ _ ⟨_,rfl⟩ ⟨_,F₁,HP₂,l₁.mono ⟨_,rfl⟩⟩ S₁ ⟨ad,?_,rfl⟩
 rw [← HP₁.ln,List.getElem?_append_right (Nat.le_refl _)]
 simp
end
end
section
set_option maxHeartbeats 1000000
noncomputable def chk (b:Bool):Nat:=match b with | true=>0 | false=>33554432
theorem chk_ok {b:Bool} (h:chk b≤sizeLine):b=true:=by
 cases b with
 | true=>rfl
 | false=>exact absurd h (by rw [sizeLine_eq]; decide)
noncomputable def lIdx (xs:List AV) (i:Int):Option AV:=match i with
 | .ofNat n=>atI xs n
 | .negSucc n=>match Nat.blt n xs.length with
   | true=>atI xs (xs.length - (n + 1))
   | false=>.none
noncomputable def binB (op:Operator) (a b:AV) (σ:AS):Option (R AV):=match op with
 | .Mod=>match a,b with
   | .int x,.int (.ofNat (k + 1))=>some (.ok (.int (x.fmod (Int.ofNat (k + 1)))) σ)
   | _,_=>.none
 | .FloorDiv=>match a,b with
   | .int x,.int (.ofNat (k + 1))=>some (.ok (.int (x.fdiv (Int.ofNat (k + 1)))) { σ with ob:=addOb (chk (Nat.ble (k + 1) 16777216)) σ.ob })
   | _,_=>.none
 | .BitAnd=>match a,b with
   | .int x,.int y=>some (.ok (.int (Builtin.bitAnd x y)) σ)
   | _,_=>.none
 | .Mult=>match a,b with
   | .int x,.int y=>some (.ok (.int (x * y)) { σ with ob:=addOb (chk (Nat.ble (Builtin.Int.intBits y) 64)) σ.ob })
   | _,_=>.none
 | .Add=>match a,b with
   | .obj k,.obj l=>(match listOf σ.hp k,listOf σ.hp l with
     | some xs,some ys=>some (.ok (.obj σ.hp.length) { σ with hp:=σ.hp++[.list (xs++ys)],ob:=addOb (xs.length + ys.length) σ.ob })
     | _,_=>.none)
   | _,_=>.none
 | _=>.none
noncomputable def subB (a b:AV) (σ:AS):Option (R AV):=match b with
 | .int i=>match a with
   | .str x=>some (.ok (.str (Txt.item x i)) { σ with ob:=addOb (chk (fitsSsize i&&(Txt.charAt x i).isSome)) σ.ob })
   | .obj k=>(match listOf σ.hp k with
     | some xs=>(match lIdx xs i with
       | some v=>some (.ok v { σ with ob:=addOb i.natAbs σ.ob })
       | .none=>.none)
     | .none=>.none)
   | _=>.none
 | _=>.none
noncomputable def intsO:Option AV→Option (Option Int)
 | .none=>some .none
 | some (.int i)=>some (some i)
 | _=>.none
noncomputable def slcB (a:AV) (l u:Option AV) (σ:AS):Option (R AV):=match a with
 | .str x=>(intsO l).bind fun l'=>(intsO u).bind fun u'=>some (.ok (.str (Txt.slice x l' u')) σ)
 | .obj k=>(match listOf σ.hp k with
   | some xs=>(match l,u with
     | some (.int (.ofNat n)),.none=>some (.ok (.obj σ.hp.length) { σ with hp:=σ.hp++[.list (xs.drop n)],ob:=addOb xs.length σ.ob })
     | _,_=>.none)
   | .none=>.none)
 | _=>.none
noncomputable def cmpB (op:CmpOp) (a b:AV) (_:AS):Option Bool:=match op with
 | .Is=>match a,b with
   | .bi .int,.bi .int=>some true
   | .bi .str,.bi .str=>some true
   | .bi .list,.bi .list=>some true
   | _,_=>.none
 | .IsNot=>match a,b with
   | .bi .int,.bi .int=>some false
   | .bi .str,.bi .str=>some false
   | .bi .list,.bi .list=>some false
   | _,_=>.none
 | _=>.none
section
variable {g:Gl}
theorem VRs.append {ρ:List Addr} {a b:List AV} {u v:List Value} (h:VRs ρ a u) (k:VRs ρ b v):VRs ρ (a++b) (u++v):=h.app k
theorem VRs.drop {ρ:List Addr}:∀ {a:List AV} {u:List Value} (n:Nat),VRs ρ a u→VRs ρ (a.drop n) (u.drop n)
 | _,_,0,h=>h
 | _,_,_ + 1,.nil=>.nil
 | _,_,n + 1,.cons _ h=>VRs.drop n h
theorem HS.adoptN {x:Cx} {ρ:List Addr} {σ:AS} {h h':Heap} {m:Str→Option Value} {os:List Obj} {D:Addr} {ao:AO} {o:Obj} {ob:List Nat} (HP:HpR x.h₀ x.L x.fz ρ σ.hp h os) (lr:LR ρ σ.lo (x.vm m)) (F':Fr x.h₀ x.L h' (x.fm m)) (N':News x.h₀ x.L h' ((D,o)::(ρ.zip os++x.fz)))
   (hD:h.objs.size≤D) (r:OR ρ ao o):HS x (ρ++[D]) { σ with hp:=σ.hp++[ao],ob:=ob } h'∧VR (ρ++[D]) (.obj σ.hp.length) (.ref D):=by
 refine ⟨⟨m,_,F',HpR.adopt (h:=h) HP N' (HP.fresh hD) (fun p hp e=>absurd (e ▸ Heap.lt_size (HP.nw p (List.mem_append_right _ hp)).1) (Nat.not_lt.mpr hD)) r,lr.mono ⟨_,rfl⟩⟩,D,?_,rfl⟩
 rw [← HP.ln,List.getElem?_append_right (Nat.le_refl _)]
 simp
theorem binB_s {op:Operator} {a b:AV} {σ:AS}:TSat σ (binB op a b σ) (Op2 g σ (binaryOp op) a b):=by
 cases op <;> first | exact True.intro | skip
 case Mod =>
   cases a <;> first | exact True.intro | skip
   cases b <;> first | exact True.intro | skip
   rename_i y
   cases y <;> first | exact True.intro | skip
   rename_i k
   cases k <;> first | exact True.intro | skip
   refine ⟨sfx_refl _,fun x o z ρ s a' b' Q H va vb hQ=>?_⟩
   obtain ⟨t,rfl⟩:=va
   obtain ⟨u,rfl⟩:=vb
   exact mod_int' (by simp; omega) (hQ.now H Same.of ⟨_,rfl⟩)
 case FloorDiv =>
   cases a <;> first | exact True.intro | skip
   cases b <;> first | exact True.intro | skip
   rename_i y
   cases y <;> first | exact True.intro | skip
   rename_i k
   cases k <;> first | exact True.intro | skip
   refine ⟨addOb_sfx _ _,fun x o z ρ s a' b' Q H va vb hQ=>?_⟩
   obtain ⟨t,rfl⟩:=va
   obtain ⟨u,rfl⟩:=vb
   exact floordiv_int (by simp; omega) (hQ.now ⟨H.ex⟩ Same.of ⟨_,rfl⟩) (.inl (PyProof.noPylong_small (Nat.lt_of_le_of_lt (Nat.le_of_ble_eq_true (chk_ok z.hd)) (by decide))))
 case BitAnd =>
   cases a <;> first | exact True.intro | skip
   cases b <;> first | exact True.intro | skip
   refine ⟨sfx_refl _,fun x o z ρ s a' b' Q H va vb hQ=>?_⟩
   obtain ⟨t,rfl⟩:=va
   obtain ⟨u,rfl⟩:=vb
   exact and_int (hQ.now H Same.of ⟨_,rfl⟩)
 case Mult =>
   cases a <;> first | exact True.intro | skip
   cases b <;> first | exact True.intro | skip
   refine ⟨addOb_sfx _ _,fun x o z ρ s a' b' Q H va vb hQ=>?_⟩
   obtain ⟨t,rfl⟩:=va
   obtain ⟨u,rfl⟩:=vb
   exact mul_int (hQ.now ⟨H.ex⟩ Same.of ⟨_,rfl⟩) (IntMulOk.of_right (Nat.le_of_ble_eq_true (chk_ok z.hd)))
 case Add =>
   cases a <;> first | exact True.intro | skip
   cases b <;> first | exact True.intro | skip
   rename_i k l
   unfold binB
   dsimp only
   cases hx:listOf σ.hp k with
   | none=>exact True.intro
   | some xs =>
   cases hy:listOf σ.hp l with
   | none=>exact True.intro
   | some ys =>
   refine ⟨addOb_sfx _ _,fun x o z ρ s a' b' Q H va vb hQ=>?_⟩
   obtain ⟨la,ha,rfl⟩:=va
   obtain ⟨lb,hb,rfl⟩:=vb
   obtain ⟨us,hL1,hu⟩:=H.isList hx ha
   obtain ⟨ws,hL2,hw⟩:=H.isList hy hb
   obtain ⟨m,os,F,HP,lr⟩:=H
   refine add_lists F HP.nw hL1 hL2 (fun h' F' N'=>?_) (by rw [← hu.len,← hw.len]; exact z.hd)
   obtain ⟨H2,hv⟩:=HS.adoptN (ob:=addOb (xs.length + ys.length) σ.ob) (ao:=.list (xs++ys)) HP lr F' N' (Nat.le_refl _) ⟨us++ws,0,rfl,hu.append hw⟩
   exact hQ _ _ _ ⟨_,rfl⟩ H2 Same.of hv
theorem tail_plain {slice:Expr} (h:isSlice slice=false) (a b:Value):subscripted slice false a b=operate [a,b] (getItem a b):=by
 cases slice <;> first | rfl | cases h
theorem lIdx_get {ρ:List Addr} {xs:List AV} {vs:List Value} (h:VRs ρ xs vs) {i:Int} {a:AV} (e:lIdx xs i=some a) :
   ∃ v,VR ρ a v∧((0≤i∧vs.toArray[i.toNat]?=some v) ∨ (i<0∧-(vs.toArray.size:Int)≤i∧vs.toArray[(i + vs.toArray.size).toNat]?=some v)):=by
 cases i with
 | ofNat n =>
   obtain ⟨v,h1,h2⟩:=at_item h e
   exact ⟨v,h2,.inl ⟨Int.natCast_nonneg n,h1⟩⟩
 | negSucc n =>
   unfold lIdx at e
   dsimp only at e
   revert e
   cases hb:Nat.blt n xs.length with
   | false=>exact fun e=>ceNS e
   | true =>
     refine fun e=>?_
     have hlt:=blt_lt hb
     have hl:=h.len
     obtain ⟨v,h1,h2⟩:=at_item h e
     refine ⟨v,h2,.inr ⟨Int.negSucc_lt_zero n,?_,?_⟩⟩
     · rw [List.size_toArray]; omega
     · rw [show (Int.negSucc n + (vs.toArray.size:Int)).toNat=xs.length - (n + 1) by rw [List.size_toArray]; omega]
       exact h1
theorem subB_s {a b:AV} {σ:AS}:TSat σ (subB a b σ) (SubP g σ a b):=by
 cases b <;> first | exact True.intro | skip
 rename_i i
 cases a <;> first | exact True.intro | skip
 · rename_i y
   refine ⟨addOb_sfx _ _,fun value slice hsl x o z ρ s a' b' Q H va vb hQ=>?_⟩
   obtain ⟨u,rfl⟩:=vb
   obtain ⟨⟨t,rfl⟩,hl⟩:=va
   obtain ⟨c1,c2⟩:=Bool.and_eq_true_iff.mp (chk_ok z.hd)
   refine tail_any (T := "str") (typeIs_str _ _ _) slot_str_getitem.lookup (SB.getItem c1 c2 (hQ.now ⟨H.ex⟩ Same.of ⟨⟨_,rfl⟩,?_⟩)) (tail_plain hsl _ _)
   show (Txt.item y i).length≤sizeLine
   rw [sizeLine_eq,show (Txt.item y i).length=1 from rfl]
   decide
 · rename_i k
   unfold subB
   dsimp only
   cases hx:listOf σ.hp k with
   | none=>exact True.intro
   | some xs =>
   dsimp only
   cases hi:lIdx xs i with
   | none=>exact True.intro
   | some a =>
   refine ⟨addOb_sfx _ _,fun value slice hsl x o z ρ s a' b' Q H va vb hQ=>?_⟩
   obtain ⟨u,rfl⟩:=vb
   obtain ⟨la,ha,rfl⟩:=va
   obtain ⟨us,hL,hu⟩:=H.isList hx ha
   obtain ⟨w,hw,hcase⟩:=lIdx_get hu hi
   have zi:=z.hd
   rw [sizeLine_eq] at zi
   have q:=hQ.now ⟨H.ex⟩ Same.rfl hw
   rcases hcase with ⟨h0,h1⟩ | ⟨h0,h2,h1⟩
   · exact tail_any hL.typeIs slot_list_getitem.lookup (wpAny_getItem_list hL h0 (by omega) h1 q) (tail_plain hsl _ _)
   · exact tail_any hL.typeIs slot_list_getitem.lookup (wpAny_getItem_list_neg hL h0 h2 (by omega) h1 q) (tail_plain hsl _ _)
theorem is_type_same {M:Model} {A:Around} {E:Value→Shared→Prop} {s:Shared} {X:String} {Q:Value→Shared→Prop} (h:Q (.bool true) s):wpAny M A (compareOp .Is (.type X) (.type X)) Q E s:=by
 have e:(Value.type X==Value.type X)=true:=by simp
 exact wpAny_pure (a:=Value.bool (Value.type X==Value.type X)) (by rw [e]; exact h)
theorem cmpB_s {op:CmpOp} {a b:AV} {σ:AS}:OSat (cmpB op a b σ) (CmpP g σ op a b):=by
 cases op <;> first | exact True.intro | skip
 all_goals
   cases a <;> first | exact True.intro | skip
   rename_i x
   cases x <;> first | exact True.intro | skip
 all_goals
   cases b <;> first | exact True.intro | skip
   rename_i y
   cases y <;> first | exact True.intro | skip
   refine fun x o z ρ s a' b' Q H va vb hQ=>?_
   cases va
   cases vb
   have h:=hQ ρ s (List.prefix_refl _) H Same.rfl
   first | exact is_type_same h | exact isnot_type_same h
theorem ovr_int {ρ:List Addr} {l:Option AV} {l':Option Int} {v:Value} (h:intsO l=some l') (o:OVR ρ l v):match l' with
   | .none=>v=.none
   | some i=>∃ t,v=.int i t:=by
 cases l with
 | none=>cases h; exact o
 | some a=>cases a <;> first | exact ceNS h | (cases h; exact o)
theorem slcB_s {a:AV} {l u:Option AV} {σ:AS}:TSat σ (slcB a l u σ) (SlcP g σ a l u):=by
 cases a <;> first | exact True.intro | skip
 · rename_i y
   unfold slcB
   dsimp only
   cases hl:intsO l with
   | none=>exact True.intro
   | some l' =>
   cases hu:intsO u with
   | none=>exact True.intro
   | some u' =>
   refine ⟨sfx_refl _,fun value el eu q x o z ρ s a' lv uv Q H va vl vu hQ=>?_⟩
   obtain ⟨⟨t,rfl⟩,hlen⟩:=va
   have fin:∀ h' t' k,HS x ρ σ h'→Q (.str (Txt.slice y l' u') t') { s with heap:=h',toks:=k }:=fun h' t' k H'=>hQ.now H' Same.of ⟨⟨t',rfl⟩,Nat.le_trans (Txt.slice_le y l' u') hlen⟩
   obtain ⟨m,os,F,HP,lo⟩:=H
   have fin:∀ h' t' k,Fr x.h₀ x.L h' (x.fm m)→News x.h₀ x.L h' (ρ.zip os++x.fz)→Q (.str (Txt.slice y l' u') t') { s with heap:=h',toks:=k }:=fun h' t' k F' N'=>fin h' t' k ⟨m,os,F',⟨N',HP.nd,HP.dj,HP.ln,HP.or⟩,lo⟩
   have vl:=ovr_int hl vl
   have vu:=ovr_int hu vu
   cases l' with
   | none =>
     have vl:lv=.none:=vl
     subst vl
     cases u' with
     | none =>
               have vu:uv=.none:=vu
               subst vu
               exact slice_strN_nn F HP.nw fin rfl (fun _=>letGo_str) hlen
     | some j=>obtain ⟨_,rfl⟩:=vu; exact slice_strN_ns F HP.nw fin rfl (fun _=>letGo_str) hlen
   | some i =>
     obtain ⟨_,rfl⟩:=vl
     cases u' with
     | none =>
               have vu:uv=.none:=vu
               subst vu
               exact slice_strN_sn F HP.nw fin rfl (fun _=>letGo_str) hlen
     | some j=>obtain ⟨_,rfl⟩:=vu; exact slice_strN_ss F HP.nw fin rfl (fun _=>letGo_str) hlen
 · rename_i k
   unfold slcB
   dsimp only
   cases hx:listOf σ.hp k with
   | none=>exact True.intro
   | some xs =>
   cases l with
   | none=>exact True.intro
   | some l =>
   cases l <;> first | exact True.intro | skip
   rename_i n
   cases n <;> first | exact True.intro | skip
   rename_i nn
   cases u with
   | some=>exact True.intro
   | none =>
   refine ⟨addOb_sfx _ _,fun value el eu q x o z ρ s a' lv uv Q H va vl vu hQ=>?_⟩
   obtain ⟨la,ha,rfl⟩:=va
   obtain ⟨us,hL,hu⟩:=H.isList hx ha
   obtain ⟨tt,rfl⟩:=vl
   cases vu
   obtain ⟨m,os,F,HP,lr⟩:=H
   have hsz:us.toArray.size≤sizeLine:=by
     rw [List.size_toArray,← hu.len]; exact z.hd
   refine tail_any (ops:=[.ref s.heap.objs.size,.ref la]) (Heap.IsList.typeIs (s:={ s with heap:=s.heap.push { cls:=.type "slice",data:=.fields #[.int nn tt,.none,.none] } }) (hL.push _)) slot_list_getitem.lookup
     (wpAny_getItem_list_slice (hL.push _) (Heap.IsSliceOf.new ..) (.int nn tt) .none .none (by simp) ?_ hsz) rfl
   rw [slicePick_from']
   have N1:=News.push (F.push { cls:=.type "slice",data:=.fields #[.int nn tt,.none,.none] }) (HP.nw.grown fun _ _ e=>Heap.get?_push_of_some _ e) (listO (us.drop nn) 0)
   obtain ⟨H2,hv⟩:=HS.adoptN (ob:=addOb xs.length σ.ob) (ao:=.list (xs.drop nn)) HP lr ((F.push _).push _) N1 (by rw [Heap.size_push]; exact Nat.le_succ _) ⟨us.drop nn,0,rfl,hu.drop nn⟩
   exact hQ _ _ _ ⟨_,rfl⟩ H2 Same.of hv
end
end
section
set_option maxHeartbeats 1000000
noncomputable def noOcc (x y:Str):Bool:=(Builtin.Str.occurrences x y 0 x.length (x.length + 1)).isEmpty
noncomputable def bicB (b:Bi) (as:List AV) (σ:AS):Option (R AV):=match b with
 | .len=>match as with
   | [.str s]=>some (.ok (.int s.length) σ)
   | [.obj k]=>(match listOf σ.hp k with
     | some xs=>some (.ok (.int xs.length) { σ with ob:=addOb xs.length σ.ob })
     | .none=>.none)
   | _=>.none
 | .type=>match as with
   | [.int _]=>some (.ok (.bi .int) σ)
   | [.str _]=>some (.ok (.bi .str) σ)
   | [.obj k]=>(match listOf σ.hp k with
     | some _=>some (.ok (.bi .list) σ)
     | .none=>.none)
   | _=>.none
 | .int=>match as with
   | [.int i]=>some (.ok (.int i) σ)
   | _=>.none
 | .lAppend=>match as with
   | [.obj k,v]=>(match listOf σ.hp k with
     | some xs=>some (.ok .none { σ with hp:=setAt σ.hp k (.list (xs++[v])),ob:=addOb xs.length σ.ob })
     | .none=>.none)
   | _=>.none
 | .lExtend=>match as with
   | [.obj k,.obj l]=>(match listOf σ.hp k,listOf σ.hp l with
     | some xs,some ys=>some (.ok .none { σ with hp:=setAt σ.hp k (.list (xs++ys)),ob:=addOb (xs.length + ys.length) σ.ob })
     | _,_=>.none)
   | _=>.none
 | .sJoin=>match as with
   | [.str x,.obj k]=>(match listOf σ.hp k with
     | some xs=>(match strsA xs with
       | some ys=>some (.ok (.str (Txt.join x ys)) { σ with ob:=addOb (chk (JoinOk x ys)) σ.ob })
       | .none=>.none)
     | .none=>.none)
   | _=>.none
 | .sReplace=>match as with
   | [.str x,.str y,.str _]=>some (.ok (.str x) { σ with ob:=addOb (chk (noOcc x y)) σ.ob })
   | _=>.none
 | _=>.none
noncomputable def nmJoin:Str:=⟨⟨[106,111,105,110]⟩⟩
noncomputable def nmReplace:Str:=⟨⟨[114,101,112,108,97,99,101]⟩⟩
noncomputable def nmExtend:Str:=⟨⟨[101,120,116,101,110,100]⟩⟩
noncomputable def mbiB (v:AV) (n:Str) (hp:List AO):Option (Bi × Bool):=match v with
 | .str _=>match sq n nmJoin with
   | true=>some (.sJoin,false)
   | false=>match sq n nmReplace with
     | true=>some (.sReplace,false)
     | false=>.none
 | .obj k=>(match listOf hp k with
   | some _=>(match sq n nmAppend with
     | true=>some (.lAppend,false)
     | false=>match sq n nmExtend with
       | true=>some (.lExtend,false)
       | false=>.none)
   | .none=>.none)
 | _=>.none
section
variable {g:Gl}
theorem strs_vals {ρ:List Addr} {xs:List AV} {ys:List Str} {vs:List Value} (h:strsA xs=some ys) (v:VRs ρ xs vs):∃ l:List (Str × Tok),vs=strValues l∧l.map (·.1)=ys:=by
 induction v generalizing ys with
 | nil=>cases h; exact ⟨[],rfl,rfl⟩
 | cons hv hr ih =>
   obtain ⟨y,zs,rfl,hz,rfl⟩:=strsA_cons h
   obtain ⟨⟨t,rfl⟩,_⟩:=hv
   obtain ⟨l,rfl,rfl⟩:=ih hz
   exact ⟨(y,t)::l,rfl,rfl⟩
theorem listOf_get {σ:AS} {k:Nat} {xs:List AV} (h:listOf σ.hp k=some xs):σ.hp[k]?=some (.list xs):=by
 rw [← atI_eq]
 unfold listOf at h
 revert h
 cases atI σ.hp k with
 | none=>exact fun h=>ceNS h
 | some ao=>cases ao <;> first | exact fun h=>ceNS h | (intro h; cases h; rfl)
theorem HS.listObj {x:Cx} {ρ:List Addr} {σ:AS} {h:Heap} (H:HS x ρ σ h) {k:Nat} {xs:List AV} {ax:Addr} (hl:listOf σ.hp k=some xs) (ha:ρ[k]?=some ax):∃ (vs:List Value) (n:Nat),h.get? ax=some (listO vs n)∧VRs ρ xs vs∧k<σ.hp.length:=by
 obtain ⟨m,os,F,HP,lr⟩:=H
 have e:=listOf_get hl
 obtain ⟨a2,o,h1,h2,ho,hm⟩:=HP.get e
 cases ha.symm.trans h1
 obtain ⟨vs,n,rfl,hv⟩:=ho
 exact ⟨vs,n,(HP.nw _ hm).1,hv,(List.getElem?_eq_some_iff.mp e).1⟩
theorem mbiB_s {v:AV} {n:Str} {σ:AS}:OSat (mbiB v n σ.hp) (MbiP g σ v n):=by
 cases v <;> first | exact True.intro | skip
 · unfold mbiB
   dsimp only
   cases hs:sq n nmJoin with
   | true =>
     refine ⟨⟨_,rfl⟩,fun x o ρ s v' pl Q H vr hQ=>?_⟩
     rw [show n=("join" : Str) from (sq_iff _ _).mp hs]
     obtain ⟨⟨t,rfl⟩,_⟩:=vr
     exact GM.join (hQ s.toks)
   | false =>
   dsimp only
   cases hs:sq n nmReplace with
   | true =>
     refine ⟨⟨_,rfl⟩,fun x o ρ s v' pl Q H vr hQ=>?_⟩
     rw [show n=("replace" : Str) from (sq_iff _ _).mp hs]
     obtain ⟨⟨t,rfl⟩,_⟩:=vr
     exact GM.replace (hQ s.toks)
   | false=>exact True.intro
 · rename_i k
   unfold mbiB
   dsimp only
   cases hx:listOf σ.hp k with
   | none=>exact True.intro
   | some xs =>
   have nd:∀ {x:Cx} {ρ:List Addr} {s:Shared} {ax:Addr},HS x ρ σ s.heap→ρ[k]?=some ax→∃ vs:List Value,s.heap.IsList ax vs.toArray∧s.heap.NoDictAt (.ref ax):=by
     intro x ρ s ax H ha
     obtain ⟨vs,nn,h1,h2,_⟩:=H.listObj hx ha
     exact ⟨vs,⟨_,h1,rfl,nn,rfl⟩,⟨_,h1,rfl⟩⟩
   dsimp only
   cases hs:sq n nmAppend with
   | true =>
     refine ⟨⟨_,rfl⟩,fun x o ρ s v' pl Q H vr hQ=>?_⟩
     rw [show n=("append" : Str) from (sq_iff _ _).mp hs]
     obtain ⟨ax,ha,rfl⟩:=vr
     obtain ⟨vs,hL,hd⟩:=nd H ha
     exact getMethod_list_of slot_list_append F.type_list_append hL hd (hQ s.toks)
   | false =>
   dsimp only
   cases hs:sq n nmExtend with
   | true =>
     refine ⟨⟨_,rfl⟩,fun x o ρ s v' pl Q H vr hQ=>?_⟩
     rw [show n=("extend" : Str) from (sq_iff _ _).mp hs]
     obtain ⟨ax,ha,rfl⟩:=vr
     obtain ⟨vs,hL,hd⟩:=nd H ha
     exact getMethod_list_of F.slot_list_extend F.type_list_extend hL hd (hQ s.toks)
   | false=>exact True.intro
theorem vrs1 {ρ:List Addr} {a:AV} {vs:List Value} {C:Prop} (h:VRs ρ [a] vs) (k:∀ v,VR ρ a v→vs=[v]→C):C:=by
 cases h with
 | cons h1 h2=>cases h2; exact k _ h1 rfl
theorem vrs2 {ρ:List Addr} {a b:AV} {vs:List Value} {C:Prop} (h:VRs ρ [a,b] vs) (k:∀ v w,VR ρ a v→VR ρ b w→vs=[v,w]→C):C:=by
 cases h with
 | cons h1 h2=>exact vrs1 h2 fun w h3 e=>k _ w h1 h3 (by rw [e])
theorem vrs3 {ρ:List Addr} {a b c:AV} {vs:List Value} {C:Prop} (h:VRs ρ [a,b,c] vs) (k:∀ v w u,VR ρ a v→VR ρ b w→VR ρ c u→vs=[v,w,u]→C):C:=by
 cases h with
 | cons h1 h2=>exact vrs2 h2 fun w u h3 h4 e=>k _ w u h1 h3 h4 (by rw [e])
theorem op1 {a r:AV} {σ σ':AS} {t:List Value→Sem Value} (h:∀ x,CxOk g x 1→Sz σ'.ob→∀ ρ s a' (Q:Value→Shared→Prop),HS x ρ σ s.heap→VR ρ a a'→Cnt VR x ρ s r σ' Q→wpAny (model g.prog g.w) x.A (t [a']) Q EF s):OpP g σ [a] t r σ' :=
 fun x o z ρ s as' Q H vas hQ=>vrs1 vas fun v hv e=>e ▸ h x o z ρ s v Q H hv hQ
theorem op2 {a b r:AV} {σ σ':AS} {t:List Value→Sem Value} (h:Op2 g σ (fun v w=>t [v,w]) a b r σ'):OpP g σ [a,b] t r σ' :=
 fun x o z ρ s as' Q H vas hQ=>vrs2 vas fun v w hv hw e=>e ▸ h x o z ρ s v w Q H hv hw hQ
theorem op3 {a b c r:AV} {σ σ':AS} {t:List Value→Sem Value} (h:∀ x,CxOk g x 1→Sz σ'.ob→∀ ρ s a' b' c' (Q:Value→Shared→Prop),HS x ρ σ s.heap→VR ρ a a'→VR ρ b b'→VR ρ c c'→Cnt VR x ρ s r σ' Q→wpAny (model g.prog g.w) x.A (t [a',b',c']) Q EF s):OpP g σ [a,b,c] t r σ' :=
 fun x o z ρ s as' Q H vas hQ=>vrs3 vas fun v w u hv hw hu e=>e ▸ h x o z ρ s v w u Q H hv hw hu hQ
theorem len_s {as:List AV} {σ:AS}:TSat σ (bicB .len as σ) (OpP g σ as (call Bi.len.val ·)):=by
 rcases as with _ | ⟨a,_ | _⟩ <;> first | exact True.intro | skip
 all_goals cases a <;> first | exact True.intro | skip
 · refine ⟨sfx_refl _,op1 fun x o z ρ s a' Q H va hQ=>?_⟩
   obtain ⟨⟨t,rfl⟩,hl⟩:=va
   exact len_str (sizeLine63 hl) (hQ.now H Same.of ⟨_,rfl⟩)
 · rename_i k
   unfold bicB
   dsimp only
   cases hx:listOf σ.hp k with
   | none=>exact True.intro
   | some xs =>
   refine ⟨addOb_sfx _ _,op1 fun x o z ρ s a' Q H va hQ=>?_⟩
   obtain ⟨ax,ha,rfl⟩:=va
   obtain ⟨us,hL,hu⟩:=H.isList hx ha
   have zl:=z.hd
   rw [sizeLine_eq] at zl
   exact len_list hL (by rw [List.size_toArray,← hu.len]; omega) (hQ.now ⟨H.ex⟩ Same.of ⟨_,by rw [List.size_toArray,hu.len]⟩)
theorem typ_s {as:List AV} {σ:AS}:TSat σ (bicB .type as σ) (OpP g σ as (call Bi.type.val ·)):=by
 rcases as with _ | ⟨a,_ | _⟩ <;> first | exact True.intro | skip
 all_goals cases a <;> first | exact True.intro | skip
 · refine ⟨sfx_refl _,op1 fun x o z ρ s a' Q H va hQ=>?_⟩
   obtain ⟨t,rfl⟩:=va
   exact call_type_of (typeIs_int _ _ _) (by decide +kernel) (hQ.now H Same.rfl rfl)
 · refine ⟨sfx_refl _,op1 fun x o z ρ s a' Q H va hQ=>?_⟩
   obtain ⟨⟨t,rfl⟩,_⟩:=va
   exact call_type_of (typeIs_str _ _ _) (by decide +kernel) (hQ.now H Same.rfl rfl)
 · rename_i k
   unfold bicB
   dsimp only
   cases hx:listOf σ.hp k with
   | none=>exact True.intro
   | some xs =>
   refine ⟨sfx_refl _,op1 fun x o z ρ s a' Q H va hQ=>?_⟩
   obtain ⟨ax,ha,rfl⟩:=va
   obtain ⟨us,hL,hu⟩:=H.isList hx ha
   exact call_type_of hL.typeIs (by decide +kernel) (hQ.now H Same.rfl rfl)
theorem int_s {as:List AV} {σ:AS}:TSat σ (bicB .int as σ) (OpP g σ as (call Bi.int.val ·)):=by
 rcases as with _ | ⟨a,_ | _⟩ <;> first | exact True.intro | skip
 all_goals cases a <;> first | exact True.intro | skip
 refine ⟨sfx_refl _,op1 fun x o z ρ s a' Q H va hQ=>?_⟩
 obtain ⟨t,rfl⟩:=va
 exact call_int_int (hQ.now H Same.rfl ⟨_,rfl⟩)
theorem app_s {as:List AV} {σ:AS}:TSat σ (bicB .lAppend as σ) (OpP g σ as (call Bi.lAppend.val ·)):=by
 rcases as with _ | ⟨a,_ | ⟨b,_ | _⟩⟩ <;> first | exact True.intro | (cases a <;> exact True.intro) | skip
 cases a <;> first | exact True.intro | skip
 rename_i k
 unfold bicB
 dsimp only
 cases hx:listOf σ.hp k with
 | none=>exact True.intro
 | some xs =>
 refine ⟨addOb_sfx _ _,op2 fun x o z ρ s a' b' Q H va vb hQ=>?_⟩
 obtain ⟨ax,ha,rfl⟩:=va
 obtain ⟨us,nn,h1,hu,hlt⟩:=H.listObj hx ha
 refine append_at (hsz:=by rw [List.size_toArray,← hu.len]; exact z.hd) h1 fun h' hs ho=>?_
 have H₂:=H.upd (ao:=.list (xs++[b])) ha hlt hs ho ⟨us++[b'],nn + 1,by simp [listO],hu.snoc vb⟩
 rw [← setAt_eq] at H₂
 exact hQ.now ⟨H₂.ex⟩ Same.of rfl
theorem ext_s {as:List AV} {σ:AS}:TSat σ (bicB .lExtend as σ) (OpP g σ as (call Bi.lExtend.val ·)):=by
 rcases as with _ | ⟨a,_ | ⟨b,_ | _⟩⟩ <;> first | exact True.intro | (cases a <;> exact True.intro) | (cases a <;> first | exact True.intro | (cases b <;> exact True.intro)) | skip
 cases a <;> first | exact True.intro | skip
 cases b <;> first | exact True.intro | skip
 rename_i k l
 unfold bicB
 dsimp only
 cases hx:listOf σ.hp k with
 | none=>exact True.intro
 | some xs =>
 cases hy:listOf σ.hp l with
 | none=>exact True.intro
 | some ys =>
 refine ⟨addOb_sfx _ _,op2 fun x o z ρ s a' b' Q H va vb hQ=>?_⟩
 obtain ⟨ax,ha,rfl⟩:=va
 obtain ⟨bx,hb,rfl⟩:=vb
 obtain ⟨us,nn,h1,hu,hlt⟩:=H.listObj hx ha
 obtain ⟨ws,mm,h2,hw,_⟩:=H.listObj hy hb
 have zl:us.toArray.size + ws.toArray.size≤sizeLine:=by
   rw [List.size_toArray,List.size_toArray,← hu.len,← hw.len]; exact z.hd
 refine call_meets F.slot_list_extend ⟨_,h1,rfl⟩ F.entry_list_extend (F.args_list_extend_2 _ _) (AutoSeq1.list_extend_list_list_0 ax us.toArray nn bx ws.toArray mm (extend_door zl) (Nat.le_trans (Nat.le_add_right _ _) zl)) ⟨h1,h2,?_⟩
 have e:us.toArray++ws.toArray=(us++ws).toArray:=by simp
 have em:Obj.mapSeq (fun x=>x++ws.toArray) (listO us nn)=listO (us++ws) (if (us.toArray++ws.toArray).size==us.toArray.size then nn else nn + 1):=by
   unfold listO
   rw [mapSeq_app,e]
 have ho':(s.heap.update ax (Obj.mapSeq fun x=>x++ws.toArray)).get? ax=some (listO (us++ws) (if (us.toArray++ws.toArray).size==us.toArray.size then nn else nn + 1)):=by
   rw [Heap.get?_update_self _ h1 (by rw [em]; rfl),em]
 have H₂:=H.upd (ao:=.list (xs++ys)) ha hlt (Heap.SameBut.update ..) ho' ⟨us++ws,_,rfl,hu.append hw⟩
 rw [← setAt_eq] at H₂
 exact hQ.now ⟨H₂.ex⟩ Same.of rfl
theorem joi_s {as:List AV} {σ:AS}:TSat σ (bicB .sJoin as σ) (OpP g σ as (call Bi.sJoin.val ·)):=by
 rcases as with _ | ⟨a,_ | ⟨b,_ | _⟩⟩ <;> first | exact True.intro | (cases a <;> exact True.intro) | (cases a <;> first | exact True.intro | (cases b <;> exact True.intro)) | skip
 cases a <;> first | exact True.intro | skip
 cases b <;> first | exact True.intro | skip
 rename_i y k
 unfold bicB
 dsimp only
 cases hx:listOf σ.hp k with
 | none=>exact True.intro
 | some xs =>
 dsimp only
 cases hy:strsA xs with
 | none=>exact True.intro
 | some ys =>
 refine ⟨addOb_sfx _ _,op2 fun x o z ρ s a' b' Q H va vb hQ=>?_⟩
 obtain ⟨⟨t,rfl⟩,_⟩:=va
 obtain ⟨bx,hb,rfl⟩:=vb
 obtain ⟨us,hL,hu⟩:=H.isList hx hb
 obtain ⟨l,rfl,hl⟩:=strs_vals hy hu
 have c:=chk_ok z.hd
 exact SC.join hL hl c fun t' k=>hQ.now ⟨H.ex⟩ Same.of ⟨⟨_,rfl⟩,joinOk_length c⟩
theorem rpl_s {as:List AV} {σ:AS}:TSat σ (bicB .sReplace as σ) (OpP g σ as (call Bi.sReplace.val ·)):=by
 rcases as with _ | ⟨a,_ | ⟨b,_ | ⟨cc,_ | _⟩⟩⟩ <;> first | exact True.intro | (cases a <;> exact True.intro) | (cases a <;> first | exact True.intro | (cases b <;> exact True.intro)) | (cases a <;> first | exact True.intro | (cases b <;> first | exact True.intro | (cases cc <;> exact True.intro))) | skip
 cases a <;> first | exact True.intro | skip
 cases b <;> first | exact True.intro | skip
 cases cc <;> first | exact True.intro | skip
 rename_i a b cc
 refine ⟨addOb_sfx _ _,op3 fun x o z ρ s a' b' c' Q H va vb vc hQ=>?_⟩
 obtain ⟨⟨t,rfl⟩,hl⟩:=va
 obtain ⟨⟨u,rfl⟩,_⟩:=vb
 obtain ⟨⟨u',rfl⟩,_⟩:=vc
 have c:=chk_ok z.hd
 unfold noOcc at c
 have e:((Builtin.Str.occurrences a b 0 a.length (a.length + 1)).isEmpty || (b.length==0&&cc.length==0))=true:=by rw [c]; rfl
 refine call_gives F.slot_str_replace (typeIs_str _ _ _) F.entry_str_replace (F.args_str_replace_3 _ _ _) (gives_str_replace a b cc t u u' fun q=>by rw [e] at q; cases q) ?_
 rw [if_pos e]
 exact hQ.now ⟨H.ex⟩ Same.rfl ⟨⟨t,rfl⟩,hl⟩
theorem bicB_s {b:Bi} {as:List AV} {σ:AS}:TSat σ (bicB b as σ) (OpP g σ as (call b.val ·)):=by
 cases b <;> first | exact True.intro | exact len_s | exact typ_s | exact int_s | exact app_s | exact ext_s | exact joi_s | exact rpl_s
end
end
section
set_option maxHeartbeats 1000000
noncomputable def runK {α:Type} (K:Frag):Nat→Sem α→Option α
 | 0,_=>.none
 | n + 1,t=>match t with
   | .pure a=>some a
   | .rule _ k=>runK K n (k ())
   | .at _ k=>runK K n (k ())
   | .point _ k=>runK K n (k ())
   | .load a _ k=>match K.lookup a with
     | some o=>runK K n (k o)
     | .none=>.none
   | _=>.none
theorem runK_s {α:Type} {K:Frag} {M:Model} {A:Around} {E:Value→Shared→Prop} {s:Shared} {Q:α→Shared→Prop} (X:K.In s.heap):∀ (n:Nat) (t:Sem α) (v:α),runK K n t=some v→Q v s→wpAny M A t Q E s
 | 0,_,_,h,_=>by cases h
 | n + 1,t,v,h,q=>by
   cases t with
   | pure a=>cases h; exact wpAny_pure q
   | rule tag k=>exact fun Γ p hΓ=>runK_s X n (k ()) v h q Γ p hΓ
   | «at» pos k=>exact fun Γ p hΓ=>runK_s X n (k ()) v h q Γ pos hΓ
   | point l k=>exact fun Γ p hΓ=>runK_s X n (k ()) v h q Γ p hΓ
   | load a part k =>
     change (match K.lookup a with | some o=>runK K n (k o) | .none=>.none)=some v at h
     cases e:K.lookup a with
     | none=>rw [e] at h; cases h
     | some o =>
       rw [e] at h
       exact wpAny_bind (m:=loadPart a part) (f:=k) (wpAny_loadPart (X _ _ e) (runK_s X n (k o) v h q))
   | _=>cases h
theorem bindsK {K:Frag} {s:Shared} {fd:FuncData} {args:Args} {bs:List (Str × Value)} (X:K.In s.heap) (n:Nat) (h:runK K n (bindArgs fd args)=some bs):BindsTo s fd args bs :=
 fun _ _ _ _ hq=>runK_s X n _ _ h hq
noncomputable def OB (K:Frag) (a:Nat):Obj:=(K.lookup a).getD default
noncomputable def FD (K:Frag) (a:Nat):FuncData:=match (OB K a).data with | .func f=>f | _=>default
noncomputable def bodyK (K:Frag) (a:Nat):List Stmt:=match (FD K a).body with | .stmts b=>b | _=>[]
noncomputable abbrev fnOfK (K:Frag) (a:Nat):FuncData:=fnOf (FD K a).name (FD K a).qualname (FD K a).params (bodyK K a) (FD K a).scope (FD K a).defaults (FD K a).kwdefaults (FD K a).doc (FD K a).pyModule (FD K a).annotations (FD K a).code (FD K a).closureTuple
noncomputable def fnK (K:Frag) (a:Nat) (prm kws:List Str) (dfl:List (Str × AV)):FnI:=⟨prm,(FD K a).scope.names,bodyK K a,kws,dfl⟩
noncomputable def vrB:AV→Value→Bool
 | .none,.none=>true
 | .bool b,.bool c=>b==c
 | .int i,.int j _=>i==j
 | .str s,.str u _=>sq s u&&Nat.ble s.length 1000
 | _,_=>false
theorem vrB_ok {a:AV} {v:Value} (h:vrB a v=true):VR [] a v:=by
 cases a <;> first | exact ceFT h | skip
 all_goals cases v <;> first | exact ceFT h | skip
 · rfl
 · rw [beq_iff_eq.mp h]; rfl
 · rw [beq_iff_eq.mp h]; exact ⟨_,rfl⟩
 · obtain ⟨h1,h2⟩:=Bool.and_eq_true_iff.mp h
   rw [(sq_iff _ _).mp h1]
   exact ⟨⟨_,rfl⟩,Nat.le_trans (Nat.le_of_ble_eq_true (by rw [← (sq_iff _ _).mp h1]; exact h2)) (by rw [sizeLine_eq]; decide)⟩
noncomputable def bindB (fi:FnI) (names:List Str) (bs:List (Str × Value)):Bool :=
 nodupS (bs.map (·.1))&&(fi.dfl.all fun p=>match look p.1 bs with | some v=>vrB p.2 v | .none=>false) &&
 (bs.all fun y=>fi.scn.lookup y.1==some .local || fi.scn.lookup y.1==some .cell)&&(bs.all fun y=>(fi.prm.any fun x=>sq x y.1) || (fi.dfl.any fun p=>sq p.1 y.1))&&sqL fi.prm names
structure FnChk (K:Frag) (a:Nat):Prop where
 at_:K.lookup a=some ⟨(OB K a).cls,(OB K a).dict,.func (fnOfK K a),(OB K a).slots⟩
 rest:(codeIn K (FD K a).code (FD K a).qualname&&((FD K a).scope.kind==.function)&&!(FD K a).scope.isCoroutine&&!(FD K a).scope.isGenerator&&((cellNs (FD K a).scope.names).all fun c=>look c (FD K a).scope.names==some .cell)&&nodupS ((cellsFrom 0 (FD K a).scope.names []).map (·.1)))=true
theorem look_mem {α:Type} {x:Str} {l:List (Str × α)} {v:α} (h:look x l=some v):(x,v)∈l:=by
 rw [look_lookup] at h
 exact lookup_mem h
theorem zip_look_mem {bs:List (Str × Value)}:∀ {prm:List Str} {vs:List Value},(prm.map fun x=>look x bs)=vs.map some→∀ p∈prm.zip vs,p∈bs
 | [],_,_,p,hp=>by cases hp
 | _::_,[],h,_,_=>by cases h
 | x::r,v::q,h,p,hp=>by
   obtain ⟨h1,h2⟩:=List.cons.inj h
   rcases List.mem_cons.mp hp with rfl | hp
   · exact look_mem h1
   · exact zip_look_mem h2 p hp
noncomputable def bsK (K:Frag) (a:Nat) (vs:List Value) (kvs:List (Str × Value)):List (Str × Value):=(runK K 200 (bindArgs (fnOfK K a) ⟨vs,kvs⟩)).getD []
structure BOK (K:Frag) (a:Nat) (prm kws:List Str) (dfl:List (Str × AV)) (vs:List Value) (kvs:List (Str × Value)):Prop where
 run:runK K 200 (bindArgs (fnOfK K a) ⟨vs,kvs⟩)=some (bsK K a vs kvs)
 ok:bindB (fnK K a prm kws dfl) prm (bsK K a vs kvs)=true
 prm:(prm.map fun x=>look x (bsK K a vs kvs))=(vs++kvs.map (·.2)).map some
theorem BOK.bnd {K:Frag} {a:Nat} {prm kws:List Str} {dfl:List (Str × AV)} {vs:List Value} {kvs:List (Str × Value)} {s:Shared} (h:BOK K a prm kws dfl vs kvs) (X:K.In s.heap):Bnd (fnK K a prm kws dfl) s (fnOfK K a) vs kvs (bsK K a vs kvs):=by
 have hb:=h.ok
 unfold bindB at hb
 simp only [Bool.and_eq_true] at hb
 obtain ⟨⟨⟨⟨h1,h2⟩,h3⟩,h4⟩,_⟩:=hb
 refine ⟨bindsK X _ h.run,nodupS_iff h1,zip_look_mem h.prm,fun p hp=>?_,h3,fun p hp=>?_⟩
 · have:=List.all_eq_true.mp h2 p hp
   revert this
   cases e:look p.1 (bsK K a vs kvs) with
   | none=>exact fun h=>ceFT h
   | some v=>exact fun h=>⟨v,look_mem e,vrB_ok h⟩
 · have:=List.all_eq_true.mp h4 p hp
   rcases Bool.or_eq_true_iff.mp this with q | q
   · obtain ⟨y,hy,e⟩:=List.any_eq_true.mp q
     exact .inl ((sq_iff _ _).mp e ▸ hy)
   · obtain ⟨y,hy,e⟩:=List.any_eq_true.mp q
     exact .inr (by rw [← (sq_iff _ _).mp e]; exact List.mem_map_of_mem (f:=(·.1)) hy)
noncomputable def fdK (K:Frag) (a:Nat):FnD where
 name:=(FD K a).name
 qual:=(FD K a).qualname
 params:=(FD K a).params
 scope:=(FD K a).scope
 dV:=(FD K a).defaults
 kV:=(FD K a).kwdefaults
 doc:=(FD K a).doc
 pm:=(FD K a).pyModule
 cdv:=(FD K a).code
 ct:=(FD K a).closureTuple
 oc:=(OB K a).cls
 an:=(FD K a).annotations
 od:=(OB K a).dict
 osl:=(OB K a).slots
theorem fnOk_of {g:Gl} {K:Frag} {a:Nat} {prm kws:List Str} {dfl:List (Str × AV)} (hK:g.K=K) (c:FnChk K a) (hb:∀ (vs:List Value) (kvs:List (Str × Value)),vs.length + kvs.length=prm.length→kvs.map (·.1)=kws→BOK K a prm kws dfl vs kvs):FnOk g a (fnK K a prm kws dfl):=by
 subst hK
 have r:=c.rest
 simp only [Bool.and_eq_true,Bool.not_eq_true',beq_iff_eq] at r
 obtain ⟨⟨⟨⟨⟨r1,r2⟩,r3⟩,r4⟩,r5⟩,r6⟩:=r
 exact ⟨⟨fdK g.K a,c.at_,r1,rfl,r2,r3,r4,fun s vs kvs X h h'=>⟨_,(hb vs kvs h h').bnd X⟩⟩,fun x hx=>beq_iff_eq.mp (List.all_eq_true.mp r5 x hx),nodupS_iff r6⟩
theorem lenS {α:Type} {l:List α} {n:Nat} (h:l.length=n + 1):∃ a r,l=a::r∧r.length=n:=by
 cases l with
 | nil=>cases h
 | cons a r=>exact ⟨a,r,rfl,Nat.succ.inj h⟩
theorem len1 {α:Type} {l:List α} (h:l.length=1):∃ a,l=[a]:=by
 obtain ⟨a,r,rfl,k⟩:=lenS h
 exact ⟨a,congrArg (a::·) (List.length_eq_zero_iff.mp k)⟩
theorem len2 {α:Type} {l:List α} (h:l.length=2):∃ a b,l=[a,b]:=by
 obtain ⟨a,r,rfl,k⟩:=lenS h
 obtain ⟨b,rfl⟩:=len1 k
 exact ⟨a,b,rfl⟩
theorem len3 {α:Type} {l:List α} (h:l.length=3):∃ a b c,l=[a,b,c]:=by
 obtain ⟨a,r,rfl,k⟩:=lenS h
 obtain ⟨b,c,rfl⟩:=len2 k
 exact ⟨a,b,c,rfl⟩
theorem len4 {α:Type} {l:List α} (h:l.length=4):∃ a b c d,l=[a,b,c,d]:=by
 obtain ⟨a,r,rfl,k⟩:=lenS h
 obtain ⟨b,c,d,rfl⟩:=len3 k
 exact ⟨a,b,c,d,rfl⟩
theorem len5 {α:Type} {l:List α} (h:l.length=5):∃ a b c d e,l=[a,b,c,d,e]:=by
 obtain ⟨a,r,rfl,k⟩:=lenS h
 obtain ⟨b,c,d,e,rfl⟩:=len4 k
 exact ⟨a,b,c,d,e,rfl⟩
theorem len6 {α:Type} {l:List α} (h:l.length=6):∃ a b c d e f,l=[a,b,c,d,e,f]:=by
 obtain ⟨a,r,rfl,k⟩:=lenS h
 obtain ⟨b,c,d,e,f,rfl⟩:=len5 k
 exact ⟨a,b,c,d,e,f,rfl⟩
theorem list_get (l:List Nat):l=(List.range l.length).map fun i=>l.getD i 0:=List.ext_getElem (by simp) fun i h1 h2=>by simp [List.getD,h1]
theorem len10 {l:List Nat} (h:l.length=10):∃ c0 c1 c2 c3 c4 c5 c6 c7 c8 c9,l=[c0,c1,c2,c3,c4,c5,c6,c7,c8,c9]:=by
 have e:=list_get l
 rw [h] at e
 exact ⟨_,_,_,_,_,_,_,_,_,_,e⟩
theorem one6 {α:Type} {P:List α→Prop} (h1:∀ a,P [a]) (h2:∀ a b,P [a,b]) (h3:∀ a b c,P [a,b,c]) (h4:∀ a b c d,P [a,b,c,d]) (h5:∀ a b c d e,P [a,b,c,d,e]) (h6:∀ a b c d e f,P [a,b,c,d,e,f]) (l:List α) (g1:1≤l.length) (g6:l.length≤6):P l:=by
 rcases l with _ | ⟨a,_ | ⟨b,_ | ⟨c,_ | ⟨d,_ | ⟨e,_ | ⟨f,_ | ⟨z,r⟩⟩⟩⟩⟩⟩⟩
 · exact absurd g1 (Nat.not_succ_le_zero 0)
 · exact h1 a
 · exact h2 a b
 · exact h3 a b c
 · exact h4 a b c d
 · exact h5 a b c d e
 · exact h6 a b c d e f
 · exact absurd g6 (Nat.not_le.mpr (Nat.le_add_left 7 r.length))
theorem two6 {α β:Type} {P:List α→List β→Prop} (h1:∀ a a',P [a] [a']) (h2:∀ a b a' b',P [a,b] [a',b']) (h3:∀ a b c a' b' c',P [a,b,c] [a',b',c']) (h4:∀ a b c d a' b' c' d',P [a,b,c,d] [a',b',c',d']) (h5:∀ a b c d e a' b' c' d' e',P [a,b,c,d,e] [a',b',c',d',e']) (h6:∀ a b c d e f a' b' c' d' e' f',P [a,b,c,d,e,f] [a',b',c',d',e',f'])
   (ms:List α) (hs:List β) (h:ms.length=hs.length) (g1:1≤hs.length) (g6:hs.length≤6):P ms hs:=by
 refine one6 (P:=fun hs=>∀ ms:List α,ms.length=hs.length→P ms hs) (fun a' ms h=>?_) (fun a' b' ms h=>?_) (fun a' b' c' ms h=>?_) (fun a' b' c' d' ms h=>?_) (fun a' b' c' d' e' ms h=>?_) (fun a' b' c' d' e' f' ms h=>?_) hs g1 g6 ms h
 · obtain ⟨a,rfl⟩:=len1 h; exact h1 a a'
 · obtain ⟨a,b,rfl⟩:=len2 h; exact h2 a b a' b'
 · obtain ⟨a,b,c,rfl⟩:=len3 h; exact h3 a b c a' b' c'
 · obtain ⟨a,b,c,d,rfl⟩:=len4 h; exact h4 a b c d a' b' c' d'
 · obtain ⟨a,b,c,d,e,rfl⟩:=len5 h; exact h5 a b c d e a' b' c' d' e'
 · obtain ⟨a,b,c,d,e,f,rfl⟩:=len6 h; exact h6 a b c d e f a' b' c' d' e' f'
theorem kw0 {kvs:List (Str × Value)} (h:kvs.map (·.1)=[]):kvs=[]:=List.map_eq_nil_iff.mp h
theorem kw1 {kvs:List (Str × Value)} {k:Str} (h:kvs.map (·.1)=[k]):∃ v,kvs=[(k,v)]:=by
 rcases kvs with _ | ⟨⟨a,v⟩,_ | ⟨_,_⟩⟩
 · cases h
 · cases h; exact ⟨v,rfl⟩
 · cases h
section
variable {g:Gl} {K:Frag} {a:Nat} {p q r:Str} {dfl:List (Str × AV)} (hK:g.K=K) (c:FnChk K a)
include hK c
theorem fnP1 (hb:∀ v,BOK K a [p] [] dfl [v] []):FnOk g a (fnK K a [p] [] dfl):=by
 refine fnOk_of hK c fun vs kvs hl hk=>?_
 have:=kw0 hk
 subst this
 obtain ⟨v,rfl⟩:=len1 hl
 exact hb v
theorem fnP2 (hb:∀ v w,BOK K a [p,q] [] dfl [v,w] []):FnOk g a (fnK K a [p,q] [] dfl):=by
 refine fnOk_of hK c fun vs kvs hl hk=>?_
 have:=kw0 hk
 subst this
 obtain ⟨v,w,rfl⟩:=len2 hl
 exact hb v w
theorem fnP3 (hb:∀ v w k,BOK K a [p,q,r] [r] dfl [v,w] [(r,k)]):FnOk g a (fnK K a [p,q,r] [r] dfl):=by
 refine fnOk_of hK c fun vs kvs hl hk=>?_
 obtain ⟨k,rfl⟩:=kw1 hk
 obtain ⟨v,w,rfl⟩:=len2 (Nat.succ.inj hl)
 exact hb v w k
end
end
section
set_option maxHeartbeats 1000000
theorem chk58 (P:Params):FnChk (KP P) 58:=⟨by kernel_rfl,by kernel_rfl⟩
noncomputable def fi58 (P:Params):FnI:=fnK (KP P) 58 [S "n",S "what"] [] []
theorem fn58 {g:Gl} {P:Params} (hK:g.K=KP P):FnOk g 58 (fi58 P):=fnP2 hK (chk58 P) fun _ _=>⟨by kernel_rfl,by kernel_rfl,by kernel_rfl⟩
theorem chk376 (P:Params):FnChk (KP P) 376:=⟨by kernel_rfl,by kernel_rfl⟩
noncomputable def fi376 (P:Params):FnI:=fnK (KP P) 376 [S "self"] [] []
theorem fn376 {g:Gl} {P:Params} (hK:g.K=KP P):FnOk g 376 (fi376 P):=fnP1 hK (chk376 P) fun _=>⟨by kernel_rfl,by kernel_rfl,by kernel_rfl⟩
theorem chk362 (P:Params):FnChk (KP P) 362:=⟨by kernel_rfl,by kernel_rfl⟩
noncomputable def fi362 (P:Params):FnI:=fnK (KP P) 362 [S "self",S "initial_value"] [] [(S "newline",.str (S "\n"))]
theorem fn362 {g : Gl} {P : Params} (hK : g.K = KP P) : FnOk g 362 (fi362 P) := fnP2 hK (chk362 P) fun _ _ => ⟨by kernel_rfl, by kernel_rfl, by kernel_rfl⟩
theorem chk369 (P : Params) : FnChk (KP P) 369 := ⟨by kernel_rfl, by kernel_rfl⟩
noncomputable def fi369 (P : Params) : FnI := fnK (KP P) 369 [S "self", S "s"] [] []
theorem fn369 {g : Gl} {P : Params} (hK : g.K = KP P) : FnOk g 369 (fi369 P) := fnP2 hK (chk369 P) fun _ _ => ⟨by kernel_rfl, by kernel_rfl, by kernel_rfl⟩
theorem chk538 (P : Params) : FnChk (KP P) 538 := ⟨by kernel_rfl, by kernel_rfl⟩
noncomputable def fi538 (P : Params) : FnI := fnK (KP P) 538 [S "self", S "size"] [] []
theorem fn538 {g : Gl} {P : Params} (hK : g.K = KP P) : FnOk g 538 (fi538 P) := fnP2 hK (chk538 P) fun _ _ => ⟨by kernel_rfl, by kernel_rfl, by kernel_rfl⟩
theorem chk651 (P : Params) : FnChk (KP P) 651 := ⟨by kernel_rfl, by kernel_rfl⟩
noncomputable def fi651 (P : Params) : FnI := fnK (KP P) 651 [S "self", S "instream", S "punctuation_chars"] [S "punctuation_chars"] [(S "infile", .none), (S "posix", .bool false)]
theorem fn651 {g : Gl} {P : Params} (hK : g.K = KP P) : FnOk g 651 (fi651 P) := fnP3 hK (chk651 P) fun _ _ _ => ⟨by kernel_rfl, by kernel_rfl, by kernel_rfl⟩
theorem chk658 (P : Params) : FnChk (KP P) 658 := ⟨by kernel_rfl, by kernel_rfl⟩
noncomputable def fi658 (P : Params) : FnI := fnK (KP P) 658 [S "self"] [] []
theorem fn658 {g : Gl} {P : Params} (hK : g.K = KP P) : FnOk g 658 (fi658 P) := fnP1 hK (chk658 P) fun _ => ⟨by kernel_rfl, by kernel_rfl, by kernel_rfl⟩
theorem chk688 (P : Params) : FnChk (KP P) 688 := ⟨by kernel_rfl, by kernel_rfl⟩
noncomputable def fi688 (P : Params) : FnI := fnK (KP P) 688 [S "self"] [] []
theorem fn688 {g : Gl} {P : Params} (hK : g.K = KP P) : FnOk g 688 (fi688 P) := fnP1 hK (chk688 P) fun _ => ⟨by kernel_rfl, by kernel_rfl, by kernel_rfl⟩
theorem chk695 (P : Params) : FnChk (KP P) 695 := ⟨by kernel_rfl, by kernel_rfl⟩
noncomputable def fi695 (P : Params) : FnI := fnK (KP P) 695 [S "self"] [] []
theorem fn695 {g : Gl} {P : Params} (hK : g.K = KP P) : FnOk g 695 (fi695 P) := fnP1 hK (chk695 P) fun _ => ⟨by kernel_rfl, by kernel_rfl, by kernel_rfl⟩
theorem chk738 (P : Params) : FnChk (KP P) 738 := ⟨by kernel_rfl, by kernel_rfl⟩
noncomputable def fi738 (P : Params) : FnI := fnK (KP P) 738 [S "mode"] [] []
theorem fn738 {g : Gl} {P : Params} (hK : g.K = KP P) : FnOk g 738 (fi738 P) := fnP1 hK (chk738 P) fun _ => ⟨by kernel_rfl, by kernel_rfl, by kernel_rfl⟩
theorem chk778 (P : Params) : FnChk (KP P) 778 := ⟨by kernel_rfl, by kernel_rfl⟩
noncomputable def fi778 (P : Params) : FnI := fnK (KP P) 778 [S "mode"] [] []
theorem fn778 {g : Gl} {P : Params} (hK : g.K = KP P) : FnOk g 778 (fi778 P) := fnP1 hK (chk778 P) fun _ => ⟨by kernel_rfl, by kernel_rfl, by kernel_rfl⟩
theorem chk801 (P : Params) : FnChk (KP P) 801 := ⟨by kernel_rfl, by kernel_rfl⟩
noncomputable def fi801 (P : Params) : FnI := fnK (KP P) 801 [S "param", S "value"] [] [(S "quote", .int 1)]
theorem fn801 {g : Gl} {P : Params} (hK : g.K = KP P) : FnOk g 801 (fi801 P) := fnP2 hK (chk801 P) fun _ _ => ⟨by kernel_rfl, by kernel_rfl, by kernel_rfl⟩
theorem chk816 (P : Params) : FnChk (KP P) 816 := ⟨by kernel_rfl, by kernel_rfl⟩
noncomputable def fi816 (P : Params) : FnI := fnK (KP P) 816 [S "self"] [] [(S "headers", .none)]
theorem fn816 {g : Gl} {P : Params} (hK : g.K = KP P) : FnOk g 816 (fi816 P) := fnP1 hK (chk816 P) fun _ => ⟨by kernel_rfl, by kernel_rfl, by kernel_rfl⟩
theorem chk823 (P : Params) : FnChk (KP P) 823 := ⟨by kernel_rfl, by kernel_rfl⟩
noncomputable def fi823 (P : Params) : FnI := fnK (KP P) 823 [S "self", S "value", S "name"] [S "name"] []
theorem fn823 {g : Gl} {P : Params} (hK : g.K = KP P) : FnOk g 823 (fi823 P) := fnP3 hK (chk823 P) fun _ _ _ => ⟨by kernel_rfl, by kernel_rfl, by kernel_rfl⟩
theorem chk900 (P : Params) : FnChk (KP P) 900 := ⟨by kernel_rfl, by kernel_rfl⟩
noncomputable def fi900 (P : Params) : FnI := fnK (KP P) 900 [S "self"] [] []
theorem fn900 {g : Gl} {P : Params} (hK : g.K = KP P) : FnOk g 900 (fi900 P) := fnP1 hK (chk900 P) fun _ => ⟨by kernel_rfl, by kernel_rfl, by kernel_rfl⟩
theorem chk935 (P : Params) : FnChk (KP P) 935 := ⟨by kernel_rfl, by kernel_rfl⟩
noncomputable def fi935 (P : Params) : FnI := fnK (KP P) 935 [S "mode"] [] []
theorem fn935 {g : Gl} {P : Params} (hK : g.K = KP P) : FnOk g 935 (fi935 P) := fnP1 hK (chk935 P) fun _ => ⟨by kernel_rfl, by kernel_rfl, by kernel_rfl⟩
theorem chk942 (P : Params) : FnChk (KP P) 942 := ⟨by kernel_rfl, by kernel_rfl⟩
noncomputable def fi942 (P : Params) : FnI := fnK (KP P) 942 [S "rows"] [] []
theorem fn942 {g : Gl} {P : Params} (hK : g.K = KP P) : FnOk g 942 (fi942 P) := fnP1 hK (chk942 P) fun _ => ⟨by kernel_rfl, by kernel_rfl, by kernel_rfl⟩
theorem chk947 (P : Params) : FnChk (KP P) 947 := ⟨by kernel_rfl, by kernel_rfl⟩
noncomputable def fi947 (P : Params) : FnI := fnK (KP P) 947 [S "signs"] [] []
theorem fn947 {g : Gl} {P : Params} (hK : g.K = KP P) : FnOk g 947 (fi947 P) := fnP1 hK (chk947 P) fun _ => ⟨by kernel_rfl, by kernel_rfl, by kernel_rfl⟩
theorem chk952 (P : Params) : FnChk (KP P) 952 := ⟨by kernel_rfl, by kernel_rfl⟩
noncomputable def fi952 (P : Params) : FnI := fnK (KP P) 952 [S "rows"] [] []
theorem fn952 {g : Gl} {P : Params} (hK : g.K = KP P) : FnOk g 952 (fi952 P) := fnP1 hK (chk952 P) fun _ => ⟨by kernel_rfl, by kernel_rfl, by kernel_rfl⟩
theorem chk959 (P : Params) : FnChk (KP P) 959 := ⟨by kernel_rfl, by kernel_rfl⟩
noncomputable def fi959 (P : Params) : FnI := fnK (KP P) 959 [S "lexer"] [] []
theorem fn959 {g:Gl} {P:Params} (hK:g.K=KP P):FnOk g 959 (fi959 P):=fnP1 hK (chk959 P) fun _=>⟨by kernel_rfl,by kernel_rfl,by kernel_rfl⟩
end
section
set_option maxHeartbeats 1000000
noncomputable def clsChk (K:Frag) (C:Nat) (n:Str):Mb→Bool
 | .own=>plainGet K C n&&hasDictIn K C&&(findIn K (.ref C) n==some none)&&(findIn K (.ref C) "__setattr__" == some (some (.builtin "object.__setattr__")))&&plainOver K C&&(takerIn K C n==some none)
 | .meth f=>plainGet K C n&&(findIn K (.ref C) n==some (some (.ref f)))&&isFn K (.ref f)&&keepIn K (.ref f)
 | .prop f=>plainGet K C n&&hasDictIn K C&&(match findIn K (.ref C) n with
   | some (some (.ref p))=>(specialIn K (.ref p) "__get__" == some (some (.builtin "property.__get__")))&&(takesIn K (.ref p)==some true)&&(match recIn K p "property" with
     | some (.ref f'::_)=>f'==f
     | _=>false)
   | _=>false)
theorem and2 {a b:Bool} (h:(a&&b)=true):a=true∧b=true:=Bool.and_eq_true_iff.mp h
theorem clsOk_of {g:Gl} {C:Nat} {n:Str} {m:Mb} (h:clsChk g.K C n m=true):ClsOk g C n m:=by
 cases m with
 | own =>
   have h5:=and2 h
   have h4:=and2 h5.1
   have h3:=and2 h4.1
   have h2:=and2 h3.1
   have h1:=and2 h2.1
   exact ⟨h1.1,h1.2,⟨none,eq_of_beq h2.2,rfl⟩,eq_of_beq h3.2,h4.2,eq_of_beq h5.2⟩
 | meth f =>
   have h3:=and2 h
   have h2:=and2 h3.1
   have h1:=and2 h2.1
   exact ⟨h1.1,eq_of_beq h1.2,h2.2,h3.2⟩
 | prop f =>
   have h2:=and2 h
   have h1:=and2 h2.1
   have c:=h2.2
   clear h h2
   revert c
   cases hp:findIn g.K (.ref C) n with
   | none=>exact fun h=>ceFT h
   | some o =>
   cases o with
   | none=>exact fun h=>ceFT h
   | some v =>
   cases v <;> first | exact fun h=>ceFT h | skip
   rename_i p
   intro c
   have k2:=and2 c
   have k1:=and2 k2.1
   have c3:=k2.2
   clear c k2
   revert c3
   cases hr:recIn g.K p "property" with
   | none=>exact fun h=>ceFT h
   | some l =>
   cases l with
   | nil=>exact fun h=>ceFT h
   | cons v rest =>
   cases v <;> first | exact fun h=>ceFT h | skip
   intro c3
   have:=eq_of_beq c3
   subst this
   exact ⟨h1.1,h1.2,p,rest,hp,eq_of_beq k1.1,eq_of_beq k1.2,hr⟩
theorem clsTab_ok {g:Gl} {C:Nat} {tab:List (Str × Mb)} (h:(tab.all fun p=>clsChk g.K C p.1 p.2)=true) {n:Str} {m:Mb} (e:look n tab=some m):ClsOk g C n m :=
 clsOk_of (List.all_eq_true.mp h _ (look_mem e))
noncomputable def globChk (K:Frag) (x:Str):AV→Bool
 | .top a=>nsIn K mainGlobals x==some (some (.ref a))
 | .bi b=>((nsIn K mainGlobals x==some none)&&(bootBuiltins x==some b.val)&&!(x==("__name__" : Str))) || (nsIn K mainGlobals x==some (some b.val))
 | _=>false
theorem globOk_of {g:Gl} {x:Str} {v:AV} (h:globChk g.K x v=true):GlobOk g x v:=by
 cases v with
 | top a =>
   exact .inl ⟨a,rfl,eq_of_beq h⟩
 | bi b =>
   rcases Bool.or_eq_true_iff.mp h with h | h
   · have k:=and2 h
     have k1:=and2 k.1
     exact .inr (.inl ⟨b,rfl,eq_of_beq k1.1,eq_of_beq k1.2,by simpa using k.2⟩)
   · exact .inr (.inr ⟨b,rfl,eq_of_beq h⟩)
 | _=>exact ceFT h
theorem globTab_ok {g:Gl} {tab:List (Str × AV)} (h:(tab.all fun p=>globChk g.K p.1 p.2)=true) {n:Str} {v:AV} (e:look n tab=some v):GlobOk g n v :=
 globOk_of (List.all_eq_true.mp h _ (look_mem e))
noncomputable def mkChk (K:Frag) (C f:Nat):Bool:=keepIn K (.ref C)&&makesIn K C&&(findIn K (.ref C) "__init__" == some (some (.ref f)))&&isFn K (.ref f)
theorem mkOk_of {g:Gl} {C f:Nat} (h:mkChk g.K C f=true):MkOk g C f:=by
 have h3:=and2 h
 have h2:=and2 h3.1
 have h1:=and2 h2.1
 exact ⟨h1.1,h1.2,eq_of_beq h2.2,h3.2⟩
noncomputable def avOf:Value→AV
 | .int i _=>.int i
 | .str s _=>.str s
 | .ref a=>.top a
 | _=>.none
noncomputable def avOk:Value→Bool
 | .int _ _=>true
 | .str s _=>Nat.ble s.length 1000
 | .ref _=>true
 | _=>false
theorem avOf_ok {v:Value} (h:avOk v=true):VR [] (avOf v) v:=by
 cases v <;> first | exact ceFT h | exact ⟨_,rfl⟩ | rfl | skip
 exact ⟨⟨_,rfl⟩,Nat.le_trans (Nat.le_of_ble_eq_true h) (by rw [sizeLine_eq]; decide)⟩
noncomputable def tupVs (K:Frag) (a:Nat):List Value:=match K.lookup a with
 | some ⟨.type "tuple",.none,.seq vs _,_⟩=>vs.toList
 | _=>[]
noncomputable def tupN (K:Frag) (a:Nat):Nat:=match K.lookup a with
 | some ⟨_,_,.seq _ n,_⟩=>n
 | _=>0
theorem tupOk_of {g:Gl} {a:Nat} (h:g.K.lookup a=some (tupO (tupVs g.K a) (tupN g.K a))) (k:((tupVs g.K a).all avOk)=true):∃ o vs' n,g.K.lookup a=some o∧o=tupO vs' n∧VRs [] ((tupVs g.K a).map avOf) vs':=by
 refine ⟨_,_,_,h,rfl,?_⟩
 generalize tupVs g.K a=l at k
 clear h
 induction l with
 | nil=>exact .nil
 | cons v r ih =>
   rw [List.all_cons,Bool.and_eq_true] at k
   exact .cons (avOf_ok k.1) (ih k.2)
noncomputable def cls727:List (Str × Mb):=[(S "state",.own),(S "token",.own),(S "instream",.own),(S "infile",.own),(S "posix",.own),(S "eof",.own),(S "commenters",.own),(S "wordchars",.own),(S "whitespace",.own),(S "whitespace_split",.own),(S "quotes",.own),(S "escape",.own),(S "escapedquotes",.own),(S "pushback",.own),(S "lineno",.own),(S "debug",.own),(S "filestack",.own),(S "source",.own),(S "_punctuation_chars",.own),(S "_pushback_chars",.own),(S "punctuation_chars",.prop 658),(S "read_token",.meth 695),(S "get_token",.meth 688)]
noncomputable def cls592:List (Str × Mb):=[(S "_StringIO__buf",.own),(S "_StringIO__pos",.own),(S "_StringIO__newline",.own),(S "_StringIO__check",.meth 376),(S "_StringIO__translated",.meth 369),(S "read",.meth 538)]
noncomputable def cls924:List (Str × Mb):=[(S "_headers",.own),(S "_convert_string_type",.meth 823),(S "add_header",.meth 921)]
noncomputable def glob0:List (Str × AV):=[(S "_index",.top 58),(S "len",.bi .len),(S "type",.bi .type),(S "int",.bi .int),(S "bool",.bi .bool),(S "isinstance",.bi .isinstance),(S "str",.bi .str),(S "list",.bi .list),(S "dict",.bi .dict),(S "range",.bi .range),(S "zip",.bi .zip),(S "enumerate",.bi .enumerate),(S "deque",.bi .deque),(S "StringIO",.top 592),(S "shlex",.top 727),(S "S_IFMT",.top 738),(S "_filemode_table",.top 771),(S "filemode",.top 778),(S "_name_disallowed_re",.top 788),(S "_value_disallowed_re",.top 793),(S "tspecials",.top 783),(S "_formatparam",.top 801),(S "Headers",.top 924),(S "_law_row",.top 935),(S "_law_table",.top 942),(S "_law_runs",.top 947),(S "_law_due",.top 952),(S "_law_told",.top 959),(S "ValueError",.bi .ValueError)]
noncomputable def tups:List Nat:=[739,740,741,742,743,744,745,746,747,748,749,750,751,752,753,754,755,756,757,758,759,760,761,762,763,764,765,766,767,768,769,770,771]
theorem cls727_ok (P:Params):(cls727.all fun p=>clsChk (KP P) 727 p.1 p.2)=true:=by kernel_rfl
theorem cls592_ok (P:Params):(cls592.all fun p=>clsChk (KP P) 592 p.1 p.2)=true:=by kernel_rfl
theorem cls924_ok (P:Params):(cls924.all fun p=>clsChk (KP P) 924 p.1 p.2)=true:=by kernel_rfl
theorem glob0_ok (P:Params):(glob0.all fun p=>globChk (KP P) p.1 p.2)=true:=by kernel_rfl
theorem mk727_ok (P:Params):mkChk (KP P) 727 651=true:=by kernel_rfl
theorem mk924_ok (P:Params):mkChk (KP P) 924 816=true:=by kernel_rfl
theorem tups_ok (P:Params):(tups.map fun a=>(KP P).lookup a)=tups.map fun a=>some (tupO (tupVs (KP P) a) (tupN (KP P) a)):=by kernel_rfl
theorem tups_av (P:Params):(tups.all fun a=>(tupVs (KP P) a).all avOk)=true:=by kernel_rfl
end
section
set_option maxHeartbeats 1000000
theorem deq_mro:mroOf (.type "collections.deque")=pure [.type "collections.deque",.type "object"]:=by rw [mroOf_type]; kernel_rfl
theorem deq_lookup_new:typeLookup (.type "collections.deque") "__new__" = pure (some (.builtin "collections.deque.__new__")):=by rw [typeLookup_type,builtinLookup_eq_fast]; kernel_rfl
theorem deq_slot_init:Slot "collections.deque" "__init__" "collections.deque.__init__" :=
 .of (owner := "collections.deque") (n := "__init__") (by rw [typeLookup_type,builtinLookup_eq_fast]; kernel_rfl) (by decide +kernel) (by decide +kernel) (by decide +kernel)
   (by first | exact .inl (by decide +kernel) | exact .inr (by decide +kernel)) (by rw [isSubtype_type]; kernel_rfl)
theorem deq_called:TypeCalled "collections.deque" "collections.deque.__new__" "collections.deque.__init__" :=
 ⟨by decide +kernel,by decide +kernel,⟨_,_,deq_mro⟩,madeBy_type deq_mro deq_lookup_new (by decide +kernel),by decide +kernel,by rw [isSubtype_type]; kernel_rfl,deq_slot_init⟩
theorem deq_typeCall:checkTypeCall "collections.deque" ⟨[],[]⟩=pure ():=by kernel_rfl
theorem deq_newCall:checkBuiltinCall "collections.deque.__new__" ⟨[.type "collections.deque"],[]⟩=pure ():=by kernel_rfl
theorem deq_entry_new:entryFor table "collections.deque.__new__" = some Builtin.«collections.deque.__new__» := entryFor_of_tree (by kernel_rfl)
theorem deq_entry_init:entryFor table "collections.deque.__init__" = some Builtin.«collections.deque.__init__» := entryFor_of_tree (by kernel_rfl)
theorem deq_args_init (a:Value):argsOk "collections.deque.__init__" ⟨[a],[]⟩:=by unfold argsOk; kernel_rfl
theorem deq_meets_new:Meets (Builtin.«collections.deque.__new__» ⟨[.type "collections.deque"],[]⟩) (fun _ R s=>R (.ok (.ret (.ref s.heap.objs.size))) { s with heap:=s.heap.push (deqO [] 0) }):=by
 refine Meets.of_wp fun prog w A R s hS=>?_
 have e:Builtin.«collections.deque.__new__» ⟨[.type "collections.deque"],[]⟩=(do ret (← newObj (.type "collections.deque") (.fields #[.none,rawInt 0]) none)):=by kernel_rfl
 rw [e]
 simp only [newObj]
 refine wpAny_bind (wpAny_bind (wpAny_alloc (wpAny_pure ?_)))
 exact wpAny_pure ⟨_,rfl,hS⟩
theorem deq_meets_init (D:Addr):Meets (Builtin.«collections.deque.__init__» ⟨[.ref D],[]⟩) (fun _ R s=>s.heap.get? D=some (deqO [] 0)∧∀ h',Heap.SameBut D s.heap h'→h'.get? D=some (deqO [] 0)→R (.ok (.ret .none)) { s with heap:=h' }):=by
 refine Meets.of_wp fun prog w A R s hS=>?_
 obtain ⟨ho,hR⟩:=hS
 have e:Builtin.«collections.deque.__init__» ⟨[.ref D],[]⟩=(do setField (.ref D) 0 .none; Builtin.Deque.clear (.ref D); ret .none):=by kernel_rfl
 rw [e]
 refine wpAny_bind (wpAny_setField_rec ho (by simp) fun h' h1 h2=>?_)
 have h1:h'.get? D=some (deqO [] 0):=by rw [h1]; rfl
 unfold Builtin.Deque.clear Builtin.Deque.items
 refine wpAny_bind (wpAny_bind (wpAny_bind (wpAny_fieldsOf h1 rfl ?_)))
 refine wpAny_pure ?_
 refine wpAny_pure ?_
 exact wpAny_pure ⟨_,rfl,hR h' h2 h1⟩
theorem call_deque_0 {prog:Program} {w:World} {A:Around} {E:Value→Shared→Prop} {s:Shared} {Q:Value→Shared→Prop} (h:∀ h',Heap.SameBut s.heap.objs.size (s.heap.push (deqO [] 0)) h'→h'.get? s.heap.objs.size=some (deqO [] 0)→Q (.ref s.heap.objs.size) { s with heap:=h' }):wpAny (model prog w) A (call (.type "collections.deque") []) Q E s:=by
 refine callType_meets (Q₁:=fun obj s₁=>obj=.ref s.heap.objs.size∧s₁={ s with heap:=s.heap.push (deqO [] 0) }) deq_called deq_typeCall deq_newCall deq_entry_new deq_entry_init deq_meets_new ⟨rfl,rfl⟩ ?_
 rintro obj s₁ ⟨rfl,rfl⟩
 have ho:(s.heap.push (deqO [] 0)).get? s.heap.objs.size=some (deqO [] 0):=Heap.get?_push_size _ rfl
 exact ⟨⟨_,ho,rfl⟩,deq_args_init _,_,deq_meets_init _,ho,fun h' a b=>⟨rfl,h h' a b⟩⟩
end
section
set_option maxHeartbeats 1000000
theorem re_attrs:PlainAttrs "re.Pattern" :=
 ⟨⟨"object.__getattribute__",by rw [typeLookup_type,builtinLookup_eq_fast]; kernel_rfl,by decide +kernel⟩,by rw [typeLookup_type,builtinLookup_eq_fast]; kernel_rfl⟩
theorem re_slot_search:Slot "re.Pattern" "search" "re.Pattern.search" :=
 .of (owner := "re.Pattern") (n := "search") (by rw [typeLookup_type,builtinLookup_eq_fast]; kernel_rfl) (by decide +kernel) (by decide +kernel) (by decide +kernel)
   (by first | exact .inl (by decide +kernel) | exact .inr (by decide +kernel)) (by rw [isSubtype_type]; kernel_rfl)
theorem re_type_search:typeOf (.builtin "re.Pattern.search")=pure (.type "method_descriptor"):=by show builtinType _=_; rw [builtinType_eq_fast]; kernel_rfl
theorem re_entry_search:entryFor table "re.Pattern.search" = some Builtin.«re.Pattern.search» := entryFor_of_tree (by kernel_rfl)
theorem re_args_search (a b:Value):argsOk "re.Pattern.search" ⟨[a,b],[]⟩:=by unfold argsOk; kernel_rfl
noncomputable def OutC (code:Array Nat) (c:Nat):Prop:=∀ seen,∃ seen',Sre.inSet code c code.size 5 true seen=.ok (false,seen')
open PySem.Sre in
theorem admitted_none {m:M} (hc:∀ p,p<m.lim→OutC m.code (m.text.getD p 0)) (fuel:Nat):∀ (s:Nat) (seen:Sre.Seen),∃ seen',M.admitted m fuel s seen=.ok (none,seen'):=by
 induction fuel with
 | zero=>exact fun _ seen=>⟨seen,rfl⟩
 | succ fuel ih =>
   intro s seen
   by_cases h:s ≥ m.lim
   · exact ⟨seen,if_pos h⟩
   · obtain ⟨seen',e⟩:=hc s (Nat.not_le.mp h) seen
     obtain ⟨s2,e2⟩:=ih (s + 1) seen'
     refine ⟨s2,(if_neg h).trans ?_⟩
     rw [e]
     exact e2
noncomputable def CleanC (code:Array Nat) (x:Str):Prop:=∀ c∈x.cps.toList,OutC code c
open PySem.Sre in
theorem attempt_fails {m:M} {code:Array Nat} {x:Str} (h1:m.code=code) (h2:m.text=x.cps) (h3:m.lim=x.cps.size) (h4:m.frames=[]) (h5:m.outcome=none)
   (hf:((match ops[code.getD 0 0]? with | some .INFO=>true | _=>false)&&code.getD 2 0==4)=true) (hx:CleanC code x) (s:Nat) (first:Bool) :
   (m.attemptFrom s first).answer=some false∧(m.attemptFrom s first).frames=[]∧(m.attemptFrom s first).outcome=none:=by
 have hs:m.hasFirstSet=true:=by unfold M.hasFirstSet; rw [h1]; exact hf
 obtain ⟨seen',e⟩:=admitted_none (m:=m) (fun p hp=>by
   rw [h1,h2]
   rw [h3] at hp
   refine hx _ ?_
   rw [Array.getD_eq_getD_getElem?,Array.getElem?_eq_getElem hp]
   exact Array.getElem_mem_toList hp) (m.lim + 1 - s) s m.seen
 unfold M.attemptFrom
 rw [hs,e]
 exact ⟨rfl,h4,h5⟩
open PySem.Sre in
theorem search_fails {code:Array Nat} {x:Str} (hf:((match ops[code.getD 0 0]? with | some .INFO=>true | _=>false)&&code.getD 2 0==4)=true) (hx:CleanC code x) :
   ((forSearch code x.cps 0 0 x.cps.size false).runFor 4).outcome=some .failed:=by
 have key:(forSearch code x.cps 0 0 x.cps.size false).answer=some false∧(forSearch code x.cps 0 0 x.cps.size false).frames=[]∧(forSearch code x.cps 0 0 x.cps.size false).outcome=none:=by
   unfold forSearch
   dsimp only
   split
   · exact ⟨rfl,rfl,rfl⟩
   · exact attempt_fails rfl rfl rfl rfl rfl hf hx _ _
 obtain ⟨a,b,c⟩:=key
 generalize forSearch code x.cps 0 0 x.cps.size false=m at a b c
 have e:m.step.outcome=some .failed:=by
   unfold M.step
   rw [c,a,b]
   rfl
 have r1:m.runFor 4=m.step.runFor 3:=if_neg (by rw [c]; exact Bool.false_ne_true)
 have r2:m.step.runFor 3=m.step:=if_pos (by rw [e]; rfl)
 rw [r1,r2]
 exact e
section
variable {prog:Program} {w:World} {A:Around} {E:Value→Shared→Prop} {s:Shared}
theorem rules_pass {M:Model} {c:Nat→Bool} {nm:Nat→String} {Q:PUnit→Shared→Prop} (hQ:Q ⟨⟩ s):∀ l:List Nat,wpAny M A (forIn l PUnit.unit fun i _=>do
     if c i then rule (nm i)
     pure (ForInStep.yield PUnit.unit)) Q E s
 | []=>wpAny_pure hQ
 | i::r=>by
   rw [List.forIn_cons]
   refine wpAny_bind ?_
   cases c i with
   | true=>exact wpAny_bind (wpAny_rule (wpAny_pure (rules_pass hQ r)))
   | false=>exact wpAny_pure (rules_pass hQ r)
theorem run_fails {m:Sre.M} {Q:Option Sre.M→Shared→Prop} (h:(m.runFor 4).outcome=some .failed) (hQ:Q none s):wpAny (model prog w) A (Builtin.Re.reRunToEnd m) Q E s:=by
 unfold Builtin.Re.reRunToEnd
 have e:Builtin.Re.reDrive (2 ^ 64) m=pure (m.runFor 4):=by
   have:(2 ^ 64:Nat)=18446744073709551615 + 1:=by decide
   rw [this]
   exact if_pos (by rw [h]; rfl)
 rw [e]
 refine wpAny_bind (wpAny_pure ?_)
 refine wpAny_bind (rules_pass ?_ _)
 rw [h]
 exact wpAny_pure hQ
end
open Builtin.Re in
noncomputable def tgtK (K:Frag) (a:Nat) (x:Str) (t:Tok):ReTarget:=(runK K 300 (reTarget "re.Pattern.search" "search" ⟨[.ref a,.str x t],[]⟩)).getD ⟨.none,.none,#[],#[],0,0,0,0⟩
noncomputable def codeK (K:Frag) (a:Nat):Array Nat:=(tgtK K a ⟨#[]⟩ 0).code
open Builtin.Re in
structure ReOk (K:Frag) (a:Nat):Prop where
 run:∀ x t,runK K 300 (reTarget "re.Pattern.search" "search" ⟨[.ref a,.str x t],[]⟩)=some ⟨.ref a,.str x t,codeK K a,x.cps,0,0,min (0:Int).toNat x.cps.size,min (2 ^ 63 - 1:Int).toNat x.cps.size⟩
 info:((match Sre.ops[(codeK K a).getD 0 0]? with | some .INFO=>true | _=>false)&&(codeK K a).getD 2 0==4)=true
 ty:∃ o,K.lookup a=some o∧o.cls=.type "re.Pattern" ∧ o.dict=none
theorem re788 (P:Params):ReOk (KP P) 788:=⟨fun x t=>by kernel_rfl,by kernel_rfl,⟨_,rfl,rfl,rfl⟩⟩
theorem re793 (P:Params):ReOk (KP P) 793:=⟨fun x t=>by kernel_rfl,by kernel_rfl,⟨_,rfl,rfl,rfl⟩⟩
theorem call_search {prog:Program} {w:World} {A:Around} {E:Value→Shared→Prop} {s:Shared} {K:Frag} {a:Nat} {x:Str} {t:Tok} {Q:Value→Shared→Prop} (X:K.In s.heap) (ok:ReOk K a) (hl:x.length≤sizeLine) (hx:CleanC (codeK K a) x) (hQ:Q .none s):wpAny (model prog w) A (call (.builtin "re.Pattern.search") [.ref a,.str x t]) Q E s:=by
 obtain ⟨o,ho,hc,hd⟩:=ok.ty
 refine wpAny_call_entry re_slot_search ⟨o,X _ _ ho,hc⟩ re_entry_search ?_ (re_args_search _ _)
 unfold Builtin.«re.Pattern.search»
 refine wpAny_bind (runK_s X 300 _ _ (ok.run x t) ?_)
 unfold Builtin.Re.reAnswer
 have e1:min (0:Int).toNat x.cps.size=0:=Nat.zero_min _
 have e2:min (2 ^ 63 - 1:Int).toNat x.cps.size=x.cps.size:=by
   have:x.cps.size≤sizeLine:=hl
   rw [sizeLine_eq] at this
   exact Nat.min_eq_right (by omega)
 dsimp only
 rw [e1,e2]
 have hf:=search_fails ok.info hx
 generalize Sre.forSearch (codeK K a) x.cps 0 0 x.cps.size false=m at hf
 exact wpAny_bind (run_fails hf (wpAny_pure ⟨_,rfl,hQ⟩))
end
section
set_option maxHeartbeats 1000000
open Builtin
noncomputable def fmA:PySem.Str:=⟨⟨[37,115,58,32,37,115]⟩⟩
noncomputable def fmB:PySem.Str:=⟨⟨[37,115,61,34,37,115,34]⟩⟩
noncomputable def coA:PySem.Str:=⟨⟨[58,32]⟩⟩
noncomputable def coB:PySem.Str:=⟨⟨[61,34]⟩⟩
noncomputable def coQ:PySem.Str:=⟨⟨[34]⟩⟩
section
open Builtin.Str
theorem obj_ite {c:Bool} {x:PySem.Str} {u:Tok}:KPc.Obj (if c=true then some (.str x u) else none) x:=by
 cases c with
 | true=>exact KPc.obj_some rfl
 | false=>exact KPc.obj_none rfl
noncomputable abbrev FB:=Nat→List Value × Writer × List Nat→Sem (ForInStep (List Value × Writer × List Nat))
structure FT (F:PySem.Str) (M:Model) (A:Around) (E:Value→Shared→Prop) (f:FB) (Q:List Value × Writer × List Nat→Shared→Prop) (s:Shared):Prop where
 str:∀ {l n x u ps w T N r},KPc.Good w T N→N≤3000000→x.length≤1000000→(∀ w',KPc.Good w' (T++x) (N + 1000000)→wpAny M A (forIn l (ps,w',r) f) Q E s)→wpAny M A (forIn (n::l) (.str x u::ps,w,37::115::r) f) Q E s
 lit:∀ {l n p w T N d r a c t},KPc.Good w T N→N≤3000000→(d::r).span (· != 37)=(a::c,t)→((a::c).length==F.length)=false→(∀ w',KPc.Good w' (T++⟨(a::c).toArray⟩) (N + (⟨(a::c).toArray⟩:PySem.Str).length)→wpAny M A (forIn l (p,w',t) f) Q E s)→wpAny M A (forIn (n::l) (p,w,d::r) f) Q E s
 stop:∀ {l n p w T N},KPc.Good w T N→N≤3000000→Q (p,w,[]) s→wpAny M A (forIn (n::l) (p,w,[]) f) Q E s
theorem pct {F x y T:PySem.Str} {t u v:Tok} {b:Addr}
   (H:∀ {M A E f Q s},FT F M A E f Q s→∀ w',KPc.Good w' .empty 0→(∀ w' N,N≤3000000→KPc.Good w' T N→Q ([],w',[]) s)→wpAny M A (forIn (List.range' 0 F.length 1) ([.str x u,.str y v],w',F.cps.toList) f) Q E s) :
   Meets («str.__mod__» ⟨[.str F t,.ref b],[]⟩) (fun _ R s=>IsTup s.heap b #[.str x u,.str y v]∧∀ t' k,R (.ok (.ret (.str T t'))) { s with toks:=k }):=by
 apply KPt.meets_tup
 intro prog w A s Q E kptH hq
 obtain ⟨kptO,kptG,kptC,kptN,kptD⟩:=kptH
 have hT:s.TypeIs (.ref b) "tuple" := ⟨kptO,kptG,kptC⟩
 refine Eq.substr (KPt.entry_is_r _ _ _) (p:=fun m=>wpAny _ _ m _ _ _) (wpAny_bind (wpAny_isInstance (T := "tuple") hT KPt.sub_tt (wpAny_bind (KPt.asStr_ref kptG kptD (wpAny_bind (KPt.fills_ref hT fun _=>wpAny_bind (wpAny_seqItems kptG kptD (wpAny_bind (wpAny_pure (wpAny_bind (Eq.substr (KPc.range_list _ _ _) (p:=fun m=>wpAny _ _ m _ _ _) (KPc.start fun w0 g0=>?_))))))))))))
 refine H ⟨?_,?_,?_⟩ w0 g0 ?_
 · intro l n x u ps w T N r g hN hx k
   refine KPc.turn ?_
   refine wpAny_ite (KPc.ite_no (KPc.short_good g (Nat.le_trans hN (by decide))) ?_)
   refine wpAny_bind (wpAny_holding (wpAny_bind (wpAny_of_eq (KPc.strOf_str _ _) (wpAny_bind (wpAny_of_eq (a:=some _) rfl (wpAny_pure (wpAny_pure ?_)))))))
   exact KPc.after_str g hx obj_ite k
 · intro l n p w T N d r a c t g hN e h k
   refine KPc.turn ?_
   refine wpAny_ite (KPc.ite_no (KPc.short_good g (Nat.le_trans hN (by decide))) ?_)
   kpc_if
   rw [e]
   refine wpAny_pure ?_
   refine KPc.after_add g rfl ?_ k
   exact KPc.obj_none (if_neg (by rw [h]; exact Bool.false_ne_true))
 · intro l n p w T N g hN q
   refine KPc.turn ?_
   refine wpAny_ite (KPc.ite_no (KPc.short_good g (Nat.le_trans hN (by decide))) ?_)
   exact wpAny_pure q
 · intro w1 N hN g
   kpc_if
   exact KPc.finish_ok g (Nat.le_trans hN (by decide)) rfl hq
end
theorem pctA (x y:PySem.Str) (t u v:Tok) (b:Addr) (hx:x.length≤1000000) (hy:y.length≤1000000):Meets («str.__mod__» ⟨[.str ⟨#[37,115,58,32,37,115]⟩ t,.ref b],[]⟩) (fun _ R s=>IsTup s.heap b #[.str x u,.str y v]∧∀ t' k,R (.ok (.ret (.str (x++coA++y) t'))) { s with toks:=k }) :=
 pct fun F _ g0 fin=>F.str (n:=0) (l:=[1,2,3,4,5]) g0 (Nat.le_of_ble_eq_true rfl) hx fun _ g1=>F.lit g1 (Nat.le_of_ble_eq_true rfl) rfl rfl fun _ g2=>F.str g2 (Nat.le_of_ble_eq_true rfl) hy fun _ g3=>F.stop g3 (Nat.le_of_ble_eq_true rfl) (fin _ _ (Nat.le_of_ble_eq_true rfl) (by rw [KPc.empty_app] at g3; exact g3))
theorem pctB (x y:PySem.Str) (t u v:Tok) (b:Addr) (hx:x.length≤1000000) (hy:y.length≤1000000):Meets («str.__mod__» ⟨[.str ⟨#[37,115,61,34,37,115,34]⟩ t,.ref b],[]⟩) (fun _ R s=>IsTup s.heap b #[.str x u,.str y v]∧∀ t' k,R (.ok (.ret (.str (x++coB++y++coQ) t'))) { s with toks:=k }) :=
 pct fun F _ g0 fin=>F.str (n:=0) (l:=[1,2,3,4,5,6]) g0 (Nat.le_of_ble_eq_true rfl) hx fun _ g1=>F.lit g1 (Nat.le_of_ble_eq_true rfl) rfl rfl fun _ g2=>F.str g2 (Nat.le_of_ble_eq_true rfl) hy fun _ g3=>F.lit g3 (Nat.le_of_ble_eq_true rfl) rfl rfl fun _ g4=>F.stop g4 (Nat.le_of_ble_eq_true rfl) (fin _ _ (Nat.le_of_ble_eq_true rfl) (by rw [KPc.empty_app] at g4; exact g4))
noncomputable def pctOk (x y:PySem.Str):Bool:=Nat.ble x.length 1000000&&Nat.ble y.length 1000000
noncomputable def binC (op:Operator) (a b:AV) (σ:AS):Option (R AV):=match op with
 | .Mod=>match a,b with
   | .str f,.obj k=>(match tupOf σ.hp k with
     | some [.str x,.str y]=>(match sq f fmA with
       | true=>some (.ok (.str (x++coA++y)) { σ with ob:=addOb (chk (pctOk x y)) σ.ob })
       | false=>match sq f fmB with
         | true=>some (.ok (.str (x++coB++y++coQ)) { σ with ob:=addOb (chk (pctOk x y)) σ.ob })
         | false=>.none)
     | _=>.none)
   | _,_=>.none
 | _=>.none
theorem tupOf_get {σ:AS} {k:Nat} {xs:List AV} (h:tupOf σ.hp k=some xs):σ.hp[k]?=some (.tup xs):=by
 rw [← atI_eq]
 unfold tupOf at h
 revert h
 cases atI σ.hp k with
 | none=>exact fun h=>ceNS h
 | some ao=>cases ao <;> first | exact fun h=>ceNS h | (intro h; cases h; rfl)
theorem str_len_app (x y:PySem.Str):(x++y).length=x.length + y.length:=by
 show (x.cps++y.cps).size=_
 rw [Array.size_append]; rfl
section
variable {g:Gl}
theorem pctOk_le {x y:PySem.Str} (c:pctOk x y=true):x.length≤1000000∧y.length≤1000000:=by
 unfold pctOk at c
 rw [Bool.and_eq_true] at c
 exact ⟨Nat.le_of_ble_eq_true c.1,Nat.le_of_ble_eq_true c.2⟩
theorem binC_s {op:Operator} {a b:AV} {σ:AS}:TSat σ (binC op a b σ) (Op2 g σ (binaryOp op) a b):=by
 cases op <;> first | exact True.intro | skip
 cases a <;> first | exact True.intro | skip
 cases b <;> first | exact True.intro | skip
 rename_i f k
 unfold binC
 dsimp only
 cases ht:tupOf σ.hp k with
 | none=>exact True.intro
 | some xs =>
 rcases xs with _ | ⟨a,_ | ⟨b,_ | _⟩⟩ <;> first | exact True.intro | (cases a <;> exact True.intro) | (cases a <;> first | exact True.intro | (cases b <;> exact True.intro)) | skip
 cases a <;> first | exact True.intro | skip
 cases b <;> first | exact True.intro | skip
 rename_i y1 y2
 have go:∀ fm res,sq f fm=true→res.length≤y1.length + y2.length + 3→(∀ u v t b,y1.length≤1000000→y2.length≤1000000→Meets («str.__mod__» ⟨[.str fm t,.ref b],[]⟩) (fun _ R s=>IsTup s.heap b #[.str y1 u,.str y2 v]∧∀ t' k,R (.ok (.ret (.str res t'))) { s with toks:=k })) →
     TSat σ (some (R.ok (AV.str res) { σ with ob:=addOb (chk (pctOk y1 y2)) σ.ob })) (Op2 g σ (binaryOp .Mod) (.str f) (.obj k)):=by
   intro fm res hs hl hm
   refine ⟨addOb_sfx _ _,fun x o z ρ s a' b' Q H va vb hQ=>?_⟩
   obtain ⟨l1,l2⟩:=pctOk_le (chk_ok z.hd)
   obtain ⟨⟨t,rfl⟩,_⟩:=va
   obtain ⟨ad,ha,rfl⟩:=vb
   rw [(sq_iff _ _).mp hs]
   have hq:=fun t' kk=>hQ.now (b:=.str res t') (s':={ s with toks:=kk }) ⟨H.ex⟩ Same.of ⟨⟨_,rfl⟩,by rw [sizeLine_eq]; omega⟩
   obtain ⟨m,os,F,HP,lr⟩:=H
   obtain ⟨ad',o2,h1,h2,hor,hmm⟩:=HP.get (tupOf_get ht)
   cases ha.symm.trans h1
   obtain ⟨vs,nn,rfl,hvs⟩:=hor
   refine vrs2 hvs fun v w e1 e2 e=>?_
   subst e
   obtain ⟨⟨u1,rfl⟩,_⟩:=e1
   obtain ⟨⟨u2,rfl⟩,_⟩:=e2
   exact KPt.mod_tuple HP.nw hmm rfl (hm u1 u2 t ad l1 l2) hq
 dsimp only
 cases hs:sq f fmA with
 | true=>exact go fmA _ hs (by rw [str_len_app,str_len_app]; show _ + 2 + _≤_; omega) fun u v t b l1 l2=>pctA y1 y2 t u v b l1 l2
 | false =>
 dsimp only
 cases hs:sq f fmB with
 | true=>exact go fmB _ hs (by rw [str_len_app,str_len_app,str_len_app]; show _ + 2 + _ + 1≤_; omega) fun u v t b l1 l2=>pctB y1 y2 t u v b l1 l2
 | false=>exact True.intro
end
end
section
set_option maxHeartbeats 1000000
theorem push_same {h₀ h h':Heap} {L:Addr} {m:Str→Option Value} {news:List (Addr × Obj)} {o o':Obj} (F:Fr h₀ L h m) (N:News h₀ L h news) (hs:Heap.SameBut h.objs.size (h.push o) h') (ho:h'.get? h.objs.size=some o') (hfree:o.isFreed=false:=by rfl) :
   Fr h₀ L h' m∧News h₀ L h' ((h.objs.size,o')::news):=by
 have N1:=News.push F N o hfree
 obtain ⟨_,n1,n2⟩:=N1 _ (.head _)
 refine ⟨(F.push o).change hs n1 n2,fun p hp=>?_⟩
 rcases List.mem_cons.mp hp with rfl | hp
 · exact ⟨ho,n1,n2⟩
 · obtain ⟨a,b,c⟩:=N p hp
   have hlt:=Heap.lt_size a
   exact ⟨(hs.2 p.1 (Nat.ne_of_lt hlt)).trans (Heap.get?_push_of_some _ a),b,c⟩
noncomputable def prn (x:Str):Bool:=x.cps.toList.all fun c=>Nat.ble 32 c&&Nat.ble c 126
noncomputable def reA (a:Nat):Bool:=Nat.beq a 788 || Nat.beq a 793
noncomputable def outB (code:Array Nat) (seen:Sre.Seen) (c:Nat):Bool:=match Sre.inSet code (c + 32) code.size 5 true seen with | .ok (false,_)=>true | _=>false
theorem clean788 (P:Params) (seen:Sre.Seen):(List.range 95).all (outB (codeK (KP P) 788) seen)=true:=by kernel_rfl
theorem clean793 (P:Params) (seen:Sre.Seen):(List.range 95).all (outB (codeK (KP P) 793) seen)=true:=by kernel_rfl
theorem clean_of {code:Array Nat} (h:∀ seen,(List.range 95).all (outB code seen)=true) {x:Str} (hx:prn x=true):CleanC code x:=by
 intro c hc seen
 have:=List.all_eq_true.mp hx c hc
 rw [Bool.and_eq_true] at this
 have h1:=Nat.le_of_ble_eq_true this.1
 have h2:=Nat.le_of_ble_eq_true this.2
 have k:=List.all_eq_true.mp (h seen) (c - 32) (List.mem_range.mpr (by omega))
 unfold outB at k
 rw [Nat.sub_add_cancel h1] at k
 revert k
 cases e:Sre.inSet code c code.size 5 true seen with
 | error=>exact fun k=>ceFT k
 | ok p =>
   obtain ⟨b,seen'⟩:=p
   cases b with
   | true=>exact fun k=>ceFT k
   | false=>exact fun _=>⟨seen',rfl⟩
theorem reA_ok {P:Params} {a:Nat} (h:reA a=true):ReOk (KP P) a∧∀ x,prn x=true→CleanC (codeK (KP P) a) x:=by
 unfold reA at h
 rcases Bool.or_eq_true_iff.mp h with q | q
 · rw [Nat.eq_of_beq_eq_true q]
   exact ⟨re788 P,fun x hx=>clean_of (clean788 P) hx⟩
 · rw [Nat.eq_of_beq_eq_true q]
   exact ⟨re793 P,fun x hx=>clean_of (clean793 P) hx⟩
noncomputable def nmSearch:Str:=⟨⟨[115,101,97,114,99,104]⟩⟩
noncomputable def bicC (b:Bi) (as:List AV) (σ:AS):Option (R AV):=match b with
 | .isinstance=>match as with
   | [.str _,.bi .str]=>some (.ok (.bool true) σ)
   | _=>.none
 | .deque=>match as with
   | []=>some (.ok (.obj σ.hp.length) { σ with hp:=σ.hp++[.deq []] })
   | _=>.none
 | .reSearch=>match as with
   | [.top a,.str x]=>(match reA a with
     | true=>some (.ok .none { σ with ob:=addOb (chk (prn x)) σ.ob })
     | false=>.none)
   | _=>.none
 | _=>.none
noncomputable def mbiC (v:AV) (n:Str) (_:List AO):Option (Bi × Bool):=match v with
 | .top a=>match reA a,sq n nmSearch with
   | true,true=>some (.reSearch,false)
   | _,_=>.none
 | _=>.none
section
variable {g:Gl} {P:Params}
theorem bicC_s (hK:g.K=KP P) {b:Bi} {as:List AV} {σ:AS}:TSat σ (bicC b as σ) (OpP g σ as (call b.val ·)):=by
 cases b <;> first | exact True.intro | skip
 case isinstance =>
   rcases as with _ | ⟨a,_ | ⟨b,_ | _⟩⟩ <;> first | exact True.intro | (cases a <;> exact True.intro) | (cases a <;> first | exact True.intro | (cases b <;> first | exact True.intro | (rename_i x; cases x <;> exact True.intro))) | skip
   cases a <;> first | exact True.intro | skip
   cases b <;> first | exact True.intro | skip
   rename_i x
   cases x <;> first | exact True.intro | skip
   refine ⟨sfx_refl _,op2 fun x o z ρ s a' b' Q H va vb hQ=>?_⟩
   obtain ⟨⟨t,rfl⟩,hl⟩:=va
   cases vb
   exact IsiPair.str_str (hQ.now H Same.rfl rfl)
 case deque =>
   cases as with
   | cons=>exact True.intro
   | nil =>
   refine ⟨sfx_refl _,fun x o z ρ s as' Q H vas hQ=>?_⟩
   cases vas
   obtain ⟨m,os,F,HP,lr⟩:=H
   refine call_deque_0 fun h' hs ho=>?_
   obtain ⟨F',N'⟩:=push_same F HP.nw hs ho
   obtain ⟨H2,hv⟩:=HS.adoptN (ob:=σ.ob) (ao:=.deq []) HP lr F' N' (Nat.le_refl _) ⟨[],0,rfl,.nil⟩
   exact hQ _ _ _ ⟨_,rfl⟩ H2 Same.of hv
 case reSearch =>
   rcases as with _ | ⟨a,_ | ⟨b,_ | _⟩⟩ <;> first | exact True.intro | (cases a <;> exact True.intro) | (cases a <;> first | exact True.intro | (cases b <;> exact True.intro)) | skip
   cases a <;> first | exact True.intro | skip
   cases b <;> first | exact True.intro | skip
   rename_i a y
   unfold bicC
   dsimp only
   cases hr:reA a with
   | false=>exact True.intro
   | true =>
   refine ⟨addOb_sfx _ _,op2 fun x o z ρ s a' b' Q H va vb hQ=>?_⟩
   cases va
   obtain ⟨⟨t,rfl⟩,hl⟩:=vb
   obtain ⟨k1,k2⟩:=reA_ok (P:=P) hr
   exact call_search (hK ▸ o.top H) k1 hl (k2 _ (chk_ok z.hd)) (hQ.now ⟨H.ex⟩ Same.rfl rfl)
theorem mbiC_s (hK:g.K=KP P) {v:AV} {n:Str} {σ:AS}:OSat (mbiC v n σ.hp) (MbiP g σ v n):=by
 cases v <;> first | exact True.intro | skip
 rename_i a
 unfold mbiC
 dsimp only
 cases h1:reA a with
 | false=>exact True.intro
 | true =>
 cases h2:sq n nmSearch with
 | false=>exact True.intro
 | true =>
 refine ⟨⟨_,rfl⟩,fun x o ρ s v' pl Q H vr hQ=>?_⟩
 rw [show n=("search" : Str) from (sq_iff _ _).mp h2]
 cases vr
 obtain ⟨k1,k2⟩:=reA_ok (P:=P) h1
 obtain ⟨ob,ho,hc,hd⟩:=k1.ty
 have hg:=(hK ▸ o.top H:(KP P).In s.heap) _ _ ho
 exact getMethod_builtin ⟨ob,hg,hc⟩ re_attrs re_slot_search re_type_search (fun a e=>by cases e; exact ⟨ob,hg,hd⟩) (hQ s.toks)
end
end
section
set_option maxHeartbeats 1000000
theorem dict_typeCall_0:checkTypeCall "dict" ⟨[],[]⟩=pure ():=by kernel_rfl
theorem dict_newCall_0:checkBuiltinCall "dict.__new__" ⟨[.type "dict"],[]⟩=pure ():=by kernel_rfl
theorem dict_args_init (a:Value):argsOk "dict.__init__" ⟨[a],[]⟩:=by unfold argsOk; kernel_rfl
theorem dict_meets_new:Meets (Builtin.«dict.__new__» ⟨[.type "dict"],[]⟩) (fun _ R s=>R (.ok (.ret (.ref s.heap.objs.size))) { s with heap:=s.heap.push { cls:=.type "dict",data:=.dict #[] } }):=by
 refine Meets.of_wp fun prog w A R s hS=>?_
 have e:Builtin.«dict.__new__» ⟨[.type "dict"],[]⟩=(do ret (← newObj (.type "dict") (.dict #[]) none)):=by kernel_rfl
 rw [e]
 refine wpAny_bind (wpAny_bind (wpAny_alloc (wpAny_pure ?_)))
 exact wpAny_pure ⟨_,rfl,hS⟩
theorem dict_meets_init (D:Addr):Meets (Builtin.«dict.__init__» ⟨[.ref D],[]⟩) (fun _ R s=>s.TypeIs (.ref D) "dict" ∧ R (.ok (.ret .none)) s):=by
 refine Meets.of_wp fun prog w A R s hS=>?_
 obtain ⟨ho,hR⟩:=hS
 unfold Builtin.«dict.__init__»
 refine wpAny_bind ?_
 unfold Builtin.Dict.selfAndRest
 refine wpAny_bind (wpAny_notOrdered_dict ho ?_)
 refine wpAny_pure ?_
 exact wpAny_bind (wpAny_pure (wpAny_pure ⟨_,rfl,hR⟩))
theorem call_dict_0 {prog:Program} {w:World} {A:Around} {E:Value→Shared→Prop} {s:Shared} {Q:Value→Shared→Prop} (h:Q (.ref s.heap.objs.size) { s with heap:=s.heap.push { cls:=.type "dict",data:=.dict #[] } }):wpAny (model prog w) A (call (.type "dict") []) Q E s:=by
 refine callType_meets (Q₁:=fun obj s₁=>obj=.ref s.heap.objs.size∧s₁={ s with heap:=s.heap.push { cls:=.type "dict",data:=.dict #[] } }) F.kt_called_dict dict_typeCall_0 dict_newCall_0 F.kt_entry_dict_new F.entry_dict_init dict_meets_new ⟨rfl,rfl⟩ ?_
 rintro obj s₁ ⟨rfl,rfl⟩
 have ho:(s.heap.push { cls:=.type "dict",data:=.dict #[] }).get? s.heap.objs.size=some { cls:=.type "dict",data:=.dict #[] }:=Heap.get?_push_size _ rfl
 exact ⟨⟨_,ho,rfl⟩,dict_args_init _,_,dict_meets_init _,⟨_,ho,rfl⟩,rfl,h⟩
theorem cmd_slot_get:Slot "classmethod_descriptor" "__get__" "classmethod_descriptor.__get__" :=
 .of (owner := "classmethod_descriptor") (n := "__get__") (by rw [typeLookup_type,builtinLookup_eq_fast]; kernel_rfl) (by decide +kernel) (by decide +kernel) (by decide +kernel)
   (by first | exact .inl (by decide +kernel) | exact .inr (by decide +kernel)) (by rw [isSubtype_type]; kernel_rfl)
theorem cmd_entry_get:entryFor table "classmethod_descriptor.__get__" = some Builtin.«classmethod_descriptor.__get__» := entryFor_of_tree (by kernel_rfl)
theorem cmd_args_get (a b c:Value):argsOk "classmethod_descriptor.__get__" ⟨[a,b,c],[]⟩:=by unfold argsOk; kernel_rfl
theorem fk_type:typeOf (.builtin "dict.fromkeys")=pure (.type "classmethod_descriptor"):=by show builtinType _=_; rw [builtinType_eq_fast]; kernel_rfl
theorem fk_find (P:Params):findCls (KP P) (.type "dict") (.type "type") (Str.ofString "fromkeys")=some (.get (.builtin "classmethod_descriptor.__get__") (.builtin "dict.fromkeys") .none (.type "dict")):=by kernel_rfl
theorem fk_bound:Builtin.«classmethod_descriptor.__get__» ⟨[.builtin "dict.fromkeys",.none,.type "dict"],[]⟩=(do ret (← newFields "builtin_function_or_method" [.builtin "dict.fromkeys",.type "dict"])):=by kernel_rfl
section
variable {prog:Program} {w:World} {A:Around} {E:Value→Shared→Prop} {s:Shared} {P:Params}
theorem fk_attr {expr:Bool} {Q:Value→Shared→Prop} (X:(KP P).In s.heap) (h:Q (.ref s.heap.objs.size) { s with heap:=s.heap.push { cls:=.type "builtin_function_or_method",data:=.fields #[.builtin "dict.fromkeys",.type "dict"] },toks:=s.toks + 1 }) :
   wpAny (model prog w) A (getAttr (.type "dict") (Str.ofString "fromkeys") expr) Q E s:=by
 have ho:opaqueClassAbove (.type "dict")=pure none:=by kernel_rfl
 have ht:typeOf (.type "dict")=pure (.type "type"):=by kernel_rfl
 have hb:hookBefore (.type "type")=pure none:=by kernel_rfl
 refine cls_open (hook:=none) X (by rw [ho]; exact .now) (by rw [ht]; exact .now) (by kernel_rfl) (by rw [hb]; exact .now) (by kernel_rfl) (fk_find P) ?_
 unfold CFound.run
 refine wpAny_bind (wpAny_holding (wpAny_call_entry cmd_slot_get ?_ cmd_entry_get ?_ (cmd_args_get _ _ _)))
 · exact fk_type
 · rw [fk_bound]
   unfold newFields
   refine wpAny_bind ?_
   refine wpAny_bind (wpAny_alloc (wpAny_pure ?_))
   refine wpAny_pure ⟨_,rfl,?_⟩
   exact wpAny_pure (handed_on rfl h)
end
end
section
set_option maxHeartbeats 1000000
theorem fk_entry:entryFor table "dict.fromkeys" = some Builtin.«dict.fromkeys» := entryFor_of_tree (by kernel_rfl)
theorem fkl_entry:entryFor table "dict.fromkeys.loop" = some Builtin.«dict.fromkeys.loop» := entryFor_of_tree (by kernel_rfl)
theorem fk_plain:plainId "dict.fromkeys" = true:=by decide +kernel
theorem fkl_plain:plainId "dict.fromkeys.loop" = true:=by decide +kernel
theorem fk_check (v:Value):checkBoundCall "dict.fromkeys" ⟨[.type "dict",v],[]⟩=pure ():=by kernel_rfl
noncomputable def fkL (l:List Nat):List (Str × Value):=l.map fun c=>(⟨#[c]⟩,.none)
theorem fkL_mem {c:Nat} {l:List Nat}:(fkL l).any (fun kv=>decide (kv.1=⟨#[c]⟩))=true→c∈l:=by
 intro h
 obtain ⟨p,hp,e⟩:=List.any_eq_true.mp h
 obtain ⟨d,hd,rfl⟩:=List.mem_map.mp hp
 have:(⟨#[d]⟩:Str)=⟨#[c]⟩:=of_decide_eq_true e
 injection this with this
 simp at this
 exact this ▸ hd
noncomputable def Kp (D I:Addr) (h h':Heap):Prop:=∀ a o,a ≠ D→a ≠ I→h.get? a=some o→h'.get? a=some o
theorem Kp.trans {D I:Addr} {a b c:Heap} (h:Kp D I a b) (k:Kp D I b c):Kp D I a c:=fun x o p q e=>k x o p q (h x o p q e)
section
variable {prog:Program} {w:World} {A:Around} {E:Value→Shared→Prop} {s:Shared} {D I:Addr} {x:Str} {t:Tok}
theorem fk_loop (hh:A.handled=none) (hx:x.cps.size≤1000) (hnd:x.cps.toList.Nodup) (hne:D ≠ I) {Q:Value→Shared→Prop}:∀ (r l:List Nat) (s:Shared),x.cps.toList=l++r→s.heap.IsStrIter I "str_ascii_iterator" x t l.length→s.heap.DictOf (PySem.strKind prog w) D (fkL l) →
   (∀ h' tk,Kp D I s.heap h'→h'.DictOf (PySem.strKind prog w) D (fkL (l++r))→Q (.ref D) { s with heap:=h',toks:=tk }) →
   codeAny (model prog w) A (.builtin "dict.fromkeys.loop" ⟨[.ref D,.ref I,.none],[]⟩) (wants Q E) s:=by
 intro r
 induction r with
 | nil =>
   intro l s hi hit hd hQ
   refine codeAny_builtin fkl_entry ?_
   rw [Around.under_plainId fkl_plain _]
   unfold Builtin.«dict.fromkeys.loop»
   dsimp only
   have hsz:x.cps.size=l.length:=by
     have:=congrArg List.length hi
     simpa using this
   refine wpAny_bind (wpAny_pyNext_ascii_end (by exact hh) hit (by simp; omega) fun h' he=>?_)
   rw [List.append_nil] at hQ
   exact wpAny_pure (hQ h' s.toks (fun a o _ b e=>he a o b e) (hd.extBut he hne))
 | cons c r ih =>
   intro l s hi hit hd hQ
   refine codeAny_builtin fkl_entry ?_
   rw [Around.under_plainId fkl_plain _]
   unfold Builtin.«dict.fromkeys.loop»
   dsimp only
   have hsz:x.cps.size=l.length + (r.length + 1):=by
     have:=congrArg List.length hi
     simpa using this
   have hc:x.cps[l.length]?=some c:=by
     rw [← Array.getElem?_toList,hi,List.getElem?_append_right (Nat.le_refl _)]
     simp
   refine wpAny_bind (wpAny_pyNext_ascii_item hit hc fun h₁ hit₁ hs₁=>?_)
   dsimp only
   have hd₁:=hd.sameBut hs₁ hne
   refine wpAny_bind (wpAny_typeOf (hd₁.typeIs (s:={ s with heap:=h₁,toks:=s.toks + 1 })) ?_)
   rw [if_pos (by decide +kernel)]
   refine wpAny_bind (wpAny_pure ?_)
   refine wpAny_bind (wpAny_holding (wpAny_dictSet_pairs (s:={ s with heap:=h₁,toks:=s.toks + 1 }) (knd:=PySem.strKind prog w) (k:=⟨#[c]⟩) ?_ hd₁ (fun h₂ hd₂ hs₂=>?_) ?_))
   · simp [PySem.strKind,Value.isStrOf]
   · refine wpAny_pure ⟨plainId_quiet fkl_plain _,?_⟩
     have hnot:¬ ((fkL l).any (fun kv=>decide (kv.1=⟨#[c]⟩))=true):=fun q=>by
       have hm:=fkL_mem q
       rw [hi] at hnd
       exact (List.nodup_append.mp hnd).2.2 _ hm _ (.head _) rfl
     unfold stored at hd₂
     rw [if_neg hnot] at hd₂
     have e2:fkL l++[((⟨#[c]⟩:Str),Value.none)]=fkL (l++[c]):=by simp [fkL]
     rw [e2] at hd₂
     have hit₂:h₂.IsStrIter I "str_ascii_iterator" x t (l++[c]).length:=by
       obtain ⟨o,ho,hr⟩:=hit₁
       exact ⟨o,(hs₂.2 I (Ne.symm hne)).trans ho,by simpa using hr⟩
     refine ih (l++[c]) { s with heap:=h₂,toks:=s.toks + 1 + 1 } (by simp [hi]) hit₂ hd₂ fun h' tk k1 k2=>?_
     refine hQ h' tk (Kp.trans (Kp.trans (fun a o _ b e=>(hs₁.2 a b).trans e) (fun a o b _ e=>(hs₂.2 a b).trans e)) k1) ?_
     rw [List.append_assoc] at k2
     exact k2
   · have:(fkL l).length=l.length:=by simp [fkL]
     rw [this,sizeLine_eq]
     omega
theorem fk_body (hh:A.handled=none) (hx:x.cps.size≤1000) (hnd:x.cps.toList.Nodup) (ha:x.cps.all (·<128)=true) {Q:Value→Shared→Prop}
   (hQ:∀ h' tk,(∀ a o,s.heap.get? a=some o→h'.get? a=some o)→h'.DictOf (PySem.strKind prog w) s.heap.objs.size (fkL x.cps.toList)→Q (.ref s.heap.objs.size) { s with heap:=h',toks:=tk }) :
   codeAny (model prog w) A (.builtin "dict.fromkeys" ⟨[.type "dict",.str x t],[]⟩) (wants Q E) s:=by
 refine codeAny_builtin fk_entry ?_
 rw [Around.under_plainId fk_plain _]
 have hsub:isSubtype (.type "dict") (.type "dict")=pure true:=F.kt_sub_dict
 unfold Builtin.«dict.fromkeys»
 dsimp only
 refine wpAny_bind (wpAny_of_eq (a:=true) rfl ?_)
 rw [if_neg (by decide)]
 refine wpAny_bind (wpAny_of_eq hsub ?_)
 rw [if_neg (by decide),if_neg (by decide)]
 refine wpAny_bind (wpAny_rule (wpAny_bind (wpAny_pure ?_)))
 refine wpAny_bind (call_dict_0 ?_)
 have hd₀:(s.heap.push { cls:=.type "dict",data:=.dict #[] }).DictOf (PySem.strKind prog w) s.heap.objs.size []:=Heap.DictOf.new s.heap
 refine wpAny_holding ?_
 refine wpAny_bind (wpAny_of_eq (a:=.type "str") rfl ?_)
 refine wpAny_bind (wpAny_typeOf hd₀.typeIs ?_)
 rw [if_neg (by decide +kernel)]
 refine wpAny_bind (wpAny_typeOf hd₀.typeIs ?_)
 rw [if_neg (by decide +kernel)]
 refine wpAny_bind (wpAny_pyIter_ascii ha ?_)
 refine wpAny_pure ⟨plainId_quiet fkl_plain _,?_⟩
 have hne:s.heap.objs.size ≠ (s.heap.push { cls:=.type "dict",data:=.dict #[] }).objs.size:=by rw [Heap.size_push]; omega
 refine fk_loop hh hx hnd hne x.cps.toList [] _ rfl ⟨_,Heap.get?_push_size _ rfl,rfl,rfl⟩ (hd₀.push _) fun h' tk k1 k2=>?_
 refine hQ h' tk (fun a o e=>?_) k2
 have hlt:=Heap.lt_size e
 exact k1 a o (Nat.ne_of_lt hlt) (by rw [Heap.size_push]; exact Nat.ne_of_lt (Nat.lt_succ_of_lt hlt)) (Heap.get?_push_of_some _ (Heap.get?_push_of_some _ e))
theorem fk_call (hh:A.handled=none) (hx:x.cps.size≤1000) (hnd:x.cps.toList.Nodup) (ha:x.cps.all (·<128)=true) {B:Addr} (hB:s.heap.get? B=some { cls:=.type "builtin_function_or_method",data:=.fields #[.builtin "dict.fromkeys",.type "dict"] }) {Q:Value→Shared→Prop}
   (hQ:∀ h' tk,(∀ a o,s.heap.get? a=some o→h'.get? a=some o)→h'.DictOf (PySem.strKind prog w) s.heap.objs.size (fkL x.cps.toList)→Q (.ref s.heap.objs.size) { s with heap:=h',toks:=tk }) :
   wpAny (model prog w) A (call (.ref B) [.str x t]) Q E s:=by
 refine wpAny_call (codeAny_of_tree ?_)
 show wpAny _ _ (callAny (.ref B) ⟨[.str x t],[]⟩) _ _ _
 unfold callAny
 refine wpAny_bind (wpAny_load hB ?_)
 dsimp only
 rw [if_pos (by decide +kernel)]
 show wpAny _ _ (if (Value.type "builtin_function_or_method" != Value.type "method")=true then (do checkBoundCall "dict.fromkeys" ⟨[.type "dict",.str x t],[]⟩; again (.builtin "dict.fromkeys" ⟨[.type "dict",.str x t],[]⟩)) else _) _ _ _
 rw [if_pos (by decide +kernel)]
 refine wpAny_bind (wpAny_of_eq (fk_check _) (wpAny_pure ⟨plainId_quiet fk_plain _,?_⟩))
 exact fk_body hh hx hnd ha hQ
end
end
section
set_option maxHeartbeats 1000000
theorem mt_entry:entryFor table "str.maketrans" = some Builtin.«str.maketrans» := entryFor_of_tree (by kernel_rfl)
theorem mt_plain:plainId "str.maketrans" = true:=by decide +kernel
theorem mt_check (v:Value):checkBuiltinCall "str.maketrans" ⟨[v],[]⟩=pure ():=by kernel_rfl
noncomputable def trL (l:List Nat):List (Int × Value):=l.map fun (c:Nat)=>((c:Int),Value.none)
theorem trL_mem {c:Nat} {l:List Nat}:(trL l).any (fun kv=>decide (kv.1=(c:Int)))=true→c∈l:=by
 intro h
 obtain ⟨p,hp,e⟩:=List.any_eq_true.mp h
 obtain ⟨d,hd,rfl⟩:=List.mem_map.mp hp
 have:(d:Int)=c:=of_decide_eq_true e
 have:d=c:=by omega
 exact this ▸ hd
section
variable {prog:Program} {w:World} {A:Around} {E:Value→Shared→Prop} {s:Shared} {D T:Addr}
theorem mt_loop {f:DictEntry→PUnit→Sem (ForInStep PUnit)} (hf:∀ e k t,e.key=.str ⟨⟨[k]⟩⟩ t→e.val=.none→f e ⟨⟩=(do let i ← mkInt (k:Nat); dictSet T i .none; pure (ForInStep.yield PUnit.unit))) {Q:PUnit→Shared→Prop} :
   ∀ {r:List Nat} {ds:List DictEntry},All2 (fun k d=>(∃ t,d.key=.str ⟨⟨[k]⟩⟩ t)∧d.val=.none) r ds→∀ (l:List Nat) (s:Shared),(l++r).Nodup→(l++r).length≤1000→s.heap.DictOf (intKind prog w) T (trL l) →
   (∀ h' tk,Heap.SameBut T s.heap h'→h'.DictOf (intKind prog w) T (trL (l++r))→Q ⟨⟩ { s with heap:=h',toks:=tk })→wpAny (model prog w) A (forIn ds PUnit.unit f) Q E s:=by
 intro r ds ha
 induction ha with
 | nil =>
   intro l s _ _ hd hQ
   rw [List.append_nil] at hQ
   exact wpAny_pure (hQ s.heap s.toks ⟨rfl,fun _ _=>rfl⟩ hd)
 | @cons c d r ds h1 ha ih =>
   intro l s hn hl hd hQ
   obtain ⟨⟨t,h1⟩,h2⟩:=h1
   rw [List.forIn_cons,hf d c t h1 h2]
   refine wpAny_bind (wpAny_bind (wpAny_mkInt (wpAny_bind ?_)))
   refine wpAny_dictSet_pairs (s:={ s with toks:=s.toks + 1 }) (knd:=intKind prog w) (k:=(c:Int)) ?_ hd (fun h₂ hd₂ hs₂=>?_) ?_
   · simp [intKind,Value.isInt]
   · have hnot:¬ ((trL l).any (fun kv=>decide (kv.1=(c:Int)))=true):=fun q=>(List.nodup_append.mp hn).2.2 _ (trL_mem q) _ (.head _) rfl
     unfold stored at hd₂
     rw [if_neg hnot] at hd₂
     have e2:trL l++[((c:Int),Value.none)]=trL (l++[c]):=by simp [trL]
     rw [e2] at hd₂
     have e3:l++[c]++r=l++c::r:=by simp
     refine wpAny_pure (ih (l++[c]) { s with heap:=h₂,toks:=s.toks + 1 + 1 } (e3 ▸ hn) (e3 ▸ hl) hd₂ fun h' tk k1 k2=>?_)
     refine hQ h' tk (hs₂.trans k1) ?_
     rw [e3] at k2
     exact k2
   · have e1:(trL l).length=l.length:=by simp [trL]
     have e2:l.length + (r.length + 1)≤1000:=by simpa using hl
     rw [e1,sizeLine_eq]
     omega
theorem mt_call {ks:List Nat} {ds:List DictEntry} {n:Nat} (hD:s.heap.get? D=some (dictOf ds n)) (hs:(D==sysModules)=false) (ha:All2 (fun k d=>(∃ t,d.key=.str ⟨⟨[k]⟩⟩ t)∧d.val=.none) ks ds) (hnd:ks.Nodup) (hl:ks.length≤1000) {Q:Value→Shared→Prop}
   (hQ:∀ h' tk,(∀ a o,s.heap.get? a=some o→h'.get? a=some o)→h'.DictOf (intKind prog w) s.heap.objs.size (trL ks)→Q (.ref s.heap.objs.size) { s with heap:=h',toks:=tk }) :
   wpAny (model prog w) A (call (.builtin "str.maketrans") [.ref D]) Q E s:=by
 refine wpAny_call (codeAny_call_builtin mt_plain mt_entry (wpAny_of_eq (mt_check _) ?_))
 unfold Builtin.«str.maketrans»
 refine wpAny_bind (wpAny_of_eq (a:=()) rfl ?_)
 refine wpAny_bind (wpAny_of_eq (a:=()) (by kernel_rfl) ?_)
 refine wpAny_bind (wpAny_of_eq (a:=none) rfl ?_)
 refine wpAny_bind (wpAny_of_eq (a:=none) rfl ?_)
 refine wpAny_bind (m:=newDict) (wpAny_newObj_type ?_ (by size_fits))
 have hd₀:(s.heap.push { cls:=.type "dict",data:=.dict #[] }).DictOf (intKind prog w) s.heap.objs.size []:=Heap.DictOf.new s.heap
 have hD':(s.heap.push { cls:=.type "dict",data:=.dict #[] }).get? D=some (dictOf ds n):=Heap.get?_push_of_some _ hD
 have hT:Shared.TypeIs { s with heap:=s.heap.push { cls:=.type "dict",data:=.dict #[] } } (.ref D) "dict" := ⟨_,hD',rfl⟩
 refine wpAny_bind (wpAny_holding ?_)
 refine wpAny_bind (wpAny_typeOf hT ?_)
 refine wpAny_bind (wpAny_of_eq (a:=()) rfl ?_)
 refine wpAny_bind (wpAny_typeOf hT ?_)
 rw [if_neg (by decide +kernel)]
 dsimp only
 refine wpAny_bind (m:=notTheModulesDict "str.maketrans" D) (wpAny_of_eq (a:=()) (by unfold notTheModulesDict; rw [hs]; rfl) ?_)
 refine wpAny_bind (wpAny_dictEntries hD' rfl ?_)
 refine wpAny_bind ?_
 rw [← Array.forIn_toList]
 refine mt_loop (T:=s.heap.objs.size) (fun e k t h1 h2=>by obtain ⟨eh,ek,ev⟩:=e; cases h1; cases h2; rfl) ha [] _ (by simpa using hnd) (by simpa using hl) hd₀ fun h' tk k1 k2=>?_
 refine wpAny_pure (wpAny_pure (hQ h' tk (fun a o e=>?_) k2))
 exact (k1.2 a (Nat.ne_of_lt (Heap.lt_size e))).trans (Heap.get?_push_of_some _ e)
end
end
section
set_option maxHeartbeats 1000000
open Builtin.Str
theorem sub_KeyError:isSubtype (.type "KeyError") (.type "LookupError")=pure true:=by rw [isSubtype_type]; kernel_rfl
theorem valueAt_trL (c:Nat):∀ l:List Nat,valueAt (trL l) (c:Int)=if l.any (Nat.beq c) then some .none else none
 | []=>rfl
 | d::r=>by
   have ih:=valueAt_trL c r
   unfold valueAt at ih ⊢
   unfold trL at ih ⊢
   rw [List.map_cons,List.find?_cons,List.any_cons]
   by_cases h:c=d
   · subst h
     simp
   · have h1:decide (((d:Nat):Int)=(c:Int))=false:=by
       rw [decide_eq_false_iff_not]; omega
     have h2:Nat.beq c d=false:=by
       cases hb:Nat.beq c d with
       | false=>rfl
       | true=>exact absurd (Nat.eq_of_beq_eq_true hb) h
     dsimp only
     rw [h1,h2,Bool.false_or]
     exact ih
noncomputable abbrev TS:=List Str × Nat × Bool × List (Nat × Option Nat) × Bool
section
variable {prog:Program} {w:World} {A:Around} {E:Value→Shared→Prop} {s:Shared} {D T:Addr} {ks:List Nat}
theorem tl_keep {c:Nat} {Q:Mapped→Shared→Prop} (hh:A.handled=none) (hs:(D==sysModules)=false) (hd:s.heap.DictOf (intKind prog w) D (trL ks)) (hc:ks.any (Nat.beq c)=false)
   (hQ:∀ h' tk,(∀ a o,s.heap.get? a=some o→h'.get? a=some o)→Q .keep { s with heap:=h',toks:=tk }):wpAny (model prog w) A (tableLookup (.ref D) c) Q E s:=by
 unfold tableLookup
 refine wpAny_bind (wpAny_attempt (wpAny_bind (wpAny_mkInt ?_)))
 refine wpAny_getItem_missing_of (knd:=intKind prog w) (k:=(c:Int)) (s:={ s with toks:=s.toks + 1 }) (by simp [intKind,Value.isInt]) hs hh hd.mapOf (by rw [valueAt_trL,hc]; rfl) fun h' e hn=>?_
 obtain ⟨ob,t,h1,h2,_⟩:=hn.there
 refine wpAny_bind (wpAny_isInstance (T := "KeyError") ⟨ob,h1,h2⟩ sub_KeyError ?_)
 rw [if_pos rfl]
 exact wpAny_bind (wpAny_rule (wpAny_pure (hQ h' _ hn.keeps)))
theorem tl_drop {c:Nat} {Q:Mapped→Shared→Prop} (hd:s.heap.DictOf (intKind prog w) D (trL ks)) (hc:ks.any (Nat.beq c)=true)
   (hQ:∀ tk,Q .drop { s with toks:=tk }):wpAny (model prog w) A (tableLookup (.ref D) c) Q E s:=by
 unfold tableLookup
 refine wpAny_bind (wpAny_attempt (wpAny_bind (wpAny_mkInt ?_)))
 refine wpAny_getItem_of (knd:=intKind prog w) (k:=(c:Int)) (v:=.none) (s:={ s with toks:=s.toks + 1 }) (by simp [intKind,Value.isInt]) hd.mapOf (by rw [valueAt_trL,hc]; rfl) ?_
 exact wpAny_pure (hQ _)
noncomputable def kpt (ks:List Nat) (c:Nat):Bool:=!(ks.any (Nat.beq c))
noncomputable def ansOf (ks:List Nat) (c:Nat):Option Nat:=if kpt ks c then some c else none
theorem ans_t {c:Nat} (h:kpt ks c=true):ansOf ks c=some c:=if_pos h
theorem ans_f {c:Nat} (h:kpt ks c=false):ansOf ks c=none:=if_neg (by rw [h]; exact Bool.false_ne_true)
theorem tr_loop {f:Nat→TS→Sem (ForInStep TS)} (hh:A.handled=none) (hs:(D==sysModules)=false)
   (f1:∀ c d p n k (Q:ForInStep TS→Shared→Prop) s,n≤1000→k.lookup c=some (some d)→Q (.yield (⟨#[d]⟩::p,n + 1,true,k,false)) s→wpAny (model prog w) A (f c (p,n,true,k,false)) Q E s)
   (f2:∀ c p n k (Q:ForInStep TS→Shared→Prop) s,n≤1000→k.lookup c=some none→Q (.yield (p,n,true,k,false)) s→wpAny (model prog w) A (f c (p,n,true,k,false)) Q E s)
   (f3:∀ c p n k (Q:ForInStep TS→Shared→Prop) s,n≤1000→k.lookup c=none→wpAny (model prog w) A (tableLookup (.ref D) c) (fun m s'=>match m with
     | .keep=>Q (.yield (⟨#[c]⟩::p,n + 1,true,(c,some c)::k,false)) s'
     | .drop=>Q (.yield (p,n,true,(c,none)::k,false)) s'
     | _=>False) E s→wpAny (model prog w) A (f c (p,n,true,k,false)) Q E s)
   {Q:TS→Shared→Prop}:∀ (l:List Nat) (p:List Str) (n:Nat) (k:List (Nat × Option Nat)) (s:Shared),n + l.length≤1000→(∀ c a,k.lookup c=some a→a=ansOf ks c)→s.heap.DictOf (intKind prog w) D (trL ks) →
   (∀ h' tk n' k',(∀ a o,s.heap.get? a=some o→h'.get? a=some o)→n'≤1000→Q ((l.filter (kpt ks)).reverse.map (fun c=>(⟨#[c]⟩:Str))++p,n',true,k',false) { s with heap:=h',toks:=tk }) →
   wpAny (model prog w) A (forIn l (p,n,true,k,false) f) Q E s:=by
 intro l
 induction l with
 | nil=>exact fun p n k s hn _ _ hQ=>wpAny_pure (hQ s.heap s.toks n k (fun _ _ e=>e) hn)
 | cons c r ih =>
   intro p n k s hn hk hd hQ
   have hn':n + (r.length + 1)≤1000:=hn
   rw [List.forIn_cons]
   have keepIt:∀ (k':List (Nat × Option Nat)) (h₁:Heap) (tk:Nat),kpt ks c=true→(∀ c a,k'.lookup c=some a→a=ansOf ks c)→(∀ a o,s.heap.get? a=some o→h₁.get? a=some o)→wpAny (model prog w) A (forIn r (⟨#[c]⟩::p,n + 1,true,k',false) f) Q E { s with heap:=h₁,toks:=tk }:=by
     intro k' h₁ tk hc hk' hg
     obtain ⟨o,es,ep,ho,rest⟩:=id hd
     refine ih (⟨#[c]⟩::p) (n + 1) k' { s with heap:=h₁,toks:=tk } (by omega) hk' ⟨o,es,ep,hg _ _ ho,rest⟩ fun h' tk' n' k'' g' hle=>?_
     have:=hQ h' tk' n' k'' (fun a o e=>g' a o (hg a o e)) hle
     rw [List.filter_cons,if_pos hc] at this
     simpa using this
   have dropIt:∀ (k':List (Nat × Option Nat)) (tk:Nat),kpt ks c=false→(∀ c a,k'.lookup c=some a→a=ansOf ks c)→wpAny (model prog w) A (forIn r (p,n,true,k',false) f) Q E { s with toks:=tk }:=by
     intro k' tk hc hk'
     refine ih p n k' { s with toks:=tk } (by omega) hk' hd fun h' tk' n' k'' g' hle=>?_
     have:=hQ h' tk' n' k'' g' hle
     rw [List.filter_cons,if_neg (by rw [hc]; exact Bool.false_ne_true)] at this
     exact this
   cases hl:k.lookup c with
   | some a =>
     have ha:=hk c a hl
     cases q:kpt ks c with
     | true =>
       rw [ans_t q] at ha
       subst ha
       exact wpAny_bind (f1 c c p n k _ _ (by omega) hl (keepIt k s.heap s.toks q hk fun _ _ e=>e))
     | false =>
       rw [ans_f q] at ha
       subst ha
       exact wpAny_bind (f2 c p n k _ _ (by omega) hl (dropIt k s.toks q hk))
   | none =>
     have more:∀ a,a=ansOf ks c→∀ c' a',((c,a)::k).lookup c'=some a'→a'=ansOf ks c':=by
       intro a ha c' a' h
       rw [List.lookup_cons] at h
       revert h
       cases q:c'==c with
       | true=>intro h; cases h; rw [eq_of_beq q]; exact ha
       | false=>exact fun h=>hk c' a' h
     refine wpAny_bind (f3 c p n k _ s (by omega) hl ?_)
     cases hc:ks.any (Nat.beq c) with
     | false =>
       have hq:kpt ks c=true:=by unfold kpt; rw [hc]; rfl
       refine tl_keep hh hs hd hc fun h' tk hg=>?_
       exact keepIt _ h' tk hq (more _ (ans_t hq).symm) hg
     | true =>
       have hq:kpt ks c=false:=by unfold kpt; rw [hc]; rfl
       refine tl_drop hd hc fun tk=>?_
       exact dropIt _ tk hq (more _ (ans_f hq).symm)
theorem fold_one:∀ (l:List Nat) (acc:Array Nat),(l.map (fun c=>(⟨#[c]⟩:Str))).foldl (fun acc p=>acc++p.cps) acc=acc++l.toArray
 | [],acc=>by simp
 | c::r,acc=>by
   rw [List.map_cons,List.foldl_cons,fold_one r]
   simp
theorem tr_body {x:Str} {t:Tok} {Q:Value→Shared→Prop} (hh:A.handled=none) (hs:(D==sysModules)=false) (hd:s.heap.DictOf (intKind prog w) D (trL ks)) (ha:x.cps.all (·<128)=true) (hx:x.cps.size≤1000) (h0:(x.length==0)=false)
   (hQ:∀ h' tk t',(∀ a o,s.heap.get? a=some o→h'.get? a=some o)→Q (.str ⟨⟨x.cps.toList.filter (kpt ks)⟩⟩ t') { s with heap:=h',toks:=tk }) :
   wpAny (model prog w) A (Builtin.«str.translate» ⟨[.str x t,.ref D],[]⟩) (fun fin s'=>∃ v,fin=.done (.ret v)∧Q v s') E s:=by
 have tl:∀ n,n≤1000→¬ (tooLong n=true):=fun n hn=>KPc.short (Nat.le_trans hn (by decide))
 refine wpAny_bind (wpAny_of_eq (a:=(.str x t,x,.ref D)) (by kernel_rfl) (wpAny_ite (KPc.ite_no (by rw [h0]; exact Bool.false_ne_true) (wpAny_bind ?_))))
 rw [ha,← Array.forIn_toList]
 refine tr_loop (ks:=ks) hh hs (fun c d p n k Q' s' hn hl hq=>?_) (fun c p n k Q' s' hn hl hq=>?_) (fun c p n k Q' s' hn hl hw=>?_) x.cps.toList [] 0 [] s (by simpa using hx) (fun c a h=>by cases h) hd fun h' tk n' k' hg hn'=>?_
 · refine wpAny_ite (KPc.ite_no (tl n hn) ?_)
   rw [hl]
   exact wpAny_pure hq
 · refine wpAny_ite (KPc.ite_no (tl n hn) ?_)
   rw [hl]
   exact wpAny_pure hq
 · refine wpAny_ite (KPc.ite_no (tl n hn) ?_)
   rw [hl]
   refine wpAny_bind (wpAny_mono hw (fun m s'' hm=>?_) fun _ _ e=>e)
   cases m with
   | keep=>exact wpAny_pure hm
   | drop=>exact wpAny_pure hm
   | char d=>exact hm.elim
   | text t=>exact hm.elim
 · refine wpAny_ite (KPc.ite_no (tl n' hn') ?_)
   have e:(List.reverse ((x.cps.toList.filter (kpt ks)).reverse.map (fun c=>(⟨#[c]⟩:Str))++[])).foldl (fun acc p=>acc++p.cps) #[]=(⟨x.cps.toList.filter (kpt ks)⟩:Array Nat):=by
     rw [List.append_nil,← List.map_reverse,List.reverse_reverse,fold_one]
     simp
   rw [e]
   refine wpAny_bind (wpAny_mkStr (hx:=?_) (wpAny_pure ⟨_,rfl,hQ h' _ _ hg⟩))
   show (x.cps.toList.filter (kpt ks)).toArray.size≤sizeLine
   have:=List.length_filter_le (kpt ks) x.cps.toList
   rw [sizeLine_eq,List.size_toArray]
   have h2:x.cps.toList.length=x.cps.size:=by simp
   omega
theorem tr_call {x:Str} {t:Tok} {Q:Value→Shared→Prop} (hh:A.handled=none) (hs:(D==sysModules)=false) (hd:s.heap.DictOf (intKind prog w) D (trL ks)) (ha:x.cps.all (·<128)=true) (hx:x.cps.size≤1000) (h0:(x.length==0)=false)
   (hQ:∀ h' tk t',(∀ a o,s.heap.get? a=some o→h'.get? a=some o)→Q (.str ⟨⟨x.cps.toList.filter (kpt ks)⟩⟩ t') { s with heap:=h',toks:=tk }) :
   wpAny (model prog w) A (call (.builtin "str.translate") [.str x t,.ref D]) Q E s :=
 wpAny_call_entry F.slot_str_translate (typeIs_str _ _ _) F.entry_str_translate (tr_body hh hs hd ha hx h0 hQ) (F.args_str_translate_2 _ _)
end
end
section
set_option maxHeartbeats 1000000
theorem mt_lookup:typeLookup (.type "str") (Str.ofString "maketrans")=pure (some (.builtin "str.maketrans")):=by rw [typeLookup_type,builtinLookup_eq_fast]; kernel_rfl
theorem mt_type:typeOf (.builtin "str.maketrans")=pure (.type "builtin_function_or_method"):=by show builtinType _=_; rw [builtinType_eq_fast]; kernel_rfl
theorem bf_noget:typeLookup (.type "builtin_function_or_method") "__get__" = pure none:=by rw [typeLookup_type,builtinLookup_eq_fast]; kernel_rfl
theorem mt_meets (x:Str) (t u:Tok):Meets (Builtin.«object.__getattribute__» ⟨[.str x t,.str (Str.ofString "maketrans") u],[]⟩) (fun _ R s=>R (.ok (.ret (.builtin "str.maketrans"))) s) :=
 Meets.of_wp fun prog w A R s hs=>by
   obtain ⟨hp,g,d,tk,os⟩:=s
   have hT:∀ s':Shared,s'.TypeIs (.str x t) "str" := fun _=>rfl
   have hT2:∀ s':Shared,s'.TypeIs (.builtin "str.maketrans") "builtin_function_or_method" := fun _=>mt_type
   have h1:=mt_lookup
   have h2:=mt_type
   have h3:=bf_noget
   unfold Builtin.«object.__getattribute__»
   repeat (any_goals (first | assumption | wp_step))
   exact ⟨_,rfl,hs⟩
section
variable {prog:Program} {w:World} {A:Around} {E:Value→Shared→Prop} {s:Shared} {x:Str} {t:Tok}
theorem mt_attr {Q:Value→Shared→Prop} (h:∀ tk,Q (.builtin "str.maketrans") { s with toks:=tk }):wpAny (model prog w) A (getAttr (.str x t) (Str.ofString "maketrans")) Q E s:=by
 obtain ⟨hp,g,d,tk,os⟩:=s
 have hT:∀ s':Shared,s'.TypeIs (.str x t) "str" := fun _=>rfl
 have f3:=F.slot_str_getattribute.lookup
 have f4:=F.slot_str_getattribute.bind (.str x t)
 have f5:=am_str_getattr_none
 unfold getAttr getAttrBy
 repeat (any_goals (first | assumption | ((with_reducible show wpAny _ _ (call (Value.builtin "object.__getattribute__") _ _) _ _ _); refine call_meets F.slot_str_getattribute (hT _) F.entry_object_getattribute (F.args_object_getattribute_2 _ _) (mt_meets x t _) ?_) | wp_step))
 exact handed_on (by decide +kernel) (h _)
theorem mt_method {pl:Sem Bool} {Q:Value × List Value→Shared→Prop} (h:∀ tk,Q (.builtin "str.maketrans",[]) { s with toks:=tk }):wpAny (model prog w) A (getMethod (.str x t) (Str.ofString "maketrans") pl) Q E s:=by
 have hT:∀ s':Shared,s'.TypeIs (.str x t) "str" := fun _=>rfl
 have hcan:=PySem.F.canon_object_ga
 unfold getMethod
 refine wpAny_bind (wpAny_specialOf (hT _) F.slot_str_getattribute.lookup ?_)
 dsimp only
 rw [hcan,if_neg (by decide)]
 refine wpAny_bind (wpAny_specialOf (hT _) am_str_getattr_none ?_)
 rw [if_neg (by decide)]
 refine wpAny_bind (wpAny_specialOf (hT _) mt_lookup ?_)
 dsimp only
 refine wpAny_bind (wpAny_of_eq mt_type ?_)
 rw [if_pos (by decide +kernel)]
 exact wpAny_bind (mt_attr fun tk=>wpAny_pure (h tk))
end
theorem notMods {P:Params} {h₀:Heap} {D:Addr} (X:(KP P).In h₀) (h:h₀.get? D=none):(D==sysModules)=false:=by
 rw [beq_eq_false_iff_ne]
 intro e
 have h1:(KP P).lookup 1=some (dcO P [("builtins",162,(.ref 4)),("__main__",163,(.ref 5)),("_sre",244,(.ref 12)),("_collections",292,(.ref 30))] 4 (.type "dict")):=by kernel_rfl
 have:=X _ _ h1
 rw [show D=1 from e,this] at h
 cases h
noncomputable def nmMk:Str:=⟨⟨[109,97,107,101,116,114,97,110,115]⟩⟩
noncomputable def nmTr:Str:=⟨⟨[116,114,97,110,115,108,97,116,101]⟩⟩
noncomputable def mbiD (v:AV) (n:Str) (_:List AO):Option (Bi × Bool):=match v with
 | .str _=>match sq n nmMk with
   | true=>some (.sMaketrans,true)
   | false=>match sq n nmTr with
     | true=>some (.sTranslate,false)
     | false=>.none
 | _=>.none
noncomputable def asciiN (x:Str):Bool:=(x.cps.toList.all fun c=>Nat.ble c 127)&&Nat.ble x.cps.toList.length 1000
theorem asciiN_ok {x:Str} (h:asciiN x=true):x.cps.all (·<128)=true∧x.cps.size≤1000:=by
 unfold asciiN at h
 rw [Bool.and_eq_true] at h
 refine ⟨?_,by simpa using Nat.le_of_ble_eq_true h.2⟩
 rw [← Array.all_toList,List.all_eq_true]
 intro c hc
 have:=Nat.le_of_ble_eq_true (List.all_eq_true.mp h.1 c hc)
 exact decide_eq_true (by omega)
noncomputable def bicD (b:Bi) (as:List AV) (σ:AS):Option (R AV):=match b with
 | .sMaketrans=>match as with
   | [.obj k]=>(match atI σ.hp k with
     | some (.frk ks)=>(match nodupN ks&&Nat.ble ks.length 1000 with
       | true=>some (.ok (.obj σ.hp.length) { σ with hp:=σ.hp++[.trn ks] })
       | false=>.none)
     | _=>.none)
   | _=>.none
 | .sTranslate=>match as with
   | [.str x,.obj k]=>(match atI σ.hp k with
     | some (.trn ks)=>(match asciiN x&&nodupN ks&&!(x.length==0) with
       | true=>some (.ok (.str ⟨⟨x.cps.toList.filter (kpt ks)⟩⟩) σ)
       | false=>.none)
     | _=>.none)
   | _=>.none
 | _=>.none
end
section
set_option maxHeartbeats 1000000
theorem grown_new {h₀ h h':Heap} {L D:Addr} {m:Str→Option Value} {news:List (Addr × Obj)} {o':Obj} (F:Fr h₀ L h m) (N:News h₀ L h news) (hg:∀ a o,h.get? a=some o→h'.get? a=some o) (hD:h.objs.size≤D) (ho:h'.get? D=some o') :
   Fr h₀ L h' m∧News h₀ L h' ((D,o')::news):=by
 obtain ⟨oL,a1,a2,hL,a3⟩:=F.ns
 refine ⟨⟨⟨oL,a1,a2,hg _ _ hL,a3⟩,fun b o e=>hg _ _ (F.keep b o e),F.above⟩,fun p hp=>?_⟩
 rcases List.mem_cons.mp hp with rfl | hp
 · refine ⟨ho,fun e=>?_,?_⟩
   · have:=Heap.lt_size hL
     rw [← show D=L from e] at this
     exact absurd this (Nat.not_lt.mpr hD)
   · cases e:h₀.get? D with
     | none=>rfl
     | some o=>exact absurd (Heap.lt_size (F.keep _ _ e)) (Nat.not_lt.mpr hD)
 · obtain ⟨a,b,c⟩:=N p hp
   exact ⟨hg _ _ a,b,c⟩
theorem exact_dictOf {o:Obj} {es:Array DictEntry} {ep:Nat} (h:o.ExactDict) (hd:o.data=.dict es ep):o=dictOf es.toList ep:=by
 obtain ⟨c,d,dt,sl⟩:=o
 obtain ⟨h1,h2,h3⟩:=h
 dsimp only at h1 h2 h3 hd
 subst h1; subst h2; subst h3; subst hd
 rfl
theorem pairs_fk {prog:Program} {w:World}:∀ {ks:List Nat} {ds:List DictEntry},Pairs (PySem.strKind prog w) ds (fkL ks)→All2 (fun k d=>(∃ t,d.key=.str ⟨⟨[k]⟩⟩ t)∧d.val=.none) ks ds
 | [],_,.nil=>.nil
 | k::r,_,.cons h1 h2 h3=>.cons ⟨Value.isStrOf_shape h1,h2⟩ (pairs_fk h3)
theorem pairs_tr {prog:Program} {w:World}:∀ {ks:List Nat} {ds:List DictEntry},(∀ e∈ds,∃ k,(intKind prog w).is k e.key=true∧e.hash=(intKind prog w).hash k)→Pairs (intKind prog w) ds (trL ks)→All2 (fun (k:Nat) d=>(∃ t,d.key=.int k t)∧d.val=.none∧d.hash=hashInt k) ks ds
 | [],_,_,.nil=>.nil
 | k::r,ds,hk,h=>by
   have e0:trL (k::r)=((k:Int),Value.none)::trL r:=rfl
   rw [e0] at h
   cases h with
   | @cons e _ es _ h1 h2 h3 =>
   refine .cons ⟨Value.isInt_shape h1,h2,?_⟩ (pairs_tr (fun e he=>hk e (.tail _ he)) h3)
   obtain ⟨k',a,b⟩:=hk e (.head _)
   have:=(intKind prog w).inj _ _ _ a h1
   rw [b,this]
   rfl
theorem tr_pairs {prog:Program} {w:World} {ks:List Nat} {ds:List DictEntry} (h:All2 (fun (k:Nat) d=>(∃ t,d.key=.int k t)∧d.val=.none∧d.hash=hashInt k) ks ds):Pairs (intKind prog w) ds (trL ks)∧∀ e∈ds,∃ k,(intKind prog w).is k e.key=true∧e.hash=(intKind prog w).hash k:=by
 induction h with
 | nil=>exact ⟨.nil,fun _ h=>nomatch h⟩
 | @cons k e r ds h1 h ih =>
   obtain ⟨⟨t,h1⟩,h2,h3⟩:=h1
   have hi:(intKind prog w).is (k:Int) e.key=true:=by rw [h1]; simp [intKind,Value.isInt]
   refine ⟨.cons hi h2 ih.1,fun e' he=>?_⟩
   rcases List.mem_cons.mp he with rfl | he
   · exact ⟨_,hi,h3⟩
   · exact ih.2 e' he
theorem trL_nodup:∀ {ks:List Nat},ks.Nodup→((trL ks).map (·.1)).Nodup
 | [],_=>List.nodup_nil
 | c::r,h=>by
   obtain ⟨q1,q2⟩:=List.nodup_cons.mp h
   refine List.nodup_cons.mpr ⟨fun hm=>q1 ?_,trL_nodup q2⟩
   obtain ⟨p,hp,e⟩:=List.mem_map.mp hm
   obtain ⟨d,hd,rfl⟩:=List.mem_map.mp hp
   have:(d:Int)=c:=e
   have:d=c:=by omega
   exact this ▸ hd
section
variable {g:Gl} {P:Params}
theorem mbiD_s {v:AV} {n:Str} {σ:AS}:OSat (mbiD v n σ.hp) (MbiP g σ v n):=by
 cases v <;> first | exact True.intro | skip
 unfold mbiD
 dsimp only
 cases hs:sq n nmMk with
 | true =>
   refine ⟨⟨_,rfl⟩,fun x o ρ s v' pl Q H vr hQ=>?_⟩
   rw [show n=Str.ofString "maketrans" from (sq_iff _ _).mp hs]
   obtain ⟨⟨t,rfl⟩,_⟩:=vr
   exact mt_method hQ
 | false =>
 dsimp only
 cases hs:sq n nmTr with
 | true =>
   refine ⟨⟨_,rfl⟩,fun x o ρ s v' pl Q H vr hQ=>?_⟩
   rw [show n=Str.ofString "translate" from (sq_iff _ _).mp hs]
   obtain ⟨⟨t,rfl⟩,_⟩:=vr
   exact getMethod_builtin (typeIs_str _ _ _) F.plainAttrs_str F.slot_str_translate F.type_str_translate (fun a e=>by cases e) (hQ s.toks)
 | false=>exact True.intro
theorem mk_s (hK:g.K=KP P) {as:List AV} {σ:AS}:TSat σ (bicD .sMaketrans as σ) (OpP g σ as (call Bi.sMaketrans.val ·)):=by
 rcases as with _ | ⟨a,_ | _⟩ <;> first | exact True.intro | (cases a <;> exact True.intro) | skip
 cases a <;> first | exact True.intro | skip
 rename_i k
 unfold bicD
 dsimp only
 cases hk:atI σ.hp k with
 | none=>exact True.intro
 | some ao =>
 cases ao <;> first | exact True.intro | skip
 rename_i ks
 dsimp only
 cases hc:nodupN ks&&Nat.ble ks.length 1000 with
 | false=>exact True.intro
 | true =>
 rw [Bool.and_eq_true] at hc
 refine ⟨sfx_refl _,op1 fun x o z ρ s a' Q H va hQ=>?_⟩
 obtain ⟨ad,ha,rfl⟩:=va
 obtain ⟨m,os,F,HP,lr⟩:=H
 refine HP.at ha hk fun ob _ hor hm=>?_
 obtain ⟨ds,n,rfl,hds⟩:=hor
 obtain ⟨n1,n2,n3⟩:=HP.nw _ hm
 refine mt_call n1 (notMods (hK ▸ o.X) n3) hds (nodupN_iff hc.1) (Nat.le_of_ble_eq_true hc.2) fun h' tk hg hd=>?_
 obtain ⟨ob',es,ep,ho,hx,hdt,hkk,hpp,_⟩:=hd
 have e:=exact_dictOf hx hdt
 subst e
 obtain ⟨F',N'⟩:=grown_new F HP.nw hg (Nat.le_refl _) ho
 obtain ⟨H2,hv⟩:=HS.adoptN (ob:=σ.ob) (ao:=.trn ks) HP lr F' N' (Nat.le_refl _) ⟨es.toList,ep,rfl,pairs_tr (fun e he=>hkk e (Array.mem_def.mpr he)) hpp⟩
 exact hQ _ _ _ ⟨_,rfl⟩ H2 Same.of hv
theorem tran_s (hK:g.K=KP P) {as:List AV} {σ:AS}:TSat σ (bicD .sTranslate as σ) (OpP g σ as (call Bi.sTranslate.val ·)):=by
 rcases as with _ | ⟨a,_ | ⟨b,_ | _⟩⟩ <;> first | exact True.intro | (cases a <;> exact True.intro) | (cases a <;> first | exact True.intro | (cases b <;> exact True.intro)) | skip
 cases a <;> first | exact True.intro | skip
 cases b <;> first | exact True.intro | skip
 rename_i y k
 unfold bicD
 dsimp only
 cases hk:atI σ.hp k with
 | none=>exact True.intro
 | some ao =>
 cases ao <;> first | exact True.intro | skip
 rename_i ks
 dsimp only
 cases hc:asciiN y&&nodupN ks&&!(y.length==0) with
 | false=>exact True.intro
 | true =>
 simp only [Bool.and_eq_true,Bool.not_eq_true'] at hc
 obtain ⟨⟨c1,c2⟩,c3⟩:=hc
 refine ⟨sfx_refl _,op2 fun x o z ρ s a' b' Q H va vb hQ=>?_⟩
 obtain ⟨⟨t,rfl⟩,hl⟩:=va
 obtain ⟨ad,ha,rfl⟩:=vb
 obtain ⟨m,os,F,HP,lr⟩:=H
 refine HP.at ha hk fun ob _ hor hm=>?_
 obtain ⟨ds,n,rfl,hds⟩:=hor
 obtain ⟨n1,n2,n3⟩:=HP.nw _ hm
 obtain ⟨a1,a2⟩:=asciiN_ok c1
 obtain ⟨p1,p2⟩:=tr_pairs (prog:=g.prog) (w:=g.w) hds
 have hd:s.heap.DictOf (intKind g.prog g.w) ad (trL ks):=⟨_,ds.toArray,n,n1,⟨rfl,rfl,rfl⟩,rfl,fun e he=>p2 e (Array.mem_def.mp he),p1,trL_nodup (nodupN_iff c2)⟩
 refine tr_call o.hh (notMods (hK ▸ o.X) n3) hd a1 a2 c3 fun h' tk t' hg=>?_
 have F':Fr x.h₀ x.L h' (x.fm m):=by
   obtain ⟨oL,a1,a2,hL,a3⟩:=F.ns
   exact ⟨⟨oL,a1,a2,hg _ _ hL,a3⟩,fun b o e=>hg _ _ (F.keep b o e),F.above⟩
 refine hQ ρ _ _ (List.prefix_refl _) ⟨m,os,F',⟨HP.nw.grown hg,HP.nd,HP.dj,HP.ln,HP.or⟩,lr⟩ Same.of ⟨⟨_,rfl⟩,?_⟩
 show (y.cps.toList.filter (kpt ks)).toArray.size≤sizeLine
 have:=List.length_filter_le (kpt ks) y.cps.toList
 have h2:y.cps.toList.length=y.cps.size:=by simp
 rw [sizeLine_eq,List.size_toArray]
 omega
theorem bicD_s (hK:g.K=KP P) {b:Bi} {as:List AV} {σ:AS}:TSat σ (bicD b as σ) (OpP g σ as (call b.val ·)):=by
 cases b <;> first | exact True.intro | exact mk_s hK | exact tran_s hK
end
end
section
set_option maxHeartbeats 1000000
noncomputable def nmDict:Str:=⟨⟨[100,105,99,116]⟩⟩
noncomputable def nmFk:Str:=⟨⟨[102,114,111,109,107,101,121,115]⟩⟩
noncomputable def isGlob (sc:List (Str × NameKind)) (x:Str):Bool:=match look x sc with | some .globalImplicit=>true | _=>false
noncomputable def spcD (sc:List (Str × NameKind)) (e:Expr) (σ:AS):Option (R AV):=match e with
 | .Call (.Attribute (.Name d _) n ap) [.Name y _] [] p=>match sq d nmDict&&sq n nmFk&&(ap.endLine==p.line)&&isGlob sc d&&isLoc sc y&&!(sq y nmDebug) with
   | true=>(match look y σ.lo with
     | some (.str x)=>(match asciiN x&&nodupN x.cps.toList with
       | true=>some (.ok (.obj σ.hp.length) { σ with hp:=σ.hp++[.frk x.cps.toList] })
       | false=>.none)
     | _=>.none)
   | false=>.none
 | _=>.none
noncomputable def TG:Tab where
 bin:=fun _ _ _ _=>.none
 cmp:=fun _ _ _ _=>.none
 bic:=fun _ _ _=>.none
 mbi:=fun _ _ _=>.none
 sub:=fun _ _ _=>.none
 slc:=fun _ _ _ _=>.none
 fn:=fun _=>.none
 cls:=fun _ _=>.none
 glob:=fun x=>look x glob0
 prim:=fun _ _ _ _=>.none
 make:=fun _=>.none
 tup:=fun _=>.none
 spc:=fun _ _ _=>.none
 turns:=0
section
variable {g:Gl} {P:Params}
theorem okG (hK:g.K=KP P):TabOk g TG where
 bin:=fun _ _ _ _=>True.intro
 cmp:=fun _ _ _ _=>True.intro
 bic:=fun _ _ _=>True.intro
 mbi:=fun _ _ _=>True.intro
 sub:=fun _ _ _=>True.intro
 slc:=fun _ _ _ _=>True.intro
 fn:=fun _ _ h=>nomatch h
 cls:=fun _ _ _ h=>nomatch h
 glob:=fun _ _ h=>globTab_ok (hK ▸ glob0_ok P) h
 prim:=fun _ _ _ _=>True.intro
 make:=fun _ _ h=>nomatch h
 tup:=fun _ _ h=>nomatch h
 spc:=fun _ _ _=>True.intro
theorem isGlob_is {sc:List (Str × NameKind)} {x:Str} (h:isGlob sc x=true):look x sc=some .globalImplicit:=by
 unfold isGlob at h
 revert h
 cases look x sc with
 | none=>exact fun h=>ceFT h
 | some k=>cases k <;> first | exact fun _=>rfl | exact fun h=>ceFT h
theorem isLoc_is {sc:List (Str × NameKind)} {x:Str} (h:isLoc sc x=true):look x sc=some .local:=by
 unfold isLoc at h
 revert h
 cases look x sc with
 | none=>exact fun h=>ceFT h
 | some k=>cases k <;> first | exact fun _=>rfl | exact fun h=>ceFT h
noncomputable def fkB:Obj:={ cls:=.type "builtin_function_or_method",data:=.fields #[.builtin "dict.fromkeys",.type "dict"] }
theorem fk_getm {prog:Program} {w:World} {A:Around} {E:Value→Shared→Prop} {s:Shared} {pl:Sem Bool} {Q:Value × List Value→Shared→Prop} (X:(KP P).In s.heap)
   (h:Q (.ref s.heap.objs.size,[]) { s with heap:=s.heap.push fkB,toks:=s.toks + 1 }):wpAny (model prog w) A (getMethod (.type "dict") (Str.ofString "fromkeys") pl) Q E s:=by
 have ht:typeOf (.type "dict")=pure (.type "type"):=by kernel_rfl
 have L0:Looks (model prog w) s.heap (typeOf (.type "dict")) (.type "type"):=Looks.of_pure ht
 have hg:findIn (KP P) (.type "type") "__getattribute__" = some (some (.builtin "type.__getattribute__")):=type_tga
 unfold getMethod specialOf
 refine wpAny_bind (wpAny_bind (L0.here ((looks_findIn X hg).here ?_)))
 dsimp only
 rw [if_pos canon_tga]
 refine wpAny_bind (wpAny_mono (Q:=fun v=>Q (v,[])) (E:=E) ?_ (fun _ _ z=>wpAny_pure z) fun _ _ z=>z)
 exact fk_attr X h
theorem fk_callWith {M:Model} {A:Around} {E:Value→Shared→Prop} {s:Shared} {pos:Pos} {u:Addr} {args:List (Bool × Sem Value)} {Q:Value→Shared→Prop} (hplain:args.any (·.1)=false)
   (h:wpAny M A (evalArgs (.ref u) true args []) (fun x s₁=>s₁.heap.get? u=some fkB∧wpAny M A (call (.ref u) x.pos x.kw) Q E s₁) E s):wpAny M A (callWith pos (.ref u) [] args []) Q E s:=by
 unfold callWith
 refine wpAny_bind (wpAny_holding (wpAny_mono h (fun x s₁ h₁=>wpAny_bind (wpAny_standAt ?_)) fun _ _ x=>x))
 obtain ⟨ho,hcall⟩:=h₁
 rw [hplain]
 refine wpAny_bind (m:=keeperOf (.ref u)) ?_
 refine wpAny_bind (wpAny_load ho ?_)
 refine wpAny_pure ?_
 exact wpAny_bind (wpAny_mono hcall (fun r s₂ hr=>wpAny_bind (wpAny_holding (wpAny_point (wpAny_pure hr)))) fun _ _ x=>x)
theorem spcD_s (hK:g.K=KP P) {sc:List (Str × NameKind)} {e:Expr} {σ:AS}:TSat σ (spcD sc e σ) (EvP g 1 sc σ e):=by
 cases e <;> first | exact True.intro | skip
 rename_i f as ks p
 cases f <;> first | exact True.intro | skip
 rename_i o n ap
 cases o <;> first | exact True.intro | skip
 rename_i d q1
 rcases as with _ | ⟨a,_ | _⟩ <;> first | exact True.intro | (cases a <;> exact True.intro) | skip
 cases a <;> first | exact True.intro | skip
 rename_i y q2
 cases ks with
 | cons=>exact True.intro
 | nil =>
 unfold spcD
 dsimp only
 cases hc:sq d nmDict&&sq n nmFk&&(ap.endLine==p.line)&&isGlob sc d&&isLoc sc y&&!(sq y nmDebug) with
 | false=>exact True.intro
 | true =>
 dsimp only
 cases hl:look y σ.lo with
 | none=>exact True.intro
 | some w =>
 cases w <;> first | exact True.intro | skip
 rename_i t
 dsimp only
 cases ha:asciiN t&&nodupN t.cps.toList with
 | false=>exact True.intro
 | true =>
 simp only [Bool.and_eq_true,Bool.not_eq_true'] at hc
 obtain ⟨⟨⟨⟨⟨c1,c2⟩,c3⟩,c4⟩,c5⟩,hyd⟩:=hc
 rw [Bool.and_eq_true] at ha
 have e1:d=Str.ofString "dict" := (sq_iff _ _).mp c1
 have e2:n=Str.ofString "fromkeys" := (sq_iff _ _).mp c2
 subst e1 e2
 refine ⟨sfx_refl _,fun x o hsc z ρ s Q H hQ=>?_⟩
 subst hsc
 have hg:=isGlob_is c4
 have hy:=isLoc_is c5
 have X:(KP P).In x.h₀:=hK ▸ o.X
 obtain ⟨a1,a2⟩:=asciiN_ok ha.1
 rw [arm_eval_Call,show (∀ whole,attributeBase (.Name (Str.ofString "dict") q1) (Str.ofString "fromkeys") x.cur whole=whole) from fun _=>rfl]
 refine wpAny_bind (glb_ev (okG hK) o (v:=.bi .dict) (by decide +kernel) hg (by kernel_rfl) H fun v' H₁ vr=>?_)
 cases vr
 refine wpAny_bind (wpAny_standAt ?_)
 rw [methodCall_plain (kes:=[]) (by show 1<15; omega) rfl rfl c3]
 obtain ⟨m,os,F,HP,lr⟩:=id H₁
 refine wpAny_bind (wpAny_holding (fk_getm (X.keeps F.keep) ?_))
 show wpAny _ _ (callWith p (.ref s.heap.objs.size) [] _ _) _ _ _
 refine fk_callWith (starEach_plain rfl) ?_
 have hu:s.heap.objs.size ∉ ρ:=HP.fresh (Nat.le_refl _)
 have N1:=HP.nw.push F fkB
 have H2:HS (x.fzd ((s.heap.objs.size,fkB)::x.fz)) ρ σ (s.heap.push fkB):=by
   refine ⟨m,os,F.push _,⟨fun q hq=>N1 q ?_,HP.nd,fun q hq=>?_,HP.ln,HP.or⟩,lr⟩
   · rcases List.mem_append.mp hq with k | k
     · exact .tail _ (List.mem_append_left _ k)
     · rcases List.mem_cons.mp k with rfl | k
       · exact .head _
       · exact .tail _ (List.mem_append_right _ k)
   · rcases List.mem_cons.mp hq with rfl | k
     · exact hu
     · exact HP.dj q k
 refine argsK_s (x:=x.fzd ((s.heap.objs.size,fkB)::x.fz)) (ks:=[]) (o.wide fun q hq=>.tail _ hq) rfl rfl (arg1_s hyd hy hl) (sfx_refl _) kw0_s z ρ { s with heap:=s.heap.push fkB,toks:=s.toks + 1 } _ H2 fun ρ₁ s₁ a p₁ H₃ S₁ ar=>?_
 obtain ⟨vs',ws'⟩:=a
 obtain ⟨vrs,krs⟩:=ar
 have krs:KRs ρ₁ [] ws':=krs
 have vrs:VRs ρ₁ [.str t] vs':=vrs
 cases krs
 cases vrs with
 | cons hv hn =>
 cases hn
 obtain ⟨⟨tk,rfl⟩,hl2⟩:=hv
 obtain ⟨m₃,os₃,F₃,HP₃,lr₃⟩:=id H₃
 have hB:=(HP₃.nw (s.heap.objs.size,fkB) (List.mem_append_right _ (.head _))).1
 refine ⟨hB,?_⟩
 refine fk_call o.hh a2 (nodupN_iff ha.2) a1 hB fun h' tk' hg hd=>?_
 obtain ⟨ob',es,ep,ho,hx,hdt,hkk,hpp,_⟩:=hd
 have e:=exact_dictOf hx hdt
 subst e
 have HP₄:HpR x.h₀ x.L x.fz ρ₁ σ.hp s₁.heap os₃:=⟨fun q hq=>HP₃.nw q (by
   rcases List.mem_append.mp hq with k | k
   · exact List.mem_append_left _ k
   · exact List.mem_append_right _ (.tail _ k)),HP₃.nd,fun q hq=>HP₃.dj q (.tail _ hq),HP₃.ln,HP₃.or⟩
 obtain ⟨F',N'⟩:=grown_new F₃ HP₄.nw hg (Nat.le_refl _) ho
 obtain ⟨H5,hv⟩:=HS.adoptN (x:=x) (ob:=σ.ob) (ao:=.frk t.cps.toList) HP₄ lr₃ F' N' (Nat.le_refl _) ⟨es.toList,ep,rfl,pairs_fk hpp⟩
 exact hQ _ _ _ (p₁.trans ⟨_,rfl⟩) H5 ⟨S₁.1,S₁.2.1,S₁.2.2⟩ hv
end
end
section
set_option maxHeartbeats 1000000
noncomputable def cmpC (op:CmpOp) (a b:AV) (_:AS):Option Bool:=match op with
 | .Is=>match a,b with
   | .str _,.bool _=>some false
   | _,_=>.none
 | _=>.none
noncomputable def slcC (sa:Nat) (xs:List Int) (a:AV) (l u:Option AV) (σ:AS):Option (R AV):=match a,l,u with
 | .top b,.none,some (.int (.ofNat n))=>match Nat.beq b sa with
   | true=>some (.ok (.obj σ.hp.length) { σ with hp:=σ.hp++[.list ((xs.take n).map AV.int)],ob:=addOb xs.length σ.ob })
   | false=>.none
 | _,_,_=>.none
noncomputable def bicE (T0:Tab) (m C f:Nat) (b:Bi) (as:List AV) (σ:AS):Option (R AV):=match b with
 | .str=>match as with
   | [.obj i]=>(match atI σ.hp i with
     | some (.inst C' d)=>(match Nat.beq C' C&&((atI σ.hp d).bind esOf).isSome with
       | true=>(match (interp T0 m).call (.top f) [.obj i] [] σ with
         | .ok (.str x) σ'=>some (.ok (.str x) σ')
         | _=>.none)
       | false=>.none)
     | _=>.none)
   | _=>.none
 | _=>.none
section
variable {g:Gl} {P:Params}
theorem cmpC_s {op:CmpOp} {a b:AV} {σ:AS}:OSat (cmpC op a b σ) (CmpP g σ op a b):=by
 cases op <;> first | exact True.intro | skip
 cases a <;> first | exact True.intro | skip
 cases b <;> first | exact True.intro | skip
 refine fun x o z ρ s a' b' Q H va vb hQ=>?_
 obtain ⟨⟨t,rfl⟩,_⟩:=va
 cases vb
 exact wpAny_pure (hQ ρ s (List.prefix_refl _) H Same.rfl)
noncomputable def ScrOk (g:Gl) (sa:Nat) (xs:List Int):Prop:=∃ vs n,g.ex.lookup sa=some (listO vs n)∧VRs [] (xs.map AV.int) vs
theorem VRs.take {ρ:List Addr} {a:List AV} {u:List Value} (h:VRs ρ a u):∀ n:Nat,VRs ρ (a.take n) (u.take n):=by
 induction h with
 | nil=>intro n; rw [List.take_nil,List.take_nil]; exact .nil
 | cons k h ih =>
   intro n
   cases n with
   | zero=>exact .nil
   | succ n=>exact .cons k (ih n)
theorem slcC_s {sa:Nat} {xs:List Int} (so:ScrOk g sa xs) {a:AV} {l u:Option AV} {σ:AS}:TSat σ (slcC sa xs a l u σ) (SlcP g σ a l u):=by
 cases a <;> first | exact True.intro | skip
 rename_i b
 cases l with
 | some=>exact True.intro
 | none =>
 cases u with
 | none=>exact True.intro
 | some u =>
 cases u <;> first | exact True.intro | skip
 rename_i k
 cases k <;> first | exact True.intro | skip
 rename_i nn
 unfold slcC
 dsimp only
 cases hb:Nat.beq b sa with
 | false=>exact True.intro
 | true =>
 rw [← Nat.eq_of_beq_eq_true hb] at so
 refine ⟨addOb_sfx _ _,fun value el eu q x o z ρ s a' lv uv Q H va vl vu hQ=>?_⟩
 cases va
 cases vl
 obtain ⟨tt,rfl⟩:=vu
 obtain ⟨us,k,ho,hu⟩:=so
 obtain ⟨m,os,F,HP,lr⟩:=H
 have hg:s.heap.get? b=some (listO us k):=F.keep _ _ (o.EX _ _ ho)
 have hL:s.heap.IsList b us.toArray:=⟨_,hg,rfl,k,rfl⟩
 have hsz:us.toArray.size≤sizeLine:=by
   rw [List.size_toArray,← hu.len,List.length_map]; exact z.hd
 refine tail_any (ops:=[.ref s.heap.objs.size,.ref b]) (Heap.IsList.typeIs (s:={ s with heap:=s.heap.push { cls:=.type "slice",data:=.fields #[.none,.int nn tt,.none] } }) (hL.push _)) slot_list_getitem.lookup
   (wpAny_getItem_list_slice (hL.push _) (Heap.IsSliceOf.new ..) .none (.int nn tt) .none (by simp) ?_ hsz) rfl
 rw [slicePick_upto']
 have N1:=News.push (F.push { cls:=.type "slice",data:=.fields #[.none,.int nn tt,.none] }) (HP.nw.grown fun _ _ e=>Heap.get?_push_of_some _ e) (listO (us.take nn) 0)
 obtain ⟨H2,hv⟩:=HS.adoptN (ob:=addOb xs.length σ.ob) (ao:=.list ((xs.take nn).map AV.int)) HP lr ((F.push _).push _) N1 (by rw [Heap.size_push]; exact Nat.le_succ _) ⟨us.take nn,0,rfl,by rw [List.map_take]; exact (hu.take nn).mono List.nil_prefix⟩
 exact hQ _ _ _ ⟨_,rfl⟩ H2 Same.of hv
theorem bicE_s {T0:Tab} {k m C f:Nat} (hk:m + k + 1≤g.sl) (ok0:TabOk (g.slk k) T0) (hs:findIn g.K (.ref C) "__str__" = some (some (.ref f))) (hfn:isFn g.K (.ref f)=true)
   {b:Bi} {as:List AV} {σ:AS}:TSat σ (bicE T0 m C f b as σ) (OpP g σ as (call b.val ·)):=by
 cases b <;> first | exact True.intro | skip
 rcases as with _ | ⟨a,_ | _⟩ <;> first | exact True.intro | (cases a <;> exact True.intro) | skip
 cases a <;> first | exact True.intro | skip
 rename_i i
 unfold bicE
 dsimp only
 cases hi:atI σ.hp i with
 | none=>exact True.intro
 | some ao =>
 cases ao <;> first | exact True.intro | skip
 rename_i C' d
 dsimp only
 cases hb:Nat.beq C' C&&((atI σ.hp d).bind esOf).isSome with
 | false=>exact True.intro
 | true =>
 have c:=(sound ok0 m).call (.top f) [.obj i] [] σ
 revert c
 cases (interp T0 m).call (.top f) [.obj i] [] σ with
 | exc=>exact fun _=>True.intro
 | bad=>exact fun _=>True.intro
 | ok v σ' =>
 cases v <;> first | exact fun _=>True.intro | skip
 refine fun c=>⟨c.1,op1 fun x o z ρ s a' Q H va hQ=>?_⟩
 obtain ⟨hb,hes⟩:=Bool.and_eq_true_iff.mp hb
 have:=Nat.eq_of_beq_eq_true hb
 subst this
 obtain ⟨ad,ha,rfl⟩:=va
 obtain ⟨m',hm⟩:=H.m
 obtain ⟨os,F,HP,lr⟩:=id hm
 obtain ⟨es,hes⟩:=Option.isSome_iff_exists.mp hes
 obtain ⟨ao,hes,hesOf⟩:=Option.bind_eq_some_iff.mp hes
 refine HP.at ha hi fun ob _ hor hmem=>?_
 obtain ⟨dx,hdx,rfl⟩:=hor
 refine HP.at hdx hes fun o3 _ kor km=>?_
 obtain ⟨ds,nn,rfl,hdr⟩:=kor.es hesOf
 have hu:=o.un
 have hd:=o.dp
 refine kso_call (by show x.A.units + 1 + 1<cLine; omega) (o.X.keeps F.keep) (InstAt.of_news HP.nw hmem km) hs hfn ?_
 refine wpAny_call (codeAny_mono (c.2 x (o.slk (by omega)) x.A.in1.in1 (Around.frames_deeper o.B.stack) o.hh (by show x.A.depth + m + k<_; omega) (by show x.A.units + 1 + 1 + 8 * (m + k)<_; omega) z ρ s (.ref f) [.ref ad] [] m' (StrBack Q) hm rfl (.cons ⟨ad,ha,rfl⟩ .nil) .nil fun ρ' s' v' a b c d=>?_) fun r s' hr=>?_)
 · obtain ⟨⟨t,rfl⟩,hl⟩:=d
   exact hQ ρ' s' _ a b.hs c ⟨⟨t,rfl⟩,hl⟩
 · obtain ⟨v,rfl,hq⟩:=RQ_to hr
   exact hq
end
end
section
set_option maxHeartbeats 1000000
noncomputable def partJ (sc:List (Str × NameKind)) (lo:List (Str × AV)) (e:Expr):Option Str:=match e with
 | .Constant c _ _=>(match c with | .str x=>some x | _=>.none)
 | .FormattedValue v c sp _=>(match v,sp with
   | .Name n _,.none=>(match (c==115)&&isLoc sc n&&!(sq n nmDebug) with
     | true=>(match look n lo with | some (.str x)=>some x | _=>.none)
     | false=>.none)
   | _,_=>.none)
 | _=>.none
noncomputable def joinJ (sc:List (Str × NameKind)) (lo:List (Str × AV)):List Expr→Option (List Str)
 | []=>some []
 | e::r=>match partJ sc lo e with
   | some y=>(match joinJ sc lo r with | some ys=>some (y::ys) | .none=>.none)
   | .none=>.none
theorem joinJ_c {sc:List (Str × NameKind)} {lo:List (Str × AV)} {e:Expr} {r:List Expr}:joinJ sc lo (e::r)=(match partJ sc lo e with | some y=>(match joinJ sc lo r with | some ys=>some (y::ys) | .none=>.none) | .none=>.none):=rfl
noncomputable def catS (a:Str):List Str→Str
 | []=>a
 | y::r=>catS (a++y) r
noncomputable def sumS (a:Nat):List Str→Nat
 | []=>a
 | y::r=>sumS (a + y.length) r
noncomputable def spcJ (sc:List (Str × NameKind)) (e:Expr) (σ:AS):Option (R AV):=match e with
 | .JoinedStr es _=>(match es with
   | _::_::_=>(match joinJ sc σ.lo es with
     | some ys=>some (.ok (.str (catS Str.empty ys)) { σ with ob:=addOb (chk (Nat.ble (sumS 0 ys) 1000000)) σ.ob })
     | .none=>.none)
   | _=>.none)
 | _=>.none
theorem sumS_le:∀ (ys:List Str) (a:Nat),a≤sumS a ys
 | [],_=>Nat.le_refl _
 | y::r,a=>Nat.le_trans (Nat.le_add_right _ _) (sumS_le r (a + y.length))
theorem catS_len:∀ (ys:List Str) (a:Str) (n:Nat),a.length=n→(catS a ys).length=sumS n ys
 | [],_,_,h=>h
 | y::r,a,n,h=>catS_len r (a++y) _ (by rw [str_len_app,h])
section
variable {g:Gl} {P:Params}
theorem part_s {x:Cx} (o:CxOk g x 1) {σ:AS} {ρ:List Addr} {e:Expr} {s:Shared} {Q:Value→Shared→Prop} (H:HS x ρ σ s.heap):OSat (partJ x.scn σ.lo e) fun y=>y.length≤sizeLine→(∀ tk t',Q (.str y t') { s with toks:=tk })→wpAny (model g.prog g.w) x.A (eval e x.cur) Q EF s:=by
 cases e <;> first | exact True.intro | skip
 case Constant c k p =>
   cases c <;> first | exact True.intro | skip
   exact fun _ go=>Constant_str (go _ _)
 case FormattedValue v c sp p =>
   cases v <;> first | exact True.intro | skip
   rename_i n q
   cases sp with
   | some=>exact True.intro
   | none =>
   unfold partJ
   dsimp only
   cases hc:(c==115)&&isLoc x.scn n&&!(sq n nmDebug) with
   | false=>exact True.intro
   | true =>
   dsimp only
   cases hl:look n σ.lo with
   | none=>exact True.intro
   | some w =>
   cases w <;> first | exact True.intro | skip
   simp only [Bool.and_eq_true,Bool.not_eq_true',beq_iff_eq] at hc
   obtain ⟨⟨c1,c2⟩,c3⟩:=hc
   subst c1
   refine fun hy0 go=>wpAny_FormattedValue_s (loc_ev o c3 (isLoc_is c2) hl H fun v' H₁ vr=>?_)
   obtain ⟨⟨t,rfl⟩,hlen⟩:=vr
   exact habitSame_str (fun t1 k1=>formatField_str (s:={ s with toks:=k1 }) (fun t2 k2=>go k2 t2) hy0) hy0
theorem joins_s {x:Cx} (o:CxOk g x 1) {σ:AS} {ρ:List Addr} {Q:Str→Shared→Prop}:∀ (es:List Expr) (acc:Str) (s:Shared),HS x ρ σ s.heap→OSat (joinJ x.scn σ.lo es) fun ys=>sumS acc.length ys≤1000000→(∀ tk,Q (catS acc ys) { s with toks:=tk }) →
   Joins (model g.prog g.w) x.A EF (evalEach es x.cur) acc Q s:=by
 intro es
 induction es with
 | nil=>exact fun acc s H _ hQ=>hQ s.toks
 | cons e r ih =>
   intro acc s H
   rw [joinJ_c]
   cases hy:partJ x.scn σ.lo e with
   | none=>exact True.intro
   | some y =>
   dsimp only
   cases hr:joinJ x.scn σ.lo r with
   | none=>exact True.intro
   | some ys' =>
   intro hl hQ
   have hl2:sumS (acc++y).length ys'≤1000000:=by rw [str_len_app]; exact hl
   have hz:(acc++y).length≤sizeLine:=by
     have:=Nat.le_trans (sumS_le ys' (acc++y).length) hl2
     rw [sizeLine_eq]; omega
   have hy0:y.length≤sizeLine:=Nat.le_trans (by rw [str_len_app]; exact Nat.le_add_left _ _) hz
   exact (part_s o H).use hy hy0 fun tk t'=>⟨y,t',rfl,hz,(ih (acc++y) { s with toks:=tk } H).use hr hl2 fun tk2=>hQ tk2⟩
theorem spcJ_s {sc:List (Str × NameKind)} {e:Expr} {σ:AS}:TSat σ (spcJ sc e σ) (EvP g 1 sc σ e):=by
 cases e <;> first | exact True.intro | skip
 rename_i es p
 rcases es with _ | ⟨e1,_ | ⟨e2,rest⟩⟩ <;> first | exact True.intro | skip
 unfold spcJ
 dsimp only
 cases hj:joinJ sc σ.lo (e1::e2::rest) with
 | none=>exact True.intro
 | some ys =>
 refine ⟨addOb_sfx _ _,fun x o hs z ρ s Q H hQ=>?_⟩
 subst hs
 have c:=Nat.le_of_ble_eq_true (chk_ok z.hd)
 have hz:(catS Str.empty ys).length≤sizeLine:=by rw [catS_len ys Str.empty 0 rfl,sizeLine_eq]; omega
 exact wpAny_JoinedStr ((joins_s o _ Str.empty s H).use hj c fun tk=>⟨hz,hQ.now ⟨H.ex⟩ Same.of ⟨⟨_,rfl⟩,hz⟩⟩)
end
end
section
set_option maxHeartbeats 1000000
noncomputable def orT {α:Type} (a b:Option α):Option α:=match a with
 | some x=>some x
 | .none=>b
theorem TSat.orT {α:Type} {σ:AS} {o o':Option (R α)} {P:α→AS→Prop} (h:TSat σ o P) (h':TSat σ o' P):TSat σ (orT o o') P:=by
 cases o with
 | some r=>exact h
 | none=>exact h'
theorem OSat.orT {α:Type} {o o':Option α} {P:α→Prop} (h:OSat o P) (h':OSat o' P):OSat (orT o o') P:=by
 cases o with
 | some r=>exact h
 | none=>exact h'
noncomputable def lookN {α:Type} (a:Nat):List (Nat × α)→Option α
 | []=>.none
 | p::r=>match Nat.beq a p.1 with | true=>some p.2 | false=>lookN a r
theorem lookN_nil {α:Type} {Pr:Nat→α→Prop} {a:Nat}:OSat (lookN a []) (Pr a):=True.intro
theorem lookN_cons {α:Type} {Pr:Nat→α→Prop} {a b:Nat} {v:α} {l:List (Nat × α)} (h:Pr b v) (hl:OSat (lookN a l) (Pr a)):OSat (lookN a ((b,v)::l)) (Pr a):=by
 show OSat (match Nat.beq a b with | true=>some v | false=>lookN a l) _
 cases e:Nat.beq a b with
 | true=>rw [Nat.eq_of_beq_eq_true e]; exact h
 | false=>exact hl
noncomputable def fnT (P:Params) (a:Nat):Option FnI:=lookN a [(695,fi695 P),(658,fi658 P),(538,fi538 P),(58,fi58 P),(376,fi376 P),(688,fi688 P),(362,fi362 P),(369,fi369 P),(651,fi651 P),(738,fi738 P),(778,fi778 P),(801,fi801 P),(816,fi816 P),(823,fi823 P),(900,fi900 P),(935,fi935 P),(942,fi942 P),(947,fi947 P),(952,fi952 P),(959,fi959 P)]
theorem fnT_ok {g:Gl} {P:Params} (hK:g.K=KP P) (a:Nat):OSat (fnT P a) (FnOk g a) :=
 lookN_cons (fn695 hK) <| lookN_cons (fn658 hK) <| lookN_cons (fn538 hK) <| lookN_cons (fn58 hK) <| lookN_cons (fn376 hK) <| lookN_cons (fn688 hK) <| lookN_cons (fn362 hK) <| lookN_cons (fn369 hK) <| lookN_cons (fn651 hK) <| lookN_cons (fn738 hK) <| lookN_cons (fn778 hK) <| lookN_cons (fn801 hK) <| lookN_cons (fn816 hK) <| lookN_cons (fn823 hK) <| lookN_cons (fn900 hK) <| lookN_cons (fn935 hK) <| lookN_cons (fn942 hK) <| lookN_cons (fn947 hK) <| lookN_cons (fn952 hK) <| lookN_cons (fn959 hK) <| lookN_nil
noncomputable def clsT (C:Nat) (n:Str):Option Mb :=
 match Nat.beq C 727 with | true=>look n cls727 | false=>match Nat.beq C 592 with | true=>look n cls592 | false=>match Nat.beq C 924 with | true=>look n cls924 | false=>.none
theorem clsT_ok {g:Gl} {P:Params} (hK:g.K=KP P) (C:Nat) (n:Str):OSat (clsT C n) (ClsOk g C n):=by
 have go:∀ {l:List (Str × Mb)},(∀ m,look n l=some m→ClsOk g C n m)→OSat (look n l) (ClsOk g C n):=by
   intro l h
   revert h
   cases look n l with
   | none=>exact fun _=>True.intro
   | some m=>exact fun h=>h m rfl
 unfold clsT
 cases e:Nat.beq C 727 with
 | true=>rw [Nat.eq_of_beq_eq_true e] at go ⊢; exact go fun _ h=>clsTab_ok (hK ▸ cls727_ok P) h
 | false =>
 dsimp only
 cases e:Nat.beq C 592 with
 | true=>rw [Nat.eq_of_beq_eq_true e] at go ⊢; exact go fun _ h=>clsTab_ok (hK ▸ cls592_ok P) h
 | false =>
 dsimp only
 cases e:Nat.beq C 924 with
 | true=>rw [Nat.eq_of_beq_eq_true e] at go ⊢; exact go fun _ h=>clsTab_ok (hK ▸ cls924_ok P) h
 | false=>exact True.intro
noncomputable def makeT (a:Nat):Option Nat:=lookN a [(727,651),(924,816)]
theorem makeT_ok {g:Gl} {P:Params} (hK:g.K=KP P) (a:Nat):OSat (makeT a) (MkOk g a) :=
 lookN_cons (mkOk_of (hK ▸ mk727_ok P)) <| lookN_cons (mkOk_of (hK ▸ mk924_ok P)) <| lookN_nil
noncomputable def memN (a:Nat):List Nat→Bool
 | []=>false
 | b::r=>match Nat.beq b a with | true=>true | false=>memN a r
theorem memN_mem {a:Nat} {l:List Nat}:memN a l=true→a∈l:=by
 induction l with
 | nil=>exact fun h=>ceFT h
 | cons b r ih =>
   show (match Nat.beq b a with | true=>true | false=>memN a r)=true→_
   cases e:Nat.beq b a with
   | true=>exact fun _=>Nat.eq_of_beq_eq_true e ▸ .head _
   | false=>exact fun h=>.tail _ (ih h)
noncomputable def tupT (P:Params) (a:Nat):Option (List AV):=match memN a tups with
 | true=>some ((tupVs (KP P) a).map avOf)
 | false=>.none
theorem tupT_ok {g:Gl} {P:Params} (hK:g.K=KP P) (a:Nat):OSat (tupT P a) fun vs=>∃ o vs' n,g.K.lookup a=some o∧o=tupO vs' n∧VRs [] vs vs':=by
 unfold tupT
 cases e:memN a tups with
 | false=>exact True.intro
 | true =>
 have hm:=memN_mem e
 have h1:(KP P).lookup a=some (tupO (tupVs (KP P) a) (tupN (KP P) a)):=by
   have:=tups_ok P
   have key:∀ l:List Nat,(l.map fun a=>(KP P).lookup a)=(l.map fun a=>some (tupO (tupVs (KP P) a) (tupN (KP P) a)))→a∈l→(KP P).lookup a=some (tupO (tupVs (KP P) a) (tupN (KP P) a)):=by
     intro l
     induction l with
     | nil=>intro _ h; cases h
     | cons b r ih =>
       intro e h
       rw [List.map_cons,List.map_cons] at e
       obtain ⟨e1,e2⟩:=List.cons.inj e
       rcases List.mem_cons.mp h with rfl | h
       · exact e1
       · exact ih e2 h
   exact key _ this hm
 have h2:=List.all_eq_true.mp (tups_av P) a hm
 have:=tupOk_of (g:=g) (a:=a) (by rw [hK]; exact h1) (by rw [hK]; exact h2)
 rw [hK] at this
 rw [hK]
 exact this
noncomputable def T0 (P:Params):Tab where
 bin:=fun op a b σ=>orT (binB op a b σ) (binC op a b σ)
 cmp:=fun op a b σ=>orT (cmpB op a b σ) (cmpC op a b σ)
 bic:=fun b as σ=>orT (bicB b as σ) (orT (bicC b as σ) (bicD b as σ))
 mbi:=fun v n hp=>orT (mbiB v n hp) (orT (mbiC v n hp) (mbiD v n hp))
 sub:=subB
 slc:=slcB
 fn:=fnT P
 cls:=clsT
 glob:=fun x=>look x glob0
 prim:=fun _ _ _ _=>.none
 make:=makeT
 tup:=tupT P
 spc:=fun sc e σ=>orT (spcD sc e σ) (spcJ sc e σ)
 turns:=1000
theorem ok0 {g:Gl} {P:Params} (hK:g.K=KP P):TabOk g (T0 P) where
 bin:=fun _ _ _ _=>binB_s.orT binC_s
 cmp:=fun _ _ _ _=>cmpB_s.orT cmpC_s
 bic:=fun _ _ _=>bicB_s.orT ((bicC_s hK).orT (bicD_s hK))
 mbi:=fun _ _ _=>mbiB_s.orT ((mbiC_s hK).orT mbiD_s)
 sub:=fun _ _ _=>subB_s
 slc:=fun _ _ _ _=>slcB_s
 fn:=fun a _ h=>(fnT_ok hK a).use h
 cls:=fun C n _ h=>(clsT_ok hK C n).use h
 glob:=fun _ _ h=>globTab_ok (hK ▸ glob0_ok P) h
 prim:=fun _ _ _ _=>True.intro
 make:=fun a _ h=>(makeT_ok hK a).use h
 tup:=fun a _ h=>(tupT_ok hK a).use h
 spc:=fun _ _ _=>(spcD_s hK).orT spcJ_s
end
section
set_option maxHeartbeats 200000
noncomputable def nmHeaders:Str:=⟨⟨[95,104,101,97,100,101,114,115]⟩⟩
noncomputable def rdA (k:Nat) (σ:AS):Option (R AV):=match atI σ.hp k with
 | some (.inst C d)=>(match Nat.beq C 592,atI σ.hp d with
   | true,some (.sio _ [])=>some (.ok (.str ⟨⟨[]⟩⟩) σ)
   | true,some (.sio dn (c::r))=>some (.ok (.str ⟨⟨[c]⟩⟩) { σ with hp:=setAt σ.hp d (.sio (dn++[c]) r) })
   | _,_=>.none)
 | _=>.none
noncomputable def pRead (as:List AV) (ks:List (Str × AV)) (σ:AS):Option (R AV):=match as,ks with
 | [.obj k,.int (.ofNat 1)],[]=>rdA k σ
 | _,_=>.none
noncomputable def pSio (as:List AV) (ks:List (Str × AV)) (σ:AS):Option (R AV):=match as,ks with
 | [.str x],[]=>some (.ok (.obj (σ.hp.length + 1)) { σ with hp:=σ.hp++[.sio [] x.cps.toList,.inst 592 σ.hp.length] })
 | _,_=>.none
noncomputable def hdrOk (n v:Str):Bool:=prn n&&prn v&&Nat.beq v.length 10&&Nat.ble n.length 1000&&noOcc v ⟨⟨[92]⟩⟩&&noOcc v ⟨⟨[34]⟩⟩
noncomputable def strM:Str:=⟨⟨[109]⟩⟩
noncomputable def pAdd (as:List AV) (ks:List (Str × AV)) (σ:AS):Option (R AV):=match as,ks with
 | [.obj i,.str n,.none],[(k,.str v)]=>(match atI σ.hp i with
   | some (.inst C d)=>(match Nat.beq C 924&&sq k strM,atI σ.hp d with
     | true,some (.dict [(q,.obj l)])=>(match sq q nmHeaders,atI σ.hp l with
       | true,some (.list xs)=>some (.ok .none { σ with hp:=setAt σ.hp l (.list (xs++[.obj σ.hp.length]))++[.tup [.str n,.str (strM++coB++v++coQ)]],ob:=addOb (chk (hdrOk n v)) (addOb xs.length σ.ob) })
       | _,_=>.none)
     | _,_=>.none)
   | _=>.none)
 | _,_=>.none
noncomputable def prim1 (a:Nat) (as:List AV) (ks:List (Str × AV)) (σ:AS):Option (R AV) :=
 match Nat.beq a 538 with | true=>pRead as ks σ | false=>match Nat.beq a 592 with | true=>pSio as ks σ | false=>match Nat.beq a 921 with | true=>pAdd as ks σ | false=>.none
end
section
set_option maxHeartbeats 1000000
theorem lockA:Acc (fun _ _:Unit=>False) ():=Acc.intro () fun _ h=>h.elim
noncomputable def lock {α:Type} (x:α):α:=Acc.rec (motive:=fun _ _=>α) (fun _ _ _=>x) lockA
noncomputable def Jx (T:Tab) (n:Nat):I:=lock (interp T n)
theorem Jx_eq (T:Tab) (n:Nat):Jx T n=interp T n:=by kernel_rfl
section
variable {T:Tab} {sc:List (Str × NameKind)} {n:Nat} {s s₁:AS}
theorem jx_nil:(Jx T (n + 1)).exs sc [] s=.ok .next s:=by rw [Jx_eq]; rfl
theorem jx_cons {a:Stmt} {r:List Stmt}:(Jx T (n + 1)).exs sc (a::r) s=((Jx T n).ex sc a s).bind fun f s₁=>match f with
   | .next=>(Jx T n).exs sc r s₁
   | f=>.ok f s₁:=by rw [Jx_eq,Jx_eq]; rfl
theorem jx_next {a:Stmt} {r:List Stmt} (h:(Jx T n).ex sc a s=.ok .next s₁):(Jx T (n + 1)).exs sc (a::r) s=(Jx T n).exs sc r s₁:=by
 rw [jx_cons,h]; rfl
theorem jx_ret {a:Stmt} {r:List Stmt} {v:AV} (h:(Jx T n).ex sc a s=.ok (.ret v) s₁):(Jx T (n + 1)).exs sc (a::r) s=.ok (.ret v) s₁:=by
 rw [jx_cons,h]; rfl
theorem jx_split {l2:List Stmt}:∀ {l1:List Stmt} {n:Nat} {s s₁:AS},(Jx T (n + l1.length + 1)).exs sc l1 s=.ok .next s₁→(Jx T (n + l1.length + 1)).exs sc (l1++l2) s=(Jx T (n + 1)).exs sc l2 s₁
 | [],n,s,s₁,h=>by
   have h2:(Jx T (n + 1)).exs sc [] s=.ok .next s₁:=h
   rw [jx_nil] at h2
   cases h2; rfl
 | a::r,n,s,s₁,h=>by
   have e:n + (a::r).length + 1=(n + r.length + 1) + 1:=by simp only [List.length_cons]; omega
   rw [e] at h ⊢
   rw [jx_cons] at h
   obtain ⟨f,s₂,h1,h2⟩:=bind_ok h
   rw [List.cons_append,jx_cons,h1]
   cases f with
   | next=>exact jx_split h2
   | _=>cases h2
theorem jx_app {l1 l2:List Stmt} {k m:Nat} {r:R Fl} (h:(Jx T k).exs sc l1 s=.ok .next s₁) (hk:m + l1.length=k) (hm:0<m) (h2:(Jx T m).exs sc l2 s₁=r):(Jx T k).exs sc (l1++l2) s=r:=by
 obtain ⟨n,rfl⟩:∃ n,m=n + 1:=⟨m - 1,by omega⟩
 have e:k=n + l1.length + 1:=by omega
 subst e
 rw [jx_split h,h2]
theorem jx_ifT {t:Expr} {b o:List Stmt} {p:Pos} (h:(Jx T n).tr sc t s=.ok true s₁):(Jx T (n + 1)).ex sc (.If t b o p) s=(Jx T n).exs sc b s₁:=by
 rw [Jx_eq] at h ⊢
 rw [Jx_eq]
 show ((interp T n).tr sc t s).bind _=_
 rw [h]; rfl
theorem jx_ifF {t:Expr} {b o:List Stmt} {p:Pos} (h:(Jx T n).tr sc t s=.ok false s₁):(Jx T (n + 1)).ex sc (.If t b o p) s=(Jx T n).exs sc o s₁:=by
 rw [Jx_eq] at h ⊢
 rw [Jx_eq]
 show ((interp T n).tr sc t s).bind _=_
 rw [h]; rfl
noncomputable def cBack (lo:List (Str × AV)):R Fl→R AV
 | .ok fl s₁=>.ok (retV fl) { s₁ with lo:=lo }
 | .exc m s₁=>.exc m { s₁ with lo:=lo }
 | .bad=>.bad
theorem jx_call {a:Nat} {as:List AV} {ks:List (Str × AV)} {σ:AS} {fi:FnI} {lo:List (Str × AV)} {hp:List AO} {body:List Stmt} (h1:T.prim a as ks σ=.none) (h2:T.make a=.none) (h3:T.fn a=some fi) (h4:enter fi as ks σ.hp=some (lo,hp)) (h5:fi.scn=sc) (h6:fi.body=body) :
   (Jx T (n + 1)).call (.top a) as ks σ=cBack σ.lo ((Jx T n).exs sc body { σ with lo:=lo,hp:=hp }):=by
 subst h5 h6
 rw [Jx_eq,Jx_eq]
 show callT T (interp T n) a as ks σ=_
 unfold callT
 rw [h1]
 dsimp only
 rw [h2]
 dsimp only
 rw [h3]
 dsimp only
 unfold callF
 rw [h4]
 dsimp only
 unfold bodyA
 cases (interp T n).exs fi.scn fi.body { σ with lo:=lo,hp:=hp } <;> rfl
theorem jx_while {t:Expr} {b:List Stmt} {p:Pos}:(Jx T (n + 1)).ex sc (.While t b [] p) s=loopW ((Jx T n).tr sc t) ((Jx T n).exs sc b) T.turns s:=by
 rw [Jx_eq,Jx_eq]; rfl
end
noncomputable def nthX:List Expr→Nat→Expr
 | [],_=>.Constant .none 0 ⟨0,0,0,0⟩
 | a::_,0=>a
 | _::r,i + 1=>nthX r i
noncomputable def gnE:List Comprehension→List Expr
 | g::_=>g.target::g.iter::g.ifs
 | []=>[]
noncomputable def kE:Expr→List Expr
 | .Call f as _ _=>f::as
 | .Attribute v _ _=>[v]
 | .Tuple es _ _=>es
 | .List es _=>es
 | .Compare l _ rs _=>l::rs
 | .BinOp l _ r _=>[l,r]
 | .BoolOp _ es _=>es
 | .ListComp el gs _ _=>el::gnE gs
 | _=>[]
noncomputable def sE:Stmt→List Expr
 | .Assign ts v _=>v::ts
 | .Return v _=>v.toList
 | .Expr e _=>[e]
 | .For t i _ _ _=>[t,i]
 | .If t _ _ _=>[t]
 | .While t _ _ _=>[t]
 | .Raise e _ _=>e.toList
 | _=>[]
noncomputable def sB:Stmt→List Stmt × List Stmt
 | .For _ _ b o _=>(b,o)
 | .If _ b o _=>(b,o)
 | .While _ b o _=>(b,o)
 | .Try b _ _ _ _=>(b,[])
 | _=>([],[])
noncomputable def clF (e:Expr):Expr:=nthX (kE e) 0
noncomputable def clA (e:Expr):Expr:=nthX (kE e) 1
noncomputable def attO (e:Expr):Expr:=nthX (kE e) 0
noncomputable def asT (e:Stmt):Expr:=nthX (sE e) 1
noncomputable def asV (e:Stmt):Expr:=nthX (sE e) 0
noncomputable def frT (e:Stmt):Expr:=nthX (sE e) 0
noncomputable def frI (e:Stmt):Expr:=nthX (sE e) 1
noncomputable def frB (e:Stmt):List Stmt:=(sB e).1
noncomputable def eVal (e:Stmt):Expr:=nthX (sE e) 0
noncomputable def dStmt:Stmt:=.Pass ⟨0,0,0,0⟩
noncomputable def nthS (l:List Stmt) (i:Nat):Stmt:=match l,i with
 | [],_=>dStmt
 | a::_,0=>a
 | _::r,i + 1=>nthS r i
noncomputable def ifT (e:Stmt):Expr:=nthX (sE e) 0
noncomputable def ifB (e:Stmt):List Stmt:=(sB e).1
noncomputable def ifO (e:Stmt):List Stmt:=(sB e).2
noncomputable def ifP (e:Stmt):Pos:=e.pos
end
section
set_option maxHeartbeats 400000
noncomputable def itI (s:String) (i:Int):Nat:=(Txt.charAt (S s) i).getD 0
noncomputable def okJ (s:String) (i:Int):Bool:=fitsSsize i&&(Txt.charAt (S s) i).isSome
noncomputable def obI (s:String) (i:Int) (ob:List Nat):List Nat:=addOb (chk (okJ s i)) ob
noncomputable def kindS:String := "?pc?d?b?-?l?s???"
noncomputable def triI (n run above:Int) (last:String):List Nat:=[itI "-r" (((n.fdiv run).fdiv 4).fmod 2),itI "-w" (((n.fdiv run).fdiv 2).fmod 2),itI last ((n.fdiv above).fmod 2 * 2 + (n.fdiv run).fmod 2)]
noncomputable def rowI (n:Int):List Nat:=itI kindS (n.fdiv 4096)::(triI n 64 2048 "-xSs" ++ triI n 8 1024 "-xSs" ++ triI n 1 512 "-xTt")
noncomputable def triO (n run above:Int) (last:String) (ob:List Nat):List Nat:=obI last ((n.fdiv above).fmod 2 * 2 + (n.fdiv run).fmod 2) (obI "-w" (((n.fdiv run).fdiv 2).fmod 2) (obI "-r" (((n.fdiv run).fdiv 4).fmod 2) ob))
noncomputable def rowO (n:Int):List Nat:=triO n 1 512 "-xTt" (triO n 8 1024 "-xSs" (triO n 64 2048 "-xSs" (obI kindS (n.fdiv 4096) [])))
noncomputable def rowH:List AO:=[.tup [.int 64,.int 2048,.str (S "-xSs")],.tup [.int 8,.int 1024,.str (S "-xSs")],.tup [.int 1,.int 512,.str (S "-xTt")],.tup [.obj 0,.obj 1,.obj 2]]
theorem row935 (P:Params) (n:Int):(Jx (T0 P) 60).call (.top 935) [.int n] [] ⟨[],[],[]⟩=.ok (.str ⟨⟨rowI n⟩⟩) ⟨[],rowH,rowO n⟩:=by kernel_rfl
noncomputable def itC (s:String) (k:Nat):Nat:=(S s).cps.toList.getD k 0
noncomputable def triL (n run above:Nat) (last:String):List Nat:=[itC "-r" (n / run / 4 % 2),itC "-w" (n / run / 2 % 2),itC last (n / above % 2 * 2 + n / run % 2)]
noncomputable def rowL (n:Nat):List Nat:=itC kindS (n / 4096)::(triL n 64 2048 "-xSs" ++ triL n 8 1024 "-xSs" ++ triL n 1 512 "-xTt")
theorem okI_of {s:String} {k:Nat} (h:k<(S s).length) (h2:k<100):okJ s (k:Int)=true:=by
 unfold okJ
 rw [Bool.and_eq_true]
 refine ⟨?_,?_⟩
 · unfold fitsSsize
   simp
   omega
 · unfold Txt.charAt seqIndex?
   simp only [show ¬ ((k:Int)<0) from by omega,if_false]
   have h1:(k:Int)<((S s).length:Int):=by omega
   simp [h1]
   exact h
theorem itI_of {s:String} {k:Nat}:itI s (k:Int)=itC s k:=by
 unfold itI itC Txt.charAt seqIndex?
 simp only [show ¬ ((k:Int)<0) from by omega,if_false]
 by_cases h:(k:Int)<((S s).length:Int)
 · simp [h]
 · have:(S s).cps.toList.length≤k:=by
     have:(S s).length=(S s).cps.toList.length:=by simp [Str.length]
     omega
   simp [h,List.getD,List.getElem?_eq_none this]
theorem obI_sz {s:String} {k:Nat} {ob:List Nat} (h:k<(S s).length) (h2:k<100) (z:Sz ob):Sz (obI s (k:Int) ob):=by
 unfold obI
 rw [okI_of h h2]
 exact Sz.add (by rw [sizeLine_eq]; decide) z
theorem fdivN (a b:Nat):(a:Int).fdiv (b:Int)=((a / b:Nat):Int):=by
 rw [Int.fdiv_eq_ediv_of_nonneg _ (by omega)]; rfl
theorem fmodN (a b:Nat):(a:Int).fmod (b:Int)=((a % b:Nat):Int):=by
 rw [Int.fmod_eq_emod_of_nonneg _ (by omega)]; rfl
theorem idx1 (n run a:Nat):(((n:Int).fdiv (run:Int)).fdiv (a:Int)).fmod 2=((n / run / a % 2:Nat):Int):=by
 rw [fdivN,fdivN]; exact fmodN _ 2
theorem idx2 (n run above:Nat):((n:Int).fdiv (above:Int)).fmod 2 * 2 + ((n:Int).fdiv (run:Int)).fmod 2=((n / above % 2 * 2 + n / run % 2:Nat):Int):=by
 rw [fdivN,fdivN,show (2:Int)=((2:Nat):Int) from rfl,fmodN,fmodN]; push_cast; rfl
theorem triI_of (n run above:Nat) (last:String):triI n run above last=triL n run above last:=by
 unfold triI triL
 rw [show (4:Int)=((4:Nat):Int) from rfl,idx1,idx2]
 have e:((n:Int).fdiv (run:Int)).fdiv 2=((n:Int).fdiv (run:Int)).fdiv ((2:Nat):Int):=rfl
 rw [e,idx1,itI_of,itI_of,itI_of]
theorem rowI_of (n:Nat):rowI n=rowL n:=by
 unfold rowI rowL
 have a:=triI_of n 64 2048 "-xSs"
 have b:=triI_of n 8 1024 "-xSs"
 have c:=triI_of n 1 512 "-xTt"
 have d:(n:Int).fdiv 4096=((n / 4096:Nat):Int):=fdivN n 4096
 rw [d,itI_of]
 exact congrArg _ (by rw [← a,← b,← c]; rfl)
theorem triO_sz {n run above:Nat} {last:String} {ob:List Nat} (h:(S last).length=4) (z:Sz ob):Sz (triO n run above last ob):=by
 unfold triO
 have h1:(S "-r").length=2:=by decide +kernel
 have h2:(S "-w").length=2:=by decide +kernel
 rw [show (4:Int)=((4:Nat):Int) from rfl,idx1,idx2]
 have e:((n:Int).fdiv (run:Int)).fdiv 2=((n:Int).fdiv (run:Int)).fdiv ((2:Nat):Int):=rfl
 rw [e,idx1]
 exact obI_sz (by rw [h]; omega) (by omega) (obI_sz (by rw [h2]; omega) (by omega) (obI_sz (by rw [h1]; omega) (by omega) z))
theorem rowO_sz {n:Nat} (h:n<65536):Sz (rowO n):=by
 unfold rowO
 have h1:(S "-xSs").length=4:=by decide +kernel
 have h2:(S "-xTt").length=4:=by decide +kernel
 have h3:(S kindS).length=16:=by decide +kernel
 have d:(n:Int).fdiv 4096=((n / 4096:Nat):Int):=fdivN n 4096
 rw [d]
 exact triO_sz (n:=n) (run:=1) (above:=512) h2 (triO_sz (n:=n) (run:=8) (above:=1024) h1 (triO_sz (n:=n) (run:=64) (above:=2048) h1 (obI_sz (by rw [h3]; omega) (by omega) (fun l hl=>by cases hl))))
end
section
set_option maxHeartbeats 400000
noncomputable def binQ (orc:Int→Int) (P:Params) (op:Operator) (a b:AV) (σ:AS):Option (R AV):=match op with
 | .BitAnd=>(match a,b with
   | .int x,.int y=>some (.ok (.int (orc y)) { σ with ob:=addOb (chk (decide (orc y=Builtin.bitAnd x y))) σ.ob })
   | _,_=>.none)
 | op=>(T0 P).bin op a b σ
noncomputable def TQ (orc:Int→Int) (P:Params):Tab:={ T0 P with bin:=binQ orc P }
structure Bt where
 k:Nat
 b0:Bool
 b1:Bool
 b2:Bool
 b3:Bool
 b4:Bool
 b5:Bool
 b6:Bool
 b7:Bool
 b8:Bool
 b9:Bool
 b10:Bool
 b11:Bool
noncomputable def cb (b:Bool) (n:Nat):Nat:=match b with | true=>n | false=>0
noncomputable def orcN (B:Bt) (y:Nat):Nat :=
 match Nat.beq y 61440 with | true=>4096 * B.k | false=>(match Nat.beq y 256 with | true=>cb B.b8 256 | false=>(match Nat.beq y 128 with | true=>cb B.b7 128 | false=>(match Nat.beq y 2112 with | true=>cb B.b6 64 + cb B.b11 2048 | false=>(match Nat.beq y 2048 with | true=>cb B.b11 2048 | false=>(match Nat.beq y 64 with | true=>cb B.b6 64 | false=>(match Nat.beq y 32 with | true=>cb B.b5 32 | false=>(match Nat.beq y 16 with | true=>cb B.b4 16 | false=>(match Nat.beq y 1032 with | true=>cb B.b3 8 + cb B.b10 1024 | false=>(match Nat.beq y 1024 with | true=>cb B.b10 1024 | false=>(match Nat.beq y 8 with | true=>cb B.b3 8 | false=>(match Nat.beq y 4 with | true=>cb B.b2 4 | false=>(match Nat.beq y 2 with | true=>cb B.b1 2 | false=>(match Nat.beq y 513 with | true=>cb B.b0 1 + cb B.b9 512 | false=>(match Nat.beq y 512 with | true=>cb B.b9 512 | false=>(match Nat.beq y 1 with | true=>cb B.b0 1 | false=>0)))))))))))))))
noncomputable def orcB (B:Bt) (y:Int):Int:=match y with | .ofNat n=>.ofNat (orcN B n) | .negSucc _=>0
noncomputable def b778 (P:Params):List Stmt:=bodyK (KP P) 778
noncomputable def s778 (P:Params):List (Str × NameKind):=(FD (KP P) 778).scope.names
noncomputable def fB (e:Stmt):List Stmt:=frB e
noncomputable def f778 (P:Params):Stmt:=nthS (b778 P) 1
noncomputable def loF0 (m:Int) (i:Nat) (t:Nat):List (Str × AV):=[(S "mode",.int m),(S "perm",.obj 0),(S "index",.int (Int.ofNat i)),(S "table",.top t)]
noncomputable def loF1 (m:Int) (i:Nat) (t:Nat) (bv cv:AV):List (Str × AV):=[(S "mode",.int m),(S "perm",.obj 0),(S "index",.int (Int.ofNat i)),(S "table",.top t),(S "bit",bv),(S "char",cv)]
structure Fm where
 c:Nat
 bv:AV
 cv:AV
 ob:List Nat
noncomputable def obQ (orc:Int→Int) (m:Int) (y:Nat) (ob:List Nat):List Nat:=addOb (chk (decide (orc (Int.ofNat y)=Builtin.bitAnd m (Int.ofNat y)))) ob
noncomputable def fmK (orc:Int→Int) (m:Int):List (Nat × Nat)→AV→AV→List Nat→Fm
 | [],bv,cv,ob=>⟨63,bv,cv,ob⟩
 | (b,c)::r,_,_,ob=>match orc (Int.ofNat 61440)==Int.ofNat b with
   | true=>⟨c,.int (Int.ofNat b),.str ⟨⟨[c]⟩⟩,obQ orc m 61440 ob⟩
   | false=>fmK orc m r (.int (Int.ofNat b)) (.str ⟨⟨[c]⟩⟩) (obQ orc m 61440 ob)
noncomputable def fmT (orc:Int→Int) (m:Int):List (Nat × Nat)→AV→AV→List Nat→Fm
 | [],bv,cv,ob=>⟨45,bv,cv,ob⟩
 | (b,c)::r,_,_,ob=>match orc (Int.ofNat b)==Int.ofNat b with
   | true=>⟨c,.int (Int.ofNat b),.str ⟨⟨[c]⟩⟩,obQ orc m b ob⟩
   | false=>fmT orc m r (.int (Int.ofNat b)) (.str ⟨⟨[c]⟩⟩) (obQ orc m b ob)
noncomputable def en0:List (Nat × Nat):=[(40960,108),(49152,115),(32768,45),(24576,98),(16384,100),(8192,99),(4096,112)]
noncomputable def outF (m:Int) (i t:Nat) (ps:List AV) (f:Fm):R Fl:=.ok .next ⟨loF1 m i t f.bv f.cv,[.list (ps++[.str ⟨⟨[f.c]⟩⟩])],addOb ps.length f.ob⟩
noncomputable def fb (P:Params):List Stmt:=fB (f778 P)
section
variable (P:Params) (B:Bt) (m:Int) (bv cv:AV) (ps:List AV) (ob:List Nat)
theorem fm0 (b0 b1 b2 b3 b4 b5 b6 b7 b8 b9 b10 b11:Bool):((List.range 16).map fun k=>(Jx (TQ (orcB ⟨k,b0,b1,b2,b3,b4,b5,b6,b7,b8,b9,b10,b11⟩) P) 50).exs (s778 P) (fb P) ⟨loF0 m 0 746,[.list ps],ob⟩)=(List.range 16).map fun k=>outF m 0 746 ps (fmK (orcB ⟨k,b0,b1,b2,b3,b4,b5,b6,b7,b8,b9,b10,b11⟩) m en0 .none .none ob):=by kernel_rfl
theorem fm1:(Jx (TQ (orcB B) P) 50).exs (s778 P) (fb P) ⟨loF1 m 1 748 bv cv,[.list ps],ob⟩=outF m 1 748 ps (fmT (orcB B) m [(256,114)] bv cv ob):=by
 obtain ⟨k,b0,b1,b2,b3,b4,b5,b6,b7,b8,b9,b10,b11⟩:=B
 cases b8 <;> kernel_rfl
theorem fm2:(Jx (TQ (orcB B) P) 50).exs (s778 P) (fb P) ⟨loF1 m 2 750 bv cv,[.list ps],ob⟩=outF m 2 750 ps (fmT (orcB B) m [(128,119)] bv cv ob):=by
 obtain ⟨k,b0,b1,b2,b3,b4,b5,b6,b7,b8,b9,b10,b11⟩:=B
 cases b7 <;> kernel_rfl
theorem fm3:(Jx (TQ (orcB B) P) 50).exs (s778 P) (fb P) ⟨loF1 m 3 754 bv cv,[.list ps],ob⟩=outF m 3 754 ps (fmT (orcB B) m [(2112,115),(2048,83),(64,120)] bv cv ob):=by
 obtain ⟨k,b0,b1,b2,b3,b4,b5,b6,b7,b8,b9,b10,b11⟩:=B
 cases b6 <;> cases b11 <;> kernel_rfl
theorem fm4:(Jx (TQ (orcB B) P) 50).exs (s778 P) (fb P) ⟨loF1 m 4 756 bv cv,[.list ps],ob⟩=outF m 4 756 ps (fmT (orcB B) m [(32,114)] bv cv ob):=by
 obtain ⟨k,b0,b1,b2,b3,b4,b5,b6,b7,b8,b9,b10,b11⟩:=B
 cases b5 <;> kernel_rfl
theorem fm5:(Jx (TQ (orcB B) P) 50).exs (s778 P) (fb P) ⟨loF1 m 5 758 bv cv,[.list ps],ob⟩=outF m 5 758 ps (fmT (orcB B) m [(16,119)] bv cv ob):=by
 obtain ⟨k,b0,b1,b2,b3,b4,b5,b6,b7,b8,b9,b10,b11⟩:=B
 cases b4 <;> kernel_rfl
theorem fm6:(Jx (TQ (orcB B) P) 50).exs (s778 P) (fb P) ⟨loF1 m 6 762 bv cv,[.list ps],ob⟩=outF m 6 762 ps (fmT (orcB B) m [(1032,115),(1024,83),(8,120)] bv cv ob):=by
 obtain ⟨k,b0,b1,b2,b3,b4,b5,b6,b7,b8,b9,b10,b11⟩:=B
 cases b3 <;> cases b10 <;> kernel_rfl
theorem fm7:(Jx (TQ (orcB B) P) 50).exs (s778 P) (fb P) ⟨loF1 m 7 764 bv cv,[.list ps],ob⟩=outF m 7 764 ps (fmT (orcB B) m [(4,114)] bv cv ob):=by
 obtain ⟨k,b0,b1,b2,b3,b4,b5,b6,b7,b8,b9,b10,b11⟩:=B
 cases b2 <;> kernel_rfl
theorem fm8:(Jx (TQ (orcB B) P) 50).exs (s778 P) (fb P) ⟨loF1 m 8 766 bv cv,[.list ps],ob⟩=outF m 8 766 ps (fmT (orcB B) m [(2,119)] bv cv ob):=by
 obtain ⟨k,b0,b1,b2,b3,b4,b5,b6,b7,b8,b9,b10,b11⟩:=B
 cases b1 <;> kernel_rfl
theorem fm9:(Jx (TQ (orcB B) P) 50).exs (s778 P) (fb P) ⟨loF1 m 9 770 bv cv,[.list ps],ob⟩=outF m 9 770 ps (fmT (orcB B) m [(513,116),(512,84),(1,120)] bv cv ob):=by
 obtain ⟨k,b0,b1,b2,b3,b4,b5,b6,b7,b8,b9,b10,b11⟩:=B
 cases b0 <;> cases b9 <;> kernel_rfl
end
end
section
set_option maxHeartbeats 400000
theorem forA_next {turn:Nat→AS→Option (Option AS)} {body els:AS→R Fl} {k j:Nat} {s s₁ s₂:AS} (ht:turn j s=some (some s₁)) (hb:body s₁=.ok .next s₂):forA turn body els (k + 1) j s=forA turn body els k (j + 1) s₂:=by
 show (match turn j s with
   | .none=>R.bad
   | some .none=>els s
   | some (some s₁)=>(body s₁).bind fun f s₂=>match f with
     | .next=>forA turn body els k (j + 1) s₂
     | .cont=>forA turn body els k (j + 1) s₂
     | .brk=>.ok .next s₂
     | .ret v=>.ok (.ret v) s₂)=_
 rw [ht]
 dsimp only
 rw [hb]
 rfl
theorem forA_end {turn:Nat→AS→Option (Option AS)} {body els:AS→R Fl} {k j:Nat} {s:AS} (ht:turn j s=some none):forA turn body els (k + 1) j s=els s:=by
 show (match turn j s with
   | .none=>R.bad
   | some .none=>els s
   | some (some s₁)=>(body s₁).bind fun f s₂=>match f with
     | .next=>forA turn body els k (j + 1) s₂
     | .cont=>forA turn body els k (j + 1) s₂
     | .brk=>.ok .next s₂
     | .ret v=>.ok (.ret v) s₂)=_
 rw [ht]
theorem jx_for {T:Tab} {sc:List (Str × NameKind)} {n:Nat} {t it:Expr} {b o:List Stmt} {p:Pos} {s s₁:AS} {src:Src} (h:srcA T (Jx T n) sc it s=.ok src s₁):(Jx T (n + 1)).ex sc (.For t it b o p) s=forA (forTurn T sc t src) ((Jx T n).exs sc b) ((Jx T n).exs sc o) T.turns 0 s₁:=by
 rw [Jx_eq] at h ⊢
 rw [Jx_eq]
 show (srcA T (interp T n) sc it s).bind _=_
 rw [h]
 rfl
noncomputable def fI (e:Stmt):Expr:=frI e
noncomputable def fT (e:Stmt):Expr:=frT e
noncomputable def fP (e:Stmt):Pos:=e.pos
noncomputable def vs771:List AV:=[.top 746,.top 748,.top 750,.top 754,.top 756,.top 758,.top 762,.top 764,.top 766,.top 770]
theorem b778_eq (P:Params):b778 P=nthS (b778 P) 0::.For (fT (f778 P)) (fI (f778 P)) (fb P) [] (fP (f778 P))::(b778 P).drop 2:=by kernel_rfl
noncomputable def ens:List (List (Nat × Nat)):=[[(256,114)],[(128,119)],[(2112,115),(2048,83),(64,120)],[(32,114)],[(16,119)],[(1032,115),(1024,83),(8,120)],[(4,114)],[(2,119)],[(513,116),(512,84),(1,120)]]
structure Acc where
 cs:List Nat
 bv:AV
 cv:AV
 ob:List Nat
noncomputable def accF (cs:List Nat) (f:Fm):Acc:=⟨cs++[f.c],f.bv,f.cv,addOb cs.length f.ob⟩
noncomputable def stepQ (orc:Int→Int) (m:Int) (a:Acc) (en:List (Nat × Nat)):Acc:=accF a.cs (fmT orc m en a.bv a.cv a.ob)
noncomputable def acc0 (orc:Int→Int) (m:Int) (ob:List Nat):Acc:=accF [] (fmK orc m en0 .none .none ob)
noncomputable def psA (cs:List Nat):List AV:=cs.map fun c=>.str ⟨⟨[c]⟩⟩
noncomputable def loP (m:Int):List (Str × AV):=[(S "mode",.int m),(S "perm",.obj 0)]
section
variable (P:Params) (orc:Int→Int) (B:Bt) (m:Int) (hp:List AO) (ob:List Nat) (t:Nat) (bv cv:AV)
theorem q_s0:(Jx (TQ orc P) 52).ex (s778 P) (nthS (b778 P) 0) ⟨[(S "mode",.int m)],[],ob⟩=.ok .next ⟨loP m,[.list []],ob⟩:=by kernel_rfl
theorem q_src:srcA (TQ orc P) (Jx (TQ orc P) 50) (s778 P) (fI (f778 P)) ⟨loP m,[.list []],ob⟩=.ok (.enum 771 vs771) ⟨loP m,[.list []],ob⟩:=by kernel_rfl
noncomputable abbrev tnQ:Nat→AS→Option (Option AS):=forTurn (TQ orc P) (s778 P) (fT (f778 P)) (.enum 771 vs771)
theorem tn0:tnQ P orc 0 ⟨loP m,hp,ob⟩=some (some ⟨loF0 m 0 746,hp,ob⟩):=by kernel_rfl
theorem tn1:tnQ P orc 1 ⟨loF1 m 0 t bv cv,hp,ob⟩=some (some ⟨loF1 m 1 748 bv cv,hp,ob⟩):=by kernel_rfl
theorem tn2:tnQ P orc 2 ⟨loF1 m 1 t bv cv,hp,ob⟩=some (some ⟨loF1 m 2 750 bv cv,hp,ob⟩):=by kernel_rfl
theorem tn3:tnQ P orc 3 ⟨loF1 m 2 t bv cv,hp,ob⟩=some (some ⟨loF1 m 3 754 bv cv,hp,ob⟩):=by kernel_rfl
theorem tn4:tnQ P orc 4 ⟨loF1 m 3 t bv cv,hp,ob⟩=some (some ⟨loF1 m 4 756 bv cv,hp,ob⟩):=by kernel_rfl
theorem tn5:tnQ P orc 5 ⟨loF1 m 4 t bv cv,hp,ob⟩=some (some ⟨loF1 m 5 758 bv cv,hp,ob⟩):=by kernel_rfl
theorem tn6:tnQ P orc 6 ⟨loF1 m 5 t bv cv,hp,ob⟩=some (some ⟨loF1 m 6 762 bv cv,hp,ob⟩):=by kernel_rfl
theorem tn7:tnQ P orc 7 ⟨loF1 m 6 t bv cv,hp,ob⟩=some (some ⟨loF1 m 7 764 bv cv,hp,ob⟩):=by kernel_rfl
theorem tn8:tnQ P orc 8 ⟨loF1 m 7 t bv cv,hp,ob⟩=some (some ⟨loF1 m 8 766 bv cv,hp,ob⟩):=by kernel_rfl
theorem tn9:tnQ P orc 9 ⟨loF1 m 8 t bv cv,hp,ob⟩=some (some ⟨loF1 m 9 770 bv cv,hp,ob⟩):=by kernel_rfl
theorem tn10:tnQ P orc 10 ⟨loF1 m 9 t bv cv,hp,ob⟩=some none:=by kernel_rfl
theorem q_ret (c0 c1 c2 c3 c4 c5 c6 c7 c8 c9:Nat):(Jx (TQ orc P) 51).exs (s778 P) ((b778 P).drop 2) ⟨loF1 m 9 t bv cv,[.list (psA [c0,c1,c2,c3,c4,c5,c6,c7,c8,c9])],ob⟩=.ok (.ret (.str ⟨⟨[c0,c1,c2,c3,c4,c5,c6,c7,c8,c9]⟩⟩)) ⟨loF1 m 9 t bv cv,[.list (psA [c0,c1,c2,c3,c4,c5,c6,c7,c8,c9])],ob⟩:=by kernel_rfl
end
theorem map_at' {α:Type} {f g:Nat→α} {n:Nat} (e:(List.range n).map f=(List.range n).map g) (k:Nat) (h:k<n):f k=g k:=by
 have:=congrArg (fun l=>l[k]?) e
 simpa [List.getElem?_map,List.getElem?_range h] using this
theorem outF_acc {m:Int} {i t:Nat} {cs:List Nat} {f:Fm}:outF m i t (psA cs) f=.ok .next ⟨loF1 m i t (accF cs f).bv (accF cs f).cv,[.list (psA (accF cs f).cs)],(accF cs f).ob⟩:=by
 simp [outF,accF,psA]
noncomputable def iterF {α:Type} (f:Nat→α→α):Nat→α→α
 | 0,a=>a
 | i + 1,a=>f i (iterF f i a)
theorem loopF {α:Type} {tn:Nat→AS→Option (Option AS)} {body els:AS→R Fl} {S0 s0:AS} {S:Nat→α→AS} {f:Nat→α→α} {a0:α} {n:Nat} (h0:tn 0 S0=some (some s0)) (b0:body s0=.ok .next (S 0 a0))
   (ht:∀ j a,j<n→∃ s',tn (j + 1) (S j a)=some (some s')∧body s'=.ok .next (S (j + 1) (f j a))) (hend:∀ a,tn (n + 1) (S n a)=some none) (hels:∀ s,els s=.ok .next s) (k:Nat):forA tn body els (k + n + 2) 0 S0=.ok .next (S n (iterF f n a0)):=by
 have go:∀ i,i≤n→forA tn body els (k + n + 2) 0 S0=forA tn body els (k + (n - i) + 1) (i + 1) (S i (iterF f i a0)):=by
   intro i
   induction i with
   | zero=>intro _; exact forA_next h0 b0
   | succ i ih =>
     intro hi
     rw [ih (by omega)]
     obtain ⟨s',h1,h2⟩:=ht i (iterF f i a0) (by omega)
     have e:k + (n - i) + 1=(k + (n - (i + 1)) + 1) + 1:=by omega
     rw [e]
     exact forA_next h1 h2
 rw [go n (Nat.le_refl _),forA_end (hend _),hels]
noncomputable def tabN (j:Nat):Nat:=nth [746,748,750,754,756,758,762,764,766,770] j
noncomputable def enN (j:Nat):List (Nat × Nat):=(ens[j]?).getD []
noncomputable def SQ (m:Int) (j:Nat) (a:Acc):AS:=⟨loF1 m j (tabN j) a.bv a.cv,[.list (psA a.cs)],a.ob⟩
noncomputable def accN (orc:Int→Int) (m:Int) (ob:List Nat):Acc:=iterF (fun j a=>stepQ orc m a (enN j)) 9 (acc0 orc m ob)
theorem turnsQ (orc:Int→Int) (P:Params):(TQ orc P).turns=989 + 9 + 2:=rfl
theorem mode_h0a (P:Params) (B:Bt) (hk:B.k<16) (m:Int) (ps:List AV) (ob:List Nat):(Jx (TQ (orcB B) P) 50).exs (s778 P) (fb P) ⟨loF0 m 0 746,[.list ps],ob⟩=outF m 0 746 ps (fmK (orcB B) m en0 .none .none ob):=by
 obtain ⟨k,b0,b1,b2,b3,b4,b5,b6,b7,b8,b9,b10,b11⟩:=B
 exact map_at' (fm0 P m ps ob b0 b1 b2 b3 b4 b5 b6 b7 b8 b9 b10 b11) k hk
theorem mode_h0 (P:Params) (B:Bt) (hk:B.k<16) (m:Int) (ob:List Nat):(Jx (TQ (orcB B) P) 50).exs (s778 P) (fb P) ⟨loF0 m 0 746,[.list (psA [])],ob⟩=.ok .next (SQ m 0 (acc0 (orcB B) m ob)):=by
 rw [mode_h0a P B hk m (psA []) ob,outF_acc]
 rfl
theorem mode_loop (P:Params) (B:Bt) (hk:B.k<16) (m:Int) (ob:List Nat):(Jx (TQ (orcB B) P) 51).ex (s778 P) (.For (fT (f778 P)) (fI (f778 P)) (fb P) [] (fP (f778 P))) ⟨loP m,[.list []],ob⟩=.ok .next (SQ m 9 (accN (orcB B) m ob)):=by
 rw [jx_for (q_src P (orcB B) m ob),turnsQ]
 refine loopF (S:=SQ m) (f:=fun j a=>stepQ (orcB B) m a (enN j)) (a0:=acc0 (orcB B) m ob) (tn0 P (orcB B) m _ _) (mode_h0 P B hk m ob) (fun j a hj=>?_) (fun a=>tn10 P (orcB B) m _ _ _ _ _) (fun s=>jx_nil) 989
 have fin:∀ (i t:Nat) (en:List (Nat × Nat)),outF m i t (psA a.cs) (fmT (orcB B) m en a.bv a.cv a.ob)=.ok .next ⟨loF1 m i t (stepQ (orcB B) m a en).bv (stepQ (orcB B) m a en).cv,[.list (psA (stepQ (orcB B) m a en).cs)],(stepQ (orcB B) m a en).ob⟩:=fun i t en=>outF_acc
 cases j with
 | zero=>exact ⟨_,tn1 P (orcB B) m _ _ _ _ _,(fm1 P B m _ _ _ _).trans (fin _ _ _)⟩
 | succ j =>
 cases j with
 | zero=>exact ⟨_,tn2 P (orcB B) m _ _ _ _ _,(fm2 P B m _ _ _ _).trans (fin _ _ _)⟩
 | succ j =>
 cases j with
 | zero=>exact ⟨_,tn3 P (orcB B) m _ _ _ _ _,(fm3 P B m _ _ _ _).trans (fin _ _ _)⟩
 | succ j =>
 cases j with
 | zero=>exact ⟨_,tn4 P (orcB B) m _ _ _ _ _,(fm4 P B m _ _ _ _).trans (fin _ _ _)⟩
 | succ j =>
 cases j with
 | zero=>exact ⟨_,tn5 P (orcB B) m _ _ _ _ _,(fm5 P B m _ _ _ _).trans (fin _ _ _)⟩
 | succ j =>
 cases j with
 | zero=>exact ⟨_,tn6 P (orcB B) m _ _ _ _ _,(fm6 P B m _ _ _ _).trans (fin _ _ _)⟩
 | succ j =>
 cases j with
 | zero=>exact ⟨_,tn7 P (orcB B) m _ _ _ _ _,(fm7 P B m _ _ _ _).trans (fin _ _ _)⟩
 | succ j =>
 cases j with
 | zero=>exact ⟨_,tn8 P (orcB B) m _ _ _ _ _,(fm8 P B m _ _ _ _).trans (fin _ _ _)⟩
 | succ j =>
 cases j with
 | zero=>exact ⟨_,tn9 P (orcB B) m _ _ _ _ _,(fm9 P B m _ _ _ _).trans (fin _ _ _)⟩
 | succ j =>
 exact absurd hj (Nat.not_lt.mpr (Nat.le_add_left 9 j))
theorem accN_len (orc:Int→Int) (m:Int) (ob:List Nat):(accN orc m ob).cs.length=10:=by kernel_rfl
theorem mode_body (P:Params) (B:Bt) (hk:B.k<16) (m:Int) (ob:List Nat):∃ lo hp,(Jx (TQ (orcB B) P) 53).exs (s778 P) (b778 P) ⟨[(S "mode",.int m)],[],ob⟩=.ok (.ret (.str ⟨⟨(accN (orcB B) m ob).cs⟩⟩)) ⟨lo,hp,(accN (orcB B) m ob).ob⟩:=by
 have hl:=accN_len (orcB B) m ob
 rw [b778_eq,jx_next (q_s0 P (orcB B) m ob),jx_next (mode_loop P B hk m ob)]
 generalize accN (orcB B) m ob=A at hl
 obtain ⟨cs,bv,cv,ob'⟩:=A
 obtain ⟨c0,c1,c2,c3,c4,c5,c6,c7,c8,c9,rfl⟩:=len10 hl
 exact ⟨_,_,q_ret P (orcB B) m ob' 770 bv cv c0 c1 c2 c3 c4 c5 c6 c7 c8 c9⟩
end
section
set_option maxHeartbeats 400000
noncomputable def btOf (n:Nat):Bt:=⟨n / 4096,n.testBit 0,n.testBit 1,n.testBit 2,n.testBit 3,n.testBit 4,n.testBit 5,n.testBit 6,n.testBit 7,n.testBit 8,n.testBit 9,n.testBit 10,n.testBit 11⟩
theorem and_pow (n i:Nat):n &&& 2 ^ i=cb (n.testBit i) (2 ^ i):=by
 apply Nat.eq_of_testBit_eq
 intro j
 rw [Nat.testBit_and,Nat.testBit_two_pow]
 by_cases h:i=j
 · subst h
   cases hb:n.testBit i with
   | true=>simp [cb]
   | false=>simp [cb]
 · have:decide (i=j)=false:=by simp [h]
   rw [this,Bool.and_false]
   cases hb:n.testBit i with
   | true=>simp [cb,h]
   | false=>simp [cb]
theorem and_two (n i j:Nat) (h:i ≠ j):n &&& (2 ^ i ||| 2 ^ j)=cb (n.testBit i) (2 ^ i) ||| cb (n.testBit j) (2 ^ j):=by
 rw [Nat.and_or_distrib_left,and_pow,and_pow]
theorem and_hi (n:Nat) (h:n<65536):n &&& 61440=4096 * (n / 4096):=by
 apply Nat.eq_of_testBit_eq
 intro j
 have e1:(61440:Nat)=2 ^ 12 * 15:=by decide
 have e2:(4096:Nat) * (n / 4096)=2 ^ 12 * (n / 2 ^ 12):=by rw [show (2:Nat) ^ 12=4096 from rfl]
 rw [Nat.testBit_and,e1,e2,Nat.testBit_two_pow_mul,Nat.testBit_two_pow_mul,Nat.testBit_div_two_pow]
 by_cases hj:12≤j
 · have e3:j - 12 + 12=j:=by omega
   rw [e3]
   by_cases h16:j<16
   · have:(15:Nat).testBit (j - 12)=true:=by
       have:j=12 ∨ j=13 ∨ j=14 ∨ j=15:=by omega
       rcases this with rfl | rfl | rfl | rfl <;> decide
     rw [this]
     simp [hj]
   · have:n.testBit j=false:=Nat.testBit_lt_two_pow (Nat.lt_of_lt_of_le h (by
       have:2 ^ 16≤2 ^ j:=Nat.pow_le_pow_right (by omega) (by omega)
       exact this))
     rw [this]
     simp
 · simp [hj]
theorem bAnd (n y:Nat):Builtin.bitAnd (Int.ofNat n) (Int.ofNat y)=Int.ofNat (n &&& y):=by
 unfold Builtin.bitAnd
 simp
theorem cb_or (b c:Bool):cb b 64 ||| cb c 2048=cb b 64 + cb c 2048∧cb b 8 ||| cb c 1024=cb b 8 + cb c 1024∧cb b 1 ||| cb c 512=cb b 1 + cb c 512:=by
 cases b <;> cases c <;> decide
theorem orc_ok (n:Nat) (h:n<65536):∀ y∈[61440,256,128,2112,2048,64,32,16,1032,1024,8,4,2,513,512,1],orcB (btOf n) (Int.ofNat y)=Builtin.bitAnd (Int.ofNat n) (Int.ofNat y):=by
 intro y hy
 rw [bAnd]
 show Int.ofNat (orcN (btOf n) y)=_
 congr 1
 simp only [List.mem_cons,List.not_mem_nil,or_false] at hy
 have p:=and_pow n
 rcases hy with rfl | rfl | rfl | rfl | rfl | rfl | rfl | rfl | rfl | rfl | rfl | rfl | rfl | rfl | rfl | rfl
 · rw [and_hi n h]; rfl
 · exact (p 8).symm
 · exact (p 7).symm
 · have e:n &&& 2112=n &&& (2 ^ 6 ||| 2 ^ 11):=rfl
   rw [e,and_two n 6 11 (by decide)]
   exact (cb_or _ _).1.symm
 · exact (p 11).symm
 · exact (p 6).symm
 · exact (p 5).symm
 · exact (p 4).symm
 · have e:n &&& 1032=n &&& (2 ^ 3 ||| 2 ^ 10):=rfl
   rw [e,and_two n 3 10 (by decide)]
   exact (cb_or _ _).2.1.symm
 · exact (p 10).symm
 · exact (p 3).symm
 · exact (p 2).symm
 · exact (p 1).symm
 · have e:n &&& 513=n &&& (2 ^ 0 ||| 2 ^ 9):=rfl
   rw [e,and_two n 0 9 (by decide)]
   exact (cb_or _ _).2.2.symm
 · exact (p 9).symm
 · exact (p 0).symm
theorem obQ_sz {orc:Int→Int} {m:Int} {y:Nat} {ob:List Nat} (h:orc (Int.ofNat y)=Builtin.bitAnd m (Int.ofNat y)) (z:Sz ob):Sz (obQ orc m y ob):=by
 unfold obQ
 rw [decide_eq_true h]
 exact Sz.add (by rw [sizeLine_eq]; decide) z
theorem fmK_sz {orc:Int→Int} {m:Int} (h:orc (Int.ofNat 61440)=Builtin.bitAnd m (Int.ofNat 61440)):∀ {en:List (Nat × Nat)} {bv cv:AV} {ob:List Nat},Sz ob→Sz (fmK orc m en bv cv ob).ob
 | [],_,_,_,z=>z
 | (b,c)::r,bv,cv,ob,z=>by
   unfold fmK
   split
   · exact obQ_sz h z
   · exact fmK_sz h (obQ_sz h z)
theorem fmT_sz {orc:Int→Int} {m:Int}:∀ {en:List (Nat × Nat)} {bv cv:AV} {ob:List Nat},(∀ e∈en,orc (Int.ofNat e.1)=Builtin.bitAnd m (Int.ofNat e.1))→Sz ob→Sz (fmT orc m en bv cv ob).ob
 | [],_,_,_,_,z=>z
 | (b,c)::r,bv,cv,ob,h,z=>by
   unfold fmT
   split
   · exact obQ_sz (h _ (.head _)) z
   · exact fmT_sz (fun e he=>h e (.tail _ he)) (obQ_sz (h _ (.head _)) z)
theorem enN_mem:∀ j,j<9→∀ e∈enN j,e.1∈[61440,256,128,2112,2048,64,32,16,1032,1024,8,4,2,513,512,1]:=by decide
theorem acc_sz (n:Nat) (h:n<65536):Sz (accN (orcB (btOf n)) (Int.ofNat n) []).ob:=by
 have ok:=orc_ok n h
 have key:∀ i,i≤9→Sz (iterF (fun j a=>stepQ (orcB (btOf n)) (Int.ofNat n) a (enN j)) i (acc0 (orcB (btOf n)) (Int.ofNat n) [])).ob∧(iterF (fun j a=>stepQ (orcB (btOf n)) (Int.ofNat n) a (enN j)) i (acc0 (orcB (btOf n)) (Int.ofNat n) [])).cs.length=i + 1:=by
   intro i
   induction i with
   | zero =>
     intro _
     have z0:Sz (fmK (orcB (btOf n)) (Int.ofNat n) en0 .none .none []).ob:=fmK_sz (ok _ (by simp)) (fun l hl=>by cases hl)
     exact ⟨Sz.add (n:=0) (by rw [sizeLine_eq]; decide) z0,rfl⟩
   | succ i ih =>
     intro hi
     obtain ⟨z,hl⟩:=ih (by omega)
     generalize he:iterF (fun j a=>stepQ (orcB (btOf n)) (Int.ofNat n) a (enN j)) i (acc0 (orcB (btOf n)) (Int.ofNat n) [])=a at z hl
     have e2:iterF (fun j a=>stepQ (orcB (btOf n)) (Int.ofNat n) a (enN j)) (i + 1) (acc0 (orcB (btOf n)) (Int.ofNat n) [])=stepQ (orcB (btOf n)) (Int.ofNat n) a (enN i):=by
       rw [← he]; rfl
     rw [e2]
     have z1:Sz (fmT (orcB (btOf n)) (Int.ofNat n) (enN i) a.bv a.cv a.ob).ob:=fmT_sz (fun e he=>ok _ (enN_mem i (by omega) e he)) z
     refine ⟨Sz.add (n:=a.cs.length) (by rw [hl,sizeLine_eq]; omega) z1,?_⟩
     show (a.cs++[_]).length=_
     rw [List.length_append,hl]; rfl
 exact (key 9 (Nat.le_refl _)).1
theorem tb (n a b i:Nat) (h:a * b=2 ^ i):n / a / b % 2=(n.testBit i).toNat:=by
 rw [Nat.div_div_eq_div_mul,h,Nat.toNat_testBit]
theorem tb1 (n a i:Nat) (h:a=2 ^ i):n / a % 2=(n.testBit i).toNat:=by
 rw [h,Nat.toNat_testBit]
section
variable (B:Bt) (m:Int) (bv cv:AV) (ob:List Nat)
theorem kc (b0 b1 b2 b3 b4 b5 b6 b7 b8 b9 b10 b11:Bool):((List.range 16).map fun k=>(fmK (orcB ⟨k,b0,b1,b2,b3,b4,b5,b6,b7,b8,b9,b10,b11⟩) m en0 .none .none ob).c)=(List.range 16).map fun k=>itC kindS k:=by kernel_rfl
theorem c1:(fmT (orcB B) m (enN 0) bv cv ob).c=itC "-r" B.b8.toNat:=by
 obtain ⟨k,b0,b1,b2,b3,b4,b5,b6,b7,b8,b9,b10,b11⟩:=B
 cases b8 <;> kernel_rfl
theorem c2:(fmT (orcB B) m (enN 1) bv cv ob).c=itC "-w" B.b7.toNat:=by
 obtain ⟨k,b0,b1,b2,b3,b4,b5,b6,b7,b8,b9,b10,b11⟩:=B
 cases b7 <;> kernel_rfl
theorem c3:(fmT (orcB B) m (enN 2) bv cv ob).c=itC "-xSs" (B.b11.toNat * 2 + B.b6.toNat):=by
 obtain ⟨k,b0,b1,b2,b3,b4,b5,b6,b7,b8,b9,b10,b11⟩:=B
 cases b6 <;> cases b11 <;> kernel_rfl
theorem c4:(fmT (orcB B) m (enN 3) bv cv ob).c=itC "-r" B.b5.toNat:=by
 obtain ⟨k,b0,b1,b2,b3,b4,b5,b6,b7,b8,b9,b10,b11⟩:=B
 cases b5 <;> kernel_rfl
theorem c5:(fmT (orcB B) m (enN 4) bv cv ob).c=itC "-w" B.b4.toNat:=by
 obtain ⟨k,b0,b1,b2,b3,b4,b5,b6,b7,b8,b9,b10,b11⟩:=B
 cases b4 <;> kernel_rfl
theorem c6:(fmT (orcB B) m (enN 5) bv cv ob).c=itC "-xSs" (B.b10.toNat * 2 + B.b3.toNat):=by
 obtain ⟨k,b0,b1,b2,b3,b4,b5,b6,b7,b8,b9,b10,b11⟩:=B
 cases b3 <;> cases b10 <;> kernel_rfl
theorem c7:(fmT (orcB B) m (enN 6) bv cv ob).c=itC "-r" B.b2.toNat:=by
 obtain ⟨k,b0,b1,b2,b3,b4,b5,b6,b7,b8,b9,b10,b11⟩:=B
 cases b2 <;> kernel_rfl
theorem c8:(fmT (orcB B) m (enN 7) bv cv ob).c=itC "-w" B.b1.toNat:=by
 obtain ⟨k,b0,b1,b2,b3,b4,b5,b6,b7,b8,b9,b10,b11⟩:=B
 cases b1 <;> kernel_rfl
theorem c9:(fmT (orcB B) m (enN 8) bv cv ob).c=itC "-xTt" (B.b9.toNat * 2 + B.b0.toNat):=by
 obtain ⟨k,b0,b1,b2,b3,b4,b5,b6,b7,b8,b9,b10,b11⟩:=B
 cases b0 <;> cases b9 <;> kernel_rfl
end
theorem accF_cs (cs:List Nat) (f:Fm):(accF cs f).cs=cs++[f.c]:=rfl
theorem acc_row (n:Nat) (h:n<65536):(accN (orcB (btOf n)) (Int.ofNat n) []).cs=rowL n:=by
 have hk:n / 4096<16:=by omega
 have k0:(fmK (orcB (btOf n)) (Int.ofNat n) en0 .none .none []).c=itC kindS (n / 4096):=map_at' (kc (Int.ofNat n) [] _ _ _ _ _ _ _ _ _ _ _ _) (n / 4096) hk
 unfold accN iterF iterF iterF iterF iterF iterF iterF iterF iterF iterF
 unfold stepQ acc0
 simp only [accF_cs,c1,c2,c3,c4,c5,c6,c7,c8,c9,k0]
 unfold rowL triL
 rw [tb n 64 4 8 rfl,tb n 64 2 7 rfl,tb1 n 2048 11 rfl,tb1 n 64 6 rfl,tb n 8 4 5 rfl,tb n 8 2 4 rfl,tb1 n 1024 10 rfl,tb1 n 8 3 rfl,tb n 1 4 2 rfl,tb n 1 2 1 rfl,tb1 n 512 9 rfl,tb1 n 1 0 rfl]
 rfl
end
section
set_option maxHeartbeats 200000
noncomputable def b538 (P:Params):List Stmt:=bodyK (KP P) 538
noncomputable def s538 (P:Params):List (Str × NameKind):=(FD (KP P) 538).scope.names
noncomputable def i5 (P:Params):Stmt:=nthS (b538 P) 5
noncomputable def i6 (P:Params):Stmt:=nthS (b538 P) 6
theorem b538_eq (P:Params):b538 P=(b538 P).take 5++(.If (ifT (i5 P)) (ifB (i5 P)) (ifO (i5 P)) (ifP (i5 P))::.If (ifT (i6 P)) (ifB (i6 P)) (ifO (i6 P)) (ifP (i6 P))::(b538 P).drop 7):=by kernel_rfl
noncomputable def sioE (buf:Str) (pos:Int):AO:=.dict [(nmNl,.str ⟨⟨[10]⟩⟩),(nmBuf,.str buf),(nmPos,.int pos)]
noncomputable def lo538 (buf:Str) (pos stop:Int):List (Str × AV):=[(S "self",.obj 0),(S "size",.int 1),(S "start",.int pos),(S "stop",.int stop)]
section
variable (P:Params) (buf:Str) (pos stop:Int) (ob:List Nat)
theorem r_pre:(Jx (T0 P) 40).exs (s538 P) ((b538 P).take 5) ⟨[(S "self",.obj 0),(S "size",.int 1)],[.inst 592 1,sioE buf pos],ob⟩=.ok .next ⟨lo538 buf pos buf.length,[.inst 592 1,sioE buf pos],ob⟩:=by kernel_rfl
theorem r_t5:(Jx (T0 P) 33).tr (s538 P) (ifT (i5 P)) ⟨lo538 buf pos stop,[.inst 592 1,sioE buf pos],ob⟩=.ok (decide (pos ≥ stop)) ⟨lo538 buf pos stop,[.inst 592 1,sioE buf pos],ob⟩:=by kernel_rfl
theorem r_b5:(Jx (T0 P) 33).exs (s538 P) (ifB (i5 P)) ⟨lo538 buf pos stop,[.inst 592 1,sioE buf pos],ob⟩=.ok (.ret (.str ⟨⟨[]⟩⟩)) ⟨lo538 buf pos stop,[.inst 592 1,sioE buf pos],ob⟩:=by kernel_rfl
theorem r_o5:(Jx (T0 P) 33).exs (s538 P) (ifO (i5 P)) ⟨lo538 buf pos stop,[.inst 592 1,sioE buf pos],ob⟩=.ok .next ⟨lo538 buf pos stop,[.inst 592 1,sioE buf pos],ob⟩:=by kernel_rfl
theorem r_t6:(Jx (T0 P) 32).tr (s538 P) (ifT (i6 P)) ⟨lo538 buf pos stop,[.inst 592 1,sioE buf pos],ob⟩=(match decide (pos + 1<stop) with | false=>R.ok false ⟨lo538 buf pos stop,[.inst 592 1,sioE buf pos],ob⟩ | true=>R.ok true ⟨lo538 buf pos stop,[.inst 592 1,sioE buf pos],ob⟩):=by kernel_rfl
theorem r_b6:(Jx (T0 P) 32).exs (s538 P) (ifB (i6 P)) ⟨lo538 buf pos stop,[.inst 592 1,sioE buf pos],ob⟩=.ok .next ⟨lo538 buf pos (pos + 1),[.inst 592 1,sioE buf pos],ob⟩:=by kernel_rfl
theorem r_o6:(Jx (T0 P) 32).exs (s538 P) (ifO (i6 P)) ⟨lo538 buf pos stop,[.inst 592 1,sioE buf pos],ob⟩=.ok .next ⟨lo538 buf pos stop,[.inst 592 1,sioE buf pos],ob⟩:=by kernel_rfl
theorem r_post:(Jx (T0 P) 33).exs (s538 P) ((b538 P).drop 7) ⟨lo538 buf pos stop,[.inst 592 1,sioE buf pos],ob⟩=.ok (.ret (.str (Txt.slice buf (some pos) (some stop)))) ⟨lo538 buf pos stop,[.inst 592 1,sioE buf stop],ob⟩:=by kernel_rfl
theorem n538:((b538 P).take 5).length=5:=by kernel_rfl
theorem body_end (h:pos ≥ (buf.length:Int)):(Jx (T0 P) 40).exs (s538 P) (b538 P) ⟨[(S "self",.obj 0),(S "size",.int 1)],[.inst 592 1,sioE buf pos],ob⟩=.ok (.ret (.str ⟨⟨[]⟩⟩)) ⟨lo538 buf pos buf.length,[.inst 592 1,sioE buf pos],ob⟩:=by
 rw [b538_eq]
 refine jx_app (m:=35) (r_pre P buf pos ob) (by rw [n538]) (by omega) ?_
 refine jx_ret ?_
 rw [jx_ifT (n:=33) (s₁:=⟨lo538 buf pos buf.length,[.inst 592 1,sioE buf pos],ob⟩) (by rw [r_t5,decide_eq_true h])]
 exact r_b5 P buf pos _ ob
theorem body_mid (h:pos + 1<(buf.length:Int)):(Jx (T0 P) 40).exs (s538 P) (b538 P) ⟨[(S "self",.obj 0),(S "size",.int 1)],[.inst 592 1,sioE buf pos],ob⟩=.ok (.ret (.str (Txt.slice buf (some pos) (some (pos + 1))))) ⟨lo538 buf pos (pos + 1),[.inst 592 1,sioE buf (pos + 1)],ob⟩:=by
 rw [b538_eq]
 refine jx_app (m:=35) (r_pre P buf pos ob) (by rw [n538]) (by omega) ?_
 refine (jx_next (n:=34) (s₁:=⟨lo538 buf pos buf.length,[.inst 592 1,sioE buf pos],ob⟩) ?_).trans ((jx_next (n:=33) (s₁:=⟨lo538 buf pos (pos + 1),[.inst 592 1,sioE buf pos],ob⟩) ?_).trans ?_)
 · rw [jx_ifF (n:=33) (s₁:=⟨lo538 buf pos buf.length,[.inst 592 1,sioE buf pos],ob⟩) (by rw [r_t5,decide_eq_false (by omega)])]
   exact r_o5 P buf pos _ ob
 · rw [jx_ifT (n:=32) (s₁:=⟨lo538 buf pos buf.length,[.inst 592 1,sioE buf pos],ob⟩) (by rw [r_t6,decide_eq_true h])]
   exact r_b6 P buf pos _ ob
 · exact r_post P buf pos _ ob
theorem body_last (h:pos + 1=(buf.length:Int)):(Jx (T0 P) 40).exs (s538 P) (b538 P) ⟨[(S "self",.obj 0),(S "size",.int 1)],[.inst 592 1,sioE buf pos],ob⟩=.ok (.ret (.str (Txt.slice buf (some pos) (some (pos + 1))))) ⟨lo538 buf pos (pos + 1),[.inst 592 1,sioE buf (pos + 1)],ob⟩:=by
 rw [b538_eq]
 refine jx_app (m:=35) (r_pre P buf pos ob) (by rw [n538]) (by omega) ?_
 refine (jx_next (n:=34) (s₁:=⟨lo538 buf pos buf.length,[.inst 592 1,sioE buf pos],ob⟩) ?_).trans ((jx_next (n:=33) (s₁:=⟨lo538 buf pos buf.length,[.inst 592 1,sioE buf pos],ob⟩) ?_).trans ?_)
 · rw [jx_ifF (n:=33) (s₁:=⟨lo538 buf pos buf.length,[.inst 592 1,sioE buf pos],ob⟩) (by rw [r_t5,decide_eq_false (by omega)])]
   exact r_o5 P buf pos _ ob
 · rw [jx_ifF (n:=32) (s₁:=⟨lo538 buf pos buf.length,[.inst 592 1,sioE buf pos],ob⟩) (by rw [r_t6,decide_eq_false (by omega)])]
   exact r_o6 P buf pos _ ob
 · rw [h]
   exact r_post P buf pos _ ob
theorem call538:(Jx (T0 P) 41).call (.top 538) [.obj 0,.int 1] [] ⟨[],[.inst 592 1,sioE buf pos],[]⟩=cBack [] ((Jx (T0 P) 40).exs (s538 P) (b538 P) ⟨[(S "self",.obj 0),(S "size",.int 1)],[.inst 592 1,sioE buf pos],[]⟩) :=
 jx_call (by kernel_rfl) (by kernel_rfl) (show (T0 P).fn 538=some (fi538 P) by kernel_rfl) (by kernel_rfl) (by kernel_rfl) (by kernel_rfl)
end
theorem str_cps (l:List Nat):(⟨⟨l⟩⟩:Str).length=l.length:=by simp [Str.length]
theorem slice_nat (l:List Nat) (i j:Nat) (h:i≤j) (h2:j≤l.length):Txt.slice ⟨⟨l⟩⟩ (some (i:Int)) (some (j:Int))=⟨⟨(l.drop i).take (j - i)⟩⟩:=by
 have:=slice_closes (x:=⟨⟨l⟩⟩) (i:=(i:Int)) (j:=(j:Int)) ⟨by omega,by omega,by show (j:Int)≤l.length; omega⟩
 have e:=eq_of_beq this
 rw [e]
 have h3:((j:Int) - (i:Int)).toNat=j - i:=by omega
 rw [h3]
 rfl
theorem slice1 (dn r:List Nat) (c:Nat):Txt.slice ⟨⟨dn++c::r⟩⟩ (some (dn.length:Int)) (some ((dn.length:Int) + 1))=⟨⟨[c]⟩⟩:=by
 have e:=slice_nat (dn++c::r) dn.length (dn.length + 1) (by omega) (by simp)
 have h:((dn.length + 1:Nat):Int)=(dn.length:Int) + 1:=by omega
 rw [h] at e
 rw [e]
 simp
noncomputable def after538 (dn rest:List Nat):AO:=match rest with
 | []=>sioE ⟨⟨dn++rest⟩⟩ dn.length
 | c::r=>sioE ⟨⟨(dn++[c])++r⟩⟩ (dn++[c]).length
noncomputable def hd538:List Nat→AV
 | []=>.str ⟨⟨[]⟩⟩
 | c::_=>.str ⟨⟨[c]⟩⟩
theorem view538 (P:Params) (dn rest:List Nat):(Jx (T0 P) 41).call (.top 538) [.obj 0,.int 1] [] ⟨[],[.inst 592 1,sioE ⟨⟨dn++rest⟩⟩ dn.length],[]⟩=.ok (hd538 rest) ⟨[],[.inst 592 1,after538 dn rest],[]⟩:=by
 rw [call538]
 cases rest with
 | nil =>
   rw [body_end P _ _ [] (by rw [str_cps]; simp)]
   rfl
 | cons c r =>
   have e1:((dn++[c]).length:Int)=(dn.length:Int) + 1:=by simp
   have e2:(dn++[c])++r=dn++c::r:=by simp
   have hl:((⟨⟨dn++c::r⟩⟩:Str).length:Int)=(dn.length:Int) + 1 + r.length:=by rw [str_cps]; simp; omega
   unfold after538 hd538
   dsimp only
   rw [e1,e2,← slice1 dn r c]
   by_cases h:(dn.length:Int) + 1<((⟨⟨dn++c::r⟩⟩:Str).length:Int)
   · rw [body_mid P _ _ [] h]; rfl
   · rw [body_last P _ _ [] (by omega)]; rfl
end
section
set_option maxHeartbeats 400000
theorem All2.ofGet {α β:Type} {R:α→β→Prop} {a:List α}:∀ {b:List β},a.length=b.length→(∀ (i:Nat) x y,a[i]?=some x→b[i]?=some y→R x y)→All2 R a b:=by
 induction a with
 | nil=>intro b h _; cases b with | nil=>exact .nil | cons=>cases h
 | cons x r ih =>
   intro b h k
   cases b with
   | nil=>cases h
   | cons y q=>exact .cons (k 0 x y rfl rfl) (ih (Nat.succ.inj h) fun i x y e1 e2=>k (i + 1) x y e1 e2)
theorem All2.len' {α β:Type} {R:α→β→Prop} {a:List α} {b:List β} (h:All2 R a b):a.length=b.length:=h.len
theorem All2.at' {α β:Type} {R:α→β→Prop} {a:List α} {b:List β} (h:All2 R a b) {i:Nat} {x:α} {y:β} (e1:a[i]?=some x) (e2:b[i]?=some y):R x y:=by
 obtain ⟨y',e,r⟩:=h.get e1
 cases e2.symm.trans e
 exact r
theorem zip_self (l:List (Addr × Obj)):(l.map (·.1)).zip (l.map (·.2))=l:=by
 induction l with
 | nil=>rfl
 | cons p r ih=>rw [List.map_cons,List.map_cons,List.zip_cons_cons,ih]
theorem getD_of {α:Type} [Inhabited α] {o:Option α} {a:α} (h:o=some a):o.getD default=a:=by rw [h]; rfl
noncomputable def fzV (ρ:List Addr) (os:List Obj) (fz:List (Addr × Obj)) (ρ₀:List Addr):List (Addr × Obj):=(ρ.zip os++fz).filter fun p=>!ρ₀.contains p.1
theorem fzV_mem {ρ:List Addr} {os:List Obj} {fz:List (Addr × Obj)} {ρ₀:List Addr} {p:Addr × Obj}:p∈fzV ρ os fz ρ₀ ↔ p∈ρ.zip os++fz∧p.1 ∉ ρ₀:=by
 unfold fzV
 rw [List.mem_filter,Bool.not_eq_true',← Bool.not_eq_true,List.contains_iff_mem]
noncomputable def Vw (ρ:List Addr) (os:List Obj):List Nat→List (Addr × Obj)→Prop:=All2 fun j p=>ρ[j]?=some p.1∧os[j]?=some p.2
section
variable {x:Cx} {ρ:List Addr} {σ:AS} {h:Heap} {m:Str→Option Value} {os:List Obj} {js:List Nat} {sm:List (Addr × Obj)}
theorem Vw.sub (V:Vw ρ os js sm) {p:Addr × Obj} (hp:p∈sm):∃ j∈js,ρ[j]?=some p.1∧os[j]?=some p.2:=by
 induction V with
 | nil=>cases hp
 | @cons j q js sm h1 V ih =>
   rcases List.mem_cons.mp hp with rfl | hp
   · exact ⟨j,.head _,h1⟩
   · obtain ⟨k,h2,h3⟩:=ih hp
     exact ⟨k,.tail _ h2,h3⟩
theorem Vw.mem (V:Vw ρ os js sm) {a:Addr} (ha:a∈sm.map (·.1)):∃ j∈js,ρ[j]?=some a:=by
 obtain ⟨p,hp,rfl⟩:=List.mem_map.mp ha
 obtain ⟨j,h1,h2,_⟩:=V.sub hp
 exact ⟨j,h1,h2⟩
theorem idx_inj {ρ:List Addr} (nd:ρ.Nodup) {i j:Nat} {a:Addr} (h1:ρ[i]?=some a) (h2:ρ[j]?=some a):i=j :=
 (List.getElem?_inj (List.getElem?_eq_some_iff.mp h1).1 nd).mp (h1.trans h2.symm)
theorem Vw.nd (V:Vw ρ os js sm) (nd:ρ.Nodup) (hj:js.Nodup):(sm.map (·.1)).Nodup:=by
 induction V with
 | nil=>exact List.nodup_nil
 | @cons j q js sm h1 V ih =>
   obtain ⟨n1,n2⟩:=List.nodup_cons.mp hj
   refine List.nodup_cons.mpr ⟨fun hm=>?_,ih n2⟩
   obtain ⟨k,hk,e⟩:=Vw.mem V hm
   exact n1 (idx_inj nd h1.1 e ▸ hk)
theorem Vw.fz (V:Vw ρ os js sm) (dj:∀ p∈x.fz,p.1 ∉ ρ):∀ p∈x.fz,p∈fzV ρ os x.fz (sm.map (·.1)):=fun p hp=>fzV_mem.mpr ⟨List.mem_append_right _ hp,fun hm=>by
 obtain ⟨j,_,e⟩:=V.mem hm
 exact dj p hp (List.mem_of_getElem? e)⟩
theorem LR.nil {ρ:List Addr} {m:Str→Option Value}:LR ρ [] m:=fun y a e=>by cases e
theorem view_in (F:Fr x.h₀ x.L h (x.fm m)) (HP:HpR x.h₀ x.L x.fz ρ σ.hp h os) (V:Vw ρ os js sm) (hj:js.Nodup) {lo:List (Str × AV)} (lr:LR (sm.map (·.1)) lo (x.vm m)) {hp₀:List AO} {ob:List Nat} (r:ORs (sm.map (·.1)) hp₀ (sm.map (·.2))) :
   HSm (x.fzd (fzV ρ os x.fz (sm.map (·.1)))) (sm.map (·.1)) ⟨lo,hp₀,ob⟩ h m:=by
 refine ⟨sm.map (·.2),F,⟨fun p hp=>?_,V.nd HP.nd hj,fun p hp=>(fzV_mem.mp hp).2,by have:=r.len; rw [List.length_map] at this ⊢; exact this.symm,r⟩,lr⟩
 rcases List.mem_append.mp hp with q | q
 · rw [zip_self] at q
   obtain ⟨j,_,e1,e2⟩:=V.sub q
   exact HP.nw p (List.mem_append_left _ (zip_mem' e1 e2))
 · exact HP.nw p (fzV_mem.mp q).1
noncomputable def Back (x:Cx) (ρ:List Addr) (σ:AS) (js:List Nat) (A:List Addr) (os₁:List Obj) (B:List Obj) (h₁:Heap) (m:Str→Option Value):Prop :=
 ∀ (nw:List (Addr × Obj)) (hp₂ ts:List AO) (ob:List Nat),(∀ p∈nw,p∈A.zip B)→(nw.map (·.1)).Nodup→hp₂.length=σ.hp.length →
   (∀ j ao,hp₂[j]?=some ao→(j ∉ js∧σ.hp[j]?=some ao) ∨ ∃ (i:Nat) (o:Obj),js[i]?=some j∧os₁[i]?=some o∧OR (ρ++nw.map (·.1)) ao o) →
   All2 (OR (ρ++nw.map (·.1))) ts (nw.map (·.2))→HSm x (ρ++nw.map (·.1)) ⟨σ.lo,hp₂++ts,ob⟩ h₁ m
theorem view_out (HP:HpR x.h₀ x.L x.fz ρ σ.hp h os) (lr:LR ρ σ.lo (x.vm m)) (V:Vw ρ os js sm) {h₁:Heap} {ρ₁:List Addr} {σ₁:AS} (p₁:sm.map (·.1) <+: ρ₁) (H₁:HSm (x.fzd (fzV ρ os x.fz (sm.map (·.1)))) ρ₁ σ₁ h₁ m) :
   ∃ A os₁ B,ρ₁=sm.map (·.1)++A∧ORs ρ₁ σ₁.hp (os₁++B)∧os₁.length=sm.length∧A.length=B.length∧A.Nodup∧Back x ρ σ js A os₁ B h₁ m:=by
 obtain ⟨A,rfl⟩:=p₁
 obtain ⟨ob₁,F₁,HP₁,_⟩:=H₁
 have hl:=HP₁.olen
 rw [List.length_append,List.length_map] at hl
 have hl1:(ob₁.take sm.length).length=sm.length:=by rw [List.length_take]; omega
 have hsp:ob₁.take sm.length++ob₁.drop sm.length=ob₁:=List.take_append_drop _ _
 refine ⟨A,ob₁.take sm.length,ob₁.drop sm.length,rfl,by rw [hsp]; exact HP₁.or,hl1,by rw [List.length_drop]; omega,(List.nodup_append.mp HP₁.nd).2.1,?_⟩
 intro nw hp₂ ts ob hnw hnd hlen hold hts
 have hzip:(sm.map (·.1)++A).zip ob₁=(sm.map (·.1)).zip (ob₁.take sm.length)++A.zip (ob₁.drop sm.length):=by
   rw [← List.zip_append (by rw [List.length_map,hl1]),hsp]
 have inA:∀ p∈nw,p∈(sm.map (·.1)++A).zip ob₁:=fun p hp=>by rw [hzip]; exact List.mem_append_right _ (hnw p hp)
 have nA:∀ p∈nw,p.1∈A:=fun p hp=>(List.of_mem_zip (hnw p hp)).1
 have dis:∀ a∈sm.map (·.1),a ∉ A:=fun a ha hA=>(List.nodup_append.mp HP₁.nd).2.2 a ha a hA rfl
 have far:∀ j a o,j ∉ js→ρ[j]?=some a→os[j]?=some o→(a,o)∈fzV ρ os x.fz (sm.map (·.1)):=fun j a o hj e1 e2 =>
   fzV_mem.mpr ⟨List.mem_append_left _ (zip_mem' e1 e2),fun hm=>by
     obtain ⟨k,hk,e⟩:=V.mem hm
     exact hj (idx_inj HP.nd e1 e ▸ hk)⟩
 have near:∀ i j a o,js[i]?=some j→ρ[j]?=some a→(ob₁.take sm.length)[i]?=some o→(a,o)∈(sm.map (·.1)++A).zip ob₁:=fun i j a o e1 e2 e3=>by
   obtain ⟨p,q1,q2,_⟩:=V.get e1
   cases e2.symm.trans q2
   rw [hzip]
   exact List.mem_append_left _ (zip_mem' (i:=i) (by rw [List.getElem?_map,q1]; rfl) e3)
 have ndA:∀ a∈A,a ∉ ρ:=fun a hA hm=>by
   obtain ⟨j,hj⟩:=List.getElem?_of_mem hm
   have hlj:j<os.length:=HP.olen ▸ (List.getElem?_eq_some_iff.mp hj).1
   by_cases q:a∈sm.map (·.1)
   · exact dis a q hA
   · exact HP₁.dj (a,os[j]) (fzV_mem.mpr ⟨List.mem_append_left _ (zip_mem' hj (List.getElem?_eq_getElem hlj)),q⟩) (List.mem_append_right _ hA)
 have key:∀ j a,ρ[j]?=some a→∃ o,(h₁.get? a=some o∧a ≠ x.L∧x.h₀.get? a=none)∧((j ∉ js∧os[j]?=some o) ∨ ∃ i,js[i]?=some j∧(ob₁.take sm.length)[i]?=some o):=fun j a e=>by
   have hlj:j<os.length:=HP.olen ▸ (List.getElem?_eq_some_iff.mp e).1
   by_cases q:j∈js
   · obtain ⟨i,hi⟩:=List.getElem?_of_mem q
     obtain ⟨p,q1,_⟩:=V.get hi
     have hli:i<(ob₁.take sm.length).length:=by rw [hl1]; exact (List.getElem?_eq_some_iff.mp q1).1
     have e3:=List.getElem?_eq_getElem hli
     exact ⟨_,HP₁.nw _ (List.mem_append_left _ (near i j a _ hi e e3)),.inr ⟨i,hi,e3⟩⟩
   · have e3:=List.getElem?_eq_getElem hlj
     exact ⟨_,HP₁.nw _ (List.mem_append_right _ (far j a _ q e e3)),.inl ⟨q,e3⟩⟩
 have pre:ρ <+: ρ++nw.map (·.1):=⟨_,rfl⟩
 refine ⟨ρ.map (fun a=>(h₁.get? a).getD default)++nw.map (·.2),F₁,⟨fun p hp=>?_,?_,fun p hp hm=>?_,?_,All2.app (All2.ofGet ?_ fun j ao o e1 e2=>?_) hts⟩,lr.mono pre⟩
 · rw [List.zip_append (by rw [List.length_map])] at hp
   rcases List.mem_append.mp hp with hp | hp
   · rcases List.mem_append.mp hp with hp | hp
     · obtain ⟨j,hj⟩:=List.getElem?_of_mem hp
       obtain ⟨j1,j2⟩:=List.getElem?_zip_eq_some.mp hj
       obtain ⟨o,k1,_⟩:=key j _ j1
       rw [List.getElem?_map,j1] at j2
       have j2:(h₁.get? p.1).getD default=p.2:=Option.some.inj j2
       rw [getD_of k1.1] at j2
       exact j2 ▸ k1
     · rw [zip_self] at hp
       exact HP₁.nw p (List.mem_append_left _ (inA p hp))
   · exact HP₁.nw p (List.mem_append_right _ (V.fz HP.dj p hp))
 · refine List.nodup_append.mpr ⟨HP.nd,hnd,fun a ha b hb e=>?_⟩
   obtain ⟨p,hp,rfl⟩:=List.mem_map.mp hb
   exact ndA _ (nA p hp) (e ▸ ha)
 · rcases List.mem_append.mp hm with q | q
   · exact HP.dj p hp q
   · obtain ⟨r,hr,e⟩:=List.mem_map.mp q
     exact HP₁.dj p (V.fz HP.dj p hp) (List.mem_append_right _ (e ▸ nA r hr))
 · rw [List.length_append,List.length_append,HP.ln,← hlen,hts.len]; simp
 · rw [List.length_map,HP.ln,hlen]
 · have hjr:j<ρ.length:=by rw [HP.ln,← hlen]; exact (List.getElem?_eq_some_iff.mp e1).1
   have e:=List.getElem?_eq_getElem hjr
   obtain ⟨o',k1,k2⟩:=key j _ e
   rw [List.getElem?_map,e] at e2
   have e2:(h₁.get? ρ[j]).getD default=o:=Option.some.inj e2
   rw [getD_of k1.1] at e2
   subst e2
   rcases hold j ao e1 with ⟨n1,n2⟩ | ⟨i,o,n1,n2,n3⟩
   · rcases k2 with ⟨_,k2⟩ | ⟨i,k2,_⟩
     · exact (All2.at' HP.or n2 k2).mono pre
     · exact absurd (List.mem_of_getElem? k2) n1
   · have:=HP₁.nw _ (List.mem_append_left _ (near i j _ o n1 e n2))
     cases this.1.symm.trans k1.1
     exact n3
end
end
section
set_option maxHeartbeats 400000
theorem soundJ {g:Gl} {T:Tab} (ok:TabOk g T) (m:Nat) (f:AV) (as:List AV) (ks:List (Str × AV)) (σ:AS) {v:AV} {σ':AS} (h:(Jx T m).call f as ks σ=.ok v σ'):CallP g m f as ks σ v σ':=by
 rw [Jx_eq] at h
 exact ((sound ok m).call f as ks σ).use h
theorem exsJ {g:Gl} {T:Tab} (ok:TabOk g T) {n:Nat} {x:Cx} (o:CxOk g x n) (hcv:x.cv=none) {sc:List (Str × NameKind)} (hsc:x.scope.names=sc) {e:List Stmt} {σ σ':AS} {f:Fl} (h:(Jx T n).exs sc e σ=.ok f σ') {ρ:List Addr} {s:Shared} {Q:Flow→Shared→Prop} (z:Sz σ'.ob) (H:HS x ρ σ s.heap)
   (hQ:∀ ρ' s' f',ρ <+: ρ'→HS x ρ' σ' s'.heap→Same s s'→FR ρ' f f'→Q f' s'):wpAny (model g.prog g.w) x.A (execs e x.env) Q EF s:=by
 subst hsc
 rw [Jx_eq] at h
 exact ((sound ok n).exs _ e σ).use h x o hcv rfl z ρ s Q H hQ
theorem exJ {g:Gl} {T:Tab} (ok:TabOk g T) {n:Nat} {x:Cx} (o:CxOk g x n) (hcv:x.cv=none) {sc:List (Str × NameKind)} (hsc:x.scope.names=sc) {e:Stmt} {σ σ':AS} {f:Fl} (h:(Jx T n).ex sc e σ=.ok f σ') {ρ:List Addr} {s:Shared} {Q:Flow→Shared→Prop} (z:Sz σ'.ob) (H:HS x ρ σ s.heap)
   (hQ:∀ ρ' s' f',ρ <+: ρ'→HS x ρ' σ' s'.heap→Same s s'→FR ρ' f f'→Q f' s'):wpAny (model g.prog g.w) x.A (exec e x.env) Q EF s:=by
 subst hsc
 rw [Jx_eq] at h
 exact ((sound ok n).ex _ e σ).use h x o hcv rfl z ρ s Q H hQ
theorem Sz.nil:Sz []:=fun l hl=>by cases hl
section
variable {g:Gl} {P:Params}
theorem sioE_any {ρ ρ':List Addr} {b:Str} {p:Int} {o:Obj} (h:OR ρ (sioE b p) o):OR ρ' (sioE b p) o:=OR.free (by rfl) h
theorem read_main (hK:g.K=KP P) {k:Nat} (hk:41 + k≤g.sl) {i d:Nat} {dn rest:List Nat} {σ:AS} {ao:AO} (hi:atI σ.hp i=some (.inst 592 d)) (hd:atI σ.hp d=some (.sio dn rest)) (hao:∀ ρ ρ' o,OR ρ' (after538 dn rest) o→OR ρ ao o) (n:Nat) :
   CallP g n (.top 538) [.obj i,.int 1] [] σ (hd538 rest) { σ with hp:=σ.hp.set d ao }:=by
 intro x o A' hA hh hd' hu z ρ s f' as' ks' m Q H vf vas vks hQ
 cases vks
 refine vrs2 vas fun v w hv hw e=>?_
 subst e
 obtain ⟨ad,ha,rfl⟩:=hv
 obtain ⟨os,F,HP,lr⟩:=H
 rw [atI_eq] at hi hd
 obtain ⟨ad',oi,h1,h2,hor,_⟩:=HP.get hi
 cases ha.symm.trans h1
 obtain ⟨dx,hdx,rfl⟩:=hor
 obtain ⟨dx',od,k1,k2,kor,_⟩:=HP.get hd
 cases hdx.symm.trans k1
 have hne:i ≠ d:=fun e=>by rw [e,hd] at hi; cases hi
 have V:Vw ρ os [i,d] [(ad,instObj 592 dx),(dx,od)]:=.cons ⟨h1,h2⟩ (.cons ⟨k1,k2⟩ .nil)
 refine soundJ (ok0 (g:=g.slk k) hK) 41 (.top 538) [.obj 0,.int 1] [] _ (view538 P dn rest) (x.fzd _) ((o.slk hk).wide (V.fz HP.dj)) A' hA hh (by show A'.depth + 41 + k<_; omega) (by show A'.units + 8 * (41 + k)<_; omega) Sz.nil _ s f' [.ref ad,w] [] m Q
   (view_in F HP V (by simp [hne]) LR.nil (.cons ⟨dx,rfl,rfl⟩ (.cons (sioE_any kor) .nil))) (VR.free rfl vf) (.cons ⟨ad,rfl,rfl⟩ (.cons (VR.free rfl hw) .nil)) .nil fun ρ₁ s₁ v₁ p₁ H₁ S₁ vr=>?_
 obtain ⟨A,os₁,B,rfl,hor,hl,_,_,back⟩:=view_out HP lr V p₁ H₁
 obtain ⟨o1,o2,rfl⟩:=len2 hl
 cases hor with
 | cons q1 hor =>
 cases hor with
 | cons q2 hor =>
 obtain ⟨dx2,hdx2,rfl⟩:=q1
 cases hdx2
 have b:=back [] (σ.hp.set d ao) [] σ.ob (fun _ h=>nomatch h) .nil (List.length_set ..) (fun j a e=>?_) .nil
 · rw [List.map_nil,List.append_nil,List.append_nil] at b
   exact hQ ρ s₁ v₁ (List.prefix_refl _) b S₁ (VR.free (by cases rest <;> rfl) vr)
 · by_cases hjd:j=d
   · rw [hjd,List.getElem?_set_self (List.getElem?_eq_some_iff.mp hd).1] at e
     cases e
     exact .inr ⟨1,o2,by rw [hjd]; rfl,rfl,hao _ _ _ q2⟩
   · rw [List.getElem?_set_ne (Ne.symm hjd)] at e
     by_cases hji:j=i
     · rw [hji] at e
       cases e.symm.trans hi
       exact .inr ⟨0,_,by rw [hji]; rfl,rfl,dx,pre_get ⟨_,rfl⟩ k1,rfl⟩
     · exact .inl ⟨by simp [hji,hjd],e⟩
theorem set_same {α:Type} {l:List α} {i:Nat} {a:α} (h:l[i]?=some a):l.set i a=l:=List.ext_getElem? fun j=>by
 by_cases hj:j=i
 · rw [hj,List.getElem?_set_self (List.getElem?_eq_some_iff.mp h).1,h]
 · rw [List.getElem?_set_ne (Ne.symm hj)]
theorem read_s (hK:g.K=KP P) {k:Nat} (hk:41 + k≤g.sl) {as:List AV} {ks:List (Str × AV)} {σ:AS}:TSat σ (pRead as ks σ) fun v σ'=>∀ n,CallP g n (.top 538) as ks σ v σ':=by
 rcases as with _ | ⟨a,_ | ⟨b,_ | _⟩⟩ <;> first | exact True.intro | (cases a <;> exact True.intro) | (cases a <;> first | exact True.intro | (cases b <;> first | exact True.intro | (rename_i k; cases k <;> first | exact True.intro | (rename_i k; rcases k with _ | _ | _ <;> exact True.intro)))) | skip
 cases a <;> first | exact True.intro | skip
 cases b <;> first | exact True.intro | skip
 rename_i i q
 cases q <;> first | exact True.intro | skip
 rename_i q
 rcases q with _ | _ | _ <;> first | exact True.intro | skip
 cases ks with
 | cons=>exact True.intro
 | nil =>
 rw [show pRead [.obj i,.int (.ofNat (0 + 1))] [] σ=rdA i σ by kernel_rfl]
 refine (?_:TSat σ (rdA i σ) fun v σ'=>∀ n,CallP g n (.top 538) [.obj i,.int 1] [] σ v σ')
 unfold rdA
 cases hi:atI σ.hp i with
 | none=>exact True.intro
 | some ao =>
 cases ao <;> first | exact True.intro | skip
 rename_i C d
 dsimp only
 cases hC:Nat.beq C 592 with
 | false=>exact True.intro
 | true =>
 rw [Nat.eq_of_beq_eq_true hC] at hi
 cases hd:atI σ.hp d with
 | none=>exact True.intro
 | some ao =>
 cases ao <;> first | exact True.intro | skip
 rename_i dn rest
 cases rest with
 | nil =>
   refine ⟨sfx_refl _,fun n=>?_⟩
   have c:=read_main hK hk hi hd (ao:=.sio dn []) (fun _ _ _ h=>sioE_any h) n
   rw [set_same (by rw [← atI_eq]; exact hd)] at c
   exact c
 | cons c r =>
   refine ⟨sfx_refl _,fun n=>?_⟩
   have c:=read_main hK hk hi hd (ao:=.sio (dn++[c]) r) (fun _ _ _ h=>sioE_any h) n
   rw [← setAt_eq] at c
   exact c
end
end
section
set_option maxHeartbeats 400000
noncomputable def tyN:Value→Bool
 | .type n=>n == "type"
 | _=>false
theorem tyN_eq {v:Value} (h:tyN v=true):v=.type "type" := by
 cases v <;> first | exact ceFT h | exact congrArg Value.type (eq_of_beq h)
noncomputable def clsTy (K:Frag) (a:Nat):Bool:=match K.lookup a with
 | some o=>tyN o.cls
 | .none=>false
noncomputable def cmpN (K:Frag) (op:CmpOp) (a b:AV) (_:AS):Option Bool:=match op with
 | .IsNot=>match a,b with
   | .top x,.top y=>(match Nat.beq x y with
     | true=>some false
     | false=>match clsTy K x&&clsTy K y with
       | true=>some true
       | false=>.none)
   | _,_=>.none
 | _=>.none
noncomputable def nmObject:Str:=⟨⟨[111,98,106,101,99,116]⟩⟩
noncomputable def nmNew:Str:=⟨⟨[95,95,110,101,119,95,95]⟩⟩
noncomputable def spcN (sc:List (Str × NameKind)) (e:Expr) (σ:AS):Option (R AV):=match e with
 | .Call (.Attribute (.Name d _) n ap) [.Name y _] [] p=>match sq d nmObject&&sq n nmNew&&(ap.endLine==p.line)&&isGlob sc d&&isLoc sc y&&!(sq y nmDebug) with
   | true=>(match look y σ.lo with
     | some (.top c)=>(match Nat.beq c 592 with
       | true=>some (.ok (.obj (σ.hp.length + 1)) { σ with hp:=σ.hp++[.dict [],.inst 592 σ.hp.length] })
       | false=>.none)
     | _=>.none)
   | false=>.none
 | _=>.none
noncomputable def globN:List (Str × AV):=[(S "BytesIO",.top 345),(S "StringIO",.top 592),(S "object",.bi .object)]
theorem globN_ok (P:Params):(globN.all fun p=>globChk (KP P) p.1 p.2)=true:=by kernel_rfl
noncomputable def TN (K:Frag):Tab:={ TG with cmp:=cmpN K,glob:=fun x=>look x globN,spc:=spcN }
section
variable {g:Gl} {P:Params}
theorem isNot_cls {M:Model} {A:Around} {E:Value→Shared→Prop} {s:Shared} {K:Frag} {x y:Nat} {Q:Value→Shared→Prop} (X:K.In s.heap) (hne:x ≠ y) (h:(clsTy K x&&clsTy K y)=true) (q:Q (.bool true) s):wpAny M A (compareOp .IsNot (.ref x) (.ref y)) Q E s:=by
 rw [Bool.and_eq_true] at h
 have key:∀ a,clsTy K a=true→∃ d dt sl,s.heap.get? a=some ⟨.type "type",d,dt,sl⟩:=by
   intro a
   unfold clsTy
   cases e:K.lookup a with
   | none=>exact fun h=>ceFT h
   | some o =>
     obtain ⟨c,d,dt,sl⟩:=o
     exact fun h=>⟨d,dt,sl,X _ _ (by rw [← tyN_eq h]; exact e)⟩
 obtain ⟨d1,t1,l1,h1⟩:=key x h.1
 obtain ⟨d2,t2,l2,h2⟩:=key y h.2
 show wpAny M A (isSame (.ref x) (.ref y) >>= fun r=>pure (Value.bool (!r))) Q E s
 unfold isSame
 refine wpAny_bind ?_
 dsimp only
 rw [if_neg (by simpa using hne)]
 exact wpAny_bind (wpAny_load h1 (wpAny_bind (wpAny_load h2 (wpAny_pure (wpAny_pure q)))))
theorem isNot_self {M:Model} {A:Around} {E:Value→Shared→Prop} {s:Shared} {x:Nat} {Q:Value→Shared→Prop} (q:Q (.bool false) s):wpAny M A (compareOp .IsNot (.ref x) (.ref x)) Q E s:=by
 show wpAny M A (isSame (.ref x) (.ref x) >>= fun r=>pure (Value.bool (!r))) Q E s
 unfold isSame
 refine wpAny_bind ?_
 dsimp only
 rw [if_pos (by simp)]
 exact wpAny_pure (wpAny_pure q)
noncomputable def runA {α:Type} (K:Frag):Nat→Sem α→Option (Obj × (Addr→Sem α))
 | 0,_=>.none
 | n + 1,t=>match t with
   | .rule _ k=>runA K n (k ())
   | .at _ k=>runA K n (k ())
   | .point _ k=>runA K n (k ())
   | .load a _ k=>match K.lookup a with
     | some o=>runA K n (k o)
     | .none=>.none
   | .alloc o k=>some (o,k)
   | _=>.none
theorem runA_s {α:Type} {K:Frag} {M:Model} {A:Around} {E:Value→Shared→Prop} {s:Shared} {Q:α→Shared→Prop} (X:K.In s.heap):∀ (n:Nat) (t:Sem α) (o:Obj) (g:Addr→Sem α),runA K n t=some (o,g)→wpAny M A (g s.heap.objs.size) Q E { s with heap:=s.heap.push o }→wpAny M A t Q E s
 | 0,_,_,_,h,_=>by cases h
 | n + 1,t,ob,g,h,q=>by
   cases t with
   | rule tag k=>exact fun Γ p hΓ=>runA_s X n (k ()) ob g h q Γ p hΓ
   | «at» pos k=>exact fun Γ p hΓ=>runA_s X n (k ()) ob g h q Γ pos hΓ
   | point l k=>exact fun Γ p hΓ=>runA_s X n (k ()) ob g h q Γ p hΓ
   | load a part k =>
     change (match K.lookup a with | some o=>runA K n (k o) | .none=>.none)=some (ob,g) at h
     cases e:K.lookup a with
     | none=>rw [e] at h; obtain ⟨⟩:=h
     | some o =>
       rw [e] at h
       exact wpAny_bind (m:=loadPart a part) (f:=k) (wpAny_loadPart (X _ _ e) (runA_s X n (k o) ob g h q))
   | alloc ob2 kk =>
     change some (ob2,kk)=some (ob,g) at h
     obtain ⟨⟩:=h
     exact wpAny_bind (m:=PySem.alloc ob) (f:=g) (wpAny_alloc q)
   | _=>cases h
noncomputable def gOf {α:Type} (o:Option (Obj × (Addr→Sem α))):Addr→Sem α:=match o with
 | some p=>p.2
 | .none=>fun _=>unsupported ""
theorem runG_s {α:Type} {K:Frag} {M:Model} {A:Around} {E:Value→Shared→Prop} {s:Shared} {Q:α→Shared→Prop} (X:K.In s.heap) (n:Nat) (t:Sem α) (o:Obj) (h:(runA K n t).map (·.1)=some o) (q:wpAny M A (gOf (runA K n t) s.heap.objs.size) Q E { s with heap:=s.heap.push o }):wpAny M A t Q E s:=by
 obtain ⟨p,hp,rfl⟩:=Option.map_eq_some_iff.mp h
 refine runA_s X n t p.1 p.2 hp ?_
 rw [hp] at q
 exact q
theorem call_objNew {prog:Program} {w:World} {A:Around} {E:Value→Shared→Prop} {s:Shared} {Q:Value→Shared→Prop} (X:(KP P).In s.heap)
   (hq:Q (.ref (s.heap.objs.size + 1)) { s with heap:=(s.heap.push emptyDict).push (instObj 592 s.heap.objs.size) }):wpAny (model prog w) A (call (.builtin "object.__new__") [.ref 592]) Q E s:=by
 have F:=PySem.F.objNew
 refine wpAny_call (codeAny_call_builtin_code (Code.quiet_builtin _ F.quiet) ?_)
 refine runK_s X 300 (checkBuiltinCall "object.__new__" ⟨[.ref 592],[]⟩) () (by kernel_rfl) ?_
 refine codeAny_builtin F.entry ?_
 refine runG_s X 600 (Builtin.«object.__new__» ⟨[.ref 592],[]⟩) emptyDict (by kernel_rfl) ?_
 have X1:(KP P).In (s.heap.push emptyDict):=fun a o e=>Heap.get?_push_of_some _ (X a o e)
 refine runG_s (s:={ s with heap:=s.heap.push emptyDict }) X1 600 _ (instObj 592 s.heap.objs.size) (by kernel_rfl) ?_
 have X2:(KP P).In ((s.heap.push emptyDict).push (instObj 592 s.heap.objs.size)):=fun a o e=>Heap.get?_push_of_some _ (X1 a o e)
 refine runK_s (s:={ s with heap:=(s.heap.push emptyDict).push (instObj 592 s.heap.objs.size) }) X2 600 _ (.done (.ret (.ref (s.heap.push emptyDict).objs.size))) (by kernel_rfl) ?_
 rw [Heap.size_push]
 exact hq
end
end
section
set_option maxHeartbeats 400000
noncomputable def TGl (gl:List (Str × AV)):Tab where
 bin:=fun _ _ _ _=>.none
 cmp:=fun _ _ _ _=>.none
 bic:=fun _ _ _=>.none
 mbi:=fun _ _ _=>.none
 sub:=fun _ _ _=>.none
 slc:=fun _ _ _ _=>.none
 fn:=fun _=>.none
 cls:=fun _ _=>.none
 glob:=fun x=>look x gl
 prim:=fun _ _ _ _=>.none
 make:=fun _=>.none
 tup:=fun _=>.none
 spc:=fun _ _ _=>.none
 turns:=0
section
variable {g:Gl} {P:Params}
theorem okGl {gl:List (Str × AV)} (hgl:(gl.all fun p=>globChk g.K p.1 p.2)=true):TabOk g (TGl gl) where
 bin:=fun _ _ _ _=>True.intro
 cmp:=fun _ _ _ _=>True.intro
 bic:=fun _ _ _=>True.intro
 mbi:=fun _ _ _=>True.intro
 sub:=fun _ _ _=>True.intro
 slc:=fun _ _ _ _=>True.intro
 fn:=fun _ _ h=>nomatch h
 cls:=fun _ _ _ h=>nomatch h
 glob:=fun _ _ h=>globTab_ok hgl h
 prim:=fun _ _ _ _=>True.intro
 make:=fun _ _ h=>nomatch h
 tup:=fun _ _ h=>nomatch h
 spc:=fun _ _ _=>True.intro
theorem on_find (P:Params):findCls (KP P) (.type "object") (.type "type") (Str.ofString "__new__")=some (.val (.builtin "object.__new__")):=by kernel_rfl
theorem spcN_s (hK:g.K=KP P) {sc:List (Str × NameKind)} {e:Expr} {σ:AS}:TSat σ (spcN sc e σ) (EvP g 1 sc σ e):=by
 cases e <;> first | exact True.intro | skip
 rename_i f as ks p
 cases f <;> first | exact True.intro | skip
 rename_i o n ap
 cases o <;> first | exact True.intro | skip
 rename_i d q1
 rcases as with _ | ⟨a,_ | _⟩ <;> first | exact True.intro | (cases a <;> exact True.intro) | skip
 cases a <;> first | exact True.intro | skip
 rename_i y q2
 cases ks with
 | cons=>exact True.intro
 | nil =>
 unfold spcN
 dsimp only
 cases hc:sq d nmObject&&sq n nmNew&&(ap.endLine==p.line)&&isGlob sc d&&isLoc sc y&&!(sq y nmDebug) with
 | false=>exact True.intro
 | true =>
 dsimp only
 cases hl:look y σ.lo with
 | none=>exact True.intro
 | some w =>
 cases w <;> first | exact True.intro | skip
 rename_i c
 dsimp only
 cases hb:Nat.beq c 592 with
 | false=>exact True.intro
 | true =>
 rw [Nat.eq_of_beq_eq_true hb] at hl
 simp only [Bool.and_eq_true,Bool.not_eq_true'] at hc
 obtain ⟨⟨⟨⟨⟨c1,c2⟩,c3⟩,c4⟩,c5⟩,hyd⟩:=hc
 have e1:d=Str.ofString "object" := (sq_iff _ _).mp c1
 have e2:n=Str.ofString "__new__" := (sq_iff _ _).mp c2
 subst e1 e2
 refine ⟨sfx_refl _,fun x o hsc z ρ s Q H hQ=>?_⟩
 subst hsc
 have hg:=isGlob_is c4
 have hy:=isLoc_is c5
 have X:(KP P).In x.h₀:=hK ▸ o.X
 have okN:TabOk g (TGl globN):=okGl (hK ▸ globN_ok P)
 rw [arm_eval_Call,show (∀ whole,attributeBase (.Name (Str.ofString "object") q1) (Str.ofString "__new__") x.cur whole=whole) from fun _=>rfl]
 refine wpAny_bind (glb_ev okN o (v:=.bi .object) (by decide +kernel) hg (by kernel_rfl) H fun v' H₁ vr=>?_)
 cases vr
 refine wpAny_bind (wpAny_standAt ?_)
 rw [methodCall_plain (kes:=[]) (by show 1<15; omega) rfl rfl c3]
 obtain ⟨m,os,F,HP,lr⟩:=id H₁
 have m1:typeOf (.type "object")=pure (.type "type"):=by kernel_rfl
 have m2:Manifest.isStub "object" = false:=by decide +kernel
 have m3:handedIn (.builtin "object.__new__")=true:=by decide +kernel
 refine wpAny_bind (wpAny_holding (method_type (K:=KP P) (T := "object") (v:=.builtin "object.__new__") F X m1 m2 (on_find P) m3 ?_))
 show wpAny _ _ (callWith p (.builtin "object.__new__") [] _ _) _ _ _
 refine callWith_builtin (starEach_plain rfl) ?_
 have H2:HS x ρ σ s.heap:=H₁
 refine argsK_s (ks:=[]) o rfl rfl (arg1_s hyd hy hl) (sfx_refl _) kw0_s z ρ { s with toks:=s.toks + 1 } _ H2 fun ρ₁ s₁ a p₁ H₃ S₁ ar=>?_
 obtain ⟨vs',ws'⟩:=a
 obtain ⟨vrs,krs⟩:=ar
 have krs:KRs ρ₁ [] ws':=krs
 have vrs:VRs ρ₁ [.top 592] vs':=vrs
 cases krs
 cases vrs with
 | cons hv hn =>
 cases hn
 cases hv
 obtain ⟨m₃,os₃,F₃,HP₃,lr₃⟩:=id H₃
 refine call_objNew (X.keeps F₃.keep) ?_
 have F4:=(F₃.push emptyDict).push (instObj 592 s₁.heap.objs.size)
 have N4:=(HP₃.nw.push F₃ emptyDict).push (F₃.push _) (instObj 592 s₁.heap.objs.size)
 rw [Heap.size_push] at N4
 have off:∀ b:Addr,s₁.heap.objs.size≤b→b ∉ ρ₁:=fun b hb=>HP₃.fresh hb
 have nm:∀ p∈x.fz,p.1<s₁.heap.objs.size:=fun p hp=>Heap.lt_size (HP₃.nw p (List.mem_append_right _ hp)).1
 have HP5:=HpR.adopt (h:=s₁.heap) (h':=(s₁.heap.push emptyDict).push (instObj 592 s₁.heap.objs.size)) (a:=s₁.heap.objs.size) (ao:=.dict []) (o:=emptyDict) ⟨fun p hp=>N4 p (.tail _ (.tail _ hp)) |> fun q=>⟨HP₃.nw p hp |>.1,q.2⟩,HP₃.nd,HP₃.dj,HP₃.ln,HP₃.or⟩ (fun p hp=>N4 p (.tail _ hp)) (off _ (Nat.le_refl _)) (fun p hp e=>absurd (e ▸ nm p hp) (Nat.lt_irrefl _)) ⟨[],0,rfl,.nil⟩
 have hdx:(ρ₁++[s₁.heap.objs.size])[σ.hp.length]?=some s₁.heap.objs.size:=by rw [← HP₃.ln,List.getElem?_append_right (Nat.le_refl _)]; simp
 have HP6:=HpR.adopt (h:=(s₁.heap.push emptyDict).push (instObj 592 s₁.heap.objs.size)) HP5 (a:=s₁.heap.objs.size + 1) (ao:=.inst 592 σ.hp.length) (o:=instObj 592 s₁.heap.objs.size) (h':=(s₁.heap.push emptyDict).push (instObj 592 s₁.heap.objs.size)) (fun p hp=>by
   rcases List.mem_cons.mp hp with rfl | hp
   · exact N4 _ (.head _)
   · exact HP5.nw p hp) (by
   rw [List.mem_append,not_or]
   exact ⟨off _ (Nat.le_succ _),by simp⟩) (fun p hp e=>by have q:=nm p hp; rw [e] at q; exact absurd q (Nat.not_lt.mpr (Nat.le_succ _))) ⟨_,hdx,rfl⟩
 have e1:(ρ₁++[s₁.heap.objs.size])++[s₁.heap.objs.size + 1]=ρ₁++[s₁.heap.objs.size,s₁.heap.objs.size + 1]:=by simp
 have e2:(σ.hp++[AO.dict []])++[AO.inst 592 σ.hp.length]=σ.hp++[AO.dict [],AO.inst 592 σ.hp.length]:=by simp
 rw [e1,e2] at HP6
 refine hQ (ρ₁++[s₁.heap.objs.size,s₁.heap.objs.size + 1]) _ _ (p₁.trans ⟨_,rfl⟩) ⟨m₃,_,F4,HP6,lr₃.mono ⟨_,rfl⟩⟩ ⟨S₁.1,S₁.2.1,S₁.2.2⟩ ⟨s₁.heap.objs.size + 1,?_,rfl⟩
 rw [← HP₃.ln,List.getElem?_append_right (Nat.le_succ _)]
 simp
theorem cmpN_s (hK:g.K=KP P) {op:CmpOp} {a b:AV} {σ:AS}:OSat (cmpN (KP P) op a b σ) (CmpP g σ op a b):=by
 cases op <;> first | exact True.intro | skip
 cases a <;> first | exact True.intro | skip
 cases b <;> first | exact True.intro | skip
 rename_i c d
 unfold cmpN
 dsimp only
 cases hb:Nat.beq c d with
 | true =>
   refine fun x o z ρ s a' b' Q H va vb hQ=>?_
   cases va
   cases vb
   rw [Nat.eq_of_beq_eq_true hb]
   exact isNot_self (hQ ρ s (List.prefix_refl _) H Same.rfl)
 | false =>
 dsimp only
 cases hc:clsTy (KP P) c&&clsTy (KP P) d with
 | false=>exact True.intro
 | true =>
   refine fun x o z ρ s a' b' Q H va vb hQ=>?_
   cases va
   cases vb
   exact isNot_cls (hK ▸ o.top H) (Nat.ne_of_beq_eq_false hb) hc (hQ ρ s (List.prefix_refl _) H Same.rfl)
theorem okN (hK:g.K=KP P):TabOk g (TN (KP P)) where
 bin:=fun _ _ _ _=>True.intro
 cmp:=fun _ _ _ _=>cmpN_s hK
 bic:=fun _ _ _=>True.intro
 mbi:=fun _ _ _=>True.intro
 sub:=fun _ _ _=>True.intro
 slc:=fun _ _ _ _=>True.intro
 fn:=fun _ _ h=>nomatch h
 cls:=fun _ _ _ h=>nomatch h
 glob:=fun _ _ h=>globTab_ok (hK ▸ globN_ok P) h
 prim:=fun _ _ _ _=>True.intro
 make:=fun _ _ h=>nomatch h
 tup:=fun _ _ h=>nomatch h
 spc:=fun _ _ _=>spcN_s hK
theorem body85 (P:Params):(Jx (TN (KP P)) 20).exs (FD (KP P) 85).scope.names (bodyK (KP P) 85) ⟨[(S "cls",.top 592)],[],[]⟩=.ok (.ret (.obj 1)) ⟨[(S "cls",.top 592)],[.dict [],.inst 592 0],[]⟩:=by kernel_rfl
end
end
section
set_option maxHeartbeats 400000
section
variable {g:Gl} {P:Params}
theorem tc_find (P:Params):findCls (KP P) (.ref 592) (.type "type") (Str.ofString "__new__")=some (.get (.builtin "staticmethod.__get__") (.ref 89) .none (.ref 592)):=by kernel_rfl
theorem chk85 (P:Params):FnChk (KP P) 85:=⟨by kernel_rfl,by kernel_rfl⟩
theorem init362 (P:Params) (y:Str):(Jx (T0 P) 41).call (.top 362) [.obj 1,.str y] [] ⟨[],[.dict [],.inst 592 0],[]⟩=.ok .none ⟨[],[sioE y 0,.inst 592 0],[]⟩:=by kernel_rfl
noncomputable abbrev S85 (g:Gl):Setting:=⟨g.prog,g.w.params⟩
theorem names85 (P:Params):([S "cls",S "args",S "kwargs"].all fun n=>(FD (KP P) 85).scope.names.lookup n==some .local)=true:=by kernel_rfl
theorem nocell85 (P:Params):((FD (KP P) 85).scope.names.all fun p=>!(p.2==.cell))=true:=by kernel_rfl
theorem new85 (hK:g.K=KP P) {x:Cx} {n:Nat} (o:CxOk g x n) {A':Around} (hA:A'.frames=some (x.env::x.outer)) (hh:A'.handled=none) (hd:A'.depth + 22<recursionLimit) (hu:A'.units + 180<cLine) {s:Shared} {m:Str→Option Value} {news:List (Addr × Obj)} (F:Fr x.h₀ x.L s.heap (x.fm m)) (N:News x.h₀ x.L s.heap news) {y:Str} {t:Tok} {R:Result→Shared→Prop}
   (hQ:∀ s' X dx od,Fr x.h₀ x.L s'.heap (x.fm m)→News x.h₀ x.L s'.heap ((X,instObj 592 dx)::(dx,od)::news)→OR [] (.dict []) od→X ≠ dx→(∀ p∈news,p.1 ≠ X∧p.1 ≠ dx)→Same s s'→R (.ok (.ret (.ref X))) s') :
   codeAny (model g.prog g.w) A' (.call (.ref 85) ⟨[.ref 592,.str y t],[]⟩) R s:=by
 have X:(KP P).In x.h₀:=hK ▸ o.X
 have r:=(chk85 P).rest
 simp only [Bool.and_eq_true,Bool.not_eq_true',beq_iff_eq] at r
 obtain ⟨⟨⟨⟨⟨r1,r2⟩,r3⟩,r4⟩,r5⟩,r6⟩:=r
 have nc:∀ y∈(FD (KP P) 85).scope.names,y.2 ≠ .cell:=fun y hy e=>by
   have:=List.all_eq_true.mp (nocell85 P) y hy
   rw [e] at this
   exact absurd this (by decide)
 refine kp_both (vs:=[.str y t]) (nm:=S "kwargs") (nr:=S "args") (ex:=[]) (front:=[(S "cls",.ref 592)]) (DD:=[]) (g₁:=gOf (peekA (KP P) (S85 g) (bindArgs (fnOfK (KP P) 85) ⟨[.ref 592,.str y t],[]⟩)))
   (g₂:=fun D=>gOf (peekA (KP P) (S85 g) (gOf (peekA (KP P) (S85 g) (bindArgs (fnOfK (KP P) 85) ⟨[.ref 592,.str y t],[]⟩)) D)))
   o.B F X N o.T hA rfl o.kd (chk85 P).at_ r1 (by omega) (by kernel_rfl) (by kernel_rfl) (by kernel_rfl) (by kernel_rfl) (by kernel_rfl) .nil (by kernel_rfl) (by kernel_rfl) (fun D=>by kernel_rfl) (fun C D=>by kernel_rfl) (fun C D y hy=>?_) ?_ r3 r4 r2 nc
 · have key:∀ n∈[S "cls",S "args",S "kwargs"],(FD (KP P) 85).scope.names.lookup n=some .local:=fun n hn=>beq_iff_eq.mp (List.all_eq_true.mp (names85 P) n hn)
   rcases List.mem_append.mp hy with hy | hy
   · rcases List.mem_append.mp hy with hy | hy
     · rw [List.mem_singleton.mp hy]; exact key _ (by simp)
     · rw [List.mem_singleton.mp hy]; exact key _ (by simp)
   · rw [List.mem_singleton.mp hy]; exact key _ (by simp)
 · intro C D o2 gg L' h₁ tk lt1 lt2 hnm hdo hfp FG F' N' B' X' T'
   have o':CxOk (g.slk 0) ⟨A',x.base,x.env::x.outer,gg,L',(FD (KP P) 85).qualname,(FD (KP P) 85).scope,85,(FD (KP P) 85).code,[],news,none⟩ 20:=by
     refine ⟨B',by show g.K.In gg; rw [hK]; exact X',T',r2,hh,r2,fun _=>rfl,fun y=>⟨(fun hy=>by cases hy),fun hy=>?_⟩,(fun c hc=>by cases hc),by show A'.depth + 1 + 20 + 0<_; omega,by show A'.units + 3 + 8 * (20 + 0)<_; omega,fun b o' e=>FG.keep b o' (o.EX b o' e)⟩
     have hy:look y (FD (KP P) 85).scope.names=some .cell:=hy
     exact absurd rfl (nc _ (look_mem hy))
   have HS':HS ⟨A',x.base,x.env::x.outer,gg,L',(FD (KP P) 85).qualname,(FD (KP P) 85).scope,85,(FD (KP P) 85).code,[],news,none⟩ [] ⟨[(S "cls",.top 592)],[],[]⟩ h₁:=by
     refine ⟨_,[],F',⟨fun p hp=>N' p (.tail _ (.tail _ hp)),List.nodup_nil,(fun _ _ h=>by cases h),rfl,.nil⟩,fun z w hw=>?_⟩
     rw [look_c] at hw
     revert hw
     cases e:sq (S "cls") z with
     | true=>intro hw; cases hw; rw [← (sq_iff _ _).mp e]; exact ⟨.ref 592,by kernel_rfl,rfl⟩
     | false=>exact fun hw=>ceNS hw
   refine wpAny_mono (exsJ (okN (g:=g.slk 0) hK) o' rfl (sc:=(FD (KP P) 85).scope.names) rfl (body85 P) (s:={ s with heap:=h₁,toks:=tk }) (Q:=fun fl s'=>LeaveK x.h₀ x.L (x.fm m) gg R (match fl with | .ret v=>v | _=>.none) s') Sz.nil HS' fun ρ₁ s₁ f₁ p₁ H₁ S₁ fr=>?_) (fun _ _ y=>y) fun _ _ y=>y.elim
   obtain ⟨m₁,os₁,F₁,HP₁,l₁⟩:=H₁
   refine ⟨L',m₁,_,F₁,HP₁.nw,fun F₂ N₂=>?_⟩
   obtain ⟨v',rfl,ad,had,rfl⟩:=fr
   have hln:=HP₁.ln
   have hor:=HP₁.or
   have hnd:=HP₁.nd
   have hdj:=HP₁.dj
   cases hor with
   | cons q1 hor =>
   cases hor with
   | cons q2 hor =>
   cases hor
   rename_i od oi
   rcases ρ₁ with _ | ⟨dx,_ | ⟨X1,_ | ⟨_,_⟩⟩⟩
   · simp at hln
   · simp at hln
   · obtain ⟨dx2,hdx2,rfl⟩:=q2
     cases hdx2
     have had:X1=ad:=Option.some.inj had
     subst had
     rw [List.nodup_cons] at hnd
     refine hQ s₁ X1 dx od F₂ (fun p hp=>?_) (q1.free rfl) (fun e=>hnd.1 (by rw [e]; exact .head _)) (fun p hp=>⟨fun e=>hdj p hp (by rw [e]; exact .tail _ (.head _)),fun e=>hdj p hp (by rw [e]; exact .head _)⟩) (Same.of.trans S₁)
     rcases List.mem_cons.mp hp with rfl | hp
     · exact N₂ _ (.tail _ (.head _))
     · rcases List.mem_cons.mp hp with rfl | hp
       · exact N₂ _ (.head _)
       · exact N₂ _ (.tail _ (.tail _ hp))
   · simp at hln
theorem sio_s (hK:g.K=KP P) {k:Nat} (hk:45 + k≤g.sl) {as:List AV} {ks:List (Str × AV)} {σ:AS}:TSat σ (pSio as ks σ) fun v σ'=>∀ n,CallP g n (.top 592) as ks σ v σ':=by
 rcases as with _ | ⟨a,_ | _⟩ <;> first | exact True.intro | (cases a <;> exact True.intro) | skip
 cases a <;> first | exact True.intro | skip
 rename_i y
 cases ks with
 | cons=>exact True.intro
 | nil =>
 refine ⟨sfx_refl _,fun n x o A' hA hh hd hu z ρ s f' as' ks' m Q H vf vas vks hQ=>?_⟩
 cases vf
 cases vks
 refine vrs1 vas fun v hv e=>?_
 subst e
 obtain ⟨⟨t,rfl⟩,hlen⟩:=hv
 obtain ⟨os,F,HP,lr⟩:=id H
 have X:(KP P).In s.heap:=hK ▸ o.X.keeps F.keep
 refine codeAny_of_tree ?_
 show wpAny _ _ (callAny (.ref 592) ⟨[.str y t],[]⟩) _ _ _
 refine runK_s X 300 _ (.again (.call (.builtin "type.__call__") ⟨[.ref 592,.str y t],[]⟩)) (by kernel_rfl) ⟨rfl,?_⟩
 refine codeAny_call_builtin_code (Code.quiet_builtin _ (by decide +kernel)) ?_
 refine runK_s X 300 (checkBuiltinCall "type.__call__" ⟨[.ref 592,.str y t],[]⟩) () (by kernel_rfl) ?_
 refine codeAny_builtin entry_typeCall ?_
 unfold Builtin.«type.__call__»
 dsimp only
 rw [if_neg (by decide +kernel)]
 refine wpAny_bind (runK_s X 300 (mroOf (.ref 592)) [.ref 592,.ref 115,.ref 88,.type "object"] (by kernel_rfl) ?_)
 rw [if_neg (by decide)]
 refine wpAny_bind (runK_s X 300 (Bind.madeBy (.ref 592)) none (by kernel_rfl) ?_)
 dsimp only
 have q1:recIn (KP P) 89 "staticmethod" = some (.ref 85::((recIn (KP P) 89 "staticmethod").getD []).tail):=by kernel_rfl
 have q2:typeIn (KP P) (.ref 592)=some (.type "type"):=by kernel_rfl
 have q3:readsIn (KP P) 592 (.type "type")=true:=by kernel_rfl
 refine wpAny_bind (cls_sm (K:=KP P) F (hK ▸ o.X) q2 q3 (tc_find P) q1 rfl ?_)
 obtain ⟨u1,u2,u3,u4⟩:=under_tc A' 592 [.str y t] []
 have u5:=tc_units ⟨[.ref 592,.str y t],[]⟩
 refine wpAny_bind (wpAny_holding (wpAny_call (new85 (s:={ s with toks:=s.toks + 1 }) hK o (u1.trans hA) (u2.trans hh) (by rw [u3]; omega) (by rw [u4]; omega) F HP.nw fun s₁ X1 dx od F₁ N₁ hod hne hap S₁=>?_)))
 · have I:=InstAt.of_news N₁ (.head _) (.tail _ (.head _))
   have XX:(KP P).In s₁.heap:=hK ▸ o.X.keeps F₁.keep
   refine wpAny_bind ?_
   unfold isInstance
   refine wpAny_bind (I.type.here (runK_s XX 300 (isSubtype (.ref 592) (.ref 592)) true (by kernel_rfl) ?_))
   rw [if_neg (by decide)]
   refine wpAny_bind (wpAny_holding (special_fn (f:=362) XX I (by kernel_rfl) (by kernel_rfl) ?_))
   have H2:HSm (x.fzd (ρ.zip os++x.fz)) [dx,X1] ⟨[],[.dict [],.inst 592 0],[]⟩ s₁.heap m:=by
     refine ⟨[od,instObj 592 dx],F₁,⟨fun p hp=>?_,?_,fun p hp hm=>?_,rfl,.cons (hod.free rfl) (.cons ⟨dx,rfl,rfl⟩ .nil)⟩,fun y a e=>by cases e⟩
     · rcases List.mem_append.mp hp with q | q
       · rcases List.mem_cons.mp q with rfl | q
         · exact N₁ _ (.tail _ (.head _))
         · rcases List.mem_cons.mp q with rfl | q
           · exact N₁ _ (.head _)
           · cases q
       · exact N₁ _ (.tail _ (.tail _ q))
     · simp [Ne.symm hne]
     · rcases List.mem_cons.mp hm with q | q
       · exact (hap p hp).2 q
       · rcases List.mem_cons.mp q with q | q
         · exact (hap p hp).1 q
         · cases q
   have c:=soundJ (ok0 (g:=g.slk k) hK) 41 (.top 362) [.obj 1,.str y] [] _ (init362 P y)
   refine wpAny_call (codeAny_mono (c (x.fzd (ρ.zip os++x.fz)) ((o.slk (by omega)).wide fun p hp=>List.mem_append_right _ hp) _ (u1.trans hA) (u2.trans hh) (by rw [u3]; show A'.depth + 1 + 41 + k<_; omega) (by rw [u4]; show _ + 8 * (41 + k)<_; omega) Sz.nil [dx,X1] s₁ (.ref 362) [.ref X1,.str y t] [] m (fun v s'=>v=.none∧Q (.ref X1) s') H2 rfl (.cons ⟨X1,rfl,rfl⟩ (.cons ⟨⟨t,rfl⟩,hlen⟩ .nil)) .nil fun ρ₃ s₃ v₃ p₃ H₃ S₃ vr=>?_) fun r s' hr=>?_)
   · cases vr
     refine ⟨rfl,?_⟩
     obtain ⟨os₃,F₃,HP₃,_⟩:=H₃
     have e1:ρ₃=[dx,X1]:=by
       obtain ⟨w,rfl⟩:=p₃
       have:=HP₃.ln
       simp at this
       rw [this,List.append_nil]
     subst e1
     have hor:=HP₃.or
     cases hor with
     | cons q1 hor =>
     cases hor with
     | cons q2 hor =>
     cases hor
     rename_i od' oi
     obtain ⟨dx2,hdx2,rfl⟩:=q2
     cases hdx2
     have off:∀ i a,ρ[i]?=some a→a ≠ X1∧a ≠ dx:=fun i a hi=>by
       have hl:i<os.length:=HP.olen ▸ (List.getElem?_eq_some_iff.mp hi).1
       exact hap (a,os[i]) (zip_mem hi (List.getElem?_eq_getElem hl))
     have HPb:HpR x.h₀ x.L x.fz ρ σ.hp s₃.heap os:=⟨fun p hp=>HP₃.nw p (List.mem_append_right _ hp),HP.nd,HP.dj,HP.ln,HP.or⟩
     have HP5:=HpR.adopt (h:=s₃.heap) (h':=s₃.heap) (a:=dx) (ao:=.sio [] y.cps.toList) (o:=od') HPb (fun p hp=>by
       rcases List.mem_cons.mp hp with rfl | hp
       · exact HP₃.nw _ (List.mem_append_left _ (.head _))
       · exact HPb.nw p hp) (fun hm=>by obtain ⟨i,hi⟩:=List.getElem?_of_mem hm; exact (off i _ hi).2 rfl) (fun p hp=>(hap p (List.mem_append_right _ hp)).2) (sioE_any q1)
     have hdx:(ρ++[dx])[σ.hp.length]?=some dx:=by rw [← HP.ln,List.getElem?_append_right (Nat.le_refl _)]; simp
     have HP6:=HpR.adopt (h:=s₃.heap) HP5 (a:=X1) (ao:=.inst 592 σ.hp.length) (o:=instObj 592 dx) (h':=s₃.heap) (fun p hp=>by
       rcases List.mem_cons.mp hp with rfl | hp
       · exact HP₃.nw _ (List.mem_append_left _ (.tail _ (.head _)))
       · exact HP5.nw p hp) (by
       rw [List.mem_append,not_or]
       exact ⟨fun hm=>by obtain ⟨i,hi⟩:=List.getElem?_of_mem hm; exact (off i _ hi).1 rfl,by simp [hne]⟩) (fun p hp=>(hap p (List.mem_append_right _ hp)).1) ⟨_,hdx,rfl⟩
     have e1:(ρ++[dx])++[X1]=ρ++[dx,X1]:=by simp
     have e2:(σ.hp++[AO.sio [] y.cps.toList])++[AO.inst 592 σ.hp.length]=σ.hp++[AO.sio [] y.cps.toList,AO.inst 592 σ.hp.length]:=by simp
     rw [e1,e2] at HP6
     refine hQ (ρ++[dx,X1]) s₃ _ ⟨_,rfl⟩ ⟨_,F₃,HP6,lr.mono ⟨_,rfl⟩⟩ ((Same.of.trans S₁).trans S₃) ⟨X1,?_,rfl⟩
     rw [← HP.ln,List.getElem?_append_right (Nat.le_succ _)]
     simp
   · obtain ⟨v,rfl,rfl,hq⟩:=RQ_to hr
     dsimp only
     rw [if_neg (by decide)]
     exact wpAny_pure hq
end
end
section
set_option maxHeartbeats 400000
noncomputable def b921 (P:Params):List Stmt:=bodyK (KP P) 921
noncomputable def s921 (P:Params):List (Str × NameKind):=(FD (KP P) 921).scope.names
noncomputable def forB (e:Stmt):List Stmt:=frB e
noncomputable def forI (e:Stmt):Expr:=frI e
noncomputable def forT (e:Stmt):Expr:=frT e
noncomputable def forP (e:Stmt):Pos:=e.pos
noncomputable def f921 (P:Params):Stmt:=nthS (b921 P) 2
noncomputable def lo921 (nm:Str) (D:Nat):List (Str × AV):=[(S "self",.obj 0),(S "_name",.str nm),(S "_value",.none),(S "_params",.top D)]
noncomputable def lo921b (nm:Str) (D:Nat):List (Str × AV):=[(S "self",.obj 0),(S "_name",.str nm),(S "_value",.none),(S "_params",.top D),(S "parts",.obj 3)]
noncomputable def lo921c (nm:Str) (D:Nat) (v:Str):List (Str × AV):=[(S "self",.obj 0),(S "_name",.str nm),(S "_value",.none),(S "_params",.top D),(S "parts",.obj 3),(S "k",.str strM),(S "v",.str v)]
noncomputable def hdrV (xs:List AV):List AO:=[.inst 924 1,.dict [(nmHeaders,.obj 2)],.list xs]
noncomputable def txtM (v:Str):Str:=strM++coB++v++coQ
section
variable (P:Params) (nm v:Str) (D:Nat) (xs:List AV) (c0 c1 c2 c3 c4 c5 c6 c7 c8 c9:Nat)
theorem b921_eq:b921 P=nthS (b921 P) 0::nthS (b921 P) 1::.For (forT (f921 P)) (forI (f921 P)) (forB (f921 P)) [] (forP (f921 P))::(b921 P).drop 3:=by kernel_rfl
theorem a_p0:(Jx (T0 P) 50).ex (s921 P) (nthS (b921 P) 0) ⟨lo921 nm D,hdrV xs,[]⟩=.ok .next ⟨lo921b nm D,hdrV xs++[.list []],[]⟩:=by kernel_rfl
theorem a_p1:(Jx (T0 P) 50).ex (s921 P) (nthS (b921 P) 1) ⟨lo921b nm D,hdrV xs++[.list []],[]⟩=.ok .next ⟨lo921b nm D,hdrV xs++[.list []],[]⟩:=by kernel_rfl
theorem a_asg:asgA (T0 P) (s921 P) (forT (f921 P)) (.many [.str strM,.str v]) ⟨lo921b nm D,hdrV xs++[.list []],[]⟩=some ⟨lo921c nm D v,hdrV xs++[.list []],[]⟩:=by kernel_rfl
noncomputable def ob1 (v:Str):List Nat:=addOb (chk (noOcc v ⟨⟨[34]⟩⟩)) (addOb (chk (noOcc v ⟨⟨[92]⟩⟩)) (addOb (chk (prn v)) []))
noncomputable def v10 (c0 c1 c2 c3 c4 c5 c6 c7 c8 c9:Nat):Str:=⟨⟨[c0,c1,c2,c3,c4,c5,c6,c7,c8,c9]⟩⟩
theorem a_body:(Jx (T0 P) 50).exs (s921 P) (forB (f921 P)) ⟨lo921c nm D (v10 c0 c1 c2 c3 c4 c5 c6 c7 c8 c9),hdrV xs++[.list []],[]⟩=.ok .next ⟨lo921c nm D (v10 c0 c1 c2 c3 c4 c5 c6 c7 c8 c9),hdrV xs++[.list [.str (txtM (v10 c0 c1 c2 c3 c4 c5 c6 c7 c8 c9))]],ob1 (v10 c0 c1 c2 c3 c4 c5 c6 c7 c8 c9)⟩:=by kernel_rfl
theorem a_post (ob:List Nat):(Jx (T0 P) 50).exs (s921 P) ((b921 P).drop 3) ⟨lo921c nm D (v10 c0 c1 c2 c3 c4 c5 c6 c7 c8 c9),hdrV xs++[.list [.str (txtM (v10 c0 c1 c2 c3 c4 c5 c6 c7 c8 c9))]],ob⟩=.ok .next ⟨lo921c nm D (v10 c0 c1 c2 c3 c4 c5 c6 c7 c8 c9),[.inst 924 1,.dict [(nmHeaders,.obj 2)],.list (xs++[.obj 4]),.list [.str (txtM (v10 c0 c1 c2 c3 c4 c5 c6 c7 c8 c9))],.tup [.str nm,.str (txtM (v10 c0 c1 c2 c3 c4 c5 c6 c7 c8 c9))]],addOb xs.length (addOb (chk (prn nm)) ob)⟩:=by kernel_rfl
end
end
section
set_option maxHeartbeats 400000
noncomputable def itQ (e:Expr):Pos:=(attO (clF e)).pos
noncomputable def itA (e:Expr):Pos:=(clF e).pos
noncomputable def itP (e:Expr):Pos:=e.pos
noncomputable def tuE (e:Expr):List Expr:=kE e
noncomputable def tuP (e:Expr):Pos:=e.pos
theorem f921_iter (P:Params):forI (f921 P)=.Call (.Attribute (.Name (S "_params") (itQ (forI (f921 P)))) (S "items") (itA (forI (f921 P)))) [] [] (itP (forI (f921 P))):=by kernel_rfl
theorem f921_line (P:Params):((itA (forI (f921 P))).endLine==(itP (forI (f921 P))).line)=true:=by kernel_rfl
noncomputable def tuC:Expr→Nat | .Tuple _ c _=>c | _=>0
theorem f921_tgt (P:Params):forT (f921 P)=.Tuple (tuE (forT (f921 P))) (tuC (forT (f921 P))) (tuP (forT (f921 P))):=by kernel_rfl
section
variable {g:Gl} {P:Params}
noncomputable def itD (D:Addr) (ep:Nat) (j:Nat) (k v:Value):Obj:={ cls:=.type "dict_itemiterator",data:=.fields #[.none,.bool false,.ref D,.int j 0,.int (1:Nat) 0,.int ep 0,k,v] }
theorem for921 (hK:g.K=KP P) {x:Cx} (o:CxOk g x 51) (hcv:x.cv=none) (hsc:x.scope.names=s921 P) {σ σ₁ σ₂:AS} {ρ:List Addr} {s:Shared} {D:Addr} {od:Obj} {v:Str} {tv:Tok} {Q:Flow→Shared→Prop}
   (hlo:look (S "_params") σ.lo=some (.top D)) (hD:(D,od)∈x.fz) (hdo:od.IsDictOf (PySem.strKind g.prog g.w) [(strM,.str v tv)]) (hs:(D==sysModules)=false) (hv:v.length≤sizeLine)
   (ha:asgA (T0 P) (s921 P) (forT (f921 P)) (.many [.str strM,.str v]) σ=some σ₁) (hb:(Jx (T0 P) 50).exs (s921 P) (forB (f921 P)) σ₁=.ok .next σ₂) (z:Sz σ₂.ob) (H:HS x ρ σ s.heap)
   (hQ:∀ ρ' s',ρ <+: ρ'→HS x ρ' σ₂ s'.heap→Same s s'→Q .next s') :
   wpAny (model g.prog g.w) x.A (exec (.For (forT (f921 P)) (forI (f921 P)) (forB (f921 P)) [] (forP (f921 P))) x.env) Q EF s:=by
 have hcur:x.cur=x.env:=Cx.cur_fn hcv
 have X:(KP P).In x.h₀:=hK ▸ o.X
 refine wpAny_For ?_ (fun w=>by rw [f921_iter]; rfl)
 rw [f921_iter,arm_eval_Call,show (∀ whole,attributeBase (.Name (S "_params") (itQ (forI (f921 P)))) (S "items") x.env whole=whole) from fun _=>rfl,← hcur]
 have hl:look (S "_params") x.scn=some .local:=by
   rw [Cx.scn_fn hcv,hsc]; kernel_rfl
 have nd:sq (S "_params") nmDebug=false:=by decide +kernel
 refine wpAny_bind (loc_ev o nd hl hlo H fun v' H₁ vr=>?_)
 cases vr
 refine wpAny_bind (wpAny_standAt ?_)
 rw [methodCall_plain (kes:=[]) (by show 0<15; omega) rfl rfl (f921_line P)]
 obtain ⟨m,os,F,HP,lr⟩:=id H₁
 have hod:=(HP.nw _ (List.mem_append_right _ hD)).1
 obtain ⟨es,ep,dx,dd,dk,dp,dn⟩:=id hdo
 refine wpAny_bind (wpAny_holding (getMethod_builtin (T := "dict") ⟨od,hod,dx.1⟩ PySem.F.plainAttrs_dict PySem.F.slot_dict_items PySem.F.type_dict_items (fun a e=>by cases e; exact ⟨od,hod,dx.2.1⟩) ?_))
 refine callWith_builtin (starEach_plain rfl) ?_
 show wpAny _ _ (evalArgs (.builtin "dict.items") true [] []) _ _ _
 refine evalArgs_nil3 ?_
 refine kdx_view F HP.nw (List.mem_append_right _ hD) hdo hs fun V h1 F1 N1 lt1=>?_
 have hV:h1.get? V=some { cls:=.type "dict_items",data:=.fields #[.ref D] }:=(N1 _ (.head _)).1
 have hD1:h1.get? D=some od:=(N1 _ (.tail _ (List.mem_append_right _ hD))).1
 refine wpAny_pyIter_items (ep:=ep) ⟨_,hV,rfl,rfl⟩ ⟨od,es,hD1,dx,dd,dk,dp,dn⟩ ?_
 have H2:HS x ρ σ h1:=⟨m,os,F1,⟨fun p hp=>N1 p (.tail _ hp),HP.nd,HP.dj,HP.ln,HP.or⟩,lr⟩
 have H3:HS (x.fzd ((h1.objs.size,itD D ep 0 .none .none)::x.fz)) ρ σ (h1.push (itD D ep 0 .none .none)):=H2.grow (tmp:=[(h1.objs.size,itD D ep 0 .none .none)]) (fun b o q=>Heap.get?_push_of_some _ q) (fun p hp=>by
   cases List.mem_singleton.mp hp; exact ⟨Nat.le_refl _,Heap.get?_push_size _ rfl⟩)
 have off:∀ p∈x.fz,p.1 ∉ [h1.objs.size]:=fun p hp=>off_new (N:=h1.objs.size) (by simp) (H2.fz_lt hp)
 have hDI:D ≠ h1.objs.size:=Nat.ne_of_lt (Heap.lt_size hD1)
 rw [hcur]
 refine forT_loop (k:=0 + 1 + 1) (wpAny_pyNext_items_item (knd:=PySem.strKind g.prog g.w) (kvs:=[(strM,.str v tv)]) (H3.frz (.head _)) ⟨od,es,H3.frz (x:=x.fzd _) (p:=(D,od)) (.tail _ hD),dx,dd,dk,dp,dn⟩ rfl fun key h3 hk hout htup hsz hkeep=>?_)
 have hI:h1.objs.size ≠ (h1.push (itD D ep 0 .none .none)).objs.size:=Nat.ne_of_lt (Heap.lt_size (H3.frz (.head _)))
 dsimp only
 rw [f921_tgt]
 refine wpAny_letOwnedTupleGo_items hout fun h4 hit4 hsb=>?_
 obtain ⟨tk,rfl⟩:=Value.isStrOf_shape hk
 have H5:=HS.turn (its:=[(h1.objs.size,_)]) (fz₀:=x.fz) (adr:=[h1.objs.size]) (h':=h4) (its':=[(h1.objs.size,itD D ep 1 (.str strM tk) (.str v tv))]) (tmp:=[((h1.push (itD D ep 0 .none .none)).objs.size,tupO [.str strM tk,.str v tv] 0)]) H3 rfl off rfl (fun b o hb e=>(hsb.2 b (by simpa using hb)).trans (hkeep b o (by simpa using hb) e)) (fun p hp=>by
     cases List.mem_singleton.mp hp; exact ⟨.head _,hit4⟩) (fun p hp=>by
     cases List.mem_singleton.mp hp; exact ⟨Nat.le_refl _,(hsb.2 _ (Ne.symm hI)).trans htup⟩)
 rw [← f921_tgt]
 have o':=o.fzd hcv ([((h1.push (itD D ep 0 .none .none)).objs.size,tupO [.str strM tk,.str v tv] 0)]++([(h1.objs.size,itD D ep 1 (.str strM tk) (.str v tv))]++x.fz))
 refine (asg_s (ok0 hK)).use ha (x.fzd _) _ o' hcv hsc [((h1.push (itD D ep 0 .none .none)).objs.size,tupO [.str strM tk,.str v tv] 0)] _ ρ _ _ _ rfl ⟨_,[.str strM tk,.str v tv],0,rfl,rfl,.cons ⟨⟨tk,rfl⟩,by rw [sizeLine_eq]; decide⟩ (.cons ⟨⟨tv,rfl⟩,hv⟩ .nil)⟩ H5 fun s₅ H₅ S₅=>exsJ (ok0 hK) o'.less hcv (sc:=s921 P) hsc hb z H₅ fun ρ₆ s₆ f' p₆ H7 S7 fr=>?_
 cases fr
 have H8:HS (x.fzd ((h1.objs.size,itD D ep 1 (.str strM tk) (.str v tv))::x.fz)) ρ₆ σ₂ s₆.heap:=H7.drop (x:=x.fzd _) fun p hp=>.tail _ hp
 refine wpAny_pyNext_items_end (knd:=PySem.strKind g.prog g.w) (kvs:=[(strM,.str v tv)]) o.hh (H8.frz (.head _)) ⟨od,es,H8.frz (x:=x.fzd _) (p:=(D,od)) (.tail _ hD),dx,dd,dk,dp,dn⟩ rfl fun h5 hx=>wpAny_pure (hQ ρ₆ _ p₆ ?_ ((Same.of.trans S₅).trans (S7.trans Same.of)))
 have H9:=HS.turn (h':=h5) (its:=[(h1.objs.size,_)]) (fz₀:=x.fz) (adr:=[h1.objs.size]) (its':=[]) (tmp:=[]) H8 rfl off rfl (fun b o hb e=>hx b o (by simpa using hb) e) (fun p hp=>by cases hp) (fun p hp=>by cases hp)
 exact H9
end
end
section
set_option maxHeartbeats 400000
inductive Tops (ρ:List Addr):List AV→List AV→Prop
 | nil:Tops ρ [] []
 | obj {i a:Nat} {r q:List AV}:ρ[i]?=some a→Tops ρ r q→Tops ρ (.obj i::r) (.top a::q)
 | same {v:AV} {r q:List AV}:okV 0 v=true→Tops ρ r q→Tops ρ (v::r) (v::q)
theorem tops_of {ρ:List Addr} {xs:List AV} {vs:List Value} (h:VRs ρ xs vs):∃ ys,Tops ρ xs ys∧∀ ρ',VRs ρ' ys vs:=by
 induction h with
 | nil=>exact ⟨[],.nil,fun _=>.nil⟩
 | @cons x v r q hv h ih =>
   obtain ⟨ys,h1,h2⟩:=ih
   have same:okV 0 x=true→∃ ys,Tops ρ (x::r) ys∧∀ ρ',VRs ρ' ys (v::q):=fun hk=>⟨x::ys,.same hk h1,fun ρ'=>.cons (VR.free hk hv) (h2 ρ')⟩
   cases x <;> first | exact same rfl | skip
   obtain ⟨a,ha,rfl⟩:=hv
   exact ⟨.top a::ys,.obj ha h1,fun ρ'=>.cons rfl (h2 ρ')⟩
theorem Tops.back {ρ ρ':List Addr} {xs ys:List AV} (h:Tops ρ xs ys):∀ {vs:List Value},VRs ρ' ys vs→VRs ρ xs vs:=by
 induction h with
 | nil=>intro vs h; cases h; exact .nil
 | obj ha _ ih=>intro vs h; cases h with | cons a b=>cases a; exact .cons ⟨_,ha,rfl⟩ (ih b)
 | same hk _ ih=>intro vs h; cases h with | cons a b=>exact .cons (VR.free hk a) (ih b)
theorem Tops.len {ρ:List Addr} {xs ys:List AV} (h:Tops ρ xs ys):xs.length=ys.length:=by
 induction h with
 | nil=>rfl
 | obj _ _ ih=>simp [ih]
 | same _ _ ih=>simp [ih]
theorem VRs.snoc_inv {ρ:List Addr} {a:AV} {xs:List AV}:∀ {vs:List Value},VRs ρ (xs++[a]) vs→∃ us u,vs=us++[u]∧VRs ρ xs us∧VR ρ a u:=by
 induction xs with
 | nil=>intro vs h; exact vrs1 h fun v hv e=>⟨[],v,e,.nil,hv⟩
 | cons x r ih =>
   intro vs h
   cases h with
   | cons h k =>
     obtain ⟨us,u,rfl,h1,h2⟩:=ih k
     exact ⟨_::us,u,rfl,.cons h h1,h2⟩
theorem chk921 (P:Params):FnChk (KP P) 921:=⟨by kernel_rfl,by kernel_rfl⟩
theorem names921 (P:Params):([S "self",S "_name",S "_value",S "_params"].all fun n=>(FD (KP P) 921).scope.names.lookup n==some .local)=true:=by kernel_rfl
theorem nocell921 (P:Params):((FD (KP P) 921).scope.names.all fun p=>!(p.2==.cell))=true:=by kernel_rfl
theorem v10_of {v:Str} (h:v.length=10):∃ c0 c1 c2 c3 c4 c5 c6 c7 c8 c9,v=v10 c0 c1 c2 c3 c4 c5 c6 c7 c8 c9:=by
 obtain ⟨⟨l⟩⟩:=v
 have e:=list_get l
 rw [show l.length=10 from h] at e
 exact ⟨_,_,_,_,_,_,_,_,_,_,congrArg (fun l:List Nat=>(⟨⟨l⟩⟩:Str)) e⟩
noncomputable def hpOut (ys:List AV) (nm v:Str):List AO:=[.inst 924 1,.dict [(nmHeaders,.obj 2)],.list (ys++[.obj 4]),.list [.str (txtM v)],.tup [.str nm,.str (txtM v)]]
section
variable {g:Gl} {P:Params}
theorem add_call (hK:g.K=KP P) {x:Cx} {n:Nat} (o:CxOk g x n) {A':Around} (hA:A'.frames=some (x.env::x.outer)) (hh:A'.handled=none) (hd:A'.depth + 60<recursionLimit) (hu:A'.units + 480<cLine) {s:Shared} {m:Str→Option Value} {ai ad al:Addr} {ys:List AV} {nm:Str} {tn tv:Tok} {v:Str} (hv:v.length=10) {R:Result→Shared→Prop}
   (H:HSm x [ai,ad,al] ⟨[],hdrV ys,[]⟩ s.heap m) (hys:ys.length≤sizeLine) (ok:hdrOk nm v=true)
   (hQ:∀ s' ρ',[ai,ad,al] <+: ρ'→(∃ os',Fr x.h₀ x.L s'.heap (x.fm m)∧HpR x.h₀ x.L x.fz ρ' (hpOut ys nm v) s'.heap os')→Same s s'→R (.ok (.ret .none)) s') :
   codeAny (model g.prog g.w) A' (.call (.ref 921) ⟨[.ref ai,.str nm tn,.none],[(strM,.str v tv)]⟩) R s:=by
 obtain ⟨c0,c1,c2,c3,c4,c5,c6,c7,c8,c9,rfl⟩:=v10_of hv
 clear hv
 have X:(KP P).In x.h₀:=hK ▸ o.X
 have r:=(chk921 P).rest
 simp only [Bool.and_eq_true,Bool.not_eq_true',beq_iff_eq] at r
 obtain ⟨⟨⟨⟨⟨r1,r2⟩,r3⟩,r4⟩,r5⟩,r6⟩:=r
 have nc:∀ y∈(FD (KP P) 921).scope.names,y.2 ≠ .cell:=fun y hy e=>by
   have:=List.all_eq_true.mp (nocell921 P) y hy
   rw [e] at this
   exact absurd this (by decide)
 unfold hdrOk at ok
 simp only [Bool.and_eq_true] at ok
 obtain ⟨⟨⟨⟨⟨k1,k2⟩,k3⟩,k4⟩,k5⟩,k6⟩:=ok
 have hnm:nm.length≤sizeLine:=by
   have:=Nat.le_of_ble_eq_true k4
   rw [sizeLine_eq]; omega
 obtain ⟨os,F,HP,lr⟩:=H
 refine kp_more (nm:=S "_params") (ex:=[(strM,.str (v10 c0 c1 c2 c3 c4 c5 c6 c7 c8 c9) tv)]) (front:=[(S "self",.ref ai),(S "_name",.str nm tn),(S "_value",.none)]) (DD:=[(PyData.str strM,PyData.str (v10 c0 c1 c2 c3 c4 c5 c6 c7 c8 c9))]) (g₁:=gOf (peekA (KP P) (S85 g) (bindArgs (fnOfK (KP P) 921) ⟨[.ref ai,.str nm tn,.none],[(strM,.str (v10 c0 c1 c2 c3 c4 c5 c6 c7 c8 c9) tv)]⟩)))
   o.B F X HP.nw o.T hA rfl o.kd (chk921 P).at_ r1 (by omega) (by kernel_rfl) (by kernel_rfl) (by kernel_rfl) (.cons (fun _=>.str _ _) .nil) (by kernel_rfl) (by kernel_rfl) (fun D=>by kernel_rfl) (fun D y hy=>?_) ?_ r3 r4 r2 nc
 · have key:∀ n∈[S "self",S "_name",S "_value",S "_params"],(FD (KP P) 921).scope.names.lookup n=some .local:=fun n hn=>beq_iff_eq.mp (List.all_eq_true.mp (names921 P) n hn)
   rcases List.mem_append.mp hy with hy | hy
   · simp only [List.mem_cons,List.not_mem_nil,or_false] at hy
     rcases hy with rfl | rfl | rfl <;> exact key _ (by simp)
   · rw [List.mem_singleton.mp hy]; exact key _ (by simp)
 · intro D od gg L' h₁ tk lt1 hsys hdo hfp FG F' N' B' X' T'
   have o':CxOk (g.slk 0) ⟨A',x.base,x.env::x.outer,gg,L',(FD (KP P) 921).qualname,(FD (KP P) 921).scope,921,(FD (KP P) 921).code,[],(D,od)::x.fz,none⟩ 51:=by
     refine ⟨B',by show g.K.In gg; rw [hK]; exact X',T',r2,hh,r2,fun _=>rfl,fun y=>⟨(fun hy=>by cases hy),fun hy=>?_⟩,(fun c hc=>by cases hc),by show A'.depth + 1 + 51 + 0<_; omega,by show A'.units + 3 + 8 * (51 + 0)<_; omega,fun b o' e=>FG.keep b o' (o.EX b o' e)⟩
     have hy:look y (FD (KP P) 921).scope.names=some .cell:=hy
     exact absurd rfl (nc _ (look_mem hy))
   have HS':HS ⟨A',x.base,x.env::x.outer,gg,L',(FD (KP P) 921).qualname,(FD (KP P) 921).scope,921,(FD (KP P) 921).code,[],(D,od)::x.fz,none⟩ [ai,ad,al] ⟨lo921 nm D,hdrV ys,[]⟩ h₁:=by
     refine ⟨_,os,F',⟨fun p hp=>N' p ?_,HP.nd,fun p hp hm=>?_,HP.ln,HP.or⟩,?_⟩
     · rcases List.mem_append.mp hp with q | q
       · exact .tail _ (List.mem_append_left _ q)
       · rcases List.mem_cons.mp q with rfl | q
         · exact .head _
         · exact .tail _ (List.mem_append_right _ q)
     · rcases List.mem_cons.mp hp with rfl | q
       · obtain ⟨i,hi⟩:=List.getElem?_of_mem hm
         have hl:i<os.length:=HP.olen ▸ (List.getElem?_eq_some_iff.mp hi).1
         exact absurd (lt1 _ (zip_mem hi (List.getElem?_eq_getElem hl))) (Nat.lt_irrefl _)
       · exact HP.dj p q hm
     · intro y a hy
       have hm:=look_mem hy
       simp only [lo921,List.mem_cons,List.not_mem_nil,or_false,Prod.mk.injEq] at hm
       rcases hm with ⟨rfl,rfl⟩ | ⟨rfl,rfl⟩ | ⟨rfl,rfl⟩ | ⟨rfl,rfl⟩
       · exact ⟨.ref ai,by kernel_rfl,ai,rfl,rfl⟩
       · exact ⟨.str nm tn,by kernel_rfl,⟨tn,rfl⟩,hnm⟩
       · exact ⟨.none,by kernel_rfl,rfl⟩
       · exact ⟨.ref D,by kernel_rfl,rfl⟩
   have hv:(v10 c0 c1 c2 c3 c4 c5 c6 c7 c8 c9).length≤sizeLine:=by rw [sizeLine_eq]; show 10≤_; omega
   have z1:Sz (ob1 (v10 c0 c1 c2 c3 c4 c5 c6 c7 c8 c9)):=by
     have e:∀ b:Bool,b=true→chk b≤sizeLine:=fun b hb=>by rw [hb,sizeLine_eq]; decide
     exact Sz.add (e _ k6) (Sz.add (e _ k5) (Sz.add (e _ k2) Sz.nil))
   have z2:Sz (addOb ys.length (addOb (chk (prn nm)) (ob1 (v10 c0 c1 c2 c3 c4 c5 c6 c7 c8 c9)))):=Sz.add hys (Sz.add (by rw [k1,sizeLine_eq]; decide) z1)
   have T0ok:=ok0 (g:=g.slk 0) hK
   show wpAny _ _ (execs (b921 P) _) _ _ _
   rw [b921_eq]
   have oo:CxOk (g.slk 0) ⟨A',x.base,x.env::x.outer,gg,L',(FD (KP P) 921).qualname,(FD (KP P) 921).scope,921,(FD (KP P) 921).code,[],(D,od)::x.fz,none⟩ 50:=o'.less
   refine wpAny_mono (wpAny_execs_cons (E:=EF) (exJ T0ok oo rfl (sc:=s921 P) rfl (a_p0 P nm D ys) (s:={ s with heap:=h₁,toks:=tk }) Sz.nil HS' fun ρ₁ s₁ f₁ p₁ H₁ S₁ fr=>?_)) (fun _ _ y=>y) fun _ _ y=>False.elim y
   cases fr
   refine wpAny_execs_cons (exJ T0ok oo rfl (sc:=s921 P) rfl (a_p1 P nm D ys) Sz.nil H₁ fun ρ₂ s₂ f₂ p₂ H₂ S₂ fr=>?_)
   cases fr
   refine wpAny_execs_cons (for921 (g:=g.slk 0) (σ₁:=⟨lo921c nm D (v10 c0 c1 c2 c3 c4 c5 c6 c7 c8 c9),hdrV ys++[.list []],[]⟩) hK o' rfl rfl (D:=D) (od:=od) (v:=v10 c0 c1 c2 c3 c4 c5 c6 c7 c8 c9) (tv:=tv) (by kernel_rfl) (.head _) hdo hsys hv (a_asg P nm (v10 c0 c1 c2 c3 c4 c5 c6 c7 c8 c9) D ys) (a_body P nm D ys c0 c1 c2 c3 c4 c5 c6 c7 c8 c9) z1 H₂ fun ρ₃ s₃ p₃ H₃ S₃=>?_)
   refine exsJ T0ok oo rfl (sc:=s921 P) rfl (a_post P nm D ys c0 c1 c2 c3 c4 c5 c6 c7 c8 c9 (ob1 (v10 c0 c1 c2 c3 c4 c5 c6 c7 c8 c9))) z2 H₃ fun ρ₄ s₄ f₄ p₄ H₄ S₄ fr=>?_
   cases fr
   obtain ⟨m₁,os₁,F₁,HP₁,l₁⟩:=H₄
   refine ⟨L',m₁,_,F₁,HP₁.nw,fun F₂ N₂=>?_⟩
   refine hQ s₄ ρ₄ (((p₁.trans p₂).trans p₃).trans p₄) ⟨os₁,F₂,fun p hp=>N₂ p ?_,HP₁.nd,fun p hp=>HP₁.dj p (.tail _ hp),HP₁.ln,HP₁.or⟩ ((((Same.of.trans S₁).trans S₂).trans S₃).trans S₄)
   rcases List.mem_append.mp hp with q | q
   · exact List.mem_append_left _ q
   · exact List.mem_append_right _ (.tail _ q)
end
end
section
set_option maxHeartbeats 400000
section
variable {g:Gl} {P:Params}
theorem add_main (hK:g.K=KP P) {k:Nat} (hk:60 + k≤g.sl) {i d l:Nat} {nm v:Str} {xs:List AV} {σ:AS} (hi:atI σ.hp i=some (.inst 924 d)) (hd:atI σ.hp d=some (.dict [(nmHeaders,.obj l)])) (hl:atI σ.hp l=some (.list xs)) (n:Nat) :
   CallP g n (.top 921) [.obj i,.str nm,.none] [(strM,.str v)] σ .none { σ with hp:=setAt σ.hp l (.list (xs++[.obj σ.hp.length]))++[.tup [.str nm,.str (strM++coB++v++coQ)]],ob:=addOb (chk (hdrOk nm v)) (addOb xs.length σ.ob) }:=by
 intro x o A' hA hh hd' hu z ρ s f' as' ks' m Q H vf vas vks hQ
 cases vf
 have hok:=chk_ok z.hd
 have hz2:Sz (addOb xs.length σ.ob):=z.of (addOb_sfx _ _)
 have hok':=hok
 unfold hdrOk at hok'
 simp only [Bool.and_eq_true] at hok'
 have hv10:=Nat.eq_of_beq_eq_true hok'.1.1.1.2
 clear hok'
 refine vrs3 vas fun v1 v2 v3 hv1 hv2 hv3 e=>?_
 subst e
 cases hv3
 cases vks with
 | cons hk1 hkn =>
 cases hkn
 rename_i kv
 obtain ⟨kn,kv⟩:=kv
 obtain ⟨e1,⟨tv,e2⟩,_⟩:=hk1
 dsimp only at e1 e2
 subst e1 e2
 obtain ⟨⟨tn,rfl⟩,hnl⟩:=hv2
 obtain ⟨ai,ha,rfl⟩:=hv1
 obtain ⟨os,F,HP,lr⟩:=H
 rw [atI_eq] at hi hd hl
 obtain ⟨ai',oi,i1,i2,ior,_⟩:=HP.get hi
 cases ha.symm.trans i1
 obtain ⟨ad,hdx,rfl⟩:=ior
 obtain ⟨ad',od,d1,d2,dor,_⟩:=HP.get hd
 cases hdx.symm.trans d1
 obtain ⟨al,ol,l1,l2,lor,_⟩:=HP.get hl
 have nid:i ≠ d:=fun e=>by rw [e,hd] at hi; cases hi
 have nil':i ≠ l:=fun e=>by rw [e,hl] at hi; cases hi
 have ndl:d ≠ l:=fun e=>by rw [e,hl] at hd; cases hd
 obtain ⟨vs,nn,rfl,hvs⟩:=lor
 obtain ⟨ys,hT,hys⟩:=tops_of hvs
 have V:Vw ρ os [i,d,l] [(ai,instObj 924 ad),(ad,od),(al,listO vs nn)]:=.cons ⟨i1,i2⟩ (.cons ⟨d1,d2⟩ (.cons ⟨l1,l2⟩ .nil))
 have ddr:∀ {ρ ρ':List Addr} {j j':Nat} {o:Obj},OR ρ (.dict [(nmHeaders,.obj j)]) o→ρ[j]?=some al→ρ'[j']?=some al→OR ρ' (.dict [(nmHeaders,.obj j')]) o:=by
   intro ρ ρ' j j' o h e1 e2
   obtain ⟨ds,n0,rfl,hds⟩:=h
   refine ⟨ds,n0,rfl,?_⟩
   cases hds with
   | cons a b =>
     cases b
     obtain ⟨a1,a2,a3,a4⟩:=a
     cases e1.symm.trans a3
     exact .cons ⟨a1,_,e2,a4⟩ .nil
 refine add_call (R:=RQ Q) (v:=v) hK (o.wide (V.fz HP.dj)) hA hh (by omega) (by omega) hv10 (view_in F HP V (by simp [nid,nil',ndl]) LR.nil (.cons ⟨ad,rfl,rfl⟩ (.cons (ddr dor l1 rfl) (.cons ⟨vs,nn,rfl,hys _⟩ .nil)))) (by rw [← hT.len]; exact hz2.hd) hok fun s₁ ρ₁ p₁ hp1 S₁=>?_
 obtain ⟨os',F₁,HP₁⟩:=hp1
 obtain ⟨A,os₁,B,rfl,hor,hl3,hAB,_,back⟩:=view_out (σ₁:=⟨[],hpOut ys nm v,[]⟩) HP lr V p₁ ⟨os',F₁,HP₁,fun y a e=>by cases e⟩
 obtain ⟨o1,o2,o3,rfl⟩:=len3 hl3
 unfold hpOut at hor
 cases hor with
 | cons q1 hor =>
 cases hor with
 | cons q2 hor =>
 cases hor with
 | cons q3 hor =>
 have hB:B.length=2:=hor.len.symm
 obtain ⟨b3,b4,rfl⟩:=len2 hB
 obtain ⟨a3,a4,rfl⟩:=len2 (hAB.trans hB)
 cases hor with
 | cons q4 hor =>
 cases hor with
 | cons q5 hor =>
 obtain ⟨ad2,hdx2,rfl⟩:=q1
 cases hdx2
 have pre:ρ <+: ρ++[a4]:=⟨_,rfl⟩
 have hlen:ρ.length=σ.hp.length:=HP.ln
 have n4:(ρ++[a4])[σ.hp.length]?=some a4:=by rw [← hlen,List.getElem?_append_right (Nat.le_refl _),Nat.sub_self]; rfl
 have b:=back [(a4,b4)] (setAt σ.hp l (.list (xs++[.obj σ.hp.length]))) [.tup [.str nm,.str (strM++coB++v++coQ)]] (addOb (chk (hdrOk nm v)) (addOb xs.length σ.ob)) (fun p hp=>by rw [List.mem_singleton.mp hp]; exact .tail _ (.head _)) (List.nodup_cons.mpr ⟨List.not_mem_nil,List.nodup_nil⟩) (by rw [setAt_eq]; exact List.length_set ..) (fun j a e=>?_) (.cons (q5.free rfl) .nil)
 · exact hQ (ρ++[a4]) s₁ .none pre b S₁ rfl
 · rw [setAt_eq] at e
   by_cases hjl:j=l
   · rw [hjl,List.getElem?_set_self (List.getElem?_eq_some_iff.mp hl).1] at e
     cases e
     refine .inr ⟨2,o3,by rw [hjl]; rfl,rfl,?_⟩
     obtain ⟨ws,n0,rfl,hws⟩:=q3
     obtain ⟨us,u,rfl,hus,hu4⟩:=VRs.snoc_inv hws
     obtain ⟨b4,hb4,rfl⟩:=hu4
     cases hb4
     exact ⟨us++[.ref a4],n0,rfl,All2.snoc ((hT.back hus).mono pre) ⟨a4,n4,rfl⟩⟩
   · rw [List.getElem?_set_ne (Ne.symm hjl)] at e
     by_cases hjd:j=d
     · rw [hjd] at e
       cases e.symm.trans hd
       exact .inr ⟨1,o2,by rw [hjd]; rfl,rfl,ddr q2 rfl (pre_get pre l1)⟩
     · by_cases hji:j=i
       · rw [hji] at e
         cases e.symm.trans hi
         exact .inr ⟨0,_,by rw [hji]; rfl,rfl,ad,pre_get pre d1,rfl⟩
       · exact .inl ⟨by simp [hji,hjd,hjl],e⟩
theorem add_s (hK:g.K=KP P) {k:Nat} (hk:60 + k≤g.sl) {as:List AV} {ks:List (Str × AV)} {σ:AS}:TSat σ (pAdd as ks σ) fun v σ'=>∀ n,CallP g n (.top 921) as ks σ v σ':=by
 rcases as with _ | ⟨a,_ | ⟨b,_ | ⟨c,_ | _⟩⟩⟩ <;> first | exact True.intro | (cases a <;> exact True.intro) | (cases a <;> first | exact True.intro | (cases b <;> exact True.intro)) | (cases a <;> first | exact True.intro | (cases b <;> first | exact True.intro | (cases c <;> exact True.intro))) | skip
 cases a <;> first | exact True.intro | skip
 cases b <;> first | exact True.intro | skip
 cases c <;> first | exact True.intro | skip
 rename_i i nm
 rcases ks with _ | ⟨⟨kk,w⟩,_ | _⟩ <;> first | exact True.intro | (cases w <;> exact True.intro) | skip
 cases w <;> first | exact True.intro | skip
 rename_i v
 unfold pAdd
 dsimp only
 cases hi:atI σ.hp i with
 | none=>exact True.intro
 | some ao =>
 cases ao <;> first | exact True.intro | skip
 rename_i C d
 dsimp only
 cases hc:Nat.beq C 924&&sq kk strM with
 | false=>exact True.intro
 | true =>
 rw [Bool.and_eq_true] at hc
 rw [Nat.eq_of_beq_eq_true hc.1] at hi
 have hkk:=(sq_iff _ _).mp hc.2
 subst hkk
 cases hd:atI σ.hp d with
 | none=>exact True.intro
 | some ao =>
 cases ao <;> first | exact True.intro | skip
 rename_i es
 rcases es with _ | ⟨⟨q,w⟩,_ | _⟩ <;> first | exact True.intro | (cases w <;> exact True.intro) | skip
 cases w <;> first | exact True.intro | skip
 rename_i l
 dsimp only
 cases hq:sq q nmHeaders with
 | false=>exact True.intro
 | true =>
 have hqq:=(sq_iff _ _).mp hq
 subst hqq
 cases hl:atI σ.hp l with
 | none=>exact True.intro
 | some ao =>
 cases ao <;> first | exact True.intro | skip
 exact ⟨(addOb_sfx _ _).trans (addOb_sfx _ _),fun n=>add_main hK hk hi hd hl n⟩
end
end
section
set_option maxHeartbeats 200000
noncomputable def T1 (P:Params):Tab:={ T0 P with prim:=prim1,bic:=fun b as σ=>orT ((T0 P).bic b as σ) (bicE (T0 P) 100 924 900 b as σ) }
noncomputable def lexD (st:AV) (tok:Str) (ln:Int):AO:=.dict [(S "instream",.obj 3),(S "infile",.none),(S "posix",.bool false),(S "eof",.str (S "")),(S "commenters",.str (S "#")),(S "wordchars",.str (S "abcdfeghijklmnopquvyzABCDEFGHIJKLMNOPQRUVWXYZ0123456789_~-./*?=")),(S "whitespace",.str (S " \t\r\n")), (S "whitespace_split", .bool false), (S "quotes", .str (S "'\"")),(S "escape",.str (S "\\")), (S "escapedquotes", .str (S "\"")),(S "state",st),(S "pushback",.obj 4),(S "lineno",.int ln),(S "debug",.int 0),(S "token",.str tok),(S "filestack",.obj 5),(S "source",.none),(S "_punctuation_chars",.str (S "rwxsStT")),(S "_pushback_chars",.obj 6)]
noncomputable def pbA:Option Nat→List AV
 | .none=>[]
 | some c=>[.str ⟨⟨[c]⟩⟩]
inductive Ls where | sp | wd | pn | qt | end_
noncomputable def Ls.av:Ls→AV
 | .sp=>.str ⟨⟨[32]⟩⟩ | .wd=>.str ⟨⟨[97]⟩⟩ | .pn=>.str ⟨⟨[99]⟩⟩ | .qt=>.str ⟨⟨[34]⟩⟩ | .end_=>.none
noncomputable def lexH (st:Ls) (tok:Str) (ln:Int) (dn rest:List Nat) (pb:Option Nat) (post:List AO):List AO:=lexD st.av tok ln::.inst 727 0::.sio dn rest::.inst 592 2::.deq []::.deq []::.deq (pbA pb)::post
inductive Cl where | ws | wd | pn | qt | ot
noncomputable def clIn (c:Nat):List Nat→Bool
 | []=>false
 | a::r=>match Nat.beq a c with | true=>true | false=>clIn c r
noncomputable def clOf (c:Nat):Cl:=match clIn c [32,13,10] with
 | true=>.ws
 | false=>match clIn c [114,119,120,115,83,116,84] with
   | true=>.pn
   | false=>match Nat.beq c 34 with
     | true=>.qt
     | false=>match Nat.beq c 58 with
       | true=>.ot
       | false=>.wd
noncomputable def signs:List Nat:=[108,115,98,100,99,112,45,63,114,119,120,83,116,84,58,109,61,34,13,10,32]
noncomputable def lnN (c:Nat) (ln:Int):Int:=match Nat.beq c 10 with | true=>ln + 1 | false=>ln
noncomputable def bodyW (l:List Stmt):List Stmt:=match l with
 | _::_::.While _ b _ _::_=>b
 | _=>[]
noncomputable def bw (P:Params):List Stmt:=bodyW (bodyK (KP P) 695)
noncomputable def scR (P:Params):List (Str × NameKind):=(FD (KP P) 695).scope.names
noncomputable def loF (qd:Bool):List (Str × AV):=[(S "self",.obj 1),(S "quoted",.bool qd),(S "escapedstate",.str (S " "))]
noncomputable def loN (qd:Bool) (nc:AV):List (Str × AV):=[(S "self",.obj 1),(S "quoted",.bool qd),(S "escapedstate",.str (S " ")),(S "nextchar",nc)]
noncomputable def ch (c:Nat):AV:=.str ⟨⟨[c]⟩⟩
noncomputable def obT (tok:List Nat) (c:Nat) (ob:List Nat):List Nat:=addOb ((⟨⟨tok⟩⟩:Str).length + (⟨⟨[c]⟩⟩:Str).length) ob
noncomputable def rSp (c:Nat) (qd:Bool) (ln:Int) (dn rest:List Nat) (post:List AO) (ob:List Nat):R Fl:=match clOf c with
 | .ws=>.ok .cont ⟨loN qd (ch c),lexH .sp ⟨⟨[]⟩⟩ (lnN c ln) dn rest .none post,ob⟩
 | .wd=>.ok .next ⟨loN qd (ch c),lexH .wd ⟨⟨[c]⟩⟩ ln dn rest .none post,ob⟩
 | .pn=>.ok .next ⟨loN qd (ch c),lexH .pn ⟨⟨[c]⟩⟩ ln dn rest .none post,ob⟩
 | .qt=>.ok .next ⟨loN qd (ch c),lexH .qt ⟨⟨[c]⟩⟩ ln dn rest .none post,ob⟩
 | .ot=>.ok .brk ⟨loN qd (ch c),lexH .sp ⟨⟨[c]⟩⟩ ln dn rest .none post,ob⟩
noncomputable def rWd (c:Nat) (qd:Bool) (tok:List Nat) (ln:Int) (dn rest:List Nat) (post:List AO) (ob:List Nat):R Fl:=match clOf c with
 | .ws=>.ok .brk ⟨loN qd (ch c),lexH .sp ⟨⟨tok⟩⟩ (lnN c ln) dn rest .none post,ob⟩
 | .wd=>.ok .next ⟨loN qd (ch c),lexH .wd (⟨⟨tok⟩⟩++⟨⟨[c]⟩⟩) ln dn rest .none post,obT tok c ob⟩
 | .qt=>.ok .next ⟨loN qd (ch c),lexH .wd (⟨⟨tok⟩⟩++⟨⟨[c]⟩⟩) ln dn rest .none post,obT tok c ob⟩
 | _=>.ok .brk ⟨loN qd (ch c),lexH .sp ⟨⟨tok⟩⟩ ln dn rest (some c) post,ob⟩
noncomputable def rPn (c:Nat) (qd:Bool) (tok:List Nat) (ln:Int) (dn rest:List Nat) (post:List AO) (ob:List Nat):R Fl:=match clOf c with
 | .ws=>.ok .brk ⟨loN qd (ch c),lexH .sp ⟨⟨tok⟩⟩ (lnN c ln) dn rest .none post,ob⟩
 | .pn=>.ok .next ⟨loN qd (ch c),lexH .pn (⟨⟨tok⟩⟩++⟨⟨[c]⟩⟩) ln dn rest .none post,obT tok c ob⟩
 | _=>.ok .brk ⟨loN qd (ch c),lexH .sp ⟨⟨tok⟩⟩ ln dn rest (some c) post,ob⟩
noncomputable def rQt (c:Nat) (tok:List Nat) (ln:Int) (dn rest:List Nat) (post:List AO) (ob:List Nat):R Fl:=match clOf c with
 | .qt=>.ok .brk ⟨loN true (ch c),lexH .sp (⟨⟨tok⟩⟩++⟨⟨[c]⟩⟩) ln dn rest .none post,obT tok c ob⟩
 | _=>.ok .next ⟨loN true (ch c),lexH .qt (⟨⟨tok⟩⟩++⟨⟨[c]⟩⟩) (lnN c ln) dn rest .none post,obT tok c ob⟩
set_option maxHeartbeats 0
section
variable (P:Params) (qd:Bool) (nc:AV) (t:Nat) (ts dn rest:List Nat) (ln:Int) (post:List AO) (ob:List Nat)
theorem k_spF:(signs.map fun c=>(Jx (T1 P) 60).exs (scR P) (bw P) ⟨loF qd,lexH .sp ⟨⟨[]⟩⟩ ln dn (c::rest) .none post,ob⟩)=signs.map fun c=>rSp c qd ln (dn++[c]) rest post ob:=by kernel_rfl
theorem k_spP:(signs.map fun c=>(Jx (T1 P) 60).exs (scR P) (bw P) ⟨loF qd,lexH .sp ⟨⟨[]⟩⟩ ln dn rest (some c) post,ob⟩)=signs.map fun c=>rSp c qd ln dn rest post ob:=by kernel_rfl
theorem k_spN:(signs.map fun c=>(Jx (T1 P) 60).exs (scR P) (bw P) ⟨loN qd nc,lexH .sp ⟨⟨[]⟩⟩ ln dn (c::rest) .none post,ob⟩)=signs.map fun c=>rSp c qd ln (dn++[c]) rest post ob:=by kernel_rfl
theorem k_wd:(signs.map fun c=>(Jx (T1 P) 60).exs (scR P) (bw P) ⟨loN qd nc,lexH .wd ⟨⟨t::ts⟩⟩ ln dn (c::rest) .none post,ob⟩)=signs.map fun c=>rWd c qd (t::ts) ln (dn++[c]) rest post ob:=by kernel_rfl
theorem k_pn:(signs.map fun c=>(Jx (T1 P) 60).exs (scR P) (bw P) ⟨loN qd nc,lexH .pn ⟨⟨t::ts⟩⟩ ln dn (c::rest) .none post,ob⟩)=signs.map fun c=>rPn c qd (t::ts) ln (dn++[c]) rest post ob:=by kernel_rfl
theorem k_qt:(signs.map fun c=>(Jx (T1 P) 60).exs (scR P) (bw P) ⟨loN qd nc,lexH .qt ⟨⟨t::ts⟩⟩ ln dn (c::rest) .none post,ob⟩)=signs.map fun c=>rQt c (t::ts) ln (dn++[c]) rest post ob:=by kernel_rfl
theorem k_spF0:(Jx (T1 P) 60).exs (scR P) (bw P) ⟨loF qd,lexH .sp ⟨⟨[]⟩⟩ ln dn [] .none post,ob⟩=.ok .brk ⟨loN qd (.str ⟨⟨[]⟩⟩),lexH .end_ ⟨⟨[]⟩⟩ ln dn [] .none post,ob⟩:=by kernel_rfl
theorem k_spN0:(Jx (T1 P) 60).exs (scR P) (bw P) ⟨loN qd nc,lexH .sp ⟨⟨[]⟩⟩ ln dn [] .none post,ob⟩=.ok .brk ⟨loN qd (.str ⟨⟨[]⟩⟩),lexH .end_ ⟨⟨[]⟩⟩ ln dn [] .none post,ob⟩:=by kernel_rfl
end
end
section
set_option maxHeartbeats 400000
section
variable {g:Gl} {P:Params}
theorem keep538 (P:Params):keepIn (KP P) (.ref 538)=true:=by kernel_rfl
theorem keep592 (P:Params):keepIn (KP P) (.ref 592)=true:=by kernel_rfl
theorem keep921 (P:Params):keepIn (KP P) (.ref 921)=true:=by kernel_rfl
theorem str900 (P:Params):findIn (KP P) (.ref 924) "__str__" = some (some (.ref 900)):=by kernel_rfl
theorem fn900b (P:Params):isFn (KP P) (.ref 900)=true:=by kernel_rfl
theorem ok1 (hK:g.K=KP P) (hs:101≤g.sl):TabOk g (T1 P) :=
 have o:=ok0 (g:=g) hK
 { bin:=o.bin
   cmp:=o.cmp
   bic:=fun b as σ=>(o.bic b as σ).orT (bicE_s (k:=0) hs (ok0 (g:=g.slk 0) hK) (hK ▸ str900 P) (hK ▸ fn900b P))
   mbi:=o.mbi
   sub:=o.sub
   slc:=o.slc
   fn:=o.fn
   cls:=o.cls
   glob:=o.glob
   prim:=fun a as ks σ=>by
     refine (?_:OSat (prim1 a as ks σ) _)
     unfold prim1
     cases e:Nat.beq a 538 with
     | true=>rw [Nat.eq_of_beq_eq_true e]; exact (read_s (k:=0) hK (by omega)).with (by rw [hK]; exact keep538 P)
     | false =>
     dsimp only
     cases e:Nat.beq a 592 with
     | true=>rw [Nat.eq_of_beq_eq_true e]; exact (sio_s (k:=0) hK (by omega)).with (by rw [hK]; exact keep592 P)
     | false =>
     dsimp only
     cases e:Nat.beq a 921 with
     | true=>rw [Nat.eq_of_beq_eq_true e]; exact (add_s (k:=0) hK (by omega)).with (by rw [hK]; exact keep921 P)
     | false=>exact True.intro
   make:=o.make
   tup:=o.tup
   spc:=o.spc }
end
end
section
set_option maxHeartbeats 400000
section
variable {g:Gl} {P:Params}
theorem binQ_s (orc:Int→Int) (hK:g.K=KP P) {op:Operator} {a b:AV} {σ:AS}:TSat σ (binQ orc P op a b σ) (Op2 g σ (binaryOp op) a b):=by
 have gen:=(ok0 (g:=g) hK).bin op a b σ
 cases op <;> first | exact gen | skip
 clear gen
 cases a <;> first | exact True.intro | skip
 cases b <;> first | exact True.intro | skip
 rename_i x y
 refine ⟨addOb_sfx _ _,fun cx o z ρ s a' b' Q H va vb hQ=>?_⟩
 have e:orc y=Builtin.bitAnd x y:=of_decide_eq_true (chk_ok z.hd)
 have c:=((ok0 (g:=g) hK).bin .BitAnd (.int x) (.int y) σ).use (r:=.ok (.int (Builtin.bitAnd x y)) σ) rfl
 exact c.2 cx o (z.of (addOb_sfx _ _)) ρ s a' b' Q H va vb fun ρ' s' v' p' H' S' r'=>hQ ρ' s' v' p' ⟨H'.ex⟩ S' (e ▸ r')
theorem okQ (orc:Int→Int) (hK:g.K=KP P):TabOk g (TQ orc P) :=
 have o:=ok0 (g:=g) hK
 { bin:=fun op a b σ=>binQ_s orc hK
   cmp:=o.cmp
   bic:=o.bic
   mbi:=o.mbi
   sub:=o.sub
   slc:=o.slc
   fn:=o.fn
   cls:=o.cls
   glob:=o.glob
   prim:=o.prim
   make:=o.make
   tup:=o.tup
   spc:=o.spc }
theorem enter778 (P:Params) (m:Int):enter (fi778 P) [.int m] [] []=some ([(S "mode",.int m)],[]):=by kernel_rfl
theorem mode_call (P:Params) (n:Nat) (h:n<65536):∃ hp,(Jx (TQ (orcB (btOf n)) P) 54).call (.top 778) [.int (Int.ofNat n)] [] ⟨[],[],[]⟩=.ok (.str ⟨⟨rowL n⟩⟩) ⟨[],hp,(accN (orcB (btOf n)) (Int.ofNat n) []).ob⟩:=by
 obtain ⟨lo,hp,e⟩:=mode_body P (btOf n) (show n / 4096<16 by omega) (Int.ofNat n) []
 rw [acc_row n h] at e
 refine ⟨hp,?_⟩
 rw [jx_call (sc:=s778 P) (fi:=fi778 P) (lo:=[(S "mode",.int (Int.ofNat n))]) (hp:=[]) (body:=b778 P) rfl rfl rfl (enter778 P _) rfl rfl]
 dsimp only
 rw [e]
 rfl
theorem CallP.ob {n:Nat} {f:AV} {as:List AV} {ks:List (Str × AV)} {σ:AS} {v:AV} {lo:List (Str × AV)} {hp:List AO} {o1 o2:List Nat} (c:CallP g n f as ks σ v ⟨lo,hp,o1⟩) (h:Sz o2→Sz o1):CallP g n f as ks σ v ⟨lo,hp,o2⟩ :=
 fun x o A' hA hh hd hu z ρ s f' as' ks' mm Q H vf vas vks hQ=>c x o A' hA hh hd hu (h z) ρ s f' as' ks' mm Q H vf vas vks fun ρ' s' v' p' H' S' r'=>hQ ρ' s' v' p' ⟨H'.ex⟩ S' r'
theorem Sz.app {a b:List Nat} (h:Sz a) (k:Sz b):Sz (a++b):=fun l hl=>(List.mem_append.mp hl).elim (h l) (k l)
noncomputable def u16 (n:Nat):Bool:=Nat.ble n 65535
noncomputable def pRow (as:List AV) (ks:List (Str × AV)) (σ:AS):Option (R AV):=match as,ks with
 | [.int (.ofNat n)],[]=>some (.ok (.str ⟨⟨rowL n⟩⟩) { σ with ob:=addOb (chk (u16 n)) σ.ob })
 | _,_=>.none
theorem CallP.need {n:Nat} {f:AV} {as:List AV} {ks:List (Str × AV)} {σ:AS} {v:AV} {σ':AS} (h:Sz σ'.ob→CallP g n f as ks σ v σ'):CallP g n f as ks σ v σ' :=
 fun x o A' hA hh hd hu z=>h z x o A' hA hh hd hu z
theorem row_s {a:Nat} {as:List AV} {ks:List (Str × AV)} {σ:AS} (h:∀ m n,m<65536→CallP g n (.top a) [.int (.ofNat m)] [] σ (.str ⟨⟨rowL m⟩⟩) { σ with ob:=addOb (chk (u16 m)) σ.ob }):TSat σ (pRow as ks σ) fun v σ'=>∀ n,CallP g n (.top a) as ks σ v σ':=by
 rcases as with _ | ⟨a,_ | _⟩ <;> first | exact True.intro | (cases a <;> first | exact True.intro | (rename_i k; cases k <;> exact True.intro)) | skip
 cases a <;> first | exact True.intro | skip
 rename_i k
 cases k <;> first | exact True.intro | skip
 rename_i m
 cases ks with
 | cons=>exact True.intro
 | nil=>exact ⟨addOb_sfx _ _,fun n=>CallP.need fun z=>h m n (Nat.lt_of_le_of_lt (Nat.le_of_ble_eq_true (chk_ok z.hd)) (by decide))⟩
theorem row935_s (hK:g.K=KP P) {k:Nat} (hk:60 + k≤g.sl) {as:List AV} {ks:List (Str × AV)} {σ:AS}:TSat σ (pRow as ks σ) fun v σ'=>∀ n,CallP g n (.top 935) as ks σ v σ':=row_s fun m n hm=>by
 have e:=row935 P (Int.ofNat m)
 rw [Jx_eq,show rowI (Int.ofNat m)=rowL m from rowI_of m] at e
 exact (pure_call (k:=k) hk (ok0 (g:=g.slk k) hK) e rfl rfl σ).ob fun z=>(rowO_sz hm).app (z.of (addOb_sfx _ _))
theorem row778_s (hK:g.K=KP P) {k:Nat} (hk:54 + k≤g.sl) {as:List AV} {ks:List (Str × AV)} {σ:AS}:TSat σ (pRow as ks σ) fun v σ'=>∀ n,CallP g n (.top 778) as ks σ v σ':=row_s fun m n hm=>by
 obtain ⟨hp,e⟩:=mode_call P m hm
 rw [Jx_eq] at e
 exact (pure_call (k:=k) hk (okQ (g:=g.slk k) (orcB (btOf m)) hK) e rfl rfl σ).ob fun z=>(acc_sz m hm).app (z.of (addOb_sfx _ _))
end
end
section
set_option maxHeartbeats 400000
noncomputable def asE (e:Stmt):Expr:=nthX (sE e) 0
noncomputable def asP (e:Stmt):Pos:=e.pos
noncomputable def lcEl (e:Expr):Expr:=nthX (kE e) 0
noncomputable def lcT (e:Expr):Expr:=nthX (kE e) 1
noncomputable def lcI (e:Expr):Expr:=nthX (kE e) 2
noncomputable def lcF (e:Expr):List Expr:=(kE e).drop 3
noncomputable def lcP (e:Expr):Pos:=e.pos
noncomputable def orL (e:Expr):List Expr:=kE e
noncomputable def orP (e:Expr):Pos:=e.pos
noncomputable def nthE (l:List Expr) (i:Nat):Expr:=nthX l i
theorem compA_run {turn:Nat→AS→Option (Option AS)} {test:AS→R Bool} {elt:AS→R AV} {n:Nat} {S S1 S2:Nat→AS} {b:Nat→Bool} {v:Nat→AV}
   (ht:∀ j,j<n→turn j (S j)=some (some (S1 j))) (hb:∀ j,j<n→test (S1 j)=.ok (b j) (S2 j)) (he:∀ j,j<n→b j=true→elt (S2 j)=.ok (v j) (S (j + 1))) (hf:∀ j,j<n→b j=false→S2 j=S (j + 1)) (hend:turn n (S n)=some none) (k:Nat) :
   compA turn test elt (k + n + 1) 0 [] (S 0)=.ok (((List.range n).filter b).map v) (S n):=by
 have go:∀ i,i≤n→compA turn test elt (k + n + 1) 0 [] (S 0)=compA turn test elt (k + (n - i) + 1) i (((List.range i).filter b).map v) (S i):=by
   intro i
   induction i with
   | zero=>intro _; rfl
   | succ i ih =>
     intro hi
     rw [ih (by omega)]
     have e:k + (n - i) + 1=(k + (n - (i + 1)) + 1) + 1:=by omega
     rw [e]
     show (match turn i (S i) with
       | .none=>R.bad
       | some .none=>.ok _ (S i)
       | some (some s₁)=>(test s₁).bind fun b s₂=>match b with
         | false=>compA turn test elt (k + (n - (i + 1)) + 1) (i + 1) _ s₂
         | true=>(elt s₂).bind fun v s₃=>compA turn test elt (k + (n - (i + 1)) + 1) (i + 1) (_++[v]) s₃)=_
     rw [ht i (by omega)]
     dsimp only
     rw [hb i (by omega)]
     rw [List.range_succ,List.filter_append,List.map_append]
     cases hbi:b i with
     | false =>
       show compA _ _ _ _ _ _ (S2 i)=_
       rw [hf i (by omega) hbi]
       simp [hbi]
     | true =>
       show (elt (S2 i)).bind _=_
       rw [he i (by omega) hbi]
       simp [hbi]
       rfl
 rw [go n (Nat.le_refl _)]
 show (match turn n (S n) with
   | .none=>R.bad
   | some .none=>.ok _ (S n)
   | some (some s₁)=>_)=_
 rw [hend]
theorem jx_comp {T:Tab} {sc cs:List (Str × NameKind)} {n:Nat} {el t it:Expr} {ifs:List Expr} {csc:Scope} {p:Pos} {s s₁ s₂:AS} {src:Src} {vs:List AV} (hc:(compOk sc csc.names t&&kindFn csc)=true) (hcs:compScn csc.names=cs) (h:srcA T (Jx T n) sc it s=.ok src s₁)
   (h2:compA (compTurn t src (cellLo cs s₁.lo)) (allA ((Jx T n).tr cs) ifs) ((Jx T n).ev cs el) T.turns 0 [] s₁=.ok vs s₂) :
   (Jx T (n + 1)).ev sc (.ListComp el [⟨t,it,ifs,.ofNat 0⟩] csc p) s=.ok (AV.obj s₂.hp.length) { s₂ with lo:=s₁.lo,hp:=s₂.hp++[AO.list vs],ob:=addOb vs.length s₂.ob }:=by
 subst hcs
 rw [Jx_eq] at h h2 ⊢
 show guardR (compOk sc csc.names t&&kindFn csc) ((srcA T (interp T n) sc it s).bind fun src s₁ =>
   (compA (compTurn t src (cellLo (compScn csc.names) s₁.lo)) (allA ((interp T n).tr (compScn csc.names)) ifs) ((interp T n).ev (compScn csc.names) el) T.turns 0 [] s₁).bind fun vs s₂ =>
     newA .list vs { s₂ with lo:=s₁.lo })=_
 rw [hc]
 show (srcA T (interp T n) sc it s).bind _=_
 rw [h]
 show (compA _ _ _ _ _ _ s₁).bind _=_
 rw [h2]
 rfl
theorem all_one {tr:Expr→AS→R Bool} {e:Expr} {s s₁:AS} {b:Bool} (h:tr e s=.ok b s₁):allA tr [e] s=.ok b s₁:=by
 show (tr e s).bind _=_
 rw [h]
 cases b <;> rfl
theorem jx_or {T:Tab} {sc:List (Str × NameKind)} {n:Nat} {a c:Expr} {p:Pos} {s s₁ s₂:AS} {b:Bool} (h1:(Jx T n).tr sc a s=.ok false s₁) (h2:(Jx T n).tr sc c s₁=.ok b s₂):(Jx T (n + 1)).tr sc (.BoolOp .Or [a,c] p) s=.ok b s₂:=by
 rw [Jx_eq] at h1 h2 ⊢
 show ((interp T n).tr sc a s).bind _=_
 rw [h1]
 show ((interp T n).tr sc c s₁).bind _=_
 rw [h2]
 cases b <;> rfl
theorem jx_or1 {T:Tab} {sc:List (Str × NameKind)} {n:Nat} {a c:Expr} {p:Pos} {s s₁:AS} (h1:(Jx T n).tr sc a s=.ok true s₁):(Jx T (n + 1)).tr sc (.BoolOp .Or [a,c] p) s=.ok true s₁:=by
 rw [Jx_eq] at h1 ⊢
 show ((interp T n).tr sc a s).bind _=_
 rw [h1]
 rfl
noncomputable def b947 (P:Params):List Stmt:=bodyK (KP P) 947
noncomputable def s947 (P:Params):List (Str × NameKind):=(FD (KP P) 947).scope.names
noncomputable def eC (P:Params):Expr:=asE (nthS (b947 P) 0)
noncomputable def eR (P:Params):Expr:=asE (nthS (b947 P) 1)
noncomputable def lcS:Expr→Scope | .ListComp _ _ s _=>s | _=>⟨.function,[],false,false,[]⟩
noncomputable def scC (P:Params):List (Str × NameKind):=compScn (lcS (eC P)).names
noncomputable def scZ (P:Params):List (Str × NameKind):=compScn (lcS (eR P)).names
noncomputable def cT (P:Params):Expr:=nthE (lcF (eC P)) 0
noncomputable def c0 (P:Params):Expr:=nthE (orL (cT P)) 0
noncomputable def c1' (P:Params):Expr:=nthE (orL (cT P)) 1
noncomputable def clR (x:Str):List (Str × AV):=[(S "signs",.obj 0),(S "signs",.str x)]
noncomputable def loC (x:Str) (i:Nat):List (Str × AV):=[(S "k",.int (Int.ofNat i)),(S "signs",.obj 0),(S "signs",.str x)]
noncomputable def rights:Str:=S "rwxsStT"
noncomputable def inR (x:Str) (i:Int):Bool:=rights.cps.toList.any ((Txt.charAt x i).getD 0).beq
noncomputable def obR (x:Str) (i:Int) (ob:List Nat):List Nat:=addOb rights.length (addOb (chk (fitsSsize i&&(Txt.charAt x i).isSome)) ob)
noncomputable def bC (x:Str):Nat→Bool
 | 0=>true
 | i + 1=>!(inR x (Int.ofNat (i + 1))==inR x (Int.ofNat (i + 1) - 1))
noncomputable def obC (x:Str) (ob:List Nat):Nat→List Nat
 | 0=>ob
 | 1=>ob
 | i + 2=>obR x (Int.ofNat (i + 1) - 1) (obR x (Int.ofNat (i + 1)) (obC x ob (i + 1)))
noncomputable def lo1 (x:Str):List (Str × AV):=[(S "signs",.obj 0),(S "signs",.str x)]
noncomputable def lo2 (x:Str):List (Str × AV):=[(S "signs",.obj 0),(S "signs",.str x),(S "cuts",.obj 1)]
noncomputable def cutsN (x:Str) (n:Nat):List Nat:=(List.range n).filter (bC x)
noncomputable def intL (l:List Nat):List AV:=l.map fun i=>.int (Int.ofNat i)
noncomputable def SC (x:Str) (hp:List AO) (ob:List Nat):Nat→AS
 | 0=>⟨lo1 x,hp,ob⟩
 | j + 1=>⟨loC x j,hp,obC x ob (j + 1)⟩
section
variable (P:Params) (x:Str) (i n:Nat) (hp:List AO) (ob:List Nat)
end
noncomputable def npS (e:Stmt):Pos:=(asT e).pos
section
variable (P:Params) (x:Str) (i n:Nat) (hp:List AO) (ob:List Nat)
theorem b947_eq:b947 P=[.Assign [.Name (S "cuts") (npS (nthS (b947 P) 0))] (eC P) (asP (nthS (b947 P) 0)),.Return (some (eR P)) (asP (nthS (b947 P) 1))]:=by kernel_rfl
theorem eC_eq:eC P=.ListComp (lcEl (eC P)) [⟨lcT (eC P),lcI (eC P),[.BoolOp .Or [c0 P,c1' P] (orP (cT P))],.ofNat 0⟩] (lcS (eC P)) (lcP (eC P)):=by kernel_rfl
theorem eR_eq:eR P=.ListComp (lcEl (eR P)) [⟨lcT (eR P),lcI (eR P),[],.ofNat 0⟩] (lcS (eR P)) (lcP (eR P)):=by kernel_rfl
theorem t_0:(Jx (T0 P) 41).tr (scC P) (c0 P) ⟨loC x 0,hp,ob⟩=.ok true ⟨loC x 0,hp,ob⟩:=by kernel_rfl
theorem t_k:(Jx (T0 P) 41).tr (scC P) (c0 P) ⟨loC x (i + 1),hp,ob⟩=.ok false ⟨loC x (i + 1),hp,ob⟩:=by kernel_rfl
theorem t_c:(Jx (T0 P) 41).tr (scC P) (c1' P) ⟨loC x (i + 1),.cell (some (.str x))::hp,ob⟩=.ok (bC x (i + 1)) ⟨loC x (i + 1),.cell (some (.str x))::hp,obR x (Int.ofNat (i + 1) - 1) (obR x (Int.ofNat (i + 1)) ob)⟩:=by kernel_rfl
theorem t_el:(Jx (T0 P) 42).ev (scC P) (lcEl (eC P)) ⟨loC x i,hp,ob⟩=.ok (.int (Int.ofNat i)) ⟨loC x i,hp,ob⟩:=by kernel_rfl
theorem t_ok:(compOk (s947 P) (lcS (eC P)).names (lcT (eC P))&&kindFn (lcS (eC P)))=true:=by kernel_rfl
theorem t_ok2:(compOk (s947 P) (lcS (eR P)).names (lcT (eR P))&&kindFn (lcS (eR P)))=true:=by kernel_rfl
theorem t_cl:cellLo (scC P) (lo1 x)=clR x:=by kernel_rfl
theorem t_cl2:cellLo (scZ P) (lo2 x)=clR x:=by kernel_rfl
end
end
section
set_option maxHeartbeats 400000
theorem jx_rng {T:Tab} {sc:List (Str × NameKind)} {n m:Nat} {f:Str} {q p:Pos} {a:Expr} {s:AS} (hns:noStar [a]=true) (h1:(Jx T n).ev sc (.Name f q) s=.ok (.bi .range) s) (h2:(Jx T n).ev sc a s=.ok (.int (Int.ofNat m)) s) (hm:m≤1000):srcA T (Jx T n) sc (.Call (.Name f q) [a] [] p) s=.ok (.rng m) s:=by
 show guardR (noStar [a]) (srcF T (Jx T n) sc (.Name f q) [a] s)=_
 rw [hns]
 show ((Jx T n).ev sc (.Name f q) s).bind _=_
 rw [h1]
 show (evL ((Jx T n).ev sc) [a] s).bind _=_
 have e:evL ((Jx T n).ev sc) [a] s=.ok [.int (Int.ofNat m)] s:=by
   show ((Jx T n).ev sc a s).bind _=_
   rw [h2]; rfl
 rw [e]
 show (match decide (0≤Int.ofNat m)&&decide (Int.ofNat m≤1000) with
   | true=>R.ok (Src.rng (Int.ofNat m).toNat) s
   | false=>.bad)=_
 have:(decide (0≤Int.ofNat m)&&decide (Int.ofNat m≤1000))=true:=by
   rw [Bool.and_eq_true,decide_eq_true_iff,decide_eq_true_iff]
   constructor
   · exact Int.natCast_nonneg m
   · show (m:Int)≤1000; omega
 rw [this]
 rfl
theorem turn_one {x:Str} {q:Pos} {n j:Nat} {lo:List (Str × AV)} {s:AS} (h:j<n):compTurn (.Name x q) (.rng n) lo j s=some (some { s with lo:=(x,.int (Int.ofNat j))::lo }):=by
 have hb:Nat.blt j n=true:=by simpa [Nat.blt_eq] using h
 unfold compTurn itemA
 dsimp only
 rw [hb]
 rfl
theorem turn_end {x:Str} {q:Pos} {n:Nat} {lo:List (Str × AV)} {s:AS}:compTurn (.Name x q) (.rng n) lo n s=some none:=by
 have hb:Nat.blt n n=false:=by
   cases h:Nat.blt n n with
   | false=>rfl
   | true=>rw [Nat.blt_eq] at h; omega
 unfold compTurn itemA
 dsimp only
 rw [hb]
theorem turn_zip {x y:Str} {q1 q2 q3:Pos} {st:Int} {k l j:Nat} {xs ys:List AV} {a b:AV} {lo:List (Str × AV)} {s:AS} (hx:listOf s.hp k=some xs) (hy:listOf s.hp l=some ys) (ha:atI xs j=some a) (hb:atI ys j=some b):compTurn (.Tuple [.Name x q1,.Name y q2] 0 q3) (.zip k l) lo j s=some (some { s with lo:=[(x,a),(y,b)]++lo }):=by
 unfold compTurn itemA
 dsimp only
 rw [hx,hy]
 dsimp only
 rw [ha,hb]
 rfl
theorem turn_zend {x y:Str} {q1 q2 q3:Pos} {k l j:Nat} {xs ys:List AV} {lo:List (Str × AV)} {s:AS} (hx:listOf s.hp k=some xs) (hy:listOf s.hp l=some ys) (ha:atI xs j=none):compTurn (.Tuple [.Name x q1,.Name y q2] 0 q3) (.zip k l) lo j s=some none:=by
 unfold compTurn itemA
 dsimp only
 rw [hx,hy]
 dsimp only
 rw [ha]
noncomputable def dsN (cs:List Nat) (n:Nat):List Nat:=cs.drop 1++[n]
noncomputable def hZ (x:Str) (cs:List Nat):List AO:=[.cell (some (.str x)),.list (intL cs),.list ((intL cs).drop 1),.list [.int x.length],.list ((intL cs).drop 1++[.int x.length])]
noncomputable def obZ (cs:List Nat) (ob:List Nat):List Nat:=addOb (((intL cs).drop 1).length + 1) (addOb 1 (addOb (intL cs).length ob))
noncomputable def pieceN (x:Str) (cs:List Nat) (j:Nat):Str:=Txt.slice x (some (Int.ofNat (cs.getD j 0))) (some (Int.ofNat ((dsN cs x.length).getD j 0)))
noncomputable def pieces (x:Str):List Str:=let cs:=cutsN x x.length; (List.range cs.length).map (pieceN x cs)
noncomputable def obC1 (x:Str):List Nat:=addOb (cutsN x x.length).length (SC x [] [] x.length).ob
noncomputable def npE (e:Expr):Pos:=e.pos
noncomputable def clP (e:Expr):Pos:=e.pos
noncomputable def tuA (e:Expr):Pos:=(nthX (kE e) 0).pos
noncomputable def tuB (e:Expr):Pos:=(nthX (kE e) 1).pos
noncomputable def tuQ (e:Expr):Pos:=e.pos
section
variable (P:Params) (x:Str) (i j n:Nat) (cs:List Nat) (hp:List AO) (ob:List Nat)
theorem lcT_C:lcT (eC P)=.Name (S "k") (npE (lcT (eC P))):=by kernel_rfl
theorem lcT_R:lcT (eR P)=.Tuple [.Name (S "a") (tuA (lcT (eR P))),.Name (S "b") (tuB (lcT (eR P)))] 0 (tuQ (lcT (eR P))):=by kernel_rfl
theorem lcI_C:lcI (eC P)=.Call (.Name (S "range") (npE (clF (lcI (eC P))))) [clA (lcI (eC P))] [] (clP (lcI (eC P))):=by kernel_rfl
theorem i_ns:noStar [clA (lcI (eC P))]=true:=by kernel_rfl
theorem i_rg (q:Pos):(Jx (T0 P) 42).ev (s947 P) (.Name (S "range") q) ⟨lo1 x,[.cell (some (.str x))],ob⟩=.ok (.bi .range) ⟨lo1 x,[.cell (some (.str x))],ob⟩:=by kernel_rfl
theorem i_ln:(Jx (T0 P) 42).ev (s947 P) (clA (lcI (eC P))) ⟨lo1 x,[.cell (some (.str x))],ob⟩=.ok (.int (Int.ofNat x.length)) ⟨lo1 x,[.cell (some (.str x))],ob⟩:=by kernel_rfl
theorem z_src:srcA (T0 P) (Jx (T0 P) 41) (s947 P) (lcI (eR P)) ⟨lo2 x,[.cell (some (.str x)),.list (intL cs)],ob⟩=.ok (.zip 1 4) ⟨lo2 x,hZ x cs,obZ cs ob⟩:=by kernel_rfl
theorem z_el:(Jx (T0 P) 41).ev (scZ P) (lcEl (eR P)) ⟨[(S "a",.int (Int.ofNat i)),(S "b",.int (Int.ofNat j))]++clR x,.cell (some (.str x))::hp,ob⟩=.ok (.str (Txt.slice x (some (Int.ofNat i)) (some (Int.ofNat j)))) ⟨[(S "a",.int (Int.ofNat i)),(S "b",.int (Int.ofNat j))]++clR x,.cell (some (.str x))::hp,ob⟩:=by kernel_rfl
theorem e_as:look (S "cuts") (s947 P)=some .local:=by kernel_rfl
theorem e_put (v:AV):put (S "cuts") v (lo1 x)=lo1 x++[(S "cuts",v)]:=by kernel_rfl
end
theorem intL_at (cs:List Nat) (j:Nat) (h:j<cs.length):atI (intL cs) j=some (.int (Int.ofNat (cs.getD j 0))):=by
 rw [atI_eq]
 unfold intL
 rw [List.getElem?_map,List.getElem?_eq_getElem h]
 simp [List.getD,h]
theorem intL_end (cs:List Nat):atI (intL cs) cs.length=none:=by
 rw [atI_eq]
 unfold intL
 simp
theorem ds_int (x:Str) (cs:List Nat):(intL cs).drop 1++[.int x.length]=intL (dsN cs x.length):=by
 unfold intL dsN
 rw [List.map_append,List.map_drop]
 rfl
end
section
set_option maxHeartbeats 400000
noncomputable def hC (x:Str):List AO:=[.cell (some (.str x))]
noncomputable def S1C (x:Str) (j:Nat):AS:=⟨loC x j,hC x,obC x [] j⟩
noncomputable def S2C (x:Str) (j:Nat):AS:=⟨loC x j,hC x,obC x [] (j + 1)⟩
noncomputable def intV (j:Nat):AV:=.int (Int.ofNat j)
theorem c_el (P:Params) (x:Str) (j:Nat):(Jx (T0 P) 42).ev (scC P) (lcEl (eC P)) (S2C x j)=.ok (intV j) (SC x (hC x) [] (j + 1)):=by
 have e:S2C x j=⟨loC x j,hC x,obC x [] (j + 1)⟩:=rfl
 rw [e]
 exact t_el P x j _ _
theorem c_t (P:Params) (x:Str):∀ j,allA ((Jx (T0 P) 42).tr (scC P)) [.BoolOp .Or [c0 P,c1' P] (orP (cT P))] (S1C x j)=.ok (bC x j) (S2C x j)
 | 0=>by
   have e:S1C x 0=⟨loC x 0,hC x,[]⟩:=rfl
   rw [e]
   exact all_one (jx_or1 (t_0 P x _ _))
 | i + 1=>by
   have e:S1C x (i + 1)=⟨loC x (i + 1),hC x,obC x [] (i + 1)⟩:=rfl
   rw [e]
   exact all_one (jx_or (t_k P x i _ _) (t_c P x i [] _))
theorem c_turn (P:Params) (x:Str) (j:Nat) (hj:j<x.length):compTurn (lcT (eC P)) (.rng x.length) (cellLo (scC P) (lo1 x)) j (SC x (hC x) [] j)=some (some (S1C x j)):=by
 rw [lcT_C,t_cl,turn_one hj]
 cases j with
 | zero=>rfl
 | succ j=>rfl
theorem c_hp (x:Str) (hp:List AO) (j:Nat):(SC x hp [] j).hp=hp:=by cases j <;> rfl
theorem c_ob (x:Str) (hp:List AO) (j:Nat):(SC x hp [] j).ob=(SC x [] [] j).ob:=by cases j <;> rfl
theorem c_all (P:Params) (x:Str) (k:Nat):compA (compTurn (lcT (eC P)) (.rng x.length) (cellLo (scC P) (lo1 x))) (allA ((Jx (T0 P) 42).tr (scC P)) [.BoolOp .Or [c0 P,c1' P] (orP (cT P))]) ((Jx (T0 P) 42).ev (scC P) (lcEl (eC P))) (k + x.length + 1) 0 [] (SC x (hC x) [] 0)=.ok (((List.range x.length).filter (bC x)).map intV) (SC x (hC x) [] x.length) :=
 compA_run (S1:=S1C x) (S2:=S2C x) (c_turn P x) (fun j _=>c_t P x j) (fun j _ _=>c_el P x j) (fun j _ _=>rfl) (by rw [lcT_C]; exact turn_end) k
theorem c_src (P:Params) (x:Str) (h:x.length≤900):srcA (T0 P) (Jx (T0 P) 42) (s947 P) (lcI (eC P)) ⟨lo1 x,[.cell (some (.str x))],[]⟩=.ok (.rng x.length) ⟨lo1 x,[.cell (some (.str x))],[]⟩:=by
 rw [lcI_C]
 exact jx_rng (i_ns P) (i_rg P x [] _) (i_ln P x []) (by omega)
theorem c_fin (x:Str):R.ok (AV.obj (SC x (hC x) [] x.length).hp.length) { SC x (hC x) [] x.length with lo:=lo1 x,hp:=(SC x (hC x) [] x.length).hp++[.list (((List.range x.length).filter (bC x)).map intV)],ob:=addOb (((List.range x.length).filter (bC x)).map intV).length (SC x (hC x) [] x.length).ob }=.ok (.obj 1) ⟨lo1 x,[.cell (some (.str x)),.list (intL (cutsN x x.length))],obC1 x⟩:=by
 rw [c_hp,c_ob,List.length_map]
 rfl
end
section
set_option maxHeartbeats 400000
theorem cc (P:Params) (x:Str) (h:x.length≤900):compA (compTurn (lcT (eC P)) (.rng x.length) (cellLo (scC P) (lo1 x))) (allA ((Jx (T0 P) 42).tr (scC P)) [.BoolOp .Or [c0 P,c1' P] (orP (cT P))]) ((Jx (T0 P) 42).ev (scC P) (lcEl (eC P))) (T0 P).turns 0 [] (SC x (hC x) [] 0)=.ok (((List.range x.length).filter (bC x)).map intV) (SC x (hC x) [] x.length):=by
 have ht:(T0 P).turns=(999 - x.length) + x.length + 1:=by show 1000=_; omega
 rw [ht]
 exact c_all P x (999 - x.length)
theorem ccs (P:Params) (x:Str) (h:x.length≤900):srcA (T0 P) (Jx (T0 P) 42) (s947 P) (lcI (eC P)) (SC x (hC x) [] 0)=.ok (.rng x.length) (SC x (hC x) [] 0):=c_src P x h
theorem runs_a (P:Params) (x:Str) (h:x.length≤900):(Jx (T0 P) (42 + 1)).ev (s947 P) (.ListComp (lcEl (eC P)) [⟨lcT (eC P),lcI (eC P),[.BoolOp .Or [c0 P,c1' P] (orP (cT P))],.ofNat 0⟩] (lcS (eC P)) (lcP (eC P))) (SC x (hC x) [] 0)=.ok (AV.obj (SC x (hC x) [] x.length).hp.length) { SC x (hC x) [] x.length with lo:=(SC x (hC x) [] 0).lo,hp:=(SC x (hC x) [] x.length).hp++[AO.list (((List.range x.length).filter (bC x)).map intV)],ob:=addOb (((List.range x.length).filter (bC x)).map intV).length (SC x (hC x) [] x.length).ob } :=
 jx_comp (cs:=scC P) (t_ok P) rfl (ccs P x h) (cc P x h)
theorem SC0 (x:Str):SC x (hC x) [] 0=⟨lo1 x,hC x,[]⟩:=rfl
theorem runs_b (P:Params) (x:Str) (h:x.length≤900):(Jx (T0 P) (42 + 1)).ev (s947 P) (eC P) ⟨lo1 x,hC x,[]⟩=.ok (.obj 1) ⟨lo1 x,[.cell (some (.str x)),.list (intL (cutsN x x.length))],obC1 x⟩:=by
 have a:=(runs_a P x h).trans (c_fin x)
 rw [← eC_eq,SC0] at a
 exact a
end
section
set_option maxHeartbeats 400000
structure Rt where
 st:Ls
 tok:List Nat
 ln:Int
 dn:List Nat
 rest:List Nat
 pb:Option Nat
noncomputable def runS (st:Ls) (tok:List Nat) (ln:Int) (dn:List Nat):List Nat→Option Rt
 | []=>match st with
   | .sp=>some ⟨.end_,[],ln,dn,[],.none⟩
   | _=>.none
 | c::r=>match st with
   | .sp=>(match clOf c with
     | .ws=>runS .sp [] (lnN c ln) (dn++[c]) r
     | .wd=>runS .wd [c] ln (dn++[c]) r
     | .pn=>runS .pn [c] ln (dn++[c]) r
     | .qt=>runS .qt [c] ln (dn++[c]) r
     | .ot=>some ⟨.sp,[c],ln,dn++[c],r,.none⟩)
   | .wd=>(match clOf c with
     | .ws=>some ⟨.sp,tok,lnN c ln,dn++[c],r,.none⟩
     | .wd=>runS .wd (tok++[c]) ln (dn++[c]) r
     | .qt=>runS .wd (tok++[c]) ln (dn++[c]) r
     | _=>some ⟨.sp,tok,ln,dn++[c],r,some c⟩)
   | .pn=>(match clOf c with
     | .ws=>some ⟨.sp,tok,lnN c ln,dn++[c],r,.none⟩
     | .pn=>runS .pn (tok++[c]) ln (dn++[c]) r
     | _=>some ⟨.sp,tok,ln,dn++[c],r,some c⟩)
   | .qt=>(match clOf c with
     | .qt=>some ⟨.sp,tok++[c],ln,dn++[c],r,.none⟩
     | _=>runS .qt (tok++[c]) (lnN c ln) (dn++[c]) r)
   | .end_=>.none
theorem runS_c {st:Ls} {tok:List Nat} {ln:Int} {dn:List Nat} {c:Nat} {r:List Nat}:runS st tok ln dn (c::r)=(match st with
   | .sp=>(match clOf c with
     | .ws=>runS .sp [] (lnN c ln) (dn++[c]) r
     | .wd=>runS .wd [c] ln (dn++[c]) r
     | .pn=>runS .pn [c] ln (dn++[c]) r
     | .qt=>runS .qt [c] ln (dn++[c]) r
     | .ot=>some ⟨.sp,[c],ln,dn++[c],r,.none⟩)
   | .wd=>(match clOf c with
     | .ws=>some ⟨.sp,tok,lnN c ln,dn++[c],r,.none⟩
     | .wd=>runS .wd (tok++[c]) ln (dn++[c]) r
     | .qt=>runS .wd (tok++[c]) ln (dn++[c]) r
     | _=>some ⟨.sp,tok,ln,dn++[c],r,some c⟩)
   | .pn=>(match clOf c with
     | .ws=>some ⟨.sp,tok,lnN c ln,dn++[c],r,.none⟩
     | .pn=>runS .pn (tok++[c]) ln (dn++[c]) r
     | _=>some ⟨.sp,tok,ln,dn++[c],r,some c⟩)
   | .qt=>(match clOf c with
     | .qt=>some ⟨.sp,tok++[c],ln,dn++[c],r,.none⟩
     | _=>runS .qt (tok++[c]) (lnN c ln) (dn++[c]) r)
   | .end_=>.none):=rfl
noncomputable def rtok (ln:Int) (dn rest:List Nat) (pb:Option Nat):Option Rt:=match pb with
 | .none=>runS .sp [] ln dn rest
 | some c=>match clOf c with
   | .ws=>runS .sp [] (lnN c ln) dn rest
   | .wd=>runS .wd [c] ln dn rest
   | .pn=>runS .pn [c] ln dn rest
   | .qt=>runS .qt [c] ln dn rest
   | .ot=>some ⟨.sp,[c],ln,dn,rest,.none⟩
theorem map_at {α β:Type} {f g:α→β}:∀ {l:List α},l.map f=l.map g→∀ c∈l,f c=g c
 | [],_,c,h=>by cases h
 | a::r,e,c,h=>by
   obtain ⟨e1,e2⟩:=List.cons.inj e
   rcases List.mem_cons.mp h with rfl | h
   · exact e1
   · exact map_at e2 c h
theorem snocS (tok:List Nat) (c:Nat):(⟨⟨tok⟩⟩:Str)++(⟨⟨[c]⟩⟩:Str)=⟨⟨tok++[c]⟩⟩:=by
 show (⟨(⟨tok⟩:Array Nat)++(⟨[c]⟩:Array Nat)⟩:Str)=_
 simp
theorem strLen (tok:List Nat):(⟨⟨tok⟩⟩:Str).length=tok.length:=by simp [Str.length]
theorem obT_sz {tok:List Nat} {c:Nat} {ob:List Nat} (h:tok.length + 1≤1000000) (z:Sz ob):Sz (obT tok c ob):=by
 unfold obT
 refine Sz.add ?_ z
 rw [strLen,strLen,sizeLine_eq]
 show tok.length + 1≤_
 omega
noncomputable def sW (P:Params):Stmt:=nthS (bodyK (KP P) 695) 2
noncomputable def tW (P:Params):Expr:=ifT (sW P)
theorem tr_W (P:Params) (σ:AS):(Jx (T1 P) 60).tr (scR P) (tW P) σ=.ok true σ:=by kernel_rfl
noncomputable abbrev LW (P:Params) (k:Nat) (σ:AS):R Fl:=loopW ((Jx (T1 P) 60).tr (scR P) (tW P)) ((Jx (T1 P) 60).exs (scR P) (bw P)) k σ
noncomputable def lwK (P:Params) (k:Nat) (f:Fl) (s₂:AS):R Fl:=match f with
 | .next=>LW P k s₂
 | .cont=>LW P k s₂
 | .brk=>.ok .next s₂
 | .ret v=>.ok (.ret v) s₂
theorem LW_succ (P:Params) (k:Nat) (σ:AS):LW P (k + 1) σ=((Jx (T1 P) 60).exs (scR P) (bw P) σ).bind (lwK P k):=by
 show ((Jx (T1 P) 60).tr (scR P) (tW P) σ).bind _=_
 rw [tr_W]
 rfl
noncomputable def OkSt (st:Ls) (tok:List Nat):Prop:=match st with
 | .sp=>tok=[]
 | .end_=>False
 | _=>∃ t ts,tok=t::ts
theorem OSat.imp {α:Type} {o:Option α} {P P':α→Prop} (h:OSat o P) (k:∀ a,P a→P' a):OSat o P':=by
 cases o with
 | none=>exact True.intro
 | some a=>exact k a h
noncomputable def LwOk (post:List AO) (r:R Fl) (n:Nat) (ob:List Nat) (t:Rt):Prop:=∃ qd' nc' ob',r=.ok .next ⟨loN qd' nc',lexH t.st ⟨⟨t.tok⟩⟩ t.ln t.dn t.rest t.pb post,ob'⟩∧(n≤1000000→Sz ob→Sz ob')
section
variable {post:List AO} {r:R Fl} {n n':Nat} {tok:List Nat} {c:Nat} {ob:List Nat} {t:Rt}
theorem LwOk.w (h:LwOk post r n ob t) (hn:n≤n'):LwOk post r n' ob t :=
 h.imp fun _ h=>h.imp fun _ h=>h.imp fun _ h=>⟨h.1,fun hl z=>h.2 (Nat.le_trans hn hl) z⟩
theorem LwOk.tt (h:LwOk post r n (obT tok c ob) t) (hn:n≤n') (ht:tok.length + 1≤n'):LwOk post r n' ob t :=
 h.imp fun _ h=>h.imp fun _ h=>h.imp fun _ h=>⟨h.1,fun hl z=>h.2 (Nat.le_trans hn hl) (obT_sz (Nat.le_trans ht hl) z)⟩
end
noncomputable def runC (c:Nat) (ln:Int) (dn r:List Nat):Option Rt:=match clOf c with
 | .ws=>runS .sp [] (lnN c ln) dn r
 | .wd=>runS .wd [c] ln dn r
 | .pn=>runS .pn [c] ln dn r
 | .qt=>runS .qt [c] ln dn r
 | .ot=>some ⟨.sp,[c],ln,dn,r,.none⟩
noncomputable def RunAll (P:Params) (post:List AO) (rest:List Nat):Prop:=∀ (st:Ls) (tok:List Nat) (ln:Int) (dn:List Nat) (k:Nat) (qd:Bool) (nc:AV) (ob:List Nat),OkSt st tok→rest.length<k→OSat (runS st tok ln dn rest) (LwOk post (LW P k ⟨loN qd nc,lexH st ⟨⟨tok⟩⟩ ln dn rest .none post,ob⟩) (tok.length + rest.length) ob)
theorem sp_step {P:Params} {post:List AO} {r:List Nat} (ih:RunAll P post r) {c:Nat} {qd:Bool} {ln:Int} {dn:List Nat} {k:Nat} {ob:List Nat} (hk:r.length<k):OSat (runC c ln dn r) (LwOk post ((rSp c qd ln dn r post ob).bind (lwK P k)) (r.length + 1) ob):=by
 unfold runC rSp
 cases clOf c with
 | ws=>exact (ih .sp [] _ _ k _ _ ob rfl hk).imp fun t h=>h.w (Nat.le_trans (Nat.le_of_eq (Nat.zero_add _)) (Nat.le_succ _))
 | wd=>exact (ih .wd [c] _ _ k _ _ ob ⟨c,[],rfl⟩ hk).imp fun t h=>h.w (Nat.le_of_eq (Nat.add_comm _ _))
 | pn=>exact (ih .pn [c] _ _ k _ _ ob ⟨c,[],rfl⟩ hk).imp fun t h=>h.w (Nat.le_of_eq (Nat.add_comm _ _))
 | qt=>exact (ih .qt [c] _ _ k _ _ ob ⟨c,[],rfl⟩ hk).imp fun t h=>h.w (Nat.le_of_eq (Nat.add_comm _ _))
 | ot=>exact ⟨_,_,_,rfl,fun _ z=>z⟩
theorem loop_run (P:Params) (post:List AO) (rest:List Nat):(∀ c∈rest,c∈signs)→RunAll P post rest:=by
 induction rest with
 | nil =>
   intro _ st tok ln dn k qd nc ob hok hk
   cases k with
   | zero=>exact absurd hk (Nat.not_lt_zero _)
   | succ k =>
   cases st with
   | sp =>
     have hok:tok=[]:=hok
     subst hok
     refine (?_:LwOk post _ _ ob ⟨.end_,[],ln,dn,[],.none⟩)
     rw [LW_succ,k_spN0 P qd nc dn ln post ob]
     exact ⟨qd,.str ⟨⟨[]⟩⟩,ob,rfl,fun _ z=>z⟩
   | wd=>exact True.intro
   | pn=>exact True.intro
   | qt=>exact True.intro
   | end_=>exact hok.elim
 | cons c r ih =>
   intro hin st tok ln dn k qd nc ob hok hk
   have ih:=ih fun c h=>hin c (.tail _ h)
   have hc:=hin c (.head _)
   cases k with
   | zero=>exact absurd hk (Nat.not_lt_zero _)
   | succ k =>
   have hk:r.length<k:=Nat.lt_of_succ_lt_succ hk
   rw [LW_succ]
   cases st with
   | sp =>
     have hok:tok=[]:=hok
     subst hok
     rw [show (Jx (T1 P) 60).exs (scR P) (bw P) ⟨loN qd nc,lexH .sp ⟨⟨[]⟩⟩ ln dn (c::r) .none post,ob⟩=_ from map_at (k_spN P qd nc dn r ln post ob) c hc]
     exact (sp_step ih hk).imp fun t h=>h.w (Nat.le_of_eq (Nat.zero_add _).symm)
   | wd =>
     obtain ⟨t0,ts,rfl⟩:=hok
     rw [show (Jx (T1 P) 60).exs (scR P) (bw P) ⟨loN qd nc,lexH .wd ⟨⟨t0::ts⟩⟩ ln dn (c::r) .none post,ob⟩=_ from map_at (k_wd P qd nc t0 ts dn r ln post ob) c hc]
     have more:OSat (runS .wd (t0::ts++[c]) ln (dn++[c]) r) (LwOk post (LW P k ⟨loN qd (ch c),lexH .wd (⟨⟨t0::ts⟩⟩++⟨⟨[c]⟩⟩) ln (dn++[c]) r .none post,obT (t0::ts) c ob⟩) ((t0::ts).length + (c::r).length) ob):=by
       rw [snocS]
       exact (ih .wd (t0::ts++[c]) _ _ k qd (ch c) (obT (t0::ts) c ob) ⟨t0,ts++[c],rfl⟩ hk).imp fun t h=>h.tt (by simp; omega) (by simp)
     rw [runS_c]
     unfold rWd
     cases clOf c with
     | ws=>exact ⟨_,_,_,rfl,fun _ z=>z⟩
     | wd=>exact more
     | qt=>exact more
     | pn=>exact ⟨_,_,_,rfl,fun _ z=>z⟩
     | ot=>exact ⟨_,_,_,rfl,fun _ z=>z⟩
   | pn =>
     obtain ⟨t0,ts,rfl⟩:=hok
     rw [show (Jx (T1 P) 60).exs (scR P) (bw P) ⟨loN qd nc,lexH .pn ⟨⟨t0::ts⟩⟩ ln dn (c::r) .none post,ob⟩=_ from map_at (k_pn P qd nc t0 ts dn r ln post ob) c hc]
     rw [runS_c]
     unfold rPn
     cases clOf c with
     | pn =>
       have more:=ih .pn (t0::ts++[c]) ln (dn++[c]) k qd (ch c) (obT (t0::ts) c ob) ⟨t0,ts++[c],rfl⟩ hk
       rw [← snocS] at more
       exact more.imp fun t h=>h.tt (by simp; omega) (by simp)
     | ws=>exact ⟨_,_,_,rfl,fun _ z=>z⟩
     | wd=>exact ⟨_,_,_,rfl,fun _ z=>z⟩
     | qt=>exact ⟨_,_,_,rfl,fun _ z=>z⟩
     | ot=>exact ⟨_,_,_,rfl,fun _ z=>z⟩
   | qt =>
     obtain ⟨t0,ts,rfl⟩:=hok
     rw [show (Jx (T1 P) 60).exs (scR P) (bw P) ⟨loN qd nc,lexH .qt ⟨⟨t0::ts⟩⟩ ln dn (c::r) .none post,ob⟩=_ from map_at (k_qt P qd nc t0 ts dn r ln post ob) c hc]
     have more:OSat (runS .qt (t0::ts++[c]) (lnN c ln) (dn++[c]) r) (LwOk post (LW P k ⟨loN true (ch c),lexH .qt (⟨⟨t0::ts⟩⟩++⟨⟨[c]⟩⟩) (lnN c ln) (dn++[c]) r .none post,obT (t0::ts) c ob⟩) ((t0::ts).length + (c::r).length) ob):=by
       rw [snocS]
       exact (ih .qt (t0::ts++[c]) _ _ k true (ch c) (obT (t0::ts) c ob) ⟨t0,ts++[c],rfl⟩ hk).imp fun t h=>h.tt (by simp; omega) (by simp)
     rw [runS_c]
     unfold rQt
     cases clOf c with
     | qt =>
       refine (?_:LwOk post (.ok .next ⟨loN true (ch c),lexH .sp (⟨⟨t0::ts⟩⟩++⟨⟨[c]⟩⟩) ln (dn++[c]) r .none post,obT (t0::ts) c ob⟩) _ ob ⟨.sp,t0::ts++[c],ln,dn++[c],r,.none⟩)
       rw [snocS]
       exact ⟨_,_,_,rfl,fun hl z=>obT_sz (by simp at hl ⊢; omega) z⟩
     | ws=>exact more
     | wd=>exact more
     | pn=>exact more
     | ot=>exact more
   | end_=>exact hok.elim
end
section
set_option maxHeartbeats 400000
theorem jx_meth {T:Tab} {sc:List (Str × NameKind)} {n:Nat} {s s₁:AS} {o m:Str} {q2 ap p1:Pos} {v r:AV} {f:Nat} (hspc:T.spc sc (.Call (.Attribute (.Name o q2) m ap) [] [] p1) s=.none) (hline:(ap.endLine==p1.line)=true)
   (ho:(Jx T n).ev sc (.Name o q2) s=.ok v s) (hm:methF T v m s.hp=some (.fn f)) (hc:(Jx T n).call (.top f) [v] [] s=.ok r s₁):(Jx T (n + 1)).ev sc (.Call (.Attribute (.Name o q2) m ap) [] [] p1) s=.ok r s₁:=by
 rw [Jx_eq] at ho hc ⊢
 show (T.spc sc (.Call (.Attribute (.Name o q2) m ap) [] [] p1) s).getD (evCall T (interp T n) sc (.Attribute (.Name o q2) m ap) [] [] p1 s)=_
 rw [hspc]
 show guardR (ap.endLine==p1.line&&decide (([]:List Expr).length + ([]:List Keyword).length<15)&&baseOk (.Name o q2)) (evM T (interp T n) sc (.Name o q2) m [] [] s)=_
 rw [hline]
 show ((interp T n).ev sc (.Name o q2) s).bind _=_
 rw [ho]
 show (optR (methF T v m s.hp) s).bind _=_
 rw [hm]
 exact hc
theorem jx_assign {T:Tab} {sc:List (Str × NameKind)} {n:Nat} {s s₁:AS} {x:Str} {q p:Pos} {e:Expr} {r:AV} (hx:look x sc=some .local) (h:(Jx T n).ev sc e s=.ok r s₁):(Jx T (n + 1)).ex sc (.Assign [.Name x q] e p) s=.ok .next { s₁ with lo:=put x r s₁.lo }:=by
 rw [Jx_eq] at h ⊢
 show guardR (isLocal (look x sc)) (((interp T n).ev sc e s).bind (putR x))=_
 rw [hx]
 show ((interp T n).ev sc e s).bind _=_
 rw [h]
 rfl
noncomputable def b695 (P:Params):List Stmt:=bodyK (KP P) 695
theorem b695_eq (P:Params):b695 P=nthS (b695 P) 0::nthS (b695 P) 1::.While (tW P) (bw P) [] (ifP (sW P))::(b695 P).drop 3:=by kernel_rfl
noncomputable def loR (qd:Bool) (nc:AV) (tk:Str):List (Str × AV):=[(S "self",.obj 1),(S "quoted",.bool qd),(S "escapedstate",.str (S " ")),(S "nextchar",nc),(S "result",.str tk)]
noncomputable def lexE:Str:=⟨⟨[]⟩⟩
section
variable (P:Params) (qd:Bool) (nc:AV) (st:Ls) (tk:Str) (ln:Int) (dn rest:List Nat) (pb:Option Nat) (post:List AO) (ob:List Nat)
theorem r_s0:(Jx (T1 P) 63).ex (scR P) (nthS (b695 P) 0) ⟨[(S "self",.obj 1)],lexH st tk ln dn rest pb post,ob⟩=.ok .next ⟨[(S "self",.obj 1),(S "quoted",.bool false)],lexH st tk ln dn rest pb post,ob⟩:=by kernel_rfl
theorem r_s1:(Jx (T1 P) 62).ex (scR P) (nthS (b695 P) 1) ⟨[(S "self",.obj 1),(S "quoted",.bool false)],lexH st tk ln dn rest pb post,ob⟩=.ok .next ⟨loF false,lexH st tk ln dn rest pb post,ob⟩:=by kernel_rfl
theorem r_end:(Jx (T1 P) 61).exs (scR P) ((b695 P).drop 3) ⟨loN qd nc,lexH st tk ln dn rest pb post,ob⟩=.ok (.ret (.str tk)) ⟨loR qd nc tk,lexH st lexE ln dn rest pb post,ob⟩:=by kernel_rfl
end
theorem enter695 (P:Params) (σ:AS):(T1 P).prim 695 [.obj 1] [] σ=.none∧(T1 P).make 695=.none∧(T1 P).fn 695=some (fi695 P)∧enter (fi695 P) [.obj 1] [] σ.hp=some ([(S "self",.obj 1)],σ.hp)∧(fi695 P).scn=scR P∧(fi695 P).body=b695 P:=⟨by kernel_rfl,by kernel_rfl,by kernel_rfl,by kernel_rfl,by kernel_rfl,by kernel_rfl⟩
theorem loop_all (P:Params) (post:List AO) {rest:List Nat} {ln:Int} {dn:List Nat} {pb:Option Nat} {ob:List Nat} {t:Rt} {k:Nat} (hin:∀ c∈rest,c∈signs) (hpb:∀ c,pb=some c→c∈signs) (h:rtok ln dn rest pb=some t) (hk:rest.length<k) (hl:rest.length≤1000) :
   ∃ qd' nc' ob',LW P (k + 1) ⟨loF false,lexH .sp lexE ln dn rest pb post,ob⟩=.ok .next ⟨loN qd' nc',lexH t.st ⟨⟨t.tok⟩⟩ t.ln t.dn t.rest t.pb post,ob'⟩∧(Sz ob→Sz ob'):=by
 have fin:∀ (c:Nat) (r dn':List Nat),r.length≤rest.length→(∀ c∈r,c∈signs)→runC c ln dn' r=some t→∃ qd' nc' ob',(rSp c false ln dn' r post ob).bind (lwK P k)=.ok .next ⟨loN qd' nc',lexH t.st ⟨⟨t.tok⟩⟩ t.ln t.dn t.rest t.pb post,ob'⟩∧(Sz ob→Sz ob'):=fun c r dn' hr hin' ht =>
   ((sp_step (loop_run P post r hin') (Nat.lt_of_le_of_lt hr hk)).use ht).imp fun _ h=>h.imp fun _ h=>h.imp fun _ h=>⟨h.1,h.2 (by omega)⟩
 rw [LW_succ]
 cases pb with
 | some c =>
   rw [show (Jx (T1 P) 60).exs (scR P) (bw P) ⟨loF false,lexH .sp lexE ln dn rest (some c) post,ob⟩=_ from map_at (k_spP P false dn rest ln post ob) c (hpb c rfl)]
   exact fin c rest dn (Nat.le_refl _) hin h
 | none =>
   have h:runS .sp [] ln dn rest=some t:=h
   cases rest with
   | nil =>
     cases h
     refine ⟨false,.str ⟨⟨[]⟩⟩,ob,?_,fun z=>z⟩
     rw [show (Jx (T1 P) 60).exs (scR P) (bw P) ⟨loF false,lexH .sp lexE ln dn [] .none post,ob⟩=_ from k_spF0 P false dn ln post ob]
     rfl
   | cons c r =>
     rw [show (Jx (T1 P) 60).exs (scR P) (bw P) ⟨loF false,lexH .sp lexE ln dn (c::r) .none post,ob⟩=_ from map_at (k_spF P false dn r ln post ob) c (hin c (.head _))]
     exact fin c r (dn++[c]) (Nat.le_succ _) (fun c h=>hin c (.tail _ h)) h
theorem turns1 (P:Params):(T1 P).turns=999 + 1:=rfl
theorem read_call (P:Params) (post:List AO) {rest:List Nat} {ln:Int} {dn:List Nat} {pb:Option Nat} {lo:List (Str × AV)} {ob:List Nat} {t:Rt} (hin:∀ c∈rest,c∈signs) (hpb:∀ c,pb=some c→c∈signs) (h:rtok ln dn rest pb=some t) (hl:rest.length<999) :
   ∃ ob',(Jx (T1 P) 65).call (.top 695) [.obj 1] [] ⟨lo,lexH .sp lexE ln dn rest pb post,ob⟩=.ok (.str ⟨⟨t.tok⟩⟩) ⟨lo,lexH t.st lexE t.ln t.dn t.rest t.pb post,ob'⟩∧(Sz ob→Sz ob'):=by
 obtain ⟨qd,nc,ob',h1,h2⟩:=loop_all P post (ob:=ob) hin hpb h hl (by omega)
 obtain ⟨e1,e2,e3,e4,e5,e6⟩:=enter695 P ⟨lo,lexH .sp lexE ln dn rest pb post,ob⟩
 refine ⟨ob',?_,h2⟩
 rw [jx_call e1 e2 e3 e4 e5 e6,b695_eq]
 rw [jx_next (r_s0 P .sp lexE ln dn rest pb post ob),jx_next (r_s1 P .sp lexE ln dn rest pb post ob)]
 rw [jx_next (n:=61) (s₁:=⟨loN qd nc,lexH t.st ⟨⟨t.tok⟩⟩ t.ln t.dn t.rest t.pb post,ob'⟩) (by rw [jx_while,turns1]; exact h1)]
 rw [r_end]
 rfl
end
section
set_option maxHeartbeats 400000
noncomputable def loZ (x:Str) (cs:List Nat) (j:Nat):List (Str × AV):=[(S "a",.int (Int.ofNat (cs.getD j 0))),(S "b",.int (Int.ofNat ((dsN cs x.length).getD j 0)))]++clR x
noncomputable def SZ (x:Str) (cs:List Nat) (ob:List Nat):Nat→AS
 | 0=>⟨lo2 x,hZ x cs,ob⟩
 | j + 1=>⟨loZ x cs j,hZ x cs,ob⟩
noncomputable def S1Z (x:Str) (cs:List Nat) (ob:List Nat) (j:Nat):AS:=⟨loZ x cs j,hZ x cs,ob⟩
noncomputable def hZr (x:Str) (cs:List Nat):List AO:=[.list (intL cs),.list ((intL cs).drop 1),.list [.int x.length],.list ((intL cs).drop 1++[.int x.length])]
noncomputable def pcV (x:Str) (cs:List Nat) (j:Nat):AV:=.str (pieceN x cs j)
noncomputable def tT (_:Nat):Bool:=true
theorem SZ_hp (x:Str) (cs:List Nat) (ob:List Nat) (j:Nat):(SZ x cs ob j).hp=hZ x cs:=by cases j <;> rfl
theorem SZ_ob (x:Str) (cs:List Nat) (ob:List Nat) (j:Nat):(SZ x cs ob j).ob=ob:=by cases j <;> rfl
theorem z_e (P:Params) (x:Str) (cs:List Nat) (ob:List Nat) (j:Nat):(Jx (T0 P) 41).ev (scZ P) (lcEl (eR P)) (S1Z x cs ob j)=.ok (pcV x cs j) (SZ x cs ob (j + 1)):=by
 have e:S1Z x cs ob j=⟨[(S "a",.int (Int.ofNat (cs.getD j 0))),(S "b",.int (Int.ofNat ((dsN cs x.length).getD j 0)))]++clR x,.cell (some (.str x))::hZr x cs,ob⟩:=rfl
 rw [e]
 exact z_el P x _ _ _ _
theorem z_turn (P:Params) (x:Str) (cs:List Nat) (ob:List Nat) (j:Nat) (hj:j<cs.length):compTurn (lcT (eR P)) (.zip 1 4) (cellLo (scZ P) (lo2 x)) j (SZ x cs ob j)=some (some (S1Z x cs ob j)):=by
 rw [lcT_R,t_cl2]
 have hx:listOf (SZ x cs ob j).hp 1=some (intL cs):=by rw [SZ_hp]; rfl
 have hy:listOf (SZ x cs ob j).hp 4=some (intL (dsN cs x.length)):=by rw [SZ_hp,← ds_int]; rfl
 have hl:(dsN cs x.length).length=cs.length:=by
   unfold dsN
   rw [List.length_append,List.length_drop]
   simp
   omega
 rw [turn_zip (st:=0) hx hy (intL_at cs j hj) (intL_at (dsN cs x.length) j (by omega))]
 cases j with
 | zero=>rfl
 | succ j=>rfl
theorem z_end (P:Params) (x:Str) (cs:List Nat) (ob:List Nat):compTurn (lcT (eR P)) (.zip 1 4) (cellLo (scZ P) (lo2 x)) cs.length (SZ x cs ob cs.length)=some none:=by
 rw [lcT_R,t_cl2]
 have hx:listOf (SZ x cs ob cs.length).hp 1=some (intL cs):=by rw [SZ_hp]; rfl
 have hy:listOf (SZ x cs ob cs.length).hp 4=some (intL (dsN cs x.length)):=by rw [SZ_hp,← ds_int]; rfl
 exact turn_zend hx hy (intL_end cs)
theorem z_all (P:Params) (x:Str) (cs:List Nat) (ob:List Nat) (h:cs.length≤900):compA (compTurn (lcT (eR P)) (.zip 1 4) (cellLo (scZ P) (lo2 x))) (allA ((Jx (T0 P) 41).tr (scZ P)) []) ((Jx (T0 P) 41).ev (scZ P) (lcEl (eR P))) (T0 P).turns 0 [] (SZ x cs ob 0)=.ok (((List.range cs.length).filter tT).map (pcV x cs)) (SZ x cs ob cs.length):=by
 have ht:(T0 P).turns=(999 - cs.length) + cs.length + 1:=by show 1000=_; omega
 rw [ht]
 exact compA_run (test:=allA ((Jx (T0 P) 41).tr (scZ P)) []) (S1:=S1Z x cs ob) (S2:=S1Z x cs ob) (b:=tT) (z_turn P x cs ob) (fun j _=>rfl) (fun j _ _=>z_e P x cs ob j) (fun j _ e=>Bool.noConfusion e) (z_end P x cs ob) _
noncomputable def piV (x:Str):List AV:=(pieces x).map AV.str
theorem z_a (P:Params) (x:Str) (cs:List Nat) (ob:List Nat) (h:cs.length≤900):(Jx (T0 P) (41 + 1)).ev (s947 P) (.ListComp (lcEl (eR P)) [⟨lcT (eR P),lcI (eR P),[],.ofNat 0⟩] (lcS (eR P)) (lcP (eR P))) ⟨lo2 x,[.cell (some (.str x)),.list (intL cs)],ob⟩=.ok (AV.obj (SZ x cs (obZ cs ob) cs.length).hp.length) { SZ x cs (obZ cs ob) cs.length with lo:=(SZ x cs (obZ cs ob) 0).lo,hp:=(SZ x cs (obZ cs ob) cs.length).hp++[AO.list (((List.range cs.length).filter tT).map (pcV x cs))],ob:=addOb (((List.range cs.length).filter tT).map (pcV x cs)).length (SZ x cs (obZ cs ob) cs.length).ob } :=
 jx_comp (cs:=scZ P) (s₁:=SZ x cs (obZ cs ob) 0) (t_ok2 P) rfl (z_src P x cs ob) (z_all P x cs (obZ cs ob) h)
theorem filt_all (n:Nat):(List.range n).filter tT=List.range n:=List.filter_eq_self.mpr fun _ _=>rfl
theorem z_fin (x:Str) (cs:List Nat) (ob:List Nat):R.ok (AV.obj (SZ x cs (obZ cs ob) cs.length).hp.length) { SZ x cs (obZ cs ob) cs.length with lo:=(SZ x cs (obZ cs ob) 0).lo,hp:=(SZ x cs (obZ cs ob) cs.length).hp++[AO.list (((List.range cs.length).filter tT).map (pcV x cs))],ob:=addOb (((List.range cs.length).filter tT).map (pcV x cs)).length (SZ x cs (obZ cs ob) cs.length).ob }=.ok (.obj 5) ⟨lo2 x,hZ x cs++[.list ((List.range cs.length).map (pcV x cs))],addOb cs.length (obZ cs ob)⟩:=by
 rw [SZ_hp,SZ_ob,filt_all,List.length_map,List.length_range]
 rfl
theorem z_b (P:Params) (x:Str) (cs:List Nat) (ob:List Nat) (h:cs.length≤900):(Jx (T0 P) (41 + 1)).ev (s947 P) (eR P) ⟨lo2 x,[.cell (some (.str x)),.list (intL cs)],ob⟩=.ok (.obj 5) ⟨lo2 x,hZ x cs++[.list ((List.range cs.length).map (pcV x cs))],addOb cs.length (obZ cs ob)⟩:=by
 have a:=(z_a P x cs ob h).trans (z_fin x cs ob)
 rw [← eR_eq] at a
 exact a
theorem cuts_len (x:Str) (n:Nat):(cutsN x n).length≤n:=by
 unfold cutsN
 exact Nat.le_trans (List.length_filter_le _ _) (by rw [List.length_range]; exact Nat.le_refl n)
theorem jx_return {T:Tab} {sc:List (Str × NameKind)} {n:Nat} {e:Expr} {p:Pos} {s s₁:AS} {v:AV} (h:(Jx T n).ev sc e s=.ok v s₁):(Jx T (n + 1)).ex sc (.Return (some e) p) s=.ok (.ret v) s₁:=by
 rw [Jx_eq] at h ⊢
 show ((interp T n).ev sc e s).bind _=_
 rw [h]; rfl
theorem pre_b (P:Params) (x:Str) (h:x.length≤900):(Jx (T0 P) 44).ex (s947 P) (.Assign [.Name (S "cuts") (npS (nthS (b947 P) 0))] (eC P) (asP (nthS (b947 P) 0))) ⟨lo1 x,hC x,[]⟩=.ok .next ⟨lo2 x,[.cell (some (.str x)),.list (intL (cutsN x x.length))],obC1 x⟩:=by
 rw [jx_assign (e_as P) (runs_b P x h)]
 exact congrArg (fun l=>R.ok Fl.next (AS.mk l _ _)) (e_put x (.obj 1))
theorem body947 (P:Params) (x:Str) (h:x.length≤900):(Jx (T0 P) 45).exs (s947 P) (b947 P) ⟨lo1 x,hC x,[]⟩=.ok (.ret (.obj 5)) ⟨lo2 x,hZ x (cutsN x x.length)++[.list ((List.range (cutsN x x.length).length).map (pcV x (cutsN x x.length)))],addOb (cutsN x x.length).length (obZ (cutsN x x.length) (obC1 x))⟩:=by
 rw [b947_eq,jx_next (pre_b P x h)]
 exact jx_ret (jx_return (z_b P x _ _ (Nat.le_trans (cuts_len x _) h)))
end
section
set_option maxHeartbeats 400000
theorem enter947 (P:Params) (x:Str):enter (fi947 P) [.str x] [] []=some (lo1 x,hC x):=by kernel_rfl
noncomputable def h947 (x:Str):List AO:=hZ x (cutsN x x.length)++[.list ((List.range (cutsN x x.length).length).map (pcV x (cutsN x x.length)))]
noncomputable def o947 (x:Str):List Nat:=addOb (cutsN x x.length).length (obZ (cutsN x x.length) (obC1 x))
theorem call947 (P:Params) (x:Str) (h:x.length≤900):(Jx (T0 P) 46).call (.top 947) [.str x] [] ⟨[],[],[]⟩=.ok (.obj 5) ⟨[],h947 x,o947 x⟩:=by
 rw [jx_call (sc:=s947 P) (fi:=fi947 P) (lo:=lo1 x) (hp:=hC x) (body:=b947 P) rfl rfl rfl (enter947 P x) rfl rfl]
 dsimp only
 rw [body947 P x h]
 rfl
theorem piV_eq (x:Str):(List.range (cutsN x x.length).length).map (pcV x (cutsN x x.length))=piV x:=by
 unfold piV pieces
 rw [List.map_map]
 rfl
theorem h947_at (x:Str):atI (h947 x) 5=some (.list (piV x)):=by
 unfold h947
 rw [piV_eq]
 rfl
theorem okC_of {x:Str} {k:Nat} (h:k<x.length) (h2:k<1000):(fitsSsize (k:Int)&&(Txt.charAt x (k:Int)).isSome)=true:=by
 rw [Bool.and_eq_true]
 refine ⟨?_,?_⟩
 · unfold fitsSsize
   simp
   omega
 · unfold Txt.charAt seqIndex?
   simp only [show ¬ ((k:Int)<0) from by omega,if_false]
   have h1:(k:Int)<(x.length:Int):=by omega
   simp [h1]
   exact h
theorem obR_sz {x:Str} {k:Nat} {ob:List Nat} (h:k<x.length) (h2:k<1000) (z:Sz ob):Sz (obR x (k:Int) ob):=by
 unfold obR
 rw [okC_of h h2]
 exact Sz.add (by rw [sizeLine_eq]; decide +kernel) (Sz.add (by rw [sizeLine_eq]; decide) z)
theorem obC_sz {x:Str} (hx:x.length≤900):∀ j,j≤x.length→Sz (obC x [] j)
 | 0,_=>Sz.nil
 | 1,_=>Sz.nil
 | i + 2,h=>by
   have e:(Int.ofNat (i + 1) - 1:Int)=((i:Nat):Int):=by show ((i + 1:Nat):Int) - 1=_; omega
   show Sz (obR x (Int.ofNat (i + 1) - 1) (obR x (Int.ofNat (i + 1)) (obC x [] (i + 1))))
   rw [e]
   exact obR_sz (by omega) (by omega) (obR_sz (k:=i + 1) (by omega) (by omega) (obC_sz hx (i + 1) (by omega)))
theorem obC1_sz {x:Str} (hx:x.length≤900):Sz (obC1 x):=by
 unfold obC1
 have e:(SC x [] [] x.length).ob=obC x [] x.length:=by
   cases x.length <;> rfl
 rw [e]
 have:=cuts_len x x.length
 exact Sz.add (by rw [sizeLine_eq]; omega) (obC_sz hx _ (Nat.le_refl _))
theorem o947_sz {x:Str} (hx:x.length≤900):Sz (o947 x):=by
 have:=cuts_len x x.length
 have l:(intL (cutsN x x.length)).length=(cutsN x x.length).length:=List.length_map ..
 unfold o947 obZ
 rw [List.length_drop,l]
 exact Sz.add (by rw [sizeLine_eq]; omega) (Sz.add (by rw [sizeLine_eq]; omega) (Sz.add (by rw [sizeLine_eq]; decide) (Sz.add (by rw [sizeLine_eq]; omega) (obC1_sz hx))))
theorem okO_strs:∀ l:List Str,okO 0 (.list (l.map AV.str))=true
 | []=>rfl
 | _::r=>okO_strs r
noncomputable def pRuns (as:List AV) (ks:List (Str × AV)) (σ:AS):Option (R AV):=match as,ks with
 | [.str x],[]=>some (.ok (.obj σ.hp.length) { σ with hp:=σ.hp++[.list (piV x)],ob:=addOb (chk (Nat.ble x.length 900)) σ.ob })
 | _,_=>.none
section
variable {g:Gl} {P:Params}
theorem runs947_s (hK:g.K=KP P) {k:Nat} (hk:46 + k≤g.sl) {as:List AV} {ks:List (Str × AV)} {σ:AS}:TSat σ (pRuns as ks σ) fun v σ'=>∀ n,CallP g n (.top 947) as ks σ v σ':=by
 rcases as with _ | ⟨a,_ | _⟩ <;> first | exact True.intro | (cases a <;> exact True.intro) | skip
 cases a <;> first | exact True.intro | skip
 rename_i x
 cases ks with
 | cons=>exact True.intro
 | nil =>
 refine ⟨addOb_sfx _ _,fun n=>CallP.need fun z=>?_⟩
 have hx:x.length≤900:=Nat.le_of_ble_eq_true (chk_ok z.hd)
 have e:=call947 P x hx
 rw [Jx_eq] at e
 exact (new_call (k:=k) hk (ok0 (g:=g.slk k) hK) e (h947_at x) rfl (okO_strs _) σ).ob fun z=>(o947_sz hx).app (z.of (addOb_sfx _ _))
end
end
section
set_option maxHeartbeats 400000
noncomputable def prim2 (a:Nat) (as:List AV) (ks:List (Str × AV)) (σ:AS):Option (R AV) :=
 match Nat.beq a 778 with | true=>pRow as ks σ | false=>match Nat.beq a 935 with | true=>pRow as ks σ | false=>match Nat.beq a 947 with | true=>pRuns as ks σ | false=>prim1 a as ks σ
noncomputable def T2 (P:Params):Tab:={ T1 P with prim:=prim2 }
section
variable {g:Gl} {P:Params}
theorem keep778 (P:Params):keepIn (KP P) (.ref 778)=true:=by kernel_rfl
theorem keep935 (P:Params):keepIn (KP P) (.ref 935)=true:=by kernel_rfl
theorem keep947 (P:Params):keepIn (KP P) (.ref 947)=true:=by kernel_rfl
theorem ok2 (hK:g.K=KP P) (hs:101≤g.sl):TabOk g (T2 P) :=
 have o:=ok1 (g:=g) hK hs
 { bin:=o.bin
   cmp:=o.cmp
   bic:=o.bic
   mbi:=o.mbi
   sub:=o.sub
   slc:=o.slc
   fn:=o.fn
   cls:=o.cls
   glob:=o.glob
   prim:=fun a as ks σ=>by
     refine (?_:OSat (prim2 a as ks σ) _)
     unfold prim2
     cases e:Nat.beq a 778 with
     | true=>rw [Nat.eq_of_beq_eq_true e]; exact (row778_s (k:=0) hK (by omega)).with (by rw [hK]; exact keep778 P)
     | false =>
     dsimp only
     cases e:Nat.beq a 935 with
     | true=>rw [Nat.eq_of_beq_eq_true e]; exact (row935_s (k:=0) hK (by omega)).with (by rw [hK]; exact keep935 P)
     | false =>
     dsimp only
     cases e:Nat.beq a 947 with
     | true=>rw [Nat.eq_of_beq_eq_true e]; exact (runs947_s (k:=0) hK (by omega)).with (by rw [hK]; exact keep947 P)
     | false=>exact o.prim a as ks σ
   make:=o.make
   tup:=o.tup
   spc:=o.spc }
end
end
section
set_option maxHeartbeats 1000000
theorem rng_done (j:Nat) (hp:List AO):itemA (.rng j) j hp=some none:=by
 have hb:Nat.blt j j=false:=by
   cases h:Nat.blt j j with
   | false=>rfl
   | true=>exact absurd (blt_lt h) (Nat.lt_irrefl j)
 unfold itemA
 dsimp only
 rw [hb]
theorem rng_item {j N:Nat} (h:j<N) (hp:List AO):itemA (.rng N) j hp=some (some (.one (.int (Int.ofNat j)))):=by
 have hb:Nat.blt j N=true:=Nat.ble_eq_true_of_le h
 unfold itemA
 dsimp only
 rw [hb]
 rfl
section
variable {g:Gl} {T:Tab} {n:Nat}
noncomputable def stepP (g:Gl) (x:Cx) (b:List Stmt) (I:Nat→List (Addr × Obj)→List Addr→AS→Prop) (j:Nat) (l:List (Addr × Obj)) (s₂:Shared):Prop :=
 wpAny (model g.prog g.w) x.A (execs b x.env) (fun f s₃=>f=.next∧Same s₂ s₃∧∃ fz' ρ' σ',I (j + 1) fz' ρ' σ'∧HS (x.fzd (l++(fz'++x.fz))) ρ' σ' s₃.heap∧∀ p∈fz',∀ q∈l,p.1 ≠ q.1) EF s₂
theorem for_rng (ok:TabOk g T) {x:Cx} (o:CxOk g x (n + 2)) (hcv:x.cv=none) {t it:Expr} {b:List Stmt} {p:Pos} {N:Nat} {σ:AS} {ρ:List Addr} {s:Shared} {Q:Flow→Shared→Prop} (I:Nat→List (Addr × Obj)→List Addr→AS→Prop)
   (hsrc:srcA T (Jx T (n + 1)) x.scope.names it σ=.ok (.rng N) σ) (z:Sz σ.ob) (H:HS x ρ σ s.heap) (h0:I 0 [] ρ σ) (hI:∀ j fz ρj σj,I j fz ρj σj→ρ <+: ρj)
   (hstep:∀ j fz ρj σj l,j<N→I j fz ρj σj→(∀ p∈fz,∀ q∈l,p.1 ≠ q.1)→∃ σa,asgA T x.scope.names t (.one (.int (Int.ofNat j))) σj=some σa∧∀ s₂,HS (x.fzd (l++(fz++x.fz))) ρj σa s₂.heap→stepP g x b I j l s₂)
   (hend:∀ fz ρj σj s₁,I N fz ρj σj→HS (x.fzd (fz++x.fz)) ρj σj s₁.heap→Same s s₁→Q .next s₁) :
   wpAny (model g.prog g.w) x.A (exec (.For t it b [] p) x.env) Q EF s:=by
 rw [Jx_eq] at hsrc
 have hs:=(src_s ok (sound ok (n + 1)).ev).use hsrc x o.less (Cx.scn_fn hcv) z ρ s t (fun it s₂=>codeAny (model g.prog g.w) x.A (.forLoop t it b [] x.env) (ForR g x Q) s₂) H ?_
 · rw [Cx.cur_fn hcv] at hs
   exact wpAny_For hs.2 hs.1
 intro ρ' s' Ia adr St its p₁ W st0 H₁ hd S₁
 have e1:ρ'=ρ:=by
   obtain ⟨_,_,_,HP,_⟩:=H
   obtain ⟨_,_,_,HP₁,_⟩:=H₁
   exact (p₁.eq_of_length (HP.ln.trans HP₁.ln.symm)).symm
 subst e1
 have go:∀ k j fz σj ρj its s₂,j + k=N→I j fz ρj σj→St j its→(∀ p∈fz++x.fz,p.1 ∉ adr)→HS (x.fzd (its++(fz++x.fz))) ρj σj s₂.heap→Same s s₂→ForT g x.A t (.ref Ia) b [] x.env (ForR g x Q) (k + 1) s₂:=by
   intro k
   induction k with
   | zero =>
     intro j fz σj ρj its s₂ hjk hi st hdj H₂ S₂
     have hj:j=N:=hjk
     subst hj
     refine wpAny_mono (W.done (x.fzd (its++(fz++x.fz))) ((o.fzd hcv _).less.one) j its (fz++x.fz) σj ρj s₂ (fun s₃=>HS (x.fzd (fz++x.fz)) ρj σj s₃.heap∧Same s₂ s₃) EF (hI _ _ _ _ hi) rfl hdj st H₂ (rng_done _ _) fun s₃ H₃ S₃=>⟨H₃,S₃⟩) (fun r s₃ h₃=>?_) fun _ _ e=>e
     obtain ⟨rfl,H₃,S₃⟩:=h₃
     exact wpAny_execs_nil (hend fz ρj σj s₃ hi H₃ (S₂.trans S₃))
   | succ k ih =>
     intro j fz σj ρj its s₂ hjk hi st hdj H₂ S₂
     have hlt:j<N:=by omega
     refine wpAny_mono (W.item (x.fzd (its++(fz++x.fz))) ((o.fzd hcv _).less.one) j its (fz++x.fz) σj ρj s₂ _ (fun v s₄=>wpAny (model g.prog g.w) x.A (assign t x.env v) (fun _ s₅=>wpAny (model g.prog g.w) x.A (execs b x.env) (fun f s₆=>match f with
       | .next=>ForT g x.A t (.ref Ia) b [] x.env (ForR g x Q) (k + 1) s₆
       | .cont=>ForT g x.A t (.ref Ia) b [] x.env (ForR g x Q) (k + 1) s₆
       | .brk=>ForR g x Q (.ok .next) s₆
       | .ret v=>ForR g x Q (.ok (.ret v)) s₆) EF s₅) EF s₄) EF (hI _ _ _ _ hi) rfl hdj st H₂ (rng_item hlt _) (fun ⟨vs,e⟩=>nomatch e) fun v its' tmp s₄ ir st' H₄ S₄ _=>?_) (fun r s₃ h₃=>?_) fun _ _ e=>e
     · obtain ⟨_,rfl⟩:=id ir
       obtain ⟨σa,ha,hb⟩:=hstep j fz ρj σj its' hlt hi (fun p hp q hq e=>hdj p (List.mem_append_left _ hp) (by rw [← W.ad _ _ st']; exact List.mem_map.mpr ⟨q,hq,e.symm⟩))
       refine (asg_s ok).use ha (x.fzd (its'++(fz++x.fz))) _ (o.fzd hcv _) hcv rfl [] _ ρj s₄ v _ rfl ir H₄ fun s₅ H₅ S₅=>wpAny_mono (hb s₅ H₅) (fun f s₆ h₆=>?_) fun _ _ e=>e
       obtain ⟨rfl,S₆,fz',ρ',σ',hi',H₆,hne⟩:=h₆
       refine ih (j + 1) fz' σ' ρ' its' s₆ (by omega) hi' st' (fun p hp=>?_) H₆ (S₂.trans ((S₄.trans S₅).trans S₆))
       rcases List.mem_append.mp hp with q | q
       · rw [← W.ad _ _ st']
         intro hm
         obtain ⟨r,hr,e⟩:=List.mem_map.mp hm
         exact hne p q r hr e.symm
       · exact hd p q
     · obtain ⟨v,rfl,h₃⟩:=h₃
       exact h₃
 exact forT_loop (go N 0 [] σ ρ' its s' (Nat.zero_add N) h0 st0 hd H₁ S₁)
end
end
section
set_option maxHeartbeats 400000
noncomputable def b952 (P:Params):List Stmt:=bodyK (KP P) 952
noncomputable def s952 (P:Params):List (Str × NameKind):=(FD (KP P) 952).scope.names
noncomputable def f952 (P:Params):Stmt:=nthS (b952 P) 2
noncomputable def w952 (P:Params):List Stmt:=fB (f952 P)
noncomputable def loD (op:Bool):List (Str × AV):=[(S "k",.obj 1),(S "rows",.obj 0),(S "due",.obj 2),(S "opened",.bool op)]
noncomputable def hD (rows dueV:List AV) (k:Nat):List AO:=[.list rows,.cell (some (.int (Int.ofNat k))),.list dueV]
noncomputable def sA (r:Str):Str:=(S "\"\r\n" ++ r) ++ S ": m=\""
noncomputable def sV (r:Str):Str:=S "m=\"" ++ r
noncomputable def opE (prev:Str):Bool:=!sq (Txt.item prev 9) (S "-")
noncomputable def loT (op:Bool) (w:Nat) (v:Str):List (Str × AV):=[(S "k",.obj 1),(S "rows",.obj 0),(S "due",.obj 2),(S "opened",.bool op),(S "words",.obj w),(S "value",.str v)]
noncomputable def ob9 (prev:Str) (ob:List Nat):List Nat:=addOb (chk (fitsSsize 9&&(Txt.charAt prev 9).isSome)) ob
noncomputable def obTr (cur prev:Str):List Nat:=ob9 prev (addOb ((S "\"\r\n" ++ cur).length + (S ": m=\"").length) (addOb ((S "\"\r\n").length + cur.length) []))
noncomputable def obFa (cur prev : Str) : List Nat := ob9 prev (addOb ((S "m=\"").length + prev.length) (addOb ((piV cur).length + 1) (addOb (chk (Nat.ble cur.length 900)) [])))
noncomputable def rT (rows dueV:List AV) (k:Nat) (cur prev:Str):R Fl:=.ok .next ⟨loT (opE prev) 3 prev,hD rows dueV k++[.list [.str (sA cur)]],obTr cur prev⟩
noncomputable def rF (rows dueV:List AV) (k:Nat) (cur prev:Str):R Fl:=.ok .next ⟨loT (opE prev) 5 (sV prev),hD rows dueV k++[.list (piV cur),.list [.str (S ":")],.list (piV cur++[.str (S ":")])],obFa cur prev⟩
noncomputable def xT (P:Params) (op:Bool) (rows dueV:List AV) (k:Nat):R Fl:=(Jx (T2 P) 70).exs (s952 P) ((w952 P).take 2) ⟨loD op,hD rows dueV k,[]⟩
section
variable (P:Params) (a b c d e f:Str) (tl dv:List AV)
theorem dT1:xT P true (.str a::.str b::tl) dv 1=rT (.str a::.str b::tl) dv 1 b a:=by kernel_rfl
theorem dF1:xT P false (.str a::.str b::tl) dv 1=rF (.str a::.str b::tl) dv 1 b a:=by kernel_rfl
theorem dT2:xT P true (.str a::.str b::.str c::tl) dv 2=rT (.str a::.str b::.str c::tl) dv 2 c b:=by kernel_rfl
theorem dF2:xT P false (.str a::.str b::.str c::tl) dv 2=rF (.str a::.str b::.str c::tl) dv 2 c b:=by kernel_rfl
theorem dT3:xT P true (.str a::.str b::.str c::.str d::tl) dv 3=rT (.str a::.str b::.str c::.str d::tl) dv 3 d c:=by kernel_rfl
theorem dF3:xT P false (.str a::.str b::.str c::.str d::tl) dv 3=rF (.str a::.str b::.str c::.str d::tl) dv 3 d c:=by kernel_rfl
theorem dT4:xT P true (.str a::.str b::.str c::.str d::.str e::tl) dv 4=rT (.str a::.str b::.str c::.str d::.str e::tl) dv 4 e d:=by kernel_rfl
theorem dF4:xT P false (.str a::.str b::.str c::.str d::.str e::tl) dv 4=rF (.str a::.str b::.str c::.str d::.str e::tl) dv 4 e d:=by kernel_rfl
theorem dT5:xT P true (.str a::.str b::.str c::.str d::.str e::.str f::tl) dv 5=rT (.str a::.str b::.str c::.str d::.str e::.str f::tl) dv 5 f e:=by kernel_rfl
theorem dF5:xT P false (.str a::.str b::.str c::.str d::.str e::.str f::tl) dv 5=rF (.str a::.str b::.str c::.str d::.str e::.str f::tl) dv 5 f e:=by kernel_rfl
theorem zT1:xT P true (.str a::[]) dv 0=rT (.str a::[]) dv 0 a a:=by kernel_rfl
theorem zF1:xT P false (.str a::[]) dv 0=rF (.str a::[]) dv 0 a a:=by kernel_rfl
theorem zT2:xT P true (.str a::.str b::[]) dv 0=rT (.str a::.str b::[]) dv 0 a b:=by kernel_rfl
theorem zF2:xT P false (.str a::.str b::[]) dv 0=rF (.str a::.str b::[]) dv 0 a b:=by kernel_rfl
theorem zT3:xT P true (.str a::.str b::.str c::[]) dv 0=rT (.str a::.str b::.str c::[]) dv 0 a c:=by kernel_rfl
theorem zF3:xT P false (.str a::.str b::.str c::[]) dv 0=rF (.str a::.str b::.str c::[]) dv 0 a c:=by kernel_rfl
theorem zT4:xT P true (.str a::.str b::.str c::.str d::[]) dv 0=rT (.str a::.str b::.str c::.str d::[]) dv 0 a d:=by kernel_rfl
theorem zF4:xT P false (.str a::.str b::.str c::.str d::[]) dv 0=rF (.str a::.str b::.str c::.str d::[]) dv 0 a d:=by kernel_rfl
theorem zT5:xT P true (.str a::.str b::.str c::.str d::.str e::[]) dv 0=rT (.str a::.str b::.str c::.str d::.str e::[]) dv 0 a e:=by kernel_rfl
theorem zF5:xT P false (.str a::.str b::.str c::.str d::.str e::[]) dv 0=rF (.str a::.str b::.str c::.str d::.str e::[]) dv 0 a e:=by kernel_rfl
theorem zT6:xT P true (.str a::.str b::.str c::.str d::.str e::.str f::[]) dv 0=rT (.str a::.str b::.str c::.str d::.str e::.str f::[]) dv 0 a f:=by kernel_rfl
theorem zF6:xT P false (.str a::.str b::.str c::.str d::.str e::.str f::[]) dv 0=rF (.str a::.str b::.str c::.str d::.str e::.str f::[]) dv 0 a f:=by kernel_rfl
end
end
section
set_option maxHeartbeats 400000
noncomputable def valS (op:Bool) (v:Str):Str:=match op with | true=>v | false=>v++S "\""
noncomputable def obW (op:Bool) (v:Str) (n:Nat) (ob:List Nat):List Nat:=addOb (n + (piV (valS op v)).length) (addOb (chk (Nat.ble (valS op v).length 900)) (match op with | true=>ob | false=>addOb (v.length + (S "\"").length) ob))
noncomputable def x2 (P:Params) (op:Bool) (w:Nat) (v:Str) (hp:List AO) (ob:List Nat):R Fl:=(Jx (T2 P) 67).ex (s952 P) (nthS (w952 P) 2) ⟨loT op w v,hp,ob⟩
noncomputable def hT (rows dv:List AV) (k:Nat) (ws rs:List AV):List AO:=[.list rows,.cell (some (.int (Int.ofNat k))),.list dv,.list ws,.list rs]
noncomputable def hF (rows dv:List AV) (k:Nat) (ys zs ws rs:List AV):List AO:=[.list rows,.cell (some (.int (Int.ofNat k))),.list dv,.list ys,.list zs,.list ws,.list rs]
section
variable (P:Params) (v:Str) (rows dv xs ys zs:List AV) (k:Nat) (ob:List Nat)
theorem w_TT:x2 P true 3 v (hD rows dv k++[.list xs]) ob=.ok .next ⟨loT true 3 v,hT rows dv k (xs++piV (valS true v)) (piV (valS true v)),obW true v xs.length ob⟩:=by kernel_rfl
theorem w_TF:x2 P false 3 v (hD rows dv k++[.list xs]) ob=.ok .next ⟨loT false 3 v,hT rows dv k (xs++piV (valS false v)) (piV (valS false v)),obW false v xs.length ob⟩:=by kernel_rfl
theorem w_FT:x2 P true 5 v (hD rows dv k++[.list ys,.list zs,.list xs]) ob=.ok .next ⟨loT true 5 v,hF rows dv k ys zs (xs++piV (valS true v)) (piV (valS true v)),obW true v xs.length ob⟩:=by kernel_rfl
theorem w_FF:x2 P false 5 v (hD rows dv k++[.list ys,.list zs,.list xs]) ob=.ok .next ⟨loT false 5 v,hF rows dv k ys zs (xs++piV (valS false v)) (piV (valS false v)),obW false v xs.length ob⟩:=by kernel_rfl
end
theorem jx_mcall1 {T:Tab} {sc:List (Str × NameKind)} {n:Nat} {s s₂:AS} {r:R AV} {o m:Str} {q2 ap p1:Pos} {a:Expr} {d v:AV} {t:Tg} (hspc:T.spc sc (.Call (.Attribute (.Name o q2) m ap) [a] [] p1) s=.none) (hns:noStar [a]=true) (hline:(ap.endLine==p1.line)=true)
   (ho:(Jx T n).ev sc (.Name o q2) s=.ok d s) (hm:methF T d m s.hp=some t) (ha:(Jx T n).ev sc a s=.ok v s₂) (hc:tgA T (Jx T n) t d [v] [] s₂=r):(Jx T (n + 1)).ev sc (.Call (.Attribute (.Name o q2) m ap) [a] [] p1) s=r:=by
 rw [Jx_eq] at ho ha hc ⊢
 show (T.spc sc (.Call (.Attribute (.Name o q2) m ap) [a] [] p1) s).getD (guardR (noStar [a]) (guardR (ap.endLine==p1.line&&decide ([a].length + ([]:List Keyword).length<15)&&baseOk (.Name o q2)) (evM T (interp T n) sc (.Name o q2) m [a] [] s)))=_
 rw [hspc,hns]
 show guardR (ap.endLine==p1.line&&decide ([a].length + ([]:List Keyword).length<15)&&baseOk (.Name o q2)) (evM T (interp T n) sc (.Name o q2) m [a] [] s)=_
 rw [hline]
 show ((interp T n).ev sc (.Name o q2) s).bind _=_
 rw [ho]
 show (optR (methF T d m s.hp) s).bind _=_
 rw [hm]
 have e:evL ((interp T n).ev sc) [a] s=.ok [v] s₂:=by
   show ((interp T n).ev sc a s).bind _=_
   rw [ha]; rfl
 show (evL ((interp T n).ev sc) [a] s).bind _=_
 rw [e]
 exact hc
theorem jx_expr {T:Tab} {sc:List (Str × NameKind)} {n:Nat} {s s₁:AS} {e:Expr} {p:Pos} (hc:isComp e=false) (h:(Jx T n).ev sc e s=.ok .none s₁):(Jx T (n + 1)).ex sc (.Expr e p) s=.ok .next s₁:=by
 rw [Jx_eq] at h ⊢
 show guardR (!isComp e) (((interp T n).ev sc e s).bind fun x s₁=>match x with | .none=>R.ok Fl.next s₁ | _=>.bad)=_
 rw [hc]
 show ((interp T n).ev sc e s).bind _=_
 rw [h]
 rfl
end
section
set_option maxHeartbeats 400000
noncomputable def exV (e:Stmt):Expr:=eVal e
noncomputable def exP (e:Stmt):Pos:=e.pos
noncomputable def atA (e:Expr):Pos:=(clF e).pos
noncomputable def atN (e:Expr):Pos:=(attO (clF e)).pos
noncomputable def eX (P:Params):Expr:=exV (nthS (w952 P) 3)
noncomputable def eL (P:Params):Expr:=clA (eX P)
noncomputable def scL (P:Params):List (Str × NameKind):=compScn (lcS (eL P)).names
noncomputable def tupW (k:Nat) (y:Str):AO:=.tup [.int (Int.ofNat (k + 1)),.str y]
noncomputable def tups' (k:Nat) (wl:List Str) (j:Nat):List AO:=(wl.take j).map (tupW k)
noncomputable def loL (y:Str):List (Str × AV):=[(S "word",.str y),(S "k",.obj 1)]
noncomputable def atW (wl:List Str) (j:Nat):Str:=wl.getD j ⟨⟨[]⟩⟩
noncomputable def baseD (rows dv:List AV) (k:Nat) (tl:List AO):List AO:=.list rows::.cell (some (.int (Int.ofNat k)))::.list dv::tl
section
variable (P:Params) (y v:Str) (rows dv:List AV) (hp tl:List AO) (k w:Nat) (op:Bool) (ob:List Nat)
theorem l_el:(Jx (T2 P) 63).ev (scL P) (lcEl (eL P)) ⟨loL y,.list rows::.cell (some (.int (Int.ofNat k)))::hp,ob⟩=.ok (.obj (.list rows::.cell (some (.int (Int.ofNat k)))::hp:List AO).length) ⟨loL y,(.list rows::.cell (some (.int (Int.ofNat k)))::hp)++[tupW k y],ob⟩:=by kernel_rfl
theorem l_cl:cellLo (scL P) (loT op w v)=[(S "k",.obj 1)]:=by kernel_rfl
theorem l_ok:(compOk (s952 P) (lcS (eL P)).names (lcT (eL P))&&kindFn (lcS (eL P)))=true:=by kernel_rfl
theorem l_t:lcT (eL P)=.Name (S "word") (npE (lcT (eL P))):=by kernel_rfl
theorem l_i:lcI (eL P)=.Name (S "words") (npE (lcI (eL P))):=by kernel_rfl
theorem l_w (q:Pos):(Jx (T2 P) 63).ev (s952 P) (.Name (S "words") q) ⟨loT op w v,hp,ob⟩=.ok (.obj w) ⟨loT op w v,hp,ob⟩:=by kernel_rfl
theorem l_d (q:Pos):(Jx (T2 P) 64).ev (s952 P) (.Name (S "due") q) ⟨loT op w v,hp,ob⟩=.ok (.obj 2) ⟨loT op w v,hp,ob⟩:=by kernel_rfl
theorem eL_eq:eL P=.ListComp (lcEl (eL P)) [⟨lcT (eL P),lcI (eL P),[],.ofNat 0⟩] (lcS (eL P)) (lcP (eL P)):=by kernel_rfl
theorem eX_eq:eX P=.Call (.Attribute (.Name (S "due") (atN (eX P))) (S "extend") (atA (eX P))) [eL P] [] (clP (eX P)):=by kernel_rfl
theorem sX_eq:nthS (w952 P) 3=.Expr (eX P) (exP (nthS (w952 P) 3)):=by kernel_rfl
theorem x_spc (σ:AS):(T2 P).spc (s952 P) (.Call (.Attribute (.Name (S "due") (atN (eX P))) (S "extend") (atA (eX P))) [eL P] [] (clP (eX P))) σ=.none:=by kernel_rfl
theorem x_line:((atA (eX P)).endLine==(clP (eX P)).line)=true:=by kernel_rfl
theorem x_ns:noStar [eL P]=true:=by kernel_rfl
theorem x_m:methF (T2 P) (.obj 2) (S "extend") (baseD rows dv k tl)=some (.bi .lExtend false):=by kernel_rfl
theorem x_c:isComp (eX P)=false:=by kernel_rfl
end
noncomputable def SL (rows dv:List AV) (k:Nat) (tl:List AO) (op:Bool) (w:Nat) (v:Str) (wl:List Str) (ob:List Nat):Nat→AS
 | 0=>⟨loT op w v,baseD rows dv k tl,ob⟩
 | j + 1=>⟨loL (atW wl j),baseD rows dv k tl++tups' k wl (j + 1),ob⟩
noncomputable def S1L (rows dv:List AV) (k:Nat) (tl:List AO) (wl:List Str) (ob:List Nat) (j:Nat):AS:=⟨loL (atW wl j),baseD rows dv k tl++tups' k wl j,ob⟩
noncomputable def refV (n j:Nat):AV:=.obj (n + j)
section
variable (P:Params) (v:Str) (rows dv:List AV) (tl:List AO) (k w:Nat) (op:Bool) (ob:List Nat) (wl:List Str)
theorem SL_hp (j:Nat):(SL rows dv k tl op w v wl ob j).hp=baseD rows dv k tl++tups' k wl j:=by
 cases j with
 | zero=>simp [SL,tups']
 | succ j=>rfl
theorem SL_ob (j:Nat):(SL rows dv k tl op w v wl ob j).ob=ob:=by cases j <;> rfl
theorem tups_succ (j:Nat) (h:j<wl.length):tups' k wl (j + 1)=tups' k wl j++[tupW k (atW wl j)]:=by
 unfold tups' atW
 rw [List.take_add_one,List.map_append,List.getElem?_eq_getElem h]
 simp [List.getD,h]
theorem tups_len (j:Nat) (h:j≤wl.length):(tups' k wl j).length=j:=by
 unfold tups'
 rw [List.length_map,List.length_take]
 omega
theorem l_e (j:Nat) (h:j<wl.length):(Jx (T2 P) 63).ev (scL P) (lcEl (eL P)) (S1L rows dv k tl wl ob j)=.ok (refV (baseD rows dv k tl).length j) (SL rows dv k tl op w v wl ob (j + 1)):=by
 have e:S1L rows dv k tl wl ob j=⟨loL (atW wl j),.list rows::.cell (some (.int (Int.ofNat k)))::(.list dv::tl++tups' k wl j),ob⟩:=rfl
 rw [e]
 refine (l_el P _ rows _ k ob).trans ?_
 have e2:(.list rows::.cell (some (.int (Int.ofNat k)))::(.list dv::tl++tups' k wl j):List AO)=baseD rows dv k tl++tups' k wl j:=rfl
 have e3:SL rows dv k tl op w v wl ob (j + 1)=⟨loL (atW wl j),baseD rows dv k tl++tups' k wl (j + 1),ob⟩:=rfl
 rw [e2,e3,tups_succ k wl j h,← List.append_assoc,List.length_append,tups_len k wl j (by omega)]
 rfl
theorem l_turn (hw:atI tl (w - 3)=some (.list (wl.map AV.str))) (h3:3≤w) (j:Nat) (h:j<wl.length):compTurn (lcT (eL P)) (.lst w) (cellLo (scL P) (loT op w v)) j (SL rows dv k tl op w v wl ob j)=some (some (S1L rows dv k tl wl ob j)):=by
 obtain ⟨u,rfl⟩:∃ u,w=u + 3:=⟨w - 3,by omega⟩
 rw [l_t,l_cl]
 have hl:listOf (SL rows dv k tl op (u + 3) v wl ob j).hp (u + 3)=some (wl.map AV.str):=by
   rw [SL_hp]
   unfold listOf
   have:atI (baseD rows dv k tl++tups' k wl j) (u + 3)=some (.list (wl.map AV.str)):=by
     rw [atI_eq] at hw ⊢
     show (tl++tups' k wl j)[u]?=_
     have hu:u<tl.length:=(List.getElem?_eq_some_iff.mp hw).1
     rw [List.getElem?_append_left hu]
     exact hw
   rw [this]
 have ha:atI (wl.map AV.str) j=some (.str (atW wl j)):=by
   rw [atI_eq,List.getElem?_map,List.getElem?_eq_getElem h]
   simp [atW,List.getD,h]
 unfold compTurn itemA
 dsimp only
 rw [hl]
 dsimp only
 rw [ha]
 cases j with
 | zero =>
   show some (some (AS.mk _ (baseD rows dv k tl) ob))=some (some (AS.mk _ (baseD rows dv k tl++tups' k wl 0) ob))
   have:tups' k wl 0=[]:=by simp [tups']
   rw [this,List.append_nil]
   rfl
 | succ j=>rfl
theorem l_end (hw:atI tl (w - 3)=some (.list (wl.map AV.str))) (h3:3≤w):compTurn (lcT (eL P)) (.lst w) (cellLo (scL P) (loT op w v)) wl.length (SL rows dv k tl op w v wl ob wl.length)=some none:=by
 obtain ⟨u,rfl⟩:∃ u,w=u + 3:=⟨w - 3,by omega⟩
 have hl:listOf (SL rows dv k tl op (u + 3) v wl ob wl.length).hp (u + 3)=some (wl.map AV.str):=by
   rw [SL_hp]
   unfold listOf
   have:atI (baseD rows dv k tl++tups' k wl wl.length) (u + 3)=some (.list (wl.map AV.str)):=by
     rw [atI_eq] at hw ⊢
     show (tl++tups' k wl wl.length)[u]?=_
     have hu:u<tl.length:=(List.getElem?_eq_some_iff.mp hw).1
     rw [List.getElem?_append_left hu]
     exact hw
   rw [this]
 have ha:atI (wl.map AV.str) wl.length=none:=by
   rw [atI_eq]; simp
 unfold compTurn itemA
 dsimp only
 rw [hl]
 dsimp only
 rw [ha]
end
end
section
set_option maxHeartbeats 400000
noncomputable def refsV (m n:Nat):List AV:=(List.range n).map (refV m)
section
variable (P:Params) (v:Str) (rows dv:List AV) (tl:List AO) (k w:Nat) (op:Bool) (ob:List Nat) (wl:List Str)
theorem l_all (hw:atI tl (w - 3)=some (.list (wl.map AV.str))) (h3:3≤w) (hl:wl.length≤900):compA (compTurn (lcT (eL P)) (.lst w) (cellLo (scL P) (loT op w v))) (allA ((Jx (T2 P) 63).tr (scL P)) []) ((Jx (T2 P) 63).ev (scL P) (lcEl (eL P))) (T2 P).turns 0 [] (SL rows dv k tl op w v wl ob 0)=.ok (((List.range wl.length).filter tT).map (refV (baseD rows dv k tl).length)) (SL rows dv k tl op w v wl ob wl.length):=by
 have ht:(T2 P).turns=(999 - wl.length) + wl.length + 1:=by show 1000=_; omega
 rw [ht]
 exact compA_run (test:=allA ((Jx (T2 P) 63).tr (scL P)) []) (S1:=S1L rows dv k tl wl ob) (S2:=S1L rows dv k tl wl ob) (b:=tT) (l_turn P v rows dv tl k w op ob wl hw h3) (fun j _=>rfl) (fun j hj _=>l_e P v rows dv tl k w op ob wl j hj) (fun j _ e=>Bool.noConfusion e) (l_end P v rows dv tl k w op ob wl hw h3) _
theorem l_src (hw:atI tl (w - 3)=some (.list (wl.map AV.str))) (h3:3≤w):srcA (T2 P) (Jx (T2 P) 63) (s952 P) (lcI (eL P)) ⟨loT op w v,baseD rows dv k tl,ob⟩=.ok (.lst w) ⟨loT op w v,baseD rows dv k tl,ob⟩:=by
 obtain ⟨u,rfl⟩:∃ u,w=u + 3:=⟨w - 3,by omega⟩
 have ha:atI (baseD rows dv k tl) (u + 3)=some (.list (wl.map AV.str)):=by
   rw [atI_eq] at hw ⊢
   exact hw
 rw [l_i]
 unfold srcA
 dsimp only
 rw [l_w]
 show srcV (T2 P) (.obj (u + 3)) (⟨loT op (u + 3) v,baseD rows dv k tl,ob⟩:AS)=_
 unfold srcV
 dsimp only
 rw [ha]
noncomputable def resL (rows dv:List AV) (k:Nat) (tl:List AO) (wl:List Str):List AO:=baseD rows dv k tl++tups' k wl wl.length++[.list (refsV (3 + tl.length) wl.length)]
theorem l_list (hw:atI tl (w - 3)=some (.list (wl.map AV.str))) (h3:3≤w) (hl:wl.length≤900):(Jx (T2 P) (63 + 1)).ev (s952 P) (eL P) ⟨loT op w v,baseD rows dv k tl,ob⟩=.ok (.obj (3 + tl.length + wl.length)) ⟨loT op w v,resL rows dv k tl wl,addOb wl.length ob⟩:=by
 have a:=jx_comp (T:=T2 P) (n:=63) (p:=lcP (eL P)) (cs:=scL P) (s₁:=SL rows dv k tl op w v wl ob 0) (l_ok P) rfl (l_src P v rows dv tl k w op ob wl hw h3) (l_all P v rows dv tl k w op ob wl hw h3 hl)
 rw [← eL_eq] at a
 refine a.trans ?_
 rw [SL_hp,SL_ob,filt_all,List.length_map,List.length_range,List.length_append,tups_len k wl _ (Nat.le_refl _)]
 have e:(baseD rows dv k tl).length=3 + tl.length:=by
   show tl.length + 1 + 1 + 1=_; omega
 rw [e]
 rfl
theorem res_atm:listOf (resL rows dv k tl wl) (3 + tl.length + wl.length)=some (refsV (3 + tl.length) wl.length):=by
 unfold listOf
 have:atI (resL rows dv k tl wl) (3 + tl.length + wl.length)=some (.list (refsV (3 + tl.length) wl.length)):=by
   rw [atI_eq]
   unfold resL
   have e:(baseD rows dv k tl++tups' k wl wl.length).length=3 + tl.length + wl.length:=by
     rw [List.length_append,tups_len k wl _ (Nat.le_refl _)]
     show tl.length + 1 + 1 + 1 + _=_
     omega
   rw [← e,List.getElem?_append_right (Nat.le_refl _)]
   simp
 rw [this]
noncomputable def finL (rows dv:List AV) (k:Nat) (tl:List AO) (wl:List Str):List AO:=baseD rows (dv++refsV (3 + tl.length) wl.length) k tl++tups' k wl wl.length++[.list (refsV (3 + tl.length) wl.length)]
theorem l_ext (s:AS) (hs:s.hp=resL rows dv k tl wl):tgA (T2 P) (Jx (T2 P) 64) (.bi .lExtend false) (.obj 2) [.obj (3 + tl.length + wl.length)] [] s=.ok .none { s with hp:=finL rows dv k tl wl,ob:=addOb (dv.length + wl.length) s.ob }:=by
 have h2:listOf s.hp 2=some dv:=by rw [hs]; rfl
 have hm:listOf s.hp (3 + tl.length + wl.length)=some (refsV (3 + tl.length) wl.length):=by rw [hs]; exact res_atm rows dv tl k wl
 have e:bicB .lExtend [.obj 2,.obj (3 + tl.length + wl.length)] s=some (.ok .none { s with hp:=finL rows dv k tl wl,ob:=addOb (dv.length + wl.length) s.ob }):=by
   show (match listOf s.hp 2,listOf s.hp (3 + tl.length + wl.length) with
     | some xs,some ys=>some (R.ok AV.none { s with hp:=setAt s.hp 2 (.list (xs++ys)),ob:=addOb (xs.length + ys.length) s.ob })
     | _,_=>.none)=_
   rw [h2,hm]
   dsimp only
   have l:(refsV (3 + tl.length) wl.length).length=wl.length:=by simp [refsV]
   rw [l,hs]
   rfl
 show (orT (orT (bicB .lExtend [.obj 2,.obj (3 + tl.length + wl.length)] s) _) _).getD .bad=_
 rw [e]
 rfl
theorem l_stmt (hw:atI tl (w - 3)=some (.list (wl.map AV.str))) (h3:3≤w) (hl:wl.length≤900):(Jx (T2 P) 66).ex (s952 P) (nthS (w952 P) 3) ⟨loT op w v,baseD rows dv k tl,ob⟩=.ok .next ⟨loT op w v,finL rows dv k tl wl,addOb (dv.length + wl.length) (addOb wl.length ob)⟩:=by
 rw [sX_eq]
 refine jx_expr (x_c P) ?_
 have a:=jx_mcall1 (T:=T2 P) (n:=64) (s:=⟨loT op w v,baseD rows dv k tl,ob⟩) (x_spc P _) (x_ns P) (x_line P) (l_d P v _ w op ob _) (x_m P rows dv tl k) (l_list P v rows dv tl k w op ob wl hw h3 hl) (l_ext P rows dv tl k wl _ rfl)
 rw [← eX_eq] at a
 exact a
end
end
section
set_option maxHeartbeats 400000
noncomputable def curS (rs:List Str) (k:Nat):Str:=rs.getD k ⟨⟨[]⟩⟩
noncomputable def prevS (rs:List Str):Nat→Str
 | 0=>rs.getD (rs.length - 1) ⟨⟨[]⟩⟩
 | k + 1=>rs.getD k ⟨⟨[]⟩⟩
noncomputable def rowsV (rs:List Str):List AV:=rs.map AV.str
theorem turn_T (P:Params) (dv:List AV) (rs:List Str) (k:Nat) (hk:k<rs.length) (h6:rs.length≤6):xT P true (rowsV rs) dv k=rT (rowsV rs) dv k (curS rs k) (prevS rs k):=by
 cases k with
 | zero=>exact one6 (P:=fun rs=>xT P true (rowsV rs) dv 0=rT (rowsV rs) dv 0 (curS rs 0) (prevS rs 0)) (fun a=>zT1 P a dv) (fun a b=>zT2 P a b dv) (fun a b c=>zT3 P a b c dv) (fun a b c d=>zT4 P a b c d dv) (fun a b c d e=>zT5 P a b c d e dv) (fun a b c d e f=>zT6 P a b c d e f dv) rs hk h6
 | succ k =>
 cases rs with
 | nil=>exact absurd hk (Nat.not_lt_zero _)
 | cons a rs =>
 cases rs with
 | nil=>exact absurd hk (Nat.not_lt.mpr (Nat.le_add_left 1 k))
 | cons b rs =>
 cases k with
 | zero=>exact dT1 P a b (rowsV rs) dv
 | succ k =>
 cases rs with
 | nil=>exact absurd hk (Nat.not_lt.mpr (Nat.le_add_left 2 k))
 | cons c rs =>
 cases k with
 | zero=>exact dT2 P a b c (rowsV rs) dv
 | succ k =>
 cases rs with
 | nil=>exact absurd hk (Nat.not_lt.mpr (Nat.le_add_left 3 k))
 | cons d rs =>
 cases k with
 | zero=>exact dT3 P a b c d (rowsV rs) dv
 | succ k =>
 cases rs with
 | nil=>exact absurd hk (Nat.not_lt.mpr (Nat.le_add_left 4 k))
 | cons e rs =>
 cases k with
 | zero=>exact dT4 P a b c d e (rowsV rs) dv
 | succ k =>
 cases rs with
 | nil=>exact absurd hk (Nat.not_lt.mpr (Nat.le_add_left 5 k))
 | cons f rs =>
 cases k with
 | zero=>exact dT5 P a b c d e f (rowsV rs) dv
 | succ k =>
 exact absurd (Nat.lt_of_lt_of_le hk h6) (Nat.not_lt.mpr (Nat.le_add_left 6 k))
theorem turn_F (P:Params) (dv:List AV) (rs:List Str) (k:Nat) (hk:k<rs.length) (h6:rs.length≤6):xT P false (rowsV rs) dv k=rF (rowsV rs) dv k (curS rs k) (prevS rs k):=by
 cases k with
 | zero=>exact one6 (P:=fun rs=>xT P false (rowsV rs) dv 0=rF (rowsV rs) dv 0 (curS rs 0) (prevS rs 0)) (fun a=>zF1 P a dv) (fun a b=>zF2 P a b dv) (fun a b c=>zF3 P a b c dv) (fun a b c d=>zF4 P a b c d dv) (fun a b c d e=>zF5 P a b c d e dv) (fun a b c d e f=>zF6 P a b c d e f dv) rs hk h6
 | succ k =>
 cases rs with
 | nil=>exact absurd hk (Nat.not_lt_zero _)
 | cons a rs =>
 cases rs with
 | nil=>exact absurd hk (Nat.not_lt.mpr (Nat.le_add_left 1 k))
 | cons b rs =>
 cases k with
 | zero=>exact dF1 P a b (rowsV rs) dv
 | succ k =>
 cases rs with
 | nil=>exact absurd hk (Nat.not_lt.mpr (Nat.le_add_left 2 k))
 | cons c rs =>
 cases k with
 | zero=>exact dF2 P a b c (rowsV rs) dv
 | succ k =>
 cases rs with
 | nil=>exact absurd hk (Nat.not_lt.mpr (Nat.le_add_left 3 k))
 | cons d rs =>
 cases k with
 | zero=>exact dF3 P a b c d (rowsV rs) dv
 | succ k =>
 cases rs with
 | nil=>exact absurd hk (Nat.not_lt.mpr (Nat.le_add_left 4 k))
 | cons e rs =>
 cases k with
 | zero=>exact dF4 P a b c d e (rowsV rs) dv
 | succ k =>
 cases rs with
 | nil=>exact absurd hk (Nat.not_lt.mpr (Nat.le_add_left 5 k))
 | cons f rs =>
 cases k with
 | zero=>exact dF5 P a b c d e f (rowsV rs) dv
 | succ k =>
 exact absurd (Nat.lt_of_lt_of_le hk h6) (Nat.not_lt.mpr (Nat.le_add_left 6 k))
noncomputable def wordsD (op:Bool) (cur prev:Str):List Str:=match op with
 | true=>sA cur::pieces (valS (opE prev) prev)
 | false=>(pieces cur++[S ":"])++pieces (valS (opE prev) (sV prev))
theorem piece_len (x:Str):(pieces x).length≤x.length:=by
 unfold pieces
 rw [List.length_map,List.length_range]
 exact cuts_len x _
theorem piV_len (x:Str):(piV x).length=(pieces x).length:=List.length_map ..
theorem val_len (op:Bool) (v:Str):(valS op v).length≤v.length + 1:=by
 cases op with
 | true=>exact Nat.le_succ _
 | false =>
   show (v++S "\"").length≤_
   rw [str_len_app]
   have:(S "\"").length=1:=by decide +kernel
   omega
theorem obW_sz {op:Bool} {v:Str} {n:Nat} {ob:List Nat} (hn:n≤1000) (hv:v.length≤800) (z:Sz ob):Sz (obW op v n ob):=by
 unfold obW
 have h1:=piece_len (valS op v)
 have h2:=val_len op v
 have h3:(S "\"").length=1:=by decide +kernel
 have h4:Nat.ble (valS op v).length 900=true:=Nat.ble_eq_true_of_le (by omega)
 rw [piV_len,h4]
 refine Sz.add (by rw [sizeLine_eq]; omega) (Sz.add (by rw [sizeLine_eq]; decide) ?_)
 cases op with
 | true=>exact z
 | false=>exact Sz.add (by rw [sizeLine_eq]; omega) z
end
section
set_option maxHeartbeats 400000
theorem ob9_sz {prev:Str} {ob:List Nat} (h:prev.length=10) (z:Sz ob):Sz (ob9 prev ob):=by
 unfold ob9
 have e:(fitsSsize 9&&(Txt.charAt prev 9).isSome)=true:=okC_of (x:=prev) (k:=9) (by omega) (by omega)
 rw [e]
 exact Sz.add (by rw [sizeLine_eq]; decide) z
theorem obTr_sz {cur prev:Str} (h1:cur.length=10) (h2:prev.length=10):Sz (obTr cur prev):=by
 unfold obTr
 have a:(S "\"\r\n").length = 3 := by decide +kernel
 have b : (S ": m=\"").length=5:=by decide +kernel
 exact ob9_sz h2 (Sz.add (by rw [str_len_app,sizeLine_eq,a,b]; omega) (Sz.add (by rw [sizeLine_eq,a]; omega) Sz.nil))
theorem obFa_sz {cur prev:Str} (h1:cur.length=10) (h2:prev.length=10):Sz (obFa cur prev):=by
 unfold obFa
 have a:(S "m=\"").length=3:=by decide +kernel
 have c:=piece_len cur
 have h4:Nat.ble cur.length 900=true:=Nat.ble_eq_true_of_le (by omega)
 rw [h4,piV_len]
 exact ob9_sz h2 (Sz.add (by rw [sizeLine_eq,a]; omega) (Sz.add (by rw [sizeLine_eq]; omega) (Sz.add (by rw [sizeLine_eq]; decide) Sz.nil)))
theorem w_take (P:Params):w952 P=(w952 P).take 2++[nthS (w952 P) 2,nthS (w952 P) 3]:=by kernel_rfl
theorem take2_len (P:Params):((w952 P).take 2).length=2:=by kernel_rfl
noncomputable def tlT (ws rs:List AV):List AO:=[.list ws,.list rs]
noncomputable def tlF (ys zs ws rs:List AV):List AO:=[.list ys,.list zs,.list ws,.list rs]
theorem turn_join (P:Params) (rows dv:List AV) (k:Nat) (op op':Bool) (w:Nat) (v:Str) (hp tl:List AO) (ob ob2:List Nat) (wl:List Str) (h1:xT P op rows dv k=.ok .next ⟨loT op' w v,hp,ob⟩) (h2:x2 P op' w v hp ob=.ok .next ⟨loT op' w v,baseD rows dv k tl,ob2⟩)
   (hw:atI tl (w - 3)=some (.list (wl.map AV.str))) (h3:3≤w) (hl:wl.length≤900) :
   (Jx (T2 P) 70).exs (s952 P) (w952 P) ⟨loD op,hD rows dv k,[]⟩=.ok .next ⟨loT op' w v,finL rows dv k tl wl,addOb (dv.length + wl.length) (addOb wl.length ob2)⟩:=by
 rw [w_take]
 refine jx_app (m:=68) h1 (by rw [take2_len]) (by omega) ?_
 rw [jx_next h2,jx_next (l_stmt P v rows dv tl k w op' ob2 wl hw h3 hl),jx_nil]
theorem turn_all (P:Params) (rs:List Str) (k:Nat) (op:Bool) (dv:List AV) (hk:k<rs.length) (hn:rs.length≤6) (hr:∀ r∈rs,r.length=10) (hd:dv.length≤10000) :
   ∃ w v tl ob,(Jx (T2 P) 70).exs (s952 P) (w952 P) ⟨loD op,hD (rowsV rs) dv k,[]⟩=.ok .next ⟨loT (opE (prevS rs k)) w v,finL (rowsV rs) dv k tl (wordsD op (curS rs k) (prevS rs k)),ob⟩∧Sz ob:=by
 have hc:(curS rs k).length=10:=by
   unfold curS
   rw [List.getD,List.getElem?_eq_getElem hk]
   exact hr _ (List.getElem_mem hk)
 have hp:(prevS rs k).length=10:=by
   have g:∀ j,j<rs.length→(rs.getD j ⟨⟨[]⟩⟩:Str).length=10:=fun j hj=>by
     rw [List.getD,List.getElem?_eq_getElem hj]
     exact hr _ (List.getElem_mem hj)
   cases k with
   | zero=>exact g _ (by omega)
   | succ k=>exact g k (by omega)
 have tT:=turn_T P dv rs k hk hn
 have tF:=turn_F P dv rs k hk hn
 generalize curS rs k=cur at hc tT tF ⊢
 generalize prevS rs k=prev at hp tT tF ⊢
 have hv:(sV prev).length=13:=by
   unfold sV
   have a:(S "m=\"").length=3:=by decide +kernel
   rw [str_len_app,a,hp]
 have fin:∀ (wl:List Str) (ob2:List Nat),wl.length≤100→Sz ob2→Sz (addOb (dv.length + wl.length) (addOb wl.length ob2)):=fun wl ob2 h z=>Sz.add (by rw [sizeLine_eq]; omega) (Sz.add (by rw [sizeLine_eq]; omega) z)
 cases op with
 | true =>
   have hw:wordsD true cur prev=sA cur::pieces (valS (opE prev) prev):=rfl
   have hl:(wordsD true cur prev).length≤100:=by
     rw [hw,List.length_cons]
     have a:=piece_len (valS (opE prev) prev)
     have b:=val_len (opE prev) prev
     omega
   have e:rT (rowsV rs) dv k cur prev=.ok .next ⟨loT (opE prev) 3 prev,hD (rowsV rs) dv k++[.list [.str (sA cur)]],obTr cur prev⟩:=rfl
   rw [e] at tT
   rw [hw] at hl ⊢
   have z1:=obTr_sz hc hp
   cases ho:opE prev with
   | true =>
     rw [ho] at tT hl
     exact ⟨3,prev,tlT ([.str (sA cur)]++piV (valS true prev)) (piV (valS true prev)),_,turn_join P (rowsV rs) dv k true true 3 prev _ _ _ _ (sA cur::pieces (valS true prev)) tT (w_TT P prev (rowsV rs) dv _ k _) rfl (by omega) (by omega),fin _ _ hl (obW_sz (n:=1) (by omega) (by omega) z1)⟩
   | false =>
     rw [ho] at tT hl
     exact ⟨3,prev,tlT ([.str (sA cur)]++piV (valS false prev)) (piV (valS false prev)),_,turn_join P (rowsV rs) dv k true false 3 prev _ _ _ _ (sA cur::pieces (valS false prev)) tT (w_TF P prev (rowsV rs) dv _ k _) rfl (by omega) (by omega),fin _ _ hl (obW_sz (n:=1) (by omega) (by omega) z1)⟩
 | false =>
   have hw:wordsD false cur prev=(pieces cur++[S ":"])++pieces (valS (opE prev) (sV prev)):=rfl
   have c:=piece_len cur
   have hl:(wordsD false cur prev).length≤100:=by
     rw [hw,List.length_append,List.length_append]
     have a:=piece_len (valS (opE prev) (sV prev))
     have b:=val_len (opE prev) (sV prev)
     have d:([S ":"]:List Str).length=1:=rfl
     omega
   have e:rF (rowsV rs) dv k cur prev=.ok .next ⟨loT (opE prev) 5 (sV prev),hD (rowsV rs) dv k++[.list (piV cur),.list [.str (S ":")],.list (piV cur++[.str (S ":")])],obFa cur prev⟩:=rfl
   rw [e] at tF
   rw [hw] at hl ⊢
   have z1:=obFa_sz hc hp
   have hx:(piV cur++[AV.str (S ":")]).length≤1000:=by
     rw [List.length_append,piV_len]
     have d:([AV.str (S ":")]:List AV).length=1:=rfl
     omega
   have hm:∀ o,atI (tlF (piV cur) [.str (S ":")] ((piV cur++[.str (S ":")])++piV (valS o (sV prev))) (piV (valS o (sV prev)))) (5 - 3)=some (.list (((pieces cur++[S ":"])++pieces (valS o (sV prev))).map AV.str)):=fun o=>by
     rw [List.map_append,List.map_append]
     rfl
   cases ho:opE prev with
   | true =>
     rw [ho] at tF hl
     exact ⟨5,sV prev,tlF (piV cur) [.str (S ":")] ((piV cur++[.str (S ":")])++piV (valS true (sV prev))) (piV (valS true (sV prev))),_,turn_join P (rowsV rs) dv k false true 5 (sV prev) _ _ _ _ ((pieces cur++[S ":"])++pieces (valS true (sV prev))) tF (w_FT P (sV prev) (rowsV rs) dv _ _ _ k _) (hm true) (by omega) (by omega),fin _ _ hl (obW_sz hx (by omega) z1)⟩
   | false =>
     rw [ho] at tF hl
     exact ⟨5,sV prev,tlF (piV cur) [.str (S ":")] ((piV cur++[.str (S ":")])++piV (valS false (sV prev))) (piV (valS false (sV prev))),_,turn_join P (rowsV rs) dv k false false 5 (sV prev) _ _ _ _ ((pieces cur++[S ":"])++pieces (valS false (sV prev))) tF (w_FF P (sV prev) (rowsV rs) dv _ _ _ k _) (hm false) (by omega) (by omega),fin _ _ hl (obW_sz hx (by omega) z1)⟩
end
section
set_option maxHeartbeats 400000
theorem All2.split {α β:Type} {R:α→β→Prop} {a b:List α}:∀ {c:List β},All2 R (a++b) c→∃ c1 c2,c=c1++c2∧All2 R a c1∧All2 R b c2:=by
 induction a with
 | nil=>exact fun {c} h=>⟨[],c,rfl,.nil,h⟩
 | cons x a ih =>
   intro c h
   cases h with
   | cons h1 h2 =>
     obtain ⟨c1,c2,rfl,k1,k2⟩:=ih h2
     exact ⟨_::c1,c2,rfl,.cons h1 k1,k2⟩
noncomputable def topV (l:List (Addr × Obj)):List AV:=l.map fun p=>.top p.1
noncomputable def tupR (k:Nat) (p:Addr × Obj) (y:Str):Prop:=OR [] (tupW k y) p.2
theorem HS.norm {x:Cx} {l fz fz₀:List (Addr × Obj)} {rA cA dA:Addr} {ρ':List Addr} {lo lo':List (Str × AV)} {rows:List AV} {k:Nat} {tl:List AO} {wl:List Str} {ob:List Nat} {h:Heap}
   (p:[rA,cA,dA] <+: ρ') (hrows:okL 0 rows=true) (H:HS (x.fzd (l++(fz++fz₀))) ρ' ⟨lo',finL rows (topV fz) k tl wl,ob⟩ h) (hlo:∀ y a,look y lo=some a→look y lo'=some a∧okV 3 a=true) :
   ∃ new,All2 (tupR k) new wl∧(∀ p∈new,∀ q∈l++(fz++fz₀),p.1 ≠ q.1)∧(new.map (·.1)).Nodup∧HS (x.fzd (l++((fz++new)++fz₀))) [rA,cA,dA] ⟨lo,[.list rows,.cell (some (.int (Int.ofNat k))),.list (topV (fz++new))],[]⟩ h:=by
 obtain ⟨m,os,F,HP,lr⟩:=H
 obtain ⟨ρr,rfl⟩:=p
 have lt:=tups_len k wl _ (Nat.le_refl _)
 have e:finL rows (topV fz) k tl wl=.list rows::.cell (some (.int (Int.ofNat k)))::.list (topV fz++refsV (3 + tl.length) wl.length)::((tl++tups' k wl wl.length)++[.list (refsV (3 + tl.length) wl.length)]):=rfl
 rw [e] at HP
 have hor:=HP.or
 have hln:=HP.ln
 have hol:=HP.olen
 obtain ⟨o0,q0,r0⟩:=hor.get (i:=0) rfl
 obtain ⟨o1,q1,r1⟩:=hor.get (i:=1) rfl
 obtain ⟨o2,q2,vs,nn,rfl,hvs⟩:=hor.get (i:=2) rfl
 obtain ⟨va,vb,rfl,h1,h2⟩:=All2.split hvs
 simp only [List.length_append,List.length_cons,List.length_nil,lt] at hln
 have hzl:(((([rA,cA,dA]++ρr).zip os).drop (3 + tl.length)).take wl.length).length=wl.length:=by
   rw [List.length_take,List.length_drop,List.length_zip,← hol,List.length_append,List.length_cons,List.length_cons,List.length_cons,List.length_nil]
   omega
 generalize hz:((([rA,cA,dA]++ρr).zip os).drop (3 + tl.length)).take wl.length=new at hzl
 have hnew:∀ i p,new[i]?=some p→([rA,cA,dA]++ρr)[3 + tl.length + i]?=some p.1∧os[3 + tl.length + i]?=some p.2:=by
   intro i p hp
   have hi:i<wl.length:=hzl ▸ (List.getElem?_eq_some_iff.mp hp).1
   rw [← hz,List.getElem?_take_of_lt hi,List.getElem?_drop] at hp
   exact List.getElem?_zip_eq_some.mp hp
 have hin:∀ p∈new,p∈([rA,cA,dA]++ρr).zip os:=fun p hp=>by
   rw [← hz] at hp
   exact List.mem_of_mem_drop (List.mem_of_mem_take hp)
 have V:Vw ([rA,cA,dA]++ρr) os [0,1,2] [(rA,o0),(cA,o1),(dA,listO (va++vb) nn)]:=.cons ⟨rfl,q0⟩ (.cons ⟨rfl,q1⟩ (.cons ⟨rfl,q2⟩ .nil))
 have sub:∀ p∈l++((fz++new)++fz₀),p∈fzV ([rA,cA,dA]++ρr) os (l++(fz++fz₀)) [rA,cA,dA]:=by
   intro p hp
   have old:p∈l++(fz++fz₀)→p∈fzV ([rA,cA,dA]++ρr) os (l++(fz++fz₀)) [rA,cA,dA]:=Vw.fz (x:=x.fzd (l++(fz++fz₀))) V HP.dj p
   rcases List.mem_append.mp hp with q | q
   · exact old (List.mem_append_left _ q)
   · rcases List.mem_append.mp q with q | q
     · rcases List.mem_append.mp q with q | q
       · exact old (List.mem_append_right _ (List.mem_append_left _ q))
       · refine fzV_mem.mpr ⟨List.mem_append_left _ (hin p q),fun hm=>?_⟩
         obtain ⟨i,hi⟩:=List.getElem?_of_mem q
         obtain ⟨j,hj,ej⟩:=V.mem hm
         have:=idx_inj HP.nd ej (hnew i p hi).1
         have h3:j<3:=by
           rcases List.mem_cons.mp hj with rfl | hj
           · decide
           · rcases List.mem_cons.mp hj with rfl | hj
             · decide
             · rw [List.mem_singleton.mp hj]; decide
         omega
     · exact old (List.mem_append_right _ (List.mem_append_right _ q))
 refine ⟨new,All2.ofGet hzl fun i q y e1 e2=>?_,fun p hp r hr e=>HP.dj r hr (e ▸ (List.of_mem_zip (hin p hp)).1),?_,?_⟩
 · have ht:(AO.list rows::AO.cell (some (AV.int (Int.ofNat k)))::AO.list (topV fz++refsV (3 + tl.length) wl.length)::((tl++tups' k wl wl.length)++[AO.list (refsV (3 + tl.length) wl.length)]))[3 + tl.length + i]?=some (tupW k y):=by
     have hi:i<wl.length:=(List.getElem?_eq_some_iff.mp e2).1
     rw [show 3 + tl.length + i=(tl.length + i) + 1 + 1 + 1 by omega]
     show ((tl++tups' k wl wl.length)++[AO.list (refsV (3 + tl.length) wl.length)])[tl.length + i]?=_
     rw [List.append_assoc,List.getElem?_append_right (Nat.le_add_right _ _),Nat.add_sub_cancel_left,List.getElem?_append_left (by rw [lt]; exact hi)]
     unfold tups'
     rw [List.take_length,List.getElem?_map,e2]; rfl
   exact OR.free rfl (All2.at' hor ht (hnew i q e1).2)
 · rw [← hz,List.map_take,List.map_drop,List.map_fst_zip (Nat.le_of_eq hol)]
   exact ((List.take_sublist _ _).trans (List.drop_sublist _ _)).nodup HP.nd
 · have H0:=view_in (x:=x.fzd (l++(fz++fz₀))) (σ:=⟨lo',_,ob⟩) F HP V (by decide) (lo:=lo) (hp₀:=[.list rows,.cell (some (.int (Int.ofNat k))),.list (topV (fz++new))]) (ob:=[]) (fun y a ey=>?_) (.cons (OR.free hrows r0) (.cons (OR.free rfl r1) (.cons ⟨va++vb,nn,rfl,?_⟩ .nil)))
   · have H1:=H0.hs
     exact H1.drop sub
   · obtain ⟨e1,e2⟩:=hlo y a ey
     obtain ⟨v,hv,hr⟩:=lr y a e1
     refine ⟨v,hv,?_⟩
     cases a <;> first | exact hr | skip
     rename_i i
     obtain ⟨ad,ha,rfl⟩:=hr
     refine ⟨ad,?_,rfl⟩
     rw [List.getElem?_append_left (by exact blt_lt e2)] at ha
     exact ha
   · unfold topV
     rw [List.map_append]
     refine All2.app (All2.ofGet h1.len fun i a v e1 e2=>?_) ?_
     · have hh:=All2.at' h1 e1 e2
       rw [List.getElem?_map] at e1
       obtain ⟨q,_,rfl⟩:=Option.map_eq_some_iff.mp e1
       exact hh
     · refine All2.ofGet (by rw [List.length_map,hzl,← h2.len]; simp [refsV]) fun i a v e1 e2=>?_
       rw [List.getElem?_map] at e1
       obtain ⟨q,hq,rfl⟩:=Option.map_eq_some_iff.mp e1
       have hi:i<wl.length:=hzl ▸ (List.getElem?_eq_some_iff.mp hq).1
       have hr:(refsV (3 + tl.length) wl.length)[i]?=some (.obj (3 + tl.length + i)):=by
         unfold refsV
         rw [List.getElem?_map,List.getElem?_range hi]; rfl
       obtain ⟨ad,ha,rfl⟩:=All2.at' h2 hr e2
       cases ha.symm.trans (hnew i q hq).1
       rfl
end
section
set_option maxHeartbeats 400000
noncomputable def opAt (rs:List Str):Nat→Bool
 | 0=>false
 | j + 1=>opE (prevS rs j)
noncomputable def dueW (rs:List Str) (j:Nat):List Str:=wordsD (opAt rs j) (curS rs j) (prevS rs j)
inductive DueOk (rs:List Str):Nat→List (Addr × Obj)→Prop
 | zero:DueOk rs 0 []
 | succ {j:Nat} {fz new:List (Addr × Obj)}:DueOk rs j fz→All2 (tupR j) new (dueW rs j)→DueOk rs (j + 1) (fz++new)
noncomputable def Apart (fz fz₀:List (Addr × Obj)):Prop:=(fz.map (·.1)).Nodup∧∀ p∈fz,∀ q∈fz₀,p.1 ≠ q.1
theorem Apart.app {fz new fz₀ l:List (Addr × Obj)} (h:Apart fz fz₀) (h1:∀ p∈new,∀ q∈l++(fz++fz₀),p.1 ≠ q.1) (h2:(new.map (·.1)).Nodup):Apart (fz++new) fz₀:=by
 refine ⟨?_,fun p hp q hq=>?_⟩
 · rw [List.map_append,List.nodup_append]
   refine ⟨h.1,h2,fun a ha b hb e=>?_⟩
   obtain ⟨p,hp,rfl⟩:=List.mem_map.mp ha
   obtain ⟨q,hq,rfl⟩:=List.mem_map.mp hb
   exact h1 q hq p (List.mem_append_right _ (List.mem_append_left _ hp)) e.symm
 · rcases List.mem_append.mp hp with hp | hp
   · exact h.2 p hp q hq
   · exact h1 p hp q (List.mem_append_right _ (List.mem_append_right _ hq))
theorem words_len {op:Bool} {cur prev:Str} (h1:cur.length=10) (h2:prev.length=10):(wordsD op cur prev).length≤100:=by
 have hv:(sV prev).length=13:=by
   unfold sV
   have a:(S "m=\"").length=3:=by decide +kernel
   rw [str_len_app,a,h2]
 cases op with
 | true =>
   have hw:wordsD true cur prev=sA cur::pieces (valS (opE prev) prev):=rfl
   rw [hw,List.length_cons]
   have a:=piece_len (valS (opE prev) prev)
   have b:=val_len (opE prev) prev
   omega
 | false =>
   have hw:wordsD false cur prev=(pieces cur++[S ":"])++pieces (valS (opE prev) (sV prev)):=rfl
   have c:=piece_len cur
   rw [hw,List.length_append,List.length_append]
   have a:=piece_len (valS (opE prev) (sV prev))
   have b:=val_len (opE prev) (sV prev)
   have d:([S ":"]:List Str).length=1:=rfl
   omega
theorem rows_at {rs:List Str} (hr:∀ r∈rs,r.length=10) {k:Nat} (hk:k<rs.length):(curS rs k).length=10∧(prevS rs k).length=10:=by
 have g:∀ j,j<rs.length→(rs.getD j ⟨⟨[]⟩⟩:Str).length=10:=fun j hj=>by
   rw [List.getD,List.getElem?_eq_getElem hj]
   exact hr _ (List.getElem_mem hj)
 refine ⟨g k hk,?_⟩
 cases k with
 | zero=>exact g _ (by omega)
 | succ k=>exact g k (by omega)
theorem DueOk.len {rs:List Str} (hr:∀ r∈rs,r.length=10) {j:Nat} {fz:List (Addr × Obj)} (h:DueOk rs j fz):j≤rs.length→fz.length≤100 * j:=by
 induction h with
 | zero=>intro _; exact Nat.le_refl _
 | @succ j fz new h a ih =>
   intro hj
   have i:=ih (by omega)
   obtain ⟨h1,h2⟩:=rows_at hr (k:=j) (by omega)
   have w:=words_len (op:=opAt rs j) h1 h2
   have l:new.length=(dueW rs j).length:=All2.len' a
   unfold dueW at l
   rw [List.length_append]
   omega
theorem addOb_small {n:Nat} {ob:List Nat} (h:n≤4096):addOb n ob=ob:=by
 unfold addOb
 rw [Nat.ble_eq_true_of_le h]
section
variable (P:Params) (rows dv:List AV) (op:Bool) (c:Option AV) (j:Nat) (ob:List Nat)
theorem f_asg:asgA (T2 P) (s952 P) (fT (f952 P)) (.one (.int (Int.ofNat j))) ⟨loD op,[.list rows,.cell c,.list dv],[]⟩=some ⟨loD op,hD rows dv j,[]⟩:=by kernel_rfl
theorem f_it:fI (f952 P)=.Call (.Name (S "range") (npE (clF (fI (f952 P))))) [clA (fI (f952 P))] [] (clP (fI (f952 P))):=by kernel_rfl
theorem f_ns:noStar [clA (fI (f952 P))]=true:=by kernel_rfl
theorem f_rg (q:Pos):(Jx (T2 P) 70).ev (s952 P) (.Name (S "range") q) ⟨loD op,[.list rows,.cell c,.list dv],[]⟩=.ok (.bi .range) ⟨loD op,[.list rows,.cell c,.list dv],[]⟩:=by kernel_rfl
theorem f_ln:(Jx (T2 P) 70).ev (s952 P) (clA (fI (f952 P))) ⟨loD op,[.list rows,.cell c,.list dv],[]⟩=.ok (.int (Int.ofNat rows.length)) ⟨loD op,[.list rows,.cell c,.list dv],addOb rows.length []⟩:=by kernel_rfl
theorem f_eq:f952 P=.For (fT (f952 P)) (fI (f952 P)) (w952 P) [] (fP (f952 P)):=by kernel_rfl
end
theorem f_src (P:Params) (rows dv:List AV) (op:Bool) (c:Option AV) (h:rows.length≤6):srcA (T2 P) (Jx (T2 P) 70) (s952 P) (fI (f952 P)) ⟨loD op,[.list rows,.cell c,.list dv],[]⟩=.ok (.rng rows.length) ⟨loD op,[.list rows,.cell c,.list dv],[]⟩:=by
 rw [f_it]
 have l:=f_ln P rows dv op c
 rw [addOb_small (by omega)] at l
 exact jx_rng (f_ns P) (f_rg P rows dv op c _) l (by omega)
theorem lo_sub (op:Bool) (w:Nat) (v:Str):∀ y a,look y (loD op)=some a→look y (loT op w v)=some a∧okV 3 a=true:=by
 intro y a h
 have e:loT op w v=loD op++[(S "words",.obj w),(S "value",.str v)]:=rfl
 have ok:∀ q∈loD op,okV 3 q.2=true:=by
   intro q hq
   simp only [loD,List.mem_cons,List.not_mem_nil,or_false] at hq
   rcases hq with rfl | rfl | rfl | rfl <;> rfl
 rw [e]
 generalize loD op=l at h ok
 induction l with
 | nil=>cases h
 | cons q r ih =>
   rw [List.cons_append,look_cons]
   rw [look_cons] at h
   cases hs:sq q.1 y with
   | true=>rw [hs] at h; cases h; exact ⟨rfl,ok q (.head _)⟩
   | false=>rw [hs] at h; exact ih h fun q hq=>ok q (.tail _ hq)
theorem okL_rows:∀ rs:List Str,okL 0 (rowsV rs)=true
 | []=>rfl
 | _::r=>okL_rows r
noncomputable def cAt:Nat→Option AV
 | 0=>none
 | j + 1=>some (.int (Int.ofNat j))
theorem due_loop {g:Gl} {P:Params} (hK:g.K=KP P) (hs:101≤g.sl) {x:Cx} (o:CxOk g x 71) (hcv:x.cv=none) (hsc:x.scope.names=s952 P) {rs:List Str} (hn:rs.length≤6) (hr:∀ r∈rs,r.length=10) {rA cA dA:Addr} {s:Shared} {Q:Flow→Shared→Prop}
   (H:HS x [rA,cA,dA] ⟨loD false,[.list (rowsV rs),.cell none,.list []],[]⟩ s.heap)
   (hQ:∀ fz s₁,DueOk rs rs.length fz→Apart fz x.fz→HS (x.fzd (fz++x.fz)) [rA,cA,dA] ⟨loD (opAt rs rs.length),[.list (rowsV rs),.cell (cAt rs.length),.list (topV fz)],[]⟩ s₁.heap→Same s s₁→Q .next s₁) :
   wpAny (model g.prog g.w) x.A (exec (f952 P) x.env) Q EF s:=by
 have ok:=ok2 (g:=g) hK hs
 have hlr:(rowsV rs).length=rs.length:=List.length_map ..
 have src:=f_src P (rowsV rs) [] false none (by omega)
 rw [hlr] at src
 rw [f_eq]
 refine for_rng (n:=69) ok o hcv (fun j fz ρj σj=>ρj=[rA,cA,dA]∧σj=⟨loD (opAt rs j),[.list (rowsV rs),.cell (cAt j),.list (topV fz)],[]⟩∧DueOk rs j fz∧Apart fz x.fz) (by rw [hsc]; exact src) Sz.nil H ⟨rfl,rfl,.zero,List.nodup_nil,fun _ h=>by cases h⟩ (fun j fz ρj σj hi=>by rw [hi.1]; exact List.prefix_refl _) ?_ ?_
 · rintro j fz ρj σj l hj ⟨rfl,rfl,hd,hap⟩ hne
   refine ⟨⟨loD (opAt rs j),hD (rowsV rs) (topV fz) j,[]⟩,by rw [hsc]; exact f_asg P _ _ _ (cAt j) j,fun s₂ H₂=>?_⟩
   have hfl:=hd.len hr (by omega)
   have htl:(topV fz).length=fz.length:=List.length_map ..
   obtain ⟨w,v,tl,ob,ht,z⟩:=turn_all P rs j (opAt rs j) (topV fz) hj hn hr (by omega)
   have o':=(o.fzd hcv (l++(fz++x.fz))).less
   refine exsJ (x:=x.fzd (l++(fz++x.fz))) ok o' hcv hsc ht z H₂ fun ρ' s' f' p' H' S' fr=>?_
   cases fr
   obtain ⟨new,hnew,hne',hnn,H''⟩:=HS.norm (lo:=loD (opE (prevS rs j))) p' (okL_rows rs) H' (lo_sub _ _ _)
   refine ⟨rfl,S',fz++new,_,_,⟨rfl,rfl,.succ hd hnew,hap.app hne' hnn⟩,H'',fun p hp q hq=>?_⟩
   rcases List.mem_append.mp hp with h | h
   · exact hne p h q hq
   · exact hne' p h q (List.mem_append_left _ hq)
 · rintro fz ρj σj s₁ ⟨rfl,rfl,hd,hap⟩ H₁ S₁
   exact hQ fz s₁ hd hap H₁ S₁
end
section
set_option maxHeartbeats 200000

end
section
set_option maxHeartbeats 400000
noncomputable def dueT (rs:List Str):Nat→List AO
 | 0=>[]
 | j + 1=>dueT rs j++(dueW rs j).map (tupW j)
theorem DueOk.ts {rs:List Str} {j:Nat} {fz:List (Addr × Obj)} (h:DueOk rs j fz):All2 (fun (p:Addr × Obj) t=>OR [] t p.2) fz (dueT rs j):=by
 induction h with
 | zero=>exact .nil
 | @succ j fz new h a ih =>
   refine All2.app ih (All2.ofGet (by rw [List.length_map]; exact All2.len' a) fun i p t e1 e2=>?_)
   rw [List.getElem?_map] at e2
   cases hw:(dueW rs j)[i]? with
   | none=>rw [hw] at e2; cases e2
   | some y =>
     rw [hw] at e2
     cases e2
     exact All2.at' a e1 hw
theorem HS.thaw {x:Cx} {fz:List (Addr × Obj)} {ρ:List Addr} {lo:List (Str × AV)} {rows ext:List AV} {c:Option AV} {tl ts:List AO} {ob:List Nat} {h:Heap} (ap:Apart fz x.fz) (ht:All2 (fun (p:Addr × Obj) t=>OR [] t p.2) fz ts)
   (H:HS (x.fzd (fz++x.fz)) ρ ⟨lo,.list rows::.cell c::.list (topV fz++ext)::tl,ob⟩ h):HS x (ρ++fz.map (·.1)) ⟨[],.list rows::.cell c::.list (refsV (3 + tl.length) fz.length++ext)::(tl++ts),[]⟩ h:=by
 obtain ⟨m,os,F,HP,lr⟩:=H
 have hor:=HP.or
 have hln:ρ.length=tl.length + 1 + 1 + 1:=HP.ln
 have hol:=HP.olen
 have pre:ρ <+: ρ++fz.map (·.1):=⟨_,rfl⟩
 have hts:=All2.len' ht
 cases hor with
 | cons r0 hor =>
 cases hor with
 | cons r1 hor =>
 cases hor with
 | cons r2 hor =>
 rename_i o0 o1 o2 osr
 obtain ⟨vs,nn,rfl,hvs⟩:=r2
 obtain ⟨va,vb,rfl,h1,h2⟩:=All2.split hvs
 have hzip:(ρ++fz.map (·.1)).zip (o0::o1::listO (va++vb) nn::(osr++fz.map (·.2)))=ρ.zip (o0::o1::listO (va++vb) nn::osr)++fz:=by
   have e:(o0::o1::listO (va++vb) nn::(osr++fz.map (·.2)))=(o0::o1::listO (va++vb) nn::osr)++fz.map (·.2):=rfl
   rw [e,List.zip_append hol]
   rw [zip_self]
 refine ⟨m,o0::o1::listO (va++vb) nn::(osr++fz.map (·.2)),F,⟨fun q hq=>?_,?_,fun q hq=>?_,?_,.cons (r0.mono pre) (.cons (r1.mono pre) (.cons ⟨_,_,rfl,?_⟩ (All2.app (ORs.mono pre hor) ?_)))⟩,fun y a e=>by cases e⟩
 · rw [hzip,List.append_assoc] at hq
   exact HP.nw q hq
 · rw [List.nodup_append]
   refine ⟨HP.nd,ap.1,fun a ha b hb e=>?_⟩
   obtain ⟨p,hp,rfl⟩:=List.mem_map.mp hb
   exact HP.dj p (List.mem_append_left _ hp) (e ▸ ha)
 · intro hm
   rcases List.mem_append.mp hm with hm | hm
   · exact HP.dj q (List.mem_append_right _ hq) hm
   · obtain ⟨p,hp,e⟩:=List.mem_map.mp hm
     exact ap.2 p hp q hq e
 · simp only [List.length_append,List.length_map,List.length_cons]
   omega
 · refine All2.app ?_ (VRs.mono pre h2)
   have hl:va.length=fz.length:=(All2.len' h1).symm.trans (List.length_map ..)
   refine All2.ofGet (by simp [refsV,hl]) fun i a v e1 e2=>?_
   have hi:i<fz.length:=by
     have:=(List.getElem?_eq_some_iff.mp e2).1
     omega
   have hr:(refsV (3 + tl.length) fz.length)[i]?=some (.obj (3 + tl.length + i)):=by
     unfold refsV
     rw [List.getElem?_map,List.getElem?_range hi]; rfl
   rw [hr] at e1
   cases e1
   have htp:(topV fz)[i]?=some (.top (fz[i]).1):=by
     unfold topV
     rw [List.getElem?_map,List.getElem?_eq_getElem hi]; rfl
   have hv:=All2.at' h1 htp e2
   refine ⟨(fz[i]).1,?_,hv⟩
   have e3:3 + tl.length + i=ρ.length + i:=by omega
   rw [e3,List.getElem?_append_right (by omega),Nat.add_sub_cancel_left,List.getElem?_map,List.getElem?_eq_getElem hi]
   rfl
 · refine All2.ofGet (by rw [List.length_map]; exact hts.symm) fun i t o e1 e2=>?_
   rw [List.getElem?_map] at e2
   cases hz:fz[i]? with
   | none=>rw [hz] at e2; cases e2
   | some q =>
     rw [hz] at e2
     cases e2
     exact (All2.at' ht hz e1).mono List.nil_prefix
end
section
set_option maxHeartbeats 400000
noncomputable def endL:List AV:=[.str (S "No closing quotation"),.str (S "\"\r\n\r\n")]
noncomputable def extD : Bool → List AV
 | true => [.obj 4]
 | false => []
noncomputable def tlD (n : Nat) : Bool → List AO
 | true => [.list endL, .tup [.int (Int.ofNat n + 2), .obj 3]]
 | false => []
noncomputable def lo0D : List (Str × AV) := [(S "k", .obj 1), (S "rows", .obj 0)]
noncomputable def lo1D : List (Str × AV) := [(S "k", .obj 1), (S "rows", .obj 0), (S "due",.obj 2)]
section
variable (P:Params) (rows dv:List AV) (c:Option AV)
theorem b952_eq:b952 P=nthS (b952 P) 0::nthS (b952 P) 1::f952 P::(b952 P).drop 3:=by kernel_rfl
theorem d_s0:(Jx (T2 P) 71).ex (s952 P) (nthS (b952 P) 0) ⟨lo0D,[.list rows,.cell .none],[]⟩=.ok .next ⟨lo1D,[.list rows,.cell .none,.list []],[]⟩:=by kernel_rfl
theorem d_s1:(Jx (T2 P) 71).ex (s952 P) (nthS (b952 P) 1) ⟨lo1D,[.list rows,.cell .none,.list []],[]⟩=.ok .next ⟨loD false,[.list rows,.cell .none,.list []],[]⟩:=by kernel_rfl
theorem d_eT:(Jx (T2 P) 71).exs (s952 P) ((b952 P).drop 3) ⟨loD true,[.list rows,.cell c,.list dv],[]⟩=.ok (.ret (.obj 2)) ⟨loD true,.list rows::.cell c::.list (dv++extD true)::tlD rows.length true,addOb dv.length (addOb rows.length [])⟩:=by kernel_rfl
theorem d_eF:(Jx (T2 P) 71).exs (s952 P) ((b952 P).drop 3) ⟨loD false,[.list rows,.cell c,.list dv],[]⟩=.ok (.ret (.obj 2)) ⟨loD false,[.list rows,.cell c,.list dv],[]⟩:=by kernel_rfl
theorem d_e (op:Bool) (h1:rows.length≤4096) (h2:dv.length≤4096):(Jx (T2 P) 71).exs (s952 P) ((b952 P).drop 3) ⟨loD op,[.list rows,.cell c,.list dv],[]⟩=.ok (.ret (.obj 2)) ⟨loD op,.list rows::.cell c::.list (dv++extD op)::tlD rows.length op,[]⟩:=by
 cases op with
 | true =>
   have e:=d_eT P rows dv c
   rw [addOb_small h1,addOb_small h2] at e
   exact e
 | false =>
   have e:dv++extD false=dv:=List.append_nil _
   rw [e]
   exact d_eF P rows dv c
end
noncomputable def dueH (rs:List Str):List AO:=.list (rowsV rs)::.cell (cAt rs.length)::.list (refsV (3 + (tlD rs.length (opAt rs rs.length)).length) (dueT rs rs.length).length++extD (opAt rs rs.length))::(tlD rs.length (opAt rs rs.length)++dueT rs rs.length)
theorem HS.two {x:Cx} {ρ:List Addr} {σ:AS} {h:Heap} (H:HS x ρ σ h):ρ.length=σ.hp.length:=by
 obtain ⟨m,os,F,HP,lr⟩:=H
 exact HP.ln
theorem due_body {g:Gl} {P:Params} (hK:g.K=KP P) (hs:101≤g.sl) {rs:List Str} (hn:rs.length≤6) (hr:∀ r∈rs,r.length=10):BodyP g 71 (fi952 P) ⟨lo0D,[.list (rowsV rs),.cell .none],[]⟩ (.ret (.obj 2)) ⟨[],dueH rs,[]⟩:=by
 intro x o hcv hsc _ ρ s Q H hQ
 have ok:=ok2 (g:=g) hK hs
 have hsc':x.scope.names=s952 P:=hsc
 show wpAny (model g.prog g.w) x.A (execs (b952 P) x.env) Q EF s
 rw [b952_eq]
 refine wpAny_execs_cons (exJ ok o hcv hsc' (d_s0 P (rowsV rs)) Sz.nil H fun ρ₁ s₁ f₁ p₁ H₁ S₁ fr=>?_)
 cases fr
 refine wpAny_execs_cons (exJ ok o hcv hsc' (d_s1 P (rowsV rs)) Sz.nil H₁ fun ρ₂ s₂ f₂ p₂ H₂ S₂ fr=>?_)
 cases fr
 obtain ⟨rA,cA,dA,rfl⟩:∃ rA cA dA,ρ₂=[rA,cA,dA]:=by
   have hl:ρ₂.length=3:=H₂.two
   match ρ₂,hl with
   | [a,b,c],_=>exact ⟨a,b,c,rfl⟩
 refine wpAny_execs_cons (due_loop hK hs o hcv hsc' hn hr H₂ fun fz s₃ hd hap H₃ S₃=>?_)
 have hfl:=hd.len hr (Nat.le_refl _)
 have htl:(topV fz).length=fz.length:=List.length_map ..
 have hrl:(rowsV rs).length=rs.length:=List.length_map ..
 have te:=d_e P (rowsV rs) (topV fz) (cAt rs.length) (opAt rs rs.length) (by omega) (by omega)
 rw [hrl] at te
 refine exsJ (x:=x.fzd (fz++x.fz)) ok (o.fzd hcv _) hcv hsc' te Sz.nil H₃ fun ρ₄ s₄ f₄ p₄ H₄ S₄ fr=>?_
 obtain ⟨v',rfl,vr⟩:=fr
 have ht:=hd.ts
 have H₅:=HS.thaw hap ht H₄
 have hlen:fz.length=(dueT rs rs.length).length:=All2.len' ht
 rw [hlen] at H₅
 have p₅:ρ₄ <+: ρ₄++fz.map (·.1):=⟨_,rfl⟩
 exact hQ _ _ _ ((((p₁.trans p₂).trans p₄)).trans p₅) H₅ (((S₁.trans S₂).trans S₃).trans S₄) ⟨v',rfl,vr.mono p₅⟩
end
section
set_option maxHeartbeats 400000
theorem All2.remap {α β γ:Type} {R R':β→γ→Prop} {f f':α→β} (h:∀ x v,R (f x) v→R' (f' x) v):∀ {l:List α} {vs:List γ},All2 R (l.map f) vs→All2 R' (l.map f') vs
 | [],_,k=>by cases k; exact .nil
 | x::r,_,k=>by
   cases k with
   | cons a b=>exact .cons (h _ _ a) (All2.remap h b)
theorem strsA_rows {xs:List AV}:∀ {rs:List Str},strsA xs=some rs→xs=rowsV rs:=by
 induction xs with
 | nil=>intro rs h; cases h; rfl
 | cons a r ih =>
   intro rs h
   obtain ⟨y,zs,rfl,hz,rfl⟩:=strsA_cons h
   rw [ih hz]; rfl
noncomputable def extN (b:Nat):Bool→List AV
 | true=>[.obj (b + 2)]
 | false=>[]
noncomputable def tlN (n b:Nat):Bool→List AO
 | true=>[.list endL,.tup [.int (Int.ofNat n + 2),.obj (b + 1)]]
 | false=>[]
noncomputable def dueNew (rs:List Str) (b:Nat):List AO:=.list (refsV (b + (1 + (tlD rs.length (opAt rs rs.length)).length)) (dueT rs rs.length).length++extN b (opAt rs rs.length))::(tlN rs.length b (opAt rs rs.length)++dueT rs rs.length)
noncomputable def dueB (rs:List Str):Bool:=Nat.ble rs.length 6&&rs.all fun r=>Nat.beq r.length 10
noncomputable def pDue (as:List AV) (ks:List (Str × AV)) (σ:AS):Option (R AV):=match as,ks with
 | [.obj i],[]=>(match listOf σ.hp i with
   | some xs=>(match strsA xs with
     | some rs=>some (.ok (.obj σ.hp.length) { σ with hp:=σ.hp++dueNew rs σ.hp.length,ob:=addOb (chk (dueB rs)) σ.ob })
     | .none=>.none)
   | .none=>.none)
 | _,_=>.none
theorem okO_due (rs:List Str):∀ n,∀ t∈dueT rs n,okO 0 t=true
 | 0,_,h=>by cases h
 | n + 1,t,h=>by
   rcases List.mem_append.mp h with h | h
   · exact okO_due rs n t h
   · obtain ⟨y,_,rfl⟩:=List.mem_map.mp h
     rfl
theorem All2.mem {α β:Type} {R R':α→β→Prop} {a:List α} {b:List β} (h:All2 R a b) (k:∀ x∈a,∀ y,R x y→R' x y):All2 R' a b:=by
 induction h with
 | nil=>exact .nil
 | cons r _ ih=>exact .cons (k _ (.head _) _ r) (ih fun x hx=>k x (.tail _ hx))
theorem due_shift {ad cA:Addr} {A ρ:List Addr} {rs:List Str} {ow oc:Obj} {B:List Obj} (h:ORs (ad::cA::A) (dueH rs) (ow::oc::B)):ORs (ρ++A) (dueNew rs ρ.length) B:=by
 have sh:∀ j v,VR (ad::cA::A) (.obj (2 + j)) v→VR (ρ++A) (.obj (ρ.length + j)) v:=by
   rintro j v ⟨a,ha,rfl⟩
   refine ⟨a,?_,rfl⟩
   rw [List.getElem?_append_right (by omega),Nat.add_sub_cancel_left]
   have e:2 + j=j + 1 + 1:=by omega
   rw [e] at ha
   exact ha
 unfold dueH at h
 cases h with
 | cons _ h =>
 cases h with
 | cons _ h =>
 cases h with
 | cons r2 h =>
 obtain ⟨vs,nn,rfl,hvs⟩:=r2
 obtain ⟨va,vb,rfl,h1,h2⟩:=All2.split hvs
 obtain ⟨c1,c2,rfl,k1,k2⟩:=All2.split h
 refine .cons ⟨_,_,rfl,All2.app (All2.remap (fun j v hv=>?_) h1) ?_⟩ (All2.app ?_ (All2.mem k2 fun t ht o ho=>OR.free (okO_due rs _ t ht) ho))
 · have e:3 + (tlD rs.length (opAt rs rs.length)).length + j=2 + (1 + (tlD rs.length (opAt rs rs.length)).length + j):=by omega
   have hv:VR (ad::cA::A) (.obj (3 + (tlD rs.length (opAt rs rs.length)).length + j)) v:=hv
   rw [e] at hv
   have:=sh _ _ hv
   rw [← Nat.add_assoc] at this
   exact this
 · generalize opAt rs rs.length=op at h2
   cases op with
   | false=>cases h2; exact .nil
   | true =>
     cases h2 with
     | cons a b=>cases b; exact .cons (sh 2 _ a) .nil
 · generalize opAt rs rs.length=op at k1
   cases op with
   | false=>cases k1; exact .nil
   | true =>
     cases k1 with
     | cons a b =>
     cases b with
     | cons b c =>
     cases c
     obtain ⟨ws,nw,rfl,hw⟩:=b
     cases hw with
     | cons w1 hw =>
     cases hw with
     | cons w2 hw =>
     cases hw
     exact .cons (OR.free rfl a) (.cons ⟨_,_,rfl,.cons (VR.free rfl w1) (.cons (sh 1 _ w2) .nil)⟩ .nil)
end
section
set_option maxHeartbeats 400000
theorem enter952 (P:Params) (rows:List AV):enter (fi952 P) [.obj 0] [] [.list rows]=some (lo0D,[.list rows,.cell .none]):=by kernel_rfl
section
variable {g:Gl} {P:Params}
theorem due_s (hK:g.K=KP P) (hs:173≤g.sl) {as:List AV} {ks:List (Str × AV)} {σ:AS}:TSat σ (pDue as ks σ) fun v σ'=>∀ n,CallP g n (.top 952) as ks σ v σ':=by
 rcases as with _ | ⟨a,_ | _⟩ <;> first | exact True.intro | (cases a <;> exact True.intro) | skip
 cases a <;> first | exact True.intro | skip
 rename_i i
 cases ks with
 | cons=>exact True.intro
 | nil =>
 unfold pDue
 dsimp only
 cases hi:listOf σ.hp i with
 | none=>exact True.intro
 | some xs =>
 dsimp only
 cases hrs:strsA xs with
 | none=>exact True.intro
 | some rs =>
 have hxs:=strsA_rows hrs
 subst hxs
 refine ⟨addOb_sfx _ _,fun n=>CallP.need fun z=>?_⟩
 have hok:=chk_ok z.hd
 unfold dueB at hok
 rw [Bool.and_eq_true] at hok
 have hn:rs.length≤6:=Nat.le_of_ble_eq_true hok.1
 have hr:∀ q∈rs,q.length=10:=fun q hq=>Nat.eq_of_beq_eq_true (List.all_eq_true.mp hok.2 q hq)
 clear hok z
 intro x o A' hA hh hd hu z ρ s f' as' ks' m Q H vf vas vks hQ
 cases vks
 refine vrs1 vas fun v hv e=>?_
 subst e
 obtain ⟨ad,ha,rfl⟩:=hv
 obtain ⟨os,F,HP,lr⟩:=H
 have hi':=listOf_get hi
 obtain ⟨ad',oi,h1,h2,hor,_⟩:=HP.get hi'
 cases ha.symm.trans h1
 have V:Vw ρ os [i] [(ad,oi)]:=.cons ⟨h1,h2⟩ .nil
 have body:=due_body (g:=g.slk 101) hK (Nat.le_refl _) hn hr
 have o72:CxOk (g.slk 101) x 72:=o.slk (by omega)
 refine call_fnB (g:=g.slk 101) (fn952 (g:=g.slk 101) hK) (as:=[.obj 0]) (ks:=[]) (σ:=⟨[],[.list (rowsV rs)],[]⟩) (enter952 P (rowsV rs)) body (x.fzd _) (o72.wide (V.fz HP.dj)) A' hA hh (by show A'.depth + 72 + 101<_; omega) (by show A'.units + 8 * (72 + 101)<_; omega) Sz.nil [ad] s f' [.ref ad] [] m Q (view_in F HP V (List.nodup_cons.mpr ⟨List.not_mem_nil,List.nodup_nil⟩) LR.nil (.cons (OR.free (okL_rows rs) hor) .nil)) (VR.free rfl vf) (.cons ⟨ad,rfl,rfl⟩ .nil) .nil fun ρ₁ s₁ v₁ p₁ H₁ S₁ vr=>?_
 obtain ⟨A,os₁,B,rfl,hor₁,hl,hAB,nd,back⟩:=view_out HP lr V p₁ H₁
 obtain ⟨ow,rfl⟩:=len1 hl
 cases A with
 | nil=>cases B with
   | cons=>cases hAB
   | nil=>exact absurd hor₁.len (by unfold dueH; simp)
 | cons cA A =>
 cases B with
 | nil=>cases hAB
 | cons oc B =>
 have hAB:A.length=B.length:=Nat.succ.inj hAB
 have e1:(A.zip B).map (·.1)=A:=List.map_fst_zip (Nat.le_of_eq hAB)
 have e2:(A.zip B).map (·.2)=B:=List.map_snd_zip (Nat.le_of_eq hAB.symm)
 have b:=back (A.zip B) σ.hp (dueNew rs σ.hp.length) (addOb (chk (dueB rs)) σ.ob) (fun p hp=>.tail _ hp) (by rw [e1]; exact (List.nodup_cons.mp nd).2) rfl (fun j a e=>?_) (by rw [e1,e2,← HP.ln]; exact due_shift hor₁)
 · rw [e1] at b
   refine hQ (ρ++A) s₁ v₁ ⟨_,rfl⟩ b S₁ ?_
   obtain ⟨a,ha2,rfl⟩:=vr
   refine ⟨a,?_,rfl⟩
   rw [← HP.ln,List.getElem?_append_right (Nat.le_refl _),Nat.sub_self]
   exact ha2
 · by_cases hji:j=i
   · rw [hji] at e
     cases e.symm.trans hi'
     have r0:=All2.at' (i:=0) hor₁ rfl rfl
     exact .inr ⟨0,ow,by rw [hji]; rfl,rfl,OR.free (okL_rows rs) r0⟩
   · exact .inl ⟨by simp [hji],e⟩
end
end
section
set_option maxHeartbeats 400000
noncomputable def prim3 (a:Nat) (as:List AV) (ks:List (Str × AV)) (σ:AS):Option (R AV) :=
 match Nat.beq a 952 with | true=>pDue as ks σ | false=>prim2 a as ks σ
noncomputable def T3 (P:Params):Tab:={ T2 P with prim:=prim3 }
section
variable {g:Gl} {P:Params}
theorem keep952 (P:Params):keepIn (KP P) (.ref 952)=true:=by kernel_rfl
theorem ok3 (hK:g.K=KP P) (hs:173≤g.sl):TabOk g (T3 P) :=
 have o:=ok2 (g:=g) hK (by omega)
 { bin:=o.bin
   cmp:=o.cmp
   bic:=o.bic
   mbi:=o.mbi
   sub:=o.sub
   slc:=o.slc
   fn:=o.fn
   cls:=o.cls
   glob:=o.glob
   prim:=fun a as ks σ=>by
     refine (?_:OSat (prim3 a as ks σ) _)
     unfold prim3
     cases e:Nat.beq a 952 with
     | true=>rw [Nat.eq_of_beq_eq_true e]; exact (due_s hK hs).with (by rw [hK]; exact keep952 P)
     | false=>exact o.prim a as ks σ
   make:=o.make
   tup:=o.tup
   spc:=o.spc }
end
end
section
set_option maxHeartbeats 400000
noncomputable def slcD (sa:Nat) (xs:List Int) (a:AV) (l u:Option AV) (σ:AS):Option (R AV):=match a,l,u with
 | .top b,.none,some (.int (.ofNat n))=>some (.ok (.obj σ.hp.length) { σ with hp:=σ.hp++[.list ((xs.take n).map AV.int)],ob:=addOb (chk (Nat.beq b sa)) (addOb xs.length σ.ob) })
 | _,_,_=>.none
noncomputable def T4 (sa:Nat) (xs:List Int) (P:Params):Tab:={ T3 P with slc:=fun a l u σ=>orT (slcB a l u σ) (slcD sa xs a l u σ) }
section
variable {g:Gl} {P:Params} {sa:Nat} {xs:List Int}
theorem slcD_s (so:ScrOk g sa xs) {a:AV} {l u:Option AV} {σ:AS}:TSat σ (slcD sa xs a l u σ) (SlcP g σ a l u):=by
 cases a <;> first | exact True.intro | skip
 rename_i b
 cases l with
 | some=>exact True.intro
 | none =>
 cases u with
 | none=>exact True.intro
 | some u =>
 cases u <;> first | exact True.intro | skip
 rename_i k
 cases k <;> first | exact True.intro | skip
 rename_i n
 refine ⟨(addOb_sfx _ _).trans (addOb_sfx _ _),fun value el eu q x o z ρ s a' lv uv Q H va vl vu hQ=>?_⟩
 have c:=(slcC_s so (a:=.top b) (l:=.none) (u:=some (.int (.ofNat n))) (σ:=σ)).use (r:=.ok (.obj σ.hp.length) { σ with hp:=σ.hp++[.list ((xs.take n).map AV.int)],ob:=addOb xs.length σ.ob }) (by
   unfold slcC
   dsimp only
   rw [chk_ok z.hd])
 exact c.2 value el eu q x o (z.of (addOb_sfx _ _)) ρ s a' lv uv Q H va vl vu fun ρ' s' b p H' S V=>hQ ρ' s' b p ⟨H'.ex⟩ S V
theorem ok4 (hK:g.K=KP P) (hs:173≤g.sl) (hx:ScrOk g sa xs):TabOk g (T4 sa xs P) :=
 have o:=ok3 (g:=g) hK hs
 { bin:=o.bin
   cmp:=o.cmp
   bic:=o.bic
   mbi:=o.mbi
   sub:=o.sub
   slc:=fun a l u σ=>(o.slc a l u σ).orT (slcD_s hx)
   fn:=o.fn
   cls:=o.cls
   glob:=o.glob
   prim:=o.prim
   make:=o.make
   tup:=o.tup
   spc:=o.spc }
end
end
section
set_option maxHeartbeats 400000
noncomputable def bLaw (P:Params):List Stmt:=bodyK (KP P) 964
noncomputable def sLaw (P:Params):List (Str × NameKind):=(FD (KP P) 964).scope.names
noncomputable def modeI (a:Int):Int:=(33261 + a.fmod (Int.ofNat 65536) * 49317).fmod (Int.ofNat 65536)
noncomputable def modeN (a:Int):Nat:=(modeI a).toNat
theorem modeI_eq (a:Int):modeI a=Int.ofNat (modeN a):=by
 unfold modeN modeI
 rw [Int.fmod_eq_emod_of_nonneg _ (by decide)]
 exact (Int.toNat_of_nonneg (Int.emod_nonneg _ (by decide))).symm
theorem modeN_lt (a:Int):modeN a<65536:=by
 have h:modeI a<65536:=by
   unfold modeI
   rw [Int.fmod_eq_emod_of_nonneg _ (by decide)]
   exact Int.emod_lt_of_pos _ (by decide)
 rw [modeI_eq] at h
 have:((modeN a:Nat):Int)<65536:=h
 omega
noncomputable def intA (l:List Int):List AV:=l.map AV.int
noncomputable def modesI (xs:List Int):List Int:=(xs.take 5).map modeI++[33188]
noncomputable def loA (sa:Nat):List (Str × AV):=[(S "script",.top sa)]
noncomputable def loB (sa i:Nat):List (Str × AV):=[(S "script",.top sa),(S "modes",.obj i)]
noncomputable def r0 (sa:Nat) (xs:List Int):R Fl:=.ok .next ⟨loB sa 3,[.list (intA (xs.take 5)),.list (intA ((xs.take 5).map modeI)),.list [.int 33188],.list (intA (modesI xs))],addOb (chk (Nat.beq sa sa)) (addOb xs.length [])⟩
noncomputable def x0 (P:Params) (sa:Nat) (xs:List Int):R Fl:=(Jx (T4 sa xs P) 70).ex (sLaw P) (nthS (bLaw P) 0) ⟨loA sa,[],[]⟩
section
variable (P:Params) (sa:Nat) (a b c d e:Int) (tl:List Int)
theorem l0_0:x0 P sa []=r0 sa []:=by kernel_rfl
theorem l0_1:x0 P sa [a]=r0 sa [a]:=by kernel_rfl
theorem l0_2:x0 P sa [a,b]=r0 sa [a,b]:=by kernel_rfl
theorem l0_3:x0 P sa [a,b,c]=r0 sa [a,b,c]:=by kernel_rfl
theorem l0_4:x0 P sa [a,b,c,d]=r0 sa [a,b,c,d]:=by kernel_rfl
theorem l0_5:x0 P sa (a::b::c::d::e::tl)=r0 sa (a::b::c::d::e::tl):=by kernel_rfl
end
theorem l0 (P:Params) (sa:Nat):∀ xs:List Int,x0 P sa xs=r0 sa xs
 | []=>l0_0 P sa
 | [a]=>l0_1 P sa a
 | [a,b]=>l0_2 P sa a b
 | [a,b,c]=>l0_3 P sa a b c
 | [a,b,c,d]=>l0_4 P sa a b c d
 | a::b::c::d::e::tl=>l0_5 P sa a b c d e tl
end
section
set_option maxHeartbeats 400000
noncomputable def hdG (hs:List (Str × Str)):List AO:=hs.map fun p=>.tup [.str p.1,.str p.2]
noncomputable def tabS (sa:Nat) (ml:List AV) (hs:List (Str × Str)):AS:=⟨[(S "script",.top sa),(S "modes",.obj 0),(S "table",.obj 2)],[.list ml,.dict [(nmHeaders,.obj 3)],.inst 924 1,.list (refsV 4 hs.length)]++hdG hs,[]⟩
noncomputable def natV (ms:List Nat):List AV:=ms.map fun m=>.int (Int.ofNat m)
noncomputable def lw2 (P:Params) (sa:Nat) (xs:List Int) (ml:List AV) (hs:List (Str × Str)):R Fl:=(Jx (T4 sa xs P) 110).ex (sLaw P) (nthS (bLaw P) 2) (tabS sa ml hs)
noncomputable def stOf:R Fl→AS
 | .ok _ s=>s
 | _=>⟨[],[],[]⟩
noncomputable def crlf:Str:=⟨⟨[13,10]⟩⟩
noncomputable def textL (hs:List (Str × Str)):List Str:=(hs.map fun p=>p.1++coA++p.2)++[⟨⟨[]⟩⟩,⟨⟨[]⟩⟩]
noncomputable def textT (hs:List (Str × Str)):List Nat:=(Txt.join crlf (textL hs)).cps.toList
noncomputable def sel2 (n:Nat):List Nat:=[7 + n,8 + n,9 + n,10 + n,11 + n,12 + n,13 + n,0]
noncomputable def loD2 (sa:Nat):List (Str × AV):=[(S "script",.top sa),(S "modes",.obj 7),(S "lexer",.obj 1)]
noncomputable def hp2 (ml:List AV) (hs:List (Str × Str)):List AO:=lexH .sp lexE 1 [] (textT hs) .none [.list ml]
noncomputable def obL (hs:List (Str × Str)):List Nat:=hs.foldl (fun ob p=>addOb (chk (pctOk p.1 p.2)) ob) []
noncomputable def L2 (P:Params) (sa:Nat) (xs:List Int) (ms:List Nat) (hs:List (Str × Str)):Prop :=
 lw2 P sa xs (natV ms) hs=.ok .next (stOf (lw2 P sa xs (natV ms) hs))∧((sel2 hs.length).map fun j=>atI (stOf (lw2 P sa xs (natV ms) hs)).hp j)=(hp2 (natV ms) hs).map (fun ao=>some (rnO (nth (sel2 hs.length)) ao)) ∧
   lookAll (stOf (lw2 P sa xs (natV ms) hs)).lo (loD2 sa)=rnAll (nth (sel2 hs.length)) (loD2 sa)∧(stOf (lw2 P sa xs (natV ms) hs)).ob=addOb (chk (JoinOk crlf (textL hs))) (obL hs)
theorem l2_1 (P:Params) (sa:Nat) (xs:List Int) (m0:Nat) (a0 b0:Str):L2 P sa xs [m0] [(a0,b0)]:=⟨by kernel_rfl,by kernel_rfl,by kernel_rfl,by kernel_rfl⟩
theorem l2_2 (P:Params) (sa:Nat) (xs:List Int) (m0 m1:Nat) (a0 b0 a1 b1:Str):L2 P sa xs [m0,m1] [(a0,b0),(a1,b1)]:=⟨by kernel_rfl,by kernel_rfl,by kernel_rfl,by kernel_rfl⟩
theorem l2_3 (P:Params) (sa:Nat) (xs:List Int) (m0 m1 m2:Nat) (a0 b0 a1 b1 a2 b2:Str):L2 P sa xs [m0,m1,m2] [(a0,b0),(a1,b1),(a2,b2)]:=⟨by kernel_rfl,by kernel_rfl,by kernel_rfl,by kernel_rfl⟩
theorem l2_4 (P:Params) (sa:Nat) (xs:List Int) (m0 m1 m2 m3:Nat) (a0 b0 a1 b1 a2 b2 a3 b3:Str):L2 P sa xs [m0,m1,m2,m3] [(a0,b0),(a1,b1),(a2,b2),(a3,b3)]:=⟨by kernel_rfl,by kernel_rfl,by kernel_rfl,by kernel_rfl⟩
theorem l2_5 (P:Params) (sa:Nat) (xs:List Int) (m0 m1 m2 m3 m4:Nat) (a0 b0 a1 b1 a2 b2 a3 b3 a4 b4:Str):L2 P sa xs [m0,m1,m2,m3,m4] [(a0,b0),(a1,b1),(a2,b2),(a3,b3),(a4,b4)]:=⟨by kernel_rfl,by kernel_rfl,by kernel_rfl,by kernel_rfl⟩
theorem l2_6 (P:Params) (sa:Nat) (xs:List Int) (m0 m1 m2 m3 m4 m5:Nat) (a0 b0 a1 b1 a2 b2 a3 b3 a4 b4 a5 b5:Str):L2 P sa xs [m0,m1,m2,m3,m4,m5] [(a0,b0),(a1,b1),(a2,b2),(a3,b3),(a4,b4),(a5,b5)]:=⟨by kernel_rfl,by kernel_rfl,by kernel_rfl,by kernel_rfl⟩
theorem l2 (P:Params) (sa:Nat) (xs:List Int):∀ (ms:List Nat) (hs:List (Str × Str)),ms.length=hs.length→1≤hs.length→hs.length≤6→L2 P sa xs ms hs :=
 two6 (fun a a'=>l2_1 P sa xs a a'.1 a'.2) (fun a b a' b'=>l2_2 P sa xs a b a'.1 a'.2 b'.1 b'.2) (fun a b c a' b' c'=>l2_3 P sa xs a b c a'.1 a'.2 b'.1 b'.2 c'.1 c'.2) (fun a b c d a' b' c' d'=>l2_4 P sa xs a b c d a'.1 a'.2 b'.1 b'.2 c'.1 c'.2 d'.1 d'.2) (fun a b c d e a' b' c' d' e'=>l2_5 P sa xs a b c d e a'.1 a'.2 b'.1 b'.2 c'.1 c'.2 d'.1 d'.2 e'.1 e'.2) (fun a b c d e f a' b' c' d' e' f'=>l2_6 P sa xs a b c d e f a'.1 a'.2 b'.1 b'.2 c'.1 c'.2 d'.1 d'.2 e'.1 e'.2 f'.1 f'.2)
end
section
set_option maxHeartbeats 400000
theorem jx_ncall1 {T:Tab} {sc:List (Str × NameKind)} {n:Nat} {s s₂:AS} {r:R AV} {f:Str} {q p1:Pos} {a:Expr} {v:AV} {c:Nat} (hspc:T.spc sc (.Call (.Name f q) [a] [] p1) s=.none) (hns:noStar [a]=true)
   (ho:(Jx T n).ev sc (.Name f q) s=.ok (.top c) s) (ha:(Jx T n).ev sc a s=.ok v s₂) (hc:(Jx T n).call (.top c) [v] [] s₂=r):(Jx T (n + 1)).ev sc (.Call (.Name f q) [a] [] p1) s=r:=by
 rw [Jx_eq] at ho ha hc ⊢
 show (T.spc sc (.Call (.Name f q) [a] [] p1) s).getD (guardR (noStar [a]) (evF T (interp T n) sc (.Name f q) [a] [] s))=_
 rw [hspc,hns]
 show ((interp T n).ev sc (.Name f q) s).bind _=_
 rw [ho]
 have e:evL ((interp T n).ev sc) [a] s=.ok [v] s₂:=by
   show ((interp T n).ev sc a s).bind _=_
   rw [ha]; rfl
 show (evL ((interp T n).ev sc) [a] s).bind _=_
 rw [e]
 exact hc
noncomputable def rowS (m:Nat):Str:=⟨⟨rowL m⟩⟩
noncomputable def rowsS (ms:List Nat):List Str:=ms.map rowS
noncomputable def hdT (rs:List Str) (k:Nat):AO:=.tup [.str (curS rs k),.str (strM++coB++prevS rs k++coQ)]
noncomputable def tabH (rs:List Str):List AO:=[.dict [(nmHeaders,.obj 4)],.inst 924 2,.list (refsV 5 rs.length)]++(List.range rs.length).map (hdT rs)
noncomputable def obU (ms:List Nat):List Nat:=ms.foldl (fun ob m=>addOb (chk (u16 m)) ob) []
noncomputable def obHd (rs:List Str) (ob:List Nat):List Nat:=(List.range rs.length).foldl (fun ob k=>addOb (chk (hdrOk (curS rs k) (prevS rs k))) ob) ob
noncomputable def loC1 (sa:Nat):List (Str × AV):=[(S "script",.top sa),(S "modes",.obj 0),(S "table",.obj 3)]
noncomputable def s1L (P:Params):Stmt:=nthS (bLaw P) 1
noncomputable def laV1 (e:Stmt):Expr:=asV e
noncomputable def laQ1 (e:Stmt):Pos:=(asT e).pos
noncomputable def laP1 (e:Stmt):Pos:=e.pos
noncomputable def naE (e:Expr):Expr:=clA e
noncomputable def naQ (e:Expr):Pos:=(clF e).pos
noncomputable def naP (e:Expr):Pos:=e.pos
theorem s1L_eq (P:Params):nthS (bLaw P) 1=.Assign [.Name (S "table") (laQ1 (s1L P))] (.Call (.Name (S "_law_table") (naQ (laV1 (s1L P)))) [naE (laV1 (s1L P))] [] (naP (laV1 (s1L P)))) (laP1 (s1L P)):=by kernel_rfl
noncomputable def La (P:Params) (sa:Nat) (xs:List Int) (ms:List Nat):Prop:=(Jx (T4 sa xs P) 88).ev (sLaw P) (naE (laV1 (s1L P))) ⟨loB sa 0,[.list (natV ms)],[]⟩=.ok (.obj 1) ⟨loB sa 0,[.list (natV ms),.list (rowsV (rowsS ms))],obU ms⟩
noncomputable def Lb (P:Params) (sa:Nat) (xs:List Int) (lo:List (Str × AV)) (ml:List AV) (ob:List Nat) (rs:List Str):Prop:=(Jx (T4 sa xs P) 88).call (.top 942) [.obj 1] [] ⟨lo,[.list ml,.list (rowsV rs)],ob⟩=.ok (.obj 3) ⟨lo,[.list ml,.list (rowsV rs)]++tabH rs,obHd rs ob⟩
theorem l1a_1 (P:Params) (sa:Nat) (xs:List Int) (m0:Nat):La P sa xs [m0]:=by unfold La; kernel_rfl
theorem l1b_1 (P:Params) (sa:Nat) (xs:List Int) (lo:List (Str × AV)) (ml:List AV) (ob:List Nat) (m0:Str):Lb P sa xs lo ml ob [m0]:=by unfold Lb; kernel_rfl
theorem l1a_2 (P:Params) (sa:Nat) (xs:List Int) (m0 m1:Nat):La P sa xs [m0,m1]:=by unfold La; kernel_rfl
theorem l1b_2 (P:Params) (sa:Nat) (xs:List Int) (lo:List (Str × AV)) (ml:List AV) (ob:List Nat) (m0 m1:Str):Lb P sa xs lo ml ob [m0,m1]:=by unfold Lb; kernel_rfl
theorem l1a_3 (P:Params) (sa:Nat) (xs:List Int) (m0 m1 m2:Nat):La P sa xs [m0,m1,m2]:=by unfold La; kernel_rfl
theorem l1b_3 (P:Params) (sa:Nat) (xs:List Int) (lo:List (Str × AV)) (ml:List AV) (ob:List Nat) (m0 m1 m2:Str):Lb P sa xs lo ml ob [m0,m1,m2]:=by unfold Lb; kernel_rfl
theorem l1a_4 (P:Params) (sa:Nat) (xs:List Int) (m0 m1 m2 m3:Nat):La P sa xs [m0,m1,m2,m3]:=by unfold La; kernel_rfl
theorem l1b_4 (P:Params) (sa:Nat) (xs:List Int) (lo:List (Str × AV)) (ml:List AV) (ob:List Nat) (m0 m1 m2 m3:Str):Lb P sa xs lo ml ob [m0,m1,m2,m3]:=by unfold Lb; kernel_rfl
theorem l1a_5 (P:Params) (sa:Nat) (xs:List Int) (m0 m1 m2 m3 m4:Nat):La P sa xs [m0,m1,m2,m3,m4]:=by unfold La; kernel_rfl
theorem l1b_5 (P:Params) (sa:Nat) (xs:List Int) (lo:List (Str × AV)) (ml:List AV) (ob:List Nat) (m0 m1 m2 m3 m4:Str):Lb P sa xs lo ml ob [m0,m1,m2,m3,m4]:=by unfold Lb; kernel_rfl
theorem l1a_6 (P:Params) (sa:Nat) (xs:List Int) (m0 m1 m2 m3 m4 m5:Nat):La P sa xs [m0,m1,m2,m3,m4,m5]:=by unfold La; kernel_rfl
theorem l1b_6 (P:Params) (sa:Nat) (xs:List Int) (lo:List (Str × AV)) (ml:List AV) (ob:List Nat) (m0 m1 m2 m3 m4 m5:Str):Lb P sa xs lo ml ob [m0,m1,m2,m3,m4,m5]:=by unfold Lb; kernel_rfl
theorem l1a (P:Params) (sa:Nat) (xs:List Int):∀ ms:List Nat,1≤ms.length→ms.length≤6→La P sa xs ms
 | [],h,_=>absurd h (by simp)
 | [m0],_,_=>l1a_1 P sa xs m0
 | [m0,m1],_,_=>l1a_2 P sa xs m0 m1
 | [m0,m1,m2],_,_=>l1a_3 P sa xs m0 m1 m2
 | [m0,m1,m2,m3],_,_=>l1a_4 P sa xs m0 m1 m2 m3
 | [m0,m1,m2,m3,m4],_,_=>l1a_5 P sa xs m0 m1 m2 m3 m4
 | [m0,m1,m2,m3,m4,m5],_,_=>l1a_6 P sa xs m0 m1 m2 m3 m4 m5
 | _::_::_::_::_::_::_::_,_,h=>absurd h (by simp)
theorem l1b (P:Params) (sa:Nat) (xs:List Int) (lo:List (Str × AV)) (ml:List AV) (ob:List Nat):∀ ms:List Str,1≤ms.length→ms.length≤6→Lb P sa xs lo ml ob ms
 | [],h,_=>absurd h (by simp)
 | [m0],_,_=>l1b_1 P sa xs lo ml ob m0
 | [m0,m1],_,_=>l1b_2 P sa xs lo ml ob m0 m1
 | [m0,m1,m2],_,_=>l1b_3 P sa xs lo ml ob m0 m1 m2
 | [m0,m1,m2,m3],_,_=>l1b_4 P sa xs lo ml ob m0 m1 m2 m3
 | [m0,m1,m2,m3,m4],_,_=>l1b_5 P sa xs lo ml ob m0 m1 m2 m3 m4
 | [m0,m1,m2,m3,m4,m5],_,_=>l1b_6 P sa xs lo ml ob m0 m1 m2 m3 m4 m5
 | _::_::_::_::_::_::_::_,_,h=>absurd h (by simp)
noncomputable def r1 (sa:Nat) (ms:List Nat):R Fl:=.ok .next ⟨loC1 sa,[.list (natV ms),.list (rowsV (rowsS ms))]++tabH (rowsS ms),obHd (rowsS ms) (obU ms)⟩
noncomputable def x1 (P:Params) (sa:Nat) (xs:List Int) (ms:List Nat):R Fl:=(Jx (T4 sa xs P) 90).ex (sLaw P) (nthS (bLaw P) 1) ⟨loB sa 0,[.list (natV ms)],[]⟩
section
variable (P:Params) (sa:Nat) (xs:List Int)
theorem l1_spc (σ:AS):(T4 sa xs P).spc (sLaw P) (.Call (.Name (S "_law_table") (naQ (laV1 (s1L P)))) [naE (laV1 (s1L P))] [] (naP (laV1 (s1L P)))) σ=.none:=by kernel_rfl
theorem l1_ns:noStar [naE (laV1 (s1L P))]=true:=by kernel_rfl
theorem l1_nm (σ:AS):(Jx (T4 sa xs P) 88).ev (sLaw P) (.Name (S "_law_table") (naQ (laV1 (s1L P)))) σ=.ok (.top 942) σ:=by kernel_rfl
theorem l1_lk:look (S "table") (sLaw P)=some .local:=by kernel_rfl
theorem l1_put:put (S "table") (.obj 3) (loB sa 0)=loC1 sa:=by kernel_rfl
theorem l1 (ms:List Nat) (h1:1≤ms.length) (h6:ms.length≤6):x1 P sa xs ms=r1 sa ms:=by
 unfold x1 r1
 rw [s1L_eq]
 have ha:=l1a P sa xs ms h1 h6
 have hl:(rowsS ms).length=ms.length:=List.length_map ..
 have hb:=l1b P sa xs (loB sa 0) (natV ms) (obU ms) (rowsS ms) (by omega) (by omega)
 have he:=jx_assign (q:=laQ1 (s1L P)) (p:=laP1 (s1L P)) (l1_lk P) (jx_ncall1 (l1_spc P sa xs _) (l1_ns P) (l1_nm P sa xs _) ha hb)
 rw [← l1_put]
 exact he
end
end
section
set_option maxHeartbeats 1000000
noncomputable abbrev veT:Value:=.type "ValueError"
noncomputable def RMade (x:Cx) (msg:Str) (ρ:List Addr) (hp:List AO) (v:Value) (s':Shared):Prop :=
 ∃ e h m os tok,v=.ref e∧Heap.MadeExcOf h s'.heap e veT [.str msg tok]∧Fr x.h₀ x.L h (x.fm m)∧HpR x.h₀ x.L x.fz ρ hp h os
noncomputable def ROn (x:Cx) (msg:Str) (ρ:List Addr) (σ:AS) (m:Str→Option Value) (v:Value) (s':Shared):Prop :=
 ∃ e G os t tok,v=.ref e∧Fr x.h₀ x.L G (x.fm m)∧LR ρ σ.lo (x.vm m)∧RaisedS x.base G (x.env::x.outer) e veT t [.str msg tok] (ρ.zip os++x.fz) s'.heap∧G.UpToSlots s'.heap∧ρ.Nodup∧(∀ p∈x.fz,p.1 ∉ ρ)∧ρ.length=σ.hp.length∧ORs ρ σ.hp os
noncomputable def RAny (x:Cx) (msg:Str) (ρ:List Addr) (hp:List AO) (v:Value) (s':Shared):Prop:=RMade x msg ρ hp v s' ∨ ∃ σ m,ROn x msg ρ σ m v s'∧σ.hp=hp
section
variable (g:Gl)
noncomputable def RaiseB (n:Nat) (fi:FnI) (σ₀:AS) (msg:Str) (hp':List AO):Prop:=∀ x',CxOk g x' n→x'.cv=none→x'.cl=[]→x'.scope.names=fi.scn→∀ ρ (s:Shared) (Q:Flow→Shared→Prop) (E:Value→Shared→Prop),PassesOwn (model g.prog g.w) x'.A x'.env E→HS x' ρ σ₀ s.heap →
 (∀ ρ₁ s₁ v,ρ <+: ρ₁→RAny x' msg ρ₁ hp' v s₁→Same s s₁→E v s₁)→wpAny (model g.prog g.w) x'.A (execs fi.body x'.env) Q E s
noncomputable def CallX (n:Nat) (f:AV) (as:List AV) (σ:AS) (msg:Str) (hp':List AO):Prop:=∀ x,CxOk g x n→∀ A':Around,A'.frames=some (x.env::x.outer)→A'.handled=none→A'.depth + n + g.sl<recursionLimit→A'.units + 8 * (n + g.sl)<cLine→∀ ρ s f' as' m (R:Result→Shared→Prop),
 HSm x ρ σ s.heap m→VR ρ f f'→VRs ρ as as'→(∀ ρ' s' v,ρ <+: ρ'→ROn x msg ρ' { σ with hp:=hp' } m v s'→Same s s'→R (.error v) s') →
 codeAny (model g.prog g.w) A' (.call f' ⟨as',[]⟩) R s
end
theorem no_cell {l:List (Str × NameKind)} (h:cellNs l=[]):∀ x∈l,x.2 ≠ .cell:=by
 induction l with
 | nil=>intro x hx; cases hx
 | cons p r ih =>
   obtain ⟨y,k⟩:=p
   intro x hx
   cases k <;> first | (cases h; done) | skip
   all_goals
     rcases List.mem_cons.mp hx with rfl | hx
     · exact fun e=>nomatch e
     · exact ih h x hx
section
variable {g:Gl} {n:Nat}
theorem call_fnX {a:Nat} {fi:FnI} (fo:FnOk g a fi) (hnc:cellNs fi.scn=[]) {as:List AV} {σ:AS} {lo:List (Str × AV)} {hp':List AO} {msg:Str} (hz:enter fi as [] σ.hp=some (lo,σ.hp))
   (hr:RaiseB g n fi { σ with lo:=lo } msg hp'):CallX g (n + 1) (.top a) as σ msg hp':=by
 intro x o A' hA hh hd hu ρ s f' as' m R H vf vas hQ
 cases vf
 refine enter_s fo (enter_ok.use hz) o hA hh hd hu H vas .nil fun gg L' qual scope cdv cl ρ₀ s₀ o' hs hcl FG p₀ S₀ H₀=>?_
 have hcl:=hcl hnc
 subst hcl
 obtain ⟨os,F,HP,l⟩:=H
 refine hr _ o' rfl rfl hs ρ₀ s₀ _ _ PassesOwn.leaving H₀ fun ρ₁ s₁ v p₁ RA S₁=>?_
 have S₁':∀ h',Same s { s₁ with heap:=h' }:=fun h'=>(S₀.trans S₁).trans Same.of
 rcases RA with ⟨e,h,m₁,os₁,tok,rfl,hx,F₁,HP₁⟩ | ⟨σ₁,m₁,⟨e,G,os₁,t,tok,rfl,F₁,_,R₁,U₁,nd,dj,ln,or₁⟩,rfl⟩
 · refine leave_raiseS (name:=qual) (scope:=scope) (a:=a) (cd:=cdv) o'.B hx F₁ HP₁.nw (fun h' t RS _ U=>?_) o'.kd
   exact hQ ρ₁ { s₁ with heap:=h' } _ (p₀.trans p₁) ⟨e,gg,os₁,t,tok,rfl,FG,l.mono (p₀.trans p₁),RS,U,HP₁.nd,HP₁.dj,HP₁.ln,HP₁.or⟩ (S₁' h')
 · refine leave_onS (name:=qual) (scope:=scope) (a:=a) (cd:=cdv) o'.B F₁ R₁ U₁ (fun h' RS _ U=>?_)
   exact hQ ρ₁ { s₁ with heap:=h' } _ (p₀.trans p₁) ⟨e,gg,os₁,t,tok,rfl,FG,l.mono (p₀.trans p₁),RS,U,nd,dj,ln,or₁⟩ (S₁' h')
end
end
section
set_option maxHeartbeats 400000
noncomputable def b688 (P:Params):List Stmt:=bodyK (KP P) 688
noncomputable def scG (P:Params):List (Str × NameKind):=(FD (KP P) 688).scope.names
noncomputable def laV (e:Stmt):Expr:=asV e
noncomputable def laQ (e:Stmt):Pos:=(asT e).pos
noncomputable def laP (e:Stmt):Pos:=e.pos
noncomputable def meQ (e:Expr):Pos:=(attO (clF e)).pos
noncomputable def meA (e:Expr):Pos:=(clF e).pos
noncomputable def meP (e:Expr):Pos:=e.pos
noncomputable def mExpr (o m:Str) (e:Expr):Expr:=.Call (.Attribute (.Name o (meQ e)) m (meA e)) [] [] (meP e)
noncomputable def g1 (P:Params):Stmt:=nthS (b688 P) 1
theorem b688_eq (P:Params):b688 P=nthS (b688 P) 0::.Assign [.Name (S "raw") (laQ (g1 P))] (mExpr (S "self") (S "read_token") (laV (g1 P))) (laP (g1 P))::(b688 P).drop 2:=by kernel_rfl
theorem g1_line (P:Params):((meA (laV (g1 P))).endLine==(meP (laV (g1 P))).line)=true:=by kernel_rfl
noncomputable def loG:List (Str × AV):=[(S "self",.obj 1)]
noncomputable def loG2 (tk:Str):List (Str × AV):=[(S "self",.obj 1),(S "raw",.str tk)]
section
variable (P:Params) (st:Ls) (t0:Nat) (ts:List Nat) (tk:Str) (ln:Int) (dn rest:List Nat) (pb:Option Nat) (post:List AO) (ob:List Nat)
theorem g_s0:(Jx (T1 P) 68).ex (scG P) (nthS (b688 P) 0) ⟨loG,lexH st tk ln dn rest pb post,ob⟩=.ok .next ⟨loG,lexH st tk ln dn rest pb post,ob⟩:=by kernel_rfl
theorem g_self:(Jx (T1 P) 65).ev (scG P) (.Name (S "self") (meQ (laV (g1 P)))) ⟨loG,lexH st tk ln dn rest pb post,ob⟩=.ok (.obj 1) ⟨loG,lexH st tk ln dn rest pb post,ob⟩:=by kernel_rfl
theorem g_spc:(T1 P).spc (scG P) (mExpr (S "self") (S "read_token") (laV (g1 P))) ⟨loG,lexH st tk ln dn rest pb post,ob⟩=.none:=by kernel_rfl
theorem g_meth:methF (T1 P) (.obj 1) (S "read_token") (lexH st tk ln dn rest pb post)=some (.fn 695):=by kernel_rfl
theorem g_raw:look (S "raw") (scG P)=some .local:=by kernel_rfl
theorem g_put:put (S "raw") (.str tk) loG=loG2 tk:=by kernel_rfl
theorem g_tok:(Jx (T1 P) 67).exs (scG P) ((b688 P).drop 2) ⟨loG2 ⟨⟨t0::ts⟩⟩,lexH st tk ln dn rest pb post,ob⟩=.ok (.ret (.str ⟨⟨t0::ts⟩⟩)) ⟨loG2 ⟨⟨t0::ts⟩⟩,lexH st tk ln dn rest pb post,ob⟩:=by kernel_rfl
theorem g_eof:(Jx (T1 P) 67).exs (scG P) ((b688 P).drop 2) ⟨loG2 lexE,lexH st tk ln dn rest pb post,ob⟩=.ok (.ret (.str lexE)) ⟨loG2 lexE,lexH st tk ln dn rest pb post,ob⟩:=by kernel_rfl
end
theorem enter688 (P:Params) (σ:AS):(T1 P).prim 688 [.obj 1] [] σ=.none∧(T1 P).make 688=.none∧(T1 P).fn 688=some (fi688 P)∧enter (fi688 P) [.obj 1] [] σ.hp=some (loG,σ.hp)∧(fi688 P).scn=scG P∧(fi688 P).body=b688 P:=⟨by kernel_rfl,by kernel_rfl,by kernel_rfl,by kernel_rfl,by kernel_rfl,by kernel_rfl⟩
theorem get_call (P:Params) (post:List AO) {rest:List Nat} {ln:Int} {dn:List Nat} {pb:Option Nat} {lo:List (Str × AV)} {ob:List Nat} {t:Rt} (hin:∀ c∈rest,c∈signs) (hpb:∀ c,pb=some c→c∈signs) (h:rtok ln dn rest pb=some t) (hl:rest.length<999) :
   ∃ ob',(Jx (T1 P) 70).call (.top 688) [.obj 1] [] ⟨lo,lexH .sp lexE ln dn rest pb post,ob⟩=.ok (.str ⟨⟨t.tok⟩⟩) ⟨lo,lexH t.st lexE t.ln t.dn t.rest t.pb post,ob'⟩∧(Sz ob→Sz ob'):=by
 obtain ⟨ob',h1,h2⟩:=read_call P post (lo:=loG) (ob:=ob) hin hpb h hl
 obtain ⟨e1,e2,e3,e4,e5,e6⟩:=enter688 P ⟨lo,lexH .sp lexE ln dn rest pb post,ob⟩
 refine ⟨ob',?_,h2⟩
 rw [jx_call e1 e2 e3 e4 e5 e6,b688_eq]
 rw [jx_next (g_s0 P .sp lexE ln dn rest pb post ob)]
 have ha:=jx_assign (q:=laQ (g1 P)) (p:=laP (g1 P)) (g_raw P) (jx_meth (n:=65) (g_spc P .sp lexE ln dn rest pb post ob) (g1_line P) (g_self P .sp lexE ln dn rest pb post ob) (g_meth P .sp lexE ln dn rest pb post) h1)
 rw [jx_next (s₁:=⟨loG2 ⟨⟨t.tok⟩⟩,lexH t.st lexE t.ln t.dn t.rest t.pb post,ob'⟩) (by rw [← g_put]; exact ha)]
 cases ht:t.tok with
 | nil =>
   rw [show (⟨⟨[]⟩⟩:Str)=lexE from rfl,g_eof]
   rfl
 | cons t0 ts =>
   rw [g_tok]
   rfl
end
section
set_option maxHeartbeats 1000000
section
variable {g:Gl} {T:Tab} {x:Cx} {n:Nat} {ρ:List Addr} {σ σ':AS} {s:Shared} {E:Value→Shared→Prop}
theorem evJ (ok:TabOk g T) (o:CxOk g x n) (hcv:x.cv=none) {sc:List (Str × NameKind)} (hsc:x.scope.names=sc) {e:Expr} {v:AV} (h:(Jx T n).ev sc e σ=.ok v σ') (z:Sz σ'.ob) (H:HS x ρ σ s.heap) {Q:Value→Shared→Prop}
   (hQ:∀ ρ' s' v',ρ <+: ρ'→HS x ρ' σ' s'.heap→Same s s'→VR ρ' v v'→Q v' s'):wpAny (model g.prog g.w) x.A (eval e x.env) Q E s:=by
 subst hsc
 rw [Jx_eq] at h
 exact wpAny_mono ((((sound ok n).ev _ e σ).use h).fn o hcv rfl z ρ s Q H hQ) (fun _ _ q=>q) fun _ _ q=>q.elim
theorem trJ (ok:TabOk g T) (o:CxOk g x n) (hcv:x.cv=none) {sc:List (Str × NameKind)} (hsc:x.scope.names=sc) {e:Expr} {b:Bool} (h:(Jx T n).tr sc e σ=.ok b σ') (z:Sz σ'.ob) (H:HS x ρ σ s.heap) {Q:Bool→Shared→Prop}
   (hQ:∀ ρ' s',ρ <+: ρ'→HS x ρ' σ' s'.heap→Same s s'→Q b s'):wpAny (model g.prog g.w) x.A (isTrue e x.env (eval e x.env)) Q E s:=by
 subst hsc
 rw [Jx_eq] at h
 exact wpAny_mono ((((sound ok n).tr _ e σ).use h).fn o hcv rfl z ρ s Q H hQ) (fun _ _ q=>q) fun _ _ q=>q.elim
theorem exEE (ok:TabOk g T) (o:CxOk g x n) (hcv:x.cv=none) {sc:List (Str × NameKind)} (hsc:x.scope.names=sc) {e:Stmt} {f:Fl} (h:(Jx T n).ex sc e σ=.ok f σ') {Q:Flow→Shared→Prop} (z:Sz σ'.ob) (H:HS x ρ σ s.heap)
   (hQ:∀ ρ' s' f',ρ <+: ρ'→HS x ρ' σ' s'.heap→Same s s'→FR ρ' f f'→Q f' s'):wpAny (model g.prog g.w) x.A (exec e x.env) Q E s :=
 wpAny_mono (exJ ok o hcv hsc h z H hQ) (fun _ _ q=>q) fun _ _ q=>q.elim
theorem exsE (ok:TabOk g T) (o:CxOk g x n) (hcv:x.cv=none) {sc:List (Str × NameKind)} (hsc:x.scope.names=sc) {e:List Stmt} {f:Fl} (h:(Jx T n).exs sc e σ=.ok f σ') {Q:Flow→Shared→Prop} (z:Sz σ'.ob) (H:HS x ρ σ s.heap)
   (hQ:∀ ρ' s' f',ρ <+: ρ'→HS x ρ' σ' s'.heap→Same s s'→FR ρ' f f'→Q f' s'):wpAny (model g.prog g.w) x.A (execs e x.env) Q E s :=
 wpAny_mono (exsJ ok o hcv hsc h z H hQ) (fun _ _ q=>q) fun _ _ q=>q.elim
theorem ifE (ok:TabOk g T) (o:CxOk g x n) (hcv:x.cv=none) {sc:List (Str × NameKind)} (hsc:x.scope.names=sc) {t:Expr} {b:List Stmt} {c:List Stmt} {p:Pos} {r:Bool} (h:(Jx T n).tr sc t σ=.ok r σ') {Q:Flow→Shared→Prop} (z:Sz σ'.ob) (H:HS x ρ σ s.heap)
   (hQ:∀ ρ' s',ρ <+: ρ'→HS x ρ' σ' s'.heap→Same s s'→wpAny (model g.prog g.w) x.A (execs (match r with | true=>b | false=>c) x.env) Q E s'):wpAny (model g.prog g.w) x.A (exec (.If t b c p) x.env) Q E s:=by
 refine wpAny_If (trJ ok o hcv hsc h z H fun ρ' s' p' H' S'=>?_)
 have:=hQ ρ' s' p' H' S'
 cases r with
 | true=>exact this
 | false=>exact this
theorem raiseE (ok:TabOk g T) (o:CxOk g x n) (hcv:x.cv=none) {sc:List (Str × NameKind)} (hsc:x.scope.names=sc) {nm:Str} {np cpos pos:Pos} {e₀:Expr} {msg:Str} (h1:(Jx T n).ev sc (.Name nm np) σ=.ok (.bi .ValueError) σ) (h2:(Jx T n).ev sc e₀ σ=.ok (.str msg) σ)
   (hst:noStar [e₀]=true) {Q:Flow→Shared→Prop} (z:Sz σ.ob) (H:HS x ρ σ s.heap)
   (hE:∀ ρ' s' v,ρ <+: ρ'→RMade x msg ρ' σ.hp v s'→Same s s'→E v s'):wpAny (model g.prog g.w) x.A (exec (.Raise (some (.Call (.Name nm np) [e₀] [] cpos)) none pos) x.env) Q E s:=by
 refine Raise_madeB PySem.F.excCall_ValueError PySem.F.excRaise_ValueError o.hh (evJ ok o hcv hsc h1 z H fun ρ₁ s₁ v₁ p₁ H₁ S₁ vr=>⟨vr,?_⟩) (noStar_cons hst).1 (by rfl)
 subst hsc
 rw [Jx_eq] at h2
 have a:=((evL_s (sc:=x.scope.names) (sound ok n).ev [e₀] σ hst).use (a:=[.str msg]) (s:=σ) (by
   show ((interp T n).ev x.scope.names e₀ σ).bind _=_
   rw [h2]; rfl)).2 x o (Cx.scn_fn hcv) cpos z ρ₁ s₁ (fun vs s₂=>∃ ρ₂,ρ₁ <+: ρ₂∧HS x ρ₂ σ s₂.heap∧Same s₁ s₂∧VRs ρ₂ [.str msg] vs) H₁ fun ρ' s' vs' p' H' S' vrs=>⟨ρ',p',H',S',vrs⟩
 rw [Cx.cur_fn hcv] at a
 refine wpAny_mono a (fun vs s₂ h=>?_) fun _ _ q=>q.elim
 obtain ⟨ρ₂,p₂,H₂,S₂,vrs⟩:=h
 cases vrs with
 | cons hv hn =>
   cases hn
   obtain ⟨⟨tok,rfl⟩,_⟩:=hv
   refine ⟨by rw [sizeLine_eq]; show 1≤16777216; omega,fun h' e hx=>?_⟩
   obtain ⟨m,os,F,HP,_⟩:=H₂
   exact hE ρ₂ _ _ (p₁.trans p₂) ⟨e,s₂.heap,m,os,tok,rfl,hx.of,F,HP⟩ ((S₁.trans S₂).trans Same.of)
theorem methX (ok:TabOk g T) (o:CxOk g x (n + 1)) (hcv:x.cv=none) {sc:List (Str × NameKind)} (hsc:x.scope.names=sc) {on nm:Str} {q ap p:Pos} {v:AV} {f:Nat} {msg:Str} {hp':List AO} (hp:(ap.endLine==p.line)=true)
   (h1:(Jx T n).ev sc (.Name on q) σ=.ok v σ) (hm:methF T v nm σ.hp=some (.fn f)) (hc:CallX g n (.top f) [v] σ msg hp') {Q:Value→Shared→Prop} (z:Sz σ.ob) (H:HS x ρ σ s.heap)
   (hE:∀ ρ' s' v m,ρ <+: ρ'→ROn x msg ρ' { σ with hp:=hp' } m v s'→Same s s'→E v s'):wpAny (model g.prog g.w) x.A (eval (.Call (.Attribute (.Name on q) nm ap) [] [] p) x.env) Q E s:=by
 rw [arm_eval_Call,attrBase_ok rfl]
 refine wpAny_bind (evJ ok o.less hcv hsc h1 z H fun ρ₁ s₁ v' p₁ H₁ S₁ vr=>?_)
 refine wpAny_bind (wpAny_standAt ?_)
 have mc:=methodCall_plain (o:=.Name on q) (name:=nm) (apos:=ap) (pos:=p) (env:=x.env) (ov:=v') (args:=[]) (ks:=[]) (kes:=[]) (by decide) rfl rfl hp
 rw [mc]
 obtain ⟨tf,hg⟩:=(methF_s ok).use hm
 refine wpAny_bind (wpAny_holding (wpAny_mono (hg x o.one ρ₁ s₁ v' _ (fun fx s₂=>wpAny (model g.prog g.w) x.A (callWith p fx.1 fx.2 (backTo p (starEach [] x.env)) (backToKw p (keywordEach [] x.env))) Q E s₂) H₁ vr fun tk=>?_) (fun _ _ q=>q) fun _ _ q=>q.elim))
 refine callWith_of (P:=g.K.In) (by rfl) (keeps_K tf) ?_
 have a:=argsK_s (f:=.ref f) (pos:=p) (args:=[]) (ks:=[]) (kes:=[]) (vs:=[]) (ws:=[]) o.less rfl rfl arg0_s (sfx_refl _) kw0_s z ρ₁ { s₁ with toks:=tk } (fun a s₂=>a=⟨[],[]⟩∧∃ ρ₂,ρ₁ <+: ρ₂∧HS x ρ₂ σ s₂.heap∧Same s₁ s₂) H₁ fun ρ' s' a p' H' S' ar=>by
   obtain ⟨vs',ws'⟩:=a
   obtain ⟨vrs,krs⟩:=ar
   have krs:KRs ρ' [] ws':=krs
   have vrs:VRs ρ' [] vs':=vrs
   cases vrs
   cases krs
   exact ⟨rfl,ρ',p',H',Same.of.trans S'⟩
 rw [Cx.cur_fn hcv] at a
 refine wpAny_mono a (fun a s₂ h=>?_) fun _ _ q=>q.elim
 obtain ⟨rfl,ρ₂,p₂,H₂,S₂⟩:=h
 obtain ⟨m₂,H₂⟩:=H₂.m
 obtain ⟨os₂,F₂,_,_⟩:=id H₂
 refine ⟨o.X.keeps F₂.keep,wpAny_call ?_⟩
 exact hc x o.less x.A (Around.frames_deeper o.B.stack) o.hh o.less.dp o.less.un ρ₂ s₂ (.ref f) [v'] m₂ _ H₂ rfl (.cons (vr.mono p₂) .nil) fun ρ' s' v a b c=>hE ρ' s' v m₂ ((p₁.trans p₂).trans a) b ((S₁.trans S₂).trans c)
end
end
section
set_option maxHeartbeats 400000
noncomputable def msgQ:Str:=S "No closing quotation"
noncomputable def w3 (P:Params):Stmt:=nthS (bw P) 3
noncomputable def w4 (P:Params):Stmt:=nthS (ifO (w3 P)) 0
noncomputable def w5 (P:Params):Stmt:=nthS (ifO (w4 P)) 0
noncomputable def w6 (P:Params):Stmt:=nthS (ifB (w5 P)) 1
noncomputable def w7 (P:Params):Stmt:=nthS (ifB (w6 P)) 1
noncomputable def rsQ (e:Stmt):Pos:=(clF (nthX (sE e) 0)).pos
noncomputable def rsC (e:Stmt):Pos:=(nthX (sE e) 0).pos
noncomputable def rsE (e:Stmt):Expr:=clA (nthX (sE e) 0)
noncomputable def rsP (e:Stmt):Pos:=e.pos
theorem bw_eq (P:Params):bw P=nthS (bw P) 0::nthS (bw P) 1::nthS (bw P) 2::.If (ifT (w3 P)) (ifB (w3 P)) (ifO (w3 P)) (ifP (w3 P))::(bw P).drop 4:=by kernel_rfl
theorem o3_eq (P:Params):ifO (w3 P)=.If (ifT (w4 P)) (ifB (w4 P)) (ifO (w4 P)) (ifP (w4 P))::(ifO (w3 P)).drop 1:=by kernel_rfl
theorem o4_eq (P:Params):ifO (w4 P)=.If (ifT (w5 P)) (ifB (w5 P)) (ifO (w5 P)) (ifP (w5 P))::(ifO (w4 P)).drop 1:=by kernel_rfl
theorem b5_eq (P:Params):ifB (w5 P)=nthS (ifB (w5 P)) 0::.If (ifT (w6 P)) (ifB (w6 P)) (ifO (w6 P)) (ifP (w6 P))::(ifB (w5 P)).drop 2:=by kernel_rfl
theorem b6_eq (P:Params):ifB (w6 P)=nthS (ifB (w6 P)) 0::.Raise (some (.Call (.Name (S "ValueError") (rsQ (w7 P))) [rsE (w7 P)] [] (rsC (w7 P)))) .none (rsP (w7 P))::(ifB (w6 P)).drop 2:=by kernel_rfl
theorem rs_star (P:Params):noStar [rsE (w7 P)]=true:=by kernel_rfl
noncomputable def emp:AV:=.str ⟨⟨[]⟩⟩
section
variable (P:Params) (qd:Bool) (nc:AV) (t:Nat) (ts dn rest:List Nat) (ln:Int) (post:List AO) (ob:List Nat)
noncomputable def qS (qd:Bool) (nc:AV) (t:Nat) (ts:List Nat) (ln:Int) (dn:List Nat) (post:List AO) (ob:List Nat):AS:=⟨loN qd nc,lexH .qt ⟨⟨t::ts⟩⟩ ln dn [] .none post,ob⟩
theorem q_0:(Jx (T1 P) 60).ex (scR P) (nthS (bw P) 0) (qS qd nc t ts ln dn post ob)=.ok .next (qS qd emp t ts ln dn post ob):=by kernel_rfl
theorem q_1:(Jx (T1 P) 60).ex (scR P) (nthS (bw P) 1) (qS qd emp t ts ln dn post ob)=.ok .next (qS qd emp t ts ln dn post ob):=by kernel_rfl
theorem q_2:(Jx (T1 P) 60).ex (scR P) (nthS (bw P) 2) (qS qd emp t ts ln dn post ob)=.ok .next (qS qd emp t ts ln dn post ob):=by kernel_rfl
theorem q_3:(Jx (T1 P) 60).tr (scR P) (ifT (w3 P)) (qS qd emp t ts ln dn post ob)=.ok false (qS qd emp t ts ln dn post ob):=by kernel_rfl
theorem q_4:(Jx (T1 P) 60).tr (scR P) (ifT (w4 P)) (qS qd emp t ts ln dn post ob)=.ok false (qS qd emp t ts ln dn post ob):=by kernel_rfl
theorem q_5:(Jx (T1 P) 60).tr (scR P) (ifT (w5 P)) (qS qd emp t ts ln dn post ob)=.ok true (qS qd emp t ts ln dn post ob):=by kernel_rfl
theorem q_6:(Jx (T1 P) 60).ex (scR P) (nthS (ifB (w5 P)) 0) (qS qd emp t ts ln dn post ob)=.ok .next (qS true emp t ts ln dn post ob):=by kernel_rfl
theorem q_7:(Jx (T1 P) 60).tr (scR P) (ifT (w6 P)) (qS true emp t ts ln dn post ob)=.ok true (qS true emp t ts ln dn post ob):=by kernel_rfl
theorem q_8:(Jx (T1 P) 60).ex (scR P) (nthS (ifB (w6 P)) 0) (qS true emp t ts ln dn post ob)=.ok .next (qS true emp t ts ln dn post ob):=by kernel_rfl
theorem q_9:(Jx (T1 P) 60).ev (scR P) (.Name (S "ValueError") (rsQ (w7 P))) (qS true emp t ts ln dn post ob)=.ok (.bi .ValueError) (qS true emp t ts ln dn post ob):=by kernel_rfl
theorem q_10:(Jx (T1 P) 60).ev (scR P) (rsE (w7 P)) (qS true emp t ts ln dn post ob)=.ok (.str msgQ) (qS true emp t ts ln dn post ob):=by kernel_rfl
end
section
variable {g:Gl} {P:Params} {x:Cx} {n:Nat} {ρ:List Addr} {s:Shared} {E:Value→Shared→Prop}
theorem CxOk.to {n m:Nat} (o:CxOk g x n) (h:m≤n):CxOk g x m:=⟨o.B,o.X,o.T,o.kd,o.hh,o.ck,o.kn,o.clk,o.cvo,by have:=o.dp; omega,by have:=o.un; omega,o.EX⟩
theorem g_self' (P:Params) (σ:AS) (h:σ.lo=loG):(Jx (T1 P) 64).ev (scG P) (.Name (S "self") (meQ (laV (g1 P)))) σ=.ok (.obj 1) σ:=by
 obtain ⟨lo,hp,ob⟩:=σ
 cases h
 kernel_rfl
theorem turnX (hK:g.K=KP P) (hs:101≤g.sl) (o:CxOk g x 60) (hcv:x.cv=none) (hsc:x.scope.names=scR P) {qd:Bool} {nc:AV} {t:Nat} {ts dn:List Nat} {ln:Int} {post:List AO} {ob:List Nat} (z:Sz ob) {Q:Flow→Shared→Prop}
   (H:HS x ρ (qS qd nc t ts ln dn post ob) s.heap) (hE:∀ ρ' s' v,ρ <+: ρ'→RMade x msgQ ρ' (lexH .qt ⟨⟨t::ts⟩⟩ ln dn [] .none post) v s'→Same s s'→E v s'):wpAny (model g.prog g.w) x.A (execs (bw P) x.env) Q E s:=by
 have ok:=ok1 (g:=g) hK hs
 rw [bw_eq]
 refine wpAny_execs_cons (exEE ok o hcv hsc (q_0 P qd nc t ts dn ln post ob) z H fun ρ₁ s₁ f₁ p₁ H₁ S₁ fr=>?_)
 cases fr
 refine wpAny_execs_cons (exEE ok o hcv hsc (q_1 P qd t ts dn ln post ob) z H₁ fun ρ₂ s₂ f₂ p₂ H₂ S₂ fr=>?_)
 cases fr
 refine wpAny_execs_cons (exEE ok o hcv hsc (q_2 P qd t ts dn ln post ob) z H₂ fun ρ₃ s₃ f₃ p₃ H₃ S₃ fr=>?_)
 cases fr
 refine wpAny_execs_cons (ifE ok o hcv hsc (q_3 P qd t ts dn ln post ob) z H₃ fun ρ₄ s₄ p₄ H₄ S₄=>?_)
 dsimp only
 rw [o3_eq]
 refine wpAny_execs_cons (ifE ok o hcv hsc (q_4 P qd t ts dn ln post ob) z H₄ fun ρ₅ s₅ p₅ H₅ S₅=>?_)
 dsimp only
 rw [o4_eq]
 refine wpAny_execs_cons (ifE ok o hcv hsc (q_5 P qd t ts dn ln post ob) z H₅ fun ρ₆ s₆ p₆ H₆ S₆=>?_)
 dsimp only
 rw [b5_eq]
 refine wpAny_execs_cons (exEE ok o hcv hsc (q_6 P qd t ts dn ln post ob) z H₆ fun ρ₇ s₇ f₇ p₇ H₇ S₇ fr=>?_)
 cases fr
 refine wpAny_execs_cons (ifE ok o hcv hsc (q_7 P t ts dn ln post ob) z H₇ fun ρ₈ s₈ p₈ H₈ S₈=>?_)
 dsimp only
 rw [b6_eq]
 refine wpAny_execs_cons (exEE ok o hcv hsc (q_8 P t ts dn ln post ob) z H₈ fun ρ₉ s₉ f₉ p₉ H₉ S₉ fr=>?_)
 cases fr
 refine wpAny_execs_cons (raiseE ok o hcv hsc (q_9 P t ts dn ln post ob) (q_10 P t ts dn ln post ob) (rs_star P) z H₉ fun ρ' s' v p' R' S'=>?_)
 exact hE ρ' s' v (((((((((p₁.trans p₂).trans p₃).trans p₄).trans p₅).trans p₆).trans p₇).trans p₈).trans p₉).trans p') R' (((((((((S₁.trans S₂).trans S₃).trans S₄).trans S₅).trans S₆).trans S₇).trans S₈).trans S₉).trans S')
noncomputable def lnS (ln:Int):List Nat→Int
 | []=>ln
 | c::r=>lnS (lnN c ln) r
theorem not_qt {c:Nat} (hc:c∈signs) (h:c ≠ 34):clOf c ≠ .qt:=by
 have key:(signs.all fun c=>match clOf c with | .qt=>Nat.beq c 34 | _=>true)=true:=by kernel_rfl
 have:=List.all_eq_true.mp key c hc
 intro e
 rw [e] at this
 exact h (Nat.eq_of_beq_eq_true this)
theorem restX (hK:g.K=KP P) (hs:101≤g.sl) (o:CxOk g x 60) (hcv:x.cv=none) (hsc:x.scope.names=scR P) (hP:PassesOwn (model g.prog g.w) x.A x.env E) {post:List AO} {Q:Flow→Shared→Prop} :
   ∀ (rest:List Nat) (qd:Bool) (nc:AV) (t:Nat) (ts dn:List Nat) (ln:Int) (ob:List Nat) (ρ:List Addr) (s:Shared) (k:Nat),(∀ c∈rest,c∈signs∧c ≠ 34)→Sz ob→(t::ts).length + rest.length≤1000000→HS x ρ ⟨loN qd nc,lexH .qt ⟨⟨t::ts⟩⟩ ln dn rest .none post,ob⟩ s.heap →
   (∀ ρ' s' v,ρ <+: ρ'→RMade x msgQ ρ' (lexH .qt ⟨⟨t::ts++rest⟩⟩ (lnS ln rest) (dn++rest) [] .none post) v s'→Same s s'→E v s')→WhlRest g.prog g.w x.A E x.env (tW P) (bw P) [] Q k s
 | [],qd,nc,t,ts,dn,ln,ob,ρ,s,k,_,z,_,H,hE=>by
   refine whl_turn (k:=k) hP (trJ (ok1 (g:=g) hK hs) o hcv hsc (tr_W P _) z H fun ρ₁ s₁ p₁ H₁ S₁=>WhlIf.yes rfl ?_)
   refine turnX hK hs o hcv hsc z H₁ fun ρ' s' v p' R' S'=>hE ρ' s' v (p₁.trans p') ?_ (S₁.trans S')
   rw [List.append_nil,List.append_nil]
   exact R'
 | c::r,qd,nc,t,ts,dn,ln,ob,ρ,s,k,hin,z,hl,H,hE=>by
   obtain ⟨hc,hc34⟩:=hin c (.head _)
   have hnq:=not_qt hc hc34
   have e:=map_at (k_qt P qd nc t ts dn r ln post ob) c hc
   have e2:rQt c (t::ts) ln (dn++[c]) r post ob=.ok .next ⟨loN true (ch c),lexH .qt ⟨⟨t::(ts++[c])⟩⟩ (lnN c ln) (dn++[c]) r .none post,obT (t::ts) c ob⟩:=by
     unfold rQt
     rw [snocS]
     cases hcl:clOf c with
     | qt=>exact absurd hcl hnq
     | _=>rfl
   have e3:=e.trans e2
   have hl':(t::ts).length + 1≤1000000:=by simp at hl ⊢; omega
   refine whl_turn (k:=k) hP (trJ (ok1 (g:=g) hK hs) o hcv hsc (tr_W P _) z H fun ρ₁ s₁ p₁ H₁ S₁=>WhlIf.yes rfl ?_)
   refine exsE (ok1 (g:=g) hK hs) o hcv hsc e3 (obT_sz hl' z) H₁ fun ρ₂ s₂ f₂ p₂ H₂ S₂ fr=>?_
   cases fr
   refine restX hK hs o hcv hsc hP r true (ch c) t (ts++[c]) (dn++[c]) (lnN c ln) _ ρ₂ s₂ k (fun c h=>hin c (.tail _ h)) (obT_sz hl' z) (by simp at hl ⊢; omega) H₂ fun ρ' s' v p' R' S'=>hE ρ' s' v ((p₁.trans p₂).trans p') ?_ ((S₁.trans S₂).trans S')
   have a1:t::(ts++[c])++r=t::ts++c::r:=by simp
   have a2:dn++[c]++r=dn++c::r:=by simp
   rw [a1,a2] at R'
   exact R'
noncomputable def lexX (ln:Int) (dn rest:List Nat) (post:List AO):List AO:=lexH .qt ⟨⟨34::rest⟩⟩ (lnS ln rest) (dn++rest) [] .none post
theorem readX (hK:g.K=KP P) (hs:101≤g.sl) {rest dn:List Nat} {ln:Int} {post:List AO} {ob:List Nat} (z:Sz ob) (hin:∀ c∈rest,c∈signs∧c ≠ 34) (hl:rest.length≤1000) :
   RaiseB g 63 (fi695 P) ⟨[(S "self",.obj 1)],lexH .sp lexE ln dn rest (some 34) post,ob⟩ msgQ (lexX ln dn rest post):=by
 intro x o hcv _ hsc ρ s Q E hP H hE
 have ok:=ok1 (g:=g) hK hs
 have hsc':x.scope.names=scR P:=hsc
 show wpAny (model g.prog g.w) x.A (execs (b695 P) x.env) Q E s
 rw [b695_eq]
 refine wpAny_execs_cons (exEE ok o hcv hsc' (r_s0 P .sp lexE ln dn rest (some 34) post ob) z H fun ρ₁ s₁ f₁ p₁ H₁ S₁ fr=>?_)
 cases fr
 refine wpAny_execs_cons (exEE ok (o.to (by omega)) hcv hsc' (r_s1 P .sp lexE ln dn rest (some 34) post ob) z H₁ fun ρ₂ s₂ f₂ p₂ H₂ S₂ fr=>?_)
 cases fr
 refine wpAny_execs_cons (whl_start 0 ?_)
 have o6:CxOk g x 60:=o.to (by omega)
 have e:=map_at (k_spP P false dn rest ln post ob) 34 (by decide)
 have e2:rSp 34 false ln dn rest post ob=.ok .next ⟨loN false (ch 34),lexH .qt ⟨⟨[34]⟩⟩ ln dn rest .none post,ob⟩:=rfl
 have e3:=e.trans e2
 refine whl_turn (k:=0) hP (trJ ok o6 hcv hsc' (tr_W P _) z H₂ fun ρ₃ s₃ p₃ H₃ S₃=>WhlIf.yes rfl ?_)
 refine exsE ok o6 hcv hsc' e3 z H₃ fun ρ₄ s₄ f₄ p₄ H₄ S₄ fr=>?_
 cases fr
 exact restX hK hs o6 hcv hsc' hP rest false (ch 34) 34 [] dn ln ob ρ₄ s₄ 0 hin z (by simp; omega) H₄ fun ρ' s' v p' R' S'=>hE ρ' s' v ((((p₁.trans p₂).trans p₃).trans p₄).trans p') (.inl R') ((((S₁.trans S₂).trans S₃).trans S₄).trans S')
theorem enterX (P:Params) (hp:List AO):enter (fi695 P) [.obj 1] [] hp=some ([(S "self",.obj 1)],hp):=by kernel_rfl
theorem enterY (P:Params) (hp:List AO):enter (fi688 P) [.obj 1] [] hp=some (loG,hp):=by kernel_rfl
theorem nc695 (P:Params):cellNs (fi695 P).scn=[]:=by kernel_rfl
theorem nc688 (P:Params):cellNs (fi688 P).scn=[]:=by kernel_rfl
theorem read_callX (hK:g.K=KP P) (hs:101≤g.sl) {lo:List (Str × AV)} {rest dn:List Nat} {ln:Int} {post:List AO} {ob:List Nat} (z:Sz ob) (hin:∀ c∈rest,c∈signs∧c ≠ 34) (hl:rest.length≤1000) :
   CallX g 64 (.top 695) [.obj 1] ⟨lo,lexH .sp lexE ln dn rest (some 34) post,ob⟩ msgQ (lexX ln dn rest post) :=
 call_fnX (fn695 hK) (nc695 P) (enterX P _) (readX hK hs z hin hl)
theorem getX (hK:g.K=KP P) (hs:101≤g.sl) {rest dn:List Nat} {ln:Int} {post:List AO} {ob:List Nat} (z:Sz ob) (hin:∀ c∈rest,c∈signs∧c ≠ 34) (hl:rest.length≤1000) :
   RaiseB g 68 (fi688 P) ⟨loG,lexH .sp lexE ln dn rest (some 34) post,ob⟩ msgQ (lexX ln dn rest post):=by
 intro x o hcv _ hsc ρ s Q E hP H hE
 have ok:=ok1 (g:=g) hK hs
 have hsc':x.scope.names=scG P:=hsc
 show wpAny (model g.prog g.w) x.A (execs (b688 P) x.env) Q E s
 rw [b688_eq]
 refine wpAny_execs_cons (exEE ok o hcv hsc' (g_s0 P .sp lexE ln dn rest (some 34) post ob) z H fun ρ₁ s₁ f₁ p₁ H₁ S₁ fr=>?_)
 cases fr
 refine wpAny_execs_cons (wpAny_Assign_Name (methX ok (n:=64) (o.to (by omega)) hcv hsc' (g1_line P) (g_self' P _ rfl) (g_meth P .sp lexE ln dn rest (some 34) post) (read_callX hK hs z hin hl) z H₁ fun ρ' s' v m p' R' S'=>?_) (swaps_plain (by rfl)))
 exact hE ρ' s' v (p₁.trans p') (.inr ⟨_,m,R',rfl⟩) (S₁.trans S')
theorem get_callX (hK:g.K=KP P) (hs:101≤g.sl) {lo:List (Str × AV)} {rest dn:List Nat} {ln:Int} {post:List AO} {ob:List Nat} (z:Sz ob) (hin:∀ c∈rest,c∈signs∧c ≠ 34) (hl:rest.length≤1000) :
   CallX g 69 (.top 688) [.obj 1] ⟨lo,lexH .sp lexE ln dn rest (some 34) post,ob⟩ msgQ (lexX ln dn rest post) :=
 call_fnX (fn688 hK) (nc688 P) (enterY P _) (getX hK hs z hin hl)
end
end
section
set_option maxHeartbeats 400000
noncomputable def b959 (P:Params):List Stmt:=bodyK (KP P) 959
noncomputable def scT (P:Params):List (Str × NameKind):=(FD (KP P) 959).scope.names
noncomputable def tyB (e:Stmt):List Stmt:=(sB e).1
noncomputable def tyP (e:Stmt):Pos:=e.pos
noncomputable def tyH:Stmt→ExceptHandler | .Try _ (h::_) _ _ _=>h | _=>.ExceptHandler .none .none [] ⟨0,0,0,0⟩
noncomputable def hdQ:ExceptHandler→Pos | .ExceptHandler (some (.Name _ q)) _ _ _=>q | _=>⟨0,0,0,0⟩
noncomputable def hdB:ExceptHandler→Stmt | .ExceptHandler _ _ (b::_) _=>b | _=>dStmt
noncomputable def hdP:ExceptHandler→Pos | .ExceptHandler _ _ _ p=>p
noncomputable def ty (P:Params):Stmt:=nthS (b959 P) 1
noncomputable def hd (P:Params):ExceptHandler:=tyH (ty P)
theorem b959_eq (P:Params):b959 P=nthS (b959 P) 0::.Try (tyB (ty P)) [hd P] [] [] (tyP (ty P))::(b959 P).drop 2:=by kernel_rfl
theorem hd_eq (P:Params):hd P=.ExceptHandler (some (.Name (S "ValueError") (hdQ (hd P)))) (some (S "error")) [hdB (hd P)] (hdP (hd P)):=by kernel_rfl
noncomputable def wT (P:Params):Stmt:=nthS (tyB (ty P)) 1
noncomputable def a1 (P:Params):Stmt:=nthS (tyB (ty P)) 0
noncomputable def a2 (P:Params):Stmt:=nthS (ifB (wT P)) 1
theorem tyB_eq (P:Params):tyB (ty P)=.Assign [.Name (S "token") (laQ (a1 P))] (mExpr (S "lexer") (S "get_token") (laV (a1 P))) (laP (a1 P))::[.While (ifT (wT P)) (ifB (wT P)) [] (ifP (wT P))]:=by kernel_rfl
theorem wB_eq (P:Params):ifB (wT P)=nthS (ifB (wT P)) 0::[.Assign [.Name (S "token") (laQ (a2 P))] (mExpr (S "lexer") (S "get_token") (laV (a2 P))) (laP (a2 P))]:=by kernel_rfl
noncomputable def kidX (e:Expr) (i:Nat):Expr:=nthX (kE e) i
noncomputable def exX (e:Stmt):Expr:=eVal e
noncomputable def exY (e:Stmt):Pos:=e.pos
noncomputable def tupK (e:Expr):Nat:=tuC e
noncomputable def hE (P:Params):Expr:=exX (hdB (hd P))
noncomputable def hT1 (P:Params):Expr:=kidX (hE P) 1
noncomputable def hL1 (P:Params):Expr:=kidX (hT1 P) 1
theorem hb_is (P:Params):hdB (hd P)=.Expr (.Call (.Attribute (.Name (S "told") (kidX (kidX (hE P) 0) 0).pos) (S "append") (kidX (hE P) 0).pos) [.Tuple [.Attribute (.Name (S "lexer") (kidX (kidX (hT1 P) 0) 0).pos) (S "lineno") (kidX (hT1 P) 0).pos,.List [.Call (.Name (S "str") (kidX (kidX (hL1 P) 0) 0).pos) [.Name (S "error") (kidX (kidX (hL1 P) 0) 1).pos] [] (kidX (hL1 P) 0).pos,.Attribute (.Name (S "lexer") (kidX (kidX (hL1 P) 1) 0).pos) (S "token") (kidX (hL1 P) 1).pos] (hL1 P).pos] (tupK (hT1 P)) (hT1 P).pos] [] (hE P).pos) (exY (hdB (hd P))):=by kernel_rfl
theorem hb_ln (P:Params):((kidX (hE P) 0).pos.endLine==(hE P).pos.line)=true:=by kernel_rfl
theorem hb_ex (P:Params):∃ (q1 q2 q3 q4 q5 q6 q7 q8 q9 q10 q11 q12 q13:Pos) (k:Nat),(q2.endLine==q3.line)=true ∧
   hdB (hd P)=.Expr (.Call (.Attribute (.Name (S "told") q1) (S "append") q2) [.Tuple [.Attribute (.Name (S "lexer") q4) (S "lineno") q5,.List [.Call (.Name (S "str") q6) [.Name (S "error") q7] [] q8,.Attribute (.Name (S "lexer") q9) (S "token") q10] q11] k q12] [] q3) q13 :=
 ⟨_,_,_,_,_,_,_,_,_,_,_,_,_,_,hb_ln P,hb_is P⟩
noncomputable def tdLo0:List (Str × AV):=[(S "lexer",.obj 1)]
noncomputable def tdLo1:List (Str × AV):=[(S "lexer",.obj 1),(S "told",.obj 9)]
noncomputable def tdLo2 (tk:Str):List (Str × AV):=[(S "lexer",.obj 1),(S "told",.obj 9),(S "token",.str tk)]
noncomputable def tdTup (ln:Int) (tk:Str):AO:=.tup [.int ln,.str tk]
noncomputable def tdTl (A B:AO) (refs:List AV) (tl:List AO):List AO:=A::B::.list refs::tl
section
variable (P:Params) (A B:AO) (st:Ls) (t0:Nat) (ts:List Nat) (tk:Str) (ln:Int) (dn rest:List Nat) (pb:Option Nat) (post tl:List AO) (refs:List AV) (ob:List Nat)
theorem td_0:(Jx (T1 P) 72).ex (scT P) (nthS (b959 P) 0) ⟨tdLo0,lexH st tk ln dn rest pb [A,B],ob⟩=.ok .next ⟨tdLo1,lexH st tk ln dn rest pb (tdTl A B [] []),ob⟩:=by kernel_rfl
theorem td_r:(Jx (T1 P) 72).exs (scT P) ((b959 P).drop 2) ⟨tdLo1,lexH st tk ln dn rest pb (tdTl A B refs tl),ob⟩=.ok (.ret (.obj 9)) ⟨tdLo1,lexH st tk ln dn rest pb (tdTl A B refs tl),ob⟩:=by kernel_rfl
theorem td_wT:(Jx (T1 P) 70).tr (scT P) (ifT (wT P)) ⟨tdLo2 ⟨⟨t0::ts⟩⟩,lexH st tk ln dn rest pb post,ob⟩=.ok true ⟨tdLo2 ⟨⟨t0::ts⟩⟩,lexH st tk ln dn rest pb post,ob⟩:=by kernel_rfl
theorem td_wF:(Jx (T1 P) 70).tr (scT P) (ifT (wT P)) ⟨tdLo2 lexE,lexH st tk ln dn rest pb post,ob⟩=.ok false ⟨tdLo2 lexE,lexH st tk ln dn rest pb post,ob⟩:=by kernel_rfl
theorem td_a:(Jx (T1 P) 70).ex (scT P) (nthS (ifB (wT P)) 0) ⟨tdLo2 tk,lexH st lexE ln dn rest pb (tdTl A B refs tl),ob⟩=.ok .next ⟨tdLo2 tk,lexH st lexE ln dn rest pb (tdTl A B (refs++[.obj (tl.length + 10)]) (tl++[tdTup ln tk])),addOb refs.length ob⟩:=by kernel_rfl
theorem td_lex1:(Jx (T1 P) 70).ev (scT P) (.Name (S "lexer") (meQ (laV (a1 P)))) ⟨tdLo1,lexH st tk ln dn rest pb post,ob⟩=.ok (.obj 1) ⟨tdLo1,lexH st tk ln dn rest pb post,ob⟩:=by kernel_rfl
theorem td_lex2 (tk':Str):(Jx (T1 P) 70).ev (scT P) (.Name (S "lexer") (meQ (laV (a2 P)))) ⟨tdLo2 tk',lexH st tk ln dn rest pb post,ob⟩=.ok (.obj 1) ⟨tdLo2 tk',lexH st tk ln dn rest pb post,ob⟩:=by kernel_rfl
theorem td_spc1:(T1 P).spc (scT P) (mExpr (S "lexer") (S "get_token") (laV (a1 P))) ⟨tdLo1,lexH st tk ln dn rest pb post,ob⟩=.none:=by kernel_rfl
theorem td_spc2 (tk':Str):(T1 P).spc (scT P) (mExpr (S "lexer") (S "get_token") (laV (a2 P))) ⟨tdLo2 tk',lexH st tk ln dn rest pb post,ob⟩=.none:=by kernel_rfl
theorem td_meth:methF (T1 P) (.obj 1) (S "get_token") (lexH st tk ln dn rest pb post)=some (.fn 688):=by kernel_rfl
theorem td_put1:put (S "token") (.str tk) tdLo1=tdLo2 tk:=by kernel_rfl
theorem td_put2 (tk':Str):put (S "token") (.str tk) (tdLo2 tk')=tdLo2 tk:=by kernel_rfl
end
theorem td_tok (P:Params):look (S "token") (scT P)=some .local:=by kernel_rfl
theorem td_l1 (P:Params):((meA (laV (a1 P))).endLine==(meP (laV (a1 P))).line)=true:=by kernel_rfl
theorem td_l2 (P:Params):((meA (laV (a2 P))).endLine==(meP (laV (a2 P))).line)=true:=by kernel_rfl
theorem td_get1 (P:Params) (post:List AO) {rest:List Nat} {ln:Int} {dn:List Nat} {pb:Option Nat} {ob:List Nat} {t:Rt} (hin:∀ c∈rest,c∈signs) (hpb:∀ c,pb=some c→c∈signs) (h:rtok ln dn rest pb=some t) (hl:rest.length<999) :
   ∃ ob',(Jx (T1 P) 72).ex (scT P) (.Assign [.Name (S "token") (laQ (a1 P))] (mExpr (S "lexer") (S "get_token") (laV (a1 P))) (laP (a1 P))) ⟨tdLo1,lexH .sp lexE ln dn rest pb post,ob⟩=.ok .next ⟨tdLo2 ⟨⟨t.tok⟩⟩,lexH t.st lexE t.ln t.dn t.rest t.pb post,ob'⟩∧(Sz ob→Sz ob'):=by
 obtain ⟨ob',h1,h2⟩:=get_call P post (lo:=tdLo1) (ob:=ob) hin hpb h hl
 refine ⟨ob',?_,h2⟩
 have ha:=jx_assign (q:=laQ (a1 P)) (p:=laP (a1 P)) (td_tok P) (jx_meth (n:=70) (td_spc1 P .sp lexE ln dn rest pb post ob) (td_l1 P) (td_lex1 P .sp lexE ln dn rest pb post ob) (td_meth P .sp lexE ln dn rest pb post) h1)
 rw [← td_put1]
 exact ha
theorem td_get2 (P:Params) (post:List AO) {rest:List Nat} {ln:Int} {dn:List Nat} {pb:Option Nat} {ob:List Nat} {t:Rt} (tk':Str) (hin:∀ c∈rest,c∈signs) (hpb:∀ c,pb=some c→c∈signs) (h:rtok ln dn rest pb=some t) (hl:rest.length<999) :
   ∃ ob',(Jx (T1 P) 72).ex (scT P) (.Assign [.Name (S "token") (laQ (a2 P))] (mExpr (S "lexer") (S "get_token") (laV (a2 P))) (laP (a2 P))) ⟨tdLo2 tk',lexH .sp lexE ln dn rest pb post,ob⟩=.ok .next ⟨tdLo2 ⟨⟨t.tok⟩⟩,lexH t.st lexE t.ln t.dn t.rest t.pb post,ob'⟩∧(Sz ob→Sz ob'):=by
 obtain ⟨ob',h1,h2⟩:=get_call P post (lo:=tdLo2 tk') (ob:=ob) hin hpb h hl
 refine ⟨ob',?_,h2⟩
 have ha:=jx_assign (q:=laQ (a2 P)) (p:=laP (a2 P)) (td_tok P) (jx_meth (n:=70) (td_spc2 P .sp lexE ln dn rest pb post ob tk') (td_l2 P) (td_lex2 P .sp lexE ln dn rest pb post ob tk') (td_meth P .sp lexE ln dn rest pb post) h1)
 rw [← td_put2 _ tk']
 exact ha
inductive Te where | done | open_ (tok:List Nat)
inductive Ts:Int→List Nat→List Nat→Option Nat→List (Int × List Nat)→Int→Te→Prop
 | done {ln:Int} {dn rest:List Nat} {pb:Option Nat} {n:Int} {dn':List Nat}:rtok ln dn rest pb=some ⟨.end_,[],n,dn',[],.none⟩→Ts ln dn rest pb [] n .done
 | tok {ln:Int} {dn rest:List Nat} {pb:Option Nat} {t:Nat} {ts:List Nat} {ln':Int} {dn' rest':List Nat} {pb':Option Nat} {l:List (Int × List Nat)} {n:Int} {e:Te}:rtok ln dn rest pb=some ⟨.sp,t::ts,ln',dn',rest',pb'⟩→Ts ln' dn' rest' pb' l n e→Ts ln dn rest pb ((ln',t::ts)::l) n e
 | bad {ln:Int} {dn rest:List Nat}:(∀ c∈rest,c ≠ 34)→Ts ln dn rest (some 34) [] (lnS ln rest) (.open_ (34::rest))
end
section
set_option maxHeartbeats 400000
noncomputable def s3L (P:Params):Stmt:=nthS (bLaw P) 3
noncomputable def s4L (P:Params):Stmt:=nthS (bLaw P) 4
theorem s3L_eq (P:Params):nthS (bLaw P) 3=.Assign [.Name (S "first") (laQ1 (s3L P))] (mExpr (S "lexer") (S "get_token") (laV1 (s3L P))) (laP1 (s3L P)):=by kernel_rfl
theorem s4L_eq (P:Params):nthS (bLaw P) 4=.Assign [.Name (S "due") (laQ1 (s4L P))] (.Call (.Name (S "_law_due") (naQ (laV1 (s4L P)))) [naE (laV1 (s4L P))] [] (naP (laV1 (s4L P)))) (laP1 (s4L P)):=by kernel_rfl
theorem bLaw_eq (P:Params):bLaw P=nthS (bLaw P) 0::nthS (bLaw P) 1::nthS (bLaw P) 2::nthS (bLaw P) 3::nthS (bLaw P) 4::(bLaw P).drop 5:=by kernel_rfl
noncomputable def loD3 (sa:Nat) (y:Str):List (Str × AV):=loD2 sa++[(S "first",.str y)]
noncomputable def loD4 (sa:Nat) (y:Str):List (Str × AV):=loD3 sa y++[(S "due",.obj 9)]
section
variable (P:Params) (sa:Nat) (xs:List Int) (y tk:Str) (st:Ls) (ln:Int) (dn rest:List Nat) (pb:Option Nat) (post:List AO) (ob:List Nat)
theorem l3_lk:look (S "first") (sLaw P)=some .local:=by kernel_rfl
theorem l3_put:put (S "first") (.str y) (loD2 sa)=loD3 sa y:=by kernel_rfl
theorem l3_nm:(Jx (T1 P) 70).ev (sLaw P) (.Name (S "lexer") (meQ (laV1 (s3L P)))) ⟨loD2 sa,lexH st tk ln dn rest pb post,ob⟩=.ok (.obj 1) ⟨loD2 sa,lexH st tk ln dn rest pb post,ob⟩:=by kernel_rfl
theorem l3_spc:(T1 P).spc (sLaw P) (mExpr (S "lexer") (S "get_token") (laV1 (s3L P))) ⟨loD2 sa,lexH st tk ln dn rest pb post,ob⟩=.none:=by kernel_rfl
theorem l3_ln:((meA (laV1 (s3L P))).endLine==(meP (laV1 (s3L P))).line)=true:=by kernel_rfl
end
theorem l3 (P:Params) (sa:Nat) (post:List AO) {rest:List Nat} {ln:Int} {dn:List Nat} {pb:Option Nat} {ob:List Nat} {t:Rt} (hin:∀ c∈rest,c∈signs) (hpb:∀ c,pb=some c→c∈signs) (h:rtok ln dn rest pb=some t) (hl:rest.length<999) :
   ∃ ob',(Jx (T1 P) 72).ex (sLaw P) (nthS (bLaw P) 3) ⟨loD2 sa,lexH .sp lexE ln dn rest pb post,ob⟩=.ok .next ⟨loD3 sa ⟨⟨t.tok⟩⟩,lexH t.st lexE t.ln t.dn t.rest t.pb post,ob'⟩∧(Sz ob→Sz ob'):=by
 obtain ⟨ob',h1,h2⟩:=get_call P post (lo:=loD2 sa) (ob:=ob) hin hpb h hl
 refine ⟨ob',?_,h2⟩
 rw [s3L_eq]
 have ha:=jx_assign (q:=laQ1 (s3L P)) (p:=laP1 (s3L P)) (l3_lk P) (jx_meth (n:=70) (l3_spc P sa lexE .sp ln dn rest pb post ob) (l3_ln P) (l3_nm P sa lexE .sp ln dn rest pb post ob) (td_meth P .sp lexE ln dn rest pb post) h1)
 rw [← l3_put]
 exact ha
noncomputable def obV (ms:List Nat) (ob:List Nat):List Nat:=ms.foldl (fun ob m=>addOb (chk (u16 m)) ob) ob
noncomputable def L4a (P:Params) (sa:Nat) (xs:List Int) (tk y:Str) (st:Ls) (ln:Int) (dn rest:List Nat) (pb:Option Nat) (ob:List Nat) (ms:List Nat):Prop:=(Jx (T4 sa xs P) 88).ev (sLaw P) (naE (laV1 (s4L P))) ⟨loD3 sa y,lexH st tk ln dn rest pb [.list (natV ms)],ob⟩=.ok (.obj 8) ⟨loD3 sa y,lexH st tk ln dn rest pb [.list (natV ms),.list (rowsV (rowsS ms))],obV ms ob⟩
theorem l4a_1 (P:Params) (sa:Nat) (xs:List Int) (tk y:Str) (st:Ls) (ln:Int) (dn rest:List Nat) (pb:Option Nat) (ob:List Nat) (m0:Nat):L4a P sa xs tk y st ln dn rest pb ob [m0]:=by unfold L4a; kernel_rfl
theorem l4a_2 (P:Params) (sa:Nat) (xs:List Int) (tk y:Str) (st:Ls) (ln:Int) (dn rest:List Nat) (pb:Option Nat) (ob:List Nat) (m0 m1:Nat):L4a P sa xs tk y st ln dn rest pb ob [m0,m1]:=by unfold L4a; kernel_rfl
theorem l4a_3 (P:Params) (sa:Nat) (xs:List Int) (tk y:Str) (st:Ls) (ln:Int) (dn rest:List Nat) (pb:Option Nat) (ob:List Nat) (m0 m1 m2:Nat):L4a P sa xs tk y st ln dn rest pb ob [m0,m1,m2]:=by unfold L4a; kernel_rfl
theorem l4a_4 (P:Params) (sa:Nat) (xs:List Int) (tk y:Str) (st:Ls) (ln:Int) (dn rest:List Nat) (pb:Option Nat) (ob:List Nat) (m0 m1 m2 m3:Nat):L4a P sa xs tk y st ln dn rest pb ob [m0,m1,m2,m3]:=by unfold L4a; kernel_rfl
theorem l4a_5 (P:Params) (sa:Nat) (xs:List Int) (tk y:Str) (st:Ls) (ln:Int) (dn rest:List Nat) (pb:Option Nat) (ob:List Nat) (m0 m1 m2 m3 m4:Nat):L4a P sa xs tk y st ln dn rest pb ob [m0,m1,m2,m3,m4]:=by unfold L4a; kernel_rfl
theorem l4a_6 (P:Params) (sa:Nat) (xs:List Int) (tk y:Str) (st:Ls) (ln:Int) (dn rest:List Nat) (pb:Option Nat) (ob:List Nat) (m0 m1 m2 m3 m4 m5:Nat):L4a P sa xs tk y st ln dn rest pb ob [m0,m1,m2,m3,m4,m5]:=by unfold L4a; kernel_rfl
theorem l4a (P:Params) (sa:Nat) (xs:List Int) (tk y:Str) (st:Ls) (ln:Int) (dn rest:List Nat) (pb:Option Nat) (ob:List Nat):∀ ms:List Nat,1≤ms.length→ms.length≤6→L4a P sa xs tk y st ln dn rest pb ob ms :=
 one6 (fun a=>l4a_1 P sa xs tk y st ln dn rest pb ob a) (fun a b=>l4a_2 P sa xs tk y st ln dn rest pb ob a b) (fun a b c=>l4a_3 P sa xs tk y st ln dn rest pb ob a b c) (fun a b c d=>l4a_4 P sa xs tk y st ln dn rest pb ob a b c d) (fun a b c d e=>l4a_5 P sa xs tk y st ln dn rest pb ob a b c d e) (fun a b c d e f=>l4a_6 P sa xs tk y st ln dn rest pb ob a b c d e f)
theorem strsA_of:∀ rs:List Str,strsA (rowsV rs)=some rs
 | []=>rfl
 | y::r=>by
   show (strsA (rowsV r)).map (y::·)=_
   rw [strsA_of r]; rfl
theorem jx_prim {T:Tab} {n:Nat} {a:Nat} {as:List AV} {ks:List (Str × AV)} {σ:AS} {r:R AV} (h1:T.prim a as ks σ=some r):(Jx T (n + 1)).call (.top a) as ks σ=r:=by
 rw [Jx_eq]
 show callT T (interp T n) a as ks σ=_
 unfold callT
 rw [h1]
section
variable (P:Params) (sa:Nat) (xs:List Int) (y tk:Str) (st:Ls) (ln:Int) (dn rest:List Nat) (pb:Option Nat) (ob:List Nat)
theorem l4_lk:look (S "due") (sLaw P)=some .local:=by kernel_rfl
theorem l4_put:put (S "due") (.obj 9) (loD3 sa y)=loD4 sa y:=by kernel_rfl
theorem l4_spc (σ:AS):(T4 sa xs P).spc (sLaw P) (.Call (.Name (S "_law_due") (naQ (laV1 (s4L P)))) [naE (laV1 (s4L P))] [] (naP (laV1 (s4L P)))) σ=.none:=by kernel_rfl
theorem l4_ns:noStar [naE (laV1 (s4L P))]=true:=by kernel_rfl
theorem l4_nm (σ:AS):(Jx (T4 sa xs P) 88).ev (sLaw P) (.Name (S "_law_due") (naQ (laV1 (s4L P)))) σ=.ok (.top 952) σ:=by kernel_rfl
theorem l4_prim (as:List AV) (ks:List (Str × AV)) (σ:AS):(T4 sa xs P).prim 952 as ks σ=pDue as ks σ:=by kernel_rfl
theorem l4b (ml:List AV) (rs:List Str) (lo:List (Str × AV)):(Jx (T4 sa xs P) 88).call (.top 952) [.obj 8] [] ⟨lo,lexH st tk ln dn rest pb [.list ml,.list (rowsV rs)],ob⟩=.ok (.obj 9) ⟨lo,lexH st tk ln dn rest pb ([.list ml,.list (rowsV rs)]++dueNew rs 9),addOb (chk (dueB rs)) ob⟩:=by
 refine jx_prim (n:=87) ?_
 rw [l4_prim]
 unfold pDue
 have e:listOf (⟨lo,lexH st tk ln dn rest pb [.list ml,.list (rowsV rs)],ob⟩:AS).hp 8=some (rowsV rs):=rfl
 dsimp only
 rw [show listOf (lexH st tk ln dn rest pb [.list ml,.list (rowsV rs)]) 8=some (rowsV rs) from e]
 dsimp only
 rw [strsA_of]
 rfl
theorem l4 (ms:List Nat) (h1:1≤ms.length) (h6:ms.length≤6):(Jx (T4 sa xs P) 90).ex (sLaw P) (nthS (bLaw P) 4) ⟨loD3 sa y,lexH st tk ln dn rest pb [.list (natV ms)],ob⟩=.ok .next ⟨loD4 sa y,lexH st tk ln dn rest pb ([.list (natV ms),.list (rowsV (rowsS ms))]++dueNew (rowsS ms) 9),addOb (chk (dueB (rowsS ms))) (obV ms ob)⟩:=by
 rw [s4L_eq]
 have he:=jx_assign (q:=laQ1 (s4L P)) (p:=laP1 (s4L P)) (l4_lk P) (jx_ncall1 (l4_spc P sa xs _) (l4_ns P) (l4_nm P sa xs _) (l4a P sa xs tk y st ln dn rest pb ob ms h1 h6) (l4b P sa xs tk st ln dn rest pb (obV ms ob) (natV ms) (rowsS ms) (loD3 sa y)))
 rw [← l4_put]
 exact he
end
end
section
set_option maxHeartbeats 400000
theorem runS_rest:∀ (rest:List Nat) (st:Ls) (tok:List Nat) (ln:Int) (dn:List Nat) (t:Rt),runS st tok ln dn rest=some t→t.rest <:+ rest∧∀ c,t.pb=some c→c∈rest
 | [],st,tok,ln,dn,t,h=>by
   cases st with
   | sp=>cases h; exact ⟨List.suffix_refl _,fun c e=>by cases e⟩
   | _=>cases h
 | c::r,st,tok,ln,dn,t,h=>by
   have go:∀ st' tok' ln' dn',runS st' tok' ln' dn' r=some t→t.rest <:+ (c::r)∧∀ a,t.pb=some a→a∈c::r:=fun st' tok' ln' dn' h'=>by
     obtain ⟨h1,h2⟩:=runS_rest r st' tok' ln' dn' t h'
     exact ⟨h1.trans (List.suffix_cons _ _),fun a e=>.tail _ (h2 a e)⟩
   have sf:r <:+ c::r:=List.suffix_cons _ _
   rw [runS_c] at h
   cases st with
   | sp=>cases hc:clOf c <;> simp only [hc] at h <;> first | exact go _ _ _ _ h | (cases h; exact ⟨sf,fun a e=>by cases e⟩)
   | wd=>cases hc:clOf c <;> simp only [hc] at h <;> first | exact go _ _ _ _ h | (cases h; exact ⟨sf,fun a e=>by first | (cases e; done) | (cases e; exact .head _)⟩)
   | pn=>cases hc:clOf c <;> simp only [hc] at h <;> first | exact go _ _ _ _ h | (cases h; exact ⟨sf,fun a e=>by first | (cases e; done) | (cases e; exact .head _)⟩)
   | qt=>cases hc:clOf c <;> simp only [hc] at h <;> first | exact go _ _ _ _ h | (cases h; exact ⟨sf,fun a e=>by cases e⟩)
   | end_=>cases h
theorem rtok_rest {ln:Int} {dn rest:List Nat} {pb:Option Nat} {t:Rt} (h:rtok ln dn rest pb=some t):t.rest <:+ rest∧∀ c,t.pb=some c→c∈rest:=by
 unfold rtok at h
 split at h
 · exact runS_rest _ _ _ _ _ _ h
 · split at h <;> first | exact runS_rest _ _ _ _ _ _ h | (cases h; exact ⟨List.suffix_refl _,fun c e=>by cases e⟩)
noncomputable def TL (d:List (Int × List Nat)):List AO:=d.map fun p=>tdTup p.1 ⟨⟨p.2⟩⟩
noncomputable def tdP (A B:AO) (d:List (Int × List Nat)):List AO:=tdTl A B (refsV 10 d.length) (TL d)
theorem refsV_snoc (b n:Nat):refsV b n++[.obj (n + b)]=refsV b (n + 1):=by
 unfold refsV
 rw [List.range_succ,List.map_append,Nat.add_comm n b]
 rfl
theorem tdP_snoc (A B:AO) (d:List (Int × List Nat)) (p:Int × List Nat):tdTl A B (refsV 10 d.length++[.obj ((TL d).length + 10)]) (TL d++[tdTup p.1 ⟨⟨p.2⟩⟩])=tdP A B (d++[p]):=by
 have e1:(TL d).length=d.length:=List.length_map ..
 unfold tdP
 rw [e1,refsV_snoc]
 simp [TL]
noncomputable abbrev aS1 (P:Params):Stmt:=.Assign [.Name (S "token") (laQ (a1 P))] (mExpr (S "lexer") (S "get_token") (laV (a1 P))) (laP (a1 P))
noncomputable abbrev aS2 (P:Params):Stmt:=.Assign [.Name (S "token") (laQ (a2 P))] (mExpr (S "lexer") (S "get_token") (laV (a2 P))) (laP (a2 P))
section
variable {g:Gl} {P:Params} {x:Cx} {E:Value→Shared→Prop}
theorem td_lex1' (P:Params) (σ:AS) (h:σ.lo=tdLo1):(Jx (T1 P) 69).ev (scT P) (.Name (S "lexer") (meQ (laV (a1 P)))) σ=.ok (.obj 1) σ:=by
 obtain ⟨lo,hp,ob⟩:=σ
 cases h
 kernel_rfl
theorem td_lex2' (P:Params) (tk:Str) (σ:AS) (h:σ.lo=tdLo2 tk):(Jx (T1 P) 69).ev (scT P) (.Name (S "lexer") (meQ (laV (a2 P)))) σ=.ok (.obj 1) σ:=by
 obtain ⟨lo,hp,ob⟩:=σ
 cases h
 kernel_rfl
noncomputable def Fetch (g:Gl) (P:Params) (st:Stmt) (lo:List (Str × AV)):Prop :=
 (∀ (post:List AO) {rest:List Nat} {ln:Int} {dn:List Nat} {pb:Option Nat} {ob:List Nat} {t:Rt},(∀ c∈rest,c∈signs)→(∀ c,pb=some c→c∈signs)→rtok ln dn rest pb=some t→rest.length<999 →
   ∃ ob',(Jx (T1 P) 72).ex (scT P) st ⟨lo,lexH .sp lexE ln dn rest pb post,ob⟩=.ok .next ⟨tdLo2 ⟨⟨t.tok⟩⟩,lexH t.st lexE t.ln t.dn t.rest t.pb post,ob'⟩∧(Sz ob→Sz ob')) ∧
 ∀ x,CxOk g x 72→x.cv=none→x.scope.names=scT P→∀ (post:List AO) {rest:List Nat} {ln:Int} {dn:List Nat} {ob:List Nat} {ρ:List Addr} {s:Shared} (Q:Flow→Shared→Prop) (E:Value→Shared→Prop),(∀ c∈rest,c∈signs∧c ≠ 34)→rest.length≤1000→Sz ob →
   HS x ρ ⟨lo,lexH .sp lexE ln dn rest (some 34) post,ob⟩ s.heap→(∀ ρ' s' v m,ρ <+: ρ'→ROn x msgQ ρ' ⟨lo,lexX ln dn rest post,ob⟩ m v s'→Same s s'→E v s')→wpAny (model g.prog g.w) x.A (exec st x.env) Q E s
theorem fetch1 (hK:g.K=KP P) (hs:101≤g.sl):Fetch g P (aS1 P) tdLo1:=by
 refine ⟨fun post=>td_get1 P post,fun x o hcv hsc post=>?_⟩
 intro rest ln dn ob ρ s Q E hin hl z H hE
 exact wpAny_Assign_Name (methX (ok1 (g:=g) hK hs) (n:=69) (o.to (by omega)) hcv hsc (td_l1 P) (td_lex1' P _ rfl) (td_meth P .sp lexE ln dn rest (some 34) post) (get_callX hK hs z hin hl) z H hE) (swaps_plain (by rfl))
theorem fetch2 (hK:g.K=KP P) (hs:101≤g.sl) (tk:Str):Fetch g P (aS2 P) (tdLo2 tk):=by
 refine ⟨fun post=>td_get2 P post tk,fun x o hcv hsc post=>?_⟩
 intro rest ln dn ob ρ s Q E hin hl z H hE
 exact wpAny_Assign_Name (methX (ok1 (g:=g) hK hs) (n:=69) (o.to (by omega)) hcv hsc (td_l2 P) (td_lex2' P tk _ rfl) (td_meth P .sp lexE ln dn rest (some 34) post) (get_callX hK hs z hin hl) z H hE) (swaps_plain (by rfl))
noncomputable def tdN (n:Int) (A B:AO) (d:List (Int × List Nat)) (e:Te) (x:Cx) (ρ:List Addr) (s:Shared) (Q:Flow→Shared→Prop) (E:Value→Shared→Prop):Prop:=match e with
 | .done=>∀ ρ' s' dn' ob',ρ <+: ρ'→HS x ρ' ⟨tdLo2 lexE,lexH .end_ lexE n dn' [] .none (tdP A B d),ob'⟩ s'.heap→Sz ob'→Same s s'→Q .next s'
 | .open_ tok=>∀ ρ' s' v m dn' lo ob',ρ <+: ρ'→(lo=tdLo1 ∨ ∃ tk,lo=tdLo2 tk)→ROn x msgQ ρ' ⟨lo,lexH .qt ⟨⟨tok⟩⟩ n dn' [] .none (tdP A B d),ob'⟩ m v s'→Same s s'→E v s'
theorem tdN.mono {n:Int} {A B:AO} {d:List (Int × List Nat)} {e:Te} {ρ ρ₁:List Addr} {s s₁:Shared} {Q:Flow→Shared→Prop} (h:tdN n A B d e x ρ s Q E) (p:ρ <+: ρ₁) (S:Same s s₁):tdN n A B d e x ρ₁ s₁ Q E:=by
 cases e with
 | done=>exact fun ρ' s' dn' ob' p' H' z' S'=>h ρ' s' dn' ob' (p.trans p') H' z' (S.trans S')
 | open_ tok=>exact fun ρ' s' v m dn' lo ob' p' hl R' S'=>h ρ' s' v m dn' lo ob' (p.trans p') hl R' (S.trans S')
theorem told_walk (hK:g.K=KP P) (hs:101≤g.sl) (o:CxOk g x 72) (hcv:x.cv=none) (hsc:x.scope.names=scT P) (hP:PassesOwn (model g.prog g.w) x.A x.env E) {A B:AO} {Q:Flow→Shared→Prop} {ln:Int} {dn rest:List Nat} {pb:Option Nat} {l:List (Int × List Nat)} {n:Int} {e:Te} (T:Ts ln dn rest pb l n e) :
   ∀ (st:Stmt) (lo:List (Str × AV)) (d:List (Int × List Nat)) (ob:List Nat) (ρ:List Addr) (s:Shared),Fetch g P st lo→(lo=tdLo1 ∨ ∃ tk,lo=tdLo2 tk)→(∀ c∈rest,c∈signs)→(∀ c,pb=some c→c∈signs)→rest.length<999→d.length + l.length≤4000→Sz ob →
   HS x ρ ⟨lo,lexH .sp lexE ln dn rest pb (tdP A B d),ob⟩ s.heap→tdN n A B (d++l) e x ρ s Q E →
   wpAny (model g.prog g.w) x.A (exec st x.env) (fun f s'=>f=.next∧WhlRest g.prog g.w x.A E x.env (ifT (wT P)) (ifB (wT P)) [] Q 0 s') E s:=by
 have ok:=ok1 (g:=g) hK hs
 induction T with
 | @done ln dn rest pb n dn' hr =>
   intro st lo d ob ρ s hf _ hin hpb hl _ z H hE
   obtain ⟨ob',h1,h2⟩:=hf.1 (tdP A B d) (ob:=ob) hin hpb hr hl
   refine exEE ok o hcv hsc h1 (h2 z) H fun ρ₁ s₁ f₁ p₁ H₁ S₁ fr=>?_
   cases fr
   refine ⟨rfl,whl_turn (k:=0) hP (trJ ok (o.to (by omega)) hcv hsc (td_wF P .end_ lexE n dn' [] .none (tdP A B d) ob') (h2 z) H₁ fun ρ₂ s₂ p₂ H₂ S₂=>WhlIf.no rfl ?_)⟩
   refine wpAny_execs_nil ?_
   rw [List.append_nil] at hE
   exact hE ρ₂ s₂ dn' ob' (p₁.trans p₂) H₂ (h2 z) (S₁.trans S₂)
 | @tok ln dn rest pb t ts ln' dn' rest' pb' l n e hr T ih =>
   intro st lo d ob ρ s hf _ hin hpb hl hd z H hE
   obtain ⟨ob',h1,h2⟩:=hf.1 (tdP A B d) (ob:=ob) hin hpb hr hl
   refine exEE ok o hcv hsc h1 (h2 z) H fun ρ₁ s₁ f₁ p₁ H₁ S₁ fr=>?_
   cases fr
   refine ⟨rfl,whl_turn (k:=0) hP (trJ ok (o.to (by omega)) hcv hsc (td_wT P .sp t ts lexE ln' dn' rest' pb' (tdP A B d) ob') (h2 z) H₁ fun ρ₂ s₂ p₂ H₂ S₂=>WhlIf.yes rfl ?_)⟩
   rw [wB_eq]
   have za:Sz (addOb (refsV 10 d.length).length ob'):=by
     refine Sz.add ?_ (h2 z)
     rw [sizeLine_eq]
     have:(refsV 10 d.length).length=d.length:=by simp [refsV]
     omega
   have ea:=td_a P A B .sp ⟨⟨t::ts⟩⟩ ln' dn' rest' pb' (TL d) (refsV 10 d.length) ob'
   rw [tdP_snoc A B d (ln',t::ts)] at ea
   refine wpAny_execs_cons (exEE ok (o.to (by omega)) hcv hsc ea za H₂ fun ρ₃ s₃ f₃ p₃ H₃ S₃ fr=>?_)
   cases fr
   have hr':=rtok_rest hr
   have hin':∀ c∈rest',c∈signs:=fun c hc=>hin c (hr'.1.subset hc)
   have hl':rest'.length≤rest.length:=hr'.1.length_le
   have e1:d++[(ln',t::ts)]++l=d++(ln',t::ts)::l:=by simp
   have hd':(d++[(ln',t::ts)]).length + l.length≤4000:=by simp at hd ⊢; omega
   refine wpAny_execs_cons (wpAny_mono (ih (aS2 P) (tdLo2 ⟨⟨t::ts⟩⟩) (d++[(ln',t::ts)]) _ ρ₃ s₃ (fetch2 hK hs _) (.inr ⟨_,rfl⟩) hin' (fun c hc=>hin c (hr'.2 c hc)) (by omega) hd' za H₃ (by
     rw [e1]
     exact hE.mono ((p₁.trans p₂).trans p₃) ((S₁.trans S₂).trans S₃))) (fun f s₄ h=>?_) fun _ _ q=>q)
   obtain ⟨rfl,h⟩:=h
   exact wpAny_execs_nil h
 | @bad ln dn rest hne =>
   intro st lo d ob ρ s hf hlo hin hpb hl _ z H hE
   refine hf.2 x o hcv hsc (tdP A B d) _ E (fun c hc=>⟨hin c hc,hne c hc⟩) (by omega) z H fun ρ' s' v m p' R' S'=>?_
   rw [List.append_nil] at hE
   exact hE ρ' s' v m (dn++rest) lo ob p' hlo R' S'
end
end
section
set_option maxHeartbeats 1000000
noncomputable def tdX (A B:AO) (d:List (Int × List Nat)) (n:Int) (msg tok:Str):List AO:=tdTl A B (refsV 10 d.length++[.obj (d.length + 11)]) (TL d++[.list [.str msg,.str tok],.tup [.int n,.obj (d.length + 10)]])
theorem kT (P:Params):(scT P).lookup (S "told")=some .local∧(scT P).lookup (S "lexer")=some .local∧(scT P).lookup (S "error")=some .local∧(scT P).lookup (S "str")=some .globalImplicit∧(scT P).lookup (S "ValueError")=some .globalImplicit:=⟨by kernel_rfl,by kernel_rfl,by kernel_rfl,by kernel_rfl,by kernel_rfl⟩
theorem nsStr (P:Params):nsIn (KP P) mainGlobals (S "str")=some none:=by kernel_rfl
theorem nsVE (P:Params):nsIn (KP P) mainGlobals (S "ValueError")=some none:=by kernel_rfl
theorem clsL (P:Params):(T1 P).cls 727 (S "lineno")=some .own∧(T1 P).cls 727 (S "token")=some .own:=⟨by kernel_rfl,by kernel_rfl⟩
theorem lkL (st:AV) (tok:Str) (ln:Int):(∃ es,lexD st tok ln=.dict es∧look (S "lineno") es=some (.int ln)∧look (S "token") es=some (.str tok)):=⟨_,rfl,by kernel_rfl,by kernel_rfl⟩
theorem HSm.upd {x:Cx} {ρ:List Addr} {h h':Heap} {σ:AS} {m:Str→Option Value} (H:HSm x ρ σ h m) {i:Nat} {a:Addr} {ao:AO} (hi:ρ[i]?=some a) (hl:i<σ.hp.length) (hs:Heap.SameBut a h h') {o:Obj} (ho:h'.get? a=some o) (r:OR ρ ao o) :
   HSm x ρ { σ with hp:=σ.hp.set i ao } h' m:=by
 obtain ⟨os,F,H,l⟩:=H
 have hlo:i<os.length:=H.or.len ▸ hl
 have hm:=zip_mem (fz:=x.fz) hi (List.getElem?_eq_getElem hlo)
 have z:=H.nw _ hm
 obtain ⟨pre,post,e1,e2,n1,n2⟩:=(H.upd (o':=o) hi (List.getElem?_eq_getElem hlo)).split
 refine ⟨os.set i o,F.change hs z.2.1 z.2.2,H.put ?_ r,l⟩
 rw [e2]
 have N:=H.nw
 rw [e1] at N
 exact news_set N n1 n2 hs ho
section
variable {g:Gl} {P:Params}
theorem Cx.envO {x:Cx} (hcl:x.cl=[]):x.env=envOf x.qual x.scope x.L x.fa x.cdv:=by
 unfold Cx.env
 rw [hcl]
 rfl
theorem Cx.ld {x:Cx} (hcl:x.cl=[]) {A:Around} {E:Value→Shared→Prop} {s:Shared} {m:Str→Option Value} {y:Str} {pos:Pos} {v:Value} {Q:Value→Shared→Prop} (F:Fr x.h₀ x.L s.heap m) (hv:m y=some v) (h:Q v s) (hk:x.scope.kind=.function) (hx:x.env.kindOf y=some .local) (hd:(y==("__debug__" : Str))=false):wpAny (model g.prog g.w) A (eval (.Name y pos) x.env) Q E s:=by
 rw [Cx.envO hcl] at hx ⊢
 exact PyProof.Rows.ld F hv h hk hx hd
theorem handler_s (hK:g.K=KP P) (hs:101≤g.sl) {x:Cx} (hcv:x.cv=none) (hcl:x.cl=[]) {A:Around} (hu:A.units + 2<cLine) {E:Value→Shared→Prop} {Q:Flow→Shared→Prop} {s:Shared}
   (X:g.K.In x.h₀) (T:Top g.p g.loose g.mean g.mg g.mb x.h₀) (hkd:x.scope.kind=.function) (hsc:x.scope.names=scT P) {ρ:List Addr} {Ao Bo:AO} {d:List (Int × List Nat)} {n:Int} {msg tok:Str} {dn':List Nat} {ob:List Nat} {m:Str→Option Value} {e t:Addr} {tk:Tok} {news₂:List (Addr × Obj)}
   (H:HSm x ρ ⟨tdLo1,lexH .qt tok n dn' [] .none (tdP Ao Bo d),ob⟩ s.heap m) (me:m (S "error")=some (.ref e)) (N₂:News x.h₀ x.L s.heap news₂) (G:Got news₂ e t veT [.str msg tk]) (hd:d.length≤4000) (hmsg:msg.length≤sizeLine)
   (hQ:∀ ρ' s',ρ <+: ρ'→HSm x ρ' ⟨tdLo1,lexH .qt tok n dn' [] .none (tdX Ao Bo d n msg tok),ob⟩ s'.heap m→Same s s'→Q .next s') :
   wpAny (model g.prog g.w) A (exec (hdB (Mine.hd P)) x.env) Q E s:=by
 have ok:=ok1 (g:=g) hK hs
 obtain ⟨q1,q2,q3,q4,q5,q6,q7,q8,q9,q10,q11,q12,q13,k,hline,hb⟩:=hb_ex P
 rw [hb]
 obtain ⟨k1,k2,k3,k4,k5⟩:=kT P
 have kof:∀ y,x.env.kindOf y=(scT P).lookup y:=fun y=>by rw [← hsc]; rfl
 obtain ⟨os,FF,HP,lr⟩:=id H
 have vm:∀ y,x.vm m y=m y:=fun y=>by unfold Cx.vm Cx.ccl; rw [hcv]; dsimp only; rw [hcl]; rfl
 have fm:x.fm m=m:=by unfold Cx.fm; rw [hcv]
 have FF0:=FF
 rw [fm] at FF
 obtain ⟨vl,ml,rl⟩:=lr (S "lexer") (.obj 1) rfl
 obtain ⟨vt,mt,rt⟩:=lr (S "told") (.obj 9) rfl
 rw [vm] at ml mt
 obtain ⟨al,hal,rfl⟩:=rl
 obtain ⟨at_,hat,rfl⟩:=rt
 obtain ⟨a1,oI,g1,g2,hI,mI⟩:=HP.get (i:=1) (ao:=.inst 727 0) rfl
 cases hal.symm.trans g1
 obtain ⟨dx,hdx,rfl⟩:=hI
 obtain ⟨es,eD,lk1,lk2⟩:=lkL Ls.qt.av tok n
 obtain ⟨a0,oD,f1,f2,hD,mD⟩:=HP.get (i:=0) (ao:=lexD Ls.qt.av tok n) rfl
 rw [eD] at hD
 cases hdx.symm.trans f1
 obtain ⟨ds,nn,rfl,hdr⟩:=hD
 have I:=InstAt.of_news HP.nw mI mD
 obtain ⟨v1,gl1,r1⟩:=look_getL hdr lk1
 obtain ⟨v3,gl3,r3⟩:=look_getL hdr lk2
 obtain ⟨c1,c2,⟨at1,c3,c4⟩,_⟩:=ok.cls _ _ _ (clsL P).1
 obtain ⟨d1,d2,⟨at2,d3,d4⟩,_⟩:=ok.cls _ _ _ (clsL P).2
 have hlo:listOf (lexH .qt tok n dn' [] .none (tdP Ao Bo d)) 9=some (refsV 10 d.length):=rfl
 obtain ⟨us,un,hT,hus,hlt⟩:=H.hs.listObj hlo hat
 refine wpAny_Expr ?_ (by unfold interactive; rw [show x.env.scope.kind=.function from hkd]; rfl) (swaps_plain (by rfl))
 rw [arm_eval_Call,attrBase_ok rfl]
 refine wpAny_bind (Cx.ld hcl FF mt ?_ hkd (by rw [kof]; exact k1) (by decide))
 refine wpAny_bind (wpAny_standAt ?_)
 have mc:=methodCall_plain (o:=.Name (S "told") q1) (name:=S "append") (apos:=q2) (pos:=q3) (env:=x.env) (ov:=.ref at_) (args:=[.Tuple [.Attribute (.Name (S "lexer") q4) (S "lineno") q5,.List [.Call (.Name (S "str") q6) [.Name (S "error") q7] [] q8,.Attribute (.Name (S "lexer") q9) (S "token") q10] q11] k q12]) (ks:=[]) (kes:=[]) (by show 1 + 0<15; omega) (by rfl) rfl hline
 rw [mc]
 refine wpAny_bind (wpAny_holding (getMethod_list_of (items:=us.toArray) slot_list_append F.type_list_append ⟨_,hT,rfl,un,rfl⟩ ⟨_,hT,rfl⟩ ?_))
 dsimp only
 refine Calls.callWith_builtin (by rfl) ?_
 rw [(noStar_cons (e:=.Tuple _ k q12) (r:=[]) (env:=x.env) (by rfl)).1]
 refine Calls.evalArgs_plain (Calls.spliced_cons (wpAny_Tuple_spliced (x1:=k) ?_))
 rw [(noStar_cons (e:=.Attribute _ _ q5) (r:=[_]) (env:=x.env) (by rfl)).1]
 refine spliced_cons (Attribute_name (Cx.ld hcl FF ml ?_ hkd (by rw [kof]; exact k2) (by decide)))
 refine get_own FF X I c1 c2 c3 c4 gl1 r1.handed ?_
 rw [(noStar_cons (e:=.List _ q11) (r:=[]) (env:=x.env) (by rfl)).1]
 refine spliced_cons (wpAny_List_spliced ?_)
 rw [(noStar_cons (e:=.Call _ _ _ q8) (r:=[_]) (env:=x.env) (by rfl)).1]
 refine spliced_cons ?_
 show wpAny _ _ (eval (.Name (S "str") q6) x.env >>= fun f=>callWith _ f [] _ _) _ _ _
 refine wpAny_bind (nameX_B (cl:=x.cl) FF X (topRead_of T) (by rw [hK]; exact nsStr P) (v:=.type "str") PyProof.Rows.Boot.«str» (by decide) ?_ hkd (by show x.env.kindOf _=_; rw [kof]; exact k4) (by decide))
 refine callWith_type1 (t:=eval (.Name (S "error") q7) x.env) (Cx.ld hcl FF me ?_ hkd (by rw [kof]; exact k3) (by decide))
 refine str_got_one PySem.F.excStr_ValueError N₂ G hu ?_
 rw [(noStar_cons (e:=.Attribute _ _ q10) (r:=[]) (env:=x.env) (by rfl)).1]
 refine spliced_cons (Attribute_name (Cx.ld hcl FF ml ?_ hkd (by rw [kof]; exact k2) (by decide)))
 refine get_own FF X I d1 d2 d3 d4 gl3 r3.handed ?_
 refine spliced_nil ⟨by rw [sizeLine_eq]; show 2≤16777216; omega,?_⟩
 refine spliced_nil ⟨by rw [sizeLine_eq]; show 2≤16777216; omega,?_⟩
 refine spliced_nil ?_
 have hlen:ρ.length=d.length + 10:=by
   have:=HP.ln
   rw [this]
   show (TL d).length + 1 + 1 + 1 + 1 + 1 + 1 + 1 + 1 + 1 + 1=_
   unfold TL
   rw [List.length_map]
 have HP1:=HP.more FF0 (ao:=.list [.str msg,.str tok]) (o:=listO [.str msg tk,v3] 0) rfl ⟨_,0,rfl,.cons ⟨⟨tk,rfl⟩,hmsg⟩ (.cons r3 .nil)⟩
 have FF1:=FF0.push (listO [.str msg tk,v3] 0)
 have HP2:=HP1.more FF1 (ao:=.tup [.int n,.obj (d.length + 10)]) (o:=tupO [v1,.ref s.heap.objs.size] 0) rfl ⟨_,0,rfl,.cons (r1.mono ⟨_,rfl⟩) (.cons ⟨s.heap.objs.size,by rw [← hlen,List.getElem?_append_right (Nat.le_refl _),Nat.sub_self]; rfl,rfl⟩ .nil)⟩
 have FF2:=FF1.push (tupO [v1,.ref s.heap.objs.size] 0)
 have pre:ρ <+: ρ++[s.heap.objs.size]++[(s.heap.push (listO [.str msg tk,v3] 0)).objs.size]:=(List.prefix_append _ _).trans (List.prefix_append _ _)
 have H2:HSm x (ρ++[s.heap.objs.size]++[(s.heap.push (listO [.str msg tk,v3] 0)).objs.size]) ⟨tdLo1,lexH .qt tok n dn' [] .none (tdTl Ao Bo (refsV 10 d.length) (TL d++[.list [.str msg,.str tok],.tup [.int n,.obj (d.length + 10)]])),ob⟩ ((s.heap.push (listO [.str msg tk,v3] 0)).push (tupO [v1,.ref s.heap.objs.size] 0)) m:=by
   have e:lexH Ls.qt tok n dn' [] none (tdP Ao Bo d)++[AO.list [AV.str msg,AV.str tok]]++[AO.tup [AV.int n,AV.obj (d.length + 10)]]=lexH .qt tok n dn' [] .none (tdTl Ao Bo (refsV 10 d.length) (TL d++[.list [.str msg,.str tok],.tup [.int n,.obj (d.length + 10)]])):=by
     simp [lexH,tdP,tdTl]
   have HP3:=HP2
   rw [show (⟨tdLo1,lexH Ls.qt tok n dn' [] none (tdP Ao Bo d),ob⟩:AS).hp++[AO.list [AV.str msg,AV.str tok]]++[AO.tup [AV.int n,AV.obj (d.length + 10)]]=_ from e] at HP3
   exact ⟨_,FF2,HP3,lr.mono pre⟩
 have vr2:VR (ρ++[s.heap.objs.size]++[(s.heap.push (listO [.str msg tk,v3] 0)).objs.size]) (.obj (d.length + 11)) (.ref (s.heap.push (listO [.str msg tk,v3] 0)).objs.size):=by
   refine ⟨_,?_,rfl⟩
   have:(ρ++[s.heap.objs.size]).length=d.length + 11:=by simp [hlen]
   rw [← this,List.getElem?_append_right (Nat.le_refl _),Nat.sub_self]; rfl
 obtain ⟨us2,un2,hT2,hus2,hlt2⟩:=H2.hs.listObj (k:=9) (xs:=refsV 10 d.length) rfl (pre_get pre hat)
 refine append_at (hsz:=by
   rw [List.size_toArray,← hus2.len]
   have:(refsV 10 d.length).length=d.length:=by simp [refsV]
   rw [this,sizeLine_eq]; omega) hT2 fun h' hsb ho=>?_
 have H3:=H2.upd (ao:=.list (refsV 10 d.length++[.obj (d.length + 11)])) (pre_get pre hat) hlt2 hsb ho ⟨us2++[.ref (s.heap.push (listO [.str msg tk,v3] 0)).objs.size],un2 + 1,by simp [listO],hus2.snoc vr2⟩
 exact hQ _ _ pre H3 Same.of
end
end
section
set_option maxHeartbeats 1000000
noncomputable def tdEnd (A B:AO) (l:List (Int × List Nat)) (n:Int):Te→List AO
 | .done=>tdP A B l
 | .open_ tok=>tdX A B l n msgQ ⟨⟨tok⟩⟩
noncomputable def TdOut (A B:AO) (l:List (Int × List Nat)) (n:Int) (e:Te) (hp:List AO):Prop:=∃ lx:List AO,lx.length=7∧hp=lx++tdEnd A B l n e
theorem lexH_len (st:Ls) (tok:Str) (ln:Int) (dn rest:List Nat) (pb:Option Nat) (post:List AO):∃ lx:List AO,lx.length=7∧lexH st tok ln dn rest pb post=lx++post:=⟨lexH st tok ln dn rest pb [],rfl,rfl⟩
theorem enter959 (P:Params) (hp:List AO):enter (fi959 P) [.obj 1] [] hp=some (tdLo0,hp):=by kernel_rfl
theorem nc959 (P:Params):cellNs (fi959 P).scn=[]:=by kernel_rfl
theorem LR.less {ρ:List Addr} {lo lo':List (Str × AV)} {m:Str→Option Value} (l:LR ρ lo m) (h:∀ y v,look y lo'=some v→look y lo=some v):LR ρ lo' m:=fun y v e=>l y v (h y v e)
theorem lo12 {lo:List (Str × AV)} (h:lo=tdLo1 ∨ ∃ tk,lo=tdLo2 tk):∀ y v,look y tdLo1=some v→look y lo=some v:=by
 intro y v e
 rcases h with rfl | ⟨tk,rfl⟩
 · exact e
 · rw [show tdLo2 tk=tdLo1++[(S "token",.str tk)] from rfl,look_app,e]
theorem HS.less {x:Cx} {ρ:List Addr} {lo lo':List (Str × AV)} {hp:List AO} {ob:List Nat} {h:Heap} (H:HS x ρ ⟨lo,hp,ob⟩ h) (hl:∀ y v,look y lo'=some v→look y lo=some v):HS x ρ ⟨lo',hp,ob⟩ h:=by
 obtain ⟨m,os,F,HP,l⟩:=H
 exact ⟨m,os,F,HP,l.less hl⟩
theorem lo1_ne {y:Str} {v:AV} (h:look y tdLo1=some v):y ≠ S "error" := by
 rintro rfl
 have:look (S "error") tdLo1=.none:=by kernel_rfl
 rw [this] at h
 cases h
theorem rev_lookup {y:Str} {w:Value}:∀ {l:List (Str × Value)},(l.map (·.1)).Nodup→(y,w)∈l→l.reverse.lookup y=some w:=by
 intro l nd hm
 have key:∀ l:List (Str × Value),(l.map (·.1)).Nodup→(y,w)∈l→l.lookup y=some w:=by
   intro l
   induction l with
   | nil=>intro _ h; cases h
   | cons p r ih =>
     intro nd hm
     rw [List.map_cons,List.nodup_cons] at nd
     rw [List.lookup_cons]
     rcases List.mem_cons.mp hm with e | hm
     · rw [← e]; simp
     · have hne:y ≠ p.1:=fun e=>nd.1 (e ▸ List.mem_map_of_mem (f:=(·.1)) hm)
       have hb:(y==p.1)=false:=by simpa using hne
       rw [hb]
       exact ih nd.2 hm
 refine key _ ?_ (List.mem_reverse.mpr hm)
 rw [List.map_reverse]
 exact List.pairwise_reverse.mpr (nd.imp fun h=>Ne.symm h)
section
variable {g:Gl} {P:Params}
theorem fn_binds {a:Nat} {fi:FnI} (fo:FnOk g a fi) (hnc:cellNs fi.scn=[]) {as:List AV} {lo:List (Str × AV)} {hp:List AO} (hz:enter fi as [] hp=some (lo,hp)) {ρ:List Addr} {as':List Value} (vas:VRs ρ as as') :
   ∃ d,FnIs g a fi d∧(∀ x∈d.scope.names,x.2 ≠ .cell)∧∀ s:Shared,g.K.In s.heap→∃ binds:List (Str × Value),BindsTo s (d.fn fi.body) ⟨as',[]⟩ binds∧(∀ y∈binds,d.scope.names.lookup y.1=some .local)∧LR ρ lo (fun y=>binds.reverse.lookup y):=by
 obtain ⟨d,D⟩:=fo.ex
 have hnc':∀ x∈d.scope.names,x.2 ≠ .cell:=by rw [D.scn]; exact no_cell hnc
 refine ⟨d,D,hnc',fun s hX=>?_⟩
 have key:∀ lo₀,[]=fi.kws→zipP fi.prm (as++[])=some lo₀→lo=lo₀++fi.dfl→∃ binds:List (Str × Value),BindsTo s (d.fn fi.body) ⟨as',[]⟩ binds∧(∀ y∈binds,d.scope.names.lookup y.1=some .local)∧LR ρ lo (fun y=>binds.reverse.lookup y):=by
   intro lo₀ hkn hzp hlo
   subst hlo
   obtain ⟨hlen,hlook⟩:=zipP_look hzp (vas.app (.nil:VRs ρ [] []))
   obtain ⟨binds,b⟩:=D.bnd s as' [] hX (by rw [hlen]; simp) hkn
   refine ⟨binds,b.to,fun y hy=>?_,fun y w hw=>?_⟩
   · have hk:=List.all_eq_true.mp b.kd _ hy
     rw [D.scn]
     rcases Bool.or_eq_true_iff.mp hk with q | q
     · exact beq_iff_eq.mp q
     · exact absurd rfl (no_cell hnc _ (lookup_mem (beq_iff_eq.mp q)))
   · have:∃ w',(y,w')∈binds∧VR ρ w w':=by
       rw [look_app] at hw
       revert hw
       cases hy:look y lo₀ with
       | some u =>
         intro hw
         cases hw
         obtain ⟨w',h1,h2⟩:=hlook y _ hy
         exact ⟨w',b.prm _ h1,h2⟩
       | none =>
         intro hw
         obtain ⟨w',h1,h2⟩:=b.dfl (y,w) (by rw [look_lookup] at hw; exact lookup_mem hw)
         exact ⟨w',h1,h2.nil⟩
     obtain ⟨w',h1,h2⟩:=this
     exact ⟨w',rev_lookup b.nd h1,h2⟩
 cases enter_ok.use hz with
 | plain lo₀ hkn hzp hc hlo hhp=>exact key lo₀ hkn hzp hlo
 | cell lo₀ c hkn hzp hc hlo hhp=>exact ceCN (hc.symm.trans hnc)
theorem told_body (hK:g.K=KP P) (hs:101≤g.sl) {x:Cx} {E:Value→Shared→Prop} (o:CxOk g x 72) (hcv:x.cv=none) (hsc:x.scope.names=scT P) (hP:PassesOwn (model g.prog g.w) x.A x.env E) {A B:AO} {Q:Flow→Shared→Prop} {ln:Int} {dn rest:List Nat} {pb:Option Nat} {l:List (Int × List Nat)} {n:Int} {e:Te} (T:Ts ln dn rest pb l n e)
   {ob:List Nat} {ρ:List Addr} {s:Shared} (hin:∀ c∈rest,c∈signs) (hpb:∀ c,pb=some c→c∈signs) (hl:rest.length<999) (hll:l.length≤4000) (z:Sz ob) (H:HS x ρ ⟨tdLo1,lexH .sp lexE ln dn rest pb (tdP A B []),ob⟩ s.heap) (hE:tdN n A B l e x ρ s Q E) :
   wpAny (model g.prog g.w) x.A (execs (tyB (ty P)) x.env) Q E s:=by
 have hE':tdN n A B ([]++l) e x ρ s (fun f s'=>match f with | .next=>wpAny (model g.prog g.w) x.A (execs [] x.env) Q E s' | f=>Q f s') E:=by
   rw [List.nil_append]
   cases e with
   | done=>exact fun ρ' s' dn' ob' p' H' z' S'=>wpAny_execs_nil (hE ρ' s' dn' ob' p' H' z' S')
   | open_ tok=>exact hE
 rw [tyB_eq]
 refine wpAny_execs_cons (wpAny_mono (told_walk hK hs o hcv hsc hP T (aS1 P) tdLo1 [] ob ρ s (fetch1 hK hs) (.inl rfl) hin hpb hl (by simpa using hll) z H hE') (fun f s₂ h₂=>?_) fun _ _ q=>q)
 obtain ⟨rfl,h₂⟩:=h₂
 exact wpAny_execs_cons (whl_start 0 h₂)
noncomputable def Cx.at (x:Cx) (g2:Heap):Cx:=⟨x.A₀,x.base,x.outer,g2,x.L,x.qual,x.scope,x.fa,x.cdv,x.cl,x.fz,x.cv⟩
theorem told_frame (hK:g.K=KP P) (hs:101≤g.sl) {x:Cx} (o:CxOk g x 73) (hcv:x.cv=none) (hcl:x.cl=[]) (hsc:x.scope.names=scT P) (XB:g.K.In x.base) (TB:Top g.p g.loose g.mean g.mg g.mb x.base) (D:KtsDicts (x.outer.filterMap (·.frame)) x.h₀) (hEX:∀ b o,g.ex.lookup b=some o→b ∉ x.outer.filterMap (·.frame))
   {ρ:List Addr} {s:Shared} {ob:List Nat} {Ao Bo:AO} {ln:Int} {dn rest:List Nat} {pb:Option Nat} {l:List (Int × List Nat)} {n:Int} {e:Te} (T:Ts ln dn rest pb l n e) (hin:∀ c∈rest,c∈signs) (hpb:∀ c,pb=some c→c∈signs) (hl:rest.length<999) (hll:l.length≤4000) (z:Sz ob)
   (H:HS x ρ ⟨tdLo0,lexH .sp lexE ln dn rest pb [Ao,Bo],ob⟩ s.heap) {Q:Flow→Shared→Prop} {E:Value→Shared→Prop}
   (hQ:∀ g2,KtsTurn (x.outer.filterMap (·.frame)) x.h₀ g2→∀ ρ' s' v' hp' lo' ob',ρ <+: ρ'→TdOut Ao Bo l n e hp'→HS (x.at g2) ρ' ⟨lo',hp',ob'⟩ s'.heap→Same s s'→VR ρ' (.obj 9) v'→Q (.ret v') s') :
   wpAny (model g.prog g.w) x.A (execs (b959 P) x.env) Q E s:=by
 have ok:=ok1 (g:=g) hK hs
 have fin:∀ g2,KtsTurn (x.outer.filterMap (·.frame)) x.h₀ g2→CxOk g (x.at g2) 73→∀ ρ₂ s₂ ob₂ st tok ln2 dn2,ρ <+: ρ₂→Same s s₂→Sz ob₂→HS (x.at g2) ρ₂ ⟨tdLo1,lexH st tok ln2 dn2 [] .none (tdEnd Ao Bo l n e),ob₂⟩ s₂.heap→wpAny (model g.prog g.w) x.A (execs ((b959 P).drop 2) x.env) Q E s₂:=by
   intro g2 KT o2 ρ₂ s₂ ob₂ st tok ln2 dn2 p₂ S₂ z₂ H₂
   have hr:∃ refs tl,tdEnd Ao Bo l n e=tdTl Ao Bo refs tl:=by
     cases e with
     | done=>exact ⟨_,_,rfl⟩
     | open_ tok=>exact ⟨_,_,rfl⟩
   obtain ⟨refs,tl,hr⟩:=hr
   rw [hr] at H₂
   refine exsE (x:=x.at g2) ok (o2.to (by omega)) hcv hsc (td_r P Ao Bo st tok ln2 dn2 [] .none tl refs ob₂) z₂ H₂ fun ρ₃ s₃ f₃ p₃ H₃ S₃ fr=>?_
   obtain ⟨v',rfl,vr⟩:=fr
   obtain ⟨lx,hlx,elx⟩:=lexH_len st tok ln2 dn2 [] .none (tdTl Ao Bo refs tl)
   exact hQ g2 KT ρ₃ s₃ v' _ _ ob₂ (p₂.trans p₃) ⟨lx,hlx,by rw [hr]; exact elx⟩ H₃ (S₂.trans S₃) vr
 rw [b959_eq]
 refine wpAny_execs_cons (exEE ok (o.to (by omega)) hcv hsc (td_0 P Ao Bo .sp lexE ln dn rest pb ob) z H fun ρ₁ s₁ f₁ p₁ H₁ S₁ fr=>?_)
 cases fr
 refine wpAny_execs_cons (wpAny_Try_except ?_)
 refine told_body hK hs (o.to (by omega)) hcv hsc PassesOwn.looking T hin hpb hl hll z H₁ ?_
 cases e with
 | done =>
   intro ρ₂ s₂ dn₂ ob₂ p₂ H₂ z₂ S₂
   dsimp only
   refine wpAny_execs_nil ?_
   dsimp only
   exact fin x.h₀ KtsTurn.refl o ρ₂ s₂ ob₂ .end_ lexE n dn₂ (p₁.trans p₂) (S₁.trans S₂) z₂ (H₂.less (lo12 (.inr ⟨_,rfl⟩)))
 | open_ tok =>
   intro ρ₂ s₂ v m₂ dn₂ lo₂ ob₂ p₂ hlo R₂ S₂
   obtain ⟨ex,G,os₂,t,tk,rfl,F₂,l₂,RS,U₂,nd,dj,len,or₂⟩:=R₂
   have vm:∀ m y,x.vm m y=m y:=fun m y=>by unfold Cx.vm Cx.ccl; rw [hcv]; dsimp only; rw [hcl]; rfl
   have fm:∀ m,x.fm m=m:=fun m=>by unfold Cx.fm; rw [hcv]
   rw [fm] at F₂
   rw [hd_eq]
   have kof:∀ y,x.env.kindOf y=(scT P).lookup y:=fun y=>by rw [← hsc]; rfl
   have kof':∀ y,(envOf x.qual x.scope x.L x.fa x.cdv).kindOf y=(scT P).lookup y:=fun y=>by rw [← Cx.envO hcl]; exact kof y
   have hB:=o.B
   have hA:x.A=x.A₀.deeper (envOf x.qual x.scope x.L x.fa x.cdv):=by rw [← Cx.envO hcl]
   rw [hA,Cx.envO hcl] at fin ⊢
   rw [Cx.envO hcl] at RS
   refine caught_SB (name:=x.qual) (scope:=x.scope) (a:=x.fa) (cd:=x.cdv) (T' := "ValueError") RS F₂ hB U₂ XB TB D KtsTurn.refl (by rw [hK]; exact nsVE P) PyProof.Rows.Boot.«ValueError» (by decide) PySem.F.isExc_ValueError PySem.F.notTuple_ValueError (by rw [isSubtype_type]; kernel_rfl) (fun h' g2 news₂ tk' KT F₃ N₃ G₃ Nl K₃ X₃ P₃ D₃=>?_) o.kd (by rw [kof']; exact (kT P).2.2.1) (by rw [kof']; exact (kT P).2.2.2.2) (by decide)
   have H₃:HSm (x.at g2) ρ₂ ⟨tdLo1,lexH .qt ⟨⟨tok⟩⟩ n dn₂ [] .none (tdP Ao Bo l),[]⟩ h' (fun y=>if y=S "error" then some (Value.ref ex) else m₂ y):=by
     refine ⟨os₂,by rw [show (x.at g2).fm=x.fm from rfl,fm]; exact F₃,⟨Nl,nd,dj,len,or₂⟩,fun y v hy=>?_⟩
     obtain ⟨v',h1,h2⟩:=l₂ y v (lo12 hlo y v hy)
     rw [vm] at h1
     refine ⟨v',?_,h2⟩
     rw [show (x.at g2).vm=x.vm from rfl,vm,if_neg (lo1_ne hy)]
     exact h1
   have o2:CxOk g (x.at g2) 73:=⟨K₃,X₃,P₃,o.kd,o.hh,o.ck,o.kn,o.clk,(fun c hc=>by rw [show (x.at g2).cv=x.cv from rfl,hcv] at hc; cases hc),o.dp,o.un,fun b o₁ e=>KT.other b o₁ (o.EX b o₁ e) (hEX b o₁ e)⟩
   rw [← Cx.envO hcl]
   refine wpAny_execs_cons (handler_s (x:=x.at g2) (s:={ s₂ with heap:=h',toks:=tk' }) hK hs hcv hcl (by have e:=o.un; show x.A.units + 2<_; omega) X₃ P₃ o.kd hsc H₃ (by simp) N₃ G₃ hll (by rw [sizeLine_eq]; decide) fun ρ₄ s₄ p₄ H₄ S₄=>?_)
   dsimp only
   refine wpAny_execs_nil ?_
   obtain ⟨os₄,F₄,HP₄,l₄⟩:=H₄
   rw [show (x.at g2).fm=x.fm from rfl,fm] at F₄
   rw [Cx.envO hcl]
   refine name_goes_keeps F₄ HP₄.nw (fun h₅ v₅ F₅ N₅=>?_) o.kd (by rw [kof']; exact (kT P).2.2.1)
   dsimp only
   refine fin g2 KT o2 ρ₄ _ [] .qt ⟨⟨tok⟩⟩ n dn₂ ((p₁.trans p₂).trans p₄) (((S₁.trans S₂).trans (Same.of.trans S₄)).trans Same.of) Sz.nil ⟨_,os₄,by rw [show (x.at g2).fm=x.fm from rfl,fm]; exact F₅,⟨N₅,HP₄.nd,HP₄.dj,HP₄.ln,HP₄.or⟩,fun y v hy=>?_⟩
   obtain ⟨v',h1,h2⟩:=l₄ y v hy
   rw [show (x.at g2).vm=x.vm from rfl,vm,if_neg (lo1_ne hy)] at h1
   refine ⟨v',?_,h2⟩
   rw [show (x.at g2).vm=x.vm from rfl,vm]
   show (if y=S "error" then v₅ else _)=some v'
   rw [if_neg (lo1_ne hy),if_neg (lo1_ne hy)]
   exact h1
theorem told_call (hK:g.K=KP P) (hs:101≤g.sl) {x:Cx} (o:CxOk g x 74) (hcv:x.cv=none) (hcl:x.cl=[]) (hout:x.outer=[]) (XB:g.K.In x.base) (TB:Top g.p g.loose g.mean g.mg g.mb x.base) {A':Around} (hA:A'.frames=some (x.env::x.outer)) (hh:A'.handled=none) (hd:A'.depth + 74 + g.sl<recursionLimit) (hu:A'.units + 8 * (74 + g.sl)<cLine)
   {ρ:List Addr} {s:Shared} {lo:List (Str × AV)} {ob:List Nat} {m:Str→Option Value} {f':Value} {as':List Value} {Ao Bo:AO} {ln:Int} {dn rest:List Nat} {pb:Option Nat} {l:List (Int × List Nat)} {n:Int} {e:Te} (T:Ts ln dn rest pb l n e) (hin:∀ c∈rest,c∈signs) (hpb:∀ c,pb=some c→c∈signs) (hl:rest.length<999) (hll:l.length≤4000) (z:Sz ob)
   (H:HSm x ρ ⟨lo,lexH .sp lexE ln dn rest pb [Ao,Bo],ob⟩ s.heap m) (vf:VR ρ (.top 959) f') (vas:VRs ρ [.obj 1] as') {Q:Value→Shared→Prop}
   (hQ:∀ ρ' s' v' hp' ob',ρ <+: ρ'→TdOut Ao Bo l n e hp'→HSm x ρ' ⟨lo,hp',ob'⟩ s'.heap m→Same s s'→VR ρ' (.obj 9) v'→Q v' s') :
   codeAny (model g.prog g.w) A' (.call f' ⟨as',[]⟩) (RQ Q) s:=by
 cases vf
 obtain ⟨⟨name,qual',params,scope',dV,kV,doc,pm,cdv',ct,oc,an,od,osl⟩,D,hnc',e7⟩:=fn_binds (fn959 (g:=g) hK) (nc959 P) (enter959 P []) vas
 obtain ⟨e1,e2,e3,e4,e5,e6,_⟩:=D
 obtain ⟨os,F,HP,lr⟩:=H
 have fm:x.fm m=m:=by unfold Cx.fm; rw [hcv]
 have F0:=F
 rw [fm] at F
 have B:=o.B
 rw [hout] at B
 rw [hout,Cx.envO hcl] at hA
 obtain ⟨binds,b1,b2,b3⟩:=e7 s (o.X.keeps F.keep)
 refine code_defS0 (cn:=x.qual) (cs:=x.scope) (a:=x.fa) (ccd:=x.cdv) B F o.X HP.nw o.T hA e1 e2 (by omega) b1 b2 ?_ o.kd e5 e6 e4 hnc'
 intro gg L' h₁ FG F' N' B' X' T' D'
 refine told_frame (x:=⟨A',x.base,[envOf x.qual x.scope x.L x.fa x.cdv],gg,L',qual',scope',959,cdv',[],x.fz,none⟩) hK hs ⟨B',X',T',e4,hh,e4,fun _=>rfl,fun y=>?_,(fun c hc=>by cases hc),by show A'.depth + 1 + 73 + g.sl<_; omega,by show A'.units + 3 + 8 * (73 + g.sl)<_; omega,fun b o' e=>FG.keep b o' (o.EX b o' e)⟩ rfl rfl e3 XB TB D' (fun b o₁ e hm=>?_) T hin hpb hl hll z (s:={ s with heap:=h₁,toks:=s.toks + binds.length }) ⟨_,os,F',⟨N',HP.nd,HP.dj,HP.ln,HP.or⟩,b3⟩ fun g2 KT ρ' s' v' hp' lo' ob' p' TO H' S' vr=>?_
 · refine (?_:(([]:List (Str × Addr)).lookup y).isSome=true ↔ look y scope'.names=some .cell)
   rw [look_lookup]
   exact ⟨fun h=>ceFT h,fun h=>absurd rfl (hnc' _ (lookup_mem h))⟩
 · rcases kts_mem hm with q | q
   · have h1:=o.EX b o₁ e
     rw [q,kts_self F] at h1
     cases h1
   · cases q
 · obtain ⟨m₃,os₃,F₃,HP₃,l₃⟩:=H'
   exact leaveS0_ F₃ HP₃.nw KT fun FL NL=>hQ ρ' s' v' _ ob' p' TO ⟨os₃,by rw [fm]; exact FL,⟨NL,HP₃.nd,HP₃.dj,HP₃.ln,HP₃.or⟩,lr.mono p'⟩ (Same.of.trans S') vr
end
end
section
set_option maxHeartbeats 400000
inductive Itm where
 | tok (k:Int) (y:Str)
 | msg (k:Int) (a b:Str)
noncomputable def ItIn (l:List (Addr × Obj)) (v:Value):Itm→Prop
 | .tok k y=>∃ a t u n,v=.ref a∧(a,tupO [.int k t,.str y u] n)∈l
 | .msg k y1 y2=>∃ a b t n u1 u2 n2,v=.ref a∧(a,tupO [.int k t,.ref b] n)∈l∧(b,listO [.str y1 u1,.str y2 u2] n2)∈l
noncomputable def ItA (hp:List AO) (v:AV):Itm→Prop
 | .tok k y=>∃ j,v=.obj j∧hp[j]?=some (.tup [.int k,.str y])
 | .msg k a b=>∃ j q,v=.obj j∧hp[j]?=some (.tup [.int k,.obj q])∧hp[q]?=some (.list [.str a,.str b])
theorem or_two {ρ:List Addr} {hp:List AO} {os:List Obj} (or:ORs ρ hp os) {j:Nat} {c d:AV} {C:Prop} (hj:hp[j]?=some (.tup [c,d])) (k:∀ u v n,os[j]?=some (tupO [u,v] n)→VR ρ c u→VR ρ d v→C):C:=by
 obtain ⟨o,ho,vs,n,rfl,hv⟩:=or.get hj
 exact vrs2 hv fun u v h1 h2 e=>k u v n (by rw [ho,e]) h1 h2
theorem or_twoL {ρ:List Addr} {hp:List AO} {os:List Obj} (or:ORs ρ hp os) {j:Nat} {c d:AV} {C:Prop} (hj:hp[j]?=some (.list [c,d])) (k:∀ u v n,os[j]?=some (listO [u,v] n)→VR ρ c u→VR ρ d v→C):C:=by
 obtain ⟨o,ho,vs,n,rfl,hv⟩:=or.get hj
 exact vrs2 hv fun u v h1 h2 e=>k u v n (by rw [ho,e]) h1 h2
theorem ItA.inn {ρ:List Addr} {hp:List AO} {os:List Obj} (or:ORs ρ hp os) {a:AV} {v:Value} (vr:VR ρ a v) {i:Itm} (h:ItA hp a i):ItIn (ρ.zip os) v i:=by
 cases i with
 | tok k y =>
   obtain ⟨j,rfl,hj⟩:=h
   obtain ⟨ad,had,rfl⟩:=vr
   refine or_two or hj fun u1 u2 n ho h1 h2=>?_
   obtain ⟨t,rfl⟩:=h1
   obtain ⟨⟨u,rfl⟩,_⟩:=h2
   exact ⟨ad,t,u,n,rfl,zip_mem' had ho⟩
 | msg k y1 y2 =>
   obtain ⟨j,q,rfl,hj,hq⟩:=h
   obtain ⟨ad,had,rfl⟩:=vr
   refine or_two or hj fun u1 u2 n ho h1 h2=>or_twoL or hq fun w1 w2 n2 ho2 g1 g2=>?_
   obtain ⟨t,rfl⟩:=h1
   obtain ⟨b,hb,rfl⟩:=h2
   obtain ⟨⟨v1,rfl⟩,_⟩:=g1
   obtain ⟨⟨v2,rfl⟩,_⟩:=g2
   exact ⟨ad,b,t,n,v1,v2,n2,rfl,zip_mem' had ho,zip_mem' hb ho2⟩
noncomputable def DeepEq (s:Shared) (v w:Value):Prop:=∀ A:Around,A.units + 10<cLine→SeqAt.EqAt A s v w true
theorem eq_int (s:Shared) (k:Int) (t u:Tok):DeepEq s (.int k t) (.int k u):=fun A _=>by
 have:=SeqAt.EqAt.int_int (A:=A) (s:=s) k t k u
 rwa [beq_self_eq_true] at this
theorem eq_str' (s:Shared) (k:Str) (t u:Tok):DeepEq s (.str k t) (.str k u):=fun A _=>by
 have:=SeqAt.EqAt.str_str (A:=A) (s:=s) k t k u
 have e:(k==k)=true:=by rw [← sq_beq]; exact (sq_iff k k).mpr rfl
 rwa [e] at this
theorem pair_at {P:Value→Value→Prop} {x y x' y':Value} (h1:P x x') (h2:P y y'):∀ j (h:j<#[x,y].size) (h':j<#[x',y'].size),P #[x,y][j] #[x',y'][j]
 | 0,_,_=>h1
 | 1,_,_=>h2
 | j + 2,h,_=>absurd h (by simp)
theorem eq_tup {s:Shared} {a b:Addr} {x y x' y':Value} {n n':Nat} (ha:s.heap.get? a=some (tupO [x,y] n)) (hb:s.heap.get? b=some (tupO [x',y'] n')) (h1:∀ A:Around,A.units + 9<cLine→SeqAt.EqAt A s x x' true) (h2:∀ A:Around,A.units + 9<cLine→SeqAt.EqAt A s y y' true):DeepEq s (.ref a) (.ref b):=fun A hu=>by
 by_cases e:a=b
 · subst e; exact SeqAt.EqAt.same _
 · refine SeqAt.EqAt.of_refs e ?_
   have hi:A.in1.units + 9<cLine:=by rw [units_in1]; omega
   have:=SeqAt.RcAt.tuples (A:=A) (s:=s) (l:=a) (b:=b) (items:=#[x,y]) (items2:=#[x',y']) (e:=fun _=>true) ⟨_,ha,rfl,n,rfl⟩ ⟨_,hb,rfl,n',rfl⟩ (by omega) (pair_at (P:=fun v w=>SeqAt.EqAt A.in1 s v w true) (h1 _ hi) (h2 _ hi))
   exact this
theorem eq_lst {s:Shared} {a b:Addr} {x y x' y':Value} {n n':Nat} (ha:s.heap.get? a=some (listO [x,y] n)) (hb:s.heap.get? b=some (listO [x',y'] n')) (h1:DeepEq s x x') (h2:DeepEq s y y'):∀ A:Around,A.units + 9 + 2<cLine→SeqAt.EqAt A s (.ref a) (.ref b) true:=fun A hu=>by
 by_cases e:a=b
 · subst e; exact SeqAt.EqAt.same _
 · refine SeqAt.EqAt.of_refs e ?_
   have hi:A.in1.units + 10<cLine:=by rw [units_in1]; omega
   have:=SeqAt.RcAt.lists (A:=A) (s:=s) (l:=a) (b:=b) (items:=#[x,y]) (items2:=#[x',y']) (e:=fun _=>true) ⟨_,ha,rfl,n,rfl⟩ ⟨_,hb,rfl,n',rfl⟩ rfl (by omega) (pair_at (P:=fun v w=>SeqAt.EqAt A.in1 s v w true) (h1 _ hi) (h2 _ hi))
   exact this
noncomputable def DeepEq2 (s:Shared) (v w:Value):Prop:=∀ A:Around,A.units + 20<cLine→SeqAt.EqAt A s v w true
theorem ItIn.eq {s:Shared} {l₁ l₂:List (Addr × Obj)} (n1:∀ p∈l₁,s.heap.get? p.1=some p.2) (n2:∀ p∈l₂,s.heap.get? p.1=some p.2) {v w:Value} {i:Itm} (h1:ItIn l₁ v i) (h2:ItIn l₂ w i):DeepEq2 s v w:=by
 cases i with
 | tok k y =>
   obtain ⟨a,t,u,n,hv,hm⟩:=h1
   obtain ⟨a',t',u',n',hw,hm'⟩:=h2
   subst hv hw
   exact fun A hu=>eq_tup (n1 _ hm) (n2 _ hm') (fun A h=>by
     have:=SeqAt.EqAt.int_int (A:=A) (s:=s) k t k t'
     rwa [beq_self_eq_true] at this) (fun A h=>by
     have:=SeqAt.EqAt.str_str (A:=A) (s:=s) y u y u'
     have e:(y==y)=true:=by rw [← sq_beq]; exact (sq_iff y y).mpr rfl
     rwa [e] at this) A (by omega)
 | msg k y1 y2 =>
   obtain ⟨a,b,t,n,u1,u2,m,hv,hm,hl⟩:=h1
   obtain ⟨a',b',t',n',u1',u2',m',hw,hm',hl'⟩:=h2
   subst hv hw
   intro A hu
   by_cases e:a=a'
   · subst e; exact SeqAt.EqAt.same _
   · refine SeqAt.EqAt.of_refs e ?_
     have hi:A.in1.units + 15<cLine:=by rw [units_in1]; omega
     have:=SeqAt.RcAt.tuples (A:=A) (s:=s) (l:=a) (b:=a') (items:=#[.int k t,.ref b]) (items2:=#[.int k t',.ref b']) (e:=fun _=>true) ⟨_,n1 _ hm,rfl,n,rfl⟩ ⟨_,n2 _ hm',rfl,n',rfl⟩ (by omega) (pair_at (P:=fun v w=>SeqAt.EqAt A.in1 s v w true) (eq_int s k t t' _ (by omega)) (eq_lst (n1 _ hl) (n2 _ hl') (eq_str' s _ _ _) (eq_str' s _ _ _) _ (by omega)))
     exact this
theorem All2.toArr {P:Value→Value→Prop} {vs ws:List Value} (h:All2 P vs ws):∀ j (h1:j<vs.toArray.size) (h2:j<ws.toArray.size),P vs.toArray[j] ws.toArray[j]:=by
 intro j h1 h2
 have e1:vs[j]?=some vs.toArray[j]:=by simp at h1; simp [h1]
 have e2:ws[j]?=some ws.toArray[j]:=by simp at h2; simp [h2]
 exact All2.at' h e1 e2
theorem eq_lists {prog:Program} {w:World} {A:Around} {E:Value→Shared→Prop} {s:Shared} {a b:Addr} {vs ws:List Value} {n m:Nat} {Q:Value→Shared→Prop} (ha:s.heap.get? a=some (listO vs n)) (hb:s.heap.get? b=some (listO ws m)) (h:All2 (DeepEq2 s) vs ws) (hu:A.units + 30<cLine) (hQ:Q (.bool true) s) :
   wpAny (model prog w) A (compareOp .Eq (.ref a) (.ref b)) Q E s:=by
 have hsz:vs.toArray.size=ws.toArray.size:=by simpa using All2.len' h
 refine SeqAt.eq_listAt (items:=vs.toArray) (items2:=ws.toArray) (e:=fun _=>true) ⟨_,ha,rfl,n,rfl⟩ ⟨_,hb,rfl,m,rfl⟩ hsz (by omega) (fun j h1 h2=>All2.toArr h j h1 h2 _ (by rw [units_in1]; omega)) ?_
 have:((List.range vs.toArray.size).all fun _=>true)=true:=by simp
 rw [this]
 exact hQ
end
section
set_option maxHeartbeats 1000000
theorem along_pre (ρ₁ A:List Addr):Along ρ₁ (ρ₁++A) id ρ₁.length:=fun i a hi h=>by
 rw [show id i=i from rfl,List.getElem?_append_left hi] at h; exact h
theorem HS.lay {x:Cx} {ρ:List Addr} {lo:List (Str × AV)} {lx rest:List AO} {ob:List Nat} {h:Heap} (H:HS x ρ ⟨lo,lx++rest,ob⟩ h) (hk:∀ t∈lx,okO lx.length t=true) :
   ∃ ρ₁ A os',ρ=ρ₁++A∧ρ₁.length=lx.length∧A.length=rest.length∧ORs ρ rest os'∧∀ lo',(∀ y a,look y lo'=some a→(look y lo=some a∧okV lx.length a=true) ∨ ∃ j ad,look y lo=some (.obj (lx.length + j))∧A[j]?=some ad∧a=.top ad) →
     HS (x.fzd (A.zip os'++x.fz)) ρ₁ ⟨lo',lx,[]⟩ h:=by
 obtain ⟨m,os,F,HP,lr⟩:=H
 have hln:ρ.length=lx.length + rest.length:=by have:=HP.ln; rw [this]; exact List.length_append
 have hor:=HP.or
 obtain ⟨os₁,os',rfl,h1,h2⟩:=All2.split hor
 refine ⟨ρ.take lx.length,ρ.drop lx.length,os',(List.take_append_drop _ _).symm,by rw [List.length_take]; omega,by rw [List.length_drop]; omega,h2,fun lo' hlo=>?_⟩
 have hl1:(ρ.take lx.length).length=lx.length:=by rw [List.length_take]; omega
 have ho1:os₁.length=lx.length:=(All2.len' h1).symm
 have ez:ρ.zip (os₁++os')=(ρ.take lx.length).zip os₁++(ρ.drop lx.length).zip os':=by
   conv=>lhs; rw [← List.take_append_drop lx.length ρ]
   rw [List.zip_append (by rw [hl1,ho1])]
 have nd:=HP.nd
 rw [← List.take_append_drop lx.length ρ,List.nodup_append] at nd
 have al:Along (ρ.take lx.length) ρ id lx.length:=by
   have:=along_pre (ρ.take lx.length) (ρ.drop lx.length)
   rw [List.take_append_drop,hl1] at this
   exact this
 refine ⟨m,os₁,F,⟨fun p hp=>?_,nd.1,fun p hp hm=>?_,hl1,?_⟩,fun y a hy=>?_⟩
 · refine HP.nw p ?_
   rw [ez,List.append_assoc]
   exact hp
 · rcases List.mem_append.mp hp with q | q
   · exact nd.2.2 _ hm _ (List.of_mem_zip q).1 rfl
   · exact HP.dj p q (List.mem_of_mem_take hm)
 · exact All2.mem h1 fun t ht o ho=>OR.sel al (hk t ht) (by rw [rnO_id]; exact ho)
 · rcases hlo y a hy with ⟨h3,h4⟩ | ⟨j,ad,h3,h4,rfl⟩
   · obtain ⟨v,h5,h6⟩:=lr y a h3
     exact ⟨v,h5,VR.sel al h4 (by rw [rnV_id]; exact h6)⟩
   · obtain ⟨v,h5,a',h6,rfl⟩:=lr y _ h3
     refine ⟨_,h5,?_⟩
     rw [List.getElem?_drop] at h4
     cases h6.symm.trans h4
     rfl
noncomputable def tokI (p:Int × List Nat):Itm:=.tok p.1 ⟨⟨p.2⟩⟩
noncomputable def endI (n:Int):Te→List Itm
 | .done=>[]
 | .open_ tok=>[.msg n msgQ ⟨⟨tok⟩⟩]
theorem refs_items (pre:List AO) (d:List (Int × List Nat)) (post:List AO) (hp:pre.length=10):All2 (ItA (pre++(TL d++post))) (refsV 10 d.length) (d.map tokI):=by
 refine All2.ofGet (by simp [refsV]) fun i a v e1 e2=>?_
 have hi:i<d.length:=by have:=(List.getElem?_eq_some_iff.mp e2).1; simpa using this
 unfold refsV at e1
 rw [List.getElem?_map,List.getElem?_range hi] at e1
 cases e1
 rw [List.getElem?_map,List.getElem?_eq_getElem hi] at e2
 cases e2
 refine ⟨10 + i,rfl,?_⟩
 rw [List.getElem?_append_right (by omega),hp,Nat.add_sub_cancel_left,List.getElem?_append_left (by simp [TL]; exact hi)]
 unfold TL
 rw [List.getElem?_map,List.getElem?_eq_getElem hi]
 rfl
noncomputable def tdRefs (l:List (Int × List Nat)):Te→List AV
 | .done=>refsV 10 l.length
 | .open_ _=>refsV 10 l.length++[.obj (l.length + 11)]
noncomputable def tdTail (l:List (Int × List Nat)) (n:Int):Te→List AO
 | .done=>TL l
 | .open_ tok=>TL l++[.list [.str msgQ,.str ⟨⟨tok⟩⟩],.tup [.int n,.obj (l.length + 10)]]
theorem tdEnd_eq (A B:AO) (l:List (Int × List Nat)) (n:Int) (e:Te):tdEnd A B l n e=A::B::.list (tdRefs l e)::tdTail l n e:=by cases e <;> rfl
theorem told_items (lx:List AO) (hl:lx.length=7) (ln:Int) (y:Str) (l:List (Int × List Nat)) (n:Int) (e:Te) (z:AO) :
   All2 (ItA (lx++(tdTup ln y::.list [.obj 7]::.list (tdRefs l e)::tdTail l n e)++[z])) ([.obj 7]++tdRefs l e) (.tok ln y::(l.map tokI++endI n e)):=by
 refine .cons ⟨7,rfl,?_⟩ ?_
 · rw [List.append_assoc,List.getElem?_append_right (by omega),hl]; rfl
 · have e0:lx++(tdTup ln y::.list [.obj 7]::.list (tdRefs l e)::tdTail l n e)++[z]=(lx++[tdTup ln y,.list [.obj 7],.list (tdRefs l e)])++(tdTail l n e++[z]):=by simp
   have hp:(lx++[tdTup ln y,.list [.obj 7],.list (tdRefs l e)]).length=10:=by simp [hl]
   rw [e0]
   generalize lx++[tdTup ln y,.list [.obj 7],.list (tdRefs l e)]=pre at hp
   cases e with
   | done =>
     rw [show l.map tokI++endI n .done=l.map tokI from List.append_nil _]
     exact refs_items pre l [z] hp
   | open_ tok =>
     show All2 _ (refsV 10 l.length++[.obj (l.length + 11)]) (l.map tokI++[.msg n msgQ ⟨⟨tok⟩⟩])
     have e1:tdTail l n (.open_ tok)++[z]=TL l++([.list [.str msgQ,.str ⟨⟨tok⟩⟩],.tup [.int n,.obj (l.length + 10)]]++[z]):=by
       unfold tdTail; rw [List.append_assoc]
     rw [e1]
     have hT:(TL l).length=l.length:=by simp [TL]
     refine All2.app (refs_items pre l _ hp) (.cons ⟨l.length + 11,l.length + 10,rfl,?_,?_⟩ .nil)
     · rw [List.getElem?_append_right (by omega),hp,List.getElem?_append_right (by omega),hT]
       have:l.length + 11 - 10 - l.length=1:=by omega
       rw [this]; rfl
     · rw [List.getElem?_append_right (by omega),hp,List.getElem?_append_right (by omega),hT]
       have:l.length + 10 - 10 - l.length=0:=by omega
       rw [this]; rfl
end
section
set_option maxHeartbeats 1000000
noncomputable def s5L (P:Params):Stmt:=nthS (bLaw P) 5
noncomputable def reE (e:Stmt):Expr:=nthX (sE e) 0
noncomputable def reP (e:Stmt):Pos:=e.pos
noncomputable def cpL (e:Expr):Expr:=nthX (kE e) 0
noncomputable def cpQ (e:Expr):Pos:=(nthX (kE e) 1).pos
noncomputable def cpP (e:Expr):Pos:=e.pos
noncomputable def boL (e:Expr):Expr:=nthX (kE e) 0
noncomputable def boR (e:Expr):Expr:=nthX (kE e) 1
noncomputable def boP (e:Expr):Pos:=e.pos
noncomputable def eC5 (P:Params):Expr:=reE (s5L P)
noncomputable def eB5 (P:Params):Expr:=cpL (eC5 P)
noncomputable def eT5 (P:Params):Expr:=boR (eB5 P)
noncomputable def naQ2 (e:Expr):Pos:=(clA e).pos
theorem s5_eq (P:Params):(bLaw P).drop 5=[.Return (some (.Compare (.BinOp (boL (eB5 P)) .Add (.Call (.Name (S "_law_told") (naQ (eT5 P))) [.Name (S "lexer") (naQ2 (eT5 P))] [] (naP (eT5 P))) (boP (eB5 P))) [.Eq] [.Name (S "due") (cpQ (eC5 P))] (cpP (eC5 P)))) (reP (s5L P))]:=by kernel_rfl
noncomputable def lo5 (sa:Nat) (y:Str) (aD:Nat):List (Str × AV):=[(S "script",.top sa),(S "lexer",.obj 1),(S "first",.str y),(S "due",.top aD)]
section
variable (P:Params) (sa aD:Nat) (y tk:Str) (st:Ls) (ln:Int) (dn rest:List Nat) (pb:Option Nat) (post:List AO) (ob:List Nat)
theorem l5_L:(Jx (T1 P) 74).ev (sLaw P) (boL (eB5 P)) ⟨lo5 sa y aD,lexH st tk ln dn rest pb [],ob⟩=.ok (.obj 8) ⟨lo5 sa y aD,lexH st tk ln dn rest pb [tdTup ln y,.list [.obj 7]],ob⟩:=by kernel_rfl
theorem l5_told (hp:List AO):(Jx (T1 P) 74).ev (sLaw P) (.Name (S "_law_told") (naQ (eT5 P))) ⟨lo5 sa y aD,hp,ob⟩=.ok (.top 959) ⟨lo5 sa y aD,hp,ob⟩:=by kernel_rfl
theorem l5_lex (hp:List AO):(Jx (T1 P) 74).ev (sLaw P) (.Name (S "lexer") (naQ2 (eT5 P))) ⟨lo5 sa y aD,hp,ob⟩=.ok (.obj 1) ⟨lo5 sa y aD,hp,ob⟩:=by kernel_rfl
theorem l5_due (hp:List AO):(Jx (T1 P) 74).ev (sLaw P) (.Name (S "due") (cpQ (eC5 P))) ⟨lo5 sa y aD,hp,ob⟩=.ok (.top aD) ⟨lo5 sa y aD,hp,ob⟩:=by kernel_rfl
theorem l5_bin (lo:List (Str × AV)) (a0 a1 a2 a3 a4 a5 a6 A:AO) (xs ys:List AV) (tl:List AO):(T1 P).bin .Add (.obj 8) (.obj 9) ⟨lo,[a0,a1,a2,a3,a4,a5,a6]++(A::.list xs::.list ys::tl),ob⟩=some (.ok (.obj ([a0,a1,a2,a3,a4,a5,a6]++(A::.list xs::.list ys::tl)).length) ⟨lo,([a0,a1,a2,a3,a4,a5,a6]++(A::.list xs::.list ys::tl))++[.list (xs++ys)],addOb (xs.length + ys.length) ob⟩):=by kernel_rfl
end
theorem keep959 (P:Params):keepIn (KP P) (.ref 959)=true:=by kernel_rfl
theorem cons_of {α:Type} {l:List α} {n:Nat} (h:l.length=n + 1):∃ a r,l=a::r∧r.length=n:=by
 cases l with
 | nil=>cases h
 | cons a r=>exact ⟨a,r,rfl,by simpa using h⟩
theorem seven {lx:List AO} (h:lx.length=7):∃ a0 a1 a2 a3 a4 a5 a6,lx=[a0,a1,a2,a3,a4,a5,a6]:=by
 obtain ⟨a0,r0,rfl,h0⟩:=cons_of (n:=6) h
 obtain ⟨a1,r1,rfl,h1⟩:=cons_of (n:=5) h0
 obtain ⟨a2,r2,rfl,h2⟩:=cons_of (n:=4) h1
 obtain ⟨a3,r3,rfl,h3⟩:=cons_of (n:=3) h2
 obtain ⟨a4,r4,rfl,h4⟩:=cons_of (n:=2) h3
 obtain ⟨a5,r5,rfl,h5⟩:=cons_of (n:=1) h4
 obtain ⟨a6,r6,rfl,h6⟩:=cons_of (n:=0) h5
 have:r6=[]:=List.length_eq_zero_iff.mp h6
 subst this
 exact ⟨a0,a1,a2,a3,a4,a5,a6,rfl⟩
theorem All2.both {α β γ:Type} {R:α→β→Prop} {R':γ→β→Prop} {Q:α→γ→Prop} (h:∀ a c b,R a b→R' c b→Q a c) {as:List α} {bs:List β} {cs:List γ} (r:All2 R as bs) (k:All2 R' cs bs):All2 Q as cs :=
 All2.ofGet (r.len.trans k.len.symm) fun _ _ _ e1 e2=>by
   obtain ⟨b,e3,r'⟩:=r.get e1
   exact h _ _ _ r' (All2.at' k e2 e3)
theorem All2.chain {α β γ:Type} {R:α→β→Prop} {R':α→γ→Prop} {Q:γ→β→Prop} (h:∀ a b c,R a b→R' a c→Q c b) {as:List α} {bs:List β} {cs:List γ} (r:All2 R as bs) (k:All2 R' as cs):All2 Q cs bs :=
 All2.ofGet (k.len.symm.trans r.len) fun i _ _ e1 e2=>by
   have e3:=List.getElem?_eq_getElem (l:=as) (i:=i) (by rw [r.len]; exact (List.getElem?_eq_some_iff.mp e2).1)
   exact h _ _ _ (All2.at' r e3 e2) (All2.at' k e3 e1)
section
variable {g:Gl} {P:Params}
theorem last_line (hK:g.K=KP P) (hs:101≤g.sl) {x:Cx} (o:CxOk g x 76) (hcv:x.cv=none) (hcl:x.cl=[]) (hout:x.outer=[]) (hsc:x.scope.names=sLaw P) (XB:g.K.In x.base) (TB:Top g.p g.loose g.mean g.mg g.mb x.base)
   {ρ:List Addr} {s:Shared} {sa aD:Nat} {y:Str} {ln:Int} {dn rest:List Nat} {pb:Option Nat} {l:List (Int × List Nat)} {n:Int} {e:Te} (T:Ts ln dn rest pb l n e) (hin:∀ c∈rest,c∈signs) (hpb:∀ c,pb=some c→c∈signs) (hl:rest.length<999) (hll:l.length≤4000)
   (H:HS x ρ ⟨lo5 sa y aD,lexH .sp lexE ln dn rest pb [],[]⟩ s.heap) {ws:List Value} {nD:Nat} (hD:(aD,listO ws nD)∈x.fz) (hW:All2 (ItIn x.fz) ws (.tok ln y::(l.map tokI++endI n e))) {Q:Flow→Shared→Prop}
   (hQ:∀ s',Same s s'→(∀ b o,x.h₀.get? b=some o→s'.heap.get? b=some o)→Q (.ret (.bool true)) s'):wpAny (model g.prog g.w) x.A (execs ((bLaw P).drop 5) x.env) Q EF s:=by
 have ok:=ok1 (g:=g) hK hs
 rw [s5_eq]
 refine wpAny_execs_cons (wpAny_Return_some (wpAny_Compare1 (wpAny_BinOp ?_)))
 refine evJ ok (o.to (by omega)) hcv hsc (l5_L P sa aD y lexE .sp ln dn rest pb []) Sz.nil H fun ρ₁ s₁ v₁ p₁ H₁ S₁ r₁=>?_
 show wpAny _ _ (eval (.Name (S "_law_told") _) x.env >>= fun f=>callWith _ f [] _ _) _ _ _
 refine wpAny_bind (evJ ok (o.to (by omega)) hcv hsc (l5_told P sa aD y [] _) Sz.nil H₁ fun ρ₂ s₂ v₂ p₂ H₂ S₂ r₂=>?_)
 cases r₂
 refine callWith_of (P:=g.K.In) (by rfl) (keeps_K (by rw [hK]; exact keep959 P)) ?_
 rw [(noStar_cons (e:=.Name (S "lexer") _) (r:=[]) (env:=x.env) (by rfl)).1]
 refine Calls.evalArgs_plain (Calls.spliced_cons (evJ ok (o.to (by omega)) hcv hsc (l5_lex P sa aD y [] _) Sz.nil H₂ fun ρ₃ s₃ v₃ p₃ H₃ S₃ r₃=>Calls.spliced_nil ?_))
 obtain ⟨m₃,H₃m⟩:=H₃.m
 obtain ⟨os₃,F₃,HP₃,l₃⟩:=id H₃m
 refine ⟨o.X.keeps F₃.keep,?_⟩
 refine wpAny_call (codeAny_mono (told_call (A':=x.A) (Q:=fun v s'=>∃ ρ₄ hp₄ ob₄,ρ₃ <+: ρ₄∧TdOut (tdTup ln y) (.list [.obj 7]) l n e hp₄∧HS x ρ₄ ⟨lo5 sa y aD,hp₄,ob₄⟩ s'.heap∧Same s₃ s'∧VR ρ₄ (.obj 9) v) hK hs (o.to (by omega)) hcv hcl hout XB TB (Around.frames_deeper o.B.stack) o.hh (by have:=o.dp; omega) (by have:=o.un; omega) T hin hpb hl hll Sz.nil H₃m rfl (.cons r₃ .nil) fun ρ₄ s₄ v₄ hp₄ ob₄ p₄ TO H₄ S₄ r₄=>⟨ρ₄,hp₄,ob₄,p₄,TO,H₄.hs,S₄,r₄⟩) fun r s₄ hr=>?_)
 obtain ⟨v₄,rfl,ρ₄,hp₄,ob₄,p₄,TO,H₄,S₄,r₄⟩:=RQ_to hr
 dsimp only
 obtain ⟨lx,hlx,rfl⟩:=TO
 rw [tdEnd_eq] at H₄
 have items:=told_items lx hlx ln y l n e (.list ([.obj 7]++tdRefs l e))
 obtain ⟨a0,a1,a2,a3,a4,a5,a6,rfl⟩:=seven hlx
 have hb:=l5_bin P ob₄ (lo5 sa y aD) a0 a1 a2 a3 a4 a5 a6 (tdTup ln y) [.obj 7] (tdRefs l e) (tdTail l n e)
 have hrl:(tdRefs l e).length≤l.length + 1:=by cases e <;> simp [tdRefs,refsV]
 have H₄':HS x ρ₄ ⟨lo5 sa y aD,[a0,a1,a2,a3,a4,a5,a6]++(tdTup ln y::.list [.obj 7]::.list (tdRefs l e)::tdTail l n e),[]⟩ s₄.heap:=⟨H₄.ex⟩
 have hb:=l5_bin P [] (lo5 sa y aD) a0 a1 a2 a3 a4 a5 a6 (tdTup ln y) [.obj 7] (tdRefs l e) (tdTail l n e)
 have r₁':=(r₁.mono ((p₂.trans p₃).trans p₄))
 refine ((ok.bin .Add _ _ _).use hb).2 x (o.to (by omega)) (Sz.add (by rw [sizeLine_eq]; show 1 + _≤_; omega) Sz.nil) ρ₄ s₄ v₁ v₄ _ H₄' r₁' r₄ fun ρ₅ s₅ v₅ p₅ H₅ S₅ r₅=>?_
 have H₅:HS x ρ₅ ⟨lo5 sa y aD,([a0,a1,a2,a3,a4,a5,a6]++(tdTup ln y::.list [.obj 7]::.list (tdRefs l e)::tdTail l n e))++[.list ([.obj 7]++tdRefs l e)],[]⟩ s₅.heap:=⟨H₅.ex⟩
 refine evJ ok (o.to (by omega)) hcv hsc (l5_due P sa aD y [] _) Sz.nil H₅ fun ρ₆ s₆ v₆ p₆ H₆ S₆ r₆=>?_
 cases r₆
 obtain ⟨aN,hN,rfl⟩:=r₅.mono p₆
 obtain ⟨m₆,os₆,F₆,HP₆,l₆⟩:=H₆
 obtain ⟨aN',oN,g1,g2,gr,gm⟩:=HP₆.get (i:=([a0,a1,a2,a3,a4,a5,a6]++(tdTup ln y::.list [.obj 7]::.list (tdRefs l e)::tdTail l n e)).length) (ao:=.list ([.obj 7]++tdRefs l e)) (by simp)
 cases hN.symm.trans g1
 obtain ⟨vs,nN,rfl,hvs⟩:=gr
 have n1:∀ p∈ρ₆.zip os₆,s₆.heap.get? p.1=some p.2:=fun p hp=>(HP₆.nw p (List.mem_append_left _ hp)).1
 have n2:∀ p∈x.fz,s₆.heap.get? p.1=some p.2:=fun p hp=>(HP₆.nw p (List.mem_append_right _ hp)).1
 have hV:All2 (ItIn (ρ₆.zip os₆)) vs (.tok ln y::(l.map tokI++endI n e)):=All2.chain (Q:=ItIn (ρ₆.zip os₆)) (R:=ItA ([a0,a1,a2,a3,a4,a5,a6]++(tdTup ln y::.list [.obj 7]::.list (tdRefs l e)::tdTail l n e)++[.list ([.obj 7]++tdRefs l e)])) (R':=VR ρ₆) (fun a b c hi hv=>ItA.inn HP₆.or hv hi) items hvs
 refine eq_lists (HP₆.nw _ gm).1 (n2 _ hD) (All2.both (R:=ItIn (ρ₆.zip os₆)) (R':=ItIn x.fz) (Q:=DeepEq2 s₆) (fun a c b h1 h2=>ItIn.eq n1 n2 h1 h2) hV hW) (by have:=o.un; omega) ?_
 exact hQ s₆ ((((((S₁.trans S₂).trans S₃).trans S₄).trans S₅).trans S₆)) F₆.keep
end
end
section
set_option maxHeartbeats 400000
noncomputable def isR (c:Nat):Bool:=clIn c [114,119,120,115,83,116,84]
noncomputable def inW (c:Nat):Bool:=match clOf c with | .ws=>false | .ot=>false | _=>true
noncomputable def stR:Bool→Ls
 | true=>.pn
 | false=>.wd
noncomputable def splitR (b:Bool) (acc:List Nat):List Nat→List (List Nat)
 | []=>[acc]
 | c::r=>match isR c==b with
   | true=>splitR b (acc++[c]) r
   | false=>acc::splitR (isR c) [c] r
noncomputable def splitW:List Nat→List (List Nat)
 | []=>[]
 | c::r=>splitR (isR c) [c] r
noncomputable def endB (b:Bool):List Nat→Bool
 | []=>b
 | c::r=>endB (isR c) r
noncomputable def endT (b:Bool) (acc:List Nat):List Nat→List Nat
 | []=>acc
 | c::r=>match isR c==b with
   | true=>endT b (acc++[c]) r
   | false=>endT (isR c) [c] r
noncomputable def okM (b:Bool):List Nat→Bool
 | []=>true
 | c::r=>!(b&&Nat.beq c 34)&&okM (isR c) r
theorem splitR_c {b:Bool} {acc:List Nat} {c:Nat} {r:List Nat}:splitR b acc (c::r)=(match isR c==b with | true=>splitR b (acc++[c]) r | false=>acc::splitR (isR c) [c] r):=rfl
theorem endT_c {b:Bool} {acc:List Nat} {c:Nat} {r:List Nat}:endT b acc (c::r)=(match isR c==b with | true=>endT b (acc++[c]) r | false=>endT (isR c) [c] r):=rfl
theorem cl_cases {c:Nat} (h:inW c=true):(isR c=true∧clOf c=.pn) ∨ (isR c=false∧(clOf c=.wd ∨ (clOf c=.qt∧c=34))):=by
 unfold inW at h
 unfold isR
 unfold clOf at h ⊢
 cases h1:clIn c [32,13,10] with
 | true=>simp only [h1] at h; cases h
 | false =>
   simp only [h1] at h ⊢
   cases h2:clIn c [114,119,120,115,83,116,84] with
   | true=>exact .inl ⟨rfl,rfl⟩
   | false =>
     simp only [h2] at h ⊢
     right
     refine ⟨trivial,?_⟩
     cases h3:Nat.beq c 34 with
     | true=>exact .inr ⟨rfl,Nat.eq_of_beq_eq_true h3⟩
     | false =>
       simp only [h3] at h ⊢
       cases h4:Nat.beq c 58 with
       | true=>simp only [h4] at h; cases h
       | false=>exact .inl rfl
noncomputable def Tk (o:Option Rt) (l:List (Int × List Nat)) (n:Int) (e:Te):Prop :=
 ∃ t ts ln' dn' rest' pb' l',o=some ⟨.sp,t::ts,ln',dn',rest',pb'⟩∧l=(ln',t::ts)::l'∧Ts ln' dn' rest' pb' l' n e
noncomputable def TsA (ln:Int) (rest:List Nat) (pb:Option Nat) (l:List (Int × List Nat)) (n:Int) (e:Te):Prop:=∀ dn,Ts ln dn rest pb l n e
noncomputable def RunA (st:Ls) (tok:List Nat) (ln:Int) (rest:List Nat) (l:List (Int × List Nat)) (n:Int) (e:Te):Prop:=∀ dn,Tk (runS st tok ln dn rest) l n e
theorem Tk.ts {ln:Int} {dn rest:List Nat} {pb:Option Nat} {l:List (Int × List Nat)} {n:Int} {e:Te} (h:Tk (rtok ln dn rest pb) l n e):Ts ln dn rest pb l n e:=by
 obtain ⟨t,ts,ln',dn',rest',pb',l',h1,rfl,h2⟩:=h
 exact .tok h1 h2
section
variable {ln:Int} {r:List Nat} {l:List (Int × List Nat)} {n:Int} {e:Te}
theorem run_stop {st:Ls} {acc:List Nat} {c:Nat} {pb:Option Nat} {ln':Int} (ha:acc ≠ []) (h:∀ dn,runS st acc ln dn (c::r)=some ⟨.sp,acc,ln',dn++[c],r,pb⟩) (T:TsA ln' r pb l n e):RunA st acc ln (c::r) ((ln',acc)::l) n e:=by
 intro dn
 obtain ⟨t,ts,rfl⟩:∃ t ts,acc=t::ts:=by cases acc with | nil=>exact absurd rfl ha | cons a b=>exact ⟨a,b,rfl⟩
 exact ⟨t,ts,ln',dn++[c],r,pb,l,h dn,rfl,T _⟩
theorem run_same {b:Bool} {acc:List Nat} {c:Nat} (hc:inW c=true) (hb:isR c=b) (h:RunA (stR b) (acc++[c]) ln r l n e):RunA (stR b) acc ln (c::r) l n e:=by
 intro dn
 have:=h (dn++[c])
 rcases cl_cases hc with ⟨h1,h2⟩ | ⟨h1,h2⟩
 · rw [h1] at hb; subst hb
   have e:runS .pn acc ln dn (c::r)=runS .pn (acc++[c]) ln (dn++[c]) r:=by rw [runS_c]; simp only [h2]
   show Tk (runS .pn acc ln dn (c::r)) l n _
   rw [e]; exact this
 · rw [h1] at hb; subst hb
   have e:runS .wd acc ln dn (c::r)=runS .wd (acc++[c]) ln (dn++[c]) r:=by
     rw [runS_c]
     rcases h2 with h2 | ⟨h2,_⟩ <;> simp only [h2]
   show Tk (runS .wd acc ln dn (c::r)) l n _
   rw [e]; exact this
theorem run_turn {b:Bool} {acc:List Nat} {c:Nat} (ha:acc ≠ []) (hc:inW c=true) (hb:isR c=!b) (hq:(b&&Nat.beq c 34)=false) (h:RunA (stR (isR c)) [c] ln r l n e):RunA (stR b) acc ln (c::r) ((ln,acc)::l) n e:=by
 rcases cl_cases hc with ⟨h1,h2⟩ | ⟨h1,h2⟩
 · rw [h1] at hb h
   cases b with
   | true=>cases hb
   | false =>
     refine run_stop (pb:=some c) ha (fun dn=>by show runS .wd acc ln dn (c::r)=_; rw [runS_c]; simp only [h2]) fun dn=>Tk.ts ?_
     have e:rtok ln dn r (some c)=runS .pn [c] ln dn r:=by unfold rtok; simp only [h2]
     rw [e]; exact h dn
 · rw [h1] at hb h
   cases b with
   | false=>cases hb
   | true =>
     have h3:clOf c=.wd:=by
       rcases h2 with h2 | ⟨_,h2⟩
       · exact h2
       · rw [h2] at hq; cases hq
     refine run_stop (pb:=some c) ha (fun dn=>by show runS .pn acc ln dn (c::r)=_; rw [runS_c]; simp only [h3]) fun dn=>Tk.ts ?_
     have e:rtok ln dn r (some c)=runS .wd [c] ln dn r:=by unfold rtok; simp only [h3]
     rw [e]; exact h dn
theorem runs_all {tail:List Nat}:∀ (w:List Nat) (b:Bool) (acc:List Nat),acc ≠ []→(∀ c∈w,inW c=true)→okM b w=true→RunA (stR (endB b w)) (endT b acc w) ln tail ((ln,endT b acc w)::l) n e →
   RunA (stR b) acc ln (w++tail) ((splitR b acc w).map (fun t=>(ln,t))++l) n e
 | [],b,acc,_,_,_,h=>h
 | c::r,b,acc,ha,hin,hok,h=>by
   obtain ⟨hq,hok⟩:=Bool.and_eq_true_iff.mp hok
   have hq:(b&&Nat.beq c 34)=false:=by cases h1:(b&&Nat.beq c 34) with | true=>rw [h1] at hq; cases hq | false=>rfl
   have hc:=hin c (.head _)
   rw [show endB b (c::r)=endB (isR c) r from rfl,endT_c] at h
   rw [splitR_c]
   by_cases hb:isR c=b
   · have e:(isR c==b)=true:=by simpa using hb
     simp only [e] at h ⊢
     rw [hb] at h hok
     exact run_same hc hb (runs_all r b (acc++[c]) (by simp) (fun c h=>hin c (.tail _ h)) hok h)
   · have e:(isR c==b)=false:=by simpa using hb
     simp only [e] at h ⊢
     have hb':isR c=!b:=by cases h1:isR c <;> cases h2:b <;> simp_all
     exact run_turn ha hc hb' hq (runs_all r (isR c) [c] (by simp) (fun c h=>hin c (.tail _ h)) hok h)
theorem word_all {tail:List Nat} {c:Nat} {w:List Nat} (hin:∀ a∈c::w,inW a=true) (hc:c ≠ 34) (hok:okM (isR c) w=true) (h:RunA (stR (endB (isR c) w)) (endT (isR c) [c] w) ln tail ((ln,endT (isR c) [c] w)::l) n e) :
   TsA ln ((c::w)++tail) .none ((splitW (c::w)).map (fun t=>(ln,t))++l) n e:=by
 intro dn
 refine Tk.ts ?_
 have k:=runs_all w (isR c) [c] (by simp) (fun a h=>hin a (.tail _ h)) hok h (dn++[c])
 have e:rtok ln dn ((c::w)++tail) .none=runS (stR (isR c)) [c] ln (dn++[c]) (w++tail):=by
   unfold rtok
   rw [List.cons_append,runS_c]
   rcases cl_cases (hin c (.head _)) with ⟨h1,h2⟩ | ⟨h1,h2⟩
   · simp only [h1,h2,stR]
   · rcases h2 with h2 | ⟨_,h2⟩
     · simp only [h1,h2,stR]
     · exact absurd h2 hc
 rw [e]; exact k
theorem stop_colon {b:Bool} {acc:List Nat} (ha:acc ≠ []) (h:TsA ln r .none l n e):RunA (stR b) acc ln (58::r) ((ln,acc)::(ln,[58])::l) n e:=by
 refine run_stop (pb:=some 58) ha (fun dn=>by cases b <;> rfl) fun dn=>Tk.ts ?_
 exact ⟨58,[],ln,dn,r,.none,l,rfl,rfl,h dn⟩
theorem stop_cr {b:Bool} {acc:List Nat} (ha:acc ≠ []) (h:TsA ln r .none l n e):RunA (stR b) acc ln (13::r) ((ln,acc)::l) n e :=
 run_stop (pb:=.none) ha (fun dn=>by cases b <;> rfl) h
theorem stop_mark {acc:List Nat} (ha:acc ≠ []) (h:TsA ln r (some 34) l n e):RunA (stR true) acc ln (34::r) ((ln,acc)::l) n e :=
 run_stop (pb:=some 34) ha (fun dn=>rfl) h
theorem skip_ws {c:Nat} (hc:clOf c=.ws) (h:TsA (lnN c ln) r .none l n e):TsA ln (c::r) .none l n e:=by
 intro dn
 have k:=h (dn++[c])
 have e:rtok ln dn (c::r) .none=rtok (lnN c ln) (dn++[c]) r .none:=by
   unfold rtok
   show runS .sp [] ln dn (c::r)=runS .sp [] (lnN c ln) (dn++[c]) r
   rw [runS_c]
   simp only [hc]
 cases k with
 | done h1=>exact .done (e.trans h1)
 | tok h1 h2=>exact .tok (e.trans h1) h2
theorem runQ {tok:List Nat}:∀ (q:List Nat) (tok:List Nat) (ln:Int) (dn r:List Nat),(∀ c∈q,c∈signs∧c ≠ 34)→runS .qt tok ln dn (q++34::r)=some ⟨.sp,tok++q++[34],lnS ln q,dn++q++[34],r,.none⟩
 | [],tok,ln,dn,r,_=>by
   rw [List.nil_append,runS_c,List.append_nil,List.append_nil]
   rfl
 | c::q,tok,ln,dn,r,hin=>by
   obtain ⟨h1,h2⟩:=hin c (.head _)
   have hn:=not_qt h1 h2
   have e:runS .qt tok ln dn (c::(q++34::r))=runS .qt (tok++[c]) (lnN c ln) (dn++[c]) (q++34::r):=by
     rw [runS_c]
     cases hcl:clOf c with
     | qt=>exact absurd hcl hn
     | _=>rfl
   rw [List.cons_append,e,runQ (tok:=tok) q _ _ _ _ fun c h=>hin c (.tail _ h)]
   simp [lnS]
theorem quote_all {q:List Nat} (hin:∀ c∈q,c∈signs∧c ≠ 34) (h:TsA (lnS ln q) r .none l n e):TsA ln (q++34::r) (some 34) ((lnS ln q,34::(q++[34]))::l) n e:=by
 intro dn
 refine Tk.ts ?_
 have e:rtok ln dn (q++34::r) (some 34)=some ⟨.sp,34::(q++[34]),lnS ln q,dn++q++[34],r,.none⟩:=by
   show runS .qt [34] ln dn (q++34::r)=_
   rw [runQ (tok:=[34]) q _ _ _ _ hin]
   rfl
 exact ⟨34,q++[34],_,_,_,_,l,e,rfl,h _⟩
theorem text_end:∀ (r:List Nat) (ln:Int),(∀ c∈r,clOf c=.ws)→TsA ln r .none [] (lnS ln r) .done
 | [],ln,_=>fun dn=>.done (dn':=dn) rfl
 | c::r,ln,h=>skip_ws (h c (.head _)) (text_end r (lnN c ln) fun c hc=>h c (.tail _ hc))
theorem text_bad (h:∀ c∈r,c ≠ 34):TsA ln r (some 34) [] (lnS ln r) (.open_ (34::r)):=fun _=>.bad h
end
end
section
set_option maxHeartbeats 400000
noncomputable def strN (t:List Nat):Str:=⟨⟨t⟩⟩
noncomputable def bL (l:List Nat):Nat→Bool
 | 0=>true
 | i + 1=>!(isR (l.getD (i + 1) 0)==isR (l.getD i 0))
noncomputable def sl (l:List Nat):List Nat→List (List Nat)
 | []=>[]
 | a::r=>(match r with | []=>l.drop a | b::_=>(l.drop a).take (b - a))::sl l r
theorem sl_c {l:List Nat} {a:Nat} {r:List Nat}:sl l (a::r)=(match r with | []=>l.drop a | b::_=>(l.drop a).take (b - a))::sl l r:=rfl
noncomputable def addLast (c:Nat):List (List Nat)→List (List Nat)
 | []=>[]
 | a::r=>match r with | []=>[a++[c]] | _::_=>a::addLast c r
noncomputable def cutsOf (l:List Nat):List Nat:=(List.range l.length).filter (bL l)
theorem any_clIn (c:Nat):∀ l:List Nat,l.any (Nat.beq c)=clIn c l
 | []=>rfl
 | a::r=>by
   rw [List.any_cons,any_clIn c r]
   show (Nat.beq c a || clIn c r)=(match Nat.beq a c with | true=>true | false=>clIn c r)
   have e:Nat.beq a c=Nat.beq c a:=by
     cases h:Nat.beq c a with
     | true=>rw [Nat.eq_of_beq_eq_true h,Nat.beq_refl]
     | false =>
       cases h2:Nat.beq a c with
       | true=>rw [Nat.eq_of_beq_eq_true h2,Nat.beq_refl] at h; cases h
       | false=>rfl
   rw [e]
   cases Nat.beq c a <;> simp
theorem charAt_nat (l:List Nat) (i:Nat) (h:i<l.length):(Txt.charAt (strN l) (Int.ofNat i)).getD 0=l.getD i 0:=by
 unfold Txt.charAt seqIndex? strN
 have h1:¬ (Int.ofNat i<0):=by simp
 simp only [h1,if_false]
 have hl:(⟨⟨l⟩⟩:Str).length=l.length:=by simp [Str.length]
 rw [hl]
 have h2:(0≤Int.ofNat i&&decide (Int.ofNat i<(l.length:Int)))=true:=by simp; omega
 simp [h2,h]
theorem inR_nat (l:List Nat) (i:Nat) (h:i<l.length):inR (strN l) (Int.ofNat i)=isR (l.getD i 0):=by
 unfold inR
 rw [charAt_nat l i h]
 exact any_clIn _ _
theorem bC_nat (l:List Nat):∀ i,i<l.length→bC (strN l) i=bL l i
 | 0,_=>rfl
 | i + 1,h=>by
   have e:Int.ofNat (i + 1) - 1=Int.ofNat i:=by simp
   show (!(inR (strN l) (Int.ofNat (i + 1))==inR (strN l) (Int.ofNat (i + 1) - 1)))=!(isR (l.getD (i + 1) 0)==isR (l.getD i 0))
   rw [e,inR_nat l _ h,inR_nat l i (by omega)]
theorem cutsN_nat (l:List Nat):cutsN (strN l) (strN l).length=cutsOf l:=by
 have hl:(strN l).length=l.length:=by simp [strN,Str.length]
 unfold cutsN cutsOf
 rw [hl]
 refine List.filter_congr fun i hi=>bC_nat l i (by simpa using hi)
theorem pieceN_nat (l:List Nat):∀ (cs:List Nat),cs.Pairwise (·<·)→(∀ a∈cs,a<l.length)→(List.range cs.length).map (pieceN (strN l) cs)=(sl l cs).map strN
 | [],_,_=>rfl
 | a::r,hp,hl=>by
   have hlen:(strN l).length=l.length:=by simp [strN,Str.length]
   rw [List.length_cons,List.range_succ_eq_map,List.map_cons,List.map_map]
   rw [sl_c]
   rw [List.map_cons]
   obtain ⟨h1,h2⟩:=List.pairwise_cons.mp hp
   have ih:=pieceN_nat l r h2 fun b hb=>hl b (.tail _ hb)
   have ha:=hl a (.head _)
   congr 1
   · unfold pieceN dsN
     cases r with
     | nil =>
       show Txt.slice ⟨⟨l⟩⟩ (some (a:Int)) (some (((strN l).length:Nat):Int))=_
       rw [hlen,slice_nat l a l.length (by omega) (Nat.le_refl _)]
       have:(l.drop a).take (l.length - a)=l.drop a:=List.take_of_length_le (by simp)
       rw [this]; rfl
     | cons b r =>
       show Txt.slice ⟨⟨l⟩⟩ (some (a:Int)) (some (b:Int))=_
       have hab:=h1 b (.head _)
       rw [slice_nat l a b (by omega) (Nat.le_of_lt (hl b (.tail _ (.head _))))]
       rfl
   · rw [← ih]
     refine List.map_congr_left fun j hj=>?_
     have hj:j<r.length:=by simpa using hj
     show pieceN (strN l) (a::r) (j + 1)=pieceN (strN l) r j
     unfold pieceN dsN
     congr 2
     cases r with
     | nil=>simp at hj
     | cons b r=>simp
theorem pieces_sl (l:List Nat):pieces (strN l)=(sl l (cutsOf l)).map strN:=by
 unfold pieces
 rw [cutsN_nat]
 refine pieceN_nat l _ ?_ fun a ha=>?_
 · exact List.Pairwise.filter _ List.pairwise_lt_range
 · have:=(List.mem_filter.mp ha).1
   simpa using this
theorem sl_ne {l:List Nat}:∀ {cs:List Nat},cs ≠ []→sl l cs ≠ []
 | [],h=>absurd rfl h
 | _::_,_=>List.cons_ne_nil _ _
theorem sl_last (l:List Nat) (c:Nat):∀ cs:List Nat,(∀ a∈cs,a≤l.length)→sl (l++[c]) cs=addLast c (sl l cs)
 | [],_=>rfl
 | a::r,h=>by
   have ha:=h a (.head _)
   have ih:=sl_last l c r fun b hb=>h b (.tail _ hb)
   rw [sl_c,sl_c,ih]
   cases r with
   | nil =>
     show [(l++[c]).drop a]=[l.drop a++[c]]
     rw [List.drop_append_of_le_length ha]
   | cons b r =>
     have hb:=h b (.tail _ (.head _))
     obtain ⟨y,ys,hy⟩:∃ y ys,sl l (b::r)=y::ys:=by
       cases e:sl l (b::r) with
       | nil=>exact absurd e (sl_ne (by simp))
       | cons y ys=>exact ⟨y,ys,rfl⟩
     rw [hy]
     show ((l++[c]).drop a).take (b - a)::addLast c (y::ys)=(l.drop a).take (b - a)::addLast c (y::ys)
     rw [List.drop_append_of_le_length ha,List.take_append_of_le_length (by rw [List.length_drop]; omega)]
theorem sl_new (l:List Nat) (c:Nat):∀ cs:List Nat,cs ≠ []→cs.Pairwise (·<·)→(∀ a∈cs,a<l.length)→sl (l++[c]) (cs++[l.length])=sl l cs++[[c]]
 | [],h,_,_=>absurd rfl h
 | a::r,_,hp,h=>by
   have ha:=h a (.head _)
   rw [List.cons_append]
   cases r with
   | nil =>
     show ((l++[c]).drop a).take (l.length - a)::[(l++[c]).drop l.length]=[l.drop a]++[[c]]
     rw [List.drop_append_of_le_length (Nat.le_of_lt ha),List.take_append_of_le_length (by rw [List.length_drop]; omega),List.take_of_length_le (by rw [List.length_drop]; omega),List.drop_append_of_le_length (Nat.le_refl _),List.drop_length]
     rfl
   | cons b r =>
     have ih:=sl_new l c (b::r) (by simp) (List.pairwise_cons.mp hp).2 fun b hb=>h b (.tail _ hb)
     have hb:=h b (.tail _ (.head _))
     show ((l++[c]).drop a).take (b - a)::sl (l++[c]) (b::r++[l.length])=((l.drop a).take (b - a)::sl l (b::r))++[[c]]
     rw [ih,List.drop_append_of_le_length (Nat.le_of_lt ha),List.take_append_of_le_length (by rw [List.length_drop]; omega)]
     rfl
theorem splitR_ne:∀ (w:List Nat) (b:Bool) (acc:List Nat),splitR b acc w ≠ []
 | [],_,_=>List.cons_ne_nil _ _
 | c::r,b,acc=>by
   rw [splitR_c]
   split
   · exact splitR_ne r _ _
   · simp
theorem splitR_snoc (c:Nat):∀ (w:List Nat) (b:Bool) (acc:List Nat),splitR b acc (w++[c])=match isR c==endB b w with | true=>addLast c (splitR b acc w) | false=>splitR b acc w++[[c]]
 | [],b,acc=>by
   show (match isR c==b with | true=>_ | false=>_)=(match isR c==b with | true=>_ | false=>_)
   cases isR c==b <;> rfl
 | d::r,b,acc=>by
   rw [List.cons_append,splitR_c,splitR_c,show endB b (d::r)=endB (isR d) r from rfl]
   cases hd:isR d==b with
   | true =>
     have:=eq_of_beq hd
     rw [splitR_snoc c r b (acc++[d]),this]
   | false =>
     dsimp only
     rw [splitR_snoc c r (isR d) [d]]
     cases isR c==endB (isR d) r with
     | true =>
       obtain ⟨y,ys,hy⟩:∃ y ys,splitR (isR d) [d] r=y::ys:=by
         cases e:splitR (isR d) [d] r with
         | nil=>exact absurd e (splitR_ne _ _ _)
         | cons y ys=>exact ⟨y,ys,rfl⟩
       rw [hy]
       rfl
     | false=>rfl
theorem endB_get:∀ (w:List Nat) (c:Nat),endB (isR c) w=isR ((c::w).getD w.length 0)
 | [],c=>rfl
 | d::r,c=>by
   exact (endB_get r d).trans rfl
theorem cutsOf_snoc (c:Nat) (l:List Nat):cutsOf (l++[c])=cutsOf l++(match bL (l++[c]) l.length with | true=>[l.length] | false=>[]):=by
 unfold cutsOf
 rw [List.length_append,List.length_singleton,List.range_succ,List.filter_append]
 congr 1
 · refine List.filter_congr fun i hi=>?_
   have hi:i<l.length:=by simpa using hi
   cases i with
   | zero=>rfl
   | succ i =>
     unfold bL
     simp only [List.getD_eq_getElem?_getD]
     rw [List.getElem?_append_left hi,List.getElem?_append_left (by omega)]
theorem split_cuts:∀ (n:Nat) (l:List Nat),l.length=n→sl l (cutsOf l)=splitW l
 | 0,l,h=>by
   have:l=[]:=List.length_eq_zero_iff.mp h
   subst this; rfl
 | n + 1,l,h=>by
   obtain ⟨l',c,rfl⟩:∃ l' c,l=l'++[c]:=by
     have hne:l ≠ []:=by intro e; rw [e] at h; cases h
     exact ⟨l.dropLast,l.getLast hne,(List.dropLast_concat_getLast hne).symm⟩
   have hl:l'.length=n:=by simpa using h
   have ih:=split_cuts n l' hl
   cases l' with
   | nil=>rfl
   | cons d w =>
     rw [cutsOf_snoc]
     have hlt:∀ a∈cutsOf (d::w),a<(d::w).length:=fun a ha=>by
       have:=(List.mem_filter.mp ha).1
       simpa using this
     have hp:(cutsOf (d::w)).Pairwise (·<·):=List.Pairwise.filter _ List.pairwise_lt_range
     have hne:cutsOf (d::w) ≠ []:=by
       have:0∈cutsOf (d::w):=by
         unfold cutsOf
         rw [List.mem_filter]
         exact ⟨by simp,rfl⟩
       intro e; rw [e] at this; cases this
     have hb:bL (d::w++[c]) (d::w).length=!(isR c==endB (isR d) w):=by
       rw [endB_get]
       show (!(isR ((d::w++[c]).getD (w.length + 1) 0)==isR ((d::w++[c]).getD w.length 0)))=_
       congr 3
       · simp
       · simp only [List.getD_eq_getElem?_getD]
         rw [List.getElem?_append_left (by simp)]
     rw [hb]
     show _=splitR (isR d) [d] (w++[c])
     rw [splitR_snoc]
     have ih':splitR (isR d) [d] w=sl (d::w) (cutsOf (d::w)):=ih.symm
     rw [ih']
     cases isR c==endB (isR d) w with
     | true =>
       show sl (d::w++[c]) (cutsOf (d::w)++[])=_
       rw [List.append_nil]
       exact sl_last _ c _ fun a ha=>Nat.le_of_lt (hlt a ha)
     | false=>exact sl_new _ c _ hne hp hlt
theorem pieces_eq (l:List Nat):pieces (strN l)=(splitW l).map strN:=by
 rw [pieces_sl,split_cuts l.length l rfl]
end
section
set_option maxHeartbeats 400000
noncomputable def rowSigns:List Nat:=[63,112,99,100,98,45,108,115,114,119,120,83,116,84]
theorem itC_mem {s:String} {k:Nat} (h:k<(S s).cps.toList.length):itC s k∈(S s).cps.toList:=by
 unfold itC
 rw [List.getD,List.getElem?_eq_getElem h]
 exact List.getElem_mem h
theorem rowL_len (n:Nat):(rowL n).length=10:=by
 unfold rowL triL
 rfl
theorem rowL_signs {n:Nat} (h:n<65536):∀ c∈rowL n,c∈rowSigns:=by
 have key:∀ (s:String) (k:Nat),((S s).cps.toList.all fun c=>rowSigns.contains c)=true→k<(S s).cps.toList.length→itC s k∈rowSigns:=by
   intro s k h1 h2
   have:=List.all_eq_true.mp h1 _ (itC_mem h2)
   simpa using this
 have l1:(S kindS).cps.toList.length=16:=by decide +kernel
 have l2:(S "-r").cps.toList.length=2:=by decide +kernel
 have l3:(S "-w").cps.toList.length=2:=by decide +kernel
 have l4:(S "-xSs").cps.toList.length=4:=by decide +kernel
 have l5:(S "-xTt").cps.toList.length=4:=by decide +kernel
 have tri:∀ (run above:Nat) (last:String),((S last).cps.toList.all fun c=>rowSigns.contains c)=true→(S last).cps.toList.length=4→∀ c∈triL n run above last,c∈rowSigns:=by
   intro run above last h1 h2 c hc
   unfold triL at hc
   simp only [List.mem_cons,List.not_mem_nil,or_false] at hc
   rcases hc with rfl | rfl | rfl
   · exact key _ _ (by decide +kernel) (by rw [l2]; omega)
   · exact key _ _ (by decide +kernel) (by rw [l3]; omega)
   · exact key _ _ h1 (by rw [h2]; omega)
 intro c hc
 unfold rowL at hc
 rcases List.mem_cons.mp hc with rfl | hc
 · exact key _ _ (by decide +kernel) (by rw [l1]; omega)
 · rcases List.mem_append.mp hc with hc | hc
   · rcases List.mem_append.mp hc with hc | hc
     · exact tri _ _ _ (by decide +kernel) l4 c hc
     · exact tri _ _ _ (by decide +kernel) l4 c hc
   · exact tri _ _ _ (by decide +kernel) l5 c hc
end
section
set_option maxHeartbeats 400000
structure RowOk (l:List Nat):Prop where
 len:l.length=10
 sg:∀ c∈l,c∈rowSigns
 last:l.getD 9 0∈[45,120,84,116]
theorem rowL_ok {n:Nat} (h:n<65536):RowOk (rowL n):=by
 refine ⟨rowL_len n,rowL_signs h,?_⟩
 show itC "-xTt" (n / 512 % 2 * 2 + n / 1 % 2)∈_
 have l5:(S "-xTt").cps.toList.length=4:=by decide +kernel
 have:itC "-xTt" (n / 512 % 2 * 2 + n / 1 % 2)∈(S "-xTt").cps.toList:=itC_mem (by rw [l5]; omega)
 have key:((S "-xTt").cps.toList.all fun c=>[45,120,84,116].contains c)=true:=by decide +kernel
 have:=List.all_eq_true.mp key _ this
 simpa using this
noncomputable def qm:Bool→List Nat
 | true=>[]
 | false=>[34]
noncomputable def lastR (p:List Nat):Bool:=isR (p.getD 9 0)
noncomputable def wordsL (op:Bool) (c p:List Nat):List (List Nat):=match op with
 | true=>(34::13::10::(c++[58,32,109,61,34]))::splitW (p++qm (lastR p))
 | false=>(splitW c++[[58]])++splitW (109::61::34::(p++qm (lastR p)))
noncomputable def textF:List (List Nat × List Nat)→List Nat
 | []=>[13,10]
 | (c,p)::r=>c++58::32::109::61::34::(p++34::13::10::textF r)
noncomputable def toksF (op:Bool) (ln:Int):List (List Nat × List Nat)→List (Int × List Nat)
 | []=>[]
 | (c,p)::r=>(wordsL op c p).map (fun t=>(ln,t))++toksF (lastR p) (ln + 1) r
noncomputable def opF (op:Bool):List (List Nat × List Nat)→Bool
 | []=>op
 | (_,p)::r=>opF (lastR p) r
noncomputable def eF:Bool→Te
 | true=>.open_ [34,13,10,13,10]
 | false=>.done
noncomputable def Nx (op:Bool) (ln:Int) (text:List Nat) (l:List (Int × List Nat)) (n:Int) (e:Te):Prop:=match op with
 | true=>TsA (ln - 1) (13::10::text) (some 34) l n e
 | false=>TsA ln text .none l n e
theorem row_signs:∀ c∈rowSigns,c∈signs∧c ≠ 34∧inW c=true∧lnN c 0=0:=by
 have key:(rowSigns.all fun c=>signs.contains c&&!Nat.beq c 34&&inW c&&!Nat.beq c 10)=true:=by decide +kernel
 intro c hc
 have:=List.all_eq_true.mp key c hc
 simp only [Bool.and_eq_true] at this
 obtain ⟨⟨⟨h1,h2⟩,h3⟩,h4⟩:=this
 refine ⟨by simpa using h1,fun e=>?_,h3,?_⟩
 · rw [e] at h2; cases h2
 · unfold lnN
   cases h5:Nat.beq c 10 with
   | true=>rw [h5] at h4; cases h4
   | false=>rfl
theorem endT_ne:∀ (w:List Nat) (b:Bool) (acc:List Nat),acc ≠ []→endT b acc w ≠ []
 | [],_,_,h=>h
 | c::r,b,acc,h=>by
   rw [endT_c]
   split
   · exact endT_ne r _ _ (by simp)
   · exact endT_ne r _ _ (by simp)
theorem okM_of:∀ (w:List Nat) (b:Bool),(∀ c∈w,c ≠ 34)→okM b w=true
 | [],_,_=>rfl
 | c::r,b,h=>by
   rw [show okM b (c::r)=(!(b&&Nat.beq c 34)&&okM (isR c) r) from rfl,okM_of r _ fun c hc=>h c (.tail _ hc)]
   cases hq:Nat.beq c 34 with
   | true=>exact absurd (Nat.eq_of_beq_eq_true hq) (h c (.head _))
   | false=>cases b <;> rfl
theorem okM_snoc:∀ (w:List Nat) (b:Bool),okM b w=true→endB b w=false→okM b (w++[34])=true
 | [],b,_,h=>by
   have h:b=false:=h
   subst h
   rfl
 | c::r,b,h1,h2=>by
   obtain ⟨h3,h4⟩:=Bool.and_eq_true_iff.mp h1
   rw [List.cons_append,show okM b (c::(r++[34]))=(!(b&&Nat.beq c 34)&&okM (isR c) (r++[34])) from rfl,h3,okM_snoc r _ h4 h2]
   rfl
section
variable {ln:Int} {l:List (Int × List Nat)} {n:Int} {e:Te} {tail:List Nat}
theorem value_all {x:Nat} {w:List Nat} {o:Bool} (hin:∀ a∈x::w,inW a=true) (hx:x ≠ 34) (hok:okM (isR x) w=true) (ho:endB (isR x) w=o) (h:Nx o (ln + 1) tail l n e) :
   TsA ln ((x::w)++34::13::10::tail) .none ((splitW ((x::w)++qm o)).map (fun t=>(ln,t))++l) n e:=by
 cases o with
 | true =>
   have h:TsA (ln + 1 - 1) (13::10::tail) (some 34) l n e:=h
   rw [Int.add_sub_cancel] at h
   have e1:(x::w)++qm true=x::w:=List.append_nil _
   rw [e1]
   refine word_all hin hx hok ?_
   rw [ho]
   exact stop_mark (endT_ne w _ _ (by simp)) h
 | false =>
   have h:TsA (ln + 1) tail .none l n e:=h
   have e1:(x::w)++34::13::10::tail=(x::(w++[34]))++13::10::tail:=by simp
   rw [e1]
   refine word_all (w:=w++[34]) (fun a ha=>?_) hx (okM_snoc w _ hok ho) (stop_cr (endT_ne _ _ _ (by simp)) (skip_ws rfl h))
   rcases List.mem_cons.mp ha with rfl | ha
   · exact hin _ (.head _)
   · rcases List.mem_append.mp ha with ha | ha
     · exact hin a (.tail _ ha)
     · have:a=34:=by simpa using ha
       subst this; rfl
theorem row_cons {p:List Nat} (h:RowOk p):∃ x w,p=x::w∧w.length=9:=by
 have:=h.len
 cases p with
 | nil=>cases this
 | cons x w=>exact ⟨x,w,rfl,by simpa using this⟩
theorem row_end {x:Nat} {w:List Nat} (hl:w.length=9):endB (isR x) w=lastR (x::w):=by
 rw [endB_get,hl]; rfl
theorem lnS_row:∀ (c:List Nat) (ln:Int),(∀ a∈c,a ≠ 10)→lnS ln c=ln
 | [],_,_=>rfl
 | a::r,ln,h=>by
   rw [show lnS ln (a::r)=lnS (lnN a ln) r from rfl]
   have:lnN a ln=ln:=by
     unfold lnN
     cases hq:Nat.beq a 10 with
     | true=>exact absurd (Nat.eq_of_beq_eq_true hq) (h a (.head _))
     | false=>rfl
   rw [this]
   exact lnS_row r ln fun b hb=>h b (.tail _ hb)
theorem lnS_app:∀ (a b:List Nat) (ln:Int),lnS ln (a++b)=lnS (lnS ln a) b
 | [],_,_=>rfl
 | c::r,b,ln=>lnS_app r b (lnN c ln)
theorem line_all {op:Bool} {c p:List Nat} (hc:RowOk c) (hp:RowOk p) (h:Nx (lastR p) (ln + 1) tail l n e) :
   Nx op ln (c++58::32::109::61::34::(p++34::13::10::tail)) ((wordsL op c p).map (fun t=>(ln,t))++l) n e:=by
 have sgc:∀ a∈c,a∈signs∧a ≠ 34∧inW a=true∧lnN a 0=0:=fun a ha=>row_signs a (hc.sg a ha)
 have sgp:∀ a∈p,a∈signs∧a ≠ 34∧inW a=true∧lnN a 0=0:=fun a ha=>row_signs a (hp.sg a ha)
 obtain ⟨x,w,hpx,hwl⟩:=row_cons hp
 cases op with
 | false =>
   obtain ⟨y,v,hcy,hvl⟩:=row_cons hc
   show TsA ln _ .none _ n e
   unfold wordsL
   rw [List.map_append,List.map_append,List.append_assoc,List.append_assoc,hcy]
   refine word_all (fun a ha=>(sgc a (hcy ▸ ha)).2.2.1) (sgc y (hcy ▸ .head _)).2.1 (okM_of v _ fun a ha=>(sgc a (hcy ▸ .tail _ ha)).2.1) (stop_colon (endT_ne _ _ _ (by simp)) (skip_ws rfl ?_))
   have e1:109::61::34::(p++34::13::10::tail)=(109::(61::34::p))++34::13::10::tail:=rfl
   have e2:109::61::34::(p++qm (lastR p))=(109::(61::34::p))++qm (lastR p):=rfl
   rw [e1,e2]
   refine value_all (o:=lastR p) (fun a ha=>?_) (by decide) ?_ ?_ h
   · rcases List.mem_cons.mp ha with rfl | ha
     · rfl
     rcases List.mem_cons.mp ha with rfl | ha
     · rfl
     rcases List.mem_cons.mp ha with rfl | ha
     · rfl
     exact (sgp a ha).2.2.1
   · show okM false (61::34::p)=true
     show (!(false&&Nat.beq 61 34)&&(!(isR 61&&Nat.beq 34 34)&&okM (isR 34) p))=true
     rw [okM_of p _ fun a ha=>(sgp a ha).2.1]
     rfl
   · show endB (isR 34) p=lastR p
     rw [hpx]
     exact row_end hwl
 | true =>
   show TsA (ln - 1) _ (some 34) _ n e
   unfold wordsL
   rw [List.map_cons,List.cons_append]
   have e1:13::10::(c++58::32::109::61::34::(p++34::13::10::tail))=(13::10::(c++[58,32,109,61]))++34::(p++34::13::10::tail):=by simp
   have e2:34::13::10::(c++[58,32,109,61,34])=34::((13::10::(c++[58,32,109,61]))++[34]):=by simp
   have e3:lnS (ln - 1) (13::10::(c++[58,32,109,61]))=ln:=by
     show lnS (ln - 1 + 1) (c++[58,32,109,61])=ln
     rw [Int.sub_add_cancel,lnS_app,lnS_row c ln fun a ha e=>by have:=(sgc a ha).2.2.2; rw [e] at this; cases this]
     all_goals rfl
   rw [e1,e2]
   have q:=quote_all (ln:=ln - 1) (q:=13::10::(c++[58,32,109,61])) (r:=p++34::13::10::tail) (l:=(splitW (p++qm (lastR p))).map (fun t=>(ln,t))++l) (n:=n) (e:=e) (fun a ha=>?_) ?_
   · rw [e3] at q
     exact q
   · rcases List.mem_cons.mp ha with rfl | ha
     · exact ⟨by decide,by decide⟩
     rcases List.mem_cons.mp ha with rfl | ha
     · exact ⟨by decide,by decide⟩
     rcases List.mem_append.mp ha with ha | ha
     · exact ⟨(sgc a ha).1,(sgc a ha).2.1⟩
     · have key:([58,32,109,61].all fun a=>signs.contains a&&!Nat.beq a 34)=true:=by decide
       have:=List.all_eq_true.mp key a ha
       simp only [Bool.and_eq_true] at this
       refine ⟨by simpa using this.1,fun e=>?_⟩
       rw [e] at this
       cases this.2
   · rw [e3,hpx]
     refine value_all (fun a ha=>(sgp a (hpx ▸ ha)).2.2.1) (sgp x (hpx ▸ .head _)).2.1 (okM_of w _ fun a ha=>(sgp a (hpx ▸ .tail _ ha)).2.1) (row_end hwl) ?_
     rw [← hpx]; exact h
theorem crlf_ws:∀ c∈[13,10],clOf c=.ws:=by
 intro c hc
 have key:([13,10].all fun c=>match clOf c with | .ws=>true | _=>false)=true:=by decide
 have:=List.all_eq_true.mp key c hc
 revert this
 cases clOf c <;> simp
theorem text_all:∀ (ps:List (List Nat × List Nat)) (op:Bool) (ln:Int),(∀ q∈ps,RowOk q.1∧RowOk q.2)→Nx op ln (textF ps) (toksF op ln ps) (ln + (ps.length:Int) + 1) (eF (opF op ps))
 | [],op,ln,_=>by
   cases op with
   | true =>
     have:=text_bad (ln:=ln - 1) (r:=[13,10,13,10]) (by decide)
     have e:lnS (ln - 1) [13,10,13,10]=ln + (([]:List (List Nat × List Nat)).length:Int) + 1:=by
       show ln - 1 + 1 + 1=ln + 0 + 1
       omega
     rw [e] at this
     exact this
   | false =>
     have:=text_end [13,10] ln crlf_ws
     have e:lnS ln [13,10]=ln + (([]:List (List Nat × List Nat)).length:Int) + 1:=by
       show ln + 1=ln + 0 + 1
       omega
     rw [e] at this
     exact this
 | (c,p)::r,op,ln,h=>by
   obtain ⟨hc,hp⟩:=h _ (.head _)
   have ih:=text_all r (lastR p) (ln + 1) fun q hq=>h q (.tail _ hq)
   have e:ln + 1 + (r.length:Int) + 1=ln + (((c,p)::r).length:Int) + 1:=by simp; omega
   rw [e] at ih
   exact line_all hc hp ih
end
end
section
set_option maxHeartbeats 400000
theorem strN_app (a b:List Nat):strN a++strN b=strN (a++b):=by
 show (⟨(⟨a⟩:Array Nat)++(⟨b⟩:Array Nat)⟩:Str)=_
 simp [strN]
noncomputable def hsOf (rs:List Str):List (Str × Str):=(List.range rs.length).map fun k=>(curS rs k,strM++coB++prevS rs k++coQ)
noncomputable def curL (ls:List (List Nat)) (k:Nat):List Nat:=ls.getD k []
noncomputable def prevL (ls:List (List Nat)):Nat→List Nat
 | 0=>ls.getD (ls.length - 1) []
 | k + 1=>ls.getD k []
theorem cur_strN (ls:List (List Nat)) (k:Nat):curS (ls.map strN) k=strN (curL ls k):=by
 unfold curS curL
 simp only [List.getD_eq_getElem?_getD,List.getElem?_map]
 cases ls[k]? <;> rfl
theorem prev_strN (ls:List (List Nat)):∀ k,prevS (ls.map strN) k=strN (prevL ls k)
 | 0=>by
   unfold prevS prevL
   simp only [List.getD_eq_getElem?_getD,List.getElem?_map,List.length_map]
   cases ls[ls.length - 1]? <;> rfl
 | k + 1=>by
   unfold prevS prevL
   simp only [List.getD_eq_getElem?_getD,List.getElem?_map]
   cases ls[k]? <;> rfl
noncomputable def pairF (ls:List (List Nat)) (k:Nat):List Nat × List Nat:=(curL ls k,prevL ls k)
noncomputable def psOf (ls:List (List Nat)):List (List Nat × List Nat):=(List.range ls.length).map (pairF ls)
theorem opE_last {p:List Nat} (h:RowOk p):opE (strN p)=lastR p:=by
 have hl:9<p.length:=by rw [h.len]; omega
 have e:Txt.item (strN p) 9=strN [p.getD 9 0]:=by
   have:=charAt_nat p 9 hl
   unfold Txt.item
   show (⟨#[(Txt.charAt (strN p) (Int.ofNat 9)).getD 0]⟩:Str)=_
   rw [this]; rfl
 unfold opE lastR
 rw [e]
 have key:([45,120,84,116].all fun c=>(!sq (strN [c]) (S "-"))==isR c)=true:=by kernel_rfl
 exact eq_of_beq (List.all_eq_true.mp key _ h.last)
theorem S_58:S ":" = strN [58]:=by kernel_rfl
theorem S_34:S "\"" = strN [34]:=by kernel_rfl
theorem S_q:S "\"\r\n" = strN [34, 13, 10] := by kernel_rfl
theorem S_m : S ": m=\"" = strN [58,32,109,61,34]:=by kernel_rfl
theorem S_v:S "m=\"" = strN [109,61,34]:=by kernel_rfl
theorem valS_qm (o:Bool) (v:List Nat):valS o (strN v)=strN (v++qm o):=by
 cases o with
 | true=>show strN v=strN (v++[]); rw [List.append_nil]
 | false=>show strN v++S "\"" = _; rw [S_34,strN_app]; rfl
theorem words_eq (op:Bool) {c p:List Nat} (hp:RowOk p):wordsD op (strN c) (strN p)=(wordsL op c p).map strN:=by
 unfold wordsD
 rw [opE_last hp]
 cases op with
 | true =>
   show sA (strN c)::pieces (valS (lastR p) (strN p))=_
   rw [valS_qm,pieces_eq]
   unfold sA
   rw [S_q,S_m,strN_app,strN_app]
   rfl
 | false =>
   show (pieces (strN c)++[S ":"])++pieces (valS (lastR p) (sV (strN p)))=_
   unfold sV
   rw [S_v,S_58,strN_app,valS_qm,pieces_eq,pieces_eq]
   unfold wordsL
   rw [List.map_append,List.map_append]
   rfl
theorem join2 (a b:Str) (r:List Str):Str.join crlf (a::b::r)=a++crlf++Str.join crlf (b::r):=rfl
theorem join_text:∀ ps:List (List Nat × List Nat),Str.join crlf ((ps.map fun q=>strN q.1++coA++(strM++coB++strN q.2++coQ))++[⟨⟨[]⟩⟩,⟨⟨[]⟩⟩])=strN (textF ps)
 | []=>by kernel_rfl
 | (c,p)::r=>by
   have ih:=join_text r
   have hne:∃ b t,(r.map fun q=>strN q.1++coA++(strM++coB++strN q.2++coQ))++[⟨⟨[]⟩⟩,⟨⟨[]⟩⟩]=b::t:=by
     cases r with
     | nil=>exact ⟨_,_,rfl⟩
     | cons _ _=>exact ⟨_,_,rfl⟩
   obtain ⟨b,t,hbt⟩:=hne
   rw [List.map_cons,List.cons_append]
   rw [hbt] at ih ⊢
   rw [join2,ih]
   have e1:coA=strN [58,32]:=rfl
   have e2:strM=strN [109]:=rfl
   have e3:coB=strN [61,34]:=rfl
   have e4:coQ=strN [34]:=rfl
   have e5:crlf=strN [13,10]:=rfl
   rw [e1,e2,e3,e4,e5]
   simp only [strN_app]
   show _=strN (c++58::32::109::61::34::(p++34::13::10::textF r))
   congr 1
   simp
theorem text_eq (ls:List (List Nat)):textT (hsOf (ls.map strN))=textF (psOf ls):=by
 unfold textT textL
 have e:Txt.join crlf=Str.join crlf:=funext fun l=>StrLaws.glued_eq_join crlf l
 rw [e]
 have e2:((hsOf (ls.map strN)).map fun p=>p.1++coA++p.2)=(psOf ls).map fun q=>strN q.1++coA++(strM++coB++strN q.2++coQ):=by
   unfold hsOf psOf
   rw [List.map_map,List.map_map,List.length_map]
   refine List.map_congr_left fun k _=>?_
   show curS (ls.map strN) k++coA++(strM++coB++prevS (ls.map strN) k++coQ)=_
   rw [cur_strN,prev_strN]
   rfl
 rw [e2,join_text]
 rfl
noncomputable def dueL (rs:List Str):Nat→List (Int × List Nat)
 | 0=>[]
 | j + 1=>dueL rs j++(dueW rs j).map fun y=>(Int.ofNat (j + 1),y.cps.toList)
section
variable {ls:List (List Nat)} (h:∀ l∈ls,RowOk l)
include h
theorem cur_ok {k:Nat} (hk:k<ls.length):RowOk (curL ls k):=by
 unfold curL
 rw [List.getD_eq_getElem?_getD,List.getElem?_eq_getElem hk]
 exact h _ (List.getElem_mem hk)
theorem prev_ok:∀ {k:Nat},k<ls.length→RowOk (prevL ls k)
 | 0,hk=>by
   unfold prevL
   rw [List.getD_eq_getElem?_getD,List.getElem?_eq_getElem (by omega)]
   exact h _ (List.getElem_mem _)
 | k + 1,hk=>by
   show RowOk (ls.getD k [])
   rw [List.getD_eq_getElem?_getD,List.getElem?_eq_getElem (by omega)]
   exact h _ (List.getElem_mem _)
theorem op_step {j:Nat} (hj:j<ls.length):opAt (ls.map strN) (j + 1)=lastR (prevL ls j):=by
 show opE (prevS (ls.map strN) j)=_
 rw [prev_strN]
 exact opE_last (prev_ok h hj)
theorem due_step {j:Nat} (hj:j<ls.length):(dueW (ls.map strN) j).map (fun y=>(Int.ofNat (j + 1),y.cps.toList))=(wordsL (opAt (ls.map strN) j) (curL ls j) (prevL ls j)).map fun t=>(Int.ofNat (j + 1),t):=by
 unfold dueW
 rw [cur_strN,prev_strN,words_eq _ (prev_ok h hj),List.map_map]
 rfl
theorem toks_from:∀ (k j:Nat),j + k≤ls.length→dueL (ls.map strN) j++toksF (opAt (ls.map strN) j) (Int.ofNat (j + 1)) ((List.range' j k).map (pairF ls))=dueL (ls.map strN) (j + k)∧opF (opAt (ls.map strN) j) ((List.range' j k).map (pairF ls))=opAt (ls.map strN) (j + k)
 | 0,j,_=>⟨List.append_nil _,rfl⟩
 | k + 1,j,hk=>by
   obtain ⟨h1,h2⟩:=toks_from k (j + 1) (by omega)
   have hs:=op_step h (j:=j) (by omega)
   have e:j + 1 + k=j + (k + 1):=by omega
   rw [e] at h1 h2
   rw [← h1,← h2,List.range'_succ,List.map_cons]
   constructor
   · show dueL (ls.map strN) j++((wordsL (opAt (ls.map strN) j) (curL ls j) (prevL ls j)).map (fun t=>(Int.ofNat (j + 1),t))++toksF (lastR (prevL ls j)) (Int.ofNat (j + 1) + 1) _)=(dueL (ls.map strN) j++(dueW (ls.map strN) j).map fun y=>(Int.ofNat (j + 1),y.cps.toList))++toksF (opAt (ls.map strN) (j + 1)) (Int.ofNat (j + 1 + 1)) _
     rw [due_step h (by omega),hs,List.append_assoc]
     rfl
   · show opF (lastR (prevL ls j)) _=opF (opAt (ls.map strN) (j + 1)) _
     rw [hs]
theorem plain_law:TsA 1 (textT (hsOf (ls.map strN))) .none (dueL (ls.map strN) ls.length) ((ls.length:Int) + 2) (eF (opAt (ls.map strN) ls.length)):=by
 have t:=text_all (psOf ls) false 1 (fun q hq=>by
   obtain ⟨k,hk,rfl⟩:=List.mem_map.mp hq
   have hk:k<ls.length:=by simpa using hk
   exact ⟨cur_ok h hk,prev_ok h hk⟩)
 obtain ⟨h1,h2⟩:=toks_from h ls.length 0 (by omega)
 have e00:0 + ls.length=ls.length:=Nat.zero_add _
 rw [e00] at h1 h2
 have e0:(List.range' 0 ls.length).map (pairF ls)=psOf ls:=by unfold psOf; rw [List.range_eq_range']
 rw [e0] at h1 h2
 have h1:toksF false 1 (psOf ls)=dueL (ls.map strN) ls.length:=h1
 have h2:opF false (psOf ls)=opAt (ls.map strN) ls.length:=h2
 rw [h1,h2] at t
 have e1:(1:Int) + ((psOf ls).length:Int) + 1=(ls.length:Int) + 2:=by
   have:(psOf ls).length=ls.length:=by simp [psOf]
   rw [this]; omega
 rw [e1] at t
 rw [text_eq]
 exact t
theorem text_signs:∀ ps:List (List Nat × List Nat),(∀ q∈ps,RowOk q.1∧RowOk q.2)→(∀ c∈textF ps,c∈signs)∧(textF ps).length=28 * ps.length + 2
 | [],_=>⟨by decide,rfl⟩
 | (c,p)::r,hq=>by
   obtain ⟨hc,hp⟩:=hq _ (.head _)
   obtain ⟨h1,h2⟩:=text_signs r fun q hr=>hq q (.tail _ hr)
   refine ⟨fun a ha=>?_,?_⟩
   · have e:textF ((c,p)::r)=c++([58,32,109,61,34]++(p++([34,13,10]++textF r))):=rfl
     rw [e] at ha
     simp only [List.mem_append] at ha
     rcases ha with ha | ha | ha | ha | ha
     · exact (row_signs a (hc.sg a ha)).1
     · have key:([58,32,109,61,34].all fun a=>signs.contains a)=true:=by decide
       simpa using List.all_eq_true.mp key a ha
     · exact (row_signs a (hp.sg a ha)).1
     · have key:([34,13,10].all fun a=>signs.contains a)=true:=by decide
       simpa using List.all_eq_true.mp key a ha
     · exact h1 a ha
   · have e:textF ((c,p)::r)=c++([58,32,109,61,34]++(p++([34,13,10]++textF r))):=rfl
     rw [e]
     simp only [List.length_append,hc.len,hp.len,h2,List.length_cons,List.length_nil]
     omega
theorem textT_ok:(∀ c∈textT (hsOf (ls.map strN)),c∈signs)∧(textT (hsOf (ls.map strN))).length=28 * ls.length + 2:=by
 rw [text_eq]
 have:=text_signs h (psOf ls) (fun q hq=>by
   obtain ⟨k,hk,rfl⟩:=List.mem_map.mp hq
   have hk:k<ls.length:=by simpa using hk
   exact ⟨cur_ok h hk,prev_ok h hk⟩)
 have e:(psOf ls).length=ls.length:=by simp [psOf]
 rw [e] at this
 exact this
end
end
section
set_option maxHeartbeats 400000
noncomputable def rowT (m:Nat):Str:=⟨⟨rowL m⟩⟩
theorem rowT_len (m:Nat):(rowT m).length=10:=by
 show (rowL m).length=10
 exact rowL_len m
theorem prn_row {m:Nat} (h:m<65536):prn (rowT m)=true:=by
 unfold prn
 rw [List.all_eq_true]
 intro c hc
 have hs:c∈rowSigns:=rowL_signs h c hc
 have key:(rowSigns.all fun c=>Nat.ble 32 c&&Nat.ble c 126)=true:=by decide +kernel
 exact List.all_eq_true.mp key c hs
theorem noOcc_row {m k:Nat} (h:m<65536) (hk:k ∉ rowSigns):noOcc (rowT m) ⟨⟨[k]⟩⟩=true:=by
 unfold noOcc
 rw [occ_nil_of_no]
 · rfl
 · intro i hi
   have hl:(rowT m).length=10:=rowT_len m
   have hy:(⟨⟨[k]⟩⟩:Str).length=1:=rfl
   rw [hl,hy] at hi
   unfold Builtin.Str.subAt
   rw [hy]
   cases e:((rowT m).cps.extract i (i + 1)==(⟨⟨[k]⟩⟩:Str).cps) with
   | false=>rfl
   | true =>
     have e:=eq_of_beq e
     have hsz:i<(rowT m).cps.size:=by
       have:(rowT m).cps.size=10:=hl
       omega
     have hget:((rowT m).cps.extract i (i + 1))[0]?=some (rowT m).cps[i]:=by
       rw [Array.getElem?_extract]
       simp [hsz]
       omega
     rw [e] at hget
     have hk2:k=(rowT m).cps[i]:=by simpa using hget
     have:(rowT m).cps[i]∈(rowT m).cps.toList:=by simp
     exact absurd (rowL_signs h _ (hk2 ▸ this)) hk
theorem hdrOk_rows {m n:Nat} (hm:m<65536) (hn:n<65536):hdrOk (rowT m) (rowT n)=true:=by
 unfold hdrOk
 rw [prn_row hm,prn_row hn,noOcc_row hn (by decide),noOcc_row hn (by decide),rowT_len,rowT_len]
 rfl
end
section
set_option maxHeartbeats 1000000
noncomputable def hp1 (ms:List Nat):List AO:=[.list (natV ms),.list (rowsV (rowsS ms))]++tabH (rowsS ms)
noncomputable def selT (n:Nat):List Nat:=[0,2,3,4]++(List.range n).map (5 + ·)
noncomputable def SelA (sa:Nat) (ms:List Nat):Prop:=((selT ms.length).map fun j=>atI (hp1 ms) j)=(tabS sa (natV ms) (hsOf (rowsS ms))).hp.map (fun ao=>some (rnO (nth (selT ms.length)) ao)) ∧
 ((tabS sa (natV ms) (hsOf (rowsS ms))).hp.all (okO (tabS sa (natV ms) (hsOf (rowsS ms))).hp.length))=true∧nodupN (selT ms.length)=true∧lookAll (loC1 sa) (tabS sa (natV ms) (hsOf (rowsS ms))).lo=rnAll (nth (selT ms.length)) (tabS sa (natV ms) (hsOf (rowsS ms))).lo
noncomputable def SelB (ms:List Nat) (hs:List (Str × Str)):Prop:=((hp2 (natV ms) hs).all (okO (hp2 (natV ms) hs).length))=true∧nodupN (sel2 hs.length)=true
theorem sA_1 (sa:Nat) (m0:Nat):SelA sa [m0]:=⟨by kernel_rfl,by kernel_rfl,by kernel_rfl,by kernel_rfl⟩
theorem sB_1 (m0:Nat) (a0 b0:Str):SelB [m0] [(a0,b0)]:=⟨by kernel_rfl,by kernel_rfl⟩
theorem sA_2 (sa:Nat) (m0 m1:Nat):SelA sa [m0,m1]:=⟨by kernel_rfl,by kernel_rfl,by kernel_rfl,by kernel_rfl⟩
theorem sB_2 (m0 m1:Nat) (a0 b0 a1 b1:Str):SelB [m0,m1] [(a0,b0),(a1,b1)]:=⟨by kernel_rfl,by kernel_rfl⟩
theorem sA_3 (sa:Nat) (m0 m1 m2:Nat):SelA sa [m0,m1,m2]:=⟨by kernel_rfl,by kernel_rfl,by kernel_rfl,by kernel_rfl⟩
theorem sB_3 (m0 m1 m2:Nat) (a0 b0 a1 b1 a2 b2:Str):SelB [m0,m1,m2] [(a0,b0),(a1,b1),(a2,b2)]:=⟨by kernel_rfl,by kernel_rfl⟩
theorem sA_4 (sa:Nat) (m0 m1 m2 m3:Nat):SelA sa [m0,m1,m2,m3]:=⟨by kernel_rfl,by kernel_rfl,by kernel_rfl,by kernel_rfl⟩
theorem sB_4 (m0 m1 m2 m3:Nat) (a0 b0 a1 b1 a2 b2 a3 b3:Str):SelB [m0,m1,m2,m3] [(a0,b0),(a1,b1),(a2,b2),(a3,b3)]:=⟨by kernel_rfl,by kernel_rfl⟩
theorem sA_5 (sa:Nat) (m0 m1 m2 m3 m4:Nat):SelA sa [m0,m1,m2,m3,m4]:=⟨by kernel_rfl,by kernel_rfl,by kernel_rfl,by kernel_rfl⟩
theorem sB_5 (m0 m1 m2 m3 m4:Nat) (a0 b0 a1 b1 a2 b2 a3 b3 a4 b4:Str):SelB [m0,m1,m2,m3,m4] [(a0,b0),(a1,b1),(a2,b2),(a3,b3),(a4,b4)]:=⟨by kernel_rfl,by kernel_rfl⟩
theorem sA_6 (sa:Nat) (m0 m1 m2 m3 m4 m5:Nat):SelA sa [m0,m1,m2,m3,m4,m5]:=⟨by kernel_rfl,by kernel_rfl,by kernel_rfl,by kernel_rfl⟩
theorem sB_6 (m0 m1 m2 m3 m4 m5:Nat) (a0 b0 a1 b1 a2 b2 a3 b3 a4 b4 a5 b5:Str):SelB [m0,m1,m2,m3,m4,m5] [(a0,b0),(a1,b1),(a2,b2),(a3,b3),(a4,b4),(a5,b5)]:=⟨by kernel_rfl,by kernel_rfl⟩
theorem selA (sa:Nat):∀ ms:List Nat,1≤ms.length→ms.length≤6→SelA sa ms :=
 one6 (fun a=>sA_1 sa a) (fun a b=>sA_2 sa a b) (fun a b c=>sA_3 sa a b c) (fun a b c d=>sA_4 sa a b c d) (fun a b c d e=>sA_5 sa a b c d e) (fun a b c d e f=>sA_6 sa a b c d e f)
theorem selB:∀ (ms:List Nat) (hs:List (Str × Str)),ms.length=hs.length→1≤hs.length→hs.length≤6→SelB ms hs :=
 two6 (fun a a'=>sB_1 a a'.1 a'.2) (fun a b a' b'=>sB_2 a b a'.1 a'.2 b'.1 b'.2) (fun a b c a' b' c'=>sB_3 a b c a'.1 a'.2 b'.1 b'.2 c'.1 c'.2) (fun a b c d a' b' c' d'=>sB_4 a b c d a'.1 a'.2 b'.1 b'.2 c'.1 c'.2 d'.1 d'.2) (fun a b c d e a' b' c' d' e'=>sB_5 a b c d e a'.1 a'.2 b'.1 b'.2 c'.1 c'.2 d'.1 d'.2 e'.1 e'.2) (fun a b c d e f a' b' c' d' e' f'=>sB_6 a b c d e f a'.1 a'.2 b'.1 b'.2 c'.1 c'.2 d'.1 d'.2 e'.1 e'.2 f'.1 f'.2)
theorem okA (sa:Nat) (ml:List AV) (hs:List (Str × Str)):okE (tabS sa ml hs).hp.length (tabS sa ml hs).lo=true:=by kernel_rfl
theorem okB (sa:Nat) (ml:List AV) (hs:List (Str × Str)):okE (hp2 ml hs).length (loD2 sa)=true:=by kernel_rfl
noncomputable def modesN (xs:List Int):List Nat:=(xs.take 5).map modeN++[33188]
theorem modes_nat (xs:List Int):intA (modesI xs)=natV (modesN xs):=by
 unfold intA modesI natV modesN
 rw [List.map_append,List.map_append,List.map_map,List.map_map]
 congr 1
 refine List.map_congr_left fun a _=>?_
 show AV.int (modeI a)=AV.int (Int.ofNat (modeN a))
 rw [modeI_eq]
theorem modesN_lt (xs:List Int):∀ m∈modesN xs,m<65536:=by
 intro m hm
 rcases List.mem_append.mp hm with h | h
 · obtain ⟨a,_,rfl⟩:=List.mem_map.mp h
   exact modeN_lt a
 · have:m=33188:=by simpa using h
   omega
theorem modesN_len (xs:List Int):1≤(modesN xs).length∧(modesN xs).length≤6:=by
 unfold modesN
 simp only [List.length_append,List.length_map,List.length_take,List.length_singleton]
 omega
theorem okL_nat (k:Nat):∀ ms:List Nat,okL k (natV ms)=true
 | []=>rfl
 | _::r=>okL_nat k r
theorem rnL_nat (f:Nat→Nat) (ms:List Nat):rnL f (natV ms)=natV ms:=rnL_free (okL_nat 0 ms)
theorem chk_sz {b:Bool} {ob:List Nat} (h:b=true) (z:Sz ob):Sz (addOb (chk b) ob):=by
 subst h
 exact Sz.add (Nat.zero_le _) z
theorem obV_sz:∀ (ms:List Nat) (ob:List Nat),(∀ m∈ms,m<65536)→Sz ob→Sz (obV ms ob)
 | [],_,_,z=>z
 | m::r,ob,h,z=>by
   have hm:=h m (.head _)
   have e:obV (m::r) ob=obV r (addOb (chk (u16 m)) ob):=rfl
   rw [e]
   refine obV_sz r _ (fun a ha=>h a (.tail _ ha)) (chk_sz ?_ z)
   unfold u16
   exact Nat.ble_eq_true_of_le (by omega)
theorem fold_sz {α:Type} (f:α→Bool):∀ (l:List α) (ob:List Nat),(∀ a∈l,f a=true)→Sz ob→Sz (l.foldl (fun ob a=>addOb (chk (f a)) ob) ob)
 | [],_,_,z=>z
 | a::r,ob,h,z=>fold_sz f r _ (fun b hb=>h b (.tail _ hb)) (chk_sz (h a (.head _)) z)
theorem rowsS_map (ms:List Nat):rowsS ms=(ms.map rowL).map strN:=by
 unfold rowsS
 rw [List.map_map]
 rfl
theorem cur_row {ms:List Nat} {k:Nat} (hk:k<ms.length):∃ m∈ms,curS (rowsS ms) k=rowT m:=by
 unfold curS rowsS
 rw [List.getD_eq_getElem?_getD,List.getElem?_map,List.getElem?_eq_getElem hk]
 exact ⟨_,List.getElem_mem hk,rfl⟩
theorem prev_row {ms:List Nat}:∀ {k:Nat},k<ms.length→∃ m∈ms,prevS (rowsS ms) k=rowT m
 | 0,hk=>by
   unfold prevS rowsS
   rw [List.getD_eq_getElem?_getD,List.getElem?_map,List.length_map,List.getElem?_eq_getElem (by omega)]
   exact ⟨_,List.getElem_mem _,rfl⟩
 | k + 1,hk=>by
   show ∃ m∈ms,(rowsS ms).getD k ⟨⟨[]⟩⟩=rowT m
   unfold rowsS
   rw [List.getD_eq_getElem?_getD,List.getElem?_map,List.getElem?_eq_getElem (by omega)]
   exact ⟨_,List.getElem_mem _,rfl⟩
theorem ob1_sz {ms:List Nat} (h:∀ m∈ms,m<65536):Sz (obHd (rowsS ms) (obU ms)):=by
 have hl:(rowsS ms).length=ms.length:=by simp [rowsS]
 refine fold_sz (fun k=>hdrOk (curS (rowsS ms) k) (prevS (rowsS ms) k)) _ _ (fun k hk=>?_) (obV_sz ms [] h Sz.nil)
 have hk:k<ms.length:=by rw [← hl]; simpa using hk
 obtain ⟨a,ha,ea⟩:=cur_row hk
 obtain ⟨b,hb,eb⟩:=prev_row hk
 show hdrOk (curS (rowsS ms) k) (prevS (rowsS ms) k)=true
 rw [ea,eb]
 exact hdrOk_rows (h a ha) (h b hb)
theorem str_len (a b:Str):(a++b).length=a.length + b.length:=by
 show (a.cps++b.cps).size=_
 rw [Array.size_append]; rfl
theorem hs_len {ms:List Nat}:∀ p∈hsOf (rowsS ms),p.1.length=10∧p.2.length=14:=by
 intro p hp
 obtain ⟨k,hk,rfl⟩:=List.mem_map.mp hp
 have hl:(rowsS ms).length=ms.length:=by simp [rowsS]
 have hk:k<ms.length:=by rw [← hl]; simpa using hk
 obtain ⟨a,_,ea⟩:=cur_row hk
 obtain ⟨b,_,eb⟩:=prev_row hk
 refine ⟨by show (curS (rowsS ms) k).length=10; rw [ea,rowT_len],?_⟩
 show (strM++coB++prevS (rowsS ms) k++coQ).length=14
 rw [eb,str_len,str_len,str_len,rowT_len]
 rfl
theorem hs_count (ms:List Nat):(hsOf (rowsS ms)).length=ms.length:=by simp [hsOf,rowsS]
theorem sum_le {l:List Nat} {b:Nat} (h:∀ a∈l,a≤b):l.sum≤l.length * b:=by
 induction l with
 | nil=>simp
 | cons a r ih =>
   have h1:=h a (.head _)
   have h2:=ih fun c hc=>h c (.tail _ hc)
   simp only [List.sum_cons,List.length_cons]
   have:(r.length + 1) * b=r.length * b + b:=by rw [Nat.add_mul,Nat.one_mul]
   omega
theorem ob2_sz {ms:List Nat} (h6:ms.length≤6):Sz (addOb (chk (JoinOk crlf (textL (hsOf (rowsS ms))))) (obL (hsOf (rowsS ms)))):=by
 refine chk_sz ?_ (fold_sz (fun (p:Str × Str)=>pctOk p.1 p.2) (hsOf (rowsS ms)) [] (fun p hp=>?_) Sz.nil)
 · have hc:=hs_count ms
   have hlen:(textL (hsOf (rowsS ms))).length=ms.length + 2:=by unfold textL; simp [hc]
   refine joinOk_of_weight ?_ (by decide)
   have:=sum_le (l:=(textL (hsOf (rowsS ms))).map (·.length)) (b:=26) (fun a ha=>by
     obtain ⟨q,hq,rfl⟩:=List.mem_map.mp ha
     unfold textL at hq
     rcases List.mem_append.mp hq with hq | hq
     · obtain ⟨p,hp,rfl⟩:=List.mem_map.mp hq
       obtain ⟨l1,l2⟩:=hs_len p hp
       show (p.1++coA++p.2).length≤26
       rw [str_len,str_len,l1,l2]
       decide
     · have:q=⟨⟨[]⟩⟩:=by simpa using hq
       rw [this]; decide)
   rw [List.length_map,hlen] at this
   rw [hlen]
   omega
 · obtain ⟨l1,l2⟩:=hs_len p hp
   show pctOk p.1 p.2=true
   unfold pctOk
   rw [l1,l2]; rfl
theorem dueB_ok {ms:List Nat} (h6:ms.length≤6):dueB (rowsS ms)=true:=by
 unfold dueB
 rw [Bool.and_eq_true]
 refine ⟨Nat.ble_eq_true_of_le (by simpa [rowsS] using h6),List.all_eq_true.mpr fun r hr=>?_⟩
 obtain ⟨m,_,rfl⟩:=List.mem_map.mp hr
 show Nat.beq (rowT m).length 10=true
 rw [rowT_len]; rfl
end
section
set_option maxHeartbeats 1000000
noncomputable def ItB (k:Nat) (rest:List AO) (a:AV):Itm→Prop
 | .tok c y=>∃ j,a=.obj (k + j)∧rest[j]?=some (.tup [.int c,.str y])
 | .msg c y1 y2=>∃ j q,a=.obj (k + j)∧rest[j]?=some (.tup [.int c,.obj (k + q)])∧rest[q]?=some (.list [.str y1,.str y2])
theorem get_back {ρ₁ A:List Addr} {j:Nat} {ad:Addr} (h:(ρ₁++A)[ρ₁.length + j]?=some ad):A[j]?=some ad:=by
 rw [List.getElem?_append_right (by omega),Nat.add_sub_cancel_left] at h
 exact h
theorem ItB.inn {ρ₁ A:List Addr} {rest:List AO} {os:List Obj} (or:ORs (ρ₁++A) rest os) {a:AV} {v:Value} (vr:VR (ρ₁++A) a v) {i:Itm} (h:ItB ρ₁.length rest a i):ItIn (A.zip os) v i:=by
 cases i with
 | tok k y =>
   obtain ⟨j,rfl,hj⟩:=h
   obtain ⟨ad,had,rfl⟩:=vr
   refine or_two or hj fun u1 u2 n ho h1 h2=>?_
   obtain ⟨t,rfl⟩:=h1
   obtain ⟨⟨u,rfl⟩,_⟩:=h2
   exact ⟨ad,t,u,n,rfl,zip_mem' (get_back had) ho⟩
 | msg k y1 y2 =>
   obtain ⟨j,q,rfl,hj,hq⟩:=h
   obtain ⟨ad,had,rfl⟩:=vr
   refine or_two or hj fun u1 u2 n ho h1 h2=>or_twoL or hq fun w1 w2 n2 ho2 g1 g2=>?_
   obtain ⟨t,rfl⟩:=h1
   obtain ⟨b,hb,rfl⟩:=h2
   obtain ⟨⟨v1,rfl⟩,_⟩:=g1
   obtain ⟨⟨v2,rfl⟩,_⟩:=g2
   exact ⟨ad,b,t,n,v1,v2,n2,rfl,zip_mem' (get_back had) ho,zip_mem' (get_back hb) ho2⟩
theorem refs_itemsB (k:Nat) (pre:List AO) (d:List (Int × List Nat)):All2 (ItB k (pre++TL d)) (refsV (k + pre.length) d.length) (d.map tokI):=by
 refine All2.ofGet (by simp [refsV]) fun i a v e1 e2=>?_
 have hi:i<d.length:=by have:=(List.getElem?_eq_some_iff.mp e2).1; simpa using this
 unfold refsV at e1
 rw [List.getElem?_map,List.getElem?_range hi] at e1
 cases e1
 rw [List.getElem?_map,List.getElem?_eq_getElem hi] at e2
 cases e2
 refine ⟨pre.length + i,?_,?_⟩
 · show AV.obj (k + pre.length + i)=AV.obj (k + (pre.length + i))
   rw [Nat.add_assoc]
 · rw [List.getElem?_append_right (by omega),Nat.add_sub_cancel_left]
   unfold TL
   rw [List.getElem?_map,List.getElem?_eq_getElem hi]
   rfl
theorem dueT_TL (rs:List Str):∀ n,dueT rs n=TL (dueL rs n)
 | 0=>rfl
 | n + 1=>by
   show dueT rs n++(dueW rs n).map (tupW n)=TL (dueL rs n++_)
   rw [dueT_TL rs n]
   unfold TL
   rw [List.map_append,List.map_map]
   rfl
theorem endL_eq:endL=[.str msgQ,.str ⟨⟨[34,13,10,13,10]⟩⟩]:=by kernel_rfl
theorem due_items (a b:AO) (rs:List Str):∃ refs tl,dueNew rs 9=.list refs::tl∧All2 (ItB 7 ([a,b]++dueNew rs 9)) refs ((dueL rs rs.length).map tokI++endI ((rs.length:Int) + 2) (eF (opAt rs rs.length))):=by
 unfold dueNew
 have hT:(dueT rs rs.length).length=(dueL rs rs.length).length:=by rw [dueT_TL]; simp [TL]
 rw [hT]
 refine ⟨_,_,rfl,?_⟩
 rw [dueT_TL]
 cases opAt rs rs.length with
 | false =>
   have h:=refs_itemsB 7 ([a,b]++[.list (refsV (9 + (1 + (tlD rs.length false).length)) (dueL rs rs.length).length++extN 9 false)]) (dueL rs rs.length)
   show All2 _ (refsV 10 _++[]) (_++[])
   rw [List.append_nil,List.append_nil]
   exact h
 | true =>
   have h:=refs_itemsB 7 ([a,b]++.list (refsV (9 + (1 + (tlD rs.length true).length)) (dueL rs rs.length).length++extN 9 true)::tlN rs.length 9 true) (dueL rs rs.length)
   refine All2.app ?_ (.cons ⟨4,3,rfl,rfl,?_⟩ .nil)
   · rw [List.append_assoc] at h
     exact h
   · show some (AO.list endL)=_
     rw [endL_eq]
theorem dueL_ne {rs:List Str} (h:1≤rs.length):dueL rs rs.length ≠ []:=by
 have key:∀ n,dueL rs (n + 1) ≠ []:=by
   intro n
   induction n with
   | zero =>
     show ([]:List (Int × List Nat))++(dueW rs 0).map _ ≠ []
     have:dueW rs 0 ≠ []:=by
       show (pieces (curS rs 0)++[S ":"])++pieces _ ≠ []
       simp
     simpa using this
   | succ n ih =>
     show dueL rs (n + 1)++_ ≠ []
     intro e
     exact ih (List.append_eq_nil_iff.mp e).1
 obtain ⟨n,hn⟩:∃ n,rs.length=n + 1:=⟨rs.length - 1,by omega⟩
 rw [hn]
 exact key n
theorem lx_ok (tok:Str) (ln:Int) (dn rest:List Nat) (pb:Option Nat):∀ t∈lexH .sp tok ln dn rest pb [],okO (lexH .sp tok ln dn rest pb []).length t=true:=by
 have h:((lexH .sp tok ln dn rest pb []).all (okO (lexH .sp tok ln dn rest pb []).length))=true:=by
   cases pb with
   | none=>kernel_rfl
   | some c=>kernel_rfl
 exact List.all_eq_true.mp h
theorem dueL_len {rs:List Str} (h6:rs.length≤6) (hr:∀ r∈rs,r.length=10):(dueL rs rs.length).length≤4000:=by
 have e:(dueL rs rs.length).length=(dueT rs rs.length).length:=by rw [dueT_TL]; simp [TL]
 rw [e]
 have step:∀ j,j≤rs.length→(dueT rs j).length≤j * 100:=by
   intro j
   induction j with
   | zero=>intro _; exact Nat.zero_le _
   | succ j ih =>
     intro hj
     have h1:=ih (by omega)
     obtain ⟨r1,r2⟩:=rows_at hr (k:=j) (by omega)
     have h2:(dueW rs j).length≤100:=by
       have w:=words_len (op:=opAt rs j) r1 r2
       unfold dueW
       omega
     show (dueT rs j++(dueW rs j).map (tupW j)).length≤(j + 1) * 100
     rw [List.length_append,List.length_map]
     omega
 have:=step rs.length (Nat.le_refl _)
 omega
end
section
set_option maxHeartbeats 1000000
theorem rowL_all {ms:List Nat} (h:∀ m∈ms,m<65536):∀ l∈ms.map rowL,RowOk l:=by
 intro l hl
 obtain ⟨m,hm,rfl⟩:=List.mem_map.mp hl
 exact rowL_ok (h m hm)
theorem rows_len {ms:List Nat}:∀ r∈rowsS ms,r.length=10:=by
 intro r hr
 obtain ⟨m,_,rfl⟩:=List.mem_map.mp hr
 exact rowT_len m
theorem lay_lo {sa:Nat} {y:Str} {A:List Addr} {aD:Addr} (h:A[2]?=some aD) (lx:List AO) (hl:lx.length=7):∀ z a,look z (lo5 sa y aD)=some a→(look z (loD4 sa y)=some a∧okV lx.length a=true) ∨ ∃ j ad,look z (loD4 sa y)=some (.obj (lx.length + j))∧A[j]?=some ad∧a=.top ad:=by
 intro z a hz
 rw [hl]
 unfold lo5 at hz
 simp only [look_cons] at hz
 have l1:look (S "script") (loD4 sa y)=some (.top sa):=by kernel_rfl
 have l2:look (S "lexer") (loD4 sa y)=some (.obj 1):=by kernel_rfl
 have l3:look (S "first") (loD4 sa y)=some (.str y):=by kernel_rfl
 have l4:look (S "due") (loD4 sa y)=some (.obj 9):=by kernel_rfl
 cases h1:sq (S "script") z with
 | true=>simp only [h1] at hz; cases hz; rw [← (sq_iff _ _).mp h1]; exact .inl ⟨l1,rfl⟩
 | false =>
 simp only [h1] at hz
 cases h2:sq (S "lexer") z with
 | true=>simp only [h2] at hz; cases hz; rw [← (sq_iff _ _).mp h2]; exact .inl ⟨l2,rfl⟩
 | false =>
 simp only [h2] at hz
 cases h3:sq (S "first") z with
 | true=>simp only [h3] at hz; cases hz; rw [← (sq_iff _ _).mp h3]; exact .inl ⟨l3,rfl⟩
 | false =>
 simp only [h3] at hz
 cases h4:sq (S "due") z with
 | true=>simp only [h4] at hz; cases hz; rw [← (sq_iff _ _).mp h4]; exact .inr ⟨2,aD,l4,h,rfl⟩
 | false=>simp only [h4] at hz; cases hz
theorem ItIn.wide {l l':List (Addr × Obj)} {v:Value} (sub:∀ p∈l,p∈l') {i:Itm} (h:ItIn l v i):ItIn l' v i:=by
 cases i with
 | tok k y =>
   obtain ⟨a,t,u,n,h1,h2⟩:=h
   exact ⟨a,t,u,n,h1,sub _ h2⟩
 | msg k y1 y2 =>
   obtain ⟨a,b,t,n,u1,u2,n2,h1,h2,h3⟩:=h
   exact ⟨a,b,t,n,u1,u2,n2,h1,sub _ h2,sub _ h3⟩
section
variable {g:Gl} {P:Params}
theorem law_walk (hK:g.K=KP P) (hs:173≤g.sl) {sa:Nat} {xs:List Int} (hx:ScrOk g sa xs) (hxl:xs.length≤63) {x:Cx} (o:CxOk g x 112) (hcv:x.cv=none) (hcl:x.cl=[]) (hout:x.outer=[]) (hsc:x.scope.names=sLaw P) (XB:g.K.In x.base) (TB:Top g.p g.loose g.mean g.mg g.mb x.base)
   {ρ:List Addr} {s:Shared} (H:HS x ρ ⟨loA sa,[],[]⟩ s.heap) {Q:Flow→Shared→Prop} (hQ:∀ s',Same s s'→(∀ b o,x.h₀.get? b=some o→s'.heap.get? b=some o)→Q (.ret (.bool true)) s'):wpAny (model g.prog g.w) x.A (execs (bLaw P) x.env) Q EF s:=by
 have ok:=ok4 (g:=g) hK hs hx
 have ok':=ok1 (g:=g) hK (by omega)
 have hms:=modesN_lt xs
 obtain ⟨hm1,hm6⟩:=modesN_len xs
 generalize hgen:modesN xs=ms at hms hm1 hm6
 rw [bLaw_eq]
 have e0:(Jx (T4 sa xs P) 70).ex (sLaw P) (nthS (bLaw P) 0) ⟨loA sa,[],[]⟩=.ok .next ⟨loB sa 3,[.list (intA (xs.take 5)),.list (intA ((xs.take 5).map modeI)),.list [.int 33188],.list (intA (modesI xs))],addOb (chk (Nat.beq sa sa)) (addOb xs.length [])⟩:=l0 P sa xs
 refine wpAny_execs_cons (exJ ok (o.to (by omega)) hcv hsc e0 (chk_sz (Nat.beq_refl sa) (Sz.add (by rw [sizeLine_eq]; omega) Sz.nil)) H fun ρ₁ s₁ f₁ p₁ H₁ S₁ fr=>?_)
 cases fr
 dsimp only
 rw [modes_nat,hgen] at H₁
 obtain ⟨ρ₂,H₂,_⟩:=H₁.sel [3] [.list (natV ms)] (loB sa 0) (by show [some _]=[some (AO.list (rnL _ (natV ms)))]; rw [rnL_nat]) (by show (okL 1 (natV ms)&&true)=true; rw [okL_nat]; rfl) rfl (by kernel_rfl) (by kernel_rfl) (ob:=[])
 have e1:(Jx (T4 sa xs P) 90).ex (sLaw P) (nthS (bLaw P) 1) ⟨loB sa 0,[.list (natV ms)],[]⟩=.ok .next ⟨loC1 sa,hp1 ms,obHd (rowsS ms) (obU ms)⟩:=l1 P sa xs ms hm1 hm6
 refine wpAny_execs_cons (exJ ok (o.to (by omega)) hcv hsc e1 (ob1_sz hms) H₂ fun ρ₃ s₃ f₃ p₃ H₃ S₃ fr=>?_)
 cases fr
 dsimp only
 obtain ⟨a1,a2,a3,a4⟩:=selA sa ms hm1 hm6
 obtain ⟨ρ₄,H₄,_⟩:=H₃.sel (selT ms.length) (tabS sa (natV ms) (hsOf (rowsS ms))).hp (tabS sa (natV ms) (hsOf (rowsS ms))).lo a1 a2 a3 a4 (okA sa _ _) (ob:=[])
 have hc:=hs_count ms
 obtain ⟨b1,b2,b3,b4⟩:=l2 P sa xs ms (hsOf (rowsS ms)) hc.symm (by omega) (by omega)
 obtain ⟨c1,c2⟩:=selB ms (hsOf (rowsS ms)) hc.symm (by omega) (by omega)
 have e2:(Jx (T4 sa xs P) 110).ex (sLaw P) (nthS (bLaw P) 2) (tabS sa (natV ms) (hsOf (rowsS ms)))=.ok .next (stOf (lw2 P sa xs (natV ms) (hsOf (rowsS ms)))):=b1
 refine wpAny_execs_cons (exJ ok (o.to (by omega)) hcv hsc e2 (by rw [b4]; exact ob2_sz hm6) H₄ fun ρ₅ s₅ f₅ p₅ H₅ S₅ fr=>?_)
 cases fr
 dsimp only
 obtain ⟨ρ₆,H₆,_⟩:=H₅.sel (sel2 (hsOf (rowsS ms)).length) (hp2 (natV ms) (hsOf (rowsS ms))) (loD2 sa) b2 c1 c2 b3 (okB sa _ _) (ob:=[])
 have hrow:=rowL_all hms
 have hrl:(ms.map rowL).length=ms.length:=List.length_map ..
 have T:=plain_law hrow
 obtain ⟨hin,htl⟩:=textT_ok hrow
 rw [← rowsS_map] at T hin htl
 have hN:(rowsS ms).length=ms.length:=by simp [rowsS]
 rw [hrl] at T htl
 rw [← hN] at T
 have hne:=dueL_ne (rs:=rowsS ms) (by omega)
 have hlen:=dueL_len (rs:=rowsS ms) (by omega) rows_len
 obtain ⟨refs,tl,hnew,hitems⟩:=due_items (.list (natV ms)) (.list (rowsV (rowsS ms))) (rowsS ms)
 generalize hd:dueL (rowsS ms) (rowsS ms).length=dl at T hne hlen hitems
 generalize eF (opAt (rowsS ms) (rowsS ms).length)=ee at T hitems
 have T0:=T []
 cases T0 with
 | done h=>exact absurd rfl hne
 | @tok _ _ _ _ t ts ln' dn' rest' pb' l _ _ hr Tr =>
 have hrr:=rtok_rest hr
 have hin':∀ c∈rest',c∈signs:=fun c hc=>hin c (hrr.1.subset hc)
 have hpb':∀ c,pb'=some c→c∈signs:=fun c hc=>hin c (hrr.2 c hc)
 have hl':rest'.length<999:=by have h:rest'.length≤(textT (hsOf (rowsS ms))).length:=hrr.1.length_le; omega
 obtain ⟨ob',e3,z3⟩:=l3 P sa [.list (natV ms)] (ob:=[]) (rest:=textT (hsOf (rowsS ms))) (ln:=1) (dn:=[]) (pb:=.none) hin (fun c hc=>by cases hc) hr (by omega)
 refine wpAny_execs_cons (exJ ok' (o.to (by omega)) hcv hsc e3 (z3 Sz.nil) H₆ fun ρ₇ s₇ f₇ p₇ H₇ S₇ fr=>?_)
 cases fr
 dsimp only at H₇ ⊢
 have e4:=l4 P sa xs ⟨⟨t::ts⟩⟩ lexE .sp ln' dn' rest' pb' [] ms hm1 hm6
 have H₇':HS x ρ₇ ⟨loD3 sa ⟨⟨t::ts⟩⟩,lexH .sp lexE ln' dn' rest' pb' [.list (natV ms)],[]⟩ s₇.heap:=⟨H₇.ex⟩
 refine wpAny_execs_cons (exJ ok (o.to (by omega)) hcv hsc e4 (chk_sz (dueB_ok hm6) (obV_sz ms [] hms Sz.nil)) H₇' fun ρ₈ s₈ f₈ p₈ H₈ S₈ fr=>?_)
 cases fr
 dsimp only
 have H₈':HS x ρ₈ ⟨loD4 sa ⟨⟨t::ts⟩⟩,lexH .sp lexE ln' dn' rest' pb' []++([.list (natV ms),.list (rowsV (rowsS ms))]++dueNew (rowsS ms) 9),[]⟩ s₈.heap:=⟨H₈.ex⟩
 obtain ⟨ρa,A,os',rfl,hρa,hA,hor,hlay⟩:=H₈'.lay (lx_ok lexE ln' dn' rest' pb')
 have hρ7:ρa.length=7:=hρa
 rw [hnew] at hA hor hitems
 obtain ⟨oD,hoD,rD⟩:=hor.get (i:=2) (a:=.list refs) rfl
 obtain ⟨ws,nD,rfl,hws⟩:=rD
 have hA2:2<A.length:=by rw [hA]; simp
 have hgA:A[2]?=some A[2]:=List.getElem?_eq_getElem hA2
 have H₉:=hlay (lo5 sa ⟨⟨t::ts⟩⟩ A[2]) (lay_lo hgA _ rfl)
 have o9:CxOk g (x.fzd (A.zip os'++x.fz)) 112:=o.fzd hcv _
 have hD:(A[2],listO ws nD)∈(x.fzd (A.zip os'++x.fz)).fz:=List.mem_append_left _ (zip_mem' hgA hoD)
 have hW:All2 (ItIn (x.fzd (A.zip os'++x.fz)).fz) ws (.tok ln' ⟨⟨t::ts⟩⟩::(l.map tokI++endI (((rowsS ms).length:Int) + 2) ee)):=by
   have:=All2.chain (Q:=ItIn (A.zip os')) (R:=ItB 7 _) (R':=VR (ρa++A)) (fun a b c hi hv=>ItB.inn (ρ₁:=ρa) hor hv (by rw [hρ7]; exact hi)) hitems hws
   exact this.imp fun v i hi=>ItIn.wide (fun p hp=>List.mem_append_left _ hp) hi
 exact last_line (x:=x.fzd (A.zip os'++x.fz)) hK (by omega) (o9.to (by omega)) hcv hcl hout hsc XB TB Tr hin' hpb' hl' (by simp at hlen; omega) H₉ hD hW fun s' S' k=>hQ s' (((((S₁.trans S₃).trans S₅).trans S₇).trans S₈).trans S') k
end
end
end
section
set_option maxHeartbeats 4000000
theorem well_ints {P:Params} {h:Heap}:∀ {xs:List Int} {vs:List Value},WellAll P h vs (ofPys (xs.map PyData.int))→VRs [] (xs.map AV.int) vs
 | [],vs,w=>by
   have w:WellAll P h vs []:=w
   cases w; exact .nil
 | x::r,vs,w=>by
   have w:WellAll P h vs (.int x::ofPys (r.map PyData.int)):=w
   cases w with
   | cons a b =>
     cases a with
     | int _ t=>exact .cons ⟨t,rfl⟩ (well_ints b)
theorem well_list {P:Params} {h:Heap} {a:Addr} {xs:List Int} (w:Well P h (.ref a) (ofPy (.list (xs.map PyData.int)))):∃ vs,h.get? a=some (listO vs 0)∧VRs [] (xs.map AV.int) vs:=by
 have w:Well P h (.ref a) (.list (ofPys (xs.map PyData.int))):=w
 cases w with
 | list h1 h2=>exact ⟨_,h1,well_ints h2⟩
theorem law_body (P:Params):dLaw.body=bLaw P:=by kernel_rfl
theorem law_scope (P:Params):dLaw.scope.names=sLaw P:=by kernel_rfl
theorem law_kind:dLaw.scope.kind=.function:=by kernel_rfl
theorem law_co:dLaw.scope.isCoroutine=false:=by kernel_rfl
theorem law_gen:dLaw.scope.isGenerator=false:=by kernel_rfl
theorem law_nc:cellNs dLaw.scope.names=[]:=by kernel_rfl
theorem law_dfl:dLaw.params.defaults=[]:=by kernel_rfl
theorem room0:callerA.depth + 1 + 112 + 173<recursionLimit:=by decide
theorem units0:callerA.units + 3 + 8 * (112 + 173)<cLine:=by decide
theorem law_bind (w:World) (s:Shared) (pm cd doc kV a:Value):BindsTo s { docDef dLaw.name dLaw.params dLaw.body dLaw.scope pm cd doc with defaults:=.none,kwdefaults:=kV } ⟨[a],[]⟩ [(S "script",a)]:=BindsTo.of_eq (by kernel_rfl)
theorem law_locs (a:Value):∀ x∈[((S "script" : Str),a)],dLaw.scope.names.lookup x.1=some .local:=by
 intro x hx
 have:x=(S "script",a):=by simpa using hx
 subst this
 show dLaw.scope.names.lookup (S "script")=some .local
 kernel_rfl
theorem the_walk:WalkO qv looseN (fun _ _=>True) (InK KP) rw_.toRowW dLaw [] fun f vs=>PySem.call f vs:=by
 intro w s₀ s₁ mg mb G Y fa o pm cd doc dV kV ho hd hcd hD hmg hg args vals as hpre hlay hrd hwl hlo
 have KX:(KP w.params).In s₁.heap:=Y
 have T:=G.T
 wrow_args hpre hlay hrd hwl hlo
 rename_i xs _ _ _ _ _ _ _ sa vsA _ _ _ wl _ _ _ hlen0 _
 have hlen:xs.length≤63:=by omega
 obtain ⟨vs,hsa,hvs⟩:=well_list wl
 refine enter_call ?_
 refine codeAny_mono ?_ (fun _ _ g=>GoodW.toG g)
 have he:=Dflts.none hD law_dfl
 subst he
 refine call_fullW (by decide) ho hd T.nolimit hcd (law_bind w _ pm cd doc kV _) (law_locs _) (fun h₁ F=>?_) law_co law_gen law_kind (no_cell law_nc)
 let g:Gl:=⟨w,KP w.params,rw_.prog,qv,looseW qv looseN,ExcName.means s₀.heap,mg,mb,173,[(sa,listO vs 0)]⟩
 have hx:ScrOk g sa xs:=⟨vs,0,by show List.lookup sa [(sa,listO vs 0)]=_; simp,hvs⟩
 have EX:g.ex.In s₁.heap:=by
   intro a o' h
   have h:List.lookup a [(sa,listO vs 0)]=some o':=h
   rw [List.lookup_cons] at h
   split at h
   · rename_i e
     cases h
     have:a=sa:=by simpa using e
     subst this
     exact hsa
   · cases h
 have oX:CxOk g ⟨callerA,s₁.heap,[],s₁.heap,s₁.heap.objs.size,dLaw.name,dLaw.scope,fa,cd,[],[],none⟩ 112:=by
   refine ⟨below_caller _,KX,T,law_kind,rfl,law_kind,fun _=>rfl,fun y=>?_,(fun c hc=>by cases hc),room0,units0,EX⟩
   show (([]:List (Str × Addr)).lookup y).isSome=true ↔ look y dLaw.scope.names=some .cell
   rw [look_lookup]
   exact ⟨fun h=>by simp at h,fun h=>absurd rfl (no_cell law_nc _ (lookup_mem h))⟩
 have H:HS ⟨callerA,s₁.heap,[],s₁.heap,s₁.heap.objs.size,dLaw.name,dLaw.scope,fa,cd,[],[],none⟩ [] ⟨loA sa,[],[]⟩ h₁:=by
   refine ⟨_,[],F,⟨(fun p hp=>by cases hp),List.nodup_nil,(fun _ h=>by cases h),rfl,.nil⟩,fun y v hy=>?_⟩
   unfold loA at hy
   rw [look_cons] at hy
   cases hs:sq (S "script") y with
   | true =>
     simp only [hs] at hy
     cases hy
     rw [← (sq_iff _ _).mp hs]
     exact ⟨.ref sa,by show List.lookup (S "script") [(S "script",Value.ref sa)]=_; simp,rfl⟩
   | false=>simp only [hs] at hy; cases hy
 rw [law_body w.params]
 have W:=law_walk (g:=g) (P:=w.params) rfl (Nat.le_refl _) hx hlen oX rfl rfl rfl (law_scope w.params) KX T (s:={ s₁ with heap:=h₁,toks:=s₁.toks + 1 }) H
   (Q:=fun f s'=>GoodW rw_.claim (classAt s₀.heap) (ExcName.means s₀.heap) [ofPy (.list (xs.map PyData.int))] s₁ (.ok (.ret (match f with | .ret v=>v | _=>.none))) s') fun s' S' k=>?_
 · exact wpAny_mono W (fun _ _ q=>q) fun _ _ q=>q.elim
 · refine ⟨.inl ⟨.bool true,.bool true,[],rfl,fun cls=>?_,?_,?_,?_⟩,k,S'.2.2,S'.1.trans hg⟩
   · exact (raisesW_false (by wrow_none_raised)) cls
   · exact readsW_of_reads (.bool true)
   · kernel_rfl
   · exact fun _=>⟨List.nodup_nil,fun a h=>by cases h⟩
end
end Mine
set_option maxRecDepth 100000 in
set_option maxHeartbeats 4000000 in
theorem PySem.Challenge.cw_oh0110_01_holds : PySem.Challenge.rw_oh0110_01.Holds := by
  exact Mine.head Mine.the_walk
