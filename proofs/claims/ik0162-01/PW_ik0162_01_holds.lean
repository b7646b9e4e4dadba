import PyProof.Rows.All
import PySem.SetTable
import PySem.SetOps
import PyProof.TableCode
import PyProof.FactsBase
import PyProof.PlainAttrs
import PyProof.TableTree
import PyProof.FactsTree
import PyProof.FactsAll.str_8
import PyProof.FactsAll.tuple_2
import PyProof.AttrMissHeap
import PyProof.CollectWalk
import PyProof.Conv_int
import PyProof.EqAt
import PyProof.FactsAll.set_1
import PyProof.FactsAll.set_2
import PyProof.FactsAll.set_3
import PyProof.ListNew
import PyProof.Rows.RowBridgeG
import PyProof.Rows.GenFrame
import PyProof.Rows.GenRows
import PyProof.Rows.LoopInvV
import PyProof.Rows.AccFoldV
import PyProof.SetKind
import PyProof.Rows.SetObj
import PyProof.ZipIter
import PyProof.Rows.ZipGen
import PyProof.StrLawsLines
import PyProof.Rows.StrCut
import PyProof.Rows.SortShell
import PyProof.Rows.SortWalk
import KE.KPop
import KE.KState
import KE.KStateW
import KE.KLam
import KE.KEqDat
import KE.KNestM
import KE.KSetInts
import Wide.FinOn
import OpenK.AllK
import Wide.All
import Lean
import PySem.Challenge.RW_ik0162_01
set_option Elab.async false
set_option compiler.extract_closed false
set_option maxRecDepth 100000
set_option maxHeartbeats 16000000
set_option linter.all false
section
namespace Mine.Internal.Ar
set_option genSizeOf false
set_option genInjectivity false
abbrev Lin:=List Int
noncomputable def dot : Lin -> List Int -> Int
 | x :: l,y :: c=>x * y + dot l c
 | _,_=>0
noncomputable def add : Lin -> Lin -> Lin
 | x :: l,y :: m=>(x + y) :: add l m
 | [],m=>m
 | l,[]=>l
noncomputable def scale (k : Int) : Lin -> Lin
 | x :: l=>k * x :: scale k l
 | []=>[]
noncomputable def sub (l m : Lin) : Lin:=add l (scale (-1) m)
noncomputable def unit : Nat -> Lin
 | 0=>[1]
 | n + 1=>0 :: unit n
theorem dot_nil (c : List Int) : dot [] c = 0:=by cases c <;> rfl
theorem dot_add : ∀ (l m : Lin) (c : List Int),dot (add l m) c = dot l c + dot m c
 | [],m,c=>by rw [dot_nil,Int.zero_add];rfl
 | x :: l,[],c=>by rw [dot_nil,Int.add_zero];rfl
 | x :: l,y :: m,[]=>rfl
 | x :: l,y :: m,z :: c=>by
  show (x + y) * z + dot (add l m) c = x * z + dot l c + (y * z + dot m c)
  rw [dot_add l m c,Int.add_mul,Int.add_assoc,Int.add_assoc,Int.add_left_comm (y * z)]
theorem dot_scale (k : Int) : ∀ (l : Lin) (c : List Int),dot (scale k l) c = k * dot l c
 | [],c=>by rw [dot_nil,Int.mul_zero];exact dot_nil c
 | x :: l,[]=>(Int.mul_zero k).symm
 | x :: l,y :: c=>by
  show k * x * y + dot (scale k l) c = k * (x * y + dot l c)
  rw [dot_scale k l c,Int.mul_add,Int.mul_assoc]
theorem dot_sub (l m : Lin) (c : List Int) : dot (sub l m) c = dot l c - dot m c:=by rw [sub,dot_add,dot_scale,Int.neg_mul,Int.one_mul,Int.sub_eq_add_neg]
theorem dot_unit : ∀ (i : Nat) (c : List Int),dot (unit i) c = c.getD i 0
 | 0,[]=>rfl
 | 0,y :: c=>by show 1 * y + dot [] c = y;rw [dot_nil,Int.one_mul,Int.add_zero]
 | n + 1,[]=>rfl
 | n + 1,y :: c=>by show 0 * y + dot (unit n) c = _;rw [Int.zero_mul,Int.zero_add,dot_unit n c];rfl
structure Cx where
 c : List Nat
 z : List Int
 p : List Prop
noncomputable def vec : Nat -> List Nat -> List Int -> List Int
 | 0,_,_=>[]
 | n + 1,c,z=>(c.headD 0 : Int) :: z.headD 0 :: vec n c.tail z.tail
noncomputable def Cx.w (n : Nat) (c : Cx) : List Int:=1 :: vec n c.c c.z
theorem vec_c : ∀ (n i : Nat) (c : List Nat) (z : List Int),i < n -> (vec n c z).getD (2 * i) 0 = (c.getD i 0 : Nat)
 | n + 1,0,[],_,_=>rfl
 | n + 1,0,_ :: _,_,_=>rfl
 | n + 1,i + 1,c,z,h=>by
  rw [show 2 * (i + 1) = (2 * i) + 1 + 1 from rfl]
  refine (vec_c n i c.tail z.tail (Nat.lt_of_succ_lt_succ h)).trans ?_
  cases c <;> rfl
theorem vec_z : ∀ (n i : Nat) (c : List Nat) (z : List Int),i < n -> (vec n c z).getD (2 * i + 1) 0 = z.getD i 0
 | n + 1,0,_,[],_=>rfl
 | n + 1,0,_,_ :: _,_=>rfl
 | n + 1,i + 1,c,z,h=>by
  rw [show 2 * (i + 1) + 1 = (2 * i + 1) + 1 + 1 from rfl]
  refine (vec_z n i c.tail z.tail (Nat.lt_of_succ_lt_succ h)).trans ?_
  cases z <;> rfl
section
variable {v : List Int}
def Sat (v : List Int) (L : List Lin) : Prop:=∀ l ∈ L,0 <= dot l v
theorem Sat.app {L M : List Lin} (h : Sat v L) (k : Sat v M) : Sat v (L ++ M):=fun l hl=>(List.mem_append.mp hl).elim (h l) (k l)
theorem Sat.cons {l : Lin} {M : List Lin} (h : 0 <= dot l v) (k : Sat v M) : Sat v (l :: M):=fun m hm=>by
 rcases List.mem_cons.mp hm with rfl | hm
 ·exact h
 ·exact k m hm
theorem Sat.nil : Sat v []:=fun _ h=>nomatch h
theorem Sat.one {l : Lin} (h : 0 <= dot l v) : Sat v [l]:=Sat.cons h Sat.nil
theorem sat_sub {p q : Lin} {x y : Int} (e : x = dot p v) (e' : y = dot q v) (h : y <= x) : 0 <= dot (sub p q) v:=by rw [dot_sub,<- e,<- e'];exact Int.sub_nonneg_of_le h
end
inductive E where
 | v (i : Nat) | n (k : Nat) | a (x y : E) | s (x y : E) | m (k : Nat) (x : E) | mn (x y : E) | mx (x y : E) | c (x : E) | t (x : E) | g (x : E)
noncomputable def E.b (c : Cx) : E -> Nat × Int
 | v i=>(c.c.getD i 0,c.z.getD i 0)
 | n k=>(k,(k : Nat))
 | a x y=>((x.b c).1 + (y.b c).1,(x.b c).2 + (y.b c).2)
 | s x y=>((x.b c).1 - (y.b c).1,(x.b c).2 - (y.b c).2)
 | m k x=>(k * (x.b c).1,(k : Nat) * (x.b c).2)
 | mn x y=>(min (x.b c).1 (y.b c).1,min (x.b c).2 (y.b c).2)
 | mx x y=>(max (x.b c).1 (y.b c).1,max (x.b c).2 (y.b c).2)
 | .c x=>(0,((x.b c).1 : Nat))
 | t x=>(Int.toNat (x.b c).2,0)
 | g x=>(0,- (x.b c).2)
abbrev Al:=List (List Lin × Lin)
noncomputable def two (p q : Al) (f : Lin -> Lin -> Al) : Al:=p.flatMap fun x=>q.flatMap fun y=>(f x.2 y.2).map fun z=>(z.1 ++ (x.1 ++ y.1),z.2)
noncomputable def fmn (p q : Lin) : Al:=[([sub q p],p),([sub p q],q)]
noncomputable def fmx (p q : Lin) : Al:=[([sub p q],p),([sub q p],q)]
noncomputable def fsc (k : Nat) (p : Al) : Al:=two p [([],[])] fun x _=>[([],scale k x)]
noncomputable def fsb (p q : Lin) : Al:=[([sub p q],sub p q),([sub q p],[])]
noncomputable def fis (p q : Lin) : Al:=[([],sub p q)]
noncomputable def ftn (p _q : Lin) : Al:=[([p],p),([scale (-1) p],[])]
noncomputable def fng (p _q : Lin) : Al:=[([],scale (-1) p)]
noncomputable def E.al : E -> Al × Al
 | v i=>([([],unit (2 * i + 1))],[([],unit (2 * i + 1 + 1))])
 | n k=>([([],[(k : Nat)])],[([],[(k : Nat)])])
 | a x y=>(two x.al.1 y.al.1 fun p q=>[([],add p q)],two x.al.2 y.al.2 fun p q=>[([],add p q)])
 | s x y=>(two x.al.1 y.al.1 fsb,two x.al.2 y.al.2 fis)
 | m k x=>(fsc k x.al.1,fsc k x.al.2)
 | mn x y=>(two x.al.1 y.al.1 fmn,two x.al.2 y.al.2 fmn)
 | mx x y=>(two x.al.1 y.al.1 fmx,two x.al.2 y.al.2 fmx)
 | c x=>([([],[])],x.al.1)
 | t x=>(two x.al.2 [([],[])] ftn,[([],[])])
 | g x=>([([],[])],two x.al.2 [([],[])] fng)
noncomputable def E.lob (n : Nat) : E -> Bool
 | v i=>decide (i < n)
 | .n _=>true
 | a x y | s x y | mn x y | mx x y=>x.lob n && y.lob n
 | m _ x | c x | t x | g x=>x.lob n
def Has (v : List Int) (p : Al) (u : Int) : Prop:=∃ z ∈ p,Sat v z.1 /\ u = dot z.2 v
section
variable {w : List Int} {n : Nat}
theorem Has.two {p q : Al} {u v r : Int} {f : Lin -> Lin -> Al} (h : Has w p u) (k : Has w q v) (g : ∀ x y,u = dot x w -> v = dot y w -> Has w (f x y) r) : Has w (two p q f) r:=by
 obtain ⟨x,hx,sx,rfl⟩:=h
 obtain ⟨y,hy,sy,rfl⟩:=k
 obtain ⟨z,hz,sz,rfl⟩:=g x.2 y.2 rfl rfl
 exact ⟨_,List.mem_flatMap.mpr ⟨x,hx,List.mem_flatMap.mpr ⟨y,hy,List.mem_map.mpr ⟨z,hz,rfl⟩⟩⟩,sz.app (sx.app sy),rfl⟩
theorem has0 : Has w [([],[])] 0:=⟨_,.head _,Sat.nil,(dot_nil _).symm⟩
theorem Has.ad {p q : Lin} {x y : Int} (h : x = dot p w) (k : y = dot q w) : Has w [([],add p q)] (x + y):=⟨_,.head _,Sat.nil,by rw [dot_add,<- h,<- k]⟩
theorem Has.sc {p : Al} {x : Int} (k : Nat) (h : Has w p x) : Has w (fsc k p) (k * x):=h.two has0 fun p _ e _=>⟨_,.head _,Sat.nil,by rw [dot_scale,<- e]⟩
theorem Has.mn {p q : Lin} {x y : Int} (h : x = dot p w) (k : y = dot q w) : Has w (fmn p q) (min x y):=by
 rcases Int.le_total x y with hl | hl
 ·exact ⟨_,.head _,Sat.one (sat_sub k h hl),by rw [Int.min_eq_left hl];exact h⟩
 ·exact ⟨_,.tail _ (.head _),Sat.one (sat_sub h k hl),by rw [Int.min_eq_right hl];exact k⟩
theorem Has.mx {p q : Lin} {x y : Int} (h : x = dot p w) (k : y = dot q w) : Has w (fmx p q) (max x y):=by
 rcases Int.le_total x y with hl | hl
 ·exact ⟨_,.tail _ (.head _),Sat.one (sat_sub k h hl),by rw [Int.max_eq_right hl];exact k⟩
 ·exact ⟨_,.head _,Sat.one (sat_sub h k hl),by rw [Int.max_eq_left hl];exact h⟩
theorem Has.sb {p q : Lin} {x y : Nat} (h : (x : Int) = dot p w) (k : (y : Int) = dot q w) : Has w (fsb p q) ((x - y : Nat) : Int):=by
 rcases Nat.le_total y x with hl | hl
 ·exact ⟨_,.head _,Sat.one (sat_sub h k (Int.ofNat_le.mpr hl)),by rw [dot_sub,<- h,<- k];exact Int.ofNat_sub hl⟩
 ·exact ⟨_,.tail _ (.head _),Sat.one (sat_sub k h (Int.ofNat_le.mpr hl)),by rw [dot_nil];exact congrArg Int.ofNat (Nat.sub_eq_zero_of_le hl)⟩
theorem Has.si {p q : Lin} {x y : Int} (h : x = dot p w) (k : y = dot q w) : Has w (fis p q) (x - y):=⟨_,.head _,Sat.nil,by rw [dot_sub,<- h,<- k]⟩
theorem neg_dot {p : Lin} {x : Int} (h : x = dot p w) : -x = dot (scale (-1) p) w:=by rw [dot_scale,<- h,Int.neg_mul,Int.one_mul]
theorem Has.ng {p q : Lin} {x : Int} (h : x = dot p w) : Has w (fng p q) (-x):=⟨_,.head _,Sat.nil,neg_dot h⟩
theorem Has.tn {p q : Lin} {x : Int} (h : x = dot p w) : Has w (ftn p q) ((Int.toNat x : Nat) : Int):=by
 rcases Int.le_total 0 x with hl | hl
 ·exact ⟨_,.head _,Sat.one (h ▸ hl),by rw [<- h];exact Int.toNat_of_nonneg hl⟩
 ·exact ⟨_,.tail _ (.head _),Sat.one (neg_dot h ▸ Int.neg_nonneg_of_nonpos hl),by rw [dot_nil];exact congrArg Int.ofNat (Int.toNat_of_nonpos hl)⟩
theorem cast_min (x y : Nat) : ((min x y : Nat) : Int) = min (x : Int) y:=by
 rcases Nat.le_total x y with h | h
 ·rw [Nat.min_eq_left h,Int.min_eq_left (Int.ofNat_le.mpr h)]
 ·rw [Nat.min_eq_right h,Int.min_eq_right (Int.ofNat_le.mpr h)]
theorem cast_max (x y : Nat) : ((max x y : Nat) : Int) = max (x : Int) y:=by
 rcases Nat.le_total x y with h | h
 ·rw [Nat.max_eq_right h,Int.max_eq_right (Int.ofNat_le.mpr h)]
 ·rw [Nat.max_eq_left h,Int.max_eq_left (Int.ofNat_le.mpr h)]
theorem dot_num (k : Nat) (v : List Int) : (k : Int) = dot [(k : Int)] (1 :: v):=by show _ = (k : Int) * 1 + dot [] v;rw [dot_nil,Int.mul_one,Int.add_zero]
theorem E.has {c : Cx} (e : E) (h : e.lob n = true) : Has (c.w n) e.al.1 ((e.b c).1 : Nat) /\ Has (c.w n) e.al.2 (e.b c).2:=by
 induction e with
 | v i =>
  have h' : i < n:=of_decide_eq_true h
  exact ⟨⟨_,.head _,Sat.nil,(dot_unit _ _).symm ▸ (vec_c n i c.c c.z h').symm⟩,⟨_,.head _,Sat.nil,(dot_unit _ _).symm ▸ (vec_z n i c.c c.z h').symm⟩⟩
 | n k=>exact ⟨⟨_,.head _,Sat.nil,dot_num k _⟩,⟨_,.head _,Sat.nil,dot_num k _⟩⟩
 | a x y hx hy =>
  have h:=(Bool.and_eq_true _ _).mp h
  exact ⟨(hx h.1).1.two (hy h.2).1 fun _ _ h k=>Has.ad h k,(hx h.1).2.two (hy h.2).2 fun _ _ h k=>Has.ad h k⟩
 | s x y hx hy =>
  have h:=(Bool.and_eq_true _ _).mp h
  exact ⟨(hx h.1).1.two (hy h.2).1 fun _ _ h k=>Has.sb h k,(hx h.1).2.two (hy h.2).2 fun _ _ h k=>Has.si h k⟩
 | m k x hx=>exact ⟨(hx h).1.sc k,(hx h).2.sc k⟩
 | mn x y hx hy =>
  have h:=(Bool.and_eq_true _ _).mp h
  exact ⟨(cast_min _ _).symm ▸ (hx h.1).1.two (hy h.2).1 fun _ _ h k=>Has.mn h k,(hx h.1).2.two (hy h.2).2 fun _ _ h k=>Has.mn h k⟩
 | mx x y hx hy =>
  have h:=(Bool.and_eq_true _ _).mp h
  exact ⟨(cast_max _ _).symm ▸ (hx h.1).1.two (hy h.2).1 fun _ _ h k=>Has.mx h k,(hx h.1).2.two (hy h.2).2 fun _ _ h k=>Has.mx h k⟩
 | c x hx=>exact ⟨has0,(hx h).1⟩
 | t x hx=>exact ⟨(hx h).2.two has0 fun _ _ e _=>Has.tn e,has0⟩
 | g x hx=>exact ⟨has0,(hx h).2.two has0 fun _ _ e _=>Has.ng e⟩
end
inductive F where
 | le (x y : E) | lt (x y : E) | eq (x y : E) | ile (x y : E) | ilt (x y : E) | ieq (x y : E) | no (f : F) | an (f g : F) | or (f g : F) | im (f g : F) | ff (f g : F) | fa | p (i : Nat)
noncomputable def F.d (c : Cx) : F -> Prop
 | le x y=>(x.b c).1 <= (y.b c).1
 | lt x y=>(x.b c).1 < (y.b c).1
 | eq x y=>(x.b c).1 = (y.b c).1
 | ile x y=>(x.b c).2 <= (y.b c).2
 | ilt x y=>(x.b c).2 < (y.b c).2
 | ieq x y=>(x.b c).2 = (y.b c).2
 | no f=>¬ f.d c
 | an f g=>f.d c /\ g.d c
 | or f g=>f.d c \/ g.d c
 | im f g=>f.d c -> g.d c
 | ff f g=>f.d c ↔ g.d c
 | fa=>False
 | p i=>c.p.getD i True
abbrev Dn:=List (List Lin)
noncomputable def pr (x y : Al) (f : Lin -> Lin -> Dn) : Dn:=x.flatMap fun p=>y.flatMap fun q=>(f p.2 q.2).map fun z=>z ++ (p.1 ++ q.1)
noncomputable def both (p q : Dn) : Dn:=p.flatMap fun x=>q.map fun y=>x ++ y
noncomputable def kle (p q : Lin) : Dn:=[[sub q p]]
noncomputable def klt (p q : Lin) : Dn:=[[sub q (add p [1])]]
noncomputable def keq (p q : Lin) : Dn:=[[sub p q,sub q p]]
noncomputable def kne (p q : Lin) : Dn:=[[sub q (add p [1])],[sub p (add q [1])]]
noncomputable def F.dn : F -> Dn × Dn
 | le x y=>(pr x.al.1 y.al.1 kle,pr y.al.1 x.al.1 klt)
 | lt x y=>(pr x.al.1 y.al.1 klt,pr y.al.1 x.al.1 kle)
 | eq x y=>(pr x.al.1 y.al.1 keq,pr x.al.1 y.al.1 kne)
 | ile x y=>(pr x.al.2 y.al.2 kle,pr y.al.2 x.al.2 klt)
 | ilt x y=>(pr x.al.2 y.al.2 klt,pr y.al.2 x.al.2 kle)
 | ieq x y=>(pr x.al.2 y.al.2 keq,pr x.al.2 y.al.2 kne)
 | no f=>(f.dn.2,f.dn.1)
 | an f g=>(both f.dn.1 g.dn.1,f.dn.2 ++ g.dn.2)
 | or f g=>(f.dn.1 ++ g.dn.1,both f.dn.2 g.dn.2)
 | im f g=>(f.dn.2 ++ g.dn.1,both f.dn.1 g.dn.2)
 | ff f g=>(both f.dn.1 g.dn.1 ++ both f.dn.2 g.dn.2,both f.dn.1 g.dn.2 ++ both f.dn.2 g.dn.1)
 | fa=>([],[[]])
 | p _=>([[]],[[]])
noncomputable def F.lob (n : Nat) : F -> Bool
 | le x y | lt x y | eq x y | ile x y | ilt x y | ieq x y=>x.lob n && y.lob n
 | an x y | or x y | im x y | ff x y=>x.lob n && y.lob n
 | no f=>f.lob n
 | fa | p _=>true
def Any (w : List Int) (p : Dn) : Prop:=∃ z ∈ p,Sat w z
section
variable {w : List Int} {n : Nat}
theorem Any.pr {x y : Al} {u v : Int} {f : Lin -> Lin -> Dn} (h : Has w x u) (k : Has w y v) (g : ∀ p q,u = dot p w -> v = dot q w -> Any w (f p q)) : Any w (Ar.pr x y f):=by
 obtain ⟨p,hp,sp,e⟩:=h
 obtain ⟨q,hq,sq,e'⟩:=k
 obtain ⟨z,hz,sz⟩:=g _ _ e e'
 exact ⟨_,List.mem_flatMap.mpr ⟨p,hp,List.mem_flatMap.mpr ⟨q,hq,List.mem_map.mpr ⟨z,hz,rfl⟩⟩⟩,sz.app (sp.app sq)⟩
theorem Any.both {p q : Dn} (h : Any w p) (k : Any w q) : Any w (Ar.both p q):=by
 obtain ⟨x,hx,sx⟩:=h
 obtain ⟨y,hy,sy⟩:=k
 exact ⟨_,List.mem_flatMap.mpr ⟨x,hx,List.mem_map.mpr ⟨y,hy,rfl⟩⟩,sx.app sy⟩
theorem Any.l {p q : Dn} (h : Any w p) : Any w (p ++ q):=let ⟨x,hx,s⟩:=h;⟨x,List.mem_append_left _ hx,s⟩
theorem Any.r {p q : Dn} (h : Any w q) : Any w (p ++ q):=let ⟨x,hx,s⟩:=h;⟨x,List.mem_append_right _ hx,s⟩
theorem Any.lt {x y : Al} {u v : Int} {c : List Int} (h : Has (1 :: c) x u) (k : Has (1 :: c) y v) (l : u < v) : Any (1 :: c) (Ar.pr x y klt) :=
 Any.pr h k fun p q e e'=>⟨_,.head _,Sat.one (sat_sub e' (x:=v) (y:=u + 1) (by rw [dot_add,<- e];exact congrArg (u + ·) (dot_num 1 c)) l)⟩
theorem Any.le {x y : Al} {u v : Int} (h : Has w x u) (k : Has w y v) (l : u <= v) : Any w (Ar.pr x y kle) :=
 Any.pr h k fun p q e e'=>⟨_,.head _,Sat.one (sat_sub e' e l)⟩
theorem Any.eq {x y : Al} {u v : Int} (h : Has w x u) (k : Has w y v) (l : u = v) : Any w (Ar.pr x y keq) :=
 Any.pr h k fun p q e e'=>⟨_,.head _,Sat.cons (sat_sub e e' (Int.le_of_eq l.symm)) (Sat.one (sat_sub e' e (Int.le_of_eq l)))⟩
theorem Any.ne {x y : Al} {u v : Int} {c : List Int} (h : Has (1 :: c) x u) (k : Has (1 :: c) y v) (l : ¬ u = v) : Any (1 :: c) (Ar.pr x y kne) :=
 Any.pr h k fun p q e e'=>by
  rcases Int.lt_or_gt_of_ne l with hh | hh
  ·exact ⟨_,.head _,Sat.one (sat_sub e' (x:=v) (y:=u + 1) (by rw [dot_add,<- e];exact congrArg (u + ·) (dot_num 1 c)) hh)⟩
  ·exact ⟨_,.tail _ (.head _),Sat.one (sat_sub e (x:=u) (y:=v + 1) (by rw [dot_add,<- e'];exact congrArg (v + ·) (dot_num 1 c)) hh)⟩
theorem F.any {c : Cx} (f : F) (h : f.lob n = true) : (f.d c -> Any (c.w n) f.dn.1) /\ (¬ f.d c -> Any (c.w n) f.dn.2):=by
 induction f with
 | le x y =>
  have h:=(Bool.and_eq_true _ _).mp h
  exact ⟨fun k=>Any.le (x.has h.1).1 (y.has h.2).1 (Int.ofNat_le.mpr k),fun k=>Any.lt (y.has h.2).1 (x.has h.1).1 (Int.ofNat_lt.mpr (Nat.lt_of_not_le k))⟩
 | lt x y =>
  have h:=(Bool.and_eq_true _ _).mp h
  exact ⟨fun k=>Any.lt (x.has h.1).1 (y.has h.2).1 (Int.ofNat_lt.mpr k),fun k=>Any.le (y.has h.2).1 (x.has h.1).1 (Int.ofNat_le.mpr (Nat.le_of_not_lt k))⟩
 | eq x y =>
  have h:=(Bool.and_eq_true _ _).mp h
  exact ⟨fun k=>Any.eq (x.has h.1).1 (y.has h.2).1 (congrArg Int.ofNat k),fun k=>Any.ne (x.has h.1).1 (y.has h.2).1 fun e=>k (Int.ofNat.inj e)⟩
 | ile x y =>
  have h:=(Bool.and_eq_true _ _).mp h
  exact ⟨fun k=>Any.le (x.has h.1).2 (y.has h.2).2 k,fun k=>Any.lt (y.has h.2).2 (x.has h.1).2 (Int.lt_of_not_ge k)⟩
 | ilt x y =>
  have h:=(Bool.and_eq_true _ _).mp h
  exact ⟨fun k=>Any.lt (x.has h.1).2 (y.has h.2).2 k,fun k=>Any.le (y.has h.2).2 (x.has h.1).2 (Int.not_lt.mp k)⟩
 | ieq x y =>
  have h:=(Bool.and_eq_true _ _).mp h
  exact ⟨fun k=>Any.eq (x.has h.1).2 (y.has h.2).2 k,fun k=>Any.ne (x.has h.1).2 (y.has h.2).2 k⟩
 | no f hf=>exact ⟨(hf h).2,fun k=>(hf h).1 (Classical.not_not.mp k)⟩
 | an f g hf hg =>
  have h:=(Bool.and_eq_true _ _).mp h
  refine ⟨fun k=>((hf h.1).1 k.1).both ((hg h.2).1 k.2),fun k=>?_⟩
  by_cases q : f.d c
  ·exact Any.r ((hg h.2).2 fun hg=>k ⟨q,hg⟩)
  ·exact Any.l ((hf h.1).2 q)
 | or f g hf hg =>
  have h:=(Bool.and_eq_true _ _).mp h
  exact ⟨fun k=>k.elim (fun k=>Any.l ((hf h.1).1 k)) (fun k=>Any.r ((hg h.2).1 k)),fun k=>((hf h.1).2 fun q=>k (.inl q)).both ((hg h.2).2 fun q=>k (.inr q))⟩
 | im f g hf hg =>
  have h:=(Bool.and_eq_true _ _).mp h
  by_cases q : f.d c
  ·exact ⟨fun k=>Any.r ((hg h.2).1 (k q)),fun k=>((hf h.1).1 q).both ((hg h.2).2 fun r=>k fun _=>r)⟩
  ·exact ⟨fun _=>Any.l ((hf h.1).2 q),fun k=>absurd (fun r=>absurd r q) k⟩
 | ff f g hf hg =>
  have h:=(Bool.and_eq_true _ _).mp h
  by_cases q : f.d c
  ·exact ⟨fun k=>Any.l (((hf h.1).1 q).both ((hg h.2).1 (k.mp q))),fun k=>Any.l (((hf h.1).1 q).both ((hg h.2).2 fun r=>k ⟨fun _=>r,fun _=>q⟩))⟩
  ·exact ⟨fun k=>Any.r (((hf h.1).2 q).both ((hg h.2).2 fun r=>q (k.mpr r))),fun k=>Any.r (((hf h.1).2 q).both ((hg h.2).1 (Classical.byContradiction fun r=>k ⟨fun s=>absurd s q,fun s=>absurd s r⟩)))⟩
 | fa=>exact ⟨False.elim,fun _=>⟨_,.head _,Sat.nil⟩⟩
 | p i=>exact ⟨fun _=>⟨_,.head _,Sat.nil⟩,fun _=>⟨_,.head _,Sat.nil⟩⟩
end
noncomputable def co : Lin -> Int
 | _ :: x :: _=>x
 | _=>0
noncomputable def rest : Lin -> Lin
 | k :: _ :: r=>k :: r
 | l=>l
noncomputable def sgn : Int -> Nat
 | .ofNat 0=>0
 | .ofNat _=>1
 | .negSucc _=>2
noncomputable def step (M : List Lin) : List Lin :=
 let P:=M.filter fun l=>sgn (co l) == 1
 let N:=M.filter fun l=>sgn (co l) == 2
 ((M.filter fun l=>sgn (co l) == 0).map rest) ++ P.flatMap fun p=>N.map fun q=>add (scale (-(co q)) (rest p)) (scale (co p) (rest q))
noncomputable def bad : List Lin -> Bool
 | [.negSucc _] :: _=>true
 | _ :: L=>bad L
 | []=>false
noncomputable def fm : Nat -> List Lin -> Bool
 | 0,L=>bad L
 | n + 1,L=>fm n (step L)
theorem dot_rest : ∀ (l : Lin) (c : List Int),dot l (1 :: c) = dot (rest l) (1 :: c.tail) + co l * c.headD 0
 | [],c=>(by rw [dot_nil,show rest [] = [] from rfl,dot_nil];show 0 = 0 + 0 * c.headD 0;rw [Int.zero_mul];rfl)
 | [k],c=>(by show k * 1 + dot [] c = k * 1 + dot [] c.tail + 0 * _;rw [dot_nil,dot_nil,Int.zero_mul,Int.add_zero,Int.add_zero])
 | k :: x :: r,[]=>(by show k * 1 + 0 = k * 1 + dot r [] + x * 0;rw [Int.mul_zero,Int.add_zero,Int.add_zero];cases r <;> exact (Int.add_zero _).symm)
 | k :: x :: r,y :: c=>(by show k * 1 + (x * y + dot r c) = k * 1 + dot r c + x * y;rw [Int.add_comm (x * y),Int.add_assoc])
theorem sgn0 : ∀ {x : Int},(sgn x == 0) = true -> x = 0
 | .ofNat 0,_=>rfl
theorem sgn1 : ∀ {x : Int},(sgn x == 1) = true -> 0 <= x
 | .ofNat n,_=>Int.natCast_nonneg n
theorem sgn2 : ∀ {x : Int},(sgn x == 2) = true -> x <= 0
 | .ofNat 0,_=>Int.le_refl _
 | .negSucc n,_=>Int.le_of_lt (Int.negSucc_lt_zero n)
theorem step_sat {c : List Int} {L : List Lin} (hM : Sat (1 :: c) L) : Sat (1 :: c.tail) (step L):=by
 intro l hl
 rcases List.mem_append.mp hl with hl | hl
 ·obtain ⟨m,hm,rfl⟩:=List.mem_map.mp hl
  obtain ⟨hm,hz⟩:=List.mem_filter.mp hm
  have:=hM m hm
  rw [dot_rest,sgn0 hz,Int.zero_mul,Int.add_zero] at this
  exact this
 ·obtain ⟨p,hp,hl⟩:=List.mem_flatMap.mp hl
  obtain ⟨q,hq,rfl⟩:=List.mem_map.mp hl
  obtain ⟨hp,zp⟩:=List.mem_filter.mp hp
  obtain ⟨hq,zq⟩:=List.mem_filter.mp hq
  have h1:=hM p hp
  have h2:=hM q hq
  rw [dot_rest] at h1 h2
  rw [dot_add,dot_scale,dot_scale]
  have e:=Int.add_nonneg (Int.mul_nonneg (Int.neg_nonneg_of_nonpos (sgn2 zq)) h1) (Int.mul_nonneg (sgn1 zp) h2)
  have x : co p * (co q * c.headD 0) = co q * (co p * c.headD 0):=Int.mul_left_comm ..
  rw [Int.mul_add,Int.mul_add,x,Int.add_assoc,Int.add_left_comm (_ * (_ * _)),Int.neg_mul,Int.neg_mul,Int.add_left_neg,Int.add_zero,<- Int.neg_mul] at e
  exact e
theorem bad_no {c : List Int} : ∀ {L : List Lin},bad L = true -> ¬ Sat (1 :: c) L
 | [.negSucc k] :: L,_,s=>by
  have:=s _ (.head _)
  rw [show dot [Int.negSucc k] (1 :: c) = Int.negSucc k * 1 + dot [] c from rfl,dot_nil,Int.mul_one,Int.add_zero] at this
  exact absurd this (Int.not_le.mpr (Int.negSucc_lt_zero k))
 | [] :: L,h,s=>bad_no (L:=L) h fun l hl=>s l (.tail _ hl)
 | [.ofNat _] :: L,h,s=>bad_no (L:=L) h fun l hl=>s l (.tail _ hl)
 | (.ofNat _ :: _ :: _) :: L,h,s=>bad_no (L:=L) h fun l hl=>s l (.tail _ hl)
 | (.negSucc _ :: _ :: _) :: L,h,s=>bad_no (L:=L) h fun l hl=>s l (.tail _ hl)
theorem fm_no : ∀ (n : Nat) {c : List Int} {L : List Lin},fm n L = true -> ¬ Sat (1 :: c) L
 | 0,_,_,h,s=>bad_no h s
 | n + 1,_,_,h,s=>fm_no n h (step_sat s)
noncomputable def pos (m : Nat) : Nat -> List Lin
 | 0=>[]
 | n + 1=>if n < m then unit (2 * n + 1) :: pos m n else pos m n
theorem pos_sat (m : Nat) (c : Cx) : ∀ n,Sat (c.w m) (pos m n)
 | 0=>Sat.nil
 | n + 1=>by
  rw [pos]
  by_cases h : n < m
  ·rw [if_pos h]
   refine Sat.cons ?_ (pos_sat m c n)
   rw [dot_unit]
   exact (vec_c m n c.c c.z h).symm ▸ Int.natCast_nonneg _
  ·rw [if_neg h]
   exact pos_sat m c n
noncomputable def ok (m n : Nat) (f : F) : Bool:=f.lob m && f.dn.2.all fun L=>fm (2 * m) (pos m n ++ L)
theorem dec (m n : Nat) (f : F) (c : Cx) (h : ok m n f = true) : f.d c:=by
 apply Classical.byContradiction
 intro k
 have h:=(Bool.and_eq_true _ _).mp h
 obtain ⟨z,hz,s⟩:=(F.any (n:=m) f h.1).2 k
 exact fm_no _ (List.all_eq_true.mp h.2 z hz) ((pos_sat m c n).app s)
noncomputable def rn {R : Type} : Nat -> Nat -> Nat -> Nat -> (Nat -> Nat -> R) -> R
 | 0,a,_,N,k=>k a N
 | l + 1,a,w,N,k=>rn l (a + w * (N % 32)) (w * 32) (N / 32) k
noncomputable def re {R : Type} : Nat -> Nat -> (E -> Nat -> R) -> R
 | 0,N,k=>k (.n 0) N
 | g + 1,N,k =>
  match N % 32 with
  | 12=>k (.n (N / 32 % 32)) (N / 1024)
  | 13=>rn (N / 32 % 32) 0 1 (N / 1024) fun a M=>k (.n a) M
  | 14=>re g (N / 32) fun x M=>re g M fun y M=>k (.a x y) M
  | 15=>re g (N / 32) fun x M=>re g M fun y M=>k (.s x y) M
  | 16=>re g (N / 1024) fun x M=>k (.m (N / 32 % 32) x) M
  | 17=>re g (N / 32) fun x M=>re g M fun y M=>k (.mn x y) M
  | 18=>re g (N / 32) fun x M=>re g M fun y M=>k (.mx x y) M
  | 27=>re g (N / 32768) fun x M=>k (.m (N / 32 % 1024) x) M
  | 28=>re g (N / 32) fun x M=>k (.c x) M
  | 29=>re g (N / 32) fun x M=>k (.t x) M
  | 30=>re g (N / 32) fun x M=>k (.g x) M
  | i=>k (.v i) (N / 32)
noncomputable def rf : Nat -> Nat -> (F -> Nat -> F) -> F
 | 0,N,k=>k .fa N
 | g + 1,N,k =>
  match N % 32 with
  | 0=>re g (N / 32) fun x M=>re g M fun y M=>k (.ile x y) M
  | 1=>re g (N / 32) fun x M=>re g M fun y M=>k (.ilt x y) M
  | 2=>re g (N / 32) fun x M=>re g M fun y M=>k (.ieq x y) M
  | 3=>rf g (N / 32) fun x M=>rf g M fun y M=>k (.ff x y) M
  | 4=>k (.p (N / 32 % 32)) (N / 1024)
  | 19=>re g (N / 32) fun x M=>re g M fun y M=>k (.le x y) M
  | 20=>re g (N / 32) fun x M=>re g M fun y M=>k (.lt x y) M
  | 21=>re g (N / 32) fun x M=>re g M fun y M=>k (.eq x y) M
  | 22=>rf g (N / 32) fun x M=>k (.no x) M
  | 23=>rf g (N / 32) fun x M=>rf g M fun y M=>k (.an x y) M
  | 24=>rf g (N / 32) fun x M=>rf g M fun y M=>k (.or x y) M
  | 25=>rf g (N / 32) fun x M=>rf g M fun y M=>k (.im x y) M
  | _=>k .fa (N / 32)
noncomputable def rd (N : Nat) : F:=rf 30 (N / 1024) fun f _=>f
noncomputable def okN (N : Nat) : Bool:=ok (N % 32) (N / 32 % 32) (rd N)
theorem D (N : Nat) (c : List Nat) (h : okN N = true:=by kernel_rfl) : (rd N).d ⟨c,[],[]⟩:=dec _ _ _ _ h
theorem D3 (N : Nat) (c : List Nat) (z : List Int) (p : List Prop) (h : okN N = true:=by kernel_rfl) : (rd N).d ⟨c,z,p⟩:=dec _ _ _ _ h
end Mine.Internal.Ar
namespace Mine.Internal
theorem bc {p : Prop} (h : ¬¬p) : p:=Classical.not_not.mp h
section
open Ar
theorem o0{a b c d:Nat}:a+b<=c->d<b->a+d<c:=D 0x2181d408e991040e9e484 [a,b,c,d]
theorem o1{a:Nat}:a%16<16:=D 0x4182a4182a64020c20eae463 [a,a/16,a%16] (by kernel_rfl) (Nat.div_add_mod _ 16) (Nat.mod_lt _ (by decide))
theorem o2{a:Nat}:(0:Int)<=(a:Int):=D 0x38060021 [a]
theorem o3:0<=16777216:=D 0x80000015a064c00 []
theorem o4{a b:Nat}:a<=b->a<=b:=D 0x104c209e442 [a,b]
theorem o5{a:Nat}:a<256->a/16<16:=D 0x20c0d10013414cc182a64020c20eae463 [a,a/16,a%16] (by kernel_rfl) (Nat.div_add_mod _ 16) (Nat.mod_lt _ (by decide))
theorem o6{a b:Nat}:a<=b->a+(b-a)=b:=D 0x1005e0754209e442 [a,b]
theorem o7{a b:Nat}:a-1<b->a-1<=b:=D 0x42c03e610b00fa6442 [a,b]
theorem o8{a b:Nat}:a+1<b->a<b:=D 0x82810b00ea6442 [a,b]
theorem o9{a:Nat}:0<a->a-1<a:=D 0xb00fa000ca6421 [a]
theorem o10{a b:Nat}:a<=a+b:=D 0x40e04c42 [a,b]
theorem o11{a b c:Nat}:a<b->c=b->a<c:=D 0x205022ae420a6463 [a,b,c]
theorem o12{a b:Nat}:a<b->(a:Int)<(b:Int):=D 0x780e0420a6442 [a,b]
theorem o13{a:Nat}:0<=a:=D 0x64c21 [a]
theorem o15{a:Nat}:a-1≠0->0<a-1:=D 0x2c03c0ca0181601f5b6421 [a]
theorem o16{a b:Nat}:a<b->a<=b-1:=D 0xb02f04c20a6442 [a,b]
theorem o18{a b:Nat}:a<b->b<=a->False:=D 0x68019e420a6442 [a,b]
theorem o19{a:Nat}:a<=900->a+1<=1000:=D 0x3e81342c03a7c209a09e421 [a]
theorem o20{a b:Nat}:0<a->a<=b->a-1<b:=D 0x10b00fa0413c800ca6442 [a,b]
theorem o21{a:Nat}:a<=a:=D 0x4c21 [a]
theorem o25{a b:Nat}:a<=b->a>=b->a=b:=D 0x1054019e4209e442 [a,b]
theorem o26{a:Nat}:a<=1000->a<=16777216:=D 0x200000056827f409a09e421 [a]
theorem o27{a:Nat}:16*(a/16)+a%16=a:=D 0x20c20eac182a64020c20eae463 [a,a/16,a%16] (by kernel_rfl) (Nat.div_add_mod _ 16) (Nat.mod_lt _ (by decide))
theorem o28{a b c:Nat}:a<b+c->b<=a->a-b<c:=D 0x2081f400679105c0a6463 [a,b,c]
theorem o29{a b c:Nat}:a+b<=c->b<=c-a:=D 0x13c331040e9e463 [a,b,c]
theorem o30{a b c d:Nat}:a+b<=c->c<a+d->c-a<d:=D 0xc027d06070a991040e9e484 [a,b,c,d]
theorem o31{a b c:Nat}:a+b<=c->a+(c-a)=c:=D 0x802781d51040e9e463 [a,b,c]
theorem o32{a b:Nat}:a<b->a<0+b:=D 0x818e05020a6442 [a,b]
theorem o33{a b:Nat}:a<b->a<=b:=D 0x104c20a6442 [a,b]
theorem o38{a b:Nat}:a<b->a+1<=b:=D 0x858074c20a6442 [a,b]
theorem o39{a b c:Nat}:a<b->c<a->c<b:=D 0x115002a6420a6463 [a,b,c]
theorem o40{a b c:Nat}:a-b=c+1->b<a:=D 0x1a05827040fae463 [a,b,c]
theorem o41{a:Nat}:a<2*a+1:=D 0x2c00a0e05021 [a]
theorem o42:0<=1000:=D 0x1f409a064c00 []
theorem o43:0<1:=D 0x58065000 []
theorem o44{a b:Nat}:a<b+1->b<=a->a=b:=D 0x82a00cf21605c0a6442 [a,b]
theorem o45{a:Nat}:a<0->False:=D 0xd0180a6421 [a]
theorem o46{a b c:Nat}:a<=b->c+a<=c+b:=D 0x11380274c209e463 [a,b,c]
theorem o48{a:Nat}:1<a->a-1≠1->1<a-1:=D 0x580785940b02c03eb6c802ca6421 [a]
theorem o49{a b:Nat}:a<=b->0+a<=b:=D 0x800c74c209e442 [a,b]
theorem o50{a b c:Nat}:a<b->c+a<c+b:=D 0x11380275020a6463 [a,b,c]
theorem o51{a b:Nat}:¬a<b->b<=a:=D 0x198414b6442 [a,b]
theorem o52{a b c d e:Nat}:a+b<=c->d=c->e<=b->a+e<=d:=D 0x3201d30927910eb91040e9e4a5 [a,b,c,d,e]
theorem o53{a b:Nat}:a<b->(a-1)/2<b:=D 0x115020a644c1d321601e310a0eae484 [a,b,(a-1)/2,(a-1)%2] (by kernel_rfl) (Nat.div_add_mod _ 2) (Nat.mod_lt _ (by decide))
theorem o54{a b:Nat}:a=b->b<=a:=D 0xcc20ae442 [a,b]
theorem o57{a:Nat}:a<256->(a:Int)<=(1114111:Int):=D 0x43fffcad07008009a0a6421 [a]
theorem o60{a b:Nat}:a<256->b<=a->b/16<16:=D 0x20c150019e50013414cc183a64231420eae484 [a,b,b/16,b%16] (by kernel_rfl) (Nat.div_add_mod _ 16) (Nat.mod_lt _ (by decide))
theorem o61{a:Nat}:a<256->a/16-1<16:=D 0x10605817d10013414cc182a64020c20eae463 [a,a/16,a%16] (by kernel_rfl) (Nat.div_add_mod _ 16) (Nat.mod_lt _ (by decide))
theorem o62:15<16:=D 0x418f65000 []
theorem o63{a b c:Nat}:a<b->b<c+1->b-1<c:=D 0x82c0be81609c1a6420a6463 [a,b,c]
theorem o64{a b:Nat}:a-b=0->b<=a->b=a:=D 0x6a00cf206040fae442 [a,b]
theorem o65{a b c:Nat}:a-b=c+1->a-(b+1)=c:=D 0x82c0b80fa85827040fae463 [a,b,c]
theorem o67{a:Nat}:(0:Int)<=(2:Int)*(a:Int)+(1:Int):=D 0xb01c141c060021 [a]
theorem o68{a:Nat}:Int.toNat ((2:Int)*(a:Int)+(1:Int))=2*a+1:=D 0x16005070580e0a0eed421 [a]
theorem o69{a:Nat}:Int.toNat ((2:Int)*(a:Int)+(1:Int)+(1:Int))=2*a+2:=D 0x130028382c0b01c141ceed421 [a]
theorem o70{a b c:Nat}:(2:Int)*(a:Int)+(1:Int)+(1:Int)<(b:Int)->c=b->2*a+1<c:=D 0x10580141d408ab90f02c0b01c141ce0e463 [a,b,c]
theorem o72{a b c:Nat}:¬a>=b-c->c+a<b:=D 0x2013a80105f3b6463 [a,b,c]
theorem o73{a b c d:Nat}:a<min b c-d->d+a<c:=D 0x803750620c5e0a6484 [a,b,c,d]
theorem o74{a:Nat}:a<=a+1:=D 0xb00e04c21 [a]
theorem o75{a b:Nat}:a+1≠b->a<b->a+1<b:=D 0x858075020a6421601d5b6442 [a,b]
theorem o76{a b:Nat}:a+1+1≠b->a+1<b->a+1+1<b:=D 0x10b02c039d408580753210b02c039d5b6442 [a,b]
theorem o77{a:Nat}:¬a>0->a=0:=D 0x301500194b6421 [a]
theorem o78{a:Nat}:0<a->a=a-1+1:=D 0xb02c03dc0a800ca6421 [a]
theorem o79{a:Nat}:1<a->0<a:=D 0xca002ca6421 [a]
theorem o80{a:Nat}:a≠0->0<a:=D 0x19403015b6421 [a]
theorem o81{a b c:Nat}:a<=b->c<=a->c<=b:=D 0x114c029e4209e463 [a,b,c]
theorem o82{a b c d:Nat}:a<b->c=d+b->d+a<=c:=D 0x200dd308dc2ae420a6484 [a,b,c,d]
theorem o83{a b c d:Nat}:¬a<b+c+d->¬(b+c<=a/\a<b+c+d):=D 0x3105ce050020ba77b0c4173814b6484 [a,b,c,d]
theorem o84{a b c d:Nat}:a+b<=c->d<b->a+d-1<c:=D 0x10583039f408e991040e9e484 [a,b,c,d]
theorem o85{a b c d:Nat}:a+b<c/\c<=a+d->c-1<a+d:=D 0x60705827d06070a62081d4be484 [a,b,c,d]
theorem o86{a b:Nat}:(a-1)/2=b->0<a->a=2*b+1\/a=2*b+2:=D 0x13022838150b02283815c000ca6422ae44c1d321601e310a0eae484 [a,b,(a-1)/2,(a-1)%2] (by kernel_rfl) (Nat.div_add_mod _ 2) (Nat.mod_lt _ (by decide))
theorem o87{a b:Nat}:a+20<b->a+6<b:=D 0x4cc03a81a300ea6442 [a,b]
theorem o89{a b:Nat}:a=b->b<=100->a+1<=1000:=D 0x3e81342c03a63209a19e420ae442 [a,b]
theorem o93{a b:Nat}:a<256->b<=a->b<256:=D 0x2002686800cf28009a0a6442 [a,b]
theorem o94{a:Nat}:a<256->a<256:=D 0x200268288009a0a6421 [a]
theorem o96{a:Nat}:¬(a:Int)<(0:Int):=D 0x301c0d821 [a]
theorem o97{a:Nat}:a<=3000->a<=16777216:=D 0x4000000ad04c5dc0da09e421 [a]
theorem o98{a:Nat}:a<=8->a<=100:=D 0x3209a09a1809e421 [a]
theorem o101{a b:Nat}:a/16=b/16->a<=b->a%16<=b%16:=D 0x14730827920ab9830b4c84a4841d5cc183a64031420eae4c6 [a,b,a/16,a%16,b/16,b%16] (by kernel_rfl) (Nat.div_add_mod _ 16) (Nat.mod_lt _ (by decide)) (Nat.div_add_mod _ 16) (Nat.mod_lt _ (by decide))
theorem o102{a b:Nat}:a/16+1<b/16->b<256->a/16+1<16:=D 0x10605827510013434c902c13a99830b4c84a4841d5cc183a64031420eae4c6 [a,b,a/16,a%16,b/16,b%16] (by kernel_rfl) (Nat.div_add_mod _ 16) (Nat.mod_lt _ (by decide)) (Nat.div_add_mod _ 16) (Nat.mod_lt _ (by decide))
theorem o103{a:Nat}:a%16<=15:=D 0x3d829c182a64020c20eae463 [a,a/16,a%16] (by kernel_rfl) (Nat.div_add_mod _ 16) (Nat.mod_lt _ (by decide))
theorem o104{a:Nat}:0<=a%16:=D 0x80c9c182a64020c20eae463 [a,a/16,a%16] (by kernel_rfl) (Nat.div_add_mod _ 16) (Nat.mod_lt _ (by decide))
theorem o105{a:Nat}:16*(a/16)+a%16<=16*(a/16)+15+1:=D 0x2c7b030839c20c20e9c182a64020c20eae463 [a,a/16,a%16] (by kernel_rfl) (Nat.div_add_mod _ 16) (Nat.mod_lt _ (by decide))
theorem o106{a b:Nat}:a<b->b+1-(a+1)<b+1-a:=D 0x1605cf0b00e0b02e7d020a6442 [a,b]
theorem o107{a b c:Nat}:a<b->b<c->a<c:=D 0x205041a6420a6463 [a,b,c]
theorem o108{a b:Nat}:a=b+1->a-1=b:=D 0x42c03ea1605c0ae442 [a,b]
theorem o109{a b c:Nat}:a=b->c=a->b<=c:=D 0x20cc02ae420ae463 [a,b,c]
theorem o110{a b:Nat}:a=b->b<=4000->a<=16777216:=D 0x4000000ad04c7d00da19e420ae442 [a,b]
theorem o114{a:Nat}:a<=4000->a<=16777216:=D 0x4000000ad04c7d00da09e421 [a]
theorem o115{a:Nat}:a<=1000->(a:Int)<(9223372036854775808:Int):=D 0x20000000000000001ad0703f409a09e421 [a]
theorem o116{a:Nat}:Int.toNat ((a:Int)-(1:Int))=a-1:=D 0x1601e16038fed421 [a]
theorem o117{a b:Nat}:¬2*a+2<b->b<=2*a+2:=D 0x130028383308980141d4b6442 [a,b]
theorem o118{a b c:Nat}:(2:Int)*(a:Int)+(1:Int)+(1:Int)<(b:Int)->c=b->(2:Int)*(a:Int)+(1:Int)<(c:Int):=D 0x5c0b01c141c108ab90f02c0b01c141ce0e463 [a,b,c]
theorem o119{a:Nat}:(0:Int)<=(2:Int)*(a:Int)+(1:Int)+(1:Int):=D 0x58160382839c060021 [a]
theorem o120{a b c:Nat}:(2:Int)*(a:Int)+(1:Int)+(1:Int)<(b:Int)->c=b->(2:Int)*(a:Int)+(1:Int)+(1:Int)<(c:Int):=D 0x2e058160382839c108ab90f02c0b01c141ce0e463 [a,b,c]
theorem o123{a b c:Nat}:(2:Int)*(a:Int)+(1:Int)<(b:Int)->c=b->2*a+1<c:=D 0x20b00283a8115721e0580e0a0e0e463 [a,b,c]
theorem o124{a:Nat}:a<=900->a<=999:=D 0x7ce26827c209a09e421 [a]
theorem o125{a:Nat}:(0:Int)<((a+1:Nat):Int):=D 0x2c03b8060421 [a]
theorem o128{a b c:Nat}:a-b<=c-c->b<=a->b=a:=D 0xd4019e4427840f9e463 [a,b,c]
theorem o129{a b:Nat}:a<b->a+1<2*b+1:=D 0x1604507058075020a6442 [a,b]
theorem o130{a b c:Nat}:a<b->a-c<=b:=D 0x4407cc20a6463 [a,b,c]
theorem o131{a b:Nat}:a<b->¬a>=b:=D 0x19d820a6442 [a,b]
theorem o132{a b c:Nat}:a<b->b<=c->a+(b-a)/2<c:=D 0x4303a820cf210532261299005e418a0eae4a5 [a,b,c,(b-a)/2,(b-a)%2] (by kernel_rfl) (Nat.div_add_mod _ 2) (Nat.mod_lt _ (by decide))
theorem o133{a b c:Nat}:a<b->a-c<b:=D 0x4407d020a6463 [a,b,c]
theorem o134{a b:Nat}:¬a>=b+1->a<=b:=D 0x104c01605d3b6442 [a,b]
theorem o135{a b c:Nat}:a<b->c<=a->c<b:=D 0x1150029e420a6463 [a,b,c]
theorem o136{a b c d:Nat}:a<min b c-d->d+a<b:=D 0x403750620c5e0a6484 [a,b,c,d]
theorem o137{a:Nat}:a+1-a=1:=D 0x5800b00e7d421 [a]
theorem o138{a b c d e:Nat}:a+b<=c->d<b->e<=d->a+e<c:=D 0x2201d41927908e991040e9e4a5 [a,b,c,d,e]
theorem o139{a b c:Int}:a<=b->¬c<b->¬c<a:=D3 0x41b0441b642006403 [] [a,b,c] []
theorem o140{a b:Int}:¬a<b->b<=a:=D3 0x100401b6402 [] [a,b] []
theorem o141{a b c:Int}:a<b->c<=a->c<b:=D3 0x110402064200e403 [] [a,b,c] []
theorem o142{a b c:Nat}:a<b->a<c+(b-c):=D 0x20bc4e05020a6463 [a,b,c]
theorem o148{a b:Nat}:a+1<=b->a<b:=D 0x82810b00e9e442 [a,b]
theorem o149{a b:Nat}:1<a->a<=b->a-1<b:=D 0x10b00fa0413c802ca6442 [a,b]
theorem o150{a b:Nat}:a-1<b->0+(a-1)<=b:=D 0x21601e063a610b00fa6442 [a,b]
theorem o151{a:Nat}:1<a->a-1-1<a-1:=D 0x58078581601efa002ca6421 [a]
theorem o152{a b:Nat}:a<=b-1->a<=b-1:=D 0x58178261605e09e442 [a,b]
theorem o153{a b:Nat}:a<b-1->a<0+(b-1):=D 0x2c0bc0c70281605e0a6442 [a,b]
theorem o154{a b c:Nat}:a<=b->b<=c->a<=c:=D 0x204c419e4209e463 [a,b,c]
theorem o155{a:Nat}:a≠0->a≠1->1<a:=D 0x16502c056d903015b6421 [a]
theorem o156{a b c:Nat}:a-1<b->c<=a-1->c<=b:=D 0x4530b00f14f210b00fa6463 [a,b,c]
theorem o157{a b:Nat}:a<=b-1->¬b-1-a>0->a=b-1:=D 0x2c0bc15005817bc0ca5b21605e09e442 [a,b]
theorem o158{a b c:Nat}:a<b-1->c=b-1->a<0+c:=D 0x40638140b02f15721605e0a6463 [a,b,c]
theorem o159{a:Nat}:0<a->0<a:=D 0xca000ca6421 [a]
theorem o160{a b:Nat}:a<b->b-1<b:=D 0x85817d020a6442 [a,b]
theorem o161{a b c:Nat}:a+b<=c->a<=c:=D 0x8131040e9e463 [a,b,c]
theorem o162{a b c d e f g h i:Nat}:a+b+(c-b)-1<d->e+f<=g->d=g->h=e+i-(a+b)->i<=f->a+b+h<=d:=D 0x67081ce99513c840e411cf3d7261d726291d3c8c2c089e1039cfa6529 [a,b,c,d,e,f,g,h,i]
theorem o163{a b c d:Nat}:a<b+c->¬(b+c<=a/\a<b+c+d):=D 0x620b9c0a004174ef6105c0a6484 [a,b,c,d]
theorem o164{a b c d:Nat}:a<b+c+d->¬a<b+c->b+c<=a/\a<b+c+d:=D 0x620b9c0a004174ee20b814b64620b9c0a6484 [a,b,c,d]
theorem o165{a b c d:Nat}:a<b+c+d->¬a<b+c->a-(b+c)<d:=D 0x1882e03e820b814b64620b9c0a6484 [a,b,c,d]
theorem o166{a b c d e f:Nat}:a=b+c-(d+e)->¬f<d+e+a->b<=f:=D 0x2866020dce2d2d920dc20b9e0ae4c6 [a,b,c,d,e,f]
theorem o167{a b:Nat}:a<=b->max a b=b:=D 0x420954209e442 [a,b]
theorem o168{a b:Nat}:1<=a->a<=b->1<=b:=D 0x42c98413c802c9e442 [a,b]
theorem o169{a b c:Nat}:a<b+(c+1)->¬a<b+c->a=b+c:=D 0x82e0544170296c8582705c0a6463 [a,b,c]
theorem o170{a b c:Nat}:a<=b+c->¬a=b+c->a<=b+c-1:=D 0x5820b9e09882e056d9105c09e463 [a,b,c]
theorem o171{a:Nat}:1≠a->1<=a->max (1+1) a=a:=D 0xb02c74aa00b27900595b6421 [a]
theorem o172{a b c d e:Nat}{f:Prop}{g h:Nat}:a+b+c+d<=e/\f->g=a+b->e<=h->g+c<=h:=D3 0xc22ba6624f21038b5c808418820739d3be4e7 [a,b,c,d,e,g,h] [] [f]
theorem o173{a b c d e:Nat}:0<=a/\a+b<=c->d<a+b->e<=d->e<c:=D 0x44a0c93c840e1d322081d300193be4a5 [a,b,c,d,e]
theorem o174{a b c d:Nat}:0<=a/\a+b<=c->d<a+b->d<c:=D 0x43a040e1d322081d300193be484 [a,b,c,d]
theorem o175{a b c:Nat}:0<a->b<=c->b+1<=c+a:=D 0x4e0b02e98833c800ca6463 [a,b,c]
theorem o176{a:Nat}:a>1->a-2+1<a:=D 0x582601eea002ca6421 [a]
theorem o177{a b c:Nat}:1<=a->b<=c->b+1<=c+a:=D 0x4e0b02e98833c802c9e463 [a,b,c]
theorem o178{a b:Nat}:(a-1)/2=(b-1)/2->b≠(b-1)/2->(a-1)/2≠b:=D 0x455b1035b6482ae44c2d321605e520a0eae44c1d321601e310a0eae4c6 [a,b,(a-1)/2,(a-1)%2,(b-1)/2,(b-1)%2] (by kernel_rfl) (Nat.div_add_mod _ 2) (Nat.mod_lt _ (by decide)) (Nat.div_add_mod _ 2) (Nat.mod_lt _ (by decide))
theorem o179{a b:Nat}:(a-1)/2=b->0<a->b≠a:=D 0x35b000ca6422ae44c1d321601e310a0eae484 [a,b,(a-1)/2,(a-1)%2] (by kernel_rfl) (Nat.div_add_mod _ 2) (Nat.mod_lt _ (by decide))
theorem o180{a b c:Nat}:(a-1)/2=b->0<a->¬2*b+1<c->c<=a:=D 0xa620b02283a96c800ca6423ae44c25321601e418a0eae4a5 [a,b,c,(a-1)/2,(a-1)%2] (by kernel_rfl) (Nat.div_add_mod _ 2) (Nat.mod_lt _ (by decide))
theorem o181{a b c:Nat}:(a-1)/2=b->0<a->c=b+1->c<=a:=D 0x14c2c0b855c800ca6423ae44c25321601e418a0eae4a5 [a,b,c,(a-1)/2,(a-1)%2] (by kernel_rfl) (Nat.div_add_mod _ 2) (Nat.mod_lt _ (by decide))
theorem o182{a b:Nat}:a+200<b->a+64<b:=D 0x4401340ea04c81340ea6442 [a,b]
theorem o183{a b:Nat}:a+20<b->a+2<b:=D 0x44c03a81a300ea6442 [a,b]
theorem o184{a b:Nat}:a+200<b->a+16<b:=D 0x18300ea04c81340ea6442 [a,b]
theorem o185{a:Int}{b:Nat}{c:Int}{d:Nat}:a=(b:Int)->c=(d:Int)->c<=a->d<=b+1:=D3 0x2c03833004190f022c838016442 [b,d] [a,c] []
theorem o186{a b c:Nat}:a=b->c<=1000->b<=c->a<=1000000:=D 0x1e84804682620cf3f409a29e420ae463 [a,b,c]
theorem o187{a:Nat}:a<=1000->a+a<=1048576:=D 0x8000015a003a7f409a09e421 [a]
theorem o188{a b c d:Nat}:a=b->c<=1000->d<=c->b<=d->a<=1000000:=D 0x1e84804682630cf221cf3f409a29e420ae484 [a,b,c,d]
theorem o189{a:Nat}:a<=1000->3*a+a<=1048576:=D 0x20000056800383a7f409a09e421 [a]
theorem o190{a b:Nat}:a+200<b->a+48<b:=D 0x4301340ea04c81340ea6442 [a,b]
theorem o191{a b:Nat}:a=b->a<=b:=D 0x104c20ae442 [a,b]
theorem o208{a b:Nat}:((a/16:Nat):Int)+(1:Int)<((b/16:Nat):Int)->b<256->Int.toNat ((a:Int)+(16:Int))<256:=D 0x20026c180e3bb44004d0d324e0582e3839830b4c84a4841d5cc183a64031420eae4c6 [a,b,a/16,a%16,b/16,b%16] (by kernel_rfl) (Nat.div_add_mod _ 16) (Nat.mod_lt _ (by decide)) (Nat.div_add_mod _ 16) (Nat.mod_lt _ (by decide))
theorem o211{a:Nat}:a<256->Int.toNat ((a:Int)-(16:Int))<256:=D 0x4004d8301c7f688009a0a6421 [a]
theorem o212{a:Nat}:Int.toNat ((a:Int)+(16:Int))/16=a/16+1:=D 0x583706b0612990107083ab983054cc180e3ba20c20eae4a5 [a,Int.toNat ((a:Int)+(16:Int))/16,Int.toNat ((a:Int)+(16:Int))%16,a/16,a%16] (by kernel_rfl) (Nat.div_add_mod _ 16) (Nat.mod_lt _ (by decide)) (Nat.div_add_mod _ 16) (Nat.mod_lt _ (by decide))
theorem o213{a:Nat}:Int.toNat ((a:Int)-(16:Int))/16=a/16-1:=D 0x583786b0612990107083ab983054cc180e3fa20c20eae4a5 [a,Int.toNat ((a:Int)-(16:Int))/16,Int.toNat ((a:Int)-(16:Int))%16,a/16,a%16] (by kernel_rfl) (Nat.div_add_mod _ 16) (Nat.mod_lt _ (by decide)) (Nat.div_add_mod _ 16) (Nat.mod_lt _ (by decide))
theorem o214{a b c d:Nat}:a=16->b=c->c<=d->d<=a->b<=1000000:=D 0x7a12011a198073c8c53c8835cc180ae484 [a,b,c,d]
theorem o215{a:Int}{b:Nat}:a=((3*b:Nat):Int)->(0:Int)<=a:=D3 0x30001c38016421 [b] [a] []
theorem o216{a:Int}{b:Nat}{c:Int}:a=((3*b:Nat):Int)->c=((3*b:Nat):Int)+(3:Int)->a<=c:=D3 0x2000d801c38e08b201c38016422 [b] [a,c] []
theorem o217{a b:Nat}{c:Int}:a<b->c=((3*a:Nat):Int)+(3:Int)->c<=((3*b:Nat):Int):=D3 0x23870001b003871c016420a6442 [a,b] [c] []
theorem o218{a:Int}{b:Nat}:a=((3*b:Nat):Int)->Int.toNat a=3*b:=D3 0x70076a01c38016421 [b] [a] []
theorem o219{a:Int}{b:Nat}{c:Int}:a=((3*b:Nat):Int)->c=((3*b:Nat):Int)+(3:Int)->Int.toNat (c-a)=3:=D3 0x6c005fda8d801c38e08b201c38016422 [b] [a,c] []
theorem o220{a:Nat}:(-(1:Int))+((a+1:Nat):Int)=(a:Int):=D 0x1c0b00ee059e70821 [a]
theorem o221{a:Nat}:(a:Int)<=(a:Int)+(1:Int):=D 0x2c071c0e0021 [a]
theorem o222{a b:Nat}:a+1=b->a<b:=D 0x82810b00eae442 [a,b]
theorem o223{a b:Nat}:a+1=b->¬a+1<b:=D 0x8580752c10b00eae442 [a,b]
theorem o224{a b:Nat}:a<=1000->min b a<=1001:=D 0x1f489a00c67f409a09e442 [a,b]
theorem o225{a b:Nat}:a<=1000->min b a<=1000:=D 0x1f409a00c67f409a09e442 [a,b]
theorem o226{a b c:Nat}{d:Int}:a<3->b<c->d=((3*b:Nat):Int)+(a:Int)->c<=1000->(-(9223372036854775808:Int))<=d/\d<(9223372036854775808:Int):=D3 0x400000000000000035a00810000000000000000d6f817fa04d14f20e0470e3802c8834c8d80a6463 [a,b,c] [d] []
theorem o227{a:Int}{b c:Nat}:a=((3*b:Nat):Int)+(c:Int)->¬a<(0:Int):=D3 0x600360f003871c016442 [b,c] [a] []
theorem o228{a b c:Nat}{d:Int}:a<3->b<c->d=((3*b:Nat):Int)+(a:Int)->((0:Int)<=d/\d<(3:Int)*(c:Int))/\Int.toNat d=3*b+a:=D3 0x8e0e076a2e0e000800c05ee0e0470e3802c8834c8d80a6463 [a,b,c] [d] []
theorem o229{a:Nat}:0<a->((0:Int)<=(-(1:Int))+(3:Int)*(a:Int)/\(-(1:Int))+(3:Int)*(a:Int)<(3:Int)*(a:Int))/\Int.toNat ((-(1:Int))+(3:Int)*(a:Int))=3*(a-1)+2:=D 0x1302c03c70703838059e776a0e0e00e0e01679c1070700b3ce03017b800ca6421 [a]
theorem o230{a:Nat}:0<a->¬a=0:=D 0x3015b000ca6421 [a]
theorem o231{a b:Nat}:a=3*b->b<=1000->a<=3000:=D 0x5dc0da09fd026867908e00ae442 [a,b]
theorem o232{a:Nat}:a<=3000->a+2<=16777216:=D 0x200000056898074c5dc0da09e421 [a]
theorem o233{a:Nat}:a<=1000->a<=16777215:=D 0x1fffffe56827f409a09e421 [a]
theorem o234{a:Nat}:a<=1001->a+1<=16777216:=D 0x10000002b42c03a7f489a09e421 [a]
theorem o235{a:Nat}:a<=1001->a+1+1<=16777216:=D 0x80000015a16058073a7f489a09e421 [a]
theorem o237{a:Nat}:((3*a:Nat):Int)=((3*a:Nat):Int)+(0:Int):=D 0xc00e1c70070e0821 [a]
theorem o239{a:Nat}:((3*a:Nat):Int)+(1:Int)=((3*a:Nat):Int)+(1:Int):=D 0x160070e382c00e1c70821 [a]
theorem o240{a:Nat}:((3*a:Nat):Int)+(2:Int)=((3*a:Nat):Int)+(2:Int):=D 0x260070e384c00e1c70821 [a]
theorem o243{a b:Nat}:((3*a:Nat):Int)+(1:Int)=((3*b:Nat):Int)->False:=by omega
theorem o244{a b:Nat}:((3*a:Nat):Int)+(3:Int)=((3*b:Nat):Int)->a+1=b:=D 0x10b00ea8470e0d801c38e16442 [a,b]
theorem o245{a b:Nat}:((3*a:Nat):Int)+(3:Int)=((3*b:Nat):Int)->a+1<=b:=D 0x10b00e98470e0d801c38e16442 [a,b]
theorem o246{a b:Nat}:((3*a:Nat):Int)+(3:Int)=((3*b:Nat):Int)->b-(a+1)<b-a:=D 0xbc2c0382fa0470e0d801c38e16442 [a,b]
theorem o247{a b:Nat}:((3*a:Nat):Int)+(3:Int)≠((3*b:Nat):Int)->a<b->a+1<b:=D 0x21601d40829908e1c1b003871c2b6442 [a,b]
theorem o248{a b:Nat}:a<b->b-(a+1)<b-a:=D 0x5e1601c17d020a6442 [a,b]
theorem o250{a b c:Nat}:(a:Int)<(b:Int)->(c:Int)=(a:Int)->c=min b a:=D 0x311541c170590f01c0e463 [a,b,c]
theorem o251{a b c:Nat}:(a:Int)=(b:Int)->¬(c:Int)<(b:Int)->a=min b c:=D 0x10620a8782e06d90f01c16463 [a,b,c]
theorem o252{a b:Nat}:a=b->¬(63:Int)<(b:Int)->a<=1000:=D 0x1f409a098781f89a1b6420ae442 [a,b]
theorem o253{a:Nat}:a<=256->a<=1000:=D 0x7d0268268009a09e421 [a]
theorem o254{a:Nat}:a<=3000->a<4096:=D 0x40006d0505dc0da09e421 [a]
theorem o255{a b:Nat}:a<=8->b<=a->b<=8:=D 0x218198033ca1809e442 [a,b]
theorem o256{a:Nat}:a<=8->a<=1000:=D 0x1f409a09a1809e421 [a]
theorem o257{a:Nat}:a<=15->a<=16:=D 0x41809bd809e421 [a]
theorem o258{a b:Nat}:a+b=b+a:=D 0xb82075442 [a,b]
theorem o259:16*16<=256:=D 0x20026c19084c00 []
theorem o265{a b c d:Nat}:a=b+c->d<=16->b<=256->c<=d->a<=1000000:=D 0xf42402341318a794004d0cf3060e79105c0ae484 [a,b,c,d]
theorem o268{a b:Nat}:a/16+1<b/16->a/16+1<=b/16-1:=D 0xb08f0b04e9902c13a99830b4c84a4841d5cc183a64031420eae4c6 [a,b,a/16,a%16,b/16,b%16] (by kernel_rfl) (Nat.div_add_mod _ 16) (Nat.mod_lt _ (by decide)) (Nat.div_add_mod _ 16) (Nat.mod_lt _ (by decide))
theorem o269{a b c d:Nat}:a+b<=16->c<b->(16*d+a+c)/16=d:=D 0xc9508a998302074f306169910070839c52420eae4c6 [a,b,c,d,(16*d+a+c)/16,(16*d+a+c)%16] (by kernel_rfl) (Nat.div_add_mod _ 16) (Nat.mod_lt _ (by decide))
theorem o270{a b c d:Nat}:a+b<=16->c<b->(16*d+a+c)%16=a+c:=by omega
theorem o271{a b:Nat}:a<16->¬a+1<=b->b+(a+1-b)<=16:=D 0x20c0858073c2e9842c03a76cc180a6442 [a,b]
theorem o272{a b c:Nat}:16*a+b+1-(16*a+c)=b+1-c:=D 0x82c0b9e20420e0b020841ce7d463 [a,b,c]
theorem o273:0+16<=16:=D 0x20c8300c74c00 []
theorem o274{a:Nat}:16*(a+1)=16+16*a:=D 0x210831c1601d085421 [a]
theorem o275{a:Nat}:16*(a+1)=16*a+16:=D 0x4180841c1601d085421 [a]
theorem o276{a:Nat}:16*a+0=16*a:=D 0x42006021075421 [a]
theorem o277:0<16:=D 0x418065000 []
theorem o278{a b:Nat}:16*a+15+1-16*b=16*(a+1-b):=D 0x858073e100c20163d80841ce7d442 [a,b]
theorem o279{a b c:Nat}:a<=b->c<=a+1->b+1-c=a+1-c+(b+1-(a+1)):=D 0xb00e0b02e7882c039ee1058173ea1601c29e4209e463 [a,b,c]
theorem o280{a b:Nat}:a<=b+1->a+(b+1-a)=b+1:=D 0x2c0b801605cf03aa1605c09e442 [a,b]
theorem o281{a b:Nat}:a<16->b<=a->b<16:=D 0x4181a0033cc180a6442 [a,b]
theorem o282{a b:Nat}:a+1<=b->b<=a->False:=D 0x3400cf210b00e9e442 [a,b]
theorem o283{a b:Nat}:a/16=b/16->b<256->a/16<16:=D 0x4182a20026869920ab9830b4c84a4841d5cc183a64031420eae4c6 [a,b,a/16,a%16,b/16,b%16] (by kernel_rfl) (Nat.div_add_mod _ 16) (Nat.mod_lt _ (by decide)) (Nat.div_add_mod _ 16) (Nat.mod_lt _ (by decide))
theorem o284{a b:Nat}:a/16=b/16->16*(a/16)+b%16=b:=D 0x4a2841d520ab9830b4c84a4841d5cc183a64031420eae4c6 [a,b,a/16,a%16,b/16,b%16] (by kernel_rfl) (Nat.div_add_mod _ 16) (Nat.mod_lt _ (by decide)) (Nat.div_add_mod _ 16) (Nat.mod_lt _ (by decide))
theorem o285{a b:Nat}:a/16+1<b/16->16*(b/16)+0=16*(b/16-1)+15+1:=D 0x2c7b02c13e107380c1420ea882c23a99830b4c80a4841d5cc183a64231420eae4c6 [a,b,b/16,b%16,a/16,a%16] (by kernel_rfl) (Nat.div_add_mod _ 16) (Nat.mod_lt _ (by decide)) (Nat.div_add_mod _ 16) (Nat.mod_lt _ (by decide))
theorem o286{a b:Nat}:a/16+1<b/16->16*(a/16+1)<=16*(b/16-1)+15+1:=D 0x2c7b02c23e107382c13a109902c13a99830b4c84a4841d5cc183a64031420eae4c6 [a,b,a/16,a%16,b/16,b%16] (by kernel_rfl) (Nat.div_add_mod _ 16) (Nat.mod_lt _ (by decide)) (Nat.div_add_mod _ 16) (Nat.mod_lt _ (by decide))
theorem o287{a b:Nat}:a/16+1<b/16->16*(b/16-1)+15<=16*(b/16)+b%16:=D 0x62841cf605827c20e9882c23a99830b4c80a4841d5cc183a64231420eae4c6 [a,b,b/16,b%16,a/16,a%16] (by kernel_rfl) (Nat.div_add_mod _ 16) (Nat.mod_lt _ (by decide)) (Nat.div_add_mod _ 16) (Nat.mod_lt _ (by decide))
theorem o288{a:Nat}:16*(a/16+1)=16*(a/16)+15+1:=D 0x58f606107382c0ba10ac182a64020c20eae463 [a,a/16,a%16] (by kernel_rfl) (Nat.div_add_mod _ 16) (Nat.mod_lt _ (by decide))
theorem o289{a b:Nat}:a/16+1<b/16->16*(a/16)+15<=16*(b/16)+b%16:=D 0x1490839ec1420e9902c13a99830b4c84a4841d5cc183a64031420eae4c6 [a,b,a/16,a%16,b/16,b%16] (by kernel_rfl) (Nat.div_add_mod _ 16) (Nat.mod_lt _ (by decide)) (Nat.div_add_mod _ 16) (Nat.mod_lt _ (by decide))
theorem o290{a b:Nat}:a/16+1<b/16->b/16-1+1<=a/16+1->False:=D 0x1a0b08e0b02c13dd3c882c23a99830b4c80a4841d5cc183a64231420eae4c6 [a,b,b/16,b%16,a/16,a%16] (by kernel_rfl) (Nat.div_add_mod _ 16) (Nat.mod_lt _ (by decide)) (Nat.div_add_mod _ 16) (Nat.mod_lt _ (by decide))
theorem o291{a b:Nat}:a<=b->¬a/16+1<b/16->¬a/16=b/16->16*(b/16)+0=16*(a/16)+15+1:=D 0x163d84841ce0305083aa2256d910584752d908279830b4c80a4841d5cc183a64231420eae4c6 [a,b,b/16,b%16,a/16,a%16] (by kernel_rfl) (Nat.div_add_mod _ 16) (Nat.mod_lt _ (by decide)) (Nat.div_add_mod _ 16) (Nat.mod_lt _ (by decide))
theorem o292{a b:Nat}:a<=b->¬a/16=b/16->16*(a/16)+15<=16*(b/16)+b%16:=D 0x52420e7b05083a64156d908279830b4c84a4841d5cc183a64031420eae4c6 [a,b,a/16,a%16,b/16,b%16] (by kernel_rfl) (Nat.div_add_mod _ 16) (Nat.mod_lt _ (by decide)) (Nat.div_add_mod _ 16) (Nat.mod_lt _ (by decide))
theorem o293{a:Nat}:a<=1000000->a<=16777216:=D 0x80000015a09fa12011a09e421 [a]
theorem o294{a b:Nat}:48+a=48+b->a=b:=D 0x415086026b801809aeae442 [a,b]
theorem o295{a b:Nat}:48+a=55+b->a<10->¬b<10->False:=D 0xd2981a5b2a60299086e26b801809aeae442 [a,b]
theorem o296{a b:Nat}:55+a=48+b->b<10->¬a<10->False:=D 0xd2980a5b2a60699086026b801b89aeae442 [a,b]
theorem o297{a b:Nat}:55+a=55+b->a=b:=D 0x415086e26b801b89aeae442 [a,b]
theorem o298{a b:Nat}:¬((a/16:Nat):Int)+(1:Int)<((b/16:Nat):Int)->¬a/16+1<b/16:=D 0x40b04ea589c0b05c706d9830b4c84a4841d5cc183a64031420eae4c6 [a,b,a/16,a%16,b/16,b%16] (by kernel_rfl) (Nat.div_add_mod _ 16) (Nat.mod_lt _ (by decide)) (Nat.div_add_mod _ 16) (Nat.mod_lt _ (by decide))
theorem o299{a b:Nat}:((a/16:Nat):Int)+(1:Int)<((b/16:Nat):Int)->a/16+1<b/16:=D 0x102c13a84e0582e3839830b4c84a4841d5cc183a64031420eae4c6 [a,b,a/16,a%16,b/16,b%16] (by kernel_rfl) (Nat.div_add_mod _ 16) (Nat.mod_lt _ (by decide)) (Nat.div_add_mod _ 16) (Nat.mod_lt _ (by decide))
theorem o300{a b c:Int}:(0:Int)<=a/\a<=b/\b<(256:Int)->a<=c->c<=b->(0:Int)<=c/\c<(256:Int):=D3 0x8009a20880c05c220644006500134210801700180be403 [] [a,b,c] []
theorem o301{a:Int}:(0:Int)<=a/\a<(256:Int)->a=((Int.toNat a:Nat):Int):=D3 0x3bc009001340100180be401 [] [a] []
theorem o302{a b:Nat}:(a:Int)<(b:Int)->a<b:=D 0x4140f01c0e442 [a,b]
theorem o303{a:Int}:(0:Int)<=a/\a<(256:Int)->Int.toNat a<256:=D3 0x8009a0ed1001340100180be401 [] [a] []
theorem o304{a b c:Nat}:a+(b+1)<=256->c<=b/\b<256->a+1+c<=256:=D 0x4004d1058073a68009a1a0453be5001342c0b80e9e463 [a,b,c]
theorem o305{a b:Nat}:a<=b/\b<256->1+a<=256:=D 0x1001340163a68009a1a0413be442 [a,b]
theorem o306{a b c d e f:Int}:(0:Int)<=a/\a<=b/\b<(256:Int)->(0:Int)<=c/\c<=d/\d<(256:Int)->e<=f->f<=d->a<=e->(0:Int)<=e/\e<=f/\f<(256:Int):=D3 0x8009a509480b900c05c8006465064a406500134611881710180be500134210801700180be406 [] [a,b,c,d,e,f] []
theorem o307{a b:Int}:(0:Int)<=a/\a<=b/\b<(256:Int)->Int.toNat a<=Int.toNat b:=D3 0x7a0ecd00134210801700180be402 [] [a,b] []
theorem o308{a b c:Int}:(0:Int)<=a/\a<=b/\b<(256:Int)->b+(1:Int)<c->Int.toNat b+1<Int.toNat c:=D3 0x2e8581eba820b02e0e500134210801700180be403 [] [a,b,c] []
theorem o309{a b:Nat}:(a:Int)=(b:Int)->a=b:=D 0x4150f01c16442 [a,b]
theorem o310{a:Int}{b:Nat}:a<=(b:Int)->Int.toNat a<=b:=D3 0x1d9838006421 [b] [a] []
theorem o311{a:Nat}{b:Int}:(a:Int)<=b->a<=Int.toNat b:=D3 0x3a09801c06421 [a] [b] []
theorem o312{a:Int}{b:Nat}:Int.toNat a<=b->a<=(b:Int):=D3 0x3800001d9e421 [b] [a] []
theorem o313{a b:Int}{c:Nat}:(0:Int)<=a/\a<=b/\b<(256:Int)->c<=Int.toNat b->(c:Int)<=b:=D3 0x41c007a09e500134210801700180be422 [c] [a,b] []
theorem o314{a b:Int}:(0:Int)<=a/\a<=b/\b<(256:Int)->((Int.toNat a:Nat):Int)=a:=D3 0x1de0900134210801700180be402 [] [a,b] []
theorem o315{a b:Int}:(0:Int)<=a/\a<=b/\b<(256:Int)->((Int.toNat b:Nat):Int)=b:=D3 0x43de0900134210801700180be402 [] [a,b] []
theorem o316{a b:Int}:a=(58:Int)/\b=(66:Int)->a<=(58:Int):=D3 0x3a134001084d0883a13402be402 [] [a,b] []
theorem o317{a b:Int}:a=(58:Int)/\b=(66:Int)->(58:Int)<=b:=D3 0x21d09a01084d0883a13402be402 [] [a,b] []
theorem o318{a:Nat}{b:Int}:(a:Int)<b->¬(a:Int)>=b:=D3 0x7000b001c0e421 [a] [b] []
theorem o319{a b:Int}:(0:Int)<=a/\a<b->¬a<(0:Int):=D3 0x3001b040100180be402 [] [a,b] []
theorem o320{a b:Int}{c:Nat}:(0:Int)<=a/\a<b->Int.toNat a<c->(0:Int)<=a/\a<(c:Int):=D3 0xe002003017003b4c840100180be422 [c] [a,b] []
theorem o321{a:Nat}:a<=16000000->a<=16777216:=D 0x10000002b4137a120015a09e421 [a]
theorem o323{a b c:Nat}:a=min b (min 6 c)+1+1->a<=1000:=D 0x7d026826160582332218b9c0ae463 [a,b,c]
theorem o324{a b:Nat}:a-b<=0->b<=a->b=a:=D 0x6a00cf206040f9e442 [a,b]
theorem o325{a b:Nat}:a<b->(a+b)/2<b:=D 0x8a810532260e99081c310a0eae484 [a,b,(a+b)/2,(a+b)%2] (by kernel_rfl) (Nat.div_add_mod _ 2) (Nat.mod_lt _ (by decide))
theorem o326{a b:Nat}:a<b->a<=(a+b)/2:=D 0x102610532260e99081c310a0eae484 [a,b,(a+b)/2,(a+b)%2] (by kernel_rfl) (Nat.div_add_mod _ 2) (Nat.mod_lt _ (by decide))
theorem o327{a b c:Nat}:(a+b)/2<b->b<=c->(a+b)/2<c:=D 0x10e820cf211d32261299081c418a0eae4a5 [a,b,c,(a+b)/2,(a+b)%2] (by kernel_rfl) (Nat.div_add_mod _ 2) (Nat.mod_lt _ (by decide))
theorem o328{a b c:Nat}:a-b<=c+1->a-((b+a)/2+1)<=c:=D 0x4160dc07cc2c138207cf2261299005c418a0eae4a5 [a,b,c,(b+a)/2,(b+a)%2] (by kernel_rfl) (Nat.div_add_mod _ 2) (Nat.mod_lt _ (by decide))
theorem o329{a b:Nat}:(a+b)/2<b->(a+b)/2+1<=b:=D 0x42c13a611532260e99081c310a0eae484 [a,b,(a+b)/2,(a+b)%2] (by kernel_rfl) (Nat.div_add_mod _ 2) (Nat.mod_lt _ (by decide))
theorem o330{a b c:Nat}:a<(b+c)/2+1->a>=(b+c)/2->a=(b+c)/2:=D 0xc1500e790b06e0532261299105c418a0eae4a5 [a,b,c,(b+c)/2,(b+c)%2] (by kernel_rfl) (Nat.div_add_mod _ 2) (Nat.mod_lt _ (by decide))
theorem o331{a b c:Nat}:a-b<=c+1->(b+a)/2-b<=c:=D 0x8237cc2c138207cf2261299005c418a0eae4a5 [a,b,c,(b+a)/2,(b+a)%2] (by kernel_rfl) (Nat.div_add_mod _ 2) (Nat.mod_lt _ (by decide))
theorem o332{a b:Nat}:a<=(a+b)/2->a<=(a+b)/2:=D 0x1026204f2260e99081c310a0eae484 [a,b,(a+b)/2,(a+b)%2] (by kernel_rfl) (Nat.div_add_mod _ 2) (Nat.mod_lt _ (by decide))
theorem o333{a b c:Nat}:(a+b)/2<c->(a+b)/2<=c:=D 0x10e621d32261299081c418a0eae4a5 [a,b,c,(a+b)/2,(a+b)%2] (by kernel_rfl) (Nat.div_add_mod _ 2) (Nat.mod_lt _ (by decide))
theorem o334{a b c:Nat}:(a+b)/2<=c->(a+b)/2>=c->c=(a+b)/2:=D 0x18aa314f221cf2261299081c418a0eae4a5 [a,b,c,(a+b)/2,(a+b)%2] (by kernel_rfl) (Nat.div_add_mod _ 2) (Nat.mod_lt _ (by decide))
theorem o335{a b:Nat}:a<=b->¬a<b->a=b:=D 0x20a8414b64209e442 [a,b]
theorem o336{a:Nat}:a-0<=a:=D 0x1807cc21 [a]
theorem o337{a b:Nat}:a<b+1->a<=b:=D 0x8261605c0a6442 [a,b]
theorem o338{a:Nat}:a+1<=a->False:=D 0x3400b00e9e421 [a]
theorem o339{a b c:Nat}:a+1<b->b<=c->a+1<c:=D 0x82c03a820cf210b00ea6463 [a,b,c]
theorem o340{a b:Nat}:a<b->b<a+1->False:=D 0x341601c1a6420a6442 [a,b]
theorem o341{a b:Nat}:min a b-0+1+(min b b-a)=b+1:=D 0x2c0b8010c5e160181045ee75442 [a,b]
theorem o342{a b:Nat}:a<=b->min a b-0+1=a+1:=D 0xb00e0b00c0822f754209e442 [a,b]
theorem o343{a b c:Nat}:a<b->c=b+1->a<c:=D 0x10281605c2ae420a6463 [a,b,c]
theorem o344{a b c:Nat}:a<b->b<=c->¬a=min b c-0:=D 0x1820c5e0ad8419e420a6463 [a,b,c]
theorem o345{a b c:Nat}:a<b->b<=c->a<min b c-0:=D 0xc1062f050419e420a6463 [a,b,c]
theorem o346{a b c:Nat}:a=b->c=b+1->a<c:=D 0x10281605c2ae420ae463 [a,b,c]
theorem o347{a b c:Nat}:a=b->b<=c->a=min b c-0:=D 0xc1062f054419e420ae463 [a,b,c]
theorem o348{a b c:Nat}:a=b+1->¬c<b->¬c=b->¬c<a:=D 0x54b0455b6422a5b21605c0ae463 [a,b,c]
theorem o349{a b c:Nat}:a-1<b->¬a<c->¬a=c->a-(c+1)<min b b-c:=D 0x8218bc2c1380fa0815b6440a5b210b00fa6463 [a,b,c]
theorem o350{a b:Nat}:¬a<b->¬a=b->b+(a-(b+1))=a-1:=D 0x1601e1605c0785d5082b6c8414b6442 [a,b]
theorem o351{a b c:Nat}:¬a-1<b->¬a-(c+1)<min b b-c:=D 0x8218bc2c1380fa5821601f4b6463 [a,b,c]
theorem o352{a b:Nat}:¬a-1<b->b<=a-1:=D 0xb00f0cc21601f4b6442 [a,b]
theorem o353{a b c:Nat}:a<b->b<=c->a<c:=D 0x2050419e420a6463 [a,b,c]
theorem o354{a b:Nat}:¬a<b->¬a=b->b<=a-1:=D 0x2c03c33082b6c8414b6442 [a,b]
theorem o355{a b c:Nat}:a<b->a=c->¬b<c:=D 0x41a5840ae420a6463 [a,b,c]
theorem o356{a b c:Nat}:a<b->a=c->¬b=c:=D 0x41ad840ae420a6463 [a,b,c]
theorem o357{a b c:Nat}:a<b->a=c->c<=b-1:=D 0xb02f14c40ae420a6463 [a,b,c]
theorem o358{a b c:Nat}:a<b->¬a<c->¬b<c:=D 0x834b0814b6420a6463 [a,b,c]
theorem o359{a b c:Nat}:a<b->¬a<c->¬b=c:=D 0x835b0814b6420a6463 [a,b,c]
theorem o360{a b c:Nat}:a<b->¬a<c->¬a=c->a-1<b-1:=D 0x1605e1601f4102b6c8814b6420a6463 [a,b,c]
theorem o361{a b:Nat}:a=b+1->0<a:=D 0x3281605c0ae442 [a,b]
theorem o362{a b c:Nat}:a<b->b=c->a<c:=D 0x205041ae420a6463 [a,b,c]
theorem o363{a b c:Nat}:a=b->c=b->a<=c:=D 0x204c22ae420ae463 [a,b,c]
theorem o364{a b c:Nat}:a+1<b->c=a->c<b:=D 0x8a80157210b00ea6463 [a,b,c]
theorem o365{a b c:Nat}:a+1<b->c=a+1->c<b:=D 0x4540b00e157210b00ea6463 [a,b,c]
theorem o366{a b c d:Nat}:a+1<b->c=d->d=a+1->c<b:=D 0x4540b00e1d723157210b00ea6484 [a,b,c,d]
theorem o367{a b c:Nat}:a=b->b=c+1->a=c+1:=D 0x582702a1609c1ae420ae463 [a,b,c]
theorem o368{a b:Nat}:a=b+1->a=b+1:=D 0x581702a1605c0ae442 [a,b]
theorem o369{a b:Nat}:a<b->min a b=a:=D 0x208d420a6442 [a,b]
theorem o370{a b:Nat}:a<b->b<=4000->a<=16777216:=D 0x4000000ad04c7d00da19e420a6442 [a,b]
theorem o371{a b:Nat}:a<b->b<=4000->a+1<=16777216+1:=D 0x164000000ad7058074c7d00da19e420a6442 [a,b]
theorem o372{a b:Nat}:a=b->b<=4000->a<=4000:=D 0x3e806d04c7d00da19e420ae442 [a,b]
theorem o373{a:Nat}:a-0=a:=D 0x1807d421 [a]
theorem o374{a b:Nat}:a=b->¬b<64->¬a<2:=D 0x980a584013434b6420ae442 [a,b]
theorem o375{a:Nat}:a<=4000->a<=16777216+1:=D 0x2c80000015ae04c7d00da09e421 [a]
theorem o376{a b:Int}:a<=b/\a≠b->a<b:=D3 0x2008402b0400be402 [] [a,b] []
theorem o377{a:Int}{b:Nat}:(0:Int)<=a->a<(b:Int)->Int.toNat a<b:=D3 0x3b407001c800c06421 [b] [a] []
theorem o378{a:Int}:(0:Int)<=a->a/(2:Int)=((Int.toNat a/2:Nat):Int):=by omega
theorem o379{a:Nat}:0<a->(a-1)/2<a:=D 0x1a000ca644c15321601e208a0eae463 [a,(a-1)/2,(a-1)%2] (by kernel_rfl) (Nat.div_add_mod _ 2) (Nat.mod_lt _ (by decide))
theorem o380{a:Nat}:(0:Int)<(a:Int)->(0:Int)<=(a:Int)-(1:Int):=D 0xb01c781800700c0e421 [a]
theorem o381{a:Nat}:(0:Int)<=((Int.toNat ((a:Int)-(1:Int))/2:Nat):Int):=D 0x1e018013054c8580e3fa208a0eae463 [a,Int.toNat ((a:Int)-(1:Int))/2,Int.toNat ((a:Int)-(1:Int))%2] (by kernel_rfl) (Nat.div_add_mod _ 2) (Nat.mod_lt _ (by decide))
theorem o382{a b:Nat}:a<b->((Int.toNat ((a:Int)-(1:Int))/2:Nat):Int)<(b:Int):=D 0x1e0b810829913074c8580e3fa310a0eae484 [a,b,Int.toNat ((a:Int)-(1:Int))/2,Int.toNat ((a:Int)-(1:Int))%2] (by kernel_rfl) (Nat.div_add_mod _ 2) (Nat.mod_lt _ (by decide))
theorem o384{a:Nat}:(0:Int)<(a:Int)->0<a:=D 0x1940700c0e421 [a]
theorem o385{a b:Nat}:a<b->Int.toNat ((a:Int)-(1:Int))/2<b:=D 0x4540829913074c8580e3fa310a0eae484 [a,b,Int.toNat ((a:Int)-(1:Int))/2,Int.toNat ((a:Int)-(1:Int))%2] (by kernel_rfl) (Nat.div_add_mod _ 2) (Nat.mod_lt _ (by decide))
theorem o386{a:Nat}:(0:Int)<(a:Int)->Int.toNat ((a:Int)-(1:Int))/2<a:=D 0xd01c0303913054c8580e3fa208a0eae463 [a,Int.toNat ((a:Int)-(1:Int))/2,Int.toNat ((a:Int)-(1:Int))%2] (by kernel_rfl) (Nat.div_add_mod _ 2) (Nat.mod_lt _ (by decide))
theorem o387{a:Nat}:¬(0:Int)<(a:Int)->a=0:=D 0x602a0e0181b6421 [a]
theorem o388{a:Nat}:a<2*a+2:=D 0x4c00a0e05021 [a]
theorem o389{a b c:Nat}:2*a+1<b->a<c->b-c<b-a:=D 0x17882fa0814c842c00a0ea6463 [a,b,c]
theorem o391{a b c:Nat}:(2:Int)*(a:Int)+(1:Int)<(b:Int)->c=b->(2:Int)*(a:Int)+(1:Int)<(c:Int):=D 0xb81603828382115721e0580e0a0e0e463 [a,b,c]
theorem o392{a b c:Nat}:(2:Int)*(a:Int)+(1:Int)<(b:Int)->c=b->(a:Int)<(c:Int):=D 0x5c0702115721e0580e0a0e0e463 [a,b,c]
theorem o393{a b:Nat}:a=b->b<=1000->a<=1000:=D 0x7d026827f409a19e420ae442 [a,b]
theorem o394{a b c:Nat}:(2:Int)*(a:Int)+(1:Int)+(1:Int)<(b:Int)->c=b->c-(2*a+1)<c-a:=D 0x9e160050709f408ab90f02c0b01c141ce0e463 [a,b,c]
theorem o395{a b c:Nat}:(2:Int)*(a:Int)+(1:Int)+(1:Int)<(b:Int)->c=b->2*a+1+1<c:=D 0x82c0b002839d408ab90f02c0b01c141ce0e463 [a,b,c]
theorem o396{a b c:Nat}:(2:Int)*(a:Int)+(1:Int)+(1:Int)<(b:Int)->c=b->c-(2*a+1+1)<c-a:=D 0x4f0b02c00a0e709f408ab90f02c0b01c141ce0e463 [a,b,c]
theorem o397{a b c:Nat}:a=b->¬(2:Int)*(c:Int)+(1:Int)+(1:Int)<(b:Int)->¬2*c+2<a:=D 0x260850752c1e058160b82839c1b6420ae463 [a,b,c]
theorem o398{a b c:Nat}:(2:Int)*(a:Int)+(1:Int)<(b:Int)->c=b->c-(2*a+1)<c-a:=D 0x13c2c00a0e13e8115721e0580e0a0e0e463 [a,b,c]
theorem o399{a b c:Nat}:a=b->¬(2:Int)*(c:Int)+(1:Int)<(b:Int)->¬2*c+1<a:=D 0x2c10a0ea583c0b05c141c1b6420ae463 [a,b,c]
theorem o400:1000<=16777216:=D 0x200000056fd026cc00 []
theorem o401{a b:Nat}:1000<=a->b<=1000->b<=a:=D 0x33fa04d0cf20fa04d9e442 [a,b]
theorem o402:1001<=16777216:=D 0x200000056fd226cc00 []
theorem o403{a b:Nat}:1001<=a->b<=1000->b+(0+1)<=a:=D 0xb00c705d3fa04d0cf20fa44d9e442 [a,b]
theorem o404{a:Nat}:a<=900->a<=1000:=D 0x7d026827c209a09e421 [a]
theorem o405{a b c:Nat}:a<=b->a-c<=b-0:=D 0xc0bc407cc209e463 [a,b,c]
theorem o406{a b:Nat}:¬a>=b->a<b:=D 0x20a0033b6442 [a,b]
theorem o407{a b:Nat}:¬a>=b->a+(b-a)/2+1<=b:=D 0x216080e74c019db2260e99005e310a0eae484 [a,b,(b-a)/2,(b-a)%2] (by kernel_rfl) (Nat.div_add_mod _ 2) (Nat.mod_lt _ (by decide))
theorem o408{a b c d:Nat}:a-b<=c-d->a-(b+(a-b)/2+1)<=c-(d+1):=D 0xb06e13c2c205ce03e6313c207cf2261699081e520a0eae4c6 [a,b,c,d,(a-b)/2,(a-b)%2] (by kernel_rfl) (Nat.div_add_mod _ 2) (Nat.mod_lt _ (by decide))
theorem o409{a b c:Nat}:a<b+(c-b)/2+1->a<=b+(c-b)/2:=D 0xc2e04c2c185ce0532261299089e418a0eae4a5 [a,b,c,(c-b)/2,(c-b)%2] (by kernel_rfl) (Nat.div_add_mod _ 2) (Nat.mod_lt _ (by decide))
theorem o410{a b c:Nat}:a<=b->¬c>=a->c+(a-c)/2<b:=D 0x462750409db2104f2261299101e418a0eae4a5 [a,b,c,(a-c)/2,(a-c)%2] (by kernel_rfl) (Nat.div_add_mod _ 2) (Nat.mod_lt _ (by decide))
theorem o411{a b:Nat}:a<=a+(b-a)/2:=D 0x407026260e99005e310a0eae484 [a,b,(b-a)/2,(b-a)%2] (by kernel_rfl) (Nat.div_add_mod _ 2) (Nat.mod_lt _ (by decide))
theorem o412{a b c:Nat}:a<=b->¬c>=a->c+(a-c)/2<=b:=D 0x46274c409db2104f2261299101e418a0eae4a5 [a,b,c,(a-c)/2,(a-c)%2] (by kernel_rfl) (Nat.div_add_mod _ 2) (Nat.mod_lt _ (by decide))
theorem o413{a b c d:Nat}:a-b<=c-d->b+(a-b)/2-b<=c-(d+1):=D 0x160dc27848173e6313c207cf2261699081e520a0eae4c6 [a,b,c,d,(a-b)/2,(a-b)%2] (by kernel_rfl) (Nat.div_add_mod _ 2) (Nat.mod_lt _ (by decide))
theorem o414{a b:Nat}:a<b->a+0<b:=D 0x818075020a6442 [a,b]
theorem o415{a b c d:Nat}:a+b<c->b<d->a+b+1<=a+min d (c-a):=D 0x278e2070581039d3186991040ea6484 [a,b,c,d]
theorem o416{a b c:Nat}:a<b->a+min c (b-a)<=b:=D 0x40178a2074c20a6463 [a,b,c]
theorem o417{a b c:Nat}:a<b+c+1->a<=b+c:=D 0x105c0985820b9c0a6463 [a,b,c]
theorem o418{a b c d:Nat}:a+min b (c-a)<=d->c-a<=b->d<c->False:=D 0x6843a642013e791804f0c40e9e484 [a,b,c,d]
theorem o419{a b c d:Nat}:a+min b (c-a)<=d->d<c->a+b<=d:=D 0x3081d310e991804f0c40e9e484 [a,b,c,d]
theorem o420{a b c:Nat}:a<b->c<a->c+1<=b:=D 0x858274c02a6420a6463 [a,b,c]
theorem o421{a b c:Nat}:a<b->c+1-min b (c+1)<=c-a:=D 0x13c2c138310b04e7cc20a6463 [a,b,c]
theorem o422{a b c:Nat}:a+1<=b->c<a+1-min b (a+1)->False:=D 0xd058070621601cf153210b00e9e463 [a,b,c]
theorem o423{a b c:Nat}:a<b+1-min c (b+1)->a<=b-c:=D 0x20bc130b02e1442c0b9e0a6463 [a,b,c]
theorem o424{a b c:Nat}:a<b-c->c+a<b:=D 0x1009d4105e0a6463 [a,b,c]
theorem o425{a b:Nat}:a+b-a=b:=D 0x10040e7d442 [a,b]
theorem o426{a b:Nat}:a+1=b->b-1<b:=D 0x42c0be810b00eae442 [a,b]
theorem o427{a b c:Nat}:a+1=b->c<b->a<=c->c=b-1:=D 0x58178aa204f21153210b00eae463 [a,b,c]
theorem o428{a b c:Nat}:a<min b c->a<c:=D 0x81410620a6463 [a,b,c]
theorem o429{a b c:Nat}:a<min b c->a<b:=D 0x41410620a6463 [a,b,c]
theorem o430{a b:Nat}:a<=b->b=a+(b-a):=D 0xbc0e0d4209e442 [a,b]
theorem o431{a:Nat}:a<1->a=0:=D 0x180a8580a6421 [a]
theorem o432{a:Nat}:0<a->0+1<=a:=D 0x16018e9800ca6421 [a]
theorem o433{a:Nat}:0+1≠a->0<a->0+1<a:=D 0x2c031d400194c802c031d5b6421 [a]
theorem o434{a:Nat}:0<a->1≠a->1<a:=D 0xb2800b2b6c800ca6421 [a]
theorem o435:0+1<=0+1:=D 0x16018e0b00c74c00 []
theorem o436{a b c d:Nat}:a+1<b->c<d->¬b+d+1<=a+c:=D 0x101c160c2e74ec3153210b00ea6484 [a,b,c,d]
theorem o437{a b c d e:Nat}:0<a->b+1+(c+a)<=d+e->b+2<=d+e:=D 0x20dc2605d320dc01382c0b9d3c800ca64a5 [a,b,c,d,e]
theorem o438{a b c d:Nat}:a+1+b<=c+d->a+1+(b+1)<=c+(d+1):=D 0x160dc2705817058073a6313821601ce9e484 [a,b,c,d]
theorem o439{a b c d:Nat}:a+1+(b+1)<=c+(d+1)->a+2<=c+(d+1):=D 0x2c1b84e1300e98583709c1605c1601ce9e484 [a,b,c,d]
theorem o440{a b c d:Nat}:a+1+b<=c+d->a+1+(b+1)<=c+1+d:=D 0x30b04e705817058073a6313821601ce9e484 [a,b,c,d]
theorem o441{a b c d:Nat}:a+1+(b+1)<=c+1+d->a+2<=c+1+d:=D 0x61609ce1300e98c2c139c1605c1601ce9e484 [a,b,c,d]
theorem o442{a b:Nat}:a<b->a+(b-a)<=b:=D 0x1005e074c20a6442 [a,b]
theorem o443{a b:Nat}:a<b->0<b-a:=D 0x5e065020a6442 [a,b]
theorem o444{a b c:Nat}:a+b≠c->a<c->b<=c-a->a+b<c:=D 0x1040ea004f0cf2205322081d5b6463 [a,b,c]
theorem o449{a:Nat}:0<a->a≠1->1<a:=D 0xb281602b6c800ca6421 [a]
theorem o450{a:Nat}:a-1<=a:=D 0x5807cc21 [a]
theorem o451{a b:Nat}:a-1<a->0+1+(a-1)+b<=a+b:=D 0x103821601e16018e73a600b00fa6442 [a,b]
theorem o452{a b c d:Nat}:¬a+b+1+c+d<=a+b:=D 0x1038620b020739ce9d884 [a,b,c,d]
theorem o453{a b c d e:Nat}:a+1+(b+c)+d+e<=b+c->False:=D 0xd082e20c4170580739ce9e4a5 [a,b,c,d,e]
theorem o454{a b c d e f:Nat}:a+1+b+c+d<=e+f->c-1≠0->a+2+(c-1)+d<=e+f:=D 0x523861609e2601ce74c0c0b04fadb252386208580739ce9e4c6 [a,b,c,d,e,f]
theorem o455{a b c d e f:Nat}:a+1+b+c+d<=e+f->c-1≠0->a+1+(b+1)+(c-1)+d<=e+f:=D 0xa470c2c13c2c0b82c039ce74c0c0b04fadb252386208580739ce9e4c6 [a,b,c,d,e,f]
theorem o456{a b c d e f:Nat}:1<a->b+1+c+d+a<=e+f->b+2+d+(a-1)<=e+f:=D 0x52382c03c62605ce74ca4700620b02e739d3c802ca64c6 [a,b,c,d,e,f]
theorem o457{a b c d e f:Nat}:1<a->b+1+c+d+a<=e+f->b+1+(c+1)+d+(a-1)<=e+f:=D 0xa47058078c2c1382c0b9ce74ca4700620b02e739d3c802ca64c6 [a,b,c,d,e,f]
theorem o458{a b c:Nat}:0<a->b<=a->a<=c->b-1<c:=D 0x20b02fa0813c8033c800ca6463 [a,b,c]
theorem o459{a b c d e f g:Nat}:a+2+b+c<=d+e->c-1-f>0->g<=b->a+2+(g-1)+f<=d+e:=D 0x20dc50b0cf1300e73a6134f250b04f78194c906e1044c039ce9e4e7 [a,b,c,d,e,f,g]
theorem o460{a b c d e f:Nat}:a+2+b+c<=d+e->f<=b->a+2+(f-1)+(c-1)<=d+e:=D 0x41b82c13c2c2bc4c039ce984b3c906e1044c039ce9e4c6 [a,b,c,d,e,f]
theorem o461{a b:Nat}:a<=b->¬b-a>0->a=b:=D 0x10540178194b64209e442 [a,b]
theorem o462{a b c d e f:Nat}:a+2+b+c<=d+e->c-1-f>0->a+2+(b-1)+f<=d+e:=D 0x20dc50b02f1300e73a650b04f78194c906e1044c039ce9e4c6 [a,b,c,d,e,f]
theorem o463{a b c d e:Nat}:a+2+b+c<=d+e->a+2+(b-1)+(c-1)<=d+e:=D 0x41b82c13c2c0bc4c039ce9906e1044c039ce9e4a5 [a,b,c,d,e]
theorem o464{a b c:Nat}:¬(a+b<=c/\c<a+b+0):=D 0x6040e70a82081d3bd863 [a,b,c]
theorem o465{a b c d:Nat}:a+b+(c+1)<=d->a+(b+1)+c<=d:=D 0xc41605c073a630b04e081ce9e484 [a,b,c,d]
theorem o466{a b c d:Nat}:a+(b+1)<=c/\c<a+(b+1)+d->a+b<=c/\c<a+b+(d+1):=D 0x2c1b820738541040e9dc61605c07385410581701d3be484 [a,b,c,d]
theorem o467{a b c d:Nat}:a+(b+1)<=c/\c<a+(b+1)+d->c-a-b=c-a-(b+1)+1:=D 0x581605c013dee0804f7d461605c07385410581701d3be484 [a,b,c,d]
theorem o468{a b c d:Nat}:a+b+(c+1)<=d->a+b<d:=D 0x6103a830b04e081ce9e484 [a,b,c,d]
theorem o469{a b c d:Nat}:a+b=c->a+b<=c/\c<a+b+(d+1):=D 0xb06e081ce1504103a771040eae484 [a,b,c,d]
theorem o470{a b c:Nat}:a+b=c->c-a-b=0:=D 0x302013df51040eae463 [a,b,c]
theorem o471{a b c d:Nat}:¬(a+(b+1)<=c/\c<a+(b+1)+d)->¬a+b=c->¬(a+b<=c/\c<a+b+(d+1)):=D 0x5837040e70a82081d3bd84103ab6c8c2c0b80e70a820b02e03a77b6484 [a,b,c,d]
theorem o472{a b c:Nat}:a+b<=c->min a c=a:=D 0x102351040e9e463 [a,b,c]
theorem o473{a b c:Nat}:a<b->¬(b<=a/\a<b+c):=D 0x105c0a0033bd820a6463 [a,b,c]
theorem o474{a b c:Nat}:a<b+c->¬a<b->b<=a/\a<b+c:=D 0x41702800cee1052d9105c0a6463 [a,b,c]
theorem o475{a b c:Nat}:a=b->¬c<b->a<=c:=D 0x4098454b6420ae463 [a,b,c]
theorem o476{a b c:Nat}:a<b+c->¬a<b->a-b<c:=D 0x4103e81052d9105c0a6463 [a,b,c]
theorem o477{a b c:Nat}:¬a<b+c->¬(b<=a/\a<b+c):=D 0x82e050019dec20b814b6463 [a,b,c]
theorem o478{a b c:Nat}:¬a<b+c->b+c<=a:=D 0x20ba620b814b6463 [a,b,c]
theorem o479{a b c:Nat}:¬a<b+c->a=b+c+(a-(b+c)):=D 0x105c07882e702a20b814b6463 [a,b,c]
theorem o480{a b c d e:Nat}:a=min (b-c) (d-c)+min (e-b) (d-b)->c<=b->b<=e->e<=d->a=e-c:=fun h1 h2 h3 h4=>by rw [h1,Nat.min_eq_left (Nat.sub_le_sub_right (Nat.le_trans h3 h4) c),Nat.min_eq_left (Nat.sub_le_sub_right h4 b),Nat.add_comm,Nat.sub_add_sub_cancel h3 h2]
theorem o481{a b c d e:Nat}:a=b-c->c<=d->d<=b->b<=e->c+a<=e:=D 0x4009d32067908e7918a79105e0ae4a5 [a,b,c,d,e]
theorem o482{a b c d:Nat}:a=b-c->c<=d->d<=b->c+a=b:=D 0x1009d508e7918a79105e0ae484 [a,b,c,d]
theorem o483{a b c:Nat}:a<b->c+a<=c+b:=D 0x11380274c20a6463 [a,b,c]
theorem o484{a b c d:Nat}:a<b-c->b<=d->a<min b d-c:=D 0x8618bc1418679105e0a6484 [a,b,c,d]
theorem o485{a b c d:Nat}:0<a->b+a<=c->d=c->b<d:=D 0x186821d722005d3c800ca6484 [a,b,c,d]
theorem o486{a b c d:Nat}:a<b->a=c+d->c+d<=b:=D 0x1189d3189c0ae420a6484 [a,b,c,d]
theorem o487{a b:Nat}:a-b=0->a<=b:=D 0x82606040fae442 [a,b]
theorem o488{a b c d e:Nat}:a<b->b=c+d->d<=e->a<c+e:=D 0x41381420e79189c1ae420a64a5 [a,b,c,d,e]
theorem o489{a b:Nat}:a-b≠0->b<a:=D 0xd00c081f5b6442 [a,b]
theorem o490{a b c d e:Nat}:a<b->c<d->c=e+b->e+a+(b-a)-1<d:=D 0x185800bc04739f4091c2ae462a6420a64a5 [a,b,c,d,e]
theorem o491{a b c d:Nat}:a<b->c=d+b->d+a+(b-a)-1=c-1:=D 0x582785800bc03739f508dc2ae420a6484 [a,b,c,d]
theorem o492{a b c d:Nat}:a+b<=c->d=c->a+b<=d:=D 0x3081d310eb91040e9e484 [a,b,c,d]
theorem o493{a b c:Nat}:a=0->¬b<c->c+a<=b:=D 0x1009d310696c8180ae463 [a,b,c]
theorem o494{a b c d:Nat}:a<b+c->c<=d->a<b+d:=D 0x30b81418a79105c0a6484 [a,b,c,d]
theorem o495{a b c d e:Nat}:a+b+(c-b)-1<d->b<c->e=a+c->0<min e d-(a+b):=D 0x40e1922f0328203895c8834c8c2c089e1039cfa64a5 [a,b,c,d,e]
theorem o496{a b c:Nat}:0<a->b<c->0<min (b+a) c-b:=D 0x11002e8bc0ca0834c800ca6463 [a,b,c]
theorem o497{a b:Nat}:0<a->0<b+a-b:=D 0x40173c0ca000ca6442 [a,b]
theorem o498{a b c d:Nat}:a<b->c=d+b->0<c-(d+a):=D 0xdc27819408dc2ae420a6484 [a,b,c,d]
theorem o499{a b:Nat}:a+b<=a+b+0:=D 0x30207382074c42 [a,b]
theorem o500{a b c:Nat}:a<b->c+a+0<c+b:=D 0x89c06004e75020a6463 [a,b,c]
theorem o501{a b c d:Nat}:a<min (b+c) d-b->a<c:=D 0x81408c41745e0a6484 [a,b,c,d]
theorem o502{a b c d e:Nat}:a<b->c=d+b->min c e-(d+a)-1<c-(d+a):=D 0xdc2785801b8828bdf408dc2ae420a64a5 [a,b,c,d,e]
theorem o503{a b c:Nat}:a<b->a<c+b-c:=D 0x2089cf05020a6463 [a,b,c]
theorem o504{a b c d e:Nat}:a+b+(c-b)-1<d->b<c->e=a+c->a+b+(min e d-(a+b)-1)=e-1:=fun h1 h2 h3=>by
 have e:b+(c-b)=c:=Nat.add_sub_cancel' (Nat.le_of_lt h2)
 rw [Nat.add_assoc,e] at h1
 rw [h3,Nat.min_eq_left (show a+c<=d from Nat.le_of_pred_lt h1),Nat.add_sub_add_left,<- Nat.add_sub_assoc (Nat.sub_pos_of_lt h2),Nat.add_assoc,e]
theorem o505{a b c d e:Nat}:a<b->c<d+a->e=d+b->c<e:=D 0x415023712b900dc2a6420a64a5 [a,b,c,d,e]
theorem o506{a b c d:Nat}:a+b<=c->d<a+b->d<=c:=D 0x21cc2070e991040e9e484 [a,b,c,d]
theorem o507{a b c:Nat}:a<b\/b<=a/\a<b+c->¬a<b->b<=a/\a<b+c:=D 0x41702800cee1052d9105c0a0033b8414c6463 [a,b,c]
theorem o508{a b c d:Nat}:a<=b->c<=d/\d<c+a->d<c+b:=D 0x113874009c3a0c53be4209e484 [a,b,c,d]
theorem o509{a b c d e:Nat}:a<b+c+d->e<=a->¬e<b+c->b+c<=a/\a<b+c+d:=D 0x620b9c0a004174ee20b894b64049e4620b9c0a64a5 [a,b,c,d,e]
theorem o510{a b c:Nat}:0<=a-(b+c):=D 0x41701e064c63 [a,b,c]
theorem o511{a b c d:Nat}:a<=b->a-(c+d)<=b-(c+d):=D 0x31382f189c07cc209e484 [a,b,c,d]
theorem o512{a b c d e:Nat}:a<b+c+d->e<b+c+d->¬e<b+c->a-(b+c)<d:=D 0x1882e03e820b894b64620b9c4a64620b9c0a64a5 [a,b,c,d,e]
theorem o513{a b c d e f:Nat}:a=b+c-(d+e)->¬f<d+e+a->b+c<=f:=D 0xa20ba6020dce2d2d920dc20b9e0ae4c6 [a,b,c,d,e,f]
theorem o514{a b c d e f g:Nat}:a<b\/b<=a/\a<b+c->d=b+c-(e+f)->¬g<e+f+d->a<=g:=D 0xc098ca4738d4b64a47082e78eb9105c0a0033b8414c64e7 [a,b,c,d,e,f,g]
theorem o515{a b c d e:Nat}:a<=b->¬a<c+d+e->¬(c+d<=b/\b<c+d+e):=D 0x4189ce0d02313a77b106273814b64209e4a5 [a,b,c,d,e]
theorem o516{a b c d e f g:Nat}:a<b\/c+d<=a->e=c+f-(b+g)->f<=d->¬(b+g<=a/\a<b+g+e):=D 0x2182e70280305d3bd8659e4c17144e792b900c4e98414c64e7 [a,b,c,d,e,f,g]
theorem o517{a b c d:Nat}:a<b->b<=c->¬(c<=a/\a<d):=D 0x60a0053bd8419e420a6484 [a,b,c,d]
theorem o518{a b c:Nat}:1<=a->a<=b->c+b-1<c+b:=D 0x11382c089cfa0413c802c9e463 [a,b,c]
theorem o519{a b c:Nat}:a<b+1->b<=c->c<=a->c=a:=D 0xaa014f220cf21605c0a6463 [a,b,c]
theorem o520{a b c:Nat}:1<=a->b+a<=c->b<c:=D 0x10682005d3c802c9e463 [a,b,c]
theorem o521{a b c d:Nat}:a+b<=c->d>1->d<=b->a+d-1<c:=D 0x20b06073e811cf230b2991040e9e484 [a,b,c,d]
theorem o522{a b:Nat}:a>1->b<=b+a-1:=D 0x5800b9e19802ca6442 [a,b]
theorem o523{a b:Nat}:a>1->b+a-1<b+a:=D 0xb82c005cfa002ca6442 [a,b]
theorem o524{a b c d:Nat}:1<=a->b+a<=c->d=c->b<d:=D 0x186821d722005d3c802c9e484 [a,b,c,d]
theorem o525{a b c d e:Nat}:a+b<=c->d=c->e>1->e<=b->a+e-1<d:=D 0x30b08073e8124f240b29910eb91040e9e4a5 [a,b,c,d,e]
theorem o526{a b:Nat}:a=a+b-1->b>1->False:=D 0x1a08594c8581039e0ae442 [a,b]
theorem o527{a:Nat}:1<=a->¬a>1->a=1:=D 0x1602a00b296c802c9e421 [a]
theorem o528{a:Nat}:1=a->1≠a->False:=D 0x3400b2b6c802cae421 [a]
theorem o529{a b c:Nat}:a<b+(1+1)->b<=c->c<=a->c=a\/c=b/\a=b+1:=D 0x2c0b81508ab700ab800a79106790b02c705c0a6463 [a,b,c]
theorem o530{a b:Nat}:1+1<=a->b+a-1<b+a:=D 0x5c16002e7d0016058e9e442 [a,b]
theorem o531{a b c d e:Nat}:a+b<=c->d<b->e=c->a+d-1<e:=D 0x20583039f4112b908e991040e9e4a5 [a,b,c,d,e]
theorem o532{a b c d e:Nat}:a+b<=c->d<b->e=c->a+d<e:=D 0x4181d4112b908e991040e9e4a5 [a,b,c,d,e]
theorem o533{a b:Nat}:1+1<=a->b+a-1=b+a->False:=D 0x3400b82c005cfae4016058e9e442 [a,b]
theorem o534{a:Nat}:1+1<=a->1<=a:=D 0x164c016058e9e421 [a]
theorem o535{a b c d:Nat}:a+b<=c->d<=b->a+d<=c:=D 0x2181d308e791040e9e484 [a,b,c,d]
theorem o536{a b c d:Nat}:a<b+c->b<=d->d<=a->b<=d/\d<b+c:=D 0x20b8741867700e7918679105c0a6484 [a,b,c,d]
theorem o537{a b c d:Nat}:a<b+c->b<=d->d<=a->b<=a/\a<b+c:=D 0x20b8140067700e7918679105c0a6484 [a,b,c,d]
theorem o538{a b c:Nat}:a<b+c->b<=b+(b+c)-1-a:=D 0x5820b82e7bc33105c0a6463 [a,b,c]
theorem o539{a b c d:Nat}:a<=b->c+(c+d)-1-b<=c+(c+d)-1-a:=D 0x2c189c273de10b062709cf7cc209e484 [a,b,c,d]
theorem o540{a b c d:Nat}:a<b+c->b<=d->b+(b+c)-1-d<b+c:=D 0x4170c2c105c173df418679105c0a6484 [a,b,c,d]
theorem o541{a:Nat}:1<=a->max a 1=a:=D 0xb012a802c9e421 [a]
theorem o542{a b:Nat}:1<=a->a<=b->max (max a 1) b=b:=D 0x42160252a8413c802c9e442 [a,b]
theorem o543{a:Nat}:a-0<=a-0:=D 0x180781807cc21 [a]
theorem o544{a b c d e f:Nat}:a+b<=c->d<b->e<=d->¬f>=e->a+(f+e)/2<c:=D 0x2301d429276c8c93c8474c882074f2261e99215c730a0eae508 [a,b,c,d,e,f,(f+e)/2,(f+e)%2] (by kernel_rfl) (Nat.div_add_mod _ 2) (Nat.mod_lt _ (by decide))
theorem o545{a b:Nat}:¬a>=b->a<=(a+b)/2:=D 0x204c019db2260e99081c310a0eae484 [a,b,(a+b)/2,(a+b)%2] (by kernel_rfl) (Nat.div_add_mod _ 2) (Nat.mod_lt _ (by decide))
theorem o546{a b c:Nat}:a<=b->¬c>=a->(c+a)/2<=b:=D 0x11cc409db2104f2261299009c418a0eae4a5 [a,b,c,(c+a)/2,(c+a)%2] (by kernel_rfl) (Nat.div_add_mod _ 2) (Nat.mod_lt _ (by decide))
theorem o547{a b c d:Nat}:a-b<=c-d->(b+a)/2-b<=c-(d+1):=D 0x583709e123e6313c207cf2261699005c520a0eae4c6 [a,b,c,d,(b+a)/2,(b+a)%2] (by kernel_rfl) (Nat.div_add_mod _ 2) (Nat.mod_lt _ (by decide))
theorem o548{a b c:Nat}:a<=a+(b+c)/2:=D 0x607026261299105c418a0eae4a5 [a,b,c,(b+c)/2,(b+c)%2] (by kernel_rfl) (Nat.div_add_mod _ 2) (Nat.mod_lt _ (by decide))
theorem o549{a b c d:Nat}:(a+b)/2<=c->d+(a+b)/2<=d+c:=D 0x10dc41ba6224f2261699081c520a0eae4c6 [a,b,c,d,(a+b)/2,(a+b)%2] (by kernel_rfl) (Nat.div_add_mod _ 2) (Nat.mod_lt _ (by decide))
theorem o550{a b:Nat}:¬a>=b->(a+b)/2+1<=b:=D 0x858274c019db2260e99081c310a0eae484 [a,b,(a+b)/2,(a+b)%2] (by kernel_rfl) (Nat.div_add_mod _ 2) (Nat.mod_lt _ (by decide))
theorem o551{a b c d:Nat}:a-b<=c-d->a-((b+a)/2+1)<=c-(d+1):=D 0x2c1b84f0b08e03e6313c207cf2261699005c520a0eae4c6 [a,b,c,d,(b+a)/2,(b+a)%2] (by kernel_rfl) (Nat.div_add_mod _ 2) (Nat.mod_lt _ (by decide))
theorem o552{a b c d:Nat}:a<(b+c)/2+1->d+a<=d+(b+c)/2:=D 0x106e00dd30b08e0532261699105c520a0eae4c6 [a,b,c,d,(b+c)/2,(b+c)%2] (by kernel_rfl) (Nat.div_add_mod _ 2) (Nat.mod_lt _ (by decide))
theorem o553{a b c d:Nat}:a<=b->¬c>=a->d+(c+a)/2<d+b:=D 0x11b883750409db2104f2261699009c520a0eae4c6 [a,b,c,d,(c+a)/2,(c+a)%2] (by kernel_rfl) (Nat.div_add_mod _ 2) (Nat.mod_lt _ (by decide))
theorem o554{a b c:Nat}:a+b-(a+c)<=a+b:=D 0x1038407040e7cc63 [a,b,c]
theorem o555{a b c d:Nat}:a<b->¬a=b+c-(b+c-(b+d)):=D 0x185c20b9e20b9e0ad820a6484 [a,b,c,d]
theorem o556{a b c d:Nat}:a<b->¬(b+c-(b+c-(b+d))<a/\a<=b+c):=D 0x4170260185c20b9e20b9f4bd820a6484 [a,b,c,d]
theorem o557{a b c:Nat}:a<=b->c+b-(c+b-(c+a))=c+a:=D 0x138027044e7844e7d4209e463 [a,b,c]
theorem o558{a b c d:Nat}:a+b<c/\c<=a+d->a+b<=c-1:=D 0x2c13c2074c6070a62081d4be484 [a,b,c,d]
theorem o559{a b c d e:Nat}:a<b+(c+1)->d=b+e->d<=a->¬(b+e<a/\a<=b+c)->¬a=b+e->False:=D 0x3440b815b644170260205d4bdb201cf240b875c8582705c0a64a5 [a,b,c,d,e]
theorem o560{a b c d e:Nat}:a+b<c/\c<=a+d->e=a+b->c<=e->False:=D 0x1a20a79081c4ae46070a62081d4be4a5 [a,b,c,d,e]
theorem o561{a b c d:Nat}:a+b<c/\c<=a+d->a<=c-1:=D 0xb04f04c6070a62081d4be484 [a,b,c,d]
theorem o562{a b:Nat}:a<=b->a-1<=b-1:=D 0x581785807cc209e442 [a,b]
theorem o563{a b c d e:Nat}:a+b<c/\c<=a+d->e<a+(d+1)->c<=e->¬(a+b<e/\e<=a+d)->False:=D 0x1a181c499020752f6c9053c8583701c4a646070a62081d4be4a5 [a,b,c,d,e]
theorem o564{a b c d:Nat}:a=b+c->d<=a->¬d=b+c->d<b+c:=D 0x105c3a082e1d6d900e79105c0ae484 [a,b,c,d]
theorem o565{a b c d e:Nat}:a+b<c/\c<=a+d->e<=c->¬(a+b<e/\e<=a+d)->e<=c-1:=D 0x1609e498c0e24c8103a97b64449e46070a62081d4be4a5 [a,b,c,d,e]
theorem o566{a b c d:Nat}:a<b+(c+1)->d<=c->¬(b+d<a/\a<=b+c)->¬a=b+d->a<b+c:=D 0x105c0a0c2e056d9105c098061752f6c8873c8582705c0a6484 [a,b,c,d]
theorem o567{a b c d:Nat}{e:Prop}:0<a->b+a+c<=d/\e->b+(c+1)<=d:=D3 0x61609c174c041880173a77c800ca6484 [a,b,c,d] [] [e]
theorem o568{a b c d:Nat}{e:Prop}{f:Nat}:a+b+c<=d/\e->f=a->a<=f/\f+b<=d:=D3 0x6123a6404ee02572020c41039d3be4a5 [a,b,c,d,f] [] [e]
theorem o569{a b c d e:Nat}:a+b<=c/\c+d<=e->a<=c/\c+d<=e:=D 0x106274c409dc8313a62081d3be4a5 [a,b,c,d,e]
theorem o570{a b:Nat}:a+1<b->min a b=a:=D 0x1046a10b00ea6442 [a,b]
theorem o571{a b:Nat}:a+1<b->a+1<b:=D 0x42c03a810b00ea6442 [a,b]
theorem o572{a b:Nat}:0<a->0<b+a:=D 0xb80ca000ca6442 [a,b]
theorem o573{a b c:Nat}:a+(b+c)=a+b+c:=D 0x2081ce105c075463 [a,b,c]
theorem o574{a b c d:Nat}:a=b+c->b+(c+d)=a+d:=D 0x303862705d5105c0ae484 [a,b,c,d]
theorem o575{a b c d e f g h:Nat}:a+b+c<=d/\d+e<=f->g=a+b->d<=h->g+c<=h:=D 0x1c4674ce39e42071ab92906e98c41039d3be508 [a,b,c,d,e,f,g,h]
theorem o576{a b c d e f g h i:Nat}:a+b+c<=d/\d+e<=f->g=a+b->h<=i->d<=h->g+c<=i:=D 0x204674ce39e5079e42071ab92906e98c41039d3be529 [a,b,c,d,e,f,g,h,i]
theorem o577{a b:Nat}:a+(b+1)+1=a+(b+1+1):=D 0x1605817380e0b02c0b80e75442 [a,b]
theorem o578{a b c:Nat}:a=b->a<=c->c<=b->c=b:=D 0x1154229e4409e420ae463 [a,b,c]
theorem o579{a b:Nat}:0+a<=b->a<=max 1 (b-0):=D 0xc0bc2c902610018e9e442 [a,b]
theorem o580{a b c:Nat}:a=b->c<=max 1 (b-a)->c<=1:=D 0x5829802f0b2429e420ae463 [a,b,c]
theorem o581{a:Nat}:2<=a->a-2+1<a:=D 0x582601eea004c9e421 [a]
theorem o582{a:Nat}:2<=a->a-2-1+1<a:=D 0x2c0b04c03deea004c9e421 [a]
theorem o583{a:Nat}:¬a<=1->2<=a:=D 0x9930b013b6421 [a]
theorem o584{a b c d:Nat}:a+1=b->b<=max 1 (c-d)->a<=max 1 (c-(d+1)):=D 0x160dc27859204c62785920cf210b00eae484 [a,b,c,d]
theorem o585{a b:Nat}:0=a->b<a->False:=D 0xd0034c800cae442 [a,b]
theorem o586{a b c:Nat}:a=b->c<=b->c>=a->c=b:=D 0x1154409e4229e420ae463 [a,b,c]
theorem o587{a b:Nat}:¬a>=b->1<=b-a:=D 0xbc2c98033b6442 [a,b]
theorem o588{a b c:Nat}:a=b->¬c>=a->c+(a-c)<=b:=D 0x2203c4e98813b6420ae463 [a,b,c]
theorem o589{a b c d:Nat}:a=b->¬c>=a->c+min (a-c) d<=b:=D 0x8c407c44e98813b6420ae484 [a,b,c,d]
theorem o590{a b c d:Nat}:a<b->a<=c-d->a<=min (c-d) b:=D 0x4627c413189e09e420a6484 [a,b,c,d]
theorem o591{a b c d e:Nat}:a<b->min (c-d) b=e->¬d>=c->0<e:=D 0x100ca0c53b6481189f1ae420a64a5 [a,b,c,d,e]
theorem o592{a b c d e:Nat}:a=b->min (a-c) d=e->¬c>=a->c+e<=b:=D 0x904e98813b6483101f1ae420ae4a5 [a,b,c,d,e]
theorem o593{a:Nat}:1<=a->0<a:=D 0xca002c9e421 [a]
theorem o594{a b c d:Nat}:a=b->c<=a-d->¬d>=a->d+c<=b:=D 0x221ba6304ed9181e29e420ae484 [a,b,c,d]
theorem o595{a b c d e f:Int}:¬(a<b\/a=b/\c<d)->¬(b<e\/b=e/\d<f)->¬(a<e\/a=e/\c<f):=D3 0x2882400ae40071628c2408ae408716c8c410805708038b6406 [] [a,b,c,d,e,f] []
theorem o596{a b c d:Int}:a<b\/a=b/\c<d->¬(b<a\/b=a/\d<c):=D3 0x4308022b8021c586208402b8401c6404 [] [a,b,c,d] []
theorem o597{a b c d:Int}:¬(a<b\/a=b/\c<d)->b<=a:=D3 0x100c410805708038b6404 [] [a,b,c,d] []
theorem o598{a b:Int}:¬(a<a\/a=a/\b<b):=D3 0x2108002b8001c5802 [] [a,b] []
theorem o599{a:Nat}:0<a->¬a=(a-1)/2:=D 0x415b000ca644c15321601e208a0eae463 [a,(a-1)/2,(a-1)%2] (by kernel_rfl) (Nat.div_add_mod _ 2) (Nat.mod_lt _ (by decide))
theorem o600{a:Nat}:0<a->a≠(a-1)/2:=D 0x415b000ca644c15321601e208a0eae463 [a,(a-1)/2,(a-1)%2] (by kernel_rfl) (Nat.div_add_mod _ 2) (Nat.mod_lt _ (by decide))
theorem o601{a:Nat}:a≠(a-1)/2->(a-1)/2<a:=D 0x1a0415b644c15321601e208a0eae463 [a,(a-1)/2,(a-1)%2] (by kernel_rfl) (Nat.div_add_mod _ 2) (Nat.mod_lt _ (by decide))
theorem o602{a:Nat}:0<(a-1)/2->¬a=((a-1)/2-1)/2:=D 0xc15b040ca644c25321605e418a0eae44c15321601e208a0eae4a5 [a,(a-1)/2,(a-1)%2,((a-1)/2-1)/2,((a-1)/2-1)%2] (by kernel_rfl) (Nat.div_add_mod _ 2) (Nat.mod_lt _ (by decide)) (Nat.div_add_mod _ 2) (Nat.mod_lt _ (by decide))
theorem o603{a:Nat}:0<(a-1)/2->((a-1)/2-1)/2≠a:=D 0x75b040ca644c25321605e418a0eae44c15321601e208a0eae4a5 [a,(a-1)/2,(a-1)%2,((a-1)/2-1)/2,((a-1)/2-1)%2] (by kernel_rfl) (Nat.div_add_mod _ 2) (Nat.mod_lt _ (by decide)) (Nat.div_add_mod _ 2) (Nat.mod_lt _ (by decide))
theorem o604{a:Nat}:¬0<a->a=0:=D 0x301500194b6421 [a]
theorem o605{a b:Nat}:a=2*b+1\/a=2*b+2->b≠a:=D 0x6b613022838150b02283815c6442 [a,b]
theorem o606{a b c d:Nat}:a-b=c->d<a->d=2*b+1\/d=2*b+2->a-d<c:=D 0x8607d04c08a0e1d42c08a0e1d71900e991040fae484 [a,b,c,d]
theorem o607{a b:Nat}:0<a->b=a->¬b=(a-1)/2:=D 0x835b0035c800ca644c1d321601e310a0eae484 [a,b,(a-1)/2,(a-1)%2] (by kernel_rfl) (Nat.div_add_mod _ 2) (Nat.mod_lt _ (by decide))
theorem o608{a b:Nat}:0<a->b=a->0<b:=D 0x40ca0035c800ca6442 [a,b]
theorem o609{a b:Nat}:a=2*b+1\/a=2*b+2->0<a:=D 0x19413022838150b02283815c6442 [a,b]
theorem o610{a b:Nat}:a=2*b+1\/a=2*b+2->(a-1)/2=b:=D 0x45513022838150b02283815c644c1d321601e310a0eae484 [a,b,(a-1)/2,(a-1)%2] (by kernel_rfl) (Nat.div_add_mod _ 2) (Nat.mod_lt _ (by decide))
theorem o611{a b:Nat}:a=2*b+1\/a=2*b+2->b=(a-1)/2:=D 0x83513022838150b02283815c644c1d321601e310a0eae484 [a,b,(a-1)/2,(a-1)%2] (by kernel_rfl) (Nat.div_add_mod _ 2) (Nat.mod_lt _ (by decide))
theorem o612{a b c:Nat}:(a-1)/2=b->b=2*c+1\/b=2*c+2->¬c=a:=D 0xab613042838350b04283835c6423ae44c25321601e418a0eae4a5 [a,b,c,(a-1)/2,(a-1)%2] (by kernel_rfl) (Nat.div_add_mod _ 2) (Nat.mod_lt _ (by decide))
theorem o613{a b c:Nat}:(a-1)/2=b->b=2*c+1\/b=2*c+2->a≠c:=D 0x102b613042838350b04283835c6423ae44c25321601e418a0eae4a5 [a,b,c,(a-1)/2,(a-1)%2] (by kernel_rfl) (Nat.div_add_mod _ 2) (Nat.mod_lt _ (by decide))
theorem o614{a b c:Nat}:(a-1)/2=b->c≠b->(a-1)/2≠c:=D 0x875b0455b6423ae44c25321601e418a0eae4a5 [a,b,c,(a-1)/2,(a-1)%2] (by kernel_rfl) (Nat.div_add_mod _ 2) (Nat.mod_lt _ (by decide))
theorem o615{a:Nat}:¬a=0->(a-1)/2<a:=D 0x3403015b644c15321601e208a0eae463 [a,(a-1)/2,(a-1)%2] (by kernel_rfl) (Nat.div_add_mod _ 2) (Nat.mod_lt _ (by decide))
theorem o616{a:Nat}:¬a=0->0<a:=D 0x19403015b6421 [a]
theorem o617{a b:Nat}:a=b+1->b<a:=D 0x681605c0ae442 [a,b]
theorem o618{a b c:Nat}:a<b->b=c+1->a≠c->a<c:=D 0x205040adb21609c1ae420a6463 [a,b,c]
theorem o619{a:Nat}:(a+1-1)/2≠0->(a+1-1)/2=(a+1-1)/2-1+1:=D 0xb02c0bdc1a8181adb2260a990b02c039e208a0eae463 [a,(a+1-1)/2,(a+1-1)%2] (by kernel_rfl) (Nat.div_add_mod _ 2) (Nat.mod_lt _ (by decide))
theorem o620{a b c:Nat}:(a+1-1)/2=b+1->a<c->b<c:=D 0x834102990b02e1d722612990b02c039e418a0eae4a5 [a,b,c,(a+1-1)/2,(a+1-1)%2] (by kernel_rfl) (Nat.div_add_mod _ 2) (Nat.mod_lt _ (by decide))
theorem o621{a:Nat}:0<a+1:=D 0x1601c065021 [a]
theorem o622:0<0->False:=D 0x1a0300ca6400 []
theorem o623{a b c d:Nat}:a+1+b<=c->d=a->d+(b+(0+1))<=c:=D 0x416018e0b86e98075c8821601ce9e484 [a,b,c,d]
theorem o624{a b c:Int}:a<b->c<=a->c<=b:=D3 0x110002064200e403 [] [a,b,c] []
theorem o625{a b:Int}:a<=b->a<=b:=D3 0x10002006402 [] [a,b] []
theorem o626{a b c:Int}:a<=b+(1:Int)->¬c<=b->a<=c:=D3 0x20002205b21605c006403 [] [a,b,c] []
theorem o627{a b c:Int}:a<=b/\b<=c->b<=c:=D3 0x20804100400be403 [] [a,b,c] []
theorem o628{a b c:Int}:a<=b/\b<=c->¬b<=c->False:=D3 0xd0820b644100400be403 [] [a,b,c] []
theorem o629{a b c d:Int}:a<b->c<=d/\d<=a->c<=d/\d<=b:=D3 0x11806205c0300c40be4200e404 [] [a,b,c,d] []
theorem o630{a b c:Int}:a<=b/\b<=c->a<=b/\b<=c:=D3 0x20802005c4100400be403 [] [a,b,c] []
theorem o631{a b c d:Int}:a<=b->b<=c/\c<=d->a<=c/\c<=d:=D3 0x31004005c6200820be42006404 [] [a,b,c,d] []
theorem o632{a b c d e:Int}:a<=b->b<=c/\c<=d->¬e<d->a<=c/\c<=e:=D3 0x8200800b8c81b646200820be42006405 [] [a,b,c,d,e] []
theorem o633{a b c d e:Nat}:a+1+b<=c->d+1=a->e=d+1->e+b<=c:=D 0x4123a6160dc4ae40160dd5c8821601ce9e4a5 [a,b,c,d,e]
theorem o634{a b:Nat}:a<=4->b<=4->max a b<=4:=D 0x8c0825323033c91809e442 [a,b]
theorem o635{a:Nat}:a<=4->a<=63:=D 0x1f89a0991809e421 [a]
theorem o636{a b:Nat}:a+200<b->a+128<b:=D 0x4801340ea04c81340ea6442 [a,b]
theorem o637{a b:Int}:a%(256:Int)+b%(20:Int)<(255:Int)->(0:Int)<=a%(256:Int)/\a%(256:Int)<=a%(256:Int)+b%(20:Int)/\a%(256:Int)+b%(20:Int)<(256:Int):=by omega
theorem o638{a:Int}:(0:Int)<=a%(256:Int)/\a%(256:Int)<=(255:Int)/\(255:Int)<(256:Int):=by omega
theorem o639{a b:Int}:a=(58:Int)/\b=(66:Int)->(0:Int)<=a/\a<=b/\b<(256:Int):=D3 0x200268421002e0030171084d0883a13402be402 [] [a,b] []
theorem o640{a b:Int}:a=(64:Int)/\b=(70:Int)->(0:Int)<=a/\a<=b/\b<(256:Int):=D3 0x200268421002e0030171184d0884013402be402 [] [a,b] []
theorem o641{a b:Nat}:a=min 6 b+1+1->a<=8:=D 0x218098581604cc8b9c0ae442 [a,b]
theorem o642{a b:Nat}:a<=256->b<=a->(((b:Int)<(9223372036854775808:Int)/\(a:Int)<(9223372036854775808:Int))/\((a-b:Nat):Int)<(9223372036854775808:Int))/\(a-b=0\/(a:Int)<(9223372036854775808:Int)):=D 0x80000000000000006b41c0818103eb8400000000000000035a103f81400000000000000035a0e050000000000000000d68781bdee00cf28009a09e442 [a,b]
theorem o643{a b:Nat}:a<b->b<=8->a<8:=D 0x2180a21819e420a6442 [a,b]
theorem o644{a:Int}{b:Nat}:a=(b:Int)->a+(1:Int)=((b+1:Nat):Int):=D3 0x1601dc0b00e1038016421 [b] [a] []
theorem o645{a:Int}{b:Nat}:a<(256:Int)->a=(b:Int)->b+1<=256:=D3 0x20026858074c1c00b28009a00e421 [b] [a] []
theorem o646{a:Nat}{b:Int}:¬((a:Int)<=b/\b<(a:Int)+(0:Int)):=D3 0x180e380100380bd821 [a] [b] []
theorem o647{a:Int}{b c d:Nat}:a<(256:Int)->b<c+1-d->a=(c:Int)->b<256:=D3 0x8009a0a078016441605cf05328009a00e463 [b,c,d] [a] []
theorem o648{a b c:Nat}:a<256->b<8->c<=256*b+a->c+1<4096:=D 0x40006d0b04ea002806dc29e50c0d328009a0a6463 [a,b,c]
theorem o649{a:Nat}{b:Int}{c:Nat}:((a:Int)<=b/\b<(a:Int)+((c+1:Nat):Int)↔(a:Int)<=b/\b<(a:Int)+(c:Int)\/b=(a:Int)+(c:Int)):=D3 0x3c071c010780e380100380be02c0bb80e380100380b8c42 [a,c] [b] []
theorem o650{a b c:Nat}:a<=256*b+c->a<=256*b+(c+1):=D 0x2c1382806dc09882806dc09e463 [a,b,c]
theorem o651{a b c:Nat}:a<=256*b+c->a+1<=256*b+(c+1):=D 0x1609c14036e0b00e9882806dc09e463 [a,b,c]
theorem o652{a:Int}{b c d e:Nat}:a<(256:Int)->a=(b:Int)->c<=256*d+(b+1-e)->c<=256*(d+1):=D3 0x1609c806c331858073c4806dc19e41c00b28009a00e484 [b,c,d,e] [a] []
theorem o653{a:Nat}{b:Int}{c:Nat}:((a:Int)<=b/\b<=(c:Int)↔(a:Int)<=b/\b<(a:Int)+((c+1-a:Nat):Int)):=D3 0xb02e7f01c70020070170f00000380b8c42 [a,c] [b] []
theorem o654{a b:Nat}:a<=256*b->b<=8->a<=3000:=D 0x2ee06d04d0c0cf21403609e442 [a,b]
theorem o655{a:Nat}:a<=3000->a<=4000:=D 0x3e806d04c5dc0da09e421 [a]
theorem o656{a b:Nat}:a<256->a+1-b<=256:=D 0x4004d0858073e68009a0a6442 [a,b]
theorem o657{a b:Int}:(0:Int)<=a/\a<=b/\b<(256:Int)->Int.toNat b<256:=D3 0x8009a1ed100134210801700180be402 [] [a,b] []
theorem o658{a b c:Nat}:a<=256->b<=256*c->a+b<=256*(c+1):=D 0x5827201b081d31201b0cf28009a09e463 [a,b,c]
theorem o659{a:Int}{b:Nat}{c:Int}{d:Nat}:a=(b:Int)->c=(d:Int)->c<=a->d<=b:=D3 0x33004190f022c838016442 [b,d] [a,c] []
theorem o660{a:Int}{b:Nat}:a<(256:Int)->a=(b:Int)->b<256:=D3 0x4004d0501c00b28009a00e421 [b] [a] []
theorem o661{a b:Nat}:a+20<b->a+12<b:=D 0x58c03a81a300ea6442 [a,b]
theorem o662{a b:Nat}:a+200<b->a+160<b:=D 0x4a01340ea04c81340ea6442 [a,b]
theorem o663{a b c d e f:Nat}:a+b<=c->d<=100->c<=256->e<=256*d->f<=b->e+a+f<=1000000:=D 0x1e848046940473a612cf23403649e50013453c8c8268e791040e9e4c6 [a,b,c,d,e,f]
theorem o664{a b:Nat}:a=b->b<=1000000->a<=1000000:=D 0x7a12011a09fa12011a19e420ae442 [a,b]
theorem o665{a b:Nat}:a<=70->b<=70->b<1114112/\a<1114112:=D 0x440000ad0502200005686971184d0cf22309a09e442 [a,b]
theorem o666{a:Nat}:a<16->(a:Int)<(4611686018427387904:Int):=D 0x40000000000000006b41c0c180a6421 [a]
theorem o667{a:Nat}:3+3*a=3*(a+1):=D 0x58070e001c06c75421 [a]
theorem o668{a b:Nat}:a<b->b<=1000->a<=16777216:=D 0x200000056827f409a19e420a6442 [a,b]
theorem o669{a b:Nat}:a<b->b<=1000->a+1<=16777216+1:=D 0xb200000056b82c03a7f409a19e420a6442 [a,b]
theorem o670{a b:Nat}:a<b->¬a=b:=D 0x20ad820a6442 [a,b]
theorem o671{a b:Nat}:a<b+1->a>=b->a=b:=D 0x82a00cf21605c0a6442 [a,b]
theorem o672{a b c:Nat}:a<b->c=a->c<=b:=D 0x114c02ae420a6463 [a,b,c]
theorem o673{a b:Nat}:a<=100->b<=a->b<=900:=D 0x7082686600cf23209a09e442 [a,b]
theorem o676{a b:Nat}:0+a<=b->a<=b:=D 0x82610018e9e442 [a,b]
theorem o677{a b c:Nat}:a+b<=c->c<=100->b<=1000:=D 0x1f409a198c8268a791040e9e463 [a,b,c]
theorem o678:0+1<=1000:=D 0xfa04d0b00c74c00 []
theorem o679{a b c d:Nat}:a+(b+1)+1+c<=d->d<=100->a<=100:=D 0x3209a098c8268e791882c0b02e039ce9e484 [a,b,c,d]
theorem o680{a:Nat}:a<=100->a+(0+1)+1<=1000:=D 0xfa04d0b02c031c073a63209a09e421 [a]
theorem o681{a:Nat}:a<=100->a<=900:=D 0x708268263209a09e421 [a]
theorem o682{a b:Nat}:a=b->b<=100->a<=900:=D 0x708268263209a19e420ae442 [a,b]
theorem o684{a b c:Nat}:a=b->c=a+1->c<b+(0+1)+1:=D 0x1605806382e70a81601c2ae420ae463 [a,b,c]
theorem o685{a b c:Int}:a<=b->¬a<=c+(1:Int)->c+(1:Int)<b:=D3 0x85827042c13800b642006403 [] [a,b,c] []
theorem o686{a b:Nat}:a=b->a+1<b+(0+1)+1:=D 0x1605806382e7058075020ae442 [a,b]
theorem o687{a b:Nat}:a+3<=b->a<=b/\3<=b-a:=D 0x2f1b26104ee11b00e9e442 [a,b]
theorem o688{a b:Nat}:a+3<=b->¬a>=b:=D 0xcec11b00e9e442 [a,b]
theorem o689{a b:Nat}:a+3<=b->¬(2:Int)>(b:Int)-((a+1:Nat):Int):=D 0x2605807703c786c11b00e9e442 [a,b]
theorem o690{a b:Nat}:a+3<=b->min 2 (Int.toNat ((b:Int)-((a+1:Nat):Int)))=2:=D 0x1302c03b81e3fa2646a11b00e9e442 [a,b]
theorem o692{a:Nat}:(0:Int)<=(a:Int)+(3:Int):=D 0x6c071c060021 [a]
theorem o693{a:Nat}:a<=3->a<=16777216:=D 0x80000015a098d809e421 [a]
theorem o696{a:Nat}:3*a+1+1+1=3*(a+1):=D 0x1601c380581605801c1ce75421 [a]
theorem o697{a:Nat}:3*(a+1)=3*a+1+1+1:=D 0x16058160070739c1601c385421 [a]
theorem o698{a:Nat}:1+a=a+1:=D 0x5807002c75421 [a]
theorem o699{a b:Nat}:a<b->3*a+3<=3*b:=D 0x8e036007074c20a6442 [a,b]
theorem o700{a b:Nat}:a+4<b->a+3<b:=D 0x46c03a812300ea6442 [a,b]
theorem o701{a b:Nat}:a+32<b->a+1+24<b:=D 0xe181601cea04201340ea6442 [a,b]
theorem o702{a b c:Nat}:a=min b c->c<=1000->a<=1000:=D 0x1f409a09fd0268a7910620ae463 [a,b,c]
theorem o705{a b:Int}{c:Nat}:(((0:Int)<=a/\a<=b)/\b<=(c:Int))/\c<=1000->c<=16777216:=D3 0x80000015a09fd0268260e040100000602f7be422 [c] [a,b] []
theorem o706{a:Nat}:¬(a:Int)+(1:Int)=(0:Int):=D 0x1816038e15821 [a]
theorem o707{a b:Nat}:a<=b->¬b<a:=D 0x1a58209e442 [a,b]
theorem o708{a b c:Nat}:a-b=c+1+1+1+1+1->b<a:=D 0x1a05816058160582739ce7040fae463 [a,b,c]
theorem o709{a:Nat}:a<1000->(a:Int)<(4611686018427387904:Int):=D 0x10000000000000001ad0703f409a0a6421 [a]
theorem o710{a b c:Nat}:a+b<=c->c<=1000->((a:Int)<=(a:Int)+(b:Int)/\(a:Int)+(b:Int)<=(c:Int))/\c<=1000:=D 0x7d0268a62e0780e3801e038e07017bfd0268a791040e9e463 [a,b,c]
theorem o711{a:Nat}:Int.toNat (a:Int)=a:=D 0x1ced421 [a]
theorem o712{a b:Nat}:Int.toNat (((a+b:Nat):Int)-(a:Int))=b:=D 0x838103b8fed442 [a,b]
theorem o713{a b:Nat}:a<b->b+1-a=b-a+1:=D 0x5800bdc00b02e7d420a6442 [a,b]
theorem o714{a b:Nat}:a<b->a+1-b=0:=D 0x1810b00e7d420a6442 [a,b]
theorem o715{a:Nat}:Int.toNat (max (0:Int) (a:Int))=a:=D 0xe0192ed421 [a]
theorem o716{a b:Int}:a<=b->¬b<a:=D3 0x10d82006402 [] [a,b] []
theorem o717{a b:Int}:a<b->¬b<=a:=D3 0x1058200e402 [] [a,b] []
theorem o719{a b c:Nat}:a-b=c+1->b+1<=a:=D 0xb02e985827040fae463 [a,b,c]
theorem o726{a b c:Nat}:a-b=c+1+1+1+1+1->b+5<=a:=D 0x2b02e985816058160582739ce7040fae463 [a,b,c]
theorem o748{a b c:Nat}:a<=b/\b<a+(c+1-a)->b<=c:=D 0x106600b04e781c1a0413be463 [a,b,c]
theorem o749{a b c:Nat}:a<=b->c<=a->c<=a/\a<c+(b+1-c):=D 0x1058173c4e050029dc029e4209e463 [a,b,c]
theorem o750{a b c d e:Nat}:a+1<b->b<=c->d<=e/\e<d+(a+1-d)->e<c:=D 0x8941858073c6e250839df220cf210b00ea64a5 [a,b,c,d,e]
theorem o751{a b c:Nat}:a+1<b->c<=a->c<b:=D 0x8a8014f210b00ea6463 [a,b,c]
theorem o752{a b:Nat}:a<=b->a-1<=b:=D 0x85807cc209e442 [a,b]
theorem o753{a b:Nat}:a<b->((b-1:Nat):Int)=(b:Int)-(1:Int):=D 0x16078f0b02fe0820a6442 [a,b]
theorem o754{a b:Nat}:(a:Int)=(b:Int)-(1:Int)->b<=a->False:=D 0xd0033c8581e3c1c16442 [a,b]
theorem o755{a b c d:Nat}:(a:Int)=(b:Int)-(1:Int)->c+1<d->d<=a->b<=c->False:=D 0x68419e4039e461609d4c8581e3c1c16484 [a,b,c,d]
theorem o756{a b c:Nat}:(a:Int)=(b:Int)-(1:Int)->c+1<b->a<=c->False:=D 0x68409e421609d4c8581e3c1c16463 [a,b,c]
theorem o757{a b c:Nat}:a+1<b->b<=c->a<c:=D 0x102820cf210b00ea6463 [a,b,c]
theorem o758{a b:Nat}:a<=b->a<=b+1:=D 0xb02e04c209e442 [a,b]
theorem o759{a:Nat}:((a+1:Nat):Int)=(a:Int)+(1:Int):=D 0x16038e0b00ee0821 [a]
theorem o760{a b:Nat}:a<=b->a>=b->b=a:=D 0xd4019e4209e442 [a,b]
theorem o761{a b:Nat}:(a:Int)=(b:Int)+(1:Int)->a<=b->False:=D 0xd0413c8581e381c16442 [a,b]
theorem o762{a b c:Nat}:(a:Int)=(b:Int)+(1:Int)->b+1<c->c<=a->False:=D 0x68029e441605d4c8581e381c16463 [a,b,c]
theorem o763{a b c d:Nat}:(a:Int)=(b:Int)+(1:Int)->c+1<d->a<=c->d<=b->False:=D 0x68239e4409e461609d4c8581e381c16484 [a,b,c,d]
end
end Mine.Internal
end
section
open PySem PyProof.Rows
namespace Mine.Internal
section
noncomputable abbrev SM:=StateT SortSt Sem
noncomputable abbrev gallopP : Bool -> Keyed -> Array Keyed -> Nat -> Nat -> Nat -> SM (Option Nat):=sortPriv% PySem.Builtin.gallop
noncomputable abbrev ltP : Keyed -> Keyed -> SM (Option Bool):=sortPriv% PySem.Builtin.lt
noncomputable abbrev elemP : Array Keyed -> Nat -> SM Keyed:=sortPriv% PySem.Builtin.elem
noncomputable abbrev ltAtP : Nat -> Nat -> SM (Option Bool):=sortPriv% PySem.Builtin.ltAt
noncomputable def kN (p : Keyed) : Int:=numOf p.1
noncomputable def IsK (p : Keyed) : Prop:=∃ n t,p.1 = .int n t
section
variable {prog : Program} {w : World} {A : Around} {E : Value -> Shared -> Prop} {s : Shared}
theorem wpS_lt {p q : Keyed} {Q : Option Bool -> SortSt -> Prop} {st : SortSt} (hk : kindOf st = oneType') (hp : IsK p) (hq : IsK q) (h : Q (some (decide (kN p < kN q))) st) :
  wpS (model prog w) A E s (ltP p q) Q st:=by
 refine bc fun g0=>?_;obtain ⟨n,t,e⟩:=hp
 obtain ⟨m,u,f⟩:=hq
 obtain ⟨p1,p2⟩:=p
 obtain ⟨q1,q2⟩:=q;refine g0 ?_;clear g0
 dsimp only at e f
 subst e f
 refine wpS_bind (wpS_get ?_)
 show wpS _ _ _ _ (liftM (keyLt' (kindOf st) _ _).attempt >>= _) _ _
 rw [hk,keyLt'_oneType]
 refine wpS_bind (wpS_lift (wpAny_attempt (oneLt_int ⟨rfl,?_⟩)))
 exact wpS_pure h
theorem wpS_elem {arr : Array Keyed} {i : Nat} {Q : Keyed -> SortSt -> Prop} {st : SortSt} (hi : i < arr.size) (h : Q arr[i] st) : wpS (model prog w) A E s (elemP arr i) Q st:=by
 show wpS _ _ _ _ (match arr[i]? with
  | some p=>pure p
  | none=>_) _ _
 rw [getElem?_pos arr i hi]
 exact wpS_pure h
theorem wpS_range0 {β : Type} {b : Nat} {f : Nat -> β -> SM (ForInStep β)} (I : Nat -> β -> SortSt -> Prop) {Q : β -> SortSt -> Prop} {c : β} {st : SortSt} (h : I 0 c st)
  (hstep : ∀ i c st,i < b -> I i c st -> wpS (model prog w) A E s (f i c) (fun r st'=>match r with | .done c'=>Q c' st' | .yield c'=>I (i + 1) c' st') st)
  (hend : ∀ c st,I b c st -> Q c st) : wpS (model prog w) A E s (forIn [:b] c f) Q st :=
 wpS_forRange I (fun i c st _ hi hI=>hstep i c st hi hI) (fun c st hI=>hend c st (by simpa using hI)) h
theorem wpS_let {α : Type} {m : SM α} {Q : α -> SortSt -> Prop} {st : SortSt} (h : let q:=Q;wpS (model prog w) A E s m q st) : wpS (model prog w) A E s m Q st:=h
theorem wpS_loop {ρ α β γ : Type} [ForIn SM ρ α] {xs : ρ} {b : β} {F : α -> β -> SM (ForInStep β)} {K : β -> SM γ} {Q : γ -> SortSt -> Prop} {st : SortSt} (h : let F':=F;let K':=K;wpS (model prog w) A E s (forIn xs b F' >>= K') Q st) : wpS (model prog w) A E s (forIn xs b F >>= K) Q st:=h
theorem wpS_gallop {left : Bool} {key : Keyed} {arr : Array Keyed} {base n hint : Nat} {Q : Option Nat -> SortSt -> Prop} {st : SortSt} (P : Nat -> Bool) (hk : kindOf st = oneType')
  (hsz : base + n <= arr.size) (hh : hint < n) (hkey : IsK key) (hint' : ∀ i (h : i < arr.size),IsK arr[i])
  (hP : ∀ i (h : i < n),P i = if left = true then decide (kN (arr[base + i]'(by exact o0 hsz h)) < kN key) else !decide (kN key < kN (arr[base + i]'(by exact o0 hsz h))))
  (hanti : ∀ i j,i <= j -> j < n -> P j = true -> P i = true)
  (h : ∀ k,k <= n -> (∀ i,i < k -> P i = true) -> (∀ i,k <= i -> i < n -> P i = false) -> Q (some k) st) :
  wpS (model prog w) A E s (gallopP left key arr base n hint) Q st:=by
 have bey : ∀ (i : Nat) (R : Option Bool -> SortSt -> Prop),i < n -> R (some (P i)) st ->
   wpS (model prog w) A E s (do
    let x <- elemP arr (base + i)
    if left = true then ltP x key else do
     let r <- ltP key x
     pure (Option.map (fun x=>!x) r)) R st:=fun i R hi hR=>by
  refine wpS_bind (wpS_elem (by exact o0 hsz hi) ?_)
  rw [hP i hi] at hR
  by_cases hl : left = true
  ·rw [if_pos hl] at hR ⊢
   exact wpS_lt hk (hint' _ (by exact o0 hsz hi)) hkey hR
  ·rw [if_neg hl] at hR ⊢
   exact wpS_bind (wpS_lt hk hkey (hint' _ (by exact o0 hsz hi)) (wpS_pure hR))
 have fls : ∀ {i j : Nat},i <= j -> j < n -> P i = false -> P j = false:=fun {i j} hij hj hf=>by
  cases e : P j with
  | false=>rfl
  | true=>rw [hanti i j hij hj e] at hf;cases hf
 have bis : ∀ (lo hi : Nat),lo <= hi -> hi <= n -> (∀ i,i < lo -> P i = true) -> (∀ i,hi <= i -> i < n -> P i = false) -> ∀ {f : Nat -> Option (Option Nat) × Nat × Nat -> SM (ForInStep (Option (Option Nat) × Nat × Nat))}
   {R : Option (Option Nat) × Nat × Nat -> SortSt -> Prop},(∀ x l r,l >= r -> f x (none,l,r) = pure (.done (none,l,r))) ->
   (∀ x l r (R' : ForInStep (Option (Option Nat) × Nat × Nat) -> SortSt -> Prop),l < r -> r <= n -> R' (.yield (if P (l + (r - l) / 2) = true then (none,l + (r - l) / 2 + 1,r) else (none,l,l + (r - l) / 2))) st -> wpS (model prog w) A E s (f x (none,l,r)) R' st) ->
   (∀ l k,k <= n -> (∀ i,i < k -> P i = true) -> (∀ i,k <= i -> i < n -> P i = false) -> R (none,l,k) st) -> wpS (model prog w) A E s (forIn [:n] (none,lo,hi) f) R st:=by
  intro lo hi hle hhi h1 h2 f R f1 f2 hR
  refine wpS_range0 (fun x c st'=>st' = st /\ ∃ l r,c = (none,l,r) /\ l <= r /\ r <= n /\ r - l <= n - x /\ (∀ i,i < l -> P i = true) /\ (∀ i,r <= i -> i < n -> P i = false)) ⟨rfl,lo,hi,rfl,hle,hhi,by exact o405 hhi,h1,h2⟩ ?_ ?_
  ·rintro x c st' hx hE1;refine bc fun g0=>?_;obtain ⟨rfl,l,r,rfl,a1,a2,a3,a4,a5⟩:=hE1;refine g0 ?_;clear g0
   by_cases hge : l >= r
   ·rw [f1 x l r hge]
    have : l = r:=by exact o25 a1 hge
    subst this
    exact wpS_pure (hR l l a2 a4 a5)
   ·refine f2 x l r _ (by exact o406 hge) a2 ?_
    by_cases hb : P (l + (r - l) / 2) = true
    ·rw [if_pos hb]
     exact ⟨rfl,_,_,rfl,by exact o407 hge,by exact o4 a2,by exact o408 a3,fun i hi=>hanti i (l + (r - l) / 2) (by exact o409 hi) (by exact o410 a2 hge) hb,a5⟩
    ·rw [if_neg hb]
     exact ⟨rfl,_,_,rfl,by exact o411,by exact o412 a2 hge,by exact o413 a3,a4,fun i hi1 hi2=>fls hi1 hi2 (by simpa using hb)⟩
  ·rintro c st' hE2;refine bc fun g0=>?_;obtain ⟨rfl,l,r,rfl,a1,a2,a3,a4,a5⟩:=hE2;refine g0 ?_;clear g0
   have : l = r:=by exact o128 a3 a1
   subst this
   exact hR l l a2 a4 a5
 refine wpS_bind (bey hint _ hh ?_)
 dsimp only
 by_cases hb : P hint = true
 ·rw [if_pos hb]
  refine wpS_loop ?_;intro F1 K1
  refine wpS_bind (wpS_mono (wpS_range0 (fun x c st'=>st' = st /\ ∃ last ofs,c = (none,last,ofs) /\ last < ofs /\ x < ofs /\ (hint + last < n /\ P (hint + last) = true))
   (Q:=fun c st'=>st' = st /\ ∃ last ofs,c = (none,last,ofs) /\ last < ofs /\ (hint + last < n /\ P (hint + last) = true) /\ (n - hint <= ofs \/ (hint + ofs < n /\ P (hint + ofs) = false))) ⟨rfl,0,1,rfl,by exact o43,by exact o43,by exact o414 hh,by simpa using hb⟩ ?_ ?_) ?_)
  ·rintro x c st' hx hE3;refine bc fun g0=>?_;obtain ⟨rfl,last,ofs,rfl,b1,b2,b3,b4⟩:=hE3;refine g0 ?_;clear g0
   dsimp only [F1]
   by_cases hge : ofs >= n - hint
   ·rw [if_pos hge]
    exact wpS_pure ⟨rfl,last,ofs,rfl,b1,⟨b3,b4⟩,.inl hge⟩
   ·rw [if_neg hge]
    refine wpS_bind (bey (hint + ofs) _ (by exact o72 hge) ?_)
    cases hm : P (hint + ofs) with
    | false=>exact wpS_pure ⟨rfl,last,ofs,rfl,b1,⟨b3,b4⟩,.inr ⟨by exact o72 hge,hm⟩⟩
    | true=>exact wpS_pure ⟨rfl,ofs,2 * ofs + 1,rfl,by exact o41,by exact o129 b2,by exact o72 hge,hm⟩
  ·rintro c st' hE4;refine bc fun g0=>?_;obtain ⟨rfl,last,ofs,rfl,b1,b2,b3,b4⟩:=hE4;refine g0 ?_;clear g0
   exact ⟨rfl,last,ofs,rfl,b1,⟨b3,b4⟩,.inl (by exact o130 b2)⟩
  ·rintro c st' hE5;refine bc fun g0=>?_;obtain ⟨rfl,last,ofs,rfl,b1,⟨b3,b4⟩,b5⟩:=hE5;refine g0 ?_;clear g0
   dsimp only [K1]
   refine wpS_bind (bis (hint + last + 1) (hint + min ofs (n - hint)) (by exact o415 b3 b1) (by exact o416 hh) (fun i hi=>hanti i (hint + last) (by exact o417 hi) b3 b4) (fun i hi1 hi2=>?_) (fun x l r hge=>if_pos hge) (fun x l r R' hlt hr hR'=>?_) fun l k c1 c2 c3=>?_)
   ·refine bc fun g0=>?_;rcases b5 with b5 | ⟨b5,b6⟩ <;> (refine g0 ?_;clear g0)
    ·exact (o418 hi1 b5 hi2).elim
    ·exact fls (by exact o419 hi1 hi2) hi2 b6
   ·dsimp only
    rw [if_neg (by exact o131 hlt)]
    refine wpS_bind (bey (l + (r - l) / 2) _ (by exact o132 hlt hr) ?_)
    cases hm : P (l + (r - l) / 2) with
    | false=>rw [hm] at hR';exact wpS_pure hR'
    | true=>rw [hm] at hR';exact wpS_pure hR'
   ·exact wpS_pure (h k c1 c2 c3)
 ·have hb' : P hint = false:=by simpa using hb
  rw [if_neg hb]
  refine wpS_loop ?_;intro F2 K2
  refine wpS_bind (wpS_mono (wpS_range0 (fun x c st'=>st' = st /\ ∃ last ofs,c = (none,last,ofs) /\ last < ofs /\ x < ofs /\ last <= hint /\ P (hint - last) = false)
   (Q:=fun c st'=>st' = st /\ ∃ last ofs,c = (none,last,ofs) /\ last < ofs /\ last <= hint /\ P (hint - last) = false /\ (hint + 1 <= ofs \/ (ofs <= hint /\ P (hint - ofs) = true))) ⟨rfl,0,1,rfl,by exact o43,by exact o43,by exact o13,by simpa using hb'⟩ ?_ ?_) ?_)
  ·rintro x c st' hx hE6;refine bc fun g0=>?_;obtain ⟨rfl,last,ofs,rfl,b1,b2,b3,b4⟩:=hE6;refine g0 ?_;clear g0
   dsimp only [F2]
   by_cases hge : ofs >= hint + 1
   ·rw [if_pos hge]
    exact wpS_pure ⟨rfl,last,ofs,rfl,b1,b3,b4,.inl hge⟩
   ·rw [if_neg hge]
    refine wpS_bind (bey (hint - ofs) _ (by exact o133 hh) ?_)
    cases hm : P (hint - ofs) with
    | true=>exact wpS_pure ⟨rfl,last,ofs,rfl,b1,b3,b4,.inr ⟨by exact o134 hge,hm⟩⟩
    | false=>exact wpS_pure ⟨rfl,ofs,2 * ofs + 1,rfl,by exact o41,by exact o129 b2,by exact o134 hge,hm⟩
  ·rintro c st' hE7;refine bc fun g0=>?_;obtain ⟨rfl,last,ofs,rfl,b1,b2,b3,b4⟩:=hE7;refine g0 ?_;clear g0
   exact ⟨rfl,last,ofs,rfl,b1,b3,b4,.inl (by exact o420 b2 hh)⟩
  ·rintro c st' hE8;refine bc fun g0=>?_;obtain ⟨rfl,last,ofs,rfl,b1,b3,b4,b5⟩:=hE8;refine g0 ?_;clear g0
   dsimp only [K2]
   refine wpS_bind (bis (hint + 1 - min ofs (hint + 1)) (hint - last) (by exact o421 b1) (by exact o130 hh) (fun i hi=>?_) (fun i hi1 hi2=>fls hi1 hi2 b4) (fun x l r hge=>if_pos hge) (fun x l r R' hlt hr hR'=>?_) fun l k c1 c2 c3=>?_)
   ·refine bc fun g0=>?_;rcases b5 with b5 | ⟨b5,b6⟩ <;> (refine g0 ?_;clear g0)
    ·exact (o422 b5 hi).elim
    ·exact hanti i (hint - ofs) (by exact o423 hi) (by exact o133 hh) b6
   ·dsimp only
    rw [if_neg (by exact o131 hlt)]
    refine wpS_bind (bey (l + (r - l) / 2) _ (by exact o132 hlt hr) ?_)
    cases hm : P (l + (r - l) / 2) with
    | false=>rw [hm] at hR';exact wpS_pure hR'
    | true=>rw [hm] at hR';exact wpS_pure hR'
   ·exact wpS_pure (h k c1 c2 c3)
end
end
section
structure MI (r : Keyed -> Keyed -> Prop) (full out RA RB : List Keyed) : Prop where
 perm : (out ++ RA ++ RB).Perm full
 srt : out.Pairwise r
 below : ∀ x ∈ out,∀ y ∈ RA ++ RB,r x y
 sa : RA.Pairwise r
 sb : RB.Pairwise r
section
variable {r : Keyed -> Keyed -> Prop} {full out RA RB L : List Keyed}
theorem MI.symm (h : MI r full out RA RB) : MI r full out RB RA :=
 ⟨by
  have e:=List.Perm.append_left out (List.perm_append_comm (l₁:=RB) (l₂:=RA))
  rw [<- List.append_assoc,<- List.append_assoc] at e
  exact e.trans h.perm,h.srt,fun x hx y hy=>h.below x hx y (by simpa [or_comm] using hy),h.sb,h.sa⟩
theorem MI.ext (h : MI r full out (L ++ RA) RB) (hl : ∀ y ∈ L,∀ z ∈ RB,r y z) : MI r full (out ++ L) RA RB:=by
 have sa:=List.pairwise_append.mp h.sa
 refine ⟨by simpa [List.append_assoc] using h.perm,List.pairwise_append.mpr ⟨h.srt,sa.1,fun x hx y hy=>h.below x hx y (by simp [hy])⟩,fun x hx y hy=>?_,sa.2.1,h.sb⟩
 rcases List.mem_append.mp hx with hx | hx
 ·exact h.below x hx y (by simp only [List.mem_append] at hy ⊢;rcases hy with hy | hy <;> simp [hy])
 ·rcases List.mem_append.mp hy with hy | hy
  ·exact sa.2.2 x hx y hy
  ·exact hl x hx y hy
theorem MI.fin (h : MI r full out [] []) : out.Perm full /\ out.Pairwise r:=⟨by simpa using h.perm,h.srt⟩
end
noncomputable def leK (x y : Keyed) : Prop:=kN x <= kN y
noncomputable def geK (x y : Keyed) : Prop:=kN y <= kN x
noncomputable def Asce (a : Array Keyed) : Prop:=a.toList.Pairwise leK
noncomputable def GoodR (a b r : Array Keyed) : Prop:=r.toList.Perm (a.toList ++ b.toList) /\ Asce r
theorem Asce.le {a : Array Keyed} (h : Asce a) {i j : Nat} (hij : i <= j) (hj : j < a.size) : kN (a[i]'(by exact o135 hj hij)) <= kN a[j]:=by
 rcases Nat.lt_or_ge i j with hlt | hge
 ·exact List.pairwise_iff_getElem.mp h i j (by simp;exact o107 hlt hj) (by simpa using hj) hlt
 ·have : i = j:=by exact o25 hij hge
  subst this
  exact Int.le_refl _
section
variable {a b out : Array Keyed} {ia ib na nb : Nat}
noncomputable def MLo (a b out : Array Keyed) (ia ib : Nat) : Prop:=MI leK (a.toList ++ b.toList) out.toList (a.toList.drop ia) (b.toList.drop ib)
theorem mem_drop_get {α : Type} {a : Array α} {i : Nat} {x : α} (h : x ∈ a.toList.drop i) : ∃ j,∃ hj : j < a.size,i <= j /\ x = a[j]:=by
 obtain ⟨n,hn,e⟩:=List.mem_iff_getElem.mp h
 rw [List.getElem_drop] at e
 rw [List.length_drop,Array.length_toList] at hn
 exact ⟨i + n,by exact o424 hn,by exact o10,by rw [<- e];simp⟩
theorem drop_split {α : Type} (a : Array α) (i k : Nat) : a.toList.drop i = (a.extract i (i + k)).toList ++ a.toList.drop (i + k):=by
 rw [Array.toList_extract,List.extract_eq_take_drop,show i + k - i = k by exact o425,<- List.drop_drop,List.take_append_drop]
theorem mem_extract_get {α : Type} {a : Array α} {i j : Nat} {x : α} (h : x ∈ (a.extract i j).toList) : ∃ n,∃ hn : n < a.size,i <= n /\ n < j /\ x = a[n]:=by
 obtain ⟨n,hn,e⟩:=List.mem_iff_getElem.mp h
 rw [Array.length_toList,Array.size_extract] at hn
 refine ⟨i + n,by exact o73 hn,by exact o10,by exact o136 hn,?_⟩
 rw [<- e,Array.getElem_toList,Array.getElem_extract]
theorem MLo.symm (h : MLo a b out ia ib) : MI leK (a.toList ++ b.toList) out.toList (b.toList.drop ib) (a.toList.drop ia):=MI.symm h
theorem MLo.extA (h : MLo a b out ia ib) (k : Nat) (hl : ∀ i,ia <= i -> i < ia + k -> ∀ (hi : i < a.size),∀ j (hj : j < b.size),ib <= j -> kN a[i] <= kN b[j]) : MLo a b (out ++ a.extract ia (ia + k)) (ia + k) ib:=by
 unfold MLo at h ⊢
 rw [drop_split a ia k] at h
 rw [Array.toList_append]
 refine h.ext fun y hy z hz=>?_
 obtain ⟨i,hi,i1,i2,rfl⟩:=mem_extract_get hy
 obtain ⟨j,hj,j1,rfl⟩:=mem_drop_get hz
 exact hl i i1 i2 hi j hj j1
theorem MLo.extB (h : MLo a b out ia ib) (k : Nat) (hl : ∀ i,ib <= i -> i < ib + k -> ∀ (hi : i < b.size),∀ j (hj : j < a.size),ia <= j -> kN b[i] <= kN a[j]) : MLo a b (out ++ b.extract ib (ib + k)) ia (ib + k):=by
 have h:=h.symm
 rw [drop_split b ib k] at h
 unfold MLo
 rw [Array.toList_append]
 refine (h.ext fun y hy z hz=>?_).symm
 obtain ⟨i,hi,i1,i2,rfl⟩:=mem_extract_get hy
 obtain ⟨j,hj,j1,rfl⟩:=mem_drop_get hz
 exact hl i i1 i2 hi j hj j1
theorem push_extract {α : Type} {a out : Array α} {i : Nat} (hi : i < a.size) : out ++ a.extract i (i + 1) = out.push a[i]:=by
 apply Array.toList_inj.mp
 rw [Array.toList_append,Array.toList_extract,List.extract_eq_take_drop,Array.toList_push,show i + 1 - i = 1 by exact o137,List.drop_eq_getElem_cons (by simpa using hi)]
 simp
theorem MLo.pushA (h : MLo a b out ia ib) (hi : ia < a.size) (hl : ∀ j (hj : j < b.size),ib <= j -> kN a[ia] <= kN b[j]) : MLo a b (out.push a[ia]) (ia + 1) ib:=by
 have:=h.extA 1 fun i i1 i2 hi' j hj hj1=>by
  have e : i = ia:=by exact o44 i2 i1
  subst e
  exact hl j hj hj1
 rwa [push_extract hi] at this
theorem MLo.pushB (h : MLo a b out ia ib) (hi : ib < b.size) (hl : ∀ j (hj : j < a.size),ia <= j -> kN b[ib] <= kN a[j]) : MLo a b (out.push b[ib]) ia (ib + 1):=by
 have:=h.extB 1 fun i i1 i2 hi' j hj hj1=>by
  have e : i = ib:=by exact o44 i2 i1
  subst e
  exact hl j hj hj1
 rwa [push_extract hi] at this
theorem MLo.fin (h : MLo a b out a.size b.size) : GoodR a b out:=by
 unfold MLo at h
 rw [List.drop_eq_nil_of_le (by simp),List.drop_eq_nil_of_le (by simp)] at h
 exact h.fin
theorem MLo.done (h : MLo a b out ia ib) (hia : ia <= a.size) (hb : ib = b.size) : GoodR a b (out ++ a.extract ia a.size ++ b.extract ib b.size):=by
 subst hb
 have h1:=h.extA (a.size - ia) fun i _ _ _ j hj hj1=>by exact (o18 hj hj1).elim
 rw [show ia + (a.size - ia) = a.size by exact o6 hia] at h1
 have e : b.extract b.size b.size = #[]:=by simp
 rw [e,Array.append_empty]
 exact h1.fin
theorem MLo.done' (h : MLo a b out ia ib) (hib : ib <= b.size) (ha : ia = a.size) : GoodR a b (out ++ a.extract ia a.size ++ b.extract ib b.size):=by
 subst ha
 have h1:=h.extB (b.size - ib) fun i _ _ _ j hj hj1=>by exact (o18 hj hj1).elim
 rw [show ib + (b.size - ib) = b.size by exact o6 hib] at h1
 have e : a.extract a.size a.size = #[]:=by simp
 rw [e,Array.append_empty]
 exact h1.fin
theorem MLo.lastA (h : MLo a b out ia ib) (hib : ib <= b.size) (ha : ia + 1 = a.size) (hl : ∀ j (hj : j < b.size),kN b[j] <= kN (a[a.size - 1]'(by exact o426 ha))) : GoodR a b (out ++ b.extract ib b.size ++ a.extract ia a.size):=by
 have h1:=h.extB (b.size - ib) fun i _ _ hi j hj hj1=>by
  have e : j = a.size - 1:=by exact o427 ha hj hj1
  subst e
  exact hl i hi
 rw [show ib + (b.size - ib) = b.size by exact o6 hib] at h1
 have h2:=h1.extA 1 fun i _ _ _ j hj hj1=>by exact (o18 hj hj1).elim
 rw [ha] at h2
 exact h2.fin
noncomputable def MHi (a b out : Array Keyed) (na nb : Nat) : Prop:=MI geK (a.toList ++ b.toList) out.toList (a.toList.take na).reverse (b.toList.take nb).reverse
theorem mem_take_get {α : Type} {a : Array α} {i : Nat} {x : α} (h : x ∈ (a.toList.take i).reverse) : ∃ j,∃ hj : j < a.size,j < i /\ x = a[j]:=by
 rw [List.mem_reverse] at h
 obtain ⟨n,hn,e⟩:=List.mem_iff_getElem.mp h
 rw [List.getElem_take] at e
 rw [List.length_take,Array.length_toList] at hn
 exact ⟨n,by exact o428 hn,by exact o429 hn,by rw [<- e];simp⟩
theorem take_split {α : Type} (a : Array α) {i j : Nat} (h : i <= j) : (a.toList.take j).reverse = (a.extract i j).reverse.toList ++ (a.toList.take i).reverse:=by
 rw [Array.toList_reverse,<- List.reverse_append,Array.toList_extract,List.extract_eq_take_drop]
 congr 1
 conv=>lhs;rw [show j = i + (j - i) by exact o430 h]
 exact List.take_add
theorem MHi.symm (h : MHi a b out na nb) : MI geK (a.toList ++ b.toList) out.toList (b.toList.take nb).reverse (a.toList.take na).reverse:=MI.symm h
theorem MHi.extA (h : MHi a b out na nb) {k : Nat} (hk : k <= na) (hl : ∀ i,k <= i -> i < na -> ∀ (hi : i < a.size),∀ j (hj : j < b.size),j < nb -> kN b[j] <= kN a[i]) : MHi a b (out ++ (a.extract k na).reverse) k nb:=by
 unfold MHi at h ⊢
 rw [take_split a hk] at h
 rw [Array.toList_append]
 refine h.ext fun y hy z hz=>?_
 rw [Array.toList_reverse,List.mem_reverse] at hy
 obtain ⟨i,hi,i1,i2,rfl⟩:=mem_extract_get hy
 obtain ⟨j,hj,j1,rfl⟩:=mem_take_get hz
 exact hl i i1 i2 hi j hj j1
theorem MHi.extB (h : MHi a b out na nb) {k : Nat} (hk : k <= nb) (hl : ∀ i,k <= i -> i < nb -> ∀ (hi : i < b.size),∀ j (hj : j < a.size),j < na -> kN a[j] <= kN b[i]) : MHi a b (out ++ (b.extract k nb).reverse) na k:=by
 have h:=h.symm
 rw [take_split b hk] at h
 unfold MHi
 rw [Array.toList_append]
 refine (h.ext fun y hy z hz=>?_).symm
 rw [Array.toList_reverse,List.mem_reverse] at hy
 obtain ⟨i,hi,i1,i2,rfl⟩:=mem_extract_get hy
 obtain ⟨j,hj,j1,rfl⟩:=mem_take_get hz
 exact hl i i1 i2 hi j hj j1
theorem push_extract_rev {α : Type} {a out : Array α} {i : Nat} (hi : i < a.size) : out ++ (a.extract i (i + 1)).reverse = out.push a[i]:=by
 have e:=push_extract (out:=#[]) hi
 rw [Array.empty_append] at e
 rw [e]
 apply Array.toList_inj.mp
 simp
theorem MHi.pushA (h : MHi a b out (na + 1) nb) (hi : na < a.size) (hl : ∀ j (hj : j < b.size),j < nb -> kN b[j] <= kN a[na]) : MHi a b (out.push a[na]) na nb:=by
 have:=h.extA (k:=na) (by exact o74) fun i i1 i2 hi' j hj hj1=>by
  have e : i = na:=by exact o44 i2 i1
  subst e
  exact hl j hj hj1
 rwa [push_extract_rev hi] at this
theorem MHi.pushB (h : MHi a b out na (nb + 1)) (hi : nb < b.size) (hl : ∀ j (hj : j < a.size),j < na -> kN a[j] <= kN b[nb]) : MHi a b (out.push b[nb]) na nb:=by
 have:=h.extB (k:=nb) (by exact o74) fun i i1 i2 hi' j hj hj1=>by
  have e : i = nb:=by exact o44 i2 i1
  subst e
  exact hl j hj hj1
 rwa [push_extract_rev hi] at this
theorem MHi.fin (h : MHi a b out 0 0) : GoodR a b out.reverse:=by
 unfold MHi at h
 rw [List.take_zero,List.take_zero] at h
 have:=h.fin
 refine ⟨?_,?_⟩
 ·rw [Array.toList_reverse]
  exact (List.reverse_perm _).trans this.1
 ·unfold Asce
  rw [Array.toList_reverse,List.pairwise_reverse]
  exact this.2
theorem MHi.done (h : MHi a b out na nb) (ha : na = 0) : GoodR a b (a.extract 0 na ++ b.extract 0 nb ++ out.reverse):=by
 subst ha
 have h1:=h.extB (Nat.zero_le nb) fun i _ _ _ j hj hj1=>by exact (o45 hj1).elim
 have:=h1.fin
 rw [Array.reverse_append,Array.reverse_reverse] at this
 have e : a.extract 0 0 = #[]:=by simp
 rw [e,Array.empty_append]
 exact this
theorem MHi.done' (h : MHi a b out na nb) (hb : nb = 0) : GoodR a b (a.extract 0 na ++ b.extract 0 nb ++ out.reverse):=by
 subst hb
 have h1:=h.extA (Nat.zero_le na) fun i _ _ _ j hj hj1=>by exact (o45 hj1).elim
 have:=h1.fin
 rw [Array.reverse_append,Array.reverse_reverse] at this
 have e : b.extract 0 0 = #[]:=by simp
 rw [e,Array.append_empty]
 exact this
theorem MHi.firstB (h : MHi a b out na nb) (hb : nb = 1) (hl : ∀ j (hj : j < a.size) (h0 : 0 < b.size),kN b[0] <= kN a[j]) : GoodR a b (b.extract 0 nb ++ a.extract 0 na ++ out.reverse):=by
 subst hb
 have h1:=h.extA (Nat.zero_le na) fun i _ _ hi j hj hj1=>by
  have e : j = 0:=by exact o431 hj1
  subst e
  exact hl i hi hj
 have h2:=h1.extB (Nat.zero_le 1) fun i _ _ _ j hj hj1=>by exact (o45 hj1).elim
 have:=h2.fin
 rw [Array.reverse_append,Array.reverse_reverse,Array.reverse_append,Array.reverse_reverse] at this
 rw [Array.append_assoc]
 exact this
end
end
section
noncomputable abbrev mergeLoP : Array Keyed -> Array Keyed -> SM (Array Keyed):=sortPriv% PySem.Builtin.mergeLo
noncomputable abbrev setMinGallopP : Nat -> SM Unit:=sortPriv% PySem.Builtin.setMinGallop
noncomputable def SameG (st st' : SortSt) : Prop:=kindOf st' = kindOf st /\ arrOf st' = arrOf st /\ pendingOf st' = pendingOf st /\ failedOf st' = failedOf st
noncomputable def AllK (a : Array Keyed) : Prop:=∀ i (h : i < a.size),IsK a[i]
structure LoI (a b : Array Keyed) (st0 : SortSt) (lo : Nat) (out : Array Keyed) (ia ib : Nat) (st : SortSt) : Prop where
 same : SameG st0 st
 m : MLo a b out ia ib
 la : ia + 1 < a.size
 lb : ib < b.size
 cnt : lo <= ia + ib
section
variable {prog : Program} {w : World} {A : Around} {E : Value -> Shared -> Prop} {s : Shared}
theorem wpS_setGallop {g : Nat} {Q : Unit -> SortSt -> Prop} {st : SortSt} (h : ∀ st',SameG st st' -> Q () st') : wpS (model prog w) A E s (setMinGallopP g) Q st :=
 wpS_modify (h _ ⟨rfl,rfl,rfl,rfl⟩)
theorem wpS_ite {α : Type} {c : Prop} [Decidable c] {m m' : SM α} {Q : α -> SortSt -> Prop} {st : SortSt} (h : c -> wpS (model prog w) A E s m Q st) (h' : ¬c -> wpS (model prog w) A E s m' Q st) : wpS (model prog w) A E s (if c then m else m') Q st:=by
 by_cases hc : c
 ·rw [if_pos hc];exact h hc
 ·rw [if_neg hc];exact h' hc
theorem wpS_split {α β γ : Type} {c : Prop} [Decidable c] {m m' : SM α} (R : β -> γ -> SM α) {o : β} {i : γ} (P : β -> γ -> Prop) {Q : α -> SortSt -> Prop} {st : SortSt}
  (h : ∀ o i,P o i -> wpS (model prog w) A E s (R o i) Q st) (p : ¬c -> P o i) (k : (∀ o i,P o i -> wpS (model prog w) A E s (R o i) Q st) -> c -> wpS (model prog w) A E s m Q st) (e : ∀ o' i',o' = o -> i' = i -> m' = R o' i') :
  wpS (model prog w) A E s (if c then m else m') Q st:=wpS_ite (k h) fun hc=>e o i rfl rfl ▸ h _ _ (p hc)
theorem wpS_ite2 {α : Type} {m : Nat -> SM α} {Q : α -> SortSt -> Prop} {st : SortSt} (h : ∀ x,wpS (model prog w) A E s (m x) Q st) : ∀ g d : Nat,wpS (model prog w) A E s (if g > 1 then m d else m g) Q st :=
 fun g d=>wpS_ite (fun _=>h d) (fun _=>h g)
theorem SameG.trans {a b c : SortSt} (h : SameG a b) (h' : SameG b c) : SameG a c:=⟨h'.1.trans h.1,h'.2.1.trans h.2.1,h'.2.2.1.trans h.2.2.1,h'.2.2.2.trans h.2.2.2⟩
theorem SameG.rfl' {a : SortSt} : SameG a a:=⟨rfl,rfl,rfl,rfl⟩
theorem wpS_gallopR {key : Keyed} {arr : Array Keyed} {base n hint : Nat} {Q : Option Nat -> SortSt -> Prop} {st : SortSt} (hk : kindOf st = oneType') (ha : Asce arr) (hK : AllK arr) (hkey : IsK key) (hsz : base + n <= arr.size) (hh : hint < n)
  (h : ∀ k,k <= n -> (∀ i,base <= i -> i < base + k -> ∀ (hi : i < arr.size),kN arr[i] <= kN key) -> (∀ i,base + k <= i -> i < base + n -> ∀ (hi : i < arr.size),kN key < kN arr[i]) -> Q (some k) st) :
  wpS (model prog w) A E s (gallopP false key arr base n hint) Q st:=by
 refine wpS_gallop (fun i=>if h : base + i < arr.size then !decide (kN key < kN arr[base + i]) else false) hk hsz hh hkey hK (fun i hi=>?_) (fun i j hij hj hp=>?_) fun k h1 h2 h3=>h k h1 (fun i i1 i2 hi=>?_) fun i i1 i2 hi=>?_
 ·rw [dif_pos (by exact o0 hsz hi),if_neg (by decide)]
 ·rw [dif_pos (by (first | exact o0 hsz hj | exact o138 hsz hj hij | omega))] at hp ⊢
  have:=ha.le (i:=base + i) (j:=base + j) (by exact o46 hij) (by exact o0 hsz hj)
  simp only [Bool.not_eq_true',decide_eq_false_iff_not] at hp ⊢
  exact o139 this hp
 ·have:=h2 (i - base) (by exact o28 i2 i1)
  have e : base + (i - base) = i:=by exact o6 i1
  simp only [e] at this
  rw [dif_pos hi] at this
  simp only [Bool.not_eq_true',decide_eq_false_iff_not] at this
  exact o140 this
 ·have:=h3 (i - base) (by exact o29 i1) (by exact o30 i1 i2)
  have e : base + (i - base) = i:=by exact o31 i1
  simp only [e] at this
  rw [dif_pos hi] at this
  simpa using this
theorem wpS_gallopL {key : Keyed} {arr : Array Keyed} {base n hint : Nat} {Q : Option Nat -> SortSt -> Prop} {st : SortSt} (hk : kindOf st = oneType') (ha : Asce arr) (hK : AllK arr) (hkey : IsK key) (hsz : base + n <= arr.size) (hh : hint < n)
  (h : ∀ k,k <= n -> (∀ i,base <= i -> i < base + k -> ∀ (hi : i < arr.size),kN arr[i] < kN key) -> (∀ i,base + k <= i -> i < base + n -> ∀ (hi : i < arr.size),kN key <= kN arr[i]) -> Q (some k) st) :
  wpS (model prog w) A E s (gallopP true key arr base n hint) Q st:=by
 refine wpS_gallop (fun i=>if h : base + i < arr.size then decide (kN arr[base + i] < kN key) else false) hk hsz hh hkey hK (fun i hi=>?_) (fun i j hij hj hp=>?_) fun k h1 h2 h3=>h k h1 (fun i i1 i2 hi=>?_) fun i i1 i2 hi=>?_
 ·rw [dif_pos (by exact o0 hsz hi),if_pos rfl]
 ·rw [dif_pos (by (first | exact o0 hsz hj | exact o138 hsz hj hij | omega))] at hp ⊢
  have:=ha.le (i:=base + i) (j:=base + j) (by exact o46 hij) (by exact o0 hsz hj)
  simp only [decide_eq_true_eq] at hp ⊢
  exact o141 hp this
 ·have:=h2 (i - base) (by exact o28 i2 i1)
  have e : base + (i - base) = i:=by exact o6 i1
  simp only [e] at this
  rw [dif_pos hi] at this
  simpa using this
 ·have:=h3 (i - base) (by exact o29 i1) (by exact o30 i1 i2)
  have e : base + (i - base) = i:=by exact o31 i1
  simp only [e] at this
  rw [dif_pos hi] at this
  simpa using this
theorem wpS_mergeLo {a b : Array Keyed} {Q : Array Keyed -> SortSt -> Prop} {st : SortSt} (hk : kindOf st = oneType') (ha : Asce a) (hb : Asce b) (ka : AllK a) (kb : AllK b) (a0 : 0 < a.size) (b0 : 0 < b.size)
  (hfirst : kN b[0] <= kN a[0]) (hlast : ∀ j (hj : j < b.size),kN b[j] <= kN (a[a.size - 1]'(by exact o9 a0))) (h : ∀ r st',GoodR a b r -> SameG st st' -> Q r st') :
  wpS (model prog w) A E s (mergeLoP a b) Q st:=by
 have kd : ∀ {st'},SameG st st' -> kindOf st' = oneType':=fun h=>h.1.trans hk
 have m0 : MLo a b #[] 0 0:=⟨by simp,.nil,fun x hx=>by simp at hx,by rw [List.drop_zero];exact ha,by rw [List.drop_zero];exact hb⟩
 have m1:=m0.pushB b0 fun j hj _=>Int.le_trans hfirst (ha.le (Nat.zero_le j) hj)
 refine wpS_bind (wpS_lift (wpAny_rule ⟨rfl,?_⟩))
 dsimp only
 refine wpS_bind (wpS_elem b0 ?_)
 refine wpS_ite (c:=(1 == b.size) = true) (fun e1=>wpS_pure (h _ _ (m1.done (Nat.zero_le _) (by simpa using e1)) SameG.rfl')) fun e1=>?_
 refine wpS_ite (c:=(0 + 1 == a.size) = true) (fun e2=>wpS_pure (h _ _ (m1.lastA (by exact o432 b0) (by simpa using e2) hlast) SameG.rfl')) fun e2=>?_
 have e1' : 1 ≠ b.size:=fun q=>e1 (by simpa using q)
 have e2' : 0 + 1 ≠ a.size:=fun q=>e2 (by simpa using q)
 refine wpS_bind (wpS_get ?_)
 refine wpS_loop ?_;intro F1 K1
 refine wpS_bind (wpS_mono (wpS_range0 (fun x c st'=>∃ out ia ib g,c = (none,out,ia,ib,g) /\ LoI a b st (x + 1) out ia ib st')
  (Q:=fun c st'=>∃ r t,c = (some r,t) /\ GoodR a b r /\ SameG st st') ⟨_,0,1,_,rfl,SameG.rfl',m1,by exact o433 e2' a0,by exact o434 b0 e1',by exact o435⟩ ?step ?fin) ?post)
 case post =>
  rintro c st' hE1;refine bc fun g0=>?_;obtain ⟨r,t,rfl,hg,hs⟩:=hE1;refine g0 ?_;clear g0
  exact wpS_pure (h r st' hg hs)
 case fin =>
  rintro c st' hE2;refine bc fun g0=>?_;obtain ⟨out,ia,ib,g,rfl,hI⟩:=hE2;refine g0 ?_;clear g0
  exact absurd hI.cnt (by have:=hI.la;have:=hI.lb;(first | exact o436 (by assumption) this | omega))
 case step =>
  rintro x c st1 hx hE3;refine bc fun g0=>?_;obtain ⟨out,ia,ib,g,rfl,hI⟩:=hE3;refine g0 ?_;clear g0
  dsimp only [F1]
  refine wpS_let ?_;intro q3
  refine wpS_loop ?_;intro F2 K2
  refine wpS_bind (wpS_mono (wpS_range0 (fun y c st'=>∃ out ia ib p q,c = (none,out,ia,ib,p,q) /\ LoI a b st (x + 1 + y) out ia ib st')
   (Q:=fun c st'=>(∃ r t,c = (some r,t) /\ GoodR a b r /\ SameG st st') \/ ∃ out ia ib p q,c = (none,out,ia,ib,p,q) /\ LoI a b st (x + 2) out ia ib st') ⟨out,ia,ib,0,0,rfl,hI⟩ ?istep ?ifin) ?ipost)
  case ifin =>
   rintro c st' hE4;refine bc fun g0=>?_;obtain ⟨out,ia,ib,p,q,rfl,hI⟩:=hE4;refine g0 ?_;clear g0
   exact .inr ⟨_,_,_,_,_,rfl,hI.same,hI.m,hI.la,hI.lb,by have:=hI.cnt;exact o437 b0 this⟩
  case istep =>
   rintro y c st2 hy hE5;refine bc fun g0=>?_;obtain ⟨out,ia,ib,p,q,rfl,hI⟩:=hE5;refine g0 ?_;clear g0
   dsimp only [F2]
   refine wpS_let ?_;intro q5
   have ia' : ia < a.size:=by have:=hI.la;exact o8 this
   have ib':=hI.lb
   refine wpS_bind (wpS_elem hI.lb (wpS_bind (wpS_elem ia' (wpS_bind (wpS_lt (kd hI.same) (kb _ hI.lb) (ka _ ia') ?_)))))
   refine wpS_ite (fun hd=>?_) fun hd=>?_
   ·have hlt:=of_decide_eq_true hd
    clear hd
    have m2:=hI.m.pushB hI.lb fun j hj hj1=>Int.le_trans (Int.le_of_lt hlt) (ha.le hj1 hj)
    refine wpS_bind (wpS_elem hI.lb ?_)
    refine wpS_ite (c:=(ib + 1 == b.size) = true) (fun e3=>wpS_pure (.inl ⟨_,_,rfl,m2.done (Nat.le_of_lt ia') (by simpa using e3),hI.same⟩)) fun e3=>?_
    have e3' : ib + 1 ≠ b.size:=fun q=>e3 (by simpa using q)
    have I2 : LoI a b st (x + 1 + (y + 1)) (out.push b[ib]) ia (ib + 1) st2:=⟨hI.same,m2,hI.la,by have:=hI.lb;exact o75 e3' ib',by have:=hI.cnt;exact o438 this⟩
    exact wpS_ite (fun _=>wpS_pure (.inr ⟨_,_,_,_,_,rfl,I2.same,I2.m,I2.la,I2.lb,by have:=I2.cnt;exact o439 this⟩)) fun _=>wpS_pure ⟨_,_,_,_,_,rfl,I2⟩
   ·have hlt:=fun q=>hd (decide_eq_true q)
    clear hd
    have m2:=hI.m.pushA ia' fun j hj hj1=>Int.le_trans (Int.not_lt.mp hlt) (hb.le hj1 hj)
    refine wpS_bind (wpS_elem ia' ?_)
    refine wpS_ite (c:=(ia + 1 + 1 == a.size) = true) (fun e3=>wpS_pure (.inl ⟨_,_,rfl,m2.lastA (Nat.le_of_lt hI.lb) (by simpa using e3) hlast,hI.same⟩)) fun e3=>?_
    have e3' : ia + 1 + 1 ≠ a.size:=fun q=>e3 (by simpa using q)
    have I2 : LoI a b st (x + 1 + (y + 1)) (out.push a[ia]) (ia + 1) ib st2:=⟨hI.same,m2,by have:=hI.la;exact o76 e3' this,hI.lb,by have:=hI.cnt;exact o440 this⟩
    exact wpS_ite (fun _=>wpS_pure (.inr ⟨_,_,_,_,_,rfl,I2.same,I2.m,I2.la,I2.lb,by have:=I2.cnt;exact o441 this⟩)) fun _=>wpS_pure ⟨_,_,_,_,_,rfl,I2⟩
  case ipost =>
   rintro c st2 hE6;refine bc fun g0=>?_;rcases hE6 with (⟨r,t,rfl,hg,hs⟩ | ⟨out,ia,ib,p,q,rfl,hI⟩) <;> (refine g0 ?_;clear g0)
   ·exact wpS_pure ⟨r,_,rfl,hg,hs⟩
   dsimp only [K2]
   refine wpS_bind (wpS_lift (wpAny_rule ⟨rfl,?_⟩))
   refine wpS_loop ?_;intro F3 K3
   refine wpS_bind (wpS_mono (wpS_range0 (fun y c st'=>∃ out ia ib g p q,c = (none,out,ia,ib,g,p,q) /\ LoI a b st (x + 2) out ia ib st')
    (Q:=fun c st'=>(∃ r t,c = (some r,t) /\ GoodR a b r /\ SameG st st') \/ ∃ out ia ib g p q,c = (none,out,ia,ib,g,p,q) /\ LoI a b st (x + 2) out ia ib st') ⟨out,ia,ib,_,_,_,rfl,hI⟩ ?gstep ?gfin) ?gpost)
   case gfin =>
    rintro c st' hE7;refine bc fun g0=>?_;obtain ⟨out,ia,ib,g,p,q,rfl,hI⟩:=hE7;refine g0 ?_;clear g0
    exact .inr ⟨_,_,_,_,_,_,rfl,hI⟩
   case gpost =>
    rintro c st2 hE8;refine bc fun g0=>?_;rcases hE8 with (⟨r,t,rfl,hg,hs⟩ | ⟨out,ia,ib,g,p,q,rfl,hI⟩) <;> (refine g0 ?_;clear g0)
    ·exact wpS_pure ⟨r,_,rfl,hg,hs⟩
    dsimp only [K3]
    refine wpS_bind (wpS_setGallop fun st3 hs3=>?_)
    exact wpS_pure ⟨_,_,_,_,rfl,hI.same.trans hs3,hI.m,hI.la,hI.lb,hI.cnt⟩
   case gstep =>
    rintro y c st3 hy hE9;refine bc fun g0=>?_;obtain ⟨out,ia,ib,g,p,q,rfl,hI⟩:=hE9;refine g0 ?_;clear g0
    dsimp only [F3]
    refine wpS_let ?_;intro q9
    generalize g - 1 = d
    revert g d
    refine wpS_ite2 fun g'=>?_
    ·refine wpS_bind (wpS_setGallop fun st4 hs4=>?_)
     have hs:=hI.same.trans hs4
     have ia' : ia < a.size:=by have:=hI.la;exact o8 this
     have ib':=hI.lb
     refine wpS_bind (wpS_elem ib' (wpS_bind (wpS_gallopR (base:=ia) (n:=a.size - ia) (hint:=0) (kd hs) ha ka (kb _ ib') (by exact o442 ia') (by exact o443 ia') fun k k1 k2 k3=>?_)))
     have hc:=hI.cnt
     refine wpS_split (c:=k > 0) (o:=out) (i:=ia) ?R (fun o i=>MLo a b o i ib /\ i + 1 < a.size /\ ia <= i /\ ∀ j,i <= j -> ∀ hj : j < a.size,kN b[ib] < kN a[j]) ?_ ?_ ?_ ?e
     case e=>(intro o' i' h1 h2;subst h1;subst h2;rfl)
     ·rintro o i hE10;refine bc fun g0=>?_;obtain ⟨m2,hi1,hia,k4⟩:=hE10;refine g0 ?_;clear g0
      try dsimp only
      have iL : i < a.size:=Nat.lt_of_succ_lt hi1
      have m3:=m2.pushB ib' fun j hj hj1=>Int.le_of_lt (k4 j hj1 hj)
      refine wpS_bind (wpS_elem ib' ?_)
      refine wpS_ite (c:=(ib + 1 == b.size) = true) (fun e6=>wpS_pure (.inl ⟨_,_,rfl,m3.done (Nat.le_of_lt iL) (by simpa using e6),hs⟩)) fun e6=>?_
      have jb : ib + 1 < b.size:=Nat.lt_of_le_of_ne ib' fun q=>e6 (by simpa using q)
      have hij : ib < ib + 1:=Nat.lt_succ_self ib
      clear e6
      generalize ib + 1 = j at m3 jb hij ⊢
      generalize o.push b[ib] = o2 at m3 ⊢
      refine wpS_bind (wpS_elem iL (wpS_bind (wpS_gallopL (base:=j) (n:=b.size - j) (hint:=0) (kd hs) hb kb (ka _ iL) (Nat.le_of_eq (Nat.add_sub_cancel' (Nat.le_of_lt jb))) (Nat.sub_pos_of_lt jb) fun l l1 l2 l3=>?_)))
      have l4 : ∀ i',j + l <= i' -> ∀ hi : i' < b.size,kN a[i] <= kN b[i']:=fun i' h1 h2=>l3 i' h1 (by rw [Nat.add_sub_cancel' (Nat.le_of_lt jb)];exact h2) h2
      clear l3 k4
      refine wpS_split (c:=l > 0) (o:=o2) (i:=j) ?R2 (fun o j'=>MLo a b o i j' /\ j' < b.size /\ j <= j' /\ ∀ q,j' <= q -> ∀ hj : q < b.size,kN a[i] <= kN b[q]) ?_ ?_ ?_ ?e2
      case e2=>(intro o' i' h1 h2;subst h1;subst h2;rfl)
      ·rintro o3 j' hE11;refine bc fun g0=>?_;obtain ⟨m4,hj,hjj,l5⟩:=hE11;refine g0 ?_;clear g0
       try dsimp only
       have m5:=m4.pushA iL fun q hq hq1=>l5 q hq1 hq
       refine wpS_bind (wpS_elem iL ?_)
       refine wpS_ite (c:=(i + 1 + 1 == a.size) = true) (fun e8=>wpS_pure (.inl ⟨_,_,rfl,m5.lastA (Nat.le_of_lt hj) (by simpa using e8) hlast,hs⟩)) fun e8=>?_
       have I5 : LoI a b st (x + 2) _ (i + 1) j' st4:=⟨hs,m5,Nat.lt_of_le_of_ne hi1 fun q=>e8 (by simpa using q),hj,Nat.le_trans hc (Nat.add_le_add (Nat.le_succ_of_le hia) (Nat.le_trans (Nat.le_of_lt hij) hjj))⟩
       exact wpS_ite (fun _=>wpS_pure (.inr ⟨_,_,_,_,_,_,rfl,I5⟩)) fun _=>wpS_pure ⟨_,_,_,_,_,_,rfl,I5⟩
      ·intro hl0
       obtain rfl : l = 0:=by exact o77 hl0
       exact ⟨m3,jb,Nat.le_refl _,l4⟩
      ·intro H hl0
       have m4:=m3.extB l fun i' i1 i2 hi q hq hq1=>Int.le_trans (Int.le_of_lt (l2 i' i1 i2 hi)) (ha.le hq1 hq)
       refine wpS_ite (c:=(j + l == b.size) = true) (fun e7=>wpS_pure (.inl ⟨_,_,rfl,m4.done (Nat.le_of_lt iL) (by simpa using e7),hs⟩)) fun e7=>?_
       have jl : j + l < b.size:=Nat.lt_of_le_of_ne (by have:=Nat.add_le_add_left l1 j;rw [Nat.add_sub_cancel' (Nat.le_of_lt jb)] at this;exact this) fun q=>e7 (by simpa using q)
       exact H (o2 ++ b.extract j (j + l)) (j + l) ⟨m4,jl,Nat.le_add_right _ _,l4⟩
     ·intro hk0
      obtain rfl : k = 0:=by exact o77 hk0
      exact ⟨hI.m,hI.la,Nat.le_refl _,fun j hj1 hj=>k3 j hj1 (by exact o142 hj) hj⟩
     ·intro H hk0
      have m2:=hI.m.extA k fun i i1 i2 hi j hj hj1=>Int.le_trans (k2 i i1 i2 hi) (hb.le hj1 hj)
      refine wpS_ite (c:=(ia + k + 1 == a.size) = true) (fun e4=>wpS_pure (.inl ⟨_,_,rfl,m2.lastA (Nat.le_of_lt ib') (by simpa using e4) hlast,hs⟩)) fun e4=>?_
      have e4' : ia + k + 1 ≠ a.size:=fun q=>e4 (by simpa using q)
      refine wpS_ite (c:=(ia + k == a.size) = true) (fun e5=>wpS_pure (.inl ⟨_,_,rfl,m2.done' (Nat.le_of_lt ib') (by simpa using e5),hs⟩)) fun e5=>?_
      have e5' : ia + k ≠ a.size:=fun q=>e5 (by simpa using q)
      have iak : ia + k < a.size:=by exact o444 e5' ia' k1
      exact H (out ++ a.extract ia (ia + k)) (ia + k) ⟨m2,Nat.lt_of_le_of_ne iak e4',Nat.le_add_right _ _,fun j hj1 hj=>k3 j hj1 (by exact o142 hj) hj⟩
end
end
section
noncomputable abbrev mergeHiP : Array Keyed -> Array Keyed -> SM (Array Keyed):=sortPriv% PySem.Builtin.mergeHi
structure HiI (a b : Array Keyed) (st0 : SortSt) (lo : Nat) (na nb : Nat) (out : Array Keyed) (st : SortSt) : Prop where
 same : SameG st0 st
 m : MHi a b out na nb
 pa : 0 < na
 pb : 1 < nb
 la : na <= a.size
 lb : nb <= b.size
 cnt : lo + na + nb <= a.size + b.size
theorem MHi.popA {a b out : Array Keyed} {na nb : Nat} (h : MHi a b out na nb) (h0 : 0 < na) (hn : na <= a.size) (hl : ∀ j (hj : j < b.size),j < nb -> kN b[j] <= kN (a[na - 1]'(by exact o20 h0 hn))) : MHi a b (out.push (a[na - 1]'(by exact o20 h0 hn))) (na - 1) nb:=by
 obtain ⟨k,rfl⟩ : ∃ k,na = k + 1:=⟨na - 1,by exact o78 h0⟩
 exact h.pushA (by exact o148 hn) hl
theorem MHi.popB {a b out : Array Keyed} {na nb : Nat} (h : MHi a b out na nb) (h0 : 0 < nb) (hn : nb <= b.size) (hl : ∀ j (hj : j < a.size),j < na -> kN a[j] <= kN (b[nb - 1]'(by exact o20 h0 hn))) : MHi a b (out.push (b[nb - 1]'(by exact o20 h0 hn))) na (nb - 1):=by
 obtain ⟨k,rfl⟩ : ∃ k,nb = k + 1:=⟨nb - 1,by exact o78 h0⟩
 exact h.pushB (by exact o148 hn) hl
section
variable {prog : Program} {w : World} {A : Around} {E : Value -> Shared -> Prop} {s : Shared}
theorem wpS_mergeHi {a b : Array Keyed} {Q : Array Keyed -> SortSt -> Prop} {st : SortSt} (hk : kindOf st = oneType') (ha : Asce a) (hb : Asce b) (ka : AllK a) (kb : AllK b) (a0 : 0 < a.size) (b0 : 0 < b.size)
  (hfirst : kN b[0] <= kN a[0]) (hlast : ∀ j (hj : j < b.size),kN b[j] <= kN (a[a.size - 1]'(by exact o9 a0))) (h : ∀ r st',GoodR a b r -> SameG st st' -> Q r st') :
  wpS (model prog w) A E s (mergeHiP a b) Q st:=by
 have kd : ∀ {st'},SameG st st' -> kindOf st' = oneType':=fun h=>h.1.trans hk
 have hfb : ∀ j (hj : j < a.size) (h0 : 0 < b.size),kN b[0] <= kN a[j]:=fun j hj h0=>Int.le_trans hfirst (ha.le (Nat.zero_le j) hj)
 have m0 : MHi a b #[] a.size b.size:=⟨by
  have e1 : a.toList.take a.size = a.toList:=by rw [List.take_of_length_le (by simp)]
  have e2 : b.toList.take b.size = b.toList:=by rw [List.take_of_length_le (by simp)]
  rw [e1,e2]
  exact (List.reverse_perm _).append (List.reverse_perm _),.nil,fun x hx=>by simp at hx,by
  rw [List.take_of_length_le (by simp),List.pairwise_reverse];exact ha,by
  rw [List.take_of_length_le (by simp),List.pairwise_reverse];exact hb⟩
 have m1:=m0.popA a0 (Nat.le_refl _) fun j hj _=>hlast j hj
 have al : a.size - 1 < a.size:=by exact o9 a0
 refine wpS_bind (wpS_lift (wpAny_rule ⟨rfl,?_⟩))
 refine wpS_bind (wpS_elem al ?_)
 refine wpS_ite (c:=(a.size - 1 == 0) = true) (fun e1=>wpS_pure (h _ _ (m1.done (by simpa using e1)) SameG.rfl')) fun e1=>?_
 have e1' : a.size - 1 ≠ 0:=fun q=>e1 (by simpa using q)
 refine wpS_ite (c:=(b.size == 1) = true) (fun e2=>wpS_pure (h _ _ (m1.firstB (by simpa using e2) hfb) SameG.rfl')) fun e2=>?_
 have e2' : b.size ≠ 1:=fun q=>e2 (by simpa using q)
 refine wpS_bind (wpS_get ?_)
 refine wpS_loop ?_;intro F1 K1
 refine wpS_bind (wpS_mono (wpS_range0 (fun x c st'=>∃ na nb out g,c = (none,na,nb,out,g) /\ HiI a b st (x + 1) na nb out st')
  (Q:=fun c st'=>∃ r t,c = (some r,t) /\ GoodR a b r /\ SameG st st') ⟨a.size - 1,b.size,_,_,rfl,SameG.rfl',m1,by exact o15 e1',by exact o449 b0 e2',by exact o450,by exact o21,by exact o451 al⟩ ?step ?fin) ?post)
 case post =>
  rintro c st' hE1;refine bc fun g0=>?_;obtain ⟨r,t,rfl,hg,hs⟩:=hE1;refine g0 ?_;clear g0
  exact wpS_pure (h r st' hg hs)
 case fin =>
  rintro c st' hE2;refine bc fun g0=>?_;obtain ⟨na,nb,out,g,rfl,hI⟩:=hE2;refine g0 ?_;clear g0
  exact absurd hI.cnt (by exact o452)
 case step =>
  rintro x c st1 hx hE3;refine bc fun g0=>?_;obtain ⟨na,nb,out,g,rfl,hI⟩:=hE3;refine g0 ?_;clear g0
  refine wpS_let ?_;intro q3
  refine wpS_loop ?_;intro F2 K2
  refine wpS_bind (wpS_mono (wpS_range0 (fun y c st'=>∃ na nb out p q,c = (none,na,nb,out,p,q) /\ HiI a b st (x + 1 + y) na nb out st')
   (Q:=fun c st'=>(∃ r t,c = (some r,t) /\ GoodR a b r /\ SameG st st') \/ ∃ na nb out p q,c = (none,na,nb,out,p,q) /\ HiI a b st (x + 2) na nb out st') ⟨na,nb,out,0,0,rfl,hI⟩ ?istep ?ifin) ?ipost)
  case ifin =>
   rintro c st' hE4;refine bc fun g0=>?_;obtain ⟨na,nb,out,p,q,rfl,hI⟩:=hE4;refine g0 ?_;clear g0
   exact .inr ⟨_,_,_,_,_,rfl,hI.same,hI.m,hI.pa,hI.pb,hI.la,hI.lb,by have:=hI.cnt;exact (o453 this).elim⟩
  case istep =>
   rintro y c st2 hy hE5;refine bc fun g0=>?_;obtain ⟨na,nb,out,p,q,rfl,hI⟩:=hE5
   obtain ⟨hs,m,pa,pb,la,lb,cnt⟩:=hI;refine g0 ?_;clear g0
   refine wpS_let ?_;intro q5
   have ia : na - 1 < a.size:=by exact o20 pa la
   have ib : nb - 1 < b.size:=by exact o149 pb lb
   refine wpS_bind (wpS_elem ib (wpS_bind (wpS_elem ia (wpS_bind (wpS_lt (kd hs) (kb _ ib) (ka _ ia) ?_)))))
   refine wpS_ite (fun hd=>?_) fun hd=>?_
   ·have hlt:=of_decide_eq_true hd
    clear hd
    dsimp only
    have m2:=m.popA pa la fun j hj hj1=>Int.le_trans (hb.le (by exact o16 hj1) ib) (Int.le_of_lt hlt)
    refine wpS_bind (wpS_elem ia ?_)
    refine wpS_ite (c:=(na - 1 == 0) = true) (fun e3=>wpS_pure (.inl ⟨_,_,rfl,m2.done (by simpa using e3),hs⟩)) fun e3=>?_
    have e3' : na - 1 ≠ 0:=fun q=>e3 (by simpa using q)
    refine wpS_ite (fun _=>wpS_pure (.inr ⟨_,_,_,_,_,rfl,hs,m2,by exact o15 e3',pb,by exact o7 ia,lb,by exact o454 cnt e3'⟩)) fun _=>wpS_pure ⟨_,_,_,_,_,rfl,hs,m2,by exact o15 e3',pb,by exact o7 ia,lb,by exact o455 cnt e3'⟩
   ·have hlt:=fun q=>hd (decide_eq_true q)
    clear hd
    dsimp only
    have m2:=m.popB (by exact o79 pb) lb fun j hj hj1=>Int.le_trans (ha.le (by exact o16 hj1) ia) (Int.not_lt.mp hlt)
    refine wpS_bind (wpS_elem ib ?_)
    refine wpS_ite (c:=(nb - 1 == 1) = true) (fun e3=>wpS_pure (.inl ⟨_,_,rfl,m2.firstB (by simpa using e3) hfb,hs⟩)) fun e3=>?_
    have e3' : nb - 1 ≠ 1:=fun q=>e3 (by simpa using q)
    refine wpS_ite (fun _=>wpS_pure (.inr ⟨_,_,_,_,_,rfl,hs,m2,pa,by exact o48 pb e3',la,by exact o7 ib,by exact o456 pb cnt⟩)) fun _=>wpS_pure ⟨_,_,_,_,_,rfl,hs,m2,pa,by exact o48 pb e3',la,by exact o7 ib,by exact o457 pb cnt⟩
  case ipost =>
   rintro c st2 hE6;refine bc fun g0=>?_;rcases hE6 with (⟨r,t,rfl,hg,hs⟩ | ⟨na,nb,out,p,q,rfl,hI⟩) <;> (refine g0 ?_;clear g0)
   ·exact wpS_pure ⟨r,_,rfl,hg,hs⟩
   refine wpS_bind (wpS_lift (wpAny_rule ⟨rfl,?_⟩))
   refine wpS_loop ?_;intro F3 K3
   refine wpS_bind (wpS_mono (wpS_range0 (fun y c st'=>∃ na nb out g p q,c = (none,na,nb,out,g,p,q) /\ HiI a b st (x + 2) na nb out st')
    (Q:=fun c st'=>(∃ r t,c = (some r,t) /\ GoodR a b r /\ SameG st st') \/ ∃ na nb out g p q,c = (none,na,nb,out,g,p,q) /\ HiI a b st (x + 2) na nb out st') ⟨na,nb,out,_,_,_,rfl,hI⟩ ?gstep ?gfin) ?gpost)
   case gfin =>
    rintro c st' hE7;refine bc fun g0=>?_;obtain ⟨na,nb,out,g,p,q,rfl,hI⟩:=hE7;refine g0 ?_;clear g0
    exact .inr ⟨_,_,_,_,_,_,rfl,hI⟩
   case gpost =>
    rintro c st2 hE8;refine bc fun g0=>?_;rcases hE8 with (⟨r,t,rfl,hg,hs⟩ | ⟨na,nb,out,g,p,q,rfl,hI⟩) <;> (refine g0 ?_;clear g0)
    ·exact wpS_pure ⟨r,_,rfl,hg,hs⟩
    refine wpS_bind (wpS_setGallop fun st3 hs3=>?_)
    exact wpS_pure ⟨_,_,_,_,rfl,hI.same.trans hs3,hI.m,hI.pa,hI.pb,hI.la,hI.lb,hI.cnt⟩
   case gstep =>
    rintro y c st3 hy hE9;refine bc fun g0=>?_;obtain ⟨na,nb,out,g,p,q,rfl,hI⟩:=hE9
    obtain ⟨hs0,m,pa,pb,la,lb,cnt⟩:=hI;refine g0 ?_;clear g0
    dsimp only [F3]
    refine wpS_let ?_;intro q9
    generalize g - 1 = d
    revert g d
    refine wpS_ite2 fun g'=>?_
    ·refine wpS_bind (wpS_setGallop fun st4 hs4=>?_)
     have hs:=hs0.trans hs4
     have ib : nb - 1 < b.size:=by exact o149 pb lb
     refine wpS_bind (wpS_elem ib (wpS_bind (wpS_gallopR (base:=0) (n:=na) (hint:=na - 1) (kd hs) ha ka (kb _ ib) (by exact o49 la) (by exact o9 pa) fun k k1 k2 k3=>?_)))
     refine wpS_ite (c:=na - k > 0) (fun hk0=>?_) fun hk0=>?_
     ·have m2:=m.extA (k:=k) (by exact o4 k1) fun i i1 i2 hi j hj hj1=>Int.le_trans (hb.le (by exact o16 hj1) ib) (Int.le_of_lt (k3 i (by exact o49 i1) (by exact o32 i2) hi))
      refine wpS_ite (c:=(k == 0) = true) (fun e4=>wpS_pure (.inl ⟨_,_,rfl,m2.done (by simpa using e4),hs⟩)) fun e4=>?_
      have e4' : k ≠ 0:=fun q=>e4 (by simpa using q)
      have m3:=m2.popB (by exact o79 pb) lb fun j hj hj1=>k2 j (by exact o13) (by exact o32 hj1) hj
      have ia : k - 1 < a.size:=by exact o458 pa k1 la
      refine wpS_bind (wpS_elem ib ?_)
      refine wpS_ite (c:=(nb - 1 == 1) = true) (fun e6=>wpS_pure (.inl ⟨_,_,rfl,m3.firstB (by simpa using e6) hfb,hs⟩)) fun e6=>?_
      have e6' : nb - 1 ≠ 1:=fun q=>e6 (by simpa using q)
      refine wpS_bind (wpS_elem ia (wpS_bind (wpS_gallopL (base:=0) (n:=nb - 1) (hint:=nb - 1 - 1) (kd hs) hb kb (ka _ ia) (by exact o150 ib) (by exact o151 pb) fun l l1 l2 l3=>?_)))
      refine wpS_ite (c:=nb - 1 - l > 0) (fun hl0=>?_) fun hl0=>?_
      ·have m4:=m3.extB (k:=l) (by exact o152 l1) fun i i1 i2 hi j hj hj1=>Int.le_trans (ha.le (by exact o16 hj1) ia) (l3 i (by exact o49 i1) (by exact o153 i2) hi)
       refine wpS_ite (c:=(l == 1) = true) (fun e7=>wpS_pure (.inl ⟨_,_,rfl,m4.firstB (by simpa using e7) hfb,hs⟩)) fun e7=>?_
       have e7' : l ≠ 1:=fun q=>e7 (by simpa using q)
       refine wpS_ite (c:=(l == 0) = true) (fun e9=>wpS_pure (.inl ⟨_,_,rfl,m4.done' (by simpa using e9),hs⟩)) fun e9=>?_
       have e9' : l ≠ 0:=fun q=>e9 (by simpa using q)
       have m5:=m4.popA (by exact o80 e4') (by exact o154 k1 la) fun j hj hj1=>Int.le_of_lt (l2 j (by exact o13) (by exact o32 hj1) hj)
       refine wpS_bind (wpS_elem ia ?_)
       refine wpS_ite (c:=(k - 1 == 0) = true) (fun e8=>wpS_pure (.inl ⟨_,_,rfl,m5.done (by simpa using e8),hs⟩)) fun e8=>?_
       have e8' : k - 1 ≠ 0:=fun q=>e8 (by simpa using q)
       have I5 : HiI a b st (x + 2) (k - 1) l _ st4:=⟨hs,m5,by exact o15 e8',by exact o155 e9' e7',by exact o7 ia,by exact o156 ib l1,by exact o459 cnt hl0 k1⟩
       exact wpS_ite (fun _=>wpS_pure (.inr ⟨_,_,_,_,_,_,rfl,I5⟩)) fun _=>wpS_pure ⟨_,_,_,_,_,_,rfl,I5⟩
      ·have el : l = nb - 1:=by exact o157 l1 hl0
       have m4:=m3
       have m5:=m4.popA (by exact o80 e4') (by exact o154 k1 la) fun j hj hj1=>Int.le_of_lt (l2 j (by exact o13) (by exact o158 hj1 el) hj)
       refine wpS_bind (wpS_elem ia ?_)
       refine wpS_ite (c:=(k - 1 == 0) = true) (fun e8=>wpS_pure (.inl ⟨_,_,rfl,m5.done (by simpa using e8),hs⟩)) fun e8=>?_
       have e8' : k - 1 ≠ 0:=fun q=>e8 (by simpa using q)
       have I5 : HiI a b st (x + 2) (k - 1) (nb - 1) _ st4:=⟨hs,m5,by exact o15 e8',by exact o48 pb e6',by exact o7 ia,by exact o7 ib,by exact o460 cnt k1⟩
       exact wpS_ite (fun _=>wpS_pure (.inr ⟨_,_,_,_,_,_,rfl,I5⟩)) fun _=>wpS_pure ⟨_,_,_,_,_,_,rfl,I5⟩
     ·obtain rfl : k = na:=by exact o461 k1 hk0
      have m2:=m
      have m3:=m2.popB (by exact o79 pb) lb fun j hj hj1=>k2 j (by exact o13) (by exact o32 hj1) hj
      have ia : k - 1 < a.size:=by exact o20 pa la
      refine wpS_bind (wpS_elem ib ?_)
      refine wpS_ite (c:=(nb - 1 == 1) = true) (fun e6=>wpS_pure (.inl ⟨_,_,rfl,m3.firstB (by simpa using e6) hfb,hs⟩)) fun e6=>?_
      have e6' : nb - 1 ≠ 1:=fun q=>e6 (by simpa using q)
      refine wpS_bind (wpS_elem ia (wpS_bind (wpS_gallopL (base:=0) (n:=nb - 1) (hint:=nb - 1 - 1) (kd hs) hb kb (ka _ ia) (by exact o150 ib) (by exact o151 pb) fun l l1 l2 l3=>?_)))
      refine wpS_ite (c:=nb - 1 - l > 0) (fun hl0=>?_) fun hl0=>?_
      ·have m4:=m3.extB (k:=l) (by exact o152 l1) fun i i1 i2 hi j hj hj1=>Int.le_trans (ha.le (by exact o16 hj1) ia) (l3 i (by exact o49 i1) (by exact o153 i2) hi)
       refine wpS_ite (c:=(l == 1) = true) (fun e7=>wpS_pure (.inl ⟨_,_,rfl,m4.firstB (by simpa using e7) hfb,hs⟩)) fun e7=>?_
       have e7' : l ≠ 1:=fun q=>e7 (by simpa using q)
       refine wpS_ite (c:=(l == 0) = true) (fun e9=>wpS_pure (.inl ⟨_,_,rfl,m4.done' (by simpa using e9),hs⟩)) fun e9=>?_
       have e9' : l ≠ 0:=fun q=>e9 (by simpa using q)
       have m5:=m4.popA (by exact o159 pa) (by exact o4 la) fun j hj hj1=>Int.le_of_lt (l2 j (by exact o13) (by exact o32 hj1) hj)
       refine wpS_bind (wpS_elem ia ?_)
       refine wpS_ite (c:=(k - 1 == 0) = true) (fun e8=>wpS_pure (.inl ⟨_,_,rfl,m5.done (by simpa using e8),hs⟩)) fun e8=>?_
       have e8' : k - 1 ≠ 0:=fun q=>e8 (by simpa using q)
       have I5 : HiI a b st (x + 2) (k - 1) l _ st4:=⟨hs,m5,by exact o15 e8',by exact o155 e9' e7',by exact o7 ia,by exact o156 ib l1,by exact o462 cnt hl0⟩
       exact wpS_ite (fun _=>wpS_pure (.inr ⟨_,_,_,_,_,_,rfl,I5⟩)) fun _=>wpS_pure ⟨_,_,_,_,_,_,rfl,I5⟩
      ·have el : l = nb - 1:=by exact o157 l1 hl0
       have m4:=m3
       have m5:=m4.popA (by exact o159 pa) (by exact o4 la) fun j hj hj1=>Int.le_of_lt (l2 j (by exact o13) (by exact o158 hj1 el) hj)
       refine wpS_bind (wpS_elem ia ?_)
       refine wpS_ite (c:=(k - 1 == 0) = true) (fun e8=>wpS_pure (.inl ⟨_,_,rfl,m5.done (by simpa using e8),hs⟩)) fun e8=>?_
       have e8' : k - 1 ≠ 0:=fun q=>e8 (by simpa using q)
       have I5 : HiI a b st (x + 2) (k - 1) (nb - 1) _ st4:=⟨hs,m5,by exact o15 e8',by exact o48 pb e6',by exact o7 ia,by exact o7 ib,by exact o463 cnt⟩
       exact wpS_ite (fun _=>wpS_pure (.inr ⟨_,_,_,_,_,_,rfl,I5⟩)) fun _=>wpS_pure ⟨_,_,_,_,_,_,rfl,I5⟩
end
end
section
noncomputable abbrev mergeAtP : Nat -> SM Bool:=sortPriv% PySem.Builtin.mergeAt
noncomputable def layOver (xs : Array Keyed) (off : Nat) (r : Array Keyed) : Array Keyed:=r.toList.zipIdx.foldl (fun a x=>a.setIfInBounds (off + x.2) x.1) xs
theorem lay_get (off : Nat) : ∀ (l : List Keyed) (n : Nat) (xs : Array Keyed) (i : Nat),off + n + l.length <= xs.size ->
  ((l.zipIdx n).foldl (fun a x=>a.setIfInBounds (off + x.2) x.1) xs).size = xs.size /\ ((l.zipIdx n).foldl (fun a x=>a.setIfInBounds (off + x.2) x.1) xs)[i]? = if off + n <= i /\ i < off + n + l.length then l[i - off - n]? else xs[i]?
 | [],n,xs,i,_=>by
  refine ⟨rfl,?_⟩
  rw [if_neg (by rw [List.length_nil];exact o464)]
  rfl
 | x :: l,n,xs,i,h=>by
  rw [List.length_cons] at h
  rw [List.zipIdx_cons,List.foldl_cons]
  dsimp only
  have hs : (xs.setIfInBounds (off + n) x).size = xs.size:=Array.size_setIfInBounds
  have ih:=lay_get off l (n + 1) (xs.setIfInBounds (off + n) x) i (by rw [hs];exact o465 h)
  refine ⟨ih.1.trans hs,?_⟩
  rw [ih.2]
  rw [Array.getElem?_setIfInBounds]
  by_cases h1 : off + (n + 1) <= i /\ i < off + (n + 1) + l.length
  ·rw [if_pos h1,if_pos (by rw [List.length_cons];exact o466 h1)]
   rw [show i - off - n = (i - off - (n + 1)) + 1 by exact o467 h1,List.getElem?_cons_succ]
  ·rw [if_neg h1]
   by_cases h2 : off + n = i
   ·rw [if_pos h2,if_pos (by exact o468 h),if_pos (by rw [List.length_cons];exact o469 h2),show i - off - n = 0 by exact o470 h2]
    rfl
   ·rw [if_neg h2,if_neg (by rw [List.length_cons];exact o471 h1 h2)]
section
variable {xs r : Array Keyed} {off a b c : Nat}
theorem layOver_size (h : off + r.size <= xs.size) : (layOver xs off r).size = xs.size:=(lay_get off r.toList 0 xs 0 (by simpa using h)).1
theorem layOver_get (h : off + r.size <= xs.size) (i : Nat) : (layOver xs off r)[i]? = if off <= i /\ i < off + r.size then r[i - off]? else xs[i]?:=by
 have:=(lay_get off r.toList 0 xs i (by simpa using h)).2
 unfold layOver
 rw [this]
 simp
theorem three_parts (hab : a <= b) (hbc : b <= c) : xs.toList = xs.toList.take a ++ ((xs.extract a b).toList ++ (xs.extract b c).toList) ++ xs.toList.drop c:=by
 have e1:=drop_split xs a (b - a)
 have e2:=drop_split xs b (c - b)
 rw [show a + (b - a) = b by exact o6 hab] at e1
 rw [show b + (c - b) = c by exact o6 hbc] at e2
 rw [e2] at e1
 conv=>lhs;rw [<- List.take_append_drop a xs.toList,e1]
 simp [List.append_assoc]
theorem layOver_eq (h : off + r.size <= xs.size) : (layOver xs off r).toList = xs.toList.take off ++ r.toList ++ xs.toList.drop (off + r.size):=by
 apply List.ext_getElem?
 intro i
 rw [Array.getElem?_toList,layOver_get h]
 have hl : (xs.toList.take off).length = off:=by rw [List.length_take,Array.length_toList];exact o472 h
 by_cases h1 : i < off
 ·rw [if_neg (by exact o473 h1),List.append_assoc,List.getElem?_append_left (by exact o11 h1 hl),List.getElem?_take_of_lt h1,Array.getElem?_toList]
 ·by_cases h2 : i < off + r.size
  ·rw [if_pos (by exact o474 h2 h1),List.append_assoc,List.getElem?_append_right (by exact o475 hl h1),hl,List.getElem?_append_left (by simp;exact o476 h2 h1),Array.getElem?_toList]
  ·rw [if_neg (by exact o477 h2),List.getElem?_append_right (by simp [hl];exact o478 h2),List.getElem?_drop,Array.getElem?_toList]
   congr 1
   simp [hl]
   exact o479 h2
theorem layOver_perm (hab : a <= b) (hbc : b <= c) (hc : c <= xs.size) (hr : r.toList.Perm ((xs.extract a b).toList ++ (xs.extract b c).toList)) : r.size = c - a /\ (layOver xs a r).Perm xs:=by
 have hsz : r.size = c - a:=by
  have:=hr.length_eq
  simp at this
  exact o480 this hab hbc hc
 refine ⟨hsz,Array.perm_iff_toList_perm.mpr ?_⟩
 rw [layOver_eq (by exact o481 hsz hab hbc hc),show a + r.size = c by exact o482 hsz hab hbc]
 conv=>rhs;rw [three_parts (xs:=xs) hab hbc]
 exact ((List.Perm.append_left _ hr).append_right _)
theorem K_lt {i : Nat} (h : i < xs.size) : K xs i = kN xs[i]:=K_eq h
theorem K_lay (h : off + r.size <= xs.size) (i : Nat) : K (layOver xs off r) i = if off <= i /\ i < off + r.size then K r (i - off) else K xs i:=by
 have e:=layOver_get h i
 by_cases h1 : off <= i /\ i < off + r.size
 ·rw [if_pos h1] at e ⊢;exact K_congr e
 ·rw [if_neg h1] at e ⊢;exact K_congr e
noncomputable def SegS (xs : Array Keyed) (i j : Nat) : Prop:=∀ p q,i <= p -> p <= q -> q < j -> K xs p <= K xs q
theorem SegS.asce (h : SegS xs a b) (hb : b <= xs.size) : Asce (xs.extract a b):=by
 unfold Asce
 rw [List.pairwise_iff_getElem]
 intro i j hi hj hij
 simp only [Array.length_toList,Array.size_extract] at hi hj
 simp only [Array.getElem_toList,Array.getElem_extract]
 have:=h (a + i) (a + j) (by exact o10) (by exact o483 hij) (by exact o136 hj)
 rw [K_lt (by exact o73 hi),K_lt (by exact o73 hj)] at this
 exact this
theorem Asce.seg (h : Asce r) : SegS r 0 r.size:=fun p q _ h2 h3=>by
 rw [K_lt (by exact o135 h3 h2),K_lt h3]
 exact h.le h2 h3
theorem K_extract {i : Nat} (hi : i < b - a) (hb : b <= xs.size) : K (xs.extract a b) i = K xs (a + i):=by
 apply K_congr
 rw [Array.getElem?_extract,if_pos (by exact o484 hi hb)]
theorem merged_from (hr : r.toList.Perm ((xs.extract a b).toList ++ (xs.extract b c).toList)) (hab : a <= b) {i : Nat} (hi : i < r.size) :
  ∃ j,a <= j /\ j < xs.size /\ (j < b \/ (b <= j /\ j < c)) /\ K r i = K xs j:=by
 have hm : r[i] ∈ (xs.extract a b).toList ++ (xs.extract b c).toList:=hr.mem_iff.mp (by simp)
 rcases List.mem_append.mp hm with hm | hm
 ·obtain ⟨j,hj,j1,j2,e⟩:=mem_extract_get hm
  exact ⟨j,j1,hj,.inl j2,by rw [K_lt hi,K_lt hj,e]⟩
 ·obtain ⟨j,hj,j1,j2,e⟩:=mem_extract_get hm
  exact ⟨j,by exact o81 j1 hab,hj,.inr ⟨j1,j2⟩,by rw [K_lt hi,K_lt hj,e]⟩
end
end
section
structure SGd (a₀ : Array Keyed) (st : SortSt) : Prop where
 perm : (arrOf st).Perm a₀
 kind : kindOf st = oneType'
 failed : failedOf st = none
theorem SGd.size {a₀ : Array Keyed} {st : SortSt} (h : SGd a₀ st) : (arrOf st).size = a₀.size:=h.perm.size_eq
theorem SGd.allK {a₀ : Array Keyed} {st : SortSt} (h : SGd a₀ st) (h0 : IntKeys a₀) : AllK (arrOf st):=fun i hi=>by
 obtain ⟨n,t,e⟩:=h0 (arrOf st)[i] ((Array.perm_iff_toList_perm.mp h.perm).mem_iff.mp (by simp))
 exact ⟨n,t,e⟩
theorem AllK.extract {xs : Array Keyed} (h : AllK xs) (a b : Nat) : AllK (xs.extract a b):=fun i hi=>by
 rw [Array.getElem_extract]
 exact h _ _
section
variable {prog : Program} {w : World} {A : Around} {E : Value -> Shared -> Prop} {s : Shared} {a₀ : Array Keyed}
theorem wpS_set {st st' : SortSt} {Q : PUnit -> SortSt -> Prop} (h : Q ⟨⟩ st') : wpS (model prog w) A E s (set st' : SM PUnit) Q st:=by
 unfold wpS;rw [StateT.run_set];exact wpAny_pure ⟨rfl,h⟩
theorem wpS_mergeAt {i sa na pw sb nb pw2 : Nat} {Q : Bool -> SortSt -> Prop} {st : SortSt} (h0 : IntKeys a₀) (hG : SGd a₀ st) (h1 : (pendingOf st)[i]? = some (sa,na,pw)) (h2 : (pendingOf st)[i + 1]? = some (sb,nb,pw2))
  (hab : sb = sa + na) (hna : 0 < na) (hnb : 0 < nb) (hsz : sb + nb <= a₀.size) (s1 : SegS (arrOf st) sa sb) (s2 : SegS (arrOf st) sb (sb + nb))
  (h : ∀ st',SGd a₀ st' -> pendingOf st' = ((pendingOf st).setIfInBounds i (sa,na + nb,pw)).eraseIdxIfInBounds (i + 1) -> SegS (arrOf st') sa (sb + nb) -> (∀ j,j < sa \/ sb + nb <= j -> K (arrOf st') j = K (arrOf st) j) -> Q true st') :
  wpS (model prog w) A E s (mergeAtP i) Q st:=by
 have hs:=hG.size
 have hK:=hG.allK h0
 have bsz : sb < (arrOf st).size:=by exact o485 hnb hsz hs
 have gr : ∀ {base n hint : Nat} {key : Keyed} {R : Option Nat -> SortSt -> Prop} {st' : SortSt},kindOf st' = oneType' -> IsK key -> base + n <= (arrOf st).size -> hint < n -> SegS (arrOf st) base (base + n) ->
   (∀ k,k <= n -> (∀ i,base <= i -> i < base + k -> K (arrOf st) i <= kN key) -> (∀ i,base + k <= i -> i < base + n -> kN key < K (arrOf st) i) -> R (some k) st') -> wpS (model prog w) A E s (gallopP false key (arrOf st) base n hint) R st':=by
  intro base n hint key R st' hk hkey hb hh hseg hR
  refine wpS_gallop (fun i=>!decide (kN key < K (arrOf st) (base + i))) hk hb hh hkey hK (fun i hi=>?_) (fun i j hij hj hp=>?_) fun k k1 k2 k3=>hR k k1 (fun i i1 i2=>?_) fun i i1 i2=>?_
  ·rw [if_neg (by decide),K_lt (by exact o0 hb hi)]
  ·have:=hseg (base + i) (base + j) (by exact o10) (by exact o46 hij) (by exact o50 hj)
   simp only [Bool.not_eq_true',decide_eq_false_iff_not] at hp ⊢
   exact o139 this hp
  ·have:=k2 (i - base) (by exact o28 i2 i1)
   simp only [show base + (i - base) = i by exact o6 i1,Bool.not_eq_true',decide_eq_false_iff_not] at this
   exact o140 this
  ·have:=k3 (i - base) (by exact o29 i1) (by exact o30 i1 i2)
   simpa [show base + (i - base) = i by exact o31 i1] using this
 have gl : ∀ {base n hint : Nat} {key : Keyed} {R : Option Nat -> SortSt -> Prop} {st' : SortSt},kindOf st' = oneType' -> IsK key -> base + n <= (arrOf st).size -> hint < n -> SegS (arrOf st) base (base + n) ->
   (∀ k,k <= n -> (∀ i,base <= i -> i < base + k -> K (arrOf st) i < kN key) -> (∀ i,base + k <= i -> i < base + n -> kN key <= K (arrOf st) i) -> R (some k) st') -> wpS (model prog w) A E s (gallopP true key (arrOf st) base n hint) R st':=by
  intro base n hint key R st' hk hkey hb hh hseg hR
  refine wpS_gallop (fun i=>decide (K (arrOf st) (base + i) < kN key)) hk hb hh hkey hK (fun i hi=>?_) (fun i j hij hj hp=>?_) fun k k1 k2 k3=>hR k k1 (fun i i1 i2=>?_) fun i i1 i2=>?_
  ·rw [if_pos rfl,K_lt (by exact o0 hb hi)]
  ·have:=hseg (base + i) (base + j) (by exact o10) (by exact o46 hij) (by exact o50 hj)
   simp only [decide_eq_true_eq] at hp ⊢
   exact o141 hp this
  ·have:=k2 (i - base) (by exact o28 i2 i1)
   simpa [show base + (i - base) = i by exact o6 i1] using this
  ·have:=k3 (i - base) (by exact o29 i1) (by exact o30 i1 i2)
   simpa [show base + (i - base) = i by exact o31 i1] using this
 refine wpS_bind (wpS_get ?_)
 dsimp only
 rw [h1,h2]
 dsimp only
 refine wpS_bind (wpS_set ?_)
 refine wpS_bind (wpS_elem (arr:=arrOf st) bsz ?_)
 have kb:=K_lt bsz
 refine wpS_bind (gr hG.kind (hK _ bsz) (by exact o486 bsz hab) hna (by rw [<- hab];exact s1) fun k k1 k2 k3=>?_)
 rw [<- kb] at k2 k3
 dsimp only
 by_cases e1 : (na - k == 0) = true
 ·rw [if_pos e1]
  have e1' : na <= k:=by
   have : na - k = 0:=by simpa using e1
   exact o487 this
  refine wpS_pure (h _ ⟨hG.perm,hG.kind,hG.failed⟩ rfl (fun p q p1 p2 p3=>?_) fun _ _=>rfl)
  by_cases hp : p < sb
  ·by_cases hq : q < sb
   ·exact s1 p q p1 p2 hq
   ·exact Int.le_trans (k2 p p1 (by exact o488 hp hab e1')) (s2 sb q (by exact o21) (by exact o51 hq) p3)
  ·exact s2 p q (by exact o51 hp) p2 p3
 rw [if_neg e1]
 have e1' : k < na:=by
  have : na - k ≠ 0:=fun q=>e1 (by simpa using q)
  exact o489 this
 have lsz : sa + k + (na - k) - 1 < (arrOf st).size:=by exact o490 e1' bsz hab
 refine wpS_bind (wpS_elem (arr:=arrOf st) lsz ?_)
 have kl:=K_lt lsz
 have ee : sa + k + (na - k) - 1 = sb - 1:=by exact o491 e1' hab
 refine wpS_bind (gl hG.kind (hK _ lsz) (by exact o492 hsz hs) (by exact o9 hnb) s2 fun l l1 l2 l3=>?_)
 rw [<- kl,ee] at l2 l3
 dsimp only
 by_cases e2 : (l == 0) = true
 ·rw [if_pos e2]
  have e2' : l = 0:=by simpa using e2
  refine wpS_pure (h _ ⟨hG.perm,hG.kind,hG.failed⟩ rfl (fun p q p1 p2 p3=>?_) fun _ _=>rfl)
  by_cases hp : p < sb
  ·by_cases hq : q < sb
   ·exact s1 p q p1 p2 hq
   ·exact Int.le_trans (s1 p (sb - 1) p1 (by exact o16 hp) (by exact o160 hp)) (l3 q (by exact o493 e2' hq) p3)
  ·exact s2 p q (by exact o51 hp) p2 p3
 rw [if_neg e2]
 have e2' : 0 < l:=by
  have : l ≠ 0:=fun q=>e2 (by simpa using q)
  exact o80 this
 have hX : SegS (arrOf st) (sa + k) sb:=fun p q p1 p2 p3=>s1 p q (by exact o161 p1) p2 p3
 have hY : SegS (arrOf st) sb (sb + l):=fun p q p1 p2 p3=>s2 p q p1 p2 (by exact o494 p3 l1)
 have aX:=hX.asce (by exact o33 bsz)
 have aY:=hY.asce (by exact o52 hsz hs l1)
 have zX : 0 < ((arrOf st).extract (sa + k) sb).size:=by rw [Array.size_extract];exact o495 lsz e1' hab
 have zY : 0 < ((arrOf st).extract sb (sb + l)).size:=by rw [Array.size_extract];exact o496 e2' bsz
 have hfirst : kN ((arrOf st).extract sb (sb + l))[0] <= kN ((arrOf st).extract (sa + k) sb)[0]:=by
  rw [<- K_lt,<- K_lt,K_extract (by exact o497 e2') (by exact o52 hsz hs l1),K_extract (by exact o498 e1' hab) (by exact o33 bsz)]
  exact Int.le_of_lt (k3 (sa + k + 0) (by exact o499) (by exact o500 e1'))
 have hlast : ∀ j (hj : j < ((arrOf st).extract sb (sb + l)).size),kN ((arrOf st).extract sb (sb + l))[j] <= kN (((arrOf st).extract (sa + k) sb)[((arrOf st).extract (sa + k) sb).size - 1]'(by exact o9 zX)):=fun j hj=>by
  have hj' : j < l:=by rw [Array.size_extract] at hj;exact o501 hj
  have hz : ((arrOf st).extract (sa + k) sb).size - 1 < sb - (sa + k):=by rw [Array.size_extract];exact o502 e1' hab
  rw [<- K_lt,<- K_lt,K_extract (by exact o503 hj') (by exact o52 hsz hs l1),K_extract hz (by exact o33 bsz)]
  rw [show sa + k + (((arrOf st).extract (sa + k) sb).size - 1) = sb - 1 by rw [Array.size_extract];exact o504 lsz e1' hab]
  exact Int.le_of_lt (l2 (sb + j) (by exact o10) (by exact o50 hj'))
 have fin : ∀ (r : Array Keyed) (st1 : SortSt),GoodR ((arrOf st).extract (sa + k) sb) ((arrOf st).extract sb (sb + l)) r -> kindOf st1 = oneType' -> arrOf st1 = arrOf st -> failedOf st1 = none ->
   pendingOf st1 = ((pendingOf st).setIfInBounds i (sa,na + nb,pw)).eraseIdxIfInBounds (i + 1) -> Q true (setArr st1 (layOver (arrOf st1) (sa + k) r)):=by
  intro r st1 hr g1 g2 g3 g4
  obtain ⟨rsz,rperm⟩:=layOver_perm (xs:=arrOf st) (by exact o82 e1' hab) (by exact o10) (by exact o52 hsz hs l1) hr.1
  refine h _ ⟨?_,g1,g3⟩ g4 ?_ ?_
  ·show (layOver (arrOf st1) (sa + k) r).Perm a₀
   rw [g2]
   exact rperm.trans hG.perm
  ·show SegS (layOver (arrOf st1) (sa + k) r) sa (sb + nb)
   rw [g2]
   have rs:=hr.2.seg
   intro p q p1 p2 p3
   have hfit : sa + k + r.size <= (arrOf st).size:=by exact o162 lsz hsz hs rsz l1
   rw [K_lay hfit,K_lay hfit]
   by_cases hp : p < sa + k
   ·rw [if_neg (by exact o163 hp)]
    by_cases hq : q < sa + k
    ·rw [if_neg (by exact o163 hq)]
     exact s1 p q p1 p2 (by exact o505 e1' hq hab)
    ·by_cases hq2 : q < sa + k + r.size
     ·rw [if_pos (by exact o164 hq2 hq)]
      obtain ⟨j,j1,j2,j3,e⟩:=merged_from hr.1 (by exact o82 e1' hab) (i:=q - (sa + k)) (by exact o165 hq2 hq)
      rw [e]
      by_cases hj : j < sb
      ·exact s1 p j p1 (by exact o506 j1 hp) hj
      ·have hb : sb <= j /\ j < sb + l:=by exact o507 j3 hj
       exact Int.le_trans (k2 p p1 hp) (s2 sb j (by exact o21) hb.1 (by exact o508 l1 hb))
     ·rw [if_neg (by exact o83 hq2)]
      exact Int.le_trans (k2 p p1 hp) (s2 sb q (by exact o21) (by exact o166 rsz hq2) p3)
   ·by_cases hp2 : p < sa + k + r.size
    ·rw [if_pos (by exact o164 hp2 hp)]
     by_cases hq2 : q < sa + k + r.size
     ·rw [if_pos (by exact o509 hq2 p2 hp)]
      exact rs _ _ (by exact o510) (by exact o511 p2) (by exact o512 hq2 hp2 hp)
     ·rw [if_neg (by exact o83 hq2)]
      obtain ⟨j,j1,j2,j3,e⟩:=merged_from hr.1 (by exact o82 e1' hab) (i:=p - (sa + k)) (by exact o165 hp2 hp)
      rw [e]
      by_cases hj : j < sb
      ·exact Int.le_trans (s1 j (sb - 1) (by exact o161 j1) (by exact o16 hj) (by exact o160 hj)) (l3 q (by exact o513 rsz hq2) p3)
      ·exact s2 j q (by exact o51 hj) (by exact o514 j3 rsz hq2) p3
    ·rw [if_neg (by exact o83 hp2),if_neg (by exact o515 p2 hp2)]
     exact s2 p q (by exact o166 rsz hp2) p2 p3
  ·intro j hj
   show K (layOver (arrOf st1) (sa + k) r) j = _
   rw [g2,K_lay (by exact o162 lsz hsz hs rsz l1),if_neg (by exact o516 hj rsz l1)]
 by_cases e3 : na - k <= l
 ·rw [if_pos e3]
  refine wpS_bind (wpS_mergeLo hG.kind aX aY (hK.extract _ _) (hK.extract _ _) zX zY hfirst hlast fun r st1 hr hs1=>?_)
  refine wpS_bind (wpS_modify (wpS_bind (wpS_get ?_)))
  have f:=fin r st1 hr (hs1.1.trans hG.kind) hs1.2.1 (hs1.2.2.2.trans hG.failed) hs1.2.2.1
  have ef : (failedOf st1).isNone = true:=by rw [hs1.2.2.2.trans hG.failed];rfl
  rw [<- ef] at f
  exact wpS_pure f
 ·rw [if_neg e3]
  refine wpS_bind (wpS_mergeHi hG.kind aX aY (hK.extract _ _) (hK.extract _ _) zX zY hfirst hlast fun r st1 hr hs1=>?_)
  refine wpS_bind (wpS_modify (wpS_bind (wpS_get ?_)))
  have f:=fin r st1 hr (hs1.1.trans hG.kind) hs1.2.1 (hs1.2.2.2.trans hG.failed) hs1.2.2.1
  have ef : (failedOf st1).isNone = true:=by rw [hs1.2.2.2.trans hG.failed];rfl
  rw [<- ef] at f
  exact wpS_pure f
end
end
section
noncomputable abbrev countRunP : Nat -> Nat -> SM (Option Nat):=sortPriv% PySem.Builtin.countRun
noncomputable abbrev binP : Nat -> Nat -> Nat -> SM Bool:=sortPriv% PySem.Builtin.binarySort
noncomputable abbrev reverseP : Nat -> Nat -> SM Unit:=sortPriv% PySem.Builtin.reverseSlice
noncomputable abbrev moveP : Nat -> Nat -> SM Unit:=sortPriv% PySem.Builtin.moveDown
noncomputable def Apart (xs : Array Keyed) : Prop:=∀ i j,i < xs.size -> j < xs.size -> K xs i = K xs j -> i = j
structure Frm (a₀ : Array Keyed) (lo : Nat) (st st' : SortSt) : Prop where
 good : SGd a₀ st'
 pend : pendingOf st' = pendingOf st
 old : ∀ j,j < lo -> K (arrOf st') j = K (arrOf st) j
theorem Frm.trans {a₀ : Array Keyed} {lo : Nat} {a b c : SortSt} (h : Frm a₀ lo a b) (h' : Frm a₀ lo b c) : Frm a₀ lo a c :=
 ⟨h'.good,h'.pend.trans h.pend,fun j hj=>(h'.old j hj).trans (h.old j hj)⟩
section
variable {prog : Program} {w : World} {A : Around} {E : Value -> Shared -> Prop} {s : Shared} {a₀ : Array Keyed}
theorem apart_of {xs : Array Keyed} (hn : (a₀.toList.map kN).Nodup) (hp : xs.Perm a₀) : Apart xs:=by
 have hn' : (xs.toList.map kN).Nodup:=(((Array.perm_iff_toList_perm.mp hp).map kN).nodup_iff).mpr hn
 intro i j hi hj e
 rw [K_lt hi,K_lt hj] at e
 rw [List.nodup_iff_pairwise_ne,List.pairwise_map,List.pairwise_iff_getElem] at hn'
 refine bc fun g0=>?_;rcases Nat.lt_trichotomy i j with h | h | h <;> (refine g0 ?_;clear g0)
 ·exact (hn' i j (by simpa using hi) (by simpa using hj) h e).elim
 ·exact h
 ·exact (hn' j i (by simpa using hj) (by simpa using hi) h e.symm).elim
theorem wpS_ltG {st : SortSt} {i j : Nat} {Q : Option Bool -> SortSt -> Prop} (h0 : IntKeys a₀) (hG : SGd a₀ st) (hi : i < a₀.size) (hj : j < a₀.size)
  (h : Q (some (decide (K (arrOf st) i < K (arrOf st) j))) st) : wpS (model prog w) A E s (ltAtP i j) Q st:=by
 have hi' : i < (arrOf st).size:=by rw [hG.size];exact hi
 have hj' : j < (arrOf st).size:=by rw [hG.size];exact hj
 refine wpS_bind (wpS_get ?_)
 refine wpS_bind (wpS_elem (arr:=arrOf st) hi' (wpS_bind (wpS_elem (arr:=arrOf st) hj' (wpS_lt hG.kind (hG.allK h0 _ hi') (hG.allK h0 _ hj') ?_))))
 rw [K_lt hi',K_lt hj'] at h
 exact h
theorem wpS_revG {lo i j : Nat} {st : SortSt} {Q : Unit -> SortSt -> Prop} (hG : SGd a₀ st) (hlo : lo <= i) (hj : j <= a₀.size)
  (h : ∀ st',Frm a₀ lo st st' -> (∀ k,K (arrOf st') k = if i <= k /\ k < j then K (arrOf st) (i + j - 1 - k) else K (arrOf st) k) -> Q () st') : wpS (model prog w) A E s (reverseP i j) Q st:=by
 refine wpS_reverse ?_
 have hk : ∀ k,K (mirror (arrOf st) i j ((j - i) / 2)) k = if i <= k /\ k < j then K (arrOf st) (i + j - 1 - k) else K (arrOf st) k:=K_mirror (by rw [hG.size];exact hj)
 refine h _ ⟨⟨(mirror_perm _ _ _ _).trans hG.perm,hG.kind,hG.failed⟩,rfl,fun k hk'=>?_⟩ hk
 show K (mirror (arrOf st) i j ((j - i) / 2)) k = _
 rw [hk,if_neg (by exact o517 hk' hlo)]
theorem wpS_ascG {lo a nrem : Nat} {st : SortSt} {f : Nat -> Option (Option Nat) × Nat -> SM (ForInStep (Option (Option Nat) × Nat))} {Q : Option (Option Nat) × Nat -> SortSt -> Prop} (ha : 1 <= a) (han : a <= nrem) (hs : SegS (arrOf st) lo (lo + a))
  (hf : ∀ x n (R : ForInStep (Option (Option Nat) × Nat) -> SortSt -> Prop),(∀ b,b = decide (K (arrOf st) (lo + n) < K (arrOf st) (lo + n - 1)) -> R (if b = true then .done (none,n) else .yield (none,n + 1)) st) -> 1 <= n -> n < nrem -> wpS (model prog w) A E s (f x (none,n)) R st)
  (h : ∀ n,a <= n -> n <= nrem -> SegS (arrOf st) lo (lo + n) -> (n = nrem \/ K (arrOf st) (lo + n) < K (arrOf st) (lo + n - 1)) -> Q (none,n) st) :
  wpS (model prog w) A E s (forIn [a:nrem] (none,a) f) Q st:=by
 refine wpS_forRange (I:=fun x c st'=>st' = st /\ c = (none,x) /\ SegS (arrOf st) lo (lo + x)) ?step ?fin ⟨rfl,rfl,hs⟩
 case fin =>
  rintro c st' hE1;refine bc fun g0=>?_;obtain ⟨rfl,rfl,hs'⟩:=hE1;refine g0 ?_;clear g0
  rw [show max a nrem = nrem by exact o167 han] at hs' ⊢
  exact h nrem han (Nat.le_refl _) hs' (.inl rfl)
 case step =>
  rintro x c st' hax hxn hE2;refine bc fun g0=>?_;obtain ⟨rfl,rfl,hs'⟩:=hE2;refine g0 ?_;clear g0
  refine hf x x _ (fun b hb=>?_) (by exact o168 ha hax) hxn
  subst hb
  by_cases hless : K (arrOf st') (lo + x) < K (arrOf st') (lo + x - 1)
  ·rw [if_pos (by simpa using hless)]
   exact h x hax (by exact o33 hxn) hs' (.inr hless)
  ·rw [if_neg (by simpa using hless)]
   refine ⟨rfl,rfl,fun i j hi hij hj=>?_⟩
   by_cases hjx : j < lo + x
   ·exact hs' i j hi hij hjx
   ·have hj' : j = lo + x:=by exact o169 hj hjx
    subst hj'
    by_cases hi' : i = lo + x
    ·subst hi';exact Int.le_refl _
    ·exact Int.le_trans (hs' i (lo + x - 1) (by exact o4 hi) (by exact o170 hij hi') (by exact o518 ha hax)) (Int.not_lt.mp hless)
theorem wpS_countRunG {lo nrem : Nat} {st : SortSt} {Q : Option Nat -> SortSt -> Prop} (h0 : IntKeys a₀) (hN : (a₀.toList.map kN).Nodup) (hG : SGd a₀ st) (h1 : 1 <= nrem) (hn : lo + nrem <= a₀.size)
  (h : ∀ m st',Frm a₀ lo st st' -> 1 <= m -> m <= nrem -> SegS (arrOf st') lo (lo + m) -> Q (some m) st') : wpS (model prog w) A E s (countRunP lo nrem) Q st:=by
 have hz:=hG.size
 have hone : ∀ xs : Array Keyed,SegS xs lo (lo + 1):=fun xs p q p1 p2 p3=>by
  have : p = q:=by exact o519 p3 p1 p2
  subst this
  exact Int.le_refl _
 have ascf : ∀ {st' : SortSt},SGd a₀ st' -> ∀ (x n : Nat) (R : ForInStep (Option (Option Nat) × Nat) -> SortSt -> Prop),(∀ b,b = decide (K (arrOf st') (lo + n) < K (arrOf st') (lo + n - 1)) -> R (if b = true then .done (none,n) else .yield (none,n + 1)) st') -> 1 <= n -> n < nrem ->
   wpS (model prog w) A E s (do
    let r <- ltAtP (lo + n) (lo + n - 1)
    match r with
    | some b=>if b = true then pure (ForInStep.done ((none : Option (Option Nat)),n)) else pure (ForInStep.yield (none,n + 1))
    | _=>pure (ForInStep.done (some none,n))) R st':=fun hG' x n R hR n1 n2=>by
  refine wpS_bind (wpS_ltG h0 hG' (by exact o0 hn n2) (by exact o84 hn n2) ?_)
  have:=hR _ rfl
  dsimp only
  split at this
  ·rename_i hb
   rw [if_pos hb]
   exact wpS_pure this
  ·rename_i hb
   rw [if_neg hb]
   exact wpS_pure this
 refine wpS_bind (wpS_ascG (Nat.le_refl 1) h1 (hone _) (ascf hG) fun n n1 n2 n3 n4=>?_)
 have hap:=apart_of hN hG.perm
 refine wpS_ite (c:=(n == nrem) = true) (fun _=>wpS_pure (h n st ⟨hG,rfl,fun _ _=>rfl⟩ n1 n2 n3)) fun e1=>?_
 have e1' : n ≠ nrem:=fun q=>e1 (by simpa using q)
 refine wpS_ite (c:=n > 1) (fun e2=>?_) fun e2=>?_
 ·refine wpS_bind (wpS_ltG h0 hG (by exact o520 h1 hn) (by exact o521 hn e2 n2) ?_)
  have hlt : K (arrOf st) lo < K (arrOf st) (lo + n - 1):=by
   have a1:=n3 lo (lo + n - 1) (by exact o21) (by exact o522 e2) (by exact o523 e2)
   refine bc fun g0=>?_;rcases Int.lt_or_eq_of_le a1 with a2 | a2 <;> (refine g0 ?_;clear g0)
   ·exact a2
   ·have:=hap lo (lo + n - 1) (by exact o524 h1 hn hz) (by exact o525 hn hz e2 n2) a2
    exact (o526 this e2).elim
  simp only [hlt,decide_true]
  exact wpS_pure (h n st ⟨hG,rfl,fun _ _=>rfl⟩ n1 n2 n3)
 ·obtain rfl : n = 1:=by exact o527 n1 e2
  refine wpS_bind (wpS_lift (wpAny_rule ⟨rfl,?_⟩))
  have hdown : K (arrOf st) (lo + 1) < K (arrOf st) lo:=by
   refine bc fun g0=>?_;rcases n4 with n4 | n4 <;> (refine g0 ?_;clear g0)
   ·exact (o528 n4 e1').elim
   ·exact n4
  refine wpS_bind (wpS_mono (wpS_forRange (a:=1 + 1) (I:=fun x c st'=>st' = st /\ c = (none,x,0) /\ ∀ i j,lo <= i -> i <= j -> j < lo + x -> K (arrOf st) j <= K (arrOf st) i)
   (Q:=fun c st'=>st' = st /\ ∃ m,c = (none,m,0) /\ 1 <= m /\ m <= nrem /\ ∀ i j,lo <= i -> i <= j -> j < lo + m -> K (arrOf st) j <= K (arrOf st) i) ?step ?fin ?init) ?post)
  case init =>
   refine ⟨rfl,rfl,fun i j a1 a2 a3=>?_⟩
   refine bc fun g0=>?_;rcases (by exact o529 a3 a1 a2 : i = j \/ (i = lo /\ j = lo + 1)) with e | ⟨e,f⟩ <;> (refine g0 ?_;clear g0)
   ·subst e;exact Int.le_refl _
   ·subst e f;exact Int.le_of_lt hdown
  case fin =>
   rintro c st' hE3;refine bc fun g0=>?_;obtain ⟨rfl,rfl,hd⟩:=hE3;refine g0 ?_;clear g0
   rw [show max (1 + 1) nrem = nrem by exact o171 e1' h1] at hd ⊢
   exact ⟨rfl,_,rfl,h1,Nat.le_refl _,hd⟩
  case step =>
   rintro x c st' hax hxn hE4;refine bc fun g0=>?_;obtain ⟨rfl,rfl,hd⟩:=hE4;refine g0 ?_;clear g0
   refine wpS_bind (wpS_ltG (i:=lo + x) (j:=lo + x - 1) h0 hG (by exact o0 hn hxn) (by exact o84 hn hxn) ?_)
   by_cases hless : K (arrOf st') (lo + x) < K (arrOf st') (lo + x - 1)
   ·simp only [hless,decide_true]
    refine wpS_pure ⟨rfl,rfl,fun i j a1 a2 a3=>?_⟩
    by_cases hj : j < lo + x
    ·exact hd i j a1 a2 hj
    ·have hj' : j = lo + x:=by exact o169 a3 hj
     subst hj'
     by_cases hi' : i = lo + x
     ·subst hi';exact Int.le_refl _
     ·exact Int.le_trans (Int.le_of_lt hless) (hd i (lo + x - 1) a1 (by exact o170 a2 hi') (by exact o530 hax))
   ·simp only [hless,decide_false]
    refine wpS_bind (wpS_ltG (i:=lo + x - 1) (j:=lo + x) h0 hG (by exact o84 hn hxn) (by exact o0 hn hxn) ?_)
    have hmore : K (arrOf st') (lo + x - 1) < K (arrOf st') (lo + x):=by
     refine bc fun g0=>?_;rcases Int.lt_or_eq_of_le (Int.not_lt.mp hless) with a2 | a2 <;> (refine g0 ?_;clear g0)
     ·exact a2
     ·have:=hap (lo + x - 1) (lo + x) (by exact o531 hn hxn hz) (by exact o532 hn hxn hz) a2
      exact (o533 hax this).elim
    simp only [hmore,decide_true]
    exact wpS_pure ⟨rfl,_,rfl,by exact o534 hax,by exact o33 hxn,hd⟩
  case post =>
   rintro c st' hE5;refine bc fun g0=>?_;obtain ⟨rfl,m,rfl,m1,m2,hd⟩:=hE5;refine g0 ?_;clear g0
   refine wpS_bind (wpS_revG (lo:=lo) (i:=lo) (j:=lo + m) hG (Nat.le_refl _) (by exact o535 hn m2) fun st2 hF hK2=>?_)
   refine wpS_bind (wpS_ascG (a:=m) (lo:=lo) m1 m2 (fun p q p1 p2 p3=>?_) (ascf hF.good) fun n b1 b2 b3 _=>?_)
   ·rw [hK2,hK2,if_pos (by exact o536 p3 p1 p2),if_pos (by exact o537 p3 p1 p2)]
    exact hd _ _ (by exact o538 p3) (by exact o539 p2) (by exact o540 p3 p1)
   ·exact wpS_pure (h n st2 hF (by exact o168 m1 b1) b2 b3)
theorem wpS_binG {lo n ok : Nat} {st : SortSt} {Q : Bool -> SortSt -> Prop} (h0 : IntKeys a₀) (hG : SGd a₀ st) (hn : lo + n <= a₀.size) (hok : ok <= n) (h1 : 1 <= ok) (hs : SegS (arrOf st) lo (lo + ok))
  (h : ∀ st',Frm a₀ lo st st' -> SegS (arrOf st') lo (lo + n) -> Q true st') : wpS (model prog w) A E s (binP lo n ok) Q st:=by
 refine wpS_bind (wpS_mono (wpS_forRange (I:=fun k c st'=>c = (none,()) /\ Frm a₀ lo st st' /\ SegS (arrOf st') lo (lo + k))
  (Q:=fun c st'=>c = (none,()) /\ Frm a₀ lo st st' /\ SegS (arrOf st') lo (lo + n)) ?step ?fin ?init) ?post)
 case post =>
  rintro c st' hE6;refine bc fun g0=>?_;obtain ⟨rfl,hB',hs'⟩:=hE6;refine g0 ?_;clear g0
  exact wpS_pure (h st' hB' hs')
 case init=>exact ⟨rfl,⟨hG,rfl,fun _ _=>rfl⟩,by rw [show max ok 1 = ok by exact o541 h1];exact hs⟩
 case fin =>
  rintro c st' hE7;refine bc fun g0=>?_;obtain ⟨hc,hB',hs'⟩:=hE7;refine g0 ?_;clear g0
  rw [show max (max ok 1) n = n by exact o542 h1 hok] at hs'
  exact ⟨hc,hB',hs'⟩
 case step =>
  rintro k c st' hak hkn hE8;refine bc fun g0=>?_;obtain ⟨rfl,hB',hs'⟩:=hE8;refine g0 ?_;clear g0
  have hks : lo + k < (arrOf st').size:=by rw [hB'.good.size];exact o0 hn hkn
  refine wpS_bind (wpS_mono (wpS_range0 (fun x c st''=>st'' = st' /\ ∃ l r,c = (none,l,r) /\ l <= r /\ r <= k /\ r - l <= k - x /\
    (∀ i,i < l -> K (arrOf st') (lo + i) <= K (arrOf st') (lo + k)) /\ (∀ i,r <= i -> i < k -> K (arrOf st') (lo + k) < K (arrOf st') (lo + i)))
   (Q:=fun c st''=>st'' = st' /\ ∃ l r,c = (none,l,r) /\ l <= k /\
    (∀ i,i < l -> K (arrOf st') (lo + i) <= K (arrOf st') (lo + k)) /\ (∀ i,l <= i -> i < k -> K (arrOf st') (lo + k) < K (arrOf st') (lo + i))) ?iinit ?istep ?ifin) ?ipost)
  case iinit=>exact ⟨rfl,0,k,rfl,by exact o13,by exact o21,by exact o543,fun i hi=>by exact (o45 hi).elim,fun i h1 h2=>by exact (o18 h2 h1).elim⟩
  case ifin =>
   rintro c st'' hE9;refine bc fun g0=>?_;obtain ⟨rfl,l,r,rfl,hlr,hrk,hm,hlo,hhi⟩:=hE9;refine g0 ?_;clear g0
   have : l = r:=by exact o128 hm hlr
   subst this
   exact ⟨rfl,l,l,rfl,hrk,hlo,hhi⟩
  case istep =>
   rintro x c st'' hxk hE10;refine bc fun g0=>?_;obtain ⟨rfl,l,r,rfl,hlr,hrk,hm,hlo,hhi⟩:=hE10;refine g0 ?_;clear g0
   refine wpS_ite (c:=l >= r) (fun hge=>?_) fun hge=>?_
   ·have : l = r:=by exact o25 hlr hge
    subst this
    exact wpS_pure ⟨rfl,l,l,rfl,hrk,hlo,hhi⟩
   ·refine wpS_bind (wpS_ltG (i:=lo + k) (j:=lo + (l + r) / 2) h0 hB'.good (by exact o0 hn hkn) (by exact o544 hn hkn hrk hge) ?_)
    by_cases hless : K (arrOf st'') (lo + k) < K (arrOf st'') (lo + (l + r) / 2)
    ·simp only [hless,decide_true]
     refine wpS_pure ⟨rfl,l,(l + r) / 2,rfl,by exact o545 hge,by exact o546 hrk hge,by exact o547 hm,hlo,fun i h1 h2=>?_⟩
     exact Int.lt_of_lt_of_le hless (hs' _ _ (by exact o548) (by exact o549 h1) (by exact o50 h2))
    ·simp only [hless,decide_false]
     refine wpS_pure ⟨rfl,(l + r) / 2 + 1,r,rfl,by exact o550 hge,by exact o4 hrk,by exact o551 hm,fun i h1=>?_,hhi⟩
     exact Int.le_trans (hs' (lo + i) (lo + (l + r) / 2) (by exact o10) (by exact o552 h1) (by exact o553 hrk hge)) (Int.not_lt.mp hless)
  case ipost =>
   rintro c st'' hE11;refine bc fun g0=>?_;obtain ⟨rfl,l,r,rfl,hlk,hlo,hhi⟩:=hE11;refine g0 ?_;clear g0
   have hK2:=fun j=>K_bubble (xs:=arrOf st'') (src:=lo + k) (d:=lo + k - (lo + l)) hks (by exact o554) j
   refine wpS_bind (wpS_modify (wpS_pure ⟨rfl,hB'.trans ⟨⟨(bubble_perm _ _ _).trans hB'.good.perm,hB'.good.kind,hB'.good.failed⟩,rfl,fun j hj=>?_⟩,?_⟩))
   ·show K (bubble (arrOf st'') (lo + k) (lo + k - (lo + l))) j = _
    rw [hK2,if_neg (by exact o555 hj),if_neg (by exact o556 hj)]
   ·show SegS (bubble (arrOf st'') (lo + k) (lo + k - (lo + l))) lo (lo + (k + 1))
    intro i j hi hij hj
    rw [hK2,hK2,show lo + k - (lo + k - (lo + l)) = lo + l by exact o557 hlk]
    have lo2 : ∀ i,lo <= i -> i < lo + l -> K (arrOf st'') i <= K (arrOf st'') (lo + k):=fun i h1 h2=>by
     have:=hlo (i - lo) (by exact o28 h2 h1)
     rwa [show lo + (i - lo) = i by exact o6 h1] at this
    have hi2 : ∀ i,lo + l <= i -> i < lo + k -> K (arrOf st'') (lo + k) <= K (arrOf st'') i:=fun i h1 h2=>by
     have:=hhi (i - lo) (by exact o29 h1) (by exact o30 h1 h2)
     rw [show lo + (i - lo) = i by exact o31 h1] at this
     exact Int.le_of_lt this
    repeat' split
    all_goals first
     | (exfalso;(first | exact o559 hj (by assumption) hij (by assumption) (by assumption) | exact o560 (by assumption) (by assumption) hij | exact o563 (by assumption) hj hij (by assumption) | omega))
     | exact Int.le_refl _
     | exact lo2 _ (by exact o4 hi) (by (first | exact o564 (by assumption) hij (by assumption) | omega))
     | exact hi2 _ (by (first | exact o558 (by assumption) | omega)) (by (first | exact o85 (by assumption) | omega))
     | exact hs' _ _ (by (first | exact o561 (by assumption) | exact o4 hi | omega)) (by (first | exact o562 hij | exact o565 (by assumption) hij (by assumption) | exact o4 hij | omega)) (by (first | exact o85 (by assumption) | exact o566 hj hlk (by assumption) (by assumption) | omega))
end
end
section
noncomputable abbrev sortRunsP : SM Unit:=sortPriv% PySem.Builtin.sortRuns
noncomputable abbrev Run:=Nat × Nat × Nat
noncomputable def Chain : List Run -> Nat -> Nat -> Prop
 | [],a,b=>a = b
 | r :: l,a,b=>r.1 = a /\ 0 < r.2.1 /\ Chain l (a + r.2.1) b
theorem chain_app : ∀ {l l' : List Run} {a b : Nat},Chain (l ++ l') a b ↔ ∃ c,Chain l a c /\ Chain l' c b
 | [],l',a,b=>⟨fun h=>⟨a,rfl,h⟩,fun ⟨c,h1,h2⟩=>by cases h1;exact h2⟩
 | r :: l,l',a,b=>by
  show (r.1 = a /\ 0 < r.2.1 /\ Chain (l ++ l') (a + r.2.1) b) ↔ ∃ c,(r.1 = a /\ 0 < r.2.1 /\ Chain l (a + r.2.1) c) /\ Chain l' c b
  rw [chain_app (l:=l)]
  exact ⟨fun ⟨h1,h2,c,h3,h4⟩=>⟨c,⟨h1,h2,h3⟩,h4⟩,fun ⟨c,⟨h1,h2,h3⟩,h4⟩=>⟨h1,h2,c,h3,h4⟩⟩
theorem chain_le : ∀ {l : List Run} {a b : Nat},Chain l a b -> a + l.length <= b /\ ∀ r ∈ l,a <= r.1 /\ r.1 + r.2.1 <= b
 | [],a,b,h=>⟨Nat.le_of_eq h,fun r hr=>by cases hr⟩
 | r :: l,a,b,⟨h1,h2,h3⟩=>by
  have ih:=chain_le h3
  refine ⟨by rw [List.length_cons];exact o567 h2 ih,fun q hq=>?_⟩
  rcases List.mem_cons.mp hq with rfl | hq
  ·exact o568 ih h1
  ·have:=ih.2 q hq
   exact o569 this
structure RI (a₀ : Array Keyed) (lo : Nat) (st : SortSt) : Prop where
 good : SGd a₀ st
 chain : Chain (pendingOf st).toList 0 lo
 runs : ∀ r ∈ (pendingOf st).toList,SegS (arrOf st) r.1 (r.1 + r.2.1)
theorem two_of {l : List Run} {i : Nat} (h : i + 1 < l.length) : ∃ l1 x y l2,l = l1 ++ x :: y :: l2 /\ l1.length = i /\ l[i]? = some x /\ l[i + 1]? = some y:=by
 refine ⟨l.take i,l[i],l[i + 1],l.drop (i + 2),?_,by rw [List.length_take];exact o570 h,List.getElem?_eq_getElem (by exact o8 h),List.getElem?_eq_getElem h⟩
 rw [<- List.drop_eq_getElem_cons (by exact o571 h),<- List.drop_eq_getElem_cons (by exact o8 h),List.take_append_drop]
theorem two_merge {l1 l2 : List Run} {x y v : Run} : ((l1 ++ x :: y :: l2).set l1.length v).eraseIdx (l1.length + 1) = l1 ++ v :: l2:=by
 rw [List.set_append_right _ _ (Nat.le_refl _),Nat.sub_self,List.eraseIdx_append_of_length_le (by exact o74),show l1.length + 1 - l1.length = 1 by exact o137]
 rfl
section
variable {prog : Program} {w : World} {A : Around} {E : Value -> Shared -> Prop} {s : Shared} {a₀ : Array Keyed}
theorem wpS_mergeR {lo i : Nat} {st : SortSt} {Q : Bool -> SortSt -> Prop} (h0 : IntKeys a₀) (hR : RI a₀ lo st) (hlo : lo <= a₀.size) (hi : i + 1 < (pendingOf st).size)
  (h : ∀ st',RI a₀ lo st' -> (pendingOf st').size + 1 = (pendingOf st).size -> (∀ j,lo <= j -> K (arrOf st') j = K (arrOf st) j) -> Q true st') : wpS (model prog w) A E s (mergeAtP i) Q st:=by
 obtain ⟨l1,x,y,l2,el,hl1,gx,gy⟩:=two_of (l:=(pendingOf st).toList) (i:=i) (by simpa using hi)
 have ch:=hR.chain
 rw [el,chain_app] at ch
 obtain ⟨c,c1,hx1,hx2,hy1,hy2,c2⟩:=ch
 have k1:=chain_le c1
 have k2:=chain_le c2
 obtain ⟨sa,na,pa⟩:=x
 obtain ⟨sb,nb,pb⟩:=y
 dsimp only at hx1 hx2 hy1 hy2 c2 k2
 subst hx1
 refine wpS_mergeAt (sa:=sa) (na:=na) (pw:=pa) (sb:=sb) (nb:=nb) (pw2:=pb) h0 hR.good (by rw [<- Array.getElem?_toList];exact gx) (by rw [<- Array.getElem?_toList];exact gy) hy1 hx2 hy2 (by exact o172 k2 hy1 hlo)
  (by
   have:=hR.runs (sa,na,pa) (by rw [el];simp)
   rw [hy1];exact this) (hR.runs (sb,nb,pb) (by rw [el];simp)) fun st' g1 g2 g3 g4=>?_
 have e2 : (pendingOf st').toList = l1 ++ (sa,na + nb,pa) :: l2:=by
  rw [g2]
  rw [Array.toList_eraseIdxIfInBounds,Array.toList_setIfInBounds,el,<- hl1]
  exact two_merge
 refine h st' ⟨g1,?_,fun r hr=>?_⟩ ?_ fun j hj=>g4 j (.inr (by exact o172 k2 hy1 hj))
 ·rw [e2,chain_app]
  exact ⟨sa,c1,rfl,by dsimp only;exact o572 hy2,by
   dsimp only
   rw [show sa + (na + nb) = sa + na + nb by exact o573]
   exact c2⟩
 ·rw [e2] at hr
  rcases List.mem_append.mp hr with hr | hr
  ·have hb:=k1.2 r hr
   have ho:=hR.runs r (by rw [el];exact List.mem_append_left _ hr)
   intro p q p1 p2 p3
   rw [g4 p (.inl (by exact o173 hb p3 p2)),g4 q (.inl (by exact o174 hb p3))]
   exact ho p q p1 p2 p3
  ·rcases List.mem_cons.mp hr with rfl | hr
   ·dsimp only
    rw [show sa + (na + nb) = sb + nb by exact o574 hy1]
    exact g3
   ·have hb:=k2.2 r hr
    have ho:=hR.runs r (by rw [el];exact List.mem_append_right _ (List.mem_cons_of_mem _ (List.mem_cons_of_mem _ hr)))
    intro p q p1 p2 p3
    rw [g4 p (.inr (by exact o575 hb hy1 p1)),g4 q (.inr (by exact o576 hb hy1 p2 p1))]
    exact ho p q p1 p2 p3
 ·rw [<- Array.length_toList,<- Array.length_toList,e2,el]
  simp
  exact o577
theorem RI.push {lo n pw : Nat} {st : SortSt} (hR : RI a₀ lo st) (hn : 0 < n) (hs : SegS (arrOf st) lo (lo + n)) : RI a₀ (lo + n) (setPending st ((pendingOf st).push (lo,n,pw))):=by
 refine ⟨⟨hR.good.perm,hR.good.kind,hR.good.failed⟩,?_,fun r hr=>?_⟩
 ·show Chain ((pendingOf st).push (lo,n,pw)).toList 0 (lo + n)
  rw [Array.toList_push,chain_app]
  exact ⟨lo,hR.chain,rfl,hn,rfl⟩
 ·have hr : r ∈ ((pendingOf st).push (lo,n,pw)).toList:=hr
  rw [Array.toList_push] at hr
  rcases List.mem_append.mp hr with hr | hr
  ·exact hR.runs r hr
  ·obtain rfl : r = (lo,n,pw):=by simpa using hr
   exact hs
theorem chain_map : ∀ {l l' : List Run} {a b : Nat},l'.map (fun r=>(r.1,r.2.1)) = l.map (fun r=>(r.1,r.2.1)) -> Chain l a b -> Chain l' a b
 | [],[],_,_,_,h=>h
 | [],_ :: _,_,_,e,_=>by simp at e
 | _ :: _,[],_,_,e,_=>by simp at e
 | r :: l,r' :: l',a,b,e,⟨h1,h2,h3⟩=>by
  simp only [List.map_cons,List.cons.injEq,Prod.mk.injEq] at e
  obtain ⟨⟨e1,e2⟩,e3⟩:=e
  exact ⟨e1.trans h1,by rw [e2];exact h2,by rw [e2];exact chain_map e3 h3⟩
theorem modify_map (p : Array Run) (i pw : Nat) : (p.modify i fun x=>(x.1,x.2.1,pw)).toList.map (fun r=>(r.1,r.2.1)) = p.toList.map (fun r=>(r.1,r.2.1)):=by
 apply List.ext_getElem?
 intro j
 simp only [List.getElem?_map,Array.getElem?_toList,Array.getElem?_modify]
 by_cases h : i = j
 ·subst h
  simp only [if_true,Option.map_map]
  cases p[i]? <;> rfl
 ·simp only [h,if_false]
theorem RI.pow {lo i pw : Nat} {st : SortSt} (hR : RI a₀ lo st) : RI a₀ lo (setPending st ((pendingOf st).modify i fun x=>(x.1,x.2.1,pw))):=by
 have e:=modify_map (pendingOf st) i pw
 refine ⟨⟨hR.good.perm,hR.good.kind,hR.good.failed⟩,chain_map e hR.chain,fun r hr=>?_⟩
 have hr : r ∈ ((pendingOf st).modify i fun x=>(x.1,x.2.1,pw)).toList:=hr
 have hm : (r.1,r.2.1) ∈ (pendingOf st).toList.map (fun r=>(r.1,r.2.1)):=by
  rw [<- e]
  exact List.mem_map.mpr ⟨r,hr,rfl⟩
 obtain ⟨r',hr',e'⟩:=List.mem_map.mp hm
 have:=hR.runs r' hr'
 simp only [Prod.mk.injEq] at e'
 rw [e'.1,e'.2] at this
 exact this
theorem Frm.ri {lo : Nat} {st st' : SortSt} (h : Frm a₀ lo st st') (hR : RI a₀ lo st) : RI a₀ lo st':=by
 refine ⟨h.good,by rw [h.pend];exact hR.chain,fun r hr=>?_⟩
 rw [h.pend] at hr
 have hb:=(chain_le hR.chain).2 r hr
 intro p q p1 p2 p3
 rw [h.old p (by exact o173 hb p3 p2),h.old q (by exact o174 hb p3)]
 exact hR.runs r hr p q p1 p2 p3
theorem wpS_sortG {st : SortSt} {Q : Unit -> SortSt -> Prop} (h0 : IntKeys a₀) (hN : (a₀.toList.map kN).Nodup) (hG : SGd a₀ st) (hp : pendingOf st = #[])
  (h : ∀ st',SGd a₀ st' -> SegS (arrOf st') 0 a₀.size -> Q () st') : wpS (model prog w) A E s sortRunsP Q st:=by
 have hz:=hG.size
 have hz2 : ((sortPriv% PySem.Builtin.SortState.a) st).size = a₀.size:=hG.size
 refine wpS_bind (wpS_get ?_)
 refine wpS_bind (wpS_mono (wpS_range0 (fun x c st'=>∃ lo,c = (none,lo) /\ RI a₀ lo st' /\ lo <= a₀.size /\ x <= lo) (Q:=fun c st'=>c = (none,a₀.size) /\ RI a₀ a₀.size st')
  ⟨0,rfl,⟨hG,by rw [hp];rfl,fun r hr=>by rw [hp] at hr;simp at hr⟩,Nat.zero_le _,Nat.zero_le _⟩ ?step ?fin) ?post)
 case fin =>
  rintro c st' ⟨lo,rfl,hR,l1,l2⟩
  obtain rfl : lo = a₀.size:=by exact o578 hz2 l2 l1
  exact ⟨rfl,hR⟩
 case post =>
  rintro c st' ⟨rfl,hR⟩
  refine wpS_bind (wpS_mono (wpS_range0 (fun x c st'=>c = (none,()) /\ RI a₀ a₀.size st' /\ (pendingOf st').size <= max 1 (a₀.size - x)) (Q:=fun c st'=>c = (none,()) /\ RI a₀ a₀.size st' /\ (pendingOf st').size <= 1)
   ⟨rfl,hR,by have:=(chain_le hR.chain).1;rw [Array.length_toList] at this;exact o579 this⟩ ?step2 ?fin2) ?post2)
  case fin2 =>
   rintro c st' ⟨rfl,hR,l1⟩
   exact ⟨rfl,hR,by exact o580 hz2 l1⟩
  case step2 =>
   rintro x c st2 hx ⟨rfl,hR,l1⟩
   refine wpS_bind (wpS_get ?_)
   refine wpS_ite (c:=(pendingOf st2).size <= 1) (fun hle=>wpS_pure ⟨rfl,hR,hle⟩) fun hgt=>?_
   have hpe : (pendingOf st2).size = ((sortPriv% PySem.Builtin.SortState.pending) st2).size:=rfl
   refine wpS_bind (wpS_mergeR h0 hR (Nat.le_refl _) ?_ fun st3 r1 r2 _=>?_)
   ·have two : ∀ (c : Bool) (n : Nat),2 <= n -> (if c = true then n - 2 - 1 else n - 2) + 1 < n:=fun c n hn=>by
     cases c
     ·simp;exact o581 hn
     ·simp;exact o582 hn
    exact two _ _ (by exact o583 hgt)
   ·exact wpS_ite (c:=(!true) = true) (fun q=>by simp at q) fun _=>wpS_pure ⟨rfl,r1,by exact o584 r2 l1⟩
  case post2 =>
   rintro c st' ⟨rfl,hR,l1⟩
   refine wpS_pure (h st' hR.good ?_)
   have ch:=hR.chain
   have rs:=hR.runs
   have hl : (pendingOf st').toList.length <= 1:=by rw [Array.length_toList];exact l1
   generalize (pendingOf st').toList = l at ch rs hl
   match l,ch,rs,hl with
   | [],ch,_,_ =>
    intro p q _ _ p3
    have : 0 = a₀.size:=ch
    exact (o585 this p3).elim
   | [r],⟨c1,c2,c3⟩,rs,_ =>
    have:=rs r (by simp)
    have c3 : 0 + r.2.1 = a₀.size:=c3
    rw [c1,c3] at this
    exact this
   | _ :: _ :: _,_,_,hl=>simp at hl
 case step =>
  rintro x c st1 hx ⟨lo,rfl,hR,hlo,hxl⟩
  dsimp only
  refine wpS_ite (c:=lo >= (arrOf st).size) (fun hge=>?_) fun hge=>?_
  ·obtain rfl : lo = a₀.size:=by exact o586 hz2 hlo hge
   exact wpS_pure ⟨rfl,hR⟩
  refine wpS_bind (wpS_countRunG (lo:=lo) (nrem:=(arrOf st).size - lo) h0 hN hR.good (by exact o587 hge) (by exact o588 hz2 hge) fun m st2 hF m1 m2 ms=>?_)
  have hR2:=hF.ri hR
  dsimp only
  refine wpS_ite (fun hlt=>?_) fun hlt=>?_
  ·refine wpS_bind (wpS_lift (wpAny_rule ⟨rfl,?_⟩))
   refine wpS_bind (wpS_binG (lo:=lo) h0 hR2.good (by exact o589 hz2 hge) (by exact o590 hlt m2) m1 ms fun st3 hF3 hs3=>?_)
   have hR3:=hF3.ri hR2
   refine wpS_ite (c:=(!true) = true) (fun q=>by simp at q) fun _=>?_
   generalize hn : min (((sortPriv% PySem.Builtin.SortState.a) st).size - lo) ((sortPriv% PySem.Builtin.minRun) ((sortPriv% PySem.Builtin.SortState.a) st).size ((sortPriv% PySem.Builtin.SortState.a) st).size 0) = n at hs3 ⊢
   have n1 : 0 < n:=by exact o591 hlt hn hge
   have n2 : lo + n <= a₀.size:=by exact o592 hz2 hn hge
   refine wpS_bind (wpS_get ?_)
   cases hb : (pendingOf st3).back? with
   | none =>
    dsimp only
    exact wpS_bind (wpS_modify (wpS_pure ⟨_,rfl,hR3.push n1 hs3,n2,by exact o175 n1 hxl⟩))
   | some r =>
    obtain ⟨s1,k1,p1⟩:=r
    dsimp only
    refine wpS_bind (wpS_mono (wpS_range0 (fun y c st'=>c = (none,()) /\ RI a₀ lo st' /\ SegS (arrOf st') lo (lo + n)) (Q:=fun c st'=>c = (none,()) /\ RI a₀ lo st' /\ SegS (arrOf st') lo (lo + n)) ⟨rfl,hR3,hs3⟩ ?_ (fun _ _ h=>h)) ?_)
    ·rintro y c st4 hy ⟨rfl,hR4,hs4⟩
     refine wpS_bind (wpS_get ?_)
     split
     ·rename_i heq
      refine wpS_ite (fun _=>wpS_pure ⟨rfl,hR4,hs4⟩) fun _=>?_
      have hsz : (pendingOf st4).size > 1:=by
       by_cases hq : (pendingOf st4).size > 1
       ·exact hq
       ·rw [if_neg hq] at heq
        cases heq
      have hpe : (pendingOf st4).size = ((sortPriv% PySem.Builtin.SortState.pending) st4).size:=rfl
      refine wpS_bind (wpS_mergeR h0 hR4 hlo (by exact o176 hsz) fun st5 r1 r2 r3=>?_)
      refine wpS_ite (c:=(!true) = true) (fun q=>by simp at q) fun _=>wpS_pure ⟨rfl,r1,fun p q p1 p2 p3=>?_⟩
      rw [r3 p (by exact o4 p1),r3 q (by exact o81 p2 p1)]
      exact hs4 p q p1 p2 p3
     ·exact wpS_pure ⟨rfl,hR4,hs4⟩
    ·rintro c st4 ⟨rfl,hR4,hs4⟩
     dsimp only
     exact wpS_bind (wpS_modify (wpS_bind (wpS_modify (wpS_pure ⟨_,rfl,(hR4.pow).push n1 hs4,n2,by exact o175 n1 hxl⟩))))
  ·have st3e : st2 = st2:=rfl
   have hR3:=hR2
   have hs3:=ms
   have n1 : 0 < m:=by exact o593 m1
   have n2 : lo + m <= a₀.size:=by exact o594 hz2 m2 hge
   refine wpS_bind (wpS_get ?_)
   cases hb : (pendingOf st2).back? with
   | none =>
    dsimp only
    exact wpS_bind (wpS_modify (wpS_pure ⟨_,rfl,hR3.push n1 hs3,n2,by exact o177 m1 hxl⟩))
   | some r =>
    obtain ⟨s1,k1,p1⟩:=r
    dsimp only
    refine wpS_bind (wpS_mono (wpS_range0 (fun y c st'=>c = (none,()) /\ RI a₀ lo st' /\ SegS (arrOf st') lo (lo + m)) (Q:=fun c st'=>c = (none,()) /\ RI a₀ lo st' /\ SegS (arrOf st') lo (lo + m)) ⟨rfl,hR3,hs3⟩ ?_ (fun _ _ h=>h)) ?_)
    ·rintro y c st4 hy ⟨rfl,hR4,hs4⟩
     refine wpS_bind (wpS_get ?_)
     split
     ·rename_i heq
      refine wpS_ite (fun _=>wpS_pure ⟨rfl,hR4,hs4⟩) fun _=>?_
      have hsz : (pendingOf st4).size > 1:=by
       by_cases hq : (pendingOf st4).size > 1
       ·exact hq
       ·rw [if_neg hq] at heq
        cases heq
      have hpe : (pendingOf st4).size = ((sortPriv% PySem.Builtin.SortState.pending) st4).size:=rfl
      refine wpS_bind (wpS_mergeR h0 hR4 hlo (by exact o176 hsz) fun st5 r1 r2 r3=>?_)
      refine wpS_ite (c:=(!true) = true) (fun q=>by simp at q) fun _=>wpS_pure ⟨rfl,r1,fun p q p1 p2 p3=>?_⟩
      rw [r3 p (by exact o4 p1),r3 q (by exact o81 p2 p1)]
      exact hs4 p q p1 p2 p3
     ·exact wpS_pure ⟨rfl,hR4,hs4⟩
    ·rintro c st4 ⟨rfl,hR4,hs4⟩
     dsimp only
     exact wpS_bind (wpS_modify (wpS_bind (wpS_modify (wpS_pure ⟨_,rfl,(hR4.pow).push n1 hs4,n2,by exact o177 m1 hxl⟩))))
end
end
end Mine.Internal
end
section
open PySem
namespace Mine.Internal
section
noncomputable def Asc (xs : Array Nat) : Prop:=∀ i j,i < j -> j < xs.size -> xs.getD i 0 < xs.getD j 0
theorem below_go (xs : Array Nat) (j : Nat) : ∀ (fuel lo hi : Nat),hi - lo <= fuel -> lo <= hi -> hi <= xs.size -> Asc xs -> (∀ i,i < lo -> xs.getD i 0 < j) -> (∀ i,hi <= i -> i < xs.size -> j <= xs.getD i 0) ->
  SetTable.below.go xs j fuel lo hi <= xs.size /\ (∀ i,i < SetTable.below.go xs j fuel lo hi -> xs.getD i 0 < j) /\ (∀ i,SetTable.below.go xs j fuel lo hi <= i -> i < xs.size -> j <= xs.getD i 0):=by
 intro fuel
 induction fuel with
 | zero =>
  intro lo hi h1 h2 h3 _ h4 h5
  have e : lo = hi:=by exact o324 h1 h2
  subst e
  exact ⟨h3,h4,h5⟩
 | succ fuel ih =>
  intro lo hi h1 h2 h3 asc h4 h5
  unfold SetTable.below.go
  by_cases h : lo < hi
  ·rw [if_pos h]
   have m1 : (lo + hi) / 2 < hi:=by exact o325 h
   have m2 : lo <= (lo + hi) / 2:=by exact o326 h
   have m3 : (lo + hi) / 2 < xs.size:=by exact o327 m1 h3
   have eD : xs.getD ((lo + hi) / 2) j = xs.getD ((lo + hi) / 2) 0:=by
    simp [Array.getD,m3]
   dsimp only
   rw [eD]
   by_cases hm : xs.getD ((lo + hi) / 2) 0 < j
   ·rw [if_pos hm]
    refine ih _ _ (by exact o328 h1) (by exact o329 m1) h3 asc (fun i hi'=>?_) h5
    rcases Nat.lt_or_ge i ((lo + hi) / 2) with h6 | h6
    ·exact Nat.lt_trans (asc i _ h6 m3) hm
    ·have : i = (lo + hi) / 2:=by exact o330 hi' h6
     rw [this];exact hm
   ·rw [if_neg hm]
    refine ih _ _ (by exact o331 h1) (by exact o332 m2) (by exact o333 m3) asc h4 (fun i h6 h7=>?_)
    rcases Nat.lt_or_ge ((lo + hi) / 2) i with h8 | h8
    ·exact Nat.le_of_lt (Nat.lt_of_le_of_lt (Nat.not_lt.mp hm) (asc _ i h8 h7))
    ·have : i = (lo + hi) / 2:=by exact o334 h6 h8
     rw [this];exact Nat.not_lt.mp hm
  ·rw [if_neg h]
   have e : lo = hi:=by exact o335 h2 h
   subst e
   exact ⟨h3,h4,h5⟩
theorem below_spec (xs : Array Nat) (j : Nat) (asc : Asc xs) : SetTable.below xs j <= xs.size /\ (∀ i,i < SetTable.below xs j -> xs.getD i 0 < j) /\ (∀ i,SetTable.below xs j <= i -> i < xs.size -> j <= xs.getD i 0) :=
 below_go xs j xs.size 0 xs.size (by exact o336) (Nat.zero_le _) (Nat.le_refl _) asc (fun i hi=>absurd hi (Nat.not_lt_zero _)) fun i h1 h2=>absurd h2 (by exact (o18 h2 h1).elim)
theorem below_next (xs : Array Nat) (asc : Asc xs) (i : Nat) (hi : i < xs.size) : SetTable.below xs (xs.getD i 0 + 1) = i + 1:=by
 obtain ⟨h1,h2,h3⟩:=below_spec xs (xs.getD i 0 + 1) asc
 rcases Nat.lt_trichotomy (SetTable.below xs (xs.getD i 0 + 1)) (i + 1) with h | h | h
 ·have:=h3 i (by exact o337 h) hi
  exact (o338 this).elim
 ·exact h
 ·have h4:=h2 (i + 1) h
  have h5:=asc i (i + 1) (Nat.lt_succ_self _) (by exact o339 h h1)
  exact (o340 h5 h4).elim
theorem below_first (xs : Array Nat) (asc : Asc xs) : SetTable.below xs 0 = 0:=by
 obtain ⟨h1,h2,h3⟩:=below_spec xs 0 asc
 rcases Nat.eq_zero_or_pos (SetTable.below xs 0) with h | h
 ·exact h
 ·exact absurd (h2 0 h) (Nat.not_lt_zero _)
theorem insertAt_size {α : Type} (xs : Array α) (p : Nat) (x : α) (hp : p <= xs.size) : (SetTable.insertAt xs p x).size = xs.size + 1:=by
 unfold SetTable.insertAt
 rw [Array.size_append,Array.size_push,Array.size_extract,Array.size_extract]
 exact o341
theorem insertAt_get? {α : Type} (xs : Array α) (p : Nat) (x : α) (hp : p <= xs.size) (i : Nat) : (SetTable.insertAt xs p x)[i]? = if i < p then xs[i]? else if i = p then some x else xs[i - 1]?:=by
 unfold SetTable.insertAt
 have hs : ((xs.extract 0 p).push x).size = p + 1:=by rw [Array.size_push,Array.size_extract];exact o342 hp
 rw [Array.getElem?_append]
 by_cases h1 : i < p
 ·rw [if_pos (by exact o343 h1 hs),if_pos h1,Array.getElem?_push,if_neg (by rw [Array.size_extract];exact o344 h1 hp),Array.getElem?_extract]
  rw [if_pos (by exact o345 h1 hp)]
  simp
 ·rw [if_neg h1]
  by_cases h2 : i = p
  ·rw [if_pos (by exact o346 h2 hs),if_pos h2,Array.getElem?_push,if_pos (by rw [Array.size_extract];exact o347 h2 hp)]
  ·rw [if_neg (by exact o348 hs h1 h2),if_neg h2,hs,Array.getElem?_extract]
   by_cases h3 : i - 1 < xs.size
   ·rw [if_pos (by exact o349 h3 h1 h2)]
    congr 1
    exact o350 h1 h2
   ·rw [if_neg (by exact o351 h3),Array.getElem?_eq_none (by exact o352 h3)]
theorem getD_get? (xs : Array Nat) (i : Nat) : xs.getD i 0 = (xs[i]?).getD 0:=by simp [Array.getD_eq_getD_getElem?]
theorem asc_insert (xs : Array Nat) (j : Nat) (asc : Asc xs) (hj : ∀ i,i < xs.size -> xs.getD i 0 ≠ j) : Asc (SetTable.insertAt xs (SetTable.below xs j) j):=by
 obtain ⟨h1,h2,h3⟩:=below_spec xs j asc
 have h4 : ∀ i,SetTable.below xs j <= i -> i < xs.size -> j < xs.getD i 0:=fun i a b=>Nat.lt_of_le_of_ne (h3 i a b) (Ne.symm (hj i b))
 generalize SetTable.below xs j = p at *
 have g : ∀ i,(SetTable.insertAt xs p j).getD i 0 = if i < p then xs.getD i 0 else if i = p then j else xs.getD (i - 1) 0:=fun i=>by
  rw [getD_get?,insertAt_get? xs p j h1]
  split
  ·rw [getD_get?]
  ·split
   ·rfl
   ·rw [getD_get?]
 intro a b hab hb
 rw [insertAt_size xs p j h1] at hb
 rw [g,g]
 by_cases a1 : a < p
 ·rw [if_pos a1]
  by_cases b1 : b < p
  ·rw [if_pos b1];exact asc a b hab (by exact o353 b1 h1)
  ·rw [if_neg b1]
   by_cases b2 : b = p
   ·rw [if_pos b2];exact h2 a a1
   ·rw [if_neg b2];exact Nat.lt_trans (h2 a a1) (h4 (b - 1) (by exact o354 b1 b2) (by exact o63 hab hb))
 ·rw [if_neg a1]
  by_cases a2 : a = p
  ·rw [if_pos a2,if_neg (by exact o355 hab a2),if_neg (by exact o356 hab a2)];exact h4 (b - 1) (by exact o357 hab a2) (by exact o63 hab hb)
  ·rw [if_neg a2,if_neg (by exact o358 hab a1),if_neg (by exact o359 hab a1)];exact asc (a - 1) (b - 1) (by exact o360 hab a1 a2) (by exact o63 hab hb)
theorem asc_of_pairwise {l : List Nat} (h : l.Pairwise (· < ·)) : Asc l.toArray:=by
 intro a b hab hb
 have hb' : b < l.length:=by simpa using hb
 have ea : l.toArray.getD a 0 = l[a]'(by exact o39 hb' hab):=by rw [getD_get?];simp [List.getElem?_eq_getElem (show a < l.length by exact o39 hb' hab)]
 have eb : l.toArray.getD b 0 = l[b]'hb':=by rw [getD_get?];simp [List.getElem?_eq_getElem hb']
 rw [ea,eb]
 exact List.pairwise_iff_getElem.mp h a b (by exact o39 hb' hab) hb' hab
theorem live_fst {β : Type} (f : Nat -> Option β) : ∀ l : List Nat,(l.filterMap fun j=>(f j).map (j,·)).map (·.1) = l.filter fun j=>(f j).isSome
 | []=>rfl
 | x :: l=>by
  cases h : f x with
  | none=>simp [h,live_fst f l]
  | some b=>simp [h,live_fst f l]
theorem asc_laid {mask finger moves : Nat} {led plain : Bool} {hashes : Array Int} {t : SetTable} {o : Array Nat} (h : SetTable.laid mask finger moves led plain hashes = some (t,o)) : Asc t.place /\ t.led = led /\ t.plain = plain:=by
 unfold SetTable.laid at h
 cases hc : SetTable.layClean mask hashes with
 | none=>rw [hc] at h;cases h
 | some owner =>
  rw [hc] at h
  cases h
  refine ⟨?_,rfl,rfl⟩
  refine asc_of_pairwise ?_
  rw [live_fst (fun j=>owner.getD j none)]
  exact (List.pairwise_lt_range).filter _
theorem below_at (xs : Array Nat) (asc : Asc xs) (i : Nat) (hi : i < xs.size) : SetTable.below xs (xs.getD i 0) = i:=by
 obtain ⟨h1,h2,h3⟩:=below_spec xs (xs.getD i 0) asc
 rcases Nat.lt_trichotomy (SetTable.below xs (xs.getD i 0)) i with h | h | h
 ·have h4:=h3 _ (Nat.le_refl _) (by exact o107 h hi)
  have h5:=asc _ i h hi
  exact (o18 h5 h4).elim
 ·exact h
 ·exact absurd (h2 i h) (Nat.lt_irrefl _)
theorem slot_free {t : SetTable} {j : Nat} (asc : Asc t.place) (h : t.slot j = .empty) : ∀ i,i < t.place.size -> t.place.getD i 0 ≠ j:=by
 intro i hi e
 unfold SetTable.slot at h
 have hb:=below_at t.place asc i hi
 rw [e] at hb
 have he : t.place[i]? = some j:=by
  rw [getD_get?] at e
  rw [Array.getElem?_eq_getElem hi] at e ⊢
  exact congrArg some e
 simp only [hb,he,beq_self_eq_true,if_true] at h
 cases h
theorem probe_go {t : SetTable} (hd : t.dummies = #[]) (hashAt : Nat -> Int) (h : Int) : ∀ (fuel : Nat) (p : SetTable.Probe) (j : Nat) (d : Option Nat),p.dummy = none -> SetTable.probe.go t hashAt h fuel p = some (.empty j d) -> t.slot j = .empty /\ d = none:=by
 have adv : ∀ p : SetTable.Probe,p.dummy = none -> (t.advance p).dummy = none:=fun p hp=>by
  unfold SetTable.advance
  split
  ·exact hp
  ·exact hp
 have nod : ∀ j,t.slot j ≠ .dummy:=fun j e=>by
  unfold SetTable.slot at e
  rw [hd] at e
  simp only [SetTable.has] at e
  split at e
  ·cases e
  ·simp at e
 intro fuel
 induction fuel with
 | zero=>intro p j d _ he;unfold SetTable.probe.go at he;cases he
 | succ fuel ih =>
  intro p j d hp he
  unfold SetTable.probe.go at he
  cases hs : t.slot p.j with
  | empty =>
   rw [hs] at he
   cases he
   exact ⟨hs,hp⟩
  | dummy=>exact absurd hs (nod _)
  | live i =>
   rw [hs] at he
   dsimp only at he
   split at he
   ·cases he
   ·exact ih _ _ _ (adv p hp) he
theorem freeSlot_spec {t : SetTable} (hd : t.dummies = #[]) {h : Int} {j : Nat} {b : Bool} (he : t.freeSlot h = some (j,b)) : t.slot j = .empty /\ b = false:=by
 unfold SetTable.freeSlot at he
 split at he
 ·rename_i j' d hp
  obtain ⟨h1,h2⟩:=probe_go hd _ _ _ _ _ _ (show (t.probeStart h).dummy = none from rfl) hp
  subst h2
  cases he
  exact ⟨h1,rfl⟩
 ·cases he
end
section
structure SInv (led : Bool) (es : Array (Int × Value)) (t : SetTable) : Prop where
 led : t.led = led
 dum : t.dummies = #[]
 size : t.place.size = es.size
 asc : Asc t.place
theorem asc_range (n : Nat) : Asc (Array.range n):=by
 intro a b hab hb
 rw [Array.size_range] at hb
 rw [getD_get?,getD_get?,Array.getElem?_eq_getElem (by rw [Array.size_range];exact o39 hb hab),Array.getElem?_eq_getElem (by rw [Array.size_range];exact hb)]
 simpa using hab
theorem standIn_inv {led : Bool} {es : Array (Int × Value)} {t : SetTable} {n : Nat} (h : t.led = led) (hn : n = es.size) : SInv led es (t.standIn n):=by
 subst hn
 exact ⟨h,rfl,by simp [SetTable.standIn],asc_range _⟩
theorem insertAt_perm {α : Type} (xs : Array α) (p : Nat) (x : α) (hp : p <= xs.size) : (SetTable.insertAt xs p x).toList.Perm (x :: xs.toList):=by
 unfold SetTable.insertAt
 have e : ((xs.extract 0 p).push x ++ xs.extract p xs.size).toList = xs.toList.take p ++ x :: xs.toList.drop p:=by
  simp [Array.toList_extract,List.extract,List.take_of_length_le]
 rw [e]
 refine (List.perm_middle).trans ?_
 rw [List.take_append_drop]
theorem range_get {α : Type} : ∀ l : List α,(List.range l.length).filterMap (fun i=>l[i]?) = l
 | []=>rfl
 | x :: l=>by
  rw [List.length_cons,List.range_succ_eq_map,List.filterMap_cons]
  simp only [List.getElem?_cons_zero,List.filterMap_map]
  have e : (fun i=>(x :: l)[i]?) ∘ Nat.succ = fun i=>l[i]?:=by
   funext i
   simp
  rw [e,range_get l]
theorem layNew_inv {led : Bool} {es : Array (Int × Value)} {t : SetTable} (I : SInv led es t) (h : Int) (x : Value) : SInv led (layNew t es h x).1 (layNew t es h x).2.1 /\ (layNew t es h x).1.toList.Perm ((h,x) :: es.toList):=by
 unfold layNew
 cases hf : t.freeSlot h with
 | none =>
  dsimp only
  refine ⟨standIn_inv I.led (by simp),?_⟩
  rw [Array.toList_push]
  exact List.perm_append_singleton _ _
 | some q =>
  obtain ⟨slot,b⟩:=q
  obtain ⟨h1,h2⟩:=freeSlot_spec I.dum hf
  dsimp only
  have hp : SetTable.below t.place slot <= es.size:=I.size ▸ (below_spec t.place slot I.asc).1
  have e2 : (t.put slot).2 = SetTable.below t.place slot:=rfl
  rw [e2]
  refine ⟨?_,insertAt_perm _ _ _ hp⟩
  unfold SetTable.orStandIn
  split
  ·refine ⟨I.led,?_,?_,asc_insert _ _ I.asc (slot_free I.asc h1)⟩
   ·show (if SetTable.has t.dummies slot then _ else t.dummies) = #[]
    rw [I.dum]
    simp [SetTable.has]
   ·show (SetTable.insertAt t.place (SetTable.below t.place slot) slot).size = _
    rw [insertAt_size _ _ _ (below_spec t.place slot I.asc).1,insertAt_size _ _ _ hp,I.size]
  ·exact standIn_inv I.led rfl
theorem relayAll_inv {led : Bool} {es : Array (Int × Value)} {t : SetTable} (I : SInv led es t) (n : Nat) : SInv led (relayAll t es n).1 (relayAll t es n).2.1 /\ (relayAll t es n).1.toList.Perm es.toList:=by
 unfold relayAll
 cases hr : t.relaid (es.map (·.1)) n with
 | none=>exact ⟨standIn_inv I.led rfl,.refl _⟩
 | some q =>
  obtain ⟨t',o⟩:=q
  dsimp only
  split
  ·rename_i hc
   rw [Bool.and_eq_true] at hc
   unfold SetTable.relaid at hr
   obtain ⟨a1,a2,a3⟩:=asc_laid hr
   refine ⟨⟨a2.trans I.led,?_,?_,a1⟩,?_⟩
   ·unfold SetTable.laid at hr
    cases hc2 : SetTable.layClean (SetTable.sizeAbove n - 1) (es.map (·.1)) with
    | none=>rw [hc2] at hr;cases hr
    | some ow=>rw [hc2] at hr;cases hr;rfl
   ·have:=hc.2
    unfold SetTable.fits at this
    rw [Bool.and_eq_true] at this
    exact beq_iff_eq.mp this.1
   ·have hp : o.toList.Perm (List.range es.size):=List.isPerm_iff.mp hc.1
    rw [Array.toList_filterMap]
    refine (hp.filterMap _).trans ?_
    have e : (List.range es.size).filterMap (fun i=>es[i]?) = es.toList:=by
     have q:=range_get es.toList
     rw [Array.length_toList] at q
     simpa using q
    rw [e]
  ·exact ⟨standIn_inv I.led rfl,.refl _⟩
theorem erase_perm {α : Type} : ∀ (l : List α) (i : Nat) (h : i < l.length),(l[i] :: l.eraseIdx i).Perm l
 | [],i,h=>by simp at h
 | x :: l,0,_=>.refl _
 | x :: l,i + 1,h=>by
  have ih:=erase_perm l i (by simpa using h)
  simp only [List.getElem_cons_succ,List.eraseIdx_cons_succ]
  exact (List.Perm.swap ..).trans (ih.cons x)
theorem pick_go {α : Type} (next : Nat -> Nat) : ∀ (fuel k : Nat) (left : List α) (out : Array α),left.length = fuel -> (pickOrder.go next fuel k left out).toList.Perm (out.toList ++ left):=by
 intro fuel
 induction fuel with
 | zero =>
  intro k left out h
  rw [List.eq_nil_of_length_eq_zero h,List.append_nil]
  exact .refl _
 | succ fuel ih =>
  intro k left out h
  have hi : next k % left.length < left.length:=Nat.mod_lt _ (by exact o361 h)
  unfold pickOrder.go
  rw [List.getElem?_eq_getElem hi]
  dsimp only
  refine (ih _ _ _ (by rw [List.length_eraseIdx_of_lt hi];exact o108 h)).trans ?_
  rw [Array.toList_push,List.append_assoc]
  exact List.Perm.append_left _ (erase_perm left _ hi)
theorem pick_perm {α : Type} (next : Nat -> Nat) (xs : Array α) : (pickOrder next xs).toList.Perm xs.toList:=by
 have:=pick_go next xs.size 0 xs.toList #[] (by simp)
 unfold pickOrder
 simpa using this
end
section
section
variable {M : Model} {A : Around} {E : Value -> Shared -> Prop} {s : Shared}
theorem wpAny_choose {src : Source} {n : Nat} {Q : Nat -> Shared -> Prop} (hn : n ≠ 0) (h : ∀ i,i < n -> Q i { s with drawn:=s.drawn.bump src }) : wpAny M A (choose src n) Q E s:=fun Γ p _=>by
 unfold choose
 rw [Sem.wp_choose]
 exact ⟨hn,h _ (Nat.mod_lt _ (Nat.pos_of_ne_zero hn))⟩
theorem wpAny_drawOrder {α : Type} : ∀ (n : Nat) (xs : List α) (s : Shared) (Q : List α -> Shared -> Prop),xs.length = n -> (∀ ys dr,ys.Perm xs -> Q ys { s with drawn:=dr }) -> wpAny M A (drawOrder n xs) Q E s
 | 0,xs,s,Q,hl,h=>by
  have e : xs = []:=List.eq_nil_of_length_eq_zero hl
  subst e
  exact wpAny_pure (h [] s.drawn (.refl _))
 | n + 1,[],s,Q,hl,h=>by simp at hl
 | n + 1,x :: xs,s,Q,hl,h=>by
  unfold drawOrder
  refine wpAny_bind (wpAny_choose (by simp) fun i hi=>?_)
  rw [List.getElem?_eq_getElem hi]
  dsimp only
  refine wpAny_bind (wpAny_drawOrder n _ _ _ (by rw [List.length_eraseIdx_of_lt hi];exact o108 hl) fun ys dr hp=>?_)
  exact wpAny_pure (h _ dr ((hp.cons _).trans (erase_perm _ i hi)))
end
end
section
open PyProof.Rows
section
variable {prog : Program} {w : World} {A : Around} {E : Value -> Shared -> Prop} {s : Shared}
theorem wpAny_setsByText {Q : Bool -> Shared -> Prop} (h : Q (w.params.followText "set-order") s) : wpAny (model prog w) A setsByText Q E s:=by
 unfold setsByText
 exact wpAny_bind (wpAny_askSetting (wpAny_pure h))
noncomputable def SetI (prog : Program) (w : World) (o : Obj) (S : Int -> Bool) (n : Nat) : Prop :=
 o.ExactSet /\ ∃ es ep t,o.data = .set es ep t /\ SInv (!w.params.followText "set-order") es t /\ t.fits es.size = true /\ ElemsOf (intKind prog w) es.toList /\ (∀ k,S k = true ↔ ∃ e ∈ es.toList,(intKind prog w).is k e.2 = true) /\ es.size = n /\
  es.toList.Pairwise fun e e'=>∀ k,(intKind prog w).is k e.2 = true -> (intKind prog w).is k e'.2 = true -> False
theorem SetI.obj {prog : Program} {w : World} {o : Obj} {S : Int -> Bool} {n : Nat} (h : SetI prog w o S n) : o.SetObjOf (intKind prog w) S n:=by
 obtain ⟨hex,es,ep,t,hd,_,hf,hel,hm,hn,_⟩:=h
 exact ⟨hex,es,ep,t,hd,hel,hm,hn,hf⟩
theorem newSetI {Q : Value -> Shared -> Prop} (h : ∀ o,SetI prog w o (fun _=>false) 0 -> Q (.ref s.heap.objs.size) { s with heap:=s.heap.push o }) : wpAny (model prog w) A (newSet (.type "set")) Q E s:=by
 unfold newSet
 refine wpAny_bind (wpAny_setsByText ?_)
 dsimp only
 simp only [newObj]
 refine wpAny_bind (wpAny_alloc (wpAny_pure (h _ ⟨⟨rfl,rfl,rfl⟩,#[],0,_,rfl,⟨rfl,rfl,rfl,?_⟩,rfl,fun e he=>by simp at he,fun k=>by simp,rfl,List.Pairwise.nil⟩)))
 intro a b _ hb
 exact absurd hb (by simp [SetTable.fresh])
end
end
section
open PyProof.Rows
section
variable {prog : Program} {w : World} {A : Around} {E : Value -> Shared -> Prop} {s : Shared} {a : Addr} {o : Obj} {S : Int -> Bool} {n : Nat} {k : Int} {x : Value}
theorem putSet_get {h : Heap} {es es' : Array (Int × Value)} {ep : Nat} {t t' : SetTable} (ho : h.get? a = some o) (hd : o.data = .set es ep t) : (h.update a (Obj.putSet es' t')).get? a = some { o with data:=.set es' (ep + 1) t' }:=by
 have:=Heap.get?_update_self (Obj.putSet es' t') ho (by rw [putSet_of es' t' hd];rfl)
 rw [putSet_of es' t' hd] at this
 exact this
noncomputable def ApartI (prog : Program) (w : World) (l : List (Int × Value)) : Prop:=l.Pairwise fun e e'=>∀ k,(intKind prog w).is k e.2 = true -> (intKind prog w).is k e'.2 = true -> False
theorem apart_perm {l l' : List (Int × Value)} (hp : l'.Perm l) (h : ApartI prog w l) : ApartI prog w l' :=
 (hp.pairwise_iff fun {_ _} h k h1 h2=>h k h2 h1).mpr h
theorem SInv.notPlain {led : Bool} {es : Array (Int × Value)} {t : SetTable} (I : SInv led es t) : SInv led es { t with plain:=false }:=⟨I.led,I.dum,I.size,I.asc⟩
theorem setAddI {Q : Bool -> Shared -> Prop} (hkey : (intKind prog w).is k x = true) (hsc : x.scannable = true) (ho : s.heap.get? a = some o) (hI : SetI prog w o S n) (hroom : n + 1 < scanBound)
  (h : ∀ h' o',Heap.SameBut a s.heap h' -> h'.get? a = some o' -> SetI prog w o' (fun k'=>S k' || decide (k' = k)) (if S k then n else n + 1) -> Q (!S k) { s with heap:=h' }) :
  wpAny (model prog w) A (setAddHashed a x ((intKind prog w).hash k)) Q E s:=by
 obtain ⟨hex,es,ep,t,hd,I,hf,hel,hm,hn,hap⟩:=hI
 have hb : es.size < scanBound:=by exact o364 hroom hn
 unfold setAddHashed setAddHashedIn
 refine wpAny_holding (wpAny_bind (wpAny_setState_of ho hd hf ?_))
 dsimp only
 rw [byScan_of hsc hb hel]
 simp only [↓reduceIte]
 unfold setAddByScan
 refine wpAny_bind (wpAny_bind (wpAny_rule (wpAny_bind (wpAny_setScan_of hkey ho hd hf hel ?_))))
 have gate : ∀ (b : Bool) {s₁ : Shared} {Q' : Unit -> Shared -> Prop},Q' () s₁ -> wpAny (model prog w) A (match b with | true=>rule "set.scan.the-table-gave-way" | false=>pure ()) Q' E s₁ :=
  fun b s₁ Q' hq=>by cases b <;> first | exact wpAny_pure hq | exact wpAny_rule hq
 cases hr : List.findIdx? (fun e=>(intKind prog w).is k e.2) es.toList with
 | some j =>
  dsimp only
  obtain ⟨hj,hpj,_⟩:=List.findIdx?_eq_some_iff_getElem.mp hr
  have hSk : S k = true:=(hm k).mpr ⟨es.toList[j],List.getElem_mem hj,hpj⟩
  refine wpAny_pure (wpAny_pure ?_)
  have:=h s.heap o (Heap.SameBut.refl a s.heap) ho ⟨hex,es,ep,t,hd,I,hf,hel,fun k'=>by
   rw [Bool.or_eq_true,decide_eq_true_eq,<- hm k']
   exact ⟨fun hk=>hk.elim id (fun e=>e ▸ hSk),.inl⟩,by rw [hSk];exact hn,hap⟩
  rw [hSk] at this
  exact this
 | none =>
  dsimp only
  have hnone : ∀ e ∈ es.toList,(intKind prog w).is k e.2 = false:=fun e he=>by
   have:=List.findIdx?_eq_none_iff.mp hr e he
   simpa using this
  have hSk : S k = false:=by
   cases hk : S k with
   | false=>rfl
   | true =>
    obtain ⟨e,he,hp⟩:=(hm k).mp hk
    rw [hnone e he] at hp
    cases hp
  have hfits:=layNew_fits t es ((intKind prog w).hash k) x
  obtain ⟨I1,hperm⟩:=layNew_inv I ((intKind prog w).hash k) x
  generalize hL : layNew t es ((intKind prog w).hash k) x = L at hperm hfits I1 ⊢
  obtain ⟨es1,t1,wasDummy,gave⟩:=L
  dsimp only at hperm hfits I1 ⊢
  have hpush : es1.toList.Perm (es.toList ++ [((intKind prog w).hash k,x)]):=hperm.trans (List.perm_append_singleton _ _).symm
  have hel1 : ElemsOf (intKind prog w) es1.toList:=(hel.push hkey hsc).perm hpush
  have hm1 : ∀ k',(S k' || decide (k' = k)) = true ↔ ∃ e ∈ es1.toList,(intKind prog w).is k' e.2 = true:=mem_push_iff hkey hm hpush
  have hsz1 : es1.size = n + 1:=by rw [<- Array.length_toList,hperm.length_eq,List.length_cons,Array.length_toList,hn]
  have hb1 : es1.size < scanBound:=by exact o365 hroom hsz1
  have hap1 : ApartI prog w es1.toList:=apart_perm hperm (List.pairwise_cons.mpr ⟨fun e he k' h1 h2=>(by
   have:=(intKind prog w).inj x k' k h1 hkey
   subst this
   rw [hnone e he] at h2
   exact Bool.noConfusion h2),hap⟩)
  have fin : ∀ (t2 : SetTable),SInv (!w.params.followText "set-order") es1 t2 -> t2.fits es1.size = true -> wpAny (model prog w) A (do
    storeSet a es1 t2
    if (!wasDummy && t2.tooFull) = true then do
      (match (relayAll t2 es1 (SetTable.grown es1.size)).2.2 with | true=>rule "set.scan.the-table-gave-way" | false=>pure ())
      storeSet a (relayAll t2 es1 (SetTable.grown es1.size)).1 (relayAll t2 es1 (SetTable.grown es1.size)).2.1
      pure (some true)
     else pure (some true)) (fun r s'=>r = some true /\ Q true s') E s:=by
   intro t2 I2 hf2
   refine wpAny_bind (wpAny_storeSet_of ho hd ?_ (fits_of_scanBound hb1))
   have hsb1:=Heap.SameBut.update s.heap a (Obj.putSet es1 t2)
   have hg1:=putSet_get (es':=es1) (t':=t2) ho hd
   split
   ·obtain ⟨I3,hp3⟩:=relayAll_inv I2 (SetTable.grown es1.size)
    have hfr:=relayAll_fits t2 es1 (SetTable.grown es1.size)
    generalize relayAll t2 es1 (SetTable.grown es1.size) = Rl at I3 hp3 hfr ⊢
    obtain ⟨es2,t3,gave2⟩:=Rl
    dsimp only at I3 hp3 hfr ⊢
    have hsz : es2.size = es1.size:=by rw [<- Array.length_toList,hp3.length_eq,Array.length_toList]
    refine wpAny_bind (gate _ ?_)
    refine wpAny_bind (wpAny_storeSet_of hg1 rfl ?_ (fits_of_scanBound (by exact o366 hroom hsz hsz1)))
    have hg2:=putSet_get (es':=es2) (t':=t3) hg1 rfl
    refine wpAny_pure ⟨rfl,?_⟩
    have:=h _ _ (hsb1.trans (Heap.SameBut.update _ a (Obj.putSet es2 t3))) hg2 ⟨hex,es2,ep + 1 + 1,t3,rfl,I3,hfr,hel1.perm hp3,fun k'=>(hm1 k').trans ⟨fun ⟨e,he,q⟩=>⟨e,hp3.mem_iff.mpr he,q⟩,fun ⟨e,he,q⟩=>⟨e,hp3.mem_iff.mp he,q⟩⟩,by rw [hSk];simp only [Bool.false_eq_true,if_false];exact o367 hsz hsz1,apart_perm hp3 hap1⟩
    rw [hSk] at this
    exact this
   ·refine wpAny_pure ⟨rfl,?_⟩
    have:=h _ _ hsb1 hg1 ⟨hex,es1,ep + 1,t2,rfl,I2,hf2,hel1,hm1,by rw [hSk];simp only [Bool.false_eq_true,if_false];exact o368 hsz1,hap1⟩
    rw [hSk] at this
    exact this
  refine wpAny_bind (gate _ ?_)
  split
  ·refine wpAny_bind ?_
   rw [hashByValue_scannable 8 hsc]
   refine wpAny_pure ?_
   refine wpAny_mono (fin (if plainKind x = true then t1 else { t1 with plain:=false }) ?_ ?_) (fun r s' hq=>?_) fun _ _ e=>e
   ·split
    ·exact I1
    ·exact I1.notPlain
   ·split
    ·exact hfits
    ·exact SetTable.fits_plain_off hfits
   ·rw [hq.1]
    exact wpAny_pure hq.2
  ·refine wpAny_bind (wpAny_pure ?_)
   simp only [↓reduceIte]
   refine wpAny_mono (fin t1 I1 hfits) (fun r s' hq=>?_) fun _ _ e=>e
   rw [hq.1]
   exact wpAny_pure hq.2
end
end
section
noncomputable abbrev ZipAt (h : Heap) (z TI TO : Addr) (T : Addr) (b : Bool) : Prop :=
 h.get? z = some { cls:=.type "zip",dict:=none,data:=.fields #[rawInt T,.bool b,.bool false,.ref TI,.ref TO],slots:=#[] }
section
variable {prog : Program} {w : World} {A : Around} {E : Value -> Shared -> Prop} {s : Shared}
theorem wpAny_loadIfAlive {M : Model} {a : Addr} {Q : Option Obj -> Shared -> Prop} (h : Q (s.heap.get? a) s) : wpAny M A (loadIfAlive a) Q E s:=fun _ _ _=>h
theorem zip_more_free {z TI TO T : Addr} {b : Bool} {oT : Obj} {Q : Bool -> Shared -> Prop} (hz : ZipAt s.heap z TI TO T b) (hT : s.heap.get? T = some oT)
  (h : ∀ h',ZipAt h' z TI TO T true -> Heap.SameBut z s.heap h' -> Q false { s with heap:=h' }) : wpAny (model prog w) A (Builtin.SmallTypes.ownedTupleIsFree (.ref z)) Q E s:=by
 unfold Builtin.SmallTypes.ownedTupleIsFree
 refine wpAny_bind (wpAny_field hz rfl (x:=rawInt T) rfl ?_)
 show wpAny _ _ (loadIfAlive (T : Int).toNat >>= _) _ _ _
 refine wpAny_bind (wpAny_loadIfAlive ?_)
 rw [Int.toNat_natCast,hT]
 simp only [Option.isNone_some,Bool.false_eq_true,if_false]
 refine wpAny_bind (wpAny_field hz rfl (x:=.bool b) rfl ?_)
 cases b with
 | true =>
  rw [if_neg (by simp)]
  exact wpAny_bind (wpAny_pure (wpAny_pure (h s.heap hz ⟨rfl,fun _ _=>rfl⟩)))
 | false =>
  rw [if_pos (by rfl)]
  refine wpAny_bind (wpAny_setField_rec hz (by simp) fun h' hz' hs'=>?_)
  exact wpAny_pure (h h' hz' hs')
theorem zip_more_item {z TI TO i1 i2 l1 l2 T : Addr} {bb : Bool} {oT : Obj} {k1 k2 : Nat} {xs ys : Array Value} {x y : Value} {Q : Value -> Shared -> Prop} (D : ZipApart z TI TO i1 i2 l1 l2)
  (hz : ZipAt s.heap z TI TO T bb) (hTI : IsPair s.heap TI (.ref i1) (.ref i2)) (hT : s.heap.get? T = some oT)
  (h1 : s.heap.IsListIter i1 l1 k1) (h2 : s.heap.IsListIter i2 l2 k2) (hl1 : s.heap.IsList l1 xs) (hl2 : s.heap.IsList l2 ys) (hx : xs[k1]? = some x) (hy : ys[k2]? = some y)
  (hQ : ∀ h',ZipAt h' z TI TO T true -> h'.IsListIter i1 l1 (k1 + 1) -> h'.IsListIter i2 l2 (k2 + 1) -> IsPair h' s.heap.objs.size x y -> h'.objs.size = s.heap.objs.size + 1 ->
   (∀ c o,c ≠ z -> c ≠ i1 -> c ≠ i2 -> s.heap.get? c = some o -> h'.get? c = some o) -> Q (.ref s.heap.objs.size) { s with heap:=h' }) :
  wpAny (model prog w) A (Builtin.«zip.__next__» ⟨[.ref z],[]⟩) (fun fin s'=>∃ v,fin = .done (.ret v) /\ Q v s') E s:=by
 show wpAny _ _ (field (.ref z) 2 >>= _) _ _ _
 refine wpAny_bind (wpAny_field hz rfl (x:=.bool false) rfl ?_)
 show wpAny _ _ (field (.ref z) 3 >>= _) _ _ _
 refine wpAny_bind (wpAny_field hz rfl (x:=.ref TI) rfl ?_)
 refine wpAny_bind (wpAny_seqItems hTI rfl ?_)
 show wpAny _ _ (Builtin.SmallTypes.ownedTupleIsFree (.ref z) >>= _) _ _ _
 refine wpAny_bind (zip_more_free hz hT fun h₁ hz₁ hs₁=>?_)
 rw [if_neg (by simp)]
 refine wpAny_bind ?_
 simp only [Array.forIn_toList,List.forIn_cons,List.forIn_nil,<- Array.forIn_toList]
 refine wpAny_bind (wpAny_bind (wpAny_holding ?_))
 show wpAny _ _ (Builtin.SmallTypes.nextOf (.ref i1) >>= _) _ _ _
 refine wpAny_bind (wpAny_nextOf_list_item (h1.extBut hs₁.extBut D.i1z) (hl1.extBut hs₁.extBut D.l1z) hx fun h₂ h1₂ hs₂=>wpAny_pure ?_)
 refine wpAny_pure ?_
 refine wpAny_bind (wpAny_bind (wpAny_holding ?_))
 show wpAny _ _ (Builtin.SmallTypes.nextOf (.ref i2) >>= _) _ _ _
 refine wpAny_bind (wpAny_nextOf_list_item ((h2.extBut hs₁.extBut D.i2z).extBut hs₂.extBut D.i12.symm) ((hl2.extBut hs₁.extBut D.l2z).extBut hs₂.extBut D.l2i1) hy fun h₃ h2₃ hs₃=>wpAny_pure ?_)
 refine wpAny_pure (wpAny_pure ?_)
 refine wpAny_bind (wpAny_newTuple (hsz:=by show 2 <= sizeLine;decide) ?_)
 have hsz : h₃.objs.size = s.heap.objs.size:=by rw [hs₃.1,hs₂.1,hs₁.1]
 have hz₃ : ZipAt h₃ z TI TO T true:=hs₃.extBut _ _ D.i2z.symm (hs₂.extBut _ _ D.i1z.symm hz₁)
 have h1₃ : h₃.IsListIter i1 l1 (k1 + 1):=h1₂.extBut hs₃.extBut D.i12
 refine wpAny_pure ⟨_,rfl,?_⟩
 show Q (.ref h₃.objs.size) _
 have up : ∀ c o,h₃.get? c = some o -> (h₃.push { cls:=.type "tuple",data:=.seq #[x,y] }).get? c = some o:=fun c o e=>Heap.get?_push_of_some _ e
 have hp : IsPair (h₃.push { cls:=.type "tuple",data:=.seq #[x,y] }) h₃.objs.size x y:=Heap.get?_push_size _ rfl
 rw [hsz] at hp ⊢
 exact hQ _ (up _ _ hz₃) (h1₃.at fun o e=>up _ o e) (h2₃.at fun o e=>up _ o e) hp (by rw [Heap.size_push,hsz]) fun c o c1 c3 c4 e=>up _ _ (hs₃.extBut _ _ c4 (hs₂.extBut _ _ c3 (hs₁.extBut _ _ c1 e)))
end
end
section
open PyProof.Rows
theorem slot_setiter_next : Slot "set_iterator" "__next__" "set_iterator.__next__" :=
 .of (owner := "set_iterator") (n := "__next__") (by rw [typeLookup_type,builtinLookup_eq_fast];kernel_rfl) (by decide +kernel) (by decide +kernel) (by decide +kernel)
  (by first | exact .inl (by decide +kernel) | exact .inr (by decide +kernel)) (by rw [isSubtype_type];kernel_rfl)
theorem entry_setiter_next : entryFor table "set_iterator.__next__" = some Builtin.«set_iterator.__next__»:=entryFor_of_tree (by kernel_rfl)
theorem entry_set_iter : entryFor table "set.__iter__" = some Builtin.«frozenset.__iter__» :=
 entryFor_alias (id' := "frozenset.__iter__") (by kernel_rfl) (by first | rfl | decide +kernel | (unfold String.splitOn;simp +decide [String.splitOnAux])) (by decide +kernel) (by kernel_rfl)
theorem args_setiter_next (a : Value) : argsOk "set_iterator.__next__" ⟨[a],[]⟩:=by unfold argsOk;kernel_rfl
end
section
open PyProof.Rows
noncomputable abbrev drawnP : Array (Int × Value) -> SetTable -> Bool:=fun es t=>!t.plain && decide (es.size > 1)
noncomputable abbrev itObj (first : Value) (k : Int) (a : Addr) (n ep : Nat) : Obj:={ cls:=.type "set_iterator",dict:=none,data:=.fields #[first,rawInt k,.ref a,rawInt n,rawInt ep],slots:=#[] }
noncomputable def Way (w : World) (h : Heap) (a I : Addr) (es : Array (Int × Value)) (ep : Nat) (t : SetTable) (vs : List Value) (k : Nat) (first : Value) : Prop :=
 (w.params.followText "set-order" = true /\ (∃ j : Nat,first = rawInt j) /\ vs = (pickOrder (w.params.setOrder a ep) es).toList.map (·.2)) \/
 (w.params.followText "set-order" = false /\ drawnP es t = false /\ (∃ j : Nat,first = rawInt j /\ SetTable.below t.place j = k) /\ vs = es.toList.map (·.2)) \/
 (∃ (T : Addr) (idx : List Nat),first = .ref T /\ T ≠ I /\ (∃ n,h.get? T = some { cls:=.type "tuple",dict:=none,data:=.seq (idx.map fun i : Nat=>rawInt i).toArray n,slots:=#[] }) /\ idx.length = vs.length /\ ∀ (i j : Nat),idx[i]? = some j -> ∃ e : Int × Value,es[j]? = some e /\ vs[i]? = some e.2)
structure Walked (w : World) (h : Heap) (I a : Addr) (vs : List Value) (k : Nat) : Prop where
 ex : ∃ o es ep t first,h.get? a = some o /\ o.data = .set es ep t /\ t.fits es.size = true /\ SInv (!w.params.followText "set-order") es t /\ vs.length = es.size /\ a ≠ I /\ h.get? I = some (itObj first k a es.size ep) /\ Way w h a I es ep t vs k first
section
variable {prog : Program} {w : World} {A : Around} {E : Value -> Shared -> Prop} {s : Shared} {I a : Addr} {vs : List Value} {k : Nat}
theorem wpAny_setNext {o : Obj} {es : Array (Int × Value)} {ep : Nat} {t : SetTable} {slot : Nat} {Q : Option (Value × Nat) -> Shared -> Prop} (ho : s.heap.get? a = some o) (hd : o.data = .set es ep t) (hf : t.fits es.size = true)
  (h1 : w.params.followText "set-order" = true -> Q (((pickOrder (w.params.setOrder a ep) es)[k]?).map fun e=>(e.2,slot)) s)
  (h2 : w.params.followText "set-order" = false -> drawnP es t = false /\ t.led = true /\ Q (match es[SetTable.below t.place slot]?,t.place[SetTable.below t.place slot]? with | some (_,x),some j=>some (x,j + 1) | _,_=>none) s) :
  wpAny (model prog w) A (setNext a slot k ep) Q E s:=by
 unfold setNext
 refine wpAny_bind (wpAny_setState_of ho hd hf ?_)
 refine wpAny_bind (wpAny_setsByText ?_)
 cases hb : w.params.followText "set-order" with
 | true =>
  simp only [if_true,bne_self_eq_false,Bool.false_eq_true,if_false]
  refine wpAny_bind ?_
  unfold setWalk
  refine wpAny_bind (wpAny_setState_of ho hd hf ?_)
  refine wpAny_bind (wpAny_setsByText ?_)
  simp only [hb,if_true]
  refine wpAny_bind (wpAny_askSetting (wpAny_pure (wpAny_pure ?_)))
  exact h1 hb
 | false =>
  refine bc fun g0=>?_;obtain ⟨a1,a2,a3⟩:=h2 hb;refine g0 ?_;clear g0
  simp only [Bool.false_eq_true,if_false]
  show wpAny _ _ (if drawnP es t = true then _ else _) _ _ _
  rw [a1]
  simp only [Bool.false_eq_true,if_false]
  show wpAny _ _ ((if (!t.led && !es.isEmpty) = true then _ else _) >>= _) _ _ _
  rw [a2]
  simp only [Bool.not_true,Bool.false_and,Bool.false_eq_true,if_false]
  refine wpAny_bind (wpAny_pure (wpAny_pure ?_))
  exact a3
theorem setnext_item {x : Value} {Q : Option Value -> Shared -> Prop} (hW : Walked w s.heap I a vs k) (hx : vs[k]? = some x)
  (h : ∀ h',Walked w h' I a vs (k + 1) -> Heap.SameBut I s.heap h' -> Q (some x) { s with heap:=h' }) : wpAny (model prog w) A (pyNext (.ref I)) Q E s:=by
 refine bc fun g0=>?_;obtain ⟨o,es,ep,t,first,ho,hd,hf,hI,hn,haI,hit,hway⟩:=hW.ex;refine g0 ?_;clear g0
 have hTy : s.TypeIs (.ref I) "set_iterator":=⟨_,hit,rfl⟩
 have hk : k < vs.length:=(List.getElem?_eq_some_iff.mp hx).1
 unfold pyNext
 refine wpAny_bind (wpAny_attempt (wpAny_callSpecial?_slot (name:=Str.ofString "__next__") hTy slot_setiter_next
  (wpAny_call_entry slot_setiter_next hTy entry_setiter_next ?_ (args_setiter_next _))))
 show wpAny _ _ (fieldsOf (.ref I) >>= _) _ _ _
 refine wpAny_bind (wpAny_fieldsOf hit rfl ?_)
 show wpAny _ _ (setEntries a >>= _) _ _ _
 refine wpAny_bind (wpAny_setEntries_of ho hd hf ?_)
 rw [if_neg (by simp)]
 have step : ∀ (f0 : Value) (h2 : Heap),Heap.SameBut I s.heap h2 -> h2.get? I = some (itObj f0 ((k : Int) + 1) a es.size ep) -> Way w h2 a I es ep t vs (k + 1) f0 -> Walked w h2 I a vs (k + 1):=fun f0 h2 hs hg hw =>
  ⟨o,es,ep,t,f0,(hs.2 _ haI).trans ho,hd,hf,hI,hn,haI,hg,hw⟩
 have two : ∀ {E' : Value -> Shared -> Prop} (j : Nat) (x : Value),(∀ h2,h2.get? I = some (itObj (rawInt j) ((k : Int) + 1) a es.size ep) -> Heap.SameBut I s.heap h2 -> Q (some x) { s with heap:=h2 }) ->
   wpAny (model prog w) A.in1 (setField (.ref I) 0 (rawInt j) >>= fun _=>setField (.ref I) 1 (rawInt ((k : Int) + 1)) >>= fun _=>(ret x : Sem Fin)) (fun fin s'=>∃ v,fin = .done (.ret v) /\ wpAny (model prog w) A (pure (some v)) Q E s') E' s:=by
  intro E' j x hq
  refine wpAny_bind (wpAny_setField_rec hit (by simp) fun h1 g1 s1=>?_)
  refine wpAny_bind (wpAny_setField_rec g1 (by simp) fun h2 g2 s2=>?_)
  exact wpAny_pure ⟨x,rfl,wpAny_pure (hq h2 g2 (s1.trans s2))⟩
 refine bc fun g0=>?_;rcases hway with ⟨hb,⟨j,rfl⟩,hvs⟩ | ⟨hb,hdr,⟨j,rfl,hj⟩,hvs⟩ | ⟨T,idx,rfl,hTI,⟨nT,hT⟩,hlen,hidx⟩ <;> (refine g0 ?_;clear g0)
 ·show wpAny _ _ (setNext a (j : Int).toNat (k : Int).toNat (ep : Int).toNat >>= _) _ _ _
  rw [Int.toNat_natCast,Int.toNat_natCast,Int.toNat_natCast]
  have hp : ((pickOrder (w.params.setOrder a ep) es)[k]?).map (fun e : Int × Value=>(e.2,j)) = some (x,j):=by
   rw [hvs,List.getElem?_map,Array.getElem?_toList] at hx
   cases hq : (pickOrder (w.params.setOrder a ep) es)[k]? with
   | none=>rw [hq] at hx;cases hx
   | some e=>rw [hq] at hx;cases hx;rfl
  refine wpAny_bind (wpAny_setNext ho hd hf (fun _=>?_) fun hb'=>by rw [hb] at hb';cases hb')
  rw [hp]
  dsimp only
  exact two j x fun h2 g2 hs=>h h2 (step _ h2 hs g2 (.inl ⟨hb,⟨j,rfl⟩,hvs⟩)) hs
 ·show wpAny _ _ (setNext a (j : Int).toNat (k : Int).toNat (ep : Int).toNat >>= _) _ _ _
  rw [Int.toNat_natCast,Int.toNat_natCast,Int.toNat_natCast]
  refine wpAny_bind (wpAny_setNext ho hd hf (fun hb'=>by rw [hb] at hb';cases hb') fun _=>⟨hdr,by rw [hI.led,hb];rfl,?_⟩)
  have hke : k < es.size:=by exact o362 hk hn
  have he : es[k]? = some es[k]:=Array.getElem?_eq_getElem hke
  have hp : t.place[k]? = some (t.place.getD k 0):=by
   have hk2 : k < t.place.size:=by rw [hI.size];exact hke
   rw [getD_get?,Array.getElem?_eq_getElem hk2]
   rfl
  have hxe : x = es[k].2:=by
   rw [hvs,List.getElem?_map,Array.getElem?_toList,he] at hx
   exact (Option.some.inj hx).symm
  rw [hj,he,hp]
  dsimp only
  rw [<- hxe]
  exact two _ x fun h2 g2 hs=>h h2 (step _ h2 hs g2 (.inr (.inl ⟨hb,hdr,⟨_,rfl,below_next t.place hI.asc k (by rw [hI.size];exact hke)⟩,hvs⟩))) hs
 ·show wpAny _ _ (seqItems? (.ref T) >>= _) _ _ _
  refine wpAny_bind (wpAny_seqItems hT rfl ?_)
  have hki : k < idx.length:=by exact o11 hk hlen
  refine bc fun g0=>?_;obtain ⟨e,he,hxe⟩:=hidx k idx[k] (List.getElem?_eq_getElem hki);refine g0 ?_;clear g0
  have hxe' : x = e.2:=by rw [hx] at hxe;exact Option.some.inj hxe
  have hpl : ((idx.map fun i : Nat=>rawInt i).toArray)[(k : Int).toNat]? = some (rawInt idx[k]):=by
   rw [Int.toNat_natCast]
   simp [List.getElem?_eq_getElem hki]
  dsimp only
  rw [hpl]
  show wpAny _ _ (setNextDrawn a ((idx[k] : Nat) : Int).toNat (ep : Int).toNat >>= _) _ _ _
  rw [Int.toNat_natCast,Int.toNat_natCast]
  refine wpAny_bind ?_
  unfold setNextDrawn
  refine wpAny_bind (wpAny_setState_of ho hd hf ?_)
  simp only [bne_self_eq_false,Bool.false_eq_true,if_false]
  rw [he]
  refine wpAny_bind (wpAny_pure ?_)
  refine wpAny_pure ?_
  refine wpAny_bind (wpAny_setField_rec hit (by simp) fun h2 g2 s2=>?_)
  rw [<- hxe']
  exact wpAny_pure ⟨x,rfl,wpAny_pure (h h2 (step _ h2 s2 g2 (.inr (.inr ⟨T,idx,rfl,hTI,⟨nT,(s2.2 _ hTI).trans hT⟩,hlen,hidx⟩))) s2)⟩
theorem setnext_end {Q : Option Value -> Shared -> Prop} (hh : A.handled = none) (hW : Walked w s.heap I a vs k) (hx : k = vs.length)
  (h : ∀ h',Heap.ExtBut I s.heap h' -> Q none { s with heap:=h' }) : wpAny (model prog w) A (pyNext (.ref I)) Q E s:=by
 refine bc fun g0=>?_;obtain ⟨o,es,ep,t,first,ho,hd,hf,hI,hn,haI,hit,hway⟩:=hW.ex;refine g0 ?_;clear g0
 have hTy : s.TypeIs (.ref I) "set_iterator":=⟨_,hit,rfl⟩
 unfold pyNext
 refine wpAny_bind (wpAny_attempt (wpAny_callSpecial?_slot (name:=Str.ofString "__next__") hTy slot_setiter_next
  (wpAny_call_entry slot_setiter_next hTy entry_setiter_next ?_ (args_setiter_next _))))
 show wpAny _ _ (fieldsOf (.ref I) >>= _) _ _ _
 refine wpAny_bind (wpAny_fieldsOf hit rfl ?_)
 show wpAny _ _ (setEntries a >>= _) _ _ _
 refine wpAny_bind (wpAny_setEntries_of ho hd hf ?_)
 rw [if_neg (by simp)]
 have stop : ∀ (h1 : Heap),Heap.ExtBut I s.heap h1 -> wpAny (model prog w) A.in1 (newExc (.type "StopIteration") [] >>= fun e=>(raiseNew e : Sem Fin)) (fun fin s'=>∃ v,fin = .done (.ret v) /\ wpAny (model prog w) A (pure (some v)) Q E s')
   (fun e s'=>wpAny (model prog w) A (do if <- isInstance e (.type "StopIteration") then pure none else throw e) Q E s') { s with heap:=h1 }:=by
  intro h1 hs
  refine wpAny_bind ?_
  simp only [newExc,newTuple]
  refine wpAny_bind (wpAny_newObj_type ?_ (by size_fits))
  refine wpAny_bind (m:=firstArgMember _ _) (wpAny_of_eq (a:=Value.none) (by first | rfl | (simp only [firstArgMember];rfl)) ?_)
  refine wpAny_newObj_type ?_ (by size_fits)
  simp only [raiseNew]
  refine wpAny_bind (wpAny_handled ?_)
  first | rw [show A.in1.handled = none from hh] | rw [hh]
  refine wpAny_bind (wpAny_pure (wpAny_throw ?_))
  refine wpAny_bind (wpAny_isInstance (T := "StopIteration") (b:=true) ⟨_,Heap.get?_push_size _ rfl,rfl⟩ isSubtype_stop ?_)
  exact wpAny_pure (h _ ((hs.push _).push _))
 refine bc fun g0=>?_;rcases hway with ⟨hb,⟨j,rfl⟩,hvs⟩ | ⟨hb,hdr,⟨j,rfl,hj⟩,hvs⟩ | ⟨T,idx,rfl,hTI,⟨nT,hT⟩,hlen,hidx⟩ <;> (refine g0 ?_;clear g0)
 ·show wpAny _ _ (setNext a (j : Int).toNat (k : Int).toNat (ep : Int).toNat >>= _) _ _ _
  rw [Int.toNat_natCast,Int.toNat_natCast,Int.toNat_natCast]
  have hp : ((pickOrder (w.params.setOrder a ep) es)[k]?).map (fun e : Int × Value=>(e.2,j)) = none:=by
   have hl : vs.length = (pickOrder (w.params.setOrder a ep) es).size:=by rw [hvs];simp
   rw [Array.getElem?_eq_none (by exact o109 hl hx)]
   rfl
  refine wpAny_bind (wpAny_setNext ho hd hf (fun _=>?_) fun hb'=>by rw [hb] at hb';cases hb')
  rw [hp]
  show wpAny _ _ (setField (.ref I) 2 Value.none >>= _) _ _ _
  refine wpAny_bind (wpAny_setField_rec hit (by simp) fun h1 g1 s1=>?_)
  exact stop h1 s1.extBut
 ·show wpAny _ _ (setNext a (j : Int).toNat (k : Int).toNat (ep : Int).toNat >>= _) _ _ _
  rw [Int.toNat_natCast,Int.toNat_natCast,Int.toNat_natCast]
  refine wpAny_bind (wpAny_setNext ho hd hf (fun hb'=>by rw [hb] at hb';cases hb') fun _=>⟨hdr,by rw [hI.led,hb];rfl,?_⟩)
  have he : es[k]? = none:=Array.getElem?_eq_none (by exact o109 hn hx)
  rw [hj,he]
  show wpAny _ _ (setField (.ref I) 2 Value.none >>= _) _ _ _
  refine wpAny_bind (wpAny_setField_rec hit (by simp) fun h1 g1 s1=>?_)
  exact stop h1 s1.extBut
 ·show wpAny _ _ (seqItems? (.ref T) >>= _) _ _ _
  refine wpAny_bind (wpAny_seqItems hT rfl ?_)
  have hpl : ((idx.map fun i : Nat=>rawInt i).toArray)[(k : Int).toNat]? = none:=by
   rw [Int.toNat_natCast]
   simp
   exact o363 hlen hx
  dsimp only
  rw [hpl]
  show wpAny _ _ (setField (.ref I) 0 (rawInt 0) >>= _) _ _ _
  refine wpAny_bind (wpAny_setField_rec hit (by simp) fun h1 g1 s1=>?_)
  show wpAny _ _ (setField (.ref I) 2 Value.none >>= _) _ _ _
  refine wpAny_bind (wpAny_setField_rec g1 (by simp) fun h2 g2 s2=>?_)
  exact stop h2 (s1.trans s2).extBut
end
end
section
noncomputable def ZSt (h : Heap) (z TI TO i1 i2 l1 l2 : Addr) (xs ys : Array Value) (k : Nat) : Prop :=
 ((IsZip h z TI TO .none /\ ∃ a b,IsPair h TO a b) \/ ∃ T b o,ZipAt h z TI TO T b /\ h.get? T = some o /\ T ≠ z /\ T ≠ i1 /\ T ≠ i2) /\
  IsPair h TI (.ref i1) (.ref i2) /\ h.IsListIter i1 l1 k /\ h.IsListIter i2 l2 k /\ h.IsList l1 xs /\ h.IsList l2 ys
theorem zipAt_inj {h : Heap} {z TI TO T T' : Addr} {b b' : Bool} (h1 : ZipAt h z TI TO T b) (h2 : ZipAt h z TI TO T' b') : T = T':=by
 have e:=h1.symm.trans h2
 simp [rawInt] at e
 exact Int.ofNat_inj.mp e.1
section
variable {prog : Program} {w : World} {A : Around} {E : Value -> Shared -> Prop} {s : Shared} {z TI TO i1 i2 l1 l2 : Addr} {xs ys : Array Value} {k : Nat}
theorem zip_more_end {T : Addr} {bb : Bool} {oT : Obj} {Q : Fin -> Shared -> Prop} (hh : A.handled = none) (D : ZipApart z TI TO i1 i2 l1 l2)
  (hz : ZipAt s.heap z TI TO T bb) (hTI : IsPair s.heap TI (.ref i1) (.ref i2)) (hT : s.heap.get? T = some oT)
  (h1 : s.heap.IsListIter i1 l1 k) (hl1 : s.heap.IsList l1 xs) (hend : xs[k]? = none)
  (hE : ∀ h' e,(∀ c o,c ≠ z -> c ≠ i1 -> s.heap.get? c = some o -> h'.get? c = some o) -> (∃ o,h'.get? e = some o /\ o.cls = .type "StopIteration") -> E (.ref e) { s with heap:=h' }) :
  wpAny (model prog w) A (Builtin.«zip.__next__» ⟨[.ref z],[]⟩) Q E s:=by
 show wpAny _ _ (field (.ref z) 2 >>= _) _ _ _
 refine wpAny_bind (wpAny_field hz rfl (x:=.bool false) rfl ?_)
 show wpAny _ _ (field (.ref z) 3 >>= _) _ _ _
 refine wpAny_bind (wpAny_field hz rfl (x:=.ref TI) rfl ?_)
 refine wpAny_bind (wpAny_seqItems hTI rfl ?_)
 show wpAny _ _ (Builtin.SmallTypes.ownedTupleIsFree (.ref z) >>= _) _ _ _
 refine wpAny_bind (zip_more_free hz hT fun h₁ hz₁ hs₁=>?_)
 rw [if_neg (by simp)]
 refine wpAny_bind ?_
 simp only [List.forIn_cons,<- Array.forIn_toList]
 refine wpAny_bind (wpAny_bind (wpAny_holding ?_))
 show wpAny _ _ (Builtin.SmallTypes.nextOf (.ref i1) >>= _) _ _ _
 refine wpAny_bind (wpAny_nextOf_list_end hh (h1.extBut hs₁.extBut D.i1z) (hl1.extBut hs₁.extBut D.l1z) hend fun h₂ e hs₂ he=>?_)
 exact hE h₂ e (fun c o c1 c3 x=>hs₂ _ _ c3 (hs₁.extBut _ _ c1 x)) he
theorem zst_item {x y : Value} {Q : Option Value -> Shared -> Prop} (D : ZipApart z TI TO i1 i2 l1 l2) (hT1 : TI ≠ z /\ TI ≠ TO /\ TI ≠ i1 /\ TI ≠ i2) (st : ZSt s.heap z TI TO i1 i2 l1 l2 xs ys k) (hx : xs[k]? = some x) (hy : ys[k]? = some y)
  (hQ : ∀ h',ZSt h' z TI TO i1 i2 l1 l2 xs ys (k + 1) -> IsPair h' s.heap.objs.size x y -> h'.objs.size = s.heap.objs.size + 1 -> (∀ T b,ZipAt h' z TI TO T b -> T = s.heap.objs.size \/ ∃ b',ZipAt s.heap z TI TO T b') ->
   (∀ c o,c ≠ z -> c ≠ TO -> c ≠ i1 -> c ≠ i2 -> s.heap.get? c = some o -> h'.get? c = some o) -> Q (some (.ref s.heap.objs.size)) { s with heap:=h' }) :
  wpAny (model prog w) A (pyNext (.ref z)) Q E s:=by
 obtain ⟨hz,hTI,h1,h2,hl1,hl2⟩:=st
 rcases hz with ⟨hz,a,b,hTO⟩ | ⟨T,b,o,hz,hT,hn⟩
 ·exact wpAny_pyNext_zip_item D hz hTI hTO h1 h2 hl1 hl2 hx hy fun h' a1 a2 a3 a4 a5 a6 a7 =>
   hQ h' ⟨.inr ⟨_,_,_,a1,a5,Nat.ne_of_gt (Heap.lt_size hz),Nat.ne_of_gt (by obtain ⟨_,e,_⟩:=h1;exact Heap.lt_size e),Nat.ne_of_gt (by obtain ⟨_,e,_⟩:=h2;exact Heap.lt_size e)⟩,a7 _ _ hT1.1 hT1.2.1 hT1.2.2.1 hT1.2.2.2 hTI,a3,a4,hl1.at fun o e=>a7 _ o D.l1z D.l1TO D.l1i1 D.l1i2 e,hl2.at fun o e=>a7 _ o D.l2z D.l2TO D.l2i1 D.l2i2 e⟩ a5 a6 (fun T' b' h=>.inl (zipAt_inj (b':=false) h a1)) a7
 ·have hTy : s.TypeIs (.ref z) "zip":=⟨_,hz,rfl⟩
  unfold pyNext
  refine wpAny_bind (wpAny_attempt (wpAny_callSpecial?_slot (name:=Str.ofString "__next__") hTy F.slot_zip_next
   (wpAny_call_entry F.slot_zip_next hTy F.entry_zip_next
    (zip_more_item D hz hTI hT h1 h2 hl1 hl2 hx hy fun h' a1 a3 a4 a5 a6 a7=>wpAny_pure ?_) (F.args_zip_next_1 _))))
  refine hQ h' ⟨.inr ⟨T,true,o,a1,a7 _ _ hn.1 hn.2.1 hn.2.2 hT,hn⟩,a7 _ _ hT1.1 hT1.2.2.1 hT1.2.2.2 hTI,a3,a4,hl1.at fun o e=>a7 _ o D.l1z D.l1i1 D.l1i2 e,hl2.at fun o e=>a7 _ o D.l2z D.l2i1 D.l2i2 e⟩ a5 a6 (fun T' b' h=>.inr ⟨b,zipAt_inj h a1 ▸ hz⟩) fun c o c1 _ c3 c4 e=>a7 c o c1 c3 c4 e
theorem zst_end {Q : Option Value -> Shared -> Prop} (hh : A.handled = none) (D : ZipApart z TI TO i1 i2 l1 l2) (st : ZSt s.heap z TI TO i1 i2 l1 l2 xs ys k) (hx : xs[k]? = none)
  (hQ : ∀ h',(∀ c o,c ≠ z -> c ≠ TO -> c ≠ i1 -> c ≠ i2 -> s.heap.get? c = some o -> h'.get? c = some o) -> Q none { s with heap:=h' }) :
  wpAny (model prog w) A (pyNext (.ref z)) Q E s:=by
 obtain ⟨hz,hTI,h1,h2,hl1,hl2⟩:=st
 rcases hz with ⟨hz,a,b,hTO⟩ | ⟨T,b,o,hz,hT,hn⟩
 ·exact wpAny_pyNext_zip_end hh D hz hTI hTO h1 h2 hl1 hl2 (.inl hx) hQ
 ·have hTy : s.TypeIs (.ref z) "zip":=⟨_,hz,rfl⟩
  unfold pyNext
  refine wpAny_bind (wpAny_attempt (wpAny_callSpecial?_slot (name:=Str.ofString "__next__") hTy F.slot_zip_next
   (wpAny_call_entry F.slot_zip_next hTy F.entry_zip_next (zip_more_end hh D hz hTI hT h1 hl1 hx fun h' e hk he=>?_) (F.args_zip_next_1 _))))
  obtain ⟨o,ho,hc⟩:=he
  refine wpAny_bind (wpAny_isInstance (T := "StopIteration") (b:=true) ⟨o,ho,hc⟩ isSubtype_stop ?_)
  exact wpAny_pure (hQ _ fun c o c1 _ c3 _ e=>hk c o c1 c3 e)
end
end
section
noncomputable def ZL (h : Heap) (xs ys : Array Value) (base : Nat) (acc : Array Value) (k : Nat) : Prop :=
 acc.size = k /\ ∀ (j : Nat) (x y : Value),j < k -> xs[j]? = some x -> ys[j]? = some y -> ∃ T,acc[j]? = some (.ref T) /\ IsPair h T x y /\ base <= T
theorem ZSt.keeps {h h' : Heap} {z TI TO i1 i2 l1 l2 : Addr} {xs ys : Array Value} {k : Nat} {S : Addr} (st : ZSt h z TI TO i1 i2 l1 l2 xs ys k) (hS : ∀ b o,b ≠ S -> h.get? b = some o -> h'.get? b = some o)
  (n1 : z ≠ S) (n2 : TI ≠ S) (n3 : TO ≠ S) (n4 : i1 ≠ S) (n5 : i2 ≠ S) (n6 : l1 ≠ S) (n7 : l2 ≠ S) (hl : ∀ T b,ZipAt h z TI TO T b -> T ≠ S) : ZSt h' z TI TO i1 i2 l1 l2 xs ys k:=by
 refine bc fun g0=>?_;obtain ⟨hz,hTI,h1,h2,hl1,hl2⟩:=st;refine g0 ?_;clear g0
 refine ⟨?_,hS _ _ n2 hTI,h1.at fun o e=>hS _ o n4 e,h2.at fun o e=>hS _ o n5 e,hl1.at fun o e=>hS _ o n6 e,hl2.at fun o e=>hS _ o n7 e⟩
 refine bc fun g0=>?_;rcases hz with ⟨hz,a,b,hTO⟩ | ⟨T,b,o,hz,hT,hn⟩ <;> (refine g0 ?_;clear g0)
 ·exact .inl ⟨hS _ _ n1 hz,a,b,hS _ _ n3 hTO⟩
 ·exact .inr ⟨T,b,o,hS _ _ n1 hz,hS _ _ (hl T b hz) hT,hn⟩
section
variable {prog : Program} {w : World} {A : Around} {R : Result -> Shared -> Prop} {z TI TO i1 i2 l1 l2 S : Addr} {xs ys : Array Value} {n base : Nat} {res : Value}
theorem zip_loop (hh : A.handled = none) (D : ZipApart z TI TO i1 i2 l1 l2) (hT1 : TI ≠ z /\ TI ≠ TO /\ TI ≠ i1 /\ TI ≠ i2) (hx : xs.size = n) (hy : ys.size = n) (hn : n <= 1000)
  (n1 : z ≠ S) (n2 : TI ≠ S) (n3 : TO ≠ S) (n4 : i1 ≠ S) (n5 : i2 ≠ S) (n6 : l1 ≠ S) (n7 : l2 ≠ S) (b1 : z < base) (b3 : TO < base) (b4 : i1 < base) (b5 : i2 < base) (b6 : S < base) :
  ∀ (j k : Nat) (s : Shared) (acc : Array Value) (c : Nat),n - k = j -> k <= n -> ZSt s.heap z TI TO i1 i2 l1 l2 xs ys k -> (∀ T b,ZipAt s.heap z TI TO T b -> base <= T) -> base <= s.heap.objs.size ->
   s.heap.get? S = some { cls:=.type "list",dict:=none,data:=.seq acc c,slots:=#[] } -> ZL s.heap xs ys base acc k ->
   (∀ h' acc' c',(∀ b o,b ≠ S -> b ≠ z -> b ≠ TO -> b ≠ i1 -> b ≠ i2 -> s.heap.get? b = some o -> h'.get? b = some o) -> h'.get? S = some { cls:=.type "list",dict:=none,data:=.seq acc' c',slots:=#[] } -> ZL h' xs ys base acc' n -> R (.ok (.ret res)) { s with heap:=h' }) ->
   codeAny (model prog w) A (.builtin "list.extend.loop" ⟨[.ref S,.ref z,res],[]⟩) R s:=by
 intro j
 induction j with
 | zero =>
  intro k s acc c hk hkn hst hTS hbs hS hacc hR
  have hin : k = n:=by exact o64 hk hkn
  subst hin
  refine codeAny_builtin F.entry_extend_loop ?_
  rw [Around.under_plainId F.plain_extend_loop _]
  show wpAny _ A.in1 (pyNext (.ref z) >>= _) _ _ s
  refine wpAny_bind (zst_end (A:=A.in1) hh D hst (by rw [Array.getElem?_eq_none (by exact o191 hx)]) fun h' hk'=>?_)
  refine wpAny_pure (hR h' acc c (fun b o _ c1 c2 c3 c4 e=>hk' b o c1 c2 c3 c4 e) (hk' _ _ (Ne.symm n1) (Ne.symm n3) (Ne.symm n4) (Ne.symm n5) hS) ⟨hacc.1,fun i x y hi h1 h2=>?_⟩)
  refine bc fun g0=>?_;obtain ⟨T,a1,a2,a3⟩:=hacc.2 i x y hi h1 h2;refine g0 ?_;clear g0
  exact ⟨T,a1,hk' _ _ (Nat.ne_of_gt (Nat.lt_of_lt_of_le b1 a3)) (Nat.ne_of_gt (Nat.lt_of_lt_of_le b3 a3)) (Nat.ne_of_gt (Nat.lt_of_lt_of_le b4 a3)) (Nat.ne_of_gt (Nat.lt_of_lt_of_le b5 a3)) a2,a3⟩
 | succ j ih =>
  intro k s acc c hk hkn hst hTS hbs hS hacc hR
  have hlt : k < n:=by exact o40 hk
  have ex : xs[k]? = some xs[k]:=Array.getElem?_eq_getElem (by exact o11 hlt hx)
  have ey : ys[k]? = some ys[k]:=Array.getElem?_eq_getElem (by exact o11 hlt hy)
  refine codeAny_builtin F.entry_extend_loop ?_
  rw [Around.under_plainId F.plain_extend_loop _]
  show wpAny _ A.in1 (pyNext (.ref z) >>= _) _ _ s
  refine wpAny_bind (zst_item (A:=A.in1) D hT1 hst ex ey fun h₁ st₁ hp hsz hT₁ hk₁=>?_)
  have hS₁:=hk₁ _ _ (Ne.symm n1) (Ne.symm n3) (Ne.symm n4) (Ne.symm n5) hS
  show wpAny _ A.in1 (updateSeq S (·.push _) >>= _) _ _ _
  refine wpAny_bind (wpAny_updateSeq hS₁ rfl ?_ (by rw [hacc.1,sizeLine_eq];exact o668 hlt hn) (by show (acc.push _).size <= sizeLine + 1;rw [Array.size_push,hacc.1,sizeLine_eq];exact o669 hlt hn))
  have oth : ∀ b o,b ≠ S -> h₁.get? b = some o -> (h₁.update S (Obj.mapSeq (·.push (.ref s.heap.objs.size)))).get? b = some o:=fun b o hb e=>(Heap.get?_update_other _ _ (Ne.symm hb)).trans e
  have hTB : ∀ T b,ZipAt h₁ z TI TO T b -> base <= T:=fun T b hz'=>by
   refine bc fun g0=>?_;rcases hT₁ T b hz' with e | ⟨b',h'⟩ <;> (refine g0 ?_;clear g0)
   ·rw [e];exact hbs
   ·exact hTS T b' h'
  have hTS₁ : ∀ T b,ZipAt h₁ z TI TO T b -> T ≠ S:=fun T b hz'=>Nat.ne_of_gt (Nat.lt_of_lt_of_le b6 (hTB T b hz'))
  refine wpAny_pure ⟨plainId_quiet F.plain_extend_loop _,ih (k + 1) _ (acc.push (.ref s.heap.objs.size)) _ (by exact o65 hk) hlt (st₁.keeps oth n1 n2 n3 n4 n5 n6 n7 hTS₁) (fun T b hz'=>?_) ?_ (Heap.get?_update_self _ hS₁ rfl) ⟨by rw [Array.size_push,hacc.1],fun i x y hi h1 h2=>?_⟩ fun h' acc' c' hk' hS' hacc'=>?_⟩
  ·have hz'' : ZipAt h₁ z TI TO T b:=(Heap.get?_update_other h₁ (Obj.mapSeq (·.push (.ref s.heap.objs.size))) (Ne.symm n1)).symm.trans hz'
   exact hTB T b hz''
  ·have e : (h₁.update S (Obj.mapSeq (·.push (.ref s.heap.objs.size)))).objs.size = h₁.objs.size:=(Heap.SameBut.update h₁ S (Obj.mapSeq (·.push (.ref s.heap.objs.size)))).1
   show base <= (h₁.update S (Obj.mapSeq (·.push (.ref s.heap.objs.size)))).objs.size
   rw [e,hsz]
   exact Nat.le_succ_of_le hbs
  ·refine bc fun g0=>?_;rcases Nat.lt_or_ge i k with hik | hik <;> (refine g0 ?_;clear g0)
   ·refine bc fun g0=>?_;obtain ⟨T,a1,a2,a3⟩:=hacc.2 i x y hik h1 h2;refine g0 ?_;clear g0
    refine ⟨T,?_,oth _ _ (Nat.ne_of_gt (Nat.lt_of_lt_of_le b6 a3)) (hk₁ _ _ (Nat.ne_of_gt (Nat.lt_of_lt_of_le b1 a3)) (Nat.ne_of_gt (Nat.lt_of_lt_of_le b3 a3)) (Nat.ne_of_gt (Nat.lt_of_lt_of_le b4 a3)) (Nat.ne_of_gt (Nat.lt_of_lt_of_le b5 a3)) a2),a3⟩
    rw [Array.getElem?_push,if_neg (by rw [hacc.1];exact o670 hik)]
    exact a1
   ·obtain rfl : i = k:=by exact o671 hi hik
    refine ⟨s.heap.objs.size,?_,oth _ _ (Nat.ne_of_gt (Nat.lt_of_lt_of_le b6 hbs)) ?_,hbs⟩
    ·rw [Array.getElem?_push,if_pos hacc.1.symm]
    ·rw [ex] at h1
     rw [ey] at h2
     cases h1
     cases h2
     exact hp
  ·exact hR h' acc' c' (fun b o c0 c1 c2 c3 c4 e=>hk' b o c0 c1 c2 c3 c4 (oth b o c0 (hk₁ b o c1 c2 c3 c4 e))) hS' hacc'
end
end
section
open PyProof.Rows
noncomputable def SetVals (S : Int -> Bool) (n : Nat) (vs : List Value) : Prop:=∃ ns,IntsAre vs ns /\ ns.Nodup /\ (∀ k,k ∈ ns ↔ S k = true) /\ ns.length = n
theorem fm_congr {α β : Type} {f g : α -> Option β} : ∀ {l : List α},(∀ x ∈ l,f x = g x) -> l.filterMap f = l.filterMap g
 | [],_=>rfl
 | x :: l,h=>by
  rw [List.filterMap_cons,List.filterMap_cons,h x (List.mem_cons_self ..),fm_congr fun y hy=>h y (List.mem_cons_of_mem _ hy)]
theorem slot_set_iter' : Slot "set" "__iter__" "set.__iter__":=F.slot_set_iter
section
variable {prog : Program} {w : World} {A : Around} {E : Value -> Shared -> Prop} {s : Shared} {a : Addr} {o : Obj} {S : Int -> Bool} {n : Nat}
theorem SetI.vals (hI : SetI prog w o S n) {es : Array (Int × Value)} {ep : Nat} {t : SetTable} (hd : o.data = .set es ep t) {vs : List Value} (hp : vs.Perm (es.toList.map (·.2))) : SetVals S n vs:=by
 refine bc fun g0=>?_;obtain ⟨hex,es',ep',t',hd',I,hf,hel,hm,hn,hap⟩:=hI;refine g0 ?_;clear g0
 rw [hd] at hd'
 injection hd' with q1 q2 q3
 subst q1
 have shape : ∀ e ∈ es.toList,∃ k tk,e.2 = .int k tk:=fun e he=>by
  refine bc fun g0=>?_;obtain ⟨⟨k,hk,_⟩,_⟩:=hel e he
  obtain ⟨tk,h⟩:=Value.isInt_shape hk;refine g0 ?_;clear g0
  exact ⟨k,tk,h⟩
 have all : ∀ v ∈ vs,∃ k tk,v = .int k tk:=fun v hv=>by
  refine bc fun g0=>?_;obtain ⟨e,he,rfl⟩:=List.mem_map.mp (hp.mem_iff.mp hv);refine g0 ?_;clear g0
  exact shape e he
 have pn : (vs.map numOf).Perm (es.toList.map fun e=>numOf e.2):=by
  have:=hp.map numOf
  rwa [List.map_map] at this
 have isn : ∀ e ∈ es.toList,∀ k,(intKind prog w).is k e.2 = true ↔ numOf e.2 = k:=fun e he k=>by
  refine bc fun g0=>?_;obtain ⟨k',tk,h⟩:=shape e he;refine g0 ?_;clear g0
  have h1 : (intKind prog w).is k' e.2 = true:=by
   rw [h]
   show Value.isInt k' (.int k' tk) = true
   simp [Value.isInt]
  have h2 : numOf e.2 = k':=by rw [h];rfl
  rw [h2]
  exact ⟨fun hk=>(intKind prog w).inj _ k' k h1 hk,fun hk=>hk ▸ h1⟩
 refine ⟨vs.map numOf,intsAre_map vs all,(pn.nodup_iff).mpr ?_,fun k=>?_,by rw [pn.length_eq,List.length_map,Array.length_toList,hn]⟩
 ·rw [List.nodup_iff_pairwise_ne,List.pairwise_map]
  refine List.Pairwise.imp_of_mem (fun {e e'} he he' h heq=>?_) hap
  exact h (numOf e.2) ((isn e he _).mpr rfl) ((isn e' he' _).mpr heq.symm)
 ·rw [pn.mem_iff,hm k,List.mem_map]
  exact ⟨fun ⟨e,he,h⟩=>⟨e,he,(isn e he k).mpr h⟩,fun ⟨e,he,h⟩=>⟨e,he,(isn e he k).mp h⟩⟩
theorem set_iter {Q : Value -> Shared -> Prop} (ho : s.heap.get? a = some o) (hI : SetI prog w o S n) (hn : n <= 4000)
  (h : ∀ I vs h' dr,Walked w h' I a vs 0 -> SetVals S n vs -> s.heap.objs.size <= I -> I < h'.objs.size -> (∀ b x,s.heap.get? b = some x -> h'.get? b = some x) -> Q (.ref I) { s with heap:=h',drawn:=dr }) :
  wpAny (model prog w) A (pyIter (.ref a)) Q E s:=by
 have hI0:=hI
 refine bc fun g0=>?_;obtain ⟨hex,es,ep,t,hd,I,hf,hel,hm,hes,hap⟩:=hI;refine g0 ?_;clear g0
 have hTy : s.TypeIs (.ref a) "set":=⟨_,ho,hex.1⟩
 refine wpAny_pyIter_slot hTy slot_set_iter' (wpAny_call_entry slot_set_iter' hTy entry_set_iter ?_ (F.args_set_iter_1 _))
 show wpAny _ _ (Builtin.Frozenset.sizeOf a >>= _) _ _ _
 refine wpAny_bind ?_
 unfold Builtin.Frozenset.sizeOf
 refine wpAny_bind (wpAny_setEntries_of ho hd hf (wpAny_pure ?_))
 refine wpAny_bind ?_
 unfold setDrawn
 refine wpAny_bind (wpAny_setState_of ho hd hf ?_)
 refine wpAny_bind (wpAny_setsByText ?_)
 refine wpAny_pure ?_
 show wpAny _ _ (if (!(w.params.followText "set-order") && drawnP es t) = true then _ else _) _ _ _
 have aI : ∀ h : Heap,(∀ b x,s.heap.get? b = some x -> h.get? b = some x) -> a ≠ h.objs.size:=fun h hk=>Nat.ne_of_lt (Heap.lt_size (hk _ _ ho))
 by_cases hdr : (!(w.params.followText "set-order") && drawnP es t) = true
 ·rw [if_pos hdr]
  refine wpAny_bind (wpAny_drawOrder es.size (List.range es.size) s _ (by simp) fun ys dr hp=>?_)
  have hl : ys.length = es.size:=by rw [hp.length_eq];simp
  refine wpAny_bind (wpAny_newTuple (items:=ys.map fun i : Nat=>rawInt i) ?_ (by rw [List.length_map,hl,sizeLine_eq];exact o110 hes hn))
  have ho1 : (s.heap.push { cls:=.type "tuple",data:=.seq (ys.map fun i : Nat=>rawInt i).toArray }).get? a = some o:=Heap.get?_push_of_some _ ho
  refine wpAny_bind (wpAny_setEpoch_of (s:={ s with heap:=_,drawn:=dr }) ho1 hd hf ?_)
  unfold newFields
  refine wpAny_bind (wpAny_newObj_type ?_ (by size_fits))
  have hkk : ∀ b x,s.heap.get? b = some x -> ((s.heap.push { cls:=.type "tuple",data:=.seq (ys.map fun i : Nat=>rawInt i).toArray }).push (itObj (.ref s.heap.objs.size) 0 a es.size ep)).get? b = some x :=
   fun b x e=>Heap.get?_push_of_some _ (Heap.get?_push_of_some _ e)
  have hTg : ((s.heap.push { cls:=.type "tuple",data:=.seq (ys.map fun i : Nat=>rawInt i).toArray }).push (itObj (.ref s.heap.objs.size) 0 a es.size ep)).get? s.heap.objs.size = some { cls:=.type "tuple",data:=.seq (ys.map fun i : Nat=>rawInt i).toArray } :=
   Heap.get?_push_of_some _ (Heap.get?_push_size _ rfl)
  have s1 : (s.heap.push { cls:=.type "tuple",data:=.seq (ys.map fun i : Nat=>rawInt i).toArray }).objs.size = s.heap.objs.size + 1:=Heap.size_push ..
  have hmem : ∀ j ∈ ys,j < es.size:=fun j hj=>by simpa using hp.mem_iff.mp hj
  refine wpAny_pure ⟨_,rfl, "set_iterator",_,⟨_,Heap.get?_push_size _ rfl,rfl⟩,slot_setiter_next.lookup,?_⟩
  have e1 : ys.filterMap (fun i=>(es[i]?).map (·.2)) = ys.map fun i=>(es.toList.map (·.2)).getD i .none:=by
   rw [<- List.filterMap_eq_map]
   refine fm_congr fun i hi=>?_
   have:=hmem i hi
   simp [this]
  refine h _ (ys.filterMap fun i=>(es[i]?).map (·.2)) _ dr ⟨o,es,ep,t,.ref s.heap.objs.size,hkk _ _ ho,hd,hf,I,?_,aI _ fun b x e=>Heap.get?_push_of_some _ e,Heap.get?_push_size _ rfl,.inr (.inr ⟨s.heap.objs.size,ys,rfl,?_,⟨0,hTg⟩,?_,?_⟩)⟩ (hI0.vals hd ?_) ?_ ?_ hkk
  ·rw [e1,List.length_map,hl]
  ·rw [s1];exact Nat.ne_of_lt (Nat.lt_succ_self _)
  ·rw [e1,List.length_map]
  ·intro i j hj
   have hjm:=hmem j (List.mem_of_getElem? hj)
   refine ⟨es[j],Array.getElem?_eq_getElem hjm,?_⟩
   rw [e1,List.getElem?_map,hj]
   simp [hjm]
  ·have e2:=hp.filterMap (fun i=>(es[i]?).map (·.2))
   refine e2.trans ?_
   have e3:=range_get (es.toList.map (·.2))
   rw [List.length_map,Array.length_toList] at e3
   have e4 : (List.range es.size).filterMap (fun i=>(es[i]?).map (·.2)) = es.toList.map (·.2):=by
    conv=>rhs;rw [<- e3]
    refine fm_congr fun i _=>?_
    simp
   rw [e4]
  ·rw [s1];exact Nat.le_succ _
  ·exact Nat.lt_of_lt_of_eq (Nat.lt_succ_self _) (Heap.size_push ..).symm
 ·rw [if_neg hdr]
  refine wpAny_bind (wpAny_pure ?_)
  refine wpAny_bind (wpAny_setEpoch_of ho hd hf ?_)
  unfold newFields
  refine wpAny_bind (wpAny_newObj_type ?_ (by size_fits))
  have hkk : ∀ b x,s.heap.get? b = some x -> (s.heap.push (itObj (rawInt 0) 0 a es.size ep)).get? b = some x:=fun b x e=>Heap.get?_push_of_some _ e
  refine wpAny_pure ⟨_,rfl, "set_iterator",_,⟨_,Heap.get?_push_size _ rfl,rfl⟩,slot_setiter_next.lookup,?_⟩
  have hlast : s.heap.objs.size < (s.heap.push (itObj (rawInt 0) 0 a es.size ep)).objs.size:=by rw [Heap.size_push];exact Nat.lt_succ_self _
  cases hb : w.params.followText "set-order" with
  | true =>
   have hperm:=pick_perm (w.params.setOrder a ep) es
   refine h _ ((pickOrder (w.params.setOrder a ep) es).toList.map (·.2)) _ s.drawn ⟨o,es,ep,t,rawInt 0,hkk _ _ ho,hd,hf,I,?_,aI _ (fun b x e=>e),Heap.get?_push_size _ rfl,.inl ⟨hb,⟨0,rfl⟩,rfl⟩⟩ (hI0.vals hd (hperm.map _)) (Nat.le_refl _) hlast hkk
   rw [List.length_map,hperm.length_eq,Array.length_toList]
  | false =>
   rw [hb] at hdr
   have hdr' : drawnP es t = false:=by simpa using hdr
   refine h _ (es.toList.map (·.2)) _ s.drawn ⟨o,es,ep,t,rawInt 0,hkk _ _ ho,hd,hf,I,by simp,aI _ (fun b x e=>e),Heap.get?_push_size _ rfl,.inr (.inl ⟨hb,hdr',⟨0,rfl,below_first _ I.asc⟩,rfl⟩)⟩ (hI0.vals hd (.refl _)) (Nat.le_refl _) hlast hkk
end
end
section
open PyProof.Rows
noncomputable abbrev lstObj (acc : Array Value) (c : Nat) : Obj:={ cls:=.type "list",dict:=none,data:=.seq acc c,slots:=#[] }
theorem Walked.other {w : World} {h h' : Heap} {I a L : Addr} {vs : List Value} {k : Nat} {acc : Array Value} {c : Nat} (W : Walked w h I a vs k) (hL : h.get? L = some (lstObj acc c)) (hs : ∀ b x,b ≠ L -> h.get? b = some x -> h'.get? b = some x) : Walked w h' I a vs k:=by
 refine bc fun g0=>?_;obtain ⟨o,es,ep,t,first,ho,hd,hf,hI,hn,haI,hit,hway⟩:=W.ex;refine g0 ?_;clear g0
 have naL : a ≠ L:=fun e=>by
  rw [e,hL] at ho
  cases ho
  cases hd
 have nIL : I ≠ L:=fun e=>by
  rw [e,hL] at hit
  have hc:=congrArg (Option.map Obj.cls) hit
  simp at hc
 refine ⟨o,es,ep,t,first,hs _ _ naL ho,hd,hf,hI,hn,haI,hs _ _ nIL hit,?_⟩
 refine bc fun g0=>?_;rcases hway with h1 | h2 | ⟨T,idx,e1,hTI,⟨nT,hT⟩,h3,h4⟩ <;> (refine g0 ?_;clear g0)
 ·exact .inl h1
 ·exact .inr (.inl h2)
 ·refine .inr (.inr ⟨T,idx,e1,hTI,⟨nT,hs _ _ (fun e=>?_) hT⟩,h3,h4⟩)
  rw [e,hL] at hT
  have hc:=congrArg (Option.map Obj.cls) hT
  simp at hc
section
variable {prog : Program} {w : World} {A : Around} {R : Result -> Shared -> Prop} {I a L : Addr} {vs : List Value} {res : Value}
theorem set_loop (hh : A.handled = none) (hn : vs.length <= 4000) :
  ∀ (j k : Nat) (s : Shared) (acc : Array Value) (c : Nat),vs.length - k = j -> k <= vs.length -> Walked w s.heap I a vs k -> s.heap.get? L = some (lstObj acc c) -> acc.toList = vs.take k ->
   (∀ h' c',(∀ b x,b ≠ L -> b ≠ I -> s.heap.get? b = some x -> h'.get? b = some x) -> h'.get? L = some (lstObj vs.toArray c') -> R (.ok (.ret res)) { s with heap:=h' }) ->
   codeAny (model prog w) A (.builtin "list.extend.loop" ⟨[.ref L,.ref I,res],[]⟩) R s:=by
 intro j
 induction j with
 | zero =>
  intro k s acc c hk hkn hW hL hacc hR
  have hkv : k = vs.length:=by exact o64 hk hkn
  have nIL : L ≠ I:=fun e=>by
   refine bc fun g0=>?_;obtain ⟨o,es,ep,t,first,ho,hd,hf,hI,hn,haI,hit,hway⟩:=hW.ex;refine g0 ?_;clear g0
   rw [<- e,hL] at hit
   have hc:=congrArg (Option.map Obj.cls) hit
   simp at hc
  refine codeAny_builtin F.entry_extend_loop ?_
  rw [Around.under_plainId F.plain_extend_loop _]
  show wpAny _ A.in1 (pyNext (.ref I) >>= _) _ _ s
  refine wpAny_bind (setnext_end (A:=A.in1) hh hW hkv fun h' hk'=>?_)
  have e : acc = vs.toArray:=by
   apply Array.toList_inj.mp
   rw [hacc,hkv,List.take_length]
  rw [e] at hL
  exact wpAny_pure (hR h' c (fun b x _ b1 e=>hk' b x b1 e) (hk' _ _ nIL hL))
 | succ j ih =>
  intro k s acc c hk hkn hW hL hacc hR
  have hlt : k < vs.length:=by exact o40 hk
  have hx : vs[k]? = some vs[k]:=List.getElem?_eq_getElem hlt
  have hsz : acc.size = k:=by rw [<- Array.length_toList,hacc,List.length_take];exact o369 hlt
  have nIL : L ≠ I:=fun e=>by
   refine bc fun g0=>?_;obtain ⟨o,es,ep,t,first,ho,hd,hf,hI,hn,haI,hit,hway⟩:=hW.ex;refine g0 ?_;clear g0
   rw [<- e,hL] at hit
   have hc:=congrArg (Option.map Obj.cls) hit
   simp at hc
  refine codeAny_builtin F.entry_extend_loop ?_
  rw [Around.under_plainId F.plain_extend_loop _]
  show wpAny _ A.in1 (pyNext (.ref I) >>= _) _ _ s
  refine wpAny_bind (setnext_item (A:=A.in1) hW hx fun h₁ hW₁ hs₁=>?_)
  have hL₁ : h₁.get? L = some (lstObj acc c):=(hs₁.2 _ nIL).trans hL
  show wpAny _ A.in1 (updateSeq L (·.push _) >>= _) _ _ _
  refine wpAny_bind (wpAny_updateSeq hL₁ rfl ?_ (by rw [hsz,sizeLine_eq];exact o370 hlt hn) (by show (acc.push _).size <= sizeLine + 1;rw [Array.size_push,hsz,sizeLine_eq];exact o371 hlt hn))
  have oth : ∀ b x,b ≠ L -> h₁.get? b = some x -> (h₁.update L (Obj.mapSeq (·.push vs[k]))).get? b = some x:=fun b x hb e=>(Heap.get?_update_other _ _ (Ne.symm hb)).trans e
  refine wpAny_pure ⟨plainId_quiet F.plain_extend_loop _,ih (k + 1) _ (acc.push vs[k]) _ (by exact o65 hk) hlt (hW₁.other hL₁ oth) (Heap.get?_update_self _ hL₁ rfl) ?_ fun h' c' hk' hL'=>?_⟩
  ·rw [Array.toList_push,hacc,List.take_add_one,hx];rfl
  ·exact hR h' c' (fun b x b1 b2 e=>hk' b x b1 b2 (oth b x b1 ((hs₁.2 _ b2).trans e))) hL'
end
section
variable {prog : Program} {w : World} {A : Around} {E : Value -> Shared -> Prop} {s : Shared} {a : Addr} {o : Obj} {S : Int -> Bool} {n : Nat}
theorem wpAny_yes {M : Model} {α : Type} {c : Prop} [Decidable c] {m m' : Sem α} {Q : α -> Shared -> Prop} (hc : c) (h : wpAny M A m Q E s) : wpAny M A (if c then m else m') Q E s:=by
 rw [if_pos hc];exact h
theorem wpAny_no {M : Model} {α : Type} {c : Prop} [Decidable c] {m m' : Sem α} {Q : α -> Shared -> Prop} (hc : ¬c) (h : wpAny M A m' Q E s) : wpAny M A (if c then m else m') Q E s:=by
 rw [if_neg hc];exact h
theorem split_set_len : splitId "set.__len__" = some ("set", "__len__"):=by decide +kernel
theorem sub_set_set : isSubtype (.type "set") (.type "set") = pure true:=by rw [isSubtype_type];kernel_rfl
theorem collect_set {Q : List Value -> Shared -> Prop} (hh : A.handled = none) (ho : s.heap.get? a = some o) (hI : SetI prog w o S n) (hn : n <= 4000)
  (h : ∀ vs h' dr,SetVals S n vs -> (∀ b x,s.heap.get? b = some x -> h'.get? b = some x) -> s.heap.objs.size <= h'.objs.size -> Q vs { s with heap:=h',drawn:=dr }) :
  wpAny (model prog w) A (collect (.ref a)) Q E s:=by
 have hex:=hI.1
 have la:=Heap.lt_size ho
 unfold collect
 refine wpAny_bind (wpAny_runValue (codeAny_builtin entry_proto_collect' ?_))
 show wpAny _ _ (do again (.builtin "list.__iadd__" ⟨[<- newList [],.ref a],[]⟩)) _ _ s
 refine wpAny_bind (wpAny_newList (wpAny_pure ⟨Code.quiet_builtin _ (by decide +kernel),codeAny_builtin entry_list_iadd' ?_⟩))
 show wpAny _ _ (Builtin.List.listExtendWith (.ref s.heap.objs.size) (.ref a) (.ref s.heap.objs.size)) _ _ { s with heap:=s.heap.push { cls:=.type "list",data:=.seq #[] } }
 have hL0 : (s.heap.push { cls:=.type "list",data:=.seq #[] }).get? s.heap.objs.size = some (lstObj #[] 0):=Heap.get?_push_size _ rfl
 have up0 : ∀ b x,s.heap.get? b = some x -> (s.heap.push { cls:=.type "list",data:=.seq #[] }).get? b = some x:=fun b x e=>Heap.get?_push_of_some _ e
 have sz0 : (s.heap.push { cls:=.type "list",data:=.seq #[] }).objs.size = s.heap.objs.size + 1:=Heap.size_push ..
 generalize hLd : s.heap.objs.size = L at *
 unfold Builtin.List.listExtendWith
 refine wpAny_bind (wpAny_typeOf (T := "set") ⟨_,up0 _ _ ho,hex.1⟩ ?_)
 have g1 : Builtin.List.listSameRef (.ref L) (.ref a) = false:=by simp [Builtin.List.listSameRef];exact Nat.ne_of_gt la
 have g2 : (Value.type "set" == Value.type "list") = false:=by decide
 have g3 : (Value.type "set" == Value.type "tuple") = false:=by decide
 simp only [g1,g2,g3,Bool.or_false,Bool.false_eq_true,if_false]
 refine wpAny_bind (set_iter (s:={ s with heap:=s.heap.push { cls:=.type "list",data:=.seq #[] } }) (up0 _ _ ho) hI hn fun I vs h₁ dr hW hV hI1 hI2 hk₁=>?_)
 have hvl : vs.length = n:=by obtain ⟨ns,a1,a2,a3,a4⟩:=hV;rw [<- a4];exact a1.length
 have hSt : ({ s with heap:=h₁,drawn:=dr } : Shared).TypeIs (.ref a) "set":=⟨_,hk₁ _ _ (up0 _ _ ho),hex.1⟩
 refine wpAny_bind (wpAny_holding ?_)
 unfold Builtin.List.listLengthHint
 refine wpAny_bind (wpAny_specialOf hSt F.slot_set_len.lookup ?_)
 dsimp only
 rw [split_set_len]
 dsimp only
 refine wpAny_bind (wpAny_isInstance hSt sub_set_set ?_)
 refine wpAny_no (by decide) ?_
 refine wpAny_yes (by decide +kernel) ?_
 refine wpAny_bind (wpAny_typeOf hSt ?_)
 dsimp only
 refine wpAny_pure ?_
 refine wpAny_yes (by decide +kernel) ?_
 refine wpAny_bind (wpAny_rule ?_)
 have hL₁ : h₁.get? L = some (lstObj #[] 0):=hk₁ _ _ hL0
 refine wpAny_bind ?_
 show wpAny _ _ (updateSeq L (·.push .none) >>= fun _=>updateSeq L (·.pop)) _ _ _
 refine wpAny_bind (wpAny_updateSeq hL₁ rfl ?_)
 have hL₂:=Heap.get?_update_self (Obj.mapSeq (·.push Value.none)) hL₁ rfl
 refine wpAny_updateSeq (hz:=by seq_fits) hL₂ rfl ?_
 have hL₃:=Heap.get?_update_self (Obj.mapSeq (·.pop)) hL₂ rfl
 have oth : ∀ b x,b ≠ L -> h₁.get? b = some x -> ((h₁.update L (Obj.mapSeq (·.push Value.none))).update L (Obj.mapSeq (·.pop))).get? b = some x:=fun b x hb e =>
  (Heap.get?_update_other _ _ (Ne.symm hb)).trans ((Heap.get?_update_other _ _ (Ne.symm hb)).trans e)
 have szz : ((h₁.update L (Obj.mapSeq (·.push Value.none))).update L (Obj.mapSeq (·.pop))).objs.size = h₁.objs.size:=by
  rw [(Heap.SameBut.update _ L _).1,(Heap.SameBut.update _ L _).1]
 refine wpAny_pure ⟨plainId_quiet F.plain_extend_loop _,?_⟩
 refine set_loop hh (by exact o372 hvl hn) vs.length 0 _ #[] _ (by exact o373) (Nat.zero_le _) (hW.other hL₁ oth) hL₃ rfl fun h' c' hk' hL'=>?_
 have hLn : L <= h'.objs.size:=Nat.le_of_lt (Heap.lt_size hL')
 show wpAny _ _ (load L >>= _) _ _ _
 refine wpAny_bind (wpAny_load hL' ?_)
 show wpAny _ _ (pure vs.toArray.toList) _ _ _
 rw [List.toList_toArray]
 refine wpAny_pure (h vs h' dr hV (fun b x e=>?_) hLn)
 have hbL : b < L:=hLd ▸ Heap.lt_size e
 exact hk' b x (Nat.ne_of_lt hbL) (fun q=>by
  have hI1' : L + 1 <= I:=by rw [<- sz0];exact hI1
  exact Nat.lt_irrefl b (Nat.lt_of_lt_of_le hbL (by rw [q];exact Nat.le_of_succ_le hI1'))) (oth b x (Nat.ne_of_lt hbL) (hk₁ _ _ (up0 _ _ e)))
end
end
section
open PyProof.Rows
section
variable {prog : Program} {w : World} {A : Around} {E : Value -> Shared -> Prop} {s : Shared} {a : Addr} {o : Obj} {S : Int -> Bool} {n : Nat} {vs : List Value} {ns : List Int}
theorem pairs_keys (hI : IntsAre vs ns) : (pairsOf vs).toList.map kN = ns:=by
 rw [pairsOf_toList]
 have : (vs.zip vs).map kN = ((vs.zip vs).map Prod.fst).map numOf:=by rw [List.map_map];rfl
 rw [this,List.map_fst_zip (Nat.le_refl _),hI.nums]
theorem list_sort_big {c : Nat} {P : PySem.Fin -> Shared -> Prop} (ho : s.heap.get? a = some (seqObj "list" vs.toArray c)) (hI : IntsAre vs ns) (hnd : ns.Nodup) (hlen : vs.length <= 4000)
  (h : ∀ (out : Array Value) (ns' : List Int),IntsAre out.toList ns' -> ns'.Perm ns -> ns'.Pairwise (· <= ·) -> P (.done (.ret .none)) { s with heap:=sortedHeap s.heap a vs out }) :
  wpAny (model prog w) A (Builtin.«list.sort» ⟨[.ref a],[]⟩) P E s:=by
 by_cases h64 : vs.length < 64
 ·exact list_sort_tree ho hI h64 h
 obtain ⟨v₁,v₂,rest,ev⟩ : ∃ v₁ v₂ rest,vs = v₁ :: v₂ :: rest:=by
  match vs,h64 with
  | [],q=>simp at q
  | [_],q=>simp at q
  | v₁ :: v₂ :: rest,_=>exact ⟨v₁,v₂,rest,rfl⟩
 have la:=Heap.lt_size ho
 have sz : vs.toArray.size = vs.length:=by simp
 rw [list_sort_plain]
 refine wpAny_bind (listItems_at ho rfl ?_)
 refine wpAny_bind (listUpdate_at ho rfl ?_)
 obtain ⟨e1,ho1⟩ : ∃ e1,(s.heap.update a (Obj.mapSeq fun _=>#[])).get? a = some (seqObj "list" #[] e1):=⟨_,get?_update_seq ho (fun _=>#[])⟩
 refine wpAny_bind (seqEpoch_at ho1 rfl ?_)
 refine wpAny_bind (wpAny_newTuple ?_)
 refine wpAny_bind (wpAny_newList ?_)
 refine wpAny_holding ?_
 have ho6 : (((s.heap.update a (Obj.mapSeq fun _=>#[])).push (seqObj "tuple" vs.toArray 0)).push (seqObj "list" #[] 0)).get? a = some (seqObj "list" #[] e1) :=
  Heap.get?_push_of_some _ (Heap.get?_push_of_some _ ho1)
 show wpAny (model prog w) A _ P E { s with heap:=((s.heap.update a (Obj.mapSeq fun _=>#[])).push (seqObj "tuple" vs.toArray 0)).push (seqObj "list" #[] 0) }
 dsimp only
 have h2 : ¬ vs.toArray.size < 2:=by exact o374 sz h64
 rw [if_neg h2,if_neg h2]
 have hkk : keyKind' vs.toArray = pure oneType':=by subst ev;exact keyKind_ints hI
 rw [hkk]
 refine wpAny_bind (wpAny_pure ?_)
 refine wpAny_bind (wpAny_mono (wpS_sortG (a₀:=pairsOf vs) (st:=SortSt.mk' oneType' (vs.toArray.zip vs.toArray) #[] 7 none)
  (Q:=fun _ st'=>SGd (pairsOf vs) st' /\ SegS (arrOf st') 0 (pairsOf vs).size) hI.intKeys (by rw [pairs_keys hI];exact hnd) ⟨Array.Perm.refl _,rfl,rfl⟩ rfl fun st' a1 a2=>⟨a1,a2⟩) ?_ fun _ _ e=>e)
 rintro ⟨⟨⟩,st'⟩ s' ⟨rfl,hG,hs⟩
 dsimp only
 refine wpAny_bind (seqEpoch_at ho6 rfl ?_)
 refine wpAny_bind (listUpdate_at ho6 rfl ?_ (hsz2:=by refine Nat.le_trans (Nat.le_of_eq ((Array.size_map ..).trans (hG.perm.size_eq.trans (pairsOf_size _)))) ?_;rw [sizeLine_eq];exact o375 hlen))
 rw [hG.failed]
 simp only [bne_self_eq_false,Bool.false_eq_true,if_false]
 obtain ⟨ns',b1,b2,b3⟩:=sorted_out hI hG.perm fun i j hij hj=>hs i j (Nat.zero_le _) hij hj
 exact wpAny_pure (h _ ns' b1 b2 b3)
theorem sorted_set {Q : Value -> Shared -> Prop} (hh : A.handled = none) (ho : s.heap.get? a = some o) (hI : SetI prog w o S n) (hn : n <= 4000)
  (h : ∀ D vs' ns' c h' dr,h'.get? D = some (seqObj "list" vs'.toArray c) -> IntsAre vs' ns' -> ns'.Pairwise (· < ·) -> (∀ k,k ∈ ns' ↔ S k = true) -> ns'.length = n -> (∀ b x,s.heap.get? b = some x -> h'.get? b = some x) -> s.heap.objs.size <= D ->
   Q (.ref D) { s with heap:=h',drawn:=dr }) :
  wpAny (model prog w) A (call (.builtin "sorted") [.ref a]) Q E s:=by
 refine Calls.call_function_entry kind_sorted plain_sorted entry_sorted (args_sorted1 _) ?_
 unfold Builtin.«sorted»
 refine wpAny_bind (m:=checkCount "sorted" 1 1 _) (wpAny_pure ?_)
 refine wpAny_bind (collect_set hh ho hI hn fun vs h₁ dr hV hk₁ hsz₁=>?_)
 obtain ⟨ns,hIA,hnd,hmem,hln⟩:=hV
 have hlen : vs.length <= 4000:=by rw [hIA.length,hln];exact hn
 refine wpAny_bind (wpAny_newList ?_ (by rw [sizeLine_eq];exact o114 hlen))
 have hoL : (h₁.push (seqObj "list" vs.toArray 0)).get? h₁.objs.size = some (seqObj "list" vs.toArray 0):=Heap.get?_push_size _ rfl
 have up : ∀ b x,h₁.get? b = some x -> (h₁.push (seqObj "list" vs.toArray 0)).get? b = some x:=fun b x e=>Heap.get?_push_of_some _ e
 show wpAny _ _ _ _ _ { s with heap:=h₁.push (seqObj "list" vs.toArray 0),drawn:=dr }
 refine wpAny_bind (wpAny_holding (wpAny_call_entry slot_list_sort ⟨_,hoL,rfl⟩ entry_list_sort (list_sort_big hoL hIA hnd hlen fun out ns' a1 a2 a3=>⟨_,rfl,?_⟩) (args_list_sort _)))
 obtain ⟨e,he⟩:=sortedHeap_at (out:=out) hoL
 refine wpAny_pure ⟨_,rfl,h _ out.toList ns' e _ dr (by rw [Array.toArray_toList];exact he) a1 ?_ (fun k=>a2.mem_iff.trans (hmem k)) (a2.length_eq.trans hln) (fun b x hb=>?_) hsz₁⟩
 ·have hnd' : ns'.Nodup:=a2.nodup_iff.mpr hnd
  rw [List.nodup_iff_pairwise_ne] at hnd'
  exact (a3.and hnd').imp fun ⟨p,q⟩=>by (first | exact o376 (by assumption) | omega)
 ·have hb1:=hk₁ b x hb
  have hlt:=Heap.lt_size hb1
  rw [sortedHeap_old (Nat.ne_of_lt hlt) (Nat.lt_of_lt_of_eq (Nat.lt_succ_of_lt hlt) (Heap.size_push ..).symm)]
  exact up b x hb1
end
end
section
open PyProof.Rows PySem.W
abbrev pw : Program:=PySem.Challenge.pw_ik0162_01
noncomputable def topAt (i : Nat) : Stmt:=match pw.main.body[i]? with
 | some s=>s
 | none=>.Pass ⟨0,0,0,0⟩
noncomputable def dParams (i : Nat) : Arguments:=match topAt i with
 | .FunctionDef _ a _ _ _ _ _ _ _ _=>a
 | _=>⟨[],[],none,[],[],none,[]⟩
noncomputable def dBody (i : Nat) : List Stmt:=match topAt i with
 | .FunctionDef _ _ b _ _ _ _ _ _ _=>b
 | _=>[]
noncomputable def dScope (i : Nat) : Scope:=match topAt i with
 | .FunctionDef _ _ _ _ _ _ s _ _ _=>s
 | _=>pw.main.scope
abbrev lhsOf {α : Sort _} {a b : α} (_ : a = b) : α:=a
abbrev kE (P : Params) (x : Str) (t : Tok) (v : Value) : DictEntry:=⟨PyData.keyHash P x,.str x t,v⟩
noncomputable def punquote : Arguments:=by
 have h : dParams 15 = dParams 15:=rfl
 conv at h=>lhs;whnf
 exact lhsOf h
noncomputable def bunquote : List Stmt:=by
 have h : dBody 15 = dBody 15:=rfl
 conv at h=>lhs;whnf
 exact lhsOf h
noncomputable def sunquote : Scope:=by
 have h : dScope 15 = dScope 15:=rfl
 conv at h=>lhs;whnf
 exact lhsOf h
noncomputable def pquote : Arguments:=by
 have h : dParams 16 = dParams 16:=rfl
 conv at h=>lhs;whnf
 exact lhsOf h
noncomputable def bquote : List Stmt:=by
 have h : dBody 16 = dBody 16:=rfl
 conv at h=>lhs;whnf
 exact lhsOf h
noncomputable def squote : Scope:=by
 have h : dScope 16 = dScope 16:=rfl
 conv at h=>lhs;whnf
 exact lhsOf h
noncomputable def pdecode : Arguments:=by
 have h : dParams 20 = dParams 20:=rfl
 conv at h=>lhs;whnf
 exact lhsOf h
noncomputable def bdecode : List Stmt:=by
 have h : dBody 20 = dBody 20:=rfl
 conv at h=>lhs;whnf
 exact lhsOf h
noncomputable def sdecode : Scope:=by
 have h : dScope 20 = dScope 20:=rfl
 conv at h=>lhs;whnf
 exact lhsOf h
noncomputable def puunquoteumatch : Arguments:=by
 have h : dParams 21 = dParams 21:=rfl
 conv at h=>lhs;whnf
 exact lhsOf h
noncomputable def buunquoteumatch : List Stmt:=by
 have h : dBody 21 = dBody 21:=rfl
 conv at h=>lhs;whnf
 exact lhsOf h
noncomputable def suunquoteumatch : Scope:=by
 have h : dScope 21 = dScope 21:=rfl
 conv at h=>lhs;whnf
 exact lhsOf h
noncomputable def pheaderudecode : Arguments:=by
 have h : dParams 22 = dParams 22:=rfl
 conv at h=>lhs;whnf
 exact lhsOf h
noncomputable def bheaderudecode : List Stmt:=by
 have h : dBody 22 = dBody 22:=rfl
 conv at h=>lhs;whnf
 exact lhsOf h
noncomputable def sheaderudecode : Scope:=by
 have h : dScope 22 = dScope 22:=rfl
 conv at h=>lhs;whnf
 exact lhsOf h
noncomputable def pescape : Arguments:=by
 have h : dParams 26 = dParams 26:=rfl
 conv at h=>lhs;whnf
 exact lhsOf h
noncomputable def bescape : List Stmt:=by
 have h : dBody 26 = dBody 26:=rfl
 conv at h=>lhs;whnf
 exact lhsOf h
noncomputable def sescape : Scope:=by
 have h : dScope 26 = dScope 26:=rfl
 conv at h=>lhs;whnf
 exact lhsOf h
noncomputable def putranslate : Arguments:=by
 have h : dParams 28 = dParams 28:=rfl
 conv at h=>lhs;whnf
 exact lhsOf h
noncomputable def butranslate : List Stmt:=by
 have h : dBody 28 = dBody 28:=rfl
 conv at h=>lhs;whnf
 exact lhsOf h
noncomputable def sutranslate : Scope:=by
 have h : dScope 28 = dScope 28:=rfl
 conv at h=>lhs;whnf
 exact lhsOf h
noncomputable def pheappush : Arguments:=by
 have h : dParams 30 = dParams 30:=rfl
 conv at h=>lhs;whnf
 exact lhsOf h
noncomputable def bheappush : List Stmt:=by
 have h : dBody 30 = dBody 30:=rfl
 conv at h=>lhs;whnf
 exact lhsOf h
noncomputable def sheappush : Scope:=by
 have h : dScope 30 = dScope 30:=rfl
 conv at h=>lhs;whnf
 exact lhsOf h
noncomputable def pheappop : Arguments:=by
 have h : dParams 31 = dParams 31:=rfl
 conv at h=>lhs;whnf
 exact lhsOf h
noncomputable def bheappop : List Stmt:=by
 have h : dBody 31 = dBody 31:=rfl
 conv at h=>lhs;whnf
 exact lhsOf h
noncomputable def sheappop : Scope:=by
 have h : dScope 31 = dScope 31:=rfl
 conv at h=>lhs;whnf
 exact lhsOf h
noncomputable def pheapreplace : Arguments:=by
 have h : dParams 32 = dParams 32:=rfl
 conv at h=>lhs;whnf
 exact lhsOf h
noncomputable def bheapreplace : List Stmt:=by
 have h : dBody 32 = dBody 32:=rfl
 conv at h=>lhs;whnf
 exact lhsOf h
noncomputable def sheapreplace : Scope:=by
 have h : dScope 32 = dScope 32:=rfl
 conv at h=>lhs;whnf
 exact lhsOf h
noncomputable def pusiftdown : Arguments:=by
 have h : dParams 33 = dParams 33:=rfl
 conv at h=>lhs;whnf
 exact lhsOf h
noncomputable def busiftdown : List Stmt:=by
 have h : dBody 33 = dBody 33:=rfl
 conv at h=>lhs;whnf
 exact lhsOf h
noncomputable def susiftdown : Scope:=by
 have h : dScope 33 = dScope 33:=rfl
 conv at h=>lhs;whnf
 exact lhsOf h
noncomputable def pusiftup : Arguments:=by
 have h : dParams 34 = dParams 34:=rfl
 conv at h=>lhs;whnf
 exact lhsOf h
noncomputable def busiftup : List Stmt:=by
 have h : dBody 34 = dBody 34:=rfl
 conv at h=>lhs;whnf
 exact lhsOf h
noncomputable def susiftup : Scope:=by
 have h : dScope 34 = dScope 34:=rfl
 conv at h=>lhs;whnf
 exact lhsOf h
noncomputable def pulawustretches : Arguments:=by
 have h : dParams 36 = dParams 36:=rfl
 conv at h=>lhs;whnf
 exact lhsOf h
noncomputable def bulawustretches : List Stmt:=by
 have h : dBody 36 = dBody 36:=rfl
 conv at h=>lhs;whnf
 exact lhsOf h
noncomputable def sulawustretches : Scope:=by
 have h : dScope 36 = dScope 36:=rfl
 conv at h=>lhs;whnf
 exact lhsOf h
noncomputable def pulawufences : Arguments:=by
 have h : dParams 37 = dParams 37:=rfl
 conv at h=>lhs;whnf
 exact lhsOf h
noncomputable def bulawufences : List Stmt:=by
 have h : dBody 37 = dBody 37:=rfl
 conv at h=>lhs;whnf
 exact lhsOf h
noncomputable def sulawufences : Scope:=by
 have h : dScope 37 = dScope 37:=rfl
 conv at h=>lhs;whnf
 exact lhsOf h
noncomputable def pulawupatterns : Arguments:=by
 have h : dParams 38 = dParams 38:=rfl
 conv at h=>lhs;whnf
 exact lhsOf h
noncomputable def bulawupatterns : List Stmt:=by
 have h : dBody 38 = dBody 38:=rfl
 conv at h=>lhs;whnf
 exact lhsOf h
noncomputable def sulawupatterns : Scope:=by
 have h : dScope 38 = dScope 38:=rfl
 conv at h=>lhs;whnf
 exact lhsOf h
noncomputable def pulawufigures : Arguments:=by
 have h : dParams 39 = dParams 39:=rfl
 conv at h=>lhs;whnf
 exact lhsOf h
noncomputable def bulawufigures : List Stmt:=by
 have h : dBody 39 = dBody 39:=rfl
 conv at h=>lhs;whnf
 exact lhsOf h
noncomputable def sulawufigures : Scope:=by
 have h : dScope 39 = dScope 39:=rfl
 conv at h=>lhs;whnf
 exact lhsOf h
noncomputable def pulawutaken : Arguments:=by
 have h : dParams 40 = dParams 40:=rfl
 conv at h=>lhs;whnf
 exact lhsOf h
noncomputable def bulawutaken : List Stmt:=by
 have h : dBody 40 = dBody 40:=rfl
 conv at h=>lhs;whnf
 exact lhsOf h
noncomputable def sulawutaken : Scope:=by
 have h : dScope 40 = dScope 40:=rfl
 conv at h=>lhs;whnf
 exact lhsOf h
noncomputable def plaw : Arguments:=by
 have h : dParams 41 = dParams 41:=rfl
 conv at h=>lhs;whnf
 exact lhsOf h
noncomputable def blaw : List Stmt:=by
 have h : dBody 41 = dBody 41:=rfl
 conv at h=>lhs;whnf
 exact lhsOf h
noncomputable def slaw : Scope:=by
 have h : dScope 41 = dScope 41:=rfl
 conv at h=>lhs;whnf
 exact lhsOf h
def hx (i : Nat) : Nat:=if i < 10 then 48 + i else 55 + i
def quo (i : Nat) : Str:=⟨#[61,hx (i / 16),hx (i % 16)]⟩
noncomputable def mapVals : List Value:=(List.range 256).map fun i=>.str (quo i) (325 + 4 * i)
noncomputable def K (P : Params) : Frag :=
 (nat_lit 2,⟨.none,none,.dict [kE P (Str.ofString "\x69mport.loaded._sre") 183 (.bool true),kE P (Str.ofString "class._frozen_importlib.BuiltinImporter") 185 (.ref 14),kE P (Str.ofString "watched.\x69mport") 206 (.ref 18),kE P (Str.ofString "class._frozen_importlib.ModuleSpec") 216 (.ref 22),kE P (Str.ofString "sys.modules.booked-epoch") 245 (.int 3 0),kE P (Str.ofString "\x69mport.later-laid._sre") 270 (.bool true),kE P (Str.ofString "watched.library") 272 (.ref 27),kE P (Str.ofString "watched.library-objects") 0 (.str (Str.mk #[12]) 0),kE P (Str.ofString "watched.library-deep._sre") 273 (.str (Str.mk #[4,0,0,11,4,0,0,11,4,0,0,3,4,0,0,11,8,4,100,105,99,116,2]) 0)].toArray 9,#[]⟩) ::
 (nat_lit 3,⟨.type "dict",none,.dict [kE P (Str.ofString "__name__") 165 (.str (Str.ofString "law_ik0162_01") 2178),kE P (Str.ofString "__doc__") 166 (.none),kE P (Str.ofString "__package__") 167 (.none),kE P (Str.ofString "__loader__") 168 (.builtin "__main__.__loader__#opaque"),kE P (Str.ofString "__spec__") 169 (.none),kE P (Str.ofString "__annotations__") 170 (.ref 6),kE P (Str.ofString "__builtins__") 171 (.ref 4),kE P (Str.ofString "__file__") 173 (.str (Str.ofString "/claim/cut.py") 172),kE P (Str.ofString "__cached__") 174 (.none),kE P (Str.ofString "_sre") 275 (.ref 12),kE P (Str.ofString "twin_re_1_quoprimime") 316 (.ref 36),kE P (Str.ofString "NL") 318 (.str (Str.mk #[10]) 317),kE P (Str.ofString "_QUOPRI_MAP") 1346 (.ref 39),kE P (Str.ofString "_QUOPRI_HEADER_MAP") 1347 (.ref 44),kE P (Str.ofString "_QUOPRI_BODY_MAP") 1348 (.ref 46),kE P (Str.ofString "ascii_lowercase") 1350 (.str (Str.ofString "abcdefghijklmnopqrstuvwxyz") 1349),kE P (Str.ofString "ascii_uppercase") 1352 (.str (Str.ofString "ABCDEFGHIJKLMNOPQRSTUVWXYZ") 1351),kE P (Str.ofString "ascii_letters") 1354 (.str (Str.ofString "abcdefghijklmnopqrstuvwxyzABCDEFGHIJKLMNOPQRSTUVWXYZ") 1353),kE P (Str.ofString "digits") 1356 (.str (Str.ofString "0123456789") 1355),kE P (Str.ofString "hexdigits") 1361 (.str (Str.ofString "0123456789abcdefABCDEF") 1360),kE P (Str.ofString "unquote") 1867 (.ref 59),kE P (Str.ofString "quote") 1874 (.ref 66),kE P (Str.ofString "_QUOPRI_BODY_ENCODE_MAP") 1875 (.ref 68),kE P (Str.ofString "decode") 1895 (.ref 79),kE P (Str.ofString "_unquote_match") 1903 (.ref 86),kE P (Str.ofString "header_decode") 1910 (.ref 93),kE P (Str.ofString "twin_re_1_fnmatch") 1948 (.ref 98),kE P (Str.ofString "_special_chars_map") 2096 (.ref 100),kE P (Str.ofString "escape") 2103 (.ref 110),kE P (Str.ofString "_translate") 2124 (.ref 117),kE P (Str.ofString "heappush") 2134 (.ref 124),kE P (Str.ofString "heappop") 2143 (.ref 131),kE P (Str.ofString "heapreplace") 2152 (.ref 138),kE P (Str.ofString "_siftdown") 2164 (.ref 145),kE P (Str.ofString "_siftup") 2177 (.ref 152),kE P (Str.ofString "_law_stretches") 2188 (.ref 159),kE P (Str.ofString "_law_fences") 2202 (.ref 166),kE P (Str.ofString "_law_patterns") 2213 (.ref 173),kE P (Str.ofString "_law_figures") 2219 (.ref 178),kE P (Str.ofString "_law_taken") 2225 (.ref 183),kE P (Str.ofString "law") 2231 (.ref 188)].toArray 43,#[]⟩) ::
 (nat_lit 35,⟨.type "tuple",none,.seq #[.int 14 0,.int 8 0,.int 1 0,.int 3 0,.int 3 0,.int 1 0,.int 1 0,.int 61 0,.int 0 0,.int 16 0,.int 61 0,.int 24 0,.int 16 0,.int 2 0,.int 2 0,.int 13 0,.int 11 0,.int 9 0,.int 0 0,.int 67043328 0,.int 126 0,.int 126 0,.int 0 0,.int 0 0,.int 0 0,.int 0 0,.int 0 0,.int 1 0,.int 1 0] 0,#[]⟩) ::
 (nat_lit 36,⟨.type "re.Pattern",none,.fields #[.str (Str.ofString "=[a-fA-F0-9]{2}") 283,.int 256 315,.int 0 0,.none,.none,.ref 35,.int 0 0],#[]⟩) ::
 (nat_lit 39,⟨.type "list",none,.seq mapVals.toArray 256,#[]⟩) ::
 (nat_lit 58,⟨.type "code",none,.fields #[.str (Str.ofString "unquote") 1861,.str (Str.ofString "unquote") 1862,.str (Str.ofString "/claim/cut.py") 1863,.int 18 0,.int 1 0,.int 0 0,.int 0 0,.int 3 0,.ref 53,.bool true,.int 276 0,.ref 54,.none,.ref 55,.ref 56,.ref 57,.int 1865 0,.int 18 0,.str (Str.ofString "/claim/cut.py") 1866],#[]⟩) ::
 (nat_lit 59,⟨.type "function",none,.func (fnOf (Str.ofString "unquote") (Str.ofString "unquote") punquote bunquote sunquote (.none) (.none) (.none) (.str (Str.ofString "cpy313.email.quoprimime") 1362) none (.ref 58) (.none)),#[]⟩) ::
 (nat_lit 65,⟨.type "code",none,.fields #[.str (Str.ofString "quote") 1868,.str (Str.ofString "quote") 1869,.str (Str.ofString "/claim/cut.py") 1870,.int 20 0,.int 1 0,.int 0 0,.int 0 0,.int 3 0,.ref 60,.bool true,.int 276 0,.ref 61,.none,.ref 62,.ref 63,.ref 64,.int 1872 0,.int 20 0,.str (Str.ofString "/claim/cut.py") 1873],#[]⟩) ::
 (nat_lit 66,⟨.type "function",none,.func (fnOf (Str.ofString "quote") (Str.ofString "quote") pquote bquote squote (.none) (.none) (.none) (.str (Str.ofString "cpy313.email.quoprimime") 1362) none (.ref 65) (.none)),#[]⟩) ::
 (nat_lit 72,⟨.type "tuple",none,.seq #[.str (Str.mk #[10]) 317] 0,#[]⟩) ::
 (nat_lit 78,⟨.type "code",none,.fields #[.str (Str.ofString "decode") 1883,.str (Str.ofString "decode") 1884,.str (Str.ofString "/claim/cut.py") 1885,.int 26 0,.int 2 0,.int 0 0,.int 0 0,.int 3 0,.ref 73,.bool true,.int 276 0,.ref 74,.none,.ref 75,.ref 76,.ref 77,.int 1893 0,.int 26 0,.str (Str.ofString "/claim/cut.py") 1894],#[]⟩) ::
 (nat_lit 79,⟨.type "function",none,.func (fnOf (Str.ofString "decode") (Str.ofString "decode") pdecode bdecode sdecode (.ref 72) (.none) (.none) (.str (Str.ofString "cpy313.email.quoprimime") 1362) none (.ref 78) (.none)),#[]⟩) ::
 (nat_lit 85,⟨.type "code",none,.fields #[.str (Str.ofString "_unquote_match") 1896,.str (Str.ofString "_unquote_match") 1897,.str (Str.ofString "/claim/cut.py") 1898,.int 56 0,.int 1 0,.int 0 0,.int 0 0,.int 3 0,.ref 80,.bool true,.int 276 0,.ref 81,.none,.ref 82,.ref 83,.ref 84,.int 1901 0,.int 56 0,.str (Str.ofString "/claim/cut.py") 1902],#[]⟩) ::
 (nat_lit 86,⟨.type "function",none,.func (fnOf (Str.ofString "_unquote_match") (Str.ofString "_unquote_match") puunquoteumatch buunquoteumatch suunquoteumatch (.none) (.none) (.none) (.str (Str.ofString "cpy313.email.quoprimime") 1362) none (.ref 85) (.none)),#[]⟩) ::
 (nat_lit 92,⟨.type "code",none,.fields #[.str (Str.ofString "header_decode") 1904,.str (Str.ofString "header_decode") 1905,.str (Str.ofString "/claim/cut.py") 1906,.int 59 0,.int 1 0,.int 0 0,.int 0 0,.int 3 0,.ref 87,.bool true,.int 276 0,.ref 88,.none,.ref 89,.ref 90,.ref 91,.int 1908 0,.int 59 0,.str (Str.ofString "/claim/cut.py") 1909],#[]⟩) ::
 (nat_lit 93,⟨.type "function",none,.func (fnOf (Str.ofString "header_decode") (Str.ofString "header_decode") pheaderudecode bheaderudecode sheaderudecode (.none) (.none) (.none) (.str (Str.ofString "cpy313.email.quoprimime") 1362) none (.ref 92) (.none)),#[]⟩) ::
 (nat_lit 97,⟨.type "tuple",none,.seq #[.int 14 0,.int 14 0,.int 4 0,.int 1 0,.int 1 0,.int 9 0,.int 0 0,.int 64 0,.int 0 0,.int 1342177280 0,.int 0 0,.int 0 0,.int 0 0,.int 0 0,.int 0 0,.int 17 0,.int 0 0,.int 13 0,.int 11 0,.int 9 0,.int 0 0,.int 64 0,.int 0 0,.int 1342177280 0,.int 0 0,.int 0 0,.int 0 0,.int 0 0,.int 0 0,.int 17 0,.int 1 0,.int 1 0] 0,#[]⟩) ::
 (nat_lit 98,⟨.type "re.Pattern",none,.fields #[.str (Str.ofString "([&~|])") 1912,.int 32 1947,.int 1 0,.none,.none,.ref 97,.int 0 0],#[]⟩) ::
 (nat_lit 100,⟨.type "dict",none,.dict [⟨40,.int 40 1952,.str (Str.ofString "\\(") 1956⟩,⟨41,.int 41 1958,.str (Str.ofString "\\)") 1962⟩,⟨91,.int 91 1964,.str (Str.ofString "\\[") 1968⟩,⟨93,.int 93 1970,.str (Str.ofString "\\]") 1974⟩,⟨123,.int 123 1976,.str (Str.ofString "\\{") 1980⟩,⟨125,.int 125 1982,.str (Str.ofString "\\}") 1986⟩,⟨63,.int 63 1988,.str (Str.ofString "\\?") 1992⟩,⟨42,.int 42 1994,.str (Str.ofString "\\*") 1998⟩,⟨43,.int 43 2000,.str (Str.ofString "\\+") 2004⟩,⟨45,.int 45 2006,.str (Str.ofString "\\-") 2010⟩,⟨124,.int 124 2012,.str (Str.ofString "\\|") 2016⟩,⟨94,.int 94 2018,.str (Str.ofString "\\^") 2022⟩,⟨36,.int 36 2024,.str (Str.ofString "\\$") 2028⟩,⟨92,.int 92 2030,.str (Str.ofString "\\\\") 2034⟩,⟨46,.int 46 2036,.str (Str.ofString "\\.") 2040⟩,⟨38,.int 38 2042,.str (Str.ofString "\\&") 2046⟩,⟨126,.int 126 2048,.str (Str.ofString "\\~") 2052⟩,⟨35,.int 35 2054,.str (Str.ofString "\\#") 2058⟩,⟨32,.int 32 2060,.str (Str.ofString "\\ ") 2064⟩,⟨9,.int 9 2066,.str (Str.mk #[92,9]) 2070⟩,⟨10,.int 10 2072,.str (Str.mk #[92,10]) 2076⟩,⟨13,.int 13 2078,.str (Str.mk #[92,13]) 2082⟩,⟨11,.int 11 2084,.str (Str.mk #[92,11]) 2088⟩,⟨12,.int 12 2090,.str (Str.mk #[92,12]) 2094⟩].toArray 24,#[]⟩) ::
 (nat_lit 109,⟨.type "code",none,.fields #[.str (Str.ofString "escape") 2097,.str (Str.ofString "escape") 2098,.str (Str.ofString "/claim/cut.py") 2099,.int 65 0,.int 1 0,.int 0 0,.int 0 0,.int 3 0,.ref 104,.bool true,.int 276 0,.ref 105,.none,.ref 106,.ref 107,.ref 108,.int 2101 0,.int 65 0,.str (Str.ofString "/claim/cut.py") 2102],#[]⟩) ::
 (nat_lit 110,⟨.type "function",none,.func (fnOf (Str.ofString "escape") (Str.ofString "escape") pescape bescape sescape (.none) (.none) (.none) (.str (Str.ofString "re") 1949) none (.ref 109) (.none)),#[]⟩) ::
 (nat_lit 116,⟨.type "code",none,.fields #[.str (Str.ofString "_translate") 2106,.str (Str.ofString "_translate") 2107,.str (Str.ofString "/claim/cut.py") 2108,.int 72 0,.int 3 0,.int 0 0,.int 0 0,.int 3 0,.ref 111,.bool true,.int 276 0,.ref 112,.none,.ref 113,.ref 114,.ref 115,.int 2122 0,.int 72 0,.str (Str.ofString "/claim/cut.py") 2123],#[]⟩) ::
 (nat_lit 117,⟨.type "function",none,.func (fnOf (Str.ofString "_translate") (Str.ofString "_translate") putranslate butranslate sutranslate (.none) (.none) (.none) (.str (Str.ofString "cpy313.fnmatch") 2104) none (.ref 116) (.none)),#[]⟩) ::
 (nat_lit 123,⟨.type "code",none,.fields #[.str (Str.ofString "heappush") 2127,.str (Str.ofString "heappush") 2128,.str (Str.ofString "/claim/cut.py") 2129,.int 135 0,.int 2 0,.int 0 0,.int 0 0,.int 3 0,.ref 118,.bool true,.int 276 0,.ref 119,.none,.ref 120,.ref 121,.ref 122,.int 2132 0,.int 135 0,.str (Str.ofString "/claim/cut.py") 2133],#[]⟩) ::
 (nat_lit 124,⟨.type "function",none,.func (fnOf (Str.ofString "heappush") (Str.ofString "heappush") pheappush bheappush sheappush (.none) (.none) (.none) (.str (Str.ofString "cpy313.heapq") 2125) none (.ref 123) (.none)),#[]⟩) ::
 (nat_lit 130,⟨.type "code",none,.fields #[.str (Str.ofString "heappop") 2135,.str (Str.ofString "heappop") 2136,.str (Str.ofString "/claim/cut.py") 2137,.int 138 0,.int 1 0,.int 0 0,.int 0 0,.int 3 0,.ref 125,.bool true,.int 276 0,.ref 126,.none,.ref 127,.ref 128,.ref 129,.int 2141 0,.int 138 0,.str (Str.ofString "/claim/cut.py") 2142],#[]⟩) ::
 (nat_lit 131,⟨.type "function",none,.func (fnOf (Str.ofString "heappop") (Str.ofString "heappop") pheappop bheappop sheappop (.none) (.none) (.none) (.str (Str.ofString "cpy313.heapq") 2125) none (.ref 130) (.none)),#[]⟩) ::
 (nat_lit 137,⟨.type "code",none,.fields #[.str (Str.ofString "heapreplace") 2144,.str (Str.ofString "heapreplace") 2145,.str (Str.ofString "/claim/cut.py") 2146,.int 146 0,.int 2 0,.int 0 0,.int 0 0,.int 3 0,.ref 132,.bool true,.int 276 0,.ref 133,.none,.ref 134,.ref 135,.ref 136,.int 2150 0,.int 146 0,.str (Str.ofString "/claim/cut.py") 2151],#[]⟩) ::
 (nat_lit 138,⟨.type "function",none,.func (fnOf (Str.ofString "heapreplace") (Str.ofString "heapreplace") pheapreplace bheapreplace sheapreplace (.none) (.none) (.none) (.str (Str.ofString "cpy313.heapq") 2125) none (.ref 137) (.none)),#[]⟩) ::
 (nat_lit 144,⟨.type "code",none,.fields #[.str (Str.ofString "_siftdown") 2153,.str (Str.ofString "_siftdown") 2154,.str (Str.ofString "/claim/cut.py") 2155,.int 151 0,.int 3 0,.int 0 0,.int 0 0,.int 3 0,.ref 139,.bool true,.int 276 0,.ref 140,.none,.ref 141,.ref 142,.ref 143,.int 2162 0,.int 151 0,.str (Str.ofString "/claim/cut.py") 2163],#[]⟩) ::
 (nat_lit 145,⟨.type "function",none,.func (fnOf (Str.ofString "_siftdown") (Str.ofString "_siftdown") pusiftdown busiftdown susiftdown (.none) (.none) (.none) (.str (Str.ofString "cpy313.heapq") 2125) none (.ref 144) (.none)),#[]⟩) ::
 (nat_lit 151,⟨.type "code",none,.fields #[.str (Str.ofString "_siftup") 2165,.str (Str.ofString "_siftup") 2166,.str (Str.ofString "/claim/cut.py") 2167,.int 162 0,.int 2 0,.int 0 0,.int 0 0,.int 3 0,.ref 146,.bool true,.int 276 0,.ref 147,.none,.ref 148,.ref 149,.ref 150,.int 2175 0,.int 162 0,.str (Str.ofString "/claim/cut.py") 2176],#[]⟩) ::
 (nat_lit 152,⟨.type "function",none,.func (fnOf (Str.ofString "_siftup") (Str.ofString "_siftup") pusiftup busiftup susiftup (.none) (.none) (.none) (.str (Str.ofString "cpy313.heapq") 2125) none (.ref 151) (.none)),#[]⟩) ::
 (nat_lit 158,⟨.type "code",none,.fields #[.str (Str.ofString "_law_stretches") 2180,.str (Str.ofString "_law_stretches") 2181,.str (Str.ofString "/claim/cut.py") 2182,.int 177 0,.int 1 0,.int 0 0,.int 0 0,.int 3 0,.ref 153,.bool true,.int 276 0,.ref 154,.none,.ref 155,.ref 156,.ref 157,.int 2186 0,.int 177 0,.str (Str.ofString "/claim/cut.py") 2187],#[]⟩) ::
 (nat_lit 159,⟨.type "function",none,.func (fnOf (Str.ofString "_law_stretches") (Str.ofString "_law_stretches") pulawustretches bulawustretches sulawustretches (.none) (.none) (.none) (.str (Str.ofString "law_ik0162_01") 2178) none (.ref 158) (.none)),#[]⟩) ::
 (nat_lit 165,⟨.type "code",none,.fields #[.str (Str.ofString "_law_fences") 2189,.str (Str.ofString "_law_fences") 2190,.str (Str.ofString "/claim/cut.py") 2191,.int 182 0,.int 1 0,.int 0 0,.int 0 0,.int 3 0,.ref 160,.bool true,.int 276 0,.ref 161,.none,.ref 162,.ref 163,.ref 164,.int 2200 0,.int 182 0,.str (Str.ofString "/claim/cut.py") 2201],#[]⟩) ::
 (nat_lit 166,⟨.type "function",none,.func (fnOf (Str.ofString "_law_fences") (Str.ofString "_law_fences") pulawufences bulawufences sulawufences (.none) (.none) (.none) (.str (Str.ofString "law_ik0162_01") 2178) none (.ref 165) (.none)),#[]⟩) ::
 (nat_lit 172,⟨.type "code",none,.fields #[.str (Str.ofString "_law_patterns") 2203,.str (Str.ofString "_law_patterns") 2204,.str (Str.ofString "/claim/cut.py") 2205,.int 197 0,.int 2 0,.int 0 0,.int 0 0,.int 3 0,.ref 167,.bool true,.int 276 0,.ref 168,.none,.ref 169,.ref 170,.ref 171,.int 2211 0,.int 197 0,.str (Str.ofString "/claim/cut.py") 2212],#[]⟩) ::
 (nat_lit 173,⟨.type "function",none,.func (fnOf (Str.ofString "_law_patterns") (Str.ofString "_law_patterns") pulawupatterns bulawupatterns sulawupatterns (.none) (.none) (.none) (.str (Str.ofString "law_ik0162_01") 2178) none (.ref 172) (.none)),#[]⟩) ::
 (nat_lit 177,⟨.type "code",none,.fields #[.str (Str.ofString "_law_figures") 2214,.str (Str.ofString "_law_figures") 2215,.str (Str.ofString "/claim/cut.py") 2216,.int 207 0,.int 1 0,.int 0 0,.int 0 0,.int 3 0,.ref 174,.bool true,.int 276 0,.ref 175,.none,.none,.none,.ref 176,.int 2217 0,.int 207 0,.str (Str.ofString "/claim/cut.py") 2218],#[]⟩) ::
 (nat_lit 178,⟨.type "function",none,.func (fnOf (Str.ofString "_law_figures") (Str.ofString "_law_figures") pulawufigures bulawufigures sulawufigures (.none) (.none) (.none) (.str (Str.ofString "law_ik0162_01") 2178) none (.ref 177) (.none)),#[]⟩) ::
 (nat_lit 182,⟨.type "code",none,.fields #[.str (Str.ofString "_law_taken") 2220,.str (Str.ofString "_law_taken") 2221,.str (Str.ofString "/claim/cut.py") 2222,.int 211 0,.int 1 0,.int 0 0,.int 0 0,.int 3 0,.ref 179,.bool true,.int 276 0,.ref 180,.none,.none,.none,.ref 181,.int 2223 0,.int 211 0,.str (Str.ofString "/claim/cut.py") 2224],#[]⟩) ::
 (nat_lit 183,⟨.type "function",none,.func (fnOf (Str.ofString "_law_taken") (Str.ofString "_law_taken") pulawutaken bulawutaken sulawutaken (.none) (.none) (.none) (.str (Str.ofString "law_ik0162_01") 2178) none (.ref 182) (.none)),#[]⟩) ::
 (nat_lit 187,⟨.type "code",none,.fields #[.str (Str.ofString "law") 2226,.str (Str.ofString "law") 2227,.str (Str.ofString "/claim/cut.py") 2228,.int 216 0,.int 1 0,.int 0 0,.int 0 0,.int 3 0,.ref 184,.bool true,.int 276 0,.ref 185,.none,.none,.none,.ref 186,.int 2229 0,.int 216 0,.str (Str.ofString "/claim/cut.py") 2230],#[]⟩) ::
 (nat_lit 188,⟨.type "function",none,.func (fnOf (Str.ofString "law") (Str.ofString "law") plaw blaw slaw (.none) (.none) (.none) (.str (Str.ofString "law_ik0162_01") 2178) none (.ref 187) (.none)),#[]⟩) :: []
end
section
open PyProof.Rows PySem.Calls PySem.Spec PySem.W
noncomputable abbrev mdl (w : World) : Model:=model PySem.Challenge.rw_ik0162_01.row.prog w
noncomputable abbrev Led:=List (Addr × Obj)
noncomputable abbrev Ok (w : World) (p : Program) (loose : List Str) (mean : ExcName -> Option Value) (mg mb : Str -> Option Value) (f : Addr) (vs : List Value) (d u : Nat) (news : Led) (Ret : Value -> Led -> Prop) : Prop :=
 ∀ (dp un : Nat) (gd : Option (List Code)) (cn : Str) (cs : Scope) (a : Addr) (ccd : Value) (cl : List (Str × Addr)) (outer : List Env) (A₀ : Around) (base h₀ : Heap) (L : Addr) (m : Str -> Option Value) (s : Shared) (Q E : Value -> Shared -> Prop),
  Below A₀ base outer h₀ -> Fr h₀ L s.heap m -> (K w.params).In h₀ -> News h₀ L s.heap news -> Top p loose mean mg mb h₀ -> cs.kind = .function -> dp + d < recursionLimit -> un + u < cLine ->
  (∀ v news' h' tk',Ret v news' -> Fr h₀ L h' m -> News h₀ L h' news' -> Q v { s with heap:=h',toks:=tk' }) ->
   wpAny (mdl w) (ktrTop dp un gd cn cs L a ccd cl outer) (call (.ref f) vs) Q E s
theorem warm (w : World) : ∀ h,(K w.params).In h -> PySem.Challenge.rw_ik0162_01.row.prog = PySem.Challenge.rw_ik0162_01.row.prog:=by
 k_fill
 intro _ _
 rfl
theorem quo_at (c : Nat) (hc : c < 256) : ((List.range 256).map quo).getD ((c : Int).toNat) Str.empty = quo c:=by
 rw [Int.toNat_natCast,List.getD_eq_getElem?_getD,List.getElem?_map,List.getElem?_range hc];rfl
section
variable {w : World} {p : Program} {loose : List Str} {mean : ExcName -> Option Value} {mg mb : Str -> Option Value} {news : Led}
theorem quote_ok (c : Nat) (hc : c < 256) (t : Tok) : Ok w p loose mean mg mb 66 [.str ⟨#[c]⟩ t] 1 8 news (fun v news'=>news' = news /\ ∃ t',v = .str (quo c) t'):=by
 intro dp un gd cn cs a ccd cl outer A₀ base h₀ L m s Q E B F X N T hk hd hu hret
 refine wpAny_call ?_
 k_dflt cell_enter
 dsimp only [bquote,lhsOf]
 k_steps
 exact hret _ _ _ _ ⟨rfl,_,congrArg (Value.str · _) (quo_at c hc)⟩ (by assumption) (by assumption)
end
end
section
open PyProof.Rows PySem.Calls PySem.Spec PySem.W
noncomputable def pats (f l : Nat) : List Str :=
 if f / 16 = l / 16 then [⟨#[61,hx (f / 16),91,hx (f % 16),45,hx (l % 16),93]⟩]
 else if f / 16 + 1 < l / 16 then [⟨#[61,hx (f / 16),91,hx (f % 16),45,70,93]⟩,⟨#[61,91,hx (f / 16 + 1),45,hx (l / 16 - 1),93,91,48,45,70,93]⟩,⟨#[61,hx (l / 16),91,48,45,hx (l % 16),93]⟩]
 else [⟨#[61,hx (f / 16),91,hx (f % 16),45,70,93]⟩,⟨#[61,hx (l / 16),91,48,45,hx (l % 16),93]⟩]
theorem hx_inj {a b : Nat} (h : hx a = hx b) (ha : a < 16) (hb : b < 16) : a = b:=by
 unfold hx at h
 split at h <;> split at h <;> (first | exact o294 h | exact (o295 h (by assumption) (by assumption)).elim | exact (o296 h (by assumption) (by assumption)).elim | exact o297 h | omega)
theorem str1_beq {a b : Nat} : ((⟨#[a]⟩ : Str) == ⟨#[b]⟩) = true ↔ a = b:=by
 rw [beq_iff_eq];simp
theorem it1 (a b c : Nat) : Txt.item ⟨#[a,b,c]⟩ 1 = ⟨#[b]⟩:=rfl
theorem it2 (a b c : Nat) : Txt.item ⟨#[a,b,c]⟩ 2 = ⟨#[c]⟩:=rfl
theorem sl2 (a b c : Nat) : Txt.slice ⟨#[a,b,c]⟩ none (some 2) = ⟨#[a,b]⟩:=rfl
theorem str_app (x y : Array Nat) : ((⟨x⟩ : Str) ++ (⟨y⟩ : Str)) = ⟨x ++ y⟩:=rfl
theorem lit_lb : Str.ofString "[" = ⟨#[91]⟩:=by decide +kernel
theorem lit_rb : Str.ofString "]" = ⟨#[93]⟩:=by decide +kernel
theorem lit_mi : Str.ofString "-" = ⟨#[45]⟩:=by decide +kernel
theorem lit_mF : Str.ofString "-F]" = ⟨#[45,70,93]⟩:=by decide +kernel
theorem lit_eb : Str.ofString "=[" = ⟨#[61,91]⟩:=by decide +kernel
theorem lit_bF : Str.ofString "][0-F]" = ⟨#[93,91,48,45,70,93]⟩:=by decide +kernel
theorem lit_b0 : Str.ofString "[0-" = ⟨#[91,48,45]⟩:=by decide +kernel
theorem fd16 (n : Nat) : Int.fdiv (n : Int) 16 = ((n / 16 : Nat) : Int):=by
 rw [Int.fdiv_eq_ediv_of_nonneg _ (by decide)];rfl
section
variable {f l : Nat} {t : Tok} {t' t'' : Tok}
theorem pats_one (h : (Txt.item ⟨#[61,hx (f / 16),hx (f % 16)]⟩ 1 == Txt.item ⟨#[61,hx (l / 16),hx (l % 16)]⟩ 1) = true) (hf : f < 256) (hl : l < 256) :
  StrsAre [.str (Txt.slice ⟨#[61,hx (f / 16),hx (f % 16)]⟩ none (some 2) ++ Str.ofString "[" ++ Txt.item ⟨#[61,hx (f / 16),hx (f % 16)]⟩ 2 ++ Str.ofString "-" ++ Txt.item ⟨#[61,hx (l / 16),hx (l % 16)]⟩ 2 ++ Str.ofString "]") t] (pats f l):=by
 rw [it1,it1,str1_beq] at h
 have e:=hx_inj h (by exact o5 hf) (by exact o5 hl)
 unfold pats
 rw [if_pos e,sl2,it2,it2,lit_lb,lit_rb,lit_mi]
 exact .cons _ _ .nil
theorem pats_two (h : (Txt.item ⟨#[61,hx (f / 16),hx (f % 16)]⟩ 1 == Txt.item ⟨#[61,hx (l / 16),hx (l % 16)]⟩ 1) = false) (h2 : ¬ Int.fdiv (f : Int) 16 + 1 < Int.fdiv (l : Int) 16) :
  StrsAre [.str (Txt.slice ⟨#[61,hx (f / 16),hx (f % 16)]⟩ none (some 2) ++ Str.ofString "[" ++ Txt.item ⟨#[61,hx (f / 16),hx (f % 16)]⟩ 2 ++ Str.ofString "-F]") t,
   .str (Txt.slice ⟨#[61,hx (l / 16),hx (l % 16)]⟩ none (some 2) ++ Str.ofString "[0-" ++ Txt.item ⟨#[61,hx (l / 16),hx (l % 16)]⟩ 2 ++ Str.ofString "]") t'] (pats f l):=by
 have e : ¬ f / 16 = l / 16:=fun e=>by rw [it1,it1,e] at h;simp at h
 rw [fd16,fd16] at h2
 unfold pats
 rw [if_neg e,if_neg (by exact o298 h2),sl2,it2,it2,sl2,lit_lb,lit_rb,lit_mF,lit_b0]
 exact .cons _ _ (.cons _ _ .nil)
theorem pats_three (h : (Txt.item ⟨#[61,hx (f / 16),hx (f % 16)]⟩ 1 == Txt.item ⟨#[61,hx (l / 16),hx (l % 16)]⟩ 1) = false) (h2 : Int.fdiv (f : Int) 16 + 1 < Int.fdiv (l : Int) 16) {a b c d : Nat} (ha : a = hx (f / 16 + 1)) (hb : b = hx (l / 16 - 1)) :
  StrsAre [.str (Txt.slice ⟨#[61,hx (f / 16),hx (f % 16)]⟩ none (some 2) ++ Str.ofString "[" ++ Txt.item ⟨#[61,hx (f / 16),hx (f % 16)]⟩ 2 ++ Str.ofString "-F]") t,
   .str (Str.ofString "=[" ++ Txt.item ⟨#[61,a,c]⟩ 1 ++ Str.ofString "-" ++ Txt.item ⟨#[61,b,d]⟩ 1 ++ Str.ofString "][0-F]") t'',
   .str (Txt.slice ⟨#[61,hx (l / 16),hx (l % 16)]⟩ none (some 2) ++ Str.ofString "[0-" ++ Txt.item ⟨#[61,hx (l / 16),hx (l % 16)]⟩ 2 ++ Str.ofString "]") t'] (pats f l):=by
 have e : ¬ f / 16 = l / 16:=fun e=>by rw [it1,it1,e] at h;simp at h
 rw [fd16,fd16] at h2
 subst ha hb
 unfold pats
 rw [if_neg e,if_pos (by exact o299 h2),sl2,it2,it2,sl2,it1,it1,lit_lb,lit_rb,lit_mF,lit_b0,lit_eb,lit_bF,lit_mi]
 exact .cons _ _ (.cons _ _ (.cons _ _ .nil))
end
noncomputable abbrev RetTexts (news : Led) (X : List Str) (v : Value) (news' : Led) : Prop:=∃ D items n,v = .ref D /\ news' = (D,listOf items n) :: news /\ StrsAre items.toList X /\ ∀ q ∈ news,q.1 < D
theorem end_texts {h₀ h' : Heap} {L D : Addr} {m : Str -> Option Value} {s : Shared} {Q : Value -> Shared -> Prop} {news : Led} {X : List Str} {items : Array Value} {n tk : Nat}
  (hret : ∀ v news' h' tk',RetTexts news X v news' -> Fr h₀ L h' m -> News h₀ L h' news' -> Q v { s with heap:=h',toks:=tk' })
  (F : Fr h₀ L h' m) (N : News h₀ L h' ((D,listOf items n) :: news)) (l : ∀ q ∈ news,q.1 < D) (e : StrsAre items.toList X) : Q (.ref D) { s with heap:=h',toks:=tk } :=
 hret _ _ _ _ ⟨D,items,n,rfl,rfl,e,l⟩ F N
end
section
open PyProof.Rows PySem.Calls PySem.MeetsSeq PySem.Spec PySem.W
section
variable {prog : Program} {w : World} {A : Around} {E : Value -> Shared -> Prop} {s : Shared} {a b : Int} {t u : Tok}
theorem eqb_ff {Q : Bool -> Shared -> Prop} (e : ¬ a = b) (h : Q false s) : wpAny (model prog w) A (eqBool (.int a t) (.int b u)) Q E s :=
 wpAny_eqBool_int (by rw [show (a == b) = false by simpa using e];exact h)
theorem eqb_tt {Q : Bool -> Shared -> Prop} (e : a = b) (h : Q true s) : wpAny (model prog w) A (eqBool (.int a t) (.int b u)) Q E s :=
 wpAny_eqBool_int (by rw [show (a == b) = true by simpa using e];exact h)
theorem lt_rich {Q : Value -> Shared -> Prop} (h : Q (.bool (decide (a < b))) s) : wpAny (model prog w) A (richCompare .Lt (.int a t) (.int b u)) Q E s :=
 lt_int h
end
theorem tuple_lt2 (l b : Addr) (f1 l1 g2 l2 : Int) (t1 u1 t2 u2 : Tok) (n n2 : Nat) (dd dd2 : Option Addr) (sl sl2 : Array (Option Value)) :
  Meets (Builtin.«tuple.__lt__» ⟨[.ref l,.ref b],[]⟩)
   (fun A R s=>s.heap.get? l = some { cls:=.type "tuple",dict:=dd,data:=.seq #[.int f1 t1,.int l1 u1] n,slots:=sl } /\ s.heap.get? b = some { cls:=.type "tuple",dict:=dd2,data:=.seq #[.int g2 t2,.int l2 u2] n2,slots:=sl2 } /\
    R (.ok (.ret (.bool (decide (f1 < g2 \/ (f1 = g2 /\ l1 < l2)))))) s) :=
 .of_wp fun prog w A R s h=>by
  obtain ⟨hp,g,d,tk,os⟩:=s;obtain ⟨hl,hb,h⟩:=h
  show wpAny _ _ (isInstance (.ref b) (.type "tuple") >>= _) _ _ _
  refine wpAny_bind (wpAny_isInstance (T := "tuple") (b:=true) ⟨_,hb,rfl⟩ AutoSeq1.sub_tuple_tuple ?_)
  rw [if_neg (by decide)]
  unfold Builtin.Tuple.tupleItemsOf
  refine wpAny_bind (wpAny_bind (wpAny_seqItems hl rfl (wpAny_pure ?_)))
  refine wpAny_bind (wpAny_bind (wpAny_seqItems hb rfl (wpAny_pure ?_)))
  show wpAny _ _ (forIn [(Value.int f1 t1,Value.int g2 t2),(Value.int l1 u1,Value.int l2 u2)] _ _ >>= _) _ _ _
  rw [List.forIn_cons]
  by_cases e1 : f1 = g2
  ·refine wpAny_bind (wpAny_bind (wpAny_bind (eqb_tt e1 ?_)))
   rw [if_neg (by decide)]
   refine wpAny_pure ?_
   dsimp only
   rw [List.forIn_cons]
   by_cases e2 : l1 = l2
   ·have h' : R (.ok (.ret (.bool false))) ⟨hp,g,d,tk,os⟩:=by simpa [e1,e2] using h
    refine wpAny_bind (wpAny_bind (eqb_tt e2 ?_))
    rw [if_neg (by decide)]
    refine wpAny_pure ?_
    dsimp only
    rw [List.forIn_nil]
    refine wpAny_pure ?_
    exact wpAny_pure ⟨_,rfl,h'⟩
   ·have h' : R (.ok (.ret (.bool (decide (l1 < l2))))) ⟨hp,g,d,tk,os⟩:=by simpa [e1] using h
    refine wpAny_bind (wpAny_bind (eqb_ff e2 ?_))
    rw [if_pos (by decide)]
    refine wpAny_bind (wpAny_rule (wpAny_bind (lt_rich ?_)))
    refine wpAny_bind (wpAny_pure ?_)
    refine wpAny_pure ?_
    exact wpAny_pure (wpAny_pure ⟨_,rfl,h'⟩)
  ·have h' : R (.ok (.ret (.bool (decide (f1 < g2))))) ⟨hp,g,d,tk,os⟩:=by simpa [e1] using h
   refine wpAny_bind (wpAny_bind (wpAny_bind (eqb_ff e1 ?_)))
   rw [if_pos (by decide)]
   refine wpAny_bind (wpAny_rule (wpAny_bind (lt_rich ?_)))
   refine wpAny_bind (wpAny_pure ?_)
   refine wpAny_pure ?_
   exact wpAny_pure (wpAny_pure ⟨_,rfl,h'⟩)
theorem lt_tup {prog : Program} {w : World} {A : Around} {E : Value -> Shared -> Prop} {s : Shared} {l b : Addr} {f1 l1 g2 l2 : Int} {t1 u1 t2 u2 : Tok} {Q : Value -> Shared -> Prop}
  (hl : s.heap.IsTuple l #[.int f1 t1,.int l1 u1]) (hb : s.heap.IsTuple b #[.int g2 t2,.int l2 u2]) (hu : A.units < cLine) (h : Q (.bool (decide (f1 < g2 \/ (f1 = g2 /\ l1 < l2)))) s) :
  wpAny (model prog w) A (compareOp .Lt (.ref l) (.ref b)) Q E s:=by
 obtain ⟨⟨cls,dd,data,sl⟩,ho,hc,n,hd⟩:=id hl
 obtain ⟨⟨cls2,dd2,data2,sl2⟩,ho2,hc2,n2,hd2⟩:=id hb
 simp only at hc hd hc2 hd2
 subst hc hd hc2 hd2
 exact richCompare_meets_room (op:=.Lt) ⟨_,ho,rfl⟩ ⟨_,ho2,rfl⟩ F.slot_tuple_lt F.entry_tuple_lt (F.args_tuple_lt_2 _ _) (tuple_lt2 l b f1 l1 g2 l2 t1 u1 t2 u2 n n2 dd dd2 sl sl2)
  ⟨ho,ho2,show Value.bool _ ≠ Value.notImplemented /\ Q (.bool _) s from ⟨(fun x=>nomatch x),h⟩⟩ hu
end
section
open PyProof.Rows PySem.Calls PySem.Spec PySem.W
structure Tp where
 a : Addr
 f : Int
 l : Int
 tf : Tok
 tl : Tok
noncomputable def vals (ts : List Tp) : List Value:=ts.map fun t=>.ref t.a
noncomputable def IsTp (rest : Led) (t : Tp) : Prop:=∃ d n sl,(t.a,({ cls:=.type "tuple",dict:=d,data:=.seq #[.int t.f t.tf,.int t.l t.tl] n,slots:=sl } : Obj)) ∈ rest
noncomputable def Tp.less (x y : Tp) : Prop:=x.f < y.f \/ (x.f = y.f /\ x.l < y.l)
instance (x y : Tp) : Decidable (x.less y):=inferInstanceAs (Decidable (_ \/ _))
theorem vals_length (ts : List Tp) : (vals ts).length = ts.length:=List.length_map ..
theorem vals_set (ts : List Tp) (i : Nat) (x : Tp) : (vals ts).set i (.ref x.a) = vals (ts.set i x):=by
 unfold vals;rw [List.map_set]
theorem vals_at {ts : List Tp} {i : Nat} {t : Tp} (h : ts[i]? = some t) : (vals ts)[i]? = some (.ref t.a):=by
 unfold vals;rw [List.getElem?_map,h];rfl
section
variable {prog : Program} {w : World} {A : Around} {E : Value -> Shared -> Prop} {s : Shared} {h₀ : Heap} {L D : Addr} {m : Str -> Option Value} {news rest : Led} {ts : List Tp} {n : Nat} {k : Int} {t u : Tok}
theorem IsTp.tup {x : Tp} (N : News h₀ L s.heap news) (h : IsTp news x) : s.heap.IsTuple x.a #[.int x.f x.tf,.int x.l x.tl]:=by
 obtain ⟨d,n,sl,h⟩:=h
 exact News.isTup N h
theorem IsTp.more {x : Tp} {r r' : Led} (h : IsTp r x) (k : ∀ p ∈ r,p ∈ r') : IsTp r' x:=by
 obtain ⟨d,n,sl,h⟩:=h
 exact ⟨d,n,sl,k _ h⟩
theorem tp_get {Q : Value -> Shared -> Prop} (N : News h₀ L s.heap news) (hm : (D,listOf (vals ts).toArray n) ∈ news) (h0 : 0 <= k) (h1 : k < ts.length) (hfit : k < 2 ^ 63) (h : ∀ x,ts[k.toNat]? = some x -> Q (.ref x.a) s) :
  wpAny (model prog w) A (getItem (.ref D) (.int k u)) Q E s:=by
 have hl:=PySem.IsL.isList (n:=n) (N _ hm).1
 have hi : k.toNat < ts.length:=by exact o377 h0 h1
 have e : ts[k.toNat]? = some ts[k.toNat]:=List.getElem?_eq_getElem hi
 exact wpAny_getItem_list hl h0 hfit (by simpa using vals_at e) (h _ e)
theorem tp_sub {value slice : PySem.Expr} {Q : Value -> Shared -> Prop} (N : News h₀ L s.heap news) (hm : (D,listOf (vals ts).toArray n) ∈ news) (h0 : 0 <= k) (h1 : k < ts.length) (hfit : k < 2 ^ 63) (h : ∀ x,ts[k.toNat]? = some x -> Q (.ref x.a) s)
  (hs : subscripted slice false (.ref D) (.int k u) = operate [.ref D,.int k u] (getItem (.ref D) (.int k u))) :
  wpAny (model prog w) A (subscriptTail value slice (.ref D) (.int k u)) Q E s :=
 tail_any (PySem.IsL.isList (n:=n) (N _ hm).1).typeIs slot_list_getitem.lookup (tp_get N hm h0 h1 hfit h) hs
theorem tp_set {x : Tp} {Q : Unit -> Shared -> Prop} (F : Fr h₀ L s.heap m) (N : News h₀ L s.heap ((D,listOf (vals ts).toArray n) :: rest)) (hne : ∀ p ∈ rest,p.1 ≠ D) (h0 : 0 <= k) (h1 : k < ts.length) (hfit : k < 2 ^ 63)
  (h : ∀ h',Fr h₀ L h' m -> News h₀ L h' ((D,listOf (vals (ts.set k.toNat x)).toArray n) :: rest) -> Q () { s with heap:=h' }) :
  wpAny (model prog w) A (setItem (.ref D) (.int k t) (.ref x.a)) Q E s:=by
 have z:=N _ (.head _)
 refine ki_setAt z.1 h0 hfit (by simp [vals_length];exact h1) (h _ (F.change (Heap.SameBut.update ..) z.2.1 z.2.2) (ki_turn (pre:=[]) _ N (fun _ h=>nomatch h) hne ?_ ?_))
 ·rw [<- vals_set]
  apply Array.toList_inj.mp
  simp
 ·simp [vals_length]
theorem tp_lt {x y : Tp} {o : Addr × Obj} {Q : Value -> Shared -> Prop} (N : News h₀ L s.heap (o :: rest)) (hx : IsTp rest x) (hy : IsTp rest y) (hu : A.units < cLine) (h : Q (.bool (decide (x.less y))) s) : wpAny (model prog w) A (compareOp .Lt (.ref x.a) (.ref y.a)) Q E s :=
 lt_tup ((hx.more fun _ h=>.tail _ h).tup N) ((hy.more fun _ h=>.tail _ h).tup N) hu h
theorem rsh1 {Q : Value -> Shared -> Prop} (hk : 0 <= k) (h : ∀ t k',Q (.int ((k.toNat / 2 : Nat) : Int) t) { s with toks:=k' }) : wpAny (model prog w) A (binaryOp .RShift (.int k t) (.int 1 u)) Q E s:=by
 refine rshift_int (by decide) ?_
 have e : k.fdiv (2 ^ (1 : Int).toNat) = ((k.toNat / 2 : Nat) : Int):=by
  rw [Int.fdiv_eq_ediv_of_nonneg _ (by decide)]
  show k / 2 = _
  exact o378 hk
 rw [e]
 exact h _ _
theorem tp_subK {value slice : PySem.Expr} {x : Tp} {i : Nat} {Q : Value -> Shared -> Prop} (N : News h₀ L s.heap news) (hm : (D,listOf (vals ts).toArray n) ∈ news) (hx : ts[i]? = some x) (hl : ts.length <= 1000) (h : Q (.ref x.a) s)
  (hs : subscripted slice false (.ref D) (.int i u) = operate [.ref D,.int i u] (getItem (.ref D) (.int i u))) :
  wpAny (model prog w) A (subscriptTail value slice (.ref D) (.int i u)) Q E s:=by
 have hi:=(List.getElem?_eq_some_iff.mp hx).1
 refine tp_sub N hm (by exact o2) (by exact o12 hi) (by omega) (fun y hy=>?_) hs
 rw [Int.toNat_natCast,hx] at hy
 cases hy
 exact h
theorem tp_len {Q : Value -> Shared -> Prop} (N : News h₀ L s.heap news) (hm : (D,listOf (vals ts).toArray n) ∈ news) (hl : ts.length <= 1000) (h : ∀ t k,Q (.int (ts.length : Int) t) { s with toks:=k }) :
  wpAny (model prog w) A (call (.builtin "len") [.ref D]) Q E s:=by
 have hL:=PySem.IsL.isList (n:=n) (N _ hm).1
 refine len_list hL (by simp [vals_length];exact o115 hl) ?_
 simp only [List.size_toArray,vals_length]
 exact h _ _
end
end
section
open PyProof.Rows PySem.Calls PySem.Spec PySem.W
theorem wp_eq {α : Type} {M : Model} {A : Around} {x y : Sem α} {Q : α -> Shared -> Prop} {E : Value -> Shared -> Prop} {s : Shared} (e : x = y) (h : wpAny M A y Q E s) : wpAny M A x Q E s:=e ▸ h
theorem int16 : ∃ f : Nat -> Nat -> Tok -> Sem Value,(∀ (a b : Nat) (t u : Tok) (n : Int),f a b t = mkInt n -> Gives (Builtin.«int.__new__» ⟨[.type "int",.str ⟨#[a,b]⟩ t,.int 16 u],[]⟩) (.int n)) /\
  ∀ t,(List.range 256).map (fun c=>f (hx (c / 16)) (hx (c % 16)) t) = (List.range 256).map (fun c : Nat=>mkInt (c : Int)):=by
 apply Exists.intro
 refine ⟨?g1,?g2⟩
 case g1 =>
  intro a b t u n hf
  refine .of_wp fun M A E s Q h=>?_
  obtain ⟨hp,g,d,tk,os⟩:=s
  have f1:=F.conv_sub_int
  have f2:=F.madeHere_int
  repeat (any_goals (first | assumption | wp_step))
  refine wp_eq hf ?_
  repeat (any_goals (first | assumption | wp_step))
  exact ⟨_,rfl,h⟩
 case g2 =>
  intro t
  kernel_rfl
theorem call_int16 {prog : Program} {w : World} {A : Around} {E : Value -> Shared -> Prop} {s : Shared} {c : Nat} (hc : c < 256) {t u : Tok} {Q : Value -> Shared -> Prop} (h : Q (.int c s.toks) { s with toks:=s.toks + 1 }) :
  wpAny (model prog w) A (call (.type "int") [.str ⟨#[hx (c / 16),hx (c % 16)]⟩ t,.int 16 u]) Q E s:=by
 obtain ⟨f,hf,hq⟩:=int16
 have e:=congrArg (fun l=>l[c]?) (hq t)
 simp only [List.getElem?_map,List.getElem?_range hc,Option.map_some,Option.some.injEq] at e
 have g:=hf _ _ t u _ e
 exact callType_new F.called_int F.newNe_int (by kernel_rfl) (by kernel_rfl) (fun obj=>F.args_object_init_3 obj _ _) F.entry_int_new g.meets (show (Made.int _).post _ s from ⟨rfl,h⟩)
end
section
open PyProof.Rows PySem.Calls PySem.Spec PySem.W
theorem sl13 (a b c : Nat) : Txt.slice ⟨#[a,b,c]⟩ (some 1) (some 3) = ⟨#[b,c]⟩:=rfl
section
variable {w : World} {p : Program} {loose : List Str} {mean : ExcName -> Option Value} {mg mb : Str -> Option Value} {news : Led}
theorem unquote_ok (c : Nat) (hc : c < 256) (t : Tok) : Ok w p loose mean mg mb 59 [.str (quo c) t] 1 8 news (fun v news'=>news' = news /\ ∃ t',v = .str ⟨#[c]⟩ t'):=by
 intro dp un gd cn cs aa ccd cl outer A₀ base h₀ L m s Q E B F X N T hk hd hu hret
 unfold quo
 refine wpAny_call ?_
 k_dflt cell_enter
 dsimp only [bunquote,lhsOf]
 repeat' (first | with_reducible (first | ((show wpAny _ _ (call (Value.type "int") _) _ _ _);((rw [sl13]);k_dflt (refine' call_int16 ?hcz1 ?_;(case hcz1=>assumption))))) | (k_unfold;(try dsimp only)) | (k_end;kc_close) | walk1 | (dsimp only;walk1) | (leave1;walk_say "STEP leave1";(try dsimp only)) | fail "no step")
 exact hret _ _ _ _ ⟨rfl,_,rfl⟩ (by assumption) (by assumption)
end
end
section
open PyProof.Rows PySem.Calls PySem.Spec PySem.W
theorem rPlain : PlainAttrs "re.Pattern" :=
 ⟨⟨"object.__getattribute__",by rw [typeLookup_type,builtinLookup_eq_fast];kernel_rfl,by decide +kernel⟩,by rw [typeLookup_type,builtinLookup_eq_fast];kernel_rfl⟩
theorem rSub : Slot "re.Pattern" "sub" "re.Pattern.sub" :=
 .of (owner := "re.Pattern") (n := "sub") (by rw [typeLookup_type,builtinLookup_eq_fast];kernel_rfl) (by decide +kernel) (by decide +kernel) (by decide +kernel)
  (by first | exact .inl (by decide +kernel) | exact .inr (by decide +kernel)) (by rw [isSubtype_type];kernel_rfl)
theorem rType : typeOf (.builtin "re.Pattern.sub") = pure (.type "method_descriptor"):=by show builtinType _ = _;rw [builtinType_eq_fast];kernel_rfl
theorem rEntry : entryFor table "re.Pattern.sub" = some Builtin.«re.Pattern.sub»:=entryFor_of_tree (by kernel_rfl)
theorem rLoop : entryFor table "re.Pattern.sub.loop" = some Builtin.«re.Pattern.sub.loop»:=entryFor_of_tree (by kernel_rfl)
theorem rLoopPlain : plainId "re.Pattern.sub.loop" = true:=by decide +kernel
theorem mPlain : PlainAttrs "re.Match" :=
 ⟨⟨"object.__getattribute__",by rw [typeLookup_type,builtinLookup_eq_fast];kernel_rfl,by decide +kernel⟩,by rw [typeLookup_type,builtinLookup_eq_fast];kernel_rfl⟩
theorem mGroup : Slot "re.Match" "group" "re.Match.group" :=
 .of (owner := "re.Match") (n := "group") (by rw [typeLookup_type,builtinLookup_eq_fast];kernel_rfl) (by decide +kernel) (by decide +kernel) (by decide +kernel)
  (by first | exact .inl (by decide +kernel) | exact .inr (by decide +kernel)) (by rw [isSubtype_type];kernel_rfl)
theorem mType : typeOf (.builtin "re.Match.group") = pure (.type "method_descriptor"):=by show builtinType _ = _;rw [builtinType_eq_fast];kernel_rfl
theorem mEntry : entryFor table "re.Match.group" = some Builtin.«re.Match.group»:=entryFor_of_tree (by kernel_rfl)
theorem fCall : typeLookup (.type "function") "__call__" = pure (some (.builtin "function.__call__")):=by rw [typeLookup_type,builtinLookup_eq_fast];kernel_rfl
theorem rArgs (a b c : Value) : argsOk "re.Pattern.sub" ⟨[a,b,c],[]⟩:=by
 unfold argsOk;kernel_rfl
theorem mArgs (a b : Value) : argsOk "re.Match.group" ⟨[a,b],[]⟩:=by
 unfold argsOk;kernel_rfl
theorem rNamed (a b : Value) : Builtin.Re.reNamed "re.Pattern.sub" "sub" ["repl", "string", "count"] 2 [a,b] [] = pure [some a,some b,none]:=by kernel_rfl
theorem wpAny_seen {M : Model} {A : Around} {E : Value -> Shared -> Prop} {s : Shared} {Q : PUnit -> Shared -> Prop} (c : Nat -> Bool) (f : Nat -> String) (h : Q PUnit.unit s) : ∀ (l : List Nat),
  wpAny M A (forIn l PUnit.unit fun i (_ : PUnit)=>if c i = true then (do rule (f i);pure (ForInStep.yield PUnit.unit)) else pure (ForInStep.yield PUnit.unit)) Q E s:=by
 intro l
 induction l with
 | nil=>exact wpAny_pure h
 | cons i l ih =>
  rw [List.forIn_cons]
  refine wpAny_bind ?_
  by_cases hc : c i = true
  ·rw [if_pos hc]
   exact wpAny_bind (wpAny_rule (wpAny_pure ih))
  ·rw [if_neg hc]
   exact wpAny_pure ih
theorem drive_two {M : Model} {A : Around} {E : Value -> Shared -> Prop} {s : Shared} {Q : Sre.M -> Shared -> Prop} {m m1 m2 : Sre.M} (e1 : m.runFor 4 = m1) (e2 : m1.runFor 4 = m2) (n1 : m1.outcome.isSome = false) (n2 : m2.outcome.isSome = true) (h : Q m2 s) (n : Nat) :
  wpAny M A (Builtin.Re.reDrive (n + 2) m) Q E s:=by
 unfold Builtin.Re.reDrive
 show wpAny M A (if (m.runFor 4).outcome.isSome then pure (m.runFor 4) else do rule "sre.turn";Builtin.Re.reDrive (n + 1) (m.runFor 4)) Q E s
 rw [e1,if_neg (by rw [n1];exact Bool.false_ne_true)]
 refine wpAny_bind (wpAny_rule ?_)
 unfold Builtin.Re.reDrive
 show wpAny M A (if (m1.runFor 4).outcome.isSome then pure (m1.runFor 4) else do rule "sre.turn";Builtin.Re.reDrive n (m1.runFor 4)) Q E s
 rw [e2,if_pos n2]
 exact wpAny_pure h
theorem drive_one {M : Model} {A : Around} {E : Value -> Shared -> Prop} {s : Shared} {Q : Sre.M -> Shared -> Prop} {m m1 : Sre.M} (e1 : m.runFor 4 = m1) (n1 : m1.outcome.isSome = true) (h : Q m1 s) (n : Nat) :
  wpAny M A (Builtin.Re.reDrive (n + 1) m) Q E s:=by
 unfold Builtin.Re.reDrive
 show wpAny M A (if (m.runFor 4).outcome.isSome then pure (m.runFor 4) else do rule "sre.turn";Builtin.Re.reDrive n (m.runFor 4)) Q E s
 rw [e1,if_pos n1]
 exact wpAny_pure h
theorem toEnd_some {M : Model} {A : Around} {E : Value -> Shared -> Prop} {s : Shared} {Q : Option Sre.M -> Shared -> Prop} {m m1 m2 : Sre.M} (e1 : m.runFor 4 = m1) (e2 : m1.runFor 4 = m2) (n1 : m1.outcome = none) (n2 : m2.outcome = some .matched) (h : Q (some m2) s) :
  wpAny M A (Builtin.Re.reRunToEnd m) Q E s:=by
 unfold Builtin.Re.reRunToEnd
 have e : (2 ^ 64 : Nat) = 18446744073709551614 + 2:=by decide +kernel
 rw [e]
 refine wpAny_bind (drive_two e1 e2 (by rw [n1];rfl) (by rw [n2];rfl) ?_ _)
 refine wpAny_bind (wpAny_seen _ _ ?_ _)
 rw [n2]
 exact wpAny_pure h
theorem toEnd_none {M : Model} {A : Around} {E : Value -> Shared -> Prop} {s : Shared} {Q : Option Sre.M -> Shared -> Prop} {m m1 : Sre.M} (e1 : m.runFor 4 = m1) (n1 : m1.outcome = some .failed) (h : Q none s) :
  wpAny M A (Builtin.Re.reRunToEnd m) Q E s:=by
 unfold Builtin.Re.reRunToEnd
 have e : (2 ^ 64 : Nat) = 18446744073709551615 + 1:=by decide +kernel
 rw [e]
 refine wpAny_bind (drive_one e1 (by rw [n1];rfl) ?_ _)
 refine wpAny_bind (wpAny_seen _ _ ?_ _)
 rw [n1]
 exact wpAny_pure h
end
section
open PySem.Sre
noncomputable def code1 : Array Nat:=#[14,8,1,3,3,1,1,61,0,16,61,24,16,2,2,13,11,9,0,67043328,126,126,0,0,0,0,0,1,1]
noncomputable def code2 : Array Nat:=#[14,14,4,1,1,9,0,64,0,1342177280,0,0,0,0,0,17,0,13,11,9,0,64,0,1342177280,0,0,0,0,0,17,1,1]
noncomputable def hxs : List Nat:=[48,49,50,51,52,53,54,55,56,57,65,66,67,68,69,70]
theorem acc1 (seen : Seen) (c : Nat) (h : c ∈ hxs) : accepts code1 15 c seen = .ok (true,seen.add 9):=by
 simp only [hxs,List.mem_cons,List.not_mem_nil,or_false] at h
 rcases h with rfl | rfl | rfl | rfl | rfl | rfl | rfl | rfl | rfl | rfl | rfl | rfl | rfl | rfl | rfl | rfl <;> rfl
theorem run1 (T : Array Nat) (p : Nat) (seen : Seen) (h1 : T.getD p 0 ∈ hxs) (h2 : T.getD (p + 1) 0 ∈ hxs) : Sre.run code1 T 15 2 p 0 seen = .ok (2,(seen.add 9).add 9):=by
 unfold Sre.run
 rw [acc1 _ _ h1]
 show Sre.run code1 T 15 1 (p + 1) 1 (seen.add 9) = _
 unfold Sre.run
 rw [acc1 _ _ h2]
 rfl
noncomputable def fr0 (p : Nat) : Sre.Frame:={ wait:=.nextStart,pc:=9,pos:=p,outermost:=true }
noncomputable def fr1 (p : Nat) : Sre.Frame:={ wait:=.giveBack,pc:=11,pos:=p + 3,outermost:=true,count:=2,kept:={ lastmark:=-1,lastindex:=-1,whole:=false,marks:=#[] } }
noncomputable def m0 (T : Array Nat) (p lim : Nat) : M:={ code:=code1,text:=T,lim,start:=p,lastStart:=lim,pc:=9,pos:=p,handed:=p,outermost:=true,marks:=#[],lastmark:=-1,lastindex:=-1,frames:=[fr0 p],weight:=1,seen:=({} : Seen).add 14 }
theorem search0 (T : Array Nat) (p lim : Nat) (h : p + 3 <= lim) : forSearch code1 T 0 p lim false = m0 T p lim:=by
 unfold forSearch
 have e : (decide (p > lim) || decide (lim - p < (header code1).1)) = false:=by
  have : (header code1).1 = 3:=rfl
  rw [this];simp;exact o687 h
 simp only [e]
 rfl
noncomputable def m1 (T : Array Nat) (p lim : Nat) : M:={ m0 T p lim with pc:=11,pos:=p + 1,seen:=(({} : Seen).add 14).add 16 }
theorem step1 (T : Array Nat) (p lim : Nat) (h : p + 3 <= lim) (hT : T.getD p 0 = 61) : (m0 T p lim).step = m1 T p lim:=by
 show (m0 T p lim).exec = _
 have e : ¬ ((m0 T p lim).pos >= (m0 T p lim).lim):=by show ¬ p >= lim;exact o688 h
 unfold M.exec
 show (if (m0 T p lim).pos >= (m0 T p lim).lim then _ else _) = _
 rw [if_neg e]
 show (match accepts code1 9 (T.getD p 0) ((({} : Seen).add 14).add 16) with | .error why=>_ | .ok (false,seen)=>_ | .ok (true,seen)=>_) = _
 rw [hT]
 rfl
noncomputable def m2 (T : Array Nat) (p lim : Nat) : M:={ m1 T p lim with pc:=28,pos:=p + 3,handed:=p + 3,seen:=((((({} : Seen).add 14).add 16).add 24).add 13 |>.add 9).add 9,frames:=[fr1 p,fr0 p],weight:=2 }
theorem step2 (T : Array Nat) (p lim : Nat) (h : p + 3 <= lim) (h1 : T.getD (p + 1) 0 ∈ hxs) (h2 : T.getD (p + 2) 0 ∈ hxs) : (m1 T p lim).step = m2 T p lim:=by
 show (m1 T p lim).exec = _
 have e : ¬ ((2 : Nat) : Int) > (lim : Int) - ((p + 1 : Nat) : Int):=by exact o689 h
 unfold M.exec
 show (if ((2 : Nat) : Int) > (lim : Int) - ((p + 1 : Nat) : Int) then _ else _) = _
 rw [if_neg e]
 show (match Sre.run code1 T 15 (min 2 ((lim : Int) - ((p + 1 : Nat) : Int)).toNat) (p + 1) 0 (((({} : Seen).add 14).add 16).add 24 |>.add 13) with | .error why=>_ | .ok (n,seen)=>_) = _
 rw [show min 2 ((lim : Int) - ((p + 1 : Nat) : Int)).toNat = 2 by exact o690 h,run1 T (p + 1) _ h1 h2]
 rfl
noncomputable def m3 (T : Array Nat) (p lim : Nat) : M:={ m2 T p lim with answer:=some true,seen:=(m2 T p lim).seen.add 1 }
theorem step3 (T : Array Nat) (p lim : Nat) : (m2 T p lim).step = m3 T p lim:=rfl
noncomputable def m4 (T : Array Nat) (p lim : Nat) : M:={ m3 T p lim with frames:=[fr0 p],weight:=1,pc:=11 }
theorem step4 (T : Array Nat) (p lim : Nat) : (m3 T p lim).step = m4 T p lim:=rfl
noncomputable def m5 (T : Array Nat) (p lim : Nat) : M:={ m4 T p lim with frames:=[],weight:=0,pc:=9,pos:=p }
theorem step5 (T : Array Nat) (p lim : Nat) : (m4 T p lim).step = m5 T p lim:=rfl
noncomputable def m6 (T : Array Nat) (p lim : Nat) : M:={ m5 T p lim with outcome:=some .matched }
theorem step6 (T : Array Nat) (p lim : Nat) : (m5 T p lim).step = m6 T p lim:=rfl
theorem found4 (T : Array Nat) (p lim : Nat) (h : p + 3 <= lim) (hT : T.getD p 0 = 61) (h1 : T.getD (p + 1) 0 ∈ hxs) (h2 : T.getD (p + 2) 0 ∈ hxs) : (forSearch code1 T 0 p lim false).runFor 4 = m4 T p lim:=by
 rw [search0 T p lim h]
 show ((((m0 T p lim).step).runFor 3)) = _
 rw [step1 T p lim h hT]
 show ((((m1 T p lim).step).runFor 2)) = _
 rw [step2 T p lim h h1 h2]
 show ((((m2 T p lim).step).runFor 1)) = _
 rw [step3]
 show ((((m3 T p lim).step).runFor 0)) = _
 rw [step4]
 rfl
theorem found8 (T : Array Nat) (p lim : Nat) : (m4 T p lim).runFor 4 = m6 T p lim:=by
 show ((((m4 T p lim).step).runFor 3)) = _
 rw [step5]
 show ((((m5 T p lim).step).runFor 2)) = _
 rw [step6]
 rfl
theorem done1 (T : Array Nat) (lim : Nat) : ∃ m,(forSearch code1 T 0 lim lim false).runFor 4 = m /\ m.outcome = some .failed:=by
 refine ⟨_,rfl,?_⟩
 unfold forSearch
 have e : (decide (lim > lim) || decide (lim - lim < (header code1).1)) = true:=by
  have : (header code1).1 = 3:=rfl
  rw [this];simp
 simp only [e]
 rfl
theorem in2 (c : Nat) (h : c ∈ 45 :: hxs) (seen : Seen) : inSet code2 c 32 5 true seen = .ok (false,(seen.add 9).add 0):=by
 simp only [hxs,List.mem_cons,List.not_mem_nil,or_false] at h
 rcases h with rfl | rfl | rfl | rfl | rfl | rfl | rfl | rfl | rfl | rfl | rfl | rfl | rfl | rfl | rfl | rfl | rfl <;> rfl
theorem none2_all : ∀ a ∈ hxs,∀ b ∈ hxs,(match ((forSearch code2 #[a,45,b] 1 0 3 false).runFor 4).outcome with | some .failed=>true | _=>false) = true:=by decide +kernel
theorem none2 (a b : Nat) (ha : a ∈ hxs) (hb : b ∈ hxs) : ∃ m,(forSearch code2 #[a,45,b] 1 0 3 false).runFor 4 = m /\ m.outcome = some .failed:=by
 refine ⟨_,rfl,?_⟩
 have h:=none2_all a ha b hb
 generalize ((forSearch code2 #[a,45,b] 1 0 3 false).runFor 4).outcome = o at h ⊢
 match o,h with
 | some .failed,_=>rfl
end
section
open PyProof.Rows PySem.Builtin.Re PySem.Calls PySem.Spec PySem.W
section
variable {M : Model} {A : Around} {E : Value -> Shared -> Prop} {s : Shared} {x : Str} {t : Tok}
theorem code1_eq : (#[Value.int 14 0,.int 8 0,.int 1 0,.int 3 0,.int 3 0,.int 1 0,.int 1 0,.int 61 0,.int 0 0,.int 16 0,.int 61 0,.int 24 0,.int 16 0,.int 2 0,.int 2 0,.int 13 0,.int 11 0,.int 9 0,.int 0 0,.int 67043328 0,.int 126 0,.int 126 0,.int 0 0,.int 0 0,.int 0 0,.int 0 0,.int 0 0,.int 1 0,.int 1 0].map reRawOf).map (·.toNat) = code1:=by
 simp [code1,reRawOf]
theorem code2_eq : (#[Value.int 14 0,.int 14 0,.int 4 0,.int 1 0,.int 1 0,.int 9 0,.int 0 0,.int 64 0,.int 0 0,.int 1342177280 0,.int 0 0,.int 0 0,.int 0 0,.int 0 0,.int 0 0,.int 17 0,.int 0 0,.int 13 0,.int 11 0,.int 9 0,.int 0 0,.int 64 0,.int 0 0,.int 1342177280 0,.int 0 0,.int 0 0,.int 0 0,.int 0 0,.int 0 0,.int 17 0,.int 1 0,.int 1 0].map reRawOf).map (·.toNat) = code2:=by
 simp [code2,reRawOf]
theorem target1 {P : Params} {Q : ReTarget -> Shared -> Prop} (X : (K P).In s.heap) (h : Q { pattern:=.ref 36,string:=.str x t,code:=code1,text:=x.cps,kind:=0,groups:=0,pos:=0,lim:=x.cps.size } s) :
  wpAny M A (reWholeTarget (.ref 36) (.str x t)) Q E s:=by
 unfold reWholeTarget
 refine wpAny_bind (wpAny_fieldsOf (X 36 _ rfl) rfl ?_)
 refine wpAny_bind (wpAny_bind (wpAny_pure ?_))
 refine wpAny_pure ?_
 dsimp only
 refine wpAny_bind (wpAny_pure ?_)
 refine wpAny_bind ?_
 unfold reRawItems
 refine wpAny_bind (wpAny_seqItems (X 35 _ rfl) rfl (wpAny_pure ?_))
 refine wpAny_pure ?_
 simp only [Option.getD_some]
 rw [code1_eq]
 exact h
theorem target2 {P : Params} {Q : ReTarget -> Shared -> Prop} (X : (K P).In s.heap) (h : Q { pattern:=.ref 98,string:=.str x t,code:=code2,text:=x.cps,kind:=0,groups:=1,pos:=0,lim:=x.cps.size } s) :
  wpAny M A (reWholeTarget (.ref 98) (.str x t)) Q E s:=by
 unfold reWholeTarget
 refine wpAny_bind (wpAny_fieldsOf (X 98 _ rfl) rfl ?_)
 refine wpAny_bind (wpAny_bind (wpAny_pure ?_))
 refine wpAny_pure ?_
 dsimp only
 refine wpAny_bind (wpAny_pure ?_)
 refine wpAny_bind ?_
 unfold reRawItems
 refine wpAny_bind (wpAny_seqItems (X 97 _ rfl) rfl (wpAny_pure ?_))
 refine wpAny_pure ?_
 simp only [Option.getD_some]
 rw [code2_eq]
 exact h
noncomputable def matchObj (x : Str) (t : Tok) (p : Nat) (T : Addr) : Obj:={ cls:=.type "re.Match",data:=.fields #[.str x t,.ref 36,.int 0 0,.int x.cps.size 0,.int (-1) 0,.ref T] }
noncomputable def spanObj (p : Nat) : Obj:={ cls:=.type "tuple",data:=.seq #[.int p 0,.int ((p + 3 : Nat) : Int) 0] }
theorem newMatch1 {p : Nat} {m : Sre.M} {Q : Value -> Shared -> Prop} (h1 : m.start = p) (h2 : m.handed = p + 3) (h3 : m.lastindex = -1)
  (h : Q (.ref (s.heap.objs.size + 1)) { s with heap:=(s.heap.push (spanObj p)).push (matchObj x t p s.heap.objs.size) }) :
  wpAny M A (reNewMatch (.ref 36) (.str x t) 0 0 x.cps.size m) Q E s:=by
 unfold reNewMatch
 simp only [List.range_zero,List.flatMap_nil,List.any_nil]
 show wpAny M A (newTuple [rawInt m.start,rawInt m.handed] >>= fun tup=>newFields "re.Match" [.str x t,.ref 36,rawInt 0,rawInt x.cps.size,rawInt m.lastindex,tup]) Q E s
 rw [h1,h2,h3]
 refine wpAny_bind (wpAny_newTuple ?_)
 have e : (s.heap.push (spanObj p)).objs.size = s.heap.objs.size + 1:=Heap.size_push ..
 unfold newFields
 refine wpAny_newObj_type ?_
 rw [<- e] at h
 exact h
theorem group1 {p : Nat} {T : Addr} {Mt : Addr} {y : Str} {u : Tok} {Q : Value -> Shared -> Prop} (hm : s.heap.get? Mt = some (matchObj x t p T)) (hT : s.heap.get? T = some (spanObj p)) (hy : (⟨x.cps.extract p (p + 3)⟩ : Str) = y) (hl : y.length <= 3)
  (h : ∀ t k,Q (.str y t) { s with toks:=k }) {prog : Program} {w : World} :
  wpAny (model prog w) A (call (.builtin "re.Match.group") [.ref Mt,.int 0 u]) Q E s:=by
 refine wpAny_call_entry mGroup ⟨_,hm,rfl⟩ mEntry ?_ (mArgs _ _)
 unfold Builtin.«re.Match.group»
 refine wpAny_bind (wpAny_pure ?_)
 unfold reFound
 refine wpAny_bind (wpAny_bind (wpAny_fieldsOf hm rfl ?_))
 unfold reRawItems
 refine wpAny_bind (wpAny_bind (wpAny_seqItems hT rfl (wpAny_pure (wpAny_pure ?_))))
 dsimp only
 have es : Array.map reRawOf ((some #[Value.int (p : Int) 0,Value.int ((p + 3 : Nat) : Int) 0]).getD #[]) = #[(p : Int),((p + 3 : Nat) : Int)]:=by simp [reRawOf]
 have es' : Array.map reRawOf ((some #[Value.int (↑p) 0,Value.int (↑(p + 3)) 0]).getD #[]) = #[(p : Int),((p + 3 : Nat) : Int)]:=es
 rw [es']
 unfold reGroupNumber
 refine wpAny_bind ?_
 refine wpAny_bind (wpAny_bind (wpAny_pure ?_))
 refine wpAny_pure ?_
 simp only [Option.isSome_some,if_true]
 have ei : asIndex (Value.int 0 u) = pure 0:=rfl
 rw [ei]
 refine wpAny_bind (wpAny_pure ?_)
 refine wpAny_pure ?_
 unfold reGroupText
 refine wpAny_bind ?_
 have e1 : (#[(p : Int),((p + 3 : Nat) : Int)] : Array Int).getD (2 * Int.toNat 0) (-1) = p:=rfl
 have e2 : (#[(p : Int),((p + 3 : Nat) : Int)] : Array Int).getD (2 * Int.toNat 0 + 1) (-1) = ((p + 3 : Nat) : Int):=rfl
 dsimp only
 rw [e1,e2]
 rw [if_neg (by simp;exact o692)]
 refine wpAny_bind (wpAny_bind (wpAny_pure ?_))
 refine wpAny_pure ?_
 dsimp only
 unfold reSlice
 simp only [beq_self_eq_true,if_true,Int.toNat_natCast]
 rw [hy]
 refine wpAny_mkStr (wpAny_pure ⟨_,rfl,h _ _⟩) ?_
 rw [sizeLine_eq];exact o693 hl
end
end
section
open PyProof.Rows PySem.Builtin.Re PySem.Calls PySem.Spec PySem.W
section
variable {prog : Program} {w : World} {A : Around} {E : Value -> Shared -> Prop} {s : Shared} {h₀ : Heap} {L Mt T : Addr} {news : Led} {x y : Str} {t u : Tok} {p : Nat}
theorem meth_group {pl : Sem Bool} {Q : Value × List Value -> Shared -> Prop} (N : News h₀ L s.heap news) (hm : (Mt,matchObj x t p T) ∈ news) (h : Q (.builtin "re.Match.group",[.ref Mt]) s) :
  wpAny (model prog w) A (getMethod (.ref Mt) "group" pl) Q E s :=
 getMethod_builtin ⟨_,N.get hm,rfl⟩ mPlain mGroup mType (fun a e=>by cases e;exact ⟨_,N.get hm,rfl⟩) h
theorem call_group {Q : Value -> Shared -> Prop} (N : News h₀ L s.heap news) (hm : (Mt,matchObj x t p T) ∈ news) (hT : (T,spanObj p) ∈ news) (hy : (⟨x.cps.extract p (p + 3)⟩ : Str) = y) (hl : y.length <= 3) (h : ∀ t k,Q (.str y t) { s with toks:=k }) :
  wpAny (model prog w) A (call (.builtin "re.Match.group") [.ref Mt,.int 0 u]) Q E s:=group1 (N.get hm) (N.get hT) hy hl h
end
section
variable {w : World} {p : Program} {loose : List Str} {mean : ExcName -> Option Value} {mg mb : Str -> Option Value} {news : Led}
theorem unqm_ok (Mt T : Addr) (x : Str) (t : Tok) (q c : Nat) (hc : c < 256) (hm : (Mt,matchObj x t q T) ∈ news) (hT : (T,spanObj q) ∈ news) (hy : (⟨x.cps.extract q (q + 3)⟩ : Str) = quo c) : Ok w p loose mean mg mb 86 [.ref Mt] 3 24 news (fun v news'=>news' = news /\ ∃ t',v = .str ⟨#[c]⟩ t'):=by
 intro dp un gd cn cs a ccd cl outer A₀ base h₀ L m s Q E B F X N TT hk hd hu hret
 refine wpAny_call ?_
 k_dflt cell_enter
 dsimp only [buunquoteumatch,lhsOf]
 repeat' (first | with_reducible (first | ((show wpAny _ _ (call (Value.builtin "re.Match.group") _) _ _ _);(k_dflt (refine' call_group ?Nz1 ?hz1 ?h2z1 ?h3z1 ?h4z1 ?_;(case Nz1=>k_asm);(case hz1=>assumption);(case h2z1=>assumption);(case h3z1=>assumption);(case h4z1=>exact Nat.le_refl _));intro t'z1 k'z1)) | ((show wpAny _ _ (getMethod (Value.ref _) (Str.ofString "group") _) _ _ _);k_dflt (refine' meth_group ?Nz2 ?hz2 ?_;(case Nz2=>k_asm);(case hz2=>assumption))) | ((show wpAny _ _ (call (Value.ref 59) _) _ _ _);k_dflt (refine' unquote_ok _ ?hcz3 _ _ _ _ _ _ _ _ _ _ _ _ _ _ _ _ _ _ ?Bz3 ?Fz3 ?Xz3 ?Nz3 ?Tz3 ?kz3 ?dz3 ?uz3 ?_;(case hcz3=>assumption);(case Bz3=>k_asm);(case Fz3=>k_asm);(case Xz3=>k_asm);(case Nz3=>k_asm);(case Tz3=>k_asm);(case kz3=>first | exact rfl | assumption);(case dz3=>ktr_room);(case uz3=>ktr_units));intro v'z3 news'z3 h'z3 tk'z3 hr'z3 F'z3 N'z3;obtain ⟨hn'z3,t'z3,hv'z3⟩:=hr'z3;subst hn'z3;subst hv'z3;(try k_fold))) | (k_unfold;(try dsimp only)) | (k_end;kc_close) | walk1 | (dsimp only;walk1) | (leave1;walk_say "STEP leave1";(try dsimp only)) | fail "no step")
 exact hret _ _ _ _ ⟨rfl,_,rfl⟩ (by assumption) (by assumption)
end
end
section
open PyProof.Rows PySem.Builtin.Re PySem.Calls PySem.Spec PySem.W
noncomputable def enc (cs : List Nat) : List Nat:=cs.flatMap fun c=>[61,hx (c / 16),hx (c % 16)]
theorem enc_cons (c : Nat) (cs : List Nat) : enc (c :: cs) = 61 :: hx (c / 16) :: hx (c % 16) :: enc cs:=rfl
theorem enc_length (cs : List Nat) : (enc cs).length = 3 * cs.length:=by
 induction cs with
 | nil=>rfl
 | cons c cs ih=>rw [enc_cons];simp only [List.length_cons,ih];exact o696
theorem enc_drop (cs : List Nat) : ∀ i,(enc cs).drop (3 * i) = enc (cs.drop i):=by
 induction cs with
 | nil=>intro i;simp [enc]
 | cons c cs ih =>
  intro i
  cases i with
  | zero=>rfl
  | succ i =>
   rw [enc_cons,show 3 * (i + 1) = 3 * i + 1 + 1 + 1 by exact o697,List.drop_succ_cons,List.drop_succ_cons,List.drop_succ_cons,ih i,List.drop_succ_cons]
theorem enc_at {cs : List Nat} {i c : Nat} (h : cs[i]? = some c) : (enc cs).drop (3 * i) = 61 :: hx (c / 16) :: hx (c % 16) :: enc (cs.drop (i + 1)):=by
 have hi:=(List.getElem?_eq_some_iff.mp h).1
 rw [enc_drop,List.drop_eq_getElem_cons hi,enc_cons]
 rw [(List.getElem?_eq_some_iff.mp h).2]
theorem getD_drop (l : List Nat) (p j : Nat) : l.toArray.getD (p + j) 0 = (l.drop p).getD j 0:=by
 simp [List.getD_eq_getElem?_getD]
theorem hx_mem : ∀ i < 16,hx i ∈ hxs:=by decide
theorem extract_drop (l : List Nat) (p : Nat) : l.toArray.extract p (p + 3) = ((l.drop p).take 3).toArray:=by
 simp
theorem join_emp : ∀ ys : List Str,Txt.join ⟨#[]⟩ ys = ⟨(ys.flatMap fun y=>y.cps.toList).toArray⟩:=by
 intro ys
 show PySem.Builtin.Str.glued ⟨#[]⟩ ys = _
 rw [StrLaws.glued_eq_join]
 induction ys with
 | nil=>rfl
 | cons y r ih =>
  cases r with
  | nil =>
   show y = _
   simp
  | cons z r =>
   show y ++ ⟨#[]⟩ ++ Str.join ⟨#[]⟩ (z :: r) = _
   rw [ih]
   show (⟨(y.cps ++ #[]) ++ _⟩ : Str) = _
   simp
theorem join_ones (cs : List Nat) : Txt.join ⟨#[]⟩ (cs.map fun c=>⟨#[c]⟩) = ⟨cs.toArray⟩:=by
 rw [join_emp]
 congr 2
 induction cs with
 | nil=>rfl
 | cons c r ih=>simp only [List.map_cons,List.flatMap_cons,ih];rfl
theorem sum_ones (cs : List Nat) : ((cs.map fun c=>(⟨#[c]⟩ : Str)).map (·.length)).sum = cs.length:=by
 induction cs with
 | nil=>rfl
 | cons c r ih =>
  simp only [List.map_cons,List.sum_cons,ih,List.length_cons]
  show 1 + r.length = _
  exact o698
section
variable {w : World} {p : Program} {loose : List Str} {mean : ExcName -> Option Value} {mg mb : Str -> Option Value} {news : Led}
theorem sub_turns (cs : List Nat) (hcs : ∀ c ∈ cs,c < 256) (hlen : cs.length <= 1000) (t : Tok) (D : Addr) (hD : ∀ q ∈ news,q.1 ≠ D) (hne : cs ≠ []) (dp un : Nat) (gd : Option (List Code)) (cn : Str) (cq : Scope) (a : Addr) (ccd : Value) (cl : List (Str × Addr)) (outer : List Env) (A₀ : Around) (base h₀ : Heap) (L : Addr) (m : Str -> Option Value)
  (B : Below A₀ base outer h₀) (X : (K w.params).In h₀) (TT : Top p loose mean mg mb h₀) (hk : cq.kind = .function) (hd : dp + 4 < recursionLimit) (hu : un + 32 < cLine) (R : Result -> Shared -> Prop) :
  ∀ (k i : Nat) (s : Shared) (items : List Value) (n : Nat),cs.length - i = k -> i <= cs.length -> Fr h₀ L s.heap m -> News h₀ L s.heap ((D,listOf items.toArray n) :: news) -> StrsAre items ((cs.take i).map fun c=>⟨#[c]⟩) ->
   (∀ h' tk' t',Fr h₀ L h' m -> News h₀ L h' news -> R (.ok (.ret (.str ⟨cs.toArray⟩ t'))) { s with heap:=h',toks:=tk' }) ->
   codeAny (mdl w) (ktrTop dp un gd cn cq L a ccd cl outer) (.builtin "re.Pattern.sub.loop" ⟨[.ref 36,.str ⟨(enc cs).toArray⟩ t,.ref 86,.int 1 0,.int 0 0,.int i 0,.int ((3 * i : Nat) : Int) 0,.int ((3 * i : Nat) : Int) 0,.bool false,.ref D,.bool false],[]⟩) R s:=by
 intro k
 induction k with
 | zero =>
  intro i s items n hki hi F N hit hret
  obtain rfl : i = cs.length:=by exact o64 hki hi
  refine codeAny_builtin rLoop ?_
  rw [Around.under_plainId rLoopPlain]
  unfold Builtin.«re.Pattern.sub.loop»
  refine wpAny_bind (target1 (X.keeps F.keep) ?_)
  have esz : (enc cs).toArray.size = 3 * cs.length:=by simp [enc_length]
  refine wpAny_ite_false rfl ?_
  refine wpAny_bind (wpAny_ite_false rfl ?_)
  k_fold
  simp only [Int.toNat_natCast,esz]
  unfold reNextFound
  dsimp only
  refine bc fun g0=>?_;obtain ⟨m9,e1,e2⟩:=done1 (enc cs).toArray (3 * cs.length);refine g0 ?_;clear g0
  refine toEnd_none e1 e2 ?_
  k_unfold
  dsimp only
  refine wpAny_ite_false (decide_eq_false (by rw [Int.toNat_natCast,esz];exact Nat.lt_irrefl _)) ?_
  refine wpAny_bind ?_
  unfold reSlice
  refine wpAny_ite_true rfl ?_
  refine wpAny_mkStr ?_ (by simp [PySem.Str.length])
  have hit' : StrsAre items (cs.map fun c=>⟨#[c]⟩):=by rw [List.take_length] at hit;exact hit
  refine wpAny_bind (wpAny_seqItems (N.get (.head _)) rfl ?_)
  have hem : items.toArray.isEmpty = false:=by
   have:=StrsAre.length hit'
   cases items with
   | nil =>
    cases cs with
    | nil=>exact absurd rfl hne
    | cons c r=>simp at this
   | cons y r=>rfl
  refine wpAny_ite_false (decide_eq_false (by simp [hem])) ?_
  refine wpAny_bind ?_
  refine join_listW (D:=D) (items:=items.toArray) ⟨_,N.get (.head _),rfl,_,rfl⟩ hit' ?_ ?_ ?_
  ·simp [PySem.Str.length]
  ·rw [sum_ones,List.length_map];exact o187 hlen
  ·intro t' tk'
   refine wpAny_pure ?_
   have e : Txt.join ⟨(enc cs).toArray.extract 0 0⟩ (cs.map fun c=>⟨#[c]⟩) = ⟨cs.toArray⟩:=by
    rw [show (enc cs).toArray.extract 0 0 = #[] by simp]
    exact join_ones cs
   rw [e]
   exact hret _ _ _ F fun q hq=>N q (.tail _ hq)
 | succ k ih =>
  intro i s items n hki hi F N hit hret
  have hlt : i < cs.length:=by exact o40 hki
  have hc : cs[i]? = some cs[i]:=List.getElem?_eq_getElem hlt
  have hc2:=hcs _ (List.getElem_mem hlt)
  generalize cs[i] = c at hc hc2
  refine codeAny_builtin rLoop ?_
  rw [Around.under_plainId rLoopPlain]
  unfold Builtin.«re.Pattern.sub.loop»
  refine wpAny_bind (target1 (X.keeps F.keep) ?_)
  refine wpAny_ite_false rfl ?_
  refine wpAny_bind (wpAny_ite_false rfl ?_)
  k_fold
  rw [Int.toNat_natCast]
  unfold reNextFound
  dsimp only
  have hd3:=enc_at hc
  have g0 : (enc cs).toArray.getD (3 * i) 0 = 61:=by rw [<- Nat.add_zero (3 * i),getD_drop,hd3];rfl
  have g1 : (enc cs).toArray.getD (3 * i + 1) 0 ∈ hxs:=by rw [getD_drop,hd3];exact hx_mem _ (by exact o5 hc2)
  have g2 : (enc cs).toArray.getD (3 * i + 2) 0 ∈ hxs:=by rw [getD_drop,hd3];exact hx_mem _ (by exact o1)
  have esz : (enc cs).toArray.size = 3 * cs.length:=by simp [enc_length]
  refine toEnd_some (found4 _ _ _ (by rw [esz];exact o699 hlt) g0 g1 g2) (found8 _ _ _) rfl rfl ?_
  k_unfold
  have es : (m6 (enc cs).toArray (3 * i) (enc cs).toArray.size).start = 3 * i:=rfl
  have eh : (m6 (enc cs).toArray (3 * i) (enc cs).toArray.size).handed = 3 * i + 3:=rfl
  dsimp only
  refine wpAny_ite_false (decide_eq_false (by rw [es,Int.toNat_natCast];exact Nat.lt_irrefl _)) ?_
  refine wpAny_bind (newMatch1 (p:=3 * i) rfl rfl rfl ?_)
  refine wpAny_bind (wpAny_holding ?_)
  have F1:=F.push (spanObj (3 * i))
  have F2:=F1.push (matchObj ⟨(enc cs).toArray⟩ t (3 * i) s.heap.objs.size)
  have N1:=N.push F (spanObj (3 * i))
  have N2:=N1.push F1 (matchObj ⟨(enc cs).toArray⟩ t (3 * i) s.heap.objs.size)
  have ez : (s.heap.push (spanObj (3 * i))).objs.size = s.heap.objs.size + 1:=Heap.size_push ..
  rw [ez] at N2
  have hy : (⟨(enc cs).toArray.extract (3 * i) (3 * i + 3)⟩ : Str) = quo c:=by rw [extract_drop,hd3];rfl
  refine unqm_ok (news:=(s.heap.objs.size + 1,matchObj ⟨(enc cs).toArray⟩ t (3 * i) s.heap.objs.size) :: (s.heap.objs.size,spanObj (3 * i)) :: (D,listOf items.toArray n) :: news) _ _ _ _ _ c hc2 (.head _) (.tail _ (.head _)) hy dp (un + 1) gd cn cq a ccd cl outer A₀ base h₀ L m _ _ _ B F2 X N2 TT hk (by exact o700 hd) (by exact o701 hu) ?_
  rintro v news' h' tk' hE1 F' N';refine bc fun g0=>?_;obtain ⟨rfl,t',rfl⟩:=hE1;refine g0 ?_;clear g0
  refine wpAny_ite_true rfl ?_
  rw [es,eh,show ((3 * i + 3 : Nat) == 3 * i) = false from by simp]
  have NN : News h₀ L h' ([(s.heap.objs.size + 1,matchObj ⟨(enc cs).toArray⟩ t (3 * i) s.heap.objs.size),(s.heap.objs.size,spanObj (3 * i))] ++ (D,listOf items.toArray n) :: news):=N'
  have hDs:=Heap.lt_size (N.get (.head _))
  have hitl : items.length <= 1000:=by
   have:=StrsAre.length hit
   simp at this
   exact o702 this hlen
  have zD:=N' (D,listOf items.toArray n) (.tail _ (.tail _ (.head _)))
  refine wpAny_bind (wpAny_updateSeq zD.1 rfl ?_ (by rw [sizeLine_eq];simp;exact o26 hitl) (by rw [sizeLine_eq];simp;exact o26 hitl))
  refine wpAny_pure ⟨plainId_quiet rLoopPlain _,?_⟩
  have N3:=ki_turn (pre:=[(s.heap.objs.size + 1,matchObj ⟨(enc cs).toArray⟩ t (3 * i) s.heap.objs.size),(s.heap.objs.size,spanObj (3 * i))]) (fun x=>x.push (Value.str ⟨#[c]⟩ t')) (its':=(items ++ [Value.str ⟨#[c]⟩ t']).toArray) NN (fun q hq=>by
   refine bc fun g0=>?_;rcases List.mem_cons.mp hq with rfl | hq <;> (refine g0 ?_;clear g0)
   ·exact Nat.ne_of_gt (Nat.lt_succ_of_lt hDs)
   ·rw [List.mem_singleton.mp hq];exact Nat.ne_of_gt hDs) hD (by simp) rfl
  refine ih (i + 1) _ (items ++ [Value.str ⟨#[c]⟩ t']) _ (by exact o65 hki) (by exact o38 hlt) (F'.change (Heap.SameBut.update ..) zD.2.1 zD.2.2) (fun q hq=>N3 q (List.mem_append_right _ hq)) ?_ fun h'' tk'' t'' F'' N''=>hret _ _ _ F'' N''
  rw [List.take_add_one,hc,List.map_append]
  exact StrsAre.append' hit (.cons _ _ .nil)
end
end
section
open PyProof.Rows PySem.Builtin.Re PySem.Calls PySem.Spec PySem.W
theorem occ_none (x : Str) (c n : Nat) (h : c ∉ x.cps.toList) : (PySem.Builtin.Str.occurrences x ⟨#[c]⟩ 0 x.length n).isEmpty = true:=by
 cases ho : PySem.Builtin.Str.occurrences x ⟨#[c]⟩ 0 x.length n with
 | nil=>rfl
 | cons i r =>
  obtain ⟨f,k⟩:=StrLaws.occ_chain x ⟨#[c]⟩ n
  rw [ho] at k
  exact absurd (List.mem_of_getElem? ((StrLaws.subAt_one x c i).mp k.2.1)) h
theorem replace_none {prog : Program} {w : World} {A : Around} {E : Value -> Shared -> Prop} {s : Shared} {x y z : Str} {t u v : Tok} {c : Nat} {Q : Value -> Shared -> Prop} (hy : y = ⟨#[c]⟩) (hc : c ∉ x.cps.toList) (h : Q (.str x t) s) :
  wpAny (model prog w) A (call (.builtin "str.replace") [.str x t,.str y u,.str z v]) Q E s:=by
 subst hy
 have e : ((PySem.Builtin.Str.occurrences x ⟨#[c]⟩ 0 x.length (x.length + 1)).isEmpty || ((⟨#[c]⟩ : Str).length == 0 && z.length == 0)) = true:=by rw [occ_none x c _ hc];rfl
 refine call_gives F.slot_str_replace (typeIs_str _ _ _) F.entry_str_replace (F.args_str_replace_3 _ _ _) (gives_str_replace x ⟨#[c]⟩ z t u v fun hf=>by rw [e] at hf;cases hf) ?_
 rw [if_pos e]
 exact h
theorem enc_free (cs : List Nat) (hcs : ∀ c ∈ cs,c < 256) (d : Nat) (hd : d ∉ 61 :: hxs) : d ∉ enc cs:=by
 intro hm
 obtain ⟨c,hc,hm⟩:=List.mem_flatMap.mp hm
 have:=hcs c hc
 rcases List.mem_cons.mp hm with rfl | hm
 ·exact hd (.head _)
 ·rcases List.mem_cons.mp hm with rfl | hm
  ·exact hd (.tail _ (hx_mem _ (by exact o5 this)))
  ·rw [List.mem_singleton.mp hm] at hd
   exact hd (.tail _ (hx_mem _ (by exact o1)))
theorem lit_us : Str.ofString "_" = ⟨#[95]⟩:=by decide +kernel
section
variable {prog : Program} {w : World} {A : Around} {E : Value -> Shared -> Prop} {s : Shared}
theorem meth_sub1 {P : Params} {pl : Sem Bool} {Q : Value × List Value -> Shared -> Prop} (X : (K P).In s.heap) (h : Q (.builtin "re.Pattern.sub",[.ref 36]) s) :
  wpAny (model prog w) A (getMethod (.ref 36) "sub" pl) Q E s :=
 getMethod_builtin ⟨_,X 36 _ rfl,rfl⟩ rPlain rSub rType (fun a e=>by cases e;exact ⟨_,X 36 _ rfl,rfl⟩) h
theorem meth_sub2 {P : Params} {pl : Sem Bool} {Q : Value × List Value -> Shared -> Prop} (X : (K P).In s.heap) (h : Q (.builtin "re.Pattern.sub",[.ref 98]) s) :
  wpAny (model prog w) A (getMethod (.ref 98) "sub" pl) Q E s :=
 getMethod_builtin ⟨_,X 98 _ rfl,rfl⟩ rPlain rSub rType (fun a e=>by cases e;exact ⟨_,X 98 _ rfl,rfl⟩) h
end
theorem sBa : isSubtype (.type "str") (.type "bytearray") = pure false:=by rw [isSubtype_type];kernel_rfl
section
variable {w : World} {p : Program} {loose : List Str} {mean : ExcName -> Option Value} {mg mb : Str -> Option Value} {news : Led}
theorem sub_go1 {cs : List Nat} (hcs : ∀ c ∈ cs,c < 256) (hlen : cs.length <= 1000) (hne : cs ≠ []) {t : Tok} {dp un : Nat} {gd : Option (List Code)} {cn : Str} {cq : Scope} {a : Addr} {ccd : Value} {cl : List (Str × Addr)} {outer : List Env} {A₀ : Around} {base h₀ : Heap} {L : Addr} {m : Str -> Option Value}
  {s : Shared} {Q E : Value -> Shared -> Prop} (B : Below A₀ base outer h₀) (F : Fr h₀ L s.heap m) (X : (K w.params).In h₀) (N : News h₀ L s.heap news) (TT : Top p loose mean mg mb h₀) (hk : cq.kind = .function) (hd : dp + 4 < recursionLimit) (hu : un + 32 < cLine)
  (h : ∀ h' tk' t',Fr h₀ L h' m -> News h₀ L h' news -> Q (.str ⟨cs.toArray⟩ t') { s with heap:=h',toks:=tk' }) :
  wpAny (mdl w) (ktrTop dp un gd cn cq L a ccd cl outer) (call (.builtin "re.Pattern.sub") [.ref 36,.ref 86,.str ⟨(enc cs).toArray⟩ t]) Q E s:=by
 have XX:=X.keeps F.keep
 refine wpAny_call (codeAny_call_builtin rSub.plain rEntry (rSub.check _ _ _ _ _ _ _ _ ⟨_,XX 36 _ rfl,rfl⟩ (rArgs _ _ _) ?_))
 unfold Builtin.«re.Pattern.sub» reSubstitute
 dsimp only
 rw [rNamed]
 refine wpAny_bind (wpAny_pure ?_)
 dsimp only
 refine wpAny_bind (wpAny_pure ?_)
 refine wpAny_bind (wpAny_specialOf ⟨_,XX 86 _ rfl,rfl⟩ fCall ?_)
 simp only [Option.isSome_some,if_true]
 refine wpAny_bind (wpAny_pure ?_)
 refine wpAny_bind (wpAny_pure ?_)
 refine wpAny_bind (wpAny_holding (target1 XX ?_))
 rw [if_pos (show ((1 : Int) == 1) = true from rfl)]
 refine wpAny_bind ?_
 unfold reNotHeld
 refine wpAny_bind (wpAny_isInstance (typeIs_str _ _ _) sBa ?_)
 refine wpAny_pure ?_
 refine wpAny_bind (wpAny_newList ?_ (by simp))
 refine wpAny_pure ⟨plainId_quiet rLoopPlain _,?_⟩
 have F1:=F.push { cls:=.type "list",data:=.seq (#[] : Array Value) }
 have N1:=N.push F { cls:=.type "list",data:=.seq (#[] : Array Value) }
 refine sub_turns cs hcs hlen t s.heap.objs.size (fun q hq=>Nat.ne_of_lt (Heap.lt_size (N q hq).1)) hne dp un gd cn cq a ccd cl outer A₀ base h₀ L m B X TT hk hd hu _ cs.length 0 _ [] 0 rfl (Nat.zero_le _) F1 N1 .nil ?_
 intro h' tk' t' F' N'
 exact h _ _ _ F' N'
end
section
variable {w : World} {p : Program} {loose : List Str} {mean : ExcName -> Option Value} {mg mb : Str -> Option Value} {news : Led}
theorem hdec_ok (cs : List Nat) (hcs : ∀ c ∈ cs,c < 256) (hlen : cs.length <= 1000) (hne : cs ≠ []) (t : Tok) : Ok w p loose mean mg mb 93 [.str ⟨(enc cs).toArray⟩ t] 6 48 news (fun v news'=>news' = news /\ ∃ t',v = .str ⟨cs.toArray⟩ t'):=by
 intro dp un gd cn cs' a ccd cl outer A₀ base h₀ L m s Q E B F X N TT hk hd hu hret
 refine wpAny_call ?_
 k_dflt cell_enter
 dsimp only [bheaderudecode,lhsOf]
 repeat' (first | with_reducible (first | ((show wpAny _ _ (call (Value.builtin "str.replace") _) _ _ _);(k_dflt (refine' replace_none (c:=95) ?h1z1 ?h2z1 ?_;(case h1z1=>exact lit_us);(case h2z1=>exact enc_free _ (by assumption) _ (by decide))))) | ((show wpAny _ _ (call (Value.builtin "re.Pattern.sub") _) _ _ _);(k_dflt (refine' sub_go1 ?h1z2 ?h2z2 ?h3z2 ?Bz2 ?Fz2 ?Xz2 ?Nz2 ?Tz2 ?kz2 ?dz2 ?uz2 ?_;(case h1z2=>assumption);(case h2z2=>assumption);(case h3z2=>assumption);(case Bz2=>k_asm);(case Fz2=>k_asm);(case Xz2=>k_asm);(case Nz2=>k_asm);(case Tz2=>k_asm);(case kz2=>first | exact rfl | assumption);(case dz2=>ktr_room);(case uz2=>ktr_units));intro h'z2 tk'z2 t'z2 F'z2 N'z2;(try k_fold))) | ((show wpAny _ _ (getMethod (Value.ref 36) (Str.ofString "sub") _) _ _ _);k_dflt (refine' meth_sub1 ?Xz3 ?_;(case Xz3=>exact Frag.In.keeps (by assumption) (Fr.keep (by assumption)))))) | (k_unfold;(try dsimp only)) | (k_end;kc_close) | walk1 | (dsimp only;walk1) | (leave1;walk_say "STEP leave1";(try dsimp only)) | fail "no step")
 exact hret _ _ _ _ ⟨rfl,_,rfl⟩ (by assumption) (by assumption)
end
end
section
open PyProof.Rows PySem.Builtin.Str PySem.Calls PySem.Spec PySem.W
noncomputable def es100 : Array DictEntry:=[⟨40,.int 40 1952,.str (Str.ofString "\\(") 1956⟩,⟨41,.int 41 1958,.str (Str.ofString "\\)") 1962⟩,⟨91,.int 91 1964,.str (Str.ofString "\\[") 1968⟩,⟨93,.int 93 1970,.str (Str.ofString "\\]") 1974⟩,⟨123,.int 123 1976,.str (Str.ofString "\\{") 1980⟩,⟨125,.int 125 1982,.str (Str.ofString "\\}") 1986⟩,⟨63,.int 63 1988,.str (Str.ofString "\\?") 1992⟩,⟨42,.int 42 1994,.str (Str.ofString "\\*") 1998⟩,⟨43,.int 43 2000,.str (Str.ofString "\\+") 2004⟩,⟨45,.int 45 2006,.str (Str.ofString "\\-") 2010⟩,⟨124,.int 124 2012,.str (Str.ofString "\\|") 2016⟩,⟨94,.int 94 2018,.str (Str.ofString "\\^") 2022⟩,⟨36,.int 36 2024,.str (Str.ofString "\\$") 2028⟩,⟨92,.int 92 2030,.str (Str.ofString "\\\\") 2034⟩,⟨46,.int 46 2036,.str (Str.ofString "\\.") 2040⟩,⟨38,.int 38 2042,.str (Str.ofString "\\&") 2046⟩,⟨126,.int 126 2048,.str (Str.ofString "\\~") 2052⟩,⟨35,.int 35 2054,.str (Str.ofString "\\#") 2058⟩,⟨32,.int 32 2060,.str (Str.ofString "\\ ") 2064⟩,⟨9,.int 9 2066,.str (Str.mk #[92,9]) 2070⟩,⟨10,.int 10 2072,.str (Str.mk #[92,10]) 2076⟩,⟨13,.int 13 2078,.str (Str.mk #[92,13]) 2082⟩,⟨11,.int 11 2084,.str (Str.mk #[92,11]) 2088⟩,⟨12,.int 12 2090,.str (Str.mk #[92,12]) 2094⟩].toArray
theorem es100_keys (prog : Program) (w : World) : KeysOf (intKind prog w) es100:=by
 intro e he
 have h : (es100.toList.all fun e=>Value.isInt e.hash e.key && (e.hash == hashInt e.hash)) = true:=by decide +kernel
 have:=List.all_eq_true.mp h e he.val
 rw [Bool.and_eq_true,beq_iff_eq] at this
 exact ⟨e.hash,this.1,this.2⟩
theorem map100 {P : Params} {h : Heap} (X : (K P).In h) (prog : Program) (w : World) : h.MapOf (intKind prog w) 100 (fun k=>findBy Value.isInt es100 k) :=
 ⟨_,es100,24,X 100 _ rfl,⟨rfl,rfl,rfl⟩,rfl,es100_keys prog w,fun _=>rfl⟩
theorem no100 : ∀ c ∈ 61 :: hxs,(findBy Value.isInt es100 (c : Int)).isNone = true:=by decide +kernel
theorem sKe : isSubtype (.type "KeyError") (.type "LookupError") = pure true:=by rw [isSubtype_type];kernel_rfl
theorem look100 {P : Params} {prog : Program} {w : World} {A : Around} {E : Value -> Shared -> Prop} {s : Shared} {c : Nat} {Q : Mapped -> Shared -> Prop} (X : (K P).In s.heap) (hc : c ∈ 61 :: hxs) (hh : A.handled = none)
  (h : ∀ h' k,(∀ b o,s.heap.get? b = some o -> h'.get? b = some o) -> Q .keep { s with heap:=h',toks:=k }) :
  wpAny (model prog w) A (tableLookup (.ref 100) c) Q E s:=by
 unfold tableLookup
 refine wpAny_bind (wpAny_attempt ?_)
 refine wpAny_bind (wpAny_mkInt ?_)
 refine wpAny_getItem_missing_of (knd:=intKind prog w) (k:=(c : Int)) (by simp [intKind,Value.isInt]) (by decide) hh (map100 X prog w) (Option.isNone_iff_eq_none.mp (no100 c hc)) fun h' e ne=>?_
 dsimp only
 obtain ⟨ob,t,he,hcl,hd⟩:=ne.there
 refine wpAny_bind (wpAny_isInstance ⟨ob,he,hcl⟩ sKe ?_)
 rw [if_pos rfl]
 refine wpAny_bind (wpAny_rule (wpAny_pure ?_))
 exact h h' _ ne.keeps
theorem sign_128' : ∀ d ∈ 61 :: hxs,d < 128:=by decide +kernel
theorem tr_one {P : Params} {prog : Program} {w : World} {A : Around} {E : Value -> Shared -> Prop} {s : Shared} {c : Nat} {t : Tok} {Q : Value -> Shared -> Prop} (X : (K P).In s.heap) (hc : c ∈ 61 :: hxs) (hh : A.handled = none)
  (h : ∀ h' t' k,(∀ b o,s.heap.get? b = some o -> h'.get? b = some o) -> Q (.str ⟨#[c]⟩ t') { s with heap:=h',toks:=k }) :
  wpAny (model prog w) A (call (.builtin "str.translate") [.str ⟨#[c]⟩ t,.ref 100]) Q E s:=by
 refine wpAny_call_entry PySem.F.slot_str_translate (typeIs_str _ _ _) PySem.F.entry_str_translate ?_ (PySem.F.args_str_translate_2 _ _)
 unfold Builtin.«str.translate»
 refine wpAny_bind (wpAny_pure ?_)
 dsimp only
 refine wpAny_ite_false rfl ?_
 refine wpAny_bind ?_
 k_fold
 have ea : ((#[c] : Array Nat).all fun x=>decide (x < 128)) = true:=by
  have:=sign_128' c hc
  simp [this]
 rw [ea]
 simp only [List.forIn_toArray,List.forIn_cons,List.forIn_nil]
 refine wpAny_bind ?_
 k_fold
 refine wpAny_ite_false rfl ?_
 simp only [List.lookup_nil]
 refine wpAny_bind ?_
 k_fold
 refine look100 X hc hh fun h' k kp=>?_
 k_unfold
 (try dsimp only)
 refine wpAny_bind (wpAny_pure ?_)
 (try dsimp only)
 refine wpAny_pure ?_
 (try dsimp only)
 refine wpAny_pure ?_
 (try dsimp only)
 k_unfold
 (try dsimp only)
 refine wpAny_ite_false rfl ?_
 refine wpAny_bind (wpAny_mkStr (wpAny_pure ⟨_,rfl,?_⟩) (by simp [PySem.Str.length,sizeLine_eq]))
 have e9 : (⟨List.foldl (fun acc (p : Str)=>acc ++ p.cps) #[] [⟨#[c]⟩].reverse⟩ : Str) = ⟨#[c]⟩:=by simp
 rw [e9]
 exact h _ _ _ kp
end
section
open PyProof.Rows PySem.Calls PySem.Spec PySem.W
theorem tr_k {w : World} {A : Around} {E : Value -> Shared -> Prop} {s : Shared} {h₀ : Heap} {L : Addr} {m : Str -> Option Value} {news : Led} {c : Nat} {t : Tok} {Q : Value -> Shared -> Prop} {prog : Program} (F : Fr h₀ L s.heap m) (N : News h₀ L s.heap news) (X : (K w.params).In h₀) (hc : c ∈ 61 :: hxs) (hh : A.handled = none)
  (h : ∀ h' t' k,Fr h₀ L h' m -> News h₀ L h' news -> Q (.str ⟨#[c]⟩ t') { s with heap:=h',toks:=k }) :
  wpAny (model prog w) A (call (.builtin "str.translate") [.str ⟨#[c]⟩ t,.ref 100]) Q E s :=
 tr_one (X.keeps F.keep) hc hh fun h' t' k kp=>h h' t' k (F.keeps kp) (N.grown kp)
theorem meth_tr {M : Model} {A : Around} {E : Value -> Shared -> Prop} {s : Shared} {x : Str} {t : Tok} {pl : Sem Bool} {Q : Value × List Value -> Shared -> Prop} (h : Q (.builtin "str.translate",[.str x t]) s) : wpAny M A (getMethod (.str x t) "translate" pl) Q E s:=by
 with_reducible exact GM.of (.str x t) (PySem.typeIs_str _ _ _) PySem.F.slot_str_translate PySem.F.type_str_translate GM.noRef h
section
variable {w : World} {p : Program} {loose : List Str} {mean : ExcName -> Option Value} {mg mb : Str -> Option Value} {news : Led}
theorem escape_ok (c : Nat) (hc : c ∈ 61 :: hxs) (t : Tok) : Ok w p loose mean mg mb 110 [.str ⟨#[c]⟩ t] 2 16 news (fun v news'=>news' = news /\ ∃ t',v = .str ⟨#[c]⟩ t'):=by
 intro dp un gd cn cs' a ccd cl outer A₀ base h₀ L m s Q E B F X N T hk hd hu hret
 refine wpAny_call ?_
 k_dflt cell_enter
 dsimp only [bescape,lhsOf]
 repeat' (first | with_reducible (first | ((show wpAny _ _ (call (Value.builtin "str.translate") _) _ _ _);(k_dflt (refine' tr_k ?Fz1 ?Nz1 ?Xz1 ?h1z1 ?h2z1 ?_;(case Fz1=>k_asm);(case Nz1=>k_asm);(case Xz1=>k_asm);(case h1z1=>assumption);(case h2z1=>exact rfl));intro h'z1 t'z1 k'z1 F'z1 N'z1)) | ((show wpAny _ _ (getMethod (Value.str _ _) (Str.ofString "translate") _) _ _ _);k_dflt (refine' meth_tr ?_))) | (k_unfold;(try dsimp only)) | (k_end;kc_close) | walk1 | (dsimp only;walk1) | (leave1;walk_say "STEP leave1";(try dsimp only)) | fail "no step")
 exact hret _ _ _ _ ⟨rfl,_,rfl⟩ (by assumption) (by assumption)
end
end
section
open PyProof.Rows PySem.Builtin PySem.Builtin.ObjectAttr PySem.Calls PySem.Spec PySem.W
theorem mdGet : Slot "method_descriptor" "__get__" "method_descriptor.__get__" :=
 .of (owner := "method_descriptor") (n := "__get__") (by rw [typeLookup_type,builtinLookup_eq_fast];kernel_rfl) (by decide +kernel) (by decide +kernel) (by decide +kernel)
  (by first | exact .inl (by decide +kernel) | exact .inr (by decide +kernel)) (by rw [isSubtype_type];kernel_rfl)
theorem mdEntry : entryFor table "method_descriptor.__get__" = some Builtin.«method_descriptor.__get__»:=entryFor_of_tree (by kernel_rfl)
theorem mdArgs (a b c : Value) : argsOk "method_descriptor.__get__" ⟨[a,b,c],[]⟩:=by unfold argsOk;kernel_rfl
theorem mdSet : typeLookup (.type "method_descriptor") "__set__" = pure none:=by rw [typeLookup_type,builtinLookup_eq_fast];kernel_rfl
theorem mdDel : typeLookup (.type "method_descriptor") "__delete__" = pure none:=by rw [typeLookup_type,builtinLookup_eq_fast];kernel_rfl
theorem laType : typeOf (.builtin "list.append") = pure (.type "method_descriptor"):=by show builtinType _ = _;rw [builtinType_eq_fast];kernel_rfl
theorem laLook : typeLookup (.type "list") "append" = pure (some (.builtin "list.append")):=by rw [typeLookup_type,builtinLookup_eq_fast];kernel_rfl
theorem laTold : Manifest.toldItsClass.contains "list.append" = true \/ Manifest.toldItsClass.contains "list.append" = false:=by
 cases Manifest.toldItsClass.contains "list.append" <;> simp
theorem subLL : isSubtype (.type "list") (.type "list") = pure true:=by rw [isSubtype_type];kernel_rfl
noncomputable def boundObj (a : Addr) : Obj:={ cls:=.type "builtin_function_or_method",data:=.fields #[.builtin "list.append",.ref a] }
theorem md_get {prog : Program} {w : World} {A : Around} {R : Result -> Shared -> Prop} {s : Shared} {a : Addr} {o : Obj} (hx : s.heap.get? a = some o) (hc : o.cls = .type "list")
  (h : R (.ok (.ret (.ref s.heap.objs.size))) { s with heap:=s.heap.push (boundObj a) }) :
  codeAny (model prog w) A (.call (.builtin "method_descriptor.__get__") ⟨[.builtin "list.append",.ref a,.type "list"],[]⟩) R s:=by
 have hT : s.TypeIs (.ref a) "list":=⟨o,hx,hc⟩
 refine codeAny_call_builtin mdGet.plain mdEntry (mdGet.check _ _ _ _ _ _ _ _ laType (mdArgs _ _ _) ?_)
 unfold Builtin.«method_descriptor.__get__»
 obtain ⟨hp,g,d,tk,os⟩:=s
 have f1:=subLL
 repeat (any_goals (first | assumption | wp_step))
 have e : (".".intercalate ("list.append".cutAt '.').dropLast) = "list":=by decide +kernel
 rw [e]
 refine wpAny_of_eq f1 ?_
 rw [if_neg (by decide)]
 refine wpAny_pure ?_
 refine wpAny_bind ?_
 unfold newFields
 exact wpAny_newObj_type (wpAny_pure h)
theorem meets_append (a : Addr) (xs : Array Value) (k : Nat) (u : Tok) :
  Meets (Builtin.«object.__getattribute__» ⟨[.ref a,.str (Str.ofString "append") u],[]⟩) (fun A R s=>s.heap.get? a = some { cls:=.type "list",dict:=none,data:=.seq xs k } /\ R (.ok (.ret (.ref s.heap.objs.size))) { s with heap:=s.heap.push (boundObj a) }) :=
 Meets.of_wp fun prog w A R s hs=>by
  obtain ⟨hp,g,d,tk,os⟩:=s
  obtain ⟨hx,hs⟩:=hs
  have hT : (⟨hp,g,d,tk,os⟩ : Shared).TypeIs (.ref a) "list":=⟨_,hx,rfl⟩
  have f1:=laLook
  have f2:=laType
  have f3:=mdGet.lookup
  have f4:=mdSet
  have f5:=mdDel
  unfold Builtin.«object.__getattribute__»
  repeat (any_goals (first | assumption | wp_step))
  refine md_get hx rfl ?_
  exact wpAny_pure ⟨_,rfl,hs⟩
theorem attr_append {prog : Program} {w : World} {A : Around} {E : Value -> Shared -> Prop} {s : Shared} {a : Addr} {xs : Array Value} {k : Nat} {Q : Value -> Shared -> Prop} (hx : s.heap.get? a = some { cls:=.type "list",dict:=none,data:=.seq xs k })
  (h : Q (.ref s.heap.objs.size) { s with heap:=s.heap.push (boundObj a),toks:=s.toks + 1 }) :
  wpAny (model prog w) A (getAttr (.ref a) (Str.ofString "append") true) Q E s:=by
 obtain ⟨hp,g,d,tk,os⟩:=s
 have hT : ∀ tk',(⟨hp,g,d,tk',os⟩ : Shared).TypeIs (.ref a) "list":=fun _=>⟨_,hx,rfl⟩
 have f3:=F.slot_list_getattribute.lookup
 have f4:=F.slot_list_getattribute.bind (.ref a)
 unfold getAttr getAttrBy
 repeat (any_goals (first | assumption | exact hT _ | ((with_reducible show wpAny _ _ (call (Value.builtin "list.__getattribute__") _ _) _ _ _);refine call_meets F.slot_list_getattribute (hT _) am_entry_list_getattribute (F.args_list_getattribute_2 _ _) (meets_append a xs k _) ⟨hx,?_⟩) | wp_step))
 exact wpAny_pure h
end
section
open PyProof.Rows PySem.Builtin PySem.Builtin.ObjectAttr PySem.Calls PySem.Spec PySem.W
theorem subLM : isSubtype (.type "list") (.type "module") = pure false:=by rw [isSubtype_type];kernel_rfl
theorem subLT : isSubtype (.type "list") (.type "type") = pure false:=by rw [isSubtype_type];kernel_rfl
theorem laKind : builtinKind "list.append" = some .method:=by
 have hs : splitId "list.append" = some ("list", "append"):=by decide +kernel
 simp only [builtinKind,hs]
 decide +kernel
theorem laVar : Manifest.varargsMethods.contains "list.append" = false:=by decide +kernel
theorem chkArgs (a v : Value) : (match Manifest.signature? "list.append" with | some sig=>Bind.checkArgs "list.append" { sig with full:=s!"{Bind.lastOf "list"}.{Bind.lastOf "list.append"}" } ⟨[a,v],[]⟩ | none=>pure ()) = pure ():=by
 rw [signature?_of (id := "list.append") (n:=['d','n','e','p','p','a']) (o:=['t','s','i','l']) (by kernel_rfl) F.owner_list]
 kernel_rfl
theorem chkBound {M : Model} {A : Around} {E : Value -> Shared -> Prop} {s : Shared} {D : Addr} {its : Array Value} {n : Nat} {x : Value} {Q : Unit -> Shared -> Prop} (ho : s.heap.get? D = some { cls:=.type "list",data:=.seq its n }) (h : Q () s) : wpAny M A (checkBoundCall "list.append" ⟨[.ref D,x],[]⟩) Q E s:=by
 have hc:=chkArgs (.ref D) x
 have hT : s.TypeIs (.ref D) "list":=⟨_,ho,rfl⟩
 unfold checkBoundCall
 cases hs : Manifest.signature? "list.append" with
 | none=>exact wpAny_pure h
 | some sig =>
  rw [hs] at hc
  dsimp only at hc ⊢
  rw [laKind]
  dsimp only
  rw [if_neg (by decide)]
  refine wpAny_bind (wpAny_isInstance hT subLM ?_)
  rw [laVar,Bool.false_or,if_neg Bool.false_ne_true]
  refine wpAny_bind ?_
  unfold isType
  dsimp only
  refine wpAny_bind ?_
  unfold loadHead
  refine wpAny_loadPart ho (wpAny_pure ?_)
  dsimp only
  rw [if_neg Bool.false_ne_true]
  refine wpAny_bind (wpAny_typeOf hT ?_)
  dsimp only
  exact wpAny_of_eq hc h
theorem call_bound {prog : Program} {w : World} {A : Around} {E : Value -> Shared -> Prop} {s : Shared} {Mt D : Addr} {its : Array Value} {n : Nat} {x : Value} {Q : Value -> Shared -> Prop} (hm : s.heap.get? Mt = some (boundObj D)) (ho : s.heap.get? D = some { cls:=.type "list",data:=.seq its n })
  (h : ∀ h',Heap.SameBut D s.heap h' -> h'.get? D = some { cls:=.type "list",data:=.seq (its.push x) (n + 1) } -> Q .none { s with heap:=h' }) (hsz : its.size <= sizeLine) :
  wpAny (model prog w) A (call (.ref Mt) [x]) Q E s:=by
 refine wpAny_call (codeAny_of_tree ?_)
 have eA : A.under (Code.call (.ref Mt) ⟨[x],[]⟩) = A.in1:=Around.under_plain rfl rfl
 rw [eA]
 show wpAny _ A.in1 (callAny (.ref Mt) ⟨[x],[]⟩) _ _ s
 unfold callAny
 refine wpAny_bind (wpAny_load hm ?_)
 unfold boundObj
 dsimp only
 rw [if_pos (by decide)]
 show wpAny _ A.in1 (if (Value.type "builtin_function_or_method" != Value.type "method") = true then (do checkBoundCall "list.append" ⟨[.ref D,x],[]⟩;again (.builtin "list.append" ⟨[.ref D,x],[]⟩)) else again (.call (.builtin "list.append") ⟨[.ref D,x],[]⟩)) _ _ s
 rw [if_pos (by decide)]
 refine wpAny_bind (chkBound ho (wpAny_pure ⟨plainId_quiet slot_list_append.plain _,codeAny_builtin entry_list_append ?_⟩))
 rw [Around.under_plainId slot_list_append.plain]
 show wpAny _ _ (updateSeq D (·.push x) >>= fun _=>ret .none) _ _ s
 refine wpAny_bind ?_
 refine wpAny_updateSeq (hz:=hsz) (_hz':=by simp;exact hsz) ho rfl (wpAny_pure (h _ (Heap.SameBut.update ..) ?_))
 rw [Heap.get?_update_self _ ho (by rw [mapSeq_push];rfl),mapSeq_push]
end
section
open PyProof.Rows PySem.Calls PySem.Spec PySem.W
section
variable {w : World} {p : Program} {loose : List Str} {mean : ExcName -> Option Value} {mg mb : Str -> Option Value} {news : Led}
theorem patterns_ok (f l : Nat) (hfl : f <= l) (hl : l < 256) (t1 t2 : Tok) : Ok w p loose mean mg mb 173 [.int f t1,.int l t2] 2 16 news (RetTexts news (pats f l)):=by
 intro dp un gd cn cs a ccd cl outer A₀ base h₀ L m s Q E B F X N T hk hd hu hret
 refine wpAny_call ?_
 k_dflt cell_enter
 dsimp only [bulawupatterns,lhsOf]
 repeat' (first | with_reducible (first | ((show wpAny _ _ (call (Value.ref 66) _) _ _ _);(try dsimp only [Int.toNat_natCast]);k_dflt (refine' quote_ok _ ?hcz1 _ _ _ _ _ _ _ _ _ _ _ _ _ _ _ _ _ _ ?Bz1 ?Fz1 ?Xz1 ?Nz1 ?Tz1 ?kz1 ?dz1 ?uz1 ?_;(case Bz1=>k_asm);(case Fz1=>k_asm);(case Xz1=>k_asm);(case Nz1=>k_asm);(case Tz1=>k_asm);(case kz1=>first | exact rfl | assumption);(case dz1=>ktr_room);(case uz1=>ktr_units);(case hcz1=>first | (first | exact o93 hl hfl | exact o94 hl | exact o211 hl | omega) | (simp only [fd16] at *;(first | exact o208 (by assumption) hl | omega))));intro v'z1 news'z1 h'z1 tk'z1 hr'z1 F'z1 N'z1;obtain ⟨hn'z1,t'z1,hv'z1⟩:=hr'z1;subst hn'z1;subst hv'z1;(try dsimp only [quo]);(try k_fold))) | ((with_reducible show wpAny _ _ (execs (_ :: _) _) _ _ _);k_fold) | (k_unfold;(try dsimp only)) | (k_end;kc_close) | walk1 | (dsimp only;walk1) | (leave1;walk_say "STEP leave1";(try dsimp only)) | fail "no step")
 all_goals refine' end_texts hret (by assumption) (by assumption) (by assumption) ?_
 ·exact pats_one (by assumption) (by exact o93 hl hfl) (by exact o94 hl)
 ·refine pats_three (by assumption) (by assumption) ?_ ?_ <;> exact congrArg hx (by (first | exact o212 | exact o213 | omega))
 ·exact pats_two (by assumption) (by assumption)
end
end
end Mine.Internal
end
section
namespace Mine.Internal
section
theorem same_sorted : ∀ (a b : List Nat),a.Pairwise (· < ·) -> b.Pairwise (· < ·) -> (∀ x,x ∈ a ↔ x ∈ b) -> a = b
 | [],[],_,_,_=>rfl
 | [],y :: b,_,_,h=>absurd ((h y).mpr (.head _)) (by simp)
 | x :: a,[],_,_,h=>absurd ((h x).mp (.head _)) (by simp)
 | x :: a,y :: b,ha,hb,h=>by
  have a1:=List.pairwise_cons.mp ha
  have b1:=List.pairwise_cons.mp hb
  have e : x = y:=by
   rcases List.mem_cons.mp ((h x).mp (.head _)) with e | hx
   ·exact e
   ·rcases List.mem_cons.mp ((h y).mpr (.head _)) with e | hy
    ·exact e.symm
    ·exact absurd (a1.1 y hy) (Nat.lt_asymm (b1.1 x hx))
  subst e
  rw [same_sorted a b a1.2 b1.2 fun z=>⟨fun hz=>?_,fun hz=>?_⟩]
  ·rcases List.mem_cons.mp ((h z).mp (.tail _ hz)) with e | hz'
   ·exact absurd (a1.1 z hz) (by rw [e];exact Nat.lt_irrefl _)
   ·exact hz'
  ·rcases List.mem_cons.mp ((h z).mpr (.tail _ hz)) with e | hz'
   ·exact absurd (b1.1 z hz) (by rw [e];exact Nat.lt_irrefl _)
   ·exact hz'
noncomputable def runs (fs : List (Nat × Nat)) : List Nat:=fs.flatMap fun t=>List.range' t.1 (t.2 + 1 - t.1)
theorem mem_runs {fs : List (Nat × Nat)} (hle : ∀ t ∈ fs,t.1 <= t.2) {c : Nat} : c ∈ runs fs ↔ ∃ t ∈ fs,t.1 <= c /\ c <= t.2:=by
 unfold runs
 rw [List.mem_flatMap]
 constructor
 ·rintro ⟨t,ht,hc⟩
  have:=hle t ht
  rw [List.mem_range'_1] at hc
  exact ⟨t,ht,hc.1,by (first | exact o748 hc | omega)⟩
 ·rintro ⟨t,ht,h1,h2⟩
  exact ⟨t,ht,by rw [List.mem_range'_1];(first | exact o749 h2 h1 | omega)⟩
theorem pairs_of {fs : List (Nat × Nat)} (hp : fs.Pairwise fun a b=>a.2 + 1 < b.1) : ∀ t ∈ fs,∀ t' ∈ fs,t = t' \/ t.2 + 1 < t'.1 \/ t'.2 + 1 < t.1:=by
 induction fs with
 | nil=>intro t ht;cases ht
 | cons a r ih =>
  have h:=List.pairwise_cons.mp hp
  intro t ht t' ht'
  rcases List.mem_cons.mp ht with e | ht
  ·rcases List.mem_cons.mp ht' with e' | ht'
   ·exact .inl (e.trans e'.symm)
   ·exact .inr (.inl (e ▸ h.1 _ ht'))
  ·rcases List.mem_cons.mp ht' with e' | ht'
   ·exact .inr (.inr (e' ▸ h.1 _ ht))
   ·exact ih h.2 t ht t' ht'
theorem runs_sorted {fs : List (Nat × Nat)} (hle : ∀ t ∈ fs,t.1 <= t.2) (hp : fs.Pairwise fun a b=>a.2 + 1 < b.1) : (runs fs).Pairwise (· < ·):=by
 induction fs with
 | nil=>exact List.Pairwise.nil
 | cons a r ih =>
  have h:=List.pairwise_cons.mp hp
  have e : runs (a :: r) = List.range' a.1 (a.2 + 1 - a.1) ++ runs r:=rfl
  rw [e,List.pairwise_append]
  refine ⟨List.pairwise_lt_range' ..,ih (fun t ht=>hle t (.tail _ ht)) h.2,fun x hx y hy=>?_⟩
  rw [List.mem_range'_1] at hx
  obtain ⟨t,ht,h1,h2⟩:=(mem_runs fun t ht=>hle t (.tail _ ht)).mp hy
  have h3:=h.1 t ht
  have h4:=hle a (.head _)
  (first | exact o750 h3 h1 hx | omega)
theorem octets_runs {fs : List (Nat × Nat)} {os : List Nat} (hle : ∀ t ∈ fs,t.1 <= t.2) (hp : fs.Pairwise fun a b=>a.2 + 1 < b.1) (hs : os.Pairwise (· < ·)) (hm : ∀ c,c ∈ os ↔ ∃ t ∈ fs,t.1 <= c /\ c <= t.2) : os = runs fs :=
 same_sorted _ _ hs (runs_sorted hle hp) fun c=>by rw [hm,mem_runs hle]
theorem starts_eq {fs : List (Nat × Nat)} {os : List Nat} {S : Int -> Bool} (hle : ∀ t ∈ fs,t.1 <= t.2) (hp : fs.Pairwise fun a b=>a.2 + 1 < b.1) (hs : os.Pairwise (· < ·)) (hm : ∀ c,c ∈ os ↔ ∃ t ∈ fs,t.1 <= c /\ c <= t.2)
  (hS : ∀ x : Int,S x = true ↔ ∃ c ∈ os,(c : Int) = x) : (os.filter fun (c : Nat)=>!S ((c : Int) - 1)) = fs.map (·.1):=by
 refine same_sorted _ _ (hs.filter _) ?_ fun c=>?_
 ·rw [List.pairwise_map]
  refine List.Pairwise.imp_of_mem (fun {a b} ha hb h=>?_) hp
  have:=hle a ha
  (first | exact o751 h this | omega)
 ·rw [List.mem_filter,List.mem_map]
  constructor
  ·rintro ⟨hc,hn⟩
   obtain ⟨t,ht,h1,h2⟩:=(hm c).mp hc
   refine ⟨t,ht,?_⟩
   rcases Nat.lt_or_ge t.1 c with h | h
   ·have : S ((c : Int) - 1) = true:=(hS _).mpr ⟨c - 1,(hm _).mpr ⟨t,ht,by (first | exact o16 h | omega),by (first | exact o752 h2 | omega)⟩,by (first | exact o753 h | omega)⟩
    rw [this] at hn
    cases hn
   ·(first | exact o25 h1 h | omega)
  ·rintro ⟨t,ht,rfl⟩
   refine ⟨(hm _).mpr ⟨t,ht,Nat.le_refl _,hle t ht⟩,?_⟩
   cases hb : S ((t.1 : Int) - 1) with
   | false=>rfl
   | true =>
    obtain ⟨c',hc',e⟩:=(hS _).mp hb
    obtain ⟨t',ht',h1,h2⟩:=(hm c').mp hc'
    have h3:=hle t ht
    rcases pairs_of hp t ht t' ht' with h | h | h
    ·subst h;(first | exact (o754 e h1).elim | omega)
    ·(first | exact (o755 e h h1 h3).elim | omega)
    ·(first | exact (o756 e h h2).elim | omega)
theorem ends_eq {fs : List (Nat × Nat)} {os : List Nat} {S : Int -> Bool} (hle : ∀ t ∈ fs,t.1 <= t.2) (hp : fs.Pairwise fun a b=>a.2 + 1 < b.1) (hs : os.Pairwise (· < ·)) (hm : ∀ c,c ∈ os ↔ ∃ t ∈ fs,t.1 <= c /\ c <= t.2)
  (hS : ∀ x : Int,S x = true ↔ ∃ c ∈ os,(c : Int) = x) : (os.filter fun (c : Nat)=>!S ((c : Int) + 1)) = fs.map (·.2):=by
 refine same_sorted _ _ (hs.filter _) ?_ fun c=>?_
 ·rw [List.pairwise_map]
  refine List.Pairwise.imp_of_mem (fun {a b} ha hb h=>?_) hp
  have:=hle b hb
  (first | exact o757 h this | omega)
 ·rw [List.mem_filter,List.mem_map]
  constructor
  ·rintro ⟨hc,hn⟩
   obtain ⟨t,ht,h1,h2⟩:=(hm c).mp hc
   refine ⟨t,ht,?_⟩
   rcases Nat.lt_or_ge c t.2 with h | h
   ·have : S ((c : Int) + 1) = true:=(hS _).mpr ⟨c + 1,(hm _).mpr ⟨t,ht,by (first | exact o758 h1 | omega),by (first | exact o38 h | omega)⟩,by (first | exact o759 | omega)⟩
    rw [this] at hn
    cases hn
   ·(first | exact o760 h2 h | omega)
  ·rintro ⟨t,ht,rfl⟩
   refine ⟨(hm _).mpr ⟨t,ht,hle t ht,Nat.le_refl _⟩,?_⟩
   cases hb : S ((t.2 : Int) + 1) with
   | false=>rfl
   | true =>
    obtain ⟨c',hc',e⟩:=(hS _).mp hb
    obtain ⟨t',ht',h1,h2⟩:=(hm c').mp hc'
    have h3:=hle t ht
    rcases pairs_of hp t ht t' ht' with h | h | h
    ·subst h;(first | exact (o761 e h2).elim | omega)
    ·(first | exact (o762 e h h1).elim | omega)
    ·(first | exact (o763 e h h2 h3).elim | omega)
end
section
open PySem
theorem zip_no_len : typeLookup (.type "zip") "__len__" = pure none:=by rw [typeLookup_type,builtinLookup_eq_fast];kernel_rfl
theorem zip_no_hint : typeLookup (.type "zip") "__length_hint__" = pure none:=by rw [typeLookup_type,builtinLookup_eq_fast];kernel_rfl
section
variable {prog : Program} {w : World} {A : Around} {E : Value -> Shared -> Prop} {s : Shared} {z TI TO i1 i2 l1 l2 : Addr} {xs ys : Array Value} {n : Nat}
theorem list_zip {Q : Value -> Shared -> Prop} (hh : A.handled = none) (D : ZipApart z TI TO i1 i2 l1 l2) (hT1 : TI ≠ z /\ TI ≠ TO /\ TI ≠ i1 /\ TI ≠ i2) (hx : xs.size = n) (hy : ys.size = n) (hn : n <= 1000)
  (hz : IsZip s.heap z TI TO .none) {a b : Value} (hTO : IsPair s.heap TO a b) (hTI : IsPair s.heap TI (.ref i1) (.ref i2)) (h1 : s.heap.IsListIter i1 l1 0) (h2 : s.heap.IsListIter i2 l2 0) (hl1 : s.heap.IsList l1 xs) (hl2 : s.heap.IsList l2 ys)
  (hQ : ∀ h' acc' c',(∀ b o,b ≠ z -> b ≠ TO -> b ≠ i1 -> b ≠ i2 -> s.heap.get? b = some o -> h'.get? b = some o) -> h'.get? s.heap.objs.size = some { cls:=.type "list",dict:=none,data:=.seq acc' c',slots:=#[] } ->
   ZL h' xs ys (s.heap.objs.size + 1) acc' n -> Q (.ref s.heap.objs.size) { s with heap:=h' }) :
  wpAny (model prog w) A (call (.type "list") [.ref z]) Q E s:=by
 refine callType_codes (Q₁:=fun obj s₁=>obj = .ref s.heap.objs.size /\ s₁ = { s with heap:=s.heap.push { cls:=.type "list",data:=.seq #[] } }) F.called_list (F.typeCall_list_1 _) F.entry_list_init
  (code_list_new _ ⟨rfl,rfl⟩) fun obj s₁ h₁=>?_
 obtain ⟨rfl,rfl⟩:=h₁
 have hS : (s.heap.push { cls:=.type "list",data:=.seq #[] }).get? s.heap.objs.size = some { cls:=.type "list",data:=.seq #[] }:=Heap.get?_push_size _ rfl
 have up0 : ∀ b o,s.heap.get? b = some o -> (s.heap.push { cls:=.type "list",data:=.seq #[] }).get? b = some o:=fun b o e=>Heap.get?_push_of_some _ e
 have sz0 : (s.heap.push { cls:=.type "list",data:=.seq #[] }).objs.size = s.heap.objs.size + 1:=Heap.size_push ..
 have lz:=Heap.lt_size hz
 have lTO:=Heap.lt_size hTO
 have lTI:=Heap.lt_size hTI
 have li1 : i1 < s.heap.objs.size:=by obtain ⟨_,e,_⟩:=h1;exact Heap.lt_size e
 have li2 : i2 < s.heap.objs.size:=by obtain ⟨_,e,_⟩:=h2;exact Heap.lt_size e
 have ll1 : l1 < s.heap.objs.size:=by obtain ⟨_,e,_⟩:=hl1;exact Heap.lt_size e
 have ll2 : l2 < s.heap.objs.size:=by obtain ⟨_,e,_⟩:=hl2;exact Heap.lt_size e
 have st0 : ZSt s.heap z TI TO i1 i2 l1 l2 xs ys 0:=⟨.inl ⟨hz,a,b,hTO⟩,hTI,h1,h2,hl1,hl2⟩
 have key : ∀ (h' : Heap) (S : Addr),S = s.heap.objs.size -> h'.objs.size = S + 1 -> (∀ b o,b ≠ S -> s.heap.get? b = some o -> h'.get? b = some o) -> ∀ c,h'.get? S = some { cls:=.type "list",dict:=none,data:=.seq #[] c,slots:=#[] } ->
   codeAny (model prog w) A.in1 (.builtin "list.extend.loop" ⟨[.ref S,.ref z,.none],[]⟩) (wants (fun r s₂=>r = .none /\ Q (.ref S) s₂) E) { s with heap:=h' }:=by
  intro h' S hSe hsz hk c hSg
  subst hSe
  have hz' : IsZip h' z TI TO .none:=hk _ _ (Nat.ne_of_lt lz) hz
  refine zip_loop (A:=A.in1) (base:=s.heap.objs.size + 1) hh D hT1 hx hy hn (Nat.ne_of_lt lz) (Nat.ne_of_lt lTI) (Nat.ne_of_lt lTO) (Nat.ne_of_lt li1) (Nat.ne_of_lt li2) (Nat.ne_of_lt ll1) (Nat.ne_of_lt ll2)
   (Nat.lt_succ_of_lt lz) (Nat.lt_succ_of_lt lTO) (Nat.lt_succ_of_lt li1) (Nat.lt_succ_of_lt li2) (Nat.lt_succ_self _) n 0 _ #[] c rfl (Nat.zero_le _)
   (st0.keeps hk (Nat.ne_of_lt lz) (Nat.ne_of_lt lTI) (Nat.ne_of_lt lTO) (Nat.ne_of_lt li1) (Nat.ne_of_lt li2) (Nat.ne_of_lt ll1) (Nat.ne_of_lt ll2) fun T b q=>?_) (fun T b q=>?_) (Nat.le_of_eq hsz.symm) hSg ⟨rfl,fun j x y hj=>absurd hj (Nat.not_lt_zero _)⟩ fun h'' acc' c' hk'' hS'' hL=>?_
  ·have e:=hz.symm.trans q
   simp [rawInt] at e
  ·have e:=hz'.symm.trans q
   simp [rawInt] at e
  ·exact ⟨rfl,hQ h'' acc' c' (fun b o c1 c2 c3 c4 e=>hk'' b o (Nat.ne_of_lt (Heap.lt_size e)) c1 c2 c3 c4 (hk b o (Nat.ne_of_lt (Heap.lt_size e)) e)) hS'' hL⟩
 refine ⟨⟨_,hS,rfl⟩,F.args_list_init_2 _ _,?_⟩
 generalize hSd : s.heap.objs.size = S at *
 show wpAny _ A.in1.in1 (do let old <- Builtin.List.listItems (.ref S);Builtin.List.listUpdate (.ref S) (fun _=>#[]);letGo old.toList.reverse;Builtin.List.listExtendWith (.ref S) (.ref z) .none) _ _ _
 refine wpAny_bind ?_
 unfold Builtin.List.listItems
 refine wpAny_bind (wpAny_seqItems hS rfl (wpAny_pure ?_))
 show wpAny _ A.in1.in1 (updateSeq S (fun _=>#[]) >>= fun _=>letGo (#[] : Array Value).toList.reverse >>= fun _=>Builtin.List.listExtendWith (.ref S) (.ref z) .none) _ _ _
 refine wpAny_bind (wpAny_updateSeq hS rfl ?_)
 have hS₂:=Heap.get?_update_self (Obj.mapSeq (fun _=>(#[] : Array Value))) hS rfl
 refine wpAny_bind (wpAny_letGo ?_)
 have up1 : ∀ b o,b ≠ S -> s.heap.get? b = some o -> ((s.heap.push { cls:=.type "list",data:=.seq #[] }).update S (Obj.mapSeq (fun _=>(#[] : Array Value)))).get? b = some o :=
  fun b o hb e=>(Heap.get?_update_other _ _ (Ne.symm hb)).trans (up0 b o e)
 have hzz : IsZip ((s.heap.push { cls:=.type "list",data:=.seq #[] }).update S (Obj.mapSeq (fun _=>(#[] : Array Value)))) z TI TO .none:=up1 _ _ (Nat.ne_of_lt lz) hz
 unfold Builtin.List.listExtendWith
 refine wpAny_bind (wpAny_typeOf (T := "zip") ⟨_,hzz,rfl⟩ ?_)
 have g1 : Builtin.List.listSameRef (.ref S) (.ref z) = false:=by simp [Builtin.List.listSameRef];exact Nat.ne_of_gt lz
 have g2 : (Value.type "zip" == Value.type "list") = false:=by decide
 have g3 : (Value.type "zip" == Value.type "tuple") = false:=by decide
 simp only [g1,g2,g3,Bool.or_false,Bool.false_eq_true,if_false]
 refine wpAny_bind (wpAny_pyIter_zip hzz ?_)
 refine wpAny_bind (wpAny_holding ?_)
 unfold Builtin.List.listLengthHint
 refine wpAny_bind (wpAny_specialOf ⟨_,hzz,rfl⟩ zip_no_len ?_)
 show wpAny _ A.in1.in1 (specialOf (Value.ref z) (Str.ofString "__length_hint__") >>= _) _ _ _
 refine wpAny_bind (wpAny_specialOf ⟨_,hzz,rfl⟩ zip_no_hint ?_)
 refine wpAny_pure ?_
 show wpAny _ A.in1.in1 (rule "list.extend.makes-room" >>= fun _=>Builtin.List.listTouch (.ref S) >>= fun _ =>
  again (.builtin "list.extend.loop" ⟨[.ref S,.ref z,.none],[]⟩)) _ _ _
 refine wpAny_bind (wpAny_rule ?_)
 refine wpAny_bind ?_
 show wpAny _ A.in1.in1 (updateSeq S (·.push .none) >>= fun _=>updateSeq S (·.pop)) _ _ _
 refine wpAny_bind (wpAny_updateSeq hS₂ rfl ?_)
 have hS₃:=Heap.get?_update_self (Obj.mapSeq (·.push Value.none)) hS₂ rfl
 refine wpAny_updateSeq (hz:=by seq_fits) hS₃ rfl ?_
 have hS₄:=Heap.get?_update_self (Obj.mapSeq (·.pop)) hS₃ rfl
 refine wpAny_pure ⟨plainId_quiet F.plain_extend_loop _,key _ S rfl ?_ ?_ _ hS₄⟩
 ·rw [(Heap.SameBut.update _ S _).1,(Heap.SameBut.update _ S _).1,(Heap.SameBut.update _ S _).1];exact sz0
 ·intro b o hb e
  exact (Heap.get?_update_other _ _ (Ne.symm hb)).trans ((Heap.get?_update_other _ _ (Ne.symm hb)).trans (up1 b o hb e))
end
end
end Mine.Internal
end
section
section
open PySem PyProof.Rows PySem.Calls PySem.Spec PySem.W
namespace Mine.Internal
section
section
variable {prog : Program} {w : World} {A : Around} {E : Value -> Shared -> Prop} {s : Shared} {x y z : Str} {t u : Tok} {Q : Value -> Shared -> Prop}
theorem len_lit (hfit : (x.length : Int) < 2 ^ 63) (h : ∀ t k,Q (.int x.length t) { s with toks:=k }) :
  wpAny (model prog w) A (call (.builtin "len") [.str x t]) Q E s:=PyProof.Rows.len_str (by exact o318 hfit) (h _ _)
theorem item_lit {value slice : PySem.Expr} {i : Int} {c : Nat} {l r : List Nat} (h0 : (decide (0 <= i) && decide (i < 2 ^ 62)) = true) (hd : l.drop i.toNat = c :: r)
  (hs : subscripted slice false (.str ⟨l.toArray⟩ t) (.int i u) = operate [.str ⟨l.toArray⟩ t,.int i u] (getItem (.str ⟨l.toArray⟩ t) (.int i u))) (h : ∀ t k,Q (.str ⟨#[c]⟩ t) { s with toks:=k }) :
  wpAny (model prog w) A (subscriptTail value slice (.str ⟨l.toArray⟩ t) (.int i u)) Q E s:=by
 simp only [Bool.and_eq_true,decide_eq_true_eq] at h0
 have hlen : i.toNat < l.length:=by
  rcases Nat.lt_or_ge i.toNat l.length with h | h
  ·exact h
  ·rw [List.drop_eq_nil_of_le h] at hd;cases hd
 have hc : l[i.toNat]? = some c:=by
  have:=congrArg (·[0]?) hd
  simpa using this
 refine PyProof.Rows.tail_any (typeIs_str s _ t) slot_str_getitem.lookup (PyProof.Rows.getItem_str (by simp;omega) ?_ (h _ _)) hs
 have hl : (⟨l.toArray⟩ : Str).length = l.length:=rfl
 have : seqIndex? i (⟨l.toArray⟩ : Str).length = some i.toNat:=by
  unfold seqIndex?
  rw [hl]
  simp only [show ¬ i < 0 by exact o319 h0,if_false]
  simp;exact o320 h0 hlen
 rw [this]
 simpa using hc
theorem eq_lit (b : Bool) (hb : (x == y) = b) (h : Q (.bool b) s) : wpAny (model prog w) A (compareOp .Eq (.str x t) (.str y u)) Q E s:=PyProof.Rows.eq_str (hb ▸ h)
theorem ne_lit (b : Bool) (hb : (x == y) = b) (h : Q (.bool (!b)) s) : wpAny (model prog w) A (compareOp .NotEq (.str x t) (.str y u)) Q E s:=PyProof.Rows.ne_str (by rw [show (x != y) = !(x == y) from rfl,hb];exact h)
theorem add_lit (hz : x ++ y = z) (hl : z.length <= 16000000) (h : ∀ t k,Q (.str z t) { s with toks:=k }) : wpAny (model prog w) A (binaryOp .Add (.str x t) (.str y u)) Q E s :=
 PyProof.Rows.add_str (fun t k=>hz ▸ h t k) (by rw [<- Str.length_append,hz,sizeLine_eq];exact o321 hl)
end
section
open PyProof.Rows.LCg (NsObj)
variable {M : Model} {A : Around} {E : Value -> Shared -> Prop} {s : Shared} {h₀ : Heap} {L C : Addr} {env : Env} {scope : Scope} {cl : List (Str × Addr)} {news : List (Addr × Obj)}
theorem name_cc {x : Str} {pos : Pos} {v : Value} {oC : Obj} {m₂ : Str -> Option Value} {Q : Value -> Shared -> Prop} (N : News h₀ L s.heap news) (hm : (C,oC) ∈ news) (hC : NsObj oC m₂) (hv : m₂ x = some v)
  (hk : (compEnvC scope cl C env).scope.kind = .function) (hx : (compEnvC scope cl C env).kindOf x = some .local) (hb : (x == ("__debug__" : Str)) = false) (h : Q v s) : wpAny M A (eval (.Name x pos) (compEnvC scope cl C env)) Q E s :=
 wpAny_Name (wpAny_loadName_local hk hx (hC.ns (N.get hm)) hv h) hb
end
theorem one_ne {a b : Nat} (h : a ≠ b) : ((⟨#[a]⟩ : Str) == ⟨#[b]⟩) = false:=by
 rw [Bool.eq_false_iff];exact fun e=>h (str1_beq.mp e)
theorem one_eq {a b : Nat} (h : a = b) : ((⟨#[a]⟩ : Str) == ⟨#[b]⟩) = true:=str1_beq.mpr h
theorem lit_st : Str.ofString "*" = ⟨#[42]⟩:=by decide +kernel
theorem lit_qm : Str.ofString "?" = ⟨#[63]⟩:=by decide +kernel
theorem lit_ex : Str.ofString "!" = ⟨#[33]⟩:=by decide +kernel
theorem lit_eq : Str.ofString "=" = ⟨#[61]⟩:=by decide +kernel
theorem lit_ca : Str.ofString "^" = ⟨#[94]⟩:=by decide +kernel
theorem lit_bs : Str.ofString "\\" = ⟨#[92]⟩:=by decide +kernel
theorem lit_bb : Str.ofString "\\\\" = ⟨#[92,92]⟩:=by decide +kernel
theorem lit_bm : Str.ofString "\\-" = ⟨#[92,45]⟩:=by decide +kernel
theorem lit_emp : Str.ofString "" = ⟨#[]⟩:=by decide +kernel
theorem app_l (x y : List Nat) : ((⟨x.toArray⟩ : Str) ++ (⟨y.toArray⟩ : Str)) = ⟨(x ++ y).toArray⟩:=by rw [str_app,List.append_toArray]
theorem storeX_Lm {M : Model} {A : Around} {E : Value -> Shared -> Prop} {s : Shared} {h₀ : Heap} {L a : Addr} {m : Str -> Option Value} {cn : Str} {cs : Scope} {ccd : Value} {cl : List (Str × Addr)} {x : Str} {v : Value} {Q : Unit -> Shared -> Prop} {news : List (Addr × Obj)} (F : Fr h₀ L s.heap m) (N : News h₀ L s.heap news)
  (h : let m' : Str -> Option Value:=fun y=>if y = x then some v else m y;∀ h',Fr h₀ L h' m' -> News h₀ L h' news -> Q () { s with heap:=h',toks:=s.toks + 1 })
  (hk : cs.kind = .function:=by rfl) (hx : (envX cn cs L a ccd cl).kindOf x = some .local:=by rfl) : wpAny M A (storeName (envX cn cs L a ccd cl) x v) Q E s:=storeX_L F N h hk hx
end
end Mine.Internal
end
open PySem PySem.W PyProof.Rows PySem.Calls PySem.Spec
local macro_rules | `(tactic| cell_enter) => `(tactic| (refine' code_defC ?k1 ?k2 ?k3 ?k4 ?k5 ?kA ?kF ?kK ?k6 ?k7 ?k8 ?k9 ?kB ?kD ?_ ?c2 ?c3 ?c4; (case kA => exact rfl); (case kF => exact rfl); (case kK => assumption); (case k1 => k_asm); (case k2 => k_asm); (case k3 => k_asm); (case k4 => k_asm); (case k5 => k_asm); (case k6 => k_is); (case k7 => k_is); (case k8 => ktr_room); (case k9 => exact BindsTo.of_eq rfl); (case kB => exact rfl); (case kD => decide +kernel); (case c2 => exact rfl); (case c3 => exact rfl); (case c4 => exact rfl); k_whole; intro g' L' h' tk' cells' FG' F' N' Y' B' X' T' l1; (try k_lt l1); k_cells Y'; (try simp only [List.cons_append, List.nil_append] at N'); (try dsimp only); (try k_lift B'); (try k_fold)))
local macro_rules | `(tactic| row_walkt) => `(tactic| ((fail_if_success with_reducible first | show wpAny _ _ (exec (PySem.Stmt.For _ _ _ _ _) _) _ _ _ | show wpAny _ _ (exec (PySem.Stmt.While _ _ _ _) _) _ _ _ | show wpAny _ _ (exec (PySem.Stmt.Return (some (PySem.Expr.ListComp _ _ _ _)) _) _) _ _ _ | show wpAny _ _ (exec (PySem.Stmt.Assign _ (PySem.Expr.ListComp _ _ _ _) _) _) _ _ _ | show wpAny _ _ (exec (PySem.Stmt.Assign _ (PySem.Expr.SetComp _ _ _ _) _) _) _ _ _ | show wpAny _ _ (eval (PySem.Expr.ListComp _ _ _ _) _) _ _ _); first | ((with_reducible show wpAny _ _ (execs (_ :: _) _) _ _ _); k_fold) | (k_unfold; (try dsimp only)) | walk1 | (dsimp only; walk1) | (leave1; walk_say "STEP leave1"; try dsimp only) | fail "no step"))
local macro_rules | `(tactic| walk_at "eval Name") => `(tactic| (k_here; (with_reducible show wpAny _ _ (eval (PySem.Expr.Name _ _) (compEnvC _ _ _ _)) _ _ _); k_dflt (refine' Mine.Internal.name_cc ?h1 ?h2 ?h3 ?h4 ?h5 ?h6 ?h7 ?_; (case h6 => exact rfl); (case h5 => exact rfl); (case h1 => k_asm); (case h2 => k_mem); (case h3 => assumption); (case h4 => exact rfl); (case h7 => decide))))
local macro_rules | `(tactic| walk_at "storeName") => `(tactic| (k_here; k_dflt (refine' Mine.Internal.storeX_Lm ?F ?N ?_ ?a ?b; (case F => k_asm); (case N => k_asm); (case a => rfl); (case b => rfl); k_whole; intro m' h' F' N'; (try k_sweep))))
section
open PySem PyProof.Rows PySem.Calls PySem.Spec PySem.W
namespace Mine.Internal
section
open PyProof.Rows.LCg (NsObj lst Off3 SrcAt)
noncomputable abbrev NoE : Value -> Shared -> Prop:=fun _ _=>False
theorem noE {α : Type} {M : Model} {A : Around} {t : Sem α} {Q : α -> Shared -> Prop} {E : Value -> Shared -> Prop} {s : Shared} (h : wpAny M A t Q NoE s) : wpAny M A t Q E s:=wpAny_mono h (fun _ _ q=>q) fun _ _ e=>e.elim
noncomputable abbrev tests (ifs : List PySem.Expr) (env : Env) : Sem Bool:=forIn ifs true fun c r=>if r = true then do let ok <- isTrue c env (eval c env);pure (ForInStep.yield ok) else pure (ForInStep.yield r)
theorem turn_list {elt target iter : PySem.Expr} {ifs : List PySem.Expr} {gens : List Comprehension} {scope : Scope} {pos : Pos} {depth : Nat} {it acc : Value} {env : Env} (hg : gens[depth]? = some ⟨target,iter,ifs,0⟩) (hn : gens[depth + 1]? = none) :
  compTurn (.ListComp elt gens scope pos) depth it acc env = (do
   standAt iter.pos
   match <- pyNext it with
   | none=>pure (.done .next)
   | some v =>
    letOwnedTupleGo target it v
    assign target env v
    let ok <- tests ifs env
    if ok then
     (do let _ <- call (.builtin "list.append") [acc,<- eval elt env])
    again (.compLoop (.ListComp elt gens scope pos) depth it acc env)):=by
 unfold compTurn
 simp only [hg,hn]
 rfl
theorem turn_set {elt target iter : PySem.Expr} {ifs : List PySem.Expr} {gens : List Comprehension} {scope : Scope} {pos : Pos} {depth : Nat} {it acc : Value} {env : Env} (hg : gens[depth]? = some ⟨target,iter,ifs,0⟩) (hn : gens[depth + 1]? = none) :
  compTurn (.SetComp elt gens scope pos) depth it acc env = (do
   standAt iter.pos
   match <- pyNext it with
   | none=>pure (.done .next)
   | some v =>
    letOwnedTupleGo target it v
    assign target env v
    let ok <- tests ifs env
    if ok then
     (do let v <- eval elt env;standAt elt.pos;let _ <- call (.builtin "set.add") [acc,v])
    again (.compLoop (.SetComp elt gens scope pos) depth it acc env)):=by
 unfold compTurn
 simp only [hg,hn]
 rfl
theorem turn_inner {elt target iter target' iter' : PySem.Expr} {ifs ifs' : List PySem.Expr} {gens : List Comprehension} {scope : Scope} {pos : Pos} {depth : Nat} {it acc : Value} {env : Env} (hg : gens[depth]? = some ⟨target,iter,ifs,0⟩) (hn : gens[depth + 1]? = some ⟨target',iter',ifs',0⟩) :
  compTurn (.ListComp elt gens scope pos) depth it acc env = (do
   standAt iter.pos
   match <- pyNext it with
   | none=>pure (.done .next)
   | some v =>
    letOwnedTupleGo target it v
    assign target env v
    let ok <- tests ifs env
    if ok then
      let x <- eval iter' env
      standAt iter'.pos
      let x <- foldedSetIterable iter' env x
      let _ <- runOwn (.compStart (.ListComp elt gens scope pos) (depth + 1) (<- holding [x] (pyIter x)) acc env) env
      again (.compLoop (.ListComp elt gens scope pos) depth it acc env)
    else again (.compLoop (.ListComp elt gens scope pos) depth it acc env)):=by
 unfold compTurn
 simp only [hg,hn]
 rfl
theorem turn_innerS {elt target iter target' iter' : PySem.Expr} {ifs ifs' : List PySem.Expr} {gens : List Comprehension} {scope : Scope} {pos : Pos} {depth : Nat} {it acc : Value} {env : Env} (hg : gens[depth]? = some ⟨target,iter,ifs,0⟩) (hn : gens[depth + 1]? = some ⟨target',iter',ifs',0⟩) :
  compTurn (.SetComp elt gens scope pos) depth it acc env = (do
   standAt iter.pos
   match <- pyNext it with
   | none=>pure (.done .next)
   | some v =>
    letOwnedTupleGo target it v
    assign target env v
    let ok <- tests ifs env
    if ok then
      let x <- eval iter' env
      standAt iter'.pos
      let x <- foldedSetIterable iter' env x
      let _ <- runOwn (.compStart (.SetComp elt gens scope pos) (depth + 1) (<- holding [x] (pyIter x)) acc env) env
      again (.compLoop (.SetComp elt gens scope pos) depth it acc env)
    else again (.compLoop (.SetComp elt gens scope pos) depth it acc env)):=by
 unfold compTurn
 simp only [hg,hn]
 rfl
section
variable {prog : Program} {w : World} {A : Around} {R : Result -> Shared -> Prop} {s : Shared}
noncomputable abbrev After (prog : Program) (w : World) (A : Around) (target : PySem.Expr) (ifs : List PySem.Expr) (env : Env) (tail : Sem Fin) (c : Code) (again : Shared -> Prop) (it v : Value) (s : Shared) : Prop :=
 wpAny (model prog w) A (letOwnedTupleGo target it v) (fun _ s₁=>wpAny (model prog w) A (assign target env v) (fun _ s₂=>wpAny (model prog w) A (tests ifs env) (fun ok s₃ =>
  if ok = true then wpAny (model prog w) A tail (fun f s₄=>f = .again c /\ again s₄) NoE s₃ else again s₃) NoE s₂) NoE s₁) NoE s
theorem loop_of {e : PySem.Expr} {target iter : PySem.Expr} {ifs : List PySem.Expr} {depth : Nat} {it acc : Value} {env : Env} {tail : Sem Fin} (hframe : (Code.compLoop e depth it acc env).isFrame = false) (hq : (Code.compLoop e depth it acc env).quiet = true) (hw : (Code.compLoop e depth it acc env).weight = 0) (hu : (Code.compLoop e depth it acc env).cUnits = 0)
  (ht : compTurn e depth it acc env = (do
   standAt iter.pos
   match <- pyNext it with
   | none=>pure (.done .next)
   | some v =>
    letOwnedTupleGo target it v
    assign target env v
    let ok <- tests ifs env
    if ok then tail else again (.compLoop e depth it acc env)))
  (I : Nat -> Shared -> Prop)
  (turn : ∀ n s,I n s -> wpAny (model prog w) A (pyNext it) (fun r s₁=>match r with
   | none=>R (.ok .next) s₁
   | some v=>After prog w A target ifs env tail (.compLoop e depth it acc env) (fun s'=>∃ m,m < n /\ I m s') it v s₁) NoE s)
  (n : Nat) (h : I n s) : codeAny (model prog w) A (.compLoop e depth it acc env) R s:=by
 refine codeAny_loop hq I (fun n s hI=>?_) n h
 rw [Around.under_of_weight hw hu]
 show wpAny _ A (if (Code.compLoop e depth it acc env).isFrame then (compTurn e depth it acc env).onRaise (leaving env) else (compTurn e depth it acc env).onRaise (fun x=>do noteFrame x env;theTreesLotGoes x)) _ _ s
 rw [hframe]
 refine wpAny_noted (noE ?_)
 rw [ht]
 refine wpAny_bind (wpAny_standAt (wpAny_bind (wpAny_mono (turn n s hI) (fun r s₁ h₁=>?_) fun _ _ e=>e)))
 cases r with
 | none=>exact wpAny_pure h₁
 | some v =>
  refine wpAny_bind (wpAny_mono h₁ (fun _ s₂ h₂=>?_) fun _ _ e=>e)
  refine wpAny_bind (wpAny_mono h₂ (fun _ s₃ h₃=>?_) fun _ _ e=>e)
  refine wpAny_bind (wpAny_mono h₃ (fun ok s₄ h₄=>?_) fun _ _ e=>e)
  cases ok with
  | false=>exact wpAny_pure ⟨rfl,h₄⟩
  | true =>
   refine wpAny_mono h₄ (fun f s₅ h₅=>?_) fun _ _ e=>e
   obtain ⟨rfl,h₅⟩:=h₅
   exact ⟨rfl,h₅⟩
theorem tail_list {elt : PySem.Expr} {acc : Value} {env : Env} {c : Code} {X : Shared -> Prop} (h : wpAny (model prog w) A (eval elt env) (fun y s₁=>wpAny (model prog w) A (call (.builtin "list.append") [acc,y]) (fun _ s₂=>X s₂) NoE s₁) NoE s) :
  wpAny (model prog w) A (do (do let _ <- call (.builtin "list.append") [acc,<- eval elt env]);again c) (fun f s₄=>f = .again c /\ X s₄) NoE s :=
 wpAny_bind (wpAny_bind (wpAny_mono h (fun _ _ h₁=>wpAny_bind (wpAny_mono h₁ (fun _ _ h₂=>wpAny_pure (wpAny_pure ⟨rfl,h₂⟩)) fun _ _ e=>e)) fun _ _ e=>e))
theorem tail_set {elt : PySem.Expr} {acc : Value} {env : Env} {c : Code} {X : Shared -> Prop} (h : wpAny (model prog w) A (eval elt env) (fun y s₁=>wpAny (model prog w) A (call (.builtin "set.add") [acc,y]) (fun _ s₂=>X s₂) NoE s₁) NoE s) :
  wpAny (model prog w) A (do (do let v <- eval elt env;standAt elt.pos;let _ <- call (.builtin "set.add") [acc,v]);again c) (fun f s₄=>f = .again c /\ X s₄) NoE s :=
 wpAny_bind (wpAny_bind (wpAny_mono h (fun _ _ h₁=>wpAny_bind (wpAny_standAt (wpAny_bind (wpAny_mono h₁ (fun _ _ h₂=>wpAny_pure (wpAny_pure ⟨rfl,h₂⟩)) fun _ _ e=>e)))) fun _ _ e=>e))
theorem tail_inner {e iter' : PySem.Expr} {d : Nat} {acc : Value} {env : Env} {c : Code} {X : Shared -> Prop} (hA : A.mark none = A:=by rfl)
  (h : wpAny (model prog w) A (eval iter' env) (fun x s₁=>wpAny (model prog w) A (foldedSetIterable iter' env x) (fun x' s₂=>wpAny (model prog w) A (pyIter x') (fun it s₃ =>
   codeAny (model prog w) A (.compStart e d it acc env) (fun r s₄=>match r with | .ok _=>X s₄ | .error _=>False) s₃) NoE s₂) NoE s₁) NoE s) :
  wpAny (model prog w) A (do
      let x <- eval iter' env
      standAt iter'.pos
      let x <- foldedSetIterable iter' env x
      let _ <- runOwn (.compStart e d (<- holding [x] (pyIter x)) acc env) env
      again c) (fun f s₄=>f = .again c /\ X s₄) NoE s:=by
 refine wpAny_bind (wpAny_mono h (fun x s₁ h₁=>?_) fun _ _ e=>e)
 refine wpAny_bind (wpAny_standAt (wpAny_bind (wpAny_mono h₁ (fun x' s₂ h₂=>?_) fun _ _ e=>e)))
 refine wpAny_bind (wpAny_holding (wpAny_mono h₂ (fun it s₃ h₃=>?_) fun _ _ e=>e))
 refine wpAny_bind (wpAny_runOwn (codeAny_mono (hA.symm ▸ h₃) fun r s₄ h₄=>?_))
 cases r with
 | ok f=>exact wpAny_pure ⟨rfl,h₄⟩
 | error e=>exact h₄.elim
theorem start_of {e iter target : PySem.Expr} {ifs : List PySem.Expr} {gens : List Comprehension} {d : Nat} {it acc : Value} {env : Env} (hcl : clausesOf e = gens) (hg : gens[d]? = some ⟨target,iter,ifs,0⟩)
  (hframe : (Code.compStart e d it acc env).isFrame = false) (hq : (Code.compStart e d it acc env).quiet = true) (hq2 : (Code.compLoop e d it acc env).quiet = true) (hw : (Code.compStart e d it acc env).weight = 0) (hu : (Code.compStart e d it acc env).cUnits = 0)
  (h0 : codeAny (model prog w) A (.compLoop e d it acc env) R s)
  (h : wpAny (model prog w) A (pyIter it) (fun it' s'=>it' = it /\ codeAny (model prog w) A (.compLoop e d it acc env) R s') NoE s) :
  codeAny (model prog w) A (.compStart e d it acc env) R s:=by
 refine codeAny_of_tree ?_
 rw [Around.under_of_weight hw hu]
 show wpAny _ _ (if (Code.compStart e d it acc env).isFrame then (compStart e d it acc env).onRaise (leaving env) else (compStart e d it acc env).onRaise (fun x=>do noteFrame x env;standAt theWindowsPlace)) _ _ s
 rw [hframe]
 refine wpAny_notedAt (noE ?_)
 unfold compStart
 rw [hcl,hg]
 show wpAny _ _ (ask >>= _) _ _ s
 refine wpAny_bind (wpAny_askSetting (wpAny_ite ?_))
 split
 ·exact wpAny_bind (wpAny_pure (wpAny_pure ⟨hq2,h0⟩))
 ·refine wpAny_bind (wpAny_rule ?_)
  refine wpAny_bind (wpAny_standAt (wpAny_bind (wpAny_mono h (fun it' s' h'=>?_) fun _ _ x=>x)))
  obtain ⟨rfl,h'⟩:=h'
  exact wpAny_pure ⟨hq2,h'⟩
end
end
section
open PyProof.Rows.LCg (NsObj lst Off3 SrcAt fr_but news_but)
structure In2 (h₀ : Heap) (L : Addr) (m : Str -> Option Value) (C : Addr) (m₂ : Str -> Option Value) (D : Addr) (oD : Obj) (led : Led) (h : Heap) : Prop where
 F : Fr h₀ L h m
 N : ∃ oC,NsObj oC m₂ /\ News h₀ L h ((C,oC) :: (D,oD) :: led)
 ne : C ≠ D
 off : ∀ p ∈ led,p.1 ≠ C /\ p.1 ≠ D
noncomputable def CEndP (GP : Array GenState -> Prop) (s : Shared) (h₀ : Heap) (L : Addr) (m : Str -> Option Value) (C D I : Addr) (oI : Obj) (S : Led -> Prop) (Jn : (Str -> Option Value) -> Obj -> Led -> Prop) (s' : Shared) : Prop :=
 ∃ h' tk' gn' m₂' oD' led',s' = { s with heap:=h',toks:=tk',gens:=gn' } /\ GP gn' /\ In2 h₀ L m C m₂' D oD' ((I,oI) :: led') h' /\ (∀ p ∈ led',p.1 ≠ I) /\ S led' /\ Jn m₂' oD' led'
noncomputable def CEnd (s : Shared) (h₀ : Heap) (L : Addr) (m : Str -> Option Value) (C D I : Addr) (oI : Obj) (S : Led -> Prop) (Jn : Obj -> Led -> Prop) (s' : Shared) : Prop :=
 ∃ h' tk' m₂' oD' led',s' = { s with heap:=h',toks:=tk' } /\ In2 h₀ L m C m₂' D oD' ((I,oI) :: led') h' /\ (∀ p ∈ led',p.1 ≠ I) /\ S led' /\ Jn oD' led'
section
variable {prog : Program} {w : World} {A : Around} {R : Result -> Shared -> Prop} {s : Shared} {h₀ : Heap} {L C D I : Addr} {m m₂₀ : Str -> Option Value} {oD₀ : Obj} {led₀ : Led}
theorem After.mono {target : PySem.Expr} {ifs : List PySem.Expr} {env : Env} {tail : Sem Fin} {c : Code} {X Y : Shared -> Prop} {it v : Value} (h : After prog w A target ifs env tail c X it v s) (hXY : ∀ s,X s -> Y s) : After prog w A target ifs env tail c Y it v s :=
 wpAny_mono h (fun _ _ h₁=>wpAny_mono h₁ (fun _ _ h₂=>wpAny_mono h₂ (fun ok _ h₃=>by
  cases ok with
  | true=>exact wpAny_mono h₃ (fun _ _ h₄=>⟨h₄.1,hXY _ h₄.2⟩) fun _ _ e=>e
  | false=>exact hXY _ h₃) fun _ _ e=>e) fun _ _ e=>e) fun _ _ e=>e
theorem loop_walkP {GP : Array GenState -> Prop} {e target iter : PySem.Expr} {ifs : List PySem.Expr} {depth : Nat} {acc : Value} {env : Env} {tail : Sem Fin} {fp : List Addr} {n : Nat} {P : Nat -> Value -> Prop} {St : Nat -> Heap -> Prop} {S : Led -> Prop}
  (hframe : (Code.compLoop e depth (.ref I) acc env).isFrame = false) (hq : (Code.compLoop e depth (.ref I) acc env).quiet = true) (hw : (Code.compLoop e depth (.ref I) acc env).weight = 0) (hu : (Code.compLoop e depth (.ref I) acc env).cUnits = 0)
  (ht : compTurn e depth (.ref I) acc env = (do
   standAt iter.pos
   match <- pyNext (.ref I) with
   | none=>pure (.done .next)
   | some v =>
    letOwnedTupleGo target (.ref I) v
    assign target env v
    let ok <- tests ifs env
    if ok then tail else again (.compLoop e depth (.ref I) acc env)))
  (W : Walks prog w A I fp [I] n P St) (hIo : ∀ i h,St i h -> ∃ o,h.get? I = some o)
  (hSt : ∀ i h h' o nw,St i h -> h.get? I = some o -> h'.get? I = some o -> (∀ b o,h₀.get? b = some o -> h'.get? b = some o) -> News h₀ L h' nw -> S nw -> St i h')
  (J : Nat -> (Str -> Option Value) -> Obj -> Led -> Prop) (hIL : L ≠ I) (hI₀ : h₀.get? I = none) (hIC : C ≠ I) (hID : D ≠ I)
  (step : ∀ i v m₂ oD led h tk gn oI,GP gn -> i < n -> P i v -> J i m₂ oD led -> S led -> In2 h₀ L m C m₂ D oD ((I,oI) :: led) h -> (∀ p ∈ led,p.1 ≠ I) -> St (i + 1) h ->
   After prog w A target ifs env tail (.compLoop e depth (.ref I) acc env) (CEndP GP s h₀ L m C D I oI S (J (i + 1))) (.ref I) v { s with heap:=h,toks:=tk,gens:=gn })
  (done : ∀ m₂ oD led h tk gn,GP gn -> J n m₂ oD led -> S led -> In2 h₀ L m C m₂ D oD led h -> R (.ok .next) { s with heap:=h,toks:=tk,gens:=gn })
  (st0 : St 0 s.heap) (h0 : In2 h₀ L m C m₂₀ D oD₀ led₀ s.heap) (off0 : ∀ p ∈ led₀,p.1 ≠ I) (S0 : S led₀) (J0 : J 0 m₂₀ oD₀ led₀) (G0 : GP s.gens) :
  codeAny (model prog w) A (.compLoop e depth (.ref I) acc env) R s:=by
 have but : ∀ {h h' : Heap} {m₂ oD led},In2 h₀ L m C m₂ D oD led h -> (∀ p ∈ led,p.1 ≠ I) -> (∀ b o,b ∉ [I] -> h.get? b = some o -> h'.get? b = some o) -> In2 h₀ L m C m₂ D oD led h':=by
  intro h h' m₂ oD led x off hk
  refine bc fun g0=>?_;obtain ⟨oC,hC,N⟩:=x.N;refine g0 ?_;clear g0
  refine ⟨fr_but x.F hk hIL hI₀,⟨oC,hC,news_but N hk fun p hp=>?_⟩,x.ne,x.off⟩
  refine bc fun g0=>?_;rcases List.mem_cons.mp hp with rfl | hp <;> (refine g0 ?_;clear g0)
  ·exact hIC
  ·refine bc fun g0=>?_;rcases List.mem_cons.mp hp with rfl | hp <;> (refine g0 ?_;clear g0)
   ·exact hID
   ·exact off p hp
 refine loop_of hframe hq hw hu ht (fun k s'=>∃ i m₂ oD led h tk gn,s' = { s with heap:=h,toks:=tk,gens:=gn } /\ GP gn /\ i <= n /\ k = n + 1 - i /\ St i h /\ In2 h₀ L m C m₂ D oD led h /\ (∀ p ∈ led,p.1 ≠ I) /\ S led /\ J i m₂ oD led) ?_ (n + 1)
  ⟨0,m₂₀,oD₀,led₀,s.heap,s.toks,s.gens,rfl,G0,Nat.zero_le _,rfl,st0,h0,off0,S0,J0⟩
 rintro k s' hE1;refine bc fun g0=>?_;obtain ⟨i,m₂,oD,led,h,tk,gn,rfl,hG,hi,rfl,hst,hin,off,hS,hJ⟩:=hE1;refine g0 ?_;clear g0
 by_cases hlt : i < n
 ·refine W.item i _ _ _ hlt hst fun v h₂ tk₂ hPv hst₂ hk₂=>?_
  refine bc fun g0=>?_;obtain ⟨oI,heI⟩:=hIo _ _ hst₂;refine g0 ?_;clear g0
  have in2:=but hin off hk₂
  have in3 : In2 h₀ L m C m₂ D oD ((I,oI) :: led) h₂:=by
   refine bc fun g0=>?_;obtain ⟨oC,hC,N⟩:=in2.N;refine g0 ?_;clear g0
   refine ⟨in2.F,⟨oC,hC,fun p hp=>?_⟩,in2.ne,fun p hp=>?_⟩
   ·refine bc fun g0=>?_;rcases List.mem_cons.mp hp with rfl | hp <;> (refine g0 ?_;clear g0)
    ·exact N _ (.head _)
    ·refine bc fun g0=>?_;rcases List.mem_cons.mp hp with rfl | hp <;> (refine g0 ?_;clear g0)
     ·exact N _ (.tail _ (.head _))
     ·refine bc fun g0=>?_;rcases List.mem_cons.mp hp with rfl | hp <;> (refine g0 ?_;clear g0)
      ·exact ⟨heI,Ne.symm hIL,hI₀⟩
      ·exact N _ (.tail _ (.tail _ hp))
   ·refine bc fun g0=>?_;rcases List.mem_cons.mp hp with rfl | hp <;> (refine g0 ?_;clear g0)
    ·exact ⟨Ne.symm hIC,Ne.symm hID⟩
    ·exact in2.off p hp
  refine After.mono (step i v m₂ oD led h₂ tk₂ gn oI hG hlt hPv hJ hS in3 off hst₂) fun s' hs'=>?_
  refine bc fun g0=>?_;obtain ⟨h',tk',gn',m₂',oD',led',rfl,hG',in4,off',hS',hJ'⟩:=hs'
  obtain ⟨oC',hC',N'⟩:=in4.N;refine g0 ?_;clear g0
  refine ⟨n + 1 - (i + 1),by exact o106 hlt,i + 1,m₂',oD',led',h',tk',gn',rfl,hG',hlt,rfl,?_,⟨in4.F,⟨oC',hC',fun p hp=>N' p ?_⟩,in4.ne,fun p hp=>in4.off p (.tail _ hp)⟩,off',hS',hJ'⟩
  ·exact hSt _ _ _ oI led' hst₂ heI (N' (I,oI) (.tail _ (.tail _ (.head _)))).1 in4.F.keep (fun p hp=>N' p (.tail _ (.tail _ (.tail _ hp)))) hS'
  ·refine bc fun g0=>?_;rcases List.mem_cons.mp hp with rfl | hp <;> (refine g0 ?_;clear g0)
   ·exact .head _
   ·refine bc fun g0=>?_;rcases List.mem_cons.mp hp with rfl | hp <;> (refine g0 ?_;clear g0)
    ·exact .tail _ (.head _)
    ·exact .tail _ (.tail _ (.tail _ hp))
 ·obtain rfl : i = n:=Nat.le_antisymm hi (Nat.not_lt.mp hlt)
  exact W.done _ _ _ hst fun h₂ tk₂ hk₂=>done m₂ oD led h₂ tk₂ gn hG hJ hS (but hin off hk₂)
theorem loop_walk {e target iter : PySem.Expr} {ifs : List PySem.Expr} {depth : Nat} {acc : Value} {env : Env} {tail : Sem Fin} {fp : List Addr} {n : Nat} {P : Nat -> Value -> Prop} {St : Nat -> Heap -> Prop} {S : Led -> Prop}
  (hframe : (Code.compLoop e depth (.ref I) acc env).isFrame = false) (hq : (Code.compLoop e depth (.ref I) acc env).quiet = true) (hw : (Code.compLoop e depth (.ref I) acc env).weight = 0) (hu : (Code.compLoop e depth (.ref I) acc env).cUnits = 0)
  (ht : compTurn e depth (.ref I) acc env = (do
   standAt iter.pos
   match <- pyNext (.ref I) with
   | none=>pure (.done .next)
   | some v =>
    letOwnedTupleGo target (.ref I) v
    assign target env v
    let ok <- tests ifs env
    if ok then tail else again (.compLoop e depth (.ref I) acc env)))
  (W : Walks prog w A I fp [I] n P St) (hIo : ∀ i h,St i h -> ∃ o,h.get? I = some o)
  (hSt : ∀ i h h' o nw,St i h -> h.get? I = some o -> h'.get? I = some o -> (∀ b o,h₀.get? b = some o -> h'.get? b = some o) -> News h₀ L h' nw -> S nw -> St i h')
  (J : Nat -> Obj -> Led -> Prop) (hIL : L ≠ I) (hI₀ : h₀.get? I = none) (hIC : C ≠ I) (hID : D ≠ I)
  (step : ∀ i v m₂ oD led h tk oI,i < n -> P i v -> J i oD led -> S led -> In2 h₀ L m C m₂ D oD ((I,oI) :: led) h -> (∀ p ∈ led,p.1 ≠ I) -> St (i + 1) h ->
   After prog w A target ifs env tail (.compLoop e depth (.ref I) acc env) (CEnd s h₀ L m C D I oI S (J (i + 1))) (.ref I) v { s with heap:=h,toks:=tk })
  (done : ∀ m₂ oD led h tk,J n oD led -> S led -> In2 h₀ L m C m₂ D oD led h -> R (.ok .next) { s with heap:=h,toks:=tk })
  (st0 : St 0 s.heap) (h0 : In2 h₀ L m C m₂₀ D oD₀ led₀ s.heap) (off0 : ∀ p ∈ led₀,p.1 ≠ I) (S0 : S led₀) (J0 : J 0 oD₀ led₀) :
  codeAny (model prog w) A (.compLoop e depth (.ref I) acc env) R s :=
 loop_walkP (GP:=fun g=>g = s.gens) hframe hq hw hu ht W hIo hSt (fun i _=>J i) hIL hI₀ hIC hID
  (fun i v m₂ oD led h tk _ oI hg hi hP hJ hS hin off hst=>by
   subst hg
   exact After.mono (step i v m₂ oD led h tk oI hi hP hJ hS hin off hst) fun _ hs=>by
    obtain ⟨h',tk',m',o',l',e,r⟩:=hs
    exact ⟨h',tk',s.gens,m',o',l',e,rfl,r⟩)
  (fun m₂ oD led h tk _ hg hJ hS hin=>by subst hg;exact done m₂ oD led h tk hJ hS hin) st0 h0 off0 S0 J0 rfl
end
end
section
open PyProof.Rows.LCg (NsObj lst Off3 SrcAt fr_but news_but ns_obj)
section
variable {prog : Program} {w : World} {A : Around} {s : Shared} {h₀ : Heap} {L : Addr} {m : Str -> Option Value}
noncomputable abbrev CompIn (prog : Program) (w : World) (A : Around) (h₀ : Heap) (L : Addr) (m : Str -> Option Value) (e : PySem.Expr) (scope : Scope) (cl : List (Str × Addr)) (env : Env) (Fin : Addr -> Obj -> Led -> Shared -> Prop) (it acc : Value) (s₃ : Shared) : Prop :=
 ∃ D oD news,acc = .ref D /\ Fr h₀ L s₃.heap m /\ News h₀ L s₃.heap ((D,oD) :: news) /\ (∀ p ∈ news,p.1 ≠ D) /\
  ∀ C h tk,In2 h₀ L m C (fun _=>none) D oD news h -> D < C -> (∀ p ∈ news,p.1 < C) -> h₀.get? C = none -> codeAny (model prog w) A (.compStart e 0 it (.ref D) (compEnvC scope cl C env))
   (fun r s'=>match r with | .ok _=>∃ m₂ oD' news' h' tk',s' = { s₃ with heap:=h',toks:=tk' } /\ In2 h₀ L m C m₂ D oD' news' h' /\ Fin D oD' news' { s₃ with heap:=h',toks:=tk' } | .error _=>False) { s₃ with heap:=h,toks:=tk }
theorem In2.leave {C D : Addr} {m₂ : Str -> Option Value} {oD : Obj} {led : Led} {h h' : Heap} (x : In2 h₀ L m C m₂ D oD led h) (hs : Heap.SameBut C h h') : Fr h₀ L h' m /\ News h₀ L h' ((D,oD) :: led):=by
 refine bc fun g0=>?_;obtain ⟨oC,hC,N⟩:=x.N;refine g0 ?_;clear g0
 have zC:=N (C,oC) (.head _)
 refine ⟨x.F.change hs zC.2.1 zC.2.2,fun p hp=>?_⟩
 have z:=N p (.tail _ hp)
 refine ⟨hs.extBut _ _ ?_ z.1,z.2⟩
 refine bc fun g0=>?_;rcases List.mem_cons.mp hp with rfl | hp <;> (refine g0 ?_;clear g0)
 ·exact Ne.symm x.ne
 ·exact (x.off p hp).1
theorem In2.ns {C D : Addr} {m₂ : Str -> Option Value} {oD : Obj} {led : Led} {h : Heap} (x : In2 h₀ L m C m₂ D oD led h) : h.Ns C m₂:=by
 refine bc fun g0=>?_;obtain ⟨oC,hC,N⟩:=x.N;refine g0 ?_;clear g0
 exact hC.ns (N (C,oC) (.head _)).1
theorem comp_walk {e : PySem.Expr} {scope : Scope} {pos : Pos} {env : Env} {newAcc first : Sem Value} {g : Comprehension} {gs : List Comprehension} {cl : List (Str × Addr)} {use : Option (Value -> Sem Unit)} {Q : Value -> Shared -> Prop} {Fin : Shared -> Addr -> Obj -> Led -> Shared -> Prop}
  (hcl : clausesOf e = g :: gs) (hs : ∀ x,foldedSetIterable g.iter env x = pure x) (hclos : closureFor scope env = pure cl)
  (hkind : scope.kind = .function) (hnames : ∀ x ∈ scope.names,x.2 = .local -> scope.names.lookup x.1 = some .local) (hcell : ∀ y ∈ scope.names,y.2 ≠ .cell)
  (h : wpAny (model prog w) A first (fun x s₁=>wpAny (model prog w) A (pyIter x) (fun it s₂=>wpAny (model prog w) A newAcc (fun acc s₃=>CompIn prog w A h₀ L m e scope cl env (Fin s₃) it acc s₃) NoE s₂) NoE s₁) NoE s)
  (fin : ∀ s₃ C m₂ D oD news h' tk',In2 h₀ L m C m₂ D oD news h' -> Fin s₃ D oD news { s₃ with heap:=h',toks:=tk' } -> compPost (model prog w) A NoE use Q (.ref D) C (.ok .next) { s₃ with heap:=h',toks:=tk' }) :
  wpAny (model prog w) A (comprehension e scope env pos newAcc false first use) Q NoE s:=by
 refine wpAny_comprehension_free (use:=use) hcl hs hclos hkind hnames (wpAny_mono h (fun x s₁ h₁=>wpAny_mono h₁ (fun it s₂ h₂=>wpAny_mono h₂ (fun acc s₃ h₃=>?_) fun _ _ e=>e) fun _ _ e=>e) fun _ _ e=>e)
 refine bc fun g0=>?_;obtain ⟨D,oD,news,rfl,F,N,hD,hc⟩:=h₃;refine g0 ?_;clear g0
 refine wpAny_newFunctionEnv hcell (by intro y hy;simp at hy) (fun h₁ hns₁ hsb₁=>?_) hkind
 have below : ∀ b o,s₃.heap.get? b = some o -> b ≠ s₃.heap.objs.size:=fun b o e=>Nat.ne_of_lt (Heap.lt_size e)
 have old : ∀ b o,s₃.heap.get? b = some o -> h₁.get? b = some o:=fun b o e=>hsb₁.extBut b o (below b o e) (Heap.get?_push_of_some _ e)
 have hC₀ : h₀.get? s₃.heap.objs.size = none:=by
  cases e : h₀.get? s₃.heap.objs.size with
  | none=>rfl
  | some o'=>exact absurd (Heap.lt_size (F.keep _ _ e)) (Nat.lt_irrefl _)
 have hCL : s₃.heap.objs.size ≠ L:=Ne.symm (Nat.ne_of_lt F.ns.lt)
 refine bc fun g0=>?_;obtain ⟨oC,heC,hoC⟩:=ns_obj hns₁;refine g0 ?_;clear g0
 have hin : In2 h₀ L m s₃.heap.objs.size (fun _=>none) D oD news h₁:=by
  refine ⟨F.keeps old,⟨oC,hoC,fun p hp=>?_⟩,Ne.symm (below _ _ (N _ (.head _)).1),fun p hp=>⟨below _ _ (N p (.tail _ hp)).1,hD p hp⟩⟩
  refine bc fun g0=>?_;rcases List.mem_cons.mp hp with rfl | hp <;> (refine g0 ?_;clear g0)
  ·exact ⟨heC,hCL,hC₀⟩
  ·exact ⟨old _ _ (N p hp).1,(N p hp).2⟩
 refine codeAny_mono (hc _ h₁ _ hin (Heap.lt_size (N _ (.head _)).1) (fun p hp=>Heap.lt_size (N p (.tail _ hp)).1) hC₀) fun r s' hr=>?_
 cases r with
 | error e=>exact hr.elim
 | ok f =>
  refine bc fun g0=>?_;obtain ⟨m₂,oD',news',h',tk',rfl,hin',hf⟩:=hr;refine g0 ?_;clear g0
  have:=fin s₃ _ _ _ _ _ _ _ hin' hf
  revert this
  unfold compPost
  cases use <;> exact id
theorem comp_eval {e : PySem.Expr} {scope : Scope} {pos : Pos} {env : Env} {newAcc first : Sem Value} {g : Comprehension} {gs : List Comprehension} {cl : List (Str × Addr)} {Q : Value -> Shared -> Prop}
  (hcl : clausesOf e = g :: gs) (hs : ∀ x,foldedSetIterable g.iter env x = pure x) (hclos : closureFor scope env = pure cl)
  (hkind : scope.kind = .function) (hnames : ∀ x ∈ scope.names,x.2 = .local -> scope.names.lookup x.1 = some .local) (hcell : ∀ y ∈ scope.names,y.2 ≠ .cell)
  (h : wpAny (model prog w) A first (fun x s₁=>wpAny (model prog w) A (pyIter x) (fun it s₂=>wpAny (model prog w) A newAcc (fun acc s₃=>CompIn prog w A h₀ L m e scope cl env
   (fun D oD news s'=>∀ h'',Fr h₀ L h'' m -> News h₀ L h'' ((D,oD) :: news) -> Q (.ref D) { s' with heap:=h'' }) it acc s₃) NoE s₂) NoE s₁) NoE s) :
  wpAny (model prog w) A (comprehension e scope env pos newAcc false first none) Q NoE s :=
 comp_walk hcl hs hclos hkind hnames hcell (Fin:=fun _ D oD news s'=>∀ h'',Fr h₀ L h'' m -> News h₀ L h'' ((D,oD) :: news) -> Q (.ref D) { s' with heap:=h'' }) h
  fun s₃ C m₂ D oD news h' tk' hin hf=>⟨m₂,hin.ns,fun h'' hs''=>hf h'' (hin.leave hs'').1 (hin.leave hs'').2⟩
theorem comp_store {e : PySem.Expr} {y : Str} {py : Pos} {scope : Scope} {pos : Pos} {env : Env} {newAcc first : Sem Value} {g : Comprehension} {gs : List Comprehension} {cl : List (Str × Addr)} {Q : Value -> Shared -> Prop}
  (hcl : clausesOf e = g :: gs) (hs : ∀ x,foldedSetIterable g.iter env x = pure x) (hclos : closureFor scope env = pure cl)
  (hkind : scope.kind = .function) (hnames : ∀ x ∈ scope.names,x.2 = .local -> scope.names.lookup x.1 = some .local) (hcell : ∀ y ∈ scope.names,y.2 ≠ .cell)
  (hLe : env.locals = L) (hy : env.kindOf y = some .local) (hp : (env.scope.kind == .class || (env.scope.kind == .module && env.locals != env.globals)) = false)
  (h : wpAny (model prog w) A first (fun x s₁=>wpAny (model prog w) A (pyIter x) (fun it s₂=>wpAny (model prog w) A newAcc (fun acc s₃=>CompIn prog w A h₀ L m e scope cl env
   (fun D oD news s'=>∀ h'' tk,Fr h₀ L h'' (fun z=>if z = y then some (.ref D) else m z) -> News h₀ L h'' ((D,oD) :: news) -> Q .none { s' with heap:=h'',toks:=tk }) it acc s₃) NoE s₂) NoE s₁) NoE s) :
  wpAny (model prog w) A (comprehension e scope env pos newAcc false first (some (assign (.Name y py) env))) Q NoE s:=by
 subst hLe
 refine comp_walk hcl hs hclos hkind hnames hcell (Fin:=fun _ D oD news s'=>∀ h'' tk,Fr h₀ env.locals h'' (fun z=>if z = y then some (.ref D) else m z) -> News h₀ env.locals h'' ((D,oD) :: news) -> Q .none { s' with heap:=h'',toks:=tk }) h
  fun s₃ C m₂ D oD news h' tk' hin hf=>?_
 show wpAny _ A (assign (.Name y py) env (.ref D)) _ _ _
 have F':=hin.F
 refine bc fun g0=>?_;obtain ⟨oC,hC,N'⟩:=hin.N;refine g0 ?_;clear g0
 have zC:=N' (C,oC) (.head _)
 refine wpAny_assign_Name (wpAny_storeName_local hy F'.ns (fun h₂ hn₂ hs₂=>?_) hp)
 have hL₀ : h₀.get? env.locals = none:=Heap.get?_none_of_le F'.above
 have F₂ : Fr h₀ env.locals h₂ (fun z=>if z = y then some (.ref D) else m z):=⟨hn₂,fun b o e=>hs₂.extBut b o (fun q=>by rw [q,hL₀] at e;cases e) (F'.keep b o e),F'.above⟩
 refine ⟨m₂,hin.ns.sameBut hs₂ zC.2.1,fun h'' hs''=>hf h'' _ (F₂.change hs'' zC.2.1 zC.2.2) fun p hp=>?_⟩
 have z:=N' p (.tail _ hp)
 refine ⟨hs''.extBut _ _ ?_ (hs₂.extBut _ _ z.2.1 z.1),z.2⟩
 refine bc fun g0=>?_;rcases List.mem_cons.mp hp with rfl | hp <;> (refine g0 ?_;clear g0)
 ·exact Ne.symm hin.ne
 ·exact (hin.off p hp).1
end
end
section
open PyProof.Rows.LCg (NsObj lst Off3 SrcAt fr_but news_but ns_obj list_st range_walks range_st)
section
variable {prog : Program} {w : World} {A : Around} {R : Result -> Shared -> Prop} {s s₁ : Shared} {h₀ : Heap} {L C D I : Addr} {m m₂₀ : Str -> Option Value} {oD₀ : Obj} {led₀ news : Led}
theorem start_walk {e target iter : PySem.Expr} {ifs : List PySem.Expr} {gens : List Comprehension} {depth : Nat} {acc : Value} {env : Env} {tail : Sem Fin} {fp : List Addr} {n : Nat} {P : Nat -> Value -> Prop} {St : Nat -> Heap -> Prop} {S : Led -> Prop}
  (hcl : clausesOf e = gens) (hg : gens[depth]? = some ⟨target,iter,ifs,0⟩)
  (hf : (Code.compStart e depth (.ref I) acc env).isFrame = false) (hq1 : (Code.compStart e depth (.ref I) acc env).quiet = true) (hw1 : (Code.compStart e depth (.ref I) acc env).weight = 0) (hu1 : (Code.compStart e depth (.ref I) acc env).cUnits = 0)
  (hframe : (Code.compLoop e depth (.ref I) acc env).isFrame = false) (hq : (Code.compLoop e depth (.ref I) acc env).quiet = true) (hw : (Code.compLoop e depth (.ref I) acc env).weight = 0) (hu : (Code.compLoop e depth (.ref I) acc env).cUnits = 0)
  (ht : compTurn e depth (.ref I) acc env = (do
   standAt iter.pos
   match <- pyNext (.ref I) with
   | none=>pure (.done .next)
   | some v =>
    letOwnedTupleGo target (.ref I) v
    assign target env v
    let ok <- tests ifs env
    if ok then tail else again (.compLoop e depth (.ref I) acc env)))
  (W : Walks prog w A I fp [I] n P St) (hIo : ∀ i h,St i h -> ∃ o,h.get? I = some o)
  (hSt : ∀ i h h' o nw,St i h -> h.get? I = some o -> h'.get? I = some o -> (∀ b o,h₀.get? b = some o -> h'.get? b = some o) -> News h₀ L h' nw -> S nw -> St i h')
  (J : Nat -> Obj -> Led -> Prop) (hIL : L ≠ I) (hI₀ : h₀.get? I = none) (hIC : C ≠ I) (hID : D ≠ I)
  (step : ∀ i v m₂ oD led h tk oI,i < n -> P i v -> J i oD led -> S led -> In2 h₀ L m C m₂ D oD ((I,oI) :: led) h -> (∀ p ∈ led,p.1 ≠ I) -> St (i + 1) h ->
   After prog w A target ifs env tail (.compLoop e depth (.ref I) acc env) (CEnd s h₀ L m C D I oI S (J (i + 1))) (.ref I) v { s with heap:=h,toks:=tk })
  (done : ∀ m₂ oD led h tk,J n oD led -> S led -> In2 h₀ L m C m₂ D oD led h -> R (.ok .next) { s with heap:=h,toks:=tk })
  (st0 : St 0 s.heap) (h0 : In2 h₀ L m C m₂₀ D oD₀ led₀ s.heap) (off0 : ∀ p ∈ led₀,p.1 ≠ I) (S0 : S led₀) (J0 : J 0 oD₀ led₀) :
  codeAny (model prog w) A (.compStart e depth (.ref I) acc env) R s:=by
 have loop:=loop_walk (R:=R) hframe hq hw hu ht W hIo hSt J hIL hI₀ hIC hID step done st0 h0 off0 S0 J0
 exact start_of hcl hg hf hq1 hq hw1 hu1 loop (W.self 0 _ _ _ st0 ⟨rfl,loop⟩)
theorem iter_list {e target iter : PySem.Expr} {ifs : List PySem.Expr} {gens : List Comprehension} {depth : Nat} {acc : Value} {env : Env} {tail : Value -> Sem Fin} {its : Array Value} {ax : Addr} (hh : A.handled = none)
  (hcl : clausesOf e = gens) (hg : gens[depth]? = some ⟨target,iter,ifs,0⟩)
  (hc : ∀ it,(Code.compStart e depth it acc env).isFrame = false /\ (Code.compStart e depth it acc env).quiet = true /\ (Code.compStart e depth it acc env).weight = 0 /\ (Code.compStart e depth it acc env).cUnits = 0 /\
   (Code.compLoop e depth it acc env).isFrame = false /\ (Code.compLoop e depth it acc env).quiet = true /\ (Code.compLoop e depth it acc env).weight = 0 /\ (Code.compLoop e depth it acc env).cUnits = 0)
  (ht : ∀ it,compTurn e depth it acc env = (do
   standAt iter.pos
   match <- pyNext it with
   | none=>pure (.done .next)
   | some v =>
    letOwnedTupleGo target it v
    assign target env v
    let ok <- tests ifs env
    if ok then tail it else again (.compLoop e depth it acc env)))
  (J : Nat -> Obj -> Led -> Prop)
  (step : ∀ I i v m₂ oD led h tk oI,its[i]? = some v -> J i oD led -> SrcAt h₀ ax its led -> In2 h₀ L m C m₂ D oD ((I,oI) :: led) h -> (∀ p ∈ led,p.1 ≠ I) -> oI.cls = .type "list_iterator" ->
   After prog w A target ifs env (tail (.ref I)) (.compLoop e depth (.ref I) acc env) (CEnd s h₀ L m C D I oI (SrcAt h₀ ax its) (J (i + 1))) (.ref I) v { s with heap:=h,toks:=tk })
  (done : ∀ m₂ oD led h tk,J its.size oD led -> SrcAt h₀ ax its led -> In2 h₀ L m C m₂ D oD led h -> R (.ok .next) { s with heap:=h,toks:=tk })
  (h0 : In2 h₀ L m C m₂₀ D oD₀ led₀ s.heap) (S0 : SrcAt h₀ ax its led₀) (J0 : J 0 oD₀ led₀) :
  wpAny (model prog w) A (pyIter (.ref ax)) (fun it s'=>codeAny (model prog w) A (.compStart e depth it acc env) R s') NoE s:=by
 refine bc fun g0=>?_;obtain ⟨oC,hC,N⟩:=h0.N;refine g0 ?_;clear g0
 have Nl : News h₀ L s.heap led₀:=fun p hp=>N p (.tail _ (.tail _ hp))
 have hl:=S0.list h0.F.keep Nl
 have hlt : ax < s.heap.objs.size:=by obtain ⟨_,e,_⟩:=hl;exact Heap.lt_size e
 refine wpAny_pyIter_list hl ?_
 have up : ∀ b o,s.heap.get? b = some o -> (s.heap.push { cls:=.type "list_iterator",data:=.fields #[.ref ax,.int 0 0] }).get? b = some o:=fun b o e=>Heap.get?_push_of_some _ e
 have lt : ∀ p ∈ (C,oC) :: (D,oD₀) :: led₀,p.1 ≠ s.heap.objs.size:=fun p hp=>Nat.ne_of_lt (Heap.lt_size (N p hp).1)
 refine bc fun g0=>?_;obtain ⟨c1,c2,c3,c4,c5,c6,c7,c8⟩:=hc (.ref s.heap.objs.size);refine g0 ?_;clear g0
 refine start_walk hcl hg c1 c2 c3 c4 c5 c6 c7 c8 (ht _) (Walks.list hh s.heap.objs.size ax (Nat.ne_of_lt hlt) its) (fun i h st=>by obtain ⟨o,e,_⟩:=st.1;exact ⟨o,e⟩) list_st
  J (Nat.ne_of_lt h0.F.ns.lt) (next_is_new h0.F) (lt _ (.head _)) (lt _ (.tail _ (.head _))) ?_ done ⟨⟨_,Heap.get?_push_size _ rfl,rfl,rfl⟩,hl.push _⟩ ⟨h0.F.keeps up,⟨oC,hC,N.grown up⟩,h0.ne,h0.off⟩ (fun p hp=>lt _ (.tail _ (.tail _ hp))) S0 J0
 intro i v m₂ oD led h tk oI hi hv hJ hS hin off hst
 refine step _ i v m₂ oD led h tk oI hv hJ hS hin off ?_
 refine bc fun g0=>?_;obtain ⟨o,ho,hc,_⟩:=hst.1
 obtain ⟨oC',_,N'⟩:=hin.N;refine g0 ?_;clear g0
 have:=(N' _ (.tail _ (.tail _ (.head _)))).1
 rw [ho] at this
 cases this
 exact hc
noncomputable abbrev AccNew (prog : Program) (w : World) (A : Around) (h₀ : Heap) (L : Addr) (m : Str -> Option Value) (newAcc : Sem Value) (Acc0 : Obj -> Prop) : Prop :=
 ∀ (s₂ : Shared) (news₂ : Led) (Q : Value -> Shared -> Prop),Fr h₀ L s₂.heap m -> News h₀ L s₂.heap news₂ ->
  (∀ D oD h' tk',Acc0 oD -> Fr h₀ L h' m -> News h₀ L h' ((D,oD) :: news₂) -> (∀ p ∈ news₂,p.1 < D) -> Q (.ref D) { s₂ with heap:=h',toks:=tk' }) -> wpAny (model prog w) A newAcc Q NoE s₂
theorem accList : AccNew prog w A h₀ L m (newList []) (fun oD=>oD = lst []):=fun s₂ news₂ Q F N h =>
 wpAny_newObj_type (h _ _ _ s₂.toks rfl (F.push _) (N.push F _) fun p hp=>Heap.lt_size (N p hp).1)
theorem first_walk {e target iter : PySem.Expr} {ifs : List PySem.Expr} {gens : List Comprehension} {scope : Scope} {cl : List (Str × Addr)} {env : Env} {tail : Addr -> Addr -> Value -> Sem Fin} {newAcc : Sem Value} {Acc0 : Obj -> Prop} {Fin : Addr -> Obj -> Led -> Shared -> Prop}
  {fp : List Addr} {n : Nat} {P : Nat -> Value -> Prop} {St : Nat -> Heap -> Prop} {S : Led -> Prop} {oI₀ : Obj}
  (hcl : clausesOf e = gens) (hg : gens[0]? = some ⟨target,iter,ifs,0⟩)
  (hc : ∀ it acc env,(Code.compStart e 0 it acc env).isFrame = false /\ (Code.compStart e 0 it acc env).quiet = true /\ (Code.compStart e 0 it acc env).weight = 0 /\ (Code.compStart e 0 it acc env).cUnits = 0 /\
   (Code.compLoop e 0 it acc env).isFrame = false /\ (Code.compLoop e 0 it acc env).quiet = true /\ (Code.compLoop e 0 it acc env).weight = 0 /\ (Code.compLoop e 0 it acc env).cUnits = 0)
  (ht : ∀ C D it,compTurn e 0 it (.ref D) (compEnvC scope cl C env) = (do
   standAt iter.pos
   match <- pyNext it with
   | none=>pure (.done .next)
   | some v =>
    letOwnedTupleGo target it v
    assign target (compEnvC scope cl C env) v
    let ok <- tests ifs (compEnvC scope cl C env)
    if ok then tail C D it else again (.compLoop e 0 it (.ref D) (compEnvC scope cl C env))))
  (hacc : AccNew prog w A h₀ L m newAcc Acc0)
  (W : Walks prog w A I fp [I] n P St) (hIo : ∀ i h,St i h -> ∃ o,h.get? I = some o)
  (hSt : ∀ i h h' o nw,St i h -> h.get? I = some o -> h'.get? I = some o -> (∀ b o,h₀.get? b = some o -> h'.get? b = some o) -> News h₀ L h' nw -> S nw -> St i h')
  (F : Fr h₀ L s.heap m) (N : News h₀ L s.heap ((I,oI₀) :: news)) (off : ∀ p ∈ news,p.1 ≠ I) (st0 : St 0 s.heap) (S0 : S news)
  (J : Addr -> Nat -> Obj -> Led -> Prop)
  (J0 : ∀ D oD,Acc0 oD -> (∀ p ∈ news,p.1 < D) -> J D 0 oD news)
  (step : ∀ C D i v m₂ oD led h tk oI,i < n -> P i v -> J D i oD led -> S led -> In2 h₀ L m C m₂ D oD ((I,oI) :: led) h -> (∀ p ∈ led,p.1 ≠ I) -> St (i + 1) h ->
   After prog w A target ifs (compEnvC scope cl C env) (tail C D (.ref I)) (.compLoop e 0 (.ref I) (.ref D) (compEnvC scope cl C env)) (CEnd s h₀ L m C D I oI S (J D (i + 1))) (.ref I) v { s with heap:=h,toks:=tk })
  (done : ∀ D oD led h tk,J D n oD led -> S led -> Fin D oD led { s with heap:=h,toks:=tk }) :
  wpAny (model prog w) A newAcc (fun acc s₃=>CompIn prog w A h₀ L m e scope cl env Fin (.ref I) acc s₃) NoE s:=by
 refine hacc s _ _ F N fun D oD h' tk' hA F' N' lt=>?_
 refine ⟨D,oD,(I,oI₀) :: news,rfl,F',N',fun p hp=>Nat.ne_of_lt (lt p hp),fun C h tk hin hDC ltC hC₀=>?_⟩
 have lI : I ≠ D:=Nat.ne_of_lt (lt _ (.head _))
 have lC : I ≠ C:=Nat.ne_of_lt (ltC _ (.head _))
 have NI:=N (I,oI₀) (.head _)
 refine bc fun g0=>?_;obtain ⟨c1,c2,c3,c4,c5,c6,c7,c8⟩:=hc (.ref I) (.ref D) (compEnvC scope cl C env)
 obtain ⟨oC,hC,NC⟩:=hin.N;refine g0 ?_;clear g0
 have Nn : News h₀ L h news:=fun p hp=>NC p (.tail _ (.tail _ (.tail _ hp)))
 refine start_walk (R:=fun r s'=>match r with | .ok _=>∃ m₂ oD' news' h' tk',s' = { s with heap:=h',toks:=tk' } /\ In2 h₀ L m C m₂ D oD' news' h' /\ Fin D oD' news' { s with heap:=h',toks:=tk' } | .error _=>False) (s:={ s with heap:=h,toks:=tk })
  hcl hg c1 c2 c3 c4 c5 c6 c7 c8 (ht C D _) W hIo hSt (J D) (Ne.symm NI.2.1) NI.2.2 (Ne.symm lC) (Ne.symm lI) (fun i v m₂ oD led h tk oI hi hP hJ hS hin off hst=>step C D i v m₂ oD led h tk oI hi hP hJ hS hin off hst)
  (fun m₂ oD led h tk hJ hS hin=>⟨m₂,oD,led,h,tk,rfl,hin,done D oD led h tk hJ hS⟩)
  (hSt 0 _ _ oI₀ news st0 NI.1 (NC _ (.tail _ (.tail _ (.head _)))).1 hin.F.keep Nn S0) ⟨hin.F,⟨oC,hC,fun p hp=>NC p ?_⟩,hin.ne,fun p hp=>hin.off p (.tail _ hp)⟩ off S0 (J0 D oD hA fun p hp=>lt p (.tail _ hp))
 refine bc fun g0=>?_;rcases List.mem_cons.mp hp with rfl | hp <;> (refine g0 ?_;clear g0)
 ·exact .head _
 ·refine bc fun g0=>?_;rcases List.mem_cons.mp hp with rfl | hp <;> (refine g0 ?_;clear g0)
  ·exact .tail _ (.head _)
  ·exact .tail _ (.tail _ (.tail _ hp))
theorem first_list {e target iter : PySem.Expr} {ifs : List PySem.Expr} {gens : List Comprehension} {scope : Scope} {cl : List (Str × Addr)} {env : Env} {tail : Addr -> Addr -> Value -> Sem Fin} {newAcc : Sem Value} {Acc0 : Obj -> Prop} {Fin : Addr -> Obj -> Led -> Shared -> Prop}
  {its : Array Value} {ax : Addr} (hh : A.handled = none)
  (hcl : clausesOf e = gens) (hg : gens[0]? = some ⟨target,iter,ifs,0⟩)
  (hc : ∀ it acc env,(Code.compStart e 0 it acc env).isFrame = false /\ (Code.compStart e 0 it acc env).quiet = true /\ (Code.compStart e 0 it acc env).weight = 0 /\ (Code.compStart e 0 it acc env).cUnits = 0 /\
   (Code.compLoop e 0 it acc env).isFrame = false /\ (Code.compLoop e 0 it acc env).quiet = true /\ (Code.compLoop e 0 it acc env).weight = 0 /\ (Code.compLoop e 0 it acc env).cUnits = 0)
  (ht : ∀ C D it,compTurn e 0 it (.ref D) (compEnvC scope cl C env) = (do
   standAt iter.pos
   match <- pyNext it with
   | none=>pure (.done .next)
   | some v =>
    letOwnedTupleGo target it v
    assign target (compEnvC scope cl C env) v
    let ok <- tests ifs (compEnvC scope cl C env)
    if ok then tail C D it else again (.compLoop e 0 it (.ref D) (compEnvC scope cl C env))))
  (hacc : AccNew prog w A h₀ L m newAcc Acc0)
  (F : Fr h₀ L s.heap m) (N : News h₀ L s.heap news) (S0 : SrcAt h₀ ax its news)
  (J : Addr -> Nat -> Obj -> Led -> Prop)
  (J0 : ∀ D oD,Acc0 oD -> (∀ p ∈ news,p.1 < D) -> J D 0 oD news)
  (step : ∀ I C D i v m₂ oD led h tk oI,its[i]? = some v -> J D i oD led -> SrcAt h₀ ax its led -> In2 h₀ L m C m₂ D oD ((I,oI) :: led) h -> (∀ p ∈ led,p.1 ≠ I) -> oI.cls = .type "list_iterator" ->
   After prog w A target ifs (compEnvC scope cl C env) (tail C D (.ref I)) (.compLoop e 0 (.ref I) (.ref D) (compEnvC scope cl C env)) (CEnd s h₀ L m C D I oI (SrcAt h₀ ax its) (J D (i + 1))) (.ref I) v { s with heap:=h,toks:=tk })
  (done : ∀ D oD led h tk,J D its.size oD led -> SrcAt h₀ ax its led -> Fin D oD led { s with heap:=h,toks:=tk }) :
  wpAny (model prog w) A (pyIter (.ref ax)) (fun it s₂=>wpAny (model prog w) A newAcc (fun acc s₃=>CompIn prog w A h₀ L m e scope cl env Fin it acc s₃) NoE s₂) NoE s:=by
 have hl:=S0.list F.keep N
 have hlt : ax < s.heap.objs.size:=by obtain ⟨_,e,_⟩:=hl;exact Heap.lt_size e
 refine wpAny_pyIter_list hl ?_
 refine first_walk (s:={ s with heap:=s.heap.push { cls:=.type "list_iterator",data:=.fields #[.ref ax,.int 0 0] } }) hcl hg hc ht hacc (Walks.list hh s.heap.objs.size ax (Nat.ne_of_lt hlt) its) (fun i h st=>by obtain ⟨o,e,_⟩:=st.1;exact ⟨o,e⟩) list_st (F.push _) (N.push F _)
  (fun p hp=>Nat.ne_of_lt (Heap.lt_size (N p hp).1)) ⟨⟨_,Heap.get?_push_size _ rfl,rfl,rfl⟩,hl.push _⟩ S0 J J0 ?_ done
 intro C D i v m₂ oD led h tk oI hi hv hJ hS hin off hst
 refine step _ C D i v m₂ oD led h tk oI hv hJ hS hin off ?_
 refine bc fun g0=>?_;obtain ⟨o,ho,hc,_⟩:=hst.1
 obtain ⟨oC',_,N'⟩:=hin.N;refine g0 ?_;clear g0
 have:=(N' _ (.tail _ (.tail _ (.head _)))).1
 rw [ho] at this
 cases this
 exact hc
theorem first_str {e target iter : PySem.Expr} {ifs : List PySem.Expr} {gens : List Comprehension} {scope : Scope} {cl : List (Str × Addr)} {env : Env} {tail : Addr -> Addr -> Value -> Sem Fin} {newAcc : Sem Value} {Acc0 : Obj -> Prop} {Fin : Addr -> Obj -> Led -> Shared -> Prop}
  {x : Str} {t : Tok} (hh : A.handled = none) (ha : x.cps.all (· < 128) = true)
  (hcl : clausesOf e = gens) (hg : gens[0]? = some ⟨target,iter,ifs,0⟩)
  (hc : ∀ it acc env,(Code.compStart e 0 it acc env).isFrame = false /\ (Code.compStart e 0 it acc env).quiet = true /\ (Code.compStart e 0 it acc env).weight = 0 /\ (Code.compStart e 0 it acc env).cUnits = 0 /\
   (Code.compLoop e 0 it acc env).isFrame = false /\ (Code.compLoop e 0 it acc env).quiet = true /\ (Code.compLoop e 0 it acc env).weight = 0 /\ (Code.compLoop e 0 it acc env).cUnits = 0)
  (ht : ∀ C D it,compTurn e 0 it (.ref D) (compEnvC scope cl C env) = (do
   standAt iter.pos
   match <- pyNext it with
   | none=>pure (.done .next)
   | some v =>
    letOwnedTupleGo target it v
    assign target (compEnvC scope cl C env) v
    let ok <- tests ifs (compEnvC scope cl C env)
    if ok then tail C D it else again (.compLoop e 0 it (.ref D) (compEnvC scope cl C env))))
  (hacc : AccNew prog w A h₀ L m newAcc Acc0)
  (F : Fr h₀ L s.heap m) (N : News h₀ L s.heap news)
  (J : Addr -> Nat -> Obj -> Led -> Prop)
  (J0 : ∀ D oD,Acc0 oD -> (∀ p ∈ news,p.1 < D) -> J D 0 oD news)
  (step : ∀ I C D i c tv m₂ oD led h tk oI,x.cps[i]? = some c -> J D i oD led -> In2 h₀ L m C m₂ D oD ((I,oI) :: led) h -> (∀ p ∈ led,p.1 ≠ I) ->
   After prog w A target ifs (compEnvC scope cl C env) (tail C D (.ref I)) (.compLoop e 0 (.ref I) (.ref D) (compEnvC scope cl C env)) (CEnd s h₀ L m C D I oI (fun _=>True) (J D (i + 1))) (.ref I) (.str ⟨#[c]⟩ tv) { s with heap:=h,toks:=tk })
  (done : ∀ D oD led h tk,J D x.cps.size oD led -> Fin D oD led { s with heap:=h,toks:=tk }) :
  wpAny (model prog w) A (pyIter (.str x t)) (fun it s₂=>wpAny (model prog w) A newAcc (fun acc s₃=>CompIn prog w A h₀ L m e scope cl env Fin it acc s₃) NoE s₂) NoE s:=by
 refine wpAny_pyIter_ascii ha ?_
 refine first_walk (s:={ s with heap:=s.heap.push { cls:=.type "str_ascii_iterator",data:=.fields #[.str x t,.int 0 0] } }) (S:=fun _=>True) hcl hg hc ht hacc (Walks.strAscii hh s.heap.objs.size x t) (fun i h st=>by obtain ⟨o,e,_⟩:=st;exact ⟨o,e⟩)
  (fun i h h' o nw st e e' _ _ _=>by obtain ⟨o',q,r⟩:=st;rw [e] at q;cases q;exact ⟨o,e',r⟩) (F.push _) (N.push F _)
  (fun p hp=>Nat.ne_of_lt (Heap.lt_size (N p hp).1)) ⟨_,Heap.get?_push_size _ rfl,rfl,rfl⟩ trivial J J0 ?_ (fun D oD led h tk hJ _=>done D oD led h tk hJ)
 intro C D i v m₂ oD led h tk oI hi hv hJ hS hin off hst
 refine bc fun g0=>?_;obtain ⟨c,tv,hx,hv⟩:=hv;refine g0 ?_;clear g0
 subst hv
 exact step _ C D i c tv m₂ oD led h tk oI hx hJ hin off
theorem In2.assign {scope : Scope} {cl : List (Str × Addr)} {env : Env} {m₂ : Str -> Option Value} {x : Str} {px : Pos} {v : Value} {oD : Obj} {led : Led} {Q : Unit -> Shared -> Prop} {E : Value -> Shared -> Prop} (hin : In2 h₀ L m C m₂ D oD led s.heap)
  (hx : (compEnvC scope cl C env).kindOf x = some .local) (hp : scope.kind = .function)
  (h : ∀ h',In2 h₀ L m C (fun y=>if y = x then some v else m₂ y) D oD led h' -> Q () { s with heap:=h',toks:=s.toks + 1 }) :
  wpAny (model prog w) A (assign (.Name x px) (compEnvC scope cl C env) v) Q E s:=by
 refine wpAny_assign_Name (wpAny_storeName_local hx hin.ns (fun h₂ hn₂ hs₂=>h h₂ ?_) (by simp [compEnvC,relabel,hp]))
 refine bc fun g0=>?_;obtain ⟨oC,hC,N⟩:=hin.N
 have zC:=N (C,oC) (.head _)
 obtain ⟨oC',heC,hoC⟩:=ns_obj hn₂;refine g0 ?_;clear g0
 refine ⟨hin.F.change hs₂ zC.2.1 zC.2.2,⟨oC',hoC,fun p hp=>?_⟩,hin.ne,hin.off⟩
 refine bc fun g0=>?_;rcases List.mem_cons.mp hp with rfl | hp <;> (refine g0 ?_;clear g0)
 ·exact ⟨heC,zC.2⟩
 ·have z:=N p (.tail _ hp)
  refine ⟨hs₂.extBut _ _ ?_ z.1,z.2⟩
  refine bc fun g0=>?_;rcases List.mem_cons.mp hp with rfl | hp <;> (refine g0 ?_;clear g0)
  ·exact Ne.symm hin.ne
  ·exact (hin.off p hp).1
end
end
section
open PyProof.Rows.LCg (NsObj lst Off3 SrcAt fr_but news_but ns_obj list_st range_walks range_st)
section
variable {prog : Program} {w : World} {A : Around} {s : Shared} {h₀ : Heap} {L : Addr} {m : Str -> Option Value} {E : Value -> Shared -> Prop} {env : Env} {elt target iter : PySem.Expr} {ifs : List PySem.Expr} {gs : List Comprehension} {scope : Scope} {pos spos : Pos} {cl : List (Str × Addr)}
theorem eval_lc {Q : Value -> Shared -> Prop} (F₀ : Fr h₀ L s.heap m) (hs : ∀ x,foldedSetIterable iter env x = pure x) (hclos : closureFor scope env = pure cl)
  (hkind : scope.kind = .function) (hnames : (scope.names.all fun x=>x.2 != .local || scope.names.lookup x.1 == some .local) = true) (hcell : (scope.names.all fun y=>y.2 != .cell) = true)
  (h : wpAny (model prog w) A (eval iter env) (fun x s₁=>wpAny (model prog w) A (pyIter x) (fun it s₂=>wpAny (model prog w) A (newList []) (fun acc s₃=>CompIn prog w A h₀ L m (.ListComp elt (⟨target,iter,ifs,0⟩ :: gs) scope pos) scope cl env
   (fun D oD news s'=>∀ h'',Fr h₀ L h'' m -> News h₀ L h'' ((D,oD) :: news) -> Q (.ref D) { s' with heap:=h'' }) it acc s₃) NoE s₂) NoE s₁) NoE s) :
  wpAny (model prog w) A (eval (.ListComp elt (⟨target,iter,ifs,0⟩ :: gs) scope pos) env) Q E s:=by
 rw [eval_ListComp]
 refine noE (comp_eval (g:=⟨target,iter,ifs,0⟩) (gs:=gs) rfl hs hclos hkind (fun x hx hl=>?_) (fun y hy hc=>?_) h)
 ·have:=List.all_eq_true.mp hnames x hx
  simp only [hl,bne_self_eq_false,Bool.false_or,beq_iff_eq] at this
  exact this
 ·have:=List.all_eq_true.mp hcell y hy
  rw [hc] at this
  exact absurd this (by decide)
theorem ret_lc {Q : Flow -> Shared -> Prop} {e : PySem.Expr} (h : wpAny (model prog w) A (eval e env) (fun v s'=>Q (.ret v) s') E s) : wpAny (model prog w) A (exec (.Return (some e) spos) env) Q E s:=by
 show wpAny _ A (do standAt spos;match evalOpt (some e) env with | some x=>return Flow.ret (<- x) | none=>return Flow.ret .none) Q E s
 exact wpAny_bind (wpAny_standAt (wpAny_bind (wpAny_mono h (fun v s' hq=>wpAny_pure hq) fun _ _ e=>e)))
theorem eval_sc {Q : Value -> Shared -> Prop} (F₀ : Fr h₀ L s.heap m) (hs : ∀ x,foldedSetIterable iter env x = pure x) (hclos : closureFor scope env = pure cl)
  (hkind : scope.kind = .function) (hnames : (scope.names.all fun x=>x.2 != .local || scope.names.lookup x.1 == some .local) = true) (hcell : (scope.names.all fun y=>y.2 != .cell) = true)
  (h : wpAny (model prog w) A (eval iter env) (fun x s₁=>wpAny (model prog w) A (pyIter x) (fun it s₂=>wpAny (model prog w) A (newSet (.type "set")) (fun acc s₃=>CompIn prog w A h₀ L m (.SetComp elt (⟨target,iter,ifs,0⟩ :: gs) scope pos) scope cl env
   (fun D oD news s'=>∀ h'',Fr h₀ L h'' m -> News h₀ L h'' ((D,oD) :: news) -> Q (.ref D) { s' with heap:=h'' }) it acc s₃) NoE s₂) NoE s₁) NoE s) :
  wpAny (model prog w) A (eval (.SetComp elt (⟨target,iter,ifs,0⟩ :: gs) scope pos) env) Q E s:=by
 show wpAny _ A (comprehension (.SetComp elt (⟨target,iter,ifs,0⟩ :: gs) scope pos) scope env _ (newSet (.type "set")) false (eval iter env) none) Q E s
 refine noE (comp_eval (g:=⟨target,iter,ifs,0⟩) (gs:=gs) rfl hs hclos hkind (fun x hx hl=>?_) (fun y hy hc=>?_) h)
 ·have:=List.all_eq_true.mp hnames x hx
  simp only [hl,bne_self_eq_false,Bool.false_or,beq_iff_eq] at this
  exact this
 ·have:=List.all_eq_true.mp hcell y hy
  rw [hc] at this
  exact absurd this (by decide)
theorem asg_lc {Q : Flow -> Shared -> Prop} {y : Str} {py : Pos} (F₀ : Fr h₀ L s.heap m) (hs : ∀ x,foldedSetIterable iter env x = pure x) (hclos : closureFor scope env = pure cl)
  (hsw : swapsWith (.ListComp elt (⟨target,iter,ifs,0⟩ :: gs) scope pos) (some (.Name y py)) spos.line env = pure true)
  (hkind : scope.kind = .function) (hnames : (scope.names.all fun x=>x.2 != .local || scope.names.lookup x.1 == some .local) = true) (hcell : (scope.names.all fun y=>y.2 != .cell) = true)
  (hLe : env.locals = L) (hy : env.kindOf y = some .local) (hp : (env.scope.kind == .class || (env.scope.kind == .module && env.locals != env.globals)) = false)
  (h : wpAny (model prog w) A (eval iter env) (fun x s₁=>wpAny (model prog w) A (pyIter x) (fun it s₂=>wpAny (model prog w) A (newList []) (fun acc s₃=>CompIn prog w A h₀ L m (.ListComp elt (⟨target,iter,ifs,0⟩ :: gs) scope pos) scope cl env
   (fun D oD news s'=>∀ h'' tk,Fr h₀ L h'' (fun z=>if z = y then some (.ref D) else m z) -> News h₀ L h'' ((D,oD) :: news) -> Q .next { s' with heap:=h'',toks:=tk }) it acc s₃) NoE s₂) NoE s₁) NoE s) :
  wpAny (model prog w) A (exec (.Assign [.Name y py] (.ListComp elt (⟨target,iter,ifs,0⟩ :: gs) scope pos) spos) env) Q E s:=by
 rw [exec_Assign_Name_used _ _ _ _ hsw]
 refine noE (wpAny_bind (wpAny_standAt (wpAny_bind ?_)))
 show wpAny _ A (do let _ <- comprehension (.ListComp elt (⟨target,iter,ifs,0⟩ :: gs) scope pos) scope env _ (newList []) false (eval iter env) (some (assign (.Name y py) env))) _ _ s
 refine wpAny_bind (wpAny_mono (comp_store (Q:=fun _ s'=>Q .next s') (g:=⟨target,iter,ifs,0⟩) (gs:=gs) rfl hs hclos hkind (fun x hx hl=>?_) (fun y hy hc=>?_) hLe hy hp h) (fun _ s' hq=>wpAny_pure (wpAny_pure hq)) fun _ _ e=>e)
 ·have:=List.all_eq_true.mp hnames x hx
  simp only [hl,bne_self_eq_false,Bool.false_or,beq_iff_eq] at this
  exact this
 ·have:=List.all_eq_true.mp hcell y hy
  rw [hc] at this
  exact absurd this (by decide)
theorem code_lc (gens : List Comprehension) (d : Nat) (it acc : Value) (env : Env) : (Code.compStart (.ListComp elt gens scope pos) d it acc env).isFrame = false /\ (Code.compStart (.ListComp elt gens scope pos) d it acc env).quiet = true /\ (Code.compStart (.ListComp elt gens scope pos) d it acc env).weight = 0 /\ (Code.compStart (.ListComp elt gens scope pos) d it acc env).cUnits = 0 /\
   (Code.compLoop (.ListComp elt gens scope pos) d it acc env).isFrame = false /\ (Code.compLoop (.ListComp elt gens scope pos) d it acc env).quiet = true /\ (Code.compLoop (.ListComp elt gens scope pos) d it acc env).weight = 0 /\ (Code.compLoop (.ListComp elt gens scope pos) d it acc env).cUnits = 0:=by
 cases d <;> exact ⟨rfl,rfl,rfl,rfl,rfl,rfl,rfl,rfl⟩
theorem code_sc (gens : List Comprehension) (d : Nat) (it acc : Value) (env : Env) : (Code.compStart (.SetComp elt gens scope pos) d it acc env).isFrame = false /\ (Code.compStart (.SetComp elt gens scope pos) d it acc env).quiet = true /\ (Code.compStart (.SetComp elt gens scope pos) d it acc env).weight = 0 /\ (Code.compStart (.SetComp elt gens scope pos) d it acc env).cUnits = 0 /\
   (Code.compLoop (.SetComp elt gens scope pos) d it acc env).isFrame = false /\ (Code.compLoop (.SetComp elt gens scope pos) d it acc env).quiet = true /\ (Code.compLoop (.SetComp elt gens scope pos) d it acc env).weight = 0 /\ (Code.compLoop (.SetComp elt gens scope pos) d it acc env).cUnits = 0:=by
 cases d <;> exact ⟨rfl,rfl,rfl,rfl,rfl,rfl,rfl,rfl⟩
theorem with_led {P : Prop} {h : Heap} {led : Led} (N : News h₀ L h led) (k : ∀ led9,led9 = led -> News h₀ L h led9 -> P) : P:=k _ rfl N
section
variable {C D I : Addr} {m₂ : Str -> Option Value} {oD : Obj} {led led₁ : Led} {h₁ : Heap} {x : Str} {px : Pos} {v it : Value} {c' : Code} {X : Shared -> Prop} {c : PySem.Expr}
theorem After.list1 (hin : In2 h₀ L m C m₂ D oD led s.heap) (hx : (compEnvC scope cl C env).kindOf x = some .local) (hp : scope.kind = .function)
  (h : ∀ h' tk,In2 h₀ L m C (fun y=>if y = x then some v else m₂ y) D oD led h' -> wpAny (model prog w) A (isTrue c (compEnvC scope cl C env) (eval c (compEnvC scope cl C env))) (fun ok s₃ =>
   if ok = true then wpAny (model prog w) A (eval elt (compEnvC scope cl C env)) (fun y s₁=>wpAny (model prog w) A (call (.builtin "list.append") [.ref D,y]) (fun _ s₂=>X s₂) NoE s₁) NoE s₃ else X s₃) NoE { s with heap:=h',toks:=tk }) :
  After prog w A (.Name x px) [c] (compEnvC scope cl C env) (do (do let _ <- call (.builtin "list.append") [.ref D,<- eval elt (compEnvC scope cl C env)]);again c') c' X it v s:=by
 refine wpAny_pure ?_
 refine hin.assign hx hp fun h' hin'=>?_
 refine wpAny_tests_one (wpAny_mono (h h' _ hin') (fun ok s₃ h₃=>?_) fun _ _ e=>e)
 cases ok with
 | true=>exact tail_list h₃
 | false=>exact h₃
theorem After.list0 (hin : In2 h₀ L m C m₂ D oD led s.heap) (hx : (compEnvC scope cl C env).kindOf x = some .local) (hp : scope.kind = .function)
  (h : ∀ h' tk,In2 h₀ L m C (fun y=>if y = x then some v else m₂ y) D oD led h' ->
   wpAny (model prog w) A (eval elt (compEnvC scope cl C env)) (fun y s₁=>wpAny (model prog w) A (call (.builtin "list.append") [.ref D,y]) (fun _ s₂=>X s₂) NoE s₁) NoE { s with heap:=h',toks:=tk }) :
  After prog w A (.Name x px) [] (compEnvC scope cl C env) (do (do let _ <- call (.builtin "list.append") [.ref D,<- eval elt (compEnvC scope cl C env)]);again c') c' X it v s:=by
 refine wpAny_pure ?_
 refine hin.assign hx hp fun h' hin'=>?_
 refine wpAny_tests_nil ?_
 exact tail_list (h h' _ hin')
theorem CEnd.same {oI oC oD₁ : Obj} {S : Led -> Prop} {Jn : Obj -> Led -> Prop} {h : Heap} {tk : Nat} {m₂ m₃ : Str -> Option Value} (hin : In2 h₀ L m C m₃ D oD₁ ((I,oI) :: led) h₁) (off : ∀ p ∈ led,p.1 ≠ I) (hC : NsObj oC m₂)
  (F : Fr h₀ L h m) (N : News h₀ L h ((C,oC) :: (D,oD) :: (I,oI) :: led)) (hS : S led) (hJ : Jn oD led) : CEnd s h₀ L m C D I oI S Jn { s with heap:=h,toks:=tk } :=
 ⟨h,tk,m₂,oD,led,rfl,⟨F,⟨oC,hC,N⟩,hin.ne,hin.off⟩,off,hS,hJ⟩
theorem push_at {oC : Obj} {ys : List Value} {y : Value} (hin : In2 h₀ L m C m₂ D oD led₁ h₁) (F : Fr h₀ L s.heap m) (N : News h₀ L s.heap ((C,oC) :: (D,lst ys) :: led₁)) (hlen : ys.length <= 1000000)
  (h : ∀ h',Fr h₀ L h' m -> News h₀ L h' ((C,oC) :: (D,lst (ys ++ [y])) :: led₁) -> X { s with heap:=h' }) : wpAny (model prog w) A (call (.builtin "list.append") [.ref D,y]) (fun _ s₂=>X s₂) NoE s:=by
 have zD:=N (D,lst ys) (.tail _ (.head _))
 refine append_at (hsz:=by rw [List.size_toArray,sizeLine_eq];exact o293 hlen) zD.1 fun h₅ hs₅ hD₅=>h h₅ (F.change hs₅ zD.2.1 zD.2.2) fun p hp=>?_
 rcases List.mem_cons.mp hp with rfl | hp
 ·have z:=N (C,oC) (.head _)
  exact ⟨hs₅.extBut _ _ hin.ne z.1,z.2⟩
 ·rcases List.mem_cons.mp hp with rfl | hp
  ·exact ⟨hD₅.trans (congrArg some (PyProof.Rows.LCg.lst_snoc ys y)),zD.2⟩
  ·have z:=N p (.tail _ (.tail _ hp))
   exact ⟨hs₅.extBut _ _ (hin.off p hp).2 z.1,z.2⟩
end
end
end
section
open PyProof.Rows.LCg (NsObj lst Off3 SrcAt fr_but news_but ns_obj list_st range_walks range_st)
namespace G
noncomputable abbrev CEnd (s : Shared) (h₀ : Heap) (L : Addr) (m : Str -> Option Value) (C D I : Addr) (oI : Obj) (S : Led -> Prop) (Jn : (Str -> Option Value) -> Obj -> Led -> Prop) (s' : Shared) : Prop:=CEndP AllBare s h₀ L m C D I oI S Jn s'
section
variable {prog : Program} {w : World} {A : Around} {R : Result -> Shared -> Prop} {s : Shared} {h₀ : Heap} {L C D I : Addr} {m m₂₀ : Str -> Option Value} {oD₀ : Obj} {led₀ : Led}
theorem loop_walk {e target iter : PySem.Expr} {ifs : List PySem.Expr} {depth : Nat} {acc : Value} {env : Env} {tail : Sem Fin} {fp : List Addr} {n : Nat} {P : Nat -> Value -> Prop} {St : Nat -> Heap -> Prop} {S : Led -> Prop}
  (hframe : (Code.compLoop e depth (.ref I) acc env).isFrame = false) (hq : (Code.compLoop e depth (.ref I) acc env).quiet = true) (hw : (Code.compLoop e depth (.ref I) acc env).weight = 0) (hu : (Code.compLoop e depth (.ref I) acc env).cUnits = 0)
  (ht : compTurn e depth (.ref I) acc env = (do
   standAt iter.pos
   match <- pyNext (.ref I) with
   | none=>pure (.done .next)
   | some v =>
    letOwnedTupleGo target (.ref I) v
    assign target env v
    let ok <- tests ifs env
    if ok then tail else again (.compLoop e depth (.ref I) acc env)))
  (W : Walks prog w A I fp [I] n P St) (hIo : ∀ i h,St i h -> ∃ o,h.get? I = some o)
  (hSt : ∀ i h h' o nw,St i h -> h.get? I = some o -> h'.get? I = some o -> (∀ b o,h₀.get? b = some o -> h'.get? b = some o) -> News h₀ L h' nw -> S nw -> St i h')
  (J : Nat -> (Str -> Option Value) -> Obj -> Led -> Prop) (hIL : L ≠ I) (hI₀ : h₀.get? I = none) (hIC : C ≠ I) (hID : D ≠ I)
  (step : ∀ i v m₂ oD led h tk gn oI,AllBare gn -> i < n -> P i v -> J i m₂ oD led -> S led -> In2 h₀ L m C m₂ D oD ((I,oI) :: led) h -> (∀ p ∈ led,p.1 ≠ I) -> St (i + 1) h ->
   After prog w A target ifs env tail (.compLoop e depth (.ref I) acc env) (CEnd s h₀ L m C D I oI S (J (i + 1))) (.ref I) v { s with heap:=h,toks:=tk,gens:=gn })
  (done : ∀ m₂ oD led h tk gn,AllBare gn -> J n m₂ oD led -> S led -> In2 h₀ L m C m₂ D oD led h -> R (.ok .next) { s with heap:=h,toks:=tk,gens:=gn })
  (st0 : St 0 s.heap) (h0 : In2 h₀ L m C m₂₀ D oD₀ led₀ s.heap) (off0 : ∀ p ∈ led₀,p.1 ≠ I) (S0 : S led₀) (J0 : J 0 m₂₀ oD₀ led₀) (G0 : AllBare s.gens) :
  codeAny (model prog w) A (.compLoop e depth (.ref I) acc env) R s:=loop_walkP hframe hq hw hu ht W hIo hSt J hIL hI₀ hIC hID step done st0 h0 off0 S0 J0 G0
end
section
variable {prog : Program} {w : World} {A : Around} {s : Shared} {h₀ : Heap} {L : Addr} {m : Str -> Option Value}
noncomputable abbrev CompIn (prog : Program) (w : World) (A : Around) (h₀ : Heap) (L : Addr) (m : Str -> Option Value) (e : PySem.Expr) (scope : Scope) (cl : List (Str × Addr)) (env : Env) (Fin : Addr -> Obj -> Led -> Shared -> Prop) (it acc : Value) (s₃ : Shared) : Prop :=
 ∃ D oD news,acc = .ref D /\ Fr h₀ L s₃.heap m /\ News h₀ L s₃.heap ((D,oD) :: news) /\ (∀ p ∈ news,p.1 ≠ D) /\
  ∀ C h tk,In2 h₀ L m C (fun _=>none) D oD news h -> D < C -> (∀ p ∈ news,p.1 < C) -> h₀.get? C = none -> codeAny (model prog w) A (.compStart e 0 it (.ref D) (compEnvC scope cl C env))
   (fun r s'=>match r with | .ok _=>∃ m₂ oD' news' h' tk' gn',s' = { s₃ with heap:=h',toks:=tk',gens:=gn' } /\ In2 h₀ L m C m₂ D oD' news' h' /\ Fin D oD' news' { s₃ with heap:=h',toks:=tk',gens:=gn' } | .error _=>False) { s₃ with heap:=h,toks:=tk }
theorem comp_walk {e : PySem.Expr} {scope : Scope} {pos : Pos} {env : Env} {newAcc first : Sem Value} {g : Comprehension} {gs : List Comprehension} {cl : List (Str × Addr)} {use : Option (Value -> Sem Unit)} {Q : Value -> Shared -> Prop} {Fin : Shared -> Addr -> Obj -> Led -> Shared -> Prop}
  (hcl : clausesOf e = g :: gs) (hs : ∀ x,foldedSetIterable g.iter env x = pure x) (hclos : closureFor scope env = pure cl)
  (hkind : scope.kind = .function) (hnames : ∀ x ∈ scope.names,x.2 = .local -> scope.names.lookup x.1 = some .local) (hcell : ∀ y ∈ scope.names,y.2 ≠ .cell)
  (h : wpAny (model prog w) A first (fun x s₁=>wpAny (model prog w) A (pyIter x) (fun it s₂=>wpAny (model prog w) A newAcc (fun acc s₃=>CompIn prog w A h₀ L m e scope cl env (Fin s₃) it acc s₃) NoE s₂) NoE s₁) NoE s)
  (fin : ∀ s₃ C m₂ D oD news h' tk' gn',In2 h₀ L m C m₂ D oD news h' -> Fin s₃ D oD news { s₃ with heap:=h',toks:=tk',gens:=gn' } -> compPost (model prog w) A NoE use Q (.ref D) C (.ok .next) { s₃ with heap:=h',toks:=tk',gens:=gn' }) :
  wpAny (model prog w) A (comprehension e scope env pos newAcc false first use) Q NoE s:=by
 refine wpAny_comprehension_free (use:=use) hcl hs hclos hkind hnames (wpAny_mono h (fun x s₁ h₁=>wpAny_mono h₁ (fun it s₂ h₂=>wpAny_mono h₂ (fun acc s₃ h₃=>?_) fun _ _ e=>e) fun _ _ e=>e) fun _ _ e=>e)
 refine bc fun g0=>?_;obtain ⟨D,oD,news,rfl,F,N,hD,hc⟩:=h₃;refine g0 ?_;clear g0
 refine wpAny_newFunctionEnv hcell (by intro y hy;simp at hy) (fun h₁ hns₁ hsb₁=>?_) hkind
 have below : ∀ b o,s₃.heap.get? b = some o -> b ≠ s₃.heap.objs.size:=fun b o e=>Nat.ne_of_lt (Heap.lt_size e)
 have old : ∀ b o,s₃.heap.get? b = some o -> h₁.get? b = some o:=fun b o e=>hsb₁.extBut b o (below b o e) (Heap.get?_push_of_some _ e)
 have hC₀ : h₀.get? s₃.heap.objs.size = none:=by
  cases e : h₀.get? s₃.heap.objs.size with
  | none=>rfl
  | some o'=>exact absurd (Heap.lt_size (F.keep _ _ e)) (Nat.lt_irrefl _)
 have hCL : s₃.heap.objs.size ≠ L:=Ne.symm (Nat.ne_of_lt F.ns.lt)
 refine bc fun g0=>?_;obtain ⟨oC,heC,hoC⟩:=ns_obj hns₁;refine g0 ?_;clear g0
 have hin : In2 h₀ L m s₃.heap.objs.size (fun _=>none) D oD news h₁:=by
  refine ⟨F.keeps old,⟨oC,hoC,fun p hp=>?_⟩,Ne.symm (below _ _ (N _ (.head _)).1),fun p hp=>⟨below _ _ (N p (.tail _ hp)).1,hD p hp⟩⟩
  refine bc fun g0=>?_;rcases List.mem_cons.mp hp with rfl | hp <;> (refine g0 ?_;clear g0)
  ·exact ⟨heC,hCL,hC₀⟩
  ·exact ⟨old _ _ (N p hp).1,(N p hp).2⟩
 refine codeAny_mono (hc _ h₁ _ hin (Heap.lt_size (N _ (.head _)).1) (fun p hp=>Heap.lt_size (N p (.tail _ hp)).1) hC₀) fun r s' hr=>?_
 cases r with
 | error e=>exact hr.elim
 | ok f =>
  refine bc fun g0=>?_;obtain ⟨m₂,oD',news',h',tk',gn',rfl,hin',hf⟩:=hr;refine g0 ?_;clear g0
  have:=fin s₃ _ _ _ _ _ _ _ _ hin' hf
  revert this
  unfold compPost
  cases use <;> exact id
theorem comp_eval {e : PySem.Expr} {scope : Scope} {pos : Pos} {env : Env} {newAcc first : Sem Value} {g : Comprehension} {gs : List Comprehension} {cl : List (Str × Addr)} {Q : Value -> Shared -> Prop}
  (hcl : clausesOf e = g :: gs) (hs : ∀ x,foldedSetIterable g.iter env x = pure x) (hclos : closureFor scope env = pure cl)
  (hkind : scope.kind = .function) (hnames : ∀ x ∈ scope.names,x.2 = .local -> scope.names.lookup x.1 = some .local) (hcell : ∀ y ∈ scope.names,y.2 ≠ .cell)
  (h : wpAny (model prog w) A first (fun x s₁=>wpAny (model prog w) A (pyIter x) (fun it s₂=>wpAny (model prog w) A newAcc (fun acc s₃=>CompIn prog w A h₀ L m e scope cl env
   (fun D oD news s'=>∀ h'',Fr h₀ L h'' m -> News h₀ L h'' ((D,oD) :: news) -> Q (.ref D) { s' with heap:=h'' }) it acc s₃) NoE s₂) NoE s₁) NoE s) :
  wpAny (model prog w) A (comprehension e scope env pos newAcc false first none) Q NoE s :=
 comp_walk hcl hs hclos hkind hnames hcell (Fin:=fun _ D oD news s'=>∀ h'',Fr h₀ L h'' m -> News h₀ L h'' ((D,oD) :: news) -> Q (.ref D) { s' with heap:=h'' }) h
  fun s₃ C m₂ D oD news h' tk' gn' hin hf=>⟨m₂,hin.ns,fun h'' hs''=>hf h'' (hin.leave hs'').1 (hin.leave hs'').2⟩
theorem comp_store {e : PySem.Expr} {y : Str} {py : Pos} {scope : Scope} {pos : Pos} {env : Env} {newAcc first : Sem Value} {g : Comprehension} {gs : List Comprehension} {cl : List (Str × Addr)} {Q : Value -> Shared -> Prop}
  (hcl : clausesOf e = g :: gs) (hs : ∀ x,foldedSetIterable g.iter env x = pure x) (hclos : closureFor scope env = pure cl)
  (hkind : scope.kind = .function) (hnames : ∀ x ∈ scope.names,x.2 = .local -> scope.names.lookup x.1 = some .local) (hcell : ∀ y ∈ scope.names,y.2 ≠ .cell)
  (hLe : env.locals = L) (hy : env.kindOf y = some .local) (hp : (env.scope.kind == .class || (env.scope.kind == .module && env.locals != env.globals)) = false)
  (h : wpAny (model prog w) A first (fun x s₁=>wpAny (model prog w) A (pyIter x) (fun it s₂=>wpAny (model prog w) A newAcc (fun acc s₃=>CompIn prog w A h₀ L m e scope cl env
   (fun D oD news s'=>∀ h'' tk,Fr h₀ L h'' (fun z=>if z = y then some (.ref D) else m z) -> News h₀ L h'' ((D,oD) :: news) -> Q .none { s' with heap:=h'',toks:=tk }) it acc s₃) NoE s₂) NoE s₁) NoE s) :
  wpAny (model prog w) A (comprehension e scope env pos newAcc false first (some (assign (.Name y py) env))) Q NoE s:=by
 subst hLe
 refine comp_walk hcl hs hclos hkind hnames hcell (Fin:=fun _ D oD news s'=>∀ h'' tk,Fr h₀ env.locals h'' (fun z=>if z = y then some (.ref D) else m z) -> News h₀ env.locals h'' ((D,oD) :: news) -> Q .none { s' with heap:=h'',toks:=tk }) h
  fun s₃ C m₂ D oD news h' tk' gn' hin hf=>?_
 show wpAny _ A (assign (.Name y py) env (.ref D)) _ _ _
 have F':=hin.F
 refine bc fun g0=>?_;obtain ⟨oC,hC,N'⟩:=hin.N;refine g0 ?_;clear g0
 have zC:=N' (C,oC) (.head _)
 refine wpAny_assign_Name (wpAny_storeName_local hy F'.ns (fun h₂ hn₂ hs₂=>?_) hp)
 have hL₀ : h₀.get? env.locals = none:=Heap.get?_none_of_le F'.above
 have F₂ : Fr h₀ env.locals h₂ (fun z=>if z = y then some (.ref D) else m z):=⟨hn₂,fun b o e=>hs₂.extBut b o (fun q=>by rw [q,hL₀] at e;cases e) (F'.keep b o e),F'.above⟩
 refine ⟨m₂,hin.ns.sameBut hs₂ zC.2.1,fun h'' hs''=>hf h'' _ (F₂.change hs'' zC.2.1 zC.2.2) fun p hp=>?_⟩
 have z:=N' p (.tail _ hp)
 refine ⟨hs''.extBut _ _ ?_ (hs₂.extBut _ _ z.2.1 z.1),z.2⟩
 refine bc fun g0=>?_;rcases List.mem_cons.mp hp with rfl | hp <;> (refine g0 ?_;clear g0)
 ·exact Ne.symm hin.ne
 ·exact (hin.off p hp).1
end
section
variable {prog : Program} {w : World} {A : Around} {R : Result -> Shared -> Prop} {s s₁ : Shared} {h₀ : Heap} {L C D I : Addr} {m m₂₀ : Str -> Option Value} {oD₀ : Obj} {led₀ news : Led}
theorem start_walk {e target iter : PySem.Expr} {ifs : List PySem.Expr} {gens : List Comprehension} {depth : Nat} {acc : Value} {env : Env} {tail : Sem Fin} {fp : List Addr} {n : Nat} {P : Nat -> Value -> Prop} {St : Nat -> Heap -> Prop} {S : Led -> Prop}
  (hcl : clausesOf e = gens) (hg : gens[depth]? = some ⟨target,iter,ifs,0⟩)
  (hf : (Code.compStart e depth (.ref I) acc env).isFrame = false) (hq1 : (Code.compStart e depth (.ref I) acc env).quiet = true) (hw1 : (Code.compStart e depth (.ref I) acc env).weight = 0) (hu1 : (Code.compStart e depth (.ref I) acc env).cUnits = 0)
  (hframe : (Code.compLoop e depth (.ref I) acc env).isFrame = false) (hq : (Code.compLoop e depth (.ref I) acc env).quiet = true) (hw : (Code.compLoop e depth (.ref I) acc env).weight = 0) (hu : (Code.compLoop e depth (.ref I) acc env).cUnits = 0)
  (ht : compTurn e depth (.ref I) acc env = (do
   standAt iter.pos
   match <- pyNext (.ref I) with
   | none=>pure (.done .next)
   | some v =>
    letOwnedTupleGo target (.ref I) v
    assign target env v
    let ok <- tests ifs env
    if ok then tail else again (.compLoop e depth (.ref I) acc env)))
  (W : Walks prog w A I fp [I] n P St) (hIo : ∀ i h,St i h -> ∃ o,h.get? I = some o)
  (hSt : ∀ i h h' o nw,St i h -> h.get? I = some o -> h'.get? I = some o -> (∀ b o,h₀.get? b = some o -> h'.get? b = some o) -> News h₀ L h' nw -> S nw -> St i h')
  (J : Nat -> (Str -> Option Value) -> Obj -> Led -> Prop) (hIL : L ≠ I) (hI₀ : h₀.get? I = none) (hIC : C ≠ I) (hID : D ≠ I)
  (step : ∀ i v m₂ oD led h tk gn oI,AllBare gn -> i < n -> P i v -> J i m₂ oD led -> S led -> In2 h₀ L m C m₂ D oD ((I,oI) :: led) h -> (∀ p ∈ led,p.1 ≠ I) -> St (i + 1) h ->
   After prog w A target ifs env tail (.compLoop e depth (.ref I) acc env) (CEnd s h₀ L m C D I oI S (J (i + 1))) (.ref I) v { s with heap:=h,toks:=tk,gens:=gn })
  (done : ∀ m₂ oD led h tk gn,AllBare gn -> J n m₂ oD led -> S led -> In2 h₀ L m C m₂ D oD led h -> R (.ok .next) { s with heap:=h,toks:=tk,gens:=gn })
  (st0 : St 0 s.heap) (h0 : In2 h₀ L m C m₂₀ D oD₀ led₀ s.heap) (off0 : ∀ p ∈ led₀,p.1 ≠ I) (S0 : S led₀) (J0 : J 0 m₂₀ oD₀ led₀) (G0 : AllBare s.gens) :
  codeAny (model prog w) A (.compStart e depth (.ref I) acc env) R s:=by
 have loop:=loop_walk (R:=R) hframe hq hw hu ht W hIo hSt J hIL hI₀ hIC hID step done st0 h0 off0 S0 J0 G0
 exact start_of hcl hg hf hq1 hq hw1 hu1 loop (W.self 0 _ _ _ st0 ⟨rfl,loop⟩)
theorem iter_list {e target iter : PySem.Expr} {ifs : List PySem.Expr} {gens : List Comprehension} {depth : Nat} {acc : Value} {env : Env} {tail : Value -> Sem Fin} {its : Array Value} {ax : Addr} (hh : A.handled = none)
  (hcl : clausesOf e = gens) (hg : gens[depth]? = some ⟨target,iter,ifs,0⟩)
  (hc : ∀ it,(Code.compStart e depth it acc env).isFrame = false /\ (Code.compStart e depth it acc env).quiet = true /\ (Code.compStart e depth it acc env).weight = 0 /\ (Code.compStart e depth it acc env).cUnits = 0 /\
   (Code.compLoop e depth it acc env).isFrame = false /\ (Code.compLoop e depth it acc env).quiet = true /\ (Code.compLoop e depth it acc env).weight = 0 /\ (Code.compLoop e depth it acc env).cUnits = 0)
  (ht : ∀ it,compTurn e depth it acc env = (do
   standAt iter.pos
   match <- pyNext it with
   | none=>pure (.done .next)
   | some v =>
    letOwnedTupleGo target it v
    assign target env v
    let ok <- tests ifs env
    if ok then tail it else again (.compLoop e depth it acc env)))
  (J : Nat -> (Str -> Option Value) -> Obj -> Led -> Prop)
  (step : ∀ I i v m₂ oD led h tk gn oI,AllBare gn -> its[i]? = some v -> J i m₂ oD led -> SrcAt h₀ ax its led -> In2 h₀ L m C m₂ D oD ((I,oI) :: led) h -> (∀ p ∈ led,p.1 ≠ I) -> oI.cls = .type "list_iterator" ->
   After prog w A target ifs env (tail (.ref I)) (.compLoop e depth (.ref I) acc env) (CEnd s h₀ L m C D I oI (SrcAt h₀ ax its) (J (i + 1))) (.ref I) v { s with heap:=h,toks:=tk,gens:=gn })
  (done : ∀ m₂ oD led h tk gn,AllBare gn -> J its.size m₂ oD led -> SrcAt h₀ ax its led -> In2 h₀ L m C m₂ D oD led h -> R (.ok .next) { s with heap:=h,toks:=tk,gens:=gn })
  (h0 : In2 h₀ L m C m₂₀ D oD₀ led₀ s.heap) (S0 : SrcAt h₀ ax its led₀) (J0 : J 0 m₂₀ oD₀ led₀) (G0 : AllBare s.gens) :
  wpAny (model prog w) A (pyIter (.ref ax)) (fun it s'=>codeAny (model prog w) A (.compStart e depth it acc env) R s') NoE s:=by
 refine bc fun g0=>?_;obtain ⟨oC,hC,N⟩:=h0.N;refine g0 ?_;clear g0
 have Nl : News h₀ L s.heap led₀:=fun p hp=>N p (.tail _ (.tail _ hp))
 have hl:=S0.list h0.F.keep Nl
 have hlt : ax < s.heap.objs.size:=by obtain ⟨_,e,_⟩:=hl;exact Heap.lt_size e
 refine wpAny_pyIter_list hl ?_
 have up : ∀ b o,s.heap.get? b = some o -> (s.heap.push { cls:=.type "list_iterator",data:=.fields #[.ref ax,.int 0 0] }).get? b = some o:=fun b o e=>Heap.get?_push_of_some _ e
 have lt : ∀ p ∈ (C,oC) :: (D,oD₀) :: led₀,p.1 ≠ s.heap.objs.size:=fun p hp=>Nat.ne_of_lt (Heap.lt_size (N p hp).1)
 refine bc fun g0=>?_;obtain ⟨c1,c2,c3,c4,c5,c6,c7,c8⟩:=hc (.ref s.heap.objs.size);refine g0 ?_;clear g0
 refine start_walk hcl hg c1 c2 c3 c4 c5 c6 c7 c8 (ht _) (Walks.list hh s.heap.objs.size ax (Nat.ne_of_lt hlt) its) (fun i h st=>by obtain ⟨o,e,_⟩:=st.1;exact ⟨o,e⟩) list_st
  J (Nat.ne_of_lt h0.F.ns.lt) (next_is_new h0.F) (lt _ (.head _)) (lt _ (.tail _ (.head _))) ?_ done ⟨⟨_,Heap.get?_push_size _ rfl,rfl,rfl⟩,hl.push _⟩ ⟨h0.F.keeps up,⟨oC,hC,N.grown up⟩,h0.ne,h0.off⟩ (fun p hp=>lt _ (.tail _ (.tail _ hp))) S0 J0 G0
 intro i v m₂ oD led h tk gn oI hG hi hv hJ hS hin off hst
 refine step _ i v m₂ oD led h tk gn oI hG hv hJ hS hin off ?_
 refine bc fun g0=>?_;obtain ⟨o,ho,hc,_⟩:=hst.1
 obtain ⟨oC',_,N'⟩:=hin.N;refine g0 ?_;clear g0
 have:=(N' _ (.tail _ (.tail _ (.head _)))).1
 rw [ho] at this
 cases this
 exact hc
theorem first_walk {e target iter : PySem.Expr} {ifs : List PySem.Expr} {gens : List Comprehension} {scope : Scope} {cl : List (Str × Addr)} {env : Env} {tail : Addr -> Addr -> Value -> Sem Fin} {newAcc : Sem Value} {Acc0 : Obj -> Prop} {Fin : Addr -> Obj -> Led -> Shared -> Prop}
  {fp : List Addr} {n : Nat} {P : Nat -> Value -> Prop} {St : Nat -> Heap -> Prop} {S : Led -> Prop} {oI₀ : Obj}
  (hcl : clausesOf e = gens) (hg : gens[0]? = some ⟨target,iter,ifs,0⟩)
  (hc : ∀ it acc env,(Code.compStart e 0 it acc env).isFrame = false /\ (Code.compStart e 0 it acc env).quiet = true /\ (Code.compStart e 0 it acc env).weight = 0 /\ (Code.compStart e 0 it acc env).cUnits = 0 /\
   (Code.compLoop e 0 it acc env).isFrame = false /\ (Code.compLoop e 0 it acc env).quiet = true /\ (Code.compLoop e 0 it acc env).weight = 0 /\ (Code.compLoop e 0 it acc env).cUnits = 0)
  (ht : ∀ C D it,compTurn e 0 it (.ref D) (compEnvC scope cl C env) = (do
   standAt iter.pos
   match <- pyNext it with
   | none=>pure (.done .next)
   | some v =>
    letOwnedTupleGo target it v
    assign target (compEnvC scope cl C env) v
    let ok <- tests ifs (compEnvC scope cl C env)
    if ok then tail C D it else again (.compLoop e 0 it (.ref D) (compEnvC scope cl C env))))
  (hacc : AccNew prog w A h₀ L m newAcc Acc0)
  (W : Walks prog w A I fp [I] n P St) (hIo : ∀ i h,St i h -> ∃ o,h.get? I = some o)
  (hSt : ∀ i h h' o nw,St i h -> h.get? I = some o -> h'.get? I = some o -> (∀ b o,h₀.get? b = some o -> h'.get? b = some o) -> News h₀ L h' nw -> S nw -> St i h')
  (G0 : AllBare s.gens) (F : Fr h₀ L s.heap m) (N : News h₀ L s.heap ((I,oI₀) :: news)) (off : ∀ p ∈ news,p.1 ≠ I) (st0 : St 0 s.heap) (S0 : S news)
  (J : Addr -> Nat -> (Str -> Option Value) -> Obj -> Led -> Prop)
  (J0 : ∀ D oD,Acc0 oD -> (∀ p ∈ news,p.1 < D) -> J D 0 (fun _=>none) oD news)
  (step : ∀ C D i v m₂ oD led h tk gn oI,AllBare gn -> i < n -> P i v -> J D i m₂ oD led -> S led -> In2 h₀ L m C m₂ D oD ((I,oI) :: led) h -> (∀ p ∈ led,p.1 ≠ I) -> St (i + 1) h ->
   After prog w A target ifs (compEnvC scope cl C env) (tail C D (.ref I)) (.compLoop e 0 (.ref I) (.ref D) (compEnvC scope cl C env)) (CEnd s h₀ L m C D I oI S (J D (i + 1))) (.ref I) v { s with heap:=h,toks:=tk,gens:=gn })
  (done : ∀ D m₂ oD led h tk gn,AllBare gn -> J D n m₂ oD led -> S led -> Fin D oD led { s with heap:=h,toks:=tk,gens:=gn }) :
  wpAny (model prog w) A newAcc (fun acc s₃=>CompIn prog w A h₀ L m e scope cl env Fin (.ref I) acc s₃) NoE s:=by
 refine hacc s _ _ F N fun D oD h' tk' hA F' N' lt=>?_
 refine ⟨D,oD,(I,oI₀) :: news,rfl,F',N',fun p hp=>Nat.ne_of_lt (lt p hp),fun C h tk hin hDC ltC hC₀=>?_⟩
 have lI : I ≠ D:=Nat.ne_of_lt (lt _ (.head _))
 have lC : I ≠ C:=Nat.ne_of_lt (ltC _ (.head _))
 have NI:=N (I,oI₀) (.head _)
 refine bc fun g0=>?_;obtain ⟨c1,c2,c3,c4,c5,c6,c7,c8⟩:=hc (.ref I) (.ref D) (compEnvC scope cl C env)
 obtain ⟨oC,hC,NC⟩:=hin.N;refine g0 ?_;clear g0
 have Nn : News h₀ L h news:=fun p hp=>NC p (.tail _ (.tail _ (.tail _ hp)))
 refine start_walk (R:=fun r s'=>match r with | .ok _=>∃ m₂ oD' news' h' tk' gn',s' = { s with heap:=h',toks:=tk',gens:=gn' } /\ In2 h₀ L m C m₂ D oD' news' h' /\ Fin D oD' news' { s with heap:=h',toks:=tk',gens:=gn' } | .error _=>False) (s:={ s with heap:=h,toks:=tk })
  hcl hg c1 c2 c3 c4 c5 c6 c7 c8 (ht C D _) W hIo hSt (J D) (Ne.symm NI.2.1) NI.2.2 (Ne.symm lC) (Ne.symm lI) (fun i v m₂ oD led h tk gn oI hG hi hP hJ hS hin off hst=>step C D i v m₂ oD led h tk gn oI hG hi hP hJ hS hin off hst)
  (fun m₂ oD led h tk gn hG hJ hS hin=>⟨m₂,oD,led,h,tk,gn,rfl,hin,done D m₂ oD led h tk gn hG hJ hS⟩)
  (hSt 0 _ _ oI₀ news st0 NI.1 (NC _ (.tail _ (.tail _ (.head _)))).1 hin.F.keep Nn S0) ⟨hin.F,⟨oC,hC,fun p hp=>NC p ?_⟩,hin.ne,fun p hp=>hin.off p (.tail _ hp)⟩ off S0 (J0 D oD hA fun p hp=>lt p (.tail _ hp)) G0
 refine bc fun g0=>?_;rcases List.mem_cons.mp hp with rfl | hp <;> (refine g0 ?_;clear g0)
 ·exact .head _
 ·refine bc fun g0=>?_;rcases List.mem_cons.mp hp with rfl | hp <;> (refine g0 ?_;clear g0)
  ·exact .tail _ (.head _)
  ·exact .tail _ (.tail _ (.tail _ hp))
theorem first_list {e target iter : PySem.Expr} {ifs : List PySem.Expr} {gens : List Comprehension} {scope : Scope} {cl : List (Str × Addr)} {env : Env} {tail : Addr -> Addr -> Value -> Sem Fin} {newAcc : Sem Value} {Acc0 : Obj -> Prop} {Fin : Addr -> Obj -> Led -> Shared -> Prop}
  {its : Array Value} {ax : Addr} (hh : A.handled = none)
  (hcl : clausesOf e = gens) (hg : gens[0]? = some ⟨target,iter,ifs,0⟩)
  (hc : ∀ it acc env,(Code.compStart e 0 it acc env).isFrame = false /\ (Code.compStart e 0 it acc env).quiet = true /\ (Code.compStart e 0 it acc env).weight = 0 /\ (Code.compStart e 0 it acc env).cUnits = 0 /\
   (Code.compLoop e 0 it acc env).isFrame = false /\ (Code.compLoop e 0 it acc env).quiet = true /\ (Code.compLoop e 0 it acc env).weight = 0 /\ (Code.compLoop e 0 it acc env).cUnits = 0)
  (ht : ∀ C D it,compTurn e 0 it (.ref D) (compEnvC scope cl C env) = (do
   standAt iter.pos
   match <- pyNext it with
   | none=>pure (.done .next)
   | some v =>
    letOwnedTupleGo target it v
    assign target (compEnvC scope cl C env) v
    let ok <- tests ifs (compEnvC scope cl C env)
    if ok then tail C D it else again (.compLoop e 0 it (.ref D) (compEnvC scope cl C env))))
  (hacc : AccNew prog w A h₀ L m newAcc Acc0)
  (G0 : AllBare s.gens) (F : Fr h₀ L s.heap m) (N : News h₀ L s.heap news) (S0 : SrcAt h₀ ax its news)
  (J : Addr -> Nat -> (Str -> Option Value) -> Obj -> Led -> Prop)
  (J0 : ∀ D oD,Acc0 oD -> (∀ p ∈ news,p.1 < D) -> J D 0 (fun _=>none) oD news)
  (step : ∀ I C D i v m₂ oD led h tk gn oI,AllBare gn -> its[i]? = some v -> J D i m₂ oD led -> SrcAt h₀ ax its led -> In2 h₀ L m C m₂ D oD ((I,oI) :: led) h -> (∀ p ∈ led,p.1 ≠ I) -> oI.cls = .type "list_iterator" ->
   After prog w A target ifs (compEnvC scope cl C env) (tail C D (.ref I)) (.compLoop e 0 (.ref I) (.ref D) (compEnvC scope cl C env)) (CEnd s h₀ L m C D I oI (SrcAt h₀ ax its) (J D (i + 1))) (.ref I) v { s with heap:=h,toks:=tk,gens:=gn })
  (done : ∀ D m₂ oD led h tk gn,AllBare gn -> J D its.size m₂ oD led -> SrcAt h₀ ax its led -> Fin D oD led { s with heap:=h,toks:=tk,gens:=gn }) :
  wpAny (model prog w) A (pyIter (.ref ax)) (fun it s₂=>wpAny (model prog w) A newAcc (fun acc s₃=>CompIn prog w A h₀ L m e scope cl env Fin it acc s₃) NoE s₂) NoE s:=by
 have hl:=S0.list F.keep N
 have hlt : ax < s.heap.objs.size:=by obtain ⟨_,e,_⟩:=hl;exact Heap.lt_size e
 refine wpAny_pyIter_list hl ?_
 refine first_walk (s:={ s with heap:=s.heap.push { cls:=.type "list_iterator",data:=.fields #[.ref ax,.int 0 0] } }) hcl hg hc ht hacc (Walks.list hh s.heap.objs.size ax (Nat.ne_of_lt hlt) its) (fun i h st=>by obtain ⟨o,e,_⟩:=st.1;exact ⟨o,e⟩) list_st G0 (F.push _) (N.push F _)
  (fun p hp=>Nat.ne_of_lt (Heap.lt_size (N p hp).1)) ⟨⟨_,Heap.get?_push_size _ rfl,rfl,rfl⟩,hl.push _⟩ S0 J J0 ?_ done
 intro C D i v m₂ oD led h tk gn oI hG hi hv hJ hS hin off hst
 refine step _ C D i v m₂ oD led h tk gn oI hG hv hJ hS hin off ?_
 refine bc fun g0=>?_;obtain ⟨o,ho,hc,_⟩:=hst.1
 obtain ⟨oC',_,N'⟩:=hin.N;refine g0 ?_;clear g0
 have:=(N' _ (.tail _ (.tail _ (.head _)))).1
 rw [ho] at this
 cases this
 exact hc
end
section
variable {prog : Program} {w : World} {A : Around} {s : Shared} {h₀ : Heap} {L : Addr} {m : Str -> Option Value} {E : Value -> Shared -> Prop} {env : Env} {elt target iter : PySem.Expr} {ifs : List PySem.Expr} {gs : List Comprehension} {scope : Scope} {pos spos : Pos} {cl : List (Str × Addr)}
theorem eval_lc {Q : Value -> Shared -> Prop} (F₀ : Fr h₀ L s.heap m) (hs : ∀ x,foldedSetIterable iter env x = pure x) (hclos : closureFor scope env = pure cl)
  (hkind : scope.kind = .function) (hnames : (scope.names.all fun x=>x.2 != .local || scope.names.lookup x.1 == some .local) = true) (hcell : (scope.names.all fun y=>y.2 != .cell) = true)
  (h : wpAny (model prog w) A (eval iter env) (fun x s₁=>wpAny (model prog w) A (pyIter x) (fun it s₂=>wpAny (model prog w) A (newList []) (fun acc s₃=>CompIn prog w A h₀ L m (.ListComp elt (⟨target,iter,ifs,0⟩ :: gs) scope pos) scope cl env
   (fun D oD news s'=>∀ h'',Fr h₀ L h'' m -> News h₀ L h'' ((D,oD) :: news) -> Q (.ref D) { s' with heap:=h'' }) it acc s₃) NoE s₂) NoE s₁) NoE s) :
  wpAny (model prog w) A (eval (.ListComp elt (⟨target,iter,ifs,0⟩ :: gs) scope pos) env) Q E s:=by
 rw [eval_ListComp]
 refine noE (comp_eval (g:=⟨target,iter,ifs,0⟩) (gs:=gs) rfl hs hclos hkind (fun x hx hl=>?_) (fun y hy hc=>?_) h)
 ·have:=List.all_eq_true.mp hnames x hx
  simp only [hl,bne_self_eq_false,Bool.false_or,beq_iff_eq] at this
  exact this
 ·have:=List.all_eq_true.mp hcell y hy
  rw [hc] at this
  exact absurd this (by decide)
theorem asg_lc {Q : Flow -> Shared -> Prop} {y : Str} {py : Pos} (F₀ : Fr h₀ L s.heap m) (hs : ∀ x,foldedSetIterable iter env x = pure x) (hclos : closureFor scope env = pure cl)
  (hsw : swapsWith (.ListComp elt (⟨target,iter,ifs,0⟩ :: gs) scope pos) (some (.Name y py)) spos.line env = pure true)
  (hkind : scope.kind = .function) (hnames : (scope.names.all fun x=>x.2 != .local || scope.names.lookup x.1 == some .local) = true) (hcell : (scope.names.all fun y=>y.2 != .cell) = true)
  (hLe : env.locals = L) (hy : env.kindOf y = some .local) (hp : (env.scope.kind == .class || (env.scope.kind == .module && env.locals != env.globals)) = false)
  (h : wpAny (model prog w) A (eval iter env) (fun x s₁=>wpAny (model prog w) A (pyIter x) (fun it s₂=>wpAny (model prog w) A (newList []) (fun acc s₃=>CompIn prog w A h₀ L m (.ListComp elt (⟨target,iter,ifs,0⟩ :: gs) scope pos) scope cl env
   (fun D oD news s'=>∀ h'' tk,Fr h₀ L h'' (fun z=>if z = y then some (.ref D) else m z) -> News h₀ L h'' ((D,oD) :: news) -> Q .next { s' with heap:=h'',toks:=tk }) it acc s₃) NoE s₂) NoE s₁) NoE s) :
  wpAny (model prog w) A (exec (.Assign [.Name y py] (.ListComp elt (⟨target,iter,ifs,0⟩ :: gs) scope pos) spos) env) Q E s:=by
 rw [exec_Assign_Name_used _ _ _ _ hsw]
 refine noE (wpAny_bind (wpAny_standAt (wpAny_bind ?_)))
 show wpAny _ A (do let _ <- comprehension (.ListComp elt (⟨target,iter,ifs,0⟩ :: gs) scope pos) scope env _ (newList []) false (eval iter env) (some (assign (.Name y py) env))) _ _ s
 refine wpAny_bind (wpAny_mono (comp_store (Q:=fun _ s'=>Q .next s') (g:=⟨target,iter,ifs,0⟩) (gs:=gs) rfl hs hclos hkind (fun x hx hl=>?_) (fun y hy hc=>?_) hLe hy hp h) (fun _ s' hq=>wpAny_pure (wpAny_pure hq)) fun _ _ e=>e)
 ·have:=List.all_eq_true.mp hnames x hx
  simp only [hl,bne_self_eq_false,Bool.false_or,beq_iff_eq] at this
  exact this
 ·have:=List.all_eq_true.mp hcell y hy
  rw [hc] at this
  exact absurd this (by decide)
section
variable {C D I : Addr} {m₂ : Str -> Option Value} {oD : Obj} {led : Led} {h₁ : Heap}
theorem CEnd.same {oI oC oD₁ : Obj} {S : Led -> Prop} {Jn : (Str -> Option Value) -> Obj -> Led -> Prop} {h : Heap} {tk : Nat} {gn : Array GenState} {m₂ m₃ : Str -> Option Value} (hin : In2 h₀ L m C m₃ D oD₁ ((I,oI) :: led) h₁) (off : ∀ p ∈ led,p.1 ≠ I) (hC : NsObj oC m₂)
  (F : Fr h₀ L h m) (N : News h₀ L h ((C,oC) :: (D,oD) :: (I,oI) :: led)) (hS : S led) (hJ : Jn m₂ oD led) (hg : AllBare gn) : CEnd s h₀ L m C D I oI S Jn { s with heap:=h,toks:=tk,gens:=gn } :=
 ⟨h,tk,gn,m₂,oD,led,rfl,hg,⟨F,⟨oC,hC,N⟩,hin.ne,hin.off⟩,off,hS,hJ⟩
end
end
end G
end
section
open PyProof.Rows.LCg (NsObj lst Off3 SrcAt fr_but news_but ns_obj list_st range_walks range_st)
section
variable {prog : Program} {w : World} {A : Around} {E : Value -> Shared -> Prop} {s : Shared} {h₀ : Heap} {L C D I T : Addr} {m m₂ : Str -> Option Value} {oD oI : Obj} {led : Led}
theorem in2_assign2 {scope : Scope} {cl : List (Str × Addr)} {env : Env} {a b : Str} {pa pb tp : Pos} {kk : Nat} {x y : Value} {Q : Unit -> Shared -> Prop} (hin : In2 h₀ L m C m₂ D oD led s.heap) (hh : A.handled = none) (ht : s.heap.IsTuple T #[x,y])
  (ha : (compEnvC scope cl C env).kindOf a = some .local) (hb : (compEnvC scope cl C env).kindOf b = some .local) (hp : scope.kind = .function)
  (h : ∀ h' tk,In2 h₀ L m C (fun z=>if z = b then some y else if z = a then some x else m₂ z) D oD led h' -> Q () { s with heap:=h',toks:=tk }) :
  wpAny (model prog w) A (assign (.Tuple [.Name a pa,.Name b pb] kk tp) (compEnvC scope cl C env) (.ref T)) Q E s:=by
 refine kcp_assign (env:=compEnvC scope cl C env) hh ht ha hb (by simp [compEnvC,relabel,hp]) hin.ns fun h' tk hn' hk'=>h h' tk ?_
 obtain ⟨oC,hC,N⟩:=hin.N
 have zC:=N (C,oC) (.head _)
 obtain ⟨oC',heC,hoC⟩:=ns_obj hn'
 refine ⟨⟨hin.F.ns.at' fun o e=>hk' _ o (Ne.symm zC.2.1) e,fun b o e=>hk' b o (fun q=>by have z:=zC.2.2;rw [show b = C from q] at e;rw [e] at z;cases z) (hin.F.keep b o e),hin.F.above⟩,⟨oC',hoC,fun p hp=>?_⟩,hin.ne,hin.off⟩
 rcases List.mem_cons.mp hp with rfl | hp
 ·exact ⟨heC,zC.2⟩
 ·have z:=N p (.tail _ hp)
  refine ⟨hk' _ _ ?_ z.1,z.2⟩
  rcases List.mem_cons.mp hp with rfl | hp
  ·exact Ne.symm hin.ne
  ·exact (hin.off p hp).1
theorem letOwned_list {elts : List PySem.Expr} {k : Nat} {pos : Pos} {v : Value} {Q : Unit -> Shared -> Prop} (hI : s.heap.get? I = some oI) (hc : oI.cls = .type "list_iterator") (h : Q () s) :
  wpAny (model prog w) A (letOwnedTupleGo (.Tuple elts k pos) (.ref I) v) Q E s:=by
 unfold letOwnedTupleGo
 cases v with
 | ref a =>
  refine wpAny_bind (wpAny_load hI ?_)
  rw [hc]
  split
  ·rename_i n vs e1 e2
   cases e1
   rw [if_neg (by simp)]
   exact wpAny_pure h
  ·exact wpAny_pure h
 | _=>exact wpAny_pure h
end
end
section
open PyProof.Rows.LCg (NsObj lst Off3 SrcAt fr_but news_but ns_obj list_st range_walks range_st)
section
variable {prog : Program} {w : World} {A : Around} {E : Value -> Shared -> Prop} {s : Shared} {D : Addr} {oD : Obj} {S : Int -> Bool} {n : Nat} {k : Int} {t : Tok}
theorem add_I {Q : Value -> Shared -> Prop} (ho : s.heap.get? D = some oD) (hI : SetI prog w oD S n) (hroom : n + 1 < scanBound)
  (h : ∀ h' o',Heap.SameBut D s.heap h' -> h'.get? D = some o' -> SetI prog w o' (fun k'=>S k' || decide (k' = k)) (if S k then n else n + 1) -> Q .none { s with heap:=h',toks:=s.toks + 1 }) :
  wpAny (model prog w) A (call (.builtin "set.add") [.ref D,.int k t]) Q E s:=by
 refine wpAny_call_entry F.slot_set_add ⟨_,ho,hI.1.1⟩ F.entry_set_add ?_ (F.args_set_add_2 _ _)
 show wpAny _ _ (setAdd D (.int k t) >>= _) _ _ _
 unfold setAdd
 refine wpAny_bind (wpAny_holding (wpAny_bind ((intKind prog w).pyHash (intKind_is _ _ _ _) ?_)))
 refine setAddI (s:={ s with toks:=s.toks + 1 }) (intKind_is _ _ _ _) rfl ho hI hroom fun h' o' hs hg hI'=>?_
 exact wpAny_pure ⟨_,rfl,h h' o' hs hg hI'⟩
theorem accSet {h₀ : Heap} {L : Addr} {m : Str -> Option Value} : AccNew prog w A h₀ L m (newSet (.type "set")) (fun oD=>SetI prog w oD (fun _=>false) 0):=fun s₂ news₂ Q F N h =>
 newSetI fun o hI=>h _ _ _ s₂.toks hI (F.push _) (N.push F _ (hfree:=by obtain ⟨hex,es,ep,t,hd,_⟩:=hI;obtain ⟨c,d,dt,sl⟩:=o;dsimp only at hd;subst hd;rfl)) fun p hp=>Heap.lt_size (N p hp).1
end
section
variable {prog : Program} {w : World} {A : Around} {R : Result -> Shared -> Prop} {s : Shared} {h₀ : Heap} {L C D I : Addr} {m m₂₀ : Str -> Option Value} {oD₀ : Obj} {led₀ : Led}
theorem iter_range {e target iter : PySem.Expr} {ifs : List PySem.Expr} {gens : List Comprehension} {depth : Nat} {acc : Value} {env : Env} {tail : Value -> Sem Fin} {r : Addr} {a b : Int} {n : Nat} {t u v : Tok} (hh : A.handled = none)
  (hcl : clausesOf e = gens) (hg : gens[depth]? = some ⟨target,iter,ifs,0⟩)
  (hc : ∀ it,(Code.compStart e depth it acc env).isFrame = false /\ (Code.compStart e depth it acc env).quiet = true /\ (Code.compStart e depth it acc env).weight = 0 /\ (Code.compStart e depth it acc env).cUnits = 0 /\
   (Code.compLoop e depth it acc env).isFrame = false /\ (Code.compLoop e depth it acc env).quiet = true /\ (Code.compLoop e depth it acc env).weight = 0 /\ (Code.compLoop e depth it acc env).cUnits = 0)
  (ht : ∀ it,compTurn e depth it acc env = (do
   standAt iter.pos
   match <- pyNext it with
   | none=>pure (.done .next)
   | some v =>
    letOwnedTupleGo target it v
    assign target env v
    let ok <- tests ifs env
    if ok then tail it else again (.compLoop e depth it acc env)))
  (hr : IsRange s.heap r a b 1 t u v) (hsm : Builtin.Range.small a b 1 = true) (hn : Builtin.Range.rangeSize a b 1 = ((n : Nat) : Int))
  (J : Nat -> Obj -> Led -> Prop)
  (step : ∀ I i v m₂ oD led h tk oI,i < n -> (∃ t,v = .int (a + (i : Int)) t) -> J i oD led -> In2 h₀ L m C m₂ D oD ((I,oI) :: led) h -> (∀ p ∈ led,p.1 ≠ I) ->
   After prog w A target ifs env (tail (.ref I)) (.compLoop e depth (.ref I) acc env) (CEnd s h₀ L m C D I oI (fun _=>True) (J (i + 1))) (.ref I) v { s with heap:=h,toks:=tk })
  (done : ∀ m₂ oD led h tk,J n oD led -> In2 h₀ L m C m₂ D oD led h -> R (.ok .next) { s with heap:=h,toks:=tk })
  (h0 : In2 h₀ L m C m₂₀ D oD₀ led₀ s.heap) (J0 : J 0 oD₀ led₀) :
  wpAny (model prog w) A (pyIter (.ref r)) (fun it s'=>codeAny (model prog w) A (.compStart e depth it acc env) R s') NoE s:=by
 refine bc fun g0=>?_;obtain ⟨oC,hC,N⟩:=h0.N;refine g0 ?_;clear g0
 refine wpAny_pyIter_range hr hsm ?_
 have up : ∀ b' o,s.heap.get? b' = some o -> (s.heap.push { cls:=.type "range_iterator",data:=.fields #[rawInt a,rawInt (Builtin.Range.rangeSize a b 1),rawInt 1] }).get? b' = some o:=fun b o e=>Heap.get?_push_of_some _ e
 have lt : ∀ p ∈ (C,oC) :: (D,oD₀) :: led₀,p.1 ≠ s.heap.objs.size:=fun p hp=>Nat.ne_of_lt (Heap.lt_size (N p hp).1)
 refine bc fun g0=>?_;obtain ⟨c1,c2,c3,c4,c5,c6,c7,c8⟩:=hc (.ref s.heap.objs.size);refine g0 ?_;clear g0
 refine start_walk (S:=fun _=>True) hcl hg c1 c2 c3 c4 c5 c6 c7 c8 (ht _) (range_walks hh a n) (fun i h st=>⟨_,st⟩) range_st
  J (Nat.ne_of_lt h0.F.ns.lt) (next_is_new h0.F) (lt _ (.head _)) (lt _ (.tail _ (.head _))) ?_ (fun m₂ oD led h tk hJ _ hin=>done m₂ oD led h tk hJ hin) (by show IsRangeIter _ _ _ _ _;rw [hn];simpa using Heap.get?_push_size _ rfl) ⟨h0.F.keeps up,⟨oC,hC,N.grown up⟩,h0.ne,h0.off⟩ (fun p hp=>lt _ (.tail _ (.tail _ hp))) trivial J0
 intro i v m₂ oD led h tk oI hi hv hJ hS hin off hst
 exact step _ i v m₂ oD led h tk oI hi hv hJ hin off
end
end
section
open PySem.Builtin PySem.Builtin.Str
section
variable {prog : Program} {w : World} {A : Around} {E : Value -> Shared -> Prop} {s : Shared} {t u : Tok} {Q : Value -> Shared -> Prop}
theorem slice_litK {h₀ : Heap} {L : Addr} {m : Str -> Option Value} {news : Led} {l r : List Nat} {ua ub : Tok} {i j : Int} {value slice : PySem.Expr} (F : Fr h₀ L s.heap m) (N : News h₀ L s.heap news)
  (h0 : (decide (0 <= i) && decide (i <= j) && decide (j <= l.length) && decide (l.length <= 1000)) = true) (hr : (l.drop i.toNat).take (j - i).toNat = r)
  (hs : subscripted slice false (.str ⟨l.toArray⟩ t) (.ref s.heap.objs.size) = operate [.ref s.heap.objs.size,.str ⟨l.toArray⟩ t] (getItem (.str ⟨l.toArray⟩ t) (.ref s.heap.objs.size)))
  (ht : ∀ r,letTemporaryGo value (.str ⟨l.toArray⟩ t) r = pure ())
  (h : ∀ t' h' k,Fr h₀ L h' m -> News h₀ L h' news -> Q (.str ⟨r.toArray⟩ t') { s with heap:=h',toks:=k }) :
  wpAny (model prog w) A (subscriptTail value slice (.str ⟨l.toArray⟩ t) (.ref s.heap.objs.size)) Q E { s with heap:=s.heap.push { cls:=.type "slice",data:=.fields #[.int i ua,.int j ub,.none] } }:=by
 simp only [Bool.and_eq_true,decide_eq_true_eq] at h0
 refine slice_strN_ss F N (fun h' t' k F' N'=>?_) hs ht (by rw [sizeLine_eq];show l.length <= _;exact o705 h0)
 rw [eq_of_beq (slice_closes (x:=⟨l.toArray⟩) (i:=i) (j:=j) ⟨h0.1.1.1,h0.1.1.2,h0.1.2⟩)]
 show Q (.str ⟨((l.drop i.toNat).take (j - i).toNat).toArray⟩ t') _
 rw [hr]
 exact h _ _ _ F' N'
theorem occ_some (x : Str) (c n : Nat) (h : c ∈ x.cps.toList) (hn : n = 1) : (occurrences x ⟨#[c]⟩ 0 x.length n).isEmpty = false:=by
 obtain ⟨i,hi⟩:=List.mem_iff_getElem?.mp h
 obtain rfl : n = 1:=hn
 have e:=(StrLaws.found_iff x ⟨#[c]⟩).mpr ⟨i,(StrLaws.subAt_one x c i).mpr hi⟩
 simpa using e
theorem in_lit {l : List Nat} {y : Str} {c : Nat} (hy : y = ⟨#[c]⟩) (hc : c ∈ l) (h : Q (.bool true) s) : wpAny (model prog w) A (compareOp .In (.str y u) (.str ⟨l.toArray⟩ t)) Q E s:=by
 subst hy
 refine in_str ?_
 rw [occ_some ⟨l.toArray⟩ c 1 hc rfl]
 exact h
theorem notin_lit {l : List Nat} {y : Str} {c : Nat} (hy : y = ⟨#[c]⟩) (hc : c ∈ l) (h : Q (.bool false) s) : wpAny (model prog w) A (compareOp .NotIn (.str y u) (.str ⟨l.toArray⟩ t)) Q E s:=by
 subst hy
 refine notIn_str ?_
 rw [occ_some ⟨l.toArray⟩ c 1 hc rfl]
 exact h
end
theorem occ1 (x a b : Nat) : occurrences ⟨#[61,x,91,a,45,b,93]⟩ ⟨#[45]⟩ 4 6 1 = [4]:=by
 rw [StrLaws.occ_eq]
 simp [StrLaws.occBody,subAt,List.range',PySem.Str.length]
theorem occ2 (x a b : Nat) : occurrences ⟨#[61,x,91,a,45,b,93]⟩ ⟨#[45]⟩ 7 6 1 = []:=by
 rw [StrLaws.occ_eq]
 rfl
theorem occ3 (a b c d : Nat) : occurrences ⟨#[61,91,a,45,b,93,91,c,45,d,93]⟩ ⟨#[45]⟩ 3 5 1 = [3]:=by
 rw [StrLaws.occ_eq]
 simp [StrLaws.occBody,subAt,List.range',PySem.Str.length]
theorem occ4 (a b c d : Nat) : occurrences ⟨#[61,91,a,45,b,93,91,c,45,d,93]⟩ ⟨#[45]⟩ 6 5 1 = []:=by
 rw [StrLaws.occ_eq]
 rfl
theorem occ5 (a b c d : Nat) : occurrences ⟨#[61,91,a,45,b,93,91,c,45,d,93]⟩ ⟨#[45]⟩ 8 10 1 = [8]:=by
 rw [StrLaws.occ_eq]
 simp [StrLaws.occBody,subAt,List.range',PySem.Str.length]
theorem occ6 (a b c d : Nat) : occurrences ⟨#[61,91,a,45,b,93,91,c,45,d,93]⟩ ⟨#[45]⟩ 11 10 1 = []:=by
 rw [StrLaws.occ_eq]
 rfl
theorem fArgs4 (a b c d : Value) : argsOk "str.find" ⟨[a,b,c,d],[]⟩:=by
 unfold argsOk;rw [signature?_of (id := "str.find") (n:=['d','n','i','f']) (o:=['r','t','s']) (by kernel_rfl) PySem.F.owner_str];kernel_rfl
theorem gives_find4 (x y : Str) (i j : Int) (t u v z : Tok) : Gives («str.find» ⟨[.str x t,.str y u,.int i v,.int j z],[]⟩) (.int (match occurrences x y (fromIndex x.length i) (min (fromIndex x.length j) x.length) 1 with | k :: _=>(k : Int) | []=>-1)):=by
 show Gives (match occurrences x y (fromIndex x.length i) (min (fromIndex x.length j) x.length) 1 with | k :: _=>retInt k | []=>(do rule "str.find.not-found";retInt (-1))) _
 cases occurrences x y (fromIndex x.length i) (min (fromIndex x.length j) x.length) 1 with
 | nil=>exact .rule (.of_eq rfl)
 | cons k _=>exact .of_eq rfl
theorem truthy_lit {prog : Program} {w : World} {A : Around} {E : Value -> Shared -> Prop} {s : Shared} {x : Str} {t : Tok} {Q : Bool -> Shared -> Prop} (b : Bool) (n : Nat) (hn : x.length = n) (hfit : (decide (n < 100000)) = true) (hb : (n != 0) = b) (h : ∀ k,Q b { s with toks:=k }) :
  wpAny (model prog w) A (truthy (.str x t)) Q E s:=by
 have hf:=of_decide_eq_true hfit
 refine P.truthy_str (by omega) ?_
 have e : ((x.length : Int) != 0) = b:=by
  rw [hn,<- hb]
  cases n <;> simp
  exact o706
 rw [e]
 exact h _
section
variable {prog : Program} {w : World} {A : Around} {E : Value -> Shared -> Prop} {s : Shared} {t u v z : Tok} {Q : Value -> Shared -> Prop}
theorem find4 {x y y' : Str} {i j : Int} {lo hi : Nat} {r : List Nat} (hy : y = y') (h1 : fromIndex x.length i = lo) (h2 : min (fromIndex x.length j) x.length = hi) (ho : occurrences x y' lo hi 1 = r) (h : ∀ t k,Q (.int (match r with | k :: _=>(k : Int) | []=>-1) t) { s with toks:=k }) :
  wpAny (model prog w) A (call (.builtin "str.find") [.str x t,.str y u,.int i v,.int j z]) Q E s:=by
 subst hy h1 h2 ho
 exact call_gives PySem.F.slot_str_find (typeIs_str _ _ _) PySem.F.entry_str_find (fArgs4 _ _ _ _) (gives_find4 x y i j t u v z) (h _ _)
theorem item_l {h₀ : Heap} {L D : Addr} {news : Led} {its : Array Value} {n : Nat} {k : Int} {x : Value} {value slice : PySem.Expr} (N : News h₀ L s.heap news) (hm : (D,listOf its n) ∈ news) (h0 : (decide (0 <= k) && decide (k < 1000)) = true) (hv : its[k.toNat]? = some x) (h : Q x s)
  (hs : subscripted slice false (.ref D) (.int k u) = operate [.ref D,.int k u] (getItem (.ref D) (.int k u))) :
  wpAny (model prog w) A (subscriptTail value slice (.ref D) (.int k u)) Q E s:=by
 simp only [Bool.and_eq_true,decide_eq_true_eq] at h0
 exact tail_any (PySem.IsL.isList (n:=n) (N _ hm).1).typeIs slot_list_getitem.lookup (wpAny_getItem_list (PySem.IsL.isList (n:=n) (N _ hm).1) h0.1 (by omega) (by simpa using hv) h) hs
theorem item_last1 {value slice : PySem.Expr} {c : Nat} (hs : subscripted slice false (.str ⟨#[c]⟩ t) (.int (-1) u) = operate [.str ⟨#[c]⟩ t,.int (-1) u] (getItem (.str ⟨#[c]⟩ t) (.int (-1) u))) (h : ∀ t k,Q (.str ⟨#[c]⟩ t) { s with toks:=k }) :
  wpAny (model prog w) A (subscriptTail value slice (.str ⟨#[c]⟩ t) (.int (-1) u)) Q E s :=
 PyProof.Rows.tail_any (typeIs_str s _ t) slot_str_getitem.lookup (PyProof.Rows.getItem_str (by decide) (by rfl) (h _ _)) hs
theorem item_first1 {value slice : PySem.Expr} {c : Nat} (hs : subscripted slice false (.str ⟨#[c]⟩ t) (.int 0 u) = operate [.str ⟨#[c]⟩ t,.int 0 u] (getItem (.str ⟨#[c]⟩ t) (.int 0 u))) (h : ∀ t k,Q (.str ⟨#[c]⟩ t) { s with toks:=k }) :
  wpAny (model prog w) A (subscriptTail value slice (.str ⟨#[c]⟩ t) (.int 0 u)) Q E s :=
 PyProof.Rows.tail_any (typeIs_str s _ t) slot_str_getitem.lookup (PyProof.Rows.getItem_str (by decide) (by rfl) (h _ _)) hs
theorem one_lt' {a b : Nat} : ((⟨#[a]⟩ : Str).cps.toList < (⟨#[b]⟩ : Str).cps.toList) ↔ a < b:=by
 show List.Lex (· < ·) [a] [b] ↔ _
 constructor
 ·intro h
  cases h with
  | rel h=>exact h
  | cons h=>cases h
 ·exact .rel
theorem gt_one {a b : Nat} (hab : a <= b) (h : Q (.bool false) s) : wpAny (model prog w) A (compareOp .Gt (.str ⟨#[a]⟩ t) (.str ⟨#[b]⟩ u)) Q E s:=by
 refine P.gt_str ?_
 have e : decide ((⟨#[b]⟩ : Str).cps.toList < (⟨#[a]⟩ : Str).cps.toList) = false:=decide_eq_false fun h=>absurd (one_lt'.mp h) (by exact o707 hab)
 rw [e]
 exact h
end
end
section
inductive RefsOk : List Value -> Prop
 | nil : RefsOk []
 | cons (a t b u x) {r} : RefsOk r -> RefsOk (.int a t :: .int b u :: .ref x :: r)
theorem RefsOk.triples (l : List Value) (h : RefsOk l) : TriplesOk l:=by
 induction h with
 | nil=>trivial
 | cons a t b u x _ ih=>exact ih
theorem RefsOk.among {pos : Pos} {cv : Value} (l : List Value) (h : RefsOk l) (hc : codeAmong pos l = some cv) : ∃ c',cv = .ref c':=by
 induction h with
 | nil=>cases hc
 | cons a t b u x _ ih =>
  rw [codeAmong] at hc
  by_cases e : (a == pos.line && b == pos.col) = true
  ·rw [if_pos e] at hc;exact ⟨x,(Option.some.inj hc).symm⟩
  ·rw [if_neg e] at hc;exact ih hc
theorem RefsOk.snoc (a b : Int) (c : Addr) (l : List Value) (h : RefsOk l) : RefsOk (l ++ [rawInt a,rawInt b,.ref c]):=by
 induction h with
 | nil=>exact .cons _ _ _ _ _ .nil
 | cons a t b u x _ ih=>exact .cons _ _ _ _ _ ih
noncomputable def PsOk (ps : Array Value) : Prop:=RefsOk ps.toList
theorem PsOk.nil : PsOk #[]:=RefsOk.nil
theorem PsOk.snoc {ps : Array Value} (h : PsOk ps) (pos : Pos) (c : Addr) : PsOk (ps ++ #[rawInt pos.line,rawInt pos.col,.ref c]):=by
 have:=RefsOk.snoc pos.line pos.col c _ h
 simpa [PsOk,rawInt] using this
section
variable {M : Model} {A : Around} {E : Value -> Shared -> Prop} {s : Shared} {h₀ : Heap} {L a c P : Addr} {m mg mb : Str -> Option Value} {cn : Str} {cs : Scope} {ccd : Value} {cl : List (Str × Addr)} {news : List (Addr × Obj)} {g : Obj -> List (Addr × Obj)}
 {p : Program} {loose : List Str} {mean : ExcName -> Option Value} {name qual : Str} {params : Arguments} {body : PySem.Expr} {scope : Scope} {ps : Array Value} {pos : Pos} {firstLine : Nat} {clos : List (Str × Addr)}
theorem lam_k {Q : Value -> Shared -> Prop} (F : Fr h₀ L s.heap m) (N : News h₀ L s.heap news) (T : Top p loose mean mg mb h₀) (C : CodeHd h₀ c P) (hcd : ccd = .ref c) (U : UpdF P (tabObj ps) news g) (ht : PsOk ps)
  (hdef : defaultsOf params (envX cn cs L a ccd cl) = ([],[])) (hcl : closureFor scope (envX cn cs L a ccd cl) = pure clos)
  (h : ∀ f c' ctv h' tk ps',PsOk ps' -> Fr h₀ L h' m -> News h₀ L h' ((f,kla_obj "<lambda>" ((envX cn cs L a ccd cl).qual ++ "<lambda>") params body scope clos ((mg "__name__").getD .none) c' ctv) :: g (tabObj ps')) -> (∀ q ∈ news,q.1 < f) -> Q (.ref f) { s with heap:=h',toks:=tk }) :
  wpAny M A (eval (.Lambda params body scope pos) (envX cn cs L a ccd cl)) Q E s:=by
 refine bc fun g0=>?_;obtain ⟨own,rest,hnews,hgr,h1,h2⟩:=U.split;refine g0 ?_;clear g0
 refine kla_eval hdef ?_
 cases hf : codeAmong pos ps.toList with
 | none =>
  refine kla_nest F N T C hcd U (RefsOk.triples _ ht) hf hcl fun f c' oc vs t ctv h' tk F' N' _ _ hlt hcf=>?_
  refine h f c' ctv h' tk _ (ht.snoc pos c') F' (fun q hq=>N' q ?_) (fun q hq=>Nat.lt_trans (hlt q hq) hcf)
  refine bc fun g0=>?_;rcases List.mem_cons.mp hq with rfl | hq <;> (refine g0 ?_;clear g0)
  ·exact .head _
  ·exact .tail _ (.tail _ hq)
 | some cv =>
  refine bc fun g0=>?_;obtain ⟨c',rfl⟩:=RefsOk.among _ ht hf;refine g0 ?_;clear g0
  have hmem : (P,tabObj ps) ∈ news:=by rw [hnews];exact List.mem_append_right _ (.head _)
  refine kla_hit F N T C hcd hmem (RefsOk.triples _ ht) hf hcl fun f ctv h' tk F' N' hlt=>?_
  have e : g (tabObj ps) = news:=by rw [hgr,hnews]
  exact h f c' ctv h' tk ps ht F' (by rw [e];exact N') hlt
theorem gcode_k {Q : Value -> Shared -> Prop} {env : Env} {qualname : Str} (F : Fr h₀ L s.heap m) (N : News h₀ L s.heap news) (C : CodeHd h₀ c P) (hcd : env.code = .ref c) (U : UpdF P (tabObj ps) news g) (ht : PsOk ps)
  (h : ∀ c' h' tk ps',PsOk ps' -> Fr h₀ L h' m -> News h₀ L h' (g (tabObj ps')) -> (∀ b o,b ≠ P -> s.heap.get? b = some o -> h'.get? b = some o) -> Q (.ref c') { s with heap:=h',toks:=tk }) :
  wpAny M A (genexprCode env pos qualname scope) Q E s:=by
 refine bc fun g0=>?_;obtain ⟨own,rest,hnews,hgr,h1,h2⟩:=U.split;refine g0 ?_;clear g0
 subst hnews
 have hm:=N (P,tabObj ps) (List.mem_append_right _ (.head _))
 have C':=C.keeps F.keep
 have hok : s.heap.IsCode c P ps:=by
  refine bc fun g0=>?_;obtain ⟨o,vs,file,tf,flags,tg,inF,text,tt,e1,e2,e3,e4,e5,e6,e7,e8,e9,e10⟩:=C';refine g0 ?_;clear g0
  exact ⟨o,vs,file,tf,flags,tg,inF,text,tt,_,e1,e3,e5,e6,e7,e8,e9,hm.1,rfl,RefsOk.triples _ ht,e10⟩
 have htab : s.heap.TableAt c P ps:=by
  refine bc fun g0=>?_;obtain ⟨o,vs,file,tf,flags,tg,inF,text,tt,e1,e2,e3,e4,e5,e6,e7,e8,e9,e10⟩:=C';refine g0 ?_;clear g0
  exact ⟨⟨o,vs,e1,e2,e3,e4⟩,hm.1⟩
 cases hf : codeAmong pos ps.toList with
 | some cv =>
  refine bc fun g0=>?_;obtain ⟨c',rfl⟩:=RefsOk.among _ ht hf;refine g0 ?_;clear g0
  refine wpAny_genexprCode_hit hcd hok hf ?_
  exact h c' s.heap s.toks ps ht F (by rw [hgr];exact N) fun b o _ e=>e
 | none =>
  refine wpAny_genexprCodeX hcd hok htab hf fun c' h' tk hx _ _ _ _ htb _=>?_
  have old : ∀ b o,h₀.get? b = some o -> h'.get? b = some o:=fun b o e=>hx b o (fun q=>by rw [q,hm.2.2] at e;cases e) (F.keep b o e)
  refine h c' h' tk _ (ht.snoc pos c') ⟨F.ns.extBut hx hm.2.1.symm,old,F.above⟩ (fun q hq=>?_) fun b o hb e=>hx b o hb e
  rw [hgr] at hq
  refine bc fun g0=>?_;rcases List.mem_append.mp hq with hq | hq <;> (refine g0 ?_;clear g0)
  ·have n:=N q (List.mem_append_left _ hq)
   exact ⟨hx _ _ (h1 q hq) n.1,n.2⟩
  ·refine bc fun g0=>?_;rcases List.mem_cons.mp hq with rfl | hq <;> (refine g0 ?_;clear g0)
   ·exact ⟨htb.2,hm.2⟩
   ·have n:=N q (List.mem_append_right _ (.tail _ hq))
    exact ⟨hx _ _ (h2 q hq) n.1,n.2⟩
end
end
section
theorem passing_all (n : Nat) : passing (fun _=>true) n 0 = List.range n:=by
 unfold passing
 simp
theorem quiet_nil {prog : Program} {w : World} {A : Around} {cenv : Env} {E : Value -> Shared -> Prop} {s : Shared} :
  wpAny (model prog w) A (forIn ([] : List PySem.Expr) true fun c r=>if r = true then do let ok <- isTrue c cenv (eval c cenv);pure (ForInStep.yield ok) else pure (ForInStep.yield r)) (fun ok s₃=>ok = true /\ Keeps s s₃) E s:=by
 rw [List.forIn_nil]
 exact wpAny_pure ⟨rfl,s.heap,s.toks,rfl,fun _ _ e=>e⟩
section
variable {prog : Program} {w : World} {A : Around} {E : Value -> Shared -> Prop} {s : Shared} {h₀ : Heap} {L a c P D : Addr} {m mg mb : Str -> Option Value} {cn : Str} {cs : Scope} {ccd : Value} {cl cl2 : List (Str × Addr)} {news : List (Addr × Obj)} {g : Obj -> List (Addr × Obj)}
 {p : Program} {loose : List Str} {mean : ExcName -> Option Value} {scope : Scope} {ps : Array Value} {pos px : Pos} {elt iter : PySem.Expr} {x : Str} {its : Array Value} {k : Nat} {f : Nat -> Str}
noncomputable def JoinRdy (prog : Program) (w : World) (A : Around) (h₀ : Heap) (L : Addr) (m : Str -> Option Value) (nw : Led) (a : Addr) (n : Nat) (f : Nat -> Str) (s : Shared) : Prop :=
 ∀ (sep : Str) (t : Tok) (Q E : Value -> Shared -> Prop),JoinOk sep ((List.range n).map f) = true ->
  (∀ t' h' tk' g',AllBare g' -> Fr h₀ L h' m -> News h₀ L h' nw -> Q (.str (Txt.join sep ((List.range n).map f)) t') { s with heap:=h',toks:=tk',gens:=g' }) ->
  wpAny (model prog w) A (call (.builtin "str.join") [.str sep t,.ref a]) Q E s
theorem genexp_k {Q : Value -> Shared -> Prop} (F : Fr h₀ L s.heap m) (N : News h₀ L s.heap news) (T : Top p loose mean mg mb h₀) (C : CodeHd h₀ c P) (hcd : ccd = .ref c) (U : UpdF P (tabObj ps) news g) (ht : PsOk ps) (G : AllBare s.gens)
  (hh : A.handled = none) (hco : scope.isCoroutine = false) (hclos : closureFor scope (envX cn cs L a ccd cl) = pure cl2) (hcell : ∀ y ∈ scope.names,y.2 ≠ .cell) (h0 : scope.names.lookup (".0" : Str) = some NameKind.local)
  (hx : scope.names.lookup x = some .local) (hkind : scope.kind = .function) (hroom : A.depth < recursionLimit)
  (hD : (D,listOf its k) ∈ news) (hit : ∀ Q' : Value -> Shared -> Prop,Q' (.ref D) s -> wpAny (model prog w) A (eval iter (envX cn cs L a ccd cl)) Q' E s)
  (hits : ∀ (i : Nat) (v : Value),its[i]? = some v -> ∃ t,v = Value.str (f i) t) (hs : ∀ x,genFold iter (envX cn cs L a ccd cl) x = pure x) (hn : its.size <= 1000)
  (hE : ∀ (cd : Value) (C : Addr) (A' : Around) E' i t (s₂ : Shared) m₂,A'.handled = none -> i < its.size -> s₂.heap.Ns C m₂ -> m₂ x = some (.str (f i) t) ->
   wpAny (model prog w) A' (eval elt (genEnv scope cl2 C cd builtinsNs (envX cn cs L a ccd cl))) (fun y s₃=>(∃ t',y = Value.str (f i) t') /\ Keeps s₂ s₃) E' s₂)
  (h : ∀ q h' tk g' ps',PsOk ps' -> AllBare g' -> Fr h₀ L h' m -> News h₀ L h' (g (tabObj ps')) -> JoinRdy prog w A h₀ L m (g (tabObj ps')) q its.size f { s with heap:=h',toks:=tk,gens:=g' } -> Q (.ref q) { s with heap:=h',toks:=tk,gens:=g' }) :
  wpAny (model prog w) A (eval (.GeneratorExp elt [⟨.Name x px,iter,[],0⟩] scope pos) (envX cn cs L a ccd cl)) Q E s:=by
 refine bc fun g0=>?_;obtain ⟨own,rest,hnews,hgr,h1,h2⟩:=U.split;refine g0 ?_;clear g0
 have hDg:=(N _ hD).1
 have hl : s.heap.IsList D its:=⟨_,hDg,rfl,k,rfl⟩
 have hDlt : D < s.heap.objs.size:=Heap.lt_size hDg
 have hPm : (P,tabObj ps) ∈ news:=by rw [hnews];exact List.mem_append_right _ (.head _)
 have hPg:=(N _ hPm)
 have hPlt : P < s.heap.objs.size:=Heap.lt_size hPg.1
 have hDP : D ≠ P:=fun e=>by
  rw [e,hPg.1] at hDg
  have:=congrArg Obj.cls (Option.some.inj hDg)
  simp [tabObj] at this
 have hLlt : L < s.heap.objs.size:=F.ns.lt
 have hclt : cStatics < s.heap.objs.size:=let ⟨_,hn,_⟩:=T.nolimit.keeps F.keep;hn.lt
 refine wpAny_GeneratorExp_walksQ hh hco hclos hcell h0 hx hkind hroom (hit _ ?_) hs
 refine wpAny_pyIter_list hl ?_
 have F₂:=F.push { cls:=.type "list_iterator",data:=.fields #[.ref D,.int 0 0] }
 have N₂:=N.push F { cls:=.type "list_iterator",data:=.fields #[.ref D,.int 0 0] }
 refine ⟨T.nolimit.keeps F₂.keep,?_⟩
 have N₂' : News h₀ L (s.heap.push { cls:=.type "list_iterator",data:=.fields #[.ref D,.int 0 0] }) news:=fun q hq=>N₂ q (by first | exact hq | exact List.mem_cons_of_mem _ hq)
 refine gcode_k (s:={ s with heap:=s.heap.push { cls:=.type "list_iterator",data:=.fields #[.ref D,.int 0 0] } }) F₂ N₂' C hcd U ht ?_
 intro c' h₃ tk₃ ps' hps' F₃ N₃ hk₃
 refine bc fun g0=>?_;obtain ⟨bm,ob,b1,b2,b3,b4,b5,b6⟩:=T.bmain;refine g0 ?_;clear g0
 refine wpAny_builtinsFor (T.g.keeps F₃.keep) b1 b2 (F₃.keep _ _ b3) b4 b5 b6 ?_
 have hIg:=hk₃ _ _ (Nat.ne_of_gt hPlt) (Heap.get?_push_size s.heap (o:={ cls:=.type "list_iterator",data:=.fields #[.ref D,.int 0 0] }) rfl)
 have hIlt:=Heap.lt_size hIg
 have hDg₃:=hk₃ _ _ hDP (Heap.get?_push_of_some _ hDg)
 have hl₃ : h₃.IsList D its:=⟨_,hDg₃,rfl,k,rfl⟩
 refine ⟨s.heap.objs.size,[s.heap.objs.size,D],[s.heap.objs.size],its.size,_,_,fun _=>true,fun (i : Nat) (v : Value)=>∃ t,v = Value.str (f i) t,rfl,
  (fun A' hA=>Walks.list hA _ _ (Nat.ne_of_lt hDlt) its),⟨⟨_,hIg,rfl,rfl⟩,hl₃⟩,?_,T.nolimit.keeps F₃.keep,?_,?_,?_⟩
 ·intro b hb
  refine bc fun g0=>?_;rcases List.mem_cons.mp hb with rfl | hb <;> (refine g0 ?_;clear g0)
  ·exact hIlt
  ·refine bc fun g0=>?_;rcases List.mem_cons.mp hb with rfl | hb <;> (refine g0 ?_;clear g0)
   ·exact Heap.lt_size hDg₃
   ·cases hb
 ·intro hb
  refine bc fun g0=>?_;rcases List.mem_cons.mp hb with e | hb <;> (refine g0 ?_;clear g0)
  ·exact Nat.ne_of_lt hclt e
  ·cases hb
 ·intro href _
  exact ⟨fun A' E' i v s₂ m₂ _ _ _ _ _=>quiet_nil,fun A' E' i v s₂ m₂ hA hv _ hns hm _=>by
   refine bc fun g0=>?_;obtain ⟨t,rfl⟩:=hits i v hv;refine g0 ?_;clear g0
   have hi : i < its.size:=by
    refine bc fun g0=>?_;rcases Nat.lt_or_ge i its.size with hi | hi <;> (refine g0 ?_;clear g0)
    ·exact hi
    ·rw [Array.getElem?_eq_none hi] at hv;cases hv
   exact hE _ _ A' E' i t s₂ m₂ hA hi hns hm⟩
 ·intro q h₅ tk gs hgb hag hsz₅ hk₅ W hat
  have F₅:=F₃.keeps hk₅
  have N₅ : News h₀ L h₅ (g (tabObj ps')):=fun q hq=>⟨hk₅ _ _ (N₃ q hq).1,(N₃ q hq).2⟩
  have G₅ : AllBare (s.gens.push gs):=G.push hgb
  refine h q h₅ tk _ ps' hps' G₅ F₅ N₅ ?_
  intro sep t Q' E' hok hQ'
  have W:=W.in4_2
  rw [passing_all] at W
  refine SC.joinGen W (fun i s' st=>st.1.typeIs) hat ?_ List.mem_cons_self (fun i v hv=>let ⟨j,_,t,e⟩:=hv;⟨_,t,e⟩) ?_ ?_
  ·intro b hb
   show b < h₅.objs.size
   rw [hsz₅]
   refine bc fun g0=>?_;rcases List.mem_cons.mp hb with rfl | hb <;> (refine g0 ?_;clear g0)
   ·exact Nat.lt_succ_self _
   ·refine bc fun g0=>?_;rcases List.mem_cons.mp hb with rfl | hb <;> (refine g0 ?_;clear g0)
    ·exact Nat.lt_succ_of_lt hag
    ·exact Nat.lt_succ_of_lt (Nat.lt_trans (List.mem_range.mp hb) hag)
  ·intro s' lt hm hacc
   rw [List.length_range] at hacc
   have hl : lt.map (·.1) = (List.range its.size).map f:=by
    apply List.ext_getElem?
    intro j
    have hsz : lt.length = its.size:=by simpa [strValues] using hacc.1
    by_cases hj : j < its.size
    ·have hj' : j < lt.length:=hsz ▸ hj
     refine bc fun g0=>?_;obtain ⟨i,hi,u,hv⟩:=hacc.2 j (.str lt[j].1 lt[j].2) (by simp [strValues,List.getElem?_eq_getElem hj']);refine g0 ?_;clear g0
     rw [List.getElem?_range hj] at hi
     cases hi
     injection hv with h1 _
     simp [List.getElem?_eq_getElem hj',hj,h1]
    ·rw [List.getElem?_eq_none (by simpa [hsz] using Nat.le_of_not_lt hj),List.getElem?_eq_none (by simpa using Nat.le_of_not_lt hj)]
   rw [hl]
   have hwr : ∀ b ∈ h₃.objs.size :: [s.heap.objs.size],s.heap.objs.size <= b:=by
    intro b hb
    refine bc fun g0=>?_;rcases List.mem_cons.mp hb with rfl | hb <;> (refine g0 ?_;clear g0)
    ·exact Nat.le_of_lt hIlt
    ·refine bc fun g0=>?_;rcases List.mem_cons.mp hb with rfl | hb <;> (refine g0 ?_;clear g0)
     ·exact Nat.le_refl _
     ·cases hb
   refine ⟨hok,fun t' k'=>?_⟩
   have e : ({ s' with toks:=k' } : Shared) = { s with heap:=s'.heap,toks:=k',gens:=s'.gens }:=by
    have e1:=hm.drawn
    have e2:=hm.os
    cases s'
    simp only at e1 e2
    subst e1 e2
    rfl
   rw [e]
   refine hQ' t' s'.heap k' s'.gens (AllBare.movedS G₅ hm) (F₅.moved hm fun b hb=>Nat.lt_of_lt_of_le hLlt (hwr b hb)) fun r hr=>⟨hm.heap _ _ (fun hb=>?_) (N₅ r hr).1,(N₅ r hr).2⟩
   have hlt : r.1 < s.heap.objs.size:=by
    rw [hgr] at hr
    refine bc fun g0=>?_;rcases List.mem_append.mp hr with hr | hr <;> (refine g0 ?_;clear g0)
    ·exact Heap.lt_size (N r (by rw [hnews];exact List.mem_append_left _ hr)).1
    ·refine bc fun g0=>?_;rcases List.mem_cons.mp hr with rfl | hr <;> (refine g0 ?_;clear g0)
     ·exact hPlt
     ·exact Heap.lt_size (N r (by rw [hnews];exact List.mem_append_right _ (.tail _ hr))).1
   exact absurd (hwr _ hb) (Nat.not_le_of_lt hlt)
  ·rw [List.length_range,sizeLine_eq];exact o26 hn
end
end
section
noncomputable def f2 (x y : Str) (i : Nat) : Str:=if i = 0 then x else y
theorem join_ok2 (a b : Nat) (sep : Str) (h : sep = ⟨#[45]⟩) : JoinOk sep ((List.range 2).map (f2 ⟨#[a]⟩ ⟨#[b]⟩)) = true:=by subst h;rfl
theorem join_eq2 (a b : Nat) (sep : Str) (h : sep = ⟨#[45]⟩) : Txt.join sep ((List.range 2).map (f2 ⟨#[a]⟩ ⟨#[b]⟩)) = ⟨#[a,45,b]⟩:=by subst h;rfl
section
variable {prog : Program} {w : World} {A : Around} {E : Value -> Shared -> Prop} {s : Shared} {h₀ : Heap} {L a c P D : Addr} {m mg mb : Str -> Option Value} {cn : Str} {cs : Scope} {ccd : Value} {cl cl2 : List (Str × Addr)} {news : List (Addr × Obj)} {g : Obj -> List (Addr × Obj)}
 {p : Program} {loose : List Str} {mean : ExcName -> Option Value} {scope : Scope} {ps : Array Value} {pos px : Pos} {elt iter : PySem.Expr} {x : Str} {k ca cb : Nat} {ta tb : Tok}
theorem joinRdy2 {Q : Value -> Shared -> Prop} {nw : Led} {sep : Str} {t : Tok} (J : JoinRdy prog w A h₀ L m nw a 2 (f2 ⟨#[ca]⟩ ⟨#[cb]⟩) s) (hsep : sep = ⟨#[45]⟩)
  (h : ∀ t' h' tk' g',AllBare g' -> Fr h₀ L h' m -> News h₀ L h' nw -> Q (.str ⟨#[ca,45,cb]⟩ t') { s with heap:=h',toks:=tk',gens:=g' }) :
  wpAny (model prog w) A (call (.builtin "str.join") [.str sep t,.ref a]) Q E s :=
 J sep t Q E (join_ok2 ca cb sep hsep) fun t' h' tk' g' G F N=>by rw [join_eq2 ca cb sep hsep];exact h t' h' tk' g' G F N
theorem genexp2 {Q : Value -> Shared -> Prop} (F : Fr h₀ L s.heap m) (N : News h₀ L s.heap news) (T : Top p loose mean mg mb h₀) (C : CodeHd h₀ c P) (hcd : ccd = .ref c) (U : UpdF P (tabObj ps) news g) (ht : PsOk ps) (G : AllBare s.gens)
  (hh : A.handled = none) (hco : scope.isCoroutine = false) (hclos : closureFor scope (envX cn cs L a ccd cl) = pure cl2) (hcell : ∀ y ∈ scope.names,y.2 ≠ .cell) (h0 : scope.names.lookup (".0" : Str) = some NameKind.local)
  (hx : scope.names.lookup x = some .local) (hkind : scope.kind = .function) (hroom : A.depth < recursionLimit)
  (hD : (D,listOf #[.str ⟨#[ca]⟩ ta,.str ⟨#[cb]⟩ tb] k) ∈ news) (hit : ∀ Q' : Value -> Shared -> Prop,Q' (.ref D) s -> wpAny (model prog w) A (eval iter (envX cn cs L a ccd cl)) Q' E s)
  (ha : ca ∈ hxs) (hb : cb ∈ hxs) (hs : ∀ x,genFold iter (envX cn cs L a ccd cl) x = pure x)
  (hE : ∀ (cd : Value) (C : Addr) (A' : Around) E' c t (s₂ : Shared) m₂,A'.handled = none -> c ∈ hxs -> s₂.heap.Ns C m₂ -> m₂ x = some (.str ⟨#[c]⟩ t) ->
   wpAny (model prog w) A' (eval elt (genEnv scope cl2 C cd builtinsNs (envX cn cs L a ccd cl))) (fun y s₃=>(∃ t',y = Value.str ⟨#[c]⟩ t') /\ Keeps s₂ s₃) E' s₂)
  (h : ∀ q h' tk g' ps',PsOk ps' -> AllBare g' -> Fr h₀ L h' m -> News h₀ L h' (g (tabObj ps')) -> JoinRdy prog w A h₀ L m (g (tabObj ps')) q 2 (f2 ⟨#[ca]⟩ ⟨#[cb]⟩) { s with heap:=h',toks:=tk,gens:=g' } -> Q (.ref q) { s with heap:=h',toks:=tk,gens:=g' }) :
  wpAny (model prog w) A (eval (.GeneratorExp elt [⟨.Name x px,iter,[],0⟩] scope pos) (envX cn cs L a ccd cl)) Q E s:=by
 refine genexp_k F N T C hcd U ht G hh hco hclos hcell h0 hx hkind hroom hD hit (f:=f2 ⟨#[ca]⟩ ⟨#[cb]⟩) ?_ hs (by simp) ?_ h
 ·intro i v hv
  match i,hv with
  | 0,hv=>exact ⟨ta,by simpa [f2] using hv.symm⟩
  | 1,hv=>exact ⟨tb,by simpa [f2] using hv.symm⟩
  | i + 2,hv=>simp at hv
 ·intro cd C A' E' i t s₂ m₂ hA hi hns hm
  by_cases e : i = 0
  ·simp only [f2,if_pos e] at hm ⊢
   exact hE cd C A' E' ca t s₂ m₂ hA ha hns hm
  ·simp only [f2,if_neg e] at hm ⊢
   exact hE cd C A' E' cb t s₂ m₂ hA hb hns hm
end
end
section
theorem lit_bs' : (Str.ofString "\\") = ⟨#[92]⟩:=rfl
theorem lit_mi' : (Str.ofString "-") = ⟨#[45]⟩:=rfl
theorem hxs_not {c d : Nat} (h : c ∈ hxs) (hd : d ∉ hxs) : d ∉ (⟨#[c]⟩ : Str).cps.toList:=by
 intro h'
 simp at h'
 subst h'
 exact hd h
end
section
open PySem.Builtin PySem.Builtin.Re
section
variable {w : World} {p : Program} {loose : List Str} {mean : ExcName -> Option Value} {mg mb : Str -> Option Value} {news : Led} {prog : Program} {A : Around} {h₀ : Heap} {L f : Addr} {m : Str -> Option Value}
theorem sub_go2 {a b : Nat} (ha : a ∈ hxs) (hb : b ∈ hxs) {t : Tok} {nm ql : Str} {pr : Arguments} {bd : PySem.Expr} {sc : Scope} {clo : List (Str × Addr)} {pm : Value} {c' : Addr} {ctv : Value} {s : Shared} {Q E : Value -> Shared -> Prop} (F : Fr h₀ L s.heap m) (X : (K w.params).In h₀) (N : News h₀ L s.heap news) (hf : (f,kla_obj nm ql pr bd sc clo pm c' ctv) ∈ news)
  (h : ∀ h' tk' t',Fr h₀ L h' m -> News h₀ L h' news -> Q (.str ⟨#[a,45,b]⟩ t') { s with heap:=h',toks:=tk' }) :
  wpAny (model prog w) A (call (.builtin "re.Pattern.sub") [.ref 98,.ref f,.str ⟨#[a,45,b]⟩ t]) Q E s:=by
 have XX:=X.keeps F.keep
 refine wpAny_call (codeAny_call_builtin rSub.plain rEntry (rSub.check _ _ _ _ _ _ _ _ ⟨_,XX 98 _ rfl,rfl⟩ (rArgs _ _ _) ?_))
 unfold Builtin.«re.Pattern.sub» reSubstitute
 dsimp only
 rw [rNamed]
 refine wpAny_bind (wpAny_pure ?_)
 dsimp only
 refine wpAny_bind (wpAny_pure ?_)
 refine wpAny_bind (wpAny_specialOf ⟨_,(N _ hf).1,rfl⟩ fCall ?_)
 refine wpAny_ite_true rfl ?_
 refine wpAny_bind (wpAny_pure ?_)
 refine wpAny_ite_true rfl ?_
 refine wpAny_bind (wpAny_pure ?_)
 refine wpAny_bind (wpAny_holding (target2 XX ?_))
 refine wpAny_ite_true rfl ?_
 refine wpAny_bind ?_
 k_fold
 unfold reNotHeld
 refine wpAny_bind (wpAny_isInstance (typeIs_str _ _ _) sBa ?_)
 refine wpAny_pure ?_
 refine wpAny_bind (wpAny_newList ?_ (by simp))
 refine wpAny_pure ⟨plainId_quiet rLoopPlain _,?_⟩
 have F1:=F.push { cls:=.type "list",data:=.seq (#[] : Array Value) }
 have N1:=N.push F { cls:=.type "list",data:=.seq (#[] : Array Value) }
 have hD : ∀ q ∈ news,q.1 ≠ s.heap.objs.size:=fun q hq=>Nat.ne_of_lt (Heap.lt_size (N q hq).1)
 generalize s.heap.objs.size = D at *
 refine codeAny_builtin rLoop ?_
 rw [Around.under_plainId rLoopPlain]
 unfold Builtin.«re.Pattern.sub.loop»
 refine wpAny_bind (target2 (X.keeps F1.keep) ?_)
 refine wpAny_ite_false rfl ?_
 refine wpAny_bind (wpAny_ite_false rfl ?_)
 k_fold
 unfold reNextFound
 dsimp only
 refine bc fun g0=>?_;obtain ⟨m9,e1,e2⟩:=none2 a b ha hb;refine g0 ?_;clear g0
 refine toEnd_none e1 e2 ?_
 k_unfold
 dsimp only
 refine wpAny_ite_true (decide_eq_true (show 0 < 3 by decide)) ?_
 refine wpAny_bind ?_
 k_fold
 unfold reSlice
 refine wpAny_ite_true rfl ?_
 refine wpAny_mkStr ?_ (by rw [sizeLine_eq];simp [PySem.Str.length])
 refine wpAny_bind (wpAny_updateSeq (N1.get (.head _)) rfl ?_ (by rw [sizeLine_eq];simp) (by rw [sizeLine_eq];simp))
 have z:=N1.get (List.mem_cons_self ..)
 have zz:=N1 _ (List.mem_cons_self ..)
 have N3:=ki_turn (pre:=[]) (fun x=>x.push (Value.str ⟨(#[a,45,b] : Array Nat).extract 0 3⟩ s.toks)) (its':=#[Value.str ⟨#[a,45,b]⟩ s.toks]) N1 (fun q hq=>nomatch hq) hD (by simp) rfl
 have F3:=F1.change (Heap.SameBut.update _ D (Obj.mapSeq fun x=>x.push (Value.str ⟨(#[a,45,b] : Array Nat).extract 0 3⟩ s.toks))) zz.2.1 zz.2.2
 refine wpAny_bind ?_
 k_fold
 unfold reSlice
 refine wpAny_ite_true rfl ?_
 refine wpAny_mkStr ?_ (by rw [sizeLine_eq];simp [PySem.Str.length])
 refine wpAny_bind (wpAny_seqItems (N3.get (.head _)) rfl ?_)
 refine wpAny_ite_false rfl ?_
 refine wpAny_bind ?_
 refine join_listW (D:=D) (items:=#[Value.str ⟨#[a,45,b]⟩ s.toks]) (ys:=[⟨#[a,45,b]⟩]) ⟨_,N3.get (.head _),rfl,_,rfl⟩ (.cons _ _ .nil) ?_ ?_ ?_
 ·simp [PySem.Str.length]
 ·simp [PySem.Str.length]
 ·intro t' tk'
  refine wpAny_pure ?_
  exact h _ _ _ F3 fun q hq=>N3 q (.tail _ hq)
end
end
section
theorem allLt_ne {l : Addr} {r : Led} (h : AllLt l r) : ∀ q ∈ r,q.1 ≠ l:=by
 induction r with
 | nil=>intro p hp;cases hp
 | cons q r ih =>
  intro p hp
  rcases List.mem_cons.mp hp with rfl | hp
  ·exact Nat.ne_of_lt h.1
  ·exact ih h.2 p hp
theorem lit_hat : Str.ofString "^" = ⟨#[94]⟩:=by decide +kernel
theorem lit_br : Str.ofString "[" = ⟨#[91]⟩:=by decide +kernel
section
variable {prog : Program} {w : World} {A : Around} {E : Value -> Shared -> Prop} {s : Shared} {h₀ : Heap} {L T : Addr} {m : Str -> Option Value} {news : Led} {Q : Value -> Shared -> Prop} {c : Nat} {y z : Str} {t u v : Tok}
theorem out_tup2 (N : News h₀ L s.heap news) (hm : (T,{ cls:=.type "tuple",data:=.seq #[.str y u,.str z v] }) ∈ news) (hy : y = ⟨#[94]⟩) (hz : z = ⟨#[91]⟩) (hc : c ∈ hxs) (h : Q (.bool false) s) :
  wpAny (model prog w) A (compareOp .In (.str ⟨#[c]⟩ t) (.ref T)) Q E s:=by
 subst hy hz
 have hi : StrsAre [Value.str ⟨#[94]⟩ u,Value.str ⟨#[91]⟩ v] [⟨#[94]⟩,⟨#[91]⟩]:=.cons _ _ (.cons _ _ .nil)
 refine PySem.SeqAt.in_tupleAt (items:=[Value.str ⟨#[94]⟩ u,Value.str ⟨#[91]⟩ v].toArray) (isStrOf ⟨#[c]⟩) ⟨_,N.get hm,rfl,_,rfl⟩ (fun y hy=>(eq_isStrOf ⟨#[c]⟩ t hi y (by simpa using hy)).at _ _) ?_
 rw [<- Array.any_toList,show ([Value.str ⟨#[94]⟩ u,Value.str ⟨#[91]⟩ v].toArray).toList = [Value.str ⟨#[94]⟩ u,Value.str ⟨#[91]⟩ v] from rfl,any_isStrOf _ hi]
 have e : ([⟨#[94]⟩,⟨#[91]⟩] : List Str).any (· == ⟨#[c]⟩) = false:=by
  simp only [hxs,List.mem_cons,List.not_mem_nil,or_false] at hc
  rcases hc with rfl | rfl | rfl | rfl | rfl | rfl | rfl | rfl | rfl | rfl | rfl | rfl | rfl | rfl | rfl | rfl <;> rfl
 rw [e]
 exact h
end
end
section
theorem hxs_or {x : Nat} (h : x ∈ hxs) : (48 <= x /\ x <= 57) \/ (65 <= x /\ x <= 70):=by
 have all : ∀ x ∈ hxs,(48 <= x /\ x <= 57) \/ (65 <= x /\ x <= 70):=by decide
 exact all x h
section
variable {prog : Program} {w : World} {A : Around} {E : Value -> Shared -> Prop} {s : Shared} {h₀ : Heap} {L D Mt : Addr} {m : Str -> Option Value} {news news' : Led} {its : Array Value} {n : Nat} {x : Value} {Q : Value -> Shared -> Prop}
theorem attr_k (F : Fr h₀ L s.heap m) (N : News h₀ L s.heap news) (hm : (D,listOf its n) ∈ news)
  (h : ∀ q h',Fr h₀ L h' m -> News h₀ L h' ((q,boundObj D) :: news) -> (∀ p ∈ news,p.1 < q) -> Q (.ref q) { s with heap:=h',toks:=s.toks + 1 }) :
  wpAny (model prog w) A (getAttr (.ref D) (Str.ofString "append") true) Q E s :=
 attr_append (N.get hm) (h _ _ (F.push _) (N.push F _) fun p hp=>Heap.lt_size (N p hp).1)
theorem bound_k (F : Fr h₀ L s.heap m) (N : News h₀ L s.heap news) (hm : (Mt,boundObj D) ∈ news) (U : Upd D (listOf its n) (listOf (its.push x) (n + 1)) news news')
  (h : ∀ h',Fr h₀ L h' m -> News h₀ L h' news' -> Q .none { s with heap:=h' }) (hsz : its.size <= 1000) : wpAny (model prog w) A (call (.ref Mt) [x]) Q E s:=by
 obtain ⟨pre,post,rfl,rfl,a,b⟩:=U.split
 have z:=N (D,listOf its n) (List.mem_append.mpr (.inr (.head _)))
 exact call_bound (N.get hm) z.1 (fun h' hs ho'=>h h' (F.change hs z.2.1 z.2.2) (news_set N a b hs ho')) (by rw [sizeLine_eq];exact o26 hsz)
end
noncomputable def AtB (x D : Addr) (h : Heap) : Prop:=h.get? x = some (boundObj D)
section
variable {M : Model} {A : Around} {E : Value -> Shared -> Prop} {s : Shared} {h₀ : Heap} {L u D : Addr} {news : Led}
theorem atB_of {h : Heap} (N : News h₀ L h news) (hm : (u,boundObj D) ∈ news) : AtB u D h:=N.get hm
theorem cwB_fields {pos : Pos} {first : List Value} {args : List (Bool × Sem Value)} {Q : Value -> Shared -> Prop} (hplain : args.any (·.1) = false)
  (h : wpAny M A (evalArgs (.ref u) true args []) (fun x s₁=>AtB u D s₁.heap /\ wpAny M A (call (.ref u) (first ++ x.pos) x.kw) Q E s₁) E s) : wpAny M A (callWith pos (.ref u) first args []) Q E s:=by
 unfold callWith
 refine wpAny_bind (wpAny_holding (wpAny_mono h (fun x s₁ h₁=>wpAny_bind (wpAny_standAt ?_)) fun _ _ x=>x))
 obtain ⟨ho,hcall⟩:=h₁
 simp only [hplain,List.any_nil,Bool.or_false]
 refine wpAny_bind (m:=keeperOf (.ref u)) ?_
 unfold keeperOf
 refine wpAny_bind (wpAny_load ho ?_)
 simp only [boundObj,show (Value.type "builtin_function_or_method" != Value.type "method") = true by decide,show (Value.type "builtin_function_or_method" == Value.type "builtin_function_or_method" || Value.type "builtin_function_or_method" == Value.type "method-wrapper") = true by decide,if_true]
 refine wpAny_pure ?_
 exact wpAny_bind (wpAny_mono hcall (fun r s₂ hr=>wpAny_bind (wpAny_holding (wpAny_point (wpAny_pure hr)))) fun _ _ x=>x)
theorem cwB {pos : Pos} {first : List Value} {env : Env} {e : PySem.Expr} {rest : List PySem.Expr} {Q : Value -> Shared -> Prop} (_N : News h₀ L s.heap news) (_hm : (u,boundObj D) ∈ news)
  (h : wpAny M A (spliced (backTo pos (starEach (e :: rest) env))) (fun vs s₁=>AtB u D s₁.heap /\ wpAny M A (call (.ref u) (first ++ vs)) Q E s₁) E s)
  (he : starEach (e :: rest) env = (false,eval e env) :: starEach rest env:=by rfl) (hplain : (backTo pos (starEach rest env)).any (·.1) = false:=by rfl) :
  wpAny M A (callWith pos (.ref u) first (backTo pos (starEach (e :: rest) env)) []) Q E s:=by
 rw [he] at h ⊢
 refine cwB_fields (D:=D) (by show (false || (backTo pos (starEach rest env)).any (·.1)) = false;rw [hplain];rfl) ?_
 exact evalArgs_plain h
end
noncomputable abbrev OkT (w : World) (p : Program) (loose : List Str) (mean : ExcName -> Option Value) (mg mb : Str -> Option Value) (f : Addr) (vs : List Value) (d u : Nat) (texts : List Str) : Prop :=
 ∀ (ps : Array Value) (rest : Led) (_ : PsOk ps) (_ : ∀ q ∈ rest,q.1 ≠ 112) (dp un : Nat) (gd : Option (List Code)) (cn : Str) (cs' : Scope) (aa : Addr) (ccd : Value) (cl : List (Str × Addr)) (outer : List Env) (A₀ : Around) (base h₀ : Heap) (L : Addr) (m : Str -> Option Value) (s : Shared) (Q E : Value -> Shared -> Prop) (_ : AllBare s.gens)
  (_ : Below A₀ base outer h₀) (_ : Fr h₀ L s.heap m) (_ : (K w.params).In h₀) (_ : News h₀ L s.heap ((112,tabObj ps) :: rest)) (_ : Top p loose mean mg mb h₀) (_ : cs'.kind = .function) (_ : dp + d < recursionLimit) (_ : un + u < cLine)
  (_ : ∀ v news' h' tk' g' ps',PsOk ps' -> AllBare g' -> RetTexts ((112,tabObj ps') :: rest) texts v news' -> Fr h₀ L h' m -> News h₀ L h' news' -> Q v { s with heap:=h',toks:=tk',gens:=g' }),
  wpAny (mdl w) (ktrTop dp un gd cn cs' L aa ccd cl outer) (call (.ref f) vs) Q E s
theorem allLt_lt {d : Addr} : ∀ {l : List (Addr × Obj)},AllLt d l -> ∀ q ∈ l,q.1 < d
 | [],_,_,hq=>nomatch hq
 | _ :: _,h,_,hq=>by
  rcases List.mem_cons.mp hq with rfl | hq
  ·exact h.1
  ·exact allLt_lt h.2 _ hq
theorem retT {h₀ h : Heap} {L D : Addr} {m : Str -> Option Value} {news rest : Led} {items : Array Value} {n tk : Nat} {ps' : Array Value} {g' : Array GenState} {texts : List Str} {s : Shared} {Q : Value -> Shared -> Prop} (kN : News h₀ L h news) (h1 : (D,listOf items n) ∈ news) (h2 : (112,tabObj ps') ∈ news) (h3 : ∀ q ∈ rest,q ∈ news)
  (hps : PsOk ps') (hG : AllBare g') (hst : StrsAre items.toList texts) (lt : 112 < D /\ AllLt D rest) (kF : Fr h₀ L h m)
  (hret : ∀ v news' h' tk' g' ps',PsOk ps' -> AllBare g' -> RetTexts ((112,tabObj ps') :: rest) texts v news' -> Fr h₀ L h' m -> News h₀ L h' news' -> Q v { s with heap:=h',toks:=tk',gens:=g' }) : Q (.ref D) { s with heap:=h,toks:=tk,gens:=g' }:=by
 refine hret _ _ _ _ _ _ hps hG ⟨D,items,n,rfl,rfl,hst,?_⟩ kF ?_
 ·intro q hq
  rcases List.mem_cons.mp hq with rfl | hq
  ·exact lt.1
  ·exact allLt_lt lt.2 q hq
 ·intro q hq
  rcases List.mem_cons.mp hq with rfl | hq
  ·exact kN _ h1
  ·rcases List.mem_cons.mp hq with rfl | hq
   ·exact kN _ h2
   ·exact kN _ (h3 q hq)
theorem strs3 {x1 x2 x3 y1 y2 y3 : Str} {t u v : Tok} (h1 : x1 = y1) (h2 : x2 = y2) (h3 : x3 = y3) : StrsAre ((((#[] : Array Value).push (.str x1 t)).push (.str x2 u)).push (.str x3 v)).toList [y1,y2,y3]:=by
 subst h1 h2 h3
 exact .cons _ _ (.cons _ _ (.cons _ _ .nil))
end
section
open PyProof.Rows.LCg (NsObj lst)
noncomputable def signs : List Nat:=[48,49,50,51,52,53,54,55,56,57,65,66,67,68,69,70]
theorem lit_signs : Str.ofString "0123456789ABCDEF" = ⟨signs.toArray⟩:=by decide +kernel
theorem one_lt {a b : Nat} : ((⟨#[a]⟩ : Str).cps.toList < (⟨#[b]⟩ : Str).cps.toList) ↔ a < b:=by
 show List.Lex (· < ·) [a] [b] ↔ _
 constructor
 ·intro h
  cases h with
  | rel h=>exact h
  | cons h=>cases h
 ·exact .rel
section
variable {p : Nat -> Bool} {i c : Nat} {tv : Tok} {ys : List Value} (hc : (⟨signs.toArray⟩ : Str).cps[i]? = some c) (hys : StrsAre ys (((signs.take i).filter p).map fun c=>(⟨#[c]⟩ : Str)))
include hys in
theorem figs_len : ys.length <= 1000000:=by
 have h1:=StrsAre.length hys
 rw [List.length_map] at h1
 have h2 : ((signs.take i).filter p).length <= (signs.take i).length:=List.length_filter_le _ _
 have h3 : (signs.take i).length <= signs.length:=List.length_take_le' _ _
 have h4 : signs.length = 16:=rfl
 exact o214 h4 h1 h2 h3
include hc hys
theorem figs_no (h : p c = false) : StrsAre ys (((signs.take (i + 1)).filter p).map fun c=>(⟨#[c]⟩ : Str)):=by
 rw [take_succ_filter p signs i c (by simpa using hc),h]
 simpa using hys
theorem figs_yes (h : p c = true) : StrsAre (ys ++ [.str ⟨#[c]⟩ tv]) (((signs.take (i + 1)).filter p).map fun c=>(⟨#[c]⟩ : Str)):=by
 rw [take_succ_filter p signs i c (by simpa using hc),h,List.map_append]
 exact StrsAre.append' hys (.cons _ _ .nil)
end
section
variable {w : World} {p : Program} {loose : List Str} {mean : ExcName -> Option Value} {mg mb : Str -> Option Value} {news : Led}
theorem figures_rng (x y : Nat) (t : Tok) : Ok w p loose mean mg mb 178 [.str ⟨#[91,x,45,y,93]⟩ t] 2 16 news (RetTexts news ((signs.filter fun c=>x <= c /\ c <= y).map fun c=>⟨#[c]⟩)):=by
 intro dp un gd cn cs a ccd cl outer A₀ base h₀ L m s Q E B F X N T hk hd hu hret
 refine wpAny_call ?_
 k_dflt cell_enter
 dsimp only [bulawufigures,lhsOf]
 repeat' (first | with_reducible (first | ((show wpAny _ _ (compareOp _ (Value.str (PySem.Str.mk _) _) (Value.str _ _)) _ _ _);(first | (refine' Mine.Internal.eq_lit true ?h1z1 ?_;(case h1z1=>(simp only [Mine.Internal.lit_lb,Mine.Internal.lit_rb,Mine.Internal.lit_mi,Mine.Internal.lit_st,Mine.Internal.lit_qm,Mine.Internal.lit_ex,Mine.Internal.lit_eq,Mine.Internal.lit_ca,Mine.Internal.lit_bs];exact Mine.Internal.one_eq (by first | rfl | omega)))) | (refine' Mine.Internal.eq_lit false ?h1z1 ?_;(case h1z1=>(simp only [Mine.Internal.lit_lb,Mine.Internal.lit_rb,Mine.Internal.lit_mi,Mine.Internal.lit_st,Mine.Internal.lit_qm,Mine.Internal.lit_ex,Mine.Internal.lit_eq,Mine.Internal.lit_ca,Mine.Internal.lit_bs];exact Mine.Internal.one_ne (by first | decide | omega)))))) | ((show wpAny _ _ (subscriptTail (PySem.Expr.Name _ _) (PySem.Expr.Constant _ _ _) (Value.str (PySem.Str.mk _) _) (Value.int _ _)) _ _ _);(k_dflt (refine' Mine.Internal.item_lit ?h1z2 ?h2z2 ?h3z2 ?_;(case h1z2=>decide);(case h2z2=>exact rfl);(case h3z2=>with_unfolding_all rfl));intro t'z2 k'z2;(try dsimp only))) | ((show wpAny _ _ (call (Value.builtin "len") [Value.str (PySem.Str.mk _) _]) _ _ _);refine' Mine.Internal.len_lit ?h1z3 ?_;(case h1z3=>(first | (simp only [PySem.Str.length,List.size_toArray,List.length_cons,List.length_nil,Nat.zero_add,Nat.reduceAdd,Int.cast_ofNat_Int];done) | (simp only [PySem.Str.length,List.size_toArray,List.length_cons,List.length_nil,Nat.zero_add,Nat.reduceAdd,Int.cast_ofNat_Int];decide)));intro t'z3 k'z3;(try simp only [PySem.Str.length,List.size_toArray,List.length_cons,List.length_nil,Nat.zero_add,Nat.reduceAdd,Int.cast_ofNat_Int]))) | row_walkt)
 refine ret_lc ?_
 (with_reducible rename Fr _ _ _ _=>F9)
 (with_reducible rename News _ _ _ _=>N9)
 refine eval_lc F9 (fun _=>rfl) rfl rfl (by decide +kernel) (by decide +kernel) ?_
 walk1
 rw [lit_signs]
 refine with_led N9 fun led9 hl9 N9=>?_
 refine first_str rfl (by decide +kernel) rfl rfl (fun it acc env=>code_lc _ 0 it acc env) (fun C D it=>turn_list rfl rfl) accList F9 N9
  (fun D i oD led=>∃ ys,oD = lst ys /\ led = led9 /\ (∀ p ∈ led9,p.1 < D) /\ StrsAre ys (((signs.take i).filter fun c=>x <= c /\ c <= y).map fun c=>⟨#[c]⟩)) ?_ ?_ ?_
 ·rintro D oD rfl lt
  exact ⟨[],rfl,rfl,lt,.nil⟩
 ·rintro I C D i c tv m₂ oD led h tk oI hc hE1 hin off;refine bc fun g0=>?_;obtain ⟨ys,rfl,rfl,lt,hys⟩:=hE1;refine g0 ?_;clear g0
  refine After.list1 hin rfl rfl fun h' tk hin=>?_
  refine bc fun g0=>?_;obtain ⟨oC,hC,N'⟩:=hin.N;refine g0 ?_;clear g0
  have F':=hin.F
  subst hl9
  repeat' (first | with_reducible (first | ((show wpAny _ _ (subscriptTail (PySem.Expr.Name _ _) (PySem.Expr.Constant _ _ _) (Value.str (PySem.Str.mk _) _) (Value.int _ _)) _ _ _);(k_dflt (refine' Mine.Internal.item_lit ?h1z4 ?h2z4 ?h3z4 ?_;(case h1z4=>decide);(case h2z4=>exact rfl);(case h3z4=>with_unfolding_all rfl));intro t'z4 k'z4;(try dsimp only)))) | row_walkt)
  ·refine CEnd.same hin off hC (by assumption) (by assumption) trivial ⟨ys,rfl,rfl,lt,?_⟩
   exact figs_no hc hys (decide_eq_false fun hq=>Nat.not_le.mpr (one_lt.mp (by assumption)) hq.1)
  ·refine CEnd.same hin off hC (by assumption) (by assumption) trivial ⟨ys,rfl,rfl,lt,?_⟩
   exact figs_no hc hys (decide_eq_false fun hq=>Nat.not_le.mpr (one_lt.mp (by assumption)) hq.2)
  ·refine push_at hin (by assumption) (by assumption) (figs_len hys) fun h' F' N'=>?_
   refine CEnd.same hin off hC F' N' trivial ⟨_,rfl,rfl,lt,?_⟩
   exact figs_yes hc hys (decide_eq_true ⟨Nat.not_lt.mp fun h=>absurd (one_lt.mpr h) (by assumption),Nat.not_lt.mp fun h=>absurd (one_lt.mpr h) (by assumption)⟩)
 ·rintro D oD led h tk hE2 h'' F' N';refine bc fun g0=>?_;obtain ⟨ys,rfl,rfl,lt,hys⟩:=hE2;refine g0 ?_;clear g0
  subst hl9
  dsimp only
  repeat' row_walkt
  exact hret _ _ _ _ ⟨D,ys.toArray,ys.length,rfl,rfl,by simpa using hys,fun q hq=>lt q (.tail _ hq)⟩ (by assumption) (fun q hq=>by
   rename_i kN _ _
   exact kN q (by rcases List.mem_cons.mp hq with rfl | hq;exact .head _;exact .tail _ (.tail _ hq)))
end
end
section
open PyProof.Rows.LCg (NsObj lst)
open PyProof.Rows.LCg (NsObj lst)
section
variable {w : World} {p : Program} {loose : List Str} {mean : ExcName -> Option Value} {mg mb : Str -> Option Value} {news : Led}
theorem figures_one (x : Nat) (t : Tok) : Ok w p loose mean mg mb 178 [.str ⟨#[x]⟩ t] 2 16 news (RetTexts news ((signs.filter fun c=>c = x).map fun c=>⟨#[c]⟩)):=by
 intro dp un gd cn cs a ccd cl outer A₀ base h₀ L m s Q E B F X N T hk hd hu hret
 refine wpAny_call ?_
 k_dflt cell_enter
 dsimp only [bulawufigures,lhsOf]
 repeat' (first | with_reducible (first | ((show wpAny _ _ (call (Value.builtin "len") [Value.str (PySem.Str.mk _) _]) _ _ _);refine' Mine.Internal.len_lit ?h1z1 ?_;(case h1z1=>(first | (simp only [PySem.Str.length,List.size_toArray,List.length_cons,List.length_nil,Nat.zero_add,Nat.reduceAdd,Int.cast_ofNat_Int];done) | (simp only [PySem.Str.length,List.size_toArray,List.length_cons,List.length_nil,Nat.zero_add,Nat.reduceAdd,Int.cast_ofNat_Int];decide)));intro t'z1 k'z1;(try simp only [PySem.Str.length,List.size_toArray,List.length_cons,List.length_nil,Nat.zero_add,Nat.reduceAdd,Int.cast_ofNat_Int]))) | row_walkt)
 refine ret_lc ?_
 (with_reducible rename Fr _ _ _ _=>F9)
 (with_reducible rename News _ _ _ _=>N9)
 refine eval_lc F9 (fun _=>rfl) rfl rfl (by decide +kernel) (by decide +kernel) ?_
 walk1
 rw [lit_signs]
 refine with_led N9 fun led9 hl9 N9=>?_
 refine first_str rfl (by decide +kernel) rfl rfl (fun it acc env=>code_lc _ 0 it acc env) (fun C D it=>turn_list rfl rfl) accList F9 N9
  (fun D i oD led=>∃ ys,oD = lst ys /\ led = led9 /\ (∀ p ∈ led9,p.1 < D) /\ StrsAre ys (((signs.take i).filter fun c=>c = x).map fun c=>⟨#[c]⟩)) ?_ ?_ ?_
 ·rintro D oD rfl lt
  exact ⟨[],rfl,rfl,lt,.nil⟩
 ·rintro I C D i c tv m₂ oD led h tk oI hc hE1 hin off;refine bc fun g0=>?_;obtain ⟨ys,rfl,rfl,lt,hys⟩:=hE1;refine g0 ?_;clear g0
  refine After.list1 hin rfl rfl fun h' tk hin=>?_
  refine bc fun g0=>?_;obtain ⟨oC,hC,N'⟩:=hin.N;refine g0 ?_;clear g0
  have F':=hin.F
  subst hl9
  repeat' row_walkt
  ·refine push_at hin (by assumption) (by assumption) (figs_len hys) fun h' F' N'=>?_
   refine CEnd.same hin off hC F' N' trivial ⟨_,rfl,rfl,lt,?_⟩
   exact figs_yes hc hys (decide_eq_true (str1_beq.mp (by assumption)))
  ·refine CEnd.same hin off hC (by assumption) (by assumption) trivial ⟨ys,rfl,rfl,lt,?_⟩
   exact figs_no hc hys (decide_eq_false fun e=>by subst e;simp_all)
 ·rintro D oD led h tk hE2 h'' F' N';refine bc fun g0=>?_;obtain ⟨ys,rfl,rfl,lt,hys⟩:=hE2;refine g0 ?_;clear g0
  subst hl9
  dsimp only
  repeat' row_walkt
  exact hret _ _ _ _ ⟨D,ys.toArray,ys.length,rfl,rfl,by simpa using hys,fun q hq=>lt q (.tail _ hq)⟩ (by assumption) (fun q hq=>by
   rename_i kN _ _
   exact kN q (by rcases List.mem_cons.mp hq with rfl | hq;exact .head _;exact .tail _ (.tail _ hq)))
end
end
section
open PyProof.Rows.LCg (NsObj lst Off3 SrcAt fr_but news_but ns_obj list_st range_walks range_st)
section
variable {M : Model} {A : Around} {E : Value -> Shared -> Prop} {s : Shared} {h₀ : Heap} {L a C : Addr} {m mg mb : Str -> Option Value} {cn : Str} {cs scope : Scope} {ccd : Value} {cl cl2 : List (Str × Addr)} {p : Program} {loose : List Str}
 {x : Str} {pos : Pos} {v : Value} {Q : Value -> Shared -> Prop} {news : Led} {c : Addr} {o : Obj} {Kf : Frag}
theorem nameC_cell (N : News h₀ L s.heap news) (hc : cl.lookup x = some c) (hm : (c,o) ∈ news) (hd : o.data = .cell (some v)) (h : Q v s)
  (hk : (compEnvC scope cl C (envX cn cs L a ccd cl2)).scope.kind = .function) (hx : (compEnvC scope cl C (envX cn cs L a ccd cl2)).kindOf x = some .cell) (hb : (x == ("__debug__" : Str)) = false) :
  wpAny M A (eval (.Name x pos) (compEnvC scope cl C (envX cn cs L a ccd cl2))) Q E s:=wpAny_Name (wpAny_loadName_cell hk hx hc ⟨o,N.get hm,hd⟩ h) hb
theorem nameC_K (F : Fr h₀ L s.heap m) (X : Kf.In h₀) (T : TopRead p loose mg mb h₀) (e : nsIn Kf mainGlobals x = some (some v)) (h : Q v s)
  (hk : (compEnvC scope cl C (envX cn cs L a ccd cl2)).scope.kind = .function) (hx : (compEnvC scope cl C (envX cn cs L a ccd cl2)).kindOf x = some .globalImplicit) (hd : (x == ("__debug__" : Str)) = false) :
  wpAny M A (eval (.Name x pos) (compEnvC scope cl C (envX cn cs L a ccd cl2))) Q E s:=Name_function_global hk hx (loadGlobal_global (env:=compEnvC scope cl C (envX cn cs L a ccd cl2)) (T.g.keeps F.keep) (mg_of X T.g e) h) hd
end
theorem strs_at {vs : List Value} {ys : List Str} (h : StrsAre vs ys) : ∀ {i : Nat} {v : Value},vs[i]? = some v -> ∃ y t,ys[i]? = some y /\ v = .str y t:=by
 induction h with
 | nil=>intro i v hv;simp at hv
 | cons n t h ih =>
  intro i v hv
  cases i with
  | zero=>simp at hv;exact ⟨n,t,by simp,hv.symm⟩
  | succ i=>simp at hv;obtain ⟨y,u,h1,h2⟩:=ih hv;exact ⟨y,u,by simpa using h1,h2⟩
noncomputable def prod (la lb : List Nat) : List Str:=la.flatMap fun a=>lb.map fun b=>⟨#[61,a,b]⟩
theorem prod_snoc {la lb : List Nat} {i c : Nat} (h : la[i]? = some c) : prod (la.take (i + 1)) lb = prod (la.take i) lb ++ lb.map fun b=>⟨#[61,c,b]⟩:=by
 unfold prod
 rw [List.take_add_one,h]
 simp
theorem prod_len (la lb : List Nat) (i : Nat) (h1 : la.length <= 16) (h2 : lb.length <= 16) : (prod (la.take i) lb).length <= 256:=by
 unfold prod
 have : ∀ l : List Nat,l.length <= 16 -> (l.flatMap fun a=>lb.map fun b=>(⟨#[61,a,b]⟩ : Str)).length = l.length * lb.length:=by
  intro l _
  induction l with
  | nil=>simp
  | cons x r ih=>simp [List.flatMap_cons,Nat.add_mul] at *;rw [ih (by (first | exact o257 (by assumption) | omega))];exact o258
 have h3 : (la.take i).length <= 16:=Nat.le_trans (List.length_take_le' _ _) h1
 rw [this _ h3]
 exact Nat.le_trans (Nat.mul_le_mul h3 h2) (by exact o259)
theorem swap4 {x c d i : Addr × Obj} {r : Led} {h₀ h : Heap} {L : Addr} (N : News h₀ L h (x :: c :: d :: i :: r)) : News h₀ L h (c :: d :: i :: x :: r):=by
 intro q hq
 apply N
 simp only [List.mem_cons] at hq ⊢
 refine bc fun g0=>?_;rcases hq with rfl | rfl | rfl | rfl | hq <;> (refine g0 ?_;clear g0)
 ·exact .inr (.inl rfl)
 ·exact .inr (.inr (.inl rfl))
 ·exact .inr (.inr (.inr (.inl rfl)))
 ·exact .inl rfl
 ·exact .inr (.inr (.inr (.inr hq)))
theorem with_tl {P : Prop} {c d : Addr × Obj} {r : Led} {h₀ h : Heap} {L : Addr} (N : News h₀ L h (c :: d :: r)) (k : ∀ r9,r9 = r -> News h₀ L h (c :: d :: r9) -> P) : P:=k _ rfl N
section
variable {prog : Program} {w : World} {A : Around} {E : Value -> Shared -> Prop} {s : Shared} {h₀ : Heap} {L D : Addr} {news : Led} {n : Nat} {v0 v1 v2 : Value} {value slice : PySem.Expr} {u : Tok} {Q : Value -> Shared -> Prop} (N : News h₀ L s.heap news) (hm : (D,listOf #[v0,v1,v2] n) ∈ news)
include N hm
theorem item3_0 (h : Q v0 s) (hs : subscripted slice false (.ref D) (.int 0 u) = operate [.ref D,.int 0 u] (getItem (.ref D) (.int 0 u))) : wpAny (model prog w) A (subscriptTail value slice (.ref D) (.int 0 u)) Q E s:=item_l N hm rfl rfl h hs
theorem item3_1 (h : Q v1 s) (hs : subscripted slice false (.ref D) (.int 1 u) = operate [.ref D,.int 1 u] (getItem (.ref D) (.int 1 u))) : wpAny (model prog w) A (subscriptTail value slice (.ref D) (.int 1 u)) Q E s:=item_l N hm rfl rfl h hs
theorem item3_2 (h : Q v2 s) (hs : subscripted slice false (.ref D) (.int 2 u) = operate [.ref D,.int 2 u] (getItem (.ref D) (.int 2 u))) : wpAny (model prog w) A (subscriptTail value slice (.ref D) (.int 2 u)) Q E s:=item_l N hm rfl rfl h hs
end
theorem lit_dot : Str.ofString "." = ⟨#[46]⟩:=by decide +kernel
theorem texts3 {vs : List Value} {x y z : Str} (h : StrsAre vs [x,y,z]) : ∃ t u v,vs = [.str x t,.str y u,.str z v]:=by
 cases h with
 | cons n t h=>cases h with
  | cons n u h=>cases h with
   | cons n v h=>cases h;exact ⟨_,_,_,rfl⟩
section
variable {w : World} {p : Program} {loose : List Str} {mean : ExcName -> Option Value} {mg mb : Str -> Option Value} {news : Led}
theorem cell_off {L : Addr} {rest : Led} {o : Obj} (h : 112 < L /\ AllLt L rest) : ∀ q ∈ (112,o) :: rest,q.1 ≠ L + 1:=by
 intro q hq
 refine bc fun g0=>?_;rcases List.mem_cons.mp hq with rfl | hq <;> (refine g0 ?_;clear g0)
 ·exact Nat.ne_of_lt (Nat.lt_succ_of_lt h.1)
 ·exact Nat.ne_of_lt (Nat.lt_succ_of_lt (allLt_lt h.2 _ hq))
theorem trn_k {pat x y z : Str} {t t2 : Tok} {dt : Str} {ps : Array Value} {g : Obj -> Led} {dp un : Nat} {gd : Option (List Code)} {cn : Str} {cs' : Scope} {aa : Addr} {ccd : Value} {cl : List (Str × Addr)} {outer : List Env} {A₀ : Around} {base h₀ : Heap} {L : Addr} {m : Str -> Option Value} {s : Shared} {Q E : Value -> Shared -> Prop}
  (hT : ∀ t t2,OkT w p loose mean mg mb 117 [.str pat t,.none,.str ⟨#[46]⟩ t2] 8 128 [x,y,z]) (hdt : dt = ⟨#[46]⟩) (hps : PsOk ps) (hG : AllBare s.gens) (U : UpdF 112 (tabObj ps) news g)
  (B : Below A₀ base outer h₀) (F : Fr h₀ L s.heap m) (X : (K w.params).In h₀) (N : News h₀ L s.heap news) (T : Top p loose mean mg mb h₀) (hk : cs'.kind = .function) (hd : dp + 8 < recursionLimit) (hu : un + 128 < cLine)
  (h : ∀ D t u v n h' tk' g' ps',PsOk ps' -> AllBare g' -> (∀ q ∈ news,q.1 < D) -> Fr h₀ L h' m -> News h₀ L h' ((D,listOf #[.str x t,.str y u,.str z v] n) :: g (tabObj ps')) -> Q (.ref D) { s with heap:=h',toks:=tk',gens:=g' }) :
  wpAny (mdl w) (ktrTop dp un gd cn cs' L aa ccd cl outer) (call (.ref 117) [.str pat t,.none,.str dt t2]) Q E s:=by
 subst hdt
 refine bc fun g0=>?_;obtain ⟨own,rest,rfl,hg,h1,h2⟩:=U.split;refine g0 ?_;clear g0
 refine hT t t2 ps (own ++ rest) hps (fun q hq=>by rcases List.mem_append.mp hq with hq | hq;exact h1 q hq;exact h2 q hq) dp un gd cn cs' aa ccd cl outer A₀ base h₀ L m s Q E hG B F X (fun q hq=>N q (by
  refine bc fun g0=>?_;rcases List.mem_cons.mp hq with rfl | hq <;> (refine g0 ?_;clear g0)
  ·exact List.mem_append_right _ (.head _)
  ·refine bc fun g0=>?_;rcases List.mem_append.mp hq with hq | hq <;> (refine g0 ?_;clear g0)
   ·exact List.mem_append_left _ hq
   ·exact List.mem_append_right _ (.tail _ hq))) T hk hd hu ?_
 rintro v news' h' tk' g' ps' hps' hG' hE1 F' N';refine bc fun g0=>?_;obtain ⟨D,items,n,rfl,rfl,hi,lt⟩:=hE1
 obtain ⟨t1,t2,t3,e⟩:=texts3 hi;refine g0 ?_;clear g0
 have e' : items = #[.str x t1,.str y t2,.str z t3]:=by rw [<- Array.toArray_toList (xs:=items),e]
 subst e'
 refine h D t1 t2 t3 n h' tk' g' ps' hps' hG' (fun q hq=>?_) F' (fun q hq=>N' q ?_)
 ·refine bc fun g0=>?_;rcases List.mem_append.mp hq with hq | hq <;> (refine g0 ?_;clear g0)
  ·exact lt q (.tail _ (List.mem_append_left _ hq))
  ·refine bc fun g0=>?_;rcases List.mem_cons.mp hq with rfl | hq <;> (refine g0 ?_;clear g0)
   ·exact lt (112,tabObj ps') (.head _)
   ·exact lt q (.tail _ (List.mem_append_right _ hq))
 ·refine bc fun g0=>?_;rcases List.mem_cons.mp hq with rfl | hq <;> (refine g0 ?_;clear g0)
  ·exact .head _
  ·rw [hg] at hq
   refine bc fun g0=>?_;rcases List.mem_append.mp hq with hq | hq <;> (refine g0 ?_;clear g0)
   ·exact .tail _ (.tail _ (List.mem_append_left _ hq))
   ·refine bc fun g0=>?_;rcases List.mem_cons.mp hq with rfl | hq <;> (refine g0 ?_;clear g0)
    ·exact .tail _ (.head _)
    ·exact .tail _ (.tail _ (List.mem_append_right _ hq))
local macro_rules | `(tactic| k_updF)=>`(tactic| first | exact UpdF.head (by assumption) | exact UpdF.head (Mine.Internal.cell_off (by assumption)) | (refine' UpdF.tail ?a ?b;(case a=>k_ne);(case b=>k_updF)))
theorem fig_k {y : Str} {ys : List Str} {t : Tok} {dp un : Nat} {gd : Option (List Code)} {cn : Str} {cs' : Scope} {aa : Addr} {ccd : Value} {cl : List (Str × Addr)} {outer : List Env} {A₀ : Around} {base h₀ : Heap} {L : Addr} {m : Str -> Option Value} {s : Shared} {Q E : Value -> Shared -> Prop}
  (hY : ∀ news t,Ok w p loose mean mg mb 178 [.str y t] 2 16 news (RetTexts news ys))
  (B : Below A₀ base outer h₀) (F : Fr h₀ L s.heap m) (X : (K w.params).In h₀) (N : News h₀ L s.heap news) (T : Top p loose mean mg mb h₀) (hk : cs'.kind = .function) (hd : dp + 2 < recursionLimit) (hu : un + 16 < cLine)
  (h : ∀ D its n h' tk',StrsAre its.toList ys -> (∀ q ∈ news,q.1 < D) -> Fr h₀ L h' m -> News h₀ L h' ((D,listOf its n) :: news) -> Q (.ref D) { s with heap:=h',toks:=tk' }) :
  wpAny (mdl w) (ktrTop dp un gd cn cs' L aa ccd cl outer) (call (.ref 178) [.str y t]) Q E s:=by
 refine hY news t dp un gd cn cs' aa ccd cl outer A₀ base h₀ L m s Q E B F X N T hk hd hu ?_
 rintro v news' h' tk' hE2 F' N';refine bc fun g0=>?_;obtain ⟨D,items,n,rfl,rfl,hi,lt⟩:=hE2;refine g0 ?_;clear g0
 exact h D items n h' tk' hi lt F' N'
theorem taken_k (pat y z : Str) (la lb : List Nat) (hla : la.length <= 16) (hlb : lb.length <= 16) (t : Tok) (hT : ∀ t t2,OkT w p loose mean mg mb 117 [.str pat t,.none,.str ⟨#[46]⟩ t2] 8 128 [⟨#[61]⟩,y,z])
  (hY : ∀ news t,Ok w p loose mean mg mb 178 [.str y t] 2 16 news (RetTexts news (la.map fun c=>⟨#[c]⟩))) (hZ : ∀ news t,Ok w p loose mean mg mb 178 [.str z t] 2 16 news (RetTexts news (lb.map fun c=>⟨#[c]⟩))) : OkT w p loose mean mg mb 183 [.str pat t] 12 160 (prod la lb):=by
 intro ps rest hps hrest dp un gd cn cs a ccd cl outer A₀ base h₀ L m s Q E hG0 B F X N T hk hd hu hret
 refine wpAny_call ?_
 k_dflt cell_enter
 dsimp only [bulawutaken,lhsOf]
 repeat' (first | with_reducible (first | ((show wpAny _ _ (call (Value.ref 117) _) _ _ _);k_dflt (refine' Mine.Internal.trn_k ?hTz1 ?hdtz1 ?hpsz1 ?hGz1 ?Uz1 ?Bz1 ?Fz1 ?Xz1 ?Nz1 ?Tz1 ?kz1 ?dz1 ?uz1 ?_;(case hTz1=>assumption);(case hdtz1=>exact lit_dot);(case hpsz1=>assumption);(case hGz1=>assumption);(case Bz1=>k_asm);(case Fz1=>k_asm);(case Xz1=>k_asm);(case Nz1=>k_asm);(case Uz1=>k_updF);(case Tz1=>k_asm);(case kz1=>first | exact rfl | assumption | (with_unfolding_all exact rfl) | (show ScopeKind.function = ScopeKind.function;rfl));(case dz1=>ktr_room);(case uz1=>ktr_units));intro D'z1 t'z1 u'z1 v'z1 n'z1 h'z1 tk'z1 g'z1 ps'z1 hps'z1 hG'z1 l1 F'z1 N'z1;(try dsimp only at N'z1);(try k_lt l1))) | row_walkt)
 refine ret_lc ?_
 (with_reducible rename Fr _ _ _ _=>F9)
 refine G.eval_lc F9 (fun _=>rfl) rfl rfl (by decide +kernel) (by decide +kernel) ?_
 repeat' (first | with_reducible (first | ((show wpAny _ _ (subscriptTail (PySem.Expr.Name _ _) (PySem.Expr.Constant _ _ _) (Value.ref _) (Value.int 1 _)) _ _ _);(k_dflt (refine' Mine.Internal.item3_1 ?Nz2 ?hz2 ?_ ?h4z2;(case Nz2=>k_asm);(case hz2=>k_mem);(case h4z2=>with_unfolding_all rfl)))) | ((show wpAny _ _ (call (Value.ref 178) _) _ _ _);k_dflt (refine' Mine.Internal.fig_k ?hYz3 ?Bz3 ?Fz3 ?Xz3 ?Nz3 ?Tz3 ?kz3 ?dz3 ?uz3 ?_;(case hYz3=>assumption);(case Bz3=>k_asm);(case Fz3=>k_asm);(case Xz3=>k_asm);(case Nz3=>k_asm);(case Tz3=>k_asm);(case kz3=>first | exact rfl | assumption);(case dz3=>ktr_room);(case uz3=>ktr_units));intro D'z3 its'z3 n'z3 h'z3 tk'z3 hst'z3 l1 F'z3 N'z3;(try k_lt l1))) | row_walkt)
 (with_reducible rename News _ _ _ _=>N8)
 (with_reducible rename Fr _ _ _ _=>F8)
 (with_reducible rename StrsAre _ _=>hst1)
 (with_reducible rename PsOk _=>hps9)
 refine with_led N8 fun led9 hl9 N9=>?_
 clear N8
 refine G.first_list rfl rfl rfl (fun it acc env=>code_lc _ 0 it acc env) (fun C D it=>turn_inner rfl rfl) accList (by assumption) F8 N9 (by rw [hl9];exact .inr ⟨_,.head _,rfl,_,rfl⟩)
  (fun D i _ oD led=>∃ ys,oD = lst ys /\ led = led9 /\ (∀ p ∈ led9,p.1 < D) /\ StrsAre ys (prod (la.take i) lb)) ?_ ?_ ?_
 ·rintro D oD rfl lt
  exact ⟨[],rfl,rfl,lt,.nil⟩
 ·rintro I C D i v m₂ oD led h tk gn oI hgn hv hE3 hS hin off hoI;refine bc fun g0=>?_;obtain ⟨ys,rfl,rfl,lt,hys⟩:=hE3
  obtain ⟨y9,t9,hy9,rfl⟩:=strs_at hst1 (i:=i) (v:=v) (by simpa using hv)
  rw [List.getElem?_map] at hy9
  obtain ⟨c,hc,rfl⟩:=Option.map_eq_some_iff.mp hy9;refine g0 ?_;clear g0
  clear hy9
  refine wpAny_pure ?_
  refine hin.assign rfl rfl fun h' hin'=>?_
  refine wpAny_tests_nil ?_
  refine tail_inner rfl ?_
  refine bc fun g0=>?_;obtain ⟨oC,hC,N'⟩:=hin'.N;refine g0 ?_;clear g0
  have F':=hin'.F
  subst hl9
  repeat' (first | with_reducible (first | ((show wpAny _ _ (subscriptTail (PySem.Expr.Name _ _) (PySem.Expr.Constant _ _ _) (Value.ref _) (Value.int 2 _)) _ _ _);(k_dflt (refine' Mine.Internal.item3_2 ?Nz4 ?hz4 ?_ ?h4z4;(case Nz4=>k_asm);(case hz4=>k_mem);(case h4z4=>with_unfolding_all rfl)))) | ((show wpAny _ _ (eval (PySem.Expr.Name _ _) (compEnvC _ _ _ _)) _ _ _);k_dflt (refine' Mine.Internal.nameC_K ?Fz5 ?Xz5 ?Tz5 ?ez5 ?_ ?h1z5 ?h2z5 ?h3z5;(case h1z5=>exact rfl);(case h2z5=>exact rfl);(case h3z5=>decide);(case Fz5=>k_asm);(case Xz5=>k_asm);(case Tz5=>k_asm);(case ez5=>k_is))) | ((show wpAny _ _ (eval (PySem.Expr.Name _ _) (compEnvC _ _ _ _)) _ _ _);k_dflt (refine' Mine.Internal.nameC_cell ?Nz6 ?cz6 ?hmz6 ?dz6 ?_ ?h1z6 ?h2z6 ?h3z6;(case h1z6=>exact rfl);(case h2z6=>exact rfl);(case h3z6=>decide);(case cz6=>exact rfl);(case Nz6=>k_asm);(case hmz6=>k_mem);(case dz6=>assumption))) | ((show wpAny _ _ (call (Value.ref 178) _) _ _ _);k_dflt (refine' Mine.Internal.fig_k ?hYz7 ?Bz7 ?Fz7 ?Xz7 ?Nz7 ?Tz7 ?kz7 ?dz7 ?uz7 ?_;(case hYz7=>assumption);(case Bz7=>k_asm);(case Fz7=>k_asm);(case Xz7=>k_asm);(case Nz7=>k_asm);(case Tz7=>k_asm);(case kz7=>first | exact rfl | assumption);(case dz7=>ktr_room);(case uz7=>ktr_units));intro D'z7 its'z7 n'z7 h'z7 tk'z7 hst'z7 l1 F'z7 N'z7;(try k_lt l1))) | row_walkt)
  dsimp +zetaDelta only
  (with_reducible rename StrsAre _ _=>hst2)
  (with_reducible rename News _ _ _ _=>N2)
  (with_reducible rename Fr _ _ _ _=>F2)
  refine wpAny_pure ?_
  refine with_tl (swap4 N2) fun led8 hl8 N4=>?_
  refine G.iter_list rfl rfl rfl (fun it=>code_lc _ 1 it _ _) (fun it=>turn_list rfl rfl)
   (fun j m₂ oD led=>m₂ (Str.ofString "a") = some (.str ⟨#[c]⟩ t9) /\ ∃ zs,oD = lst zs /\ led = led8 /\ StrsAre zs (prod (la.take i) lb ++ ((lb.take j).map fun b=>⟨#[61,c,b]⟩))) ?_ ?_ ⟨F2,⟨oC,hC,N4⟩,hin'.ne,?_⟩ (by rw [hl8];exact .inr ⟨_,.tail _ (.head _),rfl,_,rfl⟩) ⟨rfl,ys,rfl,rfl,by simpa using hys⟩ (by assumption)
  ·rintro I2 j v m₂2 oD led h tk gn oI2 hgn2 hv hE4 hS2 hin2 off2 hoI2;refine bc fun g0=>?_;obtain ⟨ha2,zs,rfl,rfl,hzs⟩:=hE4
   obtain ⟨y9,t9',hy9,rfl⟩:=strs_at hst2 (i:=j) (v:=v) (by simpa using hv)
   rw [List.getElem?_map] at hy9
   obtain ⟨b,hb,rfl⟩:=Option.map_eq_some_iff.mp hy9;refine g0 ?_;clear g0
   clear hy9
   refine After.list0 hin2 rfl rfl fun h' tk' hin3=>?_
   refine bc fun g0=>?_;obtain ⟨oC2,hC2,N5⟩:=hin3.N;refine g0 ?_;clear g0
   have F5:=hin3.F
   subst hl8
   repeat' (first | with_reducible (first | ((show wpAny _ _ (subscriptTail (PySem.Expr.Name _ _) (PySem.Expr.Constant _ _ _) (Value.ref _) (Value.int 0 _)) _ _ _);(k_dflt (refine' Mine.Internal.item3_0 ?Nz8 ?hz8 ?_ ?h4z8;(case Nz8=>k_asm);(case hz8=>k_mem);(case h4z8=>with_unfolding_all rfl)))) | ((show wpAny _ _ (eval (PySem.Expr.Name _ _) (compEnvC _ _ _ _)) _ _ _);k_dflt (refine' Mine.Internal.nameC_cell ?Nz9 ?cz9 ?hmz9 ?dz9 ?_ ?h1z9 ?h2z9 ?h3z9;(case h1z9=>exact rfl);(case h2z9=>exact rfl);(case h3z9=>decide);(case cz9=>exact rfl);(case Nz9=>k_asm);(case hmz9=>k_mem);(case dz9=>assumption)))) | row_walkt)
   refine push_at hin3 (by assumption) (by assumption) ?_ fun h' F' N'=>?_
   ·have h1:=StrsAre.length hzs
    rw [List.length_append,List.length_map] at h1
    have h2:=prod_len la lb i hla hlb
    have h3 : (lb.take j).length <= lb.length:=List.length_take_le' _ _
    exact o265 h1 hlb h2 h3
   refine G.CEnd.same hin2 off2 hC2 F' N' hS2 ⟨(if_neg (show ¬ (Str.ofString "a" = Str.ofString "b") from by decide)).trans ha2,_,rfl,rfl,?_⟩ ?_
   rw [List.take_add_one,hb,Option.toList_some,List.map_append,<- List.append_assoc]
   ·exact StrsAre.append' hzs (.cons _ _ .nil)
   ·assumption
  ·rintro m₂2 oD led h tk gn hgn2 hE5 hS2 hin4;refine bc fun g0=>?_;obtain ⟨ha2,zs,rfl,rfl,hzs⟩:=hE5
   obtain ⟨oC4,hC4,N6⟩:=hin4.N;refine g0 ?_;clear g0
   have hsz:=StrsAre.length hst2
   rw [List.length_map,Array.length_toList] at hsz
   rw [List.take_of_length_le (Nat.le_of_eq hsz.symm)] at hzs
   refine G.CEnd.same hin off hC4 hin4.F (fun q hq=>N6 q ?_) hS ⟨zs,rfl,rfl,lt,by rw [prod_snoc hc];exact hzs⟩ hgn2
   rw [hl8]
   refine bc fun g0=>?_;rcases List.mem_cons.mp hq with rfl | hq <;> (refine g0 ?_;clear g0)
   ·exact .head _
   ·refine bc fun g0=>?_;rcases List.mem_cons.mp hq with rfl | hq <;> (refine g0 ?_;clear g0)
    ·exact .tail _ (.head _)
    ·refine bc fun g0=>?_;rcases List.mem_cons.mp hq with rfl | hq <;> (refine g0 ?_;clear g0)
     ·exact .tail _ (.tail _ (.head _))
     ·exact .tail _ (.tail _ (.tail _ (.tail _ hq)))
  ·intro q hq
   rw [hl8] at hq
   refine bc fun g0=>?_;rcases List.mem_cons.mp hq with rfl | hq <;> (refine g0 ?_;clear g0)
   ·exact hin'.off _ (.head _)
   ·refine bc fun g0=>?_;rcases List.mem_cons.mp hq with rfl | hq <;> (refine g0 ?_;clear g0)
    ·exact ⟨by k_ne,by k_ne⟩
    ·exact hin'.off _ (.tail _ hq)
 ·rintro D m₂ oD led h tk gn hgn hE6 hS h'' F' N';refine bc fun g0=>?_;obtain ⟨ys,rfl,rfl,lt,hys⟩:=hE6;refine g0 ?_;clear g0
  subst hl9
  dsimp only
  repeat' row_walkt
  have hsz:=StrsAre.length hst1
  rw [List.length_map,Array.length_toList] at hsz
  rw [List.take_of_length_le (Nat.le_of_eq hsz.symm)] at hys
  refine retT (items:=ys.toArray) (n:=ys.length) (by assumption) ?_ ?_ ?_ hps9 (by assumption) (by simpa using hys) ⟨?_,allLt_of fun q hq=>lt q ?_⟩ (by assumption) hret
  ·exact .head _
  ·k_mem
  ·intro q hq
   repeat (first | exact hq | refine List.mem_cons_of_mem _ ?_)
  ·exact lt (112,_) (.tail _ (.tail _ (.tail _ (.head _))))
  ·repeat (first | exact hq | refine List.mem_cons_of_mem _ ?_)
end
end
section
open PyProof.Rows.LCg (NsObj lst Off3 SrcAt fr_but news_but ns_obj list_st range_walks range_st)
noncomputable def stP : Stmt:=(blaw)[10]?.getD (.Pass ⟨0,0,0,0⟩)
theorem ints_at {vs : List Value} {ns : List Int} (h : IntsAre vs ns) : ∀ {i : Nat} {v : Value},vs[i]? = some v -> ∃ y t,ns[i]? = some y /\ v = .int y t:=by
 induction h with
 | nil=>intro i v hv;simp at hv
 | cons n t h ih =>
  intro i v hv
  cases i with
  | zero=>simp at hv;exact ⟨n,t,by simp,hv.symm⟩
  | succ i=>simp at hv;obtain ⟨y,u,h1,h2⟩:=ih hv;exact ⟨y,u,by simpa using h1,h2⟩
section
variable {M : Model} {A : Around} {E : Value -> Shared -> Prop} {s : Shared} {h₀ : Heap} {L a C : Addr} {m mg mb : Str -> Option Value} {cn : Str} {cs scope : Scope} {ccd : Value} {cl cl2 : List (Str × Addr)} {p : Program} {loose : List Str}
 {x : Str} {pos : Pos} {v : Value} {Q : Value -> Shared -> Prop} {Kf : Frag}
theorem nameC_B (F : Fr h₀ L s.heap m) (X : Kf.In h₀) (T : TopRead p loose mg mb h₀) (e : nsIn Kf mainGlobals x = some none) (hv : bootBuiltins x = some v) (hn : x ≠ "__name__") (h : Q v s)
  (hk : (compEnvC scope cl C (envX cn cs L a ccd cl2)).scope.kind = .function) (hx : (compEnvC scope cl C (envX cn cs L a ccd cl2)).kindOf x = some .globalImplicit) (hd : (x == ("__debug__" : Str)) = false) :
  wpAny M A (eval (.Name x pos) (compEnvC scope cl C (envX cn cs L a ccd cl2))) Q E s :=
 Name_function_global hk hx (loadGlobal_builtin (env:=compEnvC scope cl C (envX cn cs L a ccd cl2)) (T.g.keeps F.keep) (mg_none_of X T.g e) (T.b.keeps F.keep) ((T.builtins x hn).trans hv) h) hd
end
section
variable {w : World} {p : Program} {loose : List Str} {mean : ExcName -> Option Value} {mg mb : Str -> Option Value} {news : Led}
theorem plain_k (os : List Nat) (vs : List Value) (n0 : Nat) (DO : Addr) (hO : IntsAre vs (List.map (fun (k : Nat)=>(k : Int)) os)) (hos : ∀ c ∈ os,c < 256) (hlen : os.length <= 1000) (hDO : (DO,listOf vs.toArray n0) ∈ news)
  (dp un : Nat) (gd : Option (List Code)) (aa : Addr) (ccd : Value) (cl : List (Str × Addr)) (outer : List Env) (A₀ : Around) (base h₀ : Heap) (L : Addr) (m : Str -> Option Value) (s : Shared) (Q : Flow -> Shared -> Prop) (E : Value -> Shared -> Prop) (hm : m (Str.ofString "octets") = some (.ref DO))
  (B : Below A₀ base outer h₀) (F : Fr h₀ L s.heap m) (X : (K w.params).In h₀) (N : News h₀ L s.heap news) (T : Top p loose mean mg mb h₀) (hd : dp + 20 < recursionLimit) (hu : un + 200 < cLine)
  (hret : ∀ t h' tk',Fr h₀ L h' (fun z=>if z = Str.ofString "plain" then some (.str ⟨os.toArray⟩ t) else m z) -> News h₀ L h' news -> Q .next { s with heap:=h',toks:=tk' }) :
  wpAny (mdl w) (ktrTop dp un gd (Str.ofString "law") slaw L aa ccd cl outer) (exec stP (envX (Str.ofString "law") slaw L aa ccd cl)) Q E s:=by
 unfold stP
 dsimp only [blaw]
 show wpAny _ _ (exec (.Assign _ _ _) _) _ _ _
 repeat' row_walkt
 refine eval_lc F (fun _=>rfl) rfl rfl (by decide +kernel) (by decide +kernel) ?_
 refine nameX_L F hm ?_
 refine first_list (its:=vs.toArray) rfl rfl rfl (fun it acc env=>code_lc _ 0 it acc env) (fun C D it=>turn_list rfl rfl) accList F N (.inr ⟨_,hDO,rfl,_,rfl⟩)
  (fun D i oD led=>∃ ys,oD = lst ys /\ led = news /\ (∀ q ∈ news,q.1 < D) /\ StrsAre ys ((os.take i).map fun c=>⟨#[c]⟩)) ?_ ?_ ?_
 ·rintro D oD rfl lt
  exact ⟨[],rfl,rfl,lt,.nil⟩
 ·rintro I C D i v m₂ oD led h tk oI hv hE1 hS hin off hoI;refine bc fun g0=>?_;obtain ⟨ys,rfl,rfl,lt,hys⟩:=hE1
  obtain ⟨y,ty,hy,rfl⟩:=ints_at hO (i:=i) (v:=v) (by simpa using hv)
  rw [List.getElem?_map] at hy
  obtain ⟨c,hc,rfl⟩:=Option.map_eq_some_iff.mp hy;refine g0 ?_;clear g0
  refine After.list0 hin rfl rfl fun h2 tk2 hin2=>?_
  refine bc fun g0=>?_;obtain ⟨oC2,hC2,N2⟩:=hin2.N;refine g0 ?_;clear g0
  have F2:=hin2.F
  repeat' (first | with_reducible (first | ((show wpAny _ _ (eval (PySem.Expr.Name _ _) (compEnvC _ _ _ _)) _ _ _);k_dflt (refine' Mine.Internal.nameC_B ?Fz1 ?Xz1 ?Tz1 ?ez1 ?hvz1 ?hnz1 ?_ ?h1z1 ?h2z1 ?h3z1;(case h1z1=>exact rfl);(case h2z1=>exact rfl);(case h3z1=>decide);(case Fz1=>k_asm);(case Xz1=>k_asm);(case Tz1=>k_asm);(case ez1=>k_is);(case hvz1=>first | exact rfl | k_is);(case hnz1=>decide)))) | row_walkt)
  have hc2:=hos c (List.mem_of_getElem? hc)
  refine chr_of_range (by exact o2) (by exact o57 hc2) ?_
  dsimp +zetaDelta only
  refine push_at hin2 (by assumption) (by assumption) ?_ fun h' F' N'=>?_
  ·have q1:=StrsAre.length hys
   have q2 : (os.take i).length <= os.length:=List.length_take_le' _ _
   rw [List.length_map] at q1
   exact o186 q1 hlen q2
  refine CEnd.same hin off hC2 F' N' hS ⟨_,rfl,rfl,lt,?_⟩
  rw [List.take_add_one,hc,Option.toList_some,List.map_append]
  exact StrsAre.append' hys (.cons _ _ .nil)
 ·rintro D oD led h tk hE2 hS h'' F' N';refine bc fun g0=>?_;obtain ⟨ys,rfl,rfl,lt,hys⟩:=hE2;refine g0 ?_;clear g0
  repeat' row_walkt
  rw [List.take_of_length_le (by have:=IntsAre.length hO;rw [List.length_map] at this;rw [List.size_toArray];exact o54 this)] at hys
  refine join_listW (D:=D) (items:=ys.toArray) ⟨_,N'.get (.head _),rfl,_,rfl⟩ (by simpa using hys) ?_ ?_ ?_
  ·decide
  ·rw [sum_ones,List.length_map];exact o187 hlen
  ·intro t' tk'
   rw [show Txt.join (Str.ofString "") (os.map fun c=>⟨#[c]⟩) = ⟨os.toArray⟩ from by rw [lit_emp];exact join_ones os]
   clear N F
   repeat' row_walkt
   exact hret _ _ _ (by assumption) fun q hq=>by rename_i kN;exact kN q (.tail _ hq)
end
end
section
noncomputable def stG : Stmt:=(blaw)[8]?.getD (.Pass ⟨0,0,0,0⟩)
noncomputable abbrev but (c : Addr) (news : Led) : Led:=news.filter fun q=>q.1 != c
theorem mem_but {c : Addr} {news : Led} {q : Addr × Obj} (h : q ∈ news) (hn : q.1 ≠ c) : q ∈ but c news:=List.mem_filter.mpr ⟨h,by simpa using hn⟩
theorem but_ne {c : Addr} {news : Led} : ∀ q ∈ but c news,q.1 ≠ c:=fun q h=>by simpa using (List.mem_filter.mp h).2
section
variable {M : Model} {A : Around} {E : Value -> Shared -> Prop} {s : Shared} {h₀ : Heap} {L a c : Addr} {m : Str -> Option Value} {cn : Str} {cs : Scope} {ccd : Value} {cl : List (Str × Addr)} {x : Str} {v : Value} {v₀ : Option Value} {o : Obj} {news : Led} {Q : Unit -> Shared -> Prop}
theorem cell_store (F : Fr h₀ L s.heap m) (N : News h₀ L s.heap news) (hc : cl.lookup x = some c) (hm : (c,o) ∈ news) (hd : o.data = .cell v₀) (hk : cs.kind = .function) (hx : (envX cn cs L a ccd cl).kindOf x = some .cell)
  (h : ∀ h' o',o'.data = .cell (some v) -> Fr h₀ L h' m -> News h₀ L h' ((c,o') :: but c news) -> Q () { s with heap:=h' }) : wpAny M A (storeName (envX cn cs L a ccd cl) x v) Q E s:=by
 have hmem:=N (c,o) hm
 refine wpAny_storeName_cell hk hx hc ⟨o,hmem.1,hd⟩ fun h' hv hs=>?_
 obtain ⟨o',ho',hd'⟩:=hv
 refine h h' o' hd' ⟨F.ns.sameBut hs (Ne.symm hmem.2.1),fun b ob e=>(hs.2 b (fun q=>?_)).trans (F.keep b ob e),F.above⟩ fun q hq=>?_
 ·rw [q,hmem.2.2] at e;cases e
 ·rcases List.mem_cons.mp hq with rfl | hq
  ·exact ⟨ho',hmem.2⟩
  ·have z:=N q (List.mem_filter.mp hq).1
   exact ⟨(hs.2 _ (but_ne q hq)).trans z.1,z.2⟩
end
section
variable {w : World} {p : Program} {loose : List Str} {mean : ExcName -> Option Value} {mg mb : Str -> Option Value} {news : Led}
theorem figs_k (cH cF : Addr) (oF : Obj) (v₀ : Option Value) (hcF : (cF,oF) ∈ news) (hoF : oF.data = .cell v₀)
  (dp un : Nat) (gd : Option (List Code)) (aa : Addr) (ccd : Value) (outer : List Env) (A₀ : Around) (base h₀ : Heap) (L : Addr) (m : Str -> Option Value) (s : Shared) (Q : Flow -> Shared -> Prop) (E : Value -> Shared -> Prop)
  (B : Below A₀ base outer h₀) (F : Fr h₀ L s.heap m) (X : (K w.params).In h₀) (N : News h₀ L s.heap news) (T : Top p loose mean mg mb h₀)
  (hret : ∀ h' o' t tk',o'.data = .cell (some (.str ⟨signs.toArray⟩ t)) -> Fr h₀ L h' m -> News h₀ L h' ((cF,o') :: but cF news) -> Q .next { s with heap:=h',toks:=tk' }) :
  wpAny (mdl w) (ktrTop dp un gd (Str.ofString "law") slaw L aa ccd [(Str.ofString "figures",cF),(Str.ofString "held",cH)] outer) (exec stG (envX (Str.ofString "law") slaw L aa ccd [(Str.ofString "figures",cF),(Str.ofString "held",cH)])) Q E s:=by
 unfold stG
 dsimp only [blaw]
 show wpAny _ _ (exec (.Assign _ _ _) _) _ _ _
 repeat' row_walkt
 rw [lit_signs]
 refine cell_store F N rfl hcF hoF rfl rfl fun h' o' hd' F' N'=>?_
 exact hret h' o' _ _ hd' F' N'
end
end
section
noncomputable def sdl (x : Tp) (ts : List Tp) (p : Nat) : List Tp :=
 (measure fun q : List Tp × Nat=>q.2).wf.fix (fun q ih =>
  if h : 0 < q.2 then match q.1[(q.2 - 1) / 2]? with
   | some y=>if x.less y then ih (q.1.set q.2 y,(q.2 - 1) / 2) (o379 h) else q.1.set q.2 x
   | none=>q.1.set q.2 x
  else q.1.set q.2 x) (ts,p)
theorem sdl_eq (x : Tp) (ts : List Tp) (p : Nat) : sdl x ts p = if 0 < p then match ts[(p - 1) / 2]? with
  | some y=>if x.less y then sdl x (ts.set p y) ((p - 1) / 2) else ts.set p x
  | none=>ts.set p x
 else ts.set p x:=by
 unfold sdl
 rw [WellFounded.fix_eq]
 rfl
theorem sdl_zero (x : Tp) (ts : List Tp) : sdl x ts 0 = ts.set 0 x:=by rw [sdl_eq];rfl
theorem sdl_up {x y : Tp} {ts : List Tp} {p : Nat} (h : 0 < p) (hy : ts[(p - 1) / 2]? = some y) (hl : x.less y) : sdl x ts p = sdl x (ts.set p y) ((p - 1) / 2):=by
 rw [sdl_eq,if_pos h,hy];exact if_pos hl
theorem sdl_stop {x y : Tp} {ts : List Tp} {p : Nat} (hy : ts[(p - 1) / 2]? = some y) (hl : ¬ x.less y) : sdl x ts p = ts.set p x:=by
 rw [sdl_eq,hy];simp only [hl,if_false,ite_self]
section
variable {w : World} {p : Program} {loose : List Str} {mean : ExcName -> Option Value} {mg mb : Str -> Option Value}
structure Sd where
 p : Nat
 ts : List Tp
 tk : Tok
theorem siftdown_ok (D : Addr) (rest : Led) (ts : List Tp) (n : Nat) (x : Tp) (i : Nat) (hx : ts[i]? = some x) (htp : ∀ t ∈ ts,IsTp rest t) (hne : ∀ q ∈ rest,q.1 ≠ D) (hlen : ts.length <= 1000) (t1 t2 : Tok) :
  Ok w p loose mean mg mb 145 [.ref D,.int 0 t1,.int i t2] 2 16 ((D,listOf (vals ts).toArray n) :: rest) (fun v news'=>v = .none /\ news' = (D,listOf (vals (sdl x ts i)).toArray n) :: rest):=by
 intro dp un gd cn cs a ccd cl outer A₀ base h₀ L m s Q E B F X N T hk hd hu hret
 refine wpAny_call ?_
 k_dflt cell_enter
 dsimp only [busiftdown,lhsOf]
 have hxT : IsTp rest x:=htp _ (List.mem_of_getElem? hx)
 have hi : i < ts.length:=(List.getElem?_eq_some_iff.mp hx).1
 repeat' (first | with_reducible (first | ((show wpAny _ _ (subscriptTail (PySem.Expr.Name _ _) (PySem.Expr.Name _ _) (Value.ref _) (Value.int _ _)) _ _ _);(k_dflt (refine' tp_subK ?h1z1 ?h2z1 ?h3z1 ?h4z1 ?_ ?h6z1;(case h1z1=>k_asm);(case h2z1=>k_mem);(case h3z1=>assumption);(case h4z1=>assumption);(case h6z1=>with_unfolding_all rfl))))) | row_walkt)
 (with_reducible rename Fr _ _ _ _=>F9)
 (with_reducible rename News _ _ _ _=>N9)
 refine ksw_while (σ:=Sd) (fun c=>(D,listOf (vals c.ts).toArray n) :: rest) (fun c=>[(Str.ofString "pos",.int c.p c.tk)]) (fun _=>True) [Str.ofString "parentpos",Str.ofString "parent"]
  (fun c=>sdl x c.ts c.p = sdl x ts i /\ c.p < c.ts.length /\ c.ts.length = ts.length /\ ∀ t ∈ c.ts,IsTp rest t) (fun c=>c.p) ⟨i,ts,t2⟩ F9 N9 trivial ?_ ⟨rfl,hi,rfl,htp⟩ ?_
 ·intro p hp;obtain rfl:=List.mem_singleton.mp hp;rfl
 rintro ⟨q,us,tq⟩ u h tk - ⟨e1,e2,e3,e4⟩ Fq Nq
 dsimp only at e1 e2 e3 e4 Fq Nq
 repeat' (first | with_reducible (first | ((show wpAny _ _ (binaryOp PySem.Operator.RShift (Value.int _ _) (Value.int _ _)) _ _ _);((refine' rsh1 ?h1z2 ?_;(case h1z2=>(first | exact o380 (by assumption) | omega)));intro t'z2 k'z2)) | ((show wpAny _ _ (compareOp PySem.CmpOp.Lt (Value.ref _) (Value.ref _)) _ _ _);(k_dflt (refine' tp_lt ?h1z3 ?h2z3 ?h3z3 ?h4z3 ?_;(case h1z3=>k_asm);(case h2z3=>first | assumption | exact (by assumption : ∀ t ∈ _,IsTp _ t) _ (List.mem_of_getElem? (by assumption)));(case h3z3=>first | assumption | exact (by assumption : ∀ t ∈ _,IsTp _ t) _ (List.mem_of_getElem? (by assumption)));(case h4z3=>ktr_units)))) | ((show wpAny _ _ (setItem (Value.ref _) (Value.int _ _) _) _ _ _);(k_dflt (refine' tp_set ?h1z4 ?h2z4 ?h3z4 ?h4z4 ?h5z4 ?h6z4 ?_;(case h1z4=>k_asm);(case h2z4=>k_asm);(case h3z4=>assumption);(case h4z4=>(first | exact o2 | omega));(case h5z4=>(first | exact o12 e2 | omega));(case h6z4=>omega));intro h'z4 F'z4 N'z4;(try simp only [Int.toNat_natCast] at N'z4))) | ((show wpAny _ _ (subscriptTail (PySem.Expr.Name _ _) (PySem.Expr.Name _ _) (Value.ref _) (Value.int _ _)) _ _ _);(k_dflt (refine' tp_sub ?h1z5 ?h2z5 ?h3z5 ?h4z5 ?h5z5 ?_ ?h6z5;(case h1z5=>k_asm);(case h2z5=>k_mem);(case h3z5=>(first | exact o381 | omega));(case h4z5=>(first | exact o382 e2 | omega));(case h5z5=>omega);(case h6z5=>with_unfolding_all rfl));intro xt hxt;(try simp only [Int.toNat_natCast] at hxt)))) | row_walkt)
 ·(with_reducible rename us[_]? = some _=>hxt)
  (with_reducible rename Tp.less _ _=>hless)
  (with_reducible rename Fr _ _ _ _=>F9)
  (with_reducible rename News _ _ _ _=>N9)
  have he : ((q : Int) - 1).toNat = q - 1:=by exact o116
  refine' ksw_end (Sd.mk (((q : Int) - 1).toNat / 2) (us.set q _) _) F9 N9 (fun p h=>h) trivial ?_ ?_ ⟨?_,?_,?_,?_⟩ ?_
  rotate_left 1
  ·intro p hp;obtain rfl:=List.mem_singleton.mp hp;rfl
  ·intro z h2 h3
   have z1 : z ≠ Str.ofString "pos":=h2 _ (.head _)
   have h3':=h3
   simp only [List.contains_cons,List.contains_nil,Bool.or_false,Bool.or_eq_false_iff,beq_eq_false_iff_ne,ne_eq] at h3'
   dsimp +zetaDelta only
   rw [if_neg z1,if_neg h3'.2,if_neg h3'.1]
   show (if z = Str.ofString "pos" then _ else (if _ = true then u z else _)) = _
   rw [if_neg z1,h3]
   rfl
  ·dsimp only
   rw [he] at hxt ⊢
   rw [<- e1]
   exact (sdl_up (by (first | exact o384 (by assumption) | omega)) hxt hless).symm
  ·simp only [List.length_set];exact o385 e2
  ·simp only [List.length_set];exact e3
  ·intro t ht
   rcases List.mem_or_eq_of_mem_set ht with h | rfl
   ·exact e4 t h
   ·exact e4 _ (List.mem_of_getElem? hxt)
  ·dsimp only;(first | exact o386 (by assumption) | omega)
 ·(with_reducible rename us[_]? = some _=>hxt)
  (with_reducible rename ¬ Tp.less _ _=>hless)
  refine hret _ _ _ _ ⟨rfl,?_⟩ (by assumption) (by assumption)
  have he : ((q : Int) - 1).toNat = q - 1:=by exact o116
  rw [he] at hxt
  rw [<- e1,sdl_stop hxt hless]
 ·refine hret _ _ _ _ ⟨rfl,?_⟩ (by assumption) (by assumption)
  obtain rfl : q = 0:=by (first | exact o387 (by assumption) | omega)
  rw [<- e1,sdl_zero]
end
end
section
noncomputable def kid (ts : List Tp) (p : Nat) : Nat :=
 match ts[2 * p + 1]?,ts[2 * p + 2]? with
 | some a,some b=>if a.less b then 2 * p + 1 else 2 * p + 2
 | _,_=>2 * p + 1
theorem kid_gt (ts : List Tp) (p : Nat) : p < kid ts p:=by
 unfold kid;split
 ·split <;> (first | exact o41 | exact o388 | omega)
 ·exact o41
noncomputable def sul (x : Tp) (ts : List Tp) (p : Nat) : List Tp :=
 (measure fun q : List Tp × Nat=>q.1.length - q.2).wf.fix (fun q ih =>
  if h : 2 * q.2 + 1 < q.1.length then match q.1[kid q.1 q.2]? with
   | some y=>ih (q.1.set q.2 y,kid q.1 q.2) (by
     show (q.1.set q.2 y).length - kid q.1 q.2 < q.1.length - q.2
     have:=kid_gt q.1 q.2
     simp only [List.length_set]
     exact o389 h this)
   | none=>q.1
  else sdl x (q.1.set q.2 x) q.2) (ts,p)
theorem sul_eq (x : Tp) (ts : List Tp) (p : Nat) : sul x ts p = if 2 * p + 1 < ts.length then match ts[kid ts p]? with
  | some y=>sul x (ts.set p y) (kid ts p)
  | none=>ts
 else sdl x (ts.set p x) p:=by
 unfold sul
 rw [WellFounded.fix_eq]
 rfl
theorem sul_down {x y : Tp} {ts : List Tp} {p : Nat} (h : 2 * p + 1 < ts.length) (hy : ts[kid ts p]? = some y) : sul x ts p = sul x (ts.set p y) (kid ts p):=by
 rw [sul_eq,if_pos h,hy]
theorem sul_end {x : Tp} {ts : List Tp} {p : Nat} (h : ¬ 2 * p + 1 < ts.length) : sul x ts p = sdl x (ts.set p x) p:=by
 rw [sul_eq,if_neg h]
theorem kid_one {ts : List Tp} {p : Nat} {a : Tp} (ha : ts[2 * p + 1]? = some a) (hn : ¬ 2 * p + 2 < ts.length) : kid ts p = 2 * p + 1:=by
 unfold kid;rw [List.getElem?_eq_none (by exact o117 hn : ts.length <= 2 * p + 2)];simp [ha]
theorem kid_left {ts : List Tp} {p : Nat} {a b : Tp} (h : a.less b) (ha : ts[2 * p + 1]? = some a) (hb : ts[2 * p + 2]? = some b) : kid ts p = 2 * p + 1:=by
 unfold kid;simp [ha,hb,h]
theorem kid_right {ts : List Tp} {p : Nat} {a b : Tp} (h : ¬ a.less b) (ha : ts[2 * p + 1]? = some a) (hb : ts[2 * p + 2]? = some b) : kid ts p = 2 * p + 2:=by
 unfold kid;simp [ha,hb,h]
section
variable {w : World} {p : Program} {loose : List Str} {mean : ExcName -> Option Value} {mg mb : Str -> Option Value}
theorem set_mem {ts : List Tp} {i : Nat} {x : Tp} {P : Tp -> Prop} (h : ∀ t ∈ ts,P t) (hx : P x) : ∀ t ∈ ts.set i x,P t:=fun t ht=>by
 rcases List.mem_or_eq_of_mem_set ht with h1 | rfl
 ·exact h t h1
 ·exact hx
structure Su where
 p : Nat
 ts : List Tp
 tp : Tok
 tc : Tok
theorem siftup_ok (D : Addr) (rest : Led) (ts : List Tp) (n : Nat) (x : Tp) (hx : ts[0]? = some x) (htp : ∀ t ∈ ts,IsTp rest t) (hne : ∀ q ∈ rest,q.1 ≠ D) (hlen : ts.length <= 1000) (t1 : Tok) :
  Ok w p loose mean mg mb 152 [.ref D,.int 0 t1] 3 24 ((D,listOf (vals ts).toArray n) :: rest) (fun v news'=>v = .none /\ news' = (D,listOf (vals (sul x ts 0)).toArray n) :: rest):=by
 intro dp un gd cn cs a ccd cl outer A₀ base h₀ L m s Q E B F X N T hk hd hu hret
 refine wpAny_call ?_
 k_dflt cell_enter
 dsimp only [busiftup,lhsOf]
 have hxT : IsTp rest x:=htp _ (List.mem_of_getElem? hx)
 have hi : 0 < ts.length:=(List.getElem?_eq_some_iff.mp hx).1
 repeat' (first | with_reducible (first | ((show wpAny _ _ (call (Value.builtin "len") _) _ _ _);(k_dflt (refine' tp_len ?h1z1 ?h2z1 ?h3z1 ?_;(case h1z1=>k_asm);(case h2z1=>k_mem);(case h3z1=>assumption));intro t'z1 k'z1)) | ((show wpAny _ _ (subscriptTail (PySem.Expr.Name _ _) (PySem.Expr.Name _ _) (Value.ref _) (Value.int _ _)) _ _ _);(k_dflt (refine' tp_subK ?h1z2 ?h2z2 ?h3z2 ?h4z2 ?_ ?h6z2;(case h1z2=>k_asm);(case h2z2=>k_mem);(case h3z2=>assumption);(case h4z2=>assumption);(case h6z2=>with_unfolding_all rfl))))) | row_walkt)
 (with_reducible rename Fr _ _ _ _=>F9)
 (with_reducible rename News _ _ _ _=>N9)
 refine' ksw_while (σ:=Su) (fun c=>(D,listOf (vals c.ts).toArray n) :: rest) (fun c=>[(Str.ofString "pos",.int c.p c.tp),(Str.ofString "childpos",.int (2 * (c.p : Int) + 1) c.tc)]) (fun _=>True) [Str.ofString "rightpos"]
  (fun c=>sul x c.ts c.p = sul x ts 0 /\ c.p < c.ts.length /\ c.ts.length = ts.length /\ ∀ t ∈ c.ts,IsTp rest t) (fun c=>c.ts.length - c.p) ⟨0,ts,t1,_⟩ F9 N9 trivial ?_ ⟨rfl,hi,rfl,htp⟩ ?_
 rotate_left 1
 ·intro p hp
  rcases List.mem_cons.mp hp with rfl | hp
  ·rfl
  ·obtain rfl:=List.mem_singleton.mp hp;rfl
 rintro ⟨q,us,tq,tc⟩ u h tk - ⟨e1,e2,e3,e4⟩ Fq Nq
 dsimp only at e1 e2 e3 e4 Fq Nq
 repeat' (first | with_reducible (first | ((show wpAny _ _ (call (Value.ref 145) _) _ _ _);k_dflt (refine' siftdown_ok _ _ _ _ _ _ ?hxz3 ?htz3 ?hnz3 ?hlz3 _ _ _ _ _ _ _ _ _ _ _ _ _ _ _ _ _ _ _ ?Bz3 ?Fz3 ?Xz3 ?Nz3 ?Tz3 ?kz3 ?dz3 ?uz3 ?_;(case hxz3=>exact List.getElem?_set_self (by assumption));(case htz3=>exact set_mem (by assumption) (by assumption));(case hnz3=>assumption);(case hlz3=>(rw [List.length_set];(first | exact o393 e3 hlen | omega)));(case Bz3=>k_asm);(case Fz3=>k_asm);(case Xz3=>k_asm);(case Nz3=>k_asm);(case Tz3=>k_asm);(case kz3=>first | exact rfl | assumption);(case dz3=>ktr_room);(case uz3=>ktr_units));intro v'z3 news'z3 h'z3 tk'z3 hr'z3 F'z3 N'z3;obtain ⟨hv'z3,hn'z3⟩:=hr'z3;subst hn'z3;subst hv'z3;(try k_fold)) | ((show wpAny _ _ (compareOp PySem.CmpOp.Lt (Value.ref _) (Value.ref _)) _ _ _);(k_dflt (refine' tp_lt ?h1z4 ?h2z4 ?h3z4 ?h4z4 ?_;(case h1z4=>k_asm);(case h2z4=>first | assumption | exact (by assumption : ∀ t ∈ _,IsTp _ t) _ (List.mem_of_getElem? (by assumption)));(case h3z4=>first | assumption | exact (by assumption : ∀ t ∈ _,IsTp _ t) _ (List.mem_of_getElem? (by assumption)));(case h4z4=>ktr_units)))) | ((show wpAny _ _ (setItem (Value.ref _) (Value.int _ _) _) _ _ _);(k_dflt (refine' tp_set ?h1z5 ?h2z5 ?h3z5 ?h4z5 ?h5z5 ?h6z5 ?_;(case h1z5=>k_asm);(case h2z5=>k_asm);(case h3z5=>assumption);(case h4z5=>(first | exact o2 | omega));(case h5z5=>(first | exact o12 e2 | exact o392 (by assumption) e3 | omega));(case h6z5=>omega));intro h'z5 F'z5 N'z5;(try simp only [Int.toNat_natCast] at N'z5))) | ((show wpAny _ _ (subscriptTail (PySem.Expr.Name _ _) (PySem.Expr.Name _ _) (Value.ref _) (Value.int _ _)) _ _ _);(k_dflt (refine' tp_sub ?h1z6 ?h2z6 ?h3z6 ?h4z6 ?h5z6 ?_ ?h6z6;(case h1z6=>k_asm);(case h2z6=>k_mem);(case h3z6=>(first | exact o67 | exact o119 | omega));(case h4z6=>(first | exact o118 (by assumption) e3 | exact o120 (by assumption) e3 | exact o391 (by assumption) e3 | omega));(case h5z6=>omega);(case h6z6=>with_unfolding_all rfl));intro xt hxt))) | row_walkt)
 ·(with_reducible rename Fr _ _ _ _=>F9)
  (with_reducible rename News _ _ _ _=>N9)
  (with_reducible rename us[_]? = some _=>hy)
  refine' ksw_end (Su.mk (2 * q + 1) (us.set q _) _ _) F9 N9 (fun p h=>h) trivial ?_ ?_ ⟨?_,?_,?_,?_⟩ ?_
  rotate_left 2
  ·intro p hp
   rcases List.mem_cons.mp hp with rfl | hp
   ·rfl
   ·obtain rfl:=List.mem_singleton.mp hp;rfl
  ·intro z h2 h3
   have z1 : ¬ z = Str.ofString "pos":=h2 _ (.head _)
   have z2 : ¬ z = Str.ofString "childpos":=h2 _ (.tail _ (.head _))
   have h3':=h3
   simp only [List.contains_cons,List.contains_nil,Bool.or_false,beq_eq_false_iff_ne,ne_eq] at h3'
   simp +zetaDelta only [kstB,if_neg z1,if_neg z2,if_neg h3',h3,Bool.false_eq_true,if_false]
  ·dsimp only
   have t1 : (2 * (q : Int) + 1).toNat = 2 * q + 1:=by exact o68
   have t2 : (2 * (q : Int) + 1 + 1).toNat = 2 * q + 2:=by exact o69
   simp only [t1,t2] at *
   have ek : kid us q = 2 * q + 1:=kid_left (by assumption) (by assumption) (by assumption)
   have hq : 2 * q + 1 < us.length:=by (first | exact o70 (by assumption) e3 | omega)
   have hd9:=sul_down (x:=x) hq (by rw [ek];exact hy)
   rw [ek] at hd9
   exact hd9.symm.trans e1
  ·simp only [List.length_set];(first | exact o70 (by assumption) e3 | omega)
  ·simp only [List.length_set];exact e3
  ·exact set_mem e4 (e4 _ (List.mem_of_getElem? hy))
  ·simp only [List.length_set];(first | exact o394 (by assumption) e3 | omega)
 ·(with_reducible rename Fr _ _ _ _=>F9)
  (with_reducible rename News _ _ _ _=>N9)
  (with_reducible rename us[_]? = some _=>hy)
  refine' ksw_end (Su.mk (2 * q + 1 + 1) (us.set q _) _ _) F9 N9 (fun p h=>h) trivial ?_ ?_ ⟨?_,?_,?_,?_⟩ ?_
  rotate_left 2
  ·intro p hp
   rcases List.mem_cons.mp hp with rfl | hp
   ·rfl
   ·obtain rfl:=List.mem_singleton.mp hp;rfl
  ·intro z h2 h3
   have z1 : ¬ z = Str.ofString "pos":=h2 _ (.head _)
   have z2 : ¬ z = Str.ofString "childpos":=h2 _ (.tail _ (.head _))
   have h3':=h3
   simp only [List.contains_cons,List.contains_nil,Bool.or_false,beq_eq_false_iff_ne,ne_eq] at h3'
   simp +zetaDelta only [kstB,if_neg z1,if_neg z2,if_neg h3',h3,Bool.false_eq_true,if_false]
  ·dsimp only
   have t1 : (2 * (q : Int) + 1).toNat = 2 * q + 1:=by exact o68
   have t2 : (2 * (q : Int) + 1 + 1).toNat = 2 * q + 2:=by exact o69
   simp only [t1,t2] at *
   have ek : kid us q = 2 * q + 1 + 1:=kid_right (by assumption) (by assumption) (by assumption)
   have hq : 2 * q + 1 < us.length:=by (first | exact o70 (by assumption) e3 | omega)
   have hd9:=sul_down (x:=x) hq (by rw [ek];exact hy)
   rw [ek] at hd9
   exact hd9.symm.trans e1
  ·simp only [List.length_set];(first | exact o395 (by assumption) e3 | omega)
  ·simp only [List.length_set];exact e3
  ·exact set_mem e4 (e4 _ (List.mem_of_getElem? hy))
  ·simp only [List.length_set];(first | exact o396 (by assumption) e3 | omega)
 ·(with_reducible rename Fr _ _ _ _=>F9)
  (with_reducible rename News _ _ _ _=>N9)
  (with_reducible rename us[_]? = some _=>hy)
  refine' ksw_end (Su.mk (2 * q + 1) (us.set q _) _ _) F9 N9 (fun p h=>h) trivial ?_ ?_ ⟨?_,?_,?_,?_⟩ ?_
  rotate_left 2
  ·intro p hp
   rcases List.mem_cons.mp hp with rfl | hp
   ·rfl
   ·obtain rfl:=List.mem_singleton.mp hp;rfl
  ·intro z h2 h3
   have z1 : ¬ z = Str.ofString "pos":=h2 _ (.head _)
   have z2 : ¬ z = Str.ofString "childpos":=h2 _ (.tail _ (.head _))
   have h3':=h3
   simp only [List.contains_cons,List.contains_nil,Bool.or_false,beq_eq_false_iff_ne,ne_eq] at h3'
   simp +zetaDelta only [kstB,if_neg z1,if_neg z2,if_neg h3',h3,Bool.false_eq_true,if_false]
  ·dsimp only
   have t1 : (2 * (q : Int) + 1).toNat = 2 * q + 1:=by exact o68
   have t2 : (2 * (q : Int) + 1 + 1).toNat = 2 * q + 2:=by exact o69
   simp only [t1,t2] at *
   have ek : kid us q = 2 * q + 1:=kid_one hy (by (first | exact o397 e3 (by assumption) | omega))
   have hq : 2 * q + 1 < us.length:=by (first | exact o123 (by assumption) e3 | omega)
   have hd9:=sul_down (x:=x) hq (by rw [ek];exact hy)
   rw [ek] at hd9
   exact hd9.symm.trans e1
  ·simp only [List.length_set];(first | exact o123 (by assumption) e3 | omega)
  ·simp only [List.length_set];exact e3
  ·exact set_mem e4 (e4 _ (List.mem_of_getElem? hy))
  ·simp only [List.length_set];(first | exact o398 (by assumption) e3 | omega)
 ·refine hret _ _ _ _ ⟨rfl,?_⟩ (by assumption) (by assumption)
  rw [<- e1,sul_end (by (first | exact o399 e3 (by assumption) | omega))]
end
end
section
section
variable {prog : Program} {w : World} {A : Around} {E : Value -> Shared -> Prop} {s : Shared} {h₀ : Heap} {L D : Addr} {m : Str -> Option Value} {news rest : Led} {ts : List Tp} {n : Nat} {k : Int} {t u : Tok}
theorem tp_append {x : Tp} {Q : Value -> Shared -> Prop} (F : Fr h₀ L s.heap m) (N : News h₀ L s.heap ((D,listOf (vals ts).toArray n) :: rest)) (hne : ∀ p ∈ rest,p.1 ≠ D) (hl : ts.length <= 1000)
  (h : ∀ h',Fr h₀ L h' m -> News h₀ L h' ((D,listOf (vals (ts ++ [x])).toArray (n + 1)) :: rest) -> Q .none { s with heap:=h' }) :
  wpAny (model prog w) A (call (.builtin "list.append") [.ref D,.ref x.a]) Q E s:=by
 have e : (vals ts).toArray.push (.ref x.a) = (vals (ts ++ [x])).toArray:=by unfold vals;simp
 refine append_K F N (Upd.head hne) (fun h' F' N'=>h h' F' (by rw [<- e];exact N')) ?_
 simp only [List.size_toArray,vals_length]
 have : 1000 <= sizeLine:=by rw [sizeLine_eq];exact o400
 exact o401 this hl
theorem kl_last_app : ∀ (l : List Value) (y : Value),kl_last (l ++ [y]) = some (l,y)
 | [],y=>rfl
 | a :: l,y=>by
  show (match kl_last (l ++ [y]) with | some (p,y)=>some (a :: p,y) | none=>some ([],a)) = _
  rw [kl_last_app l y]
theorem tp_pop {x : Tp} {Q : Value -> Shared -> Prop} (F : Fr h₀ L s.heap m) (N : News h₀ L s.heap ((D,listOf (vals (ts ++ [x])).toArray n) :: rest)) (hne : ∀ p ∈ rest,p.1 ≠ D) (hl : ts.length <= 1000)
  (h : ∀ h',Fr h₀ L h' m -> News h₀ L h' ((D,listOf (vals ts).toArray (n + 1)) :: rest) -> Q (.ref x.a) { s with heap:=h' }) :
  wpAny (model prog w) A (call (.builtin "list.pop") [.ref D]) Q E s:=by
 have e : vals (ts ++ [x]) = vals ts ++ [.ref x.a]:=by unfold vals;simp
 rw [e] at N
 refine kl_pop F N (kl_last_app _ _) (Upd.head hne) ?_ h
 simp only [List.length_append,vals_length,List.length_cons,List.length_nil]
 have : 1001 <= sizeLine:=by rw [sizeLine_eq];exact o402
 exact o403 this hl
theorem tp_truthy {Q : Bool -> Shared -> Prop} (N : News h₀ L s.heap news) (hm : (D,listOf (vals ts).toArray n) ∈ news) (hl : ts.length <= 1000) (h : ∀ k,Q (!ts.isEmpty) { s with toks:=k }) :
  wpAny (model prog w) A (truthy (.ref D)) Q E s:=by
 have hL:=PySem.IsL.isList (n:=n) (N _ hm).1
 refine wpAny_truthy_list hL (by simp [vals_length];exact o115 hl) ?_
 have e : (!(vals ts).toArray.isEmpty) = !ts.isEmpty:=by cases ts <;> rfl
 rw [e]
 exact h _
end
section
variable {w : World} {p : Program} {loose : List Str} {mean : ExcName -> Option Value} {mg mb : Str -> Option Value}
theorem app_mem {ts : List Tp} {x : Tp} {P : Tp -> Prop} (h : ∀ t ∈ ts,P t) (hx : P x) : ∀ t ∈ ts ++ [x],P t:=fun t ht=>by
 rcases List.mem_append.mp ht with h1 | h1
 ·exact h t h1
 ·rw [List.mem_singleton.mp h1];exact hx
theorem siftdown_push (D : Addr) (rest : Led) (ts : List Tp) (n : Nat) (x : Tp) (hxT : IsTp rest x) (htp : ∀ t ∈ ts,IsTp rest t) (hne : ∀ q ∈ rest,q.1 ≠ D) (hlen : ts.length <= 900) (t1 t2 : Tok) :
  Ok w p loose mean mg mb 145 [.ref D,.int 0 t1,.int (((ts ++ [x]).length : Int) - 1) t2] 2 16 ((D,listOf (vals (ts ++ [x])).toArray n) :: rest) (fun v news'=>v = .none /\ news' = (D,listOf (vals (sdl x (ts ++ [x]) ts.length)).toArray n) :: rest):=by
 have e : (((ts ++ [x]).length : Int) - 1) = ((ts.length : Nat) : Int):=by rw [List.length_append];simp
 rw [e]
 exact siftdown_ok D rest (ts ++ [x]) n x ts.length List.getElem?_concat_length (app_mem htp hxT) hne (by rw [List.length_append];simp;exact o124 hlen) t1 t2
section
theorem heappush_ok (D : Addr) (rest : Led) (ts : List Tp) (n : Nat) (x : Tp) (hxT : IsTp rest x) (htp : ∀ t ∈ ts,IsTp rest t) (hne : ∀ q ∈ rest,q.1 ≠ D) (hlen : ts.length <= 900) :
  Ok w p loose mean mg mb 124 [.ref D,.ref x.a] 3 24 ((D,listOf (vals ts).toArray n) :: rest) (fun v news'=>v = .none /\ news' = (D,listOf (vals (sdl x (ts ++ [x]) ts.length)).toArray (n + 1)) :: rest):=by
 intro dp un gd cn cs a ccd cl outer A₀ base h₀ L m s Q E B F X N T hk hd hu hret
 refine wpAny_call ?_
 k_dflt cell_enter
 dsimp only [bheappush,lhsOf]
 repeat' (first | with_reducible (first | ((show wpAny _ _ (call (Value.builtin "list.append") _) _ _ _);(k_dflt (refine' tp_append ?h1z1 ?h2z1 ?h3z1 ?h4z1 ?_;(case h1z1=>k_asm);(case h2z1=>k_asm);(case h3z1=>assumption);(case h4z1=>(first | exact o404 hlen | omega)));intro h'z1 F'z1 N'z1)) | ((show wpAny _ _ (call (Value.builtin "len") _) _ _ _);(k_dflt (refine' tp_len ?h1z2 ?h2z2 ?h3z2 ?_;(case h1z2=>k_asm);(case h2z2=>k_mem);(case h3z2=>(rw [List.length_append];simp;(first | exact o124 hlen | omega))));intro t'z2 k'z2)) | ((show wpAny _ _ (call (Value.ref 145) _) _ _ _);k_dflt (refine' siftdown_push _ _ _ _ _ ?hxz3 ?htz3 ?hnz3 ?hlz3 _ _ _ _ _ _ _ _ _ _ _ _ _ _ _ _ _ _ _ ?Bz3 ?Fz3 ?Xz3 ?Nz3 ?Tz3 ?kz3 ?dz3 ?uz3 ?_;(case hxz3=>assumption);(case htz3=>assumption);(case hnz3=>assumption);(case hlz3=>assumption);(case Bz3=>k_asm);(case Fz3=>k_asm);(case Xz3=>k_asm);(case Nz3=>k_asm);(case Tz3=>k_asm);(case kz3=>first | exact rfl | assumption);(case dz3=>ktr_room);(case uz3=>ktr_units));intro v'z3 news'z3 h'z3 tk'z3 hr'z3 F'z3 N'z3;obtain ⟨hv'z3,hn'z3⟩:=hr'z3;subst hn'z3;subst hv'z3;(try k_fold))) | row_walkt)
 exact hret _ _ _ _ ⟨rfl,rfl⟩ (by assumption) (by assumption)
end
section
theorem heapreplace_ok (D : Addr) (rest : Led) (z : Tp) (ts : List Tp) (n : Nat) (x : Tp) (hxT : IsTp rest x) (htp : ∀ t ∈ z :: ts,IsTp rest t) (hne : ∀ q ∈ rest,q.1 ≠ D) (hlen : ts.length <= 900) :
  Ok w p loose mean mg mb 138 [.ref D,.ref x.a] 4 32 ((D,listOf (vals (z :: ts)).toArray n) :: rest) (fun v news'=>v = .ref z.a /\ news' = (D,listOf (vals (sul x (x :: ts) 0)).toArray n) :: rest):=by
 intro dp un gd cn cs a ccd cl outer A₀ base h₀ L m s Q E B F X N T hk hd hu hret
 refine wpAny_call ?_
 k_dflt cell_enter
 dsimp only [bheapreplace,lhsOf]
 repeat' (first | with_reducible (first | ((show wpAny _ _ (call (Value.ref 152) _) _ _ _);k_dflt (refine' siftup_ok _ _ _ _ _ ?hxz4 ?htz4 ?hnz4 ?hlz4 _ _ _ _ _ _ _ _ _ _ _ _ _ _ _ _ _ _ ?Bz4 ?Fz4 ?Xz4 ?Nz4 ?Tz4 ?kz4 ?dz4 ?uz4 ?_;(case Nz4=>k_asm);(case hxz4=>exact rfl);(case htz4=>exact set_mem (by assumption) (by assumption));(case hnz4=>assumption);(case hlz4=>(rw [List.length_set];simp only [List.length_cons];(first | exact o19 hlen | omega)));(case Bz4=>k_asm);(case Fz4=>k_asm);(case Xz4=>k_asm);(case Tz4=>k_asm);(case kz4=>first | exact rfl | assumption);(case dz4=>ktr_room);(case uz4=>ktr_units));intro v'z4 news'z4 h'z4 tk'z4 hr'z4 F'z4 N'z4;obtain ⟨hv'z4,hn'z4⟩:=hr'z4;subst hn'z4;subst hv'z4;(try k_fold)) | ((show wpAny _ _ (setItem (Value.ref _) (Value.int _ _) _) _ _ _);(k_dflt (refine' tp_set ?h1z5 ?h2z5 ?h3z5 ?h4z5 ?h5z5 ?h6z5 ?_;(case h1z5=>k_asm);(case h2z5=>k_asm);(case h3z5=>assumption);(case h4z5=>decide);(case h5z5=>(simp only [List.length_cons];(first | exact o125 | omega)));(case h6z5=>decide));intro h'z5 F'z5 N'z5)) | ((show wpAny _ _ (subscriptTail (PySem.Expr.Name _ _) (PySem.Expr.Constant _ _ _) (Value.ref _) (Value.int _ _)) _ _ _);(k_dflt (refine' tp_subK (i:=0) ?h1z6 ?h2z6 ?h3z6 ?h4z6 ?_ ?h6z6;(case h1z6=>k_asm);(case h2z6=>k_mem);(case h3z6=>exact rfl);(case h4z6=>(simp only [List.length_cons];(first | exact o19 hlen | omega)));(case h6z6=>with_unfolding_all rfl))))) | row_walkt)
 exact hret _ _ _ _ ⟨rfl,rfl⟩ (by assumption) (by assumption)
theorem heappop_one (D : Addr) (rest : Led) (n : Nat) (x : Tp) (hne : ∀ q ∈ rest,q.1 ≠ D) :
  Ok w p loose mean mg mb 131 [.ref D] 4 32 ((D,listOf (vals ([] ++ [x])).toArray n) :: rest) (fun v news'=>v = .ref x.a /\ ∃ n',news' = (D,listOf (vals []).toArray n') :: rest):=by
 intro dp un gd cn cs a ccd cl outer A₀ base h₀ L m s Q E B F X N T hk hd hu hret
 refine wpAny_call ?_
 k_dflt cell_enter
 dsimp only [bheappop,lhsOf]
 repeat' (first | with_reducible (first | ((show wpAny _ _ (truthy (Value.ref _)) _ _ _);(k_dflt (refine' tp_truthy ?h1z7 ?h2z7 ?h3z7 ?_;(case h1z7=>k_asm);(case h2z7=>k_mem);(case h3z7=>(simp only [List.length_cons,List.length_nil];(first | exact o42 | omega))));intro k'z7;(try simp only [List.isEmpty_nil,List.isEmpty_cons,Bool.not_true,Bool.not_false]))) | ((show wpAny _ _ (call (Value.builtin "list.pop") _) _ _ _);(k_dflt (refine' tp_pop ?h1z8 ?h2z8 ?h3z8 ?h4z8 ?_;(case h1z8=>k_asm);(case h2z8=>k_asm);(case h3z8=>assumption);(case h4z8=>(simp only [List.length_cons,List.length_nil];(first | exact o42 | omega))));intro h'z8 F'z8 N'z8))) | row_walkt)
 exact hret _ _ _ _ ⟨rfl,_,rfl⟩ (by assumption) (by assumption)
theorem heappop_more (D : Addr) (rest : Led) (z : Tp) (ts : List Tp) (n : Nat) (x : Tp) (hxT : IsTp rest x) (htp : ∀ t ∈ z :: ts,IsTp rest t) (hne : ∀ q ∈ rest,q.1 ≠ D) (hlen : ts.length <= 900) :
  Ok w p loose mean mg mb 131 [.ref D] 4 32 ((D,listOf (vals ((z :: ts) ++ [x])).toArray n) :: rest) (fun v news'=>v = .ref z.a /\ ∃ n',news' = (D,listOf (vals (sul x (x :: ts) 0)).toArray n') :: rest):=by
 intro dp un gd cn cs a ccd cl outer A₀ base h₀ L m s Q E B F X N T hk hd hu hret
 refine wpAny_call ?_
 k_dflt cell_enter
 dsimp only [bheappop,lhsOf]
 repeat' (first | with_reducible (first | ((show wpAny _ _ (truthy (Value.ref _)) _ _ _);(k_dflt (refine' tp_truthy ?h1z9 ?h2z9 ?h3z9 ?_;(case h1z9=>k_asm);(case h2z9=>k_mem);(case h3z9=>(simp only [List.length_cons,List.length_nil];(first | exact o19 hlen | omega))));intro k'z9;(try simp only [List.isEmpty_nil,List.isEmpty_cons,Bool.not_true,Bool.not_false]))) | ((show wpAny _ _ (call (Value.builtin "list.pop") _) _ _ _);(k_dflt (refine' tp_pop ?h1z10 ?h2z10 ?h3z10 ?h4z10 ?_;(case h1z10=>k_asm);(case h2z10=>k_asm);(case h3z10=>assumption);(case h4z10=>(simp only [List.length_cons,List.length_nil];(first | exact o19 hlen | omega))));intro h'z10 F'z10 N'z10)) | ((show wpAny _ _ (call (Value.ref 152) _) _ _ _);k_dflt (refine' siftup_ok _ _ _ _ _ ?hxz11 ?htz11 ?hnz11 ?hlz11 _ _ _ _ _ _ _ _ _ _ _ _ _ _ _ _ _ _ ?Bz11 ?Fz11 ?Xz11 ?Nz11 ?Tz11 ?kz11 ?dz11 ?uz11 ?_;(case Nz11=>k_asm);(case hxz11=>exact rfl);(case htz11=>exact set_mem (by assumption) (by assumption));(case hnz11=>assumption);(case hlz11=>(rw [List.length_set];simp only [List.length_cons];(first | exact o19 hlen | omega)));(case Bz11=>k_asm);(case Fz11=>k_asm);(case Xz11=>k_asm);(case Tz11=>k_asm);(case kz11=>first | exact rfl | assumption);(case dz11=>ktr_room);(case uz11=>ktr_units));intro v'z11 news'z11 h'z11 tk'z11 hr'z11 F'z11 N'z11;obtain ⟨hv'z11,hn'z11⟩:=hr'z11;subst hn'z11;subst hv'z11;(try k_fold)) | ((show wpAny _ _ (setItem (Value.ref _) (Value.int _ _) _) _ _ _);(k_dflt (refine' tp_set ?h1z12 ?h2z12 ?h3z12 ?h4z12 ?h5z12 ?h6z12 ?_;(case h1z12=>k_asm);(case h2z12=>k_asm);(case h3z12=>assumption);(case h4z12=>decide);(case h5z12=>(simp only [List.length_cons];(first | exact o125 | omega)));(case h6z12=>decide));intro h'z12 F'z12 N'z12)) | ((show wpAny _ _ (subscriptTail (PySem.Expr.Name _ _) (PySem.Expr.Constant _ _ _) (Value.ref _) (Value.int _ _)) _ _ _);(k_dflt (refine' tp_subK (i:=0) ?h1z13 ?h2z13 ?h3z13 ?h4z13 ?_ ?h6z13;(case h1z13=>k_asm);(case h2z13=>k_mem);(case h3z13=>exact rfl);(case h4z13=>(simp only [List.length_cons];(first | exact o19 hlen | omega)));(case h6z13=>with_unfolding_all rfl))))) | row_walkt)
 exact hret _ _ _ _ ⟨rfl,_,rfl⟩ (by assumption) (by assumption)
end
end
end
section
section
variable {prog : Program} {w : World} {A : Around} {E : Value -> Shared -> Prop} {s : Shared} {env : Env} {h₀ : Heap} {x : Str} {body : List Stmt} {Q : Flow -> Shared -> Prop}
theorem iter_go {S : Addr} {its : Array Value} {m : Str -> Option Value} {news : Led} (J : Nat -> (Str -> Option Value) -> Led -> Prop) (hh : A.handled = none) (hL : s.heap.IsList S its) (hSL : env.locals ≠ S)
  (F : Fr h₀ env.locals s.heap m) (N : News h₀ env.locals s.heap news) (h0 : J 0 m news)
  (turn : ∀ (i : Nat) v m₁ news₁ h tk own,its[i]? = some v -> J i m₁ news₁ -> (∀ p ∈ own,p.1 = s.heap.objs.size \/ p.1 = S) -> (∃ oI,(s.heap.objs.size,oI) ∈ own) -> (∀ p ∈ news₁,p.1 ≠ s.heap.objs.size) ->
   Fr h₀ env.locals h (fun y=>if y = x then some v else m₁ y) -> News h₀ env.locals h (own ++ news₁) ->
   wpAny (model prog w) A (execs body env) (LoopStepV h₀ env.locals [s.heap.objs.size] own (J (i + 1)) { s with heap:=h,toks:=tk } (fun v s'=>Q (.ret v) s') fun s'=>Q .next s') E { s with heap:=h,toks:=tk })
  (done : ∀ h' tk m' news',Fr h₀ env.locals h' m' -> News h₀ env.locals h' news' -> J its.size m' news' -> Q .next { s with heap:=h',toks:=tk }) :
  wpAny (model prog w) A (pyIter (.ref S)) (fun it s₂=>LoopAtV prog w A h₀ env x body Q E it s₂) E s:=by
 obtain ⟨oS,hoS,_⟩:=id hL
 have hlt : S < s.heap.objs.size:=Heap.lt_size hoS
 have hne : S ≠ s.heap.objs.size:=Nat.ne_of_lt hlt
 refine wpAny_pyIter_list hL ?_
 have W:=Walks.list (prog:=prog) (w:=w) hh s.heap.objs.size S hne its
 refine ⟨s.heap.objs.size,[s.heap.objs.size,S],[s.heap.objs.size],its.size,_,_,m,news,J,rfl,W,?_,?_,?_,⟨⟨_,Heap.get?_push_size _ rfl,rfl,rfl⟩,hL.at fun o e=>Heap.get?_push_of_some _ e⟩,F.push _,(fun p hp=>⟨Heap.get?_push_of_some _ (N p hp).1,(N p hp).2⟩),h0,?_,?_⟩
 ·intro hm
  rcases List.mem_cons.mp hm with e | hm
  ·exact absurd F.ns.lt (e ▸ Nat.lt_irrefl _)
  ·exact hSL (List.mem_singleton.mp hm)
 ·intro b hb
  rw [List.mem_singleton.mp hb]
  exact next_is_new F
 ·intro p hp hI
  have e:=List.mem_singleton.mp hI
  have:=Heap.lt_size (N p hp).1
  rw [e] at this
  exact Nat.lt_irrefl _ this
 ·rintro i v m₁ news₁ s₁ own ⟨h,tk,rfl⟩ hi hP hJ hoff hsub hget hall hst F₁ N₁
  refine turn i v m₁ news₁ h tk own hP hJ (fun p hp=>?_) ?_ (fun p hp e=>hoff p hp (by rw [e];exact .head _)) F₁ N₁
  rotate_left 1
  ·obtain ⟨oI,hoI,_⟩:=hst.1
   exact ⟨oI,hall _ (.head _) (next_is_new F) oI hoI⟩
  rcases List.mem_cons.mp (hsub p hp) with e | e
  ·exact .inl e
  ·exact .inr (List.mem_singleton.mp e)
 ·intro h' tk m' news' F' N' hoff hJ
  exact done h' tk m' news' F' N' hJ
end
section
variable {prog : Program} {w : World} {A : Around} {E : Value -> Shared -> Prop} {s : Shared} {h₀ : Heap} {L D a : Addr} {m : Str -> Option Value} {news rest : Led} {ts : List Tp} {n : Nat} {t u : Tok}
theorem self_upd (m : Str -> Option Value) (x : Str) : m = fun y=>if y = x then m x else m y:=by
 funext y
 by_cases h : y = x
 ·subst h;simp
 ·simp [h]
theorem slice_take {value slice : Expr} {vs : List Value} {k : Nat} {Q : Value -> Shared -> Prop} (F : Fr h₀ L s.heap m) (N : News h₀ L s.heap news) (hL : h₀.IsList a vs.toArray) (hsz : vs.length <= 1000)
  (h : ∀ S h',L ≠ S -> (∀ p ∈ news,p.1 ≠ S) -> h'.IsList S (vs.take k).toArray -> Fr h₀ L h' m -> News h₀ L h' news -> Q (.ref S) { s with heap:=h' })
  (hs : subscripted slice false (.ref a) (.ref s.heap.objs.size) = operate [.ref s.heap.objs.size,.ref a] (getItem (.ref a) (.ref s.heap.objs.size))) (hg : ∀ r,letTemporaryGo value (.ref a) r = pure ()) :
  wpAny (model prog w) A (subscriptTail value slice (.ref a) (.ref s.heap.objs.size)) Q E { s with heap:=s.heap.push { cls:=.type "slice",data:=.fields #[.none,.int (k : Int) t,.none] } }:=by
 have hl : s.heap.IsList a vs.toArray:=hL.at fun o e=>F.keep a o e
 have hb : vs.length <= sizeLine:=by rw [sizeLine_eq];exact o26 hsz
 refine slice_listK hl .none (.int _ _) ?_ hs hg (by simpa using hb)
 have e : slicePick vs.toArray none (some (k : Int)) none = (vs.take k).toArray:=by
  rw [slicePick_plain]
  apply Array.toList_inj.mp
  have : clipAt vs.length (k : Int) = min k vs.length:=by
   have:=clipAt_min (n:=vs.length) (y:=(k : Int)) (by exact o2)
   split at this <;> (first | exact o250 (by assumption) this | exact o251 this (by assumption) | omega)
  simp [this]
 rw [e]
 refine h _ _ ?_ ?_ ?_ ((F.push _).push _) (fun p hp=>⟨Heap.get?_push_of_some _ (Heap.get?_push_of_some _ (N p hp).1),(N p hp).2⟩)
 ·intro e
  have:=F.ns.lt
  rw [e] at this
  exact absurd this (Nat.not_lt.mpr (Nat.le_succ _))
 ·intro p hp e
  have:=Heap.lt_size (N p hp).1
  rw [e] at this
  exact absurd this (Nat.not_lt.mpr (Nat.le_succ _))
 ·have hz : (s.heap.push { cls:=.type "slice",data:=.fields #[.none,.int (k : Int) t,.none] }).objs.size = s.heap.objs.size + 1:=Heap.size_push ..
  rw [<- hz]
  exact ⟨_,Heap.get?_push_size _ rfl,rfl,_,rfl⟩
theorem tp_append2 {x : Tp} {o : Obj} {Q : Value -> Shared -> Prop} (F : Fr h₀ L s.heap m) (N : News h₀ L s.heap ((x.a,o) :: (D,listOf (vals ts).toArray n) :: rest)) (hx : x.a ≠ D) (hne : ∀ p ∈ rest,p.1 ≠ D) (hl : ts.length <= 1000)
  (h : ∀ h',Fr h₀ L h' m -> News h₀ L h' ((D,listOf (vals (ts ++ [x])).toArray (n + 1)) :: (x.a,o) :: rest) -> Q .none { s with heap:=h' }) :
  wpAny (model prog w) A (call (.builtin "list.append") [.ref D,.ref x.a]) Q E s:=by
 refine tp_append F (N:=fun p hp=>N p ?_) (fun p hp=>?_) hl h
 ·rcases List.mem_cons.mp hp with rfl | hp
  ·exact .tail _ (.head _)
  ·rcases List.mem_cons.mp hp with rfl | hp
   ·exact .head _
   ·exact .tail _ (.tail _ hp)
 ·rcases List.mem_cons.mp hp with rfl | hp
  ·exact hx
  ·exact hne p hp
theorem tp_append3 {T : Addr} {f l : Int} {tf tl : Tok} {d : Option Addr} {k : Nat} {sl : Array (Option Value)} {Q : Value -> Shared -> Prop} (F : Fr h₀ L s.heap m)
  (N : News h₀ L s.heap ((T,{ cls:=.type "tuple",dict:=d,data:=.seq #[.int f tf,.int l tl] k,slots:=sl }) :: (D,listOf (vals ts).toArray n) :: rest)) (hx : T ≠ D) (hne : ∀ p ∈ rest,p.1 ≠ D) (hl : ts.length <= 1000)
  (h : ∀ h',Fr h₀ L h' m -> News h₀ L h' ((D,listOf (vals (ts ++ [⟨T,f,l,tf,tl⟩])).toArray (n + 1)) :: (T,{ cls:=.type "tuple",dict:=d,data:=.seq #[.int f tf,.int l tl] k,slots:=sl }) :: rest) -> Q .none { s with heap:=h' }) :
  wpAny (model prog w) A (call (.builtin "list.append") [.ref D,.ref T]) Q E s :=
 tp_append2 (x:=⟨T,f,l,tf,tl⟩) F N hx hne hl h
end
end
section
noncomputable def pairOf (x : Int) : Int × Int:=(x.fmod 256,if x.fmod 256 + (x.fdiv 256).fmod 20 < 255 then x.fmod 256 + (x.fdiv 256).fmod 20 else 255)
noncomputable def Tp.pair (t : Tp) : Int × Int:=(t.f,t.l)
noncomputable abbrev RetPairs (news : Led) (ps : List (Int × Int)) (v : Value) (news' : Led) : Prop :=
 ∃ D ts n rest,v = .ref D /\ news' = (D,listOf (vals ts).toArray n) :: rest /\ ts.map Tp.pair = ps /\ (∀ t ∈ ts,IsTp rest t) /\ (∀ p ∈ news,p ∈ rest) /\ (∀ p ∈ rest,p.1 ≠ D)
noncomputable def StJ (news : Led) (x : Str) (m₉ : Str -> Option Value) (l : Addr) (qs : List (Int × Int)) (m₁ : Str -> Option Value) (news₁ : Led) : Prop :=
 ∃ xv ts n rest,m₁ = (fun y=>if y = x then xv else m₉ y) /\ news₁ = (l,listOf (vals ts).toArray n) :: rest /\ ts.map Tp.pair = qs /\ (∀ t ∈ ts,IsTp rest t) /\ (∀ p ∈ news,p ∈ rest) /\ (∀ p ∈ rest,p.1 ≠ l)
theorem allLt_mem {l : Addr} {r : Led} (h : AllLt l r) : ∀ p ∈ r,p.1 < l:=by
 induction r with
 | nil=>intro p hp;cases hp
 | cons q r ih =>
  intro p hp
  refine bc fun g0=>?_;rcases List.mem_cons.mp hp with rfl | hp <;> (refine g0 ?_;clear g0)
  ·exact h.1
  ·exact ih h.2 p hp
theorem st_start {news : Led} {x : Str} {m : Str -> Option Value} {l D1 D2 : Addr} {t1 t2 t3 t4 : Tok} (lc : D2 < l /\ D1 < l /\ AllLt l news) :
  StJ news x m l [(58,66),(64,70)] m ((l,listOf #[.ref D1,.ref D2] 0) :: (D2,{ cls:=.type "tuple",data:=.seq #[.int 64 t3,.int 70 t4] 0 }) :: (D1,{ cls:=.type "tuple",data:=.seq #[.int 58 t1,.int 66 t2] 0 }) :: news):=by
 refine ⟨_,[⟨D1,58,66,t1,t2⟩,⟨D2,64,70,t3,t4⟩],0,_,self_upd _ _,rfl,rfl,?_,?_,?_⟩
 ·intro t ht
  refine bc fun g0=>?_;rcases List.mem_cons.mp ht with rfl | ht <;> (refine g0 ?_;clear g0)
  ·exact ⟨none,0,#[],.tail _ (.head _)⟩
  ·rw [List.mem_singleton.mp ht]
   exact ⟨none,0,#[],.head _⟩
 ·exact fun p hp=>.tail _ (.tail _ hp)
 ·intro p hp
  refine bc fun g0=>?_;rcases List.mem_cons.mp hp with rfl | hp <;> (refine g0 ?_;clear g0)
  ·exact Nat.ne_of_lt lc.1
  ·refine bc fun g0=>?_;rcases List.mem_cons.mp hp with rfl | hp <;> (refine g0 ?_;clear g0)
   ·exact Nat.ne_of_lt lc.2.1
   ·exact Nat.ne_of_lt (allLt_mem lc.2.2 p hp)
theorem news_swap {h₀ h : Heap} {L : Addr} {own rest : Led} {o : Addr × Obj} (N : News h₀ L h (own ++ o :: rest)) : News h₀ L h (o :: (own ++ rest)):=fun p hp=>N p (by
 refine bc fun g0=>?_;rcases List.mem_cons.mp hp with rfl | hp <;> (refine g0 ?_;clear g0)
 ·exact List.mem_append_right _ (.head _)
 ·refine bc fun g0=>?_;rcases List.mem_append.mp hp with h | h <;> (refine g0 ?_;clear g0)
  ·exact List.mem_append_left _ h
  ·exact List.mem_append_right _ (.tail _ h))
noncomputable def StEnd (h₀ : Heap) (L : Addr) (s : Shared) (l : Addr) (q q' : List (Int × Int)) (m : Str -> Option Value) (rest : Led) (ts : List Tp) (n : Nat) (f : Flow) (s' : Shared) : Prop :=
 f = .next /\ ∃ h' tk' o t,s' = { s with heap:=h',toks:=tk' } /\ q' = q ++ [Tp.pair t] /\ IsTp [(t.a,o)] t /\ Fr h₀ L h' m /\ News h₀ L h' ((l,listOf (vals (ts ++ [t])).toArray (n + 1)) :: (t.a,o) :: rest) /\ (∀ p ∈ rest,p.1 < t.a) /\ l < t.a
theorem iter_st {prog : Program} {w : World} {A : Around} {E : Value -> Shared -> Prop} {s : Shared} {env : Env} {h₀ : Heap} {x : Str} {body : List Stmt} {Q : Flow -> Shared -> Prop} {S l : Addr} {its : Array Value} {m : Str -> Option Value} {news news₀ : Led}
  (qs : Nat -> List (Int × Int)) (hh : A.handled = none) (hL : s.heap.IsList S its) (hSL : env.locals ≠ S) (hlS : l ≠ S)
  (F : Fr h₀ env.locals s.heap m) (N : News h₀ env.locals s.heap news₀) (h0 : StJ news x m l (qs 0) m news₀)
  (turn : ∀ (i : Nat) v xv ts n rest own h tk,its[i]? = some v -> ts.map Tp.pair = qs i -> (∀ t ∈ ts,IsTp (own ++ rest) t) -> (∀ p ∈ own ++ rest,p.1 ≠ l) ->
   Fr h₀ env.locals h (fun y=>if y = x then some v else (fun y=>if y = x then xv else m y) y) -> News h₀ env.locals h ((l,listOf (vals ts).toArray n) :: (own ++ rest)) ->
   wpAny (model prog w) A (execs body env) (StEnd h₀ env.locals s l (qs i) (qs (i + 1)) (fun y=>if y = x then some v else (fun y=>if y = x then xv else m y) y) (own ++ rest) ts n) E { s with heap:=h,toks:=tk })
  (done : ∀ h' tk xv ts n rest,Fr h₀ env.locals h' (fun y=>if y = x then xv else m y) -> News h₀ env.locals h' ((l,listOf (vals ts).toArray n) :: rest) -> ts.map Tp.pair = qs its.size -> (∀ t ∈ ts,IsTp rest t) -> (∀ p ∈ news,p ∈ rest) -> (∀ p ∈ rest,p.1 ≠ l) -> Q .next { s with heap:=h',toks:=tk }) :
  wpAny (model prog w) A (pyIter (.ref S)) (fun it s₂=>LoopAtV prog w A h₀ env x body Q E it s₂) E s:=by
 refine iter_go (fun i=>StJ news x m l (qs i)) hh hL hSL F N h0 ?_ ?_
 ·rintro i v m₁ news₁ h tk own hv hE1 hown hE2 hoff F₁ N₁;refine bc fun g0=>?_;obtain ⟨xv,ts,n,rest,rfl,rfl,hq,ht,hn,hne⟩:=hE1;obtain ⟨oI,hoI⟩:=hE2;refine g0 ?_;clear g0
  have hI : l ≠ s.heap.objs.size:=hoff (l,_) (.head _)
  refine wpAny_mono (turn i v xv ts n rest own h tk hv hq (fun t h=>(ht t h).more fun p hp=>List.mem_append_right _ hp) (fun p hp=>?_) F₁ (news_swap N₁)) (fun f s' hf=>?_) fun _ _ e=>e
  ·refine bc fun g0=>?_;rcases List.mem_append.mp hp with hp | hp <;> (refine g0 ?_;clear g0)
   ·refine bc fun g0=>?_;rcases hown p hp with e | e <;> (refine g0 ?_;clear g0)
    ·rw [e];exact hI.symm
    ·rw [e];exact hlS.symm
   ·exact hne p hp
  ·refine bc fun g0=>?_;obtain ⟨rfl,h',tk',o,t,rfl,hq',hIs,F',N',hlt,hlT⟩:=hf;refine g0 ?_;clear g0
   refine LoopStepV.next (LoopStepU.intro (news₂:=(l,listOf (vals (ts ++ [t])).toArray (n + 1)) :: (t.a,o) :: rest) F' (fun p hp=>N' p ?_) ?_ ⟨some v,ts ++ [t],n + 1,(t.a,o) :: rest,?_,rfl,?_,?_,fun p hp=>.tail _ (hn p hp),?_⟩)
   ·refine bc fun g0=>?_;rcases List.mem_append.mp hp with hp | hp <;> (refine g0 ?_;clear g0)
    ·exact .tail _ (.tail _ (List.mem_append_left _ hp))
    ·refine bc fun g0=>?_;rcases List.mem_cons.mp hp with rfl | hp <;> (refine g0 ?_;clear g0)
     ·exact .head _
     ·refine bc fun g0=>?_;rcases List.mem_cons.mp hp with rfl | hp <;> (refine g0 ?_;clear g0)
      ·exact .tail _ (.head _)
      ·exact .tail _ (.tail _ (List.mem_append_right _ hp))
   ·intro p hp hpI
    have e:=List.mem_singleton.mp hpI
    refine bc fun g0=>?_;rcases List.mem_cons.mp hp with rfl | hp <;> (refine g0 ?_;clear g0)
    ·exact hI e
    ·refine bc fun g0=>?_;rcases List.mem_cons.mp hp with rfl | hp <;> (refine g0 ?_;clear g0)
     ·exact Nat.ne_of_gt (hlt _ (List.mem_append_left _ hoI)) e
     ·exact hoff p (.tail _ hp) e
   ·funext y
    by_cases h : y = x <;> simp [h]
   ·rw [List.map_append,hq,hq'];rfl
   ·exact app_mem (fun t h=>(ht t h).more fun p hp=>.tail _ hp) (hIs.more fun p hp=>by rw [List.mem_singleton.mp hp];exact .head _)
   ·intro p hp
    refine bc fun g0=>?_;rcases List.mem_cons.mp hp with rfl | hp <;> (refine g0 ?_;clear g0)
    ·exact Nat.ne_of_gt hlT
    ·exact hne p hp
 ·rintro h' tk m' news' F' N' hE3;refine bc fun g0=>?_;obtain ⟨xv,ts,n,rest,rfl,rfl,hq,ht,hn,hne⟩:=hE3;refine g0 ?_;clear g0
  exact done h' tk xv ts n rest F' N' hq ht hn hne
section
variable {w : World} {p : Program} {loose : List Str} {mean : ExcName -> Option Value} {mg mb : Str -> Option Value} {news : Led}
theorem stretches_ok (a : Addr) (vs : List Value) (ns : List Int) (hi : IntsAre vs ns) (hl : vs.length <= 1000) (dp un : Nat) (gd : Option (List Code)) (cn : Str) (cs : Scope) (aa : Addr) (ccd : Value) (cl : List (Str × Addr)) (outer : List Env) (A₀ : Around) (base h₀ : Heap) (L : Addr) (m : Str -> Option Value) (s : Shared) (Q E : Value -> Shared -> Prop)
  (hL : h₀.IsList a vs.toArray) (hh : (ktrTop dp un gd cn cs L aa ccd cl outer).handled = none)
  (B : Below A₀ base outer h₀) (F : Fr h₀ L s.heap m) (X : (K w.params).In h₀) (N : News h₀ L s.heap news) (T : Top p loose mean mg mb h₀) (hk : cs.kind = .function) (hd : dp + 2 < recursionLimit) (hu : un + 16 < cLine)
  (hret : ∀ v news' h' tk',RetPairs news ((58,66) :: (64,70) :: (ns.take 6).map pairOf) v news' -> Fr h₀ L h' m -> News h₀ L h' news' -> Q v { s with heap:=h',toks:=tk' }) :
   wpAny (mdl w) (ktrTop dp un gd cn cs L aa ccd cl outer) (call (.ref 159) [.ref a]) Q E s:=by
 refine wpAny_call ?_
 k_dflt cell_enter
 dsimp only [bulawustretches,lhsOf]
 repeat' row_walkt
 (with_reducible rename Fr _ _ _ _=>F9)
 (with_reducible rename News _ _ _ _=>N9)
 rename_i D1 hA la D2 hB lb l hC lc m1 hD
 refine For_invVF F9 rfl rfl ?_ (by intro _;rfl)
 have hL' : Heap.IsList _ a vs.toArray:=hL.at fun o e=>Fr.keep (by assumption) a o e
 repeat' (first | with_reducible (first | ((show wpAny _ _ (subscriptTail (PySem.Expr.Name _ _) (PySem.Expr.Slice _ _ _ _) (Value.ref _) (Value.ref _)) _ _ _);(k_dflt (refine' slice_take ?h1z1 ?h2z1 ?h3z1 ?h4z1 ?_ ?h5z1 ?h6z1;(case h1z1=>k_asm);(case h2z1=>k_asm);(case h3z1=>k_asm);(case h4z1=>assumption);(case h5z1=>with_unfolding_all rfl);(case h6z1=>(intro _;with_unfolding_all rfl)));intro S h5 hSL hSn hS F8 N8))) | row_walkt)
 refine iter_st (fun i=>(58,66) :: (64,70) :: ((ns.take 6).take i).map pairOf) hh hS hSL (hSn _ (.head _)) F8 N8 (st_start lc) ?turn ?done
 case turn =>
  rintro i v xv ts n rest own h tk hv hq ht hne Ft Nt
  have hi6:=hi.take 6
  refine bc fun g0=>?_;obtain ⟨x,tx,rfl,hx⟩:=hi6.at i v (by simpa using hv);refine g0 ?_;clear g0
  have htl : ts.length <= 1000:=by
   have:=congrArg List.length hq
   simp only [List.length_map,List.length_cons,List.length_take] at this
   exact o323 this
  repeat' (first | with_reducible (first | ((show wpAny _ _ (call (Value.builtin "list.append") _) _ _ _);(k_dflt (refine' tp_append3 ?h1z2 ?h2z2 ?h3z2 ?h4z2 ?h5z2 ?_;(case h1z2=>k_asm);(case h2z2=>k_asm);(case h3z2=>exact (Nat.ne_of_gt (And.left (by assumption))));(case h4z2=>assumption);(case h5z2=>assumption));intro h'z2 F'z2 N'z2))) | row_walkt)
  have hlt:=‹l < _ /\ AllLt _ (own ++ rest)›
  refine ⟨rfl,_,_,_,⟨_,x.fmod 256,_,_,_⟩,rfl,?_,⟨none,0,#[],.head _⟩,by assumption,by assumption,allLt_mem hlt.2,hlt.1⟩
  rw [List.take_add_one,hx,List.map_append]
  rfl
 case done =>
  rintro h' tk xv ts n rest Fd Nd hq ht hn hne
  dsimp only
  repeat' row_walkt
  refine hret _ _ _ _ ⟨l,ts,n,rest,rfl,rfl,?_,ht,hn,hne⟩ (by assumption) (by assumption)
  rw [hq]
  have e : (List.take 6 vs).toArray.size = (ns.take 6).length:=by
   have:=hi.length
   simp [this]
  rw [e,List.take_length]
end
end
section
noncomputable def stZ : Stmt:=(blaw)[0]?.getD (.Pass ⟨0,0,0,0⟩)
section
variable {w : World} {p : Program} {loose : List Str} {mean : ExcName -> Option Value} {mg mb : Str -> Option Value} {news : Led}
theorem stretch_k (a : Addr) (vs : List Value) (ns : List Int) (hi : IntsAre vs ns) (hl : vs.length <= 1000)
  (dp un : Nat) (gd : Option (List Code)) (aa : Addr) (ccd : Value) (cl : List (Str × Addr)) (outer : List Env) (A₀ : Around) (base h₀ : Heap) (L : Addr) (m : Str -> Option Value) (s : Shared) (Q : Flow -> Shared -> Prop) (E : Value -> Shared -> Prop) (hL : h₀.IsList a vs.toArray) (hms : m (Str.ofString "script") = some (.ref a))
  (B : Below A₀ base outer h₀) (F : Fr h₀ L s.heap m) (X : (K w.params).In h₀) (N : News h₀ L s.heap news) (T : Top p loose mean mg mb h₀) (hd : dp + 20 < recursionLimit) (hu : un + 200 < cLine)
  (hret : ∀ DS ts n R h' tk',ts.map Tp.pair = ((58,66) :: (64,70) :: (ns.take 6).map pairOf) -> (∀ t ∈ ts,IsTp R t) -> (∀ q ∈ news,q ∈ R) -> (∀ q ∈ R,q.1 ≠ DS) ->
   Fr h₀ L h' (fun z=>if z = Str.ofString "stretches" then some (.ref DS) else m z) -> News h₀ L h' ((DS,listOf (vals ts).toArray n) :: R) -> Q .next { s with heap:=h',toks:=tk' }) :
  wpAny (mdl w) (ktrTop dp un gd (Str.ofString "law") slaw L aa ccd cl outer) (exec stZ (envX (Str.ofString "law") slaw L aa ccd cl)) Q E s:=by
 unfold stZ
 dsimp only [blaw]
 show wpAny _ _ (exec (.Assign _ _ _) _) _ _ _
 repeat' row_walkt
 refine nameX_L F hms ?_
 repeat' row_walkt
 refine stretches_ok a vs ns hi hl dp un gd _ _ _ _ _ outer A₀ base h₀ L m _ _ _ hL rfl B F X N T rfl (by exact o183 hd) (by exact o184 hu) ?_
 rintro v news' h' tk' hE1 F' N';refine bc fun g0=>?_;obtain ⟨DS,ts,n,R,rfl,rfl,r1,r2,r3,r4⟩:=hE1;refine g0 ?_;clear g0
 try dsimp +zetaDelta only
 clear N F
 repeat' row_walkt
 exact hret DS ts n R _ _ r1 r2 r3 r4 (by assumption) (by assumption)
end
theorem pairOf_ok (x : Int) : 0 <= (pairOf x).1 /\ (pairOf x).1 <= (pairOf x).2 /\ (pairOf x).2 < 256:=by
 have e1 : x.fmod 256 = x % 256:=Int.fmod_eq_emod_of_nonneg x (by decide)
 have e2 : (x.fdiv 256).fmod 20 = (x.fdiv 256) % 20:=Int.fmod_eq_emod_of_nonneg _ (by decide)
 unfold pairOf
 dsimp only
 rw [e1,e2]
 generalize x.fdiv 256 = y
 split <;> (first | exact o637 (by assumption) | exact o638 | omega)
theorem ts_ok {ts : List Tp} {ns : List Int} (h : ts.map Tp.pair = ((58,66) :: (64,70) :: (ns.take 6).map pairOf)) : ∀ t ∈ ts,0 <= t.f /\ t.f <= t.l /\ t.l < 256:=by
 intro t ht
 have hm : t.pair ∈ ts.map Tp.pair:=List.mem_map_of_mem ht
 rw [h] at hm
 refine bc fun g0=>?_;rcases List.mem_cons.mp hm with e | hm <;> (refine g0 ?_;clear g0)
 ·simp only [Tp.pair,Prod.mk.injEq] at e;exact o639 e
 ·refine bc fun g0=>?_;rcases List.mem_cons.mp hm with e | hm <;> (refine g0 ?_;clear g0)
  ·simp only [Tp.pair,Prod.mk.injEq] at e;exact o640 e
  ·refine bc fun g0=>?_;obtain ⟨x,_,e⟩:=List.mem_map.mp hm;refine g0 ?_;clear g0
   have:=pairOf_ok x
   rw [e] at this
   exact this
theorem ts_len {ts : List Tp} {ns : List Int} (h : ts.map Tp.pair = ((58,66) :: (64,70) :: (ns.take 6).map pairOf)) : ts.length <= 8:=by
 have:=congrArg List.length h
 rw [List.length_map] at this
 simp at this
 exact o641 this
end
section
open PyProof.Rows.LCg (NsObj lst Off3 SrcAt fr_but news_but ns_obj list_st range_walks range_st)
noncomputable def stH : Stmt:=(blaw)[1]?.getD (.Pass ⟨0,0,0,0⟩)
noncomputable def cover (ts : List Tp) (k : Int) : Bool:=ts.any fun t=>decide (t.f <= k /\ k <= t.l)
theorem range_size (a b : Nat) (h : a <= b) : Builtin.Range.rangeSize (a : Int) (b : Int) 1 = ((b - a : Nat) : Int):=by
 unfold Builtin.Range.rangeSize
 simp
 omega
theorem range_small (a b : Nat) (h : a <= b) (hb : b <= 256) : Builtin.Range.small (a : Int) (b : Int) 1 = true:=by
 unfold Builtin.Range.small
 rw [range_size a b h]
 unfold Builtin.Range.rangeFitsLong
 simp
 exact o642 hb h
theorem SetI.same {prog : Program} {w : World} {o : Obj} {S S' : Int -> Bool} {n n' : Nat} (h : SetI prog w o S n) (e : ∀ k,S' k = S k) (en : n' = n) : SetI prog w o S' n':=by
 have : S' = S:=funext e
 subst this en
 exact h
section
variable {prog : Program} {w : World} {A : Around} {s : Shared} {h₀ : Heap} {L C D : Addr} {m m₂ : Str -> Option Value} {oD : Obj} {led led₁ : Led} {h₁ : Heap} {x : Str} {px : Pos} {v it : Value} {c' : Code} {X : Shared -> Prop} {elt : PySem.Expr} {scope : Scope} {cl : List (Str × Addr)} {env : Env}
theorem After.set0 (hin : In2 h₀ L m C m₂ D oD led s.heap) (hx : (compEnvC scope cl C env).kindOf x = some .local) (hp : scope.kind = .function)
  (h : ∀ h' tk,In2 h₀ L m C (fun y=>if y = x then some v else m₂ y) D oD led h' ->
   wpAny (model prog w) A (eval elt (compEnvC scope cl C env)) (fun y s₁=>wpAny (model prog w) A (call (.builtin "set.add") [.ref D,y]) (fun _ s₂=>X s₂) NoE s₁) NoE { s with heap:=h',toks:=tk }) :
  After prog w A (.Name x px) [] (compEnvC scope cl C env) (do (do let v <- eval elt (compEnvC scope cl C env);standAt elt.pos;let _ <- call (.builtin "set.add") [.ref D,v]);again c') c' X it v s:=by
 refine wpAny_pure ?_
 refine hin.assign hx hp fun h' hin'=>?_
 refine wpAny_tests_nil ?_
 exact tail_set (h h' _ hin')
theorem add_at {oC : Obj} {S : Int -> Bool} {n : Nat} {k : Int} {t : Tok} (hin : In2 h₀ L m C m₂ D oD led₁ h₁) (F : Fr h₀ L s.heap m) (N : News h₀ L s.heap ((C,oC) :: (D,oD) :: led₁)) (hI : SetI prog w oD S n) (hroom : n + 1 < scanBound)
  (h : ∀ h' o' tk',SetI prog w o' (fun k'=>S k' || decide (k' = k)) (if S k then n else n + 1) -> Fr h₀ L h' m -> News h₀ L h' ((C,oC) :: (D,o') :: led₁) -> X { s with heap:=h',toks:=tk' }) : wpAny (model prog w) A (call (.builtin "set.add") [.ref D,.int k t]) (fun _ s₂=>X s₂) NoE s:=by
 have zD:=N (D,oD) (.tail _ (.head _))
 refine add_I zD.1 hI hroom fun h₅ o' hs₅ hD₅ hI'=>h h₅ o' _ hI' (F.change hs₅ zD.2.1 zD.2.2) fun p hp=>?_
 refine bc fun g0=>?_;rcases List.mem_cons.mp hp with rfl | hp <;> (refine g0 ?_;clear g0)
 ·have z:=N (C,oC) (.head _)
  exact ⟨hs₅.extBut _ _ hin.ne z.1,z.2⟩
 ·refine bc fun g0=>?_;rcases List.mem_cons.mp hp with rfl | hp <;> (refine g0 ?_;clear g0)
  ·exact ⟨hD₅,zD.2⟩
  ·have z:=N p (.tail _ (.tail _ hp))
   exact ⟨hs₅.extBut _ _ (hin.off p hp).2 z.1,z.2⟩
end
section
variable {w : World} {p : Program} {loose : List Str} {mean : ExcName -> Option Value} {mg mb : Str -> Option Value} {news : Led}
theorem held_k (ts : List Tp) (DS cH : Addr) (n0 : Nat) (oH : Obj) (v₀ : Option Value) (hts : ∀ t ∈ ts,IsTp news t) (hb : ∀ t ∈ ts,0 <= t.f /\ t.f <= t.l /\ t.l < 256) (hlen : ts.length <= 8) (hDS : (DS,listOf (vals ts).toArray n0) ∈ news) (hcH : (cH,oH) ∈ news) (hoH : oH.data = .cell v₀)
  (dp un : Nat) (gd : Option (List Code)) (aa : Addr) (ccd : Value) (cF : Addr) (outer : List Env) (A₀ : Around) (base h₀ : Heap) (L : Addr) (m : Str -> Option Value) (s : Shared) (Q : Flow -> Shared -> Prop) (E : Value -> Shared -> Prop) (hm : m (Str.ofString "stretches") = some (.ref DS))
  (B : Below A₀ base outer h₀) (F : Fr h₀ L s.heap m) (X : (K w.params).In h₀) (N : News h₀ L s.heap news) (T : Top p loose mean mg mb h₀) (hd : dp + 20 < recursionLimit) (hu : un + 200 < cLine)
  (hret : ∀ DH oS nS h' o' tk',SetI PySem.Challenge.rw_ik0162_01.row.prog w oS (cover ts) nS -> nS <= 3000 -> (∀ q ∈ news,q.1 < DH) -> o'.data = .cell (some (.ref DH)) -> Fr h₀ L h' m -> News h₀ L h' ((cH,o') :: but cH ((DH,oS) :: news)) -> Q .next { s with heap:=h',toks:=tk' }) :
  wpAny (mdl w) (ktrTop dp un gd (Str.ofString "law") slaw L aa ccd [(Str.ofString "figures",cF),(Str.ofString "held",cH)] outer) (exec stH (envX (Str.ofString "law") slaw L aa ccd [(Str.ofString "figures",cF),(Str.ofString "held",cH)])) Q E s:=by
 unfold stH
 dsimp only [blaw]
 show wpAny _ _ (exec (.Assign _ _ _) _) _ _ _
 walk1
 try dsimp only
 refine eval_sc F (fun _=>rfl) rfl rfl (by decide +kernel) (by decide +kernel) ?_
 refine nameX_L F hm ?_
 refine first_list (its:=(vals ts).toArray) rfl rfl rfl (fun it acc env=>code_sc _ 0 it acc env) (fun C D it=>turn_innerS rfl rfl) accSet F N (.inr ⟨_,hDS,rfl,_,rfl⟩)
  (fun D i oD led=>∃ nS,SetI PySem.Challenge.rw_ik0162_01.row.prog w oD (cover (ts.take i)) nS /\ nS <= 256 * i /\ led = news /\ (∀ q ∈ news,q.1 < D)) ?_ ?_ ?_
 ·rintro D oD hI lt
  exact ⟨0,hI,Nat.zero_le _,rfl,lt⟩
 ·rintro I C D i v m₂ oD led h tk oI hv hE1 hSr hin off hoI;refine bc fun g0=>?_;obtain ⟨nS,hI,hnS,rfl,lt⟩:=hE1;refine g0 ?_;clear g0
  obtain ⟨t,ht,rfl⟩ : ∃ t,ts[i]? = some t /\ v = .ref t.a:=by
   have hv' : (vals ts)[i]? = some v:=by simpa using hv
   unfold vals at hv'
   rw [List.getElem?_map] at hv'
   refine bc fun g0=>?_;obtain ⟨t,h1,h2⟩:=Option.map_eq_some_iff.mp hv';refine g0 ?_;clear g0
   exact ⟨t,h1,h2.symm⟩
  have hmem:=List.mem_of_getElem? ht
  refine bc fun g0=>?_;obtain ⟨b1,b2,b3⟩:=hb t hmem
  obtain ⟨oC,hC,N1⟩:=hin.N;refine g0 ?_;clear g0
  have htup:=((hts t hmem).more (r':=(C,oC) :: (D,oD) :: (I,oI) :: led) fun q hq=>.tail _ (.tail _ (.tail _ hq))).tup (s:={ s with heap:=h }) N1
  refine letOwned_list (N1 (I,oI) (.tail _ (.tail _ (.head _)))).1 hoI ?_
  refine in2_assign2 hin rfl htup rfl rfl rfl fun h2 tk2 hin2=>?_
  refine wpAny_tests_nil ?_
  refine tail_inner rfl ?_
  refine bc fun g0=>?_;obtain ⟨oC2,hC2,N2⟩:=hin2.N;refine g0 ?_;clear g0
  have F2:=hin2.F
  clear N F htup N1
  repeat' row_walkt
  (with_reducible rename IsRange _ _ _ _ _ _ _ _=>hR3)
  (with_reducible rename News _ _ _ _=>N3)
  (with_reducible rename Fr _ _ _ _=>F3)
  refine wpAny_pure ?_
  refine bc fun g0=>?_;obtain ⟨f,hf⟩:=Int.eq_ofNat_of_zero_le b1
  obtain ⟨l,hl⟩:=Int.eq_ofNat_of_zero_le (Int.le_trans b1 b2);refine g0 ?_;clear g0
  have hi8 : i < 8:=by
   have:=(List.getElem?_eq_some_iff.mp ht).1
   exact o643 this hlen
  have e1 : t.l + 1 = ((l + 1 : Nat) : Int):=by exact o644 hl
  rw [e1,hf] at hR3
  refine iter_range (n:=l + 1 - f) rfl rfl rfl (fun it=>code_sc _ 1 it _ _) (fun it=>turn_set rfl rfl) hR3 (range_small f (l + 1) (by exact o185 hl hf b2) (by exact o645 b3 hl)) (range_size f (l + 1) (by exact o185 hl hf b2))
   (fun j oD led'=>∃ nS,SetI PySem.Challenge.rw_ik0162_01.row.prog w oD (fun k=>cover (ts.take i) k || decide ((f : Int) <= k /\ k < f + j)) nS /\ nS <= 256 * i + j /\ led' = (I,oI) :: led) ?_ ?_ ⟨F3,⟨oC2,hC2,N3⟩,hin2.ne,hin2.off⟩ ⟨nS,hI.same (fun k=>by
    have : ¬ ((f : Int) <= k /\ k < f + ((0 : Nat) : Int)):=by exact o646
    rw [decide_eq_false this,Bool.or_false]) rfl,hnS,rfl⟩
  ·rintro I2 j v m₂2 oD2 led2 h tk oI2 hj hE2 hE3 hin3 off2;refine bc fun g0=>?_;obtain ⟨tv,rfl⟩:=hE2;obtain ⟨nS2,hI2,hnS2,rfl⟩:=hE3;refine g0 ?_;clear g0
   refine After.set0 hin3 rfl rfl fun h' tk' hin4=>?_
   refine bc fun g0=>?_;obtain ⟨oC4,hC4,N4⟩:=hin4.N;refine g0 ?_;clear g0
   have F4:=hin4.F
   clear N3 F3
   repeat' row_walkt
   have hj9 : j < 256:=by exact o647 b3 hj hl
   refine add_at hin4 (by assumption) (by assumption) hI2 (by show nS2 + 1 < 4096;exact o648 hj9 hi8 hnS2) fun h5 o5 tk5 hI5 F5 N5=>?_
   refine CEnd.same hin3 off2 hC4 F5 N5 trivial ⟨_,hI5.same (fun k=>?_) rfl,?_,rfl⟩
   ·rw [Bool.or_assoc]
    congr 1
    rw [<- Bool.decide_or]
    apply decide_eq_decide.mpr
    exact o649
   ·split <;> (first | exact o650 hnS2 | exact o651 hnS2 | omega)
  ·rintro m₂2 oD2 led2 h tk hE4 hin4;refine bc fun g0=>?_;obtain ⟨nS2,hI2,hnS2,rfl⟩:=hE4
   obtain ⟨oC4,hC4,N4⟩:=hin4.N;refine g0 ?_;clear g0
   refine CEnd.same hin off hC4 hin4.F N4 hSr ⟨nS2,hI2.same (fun k=>?_) rfl,by exact o652 b3 hl hnS2,rfl,lt⟩
   rw [List.take_add_one,ht,Option.toList_some]
   unfold cover
   rw [List.any_append,List.any_cons,List.any_nil,Bool.or_false,hf,hl]
   congr 1
   apply decide_eq_decide.mpr
   exact o653
 ·rintro D oD led h tk hE5 hSr h'' F' N';refine bc fun g0=>?_;obtain ⟨nS,hI,hnS,rfl,lt⟩:=hE5;refine g0 ?_;clear g0
  rw [List.take_of_length_le (by simp [vals])] at hI
  have hsz : (vals ts).toArray.size <= 8:=by simpa [vals] using hlen
  repeat' row_walkt
  exact cell_store F' N' rfl (.tail _ hcH) hoH rfl rfl fun h9 o9 hd9 F9 N9=>hret D oD nS h9 o9 _ hI (by exact o654 hnS hsz) lt hd9 F9 N9
end
end
section
noncomputable def stO : Stmt:=(blaw)[2]?.getD (.Pass ⟨0,0,0,0⟩)
section
variable {w : World} {p : Program} {loose : List Str} {mean : ExcName -> Option Value} {mg mb : Str -> Option Value} {news : Led}
theorem octets_k (DH cH : Addr) (oH oS : Obj) (S : Int -> Bool) (nS : Nat) (hcH : (cH,oH) ∈ news) (hoH : oH.data = .cell (some (.ref DH))) (hS : (DH,oS) ∈ news) (hset : SetI PySem.Challenge.rw_ik0162_01.row.prog w oS S nS) (hnS : nS <= 3000)
  (dp un : Nat) (gd : Option (List Code)) (aa : Addr) (ccd : Value) (cF : Addr) (outer : List Env) (A₀ : Around) (base h₀ : Heap) (L : Addr) (m : Str -> Option Value) (s : Shared) (Q : Flow -> Shared -> Prop) (E : Value -> Shared -> Prop)
  (B : Below A₀ base outer h₀) (F : Fr h₀ L s.heap m) (X : (K w.params).In h₀) (N : News h₀ L s.heap news) (T : Top p loose mean mg mb h₀) (hd : dp + 20 < recursionLimit) (hu : un + 200 < cLine)
  (hret : ∀ DO vs ns c h' tk' dr',IntsAre vs ns -> ns.Pairwise (· < ·) -> (∀ k,k ∈ ns ↔ S k = true) -> ns.length = nS -> (∀ q ∈ news,q.1 < DO) ->
   Fr h₀ L h' (fun z=>if z = Str.ofString "octets" then some (.ref DO) else m z) -> News h₀ L h' ((DO,listOf vs.toArray c) :: news) -> Q .next { s with heap:=h',toks:=tk',drawn:=dr' }) :
  wpAny (mdl w) (ktrTop dp un gd (Str.ofString "law") slaw L aa ccd [(Str.ofString "figures",cF),(Str.ofString "held",cH)] outer) (exec stO (envX (Str.ofString "law") slaw L aa ccd [(Str.ofString "figures",cF),(Str.ofString "held",cH)])) Q E s:=by
 unfold stO
 dsimp only [blaw]
 show wpAny _ _ (exec (.Assign _ _ _) _) _ _ _
 repeat' row_walkt
 refine sorted_set rfl (N _ hS).1 hset (by exact o655 hnS) fun D vs ns c h1 dr hD hI hlt hmem hlen hk hsz=>?_
 have F1:=F.kept hk
 have N1:=N.kept_cons F hk hsz hD
 have lt : ∀ q ∈ news,q.1 < D:=fun q hq=>Nat.lt_of_lt_of_le (Heap.lt_size (N q hq).1) hsz
 clear N F
 repeat' row_walkt
 exact hret D vs ns c _ _ dr hI hlt hmem hlen lt (by assumption) (by assumption)
end
end
section
open PySem.Builtin PySem.Builtin.Str
section
variable {prog : Program} {w : World} {A : Around} {E : Value -> Shared -> Prop} {s : Shared} {t u v z : Tok} {Q : Value -> Shared -> Prop}
theorem item_gen {value slice : PySem.Expr} {i : Int} {k c : Nat} {l r : List Nat} (hi : i = (k : Int)) (hk : k < 1000) (hd : l.drop k = c :: r)
  (hs : subscripted slice false (.str ⟨l.toArray⟩ t) (.int i u) = operate [.str ⟨l.toArray⟩ t,.int i u] (getItem (.str ⟨l.toArray⟩ t) (.int i u))) (h : ∀ t k,Q (.str ⟨#[c]⟩ t) { s with toks:=k }) :
  wpAny (model prog w) A (subscriptTail value slice (.str ⟨l.toArray⟩ t) (.int i u)) Q E s:=by
 subst hi
 exact item_lit (by simp;exact o709 hk) (by simpa using hd) hs h
theorem slice_gen {h₀ : Heap} {L : Addr} {m : Str -> Option Value} {news : Led} {l r : List Nat} {ua ub : Tok} {i j : Int} {a n : Nat} {value slice : PySem.Expr} (F : Fr h₀ L s.heap m) (N : News h₀ L s.heap news)
  (hi : i = (a : Int)) (hj : j = ((a + n : Nat) : Int)) (hn : a + n <= l.length) (hl : l.length <= 1000) (hr : (l.drop a).take n = r)
  (hs : subscripted slice false (.str ⟨l.toArray⟩ t) (.ref s.heap.objs.size) = operate [.ref s.heap.objs.size,.str ⟨l.toArray⟩ t] (getItem (.str ⟨l.toArray⟩ t) (.ref s.heap.objs.size)))
  (ht : ∀ r,letTemporaryGo value (.str ⟨l.toArray⟩ t) r = pure ())
  (h : ∀ t' h' k,Fr h₀ L h' m -> News h₀ L h' news -> Q (.str ⟨r.toArray⟩ t') { s with heap:=h',toks:=k }) :
  wpAny (model prog w) A (subscriptTail value slice (.str ⟨l.toArray⟩ t) (.ref s.heap.objs.size)) Q E { s with heap:=s.heap.push { cls:=.type "slice",data:=.fields #[.int i ua,.int j ub,.none] } }:=by
 subst hi hj
 refine slice_litK F N (by simp;exact o710 hn hl) ?_ hs ht h
 rw [show ((a : Int)).toNat = a by exact o711,show (((a + n : Nat) : Int) - (a : Int)).toNat = n by exact o712]
 exact hr
theorem occ_here {x : Str} {c lo hi : Nat} (h : x.cps.toList[lo]? = some c) (hlt : lo < hi) : ∃ r,occurrences x ⟨#[c]⟩ lo hi 1 = lo :: r:=by
 rw [StrLaws.occ_eq]
 have e : List.range' lo (hi + 1 - lo) = lo :: List.range' (lo + 1) (hi - lo):=by
  rw [show hi + 1 - lo = (hi - lo) + 1 by exact o713 hlt];rfl
 rw [e,List.forIn_cons]
 have hs:=((StrLaws.subAt_one x c lo).mpr h).2
 have hk:=StrLaws.occ_head_keeps x ⟨#[c]⟩ hi 1 lo (List.range' (lo + 1) (hi - lo)) (#[lo],lo + 1) rfl
 have hb : StrLaws.occBody x ⟨#[c]⟩ hi 1 lo (#[],lo) = pure (ForInStep.yield (#[lo],lo + 1)):=by
  unfold StrLaws.occBody
  rw [if_pos ⟨⟨⟨Nat.zero_lt_one,Nat.le_refl _⟩,hlt⟩,hs⟩]
  rfl
 rw [hb]
 generalize hx : (forIn (List.range' (lo + 1) (hi - lo)) (#[lo],lo + 1) (StrLaws.occBody x ⟨#[c]⟩ hi 1)).run.fst = y at hk
 show ∃ r,y.toList = lo :: r
 rw [<- Array.getElem?_toList] at hk
 cases hy : y.toList with
 | nil=>rw [hy] at hk;cases hk
 | cons a r=>rw [hy] at hk;cases hk;exact ⟨r,rfl⟩
theorem occ_past {x y : Str} {lo hi : Nat} (h : hi < lo) : occurrences x y lo hi 1 = []:=by
 rw [StrLaws.occ_eq,show hi + 1 - lo = 0 by exact o714 h]
 rfl
theorem from_nat {n k : Nat} : fromIndex n (k : Int) = k:=by
 unfold fromIndex
 rw [if_neg (by exact o96)]
 exact o715
theorem find_here {l : List Nat} {y : Str} {c a b : Nat} {i j : Int} (hy : y = ⟨#[c]⟩) (hi : i = (a : Int)) (hj : j = (b : Int)) (h1 : l[a]? = some c) (hab : a < b) (hb : b <= l.length) (h : ∀ t k,Q (.int a t) { s with toks:=k }) :
  wpAny (model prog w) A (call (.builtin "str.find") [.str ⟨l.toArray⟩ t,.str y u,.int i v,.int j z]) Q E s:=by
 subst hy hi hj
 obtain ⟨r,e⟩:=occ_here (x:=⟨l.toArray⟩) (c:=c) (lo:=a) (hi:=b) (by simpa using h1) hab
 refine find4 rfl from_nat (by rw [from_nat];exact Nat.min_eq_left hb) e ?_
 exact h
theorem find_past {l : List Nat} {y : Str} {a b : Nat} {i j : Int} (hi : i = (a : Int)) (hj : j = (b : Int)) (hab : b < a) (hb : b <= l.length) (h : ∀ t k,Q (.int (-1) t) { s with toks:=k }) :
  wpAny (model prog w) A (call (.builtin "str.find") [.str ⟨l.toArray⟩ t,.str y u,.int i v,.int j z]) Q E s:=by
 subst hi hj
 exact find4 rfl from_nat (by rw [from_nat];exact Nat.min_eq_left hb) (occ_past hab) h
theorem lt_yes {a b : Int} (hab : a < b) (h : Q (.bool true) s) : wpAny (model prog w) A (compareOp .Lt (.int a t) (.int b u)) Q E s:=by
 refine PyProof.Rows.lt_int ?_
 rw [decide_eq_true hab];exact h
theorem lt_no {a b : Int} (hab : b <= a) (h : Q (.bool false) s) : wpAny (model prog w) A (compareOp .Lt (.int a t) (.int b u)) Q E s:=by
 refine PyProof.Rows.lt_int ?_
 rw [decide_eq_false (by exact o716 hab)];exact h
theorem ge_no {a b : Int} (hab : a < b) (h : Q (.bool false) s) : wpAny (model prog w) A (compareOp .GtE (.int a t) (.int b u)) Q E s:=by
 refine PyProof.Rows.ge_int ?_
 rw [decide_eq_false (by exact o717 hab)];exact h
end
end
section
noncomputable def whileBody : List Stmt -> List Stmt
 | []=>[]
 | .While _ body _ _ :: _=>body
 | _ :: r=>whileBody r
noncomputable def whileTest : List Stmt -> PySem.Expr
 | []=>.Constant .none 0 default
 | .While t _ _ _ :: _=>t
 | _ :: r=>whileTest r
structure LocT (m : Str -> Option Value) (pat i n add res : Value) : Prop where
 pat : m (Str.ofString "pat") = some pat
 i : m (Str.ofString "i") = some i
 n : m (Str.ofString "n") = some n
 add : m (Str.ofString "add") = some add
 res : m (Str.ofString "res") = some res
section
variable {w : World} {p : Program} {loose : List Str} {mean : ExcName -> Option Value} {mg mb : Str -> Option Value} {news : Led}
theorem eq_y1 {prog : Program} {A : Around} {E : Value -> Shared -> Prop} {s : Shared} {t u : Tok} {Q : Value -> Shared -> Prop} {c a : Nat} {y : Str} (hy : y = ⟨#[a]⟩) (hc : c = a) (h : Q (.bool true) s) : wpAny (model prog w) A (compareOp .Eq (.str ⟨#[c]⟩ t) (.str y u)) Q E s:=eq_lit true (by rw [hy];exact one_eq hc) h
theorem eq_n1 {prog : Program} {A : Around} {E : Value -> Shared -> Prop} {s : Shared} {t u : Tok} {Q : Value -> Shared -> Prop} {c a : Nat} {y : Str} (hy : y = ⟨#[a]⟩) (hc : c ≠ a) (h : Q (.bool false) s) : wpAny (model prog w) A (compareOp .Eq (.str ⟨#[c]⟩ t) (.str y u)) Q E s:=eq_lit false (by rw [hy];exact one_ne hc) h
theorem eq_n3 {prog : Program} {A : Around} {E : Value -> Shared -> Prop} {s : Shared} {t u : Tok} {Q : Value -> Shared -> Prop} {b c d a : Nat} {y : Str} (hy : y = ⟨#[a]⟩) (h : Q (.bool false) s) : wpAny (model prog w) A (compareOp .Eq (.str ⟨#[b,c,d]⟩ t) (.str y u)) Q E s:=eq_lit false (by rw [hy];rfl) h
theorem ne_y1 {prog : Program} {A : Around} {E : Value -> Shared -> Prop} {s : Shared} {t u : Tok} {Q : Value -> Shared -> Prop} {c a : Nat} {y : Str} (hy : y = ⟨#[a]⟩) (hc : c = a) (h : Q (.bool false) s) : wpAny (model prog w) A (compareOp .NotEq (.str ⟨#[c]⟩ t) (.str y u)) Q E s:=ne_lit true (by rw [hy];exact one_eq hc) h
theorem ne_n1 {prog : Program} {A : Around} {E : Value -> Shared -> Prop} {s : Shared} {t u : Tok} {Q : Value -> Shared -> Prop} {c a : Nat} {y : Str} (hy : y = ⟨#[a]⟩) (hc : c ≠ a) (h : Q (.bool true) s) : wpAny (model prog w) A (compareOp .NotEq (.str ⟨#[c]⟩ t) (.str y u)) Q E s:=ne_lit false (by rw [hy];exact one_ne hc) h
theorem mem_ne {c a : Nat} {r : List Nat} (h : c ∈ r) (ha : a ∉ r) : c ≠ a:=fun e=>ha (e ▸ h)
theorem esc_k {dp un : Nat} {gd : Option (List Code)} {cn : Str} {cs : Scope} {a : Addr} {ccd : Value} {cl : List (Str × Addr)} {outer : List Env} {A₀ : Around} {base h₀ : Heap} {L : Addr} {m : Str -> Option Value} {s : Shared} {Q E : Value -> Shared -> Prop} {c : Nat} {t : Tok} (hc : c ∈ 61 :: hxs) (B : Below A₀ base outer h₀) (F : Fr h₀ L s.heap m) (X : (K w.params).In h₀) (N : News h₀ L s.heap news) (T : Top p loose mean mg mb h₀) (hk : cs.kind = .function) (hd : dp + 2 < recursionLimit) (hu : un + 16 < cLine)
  (h : ∀ t' h' tk',Fr h₀ L h' m -> News h₀ L h' news -> Q (.str ⟨#[c]⟩ t') { s with heap:=h',toks:=tk' }) : wpAny (mdl w) (ktrTop dp un gd cn cs L a ccd cl outer) (call (.ref 110) [.str ⟨#[c]⟩ t]) Q E s :=
 escape_ok c hc t dp un gd cn cs a ccd cl outer A₀ base h₀ L m s Q E B F X N T hk hd hu (fun v news' h' tk' hr F' N'=>by obtain ⟨rfl,t',rfl⟩:=hr;exact h t' h' tk' F' N')
local macro_rules | `(tactic| leaf_len)=>`(tactic| first | with_reducible assumption | ((with_reducible show _ ∈ _);k_mem) | (intros;fail_if_success k_end;try dsimp only) | exact rfl | decide | with_unfolding_all rfl | exact mem_ne (by assumption) (by decide) | exact Nat.le_trans (by assumption) (by decide) | ktr_room | ktr_units | k_upd | k_updF)
local macro_rules | `(tactic| k_search $t)=>`(tactic| (k_here;(first | with_reducible apply $t | k_dflt (apply $t)) <;> k_dflt leaf_len))
local macro_rules | `(tactic| walk_at "subscriptTail Name Constant str int")=>`(tactic| k_search item_lit)
local macro_rules | `(tactic| walk_at "compareOp Eq str str")=>`(tactic| first | ((with_reducible show wpAny _ _ (compareOp _ (Value.str ⟨#[_,_,_]⟩ _) _) _ _ _);k_search eq_n3) | k_search eq_y1 | k_search eq_n1)
local macro_rules | `(tactic| walk_at "compareOp NotEq str str")=>`(tactic| first | k_search ne_y1 | k_search ne_n1)
local macro_rules | `(tactic| walk_at "exec If")=>`(tactic| refine wpAny_If ?_)
local macro_rules | `(tactic| walk_at "getAttr ref")=>`(tactic| (k_search attr_k;rename_i l9;k_lt l9))
local macro_rules | `(tactic| walk_at "call ref")=>`(tactic| first | ((with_reducible show wpAny _ _ (call (Value.ref 110) _) _ _ _);k_search esc_k) | (k_search bound_k;rename_i N9;try dsimp only at N9))
local macro_rules | `(tactic| walk_at "callWith ref")=>`(tactic| k_search cwB)
local macro_rules | `(tactic| walk_at "And")=>`(tactic| ((with_reducible show AtB _ _ _ /\ _);k_dflt (refine ⟨atB_of (by k_asm) (by k_mem),?_⟩);(try dsimp only [List.nil_append,List.cons_append])))
local macro_rules | `(tactic| walk_at "compareOp NotIn str str")=>`(tactic| k_search (notin_lit lit_mi (.tail _ (.head _))))
local macro_rules | `(tactic| walk_at "truthy str")=>`(tactic| k_search (truthy_lit true))
local macro_rules | `(tactic| walk_at "compareOp Gt str str")=>`(tactic| k_search gt_one)
local macro_rules | `(tactic| walk_at "subscriptTail Subscript")=>`(tactic| first | ((with_reducible show wpAny _ _ (subscriptTail _ _ _ (Value.int (-1) _)) _ _ _);k_search item_last1) | ((with_reducible show wpAny _ _ (subscriptTail _ _ _ (Value.int 0 _)) _ _ _);k_search item_first1))
local macro_rules | `(tactic| walk_at "subscriptTail Name BinOp ref int")=>`(tactic| k_search item_l)
local macro_rules | `(tactic| walk_at "subscriptTail Name Name ref int")=>`(tactic| k_search item_l)
local macro_rules | `(tactic| k_updF)=>`(tactic| exact UpdF.head (by assumption))
local macro_rules | `(tactic| walk_at "call builtin:str.join")=>`(tactic| k_search joinRdy2)
local macro_rules | `(tactic| walk_at "call builtin:re.Pattern.sub")=>`(tactic| k_search sub_go2)
local macro_rules | `(tactic| walk_at "compareOp In str ref")=>`(tactic| k_search out_tup2)
local macro_rules | `(tactic| walk_at "eval Lambda")=>`(tactic| (k_search lam_k;rename_i N9 l9;(try dsimp only at N9);k_lt l9))
local macro_rules | `(tactic| walk_at "getMethod ref")=>`(tactic| ((with_reducible show wpAny _ _ (getMethod (Value.ref 98) (Str.ofString "sub") _) _ _ _);k_dflt (refine meth_sub2 (Frag.In.keeps (by assumption) (Fr.keep (by assumption))) ?_)))
local macro_rules | `(tactic| walk_at "WhlRest")=>`(tactic| (k_dflt (refine whl_turn (by assumption) ?_);(try k_sweep)))
variable {dp un : Nat} {gd : Option (List Code)} {cn : Str} {cs' : Scope} {aa : Addr} {ccd : Value} {cl : List (Str × Addr)} {outer : List Env} {base g₀ : Heap} {L L₀ l q : Addr} {m : Str -> Option Value} {s : Shared} {Q : Flow -> Shared -> Prop} {E : Value -> Shared -> Prop} {its : Array Value} {nn : Nat} {ps : Array Value} {rest : Led}
theorem turn_go {P : List Nat} {i : Nat} {tp ti tn : Tok} {n : Nat} {body orelse : List Stmt} (hi : i < P.length) (hlen : P.length < 900)
  (B : Below (ktrTop dp un gd cn cs' L aa ccd cl outer) base (envX cn cs' L aa ccd cl :: outer) g₀) (X : (K w.params).In g₀) (T : Top p loose mean mg mb g₀)
  (F : Fr g₀ L₀ s.heap m) (lm : LocT m (.str ⟨P.toArray⟩ tp) (.int (i : Int) ti) (.int P.length tn) (.ref q) (.ref l))
  (hE : PassesOwn (mdl w) ((ktrTop dp un gd cn cs' L aa ccd cl outer).deeper (envOf (Str.ofString "_translate") sutranslate L₀ 117 (.ref 116))) (envOf (Str.ofString "_translate") sutranslate L₀ 117 (.ref 116)) E)
  (k : wpAny (mdl w) ((ktrTop dp un gd cn cs' L aa ccd cl outer).deeper (envOf (Str.ofString "_translate") sutranslate L₀ 117 (.ref 116))) (execs body (envOf (Str.ofString "_translate") sutranslate L₀ 117 (.ref 116))) (WhlPost PySem.Challenge.rw_ik0162_01.row.prog w ((ktrTop dp un gd cn cs' L aa ccd cl outer).deeper (envOf (Str.ofString "_translate") sutranslate L₀ 117 (.ref 116))) E (envOf (Str.ofString "_translate") sutranslate L₀ 117 (.ref 116)) (whileTest butranslate) body orelse Q n) E s) :
  WhlRest PySem.Challenge.rw_ik0162_01.row.prog w ((ktrTop dp un gd cn cs' L aa ccd cl outer).deeper (envOf (Str.ofString "_translate") sutranslate L₀ 117 (.ref 116))) E (envOf (Str.ofString "_translate") sutranslate L₀ 117 (.ref 116)) (whileTest butranslate) body orelse Q (n + 1) s:=by
 refine whl_turn hE ?_
 generalize hW : WhlPost PySem.Challenge.rw_ik0162_01.row.prog w ((ktrTop dp un gd cn cs' L aa ccd cl outer).deeper (envOf (Str.ofString "_translate") sutranslate L₀ 117 (.ref 116))) E (envOf (Str.ofString "_translate") sutranslate L₀ 117 (.ref 116)) (whileTest butranslate) body orelse Q n = W at k ⊢
 dsimp only [butranslate,lhsOf,whileTest]
 repeat' (first | with_reducible (first | ((with_reducible show wpAny _ _ (eval (PySem.Expr.Name _ _) (envOf _ _ _ _ _)) _ _ _);first | ((with_reducible show wpAny _ _ (eval (PySem.Expr.Name (Str.ofString "n") _) _) _ _ _);refine ld (by assumption) (by with_unfolding_all exact lm.n) ?_ (by kernel_rfl!) (by kernel_rfl!) (by decide +kernel)) | ((with_reducible show wpAny _ _ (eval (PySem.Expr.Name (Str.ofString "i") _) _) _ _ _);refine ld (by assumption) (by with_unfolding_all exact lm.i) ?_ (by kernel_rfl!) (by kernel_rfl!) (by decide +kernel))) | ((with_reducible show wpAny _ _ (compareOp PySem.CmpOp.Lt (Value.int _ _) (Value.int _ _)) _ _ _);(first | refine lt_yes (by omega) ?_ | refine lt_no (by omega) ?_))) | (first | ((fail_if_success (with_reducible first | show wpAny _ _ (exec (PySem.Stmt.For _ _ _ _ _) _) _ _ _ | show wpAny _ _ (pyIter _) _ _ _ | show wpAny _ _ (call (Value.type "range") _) _ _ _));first | ((with_reducible show wpAny _ _ (execs (_ :: _) _) _ _ _);k_fold) | ((with_reducible show wpAny _ _ (exec (PySem.Stmt.While _ _ _ _) _) _ _ _);k_dflt (refine whl_start 100 ?_)) | (k_unfold;(try dsimp only)) | walk1 | (dsimp only;walk1) | (leave1;walk_say "STEP leave1";try dsimp only))))
 exact k
theorem turn_end {P : List Nat} {i : Nat} {tp ti tn : Tok} {n : Nat} {body : List Stmt} (hi : P.length <= i)
  (B : Below (ktrTop dp un gd cn cs' L aa ccd cl outer) base (envX cn cs' L aa ccd cl :: outer) g₀) (X : (K w.params).In g₀) (T : Top p loose mean mg mb g₀)
  (F : Fr g₀ L₀ s.heap m) (lm : LocT m (.str ⟨P.toArray⟩ tp) (.int (i : Int) ti) (.int P.length tn) (.ref q) (.ref l))
  (hE : PassesOwn (mdl w) ((ktrTop dp un gd cn cs' L aa ccd cl outer).deeper (envOf (Str.ofString "_translate") sutranslate L₀ 117 (.ref 116))) (envOf (Str.ofString "_translate") sutranslate L₀ 117 (.ref 116)) E)
  (k : Q .next s) :
  WhlRest PySem.Challenge.rw_ik0162_01.row.prog w ((ktrTop dp un gd cn cs' L aa ccd cl outer).deeper (envOf (Str.ofString "_translate") sutranslate L₀ 117 (.ref 116))) E (envOf (Str.ofString "_translate") sutranslate L₀ 117 (.ref 116)) (whileTest butranslate) body [] Q (n + 1) s:=by
 refine whl_turn hE ?_
 generalize hW : WhlPost PySem.Challenge.rw_ik0162_01.row.prog w ((ktrTop dp un gd cn cs' L aa ccd cl outer).deeper (envOf (Str.ofString "_translate") sutranslate L₀ 117 (.ref 116))) E (envOf (Str.ofString "_translate") sutranslate L₀ 117 (.ref 116)) (whileTest butranslate) body [] Q n = W
 dsimp only [butranslate,lhsOf,whileTest]
 repeat' (first | with_reducible (first | ((with_reducible show wpAny _ _ (eval (PySem.Expr.Name _ _) (envOf _ _ _ _ _)) _ _ _);first | ((with_reducible show wpAny _ _ (eval (PySem.Expr.Name (Str.ofString "n") _) _) _ _ _);refine ld (by assumption) (by with_unfolding_all exact lm.n) ?_ (by kernel_rfl!) (by kernel_rfl!) (by decide +kernel)) | ((with_reducible show wpAny _ _ (eval (PySem.Expr.Name (Str.ofString "i") _) _) _ _ _);refine ld (by assumption) (by with_unfolding_all exact lm.i) ?_ (by kernel_rfl!) (by kernel_rfl!) (by decide +kernel))) | ((with_reducible show wpAny _ _ (compareOp PySem.CmpOp.Lt (Value.int _ _) (Value.int _ _)) _ _ _);(first | refine lt_yes (by omega) ?_ | refine lt_no (by omega) ?_))) | (first | ((fail_if_success (with_reducible first | show wpAny _ _ (exec (PySem.Stmt.For _ _ _ _ _) _) _ _ _ | show wpAny _ _ (pyIter _) _ _ _ | show wpAny _ _ (call (Value.type "range") _) _ _ _));first | ((with_reducible show wpAny _ _ (execs (_ :: _) _) _ _ _);k_fold) | ((with_reducible show wpAny _ _ (exec (PySem.Stmt.While _ _ _ _) _) _ _ _);k_dflt (refine whl_start 100 ?_)) | (k_unfold;(try dsimp only)) | walk1 | (dsimp only;walk1) | (leave1;walk_say "STEP leave1";try dsimp only))))
 exact k
theorem turn_ch {P r : List Nat} {i c : Nat} {tp ti tn : Tok} (hP : P.drop i = c :: r) (hlen : P.length < 900) (hc9 : c ∈ 61 :: hxs)
  (B : Below (ktrTop dp un gd cn cs' L aa ccd cl outer) base (envX cn cs' L aa ccd cl :: outer) g₀) (X : (K w.params).In g₀) (T : Top p loose mean mg mb g₀) (hG : AllBare s.gens)
  (hd : dp + 8 < recursionLimit) (hu : un + 128 < cLine) (F : Fr g₀ L₀ s.heap m) (lm : LocT m (.str ⟨P.toArray⟩ tp) (.int (i : Int) ti) (.int P.length tn) (.ref q) (.ref l))
  (N : News g₀ L₀ s.heap ((q,boundObj l) :: (l,listOf its nn) :: (112,tabObj ps) :: rest)) (hps : PsOk ps) (hrest : ∀ p ∈ rest,p.1 ≠ 112) (l1 : @LT.lt Nat _ 112 l /\ AllLt l rest) (l2' : @LT.lt Nat _ l q /\ @LT.lt Nat _ 112 q /\ AllLt q rest) (hits : its.size <= 10)
  (hE : PassesOwn (mdl w) ((ktrTop dp un gd cn cs' L aa ccd cl outer).deeper (envOf (Str.ofString "_translate") sutranslate L₀ 117 (.ref 116))) (envOf (Str.ofString "_translate") sutranslate L₀ 117 (.ref 116)) E)
  (k : ∀ m' ps' h' tk' g' t1 t2 (x : Str),x = ⟨#[c]⟩ -> PsOk ps' -> AllBare g' -> LocT m' (.str ⟨P.toArray⟩ tp) (.int ((i + 1 : Nat) : Int) t1) (.int P.length tn) (.ref q) (.ref l) -> Fr g₀ L₀ h' m' -> News g₀ L₀ h' ((q,boundObj l) :: (l,listOf (its.push (.str x t2)) (nn + 1)) :: (112,tabObj ps') :: rest) -> Q .next { heap:=h',gens:=g',drawn:=s.drawn,toks:=tk',os:=s.os }) :
  wpAny (mdl w) ((ktrTop dp un gd cn cs' L aa ccd cl outer).deeper (envOf (Str.ofString "_translate") sutranslate L₀ 117 (.ref 116))) (execs (whileBody butranslate) (envOf (Str.ofString "_translate") sutranslate L₀ 117 (.ref 116))) Q E s:=by
 have d0:=hP
 have hl5 : i + 1 <= P.length:=by have:=congrArg List.length hP;simp at this;exact o719 this
 have hc : c = 61 \/ (48 <= c /\ c <= 57) \/ (65 <= c /\ c <= 70):=by
  rcases List.mem_cons.mp hc9 with h | h
  ·exact .inl h
  ·exact .inr (hxs_or h)
 have d1:=hP
 have d2:=hP
 have d3:=hP
 have d4:=hP
 have l2:=hP
 have e1:=lit_lb;have e2:=lit_mi;have e3:=lit_st;have e4:=lit_qm;have e5:=lit_ex
 have hI : i < 1000:=Nat.lt_trans (Nat.lt_of_lt_of_le (Nat.lt_succ_self i) hl5) (Nat.lt_trans hlen (by decide))
 dsimp only [butranslate,lhsOf,whileBody]
 repeat' (first | with_reducible (first | ((with_reducible show wpAny _ _ (eval (PySem.Expr.Name _ _) (envOf _ _ _ _ _)) _ _ _);first | ((with_reducible show wpAny _ _ (eval (PySem.Expr.Name (Str.ofString "pat") _) _) _ _ _);refine ld (by assumption) (by with_unfolding_all exact lm.pat) ?_ (by kernel_rfl!) (by kernel_rfl!) (by decide +kernel)) | ((with_reducible show wpAny _ _ (eval (PySem.Expr.Name (Str.ofString "add") _) _) _ _ _);refine ld (by assumption) (by with_unfolding_all exact lm.add) ?_ (by kernel_rfl!) (by kernel_rfl!) (by decide +kernel)) | ((with_reducible show wpAny _ _ (eval (PySem.Expr.Name (Str.ofString "i") _) _) _ _ _);refine ld (by assumption) (by with_unfolding_all exact lm.i) ?_ (by kernel_rfl!) (by kernel_rfl!) (by decide +kernel))) | ((with_reducible show wpAny _ _ (subscriptTail (PySem.Expr.Name _ _) (PySem.Expr.Name _ _) (Value.str _ _) (Value.int _ _)) _ _ _);k_dflt (refine item_gen (k:=i) rfl hI d0 (by with_unfolding_all rfl) ?_);intro _ _;(try dsimp only))) | (first | ((fail_if_success (with_reducible first | show wpAny _ _ (exec (PySem.Stmt.For _ _ _ _ _) _) _ _ _ | show wpAny _ _ (pyIter _) _ _ _ | show wpAny _ _ (call (Value.type "range") _) _ _ _));first | ((with_reducible show wpAny _ _ (execs (_ :: _) _) _ _ _);k_fold) | ((with_reducible show wpAny _ _ (exec (PySem.Stmt.While _ _ _ _) _) _ _ _);k_dflt (refine whl_start 100 ?_)) | (k_unfold;(try dsimp only)) | walk1 | (dsimp only;walk1) | (leave1;walk_say "STEP leave1";try dsimp only))))
 (with_reducible rename Fr _ _ _ _=>F9)
 (with_reducible rename News _ _ _ _=>N9)
 refine' k _ _ _ _ _ _ _ _ ?e0x ?e0p ?e0g ?e0l F9 ?e0N
 case e0N =>
  intro q hq
  rcases List.mem_cons.mp hq with rfl | hq
  ·exact N9 _ (by k_mem)
  ·rcases List.mem_cons.mp hq with rfl | hq
   ·exact N9 _ (by repeat (first | exact List.Mem.head _ | refine List.Mem.tail _ ?_))
   ·rcases List.mem_cons.mp hq with rfl | hq
    ·exact N9 _ (by repeat (first | exact List.Mem.head _ | refine List.Mem.tail _ ?_))
    ·refine N9 _ ?_
     repeat (first | exact hq | refine List.mem_cons_of_mem _ ?_)
 case e0x=>rfl
 case e0p=>assumption
 case e0g=>assumption
 case e0l=>exact ⟨by with_unfolding_all exact lm.pat,by with_unfolding_all rfl,by with_unfolding_all exact lm.n,by with_unfolding_all exact lm.add,by with_unfolding_all exact lm.res⟩
theorem turn_br {P r : List Nat} {i a b : Nat} {tp ti tn : Tok} (hP : P.drop i = 91 :: a :: 45 :: b :: 93 :: r) (hlen : P.length < 900) (ha : a ∈ hxs) (hb : b ∈ hxs) (hab : a <= b)
  (B : Below (ktrTop dp un gd cn cs' L aa ccd cl outer) base (envX cn cs' L aa ccd cl :: outer) g₀) (X : (K w.params).In g₀) (T : Top p loose mean mg mb g₀) (hG : AllBare s.gens)
  (hd : dp + 8 < recursionLimit) (hu : un + 128 < cLine) (F : Fr g₀ L₀ s.heap m) (lm : LocT m (.str ⟨P.toArray⟩ tp) (.int (i : Int) ti) (.int P.length tn) (.ref q) (.ref l))
  (N : News g₀ L₀ s.heap ((q,boundObj l) :: (l,listOf its nn) :: (112,tabObj ps) :: rest)) (hps : PsOk ps) (hrest : ∀ p ∈ rest,p.1 ≠ 112) (l1 : @LT.lt Nat _ 112 l /\ AllLt l rest) (l2' : @LT.lt Nat _ l q /\ @LT.lt Nat _ 112 q /\ AllLt q rest) (hits : its.size <= 10)
  (hE : PassesOwn (mdl w) ((ktrTop dp un gd cn cs' L aa ccd cl outer).deeper (envOf (Str.ofString "_translate") sutranslate L₀ 117 (.ref 116))) (envOf (Str.ofString "_translate") sutranslate L₀ 117 (.ref 116)) E)
  (k : ∀ m' ps' h' tk' g' t1 t2 (x : Str),x = ⟨#[91,a,45,b,93]⟩ -> PsOk ps' -> AllBare g' -> LocT m' (.str ⟨P.toArray⟩ tp) (.int ((i + 5 : Nat) : Int) t1) (.int P.length tn) (.ref q) (.ref l) -> Fr g₀ L₀ h' m' -> News g₀ L₀ h' ((q,boundObj l) :: (l,listOf (its.push (.str x t2)) (nn + 1)) :: (112,tabObj ps') :: rest) -> Q .next { heap:=h',gens:=g',drawn:=s.drawn,toks:=tk',os:=s.os }) :
  wpAny (mdl w) ((ktrTop dp un gd cn cs' L aa ccd cl outer).deeper (envOf (Str.ofString "_translate") sutranslate L₀ 117 (.ref 116))) (execs (whileBody butranslate) (envOf (Str.ofString "_translate") sutranslate L₀ 117 (.ref 116))) Q E s:=by
 have d0:=hP
 have dd : ∀ {n c : Nat} {x : List Nat},P.drop n = c :: x -> P.drop (n + 1) = x:=fun h=>by rw [<- List.tail_drop,h];rfl
 have d1:=dd d0
 have d2:=dd d1
 have d3:=dd d2
 have d4:=dd d3
 have hl5 : i + 5 <= P.length:=by have:=congrArg List.length hP;simp at this;exact o726 this
 have l2 : P[i + 2]? = some 45:=by have:=congrArg (·[0]?) d2;simpa using this
 clear dd
 have ha':=hxs_or ha
 have hb':=hxs_or hb
 have e1:=lit_lb;have e2:=lit_mi;have e3:=lit_st;have e4:=lit_qm;have e5:=lit_ex;have e6:=lit_hat;have e7:=lit_bs
 have hI : i + 5 < 1000:=Nat.lt_trans (Nat.lt_of_le_of_lt hl5 hlen) (by decide)
 have C9 : CodeHd g₀ 116 112:=codeHd_of_K X (by kernel_rfl)
 dsimp only [butranslate,lhsOf,whileBody]
 repeat' (first | with_reducible (first | ((with_reducible show wpAny _ _ (eval (PySem.Expr.Name _ _) (envOf _ _ _ _ _)) _ _ _);first | ((with_reducible show wpAny _ _ (eval (PySem.Expr.Name (Str.ofString "pat") _) _) _ _ _);refine ld (by assumption) (by with_unfolding_all exact lm.pat) ?_ (by kernel_rfl!) (by kernel_rfl!) (by decide +kernel)) | ((with_reducible show wpAny _ _ (eval (PySem.Expr.Name (Str.ofString "n") _) _) _ _ _);refine ld (by assumption) (by with_unfolding_all exact lm.n) ?_ (by kernel_rfl!) (by kernel_rfl!) (by decide +kernel)) | ((with_reducible show wpAny _ _ (eval (PySem.Expr.Name (Str.ofString "i") _) _) _ _ _);refine ld (by assumption) (by with_unfolding_all exact lm.i) ?_ (by kernel_rfl!) (by kernel_rfl!) (by decide +kernel))) | ((with_reducible show wpAny _ _ (subscriptTail _ (PySem.Expr.Slice _ _ _ _) (Value.str _ _) _) _ _ _);k_dflt (first | refine slice_gen (a:=i + 1) (n:=3) (r:=[a,45,b]) (by k_asm) (by k_asm) rfl rfl (Nat.le_trans (Nat.add_le_add_left (show 4 <= 5 by decide) i) hl5) (Nat.le_of_lt (Nat.lt_trans hlen (by decide))) (by rw [d1];rfl) (by with_unfolding_all rfl) (by intro _;with_unfolding_all rfl) ?_ | refine slice_gen (a:=i + 1) (n:=1) (r:=[a]) (by k_asm) (by k_asm) rfl rfl (Nat.le_trans (Nat.add_le_add_left (show 2 <= 5 by decide) i) hl5) (Nat.le_of_lt (Nat.lt_trans hlen (by decide))) (by rw [d1];rfl) (by with_unfolding_all rfl) (by intro _;with_unfolding_all rfl) ?_ | refine slice_gen (a:=i + 3) (n:=1) (r:=[b]) (by k_asm) (by k_asm) rfl rfl (Nat.le_trans (Nat.add_le_add_left (show 4 <= 5 by decide) i) hl5) (Nat.le_of_lt (Nat.lt_trans hlen (by decide))) (by rw [d3];rfl) (by with_unfolding_all rfl) (by intro _;with_unfolding_all rfl) ?_);intro _ _ _ _ _) | ((with_reducible show wpAny _ _ (call (Value.builtin "str.find") _) _ _ _);k_dflt (first | refine find_here (c:=45) (a:=i + 2) (b:=i + 4) lit_mi rfl rfl l2 (Nat.add_lt_add_left (by decide) i) (Nat.le_trans (Nat.add_le_add_left (show 4 <= 5 by decide) i) hl5) ?_ | refine find_past (a:=i + 5) (b:=i + 4) rfl rfl (Nat.add_lt_add_left (by decide) i) (Nat.le_trans (Nat.add_le_add_left (show 4 <= 5 by decide) i) hl5) ?_);intro _ _;(try dsimp only)) | ((with_reducible show wpAny _ _ (compareOp PySem.CmpOp.Lt (Value.int _ _) (Value.int _ _)) _ _ _);(first | refine lt_yes (by omega) ?_ | refine lt_no (by omega) ?_)) | ((with_reducible show wpAny _ _ (compareOp PySem.CmpOp.GtE (Value.int _ _) (Value.int _ _)) _ _ _);refine ge_no (by omega) ?_) | ((with_reducible show wpAny _ _ (subscriptTail (PySem.Expr.Name _ _) (PySem.Expr.Name _ _) (Value.str _ _) (Value.int _ _)) _ _ _);k_dflt (first | refine item_gen (k:=i) rfl (Nat.lt_of_le_of_lt (Nat.le_add_right i 5) hI) d0 (by with_unfolding_all rfl) ?_ | refine item_gen (k:=i + 1) rfl (Nat.lt_of_le_of_lt (Nat.add_le_add_left (show 1 <= 5 by decide) i) hI) d1 (by with_unfolding_all rfl) ?_ | refine item_gen (k:=i + 2) rfl (Nat.lt_of_le_of_lt (Nat.add_le_add_left (show 2 <= 5 by decide) i) hI) d2 (by with_unfolding_all rfl) ?_ | refine item_gen (k:=i + 3) rfl (Nat.lt_of_le_of_lt (Nat.add_le_add_left (show 3 <= 5 by decide) i) hI) d3 (by with_unfolding_all rfl) ?_ | refine item_gen (k:=i + 4) rfl (Nat.lt_of_le_of_lt (Nat.add_le_add_left (show 4 <= 5 by decide) i) hI) d4 (by with_unfolding_all rfl) ?_);intro _ _;(try dsimp only))) | (first | ((fail_if_success (with_reducible first | show wpAny _ _ (exec (PySem.Stmt.For _ _ _ _ _) _) _ _ _ | show wpAny _ _ (pyIter _) _ _ _ | show wpAny _ _ (call (Value.type "range") _) _ _ _));first | ((with_reducible show wpAny _ _ (execs (_ :: _) _) _ _ _);k_fold) | ((with_reducible show wpAny _ _ (exec (PySem.Stmt.While _ _ _ _) _) _ _ _);k_dflt (refine whl_start 100 ?_)) | (k_unfold;(try dsimp only)) | walk1 | (dsimp only;walk1) | (leave1;walk_say "STEP leave1";try dsimp only))))
 (with_reducible rename Fr _ _ _ _=>F9)
 refine For_invVF (hE:=hE) F9 rfl rfl ?_ (by intro _;rfl)
 repeat' (first | with_reducible (first | ((with_reducible show wpAny _ _ (eval (PySem.Expr.Name _ _) (envOf _ _ _ _ _)) _ _ _);first | ((with_reducible show wpAny _ _ (eval (PySem.Expr.Name (Str.ofString "pat") _) _) _ _ _);refine ld (by assumption) (by with_unfolding_all exact lm.pat) ?_ (by kernel_rfl!) (by kernel_rfl!) (by decide +kernel)) | ((with_reducible show wpAny _ _ (eval (PySem.Expr.Name (Str.ofString "n") _) _) _ _ _);refine ld (by assumption) (by with_unfolding_all exact lm.n) ?_ (by kernel_rfl!) (by kernel_rfl!) (by decide +kernel)) | ((with_reducible show wpAny _ _ (eval (PySem.Expr.Name (Str.ofString "i") _) _) _ _ _);refine ld (by assumption) (by with_unfolding_all exact lm.i) ?_ (by kernel_rfl!) (by kernel_rfl!) (by decide +kernel))) | ((with_reducible show wpAny _ _ (subscriptTail _ (PySem.Expr.Slice _ _ _ _) (Value.str _ _) _) _ _ _);k_dflt (first | refine slice_gen (a:=i + 1) (n:=3) (r:=[a,45,b]) (by k_asm) (by k_asm) rfl rfl (Nat.le_trans (Nat.add_le_add_left (show 4 <= 5 by decide) i) hl5) (Nat.le_of_lt (Nat.lt_trans hlen (by decide))) (by rw [d1];rfl) (by with_unfolding_all rfl) (by intro _;with_unfolding_all rfl) ?_ | refine slice_gen (a:=i + 1) (n:=1) (r:=[a]) (by k_asm) (by k_asm) rfl rfl (Nat.le_trans (Nat.add_le_add_left (show 2 <= 5 by decide) i) hl5) (Nat.le_of_lt (Nat.lt_trans hlen (by decide))) (by rw [d1];rfl) (by with_unfolding_all rfl) (by intro _;with_unfolding_all rfl) ?_ | refine slice_gen (a:=i + 3) (n:=1) (r:=[b]) (by k_asm) (by k_asm) rfl rfl (Nat.le_trans (Nat.add_le_add_left (show 4 <= 5 by decide) i) hl5) (Nat.le_of_lt (Nat.lt_trans hlen (by decide))) (by rw [d3];rfl) (by with_unfolding_all rfl) (by intro _;with_unfolding_all rfl) ?_);intro _ _ _ _ _) | ((with_reducible show wpAny _ _ (call (Value.builtin "str.find") _) _ _ _);k_dflt (first | refine find_here (c:=45) (a:=i + 2) (b:=i + 4) lit_mi rfl rfl l2 (Nat.add_lt_add_left (by decide) i) (Nat.le_trans (Nat.add_le_add_left (show 4 <= 5 by decide) i) hl5) ?_ | refine find_past (a:=i + 5) (b:=i + 4) rfl rfl (Nat.add_lt_add_left (by decide) i) (Nat.le_trans (Nat.add_le_add_left (show 4 <= 5 by decide) i) hl5) ?_);intro _ _;(try dsimp only)) | ((with_reducible show wpAny _ _ (compareOp PySem.CmpOp.Lt (Value.int _ _) (Value.int _ _)) _ _ _);(first | refine lt_yes (by omega) ?_ | refine lt_no (by omega) ?_)) | ((with_reducible show wpAny _ _ (compareOp PySem.CmpOp.GtE (Value.int _ _) (Value.int _ _)) _ _ _);refine ge_no (by omega) ?_) | ((with_reducible show wpAny _ _ (subscriptTail (PySem.Expr.Name _ _) (PySem.Expr.Name _ _) (Value.str _ _) (Value.int _ _)) _ _ _);k_dflt (first | refine item_gen (k:=i) rfl (Nat.lt_of_le_of_lt (Nat.le_add_right i 5) hI) d0 (by with_unfolding_all rfl) ?_ | refine item_gen (k:=i + 1) rfl (Nat.lt_of_le_of_lt (Nat.add_le_add_left (show 1 <= 5 by decide) i) hI) d1 (by with_unfolding_all rfl) ?_ | refine item_gen (k:=i + 2) rfl (Nat.lt_of_le_of_lt (Nat.add_le_add_left (show 2 <= 5 by decide) i) hI) d2 (by with_unfolding_all rfl) ?_ | refine item_gen (k:=i + 3) rfl (Nat.lt_of_le_of_lt (Nat.add_le_add_left (show 3 <= 5 by decide) i) hI) d3 (by with_unfolding_all rfl) ?_ | refine item_gen (k:=i + 4) rfl (Nat.lt_of_le_of_lt (Nat.add_le_add_left (show 4 <= 5 by decide) i) hI) d4 (by with_unfolding_all rfl) ?_);intro _ _;(try dsimp only))) | (first | ((fail_if_success (with_reducible first | show wpAny _ _ (exec (PySem.Stmt.For _ _ _ _ _) _) _ _ _ | show wpAny _ _ (pyIter _) _ _ _ | show wpAny _ _ (call (Value.type "range") _) _ _ _));first | ((with_reducible show wpAny _ _ (execs (_ :: _) _) _ _ _);k_fold) | ((with_reducible show wpAny _ _ (exec (PySem.Stmt.While _ _ _ _) _) _ _ _);k_dflt (refine whl_start 100 ?_)) | (k_unfold;(try dsimp only)) | walk1 | (dsimp only;walk1) | (leave1;walk_say "STEP leave1";try dsimp only))))
 (with_reducible rename News _ _ _ _=>N9)
 refine range3_rows F9 N9 (by decide) ?_
 intro hr tkr t1 u1 v1 hR Fr9 Nr9 keep
 refine krs_iter (n:=1) rfl hR (by rfl) (by rfl) Fr9 Nr9 ?_
 clear F9 N9
 intro I hI
 (try k_lt hI)
 refine KrsRest.succ (v:=1) rfl ?_
 intro t9 h9 tk9 F9 N9
 clear Fr9 Nr9
 iterate 40 (first | (k_unfold;(try dsimp only)) | walk1 | (dsimp only;walk1) | (leave1;walk_say "STEP leave1";try dsimp only) | skip)
 refine UnrEnd.intro F9 N9 _ (fun p hp=>hp) (allLt_ne hI) (KrsRest.zero ?_)
 iterate 30 (first | ((fail_if_success (with_reducible show wpAny _ _ (eval (PySem.Expr.GeneratorExp _ _ _ _) _) _ _ _));(first | (k_unfold;(try dsimp only)) | walk1 | (dsimp only;walk1) | (leave1;walk_say "STEP leave1";try dsimp only))) | skip)
 refine' genexp2 ?e1F ?e1N ?e1T ?e1C ?e1cd ?e1U ?e1t ?e1G ?e1hh ?e1hco ?e1hcl ?e1hc ?e1h0 ?e1hx ?e1hk ?e1hr ?e1hD ?e1hit ?e1ha ?e1hb ?e1hs ?e1hE ?_
 case e1F=>k_asm
 case e1N=>k_asm
 case e1T=>k_asm
 case e1C=>exact codeHd_of_K (c:=116) (P:=112) (by assumption) (by kernel_rfl)
 case e1cd=>exact rfl
 case e1U=>k_updF
 case e1t=>assumption
 case e1G=>assumption
 case e1hh=>exact rfl
 case e1hco=>exact rfl
 case e1hcl=>exact rfl
 case e1hc=>decide
 case e1h0=>rfl
 case e1hx=>rfl
 case e1hk=>rfl
 case e1hr=>ktr_room
 case e1hD=>k_mem
 case e1ha=>assumption
 case e1hb=>assumption
 case e1hs=>intro _;rfl
 case e1hit=>(intro Q' hq';skip;repeat' (first | (k_unfold;(try dsimp only)) | walk1 | (dsimp only;walk1) | leave1);exact hq')
 case e1hE =>
  intro cd C A' E' c t s₂ m₂ hA hc hn hm
  refine wpAny_Call_method_lateS rfl rfl rfl ?_
  refine wpAny_Call_method_lateS rfl rfl rfl ?_
  refine wpAny_Name (wpAny_loadName_local rfl rfl hn hm ?_) (by decide)
  refine ⟨"str", "str.replace",PySem.F.plainAttrs_str,PySem.F.slot_str_replace,PySem.F.type_str_replace,typeIs_str _ _ _,(fun _ e=>nomatch e),?_⟩
  refine callWith_method1 (spliced_more (Constant_str (spliced_more (Constant_str (spliced_none ?_)))))
  refine replace_none (c:=92) lit_bs' (hxs_not hc (by decide)) ?_
  refine ⟨"str", "str.replace",PySem.F.plainAttrs_str,PySem.F.slot_str_replace,PySem.F.type_str_replace,typeIs_str _ _ _,(fun _ e=>nomatch e),?_⟩
  refine callWith_method1 (spliced_more (Constant_str (spliced_more (Constant_str (spliced_none ?_)))))
  refine replace_none (c:=45) lit_mi' (hxs_not hc (by decide)) ?_
  exact ⟨⟨_,rfl⟩,_,_,rfl,fun _ _ e=>e⟩
 intro qj hj tkj gj psj hpsj Gj Fj Nj Jj
 dsimp only at Nj Jj
 clear F9 N9
 repeat' (first | with_reducible (((with_reducible show wpAny _ _ (eval (PySem.Expr.Name _ _) (envOf _ _ _ _ _)) _ _ _);first | ((with_reducible show wpAny _ _ (eval (PySem.Expr.Name (Str.ofString "add") _) _) _ _ _);refine ld (by assumption) (by with_unfolding_all exact lm.add) ?_ (by kernel_rfl!) (by kernel_rfl!) (by decide +kernel)) | ((with_reducible show wpAny _ _ (eval (PySem.Expr.Name (Str.ofString "i") _) _) _ _ _);refine ld (by assumption) (by with_unfolding_all exact lm.i) ?_ (by kernel_rfl!) (by kernel_rfl!) (by decide +kernel)) | ((with_reducible show wpAny _ _ (eval (PySem.Expr.Name (Str.ofString "pat") _) _) _ _ _);refine ld (by assumption) (by with_unfolding_all exact lm.pat) ?_ (by kernel_rfl!) (by kernel_rfl!) (by decide +kernel)))) | (first | ((fail_if_success (with_reducible first | show wpAny _ _ (exec (PySem.Stmt.For _ _ _ _ _) _) _ _ _ | show wpAny _ _ (pyIter _) _ _ _ | show wpAny _ _ (call (Value.type "range") _) _ _ _));first | ((with_reducible show wpAny _ _ (execs (_ :: _) _) _ _ _);k_fold) | ((with_reducible show wpAny _ _ (exec (PySem.Stmt.While _ _ _ _) _) _ _ _);k_dflt (refine whl_start 100 ?_)) | (k_unfold;(try dsimp only)) | walk1 | (dsimp only;walk1) | (leave1;walk_say "STEP leave1";try dsimp only))))
 (with_reducible rename Fr _ _ _ _=>F9)
 (with_reducible rename News _ _ _ _=>N9)
 refine' k _ _ _ _ _ _ _ _ ?e0x ?e0p ?e0g ?e0l F9 ?e0N
 case e0N =>
  intro q hq
  rcases List.mem_cons.mp hq with rfl | hq
  ·exact N9 _ (by k_mem)
  ·rcases List.mem_cons.mp hq with rfl | hq
   ·exact N9 _ (by repeat (first | exact List.Mem.head _ | refine List.Mem.tail _ ?_))
   ·rcases List.mem_cons.mp hq with rfl | hq
    ·exact N9 _ (by repeat (first | exact List.Mem.head _ | refine List.Mem.tail _ ?_))
    ·refine N9 _ ?_
     repeat (first | exact hq | refine List.mem_cons_of_mem _ ?_)
 case e0x=>first | rfl | (simp only [Mine.Internal.lit_lb,Mine.Internal.lit_rb];rfl)
 case e0p=>assumption
 case e0g=>assumption
 case e0l=>exact ⟨by with_unfolding_all exact lm.pat,by with_unfolding_all rfl,by with_unfolding_all exact lm.n,by with_unfolding_all exact lm.add,by with_unfolding_all exact lm.res⟩
end
end
section
section
variable {w : World} {p : Program} {loose : List Str} {mean : ExcName -> Option Value} {mg mb : Str -> Option Value} {news : Led}
variable {dp un : Nat} {gd : Option (List Code)} {cn : Str} {cs' : Scope} {aa : Addr} {ccd : Value} {cl : List (Str × Addr)} {outer : List Env} {base g₀ : Heap} {L L₀ l q : Addr} {m : Str -> Option Value} {s : Shared} {Q : Flow -> Shared -> Prop} {E : Value -> Shared -> Prop} {its : Array Value} {nn : Nat} {ps : Array Value} {rest : Led}
theorem step_ch {n : Nat} {orelse : List Stmt} {P r : List Nat} {i c : Nat} {tp ti tn : Tok} (hP : P.drop i = c :: r) (hlen : P.length < 900) (hc9 : c ∈ 61 :: hxs)
  (B : Below (ktrTop dp un gd cn cs' L aa ccd cl outer) base (envX cn cs' L aa ccd cl :: outer) g₀) (X : (K w.params).In g₀) (T : Top p loose mean mg mb g₀) (hG : AllBare s.gens)
  (hd : dp + 8 < recursionLimit) (hu : un + 128 < cLine) (F : Fr g₀ L₀ s.heap m) (lm : LocT m (.str ⟨P.toArray⟩ tp) (.int (i : Int) ti) (.int P.length tn) (.ref q) (.ref l))
  (N : News g₀ L₀ s.heap ((q,boundObj l) :: (l,listOf its nn) :: (112,tabObj ps) :: rest)) (hps : PsOk ps) (hrest : ∀ p ∈ rest,p.1 ≠ 112) (l1 : @LT.lt Nat _ 112 l /\ AllLt l rest) (l2' : @LT.lt Nat _ l q /\ @LT.lt Nat _ 112 q /\ AllLt q rest) (hits : its.size <= 10)
  (hE : PassesOwn (mdl w) ((ktrTop dp un gd cn cs' L aa ccd cl outer).deeper (envOf (Str.ofString "_translate") sutranslate L₀ 117 (.ref 116))) (envOf (Str.ofString "_translate") sutranslate L₀ 117 (.ref 116)) E)
  (k : ∀ m' ps' h' tk' g' t1 t2 (x : Str),x = ⟨#[c]⟩ -> PsOk ps' -> AllBare g' -> LocT m' (.str ⟨P.toArray⟩ tp) (.int ((i + 1 : Nat) : Int) t1) (.int P.length tn) (.ref q) (.ref l) -> Fr g₀ L₀ h' m' -> News g₀ L₀ h' ((q,boundObj l) :: (l,listOf (its.push (.str x t2)) (nn + 1)) :: (112,tabObj ps') :: rest) -> WhlRest PySem.Challenge.rw_ik0162_01.row.prog w ((ktrTop dp un gd cn cs' L aa ccd cl outer).deeper (envOf (Str.ofString "_translate") sutranslate L₀ 117 (.ref 116))) E (envOf (Str.ofString "_translate") sutranslate L₀ 117 (.ref 116)) (whileTest butranslate) (whileBody butranslate) orelse Q n { heap:=h',gens:=g',drawn:=s.drawn,toks:=tk',os:=s.os }) :
  WhlRest PySem.Challenge.rw_ik0162_01.row.prog w ((ktrTop dp un gd cn cs' L aa ccd cl outer).deeper (envOf (Str.ofString "_translate") sutranslate L₀ 117 (.ref 116))) E (envOf (Str.ofString "_translate") sutranslate L₀ 117 (.ref 116)) (whileTest butranslate) (whileBody butranslate) orelse Q (n + 1) s :=
 turn_go (by have:=congrArg List.length hP;simp at this;exact o40 this) hlen B X T F lm hE (turn_ch hP hlen hc9 B X T hG hd hu F lm N hps hrest l1 l2' hits hE (fun m' ps' h' tk' g' t1 t2 x hx a1 a2 a3 a4 a5=>k m' ps' h' tk' g' t1 t2 x hx a1 a2 a3 a4 a5))
theorem step_br {n : Nat} {orelse : List Stmt} {P r : List Nat} {i a b : Nat} {tp ti tn : Tok} (hP : P.drop i = 91 :: a :: 45 :: b :: 93 :: r) (hlen : P.length < 900) (ha : a ∈ hxs) (hb : b ∈ hxs) (hab : a <= b)
  (B : Below (ktrTop dp un gd cn cs' L aa ccd cl outer) base (envX cn cs' L aa ccd cl :: outer) g₀) (X : (K w.params).In g₀) (T : Top p loose mean mg mb g₀) (hG : AllBare s.gens)
  (hd : dp + 8 < recursionLimit) (hu : un + 128 < cLine) (F : Fr g₀ L₀ s.heap m) (lm : LocT m (.str ⟨P.toArray⟩ tp) (.int (i : Int) ti) (.int P.length tn) (.ref q) (.ref l))
  (N : News g₀ L₀ s.heap ((q,boundObj l) :: (l,listOf its nn) :: (112,tabObj ps) :: rest)) (hps : PsOk ps) (hrest : ∀ p ∈ rest,p.1 ≠ 112) (l1 : @LT.lt Nat _ 112 l /\ AllLt l rest) (l2' : @LT.lt Nat _ l q /\ @LT.lt Nat _ 112 q /\ AllLt q rest) (hits : its.size <= 10)
  (hE : PassesOwn (mdl w) ((ktrTop dp un gd cn cs' L aa ccd cl outer).deeper (envOf (Str.ofString "_translate") sutranslate L₀ 117 (.ref 116))) (envOf (Str.ofString "_translate") sutranslate L₀ 117 (.ref 116)) E)
  (k : ∀ m' ps' h' tk' g' t1 t2 (x : Str),x = ⟨#[91,a,45,b,93]⟩ -> PsOk ps' -> AllBare g' -> LocT m' (.str ⟨P.toArray⟩ tp) (.int ((i + 5 : Nat) : Int) t1) (.int P.length tn) (.ref q) (.ref l) -> Fr g₀ L₀ h' m' -> News g₀ L₀ h' ((q,boundObj l) :: (l,listOf (its.push (.str x t2)) (nn + 1)) :: (112,tabObj ps') :: rest) -> WhlRest PySem.Challenge.rw_ik0162_01.row.prog w ((ktrTop dp un gd cn cs' L aa ccd cl outer).deeper (envOf (Str.ofString "_translate") sutranslate L₀ 117 (.ref 116))) E (envOf (Str.ofString "_translate") sutranslate L₀ 117 (.ref 116)) (whileTest butranslate) (whileBody butranslate) orelse Q n { heap:=h',gens:=g',drawn:=s.drawn,toks:=tk',os:=s.os }) :
  WhlRest PySem.Challenge.rw_ik0162_01.row.prog w ((ktrTop dp un gd cn cs' L aa ccd cl outer).deeper (envOf (Str.ofString "_translate") sutranslate L₀ 117 (.ref 116))) E (envOf (Str.ofString "_translate") sutranslate L₀ 117 (.ref 116)) (whileTest butranslate) (whileBody butranslate) orelse Q (n + 1) s :=
 turn_go (by have:=congrArg List.length hP;simp at this;exact o708 this) hlen B X T F lm hE (turn_br hP hlen ha hb hab B X T hG hd hu F lm N hps hrest l1 l2' hits hE (fun m' ps' h' tk' g' t1 t2 x hx a1 a2 a3 a4 a5=>k m' ps' h' tk' g' t1 t2 x hx a1 a2 a3 a4 a5))
end
end
section
theorem eq_yes {prog : Program} {w : World} {A : Around} {E : Value -> Shared -> Prop} {s : Shared} {t u : Tok} {Q : Value -> Shared -> Prop} {a b : Int} (hab : a = b) (h : Q (.bool true) s) : wpAny (model prog w) A (compareOp .Eq (.int a t) (.int b u)) Q E s:=by
 subst hab
 refine PyProof.Rows.eq_int ?_
 rw [beq_self_eq_true];exact h
section
variable {w : World} {p : Program} {loose : List Str} {mean : ExcName -> Option Value} {mg mb : Str -> Option Value} {news : Led}
theorem translate1 (x a b : Nat) (hx : x ∈ hxs) (ha : a ∈ hxs) (hb : b ∈ hxs) (hab : a <= b) (t t2 : Tok) : OkT w p loose mean mg mb 117 [.str ⟨#[61,x,91,a,45,b,93]⟩ t,.none,.str ⟨#[46]⟩ t2] 8 128 [⟨#[61]⟩,⟨#[x]⟩,⟨#[91,a,45,b,93]⟩]:=by
 intro ps rest hps hrest dp un gd cn cs' aa ccd cl outer A₀ base h₀ L m s Q E hG B F X N T hk hd hu hret
 refine wpAny_call ?_
 k_dflt cell_enter
 dsimp only [butranslate,lhsOf]
 repeat' (first | with_reducible (first | ((show wpAny _ _ (getAttr (Value.ref _) _ _) _ _ _);(k_dflt (refine' attr_k ?Fz1 ?Nz1 ?hz1 ?_;(case Fz1=>k_asm);(case Nz1=>k_asm);(case hz1=>k_mem));intro q'z1 h'z1 F'z1 N'z1 l1;(try k_lt l1))) | ((show wpAny _ _ (call (Value.builtin "len") [Value.str (PySem.Str.mk _) _]) _ _ _);refine' Mine.Internal.len_lit ?h1z2 ?_;(case h1z2=>(first | (simp only [PySem.Str.length,List.size_toArray,List.length_cons,List.length_nil,Nat.zero_add,Nat.reduceAdd,Int.cast_ofNat_Int];done) | (simp only [PySem.Str.length,List.size_toArray,List.length_cons,List.length_nil,Nat.zero_add,Nat.reduceAdd,Int.cast_ofNat_Int];decide)));intro t'z2 k'z2;(try simp only [PySem.Str.length,List.size_toArray,List.length_cons,List.length_nil,Nat.zero_add,Nat.reduceAdd,Int.cast_ofNat_Int]))) | row_walkt)
 (with_reducible rename Fr _ _ _ _=>F9)
 (with_reducible rename News _ _ _ _=>N9)
 k_dflt (refine whl_start 4 ?_)
 k_dflt (show WhlRest _ _ _ _ _ (whileTest butranslate) (whileBody butranslate) [] _ _ _)
 refine' step_ch (P:=[61,x,91,a,45,b,93]) (i:=0) rfl (by simp) (.head _) ?B ?X ?T hG hd hu F9 ?lm (fun q hq=>N9 q (List.mem_cons_of_mem _ hq)) hps hrest ?l1 ?l2 (by simp) ?hE ?_
 case B=>assumption
 case X=>assumption
 case T=>assumption
 case hE=>passes_own
 case lm=>exact ⟨by with_unfolding_all rfl,by with_unfolding_all rfl,by with_unfolding_all rfl,by with_unfolding_all rfl,by with_unfolding_all rfl⟩
 case l1=>assumption
 case l2=>assumption
 intro m0 ps0 h0 tk0 g0 ti0 tj0 x0 e0 hp0 G0 lm0 F0 N0
 refine' step_ch (P:=[61,x,91,a,45,b,93]) (i:=1) rfl (by simp) (.tail _ hx) ?B ?X ?T G0 hd hu F0 lm0 N0 hp0 hrest ?l1 ?l2 (by simp) ?hE ?_
 case B=>assumption
 case X=>assumption
 case T=>assumption
 case hE=>passes_own
 case l1=>assumption
 case l2=>assumption
 intro m1 ps1 h1 tk1 g1 ti1 tj1 x1 e1 hp1 G1 lm1 F1 N1
 refine' step_br (P:=[61,x,91,a,45,b,93]) (i:=2) rfl (by simp) ha hb hab ?B ?X ?T G1 hd hu F1 lm1 N1 hp1 hrest ?l1 ?l2 (by simp) ?hE ?_
 case B=>assumption
 case X=>assumption
 case T=>assumption
 case hE=>passes_own
 case l1=>assumption
 case l2=>assumption
 intro m2 ps2 h2 tk2 g2 ti2 tj2 x2 e2 hp2 G2 lm2 F2 N2
 refine' turn_end (P:=[61,x,91,a,45,b,93]) (by simp) ?B ?X ?T F2 lm2 ?hE ?_
 case B=>assumption
 case X=>assumption
 case T=>assumption
 case hE=>passes_own
 dsimp only
 repeat' (first | with_reducible (first | ((show wpAny _ _ (eval (PySem.Expr.Name _ _) (envOf _ _ _ _ _)) _ _ _);(with_reducible rename LocT _ _ _ _ _ _=>lm9);first | ((show wpAny _ _ (eval (PySem.Expr.Name (Str.ofString "n") _) _) _ _ _);refine ld (by assumption) (by with_unfolding_all exact lm9.n) ?_ (by kernel_rfl!) (by kernel_rfl!) (by decide +kernel)) | ((show wpAny _ _ (eval (PySem.Expr.Name (Str.ofString "res") _) _) _ _ _);refine ld (by assumption) (by with_unfolding_all exact lm9.res) ?_ (by kernel_rfl!) (by kernel_rfl!) (by decide +kernel)) | ((show wpAny _ _ (eval (PySem.Expr.Name (Str.ofString "i") _) _) _ _ _);refine ld (by assumption) (by with_unfolding_all exact lm9.i) ?_ (by kernel_rfl!) (by kernel_rfl!) (by decide +kernel))) | ((show wpAny _ _ (compareOp PySem.CmpOp.Eq (Value.int _ _) (Value.int _ _)) _ _ _);(k_dflt (refine eq_yes (by rfl) ?_)))) | row_walkt)
 (with_reducible rename Fr _ _ _ _=>F9)
 (with_reducible rename News _ _ _ _=>N9)
 refine' retT N9 ?h1 ?h2 ?h3 ?ps ?g ?st ?lt F9 hret
 case h1=>(repeat (first | exact List.Mem.head _ | refine List.Mem.tail _ ?_))
 case h2=>(repeat (first | exact List.Mem.head _ | refine List.Mem.tail _ ?_))
 case h3=>(intro q hq;repeat (first | exact hq | refine List.mem_cons_of_mem _ ?_))
 case ps=>assumption
 case g=>assumption
 case lt=>assumption
 case st=>exact strs3 e0 e1 e2
theorem translate2 (a b c d : Nat) (ha : a ∈ hxs) (hb : b ∈ hxs) (hc : c ∈ hxs) (hd9 : d ∈ hxs) (hab : a <= b) (hcd : c <= d) (t t2 : Tok) : OkT w p loose mean mg mb 117 [.str ⟨#[61,91,a,45,b,93,91,c,45,d,93]⟩ t,.none,.str ⟨#[46]⟩ t2] 8 128 [⟨#[61]⟩,⟨#[91,a,45,b,93]⟩,⟨#[91,c,45,d,93]⟩]:=by
 intro ps rest hps hrest dp un gd cn cs' aa ccd cl outer A₀ base h₀ L m s Q E hG B F X N T hk hd hu hret
 refine wpAny_call ?_
 k_dflt cell_enter
 dsimp only [butranslate,lhsOf]
 repeat' (first | with_reducible (first | ((show wpAny _ _ (getAttr (Value.ref _) _ _) _ _ _);(k_dflt (refine' attr_k ?Fz5 ?Nz5 ?hz5 ?_;(case Fz5=>k_asm);(case Nz5=>k_asm);(case hz5=>k_mem));intro q'z5 h'z5 F'z5 N'z5 l1;(try k_lt l1))) | ((show wpAny _ _ (call (Value.builtin "len") [Value.str (PySem.Str.mk _) _]) _ _ _);refine' Mine.Internal.len_lit ?h1z6 ?_;(case h1z6=>(first | (simp only [PySem.Str.length,List.size_toArray,List.length_cons,List.length_nil,Nat.zero_add,Nat.reduceAdd,Int.cast_ofNat_Int];done) | (simp only [PySem.Str.length,List.size_toArray,List.length_cons,List.length_nil,Nat.zero_add,Nat.reduceAdd,Int.cast_ofNat_Int];decide)));intro t'z6 k'z6;(try simp only [PySem.Str.length,List.size_toArray,List.length_cons,List.length_nil,Nat.zero_add,Nat.reduceAdd,Int.cast_ofNat_Int]))) | row_walkt)
 (with_reducible rename Fr _ _ _ _=>F9)
 (with_reducible rename News _ _ _ _=>N9)
 k_dflt (refine whl_start 4 ?_)
 k_dflt (show WhlRest _ _ _ _ _ (whileTest butranslate) (whileBody butranslate) [] _ _ _)
 refine' step_ch (P:=[61,91,a,45,b,93,91,c,45,d,93]) (i:=0) rfl (by simp) (.head _) ?B ?X ?T hG hd hu F9 ?lm (fun q hq=>N9 q (List.mem_cons_of_mem _ hq)) hps hrest ?l1 ?l2 (by simp) ?hE ?_
 case B=>assumption
 case X=>assumption
 case T=>assumption
 case hE=>passes_own
 case lm=>exact ⟨by with_unfolding_all rfl,by with_unfolding_all rfl,by with_unfolding_all rfl,by with_unfolding_all rfl,by with_unfolding_all rfl⟩
 case l1=>assumption
 case l2=>assumption
 intro m0 ps0 h0 tk0 g0 ti0 tj0 x0 e0 hp0 G0 lm0 F0 N0
 refine' step_br (P:=[61,91,a,45,b,93,91,c,45,d,93]) (i:=1) rfl (by simp) ha hb hab ?B ?X ?T G0 hd hu F0 lm0 N0 hp0 hrest ?l1 ?l2 (by simp) ?hE ?_
 case B=>assumption
 case X=>assumption
 case T=>assumption
 case hE=>passes_own
 case l1=>assumption
 case l2=>assumption
 intro m1 ps1 h1 tk1 g1 ti1 tj1 x1 e1 hp1 G1 lm1 F1 N1
 refine' step_br (P:=[61,91,a,45,b,93,91,c,45,d,93]) (i:=6) rfl (by simp) hc hd9 hcd ?B ?X ?T G1 hd hu F1 lm1 N1 hp1 hrest ?l1 ?l2 (by simp) ?hE ?_
 case B=>assumption
 case X=>assumption
 case T=>assumption
 case hE=>passes_own
 case l1=>assumption
 case l2=>assumption
 intro m2 ps2 h2 tk2 g2 ti2 tj2 x2 e2 hp2 G2 lm2 F2 N2
 refine' turn_end (P:=[61,91,a,45,b,93,91,c,45,d,93]) (by simp) ?B ?X ?T F2 lm2 ?hE ?_
 case B=>assumption
 case X=>assumption
 case T=>assumption
 case hE=>passes_own
 dsimp only
 repeat' (first | with_reducible (first | ((show wpAny _ _ (eval (PySem.Expr.Name _ _) (envOf _ _ _ _ _)) _ _ _);(with_reducible rename LocT _ _ _ _ _ _=>lm9);first | ((show wpAny _ _ (eval (PySem.Expr.Name (Str.ofString "n") _) _) _ _ _);refine ld (by assumption) (by with_unfolding_all exact lm9.n) ?_ (by kernel_rfl!) (by kernel_rfl!) (by decide +kernel)) | ((show wpAny _ _ (eval (PySem.Expr.Name (Str.ofString "res") _) _) _ _ _);refine ld (by assumption) (by with_unfolding_all exact lm9.res) ?_ (by kernel_rfl!) (by kernel_rfl!) (by decide +kernel)) | ((show wpAny _ _ (eval (PySem.Expr.Name (Str.ofString "i") _) _) _ _ _);refine ld (by assumption) (by with_unfolding_all exact lm9.i) ?_ (by kernel_rfl!) (by kernel_rfl!) (by decide +kernel))) | ((show wpAny _ _ (compareOp PySem.CmpOp.Eq (Value.int _ _) (Value.int _ _)) _ _ _);(k_dflt (refine eq_yes (by rfl) ?_)))) | row_walkt)
 (with_reducible rename Fr _ _ _ _=>F9)
 (with_reducible rename News _ _ _ _=>N9)
 refine' retT N9 ?h1 ?h2 ?h3 ?ps ?g ?st ?lt F9 hret
 case h1=>(repeat (first | exact List.Mem.head _ | refine List.Mem.tail _ ?_))
 case h2=>(repeat (first | exact List.Mem.head _ | refine List.Mem.tail _ ?_))
 case h3=>(intro q hq;repeat (first | exact hq | refine List.mem_cons_of_mem _ ?_))
 case ps=>assumption
 case g=>assumption
 case lt=>assumption
 case st=>exact strs3 e0 e1 e2
end
end
section
noncomputable def rng (a b : Nat) : List Nat:=signs.filter fun c=>a <= c /\ c <= b
noncomputable def one (x : Nat) : List Nat:=signs.filter fun c=>c = x
theorem rng_len (a b : Nat) : (rng a b).length <= 16:=List.length_filter_le _ _
theorem one_len (x : Nat) : (one x).length <= 16:=List.length_filter_le _ _
noncomputable def takes (f l : Nat) : List (List Str) :=
 if f / 16 = l / 16 then [prod (one (hx (f / 16))) (rng (hx (f % 16)) (hx (l % 16)))]
 else if f / 16 + 1 < l / 16 then [prod (one (hx (f / 16))) (rng (hx (f % 16)) 70),prod (rng (hx (f / 16 + 1)) (hx (l / 16 - 1))) (rng 48 70),prod (one (hx (l / 16))) (rng 48 (hx (l % 16)))]
 else [prod (one (hx (f / 16))) (rng (hx (f % 16)) 70),prod (one (hx (l / 16))) (rng 48 (hx (l % 16)))]
theorem hx_mono : ∀ j < 16,∀ i ≤ j,hx i <= hx j:=by decide
theorem hx_lo : ∀ i < 16,48 <= hx i:=by decide
theorem hx_hi : ∀ i < 16,hx i <= 70:=by decide
section
variable {w : World} {p : Program} {loose : List Str} {mean : ExcName -> Option Value} {mg mb : Str -> Option Value} {news : Led}
theorem taken1 (x a b : Nat) (hx : x ∈ hxs) (ha : a ∈ hxs) (hb : b ∈ hxs) (hab : a <= b) (t : Tok) : OkT w p loose mean mg mb 183 [.str ⟨#[61,x,91,a,45,b,93]⟩ t] 12 160 (prod (one x) (rng a b)) :=
 taken_k _ ⟨#[x]⟩ ⟨#[91,a,45,b,93]⟩ _ _ (one_len x) (rng_len a b) t (translate1 x a b hx ha hb hab) (fun _ t=>figures_one x t) (fun _ t=>figures_rng a b t)
theorem taken2 (a b c d : Nat) (ha : a ∈ hxs) (hb : b ∈ hxs) (hc : c ∈ hxs) (hd : d ∈ hxs) (hab : a <= b) (hcd : c <= d) (t : Tok) : OkT w p loose mean mg mb 183 [.str ⟨#[61,91,a,45,b,93,91,c,45,d,93]⟩ t] 12 160 (prod (rng a b) (rng c d)) :=
 taken_k _ ⟨#[91,a,45,b,93]⟩ ⟨#[91,c,45,d,93]⟩ _ _ (rng_len a b) (rng_len c d) t (translate2 a b c d ha hb hc hd hab hcd) (fun _ t=>figures_rng a b t) (fun _ t=>figures_rng c d t)
theorem taken_ok (f l : Nat) (hfl : f <= l) (hl : l < 256) {i : Nat} {pat : Str} (hi : (pats f l)[i]? = some pat) : ∃ texts,(takes f l)[i]? = some texts /\ ∀ t,OkT w p loose mean mg mb 183 [.str pat t] 12 160 texts:=by
 have f1:=hx_mem (f / 16) (by exact o60 hl hfl)
 have f2:=hx_mem (f % 16) (by exact o1)
 have l1:=hx_mem (l / 16) (by exact o5 hl)
 have l2:=hx_mem (l % 16) (by exact o1)
 have z0 : 48 ∈ hxs:=by decide
 have z1 : 70 ∈ hxs:=by decide
 unfold pats at hi
 unfold takes
 split at hi
 ·rw [if_pos ‹_›]
  match i,hi with
  | 0,hi=>cases hi;exact ⟨_,rfl,taken1 _ _ _ f1 f2 l2 (hx_mono _ (by exact o1) _ (by (first | exact o101 (by assumption) hfl | omega)))⟩
 ·rw [if_neg ‹_›]
  split at hi
  ·rw [if_pos ‹_›]
   match i,hi with
   | 0,hi=>cases hi;exact ⟨_,rfl,taken1 _ _ _ f1 f2 z1 (hx_hi _ (by exact o1))⟩
   | 1,hi=>cases hi;exact ⟨_,rfl,taken2 _ _ _ _ (hx_mem _ (by (first | exact o102 (by assumption) hl | omega))) (hx_mem _ (by exact o61 hl)) z0 z1 (hx_mono _ (by exact o61 hl) _ (by (first | exact o268 (by assumption) | omega))) (by decide)⟩
   | 2,hi=>cases hi;exact ⟨_,rfl,taken1 _ _ _ l1 z0 l2 (hx_lo _ (by exact o1))⟩
  ·rw [if_neg ‹_›]
   match i,hi with
   | 0,hi=>cases hi;exact ⟨_,rfl,taken1 _ _ _ f1 f2 z1 (hx_hi _ (by exact o1))⟩
   | 1,hi=>cases hi;exact ⟨_,rfl,taken1 _ _ _ l1 z0 l2 (hx_lo _ (by exact o1))⟩
end
noncomputable def oct (k : Nat) : Str:=⟨#[61,hx (k / 16),hx (k % 16)]⟩
noncomputable def octs (f l : Nat) : List Str:=(List.range' f (l + 1 - f)).map oct
theorem one_hx : ∀ a < 16,one (hx a) = [hx a]:=by decide
theorem rng_hx : ∀ b < 16,∀ c < 16,rng (hx b) (hx c) = (List.range' b (c + 1 - b)).map hx:=by decide +kernel
theorem row_oct (a b n : Nat) (h : b + n <= 16) : ((List.range' b n).map hx).map (fun y=>(⟨#[61,hx a,y]⟩ : Str)) = (List.range' (16 * a + b) n).map oct:=by
 rw [List.map_map,List.range'_eq_map_range,List.range'_eq_map_range,List.map_map,List.map_map]
 refine List.map_congr_left fun i hi=>?_
 have hi' : i < n:=by simpa using hi
 show (⟨#[61,hx a,hx (b + i)]⟩ : Str) = oct (16 * a + b + i)
 unfold oct
 rw [show (16 * a + b + i) / 16 = a by exact o269 h hi',show (16 * a + b + i) % 16 = b + i by exact o270 h hi']
theorem seg1 : ∀ a < 16,∀ b < 16,∀ c < 16,prod (one (hx a)) (rng (hx b) (hx c)) = octs (16 * a + b) (16 * a + c) \/ c + 1 <= b:=by
 intro a ha b hb c hc
 by_cases h : c + 1 <= b
 ·exact .inr h
 ·left
  rw [one_hx a ha,rng_hx b hb c hc]
  unfold prod octs
  rw [List.flatMap_cons,List.flatMap_nil,List.append_nil,row_oct a b _ (by exact o271 hc h),show 16 * a + c + 1 - (16 * a + b) = c + 1 - b by exact o272]
theorem rows_oct : ∀ (n a : Nat),prod ((List.range' a n).map hx) ((List.range' 0 16).map hx) = (List.range' (16 * a) (16 * n)).map oct
 | 0,a=>rfl
 | n + 1,a=>by
  have ih:=rows_oct n (a + 1)
  unfold prod at ih ⊢
  have e1 : List.range' a (n + 1) = a :: List.range' (a + 1) n:=List.range'_succ
  have r:=row_oct a 0 16 (by exact o273)
  rw [e1,List.map_cons,List.flatMap_cons,ih,r,<- List.map_append]
  rw [show 16 * (n + 1) = 16 + 16 * n by exact o274,<- List.range'_append_1,show 16 * (a + 1) = 16 * a + 16 by exact o275,show 16 * a + 0 = 16 * a by exact o276]
theorem seg2 : ∀ a < 16,∀ b < 16,prod (rng (hx a) (hx b)) (rng 48 70) = octs (16 * a) (16 * b + 15) \/ b + 1 <= a:=by
 intro a ha b hb
 by_cases h : b + 1 <= a
 ·exact .inr h
 ·left
  have e : rng 48 70 = (List.range' 0 16).map hx:=rng_hx 0 (by exact o277) 15 (by exact o62)
  rw [rng_hx a ha b hb,e,rows_oct]
  unfold octs
  rw [show 16 * b + 15 + 1 - 16 * a = 16 * (b + 1 - a) by exact o278]
theorem octs_app {f k l : Nat} (h1 : f <= k + 1) (h2 : k <= l) : octs f k ++ octs (k + 1) l = octs f l:=by
 unfold octs
 rw [<- List.map_append]
 congr 1
 rw [show l + 1 - f = (k + 1 - f) + (l + 1 - (k + 1)) by exact o279 h2 h1,<- List.range'_append_1,show f + (k + 1 - f) = k + 1 by exact o280 h1]
theorem takes_flat (f l : Nat) (hfl : f <= l) (hl : l < 256) : (takes f l).flatten = octs f l:=by
 have e48 : hx 0 = 48:=rfl
 have e70 : hx 15 = 70:=rfl
 have s1 : ∀ a b c,a < 16 -> b <= c -> c < 16 -> prod (one (hx a)) (rng (hx b) (hx c)) = octs (16 * a + b) (16 * a + c):=fun a b c ha hb hc=>by
  rcases seg1 a ha b (by exact o281 hc hb) c hc with h | h
  ·exact h
  ·exact (o282 h hb).elim
 unfold takes
 split
 ·rename_i h
  simp only [List.flatten_cons,List.flatten_nil,List.append_nil]
  rw [s1 _ _ _ (by exact o283 h hl) (by exact o101 h hfl) (by exact o1)]
  congr 1 <;> (first | exact o27 | exact o284 h | omega)
 ·rename_i h
  split
  ·rename_i h2
   simp only [List.flatten_cons,List.flatten_nil,List.append_nil]
   rw [<- e48,<- e70,s1 _ _ _ (by exact o60 hl hfl) (by exact o103) (by exact o62),s1 _ _ _ (by exact o5 hl) (by exact o104) (by exact o1)]
   rw [e48,e70]
   rcases seg2 (f / 16 + 1) (by exact o102 h2 hl) (l / 16 - 1) (by exact o61 hl) with h3 | h3
   ·rw [h3]
    rw [show 16 * (l / 16) + 0 = (16 * (l / 16 - 1) + 15) + 1 by exact o285 h2,octs_app (by exact o286 h2) (by exact o287 h2)]
    rw [show 16 * (f / 16 + 1) = (16 * (f / 16) + 15) + 1 by exact o288,octs_app (by exact o105) (by exact o289 h2)]
    congr 1 <;> exact o27
   ·exact (o290 h2 h3).elim
  ·rename_i h2
   simp only [List.flatten_cons,List.flatten_nil,List.append_nil]
   rw [<- e48,<- e70,s1 _ _ _ (by exact o60 hl hfl) (by exact o103) (by exact o62),s1 _ _ _ (by exact o5 hl) (by exact o104) (by exact o1)]
   rw [show 16 * (l / 16) + 0 = (16 * (f / 16) + 15) + 1 by exact o291 hfl h2 h,octs_app (by exact o105) (by exact o292 hfl h)]
   congr 1 <;> exact o27
end
section
open PyProof.Rows.LCg (NsObj lst Off3 SrcAt fr_but news_but ns_obj list_st range_walks range_st)
noncomputable def stW : Stmt:=blaw[7]?.getD (.Pass ⟨0,0,0,0⟩)
noncomputable def flat (fs : List Tp) : List Str:=fs.flatMap fun t=>octs t.f.toNat t.l.toNat
theorem flat_snoc {fs : List Tp} {i : Nat} {t : Tp} (h : fs[i]? = some t) : flat (fs.take (i + 1)) = flat (fs.take i) ++ octs t.f.toNat t.l.toNat:=by
 unfold flat
 rw [List.take_add_one,h]
 simp
theorem octs_len (f l : Nat) (h : l < 256) : (octs f l).length <= 256:=by
 unfold octs
 rw [List.length_map,List.length_range']
 exact o656 h
theorem flat_len (fs : List Tp) (h : ∀ t ∈ fs,0 <= t.f /\ t.f <= t.l /\ t.l < 256) : (flat fs).length <= 256 * fs.length:=by
 unfold flat
 induction fs with
 | nil=>simp
 | cons t r ih =>
  rw [List.flatMap_cons,List.length_append,List.length_cons]
  have h1:=ih fun t ht=>h t (.tail _ ht)
  have h2:=h t (.head _)
  have h3:=octs_len t.f.toNat t.l.toNat (by exact o657 h2)
  exact o658 h3 h1
theorem take_flat_len (xs : List (List Str)) (j : Nat) : (xs.take j).flatten.length <= xs.flatten.length:=by
 have : xs.flatten = (xs.take j).flatten ++ (xs.drop j).flatten:=by rw [<- List.flatten_append,List.take_append_drop]
 rw [this,List.length_append]
 exact o10
theorem take_flat_snoc {xs : List (List Str)} {j : Nat} {y : List Str} (h : xs[j]? = some y) : (xs.take (j + 1)).flatten = (xs.take j).flatten ++ y:=by
 rw [List.take_add_one,h]
 simp
theorem pats_takes (f l : Nat) : (pats f l).length = (takes f l).length:=by
 unfold pats takes
 split
 ·rfl
 ·split <;> rfl
theorem mem_skip3 {q a b c x : Addr × Obj} {r : Led} (h : q ∈ a :: b :: c :: r) : q ∈ a :: b :: c :: x :: r:=by
 simp only [List.mem_cons] at h ⊢
 refine bc fun g0=>?_;rcases h with h | h | h | h <;> (refine g0 ?_;clear g0)
 ·exact .inl h
 ·exact .inr (.inl h)
 ·exact .inr (.inr (.inl h))
 ·exact .inr (.inr (.inr (.inr h)))
theorem mem_skip4 {q a b c d x : Addr × Obj} {r : Led} (h : q ∈ a :: b :: c :: d :: r) : q ∈ a :: b :: c :: d :: x :: r:=by
 refine bc fun g0=>?_;rcases List.mem_cons.mp h with rfl | h <;> (refine g0 ?_;clear g0)
 ·exact .head _
 ·exact .tail _ (mem_skip3 h)
theorem swap5 {x a b c d : Addr × Obj} {r : Led} {h₀ h : Heap} {L : Addr} (N : News h₀ L h (x :: a :: b :: c :: d :: r)) : News h₀ L h (a :: b :: c :: d :: x :: r):=by
 intro q hq
 apply N
 simp only [List.mem_cons] at hq ⊢
 refine bc fun g0=>?_;rcases hq with h | h | h | h | h | h <;> (refine g0 ?_;clear g0)
 ·exact .inr (.inl h)
 ·exact .inr (.inr (.inl h))
 ·exact .inr (.inr (.inr (.inl h)))
 ·exact .inr (.inr (.inr (.inr (.inl h))))
 ·exact .inl h
 ·exact .inr (.inr (.inr (.inr (.inr h))))
theorem with_first {P : Prop} {d : Addr} {its : Array Value} {n : Nat} {r : Led} {h₀ h : Heap} {L : Addr} (N : News h₀ L h ((d,listOf its n) :: r)) (k : ∀ d9 its9 n9,d9 = d -> its9 = its -> n9 = n -> News h₀ L h ((d9,listOf its9 n9) :: r) -> P) : P:=k _ _ _ rfl rfl rfl N
theorem off_swap {P : Addr -> Prop} {a rest : Led} {d : Addr} {o o' : Obj} (h : ∀ q ∈ a ++ (d,o) :: rest,P q.1) : ∀ q ∈ a ++ (d,o') :: rest,P q.1:=by
 intro q hq
 refine bc fun g0=>?_;rcases List.mem_append.mp hq with hq | hq <;> (refine g0 ?_;clear g0)
 ·exact h q (List.mem_append_left _ hq)
 ·refine bc fun g0=>?_;rcases List.mem_cons.mp hq with rfl | hq <;> (refine g0 ?_;clear g0)
  ·exact h (d,o) (List.mem_append_right _ (.head _))
  ·exact h q (List.mem_append_right _ (.tail _ hq))
section
variable {w : World} {p : Program} {loose : List Str} {mean : ExcName -> Option Value} {mg mb : Str -> Option Value} {news : Led}
theorem takn_k {pat : Str} {texts : List Str} {t : Tok} {ps : Array Value} {g : Obj -> Led} {dp un : Nat} {gd : Option (List Code)} {cn : Str} {cs' : Scope} {aa : Addr} {ccd : Value} {cl : List (Str × Addr)} {outer : List Env} {A₀ : Around} {base h₀ : Heap} {L : Addr} {m : Str -> Option Value} {s : Shared} {Q E : Value -> Shared -> Prop}
  (hT : ∀ t,OkT w p loose mean mg mb 183 [.str pat t] 12 160 texts) (hps : PsOk ps) (hG : AllBare s.gens) (U : UpdF 112 (tabObj ps) news g)
  (B : Below A₀ base outer h₀) (F : Fr h₀ L s.heap m) (X : (K w.params).In h₀) (N : News h₀ L s.heap news) (T : Top p loose mean mg mb h₀) (hk : cs'.kind = .function) (hd : dp + 12 < recursionLimit) (hu : un + 160 < cLine)
  (h : ∀ D its n h' tk' g' ps',PsOk ps' -> AllBare g' -> StrsAre its.toList texts -> (∀ q ∈ news,q.1 < D) -> Fr h₀ L h' m -> News h₀ L h' ((D,listOf its n) :: g (tabObj ps')) -> Q (.ref D) { s with heap:=h',toks:=tk',gens:=g' }) :
  wpAny (mdl w) (ktrTop dp un gd cn cs' L aa ccd cl outer) (call (.ref 183) [.str pat t]) Q E s:=by
 refine bc fun g0=>?_;obtain ⟨own,rest,rfl,hg,h1,h2⟩:=U.split;refine g0 ?_;clear g0
 refine hT t ps (own ++ rest) hps (fun q hq=>by rcases List.mem_append.mp hq with hq | hq;exact h1 q hq;exact h2 q hq) dp un gd cn cs' aa ccd cl outer A₀ base h₀ L m s Q E hG B F X (fun q hq=>N q (by
  refine bc fun g0=>?_;rcases List.mem_cons.mp hq with rfl | hq <;> (refine g0 ?_;clear g0)
  ·exact List.mem_append_right _ (.head _)
  ·refine bc fun g0=>?_;rcases List.mem_append.mp hq with hq | hq <;> (refine g0 ?_;clear g0)
   ·exact List.mem_append_left _ hq
   ·exact List.mem_append_right _ (.tail _ hq))) T hk hd hu ?_
 rintro v news' h' tk' g' ps' hps' hG' hE1 F' N';refine bc fun g0=>?_;obtain ⟨D,items,n,rfl,rfl,hi,lt⟩:=hE1;refine g0 ?_;clear g0
 refine h D items n h' tk' g' ps' hps' hG' hi (fun q hq=>?_) F' (fun q hq=>N' q ?_)
 ·refine bc fun g0=>?_;rcases List.mem_append.mp hq with hq | hq <;> (refine g0 ?_;clear g0)
  ·exact lt q (.tail _ (List.mem_append_left _ hq))
  ·refine bc fun g0=>?_;rcases List.mem_cons.mp hq with rfl | hq <;> (refine g0 ?_;clear g0)
   ·exact lt (112,tabObj ps') (.head _)
   ·exact lt q (.tail _ (List.mem_append_right _ hq))
 ·refine bc fun g0=>?_;rcases List.mem_cons.mp hq with rfl | hq <;> (refine g0 ?_;clear g0)
  ·exact .head _
  ·rw [hg] at hq
   refine bc fun g0=>?_;rcases List.mem_append.mp hq with hq | hq <;> (refine g0 ?_;clear g0)
   ·exact .tail _ (.tail _ (List.mem_append_left _ hq))
   ·refine bc fun g0=>?_;rcases List.mem_cons.mp hq with rfl | hq <;> (refine g0 ?_;clear g0)
    ·exact .tail _ (.head _)
    ·exact .tail _ (.tail _ (List.mem_append_right _ hq))
theorem pat_k {f l : Nat} {t1 t2 : Tok} {dp un : Nat} {gd : Option (List Code)} {cn : Str} {cs' : Scope} {aa : Addr} {ccd : Value} {cl : List (Str × Addr)} {outer : List Env} {A₀ : Around} {base h₀ : Heap} {L : Addr} {m : Str -> Option Value} {s : Shared} {Q E : Value -> Shared -> Prop}
  (hfl : f <= l) (hl : l < 256)
  (B : Below A₀ base outer h₀) (F : Fr h₀ L s.heap m) (X : (K w.params).In h₀) (N : News h₀ L s.heap news) (T : Top p loose mean mg mb h₀) (hk : cs'.kind = .function) (hd : dp + 2 < recursionLimit) (hu : un + 16 < cLine)
  (h : ∀ D its n h' tk',StrsAre its.toList (pats f l) -> (∀ q ∈ news,q.1 < D) -> Fr h₀ L h' m -> News h₀ L h' ((D,listOf its n) :: news) -> Q (.ref D) { s with heap:=h',toks:=tk' }) :
  wpAny (mdl w) (ktrTop dp un gd cn cs' L aa ccd cl outer) (call (.ref 173) [.int f t1,.int l t2]) Q E s:=by
 refine patterns_ok f l hfl hl t1 t2 dp un gd cn cs' aa ccd cl outer A₀ base h₀ L m s Q E B F X N T hk hd hu ?_
 rintro v news' h' tk' hE2 F' N';refine bc fun g0=>?_;obtain ⟨D,items,n,rfl,rfl,hi,lt⟩:=hE2;refine g0 ?_;clear g0
 exact h D items n h' tk' hi lt F' N'
theorem written_k (fs : List Tp) (D0 : Addr) (n0 : Nat) (rest : Led) (ps : Array Value) (hfs : ∀ t ∈ fs,IsTp rest t) (hb : ∀ t ∈ fs,0 <= t.f /\ t.f <= t.l /\ t.l < 256) (hlen : fs.length <= 100) (hD0 : (D0,listOf (vals fs).toArray n0) ∈ rest) (hps : PsOk ps) (hrest : ∀ q ∈ rest,q.1 ≠ 112)
  (dp un : Nat) (gd : Option (List Code)) (aa : Addr) (ccd : Value) (cl : List (Str × Addr)) (outer : List Env) (A₀ : Around) (base h₀ : Heap) (L : Addr) (m : Str -> Option Value) (s : Shared) (Q : Flow -> Shared -> Prop) (E : Value -> Shared -> Prop) (hm : m (Str.ofString "fences") = some (.ref D0))
  (B : Below A₀ base outer h₀) (F : Fr h₀ L s.heap m) (X : (K w.params).In h₀) (N : News h₀ L s.heap ((112,tabObj ps) :: rest)) (T : Top p loose mean mg mb h₀) (hd : dp + 20 < recursionLimit) (hu : un + 200 < cLine)
  (hG : AllBare s.gens) (hret : ∀ D ys h' tk' g' ps',PsOk ps' -> AllBare g' -> StrsAre ys (flat fs) -> (∀ q ∈ rest,q.1 < D) -> Fr h₀ L h' (fun z=>if z = Str.ofString "written" then some (.ref D) else m z) -> News h₀ L h' ((D,lst ys) :: (112,tabObj ps') :: rest) -> Q .next { s with heap:=h',toks:=tk',gens:=g' }) :
  wpAny (mdl w) (ktrTop dp un gd (Str.ofString "law") slaw L aa ccd cl outer) (exec stW (envX (Str.ofString "law") slaw L aa ccd cl)) Q E s:=by
 unfold stW
 dsimp only [blaw]
 show wpAny _ _ (exec (.Assign _ _ _) _) _ _ _
 refine G.asg_lc F (fun _=>rfl) rfl rfl rfl (by decide +kernel) (by decide +kernel) rfl rfl rfl ?_
 refine nameX_L F hm ?_
 refine G.first_list (its:=(vals fs).toArray) rfl rfl rfl (fun it acc env=>code_lc _ 0 it acc env) (fun C D it=>turn_inner rfl rfl) accList hG F N (.inr ⟨_,.tail _ hD0,rfl,_,rfl⟩)
  (fun D i _ oD led=>∃ ps1 ys,PsOk ps1 /\ oD = lst ys /\ led = (112,tabObj ps1) :: rest /\ (112 < D /\ ∀ q ∈ rest,q.1 < D) /\ StrsAre ys (flat (fs.take i))) ?_ ?_ ?_
 ·rintro D oD rfl lt
  exact ⟨ps,[],hps,rfl,rfl,⟨lt (112,tabObj ps) (.head _),fun q hq=>lt q (.tail _ hq)⟩,.nil⟩
 ·rintro I C D i v m₂ oD led h tk gn oI hgn hv hE3 hS hin off hoI;refine bc fun g0=>?_;obtain ⟨ps1,ys,hps1,rfl,rfl,lt,hys⟩:=hE3;refine g0 ?_;clear g0
  obtain ⟨t,ht,rfl⟩ : ∃ t,fs[i]? = some t /\ v = .ref t.a:=by
   have hv' : (vals fs)[i]? = some v:=by simpa using hv
   unfold vals at hv'
   rw [List.getElem?_map] at hv'
   refine bc fun g0=>?_;obtain ⟨t,h1,h2⟩:=Option.map_eq_some_iff.mp hv';refine g0 ?_;clear g0
   exact ⟨t,h1,h2.symm⟩
  have hmem:=List.mem_of_getElem? ht
  refine bc fun g0=>?_;obtain ⟨b1,b2,b3⟩:=hb t hmem
  obtain ⟨oC,hC,N1⟩:=hin.N
  have htup:=((hfs t hmem).more (r':=(C,oC) :: (D,lst ys) :: (I,oI) :: (112,tabObj ps1) :: rest) fun q hq=>.tail _ (.tail _ (.tail _ (.tail _ hq)))).tup (s:={ s with heap:=h }) N1
  obtain ⟨f,hf⟩:=Int.eq_ofNat_of_zero_le b1
  obtain ⟨l,hl⟩:=Int.eq_ofNat_of_zero_le (Int.le_trans b1 b2);refine g0 ?_;clear g0
  have hfl : f <= l:=by exact o659 hl hf b2
  have hl2 : l < 256:=by exact o660 b3 hl
  rw [hf,hl] at htup
  refine letOwned_list (N1 (I,oI) (.tail _ (.tail _ (.head _)))).1 hoI ?_
  refine in2_assign2 hin rfl htup rfl rfl rfl fun h2 tk2 hin2=>?_
  refine wpAny_tests_nil ?_
  refine tail_inner rfl ?_
  refine bc fun g0=>?_;obtain ⟨oC2,hC2,N2⟩:=hin2.N;refine g0 ?_;clear g0
  have F2:=hin2.F
  clear N F htup N1
  repeat' (first | with_reducible (first | ((show wpAny _ _ (eval (PySem.Expr.Name _ _) (compEnvC _ _ _ _)) _ _ _);k_dflt (refine' Mine.Internal.nameC_K ?Fz1 ?Xz1 ?Tz1 ?ez1 ?_ ?h1z1 ?h2z1 ?h3z1;(case h1z1=>exact rfl);(case h2z1=>exact rfl);(case h3z1=>decide);(case Fz1=>k_asm);(case Xz1=>k_asm);(case Tz1=>k_asm);(case ez1=>k_is))) | ((show wpAny _ _ (call (Value.ref 173) _) _ _ _);k_dflt (refine' Mine.Internal.pat_k ?hYz2 ?hZz2 ?Bz2 ?Fz2 ?Xz2 ?Nz2 ?Tz2 ?kz2 ?dz2 ?uz2 ?_;(case hYz2=>assumption);(case hZz2=>assumption);(case Bz2=>k_asm);(case Fz2=>k_asm);(case Xz2=>k_asm);(case Nz2=>k_asm);(case Tz2=>k_asm);(case kz2=>first | exact rfl | assumption);(case dz2=>ktr_room);(case uz2=>ktr_units));intro D'z2 its'z2 n'z2 h'z2 tk'z2 hst'z2 l1 F'z2 N'z2;(try k_lt l1))) | row_walkt)
  dsimp +zetaDelta only
  (with_reducible rename StrsAre _ _=>hst2)
  (with_reducible rename News _ _ _ _=>N3)
  (with_reducible rename Fr _ _ _ _=>F3)
  (with_reducible rename _ < _ /\ _ < _ /\ _ < _ /\ _ < _ /\ _=>lD)
  refine wpAny_pure ?_
  refine with_first N3 ?_
  clear N3
  intro D2 its2 n2 e1 e2 e3 N3
  subst e1 e2 e3
  refine G.iter_list (led₀:=(I,oI) :: (D2,listOf its2 n2) :: (112,tabObj ps1) :: rest) rfl rfl rfl (fun it=>code_lc _ 1 it _ _) (fun it=>turn_inner rfl rfl)
   (fun j _ oD led=>∃ ps2 zs,PsOk ps2 /\ oD = lst zs /\ led = (I,oI) :: (D2,listOf its2 n2) :: (112,tabObj ps2) :: rest /\ StrsAre zs (flat (fs.take i) ++ ((takes f l).take j).flatten)) ?_ ?_ ⟨F3,⟨oC2,hC2,swap4 N3⟩,hin2.ne,?_⟩ (.inr ⟨_,.tail _ (.head _),rfl,_,rfl⟩) ⟨ps1,ys,hps1,rfl,rfl,by simpa using hys⟩ hgn
  ·rintro I2 j v m₂2 oD2 led h tk gn oI2 hgn2 hv hE4 hS2 hin3 off2 hoI2;refine bc fun g0=>?_;obtain ⟨ps2,zs,hps2,rfl,rfl,hzs⟩:=hE4
   obtain ⟨pat,tp,hpat,rfl⟩:=strs_at hst2 (i:=j) (v:=v) (by simpa using hv)
   obtain ⟨texts,htx,hT⟩:=taken_ok (w:=w) (p:=p) (loose:=loose) (mean:=mean) (mg:=mg) (mb:=mb) f l hfl hl2 hpat;refine g0 ?_;clear g0
   refine wpAny_pure ?_
   refine hin3.assign rfl rfl fun h4 hin4=>?_
   refine wpAny_tests_nil ?_
   refine tail_inner rfl ?_
   refine bc fun g0=>?_;obtain ⟨oC4,hC4,N4⟩:=hin4.N;refine g0 ?_;clear g0
   have F4:=hin4.F
   clear N3 F3 N2 F2
   repeat' (first | with_reducible (first | ((show wpAny _ _ (eval (PySem.Expr.Name _ _) (compEnvC _ _ _ _)) _ _ _);k_dflt (refine' Mine.Internal.nameC_K ?Fz3 ?Xz3 ?Tz3 ?ez3 ?_ ?h1z3 ?h2z3 ?h3z3;(case h1z3=>exact rfl);(case h2z3=>exact rfl);(case h3z3=>decide);(case Fz3=>k_asm);(case Xz3=>k_asm);(case Tz3=>k_asm);(case ez3=>k_is)))) | row_walkt)
   have u1:=hin4.off (112,tabObj ps2) (.tail _ (.tail _ (.tail _ (.head _))))
   have u2:=off2 (112,tabObj ps2) (.tail _ (.tail _ (.head _)))
   have u3:=off (112,tabObj ps1) (.head _)
   refine takn_k hT hps2 hgn2 (.tail (Ne.symm u1.1) (.tail (Ne.symm u1.2) (.tail (Ne.symm u2) (.tail (Ne.symm u3) (.tail (Nat.ne_of_gt lD.2.2.2.1) (.head hrest)))))) B F4 X N4 T rfl (by exact o661 hd) (by exact o662 hu) ?_
   intro D3 its3 n3 h5 tk5 g5 ps3 hps3 hG5 hst3 l3 F5 N5
   try dsimp only at N5
   have hbig : ∀ k,(flat (fs.take i) ++ ((takes f l).take j).flatten ++ texts.take k).length <= 1000000:=by
    intro k
    have q1:=flat_len (fs.take i) (fun t ht=>hb t (List.mem_of_mem_take ht))
    have q0 : (fs.take i).length <= 100:=Nat.le_trans (List.length_take_le' _ _) hlen
    have q2:=take_flat_len (takes f l) (j + 1)
    rw [take_flat_snoc htx,List.length_append,takes_flat f l hfl hl2] at q2
    have q3:=octs_len f l hl2
    have q4 : (texts.take k).length <= texts.length:=List.length_take_le' _ _
    rw [List.length_append,List.length_append]
    exact o663 q2 q0 q3 q1 q4
   dsimp +zetaDelta only
   refine wpAny_pure ?_
   refine G.iter_list (led₀:=(I2,oI2) :: (I,oI) :: (D3,listOf its3 n3) :: (D2,listOf its2 n2) :: (112,tabObj ps3) :: rest) rfl rfl rfl (fun it=>code_lc _ 2 it _ _) (fun it=>turn_list rfl rfl)
    (fun k _ oD led=>∃ us,oD = lst us /\ led = (I2,oI2) :: (I,oI) :: (D3,listOf its3 n3) :: (D2,listOf its2 n2) :: (112,tabObj ps3) :: rest /\ StrsAre us (flat (fs.take i) ++ ((takes f l).take j).flatten ++ texts.take k)) ?_ ?_ ⟨F5,⟨oC4,hC4,?_⟩,hin4.ne,?_⟩ (.inr ⟨_,.tail _ (.tail _ (.head _)),rfl,_,rfl⟩) ⟨zs,rfl,rfl,by simpa using hzs⟩ hG5
   ·rintro I3 k v m₂3 oD3 led h tk gn oI3 hgn3 hv hE5 hS3 hin5 off3 hoI3;refine bc fun g0=>?_;obtain ⟨us,rfl,rfl,hus⟩:=hE5
    obtain ⟨y,ty,hy,rfl⟩:=strs_at hst3 (i:=k) (v:=v) (by simpa using hv);refine g0 ?_;clear g0
    refine After.list0 hin5 rfl rfl fun h6 tk6 hin6=>?_
    refine bc fun g0=>?_;obtain ⟨oC6,hC6,N6⟩:=hin6.N;refine g0 ?_;clear g0
    have F6:=hin6.F
    clear N4 F4 N5 F5
    repeat' row_walkt
    refine push_at hin6 (by assumption) (by assumption) ?_ fun h' F' N'=>?_
    ·have:=StrsAre.length hus
     have q:=hbig k
     exact o664 this q
    refine G.CEnd.same hin5 off3 hC6 F' N' hS3 ⟨_,rfl,rfl,?_⟩ hgn3
    rw [List.take_add_one,hy,Option.toList_some,<- List.append_assoc]
    exact StrsAre.append' hus (.cons _ _ .nil)
   ·rintro m₂3 oD3 led h tk gn hgn3 hE6 hS3 hin7;refine bc fun g0=>?_;obtain ⟨us,rfl,rfl,hus⟩:=hE6
    obtain ⟨oC7,hC7,N7⟩:=hin7.N;refine g0 ?_;clear g0
    have hsz:=StrsAre.length hst3
    rw [Array.length_toList] at hsz
    rw [List.take_of_length_le (Nat.le_of_eq hsz.symm)] at hus
    refine ⟨h,tk,gn,m₂3,_,(I,oI) :: (D2,listOf its2 n2) :: (112,tabObj ps3) :: rest,rfl,hgn3,⟨hin7.F,⟨oC7,hC7,fun q hq=>N7 q ?_⟩,hin7.ne,?_⟩,?_,.inr ⟨_,.tail _ (.head _),rfl,_,rfl⟩,ps3,us,hps3,rfl,rfl,by rw [take_flat_snoc htx,<- List.append_assoc];exact hus⟩
    ·exact mem_skip4 hq
    ·exact off_swap (P:=fun x=>x ≠ C /\ x ≠ D) (a:=[(I2,oI2),(I,oI),(D2,listOf its2 n2)]) hin3.off
    ·exact off_swap (P:=fun x=>x ≠ I2) (a:=[(I,oI),(D2,listOf its2 n2)]) off2
   ·exact swap5 N5
   ·intro q hq
    refine bc fun g0=>?_;rcases List.mem_cons.mp hq with rfl | hq <;> (refine g0 ?_;clear g0)
    ·exact hin4.off _ (.head _)
    ·refine bc fun g0=>?_;rcases List.mem_cons.mp hq with rfl | hq <;> (refine g0 ?_;clear g0)
     ·exact hin4.off _ (.tail _ (.head _))
     ·refine bc fun g0=>?_;rcases List.mem_cons.mp hq with rfl | hq <;> (refine g0 ?_;clear g0)
      ·exact ⟨Nat.ne_of_gt (l3 (C,oC4) (.head _)),Nat.ne_of_gt (l3 (D,lst zs) (.tail _ (.head _)))⟩
      ·exact off_swap (P:=fun x=>x ≠ C /\ x ≠ D) (a:=[(I2,oI2),(I,oI),(D2,listOf its2 n2)]) hin4.off q (.tail _ (.tail _ hq))
  ·rintro m₂2 oD2 led h tk gn hgn2 hE7 hS2 hin7;refine bc fun g0=>?_;obtain ⟨ps2,zs,hps2,rfl,rfl,hzs⟩:=hE7
   obtain ⟨oC7,hC7,N7⟩:=hin7.N;refine g0 ?_;clear g0
   have hsz:=StrsAre.length hst2
   rw [Array.length_toList,pats_takes] at hsz
   rw [List.take_of_length_le (Nat.le_of_eq hsz.symm),takes_flat f l hfl hl2] at hzs
   refine ⟨h,tk,gn,m₂2,_,(112,tabObj ps2) :: rest,rfl,hgn2,⟨hin7.F,⟨oC7,hC7,fun q hq=>N7 q (mem_skip3 hq)⟩,hin7.ne,off_swap (P:=fun x=>x ≠ C /\ x ≠ D) (a:=[(I,oI)]) hin.off⟩,off_swap (P:=fun x=>x ≠ I) (a:=[]) off,.inr ⟨_,.tail _ hD0,rfl,_,rfl⟩,ps2,zs,hps2,rfl,rfl,lt,?_⟩
   rw [flat_snoc ht,hf,hl]
   exact hzs
  ·intro q hq
   refine bc fun g0=>?_;rcases List.mem_cons.mp hq with rfl | hq <;> (refine g0 ?_;clear g0)
   ·exact hin2.off _ (.head _)
   ·refine bc fun g0=>?_;rcases List.mem_cons.mp hq with rfl | hq <;> (refine g0 ?_;clear g0)
    ·exact ⟨Nat.ne_of_gt lD.1,Nat.ne_of_gt lD.2.1⟩
    ·exact hin2.off _ (.tail _ hq)
 ·rintro D m₂ oD led h tk gn hgn hE8 hS h'' tk'' F' N';refine bc fun g0=>?_;obtain ⟨ps1,ys,hps1,rfl,rfl,lt,hys⟩:=hE8;refine g0 ?_;clear g0
  refine hret D ys h'' tk'' gn ps1 hps1 hgn ?_ lt.2 F' N'
  rw [List.take_of_length_le (by simp [vals])] at hys
  exact hys
end
end
section
theorem cover_iff {ts : List Tp} {k : Int} : cover ts k = true ↔ ∃ t ∈ ts,t.f <= k /\ k <= t.l:=by
 unfold cover
 rw [List.any_eq_true]
 simp only [decide_eq_true_eq]
theorem nats_of {ts : List Tp} {ns : List Int} (hb : ∀ t ∈ ts,0 <= t.f /\ t.f <= t.l /\ t.l < 256) (hlt : ns.Pairwise (· < ·)) (hm : ∀ k,k ∈ ns ↔ cover ts k = true) :
  ∃ os : List Nat,ns = os.map (fun (k : Nat)=>(k : Int)) /\ os.Pairwise (· < ·) /\ (∀ c ∈ os,c < 256) /\ os.length <= 256:=by
 have rng : ∀ k ∈ ns,0 <= k /\ k < 256:=fun k hk=>by
  obtain ⟨t,ht,h1,h2⟩:=cover_iff.mp ((hm k).mp hk)
  have:=hb t ht
  exact o300 this h1 h2
 have e : ns = (ns.map Int.toNat).map (fun (k : Nat)=>(k : Int)):=by
  rw [List.map_map]
  conv=>lhs;rw [<- List.map_id ns]
  exact List.map_congr_left fun k hk=>by
   have:=rng k hk
   show k = ((k.toNat : Nat) : Int)
   exact o301 this
 have hp : (ns.map Int.toNat).Pairwise (· < ·):=by
  rw [e,List.pairwise_map] at hlt
  exact hlt.imp fun h=>by exact o302 h
 have h256 : ∀ c ∈ ns.map Int.toNat,c < 256:=fun c hc=>by
  obtain ⟨k,hk,rfl⟩:=List.mem_map.mp hc
  have:=rng k hk
  exact o303 this
 refine ⟨_,e,hp,h256,?_⟩
 have hr : ∀ (l : List Nat) (a : Nat),l.Pairwise (· < ·) -> (∀ c ∈ l,a <= c /\ c < 256) -> l.length + a <= 256 \/ l = []:=by
  intro l
  induction l with
  | nil=>intro a _ _;exact .inr rfl
  | cons x l ih =>
   intro a hp hc
   rw [List.pairwise_cons] at hp
   have hx:=hc x (.head _)
   rcases ih (x + 1) hp.2 (fun c hc'=>⟨hp.1 c hc',(hc c (.tail _ hc')).2⟩) with h | h
   ·left;rw [List.length_cons];exact o304 h hx
   ·left;subst h;simp;exact o305 hx
 rcases hr _ 0 hp fun c hc=>⟨Nat.zero_le _,h256 c hc⟩ with h | h
 ·simpa using h
 ·rw [h];simp
noncomputable def natPair (t : Tp) : Nat × Nat:=(t.f.toNat,t.l.toNat)
theorem link {ts fs : List Tp} {os : List Nat} (hb : ∀ t ∈ ts,0 <= t.f /\ t.f <= t.l /\ t.l < 256) (hs : os.Pairwise (· < ·)) (hm : ∀ k,k ∈ os.map (fun (k : Nat)=>(k : Int)) ↔ cover ts k = true)
  (hfl : ∀ t ∈ fs,t.f <= t.l) (hp : fs.Pairwise fun a b=>a.l + 1 < b.f) (hc : ∀ o : Int,(∃ t ∈ fs,t.f <= o /\ o <= t.l) ↔ ∃ t ∈ ts,t.f <= o /\ o <= t.l) :
  (∀ t ∈ fs,0 <= t.f /\ t.f <= t.l /\ t.l < 256) /\ (os.filter fun (c : Nat)=>!cover ts ((c : Int) - 1)).map (fun (k : Nat)=>(k : Int)) = fs.map (·.f) /\ (os.filter fun (c : Nat)=>!cover ts ((c : Int) + 1)).map (fun (k : Nat)=>(k : Int)) = fs.map (·.l) /\ flat fs = os.map oct:=by
 have fb : ∀ t ∈ fs,0 <= t.f /\ t.f <= t.l /\ t.l < 256:=fun t ht=>by
  have h0:=hfl t ht
  obtain ⟨t1,m1,a1,a2⟩:=(hc t.f).mp ⟨t,ht,Int.le_refl _,h0⟩
  obtain ⟨t2,m2,b1,b2⟩:=(hc t.l).mp ⟨t,ht,h0,Int.le_refl _⟩
  have:=hb t1 m1
  have:=hb t2 m2
  (first | exact o306 (by assumption) this h0 b2 a1 | omega)
 have hle : ∀ t ∈ fs.map natPair,t.1 <= t.2:=fun t ht=>by
  obtain ⟨q,hq,rfl⟩:=List.mem_map.mp ht
  have:=fb q hq
  simp only [natPair]
  exact o307 this
 have hpn : (fs.map natPair).Pairwise fun a b=>a.2 + 1 < b.1:=by
  rw [List.pairwise_map]
  refine List.Pairwise.imp_of_mem (fun {a b} ha hb' h=>?_) hp
  have:=fb a ha
  have:=fb b hb'
  simp only [natPair]
  (first | exact o308 (by assumption) h | omega)
 have hmem : ∀ c : Nat,c ∈ os ↔ ∃ t ∈ fs.map natPair,t.1 <= c /\ c <= t.2:=fun c=>by
  have e1 : c ∈ os ↔ (c : Int) ∈ os.map (fun (k : Nat)=>(k : Int)):=by
   rw [List.mem_map]
   refine ⟨fun h=>⟨c,h,rfl⟩,fun ⟨d,hd,e⟩=>?_⟩
   have : d = c:=by exact o309 e
   exact this ▸ hd
  rw [e1,hm,cover_iff,<- hc]
  constructor
  ·rintro ⟨t,ht,a1,a2⟩
   have:=fb t ht
   exact ⟨natPair t,List.mem_map_of_mem ht,by simp only [natPair];exact o310 a1,by simp only [natPair];exact o311 a2⟩
  ·rintro ⟨q,hq,a1,a2⟩
   obtain ⟨t,ht,rfl⟩:=List.mem_map.mp hq
   have:=fb t ht
   simp only [natPair] at a1 a2
   exact ⟨t,ht,by exact o312 a1,by exact o313 this a2⟩
 have hS : ∀ x : Int,cover ts x = true ↔ ∃ c ∈ os,(c : Int) = x:=fun x=>by
  rw [<- hm x,List.mem_map]
 have s1:=starts_eq hle hpn hs hmem hS
 have s2:=ends_eq hle hpn hs hmem hS
 have s3:=octets_runs hle hpn hs hmem
 refine ⟨fb,?_,?_,?_⟩
 ·rw [s1,List.map_map,List.map_map]
  exact List.map_congr_left fun t ht=>by
   have:=fb t ht
   show ((t.f.toNat : Nat) : Int) = t.f
   exact o314 this
 ·rw [s2,List.map_map,List.map_map]
  exact List.map_congr_left fun t ht=>by
   have:=fb t ht
   show ((t.l.toNat : Nat) : Int) = t.l
   exact o315 this
 ·rw [s3]
  unfold flat runs octs
  rw [List.map_flatMap,List.flatMap_map]
  rfl
theorem os_ne {ts : List Tp} {ns : List Int} {os : List Nat} (h : ts.map Tp.pair = ((58,66) :: (64,70) :: (ns.take 6).map pairOf)) (hm : ∀ k,k ∈ os.map (fun (k : Nat)=>(k : Int)) ↔ cover ts k = true) : os ≠ []:=by
 rintro rfl
 have hq : ((58,66) : Int × Int) ∈ ts.map Tp.pair:=by rw [h];exact .head _
 obtain ⟨t,ht,e⟩:=List.mem_map.mp hq
 simp only [Tp.pair,Prod.mk.injEq] at e
 have:=(hm 58).mpr (cover_iff.mpr ⟨t,ht,by exact o316 e,by exact o317 e⟩)
 simp at this
end
section
open PyProof.Rows.LCg (NsObj lst Off3 SrcAt fr_but news_but ns_obj list_st range_walks range_st)
noncomputable def stC : Stmt:=(blaw)[9]?.getD (.Pass ⟨0,0,0,0⟩)
theorem fdiv16 (c : Nat) : Int.fdiv (c : Int) 16 = ((c / 16 : Nat) : Int):=by
 rw [Int.fdiv_eq_ediv_of_nonneg _ (by decide)];rfl
theorem fmod16 (c : Nat) : Int.fmod (c : Int) 16 = ((c % 16 : Nat) : Int):=by
 rw [Int.fmod_eq_emod_of_nonneg _ (by decide)];rfl
theorem signs_at : ∀ k < 16,signs.drop k = hx k :: signs.drop (k + 1):=by decide
theorem strs_dat {vs : List Value} {ys : List Str} (h : StrsAre vs ys) : DatAll [] vs (ys.map Dat.str):=by
 induction h with
 | nil=>exact .nil
 | cons n t h ih=>exact .cons (.str _ _) ih
section
variable {prog : Program} {w : World} {A : Around} {E : Value -> Shared -> Prop} {s : Shared} {Q : Value -> Shared -> Prop} {h₀ : Heap} {L a b : Addr} {news : Led} {xs ys : List Value} {ka kb : Nat} {zs : List Str}
open Classical in
theorem strs_same (N : News h₀ L s.heap news) (ma : (a,listOf xs.toArray ka) ∈ news) (mb : (b,listOf ys.toArray kb) ∈ news) (hx : StrsAre xs zs) (hy : StrsAre ys zs) (hok : ∀ d ∈ zs.map Dat.str,kqdOk 8 d = true) (hu : A.units + 64 < cLine) (h : Q (.bool false) s) :
  wpAny (model prog w) A (compareOp .NotEq (.ref a) (.ref b)) Q E s :=
 kqd_ne (n₁:=[]) (n₂:=[]) N ma rfl rfl (strs_dat hx) (fun _ hq=>nomatch hq) mb rfl rfl (strs_dat hy) (fun _ hq=>nomatch hq) hok hok hu (by rw [decide_eq_true rfl];exact h)
end
theorem oct_ok {os : List Nat} (h : ∀ c ∈ os,c < 256) : ∀ d ∈ (os.map oct).map Dat.str,kqdOk 8 d = true:=by
 intro d hd
 rw [List.map_map] at hd
 refine bc fun g0=>?_;obtain ⟨c,hc,rfl⟩:=List.mem_map.mp hd;refine g0 ?_;clear g0
 have h1:=hx_hi (c / 16) (by have:=h c hc;exact o5 this)
 have h2:=hx_hi (c % 16) (by exact o1)
 simp [kqdOk,PyData.strOk,oct]
 exact o665 h2 h1
section
variable {prog : Program} {w : World} {A : Around} {E : Value -> Shared -> Prop} {s : Shared} {t u : Tok} {Q : Value -> Shared -> Prop}
theorem item_sg {i : Int} {k : Nat} {value slice : PySem.Expr} (hi : i = (k : Int)) (hk : k < 16) (hs : subscripted slice false (.str ⟨signs.toArray⟩ t) (.int i u) = operate [.str ⟨signs.toArray⟩ t,.int i u] (getItem (.str ⟨signs.toArray⟩ t) (.int i u)))
  (h : ∀ t' k',Q (.str ⟨#[hx k]⟩ t') { s with toks:=k' }) : wpAny (model prog w) A (subscriptTail value slice (.str ⟨signs.toArray⟩ t) (.int i u)) Q E s:=by
 subst hi
 exact item_lit (by simp;exact o666 hk) (by simpa using signs_at k hk) hs h
end
section
variable {w : World} {p : Program} {loose : List Str} {mean : ExcName -> Option Value} {mg mb : Str -> Option Value} {news : Led}
theorem cmp_k (os : List Nat) (vs wv : List Value) (n0 nw : Nat) (DO DW cH cF : Addr) (oF : Obj) (tF : Tok) (hO : IntsAre vs (List.map (fun (k : Nat)=>(k : Int)) os)) (hos : ∀ c ∈ os,c < 256) (hlen : os.length <= 1000) (hDO : (DO,listOf vs.toArray n0) ∈ news)
  (hDW : (DW,listOf wv.toArray nw) ∈ news) (hW : StrsAre wv (os.map oct)) (hcF : (cF,oF) ∈ news) (hoF : oF.data = .cell (some (.str ⟨signs.toArray⟩ tF)))
  (dp un : Nat) (gd : Option (List Code)) (aa : Addr) (ccd : Value) (outer : List Env) (A₀ : Around) (base h₀ : Heap) (L : Addr) (m : Str -> Option Value) (s : Shared) (Q : Flow -> Shared -> Prop) (E : Value -> Shared -> Prop) (hm : m (Str.ofString "octets") = some (.ref DO)) (hmw : m (Str.ofString "written") = some (.ref DW))
  (B : Below A₀ base outer h₀) (F : Fr h₀ L s.heap m) (X : (K w.params).In h₀) (N : News h₀ L s.heap news) (T : Top p loose mean mg mb h₀) (hd : dp + 20 < recursionLimit) (hu : un + 200 < cLine)
  (hret : ∀ h' tk',Fr h₀ L h' m -> News h₀ L h' news -> Q .next { s with heap:=h',toks:=tk' }) :
  wpAny (mdl w) (ktrTop dp un gd (Str.ofString "law") slaw L aa ccd [(Str.ofString "figures",cF),(Str.ofString "held",cH)] outer) (exec stC (envX (Str.ofString "law") slaw L aa ccd [(Str.ofString "figures",cF),(Str.ofString "held",cH)])) Q E s:=by
 unfold stC
 dsimp only [blaw]
 show wpAny _ _ (exec (.If _ _ _ _) _) _ _ _
 repeat' row_walkt
 refine nameX_L F hmw ?_
 refine eval_lc F (fun _=>rfl) rfl rfl (by decide +kernel) (by decide +kernel) ?_
 refine nameX_L F hm ?_
 refine first_list (its:=vs.toArray) rfl rfl rfl (fun it acc env=>code_lc _ 0 it acc env) (fun C D it=>turn_list rfl rfl) accList F N (.inr ⟨_,hDO,rfl,_,rfl⟩)
  (fun D i oD led=>∃ ys,oD = lst ys /\ led = news /\ (∀ q ∈ news,q.1 < D) /\ StrsAre ys ((os.take i).map oct)) ?_ ?_ ?_
 ·rintro D oD rfl lt
  exact ⟨[],rfl,rfl,lt,.nil⟩
 ·rintro I C D i v m₂ oD led h tk oI hv hE1 hS hin off hoI;refine bc fun g0=>?_;obtain ⟨ys,rfl,rfl,lt,hys⟩:=hE1
  obtain ⟨y,ty,hy,rfl⟩:=ints_at hO (i:=i) (v:=v) (by simpa using hv)
  rw [List.getElem?_map] at hy
  obtain ⟨c,hc,rfl⟩:=Option.map_eq_some_iff.mp hy;refine g0 ?_;clear g0
  have hc2:=hos c (List.mem_of_getElem? hc)
  refine After.list0 hin rfl rfl fun h2 tk2 hin2=>?_
  refine bc fun g0=>?_;obtain ⟨oC2,hC2,N2⟩:=hin2.N;refine g0 ?_;clear g0
  have F2:=hin2.F
  repeat' (first | with_reducible (first | ((show wpAny _ _ (subscriptTail (PySem.Expr.Name _ _) (PySem.Expr.BinOp _ _ _ _) (Value.str _ _) (Value.int _ _)) _ _ _);((refine' Mine.Internal.item_sg ?h1z1 ?h2z1 ?h3z1 ?_;(case h1z1=>first | exact Mine.Internal.fdiv16 _ | exact Mine.Internal.fmod16 _);(case h2z1=>omega);(case h3z1=>with_unfolding_all rfl));intro t'z1 k'z1;(try dsimp only))) | ((show wpAny _ _ (eval (PySem.Expr.Name _ _) (compEnvC _ _ _ _)) _ _ _);k_dflt (refine' Mine.Internal.nameC_cell ?Nz2 ?cz2 ?hmz2 ?dz2 ?_ ?h1z2 ?h2z2 ?h3z2;(case h1z2=>exact rfl);(case h2z2=>exact rfl);(case h3z2=>decide);(case cz2=>exact rfl);(case Nz2=>k_asm);(case hmz2=>(refine List.mem_cons_of_mem _ (List.mem_cons_of_mem _ (List.mem_cons_of_mem _ ?_));assumption));(case dz2=>assumption)))) | row_walkt)
  rw [show (Str.ofString "=" ++ ⟨#[hx (c / 16)]⟩ ++ ⟨#[hx (c % 16)]⟩ : Str) = oct c from by rw [lit_eq];rfl]
  refine push_at hin2 (by assumption) (by assumption) ?_ fun h' F' N'=>?_
  ·have q1:=StrsAre.length hys
   have q2 : (os.take i).length <= os.length:=List.length_take_le' _ _
   rw [List.length_map] at q1
   exact o186 q1 hlen q2
  refine CEnd.same hin off hC2 F' N' hS ⟨_,rfl,rfl,lt,?_⟩
  rw [List.take_add_one,hc,Option.toList_some,List.map_append]
  exact StrsAre.append' hys (.cons _ _ .nil)
 ·rintro D oD led h tk hE2 hS h'' F' N';refine bc fun g0=>?_;obtain ⟨ys,rfl,rfl,lt,hys⟩:=hE2;refine g0 ?_;clear g0
  repeat' row_walkt
  rw [List.take_of_length_le (by have:=IntsAre.length hO;rw [List.length_map] at this;rw [List.size_toArray];exact o54 this)] at hys
  refine strs_same N' (.tail _ hDW) (.head _) hW hys (oct_ok hos) (by show un + 64 < cLine;exact o182 hu) ?_
  clear N F
  repeat' row_walkt
  exact hret _ _ F' fun q hq=>N' q (.tail _ hq)
end
end
section
open PyProof.Rows.LCg (NsObj lst Off3 SrcAt fr_but news_but ns_obj list_st range_walks range_st)
theorem IntsAre.append' {xs ys : List Value} {ns ms : List Int} (h : IntsAre xs ns) (h2 : IntsAre ys ms) : IntsAre (xs ++ ys) (ns ++ ms):=by
 induction h with
 | nil=>exact h2
 | cons n t h ih=>exact .cons n t ih
section
variable {prog : Program} {w : World} {A : Around} {E : Value -> Shared -> Prop} {s : Shared} {Q : Value -> Shared -> Prop} {h₀ : Heap} {L a : Addr} {news : Led} {oS : Obj} {S : Int -> Bool} {n : Nat} {k : Int} {t : Tok}
theorem notin_m (N : News h₀ L s.heap news) (hm : (a,oS) ∈ news) (hso : oS.SetObjOf (intKind prog w) S n) (hb : n < scanBound) (h : Q (.bool (!S k)) { s with toks:=s.toks + 1 }) : wpAny (model prog w) A (compareOp .NotIn (.int k t) (.ref a)) Q E s:=by
 refine bc fun g0=>?_;obtain ⟨own,rest,rfl⟩:=List.append_of_mem hm;refine g0 ?_;clear g0
 exact notin_sl1 N hso hb (intKind_is _ _ _ _) rfl h
end
section
variable {w : World} {p : Program} {loose : List Str} {mean : ExcName -> Option Value} {mg mb : Str -> Option Value} {news : Led}
noncomputable def stS : Stmt:=(blaw)[3]?.getD (.Pass ⟨0,0,0,0⟩)
theorem starts_k (os : List Nat) (vs : List Value) (n0 nS : Nat) (S : Int -> Bool) (DO DH cH cF : Addr) (oH oS : Obj) (hO : IntsAre vs (List.map (fun (k : Nat)=>(k : Int)) os)) (hos : ∀ c ∈ os,c < 256) (hlen : os.length <= 1000) (hDO : (DO,listOf vs.toArray n0) ∈ news)
  (hcH : (cH,oH) ∈ news) (hoH : oH.data = .cell (some (.ref DH))) (hS : (DH,oS) ∈ news) (hset : oS.SetObjOf (intKind PySem.Challenge.rw_ik0162_01.row.prog w) S nS) (hnS : nS < scanBound)
  (dp un : Nat) (gd : Option (List Code)) (aa : Addr) (ccd : Value) (outer : List Env) (A₀ : Around) (base h₀ : Heap) (L : Addr) (m : Str -> Option Value) (s : Shared) (Q : Flow -> Shared -> Prop) (E : Value -> Shared -> Prop) (hm : m (Str.ofString "octets") = some (.ref DO))
  (B : Below A₀ base outer h₀) (F : Fr h₀ L s.heap m) (X : (K w.params).In h₀) (N : News h₀ L s.heap news) (T : Top p loose mean mg mb h₀) (hd : dp + 20 < recursionLimit) (hu : un + 200 < cLine)
  (hret : ∀ D ys h' tk',IntsAre ys ((os.filter fun (c : Nat)=>!S ((c : Int) - 1)).map fun (k : Nat)=>(k : Int)) -> (∀ q ∈ news,q.1 < D) -> Fr h₀ L h' (fun z=>if z = Str.ofString "starts" then some (.ref D) else m z) -> News h₀ L h' ((D,lst ys) :: news) -> Q .next { s with heap:=h',toks:=tk' }) :
  wpAny (mdl w) (ktrTop dp un gd (Str.ofString "law") slaw L aa ccd [(Str.ofString "figures",cF),(Str.ofString "held",cH)] outer) (exec stS (envX (Str.ofString "law") slaw L aa ccd [(Str.ofString "figures",cF),(Str.ofString "held",cH)])) Q E s:=by
 unfold stS
 dsimp only [blaw]
 show wpAny _ _ (exec (.Assign _ _ _) _) _ _ _
 refine asg_lc F (fun _=>rfl) rfl rfl rfl (by decide +kernel) (by decide +kernel) rfl rfl rfl ?_
 refine nameX_L F hm ?_
 refine first_list (its:=vs.toArray) rfl rfl rfl (fun it acc env=>code_lc _ 0 it acc env) (fun C D it=>turn_list rfl rfl) accList F N (.inr ⟨_,hDO,rfl,_,rfl⟩)
  (fun D i oD led=>∃ ys,oD = lst ys /\ led = news /\ (∀ q ∈ news,q.1 < D) /\ IntsAre ys (((os.take i).filter fun (c : Nat)=>!S ((c : Int) - 1)).map fun (k : Nat)=>(k : Int))) ?_ ?_ ?_
 ·rintro D oD rfl lt
  exact ⟨[],rfl,rfl,lt,.nil⟩
 ·rintro I C D i v m₂ oD led h tk oI hv hE1 hSr hin off hoI;refine bc fun g0=>?_;obtain ⟨ys,rfl,rfl,lt,hys⟩:=hE1
  obtain ⟨y,ty,hy,rfl⟩:=ints_at hO (i:=i) (v:=v) (by simpa using hv)
  rw [List.getElem?_map] at hy
  obtain ⟨c,hc,rfl⟩:=Option.map_eq_some_iff.mp hy;refine g0 ?_;clear g0
  refine After.list1 hin rfl rfl fun h2 tk2 hin2=>?_
  refine bc fun g0=>?_;obtain ⟨oC2,hC2,N2⟩:=hin2.N;refine g0 ?_;clear g0
  have F2:=hin2.F
  have hbig : ys.length <= 1000000:=by
   have q1:=IntsAre.length hys
   have q2 : ((os.take i).filter fun (c : Nat)=>!S ((c : Int) - 1)).length <= (os.take i).length:=List.length_filter_le _ _
   have q3 : (os.take i).length <= os.length:=List.length_take_le' _ _
   rw [List.length_map] at q1
   exact o188 q1 hlen q3 q2
  repeat' (first | with_reducible (first | ((show wpAny _ _ (eval (PySem.Expr.Name _ _) (compEnvC _ _ _ _)) _ _ _);k_dflt (refine' Mine.Internal.nameC_cell ?Nz1 ?cz1 ?hmz1 ?dz1 ?_ ?h1z1 ?h2z1 ?h3z1;(case h1z1=>exact rfl);(case h2z1=>exact rfl);(case h3z1=>decide);(case cz1=>exact rfl);(case Nz1=>k_asm);(case hmz1=>(refine List.mem_cons_of_mem _ (List.mem_cons_of_mem _ (List.mem_cons_of_mem _ ?_));assumption));(case dz1=>assumption)))) | row_walkt)
  refine notin_m N2 (.tail _ (.tail _ (.tail _ hS))) hset hnS ?_
  try dsimp +zetaDelta only
  cases hb : S ((c : Int) - 1) with
  | true =>
   try dsimp only [Bool.not_true]
   repeat' row_walkt
   refine CEnd.same hin off hC2 F2 N2 hSr ⟨ys,rfl,rfl,lt,?_⟩
   rw [List.take_add_one,hc,Option.toList_some,List.filter_append]
   simpa [hb] using hys
  | false =>
   try dsimp only [Bool.not_false]
   repeat' row_walkt
   refine push_at hin2 F2 N2 hbig fun h' F' N'=>?_
   refine CEnd.same hin off hC2 F' N' hSr ⟨_,rfl,rfl,lt,?_⟩
   rw [List.take_add_one,hc,Option.toList_some,List.filter_append,List.map_append]
   have e : [c].filter (fun (c : Nat)=>!S ((c : Int) - 1)) = [c]:=by simp [hb]
   rw [e]
   exact IntsAre.append' hys (.cons _ _ .nil)
 ·rintro D oD led h tk hE2 hSr h'' tk'' F' N';refine bc fun g0=>?_;obtain ⟨ys,rfl,rfl,lt,hys⟩:=hE2;refine g0 ?_;clear g0
  rw [List.take_of_length_le (by have:=IntsAre.length hO;rw [List.length_map] at this;rw [List.size_toArray];exact o54 this)] at hys
  exact hret D ys h'' tk'' hys lt F' N'
noncomputable def stE : Stmt:=(blaw)[4]?.getD (.Pass ⟨0,0,0,0⟩)
theorem lends_k (os : List Nat) (vs : List Value) (n0 nS : Nat) (S : Int -> Bool) (DO DH cH cF : Addr) (oH oS : Obj) (hO : IntsAre vs (List.map (fun (k : Nat)=>(k : Int)) os)) (hos : ∀ c ∈ os,c < 256) (hlen : os.length <= 1000) (hDO : (DO,listOf vs.toArray n0) ∈ news)
  (hcH : (cH,oH) ∈ news) (hoH : oH.data = .cell (some (.ref DH))) (hS : (DH,oS) ∈ news) (hset : oS.SetObjOf (intKind PySem.Challenge.rw_ik0162_01.row.prog w) S nS) (hnS : nS < scanBound)
  (dp un : Nat) (gd : Option (List Code)) (aa : Addr) (ccd : Value) (outer : List Env) (A₀ : Around) (base h₀ : Heap) (L : Addr) (m : Str -> Option Value) (s : Shared) (Q : Flow -> Shared -> Prop) (E : Value -> Shared -> Prop) (hm : m (Str.ofString "octets") = some (.ref DO))
  (B : Below A₀ base outer h₀) (F : Fr h₀ L s.heap m) (X : (K w.params).In h₀) (N : News h₀ L s.heap news) (T : Top p loose mean mg mb h₀) (hd : dp + 20 < recursionLimit) (hu : un + 200 < cLine)
  (hret : ∀ D ys h' tk',IntsAre ys ((os.filter fun (c : Nat)=>!S ((c : Int) + 1)).map fun (k : Nat)=>(k : Int)) -> (∀ q ∈ news,q.1 < D) -> Fr h₀ L h' (fun z=>if z = Str.ofString "ends" then some (.ref D) else m z) -> News h₀ L h' ((D,lst ys) :: news) -> Q .next { s with heap:=h',toks:=tk' }) :
  wpAny (mdl w) (ktrTop dp un gd (Str.ofString "law") slaw L aa ccd [(Str.ofString "figures",cF),(Str.ofString "held",cH)] outer) (exec stE (envX (Str.ofString "law") slaw L aa ccd [(Str.ofString "figures",cF),(Str.ofString "held",cH)])) Q E s:=by
 unfold stE
 dsimp only [blaw]
 show wpAny _ _ (exec (.Assign _ _ _) _) _ _ _
 refine asg_lc F (fun _=>rfl) rfl rfl rfl (by decide +kernel) (by decide +kernel) rfl rfl rfl ?_
 refine nameX_L F hm ?_
 refine first_list (its:=vs.toArray) rfl rfl rfl (fun it acc env=>code_lc _ 0 it acc env) (fun C D it=>turn_list rfl rfl) accList F N (.inr ⟨_,hDO,rfl,_,rfl⟩)
  (fun D i oD led=>∃ ys,oD = lst ys /\ led = news /\ (∀ q ∈ news,q.1 < D) /\ IntsAre ys (((os.take i).filter fun (c : Nat)=>!S ((c : Int) + 1)).map fun (k : Nat)=>(k : Int))) ?_ ?_ ?_
 ·rintro D oD rfl lt
  exact ⟨[],rfl,rfl,lt,.nil⟩
 ·rintro I C D i v m₂ oD led h tk oI hv hE3 hSr hin off hoI;refine bc fun g0=>?_;obtain ⟨ys,rfl,rfl,lt,hys⟩:=hE3
  obtain ⟨y,ty,hy,rfl⟩:=ints_at hO (i:=i) (v:=v) (by simpa using hv)
  rw [List.getElem?_map] at hy
  obtain ⟨c,hc,rfl⟩:=Option.map_eq_some_iff.mp hy;refine g0 ?_;clear g0
  refine After.list1 hin rfl rfl fun h2 tk2 hin2=>?_
  refine bc fun g0=>?_;obtain ⟨oC2,hC2,N2⟩:=hin2.N;refine g0 ?_;clear g0
  have F2:=hin2.F
  have hbig : ys.length <= 1000000:=by
   have q1:=IntsAre.length hys
   have q2 : ((os.take i).filter fun (c : Nat)=>!S ((c : Int) + 1)).length <= (os.take i).length:=List.length_filter_le _ _
   have q3 : (os.take i).length <= os.length:=List.length_take_le' _ _
   rw [List.length_map] at q1
   exact o188 q1 hlen q3 q2
  repeat' (first | with_reducible (first | ((show wpAny _ _ (eval (PySem.Expr.Name _ _) (compEnvC _ _ _ _)) _ _ _);k_dflt (refine' Mine.Internal.nameC_cell ?Nz2 ?cz2 ?hmz2 ?dz2 ?_ ?h1z2 ?h2z2 ?h3z2;(case h1z2=>exact rfl);(case h2z2=>exact rfl);(case h3z2=>decide);(case cz2=>exact rfl);(case Nz2=>k_asm);(case hmz2=>(refine List.mem_cons_of_mem _ (List.mem_cons_of_mem _ (List.mem_cons_of_mem _ ?_));assumption));(case dz2=>assumption)))) | row_walkt)
  refine notin_m N2 (.tail _ (.tail _ (.tail _ hS))) hset hnS ?_
  try dsimp +zetaDelta only
  cases hb : S ((c : Int) + 1) with
  | true =>
   try dsimp only [Bool.not_true]
   repeat' row_walkt
   refine CEnd.same hin off hC2 F2 N2 hSr ⟨ys,rfl,rfl,lt,?_⟩
   rw [List.take_add_one,hc,Option.toList_some,List.filter_append]
   simpa [hb] using hys
  | false =>
   try dsimp only [Bool.not_false]
   repeat' row_walkt
   refine push_at hin2 F2 N2 hbig fun h' F' N'=>?_
   refine CEnd.same hin off hC2 F' N' hSr ⟨_,rfl,rfl,lt,?_⟩
   rw [List.take_add_one,hc,Option.toList_some,List.filter_append,List.map_append]
   have e : [c].filter (fun (c : Nat)=>!S ((c : Int) + 1)) = [c]:=by simp [hb]
   rw [e]
   exact IntsAre.append' hys (.cons _ _ .nil)
 ·rintro D oD led h tk hE4 hSr h'' tk'' F' N';refine bc fun g0=>?_;obtain ⟨ys,rfl,rfl,lt,hys⟩:=hE4;refine g0 ?_;clear g0
  rw [List.take_of_length_le (by have:=IntsAre.length hO;rw [List.length_map] at this;rw [List.size_toArray];exact o54 this)] at hys
  exact hret D ys h'' tk'' hys lt F' N'
end
end
section
theorem enc_all (cs : List Nat) (hcs : ∀ c ∈ cs,c < 256) : ∀ d ∈ enc cs,d ∈ 61 :: hxs:=by
 intro d hm
 obtain ⟨c,hc,hm⟩:=List.mem_flatMap.mp hm
 have:=hcs c hc
 rcases List.mem_cons.mp hm with rfl | hm
 ·exact .head _
 ·rcases List.mem_cons.mp hm with rfl | hm
  ·exact .tail _ (hx_mem _ (by exact o5 this))
  ·rw [List.mem_singleton.mp hm]
   exact .tail _ (hx_mem _ (by exact o1))
theorem sign_lb : ∀ d ∈ 61 :: hxs,Unicode.isLineBreak d = false:=by decide +kernel
theorem sign_128 : ∀ d ∈ 61 :: hxs,d < 128:=by decide +kernel
theorem sign_sp : ∀ d ∈ 61 :: hxs,spS ⟨#[d]⟩ = false:=by decide +kernel
theorem ls_none (s : Str) (h : ∀ i < s.length,Unicode.isLineBreak (s.cps.getD i 0) = false) : ∀ (l : List Nat) (st : StrLaws.LsSt),(∀ i ∈ l,i < s.length) -> Id.run (forIn (m:=Id) l st (StrLaws.lsBody s)) = st:=by
 intro l
 induction l with
 | nil=>intro st _;rfl
 | cons i l ih =>
  intro st hl
  rw [List.forIn_cons]
  have e : StrLaws.lsBody s i st = pure (ForInStep.yield st):=by
   unfold StrLaws.lsBody
   rw [h i (hl i (.head _)),Bool.and_false,if_neg Bool.false_ne_true]
  rw [e]
  exact ih st fun j hj=>hl j (.tail _ hj)
theorem lines_one (x : Str) (h : ∀ d ∈ x.cps.toList,Unicode.isLineBreak d = false) (h0 : 0 < x.length) : Txt.lines x = [x]:=by
 have hh : ∀ i < x.length,Unicode.isLineBreak (x.cps.getD i 0) = false:=fun i hi=>by
  refine h _ ?_
  have : x.cps.getD i 0 = x.cps.toList[i]'(by rw [Array.length_toList];exact hi):=by simp [Array.getD,show i < x.cps.size from hi]
  rw [this]
  exact List.getElem_mem _
 have e : lineCuts x = [(0,x.length)]:=by
  unfold lineCuts
  rw [StrLaws.ls_eq,ls_none x hh _ _ (fun i hi=>by simpa using hi)]
  unfold StrLaws.lsEnd
  rw [if_pos h0]
  rfl
 unfold Txt.lines
 rw [e,if_pos (by simp)]
theorem rstrip_self (x : Str) (h : ∀ d ∈ x.cps.toList,d ∈ 61 :: hxs) : Txt.rstrip x = x:=by
 obtain ⟨hi,h1,h2,h3,_⟩:=rstrip_cut (x:=x) fun c hc=>sign_128 c (h c hc)
 have e : hi = x.length:=by
  rcases Nat.lt_or_ge hi x.length with hl | hl
  ·have:=h3 hi (Nat.le_refl _) hl
   have e2 : x.cps.getD hi 0 = x.cps.toList[hi]'(by rw [Array.length_toList];exact hl):=by simp [Array.getD,show hi < x.cps.size from hl]
   rw [e2,sign_sp _ (h _ (List.getElem_mem _))] at this
   cases this
  ·exact o25 h1 hl
 rw [h2,e,strSub_whole]
theorem hexdig : ∀ d ∈ hxs,(PySem.Builtin.Str.occurrences (Str.ofString "0123456789abcdefABCDEF") ⟨#[d]⟩ 0 (Str.ofString "0123456789abcdefABCDEF").length 1).isEmpty = false:=by decide +kernel
theorem not_crlf : ∀ d ∈ hxs,(PySem.Builtin.Str.occurrences ⟨#[13,10]⟩ ⟨#[d]⟩ 0 2 1).isEmpty = true:=by decide +kernel
theorem ends_nl (cs : List Nat) : Txt.endswith ⟨(cs ++ [10]).toArray⟩ ⟨#[10]⟩ = true:=by
 unfold Txt.endswith
 have e1 : (⟨(cs ++ [10]).toArray⟩ : Str).length = cs.length + 1:=by simp [PySem.Str.length]
 have e2 : (⟨#[10]⟩ : Str).length = 1:=rfl
 rw [e1,e2,Bool.and_eq_true]
 refine ⟨by simp,?_⟩
 have:=(StrLaws.subAt_one ⟨(cs ++ [10]).toArray⟩ 10 (cs.length + 1 - 1)).mpr (by simp)
 exact this.2
theorem slice_enc {cs : List Nat} {j c : Nat} (hc : cs[j]? = some c) {a b : Int} (ha : a = ((3 * j : Nat) : Int)) (hb : b = ((3 * j : Nat) : Int) + 3) : Txt.slice ⟨(enc cs).toArray⟩ (some a) (some b) = quo c:=by
 have hj:=(List.getElem?_eq_some_iff.mp hc).1
 have h:=slice_closes (x:=⟨(enc cs).toArray⟩) (i:=a) (j:=b) ⟨by exact o215 ha,by exact o216 ha hb,by show b <= ((enc cs).length : Int);rw [enc_length];exact o217 hj hb⟩
 rw [eq_of_beq h]
 have e1 : a.toNat = 3 * j:=by exact o218 ha
 have e2 : (b - a).toNat = 3:=by exact o219 ha hb
 rw [e1,e2]
 show (⟨(((enc cs).drop (3 * j)).take 3).toArray⟩ : Str) = _
 rw [enc_at hc]
 rfl
theorem slice_last (l : List Nat) (d : Nat) : Txt.slice ⟨(l ++ [d]).toArray⟩ none (some (-1)) = ⟨l.toArray⟩:=by
 have hn : (⟨(l ++ [d]).toArray⟩ : Str).length = l.length + 1:=by simp [PySem.Str.length]
 have e : PySem.Builtin.Str.strSliceIndices none (some (-1)) 1 (⟨(l ++ [d]).toArray⟩ : Str).length = PySem.Builtin.Str.strSliceIndices none (some (l.length : Int)) 1 (⟨(l ++ [d]).toArray⟩ : Str).length:=by
  rw [hn]
  unfold PySem.Builtin.Str.strSliceIndices
  have e1 : (if (-1 : Int) < 0 then (-1 : Int) + ((l.length + 1 : Nat) : Int) else -1) = (l.length : Int):=by rw [if_pos (by decide)];exact o220
  have e2 : (if (l.length : Int) < 0 then (l.length : Int) + ((l.length + 1 : Nat) : Int) else (l.length : Int)) = (l.length : Int):=if_neg (by exact o96)
  simp only [e1,e2]
 have e3 : Txt.slice ⟨(l ++ [d]).toArray⟩ none (some (-1)) = Txt.slice ⟨(l ++ [d]).toArray⟩ none (some (l.length : Int)):=by
  unfold Txt.slice
  rw [e]
 rw [e3,eq_of_beq (slice_closes_to (x:=⟨(l ++ [d]).toArray⟩) (j:=(l.length : Int)) ⟨by exact o2,by show (l.length : Int) <= ((l ++ [d]).length : Int);simp;exact o221⟩)]
 simp
noncomputable def dec (cs : List Nat) (j : Nat) : Str:=⟨(cs.take j ++ if j < cs.length then [] else [10]).toArray⟩
theorem dec_zero {cs : List Nat} (h : cs ≠ []) : dec cs 0 = ⟨#[]⟩:=by
 cases cs with
 | nil=>exact absurd rfl h
 | cons c r=>simp [dec]
theorem dec_end (cs : List Nat) : dec cs cs.length = ⟨(cs ++ [10]).toArray⟩:=by simp [dec]
theorem dec_more {cs : List Nat} {j c : Nat} (hc : cs[j]? = some c) (h : j + 1 < cs.length) : dec cs j ++ ⟨#[c]⟩ = dec cs (j + 1):=by
 have hj : j < cs.length:=by exact o8 h
 unfold dec
 rw [if_pos hj,if_pos h,List.take_add_one,hc]
 show (⟨(cs.take j ++ []).toArray ++ #[c]⟩ : Str) = _
 simp
theorem dec_done {cs : List Nat} {j c : Nat} (hc : cs[j]? = some c) (h : j + 1 = cs.length) : dec cs j ++ ⟨#[c]⟩ ++ ⟨#[10]⟩ = dec cs (j + 1):=by
 have hj : j < cs.length:=by exact o222 h
 unfold dec
 rw [if_pos hj,if_neg (by exact o223 h),List.take_add_one,hc]
 show (⟨((cs.take j ++ []).toArray ++ #[c]) ++ #[10]⟩ : Str) = _
 simp
theorem dec_len (cs : List Nat) (j : Nat) (h : cs.length <= 1000) : (dec cs j).length <= 1001:=by
 unfold dec
 simp only [PySem.Str.length,List.size_toArray,List.length_append,List.length_take]
 split <;> simp <;> (first | exact o224 h | exact o225 h | omega)
theorem enc_getD {cs : List Nat} {j c : Nat} (hc : cs[j]? = some c) (r : Nat) : (enc cs)[3 * j + r]? = (61 :: hx (c / 16) :: hx (c % 16) :: enc (cs.drop (j + 1)))[r]?:=by
 rw [<- enc_at hc,List.getElem?_drop]
section
variable {prog : Program} {w : World} {A : Around} {E : Value -> Shared -> Prop} {s : Shared} {t u : Tok} {Q : Value -> Shared -> Prop}
theorem item_enc {value slice : PySem.Expr} {cs : List Nat} {j c d : Nat} (r : Nat) {i : Int} (hc : cs[j]? = some c) (hd : (61 :: hx (c / 16) :: hx (c % 16) :: enc (cs.drop (j + 1)))[r]? = some d) (hi : i = ((3 * j : Nat) : Int) + r) (hr : r < 3) (hl : cs.length <= 1000)
  (hs : subscripted slice false (.str ⟨(enc cs).toArray⟩ t) (.int i u) = operate [.str ⟨(enc cs).toArray⟩ t,.int i u] (getItem (.str ⟨(enc cs).toArray⟩ t) (.int i u))) (h : ∀ t k,Q (.str ⟨#[d]⟩ t) { s with toks:=k }) :
  wpAny (model prog w) A (subscriptTail value slice (.str ⟨(enc cs).toArray⟩ t) (.int i u)) Q E s:=by
 have hj:=(List.getElem?_eq_some_iff.mp hc).1
 have hen:=enc_length cs
 refine PyProof.Rows.tail_any (typeIs_str s _ t) slot_str_getitem.lookup (PyProof.Rows.getItem_str (by simp;exact o226 hr hj hi hl) ?_ (h _ _)) hs
 have hz : (⟨(enc cs).toArray⟩ : Str).length = 3 * cs.length:=by simp [PySem.Str.length,hen]
 have : seqIndex? i (⟨(enc cs).toArray⟩ : Str).length = some (3 * j + r):=by
  unfold seqIndex?
  rw [hz]
  simp only [show ¬ i < 0 by exact o227 hi,if_false]
  simp;exact o228 hr hj hi
 rw [this]
 have:=enc_getD hc r
 rw [hd] at this
 simpa using this
theorem len_enc {cs : List Nat} (hl : cs.length <= 1000) (h : ∀ t k,Q (.int ((3 * cs.length : Nat) : Int) t) { s with toks:=k }) :
  wpAny (model prog w) A (call (.builtin "len") [.str ⟨(enc cs).toArray⟩ t]) Q E s:=by
 have hz : (⟨(enc cs).toArray⟩ : Str).length = 3 * cs.length:=by simp [PySem.Str.length,enc_length]
 refine len_lit (by rw [hz];omega) fun t k=>?_
 rw [hz]
 exact h t k
theorem in_hexdig {d : Nat} (hd : d ∈ hxs) {y : Str} (hy : y = Str.ofString "0123456789abcdefABCDEF") (h : Q (.bool true) s) : wpAny (model prog w) A (compareOp .In (.str ⟨#[d]⟩ t) (.str y u)) Q E s:=by
 subst hy
 refine in_str ?_
 rw [hexdig d hd]
 exact h
theorem notin_crlf {d : Nat} (hd : d ∈ hxs) {y : Str} (hy : y = ⟨#[13,10]⟩) (h : Q (.bool true) s) : wpAny (model prog w) A (compareOp .NotIn (.str ⟨#[d]⟩ t) (.str y u)) Q E s:=by
 subst hy
 refine notIn_str ?_
 have:=not_crlf d hd
 rw [show (⟨#[13,10]⟩ : Str).length = 2 from rfl,this]
 exact h
theorem last_enc {value slice : PySem.Expr} {cs : List Nat} (hcs : ∀ c ∈ cs,c < 256) (hne : cs ≠ []) (hl : cs.length <= 1000)
  (hs : subscripted slice false (.str ⟨(enc cs).toArray⟩ t) (.int (-1) u) = operate [.str ⟨(enc cs).toArray⟩ t,.int (-1) u] (getItem (.str ⟨(enc cs).toArray⟩ t) (.int (-1) u))) (h : ∀ d t k,d ∈ hxs -> Q (.str ⟨#[d]⟩ t) { s with toks:=k }) :
  wpAny (model prog w) A (subscriptTail value slice (.str ⟨(enc cs).toArray⟩ t) (.int (-1) u)) Q E s:=by
 have hlen : 0 < cs.length:=List.length_pos_iff.mpr hne
 have hc : cs[cs.length - 1]? = some cs[cs.length - 1]:=List.getElem?_eq_getElem (by exact o9 hlen)
 have hen:=enc_length cs
 refine PyProof.Rows.tail_any (typeIs_str s _ t) slot_str_getitem.lookup (PyProof.Rows.getItem_str (c:=hx (cs[cs.length - 1] % 16)) (by decide) ?_ (h _ _ _ (hx_mem _ (by exact o1)))) hs
 have hz : (⟨(enc cs).toArray⟩ : Str).length = 3 * cs.length:=by simp [PySem.Str.length,hen]
 have : seqIndex? (-1) (⟨(enc cs).toArray⟩ : Str).length = some (3 * (cs.length - 1) + 2):=by
  unfold seqIndex?
  rw [hz]
  simp only [show (-1 : Int) < 0 by decide,if_true]
  simp;exact o229 hlen
 rw [this]
 have:=enc_getD hc 2
 simpa using this
end
end
section
theorem str_true {prog : Program} {w : World} {A : Around} {E : Value -> Shared -> Prop} {s : Shared} {x : Str} {t : Tok} {Q : Bool -> Shared -> Prop} (h0 : 0 < x.length) (hl : x.length <= 100000) (h : ∀ k,Q true { s with toks:=k }) :
  wpAny (model prog w) A (truthy (.str x t)) Q E s:=by
 refine P.truthy_str (by omega) ?_
 rw [show ((x.length : Int) != 0) = true by simp;exact o230 h0]
 exact h _
theorem enc_pos {cs : List Nat} (h : cs ≠ []) : 0 < (⟨(enc cs).toArray⟩ : Str).length:=by
 cases cs with
 | nil=>exact absurd rfl h
 | cons c r=>rw [enc_cons];simp [PySem.Str.length]
theorem enc_size {cs : List Nat} (hl : cs.length <= 1000) : (⟨(enc cs).toArray⟩ : Str).length <= 3000:=by
 have:=enc_length cs
 simp only [PySem.Str.length,List.size_toArray]
 exact o231 this hl
theorem lines_enc {prog : Program} {w : World} {A : Around} {E : Value -> Shared -> Prop} {s : Shared} {h₀ : Heap} {L : Addr} {m : Str -> Option Value} {news : Led} {cs : List Nat} {t : Tok} {Q : Value -> Shared -> Prop} (F : Fr h₀ L s.heap m) (N : News h₀ L s.heap news) (hcs : ∀ c ∈ cs,c < 256) (hne : cs ≠ []) (hl : cs.length <= 1000)
  (h : ∀ D t' h' k,Fr h₀ L h' m -> News h₀ L h' ((D,listOf #[.str ⟨(enc cs).toArray⟩ t'] 0) :: news) -> (∀ q ∈ news,q.1 < D) -> Q (.ref D) { s with heap:=h',toks:=k }) :
  wpAny (model prog w) A (call (.builtin "str.splitlines") [.str ⟨(enc cs).toArray⟩ t]) Q E s:=by
 have hz:=enc_size hl
 refine splitlinesNA F N (fun l h' k e _ _ _ F' N'=>?_) (by rw [sizeLine_eq];exact o232 hz)
 rw [lines_one _ (fun d hd=>sign_lb d (enc_all cs hcs d hd)) (enc_pos hne)] at e
 match l,e with
 | [(x,t')],e =>
  obtain rfl : x = _:=by simpa using e
  exact h _ t' h' k F' N' fun q hq=>Heap.lt_size (N q hq).1
theorem rstrip_enc {prog : Program} {w : World} {A : Around} {E : Value -> Shared -> Prop} {s : Shared} {cs : List Nat} {t : Tok} {Q : Value -> Shared -> Prop} (hcs : ∀ c ∈ cs,c < 256) (hl : cs.length <= 1000) (h : ∀ t' k,Q (.str ⟨(enc cs).toArray⟩ t') { s with toks:=k }) :
  wpAny (model prog w) A (call (.builtin "str.rstrip") [.str ⟨(enc cs).toArray⟩ t]) Q E s:=by
 have hz:=enc_size hl
 refine SC.rstrip (fun t' k=>?_) (by rw [sizeLine_eq];exact o97 hz)
 rw [rstrip_self _ (fun d hd=>enc_all cs hcs d hd)]
 exact h _ _
theorem three_upd (m : Str -> Option Value) {a b c : Str} {va vb vc : Value} (ha : m a = some va) (hb : m b = some vb) (hc : m c = some vc) : m = fun y=>if y = a then some va else if y = b then some vb else if y = c then some vc else m y:=by
 funext y
 by_cases h1 : y = a
 ·rw [if_pos h1,h1,ha]
 ·rw [if_neg h1]
  by_cases h2 : y = b
  ·rw [if_pos h2,h2,hb]
  ·rw [if_neg h2]
   by_cases h3 : y = c
   ·rw [if_pos h3,h3,hc]
   ·rw [if_neg h3]
theorem dec_start {cs : List Nat} (h : cs ≠ []) {o : Option Value} {td : Tok} (e : o = some (.str (Str.ofString "") td)) : o = some (.str (dec cs (0 * cs.length)) td):=by
 rw [Nat.zero_mul,dec_zero h,<- lit_emp]
 exact e
theorem int_in {h₀ h : Heap} {L : Addr} {m : Str -> Option Value} {n : Int} {ti : Tok} (x : Str) (_ : Fr h₀ L h m) (e : m x = some (.int n ti)) : ∃ ti',m x = some (.int n ti'):=⟨ti,e⟩
theorem slice3 {prog : Program} {w : World} {A : Around} {E : Value -> Shared -> Prop} {s : Shared} {h₀ : Heap} {L : Addr} {m : Str -> Option Value} {news : Led} {cs : List Nat} {j c : Nat} {t ua ub : Tok} {a b : Int} {value slice : PySem.Expr} {Q : Value -> Shared -> Prop} (F : Fr h₀ L s.heap m) (N : News h₀ L s.heap news) (hc : cs[j]? = some c) (ha : a = ((3 * j : Nat) : Int)) (hb : b = ((3 * j : Nat) : Int) + 3) (hl : cs.length <= 1000)
  (hs : subscripted slice false (.str ⟨(enc cs).toArray⟩ t) (.ref s.heap.objs.size) = operate [.ref s.heap.objs.size,.str ⟨(enc cs).toArray⟩ t] (getItem (.str ⟨(enc cs).toArray⟩ t) (.ref s.heap.objs.size)))
  (ht : ∀ r,letTemporaryGo value (.str ⟨(enc cs).toArray⟩ t) r = pure ())
  (h : ∀ t' h' k,Fr h₀ L h' m -> News h₀ L h' news -> Q (.str (quo c) t') { s with heap:=h',toks:=k }) :
  wpAny (model prog w) A (subscriptTail value slice (.str ⟨(enc cs).toArray⟩ t) (.ref s.heap.objs.size)) Q E { s with heap:=s.heap.push { cls:=.type "slice",data:=.fields #[.int a ua,.int b ub,.none] } }:=by
 have hz:=enc_size hl
 refine slice_strN_ss F N (fun h' t' k F' N'=>?_) hs ht (by rw [sizeLine_eq];exact o97 hz)
 rw [slice_enc hc ha hb]
 exact h _ _ _ F' N'
theorem slice_cut {prog : Program} {w : World} {A : Around} {E : Value -> Shared -> Prop} {s : Shared} {h₀ : Heap} {L : Addr} {m : Str -> Option Value} {news : Led} {l : List Nat} {d : Nat} {t ub : Tok} {b : Int} {value slice : PySem.Expr} {Q : Value -> Shared -> Prop} (F : Fr h₀ L s.heap m) (N : News h₀ L s.heap news) (hb : b = -1) (hl : l.length <= 1000)
  (hs : subscripted slice false (.str ⟨(l ++ [d]).toArray⟩ t) (.ref s.heap.objs.size) = operate [.ref s.heap.objs.size,.str ⟨(l ++ [d]).toArray⟩ t] (getItem (.str ⟨(l ++ [d]).toArray⟩ t) (.ref s.heap.objs.size)))
  (ht : ∀ r,letTemporaryGo value (.str ⟨(l ++ [d]).toArray⟩ t) r = pure ())
  (h : ∀ t' h' k,Fr h₀ L h' m -> News h₀ L h' news -> Q (.str ⟨l.toArray⟩ t') { s with heap:=h',toks:=k }) :
  wpAny (model prog w) A (subscriptTail value slice (.str ⟨(l ++ [d]).toArray⟩ t) (.ref s.heap.objs.size)) Q E { s with heap:=s.heap.push { cls:=.type "slice",data:=.fields #[.none,.int b ub,.none] } }:=by
 subst hb
 refine slice_strN_ns F N (fun h' t' k F' N'=>?_) hs ht (by rw [sizeLine_eq];simp [PySem.Str.length];exact o233 hl)
 rw [slice_last]
 exact h _ _ _ F' N'
theorem ends_k {prog : Program} {w : World} {A : Around} {E : Value -> Shared -> Prop} {s : Shared} {l : List Nat} {t u : Tok} {Q : Value -> Shared -> Prop} (h : Q (.bool true) s) :
  wpAny (model prog w) A (call (.builtin "str.endswith") [.str ⟨(l ++ [10]).toArray⟩ t,.str ⟨#[10]⟩ u]) Q E s:=by
 refine SC.endswith ?_
 rw [ends_nl]
 exact h
theorem dec_fin {cs : List Nat} {o : Option Value} {td : Tok} (e : o = some (.str (dec cs cs.length) td)) : o = some (.str (dec cs ((0 + 1) * cs.length)) td):=by
 rw [Nat.zero_add,Nat.one_mul]
 exact e
theorem dec_sz1 {cs : List Nat} {j c : Nat} (hl : cs.length <= 1000) : (dec cs j).length + (⟨#[c]⟩ : Str).length <= sizeLine:=by
 have:=dec_len cs j hl
 have e : (⟨#[c]⟩ : Str).length = 1:=rfl
 rw [sizeLine_eq,e]
 exact o234 this
theorem dec_sz2 {cs : List Nat} {j c d : Nat} (hl : cs.length <= 1000) : (dec cs j ++ ⟨#[c]⟩).length + (⟨#[d]⟩ : Str).length <= sizeLine:=by
 have:=dec_len cs j hl
 have e : (⟨#[c]⟩ : Str).length = 1:=rfl
 have e2 : (⟨#[d]⟩ : Str).length = 1:=rfl
 rw [sizeLine_eq,e2,Str.length_append,e]
 exact o235 this
theorem dec_step {x y : Str} {o : Option Value} {td : Tok} (e : x = y) (h : o = some (.str x td)) : o = some (.str y td):=e ▸ h
theorem str_in {h₀ h : Heap} {L : Addr} {m : Str -> Option Value} {y : Str} {ti : Tok} (x : Str) (_ : Fr h₀ L h m) (e : m x = some (.str y ti)) : ∃ ti',m x = some (.str y ti'):=⟨ti,e⟩
theorem lit_nl : Str.ofString "\n" = ⟨#[10]⟩:=by decide +kernel
theorem dec_done2 {cs : List Nat} {j c : Nat} (hc : cs[j]? = some c) (h : j + 1 = cs.length) : dec cs j ++ ⟨#[c]⟩ ++ Str.ofString "\n" = dec cs (j + 1):=by
 rw [lit_nl];exact dec_done hc h
theorem lit_crlf : Str.ofString "\r\n" = ⟨#[13,10]⟩:=by decide +kernel
section
variable {w : World} {p : Program} {loose : List Str} {mean : ExcName -> Option Value} {mg mb : Str -> Option Value} {news : Led}
structure De where
 j : Nat
 ti : Tok
 td : Tok
theorem decode_ok (cs : List Nat) (hcs : ∀ c ∈ cs,c < 256) (hlen : cs.length <= 1000) (hne : cs ≠ []) (t : Tok) (dp un : Nat) (gd : Option (List Code)) (cn : Str) (cq : Scope) (aa : Addr) (ccd : Value) (cl : List (Str × Addr)) (outer : List Env) (A₀ : Around) (base h₀ : Heap) (L : Addr) (m : Str -> Option Value) (s : Shared) (Q E : Value -> Shared -> Prop)
  (hh : (ktrTop dp un gd cn cq L aa ccd cl outer).handled = none)
  (B : Below A₀ base outer h₀) (F : Fr h₀ L s.heap m) (X : (K w.params).In h₀) (N : News h₀ L s.heap news) (T : Top p loose mean mg mb h₀) (hk : cq.kind = .function) (hd : dp + 6 < recursionLimit) (hu : un + 48 < cLine)
  (hret : ∀ v news' h' tk',(news' = news /\ ∃ t',v = .str ⟨cs.toArray⟩ t') -> Fr h₀ L h' m -> News h₀ L h' news' -> Q v { s with heap:=h',toks:=tk' }) :
   wpAny (mdl w) (ktrTop dp un gd cn cq L aa ccd cl outer) (call (.ref 79) [.str ⟨(enc cs).toArray⟩ t]) Q E s:=by
 refine wpAny_call ?_
 k_dflt (refine' code_def ?k1 ?k2 ?k3 ?k4 ?k5 ?kA ?kF ?kK ?k6 ?k7 ?k8 ?k9 ?kB ?_ ?c2 ?c3 ?c4 ?c5;(case kA=>exact rfl);(case kF=>exact rfl);(case kK=>assumption);(case k1=>k_asm);(case k2=>k_asm);(case k3=>k_asm);(case k4=>k_asm);(case k5=>k_asm);(case k6=>k_is);(case k7=>k_is);(case k8=>ktr_room);(case k9=>exact binds_K (by k_in) rfl (by k_is) rfl rfl rfl);(case c5=>decide);(case kB=>exact locs rfl);(case c2=>exact rfl);(case c3=>exact rfl);(case c4=>exact rfl);k_whole;intro g' L' h' FG' F' N' B' X' T';(try dsimp only);(try k_lift B');(try k_fold))
 dsimp only [bdecode,lhsOf]
 repeat' (first | with_reducible (first | ((show wpAny _ _ (truthy (Value.str _ _)) _ _ _);(k_dflt (refine' str_true ?h1z1 ?h2z1 ?_;(case h1z1=>exact enc_pos (by assumption));(case h2z1=>exact Nat.le_trans (enc_size (by assumption)) (by decide)));intro k'z1))) | row_walkt)
 (with_reducible rename Fr _ _ _ _=>F9)
 (with_reducible rename News _ _ _ _=>N9)
 refine For_invVF F9 rfl rfl ?_ (by intro _;rfl)
 repeat' (first | with_reducible (first | ((show wpAny _ _ (call (Value.builtin "str.splitlines") _) _ _ _);(k_dflt (refine' lines_enc ?Fz2 ?Nz2 ?h1z2 ?h2z2 ?h3z2 ?_;(case Fz2=>k_asm);(case Nz2=>k_asm);(case h1z2=>assumption);(case h2z2=>assumption);(case h3z2=>assumption));intro D' t' h9 k9 F'z N'z lD;(try k_lt lD)))) | row_walkt)
 (with_reducible rename Fr _ _ _ _=>F9)
 (with_reducible rename News _ _ _ _=>N9)
 have hD:=PySem.IsL.isList (n:=0) (N9 _ (.head _)).1
 refine iter_go (fun i m₁ news₁=>news₁ = (D',listOf #[.str ⟨(enc cs).toArray⟩ t'] 0) :: news /\ ∃ (td : Tok) (mm : Str -> Option Value),m₁ = fun y=>if y = Str.ofString "decoded" then some (.str (dec cs (i * cs.length)) td) else if y = Str.ofString "encoded" then some (.str ⟨(enc cs).toArray⟩ t) else if y = Str.ofString "eol" then some (.str ⟨#[10]⟩ 317) else mm y) hh hD ?_ F9 N9 ⟨rfl,?_⟩ ?turn ?done
 ·exact fun e=>(N9 _ (.head _)).2.1 e.symm
 ·exact ⟨_,_,three_upd _ (dec_start hne rfl) rfl rfl⟩
 case turn =>
  rintro i v m₁ news₁ h tk own hv ⟨rfl,td,mm,rfl⟩ hown ⟨oI,hoI⟩ hoff Ft Nt
  obtain rfl : i = 0:=by
   rcases i with _ | i
   ·rfl
   ·simp at hv
  obtain rfl : v = .str ⟨(enc cs).toArray⟩ t':=by simpa using hv.symm
  rw [Nat.zero_mul] at Ft
  repeat' (first | with_reducible (first | ((show wpAny _ _ (call (Value.builtin "len") _) _ _ _);(k_dflt (refine' len_enc ?h1z3 ?_;(case h1z3=>assumption));intro t'z3 k'z3)) | ((show wpAny _ _ (call (Value.builtin "str.rstrip") _) _ _ _);(k_dflt (refine' rstrip_enc ?h1z4 ?h3z4 ?_;(case h1z4=>assumption);(case h3z4=>assumption));intro t'z4 k'z4)) | ((show wpAny _ _ (truthy (Value.str _ _)) _ _ _);(k_dflt (refine' str_true ?h1z5 ?h2z5 ?_;(case h1z5=>exact enc_pos (by assumption));(case h2z5=>exact Nat.le_trans (enc_size (by assumption)) (by decide)));intro k'z5))) | row_walkt)
  (with_reducible rename Fr _ _ _ _=>F8)
  (with_reducible rename News _ _ _ _=>N8)
  obtain ⟨ti0,hi0⟩:=int_in (Str.ofString "i") F8 rfl
  refine ksw_while (σ:=De) (fun _=>own ++ (D',listOf #[.str ⟨(enc cs).toArray⟩ t'] 0) :: news) (fun c=>[(Str.ofString "i",.int ((3 * c.j : Nat) : Int) c.ti),(Str.ofString "decoded",.str (dec cs c.j) c.td)]) (fun _=>True) [Str.ofString "c"] (fun c=>c.j <= cs.length) (fun c=>cs.length - c.j) ⟨0,ti0,td⟩ F8 N8 trivial ?_ (Nat.zero_le _) ?_
  ·intro p hp
   rcases List.mem_cons.mp hp with rfl | hp
   ·exact hi0
   ·obtain rfl:=List.mem_singleton.mp hp
    exact rfl
  rintro ⟨j,ti,td'⟩ u h2 tk2 - hj Fq Nq
  dsimp only at hj Fq Nq
  rcases Nat.lt_or_ge j cs.length with hlt | hge
  ·have hc : cs[j]? = some cs[j]:=List.getElem?_eq_getElem hlt
   have hc2:=hcs _ (List.getElem_mem hlt)
   generalize cs[j] = c at hc hc2
   repeat' (first | with_reducible (first | ((show wpAny _ _ (inplaceOp _ (Value.str (dec _ _) _) _) _ _ _);k_dflt (refine' PyProof.Rows.iadd_str ?h1z6 ?h2z6;(case h2z6=>exact dec_sz1 (by assumption)));intro t'z6 k'z6) | ((show wpAny _ _ (call (Value.ref 59) _) _ _ _);k_dflt (refine' unquote_ok _ ?hcz7 _ _ _ _ _ _ _ _ _ _ _ _ _ _ _ _ _ _ ?Bz7 ?Fz7 ?Xz7 ?Nz7 ?Tz7 ?kz7 ?dz7 ?uz7 ?_;(case hcz7=>assumption);(case Bz7=>k_asm);(case Fz7=>k_asm);(case Xz7=>k_asm);(case Nz7=>k_asm);(case Tz7=>k_asm);(case kz7=>first | exact rfl | assumption);(case dz7=>ktr_room);(case uz7=>ktr_units));intro v'z7 news'z7 h'z7 tk'z7 hr'z7 F'z7 N'z7;obtain ⟨hn'z7,t'z7,hv'z7⟩:=hr'z7;subst hn'z7;subst hv'z7;(try k_fold)) | ((show wpAny _ _ (subscriptTail (PySem.Expr.Name _ _) (PySem.Expr.Slice _ _ _ _) (Value.str _ _) (Value.ref _)) _ _ _);(k_dflt (refine' slice3 ?Fz8 ?Nz8 ?h1z8 ?h2z8 ?h3z8 ?h4z8 ?h5z8 ?h6z8 ?_;(case Fz8=>k_asm);(case Nz8=>k_asm);(case h1z8=>assumption);(case h2z8=>exact rfl);(case h3z8=>exact rfl);(case h4z8=>assumption);(case h5z8=>with_unfolding_all rfl);(case h6z8=>(intro _;with_unfolding_all rfl)));intro t'z8 h'z8 k'z8 F'z8 N'z8)) | ((show wpAny _ _ (compareOp PySem.CmpOp.In (Value.str _ _) (Value.str _ _)) _ _ _);(k_dflt (refine' in_hexdig ?h1z9 ?h2z9 ?_;(case h1z9=>exact hx_mem _ (by (first | exact o5 hc2 | exact o1 | omega)));(case h2z9=>exact rfl)))) | ((show wpAny _ _ (subscriptTail (PySem.Expr.Name _ _) (PySem.Expr.BinOp _ _ _ _) (Value.str _ _) (Value.int _ _)) _ _ _);(k_dflt (refine' item_enc 1 ?h1z10 ?h2z10 ?h3z10 ?h4z10 ?h5z10 ?h6z10 ?_;(case h1z10=>assumption);(case h2z10=>exact rfl);(case h3z10=>(first | exact o239 | omega));(case h4z10=>decide);(case h5z10=>assumption);(case h6z10=>with_unfolding_all rfl));intro t'z10 k'z10)) | ((show wpAny _ _ (subscriptTail (PySem.Expr.Name _ _) (PySem.Expr.BinOp _ _ _ _) (Value.str _ _) (Value.int _ _)) _ _ _);(k_dflt (refine' item_enc 2 ?h1z11 ?h2z11 ?h3z11 ?h4z11 ?h5z11 ?h6z11 ?_;(case h1z11=>assumption);(case h2z11=>exact rfl);(case h3z11=>(first | exact o240 | omega));(case h4z11=>decide);(case h5z11=>assumption);(case h6z11=>with_unfolding_all rfl));intro t'z11 k'z11)) | ((show wpAny _ _ (subscriptTail (PySem.Expr.Name _ _) (PySem.Expr.Name _ _) (Value.str _ _) (Value.int _ _)) _ _ _);(k_dflt (refine' item_enc 0 ?h1z12 ?h2z12 ?h3z12 ?h4z12 ?h5z12 ?h6z12 ?_;(case h1z12=>assumption);(case h2z12=>exact rfl);(case h3z12=>(first | exact o237 | omega));(case h4z12=>decide);(case h5z12=>assumption);(case h6z12=>with_unfolding_all rfl));intro t'z12 k'z12)) | ((show wpAny _ _ (compareOp _ (Value.str (PySem.Str.mk _) _) (Value.str _ _)) _ _ _);(first | (refine' Mine.Internal.ne_lit true ?h1z13 ?_;(case h1z13=>(simp only [Mine.Internal.lit_lb,Mine.Internal.lit_rb,Mine.Internal.lit_mi,Mine.Internal.lit_st,Mine.Internal.lit_qm,Mine.Internal.lit_ex,Mine.Internal.lit_eq,Mine.Internal.lit_ca,Mine.Internal.lit_bs];exact Mine.Internal.one_eq (by first | rfl | omega)))) | (refine' Mine.Internal.ne_lit false ?h1z13 ?_;(case h1z13=>(simp only [Mine.Internal.lit_lb,Mine.Internal.lit_rb,Mine.Internal.lit_mi,Mine.Internal.lit_st,Mine.Internal.lit_qm,Mine.Internal.lit_ex,Mine.Internal.lit_eq,Mine.Internal.lit_ca,Mine.Internal.lit_bs];exact Mine.Internal.one_ne (by first | decide | omega))))))) | row_walkt)
   ·exfalso;(first | exact o243 (by assumption) | omega)
   ·refine' PyProof.Rows.iadd_str ?_ (dec_sz2 hlen)
    intro t8 k8
    repeat' row_walkt
    (with_reducible rename Fr _ _ _ _=>F6)
    (with_reducible rename News _ _ _ _=>N6)
    obtain ⟨ti2,hi2⟩:=int_in (Str.ofString "i") F6 rfl
    obtain ⟨td2,hd2⟩:=str_in (Str.ofString "decoded") F6 rfl
    refine ksw_end (De.mk (j + 1) ti2 td2) F6 N6 (fun p h=>h) trivial ?_ ?_ ?_ ?_
    ·intro p hp
     rcases List.mem_cons.mp hp with rfl | hp
     ·exact hi2
     ·obtain rfl:=List.mem_singleton.mp hp
      exact dec_step (dec_done2 hc (by (first | exact o244 (by assumption) | omega))) hd2
    ·intro z h2 h3
     have z1 : z ≠ Str.ofString "i":=h2 _ (.head _)
     have z2 : z ≠ Str.ofString "decoded":=h2 _ (.tail _ (.head _))
     have h3':=h3
     simp only [List.contains_cons,List.contains_nil,Bool.or_false,beq_eq_false_iff_ne,ne_eq] at h3'
     simp +zetaDelta only [kstB,if_neg z1,if_neg z2,if_neg h3',h3,Bool.false_eq_true,if_false,lit_nl]
    ·dsimp only;(first | exact o245 (by assumption) | omega)
    ·dsimp only;(first | exact o246 (by assumption) | omega)
   ·(with_reducible rename Fr _ _ _ _=>F6)
    (with_reducible rename News _ _ _ _=>N6)
    obtain ⟨ti2,hi2⟩:=int_in (Str.ofString "i") F6 rfl
    obtain ⟨td2,hd2⟩:=str_in (Str.ofString "decoded") F6 rfl
    refine ksw_end (De.mk (j + 1) ti2 td2) F6 N6 (fun p h=>h) trivial ?_ ?_ ?_ ?_
    ·intro p hp
     rcases List.mem_cons.mp hp with rfl | hp
     ·exact hi2
     ·obtain rfl:=List.mem_singleton.mp hp
      exact dec_step (dec_more hc (by (first | exact o247 (by assumption) hlt | omega))) hd2
    ·intro z h2 h3
     have z1 : z ≠ Str.ofString "i":=h2 _ (.head _)
     have z2 : z ≠ Str.ofString "decoded":=h2 _ (.tail _ (.head _))
     have h3':=h3
     simp only [List.contains_cons,List.contains_nil,Bool.or_false,beq_eq_false_iff_ne,ne_eq] at h3'
     simp +zetaDelta only [kstB,if_neg z1,if_neg z2,if_neg h3',h3,Bool.false_eq_true,if_false]
    ·dsimp only;exact o38 hlt
    ·dsimp only;exact o248 hlt
  ·obtain rfl : j = cs.length:=by exact o25 hj hge
   repeat' row_walkt
   refine LoopStepU.intro Fq Nq ?_ ⟨rfl,_,_,three_upd _ (dec_fin rfl) rfl rfl⟩
   intro p hp hpI
   exact hoff p hp (List.mem_singleton.mp hpI)
 case done =>
  rintro h' tk m' news' F' N' ⟨rfl,td,mm,rfl⟩
  have e1 : (#[Value.str ⟨(enc cs).toArray⟩ t'] : Array Value).size * cs.length = cs.length:=by simp
  rw [e1,dec_end] at F'
  dsimp only
  repeat' (first | with_reducible (first | ((show wpAny _ _ (call (Value.builtin "str.endswith") _) _ _ _);(k_dflt (refine' ends_k ?_))) | ((show wpAny _ _ (compareOp PySem.CmpOp.NotIn (Value.str _ _) (Value.str _ _)) _ _ _);(k_dflt (refine' notin_crlf ?h1z15 ?h2z15 ?_;(case h1z15=>assumption);(case h2z15=>exact lit_crlf)))) | ((show wpAny _ _ (subscriptTail (PySem.Expr.Name _ _) (PySem.Expr.UnaryOp _ _ _) (Value.str _ _) (Value.int _ _)) _ _ _);(k_dflt (refine' last_enc ?h1z16 ?h2z16 ?h3z16 ?h4z16 ?_;(case h1z16=>assumption);(case h2z16=>assumption);(case h3z16=>assumption);(case h4z16=>with_unfolding_all rfl));intro d'z16 t'z16 k'z16 hd'z16)) | ((show wpAny _ _ (subscriptTail (PySem.Expr.Name _ _) (PySem.Expr.Slice _ _ _ _) (Value.str _ _) (Value.ref _)) _ _ _);(k_dflt (refine' slice_cut ?Fz17 ?Nz17 ?h1z17 ?h4z17 ?h5z17 ?h6z17 ?_;(case Fz17=>k_asm);(case Nz17=>k_asm);(case h1z17=>first | exact rfl | decide);(case h4z17=>assumption);(case h5z17=>with_unfolding_all rfl);(case h6z17=>(intro _;with_unfolding_all rfl)));intro t'z17 h'z17 k'z17 F'z17 N'z17)) | ((show wpAny _ _ (call (Value.builtin "len") [Value.str (PySem.Str.mk _) _]) _ _ _);refine' Mine.Internal.len_lit ?h1z18 ?_;(case h1z18=>(first | (simp only [PySem.Str.length,List.size_toArray,List.length_cons,List.length_nil,Nat.zero_add,Nat.reduceAdd,Int.cast_ofNat_Int];done) | (simp only [PySem.Str.length,List.size_toArray,List.length_cons,List.length_nil,Nat.zero_add,Nat.reduceAdd,Int.cast_ofNat_Int];decide)));intro t'z18 k'z18;(try simp only [PySem.Str.length,List.size_toArray,List.length_cons,List.length_nil,Nat.zero_add,Nat.reduceAdd,Int.cast_ofNat_Int]))) | row_walkt)
  exact hret _ _ _ _ ⟨rfl,_,rfl⟩ (by assumption) (fun q hq=>(by assumption : News h₀ L _ (_ :: news)) q (.tail _ hq))
end
end
section
noncomputable def stR : Stmt:=(blaw)[11]?.getD (.Pass ⟨0,0,0,0⟩)
theorem join_oct (os : List Nat) : Txt.join ⟨#[]⟩ (os.map oct) = ⟨(enc os).toArray⟩:=by
 rw [join_emp]
 congr 2
 unfold enc
 rw [List.flatMap_map]
 rfl
theorem oct_sum (os : List Nat) : ((os.map oct).map (·.length)).sum = 3 * os.length:=by
 induction os with
 | nil=>rfl
 | cons c r ih=>rw [List.map_cons,List.map_cons,List.sum_cons,ih,List.length_cons];show 3 + _ = _;exact o667
section
variable {w : World} {p : Program} {loose : List Str} {mean : ExcName -> Option Value} {mg mb : Str -> Option Value} {news : Led}
theorem ret_k (os : List Nat) (wv : List Value) (nw : Nat) (DW : Addr) (tp : Tok) (hos : ∀ c ∈ os,c < 256) (hlen : os.length <= 1000) (hne : os ≠ []) (hDW : (DW,listOf wv.toArray nw) ∈ news) (hW : StrsAre wv (os.map oct))
  (dp un : Nat) (gd : Option (List Code)) (aa : Addr) (ccd : Value) (cl : List (Str × Addr)) (outer : List Env) (A₀ : Around) (base h₀ : Heap) (L : Addr) (m : Str -> Option Value) (s : Shared) (Q : Flow -> Shared -> Prop) (E : Value -> Shared -> Prop) (hmw : m (Str.ofString "written") = some (.ref DW)) (hmp : m (Str.ofString "plain") = some (.str ⟨os.toArray⟩ tp))
  (B : Below A₀ base outer h₀) (F : Fr h₀ L s.heap m) (X : (K w.params).In h₀) (N : News h₀ L s.heap news) (T : Top p loose mean mg mb h₀) (hd : dp + 20 < recursionLimit) (hu : un + 200 < cLine)
  (hret : ∀ h' tk',Fr h₀ L h' m -> News h₀ L h' news -> Q (.ret (.bool true)) { s with heap:=h',toks:=tk' }) :
  wpAny (mdl w) (ktrTop dp un gd (Str.ofString "law") slaw L aa ccd cl outer) (exec stR (envX (Str.ofString "law") slaw L aa ccd cl)) Q E s:=by
 unfold stR
 dsimp only [blaw]
 show wpAny _ _ (exec (.Return _ _) _) _ _ _
 repeat' row_walkt
 refine nameX_L F hmw ?_
 repeat' row_walkt
 refine join_listW (D:=DW) (items:=wv.toArray) ⟨_,N.get hDW,rfl,_,rfl⟩ (by simpa using hW) (by decide) (by rw [oct_sum,List.length_map];exact o189 hlen) ?_
 intro t1 k1
 rw [lit_emp,join_oct]
 repeat' row_walkt
 refine hdec_ok os hos hlen hne _ dp un gd _ _ _ _ _ outer A₀ base h₀ L m _ _ _ B F X N T rfl (by exact o87 hd) (by exact o190 hu) ?_
 rintro v news' h2 tk2 ⟨rfl,t2,rfl⟩ F2 N2
 try dsimp +zetaDelta only
 refine nameX_L F2 hmp ?_
 refine eq_lit true (beq_self_eq_true _) ?_
 clear F N
 repeat' row_walkt
 refine nameX_L F2 hmw ?_
 repeat' row_walkt
 refine join_listW (D:=DW) (items:=wv.toArray) ⟨_,N2.get hDW,rfl,_,rfl⟩ (by simpa using hW) (by decide) (by rw [oct_sum,List.length_map];exact o189 hlen) ?_
 intro t3 k3
 rw [join_oct]
 repeat' row_walkt
 refine decode_ok os hos hlen hne _ dp un gd _ _ _ _ _ outer A₀ base h₀ L m _ _ _ rfl B F2 X N2 T rfl (by exact o87 hd) (by exact o190 hu) ?_
 rintro v news' h4 tk4 ⟨rfl,t4,rfl⟩ F4 N4
 try dsimp +zetaDelta only
 refine nameX_L F4 hmp ?_
 refine eq_lit true (beq_self_eq_true _) ?_
 repeat' row_walkt
 exact hret _ _ F4 N4
end
end
end Mine.Internal
end
section
namespace Mine.Internal
section
noncomputable def Tp.le (x y : Tp) : Prop:=¬ y.less x
theorem le_trans' {x y z : Tp} (h : x.le y) (k : y.le z) : x.le z:=by
 unfold Tp.le Tp.less at *;exact o595 k h
theorem le_of_less {x y : Tp} (h : x.less y) : x.le y:=by
 unfold Tp.le Tp.less at *;exact o596 h
theorem le_first {x y : Tp} (h : x.le y) : x.f <= y.f:=by
 unfold Tp.le Tp.less at h;exact o597 h
theorem le_self (x : Tp) : x.le x:=by unfold Tp.le Tp.less;exact o598
noncomputable def IsHeap (ts : List Tp) : Prop:=∀ (i : Nat) (x y : Tp),0 < i -> ts[i]? = some y -> ts[(i - 1) / 2]? = some x -> x.le y
noncomputable def HoleUp (ts : List Tp) (p : Nat) : Prop :=
 (∀ (i : Nat) (x y : Tp),0 < i -> i ≠ p -> (i - 1) / 2 ≠ p -> ts[i]? = some y -> ts[(i - 1) / 2]? = some x -> x.le y) /\
 (0 < p -> ∀ (c : Nat) (u v : Tp),0 < c -> (c - 1) / 2 = p -> ts[c]? = some v -> ts[(p - 1) / 2]? = some u -> u.le v)
noncomputable def KidsAbove (ts : List Tp) (p : Nat) (x : Tp) : Prop:=∀ (c : Nat) (v : Tp),0 < c -> (c - 1) / 2 = p -> ts[c]? = some v -> x.le v
theorem heap_fill {ts : List Tp} {p : Nat} {x : Tp} (h : HoleUp ts p) (k : KidsAbove ts p x) (hp : p < ts.length) (hy : 0 < p -> ∀ y,ts[(p - 1) / 2]? = some y -> y.le x) : IsHeap (ts.set p x):=by
 intro i a b hi hb ha
 rw [List.getElem?_set] at hb ha
 by_cases e : p = i
 ·subst e
  rw [if_pos rfl,if_pos hp] at hb
  cases hb
  rw [if_neg (by exact o599 hi)] at ha
  exact hy hi _ ha
 ·rw [if_neg e] at hb
  by_cases e2 : p = (i - 1) / 2
  ·rw [if_pos e2,if_pos hp] at ha
   cases ha
   exact k i b hi e2.symm hb
  ·rw [if_neg e2] at ha
   exact h.1 i a b hi (fun q=>e q.symm) (fun q=>e2 q.symm) hb ha
theorem sdl_heap (x : Tp) : ∀ (p : Nat) (ts : List Tp),HoleUp ts p -> KidsAbove ts p x -> p < ts.length -> IsHeap (sdl x ts p) /\ (sdl x ts p).length = ts.length /\ ∀ t,t ∈ sdl x ts p ↔ t ∈ ts.set p x:=by
 intro p
 induction p using Nat.strongRecOn with
 | ind p ih =>
  intro ts h k hp
  by_cases h0 : 0 < p
  ·have hpp : (p - 1) / 2 < ts.length:=by exact o53 hp
   have hy : ts[(p - 1) / 2]? = some ts[(p - 1) / 2]:=List.getElem?_eq_getElem hpp
   generalize ts[(p - 1) / 2] = y at hy
   by_cases hl : x.less y
   ·rw [sdl_up h0 hy hl]
    have hne : p ≠ (p - 1) / 2:=by exact o600 h0
    have gset : ∀ j,(ts.set p y)[j]? = if p = j then some y else ts[j]?:=fun j=>by
     rw [List.getElem?_set]
     by_cases e : p = j
     ·rw [if_pos e,if_pos e,if_pos hp]
     ·rw [if_neg e,if_neg e]
    have I:=ih ((p - 1) / 2) (by exact o601 hne) (ts.set p y) ⟨?_,?_⟩ ?_ (by rw [List.length_set];exact hpp)
    ·refine ⟨I.1,by rw [I.2.1,List.length_set],fun t=>?_⟩
     rw [I.2.2 t,List.mem_iff_getElem?,List.mem_iff_getElem?]
     have gL : ∀ j,((ts.set p y).set ((p - 1) / 2) x)[j]? = if (p - 1) / 2 = j then some x else if p = j then some y else ts[j]?:=fun j=>by
      rw [List.getElem?_set,List.length_set,gset]
      by_cases e : (p - 1) / 2 = j
      ·rw [if_pos e,if_pos e,if_pos hpp]
      ·rw [if_neg e,if_neg e]
     have gR : ∀ j,(ts.set p x)[j]? = if p = j then some x else ts[j]?:=fun j=>by
      rw [List.getElem?_set]
      by_cases e : p = j
      ·rw [if_pos e,if_pos e,if_pos hp]
      ·rw [if_neg e,if_neg e]
     constructor
     ·rintro ⟨j,hj⟩
      rw [gL] at hj
      by_cases e : (p - 1) / 2 = j
      ·rw [if_pos e] at hj
       exact ⟨p,by rw [gR,if_pos rfl];exact hj⟩
      ·rw [if_neg e] at hj
       by_cases e2 : p = j
       ·rw [if_pos e2] at hj
        exact ⟨(p - 1) / 2,by rw [gR,if_neg hne,hy];exact hj⟩
       ·rw [if_neg e2] at hj
        exact ⟨j,by rw [gR,if_neg e2];exact hj⟩
     ·rintro ⟨j,hj⟩
      rw [gR] at hj
      by_cases e : p = j
      ·rw [if_pos e] at hj
       exact ⟨(p - 1) / 2,by rw [gL,if_pos rfl];exact hj⟩
      ·rw [if_neg e] at hj
       by_cases e2 : (p - 1) / 2 = j
       ·subst e2
        rw [hy] at hj
        exact ⟨p,by rw [gL,if_neg (fun q=>hne q.symm),if_pos rfl];exact hj⟩
       ·exact ⟨j,by rw [gL,if_neg e2,if_neg e];exact hj⟩
    ·intro i a b hi hi1 hi2 hb ha
     rw [gset] at hb ha
     by_cases e : p = i
     ·exact absurd (by rw [<- e]) hi2
     ·rw [if_neg e] at hb
      by_cases e2 : p = (i - 1) / 2
      ·rw [if_pos e2] at ha
       cases ha
       exact h.2 h0 i _ _ hi e2.symm hb hy
      ·rw [if_neg e2] at ha
       exact h.1 i a b hi (fun q=>e q.symm) (fun q=>e2 q.symm) hb ha
    ·intro hq c a b hc hcp hb ha
     rw [gset] at hb ha
     rw [if_neg (by exact o602 hq)] at ha
     have hg : a.le y:=h.1 ((p - 1) / 2) a y hq hne.symm (by exact o603 hq) hy ha
     by_cases e : p = c
     ·rw [if_pos e] at hb
      cases hb
      exact hg
     ·rw [if_neg e] at hb
      exact le_trans' hg (h.1 c y b hc (fun q=>e q.symm) (by exact o178 hcp hne) hb (by rw [hcp];exact hy))
    ·intro c v hc hcp hv
     rw [gset] at hv
     by_cases e : p = c
     ·rw [if_pos e] at hv
      cases hv
      exact le_of_less hl
     ·rw [if_neg e] at hv
      exact le_trans' (le_of_less hl) (h.1 c y v hc (fun q=>e q.symm) (by exact o178 hcp hne) hv (by rw [hcp];exact hy))
   ·rw [sdl_stop hy hl]
    refine ⟨heap_fill h k hp fun _ y' hy'=>?_,List.length_set ..,fun t=>Iff.rfl⟩
    rw [hy] at hy'
    cases hy'
    exact hl
  ·obtain rfl : p = 0:=by exact o604 h0
   rw [sdl_zero]
   exact ⟨heap_fill h k hp fun q=>absurd q h0,List.length_set ..,fun t=>Iff.rfl⟩
end
section
theorem less_of_not_le {x y : Tp} (h : ¬ x.less y) : y.le x:=h
theorem kid_spec {ts : List Tp} {p : Nat} (h : 2 * p + 1 < ts.length) : (kid ts p = 2 * p + 1 \/ kid ts p = 2 * p + 2) /\ kid ts p < ts.length /\ ∀ (c : Nat) (u v : Tp),0 < c -> (c - 1) / 2 = p -> ts[kid ts p]? = some u -> ts[c]? = some v -> u.le v:=by
 have ha : ts[2 * p + 1]? = some ts[2 * p + 1]:=List.getElem?_eq_getElem h
 generalize ts[2 * p + 1] = a at ha
 by_cases h2 : 2 * p + 2 < ts.length
 ·have hb : ts[2 * p + 2]? = some ts[2 * p + 2]:=List.getElem?_eq_getElem h2
  generalize ts[2 * p + 2] = b at hb
  by_cases hl : a.less b
  ·rw [kid_left hl ha hb]
   refine ⟨.inl rfl,h,fun c u v hc hcp hu hv=>?_⟩
   rw [ha] at hu
   cases hu
   have : c = 2 * p + 1 \/ c = 2 * p + 2:=by exact o86 hcp hc
   rcases this with rfl | rfl
   ·rw [ha] at hv;cases hv;exact le_self _
   ·rw [hb] at hv;cases hv;exact le_of_less hl
  ·rw [kid_right hl ha hb]
   refine ⟨.inr rfl,h2,fun c u v hc hcp hu hv=>?_⟩
   rw [hb] at hu
   cases hu
   have : c = 2 * p + 1 \/ c = 2 * p + 2:=by exact o86 hcp hc
   rcases this with rfl | rfl
   ·rw [ha] at hv;cases hv;exact hl
   ·rw [hb] at hv;cases hv;exact le_self _
 ·rw [kid_one ha h2]
  refine ⟨.inl rfl,h,fun c u v hc hcp hu hv=>?_⟩
  rw [ha] at hu
  cases hu
  have : c = 2 * p + 1 \/ c = 2 * p + 2:=by exact o86 hcp hc
  rcases this with rfl | rfl
  ·rw [ha] at hv;cases hv;exact le_self _
  ·rw [List.getElem?_eq_none (by exact o117 h2)] at hv;cases hv
theorem sul_heap (x : Tp) : ∀ (k p : Nat) (ts : List Tp),ts.length - p = k -> HoleUp ts p -> p < ts.length -> IsHeap (sul x ts p) /\ (sul x ts p).length = ts.length /\ ∀ t,t ∈ sul x ts p ↔ t ∈ ts.set p x:=by
 intro k
 induction k using Nat.strongRecOn with
 | ind k ih =>
  intro p ts hk h hp
  by_cases hc : 2 * p + 1 < ts.length
  ·obtain ⟨hcc,hcl,hmin⟩:=kid_spec hc
   have hy : ts[kid ts p]? = some ts[kid ts p]:=List.getElem?_eq_getElem hcl
   generalize ts[kid ts p] = y at hy
   rw [sul_down hc hy]
   generalize kid ts p = c at hcc hcl hmin hy
   have hpc : p ≠ c:=by exact o605 hcc
   have gset : ∀ j,(ts.set p y)[j]? = if p = j then some y else ts[j]?:=fun j=>by
    rw [List.getElem?_set]
    by_cases e : p = j
    ·rw [if_pos e,if_pos e,if_pos hp]
    ·rw [if_neg e,if_neg e]
   have I:=ih (ts.length - c) (by exact o606 hk hcl hcc) c (ts.set p y) (by rw [List.length_set]) ⟨?_,?_⟩ (by rw [List.length_set];exact hcl)
   ·refine ⟨I.1,by rw [I.2.1,List.length_set],fun t=>?_⟩
    rw [I.2.2 t,List.mem_iff_getElem?,List.mem_iff_getElem?]
    have gL : ∀ j,((ts.set p y).set c x)[j]? = if c = j then some x else if p = j then some y else ts[j]?:=fun j=>by
     rw [List.getElem?_set,List.length_set,gset]
     by_cases e : c = j
     ·rw [if_pos e,if_pos e,if_pos hcl]
     ·rw [if_neg e,if_neg e]
    have gR : ∀ j,(ts.set p x)[j]? = if p = j then some x else ts[j]?:=fun j=>by
     rw [List.getElem?_set]
     by_cases e : p = j
     ·rw [if_pos e,if_pos e,if_pos hp]
     ·rw [if_neg e,if_neg e]
    constructor
    ·rintro ⟨j,hj⟩
     rw [gL] at hj
     by_cases e : c = j
     ·rw [if_pos e] at hj
      exact ⟨p,by rw [gR,if_pos rfl];exact hj⟩
     ·rw [if_neg e] at hj
      by_cases e2 : p = j
      ·rw [if_pos e2] at hj
       exact ⟨c,by rw [gR,if_neg hpc,hy];exact hj⟩
      ·rw [if_neg e2] at hj
       exact ⟨j,by rw [gR,if_neg e2];exact hj⟩
    ·rintro ⟨j,hj⟩
     rw [gR] at hj
     by_cases e : p = j
     ·rw [if_pos e] at hj
      exact ⟨c,by rw [gL,if_pos rfl];exact hj⟩
     ·rw [if_neg e] at hj
      by_cases e2 : c = j
      ·subst e2
       rw [hy] at hj
       exact ⟨p,by rw [gL,if_neg (fun q=>hpc q.symm),if_pos rfl];exact hj⟩
      ·exact ⟨j,by rw [gL,if_neg e2,if_neg e];exact hj⟩
   ·intro i a b hi hi1 hi2 hb ha
    rw [gset] at hb ha
    by_cases e : p = i
    ·rw [if_pos e] at hb
     cases hb
     rw [if_neg (by exact o607 hi e)] at ha
     exact h.2 (by exact o608 hi e) c _ _ (by exact o609 hcc) (by exact o610 hcc) hy (by rw [e];exact ha)
    ·rw [if_neg e] at hb
     by_cases e2 : p = (i - 1) / 2
     ·rw [if_pos e2] at ha
      cases ha
      exact hmin i _ _ hi e2.symm hy hb
     ·rw [if_neg e2] at ha
      exact h.1 i a b hi (fun q=>e q.symm) (fun q=>e2 q.symm) hb ha
   ·intro hq g a b hg hgc hb ha
    rw [gset] at hb ha
    rw [if_pos (by exact o611 hcc)] at ha
    cases ha
    rw [if_neg (by exact o612 hgc hcc)] at hb
    exact h.1 g _ _ hg (by exact o613 hgc hcc) (by exact o614 hgc hpc) hb (by rw [hgc];exact hy)
  ·rw [sul_end hc]
   have gR : ∀ j,p ≠ j -> (ts.set p x)[j]? = ts[j]?:=fun j e=>by rw [List.getElem?_set,if_neg e]
   have I:=sdl_heap x p (ts.set p x) ⟨?_,?_⟩ ?_ (by rw [List.length_set];exact hp)
   ·refine ⟨I.1,by rw [I.2.1,List.length_set],fun t=>?_⟩
    rw [I.2.2 t,List.set_set]
   ·intro i a b hi hi1 hi2 hb ha
    rw [gR _ (fun q=>hi1 q.symm)] at hb
    rw [gR _ (fun q=>hi2 q.symm)] at ha
    exact h.1 i a b hi hi1 hi2 hb ha
   ·intro hq c a b hc' hcp hb ha
    rw [gR _ (by exact o179 hcp hc'),List.getElem?_eq_none (by exact o180 hcp hc' hc)] at hb
    cases hb
   ·intro c v hc' hcp hv
    rw [gR _ (by exact o179 hcp hc'),List.getElem?_eq_none (by exact o180 hcp hc' hc)] at hv
    cases hv
theorem heap_min {ts : List Tp} (h : IsHeap ts) {z : Tp} (hz : ts[0]? = some z) : ∀ (i : Nat) (t : Tp),ts[i]? = some t -> z.le t:=by
 intro i
 induction i using Nat.strongRecOn with
 | ind i ih =>
  intro t ht
  by_cases h0 : i = 0
  ·subst h0
   rw [hz] at ht
   cases ht
   exact le_self _
  ·have hl : i < ts.length:=(List.getElem?_eq_some_iff.mp ht).1
   have hp : ts[(i - 1) / 2]? = some ts[(i - 1) / 2]:=List.getElem?_eq_getElem (by exact o53 hl)
   exact le_trans' (ih _ (by exact o615 h0) _ hp) (h i _ _ (by exact o616 h0) ht hp)
theorem push_heap {ts : List Tp} (h : IsHeap ts) (x : Tp) : IsHeap (sdl x (ts ++ [x]) ts.length) /\ (sdl x (ts ++ [x]) ts.length).length = ts.length + 1 /\ ∀ t,t ∈ sdl x (ts ++ [x]) ts.length ↔ t ∈ ts \/ t = x:=by
 have hl : (ts ++ [x]).length = ts.length + 1:=by simp
 have I:=sdl_heap x ts.length (ts ++ [x]) ⟨?_,?_⟩ ?_ (by exact o617 hl)
 ·refine ⟨I.1,by rw [I.2.1,hl],fun t=>?_⟩
  rw [I.2.2 t]
  have : (ts ++ [x]).set ts.length x = ts ++ [x]:=by simp
  rw [this]
  simp
 ·intro i a b hi hi1 hi2 hb ha
  have h1 : i < ts.length:=by
   have:=(List.getElem?_eq_some_iff.mp hb).1
   exact o618 this hl hi1
  rw [List.getElem?_append_left h1] at hb
  rw [List.getElem?_append_left (by exact o53 h1)] at ha
  exact h i a b hi hb ha
 ·intro hq c a b hc hcp hb ha
  rw [List.getElem?_eq_none (by exact o181 hcp hc hl)] at hb
  cases hb
 ·intro c v hc hcp hv
  rw [List.getElem?_eq_none (by exact o181 hcp hc hl)] at hv
  cases hv
theorem top_heap {z x : Tp} {ts us : List Tp} (h : IsHeap (z :: us)) (hl : ts.length <= us.length) (e : ∀ i,i < ts.length -> ts[i]? = us[i]?) : IsHeap (sul x (x :: ts) 0) /\ (sul x (x :: ts) 0).length = ts.length + 1 /\ ∀ t,t ∈ sul x (x :: ts) 0 ↔ t = x \/ t ∈ ts:=by
 have I:=sul_heap x _ 0 (x :: ts) rfl ⟨?_,?_⟩ (by simp)
 ·refine ⟨I.1,I.2.1,fun t=>?_⟩
  rw [I.2.2 t]
  simp
 ·intro i a b hi hi1 hi2 hb ha
  obtain ⟨j,rfl⟩ : ∃ j,i = j + 1:=⟨i - 1,by exact o78 hi⟩
  obtain ⟨q,hq⟩ : ∃ q,(j + 1 - 1) / 2 = q + 1:=⟨(j + 1 - 1) / 2 - 1,by exact o619 hi2⟩
  rw [hq] at ha
  rw [List.getElem?_cons_succ] at hb ha
  have hj : j < ts.length:=(List.getElem?_eq_some_iff.mp hb).1
  rw [e j hj] at hb
  rw [e q (by exact o620 hq hj)] at ha
  refine h (j + 1) a b (by exact o621) (by rw [List.getElem?_cons_succ];exact hb) ?_
  rw [hq,List.getElem?_cons_succ]
  exact ha
 ·intro hq
  exact absurd hq (by exact (o622 hq).elim)
end
section
open PyProof.Rows PySem PySem.Calls PySem.Spec PySem.W
noncomputable def PuEnd (h₀ : Heap) (L : Addr) (s : Shared) (hA : Addr) (x : Tp) (us : List Tp) (m : Str -> Option Value) (rest : Led) (f : Flow) (s' : Shared) : Prop :=
 f = .next /\ ∃ h' tk' n',s' = { s with heap:=h',toks:=tk' } /\ Fr h₀ L h' m /\ News h₀ L h' ((hA,listOf (vals (sdl x (us ++ [x]) us.length)).toArray n') :: rest)
theorem news_front {h₀ h : Heap} {L : Addr} {own rest : Led} {o : Addr × Obj} (N : News h₀ L h (own ++ o :: rest)) : News h₀ L h (o :: (own ++ rest)):=fun p hp=>N p (by
 refine bc fun g0=>?_;rcases List.mem_cons.mp hp with rfl | hp <;> (refine g0 ?_;clear g0)
 ·exact List.mem_append_right _ (.head _)
 ·refine bc fun g0=>?_;rcases List.mem_append.mp hp with h | h <;> (refine g0 ?_;clear g0)
  ·exact List.mem_append_left _ h
  ·exact List.mem_append_right _ (.tail _ h))
theorem news_back {h₀ h : Heap} {L : Addr} {own rest : Led} {o : Addr × Obj} (N : News h₀ L h (o :: (own ++ rest))) : News h₀ L h (own ++ o :: rest):=fun p hp=>N p (by
 refine bc fun g0=>?_;rcases List.mem_append.mp hp with hp | hp <;> (refine g0 ?_;clear g0)
 ·exact .tail _ (List.mem_append_left _ hp)
 ·refine bc fun g0=>?_;rcases List.mem_cons.mp hp with rfl | hp <;> (refine g0 ?_;clear g0)
  ·exact .head _
  ·exact .tail _ (List.mem_append_right _ hp))
theorem iter_push {prog : Program} {w : World} {A : Around} {E : Value -> Shared -> Prop} {s : Shared} {env : Env} {h₀ : Heap} {x : Str} {body : List Stmt} {Q : Flow -> Shared -> Prop} {S hA : Addr} {ts : List Tp} {n₀ : Nat} {m : Str -> Option Value} {R : Led}
  (hh : A.handled = none) (hL : s.heap.IsList S (vals ts).toArray) (hSL : env.locals ≠ S) (hAS : hA ≠ S) (hR : ∀ p ∈ R,p.1 ≠ hA)
  (F : Fr h₀ env.locals s.heap m) (N : News h₀ env.locals s.heap ((hA,listOf #[] n₀) :: R))
  (turn : ∀ (i : Nat) (t : Tp) xv us n own h tk,t ∈ ts -> us.length <= ts.length -> (∀ t,t ∈ us -> t ∈ ts) -> (∀ p ∈ own ++ R,p.1 ≠ hA) ->
   Fr h₀ env.locals h (fun y=>if y = x then some (.ref t.a) else (fun y=>if y = x then xv else m y) y) -> News h₀ env.locals h ((hA,listOf (vals us).toArray n) :: (own ++ R)) ->
   wpAny (model prog w) A (execs body env) (PuEnd h₀ env.locals s hA t us (fun y=>if y = x then some (.ref t.a) else (fun y=>if y = x then xv else m y) y) (own ++ R)) E { s with heap:=h,toks:=tk })
  (done : ∀ h' tk xv us n,Fr h₀ env.locals h' (fun y=>if y = x then xv else m y) -> News h₀ env.locals h' ((hA,listOf (vals us).toArray n) :: R) -> IsHeap us -> us.length = ts.length -> (∀ t,t ∈ us ↔ t ∈ ts) -> Q .next { s with heap:=h',toks:=tk }) :
  wpAny (model prog w) A (pyIter (.ref S)) (fun it s₂=>LoopAtV prog w A h₀ env x body Q E it s₂) E s:=by
 refine iter_go (fun i m₁ news₁=>∃ xv us n,m₁ = (fun y=>if y = x then xv else m y) /\ news₁ = (hA,listOf (vals us).toArray n) :: R /\ IsHeap us /\ us.length = i /\ ∀ t,t ∈ us ↔ t ∈ ts.take i) hh hL hSL F N ⟨m x,[],n₀,self_upd _ _,rfl,fun i a b _ hb _=>by simp at hb,rfl,by simp⟩ ?_ ?_
 ·rintro i v m₁ news₁ h tk own hv hE1 hown hE2 hoff F₁ N₁;refine bc fun g0=>?_;obtain ⟨xv,us,n,rfl,rfl,hH,hlen,hmem⟩:=hE1;obtain ⟨oI,hoI⟩:=hE2;refine g0 ?_;clear g0
  obtain ⟨t,ht,rfl⟩ : ∃ t,ts[i]? = some t /\ v = .ref t.a:=by
   simp only [vals,List.getElem?_toArray,List.getElem?_map] at hv
   cases e : ts[i]? with
   | none=>rw [e] at hv;cases hv
   | some t=>rw [e] at hv;exact ⟨t,rfl,(Option.some.inj hv).symm⟩
  have hi : i < ts.length:=(List.getElem?_eq_some_iff.mp ht).1
  have hI : hA ≠ s.heap.objs.size:=hoff (hA,_) (.head _)
  refine wpAny_mono (turn i t xv us n own h tk (List.mem_of_getElem? ht) (by exact o672 hi hlen) (fun t h=>List.mem_of_mem_take ((hmem t).mp h)) (fun p hp=>?_) F₁ (news_front N₁)) (fun f s' hf=>?_) fun _ _ e=>e
  ·refine bc fun g0=>?_;rcases List.mem_append.mp hp with hp | hp <;> (refine g0 ?_;clear g0)
   ·refine bc fun g0=>?_;rcases hown p hp with e | e <;> (refine g0 ?_;clear g0)
    ·rw [e];exact hI.symm
    ·rw [e];exact hAS.symm
   ·exact hR p hp
  ·refine bc fun g0=>?_;obtain ⟨rfl,h',tk',n',rfl,F',N'⟩:=hf
   obtain ⟨p1,p2,p3⟩:=push_heap hH t;refine g0 ?_;clear g0
   refine LoopStepV.next (LoopStepU.intro F' (news_back N') ?_ ⟨some (.ref t.a),_,n',?_,rfl,p1,by rw [p2,hlen],fun u=>?_⟩)
   ·intro p hp hpI
    have e:=List.mem_singleton.mp hpI
    refine bc fun g0=>?_;rcases List.mem_cons.mp hp with rfl | hp <;> (refine g0 ?_;clear g0)
    ·exact hI e
    ·exact hoff p (.tail _ hp) e
   ·funext y
    by_cases h : y = x <;> simp [h]
   ·rw [p3,hmem,List.take_add_one,ht]
    simp
 ·rintro h' tk m' news' F' N' hE3;refine bc fun g0=>?_;obtain ⟨xv,us,n,rfl,rfl,hH,hlen,hmem⟩:=hE3;refine g0 ?_;clear g0
  have e : (vals ts).toArray.size = ts.length:=by simp [vals_length]
  rw [e] at hlen hmem
  rw [List.take_length] at hmem
  exact done h' tk xv us n F' N' hH hlen hmem
end
section
open PyProof.Rows PySem PySem.Calls PySem.Spec PySem.W
section
variable {w : World} {p : Program} {loose : List Str} {mean : ExcName -> Option Value} {mg mb : Str -> Option Value}
theorem heappop_law (D : Addr) (rest : Led) (z : Tp) (ts : List Tp) (n : Nat) (x : Tp) (hH : IsHeap (z :: (ts ++ [x]))) (hxT : IsTp rest x) (htp : ∀ t ∈ z :: ts,IsTp rest t) (hne : ∀ q ∈ rest,q.1 ≠ D) (hlen : ts.length <= 900) :
  Ok w p loose mean mg mb 131 [.ref D] 4 32 ((D,listOf (vals (z :: (ts ++ [x]))).toArray n) :: rest)
   (fun v news'=>∃ b r n',v = .ref z.a /\ news' = (D,listOf (vals (b :: r)).toArray n') :: rest /\ IsHeap (b :: r) /\ r.length = ts.length /\ ∀ t,t ∈ b :: r ↔ t ∈ ts ++ [x]):=by
 intro dp un gd cn cs a ccd cl outer A₀ base h₀ L m s Q E B F X N T hk hd hu hret
 refine heappop_more D rest z ts n x hxT htp hne hlen dp un gd cn cs a ccd cl outer A₀ base h₀ L m s Q E B F X N T hk hd hu ?_
 rintro v news' h' tk' ⟨rfl,n',rfl⟩ F' N'
 have I:=top_heap (x:=x) (ts:=ts) hH (by simp) (fun i hi=>by rw [List.getElem?_append_left hi])
 cases e : sul x (x :: ts) 0 with
 | nil=>rw [e] at I;have:=I.2.1;simp at this
 | cons b r =>
  rw [e] at I N'
  refine hret _ _ _ _ ⟨b,r,n',rfl,rfl,I.1,?_,fun t=>?_⟩ F' N'
  ·have:=I.2.1
   simpa using this
  ·rw [I.2.2 t,List.mem_append,List.mem_singleton]
   exact Or.comm
theorem heapreplace_law (D : Addr) (rest : Led) (z : Tp) (ts : List Tp) (n : Nat) (x : Tp) (hH : IsHeap (z :: ts)) (hxT : IsTp rest x) (htp : ∀ t ∈ z :: ts,IsTp rest t) (hne : ∀ q ∈ rest,q.1 ≠ D) (hlen : ts.length <= 900) :
  Ok w p loose mean mg mb 138 [.ref D,.ref x.a] 4 32 ((D,listOf (vals (z :: ts)).toArray n) :: rest)
   (fun v news'=>∃ us,v = .ref z.a /\ news' = (D,listOf (vals us).toArray n) :: rest /\ IsHeap us /\ us.length = ts.length + 1 /\ ∀ t,t ∈ us ↔ t = x \/ t ∈ ts):=by
 intro dp un gd cn cs a ccd cl outer A₀ base h₀ L m s Q E B F X N T hk hd hu hret
 refine heapreplace_ok D rest z ts n x hxT htp hne hlen dp un gd cn cs a ccd cl outer A₀ base h₀ L m s Q E B F X N T hk hd hu ?_
 rintro v news' h' tk' ⟨rfl,rfl⟩ F' N'
 have I:=top_heap (x:=x) (ts:=ts) hH (Nat.le_refl _) (fun i _=>rfl)
 exact hret _ _ _ _ ⟨_,rfl,rfl,I.1,I.2.1,I.2.2⟩ F' N'
end
section
variable {prog : Program} {w : World} {A : Around} {E : Value -> Shared -> Prop} {s : Shared} {h₀ : Heap} {L D : Addr} {m : Str -> Option Value} {news rest : Led} {t u : Tok}
theorem tp_fst {value slice : Expr} {x : Tp} {Q : Value -> Shared -> Prop} (N : News h₀ L s.heap news) (hx : IsTp news x) (h : Q (.int x.f x.tf) s)
  (hs : subscripted slice false (.ref x.a) (.int 0 u) = operate [.ref x.a,.int 0 u] (getItem (.ref x.a) (.int 0 u))) :
  wpAny (model prog w) A (subscriptTail value slice (.ref x.a) (.int 0 u)) Q E s :=
 item_tupleT (j:=0) (hx.tup N) (by decide) (by decide) rfl rfl h hs
theorem tp_snd {value slice : Expr} {x : Tp} {Q : Value -> Shared -> Prop} (N : News h₀ L s.heap news) (hx : IsTp news x) (h : Q (.int x.l x.tl) s)
  (hs : subscripted slice false (.ref x.a) (.int 1 u) = operate [.ref x.a,.int 1 u] (getItem (.ref x.a) (.int 1 u))) :
  wpAny (model prog w) A (subscriptTail value slice (.ref x.a) (.int 1 u)) Q E s :=
 item_tupleT (j:=1) (hx.tup N) (by decide) (by decide) rfl rfl h hs
end
end
section
open PyProof.Rows PySem PySem.Calls PySem.Spec PySem.W
structure Fe where
 us : List Tp
 fs : List Tp
 R : Led
 n : Nat
 n' : Nat
structure Good (ts us fs : List Tp) : Prop where
 heap : IsHeap us
 full : ∀ t ∈ us ++ fs,t.f <= t.l
 chain : fs.Pairwise fun a b=>a.l + 1 < b.f
 apart : ∀ a ∈ fs,∀ u ∈ us,a.l + 1 < u.f
 same : ∀ o : Int,(∃ t ∈ us ++ fs,t.f <= o /\ o <= t.l) ↔ ∃ t ∈ ts,t.f <= o /\ o <= t.l
 few : us.length + fs.length <= ts.length
theorem Good.next {ts us' fs r : List Tp} {z t : Tp} (g : Good ts (z :: r) fs) (hH : IsHeap us') (hm : ∀ u,u ∈ us' ↔ u ∈ r) (hl : us'.length = r.length) (ha : ∀ u ∈ us',z.l + 1 < u.f) (hf : t.f = z.f) (hl2 : t.l = z.l) : Good ts us' (fs ++ [t]) where
 heap:=hH
 full u hu:=by
  rcases List.mem_append.mp hu with h | h
  ·exact g.full u (List.mem_append_left _ (.tail _ ((hm u).mp h)))
  ·rcases List.mem_append.mp h with h | h
   ·exact g.full u (List.mem_append_right _ h)
   ·rw [List.mem_singleton.mp h,hf,hl2]
    exact g.full z (List.mem_append_left _ (.head _))
 chain:=List.pairwise_append.mpr ⟨g.chain,List.pairwise_singleton _ _,fun a ha b hb=>by
  rw [List.mem_singleton.mp hb,hf]
  exact g.apart a ha z (.head _)⟩
 apart a ha' u hu:=by
  rcases List.mem_append.mp ha' with h | h
  ·exact g.apart a h u (.tail _ ((hm u).mp hu))
  ·rw [List.mem_singleton.mp h,hl2]
   exact ha u hu
 same o:=by
  rw [<- g.same o]
  constructor
  ·rintro ⟨u,hu,h⟩
   rcases List.mem_append.mp hu with hu | hu
   ·exact ⟨u,List.mem_append_left _ (.tail _ ((hm u).mp hu)),h⟩
   ·rcases List.mem_append.mp hu with hu | hu
    ·exact ⟨u,List.mem_append_right _ hu,h⟩
    ·rw [List.mem_singleton.mp hu,hf,hl2] at h
     exact ⟨z,List.mem_append_left _ (.head _),h⟩
  ·rintro ⟨u,hu,h⟩
   rcases List.mem_append.mp hu with hu | hu
   ·rcases List.mem_cons.mp hu with rfl | hu
    ·exact ⟨t,List.mem_append_right _ (List.mem_append_right _ (.head _)),by rw [hf,hl2];exact h⟩
    ·exact ⟨u,List.mem_append_left _ ((hm u).mpr hu),h⟩
   ·exact ⟨u,List.mem_append_right _ (List.mem_append_left _ hu),h⟩
 few:=by
  have:=g.few
  simp only [List.length_append,List.length_cons,List.length_nil] at this ⊢
  exact o623 this hl
theorem Good.merge {ts us' us'' fs r r' : List Tp} {z b t : Tp} (g : Good ts (z :: r) fs) (hm : ∀ u,u ∈ b :: r' ↔ u ∈ r) (hl : r'.length + 1 = r.length) (hb : b.f <= z.l + 1) (hf : t.f = z.f) (hl2 : t.l = if z.l < b.l then b.l else z.l)
  (hH : IsHeap us'') (hl3 : us''.length = r'.length + 1) (hm2 : ∀ u,u ∈ us'' ↔ u = t \/ u ∈ r') : Good ts us'' fs:=by
 have hbr : b ∈ r:=(hm b).mp (.head _)
 have hzb : z.f <= b.f:=by
  obtain ⟨i,hi⟩:=List.mem_iff_getElem?.mp hbr
  exact le_first (heap_min g.heap (z:=z) rfl (i + 1) b (by rw [List.getElem?_cons_succ];exact hi))
 have hzf:=g.full z (List.mem_append_left _ (.head _))
 have hbf:=g.full b (List.mem_append_left _ (.tail _ hbr))
 refine ⟨hH,fun u hu=>?_,g.chain,fun a ha u hu=>?_,fun o=>?_,?_⟩
 ·rcases List.mem_append.mp hu with h | h
  ·rcases (hm2 u).mp h with rfl | h
   ·rw [hf,hl2];split <;> (first | exact o624 (by assumption) hzf | exact o625 hzf | omega)
   ·exact g.full u (List.mem_append_left _ (.tail _ ((hm u).mp (.tail _ h))))
  ·exact g.full u (List.mem_append_right _ h)
 ·rcases (hm2 u).mp hu with rfl | h
  ·rw [hf];exact g.apart a ha z (.head _)
  ·exact g.apart a ha u (.tail _ ((hm u).mp (.tail _ h)))
 ·rw [<- g.same o]
  constructor
  ·rintro ⟨u,hu,h⟩
   rcases List.mem_append.mp hu with hu | hu
   ·rcases (hm2 u).mp hu with rfl | hu
    ·rw [hf,hl2] at h
     by_cases q : o <= z.l
     ·exact ⟨z,List.mem_append_left _ (.head _),h.1,q⟩
     ·refine ⟨b,List.mem_append_left _ (.tail _ hbr),by exact o626 hb q,?_⟩
      split at h <;> (first | exact o627 h | exact (o628 h q).elim | omega)
    ·exact ⟨u,List.mem_append_left _ (.tail _ ((hm u).mp (.tail _ hu))),h⟩
   ·exact ⟨u,List.mem_append_right _ hu,h⟩
  ·rintro ⟨u,hu,h⟩
   rcases List.mem_append.mp hu with hu | hu
   ·rcases List.mem_cons.mp hu with rfl | hu
    ·exact ⟨t,List.mem_append_left _ ((hm2 t).mpr (.inl rfl)),by rw [hf,hl2];split <;> (first | exact o629 (by assumption) h | exact o630 h | omega)⟩
    ·rcases List.mem_cons.mp ((hm u).mpr hu) with rfl | hu'
     ·exact ⟨t,List.mem_append_left _ ((hm2 t).mpr (.inl rfl)),by rw [hf,hl2];split <;> (first | exact o631 hzb h | exact o632 hzb h (by assumption) | omega)⟩
     ·exact ⟨u,List.mem_append_left _ ((hm2 u).mpr (.inr hu')),h⟩
   ·exact ⟨u,List.mem_append_right _ hu,h⟩
 ·have:=g.few
  simp only [List.length_cons] at this
  exact o633 this hl hl3
theorem tp_append4 {prog : Program} {w : World} {A : Around} {E : Value -> Shared -> Prop} {s : Shared} {h₀ : Heap} {L D : Addr} {m : Str -> Option Value} {rest : Led} {ts : List Tp} {n : Nat} {T : Addr} {f l : Int} {tf tl : Tok} {d : Option Addr} {k : Nat} {sl : Array (Option Value)} {o : Addr × Obj} {Q : Value -> Shared -> Prop} (F : Fr h₀ L s.heap m)
  (N : News h₀ L s.heap ((T,{ cls:=.type "tuple",dict:=d,data:=.seq #[.int f tf,.int l tl] k,slots:=sl }) :: o :: (D,listOf (vals ts).toArray n) :: rest)) (hx : T ≠ D) (ho : o.1 ≠ D) (hne : ∀ p ∈ rest,p.1 ≠ D) (hl : ts.length <= 1000)
  (h : ∀ h',Fr h₀ L h' m -> News h₀ L h' (o :: (D,listOf (vals (ts ++ [⟨T,f,l,tf,tl⟩])).toArray (n + 1)) :: (T,{ cls:=.type "tuple",dict:=d,data:=.seq #[.int f tf,.int l tl] k,slots:=sl }) :: rest) -> Q .none { s with heap:=h' }) :
  wpAny (model prog w) A (call (.builtin "list.append") [.ref D,.ref T]) Q E s:=by
 refine tp_append3 (rest:=o :: rest) (n:=n) (d:=d) (k:=k) (sl:=sl) (f:=f) (l:=l) (tf:=tf) (tl:=tl) F (fun p hp=>N p ?_) hx (fun p hp=>?_) hl (fun h' F' N'=>h h' F' fun p hp=>N' p ?_)
 ·rcases List.mem_cons.mp hp with rfl | hp
  ·exact .head _
  ·rcases List.mem_cons.mp hp with rfl | hp
   ·exact .tail _ (.tail _ (.head _))
   ·rcases List.mem_cons.mp hp with rfl | hp
    ·exact .tail _ (.head _)
    ·exact .tail _ (.tail _ (.tail _ hp))
 ·rcases List.mem_cons.mp hp with rfl | hp
  ·exact ho
  ·exact hne p hp
 ·rcases List.mem_cons.mp hp with rfl | hp
  ·exact .tail _ (.tail _ (.head _))
  ·rcases List.mem_cons.mp hp with rfl | hp
   ·exact .head _
   ·rcases List.mem_cons.mp hp with rfl | hp
    ·exact .tail _ (.head _)
    ·exact .tail _ (.tail _ (.tail _ hp))
end
section
open PyProof.Rows PySem PySem.Calls PySem.Spec PySem.W
theorem allLt_in {l : Addr} {r : Led} (h : AllLt l r) : ∀ q ∈ r,q.1 < l:=by
 induction r with
 | nil=>intro p hp;cases hp
 | cons q r ih =>
  intro p hp
  rcases List.mem_cons.mp hp with rfl | hp
  ·exact h.1
  ·exact ih h.2 p hp
noncomputable abbrev RetFences (ts : List Tp) (news : Led) (v : Value) (news' : Led) : Prop :=
 ∃ D fs n R,v = .ref D /\ news' = (D,listOf (vals fs).toArray n) :: R /\ (∀ t ∈ fs,IsTp R t) /\ (∀ q ∈ news,q ∈ R) /\ (∀ q ∈ R,q.1 ≠ D) /\ (∀ t ∈ fs,t.f <= t.l) /\ (fs.Pairwise fun a b=>a.l + 1 < b.f) /\
  (∀ o : Int,(∃ t ∈ fs,t.f <= o /\ o <= t.l) ↔ ∃ t ∈ ts,t.f <= o /\ o <= t.l) /\ fs.length <= ts.length
theorem tp_reads {news : Led} {h₀ h : Heap} {L : Addr} {x : Tp} (N : News h₀ L h news) (hx : IsTp news x) : Reads h (.ref x.a) (.tuple [.int x.f,.int x.l]) []:=by
 obtain ⟨d,n,sl,hm⟩:=hx
 exact reads_tuple_at (as:=[]) (News.get N hm) rfl rfl (.cons (.int _ _) (.cons (.int _ _) .nil))
theorem tp_ne_self {prog : Program} {w : World} {A : Around} {E : Value -> Shared -> Prop} {s : Shared} {h₀ : Heap} {L : Addr} {news : Led} {x : Tp} {Q : Value -> Shared -> Prop} (N : News h₀ L s.heap news) (hx : IsTp news x) (hu : A.units + 64 < cLine) (h : Q (.bool false) s) :
  wpAny (model prog w) A (compareOp .NotEq (.ref x.a) (.ref x.a)) Q E s:=by
 refine ne_dataH (tp_reads N hx) (tp_reads N hx) rfl rfl hu ?_
 simp only [PyData.eqv,PyData.eqvAll,beq_self_eq_true,Bool.and_true,Bool.not_true]
 exact h
theorem swap23 {a b c : Addr × Obj} {R : Led} : ∀ p ∈ a :: c :: b :: R,p ∈ a :: b :: c :: R:=fun p hp=>by
 rcases List.mem_cons.mp hp with rfl | hp
 ·exact .head _
 ·rcases List.mem_cons.mp hp with rfl | hp
  ·exact .tail _ (.tail _ (.head _))
  ·rcases List.mem_cons.mp hp with rfl | hp
   ·exact .tail _ (.head _)
   ·exact .tail _ (.tail _ (.tail _ hp))
theorem heap_tps {b : Tp} {r us : List Tp} {R : Led} (h : ∀ t ∈ us,IsTp R t) (hm : ∀ t,t ∈ b :: r ↔ t ∈ us) : ∀ t ∈ b :: r,IsTp R t:=fun t ht=>h t ((hm t).mp ht)
section
variable {w : World} {p : Program} {loose : List Str} {mean : ExcName -> Option Value} {mg mb : Str -> Option Value}
theorem heapreplace_swap (D : Addr) (rest : Led) (z : Tp) (ts : List Tp) (n : Nat) (T : Addr) (f l : Int) (tf tl : Tok) (d : Option Addr) (k : Nat) (sl : Array (Option Value)) (hT : T ≠ D) (hH : IsHeap (z :: ts)) (htp : ∀ t ∈ z :: ts,IsTp rest t) (hne : ∀ q ∈ rest,q.1 ≠ D) (hlen : ts.length <= 900) :
  Ok w p loose mean mg mb 138 [.ref D,.ref T] 4 32 ((T,{ cls:=.type "tuple",dict:=d,data:=.seq #[.int f tf,.int l tl] k,slots:=sl }) :: (D,listOf (vals (z :: ts)).toArray n) :: rest)
   (fun v news'=>∃ us,v = .ref z.a /\ news' = (D,listOf (vals us).toArray n) :: (T,{ cls:=.type "tuple",dict:=d,data:=.seq #[.int f tf,.int l tl] k,slots:=sl }) :: rest /\ IsHeap us /\ us.length = ts.length + 1 /\ ∀ t,t ∈ us ↔ t = ⟨T,f,l,tf,tl⟩ \/ t ∈ ts):=by
 intro dp un gd cn cs a ccd cl outer A₀ base h₀ L m s Q E B F X N TT hk hd hu hret
 refine heapreplace_law D ((T,{ cls:=.type "tuple",dict:=d,data:=.seq #[.int f tf,.int l tl] k,slots:=sl }) :: rest) z ts n ⟨T,f,l,tf,tl⟩ hH ⟨d,k,sl,.head _⟩ (fun t ht=>(htp t ht).more fun p hp=>.tail _ hp) ?_ hlen dp un gd cn cs a ccd cl outer A₀ base h₀ L m s Q E B F X ?_ TT hk hd hu hret
 ·intro q hq
  rcases List.mem_cons.mp hq with rfl | hq
  ·exact hT
  ·exact hne q hq
 ·intro q hq
  refine N q ?_
  rcases List.mem_cons.mp hq with rfl | hq
  ·exact .tail _ (.head _)
  ·rcases List.mem_cons.mp hq with rfl | hq
   ·exact .head _
   ·exact .tail _ (.tail _ hq)
theorem fences_ok (D : Addr) (ts : List Tp) (n : Nat) (rest : Led) (htp : ∀ t ∈ ts,IsTp rest t) (hfull : ∀ t ∈ ts,t.f <= t.l) (hlen : ts.length <= 100) (dp un : Nat) (gd : Option (List Code)) (cn : Str) (cs : Scope) (aa : Addr) (ccd : Value) (cl : List (Str × Addr)) (outer : List Env) (A₀ : Around) (base h₀ : Heap) (L : Addr) (m : Str -> Option Value) (s : Shared) (Q E : Value -> Shared -> Prop)
  (hh : (ktrTop dp un gd cn cs L aa ccd cl outer).handled = none)
  (B : Below A₀ base outer h₀) (F : Fr h₀ L s.heap m) (X : (K w.params).In h₀) (N : News h₀ L s.heap ((D,listOf (vals ts).toArray n) :: rest)) (T : Top p loose mean mg mb h₀) (hk : cs.kind = .function) (hd : dp + 6 < recursionLimit) (hu : un + 128 < cLine)
  (hret : ∀ v news' h' tk',RetFences ts ((D,listOf (vals ts).toArray n) :: rest) v news' -> Fr h₀ L h' m -> News h₀ L h' news' -> Q v { s with heap:=h',toks:=tk' }) :
   wpAny (mdl w) (ktrTop dp un gd cn cs L aa ccd cl outer) (call (.ref 166) [.ref D]) Q E s:=by
 refine wpAny_call ?_
 k_dflt cell_enter
 dsimp only [bulawufences,lhsOf]
 repeat' row_walkt
 (with_reducible rename Fr _ _ _ _=>F9)
 (with_reducible rename News _ _ _ _=>N9)
 rename_i hA h1 lA m1 h2
 refine For_invVF F9 rfl rfl ?_ (by intro _;rfl)
 repeat' row_walkt
 have hD:=PySem.IsL.isList (n:=n) (N9 _ (.tail _ (.head _))).1
 have hlt : ∀ q ∈ (D,listOf (vals ts).toArray n) :: rest,q.1 < hA:=allLt_in (r:=(D,listOf (vals ts).toArray n) :: rest) lA
 refine iter_push hh hD ?_ (Nat.ne_of_gt (hlt _ (.head _))) (fun q hq=>Nat.ne_of_lt (hlt q hq)) F9 N9 ?turn ?done
 ·exact fun e=>(N9 _ (.tail _ (.head _))).2.1 e.symm
 case turn =>
  rintro i t xv us k own h tk ht hul hus hne Ft Nt
  have htp' : ∀ t ∈ us,IsTp (own ++ (D,listOf (vals ts).toArray n) :: rest) t:=fun t h=>(htp t (hus t h)).more fun p hp=>List.mem_append_right _ (.tail _ hp)
  have hxT : IsTp (own ++ (D,listOf (vals ts).toArray n) :: rest) t:=(htp t ht).more fun p hp=>List.mem_append_right _ (.tail _ hp)
  repeat' (first | with_reducible (first | ((show wpAny _ _ (call (Value.ref 124) _) _ _ _);k_dflt (refine' heappush_ok _ _ _ _ _ ?hxz1 ?htz1 ?hnz1 ?hlz1 _ _ _ _ _ _ _ _ _ _ _ _ _ _ _ _ _ ?Bz1 ?Fz1 ?Xz1 ?Nz1 ?Tz1 ?kz1 ?dz1 ?uz1 ?_;(case Nz1=>k_asm);(case hxz1=>assumption);(case htz1=>assumption);(case hnz1=>assumption);(case hlz1=>(first | exact o673 hlen hul | omega));(case Bz1=>k_asm);(case Fz1=>k_asm);(case Xz1=>k_asm);(case Tz1=>k_asm);(case kz1=>first | exact rfl | assumption);(case dz1=>ktr_room);(case uz1=>ktr_units));intro v'z1 news'z1 h'z1 tk'z1 hr'z1 F'z1 N'z1;obtain ⟨hv'z1,hn'z1⟩:=hr'z1;subst hn'z1;subst hv'z1;(try k_fold))) | row_walkt)
  exact ⟨rfl,_,_,_,rfl,by assumption,by assumption⟩
 case done =>
  rintro h' tk xv us k Fd Nd hH hul hmem
  dsimp only
  repeat' row_walkt
  (with_reducible rename Fr _ _ _ _=>F7)
  (with_reducible rename News _ _ _ _=>N7)
  rename_i fA h3 F3 N3 lF m2 h4
  have hfl : ∀ q ∈ (hA,listOf (vals us).toArray k) :: (D,listOf (vals ts).toArray n) :: rest,q.1 < fA:=allLt_in (r:=(hA,listOf (vals us).toArray k) :: (D,listOf (vals ts).toArray n) :: rest) lF
  have hAfA : hA < fA:=hfl _ (.head _)
  have N6 : News _ _ h4 ((hA,listOf (vals us).toArray k) :: (fA,listOf (vals []).toArray 0) :: (D,listOf (vals ts).toArray n) :: rest):=fun q hq=>N7 q (by
   rcases List.mem_cons.mp hq with rfl | hq
   ·exact .tail _ (.head _)
   ·rcases List.mem_cons.mp hq with rfl | hq
    ·exact .head _
    ·exact .tail _ (.tail _ hq))
  refine ksw_while (σ:=Fe) (fun c=>(hA,listOf (vals c.us).toArray c.n) :: (fA,listOf (vals c.fs).toArray c.n') :: c.R) (fun _=>[]) (fun _=>True) [Str.ofString "first",Str.ofString "last",Str.ofString "beside",Str.ofString "handed"]
   (fun c=>Good ts c.us c.fs /\ (∀ t ∈ c.us,IsTp c.R t) /\ (∀ t ∈ c.fs,IsTp c.R t) /\ (∀ q ∈ c.R,q.1 ≠ hA /\ q.1 ≠ fA) /\ ∀ q ∈ (D,listOf (vals ts).toArray n) :: rest,q ∈ c.R) (fun c=>c.us.length) ⟨us,[],(D,listOf (vals ts).toArray n) :: rest,k,0⟩ F7 N6 trivial (fun _ h=>nomatch h) ⟨?g,?i,(fun _ h=>nomatch h),?o,fun _ h=>h⟩ ?_
  case g=>exact ⟨hH,fun t ht=>hfull t ((hmem t).mp (by simpa using ht)),.nil,(fun _ h=>nomatch h),fun o=>by simp [hmem],by simp;exact o191 hul⟩
  case i=>exact fun t h=>(htp t ((hmem t).mp h)).more fun p hp=>.tail _ hp
  case o=>exact fun q hq=>⟨Nat.ne_of_lt (hlt q hq),Nat.ne_of_lt (hfl q (.tail _ hq))⟩
  clear F7 N7 N6
  try clear F3
  try clear N3
  rintro ⟨us,fs,R,n1,n2⟩ u h tk - ⟨hg,hi1,hi2,ho,hR⟩ Fq Nq
  dsimp only at hg hi1 hi2 ho hR Fq Nq
  rcases us with _ | ⟨z,r⟩
  ·repeat' (first | with_reducible (first | ((show wpAny _ _ (truthy (Value.ref _)) _ _ _);(k_dflt (refine' tp_truthy ?h1z2 ?h2z2 ?h3z2 ?_;(case h1z2=>k_asm);(case h2z2=>k_mem);(case h3z2=>first | (simp only [List.length_cons,List.length_append,List.length_nil];(first | exact o42 | omega)) | omega));intro k'z2;(try simp only [List.isEmpty_nil,List.isEmpty_cons,Bool.not_true,Bool.not_false])))) | row_walkt)
   refine hret _ _ _ _ ⟨fA,fs,n2,(hA,listOf (vals []).toArray n1) :: R,rfl,rfl,fun t h=>(hi2 t h).more fun p hp=>.tail _ hp,fun q hq=>.tail _ (hR q hq),?_,fun t h=>hg.full t (List.mem_append_right _ h),hg.chain,fun o=>by simpa using hg.same o,?_⟩ (by assumption) (fun q hq=>(by assumption : News h₀ L _ _) q ?_)
   ·intro q hq
    rcases List.mem_cons.mp hq with rfl | hq
    ·exact Nat.ne_of_lt hAfA
    ·exact (ho q hq).2
   ·have:=hg.few
    simp only [List.length_nil] at this
    exact o676 this
   ·rcases List.mem_cons.mp hq with rfl | hq
    ·exact .tail _ (.head _)
    ·rcases List.mem_cons.mp hq with rfl | hq
     ·exact .head _
     ·exact .tail _ (.tail _ hq)
  ·obtain ⟨d9,n9,sl9,hz⟩:=hi1 z (.head _)
   have Nz : News _ _ h ((hA,listOf (vals (z :: r)).toArray n1) :: (fA,listOf (vals fs).toArray n2) :: (z.a,{ cls:=.type "tuple",dict:=d9,data:=.seq #[.int z.f z.tf,.int z.l z.tl] n9,slots:=sl9 }) :: R):=fun q hq=>Nq q (by
    rcases List.mem_cons.mp hq with rfl | hq
    ·exact .head _
    ·rcases List.mem_cons.mp hq with rfl | hq
     ·exact .tail _ (.head _)
     ·rcases List.mem_cons.mp hq with rfl | hq
      ·exact .tail _ (.tail _ hz)
      ·exact .tail _ (.tail _ hq))
   clear Nq
   have hfA : fA ≠ hA:=Nat.ne_of_gt hAfA
   have hn9 : ∀ q ∈ (fA,listOf (vals fs).toArray n2) :: (z.a,({ cls:=.type "tuple",dict:=d9,data:=.seq #[.int z.f z.tf,.int z.l z.tl] n9,slots:=sl9 } : Obj)) :: R,q.1 ≠ hA:=by
    intro q hq
    rcases List.mem_cons.mp hq with rfl | hq
    ·exact hfA
    ·rcases List.mem_cons.mp hq with rfl | hq
     ·exact (ho _ hz).1
     ·exact (ho q hq).1
   have hAf : hA ≠ fA:=hfA.symm
   have hf9 : ∀ q ∈ (z.a,({ cls:=.type "tuple",dict:=d9,data:=.seq #[.int z.f z.tf,.int z.l z.tl] n9,slots:=sl9 } : Obj)) :: R,q.1 ≠ fA:=by
    intro q hq
    rcases List.mem_cons.mp hq with rfl | hq
    ·exact (ho _ hz).2
    ·exact (ho q hq).2
   have hfs : fs.length <= 1000:=by have:=hg.few;exact o677 this hlen
   rcases List.eq_nil_or_concat r with rfl | ⟨mid,y,hr⟩
   ·repeat' (first | with_reducible (first | ((show wpAny _ _ (truthy (Value.ref _)) _ _ _);(k_dflt (refine' tp_truthy ?h1z3 ?h2z3 ?h3z3 ?_;(case h1z3=>k_asm);(case h2z3=>k_mem);(case h3z3=>first | (simp only [List.length_cons,List.length_append,List.length_nil];(first | exact o678 | exact o42 | omega)) | omega));intro k'z3;(try simp only [List.isEmpty_nil,List.isEmpty_cons,Bool.not_true,Bool.not_false]))) | ((show wpAny _ _ (call (Value.builtin "list.append") _) _ _ _);(k_dflt (refine' tp_append4 ?h1z4 ?h2z4 ?h3z4 ?h4z4 ?h5z4 ?h6z4 ?_;(case h1z4=>k_asm);(case h2z4=>k_asm);(case h3z4=>exact (Nat.ne_of_gt (And.left (And.right (by assumption)))));(case h4z4=>assumption);(case h5z4=>assumption);(case h6z4=>assumption));intro h'z4 F'z4 N'z4)) | ((show wpAny _ _ (call (Value.ref 131) _) _ _ _);k_dflt (refine' heappop_one _ _ _ _ ?hnz5 _ _ _ _ _ _ _ _ _ _ _ _ _ _ _ _ _ ?Bz5 ?Fz5 ?Xz5 ?Nz5 ?Tz5 ?kz5 ?dz5 ?uz5 ?_;(case Nz5=>k_asm);(case hnz5=>assumption);(case Bz5=>k_asm);(case Fz5=>k_asm);(case Xz5=>k_asm);(case Tz5=>k_asm);(case kz5=>first | exact rfl | assumption);(case dz5=>ktr_room);(case uz5=>ktr_units));intro v'z5 news'z5 h'z5 tk'z5 hr'z5 F'z5 N'z5;obtain ⟨hv'z5,kk,hn'z5⟩:=hr'z5;subst hn'z5;subst hv'z5;(try k_fold))) | row_walkt)
    have lT:=‹hA < _ /\ fA < _ /\ z.a < _ /\ AllLt _ R›
    (with_reducible rename Fr _ _ _ _=>F6)
    (with_reducible rename News _ _ _ _=>N6)
    refine ksw_end (Fe.mk [] (fs ++ [⟨_,z.f,z.l,z.tf,z.tl⟩]) _ _ _) F6 N6 (fun p h=>h) trivial (fun _ h=>nomatch h) ?_ ⟨hg.next (fun _ _ _ _ h=>by simp at h) (fun _=>Iff.rfl) rfl (fun _ h=>nomatch h) rfl rfl,(fun _ h=>nomatch h),?_,?_,?_⟩ (by simp)
    ·intro y9 _ h3
     have h3':=h3
     simp only [List.contains_cons,List.contains_nil,Bool.or_false,Bool.or_eq_false_iff,beq_eq_false_iff_ne,ne_eq] at h3'
     obtain ⟨q1,q2,q3,q4⟩:=h3'
     simp +zetaDelta only [kstB,if_neg q1,if_neg q2,if_neg q3,if_neg q4,h3,Bool.false_eq_true,if_false]
    ·exact app_mem (fun t h=>(hi2 t h).more fun p hp=>.tail _ (.tail _ hp)) ⟨none,0,#[],.head _⟩
    ·intro q hq
     rcases List.mem_cons.mp hq with rfl | hq
     ·exact ⟨Nat.ne_of_gt lT.1,Nat.ne_of_gt lT.2.1⟩
     ·rcases List.mem_cons.mp hq with rfl | hq
      ·exact ho _ hz
      ·exact ho q hq
    ·exact fun q hq=>.tail _ (.tail _ (hR q hq))
   ·rw [List.concat_eq_append] at hr
    subst hr
    have hyT : IsTp ((fA,listOf (vals fs).toArray n2) :: (z.a,({ cls:=.type "tuple",dict:=d9,data:=.seq #[.int z.f z.tf,.int z.l z.tl] n9,slots:=sl9 } : Obj)) :: R) y:=(hi1 y (by simp)).more fun p hp=>.tail _ (.tail _ hp)
    have hmT : ∀ t ∈ z :: mid,IsTp ((fA,listOf (vals fs).toArray n2) :: (z.a,({ cls:=.type "tuple",dict:=d9,data:=.seq #[.int z.f z.tf,.int z.l z.tl] n9,slots:=sl9 } : Obj)) :: R) t:=fun t h=>(hi1 t (by
     rcases List.mem_cons.mp h with rfl | h
     ·exact .head _
     ·exact .tail _ (List.mem_append_left _ h))).more fun p hp=>.tail _ (.tail _ hp)
    have hHp:=hg.heap
    have hml : mid.length <= 100:=by
     have:=hg.few
     simp only [List.length_cons,List.length_append] at this
     exact o679 this hlen
    have hrT : ∀ t ∈ mid ++ [y],IsTp ((fA,listOf (vals fs).toArray n2) :: (z.a,({ cls:=.type "tuple",dict:=d9,data:=.seq #[.int z.f z.tf,.int z.l z.tl] n9,slots:=sl9 } : Obj)) :: R) t:=fun t h=>(hi1 t (.tail _ h)).more fun p hp=>.tail _ (.tail _ hp)
    repeat' (first | with_reducible (first | ((show wpAny _ _ (truthy (Value.ref _)) _ _ _);(k_dflt (refine' tp_truthy ?h1z6 ?h2z6 ?h3z6 ?_;(case h1z6=>k_asm);(case h2z6=>k_mem);(case h3z6=>first | (simp only [List.length_cons,List.length_append,List.length_nil];(first | exact o680 hml | exact o89 hl'z13 hml | omega)) | omega));intro k'z6;(try simp only [List.isEmpty_nil,List.isEmpty_cons,Bool.not_true,Bool.not_false]))) | ((show wpAny _ _ (compareOp PySem.CmpOp.NotEq (Value.ref _) (Value.ref _)) _ _ _);(k_dflt (refine' tp_ne_self ?h1z7 ?h2z7 ?h3z7 ?_;(case h1z7=>k_asm);(case h2z7=>exact IsTp.more ((by assumption : ∀ t ∈ _,IsTp _ t) _ ((Iff.mp ((by assumption : ∀ t,t ∈ _ :: _ ↔ t ∈ _) _) (.head _)))) (fun _ hp=>.tail _ (.tail _ hp)));(case h3z7=>first | ktr_units | ke_room)))) | ((show wpAny _ _ (subscriptTail (PySem.Expr.Subscript _ _ _) _ _ _) _ _ _);(k_dflt (refine' tp_fst ?h1z8 ?h2z8 ?_ ?h6z8;(case h1z8=>k_asm);(case h2z8=>exact IsTp.more ((by assumption : ∀ t ∈ _,IsTp _ t) _ ((Iff.mp ((by assumption : ∀ t,t ∈ _ :: _ ↔ t ∈ _) _) (.head _)))) (fun _ hp=>.tail _ hp));(case h6z8=>with_unfolding_all rfl)))) | ((show wpAny _ _ (subscriptTail (PySem.Expr.Name _ _) (PySem.Expr.Constant _ _ _) (Value.ref _) (Value.int 1 _)) _ _ _);(k_dflt (refine' tp_snd ?h1z9 ?h2z9 ?_ ?h6z9;(case h1z9=>k_asm);(case h2z9=>exact IsTp.more ((by assumption : ∀ t ∈ _,IsTp _ t) _ ((Iff.mp ((by assumption : ∀ t,t ∈ _ :: _ ↔ t ∈ _) _) (.head _)))) (fun _ hp=>.tail _ hp));(case h6z9=>with_unfolding_all rfl)))) | ((show wpAny _ _ (subscriptTail (PySem.Expr.Name _ _) (PySem.Expr.Constant _ _ _) (Value.ref _) (Value.int 0 _)) _ _ _);(k_dflt (refine' tp_subK (i:=0) ?h1z10 ?h2z10 ?h3z10 ?h4z10 ?_ ?h6z10;(case h1z10=>k_asm);(case h2z10=>k_mem);(case h3z10=>exact rfl);(case h4z10=>(simp only [List.length_cons];(first | exact o89 hl'z13 hml | omega)));(case h6z10=>with_unfolding_all rfl)))) | ((show wpAny _ _ (call (Value.builtin "list.append") _) _ _ _);(k_dflt (refine' tp_append4 ?h1z11 ?h2z11 ?h3z11 ?h4z11 ?h5z11 ?h6z11 ?_;(case h1z11=>k_asm);(case h2z11=>k_asm);(case h3z11=>exact (Nat.ne_of_gt (And.left (And.right (by assumption)))));(case h4z11=>assumption);(case h5z11=>assumption);(case h6z11=>assumption));intro h'z11 F'z11 N'z11)) | ((show wpAny _ _ (call (Value.ref 138) _) _ _ _);k_dflt (refine' heapreplace_swap _ _ _ _ _ _ _ _ _ _ _ _ _ ?hTz12 ?hHz12 ?htz12 ?hnz12 ?hlz12 _ _ _ _ _ _ _ _ _ _ _ _ _ _ _ _ _ ?Bz12 ?Fz12 ?Xz12 ?Nz12 ?Tz12 ?kz12 ?dz12 ?uz12 ?_;(case Nz12=>k_asm);(case hTz12=>exact (Nat.ne_of_gt (And.left (by assumption))));(case hHz12=>assumption);(case htz12=>exact heap_tps (by assumption) (by assumption));(case hnz12=>assumption);(case hlz12=>(first | exact o682 hl'z13 hml | omega));(case Bz12=>k_asm);(case Fz12=>k_asm);(case Xz12=>k_asm);(case Tz12=>k_asm);(case kz12=>first | exact rfl | assumption);(case dz12=>ktr_room);(case uz12=>ktr_units));intro v'z12 news'z12 h'z12 tk'z12 hr'z12 F'z12 N'z12;obtain ⟨us'z12,hv'z12,hn'z12,hH'z12,hl'z12,hm'z12⟩:=hr'z12;subst hn'z12;subst hv'z12;(try k_fold)) | ((show wpAny _ _ (call (Value.ref 131) _) _ _ _);k_dflt (refine' heappop_law _ _ _ _ _ _ ?hHz13 ?hxz13 ?htz13 ?hnz13 ?hlz13 _ _ _ _ _ _ _ _ _ _ _ _ _ _ _ _ _ ?Bz13 ?Fz13 ?Xz13 ?Nz13 ?Tz13 ?kz13 ?dz13 ?uz13 ?_;(case Nz13=>k_asm);(case hHz13=>assumption);(case hxz13=>assumption);(case htz13=>assumption);(case hnz13=>assumption);(case hlz13=>(first | exact o681 hml | omega));(case Bz13=>k_asm);(case Fz13=>k_asm);(case Xz13=>k_asm);(case Tz13=>k_asm);(case kz13=>first | exact rfl | assumption);(case dz13=>ktr_room);(case uz13=>ktr_units));intro v'z13 news'z13 h'z13 tk'z13 hr'z13 F'z13 N'z13;obtain ⟨b,r'z13,kk,hv'z13,hn'z13,hH'z13,hl'z13,hm'z13⟩:=hr'z13;subst hn'z13;subst hv'z13;(try k_fold))) | row_walkt)
    all_goals (with_reducible rename Fr _ _ _ _=>F6)
    all_goals (with_reducible rename News _ _ _ _=>N6)
    all_goals (with_reducible rename IsHeap (_ :: _)=>hH1)
    all_goals (with_reducible rename ∀ t,t ∈ _ :: _ ↔ t ∈ _ ++ _=>hm1)
    all_goals (with_reducible rename List.length _ = List.length mid=>hl1)
    all_goals (with_reducible rename _ < _ /\ _ < _ /\ _ < _ /\ AllLt _ _=>lT)
    ·(with_reducible rename ∀ t,t ∈ _ ↔ t = _ \/ _=>hm2)
     (with_reducible rename IsHeap _=>hH2)
     (with_reducible rename List.length _ = List.length _ + 1=>hl2)
     have hb:=‹_ <= z.l + 1›
     have N6' : News _ _ _ _:=fun q hq=>N6 q (swap23 q hq)
     refine ksw_end (Fe.mk _ fs _ _ _) F6 N6' (fun p h=>h) trivial (fun _ h=>nomatch h) ?_ ⟨hg.merge (us':=[]) hm1 (by simp [hl1]) hb (by exact rfl) (by exact rfl) hH2 hl2 hm2,?_,?_,?_,?_⟩ ?_
     ·intro y9 _ h3
      have h3':=h3
      simp only [List.contains_cons,List.contains_nil,Bool.or_false,Bool.or_eq_false_iff,beq_eq_false_iff_ne,ne_eq] at h3'
      obtain ⟨q1,q2,q3,q4⟩:=h3'
      simp +zetaDelta only [kstB,if_neg q1,if_neg q2,if_neg q3,if_neg q4,h3,Bool.false_eq_true,if_false]
     ·intro t ht
      rcases (hm2 t).mp ht with rfl | ht
      ·exact ⟨none,0,#[],.head _⟩
      ·exact (hi1 t (.tail _ ((hm1 t).mp (.tail _ ht)))).more fun p hp=>.tail _ (.tail _ hp)
     ·exact fun t h=>(hi2 t h).more fun p hp=>.tail _ (.tail _ hp)
     ·intro q hq
      rcases List.mem_cons.mp hq with rfl | hq
      ·exact ⟨Nat.ne_of_gt lT.1,Nat.ne_of_gt lT.2.1⟩
      ·rcases List.mem_cons.mp hq with rfl | hq
       ·exact ho _ hz
       ·exact ho q hq
     ·exact fun q hq=>.tail _ (.tail _ (hR q hq))
     ·simp only [List.length_cons,List.length_append,List.length_nil]
      exact o684 hl1 hl2
    ·have hb:=‹¬ _ <= z.l + 1›
     refine ksw_end (Fe.mk _ (fs ++ [⟨_,z.f,z.l,z.tf,z.tl⟩]) _ _ _) F6 N6 (fun p h=>h) trivial (fun _ h=>nomatch h) ?_ ⟨hg.next hH1 hm1 (by simp [hl1]) (fun u hu=>?_) rfl rfl,?_,?_,?_,?_⟩ ?_
     ·intro y9 _ h3
      have h3':=h3
      simp only [List.contains_cons,List.contains_nil,Bool.or_false,Bool.or_eq_false_iff,beq_eq_false_iff_ne,ne_eq] at h3'
      obtain ⟨q1,q2,q3,q4⟩:=h3'
      simp +zetaDelta only [kstB,if_neg q1,if_neg q2,if_neg q3,if_neg q4,h3,Bool.false_eq_true,if_false]
     ·obtain ⟨i,hi⟩:=List.mem_iff_getElem?.mp hu
      have:=le_first (heap_min hH1 rfl i u hi)
      (first | exact o685 this (by assumption) | omega)
     ·exact fun t ht=>(hi1 t (.tail _ ((hm1 t).mp ht))).more fun p hp=>.tail _ (.tail _ hp)
     ·exact app_mem (fun t h=>(hi2 t h).more fun p hp=>.tail _ (.tail _ hp)) ⟨none,0,#[],.head _⟩
     ·intro q hq
      rcases List.mem_cons.mp hq with rfl | hq
      ·exact ⟨Nat.ne_of_gt lT.1,Nat.ne_of_gt lT.2.1⟩
      ·rcases List.mem_cons.mp hq with rfl | hq
       ·exact ho _ hz
       ·exact ho q hq
     ·exact fun q hq=>.tail _ (.tail _ (hR q hq))
     ·simp only [List.length_cons,List.length_append,List.length_nil]
      exact o686 hl1
end
end
section
open PyProof.Rows PySem PySem.Calls PySem.Spec PySem.W
open PyProof.Rows.LCg (NsObj lst Off3 SrcAt fr_but news_but ns_obj list_st range_walks range_st)
noncomputable def stF : Stmt:=(blaw)[6]?.getD (.Pass ⟨0,0,0,0⟩)
noncomputable def tpD (t : Tp) : PyData:=.tuple [.int t.f,.int t.l]
theorem eqvAll_tps (fs : List Tp) : PyData.eqvAll (fs.map tpD) (fs.map tpD) = true:=by
 induction fs with
 | nil=>simp [PyData.eqvAll]
 | cons t r ih=>simp [PyData.eqvAll,PyData.eqv,tpD];simpa [tpD] using ih
theorem canLay_tps (fs : List Tp) : PyData.canLayAll0 (fs.map tpD) = true:=by
 induction fs with
 | nil=>rfl
 | cons t r ih=>simp [PyData.canLayAll0,PyData.canLay0,tpD];simpa [tpD] using ih
theorem depth_tps (fs : List Tp) : PyData.depthAll (fs.map tpD) <= 4:=by
 induction fs with
 | nil=>simp [PyData.depthAll]
 | cons t r ih =>
  have e : (tpD t).depth <= 4:=by simp [tpD,PyData.depth,PyData.depthAll]
  simp only [List.map_cons,PyData.depthAll]
  exact o634 e ih
theorem shaped_tps (fs : List Tp) : SeqAt.shaped (.list (fs.map tpD)) = true:=by
 have h1:=canLay_tps fs
 have h2:=depth_tps fs
 simp [SeqAt.shaped,PyData.canLay0,PyData.depth,h1]
 exact o635 h2
theorem readsAll_tps {h : Heap} : ∀ (vs : List Value) (fs : List Tp),vs.length = fs.length -> (∀ (j : Nat) (v : Value) (t : Tp),vs[j]? = some v -> fs[j]? = some t -> Reads h v (tpD t) []) -> ReadsAll h vs (fs.map tpD) []
 | [],[],_,_=>.nil
 | v :: vs,t :: fs,hl,hr=>.cons (as:=[]) (hr 0 v t rfl rfl) (readsAll_tps vs fs (by simpa using hl) fun j v t h1 h2=>hr (j + 1) v t (by simpa using h1) (by simpa using h2))
 | [],_ :: _,hl,_=>by simp at hl
 | _ :: _,[],hl,_=>by simp at hl
section
variable {w : World} {p : Program} {loose : List Str} {mean : ExcName -> Option Value} {mg mb : Str -> Option Value} {news : Led}
theorem fence_k (fs : List Tp) (v1 v2 : List Value) (nf c1 c2 : Nat) (DF D1 D2 : Addr) (htp : ∀ t ∈ fs,IsTp news t) (hlen : fs.length <= 1000) (hDF : (DF,listOf (vals fs).toArray nf) ∈ news) (hD1 : (D1,listOf v1.toArray c1) ∈ news) (hD2 : (D2,listOf v2.toArray c2) ∈ news)
  (hv1 : IntsAre v1 (fs.map (·.f))) (hv2 : IntsAre v2 (fs.map (·.l)))
  (dp un : Nat) (gd : Option (List Code)) (aa : Addr) (ccd : Value) (cl : List (Str × Addr)) (outer : List Env) (A₀ : Around) (base h₀ : Heap) (L : Addr) (m : Str -> Option Value) (s : Shared) (Q : Flow -> Shared -> Prop) (E : Value -> Shared -> Prop) (hmf : m (Str.ofString "fences") = some (.ref DF)) (hm1 : m (Str.ofString "starts") = some (.ref D1)) (hm2 : m (Str.ofString "ends") = some (.ref D2))
  (B : Below A₀ base outer h₀) (F : Fr h₀ L s.heap m) (X : (K w.params).In h₀) (N : News h₀ L s.heap news) (T : Top p loose mean mg mb h₀) (hd : dp + 20 < recursionLimit) (hu : un + 200 < cLine)
  (hret : ∀ h' tk',Fr h₀ L h' m -> News h₀ L h' news -> Q .next { s with heap:=h',toks:=tk' }) :
  wpAny (mdl w) (ktrTop dp un gd (Str.ofString "law") slaw L aa ccd cl outer) (exec stF (envX (Str.ofString "law") slaw L aa ccd cl)) Q E s:=by
 unfold stF
 dsimp only [blaw]
 show wpAny _ _ (exec (.If _ _ _ _) _) _ _ _
 repeat' row_walkt
 refine nameX_L F hmf ?_
 repeat' row_walkt
 refine nameX_L F hm1 ?_
 repeat' row_walkt
 refine nameX_L F hm2 ?_
 repeat' row_walkt
 have hl1 : s.heap.IsList D1 v1.toArray:=⟨_,N.get hD1,rfl,_,rfl⟩
 have hl2 : s.heap.IsList D2 v2.toArray:=⟨_,N.get hD2,rfl,_,rfl⟩
 refine zip_rows F hl1 hl2 ?_
 rintro h' z TI TO i1 i2 D hE1 F' hk' gz gTO gi1 gi2 hE2;refine bc fun g0=>?_;obtain ⟨hz,hTI,⟨a,b,hTO⟩,hi1,hi2,hl1',hl2'⟩:=hE1;obtain ⟨g1,g2,g3,g4⟩:=hE2;refine g0 ?_;clear g0
 repeat' row_walkt
 have e1:=IntsAre.length hv1
 have e2:=IntsAre.length hv2
 rw [List.length_map] at e1 e2
 refine list_zip (n:=fs.length) rfl D ⟨D.TIz,D.TITO,D.TIi1,D.TIi2⟩ (by simpa using e1) (by simpa using e2) hlen hz hTO hTI hi1 hi2 hl1' hl2' ?_
 intro h2 acc c' hk2 hS hL
 repeat' row_walkt
 have old : ∀ b o,s.heap.get? b = some o -> h2.get? b = some o:=fun b o e=>by
  have hb:=Heap.lt_size e
  exact hk2 b o (Nat.ne_of_lt (Nat.lt_of_lt_of_le hb gz)) (Nat.ne_of_lt (Nat.lt_of_lt_of_le hb gTO)) (Nat.ne_of_lt (Nat.lt_of_lt_of_le hb gi1)) (Nat.ne_of_lt (Nat.lt_of_lt_of_le hb gi2)) (hk' b o e)
 have F2:=F.keeps old
 have N2 : News h₀ L h2 news:=fun q hq=>⟨old _ _ (N q hq).1,(N q hq).2⟩
 have ra : ReadsAll h2 (vals fs) (fs.map tpD) []:=readsAll_tps _ _ (vals_length fs) fun j v t h1 h3=>by
  have h4:=vals_at h3
  rw [h4] at h1
  cases h1
  exact tp_reads N2 (htp t (List.mem_of_getElem? h3))
 have rb : ReadsAll h2 acc.toList (fs.map tpD) []:=readsAll_tps _ _ (by simpa using hL.1) fun j v t h1 h3=>by
  have hj : j < fs.length:=(List.getElem?_eq_some_iff.mp h3).1
  obtain ⟨x,hx⟩ : ∃ x,v1[j]? = some x:=⟨_,List.getElem?_eq_getElem (by exact o11 hj e1)⟩
  obtain ⟨y,hy⟩ : ∃ y,v2[j]? = some y:=⟨_,List.getElem?_eq_getElem (by exact o11 hj e2)⟩
  refine bc fun g0=>?_;obtain ⟨p1,t1,q1,rfl⟩:=ints_at hv1 hx
  obtain ⟨p2,t2,q2,rfl⟩:=ints_at hv2 hy;refine g0 ?_;clear g0
  rw [List.getElem?_map,h3] at q1 q2
  cases q1
  cases q2
  refine bc fun g0=>?_;obtain ⟨T9,a1,a2,a3⟩:=hL.2 j _ _ hj (by simpa using hx) (by simpa using hy);refine g0 ?_;clear g0
  have h1' : acc[j]? = some v:=by simpa using h1
  rw [a1] at h1'
  cases h1'
  exact reads_tuple_at (as:=[]) a2 rfl rfl (.cons (.int _ _) (.cons (.int _ _) .nil))
 refine ne_dataH (reads_list_at (N2.get hDF) rfl rfl (by simpa using ra)) (reads_list_at hS rfl rfl rb) (shaped_tps fs) (shaped_tps fs) (by show un + 64 < cLine;exact o182 hu) ?_
 rw [show PyData.eqv (.list (fs.map tpD)) (.list (fs.map tpD)) = true from by simp [PyData.eqv,eqvAll_tps]]
 clear N F F'
 repeat' row_walkt
 exact hret _ _ F2 N2
end
end
section
open PyProof.Rows PySem PySem.Calls PySem.Spec PySem.W
noncomputable def stN : Stmt:=(blaw)[5]?.getD (.Pass ⟨0,0,0,0⟩)
theorem istp_but {h₀ h : Heap} {L D : Addr} {news : Led} {its : Array Value} {n : Nat} {t : Tp} (N : News h₀ L h news) (hD : (D,listOf its n) ∈ news) (ht : IsTp news t) : IsTp (but D news) t:=by
 refine bc fun g0=>?_;obtain ⟨d,k,sl,hm⟩:=ht;refine g0 ?_;clear g0
 refine ⟨d,k,sl,mem_but hm fun e=>?_⟩
 have h1:=(N _ hm).1
 have h2:=(N _ hD).1
 rw [show t.a = D from e,h2] at h1
 have:=congrArg Obj.cls (Option.some.inj h1)
 simp at this
section
variable {w : World} {p : Program} {loose : List Str} {mean : ExcName -> Option Value} {mg mb : Str -> Option Value} {news : Led}
theorem fences_k (ts : List Tp) (n : Nat) (DS : Addr) (hDS : (DS,listOf (vals ts).toArray n) ∈ news) (htp : ∀ t ∈ ts,IsTp news t) (hfull : ∀ t ∈ ts,t.f <= t.l) (hlen : ts.length <= 100)
  (dp un : Nat) (gd : Option (List Code)) (aa : Addr) (ccd : Value) (cl : List (Str × Addr)) (outer : List Env) (A₀ : Around) (base h₀ : Heap) (L : Addr) (m : Str -> Option Value) (s : Shared) (Q : Flow -> Shared -> Prop) (E : Value -> Shared -> Prop) (hms : m (Str.ofString "stretches") = some (.ref DS))
  (B : Below A₀ base outer h₀) (F : Fr h₀ L s.heap m) (X : (K w.params).In h₀) (N : News h₀ L s.heap news) (T : Top p loose mean mg mb h₀) (hd : dp + 20 < recursionLimit) (hu : un + 200 < cLine)
  (hret : ∀ DF fs nf R h' tk',(∀ t ∈ fs,IsTp R t) -> (∀ q ∈ news,q.1 ≠ DS -> q ∈ R) -> (∀ q ∈ R,q.1 ≠ DF) -> (∀ t ∈ fs,t.f <= t.l) -> (fs.Pairwise fun a b=>a.l + 1 < b.f) ->
   (∀ o : Int,(∃ t ∈ fs,t.f <= o /\ o <= t.l) ↔ ∃ t ∈ ts,t.f <= o /\ o <= t.l) -> fs.length <= ts.length ->
   Fr h₀ L h' (fun z=>if z = Str.ofString "fences" then some (.ref DF) else m z) -> News h₀ L h' ((DF,listOf (vals fs).toArray nf) :: R) -> Q .next { s with heap:=h',toks:=tk' }) :
  wpAny (mdl w) (ktrTop dp un gd (Str.ofString "law") slaw L aa ccd cl outer) (exec stN (envX (Str.ofString "law") slaw L aa ccd cl)) Q E s:=by
 unfold stN
 dsimp only [blaw]
 show wpAny _ _ (exec (.Assign _ _ _) _) _ _ _
 repeat' row_walkt
 refine nameX_L F hms ?_
 repeat' row_walkt
 refine fences_ok DS ts n (but DS news) (fun t ht=>istp_but N hDS (htp t ht)) hfull hlen dp un gd _ _ _ _ _ outer A₀ base h₀ L m _ _ _ rfl B F X (fun q hq=>by
  refine bc fun g0=>?_;rcases List.mem_cons.mp hq with rfl | hq <;> (refine g0 ?_;clear g0)
  ·exact N _ hDS
  ·exact N q (List.mem_filter.mp hq).1) T rfl (by exact o87 hd) (by exact o636 hu) ?_
 rintro v news' h' tk' hE1 F' N';refine bc fun g0=>?_;obtain ⟨DF,fs,nf,R,rfl,rfl,r1,r2,r3,r4,r5,r6,r7⟩:=hE1;refine g0 ?_;clear g0
 try dsimp +zetaDelta only
 clear N F
 repeat' row_walkt
 refine hret DF fs nf R _ _ r1 (fun q hq hn=>r2 q (.tail _ (mem_but hq hn))) r3 r4 r5 r6 r7 (by assumption) (by assumption)
end
end
section
open PyProof.Rows PySem PySem.Calls PySem.Spec PySem.W
open PyProof.Rows.LCg (lst)
theorem blaw_eq : blaw = [stZ,stH,stO,stS,stE,stN,stF,stW,stG,stC,stP,stR]:=rfl
noncomputable def cellB (o : Obj) : Bool:=match o.data with | .cell _=>true | _=>false
theorem cellB_of {o : Obj} {v : Option Value} (h : o.data = .cell v) : cellB o = true:=by unfold cellB;rw [h]
theorem apartB {h₀ h : Heap} {L a b : Addr} {news : Led} {o o' : Obj} (N : News h₀ L h news) (h1 : (a,o) ∈ news) (h2 : (b,o') ∈ news) (ho : cellB o = true) (ho' : cellB o' = false) : b ≠ a:=by
 rintro rfl
 have e:=(N _ h1).1.symm.trans (N _ h2).1
 have e' : o = o':=Option.some.inj e
 rw [e',ho'] at ho
 cases ho
theorem tab_ne {h₀ h : Heap} {L a : Addr} {news : Led} {o : Obj} {ps : Array Value} (N : News h₀ L h news) (h1 : (112,tabObj ps) ∈ news) (h2 : (a,o) ∈ news) (ho : o.cls ≠ (tabObj ps).cls) : a ≠ 112:=by
 rintro rfl
 have e:=(N _ h1).1.symm.trans (N _ h2).1
 exact ho (congrArg Obj.cls (Option.some.inj e)).symm
theorem tp_tab {h₀ h : Heap} {L : Addr} {news : Led} {t : Tp} {ps : Array Value} (N : News h₀ L h news) (h1 : (112,tabObj ps) ∈ news) (ht : IsTp news t) : IsTp (but 112 news) t:=by
 refine bc fun g0=>?_;obtain ⟨d,n,sl,hm⟩:=ht;refine g0 ?_;clear g0
 exact ⟨d,n,sl,mem_but hm (tab_ne N h1 hm (by simp))⟩
theorem tp_cell {h₀ h : Heap} {L c : Addr} {news : Led} {t : Tp} {o : Obj} (N : News h₀ L h news) (h1 : (c,o) ∈ news) (hc : cellB o = true) (ht : IsTp news t) : IsTp (but c news) t:=by
 refine bc fun g0=>?_;obtain ⟨d,n,sl,hm⟩:=ht;refine g0 ?_;clear g0
 exact ⟨d,n,sl,mem_but hm (apartB N h1 hm hc rfl)⟩
section
variable {w : World} {p : Program} {loose : List Str} {mean : ExcName -> Option Value} {mg mb : Str -> Option Value}
theorem law_body (a : Addr) (vs : List Value) (ns : List Int) (hi : IntsAre vs ns) (hl : vs.length <= 1000) (cF cH : Addr) (oF oH : Obj) (hoF : ∃ vF,oF.data = .cell vF) (hoH : ∃ vH,oH.data = .cell vH) (hFH : cF ≠ cH)
  (dp un : Nat) (gd : Option (List Code)) (aa : Addr) (ccd : Value) (outer : List Env) (A₀ : Around) (base h₀ : Heap) (L : Addr) (m : Str -> Option Value) (s : Shared) (Q : Flow -> Shared -> Prop) (E : Value -> Shared -> Prop) (hL : h₀.IsList a vs.toArray) (hms : m (Str.ofString "script") = some (.ref a)) (hG : AllBare s.gens)
  (B : Below A₀ base outer h₀) (F : Fr h₀ L s.heap m) (X : (K w.params).In h₀) (N : News h₀ L s.heap [(cF,oF),(cH,oH),(112,tabObj #[])]) (T : Top p loose mean mg mb h₀) (hd : dp + 20 < recursionLimit) (hu : un + 200 < cLine)
  (hret : ∀ h' tk' g' dr' ps',AllBare g' -> h'.get? 112 = some (tabObj ps') -> (∀ b o,h₀.get? b = some o -> h'.get? b = some o) -> Q (.ret (.bool true)) { s with heap:=h',toks:=tk',gens:=g',drawn:=dr' }) :
  wpAny (mdl w) (ktrTop dp un gd (Str.ofString "law") slaw L aa ccd [(Str.ofString "figures",cF),(Str.ofString "held",cH)] outer) (execs blaw (envX (Str.ofString "law") slaw L aa ccd [(Str.ofString "figures",cF),(Str.ofString "held",cH)])) Q E s:=by
 refine bc fun g0=>?_;obtain ⟨vF,hoF⟩:=hoF
 obtain ⟨vH,hoH⟩:=hoH;refine g0 ?_;clear g0
 rw [blaw_eq]
 refine wpAny_execs_cons (stretch_k a vs ns hi hl dp un gd aa ccd _ outer A₀ base h₀ L m s _ E hL hms B F X N T hd hu ?_)
 intro DS ts n R h1 tk1 hts htp hR1 hR2 F1 N1
 clear N F hms
 have hb:=ts_ok hts
 generalize hm1 : (fun z=>if z = Str.ofString "stretches" then some (Value.ref DS) else m z) = m1 at F1
 have ml1 : m1 (Str.ofString "stretches") = some (.ref DS):=by subst hm1;exact if_pos rfl
 clear hm1
 have kF1 : (cF,oF) ∈ (DS,listOf (vals ts).toArray n) :: R:=.tail _ (hR1 _ (.head _))
 have kH1 : (cH,oH) ∈ (DS,listOf (vals ts).toArray n) :: R:=.tail _ (hR1 _ (.tail _ (.head _)))
 have kT1 : (112,tabObj #[]) ∈ (DS,listOf (vals ts).toArray n) :: R:=.tail _ (hR1 _ (.tail _ (.tail _ (.head _))))
 have kS1 : (DS,listOf (vals ts).toArray n) ∈ (DS,listOf (vals ts).toArray n) :: R:=.head _
 have tp1 : ∀ t ∈ ts,IsTp ((DS,listOf (vals ts).toArray n) :: R) t:=fun t ht=>(htp t ht).more fun q hq=>.tail _ hq
 generalize (DS,listOf (vals ts).toArray n) :: R = news1 at N1 kF1 kH1 kT1 kS1 tp1
 clear htp hR1 hR2 R
 have nT1 : (112 : Addr) ≠ cH:=apartB N1 kH1 kT1 (cellB_of hoH) rfl
 have nS1 : DS ≠ cH:=apartB N1 kH1 kS1 (cellB_of hoH) rfl
 have tc1 : ∀ t ∈ ts,IsTp (but cH news1) t:=fun t ht=>tp_cell N1 kH1 (cellB_of hoH) (tp1 t ht)
 refine wpAny_execs_cons (held_k ts DS cH n oH vH tp1 hb (ts_len hts) kS1 kH1 hoH dp un gd aa ccd cF outer A₀ base h₀ L m1 _ _ E ml1 B F1 X N1 T hd hu ?_)
 intro DH oS nS h2 oH2 tk2 hSet hnS ltH hoH2 F2 N2
 have nDH : DH ≠ cH:=Nat.ne_of_gt (ltH _ kH1)
 have up2 : ∀ q ∈ news1,q.1 ≠ cH -> q ∈ (cH,oH2) :: but cH ((DH,oS) :: news1):=fun q hq hn=>.tail _ (mem_but (.tail _ hq) hn)
 have kH2 : (cH,oH2) ∈ (cH,oH2) :: but cH ((DH,oS) :: news1):=.head _
 have kF2:=up2 _ kF1 hFH
 have kT2:=up2 _ kT1 nT1
 have kS2:=up2 _ kS1 nS1
 have kD2 : (DH,oS) ∈ (cH,oH2) :: but cH ((DH,oS) :: news1):=.tail _ (mem_but (.head _) nDH)
 have tp2 : ∀ t ∈ ts,IsTp ((cH,oH2) :: but cH ((DH,oS) :: news1)) t:=fun t ht=>(tc1 t ht).more fun q hq=>up2 q (List.mem_filter.mp hq).1 (but_ne q hq)
 generalize (cH,oH2) :: but cH ((DH,oS) :: news1) = news2 at N2 kH2 kF2 kT2 kS2 kD2 tp2
 clear N1 F1 kF1 kH1 kT1 kS1 tp1 tc1 up2 ltH nT1 nS1 news1
 refine wpAny_execs_cons (octets_k DH cH oH2 oS (cover ts) nS kH2 hoH2 kD2 hSet hnS dp un gd aa ccd cF outer A₀ base h₀ L m1 _ _ E B F2 X N2 T hd hu ?_)
 intro DO vO nO c3 h3 tk3 dr3 hvO hltO hmO hlO lt3 F3 N3
 refine bc fun g0=>?_;obtain ⟨os,rfl,hos1,hos2,hos3⟩:=nats_of hb hltO hmO;refine g0 ?_;clear g0
 have os4 : os.length <= 1000:=by exact o253 hos3
 generalize hm3 : (fun z=>if z = Str.ofString "octets" then some (Value.ref DO) else m1 z) = m3 at F3
 have mO3 : m3 (Str.ofString "octets") = some (.ref DO):=by subst hm3;exact if_pos rfl
 have mS3 : m3 (Str.ofString "stretches") = some (.ref DS):=by subst hm3;exact (if_neg (by decide)).trans ml1
 clear hm3
 have nSO : DS ≠ DO:=Nat.ne_of_lt (lt3 _ kS2)
 have up3 : ∀ q ∈ news2,q ∈ (DO,listOf vO.toArray c3) :: news2:=fun q hq=>.tail _ hq
 have kH3:=up3 _ kH2
 have kF3:=up3 _ kF2
 have kT3:=up3 _ kT2
 have kS3:=up3 _ kS2
 have kD3:=up3 _ kD2
 have kO3 : (DO,listOf vO.toArray c3) ∈ (DO,listOf vO.toArray c3) :: news2:=.head _
 have tp3 : ∀ t ∈ ts,IsTp ((DO,listOf vO.toArray c3) :: news2) t:=fun t ht=>(tp2 t ht).more up3
 generalize (DO,listOf vO.toArray c3) :: news2 = news3 at N3 kH3 kF3 kT3 kS3 kD3 kO3 tp3
 clear N2 F2 kH2 kF2 kT2 kS2 kD2 tp2 up3 lt3
 clear news2
 have hsb : nS < scanBound:=by show nS < 4096;exact o254 hnS
 refine wpAny_execs_cons (starts_k os vO c3 nS (cover ts) DO DH cH cF oH2 oS hvO hos2 os4 kO3 kH3 hoH2 kD3 hSet.obj hsb dp un gd aa ccd outer A₀ base h₀ L m3 _ _ E mO3 B F3 X N3 T hd hu ?_)
 intro D1 y1 h4 tk4 hy1 lt4 F4 N4
 have nS1 : DS ≠ D1:=Nat.ne_of_lt (lt4 _ kS3)
 have up4 : ∀ q ∈ news3,q ∈ (D1,lst y1) :: news3:=fun q hq=>.tail _ hq
 have kH4:=up4 _ kH3
 have kF4:=up4 _ kF3
 have kT4:=up4 _ kT3
 have kS4:=up4 _ kS3
 have kD4:=up4 _ kD3
 have kO4:=up4 _ kO3
 have k14 : (D1,listOf y1.toArray y1.length) ∈ (D1,lst y1) :: news3:=.head _
 have tp4 : ∀ t ∈ ts,IsTp ((D1,lst y1) :: news3) t:=fun t ht=>(tp3 t ht).more up4
 generalize (D1,lst y1) :: news3 = news4 at N4 kH4 kF4 kT4 kS4 kD4 kO4 k14 tp4
 clear N3 F3 kH3 kF3 kT3 kS3 kD3 kO3 tp3 up4 lt4
 clear news3
 generalize hm4 : (fun z=>if z = Str.ofString "starts" then some (Value.ref D1) else m3 z) = m4 at F4
 have mO4 : m4 (Str.ofString "octets") = some (.ref DO):=by subst hm4;exact (if_neg (by decide)).trans mO3
 have mS4 : m4 (Str.ofString "stretches") = some (.ref DS):=by subst hm4;exact (if_neg (by decide)).trans mS3
 have m14 : m4 (Str.ofString "starts") = some (.ref D1):=by subst hm4;exact if_pos rfl
 clear hm4
 refine wpAny_execs_cons (lends_k os vO c3 nS (cover ts) DO DH cH cF oH2 oS hvO hos2 os4 kO4 kH4 hoH2 kD4 hSet.obj hsb dp un gd aa ccd outer A₀ base h₀ L m4 _ _ E mO4 B F4 X N4 T hd hu ?_)
 intro D2 y2 h5 tk5 hy2 lt5 F5 N5
 have nS2 : DS ≠ D2:=Nat.ne_of_lt (lt5 _ kS4)
 have up5 : ∀ q ∈ news4,q ∈ (D2,lst y2) :: news4:=fun q hq=>.tail _ hq
 have kH5:=up5 _ kH4
 have kF5:=up5 _ kF4
 have kT5:=up5 _ kT4
 have kS5:=up5 _ kS4
 have kO5:=up5 _ kO4
 have k15:=up5 _ k14
 have k25 : (D2,listOf y2.toArray y2.length) ∈ (D2,lst y2) :: news4:=.head _
 have tp5 : ∀ t ∈ ts,IsTp ((D2,lst y2) :: news4) t:=fun t ht=>(tp4 t ht).more up5
 generalize (D2,lst y2) :: news4 = news5 at N5 kH5 kF5 kT5 kS5 kO5 k15 k25 tp5
 clear N4 F4 kH4 kF4 kT4 kS4 kD4 kO4 k14 tp4 up5 lt5
 clear news4
 generalize hm5 : (fun z=>if z = Str.ofString "ends" then some (Value.ref D2) else m4 z) = m5 at F5
 have mS5 : m5 (Str.ofString "stretches") = some (.ref DS):=by subst hm5;exact (if_neg (by decide)).trans mS4
 have mO5 : m5 (Str.ofString "octets") = some (.ref DO):=by subst hm5;exact (if_neg (by decide)).trans mO4
 have m15 : m5 (Str.ofString "starts") = some (.ref D1):=by subst hm5;exact (if_neg (by decide)).trans m14
 have m25 : m5 (Str.ofString "ends") = some (.ref D2):=by subst hm5;exact if_pos rfl
 clear hm5 mO3 mS3 mO4 mS4 m14
 refine wpAny_execs_cons (fences_k ts n DS kS5 tp5 (fun t ht=>(hb t ht).2.1) (by have:=ts_len hts;exact o98 this) dp un gd aa ccd _ outer A₀ base h₀ L m5 _ _ E mS5 B F5 X N5 T hd hu ?_)
 intro DF fs nf R6 h6 tk6 htf hR6 hDF hfl hpw hcov hlf F6 N6
 have nSH : cH ≠ DS:=(apartB N5 kH5 kS5 (cellB_of hoH2) rfl).symm
 have nSF : cF ≠ DS:=(apartB N5 kF5 kS5 (cellB_of hoF) rfl).symm
 have nST : (112 : Addr) ≠ DS:=(tab_ne N5 kT5 kS5 (by simp)).symm
 refine bc fun g0=>?_;obtain ⟨fb,fe1,fe2,fe3⟩:=link hb hos1 hmO hfl hpw hcov;refine g0 ?_;clear g0
 generalize hm6 : (fun z=>if z = Str.ofString "fences" then some (Value.ref DF) else m5 z) = m6 at F6
 have mF6 : m6 (Str.ofString "fences") = some (.ref DF):=by subst hm6;exact if_pos rfl
 have mO6 : m6 (Str.ofString "octets") = some (.ref DO):=by subst hm6;exact (if_neg (by decide)).trans mO5
 have m16 : m6 (Str.ofString "starts") = some (.ref D1):=by subst hm6;exact (if_neg (by decide)).trans m15
 have m26 : m6 (Str.ofString "ends") = some (.ref D2):=by subst hm6;exact (if_neg (by decide)).trans m25
 clear hm6
 have up6 : ∀ q ∈ news5,q.1 ≠ DS -> q ∈ (DF,listOf (vals fs).toArray nf) :: R6:=fun q hq hn=>.tail _ (hR6 q hq hn)
 have kH6:=up6 _ kH5 nSH
 have kF6:=up6 _ kF5 nSF
 have kT6:=up6 _ kT5 nST
 have kO6:=up6 _ kO5 nSO.symm
 have k16:=up6 _ k15 nS1.symm
 have k26:=up6 _ k25 nS2.symm
 have kW6 : (DF,listOf (vals fs).toArray nf) ∈ (DF,listOf (vals fs).toArray nf) :: R6:=.head _
 have tp6 : ∀ t ∈ fs,IsTp ((DF,listOf (vals fs).toArray nf) :: R6) t:=fun t ht=>(htf t ht).more fun q hq=>.tail _ hq
 generalize (DF,listOf (vals fs).toArray nf) :: R6 = news6 at N6 kH6 kF6 kT6 kO6 k16 k26 kW6 tp6
 clear N5 F5 kH5 kF5 kT5 kS5 kO5 k15 k25 tp5 up6 hR6 hDF htf mS5 mO5 m15 m25
 clear R6 news5
 have hlf8 : fs.length <= 8:=by have:=ts_len hts;exact o255 this hlf
 refine wpAny_execs_cons (fence_k fs y1 y2 nf y1.length y2.length DF D1 D2 tp6 (by exact o256 hlf8) kW6 k16 k26 (fe1 ▸ hy1) (fe2 ▸ hy2) dp un gd aa ccd _ outer A₀ base h₀ L m6 _ _ E mF6 m16 m26 B F6 X N6 T hd hu ?_)
 intro h7 tk7 F7 N7
 clear N6 F6 m16 m26 k16 k26
 have nF6 : DF ≠ 112:=tab_ne N7 kT6 kW6 (by simp)
 have nO6 : DO ≠ 112:=tab_ne N7 kT6 kO6 (by simp)
 have nH6 : cH ≠ 112:=(apartB N7 kH6 kT6 (cellB_of hoH2) rfl).symm
 have nC6 : cF ≠ 112:=(apartB N7 kF6 kT6 (cellB_of hoF) rfl).symm
 have tp7 : ∀ t ∈ fs,IsTp (but 112 news6) t:=fun t ht=>tp_tab N7 kT6 (tp6 t ht)
 refine wpAny_execs_cons (written_k fs DF nf (but 112 news6) #[] tp7 fb (by exact o98 hlf8) (mem_but kW6 nF6) PsOk.nil but_ne dp un gd aa ccd _ outer A₀ base h₀ L m6 _ _ E mF6 B F7 X (fun q hq=>by
  refine bc fun g0=>?_;rcases List.mem_cons.mp hq with rfl | hq <;> (refine g0 ?_;clear g0)
  ·exact N7 _ kT6
  ·exact N7 q (List.mem_filter.mp hq).1) T hd hu hG ?_)
 intro DW yw h8 tk8 g8 ps8 hps8 hG8 hyw ltW F8 N8
 rw [fe3] at hyw
 have kF8 : (cF,oF) ∈ (DW,lst yw) :: (112,tabObj ps8) :: but 112 news6:=.tail _ (.tail _ (mem_but kF6 nC6))
 have kO8 : (DO,listOf vO.toArray c3) ∈ (DW,lst yw) :: (112,tabObj ps8) :: but 112 news6:=.tail _ (.tail _ (mem_but kO6 nO6))
 have kT8 : (112,tabObj ps8) ∈ (DW,lst yw) :: (112,tabObj ps8) :: but 112 news6:=.tail _ (.head _)
 have kW8 : (DW,listOf yw.toArray yw.length) ∈ (DW,lst yw) :: (112,tabObj ps8) :: but 112 news6:=.head _
 generalize hm8 : (fun z=>if z = Str.ofString "written" then some (Value.ref DW) else m6 z) = m8 at F8
 have mO8 : m8 (Str.ofString "octets") = some (.ref DO):=by subst hm8;exact (if_neg (by decide)).trans mO6
 have mW8 : m8 (Str.ofString "written") = some (.ref DW):=by subst hm8;exact if_pos rfl
 clear hm8
 generalize (DW,lst yw) :: (112,tabObj ps8) :: but 112 news6 = news8 at N8 kF8 kO8 kT8 kW8
 clear N7 F7 kF6 kO6 kT6 kW6 kH6 tp6 tp7 mF6 mO6 ltW nF6 nO6 nH6 nC6
 clear news6
 refine wpAny_execs_cons (figs_k cH cF oF vF kF8 hoF dp un gd aa ccd outer A₀ base h₀ L m8 _ _ E B F8 X N8 T ?_)
 intro h9 oF9 t9 tk9 hoF9 F9 N9
 have cB:=cellB_of hoF
 have up9 : ∀ q ∈ news8,q.1 ≠ cF -> q ∈ (cF,oF9) :: but cF news8:=fun q hq hn=>.tail _ (mem_but hq hn)
 have kO9:=up9 _ kO8 (apartB N8 kF8 kO8 cB rfl)
 have kT9:=up9 _ kT8 (apartB N8 kF8 kT8 cB rfl)
 have kW9:=up9 _ kW8 (apartB N8 kF8 kW8 cB rfl)
 have kF9 : (cF,oF9) ∈ (cF,oF9) :: but cF news8:=.head _
 generalize (cF,oF9) :: but cF news8 = news9 at N9 kO9 kT9 kW9 kF9
 clear N8 F8 kF8 kO8 kT8 kW8 up9
 clear news8
 refine wpAny_execs_cons (cmp_k os vO yw c3 yw.length DO DW cH cF oF9 t9 hvO hos2 os4 kO9 kW9 hyw kF9 hoF9 dp un gd aa ccd outer A₀ base h₀ L m8 _ _ E mO8 mW8 B F9 X N9 T hd hu ?_)
 intro h10 tk10 F10 N10
 clear N9 F9
 refine wpAny_execs_cons (plain_k os vO c3 DO hvO hos2 os4 kO9 dp un gd aa ccd _ outer A₀ base h₀ L m8 _ _ E mO8 B F10 X N10 T hd hu ?_)
 intro t11 h11 tk11 F11 N11
 clear N10 F10
 generalize hm11 : (fun z=>if z = Str.ofString "plain" then some (Value.str ⟨os.toArray⟩ t11) else m8 z) = m11 at F11
 have mP11 : m11 (Str.ofString "plain") = some (.str ⟨os.toArray⟩ t11):=by subst hm11;exact if_pos rfl
 have mW11 : m11 (Str.ofString "written") = some (.ref DW):=by subst hm11;exact (if_neg (by decide)).trans mW8
 clear hm11
 refine wpAny_execs_cons (ret_k os yw yw.length DW t11 hos2 os4 (os_ne hts hmO) kW9 hyw dp un gd aa ccd _ outer A₀ base h₀ L m11 _ _ E mW11 mP11 B F11 X N11 T hd hu ?_)
 intro h12 tk12 F12 N12
 exact hret _ _ _ _ ps8 hG8 (N12 _ kT9).1 F12.keep
end
end
end Mine.Internal
end
end
section
open PySem PyProof.Rows PySem.Calls PySem.W
namespace Mine.Internal
section
noncomputable def zs (s : String):=Value.str (Str.ofString s)
noncomputable def zk (P : Params) (s : String):=kE P (Str.ofString s)
noncomputable def zi:=Value.int
noncomputable def zr:=Value.ref
noncomputable def zb:=Value.builtin
noncomputable def zn:=Value.none
noncomputable def mv (a b : Nat) : List Value:=(mapVals.drop a).take (b - a)
noncomputable def oSx1 (P : Params) : Obj:=⟨Value.type "dict",none,.dict (Array.mk [zk P "builtins" 162 (zr 4),zk P "__main__" 163 (zr 5),zk P "_sre" 244 (zr 12)]) 3,#[]⟩
noncomputable def oSx2 (P : Params) : Obj:=⟨zn,none,.dict (Array.mk [zk P "\x69mport.loaded._sre" 183 (Value.bool true),zk P "class._frozen_importlib.BuiltinImporter" 185 (zr 14),zk P "watched.\x69mport" 206 (zr 18),zk P "class._frozen_importlib.ModuleSpec" 216 (zr 22),zk P "sys.modules.booked-epoch" 245 (zi 3 0),zk P "\x69mport.later-laid._sre" 270 (Value.bool true),zk P "watched.library" 272 (zr 27),zk P "watched.library-objects" 0 (Value.str (Str.mk #[12]) 0),zk P "watched.library-deep._sre" 273 (Value.str (Str.mk #[4,0,0,11,4,0,0,11,4,0,0,3,4,0,0,11,8,4,100,105,99,116,2]) 0)]) 9,#[]⟩
noncomputable def oSx3 (P : Params) : Obj:=⟨Value.type "dict",none,.dict (Array.mk [zk P "__name__" 165 (zs "__main__" 164),zk P "__doc__" 166 zn,zk P "__package__" 167 zn,zk P "__loader__" 168 (zb "__main__.__loader__#opaque"),zk P "__spec__" 169 zn,zk P "__annotations__" 170 (zr 6),zk P "__builtins__" 171 (zr 4),zk P "__file__" 173 (zs "/claim/cut.py" 172),zk P "__cached__" 174 zn,zk P "_sre" 275 (zr 12)]) 10,#[]⟩
noncomputable def oSx11 (P : Params) : Obj:=⟨Value.type "dict",none,.dict (Array.mk [zk P "__name__" 247 (zs "_sre" 246),zk P "__doc__" 248 zn,zk P "__package__" 250 (Value.str (Str.mk #[]) 249),zk P "__loader__" 251 (zb "off-the-table:_sre.__loader__:shared#opaque"),zk P "__spec__" 252 (zb "off-the-table:_sre.__spec__:shared#opaque"),zk P "compile" 253 (zb "_sre.compile"),zk P "template" 254 (zb "off-the-table:_sre.template:shared#opaque"),zk P "getcodesize" 255 (zb "off-the-table:_sre.getcodesize:shared#opaque"),zk P "ascii_iscased" 256 (zb "off-the-table:_sre.ascii_iscased:shared#opaque"),zk P "unicode_iscased" 257 (zb "off-the-table:_sre.unicode_iscased:shared#opaque"),zk P "ascii_tolower" 258 (zb "off-the-table:_sre.ascii_tolower:shared#opaque"),zk P "unicode_tolower" 259 (zb "off-the-table:_sre.unicode_tolower:shared#opaque"),zk P "MAGIC" 261 (zi 20230612 260),zk P "CODESIZE" 263 (zi 4 262),zk P "MAXREPEAT" 265 (zi 4294967295 264),zk P "MAXGROUPS" 267 (zi 1073741823 266),zk P "copyright" 269 (zs " SRE 2.2.2 Copyright (c) 1997-2002 by Secret Labs AB " 268)]) 17,#[]⟩
noncomputable def oSx12 (P : Params) : Obj:=⟨Value.type "module",some 11,.plain,#[]⟩
noncomputable def oSx13 (P : Params) : Obj:=⟨Value.type "dict",none,.dict (Array.mk [zk P "__module__" 189 (zs "_frozen_importlib" 186),zk P "__firstlineno__" 190 (zi 971 187),zk P "__doc__" 191 (zb "_frozen_importlib.BuiltinImporter.__doc__:str#opaque"),zk P "_ORIGIN" 192 (zs "built-in" 188),zk P "find_spec" 193 (zb "_frozen_importlib.BuiltinImporter.find_spec#opaque"),zk P "create_module" 194 (zb "_frozen_importlib.BuiltinImporter.create_module#opaque"),zk P "exec_module" 195 (zb "_frozen_importlib.BuiltinImporter.exec_module#opaque"),zk P "get_code" 196 (zb "_frozen_importlib.BuiltinImporter.get_code#opaque"),zk P "get_source" 197 (zb "_frozen_importlib.BuiltinImporter.get_source#opaque"),zk P "is_package" 198 (zb "_frozen_importlib.BuiltinImporter.is_package#opaque"),zk P "load_module" 199 (zb "_frozen_importlib.BuiltinImporter.load_module#opaque"),zk P "__static_attributes__" 200 (zr 15),zk P "__dict__" 202 (zr 16),zk P "__weakref__" 204 (zr 17)]) 14,#[]⟩
noncomputable def oSx14 (P : Params) : Obj:=⟨Value.type "type",none,.cls { name:=(Str.ofString "BuiltinImporter"),bases:=[Value.type "object"],mro:=[zr 14,Value.type "object"],ns:=13,qualname:=(Str.ofString "BuiltinImporter"),hasDict:=true,slotNames:=[],subclasses:=[],abstract:=false,collection:=none,hasDel:=false },#[]⟩
noncomputable def oSx15 (P : Params) : Obj:=⟨Value.type "tuple",none,.seq #[] 0,#[]⟩
noncomputable def oSx16 (P : Params) : Obj:=⟨Value.type "getset_descriptor",none,.fields #[zs "__dict__" 201,zr 14,zb "function.__dict__",zb "function.__dict__#set"],#[]⟩
noncomputable def oSx17 (P : Params) : Obj:=⟨Value.type "getset_descriptor",none,.fields #[zs "__weakref__" 203,zr 14,zb "ExceptionGroup.__weakref__",zn],#[]⟩
noncomputable def oSx18 (P : Params) : Obj:=⟨zn,none,.seq #[zi 13 0,Value.str (Str.mk #[6,189,10,95,95,109,111,100,117,108,101,95,95,6,186,17,95,102,114,111,122,101,110,95,105,109,112,111,114,116,108,105,98,6,190,15,95,95,102,105,114,115,116,108,105,110,101,110,111,95,95,4,187,0,971,6,191,7,95,95,100,111,99,95,95,9,52,95,102,114,111,122,101,110,95,105,109,112,111,114,116,108,105,98,46,66,117,105,108,116,105,110,73,109,112,111,114,116,101,114,46,95,95,100,111,99,95,95,58,115,116,114,35,111,112,97,113,117,101,6,192,7,95,79,82,73,71,73,78,6,188,8,98,117,105,108,116,45,105,110,6,193,9,102,105,110,100,95,115,112,101,99,9,50,95,102,114,111,122,101,110,95,105,109,112,111,114,116,108,105,98,46,66,117,105,108,116,105,110,73,109,112,111,114,116,101,114,46,102,105,110,100,95,115,112,101,99,35,111,112,97,113,117,101,6,194,13,99,114,101,97,116,101,95,109,111,100,117,108,101,9,54,95,102,114,111,122,101,110,95,105,109,112,111,114,116,108,105,98,46,66,117,105,108,116,105,110,73,109,112,111,114,116,101,114,46,99,114,101,97,116,101,95,109,111,100,117,108,101,35,111,112,97,113,117,101,6,195,11,101,120,101,99,95,109,111,100,117,108,101,9,52,95,102,114,111,122,101,110,95,105,109,112,111,114,116,108,105,98,46,66,117,105,108,116,105,110,73,109,112,111,114,116,101,114,46,101,120,101,99,95,109,111,100,117,108,101,35,111,112,97,113,117,101,6,196,8,103,101,116,95,99,111,100,101,9,49,95,102,114,111,122,101,110,95,105,109,112,111,114,116,108,105,98,46,66,117,105,108,116,105,110,73,109,112,111,114,116,101,114,46,103,101,116,95,99,111,100,101,35,111,112,97,113,117,101,6,197,10,103,101,116,95,115,111,117,114,99,101,9,51,95,102,114,111,122,101,110,95,105,109,112,111,114,116,108,105,98,46,66,117,105,108,116,105,110,73,109,112,111,114,116,101,114,46,103,101,116,95,115,111,117,114,99,101,35,111,112,97,113,117,101,6,198,10,105,115,95,112,97,99,107,97,103,101,9,51,95,102,114,111,122,101,110,95,105,109,112,111,114,116,108,105,98,46,66,117,105,108,116,105,110,73,109,112,111,114,116,101,114,46,105,115,95,112,97,99,107,97,103,101,35,111,112,97,113,117,101,6,199,11,108,111,97,100,95,109,111,100,117,108,101,9,52,95,102,114,111,122,101,110,95,105,109,112,111,114,116,108,105,98,46,66,117,105,108,116,105,110,73,109,112,111,114,116,101,114,46,108,111,97,100,95,109,111,100,117,108,101,35,111,112,97,113,117,101,6,200,21,95,95,115,116,97,116,105,99,95,97,116,116,114,105,98,117,116,101,115,95,95,4,0,0,15,6,202,8,95,95,100,105,99,116,95,95,4,0,0,16,6,204,11,95,95,119,101,97,107,114,101,102,95,95,4,0,0,17]) 0,Value.bool true,Value.bool true,Value.str (Str.mk #[]) 205,zi 21 0,Value.str (Str.mk #[6,227,10,95,95,109,111,100,117,108,101,95,95,6,217,17,95,102,114,111,122,101,110,95,105,109,112,111,114,116,108,105,98,6,228,15,95,95,102,105,114,115,116,108,105,110,101,110,111,95,95,4,218,0,562,6,229,7,95,95,100,111,99,95,95,9,47,95,102,114,111,122,101,110,95,105,109,112,111,114,116,108,105,98,46,77,111,100,117,108,101,83,112,101,99,46,95,95,100,111,99,95,95,58,115,116,114,35,111,112,97,113,117,101,6,230,8,95,95,105,110,105,116,95,95,9,44,95,102,114,111,122,101,110,95,105,109,112,111,114,116,108,105,98,46,77,111,100,117,108,101,83,112,101,99,46,95,95,105,110,105,116,95,95,35,111,112,97,113,117,101,6,231,8,95,95,114,101,112,114,95,95,9,44,95,102,114,111,122,101,110,95,105,109,112,111,114,116,108,105,98,46,77,111,100,117,108,101,83,112,101,99,46,95,95,114,101,112,114,95,95,35,111,112,97,113,117,101,6,232,6,95,95,101,113,95,95,9,42,95,102,114,111,122,101,110,95,105,109,112,111,114,116,108,105,98,46,77,111,100,117,108,101,83,112,101,99,46,95,95,101,113,95,95,35,111,112,97,113,117,101,6,233,6,99,97,99,104,101,100,9,42,95,102,114,111,122,101,110,95,105,109,112,111,114,116,108,105,98,46,77,111,100,117,108,101,83,112,101,99,46,99,97,99,104,101,100,35,111,112,97,113,117,101,6,234,6,112,97,114,101,110,116,9,42,95,102,114,111,122,101,110,95,105,109,112,111,114,116,108,105,98,46,77,111,100,117,108,101,83,112,101,99,46,112,97,114,101,110,116,35,111,112,97,113,117,101,6,235,12,104,97,115,95,108,111,99,97,116,105,111,110,9,48,95,102,114,111,122,101,110,95,105,109,112,111,114,116,108,105,98,46,77,111,100,117,108,101,83,112,101,99,46,104,97,115,95,108,111,99,97,116,105,111,110,35,111,112,97,113,117,101,6,236,21,95,95,115,116,97,116,105,99,95,97,116,116,114,105,98,117,116,101,115,95,95,4,0,0,23,6,238,8,95,95,100,105,99,116,95,95,4,0,0,24,6,240,11,95,95,119,101,97,107,114,101,102,95,95,4,0,0,25,6,241,8,95,95,104,97,115,104,95,95,0]) 0,Value.bool true,Value.bool true,Value.str (Str.mk #[]) 242] 1,#[]⟩
noncomputable def oSx19 (P : Params) : Obj:=⟨Value.type "list",none,.seq #[] 0,#[]⟩
noncomputable def oSx20 (P : Params) : Obj:=⟨Value.type "dict",none,.dict (Array.mk [zk P "name" 208 (zs "_sre" 207),zk P "loader" 209 (zr 14),zk P "origin" 210 (zs "built-in" 184),zk P "loader_state" 211 zn,zk P "submodule_search_locations" 212 zn,zk P "_uninitialized_submodules" 213 (zr 19),zk P "_set_fileattr" 214 (Value.bool false),zk P "_cached" 215 zn,zk P "_initializing" 243 (Value.bool false)]) 9,#[]⟩
noncomputable def oSx21 (P : Params) : Obj:=⟨Value.type "dict",none,.dict (Array.mk [zk P "__module__" 227 (zs "_frozen_importlib" 217),zk P "__firstlineno__" 228 (zi 562 218),zk P "__doc__" 229 (zb "_frozen_importlib.ModuleSpec.__doc__:str#opaque"),zk P "__init__" 230 (zb "_frozen_importlib.ModuleSpec.__init__#opaque"),zk P "__repr__" 231 (zb "_frozen_importlib.ModuleSpec.__repr__#opaque"),zk P "__eq__" 232 (zb "_frozen_importlib.ModuleSpec.__eq__#opaque"),zk P "cached" 233 (zb "_frozen_importlib.ModuleSpec.cached#opaque"),zk P "parent" 234 (zb "_frozen_importlib.ModuleSpec.parent#opaque"),zk P "has_location" 235 (zb "_frozen_importlib.ModuleSpec.has_location#opaque"),zk P "__static_attributes__" 236 (zr 23),zk P "__dict__" 238 (zr 24),zk P "__weakref__" 240 (zr 25),zk P "__hash__" 241 zn]) 13,#[]⟩
noncomputable def oSx22 (P : Params) : Obj:=⟨Value.type "type",none,.cls { name:=(Str.ofString "ModuleSpec"),bases:=[Value.type "object"],mro:=[zr 22,Value.type "object"],ns:=21,qualname:=(Str.ofString "ModuleSpec"),hasDict:=true,slotNames:=[],subclasses:=[],abstract:=false,collection:=none,hasDel:=false },#[]⟩
noncomputable def oSx23 (P : Params) : Obj:=⟨Value.type "tuple",none,.seq #[zs "_cached" 219,zs "_set_fileattr" 220,zs "_uninitialized_submodules" 221,zs "loader" 222,zs "loader_state" 223,zs "name" 224,zs "origin" 225,zs "submodule_search_locations" 226] 0,#[]⟩
noncomputable def oSx24 (P : Params) : Obj:=⟨Value.type "getset_descriptor",none,.fields #[zs "__dict__" 237,zr 22,zb "function.__dict__",zb "function.__dict__#set"],#[]⟩
noncomputable def oSx25 (P : Params) : Obj:=⟨Value.type "getset_descriptor",none,.fields #[zs "__weakref__" 239,zr 22,zb "ExceptionGroup.__weakref__",zn],#[]⟩
noncomputable def oSx26 (P : Params) : Obj:=⟨zr 22,some 20,.plain,#[]⟩
noncomputable def oSx27 (P : Params) : Obj:=⟨zn,none,.seq #[zi 11 0,Value.str (Str.mk #[6,247,8,95,95,110,97,109,101,95,95,6,246,4,95,115,114,101,6,248,7,95,95,100,111,99,95,95,0,6,250,11,95,95,112,97,99,107,97,103,101,95,95,6,249,0,6,251,10,95,95,108,111,97,100,101,114,95,95,4,0,0,14,6,252,8,95,95,115,112,101,99,95,95,4,0,0,26,6,253,7,99,111,109,112,105,108,101,9,12,95,115,114,101,46,99,111,109,112,105,108,101,6,254,8,116,101,109,112,108,97,116,101,9,13,95,115,114,101,46,116,101,109,112,108,97,116,101,6,255,11,103,101,116,99,111,100,101,115,105,122,101,9,16,95,115,114,101,46,103,101,116,99,111,100,101,115,105,122,101,6,256,13,97,115,99,105,105,95,105,115,99,97,115,101,100,9,18,95,115,114,101,46,97,115,99,105,105,95,105,115,99,97,115,101,100,6,257,15,117,110,105,99,111,100,101,95,105,115,99,97,115,101,100,9,20,95,115,114,101,46,117,110,105,99,111,100,101,95,105,115,99,97,115,101,100,6,258,13,97,115,99,105,105,95,116,111,108,111,119,101,114,9,18,95,115,114,101,46,97,115,99,105,105,95,116,111,108,111,119,101,114,6,259,15,117,110,105,99,111,100,101,95,116,111,108,111,119,101,114,9,20,95,115,114,101,46,117,110,105,99,111,100,101,95,116,111,108,111,119,101,114,6,261,5,77,65,71,73,67,4,260,0,20230612,6,263,8,67,79,68,69,83,73,90,69,4,262,0,4,6,265,9,77,65,88,82,69,80,69,65,84,4,264,0,4294967295,6,267,9,77,65,88,71,82,79,85,80,83,4,266,0,1073741823,6,269,9,99,111,112,121,114,105,103,104,116,6,268,53,32,83,82,69,32,50,46,50,46,50,32,67,111,112,121,114,105,103,104,116,32,40,99,41,32,49,57,57,55,45,50,48,48,50,32,98,121,32,83,101,99,114,101,116,32,76,97,98,115,32,65,66,32]) 0,Value.bool true,Value.bool false,zs "_sre" 271] 0,#[]⟩
noncomputable def hS (P : Params) : Heap:=⟨Array.mk (boot_o_0 P :: oSx1 P :: oSx2 P :: oSx3 P :: boot_o_4 P :: boot_o_5 P :: boot_o_6 P :: boot_o_7 P :: boot_o_8 P :: boot_o_9 P :: boot_o_10 P :: oSx11 P :: oSx12 P :: oSx13 P :: oSx14 P :: oSx15 P :: oSx16 P :: oSx17 P :: oSx18 P :: oSx19 P :: oSx20 P :: oSx21 P :: oSx22 P :: oSx23 P :: oSx24 P :: oSx25 P :: oSx26 P :: oSx27 P :: []),(boot_heap P).life⟩
noncomputable def oIx11 (P : Params) : Obj:=⟨Value.type "dict",none,.dict (Array.mk [zk P "__name__" 247 (zs "_sre" 246),zk P "__doc__" 248 zn,zk P "__package__" 250 (Value.str (Str.mk #[]) 249),zk P "__loader__" 251 (zr 14),zk P "__spec__" 252 (zr 26),zk P "compile" 253 (zb "_sre.compile"),zk P "template" 254 (zb "_sre.template"),zk P "getcodesize" 255 (zb "_sre.getcodesize"),zk P "ascii_iscased" 256 (zb "_sre.ascii_iscased"),zk P "unicode_iscased" 257 (zb "_sre.unicode_iscased"),zk P "ascii_tolower" 258 (zb "_sre.ascii_tolower"),zk P "unicode_tolower" 259 (zb "_sre.unicode_tolower"),zk P "MAGIC" 261 (zi 20230612 260),zk P "CODESIZE" 263 (zi 4 262),zk P "MAXREPEAT" 265 (zi 4294967295 264),zk P "MAXGROUPS" 267 (zi 1073741823 266),zk P "copyright" 269 (zs " SRE 2.2.2 Copyright (c) 1997-2002 by Secret Labs AB " 268)]) 17,#[]⟩
noncomputable def hI (P : Params) : Heap:=⟨Array.mk (boot_o_0 P :: oSx1 P :: oSx2 P :: oSx3 P :: boot_o_4 P :: boot_o_5 P :: boot_o_6 P :: boot_o_7 P :: boot_o_8 P :: boot_o_9 P :: boot_o_10 P :: oIx11 P :: oSx12 P :: oSx13 P :: oSx14 P :: oSx15 P :: oSx16 P :: oSx17 P :: oSx18 P :: oSx19 P :: oSx20 P :: oSx21 P :: oSx22 P :: oSx23 P :: oSx24 P :: oSx25 P :: oSx26 P :: oSx27 P :: []),(boot_heap P).life⟩
noncomputable def oAx28 (P : Params) : Obj:=⟨Value.type "tuple",none,.seq #[] 0,#[]⟩
noncomputable def oAx29 (P : Params) : Obj:=⟨zn,none,.fields #[],#[]⟩
noncomputable def oAx30 (P : Params) : Obj:=⟨Value.type "code",none,.fields #[zs "<module>" 277,zs "<module>" 278,zs "/claim/cut.py" 279,zi 1 0,zi 0 0,zi 0 0,zi 0 0,zi 0 0,zr 28,Value.bool false,zi 276 0,zr 29,zn,zn,zn,zn,zi 280 0,zi 1 0,zs "/claim/cut.py" 281],#[]⟩
noncomputable def oAx31 (P : Params) : Obj:=⟨Value.type "frame",none,.plain,#[some (zr 30),some (zr 3),some (zr 3),none,some (zs "__main__" 164),none,some (zr 0)]⟩
noncomputable def hA (P : Params) : Heap:=⟨Array.mk (boot_o_0 P :: oSx1 P :: oSx2 P :: oSx3 P :: boot_o_4 P :: boot_o_5 P :: boot_o_6 P :: boot_o_7 P :: boot_o_8 P :: boot_o_9 P :: boot_o_10 P :: oSx11 P :: oSx12 P :: oSx13 P :: oSx14 P :: oSx15 P :: oSx16 P :: oSx17 P :: oSx18 P :: oSx19 P :: oSx20 P :: oSx21 P :: oSx22 P :: oSx23 P :: oSx24 P :: oSx25 P :: oSx26 P :: oSx27 P :: oAx28 P :: oAx29 P :: oAx30 P :: oAx31 P :: []),(boot_heap P).life⟩
noncomputable def tB (P : Params) : BT:=.node (boot_o_0 P) (.node (oSx1 P) (.node (oSx3 P) (.node (boot_o_7 P) (.node (oSx15 P) (.node (oAx31 P) (.nil) (.nil)) (.nil)) (.node (oSx23 P) (.nil) (.nil))) (.node (oSx11 P) (.node (oSx19 P) (.nil) (.nil)) (.node (oSx27 P) (.nil) (.nil)))) (.node (boot_o_5 P) (.node (boot_o_9 P) (.node (oSx17 P) (.nil) (.nil)) (.node (oSx25 P) (.nil) (.nil))) (.node (oSx13 P) (.node (oSx21 P) (.nil) (.nil)) (.node (oAx29 P) (.nil) (.nil))))) (.node (oSx2 P) (.node (boot_o_4 P) (.node (boot_o_8 P) (.node (oSx16 P) (.nil) (.nil)) (.node (oSx24 P) (.nil) (.nil))) (.node (oSx12 P) (.node (oSx20 P) (.nil) (.nil)) (.node (oAx28 P) (.nil) (.nil)))) (.node (boot_o_6 P) (.node (boot_o_10 P) (.node (oSx18 P) (.nil) (.nil)) (.node (oSx26 P) (.nil) (.nil))) (.node (oSx14 P) (.node (oSx22 P) (.nil) (.nil)) (.node (oAx30 P) (.nil) (.nil)))))
noncomputable def o2x3 (P : Params) : Obj:=⟨Value.type "dict",none,.dict (Array.mk [zk P "__name__" 165 (zs "__main__" 164),zk P "__doc__" 166 zn,zk P "__package__" 167 zn,zk P "__loader__" 168 (zb "__main__.__loader__#opaque"),zk P "__spec__" 169 zn,zk P "__annotations__" 170 (zr 6),zk P "__builtins__" 171 (zr 4),zk P "__file__" 173 (zs "/claim/cut.py" 172),zk P "__cached__" 174 zn,zk P "_sre" 275 (zr 12),zk P "twin_re_1_quoprimime" 316 (zr 36),zk P "NL" 318 (Value.str (Str.mk #[10]) 317),zk P "_QUOPRI_MAP" 1346 (zr 39)]) 13,#[]⟩
noncomputable def o2x32 (P : Params) : Obj:=⟨Value.type "list",none,.seq #[zi 14 285,zi 8 286,zi 1 287,zi 3 288,zi 3 289,zi 1 290,zi 1 291,zi 61 292,zi 0 293,zi 16 294,zi 61 295,zi 24 296,zi 16 297,zi 2 298,zi 2 299,zi 13 300,zi 11 301,zi 9 302,zi 0 303,zi 67043328 304,zi 126 305,zi 126 306,zi 0 307,zi 0 308,zi 0 309,zi 0 310,zi 0 311,zi 1 312,zi 1 313] 0,#[]⟩
noncomputable def o2x33 (P : Params) : Obj:=⟨Value.type "dict",none,.dict (Array.mk []) 0,#[]⟩
noncomputable def o2x34 (P : Params) : Obj:=⟨Value.type "tuple",none,.seq #[zn] 0,#[]⟩
noncomputable def o2x35 (P : Params) : Obj:=⟨Value.type "tuple",none,.seq #[zi 14 0,zi 8 0,zi 1 0,zi 3 0,zi 3 0,zi 1 0,zi 1 0,zi 61 0,zi 0 0,zi 16 0,zi 61 0,zi 24 0,zi 16 0,zi 2 0,zi 2 0,zi 13 0,zi 11 0,zi 9 0,zi 0 0,zi 67043328 0,zi 126 0,zi 126 0,zi 0 0,zi 0 0,zi 0 0,zi 0 0,zi 0 0,zi 1 0,zi 1 0] 0,#[]⟩
noncomputable def o2x36 (P : Params) : Obj:=⟨Value.type "re.Pattern",none,.fields #[zs "=[a-fA-F0-9]{2}" 283,zi 256 315,zi 0 0,zn,zn,zr 35,zi 0 0],#[]⟩
noncomputable def o2x37 (P : Params) : Obj:=⟨Value.type "range",none,.fields #[zi 0 320,zi 256 319,zi 1 321],#[]⟩
noncomputable def o2x38 (P : Params) : Obj:=⟨Value.type "range_iterator",none,.fields #[zi 256 0,zi 0 0,zi 1 0],#[]⟩
noncomputable def o2x39 (P : Params) : Obj:=⟨Value.type "list",none,.seq (mv 0 256).toArray 256,#[]⟩
noncomputable def o2x40 (P : Params) : Obj:=⟨Value.type "dict",none,.dict (Array.mk []) 2,#[]⟩
noncomputable def o2x41 (P : Params) : Obj:=⟨Value.type "tuple",none,.seq #[] 0,#[]⟩
noncomputable def o2x42 (P : Params) : Obj:=⟨Value.type "StopIteration",none,.fields #[zr 41,zn,zn,zn,Value.bool false,zn],#[]⟩
noncomputable def t2 (P : Params) : BT:=.node (boot_o_0 P) (.node (oSx1 P) (.node (o2x3 P) (.node (boot_o_7 P) (.node (oSx15 P) (.node (oAx31 P) (.nil) (.nil)) (.nil)) (.node (oSx23 P) (.node (o2x39 P) (.nil) (.nil)) (.nil))) (.node (oSx11 P) (.node (oSx19 P) (.node (o2x35 P) (.nil) (.nil)) (.nil)) (.node (oSx27 P) (.nil) (.nil)))) (.node (boot_o_5 P) (.node (boot_o_9 P) (.node (oSx17 P) (.node (o2x33 P) (.nil) (.nil)) (.nil)) (.node (oSx25 P) (.node (o2x41 P) (.nil) (.nil)) (.nil))) (.node (oSx13 P) (.node (oSx21 P) (.node (o2x37 P) (.nil) (.nil)) (.nil)) (.node (oAx29 P) (.nil) (.nil))))) (.node (oSx2 P) (.node (boot_o_4 P) (.node (boot_o_8 P) (.node (oSx16 P) (.node (o2x32 P) (.nil) (.nil)) (.nil)) (.node (oSx24 P) (.node (o2x40 P) (.nil) (.nil)) (.nil))) (.node (oSx12 P) (.node (oSx20 P) (.node (o2x36 P) (.nil) (.nil)) (.nil)) (.node (oAx28 P) (.nil) (.nil)))) (.node (boot_o_6 P) (.node (boot_o_10 P) (.node (oSx18 P) (.node (o2x34 P) (.nil) (.nil)) (.nil)) (.node (oSx26 P) (.node (o2x42 P) (.nil) (.nil)) (.nil))) (.node (oSx14 P) (.node (oSx22 P) (.node (o2x38 P) (.nil) (.nil)) (.nil)) (.node (oAx30 P) (.nil) (.nil)))))
noncomputable def o11x3 (P : Params) : Obj:=⟨Value.type "dict",none,.dict (Array.mk [zk P "__name__" 165 (zs "cpy313.email.quoprimime" 1362),zk P "__doc__" 166 zn,zk P "__package__" 167 zn,zk P "__loader__" 168 (zb "__main__.__loader__#opaque"),zk P "__spec__" 169 zn,zk P "__annotations__" 170 (zr 6),zk P "__builtins__" 171 (zr 4),zk P "__file__" 173 (zs "/claim/cut.py" 172),zk P "__cached__" 174 zn,zk P "_sre" 275 (zr 12),zk P "twin_re_1_quoprimime" 316 (zr 36),zk P "NL" 318 (Value.str (Str.mk #[10]) 317),zk P "_QUOPRI_MAP" 1346 (zr 39),zk P "_QUOPRI_HEADER_MAP" 1347 (zr 44),zk P "_QUOPRI_BODY_MAP" 1348 (zr 46),zk P "ascii_lowercase" 1350 (zs "abcdefghijklmnopqrstuvwxyz" 1349),zk P "ascii_uppercase" 1352 (zs "ABCDEFGHIJKLMNOPQRSTUVWXYZ" 1351),zk P "ascii_letters" 1354 (zs "abcdefghijklmnopqrstuvwxyzABCDEFGHIJKLMNOPQRSTUVWXYZ" 1353),zk P "digits" 1356 (zs "0123456789" 1355),zk P "hexdigits" 1361 (zs "0123456789abcdefABCDEF" 1360),zk P "c" 1372 (zi 57 1569)]) 21,#[]⟩
noncomputable def o11x43 (P : Params) : Obj:=⟨Value.type "slice",none,.fields #[zn,zn,zn],#[]⟩
noncomputable def o11x44 (P : Params) : Obj:=⟨Value.type "list",none,.seq (mv 0 33 ++ [zs "!" 1376] ++ mv 34 42 ++ [zs "*" 1379,zs "+" 1382] ++ mv 44 45 ++ [zs "-" 1373] ++ mv 46 47 ++ [zs "/" 1385,zs "0" 1544,zs "1" 1547,zs "2" 1550,zs "3" 1553,zs "4" 1556,zs "5" 1559,zs "6" 1562,zs "7" 1565,zs "8" 1568,zs "9" 1571] ++ mv 58 65 ++ [zs "A" 1466,zs "B" 1469,zs "C" 1472,zs "D" 1475,zs "E" 1478,zs "F" 1481,zs "G" 1484,zs "H" 1487,zs "I" 1490,zs "J" 1493,zs "K" 1496,zs "L" 1499,zs "M" 1502,zs "N" 1505,zs "O" 1508,zs "P" 1511,zs "Q" 1514,zs "R" 1517,zs "S" 1520,zs "T" 1523,zs "U" 1526,zs "V" 1529,zs "W" 1532,zs "X" 1535,zs "Y" 1538,zs "Z" 1541] ++ mv 91 97 ++ [zs "a" 1388,zs "b" 1391,zs "c" 1394,zs "d" 1397,zs "e" 1400,zs "f" 1403,zs "g" 1406,zs "h" 1409,zs "i" 1412,zs "j" 1415,zs "k" 1418,zs "l" 1421,zs "m" 1424,zs "n" 1427,zs "o" 1430,zs "p" 1433,zs "q" 1436,zs "r" 1439,zs "s" 1442,zs "t" 1445,zs "u" 1448,zs "v" 1451,zs "w" 1454,zs "x" 1457,zs "y" 1460,zs "z" 1463] ++ mv 123 256).toArray 0,#[]⟩
noncomputable def o11x45 (P : Params) : Obj:=⟨Value.type "slice",none,.fields #[zn,zn,zn],#[]⟩
noncomputable def o11x46 (P : Params) : Obj:=⟨Value.type "list",none,.seq (mv 0 256).toArray 0,#[]⟩
noncomputable def o11x47 (P : Params) : Obj:=⟨Value.type "bytes_iterator",none,.fields #[zn,zi 67 0],#[]⟩
noncomputable def o11x48 (P : Params) : Obj:=⟨Value.type "tuple",none,.seq #[] 0,#[]⟩
noncomputable def o11x49 (P : Params) : Obj:=⟨Value.type "StopIteration",none,.fields #[zr 48,zn,zn,zn,Value.bool false,zn],#[]⟩
noncomputable def t11 (P : Params) : BT:=.node (boot_o_0 P) (.node (oSx1 P) (.node (o11x3 P) (.node (boot_o_7 P) (.node (oSx15 P) (.node (oAx31 P) (.nil) (.nil)) (.node (o11x47 P) (.nil) (.nil))) (.node (oSx23 P) (.node (o2x39 P) (.nil) (.nil)) (.nil))) (.node (oSx11 P) (.node (oSx19 P) (.node (o2x35 P) (.nil) (.nil)) (.nil)) (.node (oSx27 P) (.node (o11x43 P) (.nil) (.nil)) (.nil)))) (.node (boot_o_5 P) (.node (boot_o_9 P) (.node (oSx17 P) (.node (o2x33 P) (.nil) (.nil)) (.node (o11x49 P) (.nil) (.nil))) (.node (oSx25 P) (.node (o2x41 P) (.nil) (.nil)) (.nil))) (.node (oSx13 P) (.node (oSx21 P) (.node (o2x37 P) (.nil) (.nil)) (.nil)) (.node (oAx29 P) (.node (o11x45 P) (.nil) (.nil)) (.nil))))) (.node (oSx2 P) (.node (boot_o_4 P) (.node (boot_o_8 P) (.node (oSx16 P) (.node (o2x32 P) (.nil) (.nil)) (.node (o11x48 P) (.nil) (.nil))) (.node (oSx24 P) (.node (o2x40 P) (.nil) (.nil)) (.nil))) (.node (oSx12 P) (.node (oSx20 P) (.node (o2x36 P) (.nil) (.nil)) (.nil)) (.node (oAx28 P) (.node (o11x44 P) (.nil) (.nil)) (.nil)))) (.node (boot_o_6 P) (.node (boot_o_10 P) (.node (oSx18 P) (.node (o2x34 P) (.nil) (.nil)) (.nil)) (.node (oSx26 P) (.node (o2x42 P) (.nil) (.nil)) (.nil))) (.node (oSx14 P) (.node (oSx22 P) (.node (o2x38 P) (.nil) (.nil)) (.nil)) (.node (oAx30 P) (.node (o11x46 P) (.nil) (.nil)) (.nil)))))
noncomputable def o13x3 (P : Params) : Obj:=⟨Value.type "dict",none,.dict (Array.mk [zk P "__name__" 165 (zs "cpy313.email.quoprimime" 1362),zk P "__doc__" 166 zn,zk P "__package__" 167 zn,zk P "__loader__" 168 (zb "__main__.__loader__#opaque"),zk P "__spec__" 169 zn,zk P "__annotations__" 170 (zr 6),zk P "__builtins__" 171 (zr 4),zk P "__file__" 173 (zs "/claim/cut.py" 172),zk P "__cached__" 174 zn,zk P "_sre" 275 (zr 12),zk P "twin_re_1_quoprimime" 316 (zr 36),zk P "NL" 318 (Value.str (Str.mk #[10]) 317),zk P "_QUOPRI_MAP" 1346 (zr 39),zk P "_QUOPRI_HEADER_MAP" 1347 (zr 44),zk P "_QUOPRI_BODY_MAP" 1348 (zr 46),zk P "ascii_lowercase" 1350 (zs "abcdefghijklmnopqrstuvwxyz" 1349),zk P "ascii_uppercase" 1352 (zs "ABCDEFGHIJKLMNOPQRSTUVWXYZ" 1351),zk P "ascii_letters" 1354 (zs "abcdefghijklmnopqrstuvwxyzABCDEFGHIJKLMNOPQRSTUVWXYZ" 1353),zk P "digits" 1356 (zs "0123456789" 1355),zk P "hexdigits" 1361 (zs "0123456789abcdefABCDEF" 1360),zk P "c" 1372 (zi 9 1858)]) 21,#[]⟩
noncomputable def o13x44 (P : Params) : Obj:=⟨Value.type "list",none,.seq (mv 0 32 ++ [zs "_" 1572,zs "!" 1376] ++ mv 34 42 ++ [zs "*" 1379,zs "+" 1382] ++ mv 44 45 ++ [zs "-" 1373] ++ mv 46 47 ++ [zs "/" 1385,zs "0" 1544,zs "1" 1547,zs "2" 1550,zs "3" 1553,zs "4" 1556,zs "5" 1559,zs "6" 1562,zs "7" 1565,zs "8" 1568,zs "9" 1571] ++ mv 58 65 ++ [zs "A" 1466,zs "B" 1469,zs "C" 1472,zs "D" 1475,zs "E" 1478,zs "F" 1481,zs "G" 1484,zs "H" 1487,zs "I" 1490,zs "J" 1493,zs "K" 1496,zs "L" 1499,zs "M" 1502,zs "N" 1505,zs "O" 1508,zs "P" 1511,zs "Q" 1514,zs "R" 1517,zs "S" 1520,zs "T" 1523,zs "U" 1526,zs "V" 1529,zs "W" 1532,zs "X" 1535,zs "Y" 1538,zs "Z" 1541] ++ mv 91 97 ++ [zs "a" 1388,zs "b" 1391,zs "c" 1394,zs "d" 1397,zs "e" 1400,zs "f" 1403,zs "g" 1406,zs "h" 1409,zs "i" 1412,zs "j" 1415,zs "k" 1418,zs "l" 1421,zs "m" 1424,zs "n" 1427,zs "o" 1430,zs "p" 1433,zs "q" 1436,zs "r" 1439,zs "s" 1442,zs "t" 1445,zs "u" 1448,zs "v" 1451,zs "w" 1454,zs "x" 1457,zs "y" 1460,zs "z" 1463] ++ mv 123 256).toArray 0,#[]⟩
noncomputable def o13x46 (P : Params) : Obj:=⟨Value.type "list",none,.seq (mv 0 9 ++ [Value.str (Str.mk #[9]) 1860] ++ mv 10 32 ++ [zs " " 1578,zs "!" 1581,Value.str (Str.ofString "\"") 1584,zs "#" 1587,zs "$" 1590,zs "%" 1593,zs "&" 1596,zs "'" 1599,zs "(" 1602,zs ")" 1605,zs "*" 1608,zs "+" 1611,zs "," 1614,zs "-" 1617,zs "." 1620,zs "/" 1623,zs "0" 1626,zs "1" 1629,zs "2" 1632,zs "3" 1635,zs "4" 1638,zs "5" 1641,zs "6" 1644,zs "7" 1647,zs "8" 1650,zs "9" 1653,zs ":" 1656,zs ";" 1659,zs "<" 1662] ++ mv 61 62 ++ [zs ">" 1665,zs "?" 1668,zs "@" 1671,zs "A" 1674,zs "B" 1677,zs "C" 1680,zs "D" 1683,zs "E" 1686,zs "F" 1689,zs "G" 1692,zs "H" 1695,zs "I" 1698,zs "J" 1701,zs "K" 1704,zs "L" 1707,zs "M" 1710,zs "N" 1713,zs "O" 1716,zs "P" 1719,zs "Q" 1722,zs "R" 1725,zs "S" 1728,zs "T" 1731,zs "U" 1734,zs "V" 1737,zs "W" 1740,zs "X" 1743,zs "Y" 1746,zs "Z" 1749,zs "[" 1752,zs "\\" 1755,zs "]" 1758,zs "^" 1761,zs "_" 1764,zs "`" 1767,zs "a" 1770,zs "b" 1773,zs "c" 1776,zs "d" 1779,zs "e" 1782,zs "f" 1785,zs "g" 1788,zs "h" 1791,zs "i" 1794,zs "j" 1797,zs "k" 1800,zs "l" 1803,zs "m" 1806,zs "n" 1809,zs "o" 1812,zs "p" 1815,zs "q" 1818,zs "r" 1821,zs "s" 1824,zs "t" 1827,zs "u" 1830,zs "v" 1833,zs "w" 1836,zs "x" 1839,zs "y" 1842,zs "z" 1845,zs "{" 1848,zs "|" 1851,zs "}" 1854,zs "~" 1857] ++ mv 127 256).toArray 0,#[]⟩
noncomputable def o13x50 (P : Params) : Obj:=⟨Value.type "bytes_iterator",none,.fields #[zn,zi 95 0],#[]⟩
noncomputable def o13x51 (P : Params) : Obj:=⟨Value.type "tuple",none,.seq #[] 0,#[]⟩
noncomputable def o13x52 (P : Params) : Obj:=⟨Value.type "StopIteration",none,.fields #[zr 51,zn,zn,zn,Value.bool false,zn],#[]⟩
noncomputable def t13 (P : Params) : BT:=.node (boot_o_0 P) (.node (oSx1 P) (.node (o13x3 P) (.node (boot_o_7 P) (.node (oSx15 P) (.node (oAx31 P) (.nil) (.nil)) (.node (o11x47 P) (.nil) (.nil))) (.node (oSx23 P) (.node (o2x39 P) (.nil) (.nil)) (.nil))) (.node (oSx11 P) (.node (oSx19 P) (.node (o2x35 P) (.nil) (.nil)) (.node (o13x51 P) (.nil) (.nil))) (.node (oSx27 P) (.node (o11x43 P) (.nil) (.nil)) (.nil)))) (.node (boot_o_5 P) (.node (boot_o_9 P) (.node (oSx17 P) (.node (o2x33 P) (.nil) (.nil)) (.node (o11x49 P) (.nil) (.nil))) (.node (oSx25 P) (.node (o2x41 P) (.nil) (.nil)) (.nil))) (.node (oSx13 P) (.node (oSx21 P) (.node (o2x37 P) (.nil) (.nil)) (.nil)) (.node (oAx29 P) (.node (o11x45 P) (.nil) (.nil)) (.nil))))) (.node (oSx2 P) (.node (boot_o_4 P) (.node (boot_o_8 P) (.node (oSx16 P) (.node (o2x32 P) (.nil) (.nil)) (.node (o11x48 P) (.nil) (.nil))) (.node (oSx24 P) (.node (o2x40 P) (.nil) (.nil)) (.nil))) (.node (oSx12 P) (.node (oSx20 P) (.node (o2x36 P) (.nil) (.nil)) (.node (o13x52 P) (.nil) (.nil))) (.node (oAx28 P) (.node (o13x44 P) (.nil) (.nil)) (.nil)))) (.node (boot_o_6 P) (.node (boot_o_10 P) (.node (oSx18 P) (.node (o2x34 P) (.nil) (.nil)) (.node (o13x50 P) (.nil) (.nil))) (.node (oSx26 P) (.node (o2x42 P) (.nil) (.nil)) (.nil))) (.node (oSx14 P) (.node (oSx22 P) (.node (o2x38 P) (.nil) (.nil)) (.nil)) (.node (oAx30 P) (.node (o13x46 P) (.nil) (.nil)) (.nil)))))
noncomputable def o24x3 (P : Params) : Obj:=⟨Value.type "dict",none,.dict (Array.mk [zk P "__name__" 165 (zs "re" 1949),zk P "__doc__" 166 zn,zk P "__package__" 167 zn,zk P "__loader__" 168 (zb "__main__.__loader__#opaque"),zk P "__spec__" 169 zn,zk P "__annotations__" 170 (zr 6),zk P "__builtins__" 171 (zr 4),zk P "__file__" 173 (zs "/claim/cut.py" 172),zk P "__cached__" 174 zn,zk P "_sre" 275 (zr 12),zk P "twin_re_1_quoprimime" 316 (zr 36),zk P "NL" 318 (Value.str (Str.mk #[10]) 317),zk P "_QUOPRI_MAP" 1346 (zr 39),zk P "_QUOPRI_HEADER_MAP" 1347 (zr 44),zk P "_QUOPRI_BODY_MAP" 1348 (zr 46),zk P "ascii_lowercase" 1350 (zs "abcdefghijklmnopqrstuvwxyz" 1349),zk P "ascii_uppercase" 1352 (zs "ABCDEFGHIJKLMNOPQRSTUVWXYZ" 1351),zk P "ascii_letters" 1354 (zs "abcdefghijklmnopqrstuvwxyzABCDEFGHIJKLMNOPQRSTUVWXYZ" 1353),zk P "digits" 1356 (zs "0123456789" 1355),zk P "hexdigits" 1361 (zs "0123456789abcdefABCDEF" 1360),zk P "unquote" 1867 (zr 59),zk P "quote" 1874 (zr 66),zk P "_QUOPRI_BODY_ENCODE_MAP" 1875 (zr 68),zk P "decode" 1895 (zr 79),zk P "_unquote_match" 1903 (zr 86),zk P "header_decode" 1910 (zr 93),zk P "twin_re_1_fnmatch" 1948 (zr 98),zk P "_special_chars_map" 2096 (zr 100)]) 30,#[]⟩
noncomputable def o24x29 (P : Params) : Obj:=⟨zn,none,.fields #[zi 18 0,zi 0 0,zr 58,zi 20 0,zi 0 0,zr 65,zi 26 0,zi 0 0,zr 78,zi 56 0,zi 0 0,zr 85,zi 59 0,zi 0 0,zr 92],#[]⟩
noncomputable def o24x53 (P : Params) : Obj:=⟨Value.type "tuple",none,.seq #[] 0,#[]⟩
noncomputable def o24x54 (P : Params) : Obj:=⟨zn,none,.fields #[],#[]⟩
noncomputable def o24x55 (P : Params) : Obj:=⟨Value.type "tuple",none,.seq #[zs "s" 1864] 0,#[]⟩
noncomputable def o24x56 (P : Params) : Obj:=⟨Value.type "tuple",none,.seq #[] 0,#[]⟩
noncomputable def o24x57 (P : Params) : Obj:=⟨zn,none,.func { name:=(Str.ofString "unquote"),qualname:=(Str.ofString "unquote"),params:=punquote,body:=.stmts bunquote,scope:=sunquote,globals:=0,closure:=[],defaults:=zn,kwdefaults:=zn,doc:=zn,pyModule:=zn,annotations:=none,code:=zn,closureTuple:=zn,builtins:=0 },#[]⟩
noncomputable def o24x58 (P : Params) : Obj:=⟨Value.type "code",none,.fields #[zs "unquote" 1861,zs "unquote" 1862,zs "/claim/cut.py" 1863,zi 18 0,zi 1 0,zi 0 0,zi 0 0,zi 3 0,zr 53,Value.bool true,zi 276 0,zr 54,zn,zr 55,zr 56,zr 57,zi 1865 0,zi 18 0,zs "/claim/cut.py" 1866],#[]⟩
noncomputable def o24x59 (P : Params) : Obj:=⟨Value.type "function",none,.func { name:=(Str.ofString "unquote"),qualname:=(Str.ofString "unquote"),params:=punquote,body:=.stmts bunquote,scope:=sunquote,globals:=3,closure:=[],defaults:=zn,kwdefaults:=zn,doc:=zn,pyModule:=zs "cpy313.email.quoprimime" 1362,annotations:=none,code:=zr 58,closureTuple:=zn,builtins:=0 },#[]⟩
noncomputable def o24x60 (P : Params) : Obj:=⟨Value.type "tuple",none,.seq #[] 0,#[]⟩
noncomputable def o24x61 (P : Params) : Obj:=⟨zn,none,.fields #[],#[]⟩
noncomputable def o24x62 (P : Params) : Obj:=⟨Value.type "tuple",none,.seq #[zs "c" 1871] 0,#[]⟩
noncomputable def o24x63 (P : Params) : Obj:=⟨Value.type "tuple",none,.seq #[] 0,#[]⟩
noncomputable def o24x64 (P : Params) : Obj:=⟨zn,none,.func { name:=(Str.ofString "quote"),qualname:=(Str.ofString "quote"),params:=pquote,body:=.stmts bquote,scope:=squote,globals:=0,closure:=[],defaults:=zn,kwdefaults:=zn,doc:=zn,pyModule:=zn,annotations:=none,code:=zn,closureTuple:=zn,builtins:=0 },#[]⟩
noncomputable def o24x65 (P : Params) : Obj:=⟨Value.type "code",none,.fields #[zs "quote" 1868,zs "quote" 1869,zs "/claim/cut.py" 1870,zi 20 0,zi 1 0,zi 0 0,zi 0 0,zi 3 0,zr 60,Value.bool true,zi 276 0,zr 61,zn,zr 62,zr 63,zr 64,zi 1872 0,zi 20 0,zs "/claim/cut.py" 1873],#[]⟩
noncomputable def o24x66 (P : Params) : Obj:=⟨Value.type "function",none,.func { name:=(Str.ofString "quote"),qualname:=(Str.ofString "quote"),params:=pquote,body:=.stmts bquote,scope:=squote,globals:=3,closure:=[],defaults:=zn,kwdefaults:=zn,doc:=zn,pyModule:=zs "cpy313.email.quoprimime" 1362,annotations:=none,code:=zr 65,closureTuple:=zn,builtins:=0 },#[]⟩
noncomputable def o24x67 (P : Params) : Obj:=⟨Value.type "slice",none,.fields #[zn,zn,zn],#[]⟩
noncomputable def o24x68 (P : Params) : Obj:=⟨Value.type "list",none,.seq (mv 0 9 ++ [Value.str (Str.mk #[9]) 1860,Value.str (Str.mk #[10]) 1882] ++ mv 11 13 ++ [Value.str (Str.mk #[13]) 1879] ++ mv 14 32 ++ [zs " " 1578,zs "!" 1581,Value.str (Str.ofString "\"") 1584,zs "#" 1587,zs "$" 1590,zs "%" 1593,zs "&" 1596,zs "'" 1599,zs "(" 1602,zs ")" 1605,zs "*" 1608,zs "+" 1611,zs "," 1614,zs "-" 1617,zs "." 1620,zs "/" 1623,zs "0" 1626,zs "1" 1629,zs "2" 1632,zs "3" 1635,zs "4" 1638,zs "5" 1641,zs "6" 1644,zs "7" 1647,zs "8" 1650,zs "9" 1653,zs ":" 1656,zs ";" 1659,zs "<" 1662] ++ mv 61 62 ++ [zs ">" 1665,zs "?" 1668,zs "@" 1671,zs "A" 1674,zs "B" 1677,zs "C" 1680,zs "D" 1683,zs "E" 1686,zs "F" 1689,zs "G" 1692,zs "H" 1695,zs "I" 1698,zs "J" 1701,zs "K" 1704,zs "L" 1707,zs "M" 1710,zs "N" 1713,zs "O" 1716,zs "P" 1719,zs "Q" 1722,zs "R" 1725,zs "S" 1728,zs "T" 1731,zs "U" 1734,zs "V" 1737,zs "W" 1740,zs "X" 1743,zs "Y" 1746,zs "Z" 1749,zs "[" 1752,zs "\\" 1755,zs "]" 1758,zs "^" 1761,zs "_" 1764,zs "`" 1767,zs "a" 1770,zs "b" 1773,zs "c" 1776,zs "d" 1779,zs "e" 1782,zs "f" 1785,zs "g" 1788,zs "h" 1791,zs "i" 1794,zs "j" 1797,zs "k" 1800,zs "l" 1803,zs "m" 1806,zs "n" 1809,zs "o" 1812,zs "p" 1815,zs "q" 1818,zs "r" 1821,zs "s" 1824,zs "t" 1827,zs "u" 1830,zs "v" 1833,zs "w" 1836,zs "x" 1839,zs "y" 1842,zs "z" 1845,zs "{" 1848,zs "|" 1851,zs "}" 1854,zs "~" 1857] ++ mv 127 256).toArray 0,#[]⟩
noncomputable def o24x69 (P : Params) : Obj:=⟨Value.type "bytes_iterator",none,.fields #[zn,zi 2 0],#[]⟩
noncomputable def o24x70 (P : Params) : Obj:=⟨Value.type "tuple",none,.seq #[] 0,#[]⟩
noncomputable def o24x71 (P : Params) : Obj:=⟨Value.type "StopIteration",none,.fields #[zr 70,zn,zn,zn,Value.bool false,zn],#[]⟩
noncomputable def o24x72 (P : Params) : Obj:=⟨Value.type "tuple",none,.seq #[Value.str (Str.mk #[10]) 317] 0,#[]⟩
noncomputable def o24x73 (P : Params) : Obj:=⟨Value.type "tuple",none,.seq #[] 0,#[]⟩
noncomputable def o24x74 (P : Params) : Obj:=⟨zn,none,.fields #[],#[]⟩
noncomputable def o24x75 (P : Params) : Obj:=⟨Value.type "tuple",none,.seq #[zs "encoded" 1886,zs "eol" 1887,zs "decoded" 1888,zs "line" 1889,zs "i" 1890,zs "n" 1891,zs "c" 1892] 0,#[]⟩
noncomputable def o24x76 (P : Params) : Obj:=⟨Value.type "tuple",none,.seq #[] 0,#[]⟩
noncomputable def o24x77 (P : Params) : Obj:=⟨zn,none,.func { name:=(Str.ofString "decode"),qualname:=(Str.ofString "decode"),params:=pdecode,body:=.stmts bdecode,scope:=sdecode,globals:=0,closure:=[],defaults:=zn,kwdefaults:=zn,doc:=zn,pyModule:=zn,annotations:=none,code:=zn,closureTuple:=zn,builtins:=0 },#[]⟩
noncomputable def o24x78 (P : Params) : Obj:=⟨Value.type "code",none,.fields #[zs "decode" 1883,zs "decode" 1884,zs "/claim/cut.py" 1885,zi 26 0,zi 2 0,zi 0 0,zi 0 0,zi 3 0,zr 73,Value.bool true,zi 276 0,zr 74,zn,zr 75,zr 76,zr 77,zi 1893 0,zi 26 0,zs "/claim/cut.py" 1894],#[]⟩
noncomputable def o24x79 (P : Params) : Obj:=⟨Value.type "function",none,.func { name:=(Str.ofString "decode"),qualname:=(Str.ofString "decode"),params:=pdecode,body:=.stmts bdecode,scope:=sdecode,globals:=3,closure:=[],defaults:=zr 72,kwdefaults:=zn,doc:=zn,pyModule:=zs "cpy313.email.quoprimime" 1362,annotations:=none,code:=zr 78,closureTuple:=zn,builtins:=0 },#[]⟩
noncomputable def o24x80 (P : Params) : Obj:=⟨Value.type "tuple",none,.seq #[] 0,#[]⟩
noncomputable def o24x81 (P : Params) : Obj:=⟨zn,none,.fields #[],#[]⟩
noncomputable def o24x82 (P : Params) : Obj:=⟨Value.type "tuple",none,.seq #[zs "match" 1899,zs "s" 1900] 0,#[]⟩
noncomputable def o24x83 (P : Params) : Obj:=⟨Value.type "tuple",none,.seq #[] 0,#[]⟩
noncomputable def o24x84 (P : Params) : Obj:=⟨zn,none,.func { name:=(Str.ofString "_unquote_match"),qualname:=(Str.ofString "_unquote_match"),params:=puunquoteumatch,body:=.stmts buunquoteumatch,scope:=suunquoteumatch,globals:=0,closure:=[],defaults:=zn,kwdefaults:=zn,doc:=zn,pyModule:=zn,annotations:=none,code:=zn,closureTuple:=zn,builtins:=0 },#[]⟩
noncomputable def o24x85 (P : Params) : Obj:=⟨Value.type "code",none,.fields #[zs "_unquote_match" 1896,zs "_unquote_match" 1897,zs "/claim/cut.py" 1898,zi 56 0,zi 1 0,zi 0 0,zi 0 0,zi 3 0,zr 80,Value.bool true,zi 276 0,zr 81,zn,zr 82,zr 83,zr 84,zi 1901 0,zi 56 0,zs "/claim/cut.py" 1902],#[]⟩
noncomputable def o24x86 (P : Params) : Obj:=⟨Value.type "function",none,.func { name:=(Str.ofString "_unquote_match"),qualname:=(Str.ofString "_unquote_match"),params:=puunquoteumatch,body:=.stmts buunquoteumatch,scope:=suunquoteumatch,globals:=3,closure:=[],defaults:=zn,kwdefaults:=zn,doc:=zn,pyModule:=zs "cpy313.email.quoprimime" 1362,annotations:=none,code:=zr 85,closureTuple:=zn,builtins:=0 },#[]⟩
noncomputable def o24x87 (P : Params) : Obj:=⟨Value.type "tuple",none,.seq #[] 0,#[]⟩
noncomputable def o24x88 (P : Params) : Obj:=⟨zn,none,.fields #[],#[]⟩
noncomputable def o24x89 (P : Params) : Obj:=⟨Value.type "tuple",none,.seq #[zs "s" 1907] 0,#[]⟩
noncomputable def o24x90 (P : Params) : Obj:=⟨Value.type "tuple",none,.seq #[] 0,#[]⟩
noncomputable def o24x91 (P : Params) : Obj:=⟨zn,none,.func { name:=(Str.ofString "header_decode"),qualname:=(Str.ofString "header_decode"),params:=pheaderudecode,body:=.stmts bheaderudecode,scope:=sheaderudecode,globals:=0,closure:=[],defaults:=zn,kwdefaults:=zn,doc:=zn,pyModule:=zn,annotations:=none,code:=zn,closureTuple:=zn,builtins:=0 },#[]⟩
noncomputable def o24x92 (P : Params) : Obj:=⟨Value.type "code",none,.fields #[zs "header_decode" 1904,zs "header_decode" 1905,zs "/claim/cut.py" 1906,zi 59 0,zi 1 0,zi 0 0,zi 0 0,zi 3 0,zr 87,Value.bool true,zi 276 0,zr 88,zn,zr 89,zr 90,zr 91,zi 1908 0,zi 59 0,zs "/claim/cut.py" 1909],#[]⟩
noncomputable def o24x93 (P : Params) : Obj:=⟨Value.type "function",none,.func { name:=(Str.ofString "header_decode"),qualname:=(Str.ofString "header_decode"),params:=pheaderudecode,body:=.stmts bheaderudecode,scope:=sheaderudecode,globals:=3,closure:=[],defaults:=zn,kwdefaults:=zn,doc:=zn,pyModule:=zs "cpy313.email.quoprimime" 1362,annotations:=none,code:=zr 92,closureTuple:=zn,builtins:=0 },#[]⟩
noncomputable def o24x94 (P : Params) : Obj:=⟨Value.type "list",none,.seq #[zi 14 1914,zi 14 1915,zi 4 1916,zi 1 1917,zi 1 1918,zi 9 1919,zi 0 1920,zi 64 1921,zi 0 1922,zi 1342177280 1923,zi 0 1924,zi 0 1925,zi 0 1926,zi 0 1927,zi 0 1928,zi 17 1929,zi 0 1930,zi 13 1931,zi 11 1932,zi 9 1933,zi 0 1934,zi 64 1935,zi 0 1936,zi 1342177280 1937,zi 0 1938,zi 0 1939,zi 0 1940,zi 0 1941,zi 0 1942,zi 17 1943,zi 1 1944,zi 1 1945] 0,#[]⟩
noncomputable def o24x95 (P : Params) : Obj:=⟨Value.type "dict",none,.dict (Array.mk []) 0,#[]⟩
noncomputable def o24x96 (P : Params) : Obj:=⟨Value.type "tuple",none,.seq #[zn,zn] 0,#[]⟩
noncomputable def o24x97 (P : Params) : Obj:=⟨Value.type "tuple",none,.seq #[zi 14 0,zi 14 0,zi 4 0,zi 1 0,zi 1 0,zi 9 0,zi 0 0,zi 64 0,zi 0 0,zi 1342177280 0,zi 0 0,zi 0 0,zi 0 0,zi 0 0,zi 0 0,zi 17 0,zi 0 0,zi 13 0,zi 11 0,zi 9 0,zi 0 0,zi 64 0,zi 0 0,zi 1342177280 0,zi 0 0,zi 0 0,zi 0 0,zi 0 0,zi 0 0,zi 17 0,zi 1 0,zi 1 0] 0,#[]⟩
noncomputable def o24x98 (P : Params) : Obj:=⟨Value.type "re.Pattern",none,.fields #[zs "([&~|])" 1912,zi 32 1947,zi 1 0,zn,zn,zr 97,zi 0 0],#[]⟩
noncomputable def o24x99 (P : Params) : Obj:=⟨Value.type "bytes_iterator",none,.fields #[zn,zi 24 0],#[]⟩
noncomputable def o24x100 (P : Params) : Obj:=⟨Value.type "dict",none,.dict (Array.mk [⟨40,zi 40 1952,zs "\\(" 1956⟩,⟨41,zi 41 1958,zs "\\)" 1962⟩,⟨91,zi 91 1964,zs "\\[" 1968⟩,⟨93,zi 93 1970,zs "\\]" 1974⟩,⟨123,zi 123 1976,zs "\\{" 1980⟩,⟨125,zi 125 1982,zs "\\}" 1986⟩,⟨63,zi 63 1988,zs "\\?" 1992⟩,⟨42,zi 42 1994,zs "\\*" 1998⟩,⟨43,zi 43 2000,zs "\\+" 2004⟩,⟨45,zi 45 2006,zs "\\-" 2010⟩,⟨124,zi 124 2012,zs "\\|" 2016⟩,⟨94,zi 94 2018,zs "\\^" 2022⟩,⟨36,zi 36 2024,zs "\\$" 2028⟩,⟨92,zi 92 2030,zs "\\\\" 2034⟩,⟨46,zi 46 2036,zs "\\." 2040⟩,⟨38,zi 38 2042,zs "\\&" 2046⟩,⟨126,zi 126 2048,zs "\\~" 2052⟩,⟨35,zi 35 2054,zs "\\#" 2058⟩,⟨32,zi 32 2060,zs "\\ " 2064⟩,⟨9,zi 9 2066,Value.str (Str.mk #[92,9]) 2070⟩,⟨10,zi 10 2072,Value.str (Str.mk #[92,10]) 2076⟩,⟨13,zi 13 2078,Value.str (Str.mk #[92,13]) 2082⟩,⟨11,zi 11 2084,Value.str (Str.mk #[92,11]) 2088⟩,⟨12,zi 12 2090,Value.str (Str.mk #[92,12]) 2094⟩]) 24,#[]⟩
noncomputable def o24x101 (P : Params) : Obj:=⟨Value.type "dict",none,.dict (Array.mk []) 2,#[]⟩
noncomputable def o24x102 (P : Params) : Obj:=⟨Value.type "tuple",none,.seq #[] 0,#[]⟩
noncomputable def o24x103 (P : Params) : Obj:=⟨Value.type "StopIteration",none,.fields #[zr 102,zn,zn,zn,Value.bool false,zn],#[]⟩
noncomputable def t24 (P : Params) : BT:=.node (boot_o_0 P) (.node (oSx1 P) (.node (o24x3 P) (.node (boot_o_7 P) (.node (oSx15 P) (.node (oAx31 P) (.node (o24x63 P) (.nil) (.nil)) (.node (o24x95 P) (.nil) (.nil))) (.node (o11x47 P) (.node (o24x79 P) (.nil) (.nil)) (.nil))) (.node (oSx23 P) (.node (o2x39 P) (.node (o24x71 P) (.nil) (.nil)) (.node (o24x103 P) (.nil) (.nil))) (.node (o24x55 P) (.node (o24x87 P) (.nil) (.nil)) (.nil)))) (.node (oSx11 P) (.node (oSx19 P) (.node (o2x35 P) (.node (o24x67 P) (.nil) (.nil)) (.node (o24x99 P) (.nil) (.nil))) (.node (o13x51 P) (.node (o24x83 P) (.nil) (.nil)) (.nil))) (.node (oSx27 P) (.node (o11x43 P) (.node (o24x75 P) (.nil) (.nil)) (.nil)) (.node (o24x59 P) (.node (o24x91 P) (.nil) (.nil)) (.nil))))) (.node (boot_o_5 P) (.node (boot_o_9 P) (.node (oSx17 P) (.node (o2x33 P) (.node (o24x65 P) (.nil) (.nil)) (.node (o24x97 P) (.nil) (.nil))) (.node (o11x49 P) (.node (o24x81 P) (.nil) (.nil)) (.nil))) (.node (oSx25 P) (.node (o2x41 P) (.node (o24x73 P) (.nil) (.nil)) (.nil)) (.node (o24x57 P) (.node (o24x89 P) (.nil) (.nil)) (.nil)))) (.node (oSx13 P) (.node (oSx21 P) (.node (o2x37 P) (.node (o24x69 P) (.nil) (.nil)) (.node (o24x101 P) (.nil) (.nil))) (.node (o24x53 P) (.node (o24x85 P) (.nil) (.nil)) (.nil))) (.node (o24x29 P) (.node (o11x45 P) (.node (o24x77 P) (.nil) (.nil)) (.nil)) (.node (o24x61 P) (.node (o24x93 P) (.nil) (.nil)) (.nil)))))) (.node (oSx2 P) (.node (boot_o_4 P) (.node (boot_o_8 P) (.node (oSx16 P) (.node (o2x32 P) (.node (o24x64 P) (.nil) (.nil)) (.node (o24x96 P) (.nil) (.nil))) (.node (o11x48 P) (.node (o24x80 P) (.nil) (.nil)) (.nil))) (.node (oSx24 P) (.node (o2x40 P) (.node (o24x72 P) (.nil) (.nil)) (.nil)) (.node (o24x56 P) (.node (o24x88 P) (.nil) (.nil)) (.nil)))) (.node (oSx12 P) (.node (oSx20 P) (.node (o2x36 P) (.node (o24x68 P) (.nil) (.nil)) (.node (o24x100 P) (.nil) (.nil))) (.node (o13x52 P) (.node (o24x84 P) (.nil) (.nil)) (.nil))) (.node (oAx28 P) (.node (o13x44 P) (.node (o24x76 P) (.nil) (.nil)) (.nil)) (.node (o24x60 P) (.node (o24x92 P) (.nil) (.nil)) (.nil))))) (.node (boot_o_6 P) (.node (boot_o_10 P) (.node (oSx18 P) (.node (o2x34 P) (.node (o24x66 P) (.nil) (.nil)) (.node (o24x98 P) (.nil) (.nil))) (.node (o13x50 P) (.node (o24x82 P) (.nil) (.nil)) (.nil))) (.node (oSx26 P) (.node (o2x42 P) (.node (o24x74 P) (.nil) (.nil)) (.nil)) (.node (o24x58 P) (.node (o24x90 P) (.nil) (.nil)) (.nil)))) (.node (oSx14 P) (.node (oSx22 P) (.node (o2x38 P) (.node (o24x70 P) (.nil) (.nil)) (.node (o24x102 P) (.nil) (.nil))) (.node (o24x54 P) (.node (o24x86 P) (.nil) (.nil)) (.nil))) (.node (oAx30 P) (.node (o13x46 P) (.node (o24x78 P) (.nil) (.nil)) (.nil)) (.node (o24x62 P) (.node (o24x94 P) (.nil) (.nil)) (.nil))))))
noncomputable def o40x3 (P : Params) : Obj:=⟨Value.type "dict",none,.dict (Array.mk [zk P "__name__" 165 (zs "law_ik0162_01" 2178),zk P "__doc__" 166 zn,zk P "__package__" 167 zn,zk P "__loader__" 168 (zb "__main__.__loader__#opaque"),zk P "__spec__" 169 zn,zk P "__annotations__" 170 (zr 6),zk P "__builtins__" 171 (zr 4),zk P "__file__" 173 (zs "/claim/cut.py" 172),zk P "__cached__" 174 zn,zk P "_sre" 275 (zr 12),zk P "twin_re_1_quoprimime" 316 (zr 36),zk P "NL" 318 (Value.str (Str.mk #[10]) 317),zk P "_QUOPRI_MAP" 1346 (zr 39),zk P "_QUOPRI_HEADER_MAP" 1347 (zr 44),zk P "_QUOPRI_BODY_MAP" 1348 (zr 46),zk P "ascii_lowercase" 1350 (zs "abcdefghijklmnopqrstuvwxyz" 1349),zk P "ascii_uppercase" 1352 (zs "ABCDEFGHIJKLMNOPQRSTUVWXYZ" 1351),zk P "ascii_letters" 1354 (zs "abcdefghijklmnopqrstuvwxyzABCDEFGHIJKLMNOPQRSTUVWXYZ" 1353),zk P "digits" 1356 (zs "0123456789" 1355),zk P "hexdigits" 1361 (zs "0123456789abcdefABCDEF" 1360),zk P "unquote" 1867 (zr 59),zk P "quote" 1874 (zr 66),zk P "_QUOPRI_BODY_ENCODE_MAP" 1875 (zr 68),zk P "decode" 1895 (zr 79),zk P "_unquote_match" 1903 (zr 86),zk P "header_decode" 1910 (zr 93),zk P "twin_re_1_fnmatch" 1948 (zr 98),zk P "_special_chars_map" 2096 (zr 100),zk P "escape" 2103 (zr 110),zk P "_translate" 2124 (zr 117),zk P "heappush" 2134 (zr 124),zk P "heappop" 2143 (zr 131),zk P "heapreplace" 2152 (zr 138),zk P "_siftdown" 2164 (zr 145),zk P "_siftup" 2177 (zr 152),zk P "_law_stretches" 2188 (zr 159),zk P "_law_fences" 2202 (zr 166),zk P "_law_patterns" 2213 (zr 173),zk P "_law_figures" 2219 (zr 178),zk P "_law_taken" 2225 (zr 183),zk P "law" 2231 (zr 188)]) 43,#[]⟩
noncomputable def o40x29 (P : Params) : Obj:=⟨zn,none,.fields #[zi 18 0,zi 0 0,zr 58,zi 20 0,zi 0 0,zr 65,zi 26 0,zi 0 0,zr 78,zi 56 0,zi 0 0,zr 85,zi 59 0,zi 0 0,zr 92,zi 65 0,zi 0 0,zr 109,zi 72 0,zi 0 0,zr 116,zi 135 0,zi 0 0,zr 123,zi 138 0,zi 0 0,zr 130,zi 146 0,zi 0 0,zr 137,zi 151 0,zi 0 0,zr 144,zi 162 0,zi 0 0,zr 151,zi 177 0,zi 0 0,zr 158,zi 182 0,zi 0 0,zr 165,zi 197 0,zi 0 0,zr 172,zi 207 0,zi 0 0,zr 177,zi 211 0,zi 0 0,zr 182,zi 216 0,zi 0 0,zr 187],#[]⟩
noncomputable def o40x104 (P : Params) : Obj:=⟨Value.type "tuple",none,.seq #[] 0,#[]⟩
noncomputable def o40x105 (P : Params) : Obj:=⟨zn,none,.fields #[],#[]⟩
noncomputable def o40x106 (P : Params) : Obj:=⟨Value.type "tuple",none,.seq #[zs "pattern" 2100] 0,#[]⟩
noncomputable def o40x107 (P : Params) : Obj:=⟨Value.type "tuple",none,.seq #[] 0,#[]⟩
noncomputable def o40x108 (P : Params) : Obj:=⟨zn,none,.func { name:=(Str.ofString "escape"),qualname:=(Str.ofString "escape"),params:=pescape,body:=.stmts bescape,scope:=sescape,globals:=0,closure:=[],defaults:=zn,kwdefaults:=zn,doc:=zn,pyModule:=zn,annotations:=none,code:=zn,closureTuple:=zn,builtins:=0 },#[]⟩
noncomputable def o40x109 (P : Params) : Obj:=⟨Value.type "code",none,.fields #[zs "escape" 2097,zs "escape" 2098,zs "/claim/cut.py" 2099,zi 65 0,zi 1 0,zi 0 0,zi 0 0,zi 3 0,zr 104,Value.bool true,zi 276 0,zr 105,zn,zr 106,zr 107,zr 108,zi 2101 0,zi 65 0,zs "/claim/cut.py" 2102],#[]⟩
noncomputable def o40x110 (P : Params) : Obj:=⟨Value.type "function",none,.func { name:=(Str.ofString "escape"),qualname:=(Str.ofString "escape"),params:=pescape,body:=.stmts bescape,scope:=sescape,globals:=3,closure:=[],defaults:=zn,kwdefaults:=zn,doc:=zn,pyModule:=zs "re" 1949,annotations:=none,code:=zr 109,closureTuple:=zn,builtins:=0 },#[]⟩
noncomputable def o40x111 (P : Params) : Obj:=⟨Value.type "tuple",none,.seq #[] 0,#[]⟩
noncomputable def o40x112 (P : Params) : Obj:=⟨zn,none,.fields #[],#[]⟩
noncomputable def o40x113 (P : Params) : Obj:=⟨Value.type "tuple",none,.seq #[zs "pat" 2109,zs "STAR" 2110,zs "QUESTION_MARK" 2111,zs "res" 2112,zs "add" 2113,zs "i" 2114,zs "n" 2115,zs "c" 2116,zs "j" 2117,zs "stuff" 2118,zs "chunks" 2119,zs "k" 2120,zs "chunk" 2121] 0,#[]⟩
noncomputable def o40x114 (P : Params) : Obj:=⟨Value.type "tuple",none,.seq #[] 0,#[]⟩
noncomputable def o40x115 (P : Params) : Obj:=⟨zn,none,.func { name:=(Str.ofString "_translate"),qualname:=(Str.ofString "_translate"),params:=putranslate,body:=.stmts butranslate,scope:=sutranslate,globals:=0,closure:=[],defaults:=zn,kwdefaults:=zn,doc:=zn,pyModule:=zn,annotations:=none,code:=zn,closureTuple:=zn,builtins:=0 },#[]⟩
noncomputable def o40x116 (P : Params) : Obj:=⟨Value.type "code",none,.fields #[zs "_translate" 2106,zs "_translate" 2107,zs "/claim/cut.py" 2108,zi 72 0,zi 3 0,zi 0 0,zi 0 0,zi 3 0,zr 111,Value.bool true,zi 276 0,zr 112,zn,zr 113,zr 114,zr 115,zi 2122 0,zi 72 0,zs "/claim/cut.py" 2123],#[]⟩
noncomputable def o40x117 (P : Params) : Obj:=⟨Value.type "function",none,.func { name:=(Str.ofString "_translate"),qualname:=(Str.ofString "_translate"),params:=putranslate,body:=.stmts butranslate,scope:=sutranslate,globals:=3,closure:=[],defaults:=zn,kwdefaults:=zn,doc:=zn,pyModule:=zs "cpy313.fnmatch" 2104,annotations:=none,code:=zr 116,closureTuple:=zn,builtins:=0 },#[]⟩
noncomputable def o40x118 (P : Params) : Obj:=⟨Value.type "tuple",none,.seq #[] 0,#[]⟩
noncomputable def o40x119 (P : Params) : Obj:=⟨zn,none,.fields #[],#[]⟩
noncomputable def o40x120 (P : Params) : Obj:=⟨Value.type "tuple",none,.seq #[zs "heap" 2130,zs "item" 2131] 0,#[]⟩
noncomputable def o40x121 (P : Params) : Obj:=⟨Value.type "tuple",none,.seq #[] 0,#[]⟩
noncomputable def o40x122 (P : Params) : Obj:=⟨zn,none,.func { name:=(Str.ofString "heappush"),qualname:=(Str.ofString "heappush"),params:=pheappush,body:=.stmts bheappush,scope:=sheappush,globals:=0,closure:=[],defaults:=zn,kwdefaults:=zn,doc:=zn,pyModule:=zn,annotations:=none,code:=zn,closureTuple:=zn,builtins:=0 },#[]⟩
noncomputable def o40x123 (P : Params) : Obj:=⟨Value.type "code",none,.fields #[zs "heappush" 2127,zs "heappush" 2128,zs "/claim/cut.py" 2129,zi 135 0,zi 2 0,zi 0 0,zi 0 0,zi 3 0,zr 118,Value.bool true,zi 276 0,zr 119,zn,zr 120,zr 121,zr 122,zi 2132 0,zi 135 0,zs "/claim/cut.py" 2133],#[]⟩
noncomputable def o40x124 (P : Params) : Obj:=⟨Value.type "function",none,.func { name:=(Str.ofString "heappush"),qualname:=(Str.ofString "heappush"),params:=pheappush,body:=.stmts bheappush,scope:=sheappush,globals:=3,closure:=[],defaults:=zn,kwdefaults:=zn,doc:=zn,pyModule:=zs "cpy313.heapq" 2125,annotations:=none,code:=zr 123,closureTuple:=zn,builtins:=0 },#[]⟩
noncomputable def o40x125 (P : Params) : Obj:=⟨Value.type "tuple",none,.seq #[] 0,#[]⟩
noncomputable def o40x126 (P : Params) : Obj:=⟨zn,none,.fields #[],#[]⟩
noncomputable def o40x127 (P : Params) : Obj:=⟨Value.type "tuple",none,.seq #[zs "heap" 2138,zs "lastelt" 2139,zs "returnitem" 2140] 0,#[]⟩
noncomputable def o40x128 (P : Params) : Obj:=⟨Value.type "tuple",none,.seq #[] 0,#[]⟩
noncomputable def o40x129 (P : Params) : Obj:=⟨zn,none,.func { name:=(Str.ofString "heappop"),qualname:=(Str.ofString "heappop"),params:=pheappop,body:=.stmts bheappop,scope:=sheappop,globals:=0,closure:=[],defaults:=zn,kwdefaults:=zn,doc:=zn,pyModule:=zn,annotations:=none,code:=zn,closureTuple:=zn,builtins:=0 },#[]⟩
noncomputable def o40x130 (P : Params) : Obj:=⟨Value.type "code",none,.fields #[zs "heappop" 2135,zs "heappop" 2136,zs "/claim/cut.py" 2137,zi 138 0,zi 1 0,zi 0 0,zi 0 0,zi 3 0,zr 125,Value.bool true,zi 276 0,zr 126,zn,zr 127,zr 128,zr 129,zi 2141 0,zi 138 0,zs "/claim/cut.py" 2142],#[]⟩
noncomputable def o40x131 (P : Params) : Obj:=⟨Value.type "function",none,.func { name:=(Str.ofString "heappop"),qualname:=(Str.ofString "heappop"),params:=pheappop,body:=.stmts bheappop,scope:=sheappop,globals:=3,closure:=[],defaults:=zn,kwdefaults:=zn,doc:=zn,pyModule:=zs "cpy313.heapq" 2125,annotations:=none,code:=zr 130,closureTuple:=zn,builtins:=0 },#[]⟩
noncomputable def o40x132 (P : Params) : Obj:=⟨Value.type "tuple",none,.seq #[] 0,#[]⟩
noncomputable def o40x133 (P : Params) : Obj:=⟨zn,none,.fields #[],#[]⟩
noncomputable def o40x134 (P : Params) : Obj:=⟨Value.type "tuple",none,.seq #[zs "heap" 2147,zs "item" 2148,zs "returnitem" 2149] 0,#[]⟩
noncomputable def o40x135 (P : Params) : Obj:=⟨Value.type "tuple",none,.seq #[] 0,#[]⟩
noncomputable def o40x136 (P : Params) : Obj:=⟨zn,none,.func { name:=(Str.ofString "heapreplace"),qualname:=(Str.ofString "heapreplace"),params:=pheapreplace,body:=.stmts bheapreplace,scope:=sheapreplace,globals:=0,closure:=[],defaults:=zn,kwdefaults:=zn,doc:=zn,pyModule:=zn,annotations:=none,code:=zn,closureTuple:=zn,builtins:=0 },#[]⟩
noncomputable def o40x137 (P : Params) : Obj:=⟨Value.type "code",none,.fields #[zs "heapreplace" 2144,zs "heapreplace" 2145,zs "/claim/cut.py" 2146,zi 146 0,zi 2 0,zi 0 0,zi 0 0,zi 3 0,zr 132,Value.bool true,zi 276 0,zr 133,zn,zr 134,zr 135,zr 136,zi 2150 0,zi 146 0,zs "/claim/cut.py" 2151],#[]⟩
noncomputable def o40x138 (P : Params) : Obj:=⟨Value.type "function",none,.func { name:=(Str.ofString "heapreplace"),qualname:=(Str.ofString "heapreplace"),params:=pheapreplace,body:=.stmts bheapreplace,scope:=sheapreplace,globals:=3,closure:=[],defaults:=zn,kwdefaults:=zn,doc:=zn,pyModule:=zs "cpy313.heapq" 2125,annotations:=none,code:=zr 137,closureTuple:=zn,builtins:=0 },#[]⟩
noncomputable def o40x139 (P : Params) : Obj:=⟨Value.type "tuple",none,.seq #[] 0,#[]⟩
noncomputable def o40x140 (P : Params) : Obj:=⟨zn,none,.fields #[],#[]⟩
noncomputable def o40x141 (P : Params) : Obj:=⟨Value.type "tuple",none,.seq #[zs "heap" 2156,zs "startpos" 2157,zs "pos" 2158,zs "newitem" 2159,zs "parentpos" 2160,zs "parent" 2161] 0,#[]⟩
noncomputable def o40x142 (P : Params) : Obj:=⟨Value.type "tuple",none,.seq #[] 0,#[]⟩
noncomputable def o40x143 (P : Params) : Obj:=⟨zn,none,.func { name:=(Str.ofString "_siftdown"),qualname:=(Str.ofString "_siftdown"),params:=pusiftdown,body:=.stmts busiftdown,scope:=susiftdown,globals:=0,closure:=[],defaults:=zn,kwdefaults:=zn,doc:=zn,pyModule:=zn,annotations:=none,code:=zn,closureTuple:=zn,builtins:=0 },#[]⟩
noncomputable def o40x144 (P : Params) : Obj:=⟨Value.type "code",none,.fields #[zs "_siftdown" 2153,zs "_siftdown" 2154,zs "/claim/cut.py" 2155,zi 151 0,zi 3 0,zi 0 0,zi 0 0,zi 3 0,zr 139,Value.bool true,zi 276 0,zr 140,zn,zr 141,zr 142,zr 143,zi 2162 0,zi 151 0,zs "/claim/cut.py" 2163],#[]⟩
noncomputable def o40x145 (P : Params) : Obj:=⟨Value.type "function",none,.func { name:=(Str.ofString "_siftdown"),qualname:=(Str.ofString "_siftdown"),params:=pusiftdown,body:=.stmts busiftdown,scope:=susiftdown,globals:=3,closure:=[],defaults:=zn,kwdefaults:=zn,doc:=zn,pyModule:=zs "cpy313.heapq" 2125,annotations:=none,code:=zr 144,closureTuple:=zn,builtins:=0 },#[]⟩
noncomputable def o40x146 (P : Params) : Obj:=⟨Value.type "tuple",none,.seq #[] 0,#[]⟩
noncomputable def o40x147 (P : Params) : Obj:=⟨zn,none,.fields #[],#[]⟩
noncomputable def o40x148 (P : Params) : Obj:=⟨Value.type "tuple",none,.seq #[zs "heap" 2168,zs "pos" 2169,zs "endpos" 2170,zs "startpos" 2171,zs "newitem" 2172,zs "childpos" 2173,zs "rightpos" 2174] 0,#[]⟩
noncomputable def o40x149 (P : Params) : Obj:=⟨Value.type "tuple",none,.seq #[] 0,#[]⟩
noncomputable def o40x150 (P : Params) : Obj:=⟨zn,none,.func { name:=(Str.ofString "_siftup"),qualname:=(Str.ofString "_siftup"),params:=pusiftup,body:=.stmts busiftup,scope:=susiftup,globals:=0,closure:=[],defaults:=zn,kwdefaults:=zn,doc:=zn,pyModule:=zn,annotations:=none,code:=zn,closureTuple:=zn,builtins:=0 },#[]⟩
noncomputable def o40x151 (P : Params) : Obj:=⟨Value.type "code",none,.fields #[zs "_siftup" 2165,zs "_siftup" 2166,zs "/claim/cut.py" 2167,zi 162 0,zi 2 0,zi 0 0,zi 0 0,zi 3 0,zr 146,Value.bool true,zi 276 0,zr 147,zn,zr 148,zr 149,zr 150,zi 2175 0,zi 162 0,zs "/claim/cut.py" 2176],#[]⟩
noncomputable def o40x152 (P : Params) : Obj:=⟨Value.type "function",none,.func { name:=(Str.ofString "_siftup"),qualname:=(Str.ofString "_siftup"),params:=pusiftup,body:=.stmts busiftup,scope:=susiftup,globals:=3,closure:=[],defaults:=zn,kwdefaults:=zn,doc:=zn,pyModule:=zs "cpy313.heapq" 2125,annotations:=none,code:=zr 151,closureTuple:=zn,builtins:=0 },#[]⟩
noncomputable def o40x153 (P : Params) : Obj:=⟨Value.type "tuple",none,.seq #[] 0,#[]⟩
noncomputable def o40x154 (P : Params) : Obj:=⟨zn,none,.fields #[],#[]⟩
noncomputable def o40x155 (P : Params) : Obj:=⟨Value.type "tuple",none,.seq #[zs "script" 2183,zs "rows" 2184,zs "x" 2185] 0,#[]⟩
noncomputable def o40x156 (P : Params) : Obj:=⟨Value.type "tuple",none,.seq #[] 0,#[]⟩
noncomputable def o40x157 (P : Params) : Obj:=⟨zn,none,.func { name:=(Str.ofString "_law_stretches"),qualname:=(Str.ofString "_law_stretches"),params:=pulawustretches,body:=.stmts bulawustretches,scope:=sulawustretches,globals:=0,closure:=[],defaults:=zn,kwdefaults:=zn,doc:=zn,pyModule:=zn,annotations:=none,code:=zn,closureTuple:=zn,builtins:=0 },#[]⟩
noncomputable def o40x158 (P : Params) : Obj:=⟨Value.type "code",none,.fields #[zs "_law_stretches" 2180,zs "_law_stretches" 2181,zs "/claim/cut.py" 2182,zi 177 0,zi 1 0,zi 0 0,zi 0 0,zi 3 0,zr 153,Value.bool true,zi 276 0,zr 154,zn,zr 155,zr 156,zr 157,zi 2186 0,zi 177 0,zs "/claim/cut.py" 2187],#[]⟩
noncomputable def o40x159 (P : Params) : Obj:=⟨Value.type "function",none,.func { name:=(Str.ofString "_law_stretches"),qualname:=(Str.ofString "_law_stretches"),params:=pulawustretches,body:=.stmts bulawustretches,scope:=sulawustretches,globals:=3,closure:=[],defaults:=zn,kwdefaults:=zn,doc:=zn,pyModule:=zs "law_ik0162_01" 2178,annotations:=none,code:=zr 158,closureTuple:=zn,builtins:=0 },#[]⟩
noncomputable def o40x160 (P : Params) : Obj:=⟨Value.type "tuple",none,.seq #[] 0,#[]⟩
noncomputable def o40x161 (P : Params) : Obj:=⟨zn,none,.fields #[],#[]⟩
noncomputable def o40x162 (P : Params) : Obj:=⟨Value.type "tuple",none,.seq #[zs "stretches" 2192,zs "heap" 2193,zs "stretch" 2194,zs "fences" 2195,zs "first" 2196,zs "last" 2197,zs "beside" 2198,zs "handed" 2199] 0,#[]⟩
noncomputable def o40x163 (P : Params) : Obj:=⟨Value.type "tuple",none,.seq #[] 0,#[]⟩
noncomputable def o40x164 (P : Params) : Obj:=⟨zn,none,.func { name:=(Str.ofString "_law_fences"),qualname:=(Str.ofString "_law_fences"),params:=pulawufences,body:=.stmts bulawufences,scope:=sulawufences,globals:=0,closure:=[],defaults:=zn,kwdefaults:=zn,doc:=zn,pyModule:=zn,annotations:=none,code:=zn,closureTuple:=zn,builtins:=0 },#[]⟩
noncomputable def o40x165 (P : Params) : Obj:=⟨Value.type "code",none,.fields #[zs "_law_fences" 2189,zs "_law_fences" 2190,zs "/claim/cut.py" 2191,zi 182 0,zi 1 0,zi 0 0,zi 0 0,zi 3 0,zr 160,Value.bool true,zi 276 0,zr 161,zn,zr 162,zr 163,zr 164,zi 2200 0,zi 182 0,zs "/claim/cut.py" 2201],#[]⟩
noncomputable def o40x166 (P : Params) : Obj:=⟨Value.type "function",none,.func { name:=(Str.ofString "_law_fences"),qualname:=(Str.ofString "_law_fences"),params:=pulawufences,body:=.stmts bulawufences,scope:=sulawufences,globals:=3,closure:=[],defaults:=zn,kwdefaults:=zn,doc:=zn,pyModule:=zs "law_ik0162_01" 2178,annotations:=none,code:=zr 165,closureTuple:=zn,builtins:=0 },#[]⟩
noncomputable def o40x167 (P : Params) : Obj:=⟨Value.type "tuple",none,.seq #[] 0,#[]⟩
noncomputable def o40x168 (P : Params) : Obj:=⟨zn,none,.fields #[],#[]⟩
noncomputable def o40x169 (P : Params) : Obj:=⟨Value.type "tuple",none,.seq #[zs "first" 2206,zs "last" 2207,zs "a" 2208,zs "b" 2209,zs "rows" 2210] 0,#[]⟩
noncomputable def o40x170 (P : Params) : Obj:=⟨Value.type "tuple",none,.seq #[] 0,#[]⟩
noncomputable def o40x171 (P : Params) : Obj:=⟨zn,none,.func { name:=(Str.ofString "_law_patterns"),qualname:=(Str.ofString "_law_patterns"),params:=pulawupatterns,body:=.stmts bulawupatterns,scope:=sulawupatterns,globals:=0,closure:=[],defaults:=zn,kwdefaults:=zn,doc:=zn,pyModule:=zn,annotations:=none,code:=zn,closureTuple:=zn,builtins:=0 },#[]⟩
noncomputable def o40x172 (P : Params) : Obj:=⟨Value.type "code",none,.fields #[zs "_law_patterns" 2203,zs "_law_patterns" 2204,zs "/claim/cut.py" 2205,zi 197 0,zi 2 0,zi 0 0,zi 0 0,zi 3 0,zr 167,Value.bool true,zi 276 0,zr 168,zn,zr 169,zr 170,zr 171,zi 2211 0,zi 197 0,zs "/claim/cut.py" 2212],#[]⟩
noncomputable def o40x173 (P : Params) : Obj:=⟨Value.type "function",none,.func { name:=(Str.ofString "_law_patterns"),qualname:=(Str.ofString "_law_patterns"),params:=pulawupatterns,body:=.stmts bulawupatterns,scope:=sulawupatterns,globals:=3,closure:=[],defaults:=zn,kwdefaults:=zn,doc:=zn,pyModule:=zs "law_ik0162_01" 2178,annotations:=none,code:=zr 172,closureTuple:=zn,builtins:=0 },#[]⟩
noncomputable def o40x174 (P : Params) : Obj:=⟨Value.type "tuple",none,.seq #[] 0,#[]⟩
noncomputable def o40x175 (P : Params) : Obj:=⟨zn,none,.fields #[],#[]⟩
noncomputable def o40x176 (P : Params) : Obj:=⟨zn,none,.func { name:=(Str.ofString "_law_figures"),qualname:=(Str.ofString "_law_figures"),params:=pulawufigures,body:=.stmts bulawufigures,scope:=sulawufigures,globals:=0,closure:=[],defaults:=zn,kwdefaults:=zn,doc:=zn,pyModule:=zn,annotations:=none,code:=zn,closureTuple:=zn,builtins:=0 },#[]⟩
noncomputable def o40x177 (P : Params) : Obj:=⟨Value.type "code",none,.fields #[zs "_law_figures" 2214,zs "_law_figures" 2215,zs "/claim/cut.py" 2216,zi 207 0,zi 1 0,zi 0 0,zi 0 0,zi 3 0,zr 174,Value.bool true,zi 276 0,zr 175,zn,zn,zn,zr 176,zi 2217 0,zi 207 0,zs "/claim/cut.py" 2218],#[]⟩
noncomputable def o40x178 (P : Params) : Obj:=⟨Value.type "function",none,.func { name:=(Str.ofString "_law_figures"),qualname:=(Str.ofString "_law_figures"),params:=pulawufigures,body:=.stmts bulawufigures,scope:=sulawufigures,globals:=3,closure:=[],defaults:=zn,kwdefaults:=zn,doc:=zn,pyModule:=zs "law_ik0162_01" 2178,annotations:=none,code:=zr 177,closureTuple:=zn,builtins:=0 },#[]⟩
noncomputable def o40x179 (P : Params) : Obj:=⟨Value.type "tuple",none,.seq #[] 0,#[]⟩
noncomputable def o40x180 (P : Params) : Obj:=⟨zn,none,.fields #[],#[]⟩
noncomputable def o40x181 (P : Params) : Obj:=⟨zn,none,.func { name:=(Str.ofString "_law_taken"),qualname:=(Str.ofString "_law_taken"),params:=pulawutaken,body:=.stmts bulawutaken,scope:=sulawutaken,globals:=0,closure:=[],defaults:=zn,kwdefaults:=zn,doc:=zn,pyModule:=zn,annotations:=none,code:=zn,closureTuple:=zn,builtins:=0 },#[]⟩
noncomputable def o40x182 (P : Params) : Obj:=⟨Value.type "code",none,.fields #[zs "_law_taken" 2220,zs "_law_taken" 2221,zs "/claim/cut.py" 2222,zi 211 0,zi 1 0,zi 0 0,zi 0 0,zi 3 0,zr 179,Value.bool true,zi 276 0,zr 180,zn,zn,zn,zr 181,zi 2223 0,zi 211 0,zs "/claim/cut.py" 2224],#[]⟩
noncomputable def o40x183 (P : Params) : Obj:=⟨Value.type "function",none,.func { name:=(Str.ofString "_law_taken"),qualname:=(Str.ofString "_law_taken"),params:=pulawutaken,body:=.stmts bulawutaken,scope:=sulawutaken,globals:=3,closure:=[],defaults:=zn,kwdefaults:=zn,doc:=zn,pyModule:=zs "law_ik0162_01" 2178,annotations:=none,code:=zr 182,closureTuple:=zn,builtins:=0 },#[]⟩
noncomputable def o40x184 (P : Params) : Obj:=⟨Value.type "tuple",none,.seq #[] 0,#[]⟩
noncomputable def o40x185 (P : Params) : Obj:=⟨zn,none,.fields #[],#[]⟩
noncomputable def o40x186 (P : Params) : Obj:=⟨zn,none,.func { name:=(Str.ofString "law"),qualname:=(Str.ofString "law"),params:=plaw,body:=.stmts blaw,scope:=slaw,globals:=0,closure:=[],defaults:=zn,kwdefaults:=zn,doc:=zn,pyModule:=zn,annotations:=none,code:=zn,closureTuple:=zn,builtins:=0 },#[]⟩
noncomputable def o40x187 (P : Params) : Obj:=⟨Value.type "code",none,.fields #[zs "law" 2226,zs "law" 2227,zs "/claim/cut.py" 2228,zi 216 0,zi 1 0,zi 0 0,zi 0 0,zi 3 0,zr 184,Value.bool true,zi 276 0,zr 185,zn,zn,zn,zr 186,zi 2229 0,zi 216 0,zs "/claim/cut.py" 2230],#[]⟩
noncomputable def o40x188 (P : Params) : Obj:=⟨Value.type "function",none,.func { name:=(Str.ofString "law"),qualname:=(Str.ofString "law"),params:=plaw,body:=.stmts blaw,scope:=slaw,globals:=3,closure:=[],defaults:=zn,kwdefaults:=zn,doc:=zn,pyModule:=zs "law_ik0162_01" 2178,annotations:=none,code:=zr 187,closureTuple:=zn,builtins:=0 },#[]⟩
noncomputable def t40 (P : Params) : BT:=.node (boot_o_0 P) (.node (oSx1 P) (.node (o40x3 P) (.node (boot_o_7 P) (.node (oSx15 P) (.node (oAx31 P) (.node (o24x63 P) (.node (o40x127 P) (.nil) (.nil)) (.nil)) (.node (o24x95 P) (.node (o40x159 P) (.nil) (.nil)) (.nil))) (.node (o11x47 P) (.node (o24x79 P) (.node (o40x143 P) (.nil) (.nil)) (.nil)) (.node (o40x111 P) (.node (o40x175 P) (.nil) (.nil)) (.nil)))) (.node (oSx23 P) (.node (o2x39 P) (.node (o24x71 P) (.node (o40x135 P) (.nil) (.nil)) (.nil)) (.node (o24x103 P) (.node (o40x167 P) (.nil) (.nil)) (.nil))) (.node (o24x55 P) (.node (o24x87 P) (.node (o40x151 P) (.nil) (.nil)) (.nil)) (.node (o40x119 P) (.node (o40x183 P) (.nil) (.nil)) (.nil))))) (.node (oSx11 P) (.node (oSx19 P) (.node (o2x35 P) (.node (o24x67 P) (.node (o40x131 P) (.nil) (.nil)) (.nil)) (.node (o24x99 P) (.node (o40x163 P) (.nil) (.nil)) (.nil))) (.node (o13x51 P) (.node (o24x83 P) (.node (o40x147 P) (.nil) (.nil)) (.nil)) (.node (o40x115 P) (.node (o40x179 P) (.nil) (.nil)) (.nil)))) (.node (oSx27 P) (.node (o11x43 P) (.node (o24x75 P) (.node (o40x139 P) (.nil) (.nil)) (.nil)) (.node (o40x107 P) (.node (o40x171 P) (.nil) (.nil)) (.nil))) (.node (o24x59 P) (.node (o24x91 P) (.node (o40x155 P) (.nil) (.nil)) (.nil)) (.node (o40x123 P) (.node (o40x187 P) (.nil) (.nil)) (.nil)))))) (.node (boot_o_5 P) (.node (boot_o_9 P) (.node (oSx17 P) (.node (o2x33 P) (.node (o24x65 P) (.node (o40x129 P) (.nil) (.nil)) (.nil)) (.node (o24x97 P) (.node (o40x161 P) (.nil) (.nil)) (.nil))) (.node (o11x49 P) (.node (o24x81 P) (.node (o40x145 P) (.nil) (.nil)) (.nil)) (.node (o40x113 P) (.node (o40x177 P) (.nil) (.nil)) (.nil)))) (.node (oSx25 P) (.node (o2x41 P) (.node (o24x73 P) (.node (o40x137 P) (.nil) (.nil)) (.nil)) (.node (o40x105 P) (.node (o40x169 P) (.nil) (.nil)) (.nil))) (.node (o24x57 P) (.node (o24x89 P) (.node (o40x153 P) (.nil) (.nil)) (.nil)) (.node (o40x121 P) (.node (o40x185 P) (.nil) (.nil)) (.nil))))) (.node (oSx13 P) (.node (oSx21 P) (.node (o2x37 P) (.node (o24x69 P) (.node (o40x133 P) (.nil) (.nil)) (.nil)) (.node (o24x101 P) (.node (o40x165 P) (.nil) (.nil)) (.nil))) (.node (o24x53 P) (.node (o24x85 P) (.node (o40x149 P) (.nil) (.nil)) (.nil)) (.node (o40x117 P) (.node (o40x181 P) (.nil) (.nil)) (.nil)))) (.node (o40x29 P) (.node (o11x45 P) (.node (o24x77 P) (.node (o40x141 P) (.nil) (.nil)) (.nil)) (.node (o40x109 P) (.node (o40x173 P) (.nil) (.nil)) (.nil))) (.node (o24x61 P) (.node (o24x93 P) (.node (o40x157 P) (.nil) (.nil)) (.nil)) (.node (o40x125 P) (.nil) (.nil))))))) (.node (oSx2 P) (.node (boot_o_4 P) (.node (boot_o_8 P) (.node (oSx16 P) (.node (o2x32 P) (.node (o24x64 P) (.node (o40x128 P) (.nil) (.nil)) (.nil)) (.node (o24x96 P) (.node (o40x160 P) (.nil) (.nil)) (.nil))) (.node (o11x48 P) (.node (o24x80 P) (.node (o40x144 P) (.nil) (.nil)) (.nil)) (.node (o40x112 P) (.node (o40x176 P) (.nil) (.nil)) (.nil)))) (.node (oSx24 P) (.node (o2x40 P) (.node (o24x72 P) (.node (o40x136 P) (.nil) (.nil)) (.nil)) (.node (o40x104 P) (.node (o40x168 P) (.nil) (.nil)) (.nil))) (.node (o24x56 P) (.node (o24x88 P) (.node (o40x152 P) (.nil) (.nil)) (.nil)) (.node (o40x120 P) (.node (o40x184 P) (.nil) (.nil)) (.nil))))) (.node (oSx12 P) (.node (oSx20 P) (.node (o2x36 P) (.node (o24x68 P) (.node (o40x132 P) (.nil) (.nil)) (.nil)) (.node (o24x100 P) (.node (o40x164 P) (.nil) (.nil)) (.nil))) (.node (o13x52 P) (.node (o24x84 P) (.node (o40x148 P) (.nil) (.nil)) (.nil)) (.node (o40x116 P) (.node (o40x180 P) (.nil) (.nil)) (.nil)))) (.node (oAx28 P) (.node (o13x44 P) (.node (o24x76 P) (.node (o40x140 P) (.nil) (.nil)) (.nil)) (.node (o40x108 P) (.node (o40x172 P) (.nil) (.nil)) (.nil))) (.node (o24x60 P) (.node (o24x92 P) (.node (o40x156 P) (.nil) (.nil)) (.nil)) (.node (o40x124 P) (.node (o40x188 P) (.nil) (.nil)) (.nil)))))) (.node (boot_o_6 P) (.node (boot_o_10 P) (.node (oSx18 P) (.node (o2x34 P) (.node (o24x66 P) (.node (o40x130 P) (.nil) (.nil)) (.nil)) (.node (o24x98 P) (.node (o40x162 P) (.nil) (.nil)) (.nil))) (.node (o13x50 P) (.node (o24x82 P) (.node (o40x146 P) (.nil) (.nil)) (.nil)) (.node (o40x114 P) (.node (o40x178 P) (.nil) (.nil)) (.nil)))) (.node (oSx26 P) (.node (o2x42 P) (.node (o24x74 P) (.node (o40x138 P) (.nil) (.nil)) (.nil)) (.node (o40x106 P) (.node (o40x170 P) (.nil) (.nil)) (.nil))) (.node (o24x58 P) (.node (o24x90 P) (.node (o40x154 P) (.nil) (.nil)) (.nil)) (.node (o40x122 P) (.node (o40x186 P) (.nil) (.nil)) (.nil))))) (.node (oSx14 P) (.node (oSx22 P) (.node (o2x38 P) (.node (o24x70 P) (.node (o40x134 P) (.nil) (.nil)) (.nil)) (.node (o24x102 P) (.node (o40x166 P) (.nil) (.nil)) (.nil))) (.node (o24x54 P) (.node (o24x86 P) (.node (o40x150 P) (.nil) (.nil)) (.nil)) (.node (o40x118 P) (.node (o40x182 P) (.nil) (.nil)) (.nil)))) (.node (oAx30 P) (.node (o13x46 P) (.node (o24x78 P) (.node (o40x142 P) (.nil) (.nil)) (.nil)) (.node (o40x110 P) (.node (o40x174 P) (.nil) (.nil)) (.nil))) (.node (o24x62 P) (.node (o24x94 P) (.node (o40x158 P) (.nil) (.nil)) (.nil)) (.node (o40x126 P) (.nil) (.nil)))))))
noncomputable def tF (P : Params) : BT:=.node (boot_o_0 P) (.node (oSx1 P) (.node (o40x3 P) (.node (boot_o_7 P) (.node (oSx15 P) (.node (oAx31 P) (.node (o24x63 P) (.node (o40x127 P) (.nil) (.nil)) (.nil)) (.node (o24x95 P) (.node (o40x159 P) (.nil) (.nil)) (.nil))) (.node (o11x47 P) (.node (o24x79 P) (.node (o40x143 P) (.nil) (.nil)) (.nil)) (.node (o40x111 P) (.node (o40x175 P) (.nil) (.nil)) (.nil)))) (.node (oSx23 P) (.node (o2x39 P) (.node (o24x71 P) (.node (o40x135 P) (.nil) (.nil)) (.nil)) (.node (o24x103 P) (.node (o40x167 P) (.nil) (.nil)) (.nil))) (.node (o24x55 P) (.node (o24x87 P) (.node (o40x151 P) (.nil) (.nil)) (.nil)) (.node (o40x119 P) (.node (o40x183 P) (.nil) (.nil)) (.nil))))) (.node (oSx11 P) (.node (oSx19 P) (.node (o2x35 P) (.node (o24x67 P) (.node (o40x131 P) (.nil) (.nil)) (.nil)) (.node (o24x99 P) (.node (o40x163 P) (.nil) (.nil)) (.nil))) (.node (o13x51 P) (.node (o24x83 P) (.node (o40x147 P) (.nil) (.nil)) (.nil)) (.node (o40x115 P) (.node (o40x179 P) (.nil) (.nil)) (.nil)))) (.node (oSx27 P) (.node (o11x43 P) (.node (o24x75 P) (.node (o40x139 P) (.nil) (.nil)) (.nil)) (.node (o40x107 P) (.node (o40x171 P) (.nil) (.nil)) (.nil))) (.node (o24x59 P) (.node (o24x91 P) (.node (o40x155 P) (.nil) (.nil)) (.nil)) (.node (o40x123 P) (.node (o40x187 P) (.nil) (.nil)) (.nil)))))) (.node (boot_o_5 P) (.node (boot_o_9 P) (.node (oSx17 P) (.node (o2x33 P) (.node (o24x65 P) (.node (o40x129 P) (.nil) (.nil)) (.nil)) (.node (o24x97 P) (.node (o40x161 P) (.nil) (.nil)) (.nil))) (.node (o11x49 P) (.node (o24x81 P) (.node (o40x145 P) (.nil) (.nil)) (.nil)) (.node (o40x113 P) (.node (o40x177 P) (.nil) (.nil)) (.nil)))) (.node (oSx25 P) (.node (o2x41 P) (.node (o24x73 P) (.node (o40x137 P) (.nil) (.nil)) (.nil)) (.node (o40x105 P) (.node (o40x169 P) (.nil) (.nil)) (.nil))) (.node (o24x57 P) (.node (o24x89 P) (.node (o40x153 P) (.nil) (.nil)) (.nil)) (.node (o40x121 P) (.node (o40x185 P) (.nil) (.nil)) (.nil))))) (.node (oSx13 P) (.node (oSx21 P) (.node (o2x37 P) (.node (o24x69 P) (.node (o40x133 P) (.nil) (.nil)) (.nil)) (.node (o24x101 P) (.node (o40x165 P) (.nil) (.nil)) (.nil))) (.node (o24x53 P) (.node (o24x85 P) (.node (o40x149 P) (.nil) (.nil)) (.nil)) (.node (o40x117 P) (.node (o40x181 P) (.nil) (.nil)) (.nil)))) (.node (o40x29 P) (.node (o11x45 P) (.node (o24x77 P) (.node (o40x141 P) (.nil) (.nil)) (.nil)) (.node (o40x109 P) (.node (o40x173 P) (.nil) (.nil)) (.nil))) (.node (o24x61 P) (.node (o24x93 P) (.node (o40x157 P) (.nil) (.nil)) (.nil)) (.node (o40x125 P) (.nil) (.nil))))))) (.node (oSx2 P) (.node (boot_o_4 P) (.node (boot_o_8 P) (.node (oSx16 P) (.node (o2x32 P) (.node (o24x64 P) (.node (o40x128 P) (.nil) (.nil)) (.nil)) (.node (o24x96 P) (.node (o40x160 P) (.nil) (.nil)) (.nil))) (.node (o11x48 P) (.node (o24x80 P) (.node (o40x144 P) (.nil) (.nil)) (.nil)) (.node (o40x112 P) (.node (o40x176 P) (.nil) (.nil)) (.nil)))) (.node (oSx24 P) (.node (o2x40 P) (.node (o24x72 P) (.node (o40x136 P) (.nil) (.nil)) (.nil)) (.node (o40x104 P) (.node (o40x168 P) (.nil) (.nil)) (.nil))) (.node (o24x56 P) (.node (o24x88 P) (.node (o40x152 P) (.nil) (.nil)) (.nil)) (.node (o40x120 P) (.node (o40x184 P) (.nil) (.nil)) (.nil))))) (.node (oSx12 P) (.node (oSx20 P) (.node (o2x36 P) (.node (o24x68 P) (.node (o40x132 P) (.nil) (.nil)) (.nil)) (.node (o24x100 P) (.node (o40x164 P) (.nil) (.nil)) (.nil))) (.node (o13x52 P) (.node (o24x84 P) (.node (o40x148 P) (.nil) (.nil)) (.nil)) (.node (o40x116 P) (.node (o40x180 P) (.nil) (.nil)) (.nil)))) (.node (oAx28 P) (.node (o13x44 P) (.node (o24x76 P) (.node (o40x140 P) (.nil) (.nil)) (.nil)) (.node (o40x108 P) (.node (o40x172 P) (.nil) (.nil)) (.nil))) (.node (o24x60 P) (.node (o24x92 P) (.node (o40x156 P) (.nil) (.nil)) (.nil)) (.node (o40x124 P) (.node (o40x188 P) (.nil) (.nil)) (.nil)))))) (.node (boot_o_6 P) (.node (boot_o_10 P) (.node (oSx18 P) (.node (o2x34 P) (.node (o24x66 P) (.node (o40x130 P) (.nil) (.nil)) (.nil)) (.node (o24x98 P) (.node (o40x162 P) (.nil) (.nil)) (.nil))) (.node (o13x50 P) (.node (o24x82 P) (.node (o40x146 P) (.nil) (.nil)) (.nil)) (.node (o40x114 P) (.node (o40x178 P) (.nil) (.nil)) (.nil)))) (.node (oSx26 P) (.node (o2x42 P) (.node (o24x74 P) (.node (o40x138 P) (.nil) (.nil)) (.nil)) (.node (o40x106 P) (.node (o40x170 P) (.nil) (.nil)) (.nil))) (.node (o24x58 P) (.node (o24x90 P) (.node (o40x154 P) (.nil) (.nil)) (.nil)) (.node (o40x122 P) (.node (o40x186 P) (.nil) (.nil)) (.nil))))) (.node (oSx14 P) (.node (oSx22 P) (.node (o2x38 P) (.node (o24x70 P) (.node (o40x134 P) (.nil) (.nil)) (.nil)) (.node (o24x102 P) (.node (o40x166 P) (.nil) (.nil)) (.nil))) (.node (o24x54 P) (.node (o24x86 P) (.node (o40x150 P) (.nil) (.nil)) (.nil)) (.node (o40x118 P) (.node (o40x182 P) (.nil) (.nil)) (.nil)))) (.node (oAx30 P) (.node (o13x46 P) (.node (o24x78 P) (.node (o40x142 P) (.nil) (.nil)) (.nil)) (.node (o40x110 P) (.node (o40x174 P) (.nil) (.nil)) (.nil))) (.node (o24x62 P) (.node (o24x94 P) (.node (o40x158 P) (.nil) (.nil)) (.nil)) (.node (o40x126 P) (.nil) (.nil)))))))
noncomputable def hE : Env:={ scope:=pw.main.scope,locals:=mainNs,globals:=mainNs,cells:=[],code:=.ref 30,frame:=some 31 }
noncomputable def hB : List Stmt:=behindTheImports pw
noncomputable def hC : Code:=.body hB hE
noncomputable def p0 : Pos:=⟨0,0,0,0⟩
noncomputable def sts (a b : Nat) : List Stmt:=(hB.drop a).take (b - a)
noncomputable def sS (w : World) (os : OsState) : Shared:=⟨hS w.params,#[],boot_drawn,276,os⟩
noncomputable def sA (w : World) (os : OsState) : Shared:=⟨hA w.params,#[],boot_drawn,282,os⟩
noncomputable def sB (w : World) (os : OsState) : SharedT:=⟨tB w.params,32,(boot_heap w.params).life,#[],boot_drawn,282,os⟩
noncomputable def s2 (w : World) (os : OsState) : SharedT:=⟨t2 w.params,43,(boot_heap w.params).life,#[],boot_drawn,1347,os⟩
noncomputable def s11 (w : World) (os : OsState) : SharedT:=⟨t11 w.params,50,(boot_heap w.params).life,#[],boot_drawn,1572,os⟩
noncomputable def s13 (w : World) (os : OsState) : SharedT:=⟨t13 w.params,53,(boot_heap w.params).life,#[],boot_drawn,1861,os⟩
noncomputable def s24 (w : World) (os : OsState) : SharedT:=⟨t24 w.params,104,(boot_heap w.params).life,#[],boot_drawn,2097,os⟩
noncomputable def s40 (w : World) (os : OsState) : SharedT:=⟨t40 w.params,189,(boot_heap w.params).life,#[],boot_drawn,2232,os⟩
noncomputable abbrev segT (w : World) (n : Nat) (s : SharedT) (l : List Stmt) (p : Pos):=segRunT treeTable pw w 28 (some (.ref 6)) 1 n s (piecesOf l hE hC p [topFrame p0])
theorem segT_tw (w : World) (n : Nat) (s : SharedT) (l : List Stmt) (p : Pos) : segT w n s l p = PySem.W.Fast.tw10110043849684766642 PySem.W.Fast.tw14364793385576792824 pw w 28 (some (.ref 6)) 1 n s ⟨(PySem.W.Fast.tw12563942051412417395 l hE).wrap doneF deadEnd id id,hC,p,[topFrame p0]⟩:=by
 unfold segT piecesOf
 rw [PySem.W.Fast.te10110043849684766642,PySem.W.Fast.te14364793385576792824,PySem.W.Fast.te12563942051412417395]
end
section
theorem pc2ff (w : World) (os : OsState) : segT ((w.withFollow "special-get-raises" false).withFollow "comprehension-iter-twice" false) 19356 (sB ((w.withFollow "special-get-raises" false).withFollow "comprehension-iter-twice" false) os) (sts 0 3) ⟨0,0,0,0⟩ = some (.next,s2 ((w.withFollow "special-get-raises" false).withFollow "comprehension-iter-twice" false) os,hC,⟨4,0,4,11⟩):=by
 rw [segT_tw]
 kernel_rfl
theorem pc2ft (w : World) (os : OsState) : segT ((w.withFollow "special-get-raises" true).withFollow "comprehension-iter-twice" false) 19356 (sB ((w.withFollow "special-get-raises" true).withFollow "comprehension-iter-twice" false) os) (sts 0 3) ⟨0,0,0,0⟩ = some (.next,s2 ((w.withFollow "special-get-raises" true).withFollow "comprehension-iter-twice" false) os,hC,⟨4,0,4,11⟩):=by
 rw [segT_tw]
 kernel_rfl
theorem pc2tf (w : World) (os : OsState) : segT ((w.withFollow "special-get-raises" false).withFollow "comprehension-iter-twice" true) 19356 (sB ((w.withFollow "special-get-raises" false).withFollow "comprehension-iter-twice" true) os) (sts 0 3) ⟨0,0,0,0⟩ = some (.next,s2 ((w.withFollow "special-get-raises" false).withFollow "comprehension-iter-twice" true) os,hC,⟨4,0,4,11⟩):=by
 rw [segT_tw]
 kernel_rfl
theorem pc2tt (w : World) (os : OsState) : segT ((w.withFollow "special-get-raises" true).withFollow "comprehension-iter-twice" true) 19356 (sB ((w.withFollow "special-get-raises" true).withFollow "comprehension-iter-twice" true) os) (sts 0 3) ⟨0,0,0,0⟩ = some (.next,s2 ((w.withFollow "special-get-raises" true).withFollow "comprehension-iter-twice" true) os,hC,⟨4,0,4,11⟩):=by
 rw [segT_tw]
 kernel_rfl
theorem pc2 (w : World) (os : OsState) : segT w 19356 (sB w os) (sts 0 3) ⟨0,0,0,0⟩ = some (.next,s2 w os,hC,⟨4,0,4,11⟩):=(byRow2 "comprehension-iter-twice" (P:=fun w=>∀ os,segT w 19356 (sB w os) (sts 0 3) ⟨0,0,0,0⟩ = some (.next,s2 w os,hC,⟨4,0,4,11⟩)) (byRow2 "special-get-raises" (P:=fun w=>∀ os,segT (w.withFollow "comprehension-iter-twice" false) 19356 (sB (w.withFollow "comprehension-iter-twice" false) os) (sts 0 3) ⟨0,0,0,0⟩ = some (.next,s2 (w.withFollow "comprehension-iter-twice" false) os,hC,⟨4,0,4,11⟩)) pc2ff pc2ft) (byRow2 "special-get-raises" (P:=fun w=>∀ os,segT (w.withFollow "comprehension-iter-twice" true) 19356 (sB (w.withFollow "comprehension-iter-twice" true) os) (sts 0 3) ⟨0,0,0,0⟩ = some (.next,s2 (w.withFollow "comprehension-iter-twice" true) os,hC,⟨4,0,4,11⟩)) pc2tf pc2tt)) w os
end
section
theorem pc11f (w : World) (os : OsState) : segT (w.withFollow "special-get-raises" false) 6516 (s2 (w.withFollow "special-get-raises" false) os) (sts 3 12) ⟨4,0,4,11⟩ = some (.next,s11 (w.withFollow "special-get-raises" false) os,hC,⟨13,9,13,74⟩):=by
 rw [segT_tw]
 kernel_rfl
theorem pc11t (w : World) (os : OsState) : segT (w.withFollow "special-get-raises" true) 6516 (s2 (w.withFollow "special-get-raises" true) os) (sts 3 12) ⟨4,0,4,11⟩ = some (.next,s11 (w.withFollow "special-get-raises" true) os,hC,⟨13,9,13,74⟩):=by
 rw [segT_tw]
 kernel_rfl
theorem pc11 (w : World) (os : OsState) : segT w 6516 (s2 w os) (sts 3 12) ⟨4,0,4,11⟩ = some (.next,s11 w os,hC,⟨13,9,13,74⟩):=(byRow2 "special-get-raises" (P:=fun w=>∀ os,segT w 6516 (s2 w os) (sts 3 12) ⟨4,0,4,11⟩ = some (.next,s11 w os,hC,⟨13,9,13,74⟩)) pc11f pc11t) w os
end
section
theorem pc13f (w : World) (os : OsState) : segT (w.withFollow "special-get-raises" false) 8752 (s11 (w.withFollow "special-get-raises" false) os) (sts 12 14) ⟨13,9,13,74⟩ = some (.next,s13 (w.withFollow "special-get-raises" false) os,hC,⟨16,9,16,110⟩):=by
 rw [segT_tw]
 kernel_rfl
theorem pc13t (w : World) (os : OsState) : segT (w.withFollow "special-get-raises" true) 8752 (s11 (w.withFollow "special-get-raises" true) os) (sts 12 14) ⟨13,9,13,74⟩ = some (.next,s13 (w.withFollow "special-get-raises" true) os,hC,⟨16,9,16,110⟩):=by
 rw [segT_tw]
 kernel_rfl
theorem pc13 (w : World) (os : OsState) : segT w 8752 (s11 w os) (sts 12 14) ⟨13,9,13,74⟩ = some (.next,s13 w os,hC,⟨16,9,16,110⟩):=(byRow2 "special-get-raises" (P:=fun w=>∀ os,segT w 8752 (s11 w os) (sts 12 14) ⟨13,9,13,74⟩ = some (.next,s13 w os,hC,⟨16,9,16,110⟩)) pc13f pc13t) w os
end
section
theorem pc24ff (w : World) (os : OsState) : segT ((w.withFollow "special-get-raises" false).withFollow "comprehension-iter-twice" false) 3374 (s13 ((w.withFollow "special-get-raises" false).withFollow "comprehension-iter-twice" false) os) (sts 14 25) ⟨16,9,16,110⟩ = some (.next,s24 ((w.withFollow "special-get-raises" false).withFollow "comprehension-iter-twice" false) os,hC,⟨64,0,64,18⟩):=by
 rw [segT_tw]
 kernel_rfl
theorem pc24ft (w : World) (os : OsState) : segT ((w.withFollow "special-get-raises" true).withFollow "comprehension-iter-twice" false) 3374 (s13 ((w.withFollow "special-get-raises" true).withFollow "comprehension-iter-twice" false) os) (sts 14 25) ⟨16,9,16,110⟩ = some (.next,s24 ((w.withFollow "special-get-raises" true).withFollow "comprehension-iter-twice" false) os,hC,⟨64,0,64,18⟩):=by
 rw [segT_tw]
 kernel_rfl
theorem pc24tf (w : World) (os : OsState) : segT ((w.withFollow "special-get-raises" false).withFollow "comprehension-iter-twice" true) 3374 (s13 ((w.withFollow "special-get-raises" false).withFollow "comprehension-iter-twice" true) os) (sts 14 25) ⟨16,9,16,110⟩ = some (.next,s24 ((w.withFollow "special-get-raises" false).withFollow "comprehension-iter-twice" true) os,hC,⟨64,0,64,18⟩):=by
 rw [segT_tw]
 kernel_rfl
theorem pc24tt (w : World) (os : OsState) : segT ((w.withFollow "special-get-raises" true).withFollow "comprehension-iter-twice" true) 3374 (s13 ((w.withFollow "special-get-raises" true).withFollow "comprehension-iter-twice" true) os) (sts 14 25) ⟨16,9,16,110⟩ = some (.next,s24 ((w.withFollow "special-get-raises" true).withFollow "comprehension-iter-twice" true) os,hC,⟨64,0,64,18⟩):=by
 rw [segT_tw]
 kernel_rfl
theorem pc24 (w : World) (os : OsState) : segT w 3374 (s13 w os) (sts 14 25) ⟨16,9,16,110⟩ = some (.next,s24 w os,hC,⟨64,0,64,18⟩):=(byRow2 "comprehension-iter-twice" (P:=fun w=>∀ os,segT w 3374 (s13 w os) (sts 14 25) ⟨16,9,16,110⟩ = some (.next,s24 w os,hC,⟨64,0,64,18⟩)) (byRow2 "special-get-raises" (P:=fun w=>∀ os,segT (w.withFollow "comprehension-iter-twice" false) 3374 (s13 (w.withFollow "comprehension-iter-twice" false) os) (sts 14 25) ⟨16,9,16,110⟩ = some (.next,s24 (w.withFollow "comprehension-iter-twice" false) os,hC,⟨64,0,64,18⟩)) pc24ff pc24ft) (byRow2 "special-get-raises" (P:=fun w=>∀ os,segT (w.withFollow "comprehension-iter-twice" true) 3374 (s13 (w.withFollow "comprehension-iter-twice" true) os) (sts 14 25) ⟨16,9,16,110⟩ = some (.next,s24 (w.withFollow "comprehension-iter-twice" true) os,hC,⟨64,0,64,18⟩)) pc24tf pc24tt)) w os
end
section
theorem pc40 (w : World) (os : OsState) : segT w 700 (s24 w os) (sts 25 41) ⟨64,0,64,18⟩ = some (.next,s40 w os,hC,⟨216,0,230,89⟩):=by
 rw [segT_tw]
 kernel_rfl
end
section
theorem importT (w : World) : importEnds treeTable (opening pw) w 900 (start (opening pw)).1 (start (opening pw)).2 = some ⟨hI w.params,#[],boot_drawn,276,(start (opening pw)).1.os⟩:=by
 rw [PySem.W.Fast.te10274390034422433532,PySem.W.Fast.te14364793385576792824,PySem.W.Fast.te1435165496053646825]
 kernel_rfl
end
section
theorem fenceT (w : World) : (fun os=>(fenceModules? pw ⟨hI w.params,#[],boot_drawn,276,os⟩).map (fun s=>(s.heap,s.gens,s.drawn,s.toks))) = fun _=>some (hS w.params,#[],boot_drawn,276):=by
 rw [PySem.W.Fast.te14289696077712309145]
 kernel_rfl
theorem sizeT (w : World) : ((hS w.params).isNs mainGlobals && (#[] : Array GenState).size == 0,(hS w.params).objs.size,(hS w.params).nsMap mainGlobals "__annotations__") = (true,28,some (.ref 6)):=by
 rw [PySem.W.Fast.te8920871248978507458]
 kernel_rfl
theorem preT (w : World) (os : OsState) : topGo treeTable pw w 28 (some (.ref 6)) 12 (sS w os) (topStub pw) = some (sA w os,⟨denote treeTable hC,hC,p0,[topFrame p0]⟩):=by
 rw [PySem.W.Fast.te15667345088766844465,PySem.W.Fast.te14364793385576792824,PySem.W.Fast.te11892475500146522536]
 kernel_rfl
theorem blkT (w : World) (os : OsState) : segRun treeTable pw w 28 (some (.ref 6)) 1 1 (sA w os) (blockOf hB hE hC p0 [topFrame p0]) = some (.next,(sB w os).abs,hC,p0):=by
 rw [PySem.W.Fast.te14374325043358763698]
 kernel_rfl
theorem finT (w : World) (os : OsState) : topRun treeTable pw w 28 (some (.ref 6)) 2 (s40 w os).abs ⟨doneF .next,hC,⟨216,0,230,89⟩,[topFrame p0]⟩ = some (s40 w os).abs:=by
 rw [PySem.W.Fast.te14082659384304107361]
 kernel_rfl
theorem cellsT : hB = sts 0 3 ++ (sts 3 12 ++ (sts 12 14 ++ (sts 14 25 ++ (sts 25 41 ++ [])))):=by
 kernel_rfl
end
section
theorem restT (e : Code) (p : Pos) (B : List Frame) : restOf hB hE e p B = restOf (sts 0 3 ++ (sts 3 12 ++ (sts 12 14 ++ (sts 14 25 ++ (sts 25 41 ++ []))))) hE e p B:=congrArg (fun l=>restOf l hE e p B) cellsT
theorem runT (w : World) (os : OsState) : topRun treeTable pw w 28 (some (.ref 6)) (12 + (1 + (19356 + (6516 + (8752 + (3374 + (700 + 2))))))) (sS w os) (topStub pw) = some (s40 w os).abs:=by
 refine go_top (n:=12) (preT w os) (piece_block (n:=1) (blkT w os) ?_)
 rw [restT]
 exact piece_app (segRun_of (pc2 w os)) (piece_app (segRun_of (pc11 w os)) (piece_app (segRun_of (pc13 w os)) (piece_app (segRun_of (pc24 w os)) (piece_app (segRun_of (pc40 w os)) (piece_nil (finT w os))))))
end
section
noncomputable def lawSt : Stmt:=by
 have h : topAt 41 = topAt 41:=rfl
 conv at h=>lhs;whnf
 exact lhsOf h
noncomputable def qv : Program:={ pw with main:={ pw.main with body:=[lawSt] } }
noncomputable def lo : List Str:=[Str.ofString "_sre",Str.ofString "twin_re_1_quoprimime",Str.ofString "NL",Str.ofString "_QUOPRI_MAP",Str.ofString "_QUOPRI_HEADER_MAP",Str.ofString "_QUOPRI_BODY_MAP",Str.ofString "ascii_lowercase",Str.ofString "ascii_uppercase",Str.ofString "ascii_letters",Str.ofString "digits",Str.ofString "hexdigits",Str.ofString "unquote",Str.ofString "quote",Str.ofString "_QUOPRI_BODY_ENCODE_MAP",Str.ofString "decode",Str.ofString "_unquote_match",Str.ofString "header_decode",Str.ofString "twin_re_1_fnmatch",Str.ofString "_special_chars_map",Str.ofString "escape",Str.ofString "_translate",Str.ofString "heappush",Str.ofString "heappop",Str.ofString "heapreplace",Str.ofString "_siftdown",Str.ofString "_siftup",Str.ofString "_law_stretches",Str.ofString "_law_fences",Str.ofString "_law_patterns",Str.ofString "_law_figures",Str.ofString "_law_taken"]
noncomputable def asK : List Addr:=2 :: 3 :: 35 :: 36 :: 39 :: 58 :: 59 :: 65 :: 66 :: 72 :: 78 :: 79 :: 85 :: 86 :: 92 :: 93 :: 97 :: 98 :: 100 :: 109 :: 110 :: 116 :: 117 :: 123 :: 124 :: 130 :: 131 :: 137 :: 138 :: 144 :: 145 :: 151 :: 152 :: 158 :: 159 :: 165 :: 166 :: 172 :: 173 :: 177 :: 178 :: 182 :: 183 :: 187 :: 188 :: []
theorem kAs (P : Params) : asK = (K P).map (·.1):=by kernel_rfl
noncomputable abbrev Hk : Hook:=kmHook K asK kAs [112]
abbrev rW : RowW:=PySem.Challenge.rw_ik0162_01.row.toRowW
noncomputable abbrev XtL : Shared -> Bool:=fun s=>xlAt qv [] s && recOk (RowW.records rW) s
noncomputable abbrev h0 (P : Params) : Heap:=hS P
noncomputable abbrev h1 (P : Params) : Heap:=absHeap (t40 P) 189 (boot_heap P).life
theorem look1 (w : World) (os : OsState) : (staticsOk (importedModules pw.main.body) (h0 w.params) (h1 w.params) && namesBound pw (h1 w.params) && gensDone ⟨h1 w.params,#[],boot_drawn,2232,os⟩ && laidKept (h0 w.params) (h1 w.params)) = true:=by
 kernel_rfl
theorem look2 (w : World) (os : OsState) : openSeen qv lo (importedModules pw.main.body) XtL true ⟨h1 w.params,#[],boot_drawn,2232,os⟩ = openGood qv lo:=by
 rw [PySem.W.Fast.te4187177175401517315]
 kernel_rfl
theorem look3 (w : World) (os : OsState) : Hk.obs ⟨h1 w.params,#[],boot_drawn,2232,os⟩ = Hk.val w:=by
 kernel_rfl
end
section
theorem leftT : LeftO pw qv lo XtL Hk.obs Hk.val 100000 true :=
 LeftO.of_pieces (H₀:=h0) (H₁:=h1) (gs₀:=#[]) (gs₁:=#[]) (d₀:=boot_drawn) (d₁:=boot_drawn) (k₀:=276) (k₁:=2232) (m₀:=28) (ann:=some (.ref 6)) (M:=12 + (1 + (19356 + (6516 + (8752 + (3374 + (700 + 2)))))))
  (open_cut (He:=hI) importT (by kernel_rfl) fenceT) sizeT runT (by kernel_rfl)
  (fun w=>funext fun os=>looks_pair (look1 w os) (looks_pair (look2 w os) (look3 w os)))
noncomputable def dLaw : DefRec:={ name:=Str.ofString "law",params:=plaw,body:=blaw,scope:=slaw,pos:=⟨216,0,230,89⟩ }
theorem defT : defOf qv PySem.Challenge.rw_ik0162_01.row.name = some (dLaw,[]):=by kernel_rfl
theorem theT : pw.theDef PySem.Challenge.rw_ik0162_01.row.name = some (plaw,blaw,slaw):=by kernel_rfl
theorem chainT : (chainsOk qv && opensWell pw && (frees rW && rW.within.isEmpty)) = true:=by decide +kernel
theorem bareT : pw.bare:=⟨rfl,rfl,rfl,rfl,rfl,by decide +kernel⟩
theorem promT : rW.promised:=by w_witness2
theorem wsaid : PySem.Challenge.rw_ik0162_01.wellSaid = true:=by decide +kernel
theorem myhd0 (h : WalkO qv lo (XL qv []) Hk.says rW dLaw [] fun f vs=>PySem.call f vs) : PySem.Challenge.rw_ik0162_01.Holds:=by
 w_on
 refine holds_law wsaid fun said=>?_
 exact PySem.W.holds_open (q:=qv) (loose:=lo) (Xt:=XtL) (XP:=XL qv []) (Yf:=Hk.obs) (Ya:=Hk.val) (YP:=Hk.says) (N:=100000) leftT Hk.of Hk.keeps (fun s e=>xl_of s (Bool.and_eq_true_iff.mp e).1) XL.keeps defT theT rfl (fun s e=>recFacts_of (Bool.and_eq_true_iff.mp e).2) (by rfl) (by assumption) chainT bareT promT h
theorem myhd (h : WalkO qv lo (XL qv []) (kmHook K asK kAs [112]).says PySem.Challenge.rw_ik0162_01.row.toRowW dLaw [] fun f vs=>PySem.call f vs) : PySem.Challenge.rw_ik0162_01.Holds:=myhd0 h
end
end Mine.Internal
end
section
open PySem PySem.W PySem.Calls PyProof.Rows
namespace Mine.Internal
theorem post_true {M : Model} {A : Around} {cd : Code} {s s₁ : Shared} {cw : ClaimW} {cl : Str -> Option Addr} {mean : ExcName -> Option Value} {args : List WData} {tabs : List (Addr × Addr)} (hT : TabsAt tabs s₁.heap) (hr : ∀ x,cw.raises args x = false)
  (hp : cw.post args (.bool true) args = true)
  (h : codeAny M A cd (fun r s'=>r = .ok (.ret (.bool true)) /\ (∀ b o,(ghostOf s₁.heap tabs).get? b = some o -> s'.heap.get? b = some o) /\ s'.os = s₁.os /\ AllBare s'.gens /\ GrownAll tabs s'.heap) s) : codeAny M A cd (GoodWG cw cl mean args s₁) s :=
 codeAny_mono h fun r s' ⟨hv,hk,hos,hg,hgr⟩=>by
  have keep : ∀ b o,b ∉ tabs.map (·.2) -> s₁.heap.get? b = some o -> s'.heap.get? b = some o:=fun b o hb e=>hk b o (ghost_ne e hb)
  have grown : ∀ b o,b ∈ tabs.map (·.2) -> s₁.heap.get? b = some o -> isCodeTable s₁.heap b /\ o = tabObj #[] /\ ∃ ps,s'.heap.get? b = some (tabObj ps):=fun b o hb e=>by
   obtain ⟨q,hq,rfl⟩:=List.mem_map.mp hb
   have e2:=(hT q hq).2
   rw [e] at e2
   exact ⟨((hT q hq).1.tab (hT q hq).2).isCodeTable,Option.some.inj e2,hgr.get q hq⟩
  refine ⟨.inl ⟨.bool true,.bool true,[],hv,hr,.bool _,hp,fun _=>⟨List.nodup_nil,fun a ha=>by cases ha⟩⟩,⟨fun b o e=>?_,fun b o e=>?_⟩,hos,hg⟩
  ·by_cases hb : b ∈ tabs.map (·.2)
   ·obtain ⟨ht,rfl,ps,hP⟩:=grown b o hb e
    exact .inr (.inl ⟨ht,rfl,#[],ps,rfl,by rw [Array.empty_append];exact hP⟩)
   ·exact .inl (keep b o hb e)
  ·by_cases hb : b ∈ tabs.map (·.2)
   ·obtain ⟨_,_,ps,hP⟩:=grown b o hb e
    exact ⟨_,hP⟩
   ·exact ⟨o,keep b o hb e⟩
theorem len_le {vs : List Value} {ns : List Int} (h : IntsAre vs ns) (hn : ¬ ((63 : Nat) : Int) < (ns.length : Int)) : vs.length <= 1000:=by
 have:=IntsAre.length h
 exact o252 this hn
end Mine.Internal
theorem PySem.Challenge.cw_ik0162_01_holds : PySem.Challenge.rw_ik0162_01.Holds := by
 open Mine.Internal in
 refine myhd ?_
 k_fill
 intro w s₀ s₁ mg mb G Y fa o pm cd doc dV kV ho hd hcd hD hmg hg args vals as hpre hlay hrd hwl hlo
 replace hmg : mg (Str.ofString "law") = some (.ref fa):=hmg
 have KX:=km_in_of Y
 km_tabs Y
 have X:=(Ground.X G).1
 have V:=(Ground.X G).2
 refine Ground.open G ?_
 intro T B D TE TW
 try (refine guard_noD D (by decide +kernel) ?_;clear D)
 km_lay T hmg ho hd cd
 clear hmg
 wrow_args hpre hlay hrd hwl hlo
 all_goals (
  first | refine callC_kw (enter_call ?_) | refine enter_call ?_
  w_top on
  refine post_true hT9 (fun _=>rfl) (by first | kc_post | wrow_post) ?_
  w_call any ho hd hcd hD T F
  clear hd
  kn_ghosts F T
  k_drop
  skip)
 (with_reducible rename IntsAre _ _=>hI9)
 have hlen9 : _:=len_le hI9 (by assumption)
 (with_reducible rename Heap.IsList _ _ _=>hL9)
 (with_reducible rename Frag.In _ _=>X9)
 (with_reducible rename Top _ _ _ _ _ _=>T9)
 (with_reducible rename Below _ _ _ _=>B9)
 (with_reducible rename Fr _ _ _ _=>F9)
 (with_reducible rename News _ _ _ _=>N9)
 refine law_body _ _ _ hI9 hlen9 _ _ _ _ ?hF ?hH ?hFH _ _ _ _ _ [] _ _ _ _ _ _ _ _ hL9 ?hms ?hG B9 F9 X9 N9 T9 ?hd ?hu ?_
 case hF=>exact ⟨_,by assumption⟩
 case hH=>exact ⟨_,by assumption⟩
 case hFH=>exact Nat.ne_of_gt (Nat.lt_succ_self _)
 case hms=>rfl
 case hG=>exact AllBare.of_eq hg
 case hd=>decide
 case hu=>decide
 intro h' tk' g' dr' ps' hG' hT' hk'
 exact ⟨rfl,hk',rfl,hG',⟨ps',hT'⟩,trivial⟩
end
