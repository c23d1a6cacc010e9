import PyProof.Rows.All
import PyProof.Rows.ListMul
import OpenK.ZGo
import OpenK.KLine
import OpenK.KMake
import KE.KSuper
import KE.KSuperObj
import KE.KStar
import KE.KPar
import KE.KLam
import KE.KTurns
import Lean
import PySem.Challenge.RW_rs0183_01
set_option Elab.async false
set_option maxRecDepth 100000
set_option maxHeartbeats 4000000
set_option linter.unusedVariables false
open PySem PySem.W PyProof.Rows
universe u
set_option compiler.extract_closed false
set_option bootstrap.genMatcherCode false
set_option genInjectivity false
set_option genSizeOf false
set_option genSizeOfSpec false
namespace Mine
@[elab_as_elim] theorem rwT {α : Sort u} {a b : α} {p : α → Prop} (h : a = b) (x : p b) : p a := h ▸ x
theorem ob0_2 {p q:Prop}{g:Prop} (h:p∧q) (K:p→q→g):g:=K h.1 h.2
theorem ob0_3 {p q r:Prop}{g:Prop} (h:p∧q∧r) (K:p→q→r→g):g:=K h.1 h.2.1 h.2.2
theorem ob0_4 {p q r s:Prop}{g:Prop} (h:p∧q∧r∧s) (K:p→q→r→s→g):g:=K h.1 h.2.1 h.2.2.1 h.2.2.2
theorem ob0_5 {p q r s t:Prop}{g:Prop} (h:p∧q∧r∧s∧t) (K:p→q→r→s→t→g):g:=K h.1 h.2.1 h.2.2.1 h.2.2.2.1 h.2.2.2.2
theorem ob1_1 {A:Sort _}{p:A→Prop}{g:Prop} (h:∃ a,p a) (K:∀ a,p a→g):g:=h.elim fun a h=>K a h
theorem ob1_2 {A:Sort _}{p q:A→Prop}{g:Prop} (h:∃ a,p a∧q a) (K:∀ a,p a→q a→g):g:=h.elim fun a h=>K a h.1 h.2
theorem ob1_3 {A:Sort _}{p q r:A→Prop}{g:Prop} (h:∃ a,p a∧q a∧r a) (K:∀ a,p a→q a→r a→g):g:=h.elim fun a h=>K a h.1 h.2.1 h.2.2
theorem ob1_4 {A:Sort _}{p q r s:A→Prop}{g:Prop} (h:∃ a,p a∧q a∧r a∧s a) (K:∀ a,p a→q a→r a→s a→g):g:=h.elim fun a h=>K a h.1 h.2.1 h.2.2.1 h.2.2.2
theorem ob1_5 {A:Sort _}{p q r s t:A→Prop}{g:Prop} (h:∃ a,p a∧q a∧r a∧s a∧t a) (K:∀ a,p a→q a→r a→s a→t a→g):g:=h.elim fun a h=>K a h.1 h.2.1 h.2.2.1 h.2.2.2.1 h.2.2.2.2
theorem ob2_1 {A:Sort _}{B:Sort _}{p:A→B→Prop}{g:Prop} (h:∃ a b,p a b) (K:∀ a b,p a b→g):g:=h.elim fun a h=>h.elim fun b h=>K a b h
theorem ob2_2 {A:Sort _}{B:Sort _}{p q:A→B→Prop}{g:Prop} (h:∃ a b,p a b∧q a b) (K:∀ a b,p a b→q a b→g):g:=h.elim fun a h=>h.elim fun b h=>K a b h.1 h.2
theorem ob2_3 {A:Sort _}{B:Sort _}{p q r:A→B→Prop}{g:Prop} (h:∃ a b,p a b∧q a b∧r a b) (K:∀ a b,p a b→q a b→r a b→g):g:=h.elim fun a h=>h.elim fun b h=>K a b h.1 h.2.1 h.2.2
theorem ob2_4 {A:Sort _}{B:Sort _}{p q r s:A→B→Prop}{g:Prop} (h:∃ a b,p a b∧q a b∧r a b∧s a b) (K:∀ a b,p a b→q a b→r a b→s a b→g):g:=h.elim fun a h=>h.elim fun b h=>K a b h.1 h.2.1 h.2.2.1 h.2.2.2
theorem ob2_5 {A:Sort _}{B:Sort _}{p q r s t:A→B→Prop}{g:Prop} (h:∃ a b,p a b∧q a b∧r a b∧s a b∧t a b) (K:∀ a b,p a b→q a b→r a b→s a b→t a b→g):g:=h.elim fun a h=>h.elim fun b h=>K a b h.1 h.2.1 h.2.2.1 h.2.2.2.1 h.2.2.2.2
theorem ob3_1 {A:Sort _}{B:Sort _}{C:Sort _}{p:A→B→C→Prop}{g:Prop} (h:∃ a b c,p a b c) (K:∀ a b c,p a b c→g):g:=h.elim fun a h=>h.elim fun b h=>h.elim fun c h=>K a b c h
theorem ob3_2 {A:Sort _}{B:Sort _}{C:Sort _}{p q:A→B→C→Prop}{g:Prop} (h:∃ a b c,p a b c∧q a b c) (K:∀ a b c,p a b c→q a b c→g):g:=h.elim fun a h=>h.elim fun b h=>h.elim fun c h=>K a b c h.1 h.2
theorem ob3_3 {A:Sort _}{B:Sort _}{C:Sort _}{p q r:A→B→C→Prop}{g:Prop} (h:∃ a b c,p a b c∧q a b c∧r a b c) (K:∀ a b c,p a b c→q a b c→r a b c→g):g:=h.elim fun a h=>h.elim fun b h=>h.elim fun c h=>K a b c h.1 h.2.1 h.2.2
theorem ob3_4 {A:Sort _}{B:Sort _}{C:Sort _}{p q r s:A→B→C→Prop}{g:Prop} (h:∃ a b c,p a b c∧q a b c∧r a b c∧s a b c) (K:∀ a b c,p a b c→q a b c→r a b c→s a b c→g):g:=h.elim fun a h=>h.elim fun b h=>h.elim fun c h=>K a b c h.1 h.2.1 h.2.2.1 h.2.2.2
theorem ob3_5 {A:Sort _}{B:Sort _}{C:Sort _}{p q r s t:A→B→C→Prop}{g:Prop} (h:∃ a b c,p a b c∧q a b c∧r a b c∧s a b c∧t a b c) (K:∀ a b c,p a b c→q a b c→r a b c→s a b c→t a b c→g):g:=h.elim fun a h=>h.elim fun b h=>h.elim fun c h=>K a b c h.1 h.2.1 h.2.2.1 h.2.2.2.1 h.2.2.2.2
theorem ob4_2 {A:Sort _}{B:Sort _}{C:Sort _}{D:Sort _}{p q:A→B→C→D→Prop}{g:Prop} (h:∃ a b c d,p a b c d∧q a b c d) (K:∀ a b c d,p a b c d→q a b c d→g):g:=h.elim fun a h=>h.elim fun b h=>h.elim fun c h=>h.elim fun d h=>K a b c d h.1 h.2
theorem ob4_3 {A:Sort _}{B:Sort _}{C:Sort _}{D:Sort _}{p q r:A→B→C→D→Prop}{g:Prop} (h:∃ a b c d,p a b c d∧q a b c d∧r a b c d) (K:∀ a b c d,p a b c d→q a b c d→r a b c d→g):g:=h.elim fun a h=>h.elim fun b h=>h.elim fun c h=>h.elim fun d h=>K a b c d h.1 h.2.1 h.2.2
theorem ob4_4 {A:Sort _}{B:Sort _}{C:Sort _}{D:Sort _}{p q r s:A→B→C→D→Prop}{g:Prop} (h:∃ a b c d,p a b c d∧q a b c d∧r a b c d∧s a b c d) (K:∀ a b c d,p a b c d→q a b c d→r a b c d→s a b c d→g):g:=h.elim fun a h=>h.elim fun b h=>h.elim fun c h=>h.elim fun d h=>K a b c d h.1 h.2.1 h.2.2.1 h.2.2.2
theorem ob4_5 {A:Sort _}{B:Sort _}{C:Sort _}{D:Sort _}{p q r s t:A→B→C→D→Prop}{g:Prop} (h:∃ a b c d,p a b c d∧q a b c d∧r a b c d∧s a b c d∧t a b c d) (K:∀ a b c d,p a b c d→q a b c d→r a b c d→s a b c d→t a b c d→g):g:=h.elim fun a h=>h.elim fun b h=>h.elim fun c h=>h.elim fun d h=>K a b c d h.1 h.2.1 h.2.2.1 h.2.2.2.1 h.2.2.2.2
theorem ob4_8 {A:Sort _}{B:Sort _}{C:Sort _}{D:Sort _}{p q r s t u v w:A→B→C→D→Prop}{g:Prop} (h:∃ a b c d,p a b c d∧q a b c d∧r a b c d∧s a b c d∧t a b c d∧u a b c d∧v a b c d∧w a b c d) (K:∀ a b c d,p a b c d→q a b c d→r a b c d→s a b c d→t a b c d→u a b c d→v a b c d→w a b c d→g):g:=h.elim fun a h=>h.elim fun b h=>h.elim fun c h=>h.elim fun d h=>K a b c d h.1 h.2.1 h.2.2.1 h.2.2.2.1 h.2.2.2.2.1 h.2.2.2.2.2.1 h.2.2.2.2.2.2.1 h.2.2.2.2.2.2.2
theorem ob4_10 {A:Sort _}{B:Sort _}{C:Sort _}{D:Sort _}{p q r s t u v w z P:A→B→C→D→Prop}{g:Prop} (h:∃ a b c d,p a b c d∧q a b c d∧r a b c d∧s a b c d∧t a b c d∧u a b c d∧v a b c d∧w a b c d∧z a b c d∧P a b c d) (K:∀ a b c d,p a b c d→q a b c d→r a b c d→s a b c d→t a b c d→u a b c d→v a b c d→w a b c d→z a b c d→P a b c d→g):g:=h.elim fun a h=>h.elim fun b h=>h.elim fun c h=>h.elim fun d h=>K a b c d h.1 h.2.1 h.2.2.1 h.2.2.2.1 h.2.2.2.2.1 h.2.2.2.2.2.1 h.2.2.2.2.2.2.1 h.2.2.2.2.2.2.2.1 h.2.2.2.2.2.2.2.2.1 h.2.2.2.2.2.2.2.2.2
theorem ob5_1 {A:Sort _}{B:Sort _}{C:Sort _}{D:Sort _}{E:Sort _}{p:A→B→C→D→E→Prop}{g:Prop} (h:∃ a b c d e,p a b c d e) (K:∀ a b c d e,p a b c d e→g):g:=h.elim fun a h=>h.elim fun b h=>h.elim fun c h=>h.elim fun d h=>h.elim fun e h=>K a b c d e h
theorem ob5_3 {A:Sort _}{B:Sort _}{C:Sort _}{D:Sort _}{E:Sort _}{p q r:A→B→C→D→E→Prop}{g:Prop} (h:∃ a b c d e,p a b c d e∧q a b c d e∧r a b c d e) (K:∀ a b c d e,p a b c d e→q a b c d e→r a b c d e→g):g:=h.elim fun a h=>h.elim fun b h=>h.elim fun c h=>h.elim fun d h=>h.elim fun e h=>K a b c d e h.1 h.2.1 h.2.2
theorem ob5_5 {A:Sort _}{B:Sort _}{C:Sort _}{D:Sort _}{E:Sort _}{p q r s t:A→B→C→D→E→Prop}{g:Prop} (h:∃ a b c d e,p a b c d e∧q a b c d e∧r a b c d e∧s a b c d e∧t a b c d e) (K:∀ a b c d e,p a b c d e→q a b c d e→r a b c d e→s a b c d e→t a b c d e→g):g:=h.elim fun a h=>h.elim fun b h=>h.elim fun c h=>h.elim fun d h=>h.elim fun e h=>K a b c d e h.1 h.2.1 h.2.2.1 h.2.2.2.1 h.2.2.2.2
theorem ob5_7 {A:Sort _}{B:Sort _}{C:Sort _}{D:Sort _}{E:Sort _}{p q r s t u v:A→B→C→D→E→Prop}{g:Prop} (h:∃ a b c d e,p a b c d e∧q a b c d e∧r a b c d e∧s a b c d e∧t a b c d e∧u a b c d e∧v a b c d e) (K:∀ a b c d e,p a b c d e→q a b c d e→r a b c d e→s a b c d e→t a b c d e→u a b c d e→v a b c d e→g):g:=h.elim fun a h=>h.elim fun b h=>h.elim fun c h=>h.elim fun d h=>h.elim fun e h=>K a b c d e h.1 h.2.1 h.2.2.1 h.2.2.2.1 h.2.2.2.2.1 h.2.2.2.2.2.1 h.2.2.2.2.2.2
theorem ob6_1 {A:Sort _}{B:Sort _}{C:Sort _}{D:Sort _}{E:Sort _}{F:Sort _}{p:A→B→C→D→E→F→Prop}{g:Prop} (h:∃ a b c d e f,p a b c d e f) (K:∀ a b c d e f,p a b c d e f→g):g:=h.elim fun a h=>h.elim fun b h=>h.elim fun c h=>h.elim fun d h=>h.elim fun e h=>h.elim fun f h=>K a b c d e f h
theorem fl {n : Nat} (h : Nat.ble n 1000 = true) : n ≤ PySem.sizeLine := Nat.le_trans (Nat.le_of_ble_eq_true h) (by decide +kernel)
theorem fm {n k : Nat} (h : Nat.ble n 1000 = true) : n ≤ PySem.sizeLine + k := Nat.le_trans (fl h) (Nat.le_add_right _ _)
end Mine
local macro_rules
  | `(tactic| rw [$r]) => `(tactic| (erw [$r]; try with_reducible rfl))
  | `(tactic| rw [$r, $rs,*]) => `(tactic| (erw [$r]; rw [$rs,*]))
local macro_rules
  | `(tactic| erw [$e:term]) => `(tactic| first | with_reducible refine Mine.rwT ($e ..) ?_ | rewrite [$e:term])
  | `(tactic| erw [← $e:term]) => `(tactic| first | with_reducible refine Mine.rwT (Eq.symm ($e ..)) ?_ | rewrite [← $e:term])
local macro_rules
  | `(tactic| size_fits) => `(tactic| first | exact Mine.fm rfl | exact Mine.fl rfl)
local macro_rules
  | `(tactic| show $t) => `(tactic| refine (?_ : $t))
namespace Mine.LA
inductive T where | v (i:Nat) | n (k:Nat) | a (x y:T) | s (x y:T) | m (k:Nat) (x:T) | l (x y:T) | u (x y:T)
inductive B where | e (x y:T) | q (x y:T) | i (f g:B) | z | o (f g:B) | c (f g:B)
noncomputable abbrev Po:=List Int
noncomputable def KX:List Nat->Nat->Nat
 | [],_=>0
 | x::_,0=>x
 | _::r,i+1=>KX r i
noncomputable def T.den (xs:List Nat):T->Nat
 | v i=>KX xs i
 | n k=>k
 | a x y=>x.den xs+y.den xs
 | s x y=>x.den xs - y.den xs
 | m k x=>k * x.den xs
 | l x y=>min (x.den xs) (y.den xs)
 | u x y=>max (x.den xs) (y.den xs)
noncomputable def B.den (xs:List Nat):B->Prop
 | .e x y=>x.den xs<=y.den xs
 | .q x y=>x.den xs=y.den xs
 | .i f g=>f.den xs->g.den xs
 | .z=>False
 | .o f g=>f.den xs\/g.den xs
 | .c f g=>f.den xs/\g.den xs
noncomputable def dot:List Nat->Po->Int
 | x::xs,p::ps=>x * p+dot xs ps
 | _,_=>0
noncomputable def oG:Po->Po->Po
 | p::ps,q::qs=>(p+q)::oG ps qs
 | [],qs=>qs
 | ps,[]=>ps
noncomputable def vE (k:Int) (p:Po):Po:=p.map (k * ·)
noncomputable def fW (p q:Po):Po:=oG p (vE (-1) q)
noncomputable def unit:Nat->Po
 | 0=>[1]
 | i+1=>0::unit i
theorem kF (p q:Po) (xs:List Nat):dot xs (oG p q)=dot xs p+dot xs q:=by
 induction xs generalizing p q with
 | nil=>rfl
 | cons x xs ih =>
  cases p with
  | nil=>cases q <;> exact (Int.zero_add _).symm
  | cons a p=>cases q with
   | nil=>exact (Int.add_zero _).symm
   | cons b q =>
    refine (congrArg _ (ih p q)).trans ?_
    show (x:Int) * (a+b)+(dot xs p+dot xs q)=_
    rewrite [Int.mul_add]
    exact (Int.add_assoc ..).trans ((congrArg _ (Int.add_left_comm ..)).trans (Int.add_assoc ..).symm)
theorem kE (k:Int) (p:Po) (xs:List Nat):dot xs (vE k p)=k * dot xs p:=by
 induction xs generalizing p with
 | nil=>exact (Int.mul_zero _).symm
 | cons x xs ih =>
  cases p with
  | nil=>exact (Int.mul_zero _).symm
  | cons a p =>
   show x * (k * a)+dot xs (vE k p)=k * (x * a+dot xs p)
   rw [ih,Int.mul_add,Int.mul_left_comm]
theorem xG {p q:Po} {xs:List Nat} {m n:Nat} (h:n<=m) (hp:dot xs p=m) (hq:dot xs q=n):dot xs (fW p q)=((m - n:Nat):Int):=by
 unfold fW
 rewrite [kF,kE,hp,hq,Int.neg_one_mul,<- Int.sub_eq_add_neg]
 exact (Int.ofNat_sub h).symm
theorem gh {p q:Po} {xs:List Nat} {m n:Nat} (h:n<=m) (hp:dot xs p=m) (hq:dot xs q=n):0<=dot xs (fW p q):=by
 rewrite [xG h hp hq];exact Int.natCast_nonneg _
theorem i9 (ys:List Nat):dot ys []=0:=by cases ys <;> rfl
theorem q4 (xs:List Nat) (i:Nat):dot xs (unit i)=KX xs i:=by
 induction xs generalizing i with
 | nil=>cases i <;> rfl
 | cons x xs ih =>
  cases i with
  | zero=>exact (congrArg _ (i9 xs)).trans ((Int.add_zero _).trans (Int.mul_one _))
  | succ i =>
   show (x:Int) * 0+dot xs (unit i)=KX xs i
   rewrite [ih,Int.mul_zero]
   exact Int.zero_add _
noncomputable def bin (l m:List (List Po×Po)) (f:Po->Po->List (List Po×Po)):List (List Po×Po):=l.flatMap λc=>m.flatMap λd=>(f c.2 d.2).map λe=>(e.1++(c.1++d.1),e.2)
noncomputable def wU:T->List (List Po×Po)
 | .v i=>[([],unit (i+1))]
 | .n k=>[([],[(k:Int)])]
 | .a x y=>bin (wU x) (wU y) λp q=>[([],oG p q)]
 | .s x y=>bin (wU x) (wU y) λp q=>[([fW p q],fW p q),([fW q p],[])]
 | .m k x=>(wU x).map λc=>(c.1,vE k c.2)
 | .l x y=>bin (wU x) (wU y) λp q=>[([fW p q],q),([fW q p],p)]
 | .u x y=>bin (wU x) (wU y) λp q=>[([fW p q],p),([fW q p],q)]
noncomputable def Al (ys:List Nat) (l:List Po):Prop:=∀ q∈l,0<=dot ys q
theorem Al.app {ys:List Nat} {l m:List Po} (h:Al ys l) (h':Al ys m):Al ys (l++m):=λq hq=>(List.mem_append.mp hq).elim (h q) (h' q)
theorem Al.cons {ys:List Nat} {p:Po} {l:List Po} (h:0<=dot ys p) (h':Al ys l):Al ys (p::l):=λq hq=>(List.mem_cons.mp hq).elim (λe=>e▸h) (h' q)
theorem Al.nil {ys:List Nat}:Al ys []:=λ_ h=>nomatch h
noncomputable abbrev Ok (ys:List Nat) (l:List (List Po×Po)) (n:Nat):Prop:=∃ c,c∈l/\Al ys c.1/\dot ys c.2=n
theorem Ok.hd {ys:List Nat} {c:List Po×Po} {l:List (List Po×Po)} {n:Nat} (h:Al ys c.1) (e:dot ys c.2=n):Ok ys (c::l) n:=⟨c,List.mem_cons_self ..,h,e⟩
theorem Ok.tl {ys:List Nat} {c:List Po×Po} {l:List (List Po×Po)} {n:Nat} (h:Ok ys l n):Ok ys (c::l) n:=h.elim λd h=>⟨d,List.mem_cons_of_mem _ h.1,h.2⟩
theorem Al.one {ys:List Nat} {p:Po} (h:0<=dot ys p):Al ys [p]:=.cons h .nil
theorem l7 {ys:List Nat} {l m:List (List Po×Po)} {f:Po->Po->List (List Po×Po)} {i j n:Nat} (h:Ok ys l i) (h':Ok ys m j) (hf:∀ p q,dot ys p=i->dot ys q=j->Ok ys (f p q) n):Ok ys (bin l m f) n:=by
 obtain ⟨c,hc,h1,h2⟩:=h
 obtain ⟨d,hd,h3,h4⟩:=h'
 obtain ⟨e,he,h5,h6⟩:=hf _ _ h2 h4
 exact ⟨_,List.mem_flatMap.mpr ⟨c,hc,List.mem_flatMap.mpr ⟨d,hd,List.mem_map.mpr ⟨e,he,rfl⟩⟩⟩,h5.app (h1.app h3),h6⟩
theorem qa {ys:List Nat} {p q a b:Po} {m n k:Nat} (hp:dot ys p=m) (hq:dot ys q=n) (h:n<=m->dot ys a=k) (h':m<=n->dot ys b=k):Ok ys [([fW p q],a),([fW q p],b)] k :=
 (Nat.le_total n m).elim (λe=>.hd (.one (gh e hp hq)) (h e)) λe=>.tl (.hd (.one (gh e hq hp)) (h' e))
theorem yL (xs:List Nat) (t:T):Ok (1::xs) (wU t) (t.den xs):=by
 induction t with
 | v i=>exact .hd .nil (q4 ..)
 | n k=>exact .hd .nil ((congrArg _ (i9 xs)).trans ((Int.add_zero _).trans (Int.one_mul _)))
 | m k x ih=>exact ih.elim λc h=>⟨_,List.mem_map.mpr ⟨c,h.1,rfl⟩,h.2.1,(kE ..).trans ((congrArg _ h.2.2).trans (Int.natCast_mul ..).symm)⟩
 | a x y ih ih'=>exact l7 ih ih' λp q hp hq=>.hd .nil ((kF ..).trans (hp▸hq▸(Int.natCast_add ..).symm))
 | s x y ih ih'=>exact l7 ih ih' λp q hp hq=>qa hp hq (λh=>xG h hp hq) λh=>(i9 _).trans (congrArg _ (Nat.sub_eq_zero_of_le h).symm)
 | l x y ih ih'=>exact l7 ih ih' λp q hp hq=>qa hp hq (λh=>hq.trans (congrArg _ (Nat.min_eq_right h).symm)) λh=>hp.trans (congrArg _ (Nat.min_eq_left h).symm)
 | u x y ih ih'=>exact l7 ih ih' λp q hp hq=>qa hp hq (λh=>hp.trans (congrArg _ (Nat.max_eq_left h).symm)) λh=>hq.trans (congrArg _ (Nat.max_eq_right h).symm)
noncomputable def KO (x y:T) (f:Po->Po->List (List Po)):List (List Po):=(bin (wU x) (wU y) λp q=>(f p q).map (·,[])).map (·.1)
noncomputable def BC (l m:List (List Po)):List (List Po):=l.flatMap λa=>m.map (a ++ ·)
noncomputable def tP:Bool->B->List (List Po)
 | true,.e x y=>KO x y λp q=>[[fW q p]]
 | false,.e x y=>KO x y λp q=>[[fW p (oG q [1])]]
 | true,.q x y=>KO x y λp q=>[[fW q p,fW p q]]
 | false,.q x y=>KO x y λp q=>[[fW p (oG q [1])],[fW q (oG p [1])]]
 | true,.i f g=>tP false f++tP true g
 | false,.i f g=>BC (tP true f) (tP false g)
 | true,.z=>[]
 | false,.z=>[[]]
 | true,.o f g=>tP true f++tP true g
 | false,.o f g=>BC (tP false f) (tP false g)
 | true,.c f g=>BC (tP true f) (tP true g)
 | false,.c f g=>tP false f++tP false g
theorem pC {xs:List Nat} {x y:T} {f:Po->Po->List (List Po)} (h:∀ p q,dot (1::xs) p=x.den xs->dot (1::xs) q=y.den xs->∃ l,l∈f p q/\Al (1::xs) l):∃ l,l∈KO x y f/\Al (1::xs) l :=
 (l7 (n:=0) (yL xs x) (yL xs y) (f:=λp q=>(f p q).map (·,[])) λp q hp hq=>(h p q hp hq).elim λl h=>⟨(l,[]),List.mem_map.mpr ⟨l,h.1,rfl⟩,h.2,i9 _⟩).elim λc h=>⟨c.1,List.mem_map.mpr ⟨c,h.1,rfl⟩,h.2.1⟩
theorem o9 {ys:List Nat} {l m:List (List Po)} (h:∃ a,a∈l/\Al ys a) (h':∃ a,a∈m/\Al ys a):∃ a,a∈BC l m/\Al ys a:=by
 obtain ⟨a,ha,h1⟩:=h
 obtain ⟨b,hb,h2⟩:=h'
 exact ⟨_,List.mem_flatMap.mpr ⟨a,ha,List.mem_map.mpr ⟨b,hb,rfl⟩⟩,h1.app h2⟩
theorem yf {ys:List Nat} {l m:List (List Po)} (h:(∃ a,a∈l/\Al ys a)\/∃ a,a∈m/\Al ys a):∃ a,a∈l++m/\Al ys a:=by
 rcases h with ⟨a,ha,h⟩ | ⟨a,ha,h⟩
 ·exact ⟨a,List.mem_append_left _ ha,h⟩
 ·exact ⟨a,List.mem_append_right _ ha,h⟩
theorem tH {q:Po} {xs:List Nat} {n:Nat} (h:dot (1::xs) q=n):dot (1::xs) (oG q [1])=((n+1:Nat):Int) :=
 (kF ..).trans (h▸congrArg (_ + ·) ((congrArg _ (i9 xs)).trans rfl))
theorem EU (xs:List Nat) (F:B):(F.den xs->∃ l,l∈tP true F/\Al (1::xs) l)/\(¬ F.den xs->∃ l,l∈tP false F/\Al (1::xs) l):=by
 induction F with
 | e x y=>exact ⟨λh=>pC λp q hp hq=>⟨_,List.mem_singleton.mpr rfl,.one (gh h hq hp)⟩,λh=>pC λp q hp hq=>⟨_,List.mem_singleton.mpr rfl,.one (gh (Nat.lt_of_not_le h) hp (tH hq))⟩⟩
 | q x y =>
  refine ⟨λh=>pC λp q hp hq=>⟨_,List.mem_singleton.mpr rfl,.cons (gh (Nat.le_of_eq h) hq hp) (.one (gh (Nat.le_of_eq h.symm) hp hq))⟩,λh=>pC λp q hp hq=>?_⟩
  rcases Nat.lt_or_gt_of_ne h with h | h
  ·exact ⟨_,List.mem_cons_of_mem _ (List.mem_cons_self ..),.one (gh h hq (tH hp))⟩
  ·exact ⟨_,List.mem_cons_self ..,.one (gh h hp (tH hq))⟩
 | i f g ih ih' =>
  refine ⟨λh=>yf ?_,λh=>?_⟩
  ·by_cases hf:f.den xs
   ·exact .inr (ih'.1 (h hf))
   ·exact .inl (ih.2 hf)
  ·have:=Classical.not_imp.mp h
   exact o9 (ih.1 this.1) (ih'.2 this.2)
 | z=>exact ⟨λh=>h.elim,λ_=>⟨[],List.mem_singleton.mpr rfl,.nil⟩⟩
 | o f g ih ih'=>exact ⟨λh=>yf (h.imp ih.1 ih'.1),λh=>o9 (ih.2 λx=>h (.inl x)) (ih'.2 λx=>h (.inr x))⟩
 | c f g ih ih' =>
  refine ⟨λh=>o9 (ih.1 h.1) (ih'.1 h.2),λh=>yf ?_⟩
  by_cases hf:f.den xs
  ·exact .inr (ih'.2 λx=>h ⟨hf,x⟩)
  ·exact .inl (ih.2 hf)
noncomputable def bad (p:Po):Bool:=match p with
 | c::r=>decide (c<0) && r.all λx=>decide (x=0)
 | []=>false
noncomputable def cf (i:Nat) (p:Po):Int:=p.getD i 0
noncomputable def un:Nat->List Po->Bool
 | 0,l=>l.any bad
 | i+1,l=>l.any bad || un i ((l.filter λp=>decide (cf (i+1) p=0))++(l.filter λp=>decide (0<cf (i+1) p)).flatMap λp=>(l.filter λp=>decide (cf (i+1) p<0)).map λq=>oG (vE (-cf (i+1) q) p) (vE (cf (i+1) p) q))
theorem Ky (xs:List Nat):∀ (p:Po),(p.all λx=>decide (x=0))=true->dot xs p=0:=by
 induction xs with
 | nil=>exact λ_ _=>rfl
 | cons x xs ih =>
  intro p h
  cases p with
  | nil=>rfl
  | cons c p =>
   have h:=Bool.and_eq_true_iff.mp h
   show (x:Int) * c+dot xs p=0
   rewrite [ih p h.2,of_decide_eq_true h.1,Int.mul_zero];rfl
theorem E6 {xs:List Nat} {p:Po} (h:bad p=true) (h':0<=dot (1::xs) p):False:=by
 cases p with
 | nil=>cases h
 | cons c r =>
  have h:=Bool.and_eq_true_iff.mp h
  have e:dot (1::xs) (c::r)=c:=(congrArg _ (Ky xs r h.2)).trans ((Int.add_zero _).trans (Int.one_mul c))
  exact absurd (of_decide_eq_true h.1) (Int.not_lt.mpr (e▸h'))
theorem IT {xs:List Nat} (i:Nat):∀ (l:List Po),un i l=true->Al (1::xs) l->False:=by
 have an:∀ l:List Po,l.any bad=true->Al (1::xs) l->False:=λl h a=>(List.any_eq_true.mp h).elim λp h=>E6 h.2 (a p h.1)
 induction i with
 | zero=>exact an
 | succ i ih =>
  intro l h a
  refine (Bool.or_eq_true_iff.mp h).elim (λh=>an l h a) λh=>ih _ h (Al.app (λq hq=>a q (List.mem_filter.mp hq).1) λq hq=>?_)
  obtain ⟨p,hp,hq⟩:=List.mem_flatMap.mp hq
  obtain ⟨n,hn,rfl⟩:=List.mem_map.mp hq
  have hp:=List.mem_filter.mp hp
  have hn:=List.mem_filter.mp hn
  rewrite [kF,kE,kE]
  exact Int.add_nonneg (Int.mul_nonneg (Int.neg_nonneg_of_nonpos (Int.le_of_lt (of_decide_eq_true hn.2))) (a _ hp.1)) (Int.mul_nonneg (Int.le_of_lt (of_decide_eq_true hp.2)) (a _ hn.1))
noncomputable def Nf:Nat->List Po
 | 0=>[]
 | n+1=>unit (n+1)::Nf n
theorem yv (xs:List Nat):∀ n,Al (1::xs) (Nf n)
 | 0=>.nil
 | n+1=>.cons (by rewrite [q4];exact Int.natCast_nonneg _) (yv xs n)
noncomputable def Fz (n:Nat) (F:B):Bool:=(tP false F).all λl=>un n (l++Nf n)
theorem la (F:B) (xs:List Nat) (h:Fz xs.length F=true:=by kernel_rfl):F.den xs:=Classical.byContradiction λhn=>by
 obtain ⟨l,hl,a⟩:=(EU xs F).2 hn
 exact IT _ _ (List.all_eq_true.mp h l hl) (a.app (yv xs _))
noncomputable abbrev T.e (x y:T):B:=.e x y
noncomputable abbrev T.q (x y:T):B:=.q x y
noncomputable abbrev T.t (x y:T):B:=.e (.a x (.n 1)) y
namespace A
noncomputable abbrev s:T:=.v 0
noncomputable abbrev t:T:=.v 1
noncomputable abbrev u:T:=.v 2
noncomputable abbrev v:T:=.v 3
noncomputable abbrev w:T:=.v 4
noncomputable abbrev x:T:=.v 5
noncomputable abbrev y:T:=.v 6
noncomputable abbrev z:T:=.v 7
noncomputable abbrev m:T:=.v 8
noncomputable abbrev n:T:=.v 9
noncomputable abbrev o:T:=.v 10
theorem dv {x k:Nat} (h:0<k):k * (x / k)<=x/\x+1<=k * (x / k)+k:=⟨Nat.mul_div_le x k,Nat.lt_mul_div_succ x h⟩
end A
end Mine.LA
namespace Mine
open LA LA.A PyProof.Rows
theorem OA {a:Int}{b:Int}(h0:b<a):0<=a - b - 1:=by lia
theorem PT {a b c:Nat}:b<=c->a+c<900->a+b<900:=la ((t.e u).i (((s.a u).t (.n 900)).i ((s.a t).t (.n 900)))) [a,b,c]
theorem PS {a b c:Nat}:a=c->c<=b->a<=b:=la ((s.q u).i ((u.e t).i (s.e t))) [a,b,c]
theorem PR {a b c:Nat}:b<=c->a+20*c<9000->a+20*b<9000:=la ((t.e u).i (((s.a (.m 20 u)).t (.n 9000)).i ((s.a (.m 20 t)).t (.n 9000)))) [a,b,c]
theorem Mr {a b:Nat}:b<a->a+1 - (b+1)<a+1 - b:=la ((t.t s).i (((s.a (.n 1)).s (t.a (.n 1))).t ((s.a (.n 1)).s t))) [a,b]
theorem PO {a b c d e f g:Nat}:a+e<=d->f<g->b+c<=e->a+b+c<=d:=la (((s.a w).e v).i ((x.t y).i (((t.a u).e w).i (((s.a t).a u).e v)))) [a,b,c,d,e,f,g]
theorem PN {a b c d e:Nat}:b<=60->a+20*e<9000->min b c<=b->d=9900->a+min b c<d:=la ((t.e (.n 60)).i (((s.a (.m 20 w)).t (.n 9000)).i (((t.l u).e t).i ((v.q (.n 9900)).i ((s.a (t.l u)).t v))))) [a,b,c,d,e]
theorem IM {a b:Nat}:a+20*(b+1)<9000->a+1+20*b<9000:=la (((s.a (.m 20 (t.a (.n 1)))).t (.n 9000)).i (((s.a (.n 1)).a (.m 20 t)).t (.n 9000))) [a,b]
theorem IE {a b c d e:Nat}:a+20*e<9000->min b c<=c->c<=60->d=9900->a+1+min b c<d:=la (((s.a (.m 20 w)).t (.n 9000)).i (((t.l u).e u).i ((u.e (.n 60)).i ((v.q (.n 9900)).i (((s.a (.n 1)).a (t.l u)).t v))))) [a,b,c,d,e]
theorem w7 {a:Nat}:¬(a:Int)<0:=Int.not_lt.mpr (Int.natCast_nonneg a)
theorem Ii {a b:Nat}:a+(b+1)<900->a+1+b<900:=la (((s.a (t.a (.n 1))).t (.n 900)).i (((s.a (.n 1)).a t).t (.n 900))) [a,b]
theorem MW {a b c:Nat}:c<=4*(b+1)->0<c - 4->c - 4=a+1->a+1<=4*b:=la ((u.e (.m 4 (t.a (.n 1)))).i (((T.n 0).t (u.s (.n 4))).i (((u.s (.n 4)).q (s.a (.n 1))).i (s.t (.m 4 t))))) [a,b,c]
theorem MV {a b:Nat}:a+20*(b+1)<9000->a+3+20*b<9000:=la (((s.a (.m 20 (t.a (.n 1)))).t (.n 9000)).i (((s.a (.n 3)).a (.m 20 t)).t (.n 9000))) [a,b]
theorem C_ {a:Bool}{b:Nat}{c:Nat}(h0:b<=c)(h1:c<b):a=false:=by lia
theorem MU {a b:Nat}:a<=b->b - a=0->a=b:=la ((s.e t).i (((t.s s).q (.n 0)).i (s.q t))) [a,b]
theorem MT {a b:Nat}:a+(b+1)<900->a<1000:=la (((s.a (t.a (.n 1))).t (.n 900)).i (s.t (.n 1000))) [a,b]
theorem MS {a b c:Nat}:b<=4*(a+1)->0<b - 4->b - 4=c+1->0<a:=la ((t.e (.m 4 (s.a (.n 1)))).i (((T.n 0).t (t.s (.n 4))).i (((t.s (.n 4)).q (u.a (.n 1))).i ((T.n 0).t s)))) [a,b,c]
theorem MR {a b c:Nat}:a<=b+(c+1)->a<=b+1+c:=la ((s.e (t.a (u.a (.n 1)))).i (s.e ((t.a (.n 1)).a u))) [a,b,c]
theorem MQ {a b c:Nat}:a<=b->b - a=c+1->a<b:=la ((s.e t).i (((t.s s).q (u.a (.n 1))).i (s.t t))) [a,b,c]
theorem MO {a b c:Nat}:b<=a->a - b=c+1->b<a->a - (b+1)=c:=la ((t.e s).i (((s.s t).q (u.a (.n 1))).i ((t.t s).i ((s.s (t.a (.n 1))).q u)))) [a,b,c]
theorem GP {a b:Nat}:b<a->¬a - b<1:=la ((t.t s).i (((s.s t).t (.n 1)).i .z)) [a,b]
theorem MN {a b c d:Nat}:c - d=b+1->a<=3*b+8->a+1+1<=3*(b+1)+8:=la (((u.s v).q (t.a (.n 1))).i ((s.e ((T.m 3 t).a (.n 8))).i ((s.a (.n 1)).t ((T.m 3 (t.a (.n 1))).a (.n 8))))) [a,b,c,d]
theorem MM {a b c d:Nat}:c - d=b+1->a<=3*b+8->a+1+1+1<=3*(b+1)+8:=la (((u.s v).q (t.a (.n 1))).i ((s.e ((T.m 3 t).a (.n 8))).i (((s.a (.n 1)).a (.n 1)).t ((T.m 3 (t.a (.n 1))).a (.n 8))))) [a,b,c,d]
theorem ML {a b c:Nat}:b<c->a=c->a<=b+(a+1 - b):=la ((t.t u).i ((s.q u).i (s.e (t.a ((s.a (.n 1)).s t))))) [a,b,c]
theorem MK {a b c d:Nat}:a<=d->b<=d->d=1048576->c=16777216->a+b<=c:=la ((s.e v).i ((t.e v).i ((v.q (.n 1048576)).i ((u.q (.n 16777216)).i ((s.a t).e u))))) [a,b,c,d]
theorem MJ {a b c:Nat}:a<=c->c=1048576->b=16777216->a<=b:=la ((s.e u).i ((u.q (.n 1048576)).i ((t.q (.n 16777216)).i (s.e t)))) [a,b,c]
theorem MI {a b c:Nat}:a=c+1->c<b->a<=b:=la ((s.q (u.a (.n 1))).i ((u.t t).i (s.e t))) [a,b,c]
theorem MH {a b c d e:Nat}:b<=e->c<=e->a<=b->e=1048576->d=16777216->min a b+c<=d+1:=la ((t.e w).i ((u.e w).i ((s.e t).i ((w.q (.n 1048576)).i ((v.q (.n 16777216)).i (((s.l t).a u).e (v.a (.n 1)))))))) [a,b,c,d,e]
theorem MG {a b c:Nat}:a<=c->b<=c->c=1048576->a+b<=16777216:=la ((s.e u).i ((t.e u).i ((u.q (.n 1048576)).i ((s.a t).e (.n 16777216))))) [a,b,c]
theorem MF {a b:Nat}:a+b<900->a<1000:=la (((s.a t).t (.n 900)).i (s.t (.n 1000))) [a,b]
theorem ME {a b c:Nat}:a=c->(¬b<c)->a<=b:=la ((s.q u).i (((t.t u).i .z).i (s.e t))) [a,b,c]
theorem MD {a b c:Nat}:a<=c->c=1048576->a+b*0<=16777216:=la ((v.q (.m 0 t)).i ((s.e u).i ((u.q (.n 1048576)).i ((s.a v).e (.n 16777216))))) [a,b,c,(b*0)] (by kernel_rfl) (Nat.mul_comm ..)
theorem MB {a b:Nat}:a+20*b<9000->a<9900:=la (((s.a (.m 20 t)).t (.n 9000)).i (s.t (.n 9900))) [a,b]
theorem FN {a:Nat}(h:¬a=0):(a:Int)≠0:=λe=>h (Int.natCast_eq_zero.mp e)
theorem wZ {a b c d:Nat}:a+d<=c->b<d->a+b<c:=la (((s.a v).e u).i ((t.t v).i ((s.a t).t u))) [a,b,c,d]
theorem MA {a b c d:Nat}:a<=d+c->d<=b+1->a<=b+(c+1):=la ((s.e (v.a u)).i ((v.e (t.a (.n 1))).i (s.e (t.a (u.a (.n 1)))))) [a,b,c,d]
theorem Mz {a b c:Nat}:a<c->(¬c - a<=b)->a+b<c:=la ((s.t u).i ((((u.s s).e t).i .z).i ((s.a t).t u))) [a,b,c]
theorem My {a b c:Nat}:b=c->b - a=0->a<=b->a=b:=la ((t.q u).i (((t.s s).q (.n 0)).i ((s.e t).i (s.q t)))) [a,b,c]
theorem C9 {a b c d e:Nat}:a+d<=c->1<=e->e<=b->b<d->a+b - 1<c:=la (((s.a v).e u).i (((T.n 1).e w).i ((w.e t).i ((t.t v).i (((s.a t).s (.n 1)).t u))))) [a,b,c,d,e]
theorem Mx {a b c:Nat}:a<c->a+min b (c - a)<=c:=la ((s.t u).i ((s.a (t.l (u.s s))).e u)) [a,b,c]
theorem Mw {a b c d:Nat}:b=c->b - a=d+1->a<=b->a<b:=la ((t.q u).i (((t.s s).q (v.a (.n 1))).i ((s.e t).i (s.t t)))) [a,b,c,d]
theorem Mv {a:Nat}:1<=a->a - 1<a:=la (((T.n 1).e s).i ((s.s (.n 1)).t s)) [a]
theorem FL {a b c:Nat}:b<=c->(¬b<=a)->a+(b - a)/2<c:=la ((((T.m 2 v).e (t.s s)).c ((t.s s).t ((T.m 2 v).a (.n 2)))).i ((t.e u).i (((t.e s).i .z).i ((s.a v).t u)))) [a,b,c,((b-a)/2)] (by kernel_rfl) (dv (by decide))
theorem Mu {a b c d:Nat}:c+1<b->a<=d->d<=c->a+1<b:=la (((u.a (.n 1)).t t).i ((s.e v).i ((v.e u).i ((s.a (.n 1)).t t)))) [a,b,c,d]
theorem FJ {a b c:Nat}:b<=c->(¬b<=a)->a+(b - a)/2<=c:=la ((((T.m 2 v).e (t.s s)).c ((t.s s).t ((T.m 2 v).a (.n 2)))).i ((t.e u).i (((t.e s).i .z).i ((s.a v).e u)))) [a,b,c,((b-a)/2)] (by kernel_rfl) (dv (by decide))
theorem Mt {a b c d:Nat}:a=d->a - b=c+1->b<=a->b<a->a - (b+1)=c:=la ((s.q v).i (((s.s t).q (u.a (.n 1))).i ((t.e s).i ((t.t s).i ((s.s (t.a (.n 1))).q u))))) [a,b,c,d]
theorem Ms {a b c d:Nat}:a+b+(d+1)<=c->a+b<c:=la ((((s.a t).a (v.a (.n 1))).e u).i ((s.a t).t u)) [a,b,c,d]
theorem Mq {a b c d:Nat}:1<=a->a+b+c<=d->a - 1+b+(c+1)<=d:=la (((T.n 1).e s).i ((((s.a t).a u).e v).i ((((s.s (.n 1)).a t).a (u.a (.n 1))).e v))) [a,b,c,d]
theorem Mp {a b c d:Nat}:a+b+(c+1)<=d->a+(b+1)+c<=d:=la ((((s.a t).a (u.a (.n 1))).e v).i (((s.a (t.a (.n 1))).a u).e v)) [a,b,c,d]
theorem Mn {a:Nat}:a+1<=2*(a+1+0):=la (s.t (.m 2 ((s.a (.n 1)).a (.n 0)))) [a]
theorem Mm {a b c d:Nat}:2<=b->a+b+c<=d->a+(b - 1)+(c+1)<=d:=la (((T.n 2).e t).i ((((s.a t).a u).e v).i (((s.a (t.s (.n 1))).a (u.a (.n 1))).e v))) [a,b,c,d]
theorem Ml {a b c d:Nat}:c+1<a->d<b->¬1+(a+b)<=c+d:=la (((u.a (.n 1)).t s).i ((v.t t).i ((((T.n 1).a (s.a t)).e (u.a v)).i .z))) [a,b,c,d]
theorem Mk {a:Nat}:a+1+1<128->(a+1+1)/2<64:=la ((((T.m 2 t).e ((s.a (.n 1)).a (.n 1))).c (((s.a (.n 1)).a (.n 1)).t ((T.m 2 t).a (.n 2)))).i ((((s.a (.n 1)).a (.n 1)).t (.n 128)).i (t.t (.n 64)))) [a,(((a+1)+1)/2)] (by kernel_rfl) (dv (by decide))
theorem Mj {a b c d:Nat}:1<=c->a+c=d->b=d->a<b:=la (((T.n 1).e u).i (((s.a u).q v).i ((t.q v).i (s.t t)))) [a,b,c,d]
theorem Mi {a b c:Nat}:1<=c->a+c<=b->a<b:=la (((T.n 1).e u).i (((s.a u).e t).i (s.t t))) [a,b,c]
theorem Mh {a b c d e:Nat}:a+b+(c+e+1)<=d->a+b+(c+1)<=d:=la ((((s.a t).a ((u.a w).a (.n 1))).e v).i (((s.a t).a (u.a (.n 1))).e v)) [a,b,c,d,e]
theorem Mg {a:Nat}:1<=(a+1+1)/2+(a+1+1) % 2:=la ((((T.m 2 t).e ((s.a (.n 1)).a (.n 1))).c (((s.a (.n 1)).a (.n 1)).t ((T.m 2 t).a (.n 2)))).i ((u.t (.n 2)).i ((u.e ((s.a (.n 1)).a (.n 1))).i ((T.n 1).e (t.a u))))) [a,(((a+1)+1)/2),(((a+1)+1)%2)] (by kernel_rfl) (dv (by decide)) (Nat.mod_lt _ (by decide)) (Nat.mod_le ..)
theorem Mf {a b c d:Nat}:1<=c->a+c=d->b=d->0+a<=b:=la (((T.n 1).e u).i (((s.a u).q v).i ((t.q v).i (((T.n 0).a s).e t)))) [a,b,c,d]
theorem Me {a b c d e:Nat}:1<=b->1<=d->b+d=e->c=e->(¬b - a=0)->0+a+(b - a) - 1<c:=la (((T.n 1).e t).i (((T.n 1).e v).i (((t.a v).q w).i ((u.q w).i ((((t.s s).q (.n 0)).i .z).i (((((T.n 0).a s).a (t.s s)).s (.n 1)).t u)))))) [a,b,c,d,e]
theorem Mc {a b c d:Nat}:¬a+b+(1+(c+d))<=c+d:=la ((((s.a t).a ((T.n 1).a (u.a v))).e (u.a v)).i .z) [a,b,c,d]
theorem Mb {a b:Nat}:b=a->b<2->a<=16777216+1:=la ((t.q s).i ((t.t (.n 2)).i (s.e ((T.n 16777216).a (.n 1))))) [a,b]
theorem FI {a b c:Nat}:1<b->b+1<=c->c<=a->1<=a:=la (((T.n 1).t t).i ((t.t u).i ((u.e s).i ((T.n 1).e s)))) [a,b,c]
theorem Ma {a b c d:Nat}:a+b=d->c=d->a+b<=c:=la (((s.a t).q v).i ((u.q v).i ((s.a t).e u))) [a,b,c,d]
theorem L_ {a:Nat}:(¬a+1+1<64)->(a+1+1)/2+(a+1+1) % 2<=a+1+1:=la ((((T.m 2 t).e ((s.a (.n 1)).a (.n 1))).c (((s.a (.n 1)).a (.n 1)).t ((T.m 2 t).a (.n 2)))).i ((u.t (.n 2)).i ((u.e ((s.a (.n 1)).a (.n 1))).i (((((s.a (.n 1)).a (.n 1)).t (.n 64)).i .z).i ((t.a u).e ((s.a (.n 1)).a (.n 1))))))) [a,(((a+1)+1)/2),(((a+1)+1)%2)] (by kernel_rfl) (dv (by decide)) (Nat.mod_lt _ (by decide)) (Nat.mod_le ..)
theorem L8 {a b c d:Nat}:(¬a<d)->a<=b - c->b<=c+d->a=b - c:=la (((s.t v).i .z).i ((s.e (t.s u)).i ((t.e (u.a v)).i (s.q (t.s u))))) [a,b,c,d]
theorem L7 {a b c d e:Nat}:1<=d->a+d=e->b=e->(¬a - c=0)->min a b - c=a - c:=la (((T.n 1).e v).i (((s.a v).q w).i ((t.q w).i ((((s.s u).q (.n 0)).i .z).i (((s.l t).s u).q (s.s u)))))) [a,b,c,d,e]
theorem L6 {a b:Nat}:b<=16->a=b->a<=16:=la ((t.e (.n 16)).i ((s.q t).i (s.e (.n 16)))) [a,b]
theorem L5 {a b:Nat}:2<=b->(b=1\/a=b)->a=b:=la (((T.n 2).e t).i (((t.q (.n 1)).o (s.q t)).i (s.q t))) [a,b]
theorem FH {a b c:Nat}:1<=b->(¬1<b)->b+1<=c->c<=a->1<=a:=la (((T.n 1).e t).i ((((T.n 1).t t).i .z).i ((t.t u).i ((u.e s).i ((T.n 1).e s))))) [a,b,c]
theorem LZ {a b c d e:Nat}:1<=d->a+d=e->c=e->b<=d->(¬b=0)->min (a+b) c - a=b:=la (((T.n 1).e v).i (((s.a v).q w).i ((u.q w).i ((t.e v).i (((t.q (.n 0)).i .z).i ((((s.a t).l u).s s).q t)))))) [a,b,c,d,e]
theorem LY {a b:Nat}:a=b+1->0<a:=la ((s.q (t.a (.n 1))).i ((T.n 0).t s)) [a,b]
theorem LX {a b:Nat}:a=b+1->a - 1=b:=la ((s.q (t.a (.n 1))).i ((s.s (.n 1)).q t)) [a,b]
theorem FG {a:Prop}{b:Nat}{c:Nat}{d:Bool}(h0:b=c)(h1:b<=1)(h2:d=false/\1<b):a:=by lia
theorem LW {a b c d e f:Nat}:b+e=f->d=f->(¬b - a=0)->c<=e->0+a+0+(b - a+c)<=d:=la (((t.a w).q x).i ((v.q x).i ((((t.s s).q (.n 0)).i .z).i ((u.e w).i (((((T.n 0).a s).a (.n 0)).a ((t.s s).a u)).e v))))) [a,b,c,d,e,f]
theorem LV {a b c:Nat}:(¬b - a=0)->a+(b - a+c)=b+c:=la ((((t.s s).q (.n 0)).i .z).i ((s.a ((t.s s).a u)).q (t.a u))) [a,b,c]
theorem FF {a:Nat}(h:a≠0):(a:Int)≠0:=λe=>h (Int.natCast_eq_zero.mp e)
theorem LU {a b c d e f:Nat}:a+e<=d->f<e->b<=f->c<=f->a+(b+c)/2<d:=la ((((T.m 2 y).e (t.a u)).c ((t.a u).t ((T.m 2 y).a (.n 2)))).i (((s.a w).e v).i ((x.t w).i ((t.e x).i ((u.e x).i ((s.a y).t v)))))) [a,b,c,d,e,f,((b+c)/2)] (by kernel_rfl) (dv (by decide))
theorem LS {a b:Nat}:a<128->b=1048576->a<=b:=la ((s.t (.n 128)).i ((t.q (.n 1048576)).i (s.e t))) [a,b]
theorem LP {a b c d:Nat}:b<=c*d->a<=d->a+b<=c*d+d:=la ((t.e w).i ((s.e v).i ((s.a t).e (w.a v)))) [a,b,c,d,(c*d)]
theorem LO {a b:Nat}:(a:Int)<b↔a<b:=Int.ofNat_lt
theorem LN {a b:Nat}:(a:Int)<=b↔a<=b:=Int.ofNat_le
theorem LL {a b c:Nat}:a<=c->b<=c->(a+b)/2<=c:=la ((((T.m 2 v).e (s.a t)).c ((s.a t).t ((T.m 2 v).a (.n 2)))).i ((s.e u).i ((t.e u).i (v.e u)))) [a,b,c,((a+b)/2)] (by kernel_rfl) (dv (by decide))
theorem LK {a b:Nat}:b<=1000000->a<=b+2->a<=16777216:=la ((t.e (.n 1000000)).i ((s.e (t.a (.n 2))).i (s.e (.n 16777216)))) [a,b]
theorem LJ {a b c:Nat}:a<=c->b<=c->(¬b<=a)->(a+b)/2+1<=c:=la ((((T.m 2 v).e (s.a t)).c ((s.a t).t ((T.m 2 v).a (.n 2)))).i ((s.e u).i ((t.e u).i (((t.e s).i .z).i (v.t u))))) [a,b,c,((a+b)/2)] (by kernel_rfl) (dv (by decide))
theorem LI {a b c:Nat}:b<=c*1000000->a<=1000000->a+b<=c*1000000+1*1000000:=la ((v.q (.m 1000000 u)).i ((t.e v).i ((s.e (.n 1000000)).i ((s.a t).e (v.a (.m 1 (.n 1000000))))))) [a,b,c,(c*1000000)] (by kernel_rfl) (Nat.mul_comm ..)
theorem LG {a b c:Nat}:b=c->a+b - a=c:=la ((t.q u).i (((s.a t).s s).q u)) [a,b,c]
theorem LF {a b c d:Nat}:b+(c+1)=d+1->a=d->b=d->a<=b:=la (((t.a (u.a (.n 1))).q (v.a (.n 1))).i ((s.q v).i ((t.q v).i (s.e t)))) [a,b,c,d]
theorem LB {a b c:Nat}:b<=c->c=1048576->min a b<=1048576:=la ((t.e u).i ((u.q (.n 1048576)).i ((s.l t).e (.n 1048576)))) [a,b,c]
theorem Lz {a b c:Nat}:a<=c->c - a=b->a+b=c:=la ((s.e u).i (((u.s s).q t).i ((s.a t).q u))) [a,b,c]
theorem Ly {a b c d:Nat}:b+(c+1)=d+1->a=d->b=d->a<=b+1:=la (((t.a (u.a (.n 1))).q (v.a (.n 1))).i ((s.q v).i ((t.q v).i (s.e (t.a (.n 1)))))) [a,b,c,d]
theorem Lx {a b c d e:Nat}:a<=d->d - a=b+(c+e)->a+b+c<=d:=la ((s.e v).i (((v.s s).q (t.a (u.a w))).i (((s.a t).a u).e v))) [a,b,c,d,e]
theorem Lw {a b c:Nat}:a<=b->b<=c->b - a=c->a=0:=la ((s.e t).i ((t.e u).i (((t.s s).q u).i (s.q (.n 0))))) [a,b,c]
theorem Lv {a b c d:Nat}:1<=a->b+(c+1)=d+1->b=d->b+a<=d->False:=la (((T.n 1).e s).i (((t.a (u.a (.n 1))).q (v.a (.n 1))).i ((t.q v).i (((t.a s).e v).i .z)))) [a,b,c,d]
theorem Lu {a b c:Nat}:a<=b->a - c=b->c=0->a=b:=la ((s.e t).i (((s.s u).q t).i ((u.q (.n 0)).i (s.q t)))) [a,b,c]
theorem w9 {a b c:Nat}:a+(b+1)=c+1->a+1+b=c+1:=la (((s.a (t.a (.n 1))).q (u.a (.n 1))).i (((s.a (.n 1)).a t).q (u.a (.n 1)))) [a,b,c]
theorem IL {a b:Nat}:a - 1<b->a<=b:=la (((s.s (.n 1)).t t).i (s.e t)) [a,b]
theorem Cr {a b c d:Nat}:a+(c+1)=d+1->b=d->(¬a=d)->a<b:=la (((s.a (u.a (.n 1))).q (v.a (.n 1))).i ((t.q v).i (((s.q v).i .z).i (s.t t)))) [a,b,c,d]
theorem IK {a b c d e f:Nat}:a+(d+1)=c+1->e=b->f=c->(¬a=c)->e=min e (f - a)->a+b<=c:=la (((s.a (v.a (.n 1))).q (u.a (.n 1))).i ((w.q t).i ((x.q u).i (((s.q u).i .z).i ((w.q (w.l (x.s s))).i ((s.a t).e u)))))) [a,b,c,d,e,f]
theorem Cq {a b:Nat}:((a:Int)+b)/2=((a+b)/2:Nat):=rfl
theorem IJ {a b c:Nat}:1<=b->c=b->a+b - (a+1)=c - 1:=la (((T.n 1).e t).i ((u.q t).i (((s.a t).s (s.a (.n 1))).q (u.s (.n 1))))) [a,b,c]
theorem II {a b c:Nat}:b<=65536->c=b->a<=2*c->a<=131072:=la ((t.e (.n 65536)).i ((u.q t).i ((s.e (.m 2 u)).i (s.e (.n 131072))))) [a,b,c]
theorem IG {a b c:Nat}:b=1048576->a<=2*c->c<=131072->a<=b:=la ((t.q (.n 1048576)).i ((s.e (.m 2 u)).i ((u.e (.n 131072)).i (s.e t)))) [a,b,c]
theorem IF {a b c d:Nat}:c+(d+1)=b+1->a<=c->(¬c=b)->a<b+1:=la (((u.a (v.a (.n 1))).q (t.a (.n 1))).i ((s.e u).i (((u.q t).i .z).i (s.t (t.a (.n 1)))))) [a,b,c,d]
theorem ID {a b:Nat}:a<=65536->b=1048576->2*(a - 0)+1<=b:=la ((s.e (.n 65536)).i ((t.q (.n 1048576)).i ((T.m 2 (s.s (.n 0))).t t))) [a,b]
theorem IC {a b:Nat}:a - b=0->a<=b:=la (((s.s t).q (.n 0)).i (s.e t)) [a,b]
theorem IB {a b:Nat}:b=1048576->a<=131072->a<=b:=la ((t.q (.n 1048576)).i ((s.e (.n 131072)).i (s.e t))) [a,b]
theorem IA {a:Nat}:0<a+1:=la ((T.n 0).t (s.a (.n 1))) [a]
theorem Iz {a b:Nat}:b=1048576->a<=131072->2*(a - 0)+1<=b:=la ((t.q (.n 1048576)).i ((s.e (.n 131072)).i ((T.m 2 (s.s (.n 0))).t t))) [a,b]
theorem Iw {a b c:Nat}:b=a+c->a<=b:=la ((t.q (s.a u)).i (s.e t)) [a,b,c]
theorem Iv {a:Nat}:a - 0=a - 0:=la ((s.s (.n 0)).q (s.s (.n 0))) [a]
theorem Iu {a b:Nat}:a≠0->a+b≠0:=la (((s.q (.n 0)).i .z).i (((s.a t).q (.n 0)).i .z)) [a,b]
theorem w6 {a b:Nat}:a+1<=1000->b=1048576->a+1<=b:=la ((s.t (.n 1000)).i ((t.q (.n 1048576)).i (s.t t))) [a,b]
theorem Ir {a b:Nat}:a=1->a+b=b+1:=la ((s.q (.n 1)).i ((s.a t).q (t.a (.n 1)))) [a,b]
theorem Iq {a b c:Nat}:b<=1000->0<b->c<b - 1->b - 1 - c=a->0<a:=la ((t.e (.n 1000)).i (((T.n 0).t t).i ((u.t (t.s (.n 1))).i ((((t.s (.n 1)).s u).q s).i ((T.n 0).t s))))) [a,b,c]
theorem Ip {a b c:Nat}:b - 1 - c=a->0<a->a<b:=la ((((t.s (.n 1)).s u).q s).i (((T.n 0).t s).i (s.t t))) [a,b,c]
theorem Io {a b:Nat}:a<b+1->min a b+(b - a+1)=b+1:=la ((s.t (t.a (.n 1))).i (((s.l t).a ((t.s s).a (.n 1))).q (t.a (.n 1)))) [a,b]
theorem Im {a b c d:Nat}:a - 1 - b=d->d<c->a - 1 - b<c:=la ((((s.s (.n 1)).s t).q v).i ((v.t u).i (((s.s (.n 1)).s t).t u))) [a,b,c,d]
theorem Il {a b:Nat}:b+1<=1000->a=b+1->a<=1000:=la ((t.t (.n 1000)).i ((s.q (t.a (.n 1))).i (s.e (.n 1000)))) [a,b]
theorem Ik {a b:Nat}:b=1048576->min 60 a<=b:=la ((t.q (.n 1048576)).i (((T.n 60).l s).e t)) [a,b]
theorem Ij {a b c d:Nat}:a - 1 - b=d->0<d->a - 1 - (b+1)<c->(¬c=d)->a - 1 - b<c:=la ((((s.s (.n 1)).s t).q v).i (((T.n 0).t v).i ((((s.s (.n 1)).s (t.a (.n 1))).t u).i (((u.q v).i .z).i (((s.s (.n 1)).s t).t u))))) [a,b,c,d]
theorem w5 {a b:Nat}:b/16 % 4=a->a<4:=la ((((T.m 16 u).e t).c (t.t ((T.m 16 u).a (.n 16)))).i ((v.t (.n 4)).i ((v.e u).i ((v.q s).i (s.t (.n 4)))))) [a,b,(b/16),((b/16)%4)] (by kernel_rfl) (dv (by decide)) (Nat.mod_lt _ (by decide)) (Nat.mod_le ..)
theorem Cp {a:Nat}:a=1048576->6<=a:=la ((s.q (.n 1048576)).i ((T.n 6).e s)) [a]
theorem Co {a b c:Nat}:(b/7+c) % 3=a->a<3:=la ((((T.m 7 v).e t).c (t.t ((T.m 7 v).a (.n 7)))).i ((w.t (.n 3)).i ((w.e (v.a u)).i ((w.q s).i (s.t (.n 3)))))) [a,b,c,(b/7),(((b/7)+c)%3)] (by kernel_rfl) (dv (by decide)) (Nat.mod_lt _ (by decide)) (Nat.mod_le ..)
theorem Ih {a:Nat}:1+a % 2<=2:=la ((t.t (.n 2)).i ((t.e s).i (((T.n 1).a t).e (.n 2)))) [a,(a%2)] (by kernel_rfl) (Nat.mod_lt _ (by decide)) (Nat.mod_le ..)
theorem Ig {a b c d:Nat}:a+(b+d)<=c->c=1048576->a+b<=c:=la (((s.a (t.a v)).e u).i ((u.q (.n 1048576)).i ((s.a t).e u))) [a,b,c,d]
theorem Ie {a b:Nat}:b<=5->a<b->5*a<=25:=la ((t.e (.n 5)).i ((s.t t).i ((T.m 5 s).e (.n 25)))) [a,b]
theorem Ic {a:Nat}:1+a/2 % 3<=3:=la ((((T.m 2 t).e s).c (s.t ((T.m 2 t).a (.n 2)))).i ((u.t (.n 3)).i ((u.e t).i (((T.n 1).a u).e (.n 3))))) [a,(a/2),((a/2)%3)] (by kernel_rfl) (dv (by decide)) (Nat.mod_lt _ (by decide)) (Nat.mod_le ..)
theorem Ib {a:Nat}:a=5->a - 1+2=6:=la ((s.q (.n 5)).i (((s.s (.n 1)).a (.n 2)).q (.n 6))) [a]
theorem Ia {a b c d e:Nat}:c<=2*d->e<=2*c->a=e->d=b->a<=4*b:=la ((u.e (.m 2 v)).i ((w.e (.m 2 u)).i ((s.q w).i ((v.q t).i (s.e (.m 4 t)))))) [a,b,c,d,e]
theorem tW {a:Nat}:a=1048576->2<=a:=la ((s.q (.n 1048576)).i ((T.n 2).e s)) [a]
theorem H_ {a b:Nat}:b<=5->a<b->a+1<=1000:=la ((t.e (.n 5)).i ((s.t t).i (s.t (.n 1000)))) [a,b]
theorem H9 {a b c:Nat}:a<=b->a<=1*(b+c):=la ((s.e t).i (s.e (.m 1 (t.a u)))) [a,b,c]
theorem H8 {a b:Nat}:b=5->b=a->a=5:=la ((t.q (.n 5)).i ((t.q s).i (s.q (.n 5)))) [a,b]
theorem H7 {a b c d:Nat}:c=1048576->a+(d+1)<=7776->b<d+1->a+b+1<=c:=la ((u.q (.n 1048576)).i (((s.a (v.a (.n 1))).e (.n 7776)).i ((t.t (v.a (.n 1))).i ((s.a t).t u)))) [a,b,c,d]
theorem H6 {a b:Nat}:a<b->min a b+2=a+2:=la ((s.t t).i (((s.l t).a (.n 2)).q (s.a (.n 2)))) [a,b]
theorem HZ {a b c d e:Nat}:a<=e->c<=d*(e+b)->a+b+c<=d*(e+b)+(e+b):=la ((s.e w).i ((u.e x).i (((s.a t).a u).e (x.a (w.a t))))) [a,b,c,d,e,(d*(e+b))]
theorem HY {a b c:Nat}:c+1<=1000->b=1048576->a=c+1->a<=b:=la ((u.t (.n 1000)).i ((t.q (.n 1048576)).i ((s.q (u.a (.n 1))).i (s.e t)))) [a,b,c]
theorem Cn {a b:Nat}:a=5->b=1048576->a<=b:=la ((s.q (.n 5)).i ((t.q (.n 1048576)).i (s.e t))) [a,b]
theorem HX {a b c:Nat}:b=1048576->c<4->a=c+2->a+1<=b:=la ((t.q (.n 1048576)).i ((u.t (.n 4)).i ((s.q (u.a (.n 2))).i (s.t t)))) [a,b,c]
theorem HW {a:Nat}:a<=100->1+a<=101:=la ((s.e (.n 100)).i (((T.n 1).a s).e (.n 101))) [a]
theorem HV {a b c d:Nat}:c+d<=b->b=1048576->a<=d->a<=b:=la (((u.a v).e t).i ((t.q (.n 1048576)).i ((s.e v).i (s.e t)))) [a,b,c,d]
theorem iB {a:Nat}:a=1048576->1<=a:=la ((s.q (.n 1048576)).i ((T.n 1).e s)) [a]
theorem Cm {a b:Nat}:b=1048576->a=120->a<=b:=la ((t.q (.n 1048576)).i ((s.q (.n 120)).i (s.e t))) [a,b]
theorem HU {a b:Nat}:a=b+2->0<a:=la ((s.q (t.a (.n 2))).i ((T.n 0).t s)) [a,b]
theorem Ck {a:Nat}:a=1048576->4<=a:=la ((s.q (.n 1048576)).i ((T.n 4).e s)) [a]
theorem HT {a b:Nat}:a<=b->0+a<=b:=la ((s.e t).i (((T.n 0).a s).e t)) [a,b]
theorem HS {a b c d e:Nat}:d<=5->c=1048576->e<d->b=e->a<e+1->min a b+1<=c:=la ((v.e (.n 5)).i ((u.q (.n 1048576)).i ((w.t v).i ((t.q w).i ((s.t (w.a (.n 1))).i ((s.l t).t u)))))) [a,b,c,d,e]
theorem HR {a b c:Nat}:b=1048576->a=c->c<=120->a<=b:=la ((t.q (.n 1048576)).i ((s.q u).i ((u.e (.n 120)).i (s.e t)))) [a,b,c]
theorem HQ {a b c d:Nat}:d+1<=1000->c=1048576->a=d+1->0<b->a - b<=c:=la ((v.t (.n 1000)).i ((u.q (.n 1048576)).i ((s.q (v.a (.n 1))).i (((T.n 0).t t).i ((s.s t).e u))))) [a,b,c,d]
theorem HP {a b c d e:Nat}:d<=5->c=1048576->e<d->b=e->a<e+1->min a b+1+(b - a)<=c:=la ((v.e (.n 5)).i ((u.q (.n 1048576)).i ((w.t v).i ((t.q w).i ((s.t (w.a (.n 1))).i ((((s.l t).a (.n 1)).a (t.s s)).e u)))))) [a,b,c,d,e]
theorem jG {a:Nat}:a=1048576->5<=a:=la ((s.q (.n 1048576)).i ((T.n 5).e s)) [a]
theorem HO {a b:Nat}:b=1048576->a<5->a<=b:=la ((t.q (.n 1048576)).i ((s.t (.n 5)).i (s.e t))) [a,b]
theorem HN {a b:Nat}:1<=b->b<=5->a<=11->a+b - 1<=1000:=la (((T.n 1).e t).i ((t.e (.n 5)).i ((s.e (.n 11)).i (((s.a t).s (.n 1)).e (.n 1000))))) [a,b]
theorem tV {a b:Nat}:b=1048576->a<=5->a<=b:=la ((t.q (.n 1048576)).i ((s.e (.n 5)).i (s.e t))) [a,b]
theorem Cj {a:Nat}:a=5->0<a:=la ((s.q (.n 5)).i ((T.n 0).t s)) [a]
theorem HM {a:Nat}:a=1048576->1+1<=a:=la ((s.q (.n 1048576)).i ((T.n 1).t s)) [a]
theorem Ci {a:Nat}:a=1048576->3<=a:=la ((s.q (.n 1048576)).i ((T.n 3).e s)) [a]
theorem HL {a b c:Nat}:c=1048576->1<=b->b<=5->a<=11->a+b - 1<=c:=la ((u.q (.n 1048576)).i (((T.n 1).e t).i ((t.e (.n 5)).i ((s.e (.n 11)).i (((s.a t).s (.n 1)).e u))))) [a,b,c]
theorem HK {a b c:Nat}:c=1048576->a<=5->a+b*0<=c:=la ((v.q (.m 0 t)).i ((u.q (.n 1048576)).i ((s.e (.n 5)).i ((s.a v).e u)))) [a,b,c,(b*0)] (by kernel_rfl) (Nat.mul_comm ..)
theorem Cg {a b:Nat}:b=1048576->a<=32->a<=b:=la ((t.q (.n 1048576)).i ((s.e (.n 32)).i (s.e t))) [a,b]
theorem fO {a b:Nat}:a<b->a<=(a+b)/2:=la ((((T.m 2 u).e (s.a t)).c ((s.a t).t ((T.m 2 u).a (.n 2)))).i ((s.t t).i (s.e u))) [a,b,((a+b)/2)] (by kernel_rfl) (dv (by decide))
theorem HJ {a b c:Nat}:c=1048576->b<=5->a<=25->a+b<=c:=la ((u.q (.n 1048576)).i ((t.e (.n 5)).i ((s.e (.n 25)).i ((s.a t).e u)))) [a,b,c]
theorem HH {a b c:Nat}:a<c->(a<=b/\b<=(a+c)/2)->a<=b/\b<=c:=la ((((T.m 2 v).e (s.a u)).c ((s.a u).t ((T.m 2 v).a (.n 2)))).i ((s.t u).i (((s.e t).c (t.e v)).i ((s.e t).c (t.e u))))) [a,b,c,((a+c)/2)] (by kernel_rfl) (dv (by decide))
theorem HG {a b:Nat}:b=1048576->a<=5->a+1<=b:=la ((t.q (.n 1048576)).i ((s.e (.n 5)).i (s.t t))) [a,b]
theorem HF {a:Nat}:a=1048576->11<=a:=la ((s.q (.n 1048576)).i ((T.n 11).e s)) [a]
theorem HE {a b:Nat}:b=1048576->a=4->a<=b:=la ((t.q (.n 1048576)).i ((s.q (.n 4)).i (s.e t))) [a,b]
theorem Cf {a b:Nat}:a<b->a<=b->(a+b)/2+1<=b:=la ((((T.m 2 u).e (s.a t)).c ((s.a t).t ((T.m 2 u).a (.n 2)))).i ((s.t t).i ((s.e t).i (u.t t)))) [a,b,((a+b)/2)] (by kernel_rfl) (dv (by decide))
theorem HD {a b:Nat}:b=1048576->a<5->a+1<=b:=la ((t.q (.n 1048576)).i ((s.t (.n 5)).i (s.t t))) [a,b]
theorem HC {a b c:Nat}:c=1048576->a<=32->b<=a->a+b<=c:=la ((u.q (.n 1048576)).i ((s.e (.n 32)).i ((t.e s).i ((s.a t).e u)))) [a,b,c]
theorem HB {a b:Nat}:b=5->a<5->a - 1<b:=la ((t.q (.n 5)).i ((s.t (.n 5)).i ((s.s (.n 1)).t t))) [a,b]
theorem HA {a b c:Nat}:a<c->((a+c)/2+1<=b/\b<=c)->a<=b/\b<=c:=la ((((T.m 2 v).e (s.a u)).c ((s.a u).t ((T.m 2 v).a (.n 2)))).i ((s.t u).i (((v.t t).c (t.e u)).i ((s.e t).c (t.e u))))) [a,b,c,((a+c)/2)] (by kernel_rfl) (dv (by decide))
theorem Hz {a:Nat}:a=5->a - 2=0->False:=la ((s.q (.n 5)).i (((s.s (.n 2)).q (.n 0)).i .z)) [a]
theorem Hy {a b c:Nat}:c=1048576->(a<=2/\b<=3)->a+b<=c:=la ((u.q (.n 1048576)).i (((s.e (.n 2)).c (t.e (.n 3))).i ((s.a t).e u))) [a,b,c]
theorem Hx {a:Nat}:(a=44\/a=9)->¬32=a:=la (((s.q (.n 44)).o (s.q (.n 9))).i (((T.n 32).q s).i .z)) [a]
theorem Ce {a:Nat}:a<=2->1+a<=3:=la ((s.e (.n 2)).i (((T.n 1).a s).e (.n 3))) [a]
theorem Hw {a b:Nat}:(b=44\/b=9)->(a=59\/97<=a/\a<=100)->¬a=b:=la (((t.q (.n 44)).o (t.q (.n 9))).i (((s.q (.n 59)).o (((T.n 97).e s).c (s.e (.n 100)))).i ((s.q t).i .z))) [a,b]
theorem Cd {a:Bool}{b:Nat}{c:Nat}{d:Nat}(h0:b - 1=c)(h1:c<d)(h2:d<=c):a=false:=by lia
theorem Hv {a b:Nat}:a<=b->1+a<=b+1:=la ((s.e t).i (((T.n 1).a s).e (t.a (.n 1)))) [a,b]
theorem Hu {a b c d:Nat}:d=1048576->c<=1->(a<=2/\b<=3)->a+b+c<=d:=la ((v.q (.n 1048576)).i ((u.e (.n 1)).i (((s.e (.n 2)).c (t.e (.n 3))).i (((s.a t).a u).e v)))) [a,b,c,d]
theorem Ht {a b:Nat}:a<=5*(101+b)->b<=3->a<=520:=la ((s.e (.m 5 ((T.n 101).a t))).i ((t.e (.n 3)).i (s.e (.n 520)))) [a,b]
theorem Cc {a b:Nat}:0<a->b - 1=a->a - 1<a:=la (((T.n 0).t s).i (((t.s (.n 1)).q s).i ((s.s (.n 1)).t s))) [a,b]
theorem Hs {a b:Nat}:b=6->a<5->a+2<=b:=la ((t.q (.n 6)).i ((s.t (.n 5)).i ((s.a (.n 2)).e t))) [a,b]
theorem Hr {a b c:Nat}:c=6->(a+2<=b/\b<=c)->a+1<=b - 1/\b - 1<=5:=la ((u.q (.n 6)).i ((((s.a (.n 2)).e t).c (t.e u)).i ((s.t (t.s (.n 1))).c ((t.s (.n 1)).e (.n 5))))) [a,b,c]
theorem Hq {a b c d:Nat}:d=1048576->c<=1->(a<=2/\b<=3)->a+b+c+1<=d:=la ((v.q (.n 1048576)).i ((u.e (.n 1)).i (((s.e (.n 2)).c (t.e (.n 3))).i (((s.a t).a u).t v)))) [a,b,c,d]
theorem Cb {a:Nat}:0<a->a - 1<a:=la (((T.n 0).t s).i ((s.s (.n 1)).t s)) [a]
theorem Hp {a:Nat}:a=1048576->1+4<=a:=la ((s.q (.n 1048576)).i (((T.n 1).a (.n 4)).e s)) [a]
theorem Ho {a b:Nat}:a<5->1+a - b<=6:=la ((s.t (.n 5)).i ((((T.n 1).a s).s t).e (.n 6))) [a,b]
theorem Hl {a:Nat}:97<=a->¬a=32:=la (((T.n 97).e s).i ((s.q (.n 32)).i .z)) [a]
theorem Ca {a b c d:Nat}:a+(b+c+d)=a+b+c+d:=la ((s.a ((t.a u).a v)).q (((s.a t).a u).a v)) [a,b,c,d]
theorem Hj {a b:Nat}:b=1048576->a<=100->1+a<=b:=la ((t.q (.n 1048576)).i ((s.e (.n 100)).i (((T.n 1).a s).e t))) [a,b]
theorem Hi {a:Nat}:97<=a->¬a=59:=la (((T.n 97).e s).i ((s.q (.n 59)).i .z)) [a]
theorem Hh {a b:Nat}:97<=a->(b=32\/b=59)->¬a=b:=la (((T.n 97).e s).i (((t.q (.n 32)).o (t.q (.n 59))).i ((s.q t).i .z))) [a,b]
theorem Hg {a:Nat}:a=1048576->101<=a:=la ((s.q (.n 1048576)).i ((T.n 101).e s)) [a]
theorem Hf {a b c d e:Nat}:a+(b+(c+d))<=e->a+b+(c+d)<=e:=la (((s.a (t.a (u.a v))).e w).i (((s.a t).a (u.a v)).e w)) [a,b,c,d,e]
theorem G_ {a b c:Nat}:b<=2*c->a<=2->a+b<=2*(c+1):=la ((t.e (.m 2 u)).i ((s.e (.n 2)).i ((s.a t).e (.m 2 (u.a (.n 1)))))) [a,b,c]
theorem G9 {a b:Nat}:b=6->a<5->a<=b:=la ((t.q (.n 6)).i ((s.t (.n 5)).i (s.e t))) [a,b]
theorem B_ {a b c d e:Nat}:(¬a+(b+(c+d))<=e)->a+b+(c+d)<=e->False:=la ((((s.a (t.a (u.a v))).e w).i .z).i ((((s.a t).a (u.a v)).e w).i .z)) [a,b,c,d,e]
theorem G8 {a b:Nat}:b=6->a<5->a+1<b:=la ((t.q (.n 6)).i ((s.t (.n 5)).i ((s.a (.n 1)).t t))) [a,b]
theorem G7 {a:Nat}:a<=99->1+a<=100:=la ((s.e (.n 99)).i (((T.n 1).a s).e (.n 100))) [a]
theorem G6 {a b c:Nat}:a<=2->b<=3->c<=1->a+b+c+1<=7:=la ((s.e (.n 2)).i ((t.e (.n 3)).i ((u.e (.n 1)).i (((s.a t).a u).t (.n 7))))) [a,b,c]
theorem B9 {a b:Nat}:b=1048576->a=5->a<=b:=la ((t.q (.n 1048576)).i ((s.q (.n 5)).i (s.e t))) [a,b]
theorem G5 {a b:Nat}:b=1048576->a<=2->1+a<=b:=la ((t.q (.n 1048576)).i ((s.e (.n 2)).i (((T.n 1).a s).e t))) [a,b]
theorem B8 {a b c:Nat}:a<=7->b<=7*c->a+b<=7*(c+1):=la ((s.e (.n 7)).i ((t.e (.m 7 u)).i ((s.a t).e (.m 7 (u.a (.n 1)))))) [a,b,c]
theorem G4 {a b c d:Nat}:d=1->a+b+c+d=a+b+(c+1):=la ((v.q (.n 1)).i ((((s.a t).a u).a v).q ((s.a t).a (u.a (.n 1))))) [a,b,c,d]
theorem G3 {a:Nat}:(97<=a/\a<=100)->a≠10/\a≠13:=la ((((T.n 97).e s).c (s.e (.n 100))).i (((s.q (.n 10)).i .z).c ((s.q (.n 13)).i .z))) [a]
theorem G2 {a b:Nat}:b=1048576->a<=6->a<=b:=la ((t.q (.n 1048576)).i ((s.e (.n 6)).i (s.e t))) [a,b]
theorem B7 {a b:Nat}:b<=4->a<=7*b->a<=28:=la ((t.e (.n 4)).i ((s.e (.m 7 t)).i (s.e (.n 28)))) [a,b]
theorem G1 {a b c:Nat}:b<=4->c+1<=b->a<=c->a<=4:=la ((t.e (.n 4)).i ((u.t t).i ((s.e u).i (s.e (.n 4))))) [a,b,c]
theorem B6 {a b c d:Nat}:b<c->c<=4->d<=b->a<=2*d->a+1<=1000:=la ((t.t u).i ((u.e (.n 4)).i ((v.e t).i ((s.e (.m 2 v)).i (s.t (.n 1000)))))) [a,b,c,d]
theorem G0 {a b c d e f g:Nat}:c=e+f+(g+1)->a+(b+(e+f)+(g+1))<=d->a+b+c<=d:=la ((u.q ((w.a x).a (y.a (.n 1)))).i (((s.a ((t.a (w.a x)).a (y.a (.n 1)))).e v).i (((s.a t).a u).e v))) [a,b,c,d,e,f,g]
theorem GZ {a:Nat}:a % 2+1<=2:=la ((t.t (.n 2)).i ((t.e s).i (t.t (.n 2)))) [a,(a%2)] (by kernel_rfl) (Nat.mod_lt _ (by decide)) (Nat.mod_le ..)
theorem GY {a b:Nat}:b=1048576->a<=6->a+1<=b:=la ((t.q (.n 1048576)).i ((s.e (.n 6)).i (s.t t))) [a,b]
theorem GX {a b c:Nat}:c=1048576->b<=3->a<=5*101->a+5*b<=c:=la ((u.q (.n 1048576)).i ((t.e (.n 3)).i ((s.e (.m 5 (.n 101))).i ((s.a (.m 5 t)).e u)))) [a,b,c]
theorem GW {a b c d e f g:Nat}:a=b+c+(d+1)->(¬e+(f+(b+c)+(d+1))<=g)->e+f+a<=g->False:=la ((s.q ((t.a u).a (v.a (.n 1)))).i ((((w.a ((x.a (t.a u)).a (v.a (.n 1)))).e y).i .z).i ((((w.a x).a s).e y).i .z))) [a,b,c,d,e,f,g]
theorem w4 {a b c d:Nat}:b=1048576->c<d->d<=4->a<=c->a+1<=b:=la ((t.q (.n 1048576)).i ((u.t v).i ((v.e (.n 4)).i ((s.e u).i (s.t t))))) [a,b,c,d]
theorem GV {a:Nat}:a/2 % 3+1<=3:=la ((((T.m 2 t).e s).c (s.t ((T.m 2 t).a (.n 2)))).i ((u.t (.n 3)).i ((u.e t).i (u.t (.n 3))))) [a,(a/2),((a/2)%3)] (by kernel_rfl) (dv (by decide)) (Nat.mod_lt _ (by decide)) (Nat.mod_le ..)
theorem GU {a b:Nat}:b<=520->a<=4*b->a<=1000000:=la ((t.e (.n 520)).i ((s.e (.m 4 t)).i (s.e (.n 1000000)))) [a,b]
theorem GS {a:Nat}:a<=2->28+a<=30:=la ((s.e (.n 2)).i (((T.n 28).a s).e (.n 30))) [a]
theorem GR {a:Nat}:a<4->97+a<=100:=la ((s.t (.n 4)).i (((T.n 97).a s).e (.n 100))) [a]
theorem GQ {a b c:Nat}:a<=b*(28+c)->b*(28+c)<=5*30->a<=1000:=la ((s.e v).i ((v.e (.m 5 (.n 30))).i (s.e (.n 1000)))) [a,b,c,(b*(28+c))]
theorem GO {a b c d e f g i j k l:Nat}:g=1048576->i<j->j<=4->k<=100->l<=i->a<=k->b<=7*l->e<=1->c<=2->d<=3->f=1->a+(b+(c+(d+e+f)))<=g:=la ((y.q (.n 1048576)).i ((z.t m).i ((m.e (.n 4)).i ((n.e (.n 100)).i ((o.e z).i ((s.e n).i ((t.e (.m 7 o)).i ((w.e (.n 1)).i ((u.e (.n 2)).i ((v.e (.n 3)).i ((x.q (.n 1)).i ((s.a (t.a (u.a ((v.a w).a x)))).e y)))))))))))) [a,b,c,d,e,f,g,i,j,k,l]
theorem GN {a:Nat}:a<4->97+a<200:=la ((s.t (.n 4)).i (((T.n 97).a s).t (.n 200))) [a]
theorem GL {a:Nat}:a<5->4 - a<5->a=4 - (4 - a):=la ((s.t (.n 5)).i ((((T.n 4).s s).t (.n 5)).i (s.q ((T.n 4).s ((T.n 4).s s))))) [a]
theorem GK {a b c d:Nat}:d=1048576->b<=1->a<=3->c=1->a+b+c<=d:=la ((v.q (.n 1048576)).i ((t.e (.n 1)).i ((s.e (.n 3)).i ((u.q (.n 1)).i (((s.a t).a u).e v))))) [a,b,c,d]
theorem GJ {a b:Nat}:a<=16->b=1048576->a<=b:=la ((s.e (.n 16)).i ((t.q (.n 1048576)).i (s.e t))) [a,b]
theorem GI {a:Nat}:a<4->97<=97+a/\97+a<=100:=la ((s.t (.n 4)).i (((T.n 97).e ((T.n 97).a s)).c (((T.n 97).a s).e (.n 100)))) [a]
theorem GH {a b c:Nat}:b=6->4 - c=a->a<5->a+2<=b:=la ((t.q (.n 6)).i ((((T.n 4).s u).q s).i ((s.t (.n 5)).i ((s.a (.n 2)).e t)))) [a,b,c]
theorem GG {a b:Nat}:a<=b->(¬a=0)->b - 1 - (a - 1)=0->a=b:=la ((s.e t).i (((s.q (.n 0)).i .z).i ((((t.s (.n 1)).s (s.s (.n 1))).q (.n 0)).i (s.q t)))) [a,b]
theorem GF {a b:Nat}:a=4->b<5->a - (b - 1)=5 - max 1 b:=la ((s.q (.n 4)).i ((t.t (.n 5)).i ((s.s (t.s (.n 1))).q ((T.n 5).s ((T.n 1).u t))))) [a,b]
theorem GD {a b c d:Nat}:b=1048576->c<=4->d<=c->a<=2*d->a+1<=b:=la ((t.q (.n 1048576)).i ((u.e (.n 4)).i ((v.e u).i ((s.e (.m 2 v)).i (s.t t))))) [a,b,c,d]
theorem GC {a:Nat}:a<5->max 1 a+(5 - max 1 a) - 1=4:=la ((s.t (.n 5)).i (((((T.n 1).u s).a ((T.n 5).s ((T.n 1).u s))).s (.n 1)).q (.n 4))) [a]
theorem GB {a b c:Nat}:b=6->4 - c=a->a<5->a<b:=la ((t.q (.n 6)).i ((((T.n 4).s u).q s).i ((s.t (.n 5)).i (s.t t)))) [a,b,c]
theorem GA {a b c d e f:Nat}:c=1048576->d<=4->e<=100->f<=d->a<=e->b<=7*f->a+b<=c:=la ((u.q (.n 1048576)).i ((v.e (.n 4)).i ((w.e (.n 100)).i ((x.e v).i ((s.e w).i ((t.e (.m 7 x)).i ((s.a t).e u))))))) [a,b,c,d,e,f]
theorem Gz {a b c:Nat}:b=1048576->c<=4->a<=c->a+1<=b:=la ((t.q (.n 1048576)).i ((u.e (.n 4)).i ((s.e u).i (s.t t)))) [a,b,c]
theorem B5 {a b c d:Nat}:c=d+1->4 - d=b->b<5->d=4 - b->(b+1<=a/\a<=5)->a - b - 1<c:=la ((u.q (v.a (.n 1))).i ((((T.n 4).s v).q t).i ((t.t (.n 5)).i ((v.q ((T.n 4).s t)).i (((t.t s).c (s.e (.n 5))).i (((s.s t).s (.n 1)).t u)))))) [a,b,c,d]
theorem B4 {a b c:Nat}:c<b->a<(c+b)/2->a<b:=la ((((T.m 2 v).e (u.a t)).c ((u.a t).t ((T.m 2 v).a (.n 2)))).i ((u.t t).i ((s.t v).i (s.t t)))) [a,b,c,((c+b)/2)] (by kernel_rfl) (dv (by decide))
theorem Gy {a b c:Nat}:a+c=b->a<=b:=la (((s.a u).q t).i (s.e t)) [a,b,c]
theorem Gx {a b c d e f g i j:Nat}:e=1048576->f<g->g<=4->i<=100->j<=f->a<=i->b<=7*j->c<=2->d<=3->a+(b+(c+d))<=e:=la ((w.q (.n 1048576)).i ((x.t y).i ((y.e (.n 4)).i ((z.e (.n 100)).i ((m.e x).i ((s.e z).i ((t.e (.m 7 m)).i ((u.e (.n 2)).i ((v.e (.n 3)).i ((s.a (t.a (u.a v))).e w)))))))))) [a,b,c,d,e,f,g,i,j]
theorem Gw {a b:Nat}:b<=a->(¬b=0)->¬a=0:=la ((t.e s).i (((t.q (.n 0)).i .z).i ((s.q (.n 0)).i .z))) [a,b]
theorem Gu {a b c d:Nat}:d=1048576->b<=5->a<=b*28->b*c<=5*2->a+b*c<=d:=la ((w.q (.m 28 t)).i ((v.q (.n 1048576)).i ((t.e (.n 5)).i ((s.e w).i ((x.e (.m 5 (.n 2))).i ((s.a x).e v)))))) [a,b,c,d,(b*28),(b*c)] (by kernel_rfl) (Nat.mul_comm ..)
theorem Gs :10=46->False:=la (((T.n 10).q (.n 46)).i .z) []
theorem Gr :13=46->False:=la (((T.n 13).q (.n 46)).i .z) []
theorem Gq {a b c d:Nat}:b<c->c<=4->d<=b->a<=2*d->a+1+1<=1000:=la ((t.t u).i ((u.e (.n 4)).i ((v.e t).i ((s.e (.m 2 v)).i ((s.a (.n 1)).t (.n 1000)))))) [a,b,c,d]
theorem Gp {a b:Nat}:b=1048576->a<=28->a<=b:=la ((t.q (.n 1048576)).i ((s.e (.n 28)).i (s.e t))) [a,b]
theorem kJ {a b:Nat}:a<b->(a+b)/2<b:=la ((((T.m 2 u).e (s.a t)).c ((s.a t).t ((T.m 2 u).a (.n 2)))).i ((s.t t).i (u.t t))) [a,b,((a+b)/2)] (by kernel_rfl) (dv (by decide))
theorem Gn {a b c:Nat}:(¬c<=a)->c<=b->a<b+1:=la (((u.e s).i .z).i ((u.e t).i (s.t (t.a (.n 1))))) [a,b,c]
theorem Gm {a b c d e f g i j k l:Nat}:g=1048576->i<j->j<=4->k<=100->l<=i->a<=k->b<=7*l->e<=1->c<=2->d<=3->f=1->a+(b+(c+d)+(e+f))<=g:=la ((y.q (.n 1048576)).i ((z.t m).i ((m.e (.n 4)).i ((n.e (.n 100)).i ((o.e z).i ((s.e n).i ((t.e (.m 7 o)).i ((w.e (.n 1)).i ((u.e (.n 2)).i ((v.e (.n 3)).i ((x.q (.n 1)).i ((s.a ((t.a (u.a v)).a (w.a x))).e y)))))))))))) [a,b,c,d,e,f,g,i,j,k,l]
theorem B3 {a b c:Nat}:a<c->(a+c)/2+1<=b->a<=b:=la ((((T.m 2 v).e (s.a u)).c ((s.a u).t ((T.m 2 v).a (.n 2)))).i ((s.t u).i ((v.t t).i (s.e t)))) [a,b,c,((a+c)/2)] (by kernel_rfl) (dv (by decide))
theorem Gl {a b c:Nat}:b<5->a<c->c<=b->a<6:=la ((t.t (.n 5)).i ((s.t u).i ((u.e t).i (s.t (.n 6))))) [a,b,c]
theorem Gk {a b:Nat}:100000<=b->a<=1000->a+2<=b:=la (((T.n 100000).e t).i ((s.e (.n 1000)).i ((s.a (.n 2)).e t))) [a,b]
theorem Gj {a b:Nat}:a<b->a<=b->(a+b)/2<b:=la ((((T.m 2 u).e (s.a t)).c ((s.a t).t ((T.m 2 u).a (.n 2)))).i ((s.t t).i ((s.e t).i (u.t t)))) [a,b,((a+b)/2)] (by kernel_rfl) (dv (by decide))
theorem Gi {a b c:Nat}:c+2<=a->a<=b->b<6->a - 1+(b - a)<5:=la (((u.a (.n 2)).e s).i ((s.e t).i ((t.t (.n 6)).i (((s.s (.n 1)).a (t.s s)).t (.n 5))))) [a,b,c]
theorem Gh {a b c:Nat}:c<=b->(¬c<a)->a<=b:=la ((u.e t).i (((u.t s).i .z).i (s.e t))) [a,b,c]
theorem Gg {a b c:Nat}:c+2<=a->a<=b->a - 1+(b - a)=b - 1:=la (((u.a (.n 2)).e s).i ((s.e t).i (((s.s (.n 1)).a (t.s s)).q (t.s (.n 1))))) [a,b,c]
theorem Gf {a b c d e:Nat}:e=1048576->c<=1->a<=2->b<=3->d=1->0+(a+b+(c+d))<=e:=la ((w.q (.n 1048576)).i ((u.e (.n 1)).i ((s.e (.n 2)).i ((t.e (.n 3)).i ((v.q (.n 1)).i (((T.n 0).a ((s.a t).a (u.a v))).e w)))))) [a,b,c,d,e]
theorem Ge {a b:Nat}:b+2<=a->a - 1+1=a:=la (((t.a (.n 2)).e s).i (((s.s (.n 1)).a (.n 1)).q s)) [a,b]
theorem Gd {a b c d:Nat}:b=1048576->c<d->d<=4->a<=c->a+1+1<=b:=la ((t.q (.n 1048576)).i ((u.t v).i ((v.e (.n 4)).i ((s.e u).i ((s.a (.n 1)).t t))))) [a,b,c,d]
theorem Gb {a b:Nat}:b+1<=5 - max 1 a->max 1 a+b<5:=la ((t.t ((T.n 5).s ((T.n 1).u s))).i ((((T.n 1).u s).a t).t (.n 5))) [a,b]
theorem Ga :59=32->False:=la (((T.n 59).q (.n 32)).i .z) []
theorem F_ :(97<=59/\59<=100)->False:=la ((((T.n 97).e (.n 59)).c ((T.n 59).e (.n 100))).i .z) []
theorem F9 {a b:Nat}:b+1<=a->a<=5->b=4->a=5:=la ((t.t s).i ((s.e (.n 5)).i ((t.q (.n 4)).i (s.q (.n 5))))) [a,b]
theorem F8 {a:Nat}:1+a % 7<=7:=la ((t.t (.n 7)).i ((t.e s).i (((T.n 1).a t).e (.n 7)))) [a,(a%7)] (by kernel_rfl) (Nat.mod_lt _ (by decide)) (Nat.mod_le ..)
theorem F7 {a b c:Nat}:(b<a/\b<c)->(¬a=b+1)->a - 1<a:=la (((t.t s).c (t.t u)).i (((s.q (t.a (.n 1))).i .z).i ((s.s (.n 1)).t s))) [a,b,c]
theorem F6 {a b c d:Nat}:(c<b/\c<d)->(¬b=c+1)->b<=c+1->a=b:=la (((u.t t).c (u.t v)).i (((t.q (u.a (.n 1))).i .z).i ((t.e (u.a (.n 1))).i (s.q t)))) [a,b,c,d]
theorem F5 {a b c:Nat}:b<5->a<=c->c<=b->1+a<=50:=la ((t.t (.n 5)).i ((s.e u).i ((u.e t).i (((T.n 1).a s).e (.n 50))))) [a,b,c]
theorem F4 {a b:Nat}:a=4->b<5->a - (b - 1)=0->False:=la ((s.q (.n 4)).i ((t.t (.n 5)).i (((s.s (t.s (.n 1))).q (.n 0)).i .z))) [a,b]
theorem F3 {a:Nat}:1<=a->1<=2*a:=la (((T.n 1).e s).i ((T.n 1).e (.m 2 s))) [a]
theorem F2 {a b c:Nat}:a+c<=b+1->c=1->a<=b:=la (((s.a u).e (t.a (.n 1))).i ((u.q (.n 1)).i (s.e t))) [a,b,c]
theorem F1 {a b c:Nat}:1+a=1+b - c->b<5->a<=5:=la ((((T.n 1).a s).q (((T.n 1).a t).s u)).i ((t.t (.n 5)).i (s.e (.n 5)))) [a,b,c]
theorem F0 {a b c d:Nat}:a<=2*d+1->0<b->a+1+1<=2*(b+c+1+d)+1:=la ((s.e ((T.m 2 v).a (.n 1))).i (((T.n 0).t t).i ((s.a (.n 1)).t ((T.m 2 (((t.a u).a (.n 1)).a v)).a (.n 1))))) [a,b,c,d]
theorem FZ {a b c d:Nat}:a<=2*d+1->a+1<=2*(b+c+1+d)+1:=la ((s.e ((T.m 2 v).a (.n 1))).i (s.t ((T.m 2 (((t.a u).a (.n 1)).a v)).a (.n 1)))) [a,b,c,d]
theorem FY {a b c d e f:Nat}:e+a=f->f=e+b+c+1+d->a=b+c+1+d:=la (((w.a s).q x).i ((x.q ((((w.a t).a u).a (.n 1)).a v)).i (s.q (((t.a u).a (.n 1)).a v)))) [a,b,c,d,e,f]
theorem FW {a b c d:Nat}:c+1<b->d<b->d=c->a=c+1->a<b:=la (((u.a (.n 1)).t t).i ((v.t t).i ((v.q u).i ((s.q (u.a (.n 1))).i (s.t t))))) [a,b,c,d]
theorem B0 {a b c d e:Nat}:c+1<b->d<b->d=c->e=c+1->a=e->a<b:=la (((u.a (.n 1)).t t).i ((v.t t).i ((v.q u).i ((w.q (u.a (.n 1))).i ((s.q w).i (s.t t)))))) [a,b,c,d,e]
theorem FU {a b c d:Nat}:b=5->4 - d=c->(c+1<=a/\a<=5)->min a b - c<=5:=la ((t.q (.n 5)).i ((((T.n 4).s v).q u).i (((u.t s).c (s.e (.n 5))).i (((s.l t).s u).e (.n 5))))) [a,b,c,d]
theorem FT {a b c:Nat}:c=1048576->a<=b*100->b<=5->a+b*0<=c:=la ((v.q (.m 100 t)).i ((w.q (.m 0 t)).i ((u.q (.n 1048576)).i ((s.e v).i ((t.e (.n 5)).i ((s.a w).e u)))))) [a,b,c,(b*100),(b*0)] (by kernel_rfl) (Nat.mul_comm ..) (Nat.mul_comm ..)
theorem FQ {a b c:Nat}:4 - c=b->(b+1<=a/\a<=5)->1<=a - b:=la ((((T.n 4).s u).q t).i (((t.t s).c (s.e (.n 5))).i ((T.n 1).e (s.s t)))) [a,b,c]
theorem FP {a b:Nat}:b=1048576->a<=5->1+a<=b:=la ((t.q (.n 1048576)).i ((s.e (.n 5)).i (((T.n 1).a s).e t))) [a,b]
theorem FO {a b c:Nat}:b=1048576->c<5->a=c+1->1+a<=b:=la ((t.q (.n 1048576)).i ((u.t (.n 5)).i ((s.q (u.a (.n 1))).i (((T.n 1).a s).e t)))) [a,b,c]
theorem ltZ {p:Nat->Prop}:∀ k,k<0->p k:=λk h=>absurd h (Nat.not_lt_zero k)
theorem lD {p:Nat->Prop} {m:Nat} (h:∀ k,k<m->p k) (hm:p m):∀ k,k<m+1->p k:=λk hk=>(Nat.lt_succ_iff_lt_or_eq.mp hk).elim (h k) λe=>e▸hm
theorem eO {α:Type} {n:Nat} {l:List α} (h:l.length=n+1):∃ a r,l=a::r/\r.length=n:=by
 cases l with
 | nil=>cases h
 | cons a r=>exact ⟨a,r,rfl,Nat.succ.inj h⟩
theorem len0 {α:Type} {l:List α} (h:l.length=0):l=[]:=List.eq_nil_of_length_eq_zero h
theorem yV (a b:Nat):min (a:Int) (b:Int)=((min a b:Nat):Int):=by
 by_cases h:a<=b
 ·rw [Nat.min_eq_left h,Int.min_eq_left (Int.ofNat_le.mpr h)]
 ·rw [Nat.min_eq_right (Nat.le_of_not_le h),Int.min_eq_right (Int.ofNat_le.mpr (Nat.le_of_not_le h))]
theorem yW (a b:Nat):max (a:Int) (b:Int)=((max a b:Nat):Int):=by
 by_cases h:a<=b
 ·rw [Nat.max_eq_right h,Int.max_eq_right (Int.ofNat_le.mpr h)]
 ·rw [Nat.max_eq_left (Nat.le_of_not_le h),Int.max_eq_left (Int.ofNat_le.mpr (Nat.le_of_not_le h))]
theorem ku (a b:Nat):max (0:Int) (min (a:Int) (b:Int))=((min a b:Nat):Int):=by
 rw [yV];exact Int.max_eq_right (Int.natCast_nonneg _)
theorem uw (a b:Nat):max (0:Int) ((a:Int) - b)=((a - b:Nat):Int):=by
 by_cases h:b<=a
 ·rw [<- Int.ofNat_sub h];exact Int.max_eq_right (Int.natCast_nonneg _)
 ·rw [Nat.sub_eq_zero_of_le (Nat.le_of_not_le h)];exact Int.max_eq_left (Int.sub_nonpos_of_le (Int.ofNat_le.mpr (Nat.le_of_not_le h)))
theorem oU {n:Nat} (h:n<=1048576):(n:Int)<2 ^ 63:=Int.lt_of_le_of_lt (Int.ofNat_le.mpr h) (by decide)
theorem qL {n:Nat} (h:n<=1048576):¬ (n:Int) ≥ 2 ^ 63:=Int.not_le.mpr (oU h)
theorem xS {i:Int} {n k:Nat} (h:PySem.seqIndex? i n=some k) (hn:n<=1048576) : -(n:Int)<=i /\ -2 ^ 63<=i/\i<2 ^ 63/\(i<0->(i+n).toNat=k)/\(¬ i<0->i.toNat=k):=by
 unfold PySem.seqIndex? at h
 simp only [Bool.and_eq_true,decide_eq_true_eq] at h
 by_cases h0:i<0
 ·simp only [h0,if_true] at h
  split at h
  ·rename_i hc
   exact ⟨by lia,by lia,by lia,λ_=>Option.some.inj h,λq=>absurd h0 q⟩
  ·cases h
 ·simp only [h0,if_false] at h
  split at h
  ·rename_i hc
   exact ⟨by lia,by lia,by lia,λq=>absurd q h0,λ_=>Option.some.inj h⟩
  ·cases h
theorem yX {n:Nat} (h:n<=1048576 * 1000000) : -2 ^ 63<=(n:Int)/\(n:Int)<2 ^ 63:=⟨Int.le_trans (by decide) (Int.natCast_nonneg n),Int.lt_of_le_of_lt (Int.ofNat_le.mpr h) (by decide)⟩
theorem nH {n:Nat} {k:Int} (hk:k<=0:=by decide):k<=(n:Int):=Int.le_trans hk (Int.natCast_nonneg n)
theorem qK {n:Int} {k:Nat} (h:n<=k):n.toNat<=k:=Int.toNat_le.mpr h
theorem Jv {a b:Nat}:decide ((a:Int)<(b:Int))=decide (a<b):=decide_eq_decide.mpr Int.ofNat_lt
end Mine
open _root_.Array renaming length_toList→Ud,toList_append→U3,getElem?_toList→U4,toList_extract→U9,getElem?_eq_getElem→Vd,toList_push→WH,all_eq_true_iff_forall_mem→WJ,perm_iff_toList_perm→Xl,size_extract→XQ
open _root_.Bool renaming and_eq_true_iff→TL,false_eq_true→UC,or_eq_true_iff→Wc,and_eq_true→Wo,false_ne_true→Wx,or_eq_true→W3,or_eq_false_iff→Xd
open _root_.ForInStep renaming yield→VO,done→X6
open _root_.Int renaming ofNat_lt→Uy,natCast_nonneg→UN,toNat_natCast→Vl,not_lt→WW,fdiv_eq_ediv_of_nonneg→Xn,ofNat_le→Xs,le_of_lt→XY
open _root_.LawfulBEq renaming eq_of_beq→Vc
open _root_.List renaming mem_cons_self→So,length_map→Sq,mem_cons_of_mem→Ss,mem_cons→Sx,range→SD,mem_singleton→SG,mem_append→SO,mem_range→SQ,getElem?_eq_getElem→SW,mem_flatMap→SX,length_append→SY,getD_eq_getElem?_getD→S2,append_assoc→S4,append_nil→S6,mem_map→S7,getElem?_map→S9,map_cons→S_,flatMap_cons→Tg,map_map→Th,map_append→Ti,lookup_cons→Tp,not_mem_nil→Tq,length_cons→Tr,map_congr_left→Tv,length_range→TJ,forall_mem_singleton→TS,take_add_one→TX,getElem?_eq_none→TY,getElem?_eq_some_iff→T3,replicate→T4,size_toArray→T5,length_drop→T8,drop_eq_nil_of_le→Ug,flatMap_append→Ul,take_append_drop→Ur,perm_append_comm→Us,all_eq_true→Uv,mem_append_left→Ux,replicate_succ→UH,nodup_append→UL,take_of_length_le→UP,forIn_cons→UT,getElem_mem→UW,flatMap_nil→U1,mem_of_getElem?→U',cons_append→Vb,extract_eq_take_drop→Ve,foldl_append→Vk,eq_of_mem_replicate→Vu,foldl_cons→Vx,mem_of_mem_drop→VB,mem_of_mem_take→VC,map_nil→VG,flatten_cons→VI,drop_zero→VK,mem_append_right→VS,length_eq_zero_iff→V5,nil_append→V6,getElem?_range→V9,length_pos_iff→V_,filter_eq_self→Wa,length→Wm,mem_reverse→Wr,length_take→Wt,length_filter_le→Wy,eq_nil_or_concat→WA,concat_eq_append→WB,length_reverse→WN,mem_filterMap→WX,mem_filter→W4,getElem?_toArray→W7,count_append→Xb,forall_mem_cons→Xf,getElem?_append_right→Xh,take_length→Xp,drop_eq_getElem_cons→Xu,getElem?_append_left→Xv,map_take→XH,sum_cons→XJ,length_zipIdx→XM
open _root_.List.Perm renaming append_left→VU,append_right→X7
open _root_.Nat renaming le_trans→Sn,lt_of_lt_of_le→Su,le_add_left→Sv,le_refl→Sz,le_of_succ_le→SE,le_of_eq→SI,lt_succ_of_le→SN,le_of_ble_eq_true→S1,le_succ_of_le→S5,lt_irrefl→Tc,zero_le→Td,le_of_lt→Tf,succ_le_of_lt→Tj,lt_succ_of_lt→Tu,lt_of_le_of_ne→Tw,le_add_right→TA,lt_of_succ_lt_succ→TH,not_lt_of_le→TP,succ_le_succ→TZ,pos_of_ne_zero→T7,ne_of_lt→T9,lt_of_le_of_lt→T_,le_of_not_lt→Ua,le_antisymm→Ub,add_le_add_left→Ue,add_sub_cancel→Uk,le_succ→Uw,add_le_add_right→Uz,add_lt_add_right→UB,sub_add_cancel→UD,add_sub_cancel'→UG,sub_le→UI,lt_succ_self→UU,lt_of_not_le→UX,add_assoc→UY,zero_add→U5,lt_of_succ_lt→U6,add_sub_cancel_left→U8,ne_of_gt→Vv,add_comm→Vw,eq_or_lt_of_le→Vy,add_right_comm→Vz,add_sub_of_le→VJ,add_le_add→VL,succ_ne_zero→VV,lt_or_ge→VW,not_succ_le_self→VY,one_pos→V0,mul_le_mul_right→V1,le_of_lt_succ→V4,min_eq_left→V8,min_le_right→Wq,max_eq_right→Ws,sub_lt→WK,succ_ne_self→WO,le_add_right_of_le→W0,sub_pos_of_lt→Xa,sub_le_sub_right→Xi,sub_le_of_le_add→Xo,succ_pos→Xr,sub_lt_sub_left→Xx,eq_zero_or_pos→XO,mul_le_mul→X8
open _root_.Option renaming map_eq_some_iff→Tn,toList_some→Up,bind_some→U0,map_some→WC,isSome_none→XN
open _root_.Option.some renaming inj→UQ,injEq→XZ
open _root_.PyProof.Rows renaming wpS_pure→SV,wpS_bind→S8,wpS_forRange→WI,wpS_modify→WL,exec_Assign→Xg,Subscript_→X_
open _root_.PyProof.Rows.F renaming plain_set_update_loop→Wb,entry_set_update_loop→Xy
open _root_.PySem renaming wpAny_bind→Sl,wpAny_pure→Sm,Expr→Sp,wpAny_holding→Sy,wpAny_ite_false→To,wpAny_standAt→Tt,builtinLookup_eq_fast→TG,wpAny_execs_cons→TN,wpAny_of_eq→TU,wpAny_newObj_type→T6,codeAny_call_builtin→Ui,typeLookup_type→Uj,wpAny_Call_method_lateS→Ut,assign→UE,wpAny_callSpecial?_slot→UJ,wpAny_call_entry→UK,wpAny_call→UO,wpAny_execs_nil→UR,wpAny_isInstance→UZ,wpAny_attempt→U_,codeAny_builtin→Va,wpAny_mono→Vf,wpAny_rule→Vi,wpAny_seqItems→Vr,wpAny_setField→Vt,plainId_quiet→VF,arm_eval_Call_Name'→VM,wpAny_updateSeq→VP,wpAt_of_wpAny→V2,codeAny_mono→Wf,typeIs_str→Wv,slot_list_getitem→WD,wpAt→WE,wpAny_field→WG,isSubtype_type→WQ,entryFor_of_tree→WR,wpAny_fieldsOf→WS,slot_listiter_next→WY,ks_wpAt_execs_cons→WZ,wpAny_specialOf→W5,codeAny_of_tree→W6,wpAny_loadName_local→Xc,sizeLine_eq→Xm,wpAny_loadName_free→Xw,wpAny_release→XA,typeIs_int→XR,wpAny_typeOf→X5,call_meets→Yc,Fin→Ye
open _root_.PySem.Around renaming under_plainId→Un
open _root_.PySem.Bind renaming checkArgs→X4
open _root_.PySem.BindsTo renaming of_eq→UM
open _root_.PySem.Builtin.List renaming listSubscript?→VD,listItems→Wi,listTooLong→XG
open _root_.PySem.Builtin.Range renaming rangeSize→Tz,small→VN
open _root_.PySem.Builtin.Re renaming reRunToEnd→W_
open _root_.PySem.Builtin.Str renaming occurrences→U7,strKind→Vj,partsBetween→Vq,strSliceIndices→We
open _root_.PySem.Calls renaming evalArgs_plain→TF,callWith_builtin→TM,spliced_cons→Uo,spliced_nil→VH,Name_function_global→Wu,loadGlobal_builtin→Xz,callWith_function→XT
open _root_.PySem.F renaming called_set→VA,plainAttrs_str→Wg,slot_str_split→Wh,slot_list_getattribute→WT,slot_str_join→W8,type_str_join→W9,args_str_split_2→XC,slot_list_append→XD,type_list_append→XE,ks_slot_super_ga→XI,plainAttrs_list→XW,entry_str_split→XX
open _root_.PySem.Flow renaming next→Yb
open _root_.PySem.Heap renaming get?_push_of_some→Sw,get?_push_size→SH,lt_size→Te,size_push→TQ,SameBut→Uq,ExtBut→Vm,get?_update_self→VT
open _root_.PySem.Heap.IsSliceOf renaming new→XK
open _root_.PySem.Heap.SameBut renaming update→Uc
open _root_.PySem.Manifest renaming signature?→WM
open _root_.PySem.NameKind renaming cell→Um,free→Uu
open _root_.PySem.Obj renaming mapSeq→Vh
open _root_.PySem.PyData renaming strOk→Uh,eqv→WV,eqvAll→Yg
open _root_.PySem.SetTable renaming grown→WU,below→Xj
open _root_.PySem.Sre renaming forSearch→VE,M→Wj,header→Ww,Frame→Xq,Seen→XF
open _root_.PySem.Sre.M renaming admitted→X3
open _root_.PySem.Str renaming join→SP,length_append→S3,ofString→VX
open _root_.PySem.StrLaws renaming glued_eq_join→Wz,join_length_le→X0
open _root_.PySem.Txt renaming isspace→Vn,count→Vo,mul→VQ,split→V3
open _root_.PySem.Value renaming type→Vg,ref→Vp,builtin→Vs,none→V7,int→XU,str→Yd
open _root_.PySem.W renaming looks_findIn→UA,looks_mroIn→Wn,isNs_of_in→W2
namespace Mine
open PySem PySem.W PyProof.Rows
noncomputable def BY (h:Heap) (a:Addr) (vs:List Value):Prop :=
 ∃ n,h.get? a=some {cls:=.type "list",dict:=none,data:=.seq vs.toArray n,slots:=#[]}
noncomputable def C7 (h:Heap) (a:Addr) (vs:List Value):Prop :=
 ∃ n,h.get? a=some {cls:=.type "tuple",dict:=none,data:=.seq vs.toArray n,slots:=#[]}
inductive PV where
 | none
 | bool (b:Bool)
 | int (i:Int)
 | str (s:Str)
 | tup (xs:List PV)
 | lst (xs:List PV)
 | raw (v:Value)
noncomputable def lim:Nat:=2 ^ 20
mutual
noncomputable def Rep (W:List Addr) (h:Heap):PV->Value->Prop
 | .none,v=>v = .none
 | .bool b,v=>v = .bool b
 | .int i,v=>∃ t,v = .int i t
 | .str s,v=>s.length<=lim/\∃ t,v = .str s t
 | .raw x,v=>v=x
 | .tup xs,v=>xs.length<=lim/\∃ a vs,v = .ref a/\a∉W/\C7 h a vs/\ah W h xs vs
 | .lst xs,v=>xs.length<=lim/\∃ a vs,v = .ref a/\a∉W/\BY h a vs/\ah W h xs vs
noncomputable def ah (W:List Addr) (h:Heap):List PV->List Value->Prop
 | [],vs=>vs=[]
 | x::xs,vs=>∃ v vs',vs=v::vs'/\Rep W h x v/\ah W h xs vs'
end
theorem ah.nil {W h vs}:ah W h [] vs↔vs=[]:=by rw [ah]
theorem ah.cons {W h x xs vs}:ah W h (x::xs) vs↔∃ v vs',vs=v::vs'/\Rep W h x v/\ah W h xs vs':=by rw [ah]
theorem ah.length {W h}:∀ {xs vs},ah W h xs vs->vs.length=xs.length
 | [],vs,r=>by rw [ah] at r;subst r;rfl
 | x::xs,vs,r=>by
  rw [ah] at r
  obtain ⟨v,vs',rfl,_,r⟩:=r
  simp [ah.length r]
noncomputable def aI (W:List Addr) (h h':Heap):Prop :=
 (∀ a vs,a∉W->BY h a vs->BY h' a vs)/\(∀ a vs,a∉W->C7 h a vs->C7 h' a vs)
mutual
theorem Rep.keep {W W' h h'} (k:aI W h h') (hw:∀ a,(∃ o,h.get? a=some o)->a∈W'->a∈W):∀ {p v},Rep W h p v->Rep W' h' p v
 | .none,v,r=>by rw [Rep] at r ⊢;exact r
 | .bool b,v,r=>by rw [Rep] at r ⊢;exact r
 | .int i,v,r=>by rw [Rep] at r ⊢;exact r
 | .str s,v,r=>by rw [Rep] at r ⊢;exact r
 | .raw x,v,r=>by rw [Rep] at r ⊢;exact r
 | .tup xs,v,r=>by
  rw [Rep] at r ⊢
  refine ob0_2 r λhl az=>ob2_4 az λa vs e ha ht hr=>?_
  exact ⟨hl,a,vs,e,λx=>ha (hw a (ht.elim λn e=>⟨_,e⟩) x),k.2 _ _ ha ht,ah.keep k hw hr⟩
 | .lst xs,v,r=>by
  rw [Rep] at r ⊢
  refine ob0_2 r λhl az=>ob2_4 az λa vs e ha ht hr=>?_
  exact ⟨hl,a,vs,e,λx=>ha (hw a (ht.elim λn e=>⟨_,e⟩) x),k.1 _ _ ha ht,ah.keep k hw hr⟩
theorem ah.keep {W W' h h'} (k:aI W h h') (hw:∀ a,(∃ o,h.get? a=some o)->a∈W'->a∈W):∀ {ps vs},ah W h ps vs->ah W' h' ps vs
 | [],vs,r=>by rw [ah] at r ⊢;exact r
 | p::ps,vs,r=>by
  rw [ah] at r ⊢
  refine ob2_3 r λv vs' e h1 h2=>?_
  exact ⟨v,vs',e,Rep.keep k hw h1,ah.keep k hw h2⟩
end
noncomputable def bU (h:Heap) (c P:Addr) (ps:Array Value):Prop:=h.IsCode c P ps/\h.TableAt c P ps
noncomputable def fj (h:Heap) (v:Value):Prop:=∃ c o vs q t,v = .ref c/\h.get? c=some o/\o.cls = .type "code"/\o.data = .fields vs/\vs[1]? = some (.str q t)
inductive gO (h:Heap):List Value->Prop
 | nil:gO h []
 | cons {i j:Int} {t u:Tok} {v:Value} {r:List Value}:fj h v->gO h r->gO h (.int i t :: .int j u::v::r)
structure Glob where
 prog:Program
 w:World
 base:Heap
 tabs:List Addr
 inv:Heap->Prop
 mg:Str->Option Value
 mb:Str->Option Value
 rM:∀ b∈tabs,b<base.objs.size
 A9:∀ h h' (Y:List Addr),inv h->(∀ b∈Y,base.objs.size<=b/\∀ o,h.get? b=some o->(o.cls ≠ .type "code"\/∀ vs,o.data ≠ .fields vs)) ->
  (∀ b o,b∉Y->h.get? b=some o->h'.get? b=some o)->inv h'
 vZ:∀ h,inv h->∀ b o,base.get? b=some o->b∉tabs->h.get? b=some o
 Ba:∀ h,inv h->h.NoLimit
 Jr:∀ h,inv h->base.objs.size<=h.objs.size
 vY:∀ h,inv h->h.Ns mainGlobals mg
 A_:∀ h,inv h->h.Ns builtinsNs mb
 DV:∀ h,inv h->∀ b∈tabs,∃ o vs,h.get? b=some o/\o.data = .fields vs
 Js:∀ h h' (c P:Addr) ps ps',inv h->P∈tabs->bU h c P ps->bU h' c P ps'->(gO h ps.toList->gO h' ps'.toList)->(∀ b o,b≠P->h.get? b=some o->h'.get? b=some o)->inv h'
theorem Glob.yR (G:Glob) (h h':Heap) (i:G.inv h) (k:∀ b o,h.get? b=some o->h'.get? b=some o):G.inv h' :=
 G.A9 h h' [] i (by simp) λb o z! e=>k b o e
structure aG (G:Glob) (X:List Addr) (s s':Shared):Prop where
 keep:∀ b o,b∉X->b∉G.tabs->s.heap.get? b=some o->s'.heap.get? b=some o
 inv:G.inv s.heap->G.inv s'.heap
 os:s'.os=s.os
 gens:∃ l:List GenState,s'.gens.toList=s.gens.toList++l/\∀ x∈l,x.bare=true
namespace aG
variable {G:Glob} {X:List Addr} {s s' s'':Shared}
theorem refl (G:Glob) (X:List Addr) (s:Shared):aG G X s s:=⟨λz! z! z! z! e=>e,id,rfl,⟨[],by simp,by simp⟩⟩
theorem trans (x:aG G X s s') (y:aG G X s' s''):aG G X s s'' :=
 ⟨λb o hb hc e=>y.keep b o hb hc (x.keep b o hb hc e),λi=>y.inv (x.inv i),y.os.trans x.os,by
  refine ob1_2 x.gens λl e hl=>ob1_2 y.gens λl' e' hl'=>?_
  exact ⟨l++l',by rw [e',e,S4],λz hz=>(SO.mp hz).elim (hl z) (hl' z)⟩⟩
theorem mono {X':List Addr} (x:aG G X s s') (h:∀ a∈X,a∈X'):aG G X' s s' :=
 ⟨λb o hb=>x.keep b o λhb'=>hb (h b hb'),x.inv,x.os,x.gens⟩
theorem up (x:aG G [] s s'):aG G X s s':=x.mono (by simp)
theorem toks (x:aG G X s s') (t:Nat):aG G X s {s' with toks:=t}:=⟨x.keep,x.inv,x.os,x.gens⟩
theorem of_keeps (G:Glob) {s:Shared} {h':Heap} {t:Nat} (k:∀ b o,s.heap.get? b=some o->h'.get? b=some o) :
  aG G [] s {s with heap:=h',toks:=t} :=
 ⟨λb o z! z! e=>k b o e,λi=>G.yR _ _ i k,rfl,⟨[],by simp,by simp⟩⟩
theorem bO (G:Glob) {s:Shared} {o:Obj} {t:Nat}:aG G [] s {s with heap:=s.heap.push o,toks:=t} :=
 of_keeps G (λz! z! e=>Sw _ e)
theorem of_toks (G:Glob) {s:Shared} {t:Nat}:aG G [] s {s with toks:=t}:=(aG.refl G [] s).toks t
theorem push (x:aG G X s s') {o:Obj} {t:Nat}:aG G X s {s' with heap:=s'.heap.push o,toks:=t}:=x.trans (bO G).up
theorem gv (G:Glob) {s:Shared} {h':Heap} {Y:List Addr} {t:Nat} (hY:∀ b∈Y,G.base.objs.size<=b/\∀ o,s.heap.get? b=some o->(o.cls ≠ .type "code"\/∀ vs,o.data ≠ .fields vs))
  (k:∀ b o,b∉Y->s.heap.get? b=some o->h'.get? b=some o):aG G Y s {s with heap:=h',toks:=t} :=
 ⟨λb o hb z! e=>k b o hb e,λi=>G.A9 _ _ Y i hY k,rfl,⟨[],by simp,by simp⟩⟩
theorem of_same (G:Glob) {s:Shared} {h':Heap} {a:Addr} {o:Obj} {t:Nat} (ha:G.base.objs.size<=a) (e:s.heap.get? a=some o)
  (hc:o.cls ≠ .type "code"\/∀ vs,o.data ≠ .fields vs) (hs:Uq a s.heap h'):aG G [a] s {s with heap:=h',toks:=t} :=
 gv G (λb hb=>by
  have:b=a:=by simpa using hb
  subst this
  exact ⟨ha,λo' e'=>by rw [e] at e';cases e';exact hc⟩) λb o' hb e'=>(hs.2 b (by simpa using hb)).trans e'
theorem drops {Y:List Addr} {s₀:Shared} (x:aG G X s₀ s) (y:aG G Y s s') (hn:∀ a∈Y,s₀.heap.get? a=none\/a∈X):aG G X s₀ s' :=
 ⟨λb o hb hc e=>y.keep b o (by
   intro h
   rcases hn b h with hn | hn
   ·rw [hn] at e;cases e
   ·exact hb hn) hc (x.keep b o hb hc e),λi=>y.inv (x.inv i),y.os.trans x.os,by
  refine ob1_2 x.gens λl e hl=>ob1_2 y.gens λl' e' hl'=>?_
  exact ⟨l++l',by rw [e',e,S4],λz hz=>(SO.mp hz).elim (hl z) (hl' z)⟩⟩
end aG
namespace aG
variable {G:Glob} {X:List Addr} {s s' s'':Shared}
theorem iR {b:Addr} {o:Obj} (x:aG G X s s') (i:G.inv s.heap) (hb:b∉X) (e:s.heap.get? b=some o) (hd:∀ vs,o.data ≠ .fields vs):s'.heap.get? b=some o:=by
 refine x.keep b o hb (λh=>?_) e
 refine ob2_2 (G.DV _ i b h) λo' vs e' d=>?_
 rw [e] at e';cases e'
 exact hd vs d
theorem cA {W:List Addr} (x:aG G X s s') (i:G.inv s.heap) (hX:∀ a∈X,a∈W):aI W s.heap s'.heap :=
 ⟨λa vs ha zz=>zz.elim λn e=>⟨n,x.iR i (λh=>ha (hX a h)) e (by simp)⟩,λa vs ha zz=>zz.elim λn e=>⟨n,x.iR i (λh=>ha (hX a h)) e (by simp)⟩⟩
theorem rep {W:List Addr} {p v} (x:aG G X s s') (i:G.inv s.heap) (hX:∀ a∈X,a∈W) (r:Rep W s.heap p v):Rep W s'.heap p v :=
 r.keep (x.cA i hX) λz! z! h=>h
theorem reps {W:List Addr} {p v} (x:aG G X s s') (i:G.inv s.heap) (hX:∀ a∈X,a∈W) (r:ah W s.heap p v):ah W s'.heap p v :=
 r.keep (x.cA i hX) λz! z! h=>h
theorem rep0 {W:List Addr} {p v} (x:aG G [] s s') (i:G.inv s.heap) (r:Rep W s.heap p v):Rep W s'.heap p v:=x.rep i (by simp) r
theorem jH {W:List Addr} {p v} (x:aG G [] s s') (i:G.inv s.heap) (r:ah W s.heap p v):ah W s'.heap p v:=x.reps i (by simp) r
theorem ns {b:Addr} {m} (x:aG G X s s') (i:G.inv s.heap) (hb:b∉X) (h:s.heap.Ns b m):s'.heap.Ns b m:=by
 refine ob3_3 h λo es ep e d r=>?_
 exact ⟨o,es,ep,x.iR i hb e (by rw [d];simp),d,r⟩
theorem cell {b:Addr} {v} (x:aG G X s s') (i:G.inv s.heap) (hb:b∉X) (h:s.heap.IsCell b v):s'.heap.IsCell b v:=by
 refine ob1_2 h λo e d=>?_
 exact ⟨o,x.iR i hb e (by rw [d];simp),d⟩
end aG
noncomputable abbrev Glob.M (G:Glob):Model:=model G.prog G.w
end Mine
namespace Mine
open PySem PySem.W PyProof.Rows
structure Res where
 addrs:List Addr
 holds:List Addr->Heap->Prop
 keep:∀ W W' h h',holds W h->(∀ a∈addrs,∀ o,h.get? a=some o->h'.get? a=some o)->aI W h h' ->
  (∀ a,(∃ o,h.get? a=some o)->a∈W'->a∈W)->holds W' h'
noncomputable def Res.lst (a:Addr) (xs:List PV):Res where
 addrs:=[a]
 holds W h:=xs.length<=lim/\∃ vs,BY h a vs/\ah W h xs vs
 keep:=λW W' h h' zz k sk hw=>zz.elim λhl zz=>zz.elim λvs zz=>zz.elim λzn r=>zn.elim λn e=>⟨hl,vs,⟨n,k a (by simp) _ e⟩,r.keep sk hw⟩
noncomputable def Look (env:Env) (h:Heap) (x:Str) (v:Value):Prop :=
 (env.kindOf x=some .local/\∃ m,h.Ns env.locals m/\m x=some v) \/
 ((env.kindOf x=some .cell\/env.kindOf x=some .free)/\∃ c,env.cells.lookup x=some c/\h.IsCell c (some v))
noncomputable def cF (A:Around) (n:Nat):Prop:=A.handled=none/\A.depth+n<900/\A.units+20 * n<9000
theorem cF.mono {A:Around} {n m:Nat} (r:cF A n) (h:m<=n):cF A m:=⟨r.1,by have:=r.2.1;exact PT h this,by have:=r.2.2;exact PR h this⟩
structure Fm where
 A:Around
 env:Env
 s0:Shared
 X:List Addr
 n:Nat
 cv:List Str
structure St (G:Glob) (F:Fm) (ρ:List (Str×PV)) (W:List Addr) (Rs:List Res) (s:Shared):Prop where
 inv:G.inv s.heap
 stp:aG G F.X F.s0 s
 room:cF F.A F.n
 kind:F.env.scope.kind = .function
 glob:F.env.globals=mainGlobals
 blt:F.env.builtins=builtinsNs
 loc:∃ m,s.heap.Ns F.env.locals m
 cells:∀ x c,F.env.cells.lookup x=some c->∃ v,s.heap.IsCell c v
 jB:∀ x,F.env.kindOf x=some .cell\/F.env.kindOf x=some .free->∃ c,F.env.cells.lookup x=some c
 own:∀ x∈F.cv,∃ c,F.env.cells.lookup x=some c/\(F.s0.heap.get? c=none\/c∈F.X)/\G.base.objs.size<=c /\
  (∀ y,F.env.cells.lookup y=some c->y=x)
 vars:∀ x p,ρ.lookup x=some p->∃ v,Look F.env s.heap x v/\Rep W s.heap p v
 gx:(F.s0.heap.get? F.env.locals=none\/F.env.locals∈F.X)/\G.base.objs.size<=F.env.locals
 lW:F.env.locals∉W
 cW:∀ x c,F.env.cells.lookup x=some c->c∉W
 low:∀ a∈W,G.base.objs.size<=a/\∃ o,s.heap.get? a=some o
 new:∀ r∈Rs,∀ a∈r.addrs,a∈W/\(F.s0.heap.get? a=none\/a∈F.X)
 res:∀ r∈Rs,r.holds W s.heap
 apart:(Rs.flatMap (·.addrs)).Nodup
variable {G:Glob} {F:Fm} {ρ ρ':List (Str×PV)} {W:List Addr} {Rs:List Res} {s s':Shared}
theorem Look.step {env:Env} {X:List Addr} {x v} (y:aG G X s s') (i:G.inv s.heap) (hl:env.locals∉X) (hc:∀ x c,env.cells.lookup x=some c->c∉X)
  (h:Look env s.heap x v):Look env s'.heap x v:=by
 rcases h with ⟨k,m,hn,e⟩ | ⟨k,c,e,hv⟩
 ·exact .inl ⟨k,m,y.ns i hl hn,e⟩
 ·exact .inr ⟨k,c,e,y.cell i (hc x c e) hv⟩
theorem St.xP {Y:List Addr} (S:St G F ρ W Rs s) (x:aG G Y s s') (hY:∀ a∈Y,a∈W) (hn:∀ a∈Y,F.s0.heap.get? a=none\/a∈F.X)
  (hR:∀ r∈Rs,∀ a∈r.addrs,a∉Y) (hA:∀ a∈Y,∃ o,s'.heap.get? a=some o):St G F ρ W Rs s' where
 inv:=x.inv S.inv
 stp:=S.stp.drops x hn
 room:=S.room
 kind:=S.kind
 glob:=S.glob
 blt:=S.blt
 loc:=S.loc.imp λm h=>x.ns S.inv (λh=>S.lW (hY _ h)) h
 cells:=λy c e=>(S.cells y c e).imp λv h=>x.cell S.inv (λh=>S.cW y c e (hY _ h)) h
 jB:=S.jB
 own:=S.own
 vars:=λy p e=>(S.vars y p e).imp λv zz=>zz.elim λl r=>⟨l.step x S.inv (λh=>S.lW (hY _ h)) (λy c e h=>S.cW y c e (hY _ h)),x.rep S.inv hY r⟩
 gx:=S.gx
 lW:=S.lW
 cW:=S.cW
 low:=λa h=>⟨(S.low a h).1,by
  refine ob0_2 (S.low a h) λh1 az=>ob1_1 az λo e=>?_
  by_cases ha:a∈Y
  ·exact hA a ha
  ·exact ⟨o,x.keep a o ha (λht=>Tc _ (Su (G.rM a ht) h1)) e⟩⟩
 new:=S.new
 res:=λr hr=>r.keep W W _ _ (S.res r hr) (λa ha o e=>x.keep a o (hR r hr a ha) (by
  intro ht
  exact Tc _ (Su (G.rM a ht) (S.low a (S.new r hr a ha).1).1)) e) (x.cA S.inv hY) λz! z! h=>h
 apart:=S.apart
theorem St.step (S:St G F ρ W Rs s) (x:aG G [] s s'):St G F ρ W Rs s' :=
 S.xP x (by simp) (by simp) (by simp) (by simp)
theorem St.weaken (S:St G F ρ W Rs s) (h:∀ x p,ρ'.lookup x=some p->ρ.lookup x=some p):St G F ρ' W Rs s :=
 {S with vars:=λx p e=>S.vars x p (h x p e)}
noncomputable def EV (G:Glob) (F:Fm) (ρ:List (Str×PV)) (W:List Addr) (Rs:List Res) (e:Sp) (p:PV):Prop :=
 ∀ s,St G F ρ W Rs s->wpAny G.M F.A (eval e F.env) (λv s'=>aG G [] s s'/\Rep W s'.heap p v) (λz! z! => False) s
noncomputable def aW (G:Glob) (F:Fm) (ρ:List (Str×PV)) (W:List Addr) (Rs:List Res) (es:List Sp) (ps:List PV):Prop :=
 ∀ s,St G F ρ W Rs s->wpAny G.M F.A (spliced (es.map λe=>(false,eval e F.env))) (λvs s'=>aG G [] s s'/\ah W s'.heap ps vs) (λz! z! => False) s
noncomputable def TV (G:Glob) (F:Fm) (ρ:List (Str×PV)) (W:List Addr) (Rs:List Res) (e:Sp) (b:Bool):Prop :=
 ∀ s,St G F ρ W Rs s->wpAny G.M F.A (isTrue e F.env (eval e F.env)) (λv s'=>aG G [] s s'/\v=b) (λz! z! => False) s
noncomputable def XS (G:Glob) (F:Fm) (ρ:List (Str×PV)) (W:List Addr) (Rs:List Res) (ss:List Stmt) (K:Flow->Shared->Prop):Prop :=
 ∀ s,St G F ρ W Rs s->wpAny G.M F.A (execs ss F.env) K (λz! z! => False) s
theorem aF {α:Type} {M:Model} {A:Around} {t:Sem α} {Q Q':α->Shared->Prop} {E:Value->Shared->Prop} {s:Shared}
  (h:wpAny M A t Q (λz! z! => False) s) (hQ:∀ a s',Q a s'->Q' a s'):wpAny M A t Q' E s :=
 Vf h hQ λz! z! f=>f.elim
theorem EV.conv {e p q} (h:EV G F ρ W Rs e p) (hq:p=q):EV G F ρ W Rs e q:=hq▸h
theorem TV.conv {e p q} (h:TV G F ρ W Rs e p) (hq:p=q):TV G F ρ W Rs e q:=hq▸h
theorem aW.nil:aW G F ρ W Rs [] []:=λs z! => Sm ⟨.refl ..,by rw [ah]⟩
theorem aW.cons {e es p ps} (h:EV G F ρ W Rs e p) (h':aW G F ρ W Rs es ps):aW G F ρ W Rs (e::es) (p::ps):=λs S =>
 Uo (aF (h s S) λv s₁ zz=>zz.elim λx r=>aF (h' s₁ (S.step x)) λvs s₂ zz=>zz.elim λy rs =>
  ⟨x.trans y,by rw [ah];exact ⟨v,vs,rfl,y.rep0 (x.inv S.inv) r,rs⟩⟩)
theorem EV.name {x:Str} {pos:Pos} {p:PV} (hx:ρ.lookup x=some p) (hd:(x == ("__debug__":Str))=false:=by decide)
  (hc:(x == ("__classdict__":Str))=false:=by decide):EV G F ρ W Rs (.Name x pos) p:=λs S=>by
 refine ob1_2 (S.vars x p hx) λv l r=>?_
 refine wpAny_Name ?_ hd
 rcases l with ⟨k,m,hn,e⟩ | ⟨k | k,c,e,hv⟩
 ·exact Xc S.kind k hn e ⟨.refl ..,r⟩
 ·exact wpAny_loadName_cell S.kind k e hv ⟨.refl ..,r⟩
 ·exact Xw S.kind k e hv ⟨.refl ..,r⟩ hc
theorem EV.glob {x:Str} {pos:Pos} {v:Value} (hk:F.env.kindOf x=some .globalImplicit) (hx:G.mg x=some v)
  (hd:(x == ("__debug__":Str))=false:=by decide):EV G F ρ W Rs (.Name x pos) (.raw v):=λs S =>
 Wu S.kind hk (Calls.loadGlobal_global (by rw [S.glob];exact G.vY _ S.inv) hx ⟨.refl ..,by rw [Rep]⟩) hd
theorem EV.blt {x:Str} {pos:Pos} {v:Value} (hk:F.env.kindOf x=some .globalImplicit) (hx:G.mg x=none) (hb:G.mb x=some v)
  (hd:(x == ("__debug__":Str))=false:=by decide):EV G F ρ W Rs (.Name x pos) (.raw v):=λs S =>
 Wu S.kind hk (Xz (by rw [S.glob];exact G.vY _ S.inv) hx (by rw [S.blt];exact G.A_ _ S.inv) hb ⟨.refl ..,by rw [Rep]⟩) hd
theorem EV.aE {i:Int} {k:Nat} {pos:Pos}:EV G F ρ W Rs (.Constant (.int i) k pos) (.int i):=λs z! =>
 wpAny_Constant_int ⟨.of_toks G,by rw [Rep];exact ⟨_,rfl⟩⟩
theorem EV.bP {x:Str} {k:Nat} {pos:Pos} (hl:x.length<=lim:=by decide):EV G F ρ W Rs (.Constant (.str x) k pos) (.str x):=λs z! =>
 Calls.Constant_str ⟨.of_toks G,by rw [Rep];exact ⟨hl,_,rfl⟩⟩
theorem EV.nP {k:Nat} {pos:Pos}:EV G F ρ W Rs (.Constant .none k pos) .none:=λs z! =>
 Sm ⟨.refl ..,by rw [Rep]⟩
theorem EV.bin {l r:Sp} {op:Operator} {pos:Pos} {p q z:PV} (hl:EV G F ρ W Rs l p) (hr:EV G F ρ W Rs r q)
  (ho:∀ s a b,St G F ρ W Rs s->Rep W s.heap p a->Rep W s.heap q b ->
   wpAny G.M F.A (binaryOp op a b) (λv s'=>aG G [] s s'/\Rep W s'.heap z v) (λz! z! => False) s):EV G F ρ W Rs (.BinOp l op r pos) z:=λs S =>
 wpAny_BinOp (aF (hl s S) λa s₁ zz=>zz.elim λx ra=>aF (hr s₁ (S.step x)) λb s₂ zz=>zz.elim λy rb =>
  aF (ho s₂ a b ((S.step x).step y) (y.rep0 (x.inv S.inv) ra) rb) λv s₃ zz=>zz.elim λz rz=>⟨x.trans (y.trans z),rz⟩)
theorem EV.cmp {l r:Sp} {op:CmpOp} {pos:Pos} {p q z:PV} (hl:EV G F ρ W Rs l p) (hr:EV G F ρ W Rs r q)
  (ho:∀ s a b,St G F ρ W Rs s->Rep W s.heap p a->Rep W s.heap q b ->
   wpAny G.M F.A (compareOp op a b) (λv s'=>aG G [] s s'/\Rep W s'.heap z v) (λz! z! => False) s)
  (hm:behindInMarks op r=false:=by with_unfolding_all rfl):EV G F ρ W Rs (.Compare l [op] [r] pos) z:=λs S =>
 wpAny_Compare1 (aF (hl s S) λa s₁ zz=>zz.elim λx ra=>aF (hr s₁ (S.step x)) λb s₂ zz=>zz.elim λy rb =>
  aF (ho s₂ a b ((S.step x).step y) (y.rep0 (x.inv S.inv) ra) rb) λv s₃ zz=>zz.elim λz rz=>⟨x.trans (y.trans z),rz⟩) hm
theorem TV.cmp {l r:Sp} {op:CmpOp} {pos:Pos} {p q:PV} {z:Bool} (hl:EV G F ρ W Rs l p) (hr:EV G F ρ W Rs r q)
  (ho:∀ s a b,St G F ρ W Rs s->Rep W s.heap p a->Rep W s.heap q b ->
   wpAny G.M F.A (compareOp op a b) (λv s'=>aG G [] s s'/\Rep W s'.heap (.bool z) v) (λz! z! => False) s)
  (hm:behindInMarks op r=false:=by with_unfolding_all rfl):TV G F ρ W Rs (.Compare l [op] [r] pos) z:=λs S =>
 wpAny_isTrue_Compare1 (aF (hl s S) λa s₁ zz=>zz.elim λx ra=>aF (hr s₁ (S.step x)) λb s₂ zz=>zz.elim λy rb =>
  aF (ho s₂ a b ((S.step x).step y) (y.rep0 (x.inv S.inv) ra) rb) λv s₃ zz=>zz.elim λz rz=>by
   rw [Rep] at rz
   subst rz
   exact wpAny_truthy_bool ⟨x.trans (y.trans z),rfl⟩) hm
end Mine
namespace Mine
open PySem PySem.W PyProof.Rows
variable {G:Glob} {F:Fm} {ρ ρ':List (Str×PV)} {W:List Addr} {Rs:List Res} {s s':Shared}
section
variable {l r:Sp} {pos:Pos} {a b:Int}
theorem EV.add (hl:EV G F ρ W Rs l (.int a)) (hr:EV G F ρ W Rs r (.int b)):EV G F ρ W Rs (.BinOp l .Add r pos) (.int (a+b)) :=
 EV.bin hl hr λs x y S rx ry=>by
  rw [Rep] at rx ry;refine ob1_1 rx λt aC=>?_;obtain rfl:=aC;refine ob1_1 ry λu aC=>?_;obtain rfl:=aC
  exact P.add_int ⟨.of_toks G,by rw [Rep];exact ⟨_,rfl⟩⟩
theorem EV.sub (hl:EV G F ρ W Rs l (.int a)) (hr:EV G F ρ W Rs r (.int b)):EV G F ρ W Rs (.BinOp l .Sub r pos) (.int (a - b)) :=
 EV.bin hl hr λs x y S rx ry=>by
  rw [Rep] at rx ry;refine ob1_1 rx λt aC=>?_;obtain rfl:=aC;refine ob1_1 ry λu aC=>?_;obtain rfl:=aC
  exact P.sub_int ⟨.of_toks G,by rw [Rep];exact ⟨_,rfl⟩⟩
theorem EV.mod (hl:EV G F ρ W Rs l (.int a)) (hr:EV G F ρ W Rs r (.int b)) (hb:b≠0):EV G F ρ W Rs (.BinOp l .Mod r pos) (.int (a.fmod b)) :=
 EV.bin hl hr λs x y S rx ry=>by
  rw [Rep] at rx ry;refine ob1_1 rx λt aC=>?_;obtain rfl:=aC;refine ob1_1 ry λu aC=>?_;obtain rfl:=aC
  exact mod_int' hb ⟨.of_toks G,by rw [Rep];exact ⟨_,rfl⟩⟩
theorem EV.fdiv (hl:EV G F ρ W Rs l (.int a)) (hr:EV G F ρ W Rs r (.int b)) (hb:b≠0) (hs:b.natAbs<1000000000):EV G F ρ W Rs (.BinOp l .FloorDiv r pos) (.int (a.fdiv b)) :=
 EV.bin hl hr λs x y S rx ry=>by
  rw [Rep] at rx ry;refine ob1_1 rx λt aC=>?_;obtain rfl:=aC;refine ob1_1 ry λu aC=>?_;obtain rfl:=aC
  exact floordiv_int hb ⟨.of_toks G,by rw [Rep];exact ⟨_,rfl⟩⟩ (Or.inl (PyProof.noPylong_small (by exact Su hs (Sv _ _))))
theorem EV.neg {e:Sp} (he:EV G F ρ W Rs e (.int a)):EV G F ρ W Rs (.UnaryOp .USub e pos) (.int (-a)):=λs S=>by
 have e0:eval (.UnaryOp .USub e pos) F.env=(do let v<-eval e F.env;standAt pos;holding [v] (unaryOp .USub v)):=rfl
 rw [e0]
 refine Sl (aF (he s S) λv s₁ zz=>zz.elim λx rx=>Sl (Tt (Sy ?_)))
 rw [Rep] at rx;refine ob1_1 rx λt aC=>?_;obtain rfl:=aC
 exact P.neg_int ⟨x.toks _,by rw [Rep];exact ⟨_,rfl⟩⟩
theorem zL {op:CmpOp} {z:Bool} (h:∀ (s:Shared) (t u:Tok) (Q:Value->Shared->Prop),Q (.bool z) s->wpAny G.M F.A (compareOp op (.int a t) (.int b u)) Q (λz! z! => False) s) :
  ∀ s x y,St G F ρ W Rs s->Rep W s.heap (.int a) x->Rep W s.heap (.int b) y ->
   wpAny G.M F.A (compareOp op x y) (λv s'=>aG G [] s s'/\Rep W s'.heap (.bool z) v) (λz! z! => False) s:=λs x y S rx ry=>by
 rw [Rep] at rx ry;refine ob1_1 rx λt aC=>?_;obtain rfl:=aC;refine ob1_1 ry λu aC=>?_;obtain rfl:=aC
 exact h s t u _ ⟨.refl ..,by rw [Rep]⟩
theorem ug:∀ s x y,St G F ρ W Rs s->Rep W s.heap (.int a) x->Rep W s.heap (.int b) y ->
   wpAny G.M F.A (compareOp .Eq x y) (λv s'=>aG G [] s s'/\Rep W s'.heap (.bool (decide (a=b))) v) (λz! z! => False) s :=
 zL λs t u Q h=>P.eq_int (by rw [show (a == b)=decide (a=b) from rfl];exact h)
theorem jL:∀ s x y,St G F ρ W Rs s->Rep W s.heap (.int a) x->Rep W s.heap (.int b) y ->
   wpAny G.M F.A (compareOp .Lt x y) (λv s'=>aG G [] s s'/\Rep W s'.heap (.bool (decide (a<b))) v) (λz! z! => False) s :=
 zL λs t u Q h=>P.lt_int h
theorem I4:∀ s x y,St G F ρ W Rs s->Rep W s.heap (.int a) x->Rep W s.heap (.int b) y ->
   wpAny G.M F.A (compareOp .LtE x y) (λv s'=>aG G [] s s'/\Rep W s'.heap (.bool (decide (a<=b))) v) (λz! z! => False) s :=
 zL λs t u Q h=>P.le_int h
theorem qt:∀ s x y,St G F ρ W Rs s->Rep W s.heap (.int a) x->Rep W s.heap (.int b) y ->
   wpAny G.M F.A (compareOp .Gt x y) (λv s'=>aG G [] s s'/\Rep W s'.heap (.bool (decide (b<a))) v) (λz! z! => False) s :=
 zL λs t u Q h=>P.gt_int h
theorem I5:∀ s x y,St G F ρ W Rs s->Rep W s.heap (.int a) x->Rep W s.heap (.int b) y ->
   wpAny G.M F.A (compareOp .GtE x y) (λv s'=>aG G [] s s'/\Rep W s'.heap (.bool (decide (b<=a))) v) (λz! z! => False) s :=
 zL λs t u Q h=>P.ge_int h
theorem qu {a b:Str}:∀ s x y,St G F ρ W Rs s->Rep W s.heap (.str a) x->Rep W s.heap (.str b) y ->
   wpAny G.M F.A (compareOp .Eq x y) (λv s'=>aG G [] s s'/\Rep W s'.heap (.bool (decide (a=b))) v) (λz! z! => False) s:=λs x y S rx ry=>by
 rw [Rep] at rx ry;refine ob0_2 rx λz! az=>ob1_1 az λt bh=>?_;obtain rfl:=bh;refine ob0_2 ry λz! az=>ob1_1 az λu bh=>?_;obtain rfl:=bh
 refine P.eq_str ⟨.refl ..,?_⟩
 rw [Rep]
 congr 1
 by_cases h:a=b
 ·subst h;simp
 ·have:a.cps.toList≠b.cps.toList:=λe=>h (by cases a;cases b;congr;exact Array.toList_inj.mp e)
  have h2:¬ a.cps=b.cps:=λe=>this (by rw [e])
  simp [h,h2]
end
mutual
noncomputable def PV.toD:PV->PyData
 | .none=>.none
 | .bool b=>.bool b
 | .int i=>.int i
 | .str x=>.str x
 | .tup xs=>.tuple (PV.toDs xs)
 | .lst xs=>.list (PV.toDs xs)
 | .raw _=>.none
noncomputable def PV.toDs:List PV->List PyData
 | []=>[]
 | x::xs=>x.toD::PV.toDs xs
end
mutual
noncomputable def PV.plain:PV->Bool
 | .tup xs=>PV.g6 xs
 | .lst xs=>PV.g6 xs
 | .raw v=>false
 | _=>true
noncomputable def PV.g6:List PV->Bool
 | []=>true
 | x::xs=>x.plain && PV.g6 xs
end
mutual
theorem Rep.reads {h:Heap}:∀ {p v},Rep W h p v->p.plain=true->∃ as,Reads h v p.toD as
 | .none,v,r,_=>by rw [Rep] at r;subst r;exact ⟨_,.none⟩
 | .bool b,v,r,_=>by rw [Rep] at r;subst r;exact ⟨_,.bool b⟩
 | .int i,v,r,_=>by rw [Rep] at r;refine ob1_1 r λt aC=>?_;obtain rfl:=aC;exact ⟨_,.int i t⟩
 | .str x,v,r,_=>by rw [Rep] at r;refine ob0_2 r λz! az=>ob1_1 az λt bh=>?_;obtain rfl:=bh;exact ⟨_,.str x t⟩
 | .raw x,v,r,hp=>by rw [PV.plain] at hp;cases hp
 | .tup xs,v,r,hp=>by
  rw [Rep] at r
  refine ob0_2 r λz! az=>ob2_4 az λa vs bq z! aY rs=>?_;obtain rfl:=bq;refine ob1_1 aY λn e=>?_
  refine ob1_1 (ah.reads rs (by rw [PV.plain] at hp;exact hp)) λas M8=>?_
  exact ⟨_,by rw [PV.toD];exact .tuple e rfl rfl (by simpa using M8)⟩
 | .lst xs,v,r,hp=>by
  rw [Rep] at r
  refine ob0_2 r λz! az=>ob2_4 az λa vs bq z! aY rs=>?_;obtain rfl:=bq;refine ob1_1 aY λn e=>?_
  refine ob1_1 (ah.reads rs (by rw [PV.plain] at hp;exact hp)) λas M8=>?_
  exact ⟨_,by rw [PV.toD];exact .list e rfl rfl (by simpa using M8)⟩
theorem ah.reads {h:Heap}:∀ {ps vs},ah W h ps vs->PV.g6 ps=true->∃ as,ReadsAll h vs (PV.toDs ps) as
 | [],vs,r,_=>by rw [ah] at r;subst r;exact ⟨_,.nil⟩
 | p::ps,vs,r,hp=>by
  rw [ah] at r
  refine ob2_3 r λv vs' aA r1 r2=>?_;obtain rfl:=aA
  rw [PV.g6,Wo] at hp
  refine ob1_1 (Rep.reads r1 hp.1) λas h1=>ob1_1 (ah.reads r2 hp.2) λbs h2=>?_
  exact ⟨_,by rw [PV.toDs];exact .cons h1 h2⟩
end
noncomputable def PV.ok (p:PV):Prop:=p.plain=true/\p.toD.canLay0=true/\p.toD.depth<=60
noncomputable def PV.eqv (p q:PV):Bool:=WV p.toD q.toD
theorem uc {d e:PyData} (r:cF F.A F.n) (h:d.depth<=60):F.A.units+min d.depth e.depth<cLine:=by
 have:=r.2.2
 have:=Nat.min_le_left d.depth e.depth
 have hc:cLine=9900:=rfl
 exact PN h (by assumption) this hc
theorem yh {p q:PV} (hp:p.ok) (hq:q.ok):∀ s x y,St G F ρ W Rs s->Rep W s.heap p x->Rep W s.heap q y ->
   wpAny G.M F.A (compareOp .Eq x y) (λv s'=>aG G [] s s'/\Rep W s'.heap (.bool (p.eqv q)) v) (λz! z! => False) s:=λs x y S rx ry=>by
 refine ob1_1 (rx.reads hp.1) λas ra=>ob1_1 (ry.reads hq.1) λbs rb=>?_
 exact SeqAt.compareEq_reads ra rb hp.2.1 hq.2.1 (uc S.room hp.2.2) ⟨.refl ..,by rw [Rep];rfl⟩
theorem nv {p q:PV} (hp:p.ok) (hq:q.ok):∀ s x y,St G F ρ W Rs s->Rep W s.heap p x->Rep W s.heap q y ->
   wpAny G.M F.A (compareOp .NotEq x y) (λv s'=>aG G [] s s'/\Rep W s'.heap (.bool (!p.eqv q)) v) (λz! z! => False) s:=λs x y S rx ry=>by
 refine ob1_1 (rx.reads hp.1) λas ra=>ob1_1 (ry.reads hq.1) λbs rb=>?_
 exact SeqAt.compareNe_reads ra rb hp.2.1 hq.2.1 (uc S.room hp.2.2) ⟨.refl ..,by rw [Rep];rfl⟩
theorem CE {p:PV} {xs:List PV} (hp:p.ok) (hq:(PV.lst xs).ok):∀ s x y,St G F ρ W Rs s->Rep W s.heap p x->Rep W s.heap (.lst xs) y ->
   wpAny G.M F.A (compareOp .In x y) (λv s'=>aG G [] s s'/\Rep W s'.heap (.bool (xs.any λy=>y.eqv p)) v) (λz! z! => False) s:=λs x y S rx ry=>by
 refine ob1_1 (rx.reads hp.1) λas ra=>ob1_1 (ry.reads hq.1) λbs rb=>?_
 have h2:=hq.2
 rw [PV.toD] at rb h2
 refine SeqAt.in_list_reads rb ra (by rw [<- PyData.canLay0];exact h2.1) hp.2.1 ?_ ⟨.refl ..,?_⟩
 ·have:=S.room.2.2
  have h3:=Wq (PyData.depthAll (PV.toDs xs)) p.toD.depth
  have:=hp.2.2
  have hc:cLine=9900:=rfl
  exact IE (by assumption) h3 this hc
 ·rw [Rep]
  congr 1
  clear h2 rb ry hq
  induction xs with
  | nil=>rfl
  | cons x xs ih=>simp only [PV.toDs,List.any_cons,PV.eqv] at ih ⊢;rw [ih]
theorem yg {p:PV} {xs:List PV} (hp:p.ok) (hq:(PV.lst xs).ok):∀ s x y,St G F ρ W Rs s->Rep W s.heap p x->Rep W s.heap (.lst xs) y ->
   wpAny G.M F.A (compareOp .NotIn x y) (λv s'=>aG G [] s s'/\Rep W s'.heap (.bool (!xs.any λy=>y.eqv p)) v) (λz! z! => False) s:=λs x y S rx ry=>by
 refine ob1_1 (rx.reads hp.1) λas ra=>ob1_1 (ry.reads hq.1) λbs rb=>?_
 have h2:=hq.2
 rw [PV.toD] at rb h2
 refine SeqAt.notIn_list_reads rb ra (by rw [<- PyData.canLay0];exact h2.1) hp.2.1 ?_ ⟨.refl ..,?_⟩
 ·have:=S.room.2.2
  have h3:=Wq (PyData.depthAll (PV.toDs xs)) p.toD.depth
  have:=hp.2.2
  have hc:cLine=9900:=rfl
  exact IE (by assumption) h3 this hc
 ·rw [Rep]
  congr 2
  clear h2 rb ry hq
  induction xs with
  | nil=>rfl
  | cons x xs ih=>simp only [PV.toDs,List.any_cons,PV.eqv] at ih ⊢;rw [ih]
section
variable {l r:Sp} {pos:Pos}
theorem EV.mW {x y:Str} (hl:EV G F ρ W Rs l (.str x)) (hr:EV G F ρ W Rs r (.str y)) (hz:(x++y).length<=lim):EV G F ρ W Rs (.BinOp l .Add r pos) (.str (x++y)) :=
 EV.bin hl hr λs a b S rx ry=>by
  rw [Rep] at rx ry;refine ob0_2 rx λz! az=>ob1_1 az λt bh=>?_;obtain rfl:=bh;refine ob0_2 ry λz! az=>ob1_1 az λu bh=>?_;obtain rfl:=bh
  have key:∀ z:Str,z=x++y->∀ t',Rep W s.heap (.str (x++y)) (.str z t'):=λz e t'=>by rw [Rep];exact ⟨hz,t',by rw [e]⟩
  refine P.add_str ?_
  split
  ·rename_i h
   exact ⟨.refl ..,key _ (Str.append_left_empty (y:=y) h).symm _⟩
  ·split
   ·rename_i h
    exact ⟨.refl ..,key _ (Str.append_right_empty (x:=x) h).symm _⟩
   ·exact ⟨Sn hz (by decide),.of_toks G,key _ rfl _⟩
theorem EV.DK {x:Str} {n:Int} (hl:EV G F ρ W Rs l (.str x)) (hr:EV G F ρ W Rs r (.int n)) (h1:x.length<=16) (h2:n<=65536) (h3 : -65536<=n) (hz:(VQ x n).length<=lim) :
  EV G F ρ W Rs (.BinOp l .Mult r pos) (.str (VQ x n)) :=
 EV.bin (p:=.str x) (q:=.int n) hl hr λs a b S rx ry=>by
  rw [Rep] at rx
  rw [Rep] at ry
  refine ob0_2 rx λz! az=>ob1_1 az λt bh=>?_;obtain rfl:=bh;refine ob1_1 ry λu aC=>?_;obtain rfl:=aC
  exact SB.mul (mulOk_of 16 65536 h1 (by exact h2) (Int.le_trans (by decide) h3) (by decide) (by decide)) λt' k=>⟨.of_toks G,by rw [Rep];exact ⟨hz,_,rfl⟩⟩
end
theorem ah.append {h:Heap} {ps qs vs us} (h1:ah W h ps vs) (h2:ah W h qs us):ah W h (ps++qs) (vs++us):=by
 induction ps generalizing vs with
 | nil=>rw [ah] at h1;subst h1;exact h2
 | cons p ps ih =>
  rw [ah] at h1
  refine ob2_3 h1 λv vs' aA r1 r2=>?_;obtain rfl:=aA
  rw [Vb,ah]
  exact ⟨v,vs'++us,rfl,r1,ih r2⟩
theorem ah.get {h:Heap} {ps vs} (h1:ah W h ps vs) {i:Nat} {p:PV} (hi:ps[i]? = some p):∃ v,vs[i]? = some v/\Rep W h p v:=by
 induction ps generalizing vs i with
 | nil=>simp at hi
 | cons q ps ih =>
  rw [ah] at h1
  refine ob2_3 h1 λv vs' aA r1 r2=>?_;obtain rfl:=aA
  cases i with
  | zero=>simp at hi;subst hi;exact ⟨v,by simp,r1⟩
  | succ i=>simp at hi;refine ob1_2 (ih r2 hi) λu hu ru=>?_;exact ⟨u,by simpa using hu,ru⟩
theorem ah.take {h:Heap} {ps vs} (h1:ah W h ps vs) (n:Nat):ah W h (ps.take n) (vs.take n):=by
 induction n generalizing ps vs with
 | zero=>simp only [List.take_zero];rw [ah]
 | succ n ih =>
  cases ps with
  | nil=>rw [ah] at h1;subst h1;simp only [List.take_nil];rw [ah]
  | cons p ps =>
   rw [ah] at h1
   refine ob2_3 h1 λv vs' aA r1 r2=>?_;obtain rfl:=aA
   rw [List.take_succ_cons,List.take_succ_cons,ah]
   exact ⟨_,_,rfl,r1,ih r2⟩
theorem ah.drop {h:Heap} {ps vs} (h1:ah W h ps vs) (n:Nat):ah W h (ps.drop n) (vs.drop n):=by
 induction n generalizing ps vs with
 | zero=>simpa using h1
 | succ n ih =>
  cases ps with
  | nil=>rw [ah] at h1;subst h1;simp only [List.drop_nil];rw [ah]
  | cons p ps =>
   rw [ah] at h1
   refine ob2_3 h1 λv vs' aA r1 r2=>?_;obtain rfl:=aA
   simpa using ih r2
theorem St.newList (S:St G F ρ W Rs s) {xs:List PV} {vs:List Value} {t:Tok} (h:ah W s.heap xs vs) (hl:xs.length<=lim) :
  aG G [] s {s with heap:=s.heap.push {cls:=.type "list",data:=.seq vs.toArray},toks:=t} /\
  Rep W (s.heap.push {cls:=.type "list",data:=.seq vs.toArray}) (.lst xs) (.ref s.heap.objs.size):=by
 refine ⟨.bO G,?_⟩
 rw [Rep]
 refine ⟨hl,_,vs,rfl,λhm=>(S.low _ hm).2.elim λo e=>Tc _ (Te e),⟨0,SH _ rfl⟩,?_⟩
 exact (aG.bO G (s:=s) (t:=t)).jH S.inv h
theorem St.DH (S:St G F ρ W Rs s) {xs:List PV} {vs:List Value} {t:Tok} (h:ah W s.heap xs vs) (hl:xs.length<=lim) :
  aG G [] s {s with heap:=s.heap.push {cls:=.type "tuple",data:=.seq vs.toArray},toks:=t} /\
  Rep W (s.heap.push {cls:=.type "tuple",data:=.seq vs.toArray}) (.tup xs) (.ref s.heap.objs.size):=by
 refine ⟨.bO G,?_⟩
 rw [Rep]
 refine ⟨hl,_,vs,rfl,λhm=>(S.low _ hm).2.elim λo e=>Tc _ (Te e),⟨0,SH _ rfl⟩,?_⟩
 exact (aG.bO G (s:=s) (t:=t)).jH S.inv h
theorem EV.rF {l r:Sp} {pos:Pos} {xs ys:List PV} (hl:EV G F ρ W Rs l (.lst xs)) (hr:EV G F ρ W Rs r (.lst ys)) (hz:xs.length+ys.length<=lim) :
  EV G F ρ W Rs (.BinOp l .Add r pos) (.lst (xs++ys)) :=
 EV.bin hl hr λs a b S rx ry=>by
  rw [Rep] at rx ry
  refine ob0_2 rx λz! az=>ob2_4 az λc vs bq z! aY rv=>?_;obtain rfl:=bq;refine ob1_1 aY λn e=>?_
  refine ob0_2 ry λz! az=>ob2_4 az λd us bq z! aY ru=>?_;obtain rfl:=bq;refine ob1_1 aY λm e'=>?_
  have lv:=rv.length
  have lu:=ru.length
  have:=S.newList (t:=s.toks) (rv.append ru) (by simpa using hz)
  rw [show (vs++us).toArray=vs.toArray++us.toArray by simp] at this
  exact P.add_list e e' this (by simp only [T5,lv,lu];exact Sn hz (by decide))
end Mine
namespace Mine
open PySem PySem.W PyProof.Rows
variable {G:Glob} {F:Fm} {ρ ρ':List (Str×PV)} {W:List Addr} {Rs:List Res} {s s':Shared}
theorem EV.list {es:List Sp} {pos:Pos} {ps:List PV} (h:aW G F ρ W Rs es ps) (hl:ps.length<=lim:=by decide)
  (hst:backTo pos (starEach es F.env)=es.map (λe=>(false,eval e F.env)):=by rfl):EV G F ρ W Rs (.List es pos) (.lst ps):=λs S =>
 wpAny_List_spliced (by
  rw [hst]
  refine aF (h s S) λvs s₁ zz=>zz.elim λx r=>?_
  have S₁:=S.step x
  refine ob0_2 (S₁.newList (t:=s₁.toks) r hl) λy r'=>?_
  refine ⟨?_,x.trans y,r'⟩
  rw [r.length]
  exact Sn hl (by decide))
theorem EV.tup {es:List Sp} {k:Nat} {pos:Pos} {ps:List PV} (h:aW G F ρ W Rs es ps) (hl:ps.length<=lim:=by decide)
  (hst:backTo pos (starEach es F.env)=es.map (λe=>(false,eval e F.env)):=by rfl):EV G F ρ W Rs (.Tuple es k pos) (.tup ps):=λs S =>
 wpAny_Tuple_spliced (by
  rw [hst]
  refine aF (h s S) λvs s₁ zz=>zz.elim λx r=>?_
  have S₁:=S.step x
  refine ob0_2 (S₁.DH (t:=s₁.toks) r hl) λy r'=>?_
  refine ⟨?_,x.trans y,r'⟩
  rw [r.length]
  exact Sn hl (by decide))
theorem TV.plain {e:Sp} {p:PV} {b:Bool} (h:EV G F ρ W Rs e p)
  (ht:∀ s v,G.inv s.heap->Rep W s.heap p v->wpAny G.M F.A (truthy v) (λc s'=>aG G [] s s'/\c=b) (λz! z! => False) s)
  (he:∀ whole,isTrue e F.env whole=(do let v<-whole;standAt e.pos;holding [v] (truthy v)):=by intro _;rfl):TV G F ρ W Rs e b:=λs S =>
 isTrue_plain (aF (h s S) λv s₁ zz=>zz.elim λx r=>aF (ht s₁ v (x.inv S.inv) r) λc s₂ zz=>zz.elim λy e=>⟨x.trans y,e⟩) (he _)
theorem t6 {b:Bool}:∀ s v,G.inv s.heap->Rep W s.heap (.bool b) v->wpAny G.M F.A (truthy v) (λc s'=>aG G [] s s'/\c=b) (λz! z! => False) s :=
 λs v z! r=>by rw [Rep] at r;subst r;exact wpAny_truthy_bool ⟨.refl ..,rfl⟩
theorem TV.not {e:Sp} {pos:Pos} {b:Bool} (h:TV G F ρ W Rs e b):TV G F ρ W Rs (.UnaryOp .Not e pos) (!b):=λs S =>
 isTrue_not (aF (h s S) λc s₁ zz=>zz.elim λx e=>⟨x,by rw [e]⟩)
theorem TV.pI {pos:Pos}:TV G F ρ W Rs (.BoolOp .And [] pos) true:=λs S=>isTrue_and_nil ⟨.refl ..,rfl⟩
theorem TV.and {e:Sp} {es:List Sp} {pos:Pos} {b c:Bool} (h:TV G F ρ W Rs e b) (h':b=true->TV G F ρ W Rs (.BoolOp .And es pos) c) :
  TV G F ρ W Rs (.BoolOp .And (e::es) pos) (b && c):=λs S=>isTrue_and (aF (h s S) λd s₁ zz=>zz.elim λx e=>by
 subst e
 cases d with
 | false=>exact ⟨x,rfl⟩
 | true=>exact aF (h' rfl s₁ (S.step x)) λd s₂ zz=>zz.elim λy e=>⟨x.trans y,by rw [e];rfl⟩)
theorem EV.qJ {t a b:Sp} {pos:Pos} {c:Bool} {p:PV} (h:TV G F ρ W Rs t c) (h1:c=true->EV G F ρ W Rs a p) (h2:c=false->EV G F ρ W Rs b p) :
  EV G F ρ W Rs (.IfExp t a b pos) p:=λs S=>wpAny_IfExp (aF (h s S) λd s₁ zz=>zz.elim λx e=>by
 subst e
 cases d with
 | true=>exact aF (h1 rfl s₁ (S.step x)) λd s₂ zz=>zz.elim λy e=>⟨x.trans y,e⟩
 | false=>exact aF (h2 rfl s₁ (S.step x)) λd s₂ zz=>zz.elim λy e=>⟨x.trans y,e⟩)
theorem rY {pos:Pos} {l m r:Sp} {o1 o2:CmpOp} {p q z:PV} {b c:Bool} (hl:EV G F ρ W Rs l p) (hm:EV G F ρ W Rs m q) (hr:b=true->EV G F ρ W Rs r z)
  (h1:∀ s x y,St G F ρ W Rs s->Rep W s.heap p x->Rep W s.heap q y->wpAny G.M F.A (compareOp o1 x y) (λv s'=>aG G [] s s'/\Rep W s'.heap (.bool b) v) (λz! z! => False) s)
  (h2:b=true->∀ s x y,St G F ρ W Rs s->Rep W s.heap q x->Rep W s.heap z y->wpAny G.M F.A (compareOp o2 x y) (λv s'=>aG G [] s s'/\Rep W s'.heap (.bool c) v) (λz! z! => False) s)
  (hk:lastMarks [o1,o2] [m,r]=false:=by with_unfolding_all rfl) :
  TV G F ρ W Rs (.Compare l [o1,o2] [m,r] pos) (b && c):=λs S=>by
 refine isTrue_chain (aF (hl s S) λx s₁ zz=>zz.elim λu rx=>?_) hk
 have S₁:=S.step u
 show wpAny _ _ (do
  let rv<-holding [x] (eval m F.env)
  standAt pos
  let c<-holding [x,rv] (compareOp o1 x rv)
  release [x,rv] [c]
  if<-holding [c,rv] (truthy c) then testChain pos rv [o2] [eval r F.env] else pure false) _ _ s₁
 refine Sl (Sy (aF (hm s₁ S₁) λy s₂ zz=>zz.elim λu' ry=>?_))
 have S₂:=S₁.step u'
 refine Sl (Tt (Sl (Sy (aF (h1 s₂ x y S₂ (u'.rep0 S₁.inv rx) ry) λd s₃ zz=>zz.elim λu3 rd=>?_))))
 have aT:=S₂.step u3
 rw [Rep] at rd
 subst rd
 refine Sl (XA (Sl (Sy (wpAny_truthy_bool ?_))))
 cases b with
 | false=>exact Sm ⟨u.trans (u'.trans u3),rfl⟩
 | true =>
  show wpAny _ _ (do
   let rv<-holding [y] (eval r F.env)
   standAt pos
   let c<-operate [y,rv] (compareOp o2 y rv)
   holding [c] (truthy c)) _ _ s₃
  refine Sl (Sy (aF (hr rfl s₃ aT) λw s₄ zz=>zz.elim λu4 P_=>?_))
  have bZ:=aT.step u4
  refine Sl (Tt (Sl (wpAny_operating (aF (h2 rfl s₄ y w bZ (u4.rep0 aT.inv (u3.rep0 S₂.inv ry)) P_) λd s₅ zz=>zz.elim λu5 rd=>?_))))
  rw [Rep] at rd
  subst rd
  exact Sy (wpAny_truthy_bool ⟨u.trans (u'.trans (u3.trans (u4.trans u5))),rfl⟩)
noncomputable def idx? {α:Type} (xs:List α) (i:Int):Option α:=(seqIndex? i xs.length).bind (xs[·]?)
theorem EV.yU {value slice:Sp} {pos:Pos} {xs:List PV} {i:Int} {p:PV} (hv:EV G F ρ W Rs value (.lst xs)) (hi:EV G F ρ W Rs slice (.int i)) (hx:idx? xs i=some p)
  (hs:∀ o i,subscripted slice false o i=operate [o,i] (getItem o i):=by intro _ _;rfl):EV G F ρ W Rs (.Subscript value slice pos) p:=λs S =>
 X_ (aF (hv s S) λo s₁ zz=>zz.elim λx ro=>aF (hi s₁ (S.step x)) λj s₂ zz=>zz.elim λy rj=>by
  have Cz:=y.rep0 (x.inv S.inv) ro
  rw [Rep] at Cz
  rw [Rep] at rj
  refine ob0_2 Cz λhl az=>ob2_4 az λa vs bq z! aY rs=>?_;obtain rfl:=bq;refine ob1_1 aY λn e=>?_
  refine ob1_1 rj λt aC=>?_;obtain rfl:=aC
  have hz:=rs.length
  have hL:s₂.heap.IsList a vs.toArray:=⟨_,e,rfl,n,rfl⟩
  unfold idx? at hx
  obtain ⟨k,hk,hxk⟩:∃ k,seqIndex? i xs.length=some k/\xs[k]? = some p:=by
   cases h:seqIndex? i xs.length with
   | none=>rw [h] at hx;cases hx
   | some k=>rw [h] at hx;exact ⟨k,rfl,hx⟩
  refine ob1_2 (rs.get hxk) λv hv' rv=>?_
  have hr:=xS hk hl
  refine tail_any hL.typeIs WD.lookup ?_ (hs _ _)
  by_cases h0:i<0
  ·refine wpAny_getItem_list_neg hL h0 (by rw [T5,hz];exact hr.1) hr.2.1 ?_ ⟨x.trans y,rv⟩
   rw [T5,hz,hr.2.2.2.1 h0]
   exact (W7 ..).trans hv'
  ·refine wpAny_getItem_list hL (WW.mp h0) hr.2.2.1 ?_ ⟨x.trans y,rv⟩
   rw [hr.2.2.2.2 h0]
   exact (W7 ..).trans hv')
theorem EV.Ju {value slice:Sp} {pos:Pos} {xs:List PV} {i:Int} {p:PV} (hv:EV G F ρ W Rs value (.tup xs)) (hi:EV G F ρ W Rs slice (.int i)) (hx:idx? xs i=some p)
  (hs:∀ o i,subscripted slice false o i=operate [o,i] (getItem o i):=by intro _ _;rfl):EV G F ρ W Rs (.Subscript value slice pos) p:=λs S =>
 X_ (aF (hv s S) λo s₁ zz=>zz.elim λx ro=>aF (hi s₁ (S.step x)) λj s₂ zz=>zz.elim λy rj=>by
  have Cz:=y.rep0 (x.inv S.inv) ro
  rw [Rep] at Cz
  rw [Rep] at rj
  refine ob0_2 Cz λhl az=>ob2_4 az λa vs bq z! aY rs=>?_;obtain rfl:=bq;refine ob1_1 aY λn e=>?_
  refine ob1_1 rj λt aC=>?_;obtain rfl:=aC
  have hz:=rs.length
  have hL:IsTup s₂.heap a vs.toArray:=⟨_,e,rfl,n,rfl⟩
  unfold idx? at hx
  obtain ⟨k,hk,hxk⟩:∃ k,seqIndex? i xs.length=some k/\xs[k]? = some p:=by
   cases h:seqIndex? i xs.length with
   | none=>rw [h] at hx;cases hx
   | some k=>rw [h] at hx;exact ⟨k,rfl,hx⟩
  refine ob1_2 (rs.get hxk) λv hv' rv=>?_
  have hb:=(xS hk hl).2
  exact item_tupleT hL hb.1 hb.2.1 (by rw [hz];exact hk) hv' ⟨x.trans y,rv⟩ (hs _ _))
theorem EV.yT {value slice:Sp} {pos:Pos} {z:Str} {i:Int} {c:Nat} (hv:EV G F ρ W Rs value (.str z)) (hi:EV G F ρ W Rs slice (.int i))
  (hx:(seqIndex? i z.length).bind (z.cps[·]?)=some c) (h1 : -(2 ^ 63)<=i) (h2:i<2 ^ 63)
  (hs:∀ o i,subscripted slice false o i=operate [o,i] (getItem o i):=by intro _ _;rfl):EV G F ρ W Rs (.Subscript value slice pos) (.str ⟨#[c]⟩):=λs S =>
 X_ (aF (hv s S) λo s₁ zz=>zz.elim λx ro=>aF (hi s₁ (S.step x)) λj s₂ zz=>zz.elim λy rj=>by
  rw [Rep] at ro
  rw [Rep] at rj
  refine ob0_2 ro λhl az=>ob1_1 az λt' bh=>?_;obtain rfl:=bh
  refine ob1_1 rj λt aC=>?_;obtain rfl:=aC
  refine tail_any (Wv s₂ z t') PySem.F.slot_str_getitem.lookup (P.getItem_str (Xd.mpr ⟨decide_eq_false (WW.mpr h1),decide_eq_false (Int.not_le.mpr h2)⟩) hx ⟨x.trans (y.toks _),?_⟩) (hs _ _)
  rw [Rep]
  exact ⟨(by decide:(1:Nat)<=lim),_,rfl⟩)
noncomputable def EP (G:Glob) (F:Fm) (ρ:List (Str×PV)) (W:List Addr) (Rs:List Res):Option Sp->Option Int->Prop
 | none,none=>True
 | some e,some i=>EV G F ρ W Rs e (.int i)
 | _,_=>False
theorem EP.wp {e:Option Sp} {k:Option Int} (h:EP G F ρ W Rs e k) (S:St G F ρ W Rs s) :
  wpAny G.M F.A (valueOrNone (evalOpt e F.env)) (λv s'=>aG G [] s s'/\∃ p:Option (Int×Tok),v=partValue p/\p.map (·.1)=k) (λz! z! => False) s:=by
 cases e with
 | none =>
  cases k with
  | none=>exact Sm ⟨.refl ..,none,rfl,rfl⟩
  | some _=>exact h.elim
 | some e =>
  cases k with
  | none=>exact h.elim
  | some i =>
   refine aF (h s S) λv s₁ zz=>zz.elim λx r=>⟨x,?_⟩
   rw [Rep] at r
   refine ob1_1 r λt aC=>?_;obtain rfl:=aC
   exact ⟨some (i,t),rfl,rfl⟩
theorem jv (p:Option (Int×Tok)):IsPart (partValue p) (p.map (·.1)):=by
 cases p with
 | none=>exact .none
 | some p=>exact .int ..
noncomputable def pick {α:Type} (xs:List α) (lo hi st:Option Int):List α :=
 (sliceRange (sliceBounds lo hi st xs.length).1 (sliceBounds lo hi st xs.length).2.1 (sliceBounds lo hi st xs.length).2.2).filterMap (xs[·]?)
theorem fC (vs:List Value) (lo hi st:Option Int):slicePick vs.toArray lo hi st=(pick vs lo hi st).toArray:=by
 unfold slicePick pick
 simp
theorem ah.picks {h:Heap} {ps vs} (r:ah W h ps vs) (l:List Nat):ah W h (l.filterMap (ps[·]?)) (l.filterMap (vs[·]?)):=by
 have hz:=r.length
 induction l with
 | nil=>simp only [List.filterMap_nil];rw [ah]
 | cons i l ih =>
  simp only [List.filterMap_cons]
  cases hp:ps[i]? with
  | none =>
   have:vs[i]? = none:=by
    rw [List.getElem?_eq_none_iff] at hp ⊢
    exact PS hz hp
   rw [this]
   exact ih
  | some p =>
   refine ob1_2 (r.get hp) λv hv rv=>?_
   rw [hv]
   simp only
   rw [ah]
   exact ⟨_,_,rfl,rv,ih⟩
theorem ah.pick {h:Heap} {ps vs} (r:ah W h ps vs) (lo hi st:Option Int):ah W h (pick ps lo hi st) (pick vs lo hi st):=by
 unfold Mine.pick
 rw [r.length]
 exact r.picks _
theorem EV.kZ {value:Sp} {lower upper step:Option Sp} {p pos:Pos} {xs:List PV} {lo hi st:Option Int} (hv:EV G F ρ W Rs value (.lst xs))
  (h1:EP G F ρ W Rs lower lo) (h2:EP G F ρ W Rs upper hi) (h3:EP G F ρ W Rs step st) (h0:st≠some 0) :
  EV G F ρ W Rs (.Subscript value (.Slice lower upper step p) pos) (.lst (pick xs lo hi st)):=λs S=>by
 refine X_ (aF (hv s S) λo s₁ zz=>zz.elim λx ro=>?_)
 have S₁:=S.step x
 have e0:eval (.Slice lower upper step p) F.env=(do
  let l<-valueOrNone (evalOpt lower F.env)
  let u<-holding [l] (valueOrNone (evalOpt upper F.env))
  let s<-holding [l,u] (valueOrNone (evalOpt step F.env))
  newFields "slice" [l,u,s]):=rfl
 rw [e0]
 refine Sl (aF (h1.wp S₁) λl s₂ zz=>zz.elim λx2 zz=>zz.elim λp1 zz=>zz.elim λe1 k1=>?_)
 have S₂:=S₁.step x2
 refine Sl (Sy (aF (h2.wp S₂) λu s₃ zz=>zz.elim λx3 zz=>zz.elim λp2 zz=>zz.elim λe2 k2=>?_))
 have aT:=S₂.step x3
 refine Sl (Sy (aF (h3.wp aT) λt s₄ zz=>zz.elim λx4 zz=>zz.elim λp3 zz=>zz.elim λe3 k3=>?_))
 have bZ:=aT.step x4
 subst e1 e2 e3 k1 k2 k3
 refine T6 (T:="slice") (data:=.fields #[_,_,_]) ?_ (by show (3:Nat)<=_;decide)
 have y:aG G [] s₁ {s₄ with heap:=s₄.heap.push {cls:=.type "slice",data:=.fields #[partValue p1,partValue p2,partValue p3]}}:=(x2.trans (x3.trans x4)).push (t:=s₄.toks)
 have Cz:=y.rep0 S₁.inv ro
 have mY:=S₁.step y
 rw [Rep] at Cz
 refine ob0_2 Cz λhl az=>ob2_4 az λa vs bq ha aY rs=>?_;obtain rfl:=bq;refine ob1_1 aY λn e=>?_
 have hL:(s₄.heap.push {cls:=.type "slice",data:=.fields #[partValue p1,partValue p2,partValue p3]}).IsList a vs.toArray:=⟨_,e,rfl,n,rfl⟩
 have hlen:(pick vs (p1.map (·.1)) (p2.map (·.1)) (p3.map (·.1))).length<=vs.length:=by
  have:=slicePick_size_le vs.toArray (p1.map (·.1)) (p2.map (·.1)) (p3.map (·.1))
  rw [fC] at this
  simpa using this
 refine ob0_2 (mY.newList (t:=s₄.toks) (rs.pick (p1.map (·.1)) (p2.map (·.1)) (p3.map (·.1))) (by rw [<- (rs.pick _ _ _).length];rw [rs.length] at hlen;exact Sn hlen hl)) λz rz=>?_
 have hsub:∃ ops,subscripted (.Slice lower upper step p) false (.ref a) (.ref s₄.heap.objs.size)=operate ops (getItem (.ref a) (.ref s₄.heap.objs.size)):=by
  cases step with
  | none=>exact ⟨_,rfl⟩
  | some e=>exact ⟨_,rfl⟩
 refine ob1_1 hsub λops hsub=>?_
 refine tail_any hL.typeIs WD.lookup (wpAny_getItem_list_slice hL (XK ..) (jv p1) (jv p2) (jv p3) h0 ?_ ?_) hsub
 ·rw [fC]
  exact ⟨x.trans (y.trans z),rz⟩
 ·simp only [T5,rs.length]
  exact Sn hl (by decide)
noncomputable def dU (z:Str) (lo hi:Option Int):Str :=
 if (We lo hi 1 z.length).length=z.length then z else ⟨((We lo hi 1 z.length).filterMap (z.cps[·]?)).toArray⟩
theorem qn (z:Str) (lo hi:Option Int):(dU z lo hi).length<=z.length:=by
 unfold dU
 split
 ·exact Sz _
 ·show (List.toArray _).size<=_
  rw [T5]
  exact Sn (List.length_filterMap_le _ _) (indices_len_le lo hi z.length)
theorem EV.xR {value:Sp} {lower upper:Option Sp} {p pos:Pos} {z:Str} {lo hi:Option Int} (hv:EV G F ρ W Rs value (.str z))
  (h1:EP G F ρ W Rs lower lo) (h2:EP G F ρ W Rs upper hi) :
  EV G F ρ W Rs (.Subscript value (.Slice lower upper none p) pos) (.str (dU z lo hi)):=λs S=>by
 refine X_ (aF (hv s S) λo s₁ zz=>zz.elim λx ro=>?_)
 have S₁:=S.step x
 have e0:eval (.Slice lower upper none p) F.env=(do
  let l<-valueOrNone (evalOpt lower F.env)
  let u<-holding [l] (valueOrNone (evalOpt upper F.env))
  let s<-holding [l,u] (valueOrNone (evalOpt none F.env))
  newFields "slice" [l,u,s]):=rfl
 rw [e0]
 refine Sl (aF (h1.wp S₁) λl s₂ zz=>zz.elim λx2 zz=>zz.elim λp1 zz=>zz.elim λe1 k1=>?_)
 have S₂:=S₁.step x2
 refine Sl (Sy (aF (h2.wp S₂) λu s₃ zz=>zz.elim λx3 zz=>zz.elim λp2 zz=>zz.elim λe2 k2=>?_))
 refine Sl (Sy (Sm ?_))
 subst e1 e2 k1 k2
 refine T6 (T:="slice") (data:=.fields #[_,_,_]) ?_ (by show (3:Nat)<=_;decide)
 rw [Rep] at ro
 refine ob0_2 ro λhl az=>ob1_1 az λt' bh=>?_;obtain rfl:=bh
 have key:∀ t k,aG G [] s {s₃ with heap:=s₃.heap.push {cls:=.type "slice",data:=.fields #[partValue p1,partValue p2,partValue none]},toks:=k} /\
   Rep W (s₃.heap.push {cls:=.type "slice",data:=.fields #[partValue p1,partValue p2,partValue none]}) (.str (dU z (p1.map (·.1)) (p2.map (·.1)))) (.str (dU z (p1.map (·.1)) (p2.map (·.1))) t) :=
  λt k=>⟨(x.trans (x2.trans x3)).push,by rw [Rep];exact ⟨Sn (qn ..) hl,_,rfl⟩⟩
 refine tail_any (Wv _ z t') PySem.F.slot_str_getitem.lookup (wpAny_getItem_str_slice (l:=p1) (u:=p2) (st:=none) ⟨_,SH _ rfl,rfl,rfl⟩ rfl ?_) rfl
 unfold sliceMade slicePicked
 simp only [Option.map_none,Option.getD_none,beq_self_eq_true,Bool.true_and,beq_iff_eq]
 by_cases hc:(We (p1.map (·.1)) (p2.map (·.1)) 1 z.length).length=z.length
 ·have hp:dU z (p1.map (·.1)) (p2.map (·.1))=z:=if_pos hc
  rw [if_pos hc]
  have k:=key t' s₃.toks
  rw [hp] at k ⊢
  exact k
 ·have hp:dU z (p1.map (·.1)) (p2.map (·.1))=⟨((We (p1.map (·.1)) (p2.map (·.1)) 1 z.length).filterMap (z.cps[·]?)).toArray⟩:=if_neg hc
  rw [if_neg hc,<- hp]
  exact ⟨Sn (qn ..) (Sn hl (by decide)),key _ _⟩
end Mine
namespace Mine
open PySem PySem.W PyProof.Rows
variable {G:Glob} {F:Fm} {ρ ρ':List (Str×PV)} {W:List Addr} {Rs:List Res} {s s':Shared}
structure Ai (G:Glob) (A:Around) (W:List Addr) (target:Sp) (it:Value) (fp wr:List Addr) (xs:List PV) (T:Nat->Heap->Prop):Prop where
 sub:∀ b∈wr,b∈fp
 frame:∀ i h h',T i h->(∀ b∈fp,∀ o,h.get? b=some o->h'.get? b=some o)->aI W h h'->T i h'
 item:∀ i p s,xs[i]? = some p->T i s.heap->G.inv s.heap->(∀ a∈W,∃ o,s.heap.get? a=some o)->wpAny G.M A (pyNext it) (λr s'=>∃ v,r=some v/\aG G wr s s' /\
  wpAny G.M A (letOwnedTupleGo target it v) (λz! s''=>aG G wr s s''/\Rep W s''.heap p v/\T (i+1) s''.heap) (λz! z! => False) s') (λz! z! => False) s
 done:∀ s,T xs.length s.heap->G.inv s.heap->wpAny G.M A (pyNext it) (λr s'=>r=none/\aG G wr s s') (λz! z! => False) s
 self:∀ i s,T i s.heap->wpAny G.M A (pyIter it) (λv s'=>v=it/\s'=s) (λz! z! => False) s
 pP:∀ i h,T i h->∀ a∈wr,a∈W\/∀ o,h.get? a=some o->∀ xs n,o.data ≠ .seq xs n
noncomputable def Ready (G:Glob) (F:Fm) (W:List Addr) (target:Sp) (xs:List PV) (s:Shared) (it:Value) (s₂:Shared):Prop :=
 ∃ fp wr,(∀ V:List Addr,(∀ a∈V,s₂.heap.get? a=none)->∃ T,Ai G F.A (V++W) target it fp wr xs T/\∀ h',(∀ b o,s₂.heap.get? b=some o->h'.get? b=some o)->T 0 h') /\
  (∀ b∈wr,s.heap.get? b=none) /\
  (∀ b∈fp,b∉W/\b≠F.env.locals/\(∀ x c,F.env.cells.lookup x=some c->b≠c)/\b∉G.tabs/\∃ o,s₂.heap.get? b=some o)
noncomputable def IV (G:Glob) (F:Fm) (ρ:List (Str×PV)) (W:List Addr) (Rs:List Res) (target e:Sp) (xs:List PV):Prop :=
 ∀ s,St G F ρ W Rs s->wpAny G.M F.A (eval e F.env) (λx s₁=>aG G [] s s₁/\wpAny G.M F.A (pyIter x) (λit s₂=>aG G [] s s₂/\Ready G F W target xs s it s₂) (λz! z! => False) s₁) (λz! z! => False) s
theorem E7 {V W:List Addr} {ps:List PV} {vs:List Value} {h h':Heap} (r:ah W h ps vs) (hV:∀ a∈V,h.get? a=none) (k:∀ b o,h.get? b=some o->h'.get? b=some o):ah (V++W) h' ps vs :=
 r.keep ⟨λ_ _ _ zz=>zz.elim λn e=>⟨n,k _ _ e⟩,λ_ _ _ zz=>zz.elim λn e=>⟨n,k _ _ e⟩⟩ λa zz=>zz.elim λo e ha=>by
  rcases SO.mp ha with ha | ha
  ·rw [hV a ha] at e;cases e
  ·exact ha
theorem yM {target:Sp} {I:Addr} {v:Value} {o:Obj} {c:String} {A:Around} {Q:Unit->Shared->Prop} (ho:s.heap.get? I=some o) (hc:o.cls = .type c)
  (hn:["enumerate","zip","dict_itemiterator","dict_reverseitemiterator","odict_iterator","itertools.zip_longest","itertools.pairwise"].contains c=false)
  (hQ:Q () s) {E:Value->Shared->Prop}:wpAny G.M A (letOwnedTupleGo target (.ref I) v) Q E s:=by
 unfold letOwnedTupleGo
 split
 all_goals first
  | exact Sm hQ
  | (cases v with
   | ref a =>
    refine Sl (wpAny_load ho ?_)
    obtain ⟨cl,dd,dt,sl⟩:=o
    simp only at hc
    subst hc
    cases dt with
    | fields vs =>
     show wpAny _ _ (if (["enumerate","zip","dict_itemiterator","dict_reverseitemiterator","odict_iterator","itertools.zip_longest","itertools.pairwise"].contains c && vs[0]? == some (rawInt a))=true then _ else _) _ _ _
     rw [hn,Bool.false_and,if_neg (by decide)]
     exact Sm hQ
    | _=>exact Sm hQ
   | _=>exact Sm hQ)
theorem aG.bI {X:List Addr} (x:aG G X s s') (i:G.inv s.heap) (hX:∀ a∈X,a∈W\/∀ o,s.heap.get? a=some o->∀ xs n,o.data ≠ .seq xs n):aI W s.heap s'.heap:=by
 have key:∀ a o,a∉W->s.heap.get? a=some o->(∃ xs n,o.data = .seq xs n)->s'.heap.get? a=some o:=λa o ha e hd=>by
  refine ob2_1 hd λxs n hd=>?_
  refine x.iR i (λh=>?_) e (by rw [hd];simp)
  rcases hX a h with h | h
  ·exact ha h
  ·exact h o e xs n hd
 exact ⟨λa vs ha zz=>zz.elim λn e=>⟨n,key a _ ha e ⟨_,_,rfl⟩⟩,λa vs ha zz=>zz.elim λn e=>⟨n,key a _ ha e ⟨_,_,rfl⟩⟩⟩
theorem Ai.ofWalks {A:Around} {target:Sp} {I:Addr} {fp:List Addr} {n:Nat} {P:Nat->Value->Prop} {T:Nat->Heap->Prop} {c:String} {xs:List PV}
  (Wk:Walks G.prog G.w A I fp [I] n P T) (hn:n=xs.length) (hlow:G.base.objs.size<=I) (RR:Heap->Prop)
  (hR:∀ h h',RR h->aI W h h'->RR h') (Rw:∀ i p v h,xs[i]? = some p->P i v->RR h->Rep W h p v)
  (hT:∀ i h,T i h->∃ o,h.get? I=some o/\o.cls = .type c/\∃ vs,o.data = .fields vs) (hc:(c == "code")=false)
  (hno:["enumerate","zip","dict_itemiterator","dict_reverseitemiterator","odict_iterator","itertools.zip_longest","itertools.pairwise"].contains c=false) :
  Ai G A W target (.ref I) fp [I] xs (λi h=>T i h/\RR h) where
 sub:=Wk.sub
 frame:=λi h h' zz=>zz.elim λt r k sk=>⟨Wk.frame i h h' t k,hR h h' r sk⟩
 item:=λi p s hp zz=>zz.elim λt r iv z! => by
  have hlt:i<n:=by
   rw [hn]
   rcases VW i xs.length with h | h
   ·exact h
   ·rw [TY h] at hp;cases hp
  refine Wk.item i s _ _ hlt t λv h' tk hPv t' hk=>?_
  have st:aG G [I] s {s with heap:=h',toks:=tk}:=aG.gv G (λb hb=>by
   have:b=I:=by simpa using hb
   subst this
   refine ⟨hlow,λo e=>.inl ?_⟩
   refine ob1_3 (hT i _ t) λo' e' hc' hd'=>?_
   rw [e] at e';cases e'
   rw [hc']
   intro h
   injection h with h
   subst h
   simp at hc) hk
  have O3:aI W s.heap h':=st.bI iv (λa ha=>by
   have:a=I:=by simpa using ha
   subst this
   right
   intro o e xs n hd
   refine ob1_3 (hT i _ t) λo' e' hc' az=>ob1_1 az λvs hd'=>?_
   rw [e] at e';cases e'
   rw [hd] at hd';cases hd')
  refine ⟨v,rfl,st,?_⟩
  refine ob1_3 (hT (i+1) _ t') λo' e' hc' hd'=>?_
  exact yM e' hc' hno ⟨st,Rw i p v _ hp hPv (hR _ _ r O3),t',hR _ _ r O3⟩
 done:=λs zz=>zz.elim λt r iv=>by
  rw [<- hn] at t
  refine Wk.done s _ _ t λh' tk hk=>⟨rfl,?_⟩
  exact aG.gv G (λb hb=>by
   have:b=I:=by simpa using hb
   subst this
   refine ⟨hlow,λo e=>.inl ?_⟩
   refine ob1_3 (hT _ _ t) λo' e' hc' hd'=>?_
   rw [e] at e';cases e'
   rw [hc']
   intro h
   injection h with h
   subst h
   simp at hc) hk
 self:=λi s zz=>zz.elim λt r=>Wk.self i s _ _ t ⟨rfl,rfl⟩
 pP:=λi h zz=>zz.elim λt r a ha=>.inr λo e xs n hd=>by
  have:a=I:=by simpa using ha
  subst this
  refine ob1_3 (hT i _ t) λo' e' hc' az=>ob1_1 az λvs hd'=>?_
  rw [e] at e';cases e'
  rw [hd] at hd';cases hd'
theorem St.sJ (S:St G F ρ W Rs s) {a:Addr} {vs:Array Value} {n:Nat} {o:Obj} (e:s.heap.get? a=some o) (hd:o.data = .seq vs n) :
  a≠F.env.locals/\∀ x c,F.env.cells.lookup x=some c->a≠c:=by
 refine ⟨λh=>?_,λx c hc h=>?_⟩
 ·subst h
  refine ob4_3 S.loc λm o' es ep e' d z! => ?_
  rw [e] at e';cases e'
  rw [hd] at d;cases d
 ·subst h
  refine ob2_2 (S.cells x _ hc) λv o' e' d=>?_
  rw [e] at e';cases e'
  rw [hd] at d;cases d
theorem St.fresh (S:St G F ρ W Rs s) {a:Addr} (h:s.heap.get? a=none):a∉W/\a≠F.env.locals/\∀ x c,F.env.cells.lookup x=some c->a≠c:=by
 refine ⟨λhm=>?_,λe=>?_,λx c hc e=>?_⟩
 ·refine ob0_2 (S.low a hm) λz! az=>ob1_1 az λo e=>?_
  rw [h] at e;cases e
 ·subst e
  refine ob4_3 S.loc λm o' es ep e' d z! => ?_
  rw [h] at e';cases e'
 ·subst e
  refine ob2_2 (S.cells x _ hc) λv o' e' d=>?_
  rw [h] at e';cases e'
theorem bV (h:Heap):h.get? h.objs.size=none:=by
 cases e:h.get? h.objs.size with
 | none=>rfl
 | some o=>exact absurd (Te e) (Tc _)
theorem bC {h:Heap} {a:Addr} (ha:h.objs.size<=a):h.get? a=none:=by
 cases e:h.get? a with
 | none=>rfl
 | some o=>exact absurd (Te e) (Nat.not_lt.mpr ha)
theorem aS {h:Heap} (i:G.inv h):G.base.objs.size<=h.objs.size:=by
 rcases VW h.objs.size G.base.objs.size with hl | hl
 ·exfalso
  exact Tc _ (Su hl (G.Jr h i))
 ·exact hl
theorem bk {a:Addr} (h:G.base.objs.size<=a):a∉G.tabs:=λht=>Tc _ (Su (G.rM a ht) h)
theorem k8 {h:Heap} (i:G.inv h) {a:Addr} {o:Obj} {vs:Array Value} {n:Nat} (e:h.get? a=some o) (hd:o.data = .seq vs n):a∉G.tabs:=λht=>by
 refine ob2_2 (G.DV _ i a ht) λo' ws e' d=>?_
 rw [e] at e';cases e'
 rw [hd] at d;cases d
theorem IV.list {e target:Sp} {xs:List PV} (h:EV G F ρ W Rs e (.lst xs)):IV G F ρ W Rs target e xs:=λs S =>
 aF (h s S) λv s₁ zz=>zz.elim λx r=>by
  refine ⟨x,?_⟩
  have S₁:=S.step x
  rw [Rep] at r
  refine ob0_2 r λhl az=>ob2_4 az λl vs bq JO aY rs=>?_;obtain rfl:=bq;refine ob1_1 aY λn e=>?_
  refine wpAny_pyIter_list (items:=vs.toArray) ⟨_,e,rfl,n,rfl⟩ ?_
  have y:aG G [] s₁ {s₁ with heap:=s₁.heap.push {cls:=.type "list_iterator",data:=.fields #[.ref l,.int 0 0]}}:=.bO G (t:=s₁.toks)
  have hfr:=S₁.fresh (bV s₁.heap)
  have hne:l≠s₁.heap.objs.size:=T9 (Te e)
  refine ⟨x.trans y,[s₁.heap.objs.size,l],[s₁.heap.objs.size],λV hV=>⟨_,
   Ai.ofWalks (Walks.list (S.room.1) s₁.heap.objs.size l hne vs.toArray) (by simp [rs.length]) (aS S₁.inv) (λh=>ah (V++W) h xs vs)
    (λh h' r sk=>r.keep sk λz! z! q=>q) (λi p v h hp hv r=>?_) (c:="list_iterator") (λi h t=>?_) (by decide) (by decide),λh' k=>⟨⟨⟨_,k _ _ (SH _ rfl),rfl,rfl⟩,?_⟩,?_⟩⟩,?_,?_⟩
  ·refine ob1_2 (r.get hp) λu hu ru=>?_
   have:vs[i]? = some v:=by simpa using hv
   rw [this] at hu;cases hu
   exact ru
  ·refine ob0_2 t λbM z! =>ob1_3 bM λo e c d=>?_
   exact ⟨o,e,c,_,d⟩
  ·exact ⟨_,k _ _ (Sw _ e),rfl,n,rfl⟩
  ·exact E7 (y.jH S₁.inv rs) hV k
  ·intro b hb
   have:b=s₁.heap.objs.size:=by simpa using hb
   subst this
   cases e':s.heap.get? s₁.heap.objs.size with
   | none=>rfl
   | some o =>
    exfalso
    have ht:s₁.heap.objs.size∉G.tabs:=λht=>Tc _ (Su (G.rM _ ht) (aS S₁.inv))
    have:=x.keep _ o (by simp) ht e'
    exact Tc _ (Te this)
  ·intro b hb
   rcases Sx.mp hb with rfl | hb
   ·exact ⟨hfr.1,hfr.2.1,hfr.2.2,bk (aS S₁.inv),_,SH _ rfl⟩
   ·have:b=l:=by simpa using hb
    subst this
    have:=S₁.sJ e rfl
    exact ⟨JO,this.1,this.2,k8 S₁.inv e rfl,_,Sw _ e⟩
end Mine
namespace Mine
open PySem PySem.W PyProof.Rows
variable {G:Glob} {F:Fm} {ρ ρ':List (Str×PV)} {W:List Addr} {Rs:List Res} {s s':Shared}
theorem noStar {α:Type} {f:α->Sem Value} (es:List α):(es.map λe=>(false,f e)).any (·.1)=false:=by
 induction es with
 | nil=>rfl
 | cons e es ih=>exact ih
theorem xq {id:String} {x:Str} {p pos:Pos} {e:Sp} {es:List Sp} {ps:List PV} {Q:Value->Shared->Prop}
  (hf:EV G F ρ W Rs (.Name x p) (.raw (.builtin id))) (ha:aW G F ρ W Rs (e::es) ps) (S:St G F ρ W Rs s)
  (k:∀ s₁ vs,aG G [] s s₁->St G F ρ W Rs s₁->ah W s₁.heap ps vs->wpAny G.M F.A (call (.builtin id) vs) Q (λz! z! => False) s₁)
  (hst:backTo pos (starEach (e::es) F.env)=(e::es).map (λe=>(false,eval e F.env)):=by rfl) :
  wpAny G.M F.A (eval (.Call (.Name x p) (e::es) [] pos) F.env) Q (λz! z! => False) s:=by
 rw [VM]
 refine Sl (aF (hf s S) λv s₁ zz=>zz.elim λy r=>?_)
 rw [Rep] at r
 subst r
 rw [hst]
 refine TM (noStar _) ?_
 exact TF (aF (ha s₁ (S.step y)) λvs s₂ zz=>zz.elim λz rs=>k s₂ vs (y.trans z) ((S.step y).step z) rs)
theorem f5 {id:String} {x:Str} {p pos:Pos} {e:Sp} {es:List Sp} {ps:List PV} {Q:Value->Shared->Prop}
  (hf:EV G F ρ W Rs (.Name x p) (.raw (.type id))) (ha:aW G F ρ W Rs (e::es) ps) (S:St G F ρ W Rs s)
  (k:∀ s₁ vs,aG G [] s s₁->St G F ρ W Rs s₁->ah W s₁.heap ps vs->wpAny G.M F.A (call (.type id) vs) Q (λz! z! => False) s₁)
  (hst:backTo pos (starEach (e::es) F.env)=(e::es).map (λe=>(false,eval e F.env)):=by rfl) :
  wpAny G.M F.A (eval (.Call (.Name x p) (e::es) [] pos) F.env) Q (λz! z! => False) s:=by
 rw [VM]
 refine Sl (aF (hf s S) λv s₁ zz=>zz.elim λy r=>?_)
 rw [Rep] at r
 subst r
 rw [hst]
 refine PySem.callWith_type (noStar _) ?_
 exact TF (aF (ha s₁ (S.step y)) λvs s₂ zz=>zz.elim λz rs=>k s₂ vs (y.trans z) ((S.step y).step z) rs)
theorem ah.one {h:Heap} {p vs} (r:ah W h [p] vs):∃ v,vs=[v]/\Rep W h p v:=by
 rw [ah] at r;refine ob2_3 r λv vs' aA r1 r2=>?_;obtain rfl:=aA
 rw [ah] at r2;subst r2;exact ⟨v,rfl,r1⟩
theorem ah.two {h:Heap} {p q vs} (r:ah W h [p,q] vs):∃ v u,vs=[v,u]/\Rep W h p v/\Rep W h q u:=by
 rw [ah] at r;refine ob2_3 r λv vs' aA r1 r2=>?_;obtain rfl:=aA
 refine ob1_2 r2.one λu aC r3=>?_;obtain rfl:=aC;exact ⟨v,u,rfl,r1,r3⟩
theorem ah.three {h:Heap} {p q z vs} (r:ah W h [p,q,z] vs):∃ v u t,vs=[v,u,t]/\Rep W h p v/\Rep W h q u/\Rep W h z t:=by
 rw [ah] at r;refine ob2_3 r λv vs' aA r1 r2=>?_;obtain rfl:=aA
 refine ob2_3 r2.two λu t aA r3 r4=>?_;obtain rfl:=aA;exact ⟨v,u,t,rfl,r1,r3,r4⟩
theorem Rep.isInt {h:Heap} {i v} (r:Rep W h (.int i) v):∃ t,v = .int i t:=by rw [Rep] at r;exact r
theorem Rep.isStr {h:Heap} {x v} (r:Rep W h (.str x) v):x.length<=lim/\∃ t,v = .str x t:=by rw [Rep] at r;exact r
theorem Rep.dY {h:Heap} {xs v} (r:Rep W h (.lst xs) v):xs.length<=lim/\∃ a vs,v = .ref a/\a∉W/\BY h a vs/\ah W h xs vs:=by rw [Rep] at r;exact r
theorem Rep.isTup {h:Heap} {xs v} (r:Rep W h (.tup xs) v):xs.length<=lim/\∃ a vs,v = .ref a/\a∉W/\C7 h a vs/\ah W h xs vs:=by rw [Rep] at r;exact r
theorem Rep.int {h:Heap} {i t}:Rep W h (.int i) (.int i t):=by rw [Rep];exact ⟨_,rfl⟩
theorem Rep.str {h:Heap} {x t} (hl:x.length<=lim):Rep W h (.str x) (.str x t):=by rw [Rep];exact ⟨hl,_,rfl⟩
theorem Rep.bool {h:Heap} {b}:Rep W h (.bool b) (.bool b):=by rw [Rep]
noncomputable def span (a b c:Int):List PV:=(SD (Tz a b c).toNat).map λ(i:Nat)=>PV.int (a+i * c)
theorem jm {a b c:Int}:0<=Tz a b c:=by
 unfold Tz
 split
 ·split
  ·have:=Int.ediv_nonneg (a:=b - a - 1) (b:=c) (by exact OA (by assumption)) (by exact XY (by assumption))
   exact Int.add_nonneg this (by decide)
  ·exact UN _
 ·split
  ·have:=Int.ediv_nonneg (a:=a - b - 1) (b := -c) (by exact OA (by assumption)) (Int.neg_nonneg_of_nonpos (WW.mp (by assumption)))
   exact Int.add_nonneg this (by decide)
  ·exact UN _
theorem lF {target:Sp} (S:St G F ρ W Rs s) {h:Heap} (hx:aG G [] s s') {a b c:Int} {t u v:Tok} {r:Addr} (hr:IsRange s'.heap r a b c t u v)
  (hs:VN a b c=true) :
  wpAny G.M F.A (pyIter (.ref r)) (λit s₂=>aG G [] s s₂/\Ready G F W target (span a b c) s it s₂) (λz! z! => False) s':=by
 have S₁:=S.step hx
 refine wpAny_pyIter_range hr hs ?_
 have hfr:=S₁.fresh (bV s'.heap)
 have hsz:=jm (a:=a) (b:=b) (c:=c)
 have hnn:((Tz a b c).toNat:Int)=Tz a b c:=Int.toNat_of_nonneg hsz
 refine ⟨hx.trans (.bO G (t:=s'.toks)),[s'.heap.objs.size],[s'.heap.objs.size],λV hV=>⟨_,
   Ai.ofWalks (Walks.range S.room.1 s'.heap.objs.size a c (Tz a b c).toNat) (by simp [span]) (aS S₁.inv) (λh=>True)
    (λh h' r sk=>trivial) (λi p v h hp hv r=>?_) (c:="range_iterator") (λi h t=>?_) (by decide) (by decide),λh' k=>⟨k _ _ ?_,trivial⟩⟩,?_,?_⟩
 ·refine ob1_1 hv λt aC=>?_;obtain rfl:=aC
  unfold span at hp
  rw [S9] at hp
  have hlt:i<(Tz a b c).toNat:=by
   rcases VW i (Tz a b c).toNat with h | h
   ·exact h
   ·rw [TY (by simpa using h)] at hp;cases hp
  rw [V9 hlt] at hp
  simp only [WC,XZ] at hp
  rw [<- hp]
  exact Rep.int
 ·exact ⟨_,t,rfl,_,rfl⟩
 ·show Heap.get? _ _=_
  rw [hnn]
  rw [show a+((0:Nat):Int) * c=a by simp,show Tz a b c - ((0:Nat):Int)=Tz a b c by simp]
  exact SH _ rfl
 ·intro b hb
  have:b=s'.heap.objs.size:=by simpa using hb
  subst this
  cases e':s.heap.get? s'.heap.objs.size with
  | none=>rfl
  | some o =>
   exfalso
   have ht:s'.heap.objs.size∉G.tabs:=λht=>Tc _ (Su (G.rM _ ht) (aS S₁.inv))
   exact Tc _ (Te (hx.keep _ o (by simp) ht e'))
 ·intro b hb
  have:b=s'.heap.objs.size:=by simpa using hb
  subst this
  exact ⟨hfr.1,hfr.2.1,hfr.2.2,bk (aS S₁.inv),_,SH _ rfl⟩
theorem IV.x8 {x:Str} {p pos:Pos} {e target:Sp} {n:Int} (hf:EV G F ρ W Rs (.Name x p) (.raw (.type "range"))) (h:EV G F ρ W Rs e (.int n))
  (hs:VN 0 n 1=true) (hst:backTo pos (starEach [e] F.env)=[e].map (λe=>(false,eval e F.env)):=by rfl) :
  IV G F ρ W Rs target (.Call (.Name x p) [e] [] pos) (span 0 n 1):=λs S =>
 f5 hf (aW.cons h .nil) S (hst:=hst) λs₁ vs y S₁ rs=>by
  refine ob1_2 rs.one λv aC r=>?_;obtain rfl:=aC
  refine ob1_1 r.isInt λt aC=>?_;obtain rfl:=aC
  refine call_range_1 ⟨y.push,?_⟩
  exact lF (h:=s.heap) S y.push (IsRange.new ..) hs
theorem IV.x7 {x:Str} {p pos:Pos} {e1 e2 e3 target:Sp} {a b c:Int} (hf:EV G F ρ W Rs (.Name x p) (.raw (.type "range"))) (h1:EV G F ρ W Rs e1 (.int a)) (h2:EV G F ρ W Rs e2 (.int b))
  (h3:EV G F ρ W Rs e3 (.int c)) (hc:c≠0) (hc':c.natAbs<1000000)
  (hs:VN a b c=true) (hst:backTo pos (starEach [e1,e2,e3] F.env)=[e1,e2,e3].map (λe=>(false,eval e F.env)):=by rfl) :
  IV G F ρ W Rs target (.Call (.Name x p) [e1,e2,e3] [] pos) (span a b c):=λs S =>
 f5 hf (aW.cons h1 (aW.cons h2 (aW.cons h3 .nil))) S (hst:=hst) λs₁ vs y S₁ rs=>by
  refine ob3_4 rs.three λv u z rP r r' r''=>?_;obtain rfl:=rP
  refine ob1_1 r.isInt λt aC=>?_;obtain rfl:=aC
  refine ob1_1 r'.isInt λt' aC=>?_;obtain rfl:=aC
  refine ob1_1 r''.isInt λt'' aC=>?_;obtain rfl:=aC
  refine call_range_3 hc ⟨y.push,?_⟩ (Or.inl (PyProof.noPylong_small (by exact Su hc' (Sv _ _))))
  exact lF (h:=s.heap) S y.push (IsRange.new ..) hs
noncomputable def gA (xs:List PV):List PV:=xs.zipIdx.map λx=>.tup [.int x.2,x.1]
theorem aG.none_of (x:aG G [] s s') (i:G.inv s'.heap) {a:Addr} (h:s'.heap.get? a=none) (hb:G.base.objs.size<=a):s.heap.get? a=none:=by
 cases e:s.heap.get? a with
 | none=>rfl
 | some o =>
  exfalso
  have:=x.keep _ o (by simp) (λht=>Tc _ (Su (G.rM _ ht) hb)) e
  rw [h] at this;cases this
theorem all1 {α:Type} {P:α->Prop} {a:α} (h:P a):∀ x∈[a],P x:=λx hx=>SG.mp hx▸h
theorem all2 {α:Type} {P:α->Prop} {a b:α} (h:P a) (h2:P b):∀ x∈[a,b],P x:=Xf.mpr ⟨h,all1 h2⟩
theorem Ot {α:Type} {P:α->Prop} {a b c:α} (h:P a) (h2:P b) (h3:P c):∀ x∈[a,b,c],P x:=Xf.mpr ⟨h,all2 h2 h3⟩
theorem Fp {h:Heap} {a:Addr} {o:Obj} {P:Obj->Prop} (e:h.get? a=some o) (p:P o):∀ o',h.get? a=some o'->P o':=λo' e'=>UQ (e.symm.trans e')▸p
theorem CB {h:Heap} {x:PV} {xs:List PV} {v:Value} {vs:List Value} (r:Rep W h x v) (rs:ah W h xs vs):ah W h (x::xs) (v::vs):=ah.cons.mpr ⟨_,_,rfl,r,rs⟩
theorem nL (xs:List PV):(gA xs).length=xs.length:=by rw [gA,Sq,XM]
theorem zF {xs:List PV} {i:Nat} {p:PV} (h:(gA xs)[i]? = some p):∃ hlt:i<xs.length,p = .tup [.int i,xs[i]]:=by
 have hlt:i<xs.length:=nL xs▸(T3.mp h).1
 rw [gA,S9,List.getElem?_zipIdx,SW hlt] at h
 refine ⟨hlt,?_⟩
 cases h
 rw [U5]
structure Oz (N l i:Nat) (us:List Value) (W:List Addr) (xs:List PV) (h:Heap):Prop where
 en:∃ old,IsEnum h (N+1) N i old
 it:h.IsListIter N l i
 li:h.IsList l us.toArray
 r:ah W h xs us
theorem zH {N:Addr} {h₃:Heap} {tk:Nat} (hb:G.base.objs.size<=N) {o1 o2:Obj} {v1 v2:Array Value} (e1:s.heap.get? (N+1)=some o1) (c1:o1.cls ≠ .type "code") (d1:o1.data = .fields v1)
  (e2:s.heap.get? N=some o2) (c2:o2.cls ≠ .type "code") (d2:o2.data = .fields v2) (k:∀ b o,b≠N+1->b≠N->s.heap.get? b=some o->h₃.get? b=some o) :
  aG G [N+1,N] s {s with heap:=h₃,toks:=tk}/\∀ W,(G.inv s.heap->aI W s.heap h₃):=by
 have st:aG G [N+1,N] s {s with heap:=h₃,toks:=tk}:=aG.gv G (all2 ⟨S5 hb,Fp e1 (.inl c1)⟩ ⟨hb,Fp e2 (.inl c2)⟩) λb o hb' e=>k b o (λh=>hb' (h▸So)) (λh=>hb' (h▸Ss _ So)) e
 exact ⟨st,λW iv=>st.bI iv (all2 (.inr (Fp e1 λxs n hd=>Data.noConfusion (d1.symm.trans hd))) (.inr (Fp e2 λxs n hd=>Data.noConfusion (d2.symm.trans hd))))⟩
theorem IV.enum {x:Str} {p pos tpos:Pos} {e:Sp} {elts:List Sp} {k:Nat} {xs:List PV} (hf:EV G F ρ W Rs (.Name x p) (.raw (.type "enumerate"))) (h:EV G F ρ W Rs e (.lst xs))
  (hst:backTo pos (starEach [e] F.env)=[e].map (λe=>(false,eval e F.env)):=by rfl) :
  IV G F ρ W Rs (.Tuple elts k tpos) (.Call (.Name x p) [e] [] pos) (gA xs):=λs S =>
 f5 hf (aW.cons h .nil) S (hst:=hst) λs₁ vs y S₁ rs=>by
  refine ob1_2 rs.one λv aC r=>?_;obtain rfl:=aC
  refine ob0_2 r.dY λhl az=>ob2_4 az λl us bq JO aY ru=>?_;obtain rfl:=bq;refine ob1_1 aY λn e=>?_
  refine call_enumerate_list (items:=us.toArray) ⟨_,e,rfl,n,rfl⟩ λh' he hit hz hk=>?_
  have y':aG G [] s₁ {s₁ with heap:=h'}:=.of_keeps G hk (t:=s₁.toks)
  refine ⟨y.trans y',wpAny_pyIter_enum he ⟨y.trans y',?_⟩⟩
  have iv:=S₁.inv
  have hb:=aS iv
  have NG:=Te e
  have f1:=S₁.fresh (bC (a:=s₁.heap.objs.size) (Sz _))
  have f2:=S₁.fresh (bC (a:=s₁.heap.objs.size+1) (Uw _))
  have f3:=S₁.sJ e rfl
  have n1:=y.none_of iv (bC (a:=s₁.heap.objs.size) (Sz _)) hb
  have n2:=y.none_of iv (bC (a:=s₁.heap.objs.size+1) (Uw _)) (S5 hb)
  have sq:=k8 iv e rfl
  have OH:=y'.jH iv ru
  generalize s₁.heap.objs.size=N at he hit hz hb NG f1 f2 n1 n2
  have el:h'.IsList l us.toArray:=⟨_,hk _ _ e,rfl,n,rfl⟩
  refine ob1_3 hit λo2 e2 c2 d2=>?_
  refine ⟨[N+1,N,l],[N+1,N],λV hV=>⟨λi=>Oz N l i us (V++W) xs,?_,λh₃ k=>⟨⟨_,k _ _ he⟩,⟨o2,k _ _ e2,c2,d2⟩,el.at λo e=>k _ _ e,E7 OH hV k⟩⟩,all2 n2 n1,
   Ot ⟨f2.1,f2.2.1,f2.2.2,bk (S5 hb),_,he⟩ ⟨f1.1,f1.2.1,f1.2.2,bk hb,_,e2⟩ ⟨JO,f3.1,f3.2,sq,_,hk _ _ e⟩⟩
  have cE:Vg "enumerate" ≠ .type "code":=by decide
  have cL:∀ {o:Obj},o.cls = .type "list_iterator"->o.cls ≠ .type "code":=λh=>by rw [h];decide
  have nl:l≠N+1/\l≠N:=⟨T9 (Tu NG),T9 NG⟩
  have hr:=S.room.1
  clear he e2 c2 d2 el OH S₁ S y y' hz hk n1 n2 f1 f2 f3 r ru sq
  refine ⟨all2 So (Ss _ So),λi h h' t k sk=>⟨t.en.imp λz! e=>k _ So _ e,t.it.at λo e=>k _ (Ss _ So) _ e,t.li.at λo e=>k _ (Ss _ (Ss _ So)) _ e,t.r.keep sk λz! z! q=>q⟩,
   λi p s₃ hp t iv al=>?_,λs₃ t iv=>?_,λi s₃ t=>t.en.elim λz! e=>wpAny_pyIter_enum e ⟨rfl,rfl⟩,λi h t=>all2 (.inr (t.en.elim λz! e=>Fp e λxs n hd=>nomatch hd)) (.inr (t.it.elim λ_ zz=>zz.elim λe zz=>zz.elim λz! d=>Fp e λxs n hd=>Data.noConfusion (d.symm.trans hd)))⟩
  ·refine ob1_1 (zF hp) λhlt aC=>?_;obtain rfl:=aC
   refine ob1_1 t.en λold t1=>ob1_3 t.it λo2 e2 c2 d2=>ob1_2 (t.r.get (i:=i) (p:=xs[i]) (SW hlt)) λxv hxv rv=>?_
   refine wpAny_pyNext_enum_item t1 t.it t.li (x:=xv) (by rw [<- U4];exact hxv) (WO _) λh₃ ho Ed hT OZ CR=>?_
   refine ob0_2 (zH (tk:=s₃.toks+1) hb t1 cE rfl e2 (cL c2) d2 CR) λst sk=>ob1_3 Ed λo3 e3 c3 d3=>?_
   refine ⟨_,rfl,st,wpAny_letOwnedTupleGo_enum ho λh₄ JZ lI=>?_⟩
   refine ob0_2 (zH (s:={s₃ with heap:=h₃,toks:=s₃.toks+1}) (h₃:=h₄) (tk:=s₃.toks+1) hb ho cE rfl e3 (cL c3) d3 λb o b1 b2 e=>(lI.2 b b1).trans e) λst' sk'=>?_
   have M1:=sk' (V++W) (st.inv iv)
   have kk:∀ {ps vs},ah (V++W) s₃.heap ps vs->ah (V++W) h₄ ps vs:=λr=>(r.keep (sk (V++W) iv) λz! z! q=>q).keep M1 λz! z! q=>q
   have Pf:s₃.heap.objs.size∉V++W:=λhm=>(al _ hm).elim λo e=>Tc _ (Te e)
   refine ⟨st.trans st',?_,⟨_,JZ⟩,⟨o3,(lI.2 N (WO _).symm).trans e3,c3,d3⟩,t.li.at λo e=>(lI.2 l nl.1).trans (CR l o nl.1 nl.2 e),kk t.r⟩
   rw [Rep]
   exact ⟨by show (2:Nat)<=_;decide,_,[_,xv],rfl,Pf,M1.2 _ _ Pf ⟨_,hT⟩,CB Rep.int (CB ((rv.keep (sk (V++W) iv) λz! z! q=>q).keep M1 λz! z! q=>q) (ah.nil.mpr rfl))⟩
  ·refine ob1_1 t.en λold t1=>?_
   refine ob1_3 t.it λo2 e2 c2 d2=>?_
   exact wpAny_pyNext_enum_end hr t1 t.it t.li (Array.getElem?_eq_none (by rw [nL,<- t.r.length];exact Sz _)) λh₃ qM=>⟨rfl,(zH (tk:=s₃.toks) hb t1 cE rfl e2 (cL c2) d2 λb o z! b2 e=>qM b o b2 e).1⟩
end Mine
namespace Mine
open PySem PySem.W PyProof.Rows
variable {G:Glob} {F:Fm} {ρ ρ':List (Str×PV)} {W:List Addr} {Rs:List Res} {s s':Shared}
theorem St.yc (S:St G F ρ W Rs s) {b:Addr} {o:Obj} {h':Heap} {tk:Tok} (e:s.heap.get? b=some o) (hd:∀ vs,o.data ≠ .fields vs) (hq:∀ xs n,o.data ≠ .seq xs n) (hs:Uq b s.heap h')
  (hb:b∉W) (mt:F.s0.heap.get? b=none\/b∈F.X) (low:G.base.objs.size<=b) (loc:∃ m,h'.Ns F.env.locals m)
  (cells:∀ x c,F.env.cells.lookup x=some c->∃ v,h'.IsCell c v)
  (vars:∀ x p,ρ'.lookup x=some p->∃ v,Look F.env h' x v/\Rep W s.heap p v):St G F ρ' W Rs {s with heap:=h',toks:=tk}/\aI W s.heap h' :=
 have x:aG G [b] s {s with heap:=h',toks:=tk}:=.of_same G low e (.inr hd) hs
 have sk:aI W s.heap h':=x.bI S.inv λa ha=>.inr λo' e' xs n hd'=>by
  have:a=b:=by simpa using ha
  subst this
  rw [e] at e';cases e'
  exact hq _ _ hd'
 And.intro
 {inv:=x.inv S.inv
  stp:=S.stp.drops x (by simpa using mt)
  room:=S.room
  kind:=S.kind
  glob:=S.glob
  blt:=S.blt
  loc:=loc
  cells:=cells
  jB:=S.jB
  own:=S.own
  vars:=λy p e=>(vars y p e).imp λv h_=>h_.imp_right λr=>r.keep sk λz! z! q=>q
  gx:=S.gx
  lW:=S.lW
  cW:=S.cW
  low:=λa ha=>⟨(S.low a ha).1,by
   refine ob0_2 (S.low a ha) λz! az=>ob1_1 az λo' e'=>?_
   exact ⟨o',(hs.2 a (λh=>hb (h▸ha))).trans e'⟩⟩
  new:=S.new
  res:=λr hr=>r.keep W W _ _ (S.res r hr) (λa ha o' e'=>(hs.2 a (λh=>hb (h▸(S.new r hr a ha).1))).trans e') sk λz! z! q=>q
  apart:=S.apart}
 sk
theorem A1 {h:Heap} {a:Addr} {m m':Str->Option Value} (x:h.Ns a m) (y:h.Ns a m'):m=m':=x.eq_nsMap.trans y.eq_nsMap.symm
theorem St.store (S:St G F ρ W Rs s) {x:Str} {p:PV} {v:Value} (r:Rep W s.heap p v) (hk:F.env.kindOf x=some .local\/(F.env.kindOf x=some .cell/\x∈F.cv)) :
  wpAny G.M F.A (storeName F.env x v) (λz! s'=>St G F ((x,p)::ρ) W Rs s'/\aI W s.heap s'.heap) (λz! z! => False) s:=by
 rcases hk with hk | ⟨hk,Q9⟩
 ·refine ob1_1 S.loc λm hn=>?_
  refine ob3_3 (id hn) λo es ep e d rest=>?_
  refine wpAny_storeName_local hk hn (λh' hn' hs=>?_) (by rw [S.kind];rfl)
  refine S.yc e (by rw [d];simp) (by rw [d];simp) hs S.lW S.gx.1 S.gx.2 ⟨_,hn'⟩ (λy c hc=>?_) λy q hy=>?_
  ·refine ob1_1 (S.cells y c hc) λu hu=>?_
   refine ⟨u,hu.sameBut hs ?_⟩
   rintro rfl
   refine ob1_2 hu λo' e' d'=>?_
   rw [e] at e';cases e'
   rw [d] at d';cases d'
  ·rw [Tp] at hy
   by_cases hyx:y=x
   ·subst hyx
    simp only [beq_self_eq_true] at hy
    cases hy
    exact ⟨v,.inl ⟨hk,_,hn',by simp⟩,r⟩
   ·have:(y == x)=false:=beq_eq_false_iff_ne.mpr hyx
    rw [this] at hy
    refine ob1_2 (S.vars y q hy) λu lk ru=>?_
    refine ⟨u,?_,ru⟩
    rcases lk with ⟨k,m',hm',e'⟩ | ⟨k,c,hc,hv⟩
    ·have:=A1 hn hm'
     subst this
     exact .inl ⟨k,_,hn',by simp only [hyx,if_false];exact e'⟩
    ·refine .inr ⟨k,c,hc,hv.sameBut hs ?_⟩
     rintro rfl
     refine ob1_2 hv λo' e' d'=>?_
     rw [e] at e';cases e'
     rw [d] at d';cases d'
 ·refine ob1_4 (S.own x Q9) λc hc mt low un=>?_
  refine ob2_2 (S.cells x c hc) λv0 o e d=>?_
  refine wpAny_storeName_cell S.kind hk hc ⟨o,e,d⟩ λh' hv' hs=>?_
  refine S.yc e (by rw [d];simp) (by rw [d];simp) hs (S.cW x c hc) mt low ?_ (λy c' hc'=>?_) λy q hy=>?_
  ·refine ob1_1 S.loc λm hn=>?_
   refine ⟨m,hn.sameBut hs ?_⟩
   intro h
   refine ob3_3 hn λo' es ep e' d' z! => ?_
   rw [h,e] at e';cases e'
   rw [d] at d';cases d'
  ·by_cases h:c'=c
   ·subst h;exact ⟨_,hv'⟩
   ·refine ob1_1 (S.cells y c' hc') λu hu=>?_
    exact ⟨u,hu.sameBut hs h⟩
  ·rw [Tp] at hy
   by_cases hyx:y=x
   ·subst hyx
    simp only [beq_self_eq_true] at hy
    cases hy
    exact ⟨v,.inr ⟨.inl hk,c,hc,hv'⟩,r⟩
   ·have:(y == x)=false:=beq_eq_false_iff_ne.mpr hyx
    rw [this] at hy
    refine ob1_2 (S.vars y q hy) λu lk ru=>?_
    refine ⟨u,?_,ru⟩
    rcases lk with ⟨k,m',hm',e'⟩ | ⟨k,c',hc',hv⟩
    ·refine .inl ⟨k,m',hm'.sameBut hs ?_,e'⟩
     intro h
     refine ob3_3 hm' λo' es ep e2 d' z! => ?_
     rw [h,e] at e2;cases e2
     rw [d] at d';cases d'
    ·refine .inr ⟨k,c',hc',hv.sameBut hs ?_⟩
     rintro rfl
     exact hyx (un y hc')
noncomputable def AV (G:Glob) (F:Fm) (ρ:List (Str×PV)) (W:List Addr) (Rs:List Res) (target:Sp) (p:PV) (ρ':List (Str×PV)):Prop :=
 ∀ s v,St G F ρ W Rs s->Rep W s.heap p v->wpAny G.M F.A (assign target F.env v) (λz! s'=>St G F ρ' W Rs s'/\aI W s.heap s'.heap) (λz! z! => False) s
theorem AV.name {x:Str} {pos:Pos} {p:PV} (hk:F.env.kindOf x=some .local\/(F.env.kindOf x=some .cell/\x∈F.cv)):AV G F ρ W Rs (.Name x pos) p ((x,p)::ρ) :=
 λs v S r=>wpAny_assign_Name (S.store r hk)
theorem AV.mE {x y:Str} {px py pos:Pos} {k:Nat} {p q:PV} (hx:F.env.kindOf x=some .local\/(F.env.kindOf x=some .cell/\x∈F.cv))
  (hy:F.env.kindOf y=some .local\/(F.env.kindOf y=some .cell/\y∈F.cv)):AV G F ρ W Rs (.Tuple [.Name x px,.Name y py] k pos) (.tup [p,q]) ((y,q)::(x,p)::ρ) :=
 λs v S r=>by
  refine ob0_2 r.isTup λz! az=>ob2_4 az λa vs bq z! aY rs=>?_;obtain rfl:=bq;refine ob1_1 aY λn e=>?_
  refine ob2_3 rs.two λu w aA ru rw'=>?_;obtain rfl:=aA
  refine wpAny_assign_Tuple (items:=#[u,w]) S.room.1 ⟨_,e,rfl,n,rfl⟩ rfl rfl λh' hx'=>?_
  have st:aG G [] s {s with heap:=h'}:=by
   refine aG.of_keeps G (λb o e=>hx' b o (T9 (Te e)) e) (t:=s.toks)
  have S₁:=S.step st
  show wpAny _ _ (do holding [w] (assign (.Name x px) F.env u);assignInOrder [assign (.Name y py) F.env] [w]) _ _ _
  refine Sl (Sy (aF (AV.name hx _ u S₁ (st.rep0 S.inv ru)) λ_ s₂ zz=>zz.elim λS₂ k₂=>?_))
  show wpAny _ _ (do holding [] (assign (.Name y py) F.env w);assignInOrder [] []) _ _ _
  have k₁:aI W s.heap h':=st.cA S.inv (by simp)
  have r₂:=(st.rep0 S.inv rw').keep k₂ λz! z! q=>q
  refine Sl (Sy (aF (AV.name hy _ w S₂ r₂) λ_ s₃ zz=>zz.elim λaT k₃=>Sm ⟨aT,?_⟩))
  exact ⟨λa vs ha l=>k₃.1 _ _ ha (k₂.1 _ _ ha (k₁.1 _ _ ha l)),λa vs ha l=>k₃.2 _ _ ha (k₂.2 _ _ ha (k₁.2 _ _ ha l))⟩
section
variable {K:Flow->Shared->Prop} {rest:List Stmt}
theorem XS.nil (h:∀ s,St G F ρ W Rs s->K .next s):XS G F ρ W Rs [] K:=λs S=>UR (h s S)
theorem XS.weaken {ss} (h:XS G F ρ' W Rs ss K) (DZ:∀ x p,ρ'.lookup x=some p->ρ.lookup x=some p):XS G F ρ W Rs ss K:=λs S=>h s (S.weaken DZ)
theorem XS.asg {target value:Sp} {pos:Pos} {p:PV} (hv:EV G F ρ W Rs value p) (ha:AV G F ρ W Rs target p ρ') (h:XS G F ρ' W Rs rest K)
  (hs:swapsWithSole [target] value pos.line F.env=pure false:=by rfl) (hw:swappedStores [target] value F.env=pure none:=by rfl)
  (he:(assignEach [target] F.env).map (·.2)=[UE target F.env]:=by rfl) :
  XS G F ρ W Rs (.Assign [target] value pos::rest) K:=λs S=>by
 refine TN ?_
 rw [Xg]
 refine Sl (Tt ?_)
 rw [hs]
 refine Sl (Sm ?_)
 rw [if_neg (by decide)]
 refine Sl (aF (hv s S) λv s₁ zz=>zz.elim λx r=>?_)
 rw [hw]
 refine Sl (Sm ?_)
 rw [he]
 show wpAny _ _ (do UE target F.env v;pure Yb) _ _ s₁
 exact Sl (aF (ha s₁ v (S.step x) r) λ_ s₂ zz=>zz.elim λS₂ z! => Sm (h s₂ S₂))
theorem XS.ret {value:Sp} {pos:Pos} {p:PV} (hv:EV G F ρ W Rs value p) (h:∀ s v,St G F ρ W Rs s->Rep W s.heap p v->K (.ret v) s) :
  XS G F ρ W Rs (.Return (some value) pos::rest) K:=λs S =>
 TN (wpAny_Return_some (aF (hv s S) λv s₁ zz=>zz.elim λx r=>h s₁ v (S.step x) r))
noncomputable def KJ (J:Shared->Prop) (K:Flow->Shared->Prop):Flow->Shared->Prop:=λf s'=>match f with | .next=>J s' | f=>K f s'
theorem XS.ite {test:Sp} {b o:List Stmt} {pos:Pos} {c:Bool} (J:Shared->Prop) (ht:TV G F ρ W Rs test c) (h1:c=true->XS G F ρ W Rs b (KJ J K)) (h2:c=false->XS G F ρ W Rs o (KJ J K))
  (h:∀ s,J s->wpAny G.M F.A (execs rest F.env) K (λz! z! => False) s) :
  XS G F ρ W Rs (.If test b o pos::rest) K:=λs S=>by
 have key:∀ f s',KJ J K f s'->(match f with | .next=>wpAny G.M F.A (execs rest F.env) K (λz! z! => False) s' | f=>K f s'):=λf s' hf=>by
  cases f with
  | next=>exact h s' hf
  | _=>exact hf
 refine TN (wpAny_If (aF (ht s S) λd s₁ zz=>zz.elim λx e=>?_))
 subst e
 cases d with
 | true=>exact aF (h1 rfl s₁ (S.step x)) key
 | false=>exact aF (h2 rfl s₁ (S.step x)) key
theorem XS.skip {test:Sp} {b:List Stmt} {pos:Pos} (ht:TV G F ρ W Rs test false) (h:XS G F ρ W Rs rest K):XS G F ρ W Rs (.If test b [] pos::rest) K :=
 XS.ite (λs=>St G F ρ W Rs s) ht (λe=>nomatch e) (λz! => XS.nil λs S=>S) λs S=>h s S
theorem XS.take {test:Sp} {b o:List Stmt} {pos:Pos} (ht:TV G F ρ W Rs test true) (J:Shared->Prop) (h:XS G F ρ W Rs b (KJ J K)) (h':∀ s,J s->wpAny G.M F.A (execs rest F.env) K (λz! z! => False) s) :
  XS G F ρ W Rs (.If test b o pos::rest) K:=XS.ite J ht (λz! => h) (λe=>nomatch e) h'
end
end Mine
namespace Mine
open PySem PySem.W PyProof.Rows
variable {G:Glob} {F:Fm} {ρ ρ':List (Str×PV)} {W:List Addr} {Rs ak:List Res} {s s':Shared}
theorem St.cN {Y:List Addr} (S:St G F ρ W Rs s) (x:aG G Y s s') (hY:∀ a∈Y,a∉W/\a≠F.env.locals/\∀ x c,F.env.cells.lookup x=some c->a≠c)
  (hn:∀ a∈Y,F.s0.heap.get? a=none\/a∈F.X) (sk:aI W s.heap s'.heap):St G F ρ W Rs s' where
 inv:=x.inv S.inv
 stp:=S.stp.drops x hn
 room:=S.room
 kind:=S.kind
 glob:=S.glob
 blt:=S.blt
 loc:=S.loc.imp λm h=>x.ns S.inv (λh=>(hY _ h).2.1 rfl) h
 cells:=λy c e=>(S.cells y c e).imp λv h=>x.cell S.inv (λh=>(hY _ h).2.2 y c e rfl) h
 jB:=S.jB
 own:=S.own
 vars:=λy p e=>(S.vars y p e).imp λv zz=>zz.elim λl r=>⟨l.step x S.inv (λh=>(hY _ h).2.1 rfl) (λy c e h=>(hY _ h).2.2 y c e rfl),r.keep sk λz! z! q=>q⟩
 gx:=S.gx
 lW:=S.lW
 cW:=S.cW
 low:=λa h=>⟨(S.low a h).1,by
  refine ob0_2 (S.low a h) λh1 az=>ob1_1 az λo e=>?_
  exact ⟨o,x.keep a o (λha=>(hY a ha).1 h) (λht=>Tc _ (Su (G.rM a ht) h1)) e⟩⟩
 new:=S.new
 res:=λr hr=>r.keep W W _ _ (S.res r hr) (λa ha o e=>x.keep a o (λh=>(hY a h).1 (S.new r hr a ha).1) (by
  intro ht
  exact Tc _ (Su (G.rM a ht) (S.low a (S.new r hr a ha).1).1)) e) sk λz! z! h=>h
 apart:=S.apart
noncomputable def Fm.muts (F:Fm) (Rs:List Res):List Addr:=F.env.locals::(F.cv.filterMap (λx=>F.env.cells.lookup x)++Rs.flatMap (·.addrs))
noncomputable def Fm.at (F:Fm) (Rs:List Res) (s:Shared):Fm:={F with s0:=s,X:=F.muts Rs}
theorem St.enter (S:St G F ρ W Rs s) (hR:ak.flatMap (·.addrs)=Rs.flatMap (·.addrs)):St G (F.at ak s) ρ W Rs s :=
 {S with
  stp:=.refl ..
  own:=λx hx=>by
   refine ob1_4 (S.own x hx) λc hc mt low un=>?_
   exact ⟨c,hc,.inr (Ss _ (Ux _ (WX.mpr ⟨x,hx,hc⟩))),low,un⟩
  gx:=⟨.inr (So ..),S.gx.2⟩
  new:=λr hr a ha=>⟨(S.new r hr a ha).1,.inr (Ss _ (VS _ (by rw [hR];exact SX.mpr ⟨r,hr,ha⟩)))⟩}
theorem St.yw (S:St G F ρ W Rs s) (hR:ak.flatMap (·.addrs)=Rs.flatMap (·.addrs)):∀ a∈F.muts ak,F.s0.heap.get? a=none\/a∈F.X:=λa ha=>by
 rcases Sx.mp ha with rfl | ha
 ·exact S.gx.1
 ·rcases SO.mp ha with ha | ha
  ·refine ob1_2 (WX.mp ha) λx hx hc=>?_
   refine ob1_3 (S.own x hx) λc hc' mt z! => ?_
   rw [hc] at hc';cases hc'
   exact mt
  ·rw [hR] at ha
   refine ob1_2 (SX.mp ha) λr hr ha=>?_
   exact (S.new r hr a ha).2
theorem St.leave {Af:List Res} (S:St G F ρ W Rs s) (S':St G (F.at ak s) ρ' W Af s') (hR:ak.flatMap (·.addrs)=Rs.flatMap (·.addrs)) (J9:Af.flatMap (·.addrs)=Rs.flatMap (·.addrs)):St G F ρ' W Af s' :=
 {S' with
  stp:=S.stp.drops S'.stp (S.yw hR)
  own:=S.own
  gx:=S.gx
  new:=λr hr a ha=>by
   have:a∈Rs.flatMap (·.addrs):=by rw [<- J9];exact SX.mpr ⟨r,hr,ha⟩
   refine ob1_2 (SX.mp this) λr' hr' ha'=>?_
   exact S.new r' hr' a ha'}
theorem St.jq (S:St G F ρ W Rs s) (x:aG G (F.muts ak) s s') (hR:ak.flatMap (·.addrs)=Rs.flatMap (·.addrs)):aI W s.heap s'.heap :=
 x.bI S.inv λa ha=>by
  rcases Sx.mp ha with rfl | ha
  ·right
   intro o e xs n hd
   refine ob4_3 S.loc λm o' es ep e' d z! => ?_
   rw [e] at e';cases e'
   rw [hd] at d;cases d
  ·rcases SO.mp ha with ha | ha
   ·right
    intro o e xs n hd
    refine ob1_2 (WX.mp ha) λx hx hc=>ob2_2 (S.cells x _ hc) λv o' e' d=>?_
    rw [e] at e';cases e'
    rw [hd] at d;cases d
   ·left
    rw [hR] at ha
    refine ob1_2 (SX.mp ha) λr hr ha=>?_
    exact (S.new r hr a ha).1
theorem ko (S:St G F ρ W Rs s) (hR:ak.flatMap (·.addrs)=Rs.flatMap (·.addrs)) {b:Addr} (h:b∉W/\b≠F.env.locals/\∀ x c,F.env.cells.lookup x=some c->b≠c):b∉F.muts ak:=λhb=>by
 rcases Sx.mp hb with rfl | hb
 ·exact h.2.1 rfl
 ·rcases SO.mp hb with hb | hb
  ·refine ob1_2 (WX.mp hb) λx hx hc=>?_
   exact h.2.2 x _ hc rfl
  ·rw [hR] at hb
   refine ob1_2 (SX.mp hb) λr hr ha=>?_
   exact h.1 (S.new r hr _ ha).1
section
variable {K:Flow->Shared->Prop} {rest:List Stmt}
theorem XS.loop {τ:Type} {target iter:Sp} {body:List Stmt} {pos:Pos} {xs:List PV} (Inv:Nat->τ->Prop) (KV:τ->Prop) (iA:τ->List (Str×PV)) (RI:τ->List Res)
  (dG:PV->τ->List (Str×PV)) (z0:τ)
  (hi:IV G F ρ W Rs target iter xs) (h0:Inv 0 z0) (DZ:∀ x p,(iA z0).lookup x=some p->ρ.lookup x=some p) (NW:RI z0=Rs) (hR:∀ z,(RI z).flatMap (·.addrs)=Rs.flatMap (·.addrs))
  (mO:∀ k p z s₁,xs[k]? = some p->Inv k z->AV G (F.at Rs s₁) (iA z) W (RI z) target p (dG p z))
  (hb:∀ k p z s₁,xs[k]? = some p->Inv k z->XS G (F.at Rs s₁) (dG p z) W (RI z) body (λf s'=>match f with
   | .next | .cont=>∃ z',Inv (k+1) z'/\St G (F.at Rs s₁) (iA z') W (RI z') s'
   | .brk=>∃ z',KV z'/\St G (F.at Rs s₁) (iA z') W (RI z') s'
   | .ret _=>False))
  (h:∀ z,Inv xs.length z\/KV z->XS G F (iA z) W (RI z) rest K)
  (hs:∀ x,foldedSetIterable iter F.env x=pure x:=by intro _;rfl) :
  XS G F ρ W Rs (.For target iter body [] pos::rest) K:=λs S=>by
 refine TN (wpAny_For ?_ hs)
 refine aF (hi s S) λx s₁ zz=>zz.elim λkX hit=>aF hit λit s₂ zz=>zz.elim λfQ zz=>zz.elim λfp zz=>zz.elim λwr zz=>zz.elim λhI zz=>zz.elim λhwr hfp=>?_
 refine ob1_2 (hI [] (by simp)) λT I hT=>?_
 replace hT:=hT s₂.heap λz! z! e=>e
 rw [V6] at I
 have S₂:=S.step fQ
 have lK:∀ b∈fp,b∉W/\b≠F.env.locals/\∀ x c,F.env.cells.lookup x=some c->b≠c:=λb hb=>⟨(hfp b hb).1,(hfp b hb).2.1,(hfp b hb).2.2.1⟩
 have yY:∀ b∈wr,F.s0.heap.get? b=none\/b∈F.X:=λb hb=>by
  by_cases hX:b∈F.X
  ·exact .inr hX
  ·left
   cases e:F.s0.heap.get? b with
   | none=>rfl
   | some o =>
    have:=S.stp.keep b o hX (hfp b (I.sub b hb)).2.2.2.1 e
    rw [hwr b hb] at this;cases this
 refine codeAny_loop' rfl (λn s'=>∃ k z,n=xs.length+1 - k/\k<=xs.length/\Inv k z/\St G F (iA z) W (RI z) s'/\T k s'.heap) (λn s' hI=>?_) (xs.length+1)
  ⟨0,z0,rfl,Td _,h0,by rw [NW];exact S₂.weaken DZ,hT⟩
 refine ob2_5 hI λk z aA hk hz S' pM=>?_;obtain rfl:=aA
 show wpAny _ F.A ((forTurn target it body [] F.env).onRaise (λx=>do noteFrame x F.env;theTreesLotGoes x)) _ _ s'
 refine wpAny_noted ?_
 simp only [forTurn]
 refine Sl (Tt (Sl (wpAny_onRaise ?_)))
 rcases VW k xs.length with hlt | hge
 ·have hp:xs[k]? = some xs[k]:=by simp [hlt]
  refine aF (I.item k _ s' hp pM S'.inv λa ha=>(S'.low a ha).2) λr s₃ zz=>zz.elim λv zz=>zz.elim λhr zz=>zz.elim λx₃ hgo=>?_
  subst hr
  refine Sl (aF hgo λ_ s₄ zz=>zz.elim λpO zz=>zz.elim λsC Ac=>?_)
  have qc:aI W s'.heap s₄.heap:=pO.bI S'.inv (I.pP k _ pM)
  have bZ:St G F (iA z) W (RI z) s₄:=S'.cN pO (λa ha=>lK a (I.sub a ha)) yY qc
  have Ak:=bZ.enter (ak:=Rs) (hR z).symm
  refine Sl (aF (mO k _ z s₄ hp hz s₄ v Ak sC) λ_ s₅ zz=>zz.elim λmY z! => ?_)
  refine Sl (aF (hb k _ z s₄ hp hz s₅ mY) λf s₆ hf=>?_)
  have next:(∃ z',Inv (k+1) z'/\St G (F.at Rs s₄) (iA z') W (RI z') s₆)->∃ m,m<xs.length+1 - k/\∃ k' z',m=xs.length+1 - k'/\k'<=xs.length/\Inv k' z'/\St G F (iA z') W (RI z') s₆/\T k' s₆.heap:=λzz=>zz.elim λz' zz=>zz.elim λhz' gP=>by
   refine ⟨_,?_,k+1,z',rfl,hlt,hz',bZ.leave gP (hR z).symm ((hR z').trans (hR z).symm),?_⟩
   ·exact Mr hlt
   ·exact I.frame _ _ _ Ac (λb hb o e=>gP.stp.keep b o (ko bZ (hR z).symm (lK b hb)) (hfp b hb).2.2.2.1 e) (bZ.jq gP.stp (hR z).symm)
  cases f with
  | next=>exact Sm (.inl ⟨rfl,next hf⟩)
  | cont=>exact Sm (.inl ⟨rfl,next hf⟩)
  | brk =>
   refine ob1_2 hf λz' hz' gP=>?_
   exact Sm (h z' (.inr hz') s₆ (bZ.leave gP (hR z).symm ((hR z').trans (hR z).symm)))
  | ret v=>exact hf.elim
 ·have hk':k=xs.length:=Ub hk hge
  subst hk'
  refine aF (I.done s' pM S'.inv) λr s₃ zz=>zz.elim λhr x₃=>?_
  subst hr
  have qd:aI W s'.heap s₃.heap:=x₃.bI S'.inv (I.pP _ _ pM)
  have aT:St G F (iA z) W (RI z) s₃:=S'.cN x₃ (λa ha=>lK a (I.sub a ha)) yY qd
  exact Sm (.inr ⟨rfl,codeAny_block (UR (h z (.inl hz) s₃ aT))⟩)
end
end Mine
namespace Mine
open PySem PySem.W PyProof.Rows
variable {G:Glob} {F:Fm} {ρ ρ':List (Str×PV)} {W:List Addr} {Rs ak:List Res} {s s':Shared}
theorem St.turn {r r':Res} (S:St G F ρ W (r::Rs) s) {a:Addr} {o:Obj} {h':Heap} {tk:Tok} (ha:a∈r.addrs) (hr:r'.addrs=r.addrs) (e:s.heap.get? a=some o)
  (hd:o.cls ≠ .type "code"\/∀ vs,o.data ≠ .fields vs) (hs:Uq a s.heap h') (al:∃ o',h'.get? a=some o') (hh:r'.holds W h') :
  St G F ρ W (r'::Rs) {s with heap:=h',toks:=tk}/\aI W s.heap h' :=
 have nw:=S.new r (So ..) a ha
 have x:aG G [a] s {s with heap:=h',toks:=tk}:=.of_same G (S.low a nw.1).1 e hd hs
 have sk:aI W s.heap h':=x.bI S.inv λb hb=>.inl (by
  have:b=a:=by simpa using hb
  subst this
  exact nw.1)
 have nd:=S.apart
 have ne:∀ q∈Rs,∀ b∈q.addrs,b≠a:=λq hq b hb h=>by
  subst h
  rw [Tg,UL] at nd
  exact nd.2.2 _ ha _ (SX.mpr ⟨q,hq,hb⟩) rfl
 And.intro
 {inv:=x.inv S.inv
  stp:=S.stp.drops x (by simpa using nw.2)
  room:=S.room
  kind:=S.kind
  glob:=S.glob
  blt:=S.blt
  loc:=S.loc.imp λm h=>x.ns S.inv (by simp;rintro rfl;exact S.lW nw.1) h
  cells:=λy c ec=>(S.cells y c ec).imp λv h=>x.cell S.inv (by simp;rintro rfl;exact S.cW y _ ec nw.1) h
  jB:=S.jB
  own:=S.own
  vars:=λy p e=>(S.vars y p e).imp λv zz=>zz.elim λl r=>⟨l.step x S.inv (by simp;rintro rfl;exact S.lW nw.1) (λy c ec=>by simp;rintro rfl;exact S.cW y _ ec nw.1),r.keep sk λz! z! q=>q⟩
  gx:=S.gx
  lW:=S.lW
  cW:=S.cW
  low:=λb hb=>⟨(S.low b hb).1,by
   by_cases h:b=a
   ·subst h;exact al
   ·refine ob0_2 (S.low b hb) λz! az=>ob1_1 az λo' e'=>?_
    exact ⟨o',(hs.2 b h).trans e'⟩⟩
  new:=λq hq b hb=>by
   rcases Sx.mp hq with rfl | hq
   ·exact S.new r (So ..) b (hr▸hb)
   ·exact S.new q (Ss _ hq) b hb
  res:=λq hq=>by
   rcases Sx.mp hq with rfl | hq
   ·exact hh
   ·exact q.keep W W _ _ (S.res q (Ss _ hq)) (λb hb o' e'=>(hs.2 b (ne q hq b hb)).trans e') sk λz! z! z=>z
  apart:=by
   rw [Tg] at nd ⊢
   rw [hr];exact nd}
 sk
theorem St.append {a:Addr} {xs:List PV} (S:St G F ρ W (.lst a xs::Rs) s) {p:PV} {v:Value} (r:Rep W s.heap p v) (hl:xs.length+1<=lim) :
  wpAny G.M F.A (call (.builtin "list.append") [.ref a,v]) (λu s'=>u = .none/\St G F ρ W (.lst a (xs++[p])::Rs) s'/\aI W s.heap s'.heap) (λz! z! => False) s:=by
 refine ob0_2 (S.res _ (So ..)) λQW az=>ob1_2 az λvs bh rs=>ob1_1 bh λn e=>?_
 have hz:=rs.length
 have hsz:vs.toArray.size<=sizeLine:=by
  simp only [T5,hz]
  exact Sn QW (by decide)
 refine Yc slot_list_append ⟨_,e,rfl⟩ entry_list_append (args_list_append _ _) (list_append a vs.toArray n v hsz) ⟨e,rfl,?_⟩
 have hI:IsL s.heap a vs.toArray n:=e
 have hu:=hI.update (λxs=>xs.push v)
 have QC:BY (s.heap.update a (Vh λxs=>xs.push v)) a (vs++[v]):=⟨_,by simpa using hu⟩
 have hs:Uq a s.heap (s.heap.update a (Vh λxs=>xs.push v)):=.update ..
 refine S.turn (r':=.lst a (xs++[p])) (a:=a) (by simp [Res.lst]) rfl e (.inr (by simp)) hs ⟨_,hu⟩ ⟨by simpa using hl,_,QC,?_⟩
 have Pd:=(S.new _ (So ..) a (by simp [Res.lst])).1
 have sk:aI W s.heap (s.heap.update a (Vh λxs=>xs.push v)) :=
  ⟨λb vs hb zz=>zz.elim λn e=>⟨n,(hs.2 b (λh=>hb (h▸Pd))).trans e⟩,λb vs hb zz=>zz.elim λn e=>⟨n,(hs.2 b (λh=>hb (h▸Pd))).trans e⟩⟩
 refine ah.append (rs.keep sk λz! z! q=>q) ?_
 rw [ah]
 exact ⟨v,[],rfl,r.keep sk λz! z! q=>q,by rw [ah]⟩
theorem eS:∀ (names:List (Str×NameKind)) (h:Heap) (acc:List (Str×Addr)),(names.map (·.1)).Nodup->(∀ x c,acc.lookup x=some c->c<h.objs.size) ->
  (∀ x,(x,Um)∈names->∃ c,(cellsFrom h.objs.size names acc).lookup x=some c/\h.objs.size<=c/\(pushCells h names).IsCell c none) /\
  (∀ x,(x,Um)∉names->(cellsFrom h.objs.size names acc).lookup x=acc.lookup x) /\
  (∀ x y c,(cellsFrom h.objs.size names acc).lookup x=some c->(cellsFrom h.objs.size names acc).lookup y=some c->h.objs.size<=c->x=y)
 | [],h,acc,_,ha=>⟨by simp,by simp [cellsFrom],λx y c e z! hc=>absurd (ha x c e) (Nat.not_lt.mpr hc)⟩
 | (x0,k)::r,h,acc,nd,ha=>by
  rw [S_,List.nodup_cons] at nd
  by_cases hk:k = .cell
  ·subst hk
   have e1:cellsFrom h.objs.size ((x0,.cell)::r) acc=cellsFrom (h.push {cls:=.type "cell",data:=.cell none}).objs.size r ((x0,h.objs.size)::acc):=by
    rw [TQ];rfl
   have e2:pushCells h ((x0,.cell)::r)=pushCells (h.push {cls:=.type "cell",data:=.cell none}) r:=rfl
   rw [e1,e2]
   have ha':∀ x c,((x0,h.objs.size)::acc).lookup x=some c->c<(h.push {cls:=.type "cell",data:=.cell none}).objs.size:=λx c e=>by
    rw [Tp] at e
    rw [TQ]
    split at e
    ·cases e;exact UU _
    ·exact Tu (ha x c e)
   refine ob0_3 (eS r (h.push {cls:=.type "cell",data:=.cell none}) ((x0,h.objs.size)::acc) nd.2 ha') λi1 i2 i3=>?_
   rw [TQ] at i1 i2 i3 ⊢
   have n0:(x0,Um)∉r:=λhm=>nd.1 (S7.mpr ⟨_,hm,rfl⟩)
   refine ⟨λx hx=>?_,λx hx=>?_,λx y c ex ey hc=>?_⟩
   ·rcases Sx.mp hx with hx | hx
    ·cases hx
     refine ⟨h.objs.size,by rw [i2 x0 n0];simp,Sz _,_,pushCells_keeps _ _ _ _ (SH _ rfl),rfl⟩
    ·refine ob1_3 (i1 x hx) λc h1 h2 h3=>?_
     exact ⟨c,h1,SE h2,h3⟩
   ·rw [i2 x (λhm=>hx (Ss _ hm)),Tp]
    have:(x == x0)=false:=beq_eq_false_iff_ne.mpr λh=>hx (by rw [h];exact So ..)
    rw [this]
   ·rcases VW h.objs.size c with hlt | hge
    ·exact i3 x y c ex ey hlt
    ·have hc':c=h.objs.size:=Ub hge hc
     subst hc'
     have key:∀ z,(cellsFrom (h.objs.size+1) r ((x0,h.objs.size)::acc)).lookup z=some h.objs.size->z=x0:=λz ez=>by
      by_cases hz:(z,Um)∈r
      ·refine ob1_3 (i1 z hz) λc h1 h2 z! => ?_
       rw [ez] at h1;cases h1
       exact absurd h2 (VY _)
      ·rw [i2 z hz,Tp] at ez
       split at ez
       ·rename_i hb;exact Vc hb
       ·exact absurd (ha z _ ez) (Tc _)
     rw [key x ex,key y ey]
  ·have hb:(k == Um)=false:=beq_eq_false_iff_ne.mpr hk
   have e1:cellsFrom h.objs.size ((x0,k)::r) acc=cellsFrom h.objs.size r acc:=by rw [cellsFrom,hb];simp
   have e2:pushCells h ((x0,k)::r)=pushCells h r:=by rw [pushCells,hb];simp
   rw [e1,e2]
   refine ob0_3 (eS r h acc nd.2 ha) λi1 i2 i3=>?_
   refine ⟨λx hx=>?_,λx hx=>i2 x λhm=>hx (Ss _ hm),i3⟩
   rcases Sx.mp hx with hx | hx
   ·cases hx;exact absurd rfl hk
   ·exact i1 x hx
noncomputable def aD (env:Env):List (Str×NameKind)->List (Str×Addr)->List (Str×Addr)
 | [],acc=>acc
 | (x,k)::r,acc=>if k == .free then aD env r ((x,(env.cells.lookup x).getD 0)::acc) else aD env r acc
theorem mC {sc:Scope} {env:Env} {M:Model} {A:Around} {E:Value->Shared->Prop} {Q:List (Str×Addr)->Shared->Prop}
  (hc:∀ x,(x,Uu)∈sc.names->∃ c,env.cells.lookup x=some c) (h:Q (aD env sc.names []) s):wpAny M A (closureFor sc env) Q E s:=by
 unfold closureFor
 have key:∀ (l:List (Str×NameKind)) (acc:List (Str×Addr)),(∀ x,(x,Uu)∈l->∃ c,env.cells.lookup x=some c) ->
   (forIn l acc λ(x:Str×NameKind) (cs:List (Str×Addr))=>(do
    let (name,kind):=x
    if kind == .free then do
     let a<-cellOf env name
     pure (VO ((name,a)::cs))
    else pure (VO cs):Sem (ForInStep (List (Str×Addr)))))=pure (aD env l acc):=by
  intro l
  induction l with
  | nil=>intro acc _;rfl
  | cons x l ih =>
   intro acc hl
   obtain ⟨n,k⟩:=x
   rw [UT]
   by_cases hk:k = .free
   ·subst hk
    refine ob1_1 (hl n (So ..)) λc ec=>?_
    have e1:cellOf env n=pure c:=by unfold cellOf;rw [ec]
    have e2:aD env ((n,.free)::l) acc=aD env l ((n,c)::acc):=by
     show aD env l ((n,(env.cells.lookup n).getD 0)::acc)=_
     rw [ec];rfl
    rw [e2,<- ih _ λx hx=>hl x (Ss _ hx)]
    show ((cellOf env n >>= _) >>= _)=_
    rw [e1];rfl
   ·have hb:(k == Uu)=false:=beq_eq_false_iff_ne.mpr hk
    have e2:aD env ((n,k)::l) acc=aD env l acc:=by rw [aD,hb];simp
    rw [e2,<- ih _ λx hx=>hl x (Ss _ hx)]
    show ((if (k == Uu)=true then _ else pure _) >>= _)=_
    rw [hb];rfl
 have:=key sc.names [] hc
 refine TU (a:=aD env sc.names []) ?_ h
 exact (congrArg (· >>= λr=>pure r) this).trans rfl
theorem dP (env:Env):∀ (l:List (Str×NameKind)) (acc:List (Str×Addr)),(l.map (·.1)).Nodup->(∀ x,(x,Uu)∈l->∃ c,env.cells.lookup x=some c) ->
  (∀ x,(x,Uu)∈l->(aD env l acc).lookup x=env.cells.lookup x)/\(∀ x,(x,Uu)∉l->(aD env l acc).lookup x=acc.lookup x)
 | [],acc,_,_=>⟨by simp,by simp [aD]⟩
 | (x0,k)::r,acc,nd,hc=>by
  rw [S_,List.nodup_cons] at nd
  by_cases hk:k = .free
  ·subst hk
   refine ob1_1 (hc x0 (So ..)) λc ec=>?_
   have e2:aD env ((x0,.free)::r) acc=aD env r ((x0,c)::acc):=by
    show aD env r ((x0,(env.cells.lookup x0).getD 0)::acc)=_
    rw [ec];rfl
   rw [e2]
   refine ob0_2 (dP env r ((x0,c)::acc) nd.2 λx hx=>hc x (Ss _ hx)) λi1 i2=>?_
   have n0:(x0,Uu)∉r:=λhm=>nd.1 (S7.mpr ⟨_,hm,rfl⟩)
   refine ⟨λx hx=>?_,λx hx=>?_⟩
   ·rcases Sx.mp hx with hx | hx
    ·cases hx
     rw [i2 x0 n0,ec];simp
    ·exact i1 x hx
   ·rw [i2 x λhm=>hx (Ss _ hm),Tp]
    have:(x == x0)=false:=beq_eq_false_iff_ne.mpr λh=>hx (by rw [h];exact So ..)
    rw [this]
  ·have hb:(k == Uu)=false:=beq_eq_false_iff_ne.mpr hk
   have e2:aD env ((x0,k)::r) acc=aD env r acc:=by rw [aD,hb];simp
   rw [e2]
   refine ob0_2 (dP env r acc nd.2 λx hx=>hc x (Ss _ hx)) λi1 i2=>?_
   refine ⟨λx hx=>?_,λx hx=>i2 x λhm=>hx (Ss _ hm)⟩
   rcases Sx.mp hx with hx | hx
   ·cases hx;exact absurd rfl hk
   ·exact i1 x hx
end Mine
namespace Mine
open PySem PySem.W PyProof.Rows
variable {G:Glob} {F:Fm} {ρ ρ':List (Str×PV)} {W:List Addr} {Rs ak:List Res} {s s':Shared}
noncomputable def Fm.cP (F:Fm) (x:Str×NameKind):Bool:=x.2 == .free && F.env.scope.kind == .function && F.env.kindOf x.1 == some .cell
noncomputable def Fm.compEnv (F:Fm) (sc:Scope) (cl:Addr) (cs:List (Str×Addr)):Env :=
 {scope:={sc with names:=sc.names.map λx=>if F.cP x then (x.1,.cell) else x},locals:=cl,globals:=F.env.globals,cells:=cs,
  qual:=F.env.qual,func:=none,code:=F.env.code,frame:=F.env.frame,builtins:=F.env.builtins}
noncomputable def Fm.comp (F:Fm) (sc:Scope) (cl:Addr) (cs:List (Str×Addr)) (s0:Shared) (X:List Addr):Fm :=
 {A:=F.A,env:=F.compEnv sc cl cs,s0:=s0,X:=X,n:=F.n,cv:=(sc.names.filter λx=>x.2 == .cell).map (·.1)}
noncomputable def cT (o sc:Scope):Bool :=
 sc.kind == .function && decide (sc.names.map (·.1)).Nodup && sc.names.all λx=>x.2 != .free || o.names.lookup x.1 == some .cell || o.names.lookup x.1 == some .free
noncomputable def seen (sc:Scope) (ρ:List (Str×PV)):List (Str×PV):=ρ.filter λx=>sc.names.lookup x.1 == some .free
theorem lookup_mem {α:Type} {x:Str} {k:α}:∀ {l:List (Str×α)},l.lookup x=some k->(x,k)∈l
 | (y,j)::l,h=>by
  rw [Tp] at h
  split at h
  ·rename_i hb
   cases h
   rw [Vc hb]
   exact So ..
  ·exact Ss _ (lookup_mem h)
theorem mem_lookup {α:Type} {x:Str} {k:α}:∀ {l:List (Str×α)},(l.map (·.1)).Nodup->(x,k)∈l->l.lookup x=some k
 | (y,j)::l,nd,hm=>by
  rw [S_,List.nodup_cons] at nd
  rw [Tp]
  rcases Sx.mp hm with h1 | h2
  ·cases h1;simp
  ·have hx:x∈l.map (·.1):=S7.mpr ⟨(x,k),h2,rfl⟩
   have:(x == y)=false:=beq_eq_false_iff_ne.mpr λe=>nd.1 (e▸hx)
   rw [this]
   exact mem_lookup nd.2 h2
theorem fE (F:Fm) (x:Str):∀ (l:List (Str×NameKind)),(l.map λx=>if F.cP x then (x.1,Um) else x).lookup x=(l.lookup x).map λk=>if F.cP (x,k) then .cell else k
 | []=>rfl
 | (y,j)::l=>by
  rewrite [S_,Tp,Tp]
  by_cases h:x=y
  ·subst h
   have e:(if F.cP (x,j)=true then (x,Um) else (x,j))=(x,if F.cP (x,j)=true then Um else j):=by split <;> rfl
   simp only [e,beq_self_eq_true,WC]
  ·have e:(x == y)=false:=beq_eq_false_iff_ne.mpr h
   have e':(if F.cP (y,j)=true then (y,Um) else (y,j)).1=y:=by split <;> rfl
   rw [e',e]
   exact fE F x l
theorem dj {f:Str×PV->Bool} {x:Str} {p:PV}:∀ {l:List (Str×PV)},(∀ y q q',f (y,q)=f (y,q'))->(l.filter f).lookup x=some p->l.lookup x=some p/\f (x,p)=true
 | [],_,h=>by cases h
 | (y,q)::l,hf,h=>by
  rw [List.filter_cons] at h
  rw [Tp]
  by_cases hx:x=y
  ·subst hx
   simp only [beq_self_eq_true]
   split at h
   ·rename_i hc
    rw [Tp] at h
    simp only [beq_self_eq_true] at h
    cases h
    exact ⟨rfl,hc⟩
   ·rename_i hc
    have:=(dj hf h).2
    exact absurd ((hf x q p).trans this) hc
  ·have e:(x == y)=false:=beq_eq_false_iff_ne.mpr hx
   rw [e]
   split at h
   ·rw [Tp,e] at h
    exact dj hf h
   ·exact dj hf h
structure wO (o sc:Scope):Prop where
 kind:sc.kind = .function
 nd:(sc.names.map (·.1)).Nodup
 free:∀ x,(x,Uu)∈sc.names->o.names.lookup x=some .cell\/o.names.lookup x=some .free
theorem cT.out {o sc:Scope} (h:cT o sc=true):wO o sc:=by
 unfold cT at h
 rw [Wo,Wo] at h
 refine ⟨Vc h.1.1,of_decide_eq_true h.1.2,λx hx=>?_⟩
 have:=Uv.mp h.2 _ hx
 simp only [bne_self_eq_false,Bool.false_or,W3,beq_iff_eq] at this
 exact this
theorem addW {D:Addr} {p:PV} {v:Value} {h:Heap} (r:Rep W h p v) (hD:h.get? D=none):Rep (D::W) h p v :=
 r.keep ⟨λz! z! z! e=>e,λz! z! z! e=>e⟩ λa zz=>zz.elim λo e ha=>by
  rcases Sx.mp ha with rfl | ha
  ·rw [hD] at e;cases e
  ·exact ha
theorem Ks {D:Addr} {ps:List PV} {vs:List Value} {h:Heap} (r:ah (D::W) h ps vs):ah W h ps vs :=
 r.keep ⟨λz! z! z! e=>e,λz! z! z! e=>e⟩ λa z! ha=>Ss _ ha
theorem tL {sc:Scope} {wr:List Addr} (S:St G F ρ W Rs s) (hok:cT F.env.scope sc=true) {D cl:Addr} {h₃ h₄ h₅:Heap} {cs:List (Str×Addr)} {tk:Tok}
  (e3:h₃=s.heap.push {cls:=.type "list",data:=.seq (#[]:Array Value)}) (eD:D=s.heap.objs.size) (EG:cl=h₃.objs.size)
  (e4:h₄=h₃.push {cls:=.type "dict",data:=.dict #[]}) (RS:cs=cellsFrom (cl+1) sc.names (aD F.env sc.names [])) (e5:h₅=pushCells h₄ sc.names) :
  St G (F.comp sc cl cs s wr) (seen sc ρ) (D::W) [Res.lst D []] {s with heap:=h₅,toks:=tk}:=by
 have C:=cT.out hok
 have Ka:s.heap.get? D=none:=by rw [eD];exact bV _
 have zd:s.heap.get? cl=none:=by rw [EG,e3,TQ];exact bC (Uw _)
 have hb:G.base.objs.size<=s.heap.objs.size:=aS S.inv
 have z4:h₄.objs.size=cl+1:=by rw [e4,TQ,EG]
 have k3:∀ b o,s.heap.get? b=some o->h₃.get? b=some o:=λb o e=>by rw [e3];exact Sw _ e
 have k4:∀ b o,h₃.get? b=some o->h₄.get? b=some o:=λb o e=>by rw [e4];exact Sw _ e
 have k5:∀ b o,h₄.get? b=some o->h₅.get? b=some o:=λb o e=>by rw [e5];exact pushCells_keeps _ _ _ _ e
 have kk:∀ b o,s.heap.get? b=some o->h₅.get? b=some o:=λb o e=>k5 _ _ (k4 _ _ (k3 _ _ e))
 have Pj:BY h₅ D []:=⟨0,k5 _ _ (k4 _ _ (by rw [e3,eD];exact SH _ rfl))⟩
 have hfree:∀ x,(x,Uu)∈sc.names->∃ c,F.env.cells.lookup x=some c:=λx hx=>S.jB x (C.free x hx)
 have tl:=dP F.env sc.names [] C.nd hfree
 have jj:∀ x c,(aD F.env sc.names []).lookup x=some c->(x,Uu)∈sc.names/\F.env.cells.lookup x=some c:=λx c e=>by
  by_cases hx:(x,Uu)∈sc.names
  ·rw [tl.1 x hx] at e;exact ⟨hx,e⟩
  ·rw [tl.2 x hx] at e;cases e
 have yk:∀ x c,F.env.cells.lookup x=some c->c<s.heap.objs.size:=λx c e=>by
  refine ob1_1 (S.cells x c e) λv hv=>?_
  exact hv.lt
 have lay:=eS sc.names h₄ (aD F.env sc.names []) C.nd (λx c e=>by
  have:=yk x c (jj x c e).2
  rw [z4,EG,e3,TQ]
  exact Tu (Tu this))
 rw [z4,<- RS,<- e5] at lay
 have lV:∀ x c,cs.lookup x=some c->(cl+1<=c/\h₅.IsCell c none/\(x,Um)∈sc.names)\/(F.env.cells.lookup x=some c/\(x,Uu)∈sc.names):=λx c e=>by
  by_cases hx:(x,Um)∈sc.names
  ·refine ob1_3 (lay.1 x hx) λc' h1 h2 h3=>?_
   rw [e] at h1;cases h1
   exact .inl ⟨h2,h3,hx⟩
  ·rw [lay.2.1 x hx] at e
   exact .inr ⟨(jj x c e).2,(jj x c e).1⟩
 have hnew:∀ c,cl+1<=c->s.heap.get? c=none/\c≠D/\G.base.objs.size<=c:=λc hc=>by
  have h1 : @Eq Nat (s.heap.objs.size+1) cl:=by rw [EG,e3,TQ]
  have h2:(s.heap.objs.size+2:Nat)<=c:=by rw [<- h1] at hc;exact hc
  exact ⟨bC (SE (SE h2)),by rw [eD];exact Vv (Nat.lt_of_succ_le (SE h2)),Sn hb (SE (SE h2))⟩
 exact
 {inv:=G.yR _ _ S.inv kk
  stp:=(aG.of_keeps G kk).up
  room:=S.room
  kind:=C.kind
  glob:=S.glob
  blt:=S.blt
  loc:=⟨_,by
   have:h₄.Ns cl (λz! => none):=by rw [e4,EG];exact Heap.Ns.new ..
   exact this.keeps k5⟩
  cells:=λx c e=>by
   rcases lV x c e with ⟨_,h,_⟩ | ⟨h,_⟩
   ·exact ⟨_,h⟩
   ·refine ob1_1 (S.cells x c h) λv hv=>?_
    exact ⟨v,hv.keeps kk⟩
  jB:=λx hx=>by
   have hk:(F.comp sc cl cs s wr).env.kindOf x=(sc.names.lookup x).map λk=>if F.cP (x,k) then .cell else k:=fE F x sc.names
   have key:sc.names.lookup x=some .cell\/sc.names.lookup x=some .free:=by
    rw [hk] at hx
    cases hl:sc.names.lookup x with
    | none=>rw [hl] at hx;simp at hx
    | some k =>
     rw [hl] at hx
     simp only [WC,XZ] at hx
     by_cases ho:F.cP (x,k)=true
     ·right
      unfold Fm.cP at ho
      simp only [Wo,beq_iff_eq] at ho
      rw [ho.1.1]
     ·rw [if_neg ho] at hx
      rcases hx with h | h
      ·left;rw [h]
      ·right;rw [h]
   show ∃ c,cs.lookup x=some c
   rcases key with h | h
   ·refine ob1_2 (lay.1 x (lookup_mem h)) λc h1 z! => ?_
    exact ⟨c,h1⟩
   ·have hnc:(x,Um)∉sc.names:=λhm=>by rw [mem_lookup C.nd hm] at h;cases h
    refine ob1_1 (hfree x (lookup_mem h)) λc hc=>?_
    exact ⟨c,by rw [lay.2.1 x hnc,tl.1 x (lookup_mem h),hc]⟩
  own:=λx hx=>by
   refine ob1_2 (S7.mp hx) λbM hy aA=>?_;obtain ⟨y,k⟩:=bM;obtain rfl:=aA
   rw [W4] at hy
   have hk:k = .cell:=Vc hy.2
   subst hk
   refine ob1_3 (lay.1 y hy.1) λc h1 h2 h3=>?_
   exact ⟨c,h1,.inl (hnew c h2).1,(hnew c h2).2.2,λz hz=>lay.2.2 z y c hz h1 h2⟩
  vars:=λx p e=>by
   refine ob0_2 (dj (λz! z! z! => rfl) e) λe1 e2=>?_
   have hl:sc.names.lookup x=some .free:=Vc e2
   have hm:=lookup_mem hl
   refine ob1_2 (S.vars x p e1) λv lk r=>?_
   refine ⟨v,?_,(addW r Ka).keep ⟨λa vs _ zz=>zz.elim λn e=>⟨n,kk _ _ e⟩,λa vs _ zz=>zz.elim λn e=>⟨n,kk _ _ e⟩⟩ λz! z! q=>q⟩
   rcases lk with ⟨k,_⟩ | ⟨k,c,hc,hv⟩
   ·exfalso
    have k':F.env.scope.names.lookup x=some .local:=k
    rcases C.free x hm with h | h <;> rw [k'] at h <;> cases h
   ·refine .inr ⟨?_,c,?_,hv.keeps kk⟩
    ·have hk:(F.comp sc cl cs s wr).env.kindOf x=(sc.names.lookup x).map λk=>if F.cP (x,k) then .cell else k:=fE F x sc.names
     rw [hk,hl]
     simp only [WC,XZ]
     split
     ·exact .inl rfl
     ·exact .inr rfl
    ·show cs.lookup x=some c
     have hnc:(x,Um)∉sc.names:=λhm=>by rw [mem_lookup C.nd hm] at hl;cases hl
     rw [lay.2.1 x hnc,tl.1 x hm,hc]
  gx:=⟨.inl zd,by
   show G.base.objs.size<=cl
   rw [EG,e3,TQ];exact S5 hb⟩
  lW:=λhm=>by
   rcases Sx.mp hm with h | h
   ·have:cl=D:=h
    rw [EG,e3,TQ,eD] at this
    exact absurd this (WO _)
   ·refine ob0_2 (S.low _ h) λz! az=>ob1_1 az λo e=>?_
    have e':s.heap.get? cl=some o:=e
    rw [zd] at e';cases e'
  cW:=λx c e hm=>by
   have e':cs.lookup x=some c:=e
   rcases lV x c e' with ⟨h,_⟩ | ⟨h,_⟩
   ·rcases Sx.mp hm with hd | hd
    ·exact (hnew c h).2.1 hd
    ·refine ob0_2 (S.low _ hd) λz! az=>ob1_1 az λo e=>?_
     rw [(hnew c h).1] at e;cases e
   ·rcases Sx.mp hm with hd | hd
    ·have:=yk x c h
     rw [hd,eD] at this
     exact Tc _ this
    ·exact S.cW x c h hd
  low:=λa ha=>by
   rcases Sx.mp ha with rfl | ha
   ·exact ⟨by rw [eD];exact hb,Pj.elim λn e=>⟨_,e⟩⟩
   ·refine ob0_2 (S.low a ha) λh az=>ob1_1 az λo e=>?_
    exact ⟨h,o,kk _ _ e⟩
  new:=λr hr a ha=>by
   have:r=Res.lst D []:=by simpa using hr
   subst this
   have:a=D:=by simpa [Res.lst] using ha
   subst this
   exact ⟨So ..,.inl Ka⟩
  res:=λr hr=>by
   have:r=Res.lst D []:=by simpa using hr
   subst this
   exact ⟨Td _,[],Pj,by rw [ah]⟩
  apart:=by simp [Res.lst]}
end Mine
namespace Mine
open PySem PySem.W PyProof.Rows
variable {G:Glob} {F:Fm} {ρ ρ':List (Str×PV)} {W:List Addr} {Rs ak:List Res} {s s':Shared}
noncomputable abbrev n9 (ifs:List Sp) (env:Env):Sem Bool :=
 forIn ifs true λc r=>if r=true then do let ok<-isTrue c env (eval c env);pure (VO ok) else pure (VO r)
noncomputable def u7 (G:Glob) (F:Fm) (ρ:List (Str×PV)) (W:List Addr) (Rs:List Res) (ifs:List Sp) (b:Bool):Prop :=
 ∀ s,St G F ρ W Rs s->wpAny G.M F.A (n9 ifs F.env) (λv s'=>aG G [] s s'/\v=b) (λz! z! => False) s
theorem u7.nil:u7 G F ρ W Rs [] true:=λs z! => wpAny_tests_nil ⟨.refl ..,rfl⟩
theorem u7.one {c:Sp} {b:Bool} (h:TV G F ρ W Rs c b):u7 G F ρ W Rs [c] b:=λs S=>wpAny_tests_one (h s S)
theorem BB {x:Str} {p:PV} (h:ρ.lookup x=none):∀ y q,ρ.lookup y=some q->((x,p)::ρ).lookup y=some q:=λy q e=>by
 rw [Tp]
 by_cases hx:y=x
 ·subst hx;rw [h] at e;cases e
 ·rw [beq_eq_false_iff_ne.mpr hx];exact e
noncomputable abbrev Fm.as (F:Fm) (s0:Shared) (X:List Addr):Fm:={F with s0:=s0,X:=X}
theorem wu {e:Sp} {d:Nat} {target:Sp} {pos:Pos} {ifs:List Sp} {inner:Sem Unit} {it:Value} {D:Addr} {α:Type} {L:List α} {enc:α->PV} {fp wr:List Addr} {T:Nat->Heap->Prop}
  {R:Result->Shared->Prop}
  (heq:compTurn e d it (.ref D) F.env=(do
   standAt pos
   match<-pyNext it with
   | none=>pure (.done .next)
   | some v =>
    letOwnedTupleGo target it v
    assign target F.env v
    let ok<-n9 ifs F.env
    if ok then inner
    again (.compLoop e d it (.ref D) F.env)))
  (NP:G.M.den (.compLoop e d it (.ref D) F.env)=(compTurn e d it (.ref D) F.env).onRaise (λx=>do noteFrame x F.env;theTreesLotGoes x))
  (Nq:F.A.under (.compLoop e d it (.ref D) F.env)=F.A)
  (I:Ai G F.A W target it fp wr (L.map enc) T) (hfp:∀ b∈fp,b∉W/\b≠F.env.locals/\(∀ x c,F.env.cells.lookup x=some c->b≠c)/\b∉G.tabs)
  (hwr:∀ b∈wr,F.s0.heap.get? b=none\/b∈F.X)
  (dG:α->List (Str×PV)) (c:α->Bool) (out:α->List PV) (ig:∀ a y q,ρ.lookup y=some q->(dG a).lookup y=some q)
  (mO:∀ a∈L,∀ ys s0 X,AV G (F.as s0 X) ρ W [.lst D ys] target (enc a) (dG a))
  (ht:∀ a∈L,∀ ys s0 X,u7 G (F.as s0 X) (dG a) W [.lst D ys] ifs (c a))
  (hin:∀ a∈L,c a=true->∀ ys s0 X s,ys.length+(out a).length<=lim->St G (F.as s0 X) (dG a) W [.lst D ys] s ->
   wpAny G.M F.A inner (λz! s'=>St G (F.as s0 X) (dG a) W [.lst D (ys++out a)] s') (λz! z! => False) s)
  {ys:List PV} (S:St G F ρ W [.lst D ys] s) (hT:T 0 s.heap) (hl:ys.length+((L.filter c).flatMap out).length<=lim)
  (hR:∀ s',St G F ρ W [.lst D (ys++(L.filter c).flatMap out)] s'->R (.ok .next) s') :
  codeAny G.M F.A (.compLoop e d it (.ref D) F.env) R s:=by
 have lK:∀ b∈fp,b∉W/\b≠F.env.locals/\∀ x c,F.env.cells.lookup x=some c->b≠c:=λb hb=>⟨(hfp b hb).1,(hfp b hb).2.1,(hfp b hb).2.2.1⟩
 refine codeAny_loop rfl (λn s'=>∃ k,n=L.length+1 - k/\k<=L.length/\St G F ρ W [.lst D (ys++((L.take k).filter c).flatMap out)] s'/\T k s'.heap) (λn s' hI=>?_) (L.length+1)
  ⟨0,rfl,Td _,by simpa using S,hT⟩
 refine ob1_4 hI λk aC hk S' pM=>?_;obtain rfl:=aC
 rw [Nq]
 rw [NP]
 refine wpAny_noted ?_
 rw [heq]
 refine Sl (Tt (Sl ?_))
 rcases VW k L.length with hlt | hge
 ·have hp:(L.map enc)[k]? = some (enc L[k]):=by simp [hlt]
  have ha:L[k]∈L:=UW hlt
  have hsplit:L.take (k+1)=L.take k++[L[k]]:=by rw [TX];simp [hlt]
  have hlen:((L.take (k+1)).filter c).flatMap out=((L.take k).filter c).flatMap out++(if c L[k] then out L[k] else []):=by
   rw [hsplit,List.filter_append,Ul]
   congr 1
   by_cases h:c L[k]=true <;> simp [h]
  have hle:(((L.take (k+1)).filter c).flatMap out).length<=((L.filter c).flatMap out).length:=by
   have:(L.filter c).flatMap out=((L.take (k+1)).filter c).flatMap out++((L.drop (k+1)).filter c).flatMap out:=by
    rw [<- Ul,<- List.filter_append,Ur]
   rw [this,SY]
   exact TA _ _
  refine aF (I.item k _ s' hp pM S'.inv λa ha=>(S'.low a ha).2) λr s₃ zz=>zz.elim λv zz=>zz.elim λhr zz=>zz.elim λx₃ hgo=>?_
  subst hr
  refine Sl (aF hgo λ_ s₄ zz=>zz.elim λpO zz=>zz.elim λsC Ac=>?_)
  have qc:aI W s'.heap s₄.heap:=pO.bI S'.inv (I.pP k _ pM)
  have bZ:=S'.cN pO (λa ha=>lK a (I.sub a ha)) hwr qc
  have Ak:=bZ.enter (ak:=[.lst D []]) rfl
  refine Sl (aF (mO _ ha _ s₄ _ s₄ v Ak sC) λ_ s₅ zz=>zz.elim λmY z! => ?_)
  refine Sl (aF (ht _ ha _ s₄ _ s₅ mY) λok s₆ zz=>zz.elim λMY hok=>?_)
  subst hok
  have gP:=mY.step MY
  have next:∀ s₇,St G (F.as s₄ (F.muts [.lst D []])) (dG L[k]) W [.lst D (ys++((L.take (k+1)).filter c).flatMap out)] s₇ ->
    ∃ m,m<L.length+1 - k/\∃ k',m=L.length+1 - k'/\k'<=L.length/\St G F ρ W [.lst D (ys++((L.take k').filter c).flatMap out)] s₇/\T k' s₇.heap:=λs₇ Ad=>by
   refine ⟨_,?_,k+1,rfl,hlt,bZ.leave (Ad.weaken (ig _)) rfl rfl,?_⟩
   ·exact Mr hlt
   ·exact I.frame _ _ _ Ac (λb hb o e=>Ad.stp.keep b o (ko bZ rfl (lK b hb)) (hfp b hb).2.2.2 e) (bZ.jq Ad.stp rfl)
  by_cases hc:c L[k]=true
  ·rw [hc]
   refine Sl ?_
   rw [hlen,if_pos hc] at hle
   refine aF (hin _ ha hc _ s₄ _ s₆ ?_ gP) λz! s₇ Ad=>Sm ⟨rfl,next s₇ (by rw [hlen,if_pos hc,<- S4];exact Ad)⟩
   simp only [SY] at hle ⊢
   exact PO hl hlt hle
  ·have hc':c L[k]=false:=by simpa using hc
   rw [hc']
   show wpAny _ _ (again _) _ _ _
   exact Sm ⟨rfl,next s₆ (by rw [hlen,if_neg hc,S6];exact gP)⟩
 ·have hk':k=L.length:=Ub hk hge
  subst hk'
  refine aF (I.done s' (by simpa using pM) S'.inv) λr s₃ zz=>zz.elim λhr x₃=>?_
  subst hr
  have qd:aI W s'.heap s₃.heap:=x₃.bI S'.inv (I.pP _ _ pM)
  have aT:=S'.cN x₃ (λa ha=>lK a (I.sub a ha)) hwr qd
  rw [Xp] at aT
  exact Sm (hR s₃ aT)
end Mine
namespace Mine
open PySem PySem.W PyProof.Rows
variable {G:Glob} {F:Fm} {ρ ρ':List (Str×PV)} {W:List Addr} {Rs ak:List Res} {s s':Shared}
theorem rU {sc:Scope} {closure:List (Str×Addr)} {env:Env} {M:Model} {A:Around} {E:Value->Shared->Prop} {Q:Env->Shared->Prop}
  (h:Q {scope:=sc,locals:=s.heap.objs.size,globals:=env.globals,cells:=cellsFrom (s.heap.objs.size+1) sc.names closure,qual:=env.qual,func:=none,code:=env.code,frame:=env.frame,builtins:=env.builtins}
   {s with heap:=pushCells (s.heap.push {cls:=.type "dict",data:=.dict #[]}) sc.names}) :
  wpAny M A (newFunctionEnv sc env.globals closure [] env.qual none .none (some env)) Q E s:=by
 unfold newFunctionEnv
 refine Sl (wpAny_alloc (o:={cls:=.type "dict",data:=.dict #[]}) (Sl ?_))
 refine wpAny_layCells _ (λname kind cells=>rfl) sc.names closure _ _ ?_
 rw [show ({s with heap:=s.heap.push {cls:=.type "dict",data:=.dict #[]}}:Shared).heap.objs.size=s.heap.objs.size+1 from TQ ..]
 exact Sm h
structure gF (G:Glob) (F:Fm) (ρ:List (Str×PV)) (W:List Addr) (Rs:List Res) (s:Shared) (cl D:Addr) (ys:List PV) (s₁:Shared):Prop where
 st:St G F ρ W Rs s₁
 stp:aG G [] s s₁
 uQ:s.heap.get? cl=none
 zN:G.base.objs.size<=cl
 ES:∃ m,s₁.heap.Ns cl m
 R3:s.heap.get? D=none
 Sk:D≠cl
 rep:Rep W s₁.heap (.lst ys) (.ref D)
theorem nO {e elt target iter:Sp} {ifs:List Sp} {rest:List Comprehension} {sc:Scope} {pos epos:Pos} {use:Option (Value->Sem Unit)} {α:Type} {P:α->Prop} {xs:α->List PV} {ys:α->List PV} {Q:Value->Shared->Prop}
  (he:e = .ListComp elt (⟨target,iter,ifs,0⟩::rest) sc epos) (hok:cT F.env.scope sc=true) (S:St G F ρ W Rs s)
  (hi:wpAny G.M F.A (eval iter F.env) (λx s₁=>aG G [] s s₁/\wpAny G.M F.A (pyIter x) (λit s₂=>∃ z,P z/\aG G [] s s₂/\Ready G F W target (xs z) s it s₂) (λz! z! => False) s₁) (λz! z! => False) s)
  (za:∀ z,P z->∀ cl cs D it fp wr T s₂ s₃ R,Ai G F.A (D::W) target it fp wr (xs z) T->T 0 s₃.heap->(∀ b∈fp,b∉W/\b≠F.env.locals/\(∀ x c,F.env.cells.lookup x=some c->b≠c)/\b∉G.tabs/\∃ o,s₂.heap.get? b=some o) ->
   St G (F.comp sc cl cs s₂ wr) (seen sc ρ) (D::W) [Res.lst D []] s₃->s₂.heap.get? D=none->s₂.heap.get? cl=none->(∀ x c,cs.lookup x=some c->s₂.heap.get? c=none\/F.env.cells.lookup x=some c) ->
   (∀ b o,s₂.heap.get? b=some o->s₃.heap.get? b=some o) ->
   (∀ s',St G (F.comp sc cl cs s₂ wr) (seen sc ρ) (D::W) [Res.lst D (ys z)] s'->R (.ok .next) s') ->
   codeAny G.M F.A (.compStart e 0 it (.ref D) (F.compEnv sc cl cs)) R s₃)
  (hQ:∀ z,P z->∀ cl D s₁,gF G F ρ W Rs s cl D (ys z) s₁->match use with
   | none=>∀ h',Uq cl s₁.heap h'->Q (.ref D) {s₁ with heap:=h'}
   | some u=>wpAny G.M F.A (u (.ref D)) (λz! s''=>∃ m,s''.heap.Ns cl m/\∀ h',Uq cl s''.heap h'->Q .none {s'' with heap:=h'}) (λz! z! => False) s₁)
  (hs:∀ x,foldedSetIterable iter F.env x=pure x:=by intro _;rfl) :
  wpAny G.M F.A (comprehension e sc F.env pos (newList []) false (eval iter F.env) use) Q (λz! z! => False) s:=by
 have C:=cT.out hok
 have hcl:clausesOf e=⟨target,iter,ifs,0⟩::rest:=by rw [he];rfl
 unfold comprehension
 rw [hcl]
 refine Sl (aF hi λx s₁ zz=>zz.elim λkX hit=>Sl (Tt (Sl (TU (hs x) (Sl (Sy ?_))))))
 show wpAny _ _ (pyIter x) _ _ s₁
 refine aF hit λit s₂ zz=>zz.elim λz zz=>zz.elim λhz zz=>zz.elim λfQ zz=>zz.elim λfp zz=>zz.elim λwr zz=>zz.elim λhI zz=>zz.elim λhwr hfp=>wpAny_standIf (Sl ?_)
 have S₂:=S.step fQ
 refine ob1_2 (hI [] (by simp)) λT₀ wN J5=>?_
 rw [V6] at wN
 refine ob1_2 (hI [s₂.heap.objs.size] (λa ha=>by
  have:a=s₂.heap.objs.size:=by simpa using ha
  subst this
  exact bV _)) λT I hT=>?_
 refine T6 (T:="list") (data:=.seq ([]:List Value).toArray) ?_ (by size_fits)
 refine Sl (mC (λx hx=>S.jB x (C.free x hx)) (Sl (rU ?_)))
 dsimp only
 have Ox:=tL (wr:=wr) (tk:=s₂.toks) S₂ hok rfl rfl rfl rfl rfl rfl
 have hb:=aS S₂.inv
 have k5:∀ b o,s₂.heap.get? b=some o->(pushCells ((s₂.heap.push {cls:=.type "list",data:=.seq (#[]:Array Value)}).push {cls:=.type "dict",data:=.dict #[]}) sc.names).get? b=some o :=
  λb o e=>pushCells_keeps _ _ _ _ (Sw _ (Sw _ e))
 have Ka:s₂.heap.get? s₂.heap.objs.size=none:=bV _
 have zd:s₂.heap.get? (s₂.heap.push {cls:=.type "list",data:=.seq (#[]:Array Value)}).objs.size=none:=by rw [TQ];exact bC (Uw _)
 have J4:G.base.objs.size<=(s₂.heap.push {cls:=.type "list",data:=.seq (#[]:Array Value)}).objs.size:=by rw [TQ];exact S5 hb
 have N1:s₂.heap.objs.size≠(s₂.heap.push {cls:=.type "list",data:=.seq (#[]:Array Value)}).objs.size:=by rw [TQ];exact Ne.symm (WO _)
 have hcs:∀ x c,(cellsFrom ((s₂.heap.push {cls:=.type "list",data:=.seq (#[]:Array Value)}).objs.size+1) sc.names (aD F.env sc.names [])).lookup x=some c->s₂.heap.get? c=none\/F.env.cells.lookup x=some c:=by
  intro x c e
  have hfree:∀ x,(x,Uu)∈sc.names->∃ c,F.env.cells.lookup x=some c:=λx hx=>S.jB x (C.free x hx)
  have tl:=dP F.env sc.names [] C.nd hfree
  have jj:∀ x c,(aD F.env sc.names []).lookup x=some c->F.env.cells.lookup x=some c:=λx c e=>by
   by_cases hx:(x,Uu)∈sc.names
   ·rw [tl.1 x hx] at e;exact e
   ·rw [tl.2 x hx] at e;cases e
  have lay:=eS sc.names ((s₂.heap.push {cls:=.type "list",data:=.seq (#[]:Array Value)}).push {cls:=.type "dict",data:=.dict #[]}) (aD F.env sc.names []) C.nd (λx c e=>by
   refine ob1_1 (S₂.cells x c (jj x c e)) λv hv=>?_
   have:=hv.lt
   rw [TQ,TQ]
   exact Tu (Tu this))
  rw [TQ] at lay
  by_cases hx:(x,Um)∈sc.names
  ·refine ob1_3 (lay.1 x hx) λc' h1 h2 z! => ?_
   rw [e] at h1;cases h1
   left
   rw [TQ] at h2
   exact bC (SE (SE h2))
  ·rw [lay.2.1 x hx] at e
   exact .inr (jj x c e)
 generalize hH:s₂.heap.push {cls:=.type "list",data:=.seq (#[]:Array Value)}=h₃ at *
 generalize Rb:h₃.objs.size=cl at *
 generalize hD:s₂.heap.objs.size=D at *
 generalize Q_:cellsFrom (cl+1) sc.names (aD F.env sc.names [])=cs at *
 generalize Q0:pushCells (h₃.push {cls:=.type "dict",data:=.dict #[]}) sc.names=h₅ at *
 have Np:∀ b∈wr,F.s0.heap.get? b=none\/b∈F.X:=λb hb=>by
  by_cases hX:b∈F.X
  ·exact .inr hX
  ·left
   cases e:F.s0.heap.get? b with
   | none=>rfl
   | some o =>
    have:=S.stp.keep b o hX (hfp b (wN.sub b hb)).2.2.2.1 e
    rw [hwr b hb] at this;cases this
 have done:∀ s',St G (F.comp sc cl cs s₂ wr) (seen sc ρ) (D::W) [Res.lst D (ys z)] s'->gF G F ρ W Rs s cl D (ys z) s':=λs' S'=>by
  have sk:aI W s₂.heap s'.heap:=S'.stp.bI S₂.inv (wN.pP 0 _ (J5 _ λz! z! e=>e))
  refine ob0_2 (S'.res _ (So ..)) λhl az=>ob1_2 az λvs hL rs=>?_
  have Ph:=fQ.none_of S₂.inv Ka hb
  refine ⟨S₂.cN S'.stp (λa ha=>⟨(hfp a (wN.sub a ha)).1,(hfp a (wN.sub a ha)).2.1,(hfp a (wN.sub a ha)).2.2.1⟩) Np sk,fQ.drops S'.stp λa ha=>.inl (hwr a ha),
   fQ.none_of S₂.inv zd J4,J4,S'.loc,Ph,N1,?_⟩
  rw [Rep]
  refine ⟨hl,D,vs,rfl,λhm=>?_,hL,Ks rs⟩
  refine ob0_2 (S.low D hm) λz! az=>ob1_1 az λo e=>?_
  rw [Ph] at e;cases e
 have QX:∀ x∈sc.names,x.2 = .local->(F.compEnv sc cl cs).kindOf x.1=some .local:=λx hx hl=>by
  obtain ⟨n,k⟩:=x
  simp only at hl
  subst hl
  show List.lookup n (sc.names.map λx=>if F.cP x then (x.1,Um) else x)=_
  rw [fE,mem_lookup C.nd hx]
  rfl
 have hv:∀ x∈(sc.names.filter λx=>(x.2 == .local || x.2 == .cell) && x.1 != (".0":Str)).reverse,x.2 = .local->(F.compEnv sc cl cs).kindOf x.1=some .local :=
  λx hx hl=>QX x (W4.mp (Wr.mp hx)).1 hl
 have hv':∀ x∈(sc.names.filter λx=>(x.2 == .local || x.2 == .cell) && x.1 != (".0":Str)).reverse.drop 1++(sc.names.filter λx=>(x.2 == .local || x.2 == .cell) && x.1 != (".0":Str)).reverse.take 1,
   x.2 = .local->(F.compEnv sc cl cs).kindOf x.1=some .local:=λx hx hl=>by
  rcases SO.mp hx with h1 | h1
  ·exact hv x (VB h1) hl
  ·exact hv x (VC h1) hl
 refine Sy (Sl (U_ (Sy (wpAny_run (za z hz cl cs D it fp wr T s₂ _ _ I (hT _ k5) hfp Ox Ka zd hcs (by simp only [Q0];exact k5) λs' S'=>?_)))))
 have dn:=done s' S'
 refine ob1_1 dn.ES λm hn=>?_
 have q:=hQ z hz cl D s' dn
 cases use with
 | none=>exact Sl (Sy (wpAny_comp_letGo (cenv:=F.compEnv sc cl cs) C.kind _ s' m hv hn λh' m' z! hs'=>Sm (q h' hs')))
 | some u =>
  refine Sl (Vi (Sl (Sy (aF q λ_ s'' zz=>zz.elim λm₂ zz=>zz.elim λhn₂ JE=>?_))))
  exact Sl (wpAny_comp_letGo (cenv:=F.compEnv sc cl cs) C.kind _ s'' m₂ hv' hn₂ λh' m' z! hs'=>Sm (JE h' hs'))
theorem q6 {e elt target iter:Sp} {ifs:List Sp} {rest:List Comprehension} {sc:Scope} {pos epos:Pos} {use:Option (Value->Sem Unit)} {ys:List PV} {xs:List PV} {Q:Value->Shared->Prop}
  (he:e = .ListComp elt (⟨target,iter,ifs,0⟩::rest) sc epos) (hok:cT F.env.scope sc=true) (hi:IV G F ρ W Rs target iter xs) (S:St G F ρ W Rs s)
  (za:∀ cl cs D it fp wr T s₂ s₃ R,Ai G F.A (D::W) target it fp wr xs T->T 0 s₃.heap->(∀ b∈fp,b∉W/\b≠F.env.locals/\(∀ x c,F.env.cells.lookup x=some c->b≠c)/\b∉G.tabs/\∃ o,s₂.heap.get? b=some o) ->
   St G (F.comp sc cl cs s₂ wr) (seen sc ρ) (D::W) [Res.lst D []] s₃->s₂.heap.get? D=none->s₂.heap.get? cl=none->(∀ x c,cs.lookup x=some c->s₂.heap.get? c=none\/F.env.cells.lookup x=some c) ->
   (∀ b o,s₂.heap.get? b=some o->s₃.heap.get? b=some o) ->
   (∀ s',St G (F.comp sc cl cs s₂ wr) (seen sc ρ) (D::W) [Res.lst D ys] s'->R (.ok .next) s') ->
   codeAny G.M F.A (.compStart e 0 it (.ref D) (F.compEnv sc cl cs)) R s₃)
  (hQ:∀ cl D s₁,gF G F ρ W Rs s cl D ys s₁->match use with
   | none=>∀ h',Uq cl s₁.heap h'->Q (.ref D) {s₁ with heap:=h'}
   | some u=>wpAny G.M F.A (u (.ref D)) (λz! s''=>∃ m,s''.heap.Ns cl m/\∀ h',Uq cl s''.heap h'->Q .none {s'' with heap:=h'}) (λz! z! => False) s₁)
  (hs:∀ x,foldedSetIterable iter F.env x=pure x:=by intro _;rfl) :
  wpAny G.M F.A (comprehension e sc F.env pos (newList []) false (eval iter F.env) use) Q (λz! z! => False) s :=
 nO (α:=Unit) (P:=λz! => True) (xs:=λz! => xs) (ys:=λz! => ys) he hok S (aF (hi s S) λx s₁ zz=>zz.elim λa b=>⟨a,aF b λit s₂ zz=>zz.elim λc d=>⟨(),trivial,c,d⟩⟩) (λz! z! => za) (λz! z! => by cases use <;> exact hQ) hs
end Mine
namespace Mine
open PySem PySem.W PyProof.Rows
variable {G:Glob} {F:Fm} {ρ ρ':List (Str×PV)} {W:List Addr} {Rs ak:List Res} {s s':Shared}
theorem wz (elt target iter:Sp) (ifs:List Sp) (scope:Scope) (pos:Pos) (it acc:Value) (env:Env) :
  compTurn (.ListComp elt [⟨target,iter,ifs,0⟩] scope pos) 0 it acc env=(do
   standAt iter.pos
   match<-pyNext it with
   | none=>pure (.done .next)
   | some v =>
    letOwnedTupleGo target it v
    assign target env v
    let ok<-n9 ifs env
    if ok then (do let _<-call (.builtin "list.append") [acc,<- eval elt env])
    again (.compLoop (.ListComp elt [⟨target,iter,ifs,0⟩] scope pos) 0 it acc env)):=by rfl
theorem jW {h:Heap} {a:Addr} {m} (hn:h.Ns a m):∃ o,h.get? a=some o/\(∀ vs,o.data ≠ .fields vs)/\∀ xs n,o.data ≠ .seq xs n:=by
 refine ob3_3 hn λo es ep e d z! => ?_
 exact ⟨o,e,by rw [d];simp,by rw [d];simp⟩
theorem gF.yc {cl D:Addr} {ys:List PV} (dn:gF G F ρ W Rs s cl D ys s') {h':Heap} (hs:Uq cl s'.heap h') :
  aG G [] s {s' with heap:=h'}/\Rep W h' (.lst ys) (.ref D):=by
 refine ob1_1 dn.ES λm hn=>ob1_3 (jW hn) λo e d1 d2=>?_
 have x:aG G [cl] s' {s' with heap:=h'}:=.of_same G dn.zN e (.inr d1) hs (t:=s'.toks)
 refine ⟨dn.stp.drops x λa ha=>.inl ?_,dn.rep.keep (x.bI dn.st.inv λa ha=>.inr λo' e' xs n hd=>?_) λz! z! q=>q⟩
 ·have:a=cl:=by simpa using ha
  subst this;exact dn.uQ
 ·have:a=cl:=by simpa using ha
  subst this
  rw [e] at e';cases e'
  exact d2 _ _ hd
theorem lZ {α:Type} {L:List α} {enc:α->PV} {elt target iter:Sp} {ifs:List Sp} {sc:Scope} {epos:Pos}
  (dG:α->List (Str×PV)) (c:α->Bool) (f:α->PV) (ig:∀ a y q,(seen sc ρ).lookup y=some q->(dG a).lookup y=some q)
  (mO:∀ a∈L,∀ cl cs s0 X W' ak,AV G (F.comp sc cl cs s0 X) (seen sc ρ) W' ak target (enc a) (dG a))
  (ht:∀ a∈L,∀ cl cs s0 X W' ak,u7 G (F.comp sc cl cs s0 X) (dG a) W' ak ifs (c a))
  (hel:∀ a∈L,c a=true->∀ cl cs s0 X W' ak,EV G (F.comp sc cl cs s0 X) (dG a) W' ak elt (f a)) (hl:L.length<=lim)
  (cl:Addr) (cs:List (Str×Addr)) (D:Addr) (it:Value) (fp wr:List Addr) (T:Nat->Heap->Prop) (s₂ s₃:Shared) (R:Result->Shared->Prop)
  (I:Ai G F.A (D::W) target it fp wr (L.map enc) T) (hT:T 0 s₃.heap) (hfp:∀ b∈fp,b∉W/\b≠F.env.locals/\(∀ x c,F.env.cells.lookup x=some c->b≠c)/\b∉G.tabs/\∃ o,s₂.heap.get? b=some o)
  (S:St G (F.comp sc cl cs s₂ wr) (seen sc ρ) (D::W) [Res.lst D []] s₃) (hD:s₂.heap.get? D=none) (hcl:s₂.heap.get? cl=none)
  (hcs:∀ x c,cs.lookup x=some c->s₂.heap.get? c=none\/F.env.cells.lookup x=some c) (hk:∀ b o,s₂.heap.get? b=some o->s₃.heap.get? b=some o)
  (hR:∀ s',St G (F.comp sc cl cs s₂ wr) (seen sc ρ) (D::W) [Res.lst D ((L.filter c).map f)] s'->R (.ok .next) s') :
  codeAny G.M F.A (.compStart (.ListComp elt [⟨target,iter,ifs,0⟩] sc epos) 0 it (.ref D) (F.compEnv sc cl cs)) R s₃:=by
 have hne:∀ b∈fp,∀ a,s₂.heap.get? a=none->b≠a:=λb hb a ha h=>by
  subst h
  refine ob1_1 ((hfp b hb).2.2.2.2) λo e=>?_
  rw [ha] at e;cases e
 have loop:codeAny G.M F.A (.compLoop (.ListComp elt [⟨target,iter,ifs,0⟩] sc epos) 0 it (.ref D) (F.compEnv sc cl cs)) R s₃:=by
  refine wu (F:=F.comp sc cl cs s₂ wr) (ρ:=seen sc ρ) (wz elt target iter ifs sc epos it (.ref D) (F.compEnv sc cl cs)) rfl rfl I
   (λb hb=>⟨λhm=>?_,hne b hb cl hcl,λx c hc=>?_,(hfp b hb).2.2.2.1⟩) (λb hb=>.inr hb) dG c (λa=>[f a]) ig
   (λa ha ys s0 X=>mO a ha cl cs s0 X _ _) (λa ha ys s0 X=>ht a ha cl cs s0 X _ _) (λa ha hc ys s0 X s hlen S=>?_) S hT ?_ (λs' S'=>hR s' ?_)
  ·rcases Sx.mp hm with h | h
   ·exact hne b hb D hD h
   ·exact (hfp b hb).1 h
  ·rcases hcs x c hc with h | h
   ·exact hne b hb c h
   ·exact (hfp b hb).2.2.1 x c h
  ·refine Sl (aF (hel a ha hc cl cs s0 X _ _ s S) λv s₁ zz=>zz.elim λx r=>Sl (aF ((S.step x).append r (by simpa using hlen)) λ_ s₂ zz=>zz.elim λz! zz=>zz.elim λS₂ z! => Sm S₂))
  ·simp only [List.length_nil,U5,List.flatMap_singleton',List.length_flatMap,List.map_const',List.sum_replicate_nat,List.length_singleton,Nat.mul_one,S_,VG]
   exact Sn (by simpa using Wy c L) hl
  ·have e:∀ l:List α,l.flatMap (λa=>[f a])=l.map f:=λl=>by induction l <;> simp_all
   rw [e,V6] at S'
   exact S'
 exact codeAny_compStart_list loop (aF (I.self 0 s₃ hT) λv s' zz=>zz.elim λh1 h2=>by subst h1 h2;exact loop)
theorem EV.comp {α:Type} {L:List α} {enc:α->PV} {elt target iter:Sp} {ifs:List Sp} {sc:Scope} {epos:Pos}
  (dG:α->List (Str×PV)) (c:α->Bool) (f:α->PV) (hok:cT F.env.scope sc=true) (hi:IV G F ρ W Rs target iter (L.map enc))
  (ig:∀ a y q,(seen sc ρ).lookup y=some q->(dG a).lookup y=some q)
  (mO:∀ a∈L,∀ cl cs s0 X W' ak,AV G (F.comp sc cl cs s0 X) (seen sc ρ) W' ak target (enc a) (dG a))
  (ht:∀ a∈L,∀ cl cs s0 X W' ak,u7 G (F.comp sc cl cs s0 X) (dG a) W' ak ifs (c a))
  (hel:∀ a∈L,c a=true->∀ cl cs s0 X W' ak,EV G (F.comp sc cl cs s0 X) (dG a) W' ak elt (f a)) (hl:L.length<=lim)
  (hs:∀ x,foldedSetIterable iter F.env x=pure x:=by intro _;rfl) :
  EV G F ρ W Rs (.ListComp elt [⟨target,iter,ifs,0⟩] sc epos) (.lst ((L.filter c).map f)):=λs S=>by
 show wpAny _ _ (comprehension (.ListComp elt [⟨target,iter,ifs,0⟩] sc epos) sc F.env _ (newList []) false (eval iter F.env) none) _ _ _
 refine q6 rfl hok hi S (λcl cs D it fp wr T s₂ s₃ R I hT hfp S' hD hcl hcs hk hR=>lZ dG c f ig mO ht hel hl cl cs D it fp wr T s₂ s₃ R I hT hfp S' hD hcl hcs hk hR) (λcl D s₁ dn=>?_) hs
 exact λh' hs'=>dn.yc hs'
theorem XS.uW {α:Type} {L:List α} {enc:α->PV} {elt target iter:Sp} {ifs:List Sp} {sc:Scope} {epos pos px:Pos} {x:Str} {rest:List Stmt} {K:Flow->Shared->Prop}
  (dG:α->List (Str×PV)) (c:α->Bool) (f:α->PV) (hok:cT F.env.scope sc=true) (hi:IV G F ρ W Rs target iter (L.map enc))
  (ig:∀ a y q,(seen sc ρ).lookup y=some q->(dG a).lookup y=some q)
  (mO:∀ a∈L,∀ cl cs s0 X W' ak,AV G (F.comp sc cl cs s0 X) (seen sc ρ) W' ak target (enc a) (dG a))
  (ht:∀ a∈L,∀ cl cs s0 X W' ak,u7 G (F.comp sc cl cs s0 X) (dG a) W' ak ifs (c a))
  (hel:∀ a∈L,c a=true->∀ cl cs s0 X W' ak,EV G (F.comp sc cl cs s0 X) (dG a) W' ak elt (f a)) (hl:L.length<=lim)
  (hx:F.env.kindOf x=some .local)
  (h:XS G F ((x,.lst ((L.filter c).map f))::ρ) W Rs rest K)
  (hsw:swapsWith (.ListComp elt [⟨target,iter,ifs,0⟩] sc epos) (some (.Name x px)) pos.line F.env=pure true:=by rfl)
  (hs:∀ x,foldedSetIterable iter F.env x=pure x:=by intro _;rfl) :
  XS G F ρ W Rs (.Assign [.Name x px] (.ListComp elt [⟨target,iter,ifs,0⟩] sc epos) pos::rest) K:=λs S=>by
 refine TN ?_
 rw [exec_Assign_Name_used (env:=F.env) x px _ pos hsw]
 refine Sl (Tt (Sl ?_))
 show wpAny _ _ (do let _<-comprehension (.ListComp elt [⟨target,iter,ifs,0⟩] sc epos) sc F.env _ (newList []) false (eval iter F.env) (some (UE (.Name x px) F.env))) _ _ _
 refine Sl (aF (Q:=λz! s'=>St G F ((x,.lst ((L.filter c).map f))::ρ) W Rs s') (q6 rfl hok hi S
  (λcl cs D it fp wr T s₂ s₃ R I hT hfp S' hD hcl hcs hk hR=>lZ dG c f ig mO ht hel hl cl cs D it fp wr T s₂ s₃ R I hT hfp S' hD hcl hcs hk hR) (λcl D s₁ dn=>?_) hs) λz! s' S'=>Sm (Sm (h s' S')))
 refine ob1_1 dn.ES λm hn=>?_
 have E:=dn.st.enter (ak:=Rs) rfl
 refine aF (AV.name (F:=F.at Rs s₁) (.inl hx) s₁ _ E dn.rep) λ_ s₂ zz=>zz.elim λS₂ z! => ?_
 have hcl:cl∉F.muts Rs:=ko dn.st rfl (S.fresh dn.uQ)
 refine ⟨m,S₂.stp.ns dn.st.inv hcl hn,λh' hs'=>?_⟩
 have aT:=dn.st.leave S₂ rfl rfl
 refine ob1_3 (jW (S₂.stp.ns dn.st.inv hcl hn)) λo e d1 d2=>?_
 have y:aG G [cl] s₂ {s₂ with heap:=h'}:=.of_same G dn.zN e (.inr d1) hs' (t:=s₂.toks)
 have fr:=S.fresh dn.uQ
 refine aT.cN y (λa ha=>?_) (λa ha=>?_) (y.bI aT.inv λa ha=>.inr λo' e' xs n hd=>?_)
 ·have:a=cl:=by simpa using ha
  subst this;exact fr
 ·have:a=cl:=by simpa using ha
  subst this
  by_cases hX:a∈F.X
  ·exact .inr hX
  ·left
   cases e0:F.s0.heap.get? a with
   | none=>rfl
   | some o0 =>
    have:=S.stp.keep a o0 hX (bk dn.zN) e0
    rw [dn.uQ] at this;cases this
 ·have:a=cl:=by simpa using ha
  subst this
  rw [e] at e';cases e'
  exact d2 _ _ hd
end Mine
namespace Mine
open PySem PySem.W PyProof.Rows
theorem yO {α:Type} {l:List α} (h:l.length=2):∃ a b,l=[a,b]:=by
 refine ob2_2 (eO h) λa r e h1=>ob2_2 (eO h1) λb t e2 h2=>?_
 exact ⟨a,b,by rw [e,e2,len0 h2]⟩
theorem DP {α:Type} {l:List α} (h:l.length=3):∃ a b c,l=[a,b,c]:=by
 refine ob2_2 (eO h) λa r e h1=>ob2_1 (yO h1) λb c e2=>?_
 exact ⟨a,b,c,by rw [e,e2]⟩
theorem Jh {α:Type} {l:List α} (h:l.length=5):∃ a b c d e,l=[a,b,c,d,e]:=by
 refine ob2_2 (eO h) λa r e h1=>ob2_2 (eO h1) λb t e1 h2=>ob3_1 (DP h2) λc d f e2=>?_
 exact ⟨a,b,c,d,f,by rw [e,e1,e2]⟩
theorem Ni {α:Type} {l:List α} (h:l.length=6):∃ a b c d e f,l=[a,b,c,d,e,f]:=by
 refine ob2_2 (eO h) λa r e h1=>ob5_1 (Jh h1) λb c d f g e2=>?_
 exact ⟨a,b,c,d,f,g,by rw [e,e2]⟩
variable {G:Glob} {F:Fm} {ρ ρ':List (Str×PV)} {W:List Addr} {Rs ak:List Res} {s s':Shared}
structure bQ (G:Glob) (f:Addr) (fd:FuncData) (body:List Stmt):Prop where
 at_:∃ o,G.base.get? f=some o/\o.data = .func fd
 nt:f∉G.tabs
 body:fd.body = .stmts body
 code:∀ h,G.inv h->h.CodeRec fd.code fd.qualname
 glob:fd.globals=mainGlobals
 blt:fd.builtins=builtinsNs
 kind:fd.scope.kind = .function
 co:fd.scope.isCoroutine=false
 gen:fd.scope.isGenerator=false
 nd:(fd.scope.names.map (·.1)).Nodup
 free:∀ x,(x,Uu)∈fd.scope.names->∃ c,fd.closure.lookup x=some c
 KC:∀ x c,fd.closure.lookup x=some c->c<G.base.objs.size/\∀ h,G.inv h->∃ v,h.IsCell c v
noncomputable def dK (fd:FuncData) (f L:Addr):Env :=
 {scope:=fd.scope,locals:=L,globals:=fd.globals,cells:=cellsFrom (L+1) fd.scope.names fd.closure,qual:=fd.qualname++".<locals>.",func:=some f,code:=fd.code,frame:=some L,builtins:=fd.builtins}
noncomputable def eV (fd:FuncData) (f:Addr) (A:Around) (s0:Shared) (L:Addr) (n:Nat):Fm :=
 {A:=A.deeper (dK fd f L),env:=dK fd f L,s0:=s0,X:=[],n:=n,cv:=(fd.scope.names.filter λx=>x.2 == .cell).map (·.1)}
theorem cF.in1 {A:Around} {n:Nat} (r:cF A (n+1)):cF A.in1 n:=⟨r.1,by have:=r.2.1;simp;exact U6 this,by have:=r.2.2;simp;exact IM this⟩
theorem cF.deeper {A:Around} {n:Nat} {env:Env} (r:cF A (n+1)):cF (A.deeper env) n:=⟨r.1,by have:=r.2.1;simp only [Around.deeper];exact Ii this,by have:=r.2.2;simp;exact MV this⟩
theorem St.IP {A:Around} (S:St G F ρ W Rs s) (r:cF A F.n):St G {F with A:=A} ρ W Rs s:={S with room:=r}
theorem uU (F:Fm):∀ (names:List Str) (ps:List PV) (vs:List Value) (ρ:List (Str×PV)) (s:Shared),St G F ρ W Rs s->ah W s.heap ps vs->names.length=ps.length ->
  (∀ x∈names,F.env.kindOf x=some .local\/(F.env.kindOf x=some .cell/\x∈F.cv)) ->
  ∀ (f:Str×Value->PUnit->Sem (ForInStep PUnit)),(∀ n v u,f (n,v) u=(do storeName F.env n v;pure (.yield ⟨⟩))) ->
  wpAny G.M F.A (forIn (names.zip vs) ⟨⟩ f) (λz! s'=>St G F ((names.zip ps).reverse++ρ) W Rs s') (λz! z! => False) s
 | [],ps,vs,ρ,s,S,r,hl,hk,f,hf=>by
  have:ps=[]:=by cases ps <;> simp_all
  subst this
  exact Sm (by simpa using S)
 | x::names,[],vs,ρ,s,S,r,hl,hk,f,hf=>by simp at hl
 | x::names,p::ps,vs,ρ,s,S,r,hl,hk,f,hf=>by
  rw [ah] at r
  refine ob2_3 r λv vs' aA r1 r2=>?_;obtain rfl:=aA
  rw [List.zip_cons_cons,UT,hf]
  refine Sl (Sl (aF (S.store r1 (hk x (So ..))) λ_ s₁ zz=>zz.elim λS₁ k₁=>Sm ?_))
  refine aF (uU F names ps vs' _ s₁ S₁ (r2.keep k₁ λz! z! q=>q) (by simpa using hl) (λy hy=>hk y (Ss _ hy)) f hf) λz! s₂ S₂=>?_
  simpa [List.zip_cons_cons] using S₂
noncomputable def bu (fd:FuncData) (f:Addr) (A:Around) (s0:Shared) (L:Addr) (n:Nat) (X:List Addr):Fm :=
 {A:=A.deeper (dK fd f L),env:=dK fd f L,s0:=s0,X:=X,n:=n,cv:=(fd.scope.names.filter λx=>x.2 == .cell).map (·.1)}
noncomputable def jE (G:Glob) (F:Fm) (c:Code) (ρ:List (Str×PV)) (W:List Addr) (Rs:List Res) (ss:List Stmt) (K:Flow->Shared->Prop):Prop :=
 ∀ s,St G F ρ W Rs s->WE G.M F.A c (execs ss F.env) K (λz! z! => False) s
theorem jE.of {c:Code} {ss K} (h:XS G F ρ W Rs ss K):jE G F c ρ W Rs ss K:=λs S=>V2 (h s S)
theorem gK {f:Addr} {fd:FuncData} {body:List Stmt} (ok:bQ G f fd body) {A:Around} {n:Nat} (hA:cF A (n+1)) (iv:G.inv s.heap)
  (low:∀ a∈W,G.base.objs.size<=a/\∃ o,s.heap.get? a=some o) {args:Args} {names:List Str} {ps:List PV} {vs:List Value} {Q:Value->Shared->Prop}
  (hb:BindsTo s fd args (names.zip vs)) (hr:ah W s.heap ps vs) (hlen:names.length=ps.length)
  (Ru:∀ r∈Rs,r.holds W s.heap) (NV:∀ r∈Rs,∀ a∈r.addrs,a∈W) (Rv:(Rs.flatMap (·.addrs)).Nodup)
  (hnm:∀ x∈names,fd.scope.names.lookup x=some .local\/fd.scope.names.lookup x=some .cell)
  (h:jE G (bu fd f A s s.heap.objs.size n (Rs.flatMap (·.addrs))) (.func body (dK fd f s.heap.objs.size)) (names.zip ps).reverse W Rs body (λfl s'=>Q (match fl with | .ret v=>v | _=>.none) s')) :
  codeAny G.M A (.call (.ref f) args) (λr s'=>match r with | .ok (.ret v)=>Q v s' | _=>False) s:=by
 refine ob1_2 ok.at_ λo ho hd=>?_
 have hbz:=aS iv
 refine codeAny_call_function (by have:=hA.2.1;show A.depth<1000;exact MT this) (G.vZ _ iv f o ho ok.nt) hd ok.co ok.gen ok.body (ok.code _ iv) (hb _ _ _ _ ?_)
 unfold newFunctionEnv
 refine Sl (wpAny_alloc (o:={cls:=.type "frame",data:=.dict #[]}) (Sl ?_))
 refine wpAny_layCells _ (λname kind cells=>rfl) fd.scope.names fd.closure _ _ ?_
 have z1:(s.heap.push {cls:=.type "frame",data:=.dict #[]}).objs.size=s.heap.objs.size+1:=TQ ..
 generalize hh:pushCells (s.heap.push {cls:=.type "frame",data:=.dict #[]}) fd.scope.names=h₁
 have k1:∀ b o,(s.heap.push {cls:=.type "frame",data:=.dict #[]}).get? b=some o->h₁.get? b=some o:=λb o e=>by rw [<- hh];exact pushCells_keeps _ _ _ _ e
 have k:∀ b o,s.heap.get? b=some o->h₁.get? b=some o:=λb o e=>k1 _ _ (Sw _ e)
 have lay:=eS fd.scope.names (s.heap.push {cls:=.type "frame",data:=.dict #[]}) fd.closure ok.nd (λx c e=>by
  rw [z1];exact Tu (Su (ok.KC x c e).1 hbz))
 rw [z1,hh] at lay
 have lV:∀ x c,(cellsFrom (s.heap.objs.size+1) fd.scope.names fd.closure).lookup x=some c ->
   (s.heap.objs.size+1<=c/\h₁.IsCell c none/\(x,Um)∈fd.scope.names)\/fd.closure.lookup x=some c:=λx c e=>by
  by_cases hx:(x,Um)∈fd.scope.names
  ·refine ob1_3 (lay.1 x hx) λc' h1 h2 h3=>?_
   rw [e] at h1;cases h1
   exact .inl ⟨h2,h3,hx⟩
  ·rw [lay.2.1 x hx] at e
   exact .inr e
 have Pe:∀ c,s.heap.get? c=none->c∉W:=λc hc hm=>by
  refine ob0_2 (low c hm) λz! az=>ob1_1 az λo e=>?_
  rw [hc] at e;cases e
 have S₁:St G {bu fd f A s s.heap.objs.size n (Rs.flatMap (·.addrs)) with A:=A.in1} [] W Rs {s with heap:=h₁} :=
  {inv:=G.yR _ _ iv k
   stp:=(aG.of_keeps G k (t:=s.toks)).up
   room:=hA.in1
   kind:=ok.kind
   glob:=ok.glob
   blt:=ok.blt
   loc:=⟨_,(Heap.Ns.new s.heap (.type "frame")).keeps k1⟩
   cells:=λx c e=>by
    rcases lV x c e with ⟨_,h,_⟩ | h
    ·exact ⟨_,h⟩
    ·exact (ok.KC x c h).2 _ (G.yR _ _ iv k)
   jB:=λx hx=>by
    show ∃ c,(cellsFrom (s.heap.objs.size+1) fd.scope.names fd.closure).lookup x=some c
    rcases hx with hx | hx
    ·refine ob1_2 (lay.1 x (lookup_mem hx)) λc h1 z! => ?_
     exact ⟨c,h1⟩
    ·have hl:fd.scope.names.lookup x=some .free:=hx
     have hnc:(x,Um)∉fd.scope.names:=λhm=>by rw [mem_lookup ok.nd hm] at hl;cases hl
     refine ob1_1 (ok.free x (lookup_mem hl)) λc hc=>?_
     exact ⟨c,by rw [lay.2.1 x hnc,hc]⟩
   own:=λx hx=>by
    refine ob1_2 (S7.mp hx) λbM hy aA=>?_;obtain ⟨y,kk⟩:=bM;obtain rfl:=aA
    rw [W4] at hy
    have hk:kk = .cell:=Vc hy.2
    subst hk
    refine ob1_3 (lay.1 y hy.1) λc h1 h2 h3=>?_
    exact ⟨c,h1,.inl (bC (SE h2)),Sn hbz (SE h2),λz hz=>lay.2.2 z y c hz h1 h2⟩
   vars:=λx p e=>by cases e
   gx:=⟨.inl (bV _),hbz⟩
   lW:=Pe _ (bV _)
   cW:=λx c e hm=>by
    rcases lV x c e with ⟨h,_⟩ | h
    ·exact Pe c (bC (SE h)) hm
    ·exact Tc _ (Su (ok.KC x c h).1 (low c hm).1)
   low:=λa ha=>(low a ha).imp_right λh_=>h_.imp λo e=>k _ _ e
   new:=λr hr a ha=>⟨NV r hr a ha,.inr (SX.mpr ⟨r,hr,ha⟩)⟩
   res:=λr hr=>r.keep W W _ _ (Ru r hr) (λa z! o e=>k _ _ e) ⟨λ_ _ _ zz=>zz.elim λn e=>⟨n,k _ _ e⟩,λ_ _ _ zz=>zz.elim λn e=>⟨n,k _ _ e⟩⟩ λz! z! q=>q
   apart:=Rv}
 rw [show ({s with heap:=s.heap.push {cls:=.type "frame",data:=.dict #[]}}:Shared).heap.objs.size=s.heap.objs.size+1 from z1]
 refine Sl (aF (uU (G:=G) {bu fd f A s s.heap.objs.size n (Rs.flatMap (·.addrs)) with A:=A.in1} names ps vs [] {s with heap:=h₁} S₁ (hr.keep ⟨λ_ _ _ zz=>zz.elim λn e=>⟨n,k _ _ e⟩,λ_ _ _ zz=>zz.elim λn e=>⟨n,k _ _ e⟩⟩ λz! z! q=>q) hlen (λx hx=>?_) _ (λn v u=>rfl)) λz! s₂ S₂=>?_)
 ·rcases hnm x hx with hl | hl
  ·exact .inl hl
  ·exact .inr ⟨hl,S7.mpr ⟨(x,.cell),W4.mpr ⟨lookup_mem hl,rfl⟩,rfl⟩⟩
 ·refine Sm ⟨G.Ba _ S₂.inv,ks_codeAny_funcAt ?_⟩
  have aT:St G (bu fd f A s s.heap.objs.size n (Rs.flatMap (·.addrs))) (names.zip ps).reverse W Rs s₂:=by
   have bZ:St G {bu fd f A s s.heap.objs.size n (Rs.flatMap (·.addrs)) with A:=A.in1} (names.zip ps).reverse W Rs s₂:=by simpa using S₂
   exact bZ.IP (A:=A.deeper (dK fd f s.heap.objs.size)) hA.deeper
  exact ks_wpAt_mono (h s₂ aT) (λfl s₃ q=>q) λz! z! z=>z.elim
theorem Bm {f:Addr} {fd:FuncData} {body:List Stmt} (ok:bQ G f fd body) {A:Around} {n:Nat} (hA:cF A (n+1)) (iv:G.inv s.heap)
  (low:∀ a∈W,G.base.objs.size<=a/\∃ o,s.heap.get? a=some o) {args:Args} {names:List Str} {ps:List PV} {vs:List Value} {Q:Value->Shared->Prop}
  (hb:BindsTo s fd args (names.zip vs)) (hr:ah W s.heap ps vs) (hlen:names.length=ps.length)
  (hnm:∀ x∈names,fd.scope.names.lookup x=some .local\/fd.scope.names.lookup x=some .cell)
  (h:XS G (eV fd f A s s.heap.objs.size n) (names.zip ps).reverse W [] body (λfl s'=>Q (match fl with | .ret v=>v | _=>.none) s')) :
  codeAny G.M A (.call (.ref f) args) (λr s'=>match r with | .ok (.ret v)=>Q v s' | _=>False) s :=
 gK (Rs:=[]) ok hA iv low hb hr hlen (λz! h=>absurd h Tq) (λz! h=>absurd h Tq) .nil hnm (.of h)
noncomputable def FC (G:Glob) (f:Addr) (n:Nat) (ps:List PV) (q:PV):Prop :=
 ∀ A W s vs,cF A n->G.inv s.heap->(∀ a∈W,G.base.objs.size<=a/\∃ o,s.heap.get? a=some o)->ah W s.heap ps vs ->
  wpAny G.M A (call (.ref f) vs) (λv s'=>aG G [] s s'/\Rep W s'.heap q v) (λz! z! => False) s
theorem FC.of {f:Addr} {fd:FuncData} {body:List Stmt} (ok:bQ G f fd body) {names:List Str} {ps ps':List PV} {q:PV} {n:Nat}
  (hb:∀ s W vs,G.inv s.heap->ah W s.heap ps vs->∃ vs',BindsTo s fd ⟨vs,[]⟩ (names.zip vs')/\ah W s.heap ps' vs') (hlen:names.length=ps'.length)
  (hnm:∀ x∈names,fd.scope.names.lookup x=some .local\/fd.scope.names.lookup x=some .cell)
  (h:∀ A W s L,cF A (n+1)->XS G (eV fd f A s L n) (names.zip ps').reverse W [] body (λfl s'=>aG G [] s s'/\Rep W s'.heap q (match fl with | .ret v=>v | _=>.none))) :
  FC G f (n+1) ps q:=λA W s vs hA iv low rs=>by
 refine ob1_2 (hb s W vs iv rs) λvs' hb' rs'=>?_
 refine UO (Wf (Bm (Q:=λv s'=>aG G [] s s'/\Rep W s'.heap q v) ok hA iv low hb' rs' hlen hnm (h A W s s.heap.objs.size hA)) λr s' hr=>?_)
 match r,hr with
 | .ok (.ret v),hr=>exact hr
 | .ok .next,hr=>exact hr.elim
 | .ok .brk,hr=>exact hr.elim
 | .ok .cont,hr=>exact hr.elim
 | .error e,hr=>exact hr.elim
theorem EV.q_ {x:Str} {p pos:Pos} {e:Sp} {es:List Sp} {ps:List PV} {q:PV} {f:Addr} {fd:FuncData} {body:List Stmt} {n:Nat}
  (hf:EV G F ρ W Rs (.Name x p) (.raw (.ref f))) (ok:bQ G f fd body) (hc:FC G f n ps q) (hn:n<=F.n) (ha:aW G F ρ W Rs (e::es) ps)
  (hst:backTo pos (starEach (e::es) F.env)=(e::es).map (λe=>(false,eval e F.env)):=by rfl) :
  EV G F ρ W Rs (.Call (.Name x p) (e::es) [] pos) q:=λs S=>by
 rw [VM]
 refine Sl (aF (hf s S) λv s₁ zz=>zz.elim λy r=>?_)
 rw [Rep] at r
 subst r
 rw [hst]
 refine ob1_2 ok.at_ λo ho hd=>?_
 refine XT (o:=o) (fd:=fd) (TF (aF (ha s₁ (S.step y)) λvs s₂ zz=>zz.elim λz rs=>?_))
 have S₂:=(S.step y).step z
 exact ⟨⟨G.vZ _ S₂.inv f o ho ok.nt,hd⟩,aF (hc F.A W s₂ vs (S₂.room.mono hn) S₂.inv S₂.low rs) λv s₃ zz=>zz.elim λu r=>⟨y.trans (z.trans u),r⟩⟩
end Mine
namespace Mine
open PySem PySem.W PyProof.Rows
variable {G:Glob} {F:Fm} {ρ ρ':List (Str×PV)} {W:List Addr} {Rs ak:List Res} {s s':Shared}
noncomputable abbrev Gv (G:Glob) (A:Around) (W:List Addr) (t:Sem Value) (q:PV) (s:Shared):Prop :=
 wpAny G.M A t (λv s'=>aG G [] s s'/\Rep W s'.heap q v) (λz! z! => False) s
theorem EV.gX {id:String} {x:Str} {p pos:Pos} {e:Sp} {es:List Sp} {ps:List PV} {q:PV}
  (hf:EV G F ρ W Rs (.Name x p) (.raw (.builtin id))) (ha:aW G F ρ W Rs (e::es) ps)
  (h:∀ s vs,St G F ρ W Rs s->ah W s.heap ps vs->Gv G F.A W (call (.builtin id) vs) q s)
  (hst:backTo pos (starEach (e::es) F.env)=(e::es).map (λe=>(false,eval e F.env)):=by rfl) :
  EV G F ρ W Rs (.Call (.Name x p) (e::es) [] pos) q:=λs S =>
 xq hf ha S (hst:=hst) λs₁ vs y S₁ rs=>aF (h s₁ vs S₁ rs) λv s₂ zz=>zz.elim λz r=>⟨y.trans z,r⟩
theorem EV.C0 {id:String} {x:Str} {p pos:Pos} {e:Sp} {es:List Sp} {ps:List PV} {q:PV}
  (hf:EV G F ρ W Rs (.Name x p) (.raw (.type id))) (ha:aW G F ρ W Rs (e::es) ps)
  (h:∀ s vs,St G F ρ W Rs s->ah W s.heap ps vs->Gv G F.A W (call (.type id) vs) q s)
  (hst:backTo pos (starEach (e::es) F.env)=(e::es).map (λe=>(false,eval e F.env)):=by rfl) :
  EV G F ρ W Rs (.Call (.Name x p) (e::es) [] pos) q:=λs S =>
 f5 hf ha S (hst:=hst) λs₁ vs y S₁ rs=>aF (h s₁ vs S₁ rs) λv s₂ zz=>zz.elim λz r=>⟨y.trans z,r⟩
theorem Et {xs:List PV}:∀ s vs,St G F ρ W Rs s->ah W s.heap [.lst xs] vs->Gv G F.A W (call (.builtin "len") vs) (.int xs.length) s:=λs vs S rs=>by
 refine ob1_2 rs.one λv aC r=>?_;obtain rfl:=aC
 refine ob0_2 r.dY λhl az=>ob2_4 az λa us bq ha aY ru=>?_;obtain rfl:=bq;refine ob1_1 aY λn e=>?_
 have hz:=ru.length
 refine PySem.Calls.call_len_list (items:=us.toArray) ⟨_,e,rfl,n,rfl⟩ ?_ ?_
 ·rw [T5,hz]
  exact oU hl
 ·simp only [T5,hz]
  exact ⟨.of_toks G,Rep.int⟩
theorem Es {x:Str}:∀ s vs,St G F ρ W Rs s->ah W s.heap [.str x] vs->Gv G F.A W (call (.builtin "len") vs) (.int x.length) s:=λs vs S rs=>by
 refine ob1_2 rs.one λv aC r=>?_;obtain rfl:=aC
 refine ob0_2 r.isStr λhl az=>ob1_1 az λt bh=>?_;obtain rfl:=bh
 exact PySem.P.len_str (qL hl) ⟨.of_toks G,Rep.int⟩
theorem EV.sW {x:Str} {p pos:Pos} {e:Sp} {xs:List PV} (hf:EV G F ρ W Rs (.Name x p) (.raw (.builtin "len"))) (h:EV G F ρ W Rs e (.lst xs))
  (hst:backTo pos (starEach [e] F.env)=[e].map (λe=>(false,eval e F.env)):=by rfl):EV G F ρ W Rs (.Call (.Name x p) [e] [] pos) (.int xs.length) :=
 EV.gX hf (.cons h .nil) Et hst
theorem EV.Jg {x:Str} {p pos:Pos} {e:Sp} {y:Str} (hf:EV G F ρ W Rs (.Name x p) (.raw (.builtin "len"))) (h:EV G F ρ W Rs e (.str y))
  (hst:backTo pos (starEach [e] F.env)=[e].map (λe=>(false,eval e F.env)):=by rfl):EV G F ρ W Rs (.Call (.Name x p) [e] [] pos) (.int y.length) :=
 EV.gX hf (.cons h .nil) Es hst
theorem ah.ints {h:Heap}:∀ {xs:List Int} {vs},ah W h (xs.map .int) vs->∃ ys:List (Int×Tok),vs=ys.map (λp=>XU p.1 p.2)/\ys.map (·.1)=xs
 | [],vs,r=>by rw [VG,ah] at r;subst r;exact ⟨[],rfl,rfl⟩
 | x::xs,vs,r=>by
  rw [S_,ah] at r
  refine ob2_3 r λv vs' aA r1 r2=>?_;obtain rfl:=aA
  refine ob1_1 r1.isInt λt aC=>?_;obtain rfl:=aC
  refine ob1_2 (ah.ints r2) λys aC aA=>?_;obtain rfl:=aC;obtain rfl:=aA
  exact ⟨(x,t)::ys,rfl,rfl⟩
theorem gp (ys:List (Int×Tok)):∀ k,k<=ys.length->preSum (numAt ys.toArray) k=((ys.map (·.1)).take k).sum
 | 0,_=>by simp [preSum]
 | k+1,hk=>by
  rw [preSum,gp ys k (by exact SE hk)]
  have hlt:k<ys.length:=by exact TH (SN hk)
  rw [TX]
  simp [numAt,hlt,List.sum_append]
theorem Ke {xs:List Int} (hf:∀ k,k<=xs.length->InLong (xs.take k).sum) (hi:∀ i∈xs,InLong i):∀ s vs,St G F ρ W Rs s->ah W s.heap [.lst (xs.map .int)] vs->Gv G F.A W (call (.builtin "sum") vs) (.int xs.sum) s:=λs vs S rs=>by
 refine ob1_2 rs.one λv aC r=>?_;obtain rfl:=aC
 refine ob0_2 r.dY λhl az=>ob2_4 az λa us bq ha aY ru=>?_;obtain rfl:=bq;refine ob1_1 aY λn e=>?_
 refine ob1_2 ru.ints λys aC aA=>?_;obtain rfl:=aC;obtain rfl:=aA
 refine sum_intList (xs:=ys.toArray) S.room.1 ⟨_,e,rfl,n,by simp [intItems]⟩ (λj hj=>?_) λh' tk t' hk=>?_
 ·have hj':j<ys.length:=by simpa using hj
  refine ⟨hi _ ?_,?_⟩
  ·simp only [numAt]
   rw [show ys.toArray[j]? = some ys[j] by simp [hj']]
   exact S7.mpr ⟨ys[j],UW _,rfl⟩
  ·rw [gp ys (j+1) (by exact Tj hj')]
   exact hf _ (by simp;exact Tj hj')
 ·refine ⟨.of_keeps G hk,?_⟩
  rw [gp ys _ (by simp)]
  simp only [T5]
  rw [UP (by simp)]
  exact Rep.int
noncomputable def A4 (xs:List Int):Int:=xs.tail.foldl max (xs.headD 0)
noncomputable def yD (xs:List Int):Int:=xs.tail.foldl min (xs.headD 0)
theorem tC {op:Int->Int->Int} (x:Int) (xs:List Int) (k:Nat) (hk:k<xs.length):(xs.take (k+1)).foldl op x=op ((xs.take k).foldl op x) xs[k]:=by
 rw [show xs.take (k+1)=xs.take k++[xs[k]] from (List.take_append_getElem hk).symm,Vk];rfl
theorem fL {bt:Int->Int->Bool} {pick:Int->Int->Int} (hp:∀ a b,pick a b=if bt b a=true then b else a) (y:Int×Tok) (ys:List (Int×Tok)):∀ k,k<=ys.length ->
  numAt (y::ys).toArray (argBest (λi j=>bt (numAt (y::ys).toArray i) (numAt (y::ys).toArray j)) k)=((ys.map (·.1)).take k).foldl pick y.1
 | 0,z! => rfl
 | k+1,hk=>by
  have hn:numAt (y::ys).toArray (k+1)=ys[k].1:=by
   unfold numAt
   rw [W7,List.getElem?_cons_succ,SW hk];rfl
  rw [tC _ _ _ (by rw [Sq];exact hk),List.getElem_map,<- fL hp y ys k (SE hk),hp,<- hn,argBest]
  by_cases h:bt (numAt (y::ys).toArray (k+1)) (numAt (y::ys).toArray (argBest (λi j=>bt (numAt (y::ys).toArray i) (numAt (y::ys).toArray j)) k))=true
  ·rw [if_pos h,if_pos h]
  ·rw [if_neg h,if_neg h]
theorem take_all {ys:List (Int×Tok)} {k:Nat} (h:k=ys.length - 1) (op:Int->Int->Int):∀ hn:ys≠[],∃ y r,ys=y::r/\k<=r.length/\((r.map (·.1)).take k).foldl op y.1=(ys.map (·.1)).tail.foldl op ((ys.map (·.1)).headD 0):=λhn=>by
 cases ys with
 | nil=>exact absurd rfl hn
 | cons y r =>
  have hk:k=r.length:=h
  exact ⟨y,r,rfl,SI hk,by rw [UP (by rw [Sq];exact SI hk.symm)];rfl⟩
theorem rD {ys:List (Int×Tok)} (hn:ys≠[]):numAt ys.toArray (argBest (λi j=>decide (numAt ys.toArray i > numAt ys.toArray j)) (ys.length - 1))=A4 (ys.map (·.1)):=by
 refine ob2_3 (take_all rfl max hn) λy r e hk h=>?_
 subst e
 refine (fL (bt:=λa b=>decide (a > b)) (λa b=>?_) y r _ hk).trans h
 by_cases hb:b > a
 ·rw [if_pos (decide_eq_true hb)];exact Int.max_eq_right (XY hb)
 ·rw [if_neg λx=>hb (of_decide_eq_true x)];exact Int.max_eq_left (WW.mp hb)
theorem rC {ys:List (Int×Tok)} (hn:ys≠[]):numAt ys.toArray (argBest (λi j=>decide (numAt ys.toArray i<numAt ys.toArray j)) (ys.length - 1))=yD (ys.map (·.1)):=by
 refine ob2_3 (take_all rfl min hn) λy r e hk h=>?_
 subst e
 refine (fL (bt:=λa b=>decide (a<b)) (λa b=>?_) y r _ hk).trans h
 by_cases hb:b<a
 ·rw [if_pos (decide_eq_true hb)];exact Int.min_eq_right (XY hb)
 ·rw [if_neg λx=>hb (of_decide_eq_true x)];exact Int.min_eq_left (WW.mp hb)
theorem Er {xs:List Int} (hn:xs≠[]):∀ s vs,St G F ρ W Rs s->ah W s.heap [.lst (xs.map .int)] vs->Gv G F.A W (call (.builtin "max") vs) (.int (A4 xs)) s:=λs vs S rs=>by
 refine ob1_2 rs.one λv aC r=>?_;obtain rfl:=aC
 refine ob0_2 r.dY λhl az=>ob2_4 az λa us bq ha aY ru=>?_;obtain rfl:=bq;refine ob1_1 aY λn e=>?_
 refine ob1_2 ru.ints λys aC aA=>?_;obtain rfl:=aC;obtain rfl:=aA
 have hy:ys≠[]:=λh=>hn (congrArg _ h)
 refine max_intList (xs:=ys.toArray) S.room.1 ⟨_,e,rfl,n,by simp [intItems]⟩ (V_.mpr hy) λv h' tk hv hk=>⟨.of_keeps G hk,?_⟩
 refine ob1_1 (intItems_at hv) λt e'=>?_
 subst e'
 rewrite [<- rD hy]
 exact Rep.int
theorem Eo {xs:List Int} (hn:xs≠[]):∀ s vs,St G F ρ W Rs s->ah W s.heap [.lst (xs.map .int)] vs->Gv G F.A W (call (.builtin "min") vs) (.int (yD xs)) s:=λs vs S rs=>by
 refine ob1_2 rs.one λv aC r=>?_;obtain rfl:=aC
 refine ob0_2 r.dY λhl az=>ob2_4 az λa us bq ha aY ru=>?_;obtain rfl:=bq;refine ob1_1 aY λn e=>?_
 refine ob1_2 ru.ints λys aC aA=>?_;obtain rfl:=aC;obtain rfl:=aA
 have hy:ys≠[]:=λh=>hn (congrArg _ h)
 refine min_intList (xs:=ys.toArray) S.room.1 ⟨_,e,rfl,n,by simp [intItems]⟩ (V_.mpr hy) λv h' tk hv hk=>⟨.of_keeps G hk,?_⟩
 refine ob1_1 (intItems_at hv) λt e'=>?_
 subst e'
 rewrite [<- rC hy]
 exact Rep.int
theorem tu {i j:Int}:∀ s vs,St G F ρ W Rs s->ah W s.heap [.int i,.int j] vs->Gv G F.A W (call (.builtin "max") vs) (.int (max i j)) s:=λs vs S rs=>by
 refine ob2_3 rs.two λv u aA r1 r2=>?_;obtain rfl:=aA
 refine ob1_1 r1.isInt λt aC=>?_;obtain rfl:=aC
 refine ob1_1 r2.isInt λt' aC=>?_;obtain rfl:=aC
 refine max_two_ints S.room.1 λh' tk hk=>⟨.of_keeps G hk,?_⟩
 by_cases h:j > i
 ·rw [if_pos h,Int.max_eq_right (XY h)];exact Rep.int
 ·rw [if_neg h,Int.max_eq_left (WW.mp h)];exact Rep.int
theorem Ep {i j:Int}:∀ s vs,St G F ρ W Rs s->ah W s.heap [.int i,.int j] vs->Gv G F.A W (call (.builtin "min") vs) (.int (min i j)) s:=λs vs S rs=>by
 refine ob2_3 rs.two λv u aA r1 r2=>?_;obtain rfl:=aA
 refine ob1_1 r1.isInt λt aC=>?_;obtain rfl:=aC
 refine ob1_1 r2.isInt λt' aC=>?_;obtain rfl:=aC
 refine min_two_ints S.room.1 λh' tk hk=>⟨.of_keeps G hk,?_⟩
 by_cases h:j<i
 ·rw [if_pos h,Int.min_eq_right (XY h)];exact Rep.int
 ·rw [if_neg h,Int.min_eq_left (WW.mp h)];exact Rep.int
theorem EV.nC {o:Sp} {es:List Sp} {name:Str} {id:String} {apos pos:Pos} {x:Str} {ps:List PV} {q:PV} (ho:EV G F ρ W Rs o (.str x)) (ha:aW G F ρ W Rs es ps)
  (slot:Slot "str" name id) (ty:typeOf (.builtin id)=pure (.type "method_descriptor"))
  (h:∀ s t vs,St G F ρ W Rs s->x.length<=lim->ah W s.heap ps vs->Gv G F.A W (call (.builtin id) (.str x t::vs)) q s)
  (hne:es≠[]:=by simp)
  (hbase:attributeBase o name F.env (eval o F.env)=eval o F.env:=by rfl)
  (hfew:((backTo pos (starEach es F.env)).all (λx => !x.1) && (backToKw pos (keywordEach [] F.env)).all (λx=>x.1.isSome)
   && decide (es.length+([]:List Keyword).length+(if ([]:List Keyword).isEmpty then 0 else 1)<30))=true:=by rfl)
  (hst:backTo pos (starEach es F.env)=es.map (λe=>(false,eval e F.env)):=by rfl)
  (hline:(apos.endLine == pos.line)=true:=by rfl) :
  EV G F ρ W Rs (.Call (.Attribute o name apos) es [] pos) q:=λs S=>by
 obtain ⟨e,es',rfl⟩:∃ e es',es=e::es':=by cases es with | nil=>exact absurd rfl hne | cons a b=>exact ⟨a,b,rfl⟩
 refine Ut hbase hfew hline (aF (ho s S) λv s₁ zz=>zz.elim λy r=>?_)
 refine ob0_2 r.isStr λhl az=>ob1_1 az λt bh=>?_;obtain rfl:=bh
 rw [hst]
 refine ⟨"str",id,Wg,slot,ty,Wv _ _ _,(λz! e=>nomatch e),?_⟩
 refine TM (noStar _) ?_
 exact TF (aF (ha s₁ (S.step y)) λvs s₂ zz=>zz.elim λz rs=>aF (h s₂ t vs ((S.step y).step z) hl rs) λv s₃ zz=>zz.elim λu ru=>⟨y.trans (z.trans u),ru⟩)
end Mine
namespace Mine
open PySem PySem.W PyProof.Rows
variable {G:Glob} {F:Fm} {ρ ρ':List (Str×PV)} {W:List Addr} {Rs ak:List Res} {s s':Shared}
theorem EV.DL {o:Sp} {name:Str} {id:String} {apos pos:Pos} {x:Str} {q:PV} (ho:EV G F ρ W Rs o (.str x))
  (slot:Slot "str" name id) (ty:typeOf (.builtin id)=pure (.type "method_descriptor"))
  (h:∀ s t,St G F ρ W Rs s->x.length<=lim->Gv G F.A W (call (.builtin id) [.str x t]) q s)
  (hbase:attributeBase o name F.env (eval o F.env)=eval o F.env:=by rfl)
  (hline:(apos.endLine == pos.line)=true:=by rfl) :
  EV G F ρ W Rs (.Call (.Attribute o name apos) [] [] pos) q:=λs S=>by
 refine Ut hbase rfl hline (aF (ho s S) λv s₁ zz=>zz.elim λy r=>?_)
 refine ob0_2 r.isStr λhl az=>ob1_1 az λt bh=>?_;obtain rfl:=bh
 refine ⟨"str",id,Wg,slot,ty,Wv _ _ _,(λz! e=>nomatch e),?_⟩
 refine TM rfl ?_
 exact PySem.evalArgs_none (aF (h s₁ t (S.step y) hl) λv s₃ zz=>zz.elim λu ru=>⟨y.trans u,ru⟩)
theorem EV.Jb {o:Sp} {es:List Sp} {name:Str} {id:String} {apos pos:Pos} {xs:List PV} {ps:List PV} {q:PV} (ho:EV G F ρ W Rs o (.lst xs)) (ha:aW G F ρ W Rs es ps)
  (slot:Slot "list" name id) (ty:typeOf (.builtin id)=pure (.type "method_descriptor"))
  (h:∀ s v vs,St G F ρ W Rs s->Rep W s.heap (.lst xs) v->ah W s.heap ps vs->Gv G F.A W (call (.builtin id) (v::vs)) q s)
  (hne:es≠[]:=by simp)
  (hbase:attributeBase o name F.env (eval o F.env)=eval o F.env:=by rfl)
  (hfew:((backTo pos (starEach es F.env)).all (λx => !x.1) && (backToKw pos (keywordEach [] F.env)).all (λx=>x.1.isSome)
   && decide (es.length+([]:List Keyword).length+(if ([]:List Keyword).isEmpty then 0 else 1)<30))=true:=by rfl)
  (hst:backTo pos (starEach es F.env)=es.map (λe=>(false,eval e F.env)):=by rfl)
  (hline:(apos.endLine == pos.line)=true:=by rfl) :
  EV G F ρ W Rs (.Call (.Attribute o name apos) es [] pos) q:=λs S=>by
 obtain ⟨e,es',rfl⟩:∃ e es',es=e::es':=by cases es with | nil=>exact absurd rfl hne | cons a b=>exact ⟨a,b,rfl⟩
 refine Ut hbase hfew hline (aF (ho s S) λv s₁ zz=>zz.elim λy r=>?_)
 refine ob0_2 r.dY λhl az=>ob2_4 az λa us bq hW aY ru=>?_;obtain rfl:=bq;refine ob1_1 aY λn e1=>?_
 rw [hst]
 refine ⟨"list",id,XW,slot,ty,⟨_,e1,rfl⟩,(λa' e=>by cases e;exact ⟨_,e1,rfl⟩),?_⟩
 refine TM (noStar _) ?_
 exact TF (aF (ha s₁ (S.step y)) λvs s₂ zz=>zz.elim λz rs=>aF (h s₂ _ vs ((S.step y).step z) (z.rep0 (y.inv S.inv) r) rs) λv s₃ zz=>zz.elim λu ru=>⟨y.trans (z.trans u),ru⟩)
theorem ah.strs {h:Heap}:∀ {xs:List Str} {vs},ah W h (xs.map .str) vs->StrsAre vs xs
 | [],vs,r=>by rw [VG,ah] at r;subst r;exact .nil
 | x::xs,vs,r=>by
  rw [S_,ah] at r
  refine ob2_3 r λv vs' aA r1 r2=>?_;obtain rfl:=aA
  refine ob0_2 r1.isStr λz! az=>ob1_1 az λt bh=>?_;obtain rfl:=bh
  exact .cons x t (ah.strs r2)
theorem ah.ofStrs {h:Heap}:∀ (l:List (Str×Tok)),(∀ x∈l,x.1.length<=lim)->ah W h ((l.map (·.1)).map .str) (strValues l)
 | [],_=>by rw [VG,VG,ah];rfl
 | (x,t)::l,hl=>by
  rw [S_,S_,ah]
  exact ⟨.str x t,strValues l,rfl,Rep.str (hl _ (So ..)),ah.ofStrs l λy hy=>hl y (Ss _ hy)⟩
theorem Eu {sep:Str} {ys:List Str} (hb:(ys.map (·.length)).sum+ys.length * sep.length<=lim):∀ s t vs,St G F ρ W Rs s->sep.length<=lim->ah W s.heap [.lst (ys.map .str)] vs ->
  Gv G F.A W (call (.builtin "str.join") (.str sep t::vs)) (.str (SP sep ys)) s:=λs t vs S z! rs=>by
 refine ob1_2 rs.one λv aC r=>?_;obtain rfl:=aC
 refine ob0_2 r.dY λhl az=>ob2_4 az λa us bq ha aY ru=>?_;obtain rfl:=bq;refine ob1_1 aY λn e=>?_
 refine join_list (items:=us.toArray) (ys:=ys) ⟨_,e,rfl,n,rfl⟩ (by simpa using ru.strs) (Sn hb (by decide)) λt' k=>?_
 have:=X0 sep ys
 rw [show Txt.join sep ys=SP sep ys from Wz sep ys]
 refine ⟨.of_toks G,Rep.str ?_⟩
 exact Sn this hb
theorem EV.join {o e:Sp} {apos pos:Pos} {sep:Str} {ys:List Str} (ho:EV G F ρ W Rs o (.str sep)) (h:EV G F ρ W Rs e (.lst (ys.map .str))) (hb:(ys.map (·.length)).sum+ys.length * sep.length<=lim)
  (hbase:attributeBase o "join" F.env (eval o F.env)=eval o F.env:=by rfl)
  (hfew:((backTo pos (starEach [e] F.env)).all (λx => !x.1) && (backToKw pos (keywordEach [] F.env)).all (λx=>x.1.isSome)
   && decide ([e].length+([]:List Keyword).length+(if ([]:List Keyword).isEmpty then 0 else 1)<30))=true:=by rfl)
  (hst:backTo pos (starEach [e] F.env)=[e].map (λe=>(false,eval e F.env)):=by rfl)
  (hline:(apos.endLine == pos.line)=true:=by rfl) :
  EV G F ρ W Rs (.Call (.Attribute o "join" apos) [e] [] pos) (.str (SP sep ys)) :=
 EV.nC ho (.cons h .nil) W8 W9 (Eu hb) (by simp) hbase hfew hst hline
theorem Bh {x y:Str}:∀ s t vs,St G F ρ W Rs s->x.length<=lim->ah W s.heap [.str y] vs->Gv G F.A W (call (.builtin "str.count") (.str x t::vs)) (.int (Vo x y)) s:=λs t vs S z! rs=>by
 refine ob1_2 rs.one λv aC r=>?_;obtain rfl:=aC
 refine ob0_2 r.isStr λhl az=>ob1_1 az λu bh=>?_;obtain rfl:=bh
 exact SC.count ⟨.of_toks G,Rep.int⟩
theorem EV.count {o e:Sp} {apos pos:Pos} {x y:Str} (ho:EV G F ρ W Rs o (.str x)) (h:EV G F ρ W Rs e (.str y))
  (hbase:attributeBase o "count" F.env (eval o F.env)=eval o F.env:=by rfl)
  (hfew:((backTo pos (starEach [e] F.env)).all (λx => !x.1) && (backToKw pos (keywordEach [] F.env)).all (λx=>x.1.isSome)
   && decide ([e].length+([]:List Keyword).length+(if ([]:List Keyword).isEmpty then 0 else 1)<30))=true:=by rfl)
  (hst:backTo pos (starEach [e] F.env)=[e].map (λe=>(false,eval e F.env)):=by rfl)
  (hline:(apos.endLine == pos.line)=true:=by rfl) :
  EV G F ρ W Rs (.Call (.Attribute o "count" apos) [e] [] pos) (.int (Vo x y)) :=
 EV.nC ho (.cons h .nil) PySem.F.slot_str_count PySem.F.type_str_count Bh (by simp) hbase hfew hst hline
theorem uA {x y:Str} (hy:(y.length == 0)=false) (hp:∀ z∈V3 x y,z.length<=lim) (hn:(V3 x y).length<=lim)
  (hn':(Vq x (U7 x y 0 x.length (x.length+1)) y.length).length<=sizeLine):∀ s t vs,St G F ρ W Rs s->x.length<=lim->ah W s.heap [.str y] vs ->
  Gv G F.A W (call (.builtin "str.split") (.str x t::vs)) (.lst ((V3 x y).map .str)) s:=λs t vs S hx rs=>by
 refine ob1_2 rs.one λv aC r=>?_;obtain rfl:=aC
 refine ob0_2 r.isStr λhl az=>ob1_1 az λu bh=>?_;obtain rfl:=bh
 have fin:∀ (l:List (Str×Tok)) (k:Nat),l.map (·.1)=V3 x y->aG G [] s {s with heap:=s.heap.push {cls:=.type "list",data:=.seq (strValues l).toArray},toks:=k} /\
   Rep W (s.heap.push {cls:=.type "list",data:=.seq (strValues l).toArray}) (.lst ((V3 x y).map .str)) (.ref s.heap.objs.size):=λl k e=>by
  refine ⟨.bO G,?_⟩
  rw [Rep]
  refine ⟨by simpa using hn,_,strValues l,rfl,λhm=>?_,⟨_,SH _ rfl⟩,?_⟩
  ·refine ob0_2 (S.low _ hm) λz! az=>ob1_1 az λo e=>?_
   exact Tc _ (Te e)
  ·rw [<- e]
   exact ah.ofStrs l λz hz=>hp _ (by rw [<- e];exact S7.mpr ⟨z,hz,rfl⟩)
 cases h1:(decide (x.length<y.length) || decide (Vj x<Vj y))
 ·cases hf:(U7 x y 0 x.length (x.length+1)).isEmpty
  ·refine Yc Wh (Wv _ _ _) XX (XC _ _) (meets_str_split_sep x y t u h1 hy hf (Sn hx (by decide)) hn') ?_
   have e:=fin (numbered s.toks (Vq x (U7 x y 0 x.length (x.length+1)) y.length)) (s.toks+(Vq x (U7 x y 0 x.length (x.length+1)) y.length).length) ((numbered_texts _ _).trans ((if_neg (ne_true_of_eq_false h1)).trans (if_neg (ne_true_of_eq_false hf))).symm)
   rw [<- strsFrom_eq] at e
   exact e
  ·exact Yc Wh (Wv _ _ _) XX (XC _ _) (meets_str_split_not_found x y t u h1 hy hf) (fin [(x,t)] s.toks ((if_neg (ne_true_of_eq_false h1)).trans (if_pos hf)).symm)
 ·exact Yc Wh (Wv _ _ _) XX (XC _ _) (meets_str_split_cannot_occur x y t u h1) (fin [(x,t)] s.toks (if_pos h1).symm)
theorem EV.split {o e:Sp} {apos pos:Pos} {x y:Str} (ho:EV G F ρ W Rs o (.str x)) (h:EV G F ρ W Rs e (.str y)) (hy:(y.length == 0)=false) (hp:∀ z∈V3 x y,z.length<=lim) (hn:(V3 x y).length<=lim)
  (hn':(Vq x (U7 x y 0 x.length (x.length+1)) y.length).length<=sizeLine)
  (hbase:attributeBase o "split" F.env (eval o F.env)=eval o F.env:=by rfl)
  (hfew:((backTo pos (starEach [e] F.env)).all (λx => !x.1) && (backToKw pos (keywordEach [] F.env)).all (λx=>x.1.isSome)
   && decide ([e].length+([]:List Keyword).length+(if ([]:List Keyword).isEmpty then 0 else 1)<30))=true:=by rfl)
  (hst:backTo pos (starEach [e] F.env)=[e].map (λe=>(false,eval e F.env)):=by rfl)
  (hline:(apos.endLine == pos.line)=true:=by rfl) :
  EV G F ρ W Rs (.Call (.Attribute o "split" apos) [e] [] pos) (.lst ((V3 x y).map .str)) :=
 EV.nC ho (.cons h .nil) Wh PySem.F.type_str_split (uA hy hp hn hn') (by simp) hbase hfew hst hline
theorem zg {xs:List Int} {i:Int}:∀ s v vs,St G F ρ W Rs s->Rep W s.heap (.lst (xs.map .int)) v->ah W s.heap [.int i] vs->Gv G F.A W (call (.builtin "list.count") (v::vs)) (.int (xs.count i)) s:=λs v vs S r rs=>by
 refine ob1_2 rs.one λv aC r1=>?_;obtain rfl:=aC
 refine ob1_1 r1.isInt λt aC=>?_;obtain rfl:=aC
 refine ob0_2 r.dY λhl az=>ob2_4 az λa us bq hW aY ru=>?_;obtain rfl:=bq;refine ob1_1 aY λn e1=>?_
 refine ob1_2 ru.ints λys aC aA=>?_;obtain rfl:=aC;obtain rfl:=aA
 refine Yc PySem.F.slot_list_count ⟨_,e1,rfl⟩ PySem.F.entry_list_count (PySem.F.args_list_count_2 _ _)
  (MeetsSeq.list_count a _ n (.int i t) (λv=>match v with | .int j _=>j == i | _=>false) λy hy=>?_) ⟨e1,.of_toks G,?_⟩
 ·have hy':y∈ys.map (λp=>XU p.1 p.2):=by simpa using hy
  refine ob1_2 (S7.mp hy') λp z! aA=>?_;obtain rfl:=aA
  exact MeetsSeq.EqGives.int _ _ _ _
 ·rw [show (ys.map (λp=>XU p.1 p.2)).toArray.toList=ys.map (λp=>XU p.1 p.2) from rfl,List.countP_map,List.count,List.countP_map]
  exact Rep.int
theorem EV.EO {o e:Sp} {apos pos:Pos} {xs:List Int} {i:Int} (ho:EV G F ρ W Rs o (.lst (xs.map .int))) (h:EV G F ρ W Rs e (.int i))
  (hbase:attributeBase o "count" F.env (eval o F.env)=eval o F.env:=by rfl)
  (hfew:((backTo pos (starEach [e] F.env)).all (λx => !x.1) && (backToKw pos (keywordEach [] F.env)).all (λx=>x.1.isSome)
   && decide ([e].length+([]:List Keyword).length+(if ([]:List Keyword).isEmpty then 0 else 1)<30))=true:=by rfl)
  (hst:backTo pos (starEach [e] F.env)=[e].map (λe=>(false,eval e F.env)):=by rfl)
  (hline:(apos.endLine == pos.line)=true:=by rfl) :
  EV G F ρ W Rs (.Call (.Attribute o "count" apos) [e] [] pos) (.int (xs.count i)) :=
 EV.Jb ho (.cons h .nil) PySem.F.slot_list_count PySem.F.type_list_count zg (by simp) hbase hfew hst hline
theorem eL {v0:PV} (b:Bool) (hb:b=match v0 with | .none=>true | .raw .none=>true | _=>false):∀ s a c,St G F ρ W Rs s->Rep W s.heap v0 a->Rep W s.heap .none c ->
  wpAny G.M F.A (compareOp .Is a c) (λv s'=>aG G [] s s'/\Rep W s'.heap (.bool b) v) (λz! z! => False) s:=λs a c S ra rc=>by
 rw [Rep] at rc
 subst rc
 have nn:∀ a:Value,a ≠ .none->b=false->wpAny G.M F.A (compareOp .Is a .none) (λv s'=>aG G [] s s'/\Rep W s'.heap (.bool b) v) (λz! z! => False) s:=λa h hb=>by
  subst hb
  exact is_none_ne h ⟨.refl ..,Rep.bool⟩
 cases v0 with
 | none =>
  rw [Rep] at ra;subst ra;subst hb
  exact is_none_none ⟨.refl ..,Rep.bool⟩
 | bool c=>rw [Rep] at ra;subst ra;exact nn _ (by simp) hb
 | int c=>refine ob1_1 ra.isInt λt aC=>?_;obtain rfl:=aC;exact nn _ (by simp) hb
 | str c=>refine ob0_2 ra.isStr λz! az=>ob1_1 az λt bh=>?_;obtain rfl:=bh;exact nn _ (by simp) hb
 | tup c=>refine ob0_2 ra.isTup λz! az=>ob2_2 az λa us bq z! => ?_;obtain rfl:=bq;exact nn _ (by simp) hb
 | lst c=>refine ob0_2 ra.dY λz! az=>ob2_2 az λa us bq z! => ?_;obtain rfl:=bq;exact nn _ (by simp) hb
 | raw c =>
  rw [Rep] at ra;subst ra
  cases a <;> first | exact nn _ (by simp) hb | (subst hb;exact is_none_none ⟨.refl ..,Rep.bool⟩)
end Mine
namespace Mine
open PySem PySem.W PyProof.Rows
variable {G:Glob} {F:Fm} {ρ ρ':List (Str×PV)} {W W':List Addr} {Rs ak:List Res} {s s':Shared}
theorem St.perm (S:St G F ρ W Rs s) (h:Rs.Perm ak):St G F ρ W ak s :=
 {S with
  new:=λr hr=>S.new r (h.mem_iff.mpr hr)
  res:=λr hr=>S.res r (h.mem_iff.mpr hr)
  apart:=(h.flatMap_right _).nodup_iff.mp S.apart}
theorem XS.perm {ss K} (p:Rs.Perm ak) (h:XS G F ρ W ak ss K):XS G F ρ W Rs ss K:=λs S=>h s (S.perm p)
theorem St.AQ (S:St G F ρ W Rs s) {xs:List PV} {vs:List Value} {t:Tok} (h:ah W s.heap xs vs) (hl:xs.length<=lim) :
  St G F ρ (s.heap.objs.size::W) (Res.lst s.heap.objs.size xs::Rs) {s with heap:=s.heap.push {cls:=.type "list",data:=.seq vs.toArray},toks:=t}:=by
 have x:aG G [] s {s with heap:=s.heap.push {cls:=.type "list",data:=.seq vs.toArray},toks:=t}:=.bO G
 have hn:=bV s.heap
 have fr:=S.fresh hn
 have sk:aI W s.heap (s.heap.push {cls:=.type "list",data:=.seq vs.toArray}):=x.cA S.inv (by simp)
 have S₁:=S.step x
 have hw:∀ a,(∃ o,s.heap.get? a=some o)->a∈s.heap.objs.size::W->a∈W:=λa zz=>zz.elim λo e ha=>by
  rcases Sx.mp ha with rfl | ha
  ·rw [hn] at e;cases e
  ·exact ha
 have Je:=aS S.inv
 have hget:(s.heap.push {cls:=.type "list",data:=.seq vs.toArray}).get? s.heap.objs.size=some {cls:=.type "list",data:=.seq vs.toArray}:=SH _ rfl
 refine {S₁ with
  vars:=λy p e=>?_
  lW:=λhm=>?_
  cW:=λy c e hm=>?_
  low:=λa ha=>?_
  new:=λr hr a ha=>?_
  res:=λr hr=>?_
  apart:=?_}
 ·refine ob1_2 (S.vars y p e) λv l r=>?_
  exact ⟨v,l.step x S.inv (by simp) (by simp),r.keep sk hw⟩
 ·rcases Sx.mp hm with hm | hm
  ·exact fr.2.1 hm.symm
  ·exact S.lW hm
 ·rcases Sx.mp hm with hm | hm
  ·exact fr.2.2 y c e hm.symm
  ·exact S.cW y c e hm
 ·rcases Sx.mp ha with rfl | ha
  ·exact ⟨Je,_,hget⟩
  ·exact S₁.low a ha
 ·rcases Sx.mp hr with rfl | hr
  ·have:a=s.heap.objs.size:=by simpa [Res.lst] using ha
   subst this
   refine ⟨So ..,?_⟩
   by_cases hX:s.heap.objs.size∈F.X
   ·exact .inr hX
   ·left
    cases e0:F.s0.heap.get? s.heap.objs.size with
    | none=>rfl
    | some o0 =>
     have:=S.stp.keep _ o0 hX (bk Je) e0
     rw [hn] at this;cases this
  ·exact ⟨Ss _ (S.new r hr a ha).1,(S.new r hr a ha).2⟩
 ·rcases Sx.mp hr with rfl | hr
  ·exact ⟨hl,vs,⟨_,hget⟩,h.keep sk hw⟩
  ·exact r.keep W _ _ _ (S.res r hr) (λa ha o e=>Sw _ e) sk hw
 ·rw [Tg,UL]
  refine ⟨by simp [Res.lst],S.apart,λa ha b hb hab=>?_⟩
  subst hab
  have:a=s.heap.objs.size:=by simpa [Res.lst] using ha
  subst this
  refine ob1_2 (SX.mp hb) λr hr ha=>?_
  exact fr.1 (S.new r hr _ ha).1
theorem St.freeze {a:Addr} {xs:List PV} {x:Str} (S:St G F ρ W (Res.lst a xs::Rs) s) (hx:ρ.lookup x=some (.raw (.ref a)))
  (h1:∀ b∈W',b∈W) (h2:a∉W') (h3:∀ b∈W,b=a\/b∈W'):St G F ((x,.lst xs)::ρ) W' Rs s:=by
 have hw:∀ b,(∃ o,s.heap.get? b=some o)->b∈W'->b∈W:=λb z! hb=>h1 b hb
 have Nm:aI W s.heap s.heap:=⟨λz! z! z! e=>e,λz! z! z! e=>e⟩
 refine {S with
  vars:=λy p e=>?_
  lW:=λhm=>S.lW (h1 _ hm)
  cW:=λy c e hm=>S.cW y c e (h1 _ hm)
  low:=λb hb=>S.low b (h1 b hb)
  new:=λr hr b hb=>?_
  res:=λr hr=>r.keep W W' _ _ (S.res r (Ss _ hr)) (λz! z! z! e=>e) Nm hw
  apart:=?_}
 ·rw [Tp] at e
  by_cases hy:y=x
  ·subst hy
   simp only [beq_self_eq_true] at e
   cases e
   refine ob1_2 (S.vars y _ hx) λv l r=>?_
   rw [Rep] at r;subst r
   refine ob0_2 (S.res _ (So ..)) λhl az=>ob1_2 az λvs hla rs=>?_
   refine ⟨_,l,?_⟩
   rw [Rep]
   exact ⟨hl,a,vs,rfl,h2,hla,rs.keep Nm hw⟩
  ·have:(y == x)=false:=beq_eq_false_iff_ne.mpr hy
   rw [this] at e
   refine ob1_2 (S.vars y p e) λv l r=>?_
   exact ⟨v,l,r.keep Nm hw⟩
 ·refine ob0_2 (S.new r (Ss _ hr) b hb) λn1 n2=>?_
  refine ⟨?_,n2⟩
  rcases h3 b n1 with rfl | h
  ·exfalso
   have nd:=S.apart
   rw [Tg,UL] at nd
   exact nd.2.2 b (by simp [Res.lst]) b (SX.mpr ⟨r,hr,hb⟩) rfl
  ·exact h
 ·have nd:=S.apart
  rw [Tg,UL] at nd
  exact nd.2.1
theorem XS.freeze {a:Addr} {xs:List PV} {x:Str} {ss K} (hx:ρ.lookup x=some (.raw (.ref a)))
  (h1:∀ b∈W',b∈W) (h2:a∉W') (h3:∀ b∈W,b=a\/b∈W') (h:XS G F ((x,.lst xs)::ρ) W' Rs ss K):XS G F ρ W (Res.lst a xs::Rs) ss K :=
 λs S=>h s (S.freeze hx h1 h2 h3)
noncomputable def PV.flat:PV->Bool
 | .none | .bool _ | .int _ | .str _ | .raw _=>true
 | _=>false
theorem Rep.flat {p:PV} {h h':Heap} {v:Value} (hp:p.flat=true) (r:Rep W h p v):Rep W' h' p v:=by
 cases p with
 | tup=>cases hp
 | lst=>cases hp
 | _=>rw [Rep] at r ⊢;exact r
theorem EV.frozen {a:Addr} {xs:List PV} {x:Str} {e:Sp} {p:PV} (hx:ρ.lookup x=some (.raw (.ref a)))
  (h1:∀ b∈W',b∈W) (h2:a∉W') (h3:∀ b∈W,b=a\/b∈W') (h:EV G F ((x,.lst xs)::ρ) W' Rs e p) (hp:p.flat=true):EV G F ρ W (Res.lst a xs::Rs) e p:=λs S =>
 aF (h s (S.freeze hx h1 h2 h3)) λv s' zz=>zz.elim λy r=>⟨y,r.flat hp⟩
theorem EV.perm {e p} (q:Rs.Perm ak) (h:EV G F ρ W ak e p):EV G F ρ W Rs e p:=λs S=>h s (S.perm q)
theorem gu {es:List Sp} {pos:Pos} {ps:List PV} {Q:Value->Shared->Prop} (h:aW G F ρ W Rs es ps) (hl:ps.length<=lim) (S:St G F ρ W Rs s)
  (k:∀ s' a,s.heap.get? a=none->St G F ρ (a::W) (Res.lst a ps::Rs) s'->Q (.ref a) s')
  (hst:backTo pos (starEach es F.env)=es.map (λe=>(false,eval e F.env)):=by rfl):wpAny G.M F.A (eval (.List es pos) F.env) Q (λz! z! => False) s :=
 wpAny_List_spliced (by
  rw [hst]
  refine aF (h s S) λvs s₁ zz=>zz.elim λx r=>?_
  have S₁:=S.step x
  refine ⟨?_,k _ _ ?_ (S₁.AQ (t:=s₁.toks) r hl)⟩
  ·rw [r.length]
   exact Sn hl (by decide)
  ·exact x.none_of S₁.inv (bV _) (aS S₁.inv))
section
variable {K:Flow->Shared->Prop} {rest:List Stmt}
theorem XS.own {x:Str} {px pos iP:Pos} {es:List Sp} {ps:List PV} (h:aW G F ρ W Rs es ps) (hx:F.env.kindOf x=some .local\/(F.env.kindOf x=some .cell/\x∈F.cv))
  (k:∀ a,a∉W->XS G F ((x,.raw (.ref a))::ρ) (a::W) (Res.lst a ps::Rs) rest K) (hl:ps.length<=lim:=by decide)
  (hst:backTo iP (starEach es F.env)=es.map (λe=>(false,eval e F.env)):=by rfl)
  (hs:swapsWithSole [.Name x px] (.List es iP) pos.line F.env=pure false:=by rfl) (hw:swappedStores [.Name x px] (.List es iP) F.env=pure none:=by rfl) :
  XS G F ρ W Rs (.Assign [.Name x px] (.List es iP) pos::rest) K:=λs S=>by
 refine TN ?_
 rw [Xg]
 refine Sl (Tt ?_)
 rw [hs]
 refine Sl (Sm ?_)
 rw [if_neg (by decide)]
 refine Sl (gu h hl S (λs₁ a ha S₁=>?_) hst)
 rw [hw]
 refine Sl (Sm ?_)
 show wpAny _ _ (do UE (.Name x px) F.env (.ref a);pure Yb) _ _ s₁
 refine Sl (aF (AV.name (p:=.raw (.ref a)) hx s₁ _ S₁ (by rw [Rep])) λ_ s₂ zz=>zz.elim λS₂ z! => Sm (k a ?_ s₂ S₂))
 intro hm
 refine ob0_2 (S.low a hm) λz! az=>ob1_1 az λo e=>?_
 rw [ha] at e;cases e
theorem XS.append {x:Str} {px apos pos spos:Pos} {e:Sp} {p:PV} {a:Addr} {xs:List PV} (hx:ρ.lookup x=some (.raw (.ref a))) (he:EV G F ρ W (Res.lst a xs::Rs) e p) (hl:xs.length+1<=lim)
  (k:XS G F ρ W (Res.lst a (xs++[p])::Rs) rest K)
  (hi:interactive F.env=false:=by rfl)
  (hd:(x == ("__debug__":Str))=false:=by decide) (hc:(x == ("__classdict__":Str))=false:=by decide)
  (hs:swapsWith (.Call (.Attribute (.Name x px) "append" apos) [e] [] pos) none spos.line F.env=pure false:=by rfl)
  (hbase:attributeBase (.Name x px) "append" F.env (eval (.Name x px) F.env)=eval (.Name x px) F.env:=by rfl)
  (hfew:((backTo pos (starEach [e] F.env)).all (λx => !x.1) && (backToKw pos (keywordEach [] F.env)).all (λx=>x.1.isSome)
   && decide ([e].length+([]:List Keyword).length+(if ([]:List Keyword).isEmpty then 0 else 1)<30))=true:=by rfl)
  (hst:backTo pos (starEach [e] F.env)=[e].map (λe=>(false,eval e F.env)):=by rfl)
  (hline:(apos.endLine == pos.line)=true:=by rfl) :
  XS G F ρ W (Res.lst a xs::Rs) (.Expr (.Call (.Attribute (.Name x px) "append" apos) [e] [] pos) spos::rest) K:=λs S=>by
 refine TN ?_
 rw [exec_Expr (env:=F.env) _ _ hi hs]
 refine Sl (Tt (Sl ?_))
 refine Ut hbase hfew hline (aF (EV.name hx hd hc s S) λv s₁ zz=>zz.elim λy r=>?_)
 rw [Rep] at r;subst r
 have S₁:=S.step y
 refine ob0_2 (S₁.res _ (So ..)) λz! az=>ob1_2 az λus bh z! =>ob1_1 bh λn e1=>?_
 rw [hst]
 refine ⟨"list","list.append",XW,XD,XE,⟨_,e1,rfl⟩,(λa' e=>by cases e;exact ⟨_,e1,rfl⟩),?_⟩
 refine TM (noStar _) ?_
 refine TF (aF (aW.cons he .nil s₁ S₁) λvs s₂ zz=>zz.elim λz rs=>?_)
 refine ob1_2 rs.one λv aC rv=>?_;obtain rfl:=aC
 refine aF ((S₁.step z).append rv hl) λu s₃ zz=>zz.elim λhu zz=>zz.elim λaT z! => ?_
 exact wpAny_dropValue (k s₃ aT)
theorem XS.M_ {x y:Str} {px py tpos Ax iP pos:Pos} {k1 k2:Nat} {es:List Sp} {ps:List PV} {e:Sp} {q:PV} (h:aW G F ρ W Rs es ps)
  (he:∀ a,EV G F ρ (a::W) (Res.lst a ps::Rs) e q)
  (hx:F.env.kindOf x=some .local\/(F.env.kindOf x=some .cell/\x∈F.cv)) (hy:F.env.kindOf y=some .local\/(F.env.kindOf y=some .cell/\y∈F.cv))
  (k:∀ a,a∉W->XS G F ((x,.raw (.ref a))::(y,q)::ρ) (a::W) (Res.lst a ps::Rs) rest K) (hl:ps.length<=lim:=by decide)
  (hst:backTo iP (starEach es F.env)=es.map (λe=>(false,eval e F.env)):=by rfl)
  (D4:backTo Ax (starEach [.List es iP,e] F.env)=[.List es iP,e].map (λe=>(false,eval e F.env)):=by rfl)
  (hs:swapsWithSole [.Tuple [.Name x px,.Name y py] k1 tpos] (.Tuple [.List es iP,e] k2 Ax) pos.line F.env=pure false:=by rfl)
  (hw:swappedStores [.Tuple [.Name x px,.Name y py] k1 tpos] (.Tuple [.List es iP,e] k2 Ax) F.env=pure (some [x,y]):=by rfl) :
  XS G F ρ W Rs (.Assign [.Tuple [.Name x px,.Name y py] k1 tpos] (.Tuple [.List es iP,e] k2 Ax) pos::rest) K:=λs S=>by
 refine TN (Assign_Tuple_swapped (names:=[x,y]) ?_ hs hw)
 refine wpAny_Tuple_spliced ?_
 rw [D4]
 refine Uo (gu h hl S (λs₁ a ha S₁=>?_) hst)
 refine Uo (aF (he a s₁ S₁) λv s₂ zz=>zz.elim λz r=>VH ?_)
 have S₂:=S₁.step z
 refine ⟨by show (2:Nat)<=_;decide,?_⟩
 have FE:aG G [] s₂ {s₂ with heap:=s₂.heap.push {cls:=.type "tuple",data:=.seq #[.ref a,v]}}:=.bO G (t:=s₂.toks)
 have aT:=S₂.step FE
 refine unpackItems_tuple (items:=#[.ref a,v]) S.room.1 ⟨_,SH _ rfl,rfl,_,rfl⟩ λh' hx'=>?_
 have FD:aG G [] {s₂ with heap:=s₂.heap.push {cls:=.type "tuple",data:=.seq #[.ref a,v]}} {s₂ with heap:=h'} :=
  aG.of_keeps G (λb o e=>hx' b o (T9 (Te e)) e) (t:=s₂.toks)
 have bZ:=aT.step FD
 have sC:=FD.rep0 aT.inv (FE.rep0 S₂.inv r)
 show wpAny _ _ (do holding [.ref a] (bindName F.env y v);assignInOrder [bindName F.env x] [.ref a]) _ _ _
 refine Sl (Sy (bindName_ (aF (bZ.store sC hy) λ_ s₅ zz=>zz.elim λmY z! => ?_)))
 show wpAny _ _ (do holding [] (bindName F.env x (.ref a));assignInOrder [] []) _ _ _
 refine Sl (Sy (bindName_ (aF (mY.store (p:=.raw (.ref a)) (by rw [Rep]) hx) λ_ s₆ zz=>zz.elim λgP z! => Sm (k a ?_ s₆ gP))))
 intro hm
 refine ob0_2 (S.low a hm) λz! az=>ob1_1 az λo e=>?_
 rw [ha] at e;cases e
theorem XS.while {τ:Type} {test:Sp} {body:List Stmt} {pos:Pos} (Inv:τ->Prop) (μ:τ->Nat) (iA:τ->List (Str×PV)) (c:τ->Bool) (z0:τ)
  (h0:Inv z0) (DZ:∀ x p,(iA z0).lookup x=some p->ρ.lookup x=some p)
  (ht:∀ z,Inv z->TV G F (iA z) W Rs test (c z))
  (hb:∀ z,Inv z->c z=true->XS G F (iA z) W Rs body (λf s'=>match f with | .next | .cont=>∃ z',Inv z'/\μ z'<μ z/\St G F (iA z') W Rs s' | _=>False))
  (h:∀ z,Inv z->c z=false->XS G F (iA z) W Rs rest K):XS G F ρ W Rs (.While test body [] pos::rest) K:=λs S=>by
 refine TN (wpAny_While ?_)
 refine codeAny_whileLoop (λn s'=>∃ z,n=μ z/\Inv z/\St G F (iA z) W Rs s') (λn s₁ hI=>?_) (μ z0) ⟨z0,rfl,h0,S.weaken DZ⟩
 refine ob1_3 hI λz aC hz S₁=>?_;obtain rfl:=aC
 refine aF (ht z hz s₁ S₁) λb s₂ zz=>zz.elim λy hb'=>?_
 subst hb'
 have S₂:=S₁.step y
 cases hc:c z with
 | true =>
  simp only [if_true]
  refine aF (hb z hz hc s₂ S₂) λf s₃ hf=>?_
  cases f with
  | next=>refine ob1_3 hf λz' h1 h2 h3=>?_;exact ⟨_,h2,z',rfl,h1,h3⟩
  | cont=>refine ob1_3 hf λz' h1 h2 h3=>?_;exact ⟨_,h2,z',rfl,h1,h3⟩
  | brk=>exact hf.elim
  | ret v=>exact hf.elim
 | false =>
  simp only [UC,if_false]
  exact UR (h z hz hc s₂ S₂)
end
end Mine
namespace Mine
open PySem PySem.W PyProof.Rows
variable {G:Glob} {F:Fm} {ρ ρ':List (Str×PV)} {W W':List Addr} {Rs ak:List Res} {s s':Shared}
noncomputable def fdOf (st:Stmt) (q:Str) (KC:List (Str×Addr)) (d kd pm code ct:Value):FuncData:=match st with
 | .FunctionDef name args body _ _ _ scope _ _ _=>{name,qualname:=q,params:=args,body:=.stmts body,scope,globals:=mainGlobals,closure:=KC,defaults:=d,kwdefaults:=kd,pyModule:=pm,code,closureTuple:=ct,builtins:=builtinsNs}
 | _=>default
noncomputable def bodyOf (st:Stmt):List Stmt:=match st with
 | .FunctionDef _ _ body _ _ _ _ _ _ _=>body
 | .ClassDef _ _ _ body _ _ _ _ _ _ _=>body
 | _=>[]
noncomputable def bH (p:Program) (i:Nat):Stmt:=p.main.body.getD i (.Pass ⟨0,0,0,0⟩)
noncomputable def wQ (G:Glob) (op:CmpOp) (p q:PV) (z:Bool):Prop:=∀ (F:Fm) (ρ:List (Str×PV)) (W:List Addr) (Rs:List Res) (s:Shared) (a b:Value),St G F ρ W Rs s->Rep W s.heap p a->Rep W s.heap q b ->
 wpAny G.M F.A (compareOp op a b) (λv s'=>aG G [] s s'/\Rep W s'.heap (.bool z) v) (λz! z! => False) s
noncomputable def bis (p:Nat->Bool) (lo hi:Nat):Nat:=if lo<hi then (if p ((lo+hi) / 2) then bis p lo ((lo+hi) / 2) else bis p ((lo+hi) / 2+1) hi) else lo
termination_by hi - lo
decreasing_by
 ·exact Nat.sub_lt_sub_right (fO (by assumption)) (kJ (by assumption))
 ·exact Xx (by assumption) (SN (fO (by assumption)))
theorem ao:∀ y q,([]:List (Str×PV)).lookup y=some q->ρ.lookup y=some q:=λz! z! h=>by cases h
theorem Qi {k y:Str} {p:PV} {r:List (Str×PV)} (h:(y == k)=true):((k,p)::r).lookup y=some p:=by rw [Tp,h]
theorem Qj {k y:Str} {p:PV} {r:List (Str×PV)} (h:(y == k)=false):((k,p)::r).lookup y=r.lookup y:=by rw [Tp,h]
theorem af {x:Str} {p:PV} (h:ρ.lookup x=some p) (t:∀ y q,ρ'.lookup y=some q->ρ.lookup y=some q):∀ y q,((x,p)::ρ').lookup y=some q->ρ.lookup y=some q:=λy q e =>
 match hb:y == x with
 | true=>UQ ((Qi hb).symm.trans e)▸Vc hb▸h
 | false=>t y q ((Qj hb).symm.trans e)
theorem qg {i:Int} {n k:Nat} (h:(if i<0 then i+n else i)=(k:Int)) (hk:k<n):seqIndex? i n=some k:=by
 refine (?_:(if (decide (0<=(if i<0 then i+n else i)) && decide ((if i<0 then i+n else i)<(n:Int)))=true then some (if i<0 then i+n else i).toNat else none)=_)
 rewrite [h]
 exact if_pos (TL.mpr ⟨decide_eq_true (UN k),decide_eq_true (Uy.mpr hk)⟩)
theorem sL {j k n:Nat} (h:j+(k+1)=n) : -((k:Int)+1)+n=j:=by
 subst h
 exact (congrArg _ (Int.add_comm (j:Int) ((k:Int)+1))).trans (Int.neg_add_cancel_left ..)
theorem oS {α:Type} {xs:List α} {k:Nat} {p:α} (h:xs[k]? = some p):idx? xs (k:Int)=some p:=by
 unfold idx?
 rw [qg (if_neg (WW.mpr (UN k))) (T3.mp h).1]
 exact h
theorem uv {α:Type} {xs:List α} {k:Nat} {p:α} (hk:k<xs.length) (h:xs[xs.length - 1 - k]? = some p):idx? xs (-((k:Int)+1))=some p:=by
 unfold idx?
 rw [qg ((if_pos (Int.negSucc_lt_zero k)).trans (sL (by rw [Nat.sub_sub,Vw 1 k];exact UD hk))) (T_ (UI _ _) (WK (Nat.zero_lt_of_lt hk) V0))]
 exact h
theorem E1 {p:Nat->Bool} {lo hi:Nat} (h:lo<hi) (hp:p ((lo+hi) / 2)=true):bis p lo hi=bis p lo ((lo+hi) / 2):=by rw [bis,if_pos h,if_pos hp]
theorem E0 {p:Nat->Bool} {lo hi:Nat} (h:lo<hi) (hp:p ((lo+hi) / 2)=false):bis p lo hi=bis p ((lo+hi) / 2+1) hi:=by rw [bis,if_pos h,if_neg (ne_true_of_eq_false hp)]
theorem uT {p:Nat->Bool} {lo hi:Nat} (h:¬ lo<hi):bis p lo hi=lo:=by rw [bis,if_neg h]
theorem ff {α:Type} {P:α->Prop} {x:α} {l:List α} (h:P x) (t:∀ w∈l,P w):∀ w∈x::l,P w:=λw hw=>(Sx.mp hw).elim (λe=>e▸h) (t w)
theorem z5 {α:Type} {P:α->Prop}:∀ w∈([]:List α),P w:=λw h=>absurd h Tq
theorem lg {β:Type} {n k:Nat} {f:Nat->β} {p:β} (h:((SD n).map f)[k]? = some p):k<n/\f k=p:=by
 have hk:k<n:=by have:=(T3.mp h).1;rwa [Sq,TJ] at this
 rw [S9,V9 hk] at h
 exact ⟨hk,UQ h⟩
end Mine
namespace Mine
open PySem PySem.W PyProof.Rows
theorem Du:typeLookup (.type "re.Pattern") "__getattribute__"=pure (some (.builtin "object.__getattribute__")):=by rw [Uj,TG];kernel_rfl
theorem Dt:typeLookup (.type "re.Pattern") "__getattr__"=pure none:=by rw [Uj,TG];kernel_rfl
theorem gq:PlainAttrs "re.Pattern":=⟨⟨"object.__getattribute__",Du,by decide +kernel⟩,Dt⟩
theorem fz:Slot "re.Pattern" "sub" "re.Pattern.sub" :=
 .of (owner:="re.Pattern") (n:="sub") (by rw [Uj,TG];kernel_rfl) (by decide +kernel) (by decide +kernel) (by decide +kernel)
  (by first | exact .inl (by decide +kernel) | exact .inr (by decide +kernel)) (by rw [WQ];kernel_rfl)
theorem iG:typeOf (.builtin "re.Pattern.sub")=pure (.type "method_descriptor"):=by show builtinType _=_;rw [builtinType_eq_fast];kernel_rfl
theorem mR:entryFor table "re.Pattern.sub"=some Builtin.«re.Pattern.sub» := WR (by kernel_rfl)
theorem gB:entryFor table "re.Pattern.sub.loop"=some Builtin.«re.Pattern.sub.loop» := WR (by kernel_rfl)
theorem vJ:Manifest.owners.lookup (String.ofList ['n','r','e','t','t','a','P','.','e','r'].reverse)=some Manifest.sig_re_Pattern:=by kernel_rfl
theorem pF (a b c:Value):argsOk "re.Pattern.sub" ⟨[a,b,c],[]⟩:=by
 unfold argsOk;rw [signature?_of (id:="re.Pattern.sub") (n:=['b','u','s']) (o:=['n','r','e','t','t','a','P','.','e','r']) (by kernel_rfl) vJ];kernel_rfl
theorem cO:plainId "re.Pattern.sub.loop"=true:=by decide +kernel
end Mine
namespace Mine
open PySem PySem.W PyProof.Rows
open PySem.Sre
inductive Reach:Nat->Wj->Wj->Prop
 | zero (m:Wj):Reach 0 m m
 | succ {k:Nat} {m m':Wj} (h:m.outcome=none) (r:Reach k m.step m'):Reach (k+1) m m'
theorem Reach.trans {k l:Nat} {m m' Am:Wj} (x:Reach k m m') (y:Reach l m' Am):Reach (k+l) m Am:=by
 induction x with
 | zero=>rw [U5];exact y
 | succ h r ih=>rw [Nat.succ_add];exact .succ h (ih y)
theorem Reach.run:∀ (n:Nat) {k m m'},Reach k m m'->m'.outcome.isSome=true->∃ Am,m.runFor n=Am/\Reach (k - n) Am m'/\(k - n=0->Am=m')
 | 0,k,m,m',r,h=>⟨m,rfl,r,λh0=>by
   have:k=0:=by exact h0
   subst this;cases r;rfl⟩
 | n+1,k,m,m',r,h=>by
  rw [Sre.M.runFor]
  cases r with
  | zero =>
   rw [if_pos h]
   exact ⟨m,rfl,by rw [Nat.zero_sub];exact .zero m,λz! => rfl⟩
  | succ h0 r =>
   rw [h0]
   simp only [XN,UC,if_false]
   rename_i k'
   refine ob1_3 (Reach.run n r h) λAm e r' f=>?_
   rw [show k'+1 - (n+1)=k' - n by exact Nat.add_sub_add_right _ _ _]
   exact ⟨Am,e,r',f⟩
theorem Reach.qy {k:Nat} {m m':Wj} (r:Reach (k+1) m m'):m.outcome=none:=by cases r with | succ h r=>exact h
theorem kO {M:Model} {A:Around} {E:Value->Shared->Prop} {Q:Wj->Shared->Prop} {s:Shared} {m':Wj} (h:m'.outcome.isSome=true) (hQ:Q m' s) :
  ∀ (turns k:Nat) (m:Wj),Reach k m m'->k<=4 * turns->0<turns->wpAny M A (Builtin.Re.reDrive turns m) Q E s
 | 0,_,_,_,_,ht=>absurd ht (Tc _)
 | turns+1,k,m,r,hk,_=>by
  rw [Builtin.Re.reDrive]
  refine ob1_3 (r.run 4 h) λAm e r' f=>?_
  show wpAny M A (if (m.runFor 4).outcome.isSome=true then pure (m.runFor 4) else do rule "sre.turn";Builtin.Re.reDrive turns (m.runFor 4)) Q E s
  rw [e]
  rcases XO (k - 4) with h0 | hp
  ·rw [f h0,if_pos h]
   exact Sm hQ
  ·obtain ⟨k',hk'⟩:∃ k',k - 4=k'+1:=⟨k - 4 - 1,by exact Eq.symm (UD (Tj hp))⟩
   rw [hk'] at r'
   have:=r'.qy
   rw [this]
   simp only [XN,UC,if_false]
   exact Sl (Vi (kO h hQ turns (k'+1) Am r' (by exact MW hk hp hk') (by exact MS hk hp hk')))
theorem kN {M:Model} {A:Around} {E:Value->Shared->Prop} {Q:PUnit->Shared->Prop} {s:Shared} (m:Wj) (hQ:Q ⟨⟩ s) (f:Nat->PUnit->Sem (ForInStep PUnit))
  (hf:∀ i u,f i u=(if m.seen.has i=true then rule (Sre.names.getD i "") else pure PUnit.unit) >>= λz! => pure (VO PUnit.unit)):∀ (l:List Nat),
  wpAny M A (forIn l PUnit.unit f) Q E s
 | []=>Sm hQ
 | i::l=>by
  rw [UT,hf]
  refine Sl (Sl ?_)
  by_cases h:m.seen.has i=true
  ·rw [if_pos h]
   exact Vi (Sm (kN m hQ f hf l))
  ·rw [if_neg h]
   exact Sm (Sm (kN m hQ f hf l))
theorem dw {M:Model} {A:Around} {E:Value->Shared->Prop} {Q:Option Wj->Shared->Prop} {s:Shared} {m m':Wj} {k:Nat} (r:Reach k m m') (hk:k<=2 ^ 60)
  (h:(m'.outcome=some .matched/\Q (some m') s)\/(m'.outcome=some .failed/\Q none s)):wpAny M A (W_ m) Q E s:=by
 unfold W_
 refine Sl (kO (m':=m') ?_ ?_ _ k m r ?_ (by decide))
 ·rcases h with ⟨h,_⟩ | ⟨h,_⟩ <;> rw [h] <;> rfl
 ·refine Sl (kN m' ?_ _ (λi u=>by first | rfl | (by_cases h:m'.seen.has i=true <;> simp [h])) _)
  rcases h with ⟨h,hq⟩ | ⟨h,hq⟩ <;> rw [h] <;> exact Sm hq
 ·exact Sn hk (by decide)
end Mine
namespace Mine
open PySem PySem.W PyProof.Rows
open PySem.Sre
theorem p_ {m:Wj} (h0:m.outcome=none) (ha:m.answer=none) (tn:m.pc<m.code.size) (hop:m.code.getD m.pc 0=16) (hp:m.pos<m.lim)
  (hc:m.text.getD m.pos 0=m.code.getD (m.pc+1) 0):m.step={m with seen:=m.seen.add 16,pc:=m.pc+2,pos:=m.pos+1}:=by
 have hw:m.word 0=16:=hop
 unfold Sre.M.step
 rw [h0,ha]
 simp only [XN,UC,if_false,tn,if_true]
 unfold Sre.M.exec
 rw [hw]
 show (if _ then _ else _)=_
 rw [if_neg (Nat.not_le.mpr hp)]
 have e:accepts m.code m.pc (m.text.getD m.pos 0) (m.seen.add 16) = .ok (true,m.seen.add 16):=by
  unfold accepts
  rw [hop,hc]
  show Except.ok ((m.code.getD (m.pc+1) 0 == m.code.getD (m.pc+1) 0),_)=_
  rw [beq_self_eq_true]
 show (match accepts m.code m.pc (m.text.getD m.pos 0) (m.seen.add 16) with
  | .error why=>_
  | .ok (false,seen)=>_
  | .ok (true,seen)=>({m with seen:=seen,pc:=m.pc+itemWidth m.code m.pc,pos:=m.pos+1}:Wj))=_
 rw [e]
 have:itemWidth m.code m.pc=2:=by
  unfold itemWidth
  rw [hop];rfl
 show ({m with seen:=m.seen.add 16,pc:=m.pc+itemWidth m.code m.pc,pos:=m.pos+1}:Wj)=_
 rw [this,h0,ha]
theorem gj {m:Wj} (h0:m.outcome=none) (ha:m.answer=none) (tn:m.pc<m.code.size) (hop:m.code.getD m.pc 0=16)
  (hc:m.pos<m.lim->m.text.getD m.pos 0≠m.code.getD (m.pc+1) 0):m.step={m with seen:=m.seen.add 16,answer:=some false}:=by
 have hw:m.word 0=16:=hop
 unfold Sre.M.step
 rw [h0,ha]
 simp only [XN,UC,if_false,tn,if_true]
 unfold Sre.M.exec
 rw [hw]
 show (if _ then _ else _)=_
 by_cases hp:m.pos<m.lim
 ·rw [if_neg (Nat.not_le.mpr hp)]
  have e:accepts m.code m.pc (m.text.getD m.pos 0) (m.seen.add 16) = .ok (false,m.seen.add 16):=by
   unfold accepts
   rw [hop]
   show Except.ok ((m.text.getD m.pos 0 == m.code.getD (m.pc+1) 0),_)=_
   rw [beq_eq_false_iff_ne.mpr (hc hp)]
  show (match accepts m.code m.pc (m.text.getD m.pos 0) (m.seen.add 16) with
   | .error why=>_
   | .ok (false,seen)=>({m with seen:=seen}:Wj).say false
   | .ok (true,seen)=>_)=_
  rw [e]
  show ({m with seen:=m.seen.add 16}:Wj).say false=_
  unfold Sre.M.say;rw [h0]
 ·rw [if_pos (Nat.not_lt.mp hp)]
  show ({m with seen:=m.seen.add 16}:Wj).say false=_
  unfold Sre.M.say;rw [h0]
noncomputable def bL:Array Nat:=#[14,9,4,1,2,16,10,16,13,0,7,7,16,13,16,10,15,18,5,16,10,15,13,11,16,13,5,5,0,16,10,1,15,2,0,1]
noncomputable def m2 (t:Array Nat) (l s:Nat) (pc pos hd:Nat) (o:Bool) (fr:List Xq) (wt:Nat) (sn:XF):Wj :=
 {code:=bL,text:=t,lim:=l,start:=s,lastStart:=l,pc:=pc,pos:=pos,handed:=hd,outermost:=o,marks:=#[],frames:=fr,weight:=wt,seen:=sn}
noncomputable def vQ (t:Array Nat) (l s:Nat) (pc pos hd:Nat) (o:Bool) (fr:List Xq) (wt:Nat) (sn:XF) (a:Bool):Wj :=
 {code:=bL,text:=t,lim:=l,start:=s,lastStart:=l,pc:=pc,pos:=pos,handed:=hd,outermost:=o,marks:=#[],frames:=fr,weight:=wt,seen:=sn,answer:=some a}
noncomputable def k0:Sre.Kept:={lastmark := -1,lastindex := -1,whole:=false,marks:=#[]}
noncomputable def fS (s:Nat):Xq:={wait:=.nextStart,pc:=10,pos:=s,outermost:=true}
noncomputable def fB (s pc:Nat):Xq:={wait:=.nextBranch,pc:=pc,pos:=s,outermost:=true,kept:=k0}
noncomputable def fN (s:Nat):Xq:={wait:=.lookNot,pc:=26,pos:=s,outermost:=true,kept:=k0}
variable {t:Array Nat} {l s pos hd:Nat} {o:Bool} {fr:List Xq} {wt:Nat} {sn:XF}
theorem lR:∃ sn',(m2 t l s 10 s s true [fS s] 1 sn).step=m2 t l s 12 s s true [fB s 11,fS s] 2 sn':=⟨_,rfl⟩
theorem Bw:∃ sn',(vQ t l s 12 pos s true [fB s 11,fS s] 2 sn false).step=m2 t l s 19 s s true [fB s 18,fS s] 2 sn':=⟨_,rfl⟩
theorem zI:∃ sn',(vQ t l s 14 pos s true [fB s 11,fS s] 2 sn false).step=m2 t l s 19 s s true [fB s 18,fS s] 2 sn':=⟨_,rfl⟩
theorem Bv:∃ sn',(vQ t l s 19 pos s true [fB s 18,fS s] 2 sn false).step=m2 t l s 24 s s true [fB s 23,fS s] 2 sn':=⟨_,rfl⟩
theorem Bu:∃ sn',(m2 t l s 16 pos hd true [fB s 11,fS s] 2 sn).step=m2 t l s 35 pos hd true [fB s 11,fS s] 2 sn':=⟨_,rfl⟩
theorem Bt:∃ sn',(m2 t l s 21 pos hd true [fB s 18,fS s] 2 sn).step=m2 t l s 35 pos hd true [fB s 18,fS s] 2 sn':=⟨_,rfl⟩
theorem Bs:∃ sn',(m2 t l s 32 pos hd true [fB s 23,fS s] 2 sn).step=m2 t l s 35 pos hd true [fB s 23,fS s] 2 sn':=⟨_,rfl⟩
theorem EH {b:Nat}:∃ sn',(m2 t l s 35 pos hd true [fB s b,fS s] 2 sn).step=vQ t l s 35 pos pos true [fB s b,fS s] 2 sn' true:=⟨_,rfl⟩
theorem Kq {b:Nat}:∃ sn',(vQ t l s 35 pos pos true [fB s b,fS s] 2 sn true).step=vQ t l s b s pos true [fS s] 1 sn' true:=⟨_,rfl⟩
theorem Kp {b:Nat}:∃ sn',(vQ t l s b s pos true [fS s] 1 sn true).step=vQ t l s 10 s pos true [] 0 sn' true:=⟨_,rfl⟩
theorem Ko:(vQ t l s 10 s pos true [] 0 sn true).step={vQ t l s 10 s pos true [] 0 sn true with outcome:=some .matched}:=rfl
theorem Kr:∃ sn',(m2 t l s 26 pos hd true [fB s 23,fS s] 2 sn).step=m2 t l s 29 pos pos false [fN pos,fB s 23,fS s] 3 sn':=⟨_,rfl⟩
theorem Br:∃ sn',(vQ t l s 29 pos pos false [fN pos,fB s 23,fS s] 3 sn false).step=m2 t l s 32 pos pos true [fB s 23,fS s] 2 sn':=⟨_,rfl⟩
theorem qY {pc c:Nat} (tn:pc<36) (hop:bL.getD pc 0=16) (hcc:bL.getD (pc+1) 0=c) (hp:pos<l) (hc:t.getD pos 0=c):∃ sn',(m2 t l s pc pos hd o fr wt sn).step=m2 t l s (pc+2) (pos+1) hd o fr wt sn' :=
 ⟨_,(p_ (m:=m2 t l s pc pos hd o fr wt sn) rfl rfl tn hop hp (hc.trans hcc.symm)).trans rfl⟩
theorem kD {pc c:Nat} (tn:pc<36) (hop:bL.getD pc 0=16) (hcc:bL.getD (pc+1) 0=c) (hc:pos<l->t.getD pos 0≠c):∃ sn',(m2 t l s pc pos hd o fr wt sn).step=vQ t l s pc pos hd o fr wt sn' false :=
 ⟨_,(gj (m:=m2 t l s pc pos hd o fr wt sn) rfl rfl tn hop (λh e=>hc h (e.trans hcc))).trans rfl⟩
noncomputable def BZ (t:Array Nat) (l s e:Nat) (m:Wj):Prop:=∃ k m',k<=40/\Reach k m m'/\m'.outcome=some .matched/\m'.start=s/\m'.handed=e
theorem EE {b:Nat}:∃ m',Reach 4 (m2 t l s 35 pos hd true [fB s b,fS s] 2 sn) m'/\m'.outcome=some .matched/\m'.start=s/\m'.handed=pos:=by
 refine ob1_1 (EH (t:=t) (l:=l) (s:=s) (pos:=pos) (hd:=hd) (sn:=sn) (b:=b)) λs1 e1=>ob1_1 (Kq (t:=t) (l:=l) (s:=s) (pos:=pos) (sn:=s1) (b:=b)) λs2 e2=>ob1_1 (Kp (t:=t) (l:=l) (s:=s) (pos:=pos) (sn:=s2) (b:=b)) λs3 e3=>?_
 refine ⟨{vQ t l s 10 s pos true [] 0 s3 true with outcome:=some .matched},.succ rfl ?_,rfl,rfl,rfl⟩
 rw [e1];refine .succ rfl ?_
 rw [e2];refine .succ rfl ?_
 rw [e3];refine .succ rfl ?_
 rw [Ko];exact .zero _
theorem zc (h1:s<l) (h2:s+1<l) (c1:t.getD s 0=13) (c2:t.getD (s+1) 0=10):BZ t l s (s+2) (m2 t l s 10 s s true [fS s] 1 sn):=by
 refine ob1_1 (lR (t:=t) (l:=l) (s:=s) (sn:=sn)) λs1 e1=>ob1_1 (qY (t:=t) (l:=l) (s:=s) (hd:=s) (o:=true) (fr:=[fB s 11,fS s]) (wt:=2) (sn:=s1) (pc:=12) (pos:=s) (by decide) rfl rfl h1 c1) λs2 e2=>ob1_1 (qY (t:=t) (l:=l) (s:=s) (hd:=s) (o:=true) (fr:=[fB s 11,fS s]) (wt:=2) (sn:=s2) (pc:=14) (pos:=s+1) (by decide) rfl rfl h2 c2) λs3 e3=>ob1_1 (Bu (t:=t) (l:=l) (s:=s) (pos:=s+1+1) (hd:=s) (sn:=s3)) λs4 e4=>ob1_2 (EE (t:=t) (l:=l) (s:=s) (pos:=s+2) (hd:=s) (sn:=s4) (b:=11)) λm' r h=>?_
 refine ⟨4+4,m',by decide,Reach.trans (.succ rfl ?_) r,h⟩
 rw [e1];refine .succ rfl ?_
 rw [e2];refine .succ rfl ?_
 rw [e3];refine .succ rfl ?_
 rw [e4];exact .zero _
theorem Ef (h1:s<l) (c1:t.getD s 0=10):BZ t l s (s+1) (m2 t l s 10 s s true [fS s] 1 sn):=by
 refine ob1_1 (lR (t:=t) (l:=l) (s:=s) (sn:=sn)) λs1 e1=>ob1_1 (kD (t:=t) (l:=l) (s:=s) (hd:=s) (o:=true) (fr:=[fB s 11,fS s]) (wt:=2) (sn:=s1) (pc:=12) (pos:=s) (c:=13) (by decide) rfl rfl (λz! => by rw [c1];decide)) λs2 e2=>ob1_1 (Bw (t:=t) (l:=l) (s:=s) (pos:=s) (sn:=s2)) λs3 e3=>ob1_1 (qY (t:=t) (l:=l) (s:=s) (hd:=s) (o:=true) (fr:=[fB s 18,fS s]) (wt:=2) (sn:=s3) (pc:=19) (pos:=s) (by decide) rfl rfl h1 c1) λs4 e4=>ob1_1 (Bt (t:=t) (l:=l) (s:=s) (pos:=s+1) (hd:=s) (sn:=s4)) λs5 e5=>ob1_2 (EE (t:=t) (l:=l) (s:=s) (pos:=s+1) (hd:=s) (sn:=s5) (b:=18)) λm' r h=>?_
 refine ⟨5+4,m',by decide,Reach.trans (.succ rfl ?_) r,h⟩
 rw [e1];refine .succ rfl ?_
 rw [e2];refine .succ rfl ?_
 rw [e3];refine .succ rfl ?_
 rw [e4];refine .succ rfl ?_
 rw [e5];exact .zero _
theorem Eg (h1:s<l) (c1:t.getD s 0=13) (c2:s+1<l->t.getD (s+1) 0≠10):BZ t l s (s+1) (m2 t l s 10 s s true [fS s] 1 sn):=by
 refine ob1_1 (lR (t:=t) (l:=l) (s:=s) (sn:=sn)) λs1 e1=>ob1_1 (qY (t:=t) (l:=l) (s:=s) (hd:=s) (o:=true) (fr:=[fB s 11,fS s]) (wt:=2) (sn:=s1) (pc:=12) (pos:=s) (by decide) rfl rfl h1 c1) λs2 e2=>ob1_1 (kD (t:=t) (l:=l) (s:=s) (hd:=s) (o:=true) (fr:=[fB s 11,fS s]) (wt:=2) (sn:=s2) (pc:=14) (pos:=s+1) (c:=10) (by decide) rfl rfl c2) λs3 e3=>ob1_1 (zI (t:=t) (l:=l) (s:=s) (pos:=s+1) (sn:=s3)) λs4 e4=>ob1_1 (kD (t:=t) (l:=l) (s:=s) (hd:=s) (o:=true) (fr:=[fB s 18,fS s]) (wt:=2) (sn:=s4) (pc:=19) (pos:=s) (c:=10) (by decide) rfl rfl (λz! => by rw [c1];decide)) λs5 e5=>ob1_1 (Bv (t:=t) (l:=l) (s:=s) (pos:=s) (sn:=s5)) λs6 e6=>ob1_1 (qY (t:=t) (l:=l) (s:=s) (hd:=s) (o:=true) (fr:=[fB s 23,fS s]) (wt:=2) (sn:=s6) (pc:=24) (pos:=s) (by decide) rfl rfl h1 c1) λs7 e7=>ob1_1 (Kr (t:=t) (l:=l) (s:=s) (pos:=s+1) (hd:=s) (sn:=s7)) λs8 e8=>ob1_1 (kD (t:=t) (l:=l) (s:=s) (hd:=s+1) (o:=false) (fr:=[fN (s+1),fB s 23,fS s]) (wt:=3) (sn:=s8) (pc:=29) (pos:=s+1) (c:=10) (by decide) rfl rfl c2) λs9 e9=>ob1_1 (Br (t:=t) (l:=l) (s:=s) (pos:=s+1) (sn:=s9)) λP8 RU=>ob1_1 (Bs (t:=t) (l:=l) (s:=s) (pos:=s+1) (hd:=s+1) (sn:=P8)) λP7 RT=>ob1_2 (EE (t:=t) (l:=l) (s:=s) (pos:=s+1) (hd:=s+1) (sn:=P7) (b:=23)) λm' r h=>?_
 refine ⟨11+4,m',by decide,Reach.trans (.succ rfl ?_) r,h⟩
 rw [e1];refine .succ rfl ?_
 rw [e2];refine .succ rfl ?_
 rw [e3];refine .succ rfl ?_
 rw [e4];refine .succ rfl ?_
 rw [e5];refine .succ rfl ?_
 rw [e6];refine .succ rfl ?_
 rw [e7];refine .succ rfl ?_
 rw [e8];refine .succ rfl ?_
 rw [e9];refine .succ rfl ?_
 rw [RU];refine .succ rfl ?_
 rw [RT];exact .zero _
noncomputable def dc (c:Nat):Bool:=c == 10 || c == 13
theorem DW (c:Nat) (sn:XF):∃ sn',inSet bL c bL.size 5 true sn = .ok (dc c,sn'):=by
 by_cases h1:c=10
 ·subst h1;exact ⟨_,rfl⟩
 by_cases h2:c=13
 ·subst h2;exact ⟨_,rfl⟩
 have e:dc c=false:=by simp [dc,h1,h2]
 rw [e]
 refine ⟨((sn.add 16).add 16).add 0,?_⟩
 show (if (c == 10)=true then _ else (if (c == 13)=true then _ else _))=_
 rw [beq_eq_false_iff_ne.mpr h1,beq_eq_false_iff_ne.mpr h2]
 rfl
theorem nU {m:Wj} (hc:m.code=bL):∀ (fuel s:Nat) (sn:XF),m.lim<=s+fuel->∃ r sn',X3 m fuel s sn = .ok (r,sn') /\
  (∀ p,r=some p->s<=p/\p<m.lim/\dc (m.text.getD p 0)=true/\∀ q,s<=q->q<p->dc (m.text.getD q 0)=false) /\
  (r=none->∀ q,s<=q->q<m.lim->dc (m.text.getD q 0)=false)
 | 0,s,sn,h=>⟨none,sn,rfl,(λp h=>nomatch h),λz! q h1 h2=>absurd (Su h2 (Sn h h1)) (Tc _)⟩
 | fuel+1,s,sn,h=>by
  by_cases hs:s ≥ m.lim
  ·refine ⟨none,sn,?_,(λp h=>nomatch h),λz! q h1 h2=>absurd (Su h2 (Sn hs h1)) (Tc _)⟩
   rw [X3,if_pos hs]
  ·refine ob1_1 (DW (m.text.getD s 0) sn) λM0 e1=>?_
   have e:X3 m (fuel+1) s sn=match (Except.ok (dc (m.text.getD s 0),M0):Except String (Bool×XF)) with
     | .ok (true,seen)=>.ok (some s,seen)
     | .ok (false,seen)=>X3 m fuel (s+1) seen
     | .error why=>.error why:=by
    rw [X3,if_neg hs,hc,e1]
    rfl
   rw [e]
   cases hn:dc (m.text.getD s 0) with
   | true =>
    refine ⟨some s,M0,rfl,λp hp=>?_,λh=>nomatch h⟩
    cases hp
    exact ⟨Sz _,by exact UX hs,hn,λq h1 h2=>by exact C_ h1 h2⟩
   | false =>
    refine ob2_3 (nU hc fuel (s+1) M0 (by exact MR h)) λr sn' er h1 h2=>?_
    refine ⟨r,sn',er,λp hp=>?_,λhr q hq1 hq2=>?_⟩
    ·refine ob0_4 (h1 p hp) λa b c d=>?_
     refine ⟨by exact SE a,b,c,λq hq1 hq2=>?_⟩
     rcases Vy hq1 with rfl | hlt
     ·exact hn
     ·exact d q hlt hq2
    ·rcases Vy hq1 with rfl | hlt
     ·exact hn
     ·exact h2 hr q hlt hq2
noncomputable def mS (t:Array Nat) (l p:Nat):Nat:=if t.getD p 0=13/\p+1<l/\t.getD (p+1) 0=10 then p+2 else p+1
theorem NI {p:Nat} (h1:p<l) (hn:dc (t.getD p 0)=true):BZ t l p (mS t l p) (m2 t l p 10 p p true [fS p] 1 sn):=by
 unfold dc at hn
 rw [W3,beq_iff_eq,beq_iff_eq] at hn
 unfold mS
 rcases hn with hn | hn
 ·rw [if_neg (by rw [hn];simp)]
  exact Ef h1 hn
 ·by_cases h:p+1<l/\t.getD (p+1) 0=10
  ·rw [if_pos ⟨hn,h⟩]
   exact zc h1 h.1 hn h.2
  ·rw [if_neg λhh=>h hh.2]
   exact Eg h1 hn λh2 h3=>h ⟨h2,h3⟩
theorem AI {M:Model} {A:Around} {E:Value->Shared->Prop} {Q:Option Wj->Shared->Prop} {sh:Shared} (hs:s<=l)
  (hyes:∀ p m',s<=p->p<l->dc (t.getD p 0)=true->(∀ q,s<=q->q<p->dc (t.getD q 0)=false)->m'.start=p->m'.handed=mS t l p->Q (some m') sh)
  (hno:(∀ q,s<=q->q<l->dc (t.getD q 0)=false)->Q none sh) :
  wpAny M A (W_ (VE bL t 0 s l false)) Q E sh:=by
 rcases Vy hs with rfl | hlt
 ·have e:∃ sn,VE bL t 0 s s false={code:=bL,text:=t,lim:=s,start:=s,pc:=10,pos:=s,handed:=s,marks:=#[],answer:=some false,seen:=sn}:=by
   unfold VE
   show ∃ sn,(if (decide (s > s) || decide (s - s<(Ww bL).1))=true then _ else _:Wj)=_
   rw [show (decide (s > s) || decide (s - s<(Ww bL).1))=true by rw [Nat.sub_self,show decide (0<(Ww bL).1)=true by decide +kernel,Bool.or_true]]
   exact ⟨_,rfl⟩
  refine ob1_1 e λsn e=>?_
  rw [e]
  refine dw (k:=1) (.succ rfl (.zero _)) (by decide) (.inr ⟨rfl,hno λq h1 h2=>by exact C_ h1 h2⟩)
 ·have e:∃ sn,VE bL t 0 s l false=Sre.M.attemptFrom {code:=bL,text:=t,lim:=l,start:=s,lastStart:=l,pc:=10,pos:=s,handed:=s,marks:=#[],seen:=sn} s true:=by
   unfold VE
   have h1:(decide (s > l) || decide (l - s<(Ww bL).1))=false:=by
    rw [show (Ww bL).1=1 from rfl]
    rw [Xd]
    exact ⟨decide_eq_false (by exact TP (Tf hlt)),decide_eq_false (by exact GP hlt)⟩
   show ∃ sn,(if (decide (s > l) || decide (l - s<(Ww bL).1))=true then _ else _:Wj)=_
   rw [h1]
   exact ⟨_,rfl⟩
  refine ob1_1 e λsn e=>?_
  rw [e]
  generalize hm:({code:=bL,text:=t,lim:=l,start:=s,lastStart:=l,pc:=10,pos:=s,handed:=s,marks:=#[],seen:=sn}:Wj)=m
  have hmt:m.text=t:=by rw [<- hm]
  have hml:m.lim=l:=by rw [<- hm]
  refine ob2_3 (nU (m:=m) (by rw [<- hm]) (m.lim+1 - s) s m.seen (by exact ML hlt hml)) λr sn' er h1 h2=>?_
  have ea:Sre.M.attemptFrom m s true=match (Except.ok (r,sn'):Except String (Option Nat×XF)) with
    | .ok (some s,seen)=>{m with mustAdvance:=false,seen}.attemptAt s true
    | .ok (none,seen)=>{m with seen}.say false
    | .error why=>m.stick why:=by
   unfold Sre.M.attemptFrom
   rw [show m.hasFirstSet=true by rw [<- hm];rfl,er]
   rfl
  rw [ea]
  cases r with
  | none =>
   refine dw (k:=1) (m':={m with seen:=sn',answer:=some false,outcome:=some .failed}) (.succ (by rw [<- hm];rfl) ?_) (by decide) (.inr ⟨rfl,hno λq hq1 hq2=>by rw [<- hmt];exact h2 rfl q hq1 (hml▸hq2)⟩)
   rw [<- hm];exact .zero _
  | some p =>
   refine ob0_4 (h1 p rfl) λa b c d=>?_
   rw [hmt] at c d
   rw [hml] at b
   refine ob2_5 (NI (l:=l) (sn:=sn') b c) λk m' hk rr ho hst hh=>?_
   refine dw (k:=k) (m':=m') ?_ (Sn hk (by decide)) (.inl ⟨ho,hyes p m' a b c d hst hh⟩)
   rw [<- hm];exact rr
end Mine
namespace Mine
open PySem PySem.W PyProof.Rows
open PySem.Sre
noncomputable def cD:Array Nat:=#[14,4,0,1,1,6,1,16,46,1]
noncomputable def kC (s:Nat) (o:Bool):Xq:={wait:=.nextStart,pc:=5,pos:=s,outermost:=o}
noncomputable def m1 (t:Array Nat) (l s:Nat) (pc pos hd:Nat) (o:Bool) (fr:List Xq) (wt:Nat) (sn:XF):Wj :=
 {code:=cD,text:=t,lim:=l,start:=s,lastStart:=l,pc:=pc,pos:=pos,handed:=hd,outermost:=o,marks:=#[],frames:=fr,weight:=wt,seen:=sn}
noncomputable def rN (t:Array Nat) (l s:Nat) (pc pos hd:Nat) (o:Bool) (fr:List Xq) (wt:Nat) (sn:XF) (a:Bool):Wj :=
 {code:=cD,text:=t,lim:=l,start:=s,lastStart:=l,pc:=pc,pos:=pos,handed:=hd,outermost:=o,marks:=#[],frames:=fr,weight:=wt,seen:=sn,answer:=some a}
variable {t:Array Nat} {l s pos hd:Nat} {o:Bool} {fr:List Xq} {wt:Nat} {sn:XF}
noncomputable def dh (t:Array Nat) (s:Nat):Bool:=s == 0 || t.getD (s - 1) 0 == 10
theorem Kl {b:Bool} (hb:dh t s=b):∃ sn',(m1 t l s 5 s s o [kC s o] 1 sn).step=if b then m1 t l s 7 s s o [kC s o] 1 sn' else rN t l s 5 s s o [kC s o] 1 sn' false:=by
 refine ⟨(sn.add 6).add 44,?_⟩
 have e:(m1 t l s 5 s s o [kC s o] 1 sn).step=if dh t s=true then m1 t l s 7 s s o [kC s o] 1 ((sn.add 6).add 44) else rN t l s 5 s s o [kC s o] 1 ((sn.add 6).add 44) false:=rfl
 rw [e,hb]
theorem EF:∃ sn',(m1 t l s 9 pos hd true [kC s true] 1 sn).step=rN t l s 9 pos pos true [kC s true] 1 sn' true:=⟨_,rfl⟩
theorem Bp:∃ sn',(m1 t l s 9 pos hd false [kC s false] 1 sn).step=rN t l s 9 pos pos false [kC s false] 1 sn' true:=⟨_,rfl⟩
theorem Oc {pc:Nat}:∃ sn',(rN t l s pc pos pos o [kC s o] 1 sn true).step=rN t l s 5 s pos o [] 0 sn' true:=⟨_,rfl⟩
theorem zB {pc:Nat} {b:Bool}:(rN t l s pc s pos o [] 0 sn b).step={rN t l s pc s pos o [] 0 sn b with outcome:=some (if b then .matched else .failed)}:=rfl
theorem o5 {pc:Nat}:∃ sn',(rN t l s pc pos hd o [kC s o] 1 sn false).step=if s<l then m1 t l (s+1) 5 (s+1) (s+1) false [kC (s+1) false] 1 sn' else rN t l s 5 s hd o [] 0 sn' false:=⟨_,rfl⟩
noncomputable def cj (t:Array Nat) (l s:Nat):Bool:=dh t s && decide (s<l) && t.getD s 0 == 46
theorem M4:∀ (n:Nat) (s:Nat) (o:Bool) (sn:XF),s<=l->l - s=n->∃ k m',k<=3 * n+8/\Reach k (m1 t l s 5 s s o [kC s o] 1 sn) m' /\
  ((∃ p,s<=p/\cj t l p=true/\(∀ q,s<=q->q<p->cj t l q=false)/\m'.outcome=some .matched/\m'.start=p/\m'.handed=p+1) \/
  ((∀ q,s<=q->cj t l q=false)/\m'.outcome=some .failed)):=by
 intro n
 induction n with
 | zero =>
  intro s o sn hs hn
  have:s=l:=by exact MU hs hn
  subst this
  have nd:∀ q,s<=q->cj t s q=false:=λq hq=>by
   unfold cj
   rw [decide_eq_false (by exact TP hq:¬ q<s)]
   simp
  refine ob1_1 (Kl (t:=t) (l:=s) (s:=s) (o:=o) (sn:=sn) rfl) λs1 e1=>?_
  cases hb:dh t s with
  | false =>
   rw [hb] at e1
   simp only [UC,if_false] at e1
   refine ob1_1 (o5 (t:=t) (l:=s) (s:=s) (pos:=s) (hd:=s) (o:=o) (sn:=s1) (pc:=5)) λs2 e2=>?_
   rw [if_neg (Tc _)] at e2
   refine ⟨3,{rN t s s 5 s s o [] 0 s2 false with outcome:=some .failed},by exact Sv _ _,.succ rfl ?_,.inr ⟨nd,rfl⟩⟩
   ·rw [e1];refine .succ rfl ?_
    rw [e2];refine .succ rfl ?_
    rw [zB];exact .zero _
  | true =>
   rw [hb] at e1
   simp only [if_true] at e1
   have e2:=gj (m:=m1 t s s 7 s s o [kC s o] 1 s1) rfl rfl (by decide:7<10) rfl (λh=>absurd h (Tc _))
   refine ob1_1 (o5 (t:=t) (l:=s) (s:=s) (pos:=s) (hd:=s) (o:=o) (sn:=s1.add 16) (pc:=7)) λs3 e3=>?_
   rw [if_neg (Tc _)] at e3
   refine ⟨4,{rN t s s 5 s s o [] 0 s3 false with outcome:=some .failed},by exact Sv _ _,.succ rfl ?_,.inr ⟨nd,rfl⟩⟩
   ·rw [e1];refine .succ rfl ?_
    rw [e2];refine .succ rfl ?_
    show Reach 1 (rN t s s 7 s s o [kC s o] 1 (s1.add 16) false).step _
    rw [e3];refine .succ rfl ?_
    rw [zB];exact .zero _
 | succ n ih =>
  intro s o sn hs hn
  have hlt:s<l:=by exact MQ hs hn
  refine ob1_1 (Kl (t:=t) (l:=l) (s:=s) (o:=o) (sn:=sn) rfl) λs1 e1=>?_
  have cont:cj t l s=false->∀ sn',(∃ k m',k<=3 * n+8/\Reach k (m1 t l (s+1) 5 (s+1) (s+1) false [kC (s+1) false] 1 sn') m' /\
   ((∃ p,s<=p/\cj t l p=true/\(∀ q,s<=q->q<p->cj t l q=false)/\m'.outcome=some .matched/\m'.start=p/\m'.handed=p+1) \/
  ((∀ q,s<=q->cj t l q=false)/\m'.outcome=some .failed))):=λnd sn'=>by
   refine ob2_3 (ih (s+1) false sn' (by exact Tj hlt) (by exact MO hs hn hlt)) λk m' hk r h=>?_
   refine ⟨k,m',hk,r,?_⟩
   rcases h with ⟨p,h1,h2,h3,h4⟩ | ⟨h1,h2⟩
   ·refine .inl ⟨p,by exact SE h1,h2,λq hq1 hq2=>?_,h4⟩
    rcases Vy hq1 with rfl | hl
    ·exact nd
    ·exact h3 q hl hq2
   ·refine .inr ⟨λq hq1=>?_,h2⟩
    rcases Vy hq1 with rfl | hl
    ·exact nd
    ·exact h1 q hl
  cases hb:dh t s with
  | false =>
   rw [hb] at e1
   simp only [UC,if_false] at e1
   refine ob1_1 (o5 (t:=t) (l:=l) (s:=s) (pos:=s) (hd:=s) (o:=o) (sn:=s1) (pc:=5)) λs2 e2=>?_
   rw [if_pos hlt] at e2
   refine ob2_3 (cont (by unfold cj;rw [hb];rfl) s2) λk m' hk r h=>?_
   refine ⟨k+1+1,m',by exact MN hn hk,.succ rfl ?_,h⟩
   rw [e1];refine .succ rfl ?_
   rw [e2];exact r
  | true =>
   rw [hb] at e1
   simp only [if_true] at e1
   by_cases hc:t.getD s 0=46
   ·have e2:=p_ (m:=m1 t l s 7 s s o [kC s o] 1 s1) rfl rfl (by decide:7<10) rfl hlt hc
    have e3:∃ sn',(m1 t l s 9 (s+1) s o [kC s o] 1 (s1.add 16)).step=rN t l s 9 (s+1) (s+1) o [kC s o] 1 sn' true:=by
     cases o
     ·exact Bp
     ·exact EF
    refine ob1_1 e3 λs3 e3=>ob1_1 (Oc (t:=t) (l:=l) (s:=s) (pos:=s+1) (o:=o) (sn:=s3) (pc:=9)) λs4 e4=>?_
    refine ⟨5,{rN t l s 5 s (s+1) o [] 0 s4 true with outcome:=some .matched},by exact Sv _ _,.succ rfl ?_,.inl ⟨s,Sz _,?_,λq h1 h2=>by exact C_ h1 h2,⟨rfl,rfl,rfl⟩⟩⟩
    ·rw [e1];refine .succ rfl ?_
     rw [e2];refine .succ rfl ?_
     show Reach 2 (m1 t l s 9 (s+1) s o [kC s o] 1 (s1.add 16)).step _
     rw [e3];refine .succ rfl ?_
     rw [e4];refine .succ rfl ?_
     rw [zB];exact .zero _
    ·unfold cj;rw [hb,decide_eq_true hlt,hc];rfl
   ·have e2:=gj (m:=m1 t l s 7 s s o [kC s o] 1 s1) rfl rfl (by decide:7<10) rfl (λz! => hc)
    refine ob1_1 (o5 (t:=t) (l:=l) (s:=s) (pos:=s) (hd:=s) (o:=o) (sn:=s1.add 16) (pc:=7)) λs3 e3=>?_
    rw [if_pos hlt] at e3
    refine ob2_3 (cont (by unfold cj;rw [beq_eq_false_iff_ne.mpr hc,Bool.and_false]) s3) λk m' hk r h=>?_
    refine ⟨k+1+1+1,m',by exact MM hn hk,.succ rfl ?_,h⟩
    rw [e1];refine .succ rfl ?_
    rw [e2];refine .succ rfl ?_
    show Reach k (rN t l s 7 s s o [kC s o] 1 (s1.add 16) false).step _
    rw [e3];exact r
theorem AJ {M:Model} {A:Around} {E:Value->Shared->Prop} {Q:Option Wj->Shared->Prop} {sh:Shared} (hs:s<=l) (hl:l<=2 ^ 30)
  (hyes:∀ p m',s<=p->cj t l p=true->(∀ q,s<=q->q<p->cj t l q=false)->m'.start=p->m'.handed=p+1->Q (some m') sh)
  (hno:(∀ q,s<=q->cj t l q=false)->Q none sh) :
  wpAny M A (W_ (VE cD t 0 s l false)) Q E sh:=by
 rcases Vy hs with rfl | hlt
 ·have e:∃ sn,VE cD t 0 s s false={code:=cD,text:=t,lim:=s,start:=s,pc:=5,pos:=s,handed:=s,marks:=#[],answer:=some false,seen:=sn}:=by
   unfold VE
   show ∃ sn,(if (decide (s > s) || decide (s - s<(Ww cD).1))=true then _ else _:Wj)=_
   rw [show (decide (s > s) || decide (s - s<(Ww cD).1))=true by rw [Nat.sub_self,show decide (0<(Ww cD).1)=true by decide +kernel,Bool.or_true]]
   exact ⟨_,rfl⟩
  refine ob1_1 e λsn e=>?_
  rw [e]
  refine dw (k:=1) (.succ rfl (.zero _)) (by decide) (.inr ⟨rfl,hno λq h1=>?_⟩)
  unfold cj
  rw [decide_eq_false (by exact TP h1:¬ q<s)]
  simp
 ·have e:∃ sn,VE cD t 0 s l false=m1 t l s 5 s s true [kC s true] 1 sn:=by
   unfold VE
   have h1:(decide (s > l) || decide (l - s<(Ww cD).1))=false:=by
    rw [show (Ww cD).1=1 from rfl]
    rw [Xd]
    exact ⟨decide_eq_false (by exact TP (Tf hlt)),decide_eq_false (by exact GP hlt)⟩
   show ∃ sn,(if (decide (s > l) || decide (l - s<(Ww cD).1))=true then _ else _:Wj)=_
   rw [h1]
   exact ⟨_,rfl⟩
  refine ob1_1 e λsn e=>?_
  rw [e]
  refine ob2_3 (M4 (t:=t) (l:=l) (l - s) s true sn hs rfl) λk m' hk r h=>?_
  refine dw (k:=k) (m':=m') r ?_ ?_
  ·exact Sn hk (Sn (Uz (Nat.mul_le_mul_left 3 (Sn (UI _ _) hl)) 8) (S1 rfl))
  ·rcases h with ⟨p,h1,h2,h3,h4,h5,h6⟩ | ⟨h1,h2⟩
   ·exact .inl ⟨h4,hyes p m' h1 h2 h3 h5 h6⟩
   ·exact .inr ⟨h2,hno h1⟩
end Mine
namespace Mine
open PySem PySem.W PyProof.Rows
open PySem.Builtin.Re PySem.Builtin
structure ee (h:Heap) (a ct:Addr) (code:Array Nat):Prop where
 pat:∃ src fl t,h.get? a=some {cls:=.type "re.Pattern",data:=.fields #[src,.int fl t,.int 0 0,.none,.none,.ref ct,.int 0 0]}
 tup:∃ items n,h.get? ct=some {cls:=.type "tuple",data:=.seq items n}/\(items.map reRawOf).map (·.toNat)=code
theorem ee.keeps {h h':Heap} {a ct code} (x:ee h a ct code) (k:∀ b o,h.get? b=some o->h'.get? b=some o):ee h' a ct code :=
 ⟨x.pat.imp λsrc h_=>h_.imp λfl h_=>h_.imp λt e=>k _ _ e,x.tup.imp λi h_=>h_.imp λn zz=>zz.elim λe f=>⟨k _ _ e,f⟩⟩
theorem pQ {prog:Program} {w:World} {A:Around} {E:Value->Shared->Prop} {Q:ReTarget->Shared->Prop} {s:Shared} {a ct:Addr} {code:Array Nat} {x:Str} {t:Tok} (p:ee s.heap a ct code)
  (hQ:Q {pattern:=.ref a,string:=.str x t,code:=code,text:=x.cps,kind:=0,groups:=0,pos:=0,lim:=x.cps.size} s):wpAny (model prog w) A (reWholeTarget (.ref a) (.str x t)) Q E s:=by
 refine ob3_1 p.pat λsrc fl tt hp=>ob2_2 p.tup λitems n ht hc=>?_
 unfold reWholeTarget
 refine Sl (WS hp rfl ?_)
 refine Sl (TU (show reTextOf (.str x t)=pure (x.cps,0) from rfl) ?_)
 show wpAny _ _ (if ((0:Nat) == 0 && (0:Nat) == 1)=true then _ else _) _ _ _
 rw [if_neg (by decide)]
 show wpAny _ _ (if ((0:Nat) == 1 && (0:Nat) == 0)=true then _ else _) _ _ _
 rw [if_neg (by decide)]
 refine Sl (TU (show reNoCollectionInside (.str x t) 0=pure () from rfl) ?_)
 refine Sl ?_
 show wpAny _ _ (reRawItems (.ref ct)) _ _ _
 unfold reRawItems
 refine Sl (Vr ht rfl (Sm ?_))
 refine Sm ?_
 show Q {pattern:=.ref a,string:=.str x t,code:=(items.map reRawOf).map (·.toNat),text:=x.cps,kind:=0,groups:=0,pos:=0,lim:=x.cps.size} s
 rw [hc]
 exact hQ
noncomputable def cG (next:Nat->Option (Nat×Nat)) (x r:Str):Nat->Nat->List Str
 | 0,_=>[]
 | fuel+1,done=>match next done with
  | some (b,e)=>(if done<b then [⟨x.cps.extract done b⟩] else [])++r::cG next x r fuel e
  | none=>if done<x.cps.size then [⟨x.cps.extract done x.cps.size⟩] else []
structure rL (code:Array Nat) (text:Array Nat) (next:Nat->Option (Nat×Nat)):Prop where
 run:∀ (M:Model) (A:Around) (E:Value->Shared->Prop) (Q:Option Wj->Shared->Prop) (sh:Shared) (start:Nat),start<=text.size ->
  (∀ b e m',next start=some (b,e)->m'.start=b->m'.handed=e->Q (some m') sh)->(next start=none->Q none sh) ->
  wpAny M A (reRunToEnd (VE code text 0 start text.size false)) Q E sh
 ok:∀ s b e,next s=some (b,e)->s<=b/\b<e/\e<=text.size
theorem jk (l m:List (Str×Tok)):strValues (l++m)=strValues l++strValues m:=by
 unfold strValues;simp
theorem jn {h:Heap} {L:Addr} {l:List (Str×Tok)} {c:Nat} {y:Str} {v:Tok} (hL:h.get? L=some {cls:=.type "list",data:=.seq (strValues l).toArray c}) :
  ∃ c',(h.update L (Vh λxs=>xs.push (.str y v))).get? L=some {cls:=.type "list",data:=.seq (strValues (l++[(y,v)])).toArray c'}:=by
 have hI:IsL h L (strValues l).toArray c:=hL
 have hu:=hI.update (λxs=>xs.push (.str y v))
 have e:(strValues l).toArray.push (.str y v)=(strValues (l++[(y,v)])).toArray:=by
  rw [jk];simp [strValues]
 rw [e] at hu
 exact ⟨_,hu⟩
theorem ee.keep {h h':Heap} {a ct:Addr} {code:Array Nat} (p:ee h a ct code) (k1:h'.get? a=h.get? a) (k2:h'.get? ct=h.get? ct):ee h' a ct code:=by
 obtain ⟨⟨src,fl,tt,pe⟩,⟨items,nn,te,tc⟩⟩:=p
 exact ⟨⟨src,fl,tt,k1.trans pe⟩,⟨items,nn,k2.trans te,tc⟩⟩
theorem P5 {a d h s f:Nat} (h1:a - d<f+1) (h2:d<=s) (h3:s<h) (h4:h<=a):a - h<f:=have e:=T_ h2 h3;Su (Xx (Su e h4) e) (V4 h1)
theorem iQ:lim<=sizeLine:=by decide
theorem zC {x:Array Nat} {i j:Nat} (h:x.size<=lim):(⟨x.extract i j⟩:Str).length<=sizeLine :=
 Sn (Sn (by show (x.extract i j).size<=_;rw [XQ];exact Sn (UI ..) (Wq ..)) h) iQ
theorem xF {n m:Nat} (h:n+m<=lim):n<=sizeLine/\n+1<=sizeLine+1:=have e:=Sn (Sn (TA ..) h) iQ;⟨e,TZ e⟩
theorem oh (l:List (Str×Tok)):(strValues l).toArray.size=l.length:=by simp [strValues]
theorem kh {l:List (Str×Tok)} {m:Nat} {v:Value} (h:l.length+m<=lim):(strValues l).toArray.size<=sizeLine/\((strValues l).toArray.push v).size<=sizeLine+1:=by
 rw [Array.size_push,oh];exact xF h
theorem kK {prog:Program} {w:World} {code:Array Nat} {next:Nat->Option (Nat×Nat)} {x r:Str} {t u:Tok} {a ct L:Addr} (hf:rL code x.cps next) (hx:x.length<=lim) (NZ:L≠a) (NY:L≠ct) :
  ∀ (fuel done:Nat) (n:Int) (l:List (Str×Tok)) (c:Nat) (A:Around) (R:Result->Shared->Prop) (s:Shared),x.cps.size - done<fuel->done<=x.cps.size->ee s.heap a ct code ->
   s.heap.get? L=some {cls:=.type "list",data:=.seq (strValues l).toArray c}->l.length+(cG next x r fuel done).length<=lim ->
   ((l.map (·.1)++cG next x r fuel done).map (·.length)).sum<=lim ->
   (∀ h' tk t',Uq L s.heap h'->(∃ o,h'.get? L=some o)->R (.ok (.ret (.str (SP "" (l.map (·.1)++cG next x r fuel done)) t'))) {s with heap:=h',toks:=tk}) ->
   wpAny (model prog w) A.in1 (Builtin.«re.Pattern.sub.loop» ⟨[.ref a,.str x t,.str r u,rawInt 0,rawInt 0,rawInt n,rawInt done,rawInt done,.bool false,.ref L,.bool false],[]⟩)
    (λfin s'=>match fin with | .done f=>R (.ok f) s' | .again c'=>c'.quiet=true/\codeAny (model prog w) A c' R s') (λe s'=>R (.error e) s') s
 | 0,done,n,l,c,A,R,s,hfu,hd,p,hL,hn,hsum,hR=>absurd hfu (Nat.not_lt_zero _)
 | fuel+1,done,n,l,c,A,R,s,hfu,hd,p,hL,hn,hsum,hR=>by
  unfold Builtin.«re.Pattern.sub.loop»
  refine Sl (m:=reWholeTarget (.ref a) (.str x t)) (pQ p ?_)
  refine Sl (m:=reLiteralCannotBeTurned (.str r u)) (TU (show reLiteralCannotBeTurned (.str r u)=pure () from rfl) (Sl (m:=reRunToEnd _) ?_))
  refine hf.run _ _ _ _ _ done hd (λb e m' Lf hb he=>?_) (λLf=>?_)
  ·subst hb he
   refine ob0_3 (hf.ok _ _ _ Lf) λo1 o2 o3=>?_
   have es:cG next x r (fuel+1) done=(if done<m'.start then [⟨x.cps.extract done m'.start⟩] else [])++r::cG next x r fuel m'.handed:=by
    rw [cG,Lf]
   have QJ:(Yd r u != V7)=true:=rfl
   have zl:∀ (s₁:Shared) (l₁:List (Str×Tok)) (c₁:Nat),s₁.heap.get? L=some {cls:=.type "list",data:=.seq (strValues l₁).toArray c₁}->l₁.map (·.1)=l.map (·.1)++(if done<m'.start then [⟨x.cps.extract done m'.start⟩] else []) ->
     Uq L s.heap s₁.heap->s₁={s with heap:=s₁.heap,toks:=s₁.toks} ->
     wpAny (model prog w) A.in1 (do
       let item<-pure (Yd r u)
       if (item != V7)=true then do
        updateSeq L λx=>x.push item
        again (Code.builtin "re.Pattern.sub.loop" {pos:=[Vp a,Yd x t,Yd r u,rawInt 0,rawInt 0,rawInt (n+1),rawInt ↑m'.handed,rawInt ↑m'.handed,Value.bool (m'.handed == m'.start),Vp L,Value.bool false]})
       else again (Code.builtin "re.Pattern.sub.loop" {pos:=[Vp a,Yd x t,Yd r u,rawInt 0,rawInt 0,rawInt (n+1),rawInt ↑m'.handed,rawInt ↑m'.handed,Value.bool (m'.handed == m'.start),Vp L,Value.bool false]}))
      (λfin s'=>match fin with | .done f=>R (.ok f) s' | .again c'=>c'.quiet=true/\codeAny (model prog w) A c' R s') (λe s'=>R (.error e) s') s₁:=by
    intro s₁ l₁ c₁ gW hl₁ hs₁ es₁
    have hn2:l₁.length+1+(cG next x r fuel m'.handed).length<=lim:=by
     have h1:=congrArg Wm hl₁
     rw [Sq,SY,Sq] at h1
     rw [es,SY,Tr] at hn
     rw [h1,UY,Vw 1,UY]
     exact hn
    have ND:l₁.length+(cG next x r fuel m'.handed).length+1<=lim:=by rw [Vz];exact hn2
    refine Sl (Sm ?_)
    rw [if_pos QJ]
    refine Sl (VP gW rfl ?_ ?_ ?_)
    ·refine Sm ⟨VF cO _,Va gB ?_⟩
     rw [Un cO _]
     rw [beq_eq_false_iff_ne.mpr (Vv o2)]
     refine ob1_1 (jn (y:=r) (v:=u) gW) λc₂ J_=>?_
     have Bb:Uq L s₁.heap (s₁.heap.update L (Vh λxs=>xs.push (.str r u))):=.update ..
     have Km:(l₁++[(r,u)]).map (·.1)++cG next x r fuel m'.handed=l.map (·.1)++cG next x r (fuel+1) done:=by
      rw [es,Ti,hl₁];simp
     refine kK hf hx NZ NY fuel m'.handed (n+1) (l₁++[(r,u)]) c₂ A R _ (P5 hfu o1 o2 o3) o3 (p.keep ((Bb.2 a NZ.symm).trans (hs₁.2 a NZ.symm)) ((Bb.2 ct NY.symm).trans (hs₁.2 ct NY.symm))) J_ ?_ ?_ ?_
     ·rw [SY];exact hn2
     ·rw [Km];exact hsum
     ·intro h' tk t' hs' hal
      rw [Km]
      have:({s₁ with heap:=h',toks:=tk}:Shared)={s with heap:=h',toks:=tk}:=by rw [es₁]
      show R _ ({s₁ with heap:=h',toks:=tk}:Shared)
      rw [this]
      exact hR h' tk t' ⟨hs'.1.trans (Bb.1.trans hs₁.1),λb' hb'=>(hs'.2 b' hb').trans ((Bb.2 b' hb').trans (hs₁.2 b' hb'))⟩ hal
    ·rw [oh]
     exact Sn (Sn (S5 (TA ..)) ND) iQ
    ·rw [Array.size_push,oh]
     exact S5 (Sn (Sn (TA ..) hn2) iQ)
   show wpAny _ _ (if done<m'.start then _ else _) _ _ _
   by_cases hdb:done<m'.start
   ·refine Mine.rwT (if_pos hdb) ?_
    refine Sl (wpAny_mkStr (x:=⟨x.cps.extract done m'.start⟩) ?_ (zC hx))
    refine Sl (VP (s:={s with toks:=s.toks+1}) hL rfl ?_ (kh (v:=.none) hn).1 (kh hn).2)
    rw [if_pos (by decide)]
    refine ob1_1 (jn (y:=⟨x.cps.extract done m'.start⟩) (v:=s.toks) hL) λc₁ gW=>?_
    refine zl {s with heap:=s.heap.update L (Vh λxs=>xs.push (.str ⟨x.cps.extract done m'.start⟩ s.toks)),toks:=s.toks+1} (l++[(⟨x.cps.extract done m'.start⟩,s.toks)]) c₁ gW (by refine Mine.rwT (if_pos hdb) ?_;simp) (.update ..) rfl
   ·rw [if_neg hdb,if_pos (by decide)]
    exact zl s l c hL (by refine Mine.rwT (if_neg hdb) ?_;simp) (.refl ..) rfl
  ·dsimp only
   have es:cG next x r (fuel+1) done=if done<x.cps.size then [⟨x.cps.extract done x.cps.size⟩] else []:=by
    rw [cG,Lf]
   have zl:∀ (s₁:Shared) (l₁:List (Str×Tok)) (c₁:Nat),s₁.heap.get? L=some {cls:=.type "list",data:=.seq (strValues l₁).toArray c₁}->l₁.map (·.1)=l.map (·.1)++cG next x r (fuel+1) done ->
     Uq L s.heap s₁.heap->s₁={s with heap:=s₁.heap,toks:=s₁.toks} ->
     wpAny (model prog w) A.in1 (do
      let yP<-reSlice x.cps 0 0 0
      let __do_lift<-seqItems? (Vp L)
      if (__do_lift.getD #[]).isEmpty=true then do
       let text<-pure yP
       if false=true then do
        let __do_lift<-holding [text] do
         let __do_lift<-mkInt n
         newTuple [text,__do_lift]
        ret __do_lift
       else ret text
      else do
       let text<-call (Vs (if ((0:Nat) == 0)=true then "str.join" else "bytes.join")) [yP,Vp L]
       if false=true then do
        let __do_lift<-holding [text] do
         let __do_lift<-mkInt n
         newTuple [text,__do_lift]
        ret __do_lift
       else ret text)
      (λfin s'=>match fin with | .done f=>R (.ok f) s' | .again c'=>c'.quiet=true/\codeAny (model prog w) A c' R s') (λe s'=>R (.error e) s') s₁:=by
    intro s₁ l₁ c₁ gW hl₁ hs₁ es₁
    have e0:(⟨x.cps.extract 0 0⟩:Str)="":=by
     show (⟨x.cps.extract 0 0⟩:Str)=⟨#[]⟩
     simp
    have fin:∀ tk t',R (.ok (.ret (.str (SP "" (l₁.map (·.1))) t'))) {s₁ with toks:=tk}:=λtk t'=>by
     rw [hl₁]
     have:({s₁ with toks:=tk}:Shared)={s with heap:=s₁.heap,toks:=tk}:=by rw [es₁]
     rw [this]
     exact hR _ _ _ hs₁ ⟨_,gW⟩
    refine Sl (wpAny_mkStr (x:=⟨x.cps.extract 0 0⟩) ?_ (by rw [e0];decide))
    rw [e0]
    refine Sl (Vr (s:={s₁ with toks:=s₁.toks+1}) gW rfl ?_)
    by_cases hem:l₁=[]
    ·subst hem
     rw [if_pos (by rfl)]
     exact Sm (fin (s₁.toks+1) s₁.toks)
    ·rw [if_neg (by cases l₁ with | nil=>exact absurd rfl hem | cons a b=>simp [strValues])]
     refine Sl ?_
     show wpAny _ _ (call (.builtin "str.join") [.str "" s₁.toks,.ref L]) _ _ _
     refine SC.join (l:=l₁) (texts:=l₁.map (·.1)) ⟨_,gW,rfl,c₁,rfl⟩ rfl (joinOk_of ?_) λt' k=>?_
     ·have h1:=hsum
      rw [<- hl₁] at h1
      rw [show ("":Str).length=0 from rfl]
      rw [Nat.mul_zero]
      exact Sn h1 (S1 rfl)
     ·rw [show Txt.join "" (l₁.map (·.1))=SP "" (l₁.map (·.1)) from Wz ..]
      exact Sm (fin k t')
   by_cases hdb:done<x.cps.size
   ·refine Mine.rwT (if_pos hdb) ?_
    refine Sl (wpAny_mkStr (x:=⟨x.cps.extract done x.cps.size⟩) ?_ (zC hx))
    refine Sl (VP (s:={s with toks:=s.toks+1}) hL rfl ?_ (kh (v:=.none) hn).1 (kh hn).2)
    refine ob1_1 (jn (y:=⟨x.cps.extract done x.cps.size⟩) (v:=s.toks) hL) λc₁ gW=>?_
    exact zl {s with heap:=s.heap.update L (Vh λxs=>xs.push (.str ⟨x.cps.extract done x.cps.size⟩ s.toks)),toks:=s.toks+1} (l++[(⟨x.cps.extract done x.cps.size⟩,s.toks)]) c₁ gW (by rw [es,if_pos hdb];simp) (.update ..) rfl
   ·refine Mine.rwT (if_neg hdb) ?_
    exact zl s l c hL (by rw [es,if_neg hdb];simp) (.refl ..) rfl
noncomputable def vA (next:Nat->Option (Nat×Nat)) (x r:Str):Str:=SP "" (cG next x r (x.length+1) 0)
theorem p9:typeLookup (.type "str") "__call__"=pure none:=by rw [Uj,TG];kernel_rfl
theorem De {prog:Program} {w:World} {code:Array Nat} {next:Nat->Option (Nat×Nat)} {x r:Str} {t u:Tok} {a ct:Addr} (hf:rL code x.cps next) (hx:x.length<=lim) (hr:r.cps.contains 92=false)
  {A:Around} {Q E:Value->Shared->Prop} {s:Shared} (p:ee s.heap a ct code) (hn:(cG next x r (x.length+1) 0).length<=lim) (hsum:((cG next x r (x.length+1) 0).map (·.length)).sum<=lim)
  (hQ:∀ h' tk t',(∀ b o,s.heap.get? b=some o->h'.get? b=some o)->Q (.str (vA next x r) t') {s with heap:=h',toks:=tk}) :
  wpAny (model prog w) A (call (.builtin "re.Pattern.sub") [.ref a,.str r u,.str x t]) Q E s:=by
 refine ob3_1 p.pat λsrc fl tt hp=>?_
 refine call_meetsIn (S:=λA R s'=>s'=s/\R=wants Q E) fz ⟨_,hp,rfl⟩ mR (pF _ _ _) (λA R s' h=>?_) ⟨rfl,rfl⟩
 refine ob0_2 h λbM aC=>?_;obtain rfl:=bM;obtain rfl:=aC
 unfold Builtin.«re.Pattern.sub» reSubstitute
 show wpAny _ _ (reNamed "re.Pattern.sub" "sub" ["repl","string","count"] 2 [.str r u,.str x t] [] >>= _) _ _ _
 refine Sl (TU (show reNamed "re.Pattern.sub" "sub" ["repl","string","count"] 2 [.str r u,.str x t] []=pure [some (.str r u),some (.str x t),none] from rfl) ?_)
 dsimp only
 refine Sl (Sm ?_)
 refine Sl (W5 (Wv _ _ _) p9 ?_)
 rw [if_neg (by decide)]
 refine Sl (TU (show asStr? (.str r u)=pure (some r) from rfl) ?_)
 dsimp only
 refine Sl (Sm ?_)
 rw [if_neg (by decide),if_pos (by rw [hr];rfl)]
 refine Sl (Sm ?_)
 dsimp only
 refine Sl (Sy (pQ p ?_))
 rw [if_neg (by decide)]
 refine Sl (T6 ?_)
 have hlim:lim=1048576:=by decide
 refine ob2_2 p.tup λitems nn hct hc=>?_
 have ha:s'.heap.objs.size≠a:=Ne.symm (T9 (Te hp))
 have hb:s'.heap.objs.size≠ct:=Ne.symm (T9 (Te hct))
 refine Sm ⟨VF cO _,Va gB ?_⟩
 rw [Un cO _]
 refine kK hf hx ha hb (x.length+1) 0 0 [] 0 A _ {s' with heap:=s'.heap.push {cls:=.type "list",data:=.seq #[]}} (SN (UI _ _)) (Td _)
  (p.keeps λb o e=>Sw _ e) (SH _ rfl) (by simpa using hn) (by simpa using hsum) (λh' tk t' hs' hal=>?_)
 show Q _ _
 refine hQ h' tk t' λb o e=>?_
 exact (hs'.2 b (T9 (Te e))).trans (Sw _ e)
end Mine
namespace Mine
open PySem PySem.W PyProof.Rows
open PySem.Builtin.Re PySem.Builtin
noncomputable def bJ (p:Nat->Bool) (l:Nat):Nat->Nat->Option Nat
 | 0,_=>none
 | n+1,s=>if s<l then (if p s then some s else bJ p l n (s+1)) else none
theorem bW {p:Nat->Bool} {l:Nat}:∀ (n s:Nat) {q:Nat},bJ p l n s=some q->s<=q/\q<l/\p q=true/\∀ k,s<=k->k<q->p k=false
 | 0,s,q,h=>by cases h
 | n+1,s,q,h=>by
  rw [bJ] at h
  by_cases hs:s<l
  ·rw [if_pos hs] at h
   by_cases hp:p s=true
   ·rw [if_pos hp] at h;cases h
    exact ⟨Sz _,hs,hp,λk h1 h2=>absurd h2 (TP h1)⟩
   ·rw [if_neg hp] at h
    refine ob0_4 (bW n (s+1) h) λa b c d=>?_
    exact ⟨SE a,b,c,λk h1 h2=>(Vy h1).elim (λe=>e▸eq_false_of_ne_true hp) λhl=>d k hl h2⟩
  ·rw [if_neg hs] at h;cases h
theorem di {p:Nat->Bool} {l:Nat}:∀ (n s:Nat),l<=s+n->bJ p l n s=none->∀ k,s<=k->k<l->p k=false
 | 0,s,hn,h,k,h1,h2=>absurd (Su h2 hn) (TP h1)
 | n+1,s,hn,h,k,h1,h2=>by
  rw [bJ,if_pos (T_ h1 h2)] at h
  by_cases hp:p s=true
  ·rw [if_pos hp] at h;cases h
  ·rw [if_neg hp] at h
   exact (Vy h1).elim (λe=>e▸eq_false_of_ne_true hp) λhl=>di n (s+1) (Sn hn (SI (Nat.succ_add s n).symm)) h k hl h2
theorem oX (l s:Nat):l<=s+(l+1):=Sn (Uw l) (Sv ..)
theorem uH {p:Nat->Bool} {l s q:Nat} (h1:s<=q) (h2:q<l) (h3:p q=true) (h4:∀ k,s<=k->k<q->p k=false):bJ p l (l+1) s=some q:=by
 cases hf:bJ p l (l+1) s with
 | none=>exact absurd (h3.symm.trans (di _ _ (oX l s) hf q h1 h2)) (by decide)
 | some k =>
  refine ob0_4 (bW _ _ hf) λa b c d=>?_
  rcases Nat.lt_trichotomy k q with hl | he | hg
  ·exact absurd (c.symm.trans (h4 k a hl)) (by decide)
  ·rw [he]
  ·exact absurd (h3.symm.trans (d q h1 hg)) (by decide)
theorem uG {p:Nat->Bool} {l s:Nat} (h:∀ k,s<=k->k<l->p k=false):bJ p l (l+1) s=none:=by
 cases hf:bJ p l (l+1) s with
 | none=>rfl
 | some k =>
  refine ob0_4 (bW _ _ hf) λa b c d=>?_
  exact absurd (c.symm.trans (h k a b)) (by decide)
theorem qV {p:Nat->Bool} {l s b e:Nat} {f:Nat->Nat} (h:((bJ p l (l+1) s).map λq=>(q,f q))=some (b,e)):s<=b/\b<l/\e=f b:=by
 refine ob1_2 (Tn.mp h) λq hq e=>?_
 cases e
 refine ob0_4 (bW _ _ hq) λa b c d=>?_
 exact ⟨a,b,rfl⟩
noncomputable def nl (t:Array Nat) (q:Nat):Bool:=dc (t.getD q 0)
noncomputable def jM (t:Array Nat) (s:Nat):Option (Nat×Nat):=(bJ (nl t) t.size (t.size+1) s).map λp=>(p,mS t t.size p)
noncomputable def jN (t:Array Nat) (s:Nat):Option (Nat×Nat):=(bJ (cj t t.size) t.size (t.size+1) s).map λp=>(p,p+1)
theorem uO {t:Array Nat} {p:Nat} (h:p<t.size):p<mS t t.size p/\mS t t.size p<=t.size:=by
 unfold mS
 by_cases hc:t.getD p 0=13/\p+1<t.size/\t.getD (p+1) 0=10
 ·rw [if_pos hc];exact ⟨Tu (UU p),hc.2.1⟩
 ·rw [if_neg hc];exact ⟨UU p,h⟩
theorem zw (t:Array Nat):rL bL t (jM t) where
 run:=λM A E Q sh s hs hy hn=>AI hs (λp m' h1 h2 h3 h4 h5 h6=>hy p (mS t t.size p) m' (by rw [jM,uH (p:=nl t) h1 h2 h3 h4];rfl) h5 h6) λh=>hn (by rw [jM,uG (p:=nl t) h];rfl)
 ok:=λs b e h=>by
  refine ob0_3 (qV h) λh1 h2 aA=>?_;obtain rfl:=aA
  exact ⟨h1,uO h2⟩
theorem EJ {t:Array Nat} {p l:Nat} (h:cj t l p=true):p<l:=by
 unfold cj at h
 exact of_decide_eq_true (TL.mp (TL.mp h).1).2
theorem zx (t:Array Nat) (ht:t.size<=lim):rL cD t (jN t) where
 run:=λM A E Q sh s hs hy hn=>AJ hs (Sn ht (by decide)) (λp m' h1 h3 h4 h5 h6=>hy p (p+1) m' (by rw [jN,uH h1 (EJ h3) h3 h4];rfl) h5 h6) λh=>hn (by rw [jN,uG λk hk z! => h k hk];rfl)
 ok:=λs b e h=>by
  refine ob0_3 (qV h) λh1 h2 aA=>?_;obtain rfl:=aA
  exact ⟨h1,UU _,h2⟩
noncomputable def crlf:List Nat->List Nat
 | []=>[]
 | [c]=>if dc c then [13,10] else [c]
 | c::d::r=>if c=13/\d=10 then 13::10::crlf r else if dc c then 13::10::crlf (d::r) else c::crlf (d::r)
noncomputable def dots:Bool->List Nat->List Nat
 | _,[]=>[]
 | b,c::r=>(if b && c == 46 then [46,46] else [c])++dots (c == 10) r
theorem lX {c:Nat} {r:List Nat} (h:dc c=false):crlf (c::r)=c::crlf r:=by
 have RA:¬ c=13:=by rintro rfl;cases h
 cases r with
 | nil=>show (if dc c=true then [13,10] else [c])=_;rw [h];rfl
 | cons d r=>rw [crlf,if_neg (λhh=>RA hh.1),h];rfl
theorem lY:∀ (pre:List Nat) (r:List Nat),(∀ c∈pre,dc c=false)->crlf (pre++r)=pre++crlf r
 | [],r,_=>rfl
 | c::pre,r,h=>by
  rw [Vb,lX (h c (So ..)),lY pre r λc hc=>h c (Ss _ hc)];rfl
theorem ju:∀ (ys:List Str),(SP "" ys).cps.toList=(ys.map λy=>y.cps.toList).flatten
 | []=>rfl
 | [x]=>by simp [SP]
 | x::y::r=>by
  rw [show SP "" (x::y::r)=x++""++SP "" (y::r) from rfl,S_,VI,<- ju (y::r)]
  show ((x.cps ++ #[])++(SP "" (y::r)).cps).toList=_
  simp
theorem eU {t:Array Nat} {p:Nat} (h:p<t.size):t.toList.drop p=t.getD p 0::t.toList.drop (p+1):=by
 rw [Xu (by simpa using h)]
 simp [Array.getD,h]
theorem lS {t:Array Nat} {d p:Nat} (h1:d<=p) (h2:p<=t.size):t.toList.drop d=(t.extract d p).toList++t.toList.drop p:=by
 rw [U9]
 have:t.toList.drop p=(t.toList.drop d).drop (p - d):=by rw [List.drop_drop];congr 1;exact Eq.symm (UG h1)
 rw [this]
 show _=(t.toList.drop d).take (p - d)++_
 rw [Ur]
theorem jO {t:Array Nat} {d p c:Nat} (h:c∈(t.extract d p).toList):∃ q,d<=q/\q<p/\q<t.size/\t.getD q 0=c:=by
 refine ob1_1 (List.getElem_of_mem h) λi az=>ob1_1 az λhi e=>?_
 have hi':i<(t.extract d p).size:=hi
 rw [XQ] at hi'
 have h2:d+i<min p t.size:=Nat.add_lt_of_lt_sub' hi'
 have h3:=Su h2 (Wq ..)
 refine ⟨d+i,TA ..,Su h2 (Nat.min_le_left ..),h3,?_⟩
 rw [<- e]
 simp [Array.getD,h3]
theorem uE {n d f e:Nat} (h:n<d+(f+1)) (he:d<e):n<e+f:=Su h (Sn (SI (Nat.succ_add d f).symm) (Uz he f))
theorem i_ {x:Str} {d p:Nat} (h:d<=p):((if d<p then [(⟨x.cps.extract d p⟩:Str)] else []).map λy=>y.cps.toList).flatten=(x.cps.extract d p).toList:=by
 by_cases hl:d<p
 ·rw [if_pos hl];exact S6 _
 ·rw [if_neg hl,Ub h (Ua hl),Array.extract_empty_of_stop_le_start (Sz p)];rfl
theorem qZ (t:Array Nat):t.toList.drop t.size=[]:=Ug (Sz _)
theorem t8 (x:Str):∀ (fuel done:Nat),x.cps.size<done+fuel->done<=x.cps.size ->
  ((cG (jM x.cps) x ⟨#[13,10]⟩ fuel done).map λy=>y.cps.toList).flatten=crlf (x.cps.toList.drop done)
 | 0,done,h,hd=>absurd h (TP hd)
 | fuel+1,done,h,hd=>by
  rw [cG]
  cases hf:bJ (nl x.cps) x.cps.size (x.cps.size+1) done with
  | none =>
   rw [jM,hf]
   have hno:=di _ _ (oX ..) hf
   have hc:∀ c∈(x.cps.extract done x.cps.size).toList,dc c=false:=λc hc=>by
    refine ob1_4 (jO hc) λq h1 h2 h3 xg=>?_;obtain rfl:=xg
    exact hno q h1 h2
   exact (i_ hd).trans (by rw [lS hd (Sz _),lY _ _ hc,qZ];exact (S6 _).symm)
  | some p =>
   refine ob0_4 (bW _ _ hf) λa b c d=>?_
   rw [jM,hf]
   have ne:=uO b
   have hc:∀ c∈(x.cps.extract done p).toList,dc c=false:=λc hc=>by
    refine ob1_4 (jO hc) λq h1 h2 h3 xg=>?_;obtain rfl:=xg
    exact d q h1 h2
   show (((if done<p then [(⟨x.cps.extract done p⟩:Str)] else [])++⟨#[13,10]⟩::cG (jM x.cps) x ⟨#[13,10]⟩ fuel (mS x.cps x.cps.size p)).map λy=>y.cps.toList).flatten=_
   rw [Ti,S_,List.flatten_append,VI,t8 x fuel _ (uE h (T_ a ne.1)) ne.2,i_ a,lS a (Tf b),lY _ _ hc]
   refine congrArg _ ?_
   show 13::10::crlf _=_
   rw [eU b]
   unfold mS
   by_cases hc:x.cps.getD p 0=13/\p+1<x.cps.size/\x.cps.getD (p+1) 0=10
   ·rw [if_pos hc,eU hc.2.1,crlf,if_pos ⟨hc.1,hc.2.2⟩]
   ·rw [if_neg hc]
    by_cases hp:p+1<x.cps.size
    ·rw [eU hp,crlf,if_neg (λhh=>hc ⟨hh.1,hp,hh.2⟩),if_pos (show dc (x.cps.getD p 0)=true from c)]
    ·rw [Ug (Ua hp)]
     show _=(if dc (x.cps.getD p 0)=true then [13,10] else [x.cps.getD p 0])
     rw [if_pos (show dc (x.cps.getD p 0)=true from c)];try rfl
theorem uq (t:Array Nat) (d:Nat):dh t (d+1)=(t.getD d 0 == 10):=by
 unfold dh
 rw [show (d+1 == 0)=false from rfl,Bool.false_or,Uk]
theorem lT (t:Array Nat):∀ (n d:Nat),d+n<=t.size->(∀ q,d<=q->q<d+n->cj t t.size q=false) ->
  dots (dh t d) (t.toList.drop d)=(t.toList.drop d).take n++dots (dh t (d+n)) (t.toList.drop (d+n))
 | 0,d,h2,h3=>rfl
 | n+1,d,h2,h3=>by
  have hs:d+1+n=d+(n+1):=Nat.succ_add d n
  have hd:d<t.size:=Su (Nat.lt_add_of_pos_right (Xr n)) h2
  have h0:=h3 d (Sz _) (Nat.lt_add_of_pos_right (Xr n))
  unfold cj at h0
  rw [decide_eq_true hd,Bool.and_true] at h0
  rw [eU hd,dots,h0,<- uq,lT t n (d+1) (hs▸h2) λq hq1 hq2=>h3 q (SE hq1) (hs▸hq2),hs]
  try rfl
theorem t9 (x:Str):∀ (fuel done:Nat),x.cps.size<done+fuel->done<=x.cps.size ->
  ((cG (jN x.cps) x ⟨#[46,46]⟩ fuel done).map λy=>y.cps.toList).flatten=dots (dh x.cps done) (x.cps.toList.drop done)
 | 0,done,h,hd=>absurd h (TP hd)
 | fuel+1,done,h,hd=>by
  have plain:∀ p,done<=p->p<=x.cps.size->(∀ q,done<=q->q<p->cj x.cps x.cps.size q=false)->dots (dh x.cps done) (x.cps.toList.drop done)=(x.cps.extract done p).toList++dots (dh x.cps p) (x.cps.toList.drop p):=λp a b d=>by
   have e:=VJ a
   have:=lT x.cps (p - done) done (e.symm▸b) (e.symm▸d)
   rw [e] at this
   rw [this,U9]
   try rfl
  rw [cG]
  cases hf:bJ (cj x.cps x.cps.size) x.cps.size (x.cps.size+1) done with
  | none =>
   rw [jN,hf]
   exact (i_ hd).trans (by rw [plain x.cps.size hd (Sz _) (di _ _ (oX ..) hf),qZ];exact (S6 _).symm)
  | some p =>
   refine ob0_4 (bW _ _ hf) λa b c d=>?_
   rw [jN,hf]
   show (((if done<p then [(⟨x.cps.extract done p⟩:Str)] else [])++⟨#[46,46]⟩::cG (jN x.cps) x ⟨#[46,46]⟩ fuel (p+1)).map λy=>y.cps.toList).flatten=_
   rw [Ti,S_,List.flatten_append,VI,t9 x fuel _ (uE h (SN a)) b,i_ a,plain p a (Tf b) d]
   refine congrArg _ ?_
   unfold cj at c
   have c1:=TL.mp c
   have c2:x.cps.getD p 0=46:=Vc c1.2
   rw [eU b,dots,uq,(TL.mp c1.1).1,c2]
   try rfl
noncomputable def quoted (x:Str):Str:=⟨(dots true (crlf x.cps.toList)).toArray⟩
theorem xK (x:Str):vA (jM x.cps) x ⟨#[13,10]⟩=⟨(crlf x.cps.toList).toArray⟩:=by
 have h:=t8 x (x.length+1) 0 (Su (UU _) (Sv ..)) (Td _)
 rw [<- ju,VK] at h
 unfold vA
 rw [<- h]
theorem xM (x:Str):vA (jN x.cps) x ⟨#[46,46]⟩=⟨(dots true x.cps.toList).toArray⟩:=by
 have h:=t9 x (x.length+1) 0 (Su (UU _) (Sv ..)) (Td _)
 rw [<- ju,VK] at h
 unfold vA
 rw [show dots true x.cps.toList=dots (dh x.cps 0) x.cps.toList from rfl,<- h]
theorem Oe {p q k l:Nat} (h:l<=2 * k+1) (hp:0<p):l+1+1<=2 * (p+q+1+k)+1:=by exact F0 h hp
theorem Od {p q k l:Nat} (h:l<=2 * k+1):l+1<=2 * (p+q+1+k)+1:=by exact FZ h
theorem KA {p q k r s:Nat} (h:s<=k * (r+1)):p+(r+s)<=(p+q+1+k) * (r+1):=by
 rw [Nat.add_mul,Nat.add_mul,Nat.one_mul,<- UY]
 exact VL (VL (Sn (Nat.le_mul_of_pos_right p (Xr r)) (V1 _ (TA p q))) (Uw r)) h
theorem p8 {next:Nat->Option (Nat×Nat)} {x r:Str} (hok:∀ s b e,next s=some (b,e)->s<=b/\b<e/\e<=x.cps.size):∀ (fuel done k:Nat),done+k=x.cps.size ->
  (cG next x r fuel done).length<=2 * k+1/\((cG next x r fuel done).map (·.length)).sum<=k * (r.length+1)
 | 0,done,k,_=>⟨Td _,Td _⟩
 | fuel+1,done,k,hd=>by
  rw [cG]
  cases hn:next done with
  | none =>
   by_cases hl:done<x.cps.size
   ·simp only [if_pos hl]
    refine ⟨Sv 1 _,?_⟩
    show (x.cps.extract done x.cps.size).size+0<=_
    rw [XQ,Nat.min_self,<- hd,U8]
    exact Nat.le_mul_of_pos_right _ (Xr _)
   ·simp only [if_neg hl]
    exact ⟨Td _,Td _⟩
  | some be =>
   obtain ⟨b,e⟩:=be
   refine ob0_3 (hok _ _ _ hn) λo1 o2 o3=>ob1_1 (Nat.exists_eq_add_of_le o1) λp aC=>?_;obtain rfl:=aC
   refine ob1_1 (Nat.exists_eq_add_of_lt o2) λq aC=>?_;obtain rfl:=aC
   refine ob1_1 (Nat.exists_eq_add_of_le o3) λk' hk'=>?_
   have hk:k=p+q+1+k':=by exact FY hd hk'
   subst hk
   refine ob0_2 (p8 (r:=r) hok fuel (done+p+q+1) k' hk'.symm) λi1 i2=>?_
   by_cases hl:done<done+p
   ·simp only [if_pos hl]
    refine ⟨Oe i1 (Nat.pos_of_lt_add_right hl),?_⟩
    show (x.cps.extract done (done+p)).size+(r.length+((cG next x r fuel (done+p+q+1)).map (·.length)).sum)<=_
    rw [XQ,V8 (Sn (Tf o2) o3),U8]
    exact KA i2
   ·simp only [if_neg hl]
    exact ⟨Od i1,Sn (Sv ..) (KA i2)⟩
theorem kT {next:Nat->Option (Nat×Nat)} {x r:Str} (hok:∀ s b e,next s=some (b,e)->s<=b/\b<e/\e<=x.cps.size) (fuel done:Nat) (hd:done<=x.cps.size) :
  (cG next x r fuel done).length<=2 * (x.cps.size - done)+1/\((cG next x r fuel done).map (·.length)).sum<=(x.cps.size - done) * (r.length+1):=p8 hok fuel done _ (VJ hd)
theorem ja:∀ (n:Nat) (l:List Nat),l.length<=n->(crlf l).length<=2 * l.length
 | 0,[],_=>by simp [crlf]
 | 0,_::_,h=>by simp at h
 | n+1,[],_=>by simp [crlf]
 | n+1,[c],_=>by
  show (if dc c=true then [13,10] else [c]).length<=_
  split <;> simp
 | n+1,c::d::r,h=>by
  have h1:=ja n r (by simp at h;exact SE h)
  have h2:=ja n (d::r) (by simp at h ⊢;exact h)
  rw [crlf]
  split
  ·simp only [Tr];exact VL (TZ (S5 h1)) (Sv _ _)
  ·split
   ·exact Uz h2 2
   ·exact S5 (TZ h2)
theorem lU:∀ (l:List Nat) (b:Bool),(dots b l).length<=2 * l.length
 | [],b=>by simp [dots]
 | c::r,b=>by
  have:=lU r (c == 10)
  rw [dots,SY]
  split
  ·exact Sn (SI (Vw _ _)) (Uz this 2)
  ·exact Sn (SI (Vw _ _)) (S5 (TZ this))
end Mine
namespace Mine
open PySem PySem.W PyProof.Rows
theorem vV {h:Heap} {d:Addr} {m} (hn:h.Ns d m):∃ o,h.get? d=some o/\∀ name,lookIn name o=some (m name):=by
 refine ob3_4 hn λo es ep ho hd hk hf=>?_
 refine ⟨o,ho,λname=>?_⟩
 have hf':=hf name
 unfold nsFind findBy at hf'
 unfold lookIn
 rw [hd]
 dsimp only
 rw [<- Array.find?_toList] at hf'
 cases he:es.toList.find? (λe=>e.key.isStr name) with
 | some e=>rw [he] at hf';rw [<- hf'];rfl
 | none =>
  rw [he] at hf'
  rw [<- hf']
  have:es.toList.any (·.refKey)=false:=by
   rw [List.any_eq_false]
   intro e hm
   refine ob2_1 (hk e (by simpa using hm)) λn t hk'=>?_
   unfold DictEntry.refKey
   rw [hk'];simp
  rw [this];rfl
structure au (h:Heap) (x d C:Addr) (dat:Data) (m:Str->Option Value):Prop where
 obj:h.get? x=some {cls:=.ref C,dict:=some d,data:=dat,slots:=#[]}
 no:∀ c,dat ≠ .cls c
 ns:h.Ns1 d m
 ne:d≠x
theorem au.at_ {h:Heap} {x d C:Addr} {dat:Data} {m} (I:au h x d C dat m):∃ o,PySem.W.InstAt h x {cls:=.ref C,dict:=some d,data:=dat,slots:=#[]} C (some o)/\∀ name,lookIn name o=some (m name):=by
 refine ob1_2 (vV I.ns.ns) λo ho hl=>?_
 refine ⟨o,⟨I.obj,rfl,?_,ho⟩,hl⟩
 have:=I.no
 cases dat <;> first | rfl | exact absurd rfl (this _)
theorem au.inst {h:Heap} {x d C:Addr} {dat:Data} {m} (I:au h x d C dat m):h.Inst x C m:=⟨_,I.obj,rfl,I.no,.inr ⟨d,rfl,I.ne,I.ns⟩⟩
section
variable {prog:Program} {w:World} {A:Around} {E:Value->Shared->Prop} {s:Shared} {K:Frag} {x d C:Addr} {dat:Data} {m:Str->Option Value} {name:Str} {v:Value}
theorem As {expr:Bool} {Q:Value->Shared->Prop} (X:K.In s.heap) (I:au s.heap x d C dat m) (hga:findIn K (.ref C) "__getattribute__"=some (some (.builtin "object.__getattribute__"))) (hh:hasDictIn K C=true)
  (ha:findIn K (.ref C) name=some none) (hm:m name=some v) (hv:handedIn v=true) (h:Q v {s with toks:=s.toks+1}):wpAny (model prog w) A (getAttr (.ref x) name expr) Q E s:=by
 refine ob1_2 I.at_ λo I' hl=>?_
 exact get_value X I' hga (findObj_own hh ha rfl (by rw [hl,hm])) hv h
theorem rt (self:Value):bindSpecial (.builtin "list.__getattribute__") self=pure (.builtin "list.__getattribute__",[self]):=WT.bind self
theorem qF:builtinKind "list.__getattribute__"=some .slot:=by decide +kernel
theorem nD:splitId "list.__getattribute__"=some ("list","__getattribute__"):=by decide +kernel
theorem pW {expr:Bool} {Q:Value->Shared->Prop} (X:K.In s.heap) (I:au s.heap x d C dat m) (hga:findIn K (.ref C) "__getattribute__"=some (some (.builtin "list.__getattribute__"))) (hh:hasDictIn K C=true)
  (hgt:findIn K (.ref C) "__getattr__"=some none) (hsub:mroIn K C (.type "list")=some true)
  (ha:findIn K (.ref C) name=some none) (hm:m name=some v) (hv:handedIn v=true) (h:Q v {s with toks:=s.toks+1}):wpAny (model prog w) A (getAttr (.ref x) name expr) Q E s:=by
 refine ob1_2 I.at_ λo I' hl=>?_
 have hf:findObj K C (some o) name=some (.value v):=findObj_own hh ha rfl (by rw [hl,hm])
 obtain ⟨hp,g,dr,t,os⟩:=s
 have L0:=I'.type (M:=model prog w)
 have L1:=UA (M:=model prog w) X hga
 have L2:=UA (M:=model prog w) X hgt
 have L3:=looks_find (M:=model prog w) X I' hf
 have L4:Looks (model prog w) hp (isInstance (.ref x) (.type "list")) true:=L0.andThen (Wn X hsub)
 unfold getAttr getAttrBy
 refine Sl (wpAny_mkText (Sy (Sl (L0.at (Sl (L1.at ?_))))))
 dsimp only
 rw [show (onTheHeap (.ref C) && (Vs "list.__getattribute__" == Vs "object.__getattribute__"))=false by rw [show (Vs "list.__getattribute__" == Vs "object.__getattribute__")=false by decide +kernel];rfl]
 rw [if_neg (by decide)]
 unfold getAttrByItsOwn
 refine Sl (L2.at ?_)
 refine Sl (U_ (Sy ?_))
 show wpAny _ _ (callGetattribute _ _ _ _) _ _ _
 unfold callGetattribute
 rw [if_neg (by simp [onTheHeap])]
 unfold boundAndCalled
 refine Sl (TU (rt _) ?_)
 show wpAny _ _ (call (.builtin "list.__getattribute__") [.ref x,.str name t]) _ _ _
 refine UO (Ui WT.plain am_entry_list_getattribute (@check_slot (model prog w) _ _ _ "list.__getattribute__" "list" "__getattribute__" (.ref x) [.str name t] [] _ qF nD L4 (PySem.F.args_list_getattribute_2 _ _) ?_))
 unfold Builtin.«object.__getattribute__»
 refine Sl (Sm (Sl (Sm (Sl (L0.at (Sl (L3.at ?_)))))))
 refine Sm ?_
 show wpAny _ _ (handedOut v) _ _ _
 rw [handedOut_of hv];exact Sm h
theorem tX {ga:String} {pl:Sem Bool} {Q:Value×List Value->Shared->Prop} {f:Addr} (X:K.In s.heap) (I:au s.heap x d C dat m) (hga:findIn K (.ref C) "__getattribute__"=some (some (.builtin ga)))
  (hcan:(Manifest.canonical ga != "object.__getattribute__")=false)
  (hk:findIn K (.ref C) "__getattr__"=some none) (hf:findIn K (.ref C) name=some (some (.ref f))) (ht:typeIn K (.ref f)=some (.type "function")) (hm:m name=none) (h:Q (.ref f,[.ref x]) s) :
  wpAny (model prog w) A (getMethod (.ref x) name pl) Q E s:=by
 refine ob1_2 I.at_ λo I' hl=>?_
 unfold getMethod specialOf
 refine Sl (Sl (I'.type.here ((UA X hga).here ?_)))
 dsimp only
 rw [hcan,if_neg (by decide)]
 refine Sl (Sl (I'.type.here ((UA X hk).here ?_)))
 refine Sl (Sl (I'.type.here ((UA X hf).here (Sl ((looks_typeIn X ht).here ?_)))))
 rw [if_neg (by decide +kernel)]
 refine Sl (wpAny_loadPart I'.at_ ?_)
 refine ob3_4 I.ns.ns λo2 es ep ho hd hk2 hf2=>?_
 dsimp only
 refine Sl (wpAny_nsGet I.ns.ns ?_)
 rw [hm]
 exact Sl (Vi (Sm h))
end
theorem r_:StoreFacts "list" [.type "list",.type "object"] "object.__setattr__" "object" where
 mro:=by kernel_rfl
 slot:=.of (owner:="object") (n:="__setattr__") (by rw [Uj,TG];kernel_rfl) (by decide +kernel) (by decide +kernel) (by decide +kernel)
  (by first | exact .inl (by decide +kernel) | exact .inr (by decide +kernel)) (by rw [WQ];kernel_rfl)
 entry:=PySem.F.entry_object_sa
 kind:=by decide +kernel
 split:=by decide +kernel
 hasOwner:=by decide +kernel
 args:=λa b c=>by unfold argsOk;kernel_rfl
 passes:=λself=>by kernel_rfl
section
variable {prog:Program} {w:World} {A:Around} {E:Value->Shared->Prop} {s:Shared} {x d C N:Addr} {dat:Data} {m mN:Str->Option Value} {name:Str} {v:Value} {B newId sa owner:String} {bm:List Value}
 {nm q:Str} {bs:List Value} {sn:List Str} {sub:List Value} {ab:Bool} {col:Option Bool} {dd:Option Addr} {k0 k1 k2 k3 k5:Option Value}
theorem kM {Q:Unit->Shared->Prop} {ns:List Str} (SF:StoreFacts B bm sa owner) (hC:s.heap.get? C=some (excClassObj nm q C N bs bm true sn sub ab col dd k0 k1 k2 k3 k5 newId)) (hn:s.heap.Ns N mN)
  (hns:mN "__setattr__"=none) (hna:mN name=none) (hB:typeLookup (.type B) name=pure none) (I:au s.heap x d C dat m) (hw:Within m ns) (hsz:ns.length<=sizeLine)
  (h:∀ h' tk,au h' x d C dat (λy=>if y=name then some v else m y)->(∀ b o,b≠d->s.heap.get? b=some o->h'.get? b=some o)->Q () {s with heap:=h',toks:=tk}) :
  wpAny (model prog w) A (setAttr (.ref x) name v) Q E s:=by
 have hxC:x≠C:=by
  rintro rfl
  rw [I.obj] at hC
  injection hC with hC
  injection hC with h1 h2 h3 h4
  exact I.no _ h3
 obtain ⟨hp,g,dr,t,os⟩:=s
 refine store_attr SF hC hn hns hna hB hxC I.inst (λh' tk' I' k1 k2=>?_) hw hsz
 refine ob1_5 (k2 _ I.obj) λo₁ e1 e2 e3 e4 e5=>?_
 have eo:h'.get? x=some {cls:=.ref C,dict:=some d,data:=dat,slots:=#[]}:=by
  rw [e1]
  have h5:=e5 d rfl
  obtain ⟨oc,odd,Sb,osl⟩:=o₁
  simp only at e2 e3 e4 h5
  rw [e2,e3,e4,h5]
 refine h h' tk' ⟨eo,I.no,?_,I.ne⟩ λb o hb e=>?_
 ·refine ob1_4 I' λo2 f1 f2 f3 f4=>?_
  rw [eo] at f1;cases f1
  rcases f4 with ⟨f4,_⟩ | ⟨d',f4,_,f6⟩
  ·cases f4
  ·cases f4;exact f6
 ·by_cases Lj:b=x
  ·subst Lj
   rw [I.obj] at e;cases e;exact eo
  ·exact k1 b o Lj (λo₀ dx h1 h2=>by rw [I.obj] at h1;cases h1;cases h2;exact hb) e
end
end Mine
namespace Mine
open PySem PySem.W PyProof.Rows
variable {G:Glob} {F:Fm} {ρ ρ':List (Str×PV)} {W W':List Addr} {Rs ak Ro:List Res} {s s':Shared}
noncomputable def vU (G:Glob) (W:List Addr) (s:Shared):Prop:=∀ a∈W,G.base.objs.size<=a/\∃ o,s.heap.get? a=some o
noncomputable def MC (G:Glob) (f:Addr) (n:Nat) (Rs ak:List Res) (ps:List PV) (q:PV):Prop :=
 ∀ A W s vs,cF A n->G.inv s.heap->vU G W s->ah W s.heap ps vs->(∀ r∈Rs,r.holds W s.heap)->(∀ r∈Rs,∀ a∈r.addrs,a∈W)->(Rs.flatMap (·.addrs)).Nodup ->
  wpAny G.M A (call (.ref f) vs) (λv s'=>aG G (Rs.flatMap (·.addrs)) s s'/\(∀ r∈ak,r.holds W s'.heap)/\(∀ a∈Rs.flatMap (·.addrs),∃ o,s'.heap.get? a=some o)/\Rep W s'.heap q v) (λz! z! => False) s
noncomputable def MP (G:Glob) (f:Addr) (n:Nat) (Rs:List Res) (ps:List PV) (q:PV):Prop :=
 ∀ A W s vs,cF A n->G.inv s.heap->vU G W s->ah W s.heap ps vs->(∀ r∈Rs,r.holds W s.heap)->(∀ r∈Rs,∀ a∈r.addrs,a∈W)->(Rs.flatMap (·.addrs)).Nodup ->
  wpAny G.M A (call (.ref f) vs) (λv s'=>aG G [] s s'/\Rep W s'.heap q v) (λz! z! => False) s
theorem St.xB (S:St G F ρ W (Rs++Ro) s) (x:aG G (Rs.flatMap (·.addrs)) s s') (hh:∀ r∈ak,r.holds W s'.heap) (al:∀ a∈Rs.flatMap (·.addrs),∃ o,s'.heap.get? a=some o)
  (ha:ak.flatMap (·.addrs)=Rs.flatMap (·.addrs)):St G F ρ W (ak++Ro) s':=by
 have hW:∀ a∈Rs.flatMap (·.addrs),a∈W:=λa h=>by
  refine ob1_2 (SX.mp h) λr hr h=>?_
  exact (S.new r (Ux _ hr) a h).1
 have nd:=S.apart
 rw [Ul,UL] at nd
 have S':St G F ρ W Ro s:={S with new:=λr hr=>S.new r (VS _ hr),res:=λr hr=>S.res r (VS _ hr),apart:=nd.2.1}
 have S₂:St G F ρ W Ro s':=S'.xP x hW (λa h=>by
   refine ob1_2 (SX.mp h) λr hr h=>?_
   exact (S.new r (Ux _ hr) a h).2) (λr hr a h1 h2=>nd.2.2 a h2 a (SX.mpr ⟨r,hr,h1⟩) rfl) al
 refine {S₂ with new:=λr hr a h=>?_,res:=λr hr=>?_,apart:=?_}
 ·rcases SO.mp hr with hr | hr
  ·have hm:a∈Rs.flatMap (·.addrs):=by rw [<- ha];exact SX.mpr ⟨r,hr,h⟩
   refine ob1_2 (SX.mp hm) λr' hr' h'=>?_
   exact S.new r' (Ux _ hr') a h'
  ·exact S₂.new r hr a h
 ·rcases SO.mp hr with hr | hr
  ·exact hh r hr
  ·exact S₂.res r hr
 ·rw [Ul,ha,UL]
  exact nd
theorem St.AK (S:St G F ρ W (Rs++Ro) s):(∀ r∈Rs,r.holds W s.heap)/\(∀ r∈Rs,∀ a∈r.addrs,a∈W)/\(Rs.flatMap (·.addrs)).Nodup:=by
 have nd:=S.apart
 rw [Ul,UL] at nd
 exact ⟨λr hr=>S.res r (Ux _ hr),λr hr a h=>(S.new r (Ux _ hr) a h).1,nd.1⟩
theorem MC.mJ {f:Addr} {fd:FuncData} {body:List Stmt} (ok:bQ G f fd body) {names:List Str} {ps ps':List PV} {q:PV} {n:Nat}
  (hb:∀ s W vs,G.inv s.heap->ah W s.heap ps vs->∃ vs',BindsTo s fd ⟨vs,[]⟩ (names.zip vs')/\ah W s.heap ps' vs') (hlen:names.length=ps'.length)
  (hnm:∀ x∈names,fd.scope.names.lookup x=some .local\/fd.scope.names.lookup x=some .cell)
  (hadr:ak.flatMap (·.addrs)=Rs.flatMap (·.addrs))
  (h:∀ A W s L,cF A (n+1)->jE G (bu fd f A s L n (Rs.flatMap (·.addrs))) (.func body (dK fd f L)) (names.zip ps').reverse W Rs body (λfl s'=>(∃ ρ,St G (bu fd f A s L n (Rs.flatMap (·.addrs))) ρ W ak s')/\Rep W s'.heap q (match fl with | .ret v=>v | _=>.none))) :
  MC G f (n+1) Rs ak ps q:=λA W s vs hA iv low rs h1 h2 h3=>by
 refine ob1_2 (hb s W vs iv rs) λvs' hb' rs'=>?_
 refine UO (Wf (gK (Q:=λv s'=>(∃ ρ,St G (bu fd f A s s.heap.objs.size n (Rs.flatMap (·.addrs))) ρ W ak s')/\Rep W s'.heap q v) ok hA iv low hb' rs' hlen h1 h2 h3 hnm (h A W s s.heap.objs.size hA)) λr s' hr=>?_)
 match r,hr with
 | .ok (.ret v),hr =>
  refine ob0_2 hr λbM hr=>ob1_1 bM λρ S=>?_
  refine ⟨S.stp,S.res,λa ha=>?_,hr⟩
  rw [<- hadr] at ha
  refine ob1_2 (SX.mp ha) λr' hr' ha=>?_
  exact (S.low a (S.new r' hr' a ha).1).2
 | .ok .next,hr=>exact hr.elim
 | .ok .brk,hr=>exact hr.elim
 | .ok .cont,hr=>exact hr.elim
 | .error e,hr=>exact hr.elim
theorem MC.of {f:Addr} {fd:FuncData} {body:List Stmt} (ok:bQ G f fd body) {names:List Str} {ps ps':List PV} {q:PV} {n:Nat}
  (hb:∀ s W vs,G.inv s.heap->ah W s.heap ps vs->∃ vs',BindsTo s fd ⟨vs,[]⟩ (names.zip vs')/\ah W s.heap ps' vs') (hlen:names.length=ps'.length)
  (hnm:∀ x∈names,fd.scope.names.lookup x=some .local\/fd.scope.names.lookup x=some .cell)
  (hadr:ak.flatMap (·.addrs)=Rs.flatMap (·.addrs))
  (h:∀ A W s L,cF A (n+1)->XS G (bu fd f A s L n (Rs.flatMap (·.addrs))) (names.zip ps').reverse W Rs body (λfl s'=>(∃ ρ,St G (bu fd f A s L n (Rs.flatMap (·.addrs))) ρ W ak s')/\Rep W s'.heap q (match fl with | .ret v=>v | _=>.none))) :
  MC G f (n+1) Rs ak ps q :=
 MC.mJ ok hb hlen hnm hadr λA W s L hA=>.of (h A W s L hA)
noncomputable def ER (G:Glob) (F:Fm) (ρ:List (Str×PV)) (W:List Addr) (Rs:List Res) (e:Sp) (q:PV) (ak:List Res):Prop :=
 ∀ s,St G F ρ W Rs s->wpAny G.M F.A (eval e F.env) (λv s'=>St G F ρ W ak s'/\Rep W s'.heap q v) (λz! z! => False) s
section
variable {K:Flow->Shared->Prop} {rest:List Stmt}
theorem XS.eX {e:Sp} {pos:Pos} {q:PV} (h:ER G F ρ W Rs e q ak) (k:XS G F ρ W ak rest K) (hi:interactive F.env=false:=by rfl) (hs:swapsWith e none pos.line F.env=pure false:=by rfl) :
  XS G F ρ W Rs (.Expr e pos::rest) K:=λs S=>by
 refine TN ?_
 rw [exec_Expr (env:=F.env) _ _ hi hs]
 exact Sl (Tt (Sl (aF (h s S) λv s₁ zz=>zz.elim λS₁ z! => wpAny_dropValue (k s₁ S₁))))
theorem XS.BN {target value:Sp} {pos:Pos} {p:PV} (hv:ER G F ρ W Rs value p ak) (ha:AV G F ρ W ak target p ρ') (h:XS G F ρ' W ak rest K)
  (hs:swapsWithSole [target] value pos.line F.env=pure false:=by rfl) (hw:swappedStores [target] value F.env=pure none:=by rfl)
  (he:(assignEach [target] F.env).map (·.2)=[UE target F.env]:=by rfl) :
  XS G F ρ W Rs (.Assign [target] value pos::rest) K:=λs S=>by
 refine TN ?_
 rw [Xg]
 refine Sl (Tt ?_)
 rw [hs]
 refine Sl (Sm ?_)
 rw [if_neg (by decide)]
 refine Sl (aF (hv s S) λv s₁ zz=>zz.elim λS₁ r=>?_)
 rw [hw]
 refine Sl (Sm ?_)
 rw [he]
 show wpAny _ _ (do UE target F.env v;pure Yb) _ _ s₁
 exact Sl (aF (ha s₁ v S₁ r) λ_ s₂ zz=>zz.elim λS₂ z! => Sm (h s₂ S₂))
theorem XS.M6 {value:Sp} {pos:Pos} {p:PV} (hv:ER G F ρ W Rs value p ak) (h:∀ s v,St G F ρ W ak s->Rep W s.heap p v->K (.ret v) s) :
  XS G F ρ W Rs (.Return (some value) pos::rest) K:=λs S =>
 TN (wpAny_Return_some (aF (hv s S) λv s₁ zz=>zz.elim λS₁ r=>h s₁ v S₁ r))
end
theorem fk {M:Model} {A:Around} {E:Value->Shared->Prop} {env:Env} {o:Sp} {name:Str} {apos pos:Pos} {args:List Sp} {Q:Value->Shared->Prop}
  (hbase:attributeBase o name env (eval o env)=eval o env)
  (hfew:((backTo pos (starEach args env)).all (λx => !x.1) && (backToKw pos (keywordEach [] env)).all (λx=>x.1.isSome)
   && decide (args.length+([]:List Keyword).length+(if ([]:List Keyword).isEmpty then 0 else 1)<30))=true)
  (hline:(apos.endLine == pos.line)=true)
  (h:wpAny M A (eval o env) (λov s₁=>∀ pl,wpAny M A (getMethod ov name pl) (λr s₂=>wpAny M A (callWith pos r.1 r.2 (backTo pos (starEach args env)) []) Q E s₂) E s₁) E s) :
  wpAny M A (eval (.Call (.Attribute o name apos) args [] pos) env) Q E s:=by
 rw [arm_eval_Call,hbase]
 refine Sl (Vf h (λov s₁ h₁=>?_) λz! z! e=>e)
 refine Sl (Tt ?_)
 have qO:methodCallForm (args.length+([]:List Keyword).length) (backTo pos (starEach args env)) (backToKw pos (keywordEach [] env))=true:=hfew
 have hpos:methodCallPos true o env apos pos=pure pos:=by unfold methodCallPos;simp [hline]
 unfold methodCall
 rw [qO]
 refine Sl (Sy ?_)
 unfold calleeOf
 rw [if_pos rfl]
 refine Vf (h₁ _) (λr s₂ h₂=>?_) λz! z! e=>e
 exact Sl (TU hpos h₂)
end Mine
namespace Mine
open PySem PySem.W PyProof.Rows
theorem d7 {M:Model} {A:Around} {E:Value->Shared->Prop} {s:Shared} {i owner n:String} {self:Value} {rest:List Value} {kw:List (Str×Value)} {Q:Unit->Shared->Prop}
  (hk:builtinKind i=some .slot\/builtinKind i=some .method) (hs:splitId i=some (owner,n)) (hi:Looks M s.heap (isInstance self (.type owner)) true) (ha:argsOk i ⟨self::rest,kw⟩) (q:Q () s) :
  wpAny M A (checkBuiltinCall i ⟨self::rest,kw⟩) Q E s:=by
 rcases hk with hk | hk
 ·exact check_slot hk hs hi ha q
 simp only [checkBuiltinCall,hk,hs]
 refine Sl (hi.here (To (by rfl) ?_))
 unfold argsOk at ha
 cases Nu:WM i with
 | none=>exact Sm q
 | some sig =>
  rw [Nu] at ha
  have h2:X4 i sig ⟨self::rest,kw⟩=pure ():=ha
  show wpAny M A (X4 i sig ⟨self::rest,kw⟩) Q E s
  rw [h2];exact Sm q
section
variable {prog:Program} {w:World} {A:Around} {E:Value->Shared->Prop} {s:Shared} {K:Frag} {x d C:Addr} {c:Nat} {vs:List Value} {m:Str->Option Value} {v:Value}
theorem au.isList (X:K.In s.heap) (I:au s.heap x d C (.seq vs.toArray c) m) (hsub:mroIn K C (.type "list")=some true):Looks (model prog w) s.heap (isInstance (.ref x) (.type "list")) true:=by
 refine ob1_2 I.at_ λo I' z! => ?_
 exact (I'.type (M:=model prog w)).andThen (Wn X hsub)
theorem au.turn {h:Heap} {f:Array Value->Array Value} {us:List Value} (I:au h x d C (.seq vs.toArray c) m) (e:f vs.toArray=us.toArray) :
  ∃ c',au (h.update x (Vh f)) x d C (.seq us.toArray c') m:=by
 have ns:=I.ns.sameBut (h':=h.update x (Vh f)) (.update ..) I.ne
 refine ⟨if (f vs.toArray).size == vs.toArray.size then c else c+1,?_,(λz! => by simp),ns,I.ne⟩
 rw [<- e]
 exact VT _ I.obj rfl
noncomputable def mh (x:Addr) (h h':Heap):Prop:=∀ b o,b≠x->h.get? b=some o->h'.get? b=some o
theorem mh.of {x:Addr} {h h':Heap} (s:Uq x h h'):mh x h h':=λb o hb e=>(s.2 b hb).trans e
theorem inst_append {Q:Value->Shared->Prop} (X:K.In s.heap) (I:au s.heap x d C (.seq vs.toArray c) m) (hsub:mroIn K C (.type "list")=some true) (hz:vs.length+1<=sizeLine)
  (h:∀ h' c',au h' x d C (.seq (vs++[v]).toArray c') m->mh x s.heap h'->Q .none {s with heap:=h'}):wpAny (model prog w) A (call (.builtin "list.append") [.ref x,v]) Q E s:=by
 refine UO (Ui XD.plain PySem.F.entry_list_append (@d7 (model prog w) _ _ _ "list.append" "list" "append" (.ref x) [v] [] _ (.inr (by decide +kernel)) (by decide +kernel) (I.isList X hsub) (PySem.F.args_list_append_2 _ _) ?_))
 unfold Builtin.«list.append»
 refine Sl (TU (show selfAndOne "list.append" ⟨[.ref x,v],[]⟩=pure (.ref x,v) from rfl) ?_)
 show wpAny _ _ (updateSeq x (·.push v) >>= _) _ _ _
 refine Sl (VP I.obj rfl ?_ (by simp;exact SE hz) (by simp;exact SE hz))
 refine ob1_1 (I.turn (f:=(·.push v)) (us:=vs++[v]) (by simp)) λc' I'=>?_
 exact Sm (h _ c' I' (.of (.update ..)))
end
end Mine
namespace Mine
open PySem PySem.W PyProof.Rows
theorem lE {M:Model} {h:Heap} {f:String->Sem Bool}:∀ (l:List String),(∀ n∈l,Looks M h (f n) false)->Looks M h (l.anyM f) false
 | [],_=>Looks.now
 | n::l,hl=>by
  rw [List.anyM_cons]
  refine (hl n (So ..)).andThen ?_
  exact lE l λn hn=>hl n (Ss _ hn)
section
variable {prog:Program} {w:World} {A:Around} {E:Value->Shared->Prop} {s:Shared} {K:Frag} {x d C:Addr} {c:Nat} {vs:List Value} {dat:Data} {m:Str->Option Value} {v:Value}
noncomputable def noSeq (K:Frag) (C:Addr):Bool:=seqItemTypes.all λn=>mroIn K C (.type n) == some false
theorem fH {M:Model} {h:Heap} {k:Value} {name:Str} (X:K.In h) (I:au h x d C dat m) (hn:noSeq K C=true):Looks M h (sequenceKey (.ref x) k name) k:=by
 refine ob1_2 I.at_ λo I' z! => ?_
 unfold sequenceKey
 refine I'.type.andThen ?_
 dsimp only
 refine (lE _ λn hm=>?_).andThen ?_
 ·exact Wn X (beq_iff_eq.mp (Uv.mp hn n hm))
 ·exact Looks.now
theorem inst_special {M:Model} {name:Str} {id:String} {args:List Value} {Q:Option Value->Shared->Prop} (X:K.In s.heap) (I:au s.heap x d C dat m) (hf:findIn K (.ref C) name=some (some (.builtin id)))
  (hb:∀ self,bindSpecial (.builtin id) self=pure (.builtin id,[self])) (h:wpAny M A (call (.builtin id) (.ref x::args)) (λv=>Q (some v)) E s):wpAny M A (callSpecial? (.ref x) name args) Q E s:=by
 refine ob1_2 I.at_ λo I' z! => ?_
 exact Sl (Sl (I'.type.here ((UA X hf).here (Sy (Sl (TU (hb _) (Sl (Vf h (λz! z! z=>Sm z) λz! z! z=>z))))))))
theorem inst_item {k:Int} {t:Tok} {j:Nat} {Q:Value->Shared->Prop} (X:K.In s.heap) (I:au s.heap x d C (.seq vs.toArray c) m) (hsub:mroIn K C (.type "list")=some true) (hn:noSeq K C=true)
  (hg:findIn K (.ref C) "__getitem__"=some (some (.builtin "list.__getitem__"))) (hk:k=(j:Int)) (hz:vs.length<=lim) (hv:vs[j]? = some v) (h:Q v s):wpAny (model prog w) A (getItem (.ref x) (.int k t)) Q E s:=by
 have hj:j<vs.length:=by
  rcases VW j vs.length with h' | h'
  ·exact h'
  ·rw [TY h'] at hv;cases hv
 have hlim:lim=1048576:=by decide
 unfold getItem
 refine Sy (Sl ((fH X I hn).here ?_))
 refine Sl (inst_special X I hg WD.bind ?_)
 refine UO (Ui WD.plain entry_list_getitem (@d7 (model prog w) _ _ _ "list.__getitem__" "list" "__getitem__" (.ref x) [.int k t] [] _ (by first | exact .inl (by decide +kernel) | exact .inr (by decide +kernel)) (by decide +kernel) (I.isList X hsub) (args_list_getitem _ _) ?_))
 show wpAny _ _ (VD (.int k t) >>= _) _ _ s
 have JS:0<=k/\k<2 ^ 63:=hk▸⟨UN j,oU (Sn (Tf hj) hz)⟩
 refine Sl (wpAny_listSubscript_int (fitsIndex_of JS.1 JS.2) ?_)
 subst hk
 have hx':vs.toArray[j]? = some v:=by simpa using hv
 show wpAny _ _ ((seqItemAt x j >>= λr=>pure (r.map (j,·))) >>= _) _ _ s
 refine Sl (Sl (wpAny_seqItemAt I.obj rfl (Sm ?_)))
 rw [hx']
 dsimp only [Option.map]
 exact Sm (Sm h)
end
end Mine
namespace Mine
open PySem PySem.W PyProof.Rows
theorem oB (k:Option Int) (h0:k≠some 0):¬ ((rawPart k == rawInt 0)=true):=by
 cases k with
 | none=>exact Wx
 | some c =>
  intro hh
  have:c=0:=by simpa [rawPart,rawInt] using hh
  exact h0 (by rw [this])
theorem gR {M:Model} {A:Around} {E:Value->Shared->Prop} {s:Shared} {sl:Addr} {vl vu vt:Value} {lo hi st:Option Int} {Q:Value×Value×Value->Shared->Prop} (hs:s.heap.IsSliceOf sl vl vu vt)
  (pl:IsPart vl lo) (pu:IsPart vu hi) (pt:IsPart vt st) (h0:st≠some 0) (h:Q (rawPart lo,rawPart hi,rawPart st) s):wpAny M A (Builtin.List.listSliceParts (.ref sl)) Q E s:=by
 refine ob1_3 hs λos hos hcs hds=>?_
 rw [listSliceParts_eq]
 refine Sl (WG hos hds (x:=vt) rfl (Sl (wpAny_listPart pt ?_)))
 rw [if_neg (oB st h0)]
 refine Sl (WG hos hds (x:=vl) rfl (Sl (wpAny_listPart pl ?_)))
 exact Sl (WG hos hds (x:=vu) rfl (Sl (wpAny_listPart pu (Sm h))))
theorem fZ {M:Model} {A:Around} {E:Value->Shared->Prop} {s:Shared} {sl:Addr} {Q:Option Int->Shared->Prop} (hT:s.TypeIs (.ref sl) "slice") (h:Q none s):wpAny M A (VD (.ref sl)) Q E s:=by
 unfold VD
 refine Sl (W5 hT slice_no_index ?_)
 simp only [Option.isNone_none,if_true]
 exact Sm h
section
variable {prog:Program} {w:World} {A:Around} {E:Value->Shared->Prop} {s:Shared} {K:Frag} {x d C:Addr} {c:Nat} {vs:List Value} {dat:Data} {m:Str->Option Value} {v:Value}
theorem inst_slice {sl:Addr} {vl vu vt:Value} {lo hi st:Option Int} {Q:Value->Shared->Prop} (X:K.In s.heap) (I:au s.heap x d C (.seq vs.toArray c) m) (hsub:mroIn K C (.type "list")=some true) (hn:noSeq K C=true)
  (hg:findIn K (.ref C) "__getitem__"=some (some (.builtin "list.__getitem__"))) (hz:vs.length<=lim)
  (hs:s.heap.IsSliceOf sl vl vu vt) (pl:IsPart vl lo) (pu:IsPart vu hi) (pt:IsPart vt st) (h0:st≠some 0)
  (h:Q (.ref s.heap.objs.size) {s with heap:=s.heap.push {cls:=.type "list",data:=.seq (pick vs lo hi st).toArray}}):wpAny (model prog w) A (getItem (.ref x) (.ref sl)) Q E s:=by
 have J6:s.TypeIs (.ref sl) "slice":=hs.imp λo zz=>zz.elim λa zz=>zz.elim λb z! => ⟨a,b⟩
 unfold getItem
 refine Sy (Sl ((fH X I hn).here ?_))
 refine Sl (inst_special X I hg WD.bind ?_)
 refine UO (Ui WD.plain entry_list_getitem (@d7 (model prog w) _ _ _ "list.__getitem__" "list" "__getitem__" (.ref x) [.ref sl] [] _ (by first | exact .inl (by decide +kernel) | exact .inr (by decide +kernel)) (by decide +kernel) (I.isList X hsub) (args_list_getitem _ _) ?_))
 show wpAny _ _ (VD (.ref sl) >>= _) _ _ s
 refine Sl (fZ J6 ?_)
 show wpAny _ _ (typeOf (.ref sl) >>= _) _ _ s
 refine Sl (X5 J6 ?_)
 rw [if_neg (by decide)]
 refine Sl (gR hs pl pu pt h0 ?_)
 refine Sl (m:=Wi (.ref x)) ?_
 unfold Wi
 refine Sl (Vr I.obj rfl (Sm ?_))
 refine Sl (TU (sliceIndices_raw lo hi st vs.toArray.size h0) ?_)
 have hsz:=slicePick_size_le vs.toArray lo hi st
 rw [<- fC] at h
 refine Sl (T6 (Sm (Sm h)) (Sn hsz (by simp only [T5];exact Sn hz (by decide))))
theorem inst_setSlice {sl b:Addr} {vl vu vt:Value} {lo:Option Int} {j:Nat} {us:List Value} {n:Nat} {Q:Unit->Shared->Prop} (X:K.In s.heap) (I:au s.heap x d C (.seq vs.toArray c) m) (hsub:mroIn K C (.type "list")=some true) (hn:noSeq K C=true)
  (hg:findIn K (.ref C) "__setitem__"=some (some (.builtin "list.__setitem__"))) (hz:vs.length<=lim) (hu:us.length<=lim) (hj:j<=vs.length) (hlo:lo=some (j:Int)\/(lo=none/\j=0))
  (hs:s.heap.IsSliceOf sl vl vu vt) (pl:IsPart vl lo) (pu:IsPart vu none) (pt:IsPart vt none) (hb:s.heap.get? b=some {cls:=.type "list",data:=.seq us.toArray n})
  (h:∀ h' c',au h' x d C (.seq (vs.take j++us).toArray c') m->mh x s.heap h'->Q () {s with heap:=h'}):wpAny (model prog w) A (setItem (.ref x) (.ref sl) (.ref b)) Q E s:=by
 have J6:s.TypeIs (.ref sl) "slice":=hs.imp λo zz=>zz.elim λa zz=>zz.elim λb z! => ⟨a,b⟩
 have Lj:b≠x:=by
  rintro rfl
  rw [I.obj] at hb
  injection hb with hb
  injection hb with h1
  cases h1
 have hlim:lim=1048576:=by decide
 have hsl:sizeLine=16777216:=by decide
 unfold setItem
 refine Sy (Sl ((fH X I hn).here ?_))
 refine Sl (inst_special X I hg slot_list_setitem.bind ?_)
 refine UO (Ui slot_list_setitem.plain entry_list_setitem (@d7 (model prog w) _ _ _ "list.__setitem__" "list" "__setitem__" (.ref x) [.ref sl,.ref b] [] _ (by first | exact .inl (by decide +kernel) | exact .inr (by decide +kernel)) (by decide +kernel) (I.isList X hsub) (args_list_setitem _ _ _) ?_))
 show wpAny _ _ (VD (.ref sl) >>= _) _ _ s
 refine Sl (fZ J6 ?_)
 show wpAny _ _ (typeOf (.ref sl) >>= _) _ _ s
 refine Sl (X5 J6 ?_)
 rw [if_neg (by decide)]
 refine Sl (gR hs pl pu pt (by simp) ?_)
 show wpAny _ _ (if (x == b)=true then _ else _) _ _ _
 rw [if_neg (by simpa using λh=>Lj h.symm)]
 refine Sl (m:=Builtin.List.listAllItems (.ref b) "must assign iterable to extended slice") ?_
 unfold Builtin.List.listAllItems
 refine Sl (X5 (T:="list") ⟨_,hb,rfl⟩ ?_)
 rw [if_pos (by decide)]
 unfold Wi
 refine Sl (Vr hb rfl (Sm ?_))
 dsimp only
 refine Sl (Sl (Vr I.obj rfl (Sm ?_)))
 have eb:sliceBounds lo none none vs.toArray.size=((j:Int),(vs.length:Int),1):=by
  unfold sliceBounds
  rcases hlo with rfl | ⟨rfl,rfl⟩
  ·simp
   rw [if_neg (WW.mpr (UN j)),ku,V8 hj]
  ·simp
 refine Sl (TU (sliceIndices_raw lo none none vs.toArray.size (by simp)) ?_)
 rw [eb]
 dsimp only
 rw [if_pos (by decide)]
 refine Sl (Vi ?_)
 rw [if_neg (by simp [XG];exact MK hz hu hlim hsl)]
 have e1:vs.toArray.extract 0 (j:Int).toNat++us.toArray++vs.toArray.extract (max (j:Int) (vs.length:Int)).toNat vs.toArray.size=(vs.take j++us).toArray:=by
  have:(max (j:Int) (vs.length:Int)).toNat=vs.length:=by rw [yW,Ws hj];rfl
  rw [this]
  simp
 refine Sl (VP I.obj rfl ?_ (by simp;exact MJ hz hlim hsl) (by rw [e1];simp;exact MH hz hu hj hlim hsl))
 refine ob1_1 (I.turn (f:=λxs=>xs.extract 0 (j:Int).toNat++us.toArray++xs.extract (max (j:Int) (vs.length:Int)).toNat xs.size) (us:=vs.take j++us) e1) λc' I'=>?_
 refine Sl (wpAny_letGo ?_)
 exact Sm (Sm (h _ c' I' (.of (.update ..))))
end
end Mine
namespace Mine
open PySem PySem.W PyProof.Rows
section
variable {prog:Program} {w:World} {A:Around} {E:Value->Shared->Prop} {s:Shared} {K:Frag} {x d C:Addr} {c:Nat} {vs:List Value} {dat:Data} {m:Str->Option Value} {v:Value}
theorem inst_iter {Q:Value->Shared->Prop} (X:K.In s.heap) (I:au s.heap x d C (.seq vs.toArray c) m) (hsub:mroIn K C (.type "list")=some true) (hg:findIn K (.ref C) "__iter__"=some (some (.builtin "list.__iter__")))
  (h:Q (.ref s.heap.objs.size) {s with heap:=s.heap.push {cls:=.type "list_iterator",data:=.fields #[.ref x,.int 0 0]}}):wpAny (model prog w) A (pyIter (.ref x)) Q E s:=by
 refine ob1_2 I.at_ λo I' z! => ?_
 have D5:Looks (model prog w) s.heap (specialOf (.ref x) "__iter__") (some (.builtin "list.__iter__")):=I'.type.andThen (UA X hg)
 have KG:wpAny (model prog w) A (call (.builtin "list.__iter__") [.ref x]) (λit s'=>∃ T' r,s'.TypeIs it T'/\typeLookup (.type T') "__next__"=pure (some r)/\Q it s') E s:=by
  refine UO (Ui slot_list_iter.plain entry_list_iter (@d7 (model prog w) _ _ _ "list.__iter__" "list" "__iter__" (.ref x) [] [] _ (by first | exact .inl (by decide +kernel) | exact .inr (by decide +kernel)) (by decide +kernel) (I.isList X hsub) (args_list_iter _) ?_))
  show wpAny _ _ (do ret (<- newFields "list_iterator" [.ref x,rawInt 0])) _ _ s
  exact Sl (T6 (Sm ⟨"list_iterator",_,⟨_,SH _ rfl,rfl⟩,WY.lookup,h⟩))
 unfold pyIter
 refine Sl (D5.here ?_)
 show wpAny _ _ (callSpecialIfBoundUnlessNone? (.ref x) "__iter__" _ >>= _) Q E s
 refine Sl ?_
 unfold callSpecialIfBoundUnlessNone? bindSpecialIfBound?
 have tail:wpAny (model prog w) A (call (.builtin "list.__iter__") [.ref x]) (λit s'=>wpAny (model prog w) A (do
   match<-specialOf it "__next__" with
   | none=>rule "iter.non-iterator";raiseError "TypeError" s!"iter() returned non-iterator of type '{← typeNameOf it}'"
   | some _=>pure it) Q E s') E s:=Vf KG (λit s' zz=>zz.elim λT' zz=>zz.elim λr zz=>zz.elim λpM zz=>zz.elim λhl hQ=>Sl (W5 pM hl (Sm hQ))) λz! z! e=>e
 refine Sy (Sl (Sl (D5.here ?_)))
 refine Sl (wpAny_askSetting (wpAny_ite ?_))
 split
 ·refine Sl (TU (slot_list_iter.bind _) (Sm ?_))
  dsimp only
  rw [if_neg (show ¬ ((Vs "list.__iter__" == V7)=true) from Wx)]
  exact Sl (Vf tail (λit s' h'=>Sm h') λz! z! e=>e)
 ·refine wpAny_tryCatch (Sl (TU (slot_list_iter.bind _) (Sm ?_)))
  dsimp only
  rw [if_neg (show ¬ ((Vs "list.__iter__" == V7)=true) from Wx)]
  exact Sl (Vf tail (λit s' h'=>Sm h') λz! z! e=>e)
theorem xW {it l:Addr} {i:Nat} {items:Array Value} {ol:Obj} {nl:Nat} {y:Value} {Q:Option Value->Shared->Prop} (hit:s.heap.IsListIter it l i)
  (mK:s.heap.get? l=some ol) (hdl:ol.data = .seq items nl) (hx:items[i]? = some y)
  (hQ:∀ h',h'.IsListIter it l (i+1)->Uq it s.heap h'->Q (some y) {s with heap:=h'}) :
  wpAny (model prog w) A (pyNext (.ref it)) Q E s:=by
 refine ob1_3 (id hit) λo ho hc hd=>?_
 unfold pyNext
 refine Sl (U_ (UJ (name:=VX "__next__") hit.typeIs WY
  (UK WY hit.typeIs entry_listiter_next ?_ (args_listiter_next _))))
 show wpAny _ _ (field (.ref it) 0 >>= _) _ _ s
 refine Sl (WG ho hd (x:=.ref l) rfl ?_)
 show wpAny _ _ (if (Vp l == V7)=true then _ else _) _ _ s
 rw [if_neg (show ¬ ((Vp l == V7)=true) from Wx)]
 show wpAny _ _ (field (.ref it) 1 >>= _) _ _ s
 refine Sl (WG ho hd (x:=.int i 0) rfl ?_)
 show wpAny _ _ (seqItems? (.ref l) >>= _) _ _ s
 refine Sl (Vr mK hdl ?_)
 simp only [Vl,hx]
 refine Sl (Vt ho hd (by simp) (Sm ⟨y,rfl,Sm (hQ _ ?_ (Uc ..))⟩))
 exact ⟨_,VT _ ho (Obj.isFreed_of_fields (Obj.data_mapFields hd _)),(Obj.cls_mapFields ..).trans hc,by
  rw [Obj.data_mapFields hd];simp [rawInt]⟩
theorem j9 {α:Type} {Q:α->Shared->Prop} (hh:A.handled=none) (h:∀ e h',(∀ b o,s.heap.get? b=some o->h'.get? b=some o)->Shared.TypeIs {s with heap:=h'} e "StopIteration"->E e {s with heap:=h'}) :
  wpAny (model prog w) A (do raiseNew (<- newExc (.type "StopIteration") [])) Q E s:=by
 refine Sl ?_
 unfold newExc newTuple
 refine Sl (T6 ?_ (by size_fits))
 refine Sl (m:=firstArgMember _ _) (TU (a:=V7) (by first | rfl | (simp only [firstArgMember];rfl)) ?_)
 refine T6 ?_ (by size_fits)
 unfold raiseNew
 refine Sl (wpAny_handled ?_)
 rw [hh]
 refine Sl (Sm (wpAny_throw ?_))
 exact h _ _ (λb o e=>Sw _ (Sw _ e)) ⟨_,SH _ rfl,rfl⟩
theorem ow {it l:Addr} {i:Nat} {items:Array Value} {ol:Obj} {nl:Nat} {Q:Option Value->Shared->Prop} (hh:A.handled=none)
  (hit:s.heap.IsListIter it l i) (mK:s.heap.get? l=some ol) (hdl:ol.data = .seq items nl) (hx:items[i]? = none)
  (hQ:∀ h',Vm it s.heap h'->Q none {s with heap:=h'}):wpAny (model prog w) A (pyNext (.ref it)) Q E s:=by
 refine ob1_3 (id hit) λo ho hc hd=>?_
 unfold pyNext
 refine Sl (U_ (UJ (name:=VX "__next__") hit.typeIs WY
  (UK WY hit.typeIs entry_listiter_next ?_ (args_listiter_next _))))
 show wpAny _ _ (field (.ref it) 0 >>= _) _ _ s
 refine Sl (WG ho hd (x:=.ref l) rfl ?_)
 show wpAny _ _ (if (Vp l == V7)=true then _ else _) _ _ s
 rw [if_neg (show ¬ ((Vp l == V7)=true) from Wx)]
 show wpAny _ _ (field (.ref it) 1 >>= _) _ _ s
 refine Sl (WG ho hd (x:=.int i 0) rfl ?_)
 show wpAny _ _ (seqItems? (.ref l) >>= _) _ _ s
 refine Sl (Vr mK hdl ?_)
 simp only [Vl,hx]
 refine Sl (Vi (Sl (Vt ho hd (by simp) ?_)))
 refine j9 (s:={s with heap:=_}) hh λe h' kp Em=>?_
 refine Sl (UZ (T:="StopIteration") (b:=true) Em isSubtype_stop ?_)
 exact Sm (hQ _ λb o hb e=>kp _ _ ((Uc ..).extBut b o hb e))
noncomputable def rJ (h:Heap) (l:Addr) (items:Array Value):Prop:=∃ o n,h.get? l=some o/\o.data = .seq items n
theorem rJ.at_ {h h':Heap} {l:Addr} {items:Array Value} (x:rJ h l items) (k:∀ o,h.get? l=some o->h'.get? l=some o):rJ h' l items:=x.imp λo h_=>h_.imp λn zz=>zz.elim λe d=>⟨k o e,d⟩
end
end Mine
namespace Mine
open PySem PySem.W PyProof.Rows
theorem wH (a b:Value):argsOk "sum" ⟨[a,b],[]⟩:=by unfold argsOk;kernel_rfl
section
variable {prog:Program} {w:World} {A:Around} {E:Value->Shared->Prop} {s:Shared}
theorem xV {I:Addr} {fp wr:List Addr} {Gt:Array GenState->Array GenState->Prop} {n:Nat} {P:Nat->Value->Prop} {St:Nat->Shared->Prop} (W:WalksS prog w A I fp wr Gt n P St) :
  WalksS prog w A I fp wr Gt (n+1) (λi v=>∃ j,i=j+1/\P j v) (λi s=>∃ j,i=j+1/\St j s) where
 sub:=W.sub
 grefl:=W.grefl
 gtrans:=W.gtrans
 frame:=λi s h' tk zz=>zz.elim λj zz=>zz.elim λe st ht hk=>⟨j,e,W.frame j s h' tk st ht hk⟩
 item:=λi s Q E hi zz=>zz.elim λj zz=>zz.elim λe st hQ=>by
  subst e
  exact W.item j s Q E (by exact TH hi) st λv s' hP hst hm=>hQ v s' ⟨j,rfl,hP⟩ ⟨j+1,rfl,hst⟩ hm
 done:=λs Q E zz=>zz.elim λj zz=>zz.elim λe st hQ=>by
  have:j=n:=by exact Ub (Nat.le_of_succ_le_succ (SI (Eq.symm e))) (Nat.le_of_succ_le_succ (SI e))
  subst this
  exact W.done s Q E st hQ
 self:=λi s Q E zz=>zz.elim λj zz=>zz.elim λe st hQ=>W.self j s Q E st hQ
theorem iI (val val':Nat->Int) (k:Int) (h0:val' 0=k) (h:∀ j,val' (j+1)=val j):∀ n,preSum val' (n+1)=k+preSum val n
 | 0=>by simp [preSum,h0]
 | n+1=>by rw [preSum,iI val val' k h0 h n,h,preSum];exact Int.add_assoc ..
theorem wA {x:Value} {k:Int} {t0:Tok} {Q:Value->Shared->Prop}
  (h:wpAny (model prog w) A.in1 (pyIter x) (λit s₂=>∃ I fp wr G n P St val,it = .ref I/\WalksS prog w A.in1 I fp wr G n P St/\St 0 s₂/\(∀ b∈fp,b<s₂.heap.objs.size) /\
   (∀ i v,P i v->∃ t,v = .int (val i) t) /\
   ∀ s' t',Moved wr G s₂ s'->Q (.int (k+preSum val n) t') s') E s) :
  wpAny (model prog w) A (call (.builtin "sum") [x,.int k t0]) Q E s:=by
 refine call_function_tree PySem.F.kind_sum PySem.F.plain_sum PySem.F.entry_sum (wH _ _) ?_
 unfold Builtin.«sum»
 refine To (by rfl) ?_
 refine Sl (TU (show Builtin.Builtins.bindParams "sum" ["start"] 0 ⟨[.int k t0],[]⟩=pure [some (.int k t0)] from rfl) ?_)
 refine Sl (Vf h (λit s₂ h₂=>?_) λz! z! e=>e)
 obtain ⟨I,fp,wr,G,n,P,St,val,rfl,W,hst,hfp,hval,hQ⟩:=h₂
 dsimp only
 have hSf:s₂.heap.objs.size∉fp:=λhm=>Tc _ (hfp _ hm)
 let val':Nat->Int:=λi=>match i with | 0=>k | j+1=>val j
 have CO:∀ i v,(∃ j,i=j+1/\P j v)->∃ t,v = .int (val' i) t:=λi v zz=>zz.elim λj zz=>zz.elim λe hP=>by subst e;exact hval j v hP
 have hsum:preSum val' (n+1)=k+preSum val n:=iI val val' k rfl (λz! => rfl) n
 have e1:preSum val' 1=k:=by simp [preSum,val']
 split
 ·refine Sl (Vi (Sl (wpAny_mkInt (Sl (Sm ?_)))))
  dsimp only
  rw [UT]
  refine Sl (Sl (Sl (UZ (T:="int") (b:=false) (XR _ _ _) PySem.sub_int_str ?_)))
  refine To (by rfl) ?_
  refine Sm ?_
  dsimp only
  rw [UT]
  refine Sl (Sl (UZ (T:="int") (b:=false) (XR _ _ _) PySem.sub_int_bytes ?_))
  refine To (by rfl) ?_
  refine Sm ?_
  dsimp only
  rw [UT]
  refine Sl (Sl (UZ (T:="int") (b:=false) (XR _ _ _) PySem.sub_int_bytearray ?_))
  refine To (by rfl) ?_
  refine Sm ?_
  dsimp only
  rw [List.forIn_nil]
  refine Sm ?_
  refine Sl (T6 ?_)
  refine Sm ⟨VF PySem.F.plain_sum_loop _,codeAny_sum_loopAnyS (xV W) val' CO s₂.heap.objs.size hSf n 1 _ _ 0 _ (.inl rfl) (by exact Uk _ _) (by exact Sv _ _)
   ⟨0,rfl,W.frame 0 s₂ _ _ hst (Uw _) λb z! o e=>Sw _ e⟩ (by rw [e1];exact SH _ rfl) λs' t' hm=>?_⟩
  show Q _ _
  rw [hsum]
  exact hQ s' t' (hm.drop_new (Uw _))
 ·refine Sl (Sm ?_)
  dsimp only
  rw [UT]
  refine Sl (Sl (Sl (UZ (T:="int") (b:=false) (XR _ _ _) PySem.sub_int_str ?_)))
  refine To (by rfl) ?_
  refine Sm ?_
  dsimp only
  rw [UT]
  refine Sl (Sl (UZ (T:="int") (b:=false) (XR _ _ _) PySem.sub_int_bytes ?_))
  refine To (by rfl) ?_
  refine Sm ?_
  dsimp only
  rw [UT]
  refine Sl (Sl (UZ (T:="int") (b:=false) (XR _ _ _) PySem.sub_int_bytearray ?_))
  refine To (by rfl) ?_
  refine Sm ?_
  dsimp only
  rw [List.forIn_nil]
  refine Sm ?_
  refine Sl (T6 ?_)
  refine Sm ⟨VF PySem.F.plain_sum_loop _,codeAny_sum_loopAnyS (xV W) val' CO s₂.heap.objs.size hSf n 1 _ _ 0 _ (.inr rfl) (by exact Uk _ _) (by exact Sv _ _)
   ⟨0,rfl,W.frame 0 s₂ _ _ hst (Sz _) λb z! o e=>Sw _ e⟩ (by rw [e1];exact SH _ rfl) λs' t' hm=>?_⟩
  show Q _ _
  rw [hsum]
  exact hQ s' t' (hm.drop_new (Sz _))
end
end Mine
namespace Mine
open PySem PySem.W PyProof.Rows
variable {G:Glob} {F:Fm} {ρ ρ':List (Str×PV)} {W W':List Addr} {Rs ak Ro:List Res} {s s':Shared}
theorem rV {prog:Program} {w:World} {A:Around} (hh:A.handled=none) (I ax:Addr) (hne:ax≠I) (items:Array Value) (Ts:Nat->Addr) (vals:Nat->Array Value)
  (hit:∀ j,j<items.size->items[j]? = some (.ref (Ts j))) (hTI:∀ j,j<items.size->Ts j≠I) :
  WalksU prog w A I (I::ax::(SD items.size).map Ts) [I] items.size (λj v=>j<items.size/\v=vals j)
   (λj h=>h.IsListIter I ax j/\rJ h ax items/\∀ k,k<items.size->h.IsTuple (Ts k) (vals k))
   (λj T h=>(j<items.size/\T=Ts j)/\h.IsListIter I ax (j+1)/\rJ h ax items/\∀ k,k<items.size->h.IsTuple (Ts k) (vals k)) where
 sub:=λb hb=>by simp at hb;simp [hb]
 frame:=λz! z! z! st hk=>⟨st.1.at λo e=>hk I (by simp) o e,st.2.1.at_ λo e=>hk ax (by simp) o e,
  λk hk'=>(st.2.2 k hk').at λo e=>hk (Ts k) (Ss _ (Ss _ (S7.mpr ⟨k,SQ.mpr hk',rfl⟩))) o e⟩
 item:=λi s Q E hi st hQ=>by
  refine ob2_2 (id st.2.1) λo n e d=>?_
  refine xW st.1 e d (y:=.ref (Ts i)) (hit i hi) λh' NJ hs'=>?_
  have tup:∀ k,k<items.size->h'.IsTuple (Ts k) (vals k):=λk hk'=>(st.2.2 k hk').extBut hs'.extBut (hTI k hk')
  exact hQ (Ts i) (vals i) h' s.toks ⟨hi,rfl⟩ (tup i hi) ⟨⟨hi,rfl⟩,NJ,st.2.1.at_ λo e=>hs'.extBut _ o hne e,tup⟩ λb o hb e=>hs'.extBut b o (λh=>hb (by simp [h])) e
 go:=λz! z! z! z! z! s Q z! hm hQ=>wpAny_letOwnedTupleGo_listiter hm.2.1 (hQ s.heap hm.2 λz! z! z! e=>e)
 apart:=λj T z! hm hmem=>by
  rcases Sx.mp hmem with e | e
  ·exact hTI j hm.1.1 (hm.1.2▸e)
  ·cases e
 done:=λs Q E st hQ=>by
  refine ob2_2 (id st.2.1) λo n e d=>?_
  exact ow hh st.1 e d (by simp) λh' he'=>hQ h' s.toks λb o hb e=>he' b o (λh=>hb (by simp [h])) e
 self:=λz! z! z! z! st hQ=>wpAny_pyIter_listiter st.1 hQ
noncomputable def encP (p:Str×Str):PV:=.tup [.str p.1,.str p.2]
theorem ah.pairs {h:Heap}:∀ {xs:List (Str×Str)} {vs},ah W h (xs.map encP) vs->∃ (Ts:Nat->Addr) (vals:Nat->Array Value),∀ j,(hj:j<xs.length)->vs[j]? = some (.ref (Ts j))/\h.IsTuple (Ts j) (vals j) /\
  ∃ t u,vals j = #[.str xs[j].1 t,.str xs[j].2 u]
 | [],vs,r=>⟨λz! => 0,λz! => #[],λj hj=>by simp at hj⟩
 | x::xs,vs,r=>by
  rw [S_,ah] at r
  refine ob2_3 r λv vs' aA r1 r2=>?_;obtain rfl:=aA
  refine ob2_1 (ah.pairs r2) λTs vals hT=>ob0_2 r1.isTup λz! az=>ob2_4 az λa us bq z! aY ru=>?_;obtain rfl:=bq;refine ob1_1 aY λn e=>?_
  refine ob2_3 ru.two λv1 v2 aA q1 q2=>?_;obtain rfl:=aA
  refine ob0_2 q1.isStr λz! az=>ob1_1 az λt bh=>?_;obtain rfl:=bh
  refine ob0_2 q2.isStr λz! az=>ob1_1 az λu bh=>?_;obtain rfl:=bh
  refine ⟨λj=>match j with | 0=>a | j+1=>Ts j,λj=>match j with | 0=>#[.str x.1 t,.str x.2 u] | j+1=>vals j,λj hj=>?_⟩
  cases j with
  | zero=>exact ⟨rfl,⟨_,e,rfl,n,rfl⟩,t,u,rfl⟩
  | succ j =>
   refine ob0_3 (hT j (by simpa using hj)) λa1 a2 a3=>?_
   exact ⟨by simpa using a1,a2,by simpa using a3⟩
theorem jK (n:Nat):passing (λz! => true) n 0=SD n:=by
 unfold passing
 rw [VK]
 exact Wa.mpr λz! z! => rfl
structure vd (G:Glob) (F:Fm):Prop where
 code:∃ c P,F.env.code = .ref c/\P∈G.tabs/\∀ h,G.inv h->∃ ps,bU h c P ps
 bi:∃ bm,G.mg "__builtins__"=some (.ref bm)/\bm≠builtinsNs/\∀ h,G.inv h->∃ o,h.get? bm=some o/\o.cls = .type "module"/\o.dict=some builtinsNs/\o.data = .plain
 low:mainGlobals<G.base.objs.size/\builtinsNs<G.base.objs.size/\cStatics<G.base.objs.size
theorem xO {c P:Addr} {ps ps':Array Value} {h':Heap} {tk:Nat} (iv:G.inv s.heap) (hP:P∈G.tabs) (hc:bU s.heap c P ps) (hx:Vm P s.heap h') (hc':bU h' c P ps') (hn:gO s.heap ps.toList->gO h' ps'.toList) :
  aG G [] s {s with heap:=h',toks:=tk} :=
 ⟨λb o z! hb e=>hx b o (λh=>hb (h▸hP)) e,λiv=>G.Js _ _ c P ps ps' iv hP hc hc' hn λb o hb e=>hx b o hb e,rfl,⟨[],by simp,by simp⟩⟩
theorem zK {h:Heap} {c P:Addr} {q:Str} {ps:Array Value} (hr:h.CodeRec (.ref c) q) (ht:h.TableAt c P ps):fj h (.ref c):=by
 refine ob4_4 hr λc' o vs t e ho hd hv=>?_
 cases e
 refine ob0_2 ht λbM z! =>ob2_4 bM λo' vs' ho' hc hd' z! => ?_
 rw [ho] at ho';cases ho'
 exact ⟨c,o,vs,q,t,rfl,ho,hc,hd,hv⟩
theorem vq {h h':Heap} {x y:Int} {t u:Tok} {c:Value} (hk:∀ v,fj h v->fj h' v) (hc:fj h' c) {l:List Value} (hr:gO h l):gO h' (l++[XU x t,XU y u,c]):=by
 induction hr with
 | nil=>exact .cons hc .nil
 | cons h1 _ ih=>exact .cons (hk _ h1) ih
theorem tM {h h':Heap} {c P:Addr} {ps:Array Value} (ht:h.TableAt c P ps) (hx:Vm P h h') {v:Value} (r:fj h v):fj h' v:=by
 refine ob5_5 r λd o vs q t e ho hc hd hv=>?_
 refine ⟨d,o,vs,q,t,e,hx d o (λhm=>?_) ho,hc,hd,hv⟩
 rw [hm,ht.2] at ho
 cases ho
 cases hc
theorem vv {h h':Heap} {c P c' P':Addr} {q:Str} {x y:Int} {t u:Tok} {ps ps':Array Value} (hok:bU h c P ps) (hx:Vm P h h') (hr:h'.CodeRec (.ref c') q) (ht:h'.TableAt c' P' ps') (T:gO h ps.toList) :
  gO h' (ps ++ #[XU x t,XU y u,Vp c']).toList:=by
 rw [U3]
 exact vq (λv=>tM hok.2 hx) (zK hr ht) T
theorem j7 {M:Model} {A:Around} {E:Value->Shared->Prop} {env:Env} {c P:Addr} {ps:Array Value} {pos:Pos} {qualname:Str} {scope:Scope} {Q:Value->Shared->Prop} (hc:env.code = .ref c) (hok:bU s.heap c P ps)
  (hQ:∀ code h' tk ps',Vm P s.heap h'->bU h' c P ps'->(gO s.heap ps.toList->gO h' ps'.toList)->Q code {s with heap:=h',toks:=tk}):wpAny M A (genexprCode env pos qualname scope) Q E s:=by
 cases hf:codeAmong pos ps.toList with
 | none =>
  exact wpAny_genexprCodeX hc hok.1 hok.2 hf λc' h' tk hx _ _ h1 hr h2 zz=>zz.elim λP' zz=>zz.elim λz! zz=>zz.elim λz! ht=>hQ _ _ _ _ hx ⟨h1,h2⟩ (vv hok hx hr ht)
 | some c'=>exact wpAny_genexprCode_hit hc hok.1 hf (hQ c' s.heap s.toks ps (λz! z! z! e=>e) hok id)
theorem zp {a b:Array GenState} {x:GenState} (hx:x.bare=true) (h:GenOnlyQ a.size (a.push x) b):∃ y:GenState,y.bare=true/\b.toList=a.toList++[y]:=by
 rcases h with rfl | ⟨⟨hz,ho⟩,hb⟩
 ·exact ⟨x,hx,by simp⟩
 ·rw [Array.size_push] at hz
  have hlt:a.size<b.size:=by exact TH (SN (SI (Eq.symm hz)))
  refine ⟨b[a.size],hb _ (by simp [hlt]),?_⟩
  apply List.ext_getElem?
  intro k
  rcases Nat.lt_trichotomy k a.size with hk | hk | hk
  ·have h1:=ho k (by exact T9 hk)
   rw [Array.getElem?_push] at h1
   rw [if_neg (by exact T9 hk)] at h1
   rw [Xv (by simpa using hk)]
   simpa using h1
  ·subst hk
   rw [Xh (by simp)]
   simp [hlt]
  ·rw [TY (by simp;exact MI hz hk),TY (by simp;exact Tj hk)]
theorem nI {K:Frag} {x d C:Addr} {c:Nat} {vs:List Value} {m:Str->Option Value} {xs:List (Str×Str)} {elt iter:Sp} {xa xb:Str} {pa pb pt pos:Pos} {kt:Nat} {scope:Scope}
  (S:St G F ρ W Rs s) (ok:vd G F) (Rz:∀ h,G.inv h->K.In h) (hI:∀ s',aG G [] s s'->au s'.heap x d C (.seq vs.toArray c) m) (hsub:mroIn K C (.type "list")=some true) (hg:findIn K (.ref C) "__iter__"=some (some (.builtin "list.__iter__")))
  (hr:ah W s.heap (xs.map encP) vs) (hit:EV G F ρ W Rs iter (.raw (.ref x)))
  (hco:scope.isCoroutine=false) (hclos:closureFor scope F.env=pure []) (hcell:∀ y∈scope.names,y.2 ≠ .cell) (h0:scope.names.lookup (".0":Str)=some NameKind.local)
  (hxa:scope.names.lookup xa=some .local) (hxb:scope.names.lookup xb=some .local) (hab:xa≠xb) (hkind:scope.kind = .function)
  (hs:∀ x,genFold iter F.env x=pure x)
  (V:Nat->Value->Prop)
  (helt:∀ (A':Around) E' i (hi:i<xs.length) t u C' code (s₂:Shared) m₂,A'.handled=none->s₂.heap.Ns C' m₂->m₂ xa=some (.str xs[i].1 t)->m₂ xb=some (.str xs[i].2 u) ->
   s₂.heap.Ns mainGlobals G.mg->s₂.heap.Ns builtinsNs G.mb ->
   wpAny G.M A' (eval elt (genEnv scope [] C' code builtinsNs F.env)) (λy s₃=>V i y/\Keeps s₂ s₃) E' s₂) :
  wpAny G.M F.A (eval (.GeneratorExp elt [⟨.Tuple [.Name xa pa,.Name xb pb] kt pt,iter,[],0⟩] scope pos) F.env) (λv s₁=>∃ a fp wr Gt St,v = .ref a /\
   WalksS G.prog G.w F.A.in4 a fp wr Gt xs.length (λj y=>∃ i,(SD xs.length)[j]? = some i/\V i y) St/\St 0 s₁/\(∀ b∈fp,b<s₁.heap.objs.size)/\a∈fp/\(∀ i s,St i s->s.TypeIs (.ref a) "generator") /\
   (∀ s',Moved wr Gt s₁ s'->aG G [] s s')) (λz! z! => False) s:=by
 refine ob2_1 hr.pairs λTs vals hT=>ob2_3 ok.code λcc P hcode hP Rc=>ob1_3 ok.bi λbm hb1 hb2 NQ=>?_
 have hz:vs.length=xs.length:=by rw [hr.length,Sq]
 have hroom:=S.room
 refine wpAny_GeneratorExp_walksQT hroom.1 hco hclos hcell h0 hxa hxb hab hkind (by have:=hroom.2.1;show F.A.depth<1000;exact MF this) (aF (hit s S) λv s₁ zz=>zz.elim λy1 r=>?_) hs
 rw [Rep] at r;subst r
 have S₁:=S.step y1
 have KS:=hI s₁ y1
 refine inst_iter (Rz _ S₁.inv) KS hsub hg ?_
 have y2:aG G [] s₁ {s₁ with heap:=s₁.heap.push {cls:=.type "list_iterator",data:=.fields #[.ref x,.int 0 0]}}:=.bO G (t:=s₁.toks)
 have S₂:=S₁.step y2
 refine ⟨G.Ba _ S₂.inv,?_⟩
 refine ob1_1 (Rc _ S₂.inv) λps hps=>?_
 refine j7 hcode hps λcode h₃ tk₃ ps' qM Nv JH=>?_
 have y3:=xO (s:={s₁ with heap:=s₁.heap.push {cls:=.type "list_iterator",data:=.fields #[.ref x,.int 0 0]}}) (tk:=tk₃) S₂.inv hP hps qM Nv JH
 have aT:=S₂.step y3
 refine ob1_4 (NQ _ aT.inv) λom hm1 hm2 Bd QT=>?_
 refine wpAny_builtinsFor (m:=G.mg) (by rw [S.glob];exact G.vY _ aT.inv) hb1 hb2 hm1 hm2 Bd QT ?_
 have xh:aG G [] s {s₁ with heap:=h₃,toks:=tk₃}:=y1.trans (y2.trans y3)
 have KR:=hI _ xh
 have hlt:s₁.heap.objs.size<h₃.objs.size:=by
  have:h₃.get? s₁.heap.objs.size=some {cls:=.type "list_iterator",data:=.fields #[.ref x,.int 0 0]}:=by
   refine qM _ _ (λh=>?_) (SH _ rfl)
   have:=G.rM P hP
   rw [<- h] at this
   exact Tc _ (Su this (aS S₁.inv))
  exact Te this
 have JV:h₃.get? s₁.heap.objs.size=some {cls:=.type "list_iterator",data:=.fields #[.ref x,.int 0 0]}:=by
  refine qM _ _ (λh=>?_) (SH _ rfl)
  have:=G.rM P hP
  rw [<- h] at this
  exact Tc _ (Su this (aS S₁.inv))
 have Qz:x≠s₁.heap.objs.size:=T9 (Te KS.obj)
 have tups:∀ k,k<vs.toArray.size->h₃.IsTuple (Ts k) (vals k):=λk hk=>by
  have hk':k<xs.length:=by simpa [hz] using hk
  refine ob1_3 ((hT k hk').2.1) λo e hc' az=>ob1_1 az λn hd=>?_
  exact ⟨o,xh.iR S.inv (by simp) e (by rw [hd];simp),hc',n,hd⟩
 have rM:∀ k,k<vs.toArray.size->Ts k<s₁.heap.objs.size:=λk hk=>by
  have hk':k<xs.length:=by simpa [hz] using hk
  refine ob1_3 ((hT k hk').2.1) λo e hc' az=>ob1_1 az λn hd=>?_
  exact Te (y1.iR S.inv (by simp) e (by rw [hd];simp))
 have hbz:=aS S₁.inv
 have hwr:∀ b,b<G.base.objs.size->b∉[s₁.heap.objs.size]:=λb hb hm=>by
  have:b=s₁.heap.objs.size:=by simpa using hm
  subst this
  exact Tc _ (Su hb hbz)
 refine ⟨s₁.heap.objs.size,_,[s₁.heap.objs.size],vs.toArray.size,_,_,_,λz! => true,V,rfl,
  λA' Fy=>rV Fy s₁.heap.objs.size x Qz vs.toArray Ts vals (λj hj=>by
   have:=(hT j (by simpa [hz] using hj)).1
   simpa using this) (λj hj=>T9 (rM j hj)),λi v hv=>?_,⟨⟨_,JV,rfl,rfl⟩,⟨_,_,KR.obj,rfl⟩,tups⟩,λb hb=>?_,G.Ba _ aT.inv,?_,λhref hhref=>⟨?_,?_⟩,λa h₅ tk gs Q3 Pb D3 JP Wk hat=>?_⟩
 ·refine ob0_2 hv λhi aC=>?_;obtain rfl:=aC
  obtain ⟨_,_,t,u,e⟩:=hT i (by simpa [hz] using hi)
  exact ⟨_,_,e⟩
 ·rcases Sx.mp hb with rfl | hb
  ·exact hlt
  ·rcases Sx.mp hb with rfl | hb
   ·exact Te KR.obj
   ·refine ob1_2 (S7.mp hb) λk hk aA=>?_;obtain rfl:=aA
    exact Nat.lt_trans (rM k (SQ.mp hk)) hlt
 ·exact hwr _ ok.low.2.2
 ·intro A' E' i va vb s₂ m₂ Fy Pg hn e1 e2 hk
  exact Sm ⟨rfl,s₂.heap,s₂.toks,rfl,λz! z! e=>e⟩
 ·intro A' E' i va vb s₂ m₂ Fy Pg Sf hn e1 e2 hk
  refine ob0_2 Pg λhi hv=>?_
  have hi':i<xs.length:=by simpa [hz] using hi
  obtain ⟨_,_,t,u,e⟩:=hT i hi'
  rw [e] at hv
  injection hv with hv
  injection hv with q1 q2
  injection q2 with q2 q3
  subst q1 q2
  have I6:∀ b mm,b<G.base.objs.size->h₃.Ns b mm->s₂.heap.Ns b mm:=λb mm hb hn'=>by
   refine ob3_2 hn' λo es ep e r=>?_
   exact ⟨o,es,ep,hk b (SQ.mpr (Te e)) (hwr b hb) o (hhref b o e),r⟩
  exact helt A' E' i hi' t u _ _ s₂ m₂ Fy hn e1 e2 (I6 _ _ ok.low.1 (G.vY _ aT.inv)) (I6 _ _ ok.low.2.1 (G.A_ _ aT.inv))
 ·have hl:(passing (λz! => true) vs.toArray.size 0).length=xs.length:=by rw [jK];simp [hz]
  have hp:passing (λz! => true) vs.toArray.size 0=SD xs.length:=by rw [jK];simp [hz]
  rw [hl,hp] at Wk
  refine ⟨a,_,_,_,_,rfl,Wk,hat,λb hb=>?_,So ..,λi s' st=>st.1.typeIs,λs' hm=>?_⟩
  ·show b<h₅.objs.size
   rw [D3]
   rcases Sx.mp hb with rfl | hb
   ·exact UU _
   ·rcases Sx.mp hb with rfl | hb
    ·exact Tu Pb
    ·exact Tu (Nat.lt_trans (SQ.mp hb) Pb)
  ·have O7:∀ b o,b≠s₁.heap.objs.size->h₃.get? b=some o->s'.heap.get? b=some o:=λb o hb e=>by
    refine hm.heap b o (λhmem=>?_) (JP b o e)
    rcases Sx.mp hmem with h | h
    ·have:=Te e
     rw [h] at this
     exact Tc _ this
    ·exact hb (by simpa using h)
   refine ⟨λb o z! hb e=>?_,λiv=>?_,?_,?_⟩
   ·have e3:=xh.keep b o (by simp) hb e
    refine O7 b o (λh=>?_) e3
    subst h
    have:=y1.keep _ o (by simp) hb e
    exact Tc _ (Te this)
   ·refine G.A9 h₃ s'.heap [s₁.heap.objs.size] aT.inv (λb hb=>?_) λb o hb e=>O7 b o (by simpa using hb) e
    have:b=s₁.heap.objs.size:=by simpa using hb
    subst this
    refine ⟨hbz,λo e=>.inl ?_⟩
    rw [JV] at e;cases e
    show Vg "list_iterator"≠Vg "code"
    decide
   ·rw [hm.os]
    exact xh.os
   ·refine ob1_2 xh.gens λl el hl'=>?_
    refine ob1_2 (zp Q3 hm.gens) λy hy ey=>?_
    refine ⟨l++[y],?_,λz hz=>?_⟩
    ·rw [ey]
     have:s₁.gens.toList=s.gens.toList++l:=el
     show s₁.gens.toList++[y]=_
     rw [this,S4]
    ·rcases SO.mp hz with h | h
     ·exact hl' z h
     ·have:z=y:=by simpa using h
      rw [this];exact hy
end Mine
namespace Mine
open PySem PySem.W PyProof.Rows
variable {G:Glob} {F:Fm} {ρ ρ':List (Str×PV)} {W W':List Addr} {Rs ak Ro:List Res} {s s':Shared}
section
variable {prog:Program} {w:World} {A:Around} {E:Value->Shared->Prop} {env:Env}
theorem rQ {x:Str} {pos:Pos} {m:Str->Option Value} {v:Value} {Q:Value->Shared->Prop} (hf:env.scope.kind = .function) (hk:env.kindOf x=some .local) (hn:s.heap.Ns env.locals m) (hm:m x=some v)
  (h:Q v s) (hd:(x == ("__debug__":Str))=false):wpAny (model prog w) A (eval (.Name x pos) env) Q E s :=
 wpAny_Name (Xc hf hk hn hm h) hd
theorem tY {x y:Str} {p1 p2 pos:Pos} {m mg mb:Str->Option Value} {f:Str} {t:Tok} {Q:Value->Shared->Prop} (hf:env.scope.kind = .function) (hx:env.kindOf x=some .globalImplicit) (hg:s.heap.Ns env.globals mg) (hmg:mg x=none)
  (hb:s.heap.Ns env.builtins mb) (hmb:mb x=some (.builtin "len")) (hk:env.kindOf y=some .local) (hn:s.heap.Ns env.locals m) (hm:m y=some (.str f t)) (hl:f.length<=lim)
  (h:∀ t' k,Q (.int f.length t') {s with toks:=k}) (hdx:(x == ("__debug__":Str))=false) (Q8:(y == ("__debug__":Str))=false)
  (hst:backTo pos (starEach [.Name y p2] env)=[(false,eval (.Name y p2) env)]:=by rfl) :
  wpAny (model prog w) A (eval (.Call (.Name x p1) [.Name y p2] [] pos) env) Q E s:=by
 rw [VM]
 refine Sl (Wu hf hx (Xz hg hmg hb hmb ?_) hdx)
 rw [hst]
 refine TM rfl ?_
 refine TF (Uo (rQ hf hk hn hm (VH ?_) Q8))
 exact PySem.P.len_str (qL hl) (h _ _)
theorem Ar {x ya yb:Str} {p1 p2 p3 q1 q2 q3 pos:Pos} {m mg mb:Str->Option Value} {f g:Str} {t u:Tok} {Q:Value->Shared->Prop} (hf:env.scope.kind = .function) (hx:env.kindOf x=some .globalImplicit) (hg:s.heap.Ns env.globals mg) (hmg:mg x=none)
  (hb:s.heap.Ns env.builtins mb) (hmb:mb x=some (.builtin "len")) (hka:env.kindOf ya=some .local) (hkb:env.kindOf yb=some .local) (hn:s.heap.Ns env.locals m) (hma:m ya=some (.str f t)) (Ea:m yb=some (.str g u)) (hl:f.length<=lim) (hl':g.length<=lim)
  (h:∀ t' k,Q (.int (f.length+g.length) t') {s with toks:=k}) (hdx:(x == ("__debug__":Str))=false) (hda:(ya == ("__debug__":Str))=false) (hdb:(yb == ("__debug__":Str))=false)
  (hst:backTo p3 (starEach [.Name ya p2] env)=[(false,eval (.Name ya p2) env)]:=by rfl) (v7:backTo q3 (starEach [.Name yb q2] env)=[(false,eval (.Name yb q2) env)]:=by rfl) :
  wpAny (model prog w) A (eval (.BinOp (.Call (.Name x p1) [.Name ya p2] [] p3) .Add (.Call (.Name x q1) [.Name yb q2] [] q3) pos) env) Q E s:=by
 refine wpAny_BinOp (tY hf hx hg hmg hb hmb hka hn hma hl (λt1 k1=>?_) hdx hda hst)
 refine tY (s:={s with toks:=k1}) hf hx hg hmg hb hmb hkb hn Ea hl' (λt2 k2=>?_) hdx hdb v7
 exact PySem.P.add_int (h _ _)
theorem xm {x ya yb:Str} {p1 p2 p3 tp apos pos:Pos} {kt:Nat} {m mg:Str->Option Value} {f g e:Str} {t u te:Tok} {Q:Value->Shared->Prop} (hf:env.scope.kind = .function) (hx:env.kindOf x=some .globalImplicit) (hg:s.heap.Ns env.globals mg) (hmg:mg x=some (.str e te))
  (he:e="") (hka:env.kindOf ya=some .local) (hkb:env.kindOf yb=some .local) (hn:s.heap.Ns env.locals m) (hma:m ya=some (.str f t)) (Ea:m yb=some (.str g u)) (hl:f.length<=lim) (hl':g.length<=lim)
  (h:∀ h' t' k,(∀ b o,s.heap.get? b=some o->h'.get? b=some o)->Q (.str (f++g) t') {s with heap:=h',toks:=k}) (hdx:(x == ("__debug__":Str))=false) (hda:(ya == ("__debug__":Str))=false) (hdb:(yb == ("__debug__":Str))=false)
  (hbase:attributeBase (.Name x p1) "join" env (eval (.Name x p1) env)=eval (.Name x p1) env:=by rfl)
  (hfew:((backTo pos (starEach [.Tuple [.Name ya p2,.Name yb p3] kt tp] env)).all (λx => !x.1) && (backToKw pos (keywordEach [] env)).all (λx=>x.1.isSome)
   && decide ([PySem.Expr.Tuple [.Name ya p2,.Name yb p3] kt tp].length+([]:List Keyword).length+(if ([]:List Keyword).isEmpty then 0 else 1)<30))=true:=by rfl)
  (hst:backTo pos (starEach [.Tuple [.Name ya p2,.Name yb p3] kt tp] env)=[(false,eval (.Tuple [.Name ya p2,.Name yb p3] kt tp) env)]:=by rfl)
  (D4:backTo tp (starEach [.Name ya p2,.Name yb p3] env)=[(false,eval (.Name ya p2) env),(false,eval (.Name yb p3) env)]:=by rfl)
  (hline:(apos.endLine == pos.line)=true:=by rfl) :
  wpAny (model prog w) A (eval (.Call (.Attribute (.Name x p1) "join" apos) [.Tuple [.Name ya p2,.Name yb p3] kt tp] [] pos) env) Q E s:=by
 subst he
 refine Ut hbase hfew hline (Wu hf hx (Calls.loadGlobal_global hg hmg ?_) hdx)
 rw [hst]
 refine ⟨"str","str.join",Wg,W8,W9,Wv _ _ _,(λz! e=>nomatch e),?_⟩
 refine TM rfl ?_
 refine TF (Uo (wpAny_Tuple_spliced ?_))
 rw [D4]
 refine Uo (rQ hf hka hn hma (Uo (rQ hf hkb hn Ea (VH ?_) hdb)) hda)
 refine ⟨by show (2:Nat)<=_;decide,VH ?_⟩
 have hlim:lim=1048576:=by decide
 refine join_tuple (D:=s.heap.objs.size) (items:=#[.str f t,.str g u]) (ys:=[f,g]) ⟨_,SH _ rfl,rfl,_,rfl⟩ (.cons f t (.cons g u .nil)) ?_ λt' k=>?_
 ·rw [show ("":Str).length=0 from rfl]
  simp
  exact MG hl hl' hlim
 ·have e1:Txt.join "" [f,g]=f++g:=by
   rw [show Txt.join "" [f,g]=SP "" [f,g] from Wz ..]
   show f++""++g=f++g
   obtain ⟨fa⟩:=f
   obtain ⟨ga⟩:=g
   show Str.mk ((fa ++ #[])++ga)=Str.mk (fa++ga)
   simp
  rw [e1]
  exact h _ t' k λb o e=>Sw _ e
end
end Mine
namespace Mine
open PySem PySem.W PyProof.Rows
variable {G:Glob} {F:Fm} {ρ ρ':List (Str×PV)} {W W':List Addr} {Rs ak Ro:List Res} {s s':Shared}
noncomputable def dM (C a d:Addr) (k:Nat) (xs:List (Str×Str)) (W:List Addr) (h:Heap):Prop :=
 xs.length<=lim/\∃ vs c m,au h a d C (.seq vs.toArray c) m/\(∃ t,m "_initial_size"=some (.int k t))/\(∀ y:Str,y≠"_initial_size"->m y=none)/\ah W h (xs.map encP) vs
theorem au.keep {h h':Heap} {x d C:Addr} {dat:Data} {m} (I:au h x d C dat m) (k:∀ b,b=x\/b=d->∀ o,h.get? b=some o->h'.get? b=some o):au h' x d C dat m :=
 ⟨k x (.inl rfl) _ I.obj,I.no,I.ns.at λo e=>k d (.inr rfl) o e,I.ne⟩
noncomputable def Res.acc (C a d:Addr) (k:Nat) (xs:List (Str×Str)):Res where
 addrs:=[a,d]
 holds:=dM C a d k xs
 keep:=λW W' h h' zz=>zz.elim λhl zz=>zz.elim λvs zz=>zz.elim λc zz=>zz.elim λm zz=>zz.elim λI zz=>zz.elim λh1 zz=>zz.elim λh2 r k sk hw=>⟨hl,vs,c,m,I.keep λb hb o e=>k b (by rcases hb with rfl | rfl <;> simp) o e,h1,h2,r.keep sk hw⟩
noncomputable def bx (G:Glob) (F:Fm) (ρ:List (Str×PV)) (W:List Addr) (Rs:List Res) (P:List Addr->Heap->Prop):Prop:=∀ s,St G F ρ W Rs s->P W s.heap
theorem bx.res {r:Res} (h:r∈Rs):bx G F ρ W Rs r.holds:=λs S=>S.res r h
theorem bx.start {r:Res} (hX:F.X=[]) (hi:G.inv F.s0.heap) (hl:∀ a∈r.addrs,G.base.objs.size<=a) (h:r.holds W F.s0.heap):bx G F ρ W Rs r.holds:=λs S=>by
 have x:=S.stp
 rw [hX] at x
 exact r.keep W W _ _ h (λa ha o e=>x.keep a o (by simp) (λht=>Tc _ (Su (G.rM a ht) (hl a ha))) e) (x.cA hi (by simp)) λz! z! q=>q
theorem MP.mJ {f:Addr} {fd:FuncData} {body:List Stmt} (ok:bQ G f fd body) {names:List Str} {ps ps':List PV} {q:PV} {n:Nat}
  (hb:∀ s W vs,G.inv s.heap->ah W s.heap ps vs->∃ vs',BindsTo s fd ⟨vs,[]⟩ (names.zip vs')/\ah W s.heap ps' vs') (hlen:names.length=ps'.length)
  (hnm:∀ x∈names,fd.scope.names.lookup x=some .local\/fd.scope.names.lookup x=some .cell)
  (h:∀ A W s L,cF A (n+1)->G.inv s.heap->vU G W s->(∀ r∈Rs,r.holds W s.heap)->(∀ r∈Rs,∀ a∈r.addrs,a∈W)->jE G (eV fd f A s L n) (.func body (dK fd f L)) (names.zip ps').reverse W [] body (λfl s'=>aG G [] s s'/\Rep W s'.heap q (match fl with | .ret v=>v | _=>.none))) :
  MP G f (n+1) Rs ps q:=λA W s vs hA iv low rs h1 h2 h3=>by
 refine ob1_2 (hb s W vs iv rs) λvs' hb' rs'=>?_
 refine UO (Wf (gK (Rs:=[]) (Q:=λv s'=>aG G [] s s'/\Rep W s'.heap q v) ok hA iv low hb' rs' hlen (by simp) (by simp) .nil hnm (h A W s s.heap.objs.size hA iv low h1 h2)) λr s' hr=>?_)
 match r,hr with
 | .ok (.ret v),hr=>exact hr
 | .ok .next,hr=>exact hr.elim
 | .ok .brk,hr=>exact hr.elim
 | .ok .cont,hr=>exact hr.elim
 | .error e,hr=>exact hr.elim
theorem MP.of {f:Addr} {fd:FuncData} {body:List Stmt} (ok:bQ G f fd body) {names:List Str} {ps ps':List PV} {q:PV} {n:Nat}
  (hb:∀ s W vs,G.inv s.heap->ah W s.heap ps vs->∃ vs',BindsTo s fd ⟨vs,[]⟩ (names.zip vs')/\ah W s.heap ps' vs') (hlen:names.length=ps'.length)
  (hnm:∀ x∈names,fd.scope.names.lookup x=some .local\/fd.scope.names.lookup x=some .cell)
  (h:∀ A W s L,cF A (n+1)->G.inv s.heap->vU G W s->(∀ r∈Rs,r.holds W s.heap)->(∀ r∈Rs,∀ a∈r.addrs,a∈W)->XS G (eV fd f A s L n) (names.zip ps').reverse W [] body (λfl s'=>aG G [] s s'/\Rep W s'.heap q (match fl with | .ret v=>v | _=>.none))) :
  MP G f (n+1) Rs ps q :=
 MP.mJ ok hb hlen hnm λA W s L hA iv low h1 h2=>.of (h A W s L hA iv low h1 h2)
structure pN (G:Glob) (K:Frag) (C:Addr):Prop where
 gy:∀ h,G.inv h->K.In h
 ga:findIn K (.ref C) "__getattribute__"=some (some (.builtin "list.__getattribute__"))
 gt:findIn K (.ref C) "__getattr__"=some none
 hd:hasDictIn K C=true
 sub:mroIn K C (.type "list")=some true
 nB:noSeq K C=true
 gi:findIn K (.ref C) "__getitem__"=some (some (.builtin "list.__getitem__"))
 si:findIn K (.ref C) "__setitem__"=some (some (.builtin "list.__setitem__"))
 it:findIn K (.ref C) "__iter__"=some (some (.builtin "list.__iter__"))
 app:findIn K (.ref C) "append"=some (some (.builtin "list.append"))
 K7:findIn K (.ref C) "_initial_size"=some none
variable {K:Frag} {C a d:Addr} {k:Nat} {xs:List (Str×Str)}
theorem EV.je {o:Sp} {pos:Pos} (ok:pN G K C) (kn:bx G F ρ W Rs (dM C a d k xs)) (ho:EV G F ρ W Rs o (.raw (.ref a)))
  (he:∀ env,eval (.Attribute o "_initial_size" pos) env=(do
   let v<-eval o env
   standAt pos.atName
   let r<-holding [v] (getAttr v "_initial_size" true)
   letTemporaryGo o v r
   pure r):=by intro _;with_unfolding_all rfl):EV G F ρ W Rs (.Attribute o "_initial_size" pos) (.int k):=λs S=>by
 refine Attribute_any_ (aF (ho s S) λv s₁ zz=>zz.elim λy r=>?_) (he _)
 rw [Rep] at r;subst r
 have S₁:=S.step y
 refine ob0_2 (kn s₁ S₁) λhl az=>ob3_4 az λvs c m I aY hm2 rs=>ob1_1 aY λt hm=>?_
 exact pW (ok.gy _ S₁.inv) I ok.ga ok.hd ok.gt ok.sub ok.K7 hm rfl ⟨y.trans (.of_toks G),Rep.int⟩
end Mine
namespace Mine
open PySem PySem.W PyProof.Rows
variable {G:Glob} {F:Fm} {ρ ρ':List (Str×PV)} {W W':List Addr} {Rs ak Ro:List Res} {s s':Shared} {K:Frag} {C a d:Addr} {k:Nat} {xs:List (Str×Str)}
noncomputable def av (xs:List (Str×Str)):Nat:=(xs.map λp=>p.1.length+p.2.length).sum
noncomputable def bG (xs:List (Str×Str)):List Str:=xs.map λp=>p.1++p.2
theorem ah.oF {h:Heap}:∀ {xs:List (Str×Str)} {vs},ah W h (xs.map encP) vs->∀ p∈xs,p.1.length<=lim/\p.2.length<=lim
 | [],_,_,p,hp=>by cases hp
 | x::xs,vs,r,p,hp=>by
  rw [S_,ah] at r
  refine ob2_3 r λv vs' aA r1 r2=>?_;obtain rfl:=aA
  rcases Sx.mp hp with rfl | hp
  ·refine ob0_2 r1.isTup λz! az=>ob2_4 az λa us bq z! z! ru=>?_;obtain rfl:=bq
   refine ob2_3 ru.two λv1 v2 aA q1 q2=>?_;obtain rfl:=aA
   exact ⟨q1.isStr.1,q2.isStr.1⟩
  ·exact ah.oF r2 p hp
theorem iJ (xs:List (Str×Str)):∀ n,n<=xs.length->preSum (λi=>(((xs[i]?).map λp=>((p.1.length+p.2.length:Nat):Int)).getD 0)) n=(av (xs.take n):Nat)
 | 0,_=>by simp [preSum,av]
 | n+1,h=>by
  rw [preSum,iJ xs n (by exact SE h)]
  have hn:n<xs.length:=by exact TH (SN h)
  unfold av
  rw [show xs.take (n+1)=xs.take n++[xs[n]] from (List.take_append_getElem hn).symm,Ti,List.sum_append]
  simp [hn]
theorem au.stp {dat:Data} {m} {x:Addr} (I:au s.heap x d C dat m) (hd:∀ vs,dat ≠ .fields vs) (iv:G.inv s.heap) (y:aG G [] s s'):au s'.heap x d C dat m:=by
 refine I.keep λb hb o e=>?_
 rcases hb with rfl | rfl
 ·refine y.iR iv (by simp) e λvs h=>?_
  rw [I.obj] at e;cases e
  exact hd vs h
 ·refine y.iR iv (by simp) e λvs h=>?_
  refine ob3_3 I.ns λo' es ep e' d' z! => ?_
  rw [e] at e';cases e'
  rw [h] at d';cases d'
theorem St.lB {x:Str} {pos:Pos} {v:Value} {Q:Value->Shared->Prop} {E:Value->Shared->Prop} (S:St G F ρ W Rs s) (hx:ρ.lookup x=some (.raw v)) (hd:(x == ("__debug__":Str))=false)
  (hc:(x == ("__classdict__":Str))=false) (h:Q v s):wpAny G.M F.A (eval (.Name x pos) F.env) Q E s:=by
 refine ob1_2 (S.vars x _ hx) λv' l r=>?_
 rw [Rep] at r;subst r
 refine wpAny_Name ?_ hd
 rcases l with ⟨k,m,hn,e⟩ | ⟨k | k,c,e,hv⟩
 ·exact Xc S.kind k hn e h
 ·exact wpAny_loadName_cell S.kind k e hv h
 ·exact Xw S.kind k e hv h hc
structure rK (F:Fm) (scope:Scope) (xa xb:Str):Prop where
 co:scope.isCoroutine=false
 clos:closureFor scope F.env=pure []
 cell:∀ y∈scope.names,y.2 ≠ .cell
 h0:scope.names.lookup (".0":Str)=some NameKind.local
 la:scope.names.lookup xa=some .local
 lb:scope.names.lookup xb=some .local
 ab:xa≠xb
 kind:scope.kind = .function
 da:(xa == ("__debug__":Str))=false
 db:(xb == ("__debug__":Str))=false
theorem EV.E9 {it:Sp} {OB xo xl xa xb:Str} {p1 p2 p3 p4 p5 p6 q0 q1 po zj apos pos pa pb pt:Pos} {kt:Nat} {scope:Scope} (ok:pN G K C) (N4:vd G F) (gs:rK F scope xa xb) (kn:bx G F ρ W Rs (dM C a d k xs))
  (hsum:EV G F ρ W Rs (.Name OB q0) (.raw (.builtin "sum"))) (hit:EV G F ρ W Rs it (.raw (.ref a))) (Qx:ρ.lookup xo=some (.raw (.ref a))) (hdo:(xo == ("__debug__":Str))=false) (hco:(xo == ("__classdict__":Str))=false)
  (hlk:scope.names.lookup xl=some .globalImplicit) (hl1:G.mg xl=none) (hl2:G.mb xl=some (.builtin "len")) (hdl:(xl == ("__debug__":Str))=false)
  (hs:∀ x,genFold it F.env x=pure x)
  (he:eval (.Attribute (.Name xo po) "_initial_size" apos) F.env=(do
   let v<-eval (.Name xo po) F.env
   standAt apos.atName
   let r<-holding [v] (getAttr v "_initial_size" true)
   letTemporaryGo (.Name xo po) v r
   pure r):=by with_unfolding_all rfl)
  (hstar:backTo pos (starEach [.GeneratorExp (.BinOp (.Call (.Name xl p1) [.Name xa p2] [] p3) .Add (.Call (.Name xl p4) [.Name xb p5] [] p6) q1) [⟨.Tuple [.Name xa pa,.Name xb pb] kt pt,it,[],0⟩] scope zj,.Attribute (.Name xo po) "_initial_size" apos] F.env) =
   [(false,eval (.GeneratorExp (.BinOp (.Call (.Name xl p1) [.Name xa p2] [] p3) .Add (.Call (.Name xl p4) [.Name xb p5] [] p6) q1) [⟨.Tuple [.Name xa pa,.Name xb pb] kt pt,it,[],0⟩] scope zj) F.env),(false,eval (.Attribute (.Name xo po) "_initial_size" apos) F.env)]:=by rfl) :
  EV G F ρ W Rs (.Call (.Name OB q0) [.GeneratorExp (.BinOp (.Call (.Name xl p1) [.Name xa p2] [] p3) .Add (.Call (.Name xl p4) [.Name xb p5] [] p6) q1) [⟨.Tuple [.Name xa pa,.Name xb pb] kt pt,it,[],0⟩] scope zj,.Attribute (.Name xo po) "_initial_size" apos] [] pos)
   (.int ((k+av xs:Nat):Int)):=λs S=>by
 rw [VM]
 refine Sl (aF (hsum s S) λv s₁ zz=>zz.elim λy r=>?_)
 rw [Rep] at r;subst r
 have S₁:=S.step y
 rw [hstar]
 refine TM rfl ?_
 refine ob0_2 (kn s₁ S₁) λhl az=>ob3_4 az λvs c m I aY hm2 rs=>ob1_1 aY λt hm=>?_
 refine TF (Uo (aF (nI S₁ N4 ok.gy (λs' y'=>I.stp (by simp) S₁.inv y') ok.sub ok.it rs hit gs.co gs.clos gs.cell gs.h0 gs.la gs.lb gs.ab gs.kind hs
  (λi v=>∃ p t,xs[i]? = some p/\v = .int (p.1.length+p.2.length) t) (λA' E' i hi t u C' code s₂ m₂ Fy hn e1 e2 hg hb=>?_)) λv s₂ hv=>?_))
 ·have hp:=rs.oF xs[i] (UW _)
  refine Ar (env:=genEnv scope [] C' code builtinsNs F.env) gs.kind hlk (by show s₂.heap.Ns F.env.globals G.mg;rw [S.glob];exact hg) hl1 hb hl2 gs.la gs.lb hn e1 e2 hp.1 hp.2 (λt' k'=>?_) hdl gs.da gs.db
  exact ⟨⟨xs[i],t',by simp [hi],rfl⟩,s₂.heap,k',rfl,λz! z! e=>e⟩
 ·refine ob5_7 hv λga fp wr Gt PL Aq Wk hst hfp hga hty hend=>?_;obtain rfl:=Aq
  have S₂:aG G [] s₁ s₂:=hend s₂ ⟨λz! z! z! e=>e,Wk.grefl _,rfl,rfl,Sz _⟩
  have SS:=S₁.step S₂
  refine Uo (Attribute_any_ (SS.lB Qx hdo hco ?_) he)
  refine ob0_2 (kn s₂ SS) λhl' az=>ob3_4 az λvs' c' m' I' aY JJ rs'=>ob1_1 aY λt' hm'=>?_
  refine pW (ok.gy _ SS.inv) I' ok.ga ok.hd ok.gt ok.sub ok.K7 hm' rfl (VH ?_)
  have v7:=Wk.frame 0 s₂ s₂.heap (s₂.toks+1) hst (Uw _) λz! z! z! e=>e
  refine wA (k:=(k:Int)) ?_
  refine Wk.in4_1.self 0 _ _ _ v7 ?_
  refine ⟨ga,fp,wr,Gt,xs.length,_,PL,(λi=>(((xs[i]?).map λp=>((p.1.length+p.2.length:Nat):Int)).getD 0)),rfl,Wk.in4_1,v7,hfp,λi v hP=>?_,λs' t'' Bd=>?_⟩
  ·refine ob1_2 hP λi' hi' az=>ob2_2 az λp tt hp xd=>?_;obtain rfl:=xd
   have:i'=i:=by
    rw [V9] at hi'
    ·exact (UQ hi').symm
    ·rcases VW i xs.length with h | h
     ·exact h
     ·rw [TY (by simpa using h)] at hi';cases hi'
   subst this
   refine ⟨tt,?_⟩
   show _=XU ((Option.map (λp:Str×Str=>((p.1.length+p.2.length:Nat):Int)) xs[i']?).getD 0) tt
   rw [hp];simp
  ·have z:aG G [] s₁ s':=hend s' ⟨λb o hb e=>Bd.heap b o hb e,Bd.gens,Bd.drawn,Bd.os,Sn (Uw _) Bd.toks⟩
   refine ⟨y.trans z,?_⟩
   rw [iJ xs _ (Sz _),Xp]
   have:(k:Int)+(av xs:Nat)=((k+av xs:Nat):Int):=by push_cast;rfl
   rw [this]
   exact Rep.int
theorem vp {l:List (Str×Tok)} {xs:List (Str×Str)} {P:Nat->Value->Prop} (h:ItemsOf P (strValues l).toArray xs.length) (hP:∀ i v,P i v->∃ p t,xs[i]? = some p/\v = .str (p.1++p.2) t):l.map (·.1)=bG xs:=by
 have hz:l.length=xs.length:=by
  have:=h.1
  simpa [strValues] using this
 apply List.ext_getElem?
 intro i
 by_cases hi:i<xs.length
 ·have hl:i<l.length:=by exact Su hi (SI (Eq.symm hz))
  refine ob2_2 (hP i (.str l[i].1 l[i].2) (h.2 i _ (by simp [strValues,hl]))) λp t hp hv=>?_
  injection hv with hv1 hv2
  unfold bG
  simp only [S9,hp,WC]
  rw [SW hl]
  simp [hv1]
 ·rw [TY (by simp;exact ME hz hi),TY (by unfold bG;simp;exact Ua hi)]
theorem EV.BP {it:Sp} {xe xl xa xb:Str} {p1 p2 p3 p4 p5 q0 zj apos C5 pos pa pb pt:Pos} {kt Qk:Nat} {scope:Scope} {te:Tok} (ok:pN G K C) (N4:vd G F) (gs:rK F scope xa xb) (kn:bx G F ρ W Rs (dM C a d k xs))
  (Qy:F.env.kindOf xe=some .globalImplicit) (hit:EV G F ρ W Rs it (.raw (.ref a))) (hmg:G.mg xe=some (.str "" te)) (Pa:(xe == ("__debug__":Str))=false)
  (hlk:scope.names.lookup xe=some .globalImplicit) (hz:av xs<=lim)
  (hs:∀ x,genFold it F.env x=pure x)
  (hbase:attributeBase (.Name xe q0) "join" F.env (eval (.Name xe q0) F.env)=eval (.Name xe q0) F.env:=by rfl)
  (hline:(apos.endLine == pos.line)=true:=by rfl)
  (El:∀ C' code,attributeBase (.Name xe p1) "join" (genEnv scope [] C' code builtinsNs F.env) (eval (.Name xe p1) (genEnv scope [] C' code builtinsNs F.env))=eval (.Name xe p1) (genEnv scope [] C' code builtinsNs F.env):=by intro _ _;rfl)
  (Eb:(C5.endLine == p4.line)=true:=by rfl) :
  EV G F ρ W Rs (.Call (.Attribute (.Name xe q0) "join" apos) [.GeneratorExp (.Call (.Attribute (.Name xe p1) "join" C5) [.Tuple [.Name xa p2,.Name xb p3] Qk p5] [] p4) [⟨.Tuple [.Name xa pa,.Name xb pb] kt pt,it,[],0⟩] scope zj] [] pos)
   (.str (SP "" (bG xs))):=λs S=>by
 refine Ut hbase (by rfl) hline (aF (EV.glob (W:=W) (ρ:=ρ) (Rs:=Rs) (F:=F) (pos:=q0) Qy hmg Pa s S) λv s₁ zz=>zz.elim λy r=>?_)
 rw [Rep] at r;subst r
 have S₁:=S.step y
 refine ⟨"str","str.join",Wg,W8,W9,Wv _ _ _,(λz! e=>nomatch e),?_⟩
 refine TM rfl ?_
 refine ob0_2 (kn s₁ S₁) λhl az=>ob3_4 az λvs c m I aY hm2 rs=>ob1_1 aY λt hm=>?_
 have hlim:lim=1048576:=by decide
 refine TF (Uo (aF (nI S₁ N4 ok.gy (λs' y'=>I.stp (by simp) S₁.inv y') ok.sub ok.it rs hit gs.co gs.clos gs.cell gs.h0 gs.la gs.lb gs.ab gs.kind hs
  (λi v=>∃ p t,xs[i]? = some p/\v = .str (p.1++p.2) t) (λA' E' i hi t u C' code s₂ m₂ Fy hn e1 e2 hg hb=>?_)) λv s₂ hv=>VH ?_))
 ·have hp:=rs.oF xs[i] (UW _)
  refine xm (env:=genEnv scope [] C' code builtinsNs F.env) gs.kind hlk (by show s₂.heap.Ns F.env.globals G.mg;rw [S.glob];exact hg) hmg rfl gs.la gs.lb hn e1 e2 hp.1 hp.2 (λh' t' k' hk=>?_) Pa gs.da gs.db (hbase:=El _ _) (hline:=Eb)
  exact ⟨⟨xs[i],t',by simp [hi],rfl⟩,h',k',rfl,hk⟩
 ·refine ob5_7 hv λga fp wr Gt PL Aq Wk hst hfp hga hty hend=>?_;obtain rfl:=Aq
  refine SC.joinGen Wk.in4_2 hty hst hfp hga (λi v hP=>?_) (λs' l Bd NH=>?_) (Sn hl (by decide))
  ·refine ob1_2 hP λi' hi' az=>ob2_2 az λp tt hp xd=>?_;obtain rfl:=xd
   exact ⟨_,_,rfl⟩
  ·have el:l.map (·.1)=bG xs:=vp NH λi v hP=>by
    refine ob1_2 hP λi' hi' az=>ob2_2 az λp tt hp xd=>?_;obtain rfl:=xd
    have:i'=i:=by
     rw [V9] at hi'
     ·exact (UQ hi').symm
     ·rcases VW i xs.length with h | h
      ·exact h
      ·rw [TY (by simpa using h)] at hi';cases hi'
    subst this
    exact ⟨p,tt,hp,rfl⟩
   have hsum:((bG xs).map (·.length)).sum=av xs:=by
    unfold bG av
    rw [Th]
    congr 1
    apply Tv
    intro p _
    exact S3 ..
   rw [el]
   refine ⟨joinOk_of (by rw [hsum,show ("":Str).length=0 from rfl];exact MD hz hlim),λt' k'=>⟨(y.trans (hend s' Bd)).toks _,?_⟩⟩
   rw [show Txt.join "" (bG xs)=SP "" (bG xs) from Wz ..]
   refine Rep.str ?_
   have:=X0 "" (bG xs)
   rw [hsum,show ("":Str).length=0 from rfl] at this
   exact Sn this hz
end Mine
namespace Mine
open PySem PySem.W PyProof.Rows
variable {G:Glob} {F:Fm} {ρ ρ':List (Str×PV)} {W W':List Addr} {Rs ak Ro:List Res} {s s':Shared} {K:Frag} {C a d:Addr} {k:Nat} {xs:List (Str×Str)}
theorem St.kI (S:St G F ρ W (Res.acc C a d k xs::Ro) s) {h':Heap} {tk:Nat} {us:List Value} {c':Nat} {m':Str->Option Value} {k':Nat} {ys:List (Str×Str)} (I':au h' a d C (.seq us.toArray c') m')
  (hm:∃ t,m' "_initial_size"=some (.int k' t)) (hm2:∀ y:Str,y≠"_initial_size"->m' y=none) (hk:∀ b o,b≠a->b≠d->s.heap.get? b=some o->h'.get? b=some o) (hl:ys.length<=lim) (r:ah W s.heap (ys.map encP) us) :
  St G F ρ W (Res.acc C a d k' ys::Ro) {s with heap:=h',toks:=tk}:=by
 refine ob0_2 (S.res _ (So ..)) λz! az=>ob3_2 az λvs c m I z! => ?_
 have hW:∀ b∈(Res.acc C a d k xs).addrs,b∈W:=λb hb=>(S.new _ (So ..) b hb).1
 have y:aG G [a,d] s {s with heap:=h',toks:=tk}:=aG.gv G (λb hb=>by
  refine ⟨(S.low b (hW b hb)).1,λo e=>.inr λws hd=>?_⟩
  rcases Sx.mp hb with rfl | hb
  ·rw [I.obj] at e;cases e;cases hd
  ·have:b=d:=by simpa using hb
   subst this
   refine ob3_3 I.ns λo' es ep e' d' z! => ?_
   rw [e] at e';cases e'
   rw [hd] at d';cases d') λb o hb e=>hk b o (λh=>hb (by simp [h])) (λh=>hb (by simp [h])) e
 have sk:=y.cA S.inv hW
 have e1:([Res.acc C a d k xs]).flatMap (·.addrs)=[a,d]:=rfl
 refine St.xB (Rs:=[Res.acc C a d k xs]) (ak:=[Res.acc C a d k' ys]) (Ro:=Ro) S (by rw [e1];exact y) (λr' hr'=>?_) (λb hb=>?_) rfl
 ·have:r'=Res.acc C a d k' ys:=by simpa using hr'
  subst this
  exact ⟨hl,us,c',m',I',hm,hm2,r.keep sk λz! z! q=>q⟩
 ·rw [e1] at hb
  rcases Sx.mp hb with rfl | hb
  ·exact ⟨_,I'.obj⟩
  ·have:b=d:=by simpa using hb
   subst this
   refine ob3_2 I'.ns λo' es ep e' z! => ?_
   exact ⟨o',e'⟩
theorem Rep.none {h:Heap}:Rep W h .none .none:=by rw [Rep]
theorem xj {prog:Program} {w:World} {A:Around} {E:Value->Shared->Prop} {x:Addr} {dat:Data} {m:Str->Option Value} {name:Str} {ga id:String} {pl:Sem Bool} {Q:Value×List Value->Shared->Prop} (X:K.In s.heap) (I:au s.heap x d C dat m)
  (hga:findIn K (.ref C) "__getattribute__"=some (some (.builtin ga))) (hcan:(Manifest.canonical ga != "object.__getattribute__")=false)
  (hk:findIn K (.ref C) "__getattr__"=some none) (hf:findIn K (.ref C) name=some (some (.builtin id))) (ht:typeOf (.builtin id)=pure (.type "method_descriptor")) (hm:m name=none) (h:Q (.builtin id,[.ref x]) s) :
  wpAny (model prog w) A (getMethod (.ref x) name pl) Q E s:=by
 refine ob1_2 I.at_ λo I' hl=>?_
 unfold getMethod specialOf
 refine Sl (Sl (I'.type.here ((UA X hga).here ?_)))
 dsimp only
 rw [hcan,if_neg (by decide)]
 refine Sl (Sl (I'.type.here ((UA X hk).here ?_)))
 refine Sl (Sl (I'.type.here ((UA X hf).here (Sl (TU ht ?_)))))
 rw [if_neg (by decide +kernel)]
 refine Sl (wpAny_loadPart I'.at_ ?_)
 dsimp only
 refine Sl (wpAny_nsGet I.ns.ns ?_)
 rw [hm]
 exact Sl (Vi (Sm h))
theorem ER.wJ {xo:Str} {po apos pos:Pos} {e:Sp} {f p:Str} (ok:pN G K C) (hx:ρ.lookup xo=some (.raw (.ref a))) (he:EV G F ρ W (Res.acc C a d k xs::Ro) e (.tup [.str f,.str p])) (hl:xs.length+1<=lim)
  (hdo:(xo == ("__debug__":Str))=false:=by decide) (hco:(xo == ("__classdict__":Str))=false:=by decide)
  (hbase:attributeBase (.Name xo po) "append" F.env (eval (.Name xo po) F.env)=eval (.Name xo po) F.env:=by rfl)
  (hfew:((backTo pos (starEach [e] F.env)).all (λx => !x.1) && (backToKw pos (keywordEach [] F.env)).all (λx=>x.1.isSome)
   && decide ([e].length+([]:List Keyword).length+(if ([]:List Keyword).isEmpty then 0 else 1)<30))=true:=by rfl)
  (hst:backTo pos (starEach [e] F.env)=[(false,eval e F.env)]:=by rfl)
  (hline:(apos.endLine == pos.line)=true:=by rfl) :
  ER G F ρ W (Res.acc C a d k xs::Ro) (.Call (.Attribute (.Name xo po) "append" apos) [e] [] pos) .none (Res.acc C a d k (xs++[(f,p)])::Ro):=λs S=>by
 refine fk hbase hfew hline (S.lB hx hdo hco λpl=>?_)
 refine ob0_2 (S.res _ (So ..)) λz! az=>ob3_4 az λvs c m I aY hm2 rs=>ob1_1 aY λt hm=>?_
 refine xj (ok.gy _ S.inv) I ok.ga (by decide +kernel) ok.gt ok.app XE (hm2 _ (by decide)) ?_
 rw [hst]
 refine TM rfl ?_
 refine TF (Uo (aF (he s S) λv s₂ zz=>zz.elim λy rv=>VH ?_))
 have S₂:=S.step y
 refine ob0_2 (S₂.res _ (So ..)) λhl2 az=>ob3_4 az λPW c2 m2 I2 JJ NF OI=>?_
 have hz2:=OI.length
 refine inst_append (ok.gy _ S₂.inv) I2 ok.sub ?_ λh' c' I' hk=>⟨?_,Rep.none⟩
 ·rw [hz2,Sq]
  exact Sn hl (by decide)
 ·refine S₂.kI (tk:=s₂.toks) I' JJ NF (λb o h1 h2 e=>hk b o h1 e) (by simpa using hl) ?_
  rw [Ti]
  refine ah.append OI ?_
  rw [S_,VG,ah]
  exact ⟨v,[],rfl,rv,by rw [ah]⟩
end Mine
namespace Mine
open PySem PySem.W PyProof.Rows
variable {G:Glob} {F:Fm} {ρ ρ':List (Str×PV)} {W W':List Addr} {Rs ak Ro:List Res} {s s':Shared} {K:Frag} {C a d:Addr} {k:Nat} {xs:List (Str×Str)}
theorem m_ {prog:Program} {w:World} {A:Around} {E:Value->Shared->Prop} {x:Addr} {dat:Data} {m:Str->Option Value} {value slice:Sp} {i:Value} {ops:List Value} {id:String} {Q:Value->Shared->Prop}
  (X:K.In s.heap) (I:au s.heap x d C dat m) (hg:findIn K (.ref C) "__getitem__"=some (some (.builtin id))) (h:wpAny (model prog w) A (getItem (.ref x) i) Q E s)
  (hs:subscripted slice false (.ref x) i=operate ops (getItem (.ref x) i)):wpAny (model prog w) A (subscriptTail value slice (.ref x) i) Q E s:=by
 refine ob1_2 I.at_ λo I' z! => ?_
 unfold subscriptTail
 refine Sl ?_
 rw [getitemInPython_of_ne (by simp)]
 refine Sl (Sl (I'.type.here ((UA X hg).here ?_)))
 refine Sm ?_
 refine Sl ?_
 rw [hs]
 exact wpAny_operating (Vf h (λr s₃ h₃=>Sl (wpAny_letTemporaryGo (Sm h₃))) λz! z! x=>x)
theorem EV.u6 {value slice:Sp} {pos:Pos} {j:Nat} {p:Str×Str} (ok:pN G K C) (kn:bx G F ρ W Rs (dM C a d k xs)) (hv:EV G F ρ W Rs value (.raw (.ref a))) (hi:EV G F ρ W Rs slice (.int j)) (hx:xs[j]? = some p)
  (hs:∀ o i,subscripted slice false o i=operate [o,i] (getItem o i):=by intro _ _;rfl):EV G F ρ W Rs (.Subscript value slice pos) (encP p):=λs S=>by
 refine X_ (aF (hv s S) λo s₁ zz=>zz.elim λy r=>aF (hi s₁ (S.step y)) λi s₂ zz=>zz.elim λy2 r2=>?_)
 rw [Rep] at r;subst r
 refine ob1_1 r2.isInt λt aC=>?_;obtain rfl:=aC
 have S₂:=(S.step y).step y2
 refine ob0_2 (kn s₂ S₂) λhl az=>ob3_4 az λvs c m I aY hm2 rs=>ob1_1 aY λt' hm=>ob1_2 (rs.get (i:=j) (p:=encP p) (by simp [hx])) λv hv' rv=>?_
 refine m_ (ok.gy _ S₂.inv) I ok.gi ?_ (hs _ _)
 exact inst_item (ok.gy _ S₂.inv) I ok.sub ok.nB ok.gi rfl (by rw [rs.length,Sq];exact hl) hv' ⟨y.trans y2,rv⟩
theorem k_ {α:Type} (xs:List α) (a:Nat):∀ cnt,((SD cnt).map λk=>a+k).filterMap (xs[·]?)=(xs.drop a).take cnt
 | 0=>by simp
 | n+1=>by
  rw [List.range_succ,Ti,List.filterMap_append,k_ xs a n,TX]
  simp only [S_,VG,List.getElem?_drop]
  congr 1
theorem sliceRange_one (a b:Nat):sliceRange (a:Int) (b:Int) 1=(SD (b - a)).map λk=>a+k:=by
 unfold sliceRange
 simp only [show (1:Int) > 0 by decide,if_true]
 by_cases h:(a:Int)<b
 ·simp only [h,if_true]
  have e:((b:Int) - a+1 - 1) / 1=((b - a:Nat):Int):=by rw [Int.ediv_one,Int.add_sub_cancel,Int.ofNat_sub (Tf (Uy.mp h))]
  rw [e,Vl]
  apply Tv
  intro k _
  rw [Int.one_mul];rfl
 ·simp only [h,if_false]
  have:b - a=0:=Nat.sub_eq_zero_of_le (Ua λq=>h (Uy.mpr q))
  rw [this]
  simp
theorem q9 (v:Option Nat) (d n:Nat) (h:d<=n):(match v.map (λ(m:Nat)=>(m:Int)) with | none=>(d:Int) | some i=>max 0 (min (if i<0 then i+n else i) n))=((min (v.getD d) n:Nat):Int):=by
 cases v with
 | none=>show (d:Int)=((min d n:Nat):Int);rw [V8 h]
 | some j =>
  show max 0 (min (if (j:Int)<0 then (j:Int)+n else j) (n:Int))=((min j n:Nat):Int)
  rw [if_neg (WW.mpr (UN j)),ku]
theorem wk (l h n:Nat):min (min h n - min l n) (n - l)=min (h - l) (n - l):=by
 rcases Nat.le_total l n with hl | hl
 ·rw [V8 hl]
  rcases Nat.le_total h n with hh | hh
  ·rw [V8 hh]
  ·rw [Nat.min_eq_right hh,Nat.min_self,Nat.min_eq_right (Xi hh l)]
 ·rw [Nat.sub_eq_zero_of_le hl,Nat.min_zero,Nat.min_zero]
theorem lA {α:Type} (xs:List α) (lo hi:Option Nat):pick xs (lo.map (λ(n:Nat)=>(n:Int))) (hi.map (λ(n:Nat)=>(n:Int))) none=(xs.take (hi.getD xs.length)).drop (lo.getD 0):=by
 have e:sliceBounds (lo.map (λ(n:Nat)=>(n:Int))) (hi.map (λ(n:Nat)=>(n:Int))) none xs.length=(((min (lo.getD 0) xs.length:Nat):Int),((min (hi.getD xs.length) xs.length:Nat):Int),1) :=
  Prod.ext (q9 lo 0 _ (Td _)) (Prod.ext (q9 hi _ _ (Sz _)) rfl)
 unfold pick
 rw [e]
 simp only
 rw [sliceRange_one,k_]
 generalize lo.getD 0=l
 generalize hi.getD xs.length=h
 have e2:xs.drop (min l xs.length)=xs.drop l:=by
  rcases Nat.le_total l xs.length with h1 | h1
  ·rw [V8 h1]
  ·rw [Nat.min_eq_right h1,Ug h1,List.drop_length]
 rw [List.drop_take,e2,List.take_eq_take_iff,T8]
 exact wk ..
theorem pick_from {α:Type} (xs:List α) (j:Nat):pick xs (some (j:Int)) none none=xs.drop j:=by
 have:=lA xs (some j) none
 simpa using this
theorem vG {α:Type} (xs:List α) (j:Nat):pick xs none (some (j:Int)) none=xs.take j:=by
 have:=lA xs none (some j)
 simpa using this
theorem vH {α:Type} (xs:List α) (i j:Nat):pick xs (some (i:Int)) (some (j:Int)) none=(xs.take j).drop i:=by
 have:=lA xs (some i) (some j)
 simpa using this
theorem EV.pJ {value:Sp} {lower:Sp} {p pos:Pos} {j:Nat} (ok:pN G K C) (kn:bx G F ρ W Rs (dM C a d k xs)) (hv:EV G F ρ W Rs value (.raw (.ref a))) (hi:EV G F ρ W Rs lower (.int j)) :
  EV G F ρ W Rs (.Subscript value (.Slice (some lower) none none p) pos) (.lst ((xs.drop j).map encP)):=λs S=>by
 refine X_ (aF (hv s S) λo s₁ zz=>zz.elim λx ro=>?_)
 rw [Rep] at ro;subst ro
 have S₁:=S.step x
 have e0:eval (.Slice (some lower) none none p) F.env=(do
  let l<-valueOrNone (evalOpt (some lower) F.env)
  let u<-holding [l] (valueOrNone (evalOpt none F.env))
  let s<-holding [l,u] (valueOrNone (evalOpt none F.env))
  newFields "slice" [l,u,s]):=rfl
 rw [e0]
 refine Sl (aF (hi s₁ S₁) λl s₂ zz=>zz.elim λx2 r2=>?_)
 refine ob1_1 r2.isInt λt aC=>?_;obtain rfl:=aC
 have S₂:=S₁.step x2
 refine Sl (Sy (Sm ?_))
 refine Sl (Sy (Sm ?_))
 refine T6 (T:="slice") (data:=.fields #[_,_,_]) ?_ (by show (3:Nat)<=_;decide)
 have y:aG G [] s₂ {s₂ with heap:=s₂.heap.push {cls:=.type "slice",data:=.fields #[.int j t,.none,.none]}}:=.bO G (t:=s₂.toks)
 have aT:=S₂.step y
 refine ob0_2 (kn _ aT) λhl az=>ob3_4 az λvs c m I z! hm2 rs=>?_
 have hz:=rs.length
 rw [Sq] at hz
 refine m_ (ok.gy _ aT.inv) I ok.gi ?_ (ops:=_) rfl
 refine inst_slice (ok.gy _ aT.inv) I ok.sub ok.nB ok.gi (by rw [hz];exact hl) (XK ..) (.int (j:Int) t) .none .none (by simp) ?_
 rw [pick_from]
 have rd:=rs.drop j
 rw [<- List.map_drop] at rd
 refine ob0_2 (aT.newList (t:=s₂.toks) rd (by rw [Sq];exact Sn (by simp) hl)) λz rz=>?_
 exact ⟨x.trans (x2.trans (y.trans z)),rz⟩
end Mine
namespace Mine
open PySem PySem.W PyProof.Rows
variable {G:Glob} {F:Fm} {ρ ρ':List (Str×PV)} {W W':List Addr} {Rs ak Ro:List Res} {s s':Shared} {K:Frag} {C a d:Addr} {k:Nat} {xs us:List (Str×Str)}
noncomputable def TR (G:Glob) (F:Fm) (ρ:List (Str×PV)) (W:List Addr) (Rs:List Res) (target:Sp) (p:PV) (ak:List Res):Prop :=
 ∀ s v,St G F ρ W Rs s->Rep W s.heap p v->wpAny G.M F.A (UE target F.env v) (λz! s'=>St G F ρ W ak s') (λz! z! => False) s
theorem XS.l8 {target value:Sp} {pos:Pos} {p:PV} {rest:List Stmt} {K:Flow->Shared->Prop} (hv:EV G F ρ W Rs value p) (ht:TR G F ρ W Rs target p ak) (h:XS G F ρ W ak rest K)
  (hs:swapsWithSole [target] value pos.line F.env=pure false:=by rfl) (hw:swappedStores [target] value F.env=pure none:=by rfl)
  (he:(assignEach [target] F.env).map (·.2)=[UE target F.env]:=by rfl) :
  XS G F ρ W Rs (.Assign [target] value pos::rest) K:=λs S=>by
 refine TN ?_
 rw [Xg]
 refine Sl (Tt ?_)
 rw [hs]
 refine Sl (Sm ?_)
 rw [if_neg (by decide)]
 refine Sl (aF (hv s S) λv s₁ zz=>zz.elim λx r=>?_)
 rw [hw]
 refine Sl (Sm ?_)
 rw [he]
 show wpAny _ _ (do UE target F.env v;pure Yb) _ _ s₁
 exact Sl (aF (ht s₁ v (S.step x) r) λz! s₂ S₂=>Sm (h s₂ S₂))
theorem Aa {h':Heap} {tk:Nat} {c':Nat} {m:Str->Option Value} {vs ws:List Value} {j:Nat} (S:St G F ρ W (Res.acc C a d k xs::Ro) s) (hx:ah W s.heap (xs.map encP) vs) (hu:ah W s.heap (us.map encP) ws) (hl:(xs.take j++us).length<=lim)
  (I':au h' a d C (.seq (vs.take j++ws).toArray c') m) (hm:∃ t,m "_initial_size"=some (.int k t)) (hm2:∀ y:Str,y≠"_initial_size"->m y=none) (hk:mh a s.heap h') :
  St G F ρ W (Res.acc C a d k (xs.take j++us)::Ro) {s with heap:=h',toks:=tk}:=by
 refine S.kI I' hm hm2 (λb o h1 z! e=>hk b o h1 e) hl ?_
 rw [Ti,XH]
 exact ah.append (hx.take j) hu
theorem TR.pJ {xo:Str} {po p pos:Pos} {lower:Sp} {j:Nat} (ok:pN G K C) (hx:ρ.lookup xo=some (.raw (.ref a))) (hi:EV G F ρ W (Res.acc C a d k xs::Ro) lower (.int j)) (hj:j<=xs.length) (Lc:us.length<=lim) (hl:(xs.take j++us).length<=lim)
  (hdo:(xo == ("__debug__":Str))=false:=by decide) (hco:(xo == ("__classdict__":Str))=false:=by decide) :
  TR G F ρ W (Res.acc C a d k xs::Ro) (.Subscript (.Name xo po) (.Slice (some lower) none none p) pos) (.lst (us.map encP)) (Res.acc C a d k (xs.take j++us)::Ro):=λs v S r=>by
 rw [arm_assign_Subscript]
 refine Sl (Sy (S.lB hx hdo hco ?_))
 have e0:eval (.Slice (some lower) none none p) F.env=(do
  let l<-valueOrNone (evalOpt (some lower) F.env)
  let u<-holding [l] (valueOrNone (evalOpt none F.env))
  let s<-holding [l,u] (valueOrNone (evalOpt none F.env))
  newFields "slice" [l,u,s]):=rfl
 rw [e0]
 refine Sl (Sy ?_)
 refine Sl (aF (hi s S) λl s₂ zz=>zz.elim λx2 r2=>?_)
 refine ob1_1 r2.isInt λt aC=>?_;obtain rfl:=aC
 have S₂:=S.step x2
 refine Sl (Sy (Sm ?_))
 refine Sl (Sy (Sm ?_))
 refine T6 (T:="slice") (data:=.fields #[_,_,_]) ?_ (by show (3:Nat)<=_;decide)
 have y:aG G [] s₂ {s₂ with heap:=s₂.heap.push {cls:=.type "slice",data:=.fields #[.int j t,.none,.none]}}:=.bO G (t:=s₂.toks)
 have aT:=S₂.step y
 have rr:=y.rep0 S₂.inv (x2.rep0 S.inv r)
 refine ob0_2 rr.dY λNr az=>ob2_4 az λb ws bq Ri aY ru=>?_;obtain rfl:=bq;refine ob1_1 aY λn eb=>?_
 refine ob0_2 (aT.res _ (So ..)) λwV az=>ob3_4 az λvs c m I hm hm2 rs=>?_
 have hz:=rs.length
 have Jx:=ru.length
 rw [Sq] at hz Jx
 refine Sl (Tt (Sl (Sy ?_)))
 refine inst_setSlice (j:=j) (lo:=some (j:Int)) (us:=ws) (ok.gy _ aT.inv) I ok.sub ok.nB ok.si (by rw [hz];exact wV) (by rw [Jx];exact Lc) (by rw [hz];exact hj) (.inl rfl) (XK ..) (.int (j:Int) t) .none .none eb λh' c' I' hk=>?_
 refine XA ?_
 exact Aa (tk:=s₂.toks) aT rs ru hl I' hm hm2 hk
theorem TR.Ab {xo:Str} {po p pos:Pos} (ok:pN G K C) (hx:ρ.lookup xo=some (.raw (.ref a))) (Lc:us.length<=lim)
  (hdo:(xo == ("__debug__":Str))=false:=by decide) (hco:(xo == ("__classdict__":Str))=false:=by decide) :
  TR G F ρ W (Res.acc C a d k xs::Ro) (.Subscript (.Name xo po) (.Slice none none none p) pos) (.lst (us.map encP)) (Res.acc C a d k us::Ro):=λs v S r=>by
 rw [arm_assign_Subscript]
 refine Sl (Sy (S.lB hx hdo hco ?_))
 have e0:eval (.Slice none none none p) F.env=(do
  let l<-valueOrNone (evalOpt none F.env)
  let u<-holding [l] (valueOrNone (evalOpt none F.env))
  let s<-holding [l,u] (valueOrNone (evalOpt none F.env))
  newFields "slice" [l,u,s]):=rfl
 rw [e0]
 refine Sl (Sy ?_)
 refine Sl (Sm ?_)
 refine Sl (Sy (Sm ?_))
 refine Sl (Sy (Sm ?_))
 refine T6 (T:="slice") (data:=.fields #[_,_,_]) ?_ (by show (3:Nat)<=_;decide)
 have y:aG G [] s {s with heap:=s.heap.push {cls:=.type "slice",data:=.fields #[.none,.none,.none]}}:=.bO G (t:=s.toks)
 have aT:=S.step y
 have rr:=y.rep0 S.inv r
 refine ob0_2 rr.dY λNr az=>ob2_4 az λb ws bq Ri aY ru=>?_;obtain rfl:=bq;refine ob1_1 aY λn eb=>?_
 refine ob0_2 (aT.res _ (So ..)) λwV az=>ob3_4 az λvs c m I hm hm2 rs=>?_
 have hz:=rs.length
 have Jx:=ru.length
 rw [Sq] at hz Jx
 refine Sl (Tt (Sl (Sy ?_)))
 refine inst_setSlice (j:=0) (lo:=none) (us:=ws) (ok.gy _ aT.inv) I ok.sub ok.nB ok.si (by rw [hz];exact wV) (by rw [Jx];exact Lc) (Td _) (.inr ⟨rfl,rfl⟩) (XK ..) .none .none .none eb λh' c' I' hk=>?_
 refine XA ?_
 have:=Aa (tk:=s.toks) (j:=0) aT rs ru (by simpa using Lc) I' hm hm2 hk
 simpa using this
end Mine
namespace Mine
open PySem PySem.W PyProof.Rows
open PySem.Builtin
section
variable {prog:Program} {w:World} {A:Around} {E:Value->Shared->Prop} {h:Heap} {g:Array GenState} {dr:Drawn} {t:Nat} {os:OsState} {x C:Addr}
theorem rS {Q:Ye->Shared->Prop} (hT:Looks (model prog w) h (typeOf (.ref x)) (.ref C)) (hS:Looks (model prog w) h (isSubtype (.ref C) (.type "list")) true)
  (hq:Q (.done (.ret (.ref h.objs.size))) ⟨h.push {cls:=.type "builtin_function_or_method",data:=.fields #[.builtin "list.pop",.ref x]},g,dr,t,os⟩) :
  wpAny (model prog w) A (Builtin.«method_descriptor.__get__» ⟨[.builtin "list.pop",.ref x,.ref C],[]⟩) Q E ⟨h,g,dr,t,os⟩:=by
 have e:(".".intercalate ("list.pop".cutAt '.').dropLast)="list":=by decide +kernel
 have hS':Looks (model prog w) h (isSubtype (.ref C) (.type (".".intercalate ("list.pop".cutAt '.').dropLast))) true:=by rw [e];exact hS
 unfold Builtin.«method_descriptor.__get__»
 repeat lk
 all_goals exact hq
theorem rT {Q:Ye->Shared->Prop} (hT:Looks (model prog w) h (typeOf (.ref x)) (.ref C)) (hS:Looks (model prog w) h (isSubtype (.ref C) (.type "list")) true)
  (hq:Q (.done (.ret (.ref h.objs.size))) ⟨h.push {cls:=.type "method-wrapper",data:=.fields #[.builtin "list.__len__",.ref x]},g,dr,t,os⟩) :
  wpAny (model prog w) A (Builtin.«wrapper_descriptor.__get__» ⟨[.builtin "list.__len__",.ref x,.ref C],[]⟩) Q E ⟨h,g,dr,t,os⟩:=by
 have e:(".".intercalate ("list.__len__".cutAt '.').dropLast)="list":=by decide +kernel
 have hS':Looks (model prog w) h (isSubtype (.ref C) (.type (".".intercalate ("list.__len__".cutAt '.').dropLast))) true:=by rw [e];exact hS
 unfold Builtin.«wrapper_descriptor.__get__»
 repeat lk
 all_goals exact hq
theorem pU {Q:Ye->Shared->Prop} (hT:Looks (model prog w) h (typeOf (.ref x)) (.ref C)) (hS:Looks (model prog w) h (isSubtype (.ref C) (.type "list")) true)
  (hq:Q (.done (.ret (.ref h.objs.size))) ⟨h.push {cls:=.type "method-wrapper",data:=.fields #[.builtin "list.__init__",.ref x]},g,dr,t,os⟩) :
  wpAny (model prog w) A (Builtin.«wrapper_descriptor.__get__» ⟨[.builtin "list.__init__",.ref x,.ref C],[]⟩) Q E ⟨h,g,dr,t,os⟩:=by
 have e:(".".intercalate ("list.__init__".cutAt '.').dropLast)="list":=by decide +kernel
 have hS':Looks (model prog w) h (isSubtype (.ref C) (.type (".".intercalate ("list.__init__".cutAt '.').dropLast))) true:=by rw [e];exact hS
 unfold Builtin.«wrapper_descriptor.__get__»
 repeat lk
 all_goals exact hq
end
end Mine
namespace Mine
open PySem PySem.W PyProof.Rows
open PySem.Builtin
noncomputable def bw (bt id:String) (x:Addr):Obj:={cls:=.type bt,data:=.fields #[.builtin id,.ref x]}
section
variable {prog:Program} {w:World} {A:Around} {E:Value->Shared->Prop} {h:Heap} {g:Array GenState} {dr:Drawn} {t:Nat} {os:OsState} {x C D so:Addr}
theorem pR {name:Str} {tk:Tok} {id gid dt bt:String} {Q:Ye->Shared->Prop} (hso:h.get? so=some (ks_superObj D x C)) (hno:Looks (model prog w) h (opaqueClassAbove (.ref C)) none)
  (hC:Looks (model prog w) h (mroOf (.ref C)) [.ref C,.type "list",.type "object"]) (hD:D=C) (hxC:x≠C) (hn:(name == ("__class__":Str))=false)
  (hown:classOwn (.type "list") name=pure (some (.builtin id))) (hty:typeOf (.builtin id)=pure (.type dt)) (hget:typeLookup (.type dt) "__get__"=pure (some (.builtin gid)))
  (hcall:∀ (A':Around) (R:Result->Shared->Prop),R (.ok (.ret (.ref h.objs.size))) ⟨h.push (bw bt id x),g,dr,t,os⟩->codeAny (model prog w) A' (.call (.builtin gid) ⟨[.builtin id,.ref x,.ref C],[]⟩) R ⟨h,g,dr,t,os⟩)
  (hq:Q (.done (.ret (.ref h.objs.size))) ⟨h.push (bw bt id x),g,dr,t,os⟩) :
  wpAny (model prog w) A (Builtin.«super.__getattribute__» ⟨[.ref so,.str name tk],[]⟩) Q E ⟨h,g,dr,t,os⟩:=by
 subst hD
 have hne:(Vp x == Vp D)=false:=by simp [hxC]
 have hdt:(ks_superObj D x D).data = .fields #[.ref D,.ref x,.ref D]:=rfl
 have f0:(#[.ref D,.ref x,.ref D]:Array Value)[0]? = some (.ref D):=rfl
 have f1:(#[.ref D,.ref x,.ref D]:Array Value)[1]? = some (.ref x):=rfl
 have f2:(#[.ref D,.ref x,.ref D]:Array Value)[2]? = some (.ref D):=rfl
 have hl:([.ref D,.type "list",.type "object"]:List Value).dropWhile (· != .ref D)=[.ref D,.type "list",.type "object"]:=by simp [List.dropWhile]
 unfold Builtin.«super.__getattribute__»
 repeat (first
  | (with_reducible refine WG hso hdt f0 ?_) | (with_reducible refine WG hso hdt f1 ?_) | (with_reducible refine WG hso hdt f2 ?_)
  | (with_reducible refine ks_wpAny_notOpaque hno ?_)
  | (with_reducible refine Looks.at hC ?_;rw [hl])
  | (with_reducible refine To (decide_eq_false (ne_true_of_eq_false hn)) ?_) | (with_reducible refine To (decide_eq_false (ne_true_of_eq_false hne)) ?_) | (refine To (by rfl) ?_)
  | wp_step
  | dsimp only)
 rw [show (if (Vp x == Vp D)=true then V7 else Vp x)=Vp x from if_neg (ne_true_of_eq_false hne)]
 refine hcall _ _ ?_
 dsimp only
 refine Sl (Sm (Sm ?_))
 exact Sm (Sm hq)
theorem mw {name:Str} {id gid dt bt:String} {pl:Sem Bool} {Q:Value×List Value->Shared->Prop} (hso:h.get? so=some (ks_superObj D x C)) (hno:Looks (model prog w) h (opaqueClassAbove (.ref C)) none)
  (hC:Looks (model prog w) h (mroOf (.ref C)) [.ref C,.type "list",.type "object"]) (hD:D=C) (hxC:x≠C) (hn:(name == ("__class__":Str))=false)
  (hown:classOwn (.type "list") name=pure (some (.builtin id))) (hty:typeOf (.builtin id)=pure (.type dt)) (hget:typeLookup (.type dt) "__get__"=pure (some (.builtin gid)))
  (hcall:∀ (A':Around) (R:Result->Shared->Prop) (t':Nat),R (.ok (.ret (.ref h.objs.size))) ⟨h.push (bw bt id x),g,dr,t',os⟩->codeAny (model prog w) A' (.call (.builtin gid) ⟨[.builtin id,.ref x,.ref C],[]⟩) R ⟨h,g,dr,t',os⟩)
  (hq:Q (.ref h.objs.size,[]) ⟨h.push (bw bt id x),g,dr,t+1,os⟩):wpAny (model prog w) A (getMethod (.ref so) name pl) Q E ⟨h,g,dr,t,os⟩:=by
 have hlk:=XI.lookup
 have hcan:=PySem.F.ks_canon_super_ga
 have hT:∀ t',(⟨h,g,dr,t',os⟩:Shared).TypeIs (.ref so) "super":=λz! => ⟨_,hso,rfl⟩
 unfold getMethod
 refine Sl (W5 (hT _) hlk ?_)
 show wpAny _ _ (if (Manifest.canonical "super.__getattribute__" != "object.__getattribute__")=true then _ else _) _ _ _
 rw [if_pos hcan]
 unfold getAttr getAttrBy
 refine Sl (Sl (wpAny_mkText (Sy (Sl (X5 (hT _) (Sl (TU hlk ?_)))))))
 show wpAny _ _ (getAttrByItsOwn (.ref so) (.str name t) (.type "super") (.builtin "super.__getattribute__") true false) _ _ _
 unfold getAttrByItsOwn hookBefore callGetattribute boundAndCalled
 refine Sl (TU (show (if onTheHeap (.type "super") then typeLookup (.type "super") "__getattr__" else pure none)=pure none from rfl) ?_)
 refine Sl (U_ (Sy ?_))
 show wpAny _ _ (bindSpecial (.builtin "super.__getattribute__") (.ref so) >>= _) _ _ _
 refine Sl (TU (XI.bind _) ?_)
 refine Vf (Q:=λv s'=>v = .ref h.objs.size/\s'=⟨h.push (bw bt id x),g,dr,t+1,os⟩) (E:=λz! z! => False)
  (UK XI (hT _) PySem.F.ks_entry_super_ga (pR hso hno hC hD hxC hn hown hty hget (λA' R hR=>hcall A' R _ hR) ⟨_,rfl,rfl,rfl⟩) (PySem.F.ks_gaArgs_super _ _)) (λv s' hv=>?_) λz! z! z=>z.elim
 refine ob0_2 hv λbM aC=>?_;obtain rfl:=bM;obtain rfl:=aC
 exact Sm (Sm hq)
end
end Mine
namespace Mine
open PySem PySem.W PyProof.Rows
open PySem.Builtin
theorem oH:classOwn (.type "list") "pop"=pure (some (.builtin "list.pop")):=by kernel_rfl
theorem oJ:classOwn (.type "list") "__len__"=pure (some (.builtin "list.__len__")):=by kernel_rfl
theorem mH:classOwn (.type "list") "__init__"=pure (some (.builtin "list.__init__")):=by kernel_rfl
theorem gb:typeOf (.builtin "list.__len__")=pure (.type "wrapper_descriptor"):=by show builtinType _=_;rw [builtinType_eq_fast];kernel_rfl
theorem fP:typeOf (.builtin "list.__init__")=pure (.type "wrapper_descriptor"):=by show builtinType _=_;rw [builtinType_eq_fast];kernel_rfl
theorem gm:Slot "method_descriptor" "__get__" "method_descriptor.__get__":=.of (owner:="method_descriptor") (n:="__get__") (by rw [Uj,TG];kernel_rfl) (by decide +kernel) (by decide +kernel) (by decide +kernel)
 (by first | exact .inl (by decide +kernel) | exact .inr (by decide +kernel)) (by rw [WQ];kernel_rfl)
theorem cI:Slot "wrapper_descriptor" "__get__" "wrapper_descriptor.__get__":=.of (owner:="wrapper_descriptor") (n:="__get__") (by rw [Uj,TG];kernel_rfl) (by decide +kernel) (by decide +kernel) (by decide +kernel)
 (by first | exact .inl (by decide +kernel) | exact .inr (by decide +kernel)) (by rw [WQ];kernel_rfl)
theorem o7:entryFor table "method_descriptor.__get__"=some Builtin.«method_descriptor.__get__» := WR (by kernel_rfl)
theorem i7:entryFor table "wrapper_descriptor.__get__"=some Builtin.«wrapper_descriptor.__get__» := WR (by kernel_rfl)
theorem rB (a b c:Value):argsOk "method_descriptor.__get__" ⟨[a,b,c],[]⟩:=by unfold argsOk;kernel_rfl
theorem jY (a b c:Value):argsOk "wrapper_descriptor.__get__" ⟨[a,b,c],[]⟩:=by unfold argsOk;kernel_rfl
theorem jx:entryFor table "list.__init__"=some Builtin.«list.__init__» := WR (by kernel_rfl)
theorem nk:plainId "list.pop"=true:=by decide +kernel
theorem plain_len:plainId "list.__len__"=true:=by decide +kernel
theorem sG:plainId "list.__init__"=true:=by decide +kernel
section
variable {prog:Program} {w:World} {A:Around} {E:Value->Shared->Prop} {h:Heap} {g:Array GenState} {dr:Drawn} {t:Nat} {os:OsState} {x C q:Addr} {R:Result->Shared->Prop}
theorem o_ (hT:Looks (model prog w) h (typeOf (.ref x)) (.ref C)) (hS:Looks (model prog w) h (isSubtype (.ref C) (.type "list")) true) (hR:R (.ok (.ret (.ref h.objs.size))) ⟨h.push (bw "builtin_function_or_method" "list.pop" x),g,dr,t,os⟩) :
  codeAny (model prog w) A (.call (.builtin "method_descriptor.__get__") ⟨[.builtin "list.pop",.ref x,.ref C],[]⟩) R ⟨h,g,dr,t,os⟩ :=
 Ui gm.plain o7 (gm.check _ _ _ _ _ _ _ _ PySem.F.type_list_pop (rB _ _ _) (rS hT hS hR))
theorem pg (hT:Looks (model prog w) h (typeOf (.ref x)) (.ref C)) (hS:Looks (model prog w) h (isSubtype (.ref C) (.type "list")) true) (hR:R (.ok (.ret (.ref h.objs.size))) ⟨h.push (bw "method-wrapper" "list.__len__" x),g,dr,t,os⟩) :
  codeAny (model prog w) A (.call (.builtin "wrapper_descriptor.__get__") ⟨[.builtin "list.__len__",.ref x,.ref C],[]⟩) R ⟨h,g,dr,t,os⟩ :=
 Ui cI.plain i7 (cI.check _ _ _ _ _ _ _ _ gb (jY _ _ _) (rT hT hS hR))
theorem mU (hT:Looks (model prog w) h (typeOf (.ref x)) (.ref C)) (hS:Looks (model prog w) h (isSubtype (.ref C) (.type "list")) true) (hR:R (.ok (.ret (.ref h.objs.size))) ⟨h.push (bw "method-wrapper" "list.__init__" x),g,dr,t,os⟩) :
  codeAny (model prog w) A (.call (.builtin "wrapper_descriptor.__get__") ⟨[.builtin "list.__init__",.ref x,.ref C],[]⟩) R ⟨h,g,dr,t,os⟩ :=
 Ui cI.plain i7 (cI.check _ _ _ _ _ _ _ _ fP (jY _ _ _) (pU hT hS hR))
theorem fU {id:String} {B:Builtin} (hq:h.get? q=some (bw "method-wrapper" id x)) (hk:builtinKind id=some .slot) (hp:plainId id=true) (he:entryFor table id=some B) (ha:argsOk id ⟨[.ref x],[]⟩)
  (hb:wpAny (model prog w) A.in1 (B ⟨[.ref x],[]⟩) (λfin s'=>match fin with | .done f=>R (.ok f) s' | .again c'=>c'.quiet=true/\codeAny (model prog w) A c' R s') (λe s'=>R (.error e) s') ⟨h,g,dr,t,os⟩) :
  codeAny (model prog w) A (.call (.ref q) ⟨[],[]⟩) R ⟨h,g,dr,t,os⟩:=by
 refine W6 ?_
 show wpAny _ _ (callAny (.ref q) _) _ _ _
 refine nd_load hq ?_
 show wpAny _ _ (checkBoundCall id ⟨[.ref x],[]⟩ >>= λz! => again (.builtin id ⟨[.ref x],[]⟩)) _ _ _
 refine Sl ?_
 have fin:wpAny (model prog w) A.in1 (again (.builtin id ⟨[.ref x],[]⟩)) (λfin s'=>match fin with | .done f=>R (.ok f) s' | .again c'=>c'.quiet=true/\codeAny (model prog w) A c' R s') (λe s'=>R (.error e) s') ⟨h,g,dr,t,os⟩ :=
  Sm ⟨VF hp _,Va he (by rw [Un hp];exact hb)⟩
 unfold checkBoundCall
 cases hs:WM id with
 | none=>exact Sm fin
 | some sig =>
  simp only [argsOk,hs] at ha
  have h2:X4 id sig ⟨[.ref x],[]⟩=pure ():=ha
  dsimp only
  rw [hk]
  dsimp only
  rw [if_pos (by decide)]
  rw [h2]
  exact Sm fin
end
end Mine
namespace Mine
open PySem PySem.W PyProof.Rows
open PySem.Builtin
noncomputable def xT:Manifest.Signature:=⟨.positional,"list.pop","pop",.self,[⟨"index",.posOnly,false⟩]⟩
theorem AE:WM "list.pop"=some xT:=by
 rw [signature?_of (id:="list.pop") (n:=['p','o','p']) (o:=['t','s','i','l']) (by kernel_rfl) PySem.F.owner_list];kernel_rfl
noncomputable def Ag (cd:ClassData):Prop:=∀ x:Value,X4 "list.pop" {xT with full:=s!"{cd.qualname.toString}.{Bind.lastOf "list.pop"}"} ⟨[x],[]⟩=pure ()
section
variable {prog:Program} {w:World} {A:Around} {E:Value->Shared->Prop} {h:Heap} {g:Array GenState} {dr:Drawn} {t:Nat} {os:OsState} {x C q d:Addr} {R:Result->Shared->Prop} {K:Frag} {dat:Data} {m:Str->Option Value} {cd:ClassData}
theorem l0 (hq:h.get? q=some (bw "builtin_function_or_method" "list.pop" x)) (X:K.In h) (I:au h x d C dat m) (hmod:mroIn K C (.type "module")=some false) (hcd:clsIn K C=some cd) (htc:typeIn K (.ref C)=some (.type "type")) (Nx:Ag cd)
  (hb:wpAny (model prog w) A.in1 (Builtin.«list.pop» ⟨[.ref x],[]⟩) (λfin s'=>match fin with | .done f=>R (.ok f) s' | .again c'=>c'.quiet=true/\codeAny (model prog w) A c' R s') (λe s'=>R (.error e) s') ⟨h,g,dr,t,os⟩) :
  codeAny (model prog w) A (.call (.ref q) ⟨[],[]⟩) R ⟨h,g,dr,t,os⟩:=by
 refine ob1_2 I.at_ λo I' z! => ?_
 refine W6 ?_
 show wpAny _ _ (callAny (.ref q) _) _ _ _
 refine nd_load hq ?_
 show wpAny _ _ (checkBoundCall "list.pop" ⟨[.ref x],[]⟩ >>= λz! => again (.builtin "list.pop" ⟨[.ref x],[]⟩)) _ _ _
 refine Sl ?_
 have fin:wpAny (model prog w) A.in1 (again (.builtin "list.pop" ⟨[.ref x],[]⟩)) (λfin s'=>match fin with | .done f=>R (.ok f) s' | .again c'=>c'.quiet=true/\codeAny (model prog w) A c' R s') (λe s'=>R (.error e) s') ⟨h,g,dr,t,os⟩ :=
  Sm ⟨VF nk _,Va PySem.F.entry_list_pop (by rw [Un nk];exact hb)⟩
 unfold checkBoundCall
 rw [AE]
 dsimp only
 rw [show builtinKind "list.pop"=some .method by decide +kernel]
 dsimp only
 rw [if_neg (by decide)]
 have L1:Looks (model prog w) h (isInstance (.ref x) (.type "module")) false:=(I'.type (M:=model prog w)).andThen (Wn X hmod)
 refine Sl (L1.at ?_)
 rw [if_neg (by decide +kernel)]
 refine Sl (ks_wpAny_isType_inst I.obj (λc=>I.no c) ?_)
 rw [if_neg (by decide)]
 refine Sl ((I'.type (M:=model prog w)).at ?_)
 dsimp only
 refine Sl ((looks_clsIn X hcd).at ?_)
 refine Sl ((looks_typeIn X htc).at ?_)
 rw [if_pos (by decide),Nx]
 exact Sm fin
end
end Mine
namespace Mine
open PySem PySem.W PyProof.Rows
open PySem.Builtin
variable {G:Glob} {F:Fm} {ρ ρ':List (Str×PV)} {W W':List Addr} {Rs ak Ro:List Res} {s s':Shared} {K:Frag} {C a d x f cda cc L:Addr} {dat:Data} {m:Str->Option Value} {fd:FuncData} {body:List Stmt} {E:Value->Shared->Prop}
structure gZ (G:Glob) (K:Frag) (C:Addr) (fd:FuncData) (cda cc:Addr):Prop where
 sup:fd.scope.names.lookup ("super":Str)=some .globalImplicit
 cls:fd.scope.names.lookup ("__class__":Str)=some .free
 cells:∀ L,(cellsFrom (L+1) fd.scope.names fd.closure).lookup ("__class__":Str)=some cc
 cell:∀ h,G.inv h->h.IsCell cc (some (.ref C))
 code:fd.code = .ref cda
 file:∀ h,G.inv h->∃ oc vs tf file,h.get? cda=some oc/\oc.data = .fields vs/\vs[2]? = some (.str file tf)/\((G.prog.main.file:Str) == file)=true
 top:(G.prog.main.scope.names.lookup ("super":Str)).isSome=false
 mg:G.mg "super"=none
 mb:G.mb "super"=some (.type "super")
 op:nsIn K cStatics "thirdparty.any"=some none
 cd:∃ cd,clsIn K C=some cd/\cd.mro=[.ref C,.type "list",.type "object"]/\Ag cd
 tc:typeIn K (.ref C)=some (.type "type")
 md:mroIn K C (.type "module")=some false
 self:mroIn K C (.ref C)=some true
theorem au.kr {h h':Heap} (I:au h x d C dat m) (k:∀ b o,h.get? b=some o->h'.get? b=some o):au h' x d C dat m:=I.keep λb z! o e=>k b o e
theorem zM {cd:ClassData} {h:Heap} (X:K.In h) (e:clsIn K C=some cd):∃ o,h.get? C=some o/\o.data = .cls cd:=by
 unfold clsIn at e
 split at e
 ·rename_i ho;cases e;exact ⟨_,X _ _ ho,rfl⟩
 ·cases e
theorem au.Qg {cd:ClassData} {h:Heap} (X:K.In h) (e:clsIn K C=some cd) (I:au h x d C dat m):x≠C:=by
 refine ob1_2 (zM X e) λo e1 e2=>?_
 rintro rfl
 rw [I.obj] at e1;cases e1
 exact I.no _ e2
theorem pX {p0 p1:Pos} {attr:Str} {whole:Sem Value} {ar:Arg} {Q:Value->Shared->Prop} (gy:∀ h,G.inv h->K.In h) (ok:bQ G f fd body) (so:gZ G K C fd cda cc) (hF:F.env=dK fd f L)
  (hp:(fd.params.posonlyargs++fd.params.args).head? = some ar) (hat:(attr == ("__class__":Str))=false) (S:St G F ρ W Rs s) (hx:ρ.lookup ar.arg=some (.raw (.ref x))) (I:au s.heap x d C dat m) (hca:(ar.arg == ("__classdict__":Str))=false)
  (h:∀ h',h'.get? s.heap.objs.size=some (ks_superObj C x C)->(∀ b o,s.heap.get? b=some o->h'.get? b=some o)->Q (.ref s.heap.objs.size) {s with heap:=h'}) :
  WE G.M F.A (.func body F.env) (attributeBase (.Call (.Name "super" p0) [] [] p1) attr F.env whole) Q E s:=by
 refine ob1_2 ok.at_ λo ho hd=>ob4_4 (so.file _ S.inv) λoc vs tf file e1 e2 e3 e4=>ob1_3 so.cd λcd hcd Bc z! => ?_
 have X:=gy _ S.inv
 refine ob1_2 (zM X hcd) λoD Pn Pk=>?_
 have hk1:F.env.kindOf "super"=some .globalImplicit:=by rw [hF];exact so.sup
 have hk2:F.env.kindOf "__class__"=some .free:=by rw [hF];exact so.cls
 refine ks_wpAt_super_base (env:=F.env) hk1 hk2 hat (by rw [hF];rfl) (G.vZ _ S.inv f o ho ok.nt) hd hp (by rw [hF];exact so.code) e1 e2 e3 e4 so.top ?_
 refine ks_loadName_global S.kind hk1 (Xz (by rw [S.glob];exact G.vY _ S.inv) so.mg (by rw [S.blt];exact G.A_ _ S.inv) so.mb ⟨rfl,?_⟩)
 refine Xw S.kind hk2 (by rw [hF];exact so.cells L) (so.cell _ S.inv) ?_
 refine ob1_2 (S.vars _ _ hx) λv' l r=>?_
 rw [Rep] at r;subst r
 have tail:wpAny G.M F.A (isType (.ref C)) (λb s₄=>b=true/\wpAny G.M F.A (call (.type "super") [.ref C,.ref x]) Q E s₄) E s:=by
  obtain ⟨hh,g,dr,t,os⟩:=s
  refine ks_wpAny_isType_cls Pn Pk ⟨rfl,?_⟩
  refine ks_wpAny_call_super Pn Pk I.obj rfl I.no (Wn X so.self) (λh' e k=>h h' e k)
 rcases l with ⟨k,m,hn,e⟩ | ⟨k | k,c,e,hv⟩
 ·exact Xc S.kind k hn e tail
 ·exact wpAny_loadName_cell S.kind k e hv tail
 ·exact Xw S.kind k e hv tail hca
theorem oQ {M:Model} {h:Heap} {q:Addr} {bt id:String} (hb:(bt == "builtin_function_or_method" || bt == "method-wrapper")=true) (e:h.get? q=some (bw bt id x)):Looks M h (keeperOf (.ref q)) .machine:=by
 unfold keeperOf
 refine (Looks.ld (part:=none) e).andThen ?_
 have h1:(bt == "method")=false:=by
  rcases W3 _ _▸hb with h | h <;> · rw [Vc h];decide
 show Looks M h (if (Vg bt != Vg "method")=true then (pure (if (Vg bt == Vg "builtin_function_or_method" || Vg bt == Vg "method-wrapper")=true then Keeper.machine else Keeper.caller):Sem Keeper) else _) _
 have h2:(Vg bt != Vg "method")=true:=by
  rcases W3 _ _▸hb with h | h <;> · rw [Vc h];decide
 have h3:(Vg bt == Vg "builtin_function_or_method" || Vg bt == Vg "method-wrapper")=true:=by
  rcases W3 _ _▸hb with h | h <;> · rw [Vc h];decide
 rw [if_pos h2,if_pos h3]
 exact .now
theorem kP {M:Model} {A:Around} {c:Code} {env:Env} {o:Sp} {name:Str} {apos pos:Pos} {Q:Value->Shared->Prop}
  (hline:(apos.endLine == pos.line)=true)
  (h:WE M A c (attributeBase o name env (eval o env)) (λov s₁=>∀ pl,wpAny M A (getMethod ov name pl) (λr s₂=>wpAny M A (callWith pos r.1 r.2 [] []) Q E s₂) E s₁) E s) :
  WE M A c (eval (.Call (.Attribute o name apos) [] [] pos) env) Q E s:=by
 rw [arm_eval_Call]
 refine _root_.PySem.wpAt_bind (ks_wpAt_mono h (λov s₁ h₁=>V2 ?_) λz! z! e=>e)
 refine Sl (Tt ?_)
 have e1:starEach [] env=[]:=rfl
 have e2:keywordEach [] env=[]:=rfl
 have qO:methodCallForm (([]:List Sp).length+([]:List Keyword).length) (backTo pos (starEach [] env)) (backToKw pos (keywordEach [] env))=true:=by rw [e1,e2];rfl
 have hpos:methodCallPos true o env apos pos=pure pos:=by unfold methodCallPos;simp [hline]
 unfold methodCall
 rw [qO]
 refine Sl (Sy ?_)
 unfold calleeOf
 rw [if_pos rfl]
 refine Vf (h₁ _) (λr s₂ h₂=>?_) λz! z! e=>e
 exact Sl (TU hpos h₂)
theorem f_ {p0 p1 apos pos:Pos} {name:Str} {ar:Arg} {id gid dt bt:String} {Q:Value->Shared->Prop} (gy:∀ h,G.inv h->K.In h) (ok:bQ G f fd body) (so:gZ G K C fd cda cc) (hF:F.env=dK fd f L)
  (hp:(fd.params.posonlyargs++fd.params.args).head? = some ar) (hn:(name == ("__class__":Str))=false) (S:St G F ρ W Rs s) (hx:ρ.lookup ar.arg=some (.raw (.ref x))) (I:au s.heap x d C dat m) (hca:(ar.arg == ("__classdict__":Str))=false)
  (mL:(bt == "builtin_function_or_method" || bt == "method-wrapper")=true) (hline:(apos.endLine == pos.line)=true)
  (hown:classOwn (.type "list") name=pure (some (.builtin id))) (hty:typeOf (.builtin id)=pure (.type dt)) (hget:typeLookup (.type dt) "__get__"=pure (some (.builtin gid)))
  (hcall:∀ (h:Heap) (A':Around) (R:Result->Shared->Prop) (t':Nat),K.In h->au h x d C dat m->R (.ok (.ret (.ref h.objs.size))) ⟨h.push (bw bt id x),s.gens,s.drawn,t',s.os⟩->codeAny G.M A' (.call (.builtin gid) ⟨[.builtin id,.ref x,.ref C],[]⟩) R ⟨h,s.gens,s.drawn,t',s.os⟩)
  (hq:∀ h' q t',h'.get? q=some (bw bt id x)->(∀ b o,s.heap.get? b=some o->h'.get? b=some o)->wpAny G.M F.A (call (.ref q) []) Q E {s with heap:=h',toks:=t'}) :
  WE G.M F.A (.func body F.env) (eval (.Call (.Attribute (.Call (.Name "super" p0) [] [] p1) name apos) [] [] pos) F.env) Q E s:=by
 refine kP hline (pX gy ok so hF hp hn S hx I hca λh' e k pl=>?_)
 refine ob1_3 so.cd λcd hcd Bc z! => ?_
 have I':=I.kr k
 have X':K.In h':=(gy _ S.inv).keeps k
 refine mw e (looks_opaque X' so.op) ?_ rfl (I'.Qg X' hcd) hn hown hty hget (λA' R t' hR=>hcall h' A' R t' X' I' hR) ?_
 ·rw [<- Bc]
  exact λA Q E s k q=>Sl ((looks_clsIn X' hcd) A _ E s k (Sm q))
 ·have hb:(h'.push (bw bt id x)).get? h'.objs.size=some (bw bt id x):=Heap.get?_push_at rfl rfl
  refine callWith_of (P:=λh=>h.get? h'.objs.size=some (bw bt id x)) rfl (λh e=>⟨.machine,.inr (.inl rfl),oQ mL e⟩) ?_
  refine PySem.evalArgs_none ⟨hb,?_⟩
  exact hq _ _ (s.toks+1) hb λb o e=>Sw _ (k b o e)
end Mine
namespace Mine
open PySem PySem.W PyProof.Rows
open PySem.Builtin
variable {G:Glob} {F:Fm} {ρ ρ':List (Str×PV)} {W W':List Addr} {Rs ak Ro:List Res} {s s':Shared} {K:Frag} {C a d x f q cda cc L N:Addr} {dat:Data} {m:Str->Option Value} {fd:FuncData} {body:List Stmt} {E:Value->Shared->Prop} {A:Around} {c k k':Nat} {vs:List Value} {v:Value} {xs:List (Str×Str)}
section
variable {prog:Program} {w:World}
theorem zU {Q:Ye->Shared->Prop} (I:au s.heap x d C (.seq (vs++[v]).toArray c) m) (hz:vs.length+1<=sizeLine)
  (h:∀ h' c',au h' x d C (.seq vs.toArray c') m->mh x s.heap h'->Q (.done (.ret v)) {s with heap:=h'}):wpAny (model prog w) A (Builtin.«list.pop» ⟨[.ref x],[]⟩) Q E s:=by
 unfold Builtin.«list.pop»
 refine Sl (TU (show selfAndSome "list.pop" "pop" 0 1 ⟨[.ref x],[]⟩=pure (.ref x,[]) from rfl) ?_)
 refine Sl (Sm ?_)
 dsimp only
 rw [if_neg (by decide +kernel)]
 refine Sl ?_
 unfold Wi
 refine Sl (Vr I.obj rfl (Sm ?_))
 rw [if_neg (by simp)]
 have e:((seqIndex? (-1) (vs++[v]).toArray.size).bind λk=>(vs++[v]).toArray[k]?.map (k,·))=some (vs.length,v):=by
  rw [qg (k:=vs.length) ((if_pos (by decide)).trans (sL (j:=vs.length) (k:=0) (by rw [T5,SY];rfl))) (by rw [T5,SY];exact UU _)]
  simp
 rw [e]
 show wpAny _ _ (updateSeq x (·.eraseIdxIfInBounds vs.length) >>= _) _ _ _
 have e2:(vs++[v]).toArray.eraseIdxIfInBounds vs.length=vs.toArray:=by
  simp [Array.eraseIdxIfInBounds]
  rw [List.eraseIdx_append_of_length_le (Sz _)]
  simp
 refine Sl (VP I.obj rfl ?_ (by simp;exact hz) (by simp only [e2];simp;exact S5 (SE hz)))
 refine ob1_1 (I.turn (f:=(·.eraseIdxIfInBounds vs.length)) (us:=vs) e2) λc' I'=>?_
 exact Sm (h _ c' I' (.of (.update ..)))
theorem zV {Q:Ye->Shared->Prop} (I:au s.heap x d C (.seq vs.toArray c) m) (h:Q (.done (.ret (.int vs.length s.toks))) {s with toks:=s.toks+1}) :
  wpAny (model prog w) A (Builtin.«list.__len__» ⟨[.ref x],[]⟩) Q E s:=by
 unfold Builtin.«list.__len__»
 refine Sl (TU (show slotArgs "__len__" 0 ⟨[.ref x],[]⟩=pure (.ref x,[]) from rfl) ?_)
 refine Sl ?_
 unfold seqSize
 refine Sl (wpAny_load I.obj (Sm ?_))
 refine Sl (wpAny_mkInt (Sm ?_))
 simpa using h
theorem wC {Q:Ye->Shared->Prop} (I:au s.heap x d C (.seq #[] c) m) (h:∀ h' c',au h' x d C (.seq #[] c') m->mh x s.heap h'->Q (.done (.ret .none)) {s with heap:=h'}) :
  wpAny (model prog w) A (Builtin.«list.__init__» ⟨[.ref x],[]⟩) Q E s:=by
 unfold Builtin.«list.__init__»
 dsimp only
 rw [if_neg (by decide)]
 rw [if_neg (by decide)]
 refine Sl ?_
 unfold Wi
 refine Sl (Vr I.obj rfl (Sm ?_))
 show wpAny _ _ (updateSeq x (λz! => #[]) >>= _) _ _ _
 refine Sl (VP I.obj rfl ?_ (by simp) (by simp))
 refine ob1_1 (au.turn (vs:=[]) (us:=[]) (f:=λz! => #[]) I rfl) λc' I'=>?_
 refine Sl (wpAny_letGo ?_)
 exact Sm (h _ c' I' (.of (.update ..)))
end
structure eF (G:Glob) (C N:Addr) (bm:List Value) (name:Str):Prop where
 obj:∃ nm q bs sn sub ab col dd k0 k1 k2 k3 k5 newId,∀ h,G.inv h->h.get? C=some (excClassObj nm q C N bs bm true sn sub ab col dd k0 k1 k2 k3 k5 newId)
 ns:∃ mN,(∀ h,G.inv h->h.Ns N mN)/\mN "__setattr__"=none/\mN name=none
theorem mV:typeLookup (.type "list") "_initial_size"=pure none:=by rw [Uj,TG];kernel_rfl
theorem kL {M:Glob} {ns:List Str} {Q:Unit->Shared->Prop} (ck:eF G C N [.type "list",.type "object"] "_initial_size") (iv:G.inv s.heap) (I:au s.heap x d C dat m) (hw:Within m ns) (hsz:ns.length<=sizeLine)
  (h:∀ h' tk,au h' x d C dat (λy=>if y="_initial_size" then some v else m y)->(∀ b o,b≠d->s.heap.get? b=some o->h'.get? b=some o)->Q () {s with heap:=h',toks:=tk}):wpAny G.M A (setAttr (.ref x) "_initial_size" v) Q E s:=by
 obtain ⟨nm,q,bs,sn,sub,ab,col,dd,k0,k1,k2,k3,k5,newId,hC⟩:=ck.obj
 refine ob1_3 ck.ns λmN hN e1 e2=>?_
 exact kM r_ (hC _ iv) (hN _ iv) e1 e2 mV I hw hsz h
theorem TR.je {xo:Str} {po pos:Pos} (ck:eF G C N [.type "list",.type "object"] "_initial_size") (hx:ρ.lookup xo=some (.raw (.ref a)))
  (hdo:(xo == ("__debug__":Str))=false:=by decide) (hco:(xo == ("__classdict__":Str))=false:=by decide) :
  TR G F ρ W (Res.acc C a d k xs::Ro) (.Attribute (.Name xo po) "_initial_size" pos) (.int k') (Res.acc C a d k' xs::Ro):=λs v S r=>by
 rw [assign_Attribute]
 refine ob1_1 r.isInt λt' aC=>?_;obtain rfl:=aC
 refine Sl (Sy (S.lB hx hdo hco ?_))
 refine ob0_2 (S.res _ (So ..)) λhl az=>ob3_4 az λvs c m I hm hm2 rs=>?_
 refine Sl (Tt (Sl (Sy ?_)))
 refine kL (M:=G) (ns:=["_initial_size"]) ck S.inv I (λy hy=>?_) (by decide) λh' tk I' hk=>?_
 ·by_cases e:y="_initial_size"
  ·rw [e];exact SG.mpr rfl
  ·exact absurd (hm2 y e) hy
 ·refine XA ?_
  refine S.kI (tk:=tk) (k':=k') I' ⟨t',by simp⟩ (λy hy=>by simp [hy,hm2 y hy]) (λb o z! h2 e=>hk b o h2 e) hl rs
end Mine
namespace Mine
open PySem PySem.W PyProof.Rows
open PySem.Builtin
variable {G:Glob} {F:Fm} {ρ ρ':List (Str×PV)} {W W':List Addr} {Rs ak Ro:List Res} {s s':Shared} {K:Frag} {C a d x f q cda cc L N:Addr} {dat:Data} {m:Str->Option Value} {fd:FuncData} {body:List Stmt} {E:Value->Shared->Prop} {A:Around} {c k k':Nat} {vs:List Value} {v:Value} {xs:List (Str×Str)}
noncomputable def mu (G:Glob) (F:Fm) (ρ:List (Str×PV)) (W:List Addr) (Rs:List Res) (pos:Pos) (args:List Sp) (ps:List PV):Prop :=
 ∀ f s,St G F ρ W Rs s->wpAny G.M F.A (evalArgs f true (backTo pos (starEach args F.env)) []) (λx s'=>x.kw=[]/\aG G [] s s'/\ah W s'.heap ps x.pos) (λz! z! => False) s
theorem mu.of {pos:Pos} {e:Sp} {es:List Sp} {ps:List PV} (ha:aW G F ρ W Rs (e::es) ps) (hst:backTo pos (starEach (e::es) F.env)=(e::es).map (λe=>(false,eval e F.env)):=by rfl):mu G F ρ W Rs pos (e::es) ps:=λf s S=>by
 rw [hst]
 exact TF (aF (ha s S) λvs s' zz=>zz.elim λy r=>⟨rfl,y,r⟩)
theorem mu.nil {pos:Pos}:mu G F ρ W Rs pos [] []:=λf s S=>PySem.evalArgs_none ⟨rfl,.refl ..,by rw [ah]⟩
noncomputable def Found (G:Glob) (F:Fm) (ρ:List (Str×PV)) (W:List Addr) (Rs:List Res) (name:Str) (a f:Addr):Prop :=
 ∀ s,St G F ρ W Rs s->∀ (pl:Sem Bool) (Q:Value×List Value->Shared->Prop) (E:Value->Shared->Prop),Q (.ref f,[.ref a]) s->wpAny G.M F.A (getMethod (.ref a) name pl) Q E s
theorem Found.acc {name:Str} (ok:pN G K C) (kn:bx G F ρ W Rs (dM C a d k xs)) (hf:findIn K (.ref C) name=some (some (.ref f))) (ht:typeIn K (.ref f)=some (.type "function")) (hn:name≠("_initial_size":Str)):Found G F ρ W Rs name a f:=λs S pl Q E q=>by
 refine ob0_2 (kn s S) λz! az=>ob3_4 az λvs c m I z! hm2 z! => ?_
 exact tX (ok.gy _ S.inv) I ok.ga (by decide +kernel) ok.gt hf ht (hm2 _ hn) q
theorem ER.dD {o:Sp} {name:Str} {apos pos:Pos} {args:List Sp} {ps:List PV} {q:PV} {n:Nat} (ho:EV G F ρ W (Rs++Ro) o (.raw (.ref a))) (hf:Found G F ρ W (Rs++Ro) name a f) (ok:bQ G f fd body)
  (hc:MC G f n Rs ak (.raw (.ref a)::ps) q) (hn:n<=F.n) (ha:mu G F ρ W (Rs++Ro) pos args ps) (hadr:ak.flatMap (·.addrs)=Rs.flatMap (·.addrs):=by rfl)
  (hbase:attributeBase o name F.env (eval o F.env)=eval o F.env:=by rfl)
  (hfew:((backTo pos (starEach args F.env)).all (λx => !x.1) && (backToKw pos (keywordEach [] F.env)).all (λx=>x.1.isSome)
   && decide (args.length+([]:List Keyword).length+(if ([]:List Keyword).isEmpty then 0 else 1)<30))=true:=by rfl)
  (hline:(apos.endLine == pos.line)=true:=by rfl) :
  ER G F ρ W (Rs++Ro) (.Call (.Attribute o name apos) args [] pos) q (ak++Ro):=λs S=>by
 refine fk hbase hfew hline (aF (ho s S) λv s₁ zz=>zz.elim λy r pl=>?_)
 rw [Rep] at r;subst r
 have S₁:=S.step y
 refine hf s₁ S₁ pl _ _ ?_
 refine ob1_2 ok.at_ λof hof hd=>?_
 refine XT (o:=of) (fd:=fd) (aF (ha _ s₁ S₁) λx s₂ zz=>zz.elim λhkw zz=>zz.elim λz rs=>?_)
 have S₂:=S₁.step z
 refine ⟨⟨G.vZ _ S₂.inv f of hof ok.nt,hd⟩,?_⟩
 rw [hkw]
 refine ob0_3 S₂.AK λh1 h2 h3=>?_
 refine aF (hc F.A W s₂ (.ref a::x.pos) (S₂.room.mono hn) S₂.inv S₂.low (by rw [ah];exact ⟨_,_,rfl,by rw [Rep],rs⟩) h1 h2 h3) λv s₃ zz=>zz.elim λu zz=>zz.elim λhr zz=>zz.elim λal r=>⟨S₂.xB u hr al hadr,r⟩
noncomputable def vc (G:Glob) (F:Fm) (ρ:List (Str×PV)) (W:List Addr) (Rs Rm:List Res):Prop:=∀ s,St G F ρ W Rs s->(∀ r∈Rm,r.holds W s.heap)/\(∀ r∈Rm,∀ b∈r.addrs,b∈W)/\(Rm.flatMap (·.addrs)).Nodup
theorem vc.one {r:Res}:vc G F ρ W (r::Ro) [r]:=λs S=>St.AK (Rs:=[r]) S
theorem vc.acc (kn:bx G F ρ W Rs (dM C a d k xs)) (hw:∀ b∈[a,d],b∈W):vc G F ρ W Rs [Res.acc C a d k xs]:=λs S=>by
 have hk:=kn s S
 refine ob0_2 (kn s S) λz! az=>ob3_2 az λvs c m I z! => ?_
 exact ⟨λr hr=>by rw [SG.mp hr];exact hk,λr hr=>by rw [SG.mp hr];exact hw,by
  show ([a,d]++[]).Nodup
  simp [I.ne.symm]⟩
theorem EV.dD {o:Sp} {name:Str} {apos pos:Pos} {args:List Sp} {ps:List PV} {q:PV} {n:Nat} {Rm:List Res} (ho:EV G F ρ W Rs o (.raw (.ref a))) (hf:Found G F ρ W Rs name a f) (ok:bQ G f fd body)
  (hc:MP G f n Rm (.raw (.ref a)::ps) q) (hh:vc G F ρ W Rs Rm) (hn:n<=F.n) (ha:mu G F ρ W Rs pos args ps)
  (hbase:attributeBase o name F.env (eval o F.env)=eval o F.env:=by rfl)
  (hfew:((backTo pos (starEach args F.env)).all (λx => !x.1) && (backToKw pos (keywordEach [] F.env)).all (λx=>x.1.isSome)
   && decide (args.length+([]:List Keyword).length+(if ([]:List Keyword).isEmpty then 0 else 1)<30))=true:=by rfl)
  (hline:(apos.endLine == pos.line)=true:=by rfl) :
  EV G F ρ W Rs (.Call (.Attribute o name apos) args [] pos) q:=λs S=>by
 refine fk hbase hfew hline (aF (ho s S) λv s₁ zz=>zz.elim λy r pl=>?_)
 rw [Rep] at r;subst r
 have S₁:=S.step y
 refine hf s₁ S₁ pl _ _ ?_
 refine ob1_2 ok.at_ λof hof hd=>?_
 refine XT (o:=of) (fd:=fd) (aF (ha _ s₁ S₁) λx s₂ zz=>zz.elim λhkw zz=>zz.elim λz rs=>?_)
 have S₂:=S₁.step z
 refine ⟨⟨G.vZ _ S₂.inv f of hof ok.nt,hd⟩,?_⟩
 rw [hkw]
 refine aF (hc F.A W s₂ (.ref a::x.pos) (S₂.room.mono hn) S₂.inv S₂.low (by rw [ah];exact ⟨_,_,rfl,by rw [Rep],rs⟩) (hh s₂ S₂).1 (hh s₂ S₂).2.1 (hh s₂ S₂).2.2) λv s₃ zz=>zz.elim λu r=>⟨y.trans (z.trans u),r⟩
theorem mD {p0 p1 apos pos:Pos} {ar:Arg} (yl:pN G K C) (ok:bQ G f fd body) (so:gZ G K C fd cda cc) (hF:F.env=dK fd f L) (hp:(fd.params.posonlyargs++fd.params.args).head? = some ar) (hx:ρ.lookup ar.arg=some (.raw (.ref a)))
  (kn:bx G F ρ W Rs (dM C a d k xs)) (hca:(ar.arg == ("__classdict__":Str))=false) (hline:(apos.endLine == pos.line)=true) {K':Value->Shared->Prop} (S:St G F ρ W Rs s) (h:∀ s' t,aG G [] s s'->K' (.int xs.length t) s') :
  WE G.M F.A (.func body F.env) (eval (.Call (.Attribute (.Call (.Name "super" p0) [] [] p1) "__len__" apos) [] [] pos) F.env) K' (λz! z! => False) s:=by
 refine ob0_2 (kn s S) λhl az=>ob3_4 az λvs c m I z! hm2 rs=>?_
 have hz:=rs.length
 rw [Sq] at hz
 refine f_ (dt:="wrapper_descriptor") (bt:="method-wrapper") (id:="list.__len__") (gid:="wrapper_descriptor.__get__") yl.gy ok so hF hp (by decide) S hx I hca (by decide) hline oJ gb cI.lookup
  (λh A' R t' X I' hR=>?_) (λh' q t' e kp=>?_)
 ·refine ob1_2 I'.at_ λo I2 z! => ?_
  exact pg (I2.type (M:=G.M)) (Wn X yl.sub) hR
 ·have st:aG G [] s {s with heap:=h',toks:=t'}:=aG.of_keeps G kp
  refine UO (fU e (by decide +kernel) plain_len entry_list_len (args_list_len _) (zV (I.kr kp) ?_))
  rw [hz]
  exact h _ _ (st.trans (.of_toks G))
end Mine
namespace Mine
open PySem PySem.W PyProof.Rows
open PySem.Builtin
variable {G:Glob} {F:Fm} {ρ ρ':List (Str×PV)} {W W':List Addr} {Rs ak Ro:List Res} {s s':Shared} {K:Frag} {C a d x f q cda cc L N:Addr} {dat:Data} {m:Str->Option Value} {fd:FuncData} {body:List Stmt} {E:Value->Shared->Prop} {A:Around} {c k k':Nat} {vs:List Value} {v:Value} {xs:List (Str×Str)}
 {cd:Code} {rest:List Stmt} {K':Flow->Shared->Prop}
theorem jE.skip {test:Sp} {b:List Stmt} {pos:Pos} (ht:TV G F ρ W Rs test false) (h:jE G F cd ρ W Rs rest K'):jE G F cd ρ W Rs (.If test b [] pos::rest) K':=λs S=>by
 refine WZ (ks_wpAt_If (V2 (aF (ht s S) λv s₁ zz=>zz.elim λy e=>?_)))
 subst e
 exact V2 (UR (h s₁ (S.step y)))
theorem jE.l8 {target value:Sp} {pos:Pos} {p:PV} (hv:EV G F ρ W Rs value p) (ht:TR G F ρ W Rs target p ak) (h:jE G F cd ρ W ak rest K')
  (hs:swapsWithSole [target] value pos.line F.env=pure false:=by rfl) (hw:swappedStores [target] value F.env=pure none:=by rfl)
  (he:(assignEach [target] F.env).map (·.2)=[UE target F.env]:=by rfl) :
  jE G F cd ρ W Rs (.Assign [target] value pos::rest) K':=λs S=>by
 refine WZ (V2 ?_)
 rw [Xg]
 refine Sl (Tt ?_)
 rw [hs]
 refine Sl (Sm ?_)
 rw [if_neg (by decide)]
 refine Sl (aF (hv s S) λv s₁ zz=>zz.elim λx r=>?_)
 rw [hw]
 refine Sl (Sm ?_)
 rw [he]
 show wpAny _ _ (do UE target F.env v;pure Yb) _ _ s₁
 exact Sl (aF (ht s₁ v (S.step x) r) λz! s₂ S₂=>Sm (h s₂ S₂))
theorem jE.qi {p0 p1 apos pos rp:Pos} {ar:Arg} (yl:pN G K C) (ok:bQ G f fd body) (so:gZ G K C fd cda cc) (hF:F.env=dK fd f L) (hp:(fd.params.posonlyargs++fd.params.args).head? = some ar) (hx:ρ.lookup ar.arg=some (.raw (.ref a)))
  (kn:bx G F ρ W Rs (dM C a d k xs)) (hca:(ar.arg == ("__classdict__":Str))=false) (hline:(apos.endLine == pos.line)=true) (h:∀ s v,St G F ρ W Rs s->Rep W s.heap (.int xs.length) v->K' (.ret v) s) :
  jE G F (.func body F.env) ρ W Rs (.Return (some (.Call (.Attribute (.Call (.Name "super" p0) [] [] p1) "__len__" apos) [] [] pos)) rp::rest) K':=λs S =>
 WZ (ks_wpAt_Return_some (mD yl ok so hF hp hx kn hca hline S λs' t y=>h s' _ (S.step y) Rep.int))
theorem jE.qh {p0 p1 apos pos rp:Pos} {ar:Arg} {z:Str×Str} (yl:pN G K C) (ok:bQ G f fd body) (so:gZ G K C fd cda cc) (hF:F.env=dK fd f L) (hp:(fd.params.posonlyargs++fd.params.args).head? = some ar) (hx:ρ.lookup ar.arg=some (.raw (.ref a)))
  (hca:(ar.arg == ("__classdict__":Str))=false) (hline:(apos.endLine == pos.line)=true) (h:∀ s v,St G F ρ W (Res.acc C a d k xs::Ro) s->Rep W s.heap (encP z) v->K' (.ret v) s) :
  jE G F (.func body F.env) ρ W (Res.acc C a d k (xs++[z])::Ro) (.Return (some (.Call (.Attribute (.Call (.Name "super" p0) [] [] p1) "pop" apos) [] [] pos)) rp::rest) K':=λs S=>by
 refine WZ (ks_wpAt_Return_some ?_)
 refine ob0_2 (S.res _ (So ..)) λhl az=>ob3_4 az λws c m I hm hm2 rs=>?_
 rw [Ti] at rs
 obtain ⟨vs,v,rfl,OJ,rz⟩:∃ vs v,ws=vs++[v]/\ah W s.heap (xs.map encP) vs/\Rep W s.heap (encP z) v:=by
  have hlen:=rs.length
  rw [SY,Sq] at hlen
  have h1:=rs.take xs.length
  rw [List.take_left' (by simp)] at h1
  have h2:=rs.drop xs.length
  rw [List.drop_left' (by simp)] at h2
  rw [show List.map encP [z]=[encP z] from rfl,ah] at h2
  refine ob2_3 h2 λv w' e r1 r2=>?_
  rw [ah] at r2
  subst r2
  exact ⟨ws.take xs.length,v,by rw [<- e,Ur],h1,r1⟩
 have hz:=OJ.length
 rw [Sq] at hz
 have wV:xs.length+1<=lim:=by simpa using hl
 have hsz:vs.length+1<=sizeLine:=by rw [hz];exact Sn wV (by decide)
 refine ob1_3 so.cd λcls hcd Bc Nx=>?_
 refine f_ (dt:="method_descriptor") (bt:="builtin_function_or_method") (id:="list.pop") (gid:="method_descriptor.__get__") yl.gy ok so hF hp (by decide) S hx I hca (by decide) hline oH PySem.F.type_list_pop gm.lookup
  (λh A' R t' X I' hR=>?_) (λh' q t' e kp=>?_)
 ·refine ob1_2 I'.at_ λo I2 z! => ?_
  exact o_ (I2.type (M:=G.M)) (Wn X yl.sub) hR
 ·have st:aG G [] s {s with heap:=h',toks:=t'}:=aG.of_keeps G kp
  have S':=S.step st
  have X':=yl.gy _ S'.inv
  have I':=I.kr kp
  have M5:=st.jH S.inv OJ
  have P9:=st.rep0 S.inv rz
  refine UO (l0 e X' I' so.md hcd so.tc Nx (zU I' hsz λh'' c' Lr hk=>?_))
  have R0:St G F ρ W (Res.acc C a d k xs::Ro) {s with heap:=h'',toks:=t'}:=S'.kI (tk:=t') Lr hm hm2 (λb o h1 z! e=>hk b o h1 e) (by exact SE wV) M5
  refine h _ _ R0 ?_
  have y:aG G [a] {s with heap:=h',toks:=t'} {s with heap:=h'',toks:=t'}:=aG.gv G (λb hb=>by
   have:b=a:=by simpa using hb
   subst this
   refine ⟨(S'.low b (S'.new _ (So ..) b (So ..)).1).1,λo e=>.inr λws hd=>?_⟩
   have:=I'.obj
   rw [this] at e;cases e;cases hd) λb o hb e=>hk b o (λh=>hb (by simp [h])) e
  exact P9.keep (y.cA S'.inv λb hb=>by
   have:b=a:=by simpa using hb
   subst this
   exact (S'.new _ (So ..) b (So ..)).1) λz! z! q=>q
end Mine
namespace Mine
open PySem PySem.W PyProof.Rows
open PySem.Builtin
variable {G:Glob} {F:Fm} {ρ ρ':List (Str×PV)} {W W':List Addr} {Rs ak Ro:List Res} {s s':Shared} {K:Frag} {C a d x f q cda cc L N:Addr} {dat dat':Data} {m m':Str->Option Value} {fd:FuncData} {body:List Stmt} {E:Value->Shared->Prop} {A:Around} {c k k':Nat} {vs:List Value} {v:Value} {xs:List (Str×Str)}
 {cd:Code} {rest:List Stmt} {K':Flow->Shared->Prop}
theorem St.instTurn {r r':Res} (S:St G F ρ W (r::Ro) s) (ha:r.addrs=[a,d]) (ha':r'.addrs=[a,d]) (I:au s.heap a d C dat m) {h':Heap} {tk:Nat} (I':au h' a d C dat' m') (hk:∀ b o,b≠a->b≠d->s.heap.get? b=some o->h'.get? b=some o)
  (hr:aI W s.heap h'->r'.holds W h'):St G F ρ W (r'::Ro) {s with heap:=h',toks:=tk}:=by
 have hW:∀ b∈r.addrs,b∈W:=λb hb=>(S.new _ (So ..) b hb).1
 rw [ha] at hW
 have y:aG G [a,d] s {s with heap:=h',toks:=tk}:=aG.gv G (λb hb=>by
  refine ⟨(S.low b (hW b hb)).1,λo e=>?_⟩
  rcases Sx.mp hb with rfl | hb
  ·rw [I.obj] at e;cases e
   exact .inl λh=>by cases h
  ·have:b=d:=by simpa using hb
   subst this
   refine .inr λws hd=>?_
   refine ob3_3 I.ns λo' es ep e' d' z! => ?_
   rw [e] at e';cases e'
   rw [hd] at d';cases d') λb o hb e=>hk b o (λh=>hb (by simp [h])) (λh=>hb (by simp [h])) e
 have sk:=y.cA S.inv hW
 have e1:([r]).flatMap (·.addrs)=[a,d]:=by simp [ha]
 have e2:([r']).flatMap (·.addrs)=[a,d]:=by simp [ha']
 refine St.xB (Rs:=[r]) (ak:=[r']) (Ro:=Ro) S (by rw [e1];exact y) (λr₂ lJ=>?_) (λb hb=>?_) (by rw [e1,e2])
 ·have:r₂=r':=by simpa using lJ
  subst this
  exact hr sk
 ·rw [e1] at hb
  rcases Sx.mp hb with rfl | hb
  ·exact ⟨_,I'.obj⟩
  ·have:b=d:=by simpa using hb
   subst this
   refine ob3_2 I'.ns λo' es ep e' z! => ?_
   exact ⟨o',e'⟩
noncomputable def Res.raw (C a d:Addr):Res where
 addrs:=[a,d]
 holds W h:=∃ c m,au h a d C (.seq #[] c) m/\∀ y,m y=none
 keep:=λW W' h h' zz=>zz.elim λc zz=>zz.elim λm zz=>zz.elim λI h2 k sk hw=>⟨c,m,I.keep λb hb o e=>k b (by rcases hb with rfl | rfl <;> simp) o e,h2⟩
theorem TR.AP {xo:Str} {po pos:Pos} (ck:eF G C N [.type "list",.type "object"] "_initial_size") (hx:ρ.lookup xo=some (.raw (.ref a)))
  (hdo:(xo == ("__debug__":Str))=false:=by decide) (hco:(xo == ("__classdict__":Str))=false:=by decide) :
  TR G F ρ W (Res.raw C a d::Ro) (.Attribute (.Name xo po) "_initial_size" pos) (.int k') (Res.acc C a d k' []::Ro):=λs v S r=>by
 rw [assign_Attribute]
 refine ob1_1 r.isInt λt' aC=>?_;obtain rfl:=aC
 refine Sl (Sy (S.lB hx hdo hco ?_))
 refine ob2_2 (S.res _ (So ..)) λc m I hm=>?_
 refine Sl (Tt (Sl (Sy ?_)))
 refine kL (M:=G) (ns:=[]) ck S.inv I (λy hy=>absurd (hm y) hy) (by decide) λh' tk I' hk=>?_
 refine XA ?_
 exact S.instTurn (r':=Res.acc C a d k' []) (tk:=tk) rfl rfl I I' (λb o z! h2 e=>hk b o h2 e) λsk=>⟨Td _,[],c,_,I',⟨t',by simp⟩,λy hy=>by simp [hy,hm y],by simp [ah]⟩
theorem jE.vz {p0 p1 apos pos rp:Pos} {ar:Arg} (yl:pN G K C) (ok:bQ G f fd body) (so:gZ G K C fd cda cc) (hF:F.env=dK fd f L) (hp:(fd.params.posonlyargs++fd.params.args).head? = some ar) (hx:ρ.lookup ar.arg=some (.raw (.ref a)))
  (hca:(ar.arg == ("__classdict__":Str))=false) (hline:(apos.endLine == pos.line)=true) (h:jE G F (.func body F.env) ρ W (Res.acc C a d k []::Ro) rest K')
  (hi:interactive F.env=false:=by rfl) (hs:swapsWith (.Call (.Attribute (.Call (.Name "super" p0) [] [] p1) "__init__" apos) [] [] pos) none rp.line F.env=pure false:=by rfl) :
  jE G F (.func body F.env) ρ W (Res.acc C a d k []::Ro) (.Expr (.Call (.Attribute (.Call (.Name "super" p0) [] [] p1) "__init__" apos) [] [] pos) rp::rest) K':=λs S=>by
 refine WZ (ks_wpAt_Expr_any ?_ hi hs)
 refine ob0_2 (S.res _ (So ..)) λhl az=>ob3_4 az λws c m I hm hm2 rs=>?_
 rw [VG,ah] at rs
 subst rs
 refine f_ (dt:="wrapper_descriptor") (bt:="method-wrapper") (id:="list.__init__") (gid:="wrapper_descriptor.__get__") yl.gy ok so hF hp (by decide) S hx I hca (by decide) hline mH fP cI.lookup
  (λh A' R t' X I' hR=>?_) (λh' q t' e kp=>?_)
 ·refine ob1_2 I'.at_ λo I2 z! => ?_
  exact mU (I2.type (M:=G.M)) (Wn X yl.sub) hR
 ·have st:aG G [] s {s with heap:=h',toks:=t'}:=aG.of_keeps G kp
  have S':=S.step st
  have I':=I.kr kp
  refine UO (fU e (by decide +kernel) sG jx (PySem.F.args_list_init_1 _) (wC I' λh'' c' Lr hk=>?_))
  exact h _ (S'.instTurn (r':=Res.acc C a d k []) (tk:=t') rfl rfl I' Lr (λb o h1 z! e=>hk b o h1 e) λsk=>⟨Td _,[],c',_,Lr,hm,hm2,by simp [ah]⟩)
end Mine
namespace Mine
open PySem PySem.W PyProof.Rows
open PySem.Builtin
variable {G:Glob} {F:Fm} {ρ ρ':List (Str×PV)} {W W':List Addr} {Rs ak Ro:List Res} {s s':Shared} {K:Frag} {C a d x f q cda cc L N:Addr} {dat dat':Data} {m m':Str->Option Value} {fd:FuncData} {body:List Stmt} {E:Value->Shared->Prop} {A:Around} {c k k':Nat} {vs:List Value} {v:Value} {xs:List (Str×Str)}
 {cd:Code} {rest:List Stmt} {K':Flow->Shared->Prop}
theorem inst_specialF {M:Model} {name:Str} {args:List Value} {Q:Option Value->Shared->Prop} (X:K.In s.heap) (I:au s.heap x d C dat m) (hf:findIn K (.ref C) name=some (some (.ref f))) (ht:typeIn K (.ref f)=some (.type "function"))
  (h:wpAny M A (call (.ref f) (.ref x::args)) (λv=>Q (some v)) E s):wpAny M A (callSpecial? (.ref x) name args) Q E s:=by
 refine ob1_2 I.at_ λo I' z! => ?_
 exact Sl (Sl (I'.type.here ((UA X hf).here (Sy (Sl ((bind_fn X (.ref x) ht).here (Sl (Vf h (λz! z! z=>Sm z) λz! z! z=>z))))))))
theorem zf {n:Nat} (ok:pN G K C) (hf:findIn K (.ref C) "__len__"=some (some (.ref f))) (ht:typeIn K (.ref f)=some (.type "function")) (hc:MP G f n [Res.acc C a d k xs] [.raw (.ref a)] (.int ((k':Nat):Int))) (hn:n+1<=F.n) (hk:k'<=lim)
  (hh:vc G F ρ W Rs [Res.acc C a d k xs]):∀ s vs,St G F ρ W Rs s->ah W s.heap [.raw (.ref a)] vs->Gv G F.A W (call (.builtin "len") vs) (.int ((k':Nat):Int)) s:=λs vs S rs=>by
 refine ob1_2 rs.one λv aC r=>?_;obtain rfl:=aC
 rw [Rep] at r;subst r
 refine ob0_3 (hh s S) λh1 h2 h3=>ob0_2 (h1 _ (So ..)) λz! az=>ob3_2 az λus c m I z! => ?_
 have hlim:lim=1048576:=by decide
 refine PySem.Calls.call_function_entry kind_len PySem.plain_len entry_len (args_len1 _) ?_
 unfold Builtin.«len»
 refine Sl (m:=oneArg "len" _) (Sm ?_)
 refine Sl (m:=callSpecial? (.ref a) (VX "__len__")) (inst_specialF (ok.gy _ S.inv) I hf ht ?_)
 refine aF (hc F.A.in1 W s [.ref a] (S.room.mono hn).in1 S.inv S.low rs h1 h2 h3) λv s₁ zz=>zz.elim λy r=>?_
 refine ob1_1 r.isInt λt aC=>?_;obtain rfl:=aC
 dsimp only
 refine Sl (Sy (Sm ?_))
 refine Sl (wpAny_letGo ?_)
 rw [if_neg (by exact w7)]
 rw [if_neg (qL hk)]
 refine Sl (wpAny_mkInt (Sm ⟨_,rfl,y.trans (.of_toks G),Rep.int⟩))
end Mine
namespace Mine
open PySem PySem.W PyProof.Rows
open PySem.Builtin
variable {G:Glob} {F:Fm} {ρ ρ':List (Str×PV)} {W W':List Addr} {Rs ak Ro:List Res} {s s':Shared} {K:Frag} {C a d x f q cda cc L N:Addr} {dat dat':Data} {m m':Str->Option Value} {fd:FuncData} {body:List Stmt} {E:Value->Shared->Prop} {A:Around} {c k k':Nat} {vs:List Value} {v:Value} {xs:List (Str×Str)}
theorem mG:plainId "str.__new__"=true:=by decide +kernel
theorem pV {prog:Program} {w:World} {v:Value} {Q:Value->Shared->Prop}
  (h:wpAny (model prog w) A.in1.in1 (Builtin.Str.strOf v) (λr s'=>s'.TypeIs r "str"/\Q r s') E s):wpAny (model prog w) A (call (.type "str") [v]) Q E s:=by
 refine ks_callType_codesW (Q₁:=λobj s₁=>s₁.TypeIs obj "str"/\Q obj s₁) PySem.F.called_str (λq=>TU (PySem.F.typeCall_str_1 _) q) PySem.F.entry_object_init
  (Ui mG PySem.F.entry_str_new (TU (PySem.F.newCall_str_1 _) ?_)) λobj s₁ h₁=>?_
 ·rw [str_new_tree v]
  refine Sl (Sm ?_)
  refine Sl (TU isSubtype_str_str ?_)
  exact Sl (Vf h (λr s' h'=>Sm h') λz! z! e=>e)
 ·refine ⟨h₁.1,PySem.F.args_object_init_2 _ _,?_⟩
  exact object_init_meets PySem.F.called_str.init.lookup PySem.F.called_str.made (by decide) prog w A.in1 _ s₁ ⟨h₁.1,rfl,h₁.2⟩
theorem qR {n:Nat} {y:Str} (ok:pN G K C) (hf:findIn K (.ref C) "__str__"=some (some (.ref f))) (ht:typeIn K (.ref f)=some (.type "function")) (hc:MP G f n [Res.acc C a d k xs] [.raw (.ref a)] (.str y)) (hn:n+2<=F.n)
  (hh:vc G F ρ W Rs [Res.acc C a d k xs]):∀ s vs,St G F ρ W Rs s->ah W s.heap [.raw (.ref a)] vs->Gv G F.A W (call (.type "str") vs) (.str y) s:=λs vs S rs=>by
 refine ob1_2 rs.one λv aC r=>?_;obtain rfl:=aC
 rw [Rep] at r;subst r
 refine ob0_3 (hh s S) λh1 h2 h3=>ob0_2 (h1 _ (So ..)) λz! az=>ob3_2 az λus c m I z! => ?_
 have hr:cF F.A.in1.in1 n:=(S.room.mono hn).in1.in1
 refine pV ?_
 unfold Builtin.Str.strOf
 rw [if_neg (show ¬ (Builtin.Str.isExactStr (.ref a)=true) from λh=>by cases h)]
 refine Sl (wpAny_cRoomFor (by have:=hr.2.2;show F.A.in1.in1.units<9900;exact MB this) ?_)
 refine Sl (m:=callSpecial? (.ref a) (VX "__str__")) (inst_specialF (ok.gy _ S.inv) I hf ht ?_)
 refine aF (hc F.A.in1.in1 W s [.ref a] hr S.inv S.low rs h1 h2 h3) λv s₁ zz=>zz.elim λy r=>?_
 refine ob0_2 r.isStr λhl az=>ob1_1 az λt bh=>?_;obtain rfl:=bh
 exact Sm ⟨Wv _ _ _,y,r⟩
end Mine
namespace Mine
open PySem PySem.W PyProof.Rows
open PySem.Builtin
structure tU (M:Model) (h:Heap) (C:Addr):Prop where
 obj:∃ oc od cd sl,h.get? C=some ⟨oc,od,.cls cd,sl⟩/\cd.abstract=false/\cd.hasDel=false/\cd.mro.isEmpty=false
 made:Looks M h (Bind.madeBy (.ref C)) (some "list.__new__")
 base:Looks M h (Bind.staticBase (.ref C)) (.ref C)
 self:Looks M h (isSubtype (.ref C) (.ref C)) true
 top:Looks M h (isSubtype (.ref C) (.type "list")) true
 call:Looks M h (specialOf (.ref C) "__call__") (some (.builtin "type.__call__"))
 typ:Looks M h (isInstance (.ref C) (.type "type")) true
noncomputable abbrev gJ (C dx:Addr):Obj:={cls:=.ref C,dict:=some dx,data:=.seq #[]}
theorem A5:builtinKind "list.__new__"=some .builtinFn:=by decide +kernel
theorem yK:splitId "list.__new__"=some ("list","__new__"):=by decide +kernel
noncomputable def Cw:Manifest.Signature:=(WM "list.__new__").getD ⟨.any,"","",.cls,[]⟩
theorem DO:WM "list.__new__"=some Cw:=by kernel_rfl
theorem A6 (C:Addr) (rest:List Value) (kw:List (Str×Value)):X4 "list.__new__" Cw ⟨.ref C::rest,kw⟩=pure ():=by kernel_rfl
section
variable {prog:Program} {w:World} {A:Around} {K:Frag} {C:Addr} {R:Result->Shared->Prop} {h:Heap} {g:Array GenState} {d:Drawn} {t:Nat} {os:OsState}
theorem I9 {rest:List Value} {kw:List (Str×Value)} (Y:tU (model prog w) h C)
  (hq:R (.ok (.ret (.ref (h.objs.size+1)))) ⟨(h.push emptyDict).push (gJ C h.objs.size),g,d,t,os⟩) :
  codeAny (model prog w) A (.call (.builtin "list.__new__") ⟨.ref C::rest,kw⟩) R ⟨h,g,d,t,os⟩:=by
 obtain ⟨⟨oc,od,cd,sl,hC,e1,e2,e4⟩,made,base,self,top,call,typ⟩:=Y
 refine W6 ?_
 show wpAny _ A.in1 (do checkBuiltinCall "list.__new__" ⟨.ref C::rest,kw⟩;again (.builtin "list.__new__" ⟨.ref C::rest,kw⟩)) _ _ _
 refine Sl ?_
 have fin:wpAny (model prog w) A.in1 (again (.builtin "list.__new__" ⟨.ref C::rest,kw⟩)) (λfin s'=>match fin with | .done f=>R (.ok f) s' | .again c'=>c'.quiet=true/\codeAny (model prog w) A c' R s') (λe s'=>R (.error e) s') ⟨h,g,d,t,os⟩:=by
  refine Sm ⟨VF PySem.F.plain_list_new _,codeAny_builtin_stack PySem.F.entry_list_new rfl λp st=>?_⟩
  rw [Un PySem.F.plain_list_new _]
  have hown:=owner_list_new
  dsimp only
  rewrite [hown]
  repeat (first | (refine To (by rfl) ?_) | lk)
  refine wpAny_load (Sw _ (Sw _ hC)) ?_
  refine Sm ?_
  rw [e2]
  refine Sm (Sm ?_)
  show R _ _
  rw [TQ]
  exact hq
 simp only [checkBuiltinCall,A5,yK,DO]
 rw [A6]
 repeat (first | exact fin | (with_reducible refine To (decide_eq_false ?_) ?_;focus (simp;done)) | lk)
theorem DM {rest:List Value} {kw:List (Str×Value)} {init:Value} (Y:tU (model prog w) h C) (hi:Looks (model prog w) h (typeLookup (.ref C) "__init__") (some init))
  (hb:∀ self,Looks (model prog w) h (bindSpecial init self) (init,[self])) (hne:(some init != some (Vs "object.__init__"))=true\/(rest=[]/\kw=[]))
  (hq:codeAny (model prog w) (A.under (.builtin "type.__call__" ⟨.ref C::rest,kw⟩)) (.call init ⟨.ref (h.objs.size+1)::rest,kw⟩) (InitBack (h.objs.size+1) R) ⟨(h.push emptyDict).push (gJ C h.objs.size),g,d,t,os⟩) :
  codeAny (model prog w) A (.call (.ref C) ⟨rest,kw⟩) R ⟨h,g,d,t,os⟩:=by
 have Y':=Y
 obtain ⟨⟨oc,od,cd,sl,hC,e1,e2,e4⟩,made,base,self,top,call,typ⟩:=Y
 refine W6 ?_
 show wpAny _ _ (callAny (.ref C) _) _ _ _
 refine nd_load hC ?_
 show wpAny _ _ (callAny.viaDunder (.ref C) _) _ _ _
 unfold callAny.viaDunder
 refine Sl (call.at ?_)
 dsimp only
 rw [tc_bind]
 refine Sl (Sm (Sl (Sm ?_)))
 refine Sm (a:=PySem.Fin.again (.call (.builtin "type.__call__") ⟨.ref C::rest,kw⟩)) (And.intro rfl ?_)
 refine codeAny_call_builtin_at (Code.quiet_builtin _ (by decide +kernel)) entry_typeCall (check_slot tc_kind tc_split typ (tc_args _ _ _) ?_)
 unfold Builtin.«type.__call__»
 have hm:Looks (model prog w) h (mroOf (.ref C)) cd.mro:=((Looks.ld (part:=none) hC).andThen .now).andThen .now
 repeat (first | (with_reducible refine To (decide_eq_false (ne_true_of_eq_false e4)) ?_) | (with_reducible refine To (decide_eq_false ?_) ?_;focus (simp;done)) | with_reducible refine UO ?_ | lk)
 refine I9 Y' ?_
 have k:∀ b o,h.get? b=some o->((h.push emptyDict).push (gJ C h.objs.size)).get? b=some o:=λb o e=>Sw _ (Sw _ e)
 have hx:((h.push emptyDict).push (gJ C h.objs.size)).get? (h.objs.size+1)=some (gJ C h.objs.size):=by heap_get
 have t1:Looks (model prog w) ((h.push emptyDict).push (gJ C h.objs.size)) (typeOf (.ref (h.objs.size+1))) (.ref C):=(Looks.ld hx).andThen .now
 have s1:=self.keeps k
 have i1:=hi.keeps k
 have b1:=(hb (.ref (h.objs.size+1))).keeps k
 unfold isInstance callSpecial? specialOf
 repeat (first | with_reducible refine UO ?_ | lk)
 refine Wf hq λr s' z=>?_
 rcases r with e | (v | _ | _ | _) <;> first | exact z | exact z.elim | skip
 obtain ⟨rfl,z⟩:=z
 exact Sm (Sm z)
end
end Mine
namespace Mine
open PySem PySem.W PyProof.Rows
open PySem.Builtin
noncomputable def iM (K:Frag) (C:Addr):Bool:=match K.lookup C with
 | some ⟨_,_,.cls cd,sl⟩ => !cd.abstract && !cd.hasDel && (sl.toList[4]?).join == some (.builtin "list.__new__") && !cd.mro.isEmpty && cd.mro.contains (.ref C) && cd.mro.contains (.type "list") &&
   specialIn K (.ref C) "__call__" == some (some (.builtin "type.__call__")) && instIn K (.ref C) (.type "type") == some true
 | _=>false
theorem vO {K:Frag} {M:Model} {h:Heap} (X:K.In h) {C:Addr} (e:iM K C=true):tU M h C:=by
 unfold iM at e
 split at e
 ·rename_i oc od cd sl ho
  simp only [Wo,Bool.not_eq_true',beq_iff_eq] at e
  refine ob0_2 e λbM e8=>ob0_2 bM λbM e7=>ob0_2 bM λbM e6=>ob0_2 bM λbM e5=>ob0_2 bM λbM e4=>ob0_2 bM λbM e3=>ob0_2 bM λe1 e2=>?_
  have hc:clsIn K C=some cd:=by unfold clsIn;rw [ho]
  have hm:Looks M h (mroOf (.ref C)) cd.mro:=(looks_clsIn X hc).andThen .now
  obtain ⟨c,l,hl⟩:∃ c l,cd.mro=c::l:=by cases q:cd.mro with | nil=>rw [q] at e4;cases e4 | cons c l=>exact ⟨c,l,rfl⟩
  have made:Looks M h (Bind.madeBy (.ref C)) (some "list.__new__"):=by
   intro A Q E s k q
   unfold Bind.madeBy
   refine Sl (hm A _ E s k ?_)
   rw [hl,UT]
   refine Sl (Sl (Sl (Sl (wpAny_loadPart (k _ _ (X _ _ ho)) (Sm ?_)))))
   dsimp only
   rw [<- U4,e3]
   exact Sm (Sm (Sm q))
  refine ⟨⟨oc,od,cd,sl,X _ _ ho,e1,e2,e4⟩,made,?_,Wn X ?_,Wn X ?_,looks_specialIn X e7,looks_instIn X e8⟩
  ·intro A Q E s k q
   unfold Bind.staticBase
   refine Sl (hm A _ E s k ?_)
   rw [hl,UT]
   exact Sl (Sl (Sl (made A _ E s k (Sm (Sm (Sm q))))))
  ·unfold mroIn;rw [hc,U0,if_neg (by rw [e4];decide),e5]
  ·unfold mroIn;rw [hc,U0,if_neg (by rw [e4];decide),e6]
 ·cases e
end Mine
namespace Mine
open PySem PySem.W PyProof.Rows
open PySem.Builtin
variable {G:Glob} {F:Fm} {ρ ρ':List (Str×PV)} {W W':List Addr} {Rs ak Ro:List Res} {s s':Shared} {K:Frag} {C a d x f q cda cc L N:Addr} {dat dat':Data} {m m':Str->Option Value} {fd:FuncData} {body:List Stmt} {E:Value->Shared->Prop} {A:Around} {c k k':Nat} {vs:List Value} {v:Value} {xs:List (Str×Str)}
theorem St.Dv {r:Res} {h':Heap} {t:Nat} (S:St G F ρ W Rs s) (kp:∀ b o,s.heap.get? b=some o->h'.get? b=some o) (ha:s.heap.get? a=none) (hd:s.heap.get? d=none) (hba:G.base.objs.size<=a) (hbd:G.base.objs.size<=d) (hne:a≠d)
  (hga:∃ o,h'.get? a=some o) (hgd:∃ o,h'.get? d=some o) (O4:r.addrs=[a,d]) (hr:r.holds (a::d::W) h'):St G F ρ (a::d::W) (r::Rs) {s with heap:=h',toks:=t}:=by
 have x:aG G [] s {s with heap:=h',toks:=t}:=aG.of_keeps G kp
 have fa:=S.fresh ha
 have Pr:=S.fresh hd
 have sk:aI W s.heap h':=x.cA S.inv (by simp)
 have S₁:=S.step x
 have hw:∀ b,(∃ o,s.heap.get? b=some o)->b∈a::d::W->b∈W:=λb zz=>zz.elim λo e hb=>by
  rcases Sx.mp hb with rfl | hb
  ·rw [ha] at e;cases e
  ·rcases Sx.mp hb with rfl | hb
   ·rw [hd] at e;cases e
   ·exact hb
 have nw:∀ b,s.heap.get? b=none->G.base.objs.size<=b->F.s0.heap.get? b=none\/b∈F.X:=λb hn hb=>by
  by_cases hX:b∈F.X
  ·exact .inr hX
  ·left
   cases e0:F.s0.heap.get? b with
   | none=>rfl
   | some o0 =>
    have:=S.stp.keep _ o0 hX (bk hb) e0
    rw [hn] at this;cases this
 refine {S₁ with
  vars:=λy p e=>?_
  lW:=λhm=>?_
  cW:=λy c e hm=>?_
  low:=λb hb=>?_
  new:=λr₁ gV b hb=>?_
  res:=λr₁ gV=>?_
  apart:=?_}
 ·refine ob1_2 (S.vars y p e) λv l r=>?_
  exact ⟨v,l.step x S.inv (by simp) (by simp),r.keep sk hw⟩
 ·rcases Sx.mp hm with hm | hm
  ·exact fa.2.1 hm.symm
  ·rcases Sx.mp hm with hm | hm
   ·exact Pr.2.1 hm.symm
   ·exact S.lW hm
 ·rcases Sx.mp hm with hm | hm
  ·exact fa.2.2 y c e hm.symm
  ·rcases Sx.mp hm with hm | hm
   ·exact Pr.2.2 y c e hm.symm
   ·exact S.cW y c e hm
 ·rcases Sx.mp hb with rfl | hb
  ·exact ⟨hba,hga⟩
  ·rcases Sx.mp hb with rfl | hb
   ·exact ⟨hbd,hgd⟩
   ·exact S₁.low b hb
 ·rcases Sx.mp gV with rfl | gV
  ·rw [O4] at hb
   rcases Sx.mp hb with rfl | hb
   ·exact ⟨So ..,nw _ ha hba⟩
   ·have:b=d:=by simpa using hb
    subst this
    exact ⟨Ss _ (So ..),nw _ hd hbd⟩
  ·exact ⟨Ss _ (Ss _ (S.new r₁ gV b hb).1),(S.new r₁ gV b hb).2⟩
 ·rcases Sx.mp gV with rfl | gV
  ·exact hr
  ·exact r₁.keep W _ _ _ (S.res r₁ gV) (λb hb o e=>kp b o e) sk hw
 ·rw [Tg,O4]
  have hin:∀ b∈Rs.flatMap (·.addrs),∃ o,s.heap.get? b=some o:=λb hb=>by
   refine ob1_2 (SX.mp hb) λr₁ gV hb=>?_
   exact (S.low b (S.new r₁ gV b hb).1).2
  rw [UL]
  refine ⟨by simp [hne],S.apart,λb hb b' hb' e=>?_⟩
  subst e
  refine ob1_1 (hin b hb') λo e=>?_
  rcases Sx.mp hb with rfl | hb
  ·rw [ha] at e;cases e
  ·have:b=d:=by simpa using hb
   subst this
   rw [hd] at e;cases e
end Mine
namespace Mine
open PySem PySem.W PyProof.Rows
open PySem.Builtin
variable {G:Glob} {F:Fm} {ρ ρ':List (Str×PV)} {W W':List Addr} {Rs ak Ro:List Res} {s s':Shared} {K:Frag} {C a d x f q cda cc L N:Addr} {dat dat':Data} {m m':Str->Option Value} {fd:FuncData} {body:List Stmt} {E:Value->Shared->Prop} {A:Around} {c k k':Nat} {vs:List Value} {v:Value} {xs:List (Str×Str)}
 {cd:Code} {rest:List Stmt} {K':Flow->Shared->Prop} {ms:List (Str×PV)}
noncomputable def qw (C x d:Addr) (ms:List (Str×PV)) (W:List Addr) (h:Heap):Prop :=
 ∃ m,au h x d C .plain m/\(∀ y p,ms.lookup y=some p->∃ v,m y=some v/\Rep W h p v)/\(∀ y,ms.lookup y=none->m y=none)
noncomputable def Res.obj (C x d:Addr) (ms:List (Str×PV)):Res where
 addrs:=[x,d]
 holds:=qw C x d ms
 keep:=λW W' h h' zz=>zz.elim λm zz=>zz.elim λI zz=>zz.elim λh1 h2 k sk hw=>⟨m,I.keep λb hb o e=>k b (by rcases hb with rfl | rfl <;> simp) o e,
  λy p e=>(h1 y p e).imp λv h_=>h_.imp_right λr=>r.keep sk hw,h2⟩
structure Ow (G:Glob) (K:Frag) (C:Addr):Prop where
 gy:∀ h,G.inv h->K.In h
 ga:findIn K (.ref C) "__getattribute__"=some (some (.builtin "object.__getattribute__"))
 hd:hasDictIn K C=true
noncomputable def PV.attr:PV->Bool
 | .none | .bool _ | .int _ | .str _ | .raw (.ref _)=>true
 | _=>false
theorem Rep.Bg {p:PV} {h:Heap} (r:Rep W h p v) (hp:p.attr=true):handedIn v=true:=by
 cases p with
 | none=>rw [Rep] at r;subst r;rfl
 | bool b=>rw [Rep] at r;subst r;rfl
 | int i=>refine ob1_1 r.isInt λt aC=>?_;obtain rfl:=aC;rfl
 | str x=>refine ob0_2 r.isStr λz! az=>ob1_1 az λt bh=>?_;obtain rfl:=bh;rfl
 | tup xs=>cases hp
 | lst xs=>cases hp
 | raw u=>rw [Rep] at r;subst r;cases v <;> first | rfl | cases hp
theorem EV.attr {o:Sp} {pos:Pos} {name:Str} {p:PV} (ok:Ow G K C) (kn:bx G F ρ W Rs (qw C x d ms)) (ho:EV G F ρ W Rs o (.raw (.ref x))) (hm:ms.lookup name=some p) (hp:p.attr=true)
  (hf:findIn K (.ref C) name=some none)
  (he:∀ env,eval (.Attribute o name pos) env=(do
   let v<-eval o env
   standAt pos.atName
   let r<-holding [v] (getAttr v name true)
   letTemporaryGo o v r
   pure r):=by intro _;with_unfolding_all rfl):EV G F ρ W Rs (.Attribute o name pos) p:=λs S=>by
 rw [he]
 refine Sl (aF (ho s S) λv s₁ zz=>zz.elim λy r=>?_)
 rw [Rep] at r;subst r
 have S₁:=S.step y
 refine ob1_3 (kn s₁ S₁) λm I h1 h2=>ob1_2 (h1 name p hm) λv e1 rv=>?_
 refine Sl (Tt (Sl (Sy ?_)))
 refine As (ok.gy _ S₁.inv) I ok.ga ok.hd hf e1 (rv.Bg hp) ?_
 refine Sl (wpAny_letTemporaryGo (Sm ⟨y.trans (.of_toks G),?_⟩))
 exact rv
theorem Found.obj {name:Str} (ok:Ow G K C) (kn:bx G F ρ W Rs (qw C x d ms)) (hk:findIn K (.ref C) "__getattr__"=some none) (hf:findIn K (.ref C) name=some (some (.ref f))) (ht:typeIn K (.ref f)=some (.type "function")) (hn:ms.lookup name=none):Found G F ρ W Rs name x f:=λs S pl Q E q=>by
 refine ob1_3 (kn s S) λm I h1 h2=>?_
 exact tX (ok.gy _ S.inv) I ok.ga (by decide +kernel) hk hf ht (h2 _ hn) q
end Mine
namespace Mine
open PySem PySem.W PyProof.Rows
open PySem.Builtin
variable {G:Glob} {F:Fm} {ρ ρ':List (Str×PV)} {W W':List Addr} {Rs ak Ro:List Res} {s s':Shared} {K:Frag} {C a d x f q cda cc L N:Addr} {dat dat':Data} {m m':Str->Option Value} {fd:FuncData} {body:List Stmt} {E:Value->Shared->Prop} {A:Around} {c k k':Nat} {vs:List Value} {v:Value} {xs:List (Str×Str)}
 {cd:Code} {rest:List Stmt} {K':Flow->Shared->Prop} {ms:List (Str×PV)}
theorem gw {x:Str}:∀ {l:List (Str×PV)},x∉l.map (·.1)->l.lookup x=none
 | [],_=>rfl
 | (y,p)::l,h=>by
  rw [Tp]
  have:(x == y)=false:=beq_eq_false_iff_ne.mpr λe=>h (by simp [e])
  rw [this]
  exact gw λhm=>h (by simp only [S_,Sx];exact .inr hm)
theorem vh {Q:Unit->Shared->Prop} {name:Str} {p:PV} (ck:eF G C N [.type "object"] name) (hb:typeLookup (.type "object") name=pure none) (hsz:ms.length<=sizeLine)
  (S:St G F ρ W (Res.obj C x d ms::Ro) s) (r:Rep W s.heap p v)
  (h:∀ h' tk,St G F ρ W (Res.obj C x d ((name,p)::ms)::Ro) {s with heap:=h',toks:=tk}->aI W s.heap h'->Q () {s with heap:=h',toks:=tk}):wpAny G.M A (setAttr (.ref x) name v) Q E s:=by
 refine ob1_3 (S.res _ (So ..)) λm I h1 h2=>?_
 obtain ⟨nm,q,bs,sn,sub,ab,col,dd,k0,k1,k2,k3,k5,newId,hC⟩:=ck.obj
 refine ob1_3 ck.ns λmN hN e1 e2=>?_
 refine kM (ns:=ms.map (·.1)) PySem.F.store_object (hC _ S.inv) (hN _ S.inv) e1 e2 hb I (λy hy=>?_) (by simpa using hsz) λh' tk I' hk=>?_
 ·exact Classical.byContradiction λhn=>hy (h2 y (gw hn))
 ·have hW:∀ b∈[x,d],b∈W:=λb hb=>(S.new _ (So ..) b hb).1
  have y:aG G [x,d] s {s with heap:=h',toks:=tk}:=aG.gv G (λb hb=>by
   refine ⟨(S.low b (hW b hb)).1,λo e=>?_⟩
   rcases Sx.mp hb with rfl | hb
   ·rw [I.obj] at e;cases e
    exact .inl λh=>by cases h
   ·have:b=d:=by simpa using hb
    subst this
    refine .inr λws hd=>?_
    refine ob3_3 I.ns λo' es ep e' d' z! => ?_
    rw [e] at e';cases e'
    rw [hd] at d';cases d') λb o hb e=>hk b o (λh=>hb (by simp [h])) e
  have sk:=y.cA S.inv hW
  refine h h' tk (S.instTurn (r':=Res.obj C x d ((name,p)::ms)) (tk:=tk) rfl rfl I I' (λb o z! h2 e=>hk b o h2 e) λsk=>⟨_,I',λy q e=>?_,λy e=>?_⟩) sk
  ·rw [Tp] at e
   by_cases hy:y=name
   ·subst hy
    simp only [beq_self_eq_true] at e
    cases e
    exact ⟨v,by simp,r.keep sk λz! z! q=>q⟩
   ·rw [beq_eq_false_iff_ne.mpr hy] at e
    refine ob1_2 (h1 y q e) λu e1 ru=>?_
    exact ⟨u,by simp [hy,e1],ru.keep sk λz! z! q=>q⟩
  ·rw [Tp] at e
   by_cases hy:y=name
   ·subst hy
    simp only [beq_self_eq_true] at e
    cases e
   ·rw [beq_eq_false_iff_ne.mpr hy] at e
    simp [hy,h2 y e]
theorem TR.attr {xo name:Str} {po pos:Pos} {p:PV} (ck:eF G C N [.type "object"] name) (hb:typeLookup (.type "object") name=pure none) (hx:ρ.lookup xo=some (.raw (.ref x))) (hsz:ms.length<=sizeLine:=by first | decide | exact Sn (show _<=8 by simp) (by decide))
  (hdo:(xo == ("__debug__":Str))=false:=by decide) (hco:(xo == ("__classdict__":Str))=false:=by decide) :
  TR G F ρ W (Res.obj C x d ms::Ro) (.Attribute (.Name xo po) name pos) p (Res.obj C x d ((name,p)::ms)::Ro):=λs v S r=>by
 rw [assign_Attribute]
 refine Sl (Sy (S.lB hx hdo hco ?_))
 refine Sl (Tt (Sl (Sy ?_)))
 refine vh ck hb hsz S r λh' tk S' z! => ?_
 exact XA S'
noncomputable def EN (G:Glob) (F:Fm) (ρ:List (Str×PV)) (W:List Addr) (Rs:List Res) (e:Sp) (N:Value->List Addr->List Res->Prop):Prop :=
 ∀ s,St G F ρ W Rs s->wpAny G.M F.A (eval e F.env) (λv s'=>∃ W' ak,N v W' ak/\St G F ρ W' ak s') (λz! z! => False) s
theorem EN.list {es:List Sp} {iP:Pos} {ps:List PV} (h:aW G F ρ W Rs es ps) (hl:ps.length<=lim:=by decide)
  (hst:backTo iP (starEach es F.env)=es.map (λe=>(false,eval e F.env)):=by rfl) :
  EN G F ρ W Rs (.List es iP) (λv W' ak=>∃ a,a∉W/\v = .ref a/\W'=a::W/\ak=Res.lst a ps::Rs):=λs S=>by
 refine gu h hl S (λs₁ a ha S₁=>⟨_,_,⟨a,λhm=>?_,rfl,rfl,rfl⟩,S₁⟩) hst
 refine ob0_2 (S.low a hm) λz! az=>ob1_1 az λo e=>?_
 rw [ha] at e;cases e
variable {Nw:Value->List Addr->List Res->Prop}
theorem XS.Oi {x:Str} {px pos:Pos} {value:Sp} (h:EN G F ρ W Rs value Nw) (hx:F.env.kindOf x=some .local\/(F.env.kindOf x=some .cell/\x∈F.cv))
  (k:∀ v W' ak,Nw v W' ak->XS G F ((x,.raw v)::ρ) W' ak rest K')
  (hs:swapsWithSole [.Name x px] value pos.line F.env=pure false:=by rfl) (hw:swappedStores [.Name x px] value F.env=pure none:=by rfl)
  (he:(assignEach [.Name x px] F.env).map (·.2)=[UE (.Name x px) F.env]:=by rfl) :
  XS G F ρ W Rs (.Assign [.Name x px] value pos::rest) K':=λs S=>by
 refine TN ?_
 rw [Xg]
 refine Sl (Tt ?_)
 rw [hs]
 refine Sl (Sm ?_)
 rw [if_neg (by decide)]
 refine Sl (aF (h s S) λv s₁ zz=>zz.elim λW' zz=>zz.elim λak zz=>zz.elim λhN S₁=>?_)
 rw [hw]
 refine Sl (Sm ?_)
 rw [he]
 show wpAny _ _ (do UE (.Name x px) F.env v;pure Yb) _ _ s₁
 exact Sl (aF (AV.name (p:=.raw v) hx s₁ _ S₁ (by rw [Rep])) λ_ s₂ zz=>zz.elim λS₂ z! => Sm (k v W' ak hN s₂ S₂))
theorem XS.C4 {xo name:Str} {po pos apos:Pos} {value:Sp} (h:EN G F ρ W Rs value Nw) (ck:eF G C N [.type "object"] name) (hb:typeLookup (.type "object") name=pure none) (hx:ρ.lookup xo=some (.raw (.ref x)))
  (k:∀ v W' ak,Nw v W' ak->∃ Ov,ak.Perm (Res.obj C x d ms::Ov)/\XS G F ρ W' (Res.obj C x d ((name,.raw v)::ms)::Ov) rest K') (hsz:ms.length<=sizeLine:=by first | decide | exact Sn (show _<=8 by simp) (by decide))
  (hdo:(xo == ("__debug__":Str))=false:=by decide) (hco:(xo == ("__classdict__":Str))=false:=by decide)
  (hs:swapsWithSole [.Attribute (.Name xo po) name apos] value pos.line F.env=pure false:=by rfl) (hw:swappedStores [.Attribute (.Name xo po) name apos] value F.env=pure none:=by rfl)
  (he:(assignEach [.Attribute (.Name xo po) name apos] F.env).map (·.2)=[UE (.Attribute (.Name xo po) name apos) F.env]:=by rfl) :
  XS G F ρ W Rs (.Assign [.Attribute (.Name xo po) name apos] value pos::rest) K':=λs S=>by
 refine TN ?_
 rw [Xg]
 refine Sl (Tt ?_)
 rw [hs]
 refine Sl (Sm ?_)
 rw [if_neg (by decide)]
 refine Sl (aF (h s S) λv s₁ zz=>zz.elim λW' zz=>zz.elim λak zz=>zz.elim λhN S₁=>?_)
 rw [hw]
 refine Sl (Sm ?_)
 rw [he]
 refine ob1_2 (k v W' ak hN) λOv hp hk=>?_
 show wpAny _ _ (do UE (.Attribute (.Name xo po) name apos) F.env v;pure Yb) _ _ s₁
 exact Sl (aF (TR.attr (p:=.raw v) ck hb hx hsz hdo hco s₁ _ (S₁.perm hp) (by rw [Rep])) λz! s₂ S₂=>Sm (hk s₂ S₂))
end Mine
namespace Mine
open PySem PySem.W PyProof.Rows
open PySem.Builtin
variable {G:Glob} {F:Fm} {ρ ρ':List (Str×PV)} {W W':List Addr} {Rs ak Ro:List Res} {s s':Shared} {K:Frag} {C a d x f cda cc L N:Addr} {fd:FuncData} {body:List Stmt} {E:Value->Shared->Prop} {A:Around} {c k k':Nat} {vs:List Value} {v:Value} {xs:List (Str×Str)}
 {cd:Code} {rest:List Stmt} {K':Flow->Shared->Prop} {ms:List (Str×PV)}
structure Ah (G:Glob) (W:List Addr) (Rs:List Res) (s:Shared) (W':List Addr) (ak:List Res) (s':Shared):Prop where
 stp:aG G (Rs.flatMap (·.addrs)) s s'
 low:vU G W' s'
 sub:∀ b∈W,b∈W'
 old:∀ b∈W',b∈W\/s.heap.get? b=none
 res:∀ r∈ak,r.holds W' s'.heap
 own:∀ r∈ak,∀ b∈r.addrs,b∈W'/\(b∈Rs.flatMap (·.addrs)\/s.heap.get? b=none)
 nd:(ak.flatMap (·.addrs)).Nodup
theorem St.isNew (S:St G F ρ W Rs s) {b:Addr} (hn:s.heap.get? b=none) (hb:G.base.objs.size<=b):F.s0.heap.get? b=none\/b∈F.X:=by
 by_cases hX:b∈F.X
 ·exact .inr hX
 ·left
  cases e0:F.s0.heap.get? b with
  | none=>rfl
  | some o0 =>
   have:=S.stp.keep _ o0 hX (bk hb) e0
   rw [hn] at this;cases this
theorem St.m9 (S:St G F ρ W (Rs++Ro) s) (x:Ah G W Rs s W' ak s'):St G F ρ W' (ak++Ro) s':=by
 have hW:∀ a∈Rs.flatMap (·.addrs),a∈W:=λa h=>by
  refine ob1_2 (SX.mp h) λr hr h=>?_
  exact (S.new r (Ux _ hr) a h).1
 have nd:=S.apart
 rw [Ul,UL] at nd
 have S':St G F ρ W Ro s:={S with new:=λr hr=>S.new r (VS _ hr),res:=λr hr=>S.res r (VS _ hr),apart:=nd.2.1}
 have S₂:St G F ρ W Ro s':=S'.xP x.stp hW (λa h=>by
   refine ob1_2 (SX.mp h) λr hr h=>?_
   exact (S.new r (Ux _ hr) a h).2) (λr hr a h1 h2=>nd.2.2 a h2 a (SX.mpr ⟨r,hr,h1⟩) rfl) (λa h=>(x.low a (x.sub a (hW a h))).2)
 have sk:=x.stp.cA S.inv hW
 have hw:∀ b,(∃ o,s.heap.get? b=some o)->b∈W'->b∈W:=λb zz=>zz.elim λo e hb=>(x.old b hb).elim id λh=>by rw [h] at e;cases e
 refine {S₂ with vars:=λy p e=>?_,lW:=λhm=>?_,cW:=λy c e hm=>?_,low:=x.low,new:=λr hr b h=>?_,res:=λr hr=>?_,apart:=?_}
 ·refine ob1_2 (S.vars y p e) λv l r=>?_
  exact ⟨v,l.step x.stp S.inv (λh=>S.lW (hW _ h)) (λy c e h=>S.cW y c e (hW _ h)),r.keep sk hw⟩
 ·refine ob4_2 S.loc λm o es ep e z! => ?_
  exact S.lW (hw _ ⟨o,e⟩ hm)
 ·refine ob2_2 (S.cells y c e) λv o eo z! => ?_
  exact S.cW y c e (hw _ ⟨o,eo⟩ hm)
 ·rcases SO.mp hr with hr | hr
  ·refine ob0_2 (x.own r hr b h) λh1 h2=>?_
   refine ⟨h1,?_⟩
   rcases h2 with h2 | h2
   ·refine ob1_2 (SX.mp h2) λr' hr' h'=>?_
    exact (S.new r' (Ux _ hr') b h').2
   ·exact S.isNew h2 (x.low b h1).1
  ·exact ⟨x.sub _ (S₂.new r hr b h).1,(S₂.new r hr b h).2⟩
 ·rcases SO.mp hr with hr | hr
  ·exact x.res r hr
  ·exact r.keep W _ _ _ (S'.res r hr) (λb hb o e=>x.stp.keep b o (λh=>nd.2.2 b h b (SX.mpr ⟨r,hr,hb⟩) rfl) (bk (S.low b (S'.new r hr b hb).1).1) e) sk hw
 ·rw [Ul,UL]
  refine ⟨x.nd,nd.2.1,λb hb b' hb' e=>?_⟩
  subst e
  refine ob1_2 (SX.mp hb) λr hr h=>?_
  rcases (x.own r hr b h).2 with h2 | h2
  ·exact nd.2.2 b h2 b hb' rfl
  ·refine ob1_2 (SX.mp hb') λr' hr' h'=>?_
   refine ob0_2 (S'.low b (S'.new r' hr' b h').1) λz! az=>ob1_1 az λo e=>?_
   rw [h2] at e;cases e
theorem St.toNew {fd:FuncData} {n:Nat} {s0:Shared} (S:St G (bu fd f A s0 L n (Rs.flatMap (·.addrs))) ρ W' ak s) (NV:∀ r∈Rs,∀ a∈r.addrs,a∈W) (sub:∀ b∈W,b∈W') (old:∀ b∈W',b∈W\/b∈ak.flatMap (·.addrs)):Ah G W Rs s0 W' ak s where
 stp:=S.stp
 low:=S.low
 sub:=sub
 old:=λb hb=>(old b hb).elim .inl λh=>by
  refine ob1_2 (SX.mp h) λr hr h=>?_
  rcases (S.new r hr b h).2 with h2 | h2
  ·exact .inr h2
  ·refine ob1_2 (SX.mp h2) λr' hr' h'=>?_
   exact .inl (NV r' hr' b h')
 res:=S.res
 own:=λr hr b h=>⟨(S.new r hr b h).1,(S.new r hr b h).2.symm⟩
 nd:=S.apart
noncomputable def CN (G:Glob) (f:Addr) (n:Nat) (Rs:List Res) (ps:List PV) (q:PV) (N:List Addr->List Addr->List Res->Prop):Prop :=
 ∀ A W s vs,cF A n->G.inv s.heap->vU G W s->ah W s.heap ps vs->(∀ r∈Rs,r.holds W s.heap)->(∀ r∈Rs,∀ a∈r.addrs,a∈W)->(Rs.flatMap (·.addrs)).Nodup ->
  codeAny G.M A (.call (.ref f) ⟨vs,[]⟩) (λr s'=>match r with | .ok (.ret v)=>∃ W' ak,N W W' ak/\Ah G W Rs s W' ak s'/\Rep W' s'.heap q v | _=>False) s
theorem CN.mJ {f:Addr} {fd:FuncData} {body:List Stmt} {Nw:List Addr->List Addr->List Res->Prop} (ok:bQ G f fd body) {names:List Str} {ps ps':List PV} {q:PV} {n:Nat}
  (hb:∀ s W vs,G.inv s.heap->ah W s.heap ps vs->∃ vs',BindsTo s fd ⟨vs,[]⟩ (names.zip vs')/\ah W s.heap ps' vs') (hlen:names.length=ps'.length)
  (hnm:∀ x∈names,fd.scope.names.lookup x=some .local\/fd.scope.names.lookup x=some .cell)
  (hN:∀ W W' ak,Nw W W' ak->(∀ b∈W,b∈W')/\∀ b∈W',b∈W\/b∈ak.flatMap (·.addrs))
  (h:∀ A W s L,cF A (n+1)->jE G (bu fd f A s L n (Rs.flatMap (·.addrs))) (.func body (dK fd f L)) (names.zip ps').reverse W Rs body (λfl s'=>∃ W' ak ρ,Nw W W' ak/\St G (bu fd f A s L n (Rs.flatMap (·.addrs))) ρ W' ak s'/\Rep W' s'.heap q (match fl with | .ret v=>v | _=>.none))) :
  CN G f (n+1) Rs ps q Nw:=λA W s vs hA iv low rs h1 h2 h3=>by
 refine ob1_2 (hb s W vs iv rs) λvs' hb' rs'=>?_
 refine Wf (gK (Q:=λv s'=>∃ W' ak ρ,Nw W W' ak/\St G (bu fd f A s s.heap.objs.size n (Rs.flatMap (·.addrs))) ρ W' ak s'/\Rep W' s'.heap q v) ok hA iv low hb' rs' hlen h1 h2 h3 hnm (h A W s s.heap.objs.size hA)) λr s' hr=>?_
 match r,hr with
 | .ok (.ret v),hr =>
  refine ob3_3 hr λW' ak ρ NX S hr=>?_
  exact ⟨W',ak,NX,S.toNew h2 (hN _ _ _ NX).1 (hN _ _ _ NX).2,hr⟩
 | .ok .next,hr=>exact hr.elim
 | .ok .brk,hr=>exact hr.elim
 | .ok .cont,hr=>exact hr.elim
 | .error e,hr=>exact hr.elim
theorem CN.of {f:Addr} {fd:FuncData} {body:List Stmt} {Nw:List Addr->List Addr->List Res->Prop} (ok:bQ G f fd body) {names:List Str} {ps ps':List PV} {q:PV} {n:Nat}
  (hb:∀ s W vs,G.inv s.heap->ah W s.heap ps vs->∃ vs',BindsTo s fd ⟨vs,[]⟩ (names.zip vs')/\ah W s.heap ps' vs') (hlen:names.length=ps'.length)
  (hnm:∀ x∈names,fd.scope.names.lookup x=some .local\/fd.scope.names.lookup x=some .cell)
  (hN:∀ W W' ak,Nw W W' ak->(∀ b∈W,b∈W')/\∀ b∈W',b∈W\/b∈ak.flatMap (·.addrs))
  (h:∀ A W s L,cF A (n+1)->XS G (bu fd f A s L n (Rs.flatMap (·.addrs))) (names.zip ps').reverse W Rs body (λfl s'=>∃ W' ak ρ,Nw W W' ak/\St G (bu fd f A s L n (Rs.flatMap (·.addrs))) ρ W' ak s'/\Rep W' s'.heap q (match fl with | .ret v=>v | _=>.none))) :
  CN G f (n+1) Rs ps q Nw:=CN.mJ ok hb hlen hnm hN λA W s L hA=>jE.of (h A W s L hA)
end Mine
namespace Mine
open PySem PySem.W PyProof.Rows
open PySem.Builtin
variable {G:Glob} {F:Fm} {ρ ρ':List (Str×PV)} {W W':List Addr} {Rs ak Ro:List Res} {s s':Shared} {K:Frag} {C a d x f cda cc L N:Addr} {fd:FuncData} {body:List Stmt} {E:Value->Shared->Prop} {A:Around} {c k k':Nat} {vs:List Value} {v:Value} {xs:List (Str×Str)}
 {cd:Code} {rest:List Stmt} {K':Flow->Shared->Prop} {ms:List (Str×PV)}
theorem n_ {C:Addr} {rest:List Value} {kw:List (Str×Value)}:(Code.builtin "type.__call__" ⟨.ref C::rest,kw⟩).weight=1:=by kernel_rfl
theorem pZ {C:Addr} {rest:List Value} {kw:List (Str×Value)}:(Code.builtin "type.__call__" ⟨.ref C::rest,kw⟩).cUnits=1:=by kernel_rfl
theorem cF.IW {n:Nat} {C:Addr} {rest:List Value} {kw:List (Str×Value)} (r:cF A (n+1)):cF (A.under (.builtin "type.__call__" ⟨.ref C::rest,kw⟩)) n :=
 ⟨r.1,by have:=r.2.1;simp only [Around.under,n_];exact Ii this,by have:=r.2.2;simp only [Around.under,pZ];exact IM this⟩
structure Ff (G:Glob) (K:Frag) (C f:Addr) (lst:Bool):Prop where
 gy:∀ h,G.inv h->K.In h
 Fo:(if lst then iM K C else makesIn K C)=true
 kp:keepIn K (.ref C)=true
 ini:findIn K (.ref C) "__init__"=some (some (.ref f))
 OY:typeIn K (.ref f)=some (.type "function")
theorem EN.make {x:Str} {p pos:Pos} {e:Sp} {es:List Sp} {ps:List PV} {n:Nat} {Nw:Addr->Addr->List Addr->List Addr->List Res->Prop} (lst:Bool) (om:Ff G K C f lst)
  (hf:EV G F ρ W Rs (.Name x p) (.raw (.ref C))) (ha:aW G F ρ W Rs (e::es) ps)
  (r0:Addr->Addr->Res) (hr0:∀ x d,(r0 x d).addrs=[x,d])
  (hh:∀ W h x d,h.get? x=some {cls:=.ref C,dict:=some d,data:=if lst then .seq #[] else .plain}->h.get? d=some emptyDict->d≠x->(r0 x d).holds W h)
  (hc:∀ x d,CN G f n [r0 x d] (.raw (.ref x)::ps) .none (Nw x d)) (hn:n+1<=F.n)
  (hst:backTo pos (starEach (e::es) F.env)=(e::es).map (λe=>(false,eval e F.env)):=by rfl) :
  EN G F ρ W Rs (.Call (.Name x p) (e::es) [] pos) (λv W' ak=>∃ x d Rn,x∉W/\d∉W/\v = .ref x/\Nw x d (x::d::W) W' Rn/\ak=Rn++Rs):=λs S=>by
 rw [VM]
 refine Sl (aF (hf s S) λv s₁ zz=>zz.elim λy r=>?_)
 rw [Rep] at r
 subst r
 rw [hst]
 show wpAny _ _ (callWith pos (.ref C) [] ((e::es).map λe=>(false,eval e F.env)) []) _ _ _
 refine callWith_of (P:=λh=>K.In h) (Xd.mpr ⟨noStar _,rfl⟩) (λh hX=>keeps_K om.kp h hX) ?_
 refine TF (aF (ha s₁ (S.step y)) λvs s₂ zz=>zz.elim λz rs=>⟨om.gy _ ((S.step y).step z).inv,?_⟩)
 have S₂:=(S.step y).step z
 refine UO ?_
 have X:=om.gy _ S₂.inv
 show codeAny _ _ (.call (.ref C) ⟨vs,[]⟩) _ _
 have fin:∀ o:Obj,o={cls:=.ref C,dict:=some s₂.heap.objs.size,data:=if lst then .seq #[] else .plain} ->
   codeAny G.M (F.A.under (.builtin "type.__call__" ⟨.ref C::vs,[]⟩)) (.call (.ref f) ⟨.ref (s₂.heap.objs.size+1)::vs,[]⟩)
    (InitBack (s₂.heap.objs.size+1) (λr s'=>match r with | .ok (.ret v)=>(∃ W' ak,(∃ x d Rn,x∉W/\d∉W/\v = .ref x/\Nw x d (x::d::W) W' Rn/\ak=Rn++Rs)/\St G F ρ W' ak s') | .ok _=>False | .error e=>False))
    ⟨(s₂.heap.push emptyDict).push o,s₂.gens,s₂.drawn,s₂.toks,s₂.os⟩:=by
  intro o ho
  have k:∀ b o',s₂.heap.get? b=some o'->((s₂.heap.push emptyDict).push o).get? b=some o':=λb o' e=>Sw _ (Sw _ e)
  have hx:((s₂.heap.push emptyDict).push o).get? (s₂.heap.objs.size+1)=some o:=by
   have hz:(s₂.heap.push emptyDict).objs.size=s₂.heap.objs.size+1:=TQ ..
   rw [<- hz]
   refine SH _ ?_
   subst ho;cases lst <;> rfl
  have hd:((s₂.heap.push emptyDict).push o).get? s₂.heap.objs.size=some emptyDict:=Sw _ (SH _ rfl)
  have nx:s₂.heap.get? (s₂.heap.objs.size+1)=none:=bC (Uw _)
  have nd:s₂.heap.get? s₂.heap.objs.size=none:=bV _
  have aT:St G F ρ ((s₂.heap.objs.size+1)::s₂.heap.objs.size::W) (r0 (s₂.heap.objs.size+1) s₂.heap.objs.size::Rs) {s₂ with heap:=(s₂.heap.push emptyDict).push o} :=
   S₂.Dv (t:=s₂.toks) k nx nd (S5 (aS S₂.inv)) (aS S₂.inv) (WO _) ⟨_,hx⟩ ⟨_,hd⟩ (hr0 _ _) (hh _ _ _ _ (by rw [hx,ho]) hd (WO _).symm)
  refine ob0_3 (St.AK (Rs:=[r0 (s₂.heap.objs.size+1) s₂.heap.objs.size]) (Ro:=Rs) aT) λh1 h2 h3=>?_
  have rs':ah W ((s₂.heap.push emptyDict).push o) ps vs:=aG.jH (s':={s₂ with heap:=(s₂.heap.push emptyDict).push o}) (aG.of_keeps G (t:=s₂.toks) k) S₂.inv rs
  have I1:ah ((s₂.heap.objs.size+1)::s₂.heap.objs.size::W) ((s₂.heap.push emptyDict).push o) ps vs:=by
   refine ah.keep (W:=W) (h:=s₂.heap) ((aG.of_keeps G (s:=s₂) (t:=s₂.toks) k).cA S₂.inv (by simp)) (λb zz=>zz.elim λo' e hb=>?_) rs
   rcases Sx.mp hb with rfl | hb
   ·rw [nx] at e;cases e
   ·rcases Sx.mp hb with rfl | hb
    ·rw [nd] at e;cases e
    ·exact hb
  refine Wf (hc _ _ (F.A.under (.builtin "type.__call__" ⟨.ref C::vs,[]⟩)) _ _ _ ((S₂.room.mono hn).IW) aT.inv aT.low (by rw [ah];exact ⟨_,_,rfl,by rw [Rep],I1⟩) h1 h2 h3) λr s' hr=>?_
  match r,hr with
  | .ok (.ret v),hr =>
   refine ob2_3 hr λW' Rn hN hnew hrep=>?_
   rw [Rep] at hrep
   refine ⟨hrep,W',Rn++Rs,⟨_,_,Rn,(S₂.fresh nx).1,(S₂.fresh nd).1,rfl,hN,rfl⟩,?_⟩
   exact St.m9 (Rs:=[r0 (s₂.heap.objs.size+1) s₂.heap.objs.size]) aT hnew
 cases hl:lst with
 | true =>
  have mk:=om.Fo
  rw [hl] at mk
  exact DM (vO X mk) (UA X om.ini) (λself=>bind_fn X self om.OY) (.inl rfl) (fin _ (by rw [hl];rfl))
 | false =>
  have mk:=om.Fo
  rw [hl] at mk
  exact make_core (makes_of X mk) (UA X om.ini) (λself=>bind_fn X self om.OY) (.inl rfl) (fin _ (by rw [hl];rfl))
end Mine
namespace Mine
open PySem PySem.W PyProof.Rows
variable {G:Glob} {F:Fm} {ρ ρ':List (Str×PV)} {W:List Addr} {Rs ak:List Res} {s s':Shared}
variable {K:Flow->Shared->Prop} {rest:List Stmt}
theorem XS.CK {τ:Type} {target iter:Sp} {body orelse:List Stmt} {pos:Pos} {xs:List PV} (Inv:Nat->τ->Prop) (KV:τ->Prop) (iA:τ->List (Str×PV)) (RI:τ->List Res)
  (dG:PV->τ->List (Str×PV)) (z0:τ)
  (hi:IV G F ρ W Rs target iter xs) (h0:Inv 0 z0) (DZ:∀ x p,(iA z0).lookup x=some p->ρ.lookup x=some p) (NW:RI z0=Rs) (hR:∀ z,(RI z).flatMap (·.addrs)=Rs.flatMap (·.addrs))
  (mO:∀ k p z s₁,xs[k]? = some p->Inv k z->AV G (F.at Rs s₁) (iA z) W (RI z) target p (dG p z))
  (hb:∀ k p z s₁,xs[k]? = some p->Inv k z->XS G (F.at Rs s₁) (dG p z) W (RI z) body (λf s'=>match f with
   | .next | .cont=>∃ z',Inv (k+1) z'/\St G (F.at Rs s₁) (iA z') W (RI z') s'
   | .brk=>∃ z',KV z'/\St G (F.at Rs s₁) (iA z') W (RI z') s'
   | .ret _=>False))
  (h:∀ z,Inv xs.length z->XS G F (iA z) W (RI z) orelse (KJ (λs=>wpAny G.M F.A (execs rest F.env) K (λz! z! => False) s) K))
  (Rf:∀ z,KV z->XS G F (iA z) W (RI z) rest K)
  (hs:∀ x,foldedSetIterable iter F.env x=pure x:=by intro _;rfl) :
  XS G F ρ W Rs (.For target iter body orelse pos::rest) K:=λs S=>by
 refine TN (wpAny_For ?_ hs)
 refine aF (hi s S) λx s₁ zz=>zz.elim λkX hit=>aF hit λit s₂ zz=>zz.elim λfQ zz=>zz.elim λfp zz=>zz.elim λwr zz=>zz.elim λhI zz=>zz.elim λhwr hfp=>?_
 refine ob1_2 (hI [] (by simp)) λT I hT=>?_
 replace hT:=hT s₂.heap λz! z! e=>e
 rw [V6] at I
 have S₂:=S.step fQ
 have lK:∀ b∈fp,b∉W/\b≠F.env.locals/\∀ x c,F.env.cells.lookup x=some c->b≠c:=λb hb=>⟨(hfp b hb).1,(hfp b hb).2.1,(hfp b hb).2.2.1⟩
 have yY:∀ b∈wr,F.s0.heap.get? b=none\/b∈F.X:=λb hb=>by
  by_cases hX:b∈F.X
  ·exact .inr hX
  ·left
   cases e:F.s0.heap.get? b with
   | none=>rfl
   | some o =>
    have:=S.stp.keep b o hX (hfp b (I.sub b hb)).2.2.2.1 e
    rw [hwr b hb] at this;cases this
 refine codeAny_loop' rfl (λn s'=>∃ k z,n=xs.length+1 - k/\k<=xs.length/\Inv k z/\St G F (iA z) W (RI z) s'/\T k s'.heap) (λn s' hI=>?_) (xs.length+1)
  ⟨0,z0,rfl,Td _,h0,by rw [NW];exact S₂.weaken DZ,hT⟩
 refine ob2_5 hI λk z aA hk hz S' pM=>?_;obtain rfl:=aA
 show wpAny _ F.A ((forTurn target it body orelse F.env).onRaise (λx=>do noteFrame x F.env;theTreesLotGoes x)) _ _ s'
 refine wpAny_noted ?_
 simp only [forTurn]
 refine Sl (Tt (Sl (wpAny_onRaise ?_)))
 rcases VW k xs.length with hlt | hge
 ·have hp:xs[k]? = some xs[k]:=by simp [hlt]
  refine aF (I.item k _ s' hp pM S'.inv λa ha=>(S'.low a ha).2) λr s₃ zz=>zz.elim λv zz=>zz.elim λhr zz=>zz.elim λx₃ hgo=>?_
  subst hr
  refine Sl (aF hgo λ_ s₄ zz=>zz.elim λpO zz=>zz.elim λsC Ac=>?_)
  have qc:aI W s'.heap s₄.heap:=pO.bI S'.inv (I.pP k _ pM)
  have bZ:St G F (iA z) W (RI z) s₄:=S'.cN pO (λa ha=>lK a (I.sub a ha)) yY qc
  have Ak:=bZ.enter (ak:=Rs) (hR z).symm
  refine Sl (aF (mO k _ z s₄ hp hz s₄ v Ak sC) λ_ s₅ zz=>zz.elim λmY z! => ?_)
  refine Sl (aF (hb k _ z s₄ hp hz s₅ mY) λf s₆ hf=>?_)
  have next:(∃ z',Inv (k+1) z'/\St G (F.at Rs s₄) (iA z') W (RI z') s₆)->∃ m,m<xs.length+1 - k/\∃ k' z',m=xs.length+1 - k'/\k'<=xs.length/\Inv k' z'/\St G F (iA z') W (RI z') s₆/\T k' s₆.heap:=λzz=>zz.elim λz' zz=>zz.elim λhz' gP=>by
   refine ⟨_,?_,k+1,z',rfl,hlt,hz',bZ.leave gP (hR z).symm ((hR z').trans (hR z).symm),?_⟩
   ·exact Mr hlt
   ·exact I.frame _ _ _ Ac (λb hb o e=>gP.stp.keep b o (ko bZ (hR z).symm (lK b hb)) (hfp b hb).2.2.2.1 e) (bZ.jq gP.stp (hR z).symm)
  cases f with
  | next=>exact Sm (.inl ⟨rfl,next hf⟩)
  | cont=>exact Sm (.inl ⟨rfl,next hf⟩)
  | brk =>
   refine ob1_2 hf λz' hz' gP=>?_
   exact Sm (Rf z' hz' s₆ (bZ.leave gP (hR z).symm ((hR z').trans (hR z).symm)))
  | ret v=>exact hf.elim
 ·have hk':k=xs.length:=Ub hk hge
  subst hk'
  refine aF (I.done s' pM S'.inv) λr s₃ zz=>zz.elim λhr x₃=>?_
  subst hr
  have qd:aI W s'.heap s₃.heap:=x₃.bI S'.inv (I.pP _ _ pM)
  have aT:St G F (iA z) W (RI z) s₃:=S'.cN x₃ (λa ha=>lK a (I.sub a ha)) yY qd
  exact Sm (.inr ⟨rfl,codeAny_block (aF (h z hz s₃ aT) λf s' hf=>by cases f <;> exact hf)⟩)
theorem XS.brk {pos:Pos} (h:∀ s,St G F ρ W Rs s->K .brk s):XS G F ρ W Rs (.Break pos::rest) K:=λs S =>
 TN (wpAny_Break (h s S))
theorem XS.cont {pos:Pos} (h:∀ s,St G F ρ W Rs s->K .cont s):XS G F ρ W Rs (.Continue pos::rest) K:=λs S =>
 TN (wpAny_Continue (h s S))
theorem XS.M7 {pos:Pos} (h:∀ s,St G F ρ W Rs s->K (.ret .none) s):XS G F ρ W Rs (.Return none pos::rest) K:=λs S=>by
 exact TN (wpAny_Return_none (h s S))
end Mine
namespace Mine
open PySem PySem.W PyProof.Rows
variable {G:Glob} {F:Fm} {ρ ρ':List (Str×PV)} {W:List Addr} {Rs ak:List Res} {s s':Shared}
noncomputable def signsOf (x:Str):List PV:=x.cps.toList.map λc=>.str ⟨#[c]⟩
theorem IV.str {target e:Sp} {x:Str} (h:EV G F ρ W Rs e (.str x)) (hx:x.cps.all (· < 128)=true):IV G F ρ W Rs target e (signsOf x):=λs S=>by
 refine aF (h s S) λv s' zz=>zz.elim λhx' r=>⟨hx',?_⟩
 refine ob0_2 r.isStr λhl az=>ob1_1 az λt bh=>?_;obtain rfl:=bh
 have S₁:=S.step hx'
 refine wpAny_pyIter_ascii hx ?_
 have hfr:=S₁.fresh (bV s'.heap)
 refine ⟨hx'.trans (.bO G (t:=s'.toks)),[s'.heap.objs.size],[s'.heap.objs.size],λV hV=>⟨_,
   Ai.ofWalks (Walks.strAscii S.room.1 s'.heap.objs.size x t) (by simp [signsOf]) (aS S₁.inv) (λh=>True)
    (λh h' r sk=>trivial) (λi p v h hp hv r=>?_) (c:="str_ascii_iterator") (λi h t=>?_) (by decide) (by decide),λh' k=>⟨⟨_,k _ _ (SH _ rfl),rfl,rfl⟩,trivial⟩⟩,?_,?_⟩
 ·refine ob2_2 hv λc u hc rP=>?_;obtain rfl:=rP
  unfold signsOf at hp
  rw [S9] at hp
  rw [<- U4] at hc
  rw [hc] at hp
  simp only [WC,XZ] at hp
  rw [<- hp]
  exact Rep.str (show 1<=lim by decide)
 ·refine ob1_3 t λo e hc hd=>?_
  exact ⟨o,e,hc,_,hd⟩
 ·intro b hb
  have:b=s'.heap.objs.size:=by simpa using hb
  subst this
  cases e':s.heap.get? s'.heap.objs.size with
  | none=>rfl
  | some o =>
   exfalso
   have ht:s'.heap.objs.size∉G.tabs:=λht=>Tc _ (Su (G.rM _ ht) (aS S₁.inv))
   exact Tc _ (Te (hx'.keep _ o (by simp) ht e'))
 ·intro b hb
  have:b=s'.heap.objs.size:=by simpa using hb
  subst this
  exact ⟨hfr.1,hfr.2.1,hfr.2.2,bk (aS S₁.inv),_,SH _ rfl⟩
theorem AB {x:Str}:∀ s v,G.inv s.heap->Rep W s.heap (.str x) v->wpAny G.M F.A (truthy v) (λc s'=>aG G [] s s'/\c=decide (x.length≠0)) (λz! z! => False) s:=λs v iv r=>by
 refine ob0_2 r.isStr λhl az=>ob1_1 az λt bh=>?_;obtain rfl:=bh
 refine PySem.P.truthy_str (qL hl) ⟨.of_toks G,?_⟩
 by_cases h:x.length=0
 ·simp [h]
 ·have:((x.length:Int) != 0)=true:=bne_iff_ne.mpr (by exact FN h)
  rw [this];simp [h]
theorem TV.str {e:Sp} {x:Str} (h:EV G F ρ W Rs e (.str x))
  (he:∀ whole,isTrue e F.env whole=(do let v<-whole;standAt e.pos;holding [v] (truthy v)):=by intro _;rfl):TV G F ρ W Rs e (decide (x.length≠0)):=TV.plain h AB he
theorem TV.bool {e:Sp} {b:Bool} (h:EV G F ρ W Rs e (.bool b))
  (he:∀ whole,isTrue e F.env whole=(do let v<-whole;standAt e.pos;holding [v] (truthy v)):=by intro _;rfl):TV G F ρ W Rs e b:=TV.plain h t6 he
theorem v8 {x:Str}:∀ s t,St G F ρ W Rs s->x.length<=lim->Gv G F.A W (call (.builtin "str.isspace") [.str x t]) (.bool (Vn x)) s:=λs t S z! => SC.isspace ⟨.refl ..,Rep.bool⟩
theorem EV.isspace {o:Sp} {apos pos:Pos} {x:Str} (ho:EV G F ρ W Rs o (.str x))
  (hbase:attributeBase o "isspace" F.env (eval o F.env)=eval o F.env:=by rfl)
  (hline:(apos.endLine == pos.line)=true:=by rfl):EV G F ρ W Rs (.Call (.Attribute o "isspace" apos) [] [] pos) (.bool (Vn x)) :=
 EV.DL ho PySem.F.slot_str_isspace PySem.F.type_str_isspace v8 hbase hline
end Mine
namespace Mine
open PySem PySem.W PyProof.Rows
variable {G:Glob} {F:Fm} {ρ ρ':List (Str×PV)} {W:List Addr} {Rs ak:List Res} {s s':Shared} {K:Frag} {C a d f:Addr} {k k':Nat} {xs:List (Str×Str)}
noncomputable def Ao (G:Glob) (F:Fm) (ρ:List (Str×PV)) (W:List Addr) (Rs:List Res) (p:PV) (b:Bool):Prop :=
 ∀ s v,St G F ρ W Rs s->Rep W s.heap p v->wpAny G.M F.A (truthy v) (λc s'=>aG G [] s s'/\c=b) (λz! z! => False) s
theorem Ao.bool {b:Bool}:Ao G F ρ W Rs (.bool b) b:=λs v S r=>t6 s v S.inv r
theorem Ao.acc {n:Nat} (ok:pN G K C) (hb:findIn K (.ref C) "__bool__"=some none) (hf:findIn K (.ref C) "__len__"=some (some (.ref f))) (ht:typeIn K (.ref f)=some (.type "function"))
  (hc:MP G f n [Res.acc C a d k xs] [.raw (.ref a)] (.int ((k':Nat):Int))) (hn:n+1<=F.n) (hk:k'<=lim)
  (hh:vc G F ρ W Rs [Res.acc C a d k xs]):Ao G F ρ W Rs (.raw (.ref a)) (decide (k'≠0)):=λs v S r=>by
 have rs:ah W s.heap [.raw (.ref a)] [v]:=by rw [ah];exact ⟨_,_,rfl,r,by rw [ah]⟩
 rw [Rep] at r;subst r
 refine ob0_3 (hh s S) λh1 h2 h3=>ob0_2 (h1 _ (So ..)) λz! az=>ob3_2 az λus c m I z! => ?_
 have hlim:lim=1048576:=by decide
 refine ob1_2 I.at_ λo I' z! => ?_
 have X:=ok.gy _ S.inv
 have key:wpAny G.M F.A (runValue (.builtin "len" ⟨[.ref a],[]⟩)) (λr s'=>aG G [] s s'/\∃ t,r = .int ((k':Nat):Int) t) (λz! z! => False) s:=by
  refine wpAny_runValue (Va entry_len ?_)
  rw [Un PySem.plain_len _]
  unfold Builtin.«len»
  refine Sl (m:=oneArg "len" _) (Sm ?_)
  refine Sl (m:=callSpecial? (.ref a) (VX "__len__")) (inst_specialF X I hf ht ?_)
  refine aF (hc F.A.in1 W s [.ref a] (S.room.mono hn).in1 S.inv S.low rs h1 h2 h3) λv s₁ zz=>zz.elim λy r=>?_
  refine ob1_1 r.isInt λt aC=>?_;obtain rfl:=aC
  dsimp only
  refine Sl (Sy (Sm ?_))
  refine Sl (wpAny_letGo ?_)
  rw [if_neg (by exact w7)]
  rw [if_neg (qL hk)]
  refine Sl (wpAny_mkInt (Sm ⟨y.trans (.of_toks G),_,rfl⟩))
 unfold truthy callSpecial? specialOf
 refine Sl (Sl (Sl (I'.type.here ((UA X hb).here (Sm ?_)))))
 refine Sl (Sl (I'.type.here ((UA X hf).here ?_)))
 rw [if_neg (by simp)]
 refine Sl (aF key λr s₁ zz=>zz.elim λy zz=>zz.elim λt e=>?_)
 subst e
 refine Sm ⟨y,?_⟩
 by_cases h:k'=0
 ·simp [h]
 ·have:((k':Int) != 0)=true:=bne_iff_ne.mpr (by exact FN h)
  rw [this];simp [h]
theorem EV.not {e:Sp} {pos:Pos} {p:PV} {b:Bool} (he:EV G F ρ W Rs e p) (ht:Ao G F ρ W Rs p b):EV G F ρ W Rs (.UnaryOp .Not e pos) (.bool (!b)):=λs S=>by
 have e0:eval (.UnaryOp .Not e pos) F.env=(do let v<-eval e F.env;standAt pos;holding [v] (unaryOp .Not v)):=rfl
 rw [e0]
 refine Sl (aF (he s S) λv s₁ zz=>zz.elim λx rx=>Sl (Tt (Sy ?_)))
 unfold unaryOp
 refine Sy ?_
 show wpAny _ _ (do let c<-truthy v;pure (Value.bool (!c))) _ _ _
 exact Sl (aF (ht s₁ v (S.step x) rx) λc s₂ zz=>zz.elim λy hc=>Sm ⟨x.trans y,by rw [hc,Rep]⟩)
theorem EV.Oq {x y:Sp} {pos:Pos} {p q:PV} {b:Bool} (hx:EV G F ρ W Rs x p) (ht:Ao G F ρ W Rs p b) (h1:b=true->EV G F ρ W Rs y q) (h2:b=false->q=p):EV G F ρ W Rs (.BoolOp .And [x,y] pos) q:=λs S=>by
 have e0:eval (.BoolOp .And [x,y] pos) F.env=boolOp pos .And [eval x F.env,eval y F.env]:=rfl
 rw [e0]
 refine Sl (aF (hx s S) λv s₁ zz=>zz.elim λst rx=>Sl (Tt (Sl (Sy ?_))))
 refine aF (ht s₁ v (S.step st) rx) λc s₂ zz=>zz.elim λst2 hc=>?_
 subst hc
 cases hb:c with
 | false=>exact Sm ⟨st.trans st2,by rw [h2 hb];exact st2.rep0 (st.inv S.inv) rx⟩
 | true=>exact aF (h1 hb s₂ ((S.step st).step st2)) λu s₃ zz=>zz.elim λst3 r=>⟨st.trans (st2.trans st3),r⟩
theorem EV.Qc {x y:Sp} {pos:Pos} {p q:PV} {b:Bool} (hx:EV G F ρ W Rs x p) (ht:Ao G F ρ W Rs p b) (h1:b=false->EV G F ρ W Rs y q) (h2:b=true->q=p):EV G F ρ W Rs (.BoolOp .Or [x,y] pos) q:=λs S=>by
 have e0:eval (.BoolOp .Or [x,y] pos) F.env=boolOp pos .Or [eval x F.env,eval y F.env]:=rfl
 rw [e0]
 refine Sl (aF (hx s S) λv s₁ zz=>zz.elim λst rx=>Sl (Tt (Sl (Sy ?_))))
 refine aF (ht s₁ v (S.step st) rx) λc s₂ zz=>zz.elim λst2 hc=>?_
 subst hc
 cases hb:c with
 | true=>exact Sm ⟨st.trans st2,by rw [h2 hb];exact st2.rep0 (st.inv S.inv) rx⟩
 | false=>exact aF (h1 hb s₂ ((S.step st).step st2)) λu s₃ zz=>zz.elim λst3 r=>⟨st.trans (st2.trans st3),r⟩
end Mine
namespace Mine
open PySem PySem.W PyProof.Rows
variable {G:Glob} {F:Fm} {ρ ρ':List (Str×PV)} {W:List Addr} {Rs ak Ro:List Res} {s s':Shared} {K:Frag} {C a d f x:Addr} {k k':Nat} {xs:List (Str×Str)} {dat:Data} {m:Str->Option Value} {name:Str} {fd:FuncData} {body:List Stmt}
theorem we (K:Frag):findIn K (.type "function") "__get__"=some (some (.builtin "function.__get__")):=by kernel_rfl
theorem v_ (K:Frag):findIn K (.type "function") "__set__"=some none:=by kernel_rfl
theorem wg (K:Frag):findIn K (.type "function") "__delete__"=some none:=by kernel_rfl
theorem findObj_fn {od:Obj} (hh:hasDictIn K C=true) (ha:findIn K (.ref C) name=some (some (.ref f))) (ht:typeIn K (.ref f)=some (.type "function")) (hc:copiedNames.contains name=false) (hl:lookIn name od=some none) :
  findObj K C (some od) name=some (.bind (.builtin "function.__get__") (.ref f)):=by
 refine ob1_2 (any_some hh) λcd hc' hd=>?_
 have ho:ownOf cd (some od) name=some none:=by unfold PySem.W.ownOf;rw [if_pos hd];exact hl
 have g1:specialIn K (.ref f) "__get__"=some (some (.builtin "function.__get__")):=by unfold specialIn;rw [ht,U0,we]
 have g2:specialIn K (.ref f) "__set__"=some none:=by unfold specialIn;rw [ht,U0,v_]
 have g3:specialIn K (.ref f) "__delete__"=some none:=by unfold specialIn;rw [ht,U0,wg]
 have g4:takesIn K (.ref f)=some false:=by unfold takesIn;rw [g2];simp only [g3];rfl
 unfold findObj
 rw [hc',U0,ha,U0]
 have hc':¬ (name∈copiedNames):=λh=>by rw [List.contains_eq_mem,decide_eq_false_iff_not] at hc;exact hc h
 simp [g1,g4,ho,hc']
theorem xr {prog:Program} {w:World} {A:Around} {E:Value->Shared->Prop} {expr:Bool} {Q:Value->Shared->Prop} (X:K.In s.heap) (I:au s.heap x d C dat m) (hga:findIn K (.ref C) "__getattribute__"=some (some (.builtin "list.__getattribute__"))) (hh:hasDictIn K C=true)
  (hgt:findIn K (.ref C) "__getattr__"=some none) (hsub:mroIn K C (.type "list")=some true)
  (ha:findIn K (.ref C) name=some (some (.ref f))) (ht:typeIn K (.ref f)=some (.type "function")) (hc:copiedNames.contains name=false) (hm:m name=none)
  (h:Q (.ref s.heap.objs.size) {s with heap:=s.heap.push (methodObj (.ref f) (.ref x)),toks:=s.toks+1}):wpAny (model prog w) A (getAttr (.ref x) name expr) Q E s:=by
 refine ob1_2 I.at_ λo I' hl=>?_
 have hf:=findObj_fn hh ha ht hc (od:=o) (by rw [hl,hm])
 obtain ⟨hp,g,dr,t,os⟩:=s
 have L0:=I'.type (M:=model prog w)
 have L1:=UA (M:=model prog w) X hga
 have L2:=UA (M:=model prog w) X hgt
 have L3:=looks_find (M:=model prog w) X I' hf
 have L4:Looks (model prog w) hp (isInstance (.ref x) (.type "list")) true:=L0.andThen (Wn X hsub)
 unfold getAttr getAttrBy
 refine Sl (wpAny_mkText (Sy (Sl (L0.at (Sl (L1.at ?_))))))
 dsimp only
 rw [show (onTheHeap (.ref C) && (Vs "list.__getattribute__" == Vs "object.__getattribute__"))=false by rw [show (Vs "list.__getattribute__" == Vs "object.__getattribute__")=false by decide +kernel];rfl]
 rw [if_neg (by decide)]
 unfold getAttrByItsOwn
 refine Sl (L2.at ?_)
 refine Sl (U_ (Sy ?_))
 show wpAny _ _ (callGetattribute _ _ _ _) _ _ _
 unfold callGetattribute
 rw [if_neg (by simp [onTheHeap])]
 unfold boundAndCalled
 refine Sl (TU (rt _) ?_)
 show wpAny _ _ (call (.builtin "list.__getattribute__") [.ref x,.str name t]) _ _ _
 refine UO (Ui WT.plain am_entry_list_getattribute (@check_slot (model prog w) _ _ _ "list.__getattribute__" "list" "__getattribute__" (.ref x) [.str name t] [] _ qF nD L4 (PySem.F.args_list_getattribute_2 _ _) ?_))
 unfold Builtin.«object.__getattribute__»
 refine Sl (Sm (Sl (Sm (Sl (L0.at (Sl (L3.at ?_)))))))
 show wpAny _ _ (holding [Vp f] (call (.builtin "function.__get__") [.ref f,.ref x,.ref C]) >>= ret) _ _ _
 refine Sl (Sy (UO (fn_get X ht ?_)))
 refine Sm ?_
 show wpAny _ _ (handedOut _) _ _ _
 rw [handedOut_of rfl];exact Sm h
end Mine
namespace Mine
open PySem PySem.W PyProof.Rows
variable {G:Glob} {F:Fm} {ρ ρ':List (Str×PV)} {W:List Addr} {Rs ak Ro:List Res} {s s':Shared} {K:Frag} {C a d f x:Addr} {k k':Nat} {xs:List (Str×Str)} {dat:Data} {m:Str->Option Value} {name:Str} {fd:FuncData} {body:List Stmt}
noncomputable abbrev CC (G:Glob) (f:Addr) (n:Nat) (Rs ak:List Res) (ps:List PV) (q:PV):Prop:=CN G f n Rs ps q (λW W' R=>W'=W/\R=ak)
theorem CC.mc {n:Nat} {ps:List PV} {q:PV} (h:CC G f n Rs ak ps q) (hadr:ak.flatMap (·.addrs)=Rs.flatMap (·.addrs):=by rfl):MC G f n Rs ak ps q:=λA W s vs hA iv low rs h1 h2 h3=>by
 refine UO (Wf (h A W s vs hA iv low rs h1 h2 h3) λr s' hr=>?_)
 match r,hr with
 | .ok (.ret v),hr =>
  refine ob2_3 hr λW' R aA N hr2=>ob0_2 aA λbM aC=>?_;obtain rfl:=bM;obtain rfl:=aC
  refine ⟨N.stp,N.res,λb hb=>?_,hr2⟩
  rw [<- hadr] at hb
  refine ob1_2 (SX.mp hb) λr' hr' hb=>?_
  exact (N.low b (N.own r' hr' b hb).1).2
 | .ok .next,hr=>exact hr.elim
 | .ok .brk,hr=>exact hr.elim
 | .ok .cont,hr=>exact hr.elim
 | .error e,hr=>exact hr.elim
theorem CC.of {n:Nat} {ps ps':List PV} {q:PV} (ok:bQ G f fd body) {names:List Str}
  (hb:∀ s W vs,G.inv s.heap->ah W s.heap ps vs->∃ vs',BindsTo s fd ⟨vs,[]⟩ (names.zip vs')/\ah W s.heap ps' vs') (hlen:names.length=ps'.length)
  (hnm:∀ x∈names,fd.scope.names.lookup x=some .local\/fd.scope.names.lookup x=some .cell)
  (h:∀ A W s L,cF A (n+1)->XS G (bu fd f A s L n (Rs.flatMap (·.addrs))) (names.zip ps').reverse W Rs body (λfl s'=>(∃ ρ,St G (bu fd f A s L n (Rs.flatMap (·.addrs))) ρ W ak s')/\Rep W s'.heap q (match fl with | .ret v=>v | _=>.none))) :
  CC G f (n+1) Rs ak ps q :=
 CN.of ok hb hlen hnm (λW W' R h=>by refine ob0_2 h λbM aC=>?_;obtain rfl:=bM;obtain rfl:=aC;exact ⟨λb h=>h,λb h=>.inl h⟩) λA W s L hA=>λs₀ wK=>aF (h A W s L hA s₀ wK) λfl s' zz=>zz.elim λzz=>zz.elim λρ S r=>⟨W,ak,ρ,⟨rfl,rfl⟩,S,r⟩
theorem CC.mJ {n:Nat} {ps ps':List PV} {q:PV} (ok:bQ G f fd body) {names:List Str}
  (hb:∀ s W vs,G.inv s.heap->ah W s.heap ps vs->∃ vs',BindsTo s fd ⟨vs,[]⟩ (names.zip vs')/\ah W s.heap ps' vs') (hlen:names.length=ps'.length)
  (hnm:∀ x∈names,fd.scope.names.lookup x=some .local\/fd.scope.names.lookup x=some .cell)
  (h:∀ A W s L,cF A (n+1)->jE G (bu fd f A s L n (Rs.flatMap (·.addrs))) (.func body (dK fd f L)) (names.zip ps').reverse W Rs body (λfl s'=>∃ W' R ρ,(W'=W/\R=ak)/\St G (bu fd f A s L n (Rs.flatMap (·.addrs))) ρ W' R s'/\Rep W' s'.heap q (match fl with | .ret v=>v | _=>.none))) :
  CC G f (n+1) Rs ak ps q :=
 CN.mJ ok hb hlen hnm (λW W' R h=>by refine ob0_2 h λbM aC=>?_;obtain rfl:=bM;obtain rfl:=aC;exact ⟨λb h=>h,λb h=>.inl h⟩) h
noncomputable def Bound (G:Glob) (F:Fm) (ρ:List (Str×PV)) (W:List Addr) (Rs:List Res) (name:Str) (a f:Addr):Prop :=
 ∀ s,St G F ρ W Rs s->∀ (Q:Value->Shared->Prop) (E:Value->Shared->Prop),(∀ q h' t,G.base.objs.size<=q->h'.get? q=some (methodObj (.ref f) (.ref a))->(∀ b o,s.heap.get? b=some o->h'.get? b=some o)->Q (.ref q) {s with heap:=h',toks:=t}) ->
  wpAny G.M F.A (getAttr (.ref a) name true) Q E s
theorem Bound.acc (ok:pN G K C) (kn:bx G F ρ W Rs (dM C a d k xs)) (hf:findIn K (.ref C) name=some (some (.ref f))) (ht:typeIn K (.ref f)=some (.type "function")) (hc:copiedNames.contains name=false) (hn:name≠("_initial_size":Str)):Bound G F ρ W Rs name a f:=λs S Q E q=>by
 refine ob0_2 (kn s S) λz! az=>ob3_4 az λvs c m I z! hm2 z! => ?_
 exact xr (ok.gy _ S.inv) I ok.ga ok.hd ok.gt ok.sub hf ht hc (hm2 _ hn) (q _ _ _ (aS S.inv) (SH _ rfl) λb o e=>Sw _ e)
theorem xQ {its:List Value} {t:Addr} {M:Model} {E:Value->Shared->Prop} {A:Around} {Q:List Value->Shared->Prop} (ht:C7 s.heap t its) (hz:its.length<=sizeLine) (h:∀ h',(∀ b o,s.heap.get? b=some o->h'.get? b=some o)->Q its {s with heap:=h'}):StarOf G.M A E (.ref t) Q s:=by
 refine ob1_1 ht λn D=>?_
 have pM:s.TypeIs (.ref t) "tuple":=⟨_,D,rfl⟩
 have z:wpAny G.M A (collect (.ref t)) Q E s:=wpAny_collect_seq t (.inr rfl) D rfl rfl (λh' hk=>by simpa using h h' hk) (by simpa using hz)
 unfold StarOf notIterableAtAll
 exact Sl (W5 pM PySem.F.slot_tuple_iter.lookup (Sm ⟨rfl,z⟩))
theorem ER.zR {o e:Sp} {apos pos sp:Pos} {ps:List PV} {q:PV} {n:Nat} (ho:EV G F ρ W (Rs++Ro) o (.raw (.ref a))) (he:EV G F ρ W (Rs++Ro) e (.tup ps)) (gy:∀ h,G.inv h->K.In h) (hf:Bound G F ρ W (Rs++Ro) name a f) (hfn:fnIn K f=true)
  (hc:CC G f n Rs ak (.raw (.ref a)::ps) q) (hn:n<=F.n)
  (hbase:attributeBase o name F.env (eval o F.env)=eval o F.env:=by rfl)
  (hst:starEach [.Starred e sp] F.env=[(true,eval e F.env)]:=by rfl) :
  ER G F ρ W (Rs++Ro) (.Call (.Attribute o name apos) [.Starred e sp] [] pos) q (ak++Ro):=λs S=>by
 rw [arm_eval_Call,hbase]
 refine Sl (aF (ho s S) λv s₁ zz=>zz.elim λy r=>?_)
 rw [Rep] at r;subst r
 have S₁:=S.step y
 refine Sl (Tt ?_)
 have qO:methodCallForm ([PySem.Expr.Starred e sp].length+([]:List Keyword).length) (backTo pos (starEach [.Starred e sp] F.env)) (backToKw pos (keywordEach [] F.env))=false:=by rw [hst];rfl
 unfold methodCall
 rw [qO]
 refine Sl (Sy ?_)
 unfold calleeOf
 rw [if_neg (by decide)]
 refine Sl (hf s₁ S₁ _ _ λq' h' t QL hq kp=>Sm ?_)
 dsimp only
 have st:aG G [] s₁ {s₁ with heap:=h',toks:=t}:=aG.of_keeps G kp
 have S₂:=S₁.step st
 refine Sl (m:=methodCallPos false o F.env apos pos) (Sm ?_)
 rw [hst]
 refine ks_call (P:=MethP K q' f (.ref a)) rfl (keeps_M hfn) ?_
 refine ks_lone (aF (he _ S₂) λv s₃ zz=>zz.elim λz rv=>?_)
 have aT:=S₂.step z
 refine ob0_2 rv.isTup λhl az=>ob2_4 az λt' its bq ht' QE rs=>?_;obtain rfl:=bq
 have hz:=rs.length
 refine xQ (M:=G.M) QE (by rw [hz];exact Sn hl (by decide)) λh₃ CL=>?_
 have nc:aG G [] s₃ {s₃ with heap:=h₃}:=aG.of_keeps G (t:=s₃.toks) CL
 have bZ:=aT.step nc
 have CQ:h₃.get? q'=some (methodObj (.ref f) (.ref a)):=by
  exact CL _ _ (z.keep _ _ (by simp) (bk QL) hq)
 refine ⟨⟨CQ,gy _ bZ.inv⟩,?_⟩
 refine ob0_3 bZ.AK λh1 h2 h3=>?_
 refine UO (method_call CQ (Wf (hc F.A W _ (.ref a::its) (bZ.room.mono hn) bZ.inv bZ.low (by rw [ah];exact ⟨_,_,rfl,by rw [Rep],nc.jH aT.inv rs⟩) h1 h2 h3) λr s₅ hr=>?_))
 match r,hr with
 | .ok (.ret v),hr =>
  refine ob2_3 hr λW' R aA N hr2=>ob0_2 aA λbM aC=>?_;obtain rfl:=bM;obtain rfl:=aC
  exact ⟨bZ.m9 N,hr2⟩
 | .ok .next,hr=>exact hr.elim
 | .ok .brk,hr=>exact hr.elim
 | .ok .cont,hr=>exact hr.elim
 | .error e,hr=>exact hr.elim
end Mine
namespace Mine
open PySem PySem.W PyProof.Rows
variable {G:Glob} {F:Fm} {ρ ρ':List (Str×PV)} {W:List Addr} {Rs ak Ro Rt:List Res} {s s':Shared} {K:Frag} {C a d f x:Addr} {k k':Nat} {dat:Data} {m:Str->Option Value} {name:Str} {fd:FuncData} {body:List Stmt}
theorem ER.perm {e:Sp} {q:PV} (p:Rs.Perm Ro) (h:ER G F ρ W Ro e q Rt) (p':Rt.Perm ak):ER G F ρ W Rs e q ak:=λs S=>aF (h s (S.perm p)) λv s' zz=>zz.elim λS' r=>⟨S'.perm p',r⟩
theorem ER.append {o e:Sp} {apos pos:Pos} {p:PV} {xs:List PV} (ho:EV G F ρ W (Res.lst a xs::Rs) o (.raw (.ref a))) (he:EV G F ρ W (Res.lst a xs::Rs) e p) (hl:xs.length+1<=lim)
  (hbase:attributeBase o "append" F.env (eval o F.env)=eval o F.env:=by rfl)
  (hfew:((backTo pos (starEach [e] F.env)).all (λx => !x.1) && (backToKw pos (keywordEach [] F.env)).all (λx=>x.1.isSome)
   && decide ([e].length+([]:List Keyword).length+(if ([]:List Keyword).isEmpty then 0 else 1)<30))=true:=by rfl)
  (hst:backTo pos (starEach [e] F.env)=[e].map (λe=>(false,eval e F.env)):=by rfl)
  (hline:(apos.endLine == pos.line)=true:=by rfl) :
  ER G F ρ W (Res.lst a xs::Rs) (.Call (.Attribute o "append" apos) [e] [] pos) .none (Res.lst a (xs++[p])::Rs):=λs S=>by
 refine Ut hbase hfew hline (aF (ho s S) λv s₁ zz=>zz.elim λy r=>?_)
 rw [Rep] at r;subst r
 have S₁:=S.step y
 refine ob0_2 (S₁.res _ (So ..)) λz! az=>ob1_2 az λus bh z! =>ob1_1 bh λn e1=>?_
 rw [hst]
 refine ⟨"list","list.append",XW,XD,XE,⟨_,e1,rfl⟩,(λa' e=>by cases e;exact ⟨_,e1,rfl⟩),?_⟩
 refine TM (noStar _) ?_
 refine TF (aF (aW.cons he .nil s₁ S₁) λvs s₂ zz=>zz.elim λz rs=>?_)
 refine ob1_2 rs.one λv aC rv=>?_;obtain rfl:=aC
 refine aF ((S₁.step z).append rv hl) λu s₃ zz=>zz.elim λhu zz=>zz.elim λaT z! => ⟨aT,by rw [Rep];exact hu⟩
theorem EV.A8 {o e:Sp} {apos pos:Pos} {sep:Str} {ys:List Str} (ho:EV G F ρ W Rs o (.str sep)) (h:EV G F ρ W Rs e (.raw (.ref a))) (hr:Res.lst a (ys.map .str)∈Rs) (hb:(ys.map (·.length)).sum+ys.length * sep.length<=lim)
  (hbase:attributeBase o "join" F.env (eval o F.env)=eval o F.env:=by rfl)
  (hfew:((backTo pos (starEach [e] F.env)).all (λx => !x.1) && (backToKw pos (keywordEach [] F.env)).all (λx=>x.1.isSome)
   && decide ([e].length+([]:List Keyword).length+(if ([]:List Keyword).isEmpty then 0 else 1)<30))=true:=by rfl)
  (hst:backTo pos (starEach [e] F.env)=[e].map (λe=>(false,eval e F.env)):=by rfl)
  (hline:(apos.endLine == pos.line)=true:=by rfl) :
  EV G F ρ W Rs (.Call (.Attribute o "join" apos) [e] [] pos) (.str (SP sep ys)) :=
 EV.nC ho (.cons h .nil) W8 W9 (λs t vs S z! rs=>by
  refine ob1_2 rs.one λv aC r=>?_;obtain rfl:=aC
  rw [Rep] at r;subst r
  refine ob0_2 (S.res _ hr) λhl az=>ob1_2 az λus bh ru=>ob1_1 bh λn e=>?_
  refine join_list (items:=us.toArray) (ys:=ys) ⟨_,e,rfl,n,rfl⟩ (by simpa using ru.strs) (Sn hb (by decide)) λt' k=>?_
  have:=X0 sep ys
  rw [show Txt.join sep ys=SP sep ys from Wz sep ys]
  exact ⟨.of_toks G,Rep.str (Sn this hb)⟩) (by simp) hbase hfew hst hline
end Mine
namespace Mine
open PySem PySem.W PyProof.Rows
variable {G:Glob} {s s':Shared} {a:Addr} {ks:List Str} {k:Str} {A:Around} {E:Value->Shared->Prop}
noncomputable def fY:Value->Str
 | .str x _=>x
 | _=>""
noncomputable def bY (G:Glob):Bool:=G.w.params.followText "set-order"
noncomputable abbrev Glob.sk (G:Glob):PySem.KeyKind G.prog G.w Str:=PySem.strKind G.prog G.w
noncomputable def d_ (G:Glob) (h:Heap) (a:Addr) (ks:List Str):Prop :=
 ∃ o es ep t,h.get? a=some o/\o.ExactSet/\o.data = .set es ep t/\ElemsOf G.sk es.toList/\(es.toList.map λe=>fY e.2).Perm ks/\ks.Nodup/\es.size<scanBound/\t.fits es.size=true /\
  t.led=(!bY G)/\(es.size=0\/t.plain=false)
theorem qG (t:SetTable) (n:Nat):(t.orStandIn n).led=t.led:=by unfold SetTable.orStandIn;split <;> rfl
theorem sY (t:SetTable) (es:Array (Int×Value)) (h:Int) (x:Value):(layNew t es h x).2.1.led=t.led:=by
 unfold layNew
 split
 ·exact qG _ _
 ·rfl
theorem sE {t t':SetTable} {hs:Array Int} {n:Nat} {o:Array Nat} (h:t.relaid hs n=some (t',o)):t'.led=t.led/\t'.plain=t.plain:=by
 unfold SetTable.relaid SetTable.laid at h
 simp only [Option.bind_eq_bind,Option.pure_def] at h
 refine ob1_2 (Option.bind_eq_some_iff.mp h) λowner z! h=>?_
 cases h
 exact ⟨rfl,rfl⟩
theorem oA (t:SetTable) (es:Array (Int×Value)) (n:Nat):(relayAll t es n).2.1.led=t.led/\(t.plain=false->(relayAll t es n).2.1.plain=false):=by
 unfold relayAll
 split
 ·rename_i t' order hr
  refine ob0_2 (sE hr) λh1 h2=>?_
  dsimp only
  split
  ·exact ⟨h1,λh=>h2.trans h⟩
  ·exact ⟨rfl,λz! => rfl⟩
 ·exact ⟨rfl,λz! => rfl⟩
noncomputable def iy (ks:List Str) (k:Str):List Str:=if k∈ks then ks else ks++[k]
theorem z6 (ks:List Str) (k:Str):(iy ks k).length<=ks.length+1:=by unfold iy;split <;> simp
theorem nG {k:Str} {v:Value}:Value.isStrOf k v=true->fY v=k:=λh=>by
 refine ob1_1 (Value.isStrOf_shape h) λt aC=>?_;obtain rfl:=aC;rfl
theorem vX {es:List (Int×Value)} (hel:ElemsOf G.sk es) {e:Int×Value} (he:e∈es):G.sk.is (fY e.2) e.2=true:=by
 refine ob0_2 (hel e he) λbM z! =>ob1_2 bM λk hk z! => ?_
 have:=nG hk
 rw [this];exact hk
theorem tZ {b:Bool} {Q:Unit->Shared->Prop} (q:Q () s):wpAny G.M A (match b with | true=>rule "set.scan.the-table-gave-way" | false=>pure ()) Q E s:=by
 cases b
 ·exact Sm q
 ·exact Vi q
theorem d_.stored {o:Obj} {es:Array (Int×Value)} {ep:Nat} {t:SetTable} {h:Heap} (ho:h.get? a=some o) (hex:o.ExactSet) (hd:o.data = .set es ep t) {es':Array (Int×Value)} {t':SetTable}
  (hel:ElemsOf G.sk es'.toList) (hp:(es'.toList.map λe=>fY e.2).Perm ks) (nd:ks.Nodup) (hb:es'.size<scanBound) (hf:t'.fits es'.size=true) (hl:t'.led=(!bY G)) (hpl:t'.plain=false) :
  (h.update a (Obj.putSet es' t')).get? a=some {o with data:=.set es' (ep+1) t'}/\d_ G (h.update a (Obj.putSet es' t')) a ks:=by
 have hg:(h.update a (Obj.putSet es' t')).get? a=some {o with data:=.set es' (ep+1) t'}:=by
  have:=VT (Obj.putSet es' t') ho (by rw [putSet_of es' t' hd];rfl)
  rw [putSet_of es' t' hd] at this;exact this
 exact ⟨hg,_,es',ep+1,t',hg,hex,rfl,hel,hp,nd,hb,hf,hl,.inr hpl⟩
theorem vm {t:Tok} {Q:Bool->Shared->Prop} (hS:d_ G s.heap a ks) (hroom:ks.length+1<scanBound)
  (h:∀ b h' tk,Uq a s.heap h'->d_ G h' a (iy ks k)->Q b {s with heap:=h',toks:=tk}):wpAny G.M A (setAdd a (.str k t)) Q E s:=by
 refine ob4_10 hS λo es ep tb ho hex hd hel hp nd hb hf hl hpl=>?_
 have hn:es.size=ks.length:=by rw [<- hp.length_eq,Sq,Ud]
 have hkey:G.sk.is k (.str k t)=true:=by show Value.isStrOf k (.str k t)=true;simp [Value.isStrOf]
 have hsc:(Yd k t).scannable=true:=rfl
 unfold setAdd
 refine Sy (Sl (G.sk.pyHash hkey ?_))
 unfold setAddHashed setAddHashedIn
 refine Sy (Sl (wpAny_setState_of (s:={s with toks:=s.toks+1}) ho hd hf ?_))
 dsimp only
 rw [byScan_of hsc hb hel]
 simp only [if_true]
 unfold setAddByScan
 refine Sl (Sl (Vi (Sl (wpAny_setScan_of (s:={s with toks:=s.toks+1}) hkey ho hd hf hel ?_))))
 cases hr:List.findIdx? (λe=>G.sk.is k e.2) es.toList with
 | some j =>
  refine ob1_2 (List.findIdx?_eq_some_iff_getElem.mp hr) λhj QM z! => ?_
  have hmem:k∈ks:=by
   refine hp.mem_iff.mp (S7.mpr ⟨es.toList[j],UW hj,nG QM⟩)
  dsimp only
  refine Sm (Sm (h _ s.heap _ (Heap.SameBut.refl ..) ?_))
  rw [iy,if_pos hmem]
  exact ⟨o,es,ep,tb,ho,hex,hd,hel,hp,nd,hb,hf,hl,hpl⟩
 | none =>
  have hmem:k∉ks:=λhm=>by
   refine ob1_2 (S7.mp (hp.mem_iff.mpr hm)) λe he hk=>?_
   have:=List.findIdx?_eq_none_iff.mp hr e he
   have h2:=vX hel he
   rw [hk] at h2
   rw [h2] at this;cases this
  dsimp only
  have dJ:=layNew_perm tb es (G.sk.hash k) (.str k t)
  have uy:=layNew_fits tb es (G.sk.hash k) (.str k t)
  have Be:=sY tb es (G.sk.hash k) (.str k t)
  generalize layNew tb es (G.sk.hash k) (.str k t)=L at dJ uy Be ⊢
  obtain ⟨es1,t1,wasDummy,RD⟩:=L
  dsimp only at dJ uy Be ⊢
  rw [WH] at dJ
  have hel1:ElemsOf G.sk es1.toList:=(hel.push hkey hsc).perm dJ
  have hsz1:es1.size=ks.length+1:=by rw [<- Ud,dJ.length_eq,SY,Ud,hn];rfl
  have hp1:(es1.toList.map λe=>fY e.2).Perm (ks++[k]):=(dJ.map _).trans (by rw [Ti];exact hp.append (.refl _))
  have ON:(ks++[k]).Nodup:=by rw [UL];exact ⟨nd,by simp,λx hx y hy e=>by rw [SG] at hy;subst hy;subst e;exact hmem hx⟩
  have hb1:es1.size<scanBound:=by exact FW hroom hb hn hsz1
  rw [iy,if_neg hmem] at h
  refine Sl (tZ ?_)
  have tail:∀ t2:SetTable,t2.fits es1.size=true->t2.led=(!bY G)->t2.plain=false->wpAny G.M A (do
    storeSet a es1 t2
    if (!wasDummy && t2.tooFull)=true then do
      (match (relayAll t2 es1 (WU es1.size)).2.2 with | true=>rule "set.scan.the-table-gave-way" | false=>pure ())
      storeSet a (relayAll t2 es1 (WU es1.size)).1 (relayAll t2 es1 (WU es1.size)).2.1
      pure (some true)
     else pure (some true)) (λr s'=>r=some true/\∃ h' tk,s'={s with heap:=h',toks:=tk}/\Uq a s.heap h'/\d_ G h' a (ks++[k])) E {s with toks:=s.toks+1}:=by
   intro t2 hf2 hl2 JF
   refine Sl (wpAny_storeSet_of (s:={s with toks:=s.toks+1}) ho hd ?_ (fits_of_scanBound hb1))
   refine ob0_2 (d_.stored (G:=G) (h:=s.heap) ho hex hd hel1 hp1 ON hb1 hf2 hl2 JF) λJG Rr=>?_
   have JB:=Uc s.heap a (Obj.putSet es1 t2)
   split
   ·have hp2:=relayAll_perm t2 es1 (WU es1.size)
    have NK:=relayAll_fits t2 es1 (WU es1.size)
    have hl3:=oA t2 es1 (WU es1.size)
    generalize relayAll t2 es1 (WU es1.size)=Rl at hp2 NK hl3 ⊢
    obtain ⟨Pw,t3,Pp⟩:=Rl
    dsimp only at hp2 NK hl3 ⊢
    have hsz2:Pw.size=es1.size:=by rw [<- Ud,hp2.length_eq,Ud]
    refine Sl (tZ ?_)
    refine Sl (wpAny_storeSet_of (s:={s with heap:=s.heap.update a (Obj.putSet es1 t2),toks:=s.toks+1}) JG rfl ?_ (fits_of_scanBound (by exact B0 hroom hb hn hsz1 hsz2)))
    refine ob0_2 (d_.stored (G:=G) (ks:=ks++[k]) JG hex rfl (hel1.perm hp2) ((hp2.map _).trans hp1) ON (by exact B0 hroom hb hn hsz1 hsz2:Pw.size<scanBound) NK (hl3.1.trans hl2) (hl3.2 JF)) λz! Rq=>?_
    exact Sm ⟨rfl,_,_,rfl,JB.trans (Uc _ a _),Rq⟩
   ·exact Sm ⟨rfl,_,_,rfl,JB,Rr⟩
  have fin:∀ {r:Option Bool} {s₂:Shared},(r=some true/\∃ h' tk,s₂={s with heap:=h',toks:=tk}/\Uq a s.heap h'/\d_ G h' a (ks++[k]))->wpAny G.M A (match r with | some added=>pure added | none=>setAddHashedIn a (.str k t) (G.sk.hash k) 99999) Q E s₂:=by
   rintro r s₂ ⟨rfl,h',tk,rfl,h1,h2⟩
   exact Sm (h _ h' tk h1 h2)
  split
  ·rename_i O5
   refine Sl (TU (hashByValue_scannable 8 hsc) ?_)
   refine Vf (tail {t1 with plain:=false} (SetTable.fits_plain_off uy) (Be.trans hl) rfl) (λr s₂ hr=>fin hr) λz! z! e=>e
  ·rename_i O5
   refine Sl (Sm ?_)
   refine Vf (tail t1 uy (Be.trans hl) (by simpa using O5)) (λr s₂ hr=>fin hr) λz! z! e=>e
end Mine
namespace Mine
open PySem PySem.W PyProof.Rows
open PySem.Builtin
variable {G:Glob} {s s':Shared} {a b I T:Addr} {ks:List Str} {k:Str} {A:Around} {E:Value->Shared->Prop}
theorem j8:entryFor table "set.__iter__"=some Builtin.«frozenset.__iter__» := entryFor_alias (id':="frozenset.__iter__") (by kernel_rfl) rfl (by decide +kernel) (by kernel_rfl)
theorem aK:Slot "set_iterator" "__next__" "set_iterator.__next__" :=
 .of (owner:="set_iterator") (n:="__next__") (by rw [Uj,TG];kernel_rfl) (by decide +kernel) (by decide +kernel) (by decide +kernel)
  (by first | exact .inl (by decide +kernel) | exact .inr (by decide +kernel)) (by rw [WQ];kernel_rfl)
theorem bX:entryFor table "set_iterator.__next__"=some Builtin.«set_iterator.__next__» := WR (by kernel_rfl)
theorem cB (a:Value):argsOk "set_iterator.__next__" ⟨[a],[]⟩:=by unfold argsOk;kernel_rfl
theorem pD (a:Value):argsOk "set_iterator.__iter__" ⟨[a],[]⟩:=by unfold argsOk;kernel_rfl
theorem mQ:entryFor table "set_iterator.__iter__"=some Builtin.«dict_keyiterator.__iter__» := entryFor_alias (id':="dict_keyiterator.__iter__") (by kernel_rfl) rfl (by decide +kernel) (by kernel_rfl)
theorem iH:Slot "set_iterator" "__iter__" "set_iterator.__iter__" :=
 .of (owner:="set_iterator") (n:="__iter__") (by rw [Uj,TG];kernel_rfl) (by decide +kernel) (by decide +kernel) (by decide +kernel)
  (by first | exact .inl (by decide +kernel) | exact .inr (by decide +kernel)) (by rw [WQ];kernel_rfl)
noncomputable def bA (first:Value) (i:Int) (it:Value) (n ep:Nat):Obj:={cls:=.type "set_iterator",dict:=none,data:=.fields #[first,.int i 0,it,.int n 0,.int ep 0],slots:=#[]}
structure cU (h:Heap) (b:Addr) (es:Array (Int×Value)) (ep:Nat) (t:SetTable):Prop where
 at_:∃ o,h.get? b=some o/\o.data = .set es ep t
 fit:t.fits es.size=true
theorem cU.state {es:Array (Int×Value)} {ep:Nat} {t:SetTable} {Q:(Array (Int×Value)×Nat×SetTable)->Shared->Prop} (S:cU s.heap b es ep t) (h:Q (es,ep,t) s):wpAny G.M A (setState b) Q E s:=by
 refine ob1_2 S.at_ λo ho hd=>?_
 exact wpAny_setState_of ho hd S.fit h
theorem cU.keeps {h h':Heap} {es:Array (Int×Value)} {ep:Nat} {t:SetTable} (S:cU h b es ep t) (k:∀ o,h.get? b=some o->h'.get? b=some o):cU h' b es ep t :=
 let ⟨o,ho,hd⟩:=S.at_;⟨⟨o,k o ho,hd⟩,S.fit⟩
theorem AG {first:Value} {i:Int} {it:Value} {n ep:Nat} {Q:Value->Shared->Prop} (hI:s.heap.get? I=some (bA first i it n ep)) (h:Q (.ref I) s):wpAny G.M A (pyIter (.ref I)) Q E s:=by
 have hT:s.TypeIs (.ref I) "set_iterator":=⟨_,hI,rfl⟩
 refine wpAny_pyIter_slot hT iH (UK iH hT mQ ?_ (pD _))
 show wpAny _ _ (ret (.ref I)) _ _ s
 exact Sm ⟨_,rfl,"set_iterator",_,hT,aK.lookup,h⟩
theorem eT {h:Heap} {vs:Array Value} {j:Nat} {x:Value} (hI:h.get? I=some {cls:=.type "set_iterator",dict:=none,data:=.fields vs,slots:=#[]}) (hj:j<vs.size) :
  (h.update I (Obj.mapFields (·.setIfInBounds j x))).get? I=some {cls:=.type "set_iterator",dict:=none,data:=.fields (vs.setIfInBounds j x),slots:=#[]} :=
 VT _ hI rfl
theorem xU {i n ep:Nat} {Q:Option Value->Shared->Prop} (hI:s.heap.get? I=some (bA (.ref T) i (.ref b) n ep)) {es:Array (Int×Value)} {t:SetTable} (S:cU s.heap b es ep t) (hn:es.size=n)
  {ord:List Nat} {j:Nat} {hv:Int} {x:Value} (NS:C7 s.heap T (ord.map λ(i:Nat)=>rawInt i)) (hi:ord[i]? = some j) (hj:es[j]? = some (hv,x))
  (hQ:∀ h',h'.get? I=some (bA (.ref T) ((i+1:Nat):Int) (.ref b) n ep)->Uq I s.heap h'->Q (some x) {s with heap:=h'}):wpAny G.M A (pyNext (.ref I)) Q E s:=by
 have hT:s.TypeIs (.ref I) "set_iterator":=⟨_,hI,rfl⟩
 unfold pyNext
 refine Sl (U_ (UJ (name:=VX "__next__") hT aK (UK aK hT bX ?_ (cB _))))
 unfold Builtin.«set_iterator.__next__»
 refine Sl (m:=slotArgs "__next__" 0 _) (Sm ?_)
 refine Sl (WS hI rfl ?_)
 dsimp only
 unfold setEntries
 refine Sl (Sl (S.state (Sm ?_)))
 refine To (by simp [hn]) ?_
 refine ob1_1 NS λnt NT=>?_
 refine Sl (Vr NT rfl ?_)
 have e:(ord.map λ(i:Nat)=>rawInt i).toArray[((i:Nat):Int).toNat]? = some (rawInt j):=by simp [hi]
 dsimp only
 rw [e]
 show wpAny _ _ (setNextDrawn b ((j:Nat):Int).toNat ((ep:Nat):Int).toNat >>= _) _ _ _
 unfold setNextDrawn
 refine Sl (Sl (S.state ?_))
 dsimp only
 refine To (by simp) ?_
 simp only [Vl,hj]
 refine Sm ?_
 refine Sl (Vt hI rfl (S1 rfl) (Sm ⟨_,rfl,Sm (hQ _ ?_ (Uc ..))⟩))
 have:=eT (I:=I) (vs:=#[.ref T,.int i 0,.ref b,.int n 0,.int ep 0]) (j:=1) (x:=rawInt (((i:Nat):Int)+1)) hI (S1 rfl)
 rw [this]
 rfl
theorem ou {i n ep:Nat} {Q:Option Value->Shared->Prop} (hh:A.handled=none) (hI:s.heap.get? I=some (bA (.ref T) i (.ref b) n ep)) {es:Array (Int×Value)} {t:SetTable} (S:cU s.heap b es ep t) (hn:es.size=n)
  {ord:List Nat} (NS:C7 s.heap T (ord.map λ(i:Nat)=>rawInt i)) (hi:ord[i]? = none)
  (hQ:∀ h',Vm I s.heap h'->Q none {s with heap:=h'}):wpAny G.M A (pyNext (.ref I)) Q E s:=by
 have hT:s.TypeIs (.ref I) "set_iterator":=⟨_,hI,rfl⟩
 unfold pyNext
 refine Sl (U_ (UJ (name:=VX "__next__") hT aK (UK aK hT bX ?_ (cB _))))
 unfold Builtin.«set_iterator.__next__»
 refine Sl (m:=slotArgs "__next__" 0 _) (Sm ?_)
 refine Sl (WS hI rfl ?_)
 dsimp only
 unfold setEntries
 refine Sl (Sl (S.state (Sm ?_)))
 refine To (by simp [hn]) ?_
 refine ob1_1 NS λnt NT=>?_
 refine Sl (Vr NT rfl ?_)
 have e:(ord.map λ(i:Nat)=>rawInt i).toArray[((i:Nat):Int).toNat]? = none:=by
  simp only [Vl,W7,S9,hi,Option.map_none]
 dsimp only
 rw [e]
 refine Sl (Vt hI rfl (S1 rfl) ?_)
 have p1:=eT (I:=I) (vs:=#[.ref T,.int i 0,.ref b,.int n 0,.int ep 0]) (j:=0) (x:=rawInt 0) hI (S1 rfl)
 refine Sl (Vt (s:={s with heap:=_}) p1 rfl (S1 rfl) ?_)
 refine j9 (s:={s with heap:=_}) hh λe h' kp Em=>?_
 refine Sl (UZ (T:="StopIteration") (b:=true) Em isSubtype_stop ?_)
 exact Sm (hQ _ λb' o hb e=>kp _ _ ((Uc ..).extBut b' o hb ((Uc ..).extBut b' o hb e)))
theorem ir {α:Type}:∀ (l:List α) (i:Nat) (h:i<l.length),(l[i]::l.eraseIdx i).Perm l
 | x::l,0,_=>.refl _
 | x::l,i+1,h=>by
  show (l[i]'(by simpa using h)::x::l.eraseIdx i).Perm (x::l)
  exact (List.Perm.swap ..).trans ((ir l i (by simpa using h)).cons x)
theorem ue {α:Type} (next:Nat->Nat):∀ (n k:Nat) (left:List α) (out:Array α),left.length=n->(pickOrder.go next n k left out).toList.Perm (out.toList++left)
 | 0,k,left,out,h=>by
  have:left=[]:=V5.mp h
  subst this
  simp [pickOrder.go]
 | n+1,k,left,out,h=>by
  rw [pickOrder.go]
  have hlt:next k % left.length<left.length:=Nat.mod_lt _ (by exact LY h)
  rw [SW hlt]
  dsimp only
  refine (ue next n (k+1) _ _ (by rw [List.length_eraseIdx_of_lt hlt];exact LX h)).trans ?_
  rw [WH,S4]
  refine VU _ ?_
  show (left[next k % left.length]::left.eraseIdx (next k % left.length)).Perm left
  exact ir left _ hlt
theorem vI {α:Type} (next:Nat->Nat) (xs:Array α):(pickOrder next xs).toList.Perm xs.toList:=by
 have:=ue next xs.size 0 xs.toList #[] (by simp)
 simpa [pickOrder] using this
theorem cY {Q:Bool->Shared->Prop} (h:Q (bY G) s):wpAny G.M A setsByText Q E s:=by
 unfold setsByText
 exact λz! z! z! => h
theorem AF {i n ep:Nat} {Q:Option Value->Shared->Prop} (hI:s.heap.get? I=some (bA (.int 0 0) i (.ref b) n ep)) {es:Array (Int×Value)} {t:SetTable} (S:cU s.heap b es ep t) (hn:es.size=n) (mL:bY G=true)
  {hv:Int} {x:Value} (hj:(pickOrder (G.w.params.setOrder b ep) es)[i]? = some (hv,x))
  (hQ:∀ h',h'.get? I=some (bA (.int 0 0) ((i+1:Nat):Int) (.ref b) n ep)->Vm I s.heap h'->Q (some x) {s with heap:=h'}):wpAny G.M A (pyNext (.ref I)) Q E s:=by
 have hT:s.TypeIs (.ref I) "set_iterator":=⟨_,hI,rfl⟩
 unfold pyNext
 refine Sl (U_ (UJ (name:=VX "__next__") hT aK (UK aK hT bX ?_ (cB _))))
 unfold Builtin.«set_iterator.__next__»
 refine Sl (m:=slotArgs "__next__" 0 _) (Sm ?_)
 refine Sl (WS hI rfl ?_)
 dsimp only
 unfold setEntries
 refine Sl (Sl (S.state (Sm ?_)))
 refine To (by simp [hn]) ?_
 show wpAny _ _ (setNext b ((0:Int)).toNat ((i:Nat):Int).toNat ((ep:Nat):Int).toNat >>= _) _ _ _
 unfold setNext
 refine Sl (Sl (S.state (Sl (cY ?_))))
 rw [mL]
 simp only [if_true]
 refine To (by simp) ?_
 unfold setWalk
 refine Sl (Sl (S.state (Sl (cY ?_))))
 rw [mL]
 simp only [if_true]
 refine Sl (wpAny_askSetting (Sm (Sm ?_)))
 rw [Vl]
 rw [show (pickOrder ({program:=(model G.prog G.w).prog,params:=(model G.prog G.w).w.params:Setting}.params.setOrder b ep) es)[i]? = some (hv,x) from hj]
 dsimp only [WC]
 refine Sl (Vt hI rfl (S1 rfl) ?_)
 have p1:=eT (I:=I) (vs:=#[.int 0 0,.int i 0,.ref b,.int n 0,.int ep 0]) (j:=0) (x:=rawInt ((0:Int).toNat:Nat)) hI (S1 rfl)
 refine Sl (Vt (s:={s with heap:=_}) p1 rfl (S1 rfl) (Sm ⟨_,rfl,Sm (hQ _ ?_ ?_)⟩))
 ·have:=eT (I:=I) (j:=1) (x:=rawInt (((i:Nat):Int)+1)) p1 (by simp)
  rw [this]
  rfl
 ·exact λb' o hb e=>(Uc ..).extBut b' o hb ((Uc ..).extBut b' o hb e)
theorem qf {i n ep:Nat} {Q:Option Value->Shared->Prop} (hh:A.handled=none) (hI:s.heap.get? I=some (bA (.int 0 0) i (.ref b) n ep)) {es:Array (Int×Value)} {t:SetTable} (S:cU s.heap b es ep t) (hn:es.size=n) (mL:bY G=true)
  (hj:(pickOrder (G.w.params.setOrder b ep) es)[i]? = none)
  (hQ:∀ h',Vm I s.heap h'->Q none {s with heap:=h'}):wpAny G.M A (pyNext (.ref I)) Q E s:=by
 have hT:s.TypeIs (.ref I) "set_iterator":=⟨_,hI,rfl⟩
 unfold pyNext
 refine Sl (U_ (UJ (name:=VX "__next__") hT aK (UK aK hT bX ?_ (cB _))))
 unfold Builtin.«set_iterator.__next__»
 refine Sl (m:=slotArgs "__next__" 0 _) (Sm ?_)
 refine Sl (WS hI rfl ?_)
 dsimp only
 unfold setEntries
 refine Sl (Sl (S.state (Sm ?_)))
 refine To (by simp [hn]) ?_
 show wpAny _ _ (setNext b ((0:Int)).toNat ((i:Nat):Int).toNat ((ep:Nat):Int).toNat >>= _) _ _ _
 unfold setNext
 refine Sl (Sl (S.state (Sl (cY ?_))))
 rw [mL]
 simp only [if_true]
 refine To (by simp) ?_
 unfold setWalk
 refine Sl (Sl (S.state (Sl (cY ?_))))
 rw [mL]
 simp only [if_true]
 refine Sl (wpAny_askSetting (Sm (Sm ?_)))
 rw [Vl]
 rw [show (pickOrder ({program:=(model G.prog G.w).prog,params:=(model G.prog G.w).w.params:Setting}.params.setOrder b ep) es)[i]? = none from hj]
 dsimp only [Option.map_none]
 refine Sl (Vt hI rfl (S1 rfl) ?_)
 refine j9 (s:={s with heap:=_}) hh λe h' kp Em=>?_
 refine Sl (UZ (T:="StopIteration") (b:=true) Em isSubtype_stop ?_)
 exact Sm (hQ _ λb' o hb e=>kp _ _ ((Uc ..).extBut b' o hb e))
theorem Dn {n ep slot:Nat} {Q:Option Value->Shared->Prop} (hI:s.heap.get? I=some (bA (.int slot 0) 0 (.ref b) n ep)) {es:Array (Int×Value)} {t:SetTable} (S:cU s.heap b es ep t) (hn:es.size=n) (mL:bY G=false) (h1:es.size<=1) (hl:t.led=true)
  {hv:Int} {x:Value} {j:Nat} (hj:es[0]? = some (hv,x)) (hp:t.place[0]? = some j) (hs:Xj t.place slot=0)
  (hQ:∀ h',h'.get? I=some (bA (.int (j+1:Nat) 0) 1 (.ref b) n ep)->Vm I s.heap h'->Q (some x) {s with heap:=h'}):wpAny G.M A (pyNext (.ref I)) Q E s:=by
 have hT:s.TypeIs (.ref I) "set_iterator":=⟨_,hI,rfl⟩
 unfold pyNext
 refine Sl (U_ (UJ (name:=VX "__next__") hT aK (UK aK hT bX ?_ (cB _))))
 unfold Builtin.«set_iterator.__next__»
 refine Sl (m:=slotArgs "__next__" 0 _) (Sm ?_)
 refine Sl (WS hI rfl ?_)
 dsimp only
 unfold setEntries
 refine Sl (Sl (S.state (Sm ?_)))
 refine To (by simp [hn]) ?_
 show wpAny _ _ (setNext b ((slot:Nat):Int).toNat ((0:Int)).toNat ((ep:Nat):Int).toNat >>= _) _ _ _
 unfold setNext
 refine Sl (Sl (S.state (Sl (cY ?_))))
 rw [mL]
 refine To (by simp) ?_
 split
 ·rename_i hd
  have hd:(!t.plain && decide (es.size > 1))=true:=hd
  simp at hd
  exact FG hn h1 hd
 refine Sl ?_
 show wpAny _ _ (if (!t.led && !es.isEmpty)=true then unsupported "set:maker-not-led" else pure ()) _ _ _
 rw [hl,if_neg (by simp)]
 refine Sm ?_
 rw [Vl,hs]
 dsimp only
 rw [hj,hp]
 refine Sm ?_
 dsimp only
 refine Sl (Vt hI rfl (S1 rfl) ?_)
 have p1:=eT (I:=I) (vs:=#[.int slot 0,.int 0 0,.ref b,.int n 0,.int ep 0]) (j:=0) (x:=rawInt ((j+1:Nat))) hI (S1 rfl)
 refine Sl (Vt (s:={s with heap:=_}) p1 rfl (S1 rfl) (Sm ⟨_,rfl,Sm (hQ _ ?_ ?_)⟩))
 ·have:=eT (I:=I) (j:=1) (x:=rawInt ((0:Int)+1)) p1 (by simp)
  rw [this]
  rfl
 ·exact λb' o hb e=>(Uc ..).extBut b' o hb ((Uc ..).extBut b' o hb e)
theorem k6 {n ep slot i:Nat} {Q:Option Value->Shared->Prop} (hh:A.handled=none) (hI:s.heap.get? I=some (bA (.int slot 0) i (.ref b) n ep)) {es:Array (Int×Value)} {t:SetTable} (S:cU s.heap b es ep t) (hn:es.size=n) (mL:bY G=false) (h1:es.size<=1) (hl:t.led=true)
  (hs:es[Xj t.place slot]? = none)
  (hQ:∀ h',Vm I s.heap h'->Q none {s with heap:=h'}):wpAny G.M A (pyNext (.ref I)) Q E s:=by
 have hT:s.TypeIs (.ref I) "set_iterator":=⟨_,hI,rfl⟩
 unfold pyNext
 refine Sl (U_ (UJ (name:=VX "__next__") hT aK (UK aK hT bX ?_ (cB _))))
 unfold Builtin.«set_iterator.__next__»
 refine Sl (m:=slotArgs "__next__" 0 _) (Sm ?_)
 refine Sl (WS hI rfl ?_)
 dsimp only
 unfold setEntries
 refine Sl (Sl (S.state (Sm ?_)))
 refine To (by simp [hn]) ?_
 show wpAny _ _ (setNext b ((slot:Nat):Int).toNat ((i:Nat):Int).toNat ((ep:Nat):Int).toNat >>= _) _ _ _
 unfold setNext
 refine Sl (Sl (S.state (Sl (cY ?_))))
 rw [mL]
 refine To (by simp) ?_
 split
 ·rename_i hd
  have hd:(!t.plain && decide (es.size > 1))=true:=hd
  simp at hd
  exact FG hn h1 hd
 refine Sl ?_
 show wpAny _ _ (if (!t.led && !es.isEmpty)=true then unsupported "set:maker-not-led" else pure ()) _ _ _
 rw [hl,if_neg (by simp)]
 refine Sm ?_
 rw [Vl]
 dsimp only
 rw [hs]
 refine Sm ?_
 dsimp only
 refine Sl (Vt hI rfl (S1 rfl) ?_)
 refine j9 (s:={s with heap:=_}) hh λe h' kp Em=>?_
 refine Sl (UZ (T:="StopIteration") (b:=true) Em isSubtype_stop ?_)
 exact Sm (hQ _ λb' o hb e=>kp _ _ ((Uc ..).extBut b' o hb e))
end Mine
namespace Mine
open PySem PySem.W PyProof.Rows
open PySem.Builtin
variable {G:Glob} {s s':Shared} {a b I T:Addr} {ks:List Str} {k:Str} {A:Around} {E:Value->Shared->Prop}
theorem wp_choose {M:Model} {src:Source} {n:Nat} {Q:Nat->Shared->Prop} (hn:n≠0) (h:∀ i d,i<n->Q i {s with drawn:=d}):wpAny M A (choose src n) Q E s:=λΓ p _ =>
 ⟨hn,h _ _ (Nat.mod_lt _ (T7 hn))⟩
theorem iC {α:Type} {M:Model}:∀ (n:Nat) (xs:List α) {Q:List α->Shared->Prop} {s:Shared},xs.length=n->(∀ ys d,ys.Perm xs->Q ys {s with drawn:=d})->wpAny M A (drawOrder n xs) Q E s
 | 0,xs,Q,s,hn,h=>by
  have:xs=[]:=V5.mp hn
  subst this
  exact Sm (h [] s.drawn (.refl _))
 | n+1,[],Q,s,hn,h=>nomatch hn
 | n+1,x::xs,Q,s,hn,h=>by
  refine Sl (wp_choose (VV _) λi d hi=>?_)
  rw [SW hi]
  dsimp only
  refine Sl (iC n ((x::xs).eraseIdx i) ((List.length_eraseIdx_of_lt hi).trans (Nat.succ.inj hn)) λys d' hp=>?_)
  exact Sm (h _ d' ((hp.cons _).trans (ir _ i hi)))
theorem tR (j:Nat):Xj #[j] 0=0:=by
 exact (if_neg (Nat.not_lt_zero j):(if j<0 then (1:Nat) else 0)=0)
theorem tQ (j:Nat):Xj #[j] (j+1)=1:=by
 have e:Xj #[j] (j+1)=if j<j+1 then 1 else 0:=by kernel_rfl
 exact e.trans (if_pos (UU j))
structure rI (G:Glob) (b:Addr) (s s':Shared) (ks:List Str) (I:Addr) (fp:List Addr) (vals:List Value) (St:Nat->Heap->Prop):Prop where
 walks:∀ A':Around,A'.handled=none->Walks G.prog G.w A' I fp [I] vals.length (λi v=>vals[i]? = some v) St
 start:St 0 s'.heap
 ty:∀ i h,St i h->∃ o,h.get? I=some o/\o.cls = .type "set_iterator"
 keep:∀ b o,s.heap.get? b=some o->s'.heap.get? b=some o
 gens:s'.gens=s.gens
 os:s'.os=s.os
 mem:I∈fp
 low:∀ b∈fp,b<s'.heap.objs.size
 new:s.heap.get? I=none
 RH:∀ x∈fp,x=b\/s.heap.get? x=none
 perm:(vals.map fY).Perm ks
 Nk:∀ v∈vals,∃ x t,v = .str x t
theorem rI.of {es:Array (Int×Value)} {ep:Nat} {tb:SetTable} {s':Shared} {I T:Addr} {first:Nat->Value} {vals:List Value} {X:Heap->Prop} (keep:∀ a o,s.heap.get? a=some o->s'.heap.get? a=some o) (gens:s'.gens=s.gens) (os:s'.os=s.os)
  (hI:s.heap.get? I=none) (hT:s.heap.get? T=none) (Rk:T<s'.heap.objs.size) (SA:cU s.heap b es ep tb) (start:s'.heap.get? I=some (bA (first 0) (0:Nat) (.ref b) es.size ep)) (hX:X s'.heap)
  (Xk:∀ h h',X h->(∀ o,h.get? T=some o->h'.get? T=some o)->X h') (Xe:∀ h h',X h->Vm I h h'->X h')
  (item:∀ i v (A':Around) (s:Shared) (Q:Option Value->Shared->Prop) (E:Value->Shared->Prop),vals[i]? = some v->s.heap.get? I=some (bA (first i) i (.ref b) es.size ep)->cU s.heap b es ep tb->X s.heap ->
   (∀ h',h'.get? I=some (bA (first (i+1)) ((i+1:Nat):Int) (.ref b) es.size ep)->Vm I s.heap h'->Q (some v) {s with heap:=h'})->wpAny G.M A' (pyNext (.ref I)) Q E s)
  (done:∀ (A':Around) (s:Shared) (Q:Option Value->Shared->Prop) (E:Value->Shared->Prop),A'.handled=none->s.heap.get? I=some (bA (first vals.length) vals.length (.ref b) es.size ep)->cU s.heap b es ep tb->X s.heap ->
   (∀ h',Vm I s.heap h'->Q none {s with heap:=h'})->wpAny G.M A' (pyNext (.ref I)) Q E s)
  (perm:(vals.map fY).Perm ks) (Nk:∀ v∈vals,∃ x t,v = .str x t) :
  rI G b s s' ks I [I,b,T] vals (λi h=>h.get? I=some (bA (first i) i (.ref b) es.size ep)/\cU h b es ep tb/\X h):=by
 have mI:I∈[I,b,T]:=So
 have mb:b∈[I,b,T]:=Ss _ So
 have mT:T∈[I,b,T]:=Ss _ (Ss _ So)
 have three:∀ {P:Addr->Prop},P I->P b->P T->∀ x∈[I,b,T],P x:=λh1 h2 h3=>Xf.mpr ⟨h1,Xf.mpr ⟨h2,TS.mpr h3⟩⟩
 have Fx:b≠I:=λe=>by
  refine ob1_2 SA.at_ λo ho z! => ?_
  rw [e,hI] at ho
  cases ho
 refine ⟨λA' hA=>⟨TS.mpr mI,λi h h' z k=>⟨k _ mI _ z.1,z.2.1.keeps (k _ mb),Xk _ _ z.2.2 (k _ mT)⟩,λi s Q E hi z hQ=>?_,λs Q E z hQ=>?_,λi s Q E z hQ=>AG z.1 hQ⟩,⟨start,SA.keeps (keep b),hX⟩,λi h z=>⟨_,z.1,rfl⟩,keep,gens,os,mI,three (Te start) ?_ Rk,hI,
  three (.inr hI) (.inl rfl) (.inr hT),perm,Nk⟩
 ·exact item i vals[i] A' s Q E (SW hi) z.1 z.2.1 z.2.2 λh' e hx=>hQ _ h' s.toks (SW hi) ⟨e,z.2.1.keeps λo=>hx b o Fx,Xe _ _ z.2.2 hx⟩ λb o hb e=>hx b o (λh=>hb (SG.mpr h)) e
 ·exact done A' s Q E hA z.1 z.2.1 z.2.2 λh' hx=>hQ h' s.toks λb o hb e=>hx b o (λh=>hb (SG.mpr h)) e
 ·refine ob1_2 SA.at_ λo ho z! => ?_
  exact Te (keep _ _ ho)
theorem yi {α:Type} {xs:Array α} (h:xs.size=1):xs = #[xs[0]'(h▸V0)]:=by
 apply Array.ext
 ·exact h
 ·intro i h2 h3
  have:i=0:=by rw [h] at h2;exact Ub (V4 h2) (Td _)
  subst this
  rfl
theorem rR {Q:Value->Shared->Prop} (hS:d_ G s.heap b ks) (h:∀ s' I fp vals St,rI G b s s' ks I fp vals St->Q (.ref I) s'):wpAny G.M A (pyIter (.ref b)) Q E s:=by
 refine ob4_10 hS λo es ep tb ho hex hd hel hp nd hb hf hl hpl=>?_
 have hT:s.TypeIs (.ref b) "set":=⟨o,ho,hex.1⟩
 have SA:cU s.heap b es ep tb:=⟨⟨o,ho,hd⟩,hf⟩
 have JL:∀ e∈es.toList,∃ x t,e.2 = .str x t:=λe he=>by
  refine ob0_2 (hel e he) λbM z! =>ob1_2 bM λk hk z! => ob1_1 (Value.isStrOf_shape hk) λt e1=>?_
  exact ⟨k,t,e1⟩
 have hstr:∀ vals:List Value,vals.Perm (es.toList.map (·.2))->(vals.map fY).Perm ks/\∀ v∈vals,∃ x t,v = .str x t:=λvals hv=>by
  refine ⟨(hv.map fY).trans (show ((es.toList.map (·.2)).map fY).Perm ks by rw [Th];exact hp),λv hm=>?_⟩
  refine ob1_2 (S7.mp (hv.mem_iff.mp hm)) λe he aA=>?_;obtain rfl:=aA
  exact JL e he
 refine wpAny_pyIter_slot hT PySem.F.slot_set_iter (UK PySem.F.slot_set_iter hT j8 ?_ (PySem.F.args_set_iter_1 _))
 unfold Builtin.«frozenset.__iter__»
 refine Sl (m:=Frozenset.slot0 _ _) (Sm ?_)
 unfold Frozenset.sizeOf setEntries setDrawn setEpoch
 refine Sl (Sl (Sl (SA.state (Sm (Sm ?_)))))
 refine Sl (Sl (SA.state (Sl (cY (Sm ?_)))))
 dsimp only
 have n0:s.heap.get? s.heap.objs.size=none:=bC (Sz _)
 split
 ·refine Sl (iC es.size (SD es.size) TJ λord d dJ=>?_)
  have mK:ord.length=es.size:=by rw [dJ.length_eq];exact TJ
  refine Sl (PySem.wpAny_newTuple (items:=ord.map λ(i:Nat)=>rawInt i) ?_ (by rw [Sq,mK];exact fits_of_scanBound hb))
  refine Sl (Sl (cU.state (es:=es) (ep:=ep) (t:=tb) (SA.keeps λo e=>Sw _ e) (Sm ?_)))
  refine Sl (T6 (Sm ⟨_,rfl,"set_iterator",_,⟨_,SH _ rfl,rfl⟩,aK.lookup,?_⟩))
  have hin:∀ j∈ord,j<es.size:=λj hj=>SQ.mp (dJ.mem_iff.mp hj)
  have Jz:(ord.map λj=>((es[j]?).map (·.2)).getD .none).Perm (es.toList.map (·.2)):=by
   refine (dJ.map _).trans ?_
   have:(SD es.size).map (λj=>((es[j]?).map (·.2)).getD .none)=es.toList.map (·.2):=by
    apply List.ext_getElem
    ·simp
    ·intro i h1 h2
     have h3:i<es.size:=by simpa using h1
     rw [List.getElem_map,List.getElem_range,List.getElem_map,Vd h3];rfl
   rw [this]
  have hz:=hstr _ Jz
  refine h _ _ _ _ _ (rI.of (first:=λz! => .ref s.heap.objs.size) (T:=s.heap.objs.size) (X:=λh=>C7 h s.heap.objs.size (ord.map λ(i:Nat)=>rawInt i)) (λb o e=>Sw _ (Sw _ e)) rfl rfl (bC (by rw [TQ];exact Uw _)) n0 ?_ SA (SH _ rfl)
   ⟨0,Sw _ (SH _ rfl)⟩ (λh h' zz=>zz.elim λn e k=>⟨n,k _ e⟩) (λh h' zz=>zz.elim λn e k=>⟨n,k _ _ (by rw [TQ];exact T9 (UU _)) e⟩) (λi v A' s Q E hv e1 e2 e3 hQ=>?_) (λA' s Q E hA e1 e2 e3 hQ=>?_) hz.1 hz.2)
  ·exact Te (Sw _ (SH _ rfl))
  ·rw [S9] at hv
   refine ob1_2 (Tn.mp hv) λj hj hv=>?_
   have hjl:=hin j (U' hj)
   have O_:es[j]? = some es[j]:=Vd hjl
   rw [O_] at hv
   cases hv
   exact xU e1 e2 rfl e3 hj O_ λh' hi Bb=>hQ h' hi Bb.extBut
  ·exact ou hA e1 e2 rfl e3 (TY (SI (Sq ..).symm)) hQ
 ·rename_i hc0
  refine Sl (Sm ?_)
  refine Sl (Sl (SA.state (Sm ?_)))
  refine Sl (T6 (Sm ⟨_,rfl,"set_iterator",_,⟨_,SH _ rfl,rfl⟩,aK.lookup,?_⟩))
  have go:∀ (first:Nat->Value) (vals:List Value),first 0 = .int (0:Nat) 0->vals.Perm (es.toList.map (·.2))->(∀ i v (A':Around) (s1:Shared) (Q:Option Value->Shared->Prop) (E:Value->Shared->Prop),vals[i]? = some v->s1.heap.get? s.heap.objs.size=some (bA (first i) i (.ref b) es.size ep)->cU s1.heap b es ep tb->True ->
    (∀ h',h'.get? s.heap.objs.size=some (bA (first (i+1)) ((i+1:Nat):Int) (.ref b) es.size ep)->Vm s.heap.objs.size s1.heap h'->Q (some v) {s1 with heap:=h'})->wpAny G.M A' (pyNext (.ref s.heap.objs.size)) Q E s1) ->
    (∀ (A':Around) (s1:Shared) (Q:Option Value->Shared->Prop) (E:Value->Shared->Prop),A'.handled=none->s1.heap.get? s.heap.objs.size=some (bA (first vals.length) vals.length (.ref b) es.size ep)->cU s1.heap b es ep tb->True ->
    (∀ h',Vm s.heap.objs.size s1.heap h'->Q none {s1 with heap:=h'})->wpAny G.M A' (pyNext (.ref s.heap.objs.size)) Q E s1)->Q (.ref s.heap.objs.size) {s with heap:=s.heap.push (bA (.int (0:Nat) 0) (0:Nat) (.ref b) es.size ep)} :=
   λfirst vals h0 hv item done=>h _ _ _ _ _ (rI.of (T:=s.heap.objs.size) (X:=λz! => True) (λb o e=>Sw _ e) rfl rfl n0 n0 (Te (SH _ rfl)) SA (by rw [h0];exact SH _ rfl) trivial (λz! z! z! z! => trivial) (λz! z! z! z! => trivial) item done (hstr _ hv).1 (hstr _ hv).2)
  cases mL:bY G with
  | true =>
   have dJ:=vI (G.w.params.setOrder b ep) es
   refine go (λz! => .int (0:Nat) 0) ((pickOrder (G.w.params.setOrder b ep) es).toList.map (·.2)) rfl (dJ.map _) (λi v A' s Q E hv e1 e2 z! hQ=>?_) λA' s Q E hA e1 e2 z! hQ=>?_
   ·rw [S9] at hv
    refine ob1_2 (Tn.mp hv) λbM hx hv=>?_;obtain ⟨hj,x⟩:=bM
    cases hv
    exact AF e1 e2 rfl mL (by rw [<- U4];exact hx) hQ
   ·refine qf hA e1 e2 rfl mL ?_ hQ
    rw [<- U4,Sq]
    exact TY (Sz _)
  | false =>
   rw [mL] at hl hc0
   have h1:es.size<=1:=by
    refine Ua λhgt=>hc0 ?_
    show (!false && (!tb.plain && decide (es.size > 1)))=true
    rw [hpl.resolve_left (Vv (Nat.lt_trans Nat.zero_lt_one hgt)),decide_eq_true hgt]
    rfl
   have hps:tb.place.size=es.size:=by
    simp only [SetTable.fits,Wo,beq_iff_eq] at hf
    exact hf.1
   rcases XO es.size with h0 | h0
   ·have hes:es = #[]:=Array.eq_empty_of_size_eq_zero h0
    refine go (λz! => .int (0:Nat) 0) [] rfl (by rw [hes];exact .refl _) (λi v A' s Q E hv=>nomatch hv) λA' s Q E hA e1 e2 z! hQ=>?_
    exact k6 hA e1 e2 rfl mL h1 hl (Array.getElem?_eq_none (by rw [h0];exact Td _)) hQ
   ·have hz:=Ub h1 h0
    have hp0:0<tb.place.size:=hps.symm▸h0
    have D7:=yi (hps.trans hz)
    refine go (λi=>.int (match i with | 0=>0 | _+1=>(tb.place[0]+1:Nat)) 0) [es[0].2] rfl (by rw [show es.toList=[es[0]] from congrArg Array.toList (yi hz)];exact .refl _) (λi v A' s Q E hv e1 e2 z! hQ=>?_) λA' s Q E hA e1 e2 z! hQ=>?_
    ·cases i with
     | succ i=>cases hv
     | zero =>
      cases hv
      exact Dn (slot:=0) (j:=tb.place[0]) e1 e2 rfl mL h1 hl (hv:=es[0].1) (Vd h0) (Vd (by rw [hps];exact h0)) (by rw [D7];exact tR _) hQ
    ·refine k6 hA e1 e2 rfl mL h1 hl (slot:=tb.place[0]+1) ?_ hQ
     have:Xj tb.place (tb.place[0]+1)=1:=by
      generalize tb.place[0]=j at D7
      rw [D7];exact tQ j
     rw [this,Array.getElem?_eq_none h1]
end Mine
namespace Mine
open PySem PySem.W PyProof.Rows
open PySem.Builtin
variable {G:Glob} {s s':Shared} {a b I T:Addr} {ks:List Str} {k:Str} {A:Around} {E:Value->Shared->Prop}
theorem oj:splitId "set.__len__"=some ("set","__len__"):=by decide +kernel
theorem d_.keeps {h h':Heap} (S:d_ G h b ks) (k:∀ o,h.get? b=some o->h'.get? b=some o):d_ G h' b ks :=
 S.imp λo h_=>h_.imp λes h_=>h_.imp λep h_=>h_.imp λt zz=>zz.elim λho r=>⟨k o ho,r⟩
theorem pS {Q:Bool->Shared->Prop} {o:Obj} (hb:s.heap.get? b=some o) (hc:o.cls = .type "set") (h:Q false s):wpAny G.M A (List.listLengthHint (.ref b)) Q E s:=by
 have hT:s.TypeIs (.ref b) "set":=⟨o,hb,hc⟩
 unfold List.listLengthHint
 refine Sl (W5 hT PySem.F.slot_set_len.lookup ?_)
 dsimp only
 rw [oj]
 refine Sl (UZ (b:=true) hT (by rw [WQ];kernel_rfl) ?_)
 refine Sl (X5 hT ?_)
 exact Sm h
structure Old (s s':Shared):Prop where
 keep:∀ b o,s.heap.get? b=some o->s'.heap.get? b=some o
 gens:s'.gens=s.gens
 os:s'.os=s.os
theorem Old.stp (x:Old s s'):aG G [] s s':=⟨λb o z! z! e=>x.keep b o e,λi=>G.yR _ _ i x.keep,x.os,⟨[],by simp [x.gens],by simp⟩⟩
theorem mz {Q:List Value->Shared->Prop} (hS:d_ G s.heap b ks) (hh:A.handled=none)
  (hQ:∀ s' vals,Old s s'->(vals.map fY).Perm ks->(∀ v∈vals,∃ x t,v = .str x t)->Q vals s'):wpAny G.M A (collect (.ref b)) Q E s:=by
 have hkb:ks.length<scanBound:=by
  refine ob4_8 hS λo es ep t ho hex hd hel hp nd hb r=>?_
  rw [<- hp.length_eq,Sq,Ud];exact hb
 have mL:∃ o,s.heap.get? b=some o/\o.cls = .type "set":=by
  refine ob4_3 hS λo es ep t ho hex z! => ?_
  exact ⟨o,ho,hex.1⟩
 have Ek:b<s.heap.objs.size:=by refine ob1_2 mL λo ho z! => ?_;exact Te ho
 unfold collect
 refine Sl (wpAny_runValue (Va PySem.F.entry_proto_collect ?_))
 rw [Un PySem.F.plain_proto_collect _]
 show wpAny _ A.in1 (newList [] >>= λl=>again (.builtin "list.__iadd__" ⟨[l,.ref b],[]⟩)) _ _ s
 refine Sl (T6 ?_)
 refine Sm ⟨VF PySem.F.plain_list_iadd _,Va PySem.F.entry_list_iadd ?_⟩
 rw [Un PySem.F.plain_list_iadd _]
 have ze:(s.heap.push {cls:=.type "list",data:=.seq ([]:List Value).toArray}).get? s.heap.objs.size=some {cls:=.type "list",data:=.seq ([]:List Value).toArray}:=SH _ rfl
 have h1:List.listSameRef (.ref s.heap.objs.size) (.ref b)=false:=by simp [List.listSameRef];exact Vv Ek
 show wpAny _ A.in1 (List.listExtendWith (.ref s.heap.objs.size) (.ref b) (.ref s.heap.objs.size)) _ _ _
 unfold List.listExtendWith
 refine ob1_2 mL λob hob hcb=>?_
 have hTb:Shared.TypeIs {s with heap:=s.heap.push {cls:=.type "list",data:=.seq ([]:List Value).toArray}} (.ref b) "set":=⟨ob,Sw _ hob,hcb⟩
 refine Sl (X5 hTb ?_)
 rw [if_neg (by rw [h1];decide)]
 refine Sl (rR (G:=G) (d_.keeps hS λo e=>Sw _ e) λs₂ I fp vals St it=>?_)
 refine Sl (Sy (pS (it.keep _ _ (Sw _ hob)) hcb ?_))
 have uz:=it.keep _ _ ze
 have hSI:s.heap.objs.size≠I:=λe=>by have:=it.new;rw [<- e] at this;rw [ze] at this;cases this
 have J8:s.heap.objs.size∉fp:=λhm=>by
  rcases it.RH _ hm with h | h
  ·exact Vv Ek h
  ·rw [ze] at h;cases h
 show wpAny _ A.in1 (rule "list.extend.makes-room" >>= λz! => List.listTouch (.ref s.heap.objs.size) >>= λz! => again (.builtin "list.extend.loop" ⟨[.ref s.heap.objs.size,.ref I,.ref s.heap.objs.size],[]⟩)) _ _ _
 refine Sl (Vi ?_)
 refine Sl ?_
 show wpAny _ A.in1 (updateSeq s.heap.objs.size (·.push .none) >>= λz! => updateSeq s.heap.objs.size (·.pop)) _ _ _
 refine Sl (VP uz rfl ?_)
 have CT:=VT (Vh (·.push V7)) uz rfl
 refine VP (s:={s₂ with heap:=_}) CT rfl ?_
 have J7:=VT (Vh (·.pop)) CT rfl
 have OM:∀ b' o,b'≠s.heap.objs.size->s₂.heap.get? b'=some o ->
   ((s₂.heap.update s.heap.objs.size (Vh (·.push V7))).update s.heap.objs.size (Vh (·.pop))).get? b'=some o :=
  λb' o hb' e=>(Heap.get?_update_other _ _ (Ne.symm hb')).trans ((Heap.get?_update_other _ _ (Ne.symm hb')).trans e)
 have W:=(it.walks A.in1 hh)
 have hvl:vals.length=ks.length:=by rw [<- it.perm.length_eq,Sq]
 refine Sm ⟨VF PySem.F.plain_extend_loop _,codeAny_extend_loopS W.toS (by rw [hvl];exact fits_of_scanBound hkb) _ J8 _ vals.length 0 _ _ _ rfl (Td _)
  (W.frame 0 _ _ it.start λb' hb' o e=>OM b' o (λh=>J8 (h▸hb')) e) J7 (ItemsOf.nil _) λs' acc' c' hm hS' hacc=>?_⟩
 show wpAny _ A (load s.heap.objs.size >>= _) _ _ s'
 refine Sl (wpAny_load hS' ?_)
 have mO:acc'.toList=vals:=by
  apply List.ext_getElem?
  intro j
  rcases VW j vals.length with hj | hj
  ·have hj':j<acc'.size:=by rw [hacc.1];exact hj
   have:=hacc.2 j acc'[j] (by simp [hj'])
   rw [this];simp [hj']
  ·rw [TY hj,TY (by rw [Ud,hacc.1];exact hj)]
 refine Sm ?_
 show Q acc'.toList s'
 rw [mO]
 refine hQ s' vals ⟨λb' o e=>?_,hm.gens.trans it.gens,hm.os.trans it.os⟩ it.perm it.Nk
 have hb':b'<s.heap.objs.size:=Te e
 have Fx:b'≠I:=λh=>by
  subst h
  have:=it.new
  rw [Sw _ e] at this;cases this
 exact hm.heap b' o (by simp only [Sx,Tq,or_false,not_or];exact ⟨T9 hb',Fx⟩) (OM b' o (T9 hb') (it.keep _ _ (Sw _ e)))
end Mine
namespace Mine
open PySem PySem.W PyProof.Rows
variable {G:Glob} {s s':Shared} {a b I T:Addr} {ks:List Str} {k:Str} {A:Around} {E:Value->Shared->Prop} {W:List Addr}
noncomputable def cy (xs:List Str):List Str:=xs.foldl iy []
theorem tK (xs:List Str) (i:Nat) (h:i<xs.length):cy (xs.take (i+1))=iy (cy (xs.take i)) xs[i]:=by
 unfold cy
 rw [TX,SW h,Up,Vk]
 rfl
theorem jy (xs:List Str):(cy xs).length<=xs.length:=by
 have:∀ (xs acc:List Str),(xs.foldl iy acc).length<=acc.length+xs.length:=by
  intro xs
  induction xs with
  | nil=>intro acc;simp
  | cons x xs ih =>
   intro acc
   rw [Vx]
   have h1:=ih (iy acc x)
   have h2:=z6 acc x
   simp only [Tr]
   exact MA h1 h2
 simpa [cy] using this xs []
theorem d_.fresh {h:Heap} (ho:h.get? b=some {cls:=.type "set",dict:=none,data:=.set #[] 0 (.fresh 0 0 (!bY G)),slots:=#[]}):d_ G h b [] :=
 ⟨_,#[],0,_,ho,⟨rfl,rfl,rfl⟩,rfl,λe he=>by simp at he,.refl _,List.nodup_nil,by decide,by rfl,rfl,.inl rfl⟩
theorem sy {Wk:Nat->Heap->Prop} {fp:List Addr} {vs:List Value} {xs:List Str} (hx:StrsAre vs xs) (Wl:Walks G.prog G.w A.in1 I fp [I] vs.length (λi v=>vs[i]? = some v) Wk) (hb:b∉fp) (hIf:I∈fp)
  (hn:xs.length+1<scanBound) {R:Result->Shared->Prop}:∀ (m i:Nat) (s:Shared),vs.length - i=m->i<=vs.length->Wk i s.heap->d_ G s.heap b (cy (xs.take i)) ->
   (∀ s',(∀ c o,c≠b->c≠I->s.heap.get? c=some o->s'.heap.get? c=some o)->s'.gens=s.gens->s'.os=s.os->d_ G s'.heap b (cy xs)->R (.ok (.ret .none)) s') ->
   codeAny G.M A (.builtin "set.update.loop" ⟨[.ref b,.ref I],[]⟩) R s:=by
 have Fx:b≠I:=λh=>hb (h▸hIf)
 have hlen:vs.length=xs.length:=hx.length
 intro m
 induction m with
 | zero =>
  intro i s hm hi hst hS hR
  have hin:i=vs.length:=by exact My hlen hm hi
  subst hin
  refine Va Xy ?_
  rw [Un Wb _]
  show wpAny _ A.in1 (pyNext (.ref I) >>= _) _ _ s
  refine Sl (Wl.done s _ _ hst λh' tk hk=>?_)
  refine Sm (hR _ (λc o z! hc e=>hk c o (by simpa using hc) e) rfl rfl ?_)
  rw [hlen,Xp] at hS
  exact hS.keeps λo e=>hk b o (by simpa using Fx) e
 | succ m ih =>
  intro i s hm hi hst hS hR
  have hlt:i<vs.length:=by exact Mw hlen hm hi
  refine Va Xy ?_
  rw [Un Wb _]
  show wpAny _ A.in1 (pyNext (.ref I) >>= _) _ _ s
  refine Sl (Wl.item i s _ _ hlt hst λv h' tk hv v7 hk=>?_)
  have hlt':i<xs.length:=by exact Su hlt (SI hlen)
  obtain ⟨t,rfl⟩:∃ t,v = .str xs[i] t:=by
   refine ob1_1 (hx.at (j:=i) (y:=xs[i]) (by simp [hlt'])) λt ht=>?_
   rw [hv] at ht;cases ht
   exact ⟨t,rfl⟩
  have hS':d_ G h' b (cy (xs.take i)):=hS.keeps λo e=>hk b o (by simpa using Fx) e
  show wpAny _ A.in1 (holding [Yd xs[i] t] (setAdd b (.str xs[i] t)) >>= _) _ _ _
  refine Sl (Sy (vm (s:={s with heap:=h',toks:=tk}) hS' (by
    have:=jy (xs.take i)
    have:(xs.take i).length<=xs.length:=by (simp [Wt];exact Wq _ _)
    exact Mu hn (by assumption) this) λbb h₂ tk₂ Bb uz=>?_))
  refine Sm ⟨VF Wb _,ih (i+1) _ (by exact Mt hlen hm hi hlt) hlt (Wl.frame _ h' _ v7 λc hc o e=>?_) ?_ λs' h1 h2 h3 h4=>?_⟩
  ·rw [Bb.2 c (λh=>hb (h▸hc))];exact e
  ·rw [tK xs i hlt'];exact uz
  ·refine hR s' (λc o hc1 hc2 e=>h1 c o hc1 hc2 ?_) h2 h3 h4
   show h₂.get? c=some o
   rw [Bb.2 c hc1]
   exact hk c o (by simpa using hc2) e
theorem q8 (v:Value) {Q₁:Value->Shared->Prop}
  (h:Q₁ (.ref s.heap.objs.size) {s with heap:=s.heap.push {cls:=.type "set",dict:=none,data:=.set #[] 0 (.fresh 0 0 (!bY G)),slots:=#[]}}) :
  codeAny G.M A (.call (.builtin "set.__new__") ⟨[.type "set",v],[]⟩) (wants Q₁ E) s:=by
 refine W6 ?_
 show wpAny _ A.in1 (do checkBuiltinCall "set.__new__" ⟨[.type "set",v],[]⟩;again (.builtin "set.__new__" ⟨[.type "set",v],[]⟩)) _ _ s
 refine Sl (TU (PySem.F.newCall_set_1 v) (Sm ⟨VF PySem.F.plain_set_new _,Va PySem.F.entry_set_new ?_⟩))
 rw [Un PySem.F.plain_set_new _]
 unfold Builtin.«set.__new__» Builtin.Frozenset.newClass
 have hsub:=sub_set_self
 obtain ⟨hp,g,d,tk,os⟩:=s
 dsimp only
 wp_walk
 refine wpAny_askSetting (Sm ?_)
 dsimp only
 simp only [newObj]
 refine Sl (wpAny_alloc (Sm ?_))
 exact Sm h
set_option maxHeartbeats 3200000 in
theorem vn {l:Addr} {vs:List Value} {xs:List Str} {Q:Value->Shared->Prop} (hh:A.handled=none) (hl:BY s.heap l vs) (hx:StrsAre vs xs) (hn:xs.length+1<scanBound)
  (h:∀ s',Old s s'->d_ G s'.heap s.heap.objs.size (cy xs)->Q (.ref s.heap.objs.size) s'):wpAny G.M A (call (.type "set") [.ref l]) Q E s:=by
 refine ob2_1 VA.mro λc tl Bc=>?_
 have hmade:=VA.made
 have hsub:=VA.sub
 refine UO (W6 ?_)
 show wpAny _ _ (callAny (.type "set") _) _ _ _
 refine Sm ⟨Code.quiet_builtin _ (by decide +kernel),Va PySem.F.entry_type_call ?_⟩
 rw [Around.under_plain (weight_type_call_type "set" [.ref l] []) rfl]
 have h1:=VA.notType
 have h2:=VA.canCreate
 have hct:=PySem.F.typeCall_set_1 (.ref l)
 repeat (any_goals (first | assumption | wp_step))
 refine Wf (q8 (.ref l) (E:=E) (Q₁:=λobj s₁=>obj = .ref s.heap.objs.size/\s₁={s with heap:=s.heap.push {cls:=.type "set",dict:=none,data:=.set #[] 0 (.fresh 0 0 (!bY G)),slots:=#[]}}) ⟨rfl,rfl⟩) λr s₁ hr=>?_
 match r,hr with
 | .error e,hr=>exact hr
 | .ok .next,hr=>exact hr.elim
 | .ok .brk,hr=>exact hr.elim
 | .ok .cont,hr=>exact hr.elim
 | .ok (.ret obj),hr =>
  refine ob0_2 hr λbM aC=>?_;obtain rfl:=bM;obtain rfl:=aC
  have hS:(s.heap.push {cls:=.type "set",dict:=none,data:=.set #[] 0 (.fresh 0 0 (!bY G)),slots:=#[]}).get? s.heap.objs.size=some {cls:=.type "set",dict:=none,data:=.set #[] 0 (.fresh 0 0 (!bY G)),slots:=#[]}:=SH _ rfl
  have hT:Shared.TypeIs {s with heap:=s.heap.push {cls:=.type "set",dict:=none,data:=.set #[] 0 (.fresh 0 0 (!bY G)),slots:=#[]}} (.ref s.heap.objs.size) "set":=⟨_,hS,rfl⟩
  have hli:=VA.init.lookup
  have hbi:=VA.init.bind (.ref s.heap.objs.size)
  repeat (any_goals (first | assumption | wp_step))
  refine Wf (Ui (R:=wants (λr s₂=>r = .none/\Old s s₂/\d_ G s₂.heap s.heap.objs.size (cy xs)) E) VA.init.plain PySem.F.entry_set_init (check_set_init_1 hT ?_)) λr₂ s₂ lJ=>?_
  ·refine ob1_1 hl λnl mK=>?_
   have Ny:(s.heap.push {cls:=.type "set",dict:=none,data:=.set #[] 0 (.fresh 0 0 (!bY G)),slots:=#[]}).get? l=some {cls:=.type "list",dict:=none,data:=.seq vs.toArray nl,slots:=#[]}:=Sw _ mK
   have QG:=PySem.F.sub_list_set
   have QH:=PySem.F.sub_list_frozenset
   have hne:(Vg "list" == Vg "dict")=false:=by decide
   have hl1:(s.heap.push {cls:=.type "set",dict:=none,data:=.set #[] 0 (.fresh 0 0 (!bY G)),slots:=#[]}).IsList l vs.toArray:=⟨_,Ny,rfl,nl,rfl⟩
   unfold Builtin.«set.__init__» noKeywords Builtin.Frozenset.updateFrom
   generalize Ry:pyIter=PI
   wp_walk
   subst Ry
   refine wpAny_pyIter_list hl1 ?_
   refine Sl (wpAny_runValue ?_)
   have hlS:l<s.heap.objs.size:=Te mK
   have hsz:(s.heap.push {cls:=.type "set",dict:=none,data:=.set #[] 0 (.fresh 0 0 (!bY G)),slots:=#[]}).objs.size=s.heap.objs.size+1:=TQ ..
   have Q2:A.in1.in1.in1.handled=none:=by simp [hh]
   have Rg:s.heap.objs.size∉[s.heap.objs.size+1,l]:=by
    intro hm
    rcases Sx.mp hm with e | hm
    ·exact T9 (UU _) e
    ·exact Vv hlS (SG.mp hm)
   rw [hsz]
   refine sy hx (by simpa using Walks.list Q2 (s.heap.objs.size+1) l (T9 (Tu hlS)) vs.toArray) Rg (by simp) hn (vs.length - 0) 0 _ (by exact Iv) (Td _) ?_ ?_ λs' k1 k2 k3 k4=>?_
   ·exact ⟨⟨_,by rw [<- hsz];exact SH _ rfl,rfl,rfl⟩,hl1.push _⟩
   ·exact d_.fresh (Sw _ hS)
   ·show wpAny _ _ (pure ()) _ _ s'
    refine Sm ?_
    show wpAny _ _ (ret V7) _ _ s'
    refine Sm ⟨rfl,⟨λc o e=>?_,k2,k3⟩,k4⟩
    have hc:c<s.heap.objs.size:=Te e
    exact k1 c o (T9 hc) (T9 (Tu hc)) (Sw _ (Sw _ e))
  ·match r₂,lJ with
   | .error e,lJ=>exact lJ
   | .ok .next,hr=>exact hr.elim
   | .ok .brk,hr=>exact hr.elim
   | .ok .cont,hr=>exact hr.elim
   | .ok (.ret r),lJ =>
    refine ob0_3 lJ λbM ho hX=>?_;obtain rfl:=bM
    repeat (any_goals (first | assumption | wp_step))
    exact h _ ho hX
end Mine
namespace Mine
open PySem PySem.W PyProof.Rows
variable {prog:Program} {w:World} {s:Shared} {A:Around} {E:Value->Shared->Prop} {a₀:Array Keyed} {p₀:Array (Nat×Nat×Nat)} {st:SortSt}
noncomputable def wL (x:Keyed):Prop:=∃ y t,x.1 = .str y t
structure SJ (a₀:Array Keyed) (p₀:Array (Nat×Nat×Nat)) (st:SortSt):Prop where
 perm:(arrOf st).Perm a₀
 kind:kindOf st=oneType'
 failed:failedOf st=none
 pend:pendingOf st=p₀
 keys:∀ p∈a₀.toList,wL p
theorem SJ.size (h:SJ a₀ p₀ st):(arrOf st).size=a₀.size:=h.perm.size_eq
theorem SJ.setArr (h:SJ a₀ p₀ st) {xs:Array Keyed} (hp:xs.Perm (arrOf st)):SJ a₀ p₀ (setArr st xs):=⟨hp.trans h.perm,h.kind,h.failed,h.pend,h.keys⟩
theorem SJ.at (h:SJ a₀ p₀ st) {i:Nat} (hi:i<a₀.size):∃ x,(arrOf st)[i]? = some x/\wL x:=by
 have hi':i<(arrOf st).size:=by rw [h.size];exact hi
 have hm:(arrOf st)[i]∈a₀.toList:=(Xl.mp h.perm).mem_iff.mp (by simp)
 exact ⟨_,getElem?_pos _ i hi',h.keys _ hm⟩
theorem j_ {x y:Keyed} {Q:Option Bool->SortSt->Prop} (hk:kindOf st=oneType') (hx:wL x) (hy:wL y) (h:∀ b,Q (some b) st):wpS (model prog w) A E s (lt' x y) Q st:=by
 refine ob2_1 hx λa t e1=>ob2_1 hy λb u e2=>?_
 rw [lt'_eq]
 refine S8 (wpS_get ?_)
 rw [hk,keyLt'_oneType,e1,e2]
 refine S8 (wpS_lift (U_ (oneLt_str ⟨rfl,?_⟩)))
 exact SV (h _)
theorem iD {i j:Nat} {Q:Option Bool->SortSt->Prop} (h:SJ a₀ p₀ st) (hi:i<a₀.size) (hj:j<a₀.size) (hq:∀ b,Q (some b) st):wpS (model prog w) A E s (ltAt' i j) Q st:=by
 refine ob1_2 (h.at hi) λx e1 hx=>ob1_2 (h.at hj) λy e2 hy=>?_
 rw [ltAt'_eq]
 refine S8 (wpS_get ?_)
 show wpS _ _ _ _ (do let x<-elem' (arrOf st) i;let y<-elem' (arrOf st) j;lt' x y) Q st
 rw [elem'_eq,elem'_eq,e1,e2]
 exact S8 (SV (S8 (SV (j_ h.kind hx hy hq))))
theorem ek {i j:Nat} {Q:Unit->SortSt->Prop} (h:SJ a₀ p₀ st) (hq:∀ st',SJ a₀ p₀ st'->Q () st'):wpS (model prog w) A E s (reverseSlice' i j) Q st:=by
 rw [reverseSlice'_eq]
 exact WL (hq _ (h.setArr (mirror_perm ..)))
theorem Av {i j:Nat} {Q:Unit->SortSt->Prop} (h:SJ a₀ p₀ st) (hq:∀ st',SJ a₀ p₀ st'->Q () st'):wpS (model prog w) A E s (moveDown' i j) Q st:=by
 rw [moveDown'_eq]
 exact WL (hq _ (h.setArr (bubble_perm ..)))
theorem Dl {lo nrem:Nat} {Q:Option Nat->SortSt->Prop} (h:SJ a₀ p₀ st) (h1:1<=nrem) (hb:lo+nrem<=a₀.size) (hq:∀ m st',1<=m->m<=nrem->SJ a₀ p₀ st'->Q (some m) st') :
  wpS (model prog w) A E s (countRun' lo nrem) Q st:=by
 rw [countRun'_eq]
 have asc:∀ (n:Nat) (st:SortSt) (R:Option (Option Nat)×Nat->SortSt->Prop),SJ a₀ p₀ st->1<=n->n<=nrem->(∀ m st',n<=m->m<=nrem->SJ a₀ p₀ st'->R (none,m) st') ->
   wpS (model prog w) A E s (forIn [n:nrem] ((none,n):Option (Option Nat)×Nat) λz! r=>do
    let x<-ltAt' (lo+r.2) (lo+r.2 - 1)
    match x with
    | some smaller=>if smaller=true then pure (X6 (none,r.2)) else pure (VO (none,r.2+1))
    | _=>pure (X6 (some none,r.2))) R st:=by
  intro n st R hs h1 h2 hR
  refine WI (I:=λx c st'=>c=(none,x)/\SJ a₀ p₀ st') (λx c st' D0 s_ hI=>?_) (λc st' hI=>?_) ⟨rfl,hs⟩
  ·refine ob0_2 hI λbM hs'=>?_;obtain rfl:=bM
   refine S8 (iD hs' (by dsimp only;exact wZ hb s_) (by dsimp only;exact C9 hb h1 D0 s_) λb=>?_)
   cases b with
   | true=>exact SV (hR x st' D0 (by exact Tf s_) hs')
   | false=>exact SV ⟨rfl,hs'⟩
  ·refine ob0_2 hI λbM hs'=>?_;obtain rfl:=bM
   exact hR _ st' (by exact Nat.le_max_left _ _) (by exact SI (Ws h2)) hs'
 have desc:∀ (n:Nat) (st:SortSt) (R:Option (Option Nat)×Nat×Nat->SortSt->Prop),SJ a₀ p₀ st->1<=n->n<=nrem->(∀ m q st',n<=m->m<=nrem->SJ a₀ p₀ st'->R (none,m,q) st') ->
   wpS (model prog w) A E s (forIn [n:nrem] ((none,n,0):Option (Option Nat)×Nat×Nat) λz! r=>do
    let x<-ltAt' (lo+r.2.1) (lo+r.2.1 - 1)
    match x with
    | some smaller =>
     if smaller=true then
      if r.2.2 > 0 then do
       reverseSlice' (lo+r.2.1 - (r.2.2+1)) (lo+r.2.1)
       pure (VO (none,r.2.1+1,0))
      else pure (VO (none,r.2.1+1,0))
     else do
      let x<-ltAt' (lo+r.2.1 - 1) (lo+r.2.1)
      match x with
      | some DS=>if DS=true then pure (X6 (none,r.2.1,r.2.2)) else pure (VO (none,r.2.1+1,r.2.2+1))
      | _=>pure (X6 (some none,r.2.1,r.2.2))
    | _=>pure (X6 (some none,r.2.1,r.2.2))) R st:=by
  intro n st R hs h1 h2 hR
  refine WI (I:=λx c st'=>(∃ q,c=(none,x,q))/\SJ a₀ p₀ st') (λx c st' D0 s_ hI=>?_) (λc st' hI=>?_) ⟨⟨0,rfl⟩,hs⟩
  ·refine ob0_2 hI λbM hs'=>ob1_1 bM λq aC=>?_;obtain rfl:=aC
   refine S8 (iD hs' (by dsimp only;exact wZ hb s_) (by dsimp only;exact C9 hb h1 D0 s_) λb=>?_)
   cases b with
   | true =>
    dsimp only
    rw [if_pos rfl]
    split
    ·exact S8 (ek hs' λfQ hs₂=>SV ⟨⟨0,rfl⟩,hs₂⟩)
    ·exact SV ⟨⟨0,rfl⟩,hs'⟩
   | false =>
    dsimp only
    rw [if_neg (by decide)]
    refine S8 (iD hs' (by exact C9 hb h1 D0 s_) (by exact wZ hb s_) λb=>?_)
    cases b with
    | true=>exact SV (hR x q st' D0 (by exact Tf s_) hs')
    | false=>exact SV ⟨⟨q+1,rfl⟩,hs'⟩
  ·refine ob0_2 hI λbM hs'=>ob1_1 bM λq aC=>?_;obtain rfl:=aC
   exact hR _ q st' (by exact Nat.le_max_left _ _) (by exact SI (Ws h2)) hs'
 refine S8 (asc 1 st _ h (Sz _) h1 λm kX hm1 hm2 hs₁=>?_)
 dsimp only
 by_cases e:(m == nrem)=true
 ·rw [if_pos e]
  exact SV (hq m kX hm1 hm2 hs₁)
 rw [if_neg e]
 have hlt:m+1<=nrem:=by
  exact Tw hm2 λq=>e (by rw [q];exact beq_self_eq_true _)
 split
 ·refine S8 (iD hs₁ (by exact Mi h1 hb) (Su (WK (Su hm1 (Sv _ _)) V0) (Sn (Ue hm2 _) hb)) λb=>?_)
  cases b with
  | true=>exact SV (hq m kX hm1 hm2 hs₁)
  | false =>
   refine S8 (ek hs₁ λfQ hs₂=>?_)
   refine S8 (wpS_lift (Vi ⟨rfl,?_⟩))
   refine S8 (desc (m+1) _ _ hs₂ (by exact Sv _ _) hlt λm' q nc h3 h4 iT=>?_)
   dsimp only
   split
   ·refine S8 (ek iT λIY lI=>S8 (ek lI λkW lH=>S8 (asc m' kW _ lH (by exact Sn (Sv _ _) h3) h4 λm2 kU h5 h6 lG=>?_)))
    exact SV (hq m2 kU (by exact FI (by assumption) h3 h5) h6 lG)
   ·refine S8 (ek iT λkW lH=>S8 (asc m' kW _ lH (by exact Sn (Sv _ _) h3) h4 λm2 kU h5 h6 lG=>?_))
    exact SV (hq m2 kU (by exact FI (by assumption) h3 h5) h6 lG)
 ·refine S8 (wpS_lift (Vi ⟨rfl,?_⟩))
  refine S8 (desc (m+1) _ _ hs₁ (by exact Sv _ _) hlt λm' q nc h3 h4 iT=>?_)
  dsimp only
  split
  ·refine S8 (ek iT λIY lI=>S8 (ek lI λkW lH=>S8 (asc m' kW _ lH (by exact Sn hm1 (SE h3)) h4 λm2 kU h5 h6 lG=>?_)))
   exact SV (hq m2 kU (by exact FH hm1 (by assumption) h3 h5) h6 lG)
  ·refine S8 (ek iT λkW lH=>S8 (asc m' kW _ lH (by exact Sn hm1 (SE h3)) h4 λm2 kU h5 h6 lG=>?_))
   exact SV (hq m2 kU (by exact FH hm1 (by assumption) h3 h5) h6 lG)
theorem Dm {lo n ok:Nat} {Q:Bool->SortSt->Prop} (h:SJ a₀ p₀ st) (hb:lo+n<=a₀.size) (hq:∀ st',SJ a₀ p₀ st'->Q true st'):wpS (model prog w) A E s (binarySort' lo n ok) Q st:=by
 rw [binarySort'_eq]
 refine S8 (WI (I:=λx c st'=>c=(none,())/\SJ a₀ p₀ st') (λx c st' D0 s_ hI=>?_) (λc st' hI=>?_) ⟨rfl,h⟩)
 ·refine ob0_2 hI λbM hs'=>?_;obtain rfl:=bM
  dsimp only
  refine S8 (wpS_mono (WI (I:=λy c st''=>(∃ l r,c=(none,l,r)/\l<=x/\r<=x)/\SJ a₀ p₀ st'') (Q:=λc st''=>(∃ l r,c=(none,l,r)/\l<=x/\r<=x)/\SJ a₀ p₀ st'') (λy c st'' hy1 Sd hI=>?_) (λc st'' hI=>?_) ⟨⟨0,x,rfl,Td _,Sz _⟩,hs'⟩) ?_)
  ·refine ob0_2 hI λbM qN=>ob2_3 bM λl r aA h1 h2=>?_;obtain rfl:=aA
   dsimp only
   split
   ·exact SV ⟨⟨l,r,rfl,h1,h2⟩,qN⟩
   ·refine S8 (iD qN (by exact wZ hb s_) (by exact LU hb s_ h1 h2) λb=>?_)
    cases b with
    | true=>exact SV ⟨⟨l,(l+r) / 2,rfl,h1,by exact LL h1 h2⟩,qN⟩
    | false=>exact SV ⟨⟨(l+r) / 2+1,r,rfl,by exact LJ h1 h2 (by assumption),h2⟩,qN⟩
  ·refine ob0_2 hI λbM qN=>ob2_3 bM λl r aA h1 h2=>?_;obtain rfl:=aA
   exact ⟨⟨l,r,rfl,h1,h2⟩,qN⟩
  ·rintro c st'' ⟨⟨l,r,rfl,h1,h2⟩,qN⟩
   exact S8 (Av qN λnc iT=>SV ⟨rfl,iT⟩)
 ·refine ob0_2 hI λbM hs'=>?_;obtain rfl:=bM
  exact SV (hq _ hs')
end Mine
namespace Mine
open PySem PySem.W PyProof.Rows
variable {prog:Program} {w:World} {s:Shared} {A:Around} {E:Value->Shared->Prop} {a₀:Array Keyed} {p₀:Array (Nat×Nat×Nat)} {st:SortSt}
noncomputable def uC:Bool->Keyed->Array Keyed->Nat->Nat->Nat->StateT SortSt Sem (Option Nat):=sortPriv% PySem.Builtin.gallop
noncomputable def yE:Array Keyed->Array Keyed->StateT SortSt Sem (Array Keyed):=sortPriv% PySem.Builtin.mergeLo
noncomputable def yF:Array Keyed->Array Keyed->StateT SortSt Sem (Array Keyed):=sortPriv% PySem.Builtin.mergeHi
noncomputable def gQ (xs:Array Keyed):Prop:=∀ i,(h:i<xs.size)->wL xs[i]
theorem iE {xs:Array Keyed} {i:Nat} {Q:Keyed->SortSt->Prop} (h:i<xs.size) (hq:Q xs[i] st):wpS (model prog w) A E s (elem' xs i) Q st:=by
 rw [elem'_eq,getElem?_pos xs i h]
 exact SV hq
theorem aq {α:Type} {c:Prop} [Decidable c] {t e:StateT SortSt Sem α} {Q:α->SortSt->Prop} (h1:c->wpS (model prog w) A E s t Q st) (h2:¬ c->wpS (model prog w) A E s e Q st) :
  wpS (model prog w) A E s (if c then t else e) Q st:=by
 split
 ·rename_i h;exact h1 h
 ·rename_i h;exact h2 h
theorem jl {left:Bool} {key:Keyed} {arr:Array Keyed} {base n hint:Nat} {Q:Option Nat->SortSt->Prop} (hk:kindOf st=oneType') (h1:wL key) (h2:gQ arr) (hb:base+n<=arr.size) (hh:hint<n)
  (hq:∀ k,k<=n->Q (some k) st):wpS (model prog w) A E s (uC left key arr base n hint) Q st:=by
 have beyond:∀ (i:Nat) (R:Option Bool->SortSt->Prop),i<n->(∀ b,R (some b) st)->wpS (model prog w) A E s (do
   let x<-elem' arr (base+i)
   if left=true then lt' x key else do let __do_lift<-lt' key x;pure (__do_lift.map (!·))) R st:=by
  intro i R hi hR
  have hlt:base+i<arr.size:=by exact wZ hb hi
  refine S8 (iE hlt ?_)
  cases left with
  | true=>exact j_ hk (h2 _ hlt) h1 hR
  | false=>exact S8 (j_ hk h1 (h2 _ hlt) λb=>SV (hR _))
 refine S8 (beyond hint _ hh λb=>aq (λz! => ?_) λz! => ?_)
 ·refine S8 (wpS_mono (WI (I:=λx c st'=>c.1=none/\st'=st) (Q:=λc st'=>c.1=none/\st'=st) (λx c st' z! z! hI=>?_) (λc st' hI=>hI) ⟨rfl,rfl⟩) ?_)
  ·refine ob0_2 hI λhn aC=>?_;obtain rfl:=aC
   refine aq (λz! => SV ⟨rfl,rfl⟩) λhlt=>?_
   refine S8 (beyond (hint+c.2.2) _ (by exact Mz hh hlt) λb=>?_)
   exact aq (λz! => SV ⟨rfl,rfl⟩) λz! => SV ⟨rfl,rfl⟩
  ·rintro ⟨o,c⟩ st' ⟨hc,rfl⟩
   have hc:o=none:=hc
   subst hc
   refine S8 (wpS_mono (WI (I:=λx c st''=>(c.1=none/\c.2.2<=n)/\st''=st') (Q:=λc st''=>(c.1=none/\c.2.2<=n)/\st''=st') (λx c st'' z! z! hI=>?_) (λc st'' hI=>hI) ⟨⟨rfl,by exact Mx hh⟩,rfl⟩) ?_)
   ·refine ob0_2 hI λbM aC=>ob0_2 bM λhn hn2=>?_;obtain rfl:=aC
    refine aq (λz! => SV ⟨⟨rfl,hn2⟩,rfl⟩) λhlt=>?_
    refine S8 (beyond (c.2.1+(c.2.2 - c.2.1) / 2) _ (by exact FL hn2 hlt) λb=>?_)
    exact aq (λz! => SV ⟨⟨rfl,hn2⟩,rfl⟩) λz! => SV ⟨⟨rfl,by exact FJ hn2 hlt⟩,rfl⟩
   ·rintro ⟨o,c⟩ st'' ⟨⟨hc,hn2⟩,rfl⟩
    have hc:o=none:=hc
    subst hc
    exact SV (hq _ hn2)
 ·refine S8 (wpS_mono (WI (I:=λx c st'=>c.1=none/\st'=st) (Q:=λc st'=>c.1=none/\st'=st) (λx c st' z! z! hI=>?_) (λc st' hI=>hI) ⟨rfl,rfl⟩) ?_)
  ·refine ob0_2 hI λhn aC=>?_;obtain rfl:=aC
   refine aq (λz! => SV ⟨rfl,rfl⟩) λhlt=>?_
   refine S8 (beyond (hint - c.2.2) _ (by exact T_ (UI _ _) hh) λb=>?_)
   exact aq (λz! => SV ⟨rfl,rfl⟩) λz! => SV ⟨rfl,rfl⟩
  ·rintro ⟨o,c⟩ st' ⟨hc,rfl⟩
   have hc:o=none:=hc
   subst hc
   refine S8 (wpS_mono (WI (I:=λx c st''=>(c.1=none/\c.2.2<=n)/\st''=st') (Q:=λc st''=>(c.1=none/\c.2.2<=n)/\st''=st') (λx c st'' z! z! hI=>?_) (λc st'' hI=>hI) ⟨⟨rfl,by exact Sn (UI _ _) (Tf hh)⟩,rfl⟩) ?_)
   ·refine ob0_2 hI λbM aC=>ob0_2 bM λhn hn2=>?_;obtain rfl:=aC
    refine aq (λz! => SV ⟨⟨rfl,hn2⟩,rfl⟩) λhlt=>?_
    refine S8 (beyond (c.2.1+(c.2.2 - c.2.1) / 2) _ (by exact FL hn2 hlt) λb=>?_)
    exact aq (λz! => SV ⟨⟨rfl,hn2⟩,rfl⟩) λz! => SV ⟨⟨rfl,by exact FJ hn2 hlt⟩,rfl⟩
   ·rintro ⟨o,c⟩ st'' ⟨⟨hc,hn2⟩,rfl⟩
    have hc:o=none:=hc
    subst hc
    exact SV (hq _ hn2)
structure PM (x y out:Array Keyed) (ia ib:Nat):Prop where
 perm:out.toList.Perm (x.toList.take ia++y.toList.take ib)
 ha:ia<=x.size
 hb:ib<=y.size
namespace PM
variable {x y out:Array Keyed} {ia ib k:Nat}
theorem ql (h:PM x y out ia ib) (hi:ib<y.size):PM x y (out.push y[ib]) ia (ib+1):=by
 refine ⟨?_,h.ha,hi⟩
 rw [WH,TX,U4,getElem?_pos y ib hi,Up,<- S4]
 exact h.perm.append (.refl _)
theorem pushX (h:PM x y out ia ib) (hi:ia<x.size):PM x y (out.push x[ia]) (ia+1) ib:=by
 refine ⟨?_,hi,h.hb⟩
 rw [WH,TX,U4,getElem?_pos x ia hi,Up]
 refine (h.perm.append (.refl _)).trans ?_
 rw [S4,S4]
 exact VU _ Us
theorem z3 (h:PM x y out ia ib) (hi:ia+k<=x.size):PM x y (out++x.extract ia (ia+k)) (ia+k) ib:=by
 refine ⟨?_,hi,h.hb⟩
 rw [U3,U9,Ve,List.take_add]
 refine (h.perm.append (.refl _)).trans ?_
 rw [S4,S4,show ia+k - ia=k by exact U8 _ _]
 exact VU _ Us
theorem zZ (h:PM x y out ia ib) (hi:ib+k<=y.size):PM x y (out++y.extract ib (ib+k)) ia (ib+k):=by
 refine ⟨?_,h.ha,hi⟩
 rw [U3,U9,Ve,List.take_add,show ib+k - ib=k by exact U8 _ _,<- S4]
 exact h.perm.append (.refl _)
theorem all (h:PM x y out x.size y.size):out.toList.Perm (x.toList++y.toList):=by
 have:=h.perm
 rwa [UP (by simp),UP (by simp)] at this
theorem done (h:PM x y out ia ib):(out++x.extract ia x.size++y.extract ib y.size).toList.Perm (x.toList++y.toList):=by
 have h1:=h.z3 (k:=x.size - ia) (by have:=h.ha;exact SI (UG this))
 rw [show ia+(x.size - ia)=x.size by have:=h.ha;exact UG this] at h1
 have h2:=h1.zZ (k:=y.size - ib) (by have:=h.hb;exact SI (UG this))
 rw [show ib+(y.size - ib)=y.size by have:=h.hb;exact UG this] at h2
 exact h2.all
theorem last (h:PM x y out ia ib):(out++y.extract ib y.size++x.extract ia x.size).toList.Perm (x.toList++y.toList):=by
 have h1:=h.zZ (k:=y.size - ib) (by have:=h.hb;exact SI (UG this))
 rw [show ib+(y.size - ib)=y.size by have:=h.hb;exact UG this] at h1
 have h2:=h1.z3 (k:=x.size - ia) (by have:=h.ha;exact SI (UG this))
 rw [show ia+(x.size - ia)=x.size by have:=h.ha;exact UG this] at h2
 exact h2.all
theorem nil (hy:1<=y.size):PM x y #[y[0]] 0 1:=by
 refine ⟨?_,Td _,hy⟩
 have:y.toList.take 1=[y[0]]:=by
  rw [TX,List.take_zero,U4,getElem?_pos y 0 hy];rfl
 rw [this]
 exact .refl _
end PM
structure SM (a₀:Array Keyed) (p₀:Array (Nat×Nat×Nat)) (st st':SortSt):Prop where
 sj:SJ a₀ p₀ st'
 arr:arrOf st'=arrOf st
theorem SM.Lk {st':SortSt} (h:SM a₀ p₀ st st') (g:Nat):SM a₀ p₀ st (SortSt.mk' (kindOf st') (arrOf st') (pendingOf st') g (failedOf st')) :=
 ⟨⟨h.sj.perm,h.sj.kind,h.sj.failed,h.sj.pend,h.sj.keys⟩,h.arr⟩
theorem use_jp {P C:Prop} (h:P) (k:P->C):C:=k h
theorem dI {β:Type} {xs:Array Keyed} {i:Nat} {k:Keyed->StateT SortSt Sem β} {Q:β->SortSt->Prop} (h:i<xs.size) (hq:wpS (model prog w) A E s (k xs[i]) Q st):wpS (model prog w) A E s (elem' xs i >>= k) Q st :=
 S8 (iE h hq)
theorem C2 {β:Type} {r:String} {xs:Array Keyed} {i:Nat} {c1 c2:Prop} [Decidable c1] [Decidable c2] {a1 a2:Keyed->StateT SortSt Sem β} {k:Keyed->SortSt->StateT SortSt Sem β} {Q:β->SortSt->Prop} (h:i<xs.size)
  (h1:c1->wpS (model prog w) A E s (a1 xs[i]) Q st) (h2:c2->wpS (model prog w) A E s (a2 xs[i]) Q st) (h3:¬ c1->¬ c2->wpS (model prog w) A E s (k xs[i] st) Q st) :
  wpS (model prog w) A E s ((liftM (rule r):StateT SortSt Sem Unit) >>= λz! => elem' xs i >>= λe=>if c1 then a1 e else if c2 then a2 e else get >>= k e) Q st :=
 S8 (wpS_lift (Vi ⟨rfl,dI h (aq h1 λn1=>aq h2 λn2=>S8 (wpS_get (h3 n1 n2)))⟩))
theorem b_lt {β:Type} {xs ys:Array Keyed} {i j:Nat} {k:Keyed->Keyed->Option Bool->StateT SortSt Sem β} {Q:β->SortSt->Prop} (hk:kindOf st=oneType') (h1:i<xs.size) (h2:j<ys.size) (hx:gQ xs) (hy:gQ ys)
  (hq:∀ b,wpS (model prog w) A E s (k xs[i] ys[j] (some b)) Q st):wpS (model prog w) A E s (elem' xs i >>= λp=>elem' ys j >>= λq=>lt' p q >>= k p q) Q st :=
 dI h1 (dI h2 (S8 (j_ hk (hx _ _) (hy _ _) hq)))
theorem uV {β:Type} {l:Bool} {xs ys:Array Keyed} {i base n:Nat} {k:Keyed->Option Nat->StateT SortSt Sem β} {Q:β->SortSt->Prop} (hk:kindOf st=oneType') (h1:i<xs.size) (hx:gQ xs) (hy:gQ ys) (hb:base+n<=ys.size) (hint:Nat) (hh:hint<n)
  (hq:∀ m,m<=n->wpS (model prog w) A E s (k xs[i] (some m)) Q st):wpS (model prog w) A E s (elem' xs i >>= λp=>uC l p ys base n hint >>= k p) Q st :=
 dI h1 (S8 (jl hk (hx _ _) hy hb hh hq))
noncomputable abbrev LQ {γ β:Type} (I:Nat->β->SortSt->Prop) (R1:γ->SortSt->Prop) (R2:β->SortSt->Prop) (j:Nat):ForInStep (Option γ×β)->SortSt->Prop
 | .yield (none,c),st=>I (j+1) c st
 | .yield (some _,_),_=>False
 | .done (some r,_),st=>R1 r st
 | .done (none,c),st=>R2 c st
theorem jc {γ β δ:Type} {b:Nat} {f:Nat->Option γ×β->StateT SortSt Sem (ForInStep (Option γ×β))} {k:Option γ×β->StateT SortSt Sem δ} {Q:δ->SortSt->Prop} {c0:β} (I:Nat->β->SortSt->Prop) (R1:γ->SortSt->Prop) (R2:β->SortSt->Prop)
  (h0:I 0 c0 st) (step:∀ j c st',I j c.2 st'->wpS (model prog w) A E s (f j c) (LQ I R1 R2 j) st') (fin:∀ c st',I b c st'->R2 c st')
  (k1:∀ r c st',R1 r st'->wpS (model prog w) A E s (k (some r,c)) Q st') (k2:∀ c st',R2 c st'->wpS (model prog w) A E s (k (none,c)) Q st') :
  wpS (model prog w) A E s (forIn [0:b] (none,c0) f >>= k) Q st:=by
 refine S8 (wpS_mono (WI (I:=λj c st'=>c.1=none/\I j c.2 st') (Q:=λc st'=>(∃ r,c.1=some r/\R1 r st')\/(c.1=none/\R2 c.2 st')) (λj c st' z! z! h=>wpS_mono (step j c st' h.2) λr st'' h=>?_) (λc st' h=>.inr ⟨h.1,fin _ _ (Ws (Td b)▸h.2)⟩) ⟨rfl,h0⟩) ?_)
 ·rcases r with ⟨_ | r,c⟩ | ⟨_ | r,c⟩
  ·exact .inr ⟨rfl,h⟩
  ·exact .inl ⟨_,rfl,h⟩
  ·exact ⟨rfl,h⟩
  ·exact h.elim
 ·rintro ⟨_ | r,c⟩ st' h
  ·exact k2 _ _ (h.elim (λzz=>zz.elim λz! zz=>zz.elim λe z! => nomatch e) (·.2))
  ·exact k1 _ _ _ (h.elim (λzz=>zz.elim λz! zz=>zz.elim λe h=>(UQ e).symm.subst (motive:=λr=>R1 r _) h) λh=>nomatch h.1)
structure LM (a₀:Array Keyed) (p₀:Array (Nat×Nat×Nat)) (st:SortSt) (x y:Array Keyed) (n:Nat) (out:Array Keyed) (ia ib:Nat) (st':SortSt):Prop where
 P:PM x y out ia ib
 ba:ia+1<x.size
 bb:ib<y.size
 hn:n<=ia+ib
 S:SM a₀ p₀ st st'
noncomputable abbrev LC {τ:Type} (a₀:Array Keyed) (p₀:Array (Nat×Nat×Nat)) (st:SortSt) (x y:Array Keyed) (n:Nat) (c:Array Keyed×Nat×Nat×τ) (st':SortSt):Prop:=LM a₀ p₀ st x y n c.1 c.2.1 c.2.2.1 st'
noncomputable abbrev LR (a₀:Array Keyed) (p₀:Array (Nat×Nat×Nat)) (st:SortSt) (x y r:Array Keyed) (st':SortSt):Prop:=SM a₀ p₀ st st'/\r.toList.Perm (x.toList++y.toList)
theorem bB {a b:Nat} (h:¬ (a == b)=true):a≠b:=λe=>h (beq_iff_eq.mpr e)
theorem se {x y:Array Keyed} {Q:Array Keyed->SortSt->Prop} (hk:SJ a₀ p₀ st) (hx:gQ x) (hy:gQ y) (h1:1<=x.size) (h2:1<=y.size)
  (hq:∀ out st',SM a₀ p₀ st st'->out.toList.Perm (x.toList++y.toList)->Q out st'):wpS (model prog w) A E s (yE x y) Q st:=by
 have P0:PM x y #[y[0]] 0 1:=PM.nil h2
 have S0:SM a₀ p₀ st st:=⟨hk,rfl⟩
 refine C2 h2 (λz! => SV (hq _ _ S0 P0.done)) (λz! => SV (hq _ _ S0 P0.last)) λe1 e2=>?_
 refine jc (λj=>LC a₀ p₀ st x y (1+j)) (LR a₀ p₀ st x y) (λz! z! => False) (LM.mk P0 (Tw h1 (bB e2)) (Tw h2 (bB e1)) (Sz 1) S0) (λj c st' L=>?_)
  (λc st' L=>absurd L.hn (by have:=L.ba;have:=L.bb;exact Ml (by assumption) this)) (λr c st' h=>SV (hq _ _ h.1 h.2)) λz! z! h=>h.elim
 refine jc (λi=>LC a₀ p₀ st x y (1+j+i)) (LR a₀ p₀ st x y) (LC a₀ p₀ st x y (1+j+1)) L (λi c st' L=>?_)
  (λc st' L=>LM.mk L.P L.ba L.bb (Sn (Ue (W0 h1) _) L.hn) L.S) (λr c st' h=>SV h) λc st' L=>?_
 ·refine b_lt L.S.sj.kind L.bb (U6 L.ba) hy hx λb=>?_
  refine aq (λz! => dI L.bb ?_) (λz! => dI (U6 L.ba) ?_)
  ·have P':=L.P.ql L.bb
   refine aq (λz! => SV ⟨L.S,P'.done⟩) λhne=>?_
   have hb':=Tw L.bb (bB hne)
   have hl:=TZ L.hn
   exact aq (λz! => SV (LM.mk P' L.ba hb' (Sn (TZ (TA ..)) hl) L.S)) λz! => SV (LM.mk P' L.ba hb' hl L.S)
  ·have P':=L.P.pushX (U6 L.ba)
   refine aq (λz! => SV ⟨L.S,P'.last⟩) λhne=>?_
   have ha':=Tw L.ba (bB hne)
   have hl:=Sn (TZ L.hn) (SI (Nat.succ_add ..).symm)
   exact aq (λz! => SV (LM.mk P' ha' L.bb (Sn (TZ (TA ..)) hl) L.S)) λz! => SV (LM.mk P' ha' L.bb hl L.S)
 ·refine S8 (wpS_lift (Vi ⟨rfl,?_⟩))
  refine jc (λz! => LC a₀ p₀ st x y (1+j+1)) (LR a₀ p₀ st x y) (LC a₀ p₀ st x y (1+j+1)) L (λi c st' L=>?_)
   (λz! z! h=>h) (λr c st' h=>SV h) λc st' L=>S8 (WL (SV (LM.mk L.P L.ba L.bb L.hn (L.S.Lk _))))
  extract_lets s1 o1 s2 a1 s3 b1 s4 g1 s5 c1 d1 b2 DT g2
  refine use_jp (P:=∀ u mg,wpS (model prog w) A E s (DT u mg) _ st') (λu mg=>?_) λh1=>aq (λz! => h1 () _) (λz! => h1 () _)
  refine S8 (WL ?_)
  have S':=L.S.Lk mg
  have la:=U6 L.ba
  refine uV S'.sj.kind L.bb hy hx (SI (VJ (Tf la))) _ (Xa la) λk hk0=>?_
  dsimp -zeta only
  extract_lets ac K6 o3 a3
  refine use_jp (P:=∀ u out ia,PM x y out ia b1->ia+1<x.size->1+j+1<=ia+b1->wpS (model prog w) A E s (K6 u out ia) _ _) (λu out ia P1 Lm hn1=>?_) λh2=>aq (λz! => ?_) (λz! => h2 () _ _ L.P L.ba L.hn)
  ·refine dI L.bb ?_
   have P2:=P1.ql L.bb
   refine aq (λz! => SV ⟨S',P2.done⟩) (λhne=>?_)
   have E5:b1+1<y.size:=Tw L.bb (bB hne)
   refine uV S'.sj.kind (U6 Lm) hx hy (SI (VJ (Tf E5))) _ (Xa E5) λk1 hk1=>?_
   dsimp -zeta only
   extract_lets bc a5 Nj o4 b4
   refine use_jp (P:=∀ u out ib,PM x y out ia ib->ib<y.size->1+j+1<=ia+ib->wpS (model prog w) A E s (Nj u out ib) _ _) (λu out ib P3 Og ND=>?_) λh3=>aq (λz! => ?_) (λz! => h3 () _ _ P2 E5 (S5 hn1))
   ·refine dI (U6 Lm) ?_
    have P4:=P3.pushX (U6 Lm)
    refine aq (λz! => SV ⟨S',P4.last⟩) (λD9=>?_)
    have R:=LM.mk P4 (Tw Lm (bB D9)) Og (Sn ND (Uz (Uw _) _)) S'
    exact aq (λz! => SV R) λz! => SV R
   ·have JQ:b1+1+k1<=y.size:=Sn (Ue hk1 _) (SI (VJ (Tf E5)))
    have P3:=P2.zZ (k:=k1) JQ
    exact aq (λz! => SV ⟨S',P3.done⟩) λNB=>h3 () _ _ P3 (Tw JQ (bB NB)) (Sn hn1 (Ue (Sn (Uw _) (TA ..)) _))
  ·have JR:a1+k<=x.size:=Sn (Ue hk0 _) (SI (VJ (Tf la)))
   have P1:=L.P.z3 (k:=k) JR
   refine aq (λz! => SV ⟨S',P1.last⟩) (λD_=>?_)
   refine aq (λz! => SV ⟨S',P1.done⟩) (λNC=>?_)
   exact h2 () _ _ P1 (Tw (Tw JR (bB NC)) (bB D_)) (Sn L.hn (Uz (TA ..) _))
end Mine
namespace Mine
open PySem PySem.W PyProof.Rows
variable {prog:Program} {w:World} {s:Shared} {A:Around} {E:Value->Shared->Prop} {a₀:Array Keyed} {p₀:Array (Nat×Nat×Nat)} {st:SortSt}
structure PH (x y out:Array Keyed) (na nb:Nat):Prop where
 perm:out.toList.Perm (x.toList.drop na++y.toList.drop nb)
 ha:na<=x.size
 hb:nb<=y.size
namespace PH
variable {x y out:Array Keyed} {na nb k:Nat}
theorem pushX (h:PH x y out na nb) (hn:1<=na) (hi:na - 1<x.size):PH x y (out.push x[na - 1]) (na - 1) nb:=by
 refine ⟨?_,by exact Tf hi,h.hb⟩
 have e:x.toList.drop (na - 1)=x[na - 1]::x.toList.drop na:=by
  have:=List.getElem_cons_drop (as:=x.toList) (i:=na - 1) (by simpa using hi)
  rw [<- this,show na - 1+1=na by exact UD hn];simp
 rw [WH,e]
 refine (Us).trans ?_
 exact h.perm.cons _
theorem ql (h:PH x y out na nb) (hn:1<=nb) (hi:nb - 1<y.size):PH x y (out.push y[nb - 1]) na (nb - 1):=by
 refine ⟨?_,h.ha,by exact Tf hi⟩
 have e:y.toList.drop (nb - 1)=y[nb - 1]::y.toList.drop nb:=by
  have:=List.getElem_cons_drop (as:=y.toList) (i:=nb - 1) (by simpa using hi)
  rw [<- this,show nb - 1+1=nb by exact UD hn];simp
 rw [WH,e]
 refine (Us).trans ?_
 refine (h.perm.cons _).trans ?_
 exact List.perm_middle.symm
theorem i8 {l:List Keyed} {i j:Nat} (h:i<=j):l.drop i=(l.drop i).take (j - i)++l.drop j:=by
 have:=Ur (j - i) (l.drop i)
 rw [List.drop_drop,show i+(j - i)=j by exact UG h] at this
 exact this.symm
theorem z3 (h:PH x y out na nb) (hi:k<=na):PH x y (out++(x.extract k na).reverse) k nb:=by
 refine ⟨?_,Sn hi h.ha,h.hb⟩
 have e:=i8 (l:=x.toList) hi
 rw [U3,Array.toList_reverse,U9,Ve]
 generalize (x.toList.drop k).take (na - k)=T at e ⊢
 rw [e]
 refine (Us).trans ?_
 rw [S4]
 exact (List.reverse_perm _).append h.perm
theorem zZ (h:PH x y out na nb) (hi:k<=nb):PH x y (out++(y.extract k nb).reverse) na k:=by
 refine ⟨?_,h.ha,Sn hi h.hb⟩
 have e:=i8 (l:=y.toList) hi
 rw [U3,Array.toList_reverse,U9,Ve]
 generalize (y.toList.drop k).take (nb - k)=T at e ⊢
 rw [e]
 refine (Us).trans ?_
 refine ((List.reverse_perm _).append h.perm).trans ?_
 rw [<- S4,<- S4]
 exact X7 _ Us
theorem done (h:PH x y out na nb):(x.extract 0 na++y.extract 0 nb++out.reverse).toList.Perm (x.toList++y.toList):=by
 simp only [U3,Array.toList_reverse,U9,Ve,VK,Nat.sub_zero]
 refine (VU _ ((List.reverse_perm _).trans h.perm)).trans ?_
 have e1:=Ur na x.toList
 have e2:=Ur nb y.toList
 conv=>rhs;rw [<- e1,<- e2]
 rw [S4,S4]
 refine VU _ ?_
 rw [<- S4,<- S4]
 exact X7 _ Us
theorem first (h:PH x y out na nb):(y.extract 0 nb++x.extract 0 na++out.reverse).toList.Perm (x.toList++y.toList):=by
 refine List.Perm.trans ?_ h.done
 simp only [U3]
 exact X7 _ Us
theorem nil (hx:1<=x.size):PH x y #[x[x.size - 1]'(WK hx V0)] (x.size - 1) y.size:=by
 refine ⟨?_,UI ..,Sz _⟩
 rw [Xu (l:=x.toList) (i:=x.size - 1) (WK hx V0),UD hx,Ug (SI x.length_toList),Ug (SI y.length_toList)]
 exact .refl _
end PH
structure LH (a₀:Array Keyed) (p₀:Array (Nat×Nat×Nat)) (st:SortSt) (x y:Array Keyed) (n na nb:Nat) (out:Array Keyed) (st':SortSt):Prop where
 P:PH x y out na nb
 ba:1<=na
 bb:2<=nb
 hn:na+nb+n<=x.size+y.size
 S:SM a₀ p₀ st st'
noncomputable abbrev LD {τ:Type} (a₀:Array Keyed) (p₀:Array (Nat×Nat×Nat)) (st:SortSt) (x y:Array Keyed) (n:Nat) (c:Nat×Nat×Array Keyed×τ) (st':SortSt):Prop:=LH a₀ p₀ st x y n c.1 c.2.1 c.2.2.1 st'
theorem LH.la {x y out:Array Keyed} {n na nb:Nat} {st':SortSt} (h:LH a₀ p₀ st x y n na nb out st'):na - 1<x.size:=Su (WK h.ba V0) h.P.ha
theorem LH.lb {x y out:Array Keyed} {n na nb:Nat} {st':SortSt} (h:LH a₀ p₀ st x y n na nb out st'):nb - 1<y.size:=Su (WK (SE h.bb) V0) h.P.hb
theorem Kw {a b n m:Nat} (ha:1<=a) (h:a+b+n<=m):a - 1+b+(n+1)<=m:=by exact Mq ha h
theorem Kv {a b n m:Nat} (ha:2<=b) (h:a+b+n<=m):a+(b - 1)+(n+1)<=m:=by exact Mm ha h
theorem less {a b n i m:Nat} (h:a+b+(n+i+1)<=m):a+b+(n+1)<=m:=by exact Mh h
theorem ne1 {a:Nat} (h:2<=a) (n:¬ (a - 1 == 1)=true):2<=a - 1:=Tw (Nat.le_pred_of_lt h) (bB n).symm
theorem Fl {a:Nat} (n:¬ (a == 0)=true):1<=a:=T7 (bB n)
theorem sf {x y:Array Keyed} {Q:Array Keyed->SortSt->Prop} (hk:SJ a₀ p₀ st) (hx:gQ x) (hy:gQ y) (h1:1<=x.size) (h2:1<=y.size)
  (hq:∀ out st',SM a₀ p₀ st st'->out.toList.Perm (x.toList++y.toList)->Q out st'):wpS (model prog w) A E s (yF x y) Q st:=by
 have hh:=WK h1 V0
 have P0:PH x y #[x[x.size - 1]] (x.size - 1) y.size:=PH.nil h1
 have S0:SM a₀ p₀ st st:=⟨hk,rfl⟩
 have hn0:x.size - 1+y.size+1<=x.size+y.size:=by exact Tj (UB hh _)
 refine C2 hh (λz! => SV (hq _ _ S0 P0.done)) (λz! => SV (hq _ _ S0 P0.first)) λe1 e2=>?_
 refine jc (λj=>LD a₀ p₀ st x y (1+j)) (LR a₀ p₀ st x y) (λz! z! => False) (LH.mk P0 (Fl e1) (Tw h2 (bB e2).symm) hn0 S0) (λj c st' L=>?_)
  (λc st' L=>absurd L.hn (by have:=L.ba;have:=L.bb;exact Mc)) (λr c st' h=>SV (hq _ _ h.1 h.2)) λz! z! h=>h.elim
 refine jc (λi=>LD a₀ p₀ st x y (1+j+i)) (LR a₀ p₀ st x y) (LD a₀ p₀ st x y (1+j+1)) L (λi c st' L=>?_)
  (λc st' L=>LH.mk L.P L.ba L.bb (Sn (Ue (Ue (W0 h1) _) _) L.hn) L.S) (λr c st' h=>SV h) λc st' L=>?_
 ·refine b_lt L.S.sj.kind L.lb L.la hy hx λb=>?_
  refine aq (λz! => dI L.la ?_) (λz! => dI L.lb ?_)
  ·have P':=L.P.pushX L.ba L.la
   refine aq (λz! => SV ⟨L.S,P'.done⟩) λhne=>?_
   have hl:=Kw L.ba L.hn
   exact aq (λz! => SV (LH.mk P' (Fl hne) L.bb (less hl) L.S)) λz! => SV (LH.mk P' (Fl hne) L.bb hl L.S)
  ·have P':=L.P.ql (SE L.bb) L.lb
   refine aq (λz! => SV ⟨L.S,P'.first⟩) λhne=>?_
   have hb':=ne1 L.bb hne
   have hl:=Kv L.bb L.hn
   exact aq (λz! => SV (LH.mk P' L.ba hb' (less hl) L.S)) λz! => SV (LH.mk P' L.ba hb' hl L.S)
 ·refine S8 (wpS_lift (Vi ⟨rfl,?_⟩))
  refine jc (λz! => LD a₀ p₀ st x y (1+j+1)) (LR a₀ p₀ st x y) (LD a₀ p₀ st x y (1+j+1)) L (λi c st' L=>?_)
   (λz! z! h=>h) (λr c st' h=>SV h) λc st' L=>S8 (WL (SV (LH.mk L.P L.ba L.bb L.hn (L.S.Lk _))))
  have hz:∀ n,0+n=n:=U5
  extract_lets s1 a1 s2 b1 s3 o1 s4 g1 s5 c1 d1 b2 DT g2
  refine use_jp (P:=∀ u mg,wpS (model prog w) A E s (DT u mg) _ st') (λu mg=>?_) λh1=>aq (λz! => h1 () _) (λz! => h1 () _)
  refine S8 (WL ?_)
  have S':=L.S.Lk mg
  refine uV S'.sj.kind L.lb hy hx (Sn (SI (hz _)) L.P.ha) _ (WK L.ba V0) λt ht=>?_
  dsimp -zeta only
  extract_lets k ac K6 o3
  refine use_jp (P:=∀ u na out,LH a₀ p₀ st x y (1+j+1) na b1 out st'->wpS (model prog w) A E s (K6 u na out) _ _) (λu na out L1=>?_) λh2=>aq (λz! => ?_) (λz! => h2 () _ _ L)
  ·refine dI L.lb ?_
   have P2:=L1.P.ql (SE L.bb) L.lb
   refine aq (λz! => SV ⟨S',P2.first⟩) (λhne=>?_)
   have E5:=ne1 L.bb hne
   refine uV S'.sj.kind L1.la hx hy (Sn (SI (hz _)) P2.hb) _ (WK (SE E5) V0) λt1 ht1=>?_
   dsimp -zeta only
   extract_lets k1 bc a5 Nj o4
   refine use_jp (P:=∀ u nb out,PH x y out na nb->2<=nb->nb<=b1->wpS (model prog w) A E s (Nj u nb out) _ _) (λu nb out P3 Og NQ=>?_) λh3=>aq (λz! => ?_) (λz! => h3 () _ _ P2 E5 (UI ..))
   ·refine dI L1.la ?_
    have P4:=P3.pushX L1.ba L1.la
    refine aq (λz! => SV ⟨S',P4.done⟩) (λD9=>?_)
    have R:=LH.mk P4 (Fl D9) Og (Sn (Uz (VL (UI ..) NQ) _) L1.hn) S'
    exact aq (λz! => SV R) λz! => SV R
   ·have P3:=P2.zZ (k:=t1) ht1
    refine aq (λz! => SV ⟨S',P3.first⟩) λn1=>?_
    refine aq (λz! => SV ⟨S',P3.done⟩) λn0=>?_
    exact h3 () _ _ P3 (Tw (Fl n0) (bB n1).symm) (Sn ht1 (UI ..))
  ·have P1:=L.P.z3 (k:=t) ht
   refine aq (λz! => SV ⟨S',P1.done⟩) (λD_=>?_)
   exact h2 () _ _ (LH.mk P1 (Fl D_) L.bb (Sn (Uz (Uz ht _) _) L.hn) L.S)
end Mine
namespace Mine
open PySem PySem.W PyProof.Rows
variable {prog:Program} {w:World} {s:Shared} {A:Around} {E:Value->Shared->Prop} {a₀:Array Keyed} {p₀:Array (Nat×Nat×Nat)} {st:SortSt}
theorem qk {α:Type}:∀ (ys:List α) (c b:Nat) (a:Array α),b+c+ys.length<=a.size ->
  ((ys.zipIdx c).foldl (λa (x:α×Nat)=>a.setIfInBounds (b+x.2) x.1) a).toList=a.toList.take (b+c)++ys++a.toList.drop (b+c+ys.length)
 | [],c,b,a,h=>by simp
 | y::ys,c,b,a,h=>by
  rw [List.zipIdx_cons,Vx]
  have hlt:b+c<a.size:=by simp at h;exact Ms h
  rw [qk ys (c+1) b _ (by rw [Array.size_setIfInBounds];simp at h;exact Mp h)]
  have e1:(a.setIfInBounds (b+c) y).toList=a.toList.set (b+c) y:=by simp
  rw [e1,show b+(c+1)=b+c+1 by exact rfl,List.drop_set_of_lt (by exact TH (SN (TA _ _)))]
  rw [TX,List.getElem?_set_self (by simpa using hlt),Up,List.take_set_of_le (Sz _)]
  simp only [Tr,S4,Vb,V6]
  rw [show b+c+1+ys.length=b+c+(ys.length+1) by exact Vz _ _ _]
theorem gQ.extract {xs:Array Keyed} {i j:Nat} (h:gQ xs):gQ (xs.extract i j):=λk hk=>by
 rw [Array.getElem_extract]
 exact h _ _
theorem SJ.all (h:SJ a₀ p₀ st):gQ (arrOf st):=λi hi=>by
 refine ob1_2 (h.at (i:=i) (by rw [<- h.size];exact hi)) λx e hx=>?_
 rw [getElem?_pos _ i hi] at e
 cases e
 exact hx
theorem Au {st':SortSt} {Q:PUnit->SortSt->Prop} (h:Q ⟨⟩ st'):wpS (model prog w) A E s (set st':StateT SortSt Sem PUnit) Q st:=by
 unfold wpS;rw [StateT.run_set];exact Sm ⟨rfl,h⟩
set_option maxHeartbeats 1600000 in
theorem sr {n1 n2 pw z:Nat} {Q:Bool->SortSt->Prop} (h:SJ a₀ #[(0,n1,pw),(n1,n2,z)] st) (h1:1<=n1) (h2:1<=n2) (hn:n1+n2=a₀.size) (hq:∀ st',SJ a₀ #[(0,n1+n2,pw)] st'->Q true st') :
  wpS (model prog w) A E s (mergeAt' 0) Q st:=by
 have hp:=h.pend
 have hsz:=h.size
 have hall:=h.all
 have dJ:=h.perm
 have hkind:=h.kind
 have JY:=h.failed
 have hkeys:=h.keys
 clear h
 cases st
 rename_i kd ar pd mg fl
 replace hp:pd = #[(0,n1,pw),(n1,n2,z)]:=hp
 replace hsz:ar.size=a₀.size:=hsz
 replace hall:gQ ar:=hall
 replace dJ:ar.Perm a₀:=dJ
 subst hp
 have QN:((#[(0,n1,pw),(n1,n2,z)]:Array (Nat×Nat×Nat)).setIfInBounds 0 (0,n1+n2,pw)).eraseIdxIfInBounds (0+1) = #[(0,n1+n2,pw)]:=by simp [Array.eraseIdxIfInBounds]
 refine S8 (wpS_get ?_)
 refine S8 (Au ?_)
 have S0:SJ a₀ #[(0,n1+n2,pw)] (SortSt.mk' kd ar (((#[(0,n1,pw),(n1,n2,z)]:Array (Nat×Nat×Nat)).setIfInBounds 0 (0,n1+n2,pw)).eraseIdxIfInBounds (0+1)) mg fl):=⟨dJ,hkind,JY,QN,hkeys⟩
 have hlt:n1<ar.size:=by exact Mj h2 hn hsz
 refine S8 (iE hlt ?_)
 refine S8 (jl hkind (hall _ hlt) hall (show 0+n1<=ar.size by exact Mf h2 hn hsz) (by exact TH (SN h1)) λk hk=>?_)
 refine aq (λe=>SV (hq _ S0)) (λe=>?_)
 simp only [beq_iff_eq] at e
 have JK:0+k+(n1 - k) - 1<ar.size:=by exact Me h1 h2 hn hsz e
 refine S8 (iE JK ?_)
 refine S8 (jl hkind (hall _ JK) hall (show n1+n2<=ar.size by exact Ma hn hsz) (by exact Mv h2) λk2 hk2=>?_)
 refine aq (λe=>SV (hq _ S0)) (λe2=>?_)
 simp only [beq_iff_eq] at e2
 have hx:gQ (ar.extract (0+k) n1):=hall.extract
 have hy:gQ (ar.extract n1 (n1+k2)):=hall.extract
 have hxs:(ar.extract (0+k) n1).size=n1 - k:=by simp;exact L7 h2 hn hsz e
 have hys:(ar.extract n1 (n1+k2)).size=k2:=by simp;exact LZ h2 hn hsz hk2 e2
 have fin:∀ (out:Array Keyed) (st':SortSt),SJ a₀ #[(0,n1+n2,pw)] st'->arrOf st'=ar->out.toList.Perm ((ar.extract (0+k) n1).toList++(ar.extract n1 (n1+k2)).toList) ->
   SJ a₀ #[(0,n1+n2,pw)] (setArr st' ((out.toList.zipIdx 0).foldl (λa (x:Keyed×Nat)=>a.setIfInBounds (0+k+x.2) x.1) (arrOf st'))):=by
  intro out st' hS ea hp
  refine hS.setArr ?_
  rw [Xl,ea]
  have hlen:out.toList.length=n1 - k+k2:=by
   rw [hp.length_eq,SY,Ud,Ud,hxs,hys]
  rw [qk out.toList 0 (0+k) ar (by rw [hlen];exact LW hn hsz e hk2),hlen]
  refine ((VU _ hp).append (.refl _)).trans ?_
  have e1:=PH.i8 (l:=ar.toList) (i:=k) (j:=n1) (by exact hk)
  have e2:=PH.i8 (l:=ar.toList) (i:=n1) (j:=n1+k2) (by exact TA _ _)
  have e3:=Ur k ar.toList
  simp only [U9,Ve,U5,Nat.add_zero]
  rw [show n1+k2 - n1=k2 by exact U8 _ _] at e2 ⊢
  rw [show k+(n1 - k+k2)=n1+k2 by exact LV e]
  conv=>rhs;rw [<- e3,e1,e2]
  simp only [S4]
  exact .refl _
 refine aq (λz! => ?_) (λz! => ?_)
 ·refine S8 (se S0 hx hy (by rw [hxs];exact Tj (T7 e)) (by rw [hys];exact Tj (T7 e2)) λout st' hS hp=>?_)
  refine S8 (WL (S8 (wpS_get (SV ?_))))
  have hf:=fin out st' hS.sj hS.arr hp
  have hfl:=hf.failed
  show Q (failedOf (setArr st' ((out.toList.zipIdx 0).foldl (λa (x:Keyed×Nat)=>a.setIfInBounds (0+k+x.2) x.1) (arrOf st')))).isNone _
  rw [hfl]
  exact hq _ hf
 ·refine S8 (sf S0 hx hy (by rw [hxs];exact Tj (T7 e)) (by rw [hys];exact Tj (T7 e2)) λout st' hS hp=>?_)
  refine S8 (WL (S8 (wpS_get (SV ?_))))
  have hf:=fin out st' hS.sj hS.arr hp
  have hfl:=hf.failed
  show Q (failedOf (setArr st' ((out.toList.zipIdx 0).foldl (λa (x:Keyed×Nat)=>a.setIfInBounds (0+k+x.2) x.1) (arrOf st')))).isNone _
  rw [hfl]
  exact hq _ hf
end Mine
namespace Mine
open PySem PySem.W PyProof.Rows
variable {prog:Program} {w:World} {s:Shared} {A:Around} {E:Value->Shared->Prop} {a₀:Array Keyed} {p₀:Array (Nat×Nat×Nat)} {st:SortSt}
theorem oM {n:Nat} (h2:2<=n) (h:n<128):1<=minRun' n n 0/\n<=2 * minRun' n n 0/\minRun' n n 0<=n:=by
 obtain ⟨f,rfl⟩:∃ f,n=f+1:=⟨n - 1,by exact Eq.symm (UD (SE h2))⟩
 rw [minRun'_succ]
 by_cases h64:f+1<64
 ·rw [if_pos h64]
  exact ⟨by exact Sv _ _,by exact Mn,by exact Sz _⟩
 ·rw [if_neg h64]
  obtain ⟨g,rfl⟩:∃ g,f=g+1:=⟨f - 1,by exact Eq.symm (UD (Nat.le_of_succ_le_succ h2))⟩
  rw [minRun'_succ,if_pos (by exact Mk h)]
  have:max 0 ((g+1+1) % 2)=(g+1+1) % 2:=Ws (Td _)
  rw [this]
  exact ⟨by exact Mg,Sn (SI (Nat.div_add_mod ..).symm) (Sn (Ue (Nat.le_mul_of_pos_left _ (by decide)) _) (SI (Nat.mul_add ..).symm)),by exact L_ h64⟩
theorem SJ.push (h:SJ a₀ p₀ st) (x:Nat×Nat×Nat):SJ a₀ (p₀.push x) (setPending st ((pendingOf st).push x)):=⟨h.perm,h.kind,h.failed,by show (pendingOf st).push x=_;rw [h.pend],h.keys⟩
noncomputable def Ou (a₀:Array Keyed) (st:SortSt):Prop:=∃ n1 n2 pw,1<=n1/\1<=n2/\n1+n2=a₀.size/\SJ a₀ #[(0,n1,pw),(n1,n2,0)] st
structure One (a₀:Array Keyed) (mr x n:Nat) (st:SortSt):Prop where
 h1:1<=n
 h2:n<=a₀.size
 h3:a₀.size<=n+mr
 h4:1<=x
 h5:x=1\/n=a₀.size
 J:SJ a₀ #[(0,n,0)] st
noncomputable def SR (a₀:Array Keyed) (mr x lo:Nat) (st:SortSt):Prop:=(x=0/\lo=0/\SJ a₀ #[] st)\/One a₀ mr x lo st\/(2<=x/\lo=a₀.size/\Ou a₀ st)
theorem rA {β:Type} {k:SortSt->StateT SortSt Sem β} {Q:β->SortSt->Prop} (h:wpS (model prog w) A E s (k st) Q st):wpS (model prog w) A E s (get >>= k) Q st:=S8 (wpS_get h)
theorem C1 {β:Type} {p:Array (Nat×Nat×Nat)} {lo n:Nat} {k:Option Nat->StateT SortSt Sem β} {Q:β->SortSt->Prop} (h:SJ a₀ p st) (h1:1<=n) (h2:lo+n<=a₀.size) (hq:∀ m st',1<=m->m<=n->SJ a₀ p st'->wpS (model prog w) A E s (k (some m)) Q st') :
  wpS (model prog w) A E s (countRun' lo n >>= k) Q st:=S8 (Dl h h1 h2 hq)
theorem C3 {β:Type} {p:Array (Nat×Nat×Nat)} {lo n m:Nat} {r:String} {k:Bool->StateT SortSt Sem β} {Q:β->SortSt->Prop} (h:SJ a₀ p st) (h2:lo+n<=a₀.size) (hq:∀ st',SJ a₀ p st'->wpS (model prog w) A E s (k true) Q st') :
  wpS (model prog w) A E s ((liftM (rule r):StateT SortSt Sem Unit) >>= λz! => binarySort' lo n m >>= k) Q st:=S8 (wpS_lift (Vi ⟨rfl,S8 (Dm h h2 hq)⟩))
theorem Dq {m n1 mr a:Nat} (h:¬ m<mr) (h2:m<=a - n1) (h3:a<=n1+mr):m=a - n1:=by exact L8 h h2 h3
theorem qe {Q:Unit->SortSt->Prop} (h:SJ a₀ #[] st) (h2:2<=a₀.size) (qQ:a₀.size<128) (hq:∀ st' p,SJ a₀ p st'->Q () st'):wpS (model prog w) A E s sortRuns' Q st:=by
 refine ob0_3 (oM h2 qQ) λm1 m2 m3=>?_
 rw [sortRuns'_eq]
 refine rA ?_
 rw [h.size]
 generalize hmr:minRun' a₀.size a₀.size 0=mr at m1 m2 m3
 refine jc (λx=>SR a₀ mr x) (λz! z! => False) (λz! st'=>SJ a₀ #[(0,a₀.size,0)] st'\/Ou a₀ st') (.inl ⟨rfl,rfl,h⟩) (λx c st' hI=>?_) (λc st' hI=>?_) (λz! z! z! h=>h.elim) λc st' hc=>?_
 ·rcases hI with ⟨_,h0,hs⟩ | hI | ⟨_,h1,hs⟩
  ·have hlt:c.2<a₀.size:=by rw [h0];exact Su Nat.zero_lt_two h2
   refine aq (λh=>absurd h (Nat.not_le_of_lt hlt)) λz! => ?_
   have hle:=VJ (Tf hlt)
   have hz:a₀.size - c.2=a₀.size:=by rw [h0];rfl
   refine C1 hs (Xa hlt) (SI hle) λm kX b1 b2 hs₁=>?_
   dsimp -zeta only
   extract_lets n0 DT fc
   refine use_jp (P:=∀ u n st',1<=n->n<=a₀.size->a₀.size<=n+mr->SJ a₀ #[] st'->wpS (model prog w) A E s (DT u n) _ st') (λu n st' c1 c2 c3 hs'=>?_) λhj=>aq (λhm=>?_) (λhm=>hj () _ _ b1 (hz▸b2) (Sn (Sn m2 (by rw [Nat.two_mul];exact Sz _)) (Uz (hmr▸Ua hm) _)) hs₁)
   ·refine rA ?_
    have hb:(pendingOf st').back? = none:=by rw [hs'.pend];rfl
    rw [hb]
    exact S8 (WL (SV (.inr (.inl ⟨(by rw [h0,U5];exact c1),(by rw [h0,U5];exact c2),(by rw [h0,U5];exact c3),Sv ..,.inl (by exact Ub (TZ (SI (by assumption))) (Sv _ _)),(by rw [h0,U5];exact hs'.push _)⟩))))
   ·have hf:fc=mr:=by show min (a₀.size - c.2) (minRun' a₀.size a₀.size 0)=mr;rw [hmr,hz];exact Nat.min_eq_right m3
    refine C3 hs₁ (by show c.2+fc<=_;rw [hf,h0,U5];exact m3) λfQ hs₂=>?_
    exact aq (λh=>absurd h (by decide)) λz! => hj () fc _ (by rw [hf];exact m1) (by rw [hf];exact m3) (by rw [hf,<- Nat.two_mul];exact m2) hs₂
  ·refine aq (λhlo=>SV (.inl (Ub hI.h2 hlo▸hI.J))) λhlo=>?_
   have hlt:c.2<a₀.size:=UX hlo
   have hle:=VJ (Tf hlt)
   refine C1 hI.J (Xa hlt) (SI hle) λm kX b1 b2 hs₁=>?_
   dsimp -zeta only
   extract_lets n0 DT fc
   refine use_jp (P:=∀ u n st',1<=n->n=a₀.size - c.2->SJ a₀ #[(0,c.2,0)] st'->wpS (model prog w) A E s (DT u n) _ st') (λu n st' c1 c2 hs'=>?_) λhj=>aq (λhm=>?_) (λhm=>hj () _ _ b1 (Dq (hmr▸hm) b2 hI.h3) hs₁)
   ·refine rA ?_
    have hb:(pendingOf st').back? = some (0,c.2,0):=by rw [hs'.pend];rfl
    have hn:c.2+n=a₀.size:=by rw [c2];exact hle
    rw [hb]
    dsimp -zeta only
    extract_lets lo2 K6 pw
    refine jc (λz! z! st'=>SJ a₀ #[(0,c.2,0)] st') (λz! z! => False) (λz! st'=>SJ a₀ #[(0,c.2,0)] st') hs' (λx c' st' hI=>rA ?_) (λz! z! h=>h) (λz! z! z! h=>h.elim) λz! st' hs'=>?_
    ·extract_lets p
     have hp:(if p.size > 1 then p[p.size - 2]? else none)=none:=if_neg (by show ¬ (pendingOf st').size > 1;rw [hI.pend];exact Tc 1)
     rw [hp]
     exact SV hI
    ·refine S8 (WL (S8 (WL (SV (.inr (.inr ⟨TZ hI.h4,hn,c.2,n,pw,hI.h1,c1,hn,hs'.perm,hs'.kind,hs'.failed,?_,hs'.keys⟩))))))
     show ((pendingOf st').modify _ _).push _=_
     rw [hs'.pend]
     rfl
   ·have hf:fc=a₀.size - c.2:=by
     show min (a₀.size - c.2) (minRun' a₀.size a₀.size 0)=_
     rw [hmr];exact V8 (Nat.sub_le_iff_le_add'.mpr hI.h3)
    refine C3 hs₁ (by show c.2+fc<=_;rw [hf];exact SI hle) λfQ hs₂=>?_
    exact aq (λh=>absurd h (by decide)) λz! => hj () fc _ (by rw [hf];exact Xa hlt) hf hs₂
  ·exact aq (λz! => SV (.inr hs)) λh=>absurd (SI h1.symm) h
 ·rcases hI with ⟨QA,_,hs⟩ | hI | ⟨_,h1,hs⟩
  ·exact absurd QA (by exact Vv (U6 (TH (SN h2))))
  ·exact .inl ((show c=a₀.size by have:=hI.h5;have:=hI.h2;exact L5 h2 (by assumption))▸hI.J)
  ·exact .inr hs
 ·refine jc (λz! z! st'=>(∃ p,SJ a₀ #[p] st')\/Ou a₀ st') (λz! z! => False) (λz! st'=>∃ p,SJ a₀ p st') (hc.imp (⟨_,·⟩) id) (λx c st'' hI=>rA ?_) (λc st'' hI=>?_) (λz! z! z! h=>h.elim) λ_ _ zz=>zz.elim λp h=>SV (hq _ p h)
  ·rcases hI with ⟨p,hs⟩ | ⟨n1,n2,pw,a1,a2,a3,hs⟩
   ·rw [if_pos (by rw [hs.pend];exact Sz 1)]
    exact SV ⟨_,hs⟩
   ·have hz:(pendingOf st'').size=2:=by rw [hs.pend];rfl
    rw [if_neg (by rw [hz];decide),hz]
    exact S8 (sr hs a1 a2 a3 λnc iT=>SV (.inl ⟨_,iT⟩))
  ·rcases hI with ⟨p,hs⟩ | ⟨n1,n2,pw,a1,a2,a3,hs⟩
   ·exact ⟨_,hs⟩
   ·exact ⟨_,hs⟩
end Mine
namespace Mine
open PySem PySem.W PyProof.Rows
variable {G:Glob} {F:Fm} {ρ ρ':List (Str×PV)} {W:List Addr} {Rs ak:List Res} {s s':Shared} {b:Addr} {ks:List Str} {A:Around} {E:Value->Shared->Prop}
theorem nY {a:Addr} {vs:List Value} {ss:List Str} {n:Nat} {P:Ye->Shared->Prop} (ho:s.heap.get? a=some (seqObj "list" vs.toArray n)) (hS:StrsAre vs ss) (qQ:vs.length<128)
  (h:∀ out:Array Value,out.toList.Perm vs->P (.done (.ret .none)) {s with heap:=sortedHeap s.heap a vs out}):wpAny G.M A (Builtin.«list.sort» ⟨[.ref a],[]⟩) P E s:=by
 rw [list_sort_plain]
 have ha:a<s.heap.objs.size:=Te ho
 refine Sl (listItems_at ho rfl ?_)
 refine Sl (listUpdate_at ho rfl ?_ (by simp [Xm];exact Tf (Su qQ (Sv _ _))) (by simp))
 obtain ⟨e1,JG⟩:∃ e1,(s.heap.update a (Vh λz! => #[])).get? a=some (seqObj "list" #[] e1):=⟨_,get?_update_seq ho (λz! => #[])⟩
 refine Sl (seqEpoch_at JG rfl ?_)
 refine Sl (PySem.wpAny_newTuple ?_ (by simp [Xm];exact Tf (Su qQ (Sv _ _))))
 refine Sl (wpAny_newList ?_)
 refine Sy ?_
 have ho6:(((s.heap.update a (Vh λz! => #[])).push (seqObj "tuple" vs.toArray 0)).push (seqObj "list" #[] 0)).get? a=some (seqObj "list" #[] e1):=by
  rw [Heap.get?_push_ne _ _ _ (by rw [size_push',Heap.size_update];exact T9 (Tu ha)),Heap.get?_push_ne _ _ _ (by rw [Heap.size_update];exact T9 ha)]
  exact JG
 show wpAny G.M A _ P E {s with heap:=((s.heap.update a (Vh λz! => #[])).push (seqObj "tuple" vs.toArray 0)).push (seqObj "list" #[] 0)}
 dsimp only
 have hsz:vs.toArray.size=vs.length:=by simp
 have JW:∀ xs:Array Keyed,xs.Perm (pairsOf vs)->(xs.map (·.2)).toList.Perm vs:=λxs hp=>by
  rw [Array.toList_map]
  have h1:=(Xl.mp hp).map (·.2)
  rw [pairsOf_toList] at h1
  have h2:(vs.zip vs).map (·.2)=vs:=List.map_snd_zip (Sz _)
  rwa [h2] at h1
 by_cases h2:vs.toArray.size<2
 ·rw [if_pos h2,if_pos h2]
  refine Sl (Sm ?_)
  rw [StateT.run_pure]
  refine Sl (Sm ?_)
  dsimp only
  refine Sl (seqEpoch_at ho6 rfl ?_)
  refine Sl (listUpdate_at ho6 rfl ?_ (by simp) (by rw [Array.size_map];show (pairsOf vs).size<=_;rw [pairsOf_size,Xm];exact Mb hsz h2))
  simp only [bne_self_eq_false,UC,if_false]
  exact Sm (h _ (JW _ (Array.Perm.refl _)))
 ·rw [if_neg h2,if_neg h2]
  obtain ⟨v₁,v₂,rest,rfl⟩:∃ v₁ v₂ rest,vs=v₁::v₂::rest:=by
   match vs,hsz,h2 with
   | [],_,h2=>simp at h2
   | [_],_,h2=>simp at h2
   | v₁::v₂::rest,_,_=>exact ⟨v₁,v₂,rest,rfl⟩
  rw [keyKind_strs hS]
  refine Sl (Sm ?_)
  refine Sl (Vf (qe (prog:=G.prog) (w:=G.w) (A:=A) (E:=E) (s:={s with heap:=((s.heap.update a (Vh λz! => #[])).push (seqObj "tuple" (v₁::v₂::rest).toArray 0)).push (seqObj "list" #[] 0)}) (a₀:=pairsOf (v₁::v₂::rest)) (st:=SortSt.mk' oneType' ((v₁::v₂::rest).toArray.zip (v₁::v₂::rest).toArray) #[] 7 none)
   (Q:=λz! st'=>(arrOf st').Perm (pairsOf (v₁::v₂::rest))/\failedOf st'=none)
   ⟨Array.Perm.refl _,rfl,rfl,rfl,λp hp=>?_⟩ (by rw [pairsOf_size];simp) (by rw [pairsOf_size];exact qQ) λst' p hs=>⟨hs.perm,hs.failed⟩) ?_ λz! z! e=>e)
  ·rw [pairsOf_toList] at hp
   exact hS.all _ (List.of_mem_zip (a:=p.1) (b:=p.2) hp).1
  rintro ⟨⟨⟩,st'⟩ s' ⟨rfl,hp,hf⟩
  dsimp only
  refine Sl (seqEpoch_at ho6 rfl ?_)
  refine Sl (listUpdate_at ho6 rfl ?_ (by simp) (by refine Sn (SI ((Array.size_map ..).trans (hp.size_eq.trans (pairsOf_size _)))) ?_;rw [Xm];exact Tf (Su qQ (Sv _ _))))
  rw [hf]
  simp only [bne_self_eq_false,UC,if_false]
  exact Sm (h _ (JW _ hp))
theorem fy:∀ (vs:List Value),(∀ v∈vs,∃ x t,v = .str x t)->StrsAre vs (vs.map fY)
 | [],_=>.nil
 | v::vs,h=>by
  refine ob2_1 (h v (So ..)) λx t aA=>?_;obtain rfl:=aA
  exact .cons x t (fy vs λu hu=>h u (Ss _ hu))
theorem nX {Q:Value->Shared->Prop} (hS:d_ G s.heap b ks) (hh:A.handled=none) (qQ:ks.length<128)
  (h:∀ s' l vs,Old s s'->s.heap.get? l=none->BY s'.heap l vs->StrsAre vs (vs.map fY)->(vs.map fY).Perm ks->Q (.ref l) s'):wpAny G.M A (call (.builtin "sorted") [.ref b]) Q E s:=by
 refine Calls.call_function_entry kind_sorted plain_sorted entry_sorted (args_sorted1 _) ?_
 unfold Builtin.«sorted»
 refine Sl (m:=checkCount "sorted" 1 1 _) (Sm ?_)
 refine Sl (mz hS hh λs₁ vals ho hp hstr=>?_)
 have hlen:vals.length<128:=by rw [<- Sq (f:=fY),hp.length_eq];exact qQ
 refine Sl (wpAny_newList ?_ (by rw [Xm];exact Tf (Su hlen (Sv _ _))))
 have Nz:(s₁.heap.push (seqObj "list" vals.toArray 0)).get? s₁.heap.objs.size=some (seqObj "list" vals.toArray 0):=SH _ rfl
 refine Sl (Sy (UK slot_list_sort ⟨_,Nz,rfl⟩ entry_list_sort (nY (s:={s₁ with heap:=s₁.heap.push (seqObj "list" vals.toArray 0)}) Nz (fy vals hstr) hlen λout hout=>⟨_,rfl,?_⟩) (args_list_sort _)))
 refine ob1_1 (sortedHeap_at (out:=out) Nz) λe hat=>?_
 refine Sm ⟨_,rfl,h _ s₁.heap.objs.size out.toList ⟨λc o hc=>?_,ho.gens,ho.os⟩ ?_ ⟨e,by simpa using hat⟩ (fy _ λv hv=>hstr v (hout.mem_iff.mp hv)) ((hout.map fY).trans hp)⟩
 ·have hc1:=ho.keep _ _ hc
  have hlt:c<s₁.heap.objs.size:=Te hc1
  show (sortedHeap (s₁.heap.push (seqObj "list" vals.toArray 0)) s₁.heap.objs.size vals out).get? c=some o
  rw [sortedHeap_old (T9 hlt) (by rw [size_push'];exact Tu hlt)]
  exact Sw _ hc1
 ·cases hn:s.heap.get? s₁.heap.objs.size with
  | none=>rfl
  | some o=>exact absurd (Te (ho.keep _ _ hn)) (Tc _)
end Mine
namespace Mine
open PySem PySem.W PyProof.Rows
variable {G:Glob} {F:Fm} {ρ ρ':List (Str×PV)} {W:List Addr} {Rs ak Ro:List Res} {s s':Shared} {l r:Sp} {pos:Pos}
theorem zX {vs:List Value} {n:Nat} (h:vs.length * n<=2 ^ 24):XG (vs.toArray.size * n)=false:=by
 have:¬ vs.toArray.size * n > sizeLine:=by
  rw [T5,Xm]
  exact TP h
 simpa [XG] using this
theorem EV.mulL {xs:List PV} {n:Int} (hl:EV G F ρ W Rs l (.lst xs)) (hr:EV G F ρ W Rs r (.int n)) (h2:n<=65536) (h3 : -65536<=n) (hz:(T4 n.toNat xs).flatten.length<=lim) (hx:xs.length<=16) (hne:xs≠[]) :
  EV G F ρ W Rs (.BinOp l .Mult r pos) (.lst (T4 n.toNat xs).flatten) :=
 EV.bin (p:=.lst xs) (q:=.int n) hl hr λs a b S rx ry=>by
  refine ob0_2 rx.dY λz! az=>ob2_4 az λc vs bq z! aY rv=>?_;obtain rfl:=bq;refine ob1_1 aY λk e=>?_
  refine ob1_1 ry.isInt λu aC=>?_;obtain rfl:=aC
  have lv:=rv.length
  have hlim:lim=1048576:=by decide
  have hvs:vs.toArray.isEmpty=false:=by
   cases vs with
   | nil=>exact absurd (V5.mp (by simpa using lv.symm)) hne
   | cons _ _=>rfl
  have hrep:∀ m:Nat,ah W s.heap (T4 m xs).flatten (T4 m vs).flatten:=by
   intro m
   induction m with
   | zero=>simp [ah]
   | succ m ih=>rw [UH,VI,UH,VI];exact rv.append ih
  have NR:∀ (m:Nat) (acc:Array Value),List.foldl (λx1 x2=>x1++x2) acc (T4 m vs.toArray)=acc++(T4 m vs).flatten.toArray:=by
   intro m
   induction m with
   | zero=>intro acc;simp
   | succ m ih=>intro acc;rw [UH,Vx,ih,UH,VI];simp
  have:=S.newList (t:=s.toks) (hrep n.toNat) hz
  have hsz:vs.length * n.toNat<=2 ^ 24:=by
   have:vs.length<=16:=by exact L6 hx lv
   have h4:n.toNat<=65536:=qK h2
   exact Sn (X8 this h4) (S1 rfl)
  refine wpAny_binaryOp_repeat_ref (T:="list") (U:="int") (by decide) ⟨_,e,rfl⟩ (λs'=>XR s' n u) noFill_list_mul PySem.F.fills_int_mul PySem.F.slot_int_rmul repeat_list PySem.F.slot_int_index.lookup
   (Yc PySem.F.slot_int_rmul (XR s n u) PySem.F.entry_int_rmul (PySem.F.args_int_rmul_2 _ _) (int___rmul___int_list n u c vs.toArray k)
    ⟨e,rfl,⟨_,e,rfl⟩,Yc PySem.F.slot_list_mul ⟨_,e,rfl⟩ PySem.F.entry_list_mul (PySem.F.args_list_mul_2 _ _)
     (AutoListH.list___mul___list_int_3 c vs.toArray k n u (by have Q6:Builtin.List.listFitsIndex n=true:=TL.mpr ⟨decide_eq_true (Int.le_trans (by decide) h3),decide_eq_true (Int.lt_of_le_of_lt h2 (by decide))⟩;rw [Q6];decide) (TP (Sn hsz (S1 rfl))) (by rw [zX hsz];exact Wx))
     ⟨e,?_⟩⟩)
  have e2:List.foldl (λx1 x2=>x1++x2) #[] (T4 (if vs.toArray.isEmpty=true then 0 else n.toNat) vs.toArray)=(T4 n.toNat vs).flatten.toArray:=by
   rw [hvs,if_neg (by decide),NR];simp
  show aG G [] s _/\Rep W _ _ _
  dsimp only
  rw [e2]
  exact this
theorem yQ {target:Sp} {xs:List PV} {v:Value} (S:St G F ρ W Rs s) (x:aG G [] s s') (r:Rep W s'.heap (.lst xs) v) :
  wpAny G.M F.A (pyIter v) (λit s₂=>aG G [] s s₂/\Ready G F W target xs s it s₂) (λz! z! => False) s':=by
 have S₁:=S.step x
 refine ob0_2 r.dY λhl az=>ob2_4 az λl vs bq JO aY rs=>?_;obtain rfl:=bq;refine ob1_1 aY λn e=>?_
 refine wpAny_pyIter_list (items:=vs.toArray) ⟨_,e,rfl,n,rfl⟩ ?_
 have y:aG G [] s' {s' with heap:=s'.heap.push {cls:=.type "list_iterator",data:=.fields #[.ref l,.int 0 0]}}:=.bO G (t:=s'.toks)
 have hfr:=S₁.fresh (bV s'.heap)
 have hne:l≠s'.heap.objs.size:=T9 (Te e)
 refine ⟨x.trans y,[s'.heap.objs.size,l],[s'.heap.objs.size],λV hV=>⟨_,
  Ai.ofWalks (Walks.list (S.room.1) s'.heap.objs.size l hne vs.toArray) (by simp [rs.length]) (aS S₁.inv) (λh=>ah (V++W) h xs vs)
   (λh h' r sk=>r.keep sk λz! z! q=>q) (λi p v h hp hv r=>?_) (c:="list_iterator") (λi h t=>?_) (by decide) (by decide),λh' k=>⟨⟨⟨_,k _ _ (SH _ rfl),rfl,rfl⟩,?_⟩,?_⟩⟩,?_,?_⟩
 ·refine ob1_2 (r.get hp) λu hu ru=>?_
  have:vs[i]? = some v:=by simpa using hv
  rw [this] at hu;cases hu
  exact ru
 ·refine ob0_2 t λbM z! =>ob1_3 bM λo e c d=>?_
  exact ⟨o,e,c,_,d⟩
 ·exact ⟨_,k _ _ (Sw _ e),rfl,n,rfl⟩
 ·exact E7 (y.jH S₁.inv rs) hV k
 ·intro b hb
  have:b=s'.heap.objs.size:=by simpa using hb
  subst this
  cases e':s.heap.get? s'.heap.objs.size with
  | none=>rfl
  | some o=>exact absurd (Te (x.keep _ o (by simp) (bk (aS S₁.inv)) e')) (Tc _)
 ·intro b hb
  rcases Sx.mp hb with rfl | hb
  ·exact ⟨hfr.1,hfr.2.1,hfr.2.2,bk (aS S₁.inv),_,SH _ rfl⟩
  ·have:b=l:=by simpa using hb
   subst this
   have:=S₁.sJ e rfl
   exact ⟨JO,this.1,this.2,k8 S₁.inv e rfl,_,Sw _ e⟩
noncomputable def Lq (G:Glob) (F:Fm) (ρ:List (Str×PV)) (W:List Addr) (Rs:List Res) (target e:Sp) {α:Type} (P:α->Prop) (xs:α->List PV):Prop :=
 ∀ s,St G F ρ W Rs s->wpAny G.M F.A (eval e F.env) (λx s₁=>aG G [] s s₁/\wpAny G.M F.A (pyIter x) (λit s₂=>∃ z,P z/\aG G [] s s₂/\Ready G F W target (xs z) s it s₂) (λz! z! => False) s₁) (λz! z! => False) s
theorem Lq.vB {target e:Sp} {x1 x2:Str} {p1 p2 pos1 pos2:Pos} {xs:List Str} (hf:EV G F ρ W Rs (.Name x1 p1) (.raw (.builtin "sorted"))) (hg:EV G F ρ W Rs (.Name x2 p2) (.raw (.type "set"))) (he:EV G F ρ W Rs e (.lst (xs.map .str)))
  (hn:(cy xs).length<128) (hn2:xs.length+1<scanBound)
  (hst:backTo pos2 (starEach [e] F.env)=[e].map (λe=>(false,eval e F.env)):=by rfl)
  (Nt:backTo pos1 (starEach [.Call (.Name x2 p2) [e] [] pos2] F.env)=[(false,eval (.Call (.Name x2 p2) [e] [] pos2) F.env)]:=by rfl) :
  Lq G F ρ W Rs target (.Call (.Name x1 p1) [.Call (.Name x2 p2) [e] [] pos2] [] pos1) (λys:List Str=>ys.Perm (cy xs)) (λys=>ys.map .str):=λs S=>by
 rw [VM]
 refine Sl (aF (hf s S) λv s₁ zz=>zz.elim λy r=>?_)
 rw [Rep] at r;subst r
 have S₁:=S.step y
 rw [Nt]
 refine TM (by simp) ?_
 refine TF (Uo (f5 hg (aW.cons he .nil) S₁ (λs₂ vs y₂ S₂ rs=>?_) hst))
 refine ob1_2 rs.one λv aC rv=>?_;obtain rfl:=aC
 refine ob0_2 rv.dY λhl az=>ob2_4 az λc us bq Sh hc ru=>?_;obtain rfl:=bq
 refine vn S₂.room.1 hc ru.strs hn2 λs₃ ho hX=>?_
 have aT:=S₂.step (ho.stp (G:=G))
 refine VH ?_
 refine nX hX aT.room.1 hn λs₄ l' vs' ho' hnew hL hstr hp=>?_
 have bZ:=aT.step (ho'.stp (G:=G))
 have st:aG G [] s s₄:=y.trans (y₂.trans (ho.stp.trans ho'.stp))
 refine ⟨st,?_⟩
 have hz:=hstr.length
 have QU:vs'.length<128:=by
  rw [hz,hp.length_eq];exact hn
 have hrep:∀ (us:List Value) (ys:List Str),StrsAre us ys->(∀ y∈ys,y.length<=lim)->ah W s₄.heap (ys.map .str) us:=by
  intro us ys h
  induction h with
  | nil=>intro _;rw [VG,ah]
  | cons x t h ih =>
   intro hy
   rw [S_,ah]
   exact ⟨_,_,rfl,Rep.str (hy x (So ..)),ih λy hy'=>hy y (Ss _ hy')⟩
 have hfresh:=aT.fresh hnew
 have hlim:lim=1048576:=by decide
 have hmem:∀ y∈cy xs,y∈xs:=by
  have:∀ (xs acc:List Str),∀ y∈xs.foldl iy acc,y∈acc\/y∈xs:=by
   intro xs
   induction xs with
   | nil=>intro acc y h;exact .inl h
   | cons x xs ih =>
    intro acc y h
    rcases ih _ y h with h | h
    ·unfold iy at h
     split at h
     ·exact .inl h
     ·rcases SO.mp h with h | h
      ·exact .inl h
      ·exact .inr (Sx.mpr (.inl (SG.mp h)))
    ·exact .inr (Ss _ h)
  intro y hy
  rcases this xs [] y hy with h | h
  ·exact absurd h (Tq)
  ·exact h
 have hlen:∀ (us:List Value) (ys:List Str),ah W s₂.heap (ys.map .str) us->∀ y∈ys,y.length<=lim:=by
  intro us ys
  induction ys generalizing us with
  | nil=>intro _ y hy;exact absurd hy (Tq)
  | cons x ys ih =>
   intro r y hy
   rw [S_,ah] at r
   refine ob2_3 r λv vs' aA r1 r2=>?_;obtain rfl:=aA
   rcases Sx.mp hy with rfl | hy
   ·rw [Rep] at r1;exact r1.1
   ·exact ih _ r2 y hy
 have rep:Rep W s₄.heap (.lst ((vs'.map fY).map .str)) (.ref l'):=by
  rw [Rep]
  refine ⟨?_,l',vs',rfl,hfresh.1,hL,hrep _ _ hstr λy hy=>hlen _ _ ru y (hmem y (hp.mem_iff.mp hy))⟩
  rw [Sq,Sq];exact LS QU hlim
 exact aF (yQ S st rep) λit s₅ zz=>zz.elim λy5 rd=>⟨vs'.map fY,hp,y5,rd⟩
end Mine
namespace Mine
open PySem PySem.W PyProof.Rows
variable {G:Glob} {F:Fm} {ρ ρ':List (Str×PV)} {W W':List Addr} {Rs ak Ro:List Res} {s s':Shared} {l r:Sp} {pos:Pos}
theorem ER.nC {o:Sp} {es:List Sp} {name:Str} {id:String} {apos pos:Pos} {x:Str} {ps:List PV} {q:PV} (ho:ER G F ρ W Rs o (.str x) ak) (ha:aW G F ρ W ak es ps)
  (slot:Slot "str" name id) (ty:typeOf (.builtin id)=pure (.type "method_descriptor"))
  (h:∀ s t vs,St G F ρ W ak s->x.length<=lim->ah W s.heap ps vs->Gv G F.A W (call (.builtin id) (.str x t::vs)) q s)
  (hne:es≠[]:=by simp)
  (hbase:attributeBase o name F.env (eval o F.env)=eval o F.env:=by rfl)
  (hfew:((backTo pos (starEach es F.env)).all (λx => !x.1) && (backToKw pos (keywordEach [] F.env)).all (λx=>x.1.isSome)
   && decide (es.length+([]:List Keyword).length+(if ([]:List Keyword).isEmpty then 0 else 1)<30))=true:=by rfl)
  (hst:backTo pos (starEach es F.env)=es.map (λe=>(false,eval e F.env)):=by rfl)
  (hline:(apos.endLine == pos.line)=true:=by rfl) :
  ER G F ρ W Rs (.Call (.Attribute o name apos) es [] pos) q ak:=λs S=>by
 obtain ⟨e,es',rfl⟩:∃ e es',es=e::es':=by cases es with | nil=>exact absurd rfl hne | cons a b=>exact ⟨a,b,rfl⟩
 refine Ut hbase hfew hline (aF (ho s S) λv s₁ zz=>zz.elim λS₁ r=>?_)
 refine ob0_2 r.isStr λhl az=>ob1_1 az λt bh=>?_;obtain rfl:=bh
 rw [hst]
 refine ⟨"str",id,Wg,slot,ty,Wv _ _ _,(λz! e=>nomatch e),?_⟩
 refine TM (noStar _) ?_
 exact TF (aF (ha s₁ S₁) λvs s₂ zz=>zz.elim λz rs=>aF (h s₂ t vs (S₁.step z) hl rs) λv s₃ zz=>zz.elim λu ru=>⟨(S₁.step z).step u,ru⟩)
theorem Rep.less {h:Heap} {p:PV} {v:Value} (hw:∀ a∈W,a∈W') (r:Rep W' h p v):Rep W h p v :=
 Rep.keep (W:=W') (h:=h) ⟨λa vs z! e=>e,λa vs z! e=>e⟩ (λa z! ha=>hw a ha) r
end Mine
namespace Mine
open PySem PySem.W PyProof.Rows
variable {G:Glob} {F:Fm} {ρ ρ':List (Str×PV)} {W W':List Addr} {Rs ak Ro:List Res} {s s':Shared} {l r:Sp} {pos:Pos}
noncomputable def dF (d:Nat) (p:PV):Prop:=p.plain=true/\p.toD.canLay0=true/\p.toD.depth<=d
theorem dF.ok {d:Nat} {p:PV} (h:dF d p) (hd:d<=60:=by decide):p.ok:=⟨h.1,h.2.1,Sn h.2.2 hd⟩
theorem dF.int {d:Nat} {i:Int}:dF d (.int i):=⟨rfl,rfl,Td _⟩
theorem dF.str {d:Nat} {x:Str} (h:Uh x=true):dF d (.str x):=⟨rfl,h,Td _⟩
theorem dF.lst {d:Nat}:∀ {xs:List PV},(∀ x∈xs,dF d x)->dF (d+1) (.lst xs):=by
 have key:∀ {xs:List PV},(∀ x∈xs,dF d x)->PV.g6 xs=true/\PyData.canLayAll0 (PV.toDs xs)=true/\PyData.depthAll (PV.toDs xs)<=d:=by
  intro xs
  induction xs with
  | nil=>intro _;exact ⟨rfl,rfl,Td _⟩
  | cons x xs ih =>
   intro h
   refine ob0_3 (h x (So ..)) λh1 h2 h3=>ob0_3 (ih λy hy=>h y (Ss _ hy)) λg1 g2 g3=>?_
   refine ⟨?_,?_,?_⟩
   ·rw [PV.g6,h1,g1];rfl
   ·rw [PV.toDs,PyData.canLayAll0,h2,g2];rfl
   ·rw [PV.toDs,PyData.depthAll];exact Nat.max_le.mpr ⟨h3,g3⟩
 intro xs h
 refine ob0_3 (key h) λg1 g2 g3=>?_
 refine ⟨by rw [PV.plain];exact g1,by rw [PV.toD,PyData.canLay0];exact g2,by rw [PV.toD,PyData.depth];exact TZ g3⟩
theorem dF.ints {d:Nat} {xs:List Int}:dF (d+1) (.lst (xs.map .int)):=dF.lst λx h=>by
 refine ob1_2 (S7.mp h) λi z! aA=>?_;obtain rfl:=aA
 exact dF.int
theorem dF.nats {d:Nat} {xs:List Nat}:dF (d+1) (.lst (xs.map λ(i:Nat)=>.int i)):=dF.lst λx h=>by
 refine ob1_2 (S7.mp h) λi z! aA=>?_;obtain rfl:=aA
 exact dF.int
theorem dF.sQ {α:Type} {d:Nat} {f:α->PV} {xs:List α} (h:∀ a∈xs,dF d (f a)):dF (d+1) (.lst (xs.map f)):=dF.lst λx hx=>by
 refine ob1_2 (S7.mp hx) λi hi aA=>?_;obtain rfl:=aA
 exact h i hi
theorem uN {i j:Int}:(PV.int i).eqv (.int j)=decide (i=j):=by
 show WV (.int i) (.int j)=_
 rw [WV]
 by_cases h:i=j <;> simp [h]
theorem uM {i j:Nat}:(PV.int (i:Int)).eqv (.int j)=decide (i=j):=by
 rw [uN]
 by_cases h:i=j
 ·subst h;simp
 ·have:¬ (i:Int)=j:=λq=>h (Int.ofNat.inj q)
  simp [h,this]
theorem uL {x y:Str}:(PV.str x).eqv (.str y)=decide (x=y):=by
 show WV (.str x) (.str y)=_
 rw [WV]
 by_cases h:x=y
 ·subst h;simp
 ·simp [h]
theorem i6 {α:Type} [DecidableEq α] {f:α->PV} (h:∀ a b,(f a).eqv (f b)=decide (a=b)) (xs ys:List α):(PV.lst (xs.map f)).eqv (.lst (ys.map f))=decide (xs=ys):=by
 show WV (.list _) (.list _)=_
 rw [WV]
 induction xs generalizing ys with
 | nil =>
  cases ys with
  | nil=>simp [PV.toDs,Yg]
  | cons y ys=>simp [PV.toDs,Yg]
 | cons x xs ih =>
  cases ys with
  | nil=>simp [PV.toDs,Yg]
  | cons y ys =>
   rw [S_,S_,PV.toDs,PV.toDs,Yg,ih]
   have:=h x y
   unfold PV.eqv at this
   rw [this]
   by_cases e:x=y <;> simp [e]
theorem pH {xs:List Nat} {i:Nat}:((xs.map λ(j:Nat)=>PV.int j).any λy=>y.eqv (.int (i:Int)))=decide (i∈xs):=by
 induction xs with
 | nil=>rfl
 | cons x xs ih =>
  rw [S_,List.any_cons,ih,uM]
  by_cases h:x=i
  ·subst h;simp
  ·have:¬ i=x:=λe=>h e.symm
   simp [h,this]
end Mine
namespace Mine
open PySem PySem.W PyProof.Rows
noncomputable def tl (x:Str):List Nat:=x.cps.toList
theorem aM (x:Str):(tl x).length=x.length:=Ud
theorem gf {x y:Str} (h:tl x=tl y):x=y:=by
 obtain ⟨a⟩:=x;obtain ⟨b⟩:=y
 have:a.toList=b.toList:=h
 congr 1
 exact Array.ext' this
theorem aN (x y:Str):tl (x++y)=tl x++tl y:=by
 show (x++y).cps.toList=_
 rw [show (x++y).cps=x.cps++y.cps from rfl,U3];rfl
theorem xC:tl ""=[]:=rfl
theorem eK:∀ ys:List Str,tl (SP "" ys)=ys.flatMap tl
 | []=>rfl
 | [x]=>by show tl x=_;simp
 | x::y::r=>by
  show tl (x++""++SP "" (y::r))=_
  rw [aN,aN,eK (y::r),xC,S6];rfl
theorem iS (ys:List Str):(SP "" ys).length=(ys.map (·.length)).sum:=by
 rw [<- aM,eK,List.length_flatMap]
 congr 1
theorem cK (sep x y:Str) (r:List Str):tl (SP sep (x::y::r))=tl x++tl sep++tl (SP sep (y::r)):=by
 show tl (x++sep++SP sep (y::r))=_
 rw [aN,aN]
theorem oi {α:Type} {f:α->Nat} {c:Nat}:∀ {l:List α},(∀ a∈l,f a<=c)->(l.map f).sum<=l.length * c
 | [],_=>by simp
 | a::l,h=>by
  have:=oi λb hb=>h b (Ss _ hb)
  have:=h a (So ..)
  rw [S_,XJ,Tr,Nat.add_mul,Nat.one_mul]
  exact LP (by assumption) this
theorem Ez {x:Int} (h1 : -1000<=x) (h2:x<=1000):Builtin.Range.rangeFitsLong x=true :=
 TL.mpr ⟨decide_eq_true (Int.le_trans (by decide) h1),decide_eq_true (Int.lt_of_le_of_lt h2 (by decide))⟩
theorem lM {m:Nat} (h:m<=1000):Builtin.Range.rangeFitsLong (m:Int)=true:=Ez (Int.le_trans (by decide) (UN m)) (Xs.mpr h)
theorem Cy:∀ m:Nat,Tz 0 (m:Int) 1=(m:Int)
 | 0=>rfl
 | n+1=>by
  unfold Tz
  rewrite [if_pos (by decide),if_pos (Int.natCast_pos.mpr (Xr n)),Int.ediv_one,Int.sub_zero]
  exact Int.sub_add_cancel ..
theorem t_:∀ m:Nat,Tz (m:Int) 0 (-1)=(m:Int)
 | 0=>rfl
 | n+1=>by
  unfold Tz
  rewrite [if_neg (by decide),if_pos (Int.natCast_pos.mpr (Xr n)),Int.neg_neg,Int.ediv_one,Int.sub_zero]
  exact Int.sub_add_cancel ..
theorem KQ {a b c d e:Bool} (h1:a=true) (h2:b=true) (h3:c=true) (h4:d=true) (h5:e=true):(a && b && c && d && e)=true:=by rw [h1,h2,h3,h4,h5];rfl
theorem oq {m:Nat}:span 0 (m:Int) 1=(SD m).map λ(i:Nat)=>PV.int (i:Int):=by
 unfold span
 rw [Cy]
 exact Tv λi z! => congrArg PV.int ((Int.zero_add _).trans (Int.mul_one _))
theorem ni {m:Nat}:span ((m:Int)) 0 (-1)=(SD m).map λi=>PV.int ((m - i:Nat):Int):=by
 unfold span
 rw [t_]
 refine Tv λi hi=>congrArg PV.int ?_
 rw [Int.mul_neg,Int.mul_one]
 exact Int.sub_eq_add_neg.symm.trans (Int.ofNat_sub (Tf (SQ.mp hi))).symm
theorem qb {m:Nat} (h:m<=1000):VN 0 (m:Int) 1=true:=by
 unfold VN
 rw [Cy]
 exact KQ (by decide) (lM h) (by decide) (lM h) (Wc.mpr (.inr (lM h)))
theorem small_down {m:Nat} (h:m<=1000):VN (m:Int) 0 (-1)=true:=by
 unfold VN
 rw [t_]
 exact KQ (lM h) (by decide) (by decide) (lM h) (Wc.mpr (.inr (by decide)))
section
variable {G:Glob} {F:Fm} {ρ:List (Str×PV)} {W:List Addr} {Rs:List Res}
theorem EV.qT {α:Type} {f:α->PV} {value e:Sp} {p pos:Pos} {xs:List α} {j:Nat} (hv:EV G F ρ W Rs value (.lst (xs.map f))) (h:EV G F ρ W Rs e (.int (j:Int))):EV G F ρ W Rs (.Subscript value (.Slice (some e) none none p) pos) (.lst ((xs.drop j).map f)):=by
 have:=EV.kZ (lo:=some (j:Int)) (hi:=none) (st:=none) (lower:=some e) (upper:=none) (step:=none) (p:=p) (pos:=pos) hv h trivial trivial (by simp)
 rwa [pick_from,<- List.map_drop] at this
theorem EV.xu {α:Type} {f:α->PV} {value e:Sp} {p pos:Pos} {xs:List α} {j:Nat} (hv:EV G F ρ W Rs value (.lst (xs.map f))) (h:EV G F ρ W Rs e (.int (j:Int))):EV G F ρ W Rs (.Subscript value (.Slice none (some e) none p) pos) (.lst ((xs.take j).map f)):=by
 have:=EV.kZ (lo:=none) (hi:=some (j:Int)) (st:=none) (lower:=none) (upper:=some e) (step:=none) (p:=p) (pos:=pos) hv trivial h trivial (by simp)
 rwa [vG,<- XH] at this
theorem EV.Cv {α:Type} {f:α->PV} {value e1 e2:Sp} {p pos:Pos} {xs:List α} {i j:Nat} (hv:EV G F ρ W Rs value (.lst (xs.map f))) (h1:EV G F ρ W Rs e1 (.int (i:Int))) (h2:EV G F ρ W Rs e2 (.int (j:Int))):EV G F ρ W Rs (.Subscript value (.Slice (some e1) (some e2) none p) pos) (.lst (((xs.take j).drop i).map f)):=by
 have:=EV.kZ (lo:=some (i:Int)) (hi:=some (j:Int)) (st:=none) (lower:=some e1) (upper:=some e2) (step:=none) (p:=p) (pos:=pos) hv h1 h2 trivial (by simp)
 rwa [vH,<- XH,<- List.map_drop] at this
end
end Mine
namespace Mine
open PySem PySem.W PyProof.Rows
variable {G:Glob} {F:Fm} {ρ ρ':List (Str×PV)} {W W':List Addr} {Rs ak Ro:List Res} {s s':Shared} {l r e:Sp} {pos:Pos} {a b:Nat}
noncomputable abbrev aj (i:Nat):PV:=.int (i:Int)
theorem EV.eg (hl:EV G F ρ W Rs l (aj a)) (hr:EV G F ρ W Rs r (aj b)):EV G F ρ W Rs (.BinOp l .Add r pos) (aj (a+b)):=(EV.add hl hr).conv (by rw [aj,Int.natCast_add])
theorem EV.r9 (hl:EV G F ρ W Rs l (aj a)) (hr:EV G F ρ W Rs r (aj b)) (h:b<=a):EV G F ρ W Rs (.BinOp l .Sub r pos) (aj (a - b)):=(EV.sub hl hr).conv (by rw [aj,Int.natCast_sub h])
theorem EV.vN (hl:EV G F ρ W Rs l (aj a)) (hr:EV G F ρ W Rs r (aj b)) (h:b≠0):EV G F ρ W Rs (.BinOp l .Mod r pos) (aj (a % b)):=(EV.mod hl hr (by exact FF h)).conv (by rw [aj,Int.fmod_eq_emod_of_nonneg _ (by exact UN _)];rfl)
theorem EV.EK (hl:EV G F ρ W Rs l (aj a)) (hr:EV G F ρ W Rs r (aj b)) (h:b≠0) (h2:b<1000000000):EV G F ρ W Rs (.BinOp l .FloorDiv r pos) (aj (a / b)):=(EV.fdiv hl hr (by exact FF h) h2).conv (by rw [aj,Xn _ (by exact UN _)];rfl)
theorem TV.RB {c:Bool} (hl:EV G F ρ W Rs l (aj a)) (hr:EV G F ρ W Rs r (aj b)) (hc:decide (b<a)=c) (hm:behindInMarks .Gt r=false:=by with_unfolding_all rfl):TV G F ρ W Rs (.Compare l [.Gt] [r] pos) c :=
 (TV.cmp hl hr qt hm).conv (by rw [<- hc];exact decide_eq_decide.mpr (by exact LO))
theorem TV.RC {c:Bool} (hl:EV G F ρ W Rs l (aj a)) (hr:EV G F ρ W Rs r (aj b)) (hc:decide (b<=a)=c) (hm:behindInMarks .GtE r=false:=by with_unfolding_all rfl):TV G F ρ W Rs (.Compare l [.GtE] [r] pos) c :=
 (TV.cmp hl hr I5 hm).conv (by rw [<- hc];exact decide_eq_decide.mpr (by exact LN))
theorem TV.Px {c:Bool} (hl:EV G F ρ W Rs l (aj a)) (hr:EV G F ρ W Rs r (aj b)) (hc:decide (a=b)=c) (hm:behindInMarks .Eq r=false:=by with_unfolding_all rfl):TV G F ρ W Rs (.Compare l [.Eq] [r] pos) c :=
 (TV.cmp hl hr ug hm).conv (by rw [<- hc];exact decide_eq_decide.mpr Int.ofNat_inj)
theorem qm {α β:Type} (f:α->β) (xs:List α) (lo hi st:Option Int):pick (xs.map f) lo hi st=(pick xs lo hi st).map f:=by
 unfold pick
 rw [Sq,List.map_filterMap]
 congr 1
 funext i
 rw [S9]
theorem yd {α:Type} {xs:List α} {lo hi st:Option Int} {x:α} (h:x∈pick xs lo hi st):x∈xs:=by
 unfold pick at h
 refine ob1_2 (WX.mp h) λi z! h2=>?_
 exact U' h2
theorem En {xs:List Nat} (hb:∀ i∈xs,i<=1000000):∀ s vs,St G F ρ W Rs s->ah W s.heap [.lst (xs.map aj)] vs->Gv G F.A W (call (.builtin "sum") vs) (aj xs.sum) s:=λs vs S rs=>by
 refine ob1_2 rs.one λv aC r=>?_;obtain rfl:=aC
 have hl:=r.dY.1
 rw [Sq] at hl
 have hlim:lim=1048576:=by decide
 have hs:∀ ys:List Nat,(∀ i∈ys,i<=1000000)->(ys.map λi:Nat=>(i:Int)).sum=(ys.sum:Int)/\ys.sum<=ys.length * 1000000:=by
  intro ys h
  induction ys with
  | nil=>exact ⟨rfl,Sz _⟩
  | cons y ys ih =>
   refine ob0_2 (ih λi hi=>h i (Ss _ hi)) λh1 h2=>?_
   have:=h y (So ..)
   refine ⟨by rw [S_,XJ,h1,XJ,Int.natCast_add],?_⟩
   rw [XJ,Tr,Nat.add_mul];exact LI h2 this
 have e:(xs.map aj)=(xs.map λi:Nat=>(i:Int)).map .int:=by rw [Th];rfl
 rw [e] at rs
 rw [show aj xs.sum = .int (xs.map λi:Nat=>(i:Int)).sum by rw [(hs xs hb).1]]
 refine Ke (λk hk=>?_) (λi hi=>?_) s _ S rs
 ·rw [<- XH]
  refine ob0_2 (hs (xs.take k) λi hi=>hb i (VC hi)) λh1 h2=>?_
  rw [h1]
  have:(xs.take k).length<=1048576:=by rw [Wt];exact LB hl hlim
  exact yX (Sn h2 (V1 1000000 this))
 ·refine ob1_2 (S7.mp hi) λj hj aA=>?_;obtain rfl:=aA
  exact yX (Sn (hb j hj) (S1 rfl))
theorem EV.nT {α:Type} {f:α->PV} {value slice:Sp} {xs:List α} {i:Nat} {x:α} (hv:EV G F ρ W Rs value (.lst (xs.map f))) (hi:EV G F ρ W Rs slice (aj i)) (hx:xs[i]? = some x)
  (hs:∀ o i,subscripted slice false o i=operate [o,i] (getItem o i):=by intro _ _;rfl):EV G F ρ W Rs (.Subscript value slice pos) (f x) :=
 EV.yU hv hi (oS (by rw [S9,hx];rfl)) hs
theorem EV.Jc {x:Str} {p:Pos} {e1 e2:Sp} (hf:EV G F ρ W Rs (.Name x p) (.raw (.builtin "max"))) (h1:EV G F ρ W Rs e1 (aj a)) (h2:EV G F ρ W Rs e2 (aj b))
  (hst:backTo pos (starEach [e1,e2] F.env)=[e1,e2].map (λe=>(false,eval e F.env)):=by rfl):EV G F ρ W Rs (.Call (.Name x p) [e1,e2] [] pos) (aj (max a b)) :=
 (EV.gX hf (.cons h1 (.cons h2 .nil)) tu hst).conv (congrArg _ (yW ..))
theorem EV.Ng {x:Str} {p:Pos} {e1 e2:Sp} (hf:EV G F ρ W Rs (.Name x p) (.raw (.builtin "min"))) (h1:EV G F ρ W Rs e1 (aj a)) (h2:EV G F ρ W Rs e2 (aj b))
  (hst:backTo pos (starEach [e1,e2] F.env)=[e1,e2].map (λe=>(false,eval e F.env)):=by rfl):EV G F ρ W Rs (.Call (.Name x p) [e1,e2] [] pos) (aj (min a b)) :=
 (EV.gX hf (.cons h1 (.cons h2 .nil)) Ep hst).conv (congrArg _ (yV ..))
theorem EV.IX {x:Str} {p:Pos} {xs:List Nat} (hf:EV G F ρ W Rs (.Name x p) (.raw (.builtin "sum"))) (h:EV G F ρ W Rs e (.lst (xs.map aj))) (hb:∀ i∈xs,i<=1000000)
  (hst:backTo pos (starEach [e] F.env)=[e].map (λe=>(false,eval e F.env)):=by rfl):EV G F ρ W Rs (.Call (.Name x p) [e] [] pos) (aj xs.sum) :=
 EV.gX hf (.cons h .nil) (En hb) hst
theorem AV.nm {x:Str} {pos:Pos} {p:PV} (h:(F.env.kindOf x == some .local || (F.env.kindOf x == some .cell && F.cv.contains x))=true):AV G F ρ W Rs (.Name x pos) p ((x,p)::ρ):=by
 refine AV.name ?_
 rcases Wc.mp h with h | h
 ·exact .inl (Vc h)
 ·refine ob0_2 (TL.mp h) λh1 h2=>?_
  exact .inr ⟨Vc h1,List.contains_iff_mem.mp h2⟩
end Mine
namespace Mine
open PySem PySem.W PyProof.Rows
variable {G:Glob} {F:Fm} {ρ ρ':List (Str×PV)} {W W':List Addr} {Rs ak Ro:List Res} {s s':Shared}
theorem EV.fT {α:Type} {L:List α} {enc:α->PV} {elt target iter:Sp} {sc:Scope} {epos:Pos}
  (dG:α->List (Str×PV)) (f:α->PV) (hok:cT F.env.scope sc=true) (hi:IV G F ρ W Rs target iter (L.map enc))
  (ig:∀ a y q,(seen sc ρ).lookup y=some q->(dG a).lookup y=some q)
  (mO:∀ a∈L,∀ cl cs s0 X W' ak,AV G (F.comp sc cl cs s0 X) (seen sc ρ) W' ak target (enc a) (dG a))
  (hel:∀ a∈L,∀ cl cs s0 X W' ak,EV G (F.comp sc cl cs s0 X) (dG a) W' ak elt (f a)) (hl:L.length<=lim)
  (hs:∀ x,foldedSetIterable iter F.env x=pure x:=by intro _;rfl) :
  EV G F ρ W Rs (.ListComp elt [⟨target,iter,[],0⟩] sc epos) (.lst (L.map f)) :=
 (EV.comp (c:=λz! => true) dG f hok hi ig mO (λz! z! z! z! z! z! z! z! => u7.nil) (λa ha z! => hel a ha) hl hs).conv (by rw [Wa.mpr λz! z! => rfl])
theorem EV.q7 {α:Type} {L:List α} {enc:α->PV} {elt target iter test:Sp} {sc:Scope} {epos:Pos}
  (dG:α->List (Str×PV)) (c:α->Bool) (f:α->PV) (hok:cT F.env.scope sc=true) (hi:IV G F ρ W Rs target iter (L.map enc))
  (ig:∀ a y q,(seen sc ρ).lookup y=some q->(dG a).lookup y=some q)
  (mO:∀ a∈L,∀ cl cs s0 X W' ak,AV G (F.comp sc cl cs s0 X) (seen sc ρ) W' ak target (enc a) (dG a))
  (ht:∀ a∈L,∀ cl cs s0 X W' ak,TV G (F.comp sc cl cs s0 X) (dG a) W' ak test (c a))
  (hel:∀ a∈L,c a=true->∀ cl cs s0 X W' ak,EV G (F.comp sc cl cs s0 X) (dG a) W' ak elt (f a)) (hl:L.length<=lim)
  (hs:∀ x,foldedSetIterable iter F.env x=pure x:=by intro _;rfl) :
  EV G F ρ W Rs (.ListComp elt [⟨target,iter,[test],0⟩] sc epos) (.lst ((L.filter c).map f)) :=
 EV.comp dG c f hok hi ig mO (λa ha cl cs s0 X W' ak=>u7.one (ht a ha cl cs s0 X W' ak)) hel hl hs
theorem XS.e_ {α:Type} {L:List α} {enc:α->PV} {elt target iter:Sp} {sc:Scope} {epos pos px:Pos} {x:Str} {rest:List Stmt} {K:Flow->Shared->Prop}
  (dG:α->List (Str×PV)) (f:α->PV) (hok:cT F.env.scope sc=true) (hi:IV G F ρ W Rs target iter (L.map enc))
  (ig:∀ a y q,(seen sc ρ).lookup y=some q->(dG a).lookup y=some q)
  (mO:∀ a∈L,∀ cl cs s0 X W' ak,AV G (F.comp sc cl cs s0 X) (seen sc ρ) W' ak target (enc a) (dG a))
  (hel:∀ a∈L,∀ cl cs s0 X W' ak,EV G (F.comp sc cl cs s0 X) (dG a) W' ak elt (f a)) (hl:L.length<=lim)
  (hx:F.env.kindOf x=some .local)
  (h:XS G F ((x,.lst (L.map f))::ρ) W Rs rest K)
  (hsw:swapsWith (.ListComp elt [⟨target,iter,[],0⟩] sc epos) (some (.Name x px)) pos.line F.env=pure true:=by rfl)
  (hs:∀ x,foldedSetIterable iter F.env x=pure x:=by intro _;rfl) :
  XS G F ρ W Rs (.Assign [.Name x px] (.ListComp elt [⟨target,iter,[],0⟩] sc epos) pos::rest) K :=
 XS.uW dG (λz! => true) f hok hi ig mO (λz! z! z! z! z! z! z! z! => u7.nil) (λa ha z! => hel a ha) hl hx (by rw [Wa.mpr λz! z! => rfl];exact h) hsw hs
theorem AV.I7 {x:Str} (h:(F.env.kindOf x == some .local || (F.env.kindOf x == some .cell && F.cv.contains x))=true):F.env.kindOf x=some .local\/(F.env.kindOf x=some .cell/\x∈F.cv):=by
 rcases Wc.mp h with h | h
 ·exact .inl (Vc h)
 ·refine ob0_2 (TL.mp h) λh1 h2=>?_
  exact .inr ⟨Vc h1,List.contains_iff_mem.mp h2⟩
theorem A7 {x:Str} {p:PV} (h:ρ.lookup x=none):∀ y q,ρ.lookup y=some q->((x,p)::ρ).lookup y=some q:=BB h
theorem IV.dS {x:Str} {p pos:Pos} {e target:Sp} {m:Nat} (hf:EV G F ρ W Rs (.Name x p) (.raw (.type "range"))) (h:EV G F ρ W Rs e (aj m)) (hm:m<=1000)
  (hst:backTo pos (starEach [e] F.env)=[e].map (λe=>(false,eval e F.env)):=by rfl):IV G F ρ W Rs target (.Call (.Name x p) [e] [] pos) ((SD m).map aj):=by
 have:=IV.x8 (target:=target) hf h (qb hm) hst
 rwa [oq] at this
theorem EV.IZ {α:Type} {f:α->PV} {value e1 e2:Sp} {p pos:Pos} {xs:List α} {j:Nat} {st:Int} (hv:EV G F ρ W Rs value (.lst (xs.map f))) (h1:EV G F ρ W Rs e1 (aj j)) (h2:EV G F ρ W Rs e2 (.int st)) (h0:st≠0) :
  EV G F ρ W Rs (.Subscript value (.Slice (some e1) none (some e2) p) pos) (.lst ((pick xs (some (j:Int)) none (some st)).map f)):=by
 have:=EV.kZ (lo:=some (j:Int)) (hi:=none) (st:=some st) (lower:=some e1) (upper:=none) (step:=some e2) (p:=p) (pos:=pos) hv h1 trivial h2 (by simpa using h0)
 rwa [qm] at this
end Mine
namespace Mine
open PySem PySem.W PyProof.Rows
variable {G:Glob} {F:Fm} {ρ ρ':List (Str×PV)} {W W':List Addr} {Rs ak Ro:List Res} {s s':Shared}
theorem wh {α:Type} (f:α->PV) (xs:List α):gA (xs.map f)=xs.zipIdx.map λx=>.tup [aj x.2,f x.1]:=by
 unfold gA
 rw [List.zipIdx_map,Th]
 rfl
theorem IV.Kn {α:Type} {f:α->PV} {x:Str} {p pos tpos:Pos} {e:Sp} {elts:List Sp} {k:Nat} {xs:List α} (hf:EV G F ρ W Rs (.Name x p) (.raw (.type "enumerate"))) (h:EV G F ρ W Rs e (.lst (xs.map f)))
  (hst:backTo pos (starEach [e] F.env)=[e].map (λe=>(false,eval e F.env)):=by rfl) :
  IV G F ρ W Rs (.Tuple elts k tpos) (.Call (.Name x p) [e] [] pos) (xs.zipIdx.map λx=>.tup [aj x.2,f x.1]):=by
 rw [<- wh];exact IV.enum hf h hst
theorem qp (x y:Str):(Vq x (U7 x y 0 x.length (x.length+1)) y.length).length<=x.length+2:=by
 rw [length_partsBetween]
 have:=StrLaws.occ_length_le x y 0 x.length (x.length+1)
 exact TZ this
theorem EV.Dk {o e:Sp} {apos pos:Pos} {x y:Str} {R:List Str} (ho:EV G F ρ W Rs o (.str x)) (h:EV G F ρ W Rs e (.str y)) (hy:(y.length == 0)=false) (hR:V3 x y=R) (hp:∀ z∈R,z.length<=lim) (hn:R.length<=lim) (hx:x.length<=1000000)
  (hbase:attributeBase o "split" F.env (eval o F.env)=eval o F.env:=by rfl)
  (hfew:((backTo pos (starEach [e] F.env)).all (λx => !x.1) && (backToKw pos (keywordEach [] F.env)).all (λx=>x.1.isSome)
   && decide ([e].length+([]:List Keyword).length+(if ([]:List Keyword).isEmpty then 0 else 1)<30))=true:=by rfl)
  (hst:backTo pos (starEach [e] F.env)=[e].map (λe=>(false,eval e F.env)):=by rfl)
  (hline:(apos.endLine == pos.line)=true:=by rfl) :
  EV G F ρ W Rs (.Call (.Attribute o "split" apos) [e] [] pos) (.lst (R.map .str)):=by
 subst hR
 exact EV.split ho h hy hp hn (by have:=qp x y;rw [Xm];exact LK hx this) hbase hfew hst hline
theorem EV.CA {α:Type} {f:α->PV} {value e:Sp} {p pos:Pos} {xs:List α} (hv:EV G F ρ W Rs value (.lst (xs.map f))) (h:EV G F ρ W Rs e (.int (-1))) (h5:xs.length=5) :
  EV G F ρ W Rs (.Subscript value (.Slice none none (some e) p) pos) (.lst (xs.reverse.map f)):=by
 have:=EV.kZ (lo:=none) (hi:=none) (st:=some (-1)) (lower:=none) (upper:=none) (step:=some e) (p:=p) (pos:=pos) hv trivial trivial h (by simp)
 rw [qm] at this
 have e:pick xs none none (some (-1))=xs.reverse:=by
  have h1:sliceBounds none none (some (-1)) 5=(4,-1,-1):=by decide +kernel
  have h2:sliceRange 4 (-1) (-1)=[4,3,2,1,0]:=by decide +kernel
  unfold pick
  rw [h5,h1]
  refine ob2_2 (eO h5) λa r1 aA k1=>?_;obtain rfl:=aA
  refine ob2_2 (eO k1) λb r2 aA k2=>?_;obtain rfl:=aA
  refine ob2_2 (eO k2) λc r3 aA k3=>?_;obtain rfl:=aA
  refine ob2_2 (eO k3) λd r4 aA k4=>?_;obtain rfl:=aA
  refine ob2_2 (eO k4) λe r5 aA k5=>?_;obtain rfl:=aA
  cases len0 k5
  show (sliceRange 4 (-1) (-1)).filterMap _=_
  rw [h2];rfl
 rwa [e] at this
theorem EV.IS {value e:Sp} {p pos:Pos} {z:Str} {i:Int} (hv:EV G F ρ W Rs value (.str z)) (h:EV G F ρ W Rs e (.int i)):EV G F ρ W Rs (.Subscript value (.Slice none (some e) none p) pos) (.str (dU z none (some i))) :=
 EV.xR (lo:=none) (hi:=some i) (lower:=none) (upper:=some e) hv trivial h
theorem EV.Kf {value e:Sp} {p pos:Pos} {z:Str} {i:Int} (hv:EV G F ρ W Rs value (.str z)) (h:EV G F ρ W Rs e (.int i)):EV G F ρ W Rs (.Subscript value (.Slice (some e) none none p) pos) (.str (dU z (some i) none)) :=
 EV.xR (lo:=some i) (hi:=none) (lower:=some e) (upper:=none) hv h trivial
end Mine
namespace Mine
open PySem PySem.W PyProof.Rows
variable {G:Glob} {F:Fm} {ρ ρ':List (Str×PV)} {W W':List Addr} {Rs ak Ro:List Res} {s s':Shared} {rest:List Stmt} {K:Flow->Shared->Prop}
noncomputable def Ls {α:Type} (G:Glob) (F:Fm) (ρ:List (Str×PV)) (W:List Addr) (Rs:List Res) (e:Sp) (P:α->Prop) (q:α->PV):Prop :=
 ∀ s,St G F ρ W Rs s->wpAny G.M F.A (eval e F.env) (λv s'=>∃ L,P L/\aG G [] s s'/\Rep W s'.heap (q L) v) (λz! z! => False) s
theorem XS.Oh {α:Type} {P:α->Prop} {q:α->PV} {ρ':α->List (Str×PV)} {target value:Sp} {pos:Pos} (hv:Ls G F ρ W Rs value P q) (ha:∀ L,P L->AV G F ρ W Rs target (q L) (ρ' L)) (h:∀ L,P L->XS G F (ρ' L) W Rs rest K)
  (hs:swapsWithSole [target] value pos.line F.env=pure false:=by rfl) (hw:swappedStores [target] value F.env=pure none:=by rfl)
  (he:(assignEach [target] F.env).map (·.2)=[UE target F.env]:=by rfl) :
  XS G F ρ W Rs (.Assign [target] value pos::rest) K:=λs S=>by
 refine TN ?_
 rw [Xg]
 refine Sl (Tt ?_)
 rw [hs]
 refine Sl (Sm ?_)
 rw [if_neg (by decide)]
 refine Sl (aF (hv s S) λv s₁ zz=>zz.elim λL zz=>zz.elim λhL zz=>zz.elim λx r=>?_)
 rw [hw]
 refine Sl (Sm ?_)
 rw [he]
 show wpAny _ _ (do UE target F.env v;pure Yb) _ _ s₁
 exact Sl (aF (ha L hL s₁ v (S.step x) r) λ_ s₂ zz=>zz.elim λS₂ z! => Sm (h L hL s₂ S₂))
theorem XS.no {test:Sp} {b:List Stmt} {pos:Pos} (ht:TV G F ρ W Rs test false) (k:XS G F ρ W Rs rest K):XS G F ρ W Rs (.If test b [] pos::rest) K :=
 XS.ite (J:=λs'=>St G F ρ W Rs s') ht (λh=>nomatch h) (λz! => XS.nil λs S=>S) (λs S=>k s S)
theorem Ls.comp {α:Type} {P:List α->Prop} {enc:α->PV} {elt target iter:Sp} {sc:Scope} {epos:Pos}
  (dG:α->List (Str×PV)) (f:α->PV) (hok:cT F.env.scope sc=true) (hi:Lq G F ρ W Rs target iter P (λL=>L.map enc))
  (ig:∀ a y q,(seen sc ρ).lookup y=some q->(dG a).lookup y=some q)
  (mO:∀ L,P L->∀ a∈L,∀ cl cs s0 X W' ak,AV G (F.comp sc cl cs s0 X) (seen sc ρ) W' ak target (enc a) (dG a))
  (hel:∀ L,P L->∀ a∈L,∀ cl cs s0 X W' ak,EV G (F.comp sc cl cs s0 X) (dG a) W' ak elt (f a)) (hl:∀ L,P L->L.length<=lim)
  (hs:∀ x,foldedSetIterable iter F.env x=pure x:=by intro _;rfl) :
  Ls G F ρ W Rs (.ListComp elt [⟨target,iter,[],0⟩] sc epos) P (λL=>.lst (L.map f)):=λs S=>by
 show wpAny _ _ (comprehension (.ListComp elt [⟨target,iter,[],0⟩] sc epos) sc F.env _ (newList []) false (eval iter F.env) none) _ _ _
 refine nO (P:=P) (ys:=λL=>(L.filter λz! => true).map f) rfl hok S (hi s S)
  (λL hL cl cs D it fp wr T s₂ s₃ R I hT hfp S' hD hcl hcs hk hR=>lZ dG (λz! => true) f ig (mO L hL) (λz! z! z! z! z! z! z! z! => u7.nil) (λa ha z! => hel L hL a ha) (hl L hL) cl cs D it fp wr T s₂ s₃ R I hT hfp S' hD hcl hcs hk hR) (λL hL cl D s₁ dn=>?_) hs
 exact λh' hs'=>⟨L,hL,by
  have:=dn.yc hs'
  rw [Wa.mpr λz! z! => rfl] at this
  exact this⟩
end Mine
namespace Mine
open PySem PySem.W PyProof.Rows
open PySem.Builtin.Str PySem.StrLaws
noncomputable def occs (y:List Nat):Nat->Nat->List Nat->List Nat
 | _,_,[]=>[]
 | i,skip,c::r=>if skip=0/\y <+: (c::r) then i::occs y (i+1) (y.length - 1) r else occs y (i+1) (skip - 1) r
theorem ki {x y:Str} (hy:1<=y.length):∀ (n i:Nat) (st:Array Nat×Nat),i+n=x.length+1->st.1.size<=i ->
  (forIn (List.range' i n) st (occBody x y x.length (x.length+1))).run.fst.toList=st.1.toList++occs (tl y) i (st.2 - i) ((tl x).drop i)
 | 0,i,st,h,_=>by
  have:(tl x).drop i=[]:=Ug (by rw [aM];exact SE (SI (Eq.symm h)))
  rw [this,occs]
  simp
 | n+1,i,st,h,hs=>by
  rw [List.range'_succ,UT]
  have hyl:=aM y
  have wV:=aM x
  by_cases hx:i=x.length
  ·have e1:(tl x).drop i=[]:=Ug (by exact LF h wV hx)
   have e2:(tl x).drop (i+1)=[]:=Ug (by exact Ly h wV hx)
   unfold occBody
   rw [if_neg (by rintro ⟨⟨_,h⟩,_⟩;exact Lv hy (by assumption) hx h)]
   have:=ki (x:=x) (y:=y) hy n (i+1) st (by exact w9 h) (by exact S5 hs)
   rw [e2,occs] at this
   rw [e1,occs]
   exact this
  ·have hd:(tl x).drop i=(tl x)[i]'(by exact Cr h wV hx)::(tl x).drop (i+1):=Xu (by exact Cr h wV hx)
   have hpre:(i+y.length<=x.length/\subAt x y i=true)↔tl y <+: (tl x).drop i:=by
    rw [subAt_eq,beq_iff_eq,List.prefix_iff_eq_take]
    constructor
    ·rintro ⟨_,h⟩
     rw [hyl];exact h.symm
    ·intro h
     have hl:=congrArg Wm h
     rw [Wt,T8] at hl
     rw [hyl] at h
     exact ⟨by exact IK (by assumption) hyl wV hx hl,h.symm⟩
   unfold occBody
   by_cases hc:((st.fst.size<x.length+1/\st.snd<=i)/\i+y.length<=x.length)/\subAt x y i=true
   ·rw [if_pos hc]
    have hp:=hpre.mp ⟨hc.1.2,hc.2⟩
    have:=ki (x:=x) (y:=y) hy n (i+1) (st.1.push i,i+y.length) (by exact w9 h) (by rw [Array.size_push];exact TZ hs)
    rw [hd] at hp ⊢
    rw [occs,if_pos ⟨Nat.sub_eq_zero_of_le hc.1.1.2,hp⟩]
    rw [show i+y.length - (i+1)=(tl y).length - 1 by exact IJ hy hyl] at this
    refine this.trans ?_
    simp
   ·rw [if_neg hc]
    have:=ki (x:=x) (y:=y) hy n (i+1) st (by exact w9 h) (by exact S5 hs)
    rw [hd] at hpre ⊢
    rw [occs,if_neg,show st.2 - i - 1=st.2 - (i+1) by exact rfl]
    ·exact this
    ·rintro ⟨h1,h2⟩
     have:=hpre.mpr h2
     exact hc ⟨⟨⟨by exact IF h hs hx,by exact IC h1⟩,this.1⟩,this.2⟩
theorem qv {x y:Str} (hy:1<=y.length):occurrences x y 0 x.length (x.length+1)=occs (tl y) 0 0 (tl x):=by
 rw [occ_eq]
 have:=ki (x:=x) hy (x.length+1) 0 (#[],0) (by exact Vw _ _) (Sz _)
 simpa using this
theorem jo {y:List Nat} {h:Nat} {t:List Nat} (hy:y=h::t):∀ {p:List Nat} {i:Nat} {rest:List Nat},h∉p->occs y i 0 (p++rest)=occs y (i+p.length) 0 rest
 | [],i,rest,_=>rfl
 | c::p,i,rest,hp=>by
  rw [Vb,occs,if_neg]
  ·rw [jo hy (p:=p) (λhm=>hp (Ss _ hm)),Tr]
   congr 1;exact Vz _ _ _
  ·rintro ⟨_,hpre⟩
   subst hy
   have:=(List.cons_prefix_cons.mp hpre).1
   exact hp (by rw [this];exact So ..)
theorem nA {y:List Nat}:∀ {p:List Nat} {i:Nat} {rest:List Nat},occs y i p.length (p++rest)=occs y (i+p.length) 0 rest
 | [],i,rest=>rfl
 | c::p,i,rest=>by
  rw [Vb,occs,if_neg (by rintro ⟨h,_⟩;cases h),Tr,Uk,nA (p:=p)]
  congr 1;exact Vz _ _ _
theorem yu {y:List Nat} {h:Nat} {t:List Nat} (hy:y=h::t) {i:Nat} {rest:List Nat}:occs y i 0 (y++rest)=i::occs y (i+y.length) 0 rest:=by
 subst hy
 rw [Vb,occs,if_pos ⟨rfl,List.prefix_append (h::t) rest⟩,Tr,Uk,nA]
 congr 2;exact Vz _ _ _
end Mine
namespace Mine
open PySem PySem.W PyProof.Rows
open PySem.Builtin.Str PySem.StrLaws
theorem yt (y:List Nat) (i s:Nat):occs y i s []=[]:=by rw [occs]
theorem EM {x:Str} {l:List Nat} (h:x.cps.toList=l):x=⟨l.toArray⟩:=by
 obtain ⟨a⟩:=x
 have:a.toList=l:=h
 subst this;simp
theorem xJ {x:Str} {a n:Nat} {p rest:List Nat} (h:(tl x).drop a=p++rest) (hn:n=p.length):strSub x a (a+n)=⟨p.toArray⟩:=by
 refine EM ?_
 show (strSub x a (a+n)).cps.toList=p
 rw [strSub_toList]
 show ((tl x).drop a).take _=p
 rw [h,show a+n - a=p.length by exact LG hn,List.take_left]
theorem qo {x y:Str} {h:Nat} {t:List Nat} (hy:tl y=h::t):∀ {L:List Str} {a:Nat},L≠[]->(∀ p∈L,h∉tl p)->a<=x.length->(tl x).drop a=tl (SP y L) ->
  partsFrom x y.length a (occs (tl y) a 0 ((tl x).drop a))=L
 | [],_,hn,_,_,_=>absurd rfl hn
 | [p],a,_,hp,ha,hx=>by
  have hx':(tl x).drop a=tl p++[]:=by rw [S6];exact hx
  rw [hx',jo hy (hp p (So ..)),yt,partsFrom]
  have hl:=congrArg Wm hx'
  rw [T8,S6,aM,aM] at hl
  have:=xJ (n:=p.length) hx' (aM p).symm
  rw [show a+p.length=x.length by exact Lz ha hl] at this
  rw [this]
  congr 1
 | p::q::r,a,_,hp,ha,hx=>by
  have hx':(tl x).drop a=tl p++(tl y++tl (SP y (q::r))):=by rw [hx,cK,S4]
  have hl:=congrArg Wm hx'
  rw [T8,SY,SY,aM,aM,aM] at hl
  have s_:(tl x).drop (a+p.length+y.length)=tl (SP y (q::r)):=by
   rw [UY,<- List.drop_drop,hx',<- List.drop_drop,<- aM p,List.drop_left,<- aM y,List.drop_left]
  rw [hx',jo hy (hp p (So ..)),yu hy,partsFrom]
  have hs:=xJ (n:=p.length) hx' (aM p).symm
  rw [aM p,hs,aM y]
  have ih:=qo (x:=x) hy (L:=q::r) (a:=a+p.length+y.length) (by simp) (λz hz=>hp z (Ss _ hz)) (by exact Lx ha hl) s_
  rw [s_] at ih
  rw [ih]
  congr 1
theorem kY {y:Str} {h:Nat} {t:List Nat} (hy:tl y=h::t) {L:List Str} (hn:L≠[]) (hp:∀ p∈L,h∉tl p) (hk:Vj y<=Vj (SP y L)):V3 (SP y L) y=L:=by
 have hy1:1<=y.length:=by rw [<- aM,hy];simp
 have key:=qo (x:=SP y L) (a:=0) hy hn hp (Td _) rfl
 rw [VK,<- qv hy1] at key
 have JM:(SP y L).length<y.length->∃ p,L=[p]:=λhlt=>by
  match L,hn with
  | [p],_=>exact ⟨p,rfl⟩
  | p::q::r,_ =>
   have:=congrArg Wm (cK y p q r)
   rw [SY,SY,aM,aM,aM,aM] at this
   rw [this] at hlt
   exact absurd (T_ (Sn (Sv _ _) (TA _ _)) hlt) (Tc _)
 unfold V3
 split
 ·rename_i hc
  rcases Wc.mp hc with hc | hc
  ·refine ob1_1 (JM (of_decide_eq_true hc)) λp aC=>?_;obtain rfl:=aC
   rfl
  ·exact absurd (of_decide_eq_true hc) (TP hk)
 ·split
  ·rename_i hc
   have he:occurrences (SP y L) y 0 (SP y L).length ((SP y L).length+1)=[]:=List.isEmpty_iff.mp hc
   rw [he,partsFrom] at key
   have:strSub (SP y L) 0 (SP y L).length=SP y L:=by
    refine gf ?_
    show (strSub (SP y L) 0 (SP y L).length).cps.toList=_
    rw [strSub_toList,VK]
    refine UP ?_
    show (tl (SP y L)).length<=_
    rw [aM];exact Sz _
   rw [this] at key
   exact key
  ·rw [partsBetween_eq];exact key
theorem qI {x:Str} (h:∀ c∈tl x,c<256):Vj x=1:=by
 unfold Vj
 rw [if_pos]
 rw [WJ]
 intro c hc
 exact decide_eq_true (h c (Array.mem_toList_iff.mpr hc))
theorem qH (x:Str):1<=Vj x:=by unfold Vj;split;exact Sz _;split <;> decide
end Mine
namespace Mine
open PySem PySem.W PyProof.Rows
noncomputable def jF (l:Str):Prop:=tl l≠[]/\10∉tl l/\13∉tl l
noncomputable def iu (l:Str):Str:=if (tl l).head? = some 46 then "."++l else l
noncomputable def nW (e:Str):Prop:=e="\n"\/e="\r"\/e="\r\n"
theorem I8 {c:Nat} (h1:c≠10) (h2:c≠13):dc c=false:=by
 unfold dc
 simp [h1,h2]
theorem jz:∀ {p rest:List Nat},10∉p->13∉p->crlf (p++rest)=p++crlf rest
 | [],_,_,_=>rfl
 | c::p,rest,h1,h2=>by
  rw [Vb,lX (I8 (λe=>h1 (by rw [e];exact So ..)) (λe=>h2 (by rw [e];exact So ..))),
   jz (λh=>h1 (Ss _ h)) (λh=>h2 (Ss _ h))]
  rfl
theorem kG {r:List Nat}:crlf (10::r)=13::10::crlf r:=by
 cases r with
 | nil=>rfl
 | cons d r=>rw [crlf,if_neg (by rintro ⟨h,_⟩;cases h),if_pos (by decide)]
theorem wm {r:List Nat}:crlf (13::10::r)=13::10::crlf r:=by rw [crlf,if_pos ⟨rfl,rfl⟩]
theorem BA {d:Nat} {r:List Nat} (h:d≠10):crlf (13::d::r)=13::10::crlf (d::r):=by
 rw [crlf,if_neg (by rintro ⟨_,h'⟩;exact h h'),if_pos (by decide)]
theorem nM:∀ {p rest:List Nat},10∉p->dots false (p++rest)=p++dots false rest
 | [],_,_=>rfl
 | c::p,rest,h=>by
  have hc:(c == 10)=false:=by
   have:c≠10:=λe=>h (by rw [e];exact So ..)
   simpa using this
  rw [Vb,dots,hc,nM λhm=>h (Ss _ hm)]
  rfl
theorem nN {p rest:List Nat} (hn:p≠[]) (h:10∉p):dots true (p++rest)=(if p.head? = some 46 then 46::p else p)++dots false rest:=by
 cases p with
 | nil=>exact absurd rfl hn
 | cons c p =>
  have hc:(c == 10)=false:=by
   have:c≠10:=λe=>h (by rw [e];exact So ..)
   simpa using this
  rw [Vb,dots,hc,nM λhm=>h (Ss _ hm)]
  by_cases N2:c=46
  ·subst N2;rfl
  ·have:(c == 46)=false:=by simpa using N2
   simp [N2,this]
theorem wj {r:List Nat}:dots false (13::10::13::10::r)=13::10::13::10::dots true r:=by
 simp [dots]
theorem kg (l:Str):tl (iu l)=if (tl l).head? = some 46 then 46::tl l else tl l:=by
 unfold iu
 split
 ·rw [aN];rfl
 ·rfl
theorem jI {e:Str} (he:nW e):∀ {L:List Str},(∀ l∈L,jF l)->dots true (crlf (tl (SP ("\n"++e) L)))=tl (SP "\r\n\r\n" (L.map iu))
 | [],_=>rfl
 | [l],h=>by
  refine ob0_3 (h l (So ..)) λh1 h2 h3=>?_
  show dots true (crlf (tl l))=tl (iu l)
  have e1:crlf (tl l)=tl l:=by
   have:=jz (rest:=[]) h2 h3
   rwa [S6,crlf,S6] at this
  have e2:=nN (rest:=[]) h1 h2
  rw [S6,dots,S6] at e2
  rw [e1,e2,kg]
 | l::m::r,h=>by
  refine ob0_3 (h l (So ..)) λh1 h2 h3=>?_
  have ih:=jI he (L:=m::r) λz hz=>h z (Ss _ hz)
  refine ob0_3 (h m (Ss _ (So ..))) λg1 g2 g3=>?_
  have JU:∃ d t,tl (SP ("\n"++e) (m::r))=d::t/\d≠10:=by
   cases hm:tl m with
   | nil=>exact absurd hm g1
   | cons d t =>
    have hd:d≠10:=λe=>g2 (by rw [hm,e];exact So ..)
    cases r with
    | nil=>exact ⟨d,t,hm,hd⟩
    | cons a r=>exact ⟨d,_,by rw [cK,hm];rfl,hd⟩
  have hsep:crlf (tl ("\n"++e)++tl (SP ("\n"++e) (m::r)))=13::10::13::10::crlf (tl (SP ("\n"++e) (m::r))):=by
   refine ob2_2 JU λd t hdt hd=>?_
   generalize tl (SP ("\n"++e) (m::r))=J at hdt
   rcases he with rfl | rfl | rfl
   ·show crlf (10::10::J)=_
    rw [kG,kG]
   ·show crlf (10::13::J)=_
    rw [kG,hdt,BA hd]
   ·show crlf (10::13::10::J)=_
    rw [kG,wm]
  rw [cK,S4,jz h2 h3,hsep,nN h1 h2,wj,ih]
  show _=tl (SP "\r\n\r\n" (iu l::iu m::r.map iu))
  rw [cK,kg,S4]
  rfl
theorem qj {e:Str} (he:nW e) {L:List Str} (h:∀ l∈L,jF l):quoted (SP ("\n"++e) L)=SP "\r\n\r\n" (L.map iu):=by
 refine gf ?_
 rw [<- jI he h]
 show (dots true (crlf _)).toArray.toList=_
 rfl
end Mine
namespace Mine
open PySem PySem.W PyProof.Rows
open PySem.Builtin.Str PySem.StrLaws
theorem DX (j:Option Int) (n:Nat):strSliceIndices none j 1 n=strSliceIndices (some ((0:Nat):Int)) j 1 n:=by
 have e:max (0:Int) (min ((0:Nat):Int) (n:Int))=0:=(ku ..).trans (by rw [Nat.zero_min];rfl)
 unfold strSliceIndices
 dsimp only
 have h:¬ ((0:Nat):Int)<0:=by decide
 rw [if_neg h]
 rewrite [show (if (1:Int) > 0 then max (0:Int) (min ((0:Nat):Int) (n:Int)) else max (-1) (min ((0:Nat):Int) ((n:Int) - 1)))=0 by rw [if_pos (by decide),e]]
 rfl
theorem DY (j:Option Int) (n:Nat):strSliceIndices j none 1 n=strSliceIndices j (some (n:Int)) 1 n:=by
 have e:max (0:Int) (min (n:Int) (n:Int))=n:=(ku ..).trans (by rw [Nat.min_self])
 have h:¬ (n:Int)<0:=by exact w7
 unfold strSliceIndices
 dsimp only
 rw [if_neg h]
 rewrite [show (if (1:Int) > 0 then max (0:Int) (min (n:Int) (n:Int)) else max (-1) (min (n:Int) ((n:Int) - 1)))=n by rw [if_pos (by decide),e]]
 rfl
theorem t7 {x:Str} {lo hi:Option Int} {a b:Nat} (h:strSliceIndices lo hi 1 x.length=strSliceIndices (some (a:Int)) (some (b:Int)) 1 x.length) (hab:a<=b) (hb:b<=x.length):tl (dU x lo hi)=((tl x).drop a).take (b - a):=by
 unfold dU
 rw [h]
 split
 ·rename_i hl
  rw [strSliceIndices_plain hab hb,Sq,TJ] at hl
  have ha:a=0:=by exact Lw hab hb hl
  have Rh:b=x.length:=by exact Lu hb hl ha
  subst ha Rh
  rw [VK,UP]
  rw [aM];exact Sz _
 ·show (List.toArray _).toList=_
  rw [sliced_plain x hab hb];rfl
theorem gS {x:Str} (h:1<=x.length):tl (dU x none (some 1))=(tl x).take 1:=by
 have:=t7 (x:=x) (lo:=none) (hi:=some 1) (a:=0) (b:=1) (DX _ _) (by exact Td _) h
 rwa [VK] at this
theorem mF {x:Str} (h:1<=x.length):tl (dU x (some 1) none)=(tl x).drop 1:=by
 have:=t7 (x:=x) (lo:=some 1) (hi:=none) (a:=1) (b:=x.length) (DY _ _) h (Sz _)
 rw [this,UP]
 rw [T8,aM];exact Sz _
end Mine
namespace Mine
open PySem PySem.W PyProof.Rows
theorem g8 (c:Nat):∀ (l:List Nat) (i:Nat),(occs [c] i 0 l).length=l.count c
 | [],i=>by rw [occs];rfl
 | a::l,i=>by
  rw [occs]
  by_cases h:a=c
  ·subst h
   rw [if_pos ⟨rfl,List.prefix_append [a] l⟩,Tr]
   show (occs [a] (i+1) 0 l).length+1=_
   rw [g8 a l,List.count_cons_self]
  ·rw [if_neg (λhh=>h (List.cons_prefix_cons.mp hh.2).1.symm)]
   show (occs [c] (i+1) 0 l).length=_
   rw [g8 c l,List.count_cons_of_ne h]
theorem jA (x:Str) (c:Nat):Vo x ⟨#[c]⟩=((tl x).count c:Int):=by
 unfold Vo
 rw [qv (y:=⟨#[c]⟩) (Sz 1)]
 exact congrArg Int.ofNat (g8 c (tl x) 0)
end Mine
namespace Mine
open PySem PySem.W PyProof.Rows
noncomputable def a_ (K:Frag) (pairs:List (Addr×Addr)):Frag:=K.filter λx => !(pairs.map (·.2)).contains x.1
noncomputable def bK (K:Frag) (c:Addr):Array Value:=match K.lookup c with
 | some ⟨_,_,.fields vs,_⟩=>vs
 | _=>#[]
noncomputable def Cu:Value->Str×Tok
 | .str x t=>(x,t)
 | _=>("",0)
noncomputable def uu:Value->Int×Tok
 | .int x t=>(x,t)
 | _=>(0,0)
noncomputable def EY:Value->Bool
 | .bool b=>b
 | _=>false
noncomputable def objOf (K:Frag) (c:Addr):Obj:=(K.lookup c).getD {cls:=.none,data:=.plain}
structure Fg (K:Frag) (c P:Addr):Prop where
 obj:K.lookup c=some (objOf K c)
 cls:(objOf K c).cls = .type "code"
 dat:(objOf K c).data = .fields (bK K c)
 Pu:(bK K c)[11]? = some (.ref P)
 RP:(bK K c).getD 18 .none = .str (Cu ((bK K c).getD 18 .none)).1 (Cu ((bK K c).getD 18 .none)).2
 f7:(bK K c).getD 7 .none = .int (uu ((bK K c).getD 7 .none)).1 (uu ((bK K c).getD 7 .none)).2
 f9:(bK K c).getD 9 .none = .bool (EY ((bK K c).getD 9 .none))
 RQ:(bK K c).getD 10 .none = .int (uu ((bK K c).getD 10 .none)).1 (uu ((bK K c).getD 10 .none)).2
 tab:K.lookup P=some {cls:=.none,data:=.fields #[]}
 ne:Nat.beq c P=false
noncomputable def Aj (K:Frag):List (Addr×Addr)->Prop
 | []=>True
 | x::r=>Fg K x.1 x.2/\Aj K r
theorem gz {K:Frag}:∀ {l:List (Addr×Addr)},Aj K l->∀ x∈l,Fg K x.1 x.2
 | [],_,x,h=>absurd h Tq
 | y::r,g,x,h=>by
  rcases Sx.mp h with rfl | h
  ·exact g.1
  ·exact gz g.2 x h
theorem iV {K:Frag} {h:Heap} {x:Addr×Addr} (X:K.In h) (e:Fg K x.1 x.2):bU h x.1 x.2 #[]:=by
 have RE:(bK K x.1).getD 11 .none = .ref x.2:=by
  rw [Array.getD_eq_getD_getElem?,e.Pu];rfl
 refine ⟨⟨_,_,_,_,_,_,_,_,_,_,X _ _ e.obj,e.dat,RE,e.RP,e.f7,e.f9,e.RQ,X _ _ e.tab,rfl,trivial,λh=>?_⟩,⟨⟨_,_,X _ _ e.obj,e.cls,e.dat,e.Pu⟩,X _ _ e.tab⟩⟩
 have:=e.ne
 rw [h] at this
 simp at this
structure FA (K:Frag) (pairs:List (Addr×Addr)):Prop where
 gen:Aj K pairs
 apart:(pairs.all λx => !(pairs.map (·.2)).contains x.1)=true
 tg:mainGlobals∉pairs.map (·.2)
 tb:builtinsNs∉pairs.map (·.2)
 ts:cStatics∉pairs.map (·.2)
 ng:nsOkIn K mainGlobals=true
 nb:nsOkIn K builtinsNs=true
 ns:nsOkIn K cStatics=true
 nl:nsIn K cStatics "sys.recursionlimit"=some none
structure KU (h0:Heap) (pairs:List (Addr×Addr)) (h:Heap):Prop where
 last:∃ o,h.get? (h0.objs.size - 1)=some o
 keep:∀ b o,h0.get? b=some o->b∉pairs.map (·.2)->h.get? b=some o
 code:∀ x∈pairs,∃ ps,bU h x.1 x.2 ps/\gO h ps.toList
theorem kj {h h':Heap} {a:Addr} {m:Str->Option Value} (n:h.Ns a m) (k:∀ o,h.get? a=some o->h'.get? a=some o):h'.Ns a m :=
 n.imp λo h_=>h_.imp λes h_=>h_.imp λep zz=>zz.elim λho r=>⟨k _ ho,r⟩
theorem CG {K:Frag} {h:Heap} {N:Addr} {mg:Str->Option Value} {n:Str} {v:Value} (X:K.In h) (G:h.Ns N mg) (e:nsIn K N n=some (some v)):mg n=some v:=by
 refine ob3_4 G λo es ep ho hd z! hf=>?_
 unfold nsIn at e
 split at e
 ·rename_i c d es' n' sl q
  have:=X _ _ q
  rw [ho] at this
  cases this
  cases hd
  split at e
  ·rename_i en he
   cases e
   rw [<- hf]
   unfold nsFind findBy
   rw [<- Array.find?_toList,he]
   rfl
  ·split at e <;> cases e
 ·cases e
theorem bR {K:Frag} {pairs:List (Addr×Addr)} {a:Addr} {o:Obj}:(a_ K pairs).lookup a=some o->K.lookup a=some o/\a∉pairs.map (·.2):=by
 unfold a_
 induction K with
 | nil=>intro h;cases h
 | cons x K ih =>
  intro h
  obtain ⟨b,ob⟩:=x
  rw [List.filter_cons] at h
  by_cases hb:b∈pairs.map (·.2)
  ·rw [if_neg (by simpa using hb)] at h
   refine ob0_2 (ih h) λh1 h2=>?_
   refine ⟨?_,h2⟩
   rw [Tp]
   have:(a == b)=false:=by
    rw [beq_eq_false_iff_ne]
    rintro rfl
    exact h2 hb
   rw [this];exact h1
  ·rw [if_pos (by simpa using hb),Tp] at h
   rw [Tp]
   by_cases hab:a=b
   ·subst hab
    rw [beq_self_eq_true] at h ⊢
    exact ⟨h,hb⟩
   ·rw [beq_eq_false_iff_ne.mpr hab] at h ⊢
    exact ih h
theorem p7 {h h':Heap} (hk:∀ v,fj h v->fj h' v) {l:List Value} (hr:gO h l):gO h' l:=by
 induction hr with
 | nil=>exact .nil
 | cons h1 _ ih=>exact .cons (hk _ h1) ih
theorem xE {h h':Heap} {c P:Addr} {ps:Array Value} (x:bU h c P ps) (k1:∀ o,h.get? c=some o->h'.get? c=some o) (k2:∀ o,h.get? P=some o->h'.get? P=some o):bU h' c P ps:=by
 obtain ⟨⟨o,vs,file,tf,flags,tg,Nl,text,tt,op,a,r1,r2,r3,r4,r5,r6,b,r⟩,⟨o',vs',t1,t2⟩,t3⟩:=x
 exact ⟨⟨o,vs,file,tf,flags,tg,Nl,text,tt,op,k1 _ a,r1,r2,r3,r4,r5,r6,k2 _ b,r⟩,⟨o',vs',k1 _ t1,t2⟩,k2 _ t3⟩
section
variable (prog:Program) (w:World) {K:Frag} {pairs:List (Addr×Addr)} {h0:Heap}
theorem uP {h:Heap} {c P:Addr} {ps:Array Value} (x:bU h c P ps):c<h.objs.size/\P<h.objs.size:=x.1.lt
noncomputable def bF (X:K.In h0) (C:FA K pairs) (hl:h0.objs.size - 1∉pairs.map (·.2)/\∃ o,h0.get? (h0.objs.size - 1)=some o):Glob where
 prog:=prog
 w:=w
 base:=h0
 tabs:=pairs.map (·.2)
 inv:=KU h0 pairs
 mg:=h0.nsMap mainGlobals
 mb:=h0.nsMap builtinsNs
 rM:=λb hb=>by
  refine ob1_2 (S7.mp hb) λx hx aA=>?_;obtain rfl:=aA
  exact (uP (iV X (gz C.gen x hx))).2
 A9:=λh h' Y i hY hk=>by
  have hrec:∀ v,fj h v->fj h' v:=λv zz=>zz.elim λc zz=>zz.elim λo zz=>zz.elim λvs zz=>zz.elim λq zz=>zz.elim λt zz=>zz.elim λe zz=>zz.elim λho zz=>zz.elim λhc zz=>zz.elim λhd hv=>⟨c,o,vs,q,t,e,hk c o (λhm=>by
   rcases (hY c hm).2 o ho with h1 | h1
   ·exact h1 hc
   ·exact h1 vs hd) ho,hc,hd,hv⟩
  have low:∀ b o,b<h0.objs.size->h.get? b=some o->h'.get? b=some o:=λb o hb e=>hk b o (λhm=>by have:=(hY b hm).1;exact TP this hb) e
  refine ⟨?_,λb o e hb=>low b o (Te e) (i.keep b o e hb),λx hx=>?_⟩
  ·refine ob1_1 hl.2 λo ho=>?_
   refine ob1_1 i.last λo' ho'=>?_
   exact ⟨o',low _ o' (Te ho) ho'⟩
  ·refine ob1_2 (i.code x hx) λps hps hr=>?_
   have l:=uP (iV X (gz C.gen x hx))
   exact ⟨ps,xE hps (λo e=>low _ o l.1 e) λo e=>low _ o l.2 e,p7 hrec hr⟩
 vZ:=λh i b o e hb=>i.keep b o e hb
 Ba:=λh i=>⟨h0.nsMap cStatics,kj (.of_isNs (W2 X C.ns)) λo e=>i.keep _ o e C.ts,nsMap_none_of_in X C.ns C.nl⟩
 Jr:=λh i=>by
  refine ob1_1 hl.2 λo ho=>ob1_1 i.last λo' ho'=>?_
  have h1:h0.objs.size - 1<h0.objs.size:=Te ho
  have h2:h0.objs.size - 1<h.objs.size:=Te ho'
  exact IL h2
 vY:=λh i=>kj (.of_isNs (W2 X C.ng)) λo e=>i.keep _ o e C.tg
 A_:=λh i=>kj (.of_isNs (W2 X C.nb)) λo e=>i.keep _ o e C.tb
 DV:=λh i b hb=>by
  refine ob1_2 (S7.mp hb) λx hx aA=>?_;obtain rfl:=aA
  refine ob1_2 (i.code x hx) λps aC z! =>ob0_3 aC λz! z! e=>?_
  exact ⟨_,ps,e,rfl⟩
 Js:=λh h' c P ps ps' i hP hc hc' hn hk=>by
  have hrec:∀ v,fj h v->fj h' v:=λv zz=>zz.elim λd zz=>zz.elim λo zz=>zz.elim λvs zz=>zz.elim λq zz=>zz.elim λt zz=>zz.elim λe zz=>zz.elim λho zz=>zz.elim λhcl zz=>zz.elim λhd hv=>⟨d,o,vs,q,t,e,hk d o (λhm=>by
   have:=hc.2.2
   rw [hm,this] at ho
   cases ho
   cases hcl) ho,hcl,hd,hv⟩
  refine ⟨?_,λb o e hb=>hk b o (λRj=>hb (Rj▸hP)) (i.keep b o e hb),λx hx=>?_⟩
  ·refine ob1_1 i.last λo' ho'=>?_
   exact ⟨o',hk _ o' (λh=>hl.1 (h▸hP)) ho'⟩
  ·refine ob1_2 (i.code x hx) λqs Le hr=>?_
   have Li:x.1≠P:=λhe=>by
    have:=Uv.mp C.apart x hx
    rw [he] at this
    simp at this
    refine ob1_2 (S7.mp hP) λy hy aA=>?_;obtain rfl:=aA
    exact this y.1 hy
   by_cases Lb:x.2=P
   ·have QK:qs=ps:=by
     have h1:=Le.2.2
     rw [Lb,hc.2.2] at h1
     cases h1;rfl
    subst QK
    refine ⟨ps',?_,hn hr⟩
    rw [Lb]
    rw [Lb] at Le
    obtain ⟨⟨o,vs,file,tf,flags,tg,Nl,text,tt,op,a,r1,r2,r3,r4,r5,r6,b,r⟩,⟨o',vs',t1,t2,t3,t4⟩,t5⟩:=Le
    obtain ⟨⟨o2,PW,Pq,R6,Oa,R5,Qq,text2,R4,Qd,a2,_,_,_,_,_,_,b2,r7,r8,_⟩,_,u5⟩:=hc'
    exact ⟨⟨o,vs,file,tf,flags,tg,Nl,text,tt,Qd,hk _ _ Li a,r1,r2,r3,r4,r5,r6,b2,r7,r8,Li⟩,⟨o',vs',hk _ _ Li t1,t2,t3,t4⟩,u5⟩
   ·exact ⟨qs,xE Le (λo e=>hk _ o Li e) λo e=>hk _ o Lb e,p7 hrec hr⟩
variable {prog w} {X:K.In h0} {C:FA K pairs} {hl:h0.objs.size - 1∉pairs.map (·.2)/\∃ o,h0.get? (h0.objs.size - 1)=some o}
theorem yy:(bF prog w X C hl).inv h0:=⟨hl.2,λb o e z! => e,λx hx=>⟨#[],iV X (gz C.gen x hx),.nil⟩⟩
theorem eE:∀ h,(bF prog w X C hl).inv h->(a_ K pairs).In h:=λh i a o e=>by
 refine ob0_2 (bR e) λh1 h2=>?_
 exact i.keep a o (X _ _ h1) h2
theorem yz {c P:Addr} (h:(c,P)∈pairs):∃ c' P',Vp c = .ref c'/\P'∈(bF prog w X C hl).tabs/\∀ h,(bF prog w X C hl).inv h->∃ ps,bU h c' P' ps:=⟨c,P,rfl,S7.mpr ⟨_,h,rfl⟩,λh' i=>(i.code _ h).imp λps zz=>zz.elim λh1 z! => h1⟩
end
end Mine
namespace Mine
open PySem PySem.W PyProof.Rows
open PySem.Builtin.Re PySem.Builtin
noncomputable def zu (K:Frag) (f:Addr):FuncData:=match K.lookup f with
 | some ⟨_,_,.func fd,_⟩=>fd
 | _=>default
noncomputable def fD (K:Frag) (f:Addr):Value:=(zu K f).pyModule
noncomputable def iw (K:Frag) (f:Addr):Value:=(zu K f).code
noncomputable def EL (K:Frag) (f:Addr):Value:=(zu K f).closureTuple
noncomputable def refOf:Value->Addr
 | .ref a=>a
 | _=>0
noncomputable def wB (K:Frag) (f:Addr):Addr:=refOf (iw K f)
noncomputable def iK (K:Frag) (f:Addr):Obj:=(K.lookup f).getD {cls:=.none,data:=.plain}
noncomputable def uR (K:Frag) (c:Addr):Bool:=match K.lookup c with
 | some ⟨_,_,.cell _,_⟩=>true
 | _=>false
noncomputable def CW (K:Frag) (fd:FuncData):Bool :=
 codeIn K fd.code fd.qualname && Nat.beq fd.globals mainGlobals && Nat.beq fd.builtins builtinsNs && decide (fd.scope.kind = .function) && !fd.scope.isCoroutine && !fd.scope.isGenerator &&
  decide ((fd.scope.names.map (·.1)).Nodup) && (fd.scope.names.all λx=>decide (x.2 ≠ .free) || (fd.closure.lookup x.1).isSome) && fd.closure.all λx=>uR K x.2
theorem qE {α β:Type} [BEq α] [LawfulBEq α] {x:α} {y:β}:∀ {l:List (α×β)},l.lookup x=some y->(x,y)∈l
 | [],h=>by cases h
 | (a,b)::l,h=>by
  rw [Tp] at h
  split at h
  ·rename_i e
   cases h
   rw [Vc e];exact So ..
  ·exact Ss _ (qE h)
structure m5 (K:Frag) (f:Addr) (fd:FuncData) (body:List Stmt):Prop where
 at_:K.lookup f=some (iK K f)
 dat:(iK K f).data = .func fd
 body:fd.body = .stmts body
 Fz:CW K fd=true
section
variable {prog:Program} {w:World} {K:Frag} {pairs:List (Addr×Addr)} {h0:Heap} {X:K.In h0} {C:FA K pairs} {hl:h0.objs.size - 1∉pairs.map (·.2)/\∃ o,h0.get? (h0.objs.size - 1)=some o}
theorem m5.ok {f:Addr} {fd:FuncData} {body:List Stmt} (F:m5 (a_ K pairs) f fd body):bQ (bF prog w X C hl) f fd body:=by
 obtain ⟨at_,hfd,hb,Fz⟩:=F
 refine ob0_2 (bR at_) λh1 h2=>?_
 unfold CW at Fz
 simp only [Wo,Bool.not_eq_true',decide_eq_true_eq] at Fz
 refine ob0_2 Fz λbM c9=>ob0_2 bM λbM c8=>ob0_2 bM λbM c7=>ob0_2 bM λbM c6=>ob0_2 bM λbM c5=>ob0_2 bM λbM c4=>ob0_2 bM λbM c3=>ob0_2 bM λc1 c2=>?_
 refine ⟨⟨_,X _ _ h1,hfd⟩,h2,hb,λh i=>codeRec_of (eE h i) c1,Nat.eq_of_beq_eq_true c2,Nat.eq_of_beq_eq_true c3,c4,c5,c6,c7,λx hx=>?_,λx c hc=>?_⟩
 ·have:=Uv.mp c8 _ hx
  rw [W3] at this
  rcases this with h | h
  ·exact absurd rfl (of_decide_eq_true h)
  ·exact Option.isSome_iff_exists.mp h
 ·have:=Uv.mp c9 _ (qE hc)
  unfold uR at this
  split at this
  ·rename_i c' d' v sl hh
   refine ⟨Te (X _ _ (bR hh).1),λh i=>⟨v,_,eE h i _ _ hh,rfl⟩⟩
  ·cases this
theorem xH {S K':Frag} {h:Heap} (X:K'.In h) (e:S.map (λx=>K'.lookup x.1)=S.map λx=>some x.2):S.In h:=by
 refine Frag.in_of rfl ?_
 rw [Th]
 refine Tv λx hx=>?_
 exact X _ _ (List.map_inj_left.mp e x hx)
theorem Dz {N:Addr} (e:nsOkIn (a_ K pairs) N=true):∀ h,(bF prog w X C hl).inv h->h.Ns N (h0.nsMap N):=by
 have e0:=e
 unfold nsOkIn at e
 split at e
 ·rename_i c d es n sl hh
  refine ob0_2 (bR hh) λh1 h2=>?_
  have hX:(a_ K pairs).In h0:=λa o e=>X _ _ (bR e).1
  exact λh i=>kj (.of_isNs (W2 hX e0)) λo e=>i.keep _ o e h2
 ·cases e
noncomputable def eH (K:Frag) (C:Addr):ClassData:=(clsIn K C).getD ⟨"",[],[],0,"",true,[],[],false,none,false⟩
noncomputable def slotIn (K:Frag) (C:Addr) (i:Nat):Option Value:=(iK K C).slots.getD i none
noncomputable def strOf:Option Value->String
 | some (.builtin s)=>s
 | _=>""
noncomputable def tN (K:Frag) (C N:Addr) (bm:List Value):Obj :=
 excClassObj (eH K C).name (eH K C).qualname C N (eH K C).bases bm true (eH K C).slotNames (eH K C).subclasses (eH K C).abstract (eH K C).collection (iK K C).dict (slotIn K C 0) (slotIn K C 1) (slotIn K C 2) (slotIn K C 3) (slotIn K C 5) (strOf (slotIn K C 4))
theorem dZ {D N:Addr} {bm:List Value} {name:Str} (e:(a_ K pairs).lookup D=some (tN (a_ K pairs) D N bm)) (n:nsOkIn (a_ K pairs) N=true) (e1:nsIn (a_ K pairs) N "__setattr__"=some none) (e2:nsIn (a_ K pairs) N name=some none) :
  eF (bF prog w X C hl) D N bm name:=by
 have hX:(a_ K pairs).In h0:=λa o e=>X _ _ (bR e).1
 exact ⟨⟨_,_,_,_,_,_,_,_,_,_,_,_,_,_,λh i=>eE h i _ _ e⟩,_,Dz n,nsMap_none_of_in hX n e1,nsMap_none_of_in hX n e2⟩
noncomputable def zv (K:Frag) (a:Addr) (i:Nat):Value:=match (iK K a).data with
 | .fields vs=>vs.getD i .none
 | _=>.none
noncomputable def intOf:Value->Int
 | .int i _=>i
 | _=>0
noncomputable def tokOf:Value->Tok
 | .int _ t=>t
 | .str _ t=>t
 | _=>0
noncomputable def Cx (K:Frag) (a:Addr):Array Value:=match (iK K a).data with
 | .seq vs _=>vs
 | _=>#[]
noncomputable def Dp (K:Frag) (a:Addr):Nat:=match (iK K a).data with
 | .seq _ n=>n
 | _=>0
noncomputable def Ct (K:Frag) (N:Addr) (x:Str):Tok:=match nsIn K N x with
 | some (some v)=>tokOf v
 | _=>0
structure BW (K:Frag) (a ct:Addr) (code:Array Nat):Prop where
 pat:K.lookup a=some {cls:=.type "re.Pattern",data:=.fields #[zv K a 0,.int (intOf (zv K a 1)) (tokOf (zv K a 1)),.int 0 0,.none,.none,.ref ct,.int 0 0]}
 tup:K.lookup ct=some {cls:=.type "tuple",data:=.seq (Cx K ct) (Dp K ct)}
 code:((Cx K ct).map reRawOf).map (·.toNat)=code
theorem BW.ok {a ct:Addr} {code:Array Nat} (p:BW (a_ K pairs) a ct code):∀ h,(bF prog w X C hl).inv h->ee h a ct code:=λh i =>
 ⟨⟨_,_,_,eE h i _ _ p.pat⟩,_,_,eE h i _ _ p.tup,p.code⟩
end
end Mine
namespace Mine
open PySem PySem.W PyProof.Rows
noncomputable abbrev dQ:Program:=PySem.Challenge.pw_rs0183_01
noncomputable abbrev K_:Nat:=8
noncomputable abbrev La:Nat:=9
noncomputable abbrev Qs:Nat:=5
noncomputable abbrev Qt:Nat:=6
noncomputable abbrev K8:Nat:=14
noncomputable abbrev Fd:Addr:=208
noncomputable abbrev Fe:Addr:=217
noncomputable abbrev Py:Addr:=200
noncomputable abbrev Pz:Addr:=209
noncomputable abbrev OT:Addr:=201
noncomputable abbrev OU:Addr:=210
noncomputable abbrev OC:Tok:=501
noncomputable abbrev OD:Tok:=515
noncomputable abbrev Fb:Addr:=234
noncomputable abbrev Lo:Addr:=222
noncomputable abbrev Ln:Addr:=227
noncomputable abbrev PK:Addr:=221
noncomputable abbrev PJ:Addr:=226
noncomputable abbrev aX:Addr:=195
noncomputable abbrev I_:Addr:=194
noncomputable abbrev wX:Addr:=119
noncomputable abbrev BS:Addr:=132
noncomputable abbrev d9:Addr:=139
noncomputable abbrev gE:Addr:=147
noncomputable abbrev gD:Addr:=155
noncomputable abbrev j5:Addr:=162
noncomputable abbrev j0:Addr:=169
noncomputable abbrev gY:Addr:=177
noncomputable abbrev mX:Addr:=184
noncomputable abbrev l_:Addr:=192
noncomputable abbrev PA:Addr:=124
noncomputable abbrev zJ:Addr:=140
noncomputable abbrev CX:Addr:=170
noncomputable abbrev PY:Tok:=415
noncomputable abbrev Di:Tok:=434
noncomputable abbrev dm:Addr:=111
noncomputable abbrev sM:Addr:=110
noncomputable abbrev E_:Addr:=52
noncomputable abbrev jZ:Addr:=59
noncomputable abbrev jD:Addr:=73
noncomputable abbrev iz:Addr:=108
noncomputable abbrev K9:Nat:=16
noncomputable abbrev Jw:Nat:=17
noncomputable abbrev C6:Addr:=246
noncomputable abbrev Fq:Nat:=18
noncomputable abbrev Fc:Addr:=251
noncomputable abbrev BR:Addr:=241
end Mine
namespace Mine
open PySem PySem.W PyProof.Rows
variable {G:Glob} {F:Fm} {ρ ρ':List (Str×PV)} {W W':List Addr} {Rs ak:List Res} {s s':Shared}
noncomputable def rq:List Str:=["a","x","lo","hi","key"]
noncomputable def oY (pm code:Value):FuncData:=fdOf (bH dQ K_) "bisect_right" [] (.ref Py) (.ref OT) pm code .none
noncomputable def oZ (pm code:Value):FuncData:=fdOf (bH dQ La) "bisect_left" [] (.ref Pz) (.ref OU) pm code .none
noncomputable def zW (P:Params):Frag:=[(Py,{cls:=.type "tuple",data:=.seq #[.int 0 OC,.none]}),(OT,{cls:=.type "dict",data:=.dict #[{hash:=PyData.keyHash P "key",key:=.str "key" (OC+1),val:=.none}] 1}),
 (Pz,{cls:=.type "tuple",data:=.seq #[.int 0 OD,.none]}),(OU,{cls:=.type "dict",data:=.dict #[{hash:=PyData.keyHash P "key",key:=.str "key" (OD+1),val:=.none}] 1})]
structure mj (G:Glob):Prop where
 mP:∀ h,G.inv h->(zW G.w.params).In h
 br:∃ pm code,bQ G Fd (oY pm code) (bodyOf (bH dQ K_))
 bl:∃ pm code,bQ G Fe (oZ pm code) (bodyOf (bH dQ La))
 len:G.mg "len"=none/\G.mb "len"=some (.builtin "len")
theorem BJ {P:Params} {pm code:Value} {a b c:Value} (X:(zW P).In s.heap):BindsTo s (oY pm code) ⟨[a,b,c],[]⟩ (rq.zip [a,b,c,.none,.none]):=kp_binds X λz! => by kernel_rfl
theorem BK {P:Params} {pm code:Value} {a b c d:Value} (X:(zW P).In s.heap):BindsTo s (oZ pm code) ⟨[a,b,c,d],[]⟩ (rq.zip [a,b,c,d,.none]):=kp_binds X λz! => by kernel_rfl
noncomputable def JT (b:Bool) (hi:Nat):PV:=if b then .none else .int hi
theorem wD {f L:Addr} {pm code:Value} {A:Around} {n:Nat} (ok:mj G) (b:Bool)
 {es:List PV} {x:PV} {lo hi:Nat} {p:Nat->Bool} (hhi:hi<=es.length) (hb:b=true->hi=es.length) (hcmp:∀ i e,es[i]? = some e->wQ G .Lt x e (p i)) :
 XS G (eV (oY pm code) f A s L n) (rq.zip [.lst es,x,.int lo,JT b hi,.none]).reverse W [] (bodyOf (bH dQ K_)) (λfl s'=>aG G [] s s'/\Rep W s'.heap (.int (bis p lo hi)) (match fl with | .ret v=>v | _=>.none)):=by
 refine XS.skip ((TV.cmp (EV.name rfl) EV.aE jL).conv (decide_eq_false (by exact w7))) ?_
 refine XS.ite (λs'=>St G (eV (oY pm code) f A s L n) [("hi",.int hi),("lo",.int lo),("a",.lst es),("x",x),("key",.none)] W [] s') (TV.cmp (EV.name rfl) EV.nP (eL b (by cases b <;> rfl))) (λhb'=>?_) (λhb'=>?_) ?_
 ·refine XS.asg (EV.sW (EV.blt rfl ok.len.1 ok.len.2) (EV.name rfl)) (AV.name (.inl rfl)) (XS.nil λs₁ S₁=>S₁.weaken ?_)
  refine af ?_ (af rfl (af rfl (af rfl (af rfl ao))))
  rw [hb hb'];rfl
 ·subst hb'
  exact XS.nil λs₁ S₁=>S₁.weaken (af rfl (af rfl (af rfl (af rfl (af rfl ao)))))
 intro s₀ wK
 revert s₀
 show XS G _ _ _ _ _ _
 refine XS.take (TV.cmp (EV.name rfl) EV.nP (eL true rfl)) (λs'=>St G (eV (oY pm code) f A s L n) [("lo",.int (bis p lo hi))] W [] s') ?_
  (λs₁ S₁=>XS.ret (EV.name rfl) (λs₂ v S r=>⟨S.stp,r⟩) s₁ S₁)
 refine XS.while (τ:=Nat×Nat) (λz=>bis p z.1 z.2=bis p lo hi/\z.2<=es.length) (λz=>z.2 - z.1)
  (λz=>[("lo",.int z.1),("hi",.int z.2),("a",.lst es),("x",x)]) (λz=>decide ((z.1:Int)<z.2)) (lo,hi) ⟨rfl,hhi⟩ ?_ (λz hz=>TV.cmp (EV.name rfl) (EV.name rfl) jL)
  (λz hz hc=>?_) (λz hz hc=>XS.nil λs₁ S₁=>S₁.weaken ?_)
 ·exact af rfl (af rfl (af rfl (af rfl ao)))
 ·obtain ⟨i,j⟩:=z
  have hij:i<j:=Uy.mp (of_decide_eq_true hc)
  have hm:(i+j) / 2<es.length:=Su (kJ hij) hz.2
  refine XS.asg (p:=.int ((i+j) / 2:Nat)) (EV.conv (EV.fdiv (EV.add (EV.name rfl) (EV.name rfl)) EV.aE (by decide) (by decide)) ?_) (AV.name (.inl rfl)) ?_
  ·rw [show (((i:Nat):Int)+((j:Nat):Int)).fdiv 2=((i+j) / 2:Nat) from by rw [Xn _ (by decide)];exact Cq]
  refine XS.ite (λs'=>∃ z':Nat×Nat,(bis p z'.1 z'.2=bis p lo hi/\z'.2<=es.length)/\z'.2 - z'.1<j - i/\St G (eV (oY pm code) f A s L n) [("lo",.int z'.1),("hi",.int z'.2),("a",.lst es),("x",x)] W [] s')
   (TV.cmp (EV.name rfl) (EV.yU (p:=es[(i+j) / 2]) (EV.name rfl) (EV.name rfl) ?_) (hcmp ((i+j) / 2) _ (SW hm) _ _ _ _)) (λhp=>?_) (λhp=>?_) (λs₁ h₁=>UR h₁)
  ·exact oS (SW hm)
  ·refine XS.asg (EV.name rfl) (AV.name (.inl rfl)) (XS.nil λs₁ S₁=>⟨(i,(i+j) / 2),⟨?_,?_⟩,?_,S₁.weaken (af rfl (af rfl (af rfl (af rfl ao))))⟩)
   ·exact (E1 hij hp).symm.trans hz.1
   ·show (i+j) / 2<=_
    exact Tf hm
   ·exact Nat.sub_lt_sub_right (fO hij) (kJ hij)
  ·refine XS.asg (EV.add (EV.name rfl) EV.aE) (AV.name (.inl rfl)) (XS.nil λs₁ S₁=>⟨((i+j) / 2+1,j),⟨?_,?_⟩,?_,S₁.weaken (af rfl (af rfl (af rfl (af rfl ao))))⟩)
   ·exact (E0 hij hp).symm.trans hz.1
   ·exact hz.2
   ·exact Xx hij (SN (fO hij))
 ·obtain ⟨i,j⟩:=z
  have hij:¬ i<j:=λh=>of_decide_eq_false hc (Uy.mpr h)
  refine af ?_ ao
  exact congrArg (λn:Nat=>some (PV.int n)) ((uT hij).symm.trans hz.1)
theorem wF {f L:Addr} {pm code:Value} {A:Around} {n:Nat} (ok:mj G) (b:Bool)
 {es:List PV} {x:PV} {lo hi:Nat} {p:Nat->Bool} (hhi:hi<=es.length) (hb:b=true->hi=es.length) (hcmp:∀ i e,es[i]? = some e->wQ G .Lt e x (!p i)) :
 XS G (eV (oZ pm code) f A s L n) (rq.zip [.lst es,x,.int lo,JT b hi,.none]).reverse W [] (bodyOf (bH dQ La)) (λfl s'=>aG G [] s s'/\Rep W s'.heap (.int (bis p lo hi)) (match fl with | .ret v=>v | _=>.none)):=by
 refine XS.skip ((TV.cmp (EV.name rfl) EV.aE jL).conv (decide_eq_false (by exact w7))) ?_
 refine XS.ite (λs'=>St G (eV (oZ pm code) f A s L n) [("hi",.int hi),("lo",.int lo),("a",.lst es),("x",x),("key",.none)] W [] s') (TV.cmp (EV.name rfl) EV.nP (eL b (by cases b <;> rfl))) (λhb'=>?_) (λhb'=>?_) ?_
 ·refine XS.asg (EV.sW (EV.blt rfl ok.len.1 ok.len.2) (EV.name rfl)) (AV.name (.inl rfl)) (XS.nil λs₁ S₁=>S₁.weaken ?_)
  refine af ?_ (af rfl (af rfl (af rfl (af rfl ao))))
  rw [hb hb'];rfl
 ·subst hb'
  exact XS.nil λs₁ S₁=>S₁.weaken (af rfl (af rfl (af rfl (af rfl (af rfl ao)))))
 intro s₀ wK
 revert s₀
 show XS G _ _ _ _ _ _
 refine XS.take (TV.cmp (EV.name rfl) EV.nP (eL true rfl)) (λs'=>St G (eV (oZ pm code) f A s L n) [("lo",.int (bis p lo hi))] W [] s') ?_
  (λs₁ S₁=>XS.ret (EV.name rfl) (λs₂ v S r=>⟨S.stp,r⟩) s₁ S₁)
 refine XS.while (τ:=Nat×Nat) (λz=>bis p z.1 z.2=bis p lo hi/\z.2<=es.length) (λz=>z.2 - z.1)
  (λz=>[("lo",.int z.1),("hi",.int z.2),("a",.lst es),("x",x)]) (λz=>decide ((z.1:Int)<z.2)) (lo,hi) ⟨rfl,hhi⟩ ?_ (λz hz=>TV.cmp (EV.name rfl) (EV.name rfl) jL)
  (λz hz hc=>?_) (λz hz hc=>XS.nil λs₁ S₁=>S₁.weaken ?_)
 ·exact af rfl (af rfl (af rfl (af rfl ao)))
 ·obtain ⟨i,j⟩:=z
  have hij:i<j:=Uy.mp (of_decide_eq_true hc)
  have hm:(i+j) / 2<es.length:=Su (kJ hij) hz.2
  refine XS.asg (p:=.int ((i+j) / 2:Nat)) (EV.conv (EV.fdiv (EV.add (EV.name rfl) (EV.name rfl)) EV.aE (by decide) (by decide)) ?_) (AV.name (.inl rfl)) ?_
  ·rw [show (((i:Nat):Int)+((j:Nat):Int)).fdiv 2=((i+j) / 2:Nat) from by rw [Xn _ (by decide)];exact Cq]
  refine XS.ite (λs'=>∃ z':Nat×Nat,(bis p z'.1 z'.2=bis p lo hi/\z'.2<=es.length)/\z'.2 - z'.1<j - i/\St G (eV (oZ pm code) f A s L n) [("lo",.int z'.1),("hi",.int z'.2),("a",.lst es),("x",x)] W [] s')
   (TV.cmp (EV.yU (p:=es[(i+j) / 2]) (EV.name rfl) (EV.name rfl) ?_) (EV.name rfl) (hcmp ((i+j) / 2) _ (SW hm) _ _ _ _)) (λhp=>?_) (λhp=>?_) (λs₁ h₁=>UR h₁)
  ·exact oS (SW hm)
  ·refine XS.asg (EV.add (EV.name rfl) EV.aE) (AV.name (.inl rfl)) (XS.nil λs₁ S₁=>⟨((i+j) / 2+1,j),⟨?_,?_⟩,?_,S₁.weaken (af rfl (af rfl (af rfl (af rfl ao))))⟩)
   ·have D8:p ((i+j) / 2)=false:=by simpa using hp
    rw [<- hz.1]
    conv=>rhs;rw [bis]
    simp only [hij,if_true,D8,UC,if_false]
   ·exact hz.2
   ·exact Xx hij (SN (fO hij))
  ·refine XS.asg (EV.name rfl) (AV.name (.inl rfl)) (XS.nil λs₁ S₁=>⟨(i,(i+j) / 2),⟨?_,?_⟩,?_,S₁.weaken (af rfl (af rfl (af rfl (af rfl ao))))⟩)
   ·have D8:p ((i+j) / 2)=true:=by simpa using hp
    rw [<- hz.1]
    conv=>rhs;rw [bis]
    simp only [hij,if_true,D8]
   ·show (i+j) / 2<=_
    exact Tf hm
   ·exact Nat.sub_lt_sub_right (fO hij) (kJ hij)
 ·obtain ⟨i,j⟩:=z
  have hij:¬ i<j:=λh=>of_decide_eq_false hc (Uy.mpr h)
  refine af ?_ ao
  exact congrArg (λn:Nat=>some (PV.int n)) ((uT hij).symm.trans hz.1)
theorem ah.four {h:Heap} {p q z y vs} (r:ah W h [p,q,z,y] vs):∃ v u t o,vs=[v,u,t,o]/\Rep W h p v/\Rep W h q u/\Rep W h z t/\Rep W h y o:=by
 rw [ah] at r;refine ob2_3 r λv vs' aA r1 r2=>?_;obtain rfl:=aA
 refine ob3_4 r2.three λu t o rP r3 r4 r5=>?_;obtain rfl:=rP;exact ⟨v,u,t,o,rfl,r1,r3,r4,r5⟩
theorem ah.mk2 {h:Heap} {p q v u} (a:Rep W h p v) (b:Rep W h q u):ah W h [p,q] [v,u]:=by
 rw [ah];refine ⟨_,_,rfl,a,?_⟩;rw [ah];exact ⟨_,_,rfl,b,by rw [ah]⟩
theorem ah.OS {h:Heap} {p q z y x v u t o e} (a:Rep W h p v) (b:Rep W h q u) (c:Rep W h z t) (d:Rep W h y o) (f:Rep W h x e):ah W h [p,q,z,y,x] [v,u,t,o,e]:=by
 rw [ah];refine ⟨_,_,rfl,a,?_⟩;rw [ah];refine ⟨_,_,rfl,b,?_⟩;rw [ah];exact ⟨_,_,rfl,c,ah.mk2 d f⟩
theorem KL {pm code:Value}:∀ x∈rq,(oY pm code).scope.names.lookup x=some .local\/(oY pm code).scope.names.lookup x=some .cell:=ff (.inl rfl) (ff (.inl rfl) (ff (.inl rfl) (ff (.inl rfl) (ff (.inl rfl) z5))))
theorem E3 {pm code:Value}:∀ x∈rq,(oZ pm code).scope.names.lookup x=some .local\/(oZ pm code).scope.names.lookup x=some .cell:=ff (.inl rfl) (ff (.inl rfl) (ff (.inl rfl) (ff (.inl rfl) (ff (.inl rfl) z5))))
theorem KI (ok:mj G) {es:List PV} {x:PV} {lo:Nat} {p:Nat->Bool} (hcmp:∀ i e,es[i]? = some e->wQ G .Lt x e (p i)) {n:Nat}:FC G Fd (n+1) [.lst es,x,.int lo] (.int (bis p lo es.length)):=by
 refine ob2_1 ok.br λpm code fn=>?_
 refine FC.of fn (names:=rq) (ps':=[.lst es,x,.int lo,.none,.none]) (λs W vs iv r=>?_) rfl KL (λA W s L hA=>wD (lo:=lo) ok true (Sz _) (λz! => rfl) hcmp)
 refine ob3_4 r.three λa b c rP r1 r2 r3=>?_;obtain rfl:=rP
 exact ⟨[a,b,c,.none,.none],BJ (ok.mP _ iv),.OS r1 r2 r3 Rep.none Rep.none⟩
theorem KN (ok:mj G) {es:List PV} {x:PV} {lo hi:Nat} {p:Nat->Bool} (hhi:hi<=es.length) (hcmp:∀ i e,es[i]? = some e->wQ G .Lt e x (!p i)) {n:Nat}:FC G Fe (n+1) [.lst es,x,.int lo,.int hi] (.int (bis p lo hi)):=by
 refine ob2_1 ok.bl λpm code fn=>?_
 refine FC.of fn (names:=rq) (ps':=[.lst es,x,.int lo,.int hi,.none]) (λs W vs iv r=>?_) rfl E3 (λA W s L hA=>wF (lo:=lo) (hi:=hi) ok false hhi (λh=>nomatch h) hcmp)
 refine ob4_5 r.four λa b c d xg r1 r2 r3 r4=>?_;obtain rfl:=xg
 exact ⟨[a,b,c,d,.none],BK (ok.mP _ iv),.OS r1 r2 r3 r4 Rep.none⟩
end Mine
namespace Mine
open PySem PySem.W PyProof.Rows
variable {G:Glob} {F:Fm} {ρ ρ':List (Str×PV)} {W W':List Addr} {Rs ak:List Res} {s s':Shared}
theorem EV.rawStr {e:Sp} {x:Str} {t:Tok} (h:EV G F ρ W Rs e (.raw (.str x t))) (hl:x.length<=lim:=by decide):EV G F ρ W Rs e (.str x):=λs S =>
 aF (h s S) λv s' zz=>zz.elim λy r=>⟨y,by rw [Rep] at r;subst r;exact Rep.str hl⟩
theorem EV.CI {o:Sp} {es:List Sp} {name:Str} {id T:String} {apos pos:Pos} {a:Addr} {ps:List PV} {q:PV} (ho:EV G F ρ W Rs o (.raw (.ref a))) (ha:aW G F ρ W Rs es ps)
  (hobj:∀ h,G.inv h->∃ ob,h.get? a=some ob/\ob.cls = .type T/\ob.dict=none) (pa:PlainAttrs T) (slot:Slot T name id) (ty:typeOf (.builtin id)=pure (.type "method_descriptor"))
  (h:∀ s vs,St G F ρ W Rs s->ah W s.heap ps vs->Gv G F.A W (call (.builtin id) (.ref a::vs)) q s)
  (hne:es≠[]:=by simp)
  (hbase:attributeBase o name F.env (eval o F.env)=eval o F.env:=by rfl)
  (hfew:((backTo pos (starEach es F.env)).all (λx => !x.1) && (backToKw pos (keywordEach [] F.env)).all (λx=>x.1.isSome)
   && decide (es.length+([]:List Keyword).length+(if ([]:List Keyword).isEmpty then 0 else 1)<30))=true:=by rfl)
  (hst:backTo pos (starEach es F.env)=es.map (λe=>(false,eval e F.env)):=by rfl)
  (hline:(apos.endLine == pos.line)=true:=by rfl) :
  EV G F ρ W Rs (.Call (.Attribute o name apos) es [] pos) q:=λs S=>by
 obtain ⟨e,es',rfl⟩:∃ e es',es=e::es':=by cases es with | nil=>exact absurd rfl hne | cons a b=>exact ⟨a,b,rfl⟩
 refine Ut hbase hfew hline (aF (ho s S) λv s₁ zz=>zz.elim λy r=>?_)
 rw [Rep] at r;subst r
 refine ob1_3 (hobj _ (y.inv S.inv)) λob e1 e2 e3=>?_
 rw [hst]
 refine ⟨T,id,pa,slot,ty,⟨_,e1,e2⟩,(λa' e=>by cases e;exact ⟨_,e1,e3⟩),?_⟩
 refine TM (noStar _) ?_
 exact TF (aF (ha s₁ (S.step y)) λvs s₂ zz=>zz.elim λz rs=>aF (h s₂ vs ((S.step y).step z) rs) λv s₃ zz=>zz.elim λu ru=>⟨y.trans (z.trans u),ru⟩)
theorem CU {a ct:Addr} {code:Array Nat} {next:Nat->Option (Nat×Nat)} {x r z:Str} (hp:∀ h,G.inv h->ee h a ct code) (hf:rL code x.cps next) (hr:r.cps.contains 92=false)
  (hn:(cG next x r (x.length+1) 0).length<=lim) (hsum:((cG next x r (x.length+1) 0).map (·.length)).sum<=lim) (hz:vA next x r=z) (sZ:z.length<=lim) :
  ∀ s vs,St G F ρ W Rs s->ah W s.heap [.str r,.str x] vs->Gv G F.A W (call (.builtin "re.Pattern.sub") (.ref a::vs)) (.str z) s:=λs vs S rs=>by
 refine ob2_3 rs.two λv u aA r1 r2=>?_;obtain rfl:=aA
 refine ob0_2 r1.isStr λz! az=>ob1_1 az λt1 bh=>?_;obtain rfl:=bh
 refine ob0_2 r2.isStr λhx az=>ob1_1 az λt2 bh=>?_;obtain rfl:=bh
 refine De hf hx hr (hp _ S.inv) hn hsum λh' tk t' hk=>⟨.of_keeps G hk,?_⟩
 rw [hz]
 exact Rep.str sZ
structure Lp (G:Glob):Prop where
 p1:∀ h,G.inv h->ee h Lo PK cD
 p2:∀ h,G.inv h->ee h Ln PJ bL
 g1:G.mg "_twin_re_1"=some (.ref Lo)
 g2:G.mg "_twin_re_2"=some (.ref Ln)
 g3:∃ t,G.mg "CRLF"=some (.str "\r\n" t)
 fn:∃ pm code,bQ G Fb (fdOf (bH dQ K8) "quotedata" [] .none .none pm code .none) (bodyOf (bH dQ K8))
theorem ee.ob {h:Heap} {a ct:Addr} {code:Array Nat} (p:ee h a ct code):∃ ob,h.get? a=some ob/\ob.cls = .type "re.Pattern"/\ob.dict=none:=by
 refine ob3_1 p.pat λsrc fl t e=>?_
 exact ⟨_,e,rfl,rfl⟩
theorem x9 (ok:Lp G) {x:Str} (hx:x.length<=65536) {n:Nat}:FC G Fb (n+1) [.str x] (.str (quoted x)):=by
 refine ob2_1 ok.fn λpm code fn=>ob1_1 ok.g3 λt Ra=>?_
 have hlim:lim=1048576:=by decide
 refine FC.of fn (names:=["data"]) (ps':=[.str x]) (λs W vs iv r=>?_) rfl (TS.mpr (.inl rfl)) (λA W s L hA=>?_)
 ·refine ob1_2 r.one λa aC r1=>?_;obtain rfl:=aC
  exact ⟨[a],UM rfl,r⟩
 ·have c2:=kT (r:=⟨#[13,10]⟩) (zw x.cps).ok (x.length+1) 0 (Td _)
  have hz2:x.cps.size=x.length:=rfl
  have hy:(⟨(crlf x.cps.toList).toArray⟩:Str).length<=131072:=by
   have:=ja _ x.cps.toList (Sz _)
   show (crlf x.cps.toList).toArray.size<=_
   simp only [T5,Ud] at this ⊢
   exact II hx hz2 this
  generalize O1:(⟨(crlf x.cps.toList).toArray⟩:Str)=y at hy
  have O2:quoted x=⟨(dots true y.cps.toList).toArray⟩:=by rw [<- O1];rfl
  have hq:(quoted x).length<=lim:=by
   rw [O2]
   have:=lU y.cps.toList true
   have hy':y.cps.size<=131072:=hy
   show (dots true y.cps.toList).toArray.size<=_
   simp only [T5,Ud] at this ⊢
   exact IG hlim this hy'
  have c1:=kT (x:=y) (r:=⟨#[46,46]⟩) (zx y.cps (Sn hy (by decide))).ok (y.length+1) 0 (Td _)
  have hz1:y.cps.size=y.length:=rfl
  have l2:(⟨#[13,10]⟩:Str).length=2:=rfl
  have l1:(⟨#[46,46]⟩:Str).length=2:=rfl
  rw [hz2,l2] at c2
  rw [hz1,l1] at c1
  refine XS.ret (EV.CI (EV.glob rfl ok.g1) (aW.cons EV.bP (aW.cons (EV.CI (EV.glob rfl ok.g2) (aW.cons (EV.rawStr (EV.glob rfl Ra)) (aW.cons (EV.name rfl) .nil)) (λh iv=>(ok.p2 h iv).ob) gq fz iG
   (CU (z:=y) ok.p2 (zw x.cps) (by kernel_rfl) (Sn c2.1 (by exact ID hx hlim)) (Sn c2.2 (Sn (V1 3 hx) (S1 rfl))) ((xK x).trans O1) (by exact IB hlim hy))) .nil)) (λh iv=>(ok.p1 h iv).ob) gq fz iG
   (CU (z:=quoted x) ok.p1 (zx y.cps (Sn hy (by decide))) (by kernel_rfl) (Sn c1.1 (by exact Iz hlim hy)) (Sn c1.2 (Sn (V1 3 hy) (S1 rfl))) ((xM y).trans O2.symm) hq)) (λs₂ v S r=>⟨S.stp,r⟩)
end Mine
namespace Mine
open PySem PySem.W PyProof.Rows
variable {G:Glob} {F:Fm} {ρ ρ':List (Str×PV)} {W W':List Addr} {Rs ak Ro:List Res} {s s':Shared} {K:Frag} {a d:Addr} {k:Nat} {xs us:List (Str×Str)} {n:Nat}
noncomputable def CM (st:Stmt) (j:Nat):Stmt:=(bodyOf st).getD j (.Pass ⟨0,0,0,0⟩)
noncomputable abbrev jt (j:Nat):Stmt:=CM (bH dQ Qt) j
noncomputable def kQ:List (Str×Addr):=[("__class__",wX)]
noncomputable def pK:Frag:=[(PA,{cls:=.type "tuple",data:=.seq #[.int 0 PY]}),(zJ,{cls:=.type "tuple",data:=.seq #[.int 0 Di]}),(CX,{cls:=.type "tuple",data:=.seq #[.none]})]
noncomputable def zA (pm code ct:Value):FuncData:=fdOf (jt 0) "_Accumulator.__init__" kQ (.ref PA) .none pm code ct
noncomputable def uJ (pm code:Value):FuncData:=fdOf (jt 1) "_Accumulator.push" [] .none .none pm code .none
noncomputable def uK (pm code:Value):FuncData:=fdOf (jt 2) "_Accumulator.pop_from" [] (.ref zJ) .none pm code .none
noncomputable def lQ (pm code ct:Value):FuncData:=fdOf (jt 3) "_Accumulator.pop" kQ .none .none pm code ct
noncomputable def tF (pm code:Value):FuncData:=fdOf (jt 4) "_Accumulator.__len__" [] .none .none pm code .none
noncomputable def tD (pm code:Value):FuncData:=fdOf (jt 5) "_Accumulator.__str__" [] .none .none pm code .none
noncomputable def tE (pm code:Value):FuncData:=fdOf (jt 6) "_Accumulator.reset" [] (.ref CX) .none pm code .none
noncomputable def uI (pm code:Value):FuncData:=fdOf (jt 7) "_Accumulator.is_onlyws" [] .none .none pm code .none
noncomputable def nK (pm code ct:Value):FuncData:=fdOf (jt 8) "_Accumulator.part_count" kQ .none .none pm code ct
noncomputable def pL (G:Glob) (code:Value):Prop:=∃ c P,code = .ref c/\P∈G.tabs/\∀ h,G.inv h->∃ ps,bU h c P ps
structure dN (G:Glob) (K:Frag):Prop where
 ok:pN G K aX
 st:eF G aX I_ [.type "list",.type "object"] "_initial_size"
 mP:∀ h,G.inv h->pK.In h
 ini:∃ pm code ct,bQ G BS (zA pm (.ref code) ct) (bodyOf (jt 0))/\gZ G K aX (zA pm (.ref code) ct) code wX
 push:∃ pm code,bQ G d9 (uJ pm code) (bodyOf (jt 1))
 from_:∃ pm code,bQ G gE (uK pm code) (bodyOf (jt 2))
 pop:∃ pm code ct,bQ G gD (lQ pm (.ref code) ct) (bodyOf (jt 3))/\gZ G K aX (lQ pm (.ref code) ct) code wX
 len:∃ pm code,bQ G j5 (tF pm code) (bodyOf (jt 4))/\pL G code
 str:∃ pm code,bQ G j0 (tD pm code) (bodyOf (jt 5))/\pL G code
 res:∃ pm code,bQ G gY (tE pm code) (bodyOf (jt 6))
 ws:∃ pm code,bQ G mX (uI pm code) (bodyOf (jt 7))
 pc:∃ pm code ct,bQ G l_ (nK pm (.ref code) ct) (bodyOf (jt 8))/\gZ G K aX (nK pm (.ref code) ct) code wX
 bi:∃ bm,G.mg "__builtins__"=some (.ref bm)/\bm≠builtinsNs/\∀ h,G.inv h->∃ o,h.get? bm=some o/\o.cls = .type "module"/\o.dict=some builtinsNs/\o.data = .plain
 K1:findIn K (.ref aX) "__bool__"=some none
 jV:fnIn K d9=true
 OR:Ff G K aX BS true
 low:mainGlobals<G.base.objs.size/\builtinsNs<G.base.objs.size/\cStatics<G.base.objs.size
 Ew:G.mg "sum"=none/\G.mb "sum"=some (.builtin "sum")
 tw:G.mg "len"=none/\G.mb "len"=some (.builtin "len")
 zh:G.mg "str"=none/\G.mb "str"=some (.type "str")
 Bj:∃ t,G.mg "EMPTYSTRING"=some (.str "" t)
 iL:findIn K (.ref aX) "push"=some (some (.ref d9))/\typeIn K (.ref d9)=some (.type "function")
 qB:findIn K (.ref aX) "pop_from"=some (some (.ref gE))/\typeIn K (.ref gE)=some (.type "function")
 oK:findIn K (.ref aX) "pop"=some (some (.ref gD))/\typeIn K (.ref gD)=some (.type "function")
 sO:findIn K (.ref aX) "__len__"=some (some (.ref j5))/\typeIn K (.ref j5)=some (.type "function")
 jr:findIn K (.ref aX) "__str__"=some (some (.ref j0))/\typeIn K (.ref j0)=some (.type "function")
 sN:findIn K (.ref aX) "reset"=some (some (.ref gY))/\typeIn K (.ref gY)=some (.type "function")
 Ja:findIn K (.ref aX) "is_onlyws"=some (some (.ref mX))/\typeIn K (.ref mX)=some (.type "function")
 A3:findIn K (.ref aX) "part_count"=some (some (.ref l_))/\typeIn K (.ref l_)=some (.type "function")
theorem n8:2<=lim:=by decide
theorem iY {P:Str->Prop} {x y:Str} (h1:P x) (h2:P y):∀ z∈[x,y],P z:=ff h1 (ff h2 z5)
theorem uF {P:Str->Prop} {x y z:Str} (h1:P x) (h2:P y) (h3:P z):∀ u∈[x,y,z],P u:=ff h1 (ff h2 (ff h3 z5))
theorem nV (ok:dN G K) {f p:Str} (hl:xs.length+1<=lim):CC G d9 (n+1) [Res.acc aX a d k xs] [Res.acc aX a d k (xs++[(f,p)])] [.raw (.ref a),.str f,.str p] .none:=by
 refine ob2_1 ok.push λpm code fn=>?_
 refine CC.of fn (names:=["self","fws","string"]) (ps':=[.raw (.ref a),.str f,.str p]) (λs W vs iv r=>?_) rfl (uF (.inl rfl) (.inl rfl) (.inl rfl)) (λA W s L hA=>?_)
 ·have hlen:=r.length
  refine ob3_1 (DP hlen) λx y z rP=>?_;obtain rfl:=rP
  exact ⟨[x,y,z],UM rfl,r⟩
 ·refine XS.eX (ak:=[Res.acc aX a d k (xs++[(f,p)])]) (ER.wJ (xs:=xs) (Ro:=[]) ok.ok rfl (EV.tup (aW.cons (EV.name rfl) (aW.cons (EV.name rfl) aW.nil)) n8) hl) (XS.nil λs₁ S₁=>⟨⟨_,S₁⟩,Rep.none⟩)
theorem rG (ok:dN G K) {f p:Str} (hl:xs.length+1<=lim):MC G d9 (n+1) [Res.acc aX a d k xs] [Res.acc aX a d k (xs++[(f,p)])] [.raw (.ref a),.str f,.str p] .none:=(nV ok hl).mc
theorem tT (ok:dN G K):MP G l_ (n+1) [Res.acc aX a d k xs] [.raw (.ref a)] (.int xs.length):=by
 refine ob3_2 ok.pc λpm code ct fn su=>?_
 refine MP.mJ fn (names:=["self"]) (ps':=[.raw (.ref a)]) (λs W vs iv r=>?_) rfl (TS.mpr (.inl rfl)) (λA W s L hA iv low h1 h2=>?_)
 ·refine ob1_2 r.one λx aC r1=>?_;obtain rfl:=aC
  exact ⟨[x],UM rfl,r⟩
 ·have kn:bx G (eV (nK pm (.ref code) ct) l_ A s L n) ([("self",PV.raw (.ref a))]:List (Str×PV)) W [] (dM aX a d k xs) :=
   bx.start (r:=Res.acc aX a d k xs) rfl iv (λb hb=>(low b (h2 _ (So ..) b hb)).1) (h1 _ (So ..))
  exact jE.qi ok.ok fn su rfl rfl rfl kn rfl rfl λs₁ v S₁ r=>⟨S₁.stp,r⟩
theorem z9 (ok:dN G K):CC G BS (n+1) [Res.raw aX a d] [Res.acc aX a d k []] [.raw (.ref a),.int k] .none:=by
 refine ob3_2 ok.ini λpm code ct fn su=>?_
 refine CC.mJ fn (names:=["self","initial_size"]) (ps':=[.raw (.ref a),.int k]) (λs W vs iv r=>?_) rfl (iY (.inl rfl) (.inl rfl)) (λA W s L hA=>?_)
 ·have hlen:=r.length
  refine ob2_1 (yO hlen) λx y aA=>?_;obtain rfl:=aA
  exact ⟨[x,y],kp_binds (ok.mP _ iv) λz! => by kernel_rfl,r⟩
 ·refine jE.l8 (EV.name rfl) (TR.AP (k':=k) (Ro:=[]) ok.st rfl) ?_
  exact jE.vz ok.ok fn su rfl rfl rfl rfl rfl (jE.of (XS.nil λs₁ S₁=>⟨_,_,_,⟨rfl,rfl⟩,S₁,Rep.none⟩))
theorem z_ (ok:dN G K) {i:Nat} (hi:i<=xs.length) (hl:xs.length<=lim):MC G gE (n+1) [Res.acc aX a d k xs] [Res.acc aX a d k (xs.take i)] [.raw (.ref a),.int i] (.lst ((xs.drop i).map encP)):=by
 refine ob2_1 ok.from_ λpm code fn=>?_
 refine MC.of fn (names:=["self","i"]) (ps':=[.raw (.ref a),.int i]) (λs W vs iv r=>?_) rfl (iY (.inl rfl) (.inl rfl)) rfl (λA W s L hA=>?_)
 ·have hlen:=r.length
  refine ob2_1 (yO hlen) λx y aA=>?_;obtain rfl:=aA
  exact ⟨[x,y],kp_binds (ok.mP _ iv) λz! => by kernel_rfl,r⟩
 ·refine XS.asg (EV.pJ ok.ok (bx.res (So ..)) (EV.name rfl) (EV.name rfl)) (AV.name (.inl rfl)) ?_
  refine XS.l8 (p:=.lst (([]:List (Str×Str)).map encP)) (EV.list aW.nil) (TR.pJ (xs:=xs) (us:=[]) (Ro:=[]) (j:=i) ok.ok rfl (EV.name rfl) hi (Td _) (by simp;exact Sn (Wq _ _) hl)) ?_
  refine XS.ret (EV.name rfl) λs₁ v S₁ r=>?_
  rw [S6] at S₁
  exact ⟨⟨_,S₁⟩,r⟩
theorem uY (ok:dN G K) {z:Str×Str}:MC G gD (n+2) [Res.acc aX a d k (xs++[z])] [Res.acc aX a d k xs] [.raw (.ref a)] (encP z):=by
 refine ob3_2 ok.pop λpm code ct fn su=>ob3_2 ok.pc λKY bL PB Ll PZ=>?_
 refine MC.mJ fn (names:=["self"]) (ps':=[.raw (.ref a)]) (λs W vs iv r=>?_) rfl (TS.mpr (.inl rfl)) rfl (λA W s L hA=>?_)
 ·refine ob1_2 r.one λx aC r1=>?_;obtain rfl:=aC
  exact ⟨[x],UM rfl,r⟩
 ·refine jE.skip (TV.conv (TV.cmp (EV.dD (Rm:=[Res.acc aX a d k (xs++[z])]) (Rs:=[Res.acc aX a d k (xs++[z])]) (EV.name rfl) (Found.acc ok.ok (bx.res (So ..)) ok.A3.1 ok.A3.2 (by decide)) Ll (tT (n:=n) ok) vc.one (Sz _) mu.nil) EV.aE ug) (decide_eq_false (λh=>absurd (Int.natCast_eq_zero.mp h) (by rw [SY];exact VV _)))) ?_
  exact jE.qh (Ro:=[]) ok.ok fn su rfl rfl rfl rfl rfl λs₁ v S₁ r=>⟨⟨_,S₁⟩,r⟩
theorem z8 (ok:dN G K):MC G gD (n+2) [Res.acc aX a d k []] [Res.acc aX a d k []] [.raw (.ref a)] (.tup [.str "",.str ""]):=by
 refine ob3_2 ok.pop λpm code ct fn su=>ob3_2 ok.pc λKY bL PB Ll PZ=>?_
 refine MC.of fn (names:=["self"]) (ps':=[.raw (.ref a)]) (λs W vs iv r=>?_) rfl (TS.mpr (.inl rfl)) rfl (λA W s L hA=>?_)
 ·refine ob1_2 r.one λx aC r1=>?_;obtain rfl:=aC
  exact ⟨[x],UM rfl,r⟩
 ·refine XS.take (TV.cmp (EV.dD (Rm:=[Res.acc aX a d k []]) (EV.name rfl) (Found.acc ok.ok (bx.res (So ..)) ok.A3.1 ok.A3.2 (by decide)) Ll (tT (n:=n) ok) vc.one (Sz _) mu.nil) EV.aE ug) (λz! => False) ?_ (λz! h=>h.elim)
  exact XS.ret (EV.tup (aW.cons EV.bP (aW.cons EV.bP aW.nil)) n8) λs₁ v S₁ r=>⟨⟨_,S₁⟩,r⟩
theorem u0 {code:Value} {fd:FuncData} {f L:Addr} {A:Around} {n:Nat} {s:Shared} (ok:dN G K) (g:pL G code) (hc:fd.code=code):vd G (eV fd f A s L n):=by
 refine ob2_3 g λc P e hP hI=>?_
 exact ⟨⟨c,P,hc.trans e,hP,hI⟩,ok.bi,ok.low⟩
theorem uZ (ok:dN G K):MP G j5 (n+1) [Res.acc aX a d k xs] [.raw (.ref a)] (.int ((k+av xs:Nat):Int)):=by
 refine ob2_2 ok.len λpm code fn gc=>?_
 refine MP.of fn (names:=["self"]) (ps':=[.raw (.ref a)]) (λs W vs iv r=>?_) rfl (TS.mpr (.inl rfl)) (λA W s L hA iv low h1 h2=>?_)
 ·refine ob1_2 r.one λx aC r1=>?_;obtain rfl:=aC
  exact ⟨[x],UM rfl,r⟩
 ·have kn:bx G (eV (tF pm code) j5 A s L n) ([("self",PV.raw (.ref a))]:List (Str×PV)) W [] (dM aX a d k xs) :=
   bx.start (r:=Res.acc aX a d k xs) rfl iv (λb hb=>(low b (h2 _ (So ..) b hb)).1) (h1 _ (So ..))
  refine XS.ret (EV.E9 ok.ok (u0 ok gc rfl) ⟨rfl,rfl,by decide,rfl,rfl,rfl,by decide,rfl,rfl,rfl⟩ kn (EV.blt rfl ok.Ew.1 ok.Ew.2) (EV.name rfl) rfl rfl rfl rfl ok.tw.1 ok.tw.2 rfl λx=>rfl) λs₁ v S₁ r=>⟨S₁.stp,r⟩
theorem uX (ok:dN G K) (hz:av xs<=lim):MP G j0 (n+1) [Res.acc aX a d k xs] [.raw (.ref a)] (.str (SP "" (bG xs))):=by
 refine ob2_2 ok.str λpm code fn gc=>ob1_1 ok.Bj λte QD=>?_
 refine MP.of fn (names:=["self"]) (ps':=[.raw (.ref a)]) (λs W vs iv r=>?_) rfl (TS.mpr (.inl rfl)) (λA W s L hA iv low h1 h2=>?_)
 ·refine ob1_2 r.one λx aC r1=>?_;obtain rfl:=aC
  exact ⟨[x],UM rfl,r⟩
 ·have kn:bx G (eV (tD pm code) j0 A s L n) ([("self",PV.raw (.ref a))]:List (Str×PV)) W [] (dM aX a d k xs) :=
   bx.start (r:=Res.acc aX a d k xs) rfl iv (λb hb=>(low b (h2 _ (So ..) b hb)).1) (h1 _ (So ..))
  refine XS.ret (EV.BP (xl:="") ok.ok (u0 ok gc rfl) ⟨rfl,rfl,by decide,rfl,rfl,rfl,by decide,rfl,rfl,rfl⟩ kn rfl (EV.name rfl) QD rfl rfl hz λx=>rfl) λs₁ v S₁ r=>⟨S₁.stp,r⟩
theorem tS (ok:dN G K):MC G gY (n+1) [Res.acc aX a d k xs] [Res.acc aX a d 0 []] [.raw (.ref a)] .none:=by
 refine ob2_1 ok.res λpm code fn=>?_
 refine MC.of fn (names:=["self","startval"]) (ps':=[.raw (.ref a),.none]) (λs W vs iv r=>?_) rfl (iY (.inl rfl) (.inl rfl)) rfl (λA W s L hA=>?_)
 ·refine ob1_2 r.one λx aC r1=>?_;obtain rfl:=aC
  exact ⟨[x,.none],kp_binds (ok.mP _ iv) λz! => by kernel_rfl,.mk2 r1 Rep.none⟩
 ·refine XS.take (TV.cmp (EV.name rfl) EV.nP (eL true rfl)) (λs'=>St G (bu (tE pm code) gY A s L n ([Res.acc aX a d k xs].flatMap (·.addrs))) [("startval",.lst []),("self",.raw (.ref a))] W [Res.acc aX a d k xs] s') ?_ ?_
  ·exact XS.asg (EV.list aW.nil) (AV.name (.inl rfl)) (XS.nil λs₁ S₁=>S₁.weaken (af rfl (af rfl ao)))
  intro s₀ wK
  revert s₀
  show XS G _ _ _ _ _ _
  refine XS.l8 (p:=.lst (([]:List (Str×Str)).map encP)) (EV.name rfl) (TR.Ab (xs:=xs) (us:=[]) (Ro:=[]) ok.ok rfl (Td _)) ?_
  refine XS.l8 (EV.aE (i:=0)) (TR.je (k':=0) (xs:=[]) (Ro:=[]) ok.st rfl) ?_
  exact XS.nil λs₁ S₁=>⟨⟨_,S₁⟩,Rep.none⟩
theorem wI (ok:dN G K) (hl:us.length<=lim):MC G gY (n+1) [Res.acc aX a d k xs] [Res.acc aX a d 0 us] [.raw (.ref a),.lst (us.map encP)] .none:=by
 refine ob2_1 ok.res λpm code fn=>?_
 refine MC.of fn (names:=["self","startval"]) (ps':=[.raw (.ref a),.lst (us.map encP)]) (λs W vs iv r=>?_) rfl (iY (.inl rfl) (.inl rfl)) rfl (λA W s L hA=>?_)
 ·have hlen:=r.length
  refine ob2_1 (yO hlen) λx y aA=>?_;obtain rfl:=aA
  exact ⟨[x,y],kp_binds (ok.mP _ iv) λz! => by kernel_rfl,r⟩
 ·refine XS.skip (TV.cmp (EV.name rfl) EV.nP (eL false rfl)) ?_
  refine XS.l8 (EV.name rfl) (TR.Ab (xs:=xs) (us:=us) (Ro:=[]) ok.ok rfl hl) ?_
  refine XS.l8 (EV.aE (i:=0)) (TR.je (k':=0) (xs:=us) (Ro:=[]) ok.st rfl) ?_
  exact XS.nil λs₁ S₁=>⟨⟨_,S₁⟩,Rep.none⟩
theorem E8 (ok:dN G K) (hz:av xs<=lim) (h:k≠0\/(av xs≠0/\Vn (SP "" (bG xs))=false)):MP G mX (n+5) [Res.acc aX a d k xs] [.raw (.ref a)] (.bool false):=by
 refine ob2_1 ok.ws λpm code fn=>ob2_2 ok.len λKY bL Ll z! => ob2_2 ok.str λOL CY Sj z! => ?_
 refine MP.of fn (names:=["self"]) (ps':=[.raw (.ref a)]) (λs W vs iv r=>?_) rfl (TS.mpr (.inl rfl)) (λA W s L hA iv low h1 h2=>?_)
 ·refine ob1_2 r.one λx aC r1=>?_;obtain rfl:=aC
  exact ⟨[x],UM rfl,r⟩
 ·have kn:bx G (eV (uI pm code) mX A s L (n+4)) ([("self",PV.raw (.ref a))]:List (Str×PV)) W [] (dM aX a d k xs) :=
   bx.start (r:=Res.acc aX a d k xs) rfl iv (λb hb=>(low b (h2 _ (So ..) b hb)).1) (h1 _ (So ..))
  have hh:vc G (eV (uI pm code) mX A s L (n+4)) ([("self",PV.raw (.ref a))]:List (Str×PV)) W [] [Res.acc aX a d k xs]:=vc.acc kn (h2 _ (So ..))
  refine XS.ret (EV.Oq (b:=decide ((k:Int)=0)) (EV.cmp (EV.je ok.ok kn (EV.name rfl)) EV.aE ug) Ao.bool (λhb=>?_) (λhb=>by rw [hb])) λs₁ v S₁ r=>⟨S₁.stp,r⟩
  have hk:k=0:=Int.natCast_eq_zero.mp (of_decide_eq_true hb)
  subst hk
  refine ob0_2 (h.resolve_left (by simp)) λh3 h4=>?_
  refine EV.Qc (EV.not (EV.name rfl) (Ao.acc (k':=0+av xs) ok.ok ok.K1 ok.sO.1 ok.sO.2 (uZ (n:=n) ok) (by show _<=n+4;exact S5 (Uw _)) (by exact HT hz) hh)) Ao.bool (λz! => ?_) (λhb'=>?_)
  ·refine EV.conv (EV.isspace (EV.C0 (EV.blt rfl ok.zh.1 ok.zh.2) (aW.cons (EV.name rfl) aW.nil) (qR ok.ok ok.jr.1 ok.jr.2 (uX (n:=n) ok hz) (by show _<=n+4;exact Uw _) hh))) ?_
   rw [h4]
  ·simp [h3] at hb'
end Mine
namespace Mine
open PySem PySem.W PyProof.Rows
variable {G:Glob} {F:Fm} {ρ ρ':List (Str×PV)} {W W':List Addr} {Rs ak Ro:List Res} {s s':Shared} {K:Frag} {a d f fd L:Addr} {k mx:Nat} {aB:Str} {lines:List Str} {xs us:List (Str×Str)} {n:Nat}
noncomputable abbrev um (j:Nat):Stmt:=CM (bH dQ Qs) j
noncomputable def Kh (pm code:Value):FuncData:=fdOf (um 0) "_ValueFormatter.__init__" [] .none .none pm code .none
noncomputable def zy (pm code:Value):FuncData:=fdOf (um 1) "_ValueFormatter._str" [] .none .none pm code .none
noncomputable def lP (pm code:Value):FuncData:=fdOf (um 3) "_ValueFormatter.newline" [] .none .none pm code .none
noncomputable def i0 (pm code:Value):FuncData:=fdOf (um 8) "_ValueFormatter._append_chunk" [] .none .none pm code .none
structure fh (G:Glob) (K:Frag):Prop where
 acc:dN G K
 ok:Ow G K dm
 gt:findIn K (.ref dm) "__getattr__"=some none
 st1:eF G dm sM [.type "object"] "_maxlen"
 st2:eF G dm sM [.type "object"] "_continuation_ws"
 st3:eF G dm sM [.type "object"] "_continuation_ws_len"
 OG:eF G dm sM [.type "object"] "_splitchars"
 OF:eF G dm sM [.type "object"] "_lines"
 OE:eF G dm sM [.type "object"] "_current_line"
 K5:findIn K (.ref dm) "_maxlen"=some none
 K4:findIn K (.ref dm) "_splitchars"=some none
 K3:findIn K (.ref dm) "_lines"=some none
 K2:findIn K (.ref dm) "_current_line"=some none
 OQ:Ff G K dm E_ false
 ini:∃ pm code,bQ G E_ (Kh pm code) (bodyOf (um 0))
 str:∃ pm code,bQ G jZ (zy pm code) (bodyOf (um 1))
 vM:∃ pm code,bQ G jD (lP pm code) (bodyOf (um 3))
 app:∃ pm code,bQ G iz (i0 pm code) (bodyOf (um 8))
 lC:findIn K (.ref dm) "newline"=some (some (.ref jD))/\typeIn K (.ref jD)=some (.type "function")
 jr:findIn K (.ref dm) "_str"=some (some (.ref jZ))/\typeIn K (.ref jZ)=some (.type "function")
 yG:findIn K (.ref dm) "_append_chunk"=some (some (.ref iz))/\typeIn K (.ref iz)=some (.type "function")
 Bk:G.mg "_Accumulator"=some (.ref aX)
 jw:G.mg "range"=none/\G.mb "range"=some (.type "range")
theorem DG:typeLookup (.type "object") "_maxlen"=pure none:=by rw [Uj,TG];kernel_rfl
theorem DF:typeLookup (.type "object") "_continuation_ws"=pure none:=by rw [Uj,TG];kernel_rfl
theorem DE:typeLookup (.type "object") "_continuation_ws_len"=pure none:=by rw [Uj,TG];kernel_rfl
theorem DC:typeLookup (.type "object") "_splitchars"=pure none:=by rw [Uj,TG];kernel_rfl
theorem DB:typeLookup (.type "object") "_lines"=pure none:=by rw [Uj,TG];kernel_rfl
theorem DA:typeLookup (.type "object") "_current_line"=pure none:=by rw [Uj,TG];kernel_rfl
noncomputable def fV (mx:Nat) (aB:Str) (L a:Addr):List (Str×PV) :=
 [("_current_line",.raw (.ref a)),("_lines",.raw (.ref L)),("_splitchars",.str aB),("_continuation_ws_len",.int 1),("_continuation_ws",.str " "),("_maxlen",.int mx)]
noncomputable def VR (f fd L a d:Addr) (mx:Nat) (aB:Str) (lines:List Str) (k:Nat) (xs:List (Str×Str)):List Res :=
 [Res.acc aX a d k xs,Res.lst L (lines.map .str),Res.obj dm f fd (fV mx aB L a)]
theorem qx {h:Heap} {d:Addr} (e:h.get? d=some emptyDict):h.Ns1 d λz! => none:=by
 refine Heap.Ns1.of_empty ⟨_,_,_,e,rfl,?_,?_⟩
 ·intro b hb;simp at hb
 ·intro y;rfl
theorem AO {C:Addr} (W:List Addr) (h:Heap) (x d:Addr) (e:h.get? x=some {cls:=.ref C,dict:=some d,data:=.seq #[]}) (e2:h.get? d=some emptyDict) (ne:d≠x):(Res.raw C x d).holds W h :=
 ⟨0,_,⟨e,λz! h=>(by cases h),qx e2,ne⟩,λz! => rfl⟩
theorem A0 {C:Addr} (W:List Addr) (h:Heap) (x d:Addr) (e:h.get? x=some {cls:=.ref C,dict:=some d,data:=.plain}) (e2:h.get? d=some emptyDict) (ne:d≠x):(Res.obj C x d []).holds W h :=
 ⟨_,⟨e,λz! h=>(by cases h),qx e2,ne⟩,λz! z! h=>(by cases h),λz! z! => rfl⟩
theorem EN.acc (ok:dN G K) {p pos:Pos} {e:Sp} {m:Nat} (hf:EV G F ρ W Rs (.Name "_Accumulator" p) (.raw (.ref aX))) (he:EV G F ρ W Rs e (.int k)) (hn:m+2<=F.n)
  (hst:backTo pos (starEach [e] F.env)=[e].map (λe=>(false,eval e F.env)):=by rfl) :
  EN G F ρ W Rs (.Call (.Name "_Accumulator" p) [e] [] pos) (λv W' ak=>∃ a d,a∉W/\d∉W/\v = .ref a/\W'=a::d::W/\ak=Res.acc aX a d k []::Rs):=λs S=>by
 refine aF (EN.make true ok.OR hf (aW.cons he .nil) (λx d=>Res.raw aX x d) (λz! z! => rfl) (λW h x d e1 e2 ne=>AO W h x d e1 e2 ne) (λx d=>z9 (n:=m) ok) (by exact hn) hst s S) λv s' h=>?_
 refine ob2_2 h λW' ak aA S'=>ob3_5 aA λx d Rn h1 h2 h3 Dd h6=>ob0_2 Dd λh4 h5=>?_
 subst h4 h5 h6
 exact ⟨_,_,⟨x,d,h1,h2,h3,rfl,rfl⟩,S'⟩
theorem Qe {P:Str->Prop} {x y z u v:Str} (h1:P x) (h2:P y) (h3:P z) (h4:P u) (h5:P v):∀ w∈[x,y,z,u,v],P w:=ff h1 (ff h2 (ff h3 (ff h4 (ff h5 z5))))
theorem Ay (ok:fh G K) (hs:aB.length<=lim):CN G E_ (n+3) [Res.obj dm f fd []] [.raw (.ref f),.int k,.int mx,.str " ",.str aB] .none
  (λW W' R=>∃ L a d,W'=a::d::L::W/\R=VR f fd L a d mx aB [] k []):=by
 refine ob2_1 ok.ini λpm code fn=>?_
 refine CN.of fn (names:=["self","headerlen","maxlen","continuation_ws","splitchars"]) (ps':=[.raw (.ref f),.int k,.int mx,.str " ",.str aB]) (λs W vs iv r=>?_) rfl
  (Qe (.inl rfl) (.inl rfl) (.inl rfl) (.inl rfl) (.inl rfl)) (λW W' R h=>?_) (λA W s L hA=>?_)
 ·have hlen:=r.length
  refine ob5_1 (Jh hlen) λx y z u v Aq=>?_;obtain rfl:=Aq
  exact ⟨[x,y,z,u,v],UM rfl,r⟩
 ·refine ob3_2 h λL a d rP xg=>?_;obtain rfl:=rP;obtain rfl:=xg
  exact ⟨λb hb=>VS [a,d,L] hb,λb hb=>(SO.mp (show b∈[a,d,L]++W from hb)).elim (λh=>.inr (Ux [f,fd] h)) .inl⟩
 ·refine XS.l8 (EV.name rfl) (TR.attr (p:=.int mx) (ms:=[]) (Ro:=[]) ok.st1 DG rfl) ?_
  refine XS.l8 (EV.name rfl) (TR.attr (p:=.str " ") (Ro:=[]) ok.st2 DF rfl) ?_
  refine XS.l8 (EV.conv (EV.Jg (EV.blt rfl ok.acc.tw.1 ok.acc.tw.2) (EV.name (p:=.str " ") rfl)) (q:=.int 1) rfl) (TR.attr (p:=.int 1) (Ro:=[]) ok.st3 DE rfl) ?_
  refine XS.l8 (EV.name rfl) (TR.attr (p:=.str aB) (Ro:=[]) ok.OG DC rfl) ?_
  refine XS.C4 (d:=fd) (ms:=[("_splitchars",.str aB),("_continuation_ws_len",.int 1),("_continuation_ws",.str " "),("_maxlen",.int mx)]) (EN.list aW.nil) ok.OF DB rfl (λv W' ak h=>?_)
  refine ob1_4 h λL' hL aA rP xg=>?_;obtain rfl:=aA;obtain rfl:=rP;obtain rfl:=xg
  refine ⟨[Res.lst L' []],.swap ..,?_⟩
  refine XS.C4 (d:=fd) (ms:=[("_lines",.raw (.ref L')),("_splitchars",.str aB),("_continuation_ws_len",.int 1),("_continuation_ws",.str " "),("_maxlen",.int mx)]) (EN.acc (k:=k) (m:=n) ok.acc (EV.glob rfl ok.Bk) (EV.name rfl) (Sz _)) ok.OE DA rfl (λv W' ak h=>?_)
  refine ob2_5 h λa d ha hd xg Aq Dd=>?_;obtain rfl:=xg;obtain rfl:=Aq;obtain rfl:=Dd
  refine ⟨[Res.acc aX a d k [],Res.lst L' []],.swap ..,?_⟩
  refine XS.nil λs₁ S₁=>⟨_,_,_,⟨L',a,d,rfl,rfl⟩,S₁.perm ?_,Rep.none⟩
  exact (Us (l₁:=[_]) (l₂:=[_,_]))
end Mine
namespace Mine
open PySem PySem.W PyProof.Rows
variable {G:Glob} {F:Fm} {ρ ρ':List (Str×PV)} {W W':List Addr} {Rs ak Ro:List Res} {s s':Shared} {K:Frag} {a d f fd L:Addr} {k mx:Nat} {aB:Str} {lines:List Str} {xs us:List (Str×Str)} {n:Nat}
theorem zD (z:Str×Str) (x y:Str):PV.eqv (encP z) (.tup [.str x,.str y])=(z.1 == x && z.2 == y):=by
 simp [PV.eqv,encP,PV.toD,PV.toDs,WV,Yg]
theorem Bq {z:Str×Str} (h1:Uh z.1=true) (h2:Uh z.2=true):(encP z).ok:=⟨rfl,by simp [encP,PV.toD,PV.toDs,PyData.canLay0,PyData.canLayAll0,h1,h2],S1 rfl⟩
theorem qa:(PV.tup [.str " ",.str ""]).ok:=⟨rfl,by decide +kernel,by decide +kernel⟩
theorem Aw {s:Shared} (S:St G F ρ W (VR f fd L a d mx aB lines k xs) s):qw dm f fd (fV mx aB L a) W s.heap:=S.res (Res.obj dm f fd (fV mx aB L a)) (by simp [VR])
theorem kq:bx G F ρ W (VR f fd L a d mx aB lines k xs) (qw dm f fd (fV mx aB L a)):=λs S=>Aw S
theorem cS:bx G F ρ W (VR f fd L a d mx aB lines k xs) (dM aX a d k xs):=λs S=>S.res (Res.acc aX a d k xs) (by simp [VR])
theorem kB:vc G F ρ W (VR f fd L a d mx aB lines k xs) [Res.acc aX a d k xs]:=vc.one
theorem gG:(VR f fd L a d mx aB lines k xs).Perm (Res.lst L (lines.map .str)::[Res.acc aX a d k xs,Res.obj dm f fd (fV mx aB L a)]):=.swap ..
theorem EV.cur {p p2:Pos} (ok:fh G K) (h:EV G F ρ W (VR f fd L a d mx aB lines k xs) (.Name "self" p) (.raw (.ref f)))
  (he:∀ env,eval (.Attribute (.Name "self" p) "_current_line" p2) env=(do
   let v<-eval (.Name "self" p) env
   standAt p2.atName
   let r<-holding [v] (getAttr v "_current_line" true)
   letTemporaryGo (.Name "self" p) v r
   pure r):=by intro _;with_unfolding_all rfl):EV G F ρ W (VR f fd L a d mx aB lines k xs) (.Attribute (.Name "self" p) "_current_line" p2) (.raw (.ref a)) :=
 EV.attr ok.ok kq h rfl rfl ok.K2 he
theorem EV.Nh {p p2:Pos} (ok:fh G K) (h:EV G F ρ W (VR f fd L a d mx aB lines k xs) (.Name "self" p) (.raw (.ref f)))
  (he:∀ env,eval (.Attribute (.Name "self" p) "_lines" p2) env=(do
   let v<-eval (.Name "self" p) env
   standAt p2.atName
   let r<-holding [v] (getAttr v "_lines" true)
   letTemporaryGo (.Name "self" p) v r
   pure r):=by intro _;with_unfolding_all rfl):EV G F ρ W (VR f fd L a d mx aB lines k xs) (.Attribute (.Name "self" p) "_lines" p2) (.raw (.ref L)) :=
 EV.attr ok.ok kq h rfl rfl ok.K3 he
theorem EV.Qh {p p2:Pos} (ok:fh G K) (h:EV G F ρ W (VR f fd L a d mx aB lines k xs) (.Name "self" p) (.raw (.ref f)))
  (he:∀ env,eval (.Attribute (.Name "self" p) "_maxlen" p2) env=(do
   let v<-eval (.Name "self" p) env
   standAt p2.atName
   let r<-holding [v] (getAttr v "_maxlen" true)
   letTemporaryGo (.Name "self" p) v r
   pure r):=by intro _;with_unfolding_all rfl):EV G F ρ W (VR f fd L a d mx aB lines k xs) (.Attribute (.Name "self" p) "_maxlen" p2) (.int mx) :=
 EV.attr ok.ok kq h rfl rfl ok.K5 he
theorem EV.P6 {p p2:Pos} (ok:fh G K) (h:EV G F ρ W (VR f fd L a d mx aB lines k xs) (.Name "self" p) (.raw (.ref f)))
  (he:∀ env,eval (.Attribute (.Name "self" p) "_splitchars" p2) env=(do
   let v<-eval (.Name "self" p) env
   standAt p2.atName
   let r<-holding [v] (getAttr v "_splitchars" true)
   letTemporaryGo (.Name "self" p) v r
   pure r):=by intro _;with_unfolding_all rfl):EV G F ρ W (VR f fd L a d mx aB lines k xs) (.Attribute (.Name "self" p) "_splitchars" p2) (.str aB) :=
 EV.attr ok.ok kq h rfl rfl ok.K4 he
theorem EV.xN {p p2 p3 p4:Pos} (ok:fh G K) (h:EV G F ρ W (VR f fd L a d mx aB lines k xs) (.Name "self" p) (.raw (.ref f))) (hk:F.env.kindOf "str"=some .globalImplicit) (hz:av xs<=lim) (hn:4<=F.n)
  (hst:backTo p4 (starEach [.Attribute (.Name "self" p) "_current_line" p2] F.env)=[PySem.Expr.Attribute (.Name "self" p) "_current_line" p2].map (λe=>(false,eval e F.env)):=by rfl)
  (he:∀ env,eval (.Attribute (.Name "self" p) "_current_line" p2) env=(do
   let v<-eval (.Name "self" p) env
   standAt p2.atName
   let r<-holding [v] (getAttr v "_current_line" true)
   letTemporaryGo (.Name "self" p) v r
   pure r):=by intro _;with_unfolding_all rfl) :
  EV G F ρ W (VR f fd L a d mx aB lines k xs) (.Call (.Name "str" p3) [.Attribute (.Name "self" p) "_current_line" p2] [] p4) (.str (SP "" (bG xs))) :=
 EV.C0 (EV.blt hk ok.acc.zh.1 ok.acc.zh.2) (aW.cons (EV.cur ok h he) aW.nil) (qR ok.acc.ok ok.acc.jr.1 ok.acc.jr.2 (uX (n:=0) ok.acc hz) (by exact SE hn) kB) hst
theorem EV.yN {p p2 p3 p4:Pos} (ok:fh G K) (h:EV G F ρ W (VR f fd L a d mx aB lines k xs) (.Name "self" p) (.raw (.ref f))) (hk:F.env.kindOf "len"=some .globalImplicit) (hz:k+av xs<=lim) (hn:2<=F.n)
  (hst:backTo p4 (starEach [.Attribute (.Name "self" p) "_current_line" p2] F.env)=[PySem.Expr.Attribute (.Name "self" p) "_current_line" p2].map (λe=>(false,eval e F.env)):=by rfl)
  (he:∀ env,eval (.Attribute (.Name "self" p) "_current_line" p2) env=(do
   let v<-eval (.Name "self" p) env
   standAt p2.atName
   let r<-holding [v] (getAttr v "_current_line" true)
   letTemporaryGo (.Name "self" p) v r
   pure r):=by intro _;with_unfolding_all rfl) :
  EV G F ρ W (VR f fd L a d mx aB lines k xs) (.Call (.Name "len" p3) [.Attribute (.Name "self" p) "_current_line" p2] [] p4) (.int ((k+av xs:Nat):Int)) :=
 EV.gX (EV.blt hk ok.acc.tw.1 ok.acc.tw.2) (aW.cons (EV.cur ok h he) aW.nil) (zf ok.acc.ok ok.acc.sO.1 ok.acc.sO.2 (uZ (n:=0) ok.acc) (by exact hn) hz kB) hst
theorem aR (xs ys:List (Str×Str)):av (xs++ys)=av xs+av ys:=by simp [av]
theorem uh (ok:fh G K) {pm code:Value} {A:Around} {s:Shared} {L':Addr} {X:List Addr} {z:Str×Str} {m:Nat} (hm:6<=m) (hz:z≠((" ":Str),("":Str))) (hz1:Uh z.1=true) (hz2:Uh z.2=true) (hl1:xs.length+1<=lim) (hl2:k+av (xs++[z])<=lim) (hl3:lines.length+1<=lim)
  (hpos:k+av (xs++[z])≠0) (hws:k≠0\/(av (xs++[z])≠0/\Vn (SP "" (bG (xs++[z])))=false)) :
  XS G (bu (lP pm code) jD A s L' m X) [("end_of_line",encP z),("self",.raw (.ref f))] W (VR f fd L a d mx aB lines k xs) ((bodyOf (um 3)).drop 1)
   (λfl s'=>(∃ ρ,St G (bu (lP pm code) jD A s L' m X) ρ W (VR f fd L a d mx aB (lines++[SP "" (bG (xs++[z]))]) 0 []) s')/\Rep W s'.heap .none (match fl with | .ret v=>v | _=>.none)):=by
 refine ob2_1 ok.acc.push λI3 cD jV=>ob2_1 ok.acc.ws λKY bL RG=>ob2_1 ok.acc.res λOL CY Ey=>?_
 have hne:(!PV.eqv (encP z) (.tup [.str " ",.str ""]))=true:=by
  rw [zD]
  simp only [Bool.not_eq_true',Bool.and_eq_false_iff,beq_eq_false_iff_ne,ne_eq]
  by_cases h1:z.1=" "
  ·right;intro h2;exact hz (Prod.ext h1 h2)
  ·exact .inl h1
 refine XS.take (J:=λs'=>St G (bu (lP pm code) jD A s L' m X) [("end_of_line",encP z),("self",.raw (.ref f))] W (VR f fd L a d mx aB lines k (xs++[z])) s')
  (TV.conv (TV.cmp (EV.name rfl) (EV.tup (aW.cons EV.bP (aW.cons EV.bP aW.nil)) n8) (nv (Bq hz1 hz2) qa)) hne) ?_ ?_
 ·refine XS.eX (ER.zR (Rs:=[Res.acc aX a d k xs]) (ak:=[Res.acc aX a d k (xs++[z])]) (Ro:=[Res.lst L (lines.map .str),Res.obj dm f fd (fV mx aB L a)]) (n:=1)
   (EV.cur ok (EV.name rfl)) (EV.name (p:=encP z) rfl) ok.acc.ok.gy (Bound.acc ok.acc.ok cS ok.acc.iL.1 ok.acc.iL.2 (by decide) (by decide)) ok.acc.jV (nV (f:=z.1) (p:=z.2) ok.acc hl1) (by show 1<=m;exact Sn (Sv _ _) hm)) ?_
  exact XS.nil λs₁ S₁=>S₁
 intro s₀ wK
 revert s₀
 show XS G _ _ _ _ _ _
 refine XS.take (J:=λs'=>St G (bu (lP pm code) jD A s L' m X) [("end_of_line",encP z),("self",.raw (.ref f))] W (VR f fd L a d mx aB (lines++[SP "" (bG (xs++[z]))]) k (xs++[z])) s')
  (TV.conv (TV.cmp (EV.yN ok (EV.name rfl) rfl hl2 (by show 2<=m;exact Sn (Sv _ _) hm)) EV.aE qt) (decide_eq_true (Uy.mpr (T7 hpos)))) ?_ ?_
 ·refine XS.ite (J:=λs'=>St G (bu (lP pm code) jD A s L' m X) [("end_of_line",encP z),("self",.raw (.ref f))] W (VR f fd L a d mx aB (lines++[SP "" (bG (xs++[z]))]) k (xs++[z])) s') (c:=false && false)
   (TV.and (TV.bool (EV.dD (Rm:=[Res.acc aX a d k (xs++[z])]) (n:=5) (EV.cur ok (EV.name rfl)) (Found.acc ok.acc.ok cS ok.acc.Ja.1 ok.acc.Ja.2 (by decide)) RG (E8 (n:=0) ok.acc (by exact Sn (Sv _ _) hl2) hws) kB (by show 5<=m;exact SE hm) mu.nil)) (λh=>by cases h)) (λh=>by cases h) (λz! => ?_) (λs₁ S₁=>UR S₁)
  refine XS.eX (ER.perm gG (ER.append (p:=.str (SP "" (bG (xs++[z])))) (EV.perm gG.symm (EV.Nh ok (EV.name rfl))) (EV.perm gG.symm (EV.xN ok (EV.name rfl) rfl (by exact Sn (Sv _ _) hl2) (by show 4<=m;exact SE (SE hm)))) (by simpa using hl3)) (.refl _)) ?_
  refine XS.nil λs₁ S₁=>?_
  have:=S₁.perm (ak:=VR f fd L a d mx aB (lines++[SP "" (bG (xs++[z]))]) k (xs++[z])) (by rw [VR,Ti];exact .swap ..)
  exact this
 intro s₀ wK
 revert s₀
 show XS G _ _ _ _ _ _
 refine XS.eX (ER.dD (Rs:=[Res.acc aX a d k (xs++[z])]) (ak:=[Res.acc aX a d 0 []]) (Ro:=[Res.lst L ((lines++[SP "" (bG (xs++[z]))]).map .str),Res.obj dm f fd (fV mx aB L a)]) (n:=1)
  (EV.cur ok (EV.name rfl)) (Found.acc ok.acc.ok cS ok.acc.sN.1 ok.acc.sN.2 (by decide)) Ey (tS (n:=0) ok.acc) (by show 1<=m;exact Sn (Sv _ _) hm) mu.nil) ?_
 exact XS.nil λs₁ S₁=>⟨⟨_,S₁⟩,Rep.none⟩
end Mine
namespace Mine
open PySem PySem.W PyProof.Rows
variable {G:Glob} {F:Fm} {ρ ρ':List (Str×PV)} {W W':List Addr} {Rs ak Ro:List Res} {s s':Shared} {K:Frag} {a d f fd L:Addr} {k mx:Nat} {aB:Str} {lines:List Str} {xs ys us:List (Str×Str)} {n:Nat}
noncomputable def jg (xs:List (Str×Str)):Prop:=∀ p∈xs,Uh p.1=true/\Uh p.2=true/\p.2≠""
noncomputable def bg (xs:List (Str×Str)):Str:=SP "" (bG xs)
theorem Cs (ok:fh G K) (hg:jg xs) (hl1:xs.length+1<=lim) (hl2:k+av xs<=lim) (hl3:lines.length+1<=lim) (hk:k≠0\/(av xs≠0/\Vn (bg xs)=false)) :
  CC G jD (n+7) (VR f fd L a d mx aB lines k xs) (VR f fd L a d mx aB (lines++[bg xs]) 0 []) [.raw (.ref f)] .none:=by
 refine ob2_1 ok.vM λpm code fn=>ob3_2 ok.acc.pop λI3 cD RV v9 z! => ?_
 refine CC.of fn (names:=["self"]) (ps':=[.raw (.ref f)]) (λs W vs iv r=>?_) rfl (TS.mpr (.inl rfl)) (λA W s L' hA=>?_)
 ·refine ob1_2 r.one λx aC r1=>?_;obtain rfl:=aC
  exact ⟨[x],UM rfl,r⟩
 ·rcases WA xs with rfl | ⟨zs,z,rfl⟩
  ·have hk':k≠0:=by
    rcases hk with h | h
    ·exact h
    ·exact absurd rfl h.1
   refine XS.BN (ER.dD (Rs:=[Res.acc aX a d k []]) (ak:=[Res.acc aX a d k []]) (Ro:=[Res.lst L (lines.map .str),Res.obj dm f fd (fV mx aB L a)]) (n:=2) (EV.cur ok (EV.name rfl))
    (Found.acc ok.acc.ok cS ok.acc.oK.1 ok.acc.oK.2 (by decide)) v9 (z8 (n:=0) ok.acc) (by show 2<=n+6;exact Sv _ _) mu.nil) (AV.name (.inl rfl)) ?_
   exact uh (z:=("","")) (xs:=[]) ok (by exact Sv _ _) (by decide) (by decide +kernel) (by decide +kernel) hl1 (by show k+0<=lim;exact hl2) hl3 (by show k+0≠0;exact hk') (.inl hk')
  ·rw [WB] at *
   refine ob0_3 (hg z (by simp)) λg1 g2 g3=>?_
   refine XS.BN (ER.dD (Rs:=[Res.acc aX a d k (zs++[z])]) (ak:=[Res.acc aX a d k zs]) (Ro:=[Res.lst L (lines.map .str),Res.obj dm f fd (fV mx aB L a)]) (n:=2) (EV.cur ok (EV.name rfl))
    (Found.acc ok.acc.ok cS ok.acc.oK.1 ok.acc.oK.2 (by decide)) v9 (uY (n:=0) ok.acc) (by show 2<=n+6;exact Sv _ _) mu.nil) (AV.name (.inl rfl)) ?_
   refine uh (z:=z) (xs:=zs) ok (by exact Sv _ _) (λh=>g3 (by rw [h])) g1 g2 (by simp at hl1;exact SE hl1) hl2 hl3 ?_ hk
   rcases hk with h | h
   ·exact Iu h
   ·exact λe=>h.1 (Nat.eq_zero_of_add_eq_zero e).2
theorem Df (ok:fh G K) {sep:Str} (hg:jg xs) (hl1:xs.length+1<=lim) (hl2:k+av xs<=lim) (hl3:lines.length+1<=lim) (hk:k≠0\/(av xs≠0/\Vn (bg xs)=false))
  (hb:((lines++[bg xs]).map (·.length)).sum+(lines++[bg xs]).length * sep.length<=lim) :
  CC G jZ (n+8) (VR f fd L a d mx aB lines k xs) (VR f fd L a d mx aB (lines++[bg xs]) 0 []) [.raw (.ref f),.str sep] (.str (SP sep (lines++[bg xs]))):=by
 refine ob2_1 ok.str λpm code fn=>ob2_1 ok.vM λI3 cD N9=>?_
 refine CC.of fn (names:=["self","linesep"]) (ps':=[.raw (.ref f),.str sep]) (λs W vs iv r=>?_) rfl (iY (.inl rfl) (.inl rfl)) (λA W s L' hA=>?_)
 ·have hlen:=r.length
  refine ob2_1 (yO hlen) λx y aA=>?_;obtain rfl:=aA
  exact ⟨[x,y],UM rfl,r⟩
 ·refine XS.eX (ER.dD (Rs:=VR f fd L a d mx aB lines k xs) (ak:=VR f fd L a d mx aB (lines++[bg xs]) 0 []) (Ro:=[]) (n:=7) (EV.name rfl)
   (Found.obj ok.ok (bx.res (r:=Res.obj dm f fd (fV mx aB L a)) (by simp [VR])) ok.gt ok.lC.1 ok.lC.2 rfl) N9 (Cs (n:=0) ok hg hl1 hl2 hl3 hk).mc (by show 7<=n+7;exact Sv _ _) mu.nil) ?_
  rw [S6]
  refine XS.ret (EV.A8 (a:=L) (EV.name rfl) (EV.Nh ok (EV.name rfl)) (by simp [VR]) hb) λs₁ v S₁ r=>⟨⟨_,S₁⟩,r⟩
end Mine
namespace Mine
open PySem PySem.W PyProof.Rows
variable {G:Glob} {F:Fm} {ρ ρ':List (Str×PV)} {W W':List Addr} {Rs ak Ro:List Res} {s s':Shared} {K:Frag} {a d f fd L:Addr} {k mx:Nat} {aB:Str} {lines:List Str} {xs ys us:List (Str×Str)} {n:Nat}
noncomputable def eG (ys:List (Str×Str)) (ch i:Nat):Bool :=
 (Vn ⟨#[ch]⟩ && decide ((ys.getD i ("","")).1.cps[0]? = some ch)) || decide ((ys.getD (i - 1) ("","")).2.cps.back? = some ch)
noncomputable def cC (ys:List (Str×Str)) (ch:Nat):Nat->Option Nat
 | 0=>none
 | i+1=>if eG ys ch (i+1) then some (i+1) else cC ys ch i
noncomputable def findS (ys:List (Str×Str)):List Nat->Option Nat
 | []=>none
 | ch::r=>match cC ys ch (ys.length - 1) with
  | some i=>some i
  | none=>findS ys r
theorem fK {ys:List (Str×Str)} {ch:Nat}:∀ {m:Nat},(∀ j,0<j->j<=m->eG ys ch j=false)->cC ys ch m=none
 | 0,_=>rfl
 | m+1,h=>by rw [cC,h (m+1) (by exact IA) (by exact Sz _)];exact fK λj h1 h2=>h j h1 (by exact S5 h2)
theorem dg {ys:List (Str×Str)} {ch i:Nat} (h0:0<i) (hi:eG ys ch i=true):∀ {m:Nat},i<=m->(∀ j,i<j->j<=m->eG ys ch j=false)->cC ys ch m=some i
 | 0,h,_=>absurd h0 (TP h)
 | m+1,h,g=>by
  rw [cC]
  by_cases e:i=m+1
  ·subst e;rw [hi];rfl
  ·rw [g (m+1) (by exact Tw h e) (by exact Sz _)];simp only [UC,if_false]
   exact dg h0 hi (by exact V4 (Tw h e)) λj h1 h2=>g j h1 (by exact S5 h2)
theorem fJ {ys:List (Str×Str)}:∀ {l:List Nat},(∀ ch∈l,cC ys ch (ys.length - 1)=none)->findS ys l=none
 | [],_=>rfl
 | ch::r,h=>by rw [findS,h ch (So ..)];exact fJ λc hc=>h c (Ss _ hc)
theorem lO {ys:List (Str×Str)} {ch i:Nat} {post:List Nat} (hi:cC ys ch (ys.length - 1)=some i):∀ {pre:List Nat},(∀ c∈pre,cC ys c (ys.length - 1)=none)->findS ys (pre++ch::post)=some i
 | [],_=>by rw [V6,findS,hi]
 | c::r,h=>by rw [Vb,findS,h c (So ..)];exact lO hi λc hc=>h c (Ss _ hc)
theorem yj (c ch:Nat):decide ((⟨#[c]⟩:Str)=⟨#[ch]⟩)=decide (some c=some ch) :=
 decide_eq_decide.mpr ⟨λh=>(congrArg (λz:Str=>z.cps[0]?) h:some c=some ch),λh=>UQ h▸rfl⟩
theorem OX {n:Nat} (h:n≠0):seqIndex? 0 n=some 0:=qg (k:=0) rfl (T7 h)
theorem OW {n:Nat} (h:n≠0):seqIndex? (-1) n=some (n - 1):=qg ((if_pos (by decide)).trans (sL (k:=0) (UD (T7 h)))) (WK (T7 h) V0)
theorem qU {z:Str} {c:Nat} (h:z.length≠0) (hc:(seqIndex? 0 z.length).bind (z.cps[·]?)=some c) (ch:Nat):decide ((⟨#[c]⟩:Str)=⟨#[ch]⟩)=decide (z.cps[0]? = some ch):=by
 rw [OX h,U0] at hc
 rw [hc];exact yj c ch
theorem last_eq {z:Str} {c:Nat} (h:z.length≠0) (hc:(seqIndex? (-1) z.length).bind (z.cps[·]?)=some c) (ch:Nat):decide ((⟨#[c]⟩:Str)=⟨#[ch]⟩)=decide (z.cps.back? = some ch):=by
 rw [OW h,U0] at hc
 rw [Array.back?_eq_getElem?,show z.cps[z.cps.size - 1]? = some c from hc];exact yj c ch
theorem lN {z:Str} (h:z.length≠0):∃ c,(seqIndex? 0 z.length).bind (z.cps[·]?)=some c :=
 ⟨_,by rw [OX h,U0];exact Vd (T7 h)⟩
theorem vW {z:Str} (h:z.length≠0):∃ c,(seqIndex? (-1) z.length).bind (z.cps[·]?)=some c :=
 ⟨_,by rw [OW h,U0];exact Vd (WK (T7 h) V0)⟩
noncomputable abbrev DU (z:Option Nat) (ρ:List (Str×PV)):List (Str×PV):=match z with | none=>ρ | some i=>("i",.int i)::ρ
theorem TV.Bo {x y:Str} {p1 p2 p3 p4 p5:Pos} {k1:Nat} {z:Str} {ch:Nat} (hx:ρ.lookup x=some (.str z)) (hy:ρ.lookup y=some (.str ⟨#[ch]⟩)) {pb pc:Pos}
  (hd:(x == ("__debug__":Str))=false:=by decide) (hc:(x == ("__classdict__":Str))=false:=by decide) (hd':(y == ("__debug__":Str))=false:=by decide) (hc':(y == ("__classdict__":Str))=false:=by decide)
  (he:∀ whole,isTrue (.Name x p1) F.env whole=(do let v<-whole;standAt (PySem.Expr.Name x p1).pos;holding [v] (truthy v)):=by intro _;rfl)
  (hs:∀ o i,subscripted (.Constant (.int 0) k1 p3) false o i=operate [o,i] (getItem o i):=by intro _ _;rfl)
  (hm:behindInMarks .Eq (.Name y p4)=false:=by with_unfolding_all rfl) :
  TV G F ρ W Rs (.BoolOp .And [.Name x p1,.Compare (.Subscript (.Name x p2) (.Constant (.int 0) k1 p3) p5) [.Eq] [.Name y p4] pc] pb) (decide (z.cps[0]? = some ch)):=by
 by_cases hz:z.length=0
 ·have e:decide (z.cps[0]? = some ch)=(decide (z.length≠0) && false):=by
   have:z.cps.size=0:=hz
   simp [hz,this]
  rw [e]
  exact TV.and (TV.str (EV.name hx hd hc) he) (λh=>by simp [hz] at h)
 ·refine ob1_1 (lN hz) λc hcc=>?_
  have e:decide (z.cps[0]? = some ch)=(decide (z.length≠0) && (decide ((⟨#[c]⟩:Str)=⟨#[ch]⟩) && true)):=by rw [qU hz hcc ch];simp [hz]
  rw [e]
  exact TV.and (TV.str (EV.name hx hd hc) he) (λz! => TV.and (TV.cmp (EV.yT (EV.name hx hd hc) EV.aE hcc (by decide) (by decide) hs) (EV.name hy hd' hc') qu hm) λz! => TV.pI)
theorem TV.DR {x y:Str} {p1 p2 p3 p4 p5 p6 pb pc:Pos} {k1:Nat} {z:Str} {ch:Nat} (hx:ρ.lookup x=some (.str z)) (hy:ρ.lookup y=some (.str ⟨#[ch]⟩))
  (hd:(x == ("__debug__":Str))=false:=by decide) (hc:(x == ("__classdict__":Str))=false:=by decide) (hd':(y == ("__debug__":Str))=false:=by decide) (hc':(y == ("__classdict__":Str))=false:=by decide)
  (he:∀ whole,isTrue (.Name x p1) F.env whole=(do let v<-whole;standAt (PySem.Expr.Name x p1).pos;holding [v] (truthy v)):=by intro _;rfl)
  (hs:∀ o i,subscripted (.UnaryOp .USub (.Constant (.int 1) k1 p3) p6) false o i=operate [o,i] (getItem o i):=by intro _ _;rfl)
  (hm:behindInMarks .Eq (.Name y p4)=false:=by with_unfolding_all rfl) :
  TV G F ρ W Rs (.BoolOp .And [.Name x p1,.Compare (.Subscript (.Name x p2) (.UnaryOp .USub (.Constant (.int 1) k1 p3) p6) p5) [.Eq] [.Name y p4] pc] pb) (decide (z.cps.back? = some ch)):=by
 by_cases hz:z.length=0
 ·have e:decide (z.cps.back? = some ch)=(decide (z.length≠0) && false):=by
   have:z.cps = #[]:=Array.eq_empty_of_size_eq_zero hz
   simp [hz,this]
  rw [e]
  exact TV.and (TV.str (EV.name hx hd hc) he) (λh=>by simp [hz] at h)
 ·refine ob1_1 (vW hz) λc hcc=>?_
  have e:decide (z.cps.back? = some ch)=(decide (z.length≠0) && (decide ((⟨#[c]⟩:Str)=⟨#[ch]⟩) && true)):=by rw [last_eq hz hcc ch];simp [hz]
  rw [e]
  exact TV.and (TV.str (EV.name hx hd hc) he) (λz! => TV.and (TV.cmp (EV.yT (EV.name hx hd hc) (EV.neg EV.aE) hcc (by decide) (by decide) hs) (EV.name hy hd' hc') qu hm) λz! => TV.pI)
noncomputable def Jt (st:Stmt):List Stmt:=match st with
 | .If _ b _ _=>b
 | .For _ _ b _ _=>b
 | _=>[]
noncomputable abbrev Oo:Stmt:=(bodyOf (um 8)).getD 1 (.Pass ⟨0,0,0,0⟩)
noncomputable abbrev KP:Stmt:=(Jt Oo).getD 0 (.Pass ⟨0,0,0,0⟩)
theorem BO (ok:fh G K) {pm code:Value} {A:Around} {s0:Shared} {L':Addr} {X:List Addr} {m ch:Nat} (hm:4<=m) (hl:ys.length<=1000) (hn:ys≠[]) :
  XS G (bu (i0 pm code) iz A s0 L' m X) [("ch",.str ⟨#[ch]⟩),("self",.raw (.ref f))] W (VR f fd L a d mx aB lines k ys) (Jt KP)
   (λfl s'=>match fl with
    | .next | .cont=>cC ys ch (ys.length - 1)=none/\St G (bu (i0 pm code) iz A s0 L' m X) [("self",.raw (.ref f))] W (VR f fd L a d mx aB lines k ys) s'
    | .brk=>∃ i,cC ys ch (ys.length - 1)=some i/\St G (bu (i0 pm code) iz A s0 L' m X) [("i",.int i),("self",.raw (.ref f))] W (VR f fd L a d mx aB lines k ys) s'
    | .ret _=>False):=by
 refine ob3_2 ok.acc.pc λI3 cD RV N8 z! => ?_
 have hlen:0<ys.length:=V_.mpr hn
 refine XS.CK (τ:=Option Nat) (xs:=span ((ys.length - 1:Nat):Int) 0 (-1)) (λkk z=>z=none/\∀ j,ys.length - 1 - kk<j->j<=ys.length - 1->eG ys ch j=false) (λz=>∃ i,z=some i/\cC ys ch (ys.length - 1)=some i)
  (λz=>DU z [("ch",.str ⟨#[ch]⟩),("self",.raw (.ref f))]) (λz! => VR f fd L a d mx aB lines k ys) (λp z! => [("i",p),("ch",.str ⟨#[ch]⟩),("self",.raw (.ref f))]) none ?_ ⟨rfl,λj h1 h2=>absurd h1 (TP h2)⟩ (λx p h=>h) rfl (λz! => rfl)
  (λkk p z s₁ hp hz=>?_) (λkk p z s₁ hp hz=>?_) (λz hz=>?_) (λz hz=>?_)
 ·refine IV.x7 (EV.blt rfl ok.jw.1 ok.jw.2) ((EV.sub (EV.dD (Rm:=[Res.acc aX a d k ys]) (n:=1) (EV.cur ok (EV.name rfl)) (Found.acc ok.acc.ok cS ok.acc.A3.1 ok.acc.A3.2 (by decide)) N8 (tT (n:=0) ok.acc) kB (by show 1<=m;exact Sn (Sv _ _) hm) mu.nil) EV.aE).conv (congrArg PV.int (Int.ofNat_sub hlen).symm))
   EV.aE (EV.neg EV.aE) (by decide) (by decide) (small_down (by exact S5 (Xo hl)))
 ·refine ob0_2 hz λbM z! => ?_;obtain rfl:=bM
  exact AV.name (.inl rfl)
 ·obtain ⟨rfl,hz⟩:=hz
  rw [ni] at hp
  obtain ⟨hk1,hp⟩:kk<ys.length - 1/\PV.int ((ys.length - 1 - kk:Nat):Int)=p:=by
   rw [S9] at hp
   refine ob1_2 (Tn.mp hp) λq hq aA=>?_;obtain rfl:=aA
   refine ob1_1 (T3.mp hq) λh1 h2=>?_
   simp at h1 h2
   subst h2
   exact ⟨h1,rfl⟩
  subst hp
  generalize hi:ys.length - 1 - kk=i
  have hi1:0<i:=by exact Iq hl hlen hk1 hi
  have hi2:i<ys.length:=by exact Ip hi hi1
  have Q5:ys[i]? = some (ys.getD i ("","")):=by simp [hi2]
  have Q4:ys[i - 1]? = some (ys.getD (i - 1) ("","")):=by
   have:i - 1<ys.length:=by exact T_ (UI _ _) hi2
   simp [this]
  have found:eG ys ch i=true->cC ys ch (ys.length - 1)=some i:=λh=>dg hi1 h (by exact Nat.le_sub_of_add_le (Tj hi2)) λj h1 h2=>hz j (by exact Im hi h1) h2
  have next:eG ys ch i=false->∀ j,ys.length - 1 - (kk+1)<j->j<=ys.length - 1->eG ys ch j=false:=λh j h1 h2=>by
   by_cases e:j=i
   ·subst e;exact h
   ·exact hz j (by exact Ij hi hi1 h1 e) h2
  refine XS.ite (J:=λs'=>(Vn ⟨#[ch]⟩ && decide ((ys.getD i ("","")).1.cps[0]? = some ch))=false/\St G _ [("i",.int i),("ch",.str ⟨#[ch]⟩),("self",.raw (.ref f))] W (VR f fd L a d mx aB lines k ys) s')
   (TV.bool (EV.isspace (EV.name rfl))) (λhc=>?_) (λhc=>XS.nil λs₁ S₁=>⟨by rw [hc];rfl,S₁⟩) ?_
  ·refine XS.asg (p:=.str (ys.getD i ("","")).1) (EV.Ju (EV.u6 ok.acc.ok cS (EV.cur ok (EV.name rfl)) (EV.name rfl) Q5) EV.aE rfl) (AV.name (.inl rfl)) ?_
   refine XS.ite (J:=λs'=>(Vn ⟨#[ch]⟩ && decide ((ys.getD i ("","")).1.cps[0]? = some ch))=false/\St G _ [("i",.int i),("ch",.str ⟨#[ch]⟩),("self",.raw (.ref f))] W (VR f fd L a d mx aB lines k ys) s')
    (TV.Bo rfl rfl) (λh=>?_) (λh=>?_) (λs₁ h₁=>UR h₁)
   ·refine XS.brk λs₁ S₁=>⟨some i,⟨i,rfl,found ?_⟩,S₁.weaken ?_⟩
    ·unfold eG;rw [hc,h];rfl
    ·exact af rfl (af rfl (af rfl ao))
   ·refine XS.nil λs₁ S₁=>⟨by rw [h];simp,S₁.weaken ?_⟩
    exact af rfl (af rfl (af rfl ao))
  ·rintro s₁ ⟨h1,S₁⟩
   revert s₁
   show XS G _ _ _ _ _ _
   refine XS.asg (p:=.str (ys.getD (i - 1) ("","")).2) (EV.Ju (EV.u6 ok.acc.ok cS (EV.cur ok (EV.name rfl)) ((EV.sub (EV.name (p:=.int i) rfl) EV.aE).conv (congrArg PV.int (Int.ofNat_sub hi1).symm)) Q4) EV.aE rfl) (AV.name (.inl rfl)) ?_
   refine XS.ite (J:=λs'=>∃ z',(z'=none/\∀ j,ys.length - 1 - (kk+1)<j->j<=ys.length - 1->eG ys ch j=false)/\St G (bu (i0 pm code) iz A _ L' m _) (DU z' [("ch",.str ⟨#[ch]⟩),("self",.raw (.ref f))]) W (VR f fd L a d mx aB lines k ys) s')
    (TV.DR rfl rfl) (λh=>?_) (λh=>?_) (λs₁ h₁=>UR h₁)
   ·refine XS.brk λs₁ S₁=>⟨some i,⟨i,rfl,found ?_⟩,S₁.weaken ?_⟩
    ·unfold eG;rw [h1,h];rfl
    ·exact af rfl (af rfl (af rfl ao))
   ·refine XS.nil λs₁ S₁=>⟨none,⟨rfl,next ?_⟩,S₁.weaken ?_⟩
    ·unfold eG;rw [h1,h];rfl
    ·exact af rfl (af rfl ao)
 ·obtain ⟨rfl,hz⟩:=hz
  refine XS.cont λs₁ S₁=>⟨fK λj h1 h2=>hz j ?_ h2,S₁.weaken (af rfl ao)⟩
  rw [ni];simp;exact h1
 ·obtain ⟨i,rfl,hz⟩:=hz
  refine XS.brk λs₁ S₁=>⟨i,hz,S₁.weaken (af rfl (af rfl ao))⟩
end Mine
namespace Mine
open PySem PySem.W PyProof.Rows
variable {G:Glob} {F:Fm} {ρ ρ':List (Str×PV)} {W W':List Addr} {Rs ak Ro:List Res} {s s':Shared} {K:Frag} {a d f fd L:Addr} {k mx:Nat} {aB:Str} {lines:List Str} {xs ys us:List (Str×Str)} {n:Nat}
noncomputable def wY (mx:Nat) (aB:List Nat) (lines:List Str) (k:Nat) (xs:List (Str×Str)) (w t:Str):List Str×Nat×List (Str×Str) :=
 if k+av (xs++[(w,t)])<=mx then (lines,k,xs++[(w,t)])
 else match findS (xs++[(w,t)]) aB with
  | some i=>(lines++[bg ((xs++[(w,t)]).take i)],0,(xs++[(w,t)]).drop i)
  | none=>if k=0 then (lines,k,xs++[(w,t)]) else (lines++[bg xs],0,[(if w.length=0 then " " else w,t)])
theorem qX {ys:List (Str×Str)} {ch i:Nat}:∀ {m:Nat},cC ys ch m=some i->0<i/\i<=m
 | 0,h=>by cases h
 | m+1,h=>by
  rw [cC] at h
  split at h
  ·cases h;exact And.intro (T7 (VV _)) (Sz _)
  ·have:=qX h;exact And.intro this.1 (S5 this.2)
theorem qW {ys:List (Str×Str)} {i:Nat}:∀ {l:List Nat},findS ys l=some i->0<i/\i<=ys.length - 1
 | [],h=>by cases h
 | ch::r,h=>by
  rw [findS] at h
  split at h
  ·rename_i j hj
   cases h
   exact qX hj
  ·exact qW h
theorem rH (ys:List (Str×Str)) (i:Nat):av (ys.take i)<=av ys:=by
 have:=aR (ys.take i) (ys.drop i)
 rw [Ur] at this
 exact Iw this
theorem Dg (ok:fh G K) {w t:Str} (hg:jg xs) (hl1:xs.length+1<=1000) (hl2:k+av (xs++[(w,t)])<=lim) (hl3:lines.length+1<=lim) (oW:aB.cps.all (· < 128)=true) :
  CC G iz (n+8) (VR f fd L a d mx aB lines k xs) (VR f fd L a d mx aB (wY mx aB.cps.toList lines k xs w t).1 (wY mx aB.cps.toList lines k xs w t).2.1 (wY mx aB.cps.toList lines k xs w t).2.2) [.raw (.ref f),.str w,.str t] .none:=by
 refine ob2_1 ok.app λpm code fn=>ob2_1 ok.acc.push λI3 cD jV=>ob3_2 ok.acc.pop λKY bL PB v9 z! => ob2_1 ok.acc.res λOL CY Ey=>ob2_1 ok.acc.from_ λSa PG Kg=>ob2_1 ok.vM λR_ PF N9=>?_
 have hlim:lim=1048576:=by decide
 generalize D5:wY mx aB.cps.toList lines k xs w t=sp
 have hyl:(xs++[(w,t)]).length=xs.length+1:=by simp
 have Qw:xs++[(w,t)]≠[]:=by simp
 refine CC.of fn (names:=["self","fws","string"]) (ps':=[.raw (.ref f),.str w,.str t]) (λs W vs iv r=>?_) rfl (uF (.inl rfl) (.inl rfl) (.inl rfl)) (λA W s L' hA=>?_)
 ·have hlen:=r.length
  refine ob3_1 (DP hlen) λx y z rP=>?_;obtain rfl:=rP
  exact ⟨[x,y,z],UM rfl,r⟩
 refine XS.eX (ER.dD (Rs:=[Res.acc aX a d k xs]) (ak:=[Res.acc aX a d k (xs++[(w,t)])]) (Ro:=[Res.lst L (lines.map .str),Res.obj dm f fd (fV mx aB L a)]) (n:=1)
  (EV.cur ok (EV.name rfl)) (Found.acc ok.acc.ok cS ok.acc.iL.1 ok.acc.iL.2 (by decide)) jV (rG (n:=0) ok.acc (by exact w6 hl1 hlim)) (by show 1<=n+7;exact Sv _ _) (mu.of (aW.cons (EV.name rfl) (aW.cons (EV.name rfl) aW.nil)))) ?_
 refine XS.ite (c:=decide (((mx:Nat):Int)<((k+av (xs++[(w,t)]):Nat):Int))) (J:=λs'=>(∃ ρ,St G (bu (i0 pm code) iz A s L' (n+7) ((VR f fd L a d mx aB lines k xs).flatMap Res.addrs)) ρ W (VR f fd L a d mx aB sp.1 sp.2.1 sp.2.2) s')/\Rep W s'.heap .none .none)
  (TV.cmp (EV.yN (xs:=xs++[(w,t)]) ok (EV.name rfl) rfl hl2 (by show 2<=n+7;exact Sv _ _)) (EV.Qh ok (EV.name rfl)) qt) (λhc=>?_) (λhc=>?_) (λs₁ h₁=>UR h₁)
 rotate_left
 ·have:=of_decide_eq_false hc
  have e:sp=(lines,k,xs++[(w,t)]):=by rw [<- D5,wY,if_pos (Ua λq=>this (Uy.mpr q))]
  subst e
  exact XS.nil λs₁ S₁=>⟨⟨_,S₁⟩,Rep.none⟩
 have hc':¬ (k+av (xs++[(w,t)])<=mx):=λq=>TP q (Uy.mp (of_decide_eq_true hc))
 refine XS.weaken (ρ':=[("self",.raw (.ref f))]) ?_ (af rfl ao)
 refine XS.CK (τ:=Option Nat) (xs:=signsOf aB) (λkk z=>z=none/\∀ ch∈aB.cps.toList.take kk,cC (xs++[(w,t)]) ch ((xs++[(w,t)]).length - 1)=none)
  (λz=>∃ i,z=some i/\findS (xs++[(w,t)]) aB.cps.toList=some i)
  (λz=>DU z [("self",.raw (.ref f))]) (λz! => VR f fd L a d mx aB lines k (xs++[(w,t)])) (λp z! => [("ch",p),("self",.raw (.ref f))]) none (IV.str (EV.P6 ok (EV.name rfl)) oW) ⟨rfl,by simp⟩ (λx p h=>h) rfl (λz! => rfl)
  (λkk p z s₁ hp hz=>?_) (λkk p z s₁ hp hz=>?_) (λz hz=>?_) (λz hz=>?_)
 ·refine ob0_2 hz λbM z! => ?_;obtain rfl:=bM
  exact AV.name (.inl rfl)
 ·obtain ⟨rfl,hz⟩:=hz
  unfold signsOf at hp
  rw [S9] at hp
  refine ob1_2 (Tn.mp hp) λch hch aA=>?_;obtain rfl:=aA
  refine ob1_1 (T3.mp hch) λhlt hget=>?_
  refine λs₂ S₂=>aF (BO (m:=n+7) ok (by exact Sv _ _) (by exact Il hl1 hyl) Qw s₂ S₂) λfl s₃ h₃=>?_
  cases fl with
  | next=>exact ⟨none,⟨rfl,λc hc=>by
    rw [TX,hch] at hc
    rcases SO.mp hc with hc | hc
    ·exact hz c hc
    ·have:c=ch:=by simpa using hc
     subst this;exact h₃.1⟩,h₃.2⟩
  | cont=>exact ⟨none,⟨rfl,λc hc=>by
    rw [TX,hch] at hc
    rcases SO.mp hc with hc | hc
    ·exact hz c hc
    ·have:c=ch:=by simpa using hc
     subst this;exact h₃.1⟩,h₃.2⟩
  | brk =>
   refine ob1_2 h₃ λi hi aT=>?_
   refine ⟨some i,⟨i,rfl,?_⟩,aT⟩
   have e:aB.cps.toList=aB.cps.toList.take kk++ch::aB.cps.toList.drop (kk+1):=by
    rw [<- hget,List.getElem_cons_drop hlt,Ur]
   rw [e]
   exact lO hi hz
  | ret v=>exact h₃.elim
 ·obtain ⟨rfl,hz⟩:=hz
  have hS:findS (xs++[(w,t)]) aB.cps.toList=none:=fJ λch hch=>hz ch (by rw [UP (by simp [signsOf])];exact hch)
  refine XS.BN (ER.dD (Rs:=[Res.acc aX a d k (xs++[(w,t)])]) (ak:=[Res.acc aX a d k xs]) (Ro:=[Res.lst L (lines.map .str),Res.obj dm f fd (fV mx aB L a)]) (n:=2) (EV.cur ok (EV.name rfl))
   (Found.acc ok.acc.ok cS ok.acc.oK.1 ok.acc.oK.2 (by decide)) v9 (uY (z:=(w,t)) (n:=0) ok.acc) (by show 2<=n+7;exact Sv _ _) mu.nil) (AV.mE (.inl rfl) (.inl rfl)) ?_
  refine XS.ite (J:=λs'=>∃ dX k' xs' w',sp=(dX,k',xs'++[(w',t)])/\xs'.length+1<=lim/\St G (bu (i0 pm code) iz A s L' (n+7) ((VR f fd L a d mx aB lines k xs).flatMap Res.addrs)) [("fws",.str w'),("part",.str t),("self",.raw (.ref f))] W (VR f fd L a d mx aB dX k' xs') s')
   (TV.cmp (EV.je ok.acc.ok cS (EV.cur ok (EV.name rfl))) EV.aE qt) (λhk=>?_) (λhk=>?_) ?_
  ·have hk0:k≠0:=Vv (Uy.mp (of_decide_eq_true hk))
   refine XS.eX (ER.dD (Rs:=VR f fd L a d mx aB lines k xs) (ak:=VR f fd L a d mx aB (lines++[bg xs]) 0 []) (Ro:=[]) (n:=7) (EV.name rfl)
    (Found.obj ok.ok (bx.res (r:=Res.obj dm f fd (fV mx aB L a)) (by simp [VR])) ok.gt ok.lC.1 ok.lC.2 rfl) N9 (Cs (n:=0) ok hg (by exact w6 hl1 hlim) (by rw [aR] at hl2;exact Ig hl2 hlim) hl3 (.inl hk0)).mc (by show 7<=n+7;exact Sv _ _) mu.nil) ?_
   rw [S6]
   have e:sp=(lines++[bg xs],0,[]++[(if w.length=0 then (" ":Str) else w,t)]):=by rw [<- D5,wY,if_neg hc',hS];simp only [hk0,if_false,V6]
   refine XS.ite (J:=λs'=>∃ dX k' xs' w',sp=(dX,k',xs'++[(w',t)])/\xs'.length+1<=lim/\St G (bu (i0 pm code) iz A s L' (n+7) ((VR f fd L a d mx aB lines k xs).flatMap Res.addrs)) [("fws",.str w'),("part",.str t),("self",.raw (.ref f))] W (VR f fd L a d mx aB dX k' xs') s')
    (TV.not (TV.str (EV.name rfl))) (λh=>?_) (λh=>?_) (λs₁ h₁=>UR h₁)
   ·have hw:w.length=0:=by simpa using h
    rw [if_pos hw] at e
    refine XS.asg EV.bP (AV.name (.inl rfl)) (XS.nil λs₁ S₁=>⟨_,_,_,_,e,by simp [hlim],S₁.weaken (af rfl (af rfl (af rfl ao)))⟩)
   ·have hw:¬ w.length=0:=by simpa using h
    rw [if_neg hw] at e
    refine XS.nil λs₁ S₁=>⟨_,_,_,_,e,by simp [hlim],S₁.weaken (af rfl (af rfl (af rfl ao)))⟩
  ·have hk0:k=0:=Nat.eq_zero_of_not_pos λq=>of_decide_eq_false hk (Uy.mpr q)
   have e:sp=(lines,k,xs++[(w,t)]):=by rw [<- D5,wY,if_neg hc',hS];simp only [hk0,if_true]
   refine XS.nil λs₁ S₁=>⟨_,_,_,_,e,by exact w6 hl1 hlim,S₁.weaken (af rfl (af rfl (af rfl ao)))⟩
  ·rintro s₁ ⟨dX,k',xs',w',e,hx',S₁⟩
   revert s₁
   show XS G _ _ _ _ _ _
   refine XS.eX (ER.dD (Rs:=[Res.acc aX a d k' xs']) (ak:=[Res.acc aX a d k' (xs'++[(w',t)])]) (Ro:=[Res.lst L (dX.map .str),Res.obj dm f fd (fV mx aB L a)]) (n:=1)
    (EV.cur ok (EV.name rfl)) (Found.acc ok.acc.ok cS ok.acc.iL.1 ok.acc.iL.2 (by decide)) jV (rG (n:=0) ok.acc hx') (by show 1<=n+7;exact Sv _ _) (mu.of (aW.cons (EV.name rfl) (aW.cons (EV.name rfl) aW.nil)))) ?_
   subst e
   exact XS.M7 λs₁ S₁=>⟨⟨_,S₁⟩,Rep.none⟩
 ·refine ob1_2 hz λi aC hS=>?_;obtain rfl:=aC
  refine ob0_2 (qW hS) λhi1 hi2=>?_
  have e:sp=(lines++[bg ((xs++[(w,t)]).take i)],0,(xs++[(w,t)]).drop i):=by rw [<- D5,wY,if_neg hc',hS]
  refine XS.BN (ER.dD (Rs:=[Res.acc aX a d k (xs++[(w,t)])]) (ak:=[Res.acc aX a d k ((xs++[(w,t)]).take i)]) (Ro:=[Res.lst L (lines.map .str),Res.obj dm f fd (fV mx aB L a)]) (n:=1) (EV.cur ok (EV.name rfl))
   (Found.acc ok.acc.ok cS ok.acc.qB.1 ok.acc.qB.2 (by decide)) Kg (z_ (n:=0) ok.acc (by exact Sn hi2 (UI _ _)) (by exact HY hl1 hlim hyl)) (by show 1<=n+7;exact Sv _ _) (mu.of (aW.cons (EV.name rfl) aW.nil))) (AV.name (.inl rfl)) ?_
  refine XS.eX (ER.perm gG (ER.append (p:=.str (bg ((xs++[(w,t)]).take i))) (EV.perm gG.symm (EV.Nh ok (EV.name rfl))) (EV.perm gG.symm (EV.xN ok (EV.name rfl) rfl (by have:=rH (xs++[(w,t)]) i;exact HV hl2 hlim this) (by show 4<=n+7;exact Sv _ _))) (by simpa using hl3)) (.refl _)) ?_
  refine XS.perm (ak:=VR f fd L a d mx aB (lines++[bg ((xs++[(w,t)]).take i)]) k ((xs++[(w,t)]).take i)) (by rw [VR,Ti];exact .swap ..) ?_
  refine XS.eX (ER.dD (Rs:=[Res.acc aX a d k ((xs++[(w,t)]).take i)]) (ak:=[Res.acc aX a d 0 ((xs++[(w,t)]).drop i)]) (Ro:=[Res.lst L ((lines++[bg ((xs++[(w,t)]).take i)]).map .str),Res.obj dm f fd (fV mx aB L a)]) (n:=1)
   (EV.cur ok (EV.name rfl)) (Found.acc ok.acc.ok cS ok.acc.sN.1 ok.acc.sN.2 (by decide)) Ey (wI (n:=0) ok.acc (by rw [T8];exact HQ hl1 hlim hyl hi1)) (by show 1<=n+7;exact Sv _ _) (mu.of (aW.cons (EV.name rfl) aW.nil))) ?_
  subst e
  exact XS.nil λs₁ S₁=>⟨⟨_,S₁⟩,Rep.none⟩
end Mine
namespace Mine
open PySem PySem.W PyProof.Rows
variable {G:Glob} {F:Fm} {ρ ρ':List (Str×PV)} {W W':List Addr} {Rs ak Ro:List Res} {s s':Shared} {K:Frag} {a d f fd L:Addr} {k mx:Nat} {aB inner:Str} {lines:List Str} {xs ys us:List (Str×Str)} {n:Nat}
noncomputable abbrev FS:Type:=List Str×Nat×List (Str×Str)
noncomputable def jd (mx:Nat) (aB:Str) (z:FS) (w t:Str):FS:=wY mx aB.cps.toList z.1 z.2.1 z.2.2 w t
noncomputable def ve (z:FS) (w t:Str):Prop:=jg z.2.2/\z.2.2.length+1<=1000/\z.2.1+av (z.2.2++[(w,t)])<=lim/\z.1.length+1<=lim
noncomputable abbrev VZ (f fd L a d:Addr) (mx:Nat) (aB:Str) (z:FS):List Res:=VR f fd L a d mx aB z.1 z.2.1 z.2.2
theorem ER.app (ok:fh G K) {z:FS} {w t:Str} {o e1 e2:Sp} {apos pos:Pos} (ha:ve z w t) (oW:aB.cps.all (· < 128)=true)
  (ho:EV G F ρ W (VZ f fd L a d mx aB z) o (.raw (.ref f))) (h1:EV G F ρ W (VZ f fd L a d mx aB z) e1 (.str w)) (h2:EV G F ρ W (VZ f fd L a d mx aB z) e2 (.str t)) (hn:8<=F.n)
  (hst:backTo pos (starEach [e1,e2] F.env)=[e1,e2].map (λe=>(false,eval e F.env)):=by rfl)
  (hbase:attributeBase o "_append_chunk" F.env (eval o F.env)=eval o F.env:=by rfl)
  (hfew:((backTo pos (starEach [e1,e2] F.env)).all (λx => !x.1) && (backToKw pos (keywordEach [] F.env)).all (λx=>x.1.isSome)
   && decide ([e1,e2].length+([]:List Keyword).length+(if ([]:List Keyword).isEmpty then 0 else 1)<30))=true:=by rfl)
  (hline:(apos.endLine == pos.line)=true:=by rfl) :
  ER G F ρ W (VZ f fd L a d mx aB z) (.Call (.Attribute o "_append_chunk" apos) [e1,e2] [] pos) .none (VZ f fd L a d mx aB (jd mx aB z w t)):=by
 refine ob2_1 ok.app λpm code fn=>?_
 have:=ER.dD (Rs:=VZ f fd L a d mx aB z) (ak:=VZ f fd L a d mx aB (jd mx aB z w t)) (Ro:=[]) (n:=8) (name:="_append_chunk") (apos:=apos) (pos:=pos) (by rw [S6];exact ho)
  (by rw [S6];exact Found.obj ok.ok (bx.res (r:=Res.obj dm f fd (fV mx aB L a)) (by simp [VR])) ok.gt ok.yG.1 ok.yG.2 rfl) fn
  (Dg (n:=0) (w:=w) (t:=t) ok ha.1 ha.2.1 ha.2.2.1 ha.2.2.2 oW).mc hn (by rw [S6];exact mu.of (aW.cons h1 (aW.cons h2 aW.nil)) hst) rfl hbase hfew hline
 rw [S6,S6] at this
 exact this
theorem ER.IQ (ok:fh G K) {sep:Str} {o e1:Sp} {apos pos:Pos} (hg:jg xs) (hl1:xs.length+1<=lim) (hl2:k+av xs<=lim) (hl3:lines.length+1<=lim) (hk:k≠0\/(av xs≠0/\Vn (bg xs)=false))
  (hb:((lines++[bg xs]).map (·.length)).sum+(lines++[bg xs]).length * sep.length<=lim)
  (ho:EV G F ρ W (VR f fd L a d mx aB lines k xs) o (.raw (.ref f))) (h1:EV G F ρ W (VR f fd L a d mx aB lines k xs) e1 (.str sep)) (hn:8<=F.n)
  (hst:backTo pos (starEach [e1] F.env)=[e1].map (λe=>(false,eval e F.env)):=by rfl)
  (hbase:attributeBase o "_str" F.env (eval o F.env)=eval o F.env:=by rfl)
  (hfew:((backTo pos (starEach [e1] F.env)).all (λx => !x.1) && (backToKw pos (keywordEach [] F.env)).all (λx=>x.1.isSome)
   && decide ([e1].length+([]:List Keyword).length+(if ([]:List Keyword).isEmpty then 0 else 1)<30))=true:=by rfl)
  (hline:(apos.endLine == pos.line)=true:=by rfl) :
  ER G F ρ W (VR f fd L a d mx aB lines k xs) (.Call (.Attribute o "_str" apos) [e1] [] pos) (.str (SP sep (lines++[bg xs]))) (VR f fd L a d mx aB (lines++[bg xs]) 0 []):=by
 refine ob2_1 ok.str λpm code fn=>?_
 have:=ER.dD (Rs:=VR f fd L a d mx aB lines k xs) (ak:=VR f fd L a d mx aB (lines++[bg xs]) 0 []) (Ro:=[]) (n:=8) (name:="_str") (apos:=apos) (pos:=pos) (by rw [S6];exact ho)
  (by rw [S6];exact Found.obj ok.ok (bx.res (r:=Res.obj dm f fd (fV mx aB L a)) (by simp [VR])) ok.gt ok.jr.1 ok.jr.2 rfl) fn
  (Df (n:=0) ok hg hl1 hl2 hl3 hk hb).mc hn (by rw [S6];exact mu.of (aW.cons h1 aW.nil) hst) rfl hbase hfew hline
 rw [S6,S6] at this
 exact this
theorem EN.vf (ok:fh G K) {p pos:Pos} {e1 e2 e3 e4:Sp} {m:Nat} (hf:EV G F ρ W Rs (.Name "_ValueFormatter" p) (.raw (.ref dm))) (h1:EV G F ρ W Rs e1 (.int k)) (h2:EV G F ρ W Rs e2 (.int mx)) (h3:EV G F ρ W Rs e3 (.str " ")) (h4:EV G F ρ W Rs e4 (.str aB))
  (hs:aB.length<=lim) (hn:m+4<=F.n) (hst:backTo pos (starEach [e1,e2,e3,e4] F.env)=[e1,e2,e3,e4].map (λe=>(false,eval e F.env)):=by rfl) :
  EN G F ρ W Rs (.Call (.Name "_ValueFormatter" p) [e1,e2,e3,e4] [] pos) (λv W' ak=>∃ f fd L a d,v = .ref f/\W'=a::d::L::f::fd::W/\ak=VR f fd L a d mx aB [] k []++Rs):=λs S=>by
 refine aF (EN.make false ok.OQ hf (aW.cons h1 (aW.cons h2 (aW.cons h3 (aW.cons h4 .nil)))) (λx d=>Res.obj dm x d []) (λz! z! => rfl) (λW h x d e1 e2 ne=>A0 W h x d e1 e2 ne) (λx d=>Ay (n:=m) ok hs) (by exact hn) hst s S) λv s' h=>?_
 refine ob2_2 h λW' ak aA S'=>ob3_5 aA λx d Rn h1 h2 h3 Dd h6=>ob3_2 Dd λL a d' h4 h5=>?_
 subst h4 h5 h6
 exact ⟨_,_,⟨_,_,_,_,_,h3,rfl,rfl⟩,S'⟩
noncomputable def cN (mx:Nat) (aB inner:Str) (z:FS) (p:Str×Str):FS :=
 if p.2.cps[0]? = some 97 then jd mx aB z p.1 (p.2++inner++";") else jd mx aB (jd mx aB z p.1 p.2) inner ";"
noncomputable def Ae (mx:Nat) (aB inner:Str) (z:FS) (p:Str×Str):Prop :=
 p.2.length≠0/\(if p.2.cps[0]? = some 97 then ve z p.1 (p.2++inner++";")/\(p.2++inner++";").length<=lim else ve z p.1 p.2/\ve (jd mx aB z p.1 p.2) inner ";")
noncomputable abbrev gr (p:Str×Str):PV:=.tup [.str p.1,.str p.2]
noncomputable def vg (mx:Nat) (aB inner:Str) (k:Nat) (ws:List (Str×Str)) (i:Nat):FS:=(ws.take i).foldl (cN mx aB inner) ([],k,[])
structure wM (G:Glob):Prop where
 fn:∃ pm code,bQ G BR (fdOf (bH dQ K9) "_law_rows" [] .none .none pm code .none) (bodyOf (bH dQ K9))
 N3:G.mg "_ValueFormatter"=some (.ref dm)
theorem AL (ok:fh G K) (yp:wM G) {ws:List (Str×Str)} {sep:Str} {R:List Str} (oW:aB.cps.all (· < 128)=true) (hs:aB.length<=lim)
  (hst:∀ i p,ws[i]? = some p->Ae mx aB inner (vg mx aB inner k ws i) p)
  (hz:vg mx aB inner k ws ws.length=(lines,k',xs)) (hg:jg xs) (hl1:xs.length+1<=lim) (hl2:k'+av xs<=lim) (hl3:lines.length+1<=lim) (hk:k'≠0\/(av xs≠0/\Vn (bg xs)=false))
  (hb:((lines++[bg xs]).map (·.length)).sum+(lines++[bg xs]).length * sep.length<=lim)
  (hy:(sep.length == 0)=false) (hR:V3 (SP sep (lines++[bg xs])) sep=R) (hp:∀ z∈R,z.length<=lim) (hn:R.length<=lim)
  (hn':(Vq (SP sep (lines++[bg xs])) (U7 (SP sep (lines++[bg xs])) sep 0 (SP sep (lines++[bg xs])).length ((SP sep (lines++[bg xs])).length+1)) sep.length).length<=sizeLine) :
  FC G BR (n+10) [.int k,.int mx,.str aB,.str inner,.lst (ws.map gr),.str sep] (.lst (R.map .str)):=by
 refine ob2_1 yp.fn λpm code fn=>ob2_1 ok.str λI3 cD Si=>?_
 have hlim:lim=1048576:=by decide
 subst hR
 refine FC.of fn (names:=["room","width","splits","inner","words","end"]) (ps':=[.int k,.int mx,.str aB,.str inner,.lst (ws.map gr),.str sep]) (λs W vs iv r=>?_) rfl
  (by simp only [Sx,Tq,or_false];rintro x (rfl | rfl | rfl | rfl | rfl | rfl) <;> exact .inl rfl) (λA W s L' hA=>?_)
 ·have hlen:=r.length
  refine ob6_1 (Ni hlen) λx y z u v w MX=>?_;obtain rfl:=MX
  exact ⟨[x,y,z,u,v,w],UM rfl,r⟩
 refine XS.Oi (EN.vf (k:=k) (mx:=mx) (aB:=aB) (m:=0) ok (EV.glob rfl yp.N3) (EV.name rfl) (EV.name rfl) EV.bP (EV.name rfl) hs (by show 4<=n+9;exact Sv _ _)) (.inl rfl) λv W' ak h=>?_
 refine ob5_3 h λf fd L a d Aq Dd PU=>?_;obtain rfl:=Aq;obtain rfl:=Dd;obtain rfl:=PU
 rw [S6]
 refine XS.loop (τ:=FS) (xs:=ws.map gr) (λi z=>z=vg mx aB inner k ws i) (λz! => False) (λz! => [("maker",.raw (.ref f)),("end",.str sep),("inner",.str inner)]) (λz=>VZ f fd L a d mx aB z)
  (λp z! => match p with | .tup [p1,p2]=>[("word",p2),("blanks",p1),("maker",.raw (.ref f)),("end",.str sep),("inner",.str inner)] | _=>[]) ([],k,[]) (IV.list (EV.name rfl)) rfl (af rfl (af rfl (af rfl ao))) rfl (λz! => rfl)
  (λkk p z s₁ hp hz=>?_) (λkk p z s₁ hp hz=>?_) (λz hz'=>?_)
 ·rw [S9] at hp
  refine ob1_2 (Tn.mp hp) λq hq aA=>?_;obtain rfl:=aA
  exact AV.mE (.inl rfl) (.inl rfl)
 ·rw [S9] at hp
  refine ob1_2 (Tn.mp hp) λbM hq aA=>?_;obtain ⟨w,t⟩:=bM;obtain rfl:=aA
  refine ob0_2 (hst kk _ hq) λh0 h1=>?_
  dsimp only at h0 h1 ⊢
  subst hz
  have hnext:vg mx aB inner k ws (kk+1)=cN mx aB inner (vg mx aB inner k ws kk) (w,t):=by
   unfold vg
   rw [TX,hq,Up,Vk];rfl
  rw [hnext]
  generalize vg mx aB inner k ws kk=z at *
  refine ob1_1 (lN h0) λc hcc=>?_
  have e1:decide (t.cps[0]? = some 97)=decide ((⟨#[c]⟩:Str)=⟨#[97]⟩):=(qU h0 hcc 97).symm
  refine XS.ite (c:=decide (t.cps[0]? = some 97)) (J:=λs'=>St G _ [("word",.str t),("blanks",.str w),("maker",.raw (.ref f)),("end",.str sep),("inner",.str inner)] _ (VZ f fd L a d mx aB (cN mx aB inner z (w,t))) s')
   (by rw [e1];exact TV.cmp (EV.yT (EV.name rfl) EV.aE hcc (by decide) (by decide)) EV.bP qu) (λhc=>?_) (λhc=>?_) (λs₂ S₂=>UR ⟨_,rfl,S₂.weaken (af rfl (af rfl (af rfl ao)))⟩)
  ·have hc:=of_decide_eq_true hc
   rw [if_pos hc] at h1
   have hl:(t++inner).length<=lim:=by
    have e:(t++inner++";").length=(t++inner).length+1:=S3 _ _
    exact SE (Sn (SI e.symm) h1.2)
   refine XS.eX (ER.app (w:=w) (t:=t++inner++";") ok h1.1 oW (EV.name rfl) (EV.name rfl) (EV.mW (EV.mW (EV.name rfl) (EV.name rfl) hl) EV.bP h1.2) (by show 8<=n+9;exact Sv _ _)) (XS.nil λs₂ S₂=>?_)
   have e:cN mx aB inner z (w,t)=jd mx aB z w (t++inner++";"):=by rw [cN,if_pos hc]
   rw [e];exact S₂
  ·have hc:=of_decide_eq_false hc
   rw [if_neg hc] at h1
   refine XS.eX (ER.app (w:=w) (t:=t) ok h1.1 oW (EV.name rfl) (EV.name rfl) (EV.name rfl) (by show 8<=n+9;exact Sv _ _)) ?_
   refine XS.eX (ER.app (w:=inner) (t:=";") ok h1.2 oW (EV.name rfl) (EV.name rfl) EV.bP (by show 8<=n+9;exact Sv _ _)) (XS.nil λs₂ S₂=>?_)
   have e:cN mx aB inner z (w,t)=jd mx aB (jd mx aB z w t) inner ";":=by rw [cN,if_neg hc]
   rw [e];exact S₂
 ·have hz':z=(lines,k',xs):=by
   rcases hz' with h | h
   ·rw [h,Sq];exact hz
   ·exact h.elim
  subst hz'
  refine XS.M6 (ER.nC (ak:=VR f fd L a d mx aB (lines++[bg xs]) 0 []) (x:=SP sep (lines++[bg xs])) ?_ (.cons (EV.name rfl) .nil) Wh PySem.F.type_str_split (uA (y:=sep) hy hp hn hn') (by simp)) (λs₂ v S r=>⟨S.stp,r.less λb hb=>by simp [hb]⟩)
  exact ER.IQ ok hg hl1 hl2 hl3 hk hb (EV.name rfl) (EV.name rfl) (by show 8<=n+9;exact Sv _ _)
end Mine
namespace Mine
open PySem PySem.W PyProof.Rows
variable {G:Glob} {F:Fm} {ρ ρ':List (Str×PV)} {W W':List Addr} {Rs ak Ro:List Res} {s s':Shared} {K:Frag} {n:Nat}
noncomputable abbrev Ord:Type:=List Nat×Str
noncomputable abbrev fX (o:Ord):PV:=.tup [.lst (o.1.map aj),.str o.2]
noncomputable def c_ (tl:List Nat) (i:Nat):Str:=if i∈tl then "1" else "0"
noncomputable def cZ (k:Nat) (e:List Nat) (o:Ord) (p:Nat):Ord:=(o.1.take p++[k]++o.1.drop p,o.2++SP "" (e.map (c_ (o.1.drop p))))
noncomputable def b_ (k:Nat) (e:List Nat) (os:List Ord):List Ord:=os.flatMap λo=>(SD (k+1)).map (cZ k e o)
noncomputable def aQ (near:List (List Nat)):Nat->List Ord
 | 0=>[([],"")]
 | k+1=>b_ k (near.getD k []) (aQ near k)
structure BX (G:Glob):Prop where
 fn:∃ pm code,bQ G C6 (fdOf (bH dQ Jw) "_law_orders" [] .none .none pm code .none) (bodyOf (bH dQ Jw))
 jw:G.mg "range"=none/\G.mb "range"=some (.type "range")
 CV:G.mg "enumerate"=none/\G.mb "enumerate"=some (.type "enumerate")
theorem l6 (tl:List Nat) (e:List Nat):(SP "" (e.map (c_ tl))).length=e.length:=by
 rw [iS,Th]
 have:∀ e:List Nat,(e.map ((λx:Str=>x.length) ∘ c_ tl)).sum=e.length:=by
  intro e
  induction e with
  | nil=>rfl
  | cons i e ih =>
   rw [S_,XJ,ih,Tr]
   have:(c_ tl i).length=1:=by unfold c_;split <;> rfl
   show (c_ tl i).length+_=_
   exact Ir this
 exact this e
theorem uf {near:List (List Nat)} {k:Nat}:∀ o∈aQ near k,o.1.length=k:=by
 induction k with
 | zero=>intro o h;rw [aQ] at h;rw [SG.mp h];rfl
 | succ k ih =>
  intro o h
  rw [aQ,b_] at h
  refine ob1_2 (SX.mp h) λo' h1 h2=>ob1_2 (S7.mp h2) λp hp aA=>?_;obtain rfl:=aA
  have:=ih o' h1
  have hp:=SQ.mp hp
  simp [cZ,this]
  exact Io hp
theorem qA {near:List (List Nat)} (hn:∀ e∈near,e.length<=5) (k:Nat):(near.getD k []).length<=5:=by
 rw [S2]
 cases e:near[k]? with
 | none=>simp
 | some x=>exact hn _ (U' e)
theorem ye {near:List (List Nat)} (hn:∀ e∈near,e.length<=5) {k:Nat}:∀ o∈aQ near k,o.2.length<=5 * k:=by
 induction k with
 | zero=>intro o h;rw [aQ] at h;cases SG.mp h;exact Sz _
 | succ k ih =>
  intro o h
  rw [aQ,b_] at h
  refine ob1_2 (SX.mp h) λo' h1 h2=>ob1_2 (S7.mp h2) λp hp aA=>?_;obtain rfl:=aA
  have:=ih o' h1
  have he:=qA hn k
  show (o'.2++SP "" _).length<=_
  rw [S3,l6]
  exact VL this he
theorem cM {k:Nat} {e:List Nat}:∀ os:List Ord,(b_ k e os).length=(k+1) * os.length
 | []=>rfl
 | o::os=>by
  have:=cM (k:=k) (e:=e) os
  unfold b_ at this ⊢
  rw [Tg,SY,this,Sq,TJ,Tr,Nat.mul_add,Nat.mul_one,Vw]
theorem nu {near:List (List Nat)}:∀ k,k<=5->(aQ near k).length<=6 ^ k
 | 0,_=>Sz 1
 | k+1,h=>by
  have:=nu (near:=near) k (by exact SE h)
  rw [aQ,cM,Nat.pow_succ,Nat.mul_comm]
  exact X8 this (by exact S5 h)
theorem M9 {k:Nat} (h:k<=5):6 ^ k<=7776:=Nat.pow_le_pow_right (by decide) h
noncomputable abbrev eB (e:List Nat):PV:=.lst (e.map aj)
theorem Jf {pm code:Value} {A:Around} {s0:Shared} {L':Addr} {m:Nat}:("tail":Str)∈(eV (fdOf (bH dQ Jw) "_law_orders" [] .none .none pm code .none) C6 A s0 L' m).cv:=List.contains_iff_mem.mp (by kernel_rfl)
theorem vK (ok:BX G) {near:List (List Nat)} (h5:near.length<=5) (hn:∀ e∈near,e.length<=5) :
  FC G C6 (n+1) [.lst (near.map eB)] (.lst ((aQ near near.length).map fX)):=by
 refine ob2_1 ok.fn λpm code fn=>?_
 have hlim:lim=1048576:=by decide
 refine FC.of fn (names:=["near"]) (ps':=[.lst (near.map eB)]) (λs W vs iv r=>?_) rfl (TS.mpr (.inl rfl)) (λA W s L' hA=>?_)
 ·refine ob1_2 r.one λa aC r1=>?_;obtain rfl:=aC
  exact ⟨[a],UM rfl,r⟩
 refine XS.asg (p:=.lst [.tup [.lst [],.str ""]]) (EV.list (aW.cons (EV.tup (ps:=[.lst [],.str ""]) (aW.cons (EV.list .nil) (aW.cons EV.bP .nil))) .nil)) (AV.name (.inl rfl)) ?_
 refine XS.loop (τ:=List Ord) (xs:=gA (near.map eB)) (λi z=>z=aQ near i) (λz! => False) (λz=>[("orders",.lst (z.map fX)),("near",.lst (near.map eB))]) (λz! => [])
  (λp z=>match p with | .tup [p1,p2]=>[("earlier",p2),("k",p1),("orders",.lst (z.map fX)),("near",.lst (near.map eB))] | _=>[]) [([],"")] (IV.enum (EV.blt rfl ok.CV.1 ok.CV.2) (EV.name rfl)) rfl (af rfl (af rfl ao)) rfl (λz! => rfl)
  (λkk p z s₁ hp hz=>?_) (λkk p z s₁ hp hz=>?_) (λz hz'=>?_)
 ·unfold gA at hp
  rw [S9] at hp
  refine ob1_2 (Tn.mp hp) λq hq aA=>?_;obtain rfl:=aA
  exact AV.mE (.inl rfl) (.inl rfl)
 ·have hq:kk<near.length/\p = .tup [.int (kk:Int),eB (near.getD kk [])]:=by
   unfold gA at hp
   rw [S9] at hp
   refine ob1_2 (Tn.mp hp) λq hq aA=>?_;obtain rfl:=aA
   rw [List.getElem?_zipIdx,S9] at hq
   refine ob1_2 (Tn.mp hq) λq' hq' aA=>?_;obtain rfl:=aA
   refine ob1_2 (Tn.mp hq') λe he aA=>?_;obtain rfl:=aA
   refine ob1_1 (T3.mp he) λh1 h2=>?_
   refine ⟨h1,?_⟩
   rw [S2,he]
   simp
  refine ob0_2 hq λhkk aC=>?_;obtain rfl:=aC
  have hstep:aQ near (kk+1)=b_ kk (near.getD kk []) z:=by rw [aQ,hz]
  have hlen:∀ o∈z,o.1.length=kk:=by rw [hz];exact uf
  have hcode:∀ o∈z,o.2.length<=25:=by rw [hz];exact λo ho=>Sn (ye hn o ho) (by exact Ie h5 hkk)
  have Ej:((kk+1) * z.length)<=7776:=by
   rw [<- cM (e:=near.getD kk []),<- hstep]
   exact Sn (nu _ (by exact Tj (Su hkk h5))) (M9 (by exact Tj (Su hkk h5)))
  rw [hstep]
  have NN:=qA hn kk
  generalize near.getD kk []=e at *
  refine XS.own .nil (.inl rfl) λg hg=>?_
  refine XS.loop (τ:=List Ord) (xs:=z.map fX) (λi acc=>acc=b_ kk e (z.take i)) (λz! => False) (λacc=>[("grown",.raw (.ref g)),("earlier",eB e),("k",.int (kk:Int)),("orders",.lst (z.map fX)),("near",.lst (near.map eB))]) (λacc=>[Res.lst g (acc.map fX)])
   (λp acc=>match p with | .tup [p1,p2]=>[("code",p2),("one",p1),("grown",.raw (.ref g)),("earlier",eB e),("k",.int (kk:Int)),("orders",.lst (z.map fX)),("near",.lst (near.map eB))] | _=>[]) []
   (IV.list (EV.name rfl)) rfl (af rfl (af rfl (af rfl (af rfl (af rfl ao))))) rfl (λz! => rfl) (λi p acc s₂ hp hacc=>?_) (λi p acc s₂ hp hacc=>?_) (λacc hacc=>?_)
  ·rw [S9] at hp
   refine ob1_2 (Tn.mp hp) λq hq aA=>?_;obtain rfl:=aA
   exact AV.mE (.inl rfl) (.inl rfl)
  ·rw [S9] at hp
   refine ob1_2 (Tn.mp hp) λo ho aA=>?_;obtain rfl:=aA
   refine ob1_1 (T3.mp ho) λhi Sg=>?_
   have O6:o∈z:=U' ho
   have CS:b_ kk e (z.take (i+1))=acc++(SD (kk+1)).map (cZ kk e o):=by
    rw [hacc,TX,ho,Up]
    unfold b_
    rw [Ul,Tg,U1,S6]
   have hal:acc.length+(kk+1)<=7776:=by
    have h1:=cM (k:=kk) (e:=e) (z.take (i+1))
    rw [CS,SY,Sq,TJ] at h1
    rw [h1]
    exact Sn (X8 (Sz _) (by simp;exact Wq _ _)) Ej
   rw [CS]
   have mK:=hlen o O6
   have hoc:=hcode o O6
   obtain ⟨one,code'⟩:=o
   dsimp only at mK hoc ⊢
   refine XS.loop (τ:=List Ord) (xs:=span 0 ((kk+1:Nat):Int) 1) (λj b=>b=acc++(SD j).map (cZ kk e (one,code'))) (λz! => False) (λb=>[("code",.str code'),("one",.lst (one.map aj)),("grown",.raw (.ref g)),("earlier",eB e),("k",.int (kk:Int)),("orders",.lst (z.map fX)),("near",.lst (near.map eB))]) (λb=>[Res.lst g (b.map fX)])
    (λp b=>[("p",p),("code",.str code'),("one",.lst (one.map aj)),("grown",.raw (.ref g)),("earlier",eB e),("k",.int (kk:Int)),("orders",.lst (z.map fX)),("near",.lst (near.map eB))]) acc
    (IV.x8 (EV.blt rfl ok.jw.1 ok.jw.2) ((EV.add (EV.name rfl) EV.aE).conv (by congr 1)) (qb (by exact H_ h5 hkk))) (by simp) (λx p h=>h) rfl (λz! => rfl) (λj p b s₃ hp hb=>AV.name (.inl rfl)) (λj p b s₃ hp hb=>?_) (λb hb=>?_)
   ·rw [oq] at hp
    refine ob0_2 (lg hp) λhj ep=>?_
    subst ep
    have hb1:b.length+1<=lim:=by
     rw [hb,SY,Sq,TJ];exact H7 hlim hal hj
    have hb2:acc++(SD (j+1)).map (cZ kk e (one,code'))=b++[cZ kk e (one,code') j]:=by
     rw [hb,List.range_succ,Ti,S4];rfl
    rw [hb2]
    refine XS.asg (EV.qT (f:=aj) (EV.name rfl) (EV.name rfl)) (AV.name (.inr ⟨rfl,Jf (pm:=pm) (code:=code) (A:=A) (s0:=s) (L':=L') (m:=n)⟩)) ?_
    refine XS.append (p:=fX (cZ kk e (one,code') j)) rfl ?_ (by rw [Sq];exact hb1) (XS.nil λs₄ bZ=>⟨_,rfl,?_⟩)
    ·refine EV.tup (ps:=[.lst ((cZ kk e (one,code') j).1.map aj),.str (cZ kk e (one,code') j).2]) (aW.cons ?_ (aW.cons ?_ .nil)) (by show 2<=lim;exact tW hlim)
     ·refine (EV.rF (EV.rF (EV.xu (f:=aj) (EV.name rfl) (EV.name rfl)) (EV.list (aW.cons (EV.name rfl) .nil) (by show 1<=lim;exact iB hlim)) ?_) (EV.name rfl) ?_).conv ?_
      ·simp;exact HS h5 hlim hkk mK hj
      ·simp;exact HP h5 hlim hkk mK hj
      ·simp [cZ]
     ·refine EV.mW (EV.name rfl) (EV.join (ys:=e.map (c_ (one.drop j))) EV.bP ((EV.comp (L:=e) (enc:=aj) (λi=>[("i",aj i),("tail",.lst ((one.drop j).map aj))]) (λz! => true) (λi=>.str (c_ (one.drop j) i)) (by kernel_rfl) (IV.list (EV.name rfl))
       (by intro i;exact af rfl ao) (λi z! cl cs s0 X W' ak=>AV.name (.inl rfl)) (λi z! cl cs s0 X W' ak=>u7.nil)
       (λi z! z! cl cs s0 X W' ak=>EV.qJ (c:=decide (i∈one.drop j)) (by rw [<- pH];exact TV.cmp (EV.name rfl) (EV.name rfl) (CE (dF.int (d:=0)).ok (dF.nats (d:=0)).ok)) (λh=>EV.conv EV.bP ?_) (λh=>EV.conv EV.bP ?_)) (by exact tV hlim NN)).conv ?_) ?_) ?_
      ·rw [c_,if_pos (of_decide_eq_true h)]
      ·rw [c_,if_neg (of_decide_eq_false h)]
      ·rw [Wa.mpr (λz! z! => rfl),Th];rfl
      ·rw [<- iS,l6]
       show _+_ * 0<=lim
       exact HK hlim NN
      ·rw [S3,l6];dsimp only;exact HJ hlim NN hoc
    ·rw [Ti]
     exact bZ.weaken (af rfl (af rfl (af rfl (af rfl (af rfl (af rfl (af rfl ao)))))))
   ·have hb:b=acc++(SD (kk+1)).map (cZ kk e (one,code')):=by
     rcases hb with h | h
     ·rw [h,oq,Sq,TJ]
     ·exact h.elim
    rw [<- hb]
    exact XS.nil λs₄ bZ=>⟨_,rfl,bZ.weaken (af rfl (af rfl (af rfl (af rfl (af rfl ao)))))⟩
  ·have hacc:acc=b_ kk e z:=by
    rcases hacc with h | h
    ·rw [h,Sq,Xp]
    ·exact h.elim
   subst hacc
   refine XS.freeze (W':=W) (x:="grown") rfl (λb hb=>Ss _ hb) hg (λb hb=>Sx.mp hb) ?_
   refine XS.asg (EV.name rfl) (AV.name (.inl rfl)) (XS.nil λs₄ bZ=>⟨_,rfl,bZ.weaken (af rfl (af rfl ao))⟩)
 ·have hz':z=aQ near near.length:=by
   rcases hz' with h | h
   ·rw [h];unfold gA;rw [Sq,XM,Sq]
   ·exact h.elim
  subst hz'
  exact XS.ret (EV.name rfl) λs₄ v S r=>⟨S.stp,r⟩
end Mine
namespace Mine
open PySem PySem.W PyProof.Rows
variable {G:Glob} {F:Fm} {ρ ρ':List (Str×PV)} {W W':List Addr} {Rs ak Ro:List Res} {s s':Shared} {K:Flow->Shared->Prop} {n:Nat}
noncomputable def aH (d0:Nat):Nat:=4+d0 % 16
noncomputable def dB (d0:Nat):Str:=([" ",";",",; ","\t "]:List Str).getD (d0 / 16 % 4) ""
noncomputable def aJ (d0:Nat):Str:=if dB d0=",; "/\6<aH d0 then " " else ""
noncomputable def aL (d1:Nat):Nat:=1+d1 % 7
noncomputable def aP (k v:Nat):Str×Str:=(VQ " " ((1+v % 2:Nat):Int),VQ ⟨#[97+k]⟩ ((1+v / 2 % 3:Nat):Int))
noncomputable def bf (ai:Str) (p:Str×Str):Str:=p.1++p.2++ai++";"
noncomputable def jQ (d1 k:Nat):Str:=(["\n","\r","\r\n"]:List Str).getD ((d1 / 7+k) % 3) ""
noncomputable def ic (d1:Nat):List Str:=(SD 5).map (jQ d1)
structure mZ (G:Glob):Prop where
 fn:∃ pm code,bQ G Fc (fdOf (bH dQ Fq) "law" [] .none .none pm code .none) (bodyOf (bH dQ Fq))
 sum:G.mg "sum"=none/\G.mb "sum"=some (.builtin "sum")
 len:G.mg "len"=none/\G.mb "len"=some (.builtin "len")
 max:G.mg "max"=none/\G.mb "max"=some (.builtin "max")
 min:G.mg "min"=none/\G.mb "min"=some (.builtin "min")
 sorted:G.mg "sorted"=none/\G.mb "sorted"=some (.builtin "sorted")
 set:G.mg "set"=none/\G.mb "set"=some (.type "set")
 range:G.mg "range"=none/\G.mb "range"=some (.type "range")
 enum:G.mg "enumerate"=none/\G.mb "enumerate"=some (.type "enumerate")
 rows:G.mg "_law_rows"=some (.ref BR)
 orders:G.mg "_law_orders"=some (.ref C6)
 quote:G.mg "quotedata"=some (.ref Fb)
 bl:G.mg "bisect_left"=some (.ref Fe)
 br:G.mg "bisect_right"=some (.ref Fd)
noncomputable abbrev rO (pm code:Value) (A:Around) (s:Shared) (L:Addr) (n:Nat):Fm:=eV (fdOf (bH dQ Fq) "law" [] .none .none pm code .none) Fc A s L n
noncomputable abbrev sS (i:Nat):List Stmt:=(bodyOf (bH dQ Fq)).drop i
theorem yx (x:Str) (n:Int):tl (VQ x n)=(T4 n.toNat (tl x)).flatten:=by
 unfold VQ
 have hf:∀ (m:Nat) (acc:Array Nat),(List.foldl (· ++ ·) acc (T4 m x.cps)).toList=acc.toList++(T4 m (tl x)).flatten:=by
  intro m
  induction m with
  | zero=>intro acc;simp
  | succ m ih=>intro acc;rw [UH,Vx,ih,UH,VI,U3,S4];rfl
 split
 ·have:n.toNat=0:=by lia
  rw [this];rfl
 ·split
  ·rename_i h
   rcases Wc.mp h with h | h
   ·have:n=1:=Vc h
    subst this;simp
   ·have:x.length=0:=Vc h
    have:tl x=[]:=V5.mp (by rw [aM];exact this)
    rw [this];simp
  ·exact hf n.toNat #[]
theorem dz {c:Nat} (n:Nat):(VQ ⟨#[c]⟩ (n:Int)).length=n:=by
 rw [<- aM,yx]
 simp [tl]
theorem Jq (ok:mZ G) {pm code:Value} {A:Around} {s0:Shared} {L:Addr} {script:List Int}
  (hK:∀ d0 d1 v0 v1 v2 v3:Nat,XS G (rO pm code A s0 L n) [("drawn",.lst ([d0,d1,v0,v1,v2,v3].map aj))] W [] (sS 2) K) :
  XS G (rO pm code A s0 L n) [("script",.lst (script.map .int))] W [] (sS 0) K:=by
 have hlim:lim=1048576:=by decide
 refine XS.asg (EV.fT (L:=script.take 60) (enc:=PV.int) (λx=>[("x",.int x)]) (λx=>aj (x.fmod 1000000).toNat) (by kernel_rfl) (IV.list (EV.xu (f:=PV.int) (j:=60) (EV.name rfl) EV.aE))
  (by intro a;exact ao) (λx z! cl cs s0 X W' ak=>AV.name (.inl rfl))
  (λx z! cl cs s0 X W' ak=>(EV.mod (EV.name rfl) EV.aE (by decide)).conv ?_) (by rw [Wt];exact Ik hlim)) (AV.nm (by kernel_rfl)) ?_
 ·rw [aj,Int.toNat_of_nonneg (Int.fmod_nonneg_of_pos _ (by decide))]
 have ht:∀ i∈(script.take 60).map (λx:Int=>(x.fmod 1000000).toNat),i<=1000000:=by
  intro i hi
  refine ob1_2 (S7.mp hi) λx z! aA=>?_;obtain rfl:=aA
  exact qK (XY (Int.fmod_lt_of_pos x (show (0:Int)<1000000 by decide)))
 have e:(script.take 60).map (λx=>aj (x.fmod 1000000).toNat)=((script.take 60).map λx:Int=>(x.fmod 1000000).toNat).map aj:=by rw [Th];rfl
 rw [e]
 generalize (script.take 60).map (λx:Int=>(x.fmod 1000000).toNat)=told at *
 refine XS.asg (EV.fT (L:=[(0,43+told.length),(1,9),(2,2),(3,0),(4,4),(5,1)]) (enc:=λx:Nat×Nat=>.tup [aj x.1,aj x.2]) (λx=>[("base",aj x.2),("k",aj x.1),("told",.lst (told.map aj))]) (λx=>aj (x.2+(pick told (some (x.1:Int)) none (some 6)).sum)) (by kernel_rfl)
  (IV.enum (xs:=[43+told.length,9,2,0,4,1].map aj) (EV.blt rfl ok.enum.1 ok.enum.2) (EV.list (ps:=[43+told.length,9,2,0,4,1].map aj) (aW.cons (EV.eg (EV.aE (i:=(43:Nat))) ((EV.sW (EV.blt rfl ok.len.1 ok.len.2) (EV.name rfl)).conv (by rw [Sq]))) (aW.cons (EV.aE (i:=(9:Nat))) (aW.cons (EV.aE (i:=(2:Nat))) (aW.cons (EV.aE (i:=(0:Nat))) (aW.cons (EV.aE (i:=(4:Nat))) (aW.cons (EV.aE (i:=(1:Nat))) .nil)))))) (by rw [Sq];show 6<=lim;exact Cp hlim)))
  (by intro a;exact af rfl ao) (λx z! cl cs s0 X W' ak=>AV.mE (.inl rfl) (.inl rfl))
  (λx z! cl cs s0 X W' ak=>EV.eg (EV.name rfl) (EV.IX (EV.blt rfl ok.sum.1 ok.sum.2) (EV.IZ (EV.name rfl) (EV.name rfl) EV.aE (by decide)) λi hi=>ht i (yd hi))) (by show 6<=lim;exact Cp hlim)) (AV.nm (by kernel_rfl)) ?_
 exact XS.weaken (hK _ _ _ _ _ _) (af rfl ao)
end Mine
namespace Mine
open PySem PySem.W PyProof.Rows
variable {G:Glob} {F:Fm} {ρ ρ':List (Str×PV)} {W W':List Addr} {Rs ak Ro:List Res} {s s':Shared} {K:Flow->Shared->Prop} {n:Nat}
noncomputable def bz (ai:Str) (words:List (Str×Str)):List Str:=""::words.map (bf ai)
noncomputable def bS (room:Nat) (ts:List Str):List Nat:=ts.foldl (λz t=>z++[z.getLastD 0+t.length]) [0,room]
noncomputable def vR (width:Nat) (sums:List Nat) (k:Nat):List Nat:=(SD k).filter λi=>decide (sums.getD (k+1) 0<=width+sums.getD i 0)
theorem yH (d0:Nat):([" ",";",",; ","\t "]:List Str)[d0 / 16 % 4]? = some (dB d0):=by
 unfold dB
 generalize h:d0 / 16 % 4=m
 have:m<4:=by exact w5 h
 clear h;revert this;revert m
 exact lD (lD (lD (lD ltZ rfl) rfl) rfl) rfl
theorem yI (d1 k:Nat):(["\n","\r","\r\n"]:List Str)[(d1 / 7+k) % 3]? = some (jQ d1 k):=by
 unfold jQ
 generalize h:(d1 / 7+k) % 3=m
 have:m<3:=by exact Co h
 clear h;revert this;revert m
 exact lD (lD (lD ltZ rfl) rfl) rfl
theorem BQ:∀ k:Nat,k<4->(seqIndex? (k:Int) ("abcd":Str).length).bind (("abcd":Str).cps[·]?)=some (97+k):=by decide
theorem g9 (k v:Nat):(aP k v).1.length<=2/\(aP k v).2.length<=3:=by
 constructor
 ·show (VQ ⟨#[32]⟩ _).length<=2
  rw [dz];exact Ih
 ·show (VQ ⟨#[_]⟩ _).length<=3
  rw [dz];exact Ic
theorem vS (d0:Nat):(aJ d0).length<=1:=by unfold aJ;split <;> decide
theorem fF (room:Nat) (ts:List Str):(bS room ts).length=ts.length+2:=by
 have:∀ (ts:List Str) (z:List Nat),(ts.foldl (λz t=>z++[z.getLastD 0+t.length]) z).length=ts.length+z.length:=by
  intro ts
  induction ts with
  | nil=>intro z;simp
  | cons t ts ih=>intro z;rw [Vx,ih];simp;exact Eq.symm (Vz _ _ _)
 exact this ts [0,room]
theorem Jp (ok:mZ G) {pm code:Value} {A:Around} {s0:Shared} {L:Addr} {d0 d1 v0 v1 v2 v3:Nat}
  (hK:∀ words,words=[aP 0 v0,aP 1 v1,aP 2 v2,aP 3 v3]->XS G (rO pm code A s0 L n) [("ends",.lst ((ic d1).map .str)),("texts",.lst ((bz (aJ d0) words).map .str)),("words",.lst (words.map gr)),("room",aj (aL d1)),("inner",.str (aJ d0)),("splits",.str (dB d0)),("width",aj (aH d0))] W [] (sS 9) K) :
  XS G (rO pm code A s0 L n) [("drawn",.lst ([d0,d1,v0,v1,v2,v3].map aj))] W [] (sS 2) K:=by
 have hlim:lim=1048576:=by decide
 refine XS.asg (p:=aj (aH d0)) (EV.eg (EV.aE (i:=(4:Nat))) (EV.vN (EV.nT (i:=0) (EV.name rfl) EV.aE rfl) (EV.aE (i:=(16:Nat))) (by decide))) (AV.nm (by kernel_rfl)) ?_
 refine XS.asg (p:=.str (dB d0)) (EV.nT (f:=PV.str) (EV.list (aW.cons EV.bP (aW.cons EV.bP (aW.cons EV.bP (aW.cons EV.bP .nil)))) (by show 4<=lim;exact Ck hlim)) (EV.vN (EV.EK (EV.nT (i:=0) (EV.name rfl) EV.aE rfl) (EV.aE (i:=(16:Nat))) (by decide) (by decide)) (EV.aE (i:=(4:Nat))) (by decide)) (yH d0)) (AV.nm (by kernel_rfl)) ?_
 refine XS.asg (p:=.str (aJ d0)) (EV.qJ (c:=decide (dB d0=",; ") && (decide (6<aH d0) && true)) (TV.and (TV.cmp (EV.name rfl) EV.bP qu) λz! => TV.and (TV.RB (EV.name rfl) (EV.aE (i:=(6:Nat))) rfl) λz! => TV.pI) (λh=>EV.conv EV.bP ?_) (λh=>EV.conv EV.bP ?_)) (AV.nm (by kernel_rfl)) ?_
 ·rw [aJ,if_pos (by simpa using h)]
 ·rw [aJ,if_neg (by simpa using h)]
 refine XS.asg (p:=aj (aL d1)) (EV.eg (EV.aE (i:=(1:Nat))) (EV.vN (EV.nT (i:=1) (EV.name rfl) EV.aE rfl) (EV.aE (i:=(7:Nat))) (by decide))) (AV.nm (by kernel_rfl)) ?_
 refine XS.e_ (L:=[(0,v0),(1,v1),(2,v2),(3,v3)]) (enc:=λx:Nat×Nat=>.tup [aj x.1,aj x.2]) (λx=>[("v",aj x.2),("k",aj x.1)]) (λx=>gr (aP x.1 x.2)) (by kernel_rfl)
  (IV.enum (xs:=[v0,v1,v2,v3].map aj) (EV.blt rfl ok.enum.1 ok.enum.2) (EV.qT (f:=aj) (xs:=[d0,d1,v0,v1,v2,v3]) (j:=2) (EV.name rfl) EV.aE))
  (by intro a;exact ao) (λx z! cl cs s0 X W' ak=>AV.mE (.inl rfl) (.inl rfl))
  (λx hx cl cs s0 X W' ak=>EV.tup (ps:=[.str (aP x.1 x.2).1,.str (aP x.1 x.2).2]) (aW.cons (EV.DK EV.bP (EV.eg (EV.aE (i:=(1:Nat))) (EV.vN (EV.name rfl) (EV.aE (i:=(2:Nat))) (by decide))) (by decide) ?_ ?_ ?_)
   (aW.cons (EV.DK (EV.yT (i:=(x.1:Int)) EV.bP (EV.name rfl) (BQ x.1 ?_) ?_ ?_) (EV.eg (EV.aE (i:=(1:Nat))) (EV.vN (EV.EK (EV.name rfl) (EV.aE (i:=(2:Nat))) (by decide) (by decide)) (EV.aE (i:=(3:Nat))) (by decide))) (by show 1<=16;decide) ?_ ?_ ?_) .nil)) (by show 2<=lim;exact tW hlim)) (by show 4<=lim;exact Ck hlim) (by kernel_rfl) ?_
 ·exact (Xs (n:=65536)).mpr (Sn (Ue (Tf (Nat.mod_lt _ (by decide))) 1) (S1 rfl))
 ·exact nH
 ·have:=(g9 x.1 x.2).1;exact Sn this (by exact tW hlim)
 ·exact (by decide:∀ y∈[0,1,2,3],y<4) x.1 (List.mem_map_of_mem (f:=Prod.fst) hx)
 ·exact nH
 ·exact Int.lt_of_lt_of_le (Uy.mpr ((by decide:∀ y∈[0,1,2,3],y<4) x.1 (List.mem_map_of_mem (f:=Prod.fst) hx))) (by decide)
 ·exact (Xs (n:=65536)).mpr (Sn (Ue (Tf (Nat.mod_lt _ (by decide))) 1) (S1 rfl))
 ·exact nH
 ·have:=(g9 x.1 x.2).2;exact Sn this (by exact Ci hlim)
 show XS G _ (("words",.lst ([aP 0 v0,aP 1 v1,aP 2 v2,aP 3 v3].map gr))::_) _ _ _ _
 have hwl:∀ p∈[aP 0 v0,aP 1 v1,aP 2 v2,aP 3 v3],p.1.length<=2/\p.2.length<=3:=by
  intro p hp
  simp at hp
  rcases hp with rfl | rfl | rfl | rfl <;> exact g9 _ _
 replace hK:=hK _ rfl
 have hwn:[aP 0 v0,aP 1 v1,aP 2 v2,aP 3 v3].length=4:=rfl
 generalize [aP 0 v0,aP 1 v1,aP 2 v2,aP 3 v3]=words at *
 have hil:=vS d0
 refine XS.asg (p:=.lst ((bz (aJ d0) words).map .str)) ((EV.rF (EV.list (aW.cons EV.bP .nil) (by show 1<=lim;exact iB hlim)) (EV.fT (L:=words) (enc:=gr) (λp=>[("word",.str p.2),("blanks",.str p.1),("inner",.str (aJ d0))]) (λp=>.str (bf (aJ d0) p)) (by kernel_rfl)
  (IV.list (EV.name rfl)) (by intro a;exact af rfl ao) (λx z! cl cs s0 X W' ak=>AV.mE (.inl rfl) (.inl rfl))
  (λx hx cl cs s0 X W' ak=>EV.mW (EV.mW (EV.mW (EV.name rfl) (EV.name rfl) ?_) (EV.name rfl) ?_) EV.bP ?_) (by exact HE hlim hwn)) ?_).conv ?_) (AV.nm (by kernel_rfl)) ?_
 ·have:=hwl x hx;rw [S3];exact Hy hlim this
 ·have:=hwl x hx;rw [S3,S3];exact Hu hlim hil this
 ·have:=hwl x hx;rw [S3,S3,S3];show _+1<=lim;exact Hq hlim hil this
 ·rw [Sq,hwn];show 1+4<=lim;exact Hp hlim
 ·rw [bz,S_,Th];rfl
 refine XS.e_ (L:=SD 5) (enc:=aj) (λk=>[("k",aj k),("drawn",.lst ([d0,d1,v0,v1,v2,v3].map aj))]) (λk=>.str (jQ d1 k)) (by kernel_rfl)
  (IV.dS (m:=5) (EV.blt rfl ok.range.1 ok.range.2) EV.aE (by decide)) (by intro a;exact af rfl ao) (λx z! cl cs s0 X W' ak=>AV.name (.inl rfl))
  (λx hx cl cs s0 X W' ak=>EV.nT (f:=PV.str) (EV.list (aW.cons EV.bP (aW.cons EV.bP (aW.cons EV.bP .nil))) (by show 3<=lim;exact Ci hlim)) (EV.vN (EV.eg (EV.EK (EV.nT (i:=1) (EV.name rfl) EV.aE rfl) (EV.aE (i:=(7:Nat))) (by decide) (by decide)) (EV.name rfl)) (EV.aE (i:=(3:Nat))) (by decide)) (yI d1 x))
  (by show 5<=lim;exact jG hlim) (by kernel_rfl) ?_
 have e:(SD 5).map (λk=>PV.str (jQ d1 k))=(ic d1).map .str:=by rw [ic,Th];rfl
 rw [e]
 exact XS.weaken hK (af rfl (af rfl (af rfl (af rfl (af rfl (af rfl (af rfl ao)))))))
end Mine
namespace Mine
open PySem PySem.W PyProof.Rows
variable {G:Glob} {F:Fm} {ρ ρ':List (Str×PV)} {W W':List Addr} {Rs ak Ro:List Res} {s s':Shared} {K:Flow->Shared->Prop} {n:Nat}
noncomputable abbrev jP (ends texts:List Str) (words:List (Str×Str)) (room:Nat) (ai aB:Str) (width:Nat):List (Str×PV) :=
 [("ends",.lst (ends.map .str)),("texts",.lst (texts.map .str)),("words",.lst (words.map gr)),("room",aj room),("inner",.str ai),("splits",.str aB),("width",aj width)]
noncomputable abbrev aO (e:List Nat):PV:=.lst (e.map aj)
theorem Jo (ok:mZ G) {pm code:Value} {A:Around} {s0:Shared} {L:Addr} {ends texts:List Str} {words:List (Str×Str)} {room width:Nat} {ai aB:Str} (ht:texts.length=5)
  (hK:XS G (rO pm code A s0 L n) (("near",.lst (((SD 5).map (vR width (bS room (texts.drop 1)))).map aO))::("sums",.lst ((bS room (texts.drop 1)).map aj))::jP ends texts words room ai aB width) W [] (sS 12) K) :
  XS G (rO pm code A s0 L n) (jP ends texts words room ai aB width) W [] (sS 9) K:=by
 have hlim:lim=1048576:=by decide
 have hsl:(bS room (texts.drop 1)).length=6:=by rw [fF,T8];exact Ib ht
 refine XS.own (ps:=[aj 0,aj room]) (aW.cons (EV.aE (i:=(0:Nat))) (aW.cons (EV.name rfl) .nil)) (AV.I7 (by kernel_rfl)) (λa ha=>?_) (by show 2<=lim;exact tW hlim)
 refine XS.loop (τ:=List Nat) (xs:=(texts.drop 1).map .str) (λi z=>z=bS room ((texts.drop 1).take i)) (λz! => False) (λz=>("sums",.raw (.ref a))::jP ends texts words room ai aB width) (λz=>[Res.lst a (z.map aj)])
  (λp z=>("one",p)::("sums",.raw (.ref a))::jP ends texts words room ai aB width) [0,room] (IV.list (EV.qT (f:=PV.str) (j:=1) (EV.name rfl) EV.aE)) rfl (λx p h=>h) rfl (λz! => rfl)
  (λkk p z s₁ hp hz=>AV.nm (by kernel_rfl)) (λkk p z s₁ hp hz=>?_) (λz hz=>?_)
 ·rw [S9] at hp
  refine ob1_2 (Tn.mp hp) λt hq aA=>?_;obtain rfl:=aA
  refine ob1_1 (T3.mp hq) λhk z! => ?_
  have QY:kk<4:=by rw [T8] at hk;exact Su hk (Xo (SI ht))
  have hn:bS room ((texts.drop 1).take (kk+1))=z++[z.getLastD 0+t.length]:=by
   rw [hz,TX,hq,Up]
   unfold bS
   rw [Vk];rfl
  have sZ:z.length=kk+2:=by rw [hz,fF,Wt];exact H6 hk
  have JN:z[z.length - 1]? = some (z.getLastD 0):=by
   rw [<- List.getLast?_eq_getElem?,List.getLastD_eq_getLast?]
   cases h:z.getLast? with
   | none=>rw [List.getLast?_eq_none_iff] at h;subst h;simp at sZ
   | some y=>rfl
  rw [hn]
  refine XS.append (p:=aj (z.getLastD 0+t.length)) rfl ?_ (by rw [Sq];exact HX hlim QY sZ) (XS.nil λs₂ S₂=>⟨_,rfl,?_⟩)
  ·refine EV.frozen (W':=W) (x:="sums") rfl (λb hb=>Ss _ hb) ha (λb hb=>Sx.mp hb) (EV.eg (EV.yU (EV.name rfl) (EV.neg EV.aE) (uv (k:=0) ?_ ?_)) (EV.Jg (EV.blt rfl ok.len.1 ok.len.2) (EV.name rfl))) rfl
   ·rw [Sq];exact HU sZ
   ·rw [Sq,S9,Nat.sub_zero,JN];rfl
  ·rw [Ti]
   exact S₂.weaken (A7 rfl)
 ·have hz:z=bS room (texts.drop 1):=by
   rcases hz with h | h
   ·rw [h,Sq,Xp]
   ·exact h.elim
  subst hz
  refine XS.freeze (W':=W) (x:="sums") rfl (λb hb=>Ss _ hb) ha (λb hb=>Sx.mp hb) ?_
  refine XS.weaken (ρ':=("sums",.lst ((bS room (texts.drop 1)).map aj))::jP ends texts words room ai aB width) ?_ (af rfl (af rfl (af rfl (af rfl (af rfl (af rfl (af rfl (af rfl ao))))))))
  generalize bS room (texts.drop 1)=sums at *
  have hg:∀ i,i<6->sums[i]? = some (sums.getD i 0):=λi hi=>by
   rw [S2]
   have:sums[i]? = some sums[i]:=SW (by exact Su hi (SI (Eq.symm hsl)))
   rw [this];rfl
  refine XS.asg ((EV.fT (L:=SD 5) (enc:=aj) (λk=>[("k",aj k),("sums",.lst (sums.map aj)),("width",aj width)]) (λk=>aO (vR width sums k)) (by kernel_rfl)
   (IV.dS (m:=5) (EV.blt rfl ok.range.1 ok.range.2) EV.aE (by decide)) (by intro a;exact af rfl (af rfl ao)) (λx z! cl cs s0 X W' ak=>AV.nm (by kernel_rfl))
   (λk hk cl cs s0 X W' ak=>EV.q7 (L:=SD k) (enc:=aj) (λi=>[("i",aj i),("k",aj k),("sums",.lst (sums.map aj)),("width",aj width)]) (λi=>decide (sums.getD (k+1) 0<=width+sums.getD i 0)) aj (by kernel_rfl)
    (IV.dS (m:=k) (EV.blt rfl ok.range.1 ok.range.2) (EV.name rfl) ?_) (by intro a;exact af rfl (af rfl (af rfl ao))) (λx z! cl cs s0 X W' ak=>AV.nm (by kernel_rfl))
    (λi hi cl cs s0 X W' ak=>(TV.cmp (EV.sub (EV.nT (f:=aj) (EV.name rfl) (EV.eg (EV.name rfl) (EV.aE (i:=(1:Nat)))) (hg (k+1) ?_)) (EV.nT (f:=aj) (EV.name rfl) (EV.name rfl) (hg i ?_))) (EV.name rfl) I4).conv ?_) (λi hi z! cl cs s0 X W' ak=>EV.name rfl) ?_) (by show 5<=lim;exact jG hlim)).conv (q:=.lst (((SD 5).map (vR width sums)).map aO)) ?_) (AV.nm (by kernel_rfl)) ?_
  ·have:=SQ.mp hk;exact Tf (Su this (Sv _ _))
  ·have:=SQ.mp hk;exact UB this _
  ·have:=SQ.mp hk;have:=SQ.mp hi;exact Tu (Su this (Tf (by assumption)))
  ·exact decide_eq_decide.mpr ⟨λh=>(Xs (n:=_+_)).mp (Int.le_add_of_sub_right_le h),λh=>Int.sub_right_le_of_le_add (Xs.mpr h)⟩
  ·have:=SQ.mp hk;rw [TJ];exact HO hlim this
  ·rw [Th];rfl
  ·exact hK
end Mine
namespace Mine
open PySem PySem.W PyProof.Rows
variable {G:Glob} {F:Fm} {ρ ρ':List (Str×PV)} {W W':List Addr} {Rs ak Ro:List Res} {s s':Shared} {K:Flow->Shared->Prop} {n:Nat}
noncomputable abbrev aU (xs:List Str):PV:=.lst (xs.map .str)
noncomputable def cQ (f:Nat) (b:Int) (rows:List Str):List Str:=rows.zipIdx.map λx=>if f<x.2/\(x.2:Int)<b then x.1 else "-"++x.1
noncomputable def dW (l:Str):Str:=if dU l none (some 1)="-" then dU l (some 1) none else l
noncomputable def uo:List Str:=[110,97,98,99,100].map λc=>"."++⟨#[c]⟩
noncomputable def g_ (e:Str) (f:Nat) (b:Int) (rows:List Str):Str:=SP ("\n"++e) (cQ f b rows).reverse
noncomputable def iO (f:Nat) (folded:List Str):Int:=((max 1 f:Nat):Int)+Vo (folded.getD 0 "") ";"
structure TurnOk (G:Glob) (ends:List Str) (words:List (Str×Str)) (room:Nat) (ai aB:Str) (width:Nat) (folded:Nat->List Str) (rows:Nat->List Str) (f:Nat):Prop where
 fold:∀ m,FC G BR (m+10) [aj (if f=0 then room else 0),aj width,.str aB,.str ai,.lst ((words.drop (f - 1)).map gr),.str (ends.getD f "")] (aU (folded f))
 head:(folded f)[0]? = some ((folded f).getD 0 "")
 r5:(rows f).length=5
 small:∀ r∈rows f,r.length<=100
 e2:(ends.getD f "").length<=2
 M3:∃ S:List Str,V3 (quoted (g_ (ends.getD f "") f (iO f (folded f)) (rows f))) "\r\n\r\n"=S/\S.length=5/\(∀ l∈S,l.length<=101)/\rows (f+1)=S.reverse.map dW
theorem sF (x:Str):(quoted x).length<=4 * x.length:=by
 have h1:=ja _ x.cps.toList (Sz _)
 have h2:=lU (crlf x.cps.toList) true
 have h3:(quoted x).length=(dots true (crlf x.cps.toList)).length:=by
  show (dots true (crlf x.cps.toList)).toArray.size=_
  rw [T5]
 have h4:x.cps.toList.length=x.length:=Ud
 exact Ia h1 h2 h3 h4
theorem join_le {sep:Str} {c:Nat}:∀ {xs:List Str},(∀ x∈xs,x.length<=c)->(SP sep xs).length<=xs.length * (c+sep.length)
 | [],_=>by show 0<=_;exact Td _
 | [x],h=>by
  have:=h x (So ..)
  show x.length<=_
  rw [List.length_singleton];exact H9 this
 | x::y::r,h=>by
  have h1:=h x (So ..)
  have h2:=join_le (sep:=sep) (xs:=y::r) λz hz=>h z (Ss _ hz)
  show (x++sep++SP sep (y::r)).length<=_
  rw [S3,S3,Tr (as:=y::r),Nat.add_mul,Nat.one_mul]
  exact HZ h1 h2
theorem qC {f:Nat} {b:Int} {rows:List Str} (h5:rows.length=5):(cQ f b rows).length=5:=by
 unfold cQ;rw [Sq,XM,h5]
theorem sP {f:Nat} {b:Int} {rows:List Str} (h:∀ r∈rows,r.length<=100):∀ r∈cQ f b rows,r.length<=101:=by
 intro r hr
 unfold cQ at hr
 refine ob1_2 (S7.mp hr) λbM hx aA=>?_;obtain ⟨x,i⟩:=bM;obtain rfl:=aA
 have hm:x∈rows:=by
  have:=List.mem_zipIdx hx
  exact this.2.2▸UW _
 have:=h x hm
 dsimp only
 split
 ·exact S5 this
 ·rw [S3];show 1+_<=_;exact HW this
theorem Jm (ok:mZ G) (yp:wM G) (KZ:Lp G) {pm code:Value} {A:Around} {s0:Shared} {L:Addr} {near:List (List Nat)} {sums:List Nat} {ends texts:List Str} {words:List (Str×Str)} {room width:Nat} {ai aB:Str} {folded rows:Nat->List Str}
  (h5:ends.length=5) (h0:rows 0=uo) (ht:∀ f,f<5->TurnOk G ends words room ai aB width folded rows f)
  (hK:XS G (rO pm code A s0 L (n+10)) [("written",.lst (((SD 5).map folded).map aU)),("rows",aU (rows 5)),("near",.lst (near.map aO)),("sums",.lst (sums.map aj)),("texts",.lst (texts.map .str)),("width",aj width)] W [] (sS 14) K) :
  XS G (rO pm code A s0 L (n+10)) (("near",.lst (near.map aO))::("sums",.lst (sums.map aj))::jP ends texts words room ai aB width) W [] (sS 12) K:=by
 have hlim:lim=1048576:=by decide
 refine ob2_1 yp.fn λQa Kz N_=>ob2_1 KZ.fn λR7 PC RJ=>?_
 refine XS.M_ (ps:=[]) (q:=aU (rows 0)) .nil (λa=>?_) (AV.I7 (by kernel_rfl)) (AV.I7 (by kernel_rfl)) (λa ha=>?_)
 ·rw [h0]
  refine (EV.fT (L:=[110,97,98,99,100]) (enc:=λc:Nat=>.str ⟨#[c]⟩) (λc=>[("sign",.str ⟨#[c]⟩)]) (λc=>.str ("."++⟨#[c]⟩)) (by kernel_rfl) (IV.str (x:="nabcd") EV.bP (by decide +kernel)) (by intro a;exact ao) (λx z! cl cs s0 X W' ak=>AV.nm (by kernel_rfl))
   (λc hc cl cs s0 X W' ak=>EV.mW EV.bP (EV.name rfl) ?_) (by show 5<=lim;exact jG hlim)).conv rfl
  rw [S3];show 1+1<=lim;exact HM hlim
 refine XS.loop (τ:=Nat) (xs:=(SD 5).map aj) (λi z=>z=i) (λz! => False) (λz=>("written",.raw (.ref a))::("rows",aU (rows z))::("near",.lst (near.map aO))::("sums",.lst (sums.map aj))::jP ends texts words room ai aB width) (λz=>[Res.lst a (((SD z).map folded).map aU)])
  (λp z=>("first",p)::("written",.raw (.ref a))::("rows",aU (rows z))::("near",.lst (near.map aO))::("sums",.lst (sums.map aj))::jP ends texts words room ai aB width) 0 (IV.dS (m:=5) (EV.blt rfl ok.range.1 ok.range.2) EV.aE (by decide)) rfl (λx p h=>h) rfl (λz! => rfl)
  (λkk p z s₁ hp hz=>AV.nm (by kernel_rfl)) (λkk p z s₁ hp hz=>?_) (λz hz=>?_)
 ·subst hz
  refine ob0_2 (lg hp) λNn ep=>?_
  subst ep
  have T:=ht z Nn
  have hend:ends[z]? = some (ends.getD z ""):=by
   rw [S2]
   have:ends[z]? = some ends[z]:=SW (by exact Su Nn (SI (Eq.symm h5)))
   rw [this];rfl
  refine ob1_4 T.M3 λS hS NU Rp hSr=>?_
  refine XS.asg (p:=aU (folded z)) (EV.q_ (EV.glob rfl ok.rows) N_ (T.fold n) (by show n+10<=n+10;exact Sz _) (aW.cons (EV.qJ (c:=decide (z=0)) (TV.Px (EV.name rfl) (EV.aE (i:=(0:Nat))) rfl) (λh=>(EV.name rfl).conv ?_) (λh=>(EV.aE (i:=(0:Nat))).conv ?_))
   (aW.cons (EV.name rfl) (aW.cons (EV.name rfl) (aW.cons (EV.name rfl) (aW.cons (EV.qT (f:=gr) (EV.name rfl) ((EV.gX (EV.blt rfl ok.max.1 ok.max.2) (.cons (EV.aE (i:=(0:Nat))) (.cons (EV.sub (EV.name rfl) (EV.aE (i:=(1:Nat)))) .nil)) tu).conv ?_)) (aW.cons (EV.nT (f:=PV.str) (EV.name rfl) (EV.name rfl) hend) .nil))))))) (AV.nm (by kernel_rfl)) ?_
  ·rw [if_pos (of_decide_eq_true h)]
  ·rw [if_neg (of_decide_eq_false h)]
  ·exact congrArg PV.int (uw z 1)
  refine XS.append (p:=aU (folded z)) rfl (EV.name rfl) (by rw [Sq,Sq,TJ];exact HD hlim Nn) ?_
  refine XS.asg (p:=.int (iO z (folded z))) (EV.add (EV.Jc (EV.blt rfl ok.max.1 ok.max.2) (EV.aE (i:=(1:Nat))) (EV.name rfl)) (EV.count (EV.nT (f:=PV.str) (i:=0) (EV.name rfl) EV.aE T.head) EV.bP)) (AV.nm (by kernel_rfl)) ?_
  have hml:=qC (f:=z) (b:=iO z (folded z)) T.r5
  have hms:=sP (f:=z) (b:=iO z (folded z)) T.small
  have hjl:(g_ (ends.getD z "") z (iO z (folded z)) (rows z)).length<=520:=by
   have:=join_le (sep:="\n"++ends.getD z "") (xs:=(cQ z (iO z (folded z)) (rows z)).reverse) (c:=101) λx hx=>hms x (Wr.mp hx)
   have h2:=T.e2
   have h3:("\n"++ends.getD z "").length<=3:=by rw [S3];show 1+_<=3;exact Ce h2
   rw [WN,hml] at this
   unfold g_
   exact Ht this h3
  generalize hb:iO z (folded z)=b at *
  refine XS.e_ (L:=(rows z).zipIdx) (enc:=λx=>.tup [aj x.2,.str x.1]) (λx=>[("row",.str x.1),("k",aj x.2),("behind",.int b),("first",aj z)]) (λx=>.str (if z<x.2/\(x.2:Int)<b then x.1 else "-"++x.1)) (by kernel_rfl)
   (IV.Kn (f:=PV.str) (EV.blt rfl ok.enum.1 ok.enum.2) (EV.name rfl)) (by intro a;exact af rfl (af rfl ao)) (λx z! cl cs s0 X W' ak=>AV.mE (.inl rfl) (.inl rfl))
   (λx hx cl cs s0 X W' ak=>EV.qJ (rY (EV.name rfl) (EV.name rfl) (λz! => EV.name rfl) jL (λz! => jL)) (λh=>(EV.name rfl).conv ?_) (λh=>EV.conv (EV.mW EV.bP (EV.name rfl) ?_) ?_)) (by rw [XM,T.r5];exact jG hlim) (by kernel_rfl) ?_
  ·rw [if_pos]
   refine ob0_2 (TL.mp h) λg1 g2=>?_
   exact ⟨Uy.mp (of_decide_eq_true g1),of_decide_eq_true g2⟩
  ·have hm:x.1∈rows z:=by
    obtain ⟨x1,x2⟩:=x
    have:=List.mem_zipIdx hx
    exact this.2.2▸UW _
   have:=T.small _ hm
   rw [S3];show 1+_<=lim;exact Hj hlim this
  ·rw [if_neg]
   rintro ⟨g1,g2⟩
   rw [decide_eq_true (show (z:Int)<x.2 from Uy.mpr g1),decide_eq_true g2] at h
   cases h
  have e:(rows z).zipIdx.map (λx=>PV.str (if z<x.2/\(x.2:Int)<b then x.1 else "-"++x.1))=(cQ z b (rows z)).map .str:=by unfold cQ;rw [Th];rfl
  rw [e]
  have hsm:∀ l∈S,l.length<=lim:=λl hl=>Sn (Rp l hl) (by exact Hg hlim)
  refine XS.asg (p:=aU S) (EV.Dk (EV.q_ (EV.glob rfl ok.quote) RJ (x9 (n:=0) KZ (x:=g_ (ends.getD z "") z b (rows z)) (by exact Sn hjl (Sv _ _))) (by show 1<=n+10;exact Sv _ _) (aW.cons (EV.join (EV.mW EV.bP (EV.nT (f:=PV.str) (EV.name rfl) (EV.name rfl) hend) ?_) (EV.CA (EV.name rfl) (EV.neg EV.aE) hml) ?_) .nil)) EV.bP (by decide) hS hsm (by exact B9 hlim NU) ?_) (AV.nm (by kernel_rfl)) ?_
  ·have h2:=T.e2;rw [S3];show 1+_<=lim;exact G5 hlim h2
  ·have h2:=T.e2
   have h3:("\n"++ends.getD z "").length<=3:=by rw [S3];show 1+_<=3;exact Ce h2
   have h4:=oi (f:=λx:Str=>x.length) (l:=(cQ z b (rows z)).reverse) (c:=101) λx hx=>hms x (Wr.mp hx)
   rw [WN,hml] at h4 ⊢
   exact GX hlim h3 h4
  ·have:=sF (g_ (ends.getD z "") z b (rows z));exact GU hjl this
  refine XS.e_ (L:=S.reverse) (enc:=PV.str) (λl=>[("line",.str l)]) (λl=>.str (dW l)) (by kernel_rfl) (IV.list (EV.CA (EV.name rfl) (EV.neg EV.aE) NU)) (by intro a;exact ao) (λx z! cl cs s0 X W' ak=>AV.nm (by kernel_rfl))
   (λl hl cl cs s0 X W' ak=>EV.qJ (TV.cmp (EV.IS (i:=1) (EV.name rfl) EV.aE) EV.bP qu) (λh=>(EV.Kf (i:=1) (EV.name rfl) EV.aE).conv ?_) (λh=>(EV.name rfl).conv ?_)) (by rw [WN];exact B9 hlim NU) (by kernel_rfl) ?_
  ·rw [dW,if_pos (of_decide_eq_true h)]
  ·rw [dW,if_neg (of_decide_eq_false h)]
  have e:S.reverse.map (λl=>PV.str (dW l))=(rows (z+1)).map .str:=by rw [hSr,Th];rfl
  rw [e]
  refine XS.nil λs₂ S₂=>⟨_,rfl,?_⟩
  have e:((SD (z+1)).map folded).map aU=((SD z).map folded).map aU++[aU (folded z)]:=by rw [List.range_succ,Ti,Ti];rfl
  rw [e]
  exact S₂.weaken (af rfl (af rfl (af rfl (af rfl (af rfl (af rfl (af rfl (af rfl (af rfl (af rfl (af rfl ao)))))))))))
 ·have hz:z=5:=by
   rcases hz with h | h
   ·rw [h,Sq,TJ]
   ·exact h.elim
  subst hz
  refine XS.freeze (W':=W) (x:="written") rfl (λb hb=>Ss _ hb) ha (λb hb=>Sx.mp hb) ?_
  exact XS.weaken hK (af rfl (af rfl (af rfl (af rfl (af rfl (af rfl ao))))))
end Mine
namespace Mine
open PySem PySem.W PyProof.Rows
variable {G:Glob} {F:Fm} {ρ ρ':List (Str×PV)} {W W':List Addr} {Rs ak Ro:List Res} {s s':Shared} {K:Flow->Shared->Prop} {n:Nat}
noncomputable def iU (g:List Nat) (c:Nat):List Nat:=(SD (g.length+c - 1)).map λk=>((g.take (k+1)).drop (k+1 - c)).sum
noncomputable def bN (cs:List Nat) (i:Nat):List Nat:=(cs.take i).foldl iU [1]
noncomputable def bT (near:List (List Nat)):List Str:=(aQ near 5).map (·.2)
noncomputable def iN (near:List (List Nat)):List Int:=(cy (bT near)).map λc=>Vo c "1"
theorem eZ (near:List (List Nat)):(bT near).length=120:=by
 unfold bT
 rw [Sq,aQ,cM,aQ,cM,aQ,cM,aQ,cM,aQ,cM,aQ]
 rfl
theorem Jl (ok:mZ G) (K0:BX G) {pm code:Value} {A:Around} {s0:Shared} {L:Addr} {near:List (List Nat)} {sums:List Nat} {texts R:List Str} {written:List (List Str)} {width:Nat} {cs:List Nat}
  (An:near.length=5) (hne:∀ e∈near,e.length<=5) (hR:R.length=5) (hcs:R.map (λr=>Vo r ".")=cs.map λc:Nat=>(c:Int)) (hc:∀ c∈cs,1<=c/\c<=5)
  (hg:∀ i,i<=5->(∀ x∈bN cs i,x<=1000000)/\1<=(bN cs i).length/\(bN cs i).length<=11)
  (hchk:((SD 11).map λ(k:Nat)=>(iN near).count (k:Int))=bN cs 5++T4 (11 - (bN cs 5).length) 0)
  (hK:XS G (rO pm code A s0 L (n+10)) [("orders",.lst ((aQ near 5).map fX)),("counts",.lst (cs.map aj)),("written",.lst (written.map aU)),("rows",aU R),("near",.lst (near.map aO)),("sums",.lst (sums.map aj)),("texts",.lst (texts.map .str)),("width",aj width)] W [] (sS 20) K) :
  XS G (rO pm code A s0 L (n+10)) [("written",.lst (written.map aU)),("rows",aU R),("near",.lst (near.map aO)),("sums",.lst (sums.map aj)),("texts",.lst (texts.map .str)),("width",aj width)] W [] (sS 14) K:=by
 have hlim:lim=1048576:=by decide
 refine ob2_1 K0.fn λR8 PD RK=>?_
 have hcl:cs.length=5:=by have:=congrArg Wm hcs;rw [Sq,Sq] at this;exact H8 hR this
 refine XS.e_ (L:=R) (enc:=PV.str) (λr=>[("row",.str r)]) (λr=>.int (Vo r ".")) (by kernel_rfl) (IV.list (EV.name rfl)) (by intro a;exact ao) (λx z! cl cs s0 X W' ak=>AV.nm (by kernel_rfl))
  (λr hr cl cs s0 X W' ak=>EV.count (EV.name rfl) EV.bP) (by exact Cn hR hlim) (by kernel_rfl) ?_
 have e:R.map (λr=>PV.int (Vo r "."))=cs.map aj:=by
  have:=congrArg (List.map PV.int) hcs
  rw [Th,Th] at this
  exact this
 rw [e]
 refine XS.asg (p:=.lst ((aQ near 5).map fX)) ((EV.q_ (EV.glob rfl ok.orders) RK (vK (n:=0) K0 (near:=near) (by exact SI An) hne) (by show 1<=n+10;exact Sv _ _) (aW.cons (EV.name rfl) .nil)).conv (by rw [An])) (AV.nm (by kernel_rfl)) ?_
 have mK:(aQ near 5).length=120:=by have:=eZ near;unfold bT at this;rwa [Sq] at this
 refine XS.Oh (Ls.comp (P:=λys:List Str=>ys.Perm (cy (bT near))) (enc:=PV.str) (λc=>[("code",.str c)]) (λc=>.int (Vo c "1")) (by kernel_rfl)
  (Lq.vB (xs:=bT near) (EV.blt rfl ok.sorted.1 ok.sorted.2) (EV.blt rfl ok.set.1 ok.set.2)
   ((EV.fT (L:=aQ near 5) (enc:=fX) (λo=>[("code",.str o.2),("one",.lst (o.1.map aj))]) (λo=>.str o.2) (by kernel_rfl) (IV.list (EV.name rfl)) (by intro a;exact ao) (λx z! cl cs s0 X W' ak=>AV.mE (.inl rfl) (.inl rfl)) (λo ho cl cs s0 X W' ak=>EV.name rfl) (by exact Cm hlim mK)).conv ?_) ?_ ?_)
  (by intro a;exact ao) (λz! z! x z! cl cs s0 X W' ak=>AV.nm (by kernel_rfl)) (λz! z! c hc cl cs s0 X W' ak=>EV.count (EV.name rfl) EV.bP) ?_) (λys hys=>AV.nm (by kernel_rfl)) λys hys=>?_
 ·unfold bT;rw [Th];rfl
 ·have:=jy (bT near);rw [eZ] at this;exact SN (Sn this (Sv _ _))
 ·rw [eZ];decide
 ·intro ys hys
  have:=hys.length_eq;have:=jy (bT near);rw [eZ] at this;exact HR hlim (by assumption) this
 have hT:∀ k:Nat,(ys.map λc=>Vo c "1").count (k:Int)=(iN near).count (k:Int):=λk=>(hys.map _).count_eq _
 have e:ys.map (λc=>PV.int (Vo c "1"))=(ys.map λc=>Vo c "1").map .int:=by rw [Th];rfl
 rw [e]
 generalize (ys.map λc=>Vo c "1")=turned at *
 refine XS.asg (p:=.lst ((bN cs 0).map aj)) (EV.list (aW.cons (EV.aE (i:=(1:Nat))) .nil) (by show 1<=lim;exact iB hlim)) (AV.nm (by kernel_rfl)) ?_
 refine XS.loop (τ:=List Nat) (xs:=cs.map aj) (λi z=>z=bN cs i) (λz! => False) (λz=>[("growth",.lst (z.map aj)),("turned",.lst (turned.map .int)),("orders",.lst ((aQ near 5).map fX)),("counts",.lst (cs.map aj)),("written",.lst (written.map aU)),("rows",aU R),("near",.lst (near.map aO)),("sums",.lst (sums.map aj)),("texts",.lst (texts.map .str)),("width",aj width)]) (λz! => [])
  (λp z=>[("count",p),("growth",.lst (z.map aj)),("turned",.lst (turned.map .int)),("orders",.lst ((aQ near 5).map fX)),("counts",.lst (cs.map aj)),("written",.lst (written.map aU)),("rows",aU R),("near",.lst (near.map aO)),("sums",.lst (sums.map aj)),("texts",.lst (texts.map .str)),("width",aj width)]) (bN cs 0)
  (IV.list (EV.name rfl)) rfl (λx p h=>h) rfl (λz! => rfl) (λkk p z s₁ hp hz=>AV.nm (by kernel_rfl)) (λkk p z s₁ hp hz=>?_) (λz hz=>?_)
 ·rw [S9] at hp
  refine ob1_2 (Tn.mp hp) λc hq aA=>?_;obtain rfl:=aA
  refine ob1_1 (T3.mp hq) λhk z! => ob0_2 (hc c (U' hq)) λhc1 hc5=>?_
  have hstep:bN cs (kk+1)=iU z c:=by
   rw [hz];unfold bN
   rw [TX,hq,Up,Vk];rfl
  refine ob0_3 (hg kk (by exact Tf (Su hk (SI hcl)))) λg1 g2 g3=>?_
  rw [<- hz] at g1 g2 g3
  rw [hstep]
  refine XS.asg ((EV.fT (L:=SD (z.length+c - 1)) (enc:=aj) (λk=>[("k",aj k),("count",aj c),("growth",.lst (z.map aj))]) (λk=>aj ((z.take (k+1)).drop (k+1 - c)).sum) (by kernel_rfl)
   (IV.dS (EV.blt rfl ok.range.1 ok.range.2) (EV.r9 (EV.eg ((EV.sW (EV.blt rfl ok.len.1 ok.len.2) (EV.name rfl)).conv (by rw [Sq])) (EV.name rfl)) (EV.aE (i:=(1:Nat))) (by exact Nat.le_add_left_of_le hc1)) (by exact HN hc1 hc5 g3))
   (by intro a;exact af rfl (af rfl ao)) (λx z! cl cs s0 X W' ak=>AV.nm (by kernel_rfl))
   (λk hk cl cs s0 X W' ak=>EV.IX (EV.blt rfl ok.sum.1 ok.sum.2) (EV.Cv (f:=aj) (EV.name rfl) ((EV.gX (EV.blt rfl ok.max.1 ok.max.2) (.cons (EV.aE (i:=(0:Nat))) (.cons (EV.sub (EV.eg (EV.name rfl) (EV.aE (i:=(1:Nat)))) (EV.name rfl)) .nil)) tu).conv ?_) (EV.eg (EV.name rfl) (EV.aE (i:=(1:Nat))))) ?_) ?_).conv (q:=.lst ((iU z c).map aj)) ?_) (AV.nm (by kernel_rfl)) (XS.nil λs₂ S₂=>⟨_,rfl,?_⟩)
  ·exact congrArg PV.int (uw _ _)
  ·exact λi hi=>g1 i (VC (VB hi))
  ·rw [TJ];exact HL hlim hc1 hc5 g3
  ·unfold iU;rw [Th];rfl
  ·exact S₂.weaken (af rfl (af rfl (af rfl (af rfl (af rfl (af rfl (af rfl (af rfl (af rfl (af rfl ao))))))))))
 ·have hz:z=bN cs 5:=by
   rcases hz with h | h
   ·rw [h,Sq,hcl]
   ·exact h.elim
  refine ob0_3 (hg 5 (by exact Sz _)) λg1 g2 g3=>?_
  rw [<- hz] at g1 g2 g3 hchk
  have hrep:∀ m:Nat,(T4 m [aj 0]).flatten=(T4 m 0).map aj:=by
   intro m
   induction m with
   | zero=>rfl
   | succ m ih=>rw [UH,VI,ih,UH,S_];rfl
  refine XS.no ((TV.cmp (p:=.lst (((SD 11).map λ(k:Nat)=>turned.count (k:Int)).map aj)) (q:=.lst ((z++T4 (11 - z.length) 0).map aj)) ((EV.fT (L:=SD 11) (enc:=aj) (λk=>[("k",aj k),("turned",.lst (turned.map .int))]) (λk=>aj (turned.count (k:Int))) (by kernel_rfl) (IV.dS (m:=11) (EV.blt rfl ok.range.1 ok.range.2) EV.aE (by decide)) (by intro a;exact af rfl ao) (λx z! cl cs s0 X W' ak=>AV.nm (by kernel_rfl))
    (λk hk cl cs s0 X W' ak=>EV.EO (EV.name rfl) (EV.name rfl)) (by rw [TJ];exact HF hlim)).conv ?_)
   ((EV.rF (EV.name rfl) (EV.mulL (xs:=[aj 0]) (n:=((11 - z.length:Nat):Int)) (EV.list (aW.cons (EV.aE (i:=(0:Nat))) .nil) (by show 1<=lim;exact iB hlim)) (EV.r9 (EV.aE (i:=(11:Nat))) ((EV.sW (EV.blt rfl ok.len.1 ok.len.2) (EV.name rfl)).conv (by rw [Sq])) g3) ?_ ?_ ?_ (by show 1<=16;decide) (by simp)) ?_).conv ?_) (nv (dF.nats (d:=0)).ok (dF.nats (d:=0)).ok)).conv ?_) (XS.weaken hK (af rfl (af rfl (af rfl (af rfl (af rfl (af rfl (af rfl (af rfl ao)))))))))
  ·rw [Th];rfl
  ·exact Xs.mpr (Sn (UI _ _) (by decide:11<=65536))
  ·exact nH
  ·rw [hrep,Sq,List.length_replicate];exact Sn (UI _ _) (by rw [hlim];decide)
  ·rw [hrep,Sq,Sq,List.length_replicate];exact Sn (VL g3 (UI _ _)) (by rw [hlim];decide)
  ·rw [hrep,Ti];rfl
  ·rw [i6 (λa b=>uM),Bool.not_eq_false',decide_eq_true_eq,<- hchk]
   exact Tv λk z! => hT k
end Mine
namespace Mine
open PySem PySem.W PyProof.Rows
variable {G:Glob} {F:Fm} {ρ ρ':List (Str×PV)} {W W':List Addr} {Rs ak Ro:List Res} {s s':Shared} {K:Flow->Shared->Prop} {n:Nat}
noncomputable def bE (near:List (List Nat)):Nat->List (List Nat)
 | 0=>[[]]
 | k+1=>bE near k++((bE near k).filter λone=>decide (one.filter (λi=>decide (i∈near.getD k []))=[])).map λone=>one++[k]
noncomputable def oO (near:List (List Nat)) (f:Nat):Int:=A4 ((bE near 5).map λone=>((one.filter λk=>decide (f<=k)).length:Int))
theorem gM {near:List (List Nat)}:∀ k,(bE near k).length<=2 ^ k/\∀ one∈bE near k,one.length<=k
 | 0=>⟨Sz 1,λone h=>by cases SG.mp h;exact Sz _⟩
 | k+1=>by
  refine ob0_2 (gM (near:=near) k) λh1 h2=>?_
  constructor
  ·rw [bE,SY,Sq,Nat.pow_succ]
   have:=Wy (λone:List Nat=>decide (one.filter (λi=>decide (i∈near.getD k []))=[])) (bE near k)
   exact VL (Nat.le_add_left_of_le h1) (Sn this h1)
  ·intro one h
   rw [bE] at h
   rcases SO.mp h with h | h
   ·have:=h2 one h;exact S5 this
   ·refine ob1_2 (S7.mp h) λo ho aA=>?_;obtain rfl:=aA
    have:=h2 o (W4.mp ho).1
    rw [SY];show o.length+1<=_;exact TZ this
theorem rE {near:List (List Nat)}:∀ k,bE near k≠[]
 | 0=>by simp [bE]
 | k+1=>by rw [bE];intro h;exact rE k (List.append_eq_nil_iff.mp h).1
theorem o6 {α:Type} {f:α->PV} {xs:List α}:(PV.lst (xs.map f)).eqv (.lst [])=decide (xs=[]):=by
 cases xs with
 | nil=>rfl
 | cons x xs=>rfl
noncomputable abbrev gT (near:List (List Nat)) (sums:List Nat) (texts R:List Str) (written:List (List Str)) (width:Nat) (cs:List Nat):List (Str×PV) :=
 [("orders",.lst ((aQ near 5).map fX)),("counts",.lst (cs.map aj)),("written",.lst (written.map aU)),("rows",aU R),("near",.lst (near.map aO)),("sums",.lst (sums.map aj)),("texts",.lst (texts.map .str)),("width",aj width)]
theorem Jk (ok:mZ G) {pm code:Value} {A:Around} {s0:Shared} {L:Addr} {near:List (List Nat)} {sums:List Nat} {texts R:List Str} {written:List (List Str)} {width:Nat} {cs:List Nat}
  (An:near.length=5) (hw:written.length=5) (hchk:written.map (λr=>(r.length:Int))=(SD 5).map (oO near))
  (hK:XS G (rO pm code A s0 L n) (gT near sums texts R written width cs) W [] (sS 24) K) :
  XS G (rO pm code A s0 L n) (gT near sums texts R written width cs) W [] (sS 20) K:=by
 have hlim:lim=1048576:=by decide
 have pw:∀ k,k<=5->(bE near k).length<=32:=λk hk=>Sn (gM k).1 (Nat.pow_le_pow_right (by decide) hk)
 refine XS.asg (p:=.lst ((bE near 0).map aO)) (EV.list (aW.cons (EV.list .nil) .nil) (by show 1<=lim;exact iB hlim)) (AV.nm (by kernel_rfl)) ?_
 refine XS.loop (τ:=List (List Nat)) (xs:=(SD 5).map aj) (λi z=>z=bE near i) (λz! => False) (λz=>("apart",.lst (z.map aO))::gT near sums texts R written width cs) (λz! => [])
  (λp z=>("k",p)::("apart",.lst (z.map aO))::gT near sums texts R written width cs) (bE near 0)
  (IV.dS (m:=5) (EV.blt rfl ok.range.1 ok.range.2) EV.aE (by decide)) rfl (λx p h=>h) rfl (λz! => rfl) (λkk p z s₁ hp hz=>AV.nm (by kernel_rfl)) (λk p z s₁ hp hz=>?_) (λz hz=>?_)
 ·refine ob0_2 (lg hp) λux ep=>?_
  subst ep
  have hg:near[k]? = some (near.getD k []):=by
   rw [S2]
   have:near[k]? = some near[k]:=SW (by exact Su ux (SI (Eq.symm An)))
   rw [this];rfl
  have hstep:bE near (k+1)=z++(z.filter λone=>decide (one.filter (λi=>decide (i∈near.getD k []))=[])).map λone=>one++[k]:=by rw [hz,bE]
  have sZ:z.length<=32:=by rw [hz];exact pw k (by exact Tf ux)
  have mK:∀ one∈z,one.length<=5:=by rw [hz];exact λo ho=>Sn ((gM k).2 o ho) (by exact Tf ux)
  rw [hstep]
  refine XS.asg ((EV.rF (EV.name rfl) (EV.q7 (L:=z) (enc:=aO) (λone=>[("one",aO one),("k",aj k),("near",.lst (near.map aO))]) (λone=>decide (one.filter (λi=>decide (i∈near.getD k []))=[])) (λone=>aO (one++[k])) (by kernel_rfl) (IV.list (EV.name rfl)) (by intro a;exact af rfl (af rfl ao)) (λx z! cl cs s0 X W' ak=>AV.nm (by kernel_rfl))
   (λone ho cl cs s0 X W' ak=>(TV.cmp (p:=.lst ((one.filter λi=>decide (i∈near.getD k [])).map aj)) (EV.q7 (L:=one) (enc:=aj) (λi=>[("i",aj i),("k",aj k),("near",.lst (near.map aO))]) (λi=>decide (i∈near.getD k [])) aj (by kernel_rfl) (IV.list (EV.name rfl)) (by intro a;exact af rfl (af rfl ao)) (λx z! cl cs s0 X W' ak=>AV.nm (by kernel_rfl))
     (λi hi cl cs s0 X W' ak=>(TV.cmp (EV.name rfl) (EV.nT (f:=aO) (EV.name rfl) (EV.name rfl) hg) (CE (dF.int (d:=0)).ok (dF.nats (d:=0)).ok)).conv pH) (λi hi z! cl cs s0 X W' ak=>EV.name rfl) (by have:=mK one ho;exact tV hlim this)) (EV.list .nil) (yh (dF.nats (d:=0)).ok (dF.lst (d:=0) (λx h=>absurd h Tq)).ok)).conv o6)
   (λone ho z! cl cs s0 X W' ak=>(EV.rF (EV.name rfl) (EV.list (aW.cons (EV.name rfl) .nil) (by show 1<=lim;exact iB hlim)) ?_).conv ?_) (by exact Cg hlim sZ)) ?_).conv (q:=.lst ((z++(z.filter λone=>decide (one.filter (λi=>decide (i∈near.getD k []))=[])).map λone=>one++[k]).map aO)) ?_) (AV.nm (by kernel_rfl)) (XS.nil λs₂ S₂=>⟨_,rfl,?_⟩)
  ·have:=mK one ho;rw [Sq];show _+1<=lim;exact HG hlim this
  ·show PV.lst _=PV.lst _;rw [Ti];rfl
  ·have:=Wy (λone:List Nat=>decide (one.filter (λi=>decide (i∈near.getD k []))=[])) z
   rw [Sq,Sq];exact HC hlim sZ this
  ·rw [Ti,Th];rfl
  ·exact S₂.weaken (af rfl (af rfl (af rfl (af rfl (af rfl (af rfl (af rfl (af rfl (af rfl ao)))))))))
 ·have hz:z=bE near 5:=by
   rcases hz with h | h
   ·rw [h,Sq,TJ]
   ·exact h.elim
  have sZ:z.length<=32:=by rw [hz];exact pw 5 (by exact Sz _)
  have mK:∀ one∈z,one.length<=5:=by rw [hz];exact (gM 5).2
  have Qv:z≠[]:=by rw [hz];exact rE 5
  refine XS.e_ (L:=SD 5) (enc:=aj) (λf=>[("first",aj f),("apart",.lst (z.map aO))]) (λf=>.int (A4 (z.map λone=>((one.filter λk=>decide (f<=k)).length:Int)))) (by kernel_rfl) (IV.dS (m:=5) (EV.blt rfl ok.range.1 ok.range.2) EV.aE (by decide)) (by intro a;exact af rfl ao) (λx z! cl cs s0 X W' ak=>AV.nm (by kernel_rfl))
   (λf hf cl cs s0 X W' ak=>EV.gX (EV.blt rfl ok.max.1 ok.max.2) (.cons ((EV.fT (L:=z) (enc:=aO) (λone=>[("one",aO one),("first",aj f)]) (λone=>.int ((one.filter λk=>decide (f<=k)).length:Int)) (by kernel_rfl) (IV.list (EV.name rfl)) (by intro a;exact af rfl ao) (λx z! cl cs s0 X W' ak=>AV.nm (by kernel_rfl))
    (λone ho cl cs s0 X W' ak=>(EV.sW (EV.blt rfl ok.len.1 ok.len.2) (EV.q7 (L:=one) (enc:=aj) (λk=>[("k",aj k),("first",aj f)]) (λk=>decide (f<=k)) aj (by kernel_rfl) (IV.list (EV.name rfl)) (by intro a;exact af rfl ao) (λx z! cl cs s0 X W' ak=>AV.nm (by kernel_rfl))
     (λk hk cl cs s0 X W' ak=>TV.RC (EV.name rfl) (EV.name rfl) rfl) (λk hk z! cl cs s0 X W' ak=>EV.name rfl) (by have:=mK one ho;exact tV hlim this))).conv (by rw [Sq])) (by exact Cg hlim sZ)).conv (q:=.lst ((z.map λone=>((one.filter λk=>decide (f<=k)).length:Int)).map .int)) ?_) .nil) (Er ?_)) (by show 5<=lim;exact jG hlim) (by kernel_rfl) ?_
  ·rw [Th];rfl
  ·intro h;exact Qv (List.map_eq_nil_iff.mp h)
  refine XS.no ((TV.cmp (p:=.lst ((written.map λr=>(r.length:Int)).map .int)) (q:=.lst (((SD 5).map (oO near)).map .int)) ((EV.fT (L:=written) (enc:=aU) (λr=>[("folded",aU r)]) (λr=>.int (r.length:Int)) (by kernel_rfl) (IV.list (EV.name rfl)) (by intro a;exact ao) (λx z! cl cs s0 X W' ak=>AV.nm (by kernel_rfl))
   (λr hr cl cs s0 X W' ak=>(EV.sW (EV.blt rfl ok.len.1 ok.len.2) (EV.name rfl)).conv (by rw [Sq])) (by exact Cn hw hlim)).conv ?_) ((EV.name rfl).conv ?_) (nv (dF.ints (d:=0)).ok (dF.ints (d:=0)).ok)).conv ?_) (XS.weaken hK ?_)
  ·rw [Th];rfl
  ·subst hz;rw [Th];rfl
  ·rw [i6 (λa b=>uN),hchk];simp
  ·exact af rfl (af rfl (af rfl (af rfl (af rfl (af rfl (af rfl (af rfl ao)))))))
end Mine
namespace Mine
open PySem PySem.W PyProof.Rows
variable {G:Glob} {F:Fm} {ρ ρ':List (Str×PV)} {W W':List Addr} {Rs ak Ro:List Res} {s s':Shared} {K:Flow->Shared->Prop} {n:Nat}
noncomputable def gn (one:List Nat) (i:Nat):Nat:=one.getD (if i=0 then 4 else i - 1) 0
noncomputable def ud (near:List (List Nat)) (one:List Nat):List Nat:=(SD 5).filter λi => !decide (min (one.getD i 0) (gn one i)∈near.getD (max (one.getD i 0) (gn one i)) [])
noncomputable def oz (near:List (List Nat)) (one:List Nat):Bool:=decide (one.getD 0 0=0) && (decide (ud near one=[]) && true)
theorem Dw {near:List (List Nat)} {k:Nat}:∀ o∈aQ near k,∀ x∈o.1,x<k:=by
 induction k with
 | zero=>intro o h x hx;rw [aQ] at h;rw [SG.mp h] at hx;exact absurd hx Tq
 | succ k ih =>
  intro o h x hx
  rw [aQ,b_] at h
  refine ob1_2 (SX.mp h) λo' h1 h2=>ob1_2 (S7.mp h2) λp hp aA=>?_;obtain rfl:=aA
  have:=ih o' h1
  simp only [cZ,SO,SG] at hx
  rcases hx with (hx | hx) | hx
  ·have:=this x (VC hx);exact Tu this
  ·exact SN (SI hx)
  ·have:=this x (VB hx);exact Tu this
theorem dF.bool {d:Nat} {b:Bool}:dF d (.bool b):=⟨rfl,rfl,Td _⟩
theorem zE {a b:Bool}:(PV.bool a).eqv (.bool b)=(a == b):=by
 show WV (.bool a) (.bool b)=_
 rw [WV]
theorem at_getD {α:Type} {xs:List α} {i:Nat} (d:α) (h:i<xs.length):xs[i]? = some (xs.getD i d):=by
 rw [S2]
 have:xs[i]? = some xs[i]:=SW h
 rw [this];rfl
theorem mem_getD {α:Type} {xs:List α} {i:Nat} (d:α) (h:i<xs.length):xs.getD i d∈xs:=U' (at_getD d h)
theorem Jj (ok:mZ G) {pm code:Value} {A:Around} {s0:Shared} {L:Addr} {near:List (List Nat)} {sums:List Nat} {texts R:List Str} {written:List (List Str)} {width:Nat} {cs:List Nat}
  (An:near.length=5) (hc5:cs.length=5) (hchk:(!decide ((aQ near 5).filter (λo=>oz near o.1)=[]))=decide (2<yD ((cs.drop 2).map λc:Nat=>(c:Int))))
  (hK:XS G (rO pm code A s0 L n) (gT near sums texts R written width cs) W [] (sS 26) K) :
  XS G (rO pm code A s0 L n) (gT near sums texts R written width cs) W [] (sS 24) K:=by
 have hlim:lim=1048576:=by decide
 have mK:(aQ near 5).length=120:=by have:=eZ near;unfold bT at this;rwa [Sq] at this
 refine XS.uW (L:=aQ near 5) (enc:=fX) (λo=>[("code",.str o.2),("one",aO o.1),("near",.lst (near.map aO))]) (λo=>oz near o.1) (λo=>aO o.1) (by kernel_rfl) (IV.list (EV.name rfl)) (by intro a;exact af rfl ao) (λx z! cl cs s0 X W' ak=>AV.mE (AV.I7 (by kernel_rfl)) (AV.I7 (by kernel_rfl)))
  (λo ho cl cs s0 X W' ak=>u7.one ?_) (λo ho z! cl cs s0 X W' ak=>EV.name rfl) (by exact Cm hlim mK) (by kernel_rfl) ?_
 ·have hl:=uf o ho
  have hlt:=Dw o ho
  obtain ⟨one,cd⟩:=o
  dsimp only at hl hlt ⊢
  have hx:∀ i,i<5->one.getD i 0<5:=λi hi=>hlt _ (mem_getD 0 (by exact Su hi (SI (Eq.symm hl))))
  refine TV.and (TV.Px (EV.nT (f:=aj) (i:=0) (EV.name rfl) EV.aE (at_getD 0 (by exact Cj hl))) (EV.aE (i:=(0:Nat))) rfl) λz! => TV.and ((TV.cmp (p:=.lst ((ud near one).map aj)) (EV.q7 (L:=SD 5) (enc:=aj) (λi=>[("i",aj i),("one",aO one),("near",.lst (near.map aO))]) (λi => !decide (min (one.getD i 0) (gn one i)∈near.getD (max (one.getD i 0) (gn one i)) [])) aj (by kernel_rfl)
   (IV.dS (m:=5) (EV.blt rfl ok.range.1 ok.range.2) EV.aE (by decide)) (by intro a;exact af rfl (af rfl ao)) (λx z! cl cs s0 X W' ak=>AV.nm (by kernel_rfl))
   (λi hi cl cs s0 X W' ak=>?_) (λi hi z! cl cs s0 X W' ak=>EV.name rfl) (by show 5<=lim;exact jG hlim)) (EV.list .nil) (yh (dF.nats (d:=0)).ok (dF.lst (d:=0) (λx h=>absurd h Tq)).ok)).conv o6) λz! => TV.pI
  have Lh:=SQ.mp hi
  have QO:gn one i<5:=by unfold gn;split <;> exact hx _ (by first | decide | exact T_ (UI _ _) Lh)
  have hi0:=hx i Lh
  have e1:∀ (ρ:List (Str×PV)) F W Rs p1 p2 p3 ,ρ.lookup ("i":Str)=some (aj i)->ρ.lookup ("one":Str)=some (aO one)->EV G F ρ W Rs (.Subscript (.Name "one" p1) (.Name "i" p2) p3) (aj (one.getD i 0)) :=
   λρ F W Rs p1 p2 p3 h1 h2=>EV.nT (f:=aj) (EV.name h2) (EV.name h1) (at_getD 0 (by exact Su Lh (SI (Eq.symm hl))))
  have e2:∀ (ρ:List (Str×PV)) F W Rs p1 p2 p3 p4 p5,ρ.lookup ("i":Str)=some (aj i)->ρ.lookup ("one":Str)=some (aO one)->EV G F ρ W Rs (.Subscript (.Name "one" p1) (.BinOp (.Name "i" p2) .Sub (.Constant (.int 1) 0 p3) p4) p5) (aj (gn one i)):=by
   intro ρ F W Rs p1 p2 p3 p4 p5 h1 h2
   unfold gn
   by_cases h0:i=0
   ·rw [if_pos h0]
    refine EV.yU (EV.name h2) (EV.sub (EV.name h1) EV.aE) ?_
    rw [show (i:Int) - 1 = -(((0:Nat):Int)+1) by rw [h0];rfl]
    refine uv (k:=0) (by rw [Sq];exact Cj hl) ?_
    rw [Sq,S9,Nat.sub_zero,hl,at_getD 0 (show 5 - 1<one.length by exact TH (SN (SI (Eq.symm hl))))];rfl
   ·rw [if_neg h0]
    exact EV.nT (f:=aj) (EV.name h2) (EV.r9 (EV.name h1) (EV.aE (i:=(1:Nat))) (by exact Tj (T7 h0))) (at_getD 0 (by exact HB hl Lh))
  refine (TV.cmp (EV.Ng (EV.blt rfl ok.min.1 ok.min.2) (e1 _ _ _ _ _ _ _ rfl rfl) (e2 _ _ _ _ _ _ _ _ _ rfl rfl)) (EV.nT (f:=aO) (EV.name rfl) (EV.Jc (EV.blt rfl ok.max.1 ok.max.2) (e1 _ _ _ _ _ _ _ rfl rfl) (e2 _ _ _ _ _ _ _ _ _ rfl rfl)) (at_getD [] (An.symm▸Nat.max_lt.mpr ⟨hi0,QO⟩))) (yg (dF.int (d:=0)).ok (dF.nats (d:=0)).ok)).conv (by rw [pH])
 refine XS.no ((TV.cmp (EV.cmp (EV.name rfl) (EV.list .nil) (nv (dF.sQ (d:=1) λo z! => dF.nats).ok (dF.lst (d:=0) (λx h=>absurd h Tq)).ok)) (EV.cmp (EV.gX (EV.blt rfl ok.min.1 ok.min.2) (.cons ((EV.qT (f:=aj) (j:=2) (EV.name rfl) EV.aE).conv (q:=.lst (((cs.drop 2).map λc:Nat=>(c:Int)).map .int)) ?_) .nil) (Eo ?_)) EV.aE qt) (nv (dF.bool (d:=0)).ok (dF.bool (d:=0)).ok)).conv ?_) (XS.weaken hK ?_)
 ·rw [Th];rfl
 ·intro h;have:=congrArg Wm h;rw [Sq,T8] at this;simp at this;exact Hz hc5 this
 ·rw [zE,o6,hchk];simp
 ·exact af rfl (af rfl (af rfl (af rfl (af rfl (af rfl (af rfl (af rfl ao)))))))
end Mine
namespace Mine
open PySem PySem.W PyProof.Rows
variable {G:Glob} {F:Fm} {ρ ρ':List (Str×PV)} {W W':List Addr} {Rs ak Ro:List Res} {s s':Shared} {K:Flow->Shared->Prop} {n:Nat}
theorem gC (p:Nat->Bool) (lo hi:Nat):lo<=hi->lo<=bis p lo hi/\bis p lo hi<=hi:=by
 fun_induction bis p lo hi with
 | case1 lo hi h1 h2 ih=>intro h;have:=ih (by exact fO h1);exact HH h1 this
 | case2 lo hi h1 h2 ih=>intro h;have:=ih (by exact Cf h1 h);exact HA h1 this
 | case3 lo hi h1=>intro h;exact And.intro (Sz _) h
noncomputable def CJ (sums:List Nat) (width k i:Nat):Bool:=decide (sums.getD (k+1) 0<=width+sums.getD i 0)
noncomputable def cR (sums:List Nat) (width k:Nat):Nat:=1+k - bis (CJ sums width k) 0 k
noncomputable def DN (sums:List Nat) (width f i:Nat):Bool:=decide (sums.getD f 0+width<sums.getD i 0)
noncomputable def cg (sums:List Nat) (width f:Nat):Nat:=bis (DN sums width f) (f+2) sums.length - 1
noncomputable def fG (sums:List Nat) (width:Nat) (texts:List Str):Nat->List (List Str)
 | 0=>[[]]
 | j+1=>([SP "" ((texts.take (cg sums width (4 - j))).drop (4 - j))]++(fG sums width texts j).getD (cg sums width (4 - j) - (4 - j) - 1) [])::fG sums width texts j
theorem yJ {sums:List Nat} {width:Nat} {texts:List Str}:∀ j,(fG sums width texts j).length=j+1/\∀ x∈fG sums width texts j,x.length<=j
 | 0=>⟨rfl,λx h=>by cases SG.mp h;exact Sz _⟩
 | j+1=>by
  refine ob0_2 (yJ (sums:=sums) (width:=width) (texts:=texts) j) λh1 h2=>?_
  refine ⟨by rw [fG,Tr,h1],λx hx=>?_⟩
  rw [fG] at hx
  rcases Sx.mp hx with rfl | hx
  ·rw [SY,List.length_singleton]
   have:((fG sums width texts j).getD (cg sums width (4 - j) - (4 - j) - 1) []).length<=j:=by
    rw [S2]
    cases e:(fG sums width texts j)[cg sums width (4 - j) - (4 - j) - 1]? with
    | none=>exact Td _
    | some y=>exact h2 y (U' e)
   exact Hv this
  ·have:=h2 x hx;exact S5 this
theorem AN {sums:List Nat} {width f:Nat} (h6:sums.length=6) (hf:f<5):f+1<=cg sums width f/\cg sums width f<=5:=by
 have:=gC (DN sums width f) (f+2) sums.length (by exact Hs h6 hf)
 unfold cg
 exact Hr h6 this
theorem DJ:∀ k:Nat,k<5->(seqIndex? (k:Int) ("nabcd":Str).length).bind (("nabcd":Str).cps[·]?)=some (([110,97,98,99,100]:List Nat).getD k 0):=by decide
theorem Ku:∀ j,j<5->∀ p,([4,3,2,1,0].map aj)[j]? = some p->aj (4 - j)=p:=lD (lD (lD (lD (lD ltZ λp h=>UQ h) λp h=>UQ h) λp h=>UQ h) λp h=>UQ h) λp h=>UQ h
theorem Ji (ok:mZ G) (Fj:mj G) {pm code:Value} {A:Around} {s0:Shared} {L:Addr} {near:List (List Nat)} {sums:List Nat} {texts R:List Str} {written:List (List Str)} {width:Nat} {cs:List Nat}
  (h6:sums.length=6) (QF:texts.length=5) (Ld:∀ t∈texts,t.length<=100) (J':∀ r∈R,Uh r=true) (Jy:∀ r∈written,∀ x∈r,Uh x=true)
  (hchk:R=(SD 5).map λk=>VQ "." (cR sums width k:Int)++⟨#[([110,97,98,99,100]:List Nat).getD k 0]⟩)
  (Eh:written=(fG sums width texts 5).take 5)
  (hK:∀ s' v,St G (rO pm code A s0 L (n+1)) (("leaps",.lst ((fG sums width texts 5).map aU))::("dots",.lst (((SD 5).map (cR sums width)).map aj))::gT near sums texts R written width cs) W [] s'->Rep W s'.heap (.bool true) v->K (.ret v) s') :
  XS G (rO pm code A s0 L (n+1)) (gT near sums texts R written width cs) W [] (sS 26) K:=by
 have hlim:lim=1048576:=by decide
 refine ob2_1 Fj.bl λR9 PE RL=>ob2_1 Fj.br λQa Kz N_=>?_
 have J3:∀ k i e,(sums.map aj)[i]? = some e->wQ G .Lt e (.int ((sums.getD (k+1) 0:Int) - (width:Int))) (!CJ sums width k i):=by
  intro k i e he F ρ W Rs s a b S ra rb
  rw [S9] at he
  refine ob1_2 (Tn.mp he) λq hq aA=>?_;obtain rfl:=aA
  have e:(!CJ sums width k i)=decide ((q:Int)<(sums.getD (k+1) 0:Int) - (width:Int)):=by
   unfold CJ
   rw [S2 (i:=i),hq,<- decide_not]
   exact decide_eq_decide.mpr (Nat.not_le.trans ((Uy (n:=width+q)).symm.trans ((Int.natCast_add width q▸Int.add_comm ↑q ↑width▸Iff.rfl:_↔(q:Int)+width<sums.getD (k+1) 0).trans ⟨Int.lt_sub_right_of_add_lt,Int.add_lt_of_lt_sub_right⟩)))
  rw [e]
  exact jL s a b S ra rb
 have J2:∀ f i e,(sums.map aj)[i]? = some e->wQ G .Lt (aj (sums.getD f 0+width)) e (DN sums width f i):=by
  intro f i e he F ρ W Rs s a b S ra rb
  rw [S9] at he
  refine ob1_2 (Tn.mp he) λq hq aA=>?_;obtain rfl:=aA
  have e:DN sums width f i=decide (((sums.getD f 0+width:Nat):Int)<(q:Int)):=by
   unfold DN
   rw [S2 (i:=i),hq]
   exact Jv.symm
  rw [e]
  exact jL s a b S ra rb
 have hd:∀ k,k<5->cR sums width k<=6:=λk hk=>by
  have:=gC (CJ sums width k) 0 k (by exact Td _)
  unfold cR;exact Ho hk
 refine XS.asg ((EV.fT (L:=SD 5) (enc:=aj) (λk=>[("k",aj k),("sums",.lst (sums.map aj)),("width",aj width)]) (λk=>aj (cR sums width k)) (by kernel_rfl) (IV.dS (m:=5) (EV.blt rfl ok.range.1 ok.range.2) EV.aE (by decide)) (by intro a;exact af rfl (af rfl ao)) (λx z! cl cs s0 X W' ak=>AV.nm (by kernel_rfl))
  (λk hk cl cs s0 X W' ak=>EV.r9 (EV.eg (EV.aE (i:=(1:Nat))) (EV.name rfl)) (EV.q_ (EV.glob rfl ok.bl) RL (KN (n:=0) (lo:=0) (hi:=k) Fj ?_ (J3 k)) (by show 1<=n+1;exact Sv _ _) (aW.cons (EV.name rfl) (aW.cons (EV.sub (EV.nT (f:=aj) (EV.name rfl) (EV.eg (EV.name rfl) (EV.aE (i:=(1:Nat)))) (at_getD 0 ?_)) (EV.name rfl)) (aW.cons (EV.aE (i:=(0:Nat))) (aW.cons (EV.name rfl) .nil))))) ?_) (by show 5<=lim;exact jG hlim)).conv (q:=.lst (((SD 5).map (cR sums width)).map aj)) ?_) (AV.nm (by kernel_rfl)) ?_
 ·have:=SQ.mp hk;rw [Sq];exact G9 h6 this
 ·have:=SQ.mp hk;exact G8 h6 this
 ·have:=gC (CJ sums width k) 0 k (by exact Td _);exact Nat.le_add_left_of_le this.2
 ·rw [Th];rfl
 refine XS.no ((TV.cmp (p:=aU R) (q:=aU R) (EV.name rfl) ((EV.fT (L:=SD 5) (enc:=aj) (λk=>[("k",aj k),("dots",.lst (((SD 5).map (cR sums width)).map aj))]) (λk=>.str (VQ "." (cR sums width k:Int)++⟨#[([110,97,98,99,100]:List Nat).getD k 0]⟩)) (by kernel_rfl) (IV.dS (m:=5) (EV.blt rfl ok.range.1 ok.range.2) EV.aE (by decide)) (by intro a;exact af rfl ao) (λx z! cl cs s0 X W' ak=>AV.nm (by kernel_rfl))
  (λk hk cl cs s0 X W' ak=>EV.mW (EV.DK EV.bP (EV.nT (f:=aj) (x:=cR sums width k) (EV.name rfl) (EV.name rfl) ?_) (by decide) ?_ ?_ ?_) (EV.yT (i:=(k:Int)) EV.bP (EV.name rfl) (DJ k (SQ.mp hk)) ?_ ?_) ?_) (by show 5<=lim;exact jG hlim)).conv ?_) (nv (dF.sQ (d:=0) λr hr=>dF.str (J' r hr)).ok (dF.sQ (d:=0) λr hr=>dF.str (J' r hr)).ok)).conv ?_) ?_
 ·have:=SQ.mp hk
  rw [S9,V9 this];rfl
 ·have:=hd k (SQ.mp hk);exact (Xs (n:=65536)).mpr (Sn this (S1 rfl))
 ·exact nH
 ·have:=hd k (SQ.mp hk)
  show (VQ ⟨#[46]⟩ _).length<=lim
  rw [dz];exact G2 hlim this
 ·exact nH
 ·have:=SQ.mp hk;exact oU (Sn (Tf this) (S1 rfl))
 ·have:=hd k (SQ.mp hk)
  rw [S3]
  show (VQ ⟨#[46]⟩ _).length+1<=lim
  rw [dz];exact GY hlim this
 ·rw [hchk];show PV.lst _=PV.lst _;rw [Th];rfl
 ·rw [i6 (λa b=>uL)];simp
 refine XS.asg (p:=.lst ((fG sums width texts 0).map aU)) (EV.list (aW.cons (EV.list .nil) .nil) (by show 1<=lim;exact iB hlim)) (AV.nm (by kernel_rfl)) ?_
 refine XS.loop (τ:=List (List Str)) (xs:=[4,3,2,1,0].map aj) (λi z=>z=fG sums width texts i) (λz! => False) (λz=>("leaps",.lst (z.map aU))::("dots",.lst (((SD 5).map (cR sums width)).map aj))::gT near sums texts R written width cs) (λz! => [])
  (λp z=>("first",p)::("leaps",.lst (z.map aU))::("dots",.lst (((SD 5).map (cR sums width)).map aj))::gT near sums texts R written width cs) (fG sums width texts 0)
  (by
   have h:span 4 (-1) (-1)=[4,3,2,1,0].map aj:=by
    have e:(Tz 4 (-1) (-1)).toNat=5:=by decide +kernel
    unfold span
    rw [e];rfl
   rw [<- h]
   exact IV.x7 (EV.blt rfl ok.range.1 ok.range.2) EV.aE (EV.neg EV.aE) (EV.neg EV.aE) (by decide) (by decide) (by decide +kernel)) rfl (λx p h=>h) rfl (λz! => rfl) (λkk p z s₁ hp hz=>AV.nm (by kernel_rfl)) (λj p z s₁ hp hz=>?_) (λz hz=>?_)
 ·have Lg:j<5:=(T3.mp hp).1
  cases Ku j Lg p hp
  refine ob0_2 (yJ (sums:=sums) (width:=width) (texts:=texts) j) λsZ O0=>?_
  rw [<- hz] at sZ O0
  have hstep:fG sums width texts (j+1)=[[SP "" ((texts.take (cg sums width (4 - j))).drop (4 - j))]++z.getD (cg sums width (4 - j) - (4 - j) - 1) []]++z:=by rw [fG,hz];rfl
  rw [hstep]
  have Fw:4 - j<5:=by exact SN (UI _ _)
  have O8:j=4 - (4 - j):=by exact GL Lg Fw
  have hb:=AN (width:=width) h6 Fw
  generalize Fv:4 - j=f at *
  have Rd:=gC (DN sums width f) (f+2) sums.length (by exact GH h6 Fv Fw)
  refine XS.asg (p:=aj (cg sums width f)) ((EV.r9 (EV.q_ (EV.glob rfl ok.br) N_ (KI (n:=0) (lo:=f+2) Fj (J2 f)) (by show 1<=n+1;exact Sv _ _) (aW.cons (EV.name rfl) (aW.cons (EV.eg (EV.nT (f:=aj) (EV.name rfl) (EV.name rfl) (at_getD 0 (by exact GB h6 Fv Fw))) (EV.name rfl)) (aW.cons (EV.eg (EV.name rfl) (EV.aE (i:=(2:Nat)))) .nil)))) (EV.aE (i:=(1:Nat))) ?_).conv ?_) (AV.nm (by kernel_rfl)) ?_
  ·rw [Sq];exact Sn (Sv _ _) Rd.1
  ·rw [Sq];rfl
  generalize cg sums width f=r at *
  have Qu:(z.getD (r - f - 1) []).length<=5:=by
   have:=O0 _ (mem_getD [] (show r - f - 1<z.length by exact B5 sZ Fv Fw O8 hb));exact Tf (T_ this Lg)
  with_reducible refine XS.asg (p:=.lst (([[SP "" ((texts.take r).drop f)]++z.getD (r - f - 1) []]++z).map aU)) ?_ (AV.nm (by kernel_rfl)) ?_ ?_ ?_ ?_
  rotate_left 2
  ·rfl
  ·rfl
  ·rfl
  ·with_reducible refine EV.conv (EV.rF (xs:=[aU ([SP "" ((texts.take r).drop f)]++z.getD (r - f - 1) [])]) (ys:=z.map aU) (EV.list (ps:=[aU ([SP "" ((texts.take r).drop f)]++z.getD (r - f - 1) [])]) (aW.cons (EV.conv (EV.rF (xs:=[.str (SP "" ((texts.take r).drop f))]) (ys:=(z.getD (r - f - 1) []).map .str) (EV.list (ps:=[.str (SP "" ((texts.take r).drop f))]) (aW.cons (EV.join (ys:=(texts.take r).drop f) EV.bP (EV.Cv (f:=PV.str) (EV.name ?n1) (EV.name ?n2) (EV.name ?n3)) ?b1 ?j1 ?j2 ?j3 ?j4) .nil) ?b2 ?l1) (EV.nT (f:=aU) (x:=z.getD (r - f - 1) []) (EV.name ?n4) (EV.r9 (EV.r9 (EV.name ?n5) (EV.name ?n6) ?b3) (EV.aE (i:=(1:Nat))) ?b4) (at_getD [] ?b5) ?s1) ?b6) ?b7) .nil) ?b8 ?l2) (EV.name ?n7) ?b9) ?RZ
   case b1 =>
    have h4:=oi (f:=λx:Str=>x.length) (l:=(texts.take r).drop f) (c:=100) λx hx=>Ld x (VC (VB hx))
    have h7:((texts.take r).drop f).length<=5:=by rw [T8,Wt];exact FU QF Fv hb
    have:=V1 100 h7
    show _+_ * 0<=lim
    exact FT hlim h4 h7
   case b2=>show 1<=lim;exact iB hlim
   case b3 =>
    exact SE hb.1
   case b4 =>
    exact FQ Fv hb
   case b5 =>
    exact B5 sZ Fv Fw O8 hb
   case b6 =>
    rw [Sq];show 1+_<=lim;exact FP hlim Qu
   case b7 =>
    show PV.lst _=PV.lst _;rw [Ti];rfl
   case b8=>show 1<=lim;exact iB hlim
   case b9 =>
    rw [Sq];show 1+_<=lim;exact FO hlim Lg sZ
   case RZ =>
    rw [Ti];rfl
   all_goals first | rfl | (intro _ _;rfl)
  ·refine XS.nil λs₂ S₂=>⟨_,rfl,?_⟩
   exact S₂.weaken (af rfl (af rfl (af rfl (af rfl (af rfl (af rfl (af rfl (af rfl (af rfl (af rfl ao))))))))))
 ·have hz:z=fG sums width texts 5:=by
   rcases hz with h | h
   ·rw [h];rfl
   ·exact h.elim
  subst hz
  refine XS.ret ((EV.cmp (p:=.lst (written.map aU)) (q:=.lst (written.map aU)) (EV.name rfl) ((EV.xu (f:=aU) (j:=5) (EV.name rfl) EV.aE).conv (by rw [<- Eh])) (yh (dF.sQ (d:=1) λr hr=>dF.sQ λx hx=>dF.str (Jy r hr x hx)).ok (dF.sQ (d:=1) λr hr=>dF.sQ λx hx=>dF.str (Jy r hr x hx)).ok)).conv ?_) hK
  rw [i6 (λa b=>i6 (λa b=>uL) a b)];simp
end Mine
namespace Mine
open PySem PySem.W PyProof.Rows
noncomputable def piecesOf (ai:Str) (p:Str×Str):List (Str×Str):=if p.2.cps[0]? = some 97 then [(p.1,p.2++ai++";")] else [(p.1,p.2),(ai,";")]
noncomputable def Piece (p:Str×Str):Prop:=(p.1.cps[0]? = none\/p.1.cps[0]? = some 32)/\∃ c,p.2.cps.back? = some c/\(c=59\/(97<=c/\c<=100))
theorem wo {x:Str} {l:List Nat} (h:tl x=l):x=⟨l.toArray⟩:=by
 obtain ⟨a⟩:=x
 have:a.toList=l:=h
 subst this;simp
theorem mul_str {c n:Nat}:VQ ⟨#[c]⟩ (n:Int)=⟨(T4 n c).toArray⟩:=by
 refine wo ?_
 rw [yx]
 simp [tl]
theorem qP {c n:Nat}:(VQ ⟨#[c]⟩ ((n+1:Nat):Int)).cps[0]? = some c:=by
 rw [mul_str];simp
theorem zY {c n:Nat}:(VQ ⟨#[c]⟩ ((n+1:Nat):Int)).cps.back? = some c:=by
 rw [mul_str];simp [Array.back?_eq_getElem?]
theorem nS {x:Str}:(x++";").cps.back? = some 59:=by
 show (x.cps ++ #[59]).back? = some 59
 simp
theorem sI {ys:List (Str×Str)} (h:∀ p∈ys,Piece p) {ch:Nat} (hc:ch=44\/ch=9) (i:Nat):eG ys ch i=false:=by
 have h1:∀ j,((ys.getD j ("","")).1.cps[0]? = none\/(ys.getD j ("","")).1.cps[0]? = some 32)/\((ys.getD j ("","")).2.cps.back? = none\/∃ c,(ys.getD j ("","")).2.cps.back? = some c/\(c=59\/(97<=c/\c<=100))):=by
  intro j
  by_cases hj:j<ys.length
  ·refine ob0_2 (h (ys.getD j ("","")) (mem_getD (α:=Str×Str) ("","") hj)) λh1 h2=>?_
   exact ⟨h1,.inr h2⟩
  ·rw [S2,TY (by exact Ua hj)]
   exact ⟨.inl rfl,.inl rfl⟩
 unfold eG
 have e1:decide ((ys.getD i ("","")).1.cps[0]? = some ch)=false:=by
  rcases (h1 i).1 with e | e <;> rw [e] <;> simp <;> exact Hx hc
 have e2:decide ((ys.getD (i - 1) ("","")).2.cps.back? = some ch)=false:=by
  rcases (h1 (i - 1)).2 with e | ⟨c,e,_⟩ <;> rw [e] <;> simp <;> exact Hw hc (by assumption)
 rw [e1,e2];simp
theorem dR {ys:List (Str×Str)} (h:∀ p∈ys,Piece p) {ch:Nat} (hc:ch=44\/ch=9) (m:Nat):cC ys ch m=none:=fK λj z! z! => sI h hc j
noncomputable def jf (aB:List Nat) (ai:Str):Prop:=(aB=[32]/\ai="")\/(aB=[59]/\ai="")\/(aB=[44,59,32]/\(ai=""\/ai=" "))\/(aB=[9,32]/\ai="")
theorem I0:Vn ⟨#[32]⟩=true:=by decide +kernel
theorem zo {α:Type} (xs:List α) (y:α) (d:α):(xs++[y]).getD xs.length d=y:=by simp [S2]
theorem ED {xs:List (Str×Str)} {z:Str×Str} {aB:List Nat} {ai:Str} (hs:jf aB ai) (hx:∀ p∈xs,Piece p) (hn:xs≠[]) (hl:∀ p,xs.getLast? = some p->p.2.cps.back? = some 59) (hz:Piece z) (hb:z.1.cps[0]? = some 32) :
  findS (xs++[z]) aB=some xs.length:=by
 have hlen:0<xs.length:=V_.mpr hn
 have hall:∀ p∈xs++[z],Piece p:=λp hp=>by
  rcases SO.mp hp with h | h
  ·exact hx p h
  ·cases SG.mp h;exact hz
 have hm:(xs++[z]).length - 1=xs.length:=by simp
 have Kd:cC (xs++[z]) 32 ((xs++[z]).length - 1)=some xs.length:=by
  rw [hm]
  refine dg hlen ?_ (Sz _) (λj h1 h2=>by exact Cd hm h1 h2)
  unfold eG
  rw [zo,hb,I0];rfl
 have Kc:cC (xs++[z]) 59 ((xs++[z]).length - 1)=some xs.length:=by
  rw [hm]
  refine dg hlen ?_ (Sz _) (λj h1 h2=>by exact Cd hm h1 h2)
  unfold eG
  have:(xs++[z]).getD (xs.length - 1) ("","")=xs.getLast hn:=by
   rw [S2,Xv (by exact Cc hlen hm),List.getLast_eq_getElem,SW (by exact Cc hlen hm)];rfl
  rw [this,hl _ (List.getLast?_eq_some_getLast hn)];simp
 rcases hs with ⟨rfl,_⟩ | ⟨rfl,_⟩ | ⟨rfl,_⟩ | ⟨rfl,_⟩
 ·rw [findS,Kd]
 ·rw [findS,Kc]
 ·rw [findS,dR hall (.inl rfl),findS,Kc]
 ·rw [findS,dR hall (.inr rfl),findS,Kd]
end Mine
namespace Mine
open PySem PySem.W PyProof.Rows
theorem MZ:Vn ⟨#[59]⟩=false:=by decide +kernel
theorem EC {xs:List (Str×Str)} {z:Str×Str} {aB:List Nat} {ai:Str} (hs:jf aB ai) (hx:∀ p∈xs,Piece p) (hn:xs≠[]) (hl:∀ p,xs.getLast? = some p->p.2.cps.back? = some 59) (hz:Piece z) (hb:z.1.cps[0]? = some 32)
  (hw:∃ c,z.2.cps.back? = some c/\97<=c) (hi:Piece (ai,";")) :
  findS (xs++[z]++[(ai,(";":Str))]) aB=some xs.length:=by
 have hlen:0<xs.length:=V_.mpr hn
 have hall:∀ p∈xs++[z]++[(ai,(";":Str))],Piece p:=λp hp=>by
  rcases SO.mp hp with h | h
  ·rcases SO.mp h with h | h
   ·exact hx p h
   ·cases SG.mp h;exact hz
  ·cases SG.mp h;exact hi
 have hm:(xs++[z]++[(ai,(";":Str))]).length - 1=xs.length+1:=by simp
 refine ob1_2 hw λcw hcw Bf=>?_
 have g0:(xs++[z]++[(ai,(";":Str))]).getD (xs.length - 1) ("","")=xs.getLast hn:=by
  rw [S2,S4,Xv (by exact Cb hlen),List.getLast_eq_getElem,SW (by exact Cb hlen)];rfl
 have g1:(xs++[z]++[(ai,(";":Str))]).getD xs.length ("","")=z:=by
  rw [S2,S4,Xh (by exact Sz _)];simp
 have g2:(xs++[z]++[(ai,(";":Str))]).getD (xs.length+1) ("","")=(ai,(";":Str)):=by
  rw [S2,S4,Xh (by exact TA _ _)];simp
 have Kd:ai=""->cC (xs++[z]++[(ai,(";":Str))]) 32 ((xs++[z]++[(ai,(";":Str))]).length - 1)=some xs.length:=by
  intro hin
  rw [hm]
  refine dg hlen ?_ (Uw _) (λj h1 h2=>?_)
  ·unfold eG
   rw [g1,hb,I0];rfl
  ·have:j=xs.length+1:=by exact Ub h2 (Tj h1)
   subst this
   unfold eG
   rw [g2,Uk,g1,hcw,hin]
   have:¬ cw=32:=by exact Hl Bf
   simp [this]
   exact λz! => by decide
 have Kc:cC (xs++[z]++[(ai,(";":Str))]) 59 ((xs++[z]++[(ai,(";":Str))]).length - 1)=some xs.length:=by
  rw [hm]
  refine dg hlen ?_ (Uw _) (λj h1 h2=>?_)
  ·unfold eG
   rw [g0,hl _ (List.getLast?_eq_some_getLast hn)];simp
  ·have:j=xs.length+1:=by exact Ub h2 (Tj h1)
   subst this
   unfold eG
   rw [g2,Uk,g1,hcw,MZ]
   have:¬ cw=59:=by exact Hi Bf
   simp [this]
 rcases hs with ⟨rfl,h⟩ | ⟨rfl,h⟩ | ⟨rfl,h⟩ | ⟨rfl,h⟩
 ·rw [findS,Kd h]
 ·rw [findS,Kc]
 ·rw [findS,dR hall (.inl rfl),findS,Kc]
 ·rw [findS,dR hall (.inr rfl),findS,Kd h]
theorem EB {z:Str×Str} {aB:List Nat} {ai:Str} (hs:jf aB ai) (hin:ai="") (hz:Piece z) (hw:∃ c,z.2.cps.back? = some c/\97<=c) (hi:Piece (ai,";")):findS ([z]++[(ai,(";":Str))]) aB=none:=by
 have hall:∀ p∈[z]++[(ai,(";":Str))],Piece p:=λp hp=>by
  rcases SO.mp hp with h | h
  ·cases SG.mp h;exact hz
  ·cases SG.mp h;exact hi
 refine ob1_2 hw λcw hcw Bf=>?_
 have hm:([z]++[(ai,(";":Str))]).length - 1=1:=rfl
 have hj:∀ ch,ch=32\/ch=59->cC ([z]++[(ai,(";":Str))]) ch 1=none:=λch hc=>fK λj h1 h2=>by
  have:j=1:=by exact Ub h2 (Tj h1)
  subst this
  unfold eG
  show (_ && decide (ai.cps[0]? = some ch) || decide (z.2.cps.back? = some ch))=false
  rw [hcw,hin]
  have:¬ cw=ch:=by exact Hh Bf hc
  have e:(("":Str).cps[0]? : Option Nat)=none:=by decide
  simp [this,e]
 refine fJ λch hch=>?_
 rw [hm]
 rcases hs with ⟨rfl,h⟩ | ⟨rfl,h⟩ | ⟨rfl,h⟩ | ⟨rfl,h⟩
 ·exact hj _ (.inl (SG.mp hch))
 ·exact hj _ (.inr (SG.mp hch))
 ·simp at hch
  rcases hch with rfl | rfl | rfl
  ·exact dR hall (.inl rfl) 1
  ·exact hj _ (.inr rfl)
  ·exact hj _ (.inl rfl)
 ·simp at hch
  rcases hch with rfl | rfl
  ·exact dR hall (.inr rfl) 1
  ·exact hj _ (.inl rfl)
theorem EA {z:Str×Str} {aB:List Nat}:findS ([]++[z]) aB=none:=fJ λch z! => rfl
end Mine
namespace Mine
open PySem PySem.W PyProof.Rows
structure Wd (ai:Str) (p:Str×Str):Prop where
 b:p.1.cps[0]? = some 32
 bn:p.1.length≠0
 bl:p.1.length<=2
 wn:p.2.length≠0
 wl:p.2.length<=3
 w:∃ c,p.2.cps.back? = some c/\97<=c/\c<=100
 Nd:Uh p.1=true
 Nc:Uh p.2=true
 f1:∀ c∈tl p.1,c=32
 f2:∀ c∈tl p.2,97<=c/\c<=100
noncomputable def dO (ai:Str):Prop:=ai=""\/ai=" "
theorem jf.ai {aB:List Nat} {ai:Str} (h:jf aB ai):dO ai:=by
 rcases h with ⟨_,h⟩ | ⟨_,h⟩ | ⟨_,h⟩ | ⟨_,h⟩
 ·exact .inl h
 ·exact .inl h
 ·exact h
 ·exact .inl h
theorem g7 {ai:Str} (h:dO ai):Piece (ai,";"):=by
 rcases h with rfl | rfl
 ·exact ⟨.inl (by decide),59,by decide,.inl rfl⟩
 ·exact ⟨.inr (by decide),59,by decide,.inl rfl⟩
theorem Wd.p1 {ai:Str} {p:Str×Str} (h:Wd ai p):Piece (p.1,p.2):=by
 refine ob1_3 h.w λc h1 h2 h3=>?_
 exact ⟨.inr h.b,c,h1,.inr ⟨h2,h3⟩⟩
theorem Wd.p2 {ai:Str} {p:Str×Str} (h:Wd ai p):Piece (p.1,p.2++ai++";"):=⟨.inr h.b,59,nS,.inl rfl⟩
theorem nq {ai:Str} (hi:dO ai) {us:List (Str×Str)} (h:∀ p∈us,Wd ai p):∀ q∈us.flatMap (piecesOf ai),Piece q:=by
 intro q hq
 refine ob1_2 (SX.mp hq) λp hp hq=>?_
 unfold piecesOf at hq
 split at hq
 ·rw [SG.mp hq];exact (h p hp).p2
 ·rcases Sx.mp hq with rfl | hq
  ·exact (h p hp).p1
  ·rw [SG.mp hq];exact g7 hi
theorem vF {ai:Str} (p:Str×Str):piecesOf ai p≠[]:=by unfold piecesOf;split <;> simp
theorem lq {ai:Str} {us:List (Str×Str)} (h:us≠[]):us.flatMap (piecesOf ai)≠[]:=by
 cases us with
 | nil=>exact absurd rfl h
 | cons p us=>rw [Tg];intro e;exact vF p (List.append_eq_nil_iff.mp e).1
theorem jJ {ai:Str} {us:List (Str×Str)}:∀ q,(us.flatMap (piecesOf ai)).getLast? = some q->q.2.cps.back? = some 59:=by
 intro q hq
 rcases WA us with rfl | ⟨vs,v,rfl⟩
 ·cases hq
 ·rw [WB,Ul,Tg,U1,S6] at hq
  unfold piecesOf at hq
  split at hq
  ·rw [List.getLast?_append] at hq
   simp at hq
   subst hq
   exact nS
  ·rw [List.getLast?_append] at hq
   simp at hq
   subst hq
   rfl
theorem aV (w t:Str):av [(w,t)]=w.length+t.length:=by simp [av]
theorem ie {ai:Str} (p:Str×Str):av (piecesOf ai p)=(bf ai p).length:=by
 unfold piecesOf bf
 split
 ·rw [aV];simp only [S3];exact Ca
 ·have:av [(p.1,p.2),(ai,(";":Str))]=av [(p.1,p.2)]+av [(ai,(";":Str))]:=aR [(p.1,p.2)] [(ai,";")]
  rw [this,aV,aV];simp only [S3];exact Eq.symm (UY _ _ _)
noncomputable def gk (mx:Nat) (ai:Str) (z:List Str×Nat×List (Str×Str)) (p:Str×Str):List Str×Nat×List (Str×Str) :=
 if z.2.1+av (z.2.2.flatMap (piecesOf ai))+(bf ai p).length<=mx\/(z.2.2=[]/\z.2.1=0) then (z.1,z.2.1,z.2.2++[p]) else (z.1++[bg (z.2.2.flatMap (piecesOf ai))],0,[p])
noncomputable def wG (ai:Str) (z:List Str×Nat×List (Str×Str)):FS:=(z.1,z.2.1,z.2.2.flatMap (piecesOf ai))
theorem pG {mx:Nat} {aB:Str} {ai:Str} (hs:jf aB.cps.toList ai) {us:List (Str×Str)} (wW:∀ p∈us,Wd ai p) {w t:Str} (hz:Piece (w,t)) (hb:w.cps[0]? = some 32) (hbn:w.length≠0) {k:Nat} {lines:List Str} :
  jd mx aB (lines,k,us.flatMap (piecesOf ai)) w t=if k+av (us.flatMap (piecesOf ai))+(w.length+t.length)<=mx\/(us=[]/\k=0) then (lines,k,us.flatMap (piecesOf ai)++[(w,t)]) else (lines++[bg (us.flatMap (piecesOf ai))],0,[(w,t)]):=by
 have hx:=nq hs.ai wW
 unfold jd wY
 dsimp only
 rw [aR,aV]
 by_cases h1:k+(av (us.flatMap (piecesOf ai))+(w.length+t.length))<=mx
 ·rw [if_pos h1,if_pos (.inl (by exact Hf h1))]
 ·rw [if_neg h1]
  by_cases hu:us=[]
  ·subst hu
   rw [U1,EA]
   dsimp only
   by_cases hk:k=0
   ·subst hk
    rw [if_pos rfl,if_pos (.inr ⟨rfl,rfl⟩)]
   ·rw [if_neg hk,if_neg hbn,if_neg]
    rintro (h | ⟨_,h⟩)
    ·rw [U1] at h1;exact B_ h1 h
    ·exact hk h
  ·rw [ED hs hx (lq hu) jJ hz hb]
   dsimp only
   rw [List.take_left,List.drop_left,if_neg]
   rintro (h | ⟨h,_⟩)
   ·exact B_ h1 h
   ·exact hu h
theorem Dj {mx:Nat} {aB:Str} {ai:Str} (hs:jf aB.cps.toList ai) (QS:ai=" "->7<=mx) {us:List (Str×Str)} (wW:∀ p∈us,Wd ai p) {p:Str×Str} (hp:Wd ai p) {k:Nat} {lines:List Str} (h1:us=[]->k≠0->p.2.cps[0]? = some 97) :
  cN mx aB ai (wG ai (lines,k,us)) p=wG ai (gk mx ai (lines,k,us) p):=by
 have jS:(";":Str).length=1:=rfl
 unfold cN wG
 by_cases hA:p.2.cps[0]? = some 97
 ·rw [if_pos hA,pG hs wW hp.p2 hp.b hp.bn]
  have hl:p.1.length+(p.2++ai++";").length=(bf ai p).length:=by unfold bf;simp only [S3];exact Ca
  have tn:piecesOf ai p=[(p.1,p.2++ai++";")]:=by unfold piecesOf;rw [if_pos hA]
  unfold gk
  dsimp only
  rw [hl]
  split
  ·rw [Ul,Tg,U1,S6,tn]
  ·rw [Tg,U1,S6,tn]
 ·rw [if_neg hA]
  have tn:piecesOf ai p=[(p.1,p.2),(ai,";")]:=by unfold piecesOf;rw [if_neg hA]
  have hl:(bf ai p).length=p.1.length+p.2.length+(ai.length+1):=by unfold bf;simp only [S3];exact G4 jS
  have hk:us=[]->k=0:=λh=>by
   by_cases hk:k=0
   ·exact hk
   ·exact absurd (h1 h hk) hA
  have hi1:ai.length<=1:=by rcases hs.ai with h | h <;> rw [h] <;> decide
  have hw:∃ c,p.2.cps.back? = some c/\97<=c:=by refine ob1_3 hp.w λc g1 g2 z! => ?_;exact ⟨c,g1,g2⟩
  -- a row with Qo PX word: PX Fi OV it
  have second:∀ dX,jd mx aB (dX,0,[(p.1,p.2)]) ai ";"=(dX,0,[(p.1,p.2),(ai,";")]):=by
   intro dX
   unfold jd wY
   dsimp only
   rw [aR,aV,aV]
   by_cases h2:0+(p.1.length+p.2.length+(ai.length+(";":Str).length))<=mx
   ·rw [if_pos h2];rfl
   ·rw [if_neg h2]
    have hin:ai="":=by
     rcases hs.ai with h | h
     ·exact h
     ·exact absurd (Sn (Sn (SI (U5 _)) (VL (VL hp.bl hp.wl) (VL hi1 (SI jS)))) (QS h)) h2
    rw [EB hs hin hp.p1 hw (g7 hs.ai)]
    rfl
  have eY:(k+av (us.flatMap (piecesOf ai))+(bf ai p).length<=mx\/(us=[]/\k=0))->gk mx ai (lines,k,us) p=(lines,k,us++[p]):=λh=>by unfold gk;exact if_pos h
  have eN:¬ (k+av (us.flatMap (piecesOf ai))+(bf ai p).length<=mx\/(us=[]/\k=0))->gk mx ai (lines,k,us) p=(lines++[bg (us.flatMap (piecesOf ai))],0,[p]):=λh=>by unfold gk;exact if_neg h
  rw [pG hs wW hp.p1 hp.b hp.bn]
  dsimp only
  by_cases h2:k+av (us.flatMap (piecesOf ai))+(p.1.length+p.2.length)<=mx\/(us=[]/\k=0)
  ·rw [if_pos h2]
   by_cases hu:us=[]
   ·have hk0:=hk hu
    rw [eY (.inr ⟨hu,hk0⟩)]
    subst hu hk0
    rw [U1,V6,second]
    dsimp only
    rw [Tg,U1,S6,tn]
   ·have hx:=nq hs.ai wW
    unfold jd wY
    dsimp only
    rw [aR,aR,aV,aV,jS]
    by_cases h3:k+(av (us.flatMap (piecesOf ai))+(p.1.length+p.2.length)+(ai.length+1))<=mx
    ·rw [if_pos h3,eY (.inl (by exact G0 hl h3))]
     dsimp only
     rw [Ul,Tg,U1,S6,tn,S4];rfl
    ·rw [if_neg h3,eN (by rintro (h | ⟨h,_⟩);exact GW hl h3 h;exact hu h),EC hs hx (lq hu) jJ hp.p1 hp.b hw (g7 hs.ai)]
     dsimp only
     rw [S4,List.take_left,List.drop_left,Tg,U1,S6,tn];rfl
  ·rw [if_neg h2,second,eN (λh=>h2 (h.imp_left λh=>Sn (Ue (Sn (TA _ (ai.length+1)) (SI hl.symm)) _) h))]
   dsimp only
   rw [Tg,U1,S6,tn]
end Mine
namespace Mine
open PySem PySem.W PyProof.Rows
noncomputable abbrev US:Type:=List Str×Nat×List (Str×Str)
noncomputable def m7 (mx:Nat) (ai:Str) (k:Nat) (ws:List (Str×Str)) (i:Nat):US:=(ws.take i).foldl (gk mx ai) ([],k,[])
structure BU (mx:Nat) (aB:Str) (ai:Str) (k:Nat) (ws:List (Str×Str)):Prop where
 s:jf aB.cps.toList ai
 m:ai=" "->7<=mx
 w:∀ p∈ws,Wd ai p
 n:ws.length<=4
 kb:k<=100
 f:k≠0->∀ p,ws[0]? = some p->p.2.cps[0]? = some 97
theorem iF {mx k i:Nat} {ai:Str} {ws:List (Str×Str)} {p:Str×Str} (h:ws[i]? = some p):m7 mx ai k ws (i+1)=gk mx ai (m7 mx ai k ws i) p:=by
 unfold m7
 rw [TX,h,Up,Vk];rfl
theorem gH {mx k:Nat} {ai:Str} {ws:List (Str×Str)}:∀ i,i<=ws.length->(∀ p∈(m7 mx ai k ws i).2.2,p∈ws)/\(m7 mx ai k ws i).2.2.length<=i/\(m7 mx ai k ws i).1.length<=i/\(m7 mx ai k ws i).2.1<=k/\((m7 mx ai k ws i).2.2=[]->i=0)
 | 0,_=>by
  unfold m7
  exact ⟨λp h=>absurd h Tq,Sz _,Sz _,Sz _,λz! => rfl⟩
 | i+1,h=>by
  refine ob0_5 (gH (mx:=mx) (k:=k) (ai:=ai) (ws:=ws) i (by exact SE h)) λh1 h2 h3 h4 h5=>?_
  have hp:ws[i]? = some ws[i]:=SW (by exact TH (SN h))
  rw [iF hp]
  generalize m7 mx ai k ws i=z at *
  unfold gk
  split
  ·refine ⟨λp hp=>?_,?_,by dsimp only;exact S5 h3,h4,λh=>?_⟩
   ·rcases SO.mp hp with hp | hp
    ·exact h1 p hp
    ·rw [SG.mp hp];exact UW _
   ·rw [SY];show _+1<=_;exact TZ h2
   ·simp at h
  ·refine ⟨λp hp=>?_,by show 1<=_;exact Sv _ _,by rw [SY];show _+1<=_;exact TZ h3,Td _,λh=>by simp at h⟩
   rw [SG.mp hp];exact UW _
theorem Dc {mx k:Nat} {aB ai:Str} {ws:List (Str×Str)} (ok:BU mx aB ai k ws):∀ i,i<=ws.length->vg mx aB ai k ws i=wG ai (m7 mx ai k ws i)
 | 0,_=>by unfold vg m7 wG;rfl
 | i+1,h=>by
  have ih:=Dc ok i (by exact SE h)
  have hp:ws[i]? = some ws[i]:=SW (by exact TH (SN h))
  refine ob0_5 (gH (mx:=mx) (k:=k) (ai:=ai) (ws:=ws) i (by exact SE h)) λh1 h2 h3 h4 h5=>?_
  have e:vg mx aB ai k ws (i+1)=cN mx aB ai (vg mx aB ai k ws i) ws[i]:=by
   unfold vg
   rw [TX,hp,Up,Vk];rfl
  rw [e,ih,iF hp]
  refine Dj ok.s ok.m (λp hp=>ok.w p (h1 p hp)) (ok.w _ (UW _)) λhu hk=>?_
  have hi:=h5 hu
  subst hi
  exact ok.f (λe=>hk (by subst e;exact Nat.le_zero.mp h4)) _ hp
theorem ny {x y:Str} (h1:Uh x=true) (h2:Uh y=true):Uh (x++y)=true:=by
 unfold Uh at *
 show (x.cps++y.cps).all _=true
 rw [Array.all_append,h1,h2];rfl
theorem oR {ai:Str} (h:dO ai):Uh ai=true/\ai.length<=1:=by
 rcases h with rfl | rfl <;> decide +kernel
theorem gI {x:Str} (h:x.length≠0):x≠"":=λe=>h (by rw [e];rfl)
theorem jT {ai:Str} (hi:dO ai) {us:List (Str×Str)} (h:∀ p∈us,Wd ai p):jg (us.flatMap (piecesOf ai)):=by
 intro q hq
 refine ob1_2 (SX.mp hq) λp hp hq=>?_
 have W:=h p hp
 unfold piecesOf at hq
 split at hq
 ·rw [SG.mp hq]
  refine ⟨W.Nd,ny (ny W.Nc (oR hi).1) (by decide +kernel),gI ?_⟩
  rw [S3];show _+1≠0;exact VV _
 ·rcases Sx.mp hq with rfl | hq
  ·exact ⟨W.Nd,W.Nc,gI W.wn⟩
  ·rw [SG.mp hq]
   exact ⟨(oR hi).1,(by decide +kernel:Uh (";":Str)=true),gI (by show (";":Str).length≠0;decide)⟩
theorem ly {ai:Str} (us:List (Str×Str)):(us.flatMap (piecesOf ai)).length<=2 * us.length:=by
 induction us with
 | nil=>exact Sz _
 | cons p us ih =>
  rw [Tg,SY,Tr]
  have:(piecesOf ai p).length<=2:=by unfold piecesOf;split <;> simp
  exact G_ ih this
theorem nZ {ai:Str} (hi:dO ai) {p:Str×Str} (h:Wd ai p):(bf ai p).length<=7:=by
 unfold bf
 have:=h.bl;have:=h.wl;have:=(oR hi).2
 simp only [S3]
 show _+1<=7
 exact G6 (by assumption) (by assumption) this
theorem l9 {ai:Str} (hi:dO ai) {us:List (Str×Str)} (h:∀ p∈us,Wd ai p):av (us.flatMap (piecesOf ai))<=7 * us.length:=by
 induction us with
 | nil=>exact Sz _
 | cons p us ih =>
  rw [Tg,aR,ie,Tr]
  have:=nZ hi (h p (So ..))
  have:=ih λq hq=>h q (Ss _ hq)
  exact B8 (by assumption) this
theorem AD {mx k:Nat} {aB ai:Str} {ws:List (Str×Str)} (ok:BU mx aB ai k ws) {i:Nat} {p:Str×Str} (hp:ws[i]? = some p):Ae mx aB ai (vg mx aB ai k ws i) p:=by
 have hlim:lim=1048576:=by decide
 refine ob1_1 (T3.mp hp) λhi z! => ?_
 have hn:=ok.n
 have hk:=ok.kb
 refine ob0_5 (gH (mx:=mx) (k:=k) (ai:=ai) (ws:=ws) i (by exact Tf hi)) λh1 h2 h3 h4 h5=>?_
 have W:=ok.w p (U' hp)
 rw [Dc ok i (by exact Tf hi)]
 generalize m7 mx ai k ws i=z at *
 obtain ⟨lines,k',us⟩:=z
 dsimp only at h1 h2 h3 h4 h5
 have wW:∀ p∈us,Wd ai p:=λp hp=>ok.w p (h1 p hp)
 have hg:=jT ok.s.ai wW
 have hl:=ly (ai:=ai) us
 have ha:=l9 ok.s.ai wW
 have hil:=(oR ok.s.ai).2
 have Ek:=W.bl
 have hwl:=W.wl
 have jS:(";":Str).length=1:=rfl
 refine ⟨W.wn,?_⟩
 unfold wG
 dsimp only
 split
 ·refine ⟨⟨hg,by dsimp only;exact B6 hi hn h2 hl,?_,by dsimp only;exact w4 hlim hi hn h3⟩,?_⟩
  ·dsimp only;rw [aR,aV,S3,S3];exact GO hlim hi hn hk h2 h4 ha hil Ek hwl jS
  ·rw [S3,S3];exact GK hlim hil hwl jS
 ·refine ⟨⟨hg,by dsimp only;exact B6 hi hn h2 hl,?_,by dsimp only;exact w4 hlim hi hn h3⟩,?_⟩
  ·dsimp only;rw [aR,aV];exact Gx hlim hi hn hk h2 h4 ha Ek hwl
  ·rw [pG ok.s wW W.p1 W.b W.bn]
   have g1:∀ xs:List (Str×Str),jg xs->jg (xs++[(p.1,p.2)]):=λxs h q hq=>by
    rcases SO.mp hq with hq | hq
    ·exact h q hq
    ·rw [SG.mp hq];exact ⟨W.Nd,W.Nc,gI W.wn⟩
   split
   ·refine ⟨g1 _ hg,?_,?_,?_⟩
    ·dsimp only;rw [SY];show _+1+1<=_;exact Gq hi hn h2 hl
    ·dsimp only;rw [aR,aR,aV,aV];exact Gm hlim hi hn hk h2 h4 ha hil Ek hwl jS
    ·dsimp only;exact w4 hlim hi hn h3
   ·refine ⟨g1 [] (λq hq=>absurd hq Tq),?_,?_,?_⟩
    ·dsimp only;show 1+1<=_;exact Sv _ _
    ·dsimp only;rw [aR,aV,aV];exact Gf hlim hil Ek hwl jS
    ·dsimp only;rw [SY];show _+1+1<=_;exact Gd hlim hi hn h3
end Mine
namespace Mine
open PySem PySem.W PyProof.Rows
theorem fu (r:Str):tl ("-"++r)=45::tl r:=by rw [aN];rfl
theorem rX (r:Str):tl ("."++r)=46::tl r:=by rw [aN];rfl
theorem qD (r:Str):dW ("-"++r)=r:=by
 have hl:1<=("-"++r).length:=by rw [<- aM,fu];simp
 unfold dW
 rw [if_pos]
 ·refine gf ?_
  rw [mF hl,fu];rfl
 ·refine gf ?_
  rw [gS hl,fu];rfl
theorem sR {r:Str} (h:(tl r).head? = some 46):dW r=r:=by
 have hl:1<=r.length:=by
  rw [<- aM]
  cases e:tl r with
  | nil=>rw [e] at h;cases h
  | cons a t=>simp
 unfold dW
 rw [if_neg]
 intro e
 have:=congrArg tl e
 rw [gS hl] at this
 cases e2:tl r with
 | nil=>rw [e2] at h;cases h
 | cons a t =>
  rw [e2] at h this
  cases h
  have h2:[46]=[45]:=this
  exact absurd h2 (by decide)
structure j6 (r:Str):Prop where
 h:(tl r).head? = some 46
 OP:10∉tl r
 OO:13∉tl r
 l:r.length<=99
theorem j6.line {r:Str} (h:j6 r):jF r:=⟨λe=>(by have:=h.h;rw [e] at this;cases this),h.OP,h.OO⟩
theorem j6.dash {r:Str} (h:j6 r):jF ("-"++r):=by
 refine ⟨by rw [fu];simp,?_,?_⟩
 ·rw [fu];intro hm;exact (Sx.mp hm).elim (λe=>absurd e (by decide)) h.OP
 ·rw [fu];intro hm;exact (Sx.mp hm).elim (λe=>absurd e (by decide)) h.OO
noncomputable def oN (f:Nat) (b:Int) (rows:List Str):List Str:=rows.zipIdx.map λx=>if f<x.2/\(x.2:Int)<b then "."++x.1 else x.1
theorem vP {rows:List Str} (h5:rows.length=5) (hr:∀ r∈rows,j6 r) {f:Nat} {b:Int} {e:Str} (he:nW e) :
  ∃ S:List Str,V3 (quoted (g_ e f b rows)) "\r\n\r\n"=S/\S.length=5/\(∀ l∈S,l.length<=101)/\oN f b rows=S.reverse.map dW:=by
 have hmem:∀ x∈rows.zipIdx,j6 x.1:=λx hx=>by
  obtain ⟨a,i⟩:=x
  have:=List.mem_zipIdx hx
  exact hr _ (this.2.2▸UW _)
 have zb:∀ l∈cQ f b rows,jF l/\l.length<=100:=λl hl=>by
  unfold cQ at hl
  refine ob1_2 (S7.mp hl) λx hx aA=>?_;obtain rfl:=aA
  have R:=hmem x hx
  have:=R.l
  split
  ·exact ⟨R.line,by exact S5 this⟩
  ·exact ⟨R.dash,by rw [S3];show 1+_<=_;exact G7 this⟩
 have JD:∀ l∈(cQ f b rows).reverse,jF l:=λl hl=>(zb l (Wr.mp hl)).1
 have hml:=qC (f:=f) (b:=b) h5
 have hdl:∀ l,(iu l).length<=l.length+1:=λl=>by
  rw [<- aM,kg]
  split
  ·rw [Tr,aM];exact Sz _
  ·rw [aM];exact TA _ _
 refine ⟨(cQ f b rows).reverse.map iu,?_,by rw [Sq,WN,hml],λl hl=>?_,?_⟩
 ·unfold g_
  rw [qj he JD]
  refine kY (h:=13) (t:=[10,13,10]) rfl ?_ (λp hp=>?_) ?_
  ·intro h;have:=congrArg Wm h;rw [Sq,WN,hml] at this;cases this
  ·refine ob1_2 (S7.mp hp) λl hl aA=>?_;obtain rfl:=aA
   have L:=JD l hl
   rw [kg]
   split
   ·intro hm;exact (Sx.mp hm).elim (λe=>absurd e (by decide)) L.2.2
   ·exact L.2.2
  ·have hc:∀ c∈tl "\r\n\r\n",c<256:=by
    show ∀ c∈[13,10,13,10],c<256
    decide
   rw [qI hc]
   exact qH _
 ·refine ob1_2 (S7.mp hl) λl' hl' aA=>?_;obtain rfl:=aA
  have:=(zb l' (Wr.mp hl')).2
  have:=hdl l'
  exact Sn this (TZ (by assumption))
 ·rw [<- List.map_reverse,List.reverse_reverse,Th]
  unfold oN cQ
  rw [Th]
  refine Tv λx hx=>?_
  have R:=hmem x hx
  show _=dW (iu (if f<x.2/\(x.2:Int)<b then x.1 else "-"++x.1))
  by_cases hc:f<x.2/\(x.2:Int)<b
  ·rw [if_pos hc,if_pos hc]
   have e:iu x.1="."++x.1:=by unfold iu;rw [if_pos R.h]
   rw [e,sR (by rw [rX];rfl)]
  ·rw [if_neg hc,if_neg hc]
   have e:iu ("-"++x.1)="-"++x.1:=by unfold iu;rw [if_neg];rw [fu];intro h;cases h
   rw [e,qD]
end Mine
namespace Mine
open PySem PySem.W PyProof.Rows
noncomputable def rowOf (ai:Str) (us:List (Str×Str)):Str:=bg (us.flatMap (piecesOf ai))
theorem ji (ai:Str):∀ us:List (Str×Str),tl (rowOf ai us)=us.flatMap λp=>tl (bf ai p)
 | []=>rfl
 | p::us=>by
  have ih:=ji ai us
  unfold rowOf bg bG at ih ⊢
  rw [eK] at ih ⊢
  rw [Tg,Ti,Ul,ih,Tg]
  congr 1
  unfold piecesOf bf
  split
  ·simp [aN]
  ·simp [aN]
noncomputable def Plain (c:Nat):Prop:=c=32\/c=59\/(97<=c/\c<=100)
theorem m8 {ai:Str} (hi:dO ai) {p:Str×Str} (h:Wd ai p):∀ c∈tl (bf ai p),Plain c:=by
 intro c hc
 unfold bf at hc
 rw [aN,aN,aN] at hc
 rcases SO.mp hc with hc | hc
 ·rcases SO.mp hc with hc | hc
  ·rcases SO.mp hc with hc | hc
   ·exact .inl (h.f1 c hc)
   ·exact .inr (.inr (h.f2 c hc))
  ·rcases hi with rfl | rfl
   ·exact absurd hc Tq
   ·exact .inl (SG.mp hc)
 ·exact .inr (.inl (SG.mp hc))
theorem vD {ai:Str} (hi:dO ai) {us:List (Str×Str)} (h:∀ p∈us,Wd ai p):∀ c∈tl (rowOf ai us),Plain c:=by
 intro c hc
 rw [ji] at hc
 refine ob1_2 (SX.mp hc) λp hp hc=>?_
 exact m8 hi (h p hp) c hc
theorem ua {ai:Str} (hi:dO ai) {us:List (Str×Str)} (h:∀ p∈us,Wd ai p):(rowOf ai us).length<=7 * us.length:=by
 rw [<- aM,ji]
 induction us with
 | nil=>exact Sz _
 | cons p us ih =>
  rw [Tg,SY,aM,Tr]
  have:=nZ hi (h p (So ..))
  have:=ih λq hq=>h q (Ss _ hq)
  exact B8 (by assumption) this
theorem pY {mx k:Nat} {ai:Str} {ws:List (Str×Str)} (hw:∀ p∈ws,Wd ai p) (hn:ws.length<=4):∀ i,i<=ws.length->∀ l∈(m7 mx ai k ws i).1,∃ us,l=rowOf ai us/\(∀ p∈us,Wd ai p)/\us.length<=4
 | 0,_=>λl hl=>by unfold m7 at hl;exact absurd hl Tq
 | i+1,h=>by
  have ih:=pY (mx:=mx) (k:=k) hw hn i (by exact SE h)
  refine ob0_5 (gH (mx:=mx) (k:=k) (ai:=ai) (ws:=ws) i (by exact SE h)) λh1 h2 h3 h4 h5=>?_
  have hp:ws[i]? = some ws[i]:=SW (by exact TH (SN h))
  rw [iF hp]
  generalize m7 mx ai k ws i=z at *
  unfold gk
  split
  ·exact ih
  ·intro l hl
   rcases SO.mp hl with hl | hl
   ·exact ih l hl
   ·exact ⟨z.2.2,SG.mp hl,λp hp=>hw p (h1 p hp),by exact G1 hn h h2⟩
noncomputable def cV (mx:Nat) (ai:Str) (k:Nat) (ws:List (Str×Str)):List Str:=(m7 mx ai k ws ws.length).1++[rowOf ai (m7 mx ai k ws ws.length).2.2]
theorem xw {mx k:Nat} {ai:Str} {ws:List (Str×Str)} (hw:∀ p∈ws,Wd ai p) (hn:ws.length<=4):(cV mx ai k ws).length<=5/\∀ l∈cV mx ai k ws,∃ us,l=rowOf ai us/\(∀ p∈us,Wd ai p)/\us.length<=4:=by
 refine ob0_5 (gH (mx:=mx) (k:=k) (ai:=ai) (ws:=ws) ws.length (Sz _)) λh1 h2 h3 h4 h5=>?_
 unfold cV
 refine ⟨by rw [SY];show _+1<=5;exact TZ (Sn h3 hn),λl hl=>?_⟩
 rcases SO.mp hl with hl | hl
 ·exact pY hw hn _ (Sz _) l hl
 ·exact ⟨_,SG.mp hl,λp hp=>hw p (h1 p hp),by exact Sn h2 hn⟩
end Mine
namespace Mine
open PySem PySem.W PyProof.Rows
variable {G:Glob} {K:Frag}
theorem sH {c:Nat} (h:Plain c):c≠10/\c≠13:=by
 rcases h with rfl | rfl | h
 ·decide
 ·decide
 ·exact G3 h
theorem zG {e:Str} (he:nW e):∃ h t,tl e=h::t/\(h=10\/h=13)/\e.length<=2/\(e.length == 0)=false/\(∀ c∈tl e,c<256):=by
 rcases he with rfl | rfl | rfl
 ·exact ⟨10,[],rfl,.inl rfl,by decide,by decide,by show ∀ c∈[10],c<256;decide⟩
 ·exact ⟨13,[],rfl,.inr rfl,by decide,by decide,by show ∀ c∈[13],c<256;decide⟩
 ·exact ⟨13,[10],rfl,.inr rfl,by decide,by decide,by show ∀ c∈[13,10],c<256;decide⟩
theorem A2 {x:Str} (h:59∈tl x):Vn x=false:=by
 unfold Vn
 have:x.cps.all Unicode.isSpace=false:=by
  rw [Array.all_eq_false]
  refine ob1_1 (List.getElem_of_mem h) λi az=>ob1_1 az λhi e=>?_
  have hi':i<x.cps.size:=by rw [aM] at hi;exact hi
  refine ⟨i,hi',?_⟩
  have e':x.cps[i]=59:=e
  rw [e']
  decide +kernel
 rw [this,Bool.and_false]
theorem AH {ai:Str} {us:List (Str×Str)} (h:us≠[]):59∈tl (rowOf ai us):=by
 rw [ji]
 cases us with
 | nil=>exact absurd rfl h
 | cons p us =>
  refine SX.mpr ⟨p,So ..,?_⟩
  unfold bf
  rw [aN]
  exact SO.mpr (.inr (SG.mpr rfl))
theorem Bl (ok:fh G K) (yp:wM G) {mx k:Nat} {aB ai e:Str} {ws:List (Str×Str)} (W:BU mx aB ai k ws) (hws:ws≠[]) (he:nW e) (oW:aB.cps.all (· < 128)=true) (hs:aB.length<=16) (m:Nat) :
  FC G BR (m+10) [aj k,aj mx,.str aB,.str ai,.lst (ws.map gr),.str e] (aU (cV mx ai k ws)):=by
 have hlim:lim=1048576:=by decide
 refine ob2_5 (zG he) λh t QZ hh hel NL Q7=>ob0_2 (xw (mx:=mx) (k:=k) W.w W.n) λFt y9=>ob0_5 (gH (mx:=mx) (k:=k) (ai:=ai) (ws:=ws) ws.length (Sz _)) λh1 h2 h3 h4 h5=>?_
 have hz:=Dc W ws.length (Sz _)
 have hn:=W.n
 have hkb:=W.kb
 have hwl:0<ws.length:=V_.mpr hws
 have hsum:((cV mx ai k ws).map (·.length)).sum<=(cV mx ai k ws).length * 28:=oi (f:=λx:Str=>x.length) λl hl=>by
  refine ob1_3 (y9 l hl) λus aC g1 g2=>?_;obtain rfl:=aC
  have:=ua W.s.ai g1;exact B7 g2 this
 have Ec:∀ l∈cV mx ai k ws,l.length<=28:=λl hl=>by
  refine ob1_3 (y9 l hl) λus aC g1 g2=>?_;obtain rfl:=aC
  have:=ua W.s.ai g1;exact B7 g2 this
 have hjl:=join_le (sep:=e) (xs:=cV mx ai k ws) Ec
 have hsplit:V3 (SP e (cV mx ai k ws)) e=cV mx ai k ws:=by
  refine kY QZ (by unfold cV;simp) (λl hl hm=>?_) (by rw [qI Q7];exact qH _)
  refine ob1_3 (y9 l hl) λus aC g1 g2=>?_;obtain rfl:=aC
  have:=sH (vD W.s.ai g1 h hm)
  rcases hh with rfl | rfl
  ·exact this.1 rfl
  ·exact this.2 rfl
 have O9:(SP e (cV mx ai k ws)).length<=1000:=by
  have:(cV mx ai k ws).length * (28+e.length)<=5 * 30:=X8 Ft (by exact GS hel)
  exact GQ hjl this
 have hmul:(cV mx ai k ws).length * e.length<=5 * 2:=X8 Ft hel
 have y_:=qp (SP e (cV mx ai k ws)) e
 have hsl:sizeLine ≥ 100000:=by rw [Xm];exact Sv _ _
 unfold cV at Ft hsum hjl hsplit O9 hmul y_ Ec ⊢
 generalize m7 mx ai k ws ws.length=z at *
 obtain ⟨lines,k',us⟩:=z
 dsimp only at *
 have wW:∀ p∈us,Wd ai p:=λp hp=>W.w p (h1 p hp)
 have JA:us≠[]:=λhu=>absurd (h5 hu) (Vv hwl)
 have ha:=l9 W.s.ai wW
 have hpl:=ly (ai:=ai) us
 refine AL (k:=k) (mx:=mx) (k':=k') (lines:=lines) (xs:=us.flatMap (piecesOf ai)) ok yp oW (by exact GJ hs hlim) (λi p hp=>AD W hp) hz (jT W.s.ai wW) (by exact GD hlim hn h2 hpl) (by exact GA hlim hn hkb h2 h4 ha) (by exact Gz hlim hn h3) (.inr ⟨?_,?_⟩) ?_ NL hsplit (λl hl=>?_) ?_ ?_
 ·cases us with
  | nil=>exact absurd rfl JA
  | cons p us =>
   rw [Tg,aR,ie]
   have:1<=(bf ai p).length:=by unfold bf;rw [S3];show 1<=_+1;exact Sv _ _
   exact Vv (TH (SN (W0 this)))
 ·exact A2 (AH JA)
 ·show ((lines++[rowOf ai us]).map (·.length)).sum+(lines++[rowOf ai us]).length * e.length<=lim
  have:(lines++[rowOf ai us]).length * 28<=5 * 28:=V1 28 Ft
  exact Gu hlim Ft hsum hmul
 ·have:=Ec l hl;exact Gp hlim this
 ·exact tV hlim Ft
 ·show _<=sizeLine
  exact Sn y_ (by exact Gk hsl O9)
end Mine
namespace Mine
open PySem PySem.W PyProof.Rows
theorem ym {c n:Nat} (h:c<200):Uh (VQ ⟨#[c]⟩ (n:Int))=true:=by
 unfold Uh
 rw [mul_str,WJ]
 intro x hx
 have:x∈T4 n c:=by simpa using hx
 rw [Vu this]
 exact decide_eq_true (by exact Su h (Sv _ _))
theorem rW {c n:Nat}:tl (VQ ⟨#[c]⟩ (n:Int))=T4 n c:=by
 rw [mul_str];rfl
theorem kc (ai:Str) {k v:Nat} (hk:k<4):Wd ai (aP k v):=by
 have e1:(aP k v).1=VQ ⟨#[32]⟩ ((v % 2+1:Nat):Int):=by unfold aP;rw [Vw];rfl
 have e2:(aP k v).2=VQ ⟨#[97+k]⟩ ((v / 2 % 3+1:Nat):Int):=by unfold aP;rw [Vw 1 (v / 2 % 3)]
 constructor
 ·rw [e1];exact qP
 ·rw [e1,dz];exact VV _
 ·rw [e1,dz];exact GZ
 ·rw [e2,dz];exact VV _
 ·rw [e2,dz];exact GV
 ·rw [e2];exact ⟨97+k,zY,by exact TA _ _,by exact GR hk⟩
 ·rw [e1];exact ym (by exact SN (Sv _ _))
 ·rw [e2];exact ym (by exact GN hk)
 ·rw [e1,rW];exact λc hc=>Vu hc
 ·rw [e2,rW];exact λc hc=>by rw [Vu hc];exact GI hk
theorem vo {k v:Nat}:(aP k v).2.cps[0]? = some (97+k):=by
 have e2:(aP k v).2=VQ ⟨#[97+k]⟩ ((v / 2 % 3+1:Nat):Int):=by unfold aP;rw [Vw 1 (v / 2 % 3)]
 rw [e2];exact qP
theorem sd (d0:Nat):jf (dB d0).cps.toList (aJ d0):=by
 have h:dB d0=" "\/dB d0=";"\/dB d0=",; "\/dB d0="\t ":=by
  unfold dB
  generalize hm:d0 / 16 % 4=m
  have:m<4:=by exact w5 hm
  match m,this with
  | 0,_=>exact .inl rfl
  | 1,_=>exact .inr (.inl rfl)
  | 2,_=>exact .inr (.inr (.inl rfl))
  | 3,_=>exact .inr (.inr (.inr rfl))
 unfold aJ
 rcases h with h | h | h | h
 ·rw [h];exact .inl ⟨rfl,if_neg (by rintro ⟨h,_⟩;exact absurd (congrArg tl h) (by show ¬ ([32]:List Nat)=[44,59,32];decide))⟩
 ·rw [h];exact .inr (.inl ⟨rfl,if_neg (by rintro ⟨h,_⟩;exact absurd (congrArg tl h) (by show ¬ ([59]:List Nat)=[44,59,32];decide))⟩)
 ·rw [h];exact .inr (.inr (.inl ⟨rfl,by split;exact .inr rfl;exact .inl rfl⟩))
 ·rw [h];exact .inr (.inr (.inr ⟨rfl,if_neg (by rintro ⟨h,_⟩;exact absurd (congrArg tl h) (by show ¬ ([9,32]:List Nat)=[44,59,32];decide))⟩))
theorem yS (d0:Nat):aJ d0=" "->7<=aH d0:=by
 unfold aJ
 split
 ·rename_i h;intro _;exact h.2
 ·intro h;exact absurd (congrArg tl h) (by show ¬ ([]:List Nat)=[32];decide)
theorem tG (d1 k:Nat):nW (jQ d1 k):=by
 unfold jQ
 generalize hm:(d1 / 7+k) % 3=m
 have:m<3:=by exact Co hm
 match m,this with
 | 0,_=>exact .inl rfl
 | 1,_=>exact .inr (.inl rfl)
 | 2,_=>exact .inr (.inr rfl)
theorem nh (d0:Nat):(dB d0).cps.all (· < 128)=true/\(dB d0).length<=16:=by
 unfold dB
 generalize hm:d0 / 16 % 4=m
 have:m<4:=by exact w5 hm
 match m,this with
 | 0,_ | 1,_ | 2,_ | 3,_=>exact ⟨by decide +kernel,by decide +kernel⟩
end Mine
namespace Mine
open PySem PySem.W PyProof.Rows
noncomputable def gU (ai:Str) (ws:List (Str×Str)) (j:Nat):Nat:=((ws.take j).map λp=>(bf ai p).length).sum
theorem sU {ai:Str} {ws:List (Str×Str)} {j:Nat} {p:Str×Str} (h:ws[j]? = some p):gU ai ws (j+1)=gU ai ws j+(bf ai p).length:=by
 unfold gU
 rw [TX,h,Up,Ti,List.sum_append]
 simp
theorem z7 (ai:Str):∀ us:List (Str×Str),av (us.flatMap (piecesOf ai))=(us.map λp=>(bf ai p).length).sum
 | []=>rfl
 | p::us=>by rw [Tg,aR,ie,z7 ai us,S_,XJ]
theorem nF (ai:Str) (ws:List (Str×Str)) {a b:Nat} (h:a<=b):gU ai ws a+(((ws.take b).drop a).map λp=>(bf ai p).length).sum=gU ai ws b:=by
 unfold gU
 have e:ws.take b=ws.take a++(ws.take b).drop a:=by
  have:=Ur a (ws.take b)
  rw [List.take_take,V8 h] at this
  exact this.symm
 conv=>rhs;rw [e,Ti,List.sum_append]
noncomputable def bD (ai:Str) (room:Nat) (ws:List (Str×Str)) (j:Nat):Nat:=if j=0 then 0 else room+gU ai ws (j - 1)
theorem eu {ai:Str} {room:Nat} {ws:List (Str×Str)} (hn:ws.length=4):∀ j,j<6->(bS room (ws.map (bf ai))).getD j 0=bD ai room ws j:=by
 refine ob2_2 (eO hn) λa r1 aA k1=>?_;obtain rfl:=aA
 refine ob2_2 (eO k1) λb r2 aA k2=>?_;obtain rfl:=aA
 refine ob2_2 (eO k2) λc r3 aA k3=>?_;obtain rfl:=aA
 refine ob2_2 (eO k3) λd r4 aA k4=>?_;obtain rfl:=aA
 cases len0 k4
 refine lD (lD (lD (lD (lD (lD ltZ rfl) rfl) rfl) ?_) ?_) ?_
 ·exact UY room _ _
 ·exact (UY (room+_) _ _).trans (UY room _ _)
 ·exact (UY (room+_+_) _ _).trans ((UY (room+_) _ _).trans (UY room _ _))
noncomputable def qS (P:Nat->Nat->Bool) (z:List (Nat×Nat)×Nat) (j:Nat):List (Nat×Nat)×Nat:=if z.2=j\/P j z.2=true then z else (z.1++[(z.2,j)],j)
noncomputable def tB (P:Nat->Nat->Bool) (f i:Nat):List (Nat×Nat)×Nat:=((SD i).map (max 1 f + ·)).foldl (qS P) ([],f)
noncomputable def By (ai:Str) (ws:List (Str×Str)) (r:Nat×Nat):Str:=rowOf ai ((ws.take (r.2 - 1)).drop (r.1 - 1))
theorem iX {P:Nat->Nat->Bool} {f i:Nat}:tB P f (i+1)=qS P (tB P f i) (max 1 f+i):=by
 unfold tB
 rw [List.range_succ,Ti,Vk];rfl
theorem v5 {f i n:Nat} (h:i+1<=n - (f - 1)):1<=max 1 f/\max 1 f+i - 1<n/\f - 1+i=max 1 f+i - 1:=by
 rcases XO f with rfl | h0
 ·exact ⟨Sz 1,by show 1+i - 1<n;rw [U8];exact h,by show 0+i=1+i - 1;rw [U8,U5]⟩
 ·have e:max 1 f=f:=Ws h0
  rw [e]
  have e2:f+i - 1=f - 1+i:=Nat.sub_add_comm h0
  exact ⟨h0,by rw [e2];exact Nat.add_lt_of_lt_sub' h,e2.symm⟩
theorem Oj (r a b l t mx:Nat) (hc:0+a=b) (hs:t=b+l):r+a+l<=mx↔r+t<=mx+0:=by subst hs;subst hc;rw [U5,UY];exact Iff.rfl
theorem Ol (r a b c l t mx:Nat) (hc:c+a=b) (hs:t=b+l):0+a+l<=mx↔r+t<=mx+(r+c):=by
 subst hs;subst hc
 rw [U5,UY,Nat.add_left_comm mx r c,Nat.add_le_add_iff_left,Vw mx c,Nat.add_le_add_iff_left]
theorem Om {s j:Nat} (hs:s<=j) (h0:¬ s=0) (h:j - 1 - (s - 1)=0):s=j:=by exact GG hs h0 h
theorem IU {ai:Str} {room mx f:Nat} {ws:List (Str×Str)} (hn:ws.length=4) (hf:f<5) (hroom:room≠0):∀ i,i<=(ws.drop (f - 1)).length ->
  m7 mx ai (if f=0 then room else 0) (ws.drop (f - 1)) i =
   ((tB (λj s=>decide (bD ai room ws (j+1)<=mx+bD ai room ws s)) f i).1.map (By ai ws),if (tB (λj s=>decide (bD ai room ws (j+1)<=mx+bD ai room ws s)) f i).2=0 then room else 0,
    (ws.take (max 1 f+i - 1)).drop ((tB (λj s=>decide (bD ai room ws (j+1)<=mx+bD ai room ws s)) f i).2 - 1)) /\
   (tB (λj s=>decide (bD ai room ws (j+1)<=mx+bD ai room ws s)) f i).2<=max 1 f+i
 | 0,_=>by
  have hm:max 1 f - 1=f - 1:=by
   rcases XO f with rfl | h0
   ·rfl
   ·rw [Ws h0]
  have:(ws.take (max 1 f+0 - 1)).drop (f - 1)=[]:=Ug (by rw [Nat.add_zero,hm];exact List.length_take_le ..)
  refine ⟨?_,Nat.le_max_right ..⟩
  show (([],if f=0 then room else 0,[]):US)=([],if f=0 then room else 0,(ws.take (max 1 f+0 - 1)).drop (f - 1))
  rw [this]
 | i+1,h=>by
  rw [T8] at h
  refine ob0_2 (IU (ai:=ai) (room:=room) (mx:=mx) hn hf hroom i (by rw [T8];exact SE h)) λih hs=>ob0_3 (v5 h) λhm1 hlt hix=>?_
  have D8:ws[max 1 f+i - 1]? = some (ws[max 1 f+i - 1]'hlt):=SW hlt
  have hp:(ws.drop (f - 1))[i]? = some (ws[max 1 f+i - 1]'hlt):=by rw [List.getElem?_drop,hix,D8]
  rw [iF hp,iX]
  have yZ:=sU (ai:=ai) D8
  have e2:max 1 f+(i+1) - 1=max 1 f+i:=rfl
  have hj1:1<=max 1 f+i:=Sn hm1 (TA ..)
  rw [ih,e2]
  clear ih e2 hp hix h hm1
  generalize ws[max 1 f+i - 1]'hlt=p at *
  show _/\_<=max 1 f+i+1
  generalize tB (λj s=>decide (bD ai room ws (j+1)<=mx+bD ai room ws s)) f i=g at *
  obtain ⟨rs,s⟩:=g
  dsimp only at hs ⊢
  generalize max 1 f+i=j at *
  have Ei:=nF ai ws (Xi hs 1)
  have e1:j - 1+1=j:=UD hj1
  have hlen:(ws.take (j - 1)).length=j - 1:=List.length_take_of_le (Tf hlt)
  rw [e1] at yZ
  have e0:gU ai ws 0=0:=rfl
  have hsum:(if s=0 then room else 0)+av (((ws.take (j - 1)).drop (s - 1)).flatMap (piecesOf ai))+(bf ai p).length<=mx↔bD ai room ws (j+1)<=mx+bD ai room ws s:=by
   rw [z7]
   unfold bD
   rw [if_neg (VV j),Uk]
   by_cases h0:s=0
   ·subst h0
    rw [if_pos rfl,if_pos rfl]
    rw [Nat.zero_sub,e0] at Ei
    exact Oj _ _ _ _ _ _ Ei yZ
   ·rw [if_neg h0,if_neg h0];exact Ol _ _ _ _ _ _ _ Ei yZ
  have J0:((ws.take (j - 1)).drop (s - 1)=[]/\(if s=0 then room else 0)=0)↔s=j:=by
   constructor
   ·rintro ⟨h1,h2⟩
    have:=congrArg Wm h1
    rw [T8,hlen] at this
    by_cases h0:s=0
    ·rw [if_pos h0] at h2;exact absurd h2 hroom
    ·exact Om hs h0 this
   ·rintro rfl
    exact ⟨Ug (List.length_take_le ..),if_neg (Vv hj1)⟩
  have CP:ws.take (j - 1)++[p]=ws.take j:=by
   conv=>rhs;rw [<- e1,TX,D8,Up]
  unfold gk qS
  dsimp only
  by_cases hc:s=j\/bD ai room ws (j+1)<=mx+bD ai room ws s
  ·rw [if_pos (show _\/_ from hc.elim (λh=>.inr (J0.mpr h)) λh=>.inl (hsum.mpr h)),if_pos (show _\/_ from hc.imp id decide_eq_true)]
   refine ⟨?_,S5 hs⟩
   dsimp only
   rw [<- CP,List.drop_append_of_le_length (by rw [hlen];exact Xi hs 1)]
  ·rw [if_neg (show ¬ (_\/_) from λh=>hc (h.elim (λh=>.inr (hsum.mp h)) λh=>.inl (J0.mp h))),if_neg (show ¬ (_\/_) from λh=>hc (h.imp id of_decide_eq_true))]
   refine ⟨?_,Uw j⟩
   dsimp only
   rw [if_neg (Vv hj1),Ti]
   have e3:(ws.take j).drop (j - 1)=[p]:=by
    rw [<- CP,List.drop_append_of_le_length (SI hlen.symm),Ug (SI hlen)];rfl
   rw [e3]
   rfl
end Mine
namespace Mine
open PySem PySem.W PyProof.Rows
noncomputable def o8 (texts:List Str) (r:Nat×Nat):Str:=SP "" ((texts.take r.2).drop r.1)
theorem k9 {ai:Str} {ws:List (Str×Str)} {r:Nat×Nat} (hb:1<=r.2):By ai ws r=o8 (bz ai ws) r:=by
 obtain ⟨a,b⟩:=r
 refine gf ?_
 unfold By o8 bz
 rw [ji,eK]
 dsimp only at hb ⊢
 obtain ⟨b',rfl⟩:∃ b',b=b'+1:=⟨b - 1,by exact Eq.symm (UD hb)⟩
 rw [Uk,List.take_succ_cons,<- XH]
 cases a with
 | zero=>rw [Nat.zero_sub,VK,VK,Tg,List.flatMap_map];rfl
 | succ a=>rw [Uk,List.drop_succ_cons,<- List.map_drop,List.flatMap_map]
noncomputable def iW (P:Nat->Nat->Bool) (f:Nat):List (Nat×Nat):=(tB P f (5 - max 1 f)).1++[((tB P f (5 - max 1 f)).2,5)]
theorem zq {P:Nat->Nat->Bool} {f:Nat}:∀ i,∀ r∈(tB P f i).1,1<=r.2
 | 0=>λr h=>absurd h Tq
 | i+1=>λr h=>by
  rw [iX] at h
  unfold qS at h
  split at h
  ·exact zq i r h
  ·rcases SO.mp h with h | h
   ·exact zq i r h
   ·rw [SG.mp h];show 1<=max 1 f+i;exact W0 (Nat.le_max_left _ _)
theorem xx {ai:Str} {room mx f:Nat} {ws:List (Str×Str)} (hn:ws.length=4) (hf:f<5) (hroom:room≠0) :
  cV mx ai (if f=0 then room else 0) (ws.drop (f - 1))=(iW (λj s=>decide (bD ai room ws (j+1)<=mx+bD ai room ws s)) f).map (o8 (bz ai ws)):=by
 have hl:(ws.drop (f - 1)).length=5 - max 1 f:=by rw [T8];exact GF hn hf
 refine ob0_2 (IU (ai:=ai) (room:=room) (mx:=mx) hn hf hroom (5 - max 1 f) (by rw [hl];exact Sz _)) λh1 z! => ?_
 unfold cV iW
 rw [hl,h1,Ti]
 have h5:max 1 f+(5 - max 1 f) - 1=4:=by exact GC hf
 rw [h5]
 congr 1
 ·exact Tv λr hr=>k9 (zq _ r hr)
 ·rw [S_,VG,<- k9 (r:=(_,5)) (show 1<=5 by decide)]
  rfl
end Mine
namespace Mine
open PySem PySem.W PyProof.Rows
theorem jC (p:Nat->Bool) (lo hi:Nat):lo<=hi->(∀ i j,lo<=i->i<=j->j<hi->p i=true->p j=true) ->
  (∀ i,lo<=i->i<bis p lo hi->p i=false)/\(∀ i,bis p lo hi<=i->i<hi->p i=true):=by
 fun_induction bis p lo hi with
 | case1 lo hi h1 h2 ih =>
  intro _ hm
  refine ob0_2 (ih (by exact fO h1) λi j a b c=>hm i j a b (by exact B4 h1 c)) λg1 g2=>?_
  have hb:=gC p lo ((lo+hi) / 2) (by exact fO h1)
  refine ⟨g1,λi hi1 hi2=>?_⟩
  by_cases h:i<(lo+hi) / 2
  ·exact g2 i hi1 h
  ·exact hm _ i (by exact fO h1) (by exact Ua h) hi2 h2
 | case2 lo hi h1 h2 ih =>
  intro _ hm
  refine ob0_2 (ih (by exact Cf h1 (by assumption)) λi j a b c=>hm i j (by exact B3 h1 a) b c) λg1 g2=>?_
  refine ⟨λi hi1 hi2=>?_,g2⟩
  by_cases h:(lo+hi) / 2+1<=i
  ·exact g1 i h hi2
  ·cases e:p i with
   | false=>rfl
   | true=>exact absurd (hm i ((lo+hi) / 2) hi1 (by exact V4 (UX h)) (by exact Gj h1 (by assumption)) e) h2
 | case3 lo hi h1=>intro _ _;exact ⟨λi h h'=>absurd h' (TP h),λi h h'=>absurd (T_ h h') h1⟩
theorem E2 {p:Nat->Bool} {lo hi r:Nat} (hlo:lo<=r) (hhi:r<=hi) (h1:∀ i,lo<=i->i<r->p i=false) (h2:∀ i,r<=i->i<hi->p i=true):bis p lo hi=r:=by
 have hm:∀ i j,lo<=i->i<=j->j<hi->p i=true->p j=true:=λi j a b c d=>by
  by_cases h:i<r
  ·rw [h1 i a h] at d;cases d
  ·exact h2 j (by exact Gh b h) c
 refine ob0_2 (jC p lo hi (by exact Sn hlo hhi) hm) λg1 g2=>?_
 have hb:=gC p lo hi (by exact Sn hlo hhi)
 by_cases h:bis p lo hi<r
 ·have:=g2 (bis p lo hi) (Sz _) (by exact Su h hhi)
  rw [h1 _ hb.1 h] at this;cases this
 ·by_cases h':r<bis p lo hi
  ·have:=g1 r hlo h'
   rw [h2 r (Sz _) (by exact Su h' hb.2)] at this;cases this
  ·exact Ub (Ua h') (Ua h)
structure Shape (c:Nat->Nat):Prop where
 le:∀ k,k<5->c k<=k
 mono:∀ k,k<4->c k<=c (k+1)
noncomputable abbrev Pc (c:Nat->Nat) (j s:Nat):Bool:=decide (c j<=s)
theorem uD {P Q:Nat->Nat->Bool} (h:∀ j s,j<5->s<j->P j s=Q j s) {f:Nat} (hf:f<5):∀ i,i<=5 - max 1 f->tB P f i=tB Q f i/\(tB Q f i).2<=max 1 f+i
 | 0,_=>⟨rfl,by show f<=max 1 f+0;exact Nat.le_max_right _ _⟩
 | i+1,hi=>by
  refine ob0_2 (uD h hf i (by exact SE hi)) λe hs=>?_
  rw [iX,iX,e]
  generalize tB Q f i=z at *
  have hj:max 1 f+i<5:=by exact Gb hi
  unfold qS
  by_cases hz:z.2=max 1 f+i
  ·rw [if_pos (.inl hz),if_pos (.inl hz)]
   exact ⟨rfl,by exact S5 (SI hz)⟩
  ·rw [h _ z.2 hj (by exact Tw hs hz)]
   refine ⟨rfl,?_⟩
   split
   ·exact S5 hs
   ·show max 1 f+i<=_;exact Uw _
theorem jU {P Q:Nat->Nat->Bool} (h:∀ j s,j<5->s<j->P j s=Q j s) {f:Nat} (hf:f<5):iW P f=iW Q f:=by
 unfold iW
 rw [(uD h hf _ (Sz _)).1]
end Mine
namespace Mine
open PySem PySem.W PyProof.Rows
theorem sV {ai:Str} {ws:List (Str×Str)} {a b:Nat} (h:a<=b):gU ai ws a<=gU ai ws b:=by
 have:=nF ai ws h;exact Gy this
theorem kR {ai:Str} {room:Nat} {ws:List (Str×Str)} {a b:Nat} (h:a<=b):bD ai room ws a<=bD ai room ws b:=by
 unfold bD
 by_cases ha:a=0
 ·rw [if_pos ha];exact Td _
 ·rw [if_neg ha,if_neg (by exact Gw h ha)]
  have:=sV (ai:=ai) (ws:=ws) (show a - 1<=b - 1 by exact Xi h _)
  exact Ue this _
section
variable (ai:Str) (room mx:Nat) (ws:List (Str×Str))
noncomputable def jh (k:Nat):Nat:=bis (λs=>decide (bD ai room ws (k+1)<=mx+bD ai room ws s)) 0 k
theorem pq (k:Nat):(∀ s,s<jh ai room mx ws k->decide (bD ai room ws (k+1)<=mx+bD ai room ws s)=false)/\(∀ s,jh ai room mx ws k<=s->s<k->decide (bD ai room ws (k+1)<=mx+bD ai room ws s)=true):=by
 have:=jC (λs=>decide (bD ai room ws (k+1)<=mx+bD ai room ws s)) 0 k (Td _) (λi j z! h z! hp=>by
  exact decide_eq_true (Sn (of_decide_eq_true hp) (Ue (kR (ai:=ai) (room:=room) (ws:=ws) h) mx)))
 exact ⟨λs hs=>this.1 s (Td _) hs,this.2⟩
theorem BH (k:Nat):jh ai room mx ws k<=k:=(gC _ 0 k (Td _)).2
theorem KH {k s:Nat} (h:s<k):decide (bD ai room ws (k+1)<=mx+bD ai room ws s)=decide (jh ai room mx ws k<=s):=by
 by_cases hc:jh ai room mx ws k<=s
 ·rw [decide_eq_true hc];exact (pq ai room mx ws k).2 s hc h
 ·rw [decide_eq_false hc];exact (pq ai room mx ws k).1 s (by exact UX hc)
theorem kH:Shape (jh ai room mx ws):=by
 refine ⟨λk z! => BH ai room mx ws k,λk z! => ?_⟩
 by_cases h:jh ai room mx ws k<=jh ai room mx ws (k+1)
 ·exact h
 ·exfalso
  have hk:=BH ai room mx ws k
  have h1:=(pq ai room mx ws k).1 (jh ai room mx ws (k+1)) (by exact UX h)
  have h2:=(pq ai room mx ws (k+1)).2 (jh ai room mx ws (k+1)) (Sz _) (by exact Gn h hk)
  have h3:=of_decide_eq_false h1
  have h4:=of_decide_eq_true h2
  have:=kR (ai:=ai) (room:=room) (ws:=ws) (show k+1<=k+1+1 by exact TA _ _)
  exact h3 (Sn this h4)
end
noncomputable def cX (c:Nat->Nat) (k:Nat):List Nat:=(SD k).filter λi=>decide (c k<=i)
noncomputable def aZ (c:Nat->Nat) (f:Nat):Nat:=bis (λi=>decide (f<c (i - 1))) (f+2) 6 - 1
theorem DI {ai:Str} {room mx:Nat} {ws:List (Str×Str)} (hn:ws.length=4) {k:Nat} (hk:k<5):vR mx (bS room (ws.map (bf ai))) k=cX (jh ai room mx ws) k:=by
 unfold vR cX
 refine List.filter_congr λi hi=>?_
 have:=SQ.mp hi
 rw [eu hn _ (by exact UB hk _),eu hn _ (by exact Tu (Su this (Tf hk))),KH ai room mx ws this]
theorem EI {ai:Str} {room mx:Nat} {ws:List (Str×Str)} (hn:ws.length=4) {k:Nat} (hk:k<5):cR (bS room (ws.map (bf ai))) mx k=1+k - jh ai room mx ws k:=by
 unfold cR
 congr 1
 refine E2 (Td _) (BH ai room mx ws k) (λi z! hi=>?_) (λi hi h=>?_)
 ·have:=BH ai room mx ws k
  unfold CJ
  rw [eu hn _ (by exact UB hk _),eu hn _ (by exact Gl hk hi this),KH ai room mx ws (by exact Su hi this)]
  exact decide_eq_false (by exact Nat.not_le_of_lt hi)
 ·unfold CJ
  rw [eu hn _ (by exact UB hk _),eu hn _ (by exact Tu (Su h (Tf hk))),KH ai room mx ws h]
  exact decide_eq_true hi
end Mine
namespace Mine
open PySem PySem.W PyProof.Rows
theorem nR (p q:Nat->Bool) (lo hi:Nat):(∀ i,lo<=i->i<hi->p i=q i)->bis p lo hi=bis q lo hi:=by
 fun_induction bis p lo hi with
 | case1 lo hi h1 h2 ih =>
  intro h
  rw [ih λi a b=>h i a (by exact B4 h1 b)]
  conv=>rhs;rw [bis]
  rw [if_pos h1,if_pos (by rw [<- h _ (by exact fO h1) (by exact kJ h1)];exact h2)]
 | case2 lo hi h1 h2 ih =>
  intro h
  rw [ih λi a b=>h i (by exact B3 h1 a) b]
  conv=>rhs;rw [bis]
  rw [if_pos h1,if_neg (by rw [<- h _ (by exact fO h1) (by exact kJ h1)];exact h2)]
 | case3 lo hi h1=>intro _;rw [bis,if_neg h1]
theorem AM {ai:Str} {room mx:Nat} {ws:List (Str×Str)} (hn:ws.length=4) {f:Nat} (hf:f<5):cg (bS room (ws.map (bf ai))) mx f=aZ (jh ai room mx ws) f:=by
 unfold cg aZ
 rw [fF,Sq,hn]
 congr 1
 refine nR _ _ _ _ λi h1 h2=>?_
 unfold DN
 rw [eu hn _ (by exact Tu hf),eu hn _ (by exact h2)]
 have:=KH ai room mx ws (k:=i - 1) (s:=f) (by exact TH (SN (Nat.le_sub_of_add_le h1)))
 rw [show i - 1+1=i by exact Ge h1] at this
 have h3:=decide_eq_decide.mp this
 exact decide_eq_decide.mpr ⟨λx=>UX λy=>TP (h3.mpr y) (T_ (SI (Vw ..)) x),λx=>T_ (SI (Vw ..)) (UX λy=>TP (h3.mp y) x)⟩
end Mine
namespace Mine
open PySem PySem.W PyProof.Rows
noncomputable def d8 (c:Nat->Nat):Nat->List (List (Nat×Nat))
 | 0=>[[]]
 | j+1=>((4 - j,aZ c (4 - j))::(d8 c j).getD (aZ c (4 - j) - (4 - j) - 1) [])::d8 c j
theorem getD_map' {α β:Type} (g:List α->List β) (hg:g []=[]) (L:List (List α)) (i:Nat):(L.map g).getD i []=g (L.getD i []):=by
 rw [S2,S2,S9]
 cases L[i]? with
 | none=>exact hg.symm
 | some x=>rfl
theorem Jd {sums:List Nat} {mx:Nat} {texts:List Str} {c:Nat->Nat} (h:∀ f,f<5->cg sums mx f=aZ c f):∀ j,fG sums mx texts j=(d8 c j).map λl=>l.map (o8 texts)
 | 0=>rfl
 | j+1=>by
  rw [fG,d8,Jd h j,S_,S_,getD_map' (λl=>l.map (o8 texts)) rfl,h (4 - j) (by exact SN (UI _ _))]
  rfl
noncomputable def jb (c:Nat->Nat) (f k:Nat):Nat:=1+((cX c k).filter λi=>decide (i<f)).length
noncomputable def rowAt (n k:Nat):Str:=VQ "." (n:Int)++⟨#[([110,97,98,99,100]:List Nat).getD k 0]⟩
noncomputable def cu (c:Nat->Nat) (f:Nat):List Str:=(SD 5).map λk=>rowAt (jb c f k) k
theorem cJ (n k:Nat):tl (rowAt n k)=T4 n 46++[([110,97,98,99,100]:List Nat).getD k 0]:=by
 unfold rowAt
 rw [aN]
 show tl (VQ ⟨#[46]⟩ _)++_=_
 rw [rW];rfl
theorem sD (n k:Nat):"."++rowAt n k=rowAt (n+1) k:=by
 refine gf ?_
 rw [rX,cJ,cJ,UH];rfl
theorem x6 {n k:Nat} (hn:1<=n) (hn2:n<=50) (hk:k<5):j6 (rowAt n k):=by
 obtain ⟨m,rfl⟩:∃ m,n=m+1:=⟨n - 1,by exact Eq.symm (UD hn)⟩
 have hl:∀ k,k<5->([110,97,98,99,100]:List Nat).getD k 0≠10/\([110,97,98,99,100]:List Nat).getD k 0≠13:=by decide
 constructor
 ·rw [cJ,UH];rfl
 ·rw [cJ];intro h
  rcases SO.mp h with h | h
  ·have:=Vu h;exact Gs this
  ·exact (hl k hk).1 (SG.mp h).symm
 ·rw [cJ];intro h
  rcases SO.mp h with h | h
  ·have:=Vu h;exact Gr this
  ·exact (hl k hk).2 (SG.mp h).symm
 ·rw [<- aM,cJ,SY,List.length_replicate];show _+1<=_;exact TZ (Sn hn2 (Sv _ _))
end Mine
namespace Mine
open PySem PySem.W PyProof.Rows
theorem Shape.up {c:Nat->Nat} (S:Shape c) {a:Nat}:∀ d,a+d<5->c a<=c (a+d)
 | 0,_=>Sz _
 | d+1,h=>Sn (S.up d (by exact U6 h)) (S.mono (a+d) (by exact TH h))
theorem g5 {c:Nat->Nat} (S:Shape c) {f:Nat} (hf:f<5):f+1<=aZ c f/\aZ c f<=5/\∀ k,f<k->k<5->(k<aZ c f↔c k<=f):=by
 have hb:=gC (λi=>decide (f<c (i - 1))) (f+2) 6 (by exact Tj (UB hf _))
 refine ob0_2 (jC (λi=>decide (f<c (i - 1))) (f+2) 6 (by exact Tj (UB hf _)) (λi j h1 h2 h3 hp=>by
  have:=of_decide_eq_true hp
  have:=S.up (a:=i - 1) (j - i) (by exact Gi h1 h2 h3)
  rw [show i - 1+(j - i)=j - 1 by exact Gg h1 h2] at this
  exact decide_eq_true (Su (of_decide_eq_true hp) this))) λg1 g2=>?_
 unfold aZ
 refine ⟨by exact Nat.le_sub_of_add_le hb.1,by exact Xo hb.2,λk h1 h2=>?_⟩
 by_cases h:k+1<bis (λi=>decide (f<c (i - 1))) (f+2) 6
 ·have:=of_decide_eq_false (g1 (k+1) (by exact Tj (UB h1 _)) h)
  rw [Uk] at this
  exact ⟨λ_=>Ua this,λ_=>Nat.lt_sub_of_add_lt h⟩
 ·have:=of_decide_eq_true (g2 (k+1) (by exact Ua h) (by exact UB h2 _))
  rw [Uk] at this
  exact ⟨λx=>absurd (Nat.add_lt_of_lt_sub x) h,λx=>absurd this (TP x)⟩
theorem qz {c:Nat->Nat} {k i:Nat}:i∈cX c k↔i<k/\c k<=i:=by
 unfold cX
 rw [W4,SQ]
 exact ⟨λzz=>zz.elim λa b=>⟨a,of_decide_eq_true b⟩,λzz=>zz.elim λa b=>⟨a,decide_eq_true b⟩⟩
theorem xX {c:Nat->Nat} (f k:Nat):jb c (f+1) k=jb c f k+if f<k/\c k<=f then 1 else 0:=by
 have key:∀ l:List Nat,l.Nodup->(l.filter λi=>decide (i<f+1)).length=(l.filter λi=>decide (i<f)).length+if f∈l then 1 else 0:=by
  intro l
  induction l with
  | nil=>intro _;rfl
  | cons a l ih =>
   intro h
   refine ob0_2 (List.nodup_cons.mp h) λh1 h2=>?_
   have:=ih h2
   rw [List.filter_cons,List.filter_cons]
   by_cases ha:a=f
   ·subst ha
    rw [if_pos (decide_eq_true (by exact UX (VY _))),if_neg (by simp),Tr,this,if_neg h1,if_pos (So ..)]
   ·have hm:(f∈a::l)↔f∈l:=by
     rw [Sx]
     exact ⟨λh=>h.elim (λe=>absurd e.symm ha) id,.inr⟩
    by_cases hlt:a<f
    ·rw [if_pos (decide_eq_true (by exact Tu hlt)),if_pos (decide_eq_true hlt),Tr,Tr,this]
     simp only [hm];exact Vz ..
    ·rw [if_neg (by simp;exact Tj (Tw (Ua hlt) (Ne.symm ha))),if_neg (by simp;exact Ua hlt),this]
     simp only [hm]
 unfold jb
 rw [key (cX c k) (List.nodup_range.sublist List.filter_sublist)]
 have e:(f∈cX c k)↔(f<k/\c k<=f):=qz
 simp only [e]
 exact (UY ..).symm
end Mine
namespace Mine
open PySem PySem.W PyProof.Rows
theorem vC {c:Nat->Nat} (S:Shape c) {f:Nat} (hf:f<5):oN f (aZ c f:Int) (cu c f)=cu c (f+1):=by
 refine ob0_3 (g5 S hf) λh1 h2 h3=>?_
 have hk:∀ k,k<5->(if f<k/\(k:Int)<(aZ c f:Int) then "."++rowAt (jb c f k) k else rowAt (jb c f k) k)=rowAt (jb c (f+1) k) k:=by
  intro k hk
  rw [xX]
  by_cases hc:f<k/\c k<=f
  ·rw [if_pos (show f<k/\(k:Int)<(aZ c f:Int) from ⟨hc.1,Uy.mpr ((h3 k hc.1 hk).mpr hc.2)⟩),if_pos hc,sD]
  ·rw [if_neg (show ¬ (f<k/\(k:Int)<(aZ c f:Int)) from λh=>hc ⟨h.1,(h3 k h.1 hk).mp (Uy.mp h.2)⟩),if_neg hc];rfl
 have e:∀ g:Nat->Str,oN f (aZ c f:Int) ((SD 5).map g)=(SD 5).map λk=>if f<k/\(k:Int)<(aZ c f:Int) then "."++g k else g k:=λg=>rfl
 unfold cu
 rw [e]
 exact Tv λk h=>hk k (SQ.mp h)
end Mine
namespace Mine
open PySem PySem.W PyProof.Rows
theorem EW (c:Nat->Nat) (k:Nat):jb c 0 k=1:=by
 unfold jb
 have:((cX c k).filter λi=>decide (i<0))=[]:=List.filter_eq_nil_iff.mpr λi z! => by simp
 rw [this];rfl
theorem Dr (c:Nat->Nat):cu c 0=uo:=by
 have h:∀ k,rowAt 1 k="."++⟨#[([110,97,98,99,100]:List Nat).getD k 0]⟩:=λk=>gf (by rw [cJ,rX];rfl)
 have e:cu c 0=(SD 5).map λk=>"."++(⟨#[([110,97,98,99,100]:List Nat).getD k 0]⟩:Str):=by
  unfold cu
  exact Tv λk z! => by rw [EW,h]
 rw [e];rfl
end Mine
namespace Mine
open PySem PySem.W PyProof.Rows
theorem xy {ai:Str} (hi:dO ai) {p:Str×Str} (h:Wd ai p):(tl (bf ai p)).count 59=1:=by
 unfold bf
 rw [aN,aN,aN,Xb,Xb,Xb]
 have e1:(tl p.1).count 59=0:=List.count_eq_zero.mpr λhm=>by have:=h.f1 59 hm;exact Ga this
 have e2:(tl p.2).count 59=0:=List.count_eq_zero.mpr λhm=>by have:=h.f2 59 hm;exact F_ this
 have e3:(tl ai).count 59=0:=by rcases hi with rfl | rfl <;> rfl
 rw [e1,e2,e3];rfl
theorem xY {ai:Str} (hi:dO ai):∀ {us:List (Str×Str)},(∀ p∈us,Wd ai p)->(tl (rowOf ai us)).count 59=us.length:=by
 intro us
 rw [ji]
 induction us with
 | nil=>intro _;rfl
 | cons p us ih =>
  intro h
  rw [Tg,Xb,xy hi (h p (So ..)),ih λq hq=>h q (Ss _ hq),Tr,Vw]
end Mine
namespace Mine
open PySem PySem.W PyProof.Rows
noncomputable def zT (a b c d:Nat) (k:Nat):Nat:=([0,a,b,c,d]:List Nat).getD k 0
theorem pA {c e:Nat->Nat} (h:∀ k,k<5->c k=e k) (f:Nat):aZ c f=aZ e f:=by
 unfold aZ
 congr 1
 refine nR _ _ _ _ λi h1 h2=>?_
 rw [h (i - 1) (by exact SN (Xo (V4 h2)))]
theorem jX {c e:Nat->Nat} (h:∀ k,k<5->c k=e k) {k:Nat} (hk:k<5):cX c k=cX e k:=by
 unfold cX
 rw [h k hk]
theorem EX {c:Nat->Nat} (S:Shape c):∀ k,k<5->c k=zT (c 1) (c 2) (c 3) (c 4) k:=by
 exact lD (lD (lD (lD (lD ltZ (Nat.eq_zero_of_le_zero (S.le 0 (Xr _)))) rfl) rfl) rfl) rfl
theorem fM {p:(Nat->Nat)->Bool} (h:(SD 2).all λa=>(SD 3).all λb=>(SD 4).all λc=>(SD 5).all λd => !(decide (a<=b) && decide (b<=c) && decide (c<=d)) || p (zT a b c d))
  {c:Nat->Nat} (S:Shape c):p (zT (c 1) (c 2) (c 3) (c 4))=true:=by
 have m:=S.mono
 have l:=S.le
 have h1:=Uv.mp h (c 1) (SQ.mpr (by have:=l 1 (by exact SN (Sv _ _));exact SN this))
 have h2:=Uv.mp h1 (c 2) (SQ.mpr (by have:=l 2 (by exact SN (Sv _ _));exact SN this))
 have h3:=Uv.mp h2 (c 3) (SQ.mpr (by have:=l 3 (by exact SN (Sv _ _));exact SN this))
 have h4:=Uv.mp h3 (c 4) (SQ.mpr (by have:=l 4 (by exact UX (VY _));exact SN this))
 rw [decide_eq_true (m 1 (by exact SN (Sv _ _))),decide_eq_true (m 2 (by exact SN (Sv _ _))),decide_eq_true (m 3 (by exact UX (VY _)))] at h4
 exact h4
noncomputable def wR (p:(Nat->Nat)->Bool) (a b:Nat):Bool:=(SD 4).all λc=>(SD 5).all λd => !(decide (a<=b) && decide (b<=c) && decide (c<=d)) || p (zT a b c d)
theorem nj {p:(Nat->Nat)->Bool} (h0:wR p 0 0=true) (h1:wR p 0 1=true) (h2:wR p 0 2=true) (h3:wR p 1 0=true) (h4:wR p 1 1=true) (h5:wR p 1 2=true) {c:Nat->Nat} (S:Shape c):p (zT (c 1) (c 2) (c 3) (c 4))=true :=
 fM (p:=p) (by
  show ((wR p 0 0 && (wR p 0 1 && (wR p 0 2 && true))) && ((wR p 1 0 && (wR p 1 1 && (wR p 1 2 && true))) && true))=true
  rw [h0,h1,h2,h3,h4,h5];rfl) S
end Mine
namespace Mine
open PySem PySem.W PyProof.Rows
noncomputable def ri (c:Nat->Nat) (f:Nat):Nat:=((SD 5).find? λk=>decide (f<k) && decide (f<c k)).getD 5
theorem Ds {c:Nat->Nat} (S:Shape c) {f:Nat} (hf:f<5):aZ c f=ri c f:=by
 refine ob0_3 (g5 S hf) λh1 h2 h3=>?_
 unfold ri
 cases h:(SD 5).find? λk=>decide (f<k) && decide (f<c k) with
 | none =>
  rw [List.find?_eq_none] at h
  show aZ c f=5
  by_cases h4:f=4
  ·exact F9 h1 h2 h4
  ·have:=h 4 (SQ.mpr (by decide))
   simp at this
   have:=(h3 4 (by exact Tw (V4 hf) h4) (by decide)).mpr (this (by exact Tw (V4 hf) h4))
   exact Ub h2 (Tj this)
 | some k =>
  rw [List.find?_range_eq_some] at h
  refine ob0_3 h λg1 g2 g3=>?_
  have hk:=SQ.mp g2
  simp at g1
  show aZ c f=k
  have:=h3 k g1.1 hk
  have hle:aZ c f<=k:=Ua λx=>TP (this.mp x) g1.2
  by_cases h4:k=f+1
  ·exact Ub hle (h4▸h1)
  ·have g:=g3 (k - 1) (by exact F7 g1 h4)
   simp at g
   rcases g with g | g
   ·exact F6 g1 h4 g
   ·have:=(h3 (k - 1) (by exact Nat.lt_sub_of_add_lt (Tw (Tj g1.1) (Ne.symm h4))) (by exact T_ (UI _ _) hk)).mpr g
    exact Ub hle (Nat.le_of_pred_lt this)
noncomputable def jR (R:Nat->Nat):Nat->List (List (Nat×Nat))
 | 0=>[[]]
 | j+1=>((4 - j,R (4 - j))::(jR R j).getD (R (4 - j) - (4 - j) - 1) [])::jR R j
theorem ur {c:Nat->Nat} {R:Nat->Nat} (h:∀ f,f<5->aZ c f=R f):∀ j,d8 c j=jR R j
 | 0=>rfl
 | j+1=>by rw [d8,jR,ur h j,h (4 - j) (by exact SN (UI _ _))]
noncomputable def ef (c:Nat->Nat):List Nat:=(SD 5).map λk=>1+k - c k
noncomputable def cH (c:Nat->Nat):List (List Nat):=(SD 5).map (cX c)
noncomputable def EZ (tl:List Nat) (z:Nat×Nat) (i:Nat):Nat×Nat:=if i∈tl then (2 * z.1+1,z.2+1) else (2 * z.1,z.2)
noncomputable def AS (k:Nat) (e:List Nat) (o:List Nat×(Nat×Nat)) (p:Nat):List Nat×(Nat×Nat):=(o.1.take p++[k]++o.1.drop p,e.foldl (EZ (o.1.drop p)) o.2)
noncomputable def vL (near:List (List Nat)):Nat->List (List Nat×(Nat×Nat))
 | 0=>[([],(1,0))]
 | k+1=>(vL near k).flatMap λo=>(SD (k+1)).map (AS k (near.getD k []) o)
noncomputable def eg (acc:List (Nat×Nat)) (y:Nat×Nat):List (Nat×Nat):=if acc.any (λz=>Nat.beq z.1 y.1) then acc else y::acc
noncomputable def m9 (near:List (List Nat)):List Nat:=(((vL near 5).map (·.2)).foldl eg []).map (·.2)
noncomputable def oE:Nat->List (List Nat)
 | 0=>[[]]
 | k+1=>(oE k).flatMap λo=>(SD (k+1)).map λp=>o.take p++[k]++o.drop p
noncomputable def rm (z:Nat×Nat) (d:Nat):Nat×Nat:=if d=49 then (2 * z.1+1,z.2+1) else (2 * z.1,z.2)
noncomputable def gg (l:List Nat):Nat×Nat:=l.foldl rm (1,0)
noncomputable def KW (l:List Nat):Prop:=∀ d∈l,d=48\/d=49
theorem uB (l:List Nat) (d:Nat):gg (l++[d])=rm (gg l) d:=by
 unfold gg;rw [Vk];rfl
theorem zm (l:List Nat):(gg l).2=l.count 49:=by
 have:∀ (l:List Nat) (z:Nat×Nat),(l.foldl rm z).2=z.2+l.count 49:=by
  intro l
  induction l with
  | nil=>intro z;rfl
  | cons d l ih =>
   intro z
   rw [Vx,ih]
   unfold rm
   by_cases h:d=49
   ·subst h;rw [if_pos rfl,List.count_cons_self];show z.2+1+_=_;exact Vz _ _ _
   ·rw [if_neg h,List.count_cons_of_ne h]
 have:=this l (1,0)
 rw [U5] at this
 exact this
theorem xA {a b c:Nat} (h1:a=2 * b+c) (h2:a=1) (h3:1<=b):False :=
 absurd (Sn (Sn (Nat.mul_le_mul_left 2 h3) (TA _ _)) (SI (h1.symm.trans h2))) (VY 1)
theorem Dh {a b c d:Nat} (hc:c / 2=0) (hd:d / 2=0) (h:2 * a+c=2 * b+d):a=b:=by
 have e:(2 * a+c) / 2=(2 * b+d) / 2:=congrArg (· / 2) h
 rw [Nat.mul_add_div (Nat.zero_lt_succ 1),Nat.mul_add_div (Nat.zero_lt_succ 1),hc,hd] at e
 exact e
theorem Ex:∀ n,∀ a b:List Nat,a.length<=n->KW a->KW b->(gg a).1=(gg b).1->a=b:=by
 have pos:∀ (l:List Nat) (z:Nat×Nat),1<=z.1->1<=(l.foldl rm z).1:=by
  intro l
  induction l with
  | nil=>intro z h;exact h
  | cons d l ih =>
   intro z h
   rw [Vx]
   refine ih _ ?_
   unfold rm;split
   ·show 1<=2 * z.1+1;exact Sv _ _
   ·show 1<=2 * z.1;exact F3 h
 have hp:∀ l,1<=(gg l).1:=λl=>pos l _ (Sz 1)
 have hb:∀ (l:List Nat) (d:Nat),(gg (l++[d])).1=2 * (gg l).1+if d=49 then 1 else 0:=λl d=>by
  rw [uB];unfold rm;split <;> rfl
 intro n
 induction n with
 | zero =>
  intro a b ha _ hB h
  have:a=[]:=V5.mp (by exact Nat.eq_zero_of_le_zero ha)
  subst this
  rcases WA b with rfl | ⟨b',d,rfl⟩
  ·rfl
  ·rw [WB,hb] at h
   exact (xA h rfl (hp b')).elim
 | succ n ih =>
  intro a b ha hA hB h
  rcases WA a with rfl | ⟨a',x,rfl⟩
  ·exact ih [] b (Td _) hA hB h
  ·rw [WB] at *
   rcases WA b with rfl | ⟨b',y,rfl⟩
   ·rw [hb] at h
    exact (xA h.symm rfl (hp a')).elim
   ·rw [WB] at *
    rw [hb,hb] at h
    rw [SY] at ha
    have hx:=hA x (SO.mpr (.inr (SG.mpr rfl)))
    have hy:=hB y (SO.mpr (.inr (SG.mpr rfl)))
    have e:=ih a' b' (by have:[x].length=1:=rfl;exact F2 ha this) (λd hd=>hA d (SO.mpr (.inl hd))) (λd hd=>hB d (SO.mpr (.inl hd))) (Dh (by split <;> rfl) (by split <;> rfl) h)
    subst e
    have:x=y:=by
     rcases hx with rfl | rfl <;> rcases hy with rfl | rfl
     ·rfl
     ·simp at h
     ·simp at h
     ·rfl
    rw [this]
theorem uS (t e:List Nat):tl (SP "" (e.map (c_ t)))=e.map λi=>if i∈t then 49 else 48:=by
 rw [eK]
 induction e with
 | nil=>rfl
 | cons i e ih =>
  rw [S_,S_,Tg,ih]
  unfold c_
  split <;> rfl
theorem BI (t:List Nat):∀ (e l:List Nat),gg (l++e.map λi=>if i∈t then 49 else 48)=e.foldl (EZ t) (gg l):=by
 intro e
 induction e with
 | nil=>intro l;rw [VG,S6];rfl
 | cons i e ih =>
  intro l
  rw [S_,Vx,List.append_cons,ih,uB]
  congr 1
  unfold rm EZ
  split
  ·rw [if_pos rfl]
  ·rw [if_neg (by decide)]
noncomputable def Na (o:Ord):List Nat×(Nat×Nat):=(o.1,gg (tl o.2))
theorem CD (near:List (List Nat)):∀ k,(aQ near k).map Na=vL near k
 | 0=>rfl
 | k+1=>by
  rw [aQ,vL,<- CD near k,b_,List.map_flatMap,List.flatMap_map]
  congr 1
  funext o
  rw [Th]
  refine Tv λp z! => ?_
  show (_,gg (tl (o.2++_)))=(_,_)
  rw [aN,uS,BI]
  rfl
theorem AR {near:List (List Nat)} {k:Nat}:∀ o∈aQ near k,KW (tl o.2):=by
 induction k with
 | zero=>intro o h;rw [aQ] at h;cases SG.mp h;exact λd hd=>absurd hd Tq
 | succ k ih =>
  intro o h
  rw [aQ,b_] at h
  refine ob1_2 (SX.mp h) λo' h1 h2=>ob1_2 (S7.mp h2) λp hp aA=>?_;obtain rfl:=aA
  have:=ih o' h1
  intro d hd
  rw [show (cZ k (near.getD k []) o' p).2=o'.2++SP "" ((near.getD k []).map (c_ (o'.1.drop p))) from rfl,aN,uS] at hd
  rcases SO.mp hd with hd | hd
  ·exact this d hd
  ·refine ob1_2 (S7.mp hd) λi z! aA=>?_;obtain rfl:=aA
   split
   ·exact .inr rfl
   ·exact .inl rfl
theorem qq (near:List (List Nat)):∀ k,(aQ near k).map (·.1)=oE k
 | 0=>rfl
 | k+1=>by
  rw [aQ,oE,<- qq near k,b_,List.map_flatMap,List.flatMap_map]
  congr 1
  funext o
  rw [Th]
  rfl
theorem Bx:∀ (xs acc:List Str),(∀ x∈xs,KW (tl x))->(∀ x∈acc,KW (tl x)) ->
  (xs.map λx=>gg (tl x)).foldl eg (acc.map λx=>gg (tl x)).reverse=((xs.foldl iy acc).map λx=>gg (tl x)).reverse:=by
 intro xs
 induction xs with
 | nil=>intro acc _ _;rfl
 | cons x xs ih =>
  intro acc h1 h2
  have hx:=h1 x (So ..)
  rw [S_,Vx,Vx]
  have e:eg (acc.map λx=>gg (tl x)).reverse (gg (tl x))=((iy acc x).map λx=>gg (tl x)).reverse:=by
   unfold eg iy
   by_cases hm:x∈acc
   ·rw [if_pos hm,if_pos]
    rw [List.any_eq_true]
    exact ⟨gg (tl x),Wr.mpr (S7.mpr ⟨x,hm,rfl⟩),Nat.beq_refl _⟩
   ·rw [if_neg hm,if_neg,Ti,List.reverse_append]
    ·rfl
    ·rw [List.any_eq_true]
     rintro ⟨z,hz,hb⟩
     refine ob1_2 (S7.mp (Wr.mp hz)) λy hy aA=>?_;obtain rfl:=aA
     have:=Ex _ _ _ (Sz _) (h2 y hy) hx (Nat.eq_of_beq_eq_true hb)
     rw [gf this] at hy
     exact hm hy
  rw [e]
  refine ih _ (λy hy=>h1 y (Ss _ hy)) λy hy=>?_
  unfold iy at hy
  split at hy
  ·exact h2 y hy
  ·rcases SO.mp hy with hy | hy
   ·exact h2 y hy
   ·rw [SG.mp hy];exact hx
theorem Az (near:List (List Nat)) (k:Nat):(iN near).count (k:Int)=(m9 near).count k:=by
 have hd:=Bx (bT near) [] (λx hx=>by
  refine ob1_2 (S7.mp hx) λo ho aA=>?_;obtain rfl:=aA
  exact AR o ho) (λx hx=>absurd hx Tq)
 have hm:(bT near).map (λx=>gg (tl x))=(vL near 5).map (·.2):=by
  rw [<- CD near 5,Th]
  unfold bT
  rw [Th];rfl
 rw [hm] at hd
 have hd':((vL near 5).map (·.2)).foldl eg []=((cy (bT near)).map λx=>gg (tl x)).reverse:=hd
 unfold m9 iN
 rw [hd',List.map_reverse,List.count_reverse,Th]
 generalize cy (bT near)=ys
 induction ys with
 | nil=>rfl
 | cons y ys ih =>
  have e:Vo y "1"=((gg (tl y)).2:Int):=by
   rw [zm];exact jA y 49
  have hq:(if Vo y "1" == (k:Int) then 1 else 0:Nat)=if (gg (tl y)).2 == k then 1 else 0:=by
   rw [e]
   by_cases h:(gg (tl y)).2=k
   ·rw [h,if_pos (beq_self_eq_true _),if_pos (beq_self_eq_true _)]
   ·have h1:¬((((gg (tl y)).2:Int) == (k:Int))=true):=λhh=>h (Int.ofNat_inj.mp (Vc hh))
    have h2:¬(((gg (tl y)).2 == k)=true):=λhh=>h (Vc hh)
    rw [if_neg h1,if_neg h2]
  rw [S_,S_,List.count_cons,List.count_cons,ih]
  exact congrArg (_ + ·) hq
end Mine
namespace Mine
open PySem PySem.W PyProof.Rows
noncomputable def tO (e:Nat->Nat):Bool:=((SD 5).all λf=>decide (iW (Pc e) f=(jR (ri e) 5).getD f []) && decide (((jR (ri e) 5).getD f []).head? = some (f,ri e f))) && decide ((SD 5).map (λk=>1+(cX e k).length)=ef e) && (ef e).all λx=>decide (1<=x) && decide (x<=5)
noncomputable def zP (e:Nat->Nat):Bool:=decide ((SD 5).map (λf=>(((jR (ri e) 5).getD f []).length:Int))=(SD 5).map (oO (cH e)))
noncomputable def zQ (e:Nat->Nat):Bool:=decide (((SD 11).map λk=>(m9 (cH e)).count k)=bN (ef e) 5++T4 (11 - (bN (ef e) 5).length) 0)
noncomputable def zO (e:Nat->Nat):Bool:=((!decide ((oE 5).filter (oz (cH e))=[])) == decide (2<yD (((ef e).drop 2).map λc:Nat=>(c:Int))))
noncomputable def CZ (e:Nat->Nat):Bool:=(SD 6).all λi=>(bN (ef e) i).all (λx=>decide (x<=1000000)) && decide (1<=(bN (ef e) i).length) && decide ((bN (ef e) i).length<=11)
structure BV (c:Nat->Nat):Prop where
 rows:∀ f,f<5->iW (Pc c) f=(d8 c 5).getD f []
 head:∀ f,f<5->((d8 c 5).getD f []).head? = some (f,aZ c f)
 most:(SD 5).map (λf=>(((d8 c 5).getD f []).length:Int))=(SD 5).map (oO (cH c))
 turn:((SD 11).map λ(k:Nat)=>(iN (cH c)).count (k:Int))=bN (ef c) 5++T4 (11 - (bN (ef c) 5).length) 0
 lim:∀ i,i<=5->(∀ x∈bN (ef c) i,x<=1000000)/\1<=(bN (ef c) i).length/\(bN (ef c) i).length<=11
 ring:(!decide ((aQ (cH c) 5).filter (λo=>oz (cH c) o.1)=[]))=decide (2<yD (((ef c).drop 2).map λc:Nat=>(c:Int)))
 dots:(SD 5).map (λk=>1+(cX c k).length)=ef c
 cs:∀ x∈ef c,1<=x/\x<=5
theorem BD {c:Nat->Nat} (S:Shape c):tO (zT (c 1) (c 2) (c 3) (c 4))=true:=fM (p:=tO) (by decide +kernel) S
theorem BF {c:Nat->Nat} (S:Shape c):zP (zT (c 1) (c 2) (c 3) (c 4))=true:=fM (p:=zP) (by decide +kernel) S
theorem BG {c:Nat->Nat} (S:Shape c):zQ (zT (c 1) (c 2) (c 3) (c 4))=true:=nj (p:=zQ) (by decide +kernel) (by decide +kernel) (by decide +kernel) (by decide +kernel) (by decide +kernel) (by decide +kernel) S
theorem BE {c:Nat->Nat} (S:Shape c):zO (zT (c 1) (c 2) (c 3) (c 4))=true:=nj (p:=zO) (by decide +kernel) (by decide +kernel) (by decide +kernel) (by decide +kernel) (by decide +kernel) (by decide +kernel) S
theorem ET {c:Nat->Nat} (S:Shape c):CZ (zT (c 1) (c 2) (c 3) (c 4))=true:=fM (p:=CZ) (by decide +kernel) S
theorem k7 {c:Nat->Nat} (S:Shape c):BV c:=by
 have E:=EX S
 have k1:=BD S
 have k2:=BF S
 have k3:=BG S
 have k4:=BE S
 have k5:=ET S
 generalize zT (c 1) (c 2) (c 3) (c 4)=e at *
 have Se:Shape e:=⟨λk hk=>by rw [<- E k hk];exact S.le k hk,λk hk=>by rw [<- E k (by exact Tu hk),<- E (k+1) (by exact UB hk _)];exact S.mono k hk⟩
 have hR:∀ f,f<5->aZ c f=ri e f:=λf hf=>by rw [pA E,Ds Se hf]
 have hL:d8 c 5=jR (ri e) 5:=ur hR 5
 have hN:cH c=cH e:=Tv λk hk=>jX E (SQ.mp hk)
 have hC:ef c=ef e:=Tv λk hk=>by rw [E k (SQ.mp hk)]
 have hG:∀ f,f<5->iW (Pc c) f=iW (Pc e) f:=λf hf=>jU (λj s hj z! => by show decide (c j<=s)=decide (e j<=s);rw [E j hj]) hf
 unfold tO at k1
 refine ob0_2 (TL.mp k1) λk1 Ql=>ob0_2 (TL.mp k1) λQn Qm=>?_
 have hf:=λf hf=>TL.mp (Uv.mp Qn f (SQ.mpr hf))
 refine ⟨λf h=>?_,λf h=>?_,?_,?_,λi hi=>?_,?_,?_,λx hx=>?_⟩
 ·rw [hG f h,hL];exact of_decide_eq_true (hf f h).1
 ·rw [hL,hR f h];exact of_decide_eq_true (hf f h).2
 ·rw [hL,hN];exact of_decide_eq_true k2
 ·rw [hN,hC,<- of_decide_eq_true k3]
  exact Tv λk z! => Az _ k
 ·rw [hC]
  have:=Uv.mp k5 i (SQ.mpr (by exact SN hi))
  refine ob0_2 (TL.mp this) λh1 h2=>ob0_2 (TL.mp h1) λh0 h1=>?_
  exact ⟨λx hx=>of_decide_eq_true (Uv.mp h0 x hx),of_decide_eq_true h1,of_decide_eq_true h2⟩
 ·rw [hN,hC]
  rewrite [<- beq_iff_eq.mp k4,<- qq (cH e) 5]
  refine congrArg Bool.not (decide_eq_decide.mpr ?_)
  rw [List.filter_map,List.map_eq_nil_iff]
  exact Iff.rfl
 ·rw [hC,<- of_decide_eq_true Qm]
  exact Tv λk hk=>by rw [jX E (SQ.mp hk)]
 ·rw [hC] at hx
  refine ob0_2 (TL.mp (Uv.mp Ql x hx)) λh1 h2=>?_
  exact ⟨of_decide_eq_true h1,of_decide_eq_true h2⟩
end Mine
namespace Mine
open PySem PySem.W PyProof.Rows
variable {G:Glob} {K:Frag} {n:Nat}
noncomputable def dH (ai:Str) (room mx:Nat) (ws:List (Str×Str)) (f:Nat):List Str:=((d8 (jh ai room mx ws) 5).getD f []).map (o8 (bz ai ws))
theorem nJ {ai:Str} {room mx:Nat} {ws:List (Str×Str)} {f:Nat} (hf:f<5):(dH ai room mx ws f)[0]? = some (o8 (bz ai ws) (f,aZ (jh ai room mx ws) f)):=by
 have h:=(k7 (kH ai room mx ws)).head f hf
 unfold dH
 rw [S9,<- List.head?_eq_getElem?,h];rfl
theorem BL:∀ f,f<5->∀ r,r<6->f+1<=r->max 1 f+(min (r - 1) 4 - (f - 1))=r:=by decide
theorem E4 {ai:Str} {room mx:Nat} {ws:List (Str×Str)} (hn:ws.length=4) (hi:dO ai) (hw:∀ p∈ws,Wd ai p) {f:Nat} (hf:f<5) :
  iO f (dH ai room mx ws f)=(aZ (jh ai room mx ws) f:Int):=by
 refine ob0_3 (g5 (kH ai room mx ws) hf) λh1 h2 z! => ?_
 have h0:=nJ (ai:=ai) (room:=room) (mx:=mx) (ws:=ws) hf
 unfold iO
 rw [S2,h0,Option.getD_some,<- k9 (by show 1<=_;exact Sn (Sv _ _) h1),show (";":Str)=⟨#[59]⟩ from rfl,jA]
 unfold By
 dsimp only
 rw [xY hi λp hp=>hw p (VC (VB hp)),T8,Wt,hn]
 exact (Int.natCast_add ..).symm.trans (congrArg _ (BL f hf _ (SN h2) h1))
theorem AA (Nb:fh G K) (yp:wM G) {d0 d1:Nat} {ws:List (Str×Str)} (hn:ws.length=4) (hw:∀ p∈ws,Wd (aJ d0) p) (hh:∀ p,ws[0]? = some p->p.2.cps[0]? = some 97) {f:Nat} (hf:f<5) :
  TurnOk G (ic d1) ws (aL d1) (aJ d0) (dB d0) (aH d0) (dH (aJ d0) (aL d1) (aH d0) ws) (cu (jh (aJ d0) (aL d1) (aH d0) ws)) f:=by
 have S:=kH (aJ d0) (aL d1) (aH d0) ws
 have K:=k7 S
 have he:(ic d1).getD f ""=jQ d1 f:=by
  unfold ic
  rw [S2,S9,V9 hf];rfl
 have hroom:aL d1≠0:=by unfold aL;exact Vv (TH (SN (TA _ _)))
 have D6:aL d1<=7:=by unfold aL;exact F8
 have JC:∀ r∈cu (jh (aJ d0) (aL d1) (aH d0) ws) f,j6 r:=λr hr=>by
  unfold cu at hr
  refine ob1_2 (S7.mp hr) λk hk aA=>?_;obtain rfl:=aA
  have ux:=SQ.mp hk
  refine x6 ?_ ?_ ux
  ·unfold jb;exact TA _ _
  ·unfold jb cX
   have h1:=Wy (λi=>decide (i<f)) ((SD k).filter λi=>decide (jh (aJ d0) (aL d1) (aH d0) ws k<=i))
   have h2:=Wy (λi=>decide (jh (aJ d0) (aL d1) (aH d0) ws k<=i)) (SD k)
   rw [TJ] at h2
   exact F5 ux h1 h2
 have h5:(cu (jh (aJ d0) (aL d1) (aH d0) ws) f).length=5:=by unfold cu;rw [Sq,TJ]
 constructor
 ·intro m
  rw [he]
  have W:BU (aH d0) (dB d0) (aJ d0) (if f=0 then aL d1 else 0) (ws.drop (f - 1)):=by
   refine ⟨sd d0,yS d0,λp hp=>hw p (VB hp),by rw [T8];exact Sn (UI _ _) (SI hn),by split;exact Sn D6 (S1 rfl);exact Td _,λhk p hp=>?_⟩
   by_cases h0:f=0
   ·subst h0;exact hh p hp
   ·rw [if_neg h0] at hk;exact absurd rfl hk
  have:=Bl Nb yp W (λh=>by have:=congrArg Wm h;rw [T8] at this;simp at this;exact F4 hn hf this) (tG d1 f) (nh d0).1 (nh d0).2 m
  rw [xx hn hf hroom,jU (Q:=Pc (jh (aJ d0) (aL d1) (aH d0) ws)) (λj s z! hs=>KH _ _ _ _ hs) hf,K.rows f hf] at this
  exact this
 ·have h0:=nJ (ai:=aJ d0) (room:=aL d1) (mx:=aH d0) (ws:=ws) hf
  rw [S2,h0];rfl
 ·exact h5
 ·exact λr hr=>by have:=(JC r hr).l;exact S5 this
 ·rw [he]
  rcases tG d1 f with h | h | h <;> rw [h] <;> decide
 ·rw [he,E4 hn (sd d0).ai hw hf]
  refine ob1_4 (vP (f:=f) (b:=(aZ (jh (aJ d0) (aL d1) (aH d0) ws) f:Int)) h5 JC (tG d1 f)) λT t1 t2 t3 t4=>?_
  exact ⟨T,t1,t2,t3,by rw [<- t4,vC S hf]⟩
end Mine
namespace Mine
open PySem PySem.W PyProof.Rows
variable {G:Glob} {K:Frag} {n:Nat}
theorem xZ {n k:Nat} (hk:k<5):Vo (rowAt n k) "."=(n:Int):=by
 rw [show (".":Str)=⟨#[46]⟩ from rfl,jA,cJ,Xb,List.count_replicate_self]
 have:∀ k,k<5->[([110,97,98,99,100]:List Nat).getD k 0].count 46=0:=by decide
 rw [this k hk,Nat.add_zero]
theorem zS {c:Nat->Nat} {k:Nat} (hk:k<5):jb c 5 k=1+(cX c k).length:=by
 unfold jb
 rw [Wa.mpr λi hi=>decide_eq_true (by have:=(qz.mp hi).1;exact Su this (Tf hk))]
theorem xD {ai:Str} (hi:dO ai) {ws:List (Str×Str)} (hw:∀ p∈ws,Wd ai p):∀ t∈bz ai ws,∀ d∈tl t,d<200:=by
 intro t ht d hd
 unfold bz at ht
 rcases Sx.mp ht with rfl | ht
 ·exact absurd hd Tq
 ·refine ob1_2 (S7.mp ht) λp hp aA=>?_;obtain rfl:=aA
  exact (m8 hi (hw p hp) d hd).elim (λh=>h▸(by decide:32<200)) λh=>h.elim (λh=>h▸(by decide:59<200)) λh=>T_ h.2 (by decide)
theorem yo {x:Str} (h:∀ d∈tl x,d<200):Uh x=true:=by
 unfold Uh
 rw [WJ]
 intro d hd
 have:=h d (Array.mem_toList_iff.mpr hd)
 exact decide_eq_true (by exact Su this (Sv _ _))
theorem text_len {ai:Str} (hi:dO ai) {ws:List (Str×Str)} (hw:∀ p∈ws,Wd ai p):∀ t∈bz ai ws,t.length<=100:=by
 intro t ht
 unfold bz at ht
 rcases Sx.mp ht with rfl | ht
 ·exact Td _
 ·refine ob1_2 (S7.mp ht) λp hp aA=>?_;obtain rfl:=aA
  have:=nZ hi (hw p hp);exact Sn this (Sv _ _)
theorem nQ (c:Nat->Nat):∀ j,(d8 c j).length=j+1
 | 0=>rfl
 | j+1=>by rw [d8,Tr,nQ c j]
theorem sX {α:Type} (L:List (List α)) (h:L.length=6):(SD 5).map (λf=>L.getD f [])=L.take 5:=by
 refine ob2_2 (eO h) λa r1 aA k1=>?_;obtain rfl:=aA
 refine ob2_2 (eO k1) λb r2 aA k2=>?_;obtain rfl:=aA
 refine ob2_2 (eO k2) λc r3 aA k3=>?_;obtain rfl:=aA
 refine ob2_2 (eO k3) λd r4 aA k4=>?_;obtain rfl:=aA
 refine ob2_2 (eO k4) λe r5 aA k5=>?_;obtain rfl:=aA
 rfl
theorem DQ (ok:mZ G) (Fj:mj G) (KZ:Lp G) (Nb:fh G K) (yp:wM G) (K0:BX G) (script:List Int) :
  FC G Fc (n+11) [.lst (script.map .int)] (.bool true):=by
 refine ob2_1 ok.fn λpm code fn=>?_
 refine FC.of fn (names:=["script"]) (ps':=[.lst (script.map .int)]) (λs W vs iv r=>?_) rfl (TS.mpr (.inl rfl)) (λA W s L' hA=>?_)
 ·refine ob1_2 r.one λa aC r1=>?_;obtain rfl:=aC
  exact ⟨[a],UM rfl,r⟩
 refine Jq (n:=n+10) ok λd0 d1 v0 v1 v2 v3=>?_
 refine Jp ok λwords oV=>?_
 have hn:words.length=4:=by rw [oV];rfl
 have hi:dO (aJ d0):=(sd d0).ai
 have hw:∀ p∈words,Wd (aJ d0) p:=by
  rw [oV]
  intro p hp
  simp only [Sx,Tq,or_false] at hp
  rcases hp with rfl | rfl | rfl | rfl
  ·exact kc _ (by decide)
  ·exact kc _ (by decide)
  ·exact kc _ (by decide)
  ·exact kc _ (by decide)
 have hh:∀ p,words[0]? = some p->p.2.cps[0]? = some 97:=by
  rw [oV]
  intro p hp
  cases hp
  exact vo (k:=0)
 clear oV
 have Ld:(bz (aJ d0) words).length=5:=by unfold bz;rw [Tr,Sq,hn]
 have hdr:(bz (aJ d0) words).drop 1=words.map (bf (aJ d0)):=rfl
 have QI:(bS (aL d1) (words.map (bf (aJ d0)))).length=6:=by rw [fF,Sq,hn]
 refine Jo ok Ld ?_
 rw [hdr]
 have hT:=λf (hf:f<5)=>AA (d1:=d1) Nb yp hn hw hh hf
 have JI:(SD 5).map (vR (aH d0) (bS (aL d1) (words.map (bf (aJ d0)))))=cH (jh (aJ d0) (aL d1) (aH d0) words):=Tv λk hk=>DI hn (SQ.mp hk)
 have J1:∀ k,k<5->cR (bS (aL d1) (words.map (bf (aJ d0)))) (aH d0) k=1+k - jh (aJ d0) (aL d1) (aH d0) words k:=λk hk=>EI hn hk
 have QV:=Jd (texts:=bz (aJ d0) words) (λf hf=>AM (ai:=aJ d0) (room:=aL d1) (mx:=aH d0) hn hf) 5
 rw [JI]
 have S:=kH (aJ d0) (aL d1) (aH d0) words
 have SK:=k7 S
 have JX:(SD 5).map (dH (aJ d0) (aL d1) (aH d0) words)=((d8 (jh (aJ d0) (aL d1) (aH d0) words) 5).take 5).map λl=>l.map (o8 (bz (aJ d0) words)):=by
  rw [<- sX _ (nQ _ 5),Th];rfl
 refine Jm (n:=n) ok yp KZ (by unfold ic;rw [Sq,TJ]) (Dr _) hT ?_
 have hfl:((SD 5).map (dH (aJ d0) (aL d1) (aH d0) words)).map (λr=>(r.length:Int))=(SD 5).map λf=>(((d8 (jh (aJ d0) (aL d1) (aH d0) words) 5).getD f []).length:Int):=by
  rw [Th]
  refine Tv λf z! => ?_
  show ((dH _ _ _ _ f).length:Int)=_
  unfold dH;rw [Sq]
 have hfo:∀ r∈(SD 5).map (dH (aJ d0) (aL d1) (aH d0) words),∀ x∈r,Uh x=true:=by
  intro r hr x hx
  refine ob1_2 (S7.mp hr) λf hf aA=>?_;obtain rfl:=aA
  unfold dH at hx
  refine ob1_2 (S7.mp hx) λq z! aA=>?_;obtain rfl:=aA
  refine yo λd hd=>?_
  unfold o8 at hd
  rw [eK] at hd
  refine ob1_2 (SX.mp hd) λt ht hd=>?_
  exact xD hi hw t (VC (VB ht)) d hd
 have htx:=text_len hi hw
 have Eh:(SD 5).map (dH (aJ d0) (aL d1) (aH d0) words)=(fG (bS (aL d1) (words.map (bf (aJ d0)))) (aH d0) (bz (aJ d0) words) 5).take 5:=by
  rw [QV,JX,XH]
 generalize (SD 5).map (dH (aJ d0) (aL d1) (aH d0) words)=written at *
 generalize bz (aJ d0) words=texts at *
 generalize bS (aL d1) (words.map (bf (aJ d0)))=sums at *
 generalize jh (aJ d0) (aL d1) (aH d0) words=c at *
 have QB:written.length=5:=by have:=congrArg Wm hfl;simpa using this
 have NO:∀ k,k<5->1+(cX c k).length=1+k - c k:=λk hk=>List.map_inj_left.mp (show (SD 5).map (λk=>1+(cX c k).length)=(SD 5).map λk=>1+k - c k from SK.dots) k (SQ.mpr hk)
 have Rx:(cu c 5).length=5:=by unfold cu;rw [Sq,TJ]
 have hc5:(ef c).length=5:=by unfold ef;rw [Sq,TJ]
 have An:(cH c).length=5:=by unfold cH;rw [Sq,TJ]
 have hne:∀ e∈cH c,e.length<=5:=λe he=>by
  unfold cH at he
  refine ob1_2 (S7.mp he) λk hk aA=>?_;obtain rfl:=aA
  have:=NO k (SQ.mp hk)
  have:=SQ.mp hk
  exact F1 (by assumption) this
 have hcs:(cu c 5).map (λr=>Vo r ".")=(ef c).map λc:Nat=>(c:Int):=by
  unfold cu ef
  rw [Th,Th]
  refine Tv λk hk=>?_
  have ux:=SQ.mp hk
  show Vo (rowAt (jb c 5 k) k) "."=((1+k - c k:Nat):Int)
  rw [xZ ux,zS ux,NO k ux]
 refine Jl (n:=n) ok K0 An hne Rx hcs SK.cs SK.lim SK.turn ?_
 refine Jk ok An QB (hfl.trans SK.most) ?_
 refine Jj ok An hc5 SK.ring ?_
 refine Ji (n:=n+9) ok Fj QI Ld htx (λr hr=>?_) hfo ?_ Eh λs' v S' rv=>⟨S'.stp,rv⟩
 ·unfold cu at hr
  refine ob1_2 (S7.mp hr) λk hk aA=>?_;obtain rfl:=aA
  refine yo λd hd=>?_
  rw [cJ] at hd
  have hl:∀ k,k<5->([110,97,98,99,100]:List Nat).getD k 0<200:=by decide
  rcases SO.mp hd with hd | hd
  ·rw [Vu hd];decide
  ·rw [SG.mp hd];exact hl k (SQ.mp hk)
 ·unfold cu
  refine Tv λk hk=>?_
  have ux:=SQ.mp hk
  rw [zS ux,NO k ux,J1 k ux];rfl
end Mine
namespace Mine
open PySem PySem.W PyProof.Rows
noncomputable def l5 (K:Frag) (x:Str) (v:Value):Prop:=nsIn K mainGlobals x=some none/\nsIn K builtinsNs x=some (some v)
noncomputable def eW (K:Frag) (C:Addr) (x:Str) (f:Addr):Prop:=findIn K (.ref C) x=some (some (.ref f))/\typeIn K (.ref f)=some (.type "function")
noncomputable def iZ (K:Frag) (c:Addr) (file:Str):Bool:=match K.lookup c with
 | some ⟨_,_,.fields vs,_⟩=>(match (vs[2]? : Option Value) with
  | some (.str f _)=>file == f
  | _=>false)
 | _=>false
structure mq (K:Frag) (P:Params):Prop where
 bis:(zW P).map (λx=>K.lookup x.1)=(zW P).map λx=>some x.2
 br:m5 K Fd (oY (fD K Fd) (iw K Fd)) (bodyOf (bH dQ K_))
 bl:m5 K Fe (oZ (fD K Fe) (iw K Fe)) (bodyOf (bH dQ La))
 len:l5 K "len" (.builtin "len")
 p1:BW K Lo PK cD
 p2:BW K Ln PJ bL
 g1:nsIn K mainGlobals "_twin_re_1"=some (some (.ref Lo))
 g2:nsIn K mainGlobals "_twin_re_2"=some (some (.ref Ln))
 g3:nsIn K mainGlobals "CRLF"=some (some (.str "\r\n" (Ct K mainGlobals "CRLF")))
 fq:m5 K Fb (fdOf (bH dQ K8) "quotedata" [] .none .none (fD K Fb) (iw K Fb) .none) (bodyOf (bH dQ K8))
 sum:l5 K "sum" (.builtin "sum")
 str:l5 K "str" (.type "str")
 range:l5 K "range" (.type "range")
 N6:nsIn K mainGlobals "bisect_right"=some (some (.ref Fd))
 N7:nsIn K mainGlobals "bisect_left"=some (some (.ref Fe))
 N5:nsIn K mainGlobals "quotedata"=some (some (.ref Fb))
structure u_ (K:Frag) (pr:List (Addr×Addr)):Prop where
 ga:findIn K (.ref aX) "__getattribute__"=some (some (.builtin "list.__getattribute__"))
 gt:findIn K (.ref aX) "__getattr__"=some none
 hd:hasDictIn K aX=true
 sub:mroIn K aX (.type "list")=some true
 nB:noSeq K aX=true
 gi:findIn K (.ref aX) "__getitem__"=some (some (.builtin "list.__getitem__"))
 si:findIn K (.ref aX) "__setitem__"=some (some (.builtin "list.__setitem__"))
 it:findIn K (.ref aX) "__iter__"=some (some (.builtin "list.__iter__"))
 app:findIn K (.ref aX) "append"=some (some (.builtin "list.append"))
 K7:findIn K (.ref aX) "_initial_size"=some none
 cls:K.lookup aX=some (tN K aX I_ [.type "list",.type "object"])
 CH:nsOkIn K I_=true
 CF:nsIn K I_ "__setattr__"=some none
 Qf:nsIn K I_ "_initial_size"=some none
 mP:pK.map (λx=>K.lookup x.1)=pK.map λx=>some x.2
 ini:m5 K BS (zA (fD K BS) (.ref (wB K BS)) (EL K BS)) (bodyOf (jt 0))
 push:m5 K d9 (uJ (fD K d9) (iw K d9)) (bodyOf (jt 1))
 from_:m5 K gE (uK (fD K gE) (iw K gE)) (bodyOf (jt 2))
 pop:m5 K gD (lQ (fD K gD) (.ref (wB K gD)) (EL K gD)) (bodyOf (jt 3))
 len:m5 K j5 (tF (fD K j5) (.ref (pr.getD 0 (0,0)).1)) (bodyOf (jt 4))
 str:m5 K j0 (tD (fD K j0) (.ref (pr.getD 1 (0,0)).1)) (bodyOf (jt 5))
 res:m5 K gY (tE (fD K gY) (iw K gY)) (bodyOf (jt 6))
 ws:m5 K mX (uI (fD K mX) (iw K mX)) (bodyOf (jt 7))
 pc:m5 K l_ (nK (fD K l_) (.ref (wB K l_)) (EL K l_)) (bodyOf (jt 8))
 cell:K.lookup wX=some (iK K wX)
 KD:(iK K wX).data = .cell (some (.ref aX))
 Ob:iZ K (wB K BS) dQ.main.file=true
 v9:iZ K (wB K gD) dQ.main.file=true
 N8:iZ K (wB K l_) dQ.main.file=true
 top:(dQ.main.scope.names.lookup ("super":Str)).isSome=false
 super:l5 K "super" (.type "super")
 op:nsIn K cStatics "thirdparty.any"=some none
 cd:clsIn K aX=some (eH K aX)
 RX:(eH K aX).mro=[.ref aX,.type "list",.type "object"]
 RW:(eH K aX).qualname=("_Accumulator":Str)
 tc:typeIn K (.ref aX)=some (.type "type")
 md:mroIn K aX (.type "module")=some false
 self:mroIn K aX (.ref aX)=some true
 bi:nsIn K mainGlobals "__builtins__"=some (some (.ref (refOf ((nsIn K mainGlobals "__builtins__").join.getD .none))))
 Of:Nat.beq (refOf ((nsIn K mainGlobals "__builtins__").join.getD .none)) builtinsNs=false
 RY:K.lookup (refOf ((nsIn K mainGlobals "__builtins__").join.getD .none))=some {cls:=.type "module",dict:=some builtinsNs,data:=.plain}
 K1:findIn K (.ref aX) "__bool__"=some none
 jV:fnIn K d9=true
 Fo:iM K aX=true
 kp:keepIn K (.ref aX)=true
 yC:eW K aX "__init__" BS
 Bj:nsIn K mainGlobals "EMPTYSTRING"=some (some (.str "" (Ct K mainGlobals "EMPTYSTRING")))
 iL:eW K aX "push" d9
 qB:eW K aX "pop_from" gE
 oK:eW K aX "pop" gD
 sO:eW K aX "__len__" j5
 jr:eW K aX "__str__" j0
 sN:eW K aX "reset" gY
 Ja:eW K aX "is_onlyws" mX
 A3:eW K aX "part_count" l_
structure C8 (K:Frag):Prop where
 ga:findIn K (.ref dm) "__getattribute__"=some (some (.builtin "object.__getattribute__"))
 hd:hasDictIn K dm=true
 gt:findIn K (.ref dm) "__getattr__"=some none
 cls:K.lookup dm=some (tN K dm sM [.type "object"])
 CH:nsOkIn K sM=true
 CF:nsIn K sM "__setattr__"=some none
 n1:nsIn K sM "_maxlen"=some none
 n2:nsIn K sM "_continuation_ws"=some none
 n3:nsIn K sM "_continuation_ws_len"=some none
 n4:nsIn K sM "_splitchars"=some none
 n5:nsIn K sM "_lines"=some none
 n6:nsIn K sM "_current_line"=some none
 K5:findIn K (.ref dm) "_maxlen"=some none
 K4:findIn K (.ref dm) "_splitchars"=some none
 K3:findIn K (.ref dm) "_lines"=some none
 K2:findIn K (.ref dm) "_current_line"=some none
 Fo:makesIn K dm=true
 kp:keepIn K (.ref dm)=true
 yC:eW K dm "__init__" E_
 ini:m5 K E_ (Kh (fD K E_) (iw K E_)) (bodyOf (um 0))
 str:m5 K jZ (zy (fD K jZ) (iw K jZ)) (bodyOf (um 1))
 vM:m5 K jD (lP (fD K jD) (iw K jD)) (bodyOf (um 3))
 app:m5 K iz (i0 (fD K iz) (iw K iz)) (bodyOf (um 8))
 lC:eW K dm "newline" jD
 jr:eW K dm "_str" jZ
 yG:eW K dm "_append_chunk" iz
 Bk:nsIn K mainGlobals "_Accumulator"=some (some (.ref aX))
section
variable {w:World} {K:Frag} {pairs:List (Addr×Addr)} {h0:Heap} {X:K.In h0} {C:FA K pairs} {hl:h0.objs.size - 1∉pairs.map (·.2)/\∃ o,h0.get? (h0.objs.size - 1)=some o}
theorem pB {K:Frag} {pairs:List (Addr×Addr)} {h0:Heap} (X:K.In h0):(a_ K pairs).In h0:=λa o e=>X _ _ (bR e).1
theorem fR {x:Str} {v:Value} (e:nsIn (a_ K pairs) mainGlobals x=some (some v)):(bF dQ w X C hl).mg x=some v:=CG (pB X) (.of_isNs (W2 X C.ng)) e
theorem cz {x:Str} {v:Value} (e:l5 (a_ K pairs) x v):(bF dQ w X C hl).mg x=none/\(bF dQ w X C hl).mb x=some v :=
 ⟨ns_none_of (pB X) (.of_isNs (W2 X C.ng)) e.1,CG (pB X) (.of_isNs (W2 X C.nb)) e.2⟩
theorem yq (H:mq (a_ K pairs) w.params):mj (bF dQ w X C hl):=⟨λh i=>xH (eE h i) H.bis,⟨_,_,H.br.ok⟩,⟨_,_,H.bl.ok⟩,cz H.len⟩
theorem Dy (H:mq (a_ K pairs) w.params):Lp (bF dQ w X C hl):=⟨H.p1.ok,H.p2.ok,fR H.g1,fR H.g2,⟨_,fR H.g3⟩,⟨_,_,H.fq.ok⟩⟩
theorem x_ {cd:ClassData} (h:cd.qualname=("_Accumulator":Str)):Ag cd:=by
 intro x;rw [h];kernel_rfl
theorem rZ (H:u_ (a_ K pairs) pairs) {fd:FuncData} {code:Addr} (h1:fd.scope.names.lookup ("super":Str)=some .globalImplicit) (h2:fd.scope.names.lookup ("__class__":Str)=some .free)
  (h3:∀ L,(cellsFrom (L+1) fd.scope.names fd.closure).lookup ("__class__":Str)=some wX) (h4:fd.code = .ref code) (h5:iZ (a_ K pairs) code dQ.main.file=true) :
  gZ (bF dQ w X C hl) (a_ K pairs) aX fd code wX:=by
 refine ⟨h1,h2,h3,λh i=>⟨_,eE h i _ _ H.cell,H.KD⟩,h4,λh i=>?_,H.top,(cz H.super).1,(cz H.super).2,H.op,⟨_,H.cd,H.RX,x_ H.RW⟩,H.tc,H.md,H.self⟩
 unfold iZ at h5
 split at h5
 ·rename_i c d vs sl hh
  split at h5
  ·rename_i f t hv
   exact ⟨_,vs,t,f,eE h i _ _ hh,rfl,hv,h5⟩
  ·cases h5
 ·cases h5
theorem yr (H:u_ (a_ K pairs) pairs) (Q:mq (a_ K pairs) w.params) (hp:2<=pairs.length):dN (bF dQ w X C hl) (a_ K pairs):=by
 have hmem:∀ i,i<2->pairs.getD i (0,0)∈pairs:=λi hi=>mem_getD _ (by exact Su hi hp)
 have e1:∀ pm code ct (L:Addr),(cellsFrom (L+1) (zA pm code ct).scope.names (zA pm code ct).closure).lookup ("__class__":Str)=some wX:=λpm code ct L=>by kernel_rfl
 have e2:∀ pm code ct (L:Addr),(cellsFrom (L+1) (lQ pm code ct).scope.names (lQ pm code ct).closure).lookup ("__class__":Str)=some wX:=λpm code ct L=>by kernel_rfl
 have e3:∀ pm code ct (L:Addr),(cellsFrom (L+1) (nK pm code ct).scope.names (nK pm code ct).closure).lookup ("__class__":Str)=some wX:=λpm code ct L=>by kernel_rfl
 exact {
  ok:=⟨eE,H.ga,H.gt,H.hd,H.sub,H.nB,H.gi,H.si,H.it,H.app,H.K7⟩
  st:=dZ H.cls H.CH H.CF H.Qf
  mP:=λh i=>xH (eE h i) H.mP
  ini:=⟨_,_,_,H.ini.ok,rZ H (by kernel_rfl) (by kernel_rfl) (e1 _ _ _) rfl H.Ob⟩
  push:=⟨_,_,H.push.ok⟩
  from_:=⟨_,_,H.from_.ok⟩
  pop:=⟨_,_,_,H.pop.ok,rZ H (by kernel_rfl) (by kernel_rfl) (e2 _ _ _) rfl H.v9⟩
  len:=⟨_,_,H.len.ok,yz (hmem 0 (by exact T7 (VV _)))⟩
  str:=⟨_,_,H.str.ok,yz (hmem 1 (by exact UX (VY _)))⟩
  res:=⟨_,_,H.res.ok⟩
  ws:=⟨_,_,H.ws.ok⟩
  pc:=⟨_,_,_,H.pc.ok,rZ H (by kernel_rfl) (by kernel_rfl) (e3 _ _ _) rfl H.N8⟩
  bi:=⟨_,fR H.bi,λh=>(by have:=H.Of;rw [h] at this;cases this),λh i=>⟨_,eE h i _ _ H.RY,rfl,rfl,rfl⟩⟩
  K1:=H.K1
  jV:=H.jV
  OR:=⟨eE,by rw [if_pos rfl];exact H.Fo,H.kp,H.yC.1,H.yC.2⟩
  low:=⟨(Heap.Ns.of_isNs (W2 X C.ng)).lt,(Heap.Ns.of_isNs (W2 X C.nb)).lt,(Heap.Ns.of_isNs (W2 X C.ns)).lt⟩
  Ew:=cz Q.sum
  tw:=cz Q.len
  zh:=cz Q.str
  Bj:=⟨_,fR H.Bj⟩
  iL:=H.iL
  qB:=H.qB
  oK:=H.oK
  sO:=H.sO
  jr:=H.jr
  sN:=H.sN
  Ja:=H.Ja
  A3:=H.A3}
theorem AW (V:C8 (a_ K pairs)) (H:u_ (a_ K pairs) pairs) (Q:mq (a_ K pairs) w.params) (hp:2<=pairs.length):fh (bF dQ w X C hl) (a_ K pairs) where
 acc:=yr H Q hp
 ok:=⟨eE,V.ga,V.hd⟩
 gt:=V.gt
 st1:=dZ V.cls V.CH V.CF V.n1
 st2:=dZ V.cls V.CH V.CF V.n2
 st3:=dZ V.cls V.CH V.CF V.n3
 OG:=dZ V.cls V.CH V.CF V.n4
 OF:=dZ V.cls V.CH V.CF V.n5
 OE:=dZ V.cls V.CH V.CF V.n6
 K5:=V.K5
 K4:=V.K4
 K3:=V.K3
 K2:=V.K2
 OQ:=⟨eE,by rw [if_neg (by decide)];exact V.Fo,V.kp,V.yC.1,V.yC.2⟩
 ini:=⟨_,_,V.ini.ok⟩
 str:=⟨_,_,V.str.ok⟩
 vM:=⟨_,_,V.vM.ok⟩
 app:=⟨_,_,V.app.ok⟩
 lC:=V.lC
 jr:=V.jr
 yG:=V.yG
 Bk:=fR V.Bk
 jw:=cz Q.range
end
end Mine
namespace Mine
open PySem PySem.W PyProof.Rows
structure u9 (K:Frag):Prop where
 RM:m5 K Fc (fdOf (bH dQ Fq) "law" [] .none .none (fD K Fc) (iw K Fc) .none) (bodyOf (bH dQ Fq))
 RN:m5 K BR (fdOf (bH dQ K9) "_law_rows" [] .none .none (fD K BR) (iw K BR) .none) (bodyOf (bH dQ K9))
 RO:m5 K C6 (fdOf (bH dQ Jw) "_law_orders" [] .none .none (fD K C6) (iw K C6) .none) (bodyOf (bH dQ Jw))
 max:l5 K "max" (.builtin "max")
 min:l5 K "min" (.builtin "min")
 sorted:l5 K "sorted" (.builtin "sorted")
 set:l5 K "set" (.type "set")
 enum:l5 K "enumerate" (.type "enumerate")
 rows:nsIn K mainGlobals "_law_rows"=some (some (.ref BR))
 orders:nsIn K mainGlobals "_law_orders"=some (some (.ref C6))
 N3:nsIn K mainGlobals "_ValueFormatter"=some (some (.ref dm))
section
variable {w:World} {K:Frag} {pairs:List (Addr×Addr)} {h0:Heap} {X:K.In h0} {C:FA K pairs} {hl:h0.objs.size - 1∉pairs.map (·.2)/\∃ o,h0.get? (h0.objs.size - 1)=some o}
theorem AX (H:u9 (a_ K pairs)) (Q:mq (a_ K pairs) w.params):mZ (bF dQ w X C hl) :=
 ⟨⟨_,_,H.RM.ok⟩,cz Q.sum,cz Q.len,cz H.max,cz H.min,cz H.sorted,cz H.set,cz Q.range,cz H.enum,fR H.rows,fR H.orders,fR Q.N5,fR Q.N7,fR Q.N6⟩
theorem AY (H:u9 (a_ K pairs)):wM (bF dQ w X C hl):=⟨⟨_,_,H.RN.ok⟩,fR H.N3⟩
theorem AZ (H:u9 (a_ K pairs)) (Q:mq (a_ K pairs) w.params):BX (bF dQ w X C hl):=⟨⟨_,_,H.RO.ok⟩,cz Q.range,cz H.enum⟩
theorem AU {s s':Shared} (e:s.heap=h0) (S:aG (bF dQ w X C hl) [] s s'):OldK s.heap s'.heap:=by
 have iv:(bF dQ w X C hl).inv s.heap:=by rw [e];exact yy
 have Qp:KU h0 pairs s'.heap:=S.inv iv
 have key:∀ b o,s.heap.get? b=some o->asItWas s.heap s'.heap b o/\∃ o',s'.heap.get? b=some o':=λb o hb=>by
  by_cases hm:b∈pairs.map (·.2)
  ·refine ob1_2 (S7.mp hm) λx hx aA=>?_;obtain rfl:=aA
   refine ob1_2 (Qp.code x hx) λps aC z! =>ob0_3 aC λz! z! e2=>?_
   have T:=(iV X (gz C.gen x hx)).2
   rw [<- e] at T
   have e3:=T.2
   rw [hb] at e3
   cases e3
   exact ⟨.inr (.inl ⟨T.isCodeTable,rfl,#[],ps,rfl,by rw [e2];simp⟩),_,e2⟩
  ·have:=S.keep b o Tq hm hb
   exact ⟨.inl this,_,this⟩
 exact ⟨λb o hb=>(key b o hb).1,λb o hb=>(key b o hb).2⟩
theorem zk {c:ClaimW} {cl:Str->Option Addr} {mean:ExcName->Option Value} {args:List WData} {s s':Shared} {v:Value} (e:s.heap=h0) (S:aG (bF dQ w X C hl) [] s s') (hg:s.gens = #[]) (rv:Rep [] s'.heap (.bool true) v)
  (hr:∀ cls,c.raises args cls=false) (hp:c.post args (.bool true) args=true):GoodWG c cl mean args s (.ok (.ret v)) s':=by
 rw [Rep] at rv;subst rv
 refine ⟨.inl ⟨_,_,[],rfl,hr,ReadsW.bool true,hp,λz! => ⟨List.nodup_nil,λz! hm=>(nomatch hm)⟩⟩,AU e S,S.os,?_⟩
 refine ob1_2 S.gens λl h1 h2=>?_
 rw [hg] at h1
 intro y hy
 exact h2 y (by have:=Array.mem_toList_iff.mpr hy;rw [h1] at this;simpa using this)
end
theorem m6 {P:Params} {h:Heap}:∀ {xs:List Int} {vs:List Value},WellAll P h vs (ofPys (xs.map PyData.int))->ah [] h (xs.map PV.int) vs
 | [],vs,w=>by
  cases w
  rw [VG,ah]
 | x::xs,vs,w=>by
  rw [S_,ofPys,ofPy] at w
  cases w with
  | cons h1 h2 =>
   cases h1
   rw [S_,ah]
   exact ⟨_,_,rfl,Rep.int,m6 h2⟩
theorem sA {P:Params} {h:Heap} {a:Addr} {xs:List Int} (hx:xs.length<=lim) (wl:Well P h (.ref a) (ofPy (PyData.list (xs.map PyData.int)))):Rep [] h (.lst (xs.map PV.int)) (.ref a):=by
 rw [ofPy] at wl
 cases wl with
 | list e r =>
  rw [Rep]
  exact ⟨by rw [Sq];exact hx,a,_,rfl,Tq,⟨_,e⟩,m6 r⟩
noncomputable abbrev prs:List (Addr×Addr):=[(161,157),(168,164)]
theorem law1_done {w:World} {K:Frag} {s:Shared} (X:K.In s.heap) (C:FA K prs) (Q:mq (a_ K prs) w.params) (A:u_ (a_ K prs) prs) (V:C8 (a_ K prs)) (H:u9 (a_ K prs)) {a:Addr} (hsz:s.heap.objs.size=a+1)
  (ha:a∉prs.map (·.2)) {script:List Int} {vs:List Value} (hb:vs.length=script.length/\script.length<=2 ^ 20) (wl:Well w.params s.heap (.ref a) (ofPy (PyData.list (script.map PyData.int)))) (hg:s.gens = #[])
  {c:ClaimW} {cl:Str->Option Addr} {mean:ExcName->Option Value} {args:List WData} (hr:∀ cls,c.raises args cls=false) (hp:c.post args (.bool true) args=true) :
  wpAny (model dQ w) callerA (call (.ref Fc) [.ref a]) (λv s'=>GoodWG c cl mean args s (.ok (.ret v)) s') (λe s'=>GoodWG c cl mean args s (.error e) s') s:=by
 have hr1:=sA hb.2 wl
 have hsz':s.heap.objs.size - 1=a:=by rw [hsz];exact Uk ..
 have hl:s.heap.objs.size - 1∉prs.map (·.2)/\∃ o,s.heap.get? (s.heap.objs.size - 1)=some o:=by
  rw [hsz']
  refine ⟨ha,?_⟩
  rw [Rep] at hr1
  refine ob0_2 hr1 λz! az=>ob2_4 az λb us e z! aY z! =>ob1_1 aY λn h=>?_
  cases e
  exact ⟨_,h⟩
 have room:cF callerA (0+11):=⟨rfl,by decide,by decide⟩
 have F:=DQ (n:=0) (AX (w:=w) (X:=X) (C:=C) (hl:=hl) H Q) (yq Q) (Dy Q) (AW V A Q (by decide)) (AY H) (AZ H Q) script
 refine Vf (F callerA [] s [.ref a] room yy (λb hb=>absurd hb Tq) (ah.cons.mpr ⟨_,_,rfl,hr1,ah.nil.mpr rfl⟩)) (λv s' h=>zk rfl h.1 hg h.2 hr hp) λe s' h=>h.elim
end Mine
open PySem PySem.W PySem.W.X PySem.W.ZRun PyProof.Rows
set_option maxRecDepth 100000 in
set_option maxHeartbeats 0 in
theorem PySem.Challenge.cw_rs0183_01_holds : PySem.Challenge.rw_rs0183_01.Holds := by
  w_on
  refine holds_law (by kernel_rfl) fun said => ?_
  z_head
  case hw => w_witness2
  k_fill
  intro w s₀ s₁ mg mb G y fa o pm cd doc dV kV ho hd hcd hD hmg hg args vals as L hpre hlay hrd hwl hlo
  z_open y L KX ZH ZN ZT
  refine Ground.open G ?_
  intro T B D TE TW
  wrow_args hpre hlay hrd hwl hlo
  obtain ⟨hat, hsz⟩ := script_at L
  have htk := script_toks L ZT
  rw [ZN] at hat hsz
  subst hat
  x_fa T KX hmg
  all_lens
  refine Mine.law1_done KX ?_ ?_ ?_ ?_ ?_ hsz (by decide) (by assumption) (by assumption) hg (fun _ => rfl) ?_
  · constructor <;> first | kernel_rfl | decide | (repeat' (first | kernel_rfl | exact trivial | constructor))
  · constructor <;> first | kernel_rfl | (constructor <;> kernel_rfl)
  · constructor <;> first | kernel_rfl | (constructor <;> kernel_rfl)
  · constructor <;> first | kernel_rfl | (constructor <;> kernel_rfl)
  · constructor <;> first | kernel_rfl | (constructor <;> kernel_rfl)
  · first | rfl | wrow_post
