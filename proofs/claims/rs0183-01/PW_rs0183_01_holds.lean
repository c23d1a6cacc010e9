import PyProof.Rows.All
import PyProof.Rows.ListMul
import Wide.All
import OpenK.AllK
import Wide.FinOn
import Lean
import PySem.Challenge.RW_rs0183_01
set_option Elab.async false
set_option maxRecDepth 100000
set_option maxHeartbeats 4000000
set_option linter.unusedVariables false
open PySem PySem.W PyProof.Rows
universe u
set_option compiler.extract_closed false
set_option bootstrap.genMatcherCode false
set_option genInjectivity false
set_option genSizeOf false
set_option genSizeOfSpec false
namespace Mine
@[elab_as_elim] theorem rwT {α : Sort u} {a b : α} {p : α → Prop} (h : a = b) (x : p b) : p a := h ▸ x
theorem ob0_2 {p q:Prop}{g:Prop} (h:p∧q) (K:p→q→g):g:=K h.1 h.2
theorem ob0_3 {p q r:Prop}{g:Prop} (h:p∧q∧r) (K:p→q→r→g):g:=K h.1 h.2.1 h.2.2
theorem ob0_4 {p q r s:Prop}{g:Prop} (h:p∧q∧r∧s) (K:p→q→r→s→g):g:=K h.1 h.2.1 h.2.2.1 h.2.2.2
theorem ob0_5 {p q r s t:Prop}{g:Prop} (h:p∧q∧r∧s∧t) (K:p→q→r→s→t→g):g:=K h.1 h.2.1 h.2.2.1 h.2.2.2.1 h.2.2.2.2
theorem ob1_1 {A:Sort _}{p:A→Prop}{g:Prop} (h:∃ a,p a) (K:∀ a,p a→g):g:=h.elim fun a h=>K a h
theorem ob1_2 {A:Sort _}{p q:A→Prop}{g:Prop} (h:∃ a,p a∧q a) (K:∀ a,p a→q a→g):g:=h.elim fun a h=>K a h.1 h.2
theorem ob1_3 {A:Sort _}{p q r:A→Prop}{g:Prop} (h:∃ a,p a∧q a∧r a) (K:∀ a,p a→q a→r a→g):g:=h.elim fun a h=>K a h.1 h.2.1 h.2.2
theorem ob1_4 {A:Sort _}{p q r s:A→Prop}{g:Prop} (h:∃ a,p a∧q a∧r a∧s a) (K:∀ a,p a→q a→r a→s a→g):g:=h.elim fun a h=>K a h.1 h.2.1 h.2.2.1 h.2.2.2
theorem ob1_5 {A:Sort _}{p q r s t:A→Prop}{g:Prop} (h:∃ a,p a∧q a∧r a∧s a∧t a) (K:∀ a,p a→q a→r a→s a→t a→g):g:=h.elim fun a h=>K a h.1 h.2.1 h.2.2.1 h.2.2.2.1 h.2.2.2.2
theorem ob2_1 {A:Sort _}{B:Sort _}{p:A→B→Prop}{g:Prop} (h:∃ a b,p a b) (K:∀ a b,p a b→g):g:=h.elim fun a h=>h.elim fun b h=>K a b h
theorem ob2_2 {A:Sort _}{B:Sort _}{p q:A→B→Prop}{g:Prop} (h:∃ a b,p a b∧q a b) (K:∀ a b,p a b→q a b→g):g:=h.elim fun a h=>h.elim fun b h=>K a b h.1 h.2
theorem ob2_3 {A:Sort _}{B:Sort _}{p q r:A→B→Prop}{g:Prop} (h:∃ a b,p a b∧q a b∧r a b) (K:∀ a b,p a b→q a b→r a b→g):g:=h.elim fun a h=>h.elim fun b h=>K a b h.1 h.2.1 h.2.2
theorem ob2_4 {A:Sort _}{B:Sort _}{p q r s:A→B→Prop}{g:Prop} (h:∃ a b,p a b∧q a b∧r a b∧s a b) (K:∀ a b,p a b→q a b→r a b→s a b→g):g:=h.elim fun a h=>h.elim fun b h=>K a b h.1 h.2.1 h.2.2.1 h.2.2.2
theorem ob2_5 {A:Sort _}{B:Sort _}{p q r s t:A→B→Prop}{g:Prop} (h:∃ a b,p a b∧q a b∧r a b∧s a b∧t a b) (K:∀ a b,p a b→q a b→r a b→s a b→t a b→g):g:=h.elim fun a h=>h.elim fun b h=>K a b h.1 h.2.1 h.2.2.1 h.2.2.2.1 h.2.2.2.2
theorem ob3_1 {A:Sort _}{B:Sort _}{C:Sort _}{p:A→B→C→Prop}{g:Prop} (h:∃ a b c,p a b c) (K:∀ a b c,p a b c→g):g:=h.elim fun a h=>h.elim fun b h=>h.elim fun c h=>K a b c h
theorem ob3_2 {A:Sort _}{B:Sort _}{C:Sort _}{p q:A→B→C→Prop}{g:Prop} (h:∃ a b c,p a b c∧q a b c) (K:∀ a b c,p a b c→q a b c→g):g:=h.elim fun a h=>h.elim fun b h=>h.elim fun c h=>K a b c h.1 h.2
theorem ob3_3 {A:Sort _}{B:Sort _}{C:Sort _}{p q r:A→B→C→Prop}{g:Prop} (h:∃ a b c,p a b c∧q a b c∧r a b c) (K:∀ a b c,p a b c→q a b c→r a b c→g):g:=h.elim fun a h=>h.elim fun b h=>h.elim fun c h=>K a b c h.1 h.2.1 h.2.2
theorem ob3_4 {A:Sort _}{B:Sort _}{C:Sort _}{p q r s:A→B→C→Prop}{g:Prop} (h:∃ a b c,p a b c∧q a b c∧r a b c∧s a b c) (K:∀ a b c,p a b c→q a b c→r a b c→s a b c→g):g:=h.elim fun a h=>h.elim fun b h=>h.elim fun c h=>K a b c h.1 h.2.1 h.2.2.1 h.2.2.2
theorem ob3_5 {A:Sort _}{B:Sort _}{C:Sort _}{p q r s t:A→B→C→Prop}{g:Prop} (h:∃ a b c,p a b c∧q a b c∧r a b c∧s a b c∧t a b c) (K:∀ a b c,p a b c→q a b c→r a b c→s a b c→t a b c→g):g:=h.elim fun a h=>h.elim fun b h=>h.elim fun c h=>K a b c h.1 h.2.1 h.2.2.1 h.2.2.2.1 h.2.2.2.2
theorem ob4_2 {A:Sort _}{B:Sort _}{C:Sort _}{D:Sort _}{p q:A→B→C→D→Prop}{g:Prop} (h:∃ a b c d,p a b c d∧q a b c d) (K:∀ a b c d,p a b c d→q a b c d→g):g:=h.elim fun a h=>h.elim fun b h=>h.elim fun c h=>h.elim fun d h=>K a b c d h.1 h.2
theorem ob4_3 {A:Sort _}{B:Sort _}{C:Sort _}{D:Sort _}{p q r:A→B→C→D→Prop}{g:Prop} (h:∃ a b c d,p a b c d∧q a b c d∧r a b c d) (K:∀ a b c d,p a b c d→q a b c d→r a b c d→g):g:=h.elim fun a h=>h.elim fun b h=>h.elim fun c h=>h.elim fun d h=>K a b c d h.1 h.2.1 h.2.2
theorem ob4_4 {A:Sort _}{B:Sort _}{C:Sort _}{D:Sort _}{p q r s:A→B→C→D→Prop}{g:Prop} (h:∃ a b c d,p a b c d∧q a b c d∧r a b c d∧s a b c d) (K:∀ a b c d,p a b c d→q a b c d→r a b c d→s a b c d→g):g:=h.elim fun a h=>h.elim fun b h=>h.elim fun c h=>h.elim fun d h=>K a b c d h.1 h.2.1 h.2.2.1 h.2.2.2
theorem ob4_5 {A:Sort _}{B:Sort _}{C:Sort _}{D:Sort _}{p q r s t:A→B→C→D→Prop}{g:Prop} (h:∃ a b c d,p a b c d∧q a b c d∧r a b c d∧s a b c d∧t a b c d) (K:∀ a b c d,p a b c d→q a b c d→r a b c d→s a b c d→t a b c d→g):g:=h.elim fun a h=>h.elim fun b h=>h.elim fun c h=>h.elim fun d h=>K a b c d h.1 h.2.1 h.2.2.1 h.2.2.2.1 h.2.2.2.2
theorem ob4_8 {A:Sort _}{B:Sort _}{C:Sort _}{D:Sort _}{p q r s t u v w:A→B→C→D→Prop}{g:Prop} (h:∃ a b c d,p a b c d∧q a b c d∧r a b c d∧s a b c d∧t a b c d∧u a b c d∧v a b c d∧w a b c d) (K:∀ a b c d,p a b c d→q a b c d→r a b c d→s a b c d→t a b c d→u a b c d→v a b c d→w a b c d→g):g:=h.elim fun a h=>h.elim fun b h=>h.elim fun c h=>h.elim fun d h=>K a b c d h.1 h.2.1 h.2.2.1 h.2.2.2.1 h.2.2.2.2.1 h.2.2.2.2.2.1 h.2.2.2.2.2.2.1 h.2.2.2.2.2.2.2
theorem ob4_10 {A:Sort _}{B:Sort _}{C:Sort _}{D:Sort _}{p q r s t u v w z P:A→B→C→D→Prop}{g:Prop} (h:∃ a b c d,p a b c d∧q a b c d∧r a b c d∧s a b c d∧t a b c d∧u a b c d∧v a b c d∧w a b c d∧z a b c d∧P a b c d) (K:∀ a b c d,p a b c d→q a b c d→r a b c d→s a b c d→t a b c d→u a b c d→v a b c d→w a b c d→z a b c d→P a b c d→g):g:=h.elim fun a h=>h.elim fun b h=>h.elim fun c h=>h.elim fun d h=>K a b c d h.1 h.2.1 h.2.2.1 h.2.2.2.1 h.2.2.2.2.1 h.2.2.2.2.2.1 h.2.2.2.2.2.2.1 h.2.2.2.2.2.2.2.1 h.2.2.2.2.2.2.2.2.1 h.2.2.2.2.2.2.2.2.2
theorem ob5_1 {A:Sort _}{B:Sort _}{C:Sort _}{D:Sort _}{E:Sort _}{p:A→B→C→D→E→Prop}{g:Prop} (h:∃ a b c d e,p a b c d e) (K:∀ a b c d e,p a b c d e→g):g:=h.elim fun a h=>h.elim fun b h=>h.elim fun c h=>h.elim fun d h=>h.elim fun e h=>K a b c d e h
theorem ob5_3 {A:Sort _}{B:Sort _}{C:Sort _}{D:Sort _}{E:Sort _}{p q r:A→B→C→D→E→Prop}{g:Prop} (h:∃ a b c d e,p a b c d e∧q a b c d e∧r a b c d e) (K:∀ a b c d e,p a b c d e→q a b c d e→r a b c d e→g):g:=h.elim fun a h=>h.elim fun b h=>h.elim fun c h=>h.elim fun d h=>h.elim fun e h=>K a b c d e h.1 h.2.1 h.2.2
theorem ob5_5 {A:Sort _}{B:Sort _}{C:Sort _}{D:Sort _}{E:Sort _}{p q r s t:A→B→C→D→E→Prop}{g:Prop} (h:∃ a b c d e,p a b c d e∧q a b c d e∧r a b c d e∧s a b c d e∧t a b c d e) (K:∀ a b c d e,p a b c d e→q a b c d e→r a b c d e→s a b c d e→t a b c d e→g):g:=h.elim fun a h=>h.elim fun b h=>h.elim fun c h=>h.elim fun d h=>h.elim fun e h=>K a b c d e h.1 h.2.1 h.2.2.1 h.2.2.2.1 h.2.2.2.2
theorem ob5_7 {A:Sort _}{B:Sort _}{C:Sort _}{D:Sort _}{E:Sort _}{p q r s t u v:A→B→C→D→E→Prop}{g:Prop} (h:∃ a b c d e,p a b c d e∧q a b c d e∧r a b c d e∧s a b c d e∧t a b c d e∧u a b c d e∧v a b c d e) (K:∀ a b c d e,p a b c d e→q a b c d e→r a b c d e→s a b c d e→t a b c d e→u a b c d e→v a b c d e→g):g:=h.elim fun a h=>h.elim fun b h=>h.elim fun c h=>h.elim fun d h=>h.elim fun e h=>K a b c d e h.1 h.2.1 h.2.2.1 h.2.2.2.1 h.2.2.2.2.1 h.2.2.2.2.2.1 h.2.2.2.2.2.2
theorem ob6_1 {A:Sort _}{B:Sort _}{C:Sort _}{D:Sort _}{E:Sort _}{F:Sort _}{p:A→B→C→D→E→F→Prop}{g:Prop} (h:∃ a b c d e f,p a b c d e f) (K:∀ a b c d e f,p a b c d e f→g):g:=h.elim fun a h=>h.elim fun b h=>h.elim fun c h=>h.elim fun d h=>h.elim fun e h=>h.elim fun f h=>K a b c d e f h
theorem fl {n : Nat} (h : Nat.ble n 1000 = true) : n ≤ PySem.sizeLine := Nat.le_trans (Nat.le_of_ble_eq_true h) (by decide +kernel)
theorem fm {n k : Nat} (h : Nat.ble n 1000 = true) : n ≤ PySem.sizeLine + k := Nat.le_trans (fl h) (Nat.le_add_right _ _)
end Mine
local macro_rules
  | `(tactic| rw [$r]) => `(tactic| (erw [$r]; try with_reducible rfl))
  | `(tactic| rw [$r, $rs,*]) => `(tactic| (erw [$r]; rw [$rs,*]))
local macro_rules
  | `(tactic| erw [$e:term]) => `(tactic| first | with_reducible refine Mine.rwT ($e ..) ?_ | rewrite [$e:term])
  | `(tactic| erw [← $e:term]) => `(tactic| first | with_reducible refine Mine.rwT (Eq.symm ($e ..)) ?_ | rewrite [← $e:term])
local macro_rules
  | `(tactic| size_fits) => `(tactic| first | exact Mine.fm rfl | exact Mine.fl rfl)
local macro_rules
  | `(tactic| show $t) => `(tactic| refine (?_ : $t))
namespace Mine.LA
inductive T where | v (i:Nat) | n (k:Nat) | a (x y:T) | s (x y:T) | m (k:Nat) (x:T) | l (x y:T) | u (x y:T)
inductive B where | e (x y:T) | q (x y:T) | i (f g:B) | z | o (f g:B) | c (f g:B)
noncomputable abbrev Po:=List Int
noncomputable def KH:List Nat->Nat->Nat
 | [],_=>0
 | x::_,0=>x
 | _::r,i+1=>KH r i
noncomputable def T.den (xs:List Nat):T->Nat
 | v i=>KH xs i
 | n k=>k
 | a x y=>x.den xs+y.den xs
 | s x y=>x.den xs - y.den xs
 | m k x=>k * x.den xs
 | l x y=>min (x.den xs) (y.den xs)
 | u x y=>max (x.den xs) (y.den xs)
noncomputable def B.den (xs:List Nat):B->Prop
 | .e x y=>x.den xs<=y.den xs
 | .q x y=>x.den xs=y.den xs
 | .i f g=>f.den xs->g.den xs
 | .z=>False
 | .o f g=>f.den xs\/g.den xs
 | .c f g=>f.den xs/\g.den xs
noncomputable def dot:List Nat->Po->Int
 | x::xs,p::ps=>x * p+dot xs ps
 | _,_=>0
noncomputable def oj:Po->Po->Po
 | p::ps,q::qs=>(p+q)::oj ps qs
 | [],qs=>qs
 | ps,[]=>ps
noncomputable def vo (k:Int) (p:Po):Po:=p.map (k * ·)
noncomputable def fQ (p q:Po):Po:=oj p (vo (-1) q)
noncomputable def unit:Nat->Po
 | 0=>[1]
 | i+1=>0::unit i
theorem kq (p q:Po) (xs:List Nat):dot xs (oj p q)=dot xs p+dot xs q:=by
 induction xs generalizing p q with
 | nil=>rfl
 | cons x xs ih =>
  cases p with
  | nil=>cases q <;> exact (Int.zero_add _).symm
  | cons a p=>cases q with
   | nil=>exact (Int.add_zero _).symm
   | cons b q =>
    refine (congrArg _ (ih p q)).trans ?_
    show (x:Int) * (a+b)+(dot xs p+dot xs q)=_
    rewrite [Int.mul_add]
    exact (Int.add_assoc ..).trans ((congrArg _ (Int.add_left_comm ..)).trans (Int.add_assoc ..).symm)
theorem ko (k:Int) (p:Po) (xs:List Nat):dot xs (vo k p)=k * dot xs p:=by
 induction xs generalizing p with
 | nil=>exact (Int.mul_zero _).symm
 | cons x xs ih =>
  cases p with
  | nil=>exact (Int.mul_zero _).symm
  | cons a p =>
   show x * (k * a)+dot xs (vo k p)=k * (x * a+dot xs p)
   rw [ih,Int.mul_add,Int.mul_left_comm]
theorem xu {p q:Po} {xs:List Nat} {m n:Nat} (h:n<=m) (hp:dot xs p=m) (hq:dot xs q=n):dot xs (fQ p q)=((m - n:Nat):Int):=by
 unfold fQ
 rewrite [kq,ko,hp,hq,Int.neg_one_mul,<- Int.sub_eq_add_neg]
 exact (Int.ofNat_sub h).symm
theorem fZ {p q:Po} {xs:List Nat} {m n:Nat} (h:n<=m) (hp:dot xs p=m) (hq:dot xs q=n):0<=dot xs (fQ p q):=by
 rewrite [xu h hp hq];exact Int.natCast_nonneg _
theorem iZ (ys:List Nat):dot ys []=0:=by cases ys <;> rfl
theorem qR (xs:List Nat) (i:Nat):dot xs (unit i)=KH xs i:=by
 induction xs generalizing i with
 | nil=>cases i <;> rfl
 | cons x xs ih =>
  cases i with
  | zero=>exact (congrArg _ (iZ xs)).trans ((Int.add_zero _).trans (Int.mul_one _))
  | succ i =>
   show (x:Int) * 0+dot xs (unit i)=KH xs i
   rewrite [ih,Int.mul_zero]
   exact Int.zero_add _
noncomputable def bin (l m:List (List Po×Po)) (f:Po->Po->List (List Po×Po)):List (List Po×Po):=l.flatMap λc=>m.flatMap λd=>(f c.2 d.2).map λe=>(e.1++(c.1++d.1),e.2)
noncomputable def wH:T->List (List Po×Po)
 | .v i=>[([],unit (i+1))]
 | .n k=>[([],[(k:Int)])]
 | .a x y=>bin (wH x) (wH y) λp q=>[([],oj p q)]
 | .s x y=>bin (wH x) (wH y) λp q=>[([fQ p q],fQ p q),([fQ q p],[])]
 | .m k x=>(wH x).map λc=>(c.1,vo k c.2)
 | .l x y=>bin (wH x) (wH y) λp q=>[([fQ p q],q),([fQ q p],p)]
 | .u x y=>bin (wH x) (wH y) λp q=>[([fQ p q],p),([fQ q p],q)]
noncomputable def Al (ys:List Nat) (l:List Po):Prop:=∀ q∈l,0<=dot ys q
theorem Al.app {ys:List Nat} {l m:List Po} (h:Al ys l) (h':Al ys m):Al ys (l++m):=λq hq=>(List.mem_append.mp hq).elim (h q) (h' q)
theorem Al.cons {ys:List Nat} {p:Po} {l:List Po} (h:0<=dot ys p) (h':Al ys l):Al ys (p::l):=λq hq=>(List.mem_cons.mp hq).elim (λe=>e▸h) (h' q)
theorem Al.nil {ys:List Nat}:Al ys []:=λ_ h=>nomatch h
noncomputable abbrev Ok (ys:List Nat) (l:List (List Po×Po)) (n:Nat):Prop:=∃ c,c∈l/\Al ys c.1/\dot ys c.2=n
theorem Ok.hd {ys:List Nat} {c:List Po×Po} {l:List (List Po×Po)} {n:Nat} (h:Al ys c.1) (e:dot ys c.2=n):Ok ys (c::l) n:=⟨c,List.mem_cons_self ..,h,e⟩
theorem Ok.tl {ys:List Nat} {c:List Po×Po} {l:List (List Po×Po)} {n:Nat} (h:Ok ys l n):Ok ys (c::l) n:=h.elim λd h=>⟨d,List.mem_cons_of_mem _ h.1,h.2⟩
theorem Al.one {ys:List Nat} {p:Po} (h:0<=dot ys p):Al ys [p]:=.cons h .nil
theorem lV {ys:List Nat} {l m:List (List Po×Po)} {f:Po->Po->List (List Po×Po)} {i j n:Nat} (h:Ok ys l i) (h':Ok ys m j) (hf:∀ p q,dot ys p=i->dot ys q=j->Ok ys (f p q) n):Ok ys (bin l m f) n:=by
 obtain ⟨c,hc,h1,h2⟩:=h
 obtain ⟨d,hd,h3,h4⟩:=h'
 obtain ⟨e,he,h5,h6⟩:=hf _ _ h2 h4
 exact ⟨_,List.mem_flatMap.mpr ⟨c,hc,List.mem_flatMap.mpr ⟨d,hd,List.mem_map.mpr ⟨e,he,rfl⟩⟩⟩,h5.app (h1.app h3),h6⟩
theorem pV {ys:List Nat} {p q a b:Po} {m n k:Nat} (hp:dot ys p=m) (hq:dot ys q=n) (h:n<=m->dot ys a=k) (h':m<=n->dot ys b=k):Ok ys [([fQ p q],a),([fQ q p],b)] k :=
 (Nat.le_total n m).elim (λe=>.hd (.one (fZ e hp hq)) (h e)) λe=>.tl (.hd (.one (fZ e hq hp)) (h' e))
theorem yz (xs:List Nat) (t:T):Ok (1::xs) (wH t) (t.den xs):=by
 induction t with
 | v i=>exact .hd .nil (qR ..)
 | n k=>exact .hd .nil ((congrArg _ (iZ xs)).trans ((Int.add_zero _).trans (Int.one_mul _)))
 | m k x ih=>exact ih.elim λc h=>⟨_,List.mem_map.mpr ⟨c,h.1,rfl⟩,h.2.1,(ko ..).trans ((congrArg _ h.2.2).trans (Int.natCast_mul ..).symm)⟩
 | a x y ih ih'=>exact lV ih ih' λp q hp hq=>.hd .nil ((kq ..).trans (hp▸hq▸(Int.natCast_add ..).symm))
 | s x y ih ih'=>exact lV ih ih' λp q hp hq=>pV hp hq (λh=>xu h hp hq) λh=>(iZ _).trans (congrArg _ (Nat.sub_eq_zero_of_le h).symm)
 | l x y ih ih'=>exact lV ih ih' λp q hp hq=>pV hp hq (λh=>hq.trans (congrArg _ (Nat.min_eq_right h).symm)) λh=>hp.trans (congrArg _ (Nat.min_eq_left h).symm)
 | u x y ih ih'=>exact lV ih ih' λp q hp hq=>pV hp hq (λh=>hp.trans (congrArg _ (Nat.max_eq_left h).symm)) λh=>hq.trans (congrArg _ (Nat.max_eq_right h).symm)
noncomputable def Kv (x y:T) (f:Po->Po->List (List Po)):List (List Po):=(bin (wH x) (wH y) λp q=>(f p q).map (·,[])).map (·.1)
noncomputable def Bq (l m:List (List Po)):List (List Po):=l.flatMap λa=>m.map (a ++ ·)
noncomputable def tE:Bool->B->List (List Po)
 | true,.e x y=>Kv x y λp q=>[[fQ q p]]
 | false,.e x y=>Kv x y λp q=>[[fQ p (oj q [1])]]
 | true,.q x y=>Kv x y λp q=>[[fQ q p,fQ p q]]
 | false,.q x y=>Kv x y λp q=>[[fQ p (oj q [1])],[fQ q (oj p [1])]]
 | true,.i f g=>tE false f++tE true g
 | false,.i f g=>Bq (tE true f) (tE false g)
 | true,.z=>[]
 | false,.z=>[[]]
 | true,.o f g=>tE true f++tE true g
 | false,.o f g=>Bq (tE false f) (tE false g)
 | true,.c f g=>Bq (tE true f) (tE true g)
 | false,.c f g=>tE false f++tE false g
theorem o6 {xs:List Nat} {x y:T} {f:Po->Po->List (List Po)} (h:∀ p q,dot (1::xs) p=x.den xs->dot (1::xs) q=y.den xs->∃ l,l∈f p q/\Al (1::xs) l):∃ l,l∈Kv x y f/\Al (1::xs) l :=
 (lV (n:=0) (yz xs x) (yz xs y) (f:=λp q=>(f p q).map (·,[])) λp q hp hq=>(h p q hp hq).elim λl h=>⟨(l,[]),List.mem_map.mpr ⟨l,h.1,rfl⟩,h.2,iZ _⟩).elim λc h=>⟨c.1,List.mem_map.mpr ⟨c,h.1,rfl⟩,h.2.1⟩
theorem oV {ys:List Nat} {l m:List (List Po)} (h:∃ a,a∈l/\Al ys a) (h':∃ a,a∈m/\Al ys a):∃ a,a∈Bq l m/\Al ys a:=by
 obtain ⟨a,ha,h1⟩:=h
 obtain ⟨b,hb,h2⟩:=h'
 exact ⟨_,List.mem_flatMap.mpr ⟨a,ha,List.mem_map.mpr ⟨b,hb,rfl⟩⟩,h1.app h2⟩
theorem xY {ys:List Nat} {l m:List (List Po)} (h:(∃ a,a∈l/\Al ys a)\/∃ a,a∈m/\Al ys a):∃ a,a∈l++m/\Al ys a:=by
 rcases h with ⟨a,ha,h⟩ | ⟨a,ha,h⟩
 ·exact ⟨a,List.mem_append_left _ ha,h⟩
 ·exact ⟨a,List.mem_append_right _ ha,h⟩
theorem tn {q:Po} {xs:List Nat} {n:Nat} (h:dot (1::xs) q=n):dot (1::xs) (oj q [1])=((n+1:Nat):Int) :=
 (kq ..).trans (h▸congrArg (_ + ·) ((congrArg _ (iZ xs)).trans rfl))
theorem ED (xs:List Nat) (F:B):(F.den xs->∃ l,l∈tE true F/\Al (1::xs) l)/\(¬ F.den xs->∃ l,l∈tE false F/\Al (1::xs) l):=by
 induction F with
 | e x y=>exact ⟨λh=>o6 λp q hp hq=>⟨_,List.mem_singleton.mpr rfl,.one (fZ h hq hp)⟩,λh=>o6 λp q hp hq=>⟨_,List.mem_singleton.mpr rfl,.one (fZ (Nat.lt_of_not_le h) hp (tn hq))⟩⟩
 | q x y =>
  refine ⟨λh=>o6 λp q hp hq=>⟨_,List.mem_singleton.mpr rfl,.cons (fZ (Nat.le_of_eq h) hq hp) (.one (fZ (Nat.le_of_eq h.symm) hp hq))⟩,λh=>o6 λp q hp hq=>?_⟩
  rcases Nat.lt_or_gt_of_ne h with h | h
  ·exact ⟨_,List.mem_cons_of_mem _ (List.mem_cons_self ..),.one (fZ h hq (tn hp))⟩
  ·exact ⟨_,List.mem_cons_self ..,.one (fZ h hp (tn hq))⟩
 | i f g ih ih' =>
  refine ⟨λh=>xY ?_,λh=>?_⟩
  ·by_cases hf:f.den xs
   ·exact .inr (ih'.1 (h hf))
   ·exact .inl (ih.2 hf)
  ·have:=Classical.not_imp.mp h
   exact oV (ih.1 this.1) (ih'.2 this.2)
 | z=>exact ⟨λh=>h.elim,λ_=>⟨[],List.mem_singleton.mpr rfl,.nil⟩⟩
 | o f g ih ih'=>exact ⟨λh=>xY (h.imp ih.1 ih'.1),λh=>oV (ih.2 λx=>h (.inl x)) (ih'.2 λx=>h (.inr x))⟩
 | c f g ih ih' =>
  refine ⟨λh=>oV (ih.1 h.1) (ih'.1 h.2),λh=>xY ?_⟩
  by_cases hf:f.den xs
  ·exact .inr (ih'.2 λx=>h ⟨hf,x⟩)
  ·exact .inl (ih.2 hf)
noncomputable def bad (p:Po):Bool:=match p with
 | c::r=>decide (c<0) && r.all λx=>decide (x=0)
 | []=>false
noncomputable def cf (i:Nat) (p:Po):Int:=p.getD i 0
noncomputable def un:Nat->List Po->Bool
 | 0,l=>l.any bad
 | i+1,l=>l.any bad || un i ((l.filter λp=>decide (cf (i+1) p=0))++(l.filter λp=>decide (0<cf (i+1) p)).flatMap λp=>(l.filter λp=>decide (cf (i+1) p<0)).map λq=>oj (vo (-cf (i+1) q) p) (vo (cf (i+1) p) q))
theorem Kh (xs:List Nat):∀ (p:Po),(p.all λx=>decide (x=0))=true->dot xs p=0:=by
 induction xs with
 | nil=>exact λ_ _=>rfl
 | cons x xs ih =>
  intro p h
  cases p with
  | nil=>rfl
  | cons c p =>
   have h:=Bool.and_eq_true_iff.mp h
   show (x:Int) * c+dot xs p=0
   rewrite [ih p h.2,of_decide_eq_true h.1,Int.mul_zero];rfl
theorem ES {xs:List Nat} {p:Po} (h:bad p=true) (h':0<=dot (1::xs) p):False:=by
 cases p with
 | nil=>cases h
 | cons c r =>
  have h:=Bool.and_eq_true_iff.mp h
  have e:dot (1::xs) (c::r)=c:=(congrArg _ (Kh xs r h.2)).trans ((Int.add_zero _).trans (Int.one_mul c))
  exact absurd (of_decide_eq_true h.1) (Int.not_lt.mpr (e▸h'))
theorem IC {xs:List Nat} (i:Nat):∀ (l:List Po),un i l=true->Al (1::xs) l->False:=by
 have an:∀ l:List Po,l.any bad=true->Al (1::xs) l->False:=λl h a=>(List.any_eq_true.mp h).elim λp h=>ES h.2 (a p h.1)
 induction i with
 | zero=>exact an
 | succ i ih =>
  intro l h a
  refine (Bool.or_eq_true_iff.mp h).elim (λh=>an l h a) λh=>ih _ h (Al.app (λq hq=>a q (List.mem_filter.mp hq).1) λq hq=>?_)
  obtain ⟨p,hp,hq⟩:=List.mem_flatMap.mp hq
  obtain ⟨n,hn,rfl⟩:=List.mem_map.mp hq
  have hp:=List.mem_filter.mp hp
  have hn:=List.mem_filter.mp hn
  rewrite [kq,ko,ko]
  exact Int.add_nonneg (Int.mul_nonneg (Int.neg_nonneg_of_nonpos (Int.le_of_lt (of_decide_eq_true hn.2))) (a _ hp.1)) (Int.mul_nonneg (Int.le_of_lt (of_decide_eq_true hp.2)) (a _ hn.1))
noncomputable def M3:Nat->List Po
 | 0=>[]
 | n+1=>unit (n+1)::M3 n
theorem yj (xs:List Nat):∀ n,Al (1::xs) (M3 n)
 | 0=>.nil
 | n+1=>.cons (by rewrite [qR];exact Int.natCast_nonneg _) (yj xs n)
noncomputable def Ff (n:Nat) (F:B):Bool:=(tE false F).all λl=>un n (l++M3 n)
theorem la (F:B) (xs:List Nat) (h:Ff xs.length F=true:=by kernel_rfl):F.den xs:=Classical.byContradiction λhn=>by
 obtain ⟨l,hl,a⟩:=(ED xs F).2 hn
 exact IC _ _ (List.all_eq_true.mp h l hl) (a.app (yj xs _))
noncomputable abbrev T.e (x y:T):B:=.e x y
noncomputable abbrev T.q (x y:T):B:=.q x y
noncomputable abbrev T.t (x y:T):B:=.e (.a x (.n 1)) y
namespace A
noncomputable abbrev s:T:=.v 0
noncomputable abbrev t:T:=.v 1
noncomputable abbrev u:T:=.v 2
noncomputable abbrev v:T:=.v 3
noncomputable abbrev w:T:=.v 4
noncomputable abbrev x:T:=.v 5
noncomputable abbrev y:T:=.v 6
noncomputable abbrev z:T:=.v 7
noncomputable abbrev m:T:=.v 8
noncomputable abbrev n:T:=.v 9
noncomputable abbrev o:T:=.v 10
noncomputable abbrev p:T:=.v 11
theorem dv {x k:Nat} (h:0<k):k * (x / k)<=x/\x+1<=k * (x / k)+k:=⟨Nat.mul_div_le x k,Nat.lt_mul_div_succ x h⟩
end A
end Mine.LA
namespace Mine
open LA LA.A PyProof.Rows
variable {a b c d e f g:Nat}
theorem Oi {a:Int}{b:Int}(h0:b<a):0<=a - b - 1:=by lia
theorem PC:b<=c->a+c<900->a+b<900:=la ((t.e u).i (((s.a u).t (.n 900)).i ((s.a t).t (.n 900)))) [a,b,c]
theorem PB:a=c->c<=b->a<=b:=la ((s.q u).i ((u.e t).i (s.e t))) [a,b,c]
theorem PA:b<=c->a+20*c<9000->a+20*b<9000:=la ((t.e u).i (((s.a (.m 20 u)).t (.n 9000)).i ((s.a (.m 20 t)).t (.n 9000)))) [a,b,c]
theorem Me:b<a->a+1 - (b+1)<a+1 - b:=la ((t.t s).i (((s.a (.n 1)).s (t.a (.n 1))).t ((s.a (.n 1)).s t))) [a,b]
theorem Pz:a+e<=d->f<g->b+c<=e->a+b+c<=d:=la (((s.a w).e v).i ((x.t y).i (((t.a u).e w).i (((s.a t).a u).e v)))) [a,b,c,d,e,f,g]
theorem Py:b<=60->a+20*e<9000->min b c<=b->d=9900->a+min b c<d:=la ((t.e (.n 60)).i (((s.a (.m 20 w)).t (.n 9000)).i (((t.l u).e t).i ((v.q (.n 9900)).i ((s.a (t.l u)).t v))))) [a,b,c,d,e]
theorem Iw:a+20*(b+1)<9000->a+1+20*b<9000:=la (((s.a (.m 20 (t.a (.n 1)))).t (.n 9000)).i (((s.a (.n 1)).a (.m 20 t)).t (.n 9000))) [a,b]
theorem Im:a+20*e<9000->min b c<=c->c<=60->d=9900->a+1+min b c<d:=la (((s.a (.m 20 w)).t (.n 9000)).i (((t.l u).e u).i ((u.e (.n 60)).i ((v.q (.n 9900)).i (((s.a (.n 1)).a (t.l u)).t v))))) [a,b,c,d,e]
theorem wR:¬(a:Int)<0:=Int.not_lt.mpr (Int.natCast_nonneg a)
theorem HY:a+(b+1)<900->a+1+b<900:=la (((s.a (t.a (.n 1))).t (.n 900)).i (((s.a (.n 1)).a t).t (.n 900))) [a,b]
theorem MJ:c<=4*(b+1)->0<c - 4->c - 4=a+1->a+1<=4*b:=la ((u.e (.m 4 (t.a (.n 1)))).i (((T.n 0).t (u.s (.n 4))).i (((u.s (.n 4)).q (s.a (.n 1))).i (s.t (.m 4 t))))) [a,b,c]
theorem MI:a+20*(b+1)<9000->a+3+20*b<9000:=la (((s.a (.m 20 (t.a (.n 1)))).t (.n 9000)).i (((s.a (.n 3)).a (.m 20 t)).t (.n 9000))) [a,b]
theorem CZ {a:Bool}{b:Nat}{c:Nat}(h0:b<=c)(h1:c<b):a=false:=by lia
theorem MH:a<=b->b - a=0->a=b:=la ((s.e t).i (((t.s s).q (.n 0)).i (s.q t))) [a,b]
theorem MG:a+(b+1)<900->a<1000:=la (((s.a (t.a (.n 1))).t (.n 900)).i (s.t (.n 1000))) [a,b]
theorem MF:b<=4*(a+1)->0<b - 4->b - 4=c+1->0<a:=la ((t.e (.m 4 (s.a (.n 1)))).i (((T.n 0).t (t.s (.n 4))).i (((t.s (.n 4)).q (u.a (.n 1))).i ((T.n 0).t s)))) [a,b,c]
theorem ME:a<=b+(c+1)->a<=b+1+c:=la ((s.e (t.a (u.a (.n 1)))).i (s.e ((t.a (.n 1)).a u))) [a,b,c]
theorem MD:a<=b->b - a=c+1->a<b:=la ((s.e t).i (((t.s s).q (u.a (.n 1))).i (s.t t))) [a,b,c]
theorem MB:b<=a->a - b=c+1->b<a->a - (b+1)=c:=la ((t.e s).i (((s.s t).q (u.a (.n 1))).i ((t.t s).i ((s.s (t.a (.n 1))).q u)))) [a,b,c]
theorem GA:b<a->¬a - b<1:=la ((t.t s).i (((s.s t).t (.n 1)).i .z)) [a,b]
theorem MA:c - d=b+1->a<=3*b+8->a+1+1<=3*(b+1)+8:=la (((u.s v).q (t.a (.n 1))).i ((s.e ((T.m 3 t).a (.n 8))).i ((s.a (.n 1)).t ((T.m 3 (t.a (.n 1))).a (.n 8))))) [a,b,c,d]
theorem Mz:c - d=b+1->a<=3*b+8->a+1+1+1<=3*(b+1)+8:=la (((u.s v).q (t.a (.n 1))).i ((s.e ((T.m 3 t).a (.n 8))).i (((s.a (.n 1)).a (.n 1)).t ((T.m 3 (t.a (.n 1))).a (.n 8))))) [a,b,c,d]
theorem My:b<c->a=c->a<=b+(a+1 - b):=la ((t.t u).i ((s.q u).i (s.e (t.a ((s.a (.n 1)).s t))))) [a,b,c]
theorem Mx:a<=d->b<=d->d=1048576->c=16777216->a+b<=c:=la ((s.e v).i ((t.e v).i ((v.q (.n 1048576)).i ((u.q (.n 16777216)).i ((s.a t).e u))))) [a,b,c,d]
theorem Mw:a<=c->c=1048576->b=16777216->a<=b:=la ((s.e u).i ((u.q (.n 1048576)).i ((t.q (.n 16777216)).i (s.e t)))) [a,b,c]
theorem Mv:a=c+1->c<b->a<=b:=la ((s.q (u.a (.n 1))).i ((u.t t).i (s.e t))) [a,b,c]
theorem Mu:b<=e->c<=e->a<=b->e=1048576->d=16777216->min a b+c<=d+1:=la ((t.e w).i ((u.e w).i ((s.e t).i ((w.q (.n 1048576)).i ((v.q (.n 16777216)).i (((s.l t).a u).e (v.a (.n 1)))))))) [a,b,c,d,e]
theorem Mt:a<=c->b<=c->c=1048576->a+b<=16777216:=la ((s.e u).i ((t.e u).i ((u.q (.n 1048576)).i ((s.a t).e (.n 16777216))))) [a,b,c]
theorem Ms:a+b<900->a<1000:=la (((s.a t).t (.n 900)).i (s.t (.n 1000))) [a,b]
theorem Mr:a=c->(¬b<c)->a<=b:=la ((s.q u).i (((t.t u).i .z).i (s.e t))) [a,b,c]
theorem Mq:a<=c->c=1048576->a+b*0<=16777216:=la ((v.q (.m 0 t)).i ((s.e u).i ((u.q (.n 1048576)).i ((s.a v).e (.n 16777216))))) [a,b,c,(b*0)] (by kernel_rfl) (Nat.mul_comm ..)
theorem Mp:a+20*b<9000->a<9900:=la (((s.a (.m 20 t)).t (.n 9000)).i (s.t (.n 9900))) [a,b]
theorem Fw(h:¬a=0):(a:Int)≠0:=λe=>h (Int.natCast_eq_zero.mp e)
theorem wM:a+d<=c->b<d->a+b<c:=la (((s.a v).e u).i ((t.t v).i ((s.a t).t u))) [a,b,c,d]
theorem Mn:a<=d+c->d<=b+1->a<=b+(c+1):=la ((s.e (v.a u)).i ((v.e (t.a (.n 1))).i (s.e (t.a (u.a (.n 1)))))) [a,b,c,d]
theorem Mm:a<c->(¬c - a<=b)->a+b<c:=la ((s.t u).i ((((u.s s).e t).i .z).i ((s.a t).t u))) [a,b,c]
theorem Ml:b=c->b - a=0->a<=b->a=b:=la ((t.q u).i (((t.s s).q (.n 0)).i ((s.e t).i (s.q t)))) [a,b,c]
theorem CY:a+d<=c->1<=e->e<=b->b<d->a+b - 1<c:=la (((s.a v).e u).i (((T.n 1).e w).i ((w.e t).i ((t.t v).i (((s.a t).s (.n 1)).t u))))) [a,b,c,d,e]
theorem Mk:a<c->a+min b (c - a)<=c:=la ((s.t u).i ((s.a (t.l (u.s s))).e u)) [a,b,c]
theorem Mj:b=c->b - a=d+1->a<=b->a<b:=la ((t.q u).i (((t.s s).q (v.a (.n 1))).i ((s.e t).i (s.t t)))) [a,b,c,d]
theorem Mi:1<=a->a - 1<a:=la (((T.n 1).e s).i ((s.s (.n 1)).t s)) [a]
theorem Fv:b<=c->(¬b<=a)->a+(b - a)/2<c:=la ((((T.m 2 v).e (t.s s)).c ((t.s s).t ((T.m 2 v).a (.n 2)))).i ((t.e u).i (((t.e s).i .z).i ((s.a v).t u)))) [a,b,c,((b-a)/2)] (by kernel_rfl) (dv (by decide))
theorem Mh:c+1<b->a<=d->d<=c->a+1<b:=la (((u.a (.n 1)).t t).i ((s.e v).i ((v.e u).i ((s.a (.n 1)).t t)))) [a,b,c,d]
theorem Ft:b<=c->(¬b<=a)->a+(b - a)/2<=c:=la ((((T.m 2 v).e (t.s s)).c ((t.s s).t ((T.m 2 v).a (.n 2)))).i ((t.e u).i (((t.e s).i .z).i ((s.a v).e u)))) [a,b,c,((b-a)/2)] (by kernel_rfl) (dv (by decide))
theorem Mg:a=d->a - b=c+1->b<=a->b<a->a - (b+1)=c:=la ((s.q v).i (((s.s t).q (u.a (.n 1))).i ((t.e s).i ((t.t s).i ((s.s (t.a (.n 1))).q u))))) [a,b,c,d]
theorem Mf:a+b+(d+1)<=c->a+b<c:=la ((((s.a t).a (v.a (.n 1))).e u).i ((s.a t).t u)) [a,b,c,d]
theorem Mc:1<=a->a+b+c<=d->a - 1+b+(c+1)<=d:=la (((T.n 1).e s).i ((((s.a t).a u).e v).i ((((s.s (.n 1)).a t).a (u.a (.n 1))).e v))) [a,b,c,d]
theorem Mb:a+b+(c+1)<=d->a+(b+1)+c<=d:=la ((((s.a t).a (u.a (.n 1))).e v).i (((s.a (t.a (.n 1))).a u).e v)) [a,b,c,d]
theorem Ma:a+1<=2*(a+1+0):=la (s.t (.m 2 ((s.a (.n 1)).a (.n 0)))) [a]
theorem L_:2<=b->a+b+c<=d->a+(b - 1)+(c+1)<=d:=la (((T.n 2).e t).i ((((s.a t).a u).e v).i (((s.a (t.s (.n 1))).a (u.a (.n 1))).e v))) [a,b,c,d]
theorem L8:c+1<a->d<b->¬1+(a+b)<=c+d:=la (((u.a (.n 1)).t s).i ((v.t t).i ((((T.n 1).a (s.a t)).e (u.a v)).i .z))) [a,b,c,d]
theorem L7:a+1+1<128->(a+1+1)/2<64:=la ((((T.m 2 t).e ((s.a (.n 1)).a (.n 1))).c (((s.a (.n 1)).a (.n 1)).t ((T.m 2 t).a (.n 2)))).i ((((s.a (.n 1)).a (.n 1)).t (.n 128)).i (t.t (.n 64)))) [a,(((a+1)+1)/2)] (by kernel_rfl) (dv (by decide))
theorem L6:1<=c->a+c=d->b=d->a<b:=la (((T.n 1).e u).i (((s.a u).q v).i ((t.q v).i (s.t t)))) [a,b,c,d]
theorem L5:1<=c->a+c<=b->a<b:=la (((T.n 1).e u).i (((s.a u).e t).i (s.t t))) [a,b,c]
theorem LZ:a+b+(c+e+1)<=d->a+b+(c+1)<=d:=la ((((s.a t).a ((u.a w).a (.n 1))).e v).i (((s.a t).a (u.a (.n 1))).e v)) [a,b,c,d,e]
theorem LY:1<=(a+1+1)/2+(a+1+1) % 2:=la ((((T.m 2 t).e ((s.a (.n 1)).a (.n 1))).c (((s.a (.n 1)).a (.n 1)).t ((T.m 2 t).a (.n 2)))).i ((u.t (.n 2)).i ((u.e ((s.a (.n 1)).a (.n 1))).i ((T.n 1).e (t.a u))))) [a,(((a+1)+1)/2),(((a+1)+1)%2)] (by kernel_rfl) (dv (by decide)) (Nat.mod_lt _ (by decide)) (Nat.mod_le ..)
theorem LX:1<=c->a+c=d->b=d->0+a<=b:=la (((T.n 1).e u).i (((s.a u).q v).i ((t.q v).i (((T.n 0).a s).e t)))) [a,b,c,d]
theorem LW:1<=b->1<=d->b+d=e->c=e->(¬b - a=0)->0+a+(b - a) - 1<c:=la (((T.n 1).e t).i (((T.n 1).e v).i (((t.a v).q w).i ((u.q w).i ((((t.s s).q (.n 0)).i .z).i (((((T.n 0).a s).a (t.s s)).s (.n 1)).t u)))))) [a,b,c,d,e]
theorem LV:¬a+b+(1+(c+d))<=c+d:=la ((((s.a t).a ((T.n 1).a (u.a v))).e (u.a v)).i .z) [a,b,c,d]
theorem LU:b=a->b<2->a<=16777216+1:=la ((t.q s).i ((t.t (.n 2)).i (s.e ((T.n 16777216).a (.n 1))))) [a,b]
theorem Fq:1<b->b+1<=c->c<=a->1<=a:=la (((T.n 1).t t).i ((t.t u).i ((u.e s).i ((T.n 1).e s)))) [a,b,c]
theorem LS:a+b=d->c=d->a+b<=c:=la (((s.a t).q v).i ((u.q v).i ((s.a t).e u))) [a,b,c,d]
theorem LP:(¬a+1+1<64)->(a+1+1)/2+(a+1+1) % 2<=a+1+1:=la ((((T.m 2 t).e ((s.a (.n 1)).a (.n 1))).c (((s.a (.n 1)).a (.n 1)).t ((T.m 2 t).a (.n 2)))).i ((u.t (.n 2)).i ((u.e ((s.a (.n 1)).a (.n 1))).i (((((s.a (.n 1)).a (.n 1)).t (.n 64)).i .z).i ((t.a u).e ((s.a (.n 1)).a (.n 1))))))) [a,(((a+1)+1)/2),(((a+1)+1)%2)] (by kernel_rfl) (dv (by decide)) (Nat.mod_lt _ (by decide)) (Nat.mod_le ..)
theorem LO:(¬a<d)->a<=b - c->b<=c+d->a=b - c:=la (((s.t v).i .z).i ((s.e (t.s u)).i ((t.e (u.a v)).i (s.q (t.s u))))) [a,b,c,d]
theorem LN:1<=d->a+d=e->b=e->(¬a - c=0)->min a b - c=a - c:=la (((T.n 1).e v).i (((s.a v).q w).i ((t.q w).i ((((s.s u).q (.n 0)).i .z).i (((s.l t).s u).q (s.s u)))))) [a,b,c,d,e]
theorem LL:b<=16->a=b->a<=16:=la ((t.e (.n 16)).i ((s.q t).i (s.e (.n 16)))) [a,b]
theorem LK:2<=b->(b=1\/a=b)->a=b:=la (((T.n 2).e t).i (((t.q (.n 1)).o (s.q t)).i (s.q t))) [a,b]
theorem Fp:1<=b->(¬1<b)->b+1<=c->c<=a->1<=a:=la (((T.n 1).e t).i ((((T.n 1).t t).i .z).i ((t.t u).i ((u.e s).i ((T.n 1).e s))))) [a,b,c]
theorem LJ:1<=d->a+d=e->c=e->b<=d->(¬b=0)->min (a+b) c - a=b:=la (((T.n 1).e v).i (((s.a v).q w).i ((u.q w).i ((t.e v).i (((t.q (.n 0)).i .z).i ((((s.a t).l u).s s).q t)))))) [a,b,c,d,e]
theorem LI:a=b+1->0<a:=la ((s.q (t.a (.n 1))).i ((T.n 0).t s)) [a,b]
theorem LG:a=b+1->a - 1=b:=la ((s.q (t.a (.n 1))).i ((s.s (.n 1)).q t)) [a,b]
theorem Fo {a:Prop}{b:Nat}{c:Nat}{d:Bool}(h0:b=c)(h1:b<=1)(h2:d=false/\1<b):a:=by lia
theorem LF:b+e=f->d=f->(¬b - a=0)->c<=e->0+a+0+(b - a+c)<=d:=la (((t.a w).q x).i ((v.q x).i ((((t.s s).q (.n 0)).i .z).i ((u.e w).i (((((T.n 0).a s).a (.n 0)).a ((t.s s).a u)).e v))))) [a,b,c,d,e,f]
theorem LB:(¬b - a=0)->a+(b - a+c)=b+c:=la ((((t.s s).q (.n 0)).i .z).i ((s.a ((t.s s).a u)).q (t.a u))) [a,b,c]
theorem Fl(h:a≠0):(a:Int)≠0:=λe=>h (Int.natCast_eq_zero.mp e)
theorem Lz:a+e<=d->f<e->b<=f->c<=f->a+(b+c)/2<d:=la ((((T.m 2 y).e (t.a u)).c ((t.a u).t ((T.m 2 y).a (.n 2)))).i (((s.a w).e v).i ((x.t w).i ((t.e x).i ((u.e x).i ((s.a y).t v)))))) [a,b,c,d,e,f,((b+c)/2)] (by kernel_rfl) (dv (by decide))
theorem Ly:a<128->b=1048576->a<=b:=la ((s.t (.n 128)).i ((t.q (.n 1048576)).i (s.e t))) [a,b]
theorem Lx:b<=c*d->a<=d->a+b<=c*d+d:=la ((t.e w).i ((s.e v).i ((s.a t).e (w.a v)))) [a,b,c,d,(c*d)]
theorem Lw:(a:Int)<b↔a<b:=Int.ofNat_lt
theorem Lv:(a:Int)<=b↔a<=b:=Int.ofNat_le
theorem Lu:a<=c->b<=c->(a+b)/2<=c:=la ((((T.m 2 v).e (s.a t)).c ((s.a t).t ((T.m 2 v).a (.n 2)))).i ((s.e u).i ((t.e u).i (v.e u)))) [a,b,c,((a+b)/2)] (by kernel_rfl) (dv (by decide))
theorem Ls:b<=1000000->a<=b+2->a<=16777216:=la ((t.e (.n 1000000)).i ((s.e (t.a (.n 2))).i (s.e (.n 16777216)))) [a,b]
theorem Lr:a<=c->b<=c->(¬b<=a)->(a+b)/2+1<=c:=la ((((T.m 2 v).e (s.a t)).c ((s.a t).t ((T.m 2 v).a (.n 2)))).i ((s.e u).i ((t.e u).i (((t.e s).i .z).i (v.t u))))) [a,b,c,((a+b)/2)] (by kernel_rfl) (dv (by decide))
theorem Lq:b<=c*1000000->a<=1000000->a+b<=c*1000000+1*1000000:=la ((v.q (.m 1000000 u)).i ((t.e v).i ((s.e (.n 1000000)).i ((s.a t).e (v.a (.m 1 (.n 1000000))))))) [a,b,c,(c*1000000)] (by kernel_rfl) (Nat.mul_comm ..)
theorem Lp:b=c->a+b - a=c:=la ((t.q u).i (((s.a t).s s).q u)) [a,b,c]
theorem Lo:b+(c+1)=d+1->a=d->b=d->a<=b:=la (((t.a (u.a (.n 1))).q (v.a (.n 1))).i ((s.q v).i ((t.q v).i (s.e t)))) [a,b,c,d]
theorem Ln:b<=c->c=1048576->min a b<=1048576:=la ((t.e u).i ((u.q (.n 1048576)).i ((s.l t).e (.n 1048576)))) [a,b,c]
theorem Lm:a<=c->c - a=b->a+b=c:=la ((s.e u).i (((u.s s).q t).i ((s.a t).q u))) [a,b,c]
theorem Ll:b+(c+1)=d+1->a=d->b=d->a<=b+1:=la (((t.a (u.a (.n 1))).q (v.a (.n 1))).i ((s.q v).i ((t.q v).i (s.e (t.a (.n 1)))))) [a,b,c,d]
theorem Lk:a<=d->d - a=b+(c+e)->a+b+c<=d:=la ((s.e v).i (((v.s s).q (t.a (u.a w))).i (((s.a t).a u).e v))) [a,b,c,d,e]
theorem Lj:a<=b->b<=c->b - a=c->a=0:=la ((s.e t).i ((t.e u).i (((t.s s).q u).i (s.q (.n 0))))) [a,b,c]
theorem Li:1<=a->b+(c+1)=d+1->b=d->b+a<=d->False:=la (((T.n 1).e s).i (((t.a (u.a (.n 1))).q (v.a (.n 1))).i ((t.q v).i (((t.a s).e v).i .z)))) [a,b,c,d]
theorem Lh:a<=b->a - c=b->c=0->a=b:=la ((s.e t).i (((s.s u).q t).i ((u.q (.n 0)).i (s.q t)))) [a,b,c]
theorem wU:a+(b+1)=c+1->a+1+b=c+1:=la (((s.a (t.a (.n 1))).q (u.a (.n 1))).i (((s.a (.n 1)).a t).q (u.a (.n 1)))) [a,b,c]
theorem Iv:a - 1<b->a<=b:=la (((s.s (.n 1)).t t).i (s.e t)) [a,b]
theorem Ce:a+(c+1)=d+1->b=d->(¬a=d)->a<b:=la (((s.a (u.a (.n 1))).q (v.a (.n 1))).i ((t.q v).i (((s.q v).i .z).i (s.t t)))) [a,b,c,d]
theorem Iu:a+(d+1)=c+1->e=b->f=c->(¬a=c)->e=min e (f - a)->a+b<=c:=la (((s.a (v.a (.n 1))).q (u.a (.n 1))).i ((w.q t).i ((x.q u).i (((s.q u).i .z).i ((w.q (w.l (x.s s))).i ((s.a t).e u)))))) [a,b,c,d,e,f]
theorem Cd:((a:Int)+b)/2=((a+b)/2:Nat):=rfl
theorem Ir:1<=b->c=b->a+b - (a+1)=c - 1:=la (((T.n 1).e t).i ((u.q t).i (((s.a t).s (s.a (.n 1))).q (u.s (.n 1))))) [a,b,c]
theorem Iq:b<=65536->c=b->a<=2*c->a<=131072:=la ((t.e (.n 65536)).i ((u.q t).i ((s.e (.m 2 u)).i (s.e (.n 131072))))) [a,b,c]
theorem Ip:b=1048576->a<=2*c->c<=131072->a<=b:=la ((t.q (.n 1048576)).i ((s.e (.m 2 u)).i ((u.e (.n 131072)).i (s.e t)))) [a,b,c]
theorem Io:c+(d+1)=b+1->a<=c->(¬c=b)->a<b+1:=la (((u.a (v.a (.n 1))).q (t.a (.n 1))).i ((s.e u).i (((u.q t).i .z).i (s.t (t.a (.n 1)))))) [a,b,c,d]
theorem Il:a<=65536->b=1048576->2*(a - 0)+1<=b:=la ((s.e (.n 65536)).i ((t.q (.n 1048576)).i ((T.m 2 (s.s (.n 0))).t t))) [a,b]
theorem Ik:a - b=0->a<=b:=la (((s.s t).q (.n 0)).i (s.e t)) [a,b]
theorem Ij:b=1048576->a<=131072->a<=b:=la ((t.q (.n 1048576)).i ((s.e (.n 131072)).i (s.e t))) [a,b]
theorem Ii:0<a+1:=la ((T.n 0).t (s.a (.n 1))) [a]
theorem Ih:b=1048576->a<=131072->2*(a - 0)+1<=b:=la ((t.q (.n 1048576)).i ((s.e (.n 131072)).i ((T.m 2 (s.s (.n 0))).t t))) [a,b]
theorem Ig:b=a+c->a<=b:=la ((t.q (s.a u)).i (s.e t)) [a,b,c]
theorem Ie:a - 0=a - 0:=la ((s.s (.n 0)).q (s.s (.n 0))) [a]
theorem Ic:a≠0->a+b≠0:=la (((s.q (.n 0)).i .z).i (((s.a t).q (.n 0)).i .z)) [a,b]
theorem wQ:a+1<=1000->b=1048576->a+1<=b:=la ((s.t (.n 1000)).i ((t.q (.n 1048576)).i (s.t t))) [a,b]
theorem Ib:a=1->a+b=b+1:=la ((s.q (.n 1)).i ((s.a t).q (t.a (.n 1)))) [a,b]
theorem Ia:b<=1000->0<b->c<b - 1->b - 1 - c=a->0<a:=la ((t.e (.n 1000)).i (((T.n 0).t t).i ((u.t (t.s (.n 1))).i ((((t.s (.n 1)).s u).q s).i ((T.n 0).t s))))) [a,b,c]
theorem H_:b - 1 - c=a->0<a->a<b:=la ((((t.s (.n 1)).s u).q s).i (((T.n 0).t s).i (s.t t))) [a,b,c]
theorem H9:a<b+1->min a b+(b - a+1)=b+1:=la ((s.t (t.a (.n 1))).i (((s.l t).a ((t.s s).a (.n 1))).q (t.a (.n 1)))) [a,b]
theorem H8:a - 1 - b=d->d<c->a - 1 - b<c:=la ((((s.s (.n 1)).s t).q v).i ((v.t u).i (((s.s (.n 1)).s t).t u))) [a,b,c,d]
theorem H7:b+1<=1000->a=b+1->a<=1000:=la ((t.t (.n 1000)).i ((s.q (t.a (.n 1))).i (s.e (.n 1000)))) [a,b]
theorem H6:b=1048576->min 60 a<=b:=la ((t.q (.n 1048576)).i (((T.n 60).l s).e t)) [a,b]
theorem HZ:a - 1 - b=d->0<d->a - 1 - (b+1)<c->(¬c=d)->a - 1 - b<c:=la ((((s.s (.n 1)).s t).q v).i (((T.n 0).t v).i ((((s.s (.n 1)).s (t.a (.n 1))).t u).i (((u.q v).i .z).i (((s.s (.n 1)).s t).t u))))) [a,b,c,d]
theorem wO:b/16 % 4=a->a<4:=la ((((T.m 16 u).e t).c (t.t ((T.m 16 u).a (.n 16)))).i ((v.t (.n 4)).i ((v.e u).i ((v.q s).i (s.t (.n 4)))))) [a,b,(b/16),((b/16)%4)] (by kernel_rfl) (dv (by decide)) (Nat.mod_lt _ (by decide)) (Nat.mod_le ..)
theorem Cc:a=1048576->6<=a:=la ((s.q (.n 1048576)).i ((T.n 6).e s)) [a]
theorem Cb:(b/7+c) % 3=a->a<3:=la ((((T.m 7 v).e t).c (t.t ((T.m 7 v).a (.n 7)))).i ((w.t (.n 3)).i ((w.e (v.a u)).i ((w.q s).i (s.t (.n 3)))))) [a,b,c,(b/7),(((b/7)+c)%3)] (by kernel_rfl) (dv (by decide)) (Nat.mod_lt _ (by decide)) (Nat.mod_le ..)
theorem HX:1+a % 2<=2:=la ((t.t (.n 2)).i ((t.e s).i (((T.n 1).a t).e (.n 2)))) [a,(a%2)] (by kernel_rfl) (Nat.mod_lt _ (by decide)) (Nat.mod_le ..)
theorem HW:a+(b+d)<=c->c=1048576->a+b<=c:=la (((s.a (t.a v)).e u).i ((u.q (.n 1048576)).i ((s.a t).e u))) [a,b,c,d]
theorem HV:b<=5->a<b->5*a<=25:=la ((t.e (.n 5)).i ((s.t t).i ((T.m 5 s).e (.n 25)))) [a,b]
theorem HU:1+a/2 % 3<=3:=la ((((T.m 2 t).e s).c (s.t ((T.m 2 t).a (.n 2)))).i ((u.t (.n 3)).i ((u.e t).i (((T.n 1).a u).e (.n 3))))) [a,(a/2),((a/2)%3)] (by kernel_rfl) (dv (by decide)) (Nat.mod_lt _ (by decide)) (Nat.mod_le ..)
theorem HT:a=5->a - 1+2=6:=la ((s.q (.n 5)).i (((s.s (.n 1)).a (.n 2)).q (.n 6))) [a]
theorem HS:c<=2*d->e<=2*c->a=e->d=b->a<=4*b:=la ((u.e (.m 2 v)).i ((w.e (.m 2 u)).i ((s.q w).i ((v.q t).i (s.e (.m 4 t)))))) [a,b,c,d,e]
theorem tN:a=1048576->2<=a:=la ((s.q (.n 1048576)).i ((T.n 2).e s)) [a]
theorem HR:b<=5->a<b->a+1<=1000:=la ((t.e (.n 5)).i ((s.t t).i (s.t (.n 1000)))) [a,b]
theorem HQ:a<=b->a<=1*(b+c):=la ((s.e t).i (s.e (.m 1 (t.a u)))) [a,b,c]
theorem HP:b=5->b=a->a=5:=la ((t.q (.n 5)).i ((t.q s).i (s.q (.n 5)))) [a,b]
theorem HO:c=1048576->a+(d+1)<=7776->b<d+1->a+b+1<=c:=la ((u.q (.n 1048576)).i (((s.a (v.a (.n 1))).e (.n 7776)).i ((t.t (v.a (.n 1))).i ((s.a t).t u)))) [a,b,c,d]
theorem HN:a<b->min a b+2=a+2:=la ((s.t t).i (((s.l t).a (.n 2)).q (s.a (.n 2)))) [a,b]
theorem HM:a<=e->c<=d*(e+b)->a+b+c<=d*(e+b)+(e+b):=la ((s.e w).i ((u.e x).i (((s.a t).a u).e (x.a (w.a t))))) [a,b,c,d,e,(d*(e+b))]
theorem HL:c+1<=1000->b=1048576->a=c+1->a<=b:=la ((u.t (.n 1000)).i ((t.q (.n 1048576)).i ((s.q (u.a (.n 1))).i (s.e t)))) [a,b,c]
theorem Ca:a=5->b=1048576->a<=b:=la ((s.q (.n 5)).i ((t.q (.n 1048576)).i (s.e t))) [a,b]
theorem HK:b=1048576->c<4->a=c+2->a+1<=b:=la ((t.q (.n 1048576)).i ((u.t (.n 4)).i ((s.q (u.a (.n 2))).i (s.t t)))) [a,b,c]
theorem HJ:a<=100->1+a<=101:=la ((s.e (.n 100)).i (((T.n 1).a s).e (.n 101))) [a]
theorem HH:c+d<=b->b=1048576->a<=d->a<=b:=la (((u.a v).e t).i ((t.q (.n 1048576)).i ((s.e v).i (s.e t)))) [a,b,c,d]
theorem iw:a=1048576->1<=a:=la ((s.q (.n 1048576)).i ((T.n 1).e s)) [a]
theorem B_:b=1048576->a=120->a<=b:=la ((t.q (.n 1048576)).i ((s.q (.n 120)).i (s.e t))) [a,b]
theorem HG:a=b+2->0<a:=la ((s.q (t.a (.n 2))).i ((T.n 0).t s)) [a,b]
theorem B9:a=1048576->4<=a:=la ((s.q (.n 1048576)).i ((T.n 4).e s)) [a]
theorem HF:a<=b->0+a<=b:=la ((s.e t).i (((T.n 0).a s).e t)) [a,b]
theorem HE:d<=5->c=1048576->e<d->b=e->a<e+1->min a b+1<=c:=la ((v.e (.n 5)).i ((u.q (.n 1048576)).i ((w.t v).i ((t.q w).i ((s.t (w.a (.n 1))).i ((s.l t).t u)))))) [a,b,c,d,e]
theorem HD:b=1048576->a=c->c<=120->a<=b:=la ((t.q (.n 1048576)).i ((s.q u).i ((u.e (.n 120)).i (s.e t)))) [a,b,c]
theorem HC:d+1<=1000->c=1048576->a=d+1->0<b->a - b<=c:=la ((v.t (.n 1000)).i ((u.q (.n 1048576)).i ((s.q (v.a (.n 1))).i (((T.n 0).t t).i ((s.s t).e u))))) [a,b,c,d]
theorem HB:d<=5->c=1048576->e<d->b=e->a<e+1->min a b+1+(b - a)<=c:=la ((v.e (.n 5)).i ((u.q (.n 1048576)).i ((w.t v).i ((t.q w).i ((s.t (w.a (.n 1))).i ((((s.l t).a (.n 1)).a (t.s s)).e u)))))) [a,b,c,d,e]
theorem jB:a=1048576->5<=a:=la ((s.q (.n 1048576)).i ((T.n 5).e s)) [a]
theorem HA:b=1048576->a<5->a<=b:=la ((t.q (.n 1048576)).i ((s.t (.n 5)).i (s.e t))) [a,b]
theorem Hz:1<=b->b<=5->a<=11->a+b - 1<=1000:=la (((T.n 1).e t).i ((t.e (.n 5)).i ((s.e (.n 11)).i (((s.a t).s (.n 1)).e (.n 1000))))) [a,b]
theorem tM:b=1048576->a<=5->a<=b:=la ((t.q (.n 1048576)).i ((s.e (.n 5)).i (s.e t))) [a,b]
theorem B8:a=5->0<a:=la ((s.q (.n 5)).i ((T.n 0).t s)) [a]
theorem Hy:a=1048576->1+1<=a:=la ((s.q (.n 1048576)).i ((T.n 1).t s)) [a]
theorem B7:a=1048576->3<=a:=la ((s.q (.n 1048576)).i ((T.n 3).e s)) [a]
theorem Hx:c=1048576->1<=b->b<=5->a<=11->a+b - 1<=c:=la ((u.q (.n 1048576)).i (((T.n 1).e t).i ((t.e (.n 5)).i ((s.e (.n 11)).i (((s.a t).s (.n 1)).e u))))) [a,b,c]
theorem Hw:c=1048576->a<=5->a+b*0<=c:=la ((v.q (.m 0 t)).i ((u.q (.n 1048576)).i ((s.e (.n 5)).i ((s.a v).e u)))) [a,b,c,(b*0)] (by kernel_rfl) (Nat.mul_comm ..)
theorem B6:b=1048576->a<=32->a<=b:=la ((t.q (.n 1048576)).i ((s.e (.n 32)).i (s.e t))) [a,b]
theorem fH:a<b->a<=(a+b)/2:=la ((((T.m 2 u).e (s.a t)).c ((s.a t).t ((T.m 2 u).a (.n 2)))).i ((s.t t).i (s.e u))) [a,b,((a+b)/2)] (by kernel_rfl) (dv (by decide))
theorem Hv:c=1048576->b<=5->a<=25->a+b<=c:=la ((u.q (.n 1048576)).i ((t.e (.n 5)).i ((s.e (.n 25)).i ((s.a t).e u)))) [a,b,c]
theorem Hu:a<c->(a<=b/\b<=(a+c)/2)->a<=b/\b<=c:=la ((((T.m 2 v).e (s.a u)).c ((s.a u).t ((T.m 2 v).a (.n 2)))).i ((s.t u).i (((s.e t).c (t.e v)).i ((s.e t).c (t.e u))))) [a,b,c,((a+c)/2)] (by kernel_rfl) (dv (by decide))
theorem Ht:b=1048576->a<=5->a+1<=b:=la ((t.q (.n 1048576)).i ((s.e (.n 5)).i (s.t t))) [a,b]
theorem Hs:a=1048576->11<=a:=la ((s.q (.n 1048576)).i ((T.n 11).e s)) [a]
theorem Hr:b=1048576->a=4->a<=b:=la ((t.q (.n 1048576)).i ((s.q (.n 4)).i (s.e t))) [a,b]
theorem B5:a<b->a<=b->(a+b)/2+1<=b:=la ((((T.m 2 u).e (s.a t)).c ((s.a t).t ((T.m 2 u).a (.n 2)))).i ((s.t t).i ((s.e t).i (u.t t)))) [a,b,((a+b)/2)] (by kernel_rfl) (dv (by decide))
theorem Hq:b=1048576->a<5->a+1<=b:=la ((t.q (.n 1048576)).i ((s.t (.n 5)).i (s.t t))) [a,b]
theorem Hp:c=1048576->a<=32->b<=a->a+b<=c:=la ((u.q (.n 1048576)).i ((s.e (.n 32)).i ((t.e s).i ((s.a t).e u)))) [a,b,c]
theorem Ho:b=5->a<5->a - 1<b:=la ((t.q (.n 5)).i ((s.t (.n 5)).i ((s.s (.n 1)).t t))) [a,b]
theorem Hl:a<c->((a+c)/2+1<=b/\b<=c)->a<=b/\b<=c:=la ((((T.m 2 v).e (s.a u)).c ((s.a u).t ((T.m 2 v).a (.n 2)))).i ((s.t u).i (((v.t t).c (t.e u)).i ((s.e t).c (t.e u))))) [a,b,c,((a+c)/2)] (by kernel_rfl) (dv (by decide))
theorem Hj:a=5->a - 2=0->False:=la ((s.q (.n 5)).i (((s.s (.n 2)).q (.n 0)).i .z)) [a]
theorem Hi:c=1048576->(a<=2/\b<=3)->a+b<=c:=la ((u.q (.n 1048576)).i (((s.e (.n 2)).c (t.e (.n 3))).i ((s.a t).e u))) [a,b,c]
theorem Hh:(a=44\/a=9)->¬32=a:=la (((s.q (.n 44)).o (s.q (.n 9))).i (((T.n 32).q s).i .z)) [a]
theorem B4:a<=2->1+a<=3:=la ((s.e (.n 2)).i (((T.n 1).a s).e (.n 3))) [a]
theorem Hg:(b=44\/b=9)->(a=59\/97<=a/\a<=100)->¬a=b:=la (((t.q (.n 44)).o (t.q (.n 9))).i (((s.q (.n 59)).o (((T.n 97).e s).c (s.e (.n 100)))).i ((s.q t).i .z))) [a,b]
theorem B3 {a:Bool}{b:Nat}{c:Nat}{d:Nat}(h0:b - 1=c)(h1:c<d)(h2:d<=c):a=false:=by lia
theorem Hf:a<=b->1+a<=b+1:=la ((s.e t).i (((T.n 1).a s).e (t.a (.n 1)))) [a,b]
theorem G_:d=1048576->c<=1->(a<=2/\b<=3)->a+b+c<=d:=la ((v.q (.n 1048576)).i ((u.e (.n 1)).i (((s.e (.n 2)).c (t.e (.n 3))).i (((s.a t).a u).e v)))) [a,b,c,d]
theorem G9:a<=5*(101+b)->b<=3->a<=520:=la ((s.e (.m 5 ((T.n 101).a t))).i ((t.e (.n 3)).i (s.e (.n 520)))) [a,b]
theorem B0:0<a->b - 1=a->a - 1<a:=la (((T.n 0).t s).i (((t.s (.n 1)).q s).i ((s.s (.n 1)).t s))) [a,b]
theorem G8:b=6->a<5->a+2<=b:=la ((t.q (.n 6)).i ((s.t (.n 5)).i ((s.a (.n 2)).e t))) [a,b]
theorem G7:c=6->(a+2<=b/\b<=c)->a+1<=b - 1/\b - 1<=5:=la ((u.q (.n 6)).i ((((s.a (.n 2)).e t).c (t.e u)).i ((s.t (t.s (.n 1))).c ((t.s (.n 1)).e (.n 5))))) [a,b,c]
theorem G6:d=1048576->c<=1->(a<=2/\b<=3)->a+b+c+1<=d:=la ((v.q (.n 1048576)).i ((u.e (.n 1)).i (((s.e (.n 2)).c (t.e (.n 3))).i (((s.a t).a u).t v)))) [a,b,c,d]
theorem BZ:0<a->a - 1<a:=la (((T.n 0).t s).i ((s.s (.n 1)).t s)) [a]
theorem G5:a=1048576->1+4<=a:=la ((s.q (.n 1048576)).i (((T.n 1).a (.n 4)).e s)) [a]
theorem G4:a<5->1+a - b<=6:=la ((s.t (.n 5)).i ((((T.n 1).a s).s t).e (.n 6))) [a,b]
theorem G3:97<=a->¬a=32:=la (((T.n 97).e s).i ((s.q (.n 32)).i .z)) [a]
theorem BY:a+(b+c+d)=a+b+c+d:=la ((s.a ((t.a u).a v)).q (((s.a t).a u).a v)) [a,b,c,d]
theorem G2:b=1048576->a<=100->1+a<=b:=la ((t.q (.n 1048576)).i ((s.e (.n 100)).i (((T.n 1).a s).e t))) [a,b]
theorem G1:97<=a->¬a=59:=la (((T.n 97).e s).i ((s.q (.n 59)).i .z)) [a]
theorem G0:97<=a->(b=32\/b=59)->¬a=b:=la (((T.n 97).e s).i (((t.q (.n 32)).o (t.q (.n 59))).i ((s.q t).i .z))) [a,b]
theorem GZ:a=1048576->101<=a:=la ((s.q (.n 1048576)).i ((T.n 101).e s)) [a]
theorem GY:a+(b+(c+d))<=e->a+b+(c+d)<=e:=la (((s.a (t.a (u.a v))).e w).i (((s.a t).a (u.a v)).e w)) [a,b,c,d,e]
theorem GX:b<=2*c->a<=2->a+b<=2*(c+1):=la ((t.e (.m 2 u)).i ((s.e (.n 2)).i ((s.a t).e (.m 2 (u.a (.n 1)))))) [a,b,c]
theorem GW:b=6->a<5->a<=b:=la ((t.q (.n 6)).i ((s.t (.n 5)).i (s.e t))) [a,b]
theorem BX:(¬a+(b+(c+d))<=e)->a+b+(c+d)<=e->False:=la ((((s.a (t.a (u.a v))).e w).i .z).i ((((s.a t).a (u.a v)).e w).i .z)) [a,b,c,d,e]
theorem GV:b=6->a<5->a+1<b:=la ((t.q (.n 6)).i ((s.t (.n 5)).i ((s.a (.n 1)).t t))) [a,b]
theorem GU:a<=99->1+a<=100:=la ((s.e (.n 99)).i (((T.n 1).a s).e (.n 100))) [a]
theorem GS:a<=2->b<=3->c<=1->a+b+c+1<=7:=la ((s.e (.n 2)).i ((t.e (.n 3)).i ((u.e (.n 1)).i (((s.a t).a u).t (.n 7))))) [a,b,c]
theorem BW:b=1048576->a=5->a<=b:=la ((t.q (.n 1048576)).i ((s.q (.n 5)).i (s.e t))) [a,b]
theorem GR:b=1048576->a<=2->1+a<=b:=la ((t.q (.n 1048576)).i ((s.e (.n 2)).i (((T.n 1).a s).e t))) [a,b]
theorem BV:a<=7->b<=7*c->a+b<=7*(c+1):=la ((s.e (.n 7)).i ((t.e (.m 7 u)).i ((s.a t).e (.m 7 (u.a (.n 1)))))) [a,b,c]
theorem GQ:d=1->a+b+c+d=a+b+(c+1):=la ((v.q (.n 1)).i ((((s.a t).a u).a v).q ((s.a t).a (u.a (.n 1))))) [a,b,c,d]
theorem GP:(97<=a/\a<=100)->a≠10/\a≠13:=la ((((T.n 97).e s).c (s.e (.n 100))).i (((s.q (.n 10)).i .z).c ((s.q (.n 13)).i .z))) [a]
theorem GO:b=1048576->a<=6->a<=b:=la ((t.q (.n 1048576)).i ((s.e (.n 6)).i (s.e t))) [a,b]
theorem BU:b<=4->a<=7*b->a<=28:=la ((t.e (.n 4)).i ((s.e (.m 7 t)).i (s.e (.n 28)))) [a,b]
theorem GN:b<=4->c+1<=b->a<=c->a<=4:=la ((t.e (.n 4)).i ((u.t t).i ((s.e u).i (s.e (.n 4))))) [a,b,c]
theorem BS:b<c->c<=4->d<=b->a<=2*d->a+1<=1000:=la ((t.t u).i ((u.e (.n 4)).i ((v.e t).i ((s.e (.m 2 v)).i (s.t (.n 1000)))))) [a,b,c,d]
theorem GL:c=e+f+(g+1)->a+(b+(e+f)+(g+1))<=d->a+b+c<=d:=la ((u.q ((w.a x).a (y.a (.n 1)))).i (((s.a ((t.a (w.a x)).a (y.a (.n 1)))).e v).i (((s.a t).a u).e v))) [a,b,c,d,e,f,g]
theorem GK:a % 2+1<=2:=la ((t.t (.n 2)).i ((t.e s).i (t.t (.n 2)))) [a,(a%2)] (by kernel_rfl) (Nat.mod_lt _ (by decide)) (Nat.mod_le ..)
theorem GJ:b=1048576->a<=6->a+1<=b:=la ((t.q (.n 1048576)).i ((s.e (.n 6)).i (s.t t))) [a,b]
theorem GI:c=1048576->b<=3->a<=5*101->a+5*b<=c:=la ((u.q (.n 1048576)).i ((t.e (.n 3)).i ((s.e (.m 5 (.n 101))).i ((s.a (.m 5 t)).e u)))) [a,b,c]
theorem GH:a=b+c+(d+1)->(¬e+(f+(b+c)+(d+1))<=g)->e+f+a<=g->False:=la ((s.q ((t.a u).a (v.a (.n 1)))).i ((((w.a ((x.a (t.a u)).a (v.a (.n 1)))).e y).i .z).i ((((w.a x).a s).e y).i .z))) [a,b,c,d,e,f,g]
theorem wN:b=1048576->c<d->d<=4->a<=c->a+1<=b:=la ((t.q (.n 1048576)).i ((u.t v).i ((v.e (.n 4)).i ((s.e u).i (s.t t))))) [a,b,c,d]
theorem GG:a/2 % 3+1<=3:=la ((((T.m 2 t).e s).c (s.t ((T.m 2 t).a (.n 2)))).i ((u.t (.n 3)).i ((u.e t).i (u.t (.n 3))))) [a,(a/2),((a/2)%3)] (by kernel_rfl) (dv (by decide)) (Nat.mod_lt _ (by decide)) (Nat.mod_le ..)
theorem GF:b<=520->a<=4*b->a<=1000000:=la ((t.e (.n 520)).i ((s.e (.m 4 t)).i (s.e (.n 1000000)))) [a,b]
theorem GD:a<=2->28+a<=30:=la ((s.e (.n 2)).i (((T.n 28).a s).e (.n 30))) [a]
theorem GC:a<4->97+a<=100:=la ((s.t (.n 4)).i (((T.n 97).a s).e (.n 100))) [a]
theorem GB:a<=b*(28+c)->b*(28+c)<=5*30->a<=1000:=la ((s.e v).i ((v.e (.m 5 (.n 30))).i (s.e (.n 1000)))) [a,b,c,(b*(28+c))]
theorem Gz {a b c d e f g i j k l:Nat}:g=1048576->i<j->j<=4->k<=100->l<=i->a<=k->b<=7*l->e<=1->c<=2->d<=3->f=1->a+(b+(c+(d+e+f)))<=g:=la ((y.q (.n 1048576)).i ((z.t m).i ((m.e (.n 4)).i ((n.e (.n 100)).i ((o.e z).i ((s.e n).i ((t.e (.m 7 o)).i ((w.e (.n 1)).i ((u.e (.n 2)).i ((v.e (.n 3)).i ((x.q (.n 1)).i ((s.a (t.a (u.a ((v.a w).a x)))).e y)))))))))))) [a,b,c,d,e,f,g,i,j,k,l]
theorem Gy:a<4->97+a<200:=la ((s.t (.n 4)).i (((T.n 97).a s).t (.n 200))) [a]
theorem Gx:a<5->4 - a<5->a=4 - (4 - a):=la ((s.t (.n 5)).i ((((T.n 4).s s).t (.n 5)).i (s.q ((T.n 4).s ((T.n 4).s s))))) [a]
theorem Gw:d=1048576->b<=1->a<=3->c=1->a+b+c<=d:=la ((v.q (.n 1048576)).i ((t.e (.n 1)).i ((s.e (.n 3)).i ((u.q (.n 1)).i (((s.a t).a u).e v))))) [a,b,c,d]
theorem Gu:a<=16->b=1048576->a<=b:=la ((s.e (.n 16)).i ((t.q (.n 1048576)).i (s.e t))) [a,b]
theorem Gs:a<4->97<=97+a/\97+a<=100:=la ((s.t (.n 4)).i (((T.n 97).e ((T.n 97).a s)).c (((T.n 97).a s).e (.n 100)))) [a]
theorem Gr:b=6->4 - c=a->a<5->a+2<=b:=la ((t.q (.n 6)).i ((((T.n 4).s u).q s).i ((s.t (.n 5)).i ((s.a (.n 2)).e t)))) [a,b,c]
theorem Gq:a<=b->(¬a=0)->b - 1 - (a - 1)=0->a=b:=la ((s.e t).i (((s.q (.n 0)).i .z).i ((((t.s (.n 1)).s (s.s (.n 1))).q (.n 0)).i (s.q t)))) [a,b]
theorem Gp:a=4->b<5->a - (b - 1)=5 - max 1 b:=la ((s.q (.n 4)).i ((t.t (.n 5)).i ((s.s (t.s (.n 1))).q ((T.n 5).s ((T.n 1).u t))))) [a,b]
theorem Gn:b=1048576->c<=4->d<=c->a<=2*d->a+1<=b:=la ((t.q (.n 1048576)).i ((u.e (.n 4)).i ((v.e u).i ((s.e (.m 2 v)).i (s.t t))))) [a,b,c,d]
theorem Gm:a<5->max 1 a+(5 - max 1 a) - 1=4:=la ((s.t (.n 5)).i (((((T.n 1).u s).a ((T.n 5).s ((T.n 1).u s))).s (.n 1)).q (.n 4))) [a]
theorem Gl:b=6->4 - c=a->a<5->a<b:=la ((t.q (.n 6)).i ((((T.n 4).s u).q s).i ((s.t (.n 5)).i (s.t t)))) [a,b,c]
theorem Gk:c=1048576->d<=4->e<=100->f<=d->a<=e->b<=7*f->a+b<=c:=la ((u.q (.n 1048576)).i ((v.e (.n 4)).i ((w.e (.n 100)).i ((x.e v).i ((s.e w).i ((t.e (.m 7 x)).i ((s.a t).e u))))))) [a,b,c,d,e,f]
theorem Gj:b=1048576->c<=4->a<=c->a+1<=b:=la ((t.q (.n 1048576)).i ((u.e (.n 4)).i ((s.e u).i (s.t t)))) [a,b,c]
theorem BR:c=d+1->4 - d=b->b<5->d=4 - b->(b+1<=a/\a<=5)->a - b - 1<c:=la ((u.q (v.a (.n 1))).i ((((T.n 4).s v).q t).i ((t.t (.n 5)).i ((v.q ((T.n 4).s t)).i (((t.t s).c (s.e (.n 5))).i (((s.s t).s (.n 1)).t u)))))) [a,b,c,d]
theorem BQ:c<b->a<(c+b)/2->a<b:=la ((((T.m 2 v).e (u.a t)).c ((u.a t).t ((T.m 2 v).a (.n 2)))).i ((u.t t).i ((s.t v).i (s.t t)))) [a,b,c,((c+b)/2)] (by kernel_rfl) (dv (by decide))
theorem Gi:a+c=b->a<=b:=la (((s.a u).q t).i (s.e t)) [a,b,c]
theorem Gh {a b c d e f g i j:Nat}:e=1048576->f<g->g<=4->i<=100->j<=f->a<=i->b<=7*j->c<=2->d<=3->a+(b+(c+d))<=e:=la ((w.q (.n 1048576)).i ((x.t y).i ((y.e (.n 4)).i ((z.e (.n 100)).i ((m.e x).i ((s.e z).i ((t.e (.m 7 m)).i ((u.e (.n 2)).i ((v.e (.n 3)).i ((s.a (t.a (u.a v))).e w)))))))))) [a,b,c,d,e,f,g,i,j]
theorem Gg:b<=a->(¬b=0)->¬a=0:=la ((t.e s).i (((t.q (.n 0)).i .z).i ((s.q (.n 0)).i .z))) [a,b]
theorem Gf:d=1048576->b<=5->a<=b*28->b*c<=5*2->a+b*c<=d:=la ((w.q (.m 28 t)).i ((v.q (.n 1048576)).i ((t.e (.n 5)).i ((s.e w).i ((x.e (.m 5 (.n 2))).i ((s.a x).e v)))))) [a,b,c,d,(b*28),(b*c)] (by kernel_rfl) (Nat.mul_comm ..)
theorem Ge :10=46->False:=la (((T.n 10).q (.n 46)).i .z) []
theorem Gd :13=46->False:=la (((T.n 13).q (.n 46)).i .z) []
theorem Gb:b<c->c<=4->d<=b->a<=2*d->a+1+1<=1000:=la ((t.t u).i ((u.e (.n 4)).i ((v.e t).i ((s.e (.m 2 v)).i ((s.a (.n 1)).t (.n 1000)))))) [a,b,c,d]
theorem Ga:b=1048576->a<=28->a<=b:=la ((t.q (.n 1048576)).i ((s.e (.n 28)).i (s.e t))) [a,b]
theorem kC:a<b->(a+b)/2<b:=la ((((T.m 2 u).e (s.a t)).c ((s.a t).t ((T.m 2 u).a (.n 2)))).i ((s.t t).i (u.t t))) [a,b,((a+b)/2)] (by kernel_rfl) (dv (by decide))
theorem F_:(¬c<=a)->c<=b->a<b+1:=la (((u.e s).i .z).i ((u.e t).i (s.t (t.a (.n 1))))) [a,b,c]
theorem F9 {a b c d e f g i j k l:Nat}:g=1048576->i<j->j<=4->k<=100->l<=i->a<=k->b<=7*l->e<=1->c<=2->d<=3->f=1->a+(b+(c+d)+(e+f))<=g:=la ((y.q (.n 1048576)).i ((z.t m).i ((m.e (.n 4)).i ((n.e (.n 100)).i ((o.e z).i ((s.e n).i ((t.e (.m 7 o)).i ((w.e (.n 1)).i ((u.e (.n 2)).i ((v.e (.n 3)).i ((x.q (.n 1)).i ((s.a ((t.a (u.a v)).a (w.a x))).e y)))))))))))) [a,b,c,d,e,f,g,i,j,k,l]
theorem BP:a<c->(a+c)/2+1<=b->a<=b:=la ((((T.m 2 v).e (s.a u)).c ((s.a u).t ((T.m 2 v).a (.n 2)))).i ((s.t u).i ((v.t t).i (s.e t)))) [a,b,c,((a+c)/2)] (by kernel_rfl) (dv (by decide))
theorem F8:b<5->a<c->c<=b->a<6:=la ((t.t (.n 5)).i ((s.t u).i ((u.e t).i (s.t (.n 6))))) [a,b,c]
theorem F7:100000<=b->a<=1000->a+2<=b:=la (((T.n 100000).e t).i ((s.e (.n 1000)).i ((s.a (.n 2)).e t))) [a,b]
theorem F6:a<b->a<=b->(a+b)/2<b:=la ((((T.m 2 u).e (s.a t)).c ((s.a t).t ((T.m 2 u).a (.n 2)))).i ((s.t t).i ((s.e t).i (u.t t)))) [a,b,((a+b)/2)] (by kernel_rfl) (dv (by decide))
theorem F5:c+2<=a->a<=b->b<6->a - 1+(b - a)<5:=la (((u.a (.n 2)).e s).i ((s.e t).i ((t.t (.n 6)).i (((s.s (.n 1)).a (t.s s)).t (.n 5))))) [a,b,c]
theorem F4:c<=b->(¬c<a)->a<=b:=la ((u.e t).i (((u.t s).i .z).i (s.e t))) [a,b,c]
theorem F3:c+2<=a->a<=b->a - 1+(b - a)=b - 1:=la (((u.a (.n 2)).e s).i ((s.e t).i (((s.s (.n 1)).a (t.s s)).q (t.s (.n 1))))) [a,b,c]
theorem F2:e=1048576->c<=1->a<=2->b<=3->d=1->0+(a+b+(c+d))<=e:=la ((w.q (.n 1048576)).i ((u.e (.n 1)).i ((s.e (.n 2)).i ((t.e (.n 3)).i ((v.q (.n 1)).i (((T.n 0).a ((s.a t).a (u.a v))).e w)))))) [a,b,c,d,e]
theorem F1:b+2<=a->a - 1+1=a:=la (((t.a (.n 2)).e s).i (((s.s (.n 1)).a (.n 1)).q s)) [a,b]
theorem F0:b=1048576->c<d->d<=4->a<=c->a+1+1<=b:=la ((t.q (.n 1048576)).i ((u.t v).i ((v.e (.n 4)).i ((s.e u).i ((s.a (.n 1)).t t))))) [a,b,c,d]
theorem FZ:b+1<=5 - max 1 a->max 1 a+b<5:=la ((t.t ((T.n 5).s ((T.n 1).u s))).i ((((T.n 1).u s).a t).t (.n 5))) [a,b]
theorem FY :59=32->False:=la (((T.n 59).q (.n 32)).i .z) []
theorem FW :(97<=59/\59<=100)->False:=la ((((T.n 97).e (.n 59)).c ((T.n 59).e (.n 100))).i .z) []
theorem FU:b+1<=a->a<=5->b=4->a=5:=la ((t.t s).i ((s.e (.n 5)).i ((t.q (.n 4)).i (s.q (.n 5))))) [a,b]
theorem FT:1+a % 7<=7:=la ((t.t (.n 7)).i ((t.e s).i (((T.n 1).a t).e (.n 7)))) [a,(a%7)] (by kernel_rfl) (Nat.mod_lt _ (by decide)) (Nat.mod_le ..)
theorem FQ:(b<a/\b<c)->(¬a=b+1)->a - 1<a:=la (((t.t s).c (t.t u)).i (((s.q (t.a (.n 1))).i .z).i ((s.s (.n 1)).t s))) [a,b,c]
theorem FP:(c<b/\c<d)->(¬b=c+1)->b<=c+1->a=b:=la (((u.t t).c (u.t v)).i (((t.q (u.a (.n 1))).i .z).i ((t.e (u.a (.n 1))).i (s.q t)))) [a,b,c,d]
theorem FO:b<5->a<=c->c<=b->1+a<=50:=la ((t.t (.n 5)).i ((s.e u).i ((u.e t).i (((T.n 1).a s).e (.n 50))))) [a,b,c]
theorem FN:a=4->b<5->a - (b - 1)=0->False:=la ((s.q (.n 4)).i ((t.t (.n 5)).i (((s.s (t.s (.n 1))).q (.n 0)).i .z))) [a,b]
theorem FL:1<=a->1<=2*a:=la (((T.n 1).e s).i ((T.n 1).e (.m 2 s))) [a]
theorem FJ:a+c<=b+1->c=1->a<=b:=la (((s.a u).e (t.a (.n 1))).i ((u.q (.n 1)).i (s.e t))) [a,b,c]
theorem FI:1+a=1+b - c->b<5->a<=5:=la ((((T.n 1).a s).q (((T.n 1).a t).s u)).i ((t.t (.n 5)).i (s.e (.n 5)))) [a,b,c]
theorem FH:a<=2*d+1->0<b->a+1+1<=2*(b+c+1+d)+1:=la ((s.e ((T.m 2 v).a (.n 1))).i (((T.n 0).t t).i ((s.a (.n 1)).t ((T.m 2 (((t.a u).a (.n 1)).a v)).a (.n 1))))) [a,b,c,d]
theorem FG:a<=2*d+1->a+1<=2*(b+c+1+d)+1:=la ((s.e ((T.m 2 v).a (.n 1))).i (s.t ((T.m 2 (((t.a u).a (.n 1)).a v)).a (.n 1)))) [a,b,c,d]
theorem FF:e+a=f->f=e+b+c+1+d->a=b+c+1+d:=la (((w.a s).q x).i ((x.q ((((w.a t).a u).a (.n 1)).a v)).i (s.q (((t.a u).a (.n 1)).a v)))) [a,b,c,d,e,f]
theorem FE:c+1<b->d<b->d=c->a=c+1->a<b:=la (((u.a (.n 1)).t t).i ((v.t t).i ((v.q u).i ((s.q (u.a (.n 1))).i (s.t t))))) [a,b,c,d]
theorem BO:c+1<b->d<b->d=c->e=c+1->a=e->a<b:=la (((u.a (.n 1)).t t).i ((v.t t).i ((v.q u).i ((w.q (u.a (.n 1))).i ((s.q w).i (s.t t)))))) [a,b,c,d,e]
theorem FD:b=5->4 - d=c->(c+1<=a/\a<=5)->min a b - c<=5:=la ((t.q (.n 5)).i ((((T.n 4).s v).q u).i (((u.t s).c (s.e (.n 5))).i (((s.l t).s u).e (.n 5))))) [a,b,c,d]
theorem FA:c=1048576->a<=b*100->b<=5->a+b*0<=c:=la ((v.q (.m 100 t)).i ((w.q (.m 0 t)).i ((u.q (.n 1048576)).i ((s.e v).i ((t.e (.n 5)).i ((s.a w).e u)))))) [a,b,c,(b*100),(b*0)] (by kernel_rfl) (Nat.mul_comm ..) (Nat.mul_comm ..)
theorem Fz:4 - c=b->(b+1<=a/\a<=5)->1<=a - b:=la ((((T.n 4).s u).q t).i (((t.t s).c (s.e (.n 5))).i ((T.n 1).e (s.s t)))) [a,b,c]
theorem Fy:b=1048576->a<=5->1+a<=b:=la ((t.q (.n 1048576)).i ((s.e (.n 5)).i (((T.n 1).a s).e t))) [a,b]
theorem Fx:b=1048576->c<5->a=c+1->1+a<=b:=la ((t.q (.n 1048576)).i ((u.t (.n 5)).i ((s.q (u.a (.n 1))).i (((T.n 1).a s).e t)))) [a,b,c]
theorem ltZ {p:Nat->Prop}:∀ k,k<0->p k:=λk h=>absurd h (Nat.not_lt_zero k)
theorem k_ {p:Nat->Prop} {m:Nat} (h:∀ k,k<m->p k) (hm:p m):∀ k,k<m+1->p k:=λk hk=>(Nat.lt_succ_iff_lt_or_eq.mp hk).elim (h k) λe=>e▸hm
theorem eG {α:Type} {n:Nat} {l:List α} (h:l.length=n+1):∃ a r,l=a::r/\r.length=n:=by
 cases l with
 | nil=>cases h
 | cons a r=>exact ⟨a,r,rfl,Nat.succ.inj h⟩
theorem len0 {α:Type} {l:List α} (h:l.length=0):l=[]:=List.eq_nil_of_length_eq_zero h
theorem yL (a b:Nat):min (a:Int) (b:Int)=((min a b:Nat):Int):=by
 by_cases h:a<=b
 ·rw [Nat.min_eq_left h,Int.min_eq_left (Int.ofNat_le.mpr h)]
 ·rw [Nat.min_eq_right (Nat.le_of_not_le h),Int.min_eq_right (Int.ofNat_le.mpr (Nat.le_of_not_le h))]
theorem yM (a b:Nat):max (a:Int) (b:Int)=((max a b:Nat):Int):=by
 by_cases h:a<=b
 ·rw [Nat.max_eq_right h,Int.max_eq_right (Int.ofNat_le.mpr h)]
 ·rw [Nat.max_eq_left (Nat.le_of_not_le h),Int.max_eq_left (Int.ofNat_le.mpr (Nat.le_of_not_le h))]
theorem kg (a b:Nat):max (0:Int) (min (a:Int) (b:Int))=((min a b:Nat):Int):=by
 rw [yL];exact Int.max_eq_right (Int.natCast_nonneg _)
theorem uf (a b:Nat):max (0:Int) ((a:Int) - b)=((a - b:Nat):Int):=by
 by_cases h:b<=a
 ·rw [<- Int.ofNat_sub h];exact Int.max_eq_right (Int.natCast_nonneg _)
 ·rw [Nat.sub_eq_zero_of_le (Nat.le_of_not_le h)];exact Int.max_eq_left (Int.sub_nonpos_of_le (Int.ofNat_le.mpr (Nat.le_of_not_le h)))
theorem Jh {i:Int} {n:Nat} (h1 : -(n:Int)<=i) (h2:i<n) (hn:n<=1048576) : -2 ^ 63<=i/\i<2 ^ 63 :=
 ⟨Int.le_trans (Int.le_trans (by decide) (Int.neg_le_neg (Int.ofNat_le.mpr hn))) h1,Int.lt_of_lt_of_le h2 (Int.le_trans (Int.ofNat_le.mpr hn) (by decide))⟩
theorem oH {n:Nat} (h:n<=1048576):(n:Int)<2 ^ 63:=Int.lt_of_le_of_lt (Int.ofNat_le.mpr h) (by decide)
theorem qC {n:Nat} (h:n<=1048576):¬ (n:Int) ≥ 2 ^ 63:=Int.not_le.mpr (oH h)
theorem xG {i:Int} {n k:Nat} (h:PySem.seqIndex? i n=some k) (hn:n<=1048576) : -(n:Int)<=i /\ -2 ^ 63<=i/\i<2 ^ 63/\(i<0->(i+n).toNat=k)/\(¬ i<0->i.toNat=k):=by
 unfold PySem.seqIndex? at h
 simp only [Bool.and_eq_true,decide_eq_true_eq] at h
 by_cases h0:i<0
 ·simp only [h0,if_true] at h
  split at h
  ·rename_i hc
   exact ⟨by lia,by lia,by lia,λ_=>Option.some.inj h,λq=>absurd h0 q⟩
  ·cases h
 ·simp only [h0,if_false] at h
  split at h
  ·rename_i hc
   exact ⟨by lia,by lia,by lia,λq=>absurd q h0,λ_=>Option.some.inj h⟩
  ·cases h
theorem yN {n:Nat} (h:n<=1048576 * 1000000) : -2 ^ 63<=(n:Int)/\(n:Int)<2 ^ 63:=⟨Int.le_trans (by decide) (Int.natCast_nonneg n),Int.lt_of_le_of_lt (Int.ofNat_le.mpr h) (by decide)⟩
theorem nv {n:Nat} {k:Int} (hk:k<=0:=by decide):k<=(n:Int):=Int.le_trans hk (Int.natCast_nonneg n)
theorem qB {n:Int} {k:Nat} (h:n<=k):n.toNat<=k:=Int.toNat_le.mpr h
theorem Ji:decide ((a:Int)<(b:Int))=decide (a<b):=decide_eq_decide.mpr Int.ofNat_lt
end Mine
namespace Mine
open _root_.Array renaming length_toList→TY,toList_append→UN,getElem?_toList→UO,toList_extract→UU,getElem?_eq_getElem→U1,toList_push→Wt,all_eq_true_iff_forall_mem→Wv,perm_iff_toList_perm→W7,size_extract→Xz
open _root_.Bool renaming and_eq_true_iff→Tp,false_eq_true→Up,or_eq_true_iff→V0,and_eq_true→V9,false_ne_true→Wh,or_eq_true→WO,or_eq_false_iff→W0
open _root_.ForInStep renaming yield→VB,done→XO
open _root_.Int renaming ofNat_lt→Ul,natCast_nonneg→Uz,toNat_natCast→U',not_lt→WI,fdiv_eq_ediv_of_nonneg→W9,ofNat_le→Xc,le_of_lt→XH
open _root_.LawfulBEq renaming eq_of_beq→U0
open _root_.List renaming mem_cons_self→R_,length_map→Sa,mem_cons_of_mem→Sb,mem_cons→Sh,range→Sk,mem_singleton→Sm,mem_append→Sq,mem_range→Ss,getElem?_eq_getElem→Sv,mem_flatMap→Sw,length_append→Sy,getD_eq_getElem?_getD→SD,append_assoc→SH,append_nil→SI,mem_map→SN,getElem?_map→SP,map_cons→SV,flatMap_cons→S2,map_map→S3,map_append→S4,lookup_cons→S8,not_mem_nil→S9,length_cons→S_,map_congr_left→Te,length_range→To,forall_mem_singleton→Tv,take_add_one→Tz,getElem?_eq_none→TA,getElem?_eq_some_iff→TG,replicate→TH,size_toArray→TJ,length_drop→TN,drop_eq_nil_of_le→T3,flatMap_append→T8,take_append_drop→Ud,perm_append_comm→Ue,all_eq_true→Ui,mem_append_left→Uk,replicate_succ→Ut,nodup_append→Ux,take_of_length_le→UB,forIn_cons→UE,getElem_mem→UH,flatMap_nil→UM,mem_of_getElem?→UW,cons_append→UZ,extract_eq_take_drop→U3,foldl_append→U9,eq_of_mem_replicate→Vh,foldl_cons→Vk,mem_of_mem_drop→Vo,mem_of_mem_take→Vp,map_nil→Vt,flatten_cons→Vv,drop_zero→Vx,mem_append_right→VE,length_eq_zero_iff→VQ,nil_append→VS,getElem?_range→VV,length_pos_iff→VW,filter_eq_self→VX,length→V7,mem_reverse→Wa,length_take→Wc,length_filter_le→Wi,eq_nil_or_concat→Wm,concat_eq_append→Wn,length_reverse→Wz,mem_filterMap→WJ,mem_filter→WQ,getElem?_toArray→WT,count_append→WY,forall_mem_cons→W2,getElem?_append_right→W4,take_length→Xa,drop_eq_getElem_cons→Xd,getElem?_append_left→Xf,map_take→Xr,sum_cons→Xu,length_zipIdx→Xw
open _root_.List.Perm renaming append_left→VG,append_right→XQ
open _root_.Nat renaming le_trans→R9,lt_of_lt_of_le→Sd,le_add_left→Sf,le_refl→Si,le_of_succ_le→Sl,le_of_eq→So,lt_succ_of_le→Sp,le_of_ble_eq_true→Sz,le_succ_of_le→SE,lt_irrefl→SW,zero_le→SX,le_of_lt→S1,succ_le_of_lt→S5,lt_succ_of_lt→Td,lt_of_le_of_ne→Tf,le_add_right→Th,lt_of_succ_lt_succ→Tn,not_lt_of_le→Tt,succ_le_succ→TF,pos_of_ne_zero→TM,ne_of_lt→TP,lt_of_le_of_lt→TQ,le_of_not_lt→TS,le_antisymm→TU,add_le_add_left→TZ,add_sub_cancel→T7,le_succ→Uj,add_le_add_right→Um,add_lt_add_right→Uo,sub_add_cancel→Uq,add_sub_cancel'→Us,sub_le→Uu,lt_succ_self→UG,lt_of_not_le→UI,add_assoc→UJ,zero_add→UP,lt_of_succ_lt→UQ,add_sub_cancel_left→UT,ne_of_gt→Vi,add_comm→Vj,eq_or_lt_of_le→Vl,add_right_comm→Vm,add_sub_of_le→Vw,add_le_add→Vy,succ_ne_zero→VH,lt_or_ge→VI,not_succ_le_self→VK,one_pos→VL,mul_le_mul_right→VM,le_of_lt_succ→VP,min_eq_left→VU,min_le_right→V_,max_eq_right→Wb,sub_lt→Ww,succ_ne_self→WA,le_add_right_of_le→WM,sub_pos_of_lt→WX,sub_le_sub_right→W5,sub_le_of_le_add→W_,succ_pos→Xb,sub_lt_sub_left→Xh,eq_zero_or_pos→Xy,mul_le_mul→XR
open _root_.Option renaming map_eq_some_iff→S6,toList_some→Ub,bind_some→UL,map_some→Wo,isSome_none→Xx
open _root_.Option.some renaming inj→UC,injEq→XI
open _root_.PyProof.Rows renaming wpS_pure→Su,wpS_bind→SO,wpS_forRange→Wu,wpS_modify→Wx,exec_Assign→W3,Subscript_→XT
open _root_.PyProof.Rows.F renaming plain_set_update_loop→VY,entry_set_update_loop→Xi
open _root_.PySem renaming wpAny_bind→R7,wpAny_pure→R8,wpAny_holding→Sj,Expr→SQ,wpAny_ite_false→S7,wpAny_standAt→Tc,builtinLookup_eq_fast→Tj,wpAny_execs_cons→Tr,wpAny_of_eq→Tw,wpAny_newObj_type→TL,codeAny_call_builtin→T5,typeLookup_type→T6,wpAny_Call_method_lateS→Ug,assign→Ur,wpAny_callSpecial?_slot→Uv,wpAny_call_entry→Uw,wpAny_call→UA,wpAny_execs_nil→UD,wpAny_isInstance→UK,wpAny_attempt→UX,codeAny_builtin→UY,wpAny_mono→U4,wpAny_rule→U7,wpAny_seqItems→Ve,wpAny_setField→Vg,plainId_quiet→Vs,arm_eval_Call_Name'→Vz,wpAny_updateSeq→VC,wpAt_of_wpAny→VN,codeAny_mono→V2,typeIs_str→Wf,slot_list_getitem→Wq,wpAt→Wr,wpAny_field→Ws,isSubtype_type→WB,entryFor_of_tree→WC,wpAny_fieldsOf→WD,slot_listiter_next→WK,ks_wpAt_execs_cons→WL,wpAny_specialOf→WR,codeAny_of_tree→WS,wpAny_loadName_local→WZ,sizeLine_eq→W8,wpAny_loadName_free→Xg,wpAny_release→Xl,typeIs_int→XA,wpAny_typeOf→XN,call_meets→XW,Fin→XY
open _root_.PySem.Around renaming under_plainId→T_
open _root_.PySem.Bind renaming checkArgs→XM
open _root_.PySem.BindsTo renaming of_eq→Uy
open _root_.PySem.Builtin.List renaming listSubscript?→Vq,listItems→V5,listTooLong→Xq
open _root_.PySem.Builtin.Range renaming rangeSize→Tg,small→VA
open _root_.PySem.Builtin.Re renaming reRunToEnd→WW
open _root_.PySem.Builtin.Str renaming occurrences→UR,strKind→U8,partsBetween→Vd,strSliceIndices→V1
open _root_.PySem.Calls renaming evalArgs_plain→Ti,callWith_builtin→Tq,spliced_cons→Ua,spliced_nil→Vu,Name_function_global→We,loadGlobal_builtin→Xj,callWith_function→XD
open _root_.PySem.F renaming called_set→Vn,plainAttrs_str→V3,slot_str_split→V4,slot_list_getattribute→WE,slot_str_join→WU,type_str_join→WV,args_str_split_2→Xm,slot_list_append→Xn,type_list_append→Xo,ks_slot_super_ga→Xs,plainAttrs_list→XF,entry_str_split→XG
open _root_.PySem.Flow renaming next→XU
open _root_.PySem.Heap renaming get?_push_of_some→Sg,get?_push_size→Sn,lt_size→SY,size_push→Tu,SameBut→Uc,ExtBut→U_,get?_update_self→VF
open _root_.PySem.Heap.IsSliceOf renaming new→Xv
open _root_.PySem.Heap.SameBut renaming update→TX
open _root_.PySem.Manifest renaming signature?→Wy
open _root_.PySem.NameKind renaming cell→T9,free→Uh
open _root_.PySem.Obj renaming mapSeq→U6
open _root_.PySem.PyData renaming strOk→T4,eqv→WH,eqvAll→XZ
open _root_.PySem.SetTable renaming grown→WG,below→W6
open _root_.PySem.Sre renaming forSearch→Vr,M→V6,header→Wg,Seen→Xp,Frame→XC
open _root_.PySem.Sre.M renaming admitted→XK
open _root_.PySem.Str renaming join→Sx,length_append→SG,ofString→VJ
open _root_.PySem.StrLaws renaming glued_eq_join→Wj,join_length_le→XJ
open _root_.PySem.Txt renaming isspace→Va,count→Vb,mul→VD,split→VO
open _root_.PySem.Value renaming type→U5,ref→Vc,builtin→Vf,none→VT,int→XE,str→XX
open _root_.PySem.W renaming looks_findIn→Un,looks_mroIn→V8,isNs_of_in→WN
variable {α β:Type} {C f L N I D:Addr} {A:Around} {p₀:Array (Nat×Nat×Nat)} {g:Array GenState} {Gt:Array GenState->Array GenState->Prop} {a₀:Array Keyed} {items:Array Value} {cd:ClassData} {dat:Data} {env:Env} {mean:ExcName->Option Value} {K K':Flow->Shared->Prop} {fd:FuncData} {h h':Heap} {near:List (List Nat)} {written:List (List Str)} {xs ws us ys words:List (Str×Str)} {kw:List (Str×Value)} {W W' X Y fp:List Addr} {sums cs:List Nat} {es ifs args elts:List SQ} {fr:List XC} {body rest:List Stmt} {names lines ks texts:List Str} {vs:List Value} {a b c n k d i j mx k' ep room ch width:Nat} {T:Nat->Heap->Prop} {next:Nat->Option (Nat×Nat)} {use:Option (Value->Sem Unit)} {lo hi:Option Int} {os:OsState} {pos apos epos:Pos} {prog:Program} {e o value target test l r iter elt e1 slice e2:SQ} {R:Result->Shared->Prop} {sc:Scope} {t:SetTable} {s s' s0:Shared} {st st':SortSt} {x y aC sep xo:Str} {id:String} {z:Str×Str} {cl:Str->Option Addr} {m m' mg:Str->Option Value} {v code pm:Value} {E Q:Value->Shared->Prop} {w:World} {P:α->Prop}
noncomputable def z8 (h:Heap) (a:Addr) (vs:List Value):Prop :=
 ∃ n,h.get? a=some {cls:=.type "list",dict:=none,data:=.seq vs.toArray n,slots:=#[]}
noncomputable def CW (h:Heap) (a:Addr) (vs:List Value):Prop :=
 ∃ n,h.get? a=some {cls:=.type "tuple",dict:=none,data:=.seq vs.toArray n,slots:=#[]}
inductive PV where
 | none
 | bool (b:Bool)
 | int (i:Int)
 | str (s:Str)
 | tup (xs:List PV)
 | lst (xs:List PV)
 | raw (v:Value)
noncomputable def lim:Nat:=2 ^ 20
mutual
noncomputable def Rep (W:List Addr) (h:Heap):PV->Value->Prop
 | .none,v=>v = .none
 | .bool b,v=>v = .bool b
 | .int i,v=>∃ t,v = .int i t
 | .str s,v=>s.length<=lim/\∃ t,v = .str s t
 | .raw x,v=>v=x
 | .tup xs,v=>xs.length<=lim/\∃ a vs,v = .ref a/\a∉W/\CW h a vs/\ah W h xs vs
 | .lst xs,v=>xs.length<=lim/\∃ a vs,v = .ref a/\a∉W/\z8 h a vs/\ah W h xs vs
noncomputable def ah (W:List Addr) (h:Heap):List PV->List Value->Prop
 | [],vs=>vs=[]
 | x::xs,vs=>∃ v vs',vs=v::vs'/\Rep W h x v/\ah W h xs vs'
end
theorem ah.nil {W h vs}:ah W h [] vs↔vs=[]:=by rw [ah]
theorem ah.cons {W h x xs vs}:ah W h (x::xs) vs↔∃ v vs',vs=v::vs'/\Rep W h x v/\ah W h xs vs':=by rw [ah]
theorem ah.length {W h}:∀ {xs vs},ah W h xs vs->vs.length=xs.length
 | [],vs,r=>by rw [ah] at r;subst r;rfl
 | x::xs,vs,r=>by
  rw [ah] at r
  obtain ⟨v,vs',rfl,_,r⟩:=r
  simp [ah.length r]
noncomputable def aI (W:List Addr) (h h':Heap):Prop :=
 (∀ a vs,a∉W->z8 h a vs->z8 h' a vs)/\(∀ a vs,a∉W->CW h a vs->CW h' a vs)
mutual
theorem Rep.keep {W W' h h'} (k:aI W h h') (hw:∀ a,(∃ o,h.get? a=some o)->a∈W'->a∈W):∀ {p v},Rep W h p v->Rep W' h' p v
 | .none,v,r=>by rw [Rep] at r ⊢;exact r
 | .bool b,v,r=>by rw [Rep] at r ⊢;exact r
 | .int i,v,r=>by rw [Rep] at r ⊢;exact r
 | .str s,v,r=>by rw [Rep] at r ⊢;exact r
 | .raw x,v,r=>by rw [Rep] at r ⊢;exact r
 | .tup xs,v,r=>by
  rw [Rep] at r ⊢
  refine ob0_2 r λhl aA=>?_;refine ob2_4 aA λa vs e ha ht hr=>?_
  exact ⟨hl,a,vs,e,λx=>ha (hw a (ht.elim λn e=>⟨_,e⟩) x),k.2 _ _ ha ht,ah.keep k hw hr⟩
 | .lst xs,v,r=>by
  rw [Rep] at r ⊢
  refine ob0_2 r λhl aA=>?_;refine ob2_4 aA λa vs e ha ht hr=>?_
  exact ⟨hl,a,vs,e,λx=>ha (hw a (ht.elim λn e=>⟨_,e⟩) x),k.1 _ _ ha ht,ah.keep k hw hr⟩
theorem ah.keep {W W' h h'} (k:aI W h h') (hw:∀ a,(∃ o,h.get? a=some o)->a∈W'->a∈W):∀ {ps vs},ah W h ps vs->ah W' h' ps vs
 | [],vs,r=>by rw [ah] at r ⊢;exact r
 | p::ps,vs,r=>by
  rw [ah] at r ⊢
  refine ob2_3 r λv vs' e h1 h2=>?_
  exact ⟨v,vs',e,Rep.keep k hw h1,ah.keep k hw h2⟩
end
noncomputable def bU (h:Heap) (c P:Addr) (ps:Array Value):Prop:=h.IsCode c P ps/\h.TableAt c P ps
noncomputable def eZ (h:Heap) (v:Value):Prop:=∃ c o vs q t,v = .ref c/\h.get? c=some o/\o.cls = .type "code"/\o.data = .fields vs/\vs[1]? = some (.str q t)
inductive gH (h:Heap):List Value->Prop
 | nil:gH h []
 | cons {i j:Int} {t u:Tok} {v:Value} {r:List Value}:eZ h v->gH h r->gH h (.int i t :: .int j u::v::r)
structure Glob where
 prog:Program
 w:World
 base:Heap
 tabs:List Addr
 inv:Heap->Prop
 mg:Str->Option Value
 mb:Str->Option Value
 rD:∀ b∈tabs,b<base.objs.size
 AY:∀ h h' (Y:List Addr),inv h->(∀ b∈Y,base.objs.size<=b/\∀ o,h.get? b=some o->(o.cls ≠ .type "code"\/∀ vs,o.data ≠ .fields vs)) ->
  (∀ b o,b∉Y->h.get? b=some o->h'.get? b=some o)->inv h'
 vP:∀ h,inv h->∀ b o,base.get? b=some o->b∉tabs->h.get? b=some o
 A0:∀ h,inv h->h.NoLimit
 Jd:∀ h,inv h->base.objs.size<=h.objs.size
 vO:∀ h,inv h->h.Ns mainGlobals mg
 AZ:∀ h,inv h->h.Ns builtinsNs mb
 DI:∀ h,inv h->∀ b∈tabs,∃ o vs,h.get? b=some o/\o.data = .fields vs
 Je:∀ h h' (c P:Addr) ps ps',inv h->P∈tabs->bU h c P ps->bU h' c P ps'->(gH h ps.toList->gH h' ps'.toList)->(∀ b o,b≠P->h.get? b=some o->h'.get? b=some o)->inv h'
theorem Glob.yH (G:Glob) (h h':Heap) (i:G.inv h) (k:∀ b o,h.get? b=some o->h'.get? b=some o):G.inv h' :=
 G.AY h h' [] i (by simp) λb o z! e=>k b o e
structure aG (G:Glob) (X:List Addr) (s s':Shared):Prop where
 keep:∀ b o,b∉X->b∉G.tabs->s.heap.get? b=some o->s'.heap.get? b=some o
 inv:G.inv s.heap->G.inv s'.heap
 os:s'.os=s.os
 gens:∃ l:List GenState,s'.gens.toList=s.gens.toList++l/\∀ x∈l,x.bare=true
namespace aG
variable {G:Glob} {s'':Shared}
theorem refl (G:Glob) (X:List Addr) (s:Shared):aG G X s s:=⟨λz! z! z! z! e=>e,id,rfl,⟨[],by simp,by simp⟩⟩
theorem trans (x:aG G X s s') (y:aG G X s' s''):aG G X s s'' :=
 ⟨λb o hb hc e=>y.keep b o hb hc (x.keep b o hb hc e),λi=>y.inv (x.inv i),y.os.trans x.os,by
  refine ob1_2 x.gens λl e hl=>?_
  refine ob1_2 y.gens λl' e' hl'=>?_
  exact ⟨l++l',by rw [e',e,SH],λz hz=>(Sq.mp hz).elim (hl z) (hl' z)⟩⟩
theorem mono {X':List Addr} (x:aG G X s s') (h:∀ a∈X,a∈X'):aG G X' s s' :=
 ⟨λb o hb=>x.keep b o λhb'=>hb (h b hb'),x.inv,x.os,x.gens⟩
theorem up (x:aG G [] s s'):aG G X s s':=x.mono (by simp)
theorem toks (x:aG G X s s') (t:Nat):aG G X s {s' with toks:=t}:=⟨x.keep,x.inv,x.os,x.gens⟩
theorem drawn (x:aG G X s s') (t:Drawn):aG G X s {s' with drawn:=t}:=⟨x.keep,x.inv,x.os,x.gens⟩
theorem of_keeps (G:Glob) {t:Nat} (k:∀ b o,s.heap.get? b=some o->h'.get? b=some o) :
  aG G [] s {s with heap:=h',toks:=t} :=
 ⟨λb o z! z! e=>k b o e,λi=>G.yH _ _ i k,rfl,⟨[],by simp,by simp⟩⟩
theorem bO (G:Glob) {o:Obj} {t:Nat}:aG G [] s {s with heap:=s.heap.push o,toks:=t} :=
 of_keeps G (λz! z! e=>Sg _ e)
theorem of_toks (G:Glob) {t:Nat}:aG G [] s {s with toks:=t}:=(aG.refl G [] s).toks t
theorem push (x:aG G X s s') {o:Obj} {t:Nat}:aG G X s {s' with heap:=s'.heap.push o,toks:=t}:=x.trans (bO G).up
theorem gn (G:Glob) {t:Nat} (hY:∀ b∈Y,G.base.objs.size<=b/\∀ o,s.heap.get? b=some o->(o.cls ≠ .type "code"\/∀ vs,o.data ≠ .fields vs))
  (k:∀ b o,b∉Y->s.heap.get? b=some o->h'.get? b=some o):aG G Y s {s with heap:=h',toks:=t} :=
 ⟨λb o hb z! e=>k b o hb e,λi=>G.AY _ _ Y i hY k,rfl,⟨[],by simp,by simp⟩⟩
theorem of_same (G:Glob) {a:Addr} {o:Obj} {t:Nat} (ha:G.base.objs.size<=a) (e:s.heap.get? a=some o)
  (hc:o.cls ≠ .type "code"\/∀ vs,o.data ≠ .fields vs) (hs:Uc a s.heap h'):aG G [a] s {s with heap:=h',toks:=t} :=
 gn G (λb hb=>by
  have:b=a:=by simpa using hb
  subst this
  exact ⟨ha,λo' e'=>by rw [e] at e';cases e';exact hc⟩) λb o' hb e'=>(hs.2 b (by simpa using hb)).trans e'
theorem drops {s₀:Shared} (x:aG G X s₀ s) (y:aG G Y s s') (hn:∀ a∈Y,s₀.heap.get? a=none\/a∈X):aG G X s₀ s' :=
 ⟨λb o hb hc e=>y.keep b o (by
   intro h
   rcases hn b h with hn | hn
   ·rw [hn] at e;cases e
   ·exact hb hn) hc (x.keep b o hb hc e),λi=>y.inv (x.inv i),y.os.trans x.os,by
  refine ob1_2 x.gens λl e hl=>?_
  refine ob1_2 y.gens λl' e' hl'=>?_
  exact ⟨l++l',by rw [e',e,SH],λz hz=>(Sq.mp hz).elim (hl z) (hl' z)⟩⟩
end aG
namespace aG
variable {G:Glob} {s'':Shared}
theorem gQ {b:Addr} {o:Obj} (x:aG G X s s') (i:G.inv s.heap) (hb:b∉X) (e:s.heap.get? b=some o) (hd:∀ vs,o.data ≠ .fields vs):s'.heap.get? b=some o:=by
 refine x.keep b o hb (λh=>?_) e
 refine ob2_2 (G.DI _ i b h) λo' vs e' d=>?_
 rw [e] at e';cases e'
 exact hd vs d
theorem cg (x:aG G X s s') (i:G.inv s.heap) (hX:∀ a∈X,a∈W):aI W s.heap s'.heap :=
 ⟨λa vs ha zz=>zz.elim λn e=>⟨n,x.gQ i (λh=>ha (hX a h)) e (by simp)⟩,λa vs ha zz=>zz.elim λn e=>⟨n,x.gQ i (λh=>ha (hX a h)) e (by simp)⟩⟩
theorem rep {p v} (x:aG G X s s') (i:G.inv s.heap) (hX:∀ a∈X,a∈W) (r:Rep W s.heap p v):Rep W s'.heap p v :=
 r.keep (x.cg i hX) λz! z! h=>h
theorem reps {p v} (x:aG G X s s') (i:G.inv s.heap) (hX:∀ a∈X,a∈W) (r:ah W s.heap p v):ah W s'.heap p v :=
 r.keep (x.cg i hX) λz! z! h=>h
theorem rep0 {p v} (x:aG G [] s s') (i:G.inv s.heap) (r:Rep W s.heap p v):Rep W s'.heap p v:=x.rep i (by simp) r
theorem jC {p v} (x:aG G [] s s') (i:G.inv s.heap) (r:ah W s.heap p v):ah W s'.heap p v:=x.reps i (by simp) r
theorem ns {b:Addr} {m} (x:aG G X s s') (i:G.inv s.heap) (hb:b∉X) (h:s.heap.Ns b m):s'.heap.Ns b m:=by
 refine ob3_3 h λo es ep e d r=>?_
 exact ⟨o,es,ep,x.gQ i hb e (by rw [d];simp),d,r⟩
theorem cell {b:Addr} {v} (x:aG G X s s') (i:G.inv s.heap) (hb:b∉X) (h:s.heap.IsCell b v):s'.heap.IsCell b v:=by
 refine ob1_2 h λo e d=>?_
 exact ⟨o,x.gQ i hb e (by rw [d];simp),d⟩
theorem lat {b:Addr} {vs} (x:aG G X s s') (i:G.inv s.heap) (hb:b∉X) (h:z8 s.heap b vs):z8 s'.heap b vs:=by
 refine ob1_1 h λn e=>?_
 exact ⟨n,x.gQ i hb e (by simp)⟩
end aG
noncomputable abbrev Glob.M (G:Glob):Model:=model G.prog G.w
variable {G:Glob} {ρ ρ' ms:List (Str×PV)} {ps ps':List PV} {p q:PV} {enc:α->PV}
section
structure Res where
 addrs:List Addr
 holds:List Addr->Heap->Prop
 keep:∀ W W' h h',holds W h->(∀ a∈addrs,∀ o,h.get? a=some o->h'.get? a=some o)->aI W h h' ->
  (∀ a,(∃ o,h.get? a=some o)->a∈W'->a∈W)->holds W' h'
noncomputable def Res.lst (a:Addr) (xs:List PV):Res where
 addrs:=[a]
 holds W h:=xs.length<=lim/\∃ vs,z8 h a vs/\ah W h xs vs
 keep:=λW W' h h' zz k sk hw=>zz.elim λhl zz=>zz.elim λvs zz=>zz.elim λzn r=>zn.elim λn e=>⟨hl,vs,⟨n,k a (by simp) _ e⟩,r.keep sk hw⟩
noncomputable def Look (env:Env) (h:Heap) (x:Str) (v:Value):Prop :=
 (env.kindOf x=some .local/\∃ m,h.Ns env.locals m/\m x=some v) \/
 ((env.kindOf x=some .cell\/env.kindOf x=some .free)/\∃ c,env.cells.lookup x=some c/\h.IsCell c (some v))
noncomputable def cz (A:Around) (n:Nat):Prop:=A.handled=none/\A.depth+n<900/\A.units+20 * n<9000
theorem cz.mono {m:Nat} (r:cz A n) (h:m<=n):cz A m:=⟨r.1,by have:=r.2.1;exact PC h this,by have:=r.2.2;exact PA h this⟩
structure Fm where
 A:Around
 env:Env
 s0:Shared
 X:List Addr
 n:Nat
 cv:List Str
structure St (G:Glob) (F:Fm) (ρ:List (Str×PV)) (W:List Addr) (Rs:List Res) (s:Shared):Prop where
 inv:G.inv s.heap
 stp:aG G F.X F.s0 s
 room:cz F.A F.n
 kind:F.env.scope.kind = .function
 glob:F.env.globals=mainGlobals
 blt:F.env.builtins=builtinsNs
 loc:∃ m,s.heap.Ns F.env.locals m
 cells:∀ x c,F.env.cells.lookup x=some c->∃ v,s.heap.IsCell c v
 jw:∀ x,F.env.kindOf x=some .cell\/F.env.kindOf x=some .free->∃ c,F.env.cells.lookup x=some c
 own:∀ x∈F.cv,∃ c,F.env.cells.lookup x=some c/\(F.s0.heap.get? c=none\/c∈F.X)/\G.base.objs.size<=c /\
  (∀ y,F.env.cells.lookup y=some c->y=x)
 vars:∀ x p,ρ.lookup x=some p->∃ v,Look F.env s.heap x v/\Rep W s.heap p v
 gq:(F.s0.heap.get? F.env.locals=none\/F.env.locals∈F.X)/\G.base.objs.size<=F.env.locals
 lW:F.env.locals∉W
 cW:∀ x c,F.env.cells.lookup x=some c->c∉W
 low:∀ a∈W,G.base.objs.size<=a/\∃ o,s.heap.get? a=some o
 new:∀ r∈Rs,∀ a∈r.addrs,a∈W/\(F.s0.heap.get? a=none\/a∈F.X)
 res:∀ r∈Rs,r.holds W s.heap
 apart:(Rs.flatMap (·.addrs)).Nodup
variable {F:Fm} {Rs:List Res}
theorem Look.step {x v} (y:aG G X s s') (i:G.inv s.heap) (hl:env.locals∉X) (hc:∀ x c,env.cells.lookup x=some c->c∉X)
  (h:Look env s.heap x v):Look env s'.heap x v:=by
 rcases h with ⟨k,m,hn,e⟩ | ⟨k,c,e,hv⟩
 ·exact .inl ⟨k,m,y.ns i hl hn,e⟩
 ·exact .inr ⟨k,c,e,y.cell i (hc x c e) hv⟩
theorem St.xD (S:St G F ρ W Rs s) (x:aG G Y s s') (hY:∀ a∈Y,a∈W) (hn:∀ a∈Y,F.s0.heap.get? a=none\/a∈F.X)
  (hR:∀ r∈Rs,∀ a∈r.addrs,a∉Y) (hA:∀ a∈Y,∃ o,s'.heap.get? a=some o):St G F ρ W Rs s' where
 inv:=x.inv S.inv
 stp:=S.stp.drops x hn
 room:=S.room
 kind:=S.kind
 glob:=S.glob
 blt:=S.blt
 loc:=S.loc.imp λm h=>x.ns S.inv (λh=>S.lW (hY _ h)) h
 cells:=λy c e=>(S.cells y c e).imp λv h=>x.cell S.inv (λh=>S.cW y c e (hY _ h)) h
 jw:=S.jw
 own:=S.own
 vars:=λy p e=>(S.vars y p e).imp λv zz=>zz.elim λl r=>⟨l.step x S.inv (λh=>S.lW (hY _ h)) (λy c e h=>S.cW y c e (hY _ h)),x.rep S.inv hY r⟩
 gq:=S.gq
 lW:=S.lW
 cW:=S.cW
 low:=λa h=>⟨(S.low a h).1,by
  refine ob0_2 (S.low a h) λh1 aA=>?_;refine ob1_1 aA λo e=>?_
  by_cases ha:a∈Y
  ·exact hA a ha
  ·exact ⟨o,x.keep a o ha (λht=>SW _ (Sd (G.rD a ht) h1)) e⟩⟩
 new:=S.new
 res:=λr hr=>r.keep W W _ _ (S.res r hr) (λa ha o e=>x.keep a o (hR r hr a ha) (by
  intro ht
  exact SW _ (Sd (G.rD a ht) (S.low a (S.new r hr a ha).1).1)) e) (x.cg S.inv hY) λz! z! h=>h
 apart:=S.apart
theorem St.step (S:St G F ρ W Rs s) (x:aG G [] s s'):St G F ρ W Rs s' :=
 S.xD x (by simp) (by simp) (by simp) (by simp)
theorem St.weaken (S:St G F ρ W Rs s) (h:∀ x p,ρ'.lookup x=some p->ρ.lookup x=some p):St G F ρ' W Rs s :=
 {S with vars:=λx p e=>S.vars x p (h x p e)}
noncomputable def EV (G:Glob) (F:Fm) (ρ:List (Str×PV)) (W:List Addr) (Rs:List Res) (e:SQ) (p:PV):Prop :=
 ∀ s,St G F ρ W Rs s->wpAny G.M F.A (eval e F.env) (λv s'=>aG G [] s s'/\Rep W s'.heap p v) (λz! z! => False) s
noncomputable def aV (G:Glob) (F:Fm) (ρ:List (Str×PV)) (W:List Addr) (Rs:List Res) (es:List SQ) (ps:List PV):Prop :=
 ∀ s,St G F ρ W Rs s->wpAny G.M F.A (spliced (es.map λe=>(false,eval e F.env))) (λvs s'=>aG G [] s s'/\ah W s'.heap ps vs) (λz! z! => False) s
noncomputable def TV (G:Glob) (F:Fm) (ρ:List (Str×PV)) (W:List Addr) (Rs:List Res) (e:SQ) (b:Bool):Prop :=
 ∀ s,St G F ρ W Rs s->wpAny G.M F.A (isTrue e F.env (eval e F.env)) (λv s'=>aG G [] s s'/\v=b) (λz! z! => False) s
noncomputable def XS (G:Glob) (F:Fm) (ρ:List (Str×PV)) (W:List Addr) (Rs:List Res) (ss:List Stmt) (K:Flow->Shared->Prop):Prop :=
 ∀ s,St G F ρ W Rs s->wpAny G.M F.A (execs ss F.env) K (λz! z! => False) s
theorem aF {M:Model} {t:Sem α} {Q Q':α->Shared->Prop}
  (h:wpAny M A t Q (λz! z! => False) s) (hQ:∀ a s',Q a s'->Q' a s'):wpAny M A t Q' E s :=
 U4 h hQ λz! z! f=>f.elim
theorem EV.conv {e p q} (h:EV G F ρ W Rs e p) (hq:p=q):EV G F ρ W Rs e q:=hq▸h
theorem TV.conv {e p q} (h:TV G F ρ W Rs e p) (hq:p=q):TV G F ρ W Rs e q:=hq▸h
theorem aV.nil:aV G F ρ W Rs [] []:=λs z! => R8 ⟨.refl ..,by rw [ah]⟩
theorem aV.cons {e es p ps} (h:EV G F ρ W Rs e p) (h':aV G F ρ W Rs es ps):aV G F ρ W Rs (e::es) (p::ps):=λs S =>
 Ua (aF (h s S) λv s₁ zz=>zz.elim λx r=>aF (h' s₁ (S.step x)) λvs s₂ zz=>zz.elim λy rs =>
  ⟨x.trans y,by rw [ah];exact ⟨v,vs,rfl,y.rep0 (x.inv S.inv) r,rs⟩⟩)
theorem EV.name (hx:ρ.lookup x=some p) (hd:(x == ("__debug__":Str))=false:=by decide)
  (hc:(x == ("__classdict__":Str))=false:=by decide):EV G F ρ W Rs (.Name x pos) p:=λs S=>by
 refine ob1_2 (S.vars x p hx) λv l r=>?_
 refine wpAny_Name ?_ hd
 rcases l with ⟨k,m,hn,e⟩ | ⟨k | k,c,e,hv⟩
 ·exact WZ S.kind k hn e ⟨.refl ..,r⟩
 ·exact wpAny_loadName_cell S.kind k e hv ⟨.refl ..,r⟩
 ·exact Xg S.kind k e hv ⟨.refl ..,r⟩ hc
theorem EV.glob {x:Str} {pos:Pos} {v:Value} (hk:F.env.kindOf x=some .globalImplicit) (hx:G.mg x=some v)
  (hd:(x == ("__debug__":Str))=false:=by decide):EV G F ρ W Rs (.Name x pos) (.raw v):=λs S =>
 We S.kind hk (Calls.loadGlobal_global (by rw [S.glob];exact G.vO _ S.inv) hx ⟨.refl ..,by rw [Rep]⟩) hd
theorem EV.blt {x:Str} {pos:Pos} {v:Value} (hk:F.env.kindOf x=some .globalImplicit) (hx:G.mg x=none) (hb:G.mb x=some v)
  (hd:(x == ("__debug__":Str))=false:=by decide):EV G F ρ W Rs (.Name x pos) (.raw v):=λs S =>
 We S.kind hk (Xj (by rw [S.glob];exact G.vO _ S.inv) hx (by rw [S.blt];exact G.AZ _ S.inv) hb ⟨.refl ..,by rw [Rep]⟩) hd
theorem EV.aE {i:Int}:EV G F ρ W Rs (.Constant (.int i) k pos) (.int i):=λs z! =>
 wpAny_Constant_int ⟨.of_toks G,by rw [Rep];exact ⟨_,rfl⟩⟩
theorem EV.bP (hl:x.length<=lim:=by decide):EV G F ρ W Rs (.Constant (.str x) k pos) (.str x):=λs z! =>
 Calls.Constant_str ⟨.of_toks G,by rw [Rep];exact ⟨hl,_,rfl⟩⟩
theorem EV.nH:EV G F ρ W Rs (.Constant .none k pos) .none:=λs z! =>
 R8 ⟨.refl ..,by rw [Rep]⟩
theorem EV.bin {op:Operator} {z:PV} (hl:EV G F ρ W Rs l p) (hr:EV G F ρ W Rs r q)
  (ho:∀ s a b,St G F ρ W Rs s->Rep W s.heap p a->Rep W s.heap q b ->
   wpAny G.M F.A (binaryOp op a b) (λv s'=>aG G [] s s'/\Rep W s'.heap z v) (λz! z! => False) s):EV G F ρ W Rs (.BinOp l op r pos) z:=λs S =>
 wpAny_BinOp (aF (hl s S) λa s₁ zz=>zz.elim λx ra=>aF (hr s₁ (S.step x)) λb s₂ zz=>zz.elim λy rb =>
  aF (ho s₂ a b ((S.step x).step y) (y.rep0 (x.inv S.inv) ra) rb) λv s₃ zz=>zz.elim λz rz=>⟨x.trans (y.trans z),rz⟩)
theorem EV.cmp {op:CmpOp} {z:PV} (hl:EV G F ρ W Rs l p) (hr:EV G F ρ W Rs r q)
  (ho:∀ s a b,St G F ρ W Rs s->Rep W s.heap p a->Rep W s.heap q b ->
   wpAny G.M F.A (compareOp op a b) (λv s'=>aG G [] s s'/\Rep W s'.heap z v) (λz! z! => False) s)
  (hm:behindInMarks op r=false:=by with_unfolding_all rfl):EV G F ρ W Rs (.Compare l [op] [r] pos) z:=λs S =>
 wpAny_Compare1 (aF (hl s S) λa s₁ zz=>zz.elim λx ra=>aF (hr s₁ (S.step x)) λb s₂ zz=>zz.elim λy rb =>
  aF (ho s₂ a b ((S.step x).step y) (y.rep0 (x.inv S.inv) ra) rb) λv s₃ zz=>zz.elim λz rz=>⟨x.trans (y.trans z),rz⟩) hm
theorem TV.cmp {op:CmpOp} {z:Bool} (hl:EV G F ρ W Rs l p) (hr:EV G F ρ W Rs r q)
  (ho:∀ s a b,St G F ρ W Rs s->Rep W s.heap p a->Rep W s.heap q b ->
   wpAny G.M F.A (compareOp op a b) (λv s'=>aG G [] s s'/\Rep W s'.heap (.bool z) v) (λz! z! => False) s)
  (hm:behindInMarks op r=false:=by with_unfolding_all rfl):TV G F ρ W Rs (.Compare l [op] [r] pos) z:=λs S =>
 wpAny_isTrue_Compare1 (aF (hl s S) λa s₁ zz=>zz.elim λx ra=>aF (hr s₁ (S.step x)) λb s₂ zz=>zz.elim λy rb =>
  aF (ho s₂ a b ((S.step x).step y) (y.rep0 (x.inv S.inv) ra) rb) λv s₃ zz=>zz.elim λz rz=>by
   rw [Rep] at rz
   subst rz
   exact wpAny_truthy_bool ⟨x.trans (y.trans z),rfl⟩) hm
end
variable {F:Fm} {Nw:List Addr->List Addr->List Res->Prop} {Rs aq Ro:List Res}
section
variable {a b:Int}
theorem EV.add (hl:EV G F ρ W Rs l (.int a)) (hr:EV G F ρ W Rs r (.int b)):EV G F ρ W Rs (.BinOp l .Add r pos) (.int (a+b)) :=
 EV.bin hl hr λs x y S rx ry=>by
  rw [Rep] at rx ry;refine ob1_1 rx λt aB=>?_;obtain rfl:=aB;refine ob1_1 ry λu aB=>?_;obtain rfl:=aB
  exact P.add_int ⟨.of_toks G,by rw [Rep];exact ⟨_,rfl⟩⟩
theorem EV.sub (hl:EV G F ρ W Rs l (.int a)) (hr:EV G F ρ W Rs r (.int b)):EV G F ρ W Rs (.BinOp l .Sub r pos) (.int (a - b)) :=
 EV.bin hl hr λs x y S rx ry=>by
  rw [Rep] at rx ry;refine ob1_1 rx λt aB=>?_;obtain rfl:=aB;refine ob1_1 ry λu aB=>?_;obtain rfl:=aB
  exact P.sub_int ⟨.of_toks G,by rw [Rep];exact ⟨_,rfl⟩⟩
theorem EV.mod (hl:EV G F ρ W Rs l (.int a)) (hr:EV G F ρ W Rs r (.int b)) (hb:b≠0):EV G F ρ W Rs (.BinOp l .Mod r pos) (.int (a.fmod b)) :=
 EV.bin hl hr λs x y S rx ry=>by
  rw [Rep] at rx ry;refine ob1_1 rx λt aB=>?_;obtain rfl:=aB;refine ob1_1 ry λu aB=>?_;obtain rfl:=aB
  exact mod_int' hb ⟨.of_toks G,by rw [Rep];exact ⟨_,rfl⟩⟩
theorem EV.fdiv (hl:EV G F ρ W Rs l (.int a)) (hr:EV G F ρ W Rs r (.int b)) (hb:b≠0) (hs:b.natAbs<1000000000):EV G F ρ W Rs (.BinOp l .FloorDiv r pos) (.int (a.fdiv b)) :=
 EV.bin hl hr λs x y S rx ry=>by
  rw [Rep] at rx ry;refine ob1_1 rx λt aB=>?_;obtain rfl:=aB;refine ob1_1 ry λu aB=>?_;obtain rfl:=aB
  exact floordiv_int hb ⟨.of_toks G,by rw [Rep];exact ⟨_,rfl⟩⟩ (Or.inl (PyProof.noPylong_small (by exact Sd hs (Sf _ _))))
theorem EV.neg (he:EV G F ρ W Rs e (.int a)):EV G F ρ W Rs (.UnaryOp .USub e pos) (.int (-a)):=λs S=>by
 have e0:eval (.UnaryOp .USub e pos) F.env=(do let v<-eval e F.env;standAt pos;holding [v] (unaryOp .USub v)):=rfl
 rw [e0]
 refine R7 (aF (he s S) λv s₁ zz=>zz.elim λx rx=>R7 (Tc (Sj ?_)))
 rw [Rep] at rx;refine ob1_1 rx λt aB=>?_;obtain rfl:=aB
 exact P.neg_int ⟨x.toks _,by rw [Rep];exact ⟨_,rfl⟩⟩
theorem zB {op:CmpOp} {z:Bool} (h:∀ (s:Shared) (t u:Tok) (Q:Value->Shared->Prop),Q (.bool z) s->wpAny G.M F.A (compareOp op (.int a t) (.int b u)) Q (λz! z! => False) s) :
  ∀ s x y,St G F ρ W Rs s->Rep W s.heap (.int a) x->Rep W s.heap (.int b) y ->
   wpAny G.M F.A (compareOp op x y) (λv s'=>aG G [] s s'/\Rep W s'.heap (.bool z) v) (λz! z! => False) s:=λs x y S rx ry=>by
 rw [Rep] at rx ry;refine ob1_1 rx λt aB=>?_;obtain rfl:=aB;refine ob1_1 ry λu aB=>?_;obtain rfl:=aB
 exact h s t u _ ⟨.refl ..,by rw [Rep]⟩
theorem t7:∀ s x y,St G F ρ W Rs s->Rep W s.heap (.int a) x->Rep W s.heap (.int b) y ->
   wpAny G.M F.A (compareOp .Eq x y) (λv s'=>aG G [] s s'/\Rep W s'.heap (.bool (decide (a=b))) v) (λz! z! => False) s :=
 zB λs t u Q h=>P.eq_int (by rw [show (a == b)=decide (a=b) from rfl];exact h)
theorem jG:∀ s x y,St G F ρ W Rs s->Rep W s.heap (.int a) x->Rep W s.heap (.int b) y ->
   wpAny G.M F.A (compareOp .Lt x y) (λv s'=>aG G [] s s'/\Rep W s'.heap (.bool (decide (a<b))) v) (λz! z! => False) s :=
 zB λs t u Q h=>P.lt_int h
theorem IM:∀ s x y,St G F ρ W Rs s->Rep W s.heap (.int a) x->Rep W s.heap (.int b) y ->
   wpAny G.M F.A (compareOp .LtE x y) (λv s'=>aG G [] s s'/\Rep W s'.heap (.bool (decide (a<=b))) v) (λz! z! => False) s :=
 zB λs t u Q h=>P.le_int h
theorem qi:∀ s x y,St G F ρ W Rs s->Rep W s.heap (.int a) x->Rep W s.heap (.int b) y ->
   wpAny G.M F.A (compareOp .Gt x y) (λv s'=>aG G [] s s'/\Rep W s'.heap (.bool (decide (b<a))) v) (λz! z! => False) s :=
 zB λs t u Q h=>P.gt_int h
theorem IP:∀ s x y,St G F ρ W Rs s->Rep W s.heap (.int a) x->Rep W s.heap (.int b) y ->
   wpAny G.M F.A (compareOp .GtE x y) (λv s'=>aG G [] s s'/\Rep W s'.heap (.bool (decide (b<=a))) v) (λz! z! => False) s :=
 zB λs t u Q h=>P.ge_int h
theorem qj {a b:Str}:∀ s x y,St G F ρ W Rs s->Rep W s.heap (.str a) x->Rep W s.heap (.str b) y ->
   wpAny G.M F.A (compareOp .Eq x y) (λv s'=>aG G [] s s'/\Rep W s'.heap (.bool (decide (a=b))) v) (λz! z! => False) s:=λs x y S rx ry=>by
 rw [Rep] at rx ry;refine ob0_2 rx λz! aA=>?_;refine ob1_1 aA λt bh=>?_;obtain rfl:=bh;refine ob0_2 ry λz! aA=>?_;refine ob1_1 aA λu bh=>?_;obtain rfl:=bh
 refine P.eq_str ⟨.refl ..,?_⟩
 rw [Rep]
 congr 1
 by_cases h:a=b
 ·subst h;simp
 ·have:a.cps.toList≠b.cps.toList:=λe=>h (by cases a;cases b;congr;exact Array.toList_inj.mp e)
  have h2:¬ a.cps=b.cps:=λe=>this (by rw [e])
  simp [h,h2]
end
mutual
noncomputable def PV.toD:PV->PyData
 | .none=>.none
 | .bool b=>.bool b
 | .int i=>.int i
 | .str x=>.str x
 | .tup xs=>.tuple (PV.toDs xs)
 | .lst xs=>.list (PV.toDs xs)
 | .raw _=>.none
noncomputable def PV.toDs:List PV->List PyData
 | []=>[]
 | x::xs=>x.toD::PV.toDs xs
end
mutual
noncomputable def PV.plain:PV->Bool
 | .tup xs=>PV.gX xs
 | .lst xs=>PV.gX xs
 | .raw v=>false
 | _=>true
noncomputable def PV.gX:List PV->Bool
 | []=>true
 | x::xs=>x.plain && PV.gX xs
end
mutual
theorem Rep.reads {h:Heap}:∀ {p v},Rep W h p v->p.plain=true->∃ as,Reads h v p.toD as
 | .none,v,r,_=>by rw [Rep] at r;subst r;exact ⟨_,.none⟩
 | .bool b,v,r,_=>by rw [Rep] at r;subst r;exact ⟨_,.bool b⟩
 | .int i,v,r,_=>by rw [Rep] at r;refine ob1_1 r λt aB=>?_;obtain rfl:=aB;exact ⟨_,.int i t⟩
 | .str x,v,r,_=>by rw [Rep] at r;refine ob0_2 r λz! aA=>?_;refine ob1_1 aA λt bh=>?_;obtain rfl:=bh;exact ⟨_,.str x t⟩
 | .raw x,v,r,hp=>by rw [PV.plain] at hp;cases hp
 | .tup xs,v,r,hp=>by
  rw [Rep] at r
  refine ob0_2 r λz! aA=>?_;refine ob2_4 aA λa vs bq z! aY rs=>?_;obtain rfl:=bq;refine ob1_1 aY λn e=>?_
  refine ob1_1 (ah.reads rs (by rw [PV.plain] at hp;exact hp)) λas MV=>?_
  exact ⟨_,by rw [PV.toD];exact .tuple e rfl rfl (by simpa using MV)⟩
 | .lst xs,v,r,hp=>by
  rw [Rep] at r
  refine ob0_2 r λz! aA=>?_;refine ob2_4 aA λa vs bq z! aY rs=>?_;obtain rfl:=bq;refine ob1_1 aY λn e=>?_
  refine ob1_1 (ah.reads rs (by rw [PV.plain] at hp;exact hp)) λas MV=>?_
  exact ⟨_,by rw [PV.toD];exact .list e rfl rfl (by simpa using MV)⟩
theorem ah.reads {h:Heap}:∀ {ps vs},ah W h ps vs->PV.gX ps=true->∃ as,ReadsAll h vs (PV.toDs ps) as
 | [],vs,r,_=>by rw [ah] at r;subst r;exact ⟨_,.nil⟩
 | p::ps,vs,r,hp=>by
  rw [ah] at r
  refine ob2_3 r λv vs' az r1 r2=>?_;obtain rfl:=az
  rw [PV.gX,V9] at hp
  refine ob1_1 (Rep.reads r1 hp.1) λas h1=>?_
  refine ob1_1 (ah.reads r2 hp.2) λbs h2=>?_
  exact ⟨_,by rw [PV.toDs];exact .cons h1 h2⟩
end
noncomputable def PV.ok (p:PV):Prop:=p.plain=true/\p.toD.canLay0=true/\p.toD.depth<=60
noncomputable def PV.eqv (p q:PV):Bool:=WH p.toD q.toD
theorem tX {d e:PyData} (r:cz F.A F.n) (h:d.depth<=60):F.A.units+min d.depth e.depth<cLine:=by
 have:=r.2.2
 have:=Nat.min_le_left d.depth e.depth
 have hc:cLine=9900:=rfl
 exact Py h (by assumption) this hc
theorem x6 (hp:p.ok) (hq:q.ok):∀ s x y,St G F ρ W Rs s->Rep W s.heap p x->Rep W s.heap q y ->
   wpAny G.M F.A (compareOp .Eq x y) (λv s'=>aG G [] s s'/\Rep W s'.heap (.bool (p.eqv q)) v) (λz! z! => False) s:=λs x y S rx ry=>by
 refine ob1_1 (rx.reads hp.1) λas ra=>?_
 refine ob1_1 (ry.reads hq.1) λbs rb=>?_
 exact SeqAt.compareEq_reads ra rb hp.2.1 hq.2.1 (tX S.room hp.2.2) ⟨.refl ..,by rw [Rep];rfl⟩
theorem m_ (hp:p.ok) (hq:q.ok):∀ s x y,St G F ρ W Rs s->Rep W s.heap p x->Rep W s.heap q y ->
   wpAny G.M F.A (compareOp .NotEq x y) (λv s'=>aG G [] s s'/\Rep W s'.heap (.bool (!p.eqv q)) v) (λz! z! => False) s:=λs x y S rx ry=>by
 refine ob1_1 (rx.reads hp.1) λas ra=>?_
 refine ob1_1 (ry.reads hq.1) λbs rb=>?_
 exact SeqAt.compareNe_reads ra rb hp.2.1 hq.2.1 (tX S.room hp.2.2) ⟨.refl ..,by rw [Rep];rfl⟩
theorem Cs {xs:List PV} (hp:p.ok) (hq:(PV.lst xs).ok):∀ s x y,St G F ρ W Rs s->Rep W s.heap p x->Rep W s.heap (.lst xs) y ->
   wpAny G.M F.A (compareOp .In x y) (λv s'=>aG G [] s s'/\Rep W s'.heap (.bool (xs.any λy=>y.eqv p)) v) (λz! z! => False) s:=λs x y S rx ry=>by
 refine ob1_1 (rx.reads hp.1) λas ra=>?_
 refine ob1_1 (ry.reads hq.1) λbs rb=>?_
 have h2:=hq.2
 rw [PV.toD] at rb h2
 refine SeqAt.in_list_reads rb ra (by rw [<- PyData.canLay0];exact h2.1) hp.2.1 ?_ ⟨.refl ..,?_⟩
 ·have:=S.room.2.2
  have h3:=V_ (PyData.depthAll (PV.toDs xs)) p.toD.depth
  have:=hp.2.2
  have hc:cLine=9900:=rfl
  exact Im (by assumption) h3 this hc
 ·rw [Rep]
  congr 1
  clear h2 rb ry hq
  induction xs with
  | nil=>rfl
  | cons x xs ih=>simp only [PV.toDs,List.any_cons,PV.eqv] at ih ⊢;rw [ih]
theorem xZ {xs:List PV} (hp:p.ok) (hq:(PV.lst xs).ok):∀ s x y,St G F ρ W Rs s->Rep W s.heap p x->Rep W s.heap (.lst xs) y ->
   wpAny G.M F.A (compareOp .NotIn x y) (λv s'=>aG G [] s s'/\Rep W s'.heap (.bool (!xs.any λy=>y.eqv p)) v) (λz! z! => False) s:=λs x y S rx ry=>by
 refine ob1_1 (rx.reads hp.1) λas ra=>?_
 refine ob1_1 (ry.reads hq.1) λbs rb=>?_
 have h2:=hq.2
 rw [PV.toD] at rb h2
 refine SeqAt.notIn_list_reads rb ra (by rw [<- PyData.canLay0];exact h2.1) hp.2.1 ?_ ⟨.refl ..,?_⟩
 ·have:=S.room.2.2
  have h3:=V_ (PyData.depthAll (PV.toDs xs)) p.toD.depth
  have:=hp.2.2
  have hc:cLine=9900:=rfl
  exact Im (by assumption) h3 this hc
 ·rw [Rep]
  congr 2
  clear h2 rb ry hq
  induction xs with
  | nil=>rfl
  | cons x xs ih=>simp only [PV.toDs,List.any_cons,PV.eqv] at ih ⊢;rw [ih]
section
theorem EV.mO (hl:EV G F ρ W Rs l (.str x)) (hr:EV G F ρ W Rs r (.str y)) (hz:(x++y).length<=lim):EV G F ρ W Rs (.BinOp l .Add r pos) (.str (x++y)) :=
 EV.bin hl hr λs a b S rx ry=>by
  rw [Rep] at rx ry;refine ob0_2 rx λz! aA=>?_;refine ob1_1 aA λt bh=>?_;obtain rfl:=bh;refine ob0_2 ry λz! aA=>?_;refine ob1_1 aA λu bh=>?_;obtain rfl:=bh
  have key:∀ z:Str,z=x++y->∀ t',Rep W s.heap (.str (x++y)) (.str z t'):=λz e t'=>by rw [Rep];exact ⟨hz,t',by rw [e]⟩
  refine P.add_str ?_
  split
  ·rename_i h
   exact ⟨.refl ..,key _ (Str.append_left_empty (y:=y) h).symm _⟩
  ·split
   ·rename_i h
    exact ⟨.refl ..,key _ (Str.append_right_empty (x:=x) h).symm _⟩
   ·exact ⟨R9 hz (by decide),.of_toks G,key _ rfl _⟩
theorem EV.Dv {n:Int} (hl:EV G F ρ W Rs l (.str x)) (hr:EV G F ρ W Rs r (.int n)) (h1:x.length<=16) (h2:n<=65536) (h3 : -65536<=n) (hz:(VD x n).length<=lim) :
  EV G F ρ W Rs (.BinOp l .Mult r pos) (.str (VD x n)) :=
 EV.bin (p:=.str x) (q:=.int n) hl hr λs a b S rx ry=>by
  rw [Rep] at rx
  rw [Rep] at ry
  refine ob0_2 rx λz! aA=>?_;refine ob1_1 aA λt bh=>?_;obtain rfl:=bh;refine ob1_1 ry λu aB=>?_;obtain rfl:=aB
  exact SB.mul (mulOk_of 16 65536 h1 (by exact h2) (Int.le_trans (by decide) h3) (by decide) (by decide)) λt' k=>⟨.of_toks G,by rw [Rep];exact ⟨hz,_,rfl⟩⟩
end
theorem ah.append {ps qs vs us} (h1:ah W h ps vs) (h2:ah W h qs us):ah W h (ps++qs) (vs++us):=by
 induction ps generalizing vs with
 | nil=>rw [ah] at h1;subst h1;exact h2
 | cons p ps ih =>
  rw [ah] at h1
  refine ob2_3 h1 λv vs' az r1 r2=>?_;obtain rfl:=az
  rw [UZ,ah]
  exact ⟨v,vs'++us,rfl,r1,ih r2⟩
theorem ah.get {ps vs} (h1:ah W h ps vs) (hi:ps[i]? = some p):∃ v,vs[i]? = some v/\Rep W h p v:=by
 induction ps generalizing vs i with
 | nil=>simp at hi
 | cons q ps ih =>
  rw [ah] at h1
  refine ob2_3 h1 λv vs' az r1 r2=>?_;obtain rfl:=az
  cases i with
  | zero=>simp at hi;subst hi;exact ⟨v,by simp,r1⟩
  | succ i=>simp at hi;refine ob1_2 (ih r2 hi) λu hu ru=>?_;exact ⟨u,by simpa using hu,ru⟩
theorem ah.take {h:Heap} {ps vs} (h1:ah W h ps vs) (n:Nat):ah W h (ps.take n) (vs.take n):=by
 induction n generalizing ps vs with
 | zero=>simp only [List.take_zero];rw [ah]
 | succ n ih =>
  cases ps with
  | nil=>rw [ah] at h1;subst h1;simp only [List.take_nil];rw [ah]
  | cons p ps =>
   rw [ah] at h1
   refine ob2_3 h1 λv vs' az r1 r2=>?_;obtain rfl:=az
   rw [List.take_succ_cons,List.take_succ_cons,ah]
   exact ⟨_,_,rfl,r1,ih r2⟩
theorem ah.drop {h:Heap} {ps vs} (h1:ah W h ps vs) (n:Nat):ah W h (ps.drop n) (vs.drop n):=by
 induction n generalizing ps vs with
 | zero=>simpa using h1
 | succ n ih =>
  cases ps with
  | nil=>rw [ah] at h1;subst h1;simp only [List.drop_nil];rw [ah]
  | cons p ps =>
   rw [ah] at h1
   refine ob2_3 h1 λv vs' az r1 r2=>?_;obtain rfl:=az
   simpa using ih r2
theorem ah.reverse {h:Heap} {ps vs} (h1:ah W h ps vs):ah W h ps.reverse vs.reverse:=by
 induction ps generalizing vs with
 | nil=>rw [ah] at h1;subst h1;simp only [List.reverse_nil];rw [ah]
 | cons p ps ih =>
  rw [ah] at h1
  refine ob2_3 h1 λv vs' az r1 r2=>?_;obtain rfl:=az
  rw [List.reverse_cons,List.reverse_cons]
  exact (ih r2).append (by rw [ah];exact ⟨v,[],rfl,r1,by rw [ah]⟩)
theorem ah.mem {ps vs} (h1:ah W h ps vs) (hv:v∈vs):∃ p∈ps,Rep W h p v:=by
 induction ps generalizing vs with
 | nil=>rw [ah] at h1;subst h1;cases hv
 | cons p ps ih =>
  rw [ah] at h1
  refine ob2_3 h1 λu vs' az r1 r2=>?_;obtain rfl:=az
  rcases Sh.mp hv with rfl | hv
  ·exact ⟨p,R_,r1⟩
  ·refine ob1_2 (ih r2 hv) λq hq r=>?_
   exact ⟨q,Sb _ hq,r⟩
theorem St.newList (S:St G F ρ W Rs s) {xs:List PV} {t:Tok} (h:ah W s.heap xs vs) (hl:xs.length<=lim) :
  aG G [] s {s with heap:=s.heap.push {cls:=.type "list",data:=.seq vs.toArray},toks:=t} /\
  Rep W (s.heap.push {cls:=.type "list",data:=.seq vs.toArray}) (.lst xs) (.ref s.heap.objs.size):=by
 refine ⟨.bO G,?_⟩
 rw [Rep]
 refine ⟨hl,_,vs,rfl,λhm=>(S.low _ hm).2.elim λo e=>SW _ (SY e),⟨0,Sn _ rfl⟩,?_⟩
 exact (aG.bO G (s:=s) (t:=t)).jC S.inv h
theorem St.Ds (S:St G F ρ W Rs s) {xs:List PV} {t:Tok} (h:ah W s.heap xs vs) (hl:xs.length<=lim) :
  aG G [] s {s with heap:=s.heap.push {cls:=.type "tuple",data:=.seq vs.toArray},toks:=t} /\
  Rep W (s.heap.push {cls:=.type "tuple",data:=.seq vs.toArray}) (.tup xs) (.ref s.heap.objs.size):=by
 refine ⟨.bO G,?_⟩
 rw [Rep]
 refine ⟨hl,_,vs,rfl,λhm=>(S.low _ hm).2.elim λo e=>SW _ (SY e),⟨0,Sn _ rfl⟩,?_⟩
 exact (aG.bO G (s:=s) (t:=t)).jC S.inv h
theorem EV.ri {xs ys:List PV} (hl:EV G F ρ W Rs l (.lst xs)) (hr:EV G F ρ W Rs r (.lst ys)) (hz:xs.length+ys.length<=lim) :
  EV G F ρ W Rs (.BinOp l .Add r pos) (.lst (xs++ys)) :=
 EV.bin hl hr λs a b S rx ry=>by
  rw [Rep] at rx ry
  refine ob0_2 rx λz! aA=>?_;refine ob2_4 aA λc vs bq z! aY rv=>?_;obtain rfl:=bq;refine ob1_1 aY λn e=>?_
  refine ob0_2 ry λz! aA=>?_;refine ob2_4 aA λd us bq z! aY ru=>?_;obtain rfl:=bq;refine ob1_1 aY λm e'=>?_
  have lv:=rv.length
  have lu:=ru.length
  have:=S.newList (t:=s.toks) (rv.append ru) (by simpa using hz)
  rw [show (vs++us).toArray=vs.toArray++us.toArray by simp] at this
  exact P.add_list e e' this (by simp only [TJ,lv,lu];exact R9 hz (by decide))
theorem EV.list (h:aV G F ρ W Rs es ps) (hl:ps.length<=lim:=by decide)
  (hst:backTo pos (starEach es F.env)=es.map (λe=>(false,eval e F.env)):=by rfl):EV G F ρ W Rs (.List es pos) (.lst ps):=λs S =>
 wpAny_List_spliced (by
  rw [hst]
  refine aF (h s S) λvs s₁ zz=>zz.elim λx r=>?_
  have S₁:=S.step x
  refine ob0_2 (S₁.newList (t:=s₁.toks) r hl) λy r'=>?_
  refine ⟨?_,x.trans y,r'⟩
  rw [r.length]
  exact R9 hl (by decide))
theorem EV.tup {es:List SQ} {k:Nat} {pos:Pos} {ps:List PV} (h:aV G F ρ W Rs es ps) (hl:ps.length<=lim:=by decide)
  (hst:backTo pos (starEach es F.env)=es.map (λe=>(false,eval e F.env)):=by rfl):EV G F ρ W Rs (.Tuple es k pos) (.tup ps):=λs S =>
 wpAny_Tuple_spliced (by
  rw [hst]
  refine aF (h s S) λvs s₁ zz=>zz.elim λx r=>?_
  have S₁:=S.step x
  refine ob0_2 (S₁.Ds (t:=s₁.toks) r hl) λy r'=>?_
  refine ⟨?_,x.trans y,r'⟩
  rw [r.length]
  exact R9 hl (by decide))
theorem TV.plain {b:Bool} (h:EV G F ρ W Rs e p)
  (ht:∀ s v,G.inv s.heap->Rep W s.heap p v->wpAny G.M F.A (truthy v) (λc s'=>aG G [] s s'/\c=b) (λz! z! => False) s)
  (he:∀ whole,isTrue e F.env whole=(do let v<-whole;standAt e.pos;holding [v] (truthy v)):=by intro _;rfl):TV G F ρ W Rs e b:=λs S =>
 isTrue_plain (aF (h s S) λv s₁ zz=>zz.elim λx r=>aF (ht s₁ v (x.inv S.inv) r) λc s₂ zz=>zz.elim λy e=>⟨x.trans y,e⟩) (he _)
theorem tR {b:Bool}:∀ s v,G.inv s.heap->Rep W s.heap (.bool b) v->wpAny G.M F.A (truthy v) (λc s'=>aG G [] s s'/\c=b) (λz! z! => False) s :=
 λs v z! r=>by rw [Rep] at r;subst r;exact wpAny_truthy_bool ⟨.refl ..,rfl⟩
theorem TV.not {b:Bool} (h:TV G F ρ W Rs e b):TV G F ρ W Rs (.UnaryOp .Not e pos) (!b):=λs S =>
 isTrue_not (aF (h s S) λc s₁ zz=>zz.elim λx e=>⟨x,by rw [e]⟩)
theorem TV.pg:TV G F ρ W Rs (.BoolOp .And [] pos) true:=λs S=>isTrue_and_nil ⟨.refl ..,rfl⟩
theorem TV.and {b c:Bool} (h:TV G F ρ W Rs e b) (h':b=true->TV G F ρ W Rs (.BoolOp .And es pos) c) :
  TV G F ρ W Rs (.BoolOp .And (e::es) pos) (b && c):=λs S=>isTrue_and (aF (h s S) λd s₁ zz=>zz.elim λx e=>by
 subst e
 cases d with
 | false=>exact ⟨x,rfl⟩
 | true=>exact aF (h' rfl s₁ (S.step x)) λd s₂ zz=>zz.elim λy e=>⟨x.trans y,by rw [e];rfl⟩)
theorem EV.qA {t a b:SQ} {c:Bool} (h:TV G F ρ W Rs t c) (h1:c=true->EV G F ρ W Rs a p) (h2:c=false->EV G F ρ W Rs b p) :
  EV G F ρ W Rs (.IfExp t a b pos) p:=λs S=>wpAny_IfExp (aF (h s S) λd s₁ zz=>zz.elim λx e=>by
 subst e
 cases d with
 | true=>exact aF (h1 rfl s₁ (S.step x)) λd s₂ zz=>zz.elim λy e=>⟨x.trans y,e⟩
 | false=>exact aF (h2 rfl s₁ (S.step x)) λd s₂ zz=>zz.elim λy e=>⟨x.trans y,e⟩)
theorem rP {m:SQ} {o1 o2:CmpOp} {z:PV} {b c:Bool} (hl:EV G F ρ W Rs l p) (hm:EV G F ρ W Rs m q) (hr:b=true->EV G F ρ W Rs r z)
  (h1:∀ s x y,St G F ρ W Rs s->Rep W s.heap p x->Rep W s.heap q y->wpAny G.M F.A (compareOp o1 x y) (λv s'=>aG G [] s s'/\Rep W s'.heap (.bool b) v) (λz! z! => False) s)
  (h2:b=true->∀ s x y,St G F ρ W Rs s->Rep W s.heap q x->Rep W s.heap z y->wpAny G.M F.A (compareOp o2 x y) (λv s'=>aG G [] s s'/\Rep W s'.heap (.bool c) v) (λz! z! => False) s)
  (hk:lastMarks [o1,o2] [m,r]=false:=by with_unfolding_all rfl) :
  TV G F ρ W Rs (.Compare l [o1,o2] [m,r] pos) (b && c):=λs S=>by
 refine isTrue_chain (aF (hl s S) λx s₁ zz=>zz.elim λu rx=>?_) hk
 have S₁:=S.step u
 show wpAny _ _ (do
  let rv<-holding [x] (eval m F.env)
  standAt pos
  let c<-holding [x,rv] (compareOp o1 x rv)
  release [x,rv] [c]
  if<-holding [c,rv] (truthy c) then testChain pos rv [o2] [eval r F.env] else pure false) _ _ s₁
 refine R7 (Sj (aF (hm s₁ S₁) λy s₂ zz=>zz.elim λu' ry=>?_))
 have S₂:=S₁.step u'
 refine R7 (Tc (R7 (Sj (aF (h1 s₂ x y S₂ (u'.rep0 S₁.inv rx) ry) λd s₃ zz=>zz.elim λu3 rd=>?_))))
 have aT:=S₂.step u3
 rw [Rep] at rd
 subst rd
 refine R7 (Xl (R7 (Sj (wpAny_truthy_bool ?_))))
 cases b with
 | false=>exact R8 ⟨u.trans (u'.trans u3),rfl⟩
 | true =>
  show wpAny _ _ (do
   let rv<-holding [y] (eval r F.env)
   standAt pos
   let c<-operate [y,rv] (compareOp o2 y rv)
   holding [c] (truthy c)) _ _ s₃
  refine R7 (Sj (aF (hr rfl s₃ aT) λw s₄ zz=>zz.elim λu4 PS=>?_))
  have bZ:=aT.step u4
  refine R7 (Tc (R7 (wpAny_operating (aF (h2 rfl s₄ y w bZ (u4.rep0 aT.inv (u3.rep0 S₂.inv ry)) PS) λd s₅ zz=>zz.elim λu5 rd=>?_))))
  rw [Rep] at rd
  subst rd
  exact Sj (wpAny_truthy_bool ⟨u.trans (u'.trans (u3.trans (u4.trans u5))),rfl⟩)
noncomputable def idx? (xs:List α) (i:Int):Option α:=(seqIndex? i xs.length).bind (xs[·]?)
theorem EV.yK {xs:List PV} {i:Int} (hv:EV G F ρ W Rs value (.lst xs)) (hi:EV G F ρ W Rs slice (.int i)) (hx:idx? xs i=some p)
  (hs:∀ o i,subscripted slice false o i=operate [o,i] (getItem o i):=by intro _ _;rfl):EV G F ρ W Rs (.Subscript value slice pos) p:=λs S =>
 XT (aF (hv s S) λo s₁ zz=>zz.elim λx ro=>aF (hi s₁ (S.step x)) λj s₂ zz=>zz.elim λy rj=>by
  have Co:=y.rep0 (x.inv S.inv) ro
  rw [Rep] at Co
  rw [Rep] at rj
  refine ob0_2 Co λhl aA=>?_;refine ob2_4 aA λa vs bq z! aY rs=>?_;obtain rfl:=bq;refine ob1_1 aY λn e=>?_
  refine ob1_1 rj λt aB=>?_;obtain rfl:=aB
  have hz:=rs.length
  have hL:s₂.heap.IsList a vs.toArray:=⟨_,e,rfl,n,rfl⟩
  unfold idx? at hx
  obtain ⟨k,hk,hxk⟩:∃ k,seqIndex? i xs.length=some k/\xs[k]? = some p:=by
   cases h:seqIndex? i xs.length with
   | none=>rw [h] at hx;cases hx
   | some k=>rw [h] at hx;exact ⟨k,rfl,hx⟩
  refine ob1_2 (rs.get hxk) λv hv' rv=>?_
  have hr:=xG hk hl
  refine tail_any hL.typeIs Wq.lookup ?_ (hs _ _)
  by_cases h0:i<0
  ·refine wpAny_getItem_list_neg hL h0 (by rw [TJ,hz];exact hr.1) hr.2.1 ?_ ⟨x.trans y,rv⟩
   rw [TJ,hz,hr.2.2.2.1 h0]
   exact (WT ..).trans hv'
  ·refine wpAny_getItem_list hL (WI.mp h0) hr.2.2.1 ?_ ⟨x.trans y,rv⟩
   rw [hr.2.2.2.2 h0]
   exact (WT ..).trans hv')
theorem EV.Jg {xs:List PV} {i:Int} (hv:EV G F ρ W Rs value (.tup xs)) (hi:EV G F ρ W Rs slice (.int i)) (hx:idx? xs i=some p)
  (hs:∀ o i,subscripted slice false o i=operate [o,i] (getItem o i):=by intro _ _;rfl):EV G F ρ W Rs (.Subscript value slice pos) p:=λs S =>
 XT (aF (hv s S) λo s₁ zz=>zz.elim λx ro=>aF (hi s₁ (S.step x)) λj s₂ zz=>zz.elim λy rj=>by
  have Co:=y.rep0 (x.inv S.inv) ro
  rw [Rep] at Co
  rw [Rep] at rj
  refine ob0_2 Co λhl aA=>?_;refine ob2_4 aA λa vs bq z! aY rs=>?_;obtain rfl:=bq;refine ob1_1 aY λn e=>?_
  refine ob1_1 rj λt aB=>?_;obtain rfl:=aB
  have hz:=rs.length
  have hL:IsTup s₂.heap a vs.toArray:=⟨_,e,rfl,n,rfl⟩
  unfold idx? at hx
  obtain ⟨k,hk,hxk⟩:∃ k,seqIndex? i xs.length=some k/\xs[k]? = some p:=by
   cases h:seqIndex? i xs.length with
   | none=>rw [h] at hx;cases hx
   | some k=>rw [h] at hx;exact ⟨k,rfl,hx⟩
  refine ob1_2 (rs.get hxk) λv hv' rv=>?_
  have hb:=(xG hk hl).2
  exact item_tupleT hL hb.1 hb.2.1 (by rw [hz];exact hk) hv' ⟨x.trans y,rv⟩ (hs _ _))
theorem EV.yJ {z:Str} {i:Int} (hv:EV G F ρ W Rs value (.str z)) (hi:EV G F ρ W Rs slice (.int i))
  (hx:(seqIndex? i z.length).bind (z.cps[·]?)=some c) (h1 : -(2 ^ 63)<=i) (h2:i<2 ^ 63)
  (hs:∀ o i,subscripted slice false o i=operate [o,i] (getItem o i):=by intro _ _;rfl):EV G F ρ W Rs (.Subscript value slice pos) (.str ⟨#[c]⟩):=λs S =>
 XT (aF (hv s S) λo s₁ zz=>zz.elim λx ro=>aF (hi s₁ (S.step x)) λj s₂ zz=>zz.elim λy rj=>by
  rw [Rep] at ro
  rw [Rep] at rj
  refine ob0_2 ro λhl aA=>?_;refine ob1_1 aA λt' bh=>?_;obtain rfl:=bh
  refine ob1_1 rj λt aB=>?_;obtain rfl:=aB
  refine tail_any (Wf s₂ z t') PySem.F.slot_str_getitem.lookup (P.getItem_str (W0.mpr ⟨decide_eq_false (WI.mpr h1),decide_eq_false (Int.not_le.mpr h2)⟩) hx ⟨x.trans (y.toks _),?_⟩) (hs _ _)
  rw [Rep]
  exact ⟨(by decide:(1:Nat)<=lim),_,rfl⟩)
noncomputable def EP (G:Glob) (F:Fm) (ρ:List (Str×PV)) (W:List Addr) (Rs:List Res):Option SQ->Option Int->Prop
 | none,none=>True
 | some e,some i=>EV G F ρ W Rs e (.int i)
 | _,_=>False
theorem EP.wp {e:Option SQ} {k:Option Int} (h:EP G F ρ W Rs e k) (S:St G F ρ W Rs s) :
  wpAny G.M F.A (valueOrNone (evalOpt e F.env)) (λv s'=>aG G [] s s'/\∃ p:Option (Int×Tok),v=partValue p/\p.map (·.1)=k) (λz! z! => False) s:=by
 cases e with
 | none =>
  cases k with
  | none=>exact R8 ⟨.refl ..,none,rfl,rfl⟩
  | some _=>exact h.elim
 | some e =>
  cases k with
  | none=>exact h.elim
  | some i =>
   refine aF (h s S) λv s₁ zz=>zz.elim λx r=>⟨x,?_⟩
   rw [Rep] at r
   refine ob1_1 r λt aB=>?_;obtain rfl:=aB
   exact ⟨some (i,t),rfl,rfl⟩
theorem jo (p:Option (Int×Tok)):IsPart (partValue p) (p.map (·.1)):=by
 cases p with
 | none=>exact .none
 | some p=>exact .int ..
noncomputable def pick (xs:List α) (lo hi st:Option Int):List α :=
 (sliceRange (sliceBounds lo hi st xs.length).1 (sliceBounds lo hi st xs.length).2.1 (sliceBounds lo hi st xs.length).2.2).filterMap (xs[·]?)
theorem fk (vs:List Value) (lo hi st:Option Int):slicePick vs.toArray lo hi st=(pick vs lo hi st).toArray:=by
 unfold slicePick pick
 simp
theorem ah.picks {ps vs} (r:ah W h ps vs) (l:List Nat):ah W h (l.filterMap (ps[·]?)) (l.filterMap (vs[·]?)):=by
 have hz:=r.length
 induction l with
 | nil=>simp only [List.filterMap_nil];rw [ah]
 | cons i l ih =>
  simp only [List.filterMap_cons]
  cases hp:ps[i]? with
  | none =>
   have:vs[i]? = none:=by
    rw [List.getElem?_eq_none_iff] at hp ⊢
    exact PB hz hp
   rw [this]
   exact ih
  | some p =>
   refine ob1_2 (r.get hp) λv hv rv=>?_
   rw [hv]
   simp only
   rw [ah]
   exact ⟨_,_,rfl,rv,ih⟩
theorem ah.pick {h:Heap} {ps vs} (r:ah W h ps vs) (lo hi st:Option Int):ah W h (pick ps lo hi st) (pick vs lo hi st):=by
 unfold Mine.pick
 rw [r.length]
 exact r.picks _
theorem EV.kQ {lower upper step:Option SQ} {p:Pos} {xs:List PV} {st:Option Int} (hv:EV G F ρ W Rs value (.lst xs))
  (h1:EP G F ρ W Rs lower lo) (h2:EP G F ρ W Rs upper hi) (h3:EP G F ρ W Rs step st) (h0:st≠some 0) :
  EV G F ρ W Rs (.Subscript value (.Slice lower upper step p) pos) (.lst (pick xs lo hi st)):=λs S=>by
 refine XT (aF (hv s S) λo s₁ zz=>zz.elim λx ro=>?_)
 have S₁:=S.step x
 have e0:eval (.Slice lower upper step p) F.env=(do
  let l<-valueOrNone (evalOpt lower F.env)
  let u<-holding [l] (valueOrNone (evalOpt upper F.env))
  let s<-holding [l,u] (valueOrNone (evalOpt step F.env))
  newFields "slice" [l,u,s]):=rfl
 rw [e0]
 refine R7 (aF (h1.wp S₁) λl s₂ zz=>zz.elim λx2 zz=>zz.elim λp1 zz=>zz.elim λe1 k1=>?_)
 have S₂:=S₁.step x2
 refine R7 (Sj (aF (h2.wp S₂) λu s₃ zz=>zz.elim λx3 zz=>zz.elim λp2 zz=>zz.elim λe2 k2=>?_))
 have aT:=S₂.step x3
 refine R7 (Sj (aF (h3.wp aT) λt s₄ zz=>zz.elim λx4 zz=>zz.elim λp3 zz=>zz.elim λe3 k3=>?_))
 have bZ:=aT.step x4
 subst e1 e2 e3 k1 k2 k3
 refine TL (T:="slice") (data:=.fields #[_,_,_]) ?_ (by show (3:Nat)<=_;decide)
 have y:aG G [] s₁ {s₄ with heap:=s₄.heap.push {cls:=.type "slice",data:=.fields #[partValue p1,partValue p2,partValue p3]}}:=(x2.trans (x3.trans x4)).push (t:=s₄.toks)
 have Co:=y.rep0 S₁.inv ro
 have mQ:=S₁.step y
 rw [Rep] at Co
 refine ob0_2 Co λhl aA=>?_;refine ob2_4 aA λa vs bq ha aY rs=>?_;obtain rfl:=bq;refine ob1_1 aY λn e=>?_
 have hL:(s₄.heap.push {cls:=.type "slice",data:=.fields #[partValue p1,partValue p2,partValue p3]}).IsList a vs.toArray:=⟨_,e,rfl,n,rfl⟩
 have hlen:(pick vs (p1.map (·.1)) (p2.map (·.1)) (p3.map (·.1))).length<=vs.length:=by
  have:=slicePick_size_le vs.toArray (p1.map (·.1)) (p2.map (·.1)) (p3.map (·.1))
  rw [fk] at this
  simpa using this
 refine ob0_2 (mQ.newList (t:=s₄.toks) (rs.pick (p1.map (·.1)) (p2.map (·.1)) (p3.map (·.1))) (by rw [<- (rs.pick _ _ _).length];rw [rs.length] at hlen;exact R9 hlen hl)) λz rz=>?_
 have hsub:∃ ops,subscripted (.Slice lower upper step p) false (.ref a) (.ref s₄.heap.objs.size)=operate ops (getItem (.ref a) (.ref s₄.heap.objs.size)):=by
  cases step with
  | none=>exact ⟨_,rfl⟩
  | some e=>exact ⟨_,rfl⟩
 refine ob1_1 hsub λops hsub=>?_
 refine tail_any hL.typeIs Wq.lookup (wpAny_getItem_list_slice hL (Xv ..) (jo p1) (jo p2) (jo p3) h0 ?_ ?_) hsub
 ·rw [fk]
  exact ⟨x.trans (y.trans z),rz⟩
 ·simp only [TJ,rs.length]
  exact R9 hl (by decide)
noncomputable def dO (z:Str) (lo hi:Option Int):Str :=
 if (V1 lo hi 1 z.length).length=z.length then z else ⟨((V1 lo hi 1 z.length).filterMap (z.cps[·]?)).toArray⟩
theorem qe (z:Str) (lo hi:Option Int):(dO z lo hi).length<=z.length:=by
 unfold dO
 split
 ·exact Si _
 ·show (List.toArray _).size<=_
  rw [TJ]
  exact R9 (List.length_filterMap_le _ _) (indices_len_le lo hi z.length)
theorem EV.xF {lower upper:Option SQ} {p:Pos} {z:Str} (hv:EV G F ρ W Rs value (.str z))
  (h1:EP G F ρ W Rs lower lo) (h2:EP G F ρ W Rs upper hi) :
  EV G F ρ W Rs (.Subscript value (.Slice lower upper none p) pos) (.str (dO z lo hi)):=λs S=>by
 refine XT (aF (hv s S) λo s₁ zz=>zz.elim λx ro=>?_)
 have S₁:=S.step x
 have e0:eval (.Slice lower upper none p) F.env=(do
  let l<-valueOrNone (evalOpt lower F.env)
  let u<-holding [l] (valueOrNone (evalOpt upper F.env))
  let s<-holding [l,u] (valueOrNone (evalOpt none F.env))
  newFields "slice" [l,u,s]):=rfl
 rw [e0]
 refine R7 (aF (h1.wp S₁) λl s₂ zz=>zz.elim λx2 zz=>zz.elim λp1 zz=>zz.elim λe1 k1=>?_)
 have S₂:=S₁.step x2
 refine R7 (Sj (aF (h2.wp S₂) λu s₃ zz=>zz.elim λx3 zz=>zz.elim λp2 zz=>zz.elim λe2 k2=>?_))
 refine R7 (Sj (R8 ?_))
 subst e1 e2 k1 k2
 refine TL (T:="slice") (data:=.fields #[_,_,_]) ?_ (by show (3:Nat)<=_;decide)
 rw [Rep] at ro
 refine ob0_2 ro λhl aA=>?_;refine ob1_1 aA λt' bh=>?_;obtain rfl:=bh
 have key:∀ t k,aG G [] s {s₃ with heap:=s₃.heap.push {cls:=.type "slice",data:=.fields #[partValue p1,partValue p2,partValue none]},toks:=k} /\
   Rep W (s₃.heap.push {cls:=.type "slice",data:=.fields #[partValue p1,partValue p2,partValue none]}) (.str (dO z (p1.map (·.1)) (p2.map (·.1)))) (.str (dO z (p1.map (·.1)) (p2.map (·.1))) t) :=
  λt k=>⟨(x.trans (x2.trans x3)).push,by rw [Rep];exact ⟨R9 (qe ..) hl,_,rfl⟩⟩
 refine tail_any (Wf _ z t') PySem.F.slot_str_getitem.lookup (wpAny_getItem_str_slice (l:=p1) (u:=p2) (st:=none) ⟨_,Sn _ rfl,rfl,rfl⟩ rfl ?_) rfl
 unfold sliceMade slicePicked
 simp only [Option.map_none,Option.getD_none,beq_self_eq_true,Bool.true_and,beq_iff_eq]
 by_cases hc:(V1 (p1.map (·.1)) (p2.map (·.1)) 1 z.length).length=z.length
 ·have hp:dO z (p1.map (·.1)) (p2.map (·.1))=z:=if_pos hc
  rw [if_pos hc]
  have k:=key t' s₃.toks
  rw [hp] at k ⊢
  exact k
 ·have hp:dO z (p1.map (·.1)) (p2.map (·.1))=⟨((V1 (p1.map (·.1)) (p2.map (·.1)) 1 z.length).filterMap (z.cps[·]?)).toArray⟩:=if_neg hc
  rw [if_neg hc,<- hp]
  exact ⟨R9 (qe ..) (R9 hl (by decide)),key _ _⟩
structure z9 (G:Glob) (A:Around) (W:List Addr) (target:SQ) (it:Value) (fp wr:List Addr) (xs:List PV) (T:Nat->Heap->Prop):Prop where
 sub:∀ b∈wr,b∈fp
 frame:∀ i h h',T i h->(∀ b∈fp,∀ o,h.get? b=some o->h'.get? b=some o)->aI W h h'->T i h'
 item:∀ i p s,xs[i]? = some p->T i s.heap->G.inv s.heap->(∀ a∈W,∃ o,s.heap.get? a=some o)->wpAny G.M A (pyNext it) (λr s'=>∃ v,r=some v/\aG G wr s s' /\
  wpAny G.M A (letOwnedTupleGo target it v) (λz! s''=>aG G wr s s''/\Rep W s''.heap p v/\T (i+1) s''.heap) (λz! z! => False) s') (λz! z! => False) s
 done:∀ s,T xs.length s.heap->G.inv s.heap->wpAny G.M A (pyNext it) (λr s'=>r=none/\aG G wr s s') (λz! z! => False) s
 self:∀ i s,T i s.heap->wpAny G.M A (pyIter it) (λv s'=>v=it/\s'=s) (λz! z! => False) s
 pG:∀ i h,T i h->∀ a∈wr,a∈W\/∀ o,h.get? a=some o->∀ xs n,o.data ≠ .seq xs n
noncomputable def Ready (G:Glob) (F:Fm) (W:List Addr) (target:SQ) (xs:List PV) (s:Shared) (it:Value) (s₂:Shared):Prop :=
 ∃ fp wr,(∀ V:List Addr,(∀ a∈V,s₂.heap.get? a=none)->∃ T,z9 G F.A (V++W) target it fp wr xs T/\∀ h',(∀ b o,s₂.heap.get? b=some o->h'.get? b=some o)->T 0 h') /\
  (∀ b∈wr,s.heap.get? b=none) /\
  (∀ b∈fp,b∉W/\b≠F.env.locals/\(∀ x c,F.env.cells.lookup x=some c->b≠c)/\b∉G.tabs/\∃ o,s₂.heap.get? b=some o)
noncomputable def IV (G:Glob) (F:Fm) (ρ:List (Str×PV)) (W:List Addr) (Rs:List Res) (target e:SQ) (xs:List PV):Prop :=
 ∀ s,St G F ρ W Rs s->wpAny G.M F.A (eval e F.env) (λx s₁=>aG G [] s s₁/\wpAny G.M F.A (pyIter x) (λit s₂=>aG G [] s s₂/\Ready G F W target xs s it s₂) (λz! z! => False) s₁) (λz! z! => False) s
theorem ET {V:List Addr} (r:ah W h ps vs) (hV:∀ a∈V,h.get? a=none) (k:∀ b o,h.get? b=some o->h'.get? b=some o):ah (V++W) h' ps vs :=
 r.keep ⟨λ_ _ _ zz=>zz.elim λn e=>⟨n,k _ _ e⟩,λ_ _ _ zz=>zz.elim λn e=>⟨n,k _ _ e⟩⟩ λa zz=>zz.elim λo e ha=>by
  rcases Sq.mp ha with ha | ha
  ·rw [hV a ha] at e;cases e
  ·exact ha
theorem yC {o:Obj} {c:String} {Q:Unit->Shared->Prop} (ho:s.heap.get? I=some o) (hc:o.cls = .type c)
  (hn:["enumerate","zip","dict_itemiterator","dict_reverseitemiterator","odict_iterator","itertools.zip_longest","itertools.pairwise"].contains c=false)
  (hQ:Q () s):wpAny G.M A (letOwnedTupleGo target (.ref I) v) Q E s:=by
 unfold letOwnedTupleGo
 split
 all_goals first
  | exact R8 hQ
  | (cases v with
   | ref a =>
    refine R7 (wpAny_load ho ?_)
    obtain ⟨cl,dd,dt,sl⟩:=o
    simp only at hc
    subst hc
    cases dt with
    | fields vs =>
     show wpAny _ _ (if (["enumerate","zip","dict_itemiterator","dict_reverseitemiterator","odict_iterator","itertools.zip_longest","itertools.pairwise"].contains c && vs[0]? == some (rawInt a))=true then _ else _) _ _ _
     rw [hn,Bool.false_and,if_neg (by decide)]
     exact R8 hQ
    | _=>exact R8 hQ
   | _=>exact R8 hQ)
theorem aG.bI (x:aG G X s s') (i:G.inv s.heap) (hX:∀ a∈X,a∈W\/∀ o,s.heap.get? a=some o->∀ xs n,o.data ≠ .seq xs n):aI W s.heap s'.heap:=by
 have key:∀ a o,a∉W->s.heap.get? a=some o->(∃ xs n,o.data = .seq xs n)->s'.heap.get? a=some o:=λa o ha e hd=>by
  refine ob2_1 hd λxs n hd=>?_
  refine x.gQ i (λh=>?_) e (by rw [hd];simp)
  rcases hX a h with h | h
  ·exact ha h
  ·exact h o e xs n hd
 exact ⟨λa vs ha zz=>zz.elim λn e=>⟨n,key a _ ha e ⟨_,_,rfl⟩⟩,λa vs ha zz=>zz.elim λn e=>⟨n,key a _ ha e ⟨_,_,rfl⟩⟩⟩
theorem z9.ofWalks {P:Nat->Value->Prop} {c:String} {xs:List PV}
  (Wk:Walks G.prog G.w A I fp [I] n P T) (hn:n=xs.length) (hlow:G.base.objs.size<=I) (RR:Heap->Prop)
  (hR:∀ h h',RR h->aI W h h'->RR h') (Rd:∀ i p v h,xs[i]? = some p->P i v->RR h->Rep W h p v)
  (hT:∀ i h,T i h->∃ o,h.get? I=some o/\o.cls = .type c/\∃ vs,o.data = .fields vs) (hc:(c == "code")=false)
  (hno:["enumerate","zip","dict_itemiterator","dict_reverseitemiterator","odict_iterator","itertools.zip_longest","itertools.pairwise"].contains c=false) :
  z9 G A W target (.ref I) fp [I] xs (λi h=>T i h/\RR h) where
 sub:=Wk.sub
 frame:=λi h h' zz=>zz.elim λt r k sk=>⟨Wk.frame i h h' t k,hR h h' r sk⟩
 item:=λi p s hp zz=>zz.elim λt r iv z! => by
  have hlt:i<n:=by
   rw [hn]
   rcases VI i xs.length with h | h
   ·exact h
   ·rw [TA h] at hp;cases hp
  refine Wk.item i s _ _ hlt t λv h' tk hPv t' hk=>?_
  have st:aG G [I] s {s with heap:=h',toks:=tk}:=aG.gn G (λb hb=>by
   have:b=I:=by simpa using hb
   subst this
   refine ⟨hlow,λo e=>.inl ?_⟩
   refine ob1_3 (hT i _ t) λo' e' hc' hd'=>?_
   rw [e] at e';cases e'
   rw [hc']
   intro h
   injection h with h
   subst h
   simp at hc) hk
  have OR:aI W s.heap h':=st.bI iv (λa ha=>by
   have:a=I:=by simpa using ha
   subst this
   right
   intro o e xs n hd
   refine ob1_3 (hT i _ t) λo' e' hc' aA=>?_;refine ob1_1 aA λvs hd'=>?_
   rw [e] at e';cases e'
   rw [hd] at hd';cases hd')
  refine ⟨v,rfl,st,?_⟩
  refine ob1_3 (hT (i+1) _ t') λo' e' hc' hd'=>?_
  exact yC e' hc' hno ⟨st,Rd i p v _ hp hPv (hR _ _ r OR),t',hR _ _ r OR⟩
 done:=λs zz=>zz.elim λt r iv=>by
  rw [<- hn] at t
  refine Wk.done s _ _ t λh' tk hk=>⟨rfl,?_⟩
  exact aG.gn G (λb hb=>by
   have:b=I:=by simpa using hb
   subst this
   refine ⟨hlow,λo e=>.inl ?_⟩
   refine ob1_3 (hT _ _ t) λo' e' hc' hd'=>?_
   rw [e] at e';cases e'
   rw [hc']
   intro h
   injection h with h
   subst h
   simp at hc) hk
 self:=λi s zz=>zz.elim λt r=>Wk.self i s _ _ t ⟨rfl,rfl⟩
 pG:=λi h zz=>zz.elim λt r a ha=>.inr λo e xs n hd=>by
  have:a=I:=by simpa using ha
  subst this
  refine ob1_3 (hT i _ t) λo' e' hc' aA=>?_;refine ob1_1 aA λvs hd'=>?_
  rw [e] at e';cases e'
  rw [hd] at hd';cases hd'
theorem St.sy (S:St G F ρ W Rs s) {a:Addr} {vs:Array Value} {o:Obj} (e:s.heap.get? a=some o) (hd:o.data = .seq vs n) :
  a≠F.env.locals/\∀ x c,F.env.cells.lookup x=some c->a≠c:=by
 refine ⟨λh=>?_,λx c hc h=>?_⟩
 ·subst h
  refine ob4_3 S.loc λm o' es ep e' d z! => ?_
  rw [e] at e';cases e'
  rw [hd] at d;cases d
 ·subst h
  refine ob2_2 (S.cells x _ hc) λv o' e' d=>?_
  rw [e] at e';cases e'
  rw [hd] at d;cases d
theorem St.fresh (S:St G F ρ W Rs s) {a:Addr} (h:s.heap.get? a=none):a∉W/\a≠F.env.locals/\∀ x c,F.env.cells.lookup x=some c->a≠c:=by
 refine ⟨λhm=>?_,λe=>?_,λx c hc e=>?_⟩
 ·refine ob0_2 (S.low a hm) λz! aA=>?_;refine ob1_1 aA λo e=>?_
  rw [h] at e;cases e
 ·subst e
  refine ob4_3 S.loc λm o' es ep e' d z! => ?_
  rw [h] at e';cases e'
 ·subst e
  refine ob2_2 (S.cells x _ hc) λv o' e' d=>?_
  rw [h] at e';cases e'
theorem bV (h:Heap):h.get? h.objs.size=none:=by
 cases e:h.get? h.objs.size with
 | none=>rfl
 | some o=>exact absurd (SY e) (SW _)
theorem bC {a:Addr} (ha:h.objs.size<=a):h.get? a=none:=by
 cases e:h.get? a with
 | none=>rfl
 | some o=>exact absurd (SY e) (Nat.not_lt.mpr ha)
theorem aS (i:G.inv h):G.base.objs.size<=h.objs.size:=by
 rcases VI h.objs.size G.base.objs.size with hl | hl
 ·exfalso
  exact SW _ (Sd hl (G.Jd h i))
 ·exact hl
theorem bk {a:Addr} (h:G.base.objs.size<=a):a∉G.tabs:=λht=>SW _ (Sd (G.rD a ht) h)
theorem kU (i:G.inv h) {a:Addr} {o:Obj} {vs:Array Value} (e:h.get? a=some o) (hd:o.data = .seq vs n):a∉G.tabs:=λht=>by
 refine ob2_2 (G.DI _ i a ht) λo' ws e' d=>?_
 rw [e] at e';cases e'
 rw [hd] at d;cases d
theorem IV.list {e target:SQ} {xs:List PV} (h:EV G F ρ W Rs e (.lst xs)):IV G F ρ W Rs target e xs:=λs S =>
 aF (h s S) λv s₁ zz=>zz.elim λx r=>by
  refine ⟨x,?_⟩
  have S₁:=S.step x
  rw [Rep] at r
  refine ob0_2 r λhl aA=>?_;refine ob2_4 aA λl vs bq JC aY rs=>?_;obtain rfl:=bq;refine ob1_1 aY λn e=>?_
  refine wpAny_pyIter_list (items:=vs.toArray) ⟨_,e,rfl,n,rfl⟩ ?_
  have y:aG G [] s₁ {s₁ with heap:=s₁.heap.push {cls:=.type "list_iterator",data:=.fields #[.ref l,.int 0 0]}}:=.bO G (t:=s₁.toks)
  have hfr:=S₁.fresh (bV s₁.heap)
  have hne:l≠s₁.heap.objs.size:=TP (SY e)
  refine ⟨x.trans y,[s₁.heap.objs.size,l],[s₁.heap.objs.size],λV hV=>⟨_,
   z9.ofWalks (Walks.list (S.room.1) s₁.heap.objs.size l hne vs.toArray) (by simp [rs.length]) (aS S₁.inv) (λh=>ah (V++W) h xs vs)
    (λh h' r sk=>r.keep sk λz! z! q=>q) (λi p v h hp hv r=>?_) (c:="list_iterator") (λi h t=>?_) (by decide) (by decide),λh' k=>⟨⟨⟨_,k _ _ (Sn _ rfl),rfl,rfl⟩,?_⟩,?_⟩⟩,?_,?_⟩
  ·refine ob1_2 (r.get hp) λu hu ru=>?_
   have:vs[i]? = some v:=by simpa using hv
   rw [this] at hu;cases hu
   exact ru
  ·refine ob0_2 t λbM z! => ?_;refine ob1_3 bM λo e c d=>?_
   exact ⟨o,e,c,_,d⟩
  ·exact ⟨_,k _ _ (Sg _ e),rfl,n,rfl⟩
  ·exact ET (y.jC S₁.inv rs) hV k
  ·intro b hb
   have:b=s₁.heap.objs.size:=by simpa using hb
   subst this
   cases e':s.heap.get? s₁.heap.objs.size with
   | none=>rfl
   | some o =>
    exfalso
    have ht:s₁.heap.objs.size∉G.tabs:=λht=>SW _ (Sd (G.rD _ ht) (aS S₁.inv))
    have:=x.keep _ o (by simp) ht e'
    exact SW _ (SY this)
  ·intro b hb
   rcases Sh.mp hb with rfl | hb
   ·exact ⟨hfr.1,hfr.2.1,hfr.2.2,bk (aS S₁.inv),_,Sn _ rfl⟩
   ·have:b=l:=by simpa using hb
    subst this
    have:=S₁.sy e rfl
    exact ⟨JC,this.1,this.2,kU S₁.inv e rfl,_,Sg _ e⟩
theorem noStar {f:α->Sem Value} (es:List α):(es.map λe=>(false,f e)).any (·.1)=false:=by
 induction es with
 | nil=>rfl
 | cons e es ih=>exact ih
theorem w4 {p:Pos}
  (hf:EV G F ρ W Rs (.Name x p) (.raw (.builtin id))) (ha:aV G F ρ W Rs (e::es) ps) (S:St G F ρ W Rs s)
  (k:∀ s₁ vs,aG G [] s s₁->St G F ρ W Rs s₁->ah W s₁.heap ps vs->wpAny G.M F.A (call (.builtin id) vs) Q (λz! z! => False) s₁)
  (hst:backTo pos (starEach (e::es) F.env)=(e::es).map (λe=>(false,eval e F.env)):=by rfl) :
  wpAny G.M F.A (eval (.Call (.Name x p) (e::es) [] pos) F.env) Q (λz! z! => False) s:=by
 rw [Vz]
 refine R7 (aF (hf s S) λv s₁ zz=>zz.elim λy r=>?_)
 rw [Rep] at r
 subst r
 rw [hst]
 refine Tq (noStar _) ?_
 exact Ti (aF (ha s₁ (S.step y)) λvs s₂ zz=>zz.elim λz rs=>k s₂ vs (y.trans z) ((S.step y).step z) rs)
theorem fV {p:Pos}
  (hf:EV G F ρ W Rs (.Name x p) (.raw (.type id))) (ha:aV G F ρ W Rs (e::es) ps) (S:St G F ρ W Rs s)
  (k:∀ s₁ vs,aG G [] s s₁->St G F ρ W Rs s₁->ah W s₁.heap ps vs->wpAny G.M F.A (call (.type id) vs) Q (λz! z! => False) s₁)
  (hst:backTo pos (starEach (e::es) F.env)=(e::es).map (λe=>(false,eval e F.env)):=by rfl) :
  wpAny G.M F.A (eval (.Call (.Name x p) (e::es) [] pos) F.env) Q (λz! z! => False) s:=by
 rw [Vz]
 refine R7 (aF (hf s S) λv s₁ zz=>zz.elim λy r=>?_)
 rw [Rep] at r
 subst r
 rw [hst]
 refine PySem.callWith_type (noStar _) ?_
 exact Ti (aF (ha s₁ (S.step y)) λvs s₂ zz=>zz.elim λz rs=>k s₂ vs (y.trans z) ((S.step y).step z) rs)
theorem ah.one {p vs} (r:ah W h [p] vs):∃ v,vs=[v]/\Rep W h p v:=by
 rw [ah] at r;refine ob2_3 r λv vs' az r1 r2=>?_;obtain rfl:=az
 rw [ah] at r2;subst r2;exact ⟨v,rfl,r1⟩
theorem ah.two {p q vs} (r:ah W h [p,q] vs):∃ v u,vs=[v,u]/\Rep W h p v/\Rep W h q u:=by
 rw [ah] at r;refine ob2_3 r λv vs' az r1 r2=>?_;obtain rfl:=az
 refine ob1_2 r2.one λu aB r3=>?_;obtain rfl:=aB;exact ⟨v,u,rfl,r1,r3⟩
theorem ah.three {p q z vs} (r:ah W h [p,q,z] vs):∃ v u t,vs=[v,u,t]/\Rep W h p v/\Rep W h q u/\Rep W h z t:=by
 rw [ah] at r;refine ob2_3 r λv vs' az r1 r2=>?_;obtain rfl:=az
 refine ob2_3 r2.two λu t az r3 r4=>?_;obtain rfl:=az;exact ⟨v,u,t,rfl,r1,r3,r4⟩
theorem Rep.isInt {i v} (r:Rep W h (.int i) v):∃ t,v = .int i t:=by rw [Rep] at r;exact r
theorem Rep.isStr {x v} (r:Rep W h (.str x) v):x.length<=lim/\∃ t,v = .str x t:=by rw [Rep] at r;exact r
theorem Rep.dR {xs v} (r:Rep W h (.lst xs) v):xs.length<=lim/\∃ a vs,v = .ref a/\a∉W/\z8 h a vs/\ah W h xs vs:=by rw [Rep] at r;exact r
theorem Rep.isTup {xs v} (r:Rep W h (.tup xs) v):xs.length<=lim/\∃ a vs,v = .ref a/\a∉W/\CW h a vs/\ah W h xs vs:=by rw [Rep] at r;exact r
theorem Rep.int {h:Heap} {i t}:Rep W h (.int i) (.int i t):=by rw [Rep];exact ⟨_,rfl⟩
theorem Rep.str {h:Heap} {x t} (hl:x.length<=lim):Rep W h (.str x) (.str x t):=by rw [Rep];exact ⟨hl,_,rfl⟩
theorem Rep.bool {h:Heap} {b}:Rep W h (.bool b) (.bool b):=by rw [Rep]
noncomputable def span (a b c:Int):List PV:=(Sk (Tg a b c).toNat).map λ(i:Nat)=>PV.int (a+i * c)
theorem jh {a b c:Int}:0<=Tg a b c:=by
 unfold Tg
 split
 ·split
  ·have:=Int.ediv_nonneg (a:=b - a - 1) (b:=c) (by exact Oi (by assumption)) (by exact XH (by assumption))
   exact Int.add_nonneg this (by decide)
  ·exact Uz _
 ·split
  ·have:=Int.ediv_nonneg (a:=a - b - 1) (b := -c) (by exact Oi (by assumption)) (Int.neg_nonneg_of_nonpos (WI.mp (by assumption)))
   exact Int.add_nonneg this (by decide)
  ·exact Uz _
theorem lq (S:St G F ρ W Rs s) {h:Heap} (hx:aG G [] s s') {a b c:Int} {t u v:Tok} {r:Addr} (hr:IsRange s'.heap r a b c t u v)
  (hs:VA a b c=true) :
  wpAny G.M F.A (pyIter (.ref r)) (λit s₂=>aG G [] s s₂/\Ready G F W target (span a b c) s it s₂) (λz! z! => False) s':=by
 have S₁:=S.step hx
 refine wpAny_pyIter_range hr hs ?_
 have hfr:=S₁.fresh (bV s'.heap)
 have hsz:=jh (a:=a) (b:=b) (c:=c)
 have hnn:((Tg a b c).toNat:Int)=Tg a b c:=Int.toNat_of_nonneg hsz
 refine ⟨hx.trans (.bO G (t:=s'.toks)),[s'.heap.objs.size],[s'.heap.objs.size],λV hV=>⟨_,
   z9.ofWalks (Walks.range S.room.1 s'.heap.objs.size a c (Tg a b c).toNat) (by simp [span]) (aS S₁.inv) (λh=>True)
    (λh h' r sk=>trivial) (λi p v h hp hv r=>?_) (c:="range_iterator") (λi h t=>?_) (by decide) (by decide),λh' k=>⟨k _ _ ?_,trivial⟩⟩,?_,?_⟩
 ·refine ob1_1 hv λt aB=>?_;obtain rfl:=aB
  unfold span at hp
  rw [SP] at hp
  have hlt:i<(Tg a b c).toNat:=by
   rcases VI i (Tg a b c).toNat with h | h
   ·exact h
   ·rw [TA (by simpa using h)] at hp;cases hp
  rw [VV hlt] at hp
  simp only [Wo,XI] at hp
  rw [<- hp]
  exact Rep.int
 ·exact ⟨_,t,rfl,_,rfl⟩
 ·show Heap.get? _ _=_
  rw [hnn]
  rw [show a+((0:Nat):Int) * c=a by simp,show Tg a b c - ((0:Nat):Int)=Tg a b c by simp]
  exact Sn _ rfl
 ·intro b hb
  have:b=s'.heap.objs.size:=by simpa using hb
  subst this
  cases e':s.heap.get? s'.heap.objs.size with
  | none=>rfl
  | some o =>
   exfalso
   have ht:s'.heap.objs.size∉G.tabs:=λht=>SW _ (Sd (G.rD _ ht) (aS S₁.inv))
   exact SW _ (SY (hx.keep _ o (by simp) ht e'))
 ·intro b hb
  have:b=s'.heap.objs.size:=by simpa using hb
  subst this
  exact ⟨hfr.1,hfr.2.1,hfr.2.2,bk (aS S₁.inv),_,Sn _ rfl⟩
theorem IV.xS {p:Pos} {n:Int} (hf:EV G F ρ W Rs (.Name x p) (.raw (.type "range"))) (h:EV G F ρ W Rs e (.int n))
  (hs:VA 0 n 1=true) (hst:backTo pos (starEach [e] F.env)=[e].map (λe=>(false,eval e F.env)):=by rfl) :
  IV G F ρ W Rs target (.Call (.Name x p) [e] [] pos) (span 0 n 1):=λs S =>
 fV hf (aV.cons h .nil) S (hst:=hst) λs₁ vs y S₁ rs=>by
  refine ob1_2 rs.one λv aB r=>?_;obtain rfl:=aB
  refine ob1_1 r.isInt λt aB=>?_;obtain rfl:=aB
  refine call_range_1 ⟨y.push,?_⟩
  exact lq (h:=s.heap) S y.push (IsRange.new ..) hs
theorem IV.xR {p:Pos} {e3:SQ} {a b c:Int} (hf:EV G F ρ W Rs (.Name x p) (.raw (.type "range"))) (h1:EV G F ρ W Rs e1 (.int a)) (h2:EV G F ρ W Rs e2 (.int b))
  (h3:EV G F ρ W Rs e3 (.int c)) (hc:c≠0) (hc':c.natAbs<1000000)
  (hs:VA a b c=true) (hst:backTo pos (starEach [e1,e2,e3] F.env)=[e1,e2,e3].map (λe=>(false,eval e F.env)):=by rfl) :
  IV G F ρ W Rs target (.Call (.Name x p) [e1,e2,e3] [] pos) (span a b c):=λs S =>
 fV hf (aV.cons h1 (aV.cons h2 (aV.cons h3 .nil))) S (hst:=hst) λs₁ vs y S₁ rs=>by
  refine ob3_4 rs.three λv u z rG r r' r''=>?_;obtain rfl:=rG
  refine ob1_1 r.isInt λt aB=>?_;obtain rfl:=aB
  refine ob1_1 r'.isInt λt' aB=>?_;obtain rfl:=aB
  refine ob1_1 r''.isInt λt'' aB=>?_;obtain rfl:=aB
  refine call_range_3 hc ⟨y.push,?_⟩ (Or.inl (PyProof.noPylong_small (by exact Sd hc' (Sf _ _))))
  exact lq (h:=s.heap) S y.push (IsRange.new ..) hs
noncomputable def gv (xs:List PV):List PV:=xs.zipIdx.map λx=>.tup [.int x.2,x.1]
theorem aG.none_of (x:aG G [] s s') (i:G.inv s'.heap) {a:Addr} (h:s'.heap.get? a=none) (hb:G.base.objs.size<=a):s.heap.get? a=none:=by
 cases e:s.heap.get? a with
 | none=>rfl
 | some o =>
  exfalso
  have:=x.keep _ o (by simp) (λht=>SW _ (Sd (G.rD _ ht) hb)) e
  rw [h] at this;cases this
theorem all1 {a:α} (h:P a):∀ x∈[a],P x:=λx hx=>Sm.mp hx▸h
theorem all2 {a b:α} (h:P a) (h2:P b):∀ x∈[a,b],P x:=W2.mpr ⟨h,all1 h2⟩
theorem Oc {a b c:α} (h:P a) (h2:P b) (h3:P c):∀ x∈[a,b,c],P x:=W2.mpr ⟨h,all2 h2 h3⟩
theorem E8 {a:Addr} {o:Obj} {P:Obj->Prop} (e:h.get? a=some o) (p:P o):∀ o',h.get? a=some o'->P o':=λo' e'=>UC (e.symm.trans e')▸p
theorem Cq {x:PV} {xs:List PV} (r:Rep W h x v) (rs:ah W h xs vs):ah W h (x::xs) (v::vs):=ah.cons.mpr ⟨_,_,rfl,r,rs⟩
theorem nC (xs:List PV):(gv xs).length=xs.length:=by rw [gv,Sa,Xw]
theorem zu {xs:List PV} (h:(gv xs)[i]? = some p):∃ hlt:i<xs.length,p = .tup [.int i,xs[i]]:=by
 have hlt:i<xs.length:=nC xs▸(TG.mp h).1
 rw [gv,SP,List.getElem?_zipIdx,Sv hlt] at h
 refine ⟨hlt,?_⟩
 cases h
 rw [UP]
structure Oh (N l i:Nat) (us:List Value) (W:List Addr) (xs:List PV) (h:Heap):Prop where
 en:∃ old,IsEnum h (N+1) N i old
 it:h.IsListIter N l i
 li:h.IsList l us.toArray
 r:ah W h xs us
theorem zw {h₃:Heap} {tk:Nat} (hb:G.base.objs.size<=N) {o1 o2:Obj} {v1 v2:Array Value} (e1:s.heap.get? (N+1)=some o1) (c1:o1.cls ≠ .type "code") (d1:o1.data = .fields v1)
  (e2:s.heap.get? N=some o2) (c2:o2.cls ≠ .type "code") (d2:o2.data = .fields v2) (k:∀ b o,b≠N+1->b≠N->s.heap.get? b=some o->h₃.get? b=some o) :
  aG G [N+1,N] s {s with heap:=h₃,toks:=tk}/\∀ W,(G.inv s.heap->aI W s.heap h₃):=by
 have st:aG G [N+1,N] s {s with heap:=h₃,toks:=tk}:=aG.gn G (all2 ⟨SE hb,E8 e1 (.inl c1)⟩ ⟨hb,E8 e2 (.inl c2)⟩) λb o hb' e=>k b o (λh=>hb' (h▸R_)) (λh=>hb' (h▸Sb _ R_)) e
 exact ⟨st,λW iv=>st.bI iv (all2 (.inr (E8 e1 λxs n hd=>Data.noConfusion (d1.symm.trans hd))) (.inr (E8 e2 λxs n hd=>Data.noConfusion (d2.symm.trans hd))))⟩
theorem IV.enum {p tpos:Pos} {xs:List PV} (hf:EV G F ρ W Rs (.Name x p) (.raw (.type "enumerate"))) (h:EV G F ρ W Rs e (.lst xs))
  (hst:backTo pos (starEach [e] F.env)=[e].map (λe=>(false,eval e F.env)):=by rfl) :
  IV G F ρ W Rs (.Tuple elts k tpos) (.Call (.Name x p) [e] [] pos) (gv xs):=λs S =>
 fV hf (aV.cons h .nil) S (hst:=hst) λs₁ vs y S₁ rs=>by
  refine ob1_2 rs.one λv aB r=>?_;obtain rfl:=aB
  refine ob0_2 r.dR λhl aA=>?_;refine ob2_4 aA λl us bq JC aY ru=>?_;obtain rfl:=bq;refine ob1_1 aY λn e=>?_
  refine call_enumerate_list (items:=us.toArray) ⟨_,e,rfl,n,rfl⟩ λh' he hit hz hk=>?_
  have y':aG G [] s₁ {s₁ with heap:=h'}:=.of_keeps G hk (t:=s₁.toks)
  refine ⟨y.trans y',wpAny_pyIter_enum he ⟨y.trans y',?_⟩⟩
  have iv:=S₁.inv
  have hb:=aS iv
  have Nq:=SY e
  have f1:=S₁.fresh (bC (a:=s₁.heap.objs.size) (Si _))
  have f2:=S₁.fresh (bC (a:=s₁.heap.objs.size+1) (Uj _))
  have f3:=S₁.sy e rfl
  have n1:=y.none_of iv (bC (a:=s₁.heap.objs.size) (Si _)) hb
  have n2:=y.none_of iv (bC (a:=s₁.heap.objs.size+1) (Uj _)) (SE hb)
  have sq:=kU iv e rfl
  have Ou:=y'.jC iv ru
  generalize s₁.heap.objs.size=N at he hit hz hb Nq f1 f2 n1 n2
  have el:h'.IsList l us.toArray:=⟨_,hk _ _ e,rfl,n,rfl⟩
  refine ob1_3 hit λo2 e2 c2 d2=>?_
  refine ⟨[N+1,N,l],[N+1,N],λV hV=>⟨λi=>Oh N l i us (V++W) xs,?_,λh₃ k=>⟨⟨_,k _ _ he⟩,⟨o2,k _ _ e2,c2,d2⟩,el.at λo e=>k _ _ e,ET Ou hV k⟩⟩,all2 n2 n1,
   Oc ⟨f2.1,f2.2.1,f2.2.2,bk (SE hb),_,he⟩ ⟨f1.1,f1.2.1,f1.2.2,bk hb,_,e2⟩ ⟨JC,f3.1,f3.2,sq,_,hk _ _ e⟩⟩
  have cE:U5 "enumerate" ≠ .type "code":=by decide
  have cL:∀ {o:Obj},o.cls = .type "list_iterator"->o.cls ≠ .type "code":=λh=>by rw [h];decide
  have nl:l≠N+1/\l≠N:=⟨TP (Td Nq),TP Nq⟩
  have hr:=S.room.1
  clear he e2 c2 d2 el Ou S₁ S y y' hz hk n1 n2 f1 f2 f3 r ru sq
  refine ⟨all2 R_ (Sb _ R_),λi h h' t k sk=>⟨t.en.imp λz! e=>k _ R_ _ e,t.it.at λo e=>k _ (Sb _ R_) _ e,t.li.at λo e=>k _ (Sb _ (Sb _ R_)) _ e,t.r.keep sk λz! z! q=>q⟩,
   λi p s₃ hp t iv al=>?_,λs₃ t iv=>?_,λi s₃ t=>t.en.elim λz! e=>wpAny_pyIter_enum e ⟨rfl,rfl⟩,λi h t=>all2 (.inr (t.en.elim λz! e=>E8 e λxs n hd=>nomatch hd)) (.inr (t.it.elim λ_ zz=>zz.elim λe zz=>zz.elim λz! d=>E8 e λxs n hd=>Data.noConfusion (d.symm.trans hd)))⟩
  ·refine ob1_1 (zu hp) λhlt aB=>?_;obtain rfl:=aB
   refine ob1_1 t.en λold t1=>?_
   refine ob1_3 t.it λo2 e2 c2 d2=>?_
   refine ob1_2 (t.r.get (i:=i) (p:=xs[i]) (Sv hlt)) λxv hxv rv=>?_
   refine wpAny_pyNext_enum_item t1 t.it t.li (x:=xv) (by rw [<- UO];exact hxv) (WA _) λh₃ ho DZ hT ON CF=>?_
   refine ob0_2 (zw (tk:=s₃.toks+1) hb t1 cE rfl e2 (cL c2) d2 CF) λst sk=>?_
   refine ob1_3 DZ λo3 e3 c3 d3=>?_
   refine ⟨_,rfl,st,wpAny_letOwnedTupleGo_enum ho λh₄ JN lB=>?_⟩
   refine ob0_2 (zw (s:={s₃ with heap:=h₃,toks:=s₃.toks+1}) (h₃:=h₄) (tk:=s₃.toks+1) hb ho cE rfl e3 (cL c3) d3 λb o b1 b2 e=>(lB.2 b b1).trans e) λst' sk'=>?_
   have MO:=sk' (V++W) (st.inv iv)
   have kk:∀ {ps vs},ah (V++W) s₃.heap ps vs->ah (V++W) h₄ ps vs:=λr=>(r.keep (sk (V++W) iv) λz! z! q=>q).keep MO λz! z! q=>q
   have O3:s₃.heap.objs.size∉V++W:=λhm=>(al _ hm).elim λo e=>SW _ (SY e)
   refine ⟨st.trans st',?_,⟨_,JN⟩,⟨o3,(lB.2 N (WA _).symm).trans e3,c3,d3⟩,t.li.at λo e=>(lB.2 l nl.1).trans (CF l o nl.1 nl.2 e),kk t.r⟩
   rw [Rep]
   exact ⟨by show (2:Nat)<=_;decide,_,[_,xv],rfl,O3,MO.2 _ _ O3 ⟨_,hT⟩,Cq Rep.int (Cq ((rv.keep (sk (V++W) iv) λz! z! q=>q).keep MO λz! z! q=>q) (ah.nil.mpr rfl))⟩
  ·refine ob1_1 t.en λold t1=>?_
   refine ob1_3 t.it λo2 e2 c2 d2=>?_
   exact wpAny_pyNext_enum_end hr t1 t.it t.li (Array.getElem?_eq_none (by rw [nC,<- t.r.length];exact Si _)) λh₃ qD=>⟨rfl,(zw (tk:=s₃.toks) hb t1 cE rfl e2 (cL c2) d2 λb o z! b2 e=>qD b o b2 e).1⟩
theorem St.xV (S:St G F ρ W Rs s) {b:Addr} {o:Obj} {tk:Tok} (e:s.heap.get? b=some o) (hd:∀ vs,o.data ≠ .fields vs) (hq:∀ xs n,o.data ≠ .seq xs n) (hs:Uc b s.heap h')
  (hb:b∉W) (mt:F.s0.heap.get? b=none\/b∈F.X) (low:G.base.objs.size<=b) (loc:∃ m,h'.Ns F.env.locals m)
  (cells:∀ x c,F.env.cells.lookup x=some c->∃ v,h'.IsCell c v)
  (vars:∀ x p,ρ'.lookup x=some p->∃ v,Look F.env h' x v/\Rep W s.heap p v):St G F ρ' W Rs {s with heap:=h',toks:=tk}/\aI W s.heap h' :=
 have x:aG G [b] s {s with heap:=h',toks:=tk}:=.of_same G low e (.inr hd) hs
 have sk:aI W s.heap h':=x.bI S.inv λa ha=>.inr λo' e' xs n hd'=>by
  have:a=b:=by simpa using ha
  subst this
  rw [e] at e';cases e'
  exact hq _ _ hd'
 And.intro
 {inv:=x.inv S.inv
  stp:=S.stp.drops x (by simpa using mt)
  room:=S.room
  kind:=S.kind
  glob:=S.glob
  blt:=S.blt
  loc:=loc
  cells:=cells
  jw:=S.jw
  own:=S.own
  vars:=λy p e=>(vars y p e).imp λv h_=>h_.imp_right λr=>r.keep sk λz! z! q=>q
  gq:=S.gq
  lW:=S.lW
  cW:=S.cW
  low:=λa ha=>⟨(S.low a ha).1,by
   refine ob0_2 (S.low a ha) λz! aA=>?_;refine ob1_1 aA λo' e'=>?_
   exact ⟨o',(hs.2 a (λh=>hb (h▸ha))).trans e'⟩⟩
  new:=S.new
  res:=λr hr=>r.keep W W _ _ (S.res r hr) (λa ha o' e'=>(hs.2 a (λh=>hb (h▸(S.new r hr a ha).1))).trans e') sk λz! z! q=>q
  apart:=S.apart}
 sk
theorem AP {a:Addr} (x:h.Ns a m) (y:h.Ns a m'):m=m':=x.eq_nsMap.trans y.eq_nsMap.symm
theorem St.store (S:St G F ρ W Rs s) (r:Rep W s.heap p v) (hk:F.env.kindOf x=some .local\/(F.env.kindOf x=some .cell/\x∈F.cv)) :
  wpAny G.M F.A (storeName F.env x v) (λz! s'=>St G F ((x,p)::ρ) W Rs s'/\aI W s.heap s'.heap) (λz! z! => False) s:=by
 rcases hk with hk | ⟨hk,QW⟩
 ·refine ob1_1 S.loc λm hn=>?_
  refine ob3_3 (id hn) λo es ep e d rest=>?_
  refine wpAny_storeName_local hk hn (λh' hn' hs=>?_) (by rw [S.kind];rfl)
  refine S.xV e (by rw [d];simp) (by rw [d];simp) hs S.lW S.gq.1 S.gq.2 ⟨_,hn'⟩ (λy c hc=>?_) λy q hy=>?_
  ·refine ob1_1 (S.cells y c hc) λu hu=>?_
   refine ⟨u,hu.sameBut hs ?_⟩
   rintro rfl
   refine ob1_2 hu λo' e' d'=>?_
   rw [e] at e';cases e'
   rw [d] at d';cases d'
  ·rw [S8] at hy
   by_cases hyx:y=x
   ·subst hyx
    simp only [beq_self_eq_true] at hy
    cases hy
    exact ⟨v,.inl ⟨hk,_,hn',by simp⟩,r⟩
   ·have:(y == x)=false:=beq_eq_false_iff_ne.mpr hyx
    rw [this] at hy
    refine ob1_2 (S.vars y q hy) λu lk ru=>?_
    refine ⟨u,?_,ru⟩
    rcases lk with ⟨k,m',hm',e'⟩ | ⟨k,c,hc,hv⟩
    ·have:=AP hn hm'
     subst this
     exact .inl ⟨k,_,hn',by simp only [hyx,if_false];exact e'⟩
    ·refine .inr ⟨k,c,hc,hv.sameBut hs ?_⟩
     rintro rfl
     refine ob1_2 hv λo' e' d'=>?_
     rw [e] at e';cases e'
     rw [d] at d';cases d'
 ·refine ob1_4 (S.own x QW) λc hc mt low un=>?_
  refine ob2_2 (S.cells x c hc) λv0 o e d=>?_
  refine wpAny_storeName_cell S.kind hk hc ⟨o,e,d⟩ λh' hv' hs=>?_
  refine S.xV e (by rw [d];simp) (by rw [d];simp) hs (S.cW x c hc) mt low ?_ (λy c' hc'=>?_) λy q hy=>?_
  ·refine ob1_1 S.loc λm hn=>?_
   refine ⟨m,hn.sameBut hs ?_⟩
   intro h
   refine ob3_3 hn λo' es ep e' d' z! => ?_
   rw [h,e] at e';cases e'
   rw [d] at d';cases d'
  ·by_cases h:c'=c
   ·subst h;exact ⟨_,hv'⟩
   ·refine ob1_1 (S.cells y c' hc') λu hu=>?_
    exact ⟨u,hu.sameBut hs h⟩
  ·rw [S8] at hy
   by_cases hyx:y=x
   ·subst hyx
    simp only [beq_self_eq_true] at hy
    cases hy
    exact ⟨v,.inr ⟨.inl hk,c,hc,hv'⟩,r⟩
   ·have:(y == x)=false:=beq_eq_false_iff_ne.mpr hyx
    rw [this] at hy
    refine ob1_2 (S.vars y q hy) λu lk ru=>?_
    refine ⟨u,?_,ru⟩
    rcases lk with ⟨k,m',hm',e'⟩ | ⟨k,c',hc',hv⟩
    ·refine .inl ⟨k,m',hm'.sameBut hs ?_,e'⟩
     intro h
     refine ob3_3 hm' λo' es ep e2 d' z! => ?_
     rw [h,e] at e2;cases e2
     rw [d] at d';cases d'
    ·refine .inr ⟨k,c',hc',hv.sameBut hs ?_⟩
     rintro rfl
     exact hyx (un y hc')
noncomputable def AV (G:Glob) (F:Fm) (ρ:List (Str×PV)) (W:List Addr) (Rs:List Res) (target:SQ) (p:PV) (ρ':List (Str×PV)):Prop :=
 ∀ s v,St G F ρ W Rs s->Rep W s.heap p v->wpAny G.M F.A (assign target F.env v) (λz! s'=>St G F ρ' W Rs s'/\aI W s.heap s'.heap) (λz! z! => False) s
theorem AV.name (hk:F.env.kindOf x=some .local\/(F.env.kindOf x=some .cell/\x∈F.cv)):AV G F ρ W Rs (.Name x pos) p ((x,p)::ρ) :=
 λs v S r=>wpAny_assign_Name (S.store r hk)
theorem AV.mj {px py:Pos} (hx:F.env.kindOf x=some .local\/(F.env.kindOf x=some .cell/\x∈F.cv))
  (hy:F.env.kindOf y=some .local\/(F.env.kindOf y=some .cell/\y∈F.cv)):AV G F ρ W Rs (.Tuple [.Name x px,.Name y py] k pos) (.tup [p,q]) ((y,q)::(x,p)::ρ) :=
 λs v S r=>by
  refine ob0_2 r.isTup λz! aA=>?_;refine ob2_4 aA λa vs bq z! aY rs=>?_;obtain rfl:=bq;refine ob1_1 aY λn e=>?_
  refine ob2_3 rs.two λu w az ru rw'=>?_;obtain rfl:=az
  refine wpAny_assign_Tuple (items:=#[u,w]) S.room.1 ⟨_,e,rfl,n,rfl⟩ rfl rfl λh' hx'=>?_
  have st:aG G [] s {s with heap:=h'}:=by
   refine aG.of_keeps G (λb o e=>hx' b o (TP (SY e)) e) (t:=s.toks)
  have S₁:=S.step st
  show wpAny _ _ (do holding [w] (assign (.Name x px) F.env u);assignInOrder [assign (.Name y py) F.env] [w]) _ _ _
  refine R7 (Sj (aF (AV.name hx _ u S₁ (st.rep0 S.inv ru)) λ_ s₂ zz=>zz.elim λS₂ k₂=>?_))
  show wpAny _ _ (do holding [] (assign (.Name y py) F.env w);assignInOrder [] []) _ _ _
  have k₁:aI W s.heap h':=st.cg S.inv (by simp)
  have r₂:=(st.rep0 S.inv rw').keep k₂ λz! z! q=>q
  refine R7 (Sj (aF (AV.name hy _ w S₂ r₂) λ_ s₃ zz=>zz.elim λaT k₃=>R8 ⟨aT,?_⟩))
  exact ⟨λa vs ha l=>k₃.1 _ _ ha (k₂.1 _ _ ha (k₁.1 _ _ ha l)),λa vs ha l=>k₃.2 _ _ ha (k₂.2 _ _ ha (k₁.2 _ _ ha l))⟩
section
theorem XS.nil (h:∀ s,St G F ρ W Rs s->K .next s):XS G F ρ W Rs [] K:=λs S=>UD (h s S)
theorem XS.weaken {ss} (h:XS G F ρ' W Rs ss K) (DM:∀ x p,ρ'.lookup x=some p->ρ.lookup x=some p):XS G F ρ W Rs ss K:=λs S=>h s (S.weaken DM)
theorem XS.asg (hv:EV G F ρ W Rs value p) (ha:AV G F ρ W Rs target p ρ') (h:XS G F ρ' W Rs rest K)
  (hs:swapsWithSole [target] value pos.line F.env=pure false:=by rfl) (hw:swappedStores [target] value F.env=pure none:=by rfl)
  (he:(assignEach [target] F.env).map (·.2)=[Ur target F.env]:=by rfl) :
  XS G F ρ W Rs (.Assign [target] value pos::rest) K:=λs S=>by
 refine Tr ?_
 rw [W3]
 refine R7 (Tc ?_)
 rw [hs]
 refine R7 (R8 ?_)
 rw [if_neg (by decide)]
 refine R7 (aF (hv s S) λv s₁ zz=>zz.elim λx r=>?_)
 rw [hw]
 refine R7 (R8 ?_)
 rw [he]
 show wpAny _ _ (do Ur target F.env v;pure XU) _ _ s₁
 exact R7 (aF (ha s₁ v (S.step x) r) λ_ s₂ zz=>zz.elim λS₂ z! => R8 (h s₂ S₂))
theorem XS.ret {value:SQ} {pos:Pos} {p:PV} (hv:EV G F ρ W Rs value p) (h:∀ s v,St G F ρ W Rs s->Rep W s.heap p v->K (.ret v) s) :
  XS G F ρ W Rs (.Return (some value) pos::rest) K:=λs S =>
 Tr (wpAny_Return_some (aF (hv s S) λv s₁ zz=>zz.elim λx r=>h s₁ v (S.step x) r))
noncomputable def KJ (J:Shared->Prop) (K:Flow->Shared->Prop):Flow->Shared->Prop:=λf s'=>match f with | .next=>J s' | f=>K f s'
theorem XS.ite {b o:List Stmt} {c:Bool} (J:Shared->Prop) (ht:TV G F ρ W Rs test c) (h1:c=true->XS G F ρ W Rs b (KJ J K)) (h2:c=false->XS G F ρ W Rs o (KJ J K))
  (h:∀ s,J s->wpAny G.M F.A (execs rest F.env) K (λz! z! => False) s) :
  XS G F ρ W Rs (.If test b o pos::rest) K:=λs S=>by
 have key:∀ f s',KJ J K f s'->(match f with | .next=>wpAny G.M F.A (execs rest F.env) K (λz! z! => False) s' | f=>K f s'):=λf s' hf=>by
  cases f with
  | next=>exact h s' hf
  | _=>exact hf
 refine Tr (wpAny_If (aF (ht s S) λd s₁ zz=>zz.elim λx e=>?_))
 subst e
 cases d with
 | true=>exact aF (h1 rfl s₁ (S.step x)) key
 | false=>exact aF (h2 rfl s₁ (S.step x)) key
theorem XS.skip {b:List Stmt} (ht:TV G F ρ W Rs test false) (h:XS G F ρ W Rs rest K):XS G F ρ W Rs (.If test b [] pos::rest) K :=
 XS.ite (λs=>St G F ρ W Rs s) ht (λe=>nomatch e) (λz! => XS.nil λs S=>S) λs S=>h s S
theorem XS.take {b o:List Stmt} (ht:TV G F ρ W Rs test true) (J:Shared->Prop) (h:XS G F ρ W Rs b (KJ J K)) (h':∀ s,J s->wpAny G.M F.A (execs rest F.env) K (λz! z! => False) s) :
  XS G F ρ W Rs (.If test b o pos::rest) K:=XS.ite J ht (λz! => h) (λe=>nomatch e) h'
end
theorem St.cH (S:St G F ρ W Rs s) (x:aG G Y s s') (hY:∀ a∈Y,a∉W/\a≠F.env.locals/\∀ x c,F.env.cells.lookup x=some c->a≠c)
  (hn:∀ a∈Y,F.s0.heap.get? a=none\/a∈F.X) (sk:aI W s.heap s'.heap):St G F ρ W Rs s' where
 inv:=x.inv S.inv
 stp:=S.stp.drops x hn
 room:=S.room
 kind:=S.kind
 glob:=S.glob
 blt:=S.blt
 loc:=S.loc.imp λm h=>x.ns S.inv (λh=>(hY _ h).2.1 rfl) h
 cells:=λy c e=>(S.cells y c e).imp λv h=>x.cell S.inv (λh=>(hY _ h).2.2 y c e rfl) h
 jw:=S.jw
 own:=S.own
 vars:=λy p e=>(S.vars y p e).imp λv zz=>zz.elim λl r=>⟨l.step x S.inv (λh=>(hY _ h).2.1 rfl) (λy c e h=>(hY _ h).2.2 y c e rfl),r.keep sk λz! z! q=>q⟩
 gq:=S.gq
 lW:=S.lW
 cW:=S.cW
 low:=λa h=>⟨(S.low a h).1,by
  refine ob0_2 (S.low a h) λh1 aA=>?_;refine ob1_1 aA λo e=>?_
  exact ⟨o,x.keep a o (λha=>(hY a ha).1 h) (λht=>SW _ (Sd (G.rD a ht) h1)) e⟩⟩
 new:=S.new
 res:=λr hr=>r.keep W W _ _ (S.res r hr) (λa ha o e=>x.keep a o (λh=>(hY a h).1 (S.new r hr a ha).1) (by
  intro ht
  exact SW _ (Sd (G.rD a ht) (S.low a (S.new r hr a ha).1).1)) e) sk λz! z! h=>h
 apart:=S.apart
noncomputable def Fm.muts (F:Fm) (Rs:List Res):List Addr:=F.env.locals::(F.cv.filterMap (λx=>F.env.cells.lookup x)++Rs.flatMap (·.addrs))
noncomputable def Fm.at (F:Fm) (Rs:List Res) (s:Shared):Fm:={F with s0:=s,X:=F.muts Rs}
theorem St.enter (S:St G F ρ W Rs s) (hR:aq.flatMap (·.addrs)=Rs.flatMap (·.addrs)):St G (F.at aq s) ρ W Rs s :=
 {S with
  stp:=.refl ..
  own:=λx hx=>by
   refine ob1_4 (S.own x hx) λc hc mt low un=>?_
   exact ⟨c,hc,.inr (Sb _ (Uk _ (WJ.mpr ⟨x,hx,hc⟩))),low,un⟩
  gq:=⟨.inr (R_ ..),S.gq.2⟩
  new:=λr hr a ha=>⟨(S.new r hr a ha).1,.inr (Sb _ (VE _ (by rw [hR];exact Sw.mpr ⟨r,hr,ha⟩)))⟩}
theorem St.yk (S:St G F ρ W Rs s) (hR:aq.flatMap (·.addrs)=Rs.flatMap (·.addrs)):∀ a∈F.muts aq,F.s0.heap.get? a=none\/a∈F.X:=λa ha=>by
 rcases Sh.mp ha with rfl | ha
 ·exact S.gq.1
 ·rcases Sq.mp ha with ha | ha
  ·refine ob1_2 (WJ.mp ha) λx hx hc=>?_
   refine ob1_3 (S.own x hx) λc hc' mt z! => ?_
   rw [hc] at hc';cases hc'
   exact mt
  ·rw [hR] at ha
   refine ob1_2 (Sw.mp ha) λr hr ha=>?_
   exact (S.new r hr a ha).2
theorem St.leave {z5:List Res} (S:St G F ρ W Rs s) (S':St G (F.at aq s) ρ' W z5 s') (hR:aq.flatMap (·.addrs)=Rs.flatMap (·.addrs)) (JX:z5.flatMap (·.addrs)=Rs.flatMap (·.addrs)):St G F ρ' W z5 s' :=
 {S' with
  stp:=S.stp.drops S'.stp (S.yk hR)
  own:=S.own
  gq:=S.gq
  new:=λr hr a ha=>by
   have:a∈Rs.flatMap (·.addrs):=by rw [<- JX];exact Sw.mpr ⟨r,hr,ha⟩
   refine ob1_2 (Sw.mp this) λr' hr' ha'=>?_
   exact S.new r' hr' a ha'}
theorem St.jk (S:St G F ρ W Rs s) (x:aG G (F.muts aq) s s') (hR:aq.flatMap (·.addrs)=Rs.flatMap (·.addrs)):aI W s.heap s'.heap :=
 x.bI S.inv λa ha=>by
  rcases Sh.mp ha with rfl | ha
  ·right
   intro o e xs n hd
   refine ob4_3 S.loc λm o' es ep e' d z! => ?_
   rw [e] at e';cases e'
   rw [hd] at d;cases d
  ·rcases Sq.mp ha with ha | ha
   ·right
    intro o e xs n hd
    refine ob1_2 (WJ.mp ha) λx hx hc=>?_
    refine ob2_2 (S.cells x _ hc) λv o' e' d=>?_
    rw [e] at e';cases e'
    rw [hd] at d;cases d
   ·left
    rw [hR] at ha
    refine ob1_2 (Sw.mp ha) λr hr ha=>?_
    exact (S.new r hr a ha).1
theorem j9 (S:St G F ρ W Rs s) (hR:aq.flatMap (·.addrs)=Rs.flatMap (·.addrs)) {b:Addr} (h:b∉W/\b≠F.env.locals/\∀ x c,F.env.cells.lookup x=some c->b≠c):b∉F.muts aq:=λhb=>by
 rcases Sh.mp hb with rfl | hb
 ·exact h.2.1 rfl
 ·rcases Sq.mp hb with hb | hb
  ·refine ob1_2 (WJ.mp hb) λx hx hc=>?_
   exact h.2.2 x _ hc rfl
  ·rw [hR] at hb
   refine ob1_2 (Sw.mp hb) λr hr ha=>?_
   exact h.1 (S.new r hr _ ha).1
section
theorem XS.loop {τ:Type} {xs:List PV} (Inv:Nat->τ->Prop) (KD:τ->Prop) (iu:τ->List (Str×PV)) (RI:τ->List Res)
  (dw:PV->τ->List (Str×PV)) (z0:τ)
  (hi:IV G F ρ W Rs target iter xs) (h0:Inv 0 z0) (DM:∀ x p,(iu z0).lookup x=some p->ρ.lookup x=some p) (NJ:RI z0=Rs) (hR:∀ z,(RI z).flatMap (·.addrs)=Rs.flatMap (·.addrs))
  (mE:∀ k p z s₁,xs[k]? = some p->Inv k z->AV G (F.at Rs s₁) (iu z) W (RI z) target p (dw p z))
  (hb:∀ k p z s₁,xs[k]? = some p->Inv k z->XS G (F.at Rs s₁) (dw p z) W (RI z) body (λf s'=>match f with
   | .next | .cont=>∃ z',Inv (k+1) z'/\St G (F.at Rs s₁) (iu z') W (RI z') s'
   | .brk=>∃ z',KD z'/\St G (F.at Rs s₁) (iu z') W (RI z') s'
   | .ret _=>False))
  (h:∀ z,Inv xs.length z\/KD z->XS G F (iu z) W (RI z) rest K)
  (hs:∀ x,foldedSetIterable iter F.env x=pure x:=by intro _;rfl) :
  XS G F ρ W Rs (.For target iter body [] pos::rest) K:=λs S=>by
 refine Tr (wpAny_For ?_ hs)
 refine aF (hi s S) λx s₁ zz=>zz.elim λkO hit=>aF hit λit s₂ zz=>zz.elim λfK zz=>zz.elim λfp zz=>zz.elim λwr zz=>zz.elim λhI zz=>zz.elim λhwr hfp=>?_
 refine ob1_2 (hI [] (by simp)) λT I hT=>?_
 replace hT:=hT s₂.heap λz! z! e=>e
 rw [VS] at I
 have S₂:=S.step fK
 have lD:∀ b∈fp,b∉W/\b≠F.env.locals/\∀ x c,F.env.cells.lookup x=some c->b≠c:=λb hb=>⟨(hfp b hb).1,(hfp b hb).2.1,(hfp b hb).2.2.1⟩
 have yO:∀ b∈wr,F.s0.heap.get? b=none\/b∈F.X:=λb hb=>by
  by_cases hX:b∈F.X
  ·exact .inr hX
  ·left
   cases e:F.s0.heap.get? b with
   | none=>rfl
   | some o =>
    have:=S.stp.keep b o hX (hfp b (I.sub b hb)).2.2.2.1 e
    rw [hwr b hb] at this;cases this
 refine codeAny_loop' rfl (λn s'=>∃ k z,n=xs.length+1 - k/\k<=xs.length/\Inv k z/\St G F (iu z) W (RI z) s'/\T k s'.heap) (λn s' hI=>?_) (xs.length+1)
  ⟨0,z0,rfl,SX _,h0,by rw [NJ];exact S₂.weaken DM,hT⟩
 refine ob2_5 hI λk z az hk hz S' pC=>?_;obtain rfl:=az
 show wpAny _ F.A ((forTurn target it body [] F.env).onRaise (λx=>do noteFrame x F.env;theTreesLotGoes x)) _ _ s'
 refine wpAny_noted ?_
 simp only [forTurn]
 refine R7 (Tc (R7 (wpAny_onRaise ?_)))
 rcases VI k xs.length with hlt | hge
 ·have hp:xs[k]? = some xs[k]:=by simp [hlt]
  refine aF (I.item k _ s' hp pC S'.inv λa ha=>(S'.low a ha).2) λr s₃ zz=>zz.elim λv zz=>zz.elim λhr zz=>zz.elim λx₃ hgo=>?_
  subst hr
  refine R7 (aF hgo λ_ s₄ zz=>zz.elim λpF zz=>zz.elim λrZ zY=>?_)
  have pX:aI W s'.heap s₄.heap:=pF.bI S'.inv (I.pG k _ pC)
  have bZ:St G F (iu z) W (RI z) s₄:=S'.cH pF (λa ha=>lD a (I.sub a ha)) yO pX
  have Aa:=bZ.enter (aq:=Rs) (hR z).symm
  refine R7 (aF (mE k _ z s₄ hp hz s₄ v Aa rZ) λ_ s₅ zz=>zz.elim λmQ z! => ?_)
  refine R7 (aF (hb k _ z s₄ hp hz s₅ mQ) λf s₆ hf=>?_)
  have next:(∃ z',Inv (k+1) z'/\St G (F.at Rs s₄) (iu z') W (RI z') s₆)->∃ m,m<xs.length+1 - k/\∃ k' z',m=xs.length+1 - k'/\k'<=xs.length/\Inv k' z'/\St G F (iu z') W (RI z') s₆/\T k' s₆.heap:=λzz=>zz.elim λz' zz=>zz.elim λhz' gI=>by
   refine ⟨_,?_,k+1,z',rfl,hlt,hz',bZ.leave gI (hR z).symm ((hR z').trans (hR z).symm),?_⟩
   ·exact Me hlt
   ·exact I.frame _ _ _ zY (λb hb o e=>gI.stp.keep b o (j9 bZ (hR z).symm (lD b hb)) (hfp b hb).2.2.2.1 e) (bZ.jk gI.stp (hR z).symm)
  cases f with
  | next=>exact R8 (.inl ⟨rfl,next hf⟩)
  | cont=>exact R8 (.inl ⟨rfl,next hf⟩)
  | brk =>
   refine ob1_2 hf λz' hz' gI=>?_
   exact R8 (h z' (.inr hz') s₆ (bZ.leave gI (hR z).symm ((hR z').trans (hR z).symm)))
  | ret v=>exact hf.elim
 ·have hk':k=xs.length:=TU hk hge
  subst hk'
  refine aF (I.done s' pC S'.inv) λr s₃ zz=>zz.elim λhr x₃=>?_
  subst hr
  have pY:aI W s'.heap s₃.heap:=x₃.bI S'.inv (I.pG _ _ pC)
  have aT:St G F (iu z) W (RI z) s₃:=S'.cH x₃ (λa ha=>lD a (I.sub a ha)) yO pY
  exact R8 (.inr ⟨rfl,codeAny_block (UD (h z (.inl hz) s₃ aT))⟩)
end
theorem St.turn {r r':Res} (S:St G F ρ W (r::Rs) s) {a:Addr} {o:Obj} {tk:Tok} (ha:a∈r.addrs) (hr:r'.addrs=r.addrs) (e:s.heap.get? a=some o)
  (hd:o.cls ≠ .type "code"\/∀ vs,o.data ≠ .fields vs) (hs:Uc a s.heap h') (al:∃ o',h'.get? a=some o') (hh:r'.holds W h') :
  St G F ρ W (r'::Rs) {s with heap:=h',toks:=tk}/\aI W s.heap h' :=
 have nw:=S.new r (R_ ..) a ha
 have x:aG G [a] s {s with heap:=h',toks:=tk}:=.of_same G (S.low a nw.1).1 e hd hs
 have sk:aI W s.heap h':=x.bI S.inv λb hb=>.inl (by
  have:b=a:=by simpa using hb
  subst this
  exact nw.1)
 have nd:=S.apart
 have ne:∀ q∈Rs,∀ b∈q.addrs,b≠a:=λq hq b hb h=>by
  subst h
  rw [S2,Ux] at nd
  exact nd.2.2 _ ha _ (Sw.mpr ⟨q,hq,hb⟩) rfl
 And.intro
 {inv:=x.inv S.inv
  stp:=S.stp.drops x (by simpa using nw.2)
  room:=S.room
  kind:=S.kind
  glob:=S.glob
  blt:=S.blt
  loc:=S.loc.imp λm h=>x.ns S.inv (by simp;rintro rfl;exact S.lW nw.1) h
  cells:=λy c ec=>(S.cells y c ec).imp λv h=>x.cell S.inv (by simp;rintro rfl;exact S.cW y _ ec nw.1) h
  jw:=S.jw
  own:=S.own
  vars:=λy p e=>(S.vars y p e).imp λv zz=>zz.elim λl r=>⟨l.step x S.inv (by simp;rintro rfl;exact S.lW nw.1) (λy c ec=>by simp;rintro rfl;exact S.cW y _ ec nw.1),r.keep sk λz! z! q=>q⟩
  gq:=S.gq
  lW:=S.lW
  cW:=S.cW
  low:=λb hb=>⟨(S.low b hb).1,by
   by_cases h:b=a
   ·subst h;exact al
   ·refine ob0_2 (S.low b hb) λz! aA=>?_;refine ob1_1 aA λo' e'=>?_
    exact ⟨o',(hs.2 b h).trans e'⟩⟩
  new:=λq hq b hb=>by
   rcases Sh.mp hq with rfl | hq
   ·exact S.new r (R_ ..) b (hr▸hb)
   ·exact S.new q (Sb _ hq) b hb
  res:=λq hq=>by
   rcases Sh.mp hq with rfl | hq
   ·exact hh
   ·exact q.keep W W _ _ (S.res q (Sb _ hq)) (λb hb o' e'=>(hs.2 b (ne q hq b hb)).trans e') sk λz! z! z=>z
  apart:=by
   rw [S2] at nd ⊢
   rw [hr];exact nd}
 sk
theorem St.append {a:Addr} {xs:List PV} (S:St G F ρ W (.lst a xs::Rs) s) {p:PV} {v:Value} (r:Rep W s.heap p v) (hl:xs.length+1<=lim) :
  wpAny G.M F.A (call (.builtin "list.append") [.ref a,v]) (λu s'=>u = .none/\St G F ρ W (.lst a (xs++[p])::Rs) s'/\aI W s.heap s'.heap) (λz! z! => False) s:=by
 refine ob0_2 (S.res _ (R_ ..)) λQH aA=>?_;refine ob1_2 aA λvs bh rs=>?_;refine ob1_1 bh λn e=>?_
 have hz:=rs.length
 have hsz:vs.toArray.size<=sizeLine:=by
  simp only [TJ,hz]
  exact R9 QH (by decide)
 refine XW slot_list_append ⟨_,e,rfl⟩ entry_list_append (args_list_append _ _) (list_append a vs.toArray n v hsz) ⟨e,rfl,?_⟩
 have hI:IsL s.heap a vs.toArray n:=e
 have hu:=hI.update (λxs=>xs.push v)
 have Qp:z8 (s.heap.update a (U6 λxs=>xs.push v)) a (vs++[v]):=⟨_,by simpa using hu⟩
 have hs:Uc a s.heap (s.heap.update a (U6 λxs=>xs.push v)):=.update ..
 refine S.turn (r':=.lst a (xs++[p])) (a:=a) (by simp [Res.lst]) rfl e (.inr (by simp)) hs ⟨_,hu⟩ ⟨by simpa using hl,_,Qp,?_⟩
 have O1:=(S.new _ (R_ ..) a (by simp [Res.lst])).1
 have sk:aI W s.heap (s.heap.update a (U6 λxs=>xs.push v)) :=
  ⟨λb vs hb zz=>zz.elim λn e=>⟨n,(hs.2 b (λh=>hb (h▸O1))).trans e⟩,λb vs hb zz=>zz.elim λn e=>⟨n,(hs.2 b (λh=>hb (h▸O1))).trans e⟩⟩
 refine ah.append (rs.keep sk λz! z! q=>q) ?_
 rw [ah]
 exact ⟨v,[],rfl,r.keep sk λz! z! q=>q,by rw [ah]⟩
theorem eH:∀ (names:List (Str×NameKind)) (h:Heap) (acc:List (Str×Addr)),(names.map (·.1)).Nodup->(∀ x c,acc.lookup x=some c->c<h.objs.size) ->
  (∀ x,(x,T9)∈names->∃ c,(cellsFrom h.objs.size names acc).lookup x=some c/\h.objs.size<=c/\(pushCells h names).IsCell c none) /\
  (∀ x,(x,T9)∉names->(cellsFrom h.objs.size names acc).lookup x=acc.lookup x) /\
  (∀ x y c,(cellsFrom h.objs.size names acc).lookup x=some c->(cellsFrom h.objs.size names acc).lookup y=some c->h.objs.size<=c->x=y)
 | [],h,acc,_,ha=>⟨by simp,by simp [cellsFrom],λx y c e z! hc=>absurd (ha x c e) (Nat.not_lt.mpr hc)⟩
 | (x0,k)::r,h,acc,nd,ha=>by
  rw [SV,List.nodup_cons] at nd
  by_cases hk:k = .cell
  ·subst hk
   have e1:cellsFrom h.objs.size ((x0,.cell)::r) acc=cellsFrom (h.push {cls:=.type "cell",data:=.cell none}).objs.size r ((x0,h.objs.size)::acc):=by
    rw [Tu];rfl
   have e2:pushCells h ((x0,.cell)::r)=pushCells (h.push {cls:=.type "cell",data:=.cell none}) r:=rfl
   rw [e1,e2]
   have ha':∀ x c,((x0,h.objs.size)::acc).lookup x=some c->c<(h.push {cls:=.type "cell",data:=.cell none}).objs.size:=λx c e=>by
    rw [S8] at e
    rw [Tu]
    split at e
    ·cases e;exact UG _
    ·exact Td (ha x c e)
   refine ob0_3 (eH r (h.push {cls:=.type "cell",data:=.cell none}) ((x0,h.objs.size)::acc) nd.2 ha') λi1 i2 i3=>?_
   rw [Tu] at i1 i2 i3 ⊢
   have n0:(x0,T9)∉r:=λhm=>nd.1 (SN.mpr ⟨_,hm,rfl⟩)
   refine ⟨λx hx=>?_,λx hx=>?_,λx y c ex ey hc=>?_⟩
   ·rcases Sh.mp hx with hx | hx
    ·cases hx
     refine ⟨h.objs.size,by rw [i2 x0 n0];simp,Si _,_,pushCells_keeps _ _ _ _ (Sn _ rfl),rfl⟩
    ·refine ob1_3 (i1 x hx) λc h1 h2 h3=>?_
     exact ⟨c,h1,Sl h2,h3⟩
   ·rw [i2 x (λhm=>hx (Sb _ hm)),S8]
    have:(x == x0)=false:=beq_eq_false_iff_ne.mpr λh=>hx (by rw [h];exact R_ ..)
    rw [this]
   ·rcases VI h.objs.size c with hlt | hge
    ·exact i3 x y c ex ey hlt
    ·have hc':c=h.objs.size:=TU hge hc
     subst hc'
     have key:∀ z,(cellsFrom (h.objs.size+1) r ((x0,h.objs.size)::acc)).lookup z=some h.objs.size->z=x0:=λz ez=>by
      by_cases hz:(z,T9)∈r
      ·refine ob1_3 (i1 z hz) λc h1 h2 z! => ?_
       rw [ez] at h1;cases h1
       exact absurd h2 (VK _)
      ·rw [i2 z hz,S8] at ez
       split at ez
       ·rename_i hb;exact U0 hb
       ·exact absurd (ha z _ ez) (SW _)
     rw [key x ex,key y ey]
  ·have hb:(k == T9)=false:=beq_eq_false_iff_ne.mpr hk
   have e1:cellsFrom h.objs.size ((x0,k)::r) acc=cellsFrom h.objs.size r acc:=by rw [cellsFrom,hb];simp
   have e2:pushCells h ((x0,k)::r)=pushCells h r:=by rw [pushCells,hb];simp
   rw [e1,e2]
   refine ob0_3 (eH r h acc nd.2 ha) λi1 i2 i3=>?_
   refine ⟨λx hx=>?_,λx hx=>i2 x λhm=>hx (Sb _ hm),i3⟩
   rcases Sh.mp hx with hx | hx
   ·cases hx;exact absurd rfl hk
   ·exact i1 x hx
noncomputable def aD (env:Env):List (Str×NameKind)->List (Str×Addr)->List (Str×Addr)
 | [],acc=>acc
 | (x,k)::r,acc=>if k == .free then aD env r ((x,(env.cells.lookup x).getD 0)::acc) else aD env r acc
theorem l_ {M:Model} {Q:List (Str×Addr)->Shared->Prop}
  (hc:∀ x,(x,Uh)∈sc.names->∃ c,env.cells.lookup x=some c) (h:Q (aD env sc.names []) s):wpAny M A (closureFor sc env) Q E s:=by
 unfold closureFor
 have key:∀ (l:List (Str×NameKind)) (acc:List (Str×Addr)),(∀ x,(x,Uh)∈l->∃ c,env.cells.lookup x=some c) ->
   (forIn l acc λ(x:Str×NameKind) (cs:List (Str×Addr))=>(do
    let (name,kind):=x
    if kind == .free then do
     let a<-cellOf env name
     pure (VB ((name,a)::cs))
    else pure (VB cs):Sem (ForInStep (List (Str×Addr)))))=pure (aD env l acc):=by
  intro l
  induction l with
  | nil=>intro acc _;rfl
  | cons x l ih =>
   intro acc hl
   obtain ⟨n,k⟩:=x
   rw [UE]
   by_cases hk:k = .free
   ·subst hk
    refine ob1_1 (hl n (R_ ..)) λc ec=>?_
    have e1:cellOf env n=pure c:=by unfold cellOf;rw [ec]
    have e2:aD env ((n,.free)::l) acc=aD env l ((n,c)::acc):=by
     show aD env l ((n,(env.cells.lookup n).getD 0)::acc)=_
     rw [ec];rfl
    rw [e2,<- ih _ λx hx=>hl x (Sb _ hx)]
    show ((cellOf env n >>= _) >>= _)=_
    rw [e1];rfl
   ·have hb:(k == Uh)=false:=beq_eq_false_iff_ne.mpr hk
    have e2:aD env ((n,k)::l) acc=aD env l acc:=by rw [aD,hb];simp
    rw [e2,<- ih _ λx hx=>hl x (Sb _ hx)]
    show ((if (k == Uh)=true then _ else pure _) >>= _)=_
    rw [hb];rfl
 have:=key sc.names [] hc
 refine Tw (a:=aD env sc.names []) ?_ h
 exact (congrArg (· >>= λr=>pure r) this).trans rfl
theorem dJ (env:Env):∀ (l:List (Str×NameKind)) (acc:List (Str×Addr)),(l.map (·.1)).Nodup->(∀ x,(x,Uh)∈l->∃ c,env.cells.lookup x=some c) ->
  (∀ x,(x,Uh)∈l->(aD env l acc).lookup x=env.cells.lookup x)/\(∀ x,(x,Uh)∉l->(aD env l acc).lookup x=acc.lookup x)
 | [],acc,_,_=>⟨by simp,by simp [aD]⟩
 | (x0,k)::r,acc,nd,hc=>by
  rw [SV,List.nodup_cons] at nd
  by_cases hk:k = .free
  ·subst hk
   refine ob1_1 (hc x0 (R_ ..)) λc ec=>?_
   have e2:aD env ((x0,.free)::r) acc=aD env r ((x0,c)::acc):=by
    show aD env r ((x0,(env.cells.lookup x0).getD 0)::acc)=_
    rw [ec];rfl
   rw [e2]
   refine ob0_2 (dJ env r ((x0,c)::acc) nd.2 λx hx=>hc x (Sb _ hx)) λi1 i2=>?_
   have n0:(x0,Uh)∉r:=λhm=>nd.1 (SN.mpr ⟨_,hm,rfl⟩)
   refine ⟨λx hx=>?_,λx hx=>?_⟩
   ·rcases Sh.mp hx with hx | hx
    ·cases hx
     rw [i2 x0 n0,ec];simp
    ·exact i1 x hx
   ·rw [i2 x λhm=>hx (Sb _ hm),S8]
    have:(x == x0)=false:=beq_eq_false_iff_ne.mpr λh=>hx (by rw [h];exact R_ ..)
    rw [this]
  ·have hb:(k == Uh)=false:=beq_eq_false_iff_ne.mpr hk
   have e2:aD env ((x0,k)::r) acc=aD env r acc:=by rw [aD,hb];simp
   rw [e2]
   refine ob0_2 (dJ env r acc nd.2 λx hx=>hc x (Sb _ hx)) λi1 i2=>?_
   refine ⟨λx hx=>?_,λx hx=>i2 x λhm=>hx (Sb _ hm)⟩
   rcases Sh.mp hx with hx | hx
   ·cases hx;exact absurd rfl hk
   ·exact i1 x hx
noncomputable def Fm.cJ (F:Fm) (x:Str×NameKind):Bool:=x.2 == .free && F.env.scope.kind == .function && F.env.kindOf x.1 == some .cell
noncomputable def Fm.compEnv (F:Fm) (sc:Scope) (cl:Addr) (cs:List (Str×Addr)):Env :=
 {scope:={sc with names:=sc.names.map λx=>if F.cJ x then (x.1,.cell) else x},locals:=cl,globals:=F.env.globals,cells:=cs,
  qual:=F.env.qual,func:=none,code:=F.env.code,frame:=F.env.frame,builtins:=F.env.builtins}
noncomputable def Fm.comp (F:Fm) (sc:Scope) (cl:Addr) (cs:List (Str×Addr)) (s0:Shared) (X:List Addr):Fm :=
 {A:=F.A,env:=F.compEnv sc cl cs,s0:=s0,X:=X,n:=F.n,cv:=(sc.names.filter λx=>x.2 == .cell).map (·.1)}
noncomputable def cO (o sc:Scope):Bool :=
 sc.kind == .function && decide (sc.names.map (·.1)).Nodup && sc.names.all λx=>x.2 != .free || o.names.lookup x.1 == some .cell || o.names.lookup x.1 == some .free
noncomputable def seen (sc:Scope) (ρ:List (Str×PV)):List (Str×PV):=ρ.filter λx=>sc.names.lookup x.1 == some .free
theorem lookup_mem {α:Type} {x:Str} {k:α}:∀ {l:List (Str×α)},l.lookup x=some k->(x,k)∈l
 | (y,j)::l,h=>by
  rw [S8] at h
  split at h
  ·rename_i hb
   cases h
   rw [U0 hb]
   exact R_ ..
  ·exact Sb _ (lookup_mem h)
theorem mem_lookup {α:Type} {x:Str} {k:α}:∀ {l:List (Str×α)},(l.map (·.1)).Nodup->(x,k)∈l->l.lookup x=some k
 | (y,j)::l,nd,hm=>by
  rw [SV,List.nodup_cons] at nd
  rw [S8]
  rcases Sh.mp hm with h1 | h2
  ·cases h1;simp
  ·have hx:x∈l.map (·.1):=SN.mpr ⟨(x,k),h2,rfl⟩
   have:(x == y)=false:=beq_eq_false_iff_ne.mpr λe=>nd.1 (e▸hx)
   rw [this]
   exact mem_lookup nd.2 h2
theorem fy (F:Fm) (x:Str):∀ (l:List (Str×NameKind)),(l.map λx=>if F.cJ x then (x.1,T9) else x).lookup x=(l.lookup x).map λk=>if F.cJ (x,k) then .cell else k
 | []=>rfl
 | (y,j)::l=>by
  rewrite [SV,S8,S8]
  by_cases h:x=y
  ·subst h
   have e:(if F.cJ (x,j)=true then (x,T9) else (x,j))=(x,if F.cJ (x,j)=true then T9 else j):=by split <;> rfl
   simp only [e,beq_self_eq_true,Wo]
  ·have e:(x == y)=false:=beq_eq_false_iff_ne.mpr h
   have e':(if F.cJ (y,j)=true then (y,T9) else (y,j)).1=y:=by split <;> rfl
   rw [e',e]
   exact fy F x l
theorem c_ {f:Str×PV->Bool} {x:Str} {p:PV}:∀ {l:List (Str×PV)},(∀ y q q',f (y,q)=f (y,q'))->(l.filter f).lookup x=some p->l.lookup x=some p/\f (x,p)=true
 | [],_,h=>by cases h
 | (y,q)::l,hf,h=>by
  rw [List.filter_cons] at h
  rw [S8]
  by_cases hx:x=y
  ·subst hx
   simp only [beq_self_eq_true]
   split at h
   ·rename_i hc
    rw [S8] at h
    simp only [beq_self_eq_true] at h
    cases h
    exact ⟨rfl,hc⟩
   ·rename_i hc
    have:=(c_ hf h).2
    exact absurd ((hf x q p).trans this) hc
  ·have e:(x == y)=false:=beq_eq_false_iff_ne.mpr hx
   rw [e]
   split at h
   ·rw [S8,e] at h
    exact c_ hf h
   ·exact c_ hf h
structure wF (o sc:Scope):Prop where
 kind:sc.kind = .function
 nd:(sc.names.map (·.1)).Nodup
 free:∀ x,(x,Uh)∈sc.names->o.names.lookup x=some .cell\/o.names.lookup x=some .free
theorem cO.out {o:Scope} (h:cO o sc=true):wF o sc:=by
 unfold cO at h
 rw [V9,V9] at h
 refine ⟨U0 h.1.1,of_decide_eq_true h.1.2,λx hx=>?_⟩
 have:=Ui.mp h.2 _ hx
 simp only [bne_self_eq_false,Bool.false_or,WO,beq_iff_eq] at this
 exact this
theorem addW (r:Rep W h p v) (hD:h.get? D=none):Rep (D::W) h p v :=
 r.keep ⟨λz! z! z! e=>e,λz! z! z! e=>e⟩ λa zz=>zz.elim λo e ha=>by
  rcases Sh.mp ha with rfl | ha
  ·rw [hD] at e;cases e
  ·exact ha
theorem Kd (r:ah (D::W) h ps vs):ah W h ps vs :=
 r.keep ⟨λz! z! z! e=>e,λz! z! z! e=>e⟩ λa z! ha=>Sb _ ha
theorem tw {wr:List Addr} (S:St G F ρ W Rs s) (hok:cO F.env.scope sc=true) {cl:Addr} {h₃ h₄ h₅:Heap} {cs:List (Str×Addr)} {tk:Tok}
  (e3:h₃=s.heap.push {cls:=.type "list",data:=.seq (#[]:Array Value)}) (eD:D=s.heap.objs.size) (Es:cl=h₃.objs.size)
  (e4:h₄=h₃.push {cls:=.type "dict",data:=.dict #[]}) (RD:cs=cellsFrom (cl+1) sc.names (aD F.env sc.names [])) (e5:h₅=pushCells h₄ sc.names) :
  St G (F.comp sc cl cs s wr) (seen sc ρ) (D::W) [Res.lst D []] {s with heap:=h₅,toks:=tk}:=by
 have C:=cO.out hok
 have J0:s.heap.get? D=none:=by rw [eD];exact bV _
 have yV:s.heap.get? cl=none:=by rw [Es,e3,Tu];exact bC (Uj _)
 have hb:G.base.objs.size<=s.heap.objs.size:=aS S.inv
 have z4:h₄.objs.size=cl+1:=by rw [e4,Tu,Es]
 have k3:∀ b o,s.heap.get? b=some o->h₃.get? b=some o:=λb o e=>by rw [e3];exact Sg _ e
 have k4:∀ b o,h₃.get? b=some o->h₄.get? b=some o:=λb o e=>by rw [e4];exact Sg _ e
 have k5:∀ b o,h₄.get? b=some o->h₅.get? b=some o:=λb o e=>by rw [e5];exact pushCells_keeps _ _ _ _ e
 have kk:∀ b o,s.heap.get? b=some o->h₅.get? b=some o:=λb o e=>k5 _ _ (k4 _ _ (k3 _ _ e))
 have O6:z8 h₅ D []:=⟨0,k5 _ _ (k4 _ _ (by rw [e3,eD];exact Sn _ rfl))⟩
 have hfree:∀ x,(x,Uh)∈sc.names->∃ c,F.env.cells.lookup x=some c:=λx hx=>S.jw x (C.free x hx)
 have tl:=dJ F.env sc.names [] C.nd hfree
 have je:∀ x c,(aD F.env sc.names []).lookup x=some c->(x,Uh)∈sc.names/\F.env.cells.lookup x=some c:=λx c e=>by
  by_cases hx:(x,Uh)∈sc.names
  ·rw [tl.1 x hx] at e;exact ⟨hx,e⟩
  ·rw [tl.2 x hx] at e;cases e
 have x9:∀ x c,F.env.cells.lookup x=some c->c<s.heap.objs.size:=λx c e=>by
  refine ob1_1 (S.cells x c e) λv hv=>?_
  exact hv.lt
 have lay:=eH sc.names h₄ (aD F.env sc.names []) C.nd (λx c e=>by
  have:=x9 x c (je x c e).2
  rw [z4,Es,e3,Tu]
  exact Td (Td this))
 rw [z4,<- RD,<- e5] at lay
 have lO:∀ x c,cs.lookup x=some c->(cl+1<=c/\h₅.IsCell c none/\(x,T9)∈sc.names)\/(F.env.cells.lookup x=some c/\(x,Uh)∈sc.names):=λx c e=>by
  by_cases hx:(x,T9)∈sc.names
  ·refine ob1_3 (lay.1 x hx) λc' h1 h2 h3=>?_
   rw [e] at h1;cases h1
   exact .inl ⟨h2,h3,hx⟩
  ·rw [lay.2.1 x hx] at e
   exact .inr ⟨(je x c e).2,(je x c e).1⟩
 have hnew:∀ c,cl+1<=c->s.heap.get? c=none/\c≠D/\G.base.objs.size<=c:=λc hc=>by
  have h1 : @Eq Nat (s.heap.objs.size+1) cl:=by rw [Es,e3,Tu]
  have h2:(s.heap.objs.size+2:Nat)<=c:=by rw [<- h1] at hc;exact hc
  exact ⟨bC (Sl (Sl h2)),by rw [eD];exact Vi (Nat.lt_of_succ_le (Sl h2)),R9 hb (Sl (Sl h2))⟩
 exact
 {inv:=G.yH _ _ S.inv kk
  stp:=(aG.of_keeps G kk).up
  room:=S.room
  kind:=C.kind
  glob:=S.glob
  blt:=S.blt
  loc:=⟨_,by
   have:h₄.Ns cl (λz! => none):=by rw [e4,Es];exact Heap.Ns.new ..
   exact this.keeps k5⟩
  cells:=λx c e=>by
   rcases lO x c e with ⟨_,h,_⟩ | ⟨h,_⟩
   ·exact ⟨_,h⟩
   ·refine ob1_1 (S.cells x c h) λv hv=>?_
    exact ⟨v,hv.keeps kk⟩
  jw:=λx hx=>by
   have hk:(F.comp sc cl cs s wr).env.kindOf x=(sc.names.lookup x).map λk=>if F.cJ (x,k) then .cell else k:=fy F x sc.names
   have key:sc.names.lookup x=some .cell\/sc.names.lookup x=some .free:=by
    rw [hk] at hx
    cases hl:sc.names.lookup x with
    | none=>rw [hl] at hx;simp at hx
    | some k =>
     rw [hl] at hx
     simp only [Wo,XI] at hx
     by_cases ho:F.cJ (x,k)=true
     ·right
      unfold Fm.cJ at ho
      simp only [V9,beq_iff_eq] at ho
      rw [ho.1.1]
     ·rw [if_neg ho] at hx
      rcases hx with h | h
      ·left;rw [h]
      ·right;rw [h]
   show ∃ c,cs.lookup x=some c
   rcases key with h | h
   ·refine ob1_2 (lay.1 x (lookup_mem h)) λc h1 z! => ?_
    exact ⟨c,h1⟩
   ·have hnc:(x,T9)∉sc.names:=λhm=>by rw [mem_lookup C.nd hm] at h;cases h
    refine ob1_1 (hfree x (lookup_mem h)) λc hc=>?_
    exact ⟨c,by rw [lay.2.1 x hnc,tl.1 x (lookup_mem h),hc]⟩
  own:=λx hx=>by
   refine ob1_2 (SN.mp hx) λbM hy az=>?_;obtain ⟨y,k⟩:=bM;obtain rfl:=az
   rw [WQ] at hy
   have hk:k = .cell:=U0 hy.2
   subst hk
   refine ob1_3 (lay.1 y hy.1) λc h1 h2 h3=>?_
   exact ⟨c,h1,.inl (hnew c h2).1,(hnew c h2).2.2,λz hz=>lay.2.2 z y c hz h1 h2⟩
  vars:=λx p e=>by
   refine ob0_2 (c_ (λz! z! z! => rfl) e) λe1 e2=>?_
   have hl:sc.names.lookup x=some .free:=U0 e2
   have hm:=lookup_mem hl
   refine ob1_2 (S.vars x p e1) λv lk r=>?_
   refine ⟨v,?_,(addW r J0).keep ⟨λa vs _ zz=>zz.elim λn e=>⟨n,kk _ _ e⟩,λa vs _ zz=>zz.elim λn e=>⟨n,kk _ _ e⟩⟩ λz! z! q=>q⟩
   rcases lk with ⟨k,_⟩ | ⟨k,c,hc,hv⟩
   ·exfalso
    have k':F.env.scope.names.lookup x=some .local:=k
    rcases C.free x hm with h | h <;> rw [k'] at h <;> cases h
   ·refine .inr ⟨?_,c,?_,hv.keeps kk⟩
    ·have hk:(F.comp sc cl cs s wr).env.kindOf x=(sc.names.lookup x).map λk=>if F.cJ (x,k) then .cell else k:=fy F x sc.names
     rw [hk,hl]
     simp only [Wo,XI]
     split
     ·exact .inl rfl
     ·exact .inr rfl
    ·show cs.lookup x=some c
     have hnc:(x,T9)∉sc.names:=λhm=>by rw [mem_lookup C.nd hm] at hl;cases hl
     rw [lay.2.1 x hnc,tl.1 x hm,hc]
  gq:=⟨.inl yV,by
   show G.base.objs.size<=cl
   rw [Es,e3,Tu];exact SE hb⟩
  lW:=λhm=>by
   rcases Sh.mp hm with h | h
   ·have:cl=D:=h
    rw [Es,e3,Tu,eD] at this
    exact absurd this (WA _)
   ·refine ob0_2 (S.low _ h) λz! aA=>?_;refine ob1_1 aA λo e=>?_
    have e':s.heap.get? cl=some o:=e
    rw [yV] at e';cases e'
  cW:=λx c e hm=>by
   have e':cs.lookup x=some c:=e
   rcases lO x c e' with ⟨h,_⟩ | ⟨h,_⟩
   ·rcases Sh.mp hm with hd | hd
    ·exact (hnew c h).2.1 hd
    ·refine ob0_2 (S.low _ hd) λz! aA=>?_;refine ob1_1 aA λo e=>?_
     rw [(hnew c h).1] at e;cases e
   ·rcases Sh.mp hm with hd | hd
    ·have:=x9 x c h
     rw [hd,eD] at this
     exact SW _ this
    ·exact S.cW x c h hd
  low:=λa ha=>by
   rcases Sh.mp ha with rfl | ha
   ·exact ⟨by rw [eD];exact hb,O6.elim λn e=>⟨_,e⟩⟩
   ·refine ob0_2 (S.low a ha) λh aA=>?_;refine ob1_1 aA λo e=>?_
    exact ⟨h,o,kk _ _ e⟩
  new:=λr hr a ha=>by
   have:r=Res.lst D []:=by simpa using hr
   subst this
   have:a=D:=by simpa [Res.lst] using ha
   subst this
   exact ⟨R_ ..,.inl J0⟩
  res:=λr hr=>by
   have:r=Res.lst D []:=by simpa using hr
   subst this
   exact ⟨SX _,[],O6,by rw [ah]⟩
  apart:=by simp [Res.lst]}
noncomputable abbrev nT (ifs:List SQ) (env:Env):Sem Bool :=
 forIn ifs true λc r=>if r=true then do let ok<-isTrue c env (eval c env);pure (VB ok) else pure (VB r)
noncomputable def uT (G:Glob) (F:Fm) (ρ:List (Str×PV)) (W:List Addr) (Rs:List Res) (ifs:List SQ) (b:Bool):Prop :=
 ∀ s,St G F ρ W Rs s->wpAny G.M F.A (nT ifs F.env) (λv s'=>aG G [] s s'/\v=b) (λz! z! => False) s
theorem uT.nil:uT G F ρ W Rs [] true:=λs z! => wpAny_tests_nil ⟨.refl ..,rfl⟩
theorem uT.one {c:SQ} {b:Bool} (h:TV G F ρ W Rs c b):uT G F ρ W Rs [c] b:=λs S=>wpAny_tests_one (h s S)
theorem Bp (h:ρ.lookup x=none):∀ y q,ρ.lookup y=some q->((x,p)::ρ).lookup y=some q:=λy q e=>by
 rw [S8]
 by_cases hx:y=x
 ·subst hx;rw [h] at e;cases e
 ·rw [beq_eq_false_iff_ne.mpr hx];exact e
noncomputable abbrev Fm.as (F:Fm) (s0:Shared) (X:List Addr):Fm:={F with s0:=s0,X:=X}
theorem v9 {inner:Sem Unit} {it:Value} {L:List α} {wr:List Addr}
 
  (heq:compTurn e d it (.ref D) F.env=(do
   standAt pos
   match<-pyNext it with
   | none=>pure (.done .next)
   | some v =>
    letOwnedTupleGo target it v
    assign target F.env v
    let ok<-nT ifs F.env
    if ok then inner
    again (.compLoop e d it (.ref D) F.env)))
  (NB:G.M.den (.compLoop e d it (.ref D) F.env)=(compTurn e d it (.ref D) F.env).onRaise (λx=>do noteFrame x F.env;theTreesLotGoes x))
  (Nc:F.A.under (.compLoop e d it (.ref D) F.env)=F.A)
  (I:z9 G F.A W target it fp wr (L.map enc) T) (hfp:∀ b∈fp,b∉W/\b≠F.env.locals/\(∀ x c,F.env.cells.lookup x=some c->b≠c)/\b∉G.tabs)
  (hwr:∀ b∈wr,F.s0.heap.get? b=none\/b∈F.X)
  (dw:α->List (Str×PV)) (c:α->Bool) (out:α->List PV) (g9:∀ a y q,ρ.lookup y=some q->(dw a).lookup y=some q)
  (mE:∀ a∈L,∀ ys s0 X,AV G (F.as s0 X) ρ W [.lst D ys] target (enc a) (dw a))
  (ht:∀ a∈L,∀ ys s0 X,uT G (F.as s0 X) (dw a) W [.lst D ys] ifs (c a))
  (hin:∀ a∈L,c a=true->∀ ys s0 X s,ys.length+(out a).length<=lim->St G (F.as s0 X) (dw a) W [.lst D ys] s ->
   wpAny G.M F.A inner (λz! s'=>St G (F.as s0 X) (dw a) W [.lst D (ys++out a)] s') (λz! z! => False) s)
  {ys:List PV} (S:St G F ρ W [.lst D ys] s) (hT:T 0 s.heap) (hl:ys.length+((L.filter c).flatMap out).length<=lim)
  (hR:∀ s',St G F ρ W [.lst D (ys++(L.filter c).flatMap out)] s'->R (.ok .next) s') :
  codeAny G.M F.A (.compLoop e d it (.ref D) F.env) R s:=by
 have lD:∀ b∈fp,b∉W/\b≠F.env.locals/\∀ x c,F.env.cells.lookup x=some c->b≠c:=λb hb=>⟨(hfp b hb).1,(hfp b hb).2.1,(hfp b hb).2.2.1⟩
 refine codeAny_loop rfl (λn s'=>∃ k,n=L.length+1 - k/\k<=L.length/\St G F ρ W [.lst D (ys++((L.take k).filter c).flatMap out)] s'/\T k s'.heap) (λn s' hI=>?_) (L.length+1)
  ⟨0,rfl,SX _,by simpa using S,hT⟩
 refine ob1_4 hI λk aB hk S' pC=>?_;obtain rfl:=aB
 rw [Nc]
 rw [NB]
 refine wpAny_noted ?_
 rw [heq]
 refine R7 (Tc (R7 ?_))
 rcases VI k L.length with hlt | hge
 ·have hp:(L.map enc)[k]? = some (enc L[k]):=by simp [hlt]
  have ha:L[k]∈L:=UH hlt
  have hsplit:L.take (k+1)=L.take k++[L[k]]:=by rw [Tz];simp [hlt]
  have hlen:((L.take (k+1)).filter c).flatMap out=((L.take k).filter c).flatMap out++(if c L[k] then out L[k] else []):=by
   rw [hsplit,List.filter_append,T8]
   congr 1
   by_cases h:c L[k]=true <;> simp [h]
  have hle:(((L.take (k+1)).filter c).flatMap out).length<=((L.filter c).flatMap out).length:=by
   have:(L.filter c).flatMap out=((L.take (k+1)).filter c).flatMap out++((L.drop (k+1)).filter c).flatMap out:=by
    rw [<- T8,<- List.filter_append,Ud]
   rw [this,Sy]
   exact Th _ _
  refine aF (I.item k _ s' hp pC S'.inv λa ha=>(S'.low a ha).2) λr s₃ zz=>zz.elim λv zz=>zz.elim λhr zz=>zz.elim λx₃ hgo=>?_
  subst hr
  refine R7 (aF hgo λ_ s₄ zz=>zz.elim λpF zz=>zz.elim λrZ zY=>?_)
  have pX:aI W s'.heap s₄.heap:=pF.bI S'.inv (I.pG k _ pC)
  have bZ:=S'.cH pF (λa ha=>lD a (I.sub a ha)) hwr pX
  have Aa:=bZ.enter (aq:=[.lst D []]) rfl
  refine R7 (aF (mE _ ha _ s₄ _ s₄ v Aa rZ) λ_ s₅ zz=>zz.elim λmQ z! => ?_)
  refine R7 (aF (ht _ ha _ s₄ _ s₅ mQ) λok s₆ zz=>zz.elim λML hok=>?_)
  subst hok
  have gI:=mQ.step ML
  have next:∀ s₇,St G (F.as s₄ (F.muts [.lst D []])) (dw L[k]) W [.lst D (ys++((L.take (k+1)).filter c).flatMap out)] s₇ ->
    ∃ m,m<L.length+1 - k/\∃ k',m=L.length+1 - k'/\k'<=L.length/\St G F ρ W [.lst D (ys++((L.take k').filter c).flatMap out)] s₇/\T k' s₇.heap:=λs₇ zZ=>by
   refine ⟨_,?_,k+1,rfl,hlt,bZ.leave (zZ.weaken (g9 _)) rfl rfl,?_⟩
   ·exact Me hlt
   ·exact I.frame _ _ _ zY (λb hb o e=>zZ.stp.keep b o (j9 bZ rfl (lD b hb)) (hfp b hb).2.2.2 e) (bZ.jk zZ.stp rfl)
  by_cases hc:c L[k]=true
  ·rw [hc]
   refine R7 ?_
   rw [hlen,if_pos hc] at hle
   refine aF (hin _ ha hc _ s₄ _ s₆ ?_ gI) λz! s₇ zZ=>R8 ⟨rfl,next s₇ (by rw [hlen,if_pos hc,<- SH];exact zZ)⟩
   simp only [Sy] at hle ⊢
   exact Pz hl hlt hle
  ·have hc':c L[k]=false:=by simpa using hc
   rw [hc']
   show wpAny _ _ (again _) _ _ _
   exact R8 ⟨rfl,next s₆ (by rw [hlen,if_neg hc,SI];exact gI)⟩
 ·have hk':k=L.length:=TU hk hge
  subst hk'
  refine aF (I.done s' (by simpa using pC) S'.inv) λr s₃ zz=>zz.elim λhr x₃=>?_
  subst hr
  have pY:aI W s'.heap s₃.heap:=x₃.bI S'.inv (I.pG _ _ pC)
  have aT:=S'.cH x₃ (λa ha=>lD a (I.sub a ha)) hwr pY
  rw [Xa] at aT
  exact R8 (hR s₃ aT)
theorem rL {closure:List (Str×Addr)} {M:Model} {Q:Env->Shared->Prop}
  (h:Q {scope:=sc,locals:=s.heap.objs.size,globals:=env.globals,cells:=cellsFrom (s.heap.objs.size+1) sc.names closure,qual:=env.qual,func:=none,code:=env.code,frame:=env.frame,builtins:=env.builtins}
   {s with heap:=pushCells (s.heap.push {cls:=.type "dict",data:=.dict #[]}) sc.names}) :
  wpAny M A (newFunctionEnv sc env.globals closure [] env.qual none .none (some env)) Q E s:=by
 unfold newFunctionEnv
 refine R7 (wpAny_alloc (o:={cls:=.type "dict",data:=.dict #[]}) (R7 ?_))
 refine wpAny_layCells _ (λname kind cells=>rfl) sc.names closure _ _ ?_
 rw [show ({s with heap:=s.heap.push {cls:=.type "dict",data:=.dict #[]}}:Shared).heap.objs.size=s.heap.objs.size+1 from Tu ..]
 exact R8 h
structure gA (G:Glob) (F:Fm) (ρ:List (Str×PV)) (W:List Addr) (Rs:List Res) (s:Shared) (cl D:Addr) (ys:List PV) (s₁:Shared):Prop where
 st:St G F ρ W Rs s₁
 stp:aG G [] s s₁
 uH:s.heap.get? cl=none
 zD:G.base.objs.size<=cl
 EB:∃ m,s₁.heap.Ns cl m
 RN:s.heap.get? D=none
 R6:D≠cl
 rep:Rep W s₁.heap (.lst ys) (.ref D)
theorem nG {rest:List Comprehension} {xs:α->List PV} {ys:α->List PV}
  (he:e = .ListComp elt (⟨target,iter,ifs,0⟩::rest) sc epos) (hok:cO F.env.scope sc=true) (S:St G F ρ W Rs s)
  (hi:wpAny G.M F.A (eval iter F.env) (λx s₁=>aG G [] s s₁/\wpAny G.M F.A (pyIter x) (λit s₂=>∃ z,P z/\aG G [] s s₂/\Ready G F W target (xs z) s it s₂) (λz! z! => False) s₁) (λz! z! => False) s)
  (yS:∀ z,P z->∀ cl cs D it fp wr T s₂ s₃ R,z9 G F.A (D::W) target it fp wr (xs z) T->T 0 s₃.heap->(∀ b∈fp,b∉W/\b≠F.env.locals/\(∀ x c,F.env.cells.lookup x=some c->b≠c)/\b∉G.tabs/\∃ o,s₂.heap.get? b=some o) ->
   St G (F.comp sc cl cs s₂ wr) (seen sc ρ) (D::W) [Res.lst D []] s₃->s₂.heap.get? D=none->s₂.heap.get? cl=none->(∀ x c,cs.lookup x=some c->s₂.heap.get? c=none\/F.env.cells.lookup x=some c) ->
   (∀ b o,s₂.heap.get? b=some o->s₃.heap.get? b=some o) ->
   (∀ s',St G (F.comp sc cl cs s₂ wr) (seen sc ρ) (D::W) [Res.lst D (ys z)] s'->R (.ok .next) s') ->
   codeAny G.M F.A (.compStart e 0 it (.ref D) (F.compEnv sc cl cs)) R s₃)
  (hQ:∀ z,P z->∀ cl D s₁,gA G F ρ W Rs s cl D (ys z) s₁->match use with
   | none=>∀ h',Uc cl s₁.heap h'->Q (.ref D) {s₁ with heap:=h'}
   | some u=>wpAny G.M F.A (u (.ref D)) (λz! s''=>∃ m,s''.heap.Ns cl m/\∀ h',Uc cl s''.heap h'->Q .none {s'' with heap:=h'}) (λz! z! => False) s₁)
  (hs:∀ x,foldedSetIterable iter F.env x=pure x:=by intro _;rfl) :
  wpAny G.M F.A (comprehension e sc F.env pos (newList []) false (eval iter F.env) use) Q (λz! z! => False) s:=by
 have C:=cO.out hok
 have hcl:clausesOf e=⟨target,iter,ifs,0⟩::rest:=by rw [he];rfl
 unfold comprehension
 rw [hcl]
 refine R7 (aF hi λx s₁ zz=>zz.elim λkO hit=>R7 (Tc (R7 (Tw (hs x) (R7 (Sj ?_))))))
 show wpAny _ _ (pyIter x) _ _ s₁
 refine aF hit λit s₂ zz=>zz.elim λz zz=>zz.elim λhz zz=>zz.elim λfK zz=>zz.elim λfp zz=>zz.elim λwr zz=>zz.elim λhI zz=>zz.elim λhwr hfp=>wpAny_standIf (R7 ?_)
 have S₂:=S.step fK
 refine ob1_2 (hI [] (by simp)) λT₀ wD JT=>?_
 rw [VS] at wD
 refine ob1_2 (hI [s₂.heap.objs.size] (λa ha=>by
  have:a=s₂.heap.objs.size:=by simpa using ha
  subst this
  exact bV _)) λT I hT=>?_
 refine TL (T:="list") (data:=.seq ([]:List Value).toArray) ?_ (by size_fits)
 refine R7 (l_ (λx hx=>S.jw x (C.free x hx)) (R7 (rL ?_)))
 dsimp only
 have Og:=tw (wr:=wr) (tk:=s₂.toks) S₂ hok rfl rfl rfl rfl rfl rfl
 have hb:=aS S₂.inv
 have k5:∀ b o,s₂.heap.get? b=some o->(pushCells ((s₂.heap.push {cls:=.type "list",data:=.seq (#[]:Array Value)}).push {cls:=.type "dict",data:=.dict #[]}) sc.names).get? b=some o :=
  λb o e=>pushCells_keeps _ _ _ _ (Sg _ (Sg _ e))
 have J0:s₂.heap.get? s₂.heap.objs.size=none:=bV _
 have yV:s₂.heap.get? (s₂.heap.push {cls:=.type "list",data:=.seq (#[]:Array Value)}).objs.size=none:=by rw [Tu];exact bC (Uj _)
 have JS:G.base.objs.size<=(s₂.heap.push {cls:=.type "list",data:=.seq (#[]:Array Value)}).objs.size:=by rw [Tu];exact SE hb
 have NO:s₂.heap.objs.size≠(s₂.heap.push {cls:=.type "list",data:=.seq (#[]:Array Value)}).objs.size:=by rw [Tu];exact Ne.symm (WA _)
 have hcs:∀ x c,(cellsFrom ((s₂.heap.push {cls:=.type "list",data:=.seq (#[]:Array Value)}).objs.size+1) sc.names (aD F.env sc.names [])).lookup x=some c->s₂.heap.get? c=none\/F.env.cells.lookup x=some c:=by
  intro x c e
  have hfree:∀ x,(x,Uh)∈sc.names->∃ c,F.env.cells.lookup x=some c:=λx hx=>S.jw x (C.free x hx)
  have tl:=dJ F.env sc.names [] C.nd hfree
  have je:∀ x c,(aD F.env sc.names []).lookup x=some c->F.env.cells.lookup x=some c:=λx c e=>by
   by_cases hx:(x,Uh)∈sc.names
   ·rw [tl.1 x hx] at e;exact e
   ·rw [tl.2 x hx] at e;cases e
  have lay:=eH sc.names ((s₂.heap.push {cls:=.type "list",data:=.seq (#[]:Array Value)}).push {cls:=.type "dict",data:=.dict #[]}) (aD F.env sc.names []) C.nd (λx c e=>by
   refine ob1_1 (S₂.cells x c (je x c e)) λv hv=>?_
   have:=hv.lt
   rw [Tu,Tu]
   exact Td (Td this))
  rw [Tu] at lay
  by_cases hx:(x,T9)∈sc.names
  ·refine ob1_3 (lay.1 x hx) λc' h1 h2 z! => ?_
   rw [e] at h1;cases h1
   left
   rw [Tu] at h2
   exact bC (Sl (Sl h2))
  ·rw [lay.2.1 x hx] at e
   exact .inr (je x c e)
 generalize hH:s₂.heap.push {cls:=.type "list",data:=.seq (#[]:Array Value)}=h₃ at *
 generalize QZ:h₃.objs.size=cl at *
 generalize hD:s₂.heap.objs.size=D at *
 generalize QX:cellsFrom (cl+1) sc.names (aD F.env sc.names [])=cs at *
 generalize QL:pushCells (h₃.push {cls:=.type "dict",data:=.dict #[]}) sc.names=h₅ at *
 have Nb:∀ b∈wr,F.s0.heap.get? b=none\/b∈F.X:=λb hb=>by
  by_cases hX:b∈F.X
  ·exact .inr hX
  ·left
   cases e:F.s0.heap.get? b with
   | none=>rfl
   | some o =>
    have:=S.stp.keep b o hX (hfp b (wD.sub b hb)).2.2.2.1 e
    rw [hwr b hb] at this;cases this
 have done:∀ s',St G (F.comp sc cl cs s₂ wr) (seen sc ρ) (D::W) [Res.lst D (ys z)] s'->gA G F ρ W Rs s cl D (ys z) s':=λs' S'=>by
  have sk:aI W s₂.heap s'.heap:=S'.stp.bI S₂.inv (wD.pG 0 _ (JT _ λz! z! e=>e))
  refine ob0_2 (S'.res _ (R_ ..)) λhl aA=>?_;refine ob1_2 aA λvs hL rs=>?_
  have O5:=fK.none_of S₂.inv J0 hb
  refine ⟨S₂.cH S'.stp (λa ha=>⟨(hfp a (wD.sub a ha)).1,(hfp a (wD.sub a ha)).2.1,(hfp a (wD.sub a ha)).2.2.1⟩) Nb sk,fK.drops S'.stp λa ha=>.inl (hwr a ha),
   fK.none_of S₂.inv yV JS,JS,S'.loc,O5,NO,?_⟩
  rw [Rep]
  refine ⟨hl,D,vs,rfl,λhm=>?_,hL,Kd rs⟩
  refine ob0_2 (S.low D hm) λz! aA=>?_;refine ob1_1 aA λo e=>?_
  rw [O5] at e;cases e
 have QI:∀ x∈sc.names,x.2 = .local->(F.compEnv sc cl cs).kindOf x.1=some .local:=λx hx hl=>by
  obtain ⟨n,k⟩:=x
  simp only at hl
  subst hl
  show List.lookup n (sc.names.map λx=>if F.cJ x then (x.1,T9) else x)=_
  rw [fy,mem_lookup C.nd hx]
  rfl
 have hv:∀ x∈(sc.names.filter λx=>(x.2 == .local || x.2 == .cell) && x.1 != (".0":Str)).reverse,x.2 = .local->(F.compEnv sc cl cs).kindOf x.1=some .local :=
  λx hx hl=>QI x (WQ.mp (Wa.mp hx)).1 hl
 have hv':∀ x∈(sc.names.filter λx=>(x.2 == .local || x.2 == .cell) && x.1 != (".0":Str)).reverse.drop 1++(sc.names.filter λx=>(x.2 == .local || x.2 == .cell) && x.1 != (".0":Str)).reverse.take 1,
   x.2 = .local->(F.compEnv sc cl cs).kindOf x.1=some .local:=λx hx hl=>by
  rcases Sq.mp hx with h1 | h1
  ·exact hv x (Vo h1) hl
  ·exact hv x (Vp h1) hl
 refine Sj (R7 (UX (Sj (wpAny_run (yS z hz cl cs D it fp wr T s₂ _ _ I (hT _ k5) hfp Og J0 yV hcs (by simp only [QL];exact k5) λs' S'=>?_)))))
 have dn:=done s' S'
 refine ob1_1 dn.EB λm hn=>?_
 have q:=hQ z hz cl D s' dn
 cases use with
 | none=>exact R7 (Sj (wpAny_comp_letGo (cenv:=F.compEnv sc cl cs) C.kind _ s' m hv hn λh' m' z! hs'=>R8 (q h' hs')))
 | some u =>
  refine R7 (U7 (R7 (Sj (aF q λ_ s'' zz=>zz.elim λm₂ zz=>zz.elim λhn₂ Js=>?_))))
  exact R7 (wpAny_comp_letGo (cenv:=F.compEnv sc cl cs) C.kind _ s'' m₂ hv' hn₂ λh' m' z! hs'=>R8 (Js h' hs'))
theorem qS {rest:List Comprehension} {ys:List PV} {xs:List PV}
  (he:e = .ListComp elt (⟨target,iter,ifs,0⟩::rest) sc epos) (hok:cO F.env.scope sc=true) (hi:IV G F ρ W Rs target iter xs) (S:St G F ρ W Rs s)
  (yS:∀ cl cs D it fp wr T s₂ s₃ R,z9 G F.A (D::W) target it fp wr xs T->T 0 s₃.heap->(∀ b∈fp,b∉W/\b≠F.env.locals/\(∀ x c,F.env.cells.lookup x=some c->b≠c)/\b∉G.tabs/\∃ o,s₂.heap.get? b=some o) ->
   St G (F.comp sc cl cs s₂ wr) (seen sc ρ) (D::W) [Res.lst D []] s₃->s₂.heap.get? D=none->s₂.heap.get? cl=none->(∀ x c,cs.lookup x=some c->s₂.heap.get? c=none\/F.env.cells.lookup x=some c) ->
   (∀ b o,s₂.heap.get? b=some o->s₃.heap.get? b=some o) ->
   (∀ s',St G (F.comp sc cl cs s₂ wr) (seen sc ρ) (D::W) [Res.lst D ys] s'->R (.ok .next) s') ->
   codeAny G.M F.A (.compStart e 0 it (.ref D) (F.compEnv sc cl cs)) R s₃)
  (hQ:∀ cl D s₁,gA G F ρ W Rs s cl D ys s₁->match use with
   | none=>∀ h',Uc cl s₁.heap h'->Q (.ref D) {s₁ with heap:=h'}
   | some u=>wpAny G.M F.A (u (.ref D)) (λz! s''=>∃ m,s''.heap.Ns cl m/\∀ h',Uc cl s''.heap h'->Q .none {s'' with heap:=h'}) (λz! z! => False) s₁)
  (hs:∀ x,foldedSetIterable iter F.env x=pure x:=by intro _;rfl) :
  wpAny G.M F.A (comprehension e sc F.env pos (newList []) false (eval iter F.env) use) Q (λz! z! => False) s :=
 nG (α:=Unit) (P:=λz! => True) (xs:=λz! => xs) (ys:=λz! => ys) he hok S (aF (hi s S) λx s₁ zz=>zz.elim λa b=>⟨a,aF b λit s₂ zz=>zz.elim λc d=>⟨(),trivial,c,d⟩⟩) (λz! z! => yS) (λz! z! => by cases use <;> exact hQ) hs
theorem v_ (elt target iter:SQ) (ifs:List SQ) (scope:Scope) (pos:Pos) (it acc:Value) (env:Env) :
  compTurn (.ListComp elt [⟨target,iter,ifs,0⟩] scope pos) 0 it acc env=(do
   standAt iter.pos
   match<-pyNext it with
   | none=>pure (.done .next)
   | some v =>
    letOwnedTupleGo target it v
    assign target env v
    let ok<-nT ifs env
    if ok then (do let _<-call (.builtin "list.append") [acc,<- eval elt env])
    again (.compLoop (.ListComp elt [⟨target,iter,ifs,0⟩] scope pos) 0 it acc env)):=by rfl
theorem jR {a:Addr} {m} (hn:h.Ns a m):∃ o,h.get? a=some o/\(∀ vs,o.data ≠ .fields vs)/\∀ xs n,o.data ≠ .seq xs n:=by
 refine ob3_3 hn λo es ep e d z! => ?_
 exact ⟨o,e,by rw [d];simp,by rw [d];simp⟩
theorem gA.xV {cl:Addr} {ys:List PV} (dn:gA G F ρ W Rs s cl D ys s') (hs:Uc cl s'.heap h') :
  aG G [] s {s' with heap:=h'}/\Rep W h' (.lst ys) (.ref D):=by
 refine ob1_1 dn.EB λm hn=>?_
 refine ob1_3 (jR hn) λo e d1 d2=>?_
 have x:aG G [cl] s' {s' with heap:=h'}:=.of_same G dn.zD e (.inr d1) hs (t:=s'.toks)
 refine ⟨dn.stp.drops x λa ha=>.inl ?_,dn.rep.keep (x.bI dn.st.inv λa ha=>.inr λo' e' xs n hd=>?_) λz! z! q=>q⟩
 ·have:a=cl:=by simpa using ha
  subst this;exact dn.uH
 ·have:a=cl:=by simpa using ha
  subst this
  rw [e] at e';cases e'
  exact d2 _ _ hd
theorem lR {L:List α}
  (dw:α->List (Str×PV)) (c:α->Bool) (f:α->PV) (g9:∀ a y q,(seen sc ρ).lookup y=some q->(dw a).lookup y=some q)
  (mE:∀ a∈L,∀ cl cs s0 X W' aq,AV G (F.comp sc cl cs s0 X) (seen sc ρ) W' aq target (enc a) (dw a))
  (ht:∀ a∈L,∀ cl cs s0 X W' aq,uT G (F.comp sc cl cs s0 X) (dw a) W' aq ifs (c a))
  (hel:∀ a∈L,c a=true->∀ cl cs s0 X W' aq,EV G (F.comp sc cl cs s0 X) (dw a) W' aq elt (f a)) (hl:L.length<=lim)
  (cl:Addr) (cs:List (Str×Addr)) (D:Addr) (it:Value) (fp wr:List Addr) (T:Nat->Heap->Prop) (s₂ s₃:Shared) (R:Result->Shared->Prop)
  (I:z9 G F.A (D::W) target it fp wr (L.map enc) T) (hT:T 0 s₃.heap) (hfp:∀ b∈fp,b∉W/\b≠F.env.locals/\(∀ x c,F.env.cells.lookup x=some c->b≠c)/\b∉G.tabs/\∃ o,s₂.heap.get? b=some o)
  (S:St G (F.comp sc cl cs s₂ wr) (seen sc ρ) (D::W) [Res.lst D []] s₃) (hD:s₂.heap.get? D=none) (hcl:s₂.heap.get? cl=none)
  (hcs:∀ x c,cs.lookup x=some c->s₂.heap.get? c=none\/F.env.cells.lookup x=some c) (hk:∀ b o,s₂.heap.get? b=some o->s₃.heap.get? b=some o)
  (hR:∀ s',St G (F.comp sc cl cs s₂ wr) (seen sc ρ) (D::W) [Res.lst D ((L.filter c).map f)] s'->R (.ok .next) s') :
  codeAny G.M F.A (.compStart (.ListComp elt [⟨target,iter,ifs,0⟩] sc epos) 0 it (.ref D) (F.compEnv sc cl cs)) R s₃:=by
 have hne:∀ b∈fp,∀ a,s₂.heap.get? a=none->b≠a:=λb hb a ha h=>by
  subst h
  refine ob1_1 ((hfp b hb).2.2.2.2) λo e=>?_
  rw [ha] at e;cases e
 have loop:codeAny G.M F.A (.compLoop (.ListComp elt [⟨target,iter,ifs,0⟩] sc epos) 0 it (.ref D) (F.compEnv sc cl cs)) R s₃:=by
  refine v9 (F:=F.comp sc cl cs s₂ wr) (ρ:=seen sc ρ) (v_ elt target iter ifs sc epos it (.ref D) (F.compEnv sc cl cs)) rfl rfl I
   (λb hb=>⟨λhm=>?_,hne b hb cl hcl,λx c hc=>?_,(hfp b hb).2.2.2.1⟩) (λb hb=>.inr hb) dw c (λa=>[f a]) g9
   (λa ha ys s0 X=>mE a ha cl cs s0 X _ _) (λa ha ys s0 X=>ht a ha cl cs s0 X _ _) (λa ha hc ys s0 X s hlen S=>?_) S hT ?_ (λs' S'=>hR s' ?_)
  ·rcases Sh.mp hm with h | h
   ·exact hne b hb D hD h
   ·exact (hfp b hb).1 h
  ·rcases hcs x c hc with h | h
   ·exact hne b hb c h
   ·exact (hfp b hb).2.2.1 x c h
  ·refine R7 (aF (hel a ha hc cl cs s0 X _ _ s S) λv s₁ zz=>zz.elim λx r=>R7 (aF ((S.step x).append r (by simpa using hlen)) λ_ s₂ zz=>zz.elim λz! zz=>zz.elim λS₂ z! => R8 S₂))
  ·simp only [List.length_nil,UP,List.flatMap_singleton',List.length_flatMap,List.map_const',List.sum_replicate_nat,List.length_singleton,Nat.mul_one,SV,Vt]
   exact R9 (by simpa using Wi c L) hl
  ·have e:∀ l:List α,l.flatMap (λa=>[f a])=l.map f:=λl=>by induction l <;> simp_all
   rw [e,VS] at S'
   exact S'
 exact codeAny_compStart_list loop (aF (I.self 0 s₃ hT) λv s' zz=>zz.elim λh1 h2=>by subst h1 h2;exact loop)
theorem EV.comp {α:Type} {L:List α} {enc:α->PV} {elt target iter:SQ} {ifs:List SQ} {sc:Scope} {epos:Pos}
  (dw:α->List (Str×PV)) (c:α->Bool) (f:α->PV) (hok:cO F.env.scope sc=true) (hi:IV G F ρ W Rs target iter (L.map enc))
  (g9:∀ a y q,(seen sc ρ).lookup y=some q->(dw a).lookup y=some q)
  (mE:∀ a∈L,∀ cl cs s0 X W' aq,AV G (F.comp sc cl cs s0 X) (seen sc ρ) W' aq target (enc a) (dw a))
  (ht:∀ a∈L,∀ cl cs s0 X W' aq,uT G (F.comp sc cl cs s0 X) (dw a) W' aq ifs (c a))
  (hel:∀ a∈L,c a=true->∀ cl cs s0 X W' aq,EV G (F.comp sc cl cs s0 X) (dw a) W' aq elt (f a)) (hl:L.length<=lim)
  (hs:∀ x,foldedSetIterable iter F.env x=pure x:=by intro _;rfl) :
  EV G F ρ W Rs (.ListComp elt [⟨target,iter,ifs,0⟩] sc epos) (.lst ((L.filter c).map f)):=λs S=>by
 show wpAny _ _ (comprehension (.ListComp elt [⟨target,iter,ifs,0⟩] sc epos) sc F.env _ (newList []) false (eval iter F.env) none) _ _ _
 refine qS rfl hok hi S (λcl cs D it fp wr T s₂ s₃ R I hT hfp S' hD hcl hcs hk hR=>lR dw c f g9 mE ht hel hl cl cs D it fp wr T s₂ s₃ R I hT hfp S' hD hcl hcs hk hR) (λcl D s₁ dn=>?_) hs
 exact λh' hs'=>dn.xV hs'
theorem XS.uN {L:List α} {px:Pos}
  (dw:α->List (Str×PV)) (c:α->Bool) (f:α->PV) (hok:cO F.env.scope sc=true) (hi:IV G F ρ W Rs target iter (L.map enc))
  (g9:∀ a y q,(seen sc ρ).lookup y=some q->(dw a).lookup y=some q)
  (mE:∀ a∈L,∀ cl cs s0 X W' aq,AV G (F.comp sc cl cs s0 X) (seen sc ρ) W' aq target (enc a) (dw a))
  (ht:∀ a∈L,∀ cl cs s0 X W' aq,uT G (F.comp sc cl cs s0 X) (dw a) W' aq ifs (c a))
  (hel:∀ a∈L,c a=true->∀ cl cs s0 X W' aq,EV G (F.comp sc cl cs s0 X) (dw a) W' aq elt (f a)) (hl:L.length<=lim)
  (hx:F.env.kindOf x=some .local)
  (h:XS G F ((x,.lst ((L.filter c).map f))::ρ) W Rs rest K)
  (hsw:swapsWith (.ListComp elt [⟨target,iter,ifs,0⟩] sc epos) (some (.Name x px)) pos.line F.env=pure true:=by rfl)
  (hs:∀ x,foldedSetIterable iter F.env x=pure x:=by intro _;rfl) :
  XS G F ρ W Rs (.Assign [.Name x px] (.ListComp elt [⟨target,iter,ifs,0⟩] sc epos) pos::rest) K:=λs S=>by
 refine Tr ?_
 rw [exec_Assign_Name_used (env:=F.env) x px _ pos hsw]
 refine R7 (Tc (R7 ?_))
 show wpAny _ _ (do let _<-comprehension (.ListComp elt [⟨target,iter,ifs,0⟩] sc epos) sc F.env _ (newList []) false (eval iter F.env) (some (Ur (.Name x px) F.env))) _ _ _
 refine R7 (aF (Q:=λz! s'=>St G F ((x,.lst ((L.filter c).map f))::ρ) W Rs s') (qS rfl hok hi S
  (λcl cs D it fp wr T s₂ s₃ R I hT hfp S' hD hcl hcs hk hR=>lR dw c f g9 mE ht hel hl cl cs D it fp wr T s₂ s₃ R I hT hfp S' hD hcl hcs hk hR) (λcl D s₁ dn=>?_) hs) λz! s' S'=>R8 (R8 (h s' S')))
 refine ob1_1 dn.EB λm hn=>?_
 have E:=dn.st.enter (aq:=Rs) rfl
 refine aF (AV.name (F:=F.at Rs s₁) (.inl hx) s₁ _ E dn.rep) λ_ s₂ zz=>zz.elim λS₂ z! => ?_
 have hcl:cl∉F.muts Rs:=j9 dn.st rfl (S.fresh dn.uH)
 refine ⟨m,S₂.stp.ns dn.st.inv hcl hn,λh' hs'=>?_⟩
 have aT:=dn.st.leave S₂ rfl rfl
 refine ob1_3 (jR (S₂.stp.ns dn.st.inv hcl hn)) λo e d1 d2=>?_
 have y:aG G [cl] s₂ {s₂ with heap:=h'}:=.of_same G dn.zD e (.inr d1) hs' (t:=s₂.toks)
 have fr:=S.fresh dn.uH
 refine aT.cH y (λa ha=>?_) (λa ha=>?_) (y.bI aT.inv λa ha=>.inr λo' e' xs n hd=>?_)
 ·have:a=cl:=by simpa using ha
  subst this;exact fr
 ·have:a=cl:=by simpa using ha
  subst this
  by_cases hX:a∈F.X
  ·exact .inr hX
  ·left
   cases e0:F.s0.heap.get? a with
   | none=>rfl
   | some o0 =>
    have:=S.stp.keep a o0 hX (bk dn.zD) e0
    rw [dn.uH] at this;cases this
 ·have:a=cl:=by simpa using ha
  subst this
  rw [e] at e';cases e'
  exact d2 _ _ hd
theorem yE {l:List α} (h:l.length=2):∃ a b,l=[a,b]:=by
 refine ob2_2 (eG h) λa r e h1=>?_
 refine ob2_2 (eG h1) λb t e2 h2=>?_
 exact ⟨a,b,by rw [e,e2,len0 h2]⟩
theorem DB {l:List α} (h:l.length=3):∃ a b c,l=[a,b,c]:=by
 refine ob2_2 (eG h) λa r e h1=>?_
 refine ob2_1 (yE h1) λb c e2=>?_
 exact ⟨a,b,c,by rw [e,e2]⟩
theorem I5 {l:List α} (h:l.length=5):∃ a b c d e,l=[a,b,c,d,e]:=by
 refine ob2_2 (eG h) λa r e h1=>?_
 refine ob2_2 (eG h1) λb t e1 h2=>?_
 refine ob3_1 (DB h2) λc d f e2=>?_
 exact ⟨a,b,c,d,f,by rw [e,e1,e2]⟩
theorem M6 {l:List α} (h:l.length=6):∃ a b c d e f,l=[a,b,c,d,e,f]:=by
 refine ob2_2 (eG h) λa r e h1=>?_
 refine ob5_1 (I5 h1) λb c d f g e2=>?_
 exact ⟨a,b,c,d,f,g,by rw [e,e2]⟩
structure bQ (G:Glob) (f:Addr) (fd:FuncData) (body:List Stmt):Prop where
 at_:∃ o,G.base.get? f=some o/\o.data = .func fd
 nt:f∉G.tabs
 body:fd.body = .stmts body
 code:∀ h,G.inv h->h.CodeRec fd.code fd.qualname
 glob:fd.globals=mainGlobals
 blt:fd.builtins=builtinsNs
 kind:fd.scope.kind = .function
 co:fd.scope.isCoroutine=false
 gen:fd.scope.isGenerator=false
 nd:(fd.scope.names.map (·.1)).Nodup
 free:∀ x,(x,Uh)∈fd.scope.names->∃ c,fd.closure.lookup x=some c
 Kn:∀ x c,fd.closure.lookup x=some c->c<G.base.objs.size/\∀ h,G.inv h->∃ v,h.IsCell c v
noncomputable def dF (fd:FuncData) (f L:Addr):Env :=
 {scope:=fd.scope,locals:=L,globals:=fd.globals,cells:=cellsFrom (L+1) fd.scope.names fd.closure,qual:=fd.qualname++".<locals>.",func:=some f,code:=fd.code,frame:=some L,builtins:=fd.builtins}
noncomputable def eO (fd:FuncData) (f:Addr) (A:Around) (s0:Shared) (L:Addr) (n:Nat):Fm :=
 {A:=A.deeper (dF fd f L),env:=dF fd f L,s0:=s0,X:=[],n:=n,cv:=(fd.scope.names.filter λx=>x.2 == .cell).map (·.1)}
theorem cz.in1 {A:Around} {n:Nat} (r:cz A (n+1)):cz A.in1 n:=⟨r.1,by have:=r.2.1;simp;exact UQ this,by have:=r.2.2;simp;exact Iw this⟩
theorem cz.deeper {A:Around} {n:Nat} {env:Env} (r:cz A (n+1)):cz (A.deeper env) n:=⟨r.1,by have:=r.2.1;simp only [Around.deeper];exact HY this,by have:=r.2.2;simp;exact MI this⟩
theorem St.Iz (S:St G F ρ W Rs s) (r:cz A F.n):St G {F with A:=A} ρ W Rs s:={S with room:=r}
theorem uL (F:Fm):∀ (names:List Str) (ps:List PV) (vs:List Value) (ρ:List (Str×PV)) (s:Shared),St G F ρ W Rs s->ah W s.heap ps vs->names.length=ps.length ->
  (∀ x∈names,F.env.kindOf x=some .local\/(F.env.kindOf x=some .cell/\x∈F.cv)) ->
  ∀ (f:Str×Value->PUnit->Sem (ForInStep PUnit)),(∀ n v u,f (n,v) u=(do storeName F.env n v;pure (.yield ⟨⟩))) ->
  wpAny G.M F.A (forIn (names.zip vs) ⟨⟩ f) (λz! s'=>St G F ((names.zip ps).reverse++ρ) W Rs s') (λz! z! => False) s
 | [],ps,vs,ρ,s,S,r,hl,hk,f,hf=>by
  have:ps=[]:=by cases ps <;> simp_all
  subst this
  exact R8 (by simpa using S)
 | x::names,[],vs,ρ,s,S,r,hl,hk,f,hf=>by simp at hl
 | x::names,p::ps,vs,ρ,s,S,r,hl,hk,f,hf=>by
  rw [ah] at r
  refine ob2_3 r λv vs' az r1 r2=>?_;obtain rfl:=az
  rw [List.zip_cons_cons,UE,hf]
  refine R7 (R7 (aF (S.store r1 (hk x (R_ ..))) λ_ s₁ zz=>zz.elim λS₁ k₁=>R8 ?_))
  refine aF (uL F names ps vs' _ s₁ S₁ (r2.keep k₁ λz! z! q=>q) (by simpa using hl) (λy hy=>hk y (Sb _ hy)) f hf) λz! s₂ S₂=>?_
  simpa [List.zip_cons_cons] using S₂
noncomputable def bu (fd:FuncData) (f:Addr) (A:Around) (s0:Shared) (L:Addr) (n:Nat) (X:List Addr):Fm :=
 {A:=A.deeper (dF fd f L),env:=dF fd f L,s0:=s0,X:=X,n:=n,cv:=(fd.scope.names.filter λx=>x.2 == .cell).map (·.1)}
noncomputable def jz (G:Glob) (F:Fm) (c:Code) (ρ:List (Str×PV)) (W:List Addr) (Rs:List Res) (ss:List Stmt) (K:Flow->Shared->Prop):Prop :=
 ∀ s,St G F ρ W Rs s->Wr G.M F.A c (execs ss F.env) K (λz! z! => False) s
theorem jz.of {c:Code} {ss K} (h:XS G F ρ W Rs ss K):jz G F c ρ W Rs ss K:=λs S=>VN (h s S)
theorem gF (ok:bQ G f fd body) (hA:cz A (n+1)) (iv:G.inv s.heap)
  (low:∀ a∈W,G.base.objs.size<=a/\∃ o,s.heap.get? a=some o) {args:Args}
  (hb:BindsTo s fd args (names.zip vs)) (hr:ah W s.heap ps vs) (hlen:names.length=ps.length)
  (Rb:∀ r∈Rs,r.holds W s.heap) (NI:∀ r∈Rs,∀ a∈r.addrs,a∈W) (Rc:(Rs.flatMap (·.addrs)).Nodup)
  (hnm:∀ x∈names,fd.scope.names.lookup x=some .local\/fd.scope.names.lookup x=some .cell)
  (h:jz G (bu fd f A s s.heap.objs.size n (Rs.flatMap (·.addrs))) (.func body (dF fd f s.heap.objs.size)) (names.zip ps).reverse W Rs body (λfl s'=>Q (match fl with | .ret v=>v | _=>.none) s')) :
  codeAny G.M A (.call (.ref f) args) (λr s'=>match r with | .ok (.ret v)=>Q v s' | _=>False) s:=by
 refine ob1_2 ok.at_ λo ho hd=>?_
 have hbz:=aS iv
 refine codeAny_call_function (by have:=hA.2.1;show A.depth<1000;exact MG this) (G.vP _ iv f o ho ok.nt) hd ok.co ok.gen ok.body (ok.code _ iv) (hb _ _ _ _ ?_)
 unfold newFunctionEnv
 refine R7 (wpAny_alloc (o:={cls:=.type "frame",data:=.dict #[]}) (R7 ?_))
 refine wpAny_layCells _ (λname kind cells=>rfl) fd.scope.names fd.closure _ _ ?_
 have z1:(s.heap.push {cls:=.type "frame",data:=.dict #[]}).objs.size=s.heap.objs.size+1:=Tu ..
 generalize hh:pushCells (s.heap.push {cls:=.type "frame",data:=.dict #[]}) fd.scope.names=h₁
 have k1:∀ b o,(s.heap.push {cls:=.type "frame",data:=.dict #[]}).get? b=some o->h₁.get? b=some o:=λb o e=>by rw [<- hh];exact pushCells_keeps _ _ _ _ e
 have k:∀ b o,s.heap.get? b=some o->h₁.get? b=some o:=λb o e=>k1 _ _ (Sg _ e)
 have lay:=eH fd.scope.names (s.heap.push {cls:=.type "frame",data:=.dict #[]}) fd.closure ok.nd (λx c e=>by
  rw [z1];exact Td (Sd (ok.Kn x c e).1 hbz))
 rw [z1,hh] at lay
 have lO:∀ x c,(cellsFrom (s.heap.objs.size+1) fd.scope.names fd.closure).lookup x=some c ->
   (s.heap.objs.size+1<=c/\h₁.IsCell c none/\(x,T9)∈fd.scope.names)\/fd.closure.lookup x=some c:=λx c e=>by
  by_cases hx:(x,T9)∈fd.scope.names
  ·refine ob1_3 (lay.1 x hx) λc' h1 h2 h3=>?_
   rw [e] at h1;cases h1
   exact .inl ⟨h2,h3,hx⟩
  ·rw [lay.2.1 x hx] at e
   exact .inr e
 have O2:∀ c,s.heap.get? c=none->c∉W:=λc hc hm=>by
  refine ob0_2 (low c hm) λz! aA=>?_;refine ob1_1 aA λo e=>?_
  rw [hc] at e;cases e
 have S₁:St G {bu fd f A s s.heap.objs.size n (Rs.flatMap (·.addrs)) with A:=A.in1} [] W Rs {s with heap:=h₁} :=
  {inv:=G.yH _ _ iv k
   stp:=(aG.of_keeps G k (t:=s.toks)).up
   room:=hA.in1
   kind:=ok.kind
   glob:=ok.glob
   blt:=ok.blt
   loc:=⟨_,(Heap.Ns.new s.heap (.type "frame")).keeps k1⟩
   cells:=λx c e=>by
    rcases lO x c e with ⟨_,h,_⟩ | h
    ·exact ⟨_,h⟩
    ·exact (ok.Kn x c h).2 _ (G.yH _ _ iv k)
   jw:=λx hx=>by
    show ∃ c,(cellsFrom (s.heap.objs.size+1) fd.scope.names fd.closure).lookup x=some c
    rcases hx with hx | hx
    ·refine ob1_2 (lay.1 x (lookup_mem hx)) λc h1 z! => ?_
     exact ⟨c,h1⟩
    ·have hl:fd.scope.names.lookup x=some .free:=hx
     have hnc:(x,T9)∉fd.scope.names:=λhm=>by rw [mem_lookup ok.nd hm] at hl;cases hl
     refine ob1_1 (ok.free x (lookup_mem hl)) λc hc=>?_
     exact ⟨c,by rw [lay.2.1 x hnc,hc]⟩
   own:=λx hx=>by
    refine ob1_2 (SN.mp hx) λbM hy az=>?_;obtain ⟨y,kk⟩:=bM;obtain rfl:=az
    rw [WQ] at hy
    have hk:kk = .cell:=U0 hy.2
    subst hk
    refine ob1_3 (lay.1 y hy.1) λc h1 h2 h3=>?_
    exact ⟨c,h1,.inl (bC (Sl h2)),R9 hbz (Sl h2),λz hz=>lay.2.2 z y c hz h1 h2⟩
   vars:=λx p e=>by cases e
   gq:=⟨.inl (bV _),hbz⟩
   lW:=O2 _ (bV _)
   cW:=λx c e hm=>by
    rcases lO x c e with ⟨h,_⟩ | h
    ·exact O2 c (bC (Sl h)) hm
    ·exact SW _ (Sd (ok.Kn x c h).1 (low c hm).1)
   low:=λa ha=>(low a ha).imp_right λh_=>h_.imp λo e=>k _ _ e
   new:=λr hr a ha=>⟨NI r hr a ha,.inr (Sw.mpr ⟨r,hr,ha⟩)⟩
   res:=λr hr=>r.keep W W _ _ (Rb r hr) (λa z! o e=>k _ _ e) ⟨λ_ _ _ zz=>zz.elim λn e=>⟨n,k _ _ e⟩,λ_ _ _ zz=>zz.elim λn e=>⟨n,k _ _ e⟩⟩ λz! z! q=>q
   apart:=Rc}
 rw [show ({s with heap:=s.heap.push {cls:=.type "frame",data:=.dict #[]}}:Shared).heap.objs.size=s.heap.objs.size+1 from z1]
 refine R7 (aF (uL (G:=G) {bu fd f A s s.heap.objs.size n (Rs.flatMap (·.addrs)) with A:=A.in1} names ps vs [] {s with heap:=h₁} S₁ (hr.keep ⟨λ_ _ _ zz=>zz.elim λn e=>⟨n,k _ _ e⟩,λ_ _ _ zz=>zz.elim λn e=>⟨n,k _ _ e⟩⟩ λz! z! q=>q) hlen (λx hx=>?_) _ (λn v u=>rfl)) λz! s₂ S₂=>?_)
 ·rcases hnm x hx with hl | hl
  ·exact .inl hl
  ·exact .inr ⟨hl,SN.mpr ⟨(x,.cell),WQ.mpr ⟨lookup_mem hl,rfl⟩,rfl⟩⟩
 ·refine R8 ⟨G.A0 _ S₂.inv,ks_codeAny_funcAt ?_⟩
  have aT:St G (bu fd f A s s.heap.objs.size n (Rs.flatMap (·.addrs))) (names.zip ps).reverse W Rs s₂:=by
   have bZ:St G {bu fd f A s s.heap.objs.size n (Rs.flatMap (·.addrs)) with A:=A.in1} (names.zip ps).reverse W Rs s₂:=by simpa using S₂
   exact bZ.Iz (A:=A.deeper (dF fd f s.heap.objs.size)) hA.deeper
  exact ks_wpAt_mono (h s₂ aT) (λfl s₃ q=>q) λz! z! z=>z.elim
theorem Ba (ok:bQ G f fd body) (hA:cz A (n+1)) (iv:G.inv s.heap)
  (low:∀ a∈W,G.base.objs.size<=a/\∃ o,s.heap.get? a=some o) {args:Args}
  (hb:BindsTo s fd args (names.zip vs)) (hr:ah W s.heap ps vs) (hlen:names.length=ps.length)
  (hnm:∀ x∈names,fd.scope.names.lookup x=some .local\/fd.scope.names.lookup x=some .cell)
  (h:XS G (eO fd f A s s.heap.objs.size n) (names.zip ps).reverse W [] body (λfl s'=>Q (match fl with | .ret v=>v | _=>.none) s')) :
  codeAny G.M A (.call (.ref f) args) (λr s'=>match r with | .ok (.ret v)=>Q v s' | _=>False) s :=
 gF (Rs:=[]) ok hA iv low hb hr hlen (λz! h=>absurd h S9) (λz! h=>absurd h S9) .nil hnm (.of h)
noncomputable def FC (G:Glob) (f:Addr) (n:Nat) (ps:List PV) (q:PV):Prop :=
 ∀ A W s vs,cz A n->G.inv s.heap->(∀ a∈W,G.base.objs.size<=a/\∃ o,s.heap.get? a=some o)->ah W s.heap ps vs ->
  wpAny G.M A (call (.ref f) vs) (λv s'=>aG G [] s s'/\Rep W s'.heap q v) (λz! z! => False) s
theorem FC.of (ok:bQ G f fd body)
  (hb:∀ s W vs,G.inv s.heap->ah W s.heap ps vs->∃ vs',BindsTo s fd ⟨vs,[]⟩ (names.zip vs')/\ah W s.heap ps' vs') (hlen:names.length=ps'.length)
  (hnm:∀ x∈names,fd.scope.names.lookup x=some .local\/fd.scope.names.lookup x=some .cell)
  (h:∀ A W s L,cz A (n+1)->XS G (eO fd f A s L n) (names.zip ps').reverse W [] body (λfl s'=>aG G [] s s'/\Rep W s'.heap q (match fl with | .ret v=>v | _=>.none))) :
  FC G f (n+1) ps q:=λA W s vs hA iv low rs=>by
 refine ob1_2 (hb s W vs iv rs) λvs' hb' rs'=>?_
 refine UA (V2 (Ba (Q:=λv s'=>aG G [] s s'/\Rep W s'.heap q v) ok hA iv low hb' rs' hlen hnm (h A W s s.heap.objs.size hA)) λr s' hr=>?_)
 match r,hr with
 | .ok (.ret v),hr=>exact hr
 | .ok .next,hr=>exact hr.elim
 | .ok .brk,hr=>exact hr.elim
 | .ok .cont,hr=>exact hr.elim
 | .error e,hr=>exact hr.elim
theorem EV.qW {p:Pos}
  (hf:EV G F ρ W Rs (.Name x p) (.raw (.ref f))) (ok:bQ G f fd body) (hc:FC G f n ps q) (hn:n<=F.n) (ha:aV G F ρ W Rs (e::es) ps)
  (hst:backTo pos (starEach (e::es) F.env)=(e::es).map (λe=>(false,eval e F.env)):=by rfl) :
  EV G F ρ W Rs (.Call (.Name x p) (e::es) [] pos) q:=λs S=>by
 rw [Vz]
 refine R7 (aF (hf s S) λv s₁ zz=>zz.elim λy r=>?_)
 rw [Rep] at r
 subst r
 rw [hst]
 refine ob1_2 ok.at_ λo ho hd=>?_
 refine XD (o:=o) (fd:=fd) (Ti (aF (ha s₁ (S.step y)) λvs s₂ zz=>zz.elim λz rs=>?_))
 have S₂:=(S.step y).step z
 exact ⟨⟨G.vP _ S₂.inv f o ho ok.nt,hd⟩,aF (hc F.A W s₂ vs (S₂.room.mono hn) S₂.inv S₂.low rs) λv s₃ zz=>zz.elim λu r=>⟨y.trans (z.trans u),r⟩⟩
noncomputable abbrev Gv (G:Glob) (A:Around) (W:List Addr) (t:Sem Value) (q:PV) (s:Shared):Prop :=
 wpAny G.M A t (λv s'=>aG G [] s s'/\Rep W s'.heap q v) (λz! z! => False) s
theorem EV.gT {p:Pos}
  (hf:EV G F ρ W Rs (.Name x p) (.raw (.builtin id))) (ha:aV G F ρ W Rs (e::es) ps)
  (h:∀ s vs,St G F ρ W Rs s->ah W s.heap ps vs->Gv G F.A W (call (.builtin id) vs) q s)
  (hst:backTo pos (starEach (e::es) F.env)=(e::es).map (λe=>(false,eval e F.env)):=by rfl) :
  EV G F ρ W Rs (.Call (.Name x p) (e::es) [] pos) q:=λs S =>
 w4 hf ha S (hst:=hst) λs₁ vs y S₁ rs=>aF (h s₁ vs S₁ rs) λv s₂ zz=>zz.elim λz r=>⟨y.trans z,r⟩
theorem EV.CP {p:Pos}
  (hf:EV G F ρ W Rs (.Name x p) (.raw (.type id))) (ha:aV G F ρ W Rs (e::es) ps)
  (h:∀ s vs,St G F ρ W Rs s->ah W s.heap ps vs->Gv G F.A W (call (.type id) vs) q s)
  (hst:backTo pos (starEach (e::es) F.env)=(e::es).map (λe=>(false,eval e F.env)):=by rfl) :
  EV G F ρ W Rs (.Call (.Name x p) (e::es) [] pos) q:=λs S =>
 fV hf ha S (hst:=hst) λs₁ vs y S₁ rs=>aF (h s₁ vs S₁ rs) λv s₂ zz=>zz.elim λz r=>⟨y.trans z,r⟩
theorem Ef {xs:List PV}:∀ s vs,St G F ρ W Rs s->ah W s.heap [.lst xs] vs->Gv G F.A W (call (.builtin "len") vs) (.int xs.length) s:=λs vs S rs=>by
 refine ob1_2 rs.one λv aB r=>?_;obtain rfl:=aB
 refine ob0_2 r.dR λhl aA=>?_;refine ob2_4 aA λa us bq ha aY ru=>?_;obtain rfl:=bq;refine ob1_1 aY λn e=>?_
 have hz:=ru.length
 refine PySem.Calls.call_len_list (items:=us.toArray) ⟨_,e,rfl,n,rfl⟩ ?_ ?_
 ·rw [TJ,hz]
  exact oH hl
 ·simp only [TJ,hz]
  exact ⟨.of_toks G,Rep.int⟩
theorem Ed:∀ s vs,St G F ρ W Rs s->ah W s.heap [.str x] vs->Gv G F.A W (call (.builtin "len") vs) (.int x.length) s:=λs vs S rs=>by
 refine ob1_2 rs.one λv aB r=>?_;obtain rfl:=aB
 refine ob0_2 r.isStr λhl aA=>?_;refine ob1_1 aA λt bh=>?_;obtain rfl:=bh
 exact PySem.P.len_str (qC hl) ⟨.of_toks G,Rep.int⟩
theorem EV.sM {p:Pos} {xs:List PV} (hf:EV G F ρ W Rs (.Name x p) (.raw (.builtin "len"))) (h:EV G F ρ W Rs e (.lst xs))
  (hst:backTo pos (starEach [e] F.env)=[e].map (λe=>(false,eval e F.env)):=by rfl):EV G F ρ W Rs (.Call (.Name x p) [e] [] pos) (.int xs.length) :=
 EV.gT hf (.cons h .nil) Ef hst
theorem EV.I4 {p:Pos} (hf:EV G F ρ W Rs (.Name x p) (.raw (.builtin "len"))) (h:EV G F ρ W Rs e (.str y))
  (hst:backTo pos (starEach [e] F.env)=[e].map (λe=>(false,eval e F.env)):=by rfl):EV G F ρ W Rs (.Call (.Name x p) [e] [] pos) (.int y.length) :=
 EV.gT hf (.cons h .nil) Ed hst
theorem ah.ints {h:Heap}:∀ {xs:List Int} {vs},ah W h (xs.map .int) vs->∃ ys:List (Int×Tok),vs=ys.map (λp=>XE p.1 p.2)/\ys.map (·.1)=xs
 | [],vs,r=>by rw [Vt,ah] at r;subst r;exact ⟨[],rfl,rfl⟩
 | x::xs,vs,r=>by
  rw [SV,ah] at r
  refine ob2_3 r λv vs' az r1 r2=>?_;obtain rfl:=az
  refine ob1_1 r1.isInt λt aB=>?_;obtain rfl:=aB
  refine ob1_2 (ah.ints r2) λys aB az=>?_;obtain rfl:=aB;obtain rfl:=az
  exact ⟨(x,t)::ys,rfl,rfl⟩
theorem gh (ys:List (Int×Tok)):∀ k,k<=ys.length->preSum (numAt ys.toArray) k=((ys.map (·.1)).take k).sum
 | 0,_=>by simp [preSum]
 | k+1,hk=>by
  rw [preSum,gh ys k (by exact Sl hk)]
  have hlt:k<ys.length:=by exact Tn (Sp hk)
  rw [Tz]
  simp [numAt,hlt,List.sum_append]
theorem J3 {xs:List Int} (hf:∀ k,k<=xs.length->InLong (xs.take k).sum) (hi:∀ i∈xs,InLong i):∀ s vs,St G F ρ W Rs s->ah W s.heap [.lst (xs.map .int)] vs->Gv G F.A W (call (.builtin "sum") vs) (.int xs.sum) s:=λs vs S rs=>by
 refine ob1_2 rs.one λv aB r=>?_;obtain rfl:=aB
 refine ob0_2 r.dR λhl aA=>?_;refine ob2_4 aA λa us bq ha aY ru=>?_;obtain rfl:=bq;refine ob1_1 aY λn e=>?_
 refine ob1_2 ru.ints λys aB az=>?_;obtain rfl:=aB;obtain rfl:=az
 refine sum_intList (xs:=ys.toArray) S.room.1 ⟨_,e,rfl,n,by simp [intItems]⟩ (λj hj=>?_) λh' tk t' hk=>?_
 ·have hj':j<ys.length:=by simpa using hj
  refine ⟨hi _ ?_,?_⟩
  ·simp only [numAt]
   rw [show ys.toArray[j]? = some ys[j] by simp [hj']]
   exact SN.mpr ⟨ys[j],UH _,rfl⟩
  ·rw [gh ys (j+1) (by exact S5 hj')]
   exact hf _ (by simp;exact S5 hj')
 ·refine ⟨.of_keeps G hk,?_⟩
  rw [gh ys _ (by simp)]
  simp only [TJ]
  rw [UB (by simp)]
  exact Rep.int
theorem argBest_lt (bt:Nat->Nat->Bool):∀ k,argBest bt k<=k
 | 0=>Si _
 | k+1=>by
  rw [argBest]
  split
  ·exact Si _
  ·exact SE (argBest_lt bt k)
noncomputable def AS (xs:List Int):Int:=xs.tail.foldl max (xs.headD 0)
noncomputable def yq (xs:List Int):Int:=xs.tail.foldl min (xs.headD 0)
theorem sW {op:Int->Int->Int} (x:Int) (xs:List Int) (k:Nat) (hk:k<xs.length):(xs.take (k+1)).foldl op x=op ((xs.take k).foldl op x) xs[k]:=by
 rw [show xs.take (k+1)=xs.take k++[xs[k]] from (List.take_append_getElem hk).symm,U9];rfl
theorem fG {bt:Int->Int->Bool} {pick:Int->Int->Int} (hp:∀ a b,pick a b=if bt b a=true then b else a) (y:Int×Tok) (ys:List (Int×Tok)):∀ k,k<=ys.length ->
  numAt (y::ys).toArray (argBest (λi j=>bt (numAt (y::ys).toArray i) (numAt (y::ys).toArray j)) k)=((ys.map (·.1)).take k).foldl pick y.1
 | 0,z! => rfl
 | k+1,hk=>by
  have hn:numAt (y::ys).toArray (k+1)=ys[k].1:=by
   unfold numAt
   rw [WT,List.getElem?_cons_succ,Sv hk];rfl
  rw [sW _ _ _ (by rw [Sa];exact hk),List.getElem_map,<- fG hp y ys k (Sl hk),hp,<- hn,argBest]
  by_cases h:bt (numAt (y::ys).toArray (k+1)) (numAt (y::ys).toArray (argBest (λi j=>bt (numAt (y::ys).toArray i) (numAt (y::ys).toArray j)) k))=true
  ·rw [if_pos h,if_pos h]
  ·rw [if_neg h,if_neg h]
theorem take_all {ys:List (Int×Tok)} (h:k=ys.length - 1) (op:Int->Int->Int):∀ hn:ys≠[],∃ y r,ys=y::r/\k<=r.length/\((r.map (·.1)).take k).foldl op y.1=(ys.map (·.1)).tail.foldl op ((ys.map (·.1)).headD 0):=λhn=>by
 cases ys with
 | nil=>exact absurd rfl hn
 | cons y r =>
  have hk:k=r.length:=h
  exact ⟨y,r,rfl,So hk,by rw [UB (by rw [Sa];exact So hk.symm)];rfl⟩
theorem q9 {ys:List (Int×Tok)} (hn:ys≠[]):numAt ys.toArray (argBest (λi j=>decide (numAt ys.toArray i > numAt ys.toArray j)) (ys.length - 1))=AS (ys.map (·.1)):=by
 refine ob2_3 (take_all rfl max hn) λy r e hk h=>?_
 subst e
 refine (fG (bt:=λa b=>decide (a > b)) (λa b=>?_) y r _ hk).trans h
 by_cases hb:b > a
 ·rw [if_pos (decide_eq_true hb)];exact Int.max_eq_right (XH hb)
 ·rw [if_neg λx=>hb (of_decide_eq_true x)];exact Int.max_eq_left (WI.mp hb)
theorem q8 {ys:List (Int×Tok)} (hn:ys≠[]):numAt ys.toArray (argBest (λi j=>decide (numAt ys.toArray i<numAt ys.toArray j)) (ys.length - 1))=yq (ys.map (·.1)):=by
 refine ob2_3 (take_all rfl min hn) λy r e hk h=>?_
 subst e
 refine (fG (bt:=λa b=>decide (a<b)) (λa b=>?_) y r _ hk).trans h
 by_cases hb:b<a
 ·rw [if_pos (decide_eq_true hb)];exact Int.min_eq_right (XH hb)
 ·rw [if_neg λx=>hb (of_decide_eq_true x)];exact Int.min_eq_left (WI.mp hb)
theorem Ec {xs:List Int} (hn:xs≠[]):∀ s vs,St G F ρ W Rs s->ah W s.heap [.lst (xs.map .int)] vs->Gv G F.A W (call (.builtin "max") vs) (.int (AS xs)) s:=λs vs S rs=>by
 refine ob1_2 rs.one λv aB r=>?_;obtain rfl:=aB
 refine ob0_2 r.dR λhl aA=>?_;refine ob2_4 aA λa us bq ha aY ru=>?_;obtain rfl:=bq;refine ob1_1 aY λn e=>?_
 refine ob1_2 ru.ints λys aB az=>?_;obtain rfl:=aB;obtain rfl:=az
 have hy:ys≠[]:=λh=>hn (congrArg _ h)
 refine max_intList (xs:=ys.toArray) S.room.1 ⟨_,e,rfl,n,by simp [intItems]⟩ (VW.mpr hy) λv h' tk hv hk=>⟨.of_keeps G hk,?_⟩
 refine ob1_1 (intItems_at hv) λt e'=>?_
 subst e'
 rewrite [<- q9 hy]
 exact Rep.int
theorem Ea {xs:List Int} (hn:xs≠[]):∀ s vs,St G F ρ W Rs s->ah W s.heap [.lst (xs.map .int)] vs->Gv G F.A W (call (.builtin "min") vs) (.int (yq xs)) s:=λs vs S rs=>by
 refine ob1_2 rs.one λv aB r=>?_;obtain rfl:=aB
 refine ob0_2 r.dR λhl aA=>?_;refine ob2_4 aA λa us bq ha aY ru=>?_;obtain rfl:=bq;refine ob1_1 aY λn e=>?_
 refine ob1_2 ru.ints λys aB az=>?_;obtain rfl:=aB;obtain rfl:=az
 have hy:ys≠[]:=λh=>hn (congrArg _ h)
 refine min_intList (xs:=ys.toArray) S.room.1 ⟨_,e,rfl,n,by simp [intItems]⟩ (VW.mpr hy) λv h' tk hv hk=>⟨.of_keeps G hk,?_⟩
 refine ob1_1 (intItems_at hv) λt e'=>?_
 subst e'
 rewrite [<- q8 hy]
 exact Rep.int
theorem sS {i j:Int}:∀ s vs,St G F ρ W Rs s->ah W s.heap [.int i,.int j] vs->Gv G F.A W (call (.builtin "max") vs) (.int (max i j)) s:=λs vs S rs=>by
 refine ob2_3 rs.two λv u az r1 r2=>?_;obtain rfl:=az
 refine ob1_1 r1.isInt λt aB=>?_;obtain rfl:=aB
 refine ob1_1 r2.isInt λt' aB=>?_;obtain rfl:=aB
 refine max_two_ints S.room.1 λh' tk hk=>⟨.of_keeps G hk,?_⟩
 by_cases h:j > i
 ·rw [if_pos h,Int.max_eq_right (XH h)];exact Rep.int
 ·rw [if_neg h,Int.max_eq_left (WI.mp h)];exact Rep.int
theorem Eb {i j:Int}:∀ s vs,St G F ρ W Rs s->ah W s.heap [.int i,.int j] vs->Gv G F.A W (call (.builtin "min") vs) (.int (min i j)) s:=λs vs S rs=>by
 refine ob2_3 rs.two λv u az r1 r2=>?_;obtain rfl:=az
 refine ob1_1 r1.isInt λt aB=>?_;obtain rfl:=aB
 refine ob1_1 r2.isInt λt' aB=>?_;obtain rfl:=aB
 refine min_two_ints S.room.1 λh' tk hk=>⟨.of_keeps G hk,?_⟩
 by_cases h:j<i
 ·rw [if_pos h,Int.min_eq_right (XH h)];exact Rep.int
 ·rw [if_neg h,Int.min_eq_left (WI.mp h)];exact Rep.int
theorem EV.nj {name:Str} (ho:EV G F ρ W Rs o (.str x)) (ha:aV G F ρ W Rs es ps)
  (slot:Slot "str" name id) (ty:typeOf (.builtin id)=pure (.type "method_descriptor"))
  (h:∀ s t vs,St G F ρ W Rs s->x.length<=lim->ah W s.heap ps vs->Gv G F.A W (call (.builtin id) (.str x t::vs)) q s)
  (hne:es≠[]:=by simp)
  (hbase:attributeBase o name F.env (eval o F.env)=eval o F.env:=by rfl)
  (hfew:((backTo pos (starEach es F.env)).all (λx => !x.1) && (backToKw pos (keywordEach [] F.env)).all (λx=>x.1.isSome)
   && decide (es.length+([]:List Keyword).length+(if ([]:List Keyword).isEmpty then 0 else 1)<30))=true:=by rfl)
  (hst:backTo pos (starEach es F.env)=es.map (λe=>(false,eval e F.env)):=by rfl)
  (hline:(apos.endLine == pos.line)=true:=by rfl) :
  EV G F ρ W Rs (.Call (.Attribute o name apos) es [] pos) q:=λs S=>by
 obtain ⟨e,es',rfl⟩:∃ e es',es=e::es':=by cases es with | nil=>exact absurd rfl hne | cons a b=>exact ⟨a,b,rfl⟩
 refine Ug hbase hfew hline (aF (ho s S) λv s₁ zz=>zz.elim λy r=>?_)
 refine ob0_2 r.isStr λhl aA=>?_;refine ob1_1 aA λt bh=>?_;obtain rfl:=bh
 rw [hst]
 refine ⟨"str",id,V3,slot,ty,Wf _ _ _,(λz! e=>nomatch e),?_⟩
 refine Tq (noStar _) ?_
 exact Ti (aF (ha s₁ (S.step y)) λvs s₂ zz=>zz.elim λz rs=>aF (h s₂ t vs ((S.step y).step z) hl rs) λv s₃ zz=>zz.elim λu ru=>⟨y.trans (z.trans u),ru⟩)
theorem EV.Dw {name:Str} (ho:EV G F ρ W Rs o (.str x))
  (slot:Slot "str" name id) (ty:typeOf (.builtin id)=pure (.type "method_descriptor"))
  (h:∀ s t,St G F ρ W Rs s->x.length<=lim->Gv G F.A W (call (.builtin id) [.str x t]) q s)
  (hbase:attributeBase o name F.env (eval o F.env)=eval o F.env:=by rfl)
  (hline:(apos.endLine == pos.line)=true:=by rfl) :
  EV G F ρ W Rs (.Call (.Attribute o name apos) [] [] pos) q:=λs S=>by
 refine Ug hbase rfl hline (aF (ho s S) λv s₁ zz=>zz.elim λy r=>?_)
 refine ob0_2 r.isStr λhl aA=>?_;refine ob1_1 aA λt bh=>?_;obtain rfl:=bh
 refine ⟨"str",id,V3,slot,ty,Wf _ _ _,(λz! e=>nomatch e),?_⟩
 refine Tq rfl ?_
 exact PySem.evalArgs_none (aF (h s₁ t (S.step y) hl) λv s₃ zz=>zz.elim λu ru=>⟨y.trans u,ru⟩)
theorem EV.IY {name:Str} {xs:List PV} (ho:EV G F ρ W Rs o (.lst xs)) (ha:aV G F ρ W Rs es ps)
  (slot:Slot "list" name id) (ty:typeOf (.builtin id)=pure (.type "method_descriptor"))
  (h:∀ s v vs,St G F ρ W Rs s->Rep W s.heap (.lst xs) v->ah W s.heap ps vs->Gv G F.A W (call (.builtin id) (v::vs)) q s)
  (hne:es≠[]:=by simp)
  (hbase:attributeBase o name F.env (eval o F.env)=eval o F.env:=by rfl)
  (hfew:((backTo pos (starEach es F.env)).all (λx => !x.1) && (backToKw pos (keywordEach [] F.env)).all (λx=>x.1.isSome)
   && decide (es.length+([]:List Keyword).length+(if ([]:List Keyword).isEmpty then 0 else 1)<30))=true:=by rfl)
  (hst:backTo pos (starEach es F.env)=es.map (λe=>(false,eval e F.env)):=by rfl)
  (hline:(apos.endLine == pos.line)=true:=by rfl) :
  EV G F ρ W Rs (.Call (.Attribute o name apos) es [] pos) q:=λs S=>by
 obtain ⟨e,es',rfl⟩:∃ e es',es=e::es':=by cases es with | nil=>exact absurd rfl hne | cons a b=>exact ⟨a,b,rfl⟩
 refine Ug hbase hfew hline (aF (ho s S) λv s₁ zz=>zz.elim λy r=>?_)
 refine ob0_2 r.dR λhl aA=>?_;refine ob2_4 aA λa us bq hW aY ru=>?_;obtain rfl:=bq;refine ob1_1 aY λn e1=>?_
 rw [hst]
 refine ⟨"list",id,XF,slot,ty,⟨_,e1,rfl⟩,(λa' e=>by cases e;exact ⟨_,e1,rfl⟩),?_⟩
 refine Tq (noStar _) ?_
 exact Ti (aF (ha s₁ (S.step y)) λvs s₂ zz=>zz.elim λz rs=>aF (h s₂ _ vs ((S.step y).step z) (z.rep0 (y.inv S.inv) r) rs) λv s₃ zz=>zz.elim λu ru=>⟨y.trans (z.trans u),ru⟩)
theorem ah.strs {h:Heap}:∀ {xs:List Str} {vs},ah W h (xs.map .str) vs->StrsAre vs xs
 | [],vs,r=>by rw [Vt,ah] at r;subst r;exact .nil
 | x::xs,vs,r=>by
  rw [SV,ah] at r
  refine ob2_3 r λv vs' az r1 r2=>?_;obtain rfl:=az
  refine ob0_2 r1.isStr λz! aA=>?_;refine ob1_1 aA λt bh=>?_;obtain rfl:=bh
  exact .cons x t (ah.strs r2)
theorem ah.ofStrs {h:Heap}:∀ (l:List (Str×Tok)),(∀ x∈l,x.1.length<=lim)->ah W h ((l.map (·.1)).map .str) (strValues l)
 | [],_=>by rw [Vt,Vt,ah];rfl
 | (x,t)::l,hl=>by
  rw [SV,SV,ah]
  exact ⟨.str x t,strValues l,rfl,Rep.str (hl _ (R_ ..)),ah.ofStrs l λy hy=>hl y (Sb _ hy)⟩
theorem Eg {ys:List Str} (hb:(ys.map (·.length)).sum+ys.length * sep.length<=lim):∀ s t vs,St G F ρ W Rs s->sep.length<=lim->ah W s.heap [.lst (ys.map .str)] vs ->
  Gv G F.A W (call (.builtin "str.join") (.str sep t::vs)) (.str (Sx sep ys)) s:=λs t vs S z! rs=>by
 refine ob1_2 rs.one λv aB r=>?_;obtain rfl:=aB
 refine ob0_2 r.dR λhl aA=>?_;refine ob2_4 aA λa us bq ha aY ru=>?_;obtain rfl:=bq;refine ob1_1 aY λn e=>?_
 refine join_list (items:=us.toArray) (ys:=ys) ⟨_,e,rfl,n,rfl⟩ (by simpa using ru.strs) (R9 hb (by decide)) λt' k=>?_
 have:=XJ sep ys
 rw [show Txt.join sep ys=Sx sep ys from Wj sep ys]
 refine ⟨.of_toks G,Rep.str ?_⟩
 exact R9 this hb
theorem EV.join {o e:SQ} {apos pos:Pos} {sep:Str} {ys:List Str} (ho:EV G F ρ W Rs o (.str sep)) (h:EV G F ρ W Rs e (.lst (ys.map .str))) (hb:(ys.map (·.length)).sum+ys.length * sep.length<=lim)
  (hbase:attributeBase o "join" F.env (eval o F.env)=eval o F.env:=by rfl)
  (hfew:((backTo pos (starEach [e] F.env)).all (λx => !x.1) && (backToKw pos (keywordEach [] F.env)).all (λx=>x.1.isSome)
   && decide ([e].length+([]:List Keyword).length+(if ([]:List Keyword).isEmpty then 0 else 1)<30))=true:=by rfl)
  (hst:backTo pos (starEach [e] F.env)=[e].map (λe=>(false,eval e F.env)):=by rfl)
  (hline:(apos.endLine == pos.line)=true:=by rfl) :
  EV G F ρ W Rs (.Call (.Attribute o "join" apos) [e] [] pos) (.str (Sx sep ys)) :=
 EV.nj ho (.cons h .nil) WU WV (Eg hb) (by simp) hbase hfew hst hline
theorem A7:∀ s t vs,St G F ρ W Rs s->x.length<=lim->ah W s.heap [.str y] vs->Gv G F.A W (call (.builtin "str.count") (.str x t::vs)) (.int (Vb x y)) s:=λs t vs S z! rs=>by
 refine ob1_2 rs.one λv aB r=>?_;obtain rfl:=aB
 refine ob0_2 r.isStr λhl aA=>?_;refine ob1_1 aA λu bh=>?_;obtain rfl:=bh
 exact SC.count ⟨.of_toks G,Rep.int⟩
theorem EV.count {o e:SQ} {apos pos:Pos} {x y:Str} (ho:EV G F ρ W Rs o (.str x)) (h:EV G F ρ W Rs e (.str y))
  (hbase:attributeBase o "count" F.env (eval o F.env)=eval o F.env:=by rfl)
  (hfew:((backTo pos (starEach [e] F.env)).all (λx => !x.1) && (backToKw pos (keywordEach [] F.env)).all (λx=>x.1.isSome)
   && decide ([e].length+([]:List Keyword).length+(if ([]:List Keyword).isEmpty then 0 else 1)<30))=true:=by rfl)
  (hst:backTo pos (starEach [e] F.env)=[e].map (λe=>(false,eval e F.env)):=by rfl)
  (hline:(apos.endLine == pos.line)=true:=by rfl) :
  EV G F ρ W Rs (.Call (.Attribute o "count" apos) [e] [] pos) (.int (Vb x y)) :=
 EV.nj ho (.cons h .nil) PySem.F.slot_str_count PySem.F.type_str_count A7 (by simp) hbase hfew hst hline
theorem uo (hy:(y.length == 0)=false) (hp:∀ z∈VO x y,z.length<=lim) (hn:(VO x y).length<=lim)
  (hn':(Vd x (UR x y 0 x.length (x.length+1)) y.length).length<=sizeLine):∀ s t vs,St G F ρ W Rs s->x.length<=lim->ah W s.heap [.str y] vs ->
  Gv G F.A W (call (.builtin "str.split") (.str x t::vs)) (.lst ((VO x y).map .str)) s:=λs t vs S hx rs=>by
 refine ob1_2 rs.one λv aB r=>?_;obtain rfl:=aB
 refine ob0_2 r.isStr λhl aA=>?_;refine ob1_1 aA λu bh=>?_;obtain rfl:=bh
 have fin:∀ (l:List (Str×Tok)) (k:Nat),l.map (·.1)=VO x y->aG G [] s {s with heap:=s.heap.push {cls:=.type "list",data:=.seq (strValues l).toArray},toks:=k} /\
   Rep W (s.heap.push {cls:=.type "list",data:=.seq (strValues l).toArray}) (.lst ((VO x y).map .str)) (.ref s.heap.objs.size):=λl k e=>by
  refine ⟨.bO G,?_⟩
  rw [Rep]
  refine ⟨by simpa using hn,_,strValues l,rfl,λhm=>?_,⟨_,Sn _ rfl⟩,?_⟩
  ·refine ob0_2 (S.low _ hm) λz! aA=>?_;refine ob1_1 aA λo e=>?_
   exact SW _ (SY e)
  ·rw [<- e]
   exact ah.ofStrs l λz hz=>hp _ (by rw [<- e];exact SN.mpr ⟨z,hz,rfl⟩)
 cases h1:(decide (x.length<y.length) || decide (U8 x<U8 y))
 ·cases hf:(UR x y 0 x.length (x.length+1)).isEmpty
  ·refine XW V4 (Wf _ _ _) XG (Xm _ _) (meets_str_split_sep x y t u h1 hy hf (R9 hx (by decide)) hn') ?_
   have e:=fin (numbered s.toks (Vd x (UR x y 0 x.length (x.length+1)) y.length)) (s.toks+(Vd x (UR x y 0 x.length (x.length+1)) y.length).length) ((numbered_texts _ _).trans ((if_neg (ne_true_of_eq_false h1)).trans (if_neg (ne_true_of_eq_false hf))).symm)
   rw [<- strsFrom_eq] at e
   exact e
  ·exact XW V4 (Wf _ _ _) XG (Xm _ _) (meets_str_split_not_found x y t u h1 hy hf) (fin [(x,t)] s.toks ((if_neg (ne_true_of_eq_false h1)).trans (if_pos hf)).symm)
 ·exact XW V4 (Wf _ _ _) XG (Xm _ _) (meets_str_split_cannot_occur x y t u h1) (fin [(x,t)] s.toks (if_pos h1).symm)
theorem EV.split {o e:SQ} {apos pos:Pos} {x y:Str} (ho:EV G F ρ W Rs o (.str x)) (h:EV G F ρ W Rs e (.str y)) (hy:(y.length == 0)=false) (hp:∀ z∈VO x y,z.length<=lim) (hn:(VO x y).length<=lim)
  (hn':(Vd x (UR x y 0 x.length (x.length+1)) y.length).length<=sizeLine)
  (hbase:attributeBase o "split" F.env (eval o F.env)=eval o F.env:=by rfl)
  (hfew:((backTo pos (starEach [e] F.env)).all (λx => !x.1) && (backToKw pos (keywordEach [] F.env)).all (λx=>x.1.isSome)
   && decide ([e].length+([]:List Keyword).length+(if ([]:List Keyword).isEmpty then 0 else 1)<30))=true:=by rfl)
  (hst:backTo pos (starEach [e] F.env)=[e].map (λe=>(false,eval e F.env)):=by rfl)
  (hline:(apos.endLine == pos.line)=true:=by rfl) :
  EV G F ρ W Rs (.Call (.Attribute o "split" apos) [e] [] pos) (.lst ((VO x y).map .str)) :=
 EV.nj ho (.cons h .nil) V4 PySem.F.type_str_split (uo hy hp hn hn') (by simp) hbase hfew hst hline
theorem yY {xs:List Int} {i:Int}:∀ s v vs,St G F ρ W Rs s->Rep W s.heap (.lst (xs.map .int)) v->ah W s.heap [.int i] vs->Gv G F.A W (call (.builtin "list.count") (v::vs)) (.int (xs.count i)) s:=λs v vs S r rs=>by
 refine ob1_2 rs.one λv aB r1=>?_;obtain rfl:=aB
 refine ob1_1 r1.isInt λt aB=>?_;obtain rfl:=aB
 refine ob0_2 r.dR λhl aA=>?_;refine ob2_4 aA λa us bq hW aY ru=>?_;obtain rfl:=bq;refine ob1_1 aY λn e1=>?_
 refine ob1_2 ru.ints λys aB az=>?_;obtain rfl:=aB;obtain rfl:=az
 refine XW PySem.F.slot_list_count ⟨_,e1,rfl⟩ PySem.F.entry_list_count (PySem.F.args_list_count_2 _ _)
  (MeetsSeq.list_count a _ n (.int i t) (λv=>match v with | .int j _=>j == i | _=>false) λy hy=>?_) ⟨e1,.of_toks G,?_⟩
 ·have hy':y∈ys.map (λp=>XE p.1 p.2):=by simpa using hy
  refine ob1_2 (SN.mp hy') λp z! az=>?_;obtain rfl:=az
  exact MeetsSeq.EqGives.int _ _ _ _
 ·rw [show (ys.map (λp=>XE p.1 p.2)).toArray.toList=ys.map (λp=>XE p.1 p.2) from rfl,List.countP_map,List.count,List.countP_map]
  exact Rep.int
theorem EV.EA {xs:List Int} {i:Int} (ho:EV G F ρ W Rs o (.lst (xs.map .int))) (h:EV G F ρ W Rs e (.int i))
  (hbase:attributeBase o "count" F.env (eval o F.env)=eval o F.env:=by rfl)
  (hfew:((backTo pos (starEach [e] F.env)).all (λx => !x.1) && (backToKw pos (keywordEach [] F.env)).all (λx=>x.1.isSome)
   && decide ([e].length+([]:List Keyword).length+(if ([]:List Keyword).isEmpty then 0 else 1)<30))=true:=by rfl)
  (hst:backTo pos (starEach [e] F.env)=[e].map (λe=>(false,eval e F.env)):=by rfl)
  (hline:(apos.endLine == pos.line)=true:=by rfl) :
  EV G F ρ W Rs (.Call (.Attribute o "count" apos) [e] [] pos) (.int (xs.count i)) :=
 EV.IY ho (.cons h .nil) PySem.F.slot_list_count PySem.F.type_list_count yY (by simp) hbase hfew hst hline
theorem eF {v0:PV} (b:Bool) (hb:b=match v0 with | .none=>true | .raw .none=>true | _=>false):∀ s a c,St G F ρ W Rs s->Rep W s.heap v0 a->Rep W s.heap .none c ->
  wpAny G.M F.A (compareOp .Is a c) (λv s'=>aG G [] s s'/\Rep W s'.heap (.bool b) v) (λz! z! => False) s:=λs a c S ra rc=>by
 rw [Rep] at rc
 subst rc
 have nn:∀ a:Value,a ≠ .none->b=false->wpAny G.M F.A (compareOp .Is a .none) (λv s'=>aG G [] s s'/\Rep W s'.heap (.bool b) v) (λz! z! => False) s:=λa h hb=>by
  subst hb
  exact is_none_ne h ⟨.refl ..,Rep.bool⟩
 cases v0 with
 | none =>
  rw [Rep] at ra;subst ra;subst hb
  exact is_none_none ⟨.refl ..,Rep.bool⟩
 | bool c=>rw [Rep] at ra;subst ra;exact nn _ (by simp) hb
 | int c=>refine ob1_1 ra.isInt λt aB=>?_;obtain rfl:=aB;exact nn _ (by simp) hb
 | str c=>refine ob0_2 ra.isStr λz! aA=>?_;refine ob1_1 aA λt bh=>?_;obtain rfl:=bh;exact nn _ (by simp) hb
 | tup c=>refine ob0_2 ra.isTup λz! aA=>?_;refine ob2_2 aA λa us bq z! => ?_;obtain rfl:=bq;exact nn _ (by simp) hb
 | lst c=>refine ob0_2 ra.dR λz! aA=>?_;refine ob2_2 aA λa us bq z! => ?_;obtain rfl:=bq;exact nn _ (by simp) hb
 | raw c =>
  rw [Rep] at ra;subst ra
  cases a <;> first | exact nn _ (by simp) hb | (subst hb;exact is_none_none ⟨.refl ..,Rep.bool⟩)
theorem St.perm (S:St G F ρ W Rs s) (h:Rs.Perm aq):St G F ρ W aq s :=
 {S with
  new:=λr hr=>S.new r (h.mem_iff.mpr hr)
  res:=λr hr=>S.res r (h.mem_iff.mpr hr)
  apart:=(h.flatMap_right _).nodup_iff.mp S.apart}
theorem XS.perm {ss K} (p:Rs.Perm aq) (h:XS G F ρ W aq ss K):XS G F ρ W Rs ss K:=λs S=>h s (S.perm p)
theorem St.AG (S:St G F ρ W Rs s) {xs:List PV} {t:Tok} (h:ah W s.heap xs vs) (hl:xs.length<=lim) :
  St G F ρ (s.heap.objs.size::W) (Res.lst s.heap.objs.size xs::Rs) {s with heap:=s.heap.push {cls:=.type "list",data:=.seq vs.toArray},toks:=t}:=by
 have x:aG G [] s {s with heap:=s.heap.push {cls:=.type "list",data:=.seq vs.toArray},toks:=t}:=.bO G
 have hn:=bV s.heap
 have fr:=S.fresh hn
 have sk:aI W s.heap (s.heap.push {cls:=.type "list",data:=.seq vs.toArray}):=x.cg S.inv (by simp)
 have S₁:=S.step x
 have hw:∀ a,(∃ o,s.heap.get? a=some o)->a∈s.heap.objs.size::W->a∈W:=λa zz=>zz.elim λo e ha=>by
  rcases Sh.mp ha with rfl | ha
  ·rw [hn] at e;cases e
  ·exact ha
 have I1:=aS S.inv
 have hget:(s.heap.push {cls:=.type "list",data:=.seq vs.toArray}).get? s.heap.objs.size=some {cls:=.type "list",data:=.seq vs.toArray}:=Sn _ rfl
 refine {S₁ with
  vars:=λy p e=>?_
  lW:=λhm=>?_
  cW:=λy c e hm=>?_
  low:=λa ha=>?_
  new:=λr hr a ha=>?_
  res:=λr hr=>?_
  apart:=?_}
 ·refine ob1_2 (S.vars y p e) λv l r=>?_
  exact ⟨v,l.step x S.inv (by simp) (by simp),r.keep sk hw⟩
 ·rcases Sh.mp hm with hm | hm
  ·exact fr.2.1 hm.symm
  ·exact S.lW hm
 ·rcases Sh.mp hm with hm | hm
  ·exact fr.2.2 y c e hm.symm
  ·exact S.cW y c e hm
 ·rcases Sh.mp ha with rfl | ha
  ·exact ⟨I1,_,hget⟩
  ·exact S₁.low a ha
 ·rcases Sh.mp hr with rfl | hr
  ·have:a=s.heap.objs.size:=by simpa [Res.lst] using ha
   subst this
   refine ⟨R_ ..,?_⟩
   by_cases hX:s.heap.objs.size∈F.X
   ·exact .inr hX
   ·left
    cases e0:F.s0.heap.get? s.heap.objs.size with
    | none=>rfl
    | some o0 =>
     have:=S.stp.keep _ o0 hX (bk I1) e0
     rw [hn] at this;cases this
  ·exact ⟨Sb _ (S.new r hr a ha).1,(S.new r hr a ha).2⟩
 ·rcases Sh.mp hr with rfl | hr
  ·exact ⟨hl,vs,⟨_,hget⟩,h.keep sk hw⟩
  ·exact r.keep W _ _ _ (S.res r hr) (λa ha o e=>Sg _ e) sk hw
 ·rw [S2,Ux]
  refine ⟨by simp [Res.lst],S.apart,λa ha b hb hab=>?_⟩
  subst hab
  have:a=s.heap.objs.size:=by simpa [Res.lst] using ha
  subst this
  refine ob1_2 (Sw.mp hb) λr hr ha=>?_
  exact fr.1 (S.new r hr _ ha).1
theorem St.freeze {a:Addr} {xs:List PV} (S:St G F ρ W (Res.lst a xs::Rs) s) (hx:ρ.lookup x=some (.raw (.ref a)))
  (h1:∀ b∈W',b∈W) (h2:a∉W') (h3:∀ b∈W,b=a\/b∈W'):St G F ((x,.lst xs)::ρ) W' Rs s:=by
 have hw:∀ b,(∃ o,s.heap.get? b=some o)->b∈W'->b∈W:=λb z! hb=>h1 b hb
 have M_:aI W s.heap s.heap:=⟨λz! z! z! e=>e,λz! z! z! e=>e⟩
 refine {S with
  vars:=λy p e=>?_
  lW:=λhm=>S.lW (h1 _ hm)
  cW:=λy c e hm=>S.cW y c e (h1 _ hm)
  low:=λb hb=>S.low b (h1 b hb)
  new:=λr hr b hb=>?_
  res:=λr hr=>r.keep W W' _ _ (S.res r (Sb _ hr)) (λz! z! z! e=>e) M_ hw
  apart:=?_}
 ·rw [S8] at e
  by_cases hy:y=x
  ·subst hy
   simp only [beq_self_eq_true] at e
   cases e
   refine ob1_2 (S.vars y _ hx) λv l r=>?_
   rw [Rep] at r;subst r
   refine ob0_2 (S.res _ (R_ ..)) λhl aA=>?_;refine ob1_2 aA λvs hla rs=>?_
   refine ⟨_,l,?_⟩
   rw [Rep]
   exact ⟨hl,a,vs,rfl,h2,hla,rs.keep M_ hw⟩
  ·have:(y == x)=false:=beq_eq_false_iff_ne.mpr hy
   rw [this] at e
   refine ob1_2 (S.vars y p e) λv l r=>?_
   exact ⟨v,l,r.keep M_ hw⟩
 ·refine ob0_2 (S.new r (Sb _ hr) b hb) λn1 n2=>?_
  refine ⟨?_,n2⟩
  rcases h3 b n1 with rfl | h
  ·exfalso
   have nd:=S.apart
   rw [S2,Ux] at nd
   exact nd.2.2 b (by simp [Res.lst]) b (Sw.mpr ⟨r,hr,hb⟩) rfl
  ·exact h
 ·have nd:=S.apart
  rw [S2,Ux] at nd
  exact nd.2.1
theorem XS.freeze {a:Addr} {xs:List PV} {x:Str} {ss K} (hx:ρ.lookup x=some (.raw (.ref a)))
  (h1:∀ b∈W',b∈W) (h2:a∉W') (h3:∀ b∈W,b=a\/b∈W') (h:XS G F ((x,.lst xs)::ρ) W' Rs ss K):XS G F ρ W (Res.lst a xs::Rs) ss K :=
 λs S=>h s (S.freeze hx h1 h2 h3)
noncomputable def PV.flat:PV->Bool
 | .none | .bool _ | .int _ | .str _ | .raw _=>true
 | _=>false
theorem Rep.flat {p:PV} {h h':Heap} {v:Value} (hp:p.flat=true) (r:Rep W h p v):Rep W' h' p v:=by
 cases p with
 | tup=>cases hp
 | lst=>cases hp
 | _=>rw [Rep] at r ⊢;exact r
theorem EV.frozen {a:Addr} {xs:List PV} (hx:ρ.lookup x=some (.raw (.ref a)))
  (h1:∀ b∈W',b∈W) (h2:a∉W') (h3:∀ b∈W,b=a\/b∈W') (h:EV G F ((x,.lst xs)::ρ) W' Rs e p) (hp:p.flat=true):EV G F ρ W (Res.lst a xs::Rs) e p:=λs S =>
 aF (h s (S.freeze hx h1 h2 h3)) λv s' zz=>zz.elim λy r=>⟨y,r.flat hp⟩
theorem EV.perm {e p} (q:Rs.Perm aq) (h:EV G F ρ W aq e p):EV G F ρ W Rs e p:=λs S=>h s (S.perm q)
theorem gm (h:aV G F ρ W Rs es ps) (hl:ps.length<=lim) (S:St G F ρ W Rs s)
  (k:∀ s' a,s.heap.get? a=none->St G F ρ (a::W) (Res.lst a ps::Rs) s'->Q (.ref a) s')
  (hst:backTo pos (starEach es F.env)=es.map (λe=>(false,eval e F.env)):=by rfl):wpAny G.M F.A (eval (.List es pos) F.env) Q (λz! z! => False) s :=
 wpAny_List_spliced (by
  rw [hst]
  refine aF (h s S) λvs s₁ zz=>zz.elim λx r=>?_
  have S₁:=S.step x
  refine ⟨?_,k _ _ ?_ (S₁.AG (t:=s₁.toks) r hl)⟩
  ·rw [r.length]
   exact R9 hl (by decide)
  ·exact x.none_of S₁.inv (bV _) (aS S₁.inv))
section
theorem XS.own {px iL:Pos} (h:aV G F ρ W Rs es ps) (hx:F.env.kindOf x=some .local\/(F.env.kindOf x=some .cell/\x∈F.cv))
  (k:∀ a,a∉W->XS G F ((x,.raw (.ref a))::ρ) (a::W) (Res.lst a ps::Rs) rest K) (hl:ps.length<=lim:=by decide)
  (hst:backTo iL (starEach es F.env)=es.map (λe=>(false,eval e F.env)):=by rfl)
  (hs:swapsWithSole [.Name x px] (.List es iL) pos.line F.env=pure false:=by rfl) (hw:swappedStores [.Name x px] (.List es iL) F.env=pure none:=by rfl) :
  XS G F ρ W Rs (.Assign [.Name x px] (.List es iL) pos::rest) K:=λs S=>by
 refine Tr ?_
 rw [W3]
 refine R7 (Tc ?_)
 rw [hs]
 refine R7 (R8 ?_)
 rw [if_neg (by decide)]
 refine R7 (gm h hl S (λs₁ a ha S₁=>?_) hst)
 rw [hw]
 refine R7 (R8 ?_)
 show wpAny _ _ (do Ur (.Name x px) F.env (.ref a);pure XU) _ _ s₁
 refine R7 (aF (AV.name (p:=.raw (.ref a)) hx s₁ _ S₁ (by rw [Rep])) λ_ s₂ zz=>zz.elim λS₂ z! => R8 (k a ?_ s₂ S₂))
 intro hm
 refine ob0_2 (S.low a hm) λz! aA=>?_;refine ob1_1 aA λo e=>?_
 rw [ha] at e;cases e
theorem XS.append {x:Str} {px apos pos spos:Pos} {e:SQ} {p:PV} {a:Addr} {xs:List PV} (hx:ρ.lookup x=some (.raw (.ref a))) (he:EV G F ρ W (Res.lst a xs::Rs) e p) (hl:xs.length+1<=lim)
  (k:XS G F ρ W (Res.lst a (xs++[p])::Rs) rest K)
  (hi:interactive F.env=false:=by rfl)
  (hd:(x == ("__debug__":Str))=false:=by decide) (hc:(x == ("__classdict__":Str))=false:=by decide)
  (hs:swapsWith (.Call (.Attribute (.Name x px) "append" apos) [e] [] pos) none spos.line F.env=pure false:=by rfl)
  (hbase:attributeBase (.Name x px) "append" F.env (eval (.Name x px) F.env)=eval (.Name x px) F.env:=by rfl)
  (hfew:((backTo pos (starEach [e] F.env)).all (λx => !x.1) && (backToKw pos (keywordEach [] F.env)).all (λx=>x.1.isSome)
   && decide ([e].length+([]:List Keyword).length+(if ([]:List Keyword).isEmpty then 0 else 1)<30))=true:=by rfl)
  (hst:backTo pos (starEach [e] F.env)=[e].map (λe=>(false,eval e F.env)):=by rfl)
  (hline:(apos.endLine == pos.line)=true:=by rfl) :
  XS G F ρ W (Res.lst a xs::Rs) (.Expr (.Call (.Attribute (.Name x px) "append" apos) [e] [] pos) spos::rest) K:=λs S=>by
 refine Tr ?_
 rw [exec_Expr (env:=F.env) _ _ hi hs]
 refine R7 (Tc (R7 ?_))
 refine Ug hbase hfew hline (aF (EV.name hx hd hc s S) λv s₁ zz=>zz.elim λy r=>?_)
 rw [Rep] at r;subst r
 have S₁:=S.step y
 refine ob0_2 (S₁.res _ (R_ ..)) λz! aA=>?_;refine ob1_2 aA λus bh z! => ?_;refine ob1_1 bh λn e1=>?_
 rw [hst]
 refine ⟨"list","list.append",XF,Xn,Xo,⟨_,e1,rfl⟩,(λa' e=>by cases e;exact ⟨_,e1,rfl⟩),?_⟩
 refine Tq (noStar _) ?_
 refine Ti (aF (aV.cons he .nil s₁ S₁) λvs s₂ zz=>zz.elim λz rs=>?_)
 refine ob1_2 rs.one λv aB rv=>?_;obtain rfl:=aB
 refine aF ((S₁.step z).append rv hl) λu s₃ zz=>zz.elim λhu zz=>zz.elim λaT z! => ?_
 exact wpAny_dropValue (k s₃ aT)
theorem XS.MX {px py tpos Ak iL:Pos} {k1 k2:Nat} (h:aV G F ρ W Rs es ps)
  (he:∀ a,EV G F ρ (a::W) (Res.lst a ps::Rs) e q)
  (hx:F.env.kindOf x=some .local\/(F.env.kindOf x=some .cell/\x∈F.cv)) (hy:F.env.kindOf y=some .local\/(F.env.kindOf y=some .cell/\y∈F.cv))
  (k:∀ a,a∉W->XS G F ((x,.raw (.ref a))::(y,q)::ρ) (a::W) (Res.lst a ps::Rs) rest K) (hl:ps.length<=lim:=by decide)
  (hst:backTo iL (starEach es F.env)=es.map (λe=>(false,eval e F.env)):=by rfl)
  (DP:backTo Ak (starEach [.List es iL,e] F.env)=[.List es iL,e].map (λe=>(false,eval e F.env)):=by rfl)
  (hs:swapsWithSole [.Tuple [.Name x px,.Name y py] k1 tpos] (.Tuple [.List es iL,e] k2 Ak) pos.line F.env=pure false:=by rfl)
  (hw:swappedStores [.Tuple [.Name x px,.Name y py] k1 tpos] (.Tuple [.List es iL,e] k2 Ak) F.env=pure (some [x,y]):=by rfl) :
  XS G F ρ W Rs (.Assign [.Tuple [.Name x px,.Name y py] k1 tpos] (.Tuple [.List es iL,e] k2 Ak) pos::rest) K:=λs S=>by
 refine Tr (Assign_Tuple_swapped (names:=[x,y]) ?_ hs hw)
 refine wpAny_Tuple_spliced ?_
 rw [DP]
 refine Ua (gm h hl S (λs₁ a ha S₁=>?_) hst)
 refine Ua (aF (he a s₁ S₁) λv s₂ zz=>zz.elim λz r=>Vu ?_)
 have S₂:=S₁.step z
 refine ⟨by show (2:Nat)<=_;decide,?_⟩
 have Fj:aG G [] s₂ {s₂ with heap:=s₂.heap.push {cls:=.type "tuple",data:=.seq #[.ref a,v]}}:=.bO G (t:=s₂.toks)
 have aT:=S₂.step Fj
 refine unpackItems_tuple (items:=#[.ref a,v]) S.room.1 ⟨_,Sn _ rfl,rfl,_,rfl⟩ λh' hx'=>?_
 have Fi:aG G [] {s₂ with heap:=s₂.heap.push {cls:=.type "tuple",data:=.seq #[.ref a,v]}} {s₂ with heap:=h'} :=
  aG.of_keeps G (λb o e=>hx' b o (TP (SY e)) e) (t:=s₂.toks)
 have bZ:=aT.step Fi
 have rZ:=Fi.rep0 aT.inv (Fj.rep0 S₂.inv r)
 show wpAny _ _ (do holding [.ref a] (bindName F.env y v);assignInOrder [bindName F.env x] [.ref a]) _ _ _
 refine R7 (Sj (bindName_ (aF (bZ.store rZ hy) λ_ s₅ zz=>zz.elim λmQ z! => ?_)))
 show wpAny _ _ (do holding [] (bindName F.env x (.ref a));assignInOrder [] []) _ _ _
 refine R7 (Sj (bindName_ (aF (mQ.store (p:=.raw (.ref a)) (by rw [Rep]) hx) λ_ s₆ zz=>zz.elim λgI z! => R8 (k a ?_ s₆ gI))))
 intro hm
 refine ob0_2 (S.low a hm) λz! aA=>?_;refine ob1_1 aA λo e=>?_
 rw [ha] at e;cases e
theorem XS.while {τ:Type} (Inv:τ->Prop) (μ:τ->Nat) (iu:τ->List (Str×PV)) (c:τ->Bool) (z0:τ)
  (h0:Inv z0) (DM:∀ x p,(iu z0).lookup x=some p->ρ.lookup x=some p)
  (ht:∀ z,Inv z->TV G F (iu z) W Rs test (c z))
  (hb:∀ z,Inv z->c z=true->XS G F (iu z) W Rs body (λf s'=>match f with | .next | .cont=>∃ z',Inv z'/\μ z'<μ z/\St G F (iu z') W Rs s' | _=>False))
  (h:∀ z,Inv z->c z=false->XS G F (iu z) W Rs rest K):XS G F ρ W Rs (.While test body [] pos::rest) K:=λs S=>by
 refine Tr (wpAny_While ?_)
 refine codeAny_whileLoop (λn s'=>∃ z,n=μ z/\Inv z/\St G F (iu z) W Rs s') (λn s₁ hI=>?_) (μ z0) ⟨z0,rfl,h0,S.weaken DM⟩
 refine ob1_3 hI λz aB hz S₁=>?_;obtain rfl:=aB
 refine aF (ht z hz s₁ S₁) λb s₂ zz=>zz.elim λy hb'=>?_
 subst hb'
 have S₂:=S₁.step y
 cases hc:c z with
 | true =>
  simp only [if_true]
  refine aF (hb z hz hc s₂ S₂) λf s₃ hf=>?_
  cases f with
  | next=>refine ob1_3 hf λz' h1 h2 h3=>?_;exact ⟨_,h2,z',rfl,h1,h3⟩
  | cont=>refine ob1_3 hf λz' h1 h2 h3=>?_;exact ⟨_,h2,z',rfl,h1,h3⟩
  | brk=>exact hf.elim
  | ret v=>exact hf.elim
 | false =>
  simp only [Up,if_false]
  exact UD (h z hz hc s₂ S₂)
end
noncomputable def fdOf (st:Stmt) (q:Str) (Kn:List (Str×Addr)) (d kd pm code ct:Value):FuncData:=match st with
 | .FunctionDef name args body _ _ _ scope _ _ _=>{name,qualname:=q,params:=args,body:=.stmts body,scope,globals:=mainGlobals,closure:=Kn,defaults:=d,kwdefaults:=kd,pyModule:=pm,code,closureTuple:=ct,builtins:=builtinsNs}
 | _=>default
noncomputable def bodyOf (st:Stmt):List Stmt:=match st with
 | .FunctionDef _ _ body _ _ _ _ _ _ _=>body
 | .ClassDef _ _ _ body _ _ _ _ _ _ _=>body
 | _=>[]
noncomputable def bH (p:Program) (i:Nat):Stmt:=p.main.body.getD i (.Pass ⟨0,0,0,0⟩)
noncomputable def wG (G:Glob) (op:CmpOp) (p q:PV) (z:Bool):Prop:=∀ (F:Fm) (ρ:List (Str×PV)) (W:List Addr) (Rs:List Res) (s:Shared) (a b:Value),St G F ρ W Rs s->Rep W s.heap p a->Rep W s.heap q b ->
 wpAny G.M F.A (compareOp op a b) (λv s'=>aG G [] s s'/\Rep W s'.heap (.bool z) v) (λz! z! => False) s
noncomputable def bis (p:Nat->Bool) (lo hi:Nat):Nat:=if lo<hi then (if p ((lo+hi) / 2) then bis p lo ((lo+hi) / 2) else bis p ((lo+hi) / 2+1) hi) else lo
termination_by hi - lo
decreasing_by
 ·exact Nat.sub_lt_sub_right (fH (by assumption)) (kC (by assumption))
 ·exact Xh (by assumption) (Sp (fH (by assumption)))
theorem ak:∀ y q,([]:List (Str×PV)).lookup y=some q->ρ.lookup y=some q:=λz! z! h=>by cases h
theorem P6 {k:Str} {r:List (Str×PV)} (h:(y == k)=true):((k,p)::r).lookup y=some p:=by rw [S8,h]
theorem P7 {k:Str} {r:List (Str×PV)} (h:(y == k)=false):((k,p)::r).lookup y=r.lookup y:=by rw [S8,h]
theorem af (h:ρ.lookup x=some p) (t:∀ y q,ρ'.lookup y=some q->ρ.lookup y=some q):∀ y q,((x,p)::ρ').lookup y=some q->ρ.lookup y=some q:=λy q e =>
 match hb:y == x with
 | true=>UC ((P6 hb).symm.trans e)▸U0 hb▸h
 | false=>t y q ((P7 hb).symm.trans e)
theorem p8 {i:Int} (h:(if i<0 then i+n else i)=(k:Int)) (hk:k<n):seqIndex? i n=some k:=by
 refine (?_:(if (decide (0<=(if i<0 then i+n else i)) && decide ((if i<0 then i+n else i)<(n:Int)))=true then some (if i<0 then i+n else i).toNat else none)=_)
 rewrite [h]
 exact if_pos (Tp.mpr ⟨decide_eq_true (Uz k),decide_eq_true (Ul.mpr hk)⟩)
theorem sA (h:j+(k+1)=n) : -((k:Int)+1)+n=j:=by
 subst h
 exact (congrArg _ (Int.add_comm (j:Int) ((k:Int)+1))).trans (Int.neg_add_cancel_left ..)
theorem oG {xs:List α} {p:α} (h:xs[k]? = some p):idx? xs (k:Int)=some p:=by
 unfold idx?
 rw [p8 (if_neg (WI.mpr (Uz k))) (TG.mp h).1]
 exact h
theorem ue {xs:List α} {p:α} (hk:k<xs.length) (h:xs[xs.length - 1 - k]? = some p):idx? xs (-((k:Int)+1))=some p:=by
 unfold idx?
 rw [p8 ((if_pos (Int.negSucc_lt_zero k)).trans (sA (by rw [Nat.sub_sub,Vj 1 k];exact Uq hk))) (TQ (Uu _ _) (Ww (Nat.zero_lt_of_lt hk) VL))]
 exact h
theorem EJ {p:Nat->Bool} {lo hi:Nat} (h:lo<hi) (hp:p ((lo+hi) / 2)=true):bis p lo hi=bis p lo ((lo+hi) / 2):=by rw [bis,if_pos h,if_pos hp]
theorem EI {p:Nat->Bool} {lo hi:Nat} (h:lo<hi) (hp:p ((lo+hi) / 2)=false):bis p lo hi=bis p ((lo+hi) / 2+1) hi:=by rw [bis,if_pos h,if_neg (ne_true_of_eq_false hp)]
theorem uK {p:Nat->Bool} {lo hi:Nat} (h:¬ lo<hi):bis p lo hi=lo:=by rw [bis,if_neg h]
theorem eW {x:α} {l:List α} (h:P x) (t:∀ w∈l,P w):∀ w∈x::l,P w:=λw hw=>(Sh.mp hw).elim (λe=>e▸h) (t w)
theorem zQ:∀ w∈([]:List α),P w:=λw h=>absurd h S9
theorem kY {f:Nat->β} {p:β} (h:((Sk n).map f)[k]? = some p):k<n/\f k=p:=by
 have hk:k<n:=by have:=(TG.mp h).1;rwa [Sa,To] at this
 rw [SP,VV hk] at h
 exact ⟨hk,UC h⟩
theorem gj:PlainAttrs "re.Pattern" :=
 ⟨⟨"object.__getattribute__",by rw [T6,Tj];kernel_rfl,by decide +kernel⟩,by rw [T6,Tj];kernel_rfl⟩
theorem fj:Slot "re.Pattern" "sub" "re.Pattern.sub" :=
 .of (owner:="re.Pattern") (n:="sub") (by rw [T6,Tj];kernel_rfl) (by decide +kernel) (by decide +kernel) (by decide +kernel)
  (by first | exact .inl (by decide +kernel) | exact .inr (by decide +kernel)) (by rw [WB];kernel_rfl)
theorem iC:typeOf (.builtin "re.Pattern.sub")=pure (.type "method_descriptor"):=by show builtinType _=_;rw [builtinType_eq_fast];kernel_rfl
theorem mH:entryFor table "re.Pattern.sub"=some Builtin.«re.Pattern.sub» := WC (by kernel_rfl)
theorem gw:entryFor table "re.Pattern.sub.loop"=some Builtin.«re.Pattern.sub.loop» := WC (by kernel_rfl)
theorem vA:Manifest.owners.lookup (String.ofList ['n','r','e','t','t','a','P','.','e','r'].reverse)=some Manifest.sig_re_Pattern:=by kernel_rfl
theorem o8 (a b c:Value):argsOk "re.Pattern.sub" ⟨[a,b,c],[]⟩:=by
 unfold argsOk;rw [signature?_of (id:="re.Pattern.sub") (n:=['b','u','s']) (o:=['n','r','e','t','t','a','P','.','e','r']) (by kernel_rfl) vA];kernel_rfl
theorem cI:plainId "re.Pattern.sub.loop"=true:=by decide +kernel
section
open PySem.Sre
inductive Reach:Nat->V6->V6->Prop
 | zero (m:V6):Reach 0 m m
 | succ {k:Nat} {m m':V6} (h:m.outcome=none) (r:Reach k m.step m'):Reach (k+1) m m'
theorem Reach.trans {l:Nat} {m m' Ab:V6} (x:Reach k m m') (y:Reach l m' Ab):Reach (k+l) m Ab:=by
 induction x with
 | zero=>rw [UP];exact y
 | succ h r ih=>rw [Nat.succ_add];exact .succ h (ih y)
theorem Reach.run:∀ (n:Nat) {k m m'},Reach k m m'->m'.outcome.isSome=true->∃ Ab,m.runFor n=Ab/\Reach (k - n) Ab m'/\(k - n=0->Ab=m')
 | 0,k,m,m',r,h=>⟨m,rfl,r,λh0=>by
   have:k=0:=by exact h0
   subst this;cases r;rfl⟩
 | n+1,k,m,m',r,h=>by
  rw [Sre.M.runFor]
  cases r with
  | zero =>
   rw [if_pos h]
   exact ⟨m,rfl,by rw [Nat.zero_sub];exact .zero m,λz! => rfl⟩
  | succ h0 r =>
   rw [h0]
   simp only [Xx,Up,if_false]
   rename_i k'
   refine ob1_3 (Reach.run n r h) λAb e r' f=>?_
   rw [show k'+1 - (n+1)=k' - n by exact Nat.add_sub_add_right _ _ _]
   exact ⟨Ab,e,r',f⟩
theorem Reach.qn {m m':V6} (r:Reach (k+1) m m'):m.outcome=none:=by cases r with | succ h r=>exact h
theorem kH {M:Model} {A:Around} {E:Value->Shared->Prop} {Q:V6->Shared->Prop} {s:Shared} {m':V6} (h:m'.outcome.isSome=true) (hQ:Q m' s) :
  ∀ (turns k:Nat) (m:V6),Reach k m m'->k<=4 * turns->0<turns->wpAny M A (Builtin.Re.reDrive turns m) Q E s
 | 0,_,_,_,_,ht=>absurd ht (SW _)
 | turns+1,k,m,r,hk,_=>by
  rw [Builtin.Re.reDrive]
  refine ob1_3 (r.run 4 h) λAb e r' f=>?_
  show wpAny M A (if (m.runFor 4).outcome.isSome=true then pure (m.runFor 4) else do rule "sre.turn";Builtin.Re.reDrive turns (m.runFor 4)) Q E s
  rw [e]
  rcases Xy (k - 4) with h0 | hp
  ·rw [f h0,if_pos h]
   exact R8 hQ
  ·obtain ⟨k',hk'⟩:∃ k',k - 4=k'+1:=⟨k - 4 - 1,by exact Eq.symm (Uq (S5 hp))⟩
   rw [hk'] at r'
   have:=r'.qn
   rw [this]
   simp only [Xx,Up,if_false]
   exact R7 (U7 (kH h hQ turns (k'+1) Ab r' (by exact MJ hk hp hk') (by exact MF hk hp hk')))
theorem kG {M:Model} {A:Around} {E:Value->Shared->Prop} {Q:PUnit->Shared->Prop} {s:Shared} (m:V6) (hQ:Q ⟨⟩ s) (f:Nat->PUnit->Sem (ForInStep PUnit))
  (hf:∀ i u,f i u=(if m.seen.has i=true then rule (Sre.names.getD i "") else pure PUnit.unit) >>= λz! => pure (VB PUnit.unit)):∀ (l:List Nat),
  wpAny M A (forIn l PUnit.unit f) Q E s
 | []=>R8 hQ
 | i::l=>by
  rw [UE,hf]
  refine R7 (R7 ?_)
  by_cases h:m.seen.has i=true
  ·rw [if_pos h]
   exact U7 (R8 (kG m hQ f hf l))
  ·rw [if_neg h]
   exact R8 (R8 (kG m hQ f hf l))
theorem dg {M:Model} {Q:Option V6->Shared->Prop} {m m':V6} (r:Reach k m m') (hk:k<=2 ^ 60)
  (h:(m'.outcome=some .matched/\Q (some m') s)\/(m'.outcome=some .failed/\Q none s)):wpAny M A (WW m) Q E s:=by
 unfold WW
 refine R7 (kH (m':=m') ?_ ?_ _ k m r ?_ (by decide))
 ·rcases h with ⟨h,_⟩ | ⟨h,_⟩ <;> rw [h] <;> rfl
 ·refine R7 (kG m' ?_ _ (λi u=>by first | rfl | (by_cases h:m'.seen.has i=true <;> simp [h])) _)
  rcases h with ⟨h,hq⟩ | ⟨h,hq⟩ <;> rw [h] <;> exact R8 hq
 ·exact R9 hk (by decide)
end
section
open PySem.Sre
theorem pU {m:V6} (h0:m.outcome=none) (ha:m.answer=none) (sR:m.pc<m.code.size) (hop:m.code.getD m.pc 0=16) (hp:m.pos<m.lim)
  (hc:m.text.getD m.pos 0=m.code.getD (m.pc+1) 0):m.step={m with seen:=m.seen.add 16,pc:=m.pc+2,pos:=m.pos+1}:=by
 have hw:m.word 0=16:=hop
 unfold Sre.M.step
 rw [h0,ha]
 simp only [Xx,Up,if_false,sR,if_true]
 unfold Sre.M.exec
 rw [hw]
 show (if _ then _ else _)=_
 rw [if_neg (Nat.not_le.mpr hp)]
 have e:accepts m.code m.pc (m.text.getD m.pos 0) (m.seen.add 16) = .ok (true,m.seen.add 16):=by
  unfold accepts
  rw [hop,hc]
  show Except.ok ((m.code.getD (m.pc+1) 0 == m.code.getD (m.pc+1) 0),_)=_
  rw [beq_self_eq_true]
 show (match accepts m.code m.pc (m.text.getD m.pos 0) (m.seen.add 16) with
  | .error why=>_
  | .ok (false,seen)=>_
  | .ok (true,seen)=>({m with seen:=seen,pc:=m.pc+itemWidth m.code m.pc,pos:=m.pos+1}:V6))=_
 rw [e]
 have:itemWidth m.code m.pc=2:=by
  unfold itemWidth
  rw [hop];rfl
 show ({m with seen:=m.seen.add 16,pc:=m.pc+itemWidth m.code m.pc,pos:=m.pos+1}:V6)=_
 rw [this,h0,ha]
theorem f5 {m:V6} (h0:m.outcome=none) (ha:m.answer=none) (sR:m.pc<m.code.size) (hop:m.code.getD m.pc 0=16)
  (hc:m.pos<m.lim->m.text.getD m.pos 0≠m.code.getD (m.pc+1) 0):m.step={m with seen:=m.seen.add 16,answer:=some false}:=by
 have hw:m.word 0=16:=hop
 unfold Sre.M.step
 rw [h0,ha]
 simp only [Xx,Up,if_false,sR,if_true]
 unfold Sre.M.exec
 rw [hw]
 show (if _ then _ else _)=_
 by_cases hp:m.pos<m.lim
 ·rw [if_neg (Nat.not_le.mpr hp)]
  have e:accepts m.code m.pc (m.text.getD m.pos 0) (m.seen.add 16) = .ok (false,m.seen.add 16):=by
   unfold accepts
   rw [hop]
   show Except.ok ((m.text.getD m.pos 0 == m.code.getD (m.pc+1) 0),_)=_
   rw [beq_eq_false_iff_ne.mpr (hc hp)]
  show (match accepts m.code m.pc (m.text.getD m.pos 0) (m.seen.add 16) with
   | .error why=>_
   | .ok (false,seen)=>({m with seen:=seen}:V6).say false
   | .ok (true,seen)=>_)=_
  rw [e]
  show ({m with seen:=m.seen.add 16}:V6).say false=_
  unfold Sre.M.say;rw [h0]
 ·rw [if_pos (Nat.not_lt.mp hp)]
  show ({m with seen:=m.seen.add 16}:V6).say false=_
  unfold Sre.M.say;rw [h0]
noncomputable def bL:Array Nat:=#[14,9,4,1,2,16,10,16,13,0,7,7,16,13,16,10,15,18,5,16,10,15,13,11,16,13,5,5,0,16,10,1,15,2,0,1]
noncomputable def m2 (t:Array Nat) (l s:Nat) (pc pos hd:Nat) (o:Bool) (fr:List XC) (wt:Nat) (sn:Xp):V6 :=
 {code:=bL,text:=t,lim:=l,start:=s,lastStart:=l,pc:=pc,pos:=pos,handed:=hd,outermost:=o,marks:=#[],frames:=fr,weight:=wt,seen:=sn}
noncomputable def vH (t:Array Nat) (l s:Nat) (pc pos hd:Nat) (o:Bool) (fr:List XC) (wt:Nat) (sn:Xp) (a:Bool):V6 :=
 {code:=bL,text:=t,lim:=l,start:=s,lastStart:=l,pc:=pc,pos:=pos,handed:=hd,outermost:=o,marks:=#[],frames:=fr,weight:=wt,seen:=sn,answer:=some a}
noncomputable def k0:Sre.Kept:={lastmark := -1,lastindex := -1,whole:=false,marks:=#[]}
noncomputable def fS (s:Nat):XC:={wait:=.nextStart,pc:=10,pos:=s,outermost:=true}
noncomputable def fB (s pc:Nat):XC:={wait:=.nextBranch,pc:=pc,pos:=s,outermost:=true,kept:=k0}
noncomputable def fN (s:Nat):XC:={wait:=.lookNot,pc:=26,pos:=s,outermost:=true,kept:=k0}
variable {t:Array Nat} {l s pos hd:Nat} {o:Bool} {wt:Nat} {sn:Xp}
theorem lJ:∃ sn',(m2 t l s 10 s s true [fS s] 1 sn).step=m2 t l s 12 s s true [fB s 11,fS s] 2 sn':=⟨_,rfl⟩
theorem Bk:∃ sn',(vH t l s 12 pos s true [fB s 11,fS s] 2 sn false).step=m2 t l s 19 s s true [fB s 18,fS s] 2 sn':=⟨_,rfl⟩
theorem zx:∃ sn',(vH t l s 14 pos s true [fB s 11,fS s] 2 sn false).step=m2 t l s 19 s s true [fB s 18,fS s] 2 sn':=⟨_,rfl⟩
theorem Bj:∃ sn',(vH t l s 19 pos s true [fB s 18,fS s] 2 sn false).step=m2 t l s 24 s s true [fB s 23,fS s] 2 sn':=⟨_,rfl⟩
theorem Bh:∃ sn',(m2 t l s 16 pos hd true [fB s 11,fS s] 2 sn).step=m2 t l s 35 pos hd true [fB s 11,fS s] 2 sn':=⟨_,rfl⟩
theorem Bg:∃ sn',(m2 t l s 21 pos hd true [fB s 18,fS s] 2 sn).step=m2 t l s 35 pos hd true [fB s 18,fS s] 2 sn':=⟨_,rfl⟩
theorem Bf:∃ sn',(m2 t l s 32 pos hd true [fB s 23,fS s] 2 sn).step=m2 t l s 35 pos hd true [fB s 23,fS s] 2 sn':=⟨_,rfl⟩
theorem Et:∃ sn',(m2 t l s 35 pos hd true [fB s b,fS s] 2 sn).step=vH t l s 35 pos pos true [fB s b,fS s] 2 sn' true:=⟨_,rfl⟩
theorem Ka:∃ sn',(vH t l s 35 pos pos true [fB s b,fS s] 2 sn true).step=vH t l s b s pos true [fS s] 1 sn' true:=⟨_,rfl⟩
theorem J_:∃ sn',(vH t l s b s pos true [fS s] 1 sn true).step=vH t l s 10 s pos true [] 0 sn' true:=⟨_,rfl⟩
theorem J':(vH t l s 10 s pos true [] 0 sn true).step={vH t l s 10 s pos true [] 0 sn true with outcome:=some .matched}:=rfl
theorem Kc:∃ sn',(m2 t l s 26 pos hd true [fB s 23,fS s] 2 sn).step=m2 t l s 29 pos pos false [fN pos,fB s 23,fS s] 3 sn':=⟨_,rfl⟩
theorem Be:∃ sn',(vH t l s 29 pos pos false [fN pos,fB s 23,fS s] 3 sn false).step=m2 t l s 32 pos pos true [fB s 23,fS s] 2 sn':=⟨_,rfl⟩
theorem qP {pc:Nat} (sR:pc<36) (hop:bL.getD pc 0=16) (hcc:bL.getD (pc+1) 0=c) (hp:pos<l) (hc:t.getD pos 0=c):∃ sn',(m2 t l s pc pos hd o fr wt sn).step=m2 t l s (pc+2) (pos+1) hd o fr wt sn' :=
 ⟨_,(pU (m:=m2 t l s pc pos hd o fr wt sn) rfl rfl sR hop hp (hc.trans hcc.symm)).trans rfl⟩
theorem kj {pc:Nat} (sR:pc<36) (hop:bL.getD pc 0=16) (hcc:bL.getD (pc+1) 0=c) (hc:pos<l->t.getD pos 0≠c):∃ sn',(m2 t l s pc pos hd o fr wt sn).step=vH t l s pc pos hd o fr wt sn' false :=
 ⟨_,(f5 (m:=m2 t l s pc pos hd o fr wt sn) rfl rfl sR hop (λh e=>hc h (e.trans hcc))).trans rfl⟩
noncomputable def BN (t:Array Nat) (l s e:Nat) (m:V6):Prop:=∃ k m',k<=40/\Reach k m m'/\m'.outcome=some .matched/\m'.start=s/\m'.handed=e
theorem Ep:∃ m',Reach 4 (m2 t l s 35 pos hd true [fB s b,fS s] 2 sn) m'/\m'.outcome=some .matched/\m'.start=s/\m'.handed=pos:=by
 refine ob1_1 (Et (t:=t) (l:=l) (s:=s) (pos:=pos) (hd:=hd) (sn:=sn) (b:=b)) λs1 e1=>?_
 refine ob1_1 (Ka (t:=t) (l:=l) (s:=s) (pos:=pos) (sn:=s1) (b:=b)) λs2 e2=>?_
 refine ob1_1 (J_ (t:=t) (l:=l) (s:=s) (pos:=pos) (sn:=s2) (b:=b)) λs3 e3=>?_
 refine ⟨{vH t l s 10 s pos true [] 0 s3 true with outcome:=some .matched},.succ rfl ?_,rfl,rfl,rfl⟩
 rw [e1];refine .succ rfl ?_
 rw [e2];refine .succ rfl ?_
 rw [e3];refine .succ rfl ?_
 rw [J'];exact .zero _
theorem yU (h1:s<l) (h2:s+1<l) (c1:t.getD s 0=13) (c2:t.getD (s+1) 0=10):BN t l s (s+2) (m2 t l s 10 s s true [fS s] 1 sn):=by
 refine ob1_1 (lJ (t:=t) (l:=l) (s:=s) (sn:=sn)) λs1 e1=>?_
 refine ob1_1 (qP (t:=t) (l:=l) (s:=s) (hd:=s) (o:=true) (fr:=[fB s 11,fS s]) (wt:=2) (sn:=s1) (pc:=12) (pos:=s) (by decide) rfl rfl h1 c1) λs2 e2=>?_
 refine ob1_1 (qP (t:=t) (l:=l) (s:=s) (hd:=s) (o:=true) (fr:=[fB s 11,fS s]) (wt:=2) (sn:=s2) (pc:=14) (pos:=s+1) (by decide) rfl rfl h2 c2) λs3 e3=>?_
 refine ob1_1 (Bh (t:=t) (l:=l) (s:=s) (pos:=s+1+1) (hd:=s) (sn:=s3)) λs4 e4=>?_
 refine ob1_2 (Ep (t:=t) (l:=l) (s:=s) (pos:=s+2) (hd:=s) (sn:=s4) (b:=11)) λm' r h=>?_
 refine ⟨4+4,m',by decide,Reach.trans (.succ rfl ?_) r,h⟩
 rw [e1];refine .succ rfl ?_
 rw [e2];refine .succ rfl ?_
 rw [e3];refine .succ rfl ?_
 rw [e4];exact .zero _
theorem D0 (h1:s<l) (c1:t.getD s 0=10):BN t l s (s+1) (m2 t l s 10 s s true [fS s] 1 sn):=by
 refine ob1_1 (lJ (t:=t) (l:=l) (s:=s) (sn:=sn)) λs1 e1=>?_
 refine ob1_1 (kj (t:=t) (l:=l) (s:=s) (hd:=s) (o:=true) (fr:=[fB s 11,fS s]) (wt:=2) (sn:=s1) (pc:=12) (pos:=s) (c:=13) (by decide) rfl rfl (λz! => by rw [c1];decide)) λs2 e2=>?_
 refine ob1_1 (Bk (t:=t) (l:=l) (s:=s) (pos:=s) (sn:=s2)) λs3 e3=>?_
 refine ob1_1 (qP (t:=t) (l:=l) (s:=s) (hd:=s) (o:=true) (fr:=[fB s 18,fS s]) (wt:=2) (sn:=s3) (pc:=19) (pos:=s) (by decide) rfl rfl h1 c1) λs4 e4=>?_
 refine ob1_1 (Bg (t:=t) (l:=l) (s:=s) (pos:=s+1) (hd:=s) (sn:=s4)) λs5 e5=>?_
 refine ob1_2 (Ep (t:=t) (l:=l) (s:=s) (pos:=s+1) (hd:=s) (sn:=s5) (b:=18)) λm' r h=>?_
 refine ⟨5+4,m',by decide,Reach.trans (.succ rfl ?_) r,h⟩
 rw [e1];refine .succ rfl ?_
 rw [e2];refine .succ rfl ?_
 rw [e3];refine .succ rfl ?_
 rw [e4];refine .succ rfl ?_
 rw [e5];exact .zero _
theorem D3 (h1:s<l) (c1:t.getD s 0=13) (c2:s+1<l->t.getD (s+1) 0≠10):BN t l s (s+1) (m2 t l s 10 s s true [fS s] 1 sn):=by
 refine ob1_1 (lJ (t:=t) (l:=l) (s:=s) (sn:=sn)) λs1 e1=>?_
 refine ob1_1 (qP (t:=t) (l:=l) (s:=s) (hd:=s) (o:=true) (fr:=[fB s 11,fS s]) (wt:=2) (sn:=s1) (pc:=12) (pos:=s) (by decide) rfl rfl h1 c1) λs2 e2=>?_
 refine ob1_1 (kj (t:=t) (l:=l) (s:=s) (hd:=s) (o:=true) (fr:=[fB s 11,fS s]) (wt:=2) (sn:=s2) (pc:=14) (pos:=s+1) (c:=10) (by decide) rfl rfl c2) λs3 e3=>?_
 refine ob1_1 (zx (t:=t) (l:=l) (s:=s) (pos:=s+1) (sn:=s3)) λs4 e4=>?_
 refine ob1_1 (kj (t:=t) (l:=l) (s:=s) (hd:=s) (o:=true) (fr:=[fB s 18,fS s]) (wt:=2) (sn:=s4) (pc:=19) (pos:=s) (c:=10) (by decide) rfl rfl (λz! => by rw [c1];decide)) λs5 e5=>?_
 refine ob1_1 (Bj (t:=t) (l:=l) (s:=s) (pos:=s) (sn:=s5)) λs6 e6=>?_
 refine ob1_1 (qP (t:=t) (l:=l) (s:=s) (hd:=s) (o:=true) (fr:=[fB s 23,fS s]) (wt:=2) (sn:=s6) (pc:=24) (pos:=s) (by decide) rfl rfl h1 c1) λs7 e7=>?_
 refine ob1_1 (Kc (t:=t) (l:=l) (s:=s) (pos:=s+1) (hd:=s) (sn:=s7)) λs8 e8=>?_
 refine ob1_1 (kj (t:=t) (l:=l) (s:=s) (hd:=s+1) (o:=false) (fr:=[fN (s+1),fB s 23,fS s]) (wt:=3) (sn:=s8) (pc:=29) (pos:=s+1) (c:=10) (by decide) rfl rfl c2) λs9 e9=>?_
 refine ob1_1 (Be (t:=t) (l:=l) (s:=s) (pos:=s+1) (sn:=s9)) λPO RG=>?_
 refine ob1_1 (Bf (t:=t) (l:=l) (s:=s) (pos:=s+1) (hd:=s+1) (sn:=PO)) λPN RE=>?_
 refine ob1_2 (Ep (t:=t) (l:=l) (s:=s) (pos:=s+1) (hd:=s+1) (sn:=PN) (b:=23)) λm' r h=>?_
 refine ⟨11+4,m',by decide,Reach.trans (.succ rfl ?_) r,h⟩
 rw [e1];refine .succ rfl ?_
 rw [e2];refine .succ rfl ?_
 rw [e3];refine .succ rfl ?_
 rw [e4];refine .succ rfl ?_
 rw [e5];refine .succ rfl ?_
 rw [e6];refine .succ rfl ?_
 rw [e7];refine .succ rfl ?_
 rw [e8];refine .succ rfl ?_
 rw [e9];refine .succ rfl ?_
 rw [RG];refine .succ rfl ?_
 rw [RE];exact .zero _
noncomputable def cV (c:Nat):Bool:=c == 10 || c == 13
theorem DJ (c:Nat) (sn:Xp):∃ sn',inSet bL c bL.size 5 true sn = .ok (cV c,sn'):=by
 by_cases h1:c=10
 ·subst h1;exact ⟨_,rfl⟩
 by_cases h2:c=13
 ·subst h2;exact ⟨_,rfl⟩
 have e:cV c=false:=by simp [cV,h1,h2]
 rw [e]
 refine ⟨((sn.add 16).add 16).add 0,?_⟩
 show (if (c == 10)=true then _ else (if (c == 13)=true then _ else _))=_
 rw [beq_eq_false_iff_ne.mpr h1,beq_eq_false_iff_ne.mpr h2]
 rfl
theorem nM {m:V6} (hc:m.code=bL):∀ (fuel s:Nat) (sn:Xp),m.lim<=s+fuel->∃ r sn',XK m fuel s sn = .ok (r,sn') /\
  (∀ p,r=some p->s<=p/\p<m.lim/\cV (m.text.getD p 0)=true/\∀ q,s<=q->q<p->cV (m.text.getD q 0)=false) /\
  (r=none->∀ q,s<=q->q<m.lim->cV (m.text.getD q 0)=false)
 | 0,s,sn,h=>⟨none,sn,rfl,(λp h=>nomatch h),λz! q h1 h2=>absurd (Sd h2 (R9 h h1)) (SW _)⟩
 | fuel+1,s,sn,h=>by
  by_cases hs:s ≥ m.lim
  ·refine ⟨none,sn,?_,(λp h=>nomatch h),λz! q h1 h2=>absurd (Sd h2 (R9 hs h1)) (SW _)⟩
   rw [XK,if_pos hs]
  ·refine ob1_1 (DJ (m.text.getD s 0) sn) λMN e1=>?_
   have e:XK m (fuel+1) s sn=match (Except.ok (cV (m.text.getD s 0),MN):Except String (Bool×Xp)) with
     | .ok (true,seen)=>.ok (some s,seen)
     | .ok (false,seen)=>XK m fuel (s+1) seen
     | .error why=>.error why:=by
    rw [XK,if_neg hs,hc,e1]
    rfl
   rw [e]
   cases hn:cV (m.text.getD s 0) with
   | true =>
    refine ⟨some s,MN,rfl,λp hp=>?_,λh=>nomatch h⟩
    cases hp
    exact ⟨Si _,by exact UI hs,hn,λq h1 h2=>by exact CZ h1 h2⟩
   | false =>
    refine ob2_3 (nM hc fuel (s+1) MN (by exact ME h)) λr sn' er h1 h2=>?_
    refine ⟨r,sn',er,λp hp=>?_,λhr q hq1 hq2=>?_⟩
    ·refine ob0_4 (h1 p hp) λa b c d=>?_
     refine ⟨by exact Sl a,b,c,λq hq1 hq2=>?_⟩
     rcases Vl hq1 with rfl | hlt
     ·exact hn
     ·exact d q hlt hq2
    ·rcases Vl hq1 with rfl | hlt
     ·exact hn
     ·exact h2 hr q hlt hq2
noncomputable def mJ (t:Array Nat) (l p:Nat):Nat:=if t.getD p 0=13/\p+1<l/\t.getD (p+1) 0=10 then p+2 else p+1
theorem Nt {p:Nat} (h1:p<l) (hn:cV (t.getD p 0)=true):BN t l p (mJ t l p) (m2 t l p 10 p p true [fS p] 1 sn):=by
 unfold cV at hn
 rw [WO,beq_iff_eq,beq_iff_eq] at hn
 unfold mJ
 rcases hn with hn | hn
 ·rw [if_neg (by rw [hn];simp)]
  exact D0 h1 hn
 ·by_cases h:p+1<l/\t.getD (p+1) 0=10
  ·rw [if_pos ⟨hn,h⟩]
   exact yU h1 h.1 hn h.2
  ·rw [if_neg λhh=>h hh.2]
   exact D3 h1 hn λh2 h3=>h ⟨h2,h3⟩
theorem Ax {M:Model} {Q:Option V6->Shared->Prop} {sh:Shared} (hs:s<=l)
  (hyes:∀ p m',s<=p->p<l->cV (t.getD p 0)=true->(∀ q,s<=q->q<p->cV (t.getD q 0)=false)->m'.start=p->m'.handed=mJ t l p->Q (some m') sh)
  (hno:(∀ q,s<=q->q<l->cV (t.getD q 0)=false)->Q none sh) :
  wpAny M A (WW (Vr bL t 0 s l false)) Q E sh:=by
 rcases Vl hs with rfl | hlt
 ·have e:∃ sn,Vr bL t 0 s s false={code:=bL,text:=t,lim:=s,start:=s,pc:=10,pos:=s,handed:=s,marks:=#[],answer:=some false,seen:=sn}:=by
   unfold Vr
   show ∃ sn,(if (decide (s > s) || decide (s - s<(Wg bL).1))=true then _ else _:V6)=_
   rw [show (decide (s > s) || decide (s - s<(Wg bL).1))=true by rw [Nat.sub_self,show decide (0<(Wg bL).1)=true by decide +kernel,Bool.or_true]]
   exact ⟨_,rfl⟩
  refine ob1_1 e λsn e=>?_
  rw [e]
  refine dg (k:=1) (.succ rfl (.zero _)) (by decide) (.inr ⟨rfl,hno λq h1 h2=>by exact CZ h1 h2⟩)
 ·have e:∃ sn,Vr bL t 0 s l false=Sre.M.attemptFrom {code:=bL,text:=t,lim:=l,start:=s,lastStart:=l,pc:=10,pos:=s,handed:=s,marks:=#[],seen:=sn} s true:=by
   unfold Vr
   have h1:(decide (s > l) || decide (l - s<(Wg bL).1))=false:=by
    rw [show (Wg bL).1=1 from rfl]
    rw [W0]
    exact ⟨decide_eq_false (by exact Tt (S1 hlt)),decide_eq_false (by exact GA hlt)⟩
   show ∃ sn,(if (decide (s > l) || decide (l - s<(Wg bL).1))=true then _ else _:V6)=_
   rw [h1]
   exact ⟨_,rfl⟩
  refine ob1_1 e λsn e=>?_
  rw [e]
  generalize hm:({code:=bL,text:=t,lim:=l,start:=s,lastStart:=l,pc:=10,pos:=s,handed:=s,marks:=#[],seen:=sn}:V6)=m
  have hmt:m.text=t:=by rw [<- hm]
  have hml:m.lim=l:=by rw [<- hm]
  refine ob2_3 (nM (m:=m) (by rw [<- hm]) (m.lim+1 - s) s m.seen (by exact My hlt hml)) λr sn' er h1 h2=>?_
  have ea:Sre.M.attemptFrom m s true=match (Except.ok (r,sn'):Except String (Option Nat×Xp)) with
    | .ok (some s,seen)=>{m with mustAdvance:=false,seen}.attemptAt s true
    | .ok (none,seen)=>{m with seen}.say false
    | .error why=>m.stick why:=by
   unfold Sre.M.attemptFrom
   rw [show m.hasFirstSet=true by rw [<- hm];rfl,er]
   rfl
  rw [ea]
  cases r with
  | none =>
   refine dg (k:=1) (m':={m with seen:=sn',answer:=some false,outcome:=some .failed}) (.succ (by rw [<- hm];rfl) ?_) (by decide) (.inr ⟨rfl,hno λq hq1 hq2=>by rw [<- hmt];exact h2 rfl q hq1 (hml▸hq2)⟩)
   rw [<- hm];exact .zero _
  | some p =>
   refine ob0_4 (h1 p rfl) λa b c d=>?_
   rw [hmt] at c d
   rw [hml] at b
   refine ob2_5 (Nt (l:=l) (sn:=sn') b c) λk m' hk rr ho hst hh=>?_
   refine dg (k:=k) (m':=m') ?_ (R9 hk (by decide)) (.inl ⟨ho,hyes p m' a b c d hst hh⟩)
   rw [<- hm];exact rr
end
section
open PySem.Sre
noncomputable def cy:Array Nat:=#[14,4,0,1,1,6,1,16,46,1]
noncomputable def ki (s:Nat) (o:Bool):XC:={wait:=.nextStart,pc:=5,pos:=s,outermost:=o}
noncomputable def m1 (t:Array Nat) (l s:Nat) (pc pos hd:Nat) (o:Bool) (fr:List XC) (wt:Nat) (sn:Xp):V6 :=
 {code:=cy,text:=t,lim:=l,start:=s,lastStart:=l,pc:=pc,pos:=pos,handed:=hd,outermost:=o,marks:=#[],frames:=fr,weight:=wt,seen:=sn}
noncomputable def rE (t:Array Nat) (l s:Nat) (pc pos hd:Nat) (o:Bool) (fr:List XC) (wt:Nat) (sn:Xp) (a:Bool):V6 :=
 {code:=cy,text:=t,lim:=l,start:=s,lastStart:=l,pc:=pc,pos:=pos,handed:=hd,outermost:=o,marks:=#[],frames:=fr,weight:=wt,seen:=sn,answer:=some a}
variable {t:Array Nat} {l s pos hd:Nat} {o:Bool} {wt:Nat} {sn:Xp}
noncomputable def cY (t:Array Nat) (s:Nat):Bool:=s == 0 || t.getD (s - 1) 0 == 10
theorem J7 {b:Bool} (hb:cY t s=b):∃ sn',(m1 t l s 5 s s o [ki s o] 1 sn).step=if b then m1 t l s 7 s s o [ki s o] 1 sn' else rE t l s 5 s s o [ki s o] 1 sn' false:=by
 refine ⟨(sn.add 6).add 44,?_⟩
 have e:(m1 t l s 5 s s o [ki s o] 1 sn).step=if cY t s=true then m1 t l s 7 s s o [ki s o] 1 ((sn.add 6).add 44) else rE t l s 5 s s o [ki s o] 1 ((sn.add 6).add 44) false:=rfl
 rw [e,hb]
theorem Er:∃ sn',(m1 t l s 9 pos hd true [ki s true] 1 sn).step=rE t l s 9 pos pos true [ki s true] 1 sn' true:=⟨_,rfl⟩
theorem Bc:∃ sn',(m1 t l s 9 pos hd false [ki s false] 1 sn).step=rE t l s 9 pos pos false [ki s false] 1 sn' true:=⟨_,rfl⟩
theorem N1 {pc:Nat}:∃ sn',(rE t l s pc pos pos o [ki s o] 1 sn true).step=rE t l s 5 s pos o [] 0 sn' true:=⟨_,rfl⟩
theorem zm {pc:Nat} {b:Bool}:(rE t l s pc s pos o [] 0 sn b).step={rE t l s pc s pos o [] 0 sn b with outcome:=some (if b then .matched else .failed)}:=rfl
theorem oQ {pc:Nat}:∃ sn',(rE t l s pc pos hd o [ki s o] 1 sn false).step=if s<l then m1 t l (s+1) 5 (s+1) (s+1) false [ki (s+1) false] 1 sn' else rE t l s 5 s hd o [] 0 sn' false:=⟨_,rfl⟩
noncomputable def b7 (t:Array Nat) (l s:Nat):Bool:=cY t s && decide (s<l) && t.getD s 0 == 46
theorem MR:∀ (n:Nat) (s:Nat) (o:Bool) (sn:Xp),s<=l->l - s=n->∃ k m',k<=3 * n+8/\Reach k (m1 t l s 5 s s o [ki s o] 1 sn) m' /\
  ((∃ p,s<=p/\b7 t l p=true/\(∀ q,s<=q->q<p->b7 t l q=false)/\m'.outcome=some .matched/\m'.start=p/\m'.handed=p+1) \/
  ((∀ q,s<=q->b7 t l q=false)/\m'.outcome=some .failed)):=by
 intro n
 induction n with
 | zero =>
  intro s o sn hs hn
  have:s=l:=by exact MH hs hn
  subst this
  have nd:∀ q,s<=q->b7 t s q=false:=λq hq=>by
   unfold b7
   rw [decide_eq_false (by exact Tt hq:¬ q<s)]
   simp
  refine ob1_1 (J7 (t:=t) (l:=s) (s:=s) (o:=o) (sn:=sn) rfl) λs1 e1=>?_
  cases hb:cY t s with
  | false =>
   rw [hb] at e1
   simp only [Up,if_false] at e1
   refine ob1_1 (oQ (t:=t) (l:=s) (s:=s) (pos:=s) (hd:=s) (o:=o) (sn:=s1) (pc:=5)) λs2 e2=>?_
   rw [if_neg (SW _)] at e2
   refine ⟨3,{rE t s s 5 s s o [] 0 s2 false with outcome:=some .failed},by exact Sf _ _,.succ rfl ?_,.inr ⟨nd,rfl⟩⟩
   ·rw [e1];refine .succ rfl ?_
    rw [e2];refine .succ rfl ?_
    rw [zm];exact .zero _
  | true =>
   rw [hb] at e1
   simp only [if_true] at e1
   have e2:=f5 (m:=m1 t s s 7 s s o [ki s o] 1 s1) rfl rfl (by decide:7<10) rfl (λh=>absurd h (SW _))
   refine ob1_1 (oQ (t:=t) (l:=s) (s:=s) (pos:=s) (hd:=s) (o:=o) (sn:=s1.add 16) (pc:=7)) λs3 e3=>?_
   rw [if_neg (SW _)] at e3
   refine ⟨4,{rE t s s 5 s s o [] 0 s3 false with outcome:=some .failed},by exact Sf _ _,.succ rfl ?_,.inr ⟨nd,rfl⟩⟩
   ·rw [e1];refine .succ rfl ?_
    rw [e2];refine .succ rfl ?_
    show Reach 1 (rE t s s 7 s s o [ki s o] 1 (s1.add 16) false).step _
    rw [e3];refine .succ rfl ?_
    rw [zm];exact .zero _
 | succ n ih =>
  intro s o sn hs hn
  have hlt:s<l:=by exact MD hs hn
  refine ob1_1 (J7 (t:=t) (l:=l) (s:=s) (o:=o) (sn:=sn) rfl) λs1 e1=>?_
  have cont:b7 t l s=false->∀ sn',(∃ k m',k<=3 * n+8/\Reach k (m1 t l (s+1) 5 (s+1) (s+1) false [ki (s+1) false] 1 sn') m' /\
   ((∃ p,s<=p/\b7 t l p=true/\(∀ q,s<=q->q<p->b7 t l q=false)/\m'.outcome=some .matched/\m'.start=p/\m'.handed=p+1) \/
  ((∀ q,s<=q->b7 t l q=false)/\m'.outcome=some .failed))):=λnd sn'=>by
   refine ob2_3 (ih (s+1) false sn' (by exact S5 hlt) (by exact MB hs hn hlt)) λk m' hk r h=>?_
   refine ⟨k,m',hk,r,?_⟩
   rcases h with ⟨p,h1,h2,h3,h4⟩ | ⟨h1,h2⟩
   ·refine .inl ⟨p,by exact Sl h1,h2,λq hq1 hq2=>?_,h4⟩
    rcases Vl hq1 with rfl | hl
    ·exact nd
    ·exact h3 q hl hq2
   ·refine .inr ⟨λq hq1=>?_,h2⟩
    rcases Vl hq1 with rfl | hl
    ·exact nd
    ·exact h1 q hl
  cases hb:cY t s with
  | false =>
   rw [hb] at e1
   simp only [Up,if_false] at e1
   refine ob1_1 (oQ (t:=t) (l:=l) (s:=s) (pos:=s) (hd:=s) (o:=o) (sn:=s1) (pc:=5)) λs2 e2=>?_
   rw [if_pos hlt] at e2
   refine ob2_3 (cont (by unfold b7;rw [hb];rfl) s2) λk m' hk r h=>?_
   refine ⟨k+1+1,m',by exact MA hn hk,.succ rfl ?_,h⟩
   rw [e1];refine .succ rfl ?_
   rw [e2];exact r
  | true =>
   rw [hb] at e1
   simp only [if_true] at e1
   by_cases hc:t.getD s 0=46
   ·have e2:=pU (m:=m1 t l s 7 s s o [ki s o] 1 s1) rfl rfl (by decide:7<10) rfl hlt hc
    have e3:∃ sn',(m1 t l s 9 (s+1) s o [ki s o] 1 (s1.add 16)).step=rE t l s 9 (s+1) (s+1) o [ki s o] 1 sn' true:=by
     cases o
     ·exact Bc
     ·exact Er
    refine ob1_1 e3 λs3 e3=>?_
    refine ob1_1 (N1 (t:=t) (l:=l) (s:=s) (pos:=s+1) (o:=o) (sn:=s3) (pc:=9)) λs4 e4=>?_
    refine ⟨5,{rE t l s 5 s (s+1) o [] 0 s4 true with outcome:=some .matched},by exact Sf _ _,.succ rfl ?_,.inl ⟨s,Si _,?_,λq h1 h2=>by exact CZ h1 h2,⟨rfl,rfl,rfl⟩⟩⟩
    ·rw [e1];refine .succ rfl ?_
     rw [e2];refine .succ rfl ?_
     show Reach 2 (m1 t l s 9 (s+1) s o [ki s o] 1 (s1.add 16)).step _
     rw [e3];refine .succ rfl ?_
     rw [e4];refine .succ rfl ?_
     rw [zm];exact .zero _
    ·unfold b7;rw [hb,decide_eq_true hlt,hc];rfl
   ·have e2:=f5 (m:=m1 t l s 7 s s o [ki s o] 1 s1) rfl rfl (by decide:7<10) rfl (λz! => hc)
    refine ob1_1 (oQ (t:=t) (l:=l) (s:=s) (pos:=s) (hd:=s) (o:=o) (sn:=s1.add 16) (pc:=7)) λs3 e3=>?_
    rw [if_pos hlt] at e3
    refine ob2_3 (cont (by unfold b7;rw [beq_eq_false_iff_ne.mpr hc,Bool.and_false]) s3) λk m' hk r h=>?_
    refine ⟨k+1+1+1,m',by exact Mz hn hk,.succ rfl ?_,h⟩
    rw [e1];refine .succ rfl ?_
    rw [e2];refine .succ rfl ?_
    show Reach k (rE t l s 7 s s o [ki s o] 1 (s1.add 16) false).step _
    rw [e3];exact r
theorem Ay {M:Model} {Q:Option V6->Shared->Prop} {sh:Shared} (hs:s<=l) (hl:l<=2 ^ 30)
  (hyes:∀ p m',s<=p->b7 t l p=true->(∀ q,s<=q->q<p->b7 t l q=false)->m'.start=p->m'.handed=p+1->Q (some m') sh)
  (hno:(∀ q,s<=q->b7 t l q=false)->Q none sh) :
  wpAny M A (WW (Vr cy t 0 s l false)) Q E sh:=by
 rcases Vl hs with rfl | hlt
 ·have e:∃ sn,Vr cy t 0 s s false={code:=cy,text:=t,lim:=s,start:=s,pc:=5,pos:=s,handed:=s,marks:=#[],answer:=some false,seen:=sn}:=by
   unfold Vr
   show ∃ sn,(if (decide (s > s) || decide (s - s<(Wg cy).1))=true then _ else _:V6)=_
   rw [show (decide (s > s) || decide (s - s<(Wg cy).1))=true by rw [Nat.sub_self,show decide (0<(Wg cy).1)=true by decide +kernel,Bool.or_true]]
   exact ⟨_,rfl⟩
  refine ob1_1 e λsn e=>?_
  rw [e]
  refine dg (k:=1) (.succ rfl (.zero _)) (by decide) (.inr ⟨rfl,hno λq h1=>?_⟩)
  unfold b7
  rw [decide_eq_false (by exact Tt h1:¬ q<s)]
  simp
 ·have e:∃ sn,Vr cy t 0 s l false=m1 t l s 5 s s true [ki s true] 1 sn:=by
   unfold Vr
   have h1:(decide (s > l) || decide (l - s<(Wg cy).1))=false:=by
    rw [show (Wg cy).1=1 from rfl]
    rw [W0]
    exact ⟨decide_eq_false (by exact Tt (S1 hlt)),decide_eq_false (by exact GA hlt)⟩
   show ∃ sn,(if (decide (s > l) || decide (l - s<(Wg cy).1))=true then _ else _:V6)=_
   rw [h1]
   exact ⟨_,rfl⟩
  refine ob1_1 e λsn e=>?_
  rw [e]
  refine ob2_3 (MR (t:=t) (l:=l) (l - s) s true sn hs rfl) λk m' hk r h=>?_
  refine dg (k:=k) (m':=m') r ?_ ?_
  ·exact R9 hk (R9 (Um (Nat.mul_le_mul_left 3 (R9 (Uu _ _) hl)) 8) (Sz rfl))
  ·rcases h with ⟨p,h1,h2,h3,h4,h5,h6⟩ | ⟨h1,h2⟩
   ·exact .inl ⟨h4,hyes p m' h1 h2 h3 h5 h6⟩
   ·exact .inr ⟨h2,hno h1⟩
end
section
open PySem.Builtin.Re PySem.Builtin
structure d7 (h:Heap) (a ct:Addr) (code:Array Nat):Prop where
 pat:∃ src fl t,h.get? a=some {cls:=.type "re.Pattern",data:=.fields #[src,.int fl t,.int 0 0,.none,.none,.ref ct,.int 0 0]}
 tup:∃ items n,h.get? ct=some {cls:=.type "tuple",data:=.seq items n}/\(items.map reRawOf).map (·.toNat)=code
theorem d7.keeps {a ct code} (x:d7 h a ct code) (k:∀ b o,h.get? b=some o->h'.get? b=some o):d7 h' a ct code :=
 ⟨x.pat.imp λsrc h_=>h_.imp λfl h_=>h_.imp λt e=>k _ _ e,x.tup.imp λi h_=>h_.imp λn zz=>zz.elim λe f=>⟨k _ _ e,f⟩⟩
theorem pH {Q:ReTarget->Shared->Prop} {a ct:Addr} {code:Array Nat} {t:Tok} (p:d7 s.heap a ct code)
  (hQ:Q {pattern:=.ref a,string:=.str x t,code:=code,text:=x.cps,kind:=0,groups:=0,pos:=0,lim:=x.cps.size} s):wpAny (model prog w) A (reWholeTarget (.ref a) (.str x t)) Q E s:=by
 refine ob3_1 p.pat λsrc fl tt hp=>?_
 refine ob2_2 p.tup λitems n ht hc=>?_
 unfold reWholeTarget
 refine R7 (WD hp rfl ?_)
 refine R7 (Tw (show reTextOf (.str x t)=pure (x.cps,0) from rfl) ?_)
 show wpAny _ _ (if ((0:Nat) == 0 && (0:Nat) == 1)=true then _ else _) _ _ _
 rw [if_neg (by decide)]
 show wpAny _ _ (if ((0:Nat) == 1 && (0:Nat) == 0)=true then _ else _) _ _ _
 rw [if_neg (by decide)]
 refine R7 (Tw (show reNoCollectionInside (.str x t) 0=pure () from rfl) ?_)
 refine R7 ?_
 show wpAny _ _ (reRawItems (.ref ct)) _ _ _
 unfold reRawItems
 refine R7 (Ve ht rfl (R8 ?_))
 refine R8 ?_
 show Q {pattern:=.ref a,string:=.str x t,code:=(items.map reRawOf).map (·.toNat),text:=x.cps,kind:=0,groups:=0,pos:=0,lim:=x.cps.size} s
 rw [hc]
 exact hQ
noncomputable def cA (next:Nat->Option (Nat×Nat)) (x r:Str):Nat->Nat->List Str
 | 0,_=>[]
 | fuel+1,done=>match next done with
  | some (b,e)=>(if done<b then [⟨x.cps.extract done b⟩] else [])++r::cA next x r fuel e
  | none=>if done<x.cps.size then [⟨x.cps.extract done x.cps.size⟩] else []
structure rC (code:Array Nat) (text:Array Nat) (next:Nat->Option (Nat×Nat)):Prop where
 run:∀ (M:Model) (A:Around) (E:Value->Shared->Prop) (Q:Option V6->Shared->Prop) (sh:Shared) (start:Nat),start<=text.size ->
  (∀ b e m',next start=some (b,e)->m'.start=b->m'.handed=e->Q (some m') sh)->(next start=none->Q none sh) ->
  wpAny M A (reRunToEnd (Vr code text 0 start text.size false)) Q E sh
 ok:∀ s b e,next s=some (b,e)->s<=b/\b<e/\e<=text.size
theorem jf (l m:List (Str×Tok)):strValues (l++m)=strValues l++strValues m:=by
 unfold strValues;simp
theorem ji {l:List (Str×Tok)} {v:Tok} (hL:h.get? L=some {cls:=.type "list",data:=.seq (strValues l).toArray c}) :
  ∃ c',(h.update L (U6 λxs=>xs.push (.str y v))).get? L=some {cls:=.type "list",data:=.seq (strValues (l++[(y,v)])).toArray c'}:=by
 have hI:IsL h L (strValues l).toArray c:=hL
 have hu:=hI.update (λxs=>xs.push (.str y v))
 have e:(strValues l).toArray.push (.str y v)=(strValues (l++[(y,v)])).toArray:=by
  rw [jf];simp [strValues]
 rw [e] at hu
 exact ⟨_,hu⟩
theorem d7.keep {a ct:Addr} {code:Array Nat} (p:d7 h a ct code) (k1:h'.get? a=h.get? a) (k2:h'.get? ct=h.get? ct):d7 h' a ct code:=by
 obtain ⟨⟨src,fl,tt,pe⟩,⟨items,nn,te,tc⟩⟩:=p
 exact ⟨⟨src,fl,tt,k1.trans pe⟩,⟨items,nn,k2.trans te,tc⟩⟩
theorem PK {h s f:Nat} (h1:a - d<f+1) (h2:d<=s) (h3:s<h) (h4:h<=a):a - h<f:=have e:=TQ h2 h3;Sd (Xh (Sd e h4) e) (VP h1)
theorem iM:lim<=sizeLine:=by decide
theorem zo {x:Array Nat} (h:x.size<=lim):(⟨x.extract i j⟩:Str).length<=sizeLine :=
 R9 (R9 (by show (x.extract i j).size<=_;rw [Xz];exact R9 (Uu ..) (V_ ..)) h) iM
theorem xr {m:Nat} (h:n+m<=lim):n<=sizeLine/\n+1<=sizeLine+1:=have e:=R9 (R9 (Th ..) h) iM;⟨e,TF e⟩
theorem nV (l:List (Str×Tok)):(strValues l).toArray.size=l.length:=by simp [strValues]
theorem j6 {l:List (Str×Tok)} {m:Nat} (h:l.length+m<=lim):(strValues l).toArray.size<=sizeLine/\((strValues l).toArray.push v).size<=sizeLine+1:=by
 rw [Array.size_push,nV];exact xr h
theorem kD {prog:Program} {w:World} {code:Array Nat} {next:Nat->Option (Nat×Nat)} {x r:Str} {t u:Tok} {a ct L:Addr} (hf:rC code x.cps next) (hx:x.length<=lim) (NN:L≠a) (NL:L≠ct) :
  ∀ (fuel done:Nat) (n:Int) (l:List (Str×Tok)) (c:Nat) (A:Around) (R:Result->Shared->Prop) (s:Shared),x.cps.size - done<fuel->done<=x.cps.size->d7 s.heap a ct code ->
   s.heap.get? L=some {cls:=.type "list",data:=.seq (strValues l).toArray c}->l.length+(cA next x r fuel done).length<=lim ->
   ((l.map (·.1)++cA next x r fuel done).map (·.length)).sum<=lim ->
   (∀ h' tk t',Uc L s.heap h'->(∃ o,h'.get? L=some o)->R (.ok (.ret (.str (Sx "" (l.map (·.1)++cA next x r fuel done)) t'))) {s with heap:=h',toks:=tk}) ->
   wpAny (model prog w) A.in1 (Builtin.«re.Pattern.sub.loop» ⟨[.ref a,.str x t,.str r u,rawInt 0,rawInt 0,rawInt n,rawInt done,rawInt done,.bool false,.ref L,.bool false],[]⟩)
    (λfin s'=>match fin with | .done f=>R (.ok f) s' | .again c'=>c'.quiet=true/\codeAny (model prog w) A c' R s') (λe s'=>R (.error e) s') s
 | 0,done,n,l,c,A,R,s,hfu,hd,p,hL,hn,hsum,hR=>absurd hfu (Nat.not_lt_zero _)
 | fuel+1,done,n,l,c,A,R,s,hfu,hd,p,hL,hn,hsum,hR=>by
  unfold Builtin.«re.Pattern.sub.loop»
  refine R7 (m:=reWholeTarget (.ref a) (.str x t)) (pH p ?_)
  refine R7 (m:=reLiteralCannotBeTurned (.str r u)) (Tw (show reLiteralCannotBeTurned (.str r u)=pure () from rfl) (R7 (m:=reRunToEnd _) ?_))
  refine hf.run _ _ _ _ _ done hd (λb e m' K4 hb he=>?_) (λK4=>?_)
  ·subst hb he
   refine ob0_3 (hf.ok _ _ _ K4) λo1 o2 o3=>?_
   have es:cA next x r (fuel+1) done=(if done<m'.start then [⟨x.cps.extract done m'.start⟩] else [])++r::cA next x r fuel m'.handed:=by
    rw [cA,K4]
   have Qx:(XX r u != VT)=true:=rfl
   have za:∀ (s₁:Shared) (l₁:List (Str×Tok)) (c₁:Nat),s₁.heap.get? L=some {cls:=.type "list",data:=.seq (strValues l₁).toArray c₁}->l₁.map (·.1)=l.map (·.1)++(if done<m'.start then [⟨x.cps.extract done m'.start⟩] else []) ->
     Uc L s.heap s₁.heap->s₁={s with heap:=s₁.heap,toks:=s₁.toks} ->
     wpAny (model prog w) A.in1 (do
       let item<-pure (XX r u)
       if (item != VT)=true then do
        updateSeq L λx=>x.push item
        again (Code.builtin "re.Pattern.sub.loop" {pos:=[Vc a,XX x t,XX r u,rawInt 0,rawInt 0,rawInt (n+1),rawInt ↑m'.handed,rawInt ↑m'.handed,Value.bool (m'.handed == m'.start),Vc L,Value.bool false]})
       else again (Code.builtin "re.Pattern.sub.loop" {pos:=[Vc a,XX x t,XX r u,rawInt 0,rawInt 0,rawInt (n+1),rawInt ↑m'.handed,rawInt ↑m'.handed,Value.bool (m'.handed == m'.start),Vc L,Value.bool false]}))
      (λfin s'=>match fin with | .done f=>R (.ok f) s' | .again c'=>c'.quiet=true/\codeAny (model prog w) A c' R s') (λe s'=>R (.error e) s') s₁:=by
    intro s₁ l₁ c₁ gS hl₁ hs₁ es₁
    have hn2:l₁.length+1+(cA next x r fuel m'.handed).length<=lim:=by
     have h1:=congrArg V7 hl₁
     rw [Sa,Sy,Sa] at h1
     rw [es,Sy,S_] at hn
     rw [h1,UJ,Vj 1,UJ]
     exact hn
    have Nn:l₁.length+(cA next x r fuel m'.handed).length+1<=lim:=by rw [Vm];exact hn2
    refine R7 (R8 ?_)
    rw [if_pos Qx]
    refine R7 (VC gS rfl ?_ ?_ ?_)
    ·refine R8 ⟨Vs cI _,UY gw ?_⟩
     rw [T_ cI _]
     rw [beq_eq_false_iff_ne.mpr (Vi o2)]
     refine ob1_1 (ji (y:=r) (v:=u) gS) λc₂ JZ=>?_
     have A1:Uc L s₁.heap (s₁.heap.update L (U6 λxs=>xs.push (.str r u))):=.update ..
     have J8:(l₁++[(r,u)]).map (·.1)++cA next x r fuel m'.handed=l.map (·.1)++cA next x r (fuel+1) done:=by
      rw [es,S4,hl₁];simp
     refine kD hf hx NN NL fuel m'.handed (n+1) (l₁++[(r,u)]) c₂ A R _ (PK hfu o1 o2 o3) o3 (p.keep ((A1.2 a NN.symm).trans (hs₁.2 a NN.symm)) ((A1.2 ct NL.symm).trans (hs₁.2 ct NL.symm))) JZ ?_ ?_ ?_
     ·rw [Sy];exact hn2
     ·rw [J8];exact hsum
     ·intro h' tk t' hs' hal
      rw [J8]
      have:({s₁ with heap:=h',toks:=tk}:Shared)={s with heap:=h',toks:=tk}:=by rw [es₁]
      show R _ ({s₁ with heap:=h',toks:=tk}:Shared)
      rw [this]
      exact hR h' tk t' ⟨hs'.1.trans (A1.1.trans hs₁.1),λb' hb'=>(hs'.2 b' hb').trans ((A1.2 b' hb').trans (hs₁.2 b' hb'))⟩ hal
    ·rw [nV]
     exact R9 (R9 (SE (Th ..)) Nn) iM
    ·rw [Array.size_push,nV]
     exact SE (R9 (R9 (Th ..) hn2) iM)
   show wpAny _ _ (if done<m'.start then _ else _) _ _ _
   by_cases hdb:done<m'.start
   ·refine Mine.rwT (if_pos hdb) ?_
    refine R7 (wpAny_mkStr (x:=⟨x.cps.extract done m'.start⟩) ?_ (zo hx))
    refine R7 (VC (s:={s with toks:=s.toks+1}) hL rfl ?_ (j6 (v:=.none) hn).1 (j6 hn).2)
    rw [if_pos (by decide)]
    refine ob1_1 (ji (y:=⟨x.cps.extract done m'.start⟩) (v:=s.toks) hL) λc₁ gS=>?_
    refine za {s with heap:=s.heap.update L (U6 λxs=>xs.push (.str ⟨x.cps.extract done m'.start⟩ s.toks)),toks:=s.toks+1} (l++[(⟨x.cps.extract done m'.start⟩,s.toks)]) c₁ gS (by refine Mine.rwT (if_pos hdb) ?_;simp) (.update ..) rfl
   ·rw [if_neg hdb,if_pos (by decide)]
    exact za s l c hL (by refine Mine.rwT (if_neg hdb) ?_;simp) (.refl ..) rfl
  ·dsimp only
   have es:cA next x r (fuel+1) done=if done<x.cps.size then [⟨x.cps.extract done x.cps.size⟩] else []:=by
    rw [cA,K4]
   have za:∀ (s₁:Shared) (l₁:List (Str×Tok)) (c₁:Nat),s₁.heap.get? L=some {cls:=.type "list",data:=.seq (strValues l₁).toArray c₁}->l₁.map (·.1)=l.map (·.1)++cA next x r (fuel+1) done ->
     Uc L s.heap s₁.heap->s₁={s with heap:=s₁.heap,toks:=s₁.toks} ->
     wpAny (model prog w) A.in1 (do
      let yF<-reSlice x.cps 0 0 0
      let __do_lift<-seqItems? (Vc L)
      if (__do_lift.getD #[]).isEmpty=true then do
       let text<-pure yF
       if false=true then do
        let __do_lift<-holding [text] do
         let __do_lift<-mkInt n
         newTuple [text,__do_lift]
        ret __do_lift
       else ret text
      else do
       let text<-call (Vf (if ((0:Nat) == 0)=true then "str.join" else "bytes.join")) [yF,Vc L]
       if false=true then do
        let __do_lift<-holding [text] do
         let __do_lift<-mkInt n
         newTuple [text,__do_lift]
        ret __do_lift
       else ret text)
      (λfin s'=>match fin with | .done f=>R (.ok f) s' | .again c'=>c'.quiet=true/\codeAny (model prog w) A c' R s') (λe s'=>R (.error e) s') s₁:=by
    intro s₁ l₁ c₁ gS hl₁ hs₁ es₁
    have e0:(⟨x.cps.extract 0 0⟩:Str)="":=by
     show (⟨x.cps.extract 0 0⟩:Str)=⟨#[]⟩
     simp
    have fin:∀ tk t',R (.ok (.ret (.str (Sx "" (l₁.map (·.1))) t'))) {s₁ with toks:=tk}:=λtk t'=>by
     rw [hl₁]
     have:({s₁ with toks:=tk}:Shared)={s with heap:=s₁.heap,toks:=tk}:=by rw [es₁]
     rw [this]
     exact hR _ _ _ hs₁ ⟨_,gS⟩
    refine R7 (wpAny_mkStr (x:=⟨x.cps.extract 0 0⟩) ?_ (by rw [e0];decide))
    rw [e0]
    refine R7 (Ve (s:={s₁ with toks:=s₁.toks+1}) gS rfl ?_)
    by_cases hem:l₁=[]
    ·subst hem
     rw [if_pos (by rfl)]
     exact R8 (fin (s₁.toks+1) s₁.toks)
    ·rw [if_neg (by cases l₁ with | nil=>exact absurd rfl hem | cons a b=>simp [strValues])]
     refine R7 ?_
     show wpAny _ _ (call (.builtin "str.join") [.str "" s₁.toks,.ref L]) _ _ _
     refine SC.join (l:=l₁) (texts:=l₁.map (·.1)) ⟨_,gS,rfl,c₁,rfl⟩ rfl (joinOk_of ?_) λt' k=>?_
     ·have h1:=hsum
      rw [<- hl₁] at h1
      rw [show ("":Str).length=0 from rfl]
      rw [Nat.mul_zero]
      exact R9 h1 (Sz rfl)
     ·rw [show Txt.join "" (l₁.map (·.1))=Sx "" (l₁.map (·.1)) from Wj ..]
      exact R8 (fin k t')
   by_cases hdb:done<x.cps.size
   ·refine Mine.rwT (if_pos hdb) ?_
    refine R7 (wpAny_mkStr (x:=⟨x.cps.extract done x.cps.size⟩) ?_ (zo hx))
    refine R7 (VC (s:={s with toks:=s.toks+1}) hL rfl ?_ (j6 (v:=.none) hn).1 (j6 hn).2)
    refine ob1_1 (ji (y:=⟨x.cps.extract done x.cps.size⟩) (v:=s.toks) hL) λc₁ gS=>?_
    exact za {s with heap:=s.heap.update L (U6 λxs=>xs.push (.str ⟨x.cps.extract done x.cps.size⟩ s.toks)),toks:=s.toks+1} (l++[(⟨x.cps.extract done x.cps.size⟩,s.toks)]) c₁ gS (by rw [es,if_pos hdb];simp) (.update ..) rfl
   ·refine Mine.rwT (if_neg hdb) ?_
    exact za s l c hL (by rw [es,if_neg hdb];simp) (.refl ..) rfl
noncomputable def vg (next:Nat->Option (Nat×Nat)) (x r:Str):Str:=Sx "" (cA next x r (x.length+1) 0)
theorem pS:typeLookup (.type "str") "__call__"=pure none:=by rw [T6,Tj];kernel_rfl
theorem C2 {code:Array Nat} {r:Str} {t u:Tok} {a ct:Addr} (hf:rC code x.cps next) (hx:x.length<=lim) (hr:r.cps.contains 92=false)
  (p:d7 s.heap a ct code) (hn:(cA next x r (x.length+1) 0).length<=lim) (hsum:((cA next x r (x.length+1) 0).map (·.length)).sum<=lim)
  (hQ:∀ h' tk t',(∀ b o,s.heap.get? b=some o->h'.get? b=some o)->Q (.str (vg next x r) t') {s with heap:=h',toks:=tk}) :
  wpAny (model prog w) A (call (.builtin "re.Pattern.sub") [.ref a,.str r u,.str x t]) Q E s:=by
 refine ob3_1 p.pat λsrc fl tt hp=>?_
 refine call_meetsIn (S:=λA R s'=>s'=s/\R=wants Q E) fj ⟨_,hp,rfl⟩ mH (o8 _ _ _) (λA R s' h=>?_) ⟨rfl,rfl⟩
 refine ob0_2 h λbM aB=>?_;obtain rfl:=bM;obtain rfl:=aB
 unfold Builtin.«re.Pattern.sub» reSubstitute
 show wpAny _ _ (reNamed "re.Pattern.sub" "sub" ["repl","string","count"] 2 [.str r u,.str x t] [] >>= _) _ _ _
 refine R7 (Tw (show reNamed "re.Pattern.sub" "sub" ["repl","string","count"] 2 [.str r u,.str x t] []=pure [some (.str r u),some (.str x t),none] from rfl) ?_)
 dsimp only
 refine R7 (R8 ?_)
 refine R7 (WR (Wf _ _ _) pS ?_)
 rw [if_neg (by decide)]
 refine R7 (Tw (show asStr? (.str r u)=pure (some r) from rfl) ?_)
 dsimp only
 refine R7 (R8 ?_)
 rw [if_neg (by decide),if_pos (by rw [hr];rfl)]
 refine R7 (R8 ?_)
 dsimp only
 refine R7 (Sj (pH p ?_))
 rw [if_neg (by decide)]
 refine R7 (TL ?_)
 have hlim:lim=1048576:=by decide
 refine ob2_2 p.tup λitems nn hct hc=>?_
 have ha:s'.heap.objs.size≠a:=Ne.symm (TP (SY hp))
 have hb:s'.heap.objs.size≠ct:=Ne.symm (TP (SY hct))
 refine R8 ⟨Vs cI _,UY gw ?_⟩
 rw [T_ cI _]
 refine kD hf hx ha hb (x.length+1) 0 0 [] 0 A _ {s' with heap:=s'.heap.push {cls:=.type "list",data:=.seq #[]}} (Sp (Uu _ _)) (SX _)
  (p.keeps λb o e=>Sg _ e) (Sn _ rfl) (by simpa using hn) (by simpa using hsum) (λh' tk t' hs' hal=>?_)
 show Q _ _
 refine hQ h' tk t' λb o e=>?_
 exact (hs'.2 b (TP (SY e))).trans (Sg _ e)
end
section
open PySem.Builtin.Re PySem.Builtin
noncomputable def bJ (p:Nat->Bool) (l:Nat):Nat->Nat->Option Nat
 | 0,_=>none
 | n+1,s=>if s<l then (if p s then some s else bJ p l n (s+1)) else none
theorem bW {p:Nat->Bool} {l:Nat}:∀ (n s:Nat) {q:Nat},bJ p l n s=some q->s<=q/\q<l/\p q=true/\∀ k,s<=k->k<q->p k=false
 | 0,s,q,h=>by cases h
 | n+1,s,q,h=>by
  rw [bJ] at h
  by_cases hs:s<l
  ·rw [if_pos hs] at h
   by_cases hp:p s=true
   ·rw [if_pos hp] at h;cases h
    exact ⟨Si _,hs,hp,λk h1 h2=>absurd h2 (Tt h1)⟩
   ·rw [if_neg hp] at h
    refine ob0_4 (bW n (s+1) h) λa b c d=>?_
    exact ⟨Sl a,b,c,λk h1 h2=>(Vl h1).elim (λe=>e▸eq_false_of_ne_true hp) λhl=>d k hl h2⟩
  ·rw [if_neg hs] at h;cases h
theorem cZ {p:Nat->Bool} {l:Nat}:∀ (n s:Nat),l<=s+n->bJ p l n s=none->∀ k,s<=k->k<l->p k=false
 | 0,s,hn,h,k,h1,h2=>absurd (Sd h2 hn) (Tt h1)
 | n+1,s,hn,h,k,h1,h2=>by
  rw [bJ,if_pos (TQ h1 h2)] at h
  by_cases hp:p s=true
  ·rw [if_pos hp] at h;cases h
  ·rw [if_neg hp] at h
   exact (Vl h1).elim (λe=>e▸eq_false_of_ne_true hp) λhl=>cZ n (s+1) (R9 hn (So (Nat.succ_add s n).symm)) h k hl h2
theorem oM (l s:Nat):l<=s+(l+1):=R9 (Uj l) (Sf ..)
theorem uy {p:Nat->Bool} {l s q:Nat} (h1:s<=q) (h2:q<l) (h3:p q=true) (h4:∀ k,s<=k->k<q->p k=false):bJ p l (l+1) s=some q:=by
 cases hf:bJ p l (l+1) s with
 | none=>exact absurd (h3.symm.trans (cZ _ _ (oM l s) hf q h1 h2)) (by decide)
 | some k =>
  refine ob0_4 (bW _ _ hf) λa b c d=>?_
  rcases Nat.lt_trichotomy k q with hl | he | hg
  ·exact absurd (c.symm.trans (h4 k a hl)) (by decide)
  ·rw [he]
  ·exact absurd (h3.symm.trans (d q h1 hg)) (by decide)
theorem ux {p:Nat->Bool} {l s:Nat} (h:∀ k,s<=k->k<l->p k=false):bJ p l (l+1) s=none:=by
 cases hf:bJ p l (l+1) s with
 | none=>rfl
 | some k =>
  refine ob0_4 (bW _ _ hf) λa b c d=>?_
  exact absurd (c.symm.trans (h k a b)) (by decide)
theorem qM {p:Nat->Bool} {l s e:Nat} {f:Nat->Nat} (h:((bJ p l (l+1) s).map λq=>(q,f q))=some (b,e)):s<=b/\b<l/\e=f b:=by
 refine ob1_2 (S6.mp h) λq hq e=>?_
 cases e
 refine ob0_4 (bW _ _ hq) λa b c d=>?_
 exact ⟨a,b,rfl⟩
noncomputable def nl (t:Array Nat) (q:Nat):Bool:=cV (t.getD q 0)
noncomputable def jH (t:Array Nat) (s:Nat):Option (Nat×Nat):=(bJ (nl t) t.size (t.size+1) s).map λp=>(p,mJ t t.size p)
noncomputable def jI (t:Array Nat) (s:Nat):Option (Nat×Nat):=(bJ (b7 t t.size) t.size (t.size+1) s).map λp=>(p,p+1)
theorem uF {t:Array Nat} {p:Nat} (h:p<t.size):p<mJ t t.size p/\mJ t t.size p<=t.size:=by
 unfold mJ
 by_cases hc:t.getD p 0=13/\p+1<t.size/\t.getD (p+1) 0=10
 ·rw [if_pos hc];exact ⟨Td (UG p),hc.2.1⟩
 ·rw [if_neg hc];exact ⟨UG p,h⟩
theorem zh (t:Array Nat):rC bL t (jH t) where
 run:=λM A E Q sh s hs hy hn=>Ax hs (λp m' h1 h2 h3 h4 h5 h6=>hy p (mJ t t.size p) m' (by rw [jH,uy (p:=nl t) h1 h2 h3 h4];rfl) h5 h6) λh=>hn (by rw [jH,ux (p:=nl t) h];rfl)
 ok:=λs b e h=>by
  refine ob0_3 (qM h) λh1 h2 az=>?_;obtain rfl:=az
  exact ⟨h1,uF h2⟩
theorem Ew {t:Array Nat} {p l:Nat} (h:b7 t l p=true):p<l:=by
 unfold b7 at h
 exact of_decide_eq_true (Tp.mp (Tp.mp h).1).2
theorem zj (t:Array Nat) (ht:t.size<=lim):rC cy t (jI t) where
 run:=λM A E Q sh s hs hy hn=>Ay hs (R9 ht (by decide)) (λp m' h1 h3 h4 h5 h6=>hy p (p+1) m' (by rw [jI,uy h1 (Ew h3) h3 h4];rfl) h5 h6) λh=>hn (by rw [jI,ux λk hk z! => h k hk];rfl)
 ok:=λs b e h=>by
  refine ob0_3 (qM h) λh1 h2 az=>?_;obtain rfl:=az
  exact ⟨h1,UG _,h2⟩
noncomputable def crlf:List Nat->List Nat
 | []=>[]
 | [c]=>if cV c then [13,10] else [c]
 | c::d::r=>if c=13/\d=10 then 13::10::crlf r else if cV c then 13::10::crlf (d::r) else c::crlf (d::r)
noncomputable def dots:Bool->List Nat->List Nat
 | _,[]=>[]
 | b,c::r=>(if b && c == 46 then [46,46] else [c])++dots (c == 10) r
theorem lP {r:List Nat} (h:cV c=false):crlf (c::r)=c::crlf r:=by
 have Ri:¬ c=13:=by rintro rfl;cases h
 cases r with
 | nil=>show (if cV c=true then [13,10] else [c])=_;rw [h];rfl
 | cons d r=>rw [crlf,if_neg (λhh=>Ri hh.1),h];rfl
theorem lQ:∀ (pre:List Nat) (r:List Nat),(∀ c∈pre,cV c=false)->crlf (pre++r)=pre++crlf r
 | [],r,_=>rfl
 | c::pre,r,h=>by
  rw [UZ,lP (h c (R_ ..)),lQ pre r λc hc=>h c (Sb _ hc)];rfl
theorem jn:∀ (ys:List Str),(Sx "" ys).cps.toList=(ys.map λy=>y.cps.toList).flatten
 | []=>rfl
 | [x]=>by simp [Sx]
 | x::y::r=>by
  rw [show Sx "" (x::y::r)=x++""++Sx "" (y::r) from rfl,SV,Vv,<- jn (y::r)]
  show ((x.cps ++ #[])++(Sx "" (y::r)).cps).toList=_
  simp
theorem eL {t:Array Nat} {p:Nat} (h:p<t.size):t.toList.drop p=t.getD p 0::t.toList.drop (p+1):=by
 rw [Xd (by simpa using h)]
 simp [Array.getD,h]
theorem lK {t:Array Nat} {p:Nat} (h1:d<=p) (h2:p<=t.size):t.toList.drop d=(t.extract d p).toList++t.toList.drop p:=by
 rw [UU]
 have:t.toList.drop p=(t.toList.drop d).drop (p - d):=by rw [List.drop_drop];congr 1;exact Eq.symm (Us h1)
 rw [this]
 show _=(t.toList.drop d).take (p - d)++_
 rw [Ud]
theorem jJ {t:Array Nat} {p:Nat} (h:c∈(t.extract d p).toList):∃ q,d<=q/\q<p/\q<t.size/\t.getD q 0=c:=by
 refine ob1_1 (List.getElem_of_mem h) λi aA=>?_;refine ob1_1 aA λhi e=>?_
 have hi':i<(t.extract d p).size:=hi
 rw [Xz] at hi'
 have h2:d+i<min p t.size:=Nat.add_lt_of_lt_sub' hi'
 have h3:=Sd h2 (V_ ..)
 refine ⟨d+i,Th ..,Sd h2 (Nat.min_le_left ..),h3,?_⟩
 rw [<- e]
 simp [Array.getD,h3]
theorem uv {f e:Nat} (h:n<d+(f+1)) (he:d<e):n<e+f:=Sd h (R9 (So (Nat.succ_add d f).symm) (Um he f))
theorem i0 {p:Nat} (h:d<=p):((if d<p then [(⟨x.cps.extract d p⟩:Str)] else []).map λy=>y.cps.toList).flatten=(x.cps.extract d p).toList:=by
 by_cases hl:d<p
 ·rw [if_pos hl];exact SI _
 ·rw [if_neg hl,TU h (TS hl),Array.extract_empty_of_stop_le_start (Si p)];rfl
theorem qQ (t:Array Nat):t.toList.drop t.size=[]:=T3 (Si _)
theorem tT (x:Str):∀ (fuel done:Nat),x.cps.size<done+fuel->done<=x.cps.size ->
  ((cA (jH x.cps) x ⟨#[13,10]⟩ fuel done).map λy=>y.cps.toList).flatten=crlf (x.cps.toList.drop done)
 | 0,done,h,hd=>absurd h (Tt hd)
 | fuel+1,done,h,hd=>by
  rw [cA]
  cases hf:bJ (nl x.cps) x.cps.size (x.cps.size+1) done with
  | none =>
   rw [jH,hf]
   have hno:=cZ _ _ (oM ..) hf
   have hc:∀ c∈(x.cps.extract done x.cps.size).toList,cV c=false:=λc hc=>by
    refine ob1_4 (jJ hc) λq h1 h2 h3 wW=>?_;obtain rfl:=wW
    exact hno q h1 h2
   exact (i0 hd).trans (by rw [lK hd (Si _),lQ _ _ hc,qQ];exact (SI _).symm)
  | some p =>
   refine ob0_4 (bW _ _ hf) λa b c d=>?_
   rw [jH,hf]
   have ne:=uF b
   have hc:∀ c∈(x.cps.extract done p).toList,cV c=false:=λc hc=>by
    refine ob1_4 (jJ hc) λq h1 h2 h3 wW=>?_;obtain rfl:=wW
    exact d q h1 h2
   show (((if done<p then [(⟨x.cps.extract done p⟩:Str)] else [])++⟨#[13,10]⟩::cA (jH x.cps) x ⟨#[13,10]⟩ fuel (mJ x.cps x.cps.size p)).map λy=>y.cps.toList).flatten=_
   rw [S4,SV,List.flatten_append,Vv,tT x fuel _ (uv h (TQ a ne.1)) ne.2,i0 a,lK a (S1 b),lQ _ _ hc]
   refine congrArg _ ?_
   show 13::10::crlf _=_
   rw [eL b]
   unfold mJ
   by_cases hc:x.cps.getD p 0=13/\p+1<x.cps.size/\x.cps.getD (p+1) 0=10
   ·rw [if_pos hc,eL hc.2.1,crlf,if_pos ⟨hc.1,hc.2.2⟩]
   ·rw [if_neg hc]
    by_cases hp:p+1<x.cps.size
    ·rw [eL hp,crlf,if_neg (λhh=>hc ⟨hh.1,hp,hh.2⟩),if_pos (show cV (x.cps.getD p 0)=true from c)]
    ·rw [T3 (TS hp)]
     show _=(if cV (x.cps.getD p 0)=true then [13,10] else [x.cps.getD p 0])
     rw [if_pos (show cV (x.cps.getD p 0)=true from c)];try rfl
theorem ua (t:Array Nat) (d:Nat):cY t (d+1)=(t.getD d 0 == 10):=by
 unfold cY
 rw [show (d+1 == 0)=false from rfl,Bool.false_or,T7]
theorem lM (t:Array Nat):∀ (n d:Nat),d+n<=t.size->(∀ q,d<=q->q<d+n->b7 t t.size q=false) ->
  dots (cY t d) (t.toList.drop d)=(t.toList.drop d).take n++dots (cY t (d+n)) (t.toList.drop (d+n))
 | 0,d,h2,h3=>rfl
 | n+1,d,h2,h3=>by
  have hs:d+1+n=d+(n+1):=Nat.succ_add d n
  have hd:d<t.size:=Sd (Nat.lt_add_of_pos_right (Xb n)) h2
  have h0:=h3 d (Si _) (Nat.lt_add_of_pos_right (Xb n))
  unfold b7 at h0
  rw [decide_eq_true hd,Bool.and_true] at h0
  rw [eL hd,dots,h0,<- ua,lM t n (d+1) (hs▸h2) λq hq1 hq2=>h3 q (Sl hq1) (hs▸hq2),hs]
  try rfl
theorem tU (x:Str):∀ (fuel done:Nat),x.cps.size<done+fuel->done<=x.cps.size ->
  ((cA (jI x.cps) x ⟨#[46,46]⟩ fuel done).map λy=>y.cps.toList).flatten=dots (cY x.cps done) (x.cps.toList.drop done)
 | 0,done,h,hd=>absurd h (Tt hd)
 | fuel+1,done,h,hd=>by
  have plain:∀ p,done<=p->p<=x.cps.size->(∀ q,done<=q->q<p->b7 x.cps x.cps.size q=false)->dots (cY x.cps done) (x.cps.toList.drop done)=(x.cps.extract done p).toList++dots (cY x.cps p) (x.cps.toList.drop p):=λp a b d=>by
   have e:=Vw a
   have:=lM x.cps (p - done) done (e.symm▸b) (e.symm▸d)
   rw [e] at this
   rw [this,UU]
   try rfl
  rw [cA]
  cases hf:bJ (b7 x.cps x.cps.size) x.cps.size (x.cps.size+1) done with
  | none =>
   rw [jI,hf]
   exact (i0 hd).trans (by rw [plain x.cps.size hd (Si _) (cZ _ _ (oM ..) hf),qQ];exact (SI _).symm)
  | some p =>
   refine ob0_4 (bW _ _ hf) λa b c d=>?_
   rw [jI,hf]
   show (((if done<p then [(⟨x.cps.extract done p⟩:Str)] else [])++⟨#[46,46]⟩::cA (jI x.cps) x ⟨#[46,46]⟩ fuel (p+1)).map λy=>y.cps.toList).flatten=_
   rw [S4,SV,List.flatten_append,Vv,tU x fuel _ (uv h (Sp a)) b,i0 a,plain p a (S1 b) d]
   refine congrArg _ ?_
   unfold b7 at c
   have c1:=Tp.mp c
   have c2:x.cps.getD p 0=46:=U0 c1.2
   rw [eL b,dots,ua,(Tp.mp c1.1).1,c2]
   try rfl
noncomputable def quoted (x:Str):Str:=⟨(dots true (crlf x.cps.toList)).toArray⟩
theorem xy (x:Str):vg (jH x.cps) x ⟨#[13,10]⟩=⟨(crlf x.cps.toList).toArray⟩:=by
 have h:=tT x (x.length+1) 0 (Sd (UG _) (Sf ..)) (SX _)
 rw [<- jn,Vx] at h
 unfold vg
 rw [<- h]
theorem xA (x:Str):vg (jI x.cps) x ⟨#[46,46]⟩=⟨(dots true x.cps.toList).toArray⟩:=by
 have h:=tU x (x.length+1) 0 (Sd (UG _) (Sf ..)) (SX _)
 rw [<- jn,Vx] at h
 unfold vg
 rw [show dots true x.cps.toList=dots (cY x.cps 0) x.cps.toList from rfl,<- h]
theorem N3 {p q l:Nat} (h:l<=2 * k+1) (hp:0<p):l+1+1<=2 * (p+q+1+k)+1:=by exact FH h hp
theorem N2 {p q l:Nat} (h:l<=2 * k+1):l+1<=2 * (p+q+1+k)+1:=by exact FG h
theorem Km {p q r s:Nat} (h:s<=k * (r+1)):p+(r+s)<=(p+q+1+k) * (r+1):=by
 rw [Nat.add_mul,Nat.add_mul,Nat.one_mul,<- UJ]
 exact Vy (Vy (R9 (Nat.le_mul_of_pos_right p (Xb r)) (VM _ (Th p q))) (Uj r)) h
theorem pR {next:Nat->Option (Nat×Nat)} {x r:Str} (hok:∀ s b e,next s=some (b,e)->s<=b/\b<e/\e<=x.cps.size):∀ (fuel done k:Nat),done+k=x.cps.size ->
  (cA next x r fuel done).length<=2 * k+1/\((cA next x r fuel done).map (·.length)).sum<=k * (r.length+1)
 | 0,done,k,_=>⟨SX _,SX _⟩
 | fuel+1,done,k,hd=>by
  rw [cA]
  cases hn:next done with
  | none =>
   by_cases hl:done<x.cps.size
   ·simp only [if_pos hl]
    refine ⟨Sf 1 _,?_⟩
    show (x.cps.extract done x.cps.size).size+0<=_
    rw [Xz,Nat.min_self,<- hd,UT]
    exact Nat.le_mul_of_pos_right _ (Xb _)
   ·simp only [if_neg hl]
    exact ⟨SX _,SX _⟩
  | some be =>
   obtain ⟨b,e⟩:=be
   refine ob0_3 (hok _ _ _ hn) λo1 o2 o3=>?_
   refine ob1_1 (Nat.exists_eq_add_of_le o1) λp aB=>?_;obtain rfl:=aB
   refine ob1_1 (Nat.exists_eq_add_of_lt o2) λq aB=>?_;obtain rfl:=aB
   refine ob1_1 (Nat.exists_eq_add_of_le o3) λk' hk'=>?_
   have hk:k=p+q+1+k':=by exact FF hd hk'
   subst hk
   refine ob0_2 (pR (r:=r) hok fuel (done+p+q+1) k' hk'.symm) λi1 i2=>?_
   by_cases hl:done<done+p
   ·simp only [if_pos hl]
    refine ⟨N3 i1 (Nat.pos_of_lt_add_right hl),?_⟩
    show (x.cps.extract done (done+p)).size+(r.length+((cA next x r fuel (done+p+q+1)).map (·.length)).sum)<=_
    rw [Xz,VU (R9 (S1 o2) o3),UT]
    exact Km i2
   ·simp only [if_neg hl]
    exact ⟨N2 i1,R9 (Sf ..) (Km i2)⟩
theorem kL {r:Str} (hok:∀ s b e,next s=some (b,e)->s<=b/\b<e/\e<=x.cps.size) (fuel done:Nat) (hd:done<=x.cps.size) :
  (cA next x r fuel done).length<=2 * (x.cps.size - done)+1/\((cA next x r fuel done).map (·.length)).sum<=(x.cps.size - done) * (r.length+1):=pR hok fuel done _ (Vw hd)
theorem i6:∀ (n:Nat) (l:List Nat),l.length<=n->(crlf l).length<=2 * l.length
 | 0,[],_=>by simp [crlf]
 | 0,_::_,h=>by simp at h
 | n+1,[],_=>by simp [crlf]
 | n+1,[c],_=>by
  show (if cV c=true then [13,10] else [c]).length<=_
  split <;> simp
 | n+1,c::d::r,h=>by
  have h1:=i6 n r (by simp at h;exact Sl h)
  have h2:=i6 n (d::r) (by simp at h ⊢;exact h)
  rw [crlf]
  split
  ·simp only [S_];exact Vy (TF (SE h1)) (Sf _ _)
  ·split
   ·exact Um h2 2
   ·exact SE (TF h2)
theorem lN:∀ (l:List Nat) (b:Bool),(dots b l).length<=2 * l.length
 | [],b=>by simp [dots]
 | c::r,b=>by
  have:=lN r (c == 10)
  rw [dots,Sy]
  split
  ·exact R9 (So (Vj _ _)) (Um this 2)
  ·exact R9 (So (Vj _ _)) (SE (TF this))
end
theorem vL {d:Addr} {m} (hn:h.Ns d m):∃ o,h.get? d=some o/\∀ name,lookIn name o=some (m name):=by
 refine ob3_4 hn λo es ep ho hd hk hf=>?_
 refine ⟨o,ho,λname=>?_⟩
 have hf':=hf name
 unfold nsFind findBy at hf'
 unfold lookIn
 rw [hd]
 dsimp only
 rw [<- Array.find?_toList] at hf'
 cases he:es.toList.find? (λe=>e.key.isStr name) with
 | some e=>rw [he] at hf';rw [<- hf'];rfl
 | none =>
  rw [he] at hf'
  rw [<- hf']
  have:es.toList.any (·.refKey)=false:=by
   rw [List.any_eq_false]
   intro e hm
   refine ob2_1 (hk e (by simpa using hm)) λn t hk'=>?_
   unfold DictEntry.refKey
   rw [hk'];simp
  rw [this];rfl
structure au (h:Heap) (x d C:Addr) (dat:Data) (m:Str->Option Value):Prop where
 obj:h.get? x=some {cls:=.ref C,dict:=some d,data:=dat,slots:=#[]}
 no:∀ c,dat ≠ .cls c
 ns:h.Ns1 d m
 ne:d≠x
theorem au.at_ {x d:Addr} {m} (I:au h x d C dat m):∃ o,PySem.W.InstAt h x {cls:=.ref C,dict:=some d,data:=dat,slots:=#[]} C (some o)/\∀ name,lookIn name o=some (m name):=by
 refine ob1_2 (vL I.ns.ns) λo ho hl=>?_
 refine ⟨o,⟨I.obj,rfl,?_,ho⟩,hl⟩
 have:=I.no
 cases dat <;> first | rfl | exact absurd rfl (this _)
theorem au.inst {x d:Addr} {m} (I:au h x d C dat m):h.Inst x C m:=⟨_,I.obj,rfl,I.no,.inr ⟨d,rfl,I.ne,I.ns⟩⟩
section
variable {K:Frag} {x d:Addr} {name:Str}
theorem Ag {expr:Bool} (X:K.In s.heap) (I:au s.heap x d C dat m) (hga:findIn K (.ref C) "__getattribute__"=some (some (.builtin "object.__getattribute__"))) (hh:hasDictIn K C=true)
  (ha:findIn K (.ref C) name=some none) (hm:m name=some v) (hv:handedIn v=true) (h:Q v {s with toks:=s.toks+1}):wpAny (model prog w) A (getAttr (.ref x) name expr) Q E s:=by
 refine ob1_2 I.at_ λo I' hl=>?_
 exact get_value X I' hga (findObj_own hh ha rfl (by rw [hl,hm])) hv h
theorem q4 (self:Value):bindSpecial (.builtin "list.__getattribute__") self=pure (.builtin "list.__getattribute__",[self]):=WE.bind self
theorem qw:builtinKind "list.__getattribute__"=some .slot:=by decide +kernel
theorem nk:splitId "list.__getattribute__"=some ("list","__getattribute__"):=by decide +kernel
theorem pM {expr:Bool} (X:K.In s.heap) (I:au s.heap x d C dat m) (hga:findIn K (.ref C) "__getattribute__"=some (some (.builtin "list.__getattribute__"))) (hh:hasDictIn K C=true)
  (hgt:findIn K (.ref C) "__getattr__"=some none) (hsub:mroIn K C (.type "list")=some true)
  (ha:findIn K (.ref C) name=some none) (hm:m name=some v) (hv:handedIn v=true) (h:Q v {s with toks:=s.toks+1}):wpAny (model prog w) A (getAttr (.ref x) name expr) Q E s:=by
 refine ob1_2 I.at_ λo I' hl=>?_
 have hf:findObj K C (some o) name=some (.value v):=findObj_own hh ha rfl (by rw [hl,hm])
 obtain ⟨hp,g,dr,t,os⟩:=s
 have L0:=I'.type (M:=model prog w)
 have L1:=Un (M:=model prog w) X hga
 have L2:=Un (M:=model prog w) X hgt
 have L3:=looks_find (M:=model prog w) X I' hf
 have L4:Looks (model prog w) hp (isInstance (.ref x) (.type "list")) true:=L0.andThen (V8 X hsub)
 unfold getAttr getAttrBy
 refine R7 (wpAny_mkText (Sj (R7 (L0.at (R7 (L1.at ?_))))))
 dsimp only
 rw [show (onTheHeap (.ref C) && (Vf "list.__getattribute__" == Vf "object.__getattribute__"))=false by rw [show (Vf "list.__getattribute__" == Vf "object.__getattribute__")=false by decide +kernel];rfl]
 rw [if_neg (by decide)]
 unfold getAttrByItsOwn
 refine R7 (L2.at ?_)
 refine R7 (UX (Sj ?_))
 show wpAny _ _ (callGetattribute _ _ _ _) _ _ _
 unfold callGetattribute
 rw [if_neg (by simp [onTheHeap])]
 unfold boundAndCalled
 refine R7 (Tw (q4 _) ?_)
 show wpAny _ _ (call (.builtin "list.__getattribute__") [.ref x,.str name t]) _ _ _
 refine UA (T5 WE.plain am_entry_list_getattribute (@check_slot (model prog w) _ _ _ "list.__getattribute__" "list" "__getattribute__" (.ref x) [.str name t] [] _ qw nk L4 (PySem.F.args_list_getattribute_2 _ _) ?_))
 unfold Builtin.«object.__getattribute__»
 refine R7 (R8 (R7 (R8 (R7 (L0.at (R7 (L3.at ?_)))))))
 refine R8 ?_
 show wpAny _ _ (handedOut v) _ _ _
 rw [handedOut_of hv];exact R8 h
theorem tO {ga:String} {pl:Sem Bool} {Q:Value×List Value->Shared->Prop} (X:K.In s.heap) (I:au s.heap x d C dat m) (hga:findIn K (.ref C) "__getattribute__"=some (some (.builtin ga)))
  (hcan:(Manifest.canonical ga != "object.__getattribute__")=false)
  (hk:findIn K (.ref C) "__getattr__"=some none) (hf:findIn K (.ref C) name=some (some (.ref f))) (ht:typeIn K (.ref f)=some (.type "function")) (hm:m name=none) (h:Q (.ref f,[.ref x]) s) :
  wpAny (model prog w) A (getMethod (.ref x) name pl) Q E s:=by
 refine ob1_2 I.at_ λo I' hl=>?_
 unfold getMethod specialOf
 refine R7 (R7 (I'.type.here ((Un X hga).here ?_)))
 dsimp only
 rw [hcan,if_neg (by decide)]
 refine R7 (R7 (I'.type.here ((Un X hk).here ?_)))
 refine R7 (R7 (I'.type.here ((Un X hf).here (R7 ((looks_typeIn X ht).here ?_)))))
 rw [if_neg (by decide +kernel)]
 refine R7 (wpAny_loadPart I'.at_ ?_)
 refine ob3_4 I.ns.ns λo2 es ep ho hd hk2 hf2=>?_
 dsimp only
 refine R7 (wpAny_nsGet I.ns.ns ?_)
 rw [hm]
 exact R7 (U7 (R8 h))
end
theorem rS:StoreFacts "list" [.type "list",.type "object"] "object.__setattr__" "object" where
 mro:=by kernel_rfl
 slot:=.of (owner:="object") (n:="__setattr__") (by rw [T6,Tj];kernel_rfl) (by decide +kernel) (by decide +kernel) (by decide +kernel)
  (by first | exact .inl (by decide +kernel) | exact .inr (by decide +kernel)) (by rw [WB];kernel_rfl)
 entry:=PySem.F.entry_object_sa
 kind:=by decide +kernel
 split:=by decide +kernel
 hasOwner:=by decide +kernel
 args:=λa b c=>by unfold argsOk;kernel_rfl
 passes:=λself=>by kernel_rfl
section
variable {x d:Addr} {mN:Str->Option Value} {name:Str} {B newId sa owner:String} {bm:List Value} {nm q:Str} {bs:List Value} {sn:List Str} {sub:List Value} {ab:Bool} {col:Option Bool} {dd:Option Addr} {k0 k1 k2 k3 k5:Option Value}
theorem kF {Q:Unit->Shared->Prop} {ns:List Str} (SF:StoreFacts B bm sa owner) (hC:s.heap.get? C=some (excClassObj nm q C N bs bm true sn sub ab col dd k0 k1 k2 k3 k5 newId)) (hn:s.heap.Ns N mN)
  (hns:mN "__setattr__"=none) (hna:mN name=none) (hB:typeLookup (.type B) name=pure none) (I:au s.heap x d C dat m) (hw:Within m ns) (hsz:ns.length<=sizeLine)
  (h:∀ h' tk,au h' x d C dat (λy=>if y=name then some v else m y)->(∀ b o,b≠d->s.heap.get? b=some o->h'.get? b=some o)->Q () {s with heap:=h',toks:=tk}) :
  wpAny (model prog w) A (setAttr (.ref x) name v) Q E s:=by
 have hxC:x≠C:=by
  rintro rfl
  rw [I.obj] at hC
  injection hC with hC
  injection hC with h1 h2 h3 h4
  exact I.no _ h3
 obtain ⟨hp,g,dr,t,os⟩:=s
 refine store_attr SF hC hn hns hna hB hxC I.inst (λh' tk' I' k1 k2=>?_) hw hsz
 refine ob1_5 (k2 _ I.obj) λo₁ e1 e2 e3 e4 e5=>?_
 have eo:h'.get? x=some {cls:=.ref C,dict:=some d,data:=dat,slots:=#[]}:=by
  rw [e1]
  have h5:=e5 d rfl
  obtain ⟨oc,odd,RX,osl⟩:=o₁
  simp only at e2 e3 e4 h5
  rw [e2,e3,e4,h5]
 refine h h' tk' ⟨eo,I.no,?_,I.ne⟩ λb o hb e=>?_
 ·refine ob1_4 I' λo2 f1 f2 f3 f4=>?_
  rw [eo] at f1;cases f1
  rcases f4 with ⟨f4,_⟩ | ⟨d',f4,_,f6⟩
  ·cases f4
  ·cases f4;exact f6
 ·by_cases K8:b=x
  ·subst K8
   rw [I.obj] at e;cases e;exact eo
  ·exact k1 b o K8 (λo₀ dx h1 h2=>by rw [I.obj] at h1;cases h1;cases h2;exact hb) e
end
noncomputable def vK (G:Glob) (W:List Addr) (s:Shared):Prop:=∀ a∈W,G.base.objs.size<=a/\∃ o,s.heap.get? a=some o
noncomputable def MC (G:Glob) (f:Addr) (n:Nat) (Rs aq:List Res) (ps:List PV) (q:PV):Prop :=
 ∀ A W s vs,cz A n->G.inv s.heap->vK G W s->ah W s.heap ps vs->(∀ r∈Rs,r.holds W s.heap)->(∀ r∈Rs,∀ a∈r.addrs,a∈W)->(Rs.flatMap (·.addrs)).Nodup ->
  wpAny G.M A (call (.ref f) vs) (λv s'=>aG G (Rs.flatMap (·.addrs)) s s'/\(∀ r∈aq,r.holds W s'.heap)/\(∀ a∈Rs.flatMap (·.addrs),∃ o,s'.heap.get? a=some o)/\Rep W s'.heap q v) (λz! z! => False) s
noncomputable def MP (G:Glob) (f:Addr) (n:Nat) (Rs:List Res) (ps:List PV) (q:PV):Prop :=
 ∀ A W s vs,cz A n->G.inv s.heap->vK G W s->ah W s.heap ps vs->(∀ r∈Rs,r.holds W s.heap)->(∀ r∈Rs,∀ a∈r.addrs,a∈W)->(Rs.flatMap (·.addrs)).Nodup ->
  wpAny G.M A (call (.ref f) vs) (λv s'=>aG G [] s s'/\Rep W s'.heap q v) (λz! z! => False) s
theorem St.xh (S:St G F ρ W (Rs++Ro) s) (x:aG G (Rs.flatMap (·.addrs)) s s') (hh:∀ r∈aq,r.holds W s'.heap) (al:∀ a∈Rs.flatMap (·.addrs),∃ o,s'.heap.get? a=some o)
  (ha:aq.flatMap (·.addrs)=Rs.flatMap (·.addrs)):St G F ρ W (aq++Ro) s':=by
 have hW:∀ a∈Rs.flatMap (·.addrs),a∈W:=λa h=>by
  refine ob1_2 (Sw.mp h) λr hr h=>?_
  exact (S.new r (Uk _ hr) a h).1
 have nd:=S.apart
 rw [T8,Ux] at nd
 have S':St G F ρ W Ro s:={S with new:=λr hr=>S.new r (VE _ hr),res:=λr hr=>S.res r (VE _ hr),apart:=nd.2.1}
 have S₂:St G F ρ W Ro s':=S'.xD x hW (λa h=>by
   refine ob1_2 (Sw.mp h) λr hr h=>?_
   exact (S.new r (Uk _ hr) a h).2) (λr hr a h1 h2=>nd.2.2 a h2 a (Sw.mpr ⟨r,hr,h1⟩) rfl) al
 refine {S₂ with new:=λr hr a h=>?_,res:=λr hr=>?_,apart:=?_}
 ·rcases Sq.mp hr with hr | hr
  ·have hm:a∈Rs.flatMap (·.addrs):=by rw [<- ha];exact Sw.mpr ⟨r,hr,h⟩
   refine ob1_2 (Sw.mp hm) λr' hr' h'=>?_
   exact S.new r' (Uk _ hr') a h'
  ·exact S₂.new r hr a h
 ·rcases Sq.mp hr with hr | hr
  ·exact hh r hr
  ·exact S₂.res r hr
 ·rw [T8,ha,Ux]
  exact nd
theorem St.Az (S:St G F ρ W (Rs++Ro) s):(∀ r∈Rs,r.holds W s.heap)/\(∀ r∈Rs,∀ a∈r.addrs,a∈W)/\(Rs.flatMap (·.addrs)).Nodup:=by
 have nd:=S.apart
 rw [T8,Ux] at nd
 exact ⟨λr hr=>S.res r (Uk _ hr),λr hr a h=>(S.new r (Uk _ hr) a h).1,nd.1⟩
theorem MC.mz (ok:bQ G f fd body)
  (hb:∀ s W vs,G.inv s.heap->ah W s.heap ps vs->∃ vs',BindsTo s fd ⟨vs,[]⟩ (names.zip vs')/\ah W s.heap ps' vs') (hlen:names.length=ps'.length)
  (hnm:∀ x∈names,fd.scope.names.lookup x=some .local\/fd.scope.names.lookup x=some .cell)
  (hadr:aq.flatMap (·.addrs)=Rs.flatMap (·.addrs))
  (h:∀ A W s L,cz A (n+1)->jz G (bu fd f A s L n (Rs.flatMap (·.addrs))) (.func body (dF fd f L)) (names.zip ps').reverse W Rs body (λfl s'=>(∃ ρ,St G (bu fd f A s L n (Rs.flatMap (·.addrs))) ρ W aq s')/\Rep W s'.heap q (match fl with | .ret v=>v | _=>.none))) :
  MC G f (n+1) Rs aq ps q:=λA W s vs hA iv low rs h1 h2 h3=>by
 refine ob1_2 (hb s W vs iv rs) λvs' hb' rs'=>?_
 refine UA (V2 (gF (Q:=λv s'=>(∃ ρ,St G (bu fd f A s s.heap.objs.size n (Rs.flatMap (·.addrs))) ρ W aq s')/\Rep W s'.heap q v) ok hA iv low hb' rs' hlen h1 h2 h3 hnm (h A W s s.heap.objs.size hA)) λr s' hr=>?_)
 match r,hr with
 | .ok (.ret v),hr =>
  refine ob0_2 hr λbM hr=>?_;refine ob1_1 bM λρ S=>?_
  refine ⟨S.stp,S.res,λa ha=>?_,hr⟩
  rw [<- hadr] at ha
  refine ob1_2 (Sw.mp ha) λr' hr' ha=>?_
  exact (S.low a (S.new r' hr' a ha).1).2
 | .ok .next,hr=>exact hr.elim
 | .ok .brk,hr=>exact hr.elim
 | .ok .cont,hr=>exact hr.elim
 | .error e,hr=>exact hr.elim
theorem MC.of {f:Addr} {fd:FuncData} {body:List Stmt} (ok:bQ G f fd body) {names:List Str} {ps ps':List PV} {q:PV} {n:Nat}
  (hb:∀ s W vs,G.inv s.heap->ah W s.heap ps vs->∃ vs',BindsTo s fd ⟨vs,[]⟩ (names.zip vs')/\ah W s.heap ps' vs') (hlen:names.length=ps'.length)
  (hnm:∀ x∈names,fd.scope.names.lookup x=some .local\/fd.scope.names.lookup x=some .cell)
  (hadr:aq.flatMap (·.addrs)=Rs.flatMap (·.addrs))
  (h:∀ A W s L,cz A (n+1)->XS G (bu fd f A s L n (Rs.flatMap (·.addrs))) (names.zip ps').reverse W Rs body (λfl s'=>(∃ ρ,St G (bu fd f A s L n (Rs.flatMap (·.addrs))) ρ W aq s')/\Rep W s'.heap q (match fl with | .ret v=>v | _=>.none))) :
  MC G f (n+1) Rs aq ps q :=
 MC.mz ok hb hlen hnm hadr λA W s L hA=>.of (h A W s L hA)
noncomputable def ER (G:Glob) (F:Fm) (ρ:List (Str×PV)) (W:List Addr) (Rs:List Res) (e:SQ) (q:PV) (aq:List Res):Prop :=
 ∀ s,St G F ρ W Rs s->wpAny G.M F.A (eval e F.env) (λv s'=>St G F ρ W aq s'/\Rep W s'.heap q v) (λz! z! => False) s
section
theorem XS.eT (h:ER G F ρ W Rs e q aq) (k:XS G F ρ W aq rest K) (hi:interactive F.env=false:=by rfl) (hs:swapsWith e none pos.line F.env=pure false:=by rfl) :
  XS G F ρ W Rs (.Expr e pos::rest) K:=λs S=>by
 refine Tr ?_
 rw [exec_Expr (env:=F.env) _ _ hi hs]
 exact R7 (Tc (R7 (aF (h s S) λv s₁ zz=>zz.elim λS₁ z! => wpAny_dropValue (k s₁ S₁))))
theorem XS.BC (hv:ER G F ρ W Rs value p aq) (ha:AV G F ρ W aq target p ρ') (h:XS G F ρ' W aq rest K)
  (hs:swapsWithSole [target] value pos.line F.env=pure false:=by rfl) (hw:swappedStores [target] value F.env=pure none:=by rfl)
  (he:(assignEach [target] F.env).map (·.2)=[Ur target F.env]:=by rfl) :
  XS G F ρ W Rs (.Assign [target] value pos::rest) K:=λs S=>by
 refine Tr ?_
 rw [W3]
 refine R7 (Tc ?_)
 rw [hs]
 refine R7 (R8 ?_)
 rw [if_neg (by decide)]
 refine R7 (aF (hv s S) λv s₁ zz=>zz.elim λS₁ r=>?_)
 rw [hw]
 refine R7 (R8 ?_)
 rw [he]
 show wpAny _ _ (do Ur target F.env v;pure XU) _ _ s₁
 exact R7 (aF (ha s₁ v S₁ r) λ_ s₂ zz=>zz.elim λS₂ z! => R8 (h s₂ S₂))
theorem XS.MT (hv:ER G F ρ W Rs value p aq) (h:∀ s v,St G F ρ W aq s->Rep W s.heap p v->K (.ret v) s) :
  XS G F ρ W Rs (.Return (some value) pos::rest) K:=λs S =>
 Tr (wpAny_Return_some (aF (hv s S) λv s₁ zz=>zz.elim λS₁ r=>h s₁ v S₁ r))
end
theorem e_ {M:Model} {name:Str}
  (hbase:attributeBase o name env (eval o env)=eval o env)
  (hfew:((backTo pos (starEach args env)).all (λx => !x.1) && (backToKw pos (keywordEach [] env)).all (λx=>x.1.isSome)
   && decide (args.length+([]:List Keyword).length+(if ([]:List Keyword).isEmpty then 0 else 1)<30))=true)
  (hline:(apos.endLine == pos.line)=true)
  (h:wpAny M A (eval o env) (λov s₁=>∀ pl,wpAny M A (getMethod ov name pl) (λr s₂=>wpAny M A (callWith pos r.1 r.2 (backTo pos (starEach args env)) []) Q E s₂) E s₁) E s) :
  wpAny M A (eval (.Call (.Attribute o name apos) args [] pos) env) Q E s:=by
 rw [arm_eval_Call,hbase]
 refine R7 (U4 h (λov s₁ h₁=>?_) λz! z! e=>e)
 refine R7 (Tc ?_)
 have qF:methodCallForm (args.length+([]:List Keyword).length) (backTo pos (starEach args env)) (backToKw pos (keywordEach [] env))=true:=hfew
 have hpos:methodCallPos true o env apos pos=pure pos:=by unfold methodCallPos;simp [hline]
 unfold methodCall
 rw [qF]
 refine R7 (Sj ?_)
 unfold calleeOf
 rw [if_pos rfl]
 refine U4 (h₁ _) (λr s₂ h₂=>?_) λz! z! e=>e
 exact R7 (Tw hpos h₂)
theorem dU {M:Model} {A:Around} {E:Value->Shared->Prop} {s:Shared} {i owner n:String} {self:Value} {rest:List Value} {kw:List (Str×Value)} {Q:Unit->Shared->Prop}
  (hk:builtinKind i=some .slot\/builtinKind i=some .method) (hs:splitId i=some (owner,n)) (hi:Looks M s.heap (isInstance self (.type owner)) true) (ha:argsOk i ⟨self::rest,kw⟩) (q:Q () s) :
  wpAny M A (checkBuiltinCall i ⟨self::rest,kw⟩) Q E s:=by
 rcases hk with hk | hk
 ·exact check_slot hk hs hi ha q
 simp only [checkBuiltinCall,hk,hs]
 refine R7 (hi.here (S7 (by rfl) ?_))
 unfold argsOk at ha
 cases Ng:Wy i with
 | none=>exact R8 q
 | some sig =>
  rw [Ng] at ha
  have h2:XM i sig ⟨self::rest,kw⟩=pure ():=ha
  show wpAny M A (XM i sig ⟨self::rest,kw⟩) Q E s
  rw [h2];exact R8 q
section
variable {K:Frag} {x d:Addr}
theorem au.isList (X:K.In s.heap) (I:au s.heap x d C (.seq vs.toArray c) m) (hsub:mroIn K C (.type "list")=some true):Looks (model prog w) s.heap (isInstance (.ref x) (.type "list")) true:=by
 refine ob1_2 I.at_ λo I' z! => ?_
 exact (I'.type (M:=model prog w)).andThen (V8 X hsub)
theorem au.turn {f:Array Value->Array Value} {us:List Value} (I:au h x d C (.seq vs.toArray c) m) (e:f vs.toArray=us.toArray) :
  ∃ c',au (h.update x (U6 f)) x d C (.seq us.toArray c') m:=by
 have ns:=I.ns.sameBut (h':=h.update x (U6 f)) (.update ..) I.ne
 refine ⟨if (f vs.toArray).size == vs.toArray.size then c else c+1,?_,(λz! => by simp),ns,I.ne⟩
 rw [<- e]
 exact VF _ I.obj rfl
noncomputable def l0 (x:Addr) (h h':Heap):Prop:=∀ b o,b≠x->h.get? b=some o->h'.get? b=some o
theorem l0.of {x:Addr} (s:Uc x h h'):l0 x h h':=λb o hb e=>(s.2 b hb).trans e
theorem inst_append (X:K.In s.heap) (I:au s.heap x d C (.seq vs.toArray c) m) (hsub:mroIn K C (.type "list")=some true) (hz:vs.length+1<=sizeLine)
  (h:∀ h' c',au h' x d C (.seq (vs++[v]).toArray c') m->l0 x s.heap h'->Q .none {s with heap:=h'}):wpAny (model prog w) A (call (.builtin "list.append") [.ref x,v]) Q E s:=by
 refine UA (T5 Xn.plain PySem.F.entry_list_append (@dU (model prog w) _ _ _ "list.append" "list" "append" (.ref x) [v] [] _ (.inr (by decide +kernel)) (by decide +kernel) (I.isList X hsub) (PySem.F.args_list_append_2 _ _) ?_))
 unfold Builtin.«list.append»
 refine R7 (Tw (show selfAndOne "list.append" ⟨[.ref x,v],[]⟩=pure (.ref x,v) from rfl) ?_)
 show wpAny _ _ (updateSeq x (·.push v) >>= _) _ _ _
 refine R7 (VC I.obj rfl ?_ (by simp;exact Sl hz) (by simp;exact Sl hz))
 refine ob1_1 (I.turn (f:=(·.push v)) (us:=vs++[v]) (by simp)) λc' I'=>?_
 exact R8 (h _ c' I' (.of (.update ..)))
end
theorem lg {M:Model} {h:Heap} {f:String->Sem Bool}:∀ (l:List String),(∀ n∈l,Looks M h (f n) false)->Looks M h (l.anyM f) false
 | [],_=>Looks.now
 | n::l,hl=>by
  rw [List.anyM_cons]
  refine (hl n (R_ ..)).andThen ?_
  exact lg l λn hn=>hl n (Sb _ hn)
section
variable {K:Frag} {x d:Addr}
noncomputable def noSeq (K:Frag) (C:Addr):Bool:=seqItemTypes.all λn=>mroIn K C (.type n) == some false
theorem fD {M:Model} {k:Value} {name:Str} (X:K.In h) (I:au h x d C dat m) (hn:noSeq K C=true):Looks M h (sequenceKey (.ref x) k name) k:=by
 refine ob1_2 I.at_ λo I' z! => ?_
 unfold sequenceKey
 refine I'.type.andThen ?_
 dsimp only
 refine (lg _ λn hm=>?_).andThen ?_
 ·exact V8 X (beq_iff_eq.mp (Ui.mp hn n hm))
 ·exact Looks.now
theorem inst_special {M:Model} {name:Str} {args:List Value} {Q:Option Value->Shared->Prop} (X:K.In s.heap) (I:au s.heap x d C dat m) (hf:findIn K (.ref C) name=some (some (.builtin id)))
  (hb:∀ self,bindSpecial (.builtin id) self=pure (.builtin id,[self])) (h:wpAny M A (call (.builtin id) (.ref x::args)) (λv=>Q (some v)) E s):wpAny M A (callSpecial? (.ref x) name args) Q E s:=by
 refine ob1_2 I.at_ λo I' z! => ?_
 exact R7 (R7 (I'.type.here ((Un X hf).here (Sj (R7 (Tw (hb _) (R7 (U4 h (λz! z! z=>R8 z) λz! z! z=>z))))))))
theorem inst_item {k:Int} {t:Tok} (X:K.In s.heap) (I:au s.heap x d C (.seq vs.toArray c) m) (hsub:mroIn K C (.type "list")=some true) (hn:noSeq K C=true)
  (hg:findIn K (.ref C) "__getitem__"=some (some (.builtin "list.__getitem__"))) (hk:k=(j:Int)) (hz:vs.length<=lim) (hv:vs[j]? = some v) (h:Q v s):wpAny (model prog w) A (getItem (.ref x) (.int k t)) Q E s:=by
 have hj:j<vs.length:=by
  rcases VI j vs.length with h' | h'
  ·exact h'
  ·rw [TA h'] at hv;cases hv
 have hlim:lim=1048576:=by decide
 unfold getItem
 refine Sj (R7 ((fD X I hn).here ?_))
 refine R7 (inst_special X I hg Wq.bind ?_)
 refine UA (T5 Wq.plain entry_list_getitem (@dU (model prog w) _ _ _ "list.__getitem__" "list" "__getitem__" (.ref x) [.int k t] [] _ (by first | exact .inl (by decide +kernel) | exact .inr (by decide +kernel)) (by decide +kernel) (I.isList X hsub) (args_list_getitem _ _) ?_))
 show wpAny _ _ (Vq (.int k t) >>= _) _ _ s
 have JG:0<=k/\k<2 ^ 63:=hk▸⟨Uz j,oH (R9 (S1 hj) hz)⟩
 refine R7 (wpAny_listSubscript_int (fitsIndex_of JG.1 JG.2) ?_)
 subst hk
 have hx':vs.toArray[j]? = some v:=by simpa using hv
 show wpAny _ _ ((seqItemAt x j >>= λr=>pure (r.map (j,·))) >>= _) _ _ s
 refine R7 (R7 (wpAny_seqItemAt I.obj rfl (R8 ?_)))
 rw [hx']
 dsimp only [Option.map]
 exact R8 (R8 h)
end
theorem n_ (k:Option Int) (h0:k≠some 0):¬ ((rawPart k == rawInt 0)=true):=by
 cases k with
 | none=>exact Wh
 | some c =>
  intro hh
  have:c=0:=by simpa [rawPart,rawInt] using hh
  exact h0 (by rw [this])
theorem gK {M:Model} {sl:Addr} {vl vu vt:Value} {st:Option Int} {Q:Value×Value×Value->Shared->Prop} (hs:s.heap.IsSliceOf sl vl vu vt)
  (pl:IsPart vl lo) (pu:IsPart vu hi) (pt:IsPart vt st) (h0:st≠some 0) (h:Q (rawPart lo,rawPart hi,rawPart st) s):wpAny M A (Builtin.List.listSliceParts (.ref sl)) Q E s:=by
 refine ob1_3 hs λos hos hcs hds=>?_
 rw [listSliceParts_eq]
 refine R7 (Ws hos hds (x:=vt) rfl (R7 (wpAny_listPart pt ?_)))
 rw [if_neg (n_ st h0)]
 refine R7 (Ws hos hds (x:=vl) rfl (R7 (wpAny_listPart pl ?_)))
 exact R7 (Ws hos hds (x:=vu) rfl (R7 (wpAny_listPart pu (R8 h))))
theorem fU {M:Model} {sl:Addr} {Q:Option Int->Shared->Prop} (hT:s.TypeIs (.ref sl) "slice") (h:Q none s):wpAny M A (Vq (.ref sl)) Q E s:=by
 unfold Vq
 refine R7 (WR hT slice_no_index ?_)
 simp only [Option.isNone_none,if_true]
 exact R8 h
section
variable {K:Frag} {x d:Addr}
theorem inst_slice {sl:Addr} {vl vu vt:Value} {st:Option Int} (X:K.In s.heap) (I:au s.heap x d C (.seq vs.toArray c) m) (hsub:mroIn K C (.type "list")=some true) (hn:noSeq K C=true)
  (hg:findIn K (.ref C) "__getitem__"=some (some (.builtin "list.__getitem__"))) (hz:vs.length<=lim)
  (hs:s.heap.IsSliceOf sl vl vu vt) (pl:IsPart vl lo) (pu:IsPart vu hi) (pt:IsPart vt st) (h0:st≠some 0)
  (h:Q (.ref s.heap.objs.size) {s with heap:=s.heap.push {cls:=.type "list",data:=.seq (pick vs lo hi st).toArray}}):wpAny (model prog w) A (getItem (.ref x) (.ref sl)) Q E s:=by
 have JU:s.TypeIs (.ref sl) "slice":=hs.imp λo zz=>zz.elim λa zz=>zz.elim λb z! => ⟨a,b⟩
 unfold getItem
 refine Sj (R7 ((fD X I hn).here ?_))
 refine R7 (inst_special X I hg Wq.bind ?_)
 refine UA (T5 Wq.plain entry_list_getitem (@dU (model prog w) _ _ _ "list.__getitem__" "list" "__getitem__" (.ref x) [.ref sl] [] _ (by first | exact .inl (by decide +kernel) | exact .inr (by decide +kernel)) (by decide +kernel) (I.isList X hsub) (args_list_getitem _ _) ?_))
 show wpAny _ _ (Vq (.ref sl) >>= _) _ _ s
 refine R7 (fU JU ?_)
 show wpAny _ _ (typeOf (.ref sl) >>= _) _ _ s
 refine R7 (XN JU ?_)
 rw [if_neg (by decide)]
 refine R7 (gK hs pl pu pt h0 ?_)
 refine R7 (m:=V5 (.ref x)) ?_
 unfold V5
 refine R7 (Ve I.obj rfl (R8 ?_))
 refine R7 (Tw (sliceIndices_raw lo hi st vs.toArray.size h0) ?_)
 have hsz:=slicePick_size_le vs.toArray lo hi st
 rw [<- fk] at h
 refine R7 (TL (R8 (R8 h)) (R9 hsz (by simp only [TJ];exact R9 hz (by decide))))
theorem inst_setSlice {sl b:Addr} {vl vu vt:Value} {us:List Value} {Q:Unit->Shared->Prop} (X:K.In s.heap) (I:au s.heap x d C (.seq vs.toArray c) m) (hsub:mroIn K C (.type "list")=some true) (hn:noSeq K C=true)
  (hg:findIn K (.ref C) "__setitem__"=some (some (.builtin "list.__setitem__"))) (hz:vs.length<=lim) (hu:us.length<=lim) (hj:j<=vs.length) (hlo:lo=some (j:Int)\/(lo=none/\j=0))
  (hs:s.heap.IsSliceOf sl vl vu vt) (pl:IsPart vl lo) (pu:IsPart vu none) (pt:IsPart vt none) (hb:s.heap.get? b=some {cls:=.type "list",data:=.seq us.toArray n})
  (h:∀ h' c',au h' x d C (.seq (vs.take j++us).toArray c') m->l0 x s.heap h'->Q () {s with heap:=h'}):wpAny (model prog w) A (setItem (.ref x) (.ref sl) (.ref b)) Q E s:=by
 have JU:s.TypeIs (.ref sl) "slice":=hs.imp λo zz=>zz.elim λa zz=>zz.elim λb z! => ⟨a,b⟩
 have K8:b≠x:=by
  rintro rfl
  rw [I.obj] at hb
  injection hb with hb
  injection hb with h1
  cases h1
 have hlim:lim=1048576:=by decide
 have hsl:sizeLine=16777216:=by decide
 unfold setItem
 refine Sj (R7 ((fD X I hn).here ?_))
 refine R7 (inst_special X I hg slot_list_setitem.bind ?_)
 refine UA (T5 slot_list_setitem.plain entry_list_setitem (@dU (model prog w) _ _ _ "list.__setitem__" "list" "__setitem__" (.ref x) [.ref sl,.ref b] [] _ (by first | exact .inl (by decide +kernel) | exact .inr (by decide +kernel)) (by decide +kernel) (I.isList X hsub) (args_list_setitem _ _ _) ?_))
 show wpAny _ _ (Vq (.ref sl) >>= _) _ _ s
 refine R7 (fU JU ?_)
 show wpAny _ _ (typeOf (.ref sl) >>= _) _ _ s
 refine R7 (XN JU ?_)
 rw [if_neg (by decide)]
 refine R7 (gK hs pl pu pt (by simp) ?_)
 show wpAny _ _ (if (x == b)=true then _ else _) _ _ _
 rw [if_neg (by simpa using λh=>K8 h.symm)]
 refine R7 (m:=Builtin.List.listAllItems (.ref b) "must assign iterable to extended slice") ?_
 unfold Builtin.List.listAllItems
 refine R7 (XN (T:="list") ⟨_,hb,rfl⟩ ?_)
 rw [if_pos (by decide)]
 unfold V5
 refine R7 (Ve hb rfl (R8 ?_))
 dsimp only
 refine R7 (R7 (Ve I.obj rfl (R8 ?_)))
 have eb:sliceBounds lo none none vs.toArray.size=((j:Int),(vs.length:Int),1):=by
  unfold sliceBounds
  rcases hlo with rfl | ⟨rfl,rfl⟩
  ·simp
   rw [if_neg (WI.mpr (Uz j)),kg,VU hj]
  ·simp
 refine R7 (Tw (sliceIndices_raw lo none none vs.toArray.size (by simp)) ?_)
 rw [eb]
 dsimp only
 rw [if_pos (by decide)]
 refine R7 (U7 ?_)
 rw [if_neg (by simp [Xq];exact Mx hz hu hlim hsl)]
 have e1:vs.toArray.extract 0 (j:Int).toNat++us.toArray++vs.toArray.extract (max (j:Int) (vs.length:Int)).toNat vs.toArray.size=(vs.take j++us).toArray:=by
  have:(max (j:Int) (vs.length:Int)).toNat=vs.length:=by rw [yM,Wb hj];rfl
  rw [this]
  simp
 refine R7 (VC I.obj rfl ?_ (by simp;exact Mw hz hlim hsl) (by rw [e1];simp;exact Mu hz hu hj hlim hsl))
 refine ob1_1 (I.turn (f:=λxs=>xs.extract 0 (j:Int).toNat++us.toArray++xs.extract (max (j:Int) (vs.length:Int)).toNat xs.size) (us:=vs.take j++us) e1) λc' I'=>?_
 refine R7 (wpAny_letGo ?_)
 exact R8 (R8 (h _ c' I' (.of (.update ..))))
end
section
variable {K:Frag} {x d:Addr}
theorem inst_iter (X:K.In s.heap) (I:au s.heap x d C (.seq vs.toArray c) m) (hsub:mroIn K C (.type "list")=some true) (hg:findIn K (.ref C) "__iter__"=some (some (.builtin "list.__iter__")))
  (h:Q (.ref s.heap.objs.size) {s with heap:=s.heap.push {cls:=.type "list_iterator",data:=.fields #[.ref x,.int 0 0]}}):wpAny (model prog w) A (pyIter (.ref x)) Q E s:=by
 refine ob1_2 I.at_ λo I' z! => ?_
 have DQ:Looks (model prog w) s.heap (specialOf (.ref x) "__iter__") (some (.builtin "list.__iter__")):=I'.type.andThen (Un X hg)
 have Kp:wpAny (model prog w) A (call (.builtin "list.__iter__") [.ref x]) (λit s'=>∃ T' r,s'.TypeIs it T'/\typeLookup (.type T') "__next__"=pure (some r)/\Q it s') E s:=by
  refine UA (T5 slot_list_iter.plain entry_list_iter (@dU (model prog w) _ _ _ "list.__iter__" "list" "__iter__" (.ref x) [] [] _ (by first | exact .inl (by decide +kernel) | exact .inr (by decide +kernel)) (by decide +kernel) (I.isList X hsub) (args_list_iter _) ?_))
  show wpAny _ _ (do ret (<- newFields "list_iterator" [.ref x,rawInt 0])) _ _ s
  exact R7 (TL (R8 ⟨"list_iterator",_,⟨_,Sn _ rfl,rfl⟩,WK.lookup,h⟩))
 unfold pyIter
 refine R7 (DQ.here ?_)
 show wpAny _ _ (callSpecialIfBoundUnlessNone? (.ref x) "__iter__" _ >>= _) Q E s
 refine R7 ?_
 unfold callSpecialIfBoundUnlessNone? bindSpecialIfBound?
 have tail:wpAny (model prog w) A (call (.builtin "list.__iter__") [.ref x]) (λit s'=>wpAny (model prog w) A (do
   match<-specialOf it "__next__" with
   | none=>rule "iter.non-iterator";raiseError "TypeError" s!"iter() returned non-iterator of type '{← typeNameOf it}'"
   | some _=>pure it) Q E s') E s:=U4 Kp (λit s' zz=>zz.elim λT' zz=>zz.elim λr zz=>zz.elim λpC zz=>zz.elim λhl hQ=>R7 (WR pC hl (R8 hQ))) λz! z! e=>e
 refine Sj (R7 (R7 (DQ.here ?_)))
 refine R7 (wpAny_askSetting (wpAny_ite ?_))
 split
 ·refine R7 (Tw (slot_list_iter.bind _) (R8 ?_))
  dsimp only
  rw [if_neg (show ¬ ((Vf "list.__iter__" == VT)=true) from Wh)]
  exact R7 (U4 tail (λit s' h'=>R8 h') λz! z! e=>e)
 ·refine wpAny_tryCatch (R7 (Tw (slot_list_iter.bind _) (R8 ?_)))
  dsimp only
  rw [if_neg (show ¬ ((Vf "list.__iter__" == VT)=true) from Wh)]
  exact R7 (U4 tail (λit s' h'=>R8 h') λz! z! e=>e)
theorem xM {it l:Addr} {ol:Obj} {nl:Nat} {y:Value} {Q:Option Value->Shared->Prop} (hit:s.heap.IsListIter it l i)
  (mC:s.heap.get? l=some ol) (hdl:ol.data = .seq items nl) (hx:items[i]? = some y)
  (hQ:∀ h',h'.IsListIter it l (i+1)->Uc it s.heap h'->Q (some y) {s with heap:=h'}) :
  wpAny (model prog w) A (pyNext (.ref it)) Q E s:=by
 refine ob1_3 (id hit) λo ho hc hd=>?_
 unfold pyNext
 refine R7 (UX (Uv (name:=VJ "__next__") hit.typeIs WK
  (Uw WK hit.typeIs entry_listiter_next ?_ (args_listiter_next _))))
 show wpAny _ _ (field (.ref it) 0 >>= _) _ _ s
 refine R7 (Ws ho hd (x:=.ref l) rfl ?_)
 show wpAny _ _ (if (Vc l == VT)=true then _ else _) _ _ s
 rw [if_neg (show ¬ ((Vc l == VT)=true) from Wh)]
 show wpAny _ _ (field (.ref it) 1 >>= _) _ _ s
 refine R7 (Ws ho hd (x:=.int i 0) rfl ?_)
 show wpAny _ _ (seqItems? (.ref l) >>= _) _ _ s
 refine R7 (Ve mC hdl ?_)
 simp only [U',hx]
 refine R7 (Vg ho hd (by simp) (R8 ⟨y,rfl,R8 (hQ _ ?_ (TX ..))⟩))
 exact ⟨_,VF _ ho (Obj.isFreed_of_fields (Obj.data_mapFields hd _)),(Obj.cls_mapFields ..).trans hc,by
  rw [Obj.data_mapFields hd];simp [rawInt]⟩
theorem j0 {Q:α->Shared->Prop} (hh:A.handled=none) (h:∀ e h',(∀ b o,s.heap.get? b=some o->h'.get? b=some o)->Shared.TypeIs {s with heap:=h'} e "StopIteration"->E e {s with heap:=h'}) :
  wpAny (model prog w) A (do raiseNew (<- newExc (.type "StopIteration") [])) Q E s:=by
 refine R7 ?_
 unfold newExc newTuple
 refine R7 (TL ?_ (by size_fits))
 refine R7 (m:=firstArgMember _ _) (Tw (a:=VT) (by first | rfl | (simp only [firstArgMember];rfl)) ?_)
 refine TL ?_ (by size_fits)
 unfold raiseNew
 refine R7 (wpAny_handled ?_)
 rw [hh]
 refine R7 (R8 (wpAny_throw ?_))
 exact h _ _ (λb o e=>Sg _ (Sg _ e)) ⟨_,Sn _ rfl,rfl⟩
theorem n7 {it l:Addr} {ol:Obj} {nl:Nat} {Q:Option Value->Shared->Prop} (hh:A.handled=none)
  (hit:s.heap.IsListIter it l i) (mC:s.heap.get? l=some ol) (hdl:ol.data = .seq items nl) (hx:items[i]? = none)
  (hQ:∀ h',U_ it s.heap h'->Q none {s with heap:=h'}):wpAny (model prog w) A (pyNext (.ref it)) Q E s:=by
 refine ob1_3 (id hit) λo ho hc hd=>?_
 unfold pyNext
 refine R7 (UX (Uv (name:=VJ "__next__") hit.typeIs WK
  (Uw WK hit.typeIs entry_listiter_next ?_ (args_listiter_next _))))
 show wpAny _ _ (field (.ref it) 0 >>= _) _ _ s
 refine R7 (Ws ho hd (x:=.ref l) rfl ?_)
 show wpAny _ _ (if (Vc l == VT)=true then _ else _) _ _ s
 rw [if_neg (show ¬ ((Vc l == VT)=true) from Wh)]
 show wpAny _ _ (field (.ref it) 1 >>= _) _ _ s
 refine R7 (Ws ho hd (x:=.int i 0) rfl ?_)
 show wpAny _ _ (seqItems? (.ref l) >>= _) _ _ s
 refine R7 (Ve mC hdl ?_)
 simp only [U',hx]
 refine R7 (U7 (R7 (Vg ho hd (by simp) ?_)))
 refine j0 (s:={s with heap:=_}) hh λe h' kp D9=>?_
 refine R7 (UK (T:="StopIteration") (b:=true) D9 isSubtype_stop ?_)
 exact R8 (hQ _ λb o hb e=>kp _ _ ((TX ..).extBut b o hb e))
noncomputable def rA (h:Heap) (l:Addr) (items:Array Value):Prop:=∃ o n,h.get? l=some o/\o.data = .seq items n
theorem rA.at_ {l:Addr} (x:rA h l items) (k:∀ o,h.get? l=some o->h'.get? l=some o):rA h' l items:=x.imp λo h_=>h_.imp λn zz=>zz.elim λe d=>⟨k o e,d⟩
end
theorem wo (a b:Value):argsOk "sum" ⟨[a,b],[]⟩:=by unfold argsOk;kernel_rfl
section
theorem xK {wr:List Addr} {P:Nat->Value->Prop} {St:Nat->Shared->Prop} (W:WalksS prog w A I fp wr Gt n P St) :
  WalksS prog w A I fp wr Gt (n+1) (λi v=>∃ j,i=j+1/\P j v) (λi s=>∃ j,i=j+1/\St j s) where
 sub:=W.sub
 grefl:=W.grefl
 gtrans:=W.gtrans
 frame:=λi s h' tk zz=>zz.elim λj zz=>zz.elim λe st ht hk=>⟨j,e,W.frame j s h' tk st ht hk⟩
 item:=λi s Q E hi zz=>zz.elim λj zz=>zz.elim λe st hQ=>by
  subst e
  exact W.item j s Q E (by exact Tn hi) st λv s' hP hst hm=>hQ v s' ⟨j,rfl,hP⟩ ⟨j+1,rfl,hst⟩ hm
 done:=λs Q E zz=>zz.elim λj zz=>zz.elim λe st hQ=>by
  have:j=n:=by exact TU (Nat.le_of_succ_le_succ (So (Eq.symm e))) (Nat.le_of_succ_le_succ (So e))
  subst this
  exact W.done s Q E st hQ
 self:=λi s Q E zz=>zz.elim λj zz=>zz.elim λe st hQ=>W.self j s Q E st hQ
theorem iE (val val':Nat->Int) (k:Int) (h0:val' 0=k) (h:∀ j,val' (j+1)=val j):∀ n,preSum val' (n+1)=k+preSum val n
 | 0=>by simp [preSum,h0]
 | n+1=>by rw [preSum,iE val val' k h0 h n,h,preSum];exact Int.add_assoc ..
theorem we {x:Value} {k:Int} {t0:Tok}
  (h:wpAny (model prog w) A.in1 (pyIter x) (λit s₂=>∃ I fp wr G n P St val,it = .ref I/\WalksS prog w A.in1 I fp wr G n P St/\St 0 s₂/\(∀ b∈fp,b<s₂.heap.objs.size) /\
   (∀ i v,P i v->∃ t,v = .int (val i) t) /\
   ∀ s' t',Moved wr G s₂ s'->Q (.int (k+preSum val n) t') s') E s) :
  wpAny (model prog w) A (call (.builtin "sum") [x,.int k t0]) Q E s:=by
 refine call_function_tree PySem.F.kind_sum PySem.F.plain_sum PySem.F.entry_sum (wo _ _) ?_
 unfold Builtin.«sum»
 refine S7 (by rfl) ?_
 refine R7 (Tw (show Builtin.Builtins.bindParams "sum" ["start"] 0 ⟨[.int k t0],[]⟩=pure [some (.int k t0)] from rfl) ?_)
 refine R7 (U4 h (λit s₂ h₂=>?_) λz! z! e=>e)
 obtain ⟨I,fp,wr,G,n,P,St,val,rfl,W,hst,hfp,hval,hQ⟩:=h₂
 dsimp only
 have hSf:s₂.heap.objs.size∉fp:=λhm=>SW _ (hfp _ hm)
 let val':Nat->Int:=λi=>match i with | 0=>k | j+1=>val j
 have CB:∀ i v,(∃ j,i=j+1/\P j v)->∃ t,v = .int (val' i) t:=λi v zz=>zz.elim λj zz=>zz.elim λe hP=>by subst e;exact hval j v hP
 have hsum:preSum val' (n+1)=k+preSum val n:=iE val val' k rfl (λz! => rfl) n
 have e1:preSum val' 1=k:=by simp [preSum,val']
 split
 ·refine R7 (U7 (R7 (wpAny_mkInt (R7 (R8 ?_)))))
  dsimp only
  rw [UE]
  refine R7 (R7 (R7 (UK (T:="int") (b:=false) (XA _ _ _) PySem.sub_int_str ?_)))
  refine S7 (by rfl) ?_
  refine R8 ?_
  dsimp only
  rw [UE]
  refine R7 (R7 (UK (T:="int") (b:=false) (XA _ _ _) PySem.sub_int_bytes ?_))
  refine S7 (by rfl) ?_
  refine R8 ?_
  dsimp only
  rw [UE]
  refine R7 (R7 (UK (T:="int") (b:=false) (XA _ _ _) PySem.sub_int_bytearray ?_))
  refine S7 (by rfl) ?_
  refine R8 ?_
  dsimp only
  rw [List.forIn_nil]
  refine R8 ?_
  refine R7 (TL ?_)
  refine R8 ⟨Vs PySem.F.plain_sum_loop _,codeAny_sum_loopAnyS (xK W) val' CB s₂.heap.objs.size hSf n 1 _ _ 0 _ (.inl rfl) (by exact T7 _ _) (by exact Sf _ _)
   ⟨0,rfl,W.frame 0 s₂ _ _ hst (Uj _) λb z! o e=>Sg _ e⟩ (by rw [e1];exact Sn _ rfl) λs' t' hm=>?_⟩
  show Q _ _
  rw [hsum]
  exact hQ s' t' (hm.drop_new (Uj _))
 ·refine R7 (R8 ?_)
  dsimp only
  rw [UE]
  refine R7 (R7 (R7 (UK (T:="int") (b:=false) (XA _ _ _) PySem.sub_int_str ?_)))
  refine S7 (by rfl) ?_
  refine R8 ?_
  dsimp only
  rw [UE]
  refine R7 (R7 (UK (T:="int") (b:=false) (XA _ _ _) PySem.sub_int_bytes ?_))
  refine S7 (by rfl) ?_
  refine R8 ?_
  dsimp only
  rw [UE]
  refine R7 (R7 (UK (T:="int") (b:=false) (XA _ _ _) PySem.sub_int_bytearray ?_))
  refine S7 (by rfl) ?_
  refine R8 ?_
  dsimp only
  rw [List.forIn_nil]
  refine R8 ?_
  refine R7 (TL ?_)
  refine R8 ⟨Vs PySem.F.plain_sum_loop _,codeAny_sum_loopAnyS (xK W) val' CB s₂.heap.objs.size hSf n 1 _ _ 0 _ (.inr rfl) (by exact T7 _ _) (by exact Sf _ _)
   ⟨0,rfl,W.frame 0 s₂ _ _ hst (Si _) λb z! o e=>Sg _ e⟩ (by rw [e1];exact Sn _ rfl) λs' t' hm=>?_⟩
  show Q _ _
  rw [hsum]
  exact hQ s' t' (hm.drop_new (Si _))
end
theorem rM (hh:A.handled=none) (I ax:Addr) (hne:ax≠I) (items:Array Value) (Ts:Nat->Addr) (vals:Nat->Array Value)
  (hit:∀ j,j<items.size->items[j]? = some (.ref (Ts j))) (hTI:∀ j,j<items.size->Ts j≠I) :
  WalksU prog w A I (I::ax::(Sk items.size).map Ts) [I] items.size (λj v=>j<items.size/\v=vals j)
   (λj h=>h.IsListIter I ax j/\rA h ax items/\∀ k,k<items.size->h.IsTuple (Ts k) (vals k))
   (λj T h=>(j<items.size/\T=Ts j)/\h.IsListIter I ax (j+1)/\rA h ax items/\∀ k,k<items.size->h.IsTuple (Ts k) (vals k)) where
 sub:=λb hb=>by simp at hb;simp [hb]
 frame:=λz! z! z! st hk=>⟨st.1.at λo e=>hk I (by simp) o e,st.2.1.at_ λo e=>hk ax (by simp) o e,
  λk hk'=>(st.2.2 k hk').at λo e=>hk (Ts k) (Sb _ (Sb _ (SN.mpr ⟨k,Ss.mpr hk',rfl⟩))) o e⟩
 item:=λi s Q E hi st hQ=>by
  refine ob2_2 (id st.2.1) λo n e d=>?_
  refine xM st.1 e d (y:=.ref (Ts i)) (hit i hi) λh' Nu hs'=>?_
  have tup:∀ k,k<items.size->h'.IsTuple (Ts k) (vals k):=λk hk'=>(st.2.2 k hk').extBut hs'.extBut (hTI k hk')
  exact hQ (Ts i) (vals i) h' s.toks ⟨hi,rfl⟩ (tup i hi) ⟨⟨hi,rfl⟩,Nu,st.2.1.at_ λo e=>hs'.extBut _ o hne e,tup⟩ λb o hb e=>hs'.extBut b o (λh=>hb (by simp [h])) e
 go:=λz! z! z! z! z! s Q z! hm hQ=>wpAny_letOwnedTupleGo_listiter hm.2.1 (hQ s.heap hm.2 λz! z! z! e=>e)
 apart:=λj T z! hm hmem=>by
  rcases Sh.mp hmem with e | e
  ·exact hTI j hm.1.1 (hm.1.2▸e)
  ·cases e
 done:=λs Q E st hQ=>by
  refine ob2_2 (id st.2.1) λo n e d=>?_
  exact n7 hh st.1 e d (by simp) λh' he'=>hQ h' s.toks λb o hb e=>he' b o (λh=>hb (by simp [h])) e
 self:=λz! z! z! z! st hQ=>wpAny_pyIter_listiter st.1 hQ
noncomputable def encP (p:Str×Str):PV:=.tup [.str p.1,.str p.2]
theorem ah.pairs {h:Heap}:∀ {xs:List (Str×Str)} {vs},ah W h (xs.map encP) vs->∃ (Ts:Nat->Addr) (vals:Nat->Array Value),∀ j,(hj:j<xs.length)->vs[j]? = some (.ref (Ts j))/\h.IsTuple (Ts j) (vals j) /\
  ∃ t u,vals j = #[.str xs[j].1 t,.str xs[j].2 u]
 | [],vs,r=>⟨λz! => 0,λz! => #[],λj hj=>by simp at hj⟩
 | x::xs,vs,r=>by
  rw [SV,ah] at r
  refine ob2_3 r λv vs' az r1 r2=>?_;obtain rfl:=az
  refine ob2_1 (ah.pairs r2) λTs vals hT=>?_
  refine ob0_2 r1.isTup λz! aA=>?_;refine ob2_4 aA λa us bq z! aY ru=>?_;obtain rfl:=bq;refine ob1_1 aY λn e=>?_
  refine ob2_3 ru.two λv1 v2 az q1 q2=>?_;obtain rfl:=az
  refine ob0_2 q1.isStr λz! aA=>?_;refine ob1_1 aA λt bh=>?_;obtain rfl:=bh
  refine ob0_2 q2.isStr λz! aA=>?_;refine ob1_1 aA λu bh=>?_;obtain rfl:=bh
  refine ⟨λj=>match j with | 0=>a | j+1=>Ts j,λj=>match j with | 0=>#[.str x.1 t,.str x.2 u] | j+1=>vals j,λj hj=>?_⟩
  cases j with
  | zero=>exact ⟨rfl,⟨_,e,rfl,n,rfl⟩,t,u,rfl⟩
  | succ j =>
   refine ob0_3 (hT j (by simpa using hj)) λa1 a2 a3=>?_
   exact ⟨by simpa using a1,a2,by simpa using a3⟩
theorem jF (n:Nat):passing (λz! => true) n 0=Sk n:=by
 unfold passing
 rw [Vx]
 exact VX.mpr λz! z! => rfl
structure uX (G:Glob) (F:Fm):Prop where
 code:∃ c P,F.env.code = .ref c/\P∈G.tabs/\∀ h,G.inv h->∃ ps,bU h c P ps
 bi:∃ bm,G.mg "__builtins__"=some (.ref bm)/\bm≠builtinsNs/\∀ h,G.inv h->∃ o,h.get? bm=some o/\o.cls = .type "module"/\o.dict=some builtinsNs/\o.data = .plain
 low:mainGlobals<G.base.objs.size/\builtinsNs<G.base.objs.size/\cStatics<G.base.objs.size
theorem xC {c P:Addr} {ps ps':Array Value} {tk:Nat} (iv:G.inv s.heap) (hP:P∈G.tabs) (hc:bU s.heap c P ps) (hx:U_ P s.heap h') (hc':bU h' c P ps') (hn:gH s.heap ps.toList->gH h' ps'.toList) :
  aG G [] s {s with heap:=h',toks:=tk} :=
 ⟨λb o z! hb e=>hx b o (λh=>hb (h▸hP)) e,λiv=>G.Je _ _ c P ps ps' iv hP hc hc' hn λb o hb e=>hx b o hb e,rfl,⟨[],by simp,by simp⟩⟩
theorem zA {c P:Addr} {q:Str} {ps:Array Value} (hr:h.CodeRec (.ref c) q) (ht:h.TableAt c P ps):eZ h (.ref c):=by
 refine ob4_4 hr λc' o vs t e ho hd hv=>?_
 cases e
 refine ob0_2 ht λbM z! => ?_;refine ob2_4 bM λo' vs' ho' hc hd' z! => ?_
 rw [ho] at ho';cases ho'
 exact ⟨c,o,vs,q,t,rfl,ho,hc,hd,hv⟩
theorem vc {x y:Int} {t u:Tok} {c:Value} (hk:∀ v,eZ h v->eZ h' v) (hc:eZ h' c) {l:List Value} (hr:gH h l):gH h' (l++[XE x t,XE y u,c]):=by
 induction hr with
 | nil=>exact .cons hc .nil
 | cons h1 _ ih=>exact .cons (hk _ h1) ih
theorem tB {c P:Addr} {ps:Array Value} (ht:h.TableAt c P ps) (hx:U_ P h h') (r:eZ h v):eZ h' v:=by
 refine ob5_5 r λd o vs q t e ho hc hd hv=>?_
 refine ⟨d,o,vs,q,t,e,hx d o (λhm=>?_) ho,hc,hd,hv⟩
 rw [hm,ht.2] at ho
 cases ho
 cases hc
theorem vd {c P c' P':Addr} {q:Str} {x y:Int} {t u:Tok} {ps ps':Array Value} (hok:bU h c P ps) (hx:U_ P h h') (hr:h'.CodeRec (.ref c') q) (ht:h'.TableAt c' P' ps') (T:gH h ps.toList) :
  gH h' (ps ++ #[XE x t,XE y u,Vc c']).toList:=by
 rw [UN]
 exact vc (λv=>tB hok.2 hx) (zA hr ht) T
theorem jY {M:Model} {c P:Addr} {ps:Array Value} {qualname:Str} {scope:Scope} (hc:env.code = .ref c) (hok:bU s.heap c P ps)
  (hQ:∀ code h' tk ps',U_ P s.heap h'->bU h' c P ps'->(gH s.heap ps.toList->gH h' ps'.toList)->Q code {s with heap:=h',toks:=tk}):wpAny M A (genexprCode env pos qualname scope) Q E s:=by
 cases hf:codeAmong pos ps.toList with
 | none =>
  exact wpAny_genexprCodeX hc hok.1 hok.2 hf λc' h' tk hx _ _ h1 hr h2 zz=>zz.elim λP' zz=>zz.elim λz! zz=>zz.elim λz! ht=>hQ _ _ _ _ hx ⟨h1,h2⟩ (vd hok hx hr ht)
 | some c'=>exact wpAny_genexprCode_hit hc hok.1 hf (hQ c' s.heap s.toks ps (λz! z! z! e=>e) hok id)
theorem zd {a b:Array GenState} {x:GenState} (hx:x.bare=true) (h:GenOnlyQ a.size (a.push x) b):∃ y:GenState,y.bare=true/\b.toList=a.toList++[y]:=by
 rcases h with rfl | ⟨⟨hz,ho⟩,hb⟩
 ·exact ⟨x,hx,by simp⟩
 ·rw [Array.size_push] at hz
  have hlt:a.size<b.size:=by exact Tn (Sp (So (Eq.symm hz)))
  refine ⟨b[a.size],hb _ (by simp [hlt]),?_⟩
  apply List.ext_getElem?
  intro k
  rcases Nat.lt_trichotomy k a.size with hk | hk | hk
  ·have h1:=ho k (by exact TP hk)
   rw [Array.getElem?_push] at h1
   rw [if_neg (by exact TP hk)] at h1
   rw [Xf (by simpa using hk)]
   simpa using h1
  ·subst hk
   rw [W4 (by simp)]
   simp [hlt]
  ·rw [TA (by simp;exact Mv hz hk),TA (by simp;exact S5 hk)]
theorem ny {K:Frag} {x d:Addr} {xa xb:Str} {pa pb pt:Pos} {kt:Nat} {scope:Scope}
  (S:St G F ρ W Rs s) (ok:uX G F) (Rh:∀ h,G.inv h->K.In h) (hI:∀ s',aG G [] s s'->au s'.heap x d C (.seq vs.toArray c) m) (hsub:mroIn K C (.type "list")=some true) (hg:findIn K (.ref C) "__iter__"=some (some (.builtin "list.__iter__")))
  (hr:ah W s.heap (xs.map encP) vs) (hit:EV G F ρ W Rs iter (.raw (.ref x)))
  (hco:scope.isCoroutine=false) (hclos:closureFor scope F.env=pure []) (hcell:∀ y∈scope.names,y.2 ≠ .cell) (h0:scope.names.lookup (".0":Str)=some NameKind.local)
  (hxa:scope.names.lookup xa=some .local) (hxb:scope.names.lookup xb=some .local) (hab:xa≠xb) (hkind:scope.kind = .function)
  (hs:∀ x,genFold iter F.env x=pure x)
  (V:Nat->Value->Prop)
  (helt:∀ (A':Around) E' i (hi:i<xs.length) t u C' code (s₂:Shared) m₂,A'.handled=none->s₂.heap.Ns C' m₂->m₂ xa=some (.str xs[i].1 t)->m₂ xb=some (.str xs[i].2 u) ->
   s₂.heap.Ns mainGlobals G.mg->s₂.heap.Ns builtinsNs G.mb ->
   wpAny G.M A' (eval elt (genEnv scope [] C' code builtinsNs F.env)) (λy s₃=>V i y/\Keeps s₂ s₃) E' s₂) :
  wpAny G.M F.A (eval (.GeneratorExp elt [⟨.Tuple [.Name xa pa,.Name xb pb] kt pt,iter,[],0⟩] scope pos) F.env) (λv s₁=>∃ a fp wr Gt St,v = .ref a /\
   WalksS G.prog G.w F.A.in4 a fp wr Gt xs.length (λj y=>∃ i,(Sk xs.length)[j]? = some i/\V i y) St/\St 0 s₁/\(∀ b∈fp,b<s₁.heap.objs.size)/\a∈fp/\(∀ i s,St i s->s.TypeIs (.ref a) "generator") /\
   (∀ s',Moved wr Gt s₁ s'->aG G [] s s')) (λz! z! => False) s:=by
 refine ob2_1 hr.pairs λTs vals hT=>?_
 refine ob2_3 ok.code λcc P hcode hP Q0=>?_
 refine ob1_3 ok.bi λbm hb1 hb2 NC=>?_
 have hz:vs.length=xs.length:=by rw [hr.length,Sa]
 have hroom:=S.room
 refine wpAny_GeneratorExp_walksQT hroom.1 hco hclos hcell h0 hxa hxb hab hkind (by have:=hroom.2.1;show F.A.depth<1000;exact Ms this) (aF (hit s S) λv s₁ zz=>zz.elim λy1 r=>?_) hs
 rw [Rep] at r;subst r
 have S₁:=S.step y1
 have KA:=hI s₁ y1
 refine inst_iter (Rh _ S₁.inv) KA hsub hg ?_
 have y2:aG G [] s₁ {s₁ with heap:=s₁.heap.push {cls:=.type "list_iterator",data:=.fields #[.ref x,.int 0 0]}}:=.bO G (t:=s₁.toks)
 have S₂:=S₁.step y2
 refine ⟨G.A0 _ S₂.inv,?_⟩
 refine ob1_1 (Q0 _ S₂.inv) λps hps=>?_
 refine jY hcode hps λcode h₃ tk₃ ps' qD Nh Jv=>?_
 have y3:=xC (s:={s₁ with heap:=s₁.heap.push {cls:=.type "list_iterator",data:=.fields #[.ref x,.int 0 0]}}) (tk:=tk₃) S₂.inv hP hps qD Nh Jv
 have aT:=S₂.step y3
 refine ob1_4 (NC _ aT.inv) λom hm1 hm2 A3 QE=>?_
 refine wpAny_builtinsFor (m:=G.mg) (by rw [S.glob];exact G.vO _ aT.inv) hb1 hb2 hm1 hm2 A3 QE ?_
 have wX:aG G [] s {s₁ with heap:=h₃,toks:=tk₃}:=y1.trans (y2.trans y3)
 have Kz:=hI _ wX
 have hlt:s₁.heap.objs.size<h₃.objs.size:=by
  have:h₃.get? s₁.heap.objs.size=some {cls:=.type "list_iterator",data:=.fields #[.ref x,.int 0 0]}:=by
   refine qD _ _ (λh=>?_) (Sn _ rfl)
   have:=G.rD P hP
   rw [<- h] at this
   exact SW _ (Sd this (aS S₁.inv))
  exact SY this
 have JJ:h₃.get? s₁.heap.objs.size=some {cls:=.type "list_iterator",data:=.fields #[.ref x,.int 0 0]}:=by
  refine qD _ _ (λh=>?_) (Sn _ rfl)
  have:=G.rD P hP
  rw [<- h] at this
  exact SW _ (Sd this (aS S₁.inv))
 have Qm:x≠s₁.heap.objs.size:=TP (SY KA.obj)
 have tups:∀ k,k<vs.toArray.size->h₃.IsTuple (Ts k) (vals k):=λk hk=>by
  have hk':k<xs.length:=by simpa [hz] using hk
  refine ob1_3 ((hT k hk').2.1) λo e hc' aA=>?_;refine ob1_1 aA λn hd=>?_
  exact ⟨o,wX.gQ S.inv (by simp) e (by rw [hd];simp),hc',n,hd⟩
 have rD:∀ k,k<vs.toArray.size->Ts k<s₁.heap.objs.size:=λk hk=>by
  have hk':k<xs.length:=by simpa [hz] using hk
  refine ob1_3 ((hT k hk').2.1) λo e hc' aA=>?_;refine ob1_1 aA λn hd=>?_
  exact SY (y1.gQ S.inv (by simp) e (by rw [hd];simp))
 have hbz:=aS S₁.inv
 have hwr:∀ b,b<G.base.objs.size->b∉[s₁.heap.objs.size]:=λb hb hm=>by
  have:b=s₁.heap.objs.size:=by simpa using hm
  subst this
  exact SW _ (Sd hb hbz)
 refine ⟨s₁.heap.objs.size,_,[s₁.heap.objs.size],vs.toArray.size,_,_,_,λz! => true,V,rfl,
  λA' Fe=>rM Fe s₁.heap.objs.size x Qm vs.toArray Ts vals (λj hj=>by
   have:=(hT j (by simpa [hz] using hj)).1
   simpa using this) (λj hj=>TP (rD j hj)),λi v hv=>?_,⟨⟨_,JJ,rfl,rfl⟩,⟨_,_,Kz.obj,rfl⟩,tups⟩,λb hb=>?_,G.A0 _ aT.inv,?_,λhref hhref=>⟨?_,?_⟩,λa h₅ tk gs QN O0 DO JD Wk hat=>?_⟩
 ·refine ob0_2 hv λhi aB=>?_;obtain rfl:=aB
  obtain ⟨_,_,t,u,e⟩:=hT i (by simpa [hz] using hi)
  exact ⟨_,_,e⟩
 ·rcases Sh.mp hb with rfl | hb
  ·exact hlt
  ·rcases Sh.mp hb with rfl | hb
   ·exact SY Kz.obj
   ·refine ob1_2 (SN.mp hb) λk hk az=>?_;obtain rfl:=az
    exact Nat.lt_trans (rD k (Ss.mp hk)) hlt
 ·exact hwr _ ok.low.2.2
 ·intro A' E' i va vb s₂ m₂ Fe O4 hn e1 e2 hk
  exact R8 ⟨rfl,s₂.heap,s₂.toks,rfl,λz! z! e=>e⟩
 ·intro A' E' i va vb s₂ m₂ Fe O4 RZ hn e1 e2 hk
  refine ob0_2 O4 λhi hv=>?_
  have hi':i<xs.length:=by simpa [hz] using hi
  obtain ⟨_,_,t,u,e⟩:=hT i hi'
  rw [e] at hv
  injection hv with hv
  injection hv with q1 q2
  injection q2 with q2 q3
  subst q1 q2
  have IQ:∀ b mm,b<G.base.objs.size->h₃.Ns b mm->s₂.heap.Ns b mm:=λb mm hb hn'=>by
   refine ob3_2 hn' λo es ep e r=>?_
   exact ⟨o,es,ep,hk b (Ss.mpr (SY e)) (hwr b hb) o (hhref b o e),r⟩
  exact helt A' E' i hi' t u _ _ s₂ m₂ Fe hn e1 e2 (IQ _ _ ok.low.1 (G.vO _ aT.inv)) (IQ _ _ ok.low.2.1 (G.AZ _ aT.inv))
 ·have hl:(passing (λz! => true) vs.toArray.size 0).length=xs.length:=by rw [jF];simp [hz]
  have hp:passing (λz! => true) vs.toArray.size 0=Sk xs.length:=by rw [jF];simp [hz]
  rw [hl,hp] at Wk
  refine ⟨a,_,_,_,_,rfl,Wk,hat,λb hb=>?_,R_ ..,λi s' st=>st.1.typeIs,λs' hm=>?_⟩
  ·show b<h₅.objs.size
   rw [DO]
   rcases Sh.mp hb with rfl | hb
   ·exact UG _
   ·rcases Sh.mp hb with rfl | hb
    ·exact Td O0
    ·exact Td (Nat.lt_trans (Ss.mp hb) O0)
  ·have OV:∀ b o,b≠s₁.heap.objs.size->h₃.get? b=some o->s'.heap.get? b=some o:=λb o hb e=>by
    refine hm.heap b o (λhmem=>?_) (JD b o e)
    rcases Sh.mp hmem with h | h
    ·have:=SY e
     rw [h] at this
     exact SW _ this
    ·exact hb (by simpa using h)
   refine ⟨λb o z! hb e=>?_,λiv=>?_,?_,?_⟩
   ·have e3:=wX.keep b o (by simp) hb e
    refine OV b o (λh=>?_) e3
    subst h
    have:=y1.keep _ o (by simp) hb e
    exact SW _ (SY this)
   ·refine G.AY h₃ s'.heap [s₁.heap.objs.size] aT.inv (λb hb=>?_) λb o hb e=>OV b o (by simpa using hb) e
    have:b=s₁.heap.objs.size:=by simpa using hb
    subst this
    refine ⟨hbz,λo e=>.inl ?_⟩
    rw [JJ] at e;cases e
    show U5 "list_iterator"≠U5 "code"
    decide
   ·rw [hm.os]
    exact wX.os
   ·refine ob1_2 wX.gens λl el hl'=>?_
    refine ob1_2 (zd QN hm.gens) λy hy ey=>?_
    refine ⟨l++[y],?_,λz hz=>?_⟩
    ·rw [ey]
     have:s₁.gens.toList=s.gens.toList++l:=el
     show s₁.gens.toList++[y]=_
     rw [this,SH]
    ·rcases Sq.mp hz with h | h
     ·exact hl' z h
     ·have:z=y:=by simpa using h
      rw [this];exact hy
section
theorem rH (hf:env.scope.kind = .function) (hk:env.kindOf x=some .local) (hn:s.heap.Ns env.locals m) (hm:m x=some v)
  (h:Q v s) (hd:(x == ("__debug__":Str))=false):wpAny (model prog w) A (eval (.Name x pos) env) Q E s :=
 wpAny_Name (WZ hf hk hn hm h) hd
theorem tP {p1 p2:Pos} {mb:Str->Option Value} {f:Str} {t:Tok} (hf:env.scope.kind = .function) (hx:env.kindOf x=some .globalImplicit) (hg:s.heap.Ns env.globals mg) (hmg:mg x=none)
  (hb:s.heap.Ns env.builtins mb) (hmb:mb x=some (.builtin "len")) (hk:env.kindOf y=some .local) (hn:s.heap.Ns env.locals m) (hm:m y=some (.str f t)) (hl:f.length<=lim)
  (h:∀ t' k,Q (.int f.length t') {s with toks:=k}) (hdx:(x == ("__debug__":Str))=false) (QV:(y == ("__debug__":Str))=false)
  (hst:backTo pos (starEach [.Name y p2] env)=[(false,eval (.Name y p2) env)]:=by rfl) :
  wpAny (model prog w) A (eval (.Call (.Name x p1) [.Name y p2] [] pos) env) Q E s:=by
 rw [Vz]
 refine R7 (We hf hx (Xj hg hmg hb hmb ?_) hdx)
 rw [hst]
 refine Tq rfl ?_
 refine Ti (Ua (rH hf hk hn hm (Vu ?_) QV))
 exact PySem.P.len_str (qC hl) (h _ _)
theorem Af {ya yb:Str} {p1 p2 p3 q1 q2 q3:Pos} {mb:Str->Option Value} {f g:Str} {t u:Tok} (hf:env.scope.kind = .function) (hx:env.kindOf x=some .globalImplicit) (hg:s.heap.Ns env.globals mg) (hmg:mg x=none)
  (hb:s.heap.Ns env.builtins mb) (hmb:mb x=some (.builtin "len")) (hka:env.kindOf ya=some .local) (hkb:env.kindOf yb=some .local) (hn:s.heap.Ns env.locals m) (hma:m ya=some (.str f t)) (DW:m yb=some (.str g u)) (hl:f.length<=lim) (hl':g.length<=lim)
  (h:∀ t' k,Q (.int (f.length+g.length) t') {s with toks:=k}) (hdx:(x == ("__debug__":Str))=false) (hda:(ya == ("__debug__":Str))=false) (hdb:(yb == ("__debug__":Str))=false)
  (hst:backTo p3 (starEach [.Name ya p2] env)=[(false,eval (.Name ya p2) env)]:=by rfl) (vR:backTo q3 (starEach [.Name yb q2] env)=[(false,eval (.Name yb q2) env)]:=by rfl) :
  wpAny (model prog w) A (eval (.BinOp (.Call (.Name x p1) [.Name ya p2] [] p3) .Add (.Call (.Name x q1) [.Name yb q2] [] q3) pos) env) Q E s:=by
 refine wpAny_BinOp (tP hf hx hg hmg hb hmb hka hn hma hl (λt1 k1=>?_) hdx hda hst)
 refine tP (s:={s with toks:=k1}) hf hx hg hmg hb hmb hkb hn DW hl' (λt2 k2=>?_) hdx hdb vR
 exact PySem.P.add_int (h _ _)
theorem wZ {ya yb:Str} {p1 p2 p3 tp:Pos} {kt:Nat} {f g e:Str} {t u te:Tok} (hf:env.scope.kind = .function) (hx:env.kindOf x=some .globalImplicit) (hg:s.heap.Ns env.globals mg) (hmg:mg x=some (.str e te))
  (he:e="") (hka:env.kindOf ya=some .local) (hkb:env.kindOf yb=some .local) (hn:s.heap.Ns env.locals m) (hma:m ya=some (.str f t)) (DW:m yb=some (.str g u)) (hl:f.length<=lim) (hl':g.length<=lim)
  (h:∀ h' t' k,(∀ b o,s.heap.get? b=some o->h'.get? b=some o)->Q (.str (f++g) t') {s with heap:=h',toks:=k}) (hdx:(x == ("__debug__":Str))=false) (hda:(ya == ("__debug__":Str))=false) (hdb:(yb == ("__debug__":Str))=false)
  (hbase:attributeBase (.Name x p1) "join" env (eval (.Name x p1) env)=eval (.Name x p1) env:=by rfl)
  (hfew:((backTo pos (starEach [.Tuple [.Name ya p2,.Name yb p3] kt tp] env)).all (λx => !x.1) && (backToKw pos (keywordEach [] env)).all (λx=>x.1.isSome)
   && decide ([PySem.Expr.Tuple [.Name ya p2,.Name yb p3] kt tp].length+([]:List Keyword).length+(if ([]:List Keyword).isEmpty then 0 else 1)<30))=true:=by rfl)
  (hst:backTo pos (starEach [.Tuple [.Name ya p2,.Name yb p3] kt tp] env)=[(false,eval (.Tuple [.Name ya p2,.Name yb p3] kt tp) env)]:=by rfl)
  (DP:backTo tp (starEach [.Name ya p2,.Name yb p3] env)=[(false,eval (.Name ya p2) env),(false,eval (.Name yb p3) env)]:=by rfl)
  (hline:(apos.endLine == pos.line)=true:=by rfl) :
  wpAny (model prog w) A (eval (.Call (.Attribute (.Name x p1) "join" apos) [.Tuple [.Name ya p2,.Name yb p3] kt tp] [] pos) env) Q E s:=by
 subst he
 refine Ug hbase hfew hline (We hf hx (Calls.loadGlobal_global hg hmg ?_) hdx)
 rw [hst]
 refine ⟨"str","str.join",V3,WU,WV,Wf _ _ _,(λz! e=>nomatch e),?_⟩
 refine Tq rfl ?_
 refine Ti (Ua (wpAny_Tuple_spliced ?_))
 rw [DP]
 refine Ua (rH hf hka hn hma (Ua (rH hf hkb hn DW (Vu ?_) hdb)) hda)
 refine ⟨by show (2:Nat)<=_;decide,Vu ?_⟩
 have hlim:lim=1048576:=by decide
 refine join_tuple (D:=s.heap.objs.size) (items:=#[.str f t,.str g u]) (ys:=[f,g]) ⟨_,Sn _ rfl,rfl,_,rfl⟩ (.cons f t (.cons g u .nil)) ?_ λt' k=>?_
 ·rw [show ("":Str).length=0 from rfl]
  simp
  exact Mt hl hl' hlim
 ·have e1:Txt.join "" [f,g]=f++g:=by
   rw [show Txt.join "" [f,g]=Sx "" [f,g] from Wj ..]
   show f++""++g=f++g
   obtain ⟨fa⟩:=f
   obtain ⟨ga⟩:=g
   show Str.mk ((fa ++ #[])++ga)=Str.mk (fa++ga)
   simp
  rw [e1]
  exact h _ t' k λb o e=>Sg _ e
end
section
noncomputable def dG (C a d:Addr) (k:Nat) (xs:List (Str×Str)) (W:List Addr) (h:Heap):Prop :=
 xs.length<=lim/\∃ vs c m,au h a d C (.seq vs.toArray c) m/\(∃ t,m "_initial_size"=some (.int k t))/\(∀ y:Str,y≠"_initial_size"->m y=none)/\ah W h (xs.map encP) vs
theorem au.keep {x d:Addr} {m} (I:au h x d C dat m) (k:∀ b,b=x\/b=d->∀ o,h.get? b=some o->h'.get? b=some o):au h' x d C dat m :=
 ⟨k x (.inl rfl) _ I.obj,I.no,I.ns.at λo e=>k d (.inr rfl) o e,I.ne⟩
noncomputable def Res.acc (C a d:Addr) (k:Nat) (xs:List (Str×Str)):Res where
 addrs:=[a,d]
 holds:=dG C a d k xs
 keep:=λW W' h h' zz=>zz.elim λhl zz=>zz.elim λvs zz=>zz.elim λc zz=>zz.elim λm zz=>zz.elim λI zz=>zz.elim λh1 zz=>zz.elim λh2 r k sk hw=>⟨hl,vs,c,m,I.keep λb hb o e=>k b (by rcases hb with rfl | rfl <;> simp) o e,h1,h2,r.keep sk hw⟩
noncomputable def bx (G:Glob) (F:Fm) (ρ:List (Str×PV)) (W:List Addr) (Rs:List Res) (P:List Addr->Heap->Prop):Prop:=∀ s,St G F ρ W Rs s->P W s.heap
theorem bx.res {r:Res} (h:r∈Rs):bx G F ρ W Rs r.holds:=λs S=>S.res r h
theorem bx.start {r:Res} (hX:F.X=[]) (hi:G.inv F.s0.heap) (hl:∀ a∈r.addrs,G.base.objs.size<=a) (h:r.holds W F.s0.heap):bx G F ρ W Rs r.holds:=λs S=>by
 have x:=S.stp
 rw [hX] at x
 exact r.keep W W _ _ h (λa ha o e=>x.keep a o (by simp) (λht=>SW _ (Sd (G.rD a ht) (hl a ha))) e) (x.cg hi (by simp)) λz! z! q=>q
theorem MP.mz (ok:bQ G f fd body)
  (hb:∀ s W vs,G.inv s.heap->ah W s.heap ps vs->∃ vs',BindsTo s fd ⟨vs,[]⟩ (names.zip vs')/\ah W s.heap ps' vs') (hlen:names.length=ps'.length)
  (hnm:∀ x∈names,fd.scope.names.lookup x=some .local\/fd.scope.names.lookup x=some .cell)
  (h:∀ A W s L,cz A (n+1)->G.inv s.heap->vK G W s->(∀ r∈Rs,r.holds W s.heap)->(∀ r∈Rs,∀ a∈r.addrs,a∈W)->jz G (eO fd f A s L n) (.func body (dF fd f L)) (names.zip ps').reverse W [] body (λfl s'=>aG G [] s s'/\Rep W s'.heap q (match fl with | .ret v=>v | _=>.none))) :
  MP G f (n+1) Rs ps q:=λA W s vs hA iv low rs h1 h2 h3=>by
 refine ob1_2 (hb s W vs iv rs) λvs' hb' rs'=>?_
 refine UA (V2 (gF (Rs:=[]) (Q:=λv s'=>aG G [] s s'/\Rep W s'.heap q v) ok hA iv low hb' rs' hlen (by simp) (by simp) .nil hnm (h A W s s.heap.objs.size hA iv low h1 h2)) λr s' hr=>?_)
 match r,hr with
 | .ok (.ret v),hr=>exact hr
 | .ok .next,hr=>exact hr.elim
 | .ok .brk,hr=>exact hr.elim
 | .ok .cont,hr=>exact hr.elim
 | .error e,hr=>exact hr.elim
theorem MP.of {f:Addr} {fd:FuncData} {body:List Stmt} (ok:bQ G f fd body) {names:List Str} {ps ps':List PV} {q:PV} {n:Nat}
  (hb:∀ s W vs,G.inv s.heap->ah W s.heap ps vs->∃ vs',BindsTo s fd ⟨vs,[]⟩ (names.zip vs')/\ah W s.heap ps' vs') (hlen:names.length=ps'.length)
  (hnm:∀ x∈names,fd.scope.names.lookup x=some .local\/fd.scope.names.lookup x=some .cell)
  (h:∀ A W s L,cz A (n+1)->G.inv s.heap->vK G W s->(∀ r∈Rs,r.holds W s.heap)->(∀ r∈Rs,∀ a∈r.addrs,a∈W)->XS G (eO fd f A s L n) (names.zip ps').reverse W [] body (λfl s'=>aG G [] s s'/\Rep W s'.heap q (match fl with | .ret v=>v | _=>.none))) :
  MP G f (n+1) Rs ps q :=
 MP.mz ok hb hlen hnm λA W s L hA iv low h1 h2=>.of (h A W s L hA iv low h1 h2)
structure pD (G:Glob) (K:Frag) (C:Addr):Prop where
 gr:∀ h,G.inv h->K.In h
 ga:findIn K (.ref C) "__getattribute__"=some (some (.builtin "list.__getattribute__"))
 gt:findIn K (.ref C) "__getattr__"=some none
 hd:hasDictIn K C=true
 sub:mroIn K C (.type "list")=some true
 ni:noSeq K C=true
 gi:findIn K (.ref C) "__getitem__"=some (some (.builtin "list.__getitem__"))
 si:findIn K (.ref C) "__setitem__"=some (some (.builtin "list.__setitem__"))
 it:findIn K (.ref C) "__iter__"=some (some (.builtin "list.__iter__"))
 app:findIn K (.ref C) "append"=some (some (.builtin "list.append"))
 KV:findIn K (.ref C) "_initial_size"=some none
variable {K:Frag} {a d:Addr}
theorem EV.i_ (ok:pD G K C) (kn:bx G F ρ W Rs (dG C a d k xs)) (ho:EV G F ρ W Rs o (.raw (.ref a)))
  (he:∀ env,eval (.Attribute o "_initial_size" pos) env=(do
   let v<-eval o env
   standAt pos.atName
   let r<-holding [v] (getAttr v "_initial_size" true)
   letTemporaryGo o v r
   pure r):=by intro _;with_unfolding_all rfl):EV G F ρ W Rs (.Attribute o "_initial_size" pos) (.int k):=λs S=>by
 refine Attribute_any_ (aF (ho s S) λv s₁ zz=>zz.elim λy r=>?_) (he _)
 rw [Rep] at r;subst r
 have S₁:=S.step y
 refine ob0_2 (kn s₁ S₁) λhl aA=>?_;refine ob3_4 aA λvs c m I aY hm2 rs=>?_;refine ob1_1 aY λt hm=>?_
 exact pM (ok.gr _ S₁.inv) I ok.ga ok.hd ok.gt ok.sub ok.KV hm rfl ⟨y.trans (.of_toks G),Rep.int⟩
end
section
variable {K:Frag} {a d:Addr}
noncomputable def av (xs:List (Str×Str)):Nat:=(xs.map λp=>p.1.length+p.2.length).sum
noncomputable def bG (xs:List (Str×Str)):List Str:=xs.map λp=>p.1++p.2
theorem ah.oi {h:Heap}:∀ {xs:List (Str×Str)} {vs},ah W h (xs.map encP) vs->∀ p∈xs,p.1.length<=lim/\p.2.length<=lim
 | [],_,_,p,hp=>by cases hp
 | x::xs,vs,r,p,hp=>by
  rw [SV,ah] at r
  refine ob2_3 r λv vs' az r1 r2=>?_;obtain rfl:=az
  rcases Sh.mp hp with rfl | hp
  ·refine ob0_2 r1.isTup λz! aA=>?_;refine ob2_4 aA λa us bq z! z! ru=>?_;obtain rfl:=bq
   refine ob2_3 ru.two λv1 v2 az q1 q2=>?_;obtain rfl:=az
   exact ⟨q1.isStr.1,q2.isStr.1⟩
  ·exact ah.oi r2 p hp
theorem iF (xs:List (Str×Str)):∀ n,n<=xs.length->preSum (λi=>(((xs[i]?).map λp=>((p.1.length+p.2.length:Nat):Int)).getD 0)) n=(av (xs.take n):Nat)
 | 0,_=>by simp [preSum,av]
 | n+1,h=>by
  rw [preSum,iF xs n (by exact Sl h)]
  have hn:n<xs.length:=by exact Tn (Sp h)
  unfold av
  rw [show xs.take (n+1)=xs.take n++[xs[n]] from (List.take_append_getElem hn).symm,S4,List.sum_append]
  simp [hn]
theorem au.stp {m} {x:Addr} (I:au s.heap x d C dat m) (hd:∀ vs,dat ≠ .fields vs) (iv:G.inv s.heap) (y:aG G [] s s'):au s'.heap x d C dat m:=by
 refine I.keep λb hb o e=>?_
 rcases hb with rfl | rfl
 ·refine y.gQ iv (by simp) e λvs h=>?_
  rw [I.obj] at e;cases e
  exact hd vs h
 ·refine y.gQ iv (by simp) e λvs h=>?_
  refine ob3_3 I.ns λo' es ep e' d' z! => ?_
  rw [e] at e';cases e'
  rw [h] at d';cases d'
theorem St.k8 (S:St G F ρ W Rs s) (hx:ρ.lookup x=some (.raw v)) (hd:(x == ("__debug__":Str))=false)
  (hc:(x == ("__classdict__":Str))=false) (h:Q v s):wpAny G.M F.A (eval (.Name x pos) F.env) Q E s:=by
 refine ob1_2 (S.vars x _ hx) λv' l r=>?_
 rw [Rep] at r;subst r
 refine wpAny_Name ?_ hd
 rcases l with ⟨k,m,hn,e⟩ | ⟨k | k,c,e,hv⟩
 ·exact WZ S.kind k hn e h
 ·exact wpAny_loadName_cell S.kind k e hv h
 ·exact Xg S.kind k e hv h hc
structure rB (F:Fm) (scope:Scope) (xa xb:Str):Prop where
 co:scope.isCoroutine=false
 clos:closureFor scope F.env=pure []
 cell:∀ y∈scope.names,y.2 ≠ .cell
 h0:scope.names.lookup (".0":Str)=some NameKind.local
 la:scope.names.lookup xa=some .local
 lb:scope.names.lookup xb=some .local
 ab:xa≠xb
 kind:scope.kind = .function
 da:(xa == ("__debug__":Str))=false
 db:(xb == ("__debug__":Str))=false
theorem EV.EW {it:SQ} {Oj xl xa xb:Str} {p1 p2 p3 p4 p5 p6 q0 q1 po y9 pa pb pt:Pos} {kt:Nat} {scope:Scope} (ok:pD G K C) (NR:uX G F) (gs:rB F scope xa xb) (kn:bx G F ρ W Rs (dG C a d k xs))
  (hsum:EV G F ρ W Rs (.Name Oj q0) (.raw (.builtin "sum"))) (hit:EV G F ρ W Rs it (.raw (.ref a))) (Qk:ρ.lookup xo=some (.raw (.ref a))) (hdo:(xo == ("__debug__":Str))=false) (hco:(xo == ("__classdict__":Str))=false)
  (hlk:scope.names.lookup xl=some .globalImplicit) (hl1:G.mg xl=none) (hl2:G.mb xl=some (.builtin "len")) (hdl:(xl == ("__debug__":Str))=false)
  (hs:∀ x,genFold it F.env x=pure x)
  (he:eval (.Attribute (.Name xo po) "_initial_size" apos) F.env=(do
   let v<-eval (.Name xo po) F.env
   standAt apos.atName
   let r<-holding [v] (getAttr v "_initial_size" true)
   letTemporaryGo (.Name xo po) v r
   pure r):=by with_unfolding_all rfl)
  (hstar:backTo pos (starEach [.GeneratorExp (.BinOp (.Call (.Name xl p1) [.Name xa p2] [] p3) .Add (.Call (.Name xl p4) [.Name xb p5] [] p6) q1) [⟨.Tuple [.Name xa pa,.Name xb pb] kt pt,it,[],0⟩] scope y9,.Attribute (.Name xo po) "_initial_size" apos] F.env) =
   [(false,eval (.GeneratorExp (.BinOp (.Call (.Name xl p1) [.Name xa p2] [] p3) .Add (.Call (.Name xl p4) [.Name xb p5] [] p6) q1) [⟨.Tuple [.Name xa pa,.Name xb pb] kt pt,it,[],0⟩] scope y9) F.env),(false,eval (.Attribute (.Name xo po) "_initial_size" apos) F.env)]:=by rfl) :
  EV G F ρ W Rs (.Call (.Name Oj q0) [.GeneratorExp (.BinOp (.Call (.Name xl p1) [.Name xa p2] [] p3) .Add (.Call (.Name xl p4) [.Name xb p5] [] p6) q1) [⟨.Tuple [.Name xa pa,.Name xb pb] kt pt,it,[],0⟩] scope y9,.Attribute (.Name xo po) "_initial_size" apos] [] pos)
   (.int ((k+av xs:Nat):Int)):=λs S=>by
 rw [Vz]
 refine R7 (aF (hsum s S) λv s₁ zz=>zz.elim λy r=>?_)
 rw [Rep] at r;subst r
 have S₁:=S.step y
 rw [hstar]
 refine Tq rfl ?_
 refine ob0_2 (kn s₁ S₁) λhl aA=>?_;refine ob3_4 aA λvs c m I aY hm2 rs=>?_;refine ob1_1 aY λt hm=>?_
 refine Ti (Ua (aF (ny S₁ NR ok.gr (λs' y'=>I.stp (by simp) S₁.inv y') ok.sub ok.it rs hit gs.co gs.clos gs.cell gs.h0 gs.la gs.lb gs.ab gs.kind hs
  (λi v=>∃ p t,xs[i]? = some p/\v = .int (p.1.length+p.2.length) t) (λA' E' i hi t u C' code s₂ m₂ Fe hn e1 e2 hg hb=>?_)) λv s₂ hv=>?_))
 ·have hp:=rs.oi xs[i] (UH _)
  refine Af (env:=genEnv scope [] C' code builtinsNs F.env) gs.kind hlk (by show s₂.heap.Ns F.env.globals G.mg;rw [S.glob];exact hg) hl1 hb hl2 gs.la gs.lb hn e1 e2 hp.1 hp.2 (λt' k'=>?_) hdl gs.da gs.db
  exact ⟨⟨xs[i],t',by simp [hi],rfl⟩,s₂.heap,k',rfl,λz! z! e=>e⟩
 ·refine ob5_7 hv λga fp wr Gt Px Ae Wk hst hfp hga hty hend=>?_;obtain rfl:=Ae
  have S₂:aG G [] s₁ s₂:=hend s₂ ⟨λz! z! z! e=>e,Wk.grefl _,rfl,rfl,Si _⟩
  have SS:=S₁.step S₂
  refine Ua (Attribute_any_ (SS.k8 Qk hdo hco ?_) he)
  refine ob0_2 (kn s₂ SS) λhl' aA=>?_;refine ob3_4 aA λvs' c' m' I' aY Jx rs'=>?_;refine ob1_1 aY λt' hm'=>?_
  refine pM (ok.gr _ SS.inv) I' ok.ga ok.hd ok.gt ok.sub ok.KV hm' rfl (Vu ?_)
  have vR:=Wk.frame 0 s₂ s₂.heap (s₂.toks+1) hst (Uj _) λz! z! z! e=>e
  refine we (k:=(k:Int)) ?_
  refine Wk.in4_1.self 0 _ _ _ vR ?_
  refine ⟨ga,fp,wr,Gt,xs.length,_,Px,(λi=>(((xs[i]?).map λp=>((p.1.length+p.2.length:Nat):Int)).getD 0)),rfl,Wk.in4_1,vR,hfp,λi v hP=>?_,λs' t'' A3=>?_⟩
  ·refine ob1_2 hP λi' hi' aA=>?_;refine ob2_2 aA λp tt hp wV=>?_;obtain rfl:=wV
   have:i'=i:=by
    rw [VV] at hi'
    ·exact (UC hi').symm
    ·rcases VI i xs.length with h | h
     ·exact h
     ·rw [TA (by simpa using h)] at hi';cases hi'
   subst this
   refine ⟨tt,?_⟩
   show _=XE ((Option.map (λp:Str×Str=>((p.1.length+p.2.length:Nat):Int)) xs[i']?).getD 0) tt
   rw [hp];simp
  ·have z:aG G [] s₁ s':=hend s' ⟨λb o hb e=>A3.heap b o hb e,A3.gens,A3.drawn,A3.os,R9 (Uj _) A3.toks⟩
   refine ⟨y.trans z,?_⟩
   rw [iF xs _ (Si _),Xa]
   have:(k:Int)+(av xs:Nat)=((k+av xs:Nat):Int):=by push_cast;rfl
   rw [this]
   exact Rep.int
theorem u_ {l:List (Str×Tok)} {P:Nat->Value->Prop} (h:ItemsOf P (strValues l).toArray xs.length) (hP:∀ i v,P i v->∃ p t,xs[i]? = some p/\v = .str (p.1++p.2) t):l.map (·.1)=bG xs:=by
 have hz:l.length=xs.length:=by
  have:=h.1
  simpa [strValues] using this
 apply List.ext_getElem?
 intro i
 by_cases hi:i<xs.length
 ·have hl:i<l.length:=by exact Sd hi (So (Eq.symm hz))
  refine ob2_2 (hP i (.str l[i].1 l[i].2) (h.2 i _ (by simp [strValues,hl]))) λp t hp hv=>?_
  injection hv with hv1 hv2
  unfold bG
  simp only [SP,hp,Wo]
  rw [Sv hl]
  simp [hv1]
 ·rw [TA (by simp;exact Mr hz hi),TA (by unfold bG;simp;exact TS hi)]
theorem EV.BE {it:SQ} {xe xl xa xb:Str} {p1 p2 p3 p4 p5 q0 y9 CU pa pb pt:Pos} {kt P8:Nat} {scope:Scope} {te:Tok} (ok:pD G K C) (NR:uX G F) (gs:rB F scope xa xb) (kn:bx G F ρ W Rs (dG C a d k xs))
  (Ql:F.env.kindOf xe=some .globalImplicit) (hit:EV G F ρ W Rs it (.raw (.ref a))) (hmg:G.mg xe=some (.str "" te)) (OZ:(xe == ("__debug__":Str))=false)
  (hlk:scope.names.lookup xe=some .globalImplicit) (hz:av xs<=lim)
  (hs:∀ x,genFold it F.env x=pure x)
  (hbase:attributeBase (.Name xe q0) "join" F.env (eval (.Name xe q0) F.env)=eval (.Name xe q0) F.env:=by rfl)
  (hline:(apos.endLine == pos.line)=true:=by rfl)
  (D8:∀ C' code,attributeBase (.Name xe p1) "join" (genEnv scope [] C' code builtinsNs F.env) (eval (.Name xe p1) (genEnv scope [] C' code builtinsNs F.env))=eval (.Name xe p1) (genEnv scope [] C' code builtinsNs F.env):=by intro _ _;rfl)
  (DX:(CU.endLine == p4.line)=true:=by rfl) :
  EV G F ρ W Rs (.Call (.Attribute (.Name xe q0) "join" apos) [.GeneratorExp (.Call (.Attribute (.Name xe p1) "join" CU) [.Tuple [.Name xa p2,.Name xb p3] P8 p5] [] p4) [⟨.Tuple [.Name xa pa,.Name xb pb] kt pt,it,[],0⟩] scope y9] [] pos)
   (.str (Sx "" (bG xs))):=λs S=>by
 refine Ug hbase (by rfl) hline (aF (EV.glob (W:=W) (ρ:=ρ) (Rs:=Rs) (F:=F) (pos:=q0) Ql hmg OZ s S) λv s₁ zz=>zz.elim λy r=>?_)
 rw [Rep] at r;subst r
 have S₁:=S.step y
 refine ⟨"str","str.join",V3,WU,WV,Wf _ _ _,(λz! e=>nomatch e),?_⟩
 refine Tq rfl ?_
 refine ob0_2 (kn s₁ S₁) λhl aA=>?_;refine ob3_4 aA λvs c m I aY hm2 rs=>?_;refine ob1_1 aY λt hm=>?_
 have hlim:lim=1048576:=by decide
 refine Ti (Ua (aF (ny S₁ NR ok.gr (λs' y'=>I.stp (by simp) S₁.inv y') ok.sub ok.it rs hit gs.co gs.clos gs.cell gs.h0 gs.la gs.lb gs.ab gs.kind hs
  (λi v=>∃ p t,xs[i]? = some p/\v = .str (p.1++p.2) t) (λA' E' i hi t u C' code s₂ m₂ Fe hn e1 e2 hg hb=>?_)) λv s₂ hv=>Vu ?_))
 ·have hp:=rs.oi xs[i] (UH _)
  refine wZ (env:=genEnv scope [] C' code builtinsNs F.env) gs.kind hlk (by show s₂.heap.Ns F.env.globals G.mg;rw [S.glob];exact hg) hmg rfl gs.la gs.lb hn e1 e2 hp.1 hp.2 (λh' t' k' hk=>?_) OZ gs.da gs.db (hbase:=D8 _ _) (hline:=DX)
  exact ⟨⟨xs[i],t',by simp [hi],rfl⟩,h',k',rfl,hk⟩
 ·refine ob5_7 hv λga fp wr Gt Px Ae Wk hst hfp hga hty hend=>?_;obtain rfl:=Ae
  refine SC.joinGen Wk.in4_2 hty hst hfp hga (λi v hP=>?_) (λs' l A3 Nr=>?_) (R9 hl (by decide))
  ·refine ob1_2 hP λi' hi' aA=>?_;refine ob2_2 aA λp tt hp wV=>?_;obtain rfl:=wV
   exact ⟨_,_,rfl⟩
  ·have el:l.map (·.1)=bG xs:=u_ Nr λi v hP=>by
    refine ob1_2 hP λi' hi' aA=>?_;refine ob2_2 aA λp tt hp wV=>?_;obtain rfl:=wV
    have:i'=i:=by
     rw [VV] at hi'
     ·exact (UC hi').symm
     ·rcases VI i xs.length with h | h
      ·exact h
      ·rw [TA (by simpa using h)] at hi';cases hi'
    subst this
    exact ⟨p,tt,hp,rfl⟩
   have hsum:((bG xs).map (·.length)).sum=av xs:=by
    unfold bG av
    rw [S3]
    congr 1
    apply Te
    intro p _
    exact SG ..
   rw [el]
   refine ⟨joinOk_of (by rw [hsum,show ("":Str).length=0 from rfl];exact Mq hz hlim),λt' k'=>⟨(y.trans (hend s' A3)).toks _,?_⟩⟩
   rw [show Txt.join "" (bG xs)=Sx "" (bG xs) from Wj ..]
   refine Rep.str ?_
   have:=XJ "" (bG xs)
   rw [hsum,show ("":Str).length=0 from rfl] at this
   exact R9 this hz
end
section
variable {K:Frag} {a d:Addr}
theorem St.kB (S:St G F ρ W (Res.acc C a d k xs::Ro) s) {tk:Nat} {us:List Value} {c':Nat} (I':au h' a d C (.seq us.toArray c') m')
  (hm:∃ t,m' "_initial_size"=some (.int k' t)) (hm2:∀ y:Str,y≠"_initial_size"->m' y=none) (hk:∀ b o,b≠a->b≠d->s.heap.get? b=some o->h'.get? b=some o) (hl:ys.length<=lim) (r:ah W s.heap (ys.map encP) us) :
  St G F ρ W (Res.acc C a d k' ys::Ro) {s with heap:=h',toks:=tk}:=by
 refine ob0_2 (S.res _ (R_ ..)) λz! aA=>?_;refine ob3_2 aA λvs c m I z! => ?_
 have hW:∀ b∈(Res.acc C a d k xs).addrs,b∈W:=λb hb=>(S.new _ (R_ ..) b hb).1
 have y:aG G [a,d] s {s with heap:=h',toks:=tk}:=aG.gn G (λb hb=>by
  refine ⟨(S.low b (hW b hb)).1,λo e=>.inr λws hd=>?_⟩
  rcases Sh.mp hb with rfl | hb
  ·rw [I.obj] at e;cases e;cases hd
  ·have:b=d:=by simpa using hb
   subst this
   refine ob3_3 I.ns λo' es ep e' d' z! => ?_
   rw [e] at e';cases e'
   rw [hd] at d';cases d') λb o hb e=>hk b o (λh=>hb (by simp [h])) (λh=>hb (by simp [h])) e
 have sk:=y.cg S.inv hW
 have e1:([Res.acc C a d k xs]).flatMap (·.addrs)=[a,d]:=rfl
 refine St.xh (Rs:=[Res.acc C a d k xs]) (aq:=[Res.acc C a d k' ys]) (Ro:=Ro) S (by rw [e1];exact y) (λr' hr'=>?_) (λb hb=>?_) rfl
 ·have:r'=Res.acc C a d k' ys:=by simpa using hr'
  subst this
  exact ⟨hl,us,c',m',I',hm,hm2,r.keep sk λz! z! q=>q⟩
 ·rw [e1] at hb
  rcases Sh.mp hb with rfl | hb
  ·exact ⟨_,I'.obj⟩
  ·have:b=d:=by simpa using hb
   subst this
   refine ob3_2 I'.ns λo' es ep e' z! => ?_
   exact ⟨o',e'⟩
theorem Rep.none {h:Heap}:Rep W h .none .none:=by rw [Rep]
theorem wY {x:Addr} {name:Str} {ga:String} {pl:Sem Bool} {Q:Value×List Value->Shared->Prop} (X:K.In s.heap) (I:au s.heap x d C dat m)
  (hga:findIn K (.ref C) "__getattribute__"=some (some (.builtin ga))) (hcan:(Manifest.canonical ga != "object.__getattribute__")=false)
  (hk:findIn K (.ref C) "__getattr__"=some none) (hf:findIn K (.ref C) name=some (some (.builtin id))) (ht:typeOf (.builtin id)=pure (.type "method_descriptor")) (hm:m name=none) (h:Q (.builtin id,[.ref x]) s) :
  wpAny (model prog w) A (getMethod (.ref x) name pl) Q E s:=by
 refine ob1_2 I.at_ λo I' hl=>?_
 unfold getMethod specialOf
 refine R7 (R7 (I'.type.here ((Un X hga).here ?_)))
 dsimp only
 rw [hcan,if_neg (by decide)]
 refine R7 (R7 (I'.type.here ((Un X hk).here ?_)))
 refine R7 (R7 (I'.type.here ((Un X hf).here (R7 (Tw ht ?_)))))
 rw [if_neg (by decide +kernel)]
 refine R7 (wpAny_loadPart I'.at_ ?_)
 dsimp only
 refine R7 (wpAny_nsGet I.ns.ns ?_)
 rw [hm]
 exact R7 (U7 (R8 h))
theorem ER.wz {po:Pos} {f p:Str} (ok:pD G K C) (hx:ρ.lookup xo=some (.raw (.ref a))) (he:EV G F ρ W (Res.acc C a d k xs::Ro) e (.tup [.str f,.str p])) (hl:xs.length+1<=lim)
  (hdo:(xo == ("__debug__":Str))=false:=by decide) (hco:(xo == ("__classdict__":Str))=false:=by decide)
  (hbase:attributeBase (.Name xo po) "append" F.env (eval (.Name xo po) F.env)=eval (.Name xo po) F.env:=by rfl)
  (hfew:((backTo pos (starEach [e] F.env)).all (λx => !x.1) && (backToKw pos (keywordEach [] F.env)).all (λx=>x.1.isSome)
   && decide ([e].length+([]:List Keyword).length+(if ([]:List Keyword).isEmpty then 0 else 1)<30))=true:=by rfl)
  (hst:backTo pos (starEach [e] F.env)=[(false,eval e F.env)]:=by rfl)
  (hline:(apos.endLine == pos.line)=true:=by rfl) :
  ER G F ρ W (Res.acc C a d k xs::Ro) (.Call (.Attribute (.Name xo po) "append" apos) [e] [] pos) .none (Res.acc C a d k (xs++[(f,p)])::Ro):=λs S=>by
 refine e_ hbase hfew hline (S.k8 hx hdo hco λpl=>?_)
 refine ob0_2 (S.res _ (R_ ..)) λz! aA=>?_;refine ob3_4 aA λvs c m I aY hm2 rs=>?_;refine ob1_1 aY λt hm=>?_
 refine wY (ok.gr _ S.inv) I ok.ga (by decide +kernel) ok.gt ok.app Xo (hm2 _ (by decide)) ?_
 rw [hst]
 refine Tq rfl ?_
 refine Ti (Ua (aF (he s S) λv s₂ zz=>zz.elim λy rv=>Vu ?_))
 have S₂:=S.step y
 refine ob0_2 (S₂.res _ (R_ ..)) λhl2 aA=>?_;refine ob3_4 aA λPE c2 m2 I2 Jx Np Ov=>?_
 have hz2:=Ov.length
 refine inst_append (ok.gr _ S₂.inv) I2 ok.sub ?_ λh' c' I' hk=>⟨?_,Rep.none⟩
 ·rw [hz2,Sa]
  exact R9 hl (by decide)
 ·refine S₂.kB (tk:=s₂.toks) I' Jx Np (λb o h1 h2 e=>hk b o h1 e) (by simpa using hl) ?_
  rw [S4]
  refine ah.append Ov ?_
  rw [SV,Vt,ah]
  exact ⟨v,[],rfl,rv,by rw [ah]⟩
end
section
variable {K:Frag} {a d:Addr}
theorem mY {x:Addr} {i:Value} {ops:List Value}
  (X:K.In s.heap) (I:au s.heap x d C dat m) (hg:findIn K (.ref C) "__getitem__"=some (some (.builtin id))) (h:wpAny (model prog w) A (getItem (.ref x) i) Q E s)
  (hs:subscripted slice false (.ref x) i=operate ops (getItem (.ref x) i)):wpAny (model prog w) A (subscriptTail value slice (.ref x) i) Q E s:=by
 refine ob1_2 I.at_ λo I' z! => ?_
 unfold subscriptTail
 refine R7 ?_
 rw [getitemInPython_of_ne (by simp)]
 refine R7 (R7 (I'.type.here ((Un X hg).here ?_)))
 refine R8 ?_
 refine R7 ?_
 rw [hs]
 exact wpAny_operating (U4 h (λr s₃ h₃=>R7 (wpAny_letTemporaryGo (R8 h₃))) λz! z! x=>x)
theorem EV.uS {p:Str×Str} (ok:pD G K C) (kn:bx G F ρ W Rs (dG C a d k xs)) (hv:EV G F ρ W Rs value (.raw (.ref a))) (hi:EV G F ρ W Rs slice (.int j)) (hx:xs[j]? = some p)
  (hs:∀ o i,subscripted slice false o i=operate [o,i] (getItem o i):=by intro _ _;rfl):EV G F ρ W Rs (.Subscript value slice pos) (encP p):=λs S=>by
 refine XT (aF (hv s S) λo s₁ zz=>zz.elim λy r=>aF (hi s₁ (S.step y)) λi s₂ zz=>zz.elim λy2 r2=>?_)
 rw [Rep] at r;subst r
 refine ob1_1 r2.isInt λt aB=>?_;obtain rfl:=aB
 have S₂:=(S.step y).step y2
 refine ob0_2 (kn s₂ S₂) λhl aA=>?_;refine ob3_4 aA λvs c m I aY hm2 rs=>?_;refine ob1_1 aY λt' hm=>?_
 refine ob1_2 (rs.get (i:=j) (p:=encP p) (by simp [hx])) λv hv' rv=>?_
 refine mY (ok.gr _ S₂.inv) I ok.gi ?_ (hs _ _)
 exact inst_item (ok.gr _ S₂.inv) I ok.sub ok.ni ok.gi rfl (by rw [rs.length,Sa];exact hl) hv' ⟨y.trans y2,rv⟩
theorem kX {α:Type} (xs:List α) (a:Nat):∀ cnt,((Sk cnt).map λk=>a+k).filterMap (xs[·]?)=(xs.drop a).take cnt
 | 0=>by simp
 | n+1=>by
  rw [List.range_succ,S4,List.filterMap_append,kX xs a n,Tz]
  simp only [SV,Vt,List.getElem?_drop]
  congr 1
theorem sliceRange_one (a b:Nat):sliceRange (a:Int) (b:Int) 1=(Sk (b - a)).map λk=>a+k:=by
 unfold sliceRange
 simp only [show (1:Int) > 0 by decide,if_true]
 by_cases h:(a:Int)<b
 ·simp only [h,if_true]
  have e:((b:Int) - a+1 - 1) / 1=((b - a:Nat):Int):=by rw [Int.ediv_one,Int.add_sub_cancel,Int.ofNat_sub (S1 (Ul.mp h))]
  rw [e,U']
  apply Te
  intro k _
  rw [Int.one_mul];rfl
 ·simp only [h,if_false]
  have:b - a=0:=Nat.sub_eq_zero_of_le (TS λq=>h (Ul.mpr q))
  rw [this]
  simp
theorem qV (v:Option Nat) (d n:Nat) (h:d<=n):(match v.map (λ(m:Nat)=>(m:Int)) with | none=>(d:Int) | some i=>max 0 (min (if i<0 then i+n else i) n))=((min (v.getD d) n:Nat):Int):=by
 cases v with
 | none=>show (d:Int)=((min d n:Nat):Int);rw [VU h]
 | some j =>
  show max 0 (min (if (j:Int)<0 then (j:Int)+n else j) (n:Int))=((min j n:Nat):Int)
  rw [if_neg (WI.mpr (Uz j)),kg]
theorem v5 (l h n:Nat):min (min h n - min l n) (n - l)=min (h - l) (n - l):=by
 rcases Nat.le_total l n with hl | hl
 ·rw [VU hl]
  rcases Nat.le_total h n with hh | hh
  ·rw [VU hh]
  ·rw [Nat.min_eq_right hh,Nat.min_self,Nat.min_eq_right (W5 hh l)]
 ·rw [Nat.sub_eq_zero_of_le hl,Nat.min_zero,Nat.min_zero]
theorem k7 (xs:List α) (lo hi:Option Nat):pick xs (lo.map (λ(n:Nat)=>(n:Int))) (hi.map (λ(n:Nat)=>(n:Int))) none=(xs.take (hi.getD xs.length)).drop (lo.getD 0):=by
 have e:sliceBounds (lo.map (λ(n:Nat)=>(n:Int))) (hi.map (λ(n:Nat)=>(n:Int))) none xs.length=(((min (lo.getD 0) xs.length:Nat):Int),((min (hi.getD xs.length) xs.length:Nat):Int),1) :=
  Prod.ext (qV lo 0 _ (SX _)) (Prod.ext (qV hi _ _ (Si _)) rfl)
 unfold pick
 rw [e]
 simp only
 rw [sliceRange_one,kX]
 generalize lo.getD 0=l
 generalize hi.getD xs.length=h
 have e2:xs.drop (min l xs.length)=xs.drop l:=by
  rcases Nat.le_total l xs.length with h1 | h1
  ·rw [VU h1]
  ·rw [Nat.min_eq_right h1,T3 h1,List.drop_length]
 rw [List.drop_take,e2,List.take_eq_take_iff,TN]
 exact v5 ..
theorem pick_from (xs:List α) (j:Nat):pick xs (some (j:Int)) none none=xs.drop j:=by
 have:=k7 xs (some j) none
 simpa using this
theorem vq (xs:List α) (j:Nat):pick xs none (some (j:Int)) none=xs.take j:=by
 have:=k7 xs none (some j)
 simpa using this
theorem vv (xs:List α) (i j:Nat):pick xs (some (i:Int)) (some (j:Int)) none=(xs.take j).drop i:=by
 have:=k7 xs (some i) (some j)
 simpa using this
theorem EV.pq {lower:SQ} {p:Pos} (ok:pD G K C) (kn:bx G F ρ W Rs (dG C a d k xs)) (hv:EV G F ρ W Rs value (.raw (.ref a))) (hi:EV G F ρ W Rs lower (.int j)) :
  EV G F ρ W Rs (.Subscript value (.Slice (some lower) none none p) pos) (.lst ((xs.drop j).map encP)):=λs S=>by
 refine XT (aF (hv s S) λo s₁ zz=>zz.elim λx ro=>?_)
 rw [Rep] at ro;subst ro
 have S₁:=S.step x
 have e0:eval (.Slice (some lower) none none p) F.env=(do
  let l<-valueOrNone (evalOpt (some lower) F.env)
  let u<-holding [l] (valueOrNone (evalOpt none F.env))
  let s<-holding [l,u] (valueOrNone (evalOpt none F.env))
  newFields "slice" [l,u,s]):=rfl
 rw [e0]
 refine R7 (aF (hi s₁ S₁) λl s₂ zz=>zz.elim λx2 r2=>?_)
 refine ob1_1 r2.isInt λt aB=>?_;obtain rfl:=aB
 have S₂:=S₁.step x2
 refine R7 (Sj (R8 ?_))
 refine R7 (Sj (R8 ?_))
 refine TL (T:="slice") (data:=.fields #[_,_,_]) ?_ (by show (3:Nat)<=_;decide)
 have y:aG G [] s₂ {s₂ with heap:=s₂.heap.push {cls:=.type "slice",data:=.fields #[.int j t,.none,.none]}}:=.bO G (t:=s₂.toks)
 have aT:=S₂.step y
 refine ob0_2 (kn _ aT) λhl aA=>?_;refine ob3_4 aA λvs c m I z! hm2 rs=>?_
 have hz:=rs.length
 rw [Sa] at hz
 refine mY (ok.gr _ aT.inv) I ok.gi ?_ (ops:=_) rfl
 refine inst_slice (ok.gr _ aT.inv) I ok.sub ok.ni ok.gi (by rw [hz];exact hl) (Xv ..) (.int (j:Int) t) .none .none (by simp) ?_
 rw [pick_from]
 have rd:=rs.drop j
 rw [<- List.map_drop] at rd
 refine ob0_2 (aT.newList (t:=s₂.toks) rd (by rw [Sa];exact R9 (by simp) hl)) λz rz=>?_
 exact ⟨x.trans (x2.trans (y.trans z)),rz⟩
end
section
variable {K:Frag} {a d:Addr}
noncomputable def TR (G:Glob) (F:Fm) (ρ:List (Str×PV)) (W:List Addr) (Rs:List Res) (target:SQ) (p:PV) (aq:List Res):Prop :=
 ∀ s v,St G F ρ W Rs s->Rep W s.heap p v->wpAny G.M F.A (Ur target F.env v) (λz! s'=>St G F ρ W aq s') (λz! z! => False) s
theorem XS.lX {K:Flow->Shared->Prop} (hv:EV G F ρ W Rs value p) (ht:TR G F ρ W Rs target p aq) (h:XS G F ρ W aq rest K)
  (hs:swapsWithSole [target] value pos.line F.env=pure false:=by rfl) (hw:swappedStores [target] value F.env=pure none:=by rfl)
  (he:(assignEach [target] F.env).map (·.2)=[Ur target F.env]:=by rfl) :
  XS G F ρ W Rs (.Assign [target] value pos::rest) K:=λs S=>by
 refine Tr ?_
 rw [W3]
 refine R7 (Tc ?_)
 rw [hs]
 refine R7 (R8 ?_)
 rw [if_neg (by decide)]
 refine R7 (aF (hv s S) λv s₁ zz=>zz.elim λx r=>?_)
 rw [hw]
 refine R7 (R8 ?_)
 rw [he]
 show wpAny _ _ (do Ur target F.env v;pure XU) _ _ s₁
 exact R7 (aF (ht s₁ v (S.step x) r) λz! s₂ S₂=>R8 (h s₂ S₂))
theorem zW {tk:Nat} {c':Nat} {ws:List Value} (S:St G F ρ W (Res.acc C a d k xs::Ro) s) (hx:ah W s.heap (xs.map encP) vs) (hu:ah W s.heap (us.map encP) ws) (hl:(xs.take j++us).length<=lim)
  (I':au h' a d C (.seq (vs.take j++ws).toArray c') m) (hm:∃ t,m "_initial_size"=some (.int k t)) (hm2:∀ y:Str,y≠"_initial_size"->m y=none) (hk:l0 a s.heap h') :
  St G F ρ W (Res.acc C a d k (xs.take j++us)::Ro) {s with heap:=h',toks:=tk}:=by
 refine S.kB I' hm hm2 (λb o h1 z! e=>hk b o h1 e) hl ?_
 rw [S4,Xr]
 exact ah.append (hx.take j) hu
theorem TR.pq {po p:Pos} {lower:SQ} (ok:pD G K C) (hx:ρ.lookup xo=some (.raw (.ref a))) (hi:EV G F ρ W (Res.acc C a d k xs::Ro) lower (.int j)) (hj:j<=xs.length) (K1:us.length<=lim) (hl:(xs.take j++us).length<=lim)
  (hdo:(xo == ("__debug__":Str))=false:=by decide) (hco:(xo == ("__classdict__":Str))=false:=by decide) :
  TR G F ρ W (Res.acc C a d k xs::Ro) (.Subscript (.Name xo po) (.Slice (some lower) none none p) pos) (.lst (us.map encP)) (Res.acc C a d k (xs.take j++us)::Ro):=λs v S r=>by
 rw [arm_assign_Subscript]
 refine R7 (Sj (S.k8 hx hdo hco ?_))
 have e0:eval (.Slice (some lower) none none p) F.env=(do
  let l<-valueOrNone (evalOpt (some lower) F.env)
  let u<-holding [l] (valueOrNone (evalOpt none F.env))
  let s<-holding [l,u] (valueOrNone (evalOpt none F.env))
  newFields "slice" [l,u,s]):=rfl
 rw [e0]
 refine R7 (Sj ?_)
 refine R7 (aF (hi s S) λl s₂ zz=>zz.elim λx2 r2=>?_)
 refine ob1_1 r2.isInt λt aB=>?_;obtain rfl:=aB
 have S₂:=S.step x2
 refine R7 (Sj (R8 ?_))
 refine R7 (Sj (R8 ?_))
 refine TL (T:="slice") (data:=.fields #[_,_,_]) ?_ (by show (3:Nat)<=_;decide)
 have y:aG G [] s₂ {s₂ with heap:=s₂.heap.push {cls:=.type "slice",data:=.fields #[.int j t,.none,.none]}}:=.bO G (t:=s₂.toks)
 have aT:=S₂.step y
 have rr:=y.rep0 S₂.inv (x2.rep0 S.inv r)
 refine ob0_2 rr.dR λNd aA=>?_;refine ob2_4 aA λb ws bq Q6 aY ru=>?_;obtain rfl:=bq;refine ob1_1 aY λn eb=>?_
 refine ob0_2 (aT.res _ (R_ ..)) λwI aA=>?_;refine ob3_4 aA λvs c m I hm hm2 rs=>?_
 have hz:=rs.length
 have Jk:=ru.length
 rw [Sa] at hz Jk
 refine R7 (Tc (R7 (Sj ?_)))
 refine inst_setSlice (j:=j) (lo:=some (j:Int)) (us:=ws) (ok.gr _ aT.inv) I ok.sub ok.ni ok.si (by rw [hz];exact wI) (by rw [Jk];exact K1) (by rw [hz];exact hj) (.inl rfl) (Xv ..) (.int (j:Int) t) .none .none eb λh' c' I' hk=>?_
 refine Xl ?_
 exact zW (tk:=s₂.toks) aT rs ru hl I' hm hm2 hk
theorem TR.zX {po p:Pos} (ok:pD G K C) (hx:ρ.lookup xo=some (.raw (.ref a))) (K1:us.length<=lim)
  (hdo:(xo == ("__debug__":Str))=false:=by decide) (hco:(xo == ("__classdict__":Str))=false:=by decide) :
  TR G F ρ W (Res.acc C a d k xs::Ro) (.Subscript (.Name xo po) (.Slice none none none p) pos) (.lst (us.map encP)) (Res.acc C a d k us::Ro):=λs v S r=>by
 rw [arm_assign_Subscript]
 refine R7 (Sj (S.k8 hx hdo hco ?_))
 have e0:eval (.Slice none none none p) F.env=(do
  let l<-valueOrNone (evalOpt none F.env)
  let u<-holding [l] (valueOrNone (evalOpt none F.env))
  let s<-holding [l,u] (valueOrNone (evalOpt none F.env))
  newFields "slice" [l,u,s]):=rfl
 rw [e0]
 refine R7 (Sj ?_)
 refine R7 (R8 ?_)
 refine R7 (Sj (R8 ?_))
 refine R7 (Sj (R8 ?_))
 refine TL (T:="slice") (data:=.fields #[_,_,_]) ?_ (by show (3:Nat)<=_;decide)
 have y:aG G [] s {s with heap:=s.heap.push {cls:=.type "slice",data:=.fields #[.none,.none,.none]}}:=.bO G (t:=s.toks)
 have aT:=S.step y
 have rr:=y.rep0 S.inv r
 refine ob0_2 rr.dR λNd aA=>?_;refine ob2_4 aA λb ws bq Q6 aY ru=>?_;obtain rfl:=bq;refine ob1_1 aY λn eb=>?_
 refine ob0_2 (aT.res _ (R_ ..)) λwI aA=>?_;refine ob3_4 aA λvs c m I hm hm2 rs=>?_
 have hz:=rs.length
 have Jk:=ru.length
 rw [Sa] at hz Jk
 refine R7 (Tc (R7 (Sj ?_)))
 refine inst_setSlice (j:=0) (lo:=none) (us:=ws) (ok.gr _ aT.inv) I ok.sub ok.ni ok.si (by rw [hz];exact wI) (by rw [Jk];exact K1) (SX _) (.inr ⟨rfl,rfl⟩) (Xv ..) .none .none .none eb λh' c' I' hk=>?_
 refine Xl ?_
 have:=zW (tk:=s.toks) (j:=0) aT rs ru (by simpa using K1) I' hm hm2 hk
 simpa using this
end
section
open PySem.Builtin
section
variable {dr:Drawn} {t:Nat} {x:Addr}
theorem rJ {Q:XY->Shared->Prop} (hT:Looks (model prog w) h (typeOf (.ref x)) (.ref C)) (hS:Looks (model prog w) h (isSubtype (.ref C) (.type "list")) true)
  (hq:Q (.done (.ret (.ref h.objs.size))) ⟨h.push {cls:=.type "builtin_function_or_method",data:=.fields #[.builtin "list.pop",.ref x]},g,dr,t,os⟩) :
  wpAny (model prog w) A (Builtin.«method_descriptor.__get__» ⟨[.builtin "list.pop",.ref x,.ref C],[]⟩) Q E ⟨h,g,dr,t,os⟩:=by
 have e:(".".intercalate ("list.pop".cutAt '.').dropLast)="list":=by decide +kernel
 have hS':Looks (model prog w) h (isSubtype (.ref C) (.type (".".intercalate ("list.pop".cutAt '.').dropLast))) true:=by rw [e];exact hS
 unfold Builtin.«method_descriptor.__get__»
 repeat lk
 all_goals exact hq
theorem rK {Q:XY->Shared->Prop} (hT:Looks (model prog w) h (typeOf (.ref x)) (.ref C)) (hS:Looks (model prog w) h (isSubtype (.ref C) (.type "list")) true)
  (hq:Q (.done (.ret (.ref h.objs.size))) ⟨h.push {cls:=.type "method-wrapper",data:=.fields #[.builtin "list.__len__",.ref x]},g,dr,t,os⟩) :
  wpAny (model prog w) A (Builtin.«wrapper_descriptor.__get__» ⟨[.builtin "list.__len__",.ref x,.ref C],[]⟩) Q E ⟨h,g,dr,t,os⟩:=by
 have e:(".".intercalate ("list.__len__".cutAt '.').dropLast)="list":=by decide +kernel
 have hS':Looks (model prog w) h (isSubtype (.ref C) (.type (".".intercalate ("list.__len__".cutAt '.').dropLast))) true:=by rw [e];exact hS
 unfold Builtin.«wrapper_descriptor.__get__»
 repeat lk
 all_goals exact hq
theorem pK {Q:XY->Shared->Prop} (hT:Looks (model prog w) h (typeOf (.ref x)) (.ref C)) (hS:Looks (model prog w) h (isSubtype (.ref C) (.type "list")) true)
  (hq:Q (.done (.ret (.ref h.objs.size))) ⟨h.push {cls:=.type "method-wrapper",data:=.fields #[.builtin "list.__init__",.ref x]},g,dr,t,os⟩) :
  wpAny (model prog w) A (Builtin.«wrapper_descriptor.__get__» ⟨[.builtin "list.__init__",.ref x,.ref C],[]⟩) Q E ⟨h,g,dr,t,os⟩:=by
 have e:(".".intercalate ("list.__init__".cutAt '.').dropLast)="list":=by decide +kernel
 have hS':Looks (model prog w) h (isSubtype (.ref C) (.type (".".intercalate ("list.__init__".cutAt '.').dropLast))) true:=by rw [e];exact hS
 unfold Builtin.«wrapper_descriptor.__get__»
 repeat lk
 all_goals exact hq
end
end
section
open PySem.Builtin
noncomputable def bw (bt id:String) (x:Addr):Obj:={cls:=.type bt,data:=.fields #[.builtin id,.ref x]}
section
variable {dr:Drawn} {t:Nat} {x so:Addr}
theorem pI {name:Str} {tk:Tok} {gid dt bt:String} {Q:XY->Shared->Prop} (hso:h.get? so=some (ks_superObj D x C)) (hno:Looks (model prog w) h (opaqueClassAbove (.ref C)) none)
  (hC:Looks (model prog w) h (mroOf (.ref C)) [.ref C,.type "list",.type "object"]) (hD:D=C) (hxC:x≠C) (hn:(name == ("__class__":Str))=false)
  (hown:classOwn (.type "list") name=pure (some (.builtin id))) (hty:typeOf (.builtin id)=pure (.type dt)) (hget:typeLookup (.type dt) "__get__"=pure (some (.builtin gid)))
  (hcall:∀ (A':Around) (R:Result->Shared->Prop),R (.ok (.ret (.ref h.objs.size))) ⟨h.push (bw bt id x),g,dr,t,os⟩->codeAny (model prog w) A' (.call (.builtin gid) ⟨[.builtin id,.ref x,.ref C],[]⟩) R ⟨h,g,dr,t,os⟩)
  (hq:Q (.done (.ret (.ref h.objs.size))) ⟨h.push (bw bt id x),g,dr,t,os⟩) :
  wpAny (model prog w) A (Builtin.«super.__getattribute__» ⟨[.ref so,.str name tk],[]⟩) Q E ⟨h,g,dr,t,os⟩:=by
 subst hD
 have hne:(Vc x == Vc D)=false:=by simp [hxC]
 have hdt:(ks_superObj D x D).data = .fields #[.ref D,.ref x,.ref D]:=rfl
 have f0:(#[.ref D,.ref x,.ref D]:Array Value)[0]? = some (.ref D):=rfl
 have f1:(#[.ref D,.ref x,.ref D]:Array Value)[1]? = some (.ref x):=rfl
 have f2:(#[.ref D,.ref x,.ref D]:Array Value)[2]? = some (.ref D):=rfl
 have hl:([.ref D,.type "list",.type "object"]:List Value).dropWhile (· != .ref D)=[.ref D,.type "list",.type "object"]:=by simp [List.dropWhile]
 unfold Builtin.«super.__getattribute__»
 repeat (first
  | (with_reducible refine Ws hso hdt f0 ?_) | (with_reducible refine Ws hso hdt f1 ?_) | (with_reducible refine Ws hso hdt f2 ?_)
  | (with_reducible refine ks_wpAny_notOpaque hno ?_)
  | (with_reducible refine Looks.at hC ?_;rw [hl])
  | (with_reducible refine S7 (decide_eq_false (ne_true_of_eq_false hn)) ?_) | (with_reducible refine S7 (decide_eq_false (ne_true_of_eq_false hne)) ?_) | (refine S7 (by rfl) ?_)
  | wp_step
  | dsimp only)
 rw [show (if (Vc x == Vc D)=true then VT else Vc x)=Vc x from if_neg (ne_true_of_eq_false hne)]
 refine hcall _ _ ?_
 dsimp only
 refine R7 (R8 (R8 ?_))
 exact R8 (R8 hq)
theorem l8 {name:Str} {gid dt bt:String} {pl:Sem Bool} {Q:Value×List Value->Shared->Prop} (hso:h.get? so=some (ks_superObj D x C)) (hno:Looks (model prog w) h (opaqueClassAbove (.ref C)) none)
  (hC:Looks (model prog w) h (mroOf (.ref C)) [.ref C,.type "list",.type "object"]) (hD:D=C) (hxC:x≠C) (hn:(name == ("__class__":Str))=false)
  (hown:classOwn (.type "list") name=pure (some (.builtin id))) (hty:typeOf (.builtin id)=pure (.type dt)) (hget:typeLookup (.type dt) "__get__"=pure (some (.builtin gid)))
  (hcall:∀ (A':Around) (R:Result->Shared->Prop) (t':Nat),R (.ok (.ret (.ref h.objs.size))) ⟨h.push (bw bt id x),g,dr,t',os⟩->codeAny (model prog w) A' (.call (.builtin gid) ⟨[.builtin id,.ref x,.ref C],[]⟩) R ⟨h,g,dr,t',os⟩)
  (hq:Q (.ref h.objs.size,[]) ⟨h.push (bw bt id x),g,dr,t+1,os⟩):wpAny (model prog w) A (getMethod (.ref so) name pl) Q E ⟨h,g,dr,t,os⟩:=by
 have hlk:=Xs.lookup
 have hcan:=PySem.F.ks_canon_super_ga
 have hT:∀ t',(⟨h,g,dr,t',os⟩:Shared).TypeIs (.ref so) "super":=λz! => ⟨_,hso,rfl⟩
 unfold getMethod
 refine R7 (WR (hT _) hlk ?_)
 show wpAny _ _ (if (Manifest.canonical "super.__getattribute__" != "object.__getattribute__")=true then _ else _) _ _ _
 rw [if_pos hcan]
 unfold getAttr getAttrBy
 refine R7 (R7 (wpAny_mkText (Sj (R7 (XN (hT _) (R7 (Tw hlk ?_)))))))
 show wpAny _ _ (getAttrByItsOwn (.ref so) (.str name t) (.type "super") (.builtin "super.__getattribute__") true false) _ _ _
 unfold getAttrByItsOwn hookBefore callGetattribute boundAndCalled
 refine R7 (Tw (show (if onTheHeap (.type "super") then typeLookup (.type "super") "__getattr__" else pure none)=pure none from rfl) ?_)
 refine R7 (UX (Sj ?_))
 show wpAny _ _ (bindSpecial (.builtin "super.__getattribute__") (.ref so) >>= _) _ _ _
 refine R7 (Tw (Xs.bind _) ?_)
 refine U4 (Q:=λv s'=>v = .ref h.objs.size/\s'=⟨h.push (bw bt id x),g,dr,t+1,os⟩) (E:=λz! z! => False)
  (Uw Xs (hT _) PySem.F.ks_entry_super_ga (pI hso hno hC hD hxC hn hown hty hget (λA' R hR=>hcall A' R _ hR) ⟨_,rfl,rfl,rfl⟩) (PySem.F.ks_gaArgs_super _ _)) (λv s' hv=>?_) λz! z! z=>z.elim
 refine ob0_2 hv λbM aB=>?_;obtain rfl:=bM;obtain rfl:=aB
 exact R8 (R8 hq)
end
end
section
open PySem.Builtin
theorem oq:classOwn (.type "list") "pop"=pure (some (.builtin "list.pop")):=by kernel_rfl
theorem ou:classOwn (.type "list") "__len__"=pure (some (.builtin "list.__len__")):=by kernel_rfl
theorem mw:classOwn (.type "list") "__init__"=pure (some (.builtin "list.__init__")):=by kernel_rfl
theorem fX:typeOf (.builtin "list.__len__")=pure (.type "wrapper_descriptor"):=by show builtinType _=_;rw [builtinType_eq_fast];kernel_rfl
theorem fJ:typeOf (.builtin "list.__init__")=pure (.type "wrapper_descriptor"):=by show builtinType _=_;rw [builtinType_eq_fast];kernel_rfl
theorem gb:Slot "method_descriptor" "__get__" "method_descriptor.__get__":=.of (owner:="method_descriptor") (n:="__get__") (by rw [T6,Tj];kernel_rfl) (by decide +kernel) (by decide +kernel) (by decide +kernel)
 (by first | exact .inl (by decide +kernel) | exact .inr (by decide +kernel)) (by rw [WB];kernel_rfl)
theorem cC:Slot "wrapper_descriptor" "__get__" "wrapper_descriptor.__get__":=.of (owner:="wrapper_descriptor") (n:="__get__") (by rw [T6,Tj];kernel_rfl) (by decide +kernel) (by decide +kernel) (by decide +kernel)
 (by first | exact .inl (by decide +kernel) | exact .inr (by decide +kernel)) (by rw [WB];kernel_rfl)
theorem oS:entryFor table "method_descriptor.__get__"=some Builtin.«method_descriptor.__get__» := WC (by kernel_rfl)
theorem iX:entryFor table "wrapper_descriptor.__get__"=some Builtin.«wrapper_descriptor.__get__» := WC (by kernel_rfl)
theorem q7 (a b c:Value):argsOk "method_descriptor.__get__" ⟨[a,b,c],[]⟩:=by unfold argsOk;kernel_rfl
theorem jT (a b c:Value):argsOk "wrapper_descriptor.__get__" ⟨[a,b,c],[]⟩:=by unfold argsOk;kernel_rfl
theorem jr:entryFor table "list.__init__"=some Builtin.«list.__init__» := WC (by kernel_rfl)
theorem m7:plainId "list.pop"=true:=by decide +kernel
theorem plain_len:plainId "list.__len__"=true:=by decide +kernel
theorem se:plainId "list.__init__"=true:=by decide +kernel
section
variable {dr:Drawn} {t:Nat} {x q:Addr}
theorem oW (hT:Looks (model prog w) h (typeOf (.ref x)) (.ref C)) (hS:Looks (model prog w) h (isSubtype (.ref C) (.type "list")) true) (hR:R (.ok (.ret (.ref h.objs.size))) ⟨h.push (bw "builtin_function_or_method" "list.pop" x),g,dr,t,os⟩) :
  codeAny (model prog w) A (.call (.builtin "method_descriptor.__get__") ⟨[.builtin "list.pop",.ref x,.ref C],[]⟩) R ⟨h,g,dr,t,os⟩ :=
 T5 gb.plain oS (gb.check _ _ _ _ _ _ _ _ PySem.F.type_list_pop (q7 _ _ _) (rJ hT hS hR))
theorem oX (hT:Looks (model prog w) h (typeOf (.ref x)) (.ref C)) (hS:Looks (model prog w) h (isSubtype (.ref C) (.type "list")) true) (hR:R (.ok (.ret (.ref h.objs.size))) ⟨h.push (bw "method-wrapper" "list.__len__" x),g,dr,t,os⟩) :
  codeAny (model prog w) A (.call (.builtin "wrapper_descriptor.__get__") ⟨[.builtin "list.__len__",.ref x,.ref C],[]⟩) R ⟨h,g,dr,t,os⟩ :=
 T5 cC.plain iX (cC.check _ _ _ _ _ _ _ _ fX (jT _ _ _) (rK hT hS hR))
theorem mK (hT:Looks (model prog w) h (typeOf (.ref x)) (.ref C)) (hS:Looks (model prog w) h (isSubtype (.ref C) (.type "list")) true) (hR:R (.ok (.ret (.ref h.objs.size))) ⟨h.push (bw "method-wrapper" "list.__init__" x),g,dr,t,os⟩) :
  codeAny (model prog w) A (.call (.builtin "wrapper_descriptor.__get__") ⟨[.builtin "list.__init__",.ref x,.ref C],[]⟩) R ⟨h,g,dr,t,os⟩ :=
 T5 cC.plain iX (cC.check _ _ _ _ _ _ _ _ fJ (jT _ _ _) (pK hT hS hR))
theorem fO {B:Builtin} (hq:h.get? q=some (bw "method-wrapper" id x)) (hk:builtinKind id=some .slot) (hp:plainId id=true) (he:entryFor table id=some B) (ha:argsOk id ⟨[.ref x],[]⟩)
  (hb:wpAny (model prog w) A.in1 (B ⟨[.ref x],[]⟩) (λfin s'=>match fin with | .done f=>R (.ok f) s' | .again c'=>c'.quiet=true/\codeAny (model prog w) A c' R s') (λe s'=>R (.error e) s') ⟨h,g,dr,t,os⟩) :
  codeAny (model prog w) A (.call (.ref q) ⟨[],[]⟩) R ⟨h,g,dr,t,os⟩:=by
 refine WS ?_
 show wpAny _ _ (callAny (.ref q) _) _ _ _
 refine nd_load hq ?_
 show wpAny _ _ (checkBoundCall id ⟨[.ref x],[]⟩ >>= λz! => again (.builtin id ⟨[.ref x],[]⟩)) _ _ _
 refine R7 ?_
 have fin:wpAny (model prog w) A.in1 (again (.builtin id ⟨[.ref x],[]⟩)) (λfin s'=>match fin with | .done f=>R (.ok f) s' | .again c'=>c'.quiet=true/\codeAny (model prog w) A c' R s') (λe s'=>R (.error e) s') ⟨h,g,dr,t,os⟩ :=
  R8 ⟨Vs hp _,UY he (by rw [T_ hp];exact hb)⟩
 unfold checkBoundCall
 cases hs:Wy id with
 | none=>exact R8 fin
 | some sig =>
  simp only [argsOk,hs] at ha
  have h2:XM id sig ⟨[.ref x],[]⟩=pure ():=ha
  dsimp only
  rw [hk]
  dsimp only
  rw [if_pos (by decide)]
  rw [h2]
  exact R8 fin
end
end
section
open PySem.Builtin
noncomputable def xH:Manifest.Signature:=⟨.positional,"list.pop","pop",.self,[⟨"index",.posOnly,false⟩]⟩
theorem As:Wy "list.pop"=some xH:=by
 rw [signature?_of (id:="list.pop") (n:=['p','o','p']) (o:=['t','s','i','l']) (by kernel_rfl) PySem.F.owner_list];kernel_rfl
noncomputable def z6 (cd:ClassData):Prop:=∀ x:Value,XM "list.pop" {xH with full:=s!"{cd.qualname.toString}.{Bind.lastOf "list.pop"}"} ⟨[x],[]⟩=pure ()
section
variable {dr:Drawn} {t:Nat} {x q d:Addr} {K:Frag}
theorem lS (hq:h.get? q=some (bw "builtin_function_or_method" "list.pop" x)) (X:K.In h) (I:au h x d C dat m) (hmod:mroIn K C (.type "module")=some false) (hcd:clsIn K C=some cd) (htc:typeIn K (.ref C)=some (.type "type")) (Ni:z6 cd)
  (hb:wpAny (model prog w) A.in1 (Builtin.«list.pop» ⟨[.ref x],[]⟩) (λfin s'=>match fin with | .done f=>R (.ok f) s' | .again c'=>c'.quiet=true/\codeAny (model prog w) A c' R s') (λe s'=>R (.error e) s') ⟨h,g,dr,t,os⟩) :
  codeAny (model prog w) A (.call (.ref q) ⟨[],[]⟩) R ⟨h,g,dr,t,os⟩:=by
 refine ob1_2 I.at_ λo I' z! => ?_
 refine WS ?_
 show wpAny _ _ (callAny (.ref q) _) _ _ _
 refine nd_load hq ?_
 show wpAny _ _ (checkBoundCall "list.pop" ⟨[.ref x],[]⟩ >>= λz! => again (.builtin "list.pop" ⟨[.ref x],[]⟩)) _ _ _
 refine R7 ?_
 have fin:wpAny (model prog w) A.in1 (again (.builtin "list.pop" ⟨[.ref x],[]⟩)) (λfin s'=>match fin with | .done f=>R (.ok f) s' | .again c'=>c'.quiet=true/\codeAny (model prog w) A c' R s') (λe s'=>R (.error e) s') ⟨h,g,dr,t,os⟩ :=
  R8 ⟨Vs m7 _,UY PySem.F.entry_list_pop (by rw [T_ m7];exact hb)⟩
 unfold checkBoundCall
 rw [As]
 dsimp only
 rw [show builtinKind "list.pop"=some .method by decide +kernel]
 dsimp only
 rw [if_neg (by decide)]
 have L1:Looks (model prog w) h (isInstance (.ref x) (.type "module")) false:=(I'.type (M:=model prog w)).andThen (V8 X hmod)
 refine R7 (L1.at ?_)
 rw [if_neg (by decide +kernel)]
 refine R7 (ks_wpAny_isType_inst I.obj (λc=>I.no c) ?_)
 rw [if_neg (by decide)]
 refine R7 ((I'.type (M:=model prog w)).at ?_)
 dsimp only
 refine R7 ((looks_clsIn X hcd).at ?_)
 refine R7 ((looks_typeIn X htc).at ?_)
 rw [if_pos (by decide),Ni]
 exact R8 fin
end
end
section
open PySem.Builtin
variable {K:Frag} {a d x cda cc:Addr}
structure gV (G:Glob) (K:Frag) (C:Addr) (fd:FuncData) (cda cc:Addr):Prop where
 sup:fd.scope.names.lookup ("super":Str)=some .globalImplicit
 cls:fd.scope.names.lookup ("__class__":Str)=some .free
 cells:∀ L,(cellsFrom (L+1) fd.scope.names fd.closure).lookup ("__class__":Str)=some cc
 cell:∀ h,G.inv h->h.IsCell cc (some (.ref C))
 code:fd.code = .ref cda
 file:∀ h,G.inv h->∃ oc vs tf file,h.get? cda=some oc/\oc.data = .fields vs/\vs[2]? = some (.str file tf)/\((G.prog.main.file:Str) == file)=true
 top:(G.prog.main.scope.names.lookup ("super":Str)).isSome=false
 mg:G.mg "super"=none
 mb:G.mb "super"=some (.type "super")
 op:nsIn K cStatics "thirdparty.any"=some none
 cd:∃ cd,clsIn K C=some cd/\cd.mro=[.ref C,.type "list",.type "object"]/\z6 cd
 tc:typeIn K (.ref C)=some (.type "type")
 md:mroIn K C (.type "module")=some false
 self:mroIn K C (.ref C)=some true
theorem au.kc (I:au h x d C dat m) (k:∀ b o,h.get? b=some o->h'.get? b=some o):au h' x d C dat m:=I.keep λb z! o e=>k b o e
theorem zC (X:K.In h) (e:clsIn K C=some cd):∃ o,h.get? C=some o/\o.data = .cls cd:=by
 unfold clsIn at e
 split at e
 ·rename_i ho;cases e;exact ⟨_,X _ _ ho,rfl⟩
 ·cases e
theorem au.PZ (X:K.In h) (e:clsIn K C=some cd) (I:au h x d C dat m):x≠C:=by
 refine ob1_2 (zC X e) λo e1 e2=>?_
 rintro rfl
 rw [I.obj] at e1;cases e1
 exact I.no _ e2
theorem pN {p0 p1:Pos} {attr:Str} {whole:Sem Value} {ar:Arg} (gr:∀ h,G.inv h->K.In h) (ok:bQ G f fd body) (so:gV G K C fd cda cc) (hF:F.env=dF fd f L)
  (hp:(fd.params.posonlyargs++fd.params.args).head? = some ar) (hat:(attr == ("__class__":Str))=false) (S:St G F ρ W Rs s) (hx:ρ.lookup ar.arg=some (.raw (.ref x))) (I:au s.heap x d C dat m) (hca:(ar.arg == ("__classdict__":Str))=false)
  (h:∀ h',h'.get? s.heap.objs.size=some (ks_superObj C x C)->(∀ b o,s.heap.get? b=some o->h'.get? b=some o)->Q (.ref s.heap.objs.size) {s with heap:=h'}) :
  Wr G.M F.A (.func body F.env) (attributeBase (.Call (.Name "super" p0) [] [] p1) attr F.env whole) Q E s:=by
 refine ob1_2 ok.at_ λo ho hd=>?_
 refine ob4_4 (so.file _ S.inv) λoc vs tf file e1 e2 e3 e4=>?_
 refine ob1_3 so.cd λcd hcd A2 z! => ?_
 have X:=gr _ S.inv
 refine ob1_2 (zC X hcd) λoD O8 O7=>?_
 have hk1:F.env.kindOf "super"=some .globalImplicit:=by rw [hF];exact so.sup
 have hk2:F.env.kindOf "__class__"=some .free:=by rw [hF];exact so.cls
 refine ks_wpAt_super_base (env:=F.env) hk1 hk2 hat (by rw [hF];rfl) (G.vP _ S.inv f o ho ok.nt) hd hp (by rw [hF];exact so.code) e1 e2 e3 e4 so.top ?_
 refine ks_loadName_global S.kind hk1 (Xj (by rw [S.glob];exact G.vO _ S.inv) so.mg (by rw [S.blt];exact G.AZ _ S.inv) so.mb ⟨rfl,?_⟩)
 refine Xg S.kind hk2 (by rw [hF];exact so.cells L) (so.cell _ S.inv) ?_
 refine ob1_2 (S.vars _ _ hx) λv' l r=>?_
 rw [Rep] at r;subst r
 have tail:wpAny G.M F.A (isType (.ref C)) (λb s₄=>b=true/\wpAny G.M F.A (call (.type "super") [.ref C,.ref x]) Q E s₄) E s:=by
  obtain ⟨hh,g,dr,t,os⟩:=s
  refine ks_wpAny_isType_cls O8 O7 ⟨rfl,?_⟩
  refine ks_wpAny_call_super O8 O7 I.obj rfl I.no (V8 X so.self) (λh' e k=>h h' e k)
 rcases l with ⟨k,m,hn,e⟩ | ⟨k | k,c,e,hv⟩
 ·exact WZ S.kind k hn e tail
 ·exact wpAny_loadName_cell S.kind k e hv tail
 ·exact Xg S.kind k e hv tail hca
theorem oE {M:Model} {q:Addr} {bt:String} (hb:(bt == "builtin_function_or_method" || bt == "method-wrapper")=true) (e:h.get? q=some (bw bt id x)):Looks M h (keeperOf (.ref q)) .machine:=by
 unfold keeperOf
 refine (Looks.ld (part:=none) e).andThen ?_
 have h1:(bt == "method")=false:=by
  rcases WO _ _▸hb with h | h <;> · rw [U0 h];decide
 show Looks M h (if (U5 bt != U5 "method")=true then (pure (if (U5 bt == U5 "builtin_function_or_method" || U5 bt == U5 "method-wrapper")=true then Keeper.machine else Keeper.caller):Sem Keeper) else _) _
 have h2:(U5 bt != U5 "method")=true:=by
  rcases WO _ _▸hb with h | h <;> · rw [U0 h];decide
 have h3:(U5 bt == U5 "builtin_function_or_method" || U5 bt == U5 "method-wrapper")=true:=by
  rcases WO _ _▸hb with h | h <;> · rw [U0 h];decide
 rw [if_pos h2,if_pos h3]
 exact .now
theorem kI {M:Model} {c:Code} {name:Str}
  (hline:(apos.endLine == pos.line)=true)
  (h:Wr M A c (attributeBase o name env (eval o env)) (λov s₁=>∀ pl,wpAny M A (getMethod ov name pl) (λr s₂=>wpAny M A (callWith pos r.1 r.2 [] []) Q E s₂) E s₁) E s) :
  Wr M A c (eval (.Call (.Attribute o name apos) [] [] pos) env) Q E s:=by
 rw [arm_eval_Call]
 refine _root_.PySem.wpAt_bind (ks_wpAt_mono h (λov s₁ h₁=>VN ?_) λz! z! e=>e)
 refine R7 (Tc ?_)
 have e1:starEach [] env=[]:=rfl
 have e2:keywordEach [] env=[]:=rfl
 have qF:methodCallForm (([]:List SQ).length+([]:List Keyword).length) (backTo pos (starEach [] env)) (backToKw pos (keywordEach [] env))=true:=by rw [e1,e2];rfl
 have hpos:methodCallPos true o env apos pos=pure pos:=by unfold methodCallPos;simp [hline]
 unfold methodCall
 rw [qF]
 refine R7 (Sj ?_)
 unfold calleeOf
 rw [if_pos rfl]
 refine U4 (h₁ _) (λr s₂ h₂=>?_) λz! z! e=>e
 exact R7 (Tw hpos h₂)
theorem fW {p0 p1:Pos} {name:Str} {ar:Arg} {gid dt bt:String} (gr:∀ h,G.inv h->K.In h) (ok:bQ G f fd body) (so:gV G K C fd cda cc) (hF:F.env=dF fd f L)
  (hp:(fd.params.posonlyargs++fd.params.args).head? = some ar) (hn:(name == ("__class__":Str))=false) (S:St G F ρ W Rs s) (hx:ρ.lookup ar.arg=some (.raw (.ref x))) (I:au s.heap x d C dat m) (hca:(ar.arg == ("__classdict__":Str))=false)
  (mD:(bt == "builtin_function_or_method" || bt == "method-wrapper")=true) (hline:(apos.endLine == pos.line)=true)
  (hown:classOwn (.type "list") name=pure (some (.builtin id))) (hty:typeOf (.builtin id)=pure (.type dt)) (hget:typeLookup (.type dt) "__get__"=pure (some (.builtin gid)))
  (hcall:∀ (h:Heap) (A':Around) (R:Result->Shared->Prop) (t':Nat),K.In h->au h x d C dat m->R (.ok (.ret (.ref h.objs.size))) ⟨h.push (bw bt id x),s.gens,s.drawn,t',s.os⟩->codeAny G.M A' (.call (.builtin gid) ⟨[.builtin id,.ref x,.ref C],[]⟩) R ⟨h,s.gens,s.drawn,t',s.os⟩)
  (hq:∀ h' q t',h'.get? q=some (bw bt id x)->(∀ b o,s.heap.get? b=some o->h'.get? b=some o)->wpAny G.M F.A (call (.ref q) []) Q E {s with heap:=h',toks:=t'}) :
  Wr G.M F.A (.func body F.env) (eval (.Call (.Attribute (.Call (.Name "super" p0) [] [] p1) name apos) [] [] pos) F.env) Q E s:=by
 refine kI hline (pN gr ok so hF hp hn S hx I hca λh' e k pl=>?_)
 refine ob1_3 so.cd λcd hcd A2 z! => ?_
 have I':=I.kc k
 have X':K.In h':=(gr _ S.inv).keeps k
 refine l8 e (looks_opaque X' so.op) ?_ rfl (I'.PZ X' hcd) hn hown hty hget (λA' R t' hR=>hcall h' A' R t' X' I' hR) ?_
 ·rw [<- A2]
  exact λA Q E s k q=>R7 ((looks_clsIn X' hcd) A _ E s k (R8 q))
 ·have hb:(h'.push (bw bt id x)).get? h'.objs.size=some (bw bt id x):=Heap.get?_push_at rfl rfl
  refine callWith_of (P:=λh=>h.get? h'.objs.size=some (bw bt id x)) rfl (λh e=>⟨.machine,.inr (.inl rfl),oE mD e⟩) ?_
  refine PySem.evalArgs_none ⟨hb,?_⟩
  exact hq _ _ (s.toks+1) hb λb o e=>Sg _ (k b o e)
end
section
open PySem.Builtin
variable {K:Frag} {a d x q cda cc:Addr}
section
theorem zJ {Q:XY->Shared->Prop} (I:au s.heap x d C (.seq (vs++[v]).toArray c) m) (hz:vs.length+1<=sizeLine)
  (h:∀ h' c',au h' x d C (.seq vs.toArray c') m->l0 x s.heap h'->Q (.done (.ret v)) {s with heap:=h'}):wpAny (model prog w) A (Builtin.«list.pop» ⟨[.ref x],[]⟩) Q E s:=by
 unfold Builtin.«list.pop»
 refine R7 (Tw (show selfAndSome "list.pop" "pop" 0 1 ⟨[.ref x],[]⟩=pure (.ref x,[]) from rfl) ?_)
 refine R7 (R8 ?_)
 dsimp only
 rw [if_neg (by decide +kernel)]
 refine R7 ?_
 unfold V5
 refine R7 (Ve I.obj rfl (R8 ?_))
 rw [if_neg (by simp)]
 have e:((seqIndex? (-1) (vs++[v]).toArray.size).bind λk=>(vs++[v]).toArray[k]?.map (k,·))=some (vs.length,v):=by
  rw [p8 (k:=vs.length) ((if_pos (by decide)).trans (sA (j:=vs.length) (k:=0) (by rw [TJ,Sy];rfl))) (by rw [TJ,Sy];exact UG _)]
  simp
 rw [e]
 show wpAny _ _ (updateSeq x (·.eraseIdxIfInBounds vs.length) >>= _) _ _ _
 have e2:(vs++[v]).toArray.eraseIdxIfInBounds vs.length=vs.toArray:=by
  simp [Array.eraseIdxIfInBounds]
  rw [List.eraseIdx_append_of_length_le (Si _)]
  simp
 refine R7 (VC I.obj rfl ?_ (by simp;exact hz) (by simp only [e2];simp;exact SE (Sl hz)))
 refine ob1_1 (I.turn (f:=(·.eraseIdxIfInBounds vs.length)) (us:=vs) e2) λc' I'=>?_
 exact R8 (h _ c' I' (.of (.update ..)))
theorem zK {Q:XY->Shared->Prop} (I:au s.heap x d C (.seq vs.toArray c) m) (h:Q (.done (.ret (.int vs.length s.toks))) {s with toks:=s.toks+1}) :
  wpAny (model prog w) A (Builtin.«list.__len__» ⟨[.ref x],[]⟩) Q E s:=by
 unfold Builtin.«list.__len__»
 refine R7 (Tw (show slotArgs "__len__" 0 ⟨[.ref x],[]⟩=pure (.ref x,[]) from rfl) ?_)
 refine R7 ?_
 unfold seqSize
 refine R7 (wpAny_load I.obj (R8 ?_))
 refine R7 (wpAny_mkInt (R8 ?_))
 simpa using h
theorem wh {Q:XY->Shared->Prop} (I:au s.heap x d C (.seq #[] c) m) (h:∀ h' c',au h' x d C (.seq #[] c') m->l0 x s.heap h'->Q (.done (.ret .none)) {s with heap:=h'}) :
  wpAny (model prog w) A (Builtin.«list.__init__» ⟨[.ref x],[]⟩) Q E s:=by
 unfold Builtin.«list.__init__»
 dsimp only
 rw [if_neg (by decide)]
 rw [if_neg (by decide)]
 refine R7 ?_
 unfold V5
 refine R7 (Ve I.obj rfl (R8 ?_))
 show wpAny _ _ (updateSeq x (λz! => #[]) >>= _) _ _ _
 refine R7 (VC I.obj rfl ?_ (by simp) (by simp))
 refine ob1_1 (au.turn (vs:=[]) (us:=[]) (f:=λz! => #[]) I rfl) λc' I'=>?_
 refine R7 (wpAny_letGo ?_)
 exact R8 (h _ c' I' (.of (.update ..)))
end
structure ek (G:Glob) (C N:Addr) (bm:List Value) (name:Str):Prop where
 obj:∃ nm q bs sn sub ab col dd k0 k1 k2 k3 k5 newId,∀ h,G.inv h->h.get? C=some (excClassObj nm q C N bs bm true sn sub ab col dd k0 k1 k2 k3 k5 newId)
 ns:∃ mN,(∀ h,G.inv h->h.Ns N mN)/\mN "__setattr__"=none/\mN name=none
theorem mL:typeLookup (.type "list") "_initial_size"=pure none:=by rw [T6,Tj];kernel_rfl
theorem kE {M:Glob} {ns:List Str} {Q:Unit->Shared->Prop} (ck:ek G C N [.type "list",.type "object"] "_initial_size") (iv:G.inv s.heap) (I:au s.heap x d C dat m) (hw:Within m ns) (hsz:ns.length<=sizeLine)
  (h:∀ h' tk,au h' x d C dat (λy=>if y="_initial_size" then some v else m y)->(∀ b o,b≠d->s.heap.get? b=some o->h'.get? b=some o)->Q () {s with heap:=h',toks:=tk}):wpAny G.M A (setAttr (.ref x) "_initial_size" v) Q E s:=by
 obtain ⟨nm,q,bs,sn,sub,ab,col,dd,k0,k1,k2,k3,k5,newId,hC⟩:=ck.obj
 refine ob1_3 ck.ns λmN hN e1 e2=>?_
 exact kF rS (hC _ iv) (hN _ iv) e1 e2 mL I hw hsz h
theorem TR.i_ {po:Pos} (ck:ek G C N [.type "list",.type "object"] "_initial_size") (hx:ρ.lookup xo=some (.raw (.ref a)))
  (hdo:(xo == ("__debug__":Str))=false:=by decide) (hco:(xo == ("__classdict__":Str))=false:=by decide) :
  TR G F ρ W (Res.acc C a d k xs::Ro) (.Attribute (.Name xo po) "_initial_size" pos) (.int k') (Res.acc C a d k' xs::Ro):=λs v S r=>by
 rw [assign_Attribute]
 refine ob1_1 r.isInt λt' aB=>?_;obtain rfl:=aB
 refine R7 (Sj (S.k8 hx hdo hco ?_))
 refine ob0_2 (S.res _ (R_ ..)) λhl aA=>?_;refine ob3_4 aA λvs c m I hm hm2 rs=>?_
 refine R7 (Tc (R7 (Sj ?_)))
 refine kE (M:=G) (ns:=["_initial_size"]) ck S.inv I (λy hy=>?_) (by decide) λh' tk I' hk=>?_
 ·by_cases e:y="_initial_size"
  ·rw [e];exact Sm.mpr rfl
  ·exact absurd (hm2 y e) hy
 ·refine Xl ?_
  refine S.kB (tk:=tk) (k':=k') I' ⟨t',by simp⟩ (λy hy=>by simp [hy,hm2 y hy]) (λb o z! h2 e=>hk b o h2 e) hl rs
end
section
open PySem.Builtin
variable {K:Frag} {a d x q cda cc:Addr}
noncomputable def l7 (G:Glob) (F:Fm) (ρ:List (Str×PV)) (W:List Addr) (Rs:List Res) (pos:Pos) (args:List SQ) (ps:List PV):Prop :=
 ∀ f s,St G F ρ W Rs s->wpAny G.M F.A (evalArgs f true (backTo pos (starEach args F.env)) []) (λx s'=>x.kw=[]/\aG G [] s s'/\ah W s'.heap ps x.pos) (λz! z! => False) s
theorem l7.of (ha:aV G F ρ W Rs (e::es) ps) (hst:backTo pos (starEach (e::es) F.env)=(e::es).map (λe=>(false,eval e F.env)):=by rfl):l7 G F ρ W Rs pos (e::es) ps:=λf s S=>by
 rw [hst]
 exact Ti (aF (ha s S) λvs s' zz=>zz.elim λy r=>⟨rfl,y,r⟩)
theorem l7.nil:l7 G F ρ W Rs pos [] []:=λf s S=>PySem.evalArgs_none ⟨rfl,.refl ..,by rw [ah]⟩
noncomputable def Found (G:Glob) (F:Fm) (ρ:List (Str×PV)) (W:List Addr) (Rs:List Res) (name:Str) (a f:Addr):Prop :=
 ∀ s,St G F ρ W Rs s->∀ (pl:Sem Bool) (Q:Value×List Value->Shared->Prop) (E:Value->Shared->Prop),Q (.ref f,[.ref a]) s->wpAny G.M F.A (getMethod (.ref a) name pl) Q E s
theorem Found.acc {name:Str} (ok:pD G K C) (kn:bx G F ρ W Rs (dG C a d k xs)) (hf:findIn K (.ref C) name=some (some (.ref f))) (ht:typeIn K (.ref f)=some (.type "function")) (hn:name≠("_initial_size":Str)):Found G F ρ W Rs name a f:=λs S pl Q E q=>by
 refine ob0_2 (kn s S) λz! aA=>?_;refine ob3_4 aA λvs c m I z! hm2 z! => ?_
 exact tO (ok.gr _ S.inv) I ok.ga (by decide +kernel) ok.gt hf ht (hm2 _ hn) q
theorem ER.dj {name:Str} {q:PV} (ho:EV G F ρ W (Rs++Ro) o (.raw (.ref a))) (hf:Found G F ρ W (Rs++Ro) name a f) (ok:bQ G f fd body)
  (hc:MC G f n Rs aq (.raw (.ref a)::ps) q) (hn:n<=F.n) (ha:l7 G F ρ W (Rs++Ro) pos args ps) (hadr:aq.flatMap (·.addrs)=Rs.flatMap (·.addrs):=by rfl)
  (hbase:attributeBase o name F.env (eval o F.env)=eval o F.env:=by rfl)
  (hfew:((backTo pos (starEach args F.env)).all (λx => !x.1) && (backToKw pos (keywordEach [] F.env)).all (λx=>x.1.isSome)
   && decide (args.length+([]:List Keyword).length+(if ([]:List Keyword).isEmpty then 0 else 1)<30))=true:=by rfl)
  (hline:(apos.endLine == pos.line)=true:=by rfl) :
  ER G F ρ W (Rs++Ro) (.Call (.Attribute o name apos) args [] pos) q (aq++Ro):=λs S=>by
 refine e_ hbase hfew hline (aF (ho s S) λv s₁ zz=>zz.elim λy r pl=>?_)
 rw [Rep] at r;subst r
 have S₁:=S.step y
 refine hf s₁ S₁ pl _ _ ?_
 refine ob1_2 ok.at_ λof hof hd=>?_
 refine XD (o:=of) (fd:=fd) (aF (ha _ s₁ S₁) λx s₂ zz=>zz.elim λhkw zz=>zz.elim λz rs=>?_)
 have S₂:=S₁.step z
 refine ⟨⟨G.vP _ S₂.inv f of hof ok.nt,hd⟩,?_⟩
 rw [hkw]
 refine ob0_3 S₂.Az λh1 h2 h3=>?_
 refine aF (hc F.A W s₂ (.ref a::x.pos) (S₂.room.mono hn) S₂.inv S₂.low (by rw [ah];exact ⟨_,_,rfl,by rw [Rep],rs⟩) h1 h2 h3) λv s₃ zz=>zz.elim λu zz=>zz.elim λhr zz=>zz.elim λal r=>⟨S₂.xh u hr al hadr,r⟩
noncomputable def uW (G:Glob) (F:Fm) (ρ:List (Str×PV)) (W:List Addr) (Rs Rm:List Res):Prop:=∀ s,St G F ρ W Rs s->(∀ r∈Rm,r.holds W s.heap)/\(∀ r∈Rm,∀ b∈r.addrs,b∈W)/\(Rm.flatMap (·.addrs)).Nodup
theorem uW.one {r:Res}:uW G F ρ W (r::Ro) [r]:=λs S=>St.Az (Rs:=[r]) S
theorem uW.acc (kn:bx G F ρ W Rs (dG C a d k xs)) (hw:∀ b∈[a,d],b∈W):uW G F ρ W Rs [Res.acc C a d k xs]:=λs S=>by
 have hk:=kn s S
 refine ob0_2 (kn s S) λz! aA=>?_;refine ob3_2 aA λvs c m I z! => ?_
 exact ⟨λr hr=>by rw [Sm.mp hr];exact hk,λr hr=>by rw [Sm.mp hr];exact hw,by
  show ([a,d]++[]).Nodup
  simp [I.ne.symm]⟩
theorem EV.dj {name:Str} {q:PV} {Rm:List Res} (ho:EV G F ρ W Rs o (.raw (.ref a))) (hf:Found G F ρ W Rs name a f) (ok:bQ G f fd body)
  (hc:MP G f n Rm (.raw (.ref a)::ps) q) (hh:uW G F ρ W Rs Rm) (hn:n<=F.n) (ha:l7 G F ρ W Rs pos args ps)
  (hbase:attributeBase o name F.env (eval o F.env)=eval o F.env:=by rfl)
  (hfew:((backTo pos (starEach args F.env)).all (λx => !x.1) && (backToKw pos (keywordEach [] F.env)).all (λx=>x.1.isSome)
   && decide (args.length+([]:List Keyword).length+(if ([]:List Keyword).isEmpty then 0 else 1)<30))=true:=by rfl)
  (hline:(apos.endLine == pos.line)=true:=by rfl) :
  EV G F ρ W Rs (.Call (.Attribute o name apos) args [] pos) q:=λs S=>by
 refine e_ hbase hfew hline (aF (ho s S) λv s₁ zz=>zz.elim λy r pl=>?_)
 rw [Rep] at r;subst r
 have S₁:=S.step y
 refine hf s₁ S₁ pl _ _ ?_
 refine ob1_2 ok.at_ λof hof hd=>?_
 refine XD (o:=of) (fd:=fd) (aF (ha _ s₁ S₁) λx s₂ zz=>zz.elim λhkw zz=>zz.elim λz rs=>?_)
 have S₂:=S₁.step z
 refine ⟨⟨G.vP _ S₂.inv f of hof ok.nt,hd⟩,?_⟩
 rw [hkw]
 refine aF (hc F.A W s₂ (.ref a::x.pos) (S₂.room.mono hn) S₂.inv S₂.low (by rw [ah];exact ⟨_,_,rfl,by rw [Rep],rs⟩) (hh s₂ S₂).1 (hh s₂ S₂).2.1 (hh s₂ S₂).2.2) λv s₃ zz=>zz.elim λu r=>⟨y.trans (z.trans u),r⟩
theorem mh {p0 p1:Pos} {ar:Arg} (x_:pD G K C) (ok:bQ G f fd body) (so:gV G K C fd cda cc) (hF:F.env=dF fd f L) (hp:(fd.params.posonlyargs++fd.params.args).head? = some ar) (hx:ρ.lookup ar.arg=some (.raw (.ref a)))
  (kn:bx G F ρ W Rs (dG C a d k xs)) (hca:(ar.arg == ("__classdict__":Str))=false) (hline:(apos.endLine == pos.line)=true) {K':Value->Shared->Prop} (S:St G F ρ W Rs s) (h:∀ s' t,aG G [] s s'->K' (.int xs.length t) s') :
  Wr G.M F.A (.func body F.env) (eval (.Call (.Attribute (.Call (.Name "super" p0) [] [] p1) "__len__" apos) [] [] pos) F.env) K' (λz! z! => False) s:=by
 refine ob0_2 (kn s S) λhl aA=>?_;refine ob3_4 aA λvs c m I z! hm2 rs=>?_
 have hz:=rs.length
 rw [Sa] at hz
 refine fW (dt:="wrapper_descriptor") (bt:="method-wrapper") (id:="list.__len__") (gid:="wrapper_descriptor.__get__") x_.gr ok so hF hp (by decide) S hx I hca (by decide) hline ou fX cC.lookup
  (λh A' R t' X I' hR=>?_) (λh' q t' e kp=>?_)
 ·refine ob1_2 I'.at_ λo I2 z! => ?_
  exact oX (I2.type (M:=G.M)) (V8 X x_.sub) hR
 ·have st:aG G [] s {s with heap:=h',toks:=t'}:=aG.of_keeps G kp
  refine UA (fO e (by decide +kernel) plain_len entry_list_len (args_list_len _) (zK (I.kc kp) ?_))
  rw [hz]
  exact h _ _ (st.trans (.of_toks G))
end
section
open PySem.Builtin
variable {K:Frag} {a d x q cda cc:Addr} {cd:Code}
theorem jz.skip {b:List Stmt} (ht:TV G F ρ W Rs test false) (h:jz G F cd ρ W Rs rest K'):jz G F cd ρ W Rs (.If test b [] pos::rest) K':=λs S=>by
 refine WL (ks_wpAt_If (VN (aF (ht s S) λv s₁ zz=>zz.elim λy e=>?_)))
 subst e
 exact VN (UD (h s₁ (S.step y)))
theorem jz.lX (hv:EV G F ρ W Rs value p) (ht:TR G F ρ W Rs target p aq) (h:jz G F cd ρ W aq rest K')
  (hs:swapsWithSole [target] value pos.line F.env=pure false:=by rfl) (hw:swappedStores [target] value F.env=pure none:=by rfl)
  (he:(assignEach [target] F.env).map (·.2)=[Ur target F.env]:=by rfl) :
  jz G F cd ρ W Rs (.Assign [target] value pos::rest) K':=λs S=>by
 refine WL (VN ?_)
 rw [W3]
 refine R7 (Tc ?_)
 rw [hs]
 refine R7 (R8 ?_)
 rw [if_neg (by decide)]
 refine R7 (aF (hv s S) λv s₁ zz=>zz.elim λx r=>?_)
 rw [hw]
 refine R7 (R8 ?_)
 rw [he]
 show wpAny _ _ (do Ur target F.env v;pure XU) _ _ s₁
 exact R7 (aF (ht s₁ v (S.step x) r) λz! s₂ S₂=>R8 (h s₂ S₂))
theorem jz.p_ {p0 p1 rp:Pos} {ar:Arg} (x_:pD G K C) (ok:bQ G f fd body) (so:gV G K C fd cda cc) (hF:F.env=dF fd f L) (hp:(fd.params.posonlyargs++fd.params.args).head? = some ar) (hx:ρ.lookup ar.arg=some (.raw (.ref a)))
  (kn:bx G F ρ W Rs (dG C a d k xs)) (hca:(ar.arg == ("__classdict__":Str))=false) (hline:(apos.endLine == pos.line)=true) (h:∀ s v,St G F ρ W Rs s->Rep W s.heap (.int xs.length) v->K' (.ret v) s) :
  jz G F (.func body F.env) ρ W Rs (.Return (some (.Call (.Attribute (.Call (.Name "super" p0) [] [] p1) "__len__" apos) [] [] pos)) rp::rest) K':=λs S =>
 WL (ks_wpAt_Return_some (mh x_ ok so hF hp hx kn hca hline S λs' t y=>h s' _ (S.step y) Rep.int))
theorem jz.p9 {p0 p1 rp:Pos} {ar:Arg} (x_:pD G K C) (ok:bQ G f fd body) (so:gV G K C fd cda cc) (hF:F.env=dF fd f L) (hp:(fd.params.posonlyargs++fd.params.args).head? = some ar) (hx:ρ.lookup ar.arg=some (.raw (.ref a)))
  (hca:(ar.arg == ("__classdict__":Str))=false) (hline:(apos.endLine == pos.line)=true) (h:∀ s v,St G F ρ W (Res.acc C a d k xs::Ro) s->Rep W s.heap (encP z) v->K' (.ret v) s) :
  jz G F (.func body F.env) ρ W (Res.acc C a d k (xs++[z])::Ro) (.Return (some (.Call (.Attribute (.Call (.Name "super" p0) [] [] p1) "pop" apos) [] [] pos)) rp::rest) K':=λs S=>by
 refine WL (ks_wpAt_Return_some ?_)
 refine ob0_2 (S.res _ (R_ ..)) λhl aA=>?_;refine ob3_4 aA λws c m I hm hm2 rs=>?_
 rw [S4] at rs
 obtain ⟨vs,v,rfl,Ow,rz⟩:∃ vs v,ws=vs++[v]/\ah W s.heap (xs.map encP) vs/\Rep W s.heap (encP z) v:=by
  have hlen:=rs.length
  rw [Sy,Sa] at hlen
  have h1:=rs.take xs.length
  rw [List.take_left' (by simp)] at h1
  have h2:=rs.drop xs.length
  rw [List.drop_left' (by simp)] at h2
  rw [show List.map encP [z]=[encP z] from rfl,ah] at h2
  refine ob2_3 h2 λv w' e r1 r2=>?_
  rw [ah] at r2
  subst r2
  exact ⟨ws.take xs.length,v,by rw [<- e,Ud],h1,r1⟩
 have hz:=Ow.length
 rw [Sa] at hz
 have wI:xs.length+1<=lim:=by simpa using hl
 have hsz:vs.length+1<=sizeLine:=by rw [hz];exact R9 wI (by decide)
 refine ob1_3 so.cd λcls hcd A2 Ni=>?_
 refine fW (dt:="method_descriptor") (bt:="builtin_function_or_method") (id:="list.pop") (gid:="method_descriptor.__get__") x_.gr ok so hF hp (by decide) S hx I hca (by decide) hline oq PySem.F.type_list_pop gb.lookup
  (λh A' R t' X I' hR=>?_) (λh' q t' e kp=>?_)
 ·refine ob1_2 I'.at_ λo I2 z! => ?_
  exact oW (I2.type (M:=G.M)) (V8 X x_.sub) hR
 ·have st:aG G [] s {s with heap:=h',toks:=t'}:=aG.of_keeps G kp
  have S':=S.step st
  have X':=x_.gr _ S'.inv
  have I':=I.kc kp
  have MS:=st.jC S.inv Ow
  have PR:=st.rep0 S.inv rz
  refine UA (lS e X' I' so.md hcd so.tc Ni (zJ I' hsz λh'' c' Lf hk=>?_))
  have RM:St G F ρ W (Res.acc C a d k xs::Ro) {s with heap:=h'',toks:=t'}:=S'.kB (tk:=t') Lf hm hm2 (λb o h1 z! e=>hk b o h1 e) (by exact Sl wI) MS
  refine h _ _ RM ?_
  have y:aG G [a] {s with heap:=h',toks:=t'} {s with heap:=h'',toks:=t'}:=aG.gn G (λb hb=>by
   have:b=a:=by simpa using hb
   subst this
   refine ⟨(S'.low b (S'.new _ (R_ ..) b (R_ ..)).1).1,λo e=>.inr λws hd=>?_⟩
   have:=I'.obj
   rw [this] at e;cases e;cases hd) λb o hb e=>hk b o (λh=>hb (by simp [h])) e
  exact PR.keep (y.cg S'.inv λb hb=>by
   have:b=a:=by simpa using hb
   subst this
   exact (S'.new _ (R_ ..) b (R_ ..)).1) λz! z! q=>q
end
section
open PySem.Builtin
variable {K:Frag} {a d x q cda cc:Addr} {dat':Data} {cd:Code}
theorem St.instTurn {r r':Res} (S:St G F ρ W (r::Ro) s) (ha:r.addrs=[a,d]) (ha':r'.addrs=[a,d]) (I:au s.heap a d C dat m) {tk:Nat} (I':au h' a d C dat' m') (hk:∀ b o,b≠a->b≠d->s.heap.get? b=some o->h'.get? b=some o)
  (hr:aI W s.heap h'->r'.holds W h'):St G F ρ W (r'::Ro) {s with heap:=h',toks:=tk}:=by
 have hW:∀ b∈r.addrs,b∈W:=λb hb=>(S.new _ (R_ ..) b hb).1
 rw [ha] at hW
 have y:aG G [a,d] s {s with heap:=h',toks:=tk}:=aG.gn G (λb hb=>by
  refine ⟨(S.low b (hW b hb)).1,λo e=>?_⟩
  rcases Sh.mp hb with rfl | hb
  ·rw [I.obj] at e;cases e
   exact .inl λh=>by cases h
  ·have:b=d:=by simpa using hb
   subst this
   refine .inr λws hd=>?_
   refine ob3_3 I.ns λo' es ep e' d' z! => ?_
   rw [e] at e';cases e'
   rw [hd] at d';cases d') λb o hb e=>hk b o (λh=>hb (by simp [h])) (λh=>hb (by simp [h])) e
 have sk:=y.cg S.inv hW
 have e1:([r]).flatMap (·.addrs)=[a,d]:=by simp [ha]
 have e2:([r']).flatMap (·.addrs)=[a,d]:=by simp [ha']
 refine St.xh (Rs:=[r]) (aq:=[r']) (Ro:=Ro) S (by rw [e1];exact y) (λr₂ lC=>?_) (λb hb=>?_) (by rw [e1,e2])
 ·have:r₂=r':=by simpa using lC
  subst this
  exact hr sk
 ·rw [e1] at hb
  rcases Sh.mp hb with rfl | hb
  ·exact ⟨_,I'.obj⟩
  ·have:b=d:=by simpa using hb
   subst this
   refine ob3_2 I'.ns λo' es ep e' z! => ?_
   exact ⟨o',e'⟩
noncomputable def Res.raw (C a d:Addr):Res where
 addrs:=[a,d]
 holds W h:=∃ c m,au h a d C (.seq #[] c) m/\∀ y,m y=none
 keep:=λW W' h h' zz=>zz.elim λc zz=>zz.elim λm zz=>zz.elim λI h2 k sk hw=>⟨c,m,I.keep λb hb o e=>k b (by rcases hb with rfl | rfl <;> simp) o e,h2⟩
theorem TR.AF {po:Pos} (ck:ek G C N [.type "list",.type "object"] "_initial_size") (hx:ρ.lookup xo=some (.raw (.ref a)))
  (hdo:(xo == ("__debug__":Str))=false:=by decide) (hco:(xo == ("__classdict__":Str))=false:=by decide) :
  TR G F ρ W (Res.raw C a d::Ro) (.Attribute (.Name xo po) "_initial_size" pos) (.int k') (Res.acc C a d k' []::Ro):=λs v S r=>by
 rw [assign_Attribute]
 refine ob1_1 r.isInt λt' aB=>?_;obtain rfl:=aB
 refine R7 (Sj (S.k8 hx hdo hco ?_))
 refine ob2_2 (S.res _ (R_ ..)) λc m I hm=>?_
 refine R7 (Tc (R7 (Sj ?_)))
 refine kE (M:=G) (ns:=[]) ck S.inv I (λy hy=>absurd (hm y) hy) (by decide) λh' tk I' hk=>?_
 refine Xl ?_
 exact S.instTurn (r':=Res.acc C a d k' []) (tk:=tk) rfl rfl I I' (λb o z! h2 e=>hk b o h2 e) λsk=>⟨SX _,[],c,_,I',⟨t',by simp⟩,λy hy=>by simp [hy,hm y],by simp [ah]⟩
theorem jz.ve {p0 p1 rp:Pos} {ar:Arg} (x_:pD G K C) (ok:bQ G f fd body) (so:gV G K C fd cda cc) (hF:F.env=dF fd f L) (hp:(fd.params.posonlyargs++fd.params.args).head? = some ar) (hx:ρ.lookup ar.arg=some (.raw (.ref a)))
  (hca:(ar.arg == ("__classdict__":Str))=false) (hline:(apos.endLine == pos.line)=true) (h:jz G F (.func body F.env) ρ W (Res.acc C a d k []::Ro) rest K')
  (hi:interactive F.env=false:=by rfl) (hs:swapsWith (.Call (.Attribute (.Call (.Name "super" p0) [] [] p1) "__init__" apos) [] [] pos) none rp.line F.env=pure false:=by rfl) :
  jz G F (.func body F.env) ρ W (Res.acc C a d k []::Ro) (.Expr (.Call (.Attribute (.Call (.Name "super" p0) [] [] p1) "__init__" apos) [] [] pos) rp::rest) K':=λs S=>by
 refine WL (ks_wpAt_Expr_any ?_ hi hs)
 refine ob0_2 (S.res _ (R_ ..)) λhl aA=>?_;refine ob3_4 aA λws c m I hm hm2 rs=>?_
 rw [Vt,ah] at rs
 subst rs
 refine fW (dt:="wrapper_descriptor") (bt:="method-wrapper") (id:="list.__init__") (gid:="wrapper_descriptor.__get__") x_.gr ok so hF hp (by decide) S hx I hca (by decide) hline mw fJ cC.lookup
  (λh A' R t' X I' hR=>?_) (λh' q t' e kp=>?_)
 ·refine ob1_2 I'.at_ λo I2 z! => ?_
  exact mK (I2.type (M:=G.M)) (V8 X x_.sub) hR
 ·have st:aG G [] s {s with heap:=h',toks:=t'}:=aG.of_keeps G kp
  have S':=S.step st
  have I':=I.kc kp
  refine UA (fO e (by decide +kernel) se jr (PySem.F.args_list_init_1 _) (wh I' λh'' c' Lf hk=>?_))
  exact h _ (S'.instTurn (r':=Res.acc C a d k []) (tk:=t') rfl rfl I' Lf (λb o h1 z! e=>hk b o h1 e) λsk=>⟨SX _,[],c',_,Lf,hm,hm2,by simp [ah]⟩)
end
section
open PySem.Builtin
variable {K:Frag} {a d x q cda cc:Addr} {dat':Data} {cd:Code}
theorem inst_specialF {M:Model} {name:Str} {args:List Value} {Q:Option Value->Shared->Prop} (X:K.In s.heap) (I:au s.heap x d C dat m) (hf:findIn K (.ref C) name=some (some (.ref f))) (ht:typeIn K (.ref f)=some (.type "function"))
  (h:wpAny M A (call (.ref f) (.ref x::args)) (λv=>Q (some v)) E s):wpAny M A (callSpecial? (.ref x) name args) Q E s:=by
 refine ob1_2 I.at_ λo I' z! => ?_
 exact R7 (R7 (I'.type.here ((Un X hf).here (Sj (R7 ((bind_fn X (.ref x) ht).here (R7 (U4 h (λz! z! z=>R8 z) λz! z! z=>z))))))))
theorem yX (ok:pD G K C) (hf:findIn K (.ref C) "__len__"=some (some (.ref f))) (ht:typeIn K (.ref f)=some (.type "function")) (hc:MP G f n [Res.acc C a d k xs] [.raw (.ref a)] (.int ((k':Nat):Int))) (hn:n+1<=F.n) (hk:k'<=lim)
  (hh:uW G F ρ W Rs [Res.acc C a d k xs]):∀ s vs,St G F ρ W Rs s->ah W s.heap [.raw (.ref a)] vs->Gv G F.A W (call (.builtin "len") vs) (.int ((k':Nat):Int)) s:=λs vs S rs=>by
 refine ob1_2 rs.one λv aB r=>?_;obtain rfl:=aB
 rw [Rep] at r;subst r
 refine ob0_3 (hh s S) λh1 h2 h3=>?_
 refine ob0_2 (h1 _ (R_ ..)) λz! aA=>?_;refine ob3_2 aA λus c m I z! => ?_
 have hlim:lim=1048576:=by decide
 refine PySem.Calls.call_function_entry kind_len PySem.plain_len entry_len (args_len1 _) ?_
 unfold Builtin.«len»
 refine R7 (m:=oneArg "len" _) (R8 ?_)
 refine R7 (m:=callSpecial? (.ref a) (VJ "__len__")) (inst_specialF (ok.gr _ S.inv) I hf ht ?_)
 refine aF (hc F.A.in1 W s [.ref a] (S.room.mono hn).in1 S.inv S.low rs h1 h2 h3) λv s₁ zz=>zz.elim λy r=>?_
 refine ob1_1 r.isInt λt aB=>?_;obtain rfl:=aB
 dsimp only
 refine R7 (Sj (R8 ?_))
 refine R7 (wpAny_letGo ?_)
 rw [if_neg (by exact wR)]
 rw [if_neg (qC hk)]
 refine R7 (wpAny_mkInt (R8 ⟨_,rfl,y.trans (.of_toks G),Rep.int⟩))
end
section
open PySem.Builtin
variable {K:Frag} {a d x q cda cc:Addr} {dat':Data}
theorem mu:plainId "str.__new__"=true:=by decide +kernel
theorem pL
  (h:wpAny (model prog w) A.in1.in1 (Builtin.Str.strOf v) (λr s'=>s'.TypeIs r "str"/\Q r s') E s):wpAny (model prog w) A (call (.type "str") [v]) Q E s:=by
 refine ks_callType_codesW (Q₁:=λobj s₁=>s₁.TypeIs obj "str"/\Q obj s₁) PySem.F.called_str (λq=>Tw (PySem.F.typeCall_str_1 _) q) PySem.F.entry_object_init
  (T5 mu PySem.F.entry_str_new (Tw (PySem.F.newCall_str_1 _) ?_)) λobj s₁ h₁=>?_
 ·rw [str_new_tree v]
  refine R7 (R8 ?_)
  refine R7 (Tw isSubtype_str_str ?_)
  exact R7 (U4 h (λr s' h'=>R8 h') λz! z! e=>e)
 ·refine ⟨h₁.1,PySem.F.args_object_init_2 _ _,?_⟩
  exact object_init_meets PySem.F.called_str.init.lookup PySem.F.called_str.made (by decide) prog w A.in1 _ s₁ ⟨h₁.1,rfl,h₁.2⟩
theorem qI (ok:pD G K C) (hf:findIn K (.ref C) "__str__"=some (some (.ref f))) (ht:typeIn K (.ref f)=some (.type "function")) (hc:MP G f n [Res.acc C a d k xs] [.raw (.ref a)] (.str y)) (hn:n+2<=F.n)
  (hh:uW G F ρ W Rs [Res.acc C a d k xs]):∀ s vs,St G F ρ W Rs s->ah W s.heap [.raw (.ref a)] vs->Gv G F.A W (call (.type "str") vs) (.str y) s:=λs vs S rs=>by
 refine ob1_2 rs.one λv aB r=>?_;obtain rfl:=aB
 rw [Rep] at r;subst r
 refine ob0_3 (hh s S) λh1 h2 h3=>?_
 refine ob0_2 (h1 _ (R_ ..)) λz! aA=>?_;refine ob3_2 aA λus c m I z! => ?_
 have hr:cz F.A.in1.in1 n:=(S.room.mono hn).in1.in1
 refine pL ?_
 unfold Builtin.Str.strOf
 rw [if_neg (show ¬ (Builtin.Str.isExactStr (.ref a)=true) from λh=>by cases h)]
 refine R7 (wpAny_cRoomFor (by have:=hr.2.2;show F.A.in1.in1.units<9900;exact Mp this) ?_)
 refine R7 (m:=callSpecial? (.ref a) (VJ "__str__")) (inst_specialF (ok.gr _ S.inv) I hf ht ?_)
 refine aF (hc F.A.in1.in1 W s [.ref a] hr S.inv S.low rs h1 h2 h3) λv s₁ zz=>zz.elim λy r=>?_
 refine ob0_2 r.isStr λhl aA=>?_;refine ob1_1 aA λt bh=>?_;obtain rfl:=bh
 exact R8 ⟨Wf _ _ _,y,r⟩
end
section
open PySem.Builtin
structure tL (M:Model) (h:Heap) (C:Addr):Prop where
 obj:∃ oc od cd sl,h.get? C=some ⟨oc,od,.cls cd,sl⟩/\cd.abstract=false/\cd.hasDel=false/\cd.mro.isEmpty=false
 made:Looks M h (Bind.madeBy (.ref C)) (some "list.__new__")
 base:Looks M h (Bind.staticBase (.ref C)) (.ref C)
 self:Looks M h (isSubtype (.ref C) (.ref C)) true
 top:Looks M h (isSubtype (.ref C) (.type "list")) true
 call:Looks M h (specialOf (.ref C) "__call__") (some (.builtin "type.__call__"))
 typ:Looks M h (isInstance (.ref C) (.type "type")) true
noncomputable abbrev gE (C dx:Addr):Obj:={cls:=.ref C,dict:=some dx,data:=.seq #[]}
theorem AU:builtinKind "list.__new__"=some .builtinFn:=by decide +kernel
theorem yy:splitId "list.__new__"=some ("list","__new__"):=by decide +kernel
noncomputable def Ck:Manifest.Signature:=(Wy "list.__new__").getD ⟨.any,"","",.cls,[]⟩
theorem DA:Wy "list.__new__"=some Ck:=by kernel_rfl
section
variable {K:Frag} {d:Drawn} {t:Nat}
theorem IU {rest:List Value} (Y:tL (model prog w) h C)
  (hq:R (.ok (.ret (.ref (h.objs.size+1)))) ⟨(h.push emptyDict).push (gE C h.objs.size),g,d,t,os⟩) :
  codeAny (model prog w) A (.call (.builtin "list.__new__") ⟨.ref C::rest,kw⟩) R ⟨h,g,d,t,os⟩:=by
 obtain ⟨⟨oc,od,cd,sl,hC,e1,e2,e4⟩,made,base,self,top,call,typ⟩:=Y
 have args:XM "list.__new__" Ck ⟨.ref C::rest,kw⟩=pure ():=by kernel_rfl
 refine WS ?_
 show wpAny _ A.in1 (do checkBuiltinCall "list.__new__" ⟨.ref C::rest,kw⟩;again (.builtin "list.__new__" ⟨.ref C::rest,kw⟩)) _ _ _
 refine R7 ?_
 have fin:wpAny (model prog w) A.in1 (again (.builtin "list.__new__" ⟨.ref C::rest,kw⟩)) (λfin s'=>match fin with | .done f=>R (.ok f) s' | .again c'=>c'.quiet=true/\codeAny (model prog w) A c' R s') (λe s'=>R (.error e) s') ⟨h,g,d,t,os⟩:=by
  refine R8 ⟨Vs PySem.F.plain_list_new _,codeAny_builtin_stack PySem.F.entry_list_new rfl λp st=>?_⟩
  rw [T_ PySem.F.plain_list_new _]
  have hown:=owner_list_new
  dsimp only
  rewrite [hown]
  repeat (first | (refine S7 (by rfl) ?_) | lk)
  refine wpAny_load (Sg _ (Sg _ hC)) ?_
  refine R8 ?_
  rw [e2]
  refine R8 (R8 ?_)
  show R _ _
  rw [Tu]
  exact hq
 simp only [checkBuiltinCall,AU,yy,DA]
 rw [args]
 repeat (first | exact fin | (refine S7 (by rfl) ?_) | lk)
theorem Dy {rest:List Value} {init:Value} (Y:tL (model prog w) h C) (hi:Looks (model prog w) h (typeLookup (.ref C) "__init__") (some init))
  (hb:∀ self,Looks (model prog w) h (bindSpecial init self) (init,[self])) (hne:(some init != some (Vf "object.__init__"))=true\/(rest=[]/\kw=[]))
  (hq:codeAny (model prog w) (A.under (.builtin "type.__call__" ⟨.ref C::rest,kw⟩)) (.call init ⟨.ref (h.objs.size+1)::rest,kw⟩) (InitBack (h.objs.size+1) R) ⟨(h.push emptyDict).push (gE C h.objs.size),g,d,t,os⟩) :
  codeAny (model prog w) A (.call (.ref C) ⟨rest,kw⟩) R ⟨h,g,d,t,os⟩:=by
 have Y':=Y
 obtain ⟨⟨oc,od,cd,sl,hC,e1,e2,e4⟩,made,base,self,top,call,typ⟩:=Y
 refine WS ?_
 show wpAny _ _ (callAny (.ref C) _) _ _ _
 refine nd_load hC ?_
 show wpAny _ _ (callAny.viaDunder (.ref C) _) _ _ _
 unfold callAny.viaDunder
 refine R7 (call.at ?_)
 dsimp only
 rw [tc_bind]
 refine R7 (R8 (R7 (R8 ?_)))
 refine R8 (a:=PySem.Fin.again (.call (.builtin "type.__call__") ⟨.ref C::rest,kw⟩)) (And.intro rfl ?_)
 refine codeAny_call_builtin_at (Code.quiet_builtin _ (by decide +kernel)) entry_typeCall (check_slot tc_kind tc_split typ (tc_args _ _ _) ?_)
 unfold Builtin.«type.__call__»
 have hm:Looks (model prog w) h (mroOf (.ref C)) cd.mro:=((Looks.ld (part:=none) hC).andThen .now).andThen .now
 repeat (first | (with_reducible refine S7 (decide_eq_false (ne_true_of_eq_false e4)) ?_) | (refine S7 (by rfl) ?_) | with_reducible refine UA ?_ | lk)
 refine IU Y' ?_
 have k:∀ b o,h.get? b=some o->((h.push emptyDict).push (gE C h.objs.size)).get? b=some o:=λb o e=>Sg _ (Sg _ e)
 have hx:((h.push emptyDict).push (gE C h.objs.size)).get? (h.objs.size+1)=some (gE C h.objs.size):=by heap_get
 have t1:Looks (model prog w) ((h.push emptyDict).push (gE C h.objs.size)) (typeOf (.ref (h.objs.size+1))) (.ref C):=(Looks.ld hx).andThen .now
 have s1:=self.keeps k
 have i1:=hi.keeps k
 have b1:=(hb (.ref (h.objs.size+1))).keeps k
 unfold isInstance callSpecial? specialOf
 repeat (first | with_reducible refine UA ?_ | lk)
 refine V2 hq λr s' z=>?_
 rcases r with e | (v | _ | _ | _) <;> first | exact z | exact z.elim | skip
 obtain ⟨rfl,z⟩:=z
 exact R8 (R8 z)
end
end
section
open PySem.Builtin
noncomputable def iI (K:Frag) (C:Addr):Bool:=match K.lookup C with
 | some ⟨_,_,.cls cd,sl⟩ => !cd.abstract && !cd.hasDel && (sl.toList[4]?).join == some (.builtin "list.__new__") && !cd.mro.isEmpty && cd.mro.contains (.ref C) && cd.mro.contains (.type "list") &&
   specialIn K (.ref C) "__call__" == some (some (.builtin "type.__call__")) && instIn K (.ref C) (.type "type") == some true
 | _=>false
theorem vF {K:Frag} {M:Model} (X:K.In h) (e:iI K C=true):tL M h C:=by
 unfold iI at e
 split at e
 ·rename_i oc od cd sl ho
  simp only [V9,Bool.not_eq_true',beq_iff_eq] at e
  refine ob0_2 e λbM e8=>?_;refine ob0_2 bM λbM e7=>?_;refine ob0_2 bM λbM e6=>?_;refine ob0_2 bM λbM e5=>?_;refine ob0_2 bM λbM e4=>?_;refine ob0_2 bM λbM e3=>?_;refine ob0_2 bM λe1 e2=>?_
  have hc:clsIn K C=some cd:=by unfold clsIn;rw [ho]
  have hm:Looks M h (mroOf (.ref C)) cd.mro:=(looks_clsIn X hc).andThen .now
  obtain ⟨c,l,hl⟩:∃ c l,cd.mro=c::l:=by cases q:cd.mro with | nil=>rw [q] at e4;cases e4 | cons c l=>exact ⟨c,l,rfl⟩
  have made:Looks M h (Bind.madeBy (.ref C)) (some "list.__new__"):=by
   intro A Q E s k q
   unfold Bind.madeBy
   refine R7 (hm A _ E s k ?_)
   rw [hl,UE]
   refine R7 (R7 (R7 (R7 (wpAny_loadPart (k _ _ (X _ _ ho)) (R8 ?_)))))
   dsimp only
   rw [<- UO,e3]
   exact R8 (R8 (R8 q))
  refine ⟨⟨oc,od,cd,sl,X _ _ ho,e1,e2,e4⟩,made,?_,V8 X ?_,V8 X ?_,looks_specialIn X e7,looks_instIn X e8⟩
  ·intro A Q E s k q
   unfold Bind.staticBase
   refine R7 (hm A _ E s k ?_)
   rw [hl,UE]
   exact R7 (R7 (R7 (made A _ E s k (R8 (R8 (R8 q))))))
  ·unfold mroIn;rw [hc,UL,if_neg (by rw [e4];decide),e5]
  ·unfold mroIn;rw [hc,UL,if_neg (by rw [e4];decide),e6]
 ·cases e
end
section
open PySem.Builtin
variable {K:Frag} {a d x q cda cc:Addr} {dat':Data}
theorem St.Dh {r:Res} {t:Nat} (S:St G F ρ W Rs s) (kp:∀ b o,s.heap.get? b=some o->h'.get? b=some o) (ha:s.heap.get? a=none) (hd:s.heap.get? d=none) (hba:G.base.objs.size<=a) (hbd:G.base.objs.size<=d) (hne:a≠d)
  (hga:∃ o,h'.get? a=some o) (hgd:∃ o,h'.get? d=some o) (OS:r.addrs=[a,d]) (hr:r.holds (a::d::W) h'):St G F ρ (a::d::W) (r::Rs) {s with heap:=h',toks:=t}:=by
 have x:aG G [] s {s with heap:=h',toks:=t}:=aG.of_keeps G kp
 have fa:=S.fresh ha
 have Pa:=S.fresh hd
 have sk:aI W s.heap h':=x.cg S.inv (by simp)
 have S₁:=S.step x
 have hw:∀ b,(∃ o,s.heap.get? b=some o)->b∈a::d::W->b∈W:=λb zz=>zz.elim λo e hb=>by
  rcases Sh.mp hb with rfl | hb
  ·rw [ha] at e;cases e
  ·rcases Sh.mp hb with rfl | hb
   ·rw [hd] at e;cases e
   ·exact hb
 have nw:∀ b,s.heap.get? b=none->G.base.objs.size<=b->F.s0.heap.get? b=none\/b∈F.X:=λb hn hb=>by
  by_cases hX:b∈F.X
  ·exact .inr hX
  ·left
   cases e0:F.s0.heap.get? b with
   | none=>rfl
   | some o0 =>
    have:=S.stp.keep _ o0 hX (bk hb) e0
    rw [hn] at this;cases this
 refine {S₁ with
  vars:=λy p e=>?_
  lW:=λhm=>?_
  cW:=λy c e hm=>?_
  low:=λb hb=>?_
  new:=λr₁ gR b hb=>?_
  res:=λr₁ gR=>?_
  apart:=?_}
 ·refine ob1_2 (S.vars y p e) λv l r=>?_
  exact ⟨v,l.step x S.inv (by simp) (by simp),r.keep sk hw⟩
 ·rcases Sh.mp hm with hm | hm
  ·exact fa.2.1 hm.symm
  ·rcases Sh.mp hm with hm | hm
   ·exact Pa.2.1 hm.symm
   ·exact S.lW hm
 ·rcases Sh.mp hm with hm | hm
  ·exact fa.2.2 y c e hm.symm
  ·rcases Sh.mp hm with hm | hm
   ·exact Pa.2.2 y c e hm.symm
   ·exact S.cW y c e hm
 ·rcases Sh.mp hb with rfl | hb
  ·exact ⟨hba,hga⟩
  ·rcases Sh.mp hb with rfl | hb
   ·exact ⟨hbd,hgd⟩
   ·exact S₁.low b hb
 ·rcases Sh.mp gR with rfl | gR
  ·rw [OS] at hb
   rcases Sh.mp hb with rfl | hb
   ·exact ⟨R_ ..,nw _ ha hba⟩
   ·have:b=d:=by simpa using hb
    subst this
    exact ⟨Sb _ (R_ ..),nw _ hd hbd⟩
  ·exact ⟨Sb _ (Sb _ (S.new r₁ gR b hb).1),(S.new r₁ gR b hb).2⟩
 ·rcases Sh.mp gR with rfl | gR
  ·exact hr
  ·exact r₁.keep W _ _ _ (S.res r₁ gR) (λb hb o e=>kp b o e) sk hw
 ·rw [S2,OS]
  have hin:∀ b∈Rs.flatMap (·.addrs),∃ o,s.heap.get? b=some o:=λb hb=>by
   refine ob1_2 (Sw.mp hb) λr₁ gR hb=>?_
   exact (S.low b (S.new r₁ gR b hb).1).2
  rw [Ux]
  refine ⟨by simp [hne],S.apart,λb hb b' hb' e=>?_⟩
  subst e
  refine ob1_1 (hin b hb') λo e=>?_
  rcases Sh.mp hb with rfl | hb
  ·rw [ha] at e;cases e
  ·have:b=d:=by simpa using hb
   subst this
   rw [hd] at e;cases e
end
section
open PySem.Builtin
variable {K:Frag} {a d x q cda cc:Addr} {dat':Data} {cd:Code}
noncomputable def ql (C x d:Addr) (ms:List (Str×PV)) (W:List Addr) (h:Heap):Prop :=
 ∃ m,au h x d C .plain m/\(∀ y p,ms.lookup y=some p->∃ v,m y=some v/\Rep W h p v)/\(∀ y,ms.lookup y=none->m y=none)
noncomputable def Res.obj (C x d:Addr) (ms:List (Str×PV)):Res where
 addrs:=[x,d]
 holds:=ql C x d ms
 keep:=λW W' h h' zz=>zz.elim λm zz=>zz.elim λI zz=>zz.elim λh1 h2 k sk hw=>⟨m,I.keep λb hb o e=>k b (by rcases hb with rfl | rfl <;> simp) o e,
  λy p e=>(h1 y p e).imp λv h_=>h_.imp_right λr=>r.keep sk hw,h2⟩
structure Of (G:Glob) (K:Frag) (C:Addr):Prop where
 gr:∀ h,G.inv h->K.In h
 ga:findIn K (.ref C) "__getattribute__"=some (some (.builtin "object.__getattribute__"))
 hd:hasDictIn K C=true
noncomputable def PV.attr:PV->Bool
 | .none | .bool _ | .int _ | .str _ | .raw (.ref _)=>true
 | _=>false
theorem Rep.A6 (r:Rep W h p v) (hp:p.attr=true):handedIn v=true:=by
 cases p with
 | none=>rw [Rep] at r;subst r;rfl
 | bool b=>rw [Rep] at r;subst r;rfl
 | int i=>refine ob1_1 r.isInt λt aB=>?_;obtain rfl:=aB;rfl
 | str x=>refine ob0_2 r.isStr λz! aA=>?_;refine ob1_1 aA λt bh=>?_;obtain rfl:=bh;rfl
 | tup xs=>cases hp
 | lst xs=>cases hp
 | raw u=>rw [Rep] at r;subst r;cases v <;> first | rfl | cases hp
theorem EV.attr {o:SQ} {pos:Pos} {name:Str} {p:PV} (ok:Of G K C) (kn:bx G F ρ W Rs (ql C x d ms)) (ho:EV G F ρ W Rs o (.raw (.ref x))) (hm:ms.lookup name=some p) (hp:p.attr=true)
  (hf:findIn K (.ref C) name=some none)
  (he:∀ env,eval (.Attribute o name pos) env=(do
   let v<-eval o env
   standAt pos.atName
   let r<-holding [v] (getAttr v name true)
   letTemporaryGo o v r
   pure r):=by intro _;with_unfolding_all rfl):EV G F ρ W Rs (.Attribute o name pos) p:=λs S=>by
 rw [he]
 refine R7 (aF (ho s S) λv s₁ zz=>zz.elim λy r=>?_)
 rw [Rep] at r;subst r
 have S₁:=S.step y
 refine ob1_3 (kn s₁ S₁) λm I h1 h2=>?_
 refine ob1_2 (h1 name p hm) λv e1 rv=>?_
 refine R7 (Tc (R7 (Sj ?_)))
 refine Ag (ok.gr _ S₁.inv) I ok.ga ok.hd hf e1 (rv.A6 hp) ?_
 refine R7 (wpAny_letTemporaryGo (R8 ⟨y.trans (.of_toks G),?_⟩))
 exact rv
theorem Found.obj {name:Str} (ok:Of G K C) (kn:bx G F ρ W Rs (ql C x d ms)) (hk:findIn K (.ref C) "__getattr__"=some none) (hf:findIn K (.ref C) name=some (some (.ref f))) (ht:typeIn K (.ref f)=some (.type "function")) (hn:ms.lookup name=none):Found G F ρ W Rs name x f:=λs S pl Q E q=>by
 refine ob1_3 (kn s S) λm I h1 h2=>?_
 exact tO (ok.gr _ S.inv) I ok.ga (by decide +kernel) hk hf ht (h2 _ hn) q
end
section
open PySem.Builtin
variable {K:Frag} {a d x q cda cc:Addr} {dat':Data} {cd:Code}
theorem gp {x:Str}:∀ {l:List (Str×PV)},x∉l.map (·.1)->l.lookup x=none
 | [],_=>rfl
 | (y,p)::l,h=>by
  rw [S8]
  have:(x == y)=false:=beq_eq_false_iff_ne.mpr λe=>h (by simp [e])
  rw [this]
  exact gp λhm=>h (by simp only [SV,Sh];exact .inr hm)
theorem u0 {Q:Unit->Shared->Prop} {name:Str} (ck:ek G C N [.type "object"] name) (hb:typeLookup (.type "object") name=pure none) (hsz:ms.length<=sizeLine)
  (S:St G F ρ W (Res.obj C x d ms::Ro) s) (r:Rep W s.heap p v)
  (h:∀ h' tk,St G F ρ W (Res.obj C x d ((name,p)::ms)::Ro) {s with heap:=h',toks:=tk}->aI W s.heap h'->Q () {s with heap:=h',toks:=tk}):wpAny G.M A (setAttr (.ref x) name v) Q E s:=by
 refine ob1_3 (S.res _ (R_ ..)) λm I h1 h2=>?_
 obtain ⟨nm,q,bs,sn,sub,ab,col,dd,k0,k1,k2,k3,k5,newId,hC⟩:=ck.obj
 refine ob1_3 ck.ns λmN hN e1 e2=>?_
 refine kF (ns:=ms.map (·.1)) PySem.F.store_object (hC _ S.inv) (hN _ S.inv) e1 e2 hb I (λy hy=>?_) (by simpa using hsz) λh' tk I' hk=>?_
 ·exact Classical.byContradiction λhn=>hy (h2 y (gp hn))
 ·have hW:∀ b∈[x,d],b∈W:=λb hb=>(S.new _ (R_ ..) b hb).1
  have y:aG G [x,d] s {s with heap:=h',toks:=tk}:=aG.gn G (λb hb=>by
   refine ⟨(S.low b (hW b hb)).1,λo e=>?_⟩
   rcases Sh.mp hb with rfl | hb
   ·rw [I.obj] at e;cases e
    exact .inl λh=>by cases h
   ·have:b=d:=by simpa using hb
    subst this
    refine .inr λws hd=>?_
    refine ob3_3 I.ns λo' es ep e' d' z! => ?_
    rw [e] at e';cases e'
    rw [hd] at d';cases d') λb o hb e=>hk b o (λh=>hb (by simp [h])) e
  have sk:=y.cg S.inv hW
  refine h h' tk (S.instTurn (r':=Res.obj C x d ((name,p)::ms)) (tk:=tk) rfl rfl I I' (λb o z! h2 e=>hk b o h2 e) λsk=>⟨_,I',λy q e=>?_,λy e=>?_⟩) sk
  ·rw [S8] at e
   by_cases hy:y=name
   ·subst hy
    simp only [beq_self_eq_true] at e
    cases e
    exact ⟨v,by simp,r.keep sk λz! z! q=>q⟩
   ·rw [beq_eq_false_iff_ne.mpr hy] at e
    refine ob1_2 (h1 y q e) λu e1 ru=>?_
    exact ⟨u,by simp [hy,e1],ru.keep sk λz! z! q=>q⟩
  ·rw [S8] at e
   by_cases hy:y=name
   ·subst hy
    simp only [beq_self_eq_true] at e
    cases e
   ·rw [beq_eq_false_iff_ne.mpr hy] at e
    simp [hy,h2 y e]
theorem TR.attr {name:Str} {po:Pos} (ck:ek G C N [.type "object"] name) (hb:typeLookup (.type "object") name=pure none) (hx:ρ.lookup xo=some (.raw (.ref x))) (hsz:ms.length<=sizeLine:=by first | decide | exact R9 (show _<=8 by simp) (by decide))
  (hdo:(xo == ("__debug__":Str))=false:=by decide) (hco:(xo == ("__classdict__":Str))=false:=by decide) :
  TR G F ρ W (Res.obj C x d ms::Ro) (.Attribute (.Name xo po) name pos) p (Res.obj C x d ((name,p)::ms)::Ro):=λs v S r=>by
 rw [assign_Attribute]
 refine R7 (Sj (S.k8 hx hdo hco ?_))
 refine R7 (Tc (R7 (Sj ?_)))
 refine u0 ck hb hsz S r λh' tk S' z! => ?_
 exact Xl S'
noncomputable def EN (G:Glob) (F:Fm) (ρ:List (Str×PV)) (W:List Addr) (Rs:List Res) (e:SQ) (N:Value->List Addr->List Res->Prop):Prop :=
 ∀ s,St G F ρ W Rs s->wpAny G.M F.A (eval e F.env) (λv s'=>∃ W' aq,N v W' aq/\St G F ρ W' aq s') (λz! z! => False) s
theorem EN.list {iL:Pos} (h:aV G F ρ W Rs es ps) (hl:ps.length<=lim:=by decide)
  (hst:backTo iL (starEach es F.env)=es.map (λe=>(false,eval e F.env)):=by rfl) :
  EN G F ρ W Rs (.List es iL) (λv W' aq=>∃ a,a∉W/\v = .ref a/\W'=a::W/\aq=Res.lst a ps::Rs):=λs S=>by
 refine gm h hl S (λs₁ a ha S₁=>⟨_,_,⟨a,λhm=>?_,rfl,rfl,rfl⟩,S₁⟩) hst
 refine ob0_2 (S.low a hm) λz! aA=>?_;refine ob1_1 aA λo e=>?_
 rw [ha] at e;cases e
variable {Nw:Value->List Addr->List Res->Prop}
theorem XS.N7 {x:Str} {px:Pos} (h:EN G F ρ W Rs value Nw) (hx:F.env.kindOf x=some .local\/(F.env.kindOf x=some .cell/\x∈F.cv))
  (k:∀ v W' aq,Nw v W' aq->XS G F ((x,.raw v)::ρ) W' aq rest K')
  (hs:swapsWithSole [.Name x px] value pos.line F.env=pure false:=by rfl) (hw:swappedStores [.Name x px] value F.env=pure none:=by rfl)
  (he:(assignEach [.Name x px] F.env).map (·.2)=[Ur (.Name x px) F.env]:=by rfl) :
  XS G F ρ W Rs (.Assign [.Name x px] value pos::rest) K':=λs S=>by
 refine Tr ?_
 rw [W3]
 refine R7 (Tc ?_)
 rw [hs]
 refine R7 (R8 ?_)
 rw [if_neg (by decide)]
 refine R7 (aF (h s S) λv s₁ zz=>zz.elim λW' zz=>zz.elim λaq zz=>zz.elim λhN S₁=>?_)
 rw [hw]
 refine R7 (R8 ?_)
 rw [he]
 show wpAny _ _ (do Ur (.Name x px) F.env v;pure XU) _ _ s₁
 exact R7 (aF (AV.name (p:=.raw v) hx s₁ _ S₁ (by rw [Rep])) λ_ s₂ zz=>zz.elim λS₂ z! => R8 (k v W' aq hN s₂ S₂))
theorem XS.CT {name:Str} {po:Pos} (h:EN G F ρ W Rs value Nw) (ck:ek G C N [.type "object"] name) (hb:typeLookup (.type "object") name=pure none) (hx:ρ.lookup xo=some (.raw (.ref x)))
  (k:∀ v W' aq,Nw v W' aq->∃ Oe,aq.Perm (Res.obj C x d ms::Oe)/\XS G F ρ W' (Res.obj C x d ((name,.raw v)::ms)::Oe) rest K') (hsz:ms.length<=sizeLine:=by first | decide | exact R9 (show _<=8 by simp) (by decide))
  (hdo:(xo == ("__debug__":Str))=false:=by decide) (hco:(xo == ("__classdict__":Str))=false:=by decide)
  (hs:swapsWithSole [.Attribute (.Name xo po) name apos] value pos.line F.env=pure false:=by rfl) (hw:swappedStores [.Attribute (.Name xo po) name apos] value F.env=pure none:=by rfl)
  (he:(assignEach [.Attribute (.Name xo po) name apos] F.env).map (·.2)=[Ur (.Attribute (.Name xo po) name apos) F.env]:=by rfl) :
  XS G F ρ W Rs (.Assign [.Attribute (.Name xo po) name apos] value pos::rest) K':=λs S=>by
 refine Tr ?_
 rw [W3]
 refine R7 (Tc ?_)
 rw [hs]
 refine R7 (R8 ?_)
 rw [if_neg (by decide)]
 refine R7 (aF (h s S) λv s₁ zz=>zz.elim λW' zz=>zz.elim λaq zz=>zz.elim λhN S₁=>?_)
 rw [hw]
 refine R7 (R8 ?_)
 rw [he]
 refine ob1_2 (k v W' aq hN) λOe hp hk=>?_
 show wpAny _ _ (do Ur (.Attribute (.Name xo po) name apos) F.env v;pure XU) _ _ s₁
 exact R7 (aF (TR.attr (p:=.raw v) ck hb hx hsz hdo hco s₁ _ (S₁.perm hp) (by rw [Rep])) λz! s₂ S₂=>R8 (hk s₂ S₂))
end
section
open PySem.Builtin
variable {K:Frag} {a d x cda cc:Addr} {cd:Code}
structure z7 (G:Glob) (W:List Addr) (Rs:List Res) (s:Shared) (W':List Addr) (aq:List Res) (s':Shared):Prop where
 stp:aG G (Rs.flatMap (·.addrs)) s s'
 low:vK G W' s'
 sub:∀ b∈W,b∈W'
 old:∀ b∈W',b∈W\/s.heap.get? b=none
 res:∀ r∈aq,r.holds W' s'.heap
 own:∀ r∈aq,∀ b∈r.addrs,b∈W'/\(b∈Rs.flatMap (·.addrs)\/s.heap.get? b=none)
 nd:(aq.flatMap (·.addrs)).Nodup
theorem St.isNew (S:St G F ρ W Rs s) {b:Addr} (hn:s.heap.get? b=none) (hb:G.base.objs.size<=b):F.s0.heap.get? b=none\/b∈F.X:=by
 by_cases hX:b∈F.X
 ·exact .inr hX
 ·left
  cases e0:F.s0.heap.get? b with
  | none=>rfl
  | some o0 =>
   have:=S.stp.keep _ o0 hX (bk hb) e0
   rw [hn] at this;cases this
theorem St.mX (S:St G F ρ W (Rs++Ro) s) (x:z7 G W Rs s W' aq s'):St G F ρ W' (aq++Ro) s':=by
 have hW:∀ a∈Rs.flatMap (·.addrs),a∈W:=λa h=>by
  refine ob1_2 (Sw.mp h) λr hr h=>?_
  exact (S.new r (Uk _ hr) a h).1
 have nd:=S.apart
 rw [T8,Ux] at nd
 have S':St G F ρ W Ro s:={S with new:=λr hr=>S.new r (VE _ hr),res:=λr hr=>S.res r (VE _ hr),apart:=nd.2.1}
 have S₂:St G F ρ W Ro s':=S'.xD x.stp hW (λa h=>by
   refine ob1_2 (Sw.mp h) λr hr h=>?_
   exact (S.new r (Uk _ hr) a h).2) (λr hr a h1 h2=>nd.2.2 a h2 a (Sw.mpr ⟨r,hr,h1⟩) rfl) (λa h=>(x.low a (x.sub a (hW a h))).2)
 have sk:=x.stp.cg S.inv hW
 have hw:∀ b,(∃ o,s.heap.get? b=some o)->b∈W'->b∈W:=λb zz=>zz.elim λo e hb=>(x.old b hb).elim id λh=>by rw [h] at e;cases e
 refine {S₂ with vars:=λy p e=>?_,lW:=λhm=>?_,cW:=λy c e hm=>?_,low:=x.low,new:=λr hr b h=>?_,res:=λr hr=>?_,apart:=?_}
 ·refine ob1_2 (S.vars y p e) λv l r=>?_
  exact ⟨v,l.step x.stp S.inv (λh=>S.lW (hW _ h)) (λy c e h=>S.cW y c e (hW _ h)),r.keep sk hw⟩
 ·refine ob4_2 S.loc λm o es ep e z! => ?_
  exact S.lW (hw _ ⟨o,e⟩ hm)
 ·refine ob2_2 (S.cells y c e) λv o eo z! => ?_
  exact S.cW y c e (hw _ ⟨o,eo⟩ hm)
 ·rcases Sq.mp hr with hr | hr
  ·refine ob0_2 (x.own r hr b h) λh1 h2=>?_
   refine ⟨h1,?_⟩
   rcases h2 with h2 | h2
   ·refine ob1_2 (Sw.mp h2) λr' hr' h'=>?_
    exact (S.new r' (Uk _ hr') b h').2
   ·exact S.isNew h2 (x.low b h1).1
  ·exact ⟨x.sub _ (S₂.new r hr b h).1,(S₂.new r hr b h).2⟩
 ·rcases Sq.mp hr with hr | hr
  ·exact x.res r hr
  ·exact r.keep W _ _ _ (S'.res r hr) (λb hb o e=>x.stp.keep b o (λh=>nd.2.2 b h b (Sw.mpr ⟨r,hr,hb⟩) rfl) (bk (S.low b (S'.new r hr b hb).1).1) e) sk hw
 ·rw [T8,Ux]
  refine ⟨x.nd,nd.2.1,λb hb b' hb' e=>?_⟩
  subst e
  refine ob1_2 (Sw.mp hb) λr hr h=>?_
  rcases (x.own r hr b h).2 with h2 | h2
  ·exact nd.2.2 b h2 b hb' rfl
  ·refine ob1_2 (Sw.mp hb') λr' hr' h'=>?_
   refine ob0_2 (S'.low b (S'.new r' hr' b h').1) λz! aA=>?_;refine ob1_1 aA λo e=>?_
   rw [h2] at e;cases e
theorem St.toNew (S:St G (bu fd f A s0 L n (Rs.flatMap (·.addrs))) ρ W' aq s) (NI:∀ r∈Rs,∀ a∈r.addrs,a∈W) (sub:∀ b∈W,b∈W') (old:∀ b∈W',b∈W\/b∈aq.flatMap (·.addrs)):z7 G W Rs s0 W' aq s where
 stp:=S.stp
 low:=S.low
 sub:=sub
 old:=λb hb=>(old b hb).elim .inl λh=>by
  refine ob1_2 (Sw.mp h) λr hr h=>?_
  rcases (S.new r hr b h).2 with h2 | h2
  ·exact .inr h2
  ·refine ob1_2 (Sw.mp h2) λr' hr' h'=>?_
   exact .inl (NI r' hr' b h')
 res:=S.res
 own:=λr hr b h=>⟨(S.new r hr b h).1,(S.new r hr b h).2.symm⟩
 nd:=S.apart
noncomputable def CN (G:Glob) (f:Addr) (n:Nat) (Rs:List Res) (ps:List PV) (q:PV) (N:List Addr->List Addr->List Res->Prop):Prop :=
 ∀ A W s vs,cz A n->G.inv s.heap->vK G W s->ah W s.heap ps vs->(∀ r∈Rs,r.holds W s.heap)->(∀ r∈Rs,∀ a∈r.addrs,a∈W)->(Rs.flatMap (·.addrs)).Nodup ->
  codeAny G.M A (.call (.ref f) ⟨vs,[]⟩) (λr s'=>match r with | .ok (.ret v)=>∃ W' aq,N W W' aq/\z7 G W Rs s W' aq s'/\Rep W' s'.heap q v | _=>False) s
theorem CN.mz (ok:bQ G f fd body)
  (hb:∀ s W vs,G.inv s.heap->ah W s.heap ps vs->∃ vs',BindsTo s fd ⟨vs,[]⟩ (names.zip vs')/\ah W s.heap ps' vs') (hlen:names.length=ps'.length)
  (hnm:∀ x∈names,fd.scope.names.lookup x=some .local\/fd.scope.names.lookup x=some .cell)
  (hN:∀ W W' aq,Nw W W' aq->(∀ b∈W,b∈W')/\∀ b∈W',b∈W\/b∈aq.flatMap (·.addrs))
  (h:∀ A W s L,cz A (n+1)->jz G (bu fd f A s L n (Rs.flatMap (·.addrs))) (.func body (dF fd f L)) (names.zip ps').reverse W Rs body (λfl s'=>∃ W' aq ρ,Nw W W' aq/\St G (bu fd f A s L n (Rs.flatMap (·.addrs))) ρ W' aq s'/\Rep W' s'.heap q (match fl with | .ret v=>v | _=>.none))) :
  CN G f (n+1) Rs ps q Nw:=λA W s vs hA iv low rs h1 h2 h3=>by
 refine ob1_2 (hb s W vs iv rs) λvs' hb' rs'=>?_
 refine V2 (gF (Q:=λv s'=>∃ W' aq ρ,Nw W W' aq/\St G (bu fd f A s s.heap.objs.size n (Rs.flatMap (·.addrs))) ρ W' aq s'/\Rep W' s'.heap q v) ok hA iv low hb' rs' hlen h1 h2 h3 hnm (h A W s s.heap.objs.size hA)) λr s' hr=>?_
 match r,hr with
 | .ok (.ret v),hr =>
  refine ob3_3 hr λW' aq ρ NK S hr=>?_
  exact ⟨W',aq,NK,S.toNew h2 (hN _ _ _ NK).1 (hN _ _ _ NK).2,hr⟩
 | .ok .next,hr=>exact hr.elim
 | .ok .brk,hr=>exact hr.elim
 | .ok .cont,hr=>exact hr.elim
 | .error e,hr=>exact hr.elim
theorem CN.of {f:Addr} {fd:FuncData} {body:List Stmt} {Nw:List Addr->List Addr->List Res->Prop} (ok:bQ G f fd body) {names:List Str} {ps ps':List PV} {q:PV} {n:Nat}
  (hb:∀ s W vs,G.inv s.heap->ah W s.heap ps vs->∃ vs',BindsTo s fd ⟨vs,[]⟩ (names.zip vs')/\ah W s.heap ps' vs') (hlen:names.length=ps'.length)
  (hnm:∀ x∈names,fd.scope.names.lookup x=some .local\/fd.scope.names.lookup x=some .cell)
  (hN:∀ W W' aq,Nw W W' aq->(∀ b∈W,b∈W')/\∀ b∈W',b∈W\/b∈aq.flatMap (·.addrs))
  (h:∀ A W s L,cz A (n+1)->XS G (bu fd f A s L n (Rs.flatMap (·.addrs))) (names.zip ps').reverse W Rs body (λfl s'=>∃ W' aq ρ,Nw W W' aq/\St G (bu fd f A s L n (Rs.flatMap (·.addrs))) ρ W' aq s'/\Rep W' s'.heap q (match fl with | .ret v=>v | _=>.none))) :
  CN G f (n+1) Rs ps q Nw:=CN.mz ok hb hlen hnm hN λA W s L hA=>jz.of (h A W s L hA)
end
section
open PySem.Builtin
variable {K:Frag} {a d x cda cc:Addr} {cd:Code}
theorem nU {rest:List Value}:(Code.builtin "type.__call__" ⟨.ref C::rest,kw⟩).weight=1:=by kernel_rfl
theorem pP {rest:List Value}:(Code.builtin "type.__call__" ⟨.ref C::rest,kw⟩).cUnits=1:=by kernel_rfl
theorem cz.IE {rest:List Value} (r:cz A (n+1)):cz (A.under (.builtin "type.__call__" ⟨.ref C::rest,kw⟩)) n :=
 ⟨r.1,by have:=r.2.1;simp only [Around.under,nU];exact HY this,by have:=r.2.2;simp only [Around.under,pP];exact Iw this⟩
structure E2 (G:Glob) (K:Frag) (C f:Addr) (lst:Bool):Prop where
 gr:∀ h,G.inv h->K.In h
 E7:(if lst then iI K C else makesIn K C)=true
 kp:keepIn K (.ref C)=true
 ini:findIn K (.ref C) "__init__"=some (some (.ref f))
 OM:typeIn K (.ref f)=some (.type "function")
theorem EN.make {x:Str} {p:Pos} {Nw:Addr->Addr->List Addr->List Addr->List Res->Prop} (lst:Bool) (om:E2 G K C f lst)
  (hf:EV G F ρ W Rs (.Name x p) (.raw (.ref C))) (ha:aV G F ρ W Rs (e::es) ps)
  (r0:Addr->Addr->Res) (hr0:∀ x d,(r0 x d).addrs=[x,d])
  (hh:∀ W h x d,h.get? x=some {cls:=.ref C,dict:=some d,data:=if lst then .seq #[] else .plain}->h.get? d=some emptyDict->d≠x->(r0 x d).holds W h)
  (hc:∀ x d,CN G f n [r0 x d] (.raw (.ref x)::ps) .none (Nw x d)) (hn:n+1<=F.n)
  (hst:backTo pos (starEach (e::es) F.env)=(e::es).map (λe=>(false,eval e F.env)):=by rfl) :
  EN G F ρ W Rs (.Call (.Name x p) (e::es) [] pos) (λv W' aq=>∃ x d Rn,x∉W/\d∉W/\v = .ref x/\Nw x d (x::d::W) W' Rn/\aq=Rn++Rs):=λs S=>by
 rw [Vz]
 refine R7 (aF (hf s S) λv s₁ zz=>zz.elim λy r=>?_)
 rw [Rep] at r
 subst r
 rw [hst]
 show wpAny _ _ (callWith pos (.ref C) [] ((e::es).map λe=>(false,eval e F.env)) []) _ _ _
 refine callWith_of (P:=λh=>K.In h) (W0.mpr ⟨noStar _,rfl⟩) (λh hX=>keeps_K om.kp h hX) ?_
 refine Ti (aF (ha s₁ (S.step y)) λvs s₂ zz=>zz.elim λz rs=>⟨om.gr _ ((S.step y).step z).inv,?_⟩)
 have S₂:=(S.step y).step z
 refine UA ?_
 have X:=om.gr _ S₂.inv
 show codeAny _ _ (.call (.ref C) ⟨vs,[]⟩) _ _
 have fin:∀ o:Obj,o={cls:=.ref C,dict:=some s₂.heap.objs.size,data:=if lst then .seq #[] else .plain} ->
   codeAny G.M (F.A.under (.builtin "type.__call__" ⟨.ref C::vs,[]⟩)) (.call (.ref f) ⟨.ref (s₂.heap.objs.size+1)::vs,[]⟩)
    (InitBack (s₂.heap.objs.size+1) (λr s'=>match r with | .ok (.ret v)=>(∃ W' aq,(∃ x d Rn,x∉W/\d∉W/\v = .ref x/\Nw x d (x::d::W) W' Rn/\aq=Rn++Rs)/\St G F ρ W' aq s') | .ok _=>False | .error e=>False))
    ⟨(s₂.heap.push emptyDict).push o,s₂.gens,s₂.drawn,s₂.toks,s₂.os⟩:=by
  intro o ho
  have k:∀ b o',s₂.heap.get? b=some o'->((s₂.heap.push emptyDict).push o).get? b=some o':=λb o' e=>Sg _ (Sg _ e)
  have hx:((s₂.heap.push emptyDict).push o).get? (s₂.heap.objs.size+1)=some o:=by
   have hz:(s₂.heap.push emptyDict).objs.size=s₂.heap.objs.size+1:=Tu ..
   rw [<- hz]
   refine Sn _ ?_
   subst ho;cases lst <;> rfl
  have hd:((s₂.heap.push emptyDict).push o).get? s₂.heap.objs.size=some emptyDict:=Sg _ (Sn _ rfl)
  have nx:s₂.heap.get? (s₂.heap.objs.size+1)=none:=bC (Uj _)
  have nd:s₂.heap.get? s₂.heap.objs.size=none:=bV _
  have aT:St G F ρ ((s₂.heap.objs.size+1)::s₂.heap.objs.size::W) (r0 (s₂.heap.objs.size+1) s₂.heap.objs.size::Rs) {s₂ with heap:=(s₂.heap.push emptyDict).push o} :=
   S₂.Dh (t:=s₂.toks) k nx nd (SE (aS S₂.inv)) (aS S₂.inv) (WA _) ⟨_,hx⟩ ⟨_,hd⟩ (hr0 _ _) (hh _ _ _ _ (by rw [hx,ho]) hd (WA _).symm)
  refine ob0_3 (St.Az (Rs:=[r0 (s₂.heap.objs.size+1) s₂.heap.objs.size]) (Ro:=Rs) aT) λh1 h2 h3=>?_
  have rs':ah W ((s₂.heap.push emptyDict).push o) ps vs:=aG.jC (s':={s₂ with heap:=(s₂.heap.push emptyDict).push o}) (aG.of_keeps G (t:=s₂.toks) k) S₂.inv rs
  have IK:ah ((s₂.heap.objs.size+1)::s₂.heap.objs.size::W) ((s₂.heap.push emptyDict).push o) ps vs:=by
   refine ah.keep (W:=W) (h:=s₂.heap) ((aG.of_keeps G (s:=s₂) (t:=s₂.toks) k).cg S₂.inv (by simp)) (λb zz=>zz.elim λo' e hb=>?_) rs
   rcases Sh.mp hb with rfl | hb
   ·rw [nx] at e;cases e
   ·rcases Sh.mp hb with rfl | hb
    ·rw [nd] at e;cases e
    ·exact hb
  refine V2 (hc _ _ (F.A.under (.builtin "type.__call__" ⟨.ref C::vs,[]⟩)) _ _ _ ((S₂.room.mono hn).IE) aT.inv aT.low (by rw [ah];exact ⟨_,_,rfl,by rw [Rep],IK⟩) h1 h2 h3) λr s' hr=>?_
  match r,hr with
  | .ok (.ret v),hr =>
   refine ob2_3 hr λW' Rn hN hnew hrep=>?_
   rw [Rep] at hrep
   refine ⟨hrep,W',Rn++Rs,⟨_,_,Rn,(S₂.fresh nx).1,(S₂.fresh nd).1,rfl,hN,rfl⟩,?_⟩
   exact St.mX (Rs:=[r0 (s₂.heap.objs.size+1) s₂.heap.objs.size]) aT hnew
 cases hl:lst with
 | true =>
  have mk:=om.E7
  rw [hl] at mk
  exact Dy (vF X mk) (Un X om.ini) (λself=>bind_fn X self om.OM) (.inl rfl) (fin _ (by rw [hl];rfl))
 | false =>
  have mk:=om.E7
  rw [hl] at mk
  exact make_core (makes_of X mk) (Un X om.ini) (λself=>bind_fn X self om.OM) (.inl rfl) (fin _ (by rw [hl];rfl))
end
theorem XS.Cy {τ:Type} {orelse:List Stmt} {xs:List PV} (Inv:Nat->τ->Prop) (KD:τ->Prop) (iu:τ->List (Str×PV)) (RI:τ->List Res)
  (dw:PV->τ->List (Str×PV)) (z0:τ)
  (hi:IV G F ρ W Rs target iter xs) (h0:Inv 0 z0) (DM:∀ x p,(iu z0).lookup x=some p->ρ.lookup x=some p) (NJ:RI z0=Rs) (hR:∀ z,(RI z).flatMap (·.addrs)=Rs.flatMap (·.addrs))
  (mE:∀ k p z s₁,xs[k]? = some p->Inv k z->AV G (F.at Rs s₁) (iu z) W (RI z) target p (dw p z))
  (hb:∀ k p z s₁,xs[k]? = some p->Inv k z->XS G (F.at Rs s₁) (dw p z) W (RI z) body (λf s'=>match f with
   | .next | .cont=>∃ z',Inv (k+1) z'/\St G (F.at Rs s₁) (iu z') W (RI z') s'
   | .brk=>∃ z',KD z'/\St G (F.at Rs s₁) (iu z') W (RI z') s'
   | .ret _=>False))
  (h:∀ z,Inv xs.length z->XS G F (iu z) W (RI z) orelse (KJ (λs=>wpAny G.M F.A (execs rest F.env) K (λz! z! => False) s) K))
  (Q3:∀ z,KD z->XS G F (iu z) W (RI z) rest K)
  (hs:∀ x,foldedSetIterable iter F.env x=pure x:=by intro _;rfl) :
  XS G F ρ W Rs (.For target iter body orelse pos::rest) K:=λs S=>by
 refine Tr (wpAny_For ?_ hs)
 refine aF (hi s S) λx s₁ zz=>zz.elim λkO hit=>aF hit λit s₂ zz=>zz.elim λfK zz=>zz.elim λfp zz=>zz.elim λwr zz=>zz.elim λhI zz=>zz.elim λhwr hfp=>?_
 refine ob1_2 (hI [] (by simp)) λT I hT=>?_
 replace hT:=hT s₂.heap λz! z! e=>e
 rw [VS] at I
 have S₂:=S.step fK
 have lD:∀ b∈fp,b∉W/\b≠F.env.locals/\∀ x c,F.env.cells.lookup x=some c->b≠c:=λb hb=>⟨(hfp b hb).1,(hfp b hb).2.1,(hfp b hb).2.2.1⟩
 have yO:∀ b∈wr,F.s0.heap.get? b=none\/b∈F.X:=λb hb=>by
  by_cases hX:b∈F.X
  ·exact .inr hX
  ·left
   cases e:F.s0.heap.get? b with
   | none=>rfl
   | some o =>
    have:=S.stp.keep b o hX (hfp b (I.sub b hb)).2.2.2.1 e
    rw [hwr b hb] at this;cases this
 refine codeAny_loop' rfl (λn s'=>∃ k z,n=xs.length+1 - k/\k<=xs.length/\Inv k z/\St G F (iu z) W (RI z) s'/\T k s'.heap) (λn s' hI=>?_) (xs.length+1)
  ⟨0,z0,rfl,SX _,h0,by rw [NJ];exact S₂.weaken DM,hT⟩
 refine ob2_5 hI λk z az hk hz S' pC=>?_;obtain rfl:=az
 show wpAny _ F.A ((forTurn target it body orelse F.env).onRaise (λx=>do noteFrame x F.env;theTreesLotGoes x)) _ _ s'
 refine wpAny_noted ?_
 simp only [forTurn]
 refine R7 (Tc (R7 (wpAny_onRaise ?_)))
 rcases VI k xs.length with hlt | hge
 ·have hp:xs[k]? = some xs[k]:=by simp [hlt]
  refine aF (I.item k _ s' hp pC S'.inv λa ha=>(S'.low a ha).2) λr s₃ zz=>zz.elim λv zz=>zz.elim λhr zz=>zz.elim λx₃ hgo=>?_
  subst hr
  refine R7 (aF hgo λ_ s₄ zz=>zz.elim λpF zz=>zz.elim λrZ zY=>?_)
  have pX:aI W s'.heap s₄.heap:=pF.bI S'.inv (I.pG k _ pC)
  have bZ:St G F (iu z) W (RI z) s₄:=S'.cH pF (λa ha=>lD a (I.sub a ha)) yO pX
  have Aa:=bZ.enter (aq:=Rs) (hR z).symm
  refine R7 (aF (mE k _ z s₄ hp hz s₄ v Aa rZ) λ_ s₅ zz=>zz.elim λmQ z! => ?_)
  refine R7 (aF (hb k _ z s₄ hp hz s₅ mQ) λf s₆ hf=>?_)
  have next:(∃ z',Inv (k+1) z'/\St G (F.at Rs s₄) (iu z') W (RI z') s₆)->∃ m,m<xs.length+1 - k/\∃ k' z',m=xs.length+1 - k'/\k'<=xs.length/\Inv k' z'/\St G F (iu z') W (RI z') s₆/\T k' s₆.heap:=λzz=>zz.elim λz' zz=>zz.elim λhz' gI=>by
   refine ⟨_,?_,k+1,z',rfl,hlt,hz',bZ.leave gI (hR z).symm ((hR z').trans (hR z).symm),?_⟩
   ·exact Me hlt
   ·exact I.frame _ _ _ zY (λb hb o e=>gI.stp.keep b o (j9 bZ (hR z).symm (lD b hb)) (hfp b hb).2.2.2.1 e) (bZ.jk gI.stp (hR z).symm)
  cases f with
  | next=>exact R8 (.inl ⟨rfl,next hf⟩)
  | cont=>exact R8 (.inl ⟨rfl,next hf⟩)
  | brk =>
   refine ob1_2 hf λz' hz' gI=>?_
   exact R8 (Q3 z' hz' s₆ (bZ.leave gI (hR z).symm ((hR z').trans (hR z).symm)))
  | ret v=>exact hf.elim
 ·have hk':k=xs.length:=TU hk hge
  subst hk'
  refine aF (I.done s' pC S'.inv) λr s₃ zz=>zz.elim λhr x₃=>?_
  subst hr
  have pY:aI W s'.heap s₃.heap:=x₃.bI S'.inv (I.pG _ _ pC)
  have aT:St G F (iu z) W (RI z) s₃:=S'.cH x₃ (λa ha=>lD a (I.sub a ha)) yO pY
  exact R8 (.inr ⟨rfl,codeAny_block (aF (h z hz s₃ aT) λf s' hf=>by cases f <;> exact hf)⟩)
theorem XS.brk {pos:Pos} (h:∀ s,St G F ρ W Rs s->K .brk s):XS G F ρ W Rs (.Break pos::rest) K:=λs S =>
 Tr (wpAny_Break (h s S))
theorem XS.cont {pos:Pos} (h:∀ s,St G F ρ W Rs s->K .cont s):XS G F ρ W Rs (.Continue pos::rest) K:=λs S =>
 Tr (wpAny_Continue (h s S))
theorem XS.MU (h:∀ s,St G F ρ W Rs s->K (.ret .none) s):XS G F ρ W Rs (.Return none pos::rest) K:=λs S=>by
 exact Tr (wpAny_Return_none (h s S))
noncomputable def signsOf (x:Str):List PV:=x.cps.toList.map λc=>.str ⟨#[c]⟩
theorem IV.str {target e:SQ} {x:Str} (h:EV G F ρ W Rs e (.str x)) (hx:x.cps.all (· < 128)=true):IV G F ρ W Rs target e (signsOf x):=λs S=>by
 refine aF (h s S) λv s' zz=>zz.elim λhx' r=>⟨hx',?_⟩
 refine ob0_2 r.isStr λhl aA=>?_;refine ob1_1 aA λt bh=>?_;obtain rfl:=bh
 have S₁:=S.step hx'
 refine wpAny_pyIter_ascii hx ?_
 have hfr:=S₁.fresh (bV s'.heap)
 refine ⟨hx'.trans (.bO G (t:=s'.toks)),[s'.heap.objs.size],[s'.heap.objs.size],λV hV=>⟨_,
   z9.ofWalks (Walks.strAscii S.room.1 s'.heap.objs.size x t) (by simp [signsOf]) (aS S₁.inv) (λh=>True)
    (λh h' r sk=>trivial) (λi p v h hp hv r=>?_) (c:="str_ascii_iterator") (λi h t=>?_) (by decide) (by decide),λh' k=>⟨⟨_,k _ _ (Sn _ rfl),rfl,rfl⟩,trivial⟩⟩,?_,?_⟩
 ·refine ob2_2 hv λc u hc rG=>?_;obtain rfl:=rG
  unfold signsOf at hp
  rw [SP] at hp
  rw [<- UO] at hc
  rw [hc] at hp
  simp only [Wo,XI] at hp
  rw [<- hp]
  exact Rep.str (show 1<=lim by decide)
 ·refine ob1_3 t λo e hc hd=>?_
  exact ⟨o,e,hc,_,hd⟩
 ·intro b hb
  have:b=s'.heap.objs.size:=by simpa using hb
  subst this
  cases e':s.heap.get? s'.heap.objs.size with
  | none=>rfl
  | some o =>
   exfalso
   have ht:s'.heap.objs.size∉G.tabs:=λht=>SW _ (Sd (G.rD _ ht) (aS S₁.inv))
   exact SW _ (SY (hx'.keep _ o (by simp) ht e'))
 ·intro b hb
  have:b=s'.heap.objs.size:=by simpa using hb
  subst this
  exact ⟨hfr.1,hfr.2.1,hfr.2.2,bk (aS S₁.inv),_,Sn _ rfl⟩
theorem Aq:∀ s v,G.inv s.heap->Rep W s.heap (.str x) v->wpAny G.M F.A (truthy v) (λc s'=>aG G [] s s'/\c=decide (x.length≠0)) (λz! z! => False) s:=λs v iv r=>by
 refine ob0_2 r.isStr λhl aA=>?_;refine ob1_1 aA λt bh=>?_;obtain rfl:=bh
 refine PySem.P.truthy_str (qC hl) ⟨.of_toks G,?_⟩
 by_cases h:x.length=0
 ·simp [h]
 ·have:((x.length:Int) != 0)=true:=bne_iff_ne.mpr (by exact Fw h)
  rw [this];simp [h]
theorem TV.str {e:SQ} {x:Str} (h:EV G F ρ W Rs e (.str x))
  (he:∀ whole,isTrue e F.env whole=(do let v<-whole;standAt e.pos;holding [v] (truthy v)):=by intro _;rfl):TV G F ρ W Rs e (decide (x.length≠0)):=TV.plain h Aq he
theorem TV.bool {e:SQ} {b:Bool} (h:EV G F ρ W Rs e (.bool b))
  (he:∀ whole,isTrue e F.env whole=(do let v<-whole;standAt e.pos;holding [v] (truthy v)):=by intro _;rfl):TV G F ρ W Rs e b:=TV.plain h tR he
theorem vS:∀ s t,St G F ρ W Rs s->x.length<=lim->Gv G F.A W (call (.builtin "str.isspace") [.str x t]) (.bool (Va x)) s:=λs t S z! => SC.isspace ⟨.refl ..,Rep.bool⟩
theorem EV.isspace {o:SQ} {apos pos:Pos} {x:Str} (ho:EV G F ρ W Rs o (.str x))
  (hbase:attributeBase o "isspace" F.env (eval o F.env)=eval o F.env:=by rfl)
  (hline:(apos.endLine == pos.line)=true:=by rfl):EV G F ρ W Rs (.Call (.Attribute o "isspace" apos) [] [] pos) (.bool (Va x)) :=
 EV.Dw ho PySem.F.slot_str_isspace PySem.F.type_str_isspace vS hbase hline
section
variable {K:Frag} {a d:Addr}
noncomputable def Ad (G:Glob) (F:Fm) (ρ:List (Str×PV)) (W:List Addr) (Rs:List Res) (p:PV) (b:Bool):Prop :=
 ∀ s v,St G F ρ W Rs s->Rep W s.heap p v->wpAny G.M F.A (truthy v) (λc s'=>aG G [] s s'/\c=b) (λz! z! => False) s
theorem Ad.bool {b:Bool}:Ad G F ρ W Rs (.bool b) b:=λs v S r=>tR s v S.inv r
theorem Ad.acc {n:Nat} (ok:pD G K C) (hb:findIn K (.ref C) "__bool__"=some none) (hf:findIn K (.ref C) "__len__"=some (some (.ref f))) (ht:typeIn K (.ref f)=some (.type "function"))
  (hc:MP G f n [Res.acc C a d k xs] [.raw (.ref a)] (.int ((k':Nat):Int))) (hn:n+1<=F.n) (hk:k'<=lim)
  (hh:uW G F ρ W Rs [Res.acc C a d k xs]):Ad G F ρ W Rs (.raw (.ref a)) (decide (k'≠0)):=λs v S r=>by
 have rs:ah W s.heap [.raw (.ref a)] [v]:=by rw [ah];exact ⟨_,_,rfl,r,by rw [ah]⟩
 rw [Rep] at r;subst r
 refine ob0_3 (hh s S) λh1 h2 h3=>?_
 refine ob0_2 (h1 _ (R_ ..)) λz! aA=>?_;refine ob3_2 aA λus c m I z! => ?_
 have hlim:lim=1048576:=by decide
 refine ob1_2 I.at_ λo I' z! => ?_
 have X:=ok.gr _ S.inv
 have key:wpAny G.M F.A (runValue (.builtin "len" ⟨[.ref a],[]⟩)) (λr s'=>aG G [] s s'/\∃ t,r = .int ((k':Nat):Int) t) (λz! z! => False) s:=by
  refine wpAny_runValue (UY entry_len ?_)
  rw [T_ PySem.plain_len _]
  unfold Builtin.«len»
  refine R7 (m:=oneArg "len" _) (R8 ?_)
  refine R7 (m:=callSpecial? (.ref a) (VJ "__len__")) (inst_specialF X I hf ht ?_)
  refine aF (hc F.A.in1 W s [.ref a] (S.room.mono hn).in1 S.inv S.low rs h1 h2 h3) λv s₁ zz=>zz.elim λy r=>?_
  refine ob1_1 r.isInt λt aB=>?_;obtain rfl:=aB
  dsimp only
  refine R7 (Sj (R8 ?_))
  refine R7 (wpAny_letGo ?_)
  rw [if_neg (by exact wR)]
  rw [if_neg (qC hk)]
  refine R7 (wpAny_mkInt (R8 ⟨y.trans (.of_toks G),_,rfl⟩))
 unfold truthy callSpecial? specialOf
 refine R7 (R7 (R7 (I'.type.here ((Un X hb).here (R8 ?_)))))
 refine R7 (R7 (I'.type.here ((Un X hf).here ?_)))
 rw [if_neg (by simp)]
 refine R7 (aF key λr s₁ zz=>zz.elim λy zz=>zz.elim λt e=>?_)
 subst e
 refine R8 ⟨y,?_⟩
 by_cases h:k'=0
 ·simp [h]
 ·have:((k':Int) != 0)=true:=bne_iff_ne.mpr (by exact Fw h)
  rw [this];simp [h]
theorem EV.not {b:Bool} (he:EV G F ρ W Rs e p) (ht:Ad G F ρ W Rs p b):EV G F ρ W Rs (.UnaryOp .Not e pos) (.bool (!b)):=λs S=>by
 have e0:eval (.UnaryOp .Not e pos) F.env=(do let v<-eval e F.env;standAt pos;holding [v] (unaryOp .Not v)):=rfl
 rw [e0]
 refine R7 (aF (he s S) λv s₁ zz=>zz.elim λx rx=>R7 (Tc (Sj ?_)))
 unfold unaryOp
 refine Sj ?_
 show wpAny _ _ (do let c<-truthy v;pure (Value.bool (!c))) _ _ _
 exact R7 (aF (ht s₁ v (S.step x) rx) λc s₂ zz=>zz.elim λy hc=>R8 ⟨x.trans y,by rw [hc,Rep]⟩)
theorem EV.Ob {x y:SQ} {b:Bool} (hx:EV G F ρ W Rs x p) (ht:Ad G F ρ W Rs p b) (h1:b=true->EV G F ρ W Rs y q) (h2:b=false->q=p):EV G F ρ W Rs (.BoolOp .And [x,y] pos) q:=λs S=>by
 have e0:eval (.BoolOp .And [x,y] pos) F.env=boolOp pos .And [eval x F.env,eval y F.env]:=rfl
 rw [e0]
 refine R7 (aF (hx s S) λv s₁ zz=>zz.elim λst rx=>R7 (Tc (R7 (Sj ?_))))
 refine aF (ht s₁ v (S.step st) rx) λc s₂ zz=>zz.elim λst2 hc=>?_
 subst hc
 cases hb:c with
 | false=>exact R8 ⟨st.trans st2,by rw [h2 hb];exact st2.rep0 (st.inv S.inv) rx⟩
 | true=>exact aF (h1 hb s₂ ((S.step st).step st2)) λu s₃ zz=>zz.elim λst3 r=>⟨st.trans (st2.trans st3),r⟩
theorem EV.PU {x y:SQ} {b:Bool} (hx:EV G F ρ W Rs x p) (ht:Ad G F ρ W Rs p b) (h1:b=false->EV G F ρ W Rs y q) (h2:b=true->q=p):EV G F ρ W Rs (.BoolOp .Or [x,y] pos) q:=λs S=>by
 have e0:eval (.BoolOp .Or [x,y] pos) F.env=boolOp pos .Or [eval x F.env,eval y F.env]:=rfl
 rw [e0]
 refine R7 (aF (hx s S) λv s₁ zz=>zz.elim λst rx=>R7 (Tc (R7 (Sj ?_))))
 refine aF (ht s₁ v (S.step st) rx) λc s₂ zz=>zz.elim λst2 hc=>?_
 subst hc
 cases hb:c with
 | true=>exact R8 ⟨st.trans st2,by rw [h2 hb];exact st2.rep0 (st.inv S.inv) rx⟩
 | false=>exact aF (h1 hb s₂ ((S.step st).step st2)) λu s₃ zz=>zz.elim λst3 r=>⟨st.trans (st2.trans st3),r⟩
end
section
variable {K:Frag} {a d x:Addr} {name:Str}
theorem vW (K:Frag):findIn K (.type "function") "__get__"=some (some (.builtin "function.__get__")):=by kernel_rfl
theorem vV (K:Frag):findIn K (.type "function") "__set__"=some none:=by kernel_rfl
theorem vX (K:Frag):findIn K (.type "function") "__delete__"=some none:=by kernel_rfl
theorem findObj_fn {od:Obj} (hh:hasDictIn K C=true) (ha:findIn K (.ref C) name=some (some (.ref f))) (ht:typeIn K (.ref f)=some (.type "function")) (hc:copiedNames.contains name=false) (hl:lookIn name od=some none) :
  findObj K C (some od) name=some (.bind (.builtin "function.__get__") (.ref f)):=by
 refine ob1_2 (any_some hh) λcd hc' hd=>?_
 have ho:ownOf cd (some od) name=some none:=by unfold PySem.W.ownOf;rw [if_pos hd];exact hl
 have g1:specialIn K (.ref f) "__get__"=some (some (.builtin "function.__get__")):=by unfold specialIn;rw [ht,UL,vW]
 have g2:specialIn K (.ref f) "__set__"=some none:=by unfold specialIn;rw [ht,UL,vV]
 have g3:specialIn K (.ref f) "__delete__"=some none:=by unfold specialIn;rw [ht,UL,vX]
 have g4:takesIn K (.ref f)=some false:=by unfold takesIn;rw [g2];simp only [g3];rfl
 unfold findObj
 rw [hc',UL,ha,UL]
 have hc':¬ (name∈copiedNames):=λh=>by rw [List.contains_eq_mem,decide_eq_false_iff_not] at hc;exact hc h
 simp [g1,g4,ho,hc']
theorem w5 {expr:Bool} (X:K.In s.heap) (I:au s.heap x d C dat m) (hga:findIn K (.ref C) "__getattribute__"=some (some (.builtin "list.__getattribute__"))) (hh:hasDictIn K C=true)
  (hgt:findIn K (.ref C) "__getattr__"=some none) (hsub:mroIn K C (.type "list")=some true)
  (ha:findIn K (.ref C) name=some (some (.ref f))) (ht:typeIn K (.ref f)=some (.type "function")) (hc:copiedNames.contains name=false) (hm:m name=none)
  (h:Q (.ref s.heap.objs.size) {s with heap:=s.heap.push (methodObj (.ref f) (.ref x)),toks:=s.toks+1}):wpAny (model prog w) A (getAttr (.ref x) name expr) Q E s:=by
 refine ob1_2 I.at_ λo I' hl=>?_
 have hf:=findObj_fn hh ha ht hc (od:=o) (by rw [hl,hm])
 obtain ⟨hp,g,dr,t,os⟩:=s
 have L0:=I'.type (M:=model prog w)
 have L1:=Un (M:=model prog w) X hga
 have L2:=Un (M:=model prog w) X hgt
 have L3:=looks_find (M:=model prog w) X I' hf
 have L4:Looks (model prog w) hp (isInstance (.ref x) (.type "list")) true:=L0.andThen (V8 X hsub)
 unfold getAttr getAttrBy
 refine R7 (wpAny_mkText (Sj (R7 (L0.at (R7 (L1.at ?_))))))
 dsimp only
 rw [show (onTheHeap (.ref C) && (Vf "list.__getattribute__" == Vf "object.__getattribute__"))=false by rw [show (Vf "list.__getattribute__" == Vf "object.__getattribute__")=false by decide +kernel];rfl]
 rw [if_neg (by decide)]
 unfold getAttrByItsOwn
 refine R7 (L2.at ?_)
 refine R7 (UX (Sj ?_))
 show wpAny _ _ (callGetattribute _ _ _ _) _ _ _
 unfold callGetattribute
 rw [if_neg (by simp [onTheHeap])]
 unfold boundAndCalled
 refine R7 (Tw (q4 _) ?_)
 show wpAny _ _ (call (.builtin "list.__getattribute__") [.ref x,.str name t]) _ _ _
 refine UA (T5 WE.plain am_entry_list_getattribute (@check_slot (model prog w) _ _ _ "list.__getattribute__" "list" "__getattribute__" (.ref x) [.str name t] [] _ qw nk L4 (PySem.F.args_list_getattribute_2 _ _) ?_))
 unfold Builtin.«object.__getattribute__»
 refine R7 (R8 (R7 (R8 (R7 (L0.at (R7 (L3.at ?_)))))))
 show wpAny _ _ (holding [Vc f] (call (.builtin "function.__get__") [.ref f,.ref x,.ref C]) >>= ret) _ _ _
 refine R7 (Sj (UA (fn_get X ht ?_)))
 refine R8 ?_
 show wpAny _ _ (handedOut _) _ _ _
 rw [handedOut_of rfl];exact R8 h
end
section
variable {K:Frag} {a d x:Addr} {name:Str}
noncomputable abbrev CC (G:Glob) (f:Addr) (n:Nat) (Rs aq:List Res) (ps:List PV) (q:PV):Prop:=CN G f n Rs ps q (λW W' R=>W'=W/\R=aq)
theorem CC.mc (h:CC G f n Rs aq ps q) (hadr:aq.flatMap (·.addrs)=Rs.flatMap (·.addrs):=by rfl):MC G f n Rs aq ps q:=λA W s vs hA iv low rs h1 h2 h3=>by
 refine UA (V2 (h A W s vs hA iv low rs h1 h2 h3) λr s' hr=>?_)
 match r,hr with
 | .ok (.ret v),hr =>
  refine ob2_3 hr λW' R az N hr2=>?_;refine ob0_2 az λbM aB=>?_;obtain rfl:=bM;obtain rfl:=aB
  refine ⟨N.stp,N.res,λb hb=>?_,hr2⟩
  rw [<- hadr] at hb
  refine ob1_2 (Sw.mp hb) λr' hr' hb=>?_
  exact (N.low b (N.own r' hr' b hb).1).2
 | .ok .next,hr=>exact hr.elim
 | .ok .brk,hr=>exact hr.elim
 | .ok .cont,hr=>exact hr.elim
 | .error e,hr=>exact hr.elim
theorem CC.of {n:Nat} {ps ps':List PV} {q:PV} (ok:bQ G f fd body) {names:List Str}
  (hb:∀ s W vs,G.inv s.heap->ah W s.heap ps vs->∃ vs',BindsTo s fd ⟨vs,[]⟩ (names.zip vs')/\ah W s.heap ps' vs') (hlen:names.length=ps'.length)
  (hnm:∀ x∈names,fd.scope.names.lookup x=some .local\/fd.scope.names.lookup x=some .cell)
  (h:∀ A W s L,cz A (n+1)->XS G (bu fd f A s L n (Rs.flatMap (·.addrs))) (names.zip ps').reverse W Rs body (λfl s'=>(∃ ρ,St G (bu fd f A s L n (Rs.flatMap (·.addrs))) ρ W aq s')/\Rep W s'.heap q (match fl with | .ret v=>v | _=>.none))) :
  CC G f (n+1) Rs aq ps q :=
 CN.of ok hb hlen hnm (λW W' R h=>by refine ob0_2 h λbM aB=>?_;obtain rfl:=bM;obtain rfl:=aB;exact ⟨λb h=>h,λb h=>.inl h⟩) λA W s L hA=>λs₀ wA=>aF (h A W s L hA s₀ wA) λfl s' zz=>zz.elim λzz=>zz.elim λρ S r=>⟨W,aq,ρ,⟨rfl,rfl⟩,S,r⟩
theorem CC.mz {n:Nat} {ps ps':List PV} {q:PV} (ok:bQ G f fd body) {names:List Str}
  (hb:∀ s W vs,G.inv s.heap->ah W s.heap ps vs->∃ vs',BindsTo s fd ⟨vs,[]⟩ (names.zip vs')/\ah W s.heap ps' vs') (hlen:names.length=ps'.length)
  (hnm:∀ x∈names,fd.scope.names.lookup x=some .local\/fd.scope.names.lookup x=some .cell)
  (h:∀ A W s L,cz A (n+1)->jz G (bu fd f A s L n (Rs.flatMap (·.addrs))) (.func body (dF fd f L)) (names.zip ps').reverse W Rs body (λfl s'=>∃ W' R ρ,(W'=W/\R=aq)/\St G (bu fd f A s L n (Rs.flatMap (·.addrs))) ρ W' R s'/\Rep W' s'.heap q (match fl with | .ret v=>v | _=>.none))) :
  CC G f (n+1) Rs aq ps q :=
 CN.mz ok hb hlen hnm (λW W' R h=>by refine ob0_2 h λbM aB=>?_;obtain rfl:=bM;obtain rfl:=aB;exact ⟨λb h=>h,λb h=>.inl h⟩) h
noncomputable def Bound (G:Glob) (F:Fm) (ρ:List (Str×PV)) (W:List Addr) (Rs:List Res) (name:Str) (a f:Addr):Prop :=
 ∀ s,St G F ρ W Rs s->∀ (Q:Value->Shared->Prop) (E:Value->Shared->Prop),(∀ q h' t,G.base.objs.size<=q->h'.get? q=some (methodObj (.ref f) (.ref a))->(∀ b o,s.heap.get? b=some o->h'.get? b=some o)->Q (.ref q) {s with heap:=h',toks:=t}) ->
  wpAny G.M F.A (getAttr (.ref a) name true) Q E s
theorem Bound.acc (ok:pD G K C) (kn:bx G F ρ W Rs (dG C a d k xs)) (hf:findIn K (.ref C) name=some (some (.ref f))) (ht:typeIn K (.ref f)=some (.type "function")) (hc:copiedNames.contains name=false) (hn:name≠("_initial_size":Str)):Bound G F ρ W Rs name a f:=λs S Q E q=>by
 refine ob0_2 (kn s S) λz! aA=>?_;refine ob3_4 aA λvs c m I z! hm2 z! => ?_
 exact w5 (ok.gr _ S.inv) I ok.ga ok.hd ok.gt ok.sub hf ht hc (hm2 _ hn) (q _ _ _ (aS S.inv) (Sn _ rfl) λb o e=>Sg _ e)
theorem xE {its:List Value} {t:Addr} {M:Model} {Q:List Value->Shared->Prop} (ht:CW s.heap t its) (hz:its.length<=sizeLine) (h:∀ h',(∀ b o,s.heap.get? b=some o->h'.get? b=some o)->Q its {s with heap:=h'}):StarOf G.M A E (.ref t) Q s:=by
 refine ob1_1 ht λn D=>?_
 have pC:s.TypeIs (.ref t) "tuple":=⟨_,D,rfl⟩
 have z:wpAny G.M A (collect (.ref t)) Q E s:=wpAny_collect_seq t (.inr rfl) D rfl rfl (λh' hk=>by simpa using h h' hk) (by simpa using hz)
 unfold StarOf notIterableAtAll
 exact R7 (WR pC PySem.F.slot_tuple_iter.lookup (R8 ⟨rfl,z⟩))
theorem ER.zH {sp:Pos} (ho:EV G F ρ W (Rs++Ro) o (.raw (.ref a))) (he:EV G F ρ W (Rs++Ro) e (.tup ps)) (gr:∀ h,G.inv h->K.In h) (hf:Bound G F ρ W (Rs++Ro) name a f) (hfn:fnIn K f=true)
  (hc:CC G f n Rs aq (.raw (.ref a)::ps) q) (hn:n<=F.n)
  (hbase:attributeBase o name F.env (eval o F.env)=eval o F.env:=by rfl)
  (hst:starEach [.Starred e sp] F.env=[(true,eval e F.env)]:=by rfl) :
  ER G F ρ W (Rs++Ro) (.Call (.Attribute o name apos) [.Starred e sp] [] pos) q (aq++Ro):=λs S=>by
 rw [arm_eval_Call,hbase]
 refine R7 (aF (ho s S) λv s₁ zz=>zz.elim λy r=>?_)
 rw [Rep] at r;subst r
 have S₁:=S.step y
 refine R7 (Tc ?_)
 have qF:methodCallForm ([PySem.Expr.Starred e sp].length+([]:List Keyword).length) (backTo pos (starEach [.Starred e sp] F.env)) (backToKw pos (keywordEach [] F.env))=false:=by rw [hst];rfl
 unfold methodCall
 rw [qF]
 refine R7 (Sj ?_)
 unfold calleeOf
 rw [if_neg (by decide)]
 refine R7 (hf s₁ S₁ _ _ λq' h' t Qz hq kp=>R8 ?_)
 dsimp only
 have st:aG G [] s₁ {s₁ with heap:=h',toks:=t}:=aG.of_keeps G kp
 have S₂:=S₁.step st
 refine R7 (m:=methodCallPos false o F.env apos pos) (R8 ?_)
 rw [hst]
 refine ks_call (P:=MethP K q' f (.ref a)) rfl (keeps_M hfn) ?_
 refine ks_lone (aF (he _ S₂) λv s₃ zz=>zz.elim λz rv=>?_)
 have aT:=S₂.step z
 refine ob0_2 rv.isTup λhl aA=>?_;refine ob2_4 aA λt' its bq ht' Qs rs=>?_;obtain rfl:=bq
 have hz:=rs.length
 refine xE (M:=G.M) Qs (by rw [hz];exact R9 hl (by decide)) λh₃ Cz=>?_
 have mZ:aG G [] s₃ {s₃ with heap:=h₃}:=aG.of_keeps G (t:=s₃.toks) Cz
 have bZ:=aT.step mZ
 have CE:h₃.get? q'=some (methodObj (.ref f) (.ref a)):=by
  exact Cz _ _ (z.keep _ _ (by simp) (bk Qz) hq)
 refine ⟨⟨CE,gr _ bZ.inv⟩,?_⟩
 refine ob0_3 bZ.Az λh1 h2 h3=>?_
 refine UA (method_call CE (V2 (hc F.A W _ (.ref a::its) (bZ.room.mono hn) bZ.inv bZ.low (by rw [ah];exact ⟨_,_,rfl,by rw [Rep],mZ.jC aT.inv rs⟩) h1 h2 h3) λr s₅ hr=>?_))
 match r,hr with
 | .ok (.ret v),hr =>
  refine ob2_3 hr λW' R az N hr2=>?_;refine ob0_2 az λbM aB=>?_;obtain rfl:=bM;obtain rfl:=aB
  exact ⟨bZ.mX N,hr2⟩
 | .ok .next,hr=>exact hr.elim
 | .ok .brk,hr=>exact hr.elim
 | .ok .cont,hr=>exact hr.elim
 | .error e,hr=>exact hr.elim
end
section
variable {Rt:List Res} {K:Frag} {a d x:Addr} {name:Str}
theorem ER.perm {e:SQ} {q:PV} (p:Rs.Perm Ro) (h:ER G F ρ W Ro e q Rt) (p':Rt.Perm aq):ER G F ρ W Rs e q aq:=λs S=>aF (h s (S.perm p)) λv s' zz=>zz.elim λS' r=>⟨S'.perm p',r⟩
theorem ER.append {o e:SQ} {apos pos:Pos} {p:PV} {xs:List PV} (ho:EV G F ρ W (Res.lst a xs::Rs) o (.raw (.ref a))) (he:EV G F ρ W (Res.lst a xs::Rs) e p) (hl:xs.length+1<=lim)
  (hbase:attributeBase o "append" F.env (eval o F.env)=eval o F.env:=by rfl)
  (hfew:((backTo pos (starEach [e] F.env)).all (λx => !x.1) && (backToKw pos (keywordEach [] F.env)).all (λx=>x.1.isSome)
   && decide ([e].length+([]:List Keyword).length+(if ([]:List Keyword).isEmpty then 0 else 1)<30))=true:=by rfl)
  (hst:backTo pos (starEach [e] F.env)=[e].map (λe=>(false,eval e F.env)):=by rfl)
  (hline:(apos.endLine == pos.line)=true:=by rfl) :
  ER G F ρ W (Res.lst a xs::Rs) (.Call (.Attribute o "append" apos) [e] [] pos) .none (Res.lst a (xs++[p])::Rs):=λs S=>by
 refine Ug hbase hfew hline (aF (ho s S) λv s₁ zz=>zz.elim λy r=>?_)
 rw [Rep] at r;subst r
 have S₁:=S.step y
 refine ob0_2 (S₁.res _ (R_ ..)) λz! aA=>?_;refine ob1_2 aA λus bh z! => ?_;refine ob1_1 bh λn e1=>?_
 rw [hst]
 refine ⟨"list","list.append",XF,Xn,Xo,⟨_,e1,rfl⟩,(λa' e=>by cases e;exact ⟨_,e1,rfl⟩),?_⟩
 refine Tq (noStar _) ?_
 refine Ti (aF (aV.cons he .nil s₁ S₁) λvs s₂ zz=>zz.elim λz rs=>?_)
 refine ob1_2 rs.one λv aB rv=>?_;obtain rfl:=aB
 refine aF ((S₁.step z).append rv hl) λu s₃ zz=>zz.elim λhu zz=>zz.elim λaT z! => ⟨aT,by rw [Rep];exact hu⟩
theorem EV.AX {ys:List Str} (ho:EV G F ρ W Rs o (.str sep)) (h:EV G F ρ W Rs e (.raw (.ref a))) (hr:Res.lst a (ys.map .str)∈Rs) (hb:(ys.map (·.length)).sum+ys.length * sep.length<=lim)
  (hbase:attributeBase o "join" F.env (eval o F.env)=eval o F.env:=by rfl)
  (hfew:((backTo pos (starEach [e] F.env)).all (λx => !x.1) && (backToKw pos (keywordEach [] F.env)).all (λx=>x.1.isSome)
   && decide ([e].length+([]:List Keyword).length+(if ([]:List Keyword).isEmpty then 0 else 1)<30))=true:=by rfl)
  (hst:backTo pos (starEach [e] F.env)=[e].map (λe=>(false,eval e F.env)):=by rfl)
  (hline:(apos.endLine == pos.line)=true:=by rfl) :
  EV G F ρ W Rs (.Call (.Attribute o "join" apos) [e] [] pos) (.str (Sx sep ys)) :=
 EV.nj ho (.cons h .nil) WU WV (λs t vs S z! rs=>by
  refine ob1_2 rs.one λv aB r=>?_;obtain rfl:=aB
  rw [Rep] at r;subst r
  refine ob0_2 (S.res _ hr) λhl aA=>?_;refine ob1_2 aA λus bh ru=>?_;refine ob1_1 bh λn e=>?_
  refine join_list (items:=us.toArray) (ys:=ys) ⟨_,e,rfl,n,rfl⟩ (by simpa using ru.strs) (R9 hb (by decide)) λt' k=>?_
  have:=XJ sep ys
  rw [show Txt.join sep ys=Sx sep ys from Wj sep ys]
  exact ⟨.of_toks G,Rep.str (R9 this hb)⟩) (by simp) hbase hfew hst hline
end
section
variable {a:Addr} {k:Str}
noncomputable def fT:Value->Str
 | .str x _=>x
 | _=>""
noncomputable def bY (G:Glob):Bool:=G.w.params.followText "set-order"
noncomputable abbrev Glob.sk (G:Glob):PySem.KeyKind G.prog G.w Str:=PySem.strKind G.prog G.w
noncomputable def dZ (G:Glob) (h:Heap) (a:Addr) (ks:List Str):Prop :=
 ∃ o es ep t,h.get? a=some o/\o.ExactSet/\o.data = .set es ep t/\ElemsOf G.sk es.toList/\(es.toList.map λe=>fT e.2).Perm ks/\ks.Nodup/\es.size<scanBound/\t.fits es.size=true /\
  t.led=(!bY G)/\(es.size=0\/t.plain=false)
theorem qx (t:SetTable) (n:Nat):(t.orStandIn n).led=t.led:=by unfold SetTable.orStandIn;split <;> rfl
theorem sO (t:SetTable) (es:Array (Int×Value)) (h:Int) (x:Value):(layNew t es h x).2.1.led=t.led:=by
 unfold layNew
 split
 ·exact qx _ _
 ·rfl
theorem r_ {t':SetTable} {hs:Array Int} {o:Array Nat} (h:t.relaid hs n=some (t',o)):t'.led=t.led/\t'.plain=t.plain:=by
 unfold SetTable.relaid SetTable.laid at h
 simp only [Option.bind_eq_bind,Option.pure_def] at h
 refine ob1_2 (Option.bind_eq_some_iff.mp h) λowner z! h=>?_
 cases h
 exact ⟨rfl,rfl⟩
theorem n9 (t:SetTable) (es:Array (Int×Value)) (n:Nat):(relayAll t es n).2.1.led=t.led/\(t.plain=false->(relayAll t es n).2.1.plain=false):=by
 unfold relayAll
 split
 ·rename_i t' order hr
  refine ob0_2 (r_ hr) λh1 h2=>?_
  dsimp only
  split
  ·exact ⟨h1,λh=>h2.trans h⟩
  ·exact ⟨rfl,λz! => rfl⟩
 ·exact ⟨rfl,λz! => rfl⟩
noncomputable def ig (ks:List Str) (k:Str):List Str:=if k∈ks then ks else ks++[k]
theorem zR (ks:List Str) (k:Str):(ig ks k).length<=ks.length+1:=by unfold ig;split <;> simp
theorem nu {k:Str}:Value.isStrOf k v=true->fT v=k:=λh=>by
 refine ob1_1 (Value.isStrOf_shape h) λt aB=>?_;obtain rfl:=aB;rfl
theorem vN {es:List (Int×Value)} (hel:ElemsOf G.sk es) {e:Int×Value} (he:e∈es):G.sk.is (fT e.2) e.2=true:=by
 refine ob0_2 (hel e he) λbM z! => ?_;refine ob1_2 bM λk hk z! => ?_
 have:=nu hk
 rw [this];exact hk
theorem tQ {b:Bool} {Q:Unit->Shared->Prop} (q:Q () s):wpAny G.M A (match b with | true=>rule "set.scan.the-table-gave-way" | false=>pure ()) Q E s:=by
 cases b
 ·exact R8 q
 ·exact U7 q
theorem dZ.stored {o:Obj} {es:Array (Int×Value)} (ho:h.get? a=some o) (hex:o.ExactSet) (hd:o.data = .set es ep t) {es':Array (Int×Value)} {t':SetTable}
  (hel:ElemsOf G.sk es'.toList) (hp:(es'.toList.map λe=>fT e.2).Perm ks) (nd:ks.Nodup) (hb:es'.size<scanBound) (hf:t'.fits es'.size=true) (hl:t'.led=(!bY G)) (hpl:t'.plain=false) :
  (h.update a (Obj.putSet es' t')).get? a=some {o with data:=.set es' (ep+1) t'}/\dZ G (h.update a (Obj.putSet es' t')) a ks:=by
 have hg:(h.update a (Obj.putSet es' t')).get? a=some {o with data:=.set es' (ep+1) t'}:=by
  have:=VF (Obj.putSet es' t') ho (by rw [putSet_of es' t' hd];rfl)
  rw [putSet_of es' t' hd] at this;exact this
 exact ⟨hg,_,es',ep+1,t',hg,hex,rfl,hel,hp,nd,hb,hf,hl,.inr hpl⟩
theorem u6 {t:Tok} {Q:Bool->Shared->Prop} (hS:dZ G s.heap a ks) (hroom:ks.length+1<scanBound)
  (h:∀ b h' tk,Uc a s.heap h'->dZ G h' a (ig ks k)->Q b {s with heap:=h',toks:=tk}):wpAny G.M A (setAdd a (.str k t)) Q E s:=by
 refine ob4_10 hS λo es ep tb ho hex hd hel hp nd hb hf hl hpl=>?_
 have hn:es.size=ks.length:=by rw [<- hp.length_eq,Sa,TY]
 have hkey:G.sk.is k (.str k t)=true:=by show Value.isStrOf k (.str k t)=true;simp [Value.isStrOf]
 have hsc:(XX k t).scannable=true:=rfl
 unfold setAdd
 refine Sj (R7 (G.sk.pyHash hkey ?_))
 unfold setAddHashed setAddHashedIn
 refine Sj (R7 (wpAny_setState_of (s:={s with toks:=s.toks+1}) ho hd hf ?_))
 dsimp only
 rw [byScan_of hsc hb hel]
 simp only [if_true]
 unfold setAddByScan
 refine R7 (R7 (U7 (R7 (wpAny_setScan_of (s:={s with toks:=s.toks+1}) hkey ho hd hf hel ?_))))
 cases hr:List.findIdx? (λe=>G.sk.is k e.2) es.toList with
 | some j =>
  refine ob1_2 (List.findIdx?_eq_some_iff_getElem.mp hr) λhj QA z! => ?_
  have hmem:k∈ks:=by
   refine hp.mem_iff.mp (SN.mpr ⟨es.toList[j],UH hj,nu QA⟩)
  dsimp only
  refine R8 (R8 (h _ s.heap _ (Heap.SameBut.refl ..) ?_))
  rw [ig,if_pos hmem]
  exact ⟨o,es,ep,tb,ho,hex,hd,hel,hp,nd,hb,hf,hl,hpl⟩
 | none =>
  have hmem:k∉ks:=λhm=>by
   refine ob1_2 (SN.mp (hp.mem_iff.mpr hm)) λe he hk=>?_
   have:=List.findIdx?_eq_none_iff.mp hr e he
   have h2:=vN hel he
   rw [hk] at h2
   rw [h2] at this;cases this
  dsimp only
  have dD:=layNew_perm tb es (G.sk.hash k) (.str k t)
  have uh:=layNew_fits tb es (G.sk.hash k) (.str k t)
  have A4:=sO tb es (G.sk.hash k) (.str k t)
  generalize layNew tb es (G.sk.hash k) (.str k t)=L at dD uh A4 ⊢
  obtain ⟨es1,t1,wasDummy,Rp⟩:=L
  dsimp only at dD uh A4 ⊢
  rw [Wt] at dD
  have hel1:ElemsOf G.sk es1.toList:=(hel.push hkey hsc).perm dD
  have hsz1:es1.size=ks.length+1:=by rw [<- TY,dD.length_eq,Sy,TY,hn];rfl
  have hp1:(es1.toList.map λe=>fT e.2).Perm (ks++[k]):=(dD.map _).trans (by rw [S4];exact hp.append (.refl _))
  have OA:(ks++[k]).Nodup:=by rw [Ux];exact ⟨nd,by simp,λx hx y hy e=>by rw [Sm] at hy;subst hy;subst e;exact hmem hx⟩
  have hb1:es1.size<scanBound:=by exact FE hroom hb hn hsz1
  rw [ig,if_neg hmem] at h
  refine R7 (tQ ?_)
  have tail:∀ t2:SetTable,t2.fits es1.size=true->t2.led=(!bY G)->t2.plain=false->wpAny G.M A (do
    storeSet a es1 t2
    if (!wasDummy && t2.tooFull)=true then do
      (match (relayAll t2 es1 (WG es1.size)).2.2 with | true=>rule "set.scan.the-table-gave-way" | false=>pure ())
      storeSet a (relayAll t2 es1 (WG es1.size)).1 (relayAll t2 es1 (WG es1.size)).2.1
      pure (some true)
     else pure (some true)) (λr s'=>r=some true/\∃ h' tk,s'={s with heap:=h',toks:=tk}/\Uc a s.heap h'/\dZ G h' a (ks++[k])) E {s with toks:=s.toks+1}:=by
   intro t2 hf2 hl2 Jt
   refine R7 (wpAny_storeSet_of (s:={s with toks:=s.toks+1}) ho hd ?_ (fits_of_scanBound hb1))
   refine ob0_2 (dZ.stored (G:=G) (h:=s.heap) ho hex hd hel1 hp1 OA hb1 hf2 hl2 Jt) λJu Ra=>?_
   have Jp:=TX s.heap a (Obj.putSet es1 t2)
   split
   ·have hp2:=relayAll_perm t2 es1 (WG es1.size)
    have Nv:=relayAll_fits t2 es1 (WG es1.size)
    have hl3:=n9 t2 es1 (WG es1.size)
    generalize relayAll t2 es1 (WG es1.size)=Rl at hp2 Nv hl3 ⊢
    obtain ⟨Pd,t3,O9⟩:=Rl
    dsimp only at hp2 Nv hl3 ⊢
    have hsz2:Pd.size=es1.size:=by rw [<- TY,hp2.length_eq,TY]
    refine R7 (tQ ?_)
    refine R7 (wpAny_storeSet_of (s:={s with heap:=s.heap.update a (Obj.putSet es1 t2),toks:=s.toks+1}) Ju rfl ?_ (fits_of_scanBound (by exact BO hroom hb hn hsz1 hsz2)))
    refine ob0_2 (dZ.stored (G:=G) (ks:=ks++[k]) Ju hex rfl (hel1.perm hp2) ((hp2.map _).trans hp1) OA (by exact BO hroom hb hn hsz1 hsz2:Pd.size<scanBound) Nv (hl3.1.trans hl2) (hl3.2 Jt)) λz! Q_=>?_
    exact R8 ⟨rfl,_,_,rfl,Jp.trans (TX _ a _),Q_⟩
   ·exact R8 ⟨rfl,_,_,rfl,Jp,Ra⟩
  have fin:∀ {r:Option Bool} {s₂:Shared},(r=some true/\∃ h' tk,s₂={s with heap:=h',toks:=tk}/\Uc a s.heap h'/\dZ G h' a (ks++[k]))->wpAny G.M A (match r with | some added=>pure added | none=>setAddHashedIn a (.str k t) (G.sk.hash k) 99999) Q E s₂:=by
   rintro r s₂ ⟨rfl,h',tk,rfl,h1,h2⟩
   exact R8 (h _ h' tk h1 h2)
  split
  ·rename_i OT
   refine R7 (Tw (hashByValue_scannable 8 hsc) ?_)
   refine U4 (tail {t1 with plain:=false} (SetTable.fits_plain_off uh) (A4.trans hl) rfl) (λr s₂ hr=>fin hr) λz! z! e=>e
  ·rename_i OT
   refine R7 (R8 ?_)
   refine U4 (tail t1 uh (A4.trans hl) (by simpa using OT)) (λr s₂ hr=>fin hr) λz! z! e=>e
end
section
open PySem.Builtin
variable {a b T:Addr} {k:Str}
theorem jZ:entryFor table "set.__iter__"=some Builtin.«frozenset.__iter__» := entryFor_alias (id':="frozenset.__iter__") (by kernel_rfl) rfl (by decide +kernel) (by kernel_rfl)
theorem aK:Slot "set_iterator" "__next__" "set_iterator.__next__" :=
 .of (owner:="set_iterator") (n:="__next__") (by rw [T6,Tj];kernel_rfl) (by decide +kernel) (by decide +kernel) (by decide +kernel)
  (by first | exact .inl (by decide +kernel) | exact .inr (by decide +kernel)) (by rw [WB];kernel_rfl)
theorem bX:entryFor table "set_iterator.__next__"=some Builtin.«set_iterator.__next__» := WC (by kernel_rfl)
theorem cj (a:Value):argsOk "set_iterator.__next__" ⟨[a],[]⟩:=by unfold argsOk;kernel_rfl
theorem o7 (a:Value):argsOk "set_iterator.__iter__" ⟨[a],[]⟩:=by unfold argsOk;kernel_rfl
theorem mG:entryFor table "set_iterator.__iter__"=some Builtin.«dict_keyiterator.__iter__» := entryFor_alias (id':="dict_keyiterator.__iter__") (by kernel_rfl) rfl (by decide +kernel) (by kernel_rfl)
theorem iD:Slot "set_iterator" "__iter__" "set_iterator.__iter__" :=
 .of (owner:="set_iterator") (n:="__iter__") (by rw [T6,Tj];kernel_rfl) (by decide +kernel) (by decide +kernel) (by decide +kernel)
  (by first | exact .inl (by decide +kernel) | exact .inr (by decide +kernel)) (by rw [WB];kernel_rfl)
noncomputable def bA (first:Value) (i:Int) (it:Value) (n ep:Nat):Obj:={cls:=.type "set_iterator",dict:=none,data:=.fields #[first,.int i 0,it,.int n 0,.int ep 0],slots:=#[]}
structure cP (h:Heap) (b:Addr) (es:Array (Int×Value)) (ep:Nat) (t:SetTable):Prop where
 at_:∃ o,h.get? b=some o/\o.data = .set es ep t
 fit:t.fits es.size=true
theorem cP.state {es:Array (Int×Value)} {Q:(Array (Int×Value)×Nat×SetTable)->Shared->Prop} (S:cP s.heap b es ep t) (h:Q (es,ep,t) s):wpAny G.M A (setState b) Q E s:=by
 refine ob1_2 S.at_ λo ho hd=>?_
 exact wpAny_setState_of ho hd S.fit h
theorem cP.keeps {es:Array (Int×Value)} (S:cP h b es ep t) (k:∀ o,h.get? b=some o->h'.get? b=some o):cP h' b es ep t :=
 let ⟨o,ho,hd⟩:=S.at_;⟨⟨o,k o ho,hd⟩,S.fit⟩
theorem Av {first:Value} {i:Int} {it:Value} (hI:s.heap.get? I=some (bA first i it n ep)) (h:Q (.ref I) s):wpAny G.M A (pyIter (.ref I)) Q E s:=by
 have hT:s.TypeIs (.ref I) "set_iterator":=⟨_,hI,rfl⟩
 refine wpAny_pyIter_slot hT iD (Uw iD hT mG ?_ (o7 _))
 show wpAny _ _ (ret (.ref I)) _ _ s
 exact R8 ⟨_,rfl,"set_iterator",_,hT,aK.lookup,h⟩
theorem eK {vs:Array Value} {x:Value} (hI:h.get? I=some {cls:=.type "set_iterator",dict:=none,data:=.fields vs,slots:=#[]}) (hj:j<vs.size) :
  (h.update I (Obj.mapFields (·.setIfInBounds j x))).get? I=some {cls:=.type "set_iterator",dict:=none,data:=.fields (vs.setIfInBounds j x),slots:=#[]} :=
 VF _ hI rfl
theorem xJ {Q:Option Value->Shared->Prop} (hI:s.heap.get? I=some (bA (.ref T) i (.ref b) n ep)) {es:Array (Int×Value)} (S:cP s.heap b es ep t) (hn:es.size=n)
  {ord:List Nat} {hv:Int} {x:Value} (NF:CW s.heap T (ord.map λ(i:Nat)=>rawInt i)) (hi:ord[i]? = some j) (hj:es[j]? = some (hv,x))
  (hQ:∀ h',h'.get? I=some (bA (.ref T) ((i+1:Nat):Int) (.ref b) n ep)->Uc I s.heap h'->Q (some x) {s with heap:=h'}):wpAny G.M A (pyNext (.ref I)) Q E s:=by
 have hT:s.TypeIs (.ref I) "set_iterator":=⟨_,hI,rfl⟩
 unfold pyNext
 refine R7 (UX (Uv (name:=VJ "__next__") hT aK (Uw aK hT bX ?_ (cj _))))
 unfold Builtin.«set_iterator.__next__»
 refine R7 (m:=slotArgs "__next__" 0 _) (R8 ?_)
 refine R7 (WD hI rfl ?_)
 dsimp only
 unfold setEntries
 refine R7 (R7 (S.state (R8 ?_)))
 refine S7 (by simp [hn]) ?_
 refine ob1_1 NF λnt NG=>?_
 refine R7 (Ve NG rfl ?_)
 have e:(ord.map λ(i:Nat)=>rawInt i).toArray[((i:Nat):Int).toNat]? = some (rawInt j):=by simp [hi]
 dsimp only
 rw [e]
 show wpAny _ _ (setNextDrawn b ((j:Nat):Int).toNat ((ep:Nat):Int).toNat >>= _) _ _ _
 unfold setNextDrawn
 refine R7 (R7 (S.state ?_))
 dsimp only
 refine S7 (by simp) ?_
 simp only [U',hj]
 refine R8 ?_
 refine R7 (Vg hI rfl (Sz rfl) (R8 ⟨_,rfl,R8 (hQ _ ?_ (TX ..))⟩))
 have:=eK (I:=I) (vs:=#[.ref T,.int i 0,.ref b,.int n 0,.int ep 0]) (j:=1) (x:=rawInt (((i:Nat):Int)+1)) hI (Sz rfl)
 rw [this]
 rfl
theorem nZ {Q:Option Value->Shared->Prop} (hh:A.handled=none) (hI:s.heap.get? I=some (bA (.ref T) i (.ref b) n ep)) {es:Array (Int×Value)} (S:cP s.heap b es ep t) (hn:es.size=n)
  {ord:List Nat} (NF:CW s.heap T (ord.map λ(i:Nat)=>rawInt i)) (hi:ord[i]? = none)
  (hQ:∀ h',U_ I s.heap h'->Q none {s with heap:=h'}):wpAny G.M A (pyNext (.ref I)) Q E s:=by
 have hT:s.TypeIs (.ref I) "set_iterator":=⟨_,hI,rfl⟩
 unfold pyNext
 refine R7 (UX (Uv (name:=VJ "__next__") hT aK (Uw aK hT bX ?_ (cj _))))
 unfold Builtin.«set_iterator.__next__»
 refine R7 (m:=slotArgs "__next__" 0 _) (R8 ?_)
 refine R7 (WD hI rfl ?_)
 dsimp only
 unfold setEntries
 refine R7 (R7 (S.state (R8 ?_)))
 refine S7 (by simp [hn]) ?_
 refine ob1_1 NF λnt NG=>?_
 refine R7 (Ve NG rfl ?_)
 have e:(ord.map λ(i:Nat)=>rawInt i).toArray[((i:Nat):Int).toNat]? = none:=by
  simp only [U',WT,SP,hi,Option.map_none]
 dsimp only
 rw [e]
 refine R7 (Vg hI rfl (Sz rfl) ?_)
 have p1:=eK (I:=I) (vs:=#[.ref T,.int i 0,.ref b,.int n 0,.int ep 0]) (j:=0) (x:=rawInt 0) hI (Sz rfl)
 refine R7 (Vg (s:={s with heap:=_}) p1 rfl (Sz rfl) ?_)
 refine j0 (s:={s with heap:=_}) hh λe h' kp D9=>?_
 refine R7 (UK (T:="StopIteration") (b:=true) D9 isSubtype_stop ?_)
 exact R8 (hQ _ λb' o hb e=>kp _ _ ((TX ..).extBut b' o hb ((TX ..).extBut b' o hb e)))
theorem g_ {α:Type}:∀ (l:List α) (i:Nat) (h:i<l.length),(l[i]::l.eraseIdx i).Perm l
 | x::l,0,_=>.refl _
 | x::l,i+1,h=>by
  show (l[i]'(by simpa using h)::x::l.eraseIdx i).Perm (x::l)
  exact (List.Perm.swap ..).trans ((g_ l i (by simpa using h)).cons x)
theorem tZ {α:Type} (next:Nat->Nat):∀ (n k:Nat) (left:List α) (out:Array α),left.length=n->(pickOrder.go next n k left out).toList.Perm (out.toList++left)
 | 0,k,left,out,h=>by
  have:left=[]:=VQ.mp h
  subst this
  simp [pickOrder.go]
 | n+1,k,left,out,h=>by
  rw [pickOrder.go]
  have hlt:next k % left.length<left.length:=Nat.mod_lt _ (by exact LI h)
  rw [Sv hlt]
  dsimp only
  refine (tZ next n (k+1) _ _ (by rw [List.length_eraseIdx_of_lt hlt];exact LG h)).trans ?_
  rw [Wt,SH]
  refine VG _ ?_
  show (left[next k % left.length]::left.eraseIdx (next k % left.length)).Perm left
  exact g_ left _ hlt
theorem vz (next:Nat->Nat) (xs:Array α):(pickOrder next xs).toList.Perm xs.toList:=by
 have:=tZ next xs.size 0 xs.toList #[] (by simp)
 simpa [pickOrder] using this
theorem cS {Q:Bool->Shared->Prop} (h:Q (bY G) s):wpAny G.M A setsByText Q E s:=by
 unfold setsByText
 exact λz! z! z! => h
theorem Au {Q:Option Value->Shared->Prop} (hI:s.heap.get? I=some (bA (.int 0 0) i (.ref b) n ep)) {es:Array (Int×Value)} (S:cP s.heap b es ep t) (hn:es.size=n) (mD:bY G=true)
  {hv:Int} {x:Value} (hj:(pickOrder (G.w.params.setOrder b ep) es)[i]? = some (hv,x))
  (hQ:∀ h',h'.get? I=some (bA (.int 0 0) ((i+1:Nat):Int) (.ref b) n ep)->U_ I s.heap h'->Q (some x) {s with heap:=h'}):wpAny G.M A (pyNext (.ref I)) Q E s:=by
 have hT:s.TypeIs (.ref I) "set_iterator":=⟨_,hI,rfl⟩
 unfold pyNext
 refine R7 (UX (Uv (name:=VJ "__next__") hT aK (Uw aK hT bX ?_ (cj _))))
 unfold Builtin.«set_iterator.__next__»
 refine R7 (m:=slotArgs "__next__" 0 _) (R8 ?_)
 refine R7 (WD hI rfl ?_)
 dsimp only
 unfold setEntries
 refine R7 (R7 (S.state (R8 ?_)))
 refine S7 (by simp [hn]) ?_
 show wpAny _ _ (setNext b ((0:Int)).toNat ((i:Nat):Int).toNat ((ep:Nat):Int).toNat >>= _) _ _ _
 unfold setNext
 refine R7 (R7 (S.state (R7 (cS ?_))))
 rw [mD]
 simp only [if_true]
 refine S7 (by simp) ?_
 unfold setWalk
 refine R7 (R7 (S.state (R7 (cS ?_))))
 rw [mD]
 simp only [if_true]
 refine R7 (wpAny_askSetting (R8 (R8 ?_)))
 rw [U']
 rw [show (pickOrder ({program:=(model G.prog G.w).prog,params:=(model G.prog G.w).w.params:Setting}.params.setOrder b ep) es)[i]? = some (hv,x) from hj]
 dsimp only [Wo]
 refine R7 (Vg hI rfl (Sz rfl) ?_)
 have p1:=eK (I:=I) (vs:=#[.int 0 0,.int i 0,.ref b,.int n 0,.int ep 0]) (j:=0) (x:=rawInt ((0:Int).toNat:Nat)) hI (Sz rfl)
 refine R7 (Vg (s:={s with heap:=_}) p1 rfl (Sz rfl) (R8 ⟨_,rfl,R8 (hQ _ ?_ ?_)⟩))
 ·have:=eK (I:=I) (j:=1) (x:=rawInt (((i:Nat):Int)+1)) p1 (by simp)
  rw [this]
  rfl
 ·exact λb' o hb e=>(TX ..).extBut b' o hb ((TX ..).extBut b' o hb e)
theorem p7 {Q:Option Value->Shared->Prop} (hh:A.handled=none) (hI:s.heap.get? I=some (bA (.int 0 0) i (.ref b) n ep)) {es:Array (Int×Value)} (S:cP s.heap b es ep t) (hn:es.size=n) (mD:bY G=true)
  (hj:(pickOrder (G.w.params.setOrder b ep) es)[i]? = none)
  (hQ:∀ h',U_ I s.heap h'->Q none {s with heap:=h'}):wpAny G.M A (pyNext (.ref I)) Q E s:=by
 have hT:s.TypeIs (.ref I) "set_iterator":=⟨_,hI,rfl⟩
 unfold pyNext
 refine R7 (UX (Uv (name:=VJ "__next__") hT aK (Uw aK hT bX ?_ (cj _))))
 unfold Builtin.«set_iterator.__next__»
 refine R7 (m:=slotArgs "__next__" 0 _) (R8 ?_)
 refine R7 (WD hI rfl ?_)
 dsimp only
 unfold setEntries
 refine R7 (R7 (S.state (R8 ?_)))
 refine S7 (by simp [hn]) ?_
 show wpAny _ _ (setNext b ((0:Int)).toNat ((i:Nat):Int).toNat ((ep:Nat):Int).toNat >>= _) _ _ _
 unfold setNext
 refine R7 (R7 (S.state (R7 (cS ?_))))
 rw [mD]
 simp only [if_true]
 refine S7 (by simp) ?_
 unfold setWalk
 refine R7 (R7 (S.state (R7 (cS ?_))))
 rw [mD]
 simp only [if_true]
 refine R7 (wpAny_askSetting (R8 (R8 ?_)))
 rw [U']
 rw [show (pickOrder ({program:=(model G.prog G.w).prog,params:=(model G.prog G.w).w.params:Setting}.params.setOrder b ep) es)[i]? = none from hj]
 dsimp only [Option.map_none]
 refine R7 (Vg hI rfl (Sz rfl) ?_)
 refine j0 (s:={s with heap:=_}) hh λe h' kp D9=>?_
 refine R7 (UK (T:="StopIteration") (b:=true) D9 isSubtype_stop ?_)
 exact R8 (hQ _ λb' o hb e=>kp _ _ ((TX ..).extBut b' o hb e))
theorem Dc {slot:Nat} {Q:Option Value->Shared->Prop} (hI:s.heap.get? I=some (bA (.int slot 0) 0 (.ref b) n ep)) {es:Array (Int×Value)} (S:cP s.heap b es ep t) (hn:es.size=n) (mD:bY G=false) (h1:es.size<=1) (hl:t.led=true)
  {hv:Int} {x:Value} (hj:es[0]? = some (hv,x)) (hp:t.place[0]? = some j) (hs:W6 t.place slot=0)
  (hQ:∀ h',h'.get? I=some (bA (.int (j+1:Nat) 0) 1 (.ref b) n ep)->U_ I s.heap h'->Q (some x) {s with heap:=h'}):wpAny G.M A (pyNext (.ref I)) Q E s:=by
 have hT:s.TypeIs (.ref I) "set_iterator":=⟨_,hI,rfl⟩
 unfold pyNext
 refine R7 (UX (Uv (name:=VJ "__next__") hT aK (Uw aK hT bX ?_ (cj _))))
 unfold Builtin.«set_iterator.__next__»
 refine R7 (m:=slotArgs "__next__" 0 _) (R8 ?_)
 refine R7 (WD hI rfl ?_)
 dsimp only
 unfold setEntries
 refine R7 (R7 (S.state (R8 ?_)))
 refine S7 (by simp [hn]) ?_
 show wpAny _ _ (setNext b ((slot:Nat):Int).toNat ((0:Int)).toNat ((ep:Nat):Int).toNat >>= _) _ _ _
 unfold setNext
 refine R7 (R7 (S.state (R7 (cS ?_))))
 rw [mD]
 refine S7 (by simp) ?_
 split
 ·rename_i hd
  have hd:(!t.plain && decide (es.size > 1))=true:=hd
  simp at hd
  exact Fo hn h1 hd
 refine R7 ?_
 show wpAny _ _ (if (!t.led && !es.isEmpty)=true then unsupported "set:maker-not-led" else pure ()) _ _ _
 rw [hl,if_neg (by simp)]
 refine R8 ?_
 rw [U',hs]
 dsimp only
 rw [hj,hp]
 refine R8 ?_
 dsimp only
 refine R7 (Vg hI rfl (Sz rfl) ?_)
 have p1:=eK (I:=I) (vs:=#[.int slot 0,.int 0 0,.ref b,.int n 0,.int ep 0]) (j:=0) (x:=rawInt ((j+1:Nat))) hI (Sz rfl)
 refine R7 (Vg (s:={s with heap:=_}) p1 rfl (Sz rfl) (R8 ⟨_,rfl,R8 (hQ _ ?_ ?_)⟩))
 ·have:=eK (I:=I) (j:=1) (x:=rawInt ((0:Int)+1)) p1 (by simp)
  rw [this]
  rfl
 ·exact λb' o hb e=>(TX ..).extBut b' o hb ((TX ..).extBut b' o hb e)
theorem kR {slot:Nat} {Q:Option Value->Shared->Prop} (hh:A.handled=none) (hI:s.heap.get? I=some (bA (.int slot 0) i (.ref b) n ep)) {es:Array (Int×Value)} (S:cP s.heap b es ep t) (hn:es.size=n) (mD:bY G=false) (h1:es.size<=1) (hl:t.led=true)
  (hs:es[W6 t.place slot]? = none)
  (hQ:∀ h',U_ I s.heap h'->Q none {s with heap:=h'}):wpAny G.M A (pyNext (.ref I)) Q E s:=by
 have hT:s.TypeIs (.ref I) "set_iterator":=⟨_,hI,rfl⟩
 unfold pyNext
 refine R7 (UX (Uv (name:=VJ "__next__") hT aK (Uw aK hT bX ?_ (cj _))))
 unfold Builtin.«set_iterator.__next__»
 refine R7 (m:=slotArgs "__next__" 0 _) (R8 ?_)
 refine R7 (WD hI rfl ?_)
 dsimp only
 unfold setEntries
 refine R7 (R7 (S.state (R8 ?_)))
 refine S7 (by simp [hn]) ?_
 show wpAny _ _ (setNext b ((slot:Nat):Int).toNat ((i:Nat):Int).toNat ((ep:Nat):Int).toNat >>= _) _ _ _
 unfold setNext
 refine R7 (R7 (S.state (R7 (cS ?_))))
 rw [mD]
 refine S7 (by simp) ?_
 split
 ·rename_i hd
  have hd:(!t.plain && decide (es.size > 1))=true:=hd
  simp at hd
  exact Fo hn h1 hd
 refine R7 ?_
 show wpAny _ _ (if (!t.led && !es.isEmpty)=true then unsupported "set:maker-not-led" else pure ()) _ _ _
 rw [hl,if_neg (by simp)]
 refine R8 ?_
 rw [U']
 dsimp only
 rw [hs]
 refine R8 ?_
 dsimp only
 refine R7 (Vg hI rfl (Sz rfl) ?_)
 refine j0 (s:={s with heap:=_}) hh λe h' kp D9=>?_
 refine R7 (UK (T:="StopIteration") (b:=true) D9 isSubtype_stop ?_)
 exact R8 (hQ _ λb' o hb e=>kp _ _ ((TX ..).extBut b' o hb e))
end
section
open PySem.Builtin
variable {a b T:Addr} {k:Str}
theorem wp_choose {M:Model} {src:Source} {Q:Nat->Shared->Prop} (hn:n≠0) (h:∀ i d,i<n->Q i {s with drawn:=d}):wpAny M A (choose src n) Q E s:=λΓ p _ =>
 ⟨hn,h _ _ (Nat.mod_lt _ (TM hn))⟩
theorem iy {α:Type} {M:Model}:∀ (n:Nat) (xs:List α) {Q:List α->Shared->Prop} {s:Shared},xs.length=n->(∀ ys d,ys.Perm xs->Q ys {s with drawn:=d})->wpAny M A (drawOrder n xs) Q E s
 | 0,xs,Q,s,hn,h=>by
  have:xs=[]:=VQ.mp hn
  subst this
  exact R8 (h [] s.drawn (.refl _))
 | n+1,[],Q,s,hn,h=>nomatch hn
 | n+1,x::xs,Q,s,hn,h=>by
  refine R7 (wp_choose (VH _) λi d hi=>?_)
  rw [Sv hi]
  dsimp only
  refine R7 (iy n ((x::xs).eraseIdx i) ((List.length_eraseIdx_of_lt hi).trans (Nat.succ.inj hn)) λys d' hp=>?_)
  exact R8 (h _ d' ((hp.cons _).trans (g_ _ i hi)))
theorem tG (j:Nat):W6 #[j] 0=0:=by
 exact (if_neg (Nat.not_lt_zero j):(if j<0 then (1:Nat) else 0)=0)
theorem tF (j:Nat):W6 #[j] (j+1)=1:=by
 have e:W6 #[j] (j+1)=if j<j+1 then 1 else 0:=by kernel_rfl
 exact e.trans (if_pos (UG j))
structure rt (G:Glob) (b:Addr) (s s':Shared) (ks:List Str) (I:Addr) (fp:List Addr) (vals:List Value) (St:Nat->Heap->Prop):Prop where
 walks:∀ A':Around,A'.handled=none->Walks G.prog G.w A' I fp [I] vals.length (λi v=>vals[i]? = some v) St
 start:St 0 s'.heap
 ty:∀ i h,St i h->∃ o,h.get? I=some o/\o.cls = .type "set_iterator"
 keep:∀ b o,s.heap.get? b=some o->s'.heap.get? b=some o
 gens:s'.gens=s.gens
 os:s'.os=s.os
 mem:I∈fp
 low:∀ b∈fp,b<s'.heap.objs.size
 new:s.heap.get? I=none
 Ru:∀ x∈fp,x=b\/s.heap.get? x=none
 perm:(vals.map fT).Perm ks
 M8:∀ v∈vals,∃ x t,v = .str x t
theorem rt.of {es:Array (Int×Value)} {tb:SetTable} {T:Addr} {first:Nat->Value} {vals:List Value} {X:Heap->Prop} (keep:∀ a o,s.heap.get? a=some o->s'.heap.get? a=some o) (gens:s'.gens=s.gens) (os:s'.os=s.os)
  (hI:s.heap.get? I=none) (hT:s.heap.get? T=none) (Q8:T<s'.heap.objs.size) (SA:cP s.heap b es ep tb) (start:s'.heap.get? I=some (bA (first 0) (0:Nat) (.ref b) es.size ep)) (hX:X s'.heap)
  (Xk:∀ h h',X h->(∀ o,h.get? T=some o->h'.get? T=some o)->X h') (Xe:∀ h h',X h->U_ I h h'->X h')
  (item:∀ i v (A':Around) (s:Shared) (Q:Option Value->Shared->Prop) (E:Value->Shared->Prop),vals[i]? = some v->s.heap.get? I=some (bA (first i) i (.ref b) es.size ep)->cP s.heap b es ep tb->X s.heap ->
   (∀ h',h'.get? I=some (bA (first (i+1)) ((i+1:Nat):Int) (.ref b) es.size ep)->U_ I s.heap h'->Q (some v) {s with heap:=h'})->wpAny G.M A' (pyNext (.ref I)) Q E s)
  (done:∀ (A':Around) (s:Shared) (Q:Option Value->Shared->Prop) (E:Value->Shared->Prop),A'.handled=none->s.heap.get? I=some (bA (first vals.length) vals.length (.ref b) es.size ep)->cP s.heap b es ep tb->X s.heap ->
   (∀ h',U_ I s.heap h'->Q none {s with heap:=h'})->wpAny G.M A' (pyNext (.ref I)) Q E s)
  (perm:(vals.map fT).Perm ks) (M8:∀ v∈vals,∃ x t,v = .str x t) :
  rt G b s s' ks I [I,b,T] vals (λi h=>h.get? I=some (bA (first i) i (.ref b) es.size ep)/\cP h b es ep tb/\X h):=by
 have mI:I∈[I,b,T]:=R_
 have mb:b∈[I,b,T]:=Sb _ R_
 have mT:T∈[I,b,T]:=Sb _ (Sb _ R_)
 have three:∀ {P:Addr->Prop},P I->P b->P T->∀ x∈[I,b,T],P x:=λh1 h2 h3=>W2.mpr ⟨h1,W2.mpr ⟨h2,Tv.mpr h3⟩⟩
 have Fd:b≠I:=λe=>by
  refine ob1_2 SA.at_ λo ho z! => ?_
  rw [e,hI] at ho
  cases ho
 refine ⟨λA' hA=>⟨Tv.mpr mI,λi h h' z k=>⟨k _ mI _ z.1,z.2.1.keeps (k _ mb),Xk _ _ z.2.2 (k _ mT)⟩,λi s Q E hi z hQ=>?_,λs Q E z hQ=>?_,λi s Q E z hQ=>Av z.1 hQ⟩,⟨start,SA.keeps (keep b),hX⟩,λi h z=>⟨_,z.1,rfl⟩,keep,gens,os,mI,three (SY start) ?_ Q8,hI,
  three (.inr hI) (.inl rfl) (.inr hT),perm,M8⟩
 ·exact item i vals[i] A' s Q E (Sv hi) z.1 z.2.1 z.2.2 λh' e hx=>hQ _ h' s.toks (Sv hi) ⟨e,z.2.1.keeps λo=>hx b o Fd,Xe _ _ z.2.2 hx⟩ λb o hb e=>hx b o (λh=>hb (Sm.mpr h)) e
 ·exact done A' s Q E hA z.1 z.2.1 z.2.2 λh' hx=>hQ h' s.toks λb o hb e=>hx b o (λh=>hb (Sm.mpr h)) e
 ·refine ob1_2 SA.at_ λo ho z! => ?_
  exact SY (keep _ _ ho)
theorem x7 {xs:Array α} (h:xs.size=1):xs = #[xs[0]'(h▸VL)]:=by
 apply Array.ext
 ·exact h
 ·intro i h2 h3
  have:i=0:=by rw [h] at h2;exact TU (VP h2) (SX _)
  subst this
  rfl
theorem rI (hS:dZ G s.heap b ks) (h:∀ s' I fp vals St,rt G b s s' ks I fp vals St->Q (.ref I) s'):wpAny G.M A (pyIter (.ref b)) Q E s:=by
 refine ob4_10 hS λo es ep tb ho hex hd hel hp nd hb hf hl hpl=>?_
 have hT:s.TypeIs (.ref b) "set":=⟨o,ho,hex.1⟩
 have SA:cP s.heap b es ep tb:=⟨⟨o,ho,hd⟩,hf⟩
 have Jz:∀ e∈es.toList,∃ x t,e.2 = .str x t:=λe he=>by
  refine ob0_2 (hel e he) λbM z! => ?_;refine ob1_2 bM λk hk z! => ?_
  refine ob1_1 (Value.isStrOf_shape hk) λt e1=>?_
  exact ⟨k,t,e1⟩
 have hstr:∀ vals:List Value,vals.Perm (es.toList.map (·.2))->(vals.map fT).Perm ks/\∀ v∈vals,∃ x t,v = .str x t:=λvals hv=>by
  refine ⟨(hv.map fT).trans (show ((es.toList.map (·.2)).map fT).Perm ks by rw [S3];exact hp),λv hm=>?_⟩
  refine ob1_2 (SN.mp (hv.mem_iff.mp hm)) λe he az=>?_;obtain rfl:=az
  exact Jz e he
 refine wpAny_pyIter_slot hT PySem.F.slot_set_iter (Uw PySem.F.slot_set_iter hT jZ ?_ (PySem.F.args_set_iter_1 _))
 unfold Builtin.«frozenset.__iter__»
 refine R7 (m:=Frozenset.slot0 _ _) (R8 ?_)
 unfold Frozenset.sizeOf setEntries setDrawn setEpoch
 refine R7 (R7 (R7 (SA.state (R8 (R8 ?_)))))
 refine R7 (R7 (SA.state (R7 (cS (R8 ?_)))))
 dsimp only
 have n0:s.heap.get? s.heap.objs.size=none:=bC (Si _)
 split
 ·refine R7 (iy es.size (Sk es.size) To λord d dD=>?_)
  have mC:ord.length=es.size:=by rw [dD.length_eq];exact To
  refine R7 (PySem.wpAny_newTuple (items:=ord.map λ(i:Nat)=>rawInt i) ?_ (by rw [Sa,mC];exact fits_of_scanBound hb))
  refine R7 (R7 (cP.state (es:=es) (ep:=ep) (t:=tb) (SA.keeps λo e=>Sg _ e) (R8 ?_)))
  refine R7 (TL (R8 ⟨_,rfl,"set_iterator",_,⟨_,Sn _ rfl,rfl⟩,aK.lookup,?_⟩))
  have hin:∀ j∈ord,j<es.size:=λj hj=>Ss.mp (dD.mem_iff.mp hj)
  have Jm:(ord.map λj=>((es[j]?).map (·.2)).getD .none).Perm (es.toList.map (·.2)):=by
   refine (dD.map _).trans ?_
   have:(Sk es.size).map (λj=>((es[j]?).map (·.2)).getD .none)=es.toList.map (·.2):=by
    apply List.ext_getElem
    ·simp
    ·intro i h1 h2
     have h3:i<es.size:=by simpa using h1
     rw [List.getElem_map,List.getElem_range,List.getElem_map,U1 h3];rfl
   rw [this]
  have hz:=hstr _ Jm
  refine h _ _ _ _ _ (rt.of (first:=λz! => .ref s.heap.objs.size) (T:=s.heap.objs.size) (X:=λh=>CW h s.heap.objs.size (ord.map λ(i:Nat)=>rawInt i)) (λb o e=>Sg _ (Sg _ e)) rfl rfl (bC (by rw [Tu];exact Uj _)) n0 ?_ SA (Sn _ rfl)
   ⟨0,Sg _ (Sn _ rfl)⟩ (λh h' zz=>zz.elim λn e k=>⟨n,k _ e⟩) (λh h' zz=>zz.elim λn e k=>⟨n,k _ _ (by rw [Tu];exact TP (UG _)) e⟩) (λi v A' s Q E hv e1 e2 e3 hQ=>?_) (λA' s Q E hA e1 e2 e3 hQ=>?_) hz.1 hz.2)
  ·exact SY (Sg _ (Sn _ rfl))
  ·rw [SP] at hv
   refine ob1_2 (S6.mp hv) λj hj hv=>?_
   have hjl:=hin j (UW hj)
   have OY:es[j]? = some es[j]:=U1 hjl
   rw [OY] at hv
   cases hv
   exact xJ e1 e2 rfl e3 hj OY λh' hi A1=>hQ h' hi A1.extBut
  ·exact nZ hA e1 e2 rfl e3 (TA (So (Sa ..).symm)) hQ
 ·rename_i hc0
  refine R7 (R8 ?_)
  refine R7 (R7 (SA.state (R8 ?_)))
  refine R7 (TL (R8 ⟨_,rfl,"set_iterator",_,⟨_,Sn _ rfl,rfl⟩,aK.lookup,?_⟩))
  have go:∀ (first:Nat->Value) (vals:List Value),first 0 = .int (0:Nat) 0->vals.Perm (es.toList.map (·.2))->(∀ i v (A':Around) (s1:Shared) (Q:Option Value->Shared->Prop) (E:Value->Shared->Prop),vals[i]? = some v->s1.heap.get? s.heap.objs.size=some (bA (first i) i (.ref b) es.size ep)->cP s1.heap b es ep tb->True ->
    (∀ h',h'.get? s.heap.objs.size=some (bA (first (i+1)) ((i+1:Nat):Int) (.ref b) es.size ep)->U_ s.heap.objs.size s1.heap h'->Q (some v) {s1 with heap:=h'})->wpAny G.M A' (pyNext (.ref s.heap.objs.size)) Q E s1) ->
    (∀ (A':Around) (s1:Shared) (Q:Option Value->Shared->Prop) (E:Value->Shared->Prop),A'.handled=none->s1.heap.get? s.heap.objs.size=some (bA (first vals.length) vals.length (.ref b) es.size ep)->cP s1.heap b es ep tb->True ->
    (∀ h',U_ s.heap.objs.size s1.heap h'->Q none {s1 with heap:=h'})->wpAny G.M A' (pyNext (.ref s.heap.objs.size)) Q E s1)->Q (.ref s.heap.objs.size) {s with heap:=s.heap.push (bA (.int (0:Nat) 0) (0:Nat) (.ref b) es.size ep)} :=
   λfirst vals h0 hv item done=>h _ _ _ _ _ (rt.of (T:=s.heap.objs.size) (X:=λz! => True) (λb o e=>Sg _ e) rfl rfl n0 n0 (SY (Sn _ rfl)) SA (by rw [h0];exact Sn _ rfl) trivial (λz! z! z! z! => trivial) (λz! z! z! z! => trivial) item done (hstr _ hv).1 (hstr _ hv).2)
  cases mD:bY G with
  | true =>
   have dD:=vz (G.w.params.setOrder b ep) es
   refine go (λz! => .int (0:Nat) 0) ((pickOrder (G.w.params.setOrder b ep) es).toList.map (·.2)) rfl (dD.map _) (λi v A' s Q E hv e1 e2 z! hQ=>?_) λA' s Q E hA e1 e2 z! hQ=>?_
   ·rw [SP] at hv
    refine ob1_2 (S6.mp hv) λbM hx hv=>?_;obtain ⟨hj,x⟩:=bM
    cases hv
    exact Au e1 e2 rfl mD (by rw [<- UO];exact hx) hQ
   ·refine p7 hA e1 e2 rfl mD ?_ hQ
    rw [<- UO,Sa]
    exact TA (Si _)
  | false =>
   rw [mD] at hl hc0
   have h1:es.size<=1:=by
    refine TS λhgt=>hc0 ?_
    show (!false && (!tb.plain && decide (es.size > 1)))=true
    rw [hpl.resolve_left (Vi (Nat.lt_trans Nat.zero_lt_one hgt)),decide_eq_true hgt]
    rfl
   have hps:tb.place.size=es.size:=by
    simp only [SetTable.fits,V9,beq_iff_eq] at hf
    exact hf.1
   rcases Xy es.size with h0 | h0
   ·have hes:es = #[]:=Array.eq_empty_of_size_eq_zero h0
    refine go (λz! => .int (0:Nat) 0) [] rfl (by rw [hes];exact .refl _) (λi v A' s Q E hv=>nomatch hv) λA' s Q E hA e1 e2 z! hQ=>?_
    exact kR hA e1 e2 rfl mD h1 hl (Array.getElem?_eq_none (by rw [h0];exact SX _)) hQ
   ·have hz:=TU h1 h0
    have hp0:0<tb.place.size:=hps.symm▸h0
    have DS:=x7 (hps.trans hz)
    refine go (λi=>.int (match i with | 0=>0 | _+1=>(tb.place[0]+1:Nat)) 0) [es[0].2] rfl (by rw [show es.toList=[es[0]] from congrArg Array.toList (x7 hz)];exact .refl _) (λi v A' s Q E hv e1 e2 z! hQ=>?_) λA' s Q E hA e1 e2 z! hQ=>?_
    ·cases i with
     | succ i=>cases hv
     | zero =>
      cases hv
      exact Dc (slot:=0) (j:=tb.place[0]) e1 e2 rfl mD h1 hl (hv:=es[0].1) (U1 h0) (U1 (by rw [hps];exact h0)) (by rw [DS];exact tG _) hQ
    ·refine kR hA e1 e2 rfl mD h1 hl (slot:=tb.place[0]+1) ?_ hQ
     have:W6 tb.place (tb.place[0]+1)=1:=by
      generalize tb.place[0]=j at DS
      rw [DS];exact tF j
     rw [this,Array.getElem?_eq_none h1]
end
section
open PySem.Builtin
variable {a b T:Addr} {k:Str}
theorem nX:splitId "set.__len__"=some ("set","__len__"):=by decide +kernel
theorem dZ.keeps (S:dZ G h b ks) (k:∀ o,h.get? b=some o->h'.get? b=some o):dZ G h' b ks :=
 S.imp λo h_=>h_.imp λes h_=>h_.imp λep h_=>h_.imp λt zz=>zz.elim λho r=>⟨k o ho,r⟩
theorem pJ {Q:Bool->Shared->Prop} {o:Obj} (hb:s.heap.get? b=some o) (hc:o.cls = .type "set") (h:Q false s):wpAny G.M A (List.listLengthHint (.ref b)) Q E s:=by
 have hT:s.TypeIs (.ref b) "set":=⟨o,hb,hc⟩
 unfold List.listLengthHint
 refine R7 (WR hT PySem.F.slot_set_len.lookup ?_)
 dsimp only
 rw [nX]
 refine R7 (UK (b:=true) hT (by rw [WB];kernel_rfl) ?_)
 refine R7 (XN hT ?_)
 exact R8 h
structure Old (s s':Shared):Prop where
 keep:∀ b o,s.heap.get? b=some o->s'.heap.get? b=some o
 gens:s'.gens=s.gens
 os:s'.os=s.os
theorem Old.stp (x:Old s s'):aG G [] s s':=⟨λb o z! z! e=>x.keep b o e,λi=>G.yH _ _ i x.keep,x.os,⟨[],by simp [x.gens],by simp⟩⟩
theorem l9 {Q:List Value->Shared->Prop} (hS:dZ G s.heap b ks) (hh:A.handled=none)
  (hQ:∀ s' vals,Old s s'->(vals.map fT).Perm ks->(∀ v∈vals,∃ x t,v = .str x t)->Q vals s'):wpAny G.M A (collect (.ref b)) Q E s:=by
 have hkb:ks.length<scanBound:=by
  refine ob4_8 hS λo es ep t ho hex hd hel hp nd hb r=>?_
  rw [<- hp.length_eq,Sa,TY];exact hb
 have mD:∃ o,s.heap.get? b=some o/\o.cls = .type "set":=by
  refine ob4_3 hS λo es ep t ho hex z! => ?_
  exact ⟨o,ho,hex.1⟩
 have D7:b<s.heap.objs.size:=by refine ob1_2 mD λo ho z! => ?_;exact SY ho
 unfold collect
 refine R7 (wpAny_runValue (UY PySem.F.entry_proto_collect ?_))
 rw [T_ PySem.F.plain_proto_collect _]
 show wpAny _ A.in1 (newList [] >>= λl=>again (.builtin "list.__iadd__" ⟨[l,.ref b],[]⟩)) _ _ s
 refine R7 (TL ?_)
 refine R8 ⟨Vs PySem.F.plain_list_iadd _,UY PySem.F.entry_list_iadd ?_⟩
 rw [T_ PySem.F.plain_list_iadd _]
 have yW:(s.heap.push {cls:=.type "list",data:=.seq ([]:List Value).toArray}).get? s.heap.objs.size=some {cls:=.type "list",data:=.seq ([]:List Value).toArray}:=Sn _ rfl
 have h1:List.listSameRef (.ref s.heap.objs.size) (.ref b)=false:=by simp [List.listSameRef];exact Vi D7
 show wpAny _ A.in1 (List.listExtendWith (.ref s.heap.objs.size) (.ref b) (.ref s.heap.objs.size)) _ _ _
 unfold List.listExtendWith
 refine ob1_2 mD λob hob hcb=>?_
 have hTb:Shared.TypeIs {s with heap:=s.heap.push {cls:=.type "list",data:=.seq ([]:List Value).toArray}} (.ref b) "set":=⟨ob,Sg _ hob,hcb⟩
 refine R7 (XN hTb ?_)
 rw [if_neg (by rw [h1];decide)]
 refine R7 (rI (G:=G) (dZ.keeps hS λo e=>Sg _ e) λs₂ I fp vals St it=>?_)
 refine R7 (Sj (pJ (it.keep _ _ (Sg _ hob)) hcb ?_))
 have um:=it.keep _ _ yW
 have hSI:s.heap.objs.size≠I:=λe=>by have:=it.new;rw [<- e] at this;rw [yW] at this;cases this
 have JW:s.heap.objs.size∉fp:=λhm=>by
  rcases it.Ru _ hm with h | h
  ·exact Vi D7 h
  ·rw [yW] at h;cases h
 show wpAny _ A.in1 (rule "list.extend.makes-room" >>= λz! => List.listTouch (.ref s.heap.objs.size) >>= λz! => again (.builtin "list.extend.loop" ⟨[.ref s.heap.objs.size,.ref I,.ref s.heap.objs.size],[]⟩)) _ _ _
 refine R7 (U7 ?_)
 refine R7 ?_
 show wpAny _ A.in1 (updateSeq s.heap.objs.size (·.push .none) >>= λz! => updateSeq s.heap.objs.size (·.pop)) _ _ _
 refine R7 (VC um rfl ?_)
 have CH:=VF (U6 (·.push VT)) um rfl
 refine VC (s:={s₂ with heap:=_}) CH rfl ?_
 have JV:=VF (U6 (·.pop)) CH rfl
 have Oz:∀ b' o,b'≠s.heap.objs.size->s₂.heap.get? b'=some o ->
   ((s₂.heap.update s.heap.objs.size (U6 (·.push VT))).update s.heap.objs.size (U6 (·.pop))).get? b'=some o :=
  λb' o hb' e=>(Heap.get?_update_other _ _ (Ne.symm hb')).trans ((Heap.get?_update_other _ _ (Ne.symm hb')).trans e)
 have W:=(it.walks A.in1 hh)
 have hvl:vals.length=ks.length:=by rw [<- it.perm.length_eq,Sa]
 refine R8 ⟨Vs PySem.F.plain_extend_loop _,codeAny_extend_loopS W.toS (by rw [hvl];exact fits_of_scanBound hkb) _ JW _ vals.length 0 _ _ _ rfl (SX _)
  (W.frame 0 _ _ it.start λb' hb' o e=>Oz b' o (λh=>JW (h▸hb')) e) JV (ItemsOf.nil _) λs' acc' c' hm hS' hacc=>?_⟩
 show wpAny _ A (load s.heap.objs.size >>= _) _ _ s'
 refine R7 (wpAny_load hS' ?_)
 have mE:acc'.toList=vals:=by
  apply List.ext_getElem?
  intro j
  rcases VI j vals.length with hj | hj
  ·have hj':j<acc'.size:=by rw [hacc.1];exact hj
   have:=hacc.2 j acc'[j] (by simp [hj'])
   rw [this];simp [hj']
  ·rw [TA hj,TA (by rw [TY,hacc.1];exact hj)]
 refine R8 ?_
 show Q acc'.toList s'
 rw [mE]
 refine hQ s' vals ⟨λb' o e=>?_,hm.gens.trans it.gens,hm.os.trans it.os⟩ it.perm it.M8
 have hb':b'<s.heap.objs.size:=SY e
 have Fd:b'≠I:=λh=>by
  subst h
  have:=it.new
  rw [Sg _ e] at this;cases this
 exact hm.heap b' o (by simp only [Sh,S9,or_false,not_or];exact ⟨TP hb',Fd⟩) (Oz b' o (TP hb') (it.keep _ _ (Sg _ e)))
end
section
variable {a b T:Addr} {k:Str}
noncomputable def b9 (xs:List Str):List Str:=xs.foldl ig []
theorem tu (xs:List Str) (i:Nat) (h:i<xs.length):b9 (xs.take (i+1))=ig (b9 (xs.take i)) xs[i]:=by
 unfold b9
 rw [Tz,Sv h,Ub,U9]
 rfl
theorem jt (xs:List Str):(b9 xs).length<=xs.length:=by
 have:∀ (xs acc:List Str),(xs.foldl ig acc).length<=acc.length+xs.length:=by
  intro xs
  induction xs with
  | nil=>intro acc;simp
  | cons x xs ih =>
   intro acc
   rw [Vk]
   have h1:=ih (ig acc x)
   have h2:=zR acc x
   simp only [S_]
   exact Mn h1 h2
 simpa [b9] using this xs []
theorem dZ.fresh {h:Heap} (ho:h.get? b=some {cls:=.type "set",dict:=none,data:=.set #[] 0 (.fresh 0 0 (!bY G)),slots:=#[]}):dZ G h b [] :=
 ⟨_,#[],0,_,ho,⟨rfl,rfl,rfl⟩,rfl,λe he=>by simp at he,.refl _,List.nodup_nil,by decide,by rfl,rfl,.inl rfl⟩
theorem rX {Wk:Nat->Heap->Prop} {xs:List Str} (hx:StrsAre vs xs) (Wl:Walks G.prog G.w A.in1 I fp [I] vs.length (λi v=>vs[i]? = some v) Wk) (hb:b∉fp) (hIf:I∈fp)
  (hn:xs.length+1<scanBound):∀ (m i:Nat) (s:Shared),vs.length - i=m->i<=vs.length->Wk i s.heap->dZ G s.heap b (b9 (xs.take i)) ->
   (∀ s',(∀ c o,c≠b->c≠I->s.heap.get? c=some o->s'.heap.get? c=some o)->s'.gens=s.gens->s'.os=s.os->dZ G s'.heap b (b9 xs)->R (.ok (.ret .none)) s') ->
   codeAny G.M A (.builtin "set.update.loop" ⟨[.ref b,.ref I],[]⟩) R s:=by
 have Fd:b≠I:=λh=>hb (h▸hIf)
 have hlen:vs.length=xs.length:=hx.length
 intro m
 induction m with
 | zero =>
  intro i s hm hi hst hS hR
  have hin:i=vs.length:=by exact Ml hlen hm hi
  subst hin
  refine UY Xi ?_
  rw [T_ VY _]
  show wpAny _ A.in1 (pyNext (.ref I) >>= _) _ _ s
  refine R7 (Wl.done s _ _ hst λh' tk hk=>?_)
  refine R8 (hR _ (λc o z! hc e=>hk c o (by simpa using hc) e) rfl rfl ?_)
  rw [hlen,Xa] at hS
  exact hS.keeps λo e=>hk b o (by simpa using Fd) e
 | succ m ih =>
  intro i s hm hi hst hS hR
  have hlt:i<vs.length:=by exact Mj hlen hm hi
  refine UY Xi ?_
  rw [T_ VY _]
  show wpAny _ A.in1 (pyNext (.ref I) >>= _) _ _ s
  refine R7 (Wl.item i s _ _ hlt hst λv h' tk hv vR hk=>?_)
  have hlt':i<xs.length:=by exact Sd hlt (So hlen)
  obtain ⟨t,rfl⟩:∃ t,v = .str xs[i] t:=by
   refine ob1_1 (hx.at (j:=i) (y:=xs[i]) (by simp [hlt'])) λt ht=>?_
   rw [hv] at ht;cases ht
   exact ⟨t,rfl⟩
  have hS':dZ G h' b (b9 (xs.take i)):=hS.keeps λo e=>hk b o (by simpa using Fd) e
  show wpAny _ A.in1 (holding [XX xs[i] t] (setAdd b (.str xs[i] t)) >>= _) _ _ _
  refine R7 (Sj (u6 (s:={s with heap:=h',toks:=tk}) hS' (by
    have:=jt (xs.take i)
    have:(xs.take i).length<=xs.length:=by (simp [Wc];exact V_ _ _)
    exact Mh hn (by assumption) this) λbb h₂ tk₂ A1 um=>?_))
  refine R8 ⟨Vs VY _,ih (i+1) _ (by exact Mg hlen hm hi hlt) hlt (Wl.frame _ h' _ vR λc hc o e=>?_) ?_ λs' h1 h2 h3 h4=>?_⟩
  ·rw [A1.2 c (λh=>hb (h▸hc))];exact e
  ·rw [tu xs i hlt'];exact um
  ·refine hR s' (λc o hc1 hc2 e=>h1 c o hc1 hc2 ?_) h2 h3 h4
   show h₂.get? c=some o
   rw [A1.2 c hc1]
   exact hk c o (by simpa using hc2) e
theorem qU (v:Value) {Q₁:Value->Shared->Prop}
  (h:Q₁ (.ref s.heap.objs.size) {s with heap:=s.heap.push {cls:=.type "set",dict:=none,data:=.set #[] 0 (.fresh 0 0 (!bY G)),slots:=#[]}}) :
  codeAny G.M A (.call (.builtin "set.__new__") ⟨[.type "set",v],[]⟩) (wants Q₁ E) s:=by
 refine WS ?_
 show wpAny _ A.in1 (do checkBuiltinCall "set.__new__" ⟨[.type "set",v],[]⟩;again (.builtin "set.__new__" ⟨[.type "set",v],[]⟩)) _ _ s
 refine R7 (Tw (PySem.F.newCall_set_1 v) (R8 ⟨Vs PySem.F.plain_set_new _,UY PySem.F.entry_set_new ?_⟩))
 rw [T_ PySem.F.plain_set_new _]
 unfold Builtin.«set.__new__» Builtin.Frozenset.newClass
 have hsub:=sub_set_self
 obtain ⟨hp,g,d,tk,os⟩:=s
 dsimp only
 wp_walk
 refine wpAny_askSetting (R8 ?_)
 dsimp only
 simp only [newObj]
 refine R7 (wpAny_alloc (R8 ?_))
 exact R8 h
set_option maxHeartbeats 3200000 in
theorem u7 {l:Addr} {xs:List Str} (hh:A.handled=none) (hl:z8 s.heap l vs) (hx:StrsAre vs xs) (hn:xs.length+1<scanBound)
  (h:∀ s',Old s s'->dZ G s'.heap s.heap.objs.size (b9 xs)->Q (.ref s.heap.objs.size) s'):wpAny G.M A (call (.type "set") [.ref l]) Q E s:=by
 refine ob2_1 Vn.mro λc tl A2=>?_
 have hmade:=Vn.made
 have hsub:=Vn.sub
 refine UA (WS ?_)
 show wpAny _ _ (callAny (.type "set") _) _ _ _
 refine R8 ⟨Code.quiet_builtin _ (by decide +kernel),UY PySem.F.entry_type_call ?_⟩
 rw [Around.under_plain (weight_type_call_type "set" [.ref l] []) rfl]
 have h1:=Vn.notType
 have h2:=Vn.canCreate
 have hct:=PySem.F.typeCall_set_1 (.ref l)
 repeat (any_goals (first | assumption | wp_step))
 refine V2 (qU (.ref l) (E:=E) (Q₁:=λobj s₁=>obj = .ref s.heap.objs.size/\s₁={s with heap:=s.heap.push {cls:=.type "set",dict:=none,data:=.set #[] 0 (.fresh 0 0 (!bY G)),slots:=#[]}}) ⟨rfl,rfl⟩) λr s₁ hr=>?_
 match r,hr with
 | .error e,hr=>exact hr
 | .ok .next,hr=>exact hr.elim
 | .ok .brk,hr=>exact hr.elim
 | .ok .cont,hr=>exact hr.elim
 | .ok (.ret obj),hr =>
  refine ob0_2 hr λbM aB=>?_;obtain rfl:=bM;obtain rfl:=aB
  have hS:(s.heap.push {cls:=.type "set",dict:=none,data:=.set #[] 0 (.fresh 0 0 (!bY G)),slots:=#[]}).get? s.heap.objs.size=some {cls:=.type "set",dict:=none,data:=.set #[] 0 (.fresh 0 0 (!bY G)),slots:=#[]}:=Sn _ rfl
  have hT:Shared.TypeIs {s with heap:=s.heap.push {cls:=.type "set",dict:=none,data:=.set #[] 0 (.fresh 0 0 (!bY G)),slots:=#[]}} (.ref s.heap.objs.size) "set":=⟨_,hS,rfl⟩
  have hli:=Vn.init.lookup
  have hbi:=Vn.init.bind (.ref s.heap.objs.size)
  repeat (any_goals (first | assumption | wp_step))
  refine V2 (T5 (R:=wants (λr s₂=>r = .none/\Old s s₂/\dZ G s₂.heap s.heap.objs.size (b9 xs)) E) Vn.init.plain PySem.F.entry_set_init (check_set_init_1 hT ?_)) λr₂ s₂ lC=>?_
  ·refine ob1_1 hl λnl mC=>?_
   have Nj:(s.heap.push {cls:=.type "set",dict:=none,data:=.set #[] 0 (.fresh 0 0 (!bY G)),slots:=#[]}).get? l=some {cls:=.type "list",dict:=none,data:=.seq vs.toArray nl,slots:=#[]}:=Sg _ mC
   have Qu:=PySem.F.sub_list_set
   have Qv:=PySem.F.sub_list_frozenset
   have hne:(U5 "list" == U5 "dict")=false:=by decide
   have hl1:(s.heap.push {cls:=.type "set",dict:=none,data:=.set #[] 0 (.fresh 0 0 (!bY G)),slots:=#[]}).IsList l vs.toArray:=⟨_,Nj,rfl,nl,rfl⟩
   unfold Builtin.«set.__init__» noKeywords Builtin.Frozenset.updateFrom
   generalize Rg:pyIter=PI
   wp_walk
   subst Rg
   refine wpAny_pyIter_list hl1 ?_
   refine R7 (wpAny_runValue ?_)
   have hlS:l<s.heap.objs.size:=SY mC
   have hsz:(s.heap.push {cls:=.type "set",dict:=none,data:=.set #[] 0 (.fresh 0 0 (!bY G)),slots:=#[]}).objs.size=s.heap.objs.size+1:=Tu ..
   have QM:A.in1.in1.in1.handled=none:=by simp [hh]
   have Q4:s.heap.objs.size∉[s.heap.objs.size+1,l]:=by
    intro hm
    rcases Sh.mp hm with e | hm
    ·exact TP (UG _) e
    ·exact Vi hlS (Sm.mp hm)
   rw [hsz]
   refine rX hx (by simpa using Walks.list QM (s.heap.objs.size+1) l (TP (Td hlS)) vs.toArray) Q4 (by simp) hn (vs.length - 0) 0 _ (by exact Ie) (SX _) ?_ ?_ λs' k1 k2 k3 k4=>?_
   ·exact ⟨⟨_,by rw [<- hsz];exact Sn _ rfl,rfl,rfl⟩,hl1.push _⟩
   ·exact dZ.fresh (Sg _ hS)
   ·show wpAny _ _ (pure ()) _ _ s'
    refine R8 ?_
    show wpAny _ _ (ret VT) _ _ s'
    refine R8 ⟨rfl,⟨λc o e=>?_,k2,k3⟩,k4⟩
    have hc:c<s.heap.objs.size:=SY e
    exact k1 c o (TP hc) (TP (Td hc)) (Sg _ (Sg _ e))
  ·match r₂,lC with
   | .error e,lC=>exact lC
   | .ok .next,hr=>exact hr.elim
   | .ok .brk,hr=>exact hr.elim
   | .ok .cont,hr=>exact hr.elim
   | .ok (.ret r),lC =>
    refine ob0_3 lC λbM ho hX=>?_;obtain rfl:=bM
    repeat (any_goals (first | assumption | wp_step))
    exact h _ ho hX
end
noncomputable def wB (x:Keyed):Prop:=∃ y t,x.1 = .str y t
structure SJ (a₀:Array Keyed) (p₀:Array (Nat×Nat×Nat)) (st:SortSt):Prop where
 perm:(arrOf st).Perm a₀
 kind:kindOf st=oneType'
 failed:failedOf st=none
 pend:pendingOf st=p₀
 keys:∀ p∈a₀.toList,wB p
theorem SJ.size (h:SJ a₀ p₀ st):(arrOf st).size=a₀.size:=h.perm.size_eq
theorem SJ.setArr (h:SJ a₀ p₀ st) {xs:Array Keyed} (hp:xs.Perm (arrOf st)):SJ a₀ p₀ (setArr st xs):=⟨hp.trans h.perm,h.kind,h.failed,h.pend,h.keys⟩
theorem SJ.at (h:SJ a₀ p₀ st) (hi:i<a₀.size):∃ x,(arrOf st)[i]? = some x/\wB x:=by
 have hi':i<(arrOf st).size:=by rw [h.size];exact hi
 have hm:(arrOf st)[i]∈a₀.toList:=(W7.mp h.perm).mem_iff.mp (by simp)
 exact ⟨_,getElem?_pos _ i hi',h.keys _ hm⟩
theorem j3 {x y:Keyed} {Q:Option Bool->SortSt->Prop} (hk:kindOf st=oneType') (hx:wB x) (hy:wB y) (h:∀ b,Q (some b) st):wpS (model prog w) A E s (lt' x y) Q st:=by
 refine ob2_1 hx λa t e1=>?_
 refine ob2_1 hy λb u e2=>?_
 rw [lt'_eq]
 refine SO (wpS_get ?_)
 rw [hk,keyLt'_oneType,e1,e2]
 refine SO (wpS_lift (UX (oneLt_str ⟨rfl,?_⟩)))
 exact Su (h _)
theorem iz {Q:Option Bool->SortSt->Prop} (h:SJ a₀ p₀ st) (hi:i<a₀.size) (hj:j<a₀.size) (hq:∀ b,Q (some b) st):wpS (model prog w) A E s (ltAt' i j) Q st:=by
 refine ob1_2 (h.at hi) λx e1 hx=>?_
 refine ob1_2 (h.at hj) λy e2 hy=>?_
 rw [ltAt'_eq]
 refine SO (wpS_get ?_)
 show wpS _ _ _ _ (do let x<-elem' (arrOf st) i;let y<-elem' (arrOf st) j;lt' x y) Q st
 rw [elem'_eq,elem'_eq,e1,e2]
 exact SO (Su (SO (Su (j3 h.kind hx hy hq))))
theorem d_ {Q:Unit->SortSt->Prop} (h:SJ a₀ p₀ st) (hq:∀ st',SJ a₀ p₀ st'->Q () st'):wpS (model prog w) A E s (reverseSlice' i j) Q st:=by
 rw [reverseSlice'_eq]
 exact Wx (hq _ (h.setArr (mirror_perm ..)))
theorem Ai {Q:Unit->SortSt->Prop} (h:SJ a₀ p₀ st) (hq:∀ st',SJ a₀ p₀ st'->Q () st'):wpS (model prog w) A E s (moveDown' i j) Q st:=by
 rw [moveDown'_eq]
 exact Wx (hq _ (h.setArr (bubble_perm ..)))
theorem C9 {lo nrem:Nat} {Q:Option Nat->SortSt->Prop} (h:SJ a₀ p₀ st) (h1:1<=nrem) (hb:lo+nrem<=a₀.size) (hq:∀ m st',1<=m->m<=nrem->SJ a₀ p₀ st'->Q (some m) st') :
  wpS (model prog w) A E s (countRun' lo nrem) Q st:=by
 rw [countRun'_eq]
 have asc:∀ (n:Nat) (st:SortSt) (R:Option (Option Nat)×Nat->SortSt->Prop),SJ a₀ p₀ st->1<=n->n<=nrem->(∀ m st',n<=m->m<=nrem->SJ a₀ p₀ st'->R (none,m) st') ->
   wpS (model prog w) A E s (forIn [n:nrem] ((none,n):Option (Option Nat)×Nat) λz! r=>do
    let x<-ltAt' (lo+r.2) (lo+r.2 - 1)
    match x with
    | some smaller=>if smaller=true then pure (XO (none,r.2)) else pure (VB (none,r.2+1))
    | _=>pure (XO (some none,r.2))) R st:=by
  intro n st R hs h1 h2 hR
  refine Wu (I:=λx c st'=>c=(none,x)/\SJ a₀ p₀ st') (λx c st' DN sQ hI=>?_) (λc st' hI=>?_) ⟨rfl,hs⟩
  ·refine ob0_2 hI λbM hs'=>?_;obtain rfl:=bM
   refine SO (iz hs' (by dsimp only;exact wM hb sQ) (by dsimp only;exact CY hb h1 DN sQ) λb=>?_)
   cases b with
   | true=>exact Su (hR x st' DN (by exact S1 sQ) hs')
   | false=>exact Su ⟨rfl,hs'⟩
  ·refine ob0_2 hI λbM hs'=>?_;obtain rfl:=bM
   exact hR _ st' (by exact Nat.le_max_left _ _) (by exact So (Wb h2)) hs'
 have desc:∀ (n:Nat) (st:SortSt) (R:Option (Option Nat)×Nat×Nat->SortSt->Prop),SJ a₀ p₀ st->1<=n->n<=nrem->(∀ m q st',n<=m->m<=nrem->SJ a₀ p₀ st'->R (none,m,q) st') ->
   wpS (model prog w) A E s (forIn [n:nrem] ((none,n,0):Option (Option Nat)×Nat×Nat) λz! r=>do
    let x<-ltAt' (lo+r.2.1) (lo+r.2.1 - 1)
    match x with
    | some smaller =>
     if smaller=true then
      if r.2.2 > 0 then do
       reverseSlice' (lo+r.2.1 - (r.2.2+1)) (lo+r.2.1)
       pure (VB (none,r.2.1+1,0))
      else pure (VB (none,r.2.1+1,0))
     else do
      let x<-ltAt' (lo+r.2.1 - 1) (lo+r.2.1)
      match x with
      | some DF=>if DF=true then pure (XO (none,r.2.1,r.2.2)) else pure (VB (none,r.2.1+1,r.2.2+1))
      | _=>pure (XO (some none,r.2.1,r.2.2))
    | _=>pure (XO (some none,r.2.1,r.2.2))) R st:=by
  intro n st R hs h1 h2 hR
  refine Wu (I:=λx c st'=>(∃ q,c=(none,x,q))/\SJ a₀ p₀ st') (λx c st' DN sQ hI=>?_) (λc st' hI=>?_) ⟨⟨0,rfl⟩,hs⟩
  ·refine ob0_2 hI λbM hs'=>?_;refine ob1_1 bM λq aB=>?_;obtain rfl:=aB
   refine SO (iz hs' (by dsimp only;exact wM hb sQ) (by dsimp only;exact CY hb h1 DN sQ) λb=>?_)
   cases b with
   | true =>
    dsimp only
    rw [if_pos rfl]
    split
    ·exact SO (d_ hs' λfK hs₂=>Su ⟨⟨0,rfl⟩,hs₂⟩)
    ·exact Su ⟨⟨0,rfl⟩,hs'⟩
   | false =>
    dsimp only
    rw [if_neg (by decide)]
    refine SO (iz hs' (by exact CY hb h1 DN sQ) (by exact wM hb sQ) λb=>?_)
    cases b with
    | true=>exact Su (hR x q st' DN (by exact S1 sQ) hs')
    | false=>exact Su ⟨⟨q+1,rfl⟩,hs'⟩
  ·refine ob0_2 hI λbM hs'=>?_;refine ob1_1 bM λq aB=>?_;obtain rfl:=aB
   exact hR _ q st' (by exact Nat.le_max_left _ _) (by exact So (Wb h2)) hs'
 refine SO (asc 1 st _ h (Si _) h1 λm kO hm1 hm2 hs₁=>?_)
 dsimp only
 by_cases e:(m == nrem)=true
 ·rw [if_pos e]
  exact Su (hq m kO hm1 hm2 hs₁)
 rw [if_neg e]
 have hlt:m+1<=nrem:=by
  exact Tf hm2 λq=>e (by rw [q];exact beq_self_eq_true _)
 split
 ·refine SO (iz hs₁ (by exact L5 h1 hb) (Sd (Ww (Sd hm1 (Sf _ _)) VL) (R9 (TZ hm2 _) hb)) λb=>?_)
  cases b with
  | true=>exact Su (hq m kO hm1 hm2 hs₁)
  | false =>
   refine SO (d_ hs₁ λfK hs₂=>?_)
   refine SO (wpS_lift (U7 ⟨rfl,?_⟩))
   refine SO (desc (m+1) _ _ hs₂ (by exact Sf _ _) hlt λm' q mZ h3 h4 iO=>?_)
   dsimp only
   split
   ·refine SO (d_ iO λIG lB=>SO (d_ lB λkN lA=>SO (asc m' kN _ lA (by exact R9 (Sf _ _) h3) h4 λm2 kM h5 h6 ly=>?_)))
    exact Su (hq m2 kM (by exact Fq (by assumption) h3 h5) h6 ly)
   ·refine SO (d_ iO λkN lA=>SO (asc m' kN _ lA (by exact R9 (Sf _ _) h3) h4 λm2 kM h5 h6 ly=>?_))
    exact Su (hq m2 kM (by exact Fq (by assumption) h3 h5) h6 ly)
 ·refine SO (wpS_lift (U7 ⟨rfl,?_⟩))
  refine SO (desc (m+1) _ _ hs₁ (by exact Sf _ _) hlt λm' q mZ h3 h4 iO=>?_)
  dsimp only
  split
  ·refine SO (d_ iO λIG lB=>SO (d_ lB λkN lA=>SO (asc m' kN _ lA (by exact R9 hm1 (Sl h3)) h4 λm2 kM h5 h6 ly=>?_)))
   exact Su (hq m2 kM (by exact Fp hm1 (by assumption) h3 h5) h6 ly)
  ·refine SO (d_ iO λkN lA=>SO (asc m' kN _ lA (by exact R9 hm1 (Sl h3)) h4 λm2 kM h5 h6 ly=>?_))
   exact Su (hq m2 kM (by exact Fp hm1 (by assumption) h3 h5) h6 ly)
theorem C_ {lo ok:Nat} {Q:Bool->SortSt->Prop} (h:SJ a₀ p₀ st) (hb:lo+n<=a₀.size) (hq:∀ st',SJ a₀ p₀ st'->Q true st'):wpS (model prog w) A E s (binarySort' lo n ok) Q st:=by
 rw [binarySort'_eq]
 refine SO (Wu (I:=λx c st'=>c=(none,())/\SJ a₀ p₀ st') (λx c st' DN sQ hI=>?_) (λc st' hI=>?_) ⟨rfl,h⟩)
 ·refine ob0_2 hI λbM hs'=>?_;obtain rfl:=bM
  dsimp only
  refine SO (wpS_mono (Wu (I:=λy c st''=>(∃ l r,c=(none,l,r)/\l<=x/\r<=x)/\SJ a₀ p₀ st'') (Q:=λc st''=>(∃ l r,c=(none,l,r)/\l<=x/\r<=x)/\SJ a₀ p₀ st'') (λy c st'' hy1 RY hI=>?_) (λc st'' hI=>?_) ⟨⟨0,x,rfl,SX _,Si _⟩,hs'⟩) ?_)
  ·refine ob0_2 hI λbM qE=>?_;refine ob2_3 bM λl r az h1 h2=>?_;obtain rfl:=az
   dsimp only
   split
   ·exact Su ⟨⟨l,r,rfl,h1,h2⟩,qE⟩
   ·refine SO (iz qE (by exact wM hb sQ) (by exact Lz hb sQ h1 h2) λb=>?_)
    cases b with
    | true=>exact Su ⟨⟨l,(l+r) / 2,rfl,h1,by exact Lu h1 h2⟩,qE⟩
    | false=>exact Su ⟨⟨(l+r) / 2+1,r,rfl,by exact Lr h1 h2 (by assumption),h2⟩,qE⟩
  ·refine ob0_2 hI λbM qE=>?_;refine ob2_3 bM λl r az h1 h2=>?_;obtain rfl:=az
   exact ⟨⟨l,r,rfl,h1,h2⟩,qE⟩
  ·rintro c st'' ⟨⟨l,r,rfl,h1,h2⟩,qE⟩
   exact SO (Ai qE λmZ iO=>Su ⟨rfl,iO⟩)
 ·refine ob0_2 hI λbM hs'=>?_;obtain rfl:=bM
  exact Su (hq _ hs')
noncomputable def ur:Bool->Keyed->Array Keyed->Nat->Nat->Nat->StateT SortSt Sem (Option Nat):=sortPriv% PySem.Builtin.gallop
noncomputable def yr:Array Keyed->Array Keyed->StateT SortSt Sem (Array Keyed):=sortPriv% PySem.Builtin.mergeLo
noncomputable def yt:Array Keyed->Array Keyed->StateT SortSt Sem (Array Keyed):=sortPriv% PySem.Builtin.mergeHi
noncomputable def gJ (xs:Array Keyed):Prop:=∀ i,(h:i<xs.size)->wB xs[i]
theorem iA {xs:Array Keyed} {Q:Keyed->SortSt->Prop} (h:i<xs.size) (hq:Q xs[i] st):wpS (model prog w) A E s (elem' xs i) Q st:=by
 rw [elem'_eq,getElem?_pos xs i h]
 exact Su hq
theorem ao {c:Prop} [Decidable c] {t e:StateT SortSt Sem α} {Q:α->SortSt->Prop} (h1:c->wpS (model prog w) A E s t Q st) (h2:¬ c->wpS (model prog w) A E s e Q st) :
  wpS (model prog w) A E s (if c then t else e) Q st:=by
 split
 ·rename_i h;exact h1 h
 ·rename_i h;exact h2 h
theorem jg {left:Bool} {key:Keyed} {arr:Array Keyed} {base hint:Nat} {Q:Option Nat->SortSt->Prop} (hk:kindOf st=oneType') (h1:wB key) (h2:gJ arr) (hb:base+n<=arr.size) (hh:hint<n)
  (hq:∀ k,k<=n->Q (some k) st):wpS (model prog w) A E s (ur left key arr base n hint) Q st:=by
 have beyond:∀ (i:Nat) (R:Option Bool->SortSt->Prop),i<n->(∀ b,R (some b) st)->wpS (model prog w) A E s (do
   let x<-elem' arr (base+i)
   if left=true then lt' x key else do let __do_lift<-lt' key x;pure (__do_lift.map (!·))) R st:=by
  intro i R hi hR
  have hlt:base+i<arr.size:=by exact wM hb hi
  refine SO (iA hlt ?_)
  cases left with
  | true=>exact j3 hk (h2 _ hlt) h1 hR
  | false=>exact SO (j3 hk h1 (h2 _ hlt) λb=>Su (hR _))
 refine SO (beyond hint _ hh λb=>ao (λz! => ?_) λz! => ?_)
 ·refine SO (wpS_mono (Wu (I:=λx c st'=>c.1=none/\st'=st) (Q:=λc st'=>c.1=none/\st'=st) (λx c st' z! z! hI=>?_) (λc st' hI=>hI) ⟨rfl,rfl⟩) ?_)
  ·refine ob0_2 hI λhn aB=>?_;obtain rfl:=aB
   refine ao (λz! => Su ⟨rfl,rfl⟩) λhlt=>?_
   refine SO (beyond (hint+c.2.2) _ (by exact Mm hh hlt) λb=>?_)
   exact ao (λz! => Su ⟨rfl,rfl⟩) λz! => Su ⟨rfl,rfl⟩
  ·rintro ⟨o,c⟩ st' ⟨hc,rfl⟩
   have hc:o=none:=hc
   subst hc
   refine SO (wpS_mono (Wu (I:=λx c st''=>(c.1=none/\c.2.2<=n)/\st''=st') (Q:=λc st''=>(c.1=none/\c.2.2<=n)/\st''=st') (λx c st'' z! z! hI=>?_) (λc st'' hI=>hI) ⟨⟨rfl,by exact Mk hh⟩,rfl⟩) ?_)
   ·refine ob0_2 hI λbM aB=>?_;refine ob0_2 bM λhn hn2=>?_;obtain rfl:=aB
    refine ao (λz! => Su ⟨⟨rfl,hn2⟩,rfl⟩) λhlt=>?_
    refine SO (beyond (c.2.1+(c.2.2 - c.2.1) / 2) _ (by exact Fv hn2 hlt) λb=>?_)
    exact ao (λz! => Su ⟨⟨rfl,hn2⟩,rfl⟩) λz! => Su ⟨⟨rfl,by exact Ft hn2 hlt⟩,rfl⟩
   ·rintro ⟨o,c⟩ st'' ⟨⟨hc,hn2⟩,rfl⟩
    have hc:o=none:=hc
    subst hc
    exact Su (hq _ hn2)
 ·refine SO (wpS_mono (Wu (I:=λx c st'=>c.1=none/\st'=st) (Q:=λc st'=>c.1=none/\st'=st) (λx c st' z! z! hI=>?_) (λc st' hI=>hI) ⟨rfl,rfl⟩) ?_)
  ·refine ob0_2 hI λhn aB=>?_;obtain rfl:=aB
   refine ao (λz! => Su ⟨rfl,rfl⟩) λhlt=>?_
   refine SO (beyond (hint - c.2.2) _ (by exact TQ (Uu _ _) hh) λb=>?_)
   exact ao (λz! => Su ⟨rfl,rfl⟩) λz! => Su ⟨rfl,rfl⟩
  ·rintro ⟨o,c⟩ st' ⟨hc,rfl⟩
   have hc:o=none:=hc
   subst hc
   refine SO (wpS_mono (Wu (I:=λx c st''=>(c.1=none/\c.2.2<=n)/\st''=st') (Q:=λc st''=>(c.1=none/\c.2.2<=n)/\st''=st') (λx c st'' z! z! hI=>?_) (λc st'' hI=>hI) ⟨⟨rfl,by exact R9 (Uu _ _) (S1 hh)⟩,rfl⟩) ?_)
   ·refine ob0_2 hI λbM aB=>?_;refine ob0_2 bM λhn hn2=>?_;obtain rfl:=aB
    refine ao (λz! => Su ⟨⟨rfl,hn2⟩,rfl⟩) λhlt=>?_
    refine SO (beyond (c.2.1+(c.2.2 - c.2.1) / 2) _ (by exact Fv hn2 hlt) λb=>?_)
    exact ao (λz! => Su ⟨⟨rfl,hn2⟩,rfl⟩) λz! => Su ⟨⟨rfl,by exact Ft hn2 hlt⟩,rfl⟩
   ·rintro ⟨o,c⟩ st'' ⟨⟨hc,hn2⟩,rfl⟩
    have hc:o=none:=hc
    subst hc
    exact Su (hq _ hn2)
structure PM (x y out:Array Keyed) (ia ib:Nat):Prop where
 perm:out.toList.Perm (x.toList.take ia++y.toList.take ib)
 ha:ia<=x.size
 hb:ib<=y.size
namespace PM
variable {x y out:Array Keyed} {ia ib:Nat}
theorem qc (h:PM x y out ia ib) (hi:ib<y.size):PM x y (out.push y[ib]) ia (ib+1):=by
 refine ⟨?_,h.ha,hi⟩
 rw [Wt,Tz,UO,getElem?_pos y ib hi,Ub,<- SH]
 exact h.perm.append (.refl _)
theorem pushX (h:PM x y out ia ib) (hi:ia<x.size):PM x y (out.push x[ia]) (ia+1) ib:=by
 refine ⟨?_,hi,h.hb⟩
 rw [Wt,Tz,UO,getElem?_pos x ia hi,Ub]
 refine (h.perm.append (.refl _)).trans ?_
 rw [SH,SH]
 exact VG _ Ue
theorem zP (h:PM x y out ia ib) (hi:ia+k<=x.size):PM x y (out++x.extract ia (ia+k)) (ia+k) ib:=by
 refine ⟨?_,hi,h.hb⟩
 rw [UN,UU,U3,List.take_add]
 refine (h.perm.append (.refl _)).trans ?_
 rw [SH,SH,show ia+k - ia=k by exact UT _ _]
 exact VG _ Ue
theorem zO (h:PM x y out ia ib) (hi:ib+k<=y.size):PM x y (out++y.extract ib (ib+k)) ia (ib+k):=by
 refine ⟨?_,h.ha,hi⟩
 rw [UN,UU,U3,List.take_add,show ib+k - ib=k by exact UT _ _,<- SH]
 exact h.perm.append (.refl _)
theorem all (h:PM x y out x.size y.size):out.toList.Perm (x.toList++y.toList):=by
 have:=h.perm
 rwa [UB (by simp),UB (by simp)] at this
theorem done (h:PM x y out ia ib):(out++x.extract ia x.size++y.extract ib y.size).toList.Perm (x.toList++y.toList):=by
 have h1:=h.zP (k:=x.size - ia) (by have:=h.ha;exact So (Us this))
 rw [show ia+(x.size - ia)=x.size by have:=h.ha;exact Us this] at h1
 have h2:=h1.zO (k:=y.size - ib) (by have:=h.hb;exact So (Us this))
 rw [show ib+(y.size - ib)=y.size by have:=h.hb;exact Us this] at h2
 exact h2.all
theorem last (h:PM x y out ia ib):(out++y.extract ib y.size++x.extract ia x.size).toList.Perm (x.toList++y.toList):=by
 have h1:=h.zO (k:=y.size - ib) (by have:=h.hb;exact So (Us this))
 rw [show ib+(y.size - ib)=y.size by have:=h.hb;exact Us this] at h1
 have h2:=h1.zP (k:=x.size - ia) (by have:=h.ha;exact So (Us this))
 rw [show ia+(x.size - ia)=x.size by have:=h.ha;exact Us this] at h2
 exact h2.all
theorem nil (hy:1<=y.size):PM x y #[y[0]] 0 1:=by
 refine ⟨?_,SX _,hy⟩
 have:y.toList.take 1=[y[0]]:=by
  rw [Tz,List.take_zero,UO,getElem?_pos y 0 hy];rfl
 rw [this]
 exact .refl _
end PM
structure SM (a₀:Array Keyed) (p₀:Array (Nat×Nat×Nat)) (st st':SortSt):Prop where
 sj:SJ a₀ p₀ st'
 arr:arrOf st'=arrOf st
theorem SM.K9 (h:SM a₀ p₀ st st') (g:Nat):SM a₀ p₀ st (SortSt.mk' (kindOf st') (arrOf st') (pendingOf st') g (failedOf st')) :=
 ⟨⟨h.sj.perm,h.sj.kind,h.sj.failed,h.sj.pend,h.sj.keys⟩,h.arr⟩
theorem use_jp {P C:Prop} (h:P) (k:P->C):C:=k h
theorem dB {xs:Array Keyed} {k:Keyed->StateT SortSt Sem β} {Q:β->SortSt->Prop} (h:i<xs.size) (hq:wpS (model prog w) A E s (k xs[i]) Q st):wpS (model prog w) A E s (elem' xs i >>= k) Q st :=
 SO (iA h hq)
theorem CR {r:String} {xs:Array Keyed} {c1 c2:Prop} [Decidable c1] [Decidable c2] {a1 a2:Keyed->StateT SortSt Sem β} {k:Keyed->SortSt->StateT SortSt Sem β} {Q:β->SortSt->Prop} (h:i<xs.size)
  (h1:c1->wpS (model prog w) A E s (a1 xs[i]) Q st) (h2:c2->wpS (model prog w) A E s (a2 xs[i]) Q st) (h3:¬ c1->¬ c2->wpS (model prog w) A E s (k xs[i] st) Q st) :
  wpS (model prog w) A E s ((liftM (rule r):StateT SortSt Sem Unit) >>= λz! => elem' xs i >>= λe=>if c1 then a1 e else if c2 then a2 e else get >>= k e) Q st :=
 SO (wpS_lift (U7 ⟨rfl,dB h (ao h1 λn1=>ao h2 λn2=>SO (wpS_get (h3 n1 n2)))⟩))
theorem b_lt {xs ys:Array Keyed} {k:Keyed->Keyed->Option Bool->StateT SortSt Sem β} {Q:β->SortSt->Prop} (hk:kindOf st=oneType') (h1:i<xs.size) (h2:j<ys.size) (hx:gJ xs) (hy:gJ ys)
  (hq:∀ b,wpS (model prog w) A E s (k xs[i] ys[j] (some b)) Q st):wpS (model prog w) A E s (elem' xs i >>= λp=>elem' ys j >>= λq=>lt' p q >>= k p q) Q st :=
 dB h1 (dB h2 (SO (j3 hk (hx _ _) (hy _ _) hq)))
theorem uM {l:Bool} {xs ys:Array Keyed} {base:Nat} {k:Keyed->Option Nat->StateT SortSt Sem β} {Q:β->SortSt->Prop} (hk:kindOf st=oneType') (h1:i<xs.size) (hx:gJ xs) (hy:gJ ys) (hb:base+n<=ys.size) (hint:Nat) (hh:hint<n)
  (hq:∀ m,m<=n->wpS (model prog w) A E s (k xs[i] (some m)) Q st):wpS (model prog w) A E s (elem' xs i >>= λp=>ur l p ys base n hint >>= k p) Q st :=
 dB h1 (SO (jg hk (hx _ _) hy hb hh hq))
noncomputable abbrev LQ {γ:Type} (I:Nat->β->SortSt->Prop) (R1:γ->SortSt->Prop) (R2:β->SortSt->Prop) (j:Nat):ForInStep (Option γ×β)->SortSt->Prop
 | .yield (none,c),st=>I (j+1) c st
 | .yield (some _,_),_=>False
 | .done (some r,_),st=>R1 r st
 | .done (none,c),st=>R2 c st
theorem i8 {γ δ:Type} {f:Nat->Option γ×β->StateT SortSt Sem (ForInStep (Option γ×β))} {k:Option γ×β->StateT SortSt Sem δ} {Q:δ->SortSt->Prop} {c0:β} (I:Nat->β->SortSt->Prop) (R1:γ->SortSt->Prop) (R2:β->SortSt->Prop)
  (h0:I 0 c0 st) (step:∀ j c st',I j c.2 st'->wpS (model prog w) A E s (f j c) (LQ I R1 R2 j) st') (fin:∀ c st',I b c st'->R2 c st')
  (k1:∀ r c st',R1 r st'->wpS (model prog w) A E s (k (some r,c)) Q st') (k2:∀ c st',R2 c st'->wpS (model prog w) A E s (k (none,c)) Q st') :
  wpS (model prog w) A E s (forIn [0:b] (none,c0) f >>= k) Q st:=by
 refine SO (wpS_mono (Wu (I:=λj c st'=>c.1=none/\I j c.2 st') (Q:=λc st'=>(∃ r,c.1=some r/\R1 r st')\/(c.1=none/\R2 c.2 st')) (λj c st' z! z! h=>wpS_mono (step j c st' h.2) λr st'' h=>?_) (λc st' h=>.inr ⟨h.1,fin _ _ (Wb (SX b)▸h.2)⟩) ⟨rfl,h0⟩) ?_)
 ·rcases r with ⟨_ | r,c⟩ | ⟨_ | r,c⟩
  ·exact .inr ⟨rfl,h⟩
  ·exact .inl ⟨_,rfl,h⟩
  ·exact ⟨rfl,h⟩
  ·exact h.elim
 ·rintro ⟨_ | r,c⟩ st' h
  ·exact k2 _ _ (h.elim (λzz=>zz.elim λz! zz=>zz.elim λe z! => nomatch e) (·.2))
  ·exact k1 _ _ _ (h.elim (λzz=>zz.elim λz! zz=>zz.elim λe h=>(UC e).symm.subst (motive:=λr=>R1 r _) h) λh=>nomatch h.1)
structure LM (a₀:Array Keyed) (p₀:Array (Nat×Nat×Nat)) (st:SortSt) (x y:Array Keyed) (n:Nat) (out:Array Keyed) (ia ib:Nat) (st':SortSt):Prop where
 P:PM x y out ia ib
 ba:ia+1<x.size
 bb:ib<y.size
 hn:n<=ia+ib
 S:SM a₀ p₀ st st'
noncomputable abbrev LC {τ:Type} (a₀:Array Keyed) (p₀:Array (Nat×Nat×Nat)) (st:SortSt) (x y:Array Keyed) (n:Nat) (c:Array Keyed×Nat×Nat×τ) (st':SortSt):Prop:=LM a₀ p₀ st x y n c.1 c.2.1 c.2.2.1 st'
noncomputable abbrev LR (a₀:Array Keyed) (p₀:Array (Nat×Nat×Nat)) (st:SortSt) (x y r:Array Keyed) (st':SortSt):Prop:=SM a₀ p₀ st st'/\r.toList.Perm (x.toList++y.toList)
theorem bB (h:¬ (a == b)=true):a≠b:=λe=>h (beq_iff_eq.mpr e)
theorem rU {x y:Array Keyed} {Q:Array Keyed->SortSt->Prop} (hk:SJ a₀ p₀ st) (hx:gJ x) (hy:gJ y) (h1:1<=x.size) (h2:1<=y.size)
  (hq:∀ out st',SM a₀ p₀ st st'->out.toList.Perm (x.toList++y.toList)->Q out st'):wpS (model prog w) A E s (yr x y) Q st:=by
 have P0:PM x y #[y[0]] 0 1:=PM.nil h2
 have S0:SM a₀ p₀ st st:=⟨hk,rfl⟩
 refine CR h2 (λz! => Su (hq _ _ S0 P0.done)) (λz! => Su (hq _ _ S0 P0.last)) λe1 e2=>?_
 refine i8 (λj=>LC a₀ p₀ st x y (1+j)) (LR a₀ p₀ st x y) (λz! z! => False) (LM.mk P0 (Tf h1 (bB e2)) (Tf h2 (bB e1)) (Si 1) S0) (λj c st' L=>?_)
  (λc st' L=>absurd L.hn (by have:=L.ba;have:=L.bb;exact L8 (by assumption) this)) (λr c st' h=>Su (hq _ _ h.1 h.2)) λz! z! h=>h.elim
 refine i8 (λi=>LC a₀ p₀ st x y (1+j+i)) (LR a₀ p₀ st x y) (LC a₀ p₀ st x y (1+j+1)) L (λi c st' L=>?_)
  (λc st' L=>LM.mk L.P L.ba L.bb (R9 (TZ (WM h1) _) L.hn) L.S) (λr c st' h=>Su h) λc st' L=>?_
 ·refine b_lt L.S.sj.kind L.bb (UQ L.ba) hy hx λb=>?_
  refine ao (λz! => dB L.bb ?_) (λz! => dB (UQ L.ba) ?_)
  ·have P':=L.P.qc L.bb
   refine ao (λz! => Su ⟨L.S,P'.done⟩) λhne=>?_
   have hb':=Tf L.bb (bB hne)
   have hl:=TF L.hn
   exact ao (λz! => Su (LM.mk P' L.ba hb' (R9 (TF (Th ..)) hl) L.S)) λz! => Su (LM.mk P' L.ba hb' hl L.S)
  ·have P':=L.P.pushX (UQ L.ba)
   refine ao (λz! => Su ⟨L.S,P'.last⟩) λhne=>?_
   have ha':=Tf L.ba (bB hne)
   have hl:=R9 (TF L.hn) (So (Nat.succ_add ..).symm)
   exact ao (λz! => Su (LM.mk P' ha' L.bb (R9 (TF (Th ..)) hl) L.S)) λz! => Su (LM.mk P' ha' L.bb hl L.S)
 ·refine SO (wpS_lift (U7 ⟨rfl,?_⟩))
  refine i8 (λz! => LC a₀ p₀ st x y (1+j+1)) (LR a₀ p₀ st x y) (LC a₀ p₀ st x y (1+j+1)) L (λi c st' L=>?_)
   (λz! z! h=>h) (λr c st' h=>Su h) λc st' L=>SO (Wx (Su (LM.mk L.P L.ba L.bb L.hn (L.S.K9 _))))
  extract_lets s1 o1 s2 a1 s3 b1 s4 g1 s5 c1 d1 b2 DG g2
  refine use_jp (P:=∀ u mg,wpS (model prog w) A E s (DG u mg) _ st') (λu mg=>?_) λh1=>ao (λz! => h1 () _) (λz! => h1 () _)
  refine SO (Wx ?_)
  have S':=L.S.K9 mg
  have la:=UQ L.ba
  refine uM S'.sj.kind L.bb hy hx (So (Vw (S1 la))) _ (WX la) λk hk0=>?_
  dsimp -zeta only
  extract_lets ac KU o3 a3
  refine use_jp (P:=∀ u out ia,PM x y out ia b1->ia+1<x.size->1+j+1<=ia+b1->wpS (model prog w) A E s (KU u out ia) _ _) (λu out ia P1 La hn1=>?_) λh2=>ao (λz! => ?_) (λz! => h2 () _ _ L.P L.ba L.hn)
  ·refine dB L.bb ?_
   have P2:=P1.qc L.bb
   refine ao (λz! => Su ⟨S',P2.done⟩) (λhne=>?_)
   have EO:b1+1<y.size:=Tf L.bb (bB hne)
   refine uM S'.sj.kind (UQ La) hx hy (So (Vw (S1 EO))) _ (WX EO) λk1 hk1=>?_
   dsimp -zeta only
   extract_lets bc a5 M7 o4 b4
   refine use_jp (P:=∀ u out ib,PM x y out ia ib->ib<y.size->1+j+1<=ia+ib->wpS (model prog w) A E s (M7 u out ib) _ _) (λu out ib P3 N5 Nn=>?_) λh3=>ao (λz! => ?_) (λz! => h3 () _ _ P2 EO (SE hn1))
   ·refine dB (UQ La) ?_
    have P4:=P3.pushX (UQ La)
    refine ao (λz! => Su ⟨S',P4.last⟩) (λDU=>?_)
    have R:=LM.mk P4 (Tf La (bB DU)) N5 (R9 Nn (Um (Uj _) _)) S'
    exact ao (λz! => Su R) λz! => Su R
   ·have JE:b1+1+k1<=y.size:=R9 (TZ hk1 _) (So (Vw (S1 EO)))
    have P3:=P2.zO (k:=k1) JE
    exact ao (λz! => Su ⟨S',P3.done⟩) λNl=>h3 () _ _ P3 (Tf JE (bB Nl)) (R9 hn1 (TZ (R9 (Uj _) (Th ..)) _))
  ·have JF:a1+k<=x.size:=R9 (TZ hk0 _) (So (Vw (S1 la)))
   have P1:=L.P.zP (k:=k) JF
   refine ao (λz! => Su ⟨S',P1.last⟩) (λDV=>?_)
   refine ao (λz! => Su ⟨S',P1.done⟩) (λNm=>?_)
   exact h2 () _ _ P1 (Tf (Tf JF (bB Nm)) (bB DV)) (R9 L.hn (Um (Th ..) _))
structure PH (x y out:Array Keyed) (na nb:Nat):Prop where
 perm:out.toList.Perm (x.toList.drop na++y.toList.drop nb)
 ha:na<=x.size
 hb:nb<=y.size
namespace PH
variable {x y out:Array Keyed} {na nb:Nat}
theorem pushX (h:PH x y out na nb) (hn:1<=na) (hi:na - 1<x.size):PH x y (out.push x[na - 1]) (na - 1) nb:=by
 refine ⟨?_,by exact S1 hi,h.hb⟩
 have e:x.toList.drop (na - 1)=x[na - 1]::x.toList.drop na:=by
  have:=List.getElem_cons_drop (as:=x.toList) (i:=na - 1) (by simpa using hi)
  rw [<- this,show na - 1+1=na by exact Uq hn];simp
 rw [Wt,e]
 refine (Ue).trans ?_
 exact h.perm.cons _
theorem qc (h:PH x y out na nb) (hn:1<=nb) (hi:nb - 1<y.size):PH x y (out.push y[nb - 1]) na (nb - 1):=by
 refine ⟨?_,h.ha,by exact S1 hi⟩
 have e:y.toList.drop (nb - 1)=y[nb - 1]::y.toList.drop nb:=by
  have:=List.getElem_cons_drop (as:=y.toList) (i:=nb - 1) (by simpa using hi)
  rw [<- this,show nb - 1+1=nb by exact Uq hn];simp
 rw [Wt,e]
 refine (Ue).trans ?_
 refine (h.perm.cons _).trans ?_
 exact List.perm_middle.symm
theorem iY {l:List Keyed} (h:i<=j):l.drop i=(l.drop i).take (j - i)++l.drop j:=by
 have:=Ud (j - i) (l.drop i)
 rw [List.drop_drop,show i+(j - i)=j by exact Us h] at this
 exact this.symm
theorem zP (h:PH x y out na nb) (hi:k<=na):PH x y (out++(x.extract k na).reverse) k nb:=by
 refine ⟨?_,R9 hi h.ha,h.hb⟩
 have e:=iY (l:=x.toList) hi
 rw [UN,Array.toList_reverse,UU,U3]
 generalize (x.toList.drop k).take (na - k)=T at e ⊢
 rw [e]
 refine (Ue).trans ?_
 rw [SH]
 exact (List.reverse_perm _).append h.perm
theorem zO (h:PH x y out na nb) (hi:k<=nb):PH x y (out++(y.extract k nb).reverse) na k:=by
 refine ⟨?_,h.ha,R9 hi h.hb⟩
 have e:=iY (l:=y.toList) hi
 rw [UN,Array.toList_reverse,UU,U3]
 generalize (y.toList.drop k).take (nb - k)=T at e ⊢
 rw [e]
 refine (Ue).trans ?_
 refine ((List.reverse_perm _).append h.perm).trans ?_
 rw [<- SH,<- SH]
 exact XQ _ Ue
theorem done (h:PH x y out na nb):(x.extract 0 na++y.extract 0 nb++out.reverse).toList.Perm (x.toList++y.toList):=by
 simp only [UN,Array.toList_reverse,UU,U3,Vx,Nat.sub_zero]
 refine (VG _ ((List.reverse_perm _).trans h.perm)).trans ?_
 have e1:=Ud na x.toList
 have e2:=Ud nb y.toList
 conv=>rhs;rw [<- e1,<- e2]
 rw [SH,SH]
 refine VG _ ?_
 rw [<- SH,<- SH]
 exact XQ _ Ue
theorem first (h:PH x y out na nb):(y.extract 0 nb++x.extract 0 na++out.reverse).toList.Perm (x.toList++y.toList):=by
 refine List.Perm.trans ?_ h.done
 simp only [UN]
 exact XQ _ Ue
theorem nil (hx:1<=x.size):PH x y #[x[x.size - 1]'(Ww hx VL)] (x.size - 1) y.size:=by
 refine ⟨?_,Uu ..,Si _⟩
 rw [Xd (l:=x.toList) (i:=x.size - 1) (Ww hx VL),Uq hx,T3 (So x.length_toList),T3 (So y.length_toList)]
 exact .refl _
end PH
structure LH (a₀:Array Keyed) (p₀:Array (Nat×Nat×Nat)) (st:SortSt) (x y:Array Keyed) (n na nb:Nat) (out:Array Keyed) (st':SortSt):Prop where
 P:PH x y out na nb
 ba:1<=na
 bb:2<=nb
 hn:na+nb+n<=x.size+y.size
 S:SM a₀ p₀ st st'
noncomputable abbrev LD {τ:Type} (a₀:Array Keyed) (p₀:Array (Nat×Nat×Nat)) (st:SortSt) (x y:Array Keyed) (n:Nat) (c:Nat×Nat×Array Keyed×τ) (st':SortSt):Prop:=LH a₀ p₀ st x y n c.1 c.2.1 c.2.2.1 st'
theorem LH.la {x y out:Array Keyed} {na nb:Nat} (h:LH a₀ p₀ st x y n na nb out st'):na - 1<x.size:=Sd (Ww h.ba VL) h.P.ha
theorem LH.lb {x y out:Array Keyed} {na nb:Nat} (h:LH a₀ p₀ st x y n na nb out st'):nb - 1<y.size:=Sd (Ww (Sl h.bb) VL) h.P.hb
theorem Kg {m:Nat} (ha:1<=a) (h:a+b+n<=m):a - 1+b+(n+1)<=m:=by exact Mc ha h
theorem Kf {m:Nat} (ha:2<=b) (h:a+b+n<=m):a+(b - 1)+(n+1)<=m:=by exact L_ ha h
theorem less {m:Nat} (h:a+b+(n+i+1)<=m):a+b+(n+1)<=m:=by exact LZ h
theorem ne1 (h:2<=a) (n:¬ (a - 1 == 1)=true):2<=a - 1:=Tf (Nat.le_pred_of_lt h) (bB n).symm
theorem E6 (n:¬ (a == 0)=true):1<=a:=TM (bB n)
theorem rV {x y:Array Keyed} {Q:Array Keyed->SortSt->Prop} (hk:SJ a₀ p₀ st) (hx:gJ x) (hy:gJ y) (h1:1<=x.size) (h2:1<=y.size)
  (hq:∀ out st',SM a₀ p₀ st st'->out.toList.Perm (x.toList++y.toList)->Q out st'):wpS (model prog w) A E s (yt x y) Q st:=by
 have hh:=Ww h1 VL
 have P0:PH x y #[x[x.size - 1]] (x.size - 1) y.size:=PH.nil h1
 have S0:SM a₀ p₀ st st:=⟨hk,rfl⟩
 have hn0:x.size - 1+y.size+1<=x.size+y.size:=by exact S5 (Uo hh _)
 refine CR hh (λz! => Su (hq _ _ S0 P0.done)) (λz! => Su (hq _ _ S0 P0.first)) λe1 e2=>?_
 refine i8 (λj=>LD a₀ p₀ st x y (1+j)) (LR a₀ p₀ st x y) (λz! z! => False) (LH.mk P0 (E6 e1) (Tf h2 (bB e2).symm) hn0 S0) (λj c st' L=>?_)
  (λc st' L=>absurd L.hn (by have:=L.ba;have:=L.bb;exact LV)) (λr c st' h=>Su (hq _ _ h.1 h.2)) λz! z! h=>h.elim
 refine i8 (λi=>LD a₀ p₀ st x y (1+j+i)) (LR a₀ p₀ st x y) (LD a₀ p₀ st x y (1+j+1)) L (λi c st' L=>?_)
  (λc st' L=>LH.mk L.P L.ba L.bb (R9 (TZ (TZ (WM h1) _) _) L.hn) L.S) (λr c st' h=>Su h) λc st' L=>?_
 ·refine b_lt L.S.sj.kind L.lb L.la hy hx λb=>?_
  refine ao (λz! => dB L.la ?_) (λz! => dB L.lb ?_)
  ·have P':=L.P.pushX L.ba L.la
   refine ao (λz! => Su ⟨L.S,P'.done⟩) λhne=>?_
   have hl:=Kg L.ba L.hn
   exact ao (λz! => Su (LH.mk P' (E6 hne) L.bb (less hl) L.S)) λz! => Su (LH.mk P' (E6 hne) L.bb hl L.S)
  ·have P':=L.P.qc (Sl L.bb) L.lb
   refine ao (λz! => Su ⟨L.S,P'.first⟩) λhne=>?_
   have hb':=ne1 L.bb hne
   have hl:=Kf L.bb L.hn
   exact ao (λz! => Su (LH.mk P' L.ba hb' (less hl) L.S)) λz! => Su (LH.mk P' L.ba hb' hl L.S)
 ·refine SO (wpS_lift (U7 ⟨rfl,?_⟩))
  refine i8 (λz! => LD a₀ p₀ st x y (1+j+1)) (LR a₀ p₀ st x y) (LD a₀ p₀ st x y (1+j+1)) L (λi c st' L=>?_)
   (λz! z! h=>h) (λr c st' h=>Su h) λc st' L=>SO (Wx (Su (LH.mk L.P L.ba L.bb L.hn (L.S.K9 _))))
  have hz:∀ n,0+n=n:=UP
  extract_lets s1 a1 s2 b1 s3 o1 s4 g1 s5 c1 d1 b2 DG g2
  refine use_jp (P:=∀ u mg,wpS (model prog w) A E s (DG u mg) _ st') (λu mg=>?_) λh1=>ao (λz! => h1 () _) (λz! => h1 () _)
  refine SO (Wx ?_)
  have S':=L.S.K9 mg
  refine uM S'.sj.kind L.lb hy hx (R9 (So (hz _)) L.P.ha) _ (Ww L.ba VL) λt ht=>?_
  dsimp -zeta only
  extract_lets k ac KU o3
  refine use_jp (P:=∀ u na out,LH a₀ p₀ st x y (1+j+1) na b1 out st'->wpS (model prog w) A E s (KU u na out) _ _) (λu na out L1=>?_) λh2=>ao (λz! => ?_) (λz! => h2 () _ _ L)
  ·refine dB L.lb ?_
   have P2:=L1.P.qc (Sl L.bb) L.lb
   refine ao (λz! => Su ⟨S',P2.first⟩) (λhne=>?_)
   have EO:=ne1 L.bb hne
   refine uM S'.sj.kind L1.la hx hy (R9 (So (hz _)) P2.hb) _ (Ww (Sl EO) VL) λt1 ht1=>?_
   dsimp -zeta only
   extract_lets k1 bc a5 M7 o4
   refine use_jp (P:=∀ u nb out,PH x y out na nb->2<=nb->nb<=b1->wpS (model prog w) A E s (M7 u nb out) _ _) (λu nb out P3 N5 NC=>?_) λh3=>ao (λz! => ?_) (λz! => h3 () _ _ P2 EO (Uu ..))
   ·refine dB L1.la ?_
    have P4:=P3.pushX L1.ba L1.la
    refine ao (λz! => Su ⟨S',P4.done⟩) (λDU=>?_)
    have R:=LH.mk P4 (E6 DU) N5 (R9 (Um (Vy (Uu ..) NC) _) L1.hn) S'
    exact ao (λz! => Su R) λz! => Su R
   ·have P3:=P2.zO (k:=t1) ht1
    refine ao (λz! => Su ⟨S',P3.first⟩) λn1=>?_
    refine ao (λz! => Su ⟨S',P3.done⟩) λn0=>?_
    exact h3 () _ _ P3 (Tf (E6 n0) (bB n1).symm) (R9 ht1 (Uu ..))
  ·have P1:=L.P.zP (k:=t) ht
   refine ao (λz! => Su ⟨S',P1.done⟩) (λDV=>?_)
   exact h2 () _ _ (LH.mk P1 (E6 DV) L.bb (R9 (Um (Um ht _) _) L.hn) L.S)
theorem qb {α:Type}:∀ (ys:List α) (c b:Nat) (a:Array α),b+c+ys.length<=a.size ->
  ((ys.zipIdx c).foldl (λa (x:α×Nat)=>a.setIfInBounds (b+x.2) x.1) a).toList=a.toList.take (b+c)++ys++a.toList.drop (b+c+ys.length)
 | [],c,b,a,h=>by simp
 | y::ys,c,b,a,h=>by
  rw [List.zipIdx_cons,Vk]
  have hlt:b+c<a.size:=by simp at h;exact Mf h
  rw [qb ys (c+1) b _ (by rw [Array.size_setIfInBounds];simp at h;exact Mb h)]
  have e1:(a.setIfInBounds (b+c) y).toList=a.toList.set (b+c) y:=by simp
  rw [e1,show b+(c+1)=b+c+1 by exact rfl,List.drop_set_of_lt (by exact Tn (Sp (Th _ _)))]
  rw [Tz,List.getElem?_set_self (by simpa using hlt),Ub,List.take_set_of_le (Si _)]
  simp only [S_,SH,UZ,VS]
  rw [show b+c+1+ys.length=b+c+(ys.length+1) by exact Vm _ _ _]
theorem gJ.extract {xs:Array Keyed} {i j:Nat} (h:gJ xs):gJ (xs.extract i j):=λk hk=>by
 rw [Array.getElem_extract]
 exact h _ _
theorem SJ.all (h:SJ a₀ p₀ st):gJ (arrOf st):=λi hi=>by
 refine ob1_2 (h.at (i:=i) (by rw [<- h.size];exact hi)) λx e hx=>?_
 rw [getElem?_pos _ i hi] at e
 cases e
 exact hx
theorem Ah {Q:PUnit->SortSt->Prop} (h:Q ⟨⟩ st'):wpS (model prog w) A E s (set st':StateT SortSt Sem PUnit) Q st:=by
 unfold wpS;rw [StateT.run_set];exact R8 ⟨rfl,h⟩
set_option maxHeartbeats 1600000 in
theorem rW {n1 n2 pw z:Nat} {Q:Bool->SortSt->Prop} (h:SJ a₀ #[(0,n1,pw),(n1,n2,z)] st) (h1:1<=n1) (h2:1<=n2) (hn:n1+n2=a₀.size) (hq:∀ st',SJ a₀ #[(0,n1+n2,pw)] st'->Q true st') :
  wpS (model prog w) A E s (mergeAt' 0) Q st:=by
 have hp:=h.pend
 have hsz:=h.size
 have hall:=h.all
 have dD:=h.perm
 have hkind:=h.kind
 have JM:=h.failed
 have hkeys:=h.keys
 clear h
 cases st
 rename_i kd ar pd mg fl
 replace hp:pd = #[(0,n1,pw),(n1,n2,z)]:=hp
 replace hsz:ar.size=a₀.size:=hsz
 replace hall:gJ ar:=hall
 replace dD:ar.Perm a₀:=dD
 subst hp
 have QB:((#[(0,n1,pw),(n1,n2,z)]:Array (Nat×Nat×Nat)).setIfInBounds 0 (0,n1+n2,pw)).eraseIdxIfInBounds (0+1) = #[(0,n1+n2,pw)]:=by simp [Array.eraseIdxIfInBounds]
 refine SO (wpS_get ?_)
 refine SO (Ah ?_)
 have S0:SJ a₀ #[(0,n1+n2,pw)] (SortSt.mk' kd ar (((#[(0,n1,pw),(n1,n2,z)]:Array (Nat×Nat×Nat)).setIfInBounds 0 (0,n1+n2,pw)).eraseIdxIfInBounds (0+1)) mg fl):=⟨dD,hkind,JM,QB,hkeys⟩
 have hlt:n1<ar.size:=by exact L6 h2 hn hsz
 refine SO (iA hlt ?_)
 refine SO (jg hkind (hall _ hlt) hall (show 0+n1<=ar.size by exact LX h2 hn hsz) (by exact Tn (Sp h1)) λk hk=>?_)
 refine ao (λe=>Su (hq _ S0)) (λe=>?_)
 simp only [beq_iff_eq] at e
 have Jy:0+k+(n1 - k) - 1<ar.size:=by exact LW h1 h2 hn hsz e
 refine SO (iA Jy ?_)
 refine SO (jg hkind (hall _ Jy) hall (show n1+n2<=ar.size by exact LS hn hsz) (by exact Mi h2) λk2 hk2=>?_)
 refine ao (λe=>Su (hq _ S0)) (λe2=>?_)
 simp only [beq_iff_eq] at e2
 have hx:gJ (ar.extract (0+k) n1):=hall.extract
 have hy:gJ (ar.extract n1 (n1+k2)):=hall.extract
 have hxs:(ar.extract (0+k) n1).size=n1 - k:=by simp;exact LN h2 hn hsz e
 have hys:(ar.extract n1 (n1+k2)).size=k2:=by simp;exact LJ h2 hn hsz hk2 e2
 have fin:∀ (out:Array Keyed) (st':SortSt),SJ a₀ #[(0,n1+n2,pw)] st'->arrOf st'=ar->out.toList.Perm ((ar.extract (0+k) n1).toList++(ar.extract n1 (n1+k2)).toList) ->
   SJ a₀ #[(0,n1+n2,pw)] (setArr st' ((out.toList.zipIdx 0).foldl (λa (x:Keyed×Nat)=>a.setIfInBounds (0+k+x.2) x.1) (arrOf st'))):=by
  intro out st' hS ea hp
  refine hS.setArr ?_
  rw [W7,ea]
  have hlen:out.toList.length=n1 - k+k2:=by
   rw [hp.length_eq,Sy,TY,TY,hxs,hys]
  rw [qb out.toList 0 (0+k) ar (by rw [hlen];exact LF hn hsz e hk2),hlen]
  refine ((VG _ hp).append (.refl _)).trans ?_
  have e1:=PH.iY (l:=ar.toList) (i:=k) (j:=n1) (by exact hk)
  have e2:=PH.iY (l:=ar.toList) (i:=n1) (j:=n1+k2) (by exact Th _ _)
  have e3:=Ud k ar.toList
  simp only [UU,U3,UP,Nat.add_zero]
  rw [show n1+k2 - n1=k2 by exact UT _ _] at e2 ⊢
  rw [show k+(n1 - k+k2)=n1+k2 by exact LB e]
  conv=>rhs;rw [<- e3,e1,e2]
  simp only [SH]
  exact .refl _
 refine ao (λz! => ?_) (λz! => ?_)
 ·refine SO (rU S0 hx hy (by rw [hxs];exact S5 (TM e)) (by rw [hys];exact S5 (TM e2)) λout st' hS hp=>?_)
  refine SO (Wx (SO (wpS_get (Su ?_))))
  have hf:=fin out st' hS.sj hS.arr hp
  have hfl:=hf.failed
  show Q (failedOf (setArr st' ((out.toList.zipIdx 0).foldl (λa (x:Keyed×Nat)=>a.setIfInBounds (0+k+x.2) x.1) (arrOf st')))).isNone _
  rw [hfl]
  exact hq _ hf
 ·refine SO (rV S0 hx hy (by rw [hxs];exact S5 (TM e)) (by rw [hys];exact S5 (TM e2)) λout st' hS hp=>?_)
  refine SO (Wx (SO (wpS_get (Su ?_))))
  have hf:=fin out st' hS.sj hS.arr hp
  have hfl:=hf.failed
  show Q (failedOf (setArr st' ((out.toList.zipIdx 0).foldl (λa (x:Keyed×Nat)=>a.setIfInBounds (0+k+x.2) x.1) (arrOf st')))).isNone _
  rw [hfl]
  exact hq _ hf
theorem oz (h2:2<=n) (h:n<128):1<=minRun' n n 0/\n<=2 * minRun' n n 0/\minRun' n n 0<=n:=by
 obtain ⟨f,rfl⟩:∃ f,n=f+1:=⟨n - 1,by exact Eq.symm (Uq (Sl h2))⟩
 rw [minRun'_succ]
 by_cases h64:f+1<64
 ·rw [if_pos h64]
  exact ⟨by exact Sf _ _,by exact Ma,by exact Si _⟩
 ·rw [if_neg h64]
  obtain ⟨g,rfl⟩:∃ g,f=g+1:=⟨f - 1,by exact Eq.symm (Uq (Nat.le_of_succ_le_succ h2))⟩
  rw [minRun'_succ,if_pos (by exact L7 h)]
  have:max 0 ((g+1+1) % 2)=(g+1+1) % 2:=Wb (SX _)
  rw [this]
  exact ⟨by exact LY,R9 (So (Nat.div_add_mod ..).symm) (R9 (TZ (Nat.le_mul_of_pos_left _ (by decide)) _) (So (Nat.mul_add ..).symm)),by exact LP h64⟩
theorem SJ.push (h:SJ a₀ p₀ st) (x:Nat×Nat×Nat):SJ a₀ (p₀.push x) (setPending st ((pendingOf st).push x)):=⟨h.perm,h.kind,h.failed,by show (pendingOf st).push x=_;rw [h.pend],h.keys⟩
noncomputable def Od (a₀:Array Keyed) (st:SortSt):Prop:=∃ n1 n2 pw,1<=n1/\1<=n2/\n1+n2=a₀.size/\SJ a₀ #[(0,n1,pw),(n1,n2,0)] st
structure One (a₀:Array Keyed) (mr x n:Nat) (st:SortSt):Prop where
 h1:1<=n
 h2:n<=a₀.size
 h3:a₀.size<=n+mr
 h4:1<=x
 h5:x=1\/n=a₀.size
 J:SJ a₀ #[(0,n,0)] st
noncomputable def SR (a₀:Array Keyed) (mr x lo:Nat) (st:SortSt):Prop:=(x=0/\lo=0/\SJ a₀ #[] st)\/One a₀ mr x lo st\/(2<=x/\lo=a₀.size/\Od a₀ st)
theorem q6 {k:SortSt->StateT SortSt Sem β} {Q:β->SortSt->Prop} (h:wpS (model prog w) A E s (k st) Q st):wpS (model prog w) A E s (get >>= k) Q st:=SO (wpS_get h)
theorem CQ {p:Array (Nat×Nat×Nat)} {lo:Nat} {k:Option Nat->StateT SortSt Sem β} {Q:β->SortSt->Prop} (h:SJ a₀ p st) (h1:1<=n) (h2:lo+n<=a₀.size) (hq:∀ m st',1<=m->m<=n->SJ a₀ p st'->wpS (model prog w) A E s (k (some m)) Q st') :
  wpS (model prog w) A E s (countRun' lo n >>= k) Q st:=SO (C9 h h1 h2 hq)
theorem CS {p:Array (Nat×Nat×Nat)} {lo m:Nat} {r:String} {k:Bool->StateT SortSt Sem β} {Q:β->SortSt->Prop} (h:SJ a₀ p st) (h2:lo+n<=a₀.size) (hq:∀ st',SJ a₀ p st'->wpS (model prog w) A E s (k true) Q st') :
  wpS (model prog w) A E s ((liftM (rule r):StateT SortSt Sem Unit) >>= λz! => binarySort' lo n m >>= k) Q st:=SO (wpS_lift (U7 ⟨rfl,SO (C_ h h2 hq)⟩))
theorem De {m n1 mr:Nat} (h:¬ m<mr) (h2:m<=a - n1) (h3:a<=n1+mr):m=a - n1:=by exact LO h h2 h3
theorem pZ {Q:Unit->SortSt->Prop} (h:SJ a₀ #[] st) (h2:2<=a₀.size) (qH:a₀.size<128) (hq:∀ st' p,SJ a₀ p st'->Q () st'):wpS (model prog w) A E s sortRuns' Q st:=by
 refine ob0_3 (oz h2 qH) λm1 m2 m3=>?_
 rw [sortRuns'_eq]
 refine q6 ?_
 rw [h.size]
 generalize hmr:minRun' a₀.size a₀.size 0=mr at m1 m2 m3
 refine i8 (λx=>SR a₀ mr x) (λz! z! => False) (λz! st'=>SJ a₀ #[(0,a₀.size,0)] st'\/Od a₀ st') (.inl ⟨rfl,rfl,h⟩) (λx c st' hI=>?_) (λc st' hI=>?_) (λz! z! z! h=>h.elim) λc st' hc=>?_
 ·rcases hI with ⟨_,h0,hs⟩ | hI | ⟨_,h1,hs⟩
  ·have hlt:c.2<a₀.size:=by rw [h0];exact Sd Nat.zero_lt_two h2
   refine ao (λh=>absurd h (Nat.not_le_of_lt hlt)) λz! => ?_
   have hle:=Vw (S1 hlt)
   have hz:a₀.size - c.2=a₀.size:=by rw [h0];rfl
   refine CQ hs (WX hlt) (So hle) λm kO b1 b2 hs₁=>?_
   dsimp -zeta only
   extract_lets n0 DG fc
   refine use_jp (P:=∀ u n st',1<=n->n<=a₀.size->a₀.size<=n+mr->SJ a₀ #[] st'->wpS (model prog w) A E s (DG u n) _ st') (λu n st' c1 c2 c3 hs'=>?_) λhj=>ao (λhm=>?_) (λhm=>hj () _ _ b1 (hz▸b2) (R9 (R9 m2 (by rw [Nat.two_mul];exact Si _)) (Um (hmr▸TS hm) _)) hs₁)
   ·refine q6 ?_
    have hb:(pendingOf st').back? = none:=by rw [hs'.pend];rfl
    rw [hb]
    exact SO (Wx (Su (.inr (.inl ⟨(by rw [h0,UP];exact c1),(by rw [h0,UP];exact c2),(by rw [h0,UP];exact c3),Sf ..,.inl (by exact TU (TF (So (by assumption))) (Sf _ _)),(by rw [h0,UP];exact hs'.push _)⟩))))
   ·have hf:fc=mr:=by show min (a₀.size - c.2) (minRun' a₀.size a₀.size 0)=mr;rw [hmr,hz];exact Nat.min_eq_right m3
    refine CS hs₁ (by show c.2+fc<=_;rw [hf,h0,UP];exact m3) λfK hs₂=>?_
    exact ao (λh=>absurd h (by decide)) λz! => hj () fc _ (by rw [hf];exact m1) (by rw [hf];exact m3) (by rw [hf,<- Nat.two_mul];exact m2) hs₂
  ·refine ao (λhlo=>Su (.inl (TU hI.h2 hlo▸hI.J))) λhlo=>?_
   have hlt:c.2<a₀.size:=UI hlo
   have hle:=Vw (S1 hlt)
   refine CQ hI.J (WX hlt) (So hle) λm kO b1 b2 hs₁=>?_
   dsimp -zeta only
   extract_lets n0 DG fc
   refine use_jp (P:=∀ u n st',1<=n->n=a₀.size - c.2->SJ a₀ #[(0,c.2,0)] st'->wpS (model prog w) A E s (DG u n) _ st') (λu n st' c1 c2 hs'=>?_) λhj=>ao (λhm=>?_) (λhm=>hj () _ _ b1 (De (hmr▸hm) b2 hI.h3) hs₁)
   ·refine q6 ?_
    have hb:(pendingOf st').back? = some (0,c.2,0):=by rw [hs'.pend];rfl
    have hn:c.2+n=a₀.size:=by rw [c2];exact hle
    rw [hb]
    dsimp -zeta only
    extract_lets lo2 KU pw
    refine i8 (λz! z! st'=>SJ a₀ #[(0,c.2,0)] st') (λz! z! => False) (λz! st'=>SJ a₀ #[(0,c.2,0)] st') hs' (λx c' st' hI=>q6 ?_) (λz! z! h=>h) (λz! z! z! h=>h.elim) λz! st' hs'=>?_
    ·extract_lets p
     have hp:(if p.size > 1 then p[p.size - 2]? else none)=none:=if_neg (by show ¬ (pendingOf st').size > 1;rw [hI.pend];exact SW 1)
     rw [hp]
     exact Su hI
    ·refine SO (Wx (SO (Wx (Su (.inr (.inr ⟨TF hI.h4,hn,c.2,n,pw,hI.h1,c1,hn,hs'.perm,hs'.kind,hs'.failed,?_,hs'.keys⟩))))))
     show ((pendingOf st').modify _ _).push _=_
     rw [hs'.pend]
     rfl
   ·have hf:fc=a₀.size - c.2:=by
     show min (a₀.size - c.2) (minRun' a₀.size a₀.size 0)=_
     rw [hmr];exact VU (Nat.sub_le_iff_le_add'.mpr hI.h3)
    refine CS hs₁ (by show c.2+fc<=_;rw [hf];exact So hle) λfK hs₂=>?_
    exact ao (λh=>absurd h (by decide)) λz! => hj () fc _ (by rw [hf];exact WX hlt) hf hs₂
  ·exact ao (λz! => Su (.inr hs)) λh=>absurd (So h1.symm) h
 ·rcases hI with ⟨Qn,_,hs⟩ | hI | ⟨_,h1,hs⟩
  ·exact absurd Qn (by exact Vi (UQ (Tn (Sp h2))))
  ·exact .inl ((show c=a₀.size by have:=hI.h5;have:=hI.h2;exact LK h2 (by assumption))▸hI.J)
  ·exact .inr hs
 ·refine i8 (λz! z! st'=>(∃ p,SJ a₀ #[p] st')\/Od a₀ st') (λz! z! => False) (λz! st'=>∃ p,SJ a₀ p st') (hc.imp (⟨_,·⟩) id) (λx c st'' hI=>q6 ?_) (λc st'' hI=>?_) (λz! z! z! h=>h.elim) λ_ _ zz=>zz.elim λp h=>Su (hq _ p h)
  ·rcases hI with ⟨p,hs⟩ | ⟨n1,n2,pw,a1,a2,a3,hs⟩
   ·rw [if_pos (by rw [hs.pend];exact Si 1)]
    exact Su ⟨_,hs⟩
   ·have hz:(pendingOf st'').size=2:=by rw [hs.pend];rfl
    rw [if_neg (by rw [hz];decide),hz]
    exact SO (rW hs a1 a2 a3 λmZ iO=>Su (.inl ⟨_,iO⟩))
  ·rcases hI with ⟨p,hs⟩ | ⟨n1,n2,pw,a1,a2,a3,hs⟩
   ·exact ⟨_,hs⟩
   ·exact ⟨_,hs⟩
section
variable {b:Addr}
theorem nQ {a:Addr} {ss:List Str} {P:XY->Shared->Prop} (ho:s.heap.get? a=some (seqObj "list" vs.toArray n)) (hS:StrsAre vs ss) (qH:vs.length<128)
  (h:∀ out:Array Value,out.toList.Perm vs->P (.done (.ret .none)) {s with heap:=sortedHeap s.heap a vs out}):wpAny G.M A (Builtin.«list.sort» ⟨[.ref a],[]⟩) P E s:=by
 rw [list_sort_plain]
 have ha:a<s.heap.objs.size:=SY ho
 refine R7 (listItems_at ho rfl ?_)
 refine R7 (listUpdate_at ho rfl ?_ (by simp [W8];exact S1 (Sd qH (Sf _ _))) (by simp))
 obtain ⟨e1,Ju⟩:∃ e1,(s.heap.update a (U6 λz! => #[])).get? a=some (seqObj "list" #[] e1):=⟨_,get?_update_seq ho (λz! => #[])⟩
 refine R7 (seqEpoch_at Ju rfl ?_)
 refine R7 (PySem.wpAny_newTuple ?_ (by simp [W8];exact S1 (Sd qH (Sf _ _))))
 refine R7 (wpAny_newList ?_)
 refine Sj ?_
 have ho6:(((s.heap.update a (U6 λz! => #[])).push (seqObj "tuple" vs.toArray 0)).push (seqObj "list" #[] 0)).get? a=some (seqObj "list" #[] e1):=by
  rw [Heap.get?_push_ne _ _ _ (by rw [size_push',Heap.size_update];exact TP (Td ha)),Heap.get?_push_ne _ _ _ (by rw [Heap.size_update];exact TP ha)]
  exact Ju
 show wpAny G.M A _ P E {s with heap:=((s.heap.update a (U6 λz! => #[])).push (seqObj "tuple" vs.toArray 0)).push (seqObj "list" #[] 0)}
 dsimp only
 have hsz:vs.toArray.size=vs.length:=by simp
 have JK:∀ xs:Array Keyed,xs.Perm (pairsOf vs)->(xs.map (·.2)).toList.Perm vs:=λxs hp=>by
  rw [Array.toList_map]
  have h1:=(W7.mp hp).map (·.2)
  rw [pairsOf_toList] at h1
  have h2:(vs.zip vs).map (·.2)=vs:=List.map_snd_zip (Si _)
  rwa [h2] at h1
 by_cases h2:vs.toArray.size<2
 ·rw [if_pos h2,if_pos h2]
  refine R7 (R8 ?_)
  rw [StateT.run_pure]
  refine R7 (R8 ?_)
  dsimp only
  refine R7 (seqEpoch_at ho6 rfl ?_)
  refine R7 (listUpdate_at ho6 rfl ?_ (by simp) (by rw [Array.size_map];show (pairsOf vs).size<=_;rw [pairsOf_size,W8];exact LU hsz h2))
  simp only [bne_self_eq_false,Up,if_false]
  exact R8 (h _ (JK _ (Array.Perm.refl _)))
 ·rw [if_neg h2,if_neg h2]
  obtain ⟨v₁,v₂,rest,rfl⟩:∃ v₁ v₂ rest,vs=v₁::v₂::rest:=by
   match vs,hsz,h2 with
   | [],_,h2=>simp at h2
   | [_],_,h2=>simp at h2
   | v₁::v₂::rest,_,_=>exact ⟨v₁,v₂,rest,rfl⟩
  rw [keyKind_strs hS]
  refine R7 (R8 ?_)
  refine R7 (U4 (pZ (prog:=G.prog) (w:=G.w) (A:=A) (E:=E) (s:={s with heap:=((s.heap.update a (U6 λz! => #[])).push (seqObj "tuple" (v₁::v₂::rest).toArray 0)).push (seqObj "list" #[] 0)}) (a₀:=pairsOf (v₁::v₂::rest)) (st:=SortSt.mk' oneType' ((v₁::v₂::rest).toArray.zip (v₁::v₂::rest).toArray) #[] 7 none)
   (Q:=λz! st'=>(arrOf st').Perm (pairsOf (v₁::v₂::rest))/\failedOf st'=none)
   ⟨Array.Perm.refl _,rfl,rfl,rfl,λp hp=>?_⟩ (by rw [pairsOf_size];simp) (by rw [pairsOf_size];exact qH) λst' p hs=>⟨hs.perm,hs.failed⟩) ?_ λz! z! e=>e)
  ·rw [pairsOf_toList] at hp
   exact hS.all _ (List.of_mem_zip (a:=p.1) (b:=p.2) hp).1
  rintro ⟨⟨⟩,st'⟩ s' ⟨rfl,hp,hf⟩
  dsimp only
  refine R7 (seqEpoch_at ho6 rfl ?_)
  refine R7 (listUpdate_at ho6 rfl ?_ (by simp) (by refine R9 (So ((Array.size_map ..).trans (hp.size_eq.trans (pairsOf_size _)))) ?_;rw [W8];exact S1 (Sd qH (Sf _ _))))
  rw [hf]
  simp only [bne_self_eq_false,Up,if_false]
  exact R8 (h _ (JK _ hp))
theorem fh:∀ (vs:List Value),(∀ v∈vs,∃ x t,v = .str x t)->StrsAre vs (vs.map fT)
 | [],_=>.nil
 | v::vs,h=>by
  refine ob2_1 (h v (R_ ..)) λx t az=>?_;obtain rfl:=az
  exact .cons x t (fh vs λu hu=>h u (Sb _ hu))
theorem nP (hS:dZ G s.heap b ks) (hh:A.handled=none) (qH:ks.length<128)
  (h:∀ s' l vs,Old s s'->s.heap.get? l=none->z8 s'.heap l vs->StrsAre vs (vs.map fT)->(vs.map fT).Perm ks->Q (.ref l) s'):wpAny G.M A (call (.builtin "sorted") [.ref b]) Q E s:=by
 refine Calls.call_function_entry kind_sorted plain_sorted entry_sorted (args_sorted1 _) ?_
 unfold Builtin.«sorted»
 refine R7 (m:=checkCount "sorted" 1 1 _) (R8 ?_)
 refine R7 (l9 hS hh λs₁ vals ho hp hstr=>?_)
 have hlen:vals.length<128:=by rw [<- Sa (f:=fT),hp.length_eq];exact qH
 refine R7 (wpAny_newList ?_ (by rw [W8];exact S1 (Sd hlen (Sf _ _))))
 have Nk:(s₁.heap.push (seqObj "list" vals.toArray 0)).get? s₁.heap.objs.size=some (seqObj "list" vals.toArray 0):=Sn _ rfl
 refine R7 (Sj (Uw slot_list_sort ⟨_,Nk,rfl⟩ entry_list_sort (nQ (s:={s₁ with heap:=s₁.heap.push (seqObj "list" vals.toArray 0)}) Nk (fh vals hstr) hlen λout hout=>⟨_,rfl,?_⟩) (args_list_sort _)))
 refine ob1_1 (sortedHeap_at (out:=out) Nk) λe hat=>?_
 refine R8 ⟨_,rfl,h _ s₁.heap.objs.size out.toList ⟨λc o hc=>?_,ho.gens,ho.os⟩ ?_ ⟨e,by simpa using hat⟩ (fh _ λv hv=>hstr v (hout.mem_iff.mp hv)) ((hout.map fT).trans hp)⟩
 ·have hc1:=ho.keep _ _ hc
  have hlt:c<s₁.heap.objs.size:=SY hc1
  show (sortedHeap (s₁.heap.push (seqObj "list" vals.toArray 0)) s₁.heap.objs.size vals out).get? c=some o
  rw [sortedHeap_old (TP hlt) (by rw [size_push'];exact Td hlt)]
  exact Sg _ hc1
 ·cases hn:s.heap.get? s₁.heap.objs.size with
  | none=>rfl
  | some o=>exact absurd (SY (ho.keep _ _ hn)) (SW _)
end
theorem zM (h:vs.length * n<=2 ^ 24):Xq (vs.toArray.size * n)=false:=by
 have:¬ vs.toArray.size * n > sizeLine:=by
  rw [TJ,W8]
  exact Tt h
 simpa [Xq] using this
theorem EV.mulL {xs:List PV} {n:Int} (hl:EV G F ρ W Rs l (.lst xs)) (hr:EV G F ρ W Rs r (.int n)) (h2:n<=65536) (h3 : -65536<=n) (hz:(TH n.toNat xs).flatten.length<=lim) (hx:xs.length<=16) (hne:xs≠[]) :
  EV G F ρ W Rs (.BinOp l .Mult r pos) (.lst (TH n.toNat xs).flatten) :=
 EV.bin (p:=.lst xs) (q:=.int n) hl hr λs a b S rx ry=>by
  refine ob0_2 rx.dR λz! aA=>?_;refine ob2_4 aA λc vs bq z! aY rv=>?_;obtain rfl:=bq;refine ob1_1 aY λk e=>?_
  refine ob1_1 ry.isInt λu aB=>?_;obtain rfl:=aB
  have lv:=rv.length
  have hlim:lim=1048576:=by decide
  have hvs:vs.toArray.isEmpty=false:=by
   cases vs with
   | nil=>exact absurd (VQ.mp (by simpa using lv.symm)) hne
   | cons _ _=>rfl
  have hrep:∀ m:Nat,ah W s.heap (TH m xs).flatten (TH m vs).flatten:=by
   intro m
   induction m with
   | zero=>simp [ah]
   | succ m ih=>rw [Ut,Vv,Ut,Vv];exact rv.append ih
  have ND:∀ (m:Nat) (acc:Array Value),List.foldl (λx1 x2=>x1++x2) acc (TH m vs.toArray)=acc++(TH m vs).flatten.toArray:=by
   intro m
   induction m with
   | zero=>intro acc;simp
   | succ m ih=>intro acc;rw [Ut,Vk,ih,Ut,Vv];simp
  have:=S.newList (t:=s.toks) (hrep n.toNat) hz
  have hsz:vs.length * n.toNat<=2 ^ 24:=by
   have:vs.length<=16:=by exact LL hx lv
   have h4:n.toNat<=65536:=qB h2
   exact R9 (XR this h4) (Sz rfl)
  refine wpAny_binaryOp_repeat_ref (T:="list") (U:="int") (by decide) ⟨_,e,rfl⟩ (λs'=>XA s' n u) noFill_list_mul PySem.F.fills_int_mul PySem.F.slot_int_rmul repeat_list PySem.F.slot_int_index.lookup
   (XW PySem.F.slot_int_rmul (XA s n u) PySem.F.entry_int_rmul (PySem.F.args_int_rmul_2 _ _) (int___rmul___int_list n u c vs.toArray k)
    ⟨e,rfl,⟨_,e,rfl⟩,XW PySem.F.slot_list_mul ⟨_,e,rfl⟩ PySem.F.entry_list_mul (PySem.F.args_list_mul_2 _ _)
     (AutoListH.list___mul___list_int_3 c vs.toArray k n u (by have QT:Builtin.List.listFitsIndex n=true:=Tp.mpr ⟨decide_eq_true (Int.le_trans (by decide) h3),decide_eq_true (Int.lt_of_le_of_lt h2 (by decide))⟩;rw [QT];decide) (Tt (R9 hsz (Sz rfl))) (by rw [zM hsz];exact Wh))
     ⟨e,?_⟩⟩)
  have e2:List.foldl (λx1 x2=>x1++x2) #[] (TH (if vs.toArray.isEmpty=true then 0 else n.toNat) vs.toArray)=(TH n.toNat vs).flatten.toArray:=by
   rw [hvs,if_neg (by decide),ND];simp
  show aG G [] s _/\Rep W _ _ _
  dsimp only
  rw [e2]
  exact this
theorem yG {xs:List PV} (S:St G F ρ W Rs s) (x:aG G [] s s') (r:Rep W s'.heap (.lst xs) v) :
  wpAny G.M F.A (pyIter v) (λit s₂=>aG G [] s s₂/\Ready G F W target xs s it s₂) (λz! z! => False) s':=by
 have S₁:=S.step x
 refine ob0_2 r.dR λhl aA=>?_;refine ob2_4 aA λl vs bq JC aY rs=>?_;obtain rfl:=bq;refine ob1_1 aY λn e=>?_
 refine wpAny_pyIter_list (items:=vs.toArray) ⟨_,e,rfl,n,rfl⟩ ?_
 have y:aG G [] s' {s' with heap:=s'.heap.push {cls:=.type "list_iterator",data:=.fields #[.ref l,.int 0 0]}}:=.bO G (t:=s'.toks)
 have hfr:=S₁.fresh (bV s'.heap)
 have hne:l≠s'.heap.objs.size:=TP (SY e)
 refine ⟨x.trans y,[s'.heap.objs.size,l],[s'.heap.objs.size],λV hV=>⟨_,
  z9.ofWalks (Walks.list (S.room.1) s'.heap.objs.size l hne vs.toArray) (by simp [rs.length]) (aS S₁.inv) (λh=>ah (V++W) h xs vs)
   (λh h' r sk=>r.keep sk λz! z! q=>q) (λi p v h hp hv r=>?_) (c:="list_iterator") (λi h t=>?_) (by decide) (by decide),λh' k=>⟨⟨⟨_,k _ _ (Sn _ rfl),rfl,rfl⟩,?_⟩,?_⟩⟩,?_,?_⟩
 ·refine ob1_2 (r.get hp) λu hu ru=>?_
  have:vs[i]? = some v:=by simpa using hv
  rw [this] at hu;cases hu
  exact ru
 ·refine ob0_2 t λbM z! => ?_;refine ob1_3 bM λo e c d=>?_
  exact ⟨o,e,c,_,d⟩
 ·exact ⟨_,k _ _ (Sg _ e),rfl,n,rfl⟩
 ·exact ET (y.jC S₁.inv rs) hV k
 ·intro b hb
  have:b=s'.heap.objs.size:=by simpa using hb
  subst this
  cases e':s.heap.get? s'.heap.objs.size with
  | none=>rfl
  | some o=>exact absurd (SY (x.keep _ o (by simp) (bk (aS S₁.inv)) e')) (SW _)
 ·intro b hb
  rcases Sh.mp hb with rfl | hb
  ·exact ⟨hfr.1,hfr.2.1,hfr.2.2,bk (aS S₁.inv),_,Sn _ rfl⟩
  ·have:b=l:=by simpa using hb
   subst this
   have:=S₁.sy e rfl
   exact ⟨JC,this.1,this.2,kU S₁.inv e rfl,_,Sg _ e⟩
noncomputable def Le (G:Glob) (F:Fm) (ρ:List (Str×PV)) (W:List Addr) (Rs:List Res) (target e:SQ) (P:α->Prop) (xs:α->List PV):Prop :=
 ∀ s,St G F ρ W Rs s->wpAny G.M F.A (eval e F.env) (λx s₁=>aG G [] s s₁/\wpAny G.M F.A (pyIter x) (λit s₂=>∃ z,P z/\aG G [] s s₂/\Ready G F W target (xs z) s it s₂) (λz! z! => False) s₁) (λz! z! => False) s
theorem Le.vh {x1 x2:Str} {p1 p2 pos1 pos2:Pos} {xs:List Str} (hf:EV G F ρ W Rs (.Name x1 p1) (.raw (.builtin "sorted"))) (hg:EV G F ρ W Rs (.Name x2 p2) (.raw (.type "set"))) (he:EV G F ρ W Rs e (.lst (xs.map .str)))
  (hn:(b9 xs).length<128) (hn2:xs.length+1<scanBound)
  (hst:backTo pos2 (starEach [e] F.env)=[e].map (λe=>(false,eval e F.env)):=by rfl)
  (Nf:backTo pos1 (starEach [.Call (.Name x2 p2) [e] [] pos2] F.env)=[(false,eval (.Call (.Name x2 p2) [e] [] pos2) F.env)]:=by rfl) :
  Le G F ρ W Rs target (.Call (.Name x1 p1) [.Call (.Name x2 p2) [e] [] pos2] [] pos1) (λys:List Str=>ys.Perm (b9 xs)) (λys=>ys.map .str):=λs S=>by
 rw [Vz]
 refine R7 (aF (hf s S) λv s₁ zz=>zz.elim λy r=>?_)
 rw [Rep] at r;subst r
 have S₁:=S.step y
 rw [Nf]
 refine Tq (by simp) ?_
 refine Ti (Ua (fV hg (aV.cons he .nil) S₁ (λs₂ vs y₂ S₂ rs=>?_) hst))
 refine ob1_2 rs.one λv aB rv=>?_;obtain rfl:=aB
 refine ob0_2 rv.dR λhl aA=>?_;refine ob2_4 aA λc us bq R3 hc ru=>?_;obtain rfl:=bq
 refine u7 S₂.room.1 hc ru.strs hn2 λs₃ ho hX=>?_
 have aT:=S₂.step (ho.stp (G:=G))
 refine Vu ?_
 refine nP hX aT.room.1 hn λs₄ l' vs' ho' hnew hL hstr hp=>?_
 have bZ:=aT.step (ho'.stp (G:=G))
 have st:aG G [] s s₄:=y.trans (y₂.trans (ho.stp.trans ho'.stp))
 refine ⟨st,?_⟩
 have hz:=hstr.length
 have QF:vs'.length<128:=by
  rw [hz,hp.length_eq];exact hn
 have hrep:∀ (us:List Value) (ys:List Str),StrsAre us ys->(∀ y∈ys,y.length<=lim)->ah W s₄.heap (ys.map .str) us:=by
  intro us ys h
  induction h with
  | nil=>intro _;rw [Vt,ah]
  | cons x t h ih =>
   intro hy
   rw [SV,ah]
   exact ⟨_,_,rfl,Rep.str (hy x (R_ ..)),ih λy hy'=>hy y (Sb _ hy')⟩
 have hfresh:=aT.fresh hnew
 have hlim:lim=1048576:=by decide
 have hmem:∀ y∈b9 xs,y∈xs:=by
  have:∀ (xs acc:List Str),∀ y∈xs.foldl ig acc,y∈acc\/y∈xs:=by
   intro xs
   induction xs with
   | nil=>intro acc y h;exact .inl h
   | cons x xs ih =>
    intro acc y h
    rcases ih _ y h with h | h
    ·unfold ig at h
     split at h
     ·exact .inl h
     ·rcases Sq.mp h with h | h
      ·exact .inl h
      ·exact .inr (Sh.mpr (.inl (Sm.mp h)))
    ·exact .inr (Sb _ h)
  intro y hy
  rcases this xs [] y hy with h | h
  ·exact absurd h (S9)
  ·exact h
 have hlen:∀ (us:List Value) (ys:List Str),ah W s₂.heap (ys.map .str) us->∀ y∈ys,y.length<=lim:=by
  intro us ys
  induction ys generalizing us with
  | nil=>intro _ y hy;exact absurd hy (S9)
  | cons x ys ih =>
   intro r y hy
   rw [SV,ah] at r
   refine ob2_3 r λv vs' az r1 r2=>?_;obtain rfl:=az
   rcases Sh.mp hy with rfl | hy
   ·rw [Rep] at r1;exact r1.1
   ·exact ih _ r2 y hy
 have rep:Rep W s₄.heap (.lst ((vs'.map fT).map .str)) (.ref l'):=by
  rw [Rep]
  refine ⟨?_,l',vs',rfl,hfresh.1,hL,hrep _ _ hstr λy hy=>hlen _ _ ru y (hmem y (hp.mem_iff.mp hy))⟩
  rw [Sa,Sa];exact Ly QF hlim
 exact aF (yG S st rep) λit s₅ zz=>zz.elim λy5 rd=>⟨vs'.map fT,hp,y5,rd⟩
theorem ER.nj {name:Str} (ho:ER G F ρ W Rs o (.str x) aq) (ha:aV G F ρ W aq es ps)
  (slot:Slot "str" name id) (ty:typeOf (.builtin id)=pure (.type "method_descriptor"))
  (h:∀ s t vs,St G F ρ W aq s->x.length<=lim->ah W s.heap ps vs->Gv G F.A W (call (.builtin id) (.str x t::vs)) q s)
  (hne:es≠[]:=by simp)
  (hbase:attributeBase o name F.env (eval o F.env)=eval o F.env:=by rfl)
  (hfew:((backTo pos (starEach es F.env)).all (λx => !x.1) && (backToKw pos (keywordEach [] F.env)).all (λx=>x.1.isSome)
   && decide (es.length+([]:List Keyword).length+(if ([]:List Keyword).isEmpty then 0 else 1)<30))=true:=by rfl)
  (hst:backTo pos (starEach es F.env)=es.map (λe=>(false,eval e F.env)):=by rfl)
  (hline:(apos.endLine == pos.line)=true:=by rfl) :
  ER G F ρ W Rs (.Call (.Attribute o name apos) es [] pos) q aq:=λs S=>by
 obtain ⟨e,es',rfl⟩:∃ e es',es=e::es':=by cases es with | nil=>exact absurd rfl hne | cons a b=>exact ⟨a,b,rfl⟩
 refine Ug hbase hfew hline (aF (ho s S) λv s₁ zz=>zz.elim λS₁ r=>?_)
 refine ob0_2 r.isStr λhl aA=>?_;refine ob1_1 aA λt bh=>?_;obtain rfl:=bh
 rw [hst]
 refine ⟨"str",id,V3,slot,ty,Wf _ _ _,(λz! e=>nomatch e),?_⟩
 refine Tq (noStar _) ?_
 exact Ti (aF (ha s₁ S₁) λvs s₂ zz=>zz.elim λz rs=>aF (h s₂ t vs (S₁.step z) hl rs) λv s₃ zz=>zz.elim λu ru=>⟨(S₁.step z).step u,ru⟩)
theorem Rep.less (hw:∀ a∈W,a∈W') (r:Rep W' h p v):Rep W h p v :=
 Rep.keep (W:=W') (h:=h) ⟨λa vs z! e=>e,λa vs z! e=>e⟩ (λa z! ha=>hw a ha) r
noncomputable def dm (d:Nat) (p:PV):Prop:=p.plain=true/\p.toD.canLay0=true/\p.toD.depth<=d
theorem dm.ok {d:Nat} {p:PV} (h:dm d p) (hd:d<=60:=by decide):p.ok:=⟨h.1,h.2.1,R9 h.2.2 hd⟩
theorem dm.int {d:Nat} {i:Int}:dm d (.int i):=⟨rfl,rfl,SX _⟩
theorem dm.str {d:Nat} {x:Str} (h:T4 x=true):dm d (.str x):=⟨rfl,h,SX _⟩
theorem dm.lst {d:Nat}:∀ {xs:List PV},(∀ x∈xs,dm d x)->dm (d+1) (.lst xs):=by
 have key:∀ {xs:List PV},(∀ x∈xs,dm d x)->PV.gX xs=true/\PyData.canLayAll0 (PV.toDs xs)=true/\PyData.depthAll (PV.toDs xs)<=d:=by
  intro xs
  induction xs with
  | nil=>intro _;exact ⟨rfl,rfl,SX _⟩
  | cons x xs ih =>
   intro h
   refine ob0_3 (h x (R_ ..)) λh1 h2 h3=>?_
   refine ob0_3 (ih λy hy=>h y (Sb _ hy)) λg1 g2 g3=>?_
   refine ⟨?_,?_,?_⟩
   ·rw [PV.gX,h1,g1];rfl
   ·rw [PV.toDs,PyData.canLayAll0,h2,g2];rfl
   ·rw [PV.toDs,PyData.depthAll];exact Nat.max_le.mpr ⟨h3,g3⟩
 intro xs h
 refine ob0_3 (key h) λg1 g2 g3=>?_
 refine ⟨by rw [PV.plain];exact g1,by rw [PV.toD,PyData.canLay0];exact g2,by rw [PV.toD,PyData.depth];exact TF g3⟩
theorem dm.ints {xs:List Int}:dm (d+1) (.lst (xs.map .int)):=dm.lst λx h=>by
 refine ob1_2 (SN.mp h) λi z! az=>?_;obtain rfl:=az
 exact dm.int
theorem dm.nats {xs:List Nat}:dm (d+1) (.lst (xs.map λ(i:Nat)=>.int i)):=dm.lst λx h=>by
 refine ob1_2 (SN.mp h) λi z! az=>?_;obtain rfl:=az
 exact dm.int
theorem dm.sG {f:α->PV} {xs:List α} (h:∀ a∈xs,dm d (f a)):dm (d+1) (.lst (xs.map f)):=dm.lst λx hx=>by
 refine ob1_2 (SN.mp hx) λi hi az=>?_;obtain rfl:=az
 exact h i hi
theorem uE {i j:Int}:(PV.int i).eqv (.int j)=decide (i=j):=by
 show WH (.int i) (.int j)=_
 rw [WH]
 by_cases h:i=j <;> simp [h]
theorem uD:(PV.int (i:Int)).eqv (.int j)=decide (i=j):=by
 rw [uE]
 by_cases h:i=j
 ·subst h;simp
 ·have:¬ (i:Int)=j:=λq=>h (Int.ofNat.inj q)
  simp [h,this]
theorem uC:(PV.str x).eqv (.str y)=decide (x=y):=by
 show WH (.str x) (.str y)=_
 rw [WH]
 by_cases h:x=y
 ·subst h;simp
 ·simp [h]
theorem iW [DecidableEq α] {f:α->PV} (h:∀ a b,(f a).eqv (f b)=decide (a=b)) (xs ys:List α):(PV.lst (xs.map f)).eqv (.lst (ys.map f))=decide (xs=ys):=by
 show WH (.list _) (.list _)=_
 rw [WH]
 induction xs generalizing ys with
 | nil =>
  cases ys with
  | nil=>simp [PV.toDs,XZ]
  | cons y ys=>simp [PV.toDs,XZ]
 | cons x xs ih =>
  cases ys with
  | nil=>simp [PV.toDs,XZ]
  | cons y ys =>
   rw [SV,SV,PV.toDs,PV.toDs,XZ,ih]
   have:=h x y
   unfold PV.eqv at this
   rw [this]
   by_cases e:x=y <;> simp [e]
theorem o_ {xs:List Nat}:((xs.map λ(j:Nat)=>PV.int j).any λy=>y.eqv (.int (i:Int)))=decide (i∈xs):=by
 induction xs with
 | nil=>rfl
 | cons x xs ih =>
  rw [SV,List.any_cons,ih,uD]
  by_cases h:x=i
  ·subst h;simp
  ·have:¬ i=x:=λe=>h e.symm
   simp [h,this]
noncomputable def tl (x:Str):List Nat:=x.cps.toList
theorem aM (x:Str):(tl x).length=x.length:=TY
theorem fY (h:tl x=tl y):x=y:=by
 obtain ⟨a⟩:=x;obtain ⟨b⟩:=y
 have:a.toList=b.toList:=h
 congr 1
 exact Array.ext' this
theorem aN (x y:Str):tl (x++y)=tl x++tl y:=by
 show (x++y).cps.toList=_
 rw [show (x++y).cps=x.cps++y.cps from rfl,UN];rfl
theorem xj:tl ""=[]:=rfl
theorem eE:∀ ys:List Str,tl (Sx "" ys)=ys.flatMap tl
 | []=>rfl
 | [x]=>by show tl x=_;simp
 | x::y::r=>by
  show tl (x++""++Sx "" (y::r))=_
  rw [aN,aN,eE (y::r),xj,SI];rfl
theorem iN (ys:List Str):(Sx "" ys).length=(ys.map (·.length)).sum:=by
 rw [<- aM,eE,List.length_flatMap]
 congr 1
theorem cF (sep x y:Str) (r:List Str):tl (Sx sep (x::y::r))=tl x++tl sep++tl (Sx sep (y::r)):=by
 show tl (x++sep++Sx sep (y::r))=_
 rw [aN,aN]
theorem nW {α:Type} {f:α->Nat} {c:Nat}:∀ {l:List α},(∀ a∈l,f a<=c)->(l.map f).sum<=l.length * c
 | [],_=>by simp
 | a::l,h=>by
  have:=nW λb hb=>h b (Sb _ hb)
  have:=h a (R_ ..)
  rw [SV,Xu,S_,Nat.add_mul,Nat.one_mul]
  exact Lx (by assumption) this
theorem Ek {x:Int} (h1 : -1000<=x) (h2:x<=1000):Builtin.Range.rangeFitsLong x=true :=
 Tp.mpr ⟨decide_eq_true (Int.le_trans (by decide) h1),decide_eq_true (Int.lt_of_le_of_lt h2 (by decide))⟩
theorem lE {m:Nat} (h:m<=1000):Builtin.Range.rangeFitsLong (m:Int)=true:=Ek (Int.le_trans (by decide) (Uz m)) (Xc.mpr h)
theorem Cn:∀ m:Nat,Tg 0 (m:Int) 1=(m:Int)
 | 0=>rfl
 | n+1=>by
  unfold Tg
  rewrite [if_pos (by decide),if_pos (Int.natCast_pos.mpr (Xb n)),Int.ediv_one,Int.sub_zero]
  exact Int.sub_add_cancel ..
theorem tV:∀ m:Nat,Tg (m:Int) 0 (-1)=(m:Int)
 | 0=>rfl
 | n+1=>by
  unfold Tg
  rewrite [if_neg (by decide),if_pos (Int.natCast_pos.mpr (Xb n)),Int.neg_neg,Int.ediv_one,Int.sub_zero]
  exact Int.sub_add_cancel ..
theorem Ky {a b c d e:Bool} (h1:a=true) (h2:b=true) (h3:c=true) (h4:d=true) (h5:e=true):(a && b && c && d && e)=true:=by rw [h1,h2,h3,h4,h5];rfl
theorem nY {m:Nat}:span 0 (m:Int) 1=(Sk m).map λ(i:Nat)=>PV.int (i:Int):=by
 unfold span
 rw [Cn]
 exact Te λi z! => congrArg PV.int ((Int.zero_add _).trans (Int.mul_one _))
theorem m6 {m:Nat}:span ((m:Int)) 0 (-1)=(Sk m).map λi=>PV.int ((m - i:Nat):Int):=by
 unfold span
 rw [tV]
 refine Te λi hi=>congrArg PV.int ?_
 rw [Int.mul_neg,Int.mul_one]
 exact Int.sub_eq_add_neg.symm.trans (Int.ofNat_sub (S1 (Ss.mp hi))).symm
theorem pW {m:Nat} (h:m<=1000):VA 0 (m:Int) 1=true:=by
 unfold VA
 rw [Cn]
 exact Ky (by decide) (lE h) (by decide) (lE h) (V0.mpr (.inr (lE h)))
theorem small_down {m:Nat} (h:m<=1000):VA (m:Int) 0 (-1)=true:=by
 unfold VA
 rw [tV]
 exact Ky (lE h) (by decide) (by decide) (lE h) (V0.mpr (.inr (by decide)))
section
theorem EV.qK {f:α->PV} {p:Pos} {xs:List α} (hv:EV G F ρ W Rs value (.lst (xs.map f))) (h:EV G F ρ W Rs e (.int (j:Int))):EV G F ρ W Rs (.Subscript value (.Slice (some e) none none p) pos) (.lst ((xs.drop j).map f)):=by
 have:=EV.kQ (lo:=some (j:Int)) (hi:=none) (st:=none) (lower:=some e) (upper:=none) (step:=none) (p:=p) (pos:=pos) hv h trivial trivial (by simp)
 rwa [pick_from,<- List.map_drop] at this
theorem EV.w6 {f:α->PV} {p:Pos} {xs:List α} (hv:EV G F ρ W Rs value (.lst (xs.map f))) (h:EV G F ρ W Rs e (.int (j:Int))):EV G F ρ W Rs (.Subscript value (.Slice none (some e) none p) pos) (.lst ((xs.take j).map f)):=by
 have:=EV.kQ (lo:=none) (hi:=some (j:Int)) (st:=none) (lower:=none) (upper:=some e) (step:=none) (p:=p) (pos:=pos) hv trivial h trivial (by simp)
 rwa [vq,<- Xr] at this
theorem EV.Cj {f:α->PV} {p:Pos} {xs:List α} (hv:EV G F ρ W Rs value (.lst (xs.map f))) (h1:EV G F ρ W Rs e1 (.int (i:Int))) (h2:EV G F ρ W Rs e2 (.int (j:Int))):EV G F ρ W Rs (.Subscript value (.Slice (some e1) (some e2) none p) pos) (.lst (((xs.take j).drop i).map f)):=by
 have:=EV.kQ (lo:=some (i:Int)) (hi:=some (j:Int)) (st:=none) (lower:=some e1) (upper:=some e2) (step:=none) (p:=p) (pos:=pos) hv h1 h2 trivial (by simp)
 rwa [vv,<- Xr,<- List.map_drop] at this
end
noncomputable abbrev aj (i:Nat):PV:=.int (i:Int)
theorem EV.d9 (hl:EV G F ρ W Rs l (aj a)) (hr:EV G F ρ W Rs r (aj b)):EV G F ρ W Rs (.BinOp l .Add r pos) (aj (a+b)):=(EV.add hl hr).conv (by rw [aj,Int.natCast_add])
theorem EV.rR (hl:EV G F ρ W Rs l (aj a)) (hr:EV G F ρ W Rs r (aj b)) (h:b<=a):EV G F ρ W Rs (.BinOp l .Sub r pos) (aj (a - b)):=(EV.sub hl hr).conv (by rw [aj,Int.natCast_sub h])
theorem EV.vE (hl:EV G F ρ W Rs l (aj a)) (hr:EV G F ρ W Rs r (aj b)) (h:b≠0):EV G F ρ W Rs (.BinOp l .Mod r pos) (aj (a % b)):=(EV.mod hl hr (by exact Fl h)).conv (by rw [aj,Int.fmod_eq_emod_of_nonneg _ (by exact Uz _)];rfl)
theorem EV.Ex (hl:EV G F ρ W Rs l (aj a)) (hr:EV G F ρ W Rs r (aj b)) (h:b≠0) (h2:b<1000000000):EV G F ρ W Rs (.BinOp l .FloorDiv r pos) (aj (a / b)):=(EV.fdiv hl hr (by exact Fl h) h2).conv (by rw [aj,W9 _ (by exact Uz _)];rfl)
theorem TV.Rj {c:Bool} (hl:EV G F ρ W Rs l (aj a)) (hr:EV G F ρ W Rs r (aj b)) (hc:decide (b<a)=c) (hm:behindInMarks .Gt r=false:=by with_unfolding_all rfl):TV G F ρ W Rs (.Compare l [.Gt] [r] pos) c :=
 (TV.cmp hl hr qi hm).conv (by rw [<- hc];exact decide_eq_decide.mpr (by exact Lw))
theorem TV.Rk {c:Bool} (hl:EV G F ρ W Rs l (aj a)) (hr:EV G F ρ W Rs r (aj b)) (hc:decide (b<=a)=c) (hm:behindInMarks .GtE r=false:=by with_unfolding_all rfl):TV G F ρ W Rs (.Compare l [.GtE] [r] pos) c :=
 (TV.cmp hl hr IP hm).conv (by rw [<- hc];exact decide_eq_decide.mpr (by exact Lv))
theorem TV.Pe {c:Bool} (hl:EV G F ρ W Rs l (aj a)) (hr:EV G F ρ W Rs r (aj b)) (hc:decide (a=b)=c) (hm:behindInMarks .Eq r=false:=by with_unfolding_all rfl):TV G F ρ W Rs (.Compare l [.Eq] [r] pos) c :=
 (TV.cmp hl hr t7 hm).conv (by rw [<- hc];exact decide_eq_decide.mpr Int.ofNat_inj)
theorem qd (f:α->β) (xs:List α) (lo hi st:Option Int):pick (xs.map f) lo hi st=(pick xs lo hi st).map f:=by
 unfold pick
 rw [Sa,List.map_filterMap]
 congr 1
 funext i
 rw [SP]
theorem xW {xs:List α} {st:Option Int} {x:α} (h:x∈pick xs lo hi st):x∈xs:=by
 unfold pick at h
 refine ob1_2 (WJ.mp h) λi z! h2=>?_
 exact UW h2
theorem D_ {xs:List Nat} (hb:∀ i∈xs,i<=1000000):∀ s vs,St G F ρ W Rs s->ah W s.heap [.lst (xs.map aj)] vs->Gv G F.A W (call (.builtin "sum") vs) (aj xs.sum) s:=λs vs S rs=>by
 refine ob1_2 rs.one λv aB r=>?_;obtain rfl:=aB
 have hl:=r.dR.1
 rw [Sa] at hl
 have hlim:lim=1048576:=by decide
 have hs:∀ ys:List Nat,(∀ i∈ys,i<=1000000)->(ys.map λi:Nat=>(i:Int)).sum=(ys.sum:Int)/\ys.sum<=ys.length * 1000000:=by
  intro ys h
  induction ys with
  | nil=>exact ⟨rfl,Si _⟩
  | cons y ys ih =>
   refine ob0_2 (ih λi hi=>h i (Sb _ hi)) λh1 h2=>?_
   have:=h y (R_ ..)
   refine ⟨by rw [SV,Xu,h1,Xu,Int.natCast_add],?_⟩
   rw [Xu,S_,Nat.add_mul];exact Lq h2 this
 have e:(xs.map aj)=(xs.map λi:Nat=>(i:Int)).map .int:=by rw [S3];rfl
 rw [e] at rs
 rw [show aj xs.sum = .int (xs.map λi:Nat=>(i:Int)).sum by rw [(hs xs hb).1]]
 refine J3 (λk hk=>?_) (λi hi=>?_) s _ S rs
 ·rw [<- Xr]
  refine ob0_2 (hs (xs.take k) λi hi=>hb i (Vp hi)) λh1 h2=>?_
  rw [h1]
  have:(xs.take k).length<=1048576:=by rw [Wc];exact Ln hl hlim
  exact yN (R9 h2 (VM 1000000 this))
 ·refine ob1_2 (SN.mp hi) λj hj az=>?_;obtain rfl:=az
  exact yN (R9 (hb j hj) (Sz rfl))
theorem EV.nL {f:α->PV} {xs:List α} {x:α} (hv:EV G F ρ W Rs value (.lst (xs.map f))) (hi:EV G F ρ W Rs slice (aj i)) (hx:xs[i]? = some x)
  (hs:∀ o i,subscripted slice false o i=operate [o,i] (getItem o i):=by intro _ _;rfl):EV G F ρ W Rs (.Subscript value slice pos) (f x) :=
 EV.yK hv hi (oG (by rw [SP,hx];rfl)) hs
theorem EV.IZ {p:Pos} (hf:EV G F ρ W Rs (.Name x p) (.raw (.builtin "max"))) (h1:EV G F ρ W Rs e1 (aj a)) (h2:EV G F ρ W Rs e2 (aj b))
  (hst:backTo pos (starEach [e1,e2] F.env)=[e1,e2].map (λe=>(false,eval e F.env)):=by rfl):EV G F ρ W Rs (.Call (.Name x p) [e1,e2] [] pos) (aj (max a b)) :=
 (EV.gT hf (.cons h1 (.cons h2 .nil)) sS hst).conv (congrArg _ (yM ..))
theorem EV.M4 {p:Pos} (hf:EV G F ρ W Rs (.Name x p) (.raw (.builtin "min"))) (h1:EV G F ρ W Rs e1 (aj a)) (h2:EV G F ρ W Rs e2 (aj b))
  (hst:backTo pos (starEach [e1,e2] F.env)=[e1,e2].map (λe=>(false,eval e F.env)):=by rfl):EV G F ρ W Rs (.Call (.Name x p) [e1,e2] [] pos) (aj (min a b)) :=
 (EV.gT hf (.cons h1 (.cons h2 .nil)) Eb hst).conv (congrArg _ (yL ..))
theorem EV.IF {p:Pos} {xs:List Nat} (hf:EV G F ρ W Rs (.Name x p) (.raw (.builtin "sum"))) (h:EV G F ρ W Rs e (.lst (xs.map aj))) (hb:∀ i∈xs,i<=1000000)
  (hst:backTo pos (starEach [e] F.env)=[e].map (λe=>(false,eval e F.env)):=by rfl):EV G F ρ W Rs (.Call (.Name x p) [e] [] pos) (aj xs.sum) :=
 EV.gT hf (.cons h .nil) (D_ hb) hst
theorem AV.nm (h:(F.env.kindOf x == some .local || (F.env.kindOf x == some .cell && F.cv.contains x))=true):AV G F ρ W Rs (.Name x pos) p ((x,p)::ρ):=by
 refine AV.name ?_
 rcases V0.mp h with h | h
 ·exact .inl (U0 h)
 ·refine ob0_2 (Tp.mp h) λh1 h2=>?_
  exact .inr ⟨U0 h1,List.contains_iff_mem.mp h2⟩
theorem EV.fM {L:List α}
  (dw:α->List (Str×PV)) (f:α->PV) (hok:cO F.env.scope sc=true) (hi:IV G F ρ W Rs target iter (L.map enc))
  (g9:∀ a y q,(seen sc ρ).lookup y=some q->(dw a).lookup y=some q)
  (mE:∀ a∈L,∀ cl cs s0 X W' aq,AV G (F.comp sc cl cs s0 X) (seen sc ρ) W' aq target (enc a) (dw a))
  (hel:∀ a∈L,∀ cl cs s0 X W' aq,EV G (F.comp sc cl cs s0 X) (dw a) W' aq elt (f a)) (hl:L.length<=lim)
  (hs:∀ x,foldedSetIterable iter F.env x=pure x:=by intro _;rfl) :
  EV G F ρ W Rs (.ListComp elt [⟨target,iter,[],0⟩] sc epos) (.lst (L.map f)) :=
 (EV.comp (c:=λz! => true) dw f hok hi g9 mE (λz! z! z! z! z! z! z! z! => uT.nil) (λa ha z! => hel a ha) hl hs).conv (by rw [VX.mpr λz! z! => rfl])
theorem EV.qT {L:List α}
  (dw:α->List (Str×PV)) (c:α->Bool) (f:α->PV) (hok:cO F.env.scope sc=true) (hi:IV G F ρ W Rs target iter (L.map enc))
  (g9:∀ a y q,(seen sc ρ).lookup y=some q->(dw a).lookup y=some q)
  (mE:∀ a∈L,∀ cl cs s0 X W' aq,AV G (F.comp sc cl cs s0 X) (seen sc ρ) W' aq target (enc a) (dw a))
  (ht:∀ a∈L,∀ cl cs s0 X W' aq,TV G (F.comp sc cl cs s0 X) (dw a) W' aq test (c a))
  (hel:∀ a∈L,c a=true->∀ cl cs s0 X W' aq,EV G (F.comp sc cl cs s0 X) (dw a) W' aq elt (f a)) (hl:L.length<=lim)
  (hs:∀ x,foldedSetIterable iter F.env x=pure x:=by intro _;rfl) :
  EV G F ρ W Rs (.ListComp elt [⟨target,iter,[test],0⟩] sc epos) (.lst ((L.filter c).map f)) :=
 EV.comp dw c f hok hi g9 mE (λa ha cl cs s0 X W' aq=>uT.one (ht a ha cl cs s0 X W' aq)) hel hl hs
theorem XS.eV {L:List α} {px:Pos}
  (dw:α->List (Str×PV)) (f:α->PV) (hok:cO F.env.scope sc=true) (hi:IV G F ρ W Rs target iter (L.map enc))
  (g9:∀ a y q,(seen sc ρ).lookup y=some q->(dw a).lookup y=some q)
  (mE:∀ a∈L,∀ cl cs s0 X W' aq,AV G (F.comp sc cl cs s0 X) (seen sc ρ) W' aq target (enc a) (dw a))
  (hel:∀ a∈L,∀ cl cs s0 X W' aq,EV G (F.comp sc cl cs s0 X) (dw a) W' aq elt (f a)) (hl:L.length<=lim)
  (hx:F.env.kindOf x=some .local)
  (h:XS G F ((x,.lst (L.map f))::ρ) W Rs rest K)
  (hsw:swapsWith (.ListComp elt [⟨target,iter,[],0⟩] sc epos) (some (.Name x px)) pos.line F.env=pure true:=by rfl)
  (hs:∀ x,foldedSetIterable iter F.env x=pure x:=by intro _;rfl) :
  XS G F ρ W Rs (.Assign [.Name x px] (.ListComp elt [⟨target,iter,[],0⟩] sc epos) pos::rest) K :=
 XS.uN dw (λz! => true) f hok hi g9 mE (λz! z! z! z! z! z! z! z! => uT.nil) (λa ha z! => hel a ha) hl hx (by rw [VX.mpr λz! z! => rfl];exact h) hsw hs
theorem AV.IS (h:(F.env.kindOf x == some .local || (F.env.kindOf x == some .cell && F.cv.contains x))=true):F.env.kindOf x=some .local\/(F.env.kindOf x=some .cell/\x∈F.cv):=by
 rcases V0.mp h with h | h
 ·exact .inl (U0 h)
 ·refine ob0_2 (Tp.mp h) λh1 h2=>?_
  exact .inr ⟨U0 h1,List.contains_iff_mem.mp h2⟩
theorem AW (h:ρ.lookup x=none):∀ y q,ρ.lookup y=some q->((x,p)::ρ).lookup y=some q:=Bp h
theorem IV.dN {p:Pos} {m:Nat} (hf:EV G F ρ W Rs (.Name x p) (.raw (.type "range"))) (h:EV G F ρ W Rs e (aj m)) (hm:m<=1000)
  (hst:backTo pos (starEach [e] F.env)=[e].map (λe=>(false,eval e F.env)):=by rfl):IV G F ρ W Rs target (.Call (.Name x p) [e] [] pos) ((Sk m).map aj):=by
 have:=IV.xS (target:=target) hf h (pW hm) hst
 rwa [nY] at this
theorem EV.II {f:α->PV} {p:Pos} {xs:List α} {st:Int} (hv:EV G F ρ W Rs value (.lst (xs.map f))) (h1:EV G F ρ W Rs e1 (aj j)) (h2:EV G F ρ W Rs e2 (.int st)) (h0:st≠0) :
  EV G F ρ W Rs (.Subscript value (.Slice (some e1) none (some e2) p) pos) (.lst ((pick xs (some (j:Int)) none (some st)).map f)):=by
 have:=EV.kQ (lo:=some (j:Int)) (hi:=none) (st:=some st) (lower:=some e1) (upper:=none) (step:=some e2) (p:=p) (pos:=pos) hv h1 trivial h2 (by simpa using h0)
 rwa [qd] at this
theorem vY (f:α->PV) (xs:List α):gv (xs.map f)=xs.zipIdx.map λx=>.tup [aj x.2,f x.1]:=by
 unfold gv
 rw [List.zipIdx_map,S3]
 rfl
theorem IV.J9 {f:α->PV} {p tpos:Pos} {xs:List α} (hf:EV G F ρ W Rs (.Name x p) (.raw (.type "enumerate"))) (h:EV G F ρ W Rs e (.lst (xs.map f)))
  (hst:backTo pos (starEach [e] F.env)=[e].map (λe=>(false,eval e F.env)):=by rfl) :
  IV G F ρ W Rs (.Tuple elts k tpos) (.Call (.Name x p) [e] [] pos) (xs.zipIdx.map λx=>.tup [aj x.2,f x.1]):=by
 rw [<- vY];exact IV.enum hf h hst
theorem qg (x y:Str):(Vd x (UR x y 0 x.length (x.length+1)) y.length).length<=x.length+2:=by
 rw [length_partsBetween]
 have:=StrLaws.occ_length_le x y 0 x.length (x.length+1)
 exact TF this
theorem EV.C8 {R:List Str} (ho:EV G F ρ W Rs o (.str x)) (h:EV G F ρ W Rs e (.str y)) (hy:(y.length == 0)=false) (hR:VO x y=R) (hp:∀ z∈R,z.length<=lim) (hn:R.length<=lim) (hx:x.length<=1000000)
  (hbase:attributeBase o "split" F.env (eval o F.env)=eval o F.env:=by rfl)
  (hfew:((backTo pos (starEach [e] F.env)).all (λx => !x.1) && (backToKw pos (keywordEach [] F.env)).all (λx=>x.1.isSome)
   && decide ([e].length+([]:List Keyword).length+(if ([]:List Keyword).isEmpty then 0 else 1)<30))=true:=by rfl)
  (hst:backTo pos (starEach [e] F.env)=[e].map (λe=>(false,eval e F.env)):=by rfl)
  (hline:(apos.endLine == pos.line)=true:=by rfl) :
  EV G F ρ W Rs (.Call (.Attribute o "split" apos) [e] [] pos) (.lst (R.map .str)):=by
 subst hR
 exact EV.split ho h hy hp hn (by have:=qg x y;rw [W8];exact Ls hx this) hbase hfew hst hline
theorem EV.Cp {f:α->PV} {p:Pos} {xs:List α} (hv:EV G F ρ W Rs value (.lst (xs.map f))) (h:EV G F ρ W Rs e (.int (-1))) (h5:xs.length=5) :
  EV G F ρ W Rs (.Subscript value (.Slice none none (some e) p) pos) (.lst (xs.reverse.map f)):=by
 have:=EV.kQ (lo:=none) (hi:=none) (st:=some (-1)) (lower:=none) (upper:=none) (step:=some e) (p:=p) (pos:=pos) hv trivial trivial h (by simp)
 rw [qd] at this
 have e:pick xs none none (some (-1))=xs.reverse:=by
  have h1:sliceBounds none none (some (-1)) 5=(4,-1,-1):=by decide +kernel
  have h2:sliceRange 4 (-1) (-1)=[4,3,2,1,0]:=by decide +kernel
  unfold pick
  rw [h5,h1]
  refine ob2_2 (eG h5) λa r1 az k1=>?_;obtain rfl:=az
  refine ob2_2 (eG k1) λb r2 az k2=>?_;obtain rfl:=az
  refine ob2_2 (eG k2) λc r3 az k3=>?_;obtain rfl:=az
  refine ob2_2 (eG k3) λd r4 az k4=>?_;obtain rfl:=az
  refine ob2_2 (eG k4) λe r5 az k5=>?_;obtain rfl:=az
  cases len0 k5
  show (sliceRange 4 (-1) (-1)).filterMap _=_
  rw [h2];rfl
 rwa [e] at this
theorem EV.IB {p:Pos} {z:Str} {i:Int} (hv:EV G F ρ W Rs value (.str z)) (h:EV G F ρ W Rs e (.int i)):EV G F ρ W Rs (.Subscript value (.Slice none (some e) none p) pos) (.str (dO z none (some i))) :=
 EV.xF (lo:=none) (hi:=some i) (lower:=none) (upper:=some e) hv trivial h
theorem EV.J4 {p:Pos} {z:Str} {i:Int} (hv:EV G F ρ W Rs value (.str z)) (h:EV G F ρ W Rs e (.int i)):EV G F ρ W Rs (.Subscript value (.Slice (some e) none none p) pos) (.str (dO z (some i) none)) :=
 EV.xF (lo:=some i) (hi:=none) (lower:=some e) (upper:=none) hv h trivial
noncomputable def Lg (G:Glob) (F:Fm) (ρ:List (Str×PV)) (W:List Addr) (Rs:List Res) (e:SQ) (P:α->Prop) (q:α->PV):Prop :=
 ∀ s,St G F ρ W Rs s->wpAny G.M F.A (eval e F.env) (λv s'=>∃ L,P L/\aG G [] s s'/\Rep W s'.heap (q L) v) (λz! z! => False) s
theorem XS.N6 {q:α->PV} {ρ':α->List (Str×PV)} (hv:Lg G F ρ W Rs value P q) (ha:∀ L,P L->AV G F ρ W Rs target (q L) (ρ' L)) (h:∀ L,P L->XS G F (ρ' L) W Rs rest K)
  (hs:swapsWithSole [target] value pos.line F.env=pure false:=by rfl) (hw:swappedStores [target] value F.env=pure none:=by rfl)
  (he:(assignEach [target] F.env).map (·.2)=[Ur target F.env]:=by rfl) :
  XS G F ρ W Rs (.Assign [target] value pos::rest) K:=λs S=>by
 refine Tr ?_
 rw [W3]
 refine R7 (Tc ?_)
 rw [hs]
 refine R7 (R8 ?_)
 rw [if_neg (by decide)]
 refine R7 (aF (hv s S) λv s₁ zz=>zz.elim λL zz=>zz.elim λhL zz=>zz.elim λx r=>?_)
 rw [hw]
 refine R7 (R8 ?_)
 rw [he]
 show wpAny _ _ (do Ur target F.env v;pure XU) _ _ s₁
 exact R7 (aF (ha L hL s₁ v (S.step x) r) λ_ s₂ zz=>zz.elim λS₂ z! => R8 (h L hL s₂ S₂))
theorem XS.no {b:List Stmt} (ht:TV G F ρ W Rs test false) (k:XS G F ρ W Rs rest K):XS G F ρ W Rs (.If test b [] pos::rest) K :=
 XS.ite (J:=λs'=>St G F ρ W Rs s') ht (λh=>nomatch h) (λz! => XS.nil λs S=>S) (λs S=>k s S)
theorem Lg.comp {α:Type} {P:List α->Prop} {enc:α->PV} {elt target iter:SQ} {sc:Scope} {epos:Pos}
  (dw:α->List (Str×PV)) (f:α->PV) (hok:cO F.env.scope sc=true) (hi:Le G F ρ W Rs target iter P (λL=>L.map enc))
  (g9:∀ a y q,(seen sc ρ).lookup y=some q->(dw a).lookup y=some q)
  (mE:∀ L,P L->∀ a∈L,∀ cl cs s0 X W' aq,AV G (F.comp sc cl cs s0 X) (seen sc ρ) W' aq target (enc a) (dw a))
  (hel:∀ L,P L->∀ a∈L,∀ cl cs s0 X W' aq,EV G (F.comp sc cl cs s0 X) (dw a) W' aq elt (f a)) (hl:∀ L,P L->L.length<=lim)
  (hs:∀ x,foldedSetIterable iter F.env x=pure x:=by intro _;rfl) :
  Lg G F ρ W Rs (.ListComp elt [⟨target,iter,[],0⟩] sc epos) P (λL=>.lst (L.map f)):=λs S=>by
 show wpAny _ _ (comprehension (.ListComp elt [⟨target,iter,[],0⟩] sc epos) sc F.env _ (newList []) false (eval iter F.env) none) _ _ _
 refine nG (P:=P) (ys:=λL=>(L.filter λz! => true).map f) rfl hok S (hi s S)
  (λL hL cl cs D it fp wr T s₂ s₃ R I hT hfp S' hD hcl hcs hk hR=>lR dw (λz! => true) f g9 (mE L hL) (λz! z! z! z! z! z! z! z! => uT.nil) (λa ha z! => hel L hL a ha) (hl L hL) cl cs D it fp wr T s₂ s₃ R I hT hfp S' hD hcl hcs hk hR) (λL hL cl D s₁ dn=>?_) hs
 exact λh' hs'=>⟨L,hL,by
  have:=dn.xV hs'
  rw [VX.mpr λz! z! => rfl] at this
  exact this⟩
section
open PySem.Builtin.Str PySem.StrLaws
noncomputable def occs (y:List Nat):Nat->Nat->List Nat->List Nat
 | _,_,[]=>[]
 | i,skip,c::r=>if skip=0/\y <+: (c::r) then i::occs y (i+1) (y.length - 1) r else occs y (i+1) (skip - 1) r
theorem j7 {x y:Str} (hy:1<=y.length):∀ (n i:Nat) (st:Array Nat×Nat),i+n=x.length+1->st.1.size<=i ->
  (forIn (List.range' i n) st (occBody x y x.length (x.length+1))).run.fst.toList=st.1.toList++occs (tl y) i (st.2 - i) ((tl x).drop i)
 | 0,i,st,h,_=>by
  have:(tl x).drop i=[]:=T3 (by rw [aM];exact Sl (So (Eq.symm h)))
  rw [this,occs]
  simp
 | n+1,i,st,h,hs=>by
  rw [List.range'_succ,UE]
  have hyl:=aM y
  have wI:=aM x
  by_cases hx:i=x.length
  ·have e1:(tl x).drop i=[]:=T3 (by exact Lo h wI hx)
   have e2:(tl x).drop (i+1)=[]:=T3 (by exact Ll h wI hx)
   unfold occBody
   rw [if_neg (by rintro ⟨⟨_,h⟩,_⟩;exact Li hy (by assumption) hx h)]
   have:=j7 (x:=x) (y:=y) hy n (i+1) st (by exact wU h) (by exact SE hs)
   rw [e2,occs] at this
   rw [e1,occs]
   exact this
  ·have hd:(tl x).drop i=(tl x)[i]'(by exact Ce h wI hx)::(tl x).drop (i+1):=Xd (by exact Ce h wI hx)
   have hpre:(i+y.length<=x.length/\subAt x y i=true)↔tl y <+: (tl x).drop i:=by
    rw [subAt_eq,beq_iff_eq,List.prefix_iff_eq_take]
    constructor
    ·rintro ⟨_,h⟩
     rw [hyl];exact h.symm
    ·intro h
     have hl:=congrArg V7 h
     rw [Wc,TN] at hl
     rw [hyl] at h
     exact ⟨by exact Iu (by assumption) hyl wI hx hl,h.symm⟩
   unfold occBody
   by_cases hc:((st.fst.size<x.length+1/\st.snd<=i)/\i+y.length<=x.length)/\subAt x y i=true
   ·rw [if_pos hc]
    have hp:=hpre.mp ⟨hc.1.2,hc.2⟩
    have:=j7 (x:=x) (y:=y) hy n (i+1) (st.1.push i,i+y.length) (by exact wU h) (by rw [Array.size_push];exact TF hs)
    rw [hd] at hp ⊢
    rw [occs,if_pos ⟨Nat.sub_eq_zero_of_le hc.1.1.2,hp⟩]
    rw [show i+y.length - (i+1)=(tl y).length - 1 by exact Ir hy hyl] at this
    refine this.trans ?_
    simp
   ·rw [if_neg hc]
    have:=j7 (x:=x) (y:=y) hy n (i+1) st (by exact wU h) (by exact SE hs)
    rw [hd] at hpre ⊢
    rw [occs,if_neg,show st.2 - i - 1=st.2 - (i+1) by exact rfl]
    ·exact this
    ·rintro ⟨h1,h2⟩
     have:=hpre.mpr h2
     exact hc ⟨⟨⟨by exact Io h hs hx,by exact Ik h1⟩,this.1⟩,this.2⟩
theorem qk (hy:1<=y.length):occurrences x y 0 x.length (x.length+1)=occs (tl y) 0 0 (tl x):=by
 rw [occ_eq]
 have:=j7 (x:=x) hy (x.length+1) 0 (#[],0) (by exact Vj _ _) (Si _)
 simpa using this
theorem jj {y:List Nat} {h:Nat} {t:List Nat} (hy:y=h::t):∀ {p:List Nat} {i:Nat} {rest:List Nat},h∉p->occs y i 0 (p++rest)=occs y (i+p.length) 0 rest
 | [],i,rest,_=>rfl
 | c::p,i,rest,hp=>by
  rw [UZ,occs,if_neg]
  ·rw [jj hy (p:=p) (λhm=>hp (Sb _ hm)),S_]
   congr 1;exact Vm _ _ _
  ·rintro ⟨_,hpre⟩
   subst hy
   have:=(List.cons_prefix_cons.mp hpre).1
   exact hp (by rw [this];exact R_ ..)
theorem nh {y:List Nat}:∀ {p:List Nat} {i:Nat} {rest:List Nat},occs y i p.length (p++rest)=occs y (i+p.length) 0 rest
 | [],i,rest=>rfl
 | c::p,i,rest=>by
  rw [UZ,occs,if_neg (by rintro ⟨h,_⟩;cases h),S_,T7,nh (p:=p)]
  congr 1;exact Vm _ _ _
theorem yi {y:List Nat} {h:Nat} {t:List Nat} (hy:y=h::t) {rest:List Nat}:occs y i 0 (y++rest)=i::occs y (i+y.length) 0 rest:=by
 subst hy
 rw [UZ,occs,if_pos ⟨rfl,List.prefix_append (h::t) rest⟩,S_,T7,nh]
 congr 2;exact Vm _ _ _
end
section
open PySem.Builtin.Str PySem.StrLaws
theorem yh (y:List Nat) (i s:Nat):occs y i s []=[]:=by rw [occs]
theorem Ez {l:List Nat} (h:x.cps.toList=l):x=⟨l.toArray⟩:=by
 obtain ⟨a⟩:=x
 have:a.toList=l:=h
 subst this;simp
theorem xx {p rest:List Nat} (h:(tl x).drop a=p++rest) (hn:n=p.length):strSub x a (a+n)=⟨p.toArray⟩:=by
 refine Ez ?_
 show (strSub x a (a+n)).cps.toList=p
 rw [strSub_toList]
 show ((tl x).drop a).take _=p
 rw [h,show a+n - a=p.length by exact Lp hn,List.take_left]
theorem qf {x y:Str} {h:Nat} {t:List Nat} (hy:tl y=h::t):∀ {L:List Str} {a:Nat},L≠[]->(∀ p∈L,h∉tl p)->a<=x.length->(tl x).drop a=tl (Sx y L) ->
  partsFrom x y.length a (occs (tl y) a 0 ((tl x).drop a))=L
 | [],_,hn,_,_,_=>absurd rfl hn
 | [p],a,_,hp,ha,hx=>by
  have hx':(tl x).drop a=tl p++[]:=by rw [SI];exact hx
  rw [hx',jj hy (hp p (R_ ..)),yh,partsFrom]
  have hl:=congrArg V7 hx'
  rw [TN,SI,aM,aM] at hl
  have:=xx (n:=p.length) hx' (aM p).symm
  rw [show a+p.length=x.length by exact Lm ha hl] at this
  rw [this]
  congr 1
 | p::q::r,a,_,hp,ha,hx=>by
  have hx':(tl x).drop a=tl p++(tl y++tl (Sx y (q::r))):=by rw [hx,cF,SH]
  have hl:=congrArg V7 hx'
  rw [TN,Sy,Sy,aM,aM,aM] at hl
  have sQ:(tl x).drop (a+p.length+y.length)=tl (Sx y (q::r)):=by
   rw [UJ,<- List.drop_drop,hx',<- List.drop_drop,<- aM p,List.drop_left,<- aM y,List.drop_left]
  rw [hx',jj hy (hp p (R_ ..)),yi hy,partsFrom]
  have hs:=xx (n:=p.length) hx' (aM p).symm
  rw [aM p,hs,aM y]
  have ih:=qf (x:=x) hy (L:=q::r) (a:=a+p.length+y.length) (by simp) (λz hz=>hp z (Sb _ hz)) (by exact Lk ha hl) sQ
  rw [sQ] at ih
  rw [ih]
  congr 1
theorem kP {h:Nat} {t:List Nat} (hy:tl y=h::t) {L:List Str} (hn:L≠[]) (hp:∀ p∈L,h∉tl p) (hk:U8 y<=U8 (Sx y L)):VO (Sx y L) y=L:=by
 have hy1:1<=y.length:=by rw [<- aM,hy];simp
 have key:=qf (x:=Sx y L) (a:=0) hy hn hp (SX _) rfl
 rw [Vx,<- qk hy1] at key
 have JA:(Sx y L).length<y.length->∃ p,L=[p]:=λhlt=>by
  match L,hn with
  | [p],_=>exact ⟨p,rfl⟩
  | p::q::r,_ =>
   have:=congrArg V7 (cF y p q r)
   rw [Sy,Sy,aM,aM,aM,aM] at this
   rw [this] at hlt
   exact absurd (TQ (R9 (Sf _ _) (Th _ _)) hlt) (SW _)
 unfold VO
 split
 ·rename_i hc
  rcases V0.mp hc with hc | hc
  ·refine ob1_1 (JA (of_decide_eq_true hc)) λp aB=>?_;obtain rfl:=aB
   rfl
  ·exact absurd (of_decide_eq_true hc) (Tt hk)
 ·split
  ·rename_i hc
   have he:occurrences (Sx y L) y 0 (Sx y L).length ((Sx y L).length+1)=[]:=List.isEmpty_iff.mp hc
   rw [he,partsFrom] at key
   have:strSub (Sx y L) 0 (Sx y L).length=Sx y L:=by
    refine fY ?_
    show (strSub (Sx y L) 0 (Sx y L).length).cps.toList=_
    rw [strSub_toList,Vx]
    refine UB ?_
    show (tl (Sx y L)).length<=_
    rw [aM];exact Si _
   rw [this] at key
   exact key
  ·rw [partsBetween_eq];exact key
theorem qz (h:∀ c∈tl x,c<256):U8 x=1:=by
 unfold U8
 rw [if_pos]
 rw [Wv]
 intro c hc
 exact decide_eq_true (h c (Array.mem_toList_iff.mpr hc))
theorem qy (x:Str):1<=U8 x:=by unfold U8;split;exact Si _;split <;> decide
end
noncomputable def jA (l:Str):Prop:=tl l≠[]/\10∉tl l/\13∉tl l
noncomputable def ic (l:Str):Str:=if (tl l).head? = some 46 then "."++l else l
noncomputable def nO (e:Str):Prop:=e="\n"\/e="\r"\/e="\r\n"
theorem IT (h1:c≠10) (h2:c≠13):cV c=false:=by
 unfold cV
 simp [h1,h2]
theorem ju:∀ {p rest:List Nat},10∉p->13∉p->crlf (p++rest)=p++crlf rest
 | [],_,_,_=>rfl
 | c::p,rest,h1,h2=>by
  rw [UZ,lP (IT (λe=>h1 (by rw [e];exact R_ ..)) (λe=>h2 (by rw [e];exact R_ ..))),
   ju (λh=>h1 (Sb _ h)) (λh=>h2 (Sb _ h))]
  rfl
theorem kr {r:List Nat}:crlf (10::r)=13::10::crlf r:=by
 cases r with
 | nil=>rfl
 | cons d r=>rw [crlf,if_neg (by rintro ⟨h,_⟩;cases h),if_pos (by decide)]
theorem v7 {r:List Nat}:crlf (13::10::r)=13::10::crlf r:=by rw [crlf,if_pos ⟨rfl,rfl⟩]
theorem Bo {r:List Nat} (h:d≠10):crlf (13::d::r)=13::10::crlf (d::r):=by
 rw [crlf,if_neg (by rintro ⟨_,h'⟩;exact h h'),if_pos (by decide)]
theorem nD:∀ {p rest:List Nat},10∉p->dots false (p++rest)=p++dots false rest
 | [],_,_=>rfl
 | c::p,rest,h=>by
  have hc:(c == 10)=false:=by
   have:c≠10:=λe=>h (by rw [e];exact R_ ..)
   simpa using this
  rw [UZ,dots,hc,nD λhm=>h (Sb _ hm)]
  rfl
theorem nF {p rest:List Nat} (hn:p≠[]) (h:10∉p):dots true (p++rest)=(if p.head? = some 46 then 46::p else p)++dots false rest:=by
 cases p with
 | nil=>exact absurd rfl hn
 | cons c p =>
  have hc:(c == 10)=false:=by
   have:c≠10:=λe=>h (by rw [e];exact R_ ..)
   simpa using this
  rw [UZ,dots,hc,nD λhm=>h (Sb _ hm)]
  by_cases NP:c=46
  ·subst NP;rfl
  ·have:(c == 46)=false:=by simpa using NP
   simp [NP,this]
theorem vZ {r:List Nat}:dots false (13::10::13::10::r)=13::10::13::10::dots true r:=by
 simp [dots]
theorem j5 (l:Str):tl (ic l)=if (tl l).head? = some 46 then 46::tl l else tl l:=by
 unfold ic
 split
 ·rw [aN];rfl
 ·rfl
theorem jD {e:Str} (he:nO e):∀ {L:List Str},(∀ l∈L,jA l)->dots true (crlf (tl (Sx ("\n"++e) L)))=tl (Sx "\r\n\r\n" (L.map ic))
 | [],_=>rfl
 | [l],h=>by
  refine ob0_3 (h l (R_ ..)) λh1 h2 h3=>?_
  show dots true (crlf (tl l))=tl (ic l)
  have e1:crlf (tl l)=tl l:=by
   have:=ju (rest:=[]) h2 h3
   rwa [SI,crlf,SI] at this
  have e2:=nF (rest:=[]) h1 h2
  rw [SI,dots,SI] at e2
  rw [e1,e2,j5]
 | l::m::r,h=>by
  refine ob0_3 (h l (R_ ..)) λh1 h2 h3=>?_
  have ih:=jD he (L:=m::r) λz hz=>h z (Sb _ hz)
  refine ob0_3 (h m (Sb _ (R_ ..))) λg1 g2 g3=>?_
  have JI:∃ d t,tl (Sx ("\n"++e) (m::r))=d::t/\d≠10:=by
   cases hm:tl m with
   | nil=>exact absurd hm g1
   | cons d t =>
    have hd:d≠10:=λe=>g2 (by rw [hm,e];exact R_ ..)
    cases r with
    | nil=>exact ⟨d,t,hm,hd⟩
    | cons a r=>exact ⟨d,_,by rw [cF,hm];rfl,hd⟩
  have hsep:crlf (tl ("\n"++e)++tl (Sx ("\n"++e) (m::r)))=13::10::13::10::crlf (tl (Sx ("\n"++e) (m::r))):=by
   refine ob2_2 JI λd t hdt hd=>?_
   generalize tl (Sx ("\n"++e) (m::r))=J at hdt
   rcases he with rfl | rfl | rfl
   ·show crlf (10::10::J)=_
    rw [kr,kr]
   ·show crlf (10::13::J)=_
    rw [kr,hdt,Bo hd]
   ·show crlf (10::13::10::J)=_
    rw [kr,v7]
  rw [cF,SH,ju h2 h3,hsep,nF h1 h2,vZ,ih]
  show _=tl (Sx "\r\n\r\n" (ic l::ic m::r.map ic))
  rw [cF,j5,SH]
  rfl
theorem qa {e:Str} (he:nO e) {L:List Str} (h:∀ l∈L,jA l):quoted (Sx ("\n"++e) L)=Sx "\r\n\r\n" (L.map ic):=by
 refine fY ?_
 rw [<- jD he h]
 show (dots true (crlf _)).toArray.toList=_
 rfl
section
open PySem.Builtin.Str PySem.StrLaws
theorem DK (j:Option Int) (n:Nat):strSliceIndices none j 1 n=strSliceIndices (some ((0:Nat):Int)) j 1 n:=by
 have e:max (0:Int) (min ((0:Nat):Int) (n:Int))=0:=(kg ..).trans (by rw [Nat.zero_min];rfl)
 unfold strSliceIndices
 dsimp only
 have h:¬ ((0:Nat):Int)<0:=by decide
 rw [if_neg h]
 rewrite [show (if (1:Int) > 0 then max (0:Int) (min ((0:Nat):Int) (n:Int)) else max (-1) (min ((0:Nat):Int) ((n:Int) - 1)))=0 by rw [if_pos (by decide),e]]
 rfl
theorem DL (j:Option Int) (n:Nat):strSliceIndices j none 1 n=strSliceIndices j (some (n:Int)) 1 n:=by
 have e:max (0:Int) (min (n:Int) (n:Int))=n:=(kg ..).trans (by rw [Nat.min_self])
 have h:¬ (n:Int)<0:=by exact wR
 unfold strSliceIndices
 dsimp only
 rw [if_neg h]
 rewrite [show (if (1:Int) > 0 then max (0:Int) (min (n:Int) (n:Int)) else max (-1) (min (n:Int) ((n:Int) - 1)))=n by rw [if_pos (by decide),e]]
 rfl
theorem tS (h:strSliceIndices lo hi 1 x.length=strSliceIndices (some (a:Int)) (some (b:Int)) 1 x.length) (hab:a<=b) (hb:b<=x.length):tl (dO x lo hi)=((tl x).drop a).take (b - a):=by
 unfold dO
 rw [h]
 split
 ·rename_i hl
  rw [strSliceIndices_plain hab hb,Sa,To] at hl
  have ha:a=0:=by exact Lj hab hb hl
  have Q5:b=x.length:=by exact Lh hb hl ha
  subst ha Q5
  rw [Vx,UB]
  rw [aM];exact Si _
 ·show (List.toArray _).toList=_
  rw [sliced_plain x hab hb];rfl
theorem gM (h:1<=x.length):tl (dO x none (some 1))=(tl x).take 1:=by
 have:=tS (x:=x) (lo:=none) (hi:=some 1) (a:=0) (b:=1) (DK _ _) (by exact SX _) h
 rwa [Vx] at this
theorem mq (h:1<=x.length):tl (dO x (some 1) none)=(tl x).drop 1:=by
 have:=tS (x:=x) (lo:=some 1) (hi:=none) (a:=1) (b:=x.length) (DL _ _) h (Si _)
 rw [this,UB]
 rw [TN,aM];exact Si _
end
theorem gZ (c:Nat):∀ (l:List Nat) (i:Nat),(occs [c] i 0 l).length=l.count c
 | [],i=>by rw [occs];rfl
 | a::l,i=>by
  rw [occs]
  by_cases h:a=c
  ·subst h
   rw [if_pos ⟨rfl,List.prefix_append [a] l⟩,S_]
   show (occs [a] (i+1) 0 l).length+1=_
   rw [gZ a l,List.count_cons_self]
  ·rw [if_neg (λhh=>h (List.cons_prefix_cons.mp hh.2).1.symm)]
   show (occs [c] (i+1) 0 l).length=_
   rw [gZ c l,List.count_cons_of_ne h]
theorem jv (x:Str) (c:Nat):Vb x ⟨#[c]⟩=((tl x).count c:Int):=by
 unfold Vb
 rw [qk (y:=⟨#[c]⟩) (Si 1)]
 exact congrArg Int.ofNat (gZ c (tl x) 0)
noncomputable def a_ (K:Frag) (pairs:List (Addr×Addr)):Frag:=K.filter λx => !(pairs.map (·.2)).contains x.1
noncomputable def bK (K:Frag) (c:Addr):Array Value:=match K.lookup c with
 | some ⟨_,_,.fields vs,_⟩=>vs
 | _=>#[]
noncomputable def Ci:Value->Str×Tok
 | .str x t=>(x,t)
 | _=>("",0)
noncomputable def ud:Value->Int×Tok
 | .int x t=>(x,t)
 | _=>(0,0)
noncomputable def EG:Value->Bool
 | .bool b=>b
 | _=>false
noncomputable def objOf (K:Frag) (c:Addr):Obj:=(K.lookup c).getD {cls:=.none,data:=.plain}
structure E3 (K:Frag) (c P:Addr):Prop where
 obj:K.lookup c=some (objOf K c)
 cls:(objOf K c).cls = .type "code"
 dat:(objOf K c).data = .fields (bK K c)
 Pb:(bK K c)[11]? = some (.ref P)
 RB:(bK K c).getD 18 .none = .str (Ci ((bK K c).getD 18 .none)).1 (Ci ((bK K c).getD 18 .none)).2
 f7:(bK K c).getD 7 .none = .int (ud ((bK K c).getD 7 .none)).1 (ud ((bK K c).getD 7 .none)).2
 f9:(bK K c).getD 9 .none = .bool (EG ((bK K c).getD 9 .none))
 RC:(bK K c).getD 10 .none = .int (ud ((bK K c).getD 10 .none)).1 (ud ((bK K c).getD 10 .none)).2
 tab:K.lookup P=some {cls:=.none,data:=.fields #[]}
 ne:Nat.beq c P=false
noncomputable def z_ (K:Frag):List (Addr×Addr)->Prop
 | []=>True
 | x::r=>E3 K x.1 x.2/\z_ K r
theorem gu {K:Frag}:∀ {l:List (Addr×Addr)},z_ K l->∀ x∈l,E3 K x.1 x.2
 | [],_,x,h=>absurd h S9
 | y::r,g,x,h=>by
  rcases Sh.mp h with rfl | h
  ·exact g.1
  ·exact gu g.2 x h
theorem iQ {K:Frag} {x:Addr×Addr} (X:K.In h) (e:E3 K x.1 x.2):bU h x.1 x.2 #[]:=by
 have Rq:(bK K x.1).getD 11 .none = .ref x.2:=by
  rw [Array.getD_eq_getD_getElem?,e.Pb];rfl
 refine ⟨⟨_,_,_,_,_,_,_,_,_,_,X _ _ e.obj,e.dat,Rq,e.RB,e.f7,e.f9,e.RC,X _ _ e.tab,rfl,trivial,λh=>?_⟩,⟨⟨_,_,X _ _ e.obj,e.cls,e.dat,e.Pb⟩,X _ _ e.tab⟩⟩
 have:=e.ne
 rw [h] at this
 simp at this
structure Fg (K:Frag) (pairs:List (Addr×Addr)):Prop where
 gen:z_ K pairs
 apart:(pairs.all λx => !(pairs.map (·.2)).contains x.1)=true
 tg:mainGlobals∉pairs.map (·.2)
 tb:builtinsNs∉pairs.map (·.2)
 ts:cStatics∉pairs.map (·.2)
 ng:nsOkIn K mainGlobals=true
 nb:nsOkIn K builtinsNs=true
 ns:nsOkIn K cStatics=true
 nl:nsIn K cStatics "sys.recursionlimit"=some none
structure KC (h0:Heap) (pairs:List (Addr×Addr)) (h:Heap):Prop where
 last:∃ o,h.get? (h0.objs.size - 1)=some o
 keep:∀ b o,h0.get? b=some o->b∉pairs.map (·.2)->h.get? b=some o
 code:∀ x∈pairs,∃ ps,bU h x.1 x.2 ps/\gH h ps.toList
theorem j8 {a:Addr} (n:h.Ns a m) (k:∀ o,h.get? a=some o->h'.get? a=some o):h'.Ns a m :=
 n.imp λo h_=>h_.imp λes h_=>h_.imp λep zz=>zz.elim λho r=>⟨k _ ho,r⟩
theorem Cu {K:Frag} {n:Str} (X:K.In h) (G:h.Ns N mg) (e:nsIn K N n=some (some v)):mg n=some v:=by
 refine ob3_4 G λo es ep ho hd z! hf=>?_
 unfold nsIn at e
 split at e
 ·rename_i c d es' n' sl q
  have:=X _ _ q
  rw [ho] at this
  cases this
  cases hd
  split at e
  ·rename_i en he
   cases e
   rw [<- hf]
   unfold nsFind findBy
   rw [<- Array.find?_toList,he]
   rfl
  ·split at e <;> cases e
 ·cases e
theorem bR {K:Frag} {pairs:List (Addr×Addr)} {a:Addr} {o:Obj}:(a_ K pairs).lookup a=some o->K.lookup a=some o/\a∉pairs.map (·.2):=by
 unfold a_
 induction K with
 | nil=>intro h;cases h
 | cons x K ih =>
  intro h
  obtain ⟨b,ob⟩:=x
  rw [List.filter_cons] at h
  by_cases hb:b∈pairs.map (·.2)
  ·rw [if_neg (by simpa using hb)] at h
   refine ob0_2 (ih h) λh1 h2=>?_
   refine ⟨?_,h2⟩
   rw [S8]
   have:(a == b)=false:=by
    rw [beq_eq_false_iff_ne]
    rintro rfl
    exact h2 hb
   rw [this];exact h1
  ·rw [if_pos (by simpa using hb),S8] at h
   rw [S8]
   by_cases hab:a=b
   ·subst hab
    rw [beq_self_eq_true] at h ⊢
    exact ⟨h,hb⟩
   ·rw [beq_eq_false_iff_ne.mpr hab] at h ⊢
    exact ih h
theorem pQ (hk:∀ v,eZ h v->eZ h' v) {l:List Value} (hr:gH h l):gH h' l:=by
 induction hr with
 | nil=>exact .nil
 | cons h1 _ ih=>exact .cons (hk _ h1) ih
theorem xq {c P:Addr} {ps:Array Value} (x:bU h c P ps) (k1:∀ o,h.get? c=some o->h'.get? c=some o) (k2:∀ o,h.get? P=some o->h'.get? P=some o):bU h' c P ps:=by
 obtain ⟨⟨o,vs,file,tf,flags,tg,M9,text,tt,op,a,r1,r2,r3,r4,r5,r6,b,r⟩,⟨o',vs',t1,t2⟩,t3⟩:=x
 exact ⟨⟨o,vs,file,tf,flags,tg,M9,text,tt,op,k1 _ a,r1,r2,r3,r4,r5,r6,k2 _ b,r⟩,⟨o',vs',k1 _ t1,t2⟩,k2 _ t3⟩
section
variable (prog:Program) (w:World) {K:Frag} {pairs:List (Addr×Addr)} {h0:Heap}
theorem uG {c P:Addr} {ps:Array Value} (x:bU h c P ps):c<h.objs.size/\P<h.objs.size:=x.1.lt
noncomputable def bF (X:K.In h0) (C:Fg K pairs) (hl:h0.objs.size - 1∉pairs.map (·.2)/\∃ o,h0.get? (h0.objs.size - 1)=some o):Glob where
 prog:=prog
 w:=w
 base:=h0
 tabs:=pairs.map (·.2)
 inv:=KC h0 pairs
 mg:=h0.nsMap mainGlobals
 mb:=h0.nsMap builtinsNs
 rD:=λb hb=>by
  refine ob1_2 (SN.mp hb) λx hx az=>?_;obtain rfl:=az
  exact (uG (iQ X (gu C.gen x hx))).2
 AY:=λh h' Y i hY hk=>by
  have hrec:∀ v,eZ h v->eZ h' v:=λv zz=>zz.elim λc zz=>zz.elim λo zz=>zz.elim λvs zz=>zz.elim λq zz=>zz.elim λt zz=>zz.elim λe zz=>zz.elim λho zz=>zz.elim λhc zz=>zz.elim λhd hv=>⟨c,o,vs,q,t,e,hk c o (λhm=>by
   rcases (hY c hm).2 o ho with h1 | h1
   ·exact h1 hc
   ·exact h1 vs hd) ho,hc,hd,hv⟩
  have low:∀ b o,b<h0.objs.size->h.get? b=some o->h'.get? b=some o:=λb o hb e=>hk b o (λhm=>by have:=(hY b hm).1;exact Tt this hb) e
  refine ⟨?_,λb o e hb=>low b o (SY e) (i.keep b o e hb),λx hx=>?_⟩
  ·refine ob1_1 hl.2 λo ho=>?_
   refine ob1_1 i.last λo' ho'=>?_
   exact ⟨o',low _ o' (SY ho) ho'⟩
  ·refine ob1_2 (i.code x hx) λps hps hr=>?_
   have l:=uG (iQ X (gu C.gen x hx))
   exact ⟨ps,xq hps (λo e=>low _ o l.1 e) λo e=>low _ o l.2 e,pQ hrec hr⟩
 vP:=λh i b o e hb=>i.keep b o e hb
 A0:=λh i=>⟨h0.nsMap cStatics,j8 (.of_isNs (WN X C.ns)) λo e=>i.keep _ o e C.ts,nsMap_none_of_in X C.ns C.nl⟩
 Jd:=λh i=>by
  refine ob1_1 hl.2 λo ho=>?_
  refine ob1_1 i.last λo' ho'=>?_
  have h1:h0.objs.size - 1<h0.objs.size:=SY ho
  have h2:h0.objs.size - 1<h.objs.size:=SY ho'
  exact Iv h2
 vO:=λh i=>j8 (.of_isNs (WN X C.ng)) λo e=>i.keep _ o e C.tg
 AZ:=λh i=>j8 (.of_isNs (WN X C.nb)) λo e=>i.keep _ o e C.tb
 DI:=λh i b hb=>by
  refine ob1_2 (SN.mp hb) λx hx az=>?_;obtain rfl:=az
  refine ob1_2 (i.code x hx) λps aB z! => ?_;refine ob0_3 aB λz! z! e=>?_
  exact ⟨_,ps,e,rfl⟩
 Je:=λh h' c P ps ps' i hP hc hc' hn hk=>by
  have hrec:∀ v,eZ h v->eZ h' v:=λv zz=>zz.elim λd zz=>zz.elim λo zz=>zz.elim λvs zz=>zz.elim λq zz=>zz.elim λt zz=>zz.elim λe zz=>zz.elim λho zz=>zz.elim λhcl zz=>zz.elim λhd hv=>⟨d,o,vs,q,t,e,hk d o (λhm=>by
   have:=hc.2.2
   rw [hm,this] at ho
   cases ho
   cases hcl) ho,hcl,hd,hv⟩
  refine ⟨?_,λb o e hb=>hk b o (λQ7=>hb (Q7▸hP)) (i.keep b o e hb),λx hx=>?_⟩
  ·refine ob1_1 i.last λo' ho'=>?_
   exact ⟨o',hk _ o' (λh=>hl.1 (h▸hP)) ho'⟩
  ·refine ob1_2 (i.code x hx) λqs K3 hr=>?_
   have K7:x.1≠P:=λhe=>by
    have:=Ui.mp C.apart x hx
    rw [he] at this
    simp at this
    refine ob1_2 (SN.mp hP) λy hy az=>?_;obtain rfl:=az
    exact this y.1 hy
   by_cases K0:x.2=P
   ·have Qy:qs=ps:=by
     have h1:=K3.2.2
     rw [K0,hc.2.2] at h1
     cases h1;rfl
    subst Qy
    refine ⟨ps',?_,hn hr⟩
    rw [K0]
    rw [K0] at K3
    obtain ⟨⟨o,vs,file,tf,flags,tg,M9,text,tt,op,a,r1,r2,r3,r4,r5,r6,b,r⟩,⟨o',vs',t1,t2,t3,t4⟩,t5⟩:=K3
    obtain ⟨⟨o2,PE,O_,RQ,NY,RP,Qe,text2,RO,PW,a2,_,_,_,_,_,_,b2,r7,r8,_⟩,_,u5⟩:=hc'
    exact ⟨⟨o,vs,file,tf,flags,tg,M9,text,tt,PW,hk _ _ K7 a,r1,r2,r3,r4,r5,r6,b2,r7,r8,K7⟩,⟨o',vs',hk _ _ K7 t1,t2,t3,t4⟩,u5⟩
   ·exact ⟨qs,xq K3 (λo e=>hk _ o K7 e) λo e=>hk _ o K0 e,pQ hrec hr⟩
variable {prog w} {X:K.In h0} {C:Fg K pairs} {hl:h0.objs.size - 1∉pairs.map (·.2)/\∃ o,h0.get? (h0.objs.size - 1)=some o}
theorem ym:(bF prog w X C hl).inv h0:=⟨hl.2,λb o e z! => e,λx hx=>⟨#[],iQ X (gu C.gen x hx),.nil⟩⟩
theorem eg:∀ h,(bF prog w X C hl).inv h->(a_ K pairs).In h:=λh i a o e=>by
 refine ob0_2 (bR e) λh1 h2=>?_
 exact i.keep a o (X _ _ h1) h2
theorem yo {c P:Addr} (h:(c,P)∈pairs):∃ c' P',Vc c = .ref c'/\P'∈(bF prog w X C hl).tabs/\∀ h,(bF prog w X C hl).inv h->∃ ps,bU h c' P' ps:=⟨c,P,rfl,SN.mpr ⟨_,h,rfl⟩,λh' i=>(i.code _ h).imp λps zz=>zz.elim λh1 z! => h1⟩
end
section
open PySem.Builtin.Re PySem.Builtin
noncomputable def zf (K:Frag) (f:Addr):FuncData:=match K.lookup f with
 | some ⟨_,_,.func fd,_⟩=>fd
 | _=>default
noncomputable def fu (K:Frag) (f:Addr):Value:=(zf K f).pyModule
noncomputable def ie (K:Frag) (f:Addr):Value:=(zf K f).code
noncomputable def Ey (K:Frag) (f:Addr):Value:=(zf K f).closureTuple
noncomputable def refOf:Value->Addr
 | .ref a=>a
 | _=>0
noncomputable def wg (K:Frag) (f:Addr):Addr:=refOf (ie K f)
noncomputable def iG (K:Frag) (f:Addr):Obj:=(K.lookup f).getD {cls:=.none,data:=.plain}
noncomputable def uI (K:Frag) (c:Addr):Bool:=match K.lookup c with
 | some ⟨_,_,.cell _,_⟩=>true
 | _=>false
noncomputable def CK (K:Frag) (fd:FuncData):Bool :=
 codeIn K fd.code fd.qualname && Nat.beq fd.globals mainGlobals && Nat.beq fd.builtins builtinsNs && decide (fd.scope.kind = .function) && !fd.scope.isCoroutine && !fd.scope.isGenerator &&
  decide ((fd.scope.names.map (·.1)).Nodup) && (fd.scope.names.all λx=>decide (x.2 ≠ .free) || (fd.closure.lookup x.1).isSome) && fd.closure.all λx=>uI K x.2
theorem qv {α β:Type} [BEq α] [LawfulBEq α] {x:α} {y:β}:∀ {l:List (α×β)},l.lookup x=some y->(x,y)∈l
 | [],h=>by cases h
 | (a,b)::l,h=>by
  rw [S8] at h
  split at h
  ·rename_i e
   cases h
   rw [U0 e];exact R_ ..
  ·exact Sb _ (qv h)
structure mS (K:Frag) (f:Addr) (fd:FuncData) (body:List Stmt):Prop where
 at_:K.lookup f=some (iG K f)
 dat:(iG K f).data = .func fd
 body:fd.body = .stmts body
 Ff:CK K fd=true
section
variable {K:Frag} {pairs:List (Addr×Addr)} {h0:Heap} {X:K.In h0} {C:Fg K pairs} {hl:h0.objs.size - 1∉pairs.map (·.2)/\∃ o,h0.get? (h0.objs.size - 1)=some o}
theorem mS.ok (F:mS (a_ K pairs) f fd body):bQ (bF prog w X C hl) f fd body:=by
 obtain ⟨at_,hfd,hb,Ff⟩:=F
 refine ob0_2 (bR at_) λh1 h2=>?_
 unfold CK at Ff
 simp only [V9,Bool.not_eq_true',decide_eq_true_eq] at Ff
 refine ob0_2 Ff λbM c9=>?_;refine ob0_2 bM λbM c8=>?_;refine ob0_2 bM λbM c7=>?_;refine ob0_2 bM λbM c6=>?_;refine ob0_2 bM λbM c5=>?_;refine ob0_2 bM λbM c4=>?_;refine ob0_2 bM λbM c3=>?_;refine ob0_2 bM λc1 c2=>?_
 refine ⟨⟨_,X _ _ h1,hfd⟩,h2,hb,λh i=>codeRec_of (eg h i) c1,Nat.eq_of_beq_eq_true c2,Nat.eq_of_beq_eq_true c3,c4,c5,c6,c7,λx hx=>?_,λx c hc=>?_⟩
 ·have:=Ui.mp c8 _ hx
  rw [WO] at this
  rcases this with h | h
  ·exact absurd rfl (of_decide_eq_true h)
  ·exact Option.isSome_iff_exists.mp h
 ·have:=Ui.mp c9 _ (qv hc)
  unfold uI at this
  split at this
  ·rename_i c' d' v sl hh
   refine ⟨SY (X _ _ (bR hh).1),λh i=>⟨v,_,eg h i _ _ hh,rfl⟩⟩
  ·cases this
theorem xw {S K':Frag} (X:K'.In h) (e:S.map (λx=>K'.lookup x.1)=S.map λx=>some x.2):S.In h:=by
 refine Frag.in_of rfl ?_
 rw [S3]
 refine Te λx hx=>?_
 exact X _ _ (List.map_inj_left.mp e x hx)
theorem Dk (e:nsOkIn (a_ K pairs) N=true):∀ h,(bF prog w X C hl).inv h->h.Ns N (h0.nsMap N):=by
 have e0:=e
 unfold nsOkIn at e
 split at e
 ·rename_i c d es n sl hh
  refine ob0_2 (bR hh) λh1 h2=>?_
  have hX:(a_ K pairs).In h0:=λa o e=>X _ _ (bR e).1
  exact λh i=>j8 (.of_isNs (WN hX e0)) λo e=>i.keep _ o e h2
 ·cases e
noncomputable def eB (K:Frag) (C:Addr):ClassData:=(clsIn K C).getD ⟨"",[],[],0,"",true,[],[],false,none,false⟩
noncomputable def slotIn (K:Frag) (C:Addr) (i:Nat):Option Value:=(iG K C).slots.getD i none
noncomputable def strOf:Option Value->String
 | some (.builtin s)=>s
 | _=>""
noncomputable def tC (K:Frag) (C N:Addr) (bm:List Value):Obj :=
 excClassObj (eB K C).name (eB K C).qualname C N (eB K C).bases bm true (eB K C).slotNames (eB K C).subclasses (eB K C).abstract (eB K C).collection (iG K C).dict (slotIn K C 0) (slotIn K C 1) (slotIn K C 2) (slotIn K C 3) (slotIn K C 5) (strOf (slotIn K C 4))
theorem dS {bm:List Value} {name:Str} (e:(a_ K pairs).lookup D=some (tC (a_ K pairs) D N bm)) (n:nsOkIn (a_ K pairs) N=true) (e1:nsIn (a_ K pairs) N "__setattr__"=some none) (e2:nsIn (a_ K pairs) N name=some none) :
  ek (bF prog w X C hl) D N bm name:=by
 have hX:(a_ K pairs).In h0:=λa o e=>X _ _ (bR e).1
 exact ⟨⟨_,_,_,_,_,_,_,_,_,_,_,_,_,_,λh i=>eg h i _ _ e⟩,_,Dk n,nsMap_none_of_in hX n e1,nsMap_none_of_in hX n e2⟩
noncomputable def zg (K:Frag) (a:Addr) (i:Nat):Value:=match (iG K a).data with
 | .fields vs=>vs.getD i .none
 | _=>.none
noncomputable def intOf:Value->Int
 | .int i _=>i
 | _=>0
noncomputable def tokOf:Value->Tok
 | .int _ t=>t
 | .str _ t=>t
 | _=>0
noncomputable def Cm (K:Frag) (a:Addr):Array Value:=match (iG K a).data with
 | .seq vs _=>vs
 | _=>#[]
noncomputable def Dd (K:Frag) (a:Addr):Nat:=match (iG K a).data with
 | .seq _ n=>n
 | _=>0
noncomputable def Cg (K:Frag) (N:Addr) (x:Str):Tok:=match nsIn K N x with
 | some (some v)=>tokOf v
 | _=>0
structure BK (K:Frag) (a ct:Addr) (code:Array Nat):Prop where
 pat:K.lookup a=some {cls:=.type "re.Pattern",data:=.fields #[zg K a 0,.int (intOf (zg K a 1)) (tokOf (zg K a 1)),.int 0 0,.none,.none,.ref ct,.int 0 0]}
 tup:K.lookup ct=some {cls:=.type "tuple",data:=.seq (Cm K ct) (Dd K ct)}
 code:((Cm K ct).map reRawOf).map (·.toNat)=code
theorem BK.ok {a ct:Addr} {code:Array Nat} (p:BK (a_ K pairs) a ct code):∀ h,(bF prog w X C hl).inv h->d7 h a ct code:=λh i =>
 ⟨⟨_,_,_,eg h i _ _ p.pat⟩,_,_,eg h i _ _ p.tup,p.code⟩
end
end
noncomputable abbrev dK:Program:=PySem.Challenge.pw_rs0183_01
noncomputable abbrev KY:Nat:=8
noncomputable abbrev KZ:Nat:=9
noncomputable abbrev Qf:Nat:=5
noncomputable abbrev Qg:Nat:=6
noncomputable abbrev KW:Nat:=14
noncomputable abbrev E0:Addr:=208
noncomputable abbrev E1:Addr:=217
noncomputable abbrev Pf:Addr:=200
noncomputable abbrev Pg:Addr:=209
noncomputable abbrev OG:Addr:=201
noncomputable abbrev OH:Addr:=210
noncomputable abbrev Ol:Tok:=501
noncomputable abbrev Om:Tok:=515
noncomputable abbrev EY:Addr:=234
noncomputable abbrev Lc:Addr:=222
noncomputable abbrev Lb:Addr:=227
noncomputable abbrev Pw:Addr:=221
noncomputable abbrev Pu:Addr:=226
noncomputable abbrev aX:Addr:=195
noncomputable abbrev IW:Addr:=194
noncomputable abbrev wK:Addr:=119
noncomputable abbrev BH:Addr:=132
noncomputable abbrev dY:Addr:=139
noncomputable abbrev gz:Addr:=147
noncomputable abbrev gy:Addr:=155
noncomputable abbrev jW:Addr:=162
noncomputable abbrev jV:Addr:=169
noncomputable abbrev gU:Addr:=177
noncomputable abbrev mP:Addr:=184
noncomputable abbrev lZ:Addr:=192
noncomputable abbrev Ph:Addr:=124
noncomputable abbrev zy:Addr:=140
noncomputable abbrev CL:Addr:=170
noncomputable abbrev PG:Tok:=415
noncomputable abbrev C6:Tok:=434
noncomputable abbrev dc:Addr:=111
noncomputable abbrev sC:Addr:=110
noncomputable abbrev EX:Addr:=52
noncomputable abbrev jU:Addr:=59
noncomputable abbrev jy:Addr:=73
noncomputable abbrev ir:Addr:=108
noncomputable abbrev KX:Nat:=16
noncomputable abbrev Jj:Nat:=17
noncomputable abbrev CV:Addr:=246
noncomputable abbrev E9:Nat:=18
noncomputable abbrev EZ:Addr:=251
noncomputable abbrev BG:Addr:=241
noncomputable def qZ:List Str:=["a","x","lo","hi","key"]
noncomputable def oN (pm code:Value):FuncData:=fdOf (bH dK KY) "bisect_right" [] (.ref Pf) (.ref OG) pm code .none
noncomputable def oO (pm code:Value):FuncData:=fdOf (bH dK KZ) "bisect_left" [] (.ref Pg) (.ref OH) pm code .none
noncomputable def zL (P:Params):Frag:=[(Pf,{cls:=.type "tuple",data:=.seq #[.int 0 Ol,.none]}),(OG,{cls:=.type "dict",data:=.dict #[{hash:=PyData.keyHash P "key",key:=.str "key" (Ol+1),val:=.none}] 1}),
 (Pg,{cls:=.type "tuple",data:=.seq #[.int 0 Om,.none]}),(OH,{cls:=.type "dict",data:=.dict #[{hash:=PyData.keyHash P "key",key:=.str "key" (Om+1),val:=.none}] 1})]
structure l5 (G:Glob):Prop where
 mF:∀ h,G.inv h->(zL G.w.params).In h
 br:∃ pm code,bQ G E0 (oN pm code) (bodyOf (bH dK KY))
 bl:∃ pm code,bQ G E1 (oO pm code) (bodyOf (bH dK KZ))
 len:G.mg "len"=none/\G.mb "len"=some (.builtin "len")
theorem By {P:Params} {a b c:Value} (X:(zL P).In s.heap):BindsTo s (oN pm code) ⟨[a,b,c],[]⟩ (qZ.zip [a,b,c,.none,.none]):=kp_binds X λz! => by kernel_rfl
theorem BA {P:Params} {a b c d:Value} (X:(zL P).In s.heap):BindsTo s (oO pm code) ⟨[a,b,c,d],[]⟩ (qZ.zip [a,b,c,d,.none]):=kp_binds X λz! => by kernel_rfl
noncomputable def JH (b:Bool) (hi:Nat):PV:=if b then .none else .int hi
theorem wj (ok:l5 G) (b:Bool)
 {es:List PV} {x:PV} {lo hi:Nat} {p:Nat->Bool} (hhi:hi<=es.length) (hb:b=true->hi=es.length) (hcmp:∀ i e,es[i]? = some e->wG G .Lt x e (p i)) :
 XS G (eO (oN pm code) f A s L n) (qZ.zip [.lst es,x,.int lo,JH b hi,.none]).reverse W [] (bodyOf (bH dK KY)) (λfl s'=>aG G [] s s'/\Rep W s'.heap (.int (bis p lo hi)) (match fl with | .ret v=>v | _=>.none)):=by
 refine XS.skip ((TV.cmp (EV.name rfl) EV.aE jG).conv (decide_eq_false (by exact wR))) ?_
 refine XS.ite (λs'=>St G (eO (oN pm code) f A s L n) [("hi",.int hi),("lo",.int lo),("a",.lst es),("x",x),("key",.none)] W [] s') (TV.cmp (EV.name rfl) EV.nH (eF b (by cases b <;> rfl))) (λhb'=>?_) (λhb'=>?_) ?_
 ·refine XS.asg (EV.sM (EV.blt rfl ok.len.1 ok.len.2) (EV.name rfl)) (AV.name (.inl rfl)) (XS.nil λs₁ S₁=>S₁.weaken ?_)
  refine af ?_ (af rfl (af rfl (af rfl (af rfl ak))))
  rw [hb hb'];rfl
 ·subst hb'
  exact XS.nil λs₁ S₁=>S₁.weaken (af rfl (af rfl (af rfl (af rfl (af rfl ak)))))
 intro s₀ wA
 revert s₀
 show XS G _ _ _ _ _ _
 refine XS.take (TV.cmp (EV.name rfl) EV.nH (eF true rfl)) (λs'=>St G (eO (oN pm code) f A s L n) [("lo",.int (bis p lo hi))] W [] s') ?_
  (λs₁ S₁=>XS.ret (EV.name rfl) (λs₂ v S r=>⟨S.stp,r⟩) s₁ S₁)
 refine XS.while (τ:=Nat×Nat) (λz=>bis p z.1 z.2=bis p lo hi/\z.2<=es.length) (λz=>z.2 - z.1)
  (λz=>[("lo",.int z.1),("hi",.int z.2),("a",.lst es),("x",x)]) (λz=>decide ((z.1:Int)<z.2)) (lo,hi) ⟨rfl,hhi⟩ ?_ (λz hz=>TV.cmp (EV.name rfl) (EV.name rfl) jG)
  (λz hz hc=>?_) (λz hz hc=>XS.nil λs₁ S₁=>S₁.weaken ?_)
 ·exact af rfl (af rfl (af rfl (af rfl ak)))
 ·obtain ⟨i,j⟩:=z
  have hij:i<j:=Ul.mp (of_decide_eq_true hc)
  have hm:(i+j) / 2<es.length:=Sd (kC hij) hz.2
  refine XS.asg (p:=.int ((i+j) / 2:Nat)) (EV.conv (EV.fdiv (EV.add (EV.name rfl) (EV.name rfl)) EV.aE (by decide) (by decide)) ?_) (AV.name (.inl rfl)) ?_
  ·rw [show (((i:Nat):Int)+((j:Nat):Int)).fdiv 2=((i+j) / 2:Nat) from by rw [W9 _ (by decide)];exact Cd]
  refine XS.ite (λs'=>∃ z':Nat×Nat,(bis p z'.1 z'.2=bis p lo hi/\z'.2<=es.length)/\z'.2 - z'.1<j - i/\St G (eO (oN pm code) f A s L n) [("lo",.int z'.1),("hi",.int z'.2),("a",.lst es),("x",x)] W [] s')
   (TV.cmp (EV.name rfl) (EV.yK (p:=es[(i+j) / 2]) (EV.name rfl) (EV.name rfl) ?_) (hcmp ((i+j) / 2) _ (Sv hm) _ _ _ _)) (λhp=>?_) (λhp=>?_) (λs₁ h₁=>UD h₁)
  ·exact oG (Sv hm)
  ·refine XS.asg (EV.name rfl) (AV.name (.inl rfl)) (XS.nil λs₁ S₁=>⟨(i,(i+j) / 2),⟨?_,?_⟩,?_,S₁.weaken (af rfl (af rfl (af rfl (af rfl ak))))⟩)
   ·exact (EJ hij hp).symm.trans hz.1
   ·show (i+j) / 2<=_
    exact S1 hm
   ·exact Nat.sub_lt_sub_right (fH hij) (kC hij)
  ·refine XS.asg (EV.add (EV.name rfl) EV.aE) (AV.name (.inl rfl)) (XS.nil λs₁ S₁=>⟨((i+j) / 2+1,j),⟨?_,?_⟩,?_,S₁.weaken (af rfl (af rfl (af rfl (af rfl ak))))⟩)
   ·exact (EI hij hp).symm.trans hz.1
   ·exact hz.2
   ·exact Xh hij (Sp (fH hij))
 ·obtain ⟨i,j⟩:=z
  have hij:¬ i<j:=λh=>of_decide_eq_false hc (Ul.mpr h)
  refine af ?_ ak
  exact congrArg (λn:Nat=>some (PV.int n)) ((uK hij).symm.trans hz.1)
theorem wk (ok:l5 G) (b:Bool)
 {es:List PV} {x:PV} {lo hi:Nat} {p:Nat->Bool} (hhi:hi<=es.length) (hb:b=true->hi=es.length) (hcmp:∀ i e,es[i]? = some e->wG G .Lt e x (!p i)) :
 XS G (eO (oO pm code) f A s L n) (qZ.zip [.lst es,x,.int lo,JH b hi,.none]).reverse W [] (bodyOf (bH dK KZ)) (λfl s'=>aG G [] s s'/\Rep W s'.heap (.int (bis p lo hi)) (match fl with | .ret v=>v | _=>.none)):=by
 refine XS.skip ((TV.cmp (EV.name rfl) EV.aE jG).conv (decide_eq_false (by exact wR))) ?_
 refine XS.ite (λs'=>St G (eO (oO pm code) f A s L n) [("hi",.int hi),("lo",.int lo),("a",.lst es),("x",x),("key",.none)] W [] s') (TV.cmp (EV.name rfl) EV.nH (eF b (by cases b <;> rfl))) (λhb'=>?_) (λhb'=>?_) ?_
 ·refine XS.asg (EV.sM (EV.blt rfl ok.len.1 ok.len.2) (EV.name rfl)) (AV.name (.inl rfl)) (XS.nil λs₁ S₁=>S₁.weaken ?_)
  refine af ?_ (af rfl (af rfl (af rfl (af rfl ak))))
  rw [hb hb'];rfl
 ·subst hb'
  exact XS.nil λs₁ S₁=>S₁.weaken (af rfl (af rfl (af rfl (af rfl (af rfl ak)))))
 intro s₀ wA
 revert s₀
 show XS G _ _ _ _ _ _
 refine XS.take (TV.cmp (EV.name rfl) EV.nH (eF true rfl)) (λs'=>St G (eO (oO pm code) f A s L n) [("lo",.int (bis p lo hi))] W [] s') ?_
  (λs₁ S₁=>XS.ret (EV.name rfl) (λs₂ v S r=>⟨S.stp,r⟩) s₁ S₁)
 refine XS.while (τ:=Nat×Nat) (λz=>bis p z.1 z.2=bis p lo hi/\z.2<=es.length) (λz=>z.2 - z.1)
  (λz=>[("lo",.int z.1),("hi",.int z.2),("a",.lst es),("x",x)]) (λz=>decide ((z.1:Int)<z.2)) (lo,hi) ⟨rfl,hhi⟩ ?_ (λz hz=>TV.cmp (EV.name rfl) (EV.name rfl) jG)
  (λz hz hc=>?_) (λz hz hc=>XS.nil λs₁ S₁=>S₁.weaken ?_)
 ·exact af rfl (af rfl (af rfl (af rfl ak)))
 ·obtain ⟨i,j⟩:=z
  have hij:i<j:=Ul.mp (of_decide_eq_true hc)
  have hm:(i+j) / 2<es.length:=Sd (kC hij) hz.2
  refine XS.asg (p:=.int ((i+j) / 2:Nat)) (EV.conv (EV.fdiv (EV.add (EV.name rfl) (EV.name rfl)) EV.aE (by decide) (by decide)) ?_) (AV.name (.inl rfl)) ?_
  ·rw [show (((i:Nat):Int)+((j:Nat):Int)).fdiv 2=((i+j) / 2:Nat) from by rw [W9 _ (by decide)];exact Cd]
  refine XS.ite (λs'=>∃ z':Nat×Nat,(bis p z'.1 z'.2=bis p lo hi/\z'.2<=es.length)/\z'.2 - z'.1<j - i/\St G (eO (oO pm code) f A s L n) [("lo",.int z'.1),("hi",.int z'.2),("a",.lst es),("x",x)] W [] s')
   (TV.cmp (EV.yK (p:=es[(i+j) / 2]) (EV.name rfl) (EV.name rfl) ?_) (EV.name rfl) (hcmp ((i+j) / 2) _ (Sv hm) _ _ _ _)) (λhp=>?_) (λhp=>?_) (λs₁ h₁=>UD h₁)
  ·exact oG (Sv hm)
  ·refine XS.asg (EV.add (EV.name rfl) EV.aE) (AV.name (.inl rfl)) (XS.nil λs₁ S₁=>⟨((i+j) / 2+1,j),⟨?_,?_⟩,?_,S₁.weaken (af rfl (af rfl (af rfl (af rfl ak))))⟩)
   ·have DT:p ((i+j) / 2)=false:=by simpa using hp
    rw [<- hz.1]
    conv=>rhs;rw [bis]
    simp only [hij,if_true,DT,Up,if_false]
   ·exact hz.2
   ·exact Xh hij (Sp (fH hij))
  ·refine XS.asg (EV.name rfl) (AV.name (.inl rfl)) (XS.nil λs₁ S₁=>⟨(i,(i+j) / 2),⟨?_,?_⟩,?_,S₁.weaken (af rfl (af rfl (af rfl (af rfl ak))))⟩)
   ·have DT:p ((i+j) / 2)=true:=by simpa using hp
    rw [<- hz.1]
    conv=>rhs;rw [bis]
    simp only [hij,if_true,DT]
   ·show (i+j) / 2<=_
    exact S1 hm
   ·exact Nat.sub_lt_sub_right (fH hij) (kC hij)
 ·obtain ⟨i,j⟩:=z
  have hij:¬ i<j:=λh=>of_decide_eq_false hc (Ul.mpr h)
  refine af ?_ ak
  exact congrArg (λn:Nat=>some (PV.int n)) ((uK hij).symm.trans hz.1)
theorem ah.four {p q z y vs} (r:ah W h [p,q,z,y] vs):∃ v u t o,vs=[v,u,t,o]/\Rep W h p v/\Rep W h q u/\Rep W h z t/\Rep W h y o:=by
 rw [ah] at r;refine ob2_3 r λv vs' az r1 r2=>?_;obtain rfl:=az
 refine ob3_4 r2.three λu t o rG r3 r4 r5=>?_;obtain rfl:=rG;exact ⟨v,u,t,o,rfl,r1,r3,r4,r5⟩
theorem ah.mk2 {p q v u} (a:Rep W h p v) (b:Rep W h q u):ah W h [p,q] [v,u]:=by
 rw [ah];refine ⟨_,_,rfl,a,?_⟩;rw [ah];exact ⟨_,_,rfl,b,by rw [ah]⟩
theorem ah.OF {p q z y x v u t o e} (a:Rep W h p v) (b:Rep W h q u) (c:Rep W h z t) (d:Rep W h y o) (f:Rep W h x e):ah W h [p,q,z,y,x] [v,u,t,o,e]:=by
 rw [ah];refine ⟨_,_,rfl,a,?_⟩;rw [ah];refine ⟨_,_,rfl,b,?_⟩;rw [ah];exact ⟨_,_,rfl,c,ah.mk2 d f⟩
theorem Ks:∀ x∈qZ,(oN pm code).scope.names.lookup x=some .local\/(oN pm code).scope.names.lookup x=some .cell:=eW (.inl rfl) (eW (.inl rfl) (eW (.inl rfl) (eW (.inl rfl) (eW (.inl rfl) zQ))))
theorem EL:∀ x∈qZ,(oO pm code).scope.names.lookup x=some .local\/(oO pm code).scope.names.lookup x=some .cell:=eW (.inl rfl) (eW (.inl rfl) (eW (.inl rfl) (eW (.inl rfl) (eW (.inl rfl) zQ))))
theorem Kr (ok:l5 G) {es:List PV} {x:PV} {lo:Nat} {p:Nat->Bool} (hcmp:∀ i e,es[i]? = some e->wG G .Lt x e (p i)):FC G E0 (n+1) [.lst es,x,.int lo] (.int (bis p lo es.length)):=by
 refine ob2_1 ok.br λpm code fn=>?_
 refine FC.of fn (names:=qZ) (ps':=[.lst es,x,.int lo,.none,.none]) (λs W vs iv r=>?_) rfl Ks (λA W s L hA=>wj (lo:=lo) ok true (Si _) (λz! => rfl) hcmp)
 refine ob3_4 r.three λa b c rG r1 r2 r3=>?_;obtain rfl:=rG
 exact ⟨[a,b,c,.none,.none],By (ok.mF _ iv),.OF r1 r2 r3 Rep.none Rep.none⟩
theorem Ku (ok:l5 G) {es:List PV} {x:PV} {lo hi:Nat} {p:Nat->Bool} (hhi:hi<=es.length) (hcmp:∀ i e,es[i]? = some e->wG G .Lt e x (!p i)):FC G E1 (n+1) [.lst es,x,.int lo,.int hi] (.int (bis p lo hi)):=by
 refine ob2_1 ok.bl λpm code fn=>?_
 refine FC.of fn (names:=qZ) (ps':=[.lst es,x,.int lo,.int hi,.none]) (λs W vs iv r=>?_) rfl EL (λA W s L hA=>wk (lo:=lo) (hi:=hi) ok false hhi (λh=>nomatch h) hcmp)
 refine ob4_5 r.four λa b c d wW r1 r2 r3 r4=>?_;obtain rfl:=wW
 exact ⟨[a,b,c,d,.none],BA (ok.mF _ iv),.OF r1 r2 r3 r4 Rep.none⟩
theorem EV.rawStr {t:Tok} (h:EV G F ρ W Rs e (.raw (.str x t))) (hl:x.length<=lim:=by decide):EV G F ρ W Rs e (.str x):=λs S =>
 aF (h s S) λv s' zz=>zz.elim λy r=>⟨y,by rw [Rep] at r;subst r;exact Rep.str hl⟩
theorem EV.Cw {name:Str} {T:String} {a:Addr} (ho:EV G F ρ W Rs o (.raw (.ref a))) (ha:aV G F ρ W Rs es ps)
  (hobj:∀ h,G.inv h->∃ ob,h.get? a=some ob/\ob.cls = .type T/\ob.dict=none) (pa:PlainAttrs T) (slot:Slot T name id) (ty:typeOf (.builtin id)=pure (.type "method_descriptor"))
  (h:∀ s vs,St G F ρ W Rs s->ah W s.heap ps vs->Gv G F.A W (call (.builtin id) (.ref a::vs)) q s)
  (hne:es≠[]:=by simp)
  (hbase:attributeBase o name F.env (eval o F.env)=eval o F.env:=by rfl)
  (hfew:((backTo pos (starEach es F.env)).all (λx => !x.1) && (backToKw pos (keywordEach [] F.env)).all (λx=>x.1.isSome)
   && decide (es.length+([]:List Keyword).length+(if ([]:List Keyword).isEmpty then 0 else 1)<30))=true:=by rfl)
  (hst:backTo pos (starEach es F.env)=es.map (λe=>(false,eval e F.env)):=by rfl)
  (hline:(apos.endLine == pos.line)=true:=by rfl) :
  EV G F ρ W Rs (.Call (.Attribute o name apos) es [] pos) q:=λs S=>by
 obtain ⟨e,es',rfl⟩:∃ e es',es=e::es':=by cases es with | nil=>exact absurd rfl hne | cons a b=>exact ⟨a,b,rfl⟩
 refine Ug hbase hfew hline (aF (ho s S) λv s₁ zz=>zz.elim λy r=>?_)
 rw [Rep] at r;subst r
 refine ob1_3 (hobj _ (y.inv S.inv)) λob e1 e2 e3=>?_
 rw [hst]
 refine ⟨T,id,pa,slot,ty,⟨_,e1,e2⟩,(λa' e=>by cases e;exact ⟨_,e1,e3⟩),?_⟩
 refine Tq (noStar _) ?_
 exact Ti (aF (ha s₁ (S.step y)) λvs s₂ zz=>zz.elim λz rs=>aF (h s₂ vs ((S.step y).step z) rs) λv s₃ zz=>zz.elim λu ru=>⟨y.trans (z.trans u),ru⟩)
theorem CI {a ct:Addr} {code:Array Nat} {r z:Str} (hp:∀ h,G.inv h->d7 h a ct code) (hf:rC code x.cps next) (hr:r.cps.contains 92=false)
  (hn:(cA next x r (x.length+1) 0).length<=lim) (hsum:((cA next x r (x.length+1) 0).map (·.length)).sum<=lim) (hz:vg next x r=z) (sP:z.length<=lim) :
  ∀ s vs,St G F ρ W Rs s->ah W s.heap [.str r,.str x] vs->Gv G F.A W (call (.builtin "re.Pattern.sub") (.ref a::vs)) (.str z) s:=λs vs S rs=>by
 refine ob2_3 rs.two λv u az r1 r2=>?_;obtain rfl:=az
 refine ob0_2 r1.isStr λz! aA=>?_;refine ob1_1 aA λt1 bh=>?_;obtain rfl:=bh
 refine ob0_2 r2.isStr λhx aA=>?_;refine ob1_1 aA λt2 bh=>?_;obtain rfl:=bh
 refine C2 hf hx hr (hp _ S.inv) hn hsum λh' tk t' hk=>⟨.of_keeps G hk,?_⟩
 rw [hz]
 exact Rep.str sP
structure Ld (G:Glob):Prop where
 p1:∀ h,G.inv h->d7 h Lc Pw cy
 p2:∀ h,G.inv h->d7 h Lb Pu bL
 g1:G.mg "_twin_re_1"=some (.ref Lc)
 g2:G.mg "_twin_re_2"=some (.ref Lb)
 g3:∃ t,G.mg "CRLF"=some (.str "\r\n" t)
 fn:∃ pm code,bQ G EY (fdOf (bH dK KW) "quotedata" [] .none .none pm code .none) (bodyOf (bH dK KW))
theorem d7.ob {h:Heap} {a ct:Addr} {code:Array Nat} (p:d7 h a ct code):∃ ob,h.get? a=some ob/\ob.cls = .type "re.Pattern"/\ob.dict=none:=by
 refine ob3_1 p.pat λsrc fl t e=>?_
 exact ⟨_,e,rfl,rfl⟩
theorem xT (ok:Ld G) (hx:x.length<=65536):FC G EY (n+1) [.str x] (.str (quoted x)):=by
 refine ob2_1 ok.fn λpm code fn=>?_
 refine ob1_1 ok.g3 λt QY=>?_
 have hlim:lim=1048576:=by decide
 refine FC.of fn (names:=["data"]) (ps':=[.str x]) (λs W vs iv r=>?_) rfl (Tv.mpr (.inl rfl)) (λA W s L hA=>?_)
 ·refine ob1_2 r.one λa aB r1=>?_;obtain rfl:=aB
  exact ⟨[a],Uy rfl,r⟩
 ·have c2:=kL (r:=⟨#[13,10]⟩) (zh x.cps).ok (x.length+1) 0 (SX _)
  have hz2:x.cps.size=x.length:=rfl
  have hy:(⟨(crlf x.cps.toList).toArray⟩:Str).length<=131072:=by
   have:=i6 _ x.cps.toList (Si _)
   show (crlf x.cps.toList).toArray.size<=_
   simp only [TJ,TY] at this ⊢
   exact Iq hx hz2 this
  generalize OP:(⟨(crlf x.cps.toList).toArray⟩:Str)=y at hy
  have OQ:quoted x=⟨(dots true y.cps.toList).toArray⟩:=by rw [<- OP];rfl
  have hq:(quoted x).length<=lim:=by
   rw [OQ]
   have:=lN y.cps.toList true
   have hy':y.cps.size<=131072:=hy
   show (dots true y.cps.toList).toArray.size<=_
   simp only [TJ,TY] at this ⊢
   exact Ip hlim this hy'
  have c1:=kL (x:=y) (r:=⟨#[46,46]⟩) (zj y.cps (R9 hy (by decide))).ok (y.length+1) 0 (SX _)
  have hz1:y.cps.size=y.length:=rfl
  have l2:(⟨#[13,10]⟩:Str).length=2:=rfl
  have l1:(⟨#[46,46]⟩:Str).length=2:=rfl
  rw [hz2,l2] at c2
  rw [hz1,l1] at c1
  refine XS.ret (EV.Cw (EV.glob rfl ok.g1) (aV.cons EV.bP (aV.cons (EV.Cw (EV.glob rfl ok.g2) (aV.cons (EV.rawStr (EV.glob rfl QY)) (aV.cons (EV.name rfl) .nil)) (λh iv=>(ok.p2 h iv).ob) gj fj iC
   (CI (z:=y) ok.p2 (zh x.cps) (by kernel_rfl) (R9 c2.1 (by exact Il hx hlim)) (R9 c2.2 (R9 (VM 3 hx) (Sz rfl))) ((xy x).trans OP) (by exact Ij hlim hy))) .nil)) (λh iv=>(ok.p1 h iv).ob) gj fj iC
   (CI (z:=quoted x) ok.p1 (zj y.cps (R9 hy (by decide))) (by kernel_rfl) (R9 c1.1 (by exact Ih hlim hy)) (R9 c1.2 (R9 (VM 3 hy) (Sz rfl))) ((xA y).trans OQ.symm) hq)) (λs₂ v S r=>⟨S.stp,r⟩)
section
variable {K:Frag} {a d:Addr}
noncomputable def CA (st:Stmt) (j:Nat):Stmt:=(bodyOf st).getD j (.Pass ⟨0,0,0,0⟩)
noncomputable abbrev jm (j:Nat):Stmt:=CA (bH dK Qg) j
noncomputable def kJ:List (Str×Addr):=[("__class__",wK)]
noncomputable def pA:Frag:=[(Ph,{cls:=.type "tuple",data:=.seq #[.int 0 PG]}),(zy,{cls:=.type "tuple",data:=.seq #[.int 0 C6]}),(CL,{cls:=.type "tuple",data:=.seq #[.none]})]
noncomputable def zl (pm code ct:Value):FuncData:=fdOf (jm 0) "_Accumulator.__init__" kJ (.ref Ph) .none pm code ct
noncomputable def uA (pm code:Value):FuncData:=fdOf (jm 1) "_Accumulator.push" [] .none .none pm code .none
noncomputable def uB (pm code:Value):FuncData:=fdOf (jm 2) "_Accumulator.pop_from" [] (.ref zy) .none pm code .none
noncomputable def lI (pm code ct:Value):FuncData:=fdOf (jm 3) "_Accumulator.pop" kJ .none .none pm code ct
noncomputable def sZ (pm code:Value):FuncData:=fdOf (jm 4) "_Accumulator.__len__" [] .none .none pm code .none
noncomputable def sX (pm code:Value):FuncData:=fdOf (jm 5) "_Accumulator.__str__" [] .none .none pm code .none
noncomputable def sY (pm code:Value):FuncData:=fdOf (jm 6) "_Accumulator.reset" [] (.ref CL) .none pm code .none
noncomputable def uz (pm code:Value):FuncData:=fdOf (jm 7) "_Accumulator.is_onlyws" [] .none .none pm code .none
noncomputable def nB (pm code ct:Value):FuncData:=fdOf (jm 8) "_Accumulator.part_count" kJ .none .none pm code ct
noncomputable def pB (G:Glob) (code:Value):Prop:=∃ c P,code = .ref c/\P∈G.tabs/\∀ h,G.inv h->∃ ps,bU h c P ps
structure dH (G:Glob) (K:Frag):Prop where
 ok:pD G K aX
 st:ek G aX IW [.type "list",.type "object"] "_initial_size"
 mF:∀ h,G.inv h->pA.In h
 ini:∃ pm code ct,bQ G BH (zl pm (.ref code) ct) (bodyOf (jm 0))/\gV G K aX (zl pm (.ref code) ct) code wK
 push:∃ pm code,bQ G dY (uA pm code) (bodyOf (jm 1))
 from_:∃ pm code,bQ G gz (uB pm code) (bodyOf (jm 2))
 pop:∃ pm code ct,bQ G gy (lI pm (.ref code) ct) (bodyOf (jm 3))/\gV G K aX (lI pm (.ref code) ct) code wK
 len:∃ pm code,bQ G jW (sZ pm code) (bodyOf (jm 4))/\pB G code
 str:∃ pm code,bQ G jV (sX pm code) (bodyOf (jm 5))/\pB G code
 res:∃ pm code,bQ G gU (sY pm code) (bodyOf (jm 6))
 ws:∃ pm code,bQ G mP (uz pm code) (bodyOf (jm 7))
 pc:∃ pm code ct,bQ G lZ (nB pm (.ref code) ct) (bodyOf (jm 8))/\gV G K aX (nB pm (.ref code) ct) code wK
 bi:∃ bm,G.mg "__builtins__"=some (.ref bm)/\bm≠builtinsNs/\∀ h,G.inv h->∃ o,h.get? bm=some o/\o.cls = .type "module"/\o.dict=some builtinsNs/\o.data = .plain
 KO:findIn K (.ref aX) "__bool__"=some none
 jQ:fnIn K dY=true
 OE:E2 G K aX BH true
 low:mainGlobals<G.base.objs.size/\builtinsNs<G.base.objs.size/\cStatics<G.base.objs.size
 Eh:G.mg "sum"=none/\G.mb "sum"=some (.builtin "sum")
 sU:G.mg "len"=none/\G.mb "len"=some (.builtin "len")
 yZ:G.mg "str"=none/\G.mb "str"=some (.type "str")
 A8:∃ t,G.mg "EMPTYSTRING"=some (.str "" t)
 iH:findIn K (.ref aX) "push"=some (some (.ref dY))/\typeIn K (.ref dY)=some (.type "function")
 qq:findIn K (.ref aX) "pop_from"=some (some (.ref gz))/\typeIn K (.ref gz)=some (.type "function")
 ow:findIn K (.ref aX) "pop"=some (some (.ref gy))/\typeIn K (.ref gy)=some (.type "function")
 sE:findIn K (.ref aX) "__len__"=some (some (.ref jW))/\typeIn K (.ref jW)=some (.type "function")
 jl:findIn K (.ref aX) "__str__"=some (some (.ref jV))/\typeIn K (.ref jV)=some (.type "function")
 sD:findIn K (.ref aX) "reset"=some (some (.ref gU))/\typeIn K (.ref gU)=some (.type "function")
 IX:findIn K (.ref aX) "is_onlyws"=some (some (.ref mP))/\typeIn K (.ref mP)=some (.type "function")
 AR:findIn K (.ref aX) "part_count"=some (some (.ref lZ))/\typeIn K (.ref lZ)=some (.type "function")
theorem nS:2<=lim:=by decide
theorem iT {P:Str->Prop} (h1:P x) (h2:P y):∀ z∈[x,y],P z:=eW h1 (eW h2 zQ)
theorem uw {P:Str->Prop} {z:Str} (h1:P x) (h2:P y) (h3:P z):∀ u∈[x,y,z],P u:=eW h1 (eW h2 (eW h3 zQ))
theorem nN (ok:dH G K) {f p:Str} (hl:xs.length+1<=lim):CC G dY (n+1) [Res.acc aX a d k xs] [Res.acc aX a d k (xs++[(f,p)])] [.raw (.ref a),.str f,.str p] .none:=by
 refine ob2_1 ok.push λpm code fn=>?_
 refine CC.of fn (names:=["self","fws","string"]) (ps':=[.raw (.ref a),.str f,.str p]) (λs W vs iv r=>?_) rfl (uw (.inl rfl) (.inl rfl) (.inl rfl)) (λA W s L hA=>?_)
 ·have hlen:=r.length
  refine ob3_1 (DB hlen) λx y z rG=>?_;obtain rfl:=rG
  exact ⟨[x,y,z],Uy rfl,r⟩
 ·refine XS.eT (aq:=[Res.acc aX a d k (xs++[(f,p)])]) (ER.wz (xs:=xs) (Ro:=[]) ok.ok rfl (EV.tup (aV.cons (EV.name rfl) (aV.cons (EV.name rfl) aV.nil)) nS) hl) (XS.nil λs₁ S₁=>⟨⟨_,S₁⟩,Rep.none⟩)
theorem rm (ok:dH G K) {f p:Str} (hl:xs.length+1<=lim):MC G dY (n+1) [Res.acc aX a d k xs] [Res.acc aX a d k (xs++[(f,p)])] [.raw (.ref a),.str f,.str p] .none:=(nN ok hl).mc
theorem tK (ok:dH G K):MP G lZ (n+1) [Res.acc aX a d k xs] [.raw (.ref a)] (.int xs.length):=by
 refine ob3_2 ok.pc λpm code ct fn su=>?_
 refine MP.mz fn (names:=["self"]) (ps':=[.raw (.ref a)]) (λs W vs iv r=>?_) rfl (Tv.mpr (.inl rfl)) (λA W s L hA iv low h1 h2=>?_)
 ·refine ob1_2 r.one λx aB r1=>?_;obtain rfl:=aB
  exact ⟨[x],Uy rfl,r⟩
 ·have kn:bx G (eO (nB pm (.ref code) ct) lZ A s L n) ([("self",PV.raw (.ref a))]:List (Str×PV)) W [] (dG aX a d k xs) :=
   bx.start (r:=Res.acc aX a d k xs) rfl iv (λb hb=>(low b (h2 _ (R_ ..) b hb)).1) (h1 _ (R_ ..))
  exact jz.p_ ok.ok fn su rfl rfl rfl kn rfl rfl λs₁ v S₁ r=>⟨S₁.stp,r⟩
theorem zU (ok:dH G K):CC G BH (n+1) [Res.raw aX a d] [Res.acc aX a d k []] [.raw (.ref a),.int k] .none:=by
 refine ob3_2 ok.ini λpm code ct fn su=>?_
 refine CC.mz fn (names:=["self","initial_size"]) (ps':=[.raw (.ref a),.int k]) (λs W vs iv r=>?_) rfl (iT (.inl rfl) (.inl rfl)) (λA W s L hA=>?_)
 ·have hlen:=r.length
  refine ob2_1 (yE hlen) λx y az=>?_;obtain rfl:=az
  exact ⟨[x,y],kp_binds (ok.mF _ iv) λz! => by kernel_rfl,r⟩
 ·refine jz.lX (EV.name rfl) (TR.AF (k':=k) (Ro:=[]) ok.st rfl) ?_
  exact jz.ve ok.ok fn su rfl rfl rfl rfl rfl (jz.of (XS.nil λs₁ S₁=>⟨_,_,_,⟨rfl,rfl⟩,S₁,Rep.none⟩))
theorem zV (ok:dH G K) (hi:i<=xs.length) (hl:xs.length<=lim):MC G gz (n+1) [Res.acc aX a d k xs] [Res.acc aX a d k (xs.take i)] [.raw (.ref a),.int i] (.lst ((xs.drop i).map encP)):=by
 refine ob2_1 ok.from_ λpm code fn=>?_
 refine MC.of fn (names:=["self","i"]) (ps':=[.raw (.ref a),.int i]) (λs W vs iv r=>?_) rfl (iT (.inl rfl) (.inl rfl)) rfl (λA W s L hA=>?_)
 ·have hlen:=r.length
  refine ob2_1 (yE hlen) λx y az=>?_;obtain rfl:=az
  exact ⟨[x,y],kp_binds (ok.mF _ iv) λz! => by kernel_rfl,r⟩
 ·refine XS.asg (EV.pq ok.ok (bx.res (R_ ..)) (EV.name rfl) (EV.name rfl)) (AV.name (.inl rfl)) ?_
  refine XS.lX (p:=.lst (([]:List (Str×Str)).map encP)) (EV.list aV.nil) (TR.pq (xs:=xs) (us:=[]) (Ro:=[]) (j:=i) ok.ok rfl (EV.name rfl) hi (SX _) (by simp;exact R9 (V_ _ _) hl)) ?_
  refine XS.ret (EV.name rfl) λs₁ v S₁ r=>?_
  rw [SI] at S₁
  exact ⟨⟨_,S₁⟩,r⟩
theorem uP (ok:dH G K):MC G gy (n+2) [Res.acc aX a d k (xs++[z])] [Res.acc aX a d k xs] [.raw (.ref a)] (encP z):=by
 refine ob3_2 ok.pop λpm code ct fn su=>?_
 refine ob3_2 ok.pc λKI bL Pj K_ PJ=>?_
 refine MC.mz fn (names:=["self"]) (ps':=[.raw (.ref a)]) (λs W vs iv r=>?_) rfl (Tv.mpr (.inl rfl)) rfl (λA W s L hA=>?_)
 ·refine ob1_2 r.one λx aB r1=>?_;obtain rfl:=aB
  exact ⟨[x],Uy rfl,r⟩
 ·refine jz.skip (TV.conv (TV.cmp (EV.dj (Rm:=[Res.acc aX a d k (xs++[z])]) (Rs:=[Res.acc aX a d k (xs++[z])]) (EV.name rfl) (Found.acc ok.ok (bx.res (R_ ..)) ok.AR.1 ok.AR.2 (by decide)) K_ (tK (n:=n) ok) uW.one (Si _) l7.nil) EV.aE t7) (decide_eq_false (λh=>absurd (Int.natCast_eq_zero.mp h) (by rw [Sy];exact VH _)))) ?_
  exact jz.p9 (Ro:=[]) ok.ok fn su rfl rfl rfl rfl rfl λs₁ v S₁ r=>⟨⟨_,S₁⟩,r⟩
theorem zT (ok:dH G K):MC G gy (n+2) [Res.acc aX a d k []] [Res.acc aX a d k []] [.raw (.ref a)] (.tup [.str "",.str ""]):=by
 refine ob3_2 ok.pop λpm code ct fn su=>?_
 refine ob3_2 ok.pc λKI bL Pj K_ PJ=>?_
 refine MC.of fn (names:=["self"]) (ps':=[.raw (.ref a)]) (λs W vs iv r=>?_) rfl (Tv.mpr (.inl rfl)) rfl (λA W s L hA=>?_)
 ·refine ob1_2 r.one λx aB r1=>?_;obtain rfl:=aB
  exact ⟨[x],Uy rfl,r⟩
 ·refine XS.take (TV.cmp (EV.dj (Rm:=[Res.acc aX a d k []]) (EV.name rfl) (Found.acc ok.ok (bx.res (R_ ..)) ok.AR.1 ok.AR.2 (by decide)) K_ (tK (n:=n) ok) uW.one (Si _) l7.nil) EV.aE t7) (λz! => False) ?_ (λz! h=>h.elim)
  exact XS.ret (EV.tup (aV.cons EV.bP (aV.cons EV.bP aV.nil)) nS) λs₁ v S₁ r=>⟨⟨_,S₁⟩,r⟩
theorem uR (ok:dH G K) (g:pB G code) (hc:fd.code=code):uX G (eO fd f A s L n):=by
 refine ob2_3 g λc P e hP hI=>?_
 exact ⟨⟨c,P,hc.trans e,hP,hI⟩,ok.bi,ok.low⟩
theorem uQ (ok:dH G K):MP G jW (n+1) [Res.acc aX a d k xs] [.raw (.ref a)] (.int ((k+av xs:Nat):Int)):=by
 refine ob2_2 ok.len λpm code fn gc=>?_
 refine MP.of fn (names:=["self"]) (ps':=[.raw (.ref a)]) (λs W vs iv r=>?_) rfl (Tv.mpr (.inl rfl)) (λA W s L hA iv low h1 h2=>?_)
 ·refine ob1_2 r.one λx aB r1=>?_;obtain rfl:=aB
  exact ⟨[x],Uy rfl,r⟩
 ·have kn:bx G (eO (sZ pm code) jW A s L n) ([("self",PV.raw (.ref a))]:List (Str×PV)) W [] (dG aX a d k xs) :=
   bx.start (r:=Res.acc aX a d k xs) rfl iv (λb hb=>(low b (h2 _ (R_ ..) b hb)).1) (h1 _ (R_ ..))
  refine XS.ret (EV.EW ok.ok (uR ok gc rfl) ⟨rfl,rfl,by decide,rfl,rfl,rfl,by decide,rfl,rfl,rfl⟩ kn (EV.blt rfl ok.Eh.1 ok.Eh.2) (EV.name rfl) rfl rfl rfl rfl ok.sU.1 ok.sU.2 rfl λx=>rfl) λs₁ v S₁ r=>⟨S₁.stp,r⟩
theorem uO (ok:dH G K) (hz:av xs<=lim):MP G jV (n+1) [Res.acc aX a d k xs] [.raw (.ref a)] (.str (Sx "" (bG xs))):=by
 refine ob2_2 ok.str λpm code fn gc=>?_
 refine ob1_1 ok.A8 λte Qq=>?_
 refine MP.of fn (names:=["self"]) (ps':=[.raw (.ref a)]) (λs W vs iv r=>?_) rfl (Tv.mpr (.inl rfl)) (λA W s L hA iv low h1 h2=>?_)
 ·refine ob1_2 r.one λx aB r1=>?_;obtain rfl:=aB
  exact ⟨[x],Uy rfl,r⟩
 ·have kn:bx G (eO (sX pm code) jV A s L n) ([("self",PV.raw (.ref a))]:List (Str×PV)) W [] (dG aX a d k xs) :=
   bx.start (r:=Res.acc aX a d k xs) rfl iv (λb hb=>(low b (h2 _ (R_ ..) b hb)).1) (h1 _ (R_ ..))
  refine XS.ret (EV.BE (xl:="") ok.ok (uR ok gc rfl) ⟨rfl,rfl,by decide,rfl,rfl,rfl,by decide,rfl,rfl,rfl⟩ kn rfl (EV.name rfl) Qq rfl rfl hz λx=>rfl) λs₁ v S₁ r=>⟨S₁.stp,r⟩
theorem tH (ok:dH G K):MC G gU (n+1) [Res.acc aX a d k xs] [Res.acc aX a d 0 []] [.raw (.ref a)] .none:=by
 refine ob2_1 ok.res λpm code fn=>?_
 refine MC.of fn (names:=["self","startval"]) (ps':=[.raw (.ref a),.none]) (λs W vs iv r=>?_) rfl (iT (.inl rfl) (.inl rfl)) rfl (λA W s L hA=>?_)
 ·refine ob1_2 r.one λx aB r1=>?_;obtain rfl:=aB
  exact ⟨[x,.none],kp_binds (ok.mF _ iv) λz! => by kernel_rfl,.mk2 r1 Rep.none⟩
 ·refine XS.take (TV.cmp (EV.name rfl) EV.nH (eF true rfl)) (λs'=>St G (bu (sY pm code) gU A s L n ([Res.acc aX a d k xs].flatMap (·.addrs))) [("startval",.lst []),("self",.raw (.ref a))] W [Res.acc aX a d k xs] s') ?_ ?_
  ·exact XS.asg (EV.list aV.nil) (AV.name (.inl rfl)) (XS.nil λs₁ S₁=>S₁.weaken (af rfl (af rfl ak)))
  intro s₀ wA
  revert s₀
  show XS G _ _ _ _ _ _
  refine XS.lX (p:=.lst (([]:List (Str×Str)).map encP)) (EV.name rfl) (TR.zX (xs:=xs) (us:=[]) (Ro:=[]) ok.ok rfl (SX _)) ?_
  refine XS.lX (EV.aE (i:=0)) (TR.i_ (k':=0) (xs:=[]) (Ro:=[]) ok.st rfl) ?_
  exact XS.nil λs₁ S₁=>⟨⟨_,S₁⟩,Rep.none⟩
theorem wu (ok:dH G K) (hl:us.length<=lim):MC G gU (n+1) [Res.acc aX a d k xs] [Res.acc aX a d 0 us] [.raw (.ref a),.lst (us.map encP)] .none:=by
 refine ob2_1 ok.res λpm code fn=>?_
 refine MC.of fn (names:=["self","startval"]) (ps':=[.raw (.ref a),.lst (us.map encP)]) (λs W vs iv r=>?_) rfl (iT (.inl rfl) (.inl rfl)) rfl (λA W s L hA=>?_)
 ·have hlen:=r.length
  refine ob2_1 (yE hlen) λx y az=>?_;obtain rfl:=az
  exact ⟨[x,y],kp_binds (ok.mF _ iv) λz! => by kernel_rfl,r⟩
 ·refine XS.skip (TV.cmp (EV.name rfl) EV.nH (eF false rfl)) ?_
  refine XS.lX (EV.name rfl) (TR.zX (xs:=xs) (us:=us) (Ro:=[]) ok.ok rfl hl) ?_
  refine XS.lX (EV.aE (i:=0)) (TR.i_ (k':=0) (xs:=us) (Ro:=[]) ok.st rfl) ?_
  exact XS.nil λs₁ S₁=>⟨⟨_,S₁⟩,Rep.none⟩
theorem EU (ok:dH G K) (hz:av xs<=lim) (h:k≠0\/(av xs≠0/\Va (Sx "" (bG xs))=false)):MP G mP (n+5) [Res.acc aX a d k xs] [.raw (.ref a)] (.bool false):=by
 refine ob2_1 ok.ws λpm code fn=>?_
 refine ob2_2 ok.len λKI bL K_ z! => ?_
 refine ob2_2 ok.str λOx CM R5 z! => ?_
 refine MP.of fn (names:=["self"]) (ps':=[.raw (.ref a)]) (λs W vs iv r=>?_) rfl (Tv.mpr (.inl rfl)) (λA W s L hA iv low h1 h2=>?_)
 ·refine ob1_2 r.one λx aB r1=>?_;obtain rfl:=aB
  exact ⟨[x],Uy rfl,r⟩
 ·have kn:bx G (eO (uz pm code) mP A s L (n+4)) ([("self",PV.raw (.ref a))]:List (Str×PV)) W [] (dG aX a d k xs) :=
   bx.start (r:=Res.acc aX a d k xs) rfl iv (λb hb=>(low b (h2 _ (R_ ..) b hb)).1) (h1 _ (R_ ..))
  have hh:uW G (eO (uz pm code) mP A s L (n+4)) ([("self",PV.raw (.ref a))]:List (Str×PV)) W [] [Res.acc aX a d k xs]:=uW.acc kn (h2 _ (R_ ..))
  refine XS.ret (EV.Ob (b:=decide ((k:Int)=0)) (EV.cmp (EV.i_ ok.ok kn (EV.name rfl)) EV.aE t7) Ad.bool (λhb=>?_) (λhb=>by rw [hb])) λs₁ v S₁ r=>⟨S₁.stp,r⟩
  have hk:k=0:=Int.natCast_eq_zero.mp (of_decide_eq_true hb)
  subst hk
  refine ob0_2 (h.resolve_left (by simp)) λh3 h4=>?_
  refine EV.PU (EV.not (EV.name rfl) (Ad.acc (k':=0+av xs) ok.ok ok.KO ok.sE.1 ok.sE.2 (uQ (n:=n) ok) (by show _<=n+4;exact SE (Uj _)) (by exact HF hz) hh)) Ad.bool (λz! => ?_) (λhb'=>?_)
  ·refine EV.conv (EV.isspace (EV.CP (EV.blt rfl ok.yZ.1 ok.yZ.2) (aV.cons (EV.name rfl) aV.nil) (qI ok.ok ok.jl.1 ok.jl.2 (uO (n:=n) ok hz) (by show _<=n+4;exact Uj _) hh))) ?_
   rw [h4]
  ·simp [h3] at hb'
end
section
variable {K:Frag} {a d fd:Addr}
noncomputable abbrev t9 (j:Nat):Stmt:=CA (bH dK Qf) j
noncomputable def J6 (pm code:Value):FuncData:=fdOf (t9 0) "_ValueFormatter.__init__" [] .none .none pm code .none
noncomputable def zk (pm code:Value):FuncData:=fdOf (t9 1) "_ValueFormatter._str" [] .none .none pm code .none
noncomputable def lH (pm code:Value):FuncData:=fdOf (t9 3) "_ValueFormatter.newline" [] .none .none pm code .none
noncomputable def iV (pm code:Value):FuncData:=fdOf (t9 8) "_ValueFormatter._append_chunk" [] .none .none pm code .none
structure eX (G:Glob) (K:Frag):Prop where
 acc:dH G K
 ok:Of G K dc
 gt:findIn K (.ref dc) "__getattr__"=some none
 st1:ek G dc sC [.type "object"] "_maxlen"
 st2:ek G dc sC [.type "object"] "_continuation_ws"
 st3:ek G dc sC [.type "object"] "_continuation_ws_len"
 Ot:ek G dc sC [.type "object"] "_splitchars"
 Oq:ek G dc sC [.type "object"] "_lines"
 Oo:ek G dc sC [.type "object"] "_current_line"
 KS:findIn K (.ref dc) "_maxlen"=some none
 KR:findIn K (.ref dc) "_splitchars"=some none
 KQ:findIn K (.ref dc) "_lines"=some none
 KP:findIn K (.ref dc) "_current_line"=some none
 OD:E2 G K dc EX false
 ini:∃ pm code,bQ G EX (J6 pm code) (bodyOf (t9 0))
 str:∃ pm code,bQ G jU (zk pm code) (bodyOf (t9 1))
 vD:∃ pm code,bQ G jy (lH pm code) (bodyOf (t9 3))
 app:∃ pm code,bQ G ir (iV pm code) (bodyOf (t9 8))
 k9:findIn K (.ref dc) "newline"=some (some (.ref jy))/\typeIn K (.ref jy)=some (.type "function")
 jl:findIn K (.ref dc) "_str"=some (some (.ref jU))/\typeIn K (.ref jU)=some (.type "function")
 yu:findIn K (.ref dc) "_append_chunk"=some (some (.ref ir))/\typeIn K (.ref ir)=some (.type "function")
 A9:G.mg "_Accumulator"=some (.ref aX)
 jq:G.mg "range"=none/\G.mb "range"=some (.type "range")
theorem Dr:typeLookup (.type "object") "_maxlen"=pure none:=by rw [T6,Tj];kernel_rfl
theorem Dq:typeLookup (.type "object") "_continuation_ws"=pure none:=by rw [T6,Tj];kernel_rfl
theorem Dp:typeLookup (.type "object") "_continuation_ws_len"=pure none:=by rw [T6,Tj];kernel_rfl
theorem Dn:typeLookup (.type "object") "_splitchars"=pure none:=by rw [T6,Tj];kernel_rfl
theorem Dm:typeLookup (.type "object") "_lines"=pure none:=by rw [T6,Tj];kernel_rfl
theorem Dl:typeLookup (.type "object") "_current_line"=pure none:=by rw [T6,Tj];kernel_rfl
noncomputable def fP (mx:Nat) (aC:Str) (L a:Addr):List (Str×PV) :=
 [("_current_line",.raw (.ref a)),("_lines",.raw (.ref L)),("_splitchars",.str aC),("_continuation_ws_len",.int 1),("_continuation_ws",.str " "),("_maxlen",.int mx)]
noncomputable def VR (f fd L a d:Addr) (mx:Nat) (aC:Str) (lines:List Str) (k:Nat) (xs:List (Str×Str)):List Res :=
 [Res.acc aX a d k xs,Res.lst L (lines.map .str),Res.obj dc f fd (fP mx aC L a)]
theorem qm {d:Addr} (e:h.get? d=some emptyDict):h.Ns1 d λz! => none:=by
 refine Heap.Ns1.of_empty ⟨_,_,_,e,rfl,?_,?_⟩
 ·intro b hb;simp at hb
 ·intro y;rfl
theorem AE (W:List Addr) (h:Heap) (x d:Addr) (e:h.get? x=some {cls:=.ref C,dict:=some d,data:=.seq #[]}) (e2:h.get? d=some emptyDict) (ne:d≠x):(Res.raw C x d).holds W h :=
 ⟨0,_,⟨e,λz! h=>(by cases h),qm e2,ne⟩,λz! => rfl⟩
theorem AO (W:List Addr) (h:Heap) (x d:Addr) (e:h.get? x=some {cls:=.ref C,dict:=some d,data:=.plain}) (e2:h.get? d=some emptyDict) (ne:d≠x):(Res.obj C x d []).holds W h :=
 ⟨_,⟨e,λz! h=>(by cases h),qm e2,ne⟩,λz! z! h=>(by cases h),λz! z! => rfl⟩
theorem EN.acc (ok:dH G K) {p pos:Pos} {e:SQ} {m:Nat} (hf:EV G F ρ W Rs (.Name "_Accumulator" p) (.raw (.ref aX))) (he:EV G F ρ W Rs e (.int k)) (hn:m+2<=F.n)
  (hst:backTo pos (starEach [e] F.env)=[e].map (λe=>(false,eval e F.env)):=by rfl) :
  EN G F ρ W Rs (.Call (.Name "_Accumulator" p) [e] [] pos) (λv W' aq=>∃ a d,a∉W/\d∉W/\v = .ref a/\W'=a::d::W/\aq=Res.acc aX a d k []::Rs):=λs S=>by
 refine aF (EN.make true ok.OE hf (aV.cons he .nil) (λx d=>Res.raw aX x d) (λz! z! => rfl) (λW h x d e1 e2 ne=>AE W h x d e1 e2 ne) (λx d=>zU (n:=m) ok) (by exact hn) hst s S) λv s' h=>?_
 refine ob2_2 h λW' aq az S'=>?_;refine ob3_5 az λx d Rn h1 h2 h3 C1 h6=>?_;refine ob0_2 C1 λh4 h5=>?_
 subst h4 h5 h6
 exact ⟨_,_,⟨x,d,h1,h2,h3,rfl,rfl⟩,S'⟩
theorem PX {P:Str->Prop} {z u v:Str} (h1:P x) (h2:P y) (h3:P z) (h4:P u) (h5:P v):∀ w∈[x,y,z,u,v],P w:=eW h1 (eW h2 (eW h3 (eW h4 (eW h5 zQ))))
theorem Am (ok:eX G K) (hs:aC.length<=lim):CN G EX (n+3) [Res.obj dc f fd []] [.raw (.ref f),.int k,.int mx,.str " ",.str aC] .none
  (λW W' R=>∃ L a d,W'=a::d::L::W/\R=VR f fd L a d mx aC [] k []):=by
 refine ob2_1 ok.ini λpm code fn=>?_
 refine CN.of fn (names:=["self","headerlen","maxlen","continuation_ws","splitchars"]) (ps':=[.raw (.ref f),.int k,.int mx,.str " ",.str aC]) (λs W vs iv r=>?_) rfl
  (PX (.inl rfl) (.inl rfl) (.inl rfl) (.inl rfl) (.inl rfl)) (λW W' R h=>?_) (λA W s L hA=>?_)
 ·have hlen:=r.length
  refine ob5_1 (I5 hlen) λx y z u v Ae=>?_;obtain rfl:=Ae
  exact ⟨[x,y,z,u,v],Uy rfl,r⟩
 ·refine ob3_2 h λL a d rG wW=>?_;obtain rfl:=rG;obtain rfl:=wW
  exact ⟨λb hb=>VE [a,d,L] hb,λb hb=>(Sq.mp (show b∈[a,d,L]++W from hb)).elim (λh=>.inr (Uk [f,fd] h)) .inl⟩
 ·refine XS.lX (EV.name rfl) (TR.attr (p:=.int mx) (ms:=[]) (Ro:=[]) ok.st1 Dr rfl) ?_
  refine XS.lX (EV.name rfl) (TR.attr (p:=.str " ") (Ro:=[]) ok.st2 Dq rfl) ?_
  refine XS.lX (EV.conv (EV.I4 (EV.blt rfl ok.acc.sU.1 ok.acc.sU.2) (EV.name (p:=.str " ") rfl)) (q:=.int 1) rfl) (TR.attr (p:=.int 1) (Ro:=[]) ok.st3 Dp rfl) ?_
  refine XS.lX (EV.name rfl) (TR.attr (p:=.str aC) (Ro:=[]) ok.Ot Dn rfl) ?_
  refine XS.CT (d:=fd) (ms:=[("_splitchars",.str aC),("_continuation_ws_len",.int 1),("_continuation_ws",.str " "),("_maxlen",.int mx)]) (EN.list aV.nil) ok.Oq Dm rfl (λv W' aq h=>?_)
  refine ob1_4 h λL' hL az rG wW=>?_;obtain rfl:=az;obtain rfl:=rG;obtain rfl:=wW
  refine ⟨[Res.lst L' []],.swap ..,?_⟩
  refine XS.CT (d:=fd) (ms:=[("_lines",.raw (.ref L')),("_splitchars",.str aC),("_continuation_ws_len",.int 1),("_continuation_ws",.str " "),("_maxlen",.int mx)]) (EN.acc (k:=k) (m:=n) ok.acc (EV.glob rfl ok.A9) (EV.name rfl) (Si _)) ok.Oo Dl rfl (λv W' aq h=>?_)
  refine ob2_5 h λa d ha hd wW Ae C1=>?_;obtain rfl:=wW;obtain rfl:=Ae;obtain rfl:=C1
  refine ⟨[Res.acc aX a d k [],Res.lst L' []],.swap ..,?_⟩
  refine XS.nil λs₁ S₁=>⟨_,_,_,⟨L',a,d,rfl,rfl⟩,S₁.perm ?_,Rep.none⟩
  exact (Ue (l₁:=[_]) (l₂:=[_,_]))
end
section
variable {K:Frag} {a d fd:Addr}
theorem zp (z:Str×Str) (x y:Str):PV.eqv (encP z) (.tup [.str x,.str y])=(z.1 == x && z.2 == y):=by
 simp [PV.eqv,encP,PV.toD,PV.toDs,WH,XZ]
theorem Bd (h1:T4 z.1=true) (h2:T4 z.2=true):(encP z).ok:=⟨rfl,by simp [encP,PV.toD,PV.toDs,PyData.canLay0,PyData.canLayAll0,h1,h2],Sz rfl⟩
theorem pV:(PV.tup [.str " ",.str ""]).ok:=⟨rfl,by decide +kernel,by decide +kernel⟩
theorem Aj (S:St G F ρ W (VR f fd L a d mx aC lines k xs) s):ql dc f fd (fP mx aC L a) W s.heap:=S.res (Res.obj dc f fd (fP mx aC L a)) (by simp [VR])
theorem j_:bx G F ρ W (VR f fd L a d mx aC lines k xs) (ql dc f fd (fP mx aC L a)):=λs S=>Aj S
theorem cN:bx G F ρ W (VR f fd L a d mx aC lines k xs) (dG aX a d k xs):=λs S=>S.res (Res.acc aX a d k xs) (by simp [VR])
theorem kh:uW G F ρ W (VR f fd L a d mx aC lines k xs) [Res.acc aX a d k xs]:=uW.one
theorem gB:(VR f fd L a d mx aC lines k xs).Perm (Res.lst L (lines.map .str)::[Res.acc aX a d k xs,Res.obj dc f fd (fP mx aC L a)]):=.swap ..
theorem EV.cur {p p2:Pos} (ok:eX G K) (h:EV G F ρ W (VR f fd L a d mx aC lines k xs) (.Name "self" p) (.raw (.ref f)))
  (he:∀ env,eval (.Attribute (.Name "self" p) "_current_line" p2) env=(do
   let v<-eval (.Name "self" p) env
   standAt p2.atName
   let r<-holding [v] (getAttr v "_current_line" true)
   letTemporaryGo (.Name "self" p) v r
   pure r):=by intro _;with_unfolding_all rfl):EV G F ρ W (VR f fd L a d mx aC lines k xs) (.Attribute (.Name "self" p) "_current_line" p2) (.raw (.ref a)) :=
 EV.attr ok.ok j_ h rfl rfl ok.KP he
theorem EV.M5 {p p2:Pos} (ok:eX G K) (h:EV G F ρ W (VR f fd L a d mx aC lines k xs) (.Name "self" p) (.raw (.ref f)))
  (he:∀ env,eval (.Attribute (.Name "self" p) "_lines" p2) env=(do
   let v<-eval (.Name "self" p) env
   standAt p2.atName
   let r<-holding [v] (getAttr v "_lines" true)
   letTemporaryGo (.Name "self" p) v r
   pure r):=by intro _;with_unfolding_all rfl):EV G F ρ W (VR f fd L a d mx aC lines k xs) (.Attribute (.Name "self" p) "_lines" p2) (.raw (.ref L)) :=
 EV.attr ok.ok j_ h rfl rfl ok.KQ he
theorem EV.P5 {p p2:Pos} (ok:eX G K) (h:EV G F ρ W (VR f fd L a d mx aC lines k xs) (.Name "self" p) (.raw (.ref f)))
  (he:∀ env,eval (.Attribute (.Name "self" p) "_maxlen" p2) env=(do
   let v<-eval (.Name "self" p) env
   standAt p2.atName
   let r<-holding [v] (getAttr v "_maxlen" true)
   letTemporaryGo (.Name "self" p) v r
   pure r):=by intro _;with_unfolding_all rfl):EV G F ρ W (VR f fd L a d mx aC lines k xs) (.Attribute (.Name "self" p) "_maxlen" p2) (.int mx) :=
 EV.attr ok.ok j_ h rfl rfl ok.KS he
theorem EV.PL {p p2:Pos} (ok:eX G K) (h:EV G F ρ W (VR f fd L a d mx aC lines k xs) (.Name "self" p) (.raw (.ref f)))
  (he:∀ env,eval (.Attribute (.Name "self" p) "_splitchars" p2) env=(do
   let v<-eval (.Name "self" p) env
   standAt p2.atName
   let r<-holding [v] (getAttr v "_splitchars" true)
   letTemporaryGo (.Name "self" p) v r
   pure r):=by intro _;with_unfolding_all rfl):EV G F ρ W (VR f fd L a d mx aC lines k xs) (.Attribute (.Name "self" p) "_splitchars" p2) (.str aC) :=
 EV.attr ok.ok j_ h rfl rfl ok.KR he
theorem EV.xB {p p2 p3 p4:Pos} (ok:eX G K) (h:EV G F ρ W (VR f fd L a d mx aC lines k xs) (.Name "self" p) (.raw (.ref f))) (hk:F.env.kindOf "str"=some .globalImplicit) (hz:av xs<=lim) (hn:4<=F.n)
  (hst:backTo p4 (starEach [.Attribute (.Name "self" p) "_current_line" p2] F.env)=[PySem.Expr.Attribute (.Name "self" p) "_current_line" p2].map (λe=>(false,eval e F.env)):=by rfl)
  (he:∀ env,eval (.Attribute (.Name "self" p) "_current_line" p2) env=(do
   let v<-eval (.Name "self" p) env
   standAt p2.atName
   let r<-holding [v] (getAttr v "_current_line" true)
   letTemporaryGo (.Name "self" p) v r
   pure r):=by intro _;with_unfolding_all rfl) :
  EV G F ρ W (VR f fd L a d mx aC lines k xs) (.Call (.Name "str" p3) [.Attribute (.Name "self" p) "_current_line" p2] [] p4) (.str (Sx "" (bG xs))) :=
 EV.CP (EV.blt hk ok.acc.yZ.1 ok.acc.yZ.2) (aV.cons (EV.cur ok h he) aV.nil) (qI ok.acc.ok ok.acc.jl.1 ok.acc.jl.2 (uO (n:=0) ok.acc hz) (by exact Sl hn) kh) hst
theorem EV.yD {p p2 p3 p4:Pos} (ok:eX G K) (h:EV G F ρ W (VR f fd L a d mx aC lines k xs) (.Name "self" p) (.raw (.ref f))) (hk:F.env.kindOf "len"=some .globalImplicit) (hz:k+av xs<=lim) (hn:2<=F.n)
  (hst:backTo p4 (starEach [.Attribute (.Name "self" p) "_current_line" p2] F.env)=[PySem.Expr.Attribute (.Name "self" p) "_current_line" p2].map (λe=>(false,eval e F.env)):=by rfl)
  (he:∀ env,eval (.Attribute (.Name "self" p) "_current_line" p2) env=(do
   let v<-eval (.Name "self" p) env
   standAt p2.atName
   let r<-holding [v] (getAttr v "_current_line" true)
   letTemporaryGo (.Name "self" p) v r
   pure r):=by intro _;with_unfolding_all rfl) :
  EV G F ρ W (VR f fd L a d mx aC lines k xs) (.Call (.Name "len" p3) [.Attribute (.Name "self" p) "_current_line" p2] [] p4) (.int ((k+av xs:Nat):Int)) :=
 EV.gT (EV.blt hk ok.acc.sU.1 ok.acc.sU.2) (aV.cons (EV.cur ok h he) aV.nil) (yX ok.acc.ok ok.acc.sE.1 ok.acc.sE.2 (uQ (n:=0) ok.acc) (by exact hn) hz kh) hst
theorem aR (xs ys:List (Str×Str)):av (xs++ys)=av xs+av ys:=by simp [av]
theorem t8 (ok:eX G K) {L':Addr} {m:Nat} (hm:6<=m) (hz:z≠((" ":Str),("":Str))) (hz1:T4 z.1=true) (hz2:T4 z.2=true) (hl1:xs.length+1<=lim) (hl2:k+av (xs++[z])<=lim) (hl3:lines.length+1<=lim)
  (hpos:k+av (xs++[z])≠0) (hws:k≠0\/(av (xs++[z])≠0/\Va (Sx "" (bG (xs++[z])))=false)) :
  XS G (bu (lH pm code) jy A s L' m X) [("end_of_line",encP z),("self",.raw (.ref f))] W (VR f fd L a d mx aC lines k xs) ((bodyOf (t9 3)).drop 1)
   (λfl s'=>(∃ ρ,St G (bu (lH pm code) jy A s L' m X) ρ W (VR f fd L a d mx aC (lines++[Sx "" (bG (xs++[z]))]) 0 []) s')/\Rep W s'.heap .none (match fl with | .ret v=>v | _=>.none)):=by
 refine ob2_1 ok.acc.push λIL cy jQ=>?_
 refine ob2_1 ok.acc.ws λKI bL Rr=>?_
 refine ob2_1 ok.acc.res λOx CM Ej=>?_
 have hne:(!PV.eqv (encP z) (.tup [.str " ",.str ""]))=true:=by
  rw [zp]
  simp only [Bool.not_eq_true',Bool.and_eq_false_iff,beq_eq_false_iff_ne,ne_eq]
  by_cases h1:z.1=" "
  ·right;intro h2;exact hz (Prod.ext h1 h2)
  ·exact .inl h1
 refine XS.take (J:=λs'=>St G (bu (lH pm code) jy A s L' m X) [("end_of_line",encP z),("self",.raw (.ref f))] W (VR f fd L a d mx aC lines k (xs++[z])) s')
  (TV.conv (TV.cmp (EV.name rfl) (EV.tup (aV.cons EV.bP (aV.cons EV.bP aV.nil)) nS) (m_ (Bd hz1 hz2) pV)) hne) ?_ ?_
 ·refine XS.eT (ER.zH (Rs:=[Res.acc aX a d k xs]) (aq:=[Res.acc aX a d k (xs++[z])]) (Ro:=[Res.lst L (lines.map .str),Res.obj dc f fd (fP mx aC L a)]) (n:=1)
   (EV.cur ok (EV.name rfl)) (EV.name (p:=encP z) rfl) ok.acc.ok.gr (Bound.acc ok.acc.ok cN ok.acc.iH.1 ok.acc.iH.2 (by decide) (by decide)) ok.acc.jQ (nN (f:=z.1) (p:=z.2) ok.acc hl1) (by show 1<=m;exact R9 (Sf _ _) hm)) ?_
  exact XS.nil λs₁ S₁=>S₁
 intro s₀ wA
 revert s₀
 show XS G _ _ _ _ _ _
 refine XS.take (J:=λs'=>St G (bu (lH pm code) jy A s L' m X) [("end_of_line",encP z),("self",.raw (.ref f))] W (VR f fd L a d mx aC (lines++[Sx "" (bG (xs++[z]))]) k (xs++[z])) s')
  (TV.conv (TV.cmp (EV.yD ok (EV.name rfl) rfl hl2 (by show 2<=m;exact R9 (Sf _ _) hm)) EV.aE qi) (decide_eq_true (Ul.mpr (TM hpos)))) ?_ ?_
 ·refine XS.ite (J:=λs'=>St G (bu (lH pm code) jy A s L' m X) [("end_of_line",encP z),("self",.raw (.ref f))] W (VR f fd L a d mx aC (lines++[Sx "" (bG (xs++[z]))]) k (xs++[z])) s') (c:=false && false)
   (TV.and (TV.bool (EV.dj (Rm:=[Res.acc aX a d k (xs++[z])]) (n:=5) (EV.cur ok (EV.name rfl)) (Found.acc ok.acc.ok cN ok.acc.IX.1 ok.acc.IX.2 (by decide)) Rr (EU (n:=0) ok.acc (by exact R9 (Sf _ _) hl2) hws) kh (by show 5<=m;exact Sl hm) l7.nil)) (λh=>by cases h)) (λh=>by cases h) (λz! => ?_) (λs₁ S₁=>UD S₁)
  refine XS.eT (ER.perm gB (ER.append (p:=.str (Sx "" (bG (xs++[z])))) (EV.perm gB.symm (EV.M5 ok (EV.name rfl))) (EV.perm gB.symm (EV.xB ok (EV.name rfl) rfl (by exact R9 (Sf _ _) hl2) (by show 4<=m;exact Sl (Sl hm)))) (by simpa using hl3)) (.refl _)) ?_
  refine XS.nil λs₁ S₁=>?_
  have:=S₁.perm (aq:=VR f fd L a d mx aC (lines++[Sx "" (bG (xs++[z]))]) k (xs++[z])) (by rw [VR,S4];exact .swap ..)
  exact this
 intro s₀ wA
 revert s₀
 show XS G _ _ _ _ _ _
 refine XS.eT (ER.dj (Rs:=[Res.acc aX a d k (xs++[z])]) (aq:=[Res.acc aX a d 0 []]) (Ro:=[Res.lst L ((lines++[Sx "" (bG (xs++[z]))]).map .str),Res.obj dc f fd (fP mx aC L a)]) (n:=1)
  (EV.cur ok (EV.name rfl)) (Found.acc ok.acc.ok cN ok.acc.sD.1 ok.acc.sD.2 (by decide)) Ej (tH (n:=0) ok.acc) (by show 1<=m;exact R9 (Sf _ _) hm) l7.nil) ?_
 exact XS.nil λs₁ S₁=>⟨⟨_,S₁⟩,Rep.none⟩
end
section
variable {K:Frag} {a d fd:Addr}
noncomputable def jb (xs:List (Str×Str)):Prop:=∀ p∈xs,T4 p.1=true/\T4 p.2=true/\p.2≠""
noncomputable def bg (xs:List (Str×Str)):Str:=Sx "" (bG xs)
theorem Cf (ok:eX G K) (hg:jb xs) (hl1:xs.length+1<=lim) (hl2:k+av xs<=lim) (hl3:lines.length+1<=lim) (hk:k≠0\/(av xs≠0/\Va (bg xs)=false)) :
  CC G jy (n+7) (VR f fd L a d mx aC lines k xs) (VR f fd L a d mx aC (lines++[bg xs]) 0 []) [.raw (.ref f)] .none:=by
 refine ob2_1 ok.vD λpm code fn=>?_
 refine ob3_2 ok.acc.pop λIL cy RH vU z! => ?_
 refine CC.of fn (names:=["self"]) (ps':=[.raw (.ref f)]) (λs W vs iv r=>?_) rfl (Tv.mpr (.inl rfl)) (λA W s L' hA=>?_)
 ·refine ob1_2 r.one λx aB r1=>?_;obtain rfl:=aB
  exact ⟨[x],Uy rfl,r⟩
 ·rcases Wm xs with rfl | ⟨zs,z,rfl⟩
  ·have hk':k≠0:=by
    rcases hk with h | h
    ·exact h
    ·exact absurd rfl h.1
   refine XS.BC (ER.dj (Rs:=[Res.acc aX a d k []]) (aq:=[Res.acc aX a d k []]) (Ro:=[Res.lst L (lines.map .str),Res.obj dc f fd (fP mx aC L a)]) (n:=2) (EV.cur ok (EV.name rfl))
    (Found.acc ok.acc.ok cN ok.acc.ow.1 ok.acc.ow.2 (by decide)) vU (zT (n:=0) ok.acc) (by show 2<=n+6;exact Sf _ _) l7.nil) (AV.name (.inl rfl)) ?_
   exact t8 (z:=("","")) (xs:=[]) ok (by exact Sf _ _) (by decide) (by decide +kernel) (by decide +kernel) hl1 (by show k+0<=lim;exact hl2) hl3 (by show k+0≠0;exact hk') (.inl hk')
  ·rw [Wn] at *
   refine ob0_3 (hg z (by simp)) λg1 g2 g3=>?_
   refine XS.BC (ER.dj (Rs:=[Res.acc aX a d k (zs++[z])]) (aq:=[Res.acc aX a d k zs]) (Ro:=[Res.lst L (lines.map .str),Res.obj dc f fd (fP mx aC L a)]) (n:=2) (EV.cur ok (EV.name rfl))
    (Found.acc ok.acc.ok cN ok.acc.ow.1 ok.acc.ow.2 (by decide)) vU (uP (n:=0) ok.acc) (by show 2<=n+6;exact Sf _ _) l7.nil) (AV.name (.inl rfl)) ?_
   refine t8 (z:=z) (xs:=zs) ok (by exact Sf _ _) (λh=>g3 (by rw [h])) g1 g2 (by simp at hl1;exact Sl hl1) hl2 hl3 ?_ hk
   rcases hk with h | h
   ·exact Ic h
   ·exact λe=>h.1 (Nat.eq_zero_of_add_eq_zero e).2
theorem C3 (ok:eX G K) (hg:jb xs) (hl1:xs.length+1<=lim) (hl2:k+av xs<=lim) (hl3:lines.length+1<=lim) (hk:k≠0\/(av xs≠0/\Va (bg xs)=false))
  (hb:((lines++[bg xs]).map (·.length)).sum+(lines++[bg xs]).length * sep.length<=lim) :
  CC G jU (n+8) (VR f fd L a d mx aC lines k xs) (VR f fd L a d mx aC (lines++[bg xs]) 0 []) [.raw (.ref f),.str sep] (.str (Sx sep (lines++[bg xs]))):=by
 refine ob2_1 ok.str λpm code fn=>?_
 refine ob2_1 ok.vD λIL cy NW=>?_
 refine CC.of fn (names:=["self","linesep"]) (ps':=[.raw (.ref f),.str sep]) (λs W vs iv r=>?_) rfl (iT (.inl rfl) (.inl rfl)) (λA W s L' hA=>?_)
 ·have hlen:=r.length
  refine ob2_1 (yE hlen) λx y az=>?_;obtain rfl:=az
  exact ⟨[x,y],Uy rfl,r⟩
 ·refine XS.eT (ER.dj (Rs:=VR f fd L a d mx aC lines k xs) (aq:=VR f fd L a d mx aC (lines++[bg xs]) 0 []) (Ro:=[]) (n:=7) (EV.name rfl)
   (Found.obj ok.ok (bx.res (r:=Res.obj dc f fd (fP mx aC L a)) (by simp [VR])) ok.gt ok.k9.1 ok.k9.2 rfl) NW (Cf (n:=0) ok hg hl1 hl2 hl3 hk).mc (by show 7<=n+7;exact Sf _ _) l7.nil) ?_
  rw [SI]
  refine XS.ret (EV.AX (a:=L) (EV.name rfl) (EV.M5 ok (EV.name rfl)) (by simp [VR]) hb) λs₁ v S₁ r=>⟨⟨_,S₁⟩,r⟩
end
section
variable {K:Frag} {a d fd:Addr}
noncomputable def eu (ys:List (Str×Str)) (ch i:Nat):Bool :=
 (Va ⟨#[ch]⟩ && decide ((ys.getD i ("","")).1.cps[0]? = some ch)) || decide ((ys.getD (i - 1) ("","")).2.cps.back? = some ch)
noncomputable def cu (ys:List (Str×Str)) (ch:Nat):Nat->Option Nat
 | 0=>none
 | i+1=>if eu ys ch (i+1) then some (i+1) else cu ys ch i
noncomputable def findS (ys:List (Str×Str)):List Nat->Option Nat
 | []=>none
 | ch::r=>match cu ys ch (ys.length - 1) with
  | some i=>some i
  | none=>findS ys r
theorem fF {ys:List (Str×Str)} {ch:Nat}:∀ {m:Nat},(∀ j,0<j->j<=m->eu ys ch j=false)->cu ys ch m=none
 | 0,_=>rfl
 | m+1,h=>by rw [cu,h (m+1) (by exact Ii) (by exact Si _)];exact fF λj h1 h2=>h j h1 (by exact SE h2)
theorem cX {ys:List (Str×Str)} {ch i:Nat} (h0:0<i) (hi:eu ys ch i=true):∀ {m:Nat},i<=m->(∀ j,i<j->j<=m->eu ys ch j=false)->cu ys ch m=some i
 | 0,h,_=>absurd h0 (Tt h)
 | m+1,h,g=>by
  rw [cu]
  by_cases e:i=m+1
  ·subst e;rw [hi];rfl
  ·rw [g (m+1) (by exact Tf h e) (by exact Si _)];simp only [Up,if_false]
   exact cX h0 hi (by exact VP (Tf h e)) λj h1 h2=>g j h1 (by exact SE h2)
theorem fE {ys:List (Str×Str)}:∀ {l:List Nat},(∀ ch∈l,cu ys ch (ys.length - 1)=none)->findS ys l=none
 | [],_=>rfl
 | ch::r,h=>by rw [findS,h ch (R_ ..)];exact fE λc hc=>h c (Sb _ hc)
theorem lG {ys:List (Str×Str)} {ch i:Nat} {post:List Nat} (hi:cu ys ch (ys.length - 1)=some i):∀ {pre:List Nat},(∀ c∈pre,cu ys c (ys.length - 1)=none)->findS ys (pre++ch::post)=some i
 | [],_=>by rw [VS,findS,hi]
 | c::r,h=>by rw [UZ,findS,h c (R_ ..)];exact lG hi λc hc=>h c (Sb _ hc)
theorem x8 (c ch:Nat):decide ((⟨#[c]⟩:Str)=⟨#[ch]⟩)=decide (some c=some ch) :=
 decide_eq_decide.mpr ⟨λh=>(congrArg (λz:Str=>z.cps[0]?) h:some c=some ch),λh=>UC h▸rfl⟩
theorem OL (h:n≠0):seqIndex? 0 n=some 0:=p8 (k:=0) rfl (TM h)
theorem OJ (h:n≠0):seqIndex? (-1) n=some (n - 1):=p8 ((if_pos (by decide)).trans (sA (k:=0) (Uq (TM h)))) (Ww (TM h) VL)
theorem qL {z:Str} (h:z.length≠0) (hc:(seqIndex? 0 z.length).bind (z.cps[·]?)=some c) (ch:Nat):decide ((⟨#[c]⟩:Str)=⟨#[ch]⟩)=decide (z.cps[0]? = some ch):=by
 rw [OL h,UL] at hc
 rw [hc];exact x8 c ch
theorem last_eq {z:Str} (h:z.length≠0) (hc:(seqIndex? (-1) z.length).bind (z.cps[·]?)=some c) (ch:Nat):decide ((⟨#[c]⟩:Str)=⟨#[ch]⟩)=decide (z.cps.back? = some ch):=by
 rw [OJ h,UL] at hc
 rw [Array.back?_eq_getElem?,show z.cps[z.cps.size - 1]? = some c from hc];exact x8 c ch
theorem lF {z:Str} (h:z.length≠0):∃ c,(seqIndex? 0 z.length).bind (z.cps[·]?)=some c :=
 ⟨_,by rw [OL h,UL];exact U1 (TM h)⟩
theorem vM {z:Str} (h:z.length≠0):∃ c,(seqIndex? (-1) z.length).bind (z.cps[·]?)=some c :=
 ⟨_,by rw [OJ h,UL];exact U1 (Ww (TM h) VL)⟩
noncomputable abbrev DH (z:Option Nat) (ρ:List (Str×PV)):List (Str×PV):=match z with | none=>ρ | some i=>("i",.int i)::ρ
theorem TV.Bb {p1 p2 p3 p4 p5:Pos} {k1:Nat} {z:Str} (hx:ρ.lookup x=some (.str z)) (hy:ρ.lookup y=some (.str ⟨#[ch]⟩)) {pb pc:Pos}
  (hd:(x == ("__debug__":Str))=false:=by decide) (hc:(x == ("__classdict__":Str))=false:=by decide) (hd':(y == ("__debug__":Str))=false:=by decide) (hc':(y == ("__classdict__":Str))=false:=by decide)
  (he:∀ whole,isTrue (.Name x p1) F.env whole=(do let v<-whole;standAt (PySem.Expr.Name x p1).pos;holding [v] (truthy v)):=by intro _;rfl)
  (hs:∀ o i,subscripted (.Constant (.int 0) k1 p3) false o i=operate [o,i] (getItem o i):=by intro _ _;rfl)
  (hm:behindInMarks .Eq (.Name y p4)=false:=by with_unfolding_all rfl) :
  TV G F ρ W Rs (.BoolOp .And [.Name x p1,.Compare (.Subscript (.Name x p2) (.Constant (.int 0) k1 p3) p5) [.Eq] [.Name y p4] pc] pb) (decide (z.cps[0]? = some ch)):=by
 by_cases hz:z.length=0
 ·have e:decide (z.cps[0]? = some ch)=(decide (z.length≠0) && false):=by
   have:z.cps.size=0:=hz
   simp [hz,this]
  rw [e]
  exact TV.and (TV.str (EV.name hx hd hc) he) (λh=>by simp [hz] at h)
 ·refine ob1_1 (lF hz) λc hcc=>?_
  have e:decide (z.cps[0]? = some ch)=(decide (z.length≠0) && (decide ((⟨#[c]⟩:Str)=⟨#[ch]⟩) && true)):=by rw [qL hz hcc ch];simp [hz]
  rw [e]
  exact TV.and (TV.str (EV.name hx hd hc) he) (λz! => TV.and (TV.cmp (EV.yJ (EV.name hx hd hc) EV.aE hcc (by decide) (by decide) hs) (EV.name hy hd' hc') qj hm) λz! => TV.pg)
theorem TV.DE {p1 p2 p3 p4 p5 p6 pb pc:Pos} {k1:Nat} {z:Str} (hx:ρ.lookup x=some (.str z)) (hy:ρ.lookup y=some (.str ⟨#[ch]⟩))
  (hd:(x == ("__debug__":Str))=false:=by decide) (hc:(x == ("__classdict__":Str))=false:=by decide) (hd':(y == ("__debug__":Str))=false:=by decide) (hc':(y == ("__classdict__":Str))=false:=by decide)
  (he:∀ whole,isTrue (.Name x p1) F.env whole=(do let v<-whole;standAt (PySem.Expr.Name x p1).pos;holding [v] (truthy v)):=by intro _;rfl)
  (hs:∀ o i,subscripted (.UnaryOp .USub (.Constant (.int 1) k1 p3) p6) false o i=operate [o,i] (getItem o i):=by intro _ _;rfl)
  (hm:behindInMarks .Eq (.Name y p4)=false:=by with_unfolding_all rfl) :
  TV G F ρ W Rs (.BoolOp .And [.Name x p1,.Compare (.Subscript (.Name x p2) (.UnaryOp .USub (.Constant (.int 1) k1 p3) p6) p5) [.Eq] [.Name y p4] pc] pb) (decide (z.cps.back? = some ch)):=by
 by_cases hz:z.length=0
 ·have e:decide (z.cps.back? = some ch)=(decide (z.length≠0) && false):=by
   have:z.cps = #[]:=Array.eq_empty_of_size_eq_zero hz
   simp [hz,this]
  rw [e]
  exact TV.and (TV.str (EV.name hx hd hc) he) (λh=>by simp [hz] at h)
 ·refine ob1_1 (vM hz) λc hcc=>?_
  have e:decide (z.cps.back? = some ch)=(decide (z.length≠0) && (decide ((⟨#[c]⟩:Str)=⟨#[ch]⟩) && true)):=by rw [last_eq hz hcc ch];simp [hz]
  rw [e]
  exact TV.and (TV.str (EV.name hx hd hc) he) (λz! => TV.and (TV.cmp (EV.yJ (EV.name hx hd hc) (EV.neg EV.aE) hcc (by decide) (by decide) hs) (EV.name hy hd' hc') qj hm) λz! => TV.pg)
noncomputable def Jf (st:Stmt):List Stmt:=match st with
 | .If _ b _ _=>b
 | .For _ _ b _ _=>b
 | _=>[]
noncomputable abbrev Oa:Stmt:=(bodyOf (t9 8)).getD 1 (.Pass ⟨0,0,0,0⟩)
noncomputable abbrev Kw:Stmt:=(Jf Oa).getD 0 (.Pass ⟨0,0,0,0⟩)
theorem BD (ok:eX G K) {L':Addr} {m:Nat} (hm:4<=m) (hl:ys.length<=1000) (hn:ys≠[]) :
  XS G (bu (iV pm code) ir A s0 L' m X) [("ch",.str ⟨#[ch]⟩),("self",.raw (.ref f))] W (VR f fd L a d mx aC lines k ys) (Jf Kw)
   (λfl s'=>match fl with
    | .next | .cont=>cu ys ch (ys.length - 1)=none/\St G (bu (iV pm code) ir A s0 L' m X) [("self",.raw (.ref f))] W (VR f fd L a d mx aC lines k ys) s'
    | .brk=>∃ i,cu ys ch (ys.length - 1)=some i/\St G (bu (iV pm code) ir A s0 L' m X) [("i",.int i),("self",.raw (.ref f))] W (VR f fd L a d mx aC lines k ys) s'
    | .ret _=>False):=by
 refine ob3_2 ok.acc.pc λIL cy RH NV z! => ?_
 have hlen:0<ys.length:=VW.mpr hn
 refine XS.Cy (τ:=Option Nat) (xs:=span ((ys.length - 1:Nat):Int) 0 (-1)) (λkk z=>z=none/\∀ j,ys.length - 1 - kk<j->j<=ys.length - 1->eu ys ch j=false) (λz=>∃ i,z=some i/\cu ys ch (ys.length - 1)=some i)
  (λz=>DH z [("ch",.str ⟨#[ch]⟩),("self",.raw (.ref f))]) (λz! => VR f fd L a d mx aC lines k ys) (λp z! => [("i",p),("ch",.str ⟨#[ch]⟩),("self",.raw (.ref f))]) none ?_ ⟨rfl,λj h1 h2=>absurd h1 (Tt h2)⟩ (λx p h=>h) rfl (λz! => rfl)
  (λkk p z s₁ hp hz=>?_) (λkk p z s₁ hp hz=>?_) (λz hz=>?_) (λz hz=>?_)
 ·refine IV.xR (EV.blt rfl ok.jq.1 ok.jq.2) ((EV.sub (EV.dj (Rm:=[Res.acc aX a d k ys]) (n:=1) (EV.cur ok (EV.name rfl)) (Found.acc ok.acc.ok cN ok.acc.AR.1 ok.acc.AR.2 (by decide)) NV (tK (n:=0) ok.acc) kh (by show 1<=m;exact R9 (Sf _ _) hm) l7.nil) EV.aE).conv (congrArg PV.int (Int.ofNat_sub hlen).symm))
   EV.aE (EV.neg EV.aE) (by decide) (by decide) (small_down (by exact SE (W_ hl)))
 ·refine ob0_2 hz λbM z! => ?_;obtain rfl:=bM
  exact AV.name (.inl rfl)
 ·obtain ⟨rfl,hz⟩:=hz
  rw [m6] at hp
  obtain ⟨hk1,hp⟩:kk<ys.length - 1/\PV.int ((ys.length - 1 - kk:Nat):Int)=p:=by
   rw [SP] at hp
   refine ob1_2 (S6.mp hp) λq hq az=>?_;obtain rfl:=az
   refine ob1_1 (TG.mp hq) λh1 h2=>?_
   simp at h1 h2
   subst h2
   exact ⟨h1,rfl⟩
  subst hp
  generalize hi:ys.length - 1 - kk=i
  have hi1:0<i:=by exact Ia hl hlen hk1 hi
  have hi2:i<ys.length:=by exact H_ hi hi1
  have QS:ys[i]? = some (ys.getD i ("","")):=by simp [hi2]
  have QO:ys[i - 1]? = some (ys.getD (i - 1) ("","")):=by
   have:i - 1<ys.length:=by exact TQ (Uu _ _) hi2
   simp [this]
  have found:eu ys ch i=true->cu ys ch (ys.length - 1)=some i:=λh=>cX hi1 h (by exact Nat.le_sub_of_add_le (S5 hi2)) λj h1 h2=>hz j (by exact H8 hi h1) h2
  have next:eu ys ch i=false->∀ j,ys.length - 1 - (kk+1)<j->j<=ys.length - 1->eu ys ch j=false:=λh j h1 h2=>by
   by_cases e:j=i
   ·subst e;exact h
   ·exact hz j (by exact HZ hi hi1 h1 e) h2
  refine XS.ite (J:=λs'=>(Va ⟨#[ch]⟩ && decide ((ys.getD i ("","")).1.cps[0]? = some ch))=false/\St G _ [("i",.int i),("ch",.str ⟨#[ch]⟩),("self",.raw (.ref f))] W (VR f fd L a d mx aC lines k ys) s')
   (TV.bool (EV.isspace (EV.name rfl))) (λhc=>?_) (λhc=>XS.nil λs₁ S₁=>⟨by rw [hc];rfl,S₁⟩) ?_
  ·refine XS.asg (p:=.str (ys.getD i ("","")).1) (EV.Jg (EV.uS ok.acc.ok cN (EV.cur ok (EV.name rfl)) (EV.name rfl) QS) EV.aE rfl) (AV.name (.inl rfl)) ?_
   refine XS.ite (J:=λs'=>(Va ⟨#[ch]⟩ && decide ((ys.getD i ("","")).1.cps[0]? = some ch))=false/\St G _ [("i",.int i),("ch",.str ⟨#[ch]⟩),("self",.raw (.ref f))] W (VR f fd L a d mx aC lines k ys) s')
    (TV.Bb rfl rfl) (λh=>?_) (λh=>?_) (λs₁ h₁=>UD h₁)
   ·refine XS.brk λs₁ S₁=>⟨some i,⟨i,rfl,found ?_⟩,S₁.weaken ?_⟩
    ·unfold eu;rw [hc,h];rfl
    ·exact af rfl (af rfl (af rfl ak))
   ·refine XS.nil λs₁ S₁=>⟨by rw [h];simp,S₁.weaken ?_⟩
    exact af rfl (af rfl (af rfl ak))
  ·rintro s₁ ⟨h1,S₁⟩
   revert s₁
   show XS G _ _ _ _ _ _
   refine XS.asg (p:=.str (ys.getD (i - 1) ("","")).2) (EV.Jg (EV.uS ok.acc.ok cN (EV.cur ok (EV.name rfl)) ((EV.sub (EV.name (p:=.int i) rfl) EV.aE).conv (congrArg PV.int (Int.ofNat_sub hi1).symm)) QO) EV.aE rfl) (AV.name (.inl rfl)) ?_
   refine XS.ite (J:=λs'=>∃ z',(z'=none/\∀ j,ys.length - 1 - (kk+1)<j->j<=ys.length - 1->eu ys ch j=false)/\St G (bu (iV pm code) ir A _ L' m _) (DH z' [("ch",.str ⟨#[ch]⟩),("self",.raw (.ref f))]) W (VR f fd L a d mx aC lines k ys) s')
    (TV.DE rfl rfl) (λh=>?_) (λh=>?_) (λs₁ h₁=>UD h₁)
   ·refine XS.brk λs₁ S₁=>⟨some i,⟨i,rfl,found ?_⟩,S₁.weaken ?_⟩
    ·unfold eu;rw [h1,h];rfl
    ·exact af rfl (af rfl (af rfl ak))
   ·refine XS.nil λs₁ S₁=>⟨none,⟨rfl,next ?_⟩,S₁.weaken ?_⟩
    ·unfold eu;rw [h1,h];rfl
    ·exact af rfl (af rfl ak)
 ·obtain ⟨rfl,hz⟩:=hz
  refine XS.cont λs₁ S₁=>⟨fF λj h1 h2=>hz j ?_ h2,S₁.weaken (af rfl ak)⟩
  rw [m6];simp;exact h1
 ·obtain ⟨i,rfl,hz⟩:=hz
  refine XS.brk λs₁ S₁=>⟨i,hz,S₁.weaken (af rfl (af rfl ak))⟩
end
section
variable {K:Frag} {a d fd:Addr}
noncomputable def wL (mx:Nat) (aC:List Nat) (lines:List Str) (k:Nat) (xs:List (Str×Str)) (w t:Str):List Str×Nat×List (Str×Str) :=
 if k+av (xs++[(w,t)])<=mx then (lines,k,xs++[(w,t)])
 else match findS (xs++[(w,t)]) aC with
  | some i=>(lines++[bg ((xs++[(w,t)]).take i)],0,(xs++[(w,t)]).drop i)
  | none=>if k=0 then (lines,k,xs++[(w,t)]) else (lines++[bg xs],0,[(if w.length=0 then " " else w,t)])
theorem qO {ys:List (Str×Str)} {ch i:Nat}:∀ {m:Nat},cu ys ch m=some i->0<i/\i<=m
 | 0,h=>by cases h
 | m+1,h=>by
  rw [cu] at h
  split at h
  ·cases h;exact And.intro (TM (VH _)) (Si _)
  ·have:=qO h;exact And.intro this.1 (SE this.2)
theorem qN {ys:List (Str×Str)} {i:Nat}:∀ {l:List Nat},findS ys l=some i->0<i/\i<=ys.length - 1
 | [],h=>by cases h
 | ch::r,h=>by
  rw [findS] at h
  split at h
  ·rename_i j hj
   cases h
   exact qO hj
  ·exact qN h
theorem rq (ys:List (Str×Str)) (i:Nat):av (ys.take i)<=av ys:=by
 have:=aR (ys.take i) (ys.drop i)
 rw [Ud] at this
 exact Ig this
theorem C4 (ok:eX G K) {w t:Str} (hg:jb xs) (hl1:xs.length+1<=1000) (hl2:k+av (xs++[(w,t)])<=lim) (hl3:lines.length+1<=lim) (oK:aC.cps.all (· < 128)=true) :
  CC G ir (n+8) (VR f fd L a d mx aC lines k xs) (VR f fd L a d mx aC (wL mx aC.cps.toList lines k xs w t).1 (wL mx aC.cps.toList lines k xs w t).2.1 (wL mx aC.cps.toList lines k xs w t).2.2) [.raw (.ref f),.str w,.str t] .none:=by
 refine ob2_1 ok.app λpm code fn=>?_
 refine ob2_1 ok.acc.push λIL cy jQ=>?_
 refine ob3_2 ok.acc.pop λKI bL Pj vU z! => ?_
 refine ob2_1 ok.acc.res λOx CM Ej=>?_
 refine ob2_1 ok.acc.from_ λRW Pr J5=>?_
 refine ob2_1 ok.vD λRV Pq NW=>?_
 have hlim:lim=1048576:=by decide
 generalize DQ:wL mx aC.cps.toList lines k xs w t=sp
 have hyl:(xs++[(w,t)]).length=xs.length+1:=by simp
 have Qj:xs++[(w,t)]≠[]:=by simp
 refine CC.of fn (names:=["self","fws","string"]) (ps':=[.raw (.ref f),.str w,.str t]) (λs W vs iv r=>?_) rfl (uw (.inl rfl) (.inl rfl) (.inl rfl)) (λA W s L' hA=>?_)
 ·have hlen:=r.length
  refine ob3_1 (DB hlen) λx y z rG=>?_;obtain rfl:=rG
  exact ⟨[x,y,z],Uy rfl,r⟩
 refine XS.eT (ER.dj (Rs:=[Res.acc aX a d k xs]) (aq:=[Res.acc aX a d k (xs++[(w,t)])]) (Ro:=[Res.lst L (lines.map .str),Res.obj dc f fd (fP mx aC L a)]) (n:=1)
  (EV.cur ok (EV.name rfl)) (Found.acc ok.acc.ok cN ok.acc.iH.1 ok.acc.iH.2 (by decide)) jQ (rm (n:=0) ok.acc (by exact wQ hl1 hlim)) (by show 1<=n+7;exact Sf _ _) (l7.of (aV.cons (EV.name rfl) (aV.cons (EV.name rfl) aV.nil)))) ?_
 refine XS.ite (c:=decide (((mx:Nat):Int)<((k+av (xs++[(w,t)]):Nat):Int))) (J:=λs'=>(∃ ρ,St G (bu (iV pm code) ir A s L' (n+7) ((VR f fd L a d mx aC lines k xs).flatMap Res.addrs)) ρ W (VR f fd L a d mx aC sp.1 sp.2.1 sp.2.2) s')/\Rep W s'.heap .none .none)
  (TV.cmp (EV.yD (xs:=xs++[(w,t)]) ok (EV.name rfl) rfl hl2 (by show 2<=n+7;exact Sf _ _)) (EV.P5 ok (EV.name rfl)) qi) (λhc=>?_) (λhc=>?_) (λs₁ h₁=>UD h₁)
 rotate_left
 ·have:=of_decide_eq_false hc
  have e:sp=(lines,k,xs++[(w,t)]):=by rw [<- DQ,wL,if_pos (TS λq=>this (Ul.mpr q))]
  subst e
  exact XS.nil λs₁ S₁=>⟨⟨_,S₁⟩,Rep.none⟩
 have hc':¬ (k+av (xs++[(w,t)])<=mx):=λq=>Tt q (Ul.mp (of_decide_eq_true hc))
 refine XS.weaken (ρ':=[("self",.raw (.ref f))]) ?_ (af rfl ak)
 refine XS.Cy (τ:=Option Nat) (xs:=signsOf aC) (λkk z=>z=none/\∀ ch∈aC.cps.toList.take kk,cu (xs++[(w,t)]) ch ((xs++[(w,t)]).length - 1)=none)
  (λz=>∃ i,z=some i/\findS (xs++[(w,t)]) aC.cps.toList=some i)
  (λz=>DH z [("self",.raw (.ref f))]) (λz! => VR f fd L a d mx aC lines k (xs++[(w,t)])) (λp z! => [("ch",p),("self",.raw (.ref f))]) none (IV.str (EV.PL ok (EV.name rfl)) oK) ⟨rfl,by simp⟩ (λx p h=>h) rfl (λz! => rfl)
  (λkk p z s₁ hp hz=>?_) (λkk p z s₁ hp hz=>?_) (λz hz=>?_) (λz hz=>?_)
 ·refine ob0_2 hz λbM z! => ?_;obtain rfl:=bM
  exact AV.name (.inl rfl)
 ·obtain ⟨rfl,hz⟩:=hz
  unfold signsOf at hp
  rw [SP] at hp
  refine ob1_2 (S6.mp hp) λch hch az=>?_;obtain rfl:=az
  refine ob1_1 (TG.mp hch) λhlt hget=>?_
  refine λs₂ S₂=>aF (BD (m:=n+7) ok (by exact Sf _ _) (by exact H7 hl1 hyl) Qj s₂ S₂) λfl s₃ h₃=>?_
  cases fl with
  | next=>exact ⟨none,⟨rfl,λc hc=>by
    rw [Tz,hch] at hc
    rcases Sq.mp hc with hc | hc
    ·exact hz c hc
    ·have:c=ch:=by simpa using hc
     subst this;exact h₃.1⟩,h₃.2⟩
  | cont=>exact ⟨none,⟨rfl,λc hc=>by
    rw [Tz,hch] at hc
    rcases Sq.mp hc with hc | hc
    ·exact hz c hc
    ·have:c=ch:=by simpa using hc
     subst this;exact h₃.1⟩,h₃.2⟩
  | brk =>
   refine ob1_2 h₃ λi hi aT=>?_
   refine ⟨some i,⟨i,rfl,?_⟩,aT⟩
   have e:aC.cps.toList=aC.cps.toList.take kk++ch::aC.cps.toList.drop (kk+1):=by
    rw [<- hget,List.getElem_cons_drop hlt,Ud]
   rw [e]
   exact lG hi hz
  | ret v=>exact h₃.elim
 ·obtain ⟨rfl,hz⟩:=hz
  have hS:findS (xs++[(w,t)]) aC.cps.toList=none:=fE λch hch=>hz ch (by rw [UB (by simp [signsOf])];exact hch)
  refine XS.BC (ER.dj (Rs:=[Res.acc aX a d k (xs++[(w,t)])]) (aq:=[Res.acc aX a d k xs]) (Ro:=[Res.lst L (lines.map .str),Res.obj dc f fd (fP mx aC L a)]) (n:=2) (EV.cur ok (EV.name rfl))
   (Found.acc ok.acc.ok cN ok.acc.ow.1 ok.acc.ow.2 (by decide)) vU (uP (z:=(w,t)) (n:=0) ok.acc) (by show 2<=n+7;exact Sf _ _) l7.nil) (AV.mj (.inl rfl) (.inl rfl)) ?_
  refine XS.ite (J:=λs'=>∃ dQ k' xs' w',sp=(dQ,k',xs'++[(w',t)])/\xs'.length+1<=lim/\St G (bu (iV pm code) ir A s L' (n+7) ((VR f fd L a d mx aC lines k xs).flatMap Res.addrs)) [("fws",.str w'),("part",.str t),("self",.raw (.ref f))] W (VR f fd L a d mx aC dQ k' xs') s')
   (TV.cmp (EV.i_ ok.acc.ok cN (EV.cur ok (EV.name rfl))) EV.aE qi) (λhk=>?_) (λhk=>?_) ?_
  ·have hk0:k≠0:=Vi (Ul.mp (of_decide_eq_true hk))
   refine XS.eT (ER.dj (Rs:=VR f fd L a d mx aC lines k xs) (aq:=VR f fd L a d mx aC (lines++[bg xs]) 0 []) (Ro:=[]) (n:=7) (EV.name rfl)
    (Found.obj ok.ok (bx.res (r:=Res.obj dc f fd (fP mx aC L a)) (by simp [VR])) ok.gt ok.k9.1 ok.k9.2 rfl) NW (Cf (n:=0) ok hg (by exact wQ hl1 hlim) (by rw [aR] at hl2;exact HW hl2 hlim) hl3 (.inl hk0)).mc (by show 7<=n+7;exact Sf _ _) l7.nil) ?_
   rw [SI]
   have e:sp=(lines++[bg xs],0,[]++[(if w.length=0 then (" ":Str) else w,t)]):=by rw [<- DQ,wL,if_neg hc',hS];simp only [hk0,if_false,VS]
   refine XS.ite (J:=λs'=>∃ dQ k' xs' w',sp=(dQ,k',xs'++[(w',t)])/\xs'.length+1<=lim/\St G (bu (iV pm code) ir A s L' (n+7) ((VR f fd L a d mx aC lines k xs).flatMap Res.addrs)) [("fws",.str w'),("part",.str t),("self",.raw (.ref f))] W (VR f fd L a d mx aC dQ k' xs') s')
    (TV.not (TV.str (EV.name rfl))) (λh=>?_) (λh=>?_) (λs₁ h₁=>UD h₁)
   ·have hw:w.length=0:=by simpa using h
    rw [if_pos hw] at e
    refine XS.asg EV.bP (AV.name (.inl rfl)) (XS.nil λs₁ S₁=>⟨_,_,_,_,e,by simp [hlim],S₁.weaken (af rfl (af rfl (af rfl ak)))⟩)
   ·have hw:¬ w.length=0:=by simpa using h
    rw [if_neg hw] at e
    refine XS.nil λs₁ S₁=>⟨_,_,_,_,e,by simp [hlim],S₁.weaken (af rfl (af rfl (af rfl ak)))⟩
  ·have hk0:k=0:=Nat.eq_zero_of_not_pos λq=>of_decide_eq_false hk (Ul.mpr q)
   have e:sp=(lines,k,xs++[(w,t)]):=by rw [<- DQ,wL,if_neg hc',hS];simp only [hk0,if_true]
   refine XS.nil λs₁ S₁=>⟨_,_,_,_,e,by exact wQ hl1 hlim,S₁.weaken (af rfl (af rfl (af rfl ak)))⟩
  ·rintro s₁ ⟨dQ,k',xs',w',e,hx',S₁⟩
   revert s₁
   show XS G _ _ _ _ _ _
   refine XS.eT (ER.dj (Rs:=[Res.acc aX a d k' xs']) (aq:=[Res.acc aX a d k' (xs'++[(w',t)])]) (Ro:=[Res.lst L (dQ.map .str),Res.obj dc f fd (fP mx aC L a)]) (n:=1)
    (EV.cur ok (EV.name rfl)) (Found.acc ok.acc.ok cN ok.acc.iH.1 ok.acc.iH.2 (by decide)) jQ (rm (n:=0) ok.acc hx') (by show 1<=n+7;exact Sf _ _) (l7.of (aV.cons (EV.name rfl) (aV.cons (EV.name rfl) aV.nil)))) ?_
   subst e
   exact XS.MU λs₁ S₁=>⟨⟨_,S₁⟩,Rep.none⟩
 ·refine ob1_2 hz λi aB hS=>?_;obtain rfl:=aB
  refine ob0_2 (qN hS) λhi1 hi2=>?_
  have e:sp=(lines++[bg ((xs++[(w,t)]).take i)],0,(xs++[(w,t)]).drop i):=by rw [<- DQ,wL,if_neg hc',hS]
  refine XS.BC (ER.dj (Rs:=[Res.acc aX a d k (xs++[(w,t)])]) (aq:=[Res.acc aX a d k ((xs++[(w,t)]).take i)]) (Ro:=[Res.lst L (lines.map .str),Res.obj dc f fd (fP mx aC L a)]) (n:=1) (EV.cur ok (EV.name rfl))
   (Found.acc ok.acc.ok cN ok.acc.qq.1 ok.acc.qq.2 (by decide)) J5 (zV (n:=0) ok.acc (by exact R9 hi2 (Uu _ _)) (by exact HL hl1 hlim hyl)) (by show 1<=n+7;exact Sf _ _) (l7.of (aV.cons (EV.name rfl) aV.nil))) (AV.name (.inl rfl)) ?_
  refine XS.eT (ER.perm gB (ER.append (p:=.str (bg ((xs++[(w,t)]).take i))) (EV.perm gB.symm (EV.M5 ok (EV.name rfl))) (EV.perm gB.symm (EV.xB ok (EV.name rfl) rfl (by have:=rq (xs++[(w,t)]) i;exact HH hl2 hlim this) (by show 4<=n+7;exact Sf _ _))) (by simpa using hl3)) (.refl _)) ?_
  refine XS.perm (aq:=VR f fd L a d mx aC (lines++[bg ((xs++[(w,t)]).take i)]) k ((xs++[(w,t)]).take i)) (by rw [VR,S4];exact .swap ..) ?_
  refine XS.eT (ER.dj (Rs:=[Res.acc aX a d k ((xs++[(w,t)]).take i)]) (aq:=[Res.acc aX a d 0 ((xs++[(w,t)]).drop i)]) (Ro:=[Res.lst L ((lines++[bg ((xs++[(w,t)]).take i)]).map .str),Res.obj dc f fd (fP mx aC L a)]) (n:=1)
   (EV.cur ok (EV.name rfl)) (Found.acc ok.acc.ok cN ok.acc.sD.1 ok.acc.sD.2 (by decide)) Ej (wu (n:=0) ok.acc (by rw [TN];exact HC hl1 hlim hyl hi1)) (by show 1<=n+7;exact Sf _ _) (l7.of (aV.cons (EV.name rfl) aV.nil))) ?_
  subst e
  exact XS.nil λs₁ S₁=>⟨⟨_,S₁⟩,Rep.none⟩
end
section
variable {K:Frag} {a d fd:Addr} {inner:Str}
noncomputable abbrev FS:Type:=List Str×Nat×List (Str×Str)
noncomputable def i9 (mx:Nat) (aC:Str) (z:FS) (w t:Str):FS:=wL mx aC.cps.toList z.1 z.2.1 z.2.2 w t
noncomputable def uY (z:FS) (w t:Str):Prop:=jb z.2.2/\z.2.2.length+1<=1000/\z.2.1+av (z.2.2++[(w,t)])<=lim/\z.1.length+1<=lim
noncomputable abbrev VZ (f fd L a d:Addr) (mx:Nat) (aC:Str) (z:FS):List Res:=VR f fd L a d mx aC z.1 z.2.1 z.2.2
theorem ER.app (ok:eX G K) {z:FS} {w t:Str} {o e1 e2:SQ} {apos pos:Pos} (ha:uY z w t) (oK:aC.cps.all (· < 128)=true)
  (ho:EV G F ρ W (VZ f fd L a d mx aC z) o (.raw (.ref f))) (h1:EV G F ρ W (VZ f fd L a d mx aC z) e1 (.str w)) (h2:EV G F ρ W (VZ f fd L a d mx aC z) e2 (.str t)) (hn:8<=F.n)
  (hst:backTo pos (starEach [e1,e2] F.env)=[e1,e2].map (λe=>(false,eval e F.env)):=by rfl)
  (hbase:attributeBase o "_append_chunk" F.env (eval o F.env)=eval o F.env:=by rfl)
  (hfew:((backTo pos (starEach [e1,e2] F.env)).all (λx => !x.1) && (backToKw pos (keywordEach [] F.env)).all (λx=>x.1.isSome)
   && decide ([e1,e2].length+([]:List Keyword).length+(if ([]:List Keyword).isEmpty then 0 else 1)<30))=true:=by rfl)
  (hline:(apos.endLine == pos.line)=true:=by rfl) :
  ER G F ρ W (VZ f fd L a d mx aC z) (.Call (.Attribute o "_append_chunk" apos) [e1,e2] [] pos) .none (VZ f fd L a d mx aC (i9 mx aC z w t)):=by
 refine ob2_1 ok.app λpm code fn=>?_
 have:=ER.dj (Rs:=VZ f fd L a d mx aC z) (aq:=VZ f fd L a d mx aC (i9 mx aC z w t)) (Ro:=[]) (n:=8) (name:="_append_chunk") (apos:=apos) (pos:=pos) (by rw [SI];exact ho)
  (by rw [SI];exact Found.obj ok.ok (bx.res (r:=Res.obj dc f fd (fP mx aC L a)) (by simp [VR])) ok.gt ok.yu.1 ok.yu.2 rfl) fn
  (C4 (n:=0) (w:=w) (t:=t) ok ha.1 ha.2.1 ha.2.2.1 ha.2.2.2 oK).mc hn (by rw [SI];exact l7.of (aV.cons h1 (aV.cons h2 aV.nil)) hst) rfl hbase hfew hline
 rw [SI,SI] at this
 exact this
theorem ER.IA (ok:eX G K) (hg:jb xs) (hl1:xs.length+1<=lim) (hl2:k+av xs<=lim) (hl3:lines.length+1<=lim) (hk:k≠0\/(av xs≠0/\Va (bg xs)=false))
  (hb:((lines++[bg xs]).map (·.length)).sum+(lines++[bg xs]).length * sep.length<=lim)
  (ho:EV G F ρ W (VR f fd L a d mx aC lines k xs) o (.raw (.ref f))) (h1:EV G F ρ W (VR f fd L a d mx aC lines k xs) e1 (.str sep)) (hn:8<=F.n)
  (hst:backTo pos (starEach [e1] F.env)=[e1].map (λe=>(false,eval e F.env)):=by rfl)
  (hbase:attributeBase o "_str" F.env (eval o F.env)=eval o F.env:=by rfl)
  (hfew:((backTo pos (starEach [e1] F.env)).all (λx => !x.1) && (backToKw pos (keywordEach [] F.env)).all (λx=>x.1.isSome)
   && decide ([e1].length+([]:List Keyword).length+(if ([]:List Keyword).isEmpty then 0 else 1)<30))=true:=by rfl)
  (hline:(apos.endLine == pos.line)=true:=by rfl) :
  ER G F ρ W (VR f fd L a d mx aC lines k xs) (.Call (.Attribute o "_str" apos) [e1] [] pos) (.str (Sx sep (lines++[bg xs]))) (VR f fd L a d mx aC (lines++[bg xs]) 0 []):=by
 refine ob2_1 ok.str λpm code fn=>?_
 have:=ER.dj (Rs:=VR f fd L a d mx aC lines k xs) (aq:=VR f fd L a d mx aC (lines++[bg xs]) 0 []) (Ro:=[]) (n:=8) (name:="_str") (apos:=apos) (pos:=pos) (by rw [SI];exact ho)
  (by rw [SI];exact Found.obj ok.ok (bx.res (r:=Res.obj dc f fd (fP mx aC L a)) (by simp [VR])) ok.gt ok.jl.1 ok.jl.2 rfl) fn
  (C3 (n:=0) ok hg hl1 hl2 hl3 hk hb).mc hn (by rw [SI];exact l7.of (aV.cons h1 aV.nil) hst) rfl hbase hfew hline
 rw [SI,SI] at this
 exact this
theorem EN.vf (ok:eX G K) {p:Pos} {e3 e4:SQ} {m:Nat} (hf:EV G F ρ W Rs (.Name "_ValueFormatter" p) (.raw (.ref dc))) (h1:EV G F ρ W Rs e1 (.int k)) (h2:EV G F ρ W Rs e2 (.int mx)) (h3:EV G F ρ W Rs e3 (.str " ")) (h4:EV G F ρ W Rs e4 (.str aC))
  (hs:aC.length<=lim) (hn:m+4<=F.n) (hst:backTo pos (starEach [e1,e2,e3,e4] F.env)=[e1,e2,e3,e4].map (λe=>(false,eval e F.env)):=by rfl) :
  EN G F ρ W Rs (.Call (.Name "_ValueFormatter" p) [e1,e2,e3,e4] [] pos) (λv W' aq=>∃ f fd L a d,v = .ref f/\W'=a::d::L::f::fd::W/\aq=VR f fd L a d mx aC [] k []++Rs):=λs S=>by
 refine aF (EN.make false ok.OD hf (aV.cons h1 (aV.cons h2 (aV.cons h3 (aV.cons h4 .nil)))) (λx d=>Res.obj dc x d []) (λz! z! => rfl) (λW h x d e1 e2 ne=>AO W h x d e1 e2 ne) (λx d=>Am (n:=m) ok hs) (by exact hn) hst s S) λv s' h=>?_
 refine ob2_2 h λW' aq az S'=>?_;refine ob3_5 az λx d Rn h1 h2 h3 C1 h6=>?_;refine ob3_2 C1 λL a d' h4 h5=>?_
 subst h4 h5 h6
 exact ⟨_,_,⟨_,_,_,_,_,h3,rfl,rfl⟩,S'⟩
noncomputable def cH (mx:Nat) (aC inner:Str) (z:FS) (p:Str×Str):FS :=
 if p.2.cps[0]? = some 97 then i9 mx aC z p.1 (p.2++inner++";") else i9 mx aC (i9 mx aC z p.1 p.2) inner ";"
noncomputable def z3 (mx:Nat) (aC inner:Str) (z:FS) (p:Str×Str):Prop :=
 p.2.length≠0/\(if p.2.cps[0]? = some 97 then uY z p.1 (p.2++inner++";")/\(p.2++inner++";").length<=lim else uY z p.1 p.2/\uY (i9 mx aC z p.1 p.2) inner ";")
noncomputable abbrev gk (p:Str×Str):PV:=.tup [.str p.1,.str p.2]
noncomputable def uZ (mx:Nat) (aC inner:Str) (k:Nat) (ws:List (Str×Str)) (i:Nat):FS:=(ws.take i).foldl (cH mx aC inner) ([],k,[])
structure wC (G:Glob):Prop where
 fn:∃ pm code,bQ G BG (fdOf (bH dK KX) "_law_rows" [] .none .none pm code .none) (bodyOf (bH dK KX))
 NQ:G.mg "_ValueFormatter"=some (.ref dc)
theorem AA (ok:eX G K) (ye:wC G) {R:List Str} (oK:aC.cps.all (· < 128)=true) (hs:aC.length<=lim)
  (hst:∀ i p,ws[i]? = some p->z3 mx aC inner (uZ mx aC inner k ws i) p)
  (hz:uZ mx aC inner k ws ws.length=(lines,k',xs)) (hg:jb xs) (hl1:xs.length+1<=lim) (hl2:k'+av xs<=lim) (hl3:lines.length+1<=lim) (hk:k'≠0\/(av xs≠0/\Va (bg xs)=false))
  (hb:((lines++[bg xs]).map (·.length)).sum+(lines++[bg xs]).length * sep.length<=lim)
  (hy:(sep.length == 0)=false) (hR:VO (Sx sep (lines++[bg xs])) sep=R) (hp:∀ z∈R,z.length<=lim) (hn:R.length<=lim)
  (hn':(Vd (Sx sep (lines++[bg xs])) (UR (Sx sep (lines++[bg xs])) sep 0 (Sx sep (lines++[bg xs])).length ((Sx sep (lines++[bg xs])).length+1)) sep.length).length<=sizeLine) :
  FC G BG (n+10) [.int k,.int mx,.str aC,.str inner,.lst (ws.map gk),.str sep] (.lst (R.map .str)):=by
 refine ob2_1 ye.fn λpm code fn=>?_
 refine ob2_1 ok.str λIL cy R4=>?_
 have hlim:lim=1048576:=by decide
 subst hR
 refine FC.of fn (names:=["room","width","splits","inner","words","end"]) (ps':=[.int k,.int mx,.str aC,.str inner,.lst (ws.map gk),.str sep]) (λs W vs iv r=>?_) rfl
  (by simp only [Sh,S9,or_false];rintro x (rfl | rfl | rfl | rfl | rfl | rfl) <;> exact .inl rfl) (λA W s L' hA=>?_)
 ·have hlen:=r.length
  refine ob6_1 (M6 hlen) λx y z u v w MK=>?_;obtain rfl:=MK
  exact ⟨[x,y,z,u,v,w],Uy rfl,r⟩
 refine XS.N7 (EN.vf (k:=k) (mx:=mx) (aC:=aC) (m:=0) ok (EV.glob rfl ye.NQ) (EV.name rfl) (EV.name rfl) EV.bP (EV.name rfl) hs (by show 4<=n+9;exact Sf _ _)) (.inl rfl) λv W' aq h=>?_
 refine ob5_3 h λf fd L a d Ae C1 PD=>?_;obtain rfl:=Ae;obtain rfl:=C1;obtain rfl:=PD
 rw [SI]
 refine XS.loop (τ:=FS) (xs:=ws.map gk) (λi z=>z=uZ mx aC inner k ws i) (λz! => False) (λz! => [("maker",.raw (.ref f)),("end",.str sep),("inner",.str inner)]) (λz=>VZ f fd L a d mx aC z)
  (λp z! => match p with | .tup [p1,p2]=>[("word",p2),("blanks",p1),("maker",.raw (.ref f)),("end",.str sep),("inner",.str inner)] | _=>[]) ([],k,[]) (IV.list (EV.name rfl)) rfl (af rfl (af rfl (af rfl ak))) rfl (λz! => rfl)
  (λkk p z s₁ hp hz=>?_) (λkk p z s₁ hp hz=>?_) (λz hz'=>?_)
 ·rw [SP] at hp
  refine ob1_2 (S6.mp hp) λq hq az=>?_;obtain rfl:=az
  exact AV.mj (.inl rfl) (.inl rfl)
 ·rw [SP] at hp
  refine ob1_2 (S6.mp hp) λbM hq az=>?_;obtain ⟨w,t⟩:=bM;obtain rfl:=az
  refine ob0_2 (hst kk _ hq) λh0 h1=>?_
  dsimp only at h0 h1 ⊢
  subst hz
  have hnext:uZ mx aC inner k ws (kk+1)=cH mx aC inner (uZ mx aC inner k ws kk) (w,t):=by
   unfold uZ
   rw [Tz,hq,Ub,U9];rfl
  rw [hnext]
  generalize uZ mx aC inner k ws kk=z at *
  refine ob1_1 (lF h0) λc hcc=>?_
  have e1:decide (t.cps[0]? = some 97)=decide ((⟨#[c]⟩:Str)=⟨#[97]⟩):=(qL h0 hcc 97).symm
  refine XS.ite (c:=decide (t.cps[0]? = some 97)) (J:=λs'=>St G _ [("word",.str t),("blanks",.str w),("maker",.raw (.ref f)),("end",.str sep),("inner",.str inner)] _ (VZ f fd L a d mx aC (cH mx aC inner z (w,t))) s')
   (by rw [e1];exact TV.cmp (EV.yJ (EV.name rfl) EV.aE hcc (by decide) (by decide)) EV.bP qj) (λhc=>?_) (λhc=>?_) (λs₂ S₂=>UD ⟨_,rfl,S₂.weaken (af rfl (af rfl (af rfl ak)))⟩)
  ·have hc:=of_decide_eq_true hc
   rw [if_pos hc] at h1
   have hl:(t++inner).length<=lim:=by
    have e:(t++inner++";").length=(t++inner).length+1:=SG _ _
    exact Sl (R9 (So e.symm) h1.2)
   refine XS.eT (ER.app (w:=w) (t:=t++inner++";") ok h1.1 oK (EV.name rfl) (EV.name rfl) (EV.mO (EV.mO (EV.name rfl) (EV.name rfl) hl) EV.bP h1.2) (by show 8<=n+9;exact Sf _ _)) (XS.nil λs₂ S₂=>?_)
   have e:cH mx aC inner z (w,t)=i9 mx aC z w (t++inner++";"):=by rw [cH,if_pos hc]
   rw [e];exact S₂
  ·have hc:=of_decide_eq_false hc
   rw [if_neg hc] at h1
   refine XS.eT (ER.app (w:=w) (t:=t) ok h1.1 oK (EV.name rfl) (EV.name rfl) (EV.name rfl) (by show 8<=n+9;exact Sf _ _)) ?_
   refine XS.eT (ER.app (w:=inner) (t:=";") ok h1.2 oK (EV.name rfl) (EV.name rfl) EV.bP (by show 8<=n+9;exact Sf _ _)) (XS.nil λs₂ S₂=>?_)
   have e:cH mx aC inner z (w,t)=i9 mx aC (i9 mx aC z w t) inner ";":=by rw [cH,if_neg hc]
   rw [e];exact S₂
 ·have hz':z=(lines,k',xs):=by
   rcases hz' with h | h
   ·rw [h,Sa];exact hz
   ·exact h.elim
  subst hz'
  refine XS.MT (ER.nj (aq:=VR f fd L a d mx aC (lines++[bg xs]) 0 []) (x:=Sx sep (lines++[bg xs])) ?_ (.cons (EV.name rfl) .nil) V4 PySem.F.type_str_split (uo (y:=sep) hy hp hn hn') (by simp)) (λs₂ v S r=>⟨S.stp,r.less λb hb=>by simp [hb]⟩)
  exact ER.IA ok hg hl1 hl2 hl3 hk hb (EV.name rfl) (EV.name rfl) (by show 8<=n+9;exact Sf _ _)
end
section
variable {K:Frag}
noncomputable abbrev Ord:Type:=List Nat×Str
noncomputable abbrev fR (o:Ord):PV:=.tup [.lst (o.1.map aj),.str o.2]
noncomputable def cU (tl:List Nat) (i:Nat):Str:=if i∈tl then "1" else "0"
noncomputable def cT (k:Nat) (e:List Nat) (o:Ord) (p:Nat):Ord:=(o.1.take p++[k]++o.1.drop p,o.2++Sx "" (e.map (cU (o.1.drop p))))
noncomputable def b5 (k:Nat) (e:List Nat) (os:List Ord):List Ord:=os.flatMap λo=>(Sk (k+1)).map (cT k e o)
noncomputable def aQ (near:List (List Nat)):Nat->List Ord
 | 0=>[([],"")]
 | k+1=>b5 k (near.getD k []) (aQ near k)
structure BL (G:Glob):Prop where
 fn:∃ pm code,bQ G CV (fdOf (bH dK Jj) "_law_orders" [] .none .none pm code .none) (bodyOf (bH dK Jj))
 jq:G.mg "range"=none/\G.mb "range"=some (.type "range")
 CJ:G.mg "enumerate"=none/\G.mb "enumerate"=some (.type "enumerate")
theorem lU (tl:List Nat) (e:List Nat):(Sx "" (e.map (cU tl))).length=e.length:=by
 rw [iN,S3]
 have:∀ e:List Nat,(e.map ((λx:Str=>x.length) ∘ cU tl)).sum=e.length:=by
  intro e
  induction e with
  | nil=>rfl
  | cons i e ih =>
   rw [SV,Xu,ih,S_]
   have:(cU tl i).length=1:=by unfold cU;split <;> rfl
   show (cU tl i).length+_=_
   exact Ib this
 exact this e
theorem t6:∀ o∈aQ near k,o.1.length=k:=by
 induction k with
 | zero=>intro o h;rw [aQ] at h;rw [Sm.mp h];rfl
 | succ k ih =>
  intro o h
  rw [aQ,b5] at h
  refine ob1_2 (Sw.mp h) λo' h1 h2=>?_
  refine ob1_2 (SN.mp h2) λp hp az=>?_;obtain rfl:=az
  have:=ih o' h1
  have hp:=Ss.mp hp
  simp [cT,this]
  exact H9 hp
theorem qp (hn:∀ e∈near,e.length<=5) (k:Nat):(near.getD k []).length<=5:=by
 rw [SD]
 cases e:near[k]? with
 | none=>simp
 | some x=>exact hn _ (UW e)
theorem xX (hn:∀ e∈near,e.length<=5):∀ o∈aQ near k,o.2.length<=5 * k:=by
 induction k with
 | zero=>intro o h;rw [aQ] at h;cases Sm.mp h;exact Si _
 | succ k ih =>
  intro o h
  rw [aQ,b5] at h
  refine ob1_2 (Sw.mp h) λo' h1 h2=>?_
  refine ob1_2 (SN.mp h2) λp hp az=>?_;obtain rfl:=az
  have:=ih o' h1
  have he:=qp hn k
  show (o'.2++Sx "" _).length<=_
  rw [SG,lU]
  exact Vy this he
theorem cG {k:Nat} {e:List Nat}:∀ os:List Ord,(b5 k e os).length=(k+1) * os.length
 | []=>rfl
 | o::os=>by
  have:=cG (k:=k) (e:=e) os
  unfold b5 at this ⊢
  rw [S2,Sy,this,Sa,To,S_,Nat.mul_add,Nat.mul_one,Vj]
theorem m9 {near:List (List Nat)}:∀ k,k<=5->(aQ near k).length<=6 ^ k
 | 0,_=>Si 1
 | k+1,h=>by
  have:=m9 (near:=near) k (by exact Sl h)
  rw [aQ,cG,Nat.pow_succ,Nat.mul_comm]
  exact XR this (by exact SE h)
theorem MW (h:k<=5):6 ^ k<=7776:=Nat.pow_le_pow_right (by decide) h
noncomputable abbrev ef (e:List Nat):PV:=.lst (e.map aj)
theorem I3 {L':Addr} {m:Nat}:("tail":Str)∈(eO (fdOf (bH dK Jj) "_law_orders" [] .none .none pm code .none) CV A s0 L' m).cv:=List.contains_iff_mem.mp (by kernel_rfl)
theorem vB (ok:BL G) (h5:near.length<=5) (hn:∀ e∈near,e.length<=5) :
  FC G CV (n+1) [.lst (near.map ef)] (.lst ((aQ near near.length).map fR)):=by
 refine ob2_1 ok.fn λpm code fn=>?_
 have hlim:lim=1048576:=by decide
 refine FC.of fn (names:=["near"]) (ps':=[.lst (near.map ef)]) (λs W vs iv r=>?_) rfl (Tv.mpr (.inl rfl)) (λA W s L' hA=>?_)
 ·refine ob1_2 r.one λa aB r1=>?_;obtain rfl:=aB
  exact ⟨[a],Uy rfl,r⟩
 refine XS.asg (p:=.lst [.tup [.lst [],.str ""]]) (EV.list (aV.cons (EV.tup (ps:=[.lst [],.str ""]) (aV.cons (EV.list .nil) (aV.cons EV.bP .nil))) .nil)) (AV.name (.inl rfl)) ?_
 refine XS.loop (τ:=List Ord) (xs:=gv (near.map ef)) (λi z=>z=aQ near i) (λz! => False) (λz=>[("orders",.lst (z.map fR)),("near",.lst (near.map ef))]) (λz! => [])
  (λp z=>match p with | .tup [p1,p2]=>[("earlier",p2),("k",p1),("orders",.lst (z.map fR)),("near",.lst (near.map ef))] | _=>[]) [([],"")] (IV.enum (EV.blt rfl ok.CJ.1 ok.CJ.2) (EV.name rfl)) rfl (af rfl (af rfl ak)) rfl (λz! => rfl)
  (λkk p z s₁ hp hz=>?_) (λkk p z s₁ hp hz=>?_) (λz hz'=>?_)
 ·unfold gv at hp
  rw [SP] at hp
  refine ob1_2 (S6.mp hp) λq hq az=>?_;obtain rfl:=az
  exact AV.mj (.inl rfl) (.inl rfl)
 ·have hq:kk<near.length/\p = .tup [.int (kk:Int),ef (near.getD kk [])]:=by
   unfold gv at hp
   rw [SP] at hp
   refine ob1_2 (S6.mp hp) λq hq az=>?_;obtain rfl:=az
   rw [List.getElem?_zipIdx,SP] at hq
   refine ob1_2 (S6.mp hq) λq' hq' az=>?_;obtain rfl:=az
   refine ob1_2 (S6.mp hq') λe he az=>?_;obtain rfl:=az
   refine ob1_1 (TG.mp he) λh1 h2=>?_
   refine ⟨h1,?_⟩
   rw [SD,he]
   simp
  refine ob0_2 hq λhkk aB=>?_;obtain rfl:=aB
  have hstep:aQ near (kk+1)=b5 kk (near.getD kk []) z:=by rw [aQ,hz]
  have hlen:∀ o∈z,o.1.length=kk:=by rw [hz];exact t6
  have hcode:∀ o∈z,o.2.length<=25:=by rw [hz];exact λo ho=>R9 (xX hn o ho) (by exact HV h5 hkk)
  have D6:((kk+1) * z.length)<=7776:=by
   rw [<- cG (e:=near.getD kk []),<- hstep]
   exact R9 (m9 _ (by exact S5 (Sd hkk h5))) (MW (by exact S5 (Sd hkk h5)))
  rw [hstep]
  have Ny:=qp hn kk
  generalize near.getD kk []=e at *
  refine XS.own .nil (.inl rfl) λg hg=>?_
  refine XS.loop (τ:=List Ord) (xs:=z.map fR) (λi acc=>acc=b5 kk e (z.take i)) (λz! => False) (λacc=>[("grown",.raw (.ref g)),("earlier",ef e),("k",.int (kk:Int)),("orders",.lst (z.map fR)),("near",.lst (near.map ef))]) (λacc=>[Res.lst g (acc.map fR)])
   (λp acc=>match p with | .tup [p1,p2]=>[("code",p2),("one",p1),("grown",.raw (.ref g)),("earlier",ef e),("k",.int (kk:Int)),("orders",.lst (z.map fR)),("near",.lst (near.map ef))] | _=>[]) []
   (IV.list (EV.name rfl)) rfl (af rfl (af rfl (af rfl (af rfl (af rfl ak))))) rfl (λz! => rfl) (λi p acc s₂ hp hacc=>?_) (λi p acc s₂ hp hacc=>?_) (λacc hacc=>?_)
  ·rw [SP] at hp
   refine ob1_2 (S6.mp hp) λq hq az=>?_;obtain rfl:=az
   exact AV.mj (.inl rfl) (.inl rfl)
  ·rw [SP] at hp
   refine ob1_2 (S6.mp hp) λo ho az=>?_;obtain rfl:=az
   refine ob1_1 (TG.mp ho) λhi R0=>?_
   have OU:o∈z:=UW ho
   have CG:b5 kk e (z.take (i+1))=acc++(Sk (kk+1)).map (cT kk e o):=by
    rw [hacc,Tz,ho,Ub]
    unfold b5
    rw [T8,S2,UM,SI]
   have hal:acc.length+(kk+1)<=7776:=by
    have h1:=cG (k:=kk) (e:=e) (z.take (i+1))
    rw [CG,Sy,Sa,To] at h1
    rw [h1]
    exact R9 (XR (Si _) (by simp;exact V_ _ _)) D6
   rw [CG]
   have mC:=hlen o OU
   have hoc:=hcode o OU
   obtain ⟨one,code'⟩:=o
   dsimp only at mC hoc ⊢
   refine XS.loop (τ:=List Ord) (xs:=span 0 ((kk+1:Nat):Int) 1) (λj b=>b=acc++(Sk j).map (cT kk e (one,code'))) (λz! => False) (λb=>[("code",.str code'),("one",.lst (one.map aj)),("grown",.raw (.ref g)),("earlier",ef e),("k",.int (kk:Int)),("orders",.lst (z.map fR)),("near",.lst (near.map ef))]) (λb=>[Res.lst g (b.map fR)])
    (λp b=>[("p",p),("code",.str code'),("one",.lst (one.map aj)),("grown",.raw (.ref g)),("earlier",ef e),("k",.int (kk:Int)),("orders",.lst (z.map fR)),("near",.lst (near.map ef))]) acc
    (IV.xS (EV.blt rfl ok.jq.1 ok.jq.2) ((EV.add (EV.name rfl) EV.aE).conv (by congr 1)) (pW (by exact HR h5 hkk))) (by simp) (λx p h=>h) rfl (λz! => rfl) (λj p b s₃ hp hb=>AV.name (.inl rfl)) (λj p b s₃ hp hb=>?_) (λb hb=>?_)
   ·rw [nY] at hp
    refine ob0_2 (kY hp) λhj ep=>?_
    subst ep
    have hb1:b.length+1<=lim:=by
     rw [hb,Sy,Sa,To];exact HO hlim hal hj
    have hb2:acc++(Sk (j+1)).map (cT kk e (one,code'))=b++[cT kk e (one,code') j]:=by
     rw [hb,List.range_succ,S4,SH];rfl
    rw [hb2]
    refine XS.asg (EV.qK (f:=aj) (EV.name rfl) (EV.name rfl)) (AV.name (.inr ⟨rfl,I3 (pm:=pm) (code:=code) (A:=A) (s0:=s) (L':=L') (m:=n)⟩)) ?_
    refine XS.append (p:=fR (cT kk e (one,code') j)) rfl ?_ (by rw [Sa];exact hb1) (XS.nil λs₄ bZ=>⟨_,rfl,?_⟩)
    ·refine EV.tup (ps:=[.lst ((cT kk e (one,code') j).1.map aj),.str (cT kk e (one,code') j).2]) (aV.cons ?_ (aV.cons ?_ .nil)) (by show 2<=lim;exact tN hlim)
     ·refine (EV.ri (EV.ri (EV.w6 (f:=aj) (EV.name rfl) (EV.name rfl)) (EV.list (aV.cons (EV.name rfl) .nil) (by show 1<=lim;exact iw hlim)) ?_) (EV.name rfl) ?_).conv ?_
      ·simp;exact HE h5 hlim hkk mC hj
      ·simp;exact HB h5 hlim hkk mC hj
      ·simp [cT]
     ·refine EV.mO (EV.name rfl) (EV.join (ys:=e.map (cU (one.drop j))) EV.bP ((EV.comp (L:=e) (enc:=aj) (λi=>[("i",aj i),("tail",.lst ((one.drop j).map aj))]) (λz! => true) (λi=>.str (cU (one.drop j) i)) (by kernel_rfl) (IV.list (EV.name rfl))
       (by intro i;exact af rfl ak) (λi z! cl cs s0 X W' aq=>AV.name (.inl rfl)) (λi z! cl cs s0 X W' aq=>uT.nil)
       (λi z! z! cl cs s0 X W' aq=>EV.qA (c:=decide (i∈one.drop j)) (by rw [<- o_];exact TV.cmp (EV.name rfl) (EV.name rfl) (Cs (dm.int (d:=0)).ok (dm.nats (d:=0)).ok)) (λh=>EV.conv EV.bP ?_) (λh=>EV.conv EV.bP ?_)) (by exact tM hlim Ny)).conv ?_) ?_) ?_
      ·rw [cU,if_pos (of_decide_eq_true h)]
      ·rw [cU,if_neg (of_decide_eq_false h)]
      ·rw [VX.mpr (λz! z! => rfl),S3];rfl
      ·rw [<- iN,lU]
       show _+_ * 0<=lim
       exact Hw hlim Ny
      ·rw [SG,lU];dsimp only;exact Hv hlim Ny hoc
    ·rw [S4]
     exact bZ.weaken (af rfl (af rfl (af rfl (af rfl (af rfl (af rfl (af rfl ak)))))))
   ·have hb:b=acc++(Sk (kk+1)).map (cT kk e (one,code')):=by
     rcases hb with h | h
     ·rw [h,nY,Sa,To]
     ·exact h.elim
    rw [<- hb]
    exact XS.nil λs₄ bZ=>⟨_,rfl,bZ.weaken (af rfl (af rfl (af rfl (af rfl (af rfl ak)))))⟩
  ·have hacc:acc=b5 kk e z:=by
    rcases hacc with h | h
    ·rw [h,Sa,Xa]
    ·exact h.elim
   subst hacc
   refine XS.freeze (W':=W) (x:="grown") rfl (λb hb=>Sb _ hb) hg (λb hb=>Sh.mp hb) ?_
   refine XS.asg (EV.name rfl) (AV.name (.inl rfl)) (XS.nil λs₄ bZ=>⟨_,rfl,bZ.weaken (af rfl (af rfl ak))⟩)
 ·have hz':z=aQ near near.length:=by
   rcases hz' with h | h
   ·rw [h];unfold gv;rw [Sa,Xw,Sa]
   ·exact h.elim
  subst hz'
  exact XS.ret (EV.name rfl) λs₄ v S r=>⟨S.stp,r⟩
end
noncomputable def aH (d0:Nat):Nat:=4+d0 % 16
noncomputable def di (d0:Nat):Str:=([" ",";",",; ","\t "]:List Str).getD (d0 / 16 % 4) ""
noncomputable def aJ (d0:Nat):Str:=if di d0=",; "/\6<aH d0 then " " else ""
noncomputable def aL (d1:Nat):Nat:=1+d1 % 7
noncomputable def aP (k v:Nat):Str×Str:=(VD " " ((1+v % 2:Nat):Int),VD ⟨#[97+k]⟩ ((1+v / 2 % 3:Nat):Int))
noncomputable def bf (ai:Str) (p:Str×Str):Str:=p.1++p.2++ai++";"
noncomputable def jL (d1 k:Nat):Str:=(["\n","\r","\r\n"]:List Str).getD ((d1 / 7+k) % 3) ""
noncomputable def g7 (d1:Nat):List Str:=(Sk 5).map (jL d1)
structure mR (G:Glob):Prop where
 fn:∃ pm code,bQ G EZ (fdOf (bH dK E9) "law" [] .none .none pm code .none) (bodyOf (bH dK E9))
 sum:G.mg "sum"=none/\G.mb "sum"=some (.builtin "sum")
 len:G.mg "len"=none/\G.mb "len"=some (.builtin "len")
 max:G.mg "max"=none/\G.mb "max"=some (.builtin "max")
 min:G.mg "min"=none/\G.mb "min"=some (.builtin "min")
 sorted:G.mg "sorted"=none/\G.mb "sorted"=some (.builtin "sorted")
 set:G.mg "set"=none/\G.mb "set"=some (.type "set")
 range:G.mg "range"=none/\G.mb "range"=some (.type "range")
 enum:G.mg "enumerate"=none/\G.mb "enumerate"=some (.type "enumerate")
 rows:G.mg "_law_rows"=some (.ref BG)
 orders:G.mg "_law_orders"=some (.ref CV)
 quote:G.mg "quotedata"=some (.ref EY)
 bl:G.mg "bisect_left"=some (.ref E1)
 br:G.mg "bisect_right"=some (.ref E0)
noncomputable abbrev rF (pm code:Value) (A:Around) (s:Shared) (L:Addr) (n:Nat):Fm:=eO (fdOf (bH dK E9) "law" [] .none .none pm code .none) EZ A s L n
noncomputable abbrev sI (i:Nat):List Stmt:=(bodyOf (bH dK E9)).drop i
theorem yl (x:Str) (n:Int):tl (VD x n)=(TH n.toNat (tl x)).flatten:=by
 unfold VD
 have hf:∀ (m:Nat) (acc:Array Nat),(List.foldl (· ++ ·) acc (TH m x.cps)).toList=acc.toList++(TH m (tl x)).flatten:=by
  intro m
  induction m with
  | zero=>intro acc;simp
  | succ m ih=>intro acc;rw [Ut,Vk,ih,Ut,Vv,UN,SH];rfl
 split
 ·have:n.toNat=0:=by lia
  rw [this];rfl
 ·split
  ·rename_i h
   rcases V0.mp h with h | h
   ·have:n=1:=U0 h
    subst this;simp
   ·have:x.length=0:=U0 h
    have:tl x=[]:=VQ.mp (by rw [aM];exact this)
    rw [this];simp
  ·exact hf n.toNat #[]
theorem dh (n:Nat):(VD ⟨#[c]⟩ (n:Int)).length=n:=by
 rw [<- aM,yl]
 simp [tl]
theorem Jc (ok:mR G) {script:List Int}
  (hK:∀ d0 d1 v0 v1 v2 v3:Nat,XS G (rF pm code A s0 L n) [("drawn",.lst ([d0,d1,v0,v1,v2,v3].map aj))] W [] (sI 2) K) :
  XS G (rF pm code A s0 L n) [("script",.lst (script.map .int))] W [] (sI 0) K:=by
 have hlim:lim=1048576:=by decide
 refine XS.asg (EV.fM (L:=script.take 60) (enc:=PV.int) (λx=>[("x",.int x)]) (λx=>aj (x.fmod 1000000).toNat) (by kernel_rfl) (IV.list (EV.w6 (f:=PV.int) (j:=60) (EV.name rfl) EV.aE))
  (by intro a;exact ak) (λx z! cl cs s0 X W' aq=>AV.name (.inl rfl))
  (λx z! cl cs s0 X W' aq=>(EV.mod (EV.name rfl) EV.aE (by decide)).conv ?_) (by rw [Wc];exact H6 hlim)) (AV.nm (by kernel_rfl)) ?_
 ·rw [aj,Int.toNat_of_nonneg (Int.fmod_nonneg_of_pos _ (by decide))]
 have ht:∀ i∈(script.take 60).map (λx:Int=>(x.fmod 1000000).toNat),i<=1000000:=by
  intro i hi
  refine ob1_2 (SN.mp hi) λx z! az=>?_;obtain rfl:=az
  exact qB (XH (Int.fmod_lt_of_pos x (show (0:Int)<1000000 by decide)))
 have e:(script.take 60).map (λx=>aj (x.fmod 1000000).toNat)=((script.take 60).map λx:Int=>(x.fmod 1000000).toNat).map aj:=by rw [S3];rfl
 rw [e]
 generalize (script.take 60).map (λx:Int=>(x.fmod 1000000).toNat)=told at *
 refine XS.asg (EV.fM (L:=[(0,43+told.length),(1,9),(2,2),(3,0),(4,4),(5,1)]) (enc:=λx:Nat×Nat=>.tup [aj x.1,aj x.2]) (λx=>[("base",aj x.2),("k",aj x.1),("told",.lst (told.map aj))]) (λx=>aj (x.2+(pick told (some (x.1:Int)) none (some 6)).sum)) (by kernel_rfl)
  (IV.enum (xs:=[43+told.length,9,2,0,4,1].map aj) (EV.blt rfl ok.enum.1 ok.enum.2) (EV.list (ps:=[43+told.length,9,2,0,4,1].map aj) (aV.cons (EV.d9 (EV.aE (i:=(43:Nat))) ((EV.sM (EV.blt rfl ok.len.1 ok.len.2) (EV.name rfl)).conv (by rw [Sa]))) (aV.cons (EV.aE (i:=(9:Nat))) (aV.cons (EV.aE (i:=(2:Nat))) (aV.cons (EV.aE (i:=(0:Nat))) (aV.cons (EV.aE (i:=(4:Nat))) (aV.cons (EV.aE (i:=(1:Nat))) .nil)))))) (by rw [Sa];show 6<=lim;exact Cc hlim)))
  (by intro a;exact af rfl ak) (λx z! cl cs s0 X W' aq=>AV.mj (.inl rfl) (.inl rfl))
  (λx z! cl cs s0 X W' aq=>EV.d9 (EV.name rfl) (EV.IF (EV.blt rfl ok.sum.1 ok.sum.2) (EV.II (EV.name rfl) (EV.name rfl) EV.aE (by decide)) λi hi=>ht i (xW hi))) (by show 6<=lim;exact Cc hlim)) (AV.nm (by kernel_rfl)) ?_
 exact XS.weaken (hK _ _ _ _ _ _) (af rfl ak)
noncomputable def bz (ai:Str) (words:List (Str×Str)):List Str:=""::words.map (bf ai)
noncomputable def bS (room:Nat) (ts:List Str):List Nat:=ts.foldl (λz t=>z++[z.getLastD 0+t.length]) [0,room]
noncomputable def vI (width:Nat) (sums:List Nat) (k:Nat):List Nat:=(Sk k).filter λi=>decide (sums.getD (k+1) 0<=width+sums.getD i 0)
theorem yv (d0:Nat):([" ",";",",; ","\t "]:List Str)[d0 / 16 % 4]? = some (di d0):=by
 unfold di
 generalize h:d0 / 16 % 4=m
 have:m<4:=by exact wO h
 clear h;revert this;revert m
 exact k_ (k_ (k_ (k_ ltZ rfl) rfl) rfl) rfl
theorem yw (d1 k:Nat):(["\n","\r","\r\n"]:List Str)[(d1 / 7+k) % 3]? = some (jL d1 k):=by
 unfold jL
 generalize h:(d1 / 7+k) % 3=m
 have:m<3:=by exact Cb h
 clear h;revert this;revert m
 exact k_ (k_ (k_ ltZ rfl) rfl) rfl
theorem BF:∀ k:Nat,k<4->(seqIndex? (k:Int) ("abcd":Str).length).bind (("abcd":Str).cps[·]?)=some (97+k):=by decide
theorem g5 (k v:Nat):(aP k v).1.length<=2/\(aP k v).2.length<=3:=by
 constructor
 ·show (VD ⟨#[32]⟩ _).length<=2
  rw [dh];exact HX
 ·show (VD ⟨#[_]⟩ _).length<=3
  rw [dh];exact HU
theorem vJ (d0:Nat):(aJ d0).length<=1:=by unfold aJ;split <;> decide
theorem fz (room:Nat) (ts:List Str):(bS room ts).length=ts.length+2:=by
 have:∀ (ts:List Str) (z:List Nat),(ts.foldl (λz t=>z++[z.getLastD 0+t.length]) z).length=ts.length+z.length:=by
  intro ts
  induction ts with
  | nil=>intro z;simp
  | cons t ts ih=>intro z;rw [Vk,ih];simp;exact Eq.symm (Vm _ _ _)
 exact this ts [0,room]
theorem Jb (ok:mR G) {d0 d1 v0 v1 v2 v3:Nat}
  (hK:∀ words,words=[aP 0 v0,aP 1 v1,aP 2 v2,aP 3 v3]->XS G (rF pm code A s0 L n) [("ends",.lst ((g7 d1).map .str)),("texts",.lst ((bz (aJ d0) words).map .str)),("words",.lst (words.map gk)),("room",aj (aL d1)),("inner",.str (aJ d0)),("splits",.str (di d0)),("width",aj (aH d0))] W [] (sI 9) K) :
  XS G (rF pm code A s0 L n) [("drawn",.lst ([d0,d1,v0,v1,v2,v3].map aj))] W [] (sI 2) K:=by
 have hlim:lim=1048576:=by decide
 refine XS.asg (p:=aj (aH d0)) (EV.d9 (EV.aE (i:=(4:Nat))) (EV.vE (EV.nL (i:=0) (EV.name rfl) EV.aE rfl) (EV.aE (i:=(16:Nat))) (by decide))) (AV.nm (by kernel_rfl)) ?_
 refine XS.asg (p:=.str (di d0)) (EV.nL (f:=PV.str) (EV.list (aV.cons EV.bP (aV.cons EV.bP (aV.cons EV.bP (aV.cons EV.bP .nil)))) (by show 4<=lim;exact B9 hlim)) (EV.vE (EV.Ex (EV.nL (i:=0) (EV.name rfl) EV.aE rfl) (EV.aE (i:=(16:Nat))) (by decide) (by decide)) (EV.aE (i:=(4:Nat))) (by decide)) (yv d0)) (AV.nm (by kernel_rfl)) ?_
 refine XS.asg (p:=.str (aJ d0)) (EV.qA (c:=decide (di d0=",; ") && (decide (6<aH d0) && true)) (TV.and (TV.cmp (EV.name rfl) EV.bP qj) λz! => TV.and (TV.Rj (EV.name rfl) (EV.aE (i:=(6:Nat))) rfl) λz! => TV.pg) (λh=>EV.conv EV.bP ?_) (λh=>EV.conv EV.bP ?_)) (AV.nm (by kernel_rfl)) ?_
 ·rw [aJ,if_pos (by simpa using h)]
 ·rw [aJ,if_neg (by simpa using h)]
 refine XS.asg (p:=aj (aL d1)) (EV.d9 (EV.aE (i:=(1:Nat))) (EV.vE (EV.nL (i:=1) (EV.name rfl) EV.aE rfl) (EV.aE (i:=(7:Nat))) (by decide))) (AV.nm (by kernel_rfl)) ?_
 refine XS.eV (L:=[(0,v0),(1,v1),(2,v2),(3,v3)]) (enc:=λx:Nat×Nat=>.tup [aj x.1,aj x.2]) (λx=>[("v",aj x.2),("k",aj x.1)]) (λx=>gk (aP x.1 x.2)) (by kernel_rfl)
  (IV.enum (xs:=[v0,v1,v2,v3].map aj) (EV.blt rfl ok.enum.1 ok.enum.2) (EV.qK (f:=aj) (xs:=[d0,d1,v0,v1,v2,v3]) (j:=2) (EV.name rfl) EV.aE))
  (by intro a;exact ak) (λx z! cl cs s0 X W' aq=>AV.mj (.inl rfl) (.inl rfl))
  (λx hx cl cs s0 X W' aq=>EV.tup (ps:=[.str (aP x.1 x.2).1,.str (aP x.1 x.2).2]) (aV.cons (EV.Dv EV.bP (EV.d9 (EV.aE (i:=(1:Nat))) (EV.vE (EV.name rfl) (EV.aE (i:=(2:Nat))) (by decide))) (by decide) ?_ ?_ ?_)
   (aV.cons (EV.Dv (EV.yJ (i:=(x.1:Int)) EV.bP (EV.name rfl) (BF x.1 ?_) ?_ ?_) (EV.d9 (EV.aE (i:=(1:Nat))) (EV.vE (EV.Ex (EV.name rfl) (EV.aE (i:=(2:Nat))) (by decide) (by decide)) (EV.aE (i:=(3:Nat))) (by decide))) (by show 1<=16;decide) ?_ ?_ ?_) .nil)) (by show 2<=lim;exact tN hlim)) (by show 4<=lim;exact B9 hlim) (by kernel_rfl) ?_
 ·exact (Xc (n:=65536)).mpr (R9 (TZ (S1 (Nat.mod_lt _ (by decide))) 1) (Sz rfl))
 ·exact nv
 ·have:=(g5 x.1 x.2).1;exact R9 this (by exact tN hlim)
 ·exact (by decide:∀ y∈[0,1,2,3],y<4) x.1 (List.mem_map_of_mem (f:=Prod.fst) hx)
 ·exact nv
 ·exact Int.lt_of_lt_of_le (Ul.mpr ((by decide:∀ y∈[0,1,2,3],y<4) x.1 (List.mem_map_of_mem (f:=Prod.fst) hx))) (by decide)
 ·exact (Xc (n:=65536)).mpr (R9 (TZ (S1 (Nat.mod_lt _ (by decide))) 1) (Sz rfl))
 ·exact nv
 ·have:=(g5 x.1 x.2).2;exact R9 this (by exact B7 hlim)
 show XS G _ (("words",.lst ([aP 0 v0,aP 1 v1,aP 2 v2,aP 3 v3].map gk))::_) _ _ _ _
 have hwl:∀ p∈[aP 0 v0,aP 1 v1,aP 2 v2,aP 3 v3],p.1.length<=2/\p.2.length<=3:=by
  intro p hp
  simp at hp
  rcases hp with rfl | rfl | rfl | rfl <;> exact g5 _ _
 replace hK:=hK _ rfl
 have hwn:[aP 0 v0,aP 1 v1,aP 2 v2,aP 3 v3].length=4:=rfl
 generalize [aP 0 v0,aP 1 v1,aP 2 v2,aP 3 v3]=words at *
 have hil:=vJ d0
 refine XS.asg (p:=.lst ((bz (aJ d0) words).map .str)) ((EV.ri (EV.list (aV.cons EV.bP .nil) (by show 1<=lim;exact iw hlim)) (EV.fM (L:=words) (enc:=gk) (λp=>[("word",.str p.2),("blanks",.str p.1),("inner",.str (aJ d0))]) (λp=>.str (bf (aJ d0) p)) (by kernel_rfl)
  (IV.list (EV.name rfl)) (by intro a;exact af rfl ak) (λx z! cl cs s0 X W' aq=>AV.mj (.inl rfl) (.inl rfl))
  (λx hx cl cs s0 X W' aq=>EV.mO (EV.mO (EV.mO (EV.name rfl) (EV.name rfl) ?_) (EV.name rfl) ?_) EV.bP ?_) (by exact Hr hlim hwn)) ?_).conv ?_) (AV.nm (by kernel_rfl)) ?_
 ·have:=hwl x hx;rw [SG];exact Hi hlim this
 ·have:=hwl x hx;rw [SG,SG];exact G_ hlim hil this
 ·have:=hwl x hx;rw [SG,SG,SG];show _+1<=lim;exact G6 hlim hil this
 ·rw [Sa,hwn];show 1+4<=lim;exact G5 hlim
 ·rw [bz,SV,S3];rfl
 refine XS.eV (L:=Sk 5) (enc:=aj) (λk=>[("k",aj k),("drawn",.lst ([d0,d1,v0,v1,v2,v3].map aj))]) (λk=>.str (jL d1 k)) (by kernel_rfl)
  (IV.dN (m:=5) (EV.blt rfl ok.range.1 ok.range.2) EV.aE (by decide)) (by intro a;exact af rfl ak) (λx z! cl cs s0 X W' aq=>AV.name (.inl rfl))
  (λx hx cl cs s0 X W' aq=>EV.nL (f:=PV.str) (EV.list (aV.cons EV.bP (aV.cons EV.bP (aV.cons EV.bP .nil))) (by show 3<=lim;exact B7 hlim)) (EV.vE (EV.d9 (EV.Ex (EV.nL (i:=1) (EV.name rfl) EV.aE rfl) (EV.aE (i:=(7:Nat))) (by decide) (by decide)) (EV.name rfl)) (EV.aE (i:=(3:Nat))) (by decide)) (yw d1 x))
  (by show 5<=lim;exact jB hlim) (by kernel_rfl) ?_
 have e:(Sk 5).map (λk=>PV.str (jL d1 k))=(g7 d1).map .str:=by rw [g7,S3];rfl
 rw [e]
 exact XS.weaken hK (af rfl (af rfl (af rfl (af rfl (af rfl (af rfl (af rfl ak)))))))
noncomputable abbrev jK (ends texts:List Str) (words:List (Str×Str)) (room:Nat) (ai aC:Str) (width:Nat):List (Str×PV) :=
 [("ends",.lst (ends.map .str)),("texts",.lst (texts.map .str)),("words",.lst (words.map gk)),("room",aj room),("inner",.str ai),("splits",.str aC),("width",aj width)]
noncomputable abbrev aO (e:List Nat):PV:=.lst (e.map aj)
theorem Ja (ok:mR G) {ends:List Str} {ai:Str} (ht:texts.length=5)
  (hK:XS G (rF pm code A s0 L n) (("near",.lst (((Sk 5).map (vI width (bS room (texts.drop 1)))).map aO))::("sums",.lst ((bS room (texts.drop 1)).map aj))::jK ends texts words room ai aC width) W [] (sI 12) K) :
  XS G (rF pm code A s0 L n) (jK ends texts words room ai aC width) W [] (sI 9) K:=by
 have hlim:lim=1048576:=by decide
 have hsl:(bS room (texts.drop 1)).length=6:=by rw [fz,TN];exact HT ht
 refine XS.own (ps:=[aj 0,aj room]) (aV.cons (EV.aE (i:=(0:Nat))) (aV.cons (EV.name rfl) .nil)) (AV.IS (by kernel_rfl)) (λa ha=>?_) (by show 2<=lim;exact tN hlim)
 refine XS.loop (τ:=List Nat) (xs:=(texts.drop 1).map .str) (λi z=>z=bS room ((texts.drop 1).take i)) (λz! => False) (λz=>("sums",.raw (.ref a))::jK ends texts words room ai aC width) (λz=>[Res.lst a (z.map aj)])
  (λp z=>("one",p)::("sums",.raw (.ref a))::jK ends texts words room ai aC width) [0,room] (IV.list (EV.qK (f:=PV.str) (j:=1) (EV.name rfl) EV.aE)) rfl (λx p h=>h) rfl (λz! => rfl)
  (λkk p z s₁ hp hz=>AV.nm (by kernel_rfl)) (λkk p z s₁ hp hz=>?_) (λz hz=>?_)
 ·rw [SP] at hp
  refine ob1_2 (S6.mp hp) λt hq az=>?_;obtain rfl:=az
  refine ob1_1 (TG.mp hq) λhk z! => ?_
  have QJ:kk<4:=by rw [TN] at hk;exact Sd hk (W_ (So ht))
  have hn:bS room ((texts.drop 1).take (kk+1))=z++[z.getLastD 0+t.length]:=by
   rw [hz,Tz,hq,Ub]
   unfold bS
   rw [U9];rfl
  have sP:z.length=kk+2:=by rw [hz,fz,Wc];exact HN hk
  have JB:z[z.length - 1]? = some (z.getLastD 0):=by
   rw [<- List.getLast?_eq_getElem?,List.getLastD_eq_getLast?]
   cases h:z.getLast? with
   | none=>rw [List.getLast?_eq_none_iff] at h;subst h;simp at sP
   | some y=>rfl
  rw [hn]
  refine XS.append (p:=aj (z.getLastD 0+t.length)) rfl ?_ (by rw [Sa];exact HK hlim QJ sP) (XS.nil λs₂ S₂=>⟨_,rfl,?_⟩)
  ·refine EV.frozen (W':=W) (x:="sums") rfl (λb hb=>Sb _ hb) ha (λb hb=>Sh.mp hb) (EV.d9 (EV.yK (EV.name rfl) (EV.neg EV.aE) (ue (k:=0) ?_ ?_)) (EV.I4 (EV.blt rfl ok.len.1 ok.len.2) (EV.name rfl))) rfl
   ·rw [Sa];exact HG sP
   ·rw [Sa,SP,Nat.sub_zero,JB];rfl
  ·rw [S4]
   exact S₂.weaken (AW rfl)
 ·have hz:z=bS room (texts.drop 1):=by
   rcases hz with h | h
   ·rw [h,Sa,Xa]
   ·exact h.elim
  subst hz
  refine XS.freeze (W':=W) (x:="sums") rfl (λb hb=>Sb _ hb) ha (λb hb=>Sh.mp hb) ?_
  refine XS.weaken (ρ':=("sums",.lst ((bS room (texts.drop 1)).map aj))::jK ends texts words room ai aC width) ?_ (af rfl (af rfl (af rfl (af rfl (af rfl (af rfl (af rfl (af rfl ak))))))))
  generalize bS room (texts.drop 1)=sums at *
  have hg:∀ i,i<6->sums[i]? = some (sums.getD i 0):=λi hi=>by
   rw [SD]
   have:sums[i]? = some sums[i]:=Sv (by exact Sd hi (So (Eq.symm hsl)))
   rw [this];rfl
  refine XS.asg ((EV.fM (L:=Sk 5) (enc:=aj) (λk=>[("k",aj k),("sums",.lst (sums.map aj)),("width",aj width)]) (λk=>aO (vI width sums k)) (by kernel_rfl)
   (IV.dN (m:=5) (EV.blt rfl ok.range.1 ok.range.2) EV.aE (by decide)) (by intro a;exact af rfl (af rfl ak)) (λx z! cl cs s0 X W' aq=>AV.nm (by kernel_rfl))
   (λk hk cl cs s0 X W' aq=>EV.qT (L:=Sk k) (enc:=aj) (λi=>[("i",aj i),("k",aj k),("sums",.lst (sums.map aj)),("width",aj width)]) (λi=>decide (sums.getD (k+1) 0<=width+sums.getD i 0)) aj (by kernel_rfl)
    (IV.dN (m:=k) (EV.blt rfl ok.range.1 ok.range.2) (EV.name rfl) ?_) (by intro a;exact af rfl (af rfl (af rfl ak))) (λx z! cl cs s0 X W' aq=>AV.nm (by kernel_rfl))
    (λi hi cl cs s0 X W' aq=>(TV.cmp (EV.sub (EV.nL (f:=aj) (EV.name rfl) (EV.d9 (EV.name rfl) (EV.aE (i:=(1:Nat)))) (hg (k+1) ?_)) (EV.nL (f:=aj) (EV.name rfl) (EV.name rfl) (hg i ?_))) (EV.name rfl) IM).conv ?_) (λi hi z! cl cs s0 X W' aq=>EV.name rfl) ?_) (by show 5<=lim;exact jB hlim)).conv (q:=.lst (((Sk 5).map (vI width sums)).map aO)) ?_) (AV.nm (by kernel_rfl)) ?_
  ·have:=Ss.mp hk;exact S1 (Sd this (Sf _ _))
  ·have:=Ss.mp hk;exact Uo this _
  ·have:=Ss.mp hk;have:=Ss.mp hi;exact Td (Sd this (S1 (by assumption)))
  ·exact decide_eq_decide.mpr ⟨λh=>(Xc (n:=_+_)).mp (Int.le_add_of_sub_right_le h),λh=>Int.sub_right_le_of_le_add (Xc.mpr h)⟩
  ·have:=Ss.mp hk;rw [To];exact HA hlim this
  ·rw [S3];rfl
  ·exact hK
noncomputable abbrev aW (xs:List Str):PV:=.lst (xs.map .str)
noncomputable def cK (f:Nat) (b:Int) (rows:List Str):List Str:=rows.zipIdx.map λx=>if f<x.2/\(x.2:Int)<b then x.1 else "-"++x.1
noncomputable def dP (l:Str):Str:=if dO l none (some 1)="-" then dO l (some 1) none else l
noncomputable def t_:List Str:=[110,97,98,99,100].map λc=>"."++⟨#[c]⟩
noncomputable def g6 (e:Str) (f:Nat) (b:Int) (rows:List Str):Str:=Sx ("\n"++e) (cK f b rows).reverse
noncomputable def iK (f:Nat) (folded:List Str):Int:=((max 1 f:Nat):Int)+Vb (folded.getD 0 "") ";"
structure TurnOk (G:Glob) (ends:List Str) (words:List (Str×Str)) (room:Nat) (ai aC:Str) (width:Nat) (folded:Nat->List Str) (rows:Nat->List Str) (f:Nat):Prop where
 fold:∀ m,FC G BG (m+10) [aj (if f=0 then room else 0),aj width,.str aC,.str ai,.lst ((words.drop (f - 1)).map gk),.str (ends.getD f "")] (aW (folded f))
 head:(folded f)[0]? = some ((folded f).getD 0 "")
 r5:(rows f).length=5
 small:∀ r∈rows f,r.length<=100
 e2:(ends.getD f "").length<=2
 MQ:∃ S:List Str,VO (quoted (g6 (ends.getD f "") f (iK f (folded f)) (rows f))) "\r\n\r\n"=S/\S.length=5/\(∀ l∈S,l.length<=101)/\rows (f+1)=S.reverse.map dP
theorem sd (x:Str):(quoted x).length<=4 * x.length:=by
 have h1:=i6 _ x.cps.toList (Si _)
 have h2:=lN (crlf x.cps.toList) true
 have h3:(quoted x).length=(dots true (crlf x.cps.toList)).length:=by
  show (dots true (crlf x.cps.toList)).toArray.size=_
  rw [TJ]
 have h4:x.cps.toList.length=x.length:=TY
 exact HS h1 h2 h3 h4
theorem join_le {sep:Str} {c:Nat}:∀ {xs:List Str},(∀ x∈xs,x.length<=c)->(Sx sep xs).length<=xs.length * (c+sep.length)
 | [],_=>by show 0<=_;exact SX _
 | [x],h=>by
  have:=h x (R_ ..)
  show x.length<=_
  rw [List.length_singleton];exact HQ this
 | x::y::r,h=>by
  have h1:=h x (R_ ..)
  have h2:=join_le (sep:=sep) (xs:=y::r) λz hz=>h z (Sb _ hz)
  show (x++sep++Sx sep (y::r)).length<=_
  rw [SG,SG,S_ (as:=y::r),Nat.add_mul,Nat.one_mul]
  exact HM h1 h2
theorem qt {f:Nat} {b:Int} {rows:List Str} (h5:rows.length=5):(cK f b rows).length=5:=by
 unfold cK;rw [Sa,Xw,h5]
theorem sF {f:Nat} {b:Int} {rows:List Str} (h:∀ r∈rows,r.length<=100):∀ r∈cK f b rows,r.length<=101:=by
 intro r hr
 unfold cK at hr
 refine ob1_2 (SN.mp hr) λbM hx az=>?_;obtain ⟨x,i⟩:=bM;obtain rfl:=az
 have hm:x∈rows:=by
  have:=List.mem_zipIdx hx
  exact this.2.2▸UH _
 have:=h x hm
 dsimp only
 split
 ·exact SE this
 ·rw [SG];show 1+_<=_;exact HJ this
theorem I_ (ok:mR G) (ye:wC G) (KL:Ld G) {ends:List Str} {ai:Str} {folded rows:Nat->List Str}
  (h5:ends.length=5) (h0:rows 0=t_) (ht:∀ f,f<5->TurnOk G ends words room ai aC width folded rows f)
  (hK:XS G (rF pm code A s0 L (n+10)) [("written",.lst (((Sk 5).map folded).map aW)),("rows",aW (rows 5)),("near",.lst (near.map aO)),("sums",.lst (sums.map aj)),("texts",.lst (texts.map .str)),("width",aj width)] W [] (sI 14) K) :
  XS G (rF pm code A s0 L (n+10)) (("near",.lst (near.map aO))::("sums",.lst (sums.map aj))::jK ends texts words room ai aC width) W [] (sI 12) K:=by
 have hlim:lim=1048576:=by decide
 refine ob2_1 ye.fn λPT Kl NX=>?_
 refine ob2_1 KL.fn λRS Pk Rv=>?_
 refine XS.MX (ps:=[]) (q:=aW (rows 0)) .nil (λa=>?_) (AV.IS (by kernel_rfl)) (AV.IS (by kernel_rfl)) (λa ha=>?_)
 ·rw [h0]
  refine (EV.fM (L:=[110,97,98,99,100]) (enc:=λc:Nat=>.str ⟨#[c]⟩) (λc=>[("sign",.str ⟨#[c]⟩)]) (λc=>.str ("."++⟨#[c]⟩)) (by kernel_rfl) (IV.str (x:="nabcd") EV.bP (by decide +kernel)) (by intro a;exact ak) (λx z! cl cs s0 X W' aq=>AV.nm (by kernel_rfl))
   (λc hc cl cs s0 X W' aq=>EV.mO EV.bP (EV.name rfl) ?_) (by show 5<=lim;exact jB hlim)).conv rfl
  rw [SG];show 1+1<=lim;exact Hy hlim
 refine XS.loop (τ:=Nat) (xs:=(Sk 5).map aj) (λi z=>z=i) (λz! => False) (λz=>("written",.raw (.ref a))::("rows",aW (rows z))::("near",.lst (near.map aO))::("sums",.lst (sums.map aj))::jK ends texts words room ai aC width) (λz=>[Res.lst a (((Sk z).map folded).map aW)])
  (λp z=>("first",p)::("written",.raw (.ref a))::("rows",aW (rows z))::("near",.lst (near.map aO))::("sums",.lst (sums.map aj))::jK ends texts words room ai aC width) 0 (IV.dN (m:=5) (EV.blt rfl ok.range.1 ok.range.2) EV.aE (by decide)) rfl (λx p h=>h) rfl (λz! => rfl)
  (λkk p z s₁ hp hz=>AV.nm (by kernel_rfl)) (λkk p z s₁ hp hz=>?_) (λz hz=>?_)
 ·subst hz
  refine ob0_2 (kY hp) λNa ep=>?_
  subst ep
  have T:=ht z Na
  have hend:ends[z]? = some (ends.getD z ""):=by
   rw [SD]
   have:ends[z]? = some ends[z]:=Sv (by exact Sd Na (So (Eq.symm h5)))
   rw [this];rfl
  refine ob1_4 T.MQ λS hS NH Q9 hSr=>?_
  refine XS.asg (p:=aW (folded z)) (EV.qW (EV.glob rfl ok.rows) NX (T.fold n) (by show n+10<=n+10;exact Si _) (aV.cons (EV.qA (c:=decide (z=0)) (TV.Pe (EV.name rfl) (EV.aE (i:=(0:Nat))) rfl) (λh=>(EV.name rfl).conv ?_) (λh=>(EV.aE (i:=(0:Nat))).conv ?_))
   (aV.cons (EV.name rfl) (aV.cons (EV.name rfl) (aV.cons (EV.name rfl) (aV.cons (EV.qK (f:=gk) (EV.name rfl) ((EV.gT (EV.blt rfl ok.max.1 ok.max.2) (.cons (EV.aE (i:=(0:Nat))) (.cons (EV.sub (EV.name rfl) (EV.aE (i:=(1:Nat)))) .nil)) sS).conv ?_)) (aV.cons (EV.nL (f:=PV.str) (EV.name rfl) (EV.name rfl) hend) .nil))))))) (AV.nm (by kernel_rfl)) ?_
  ·rw [if_pos (of_decide_eq_true h)]
  ·rw [if_neg (of_decide_eq_false h)]
  ·exact congrArg PV.int (uf z 1)
  refine XS.append (p:=aW (folded z)) rfl (EV.name rfl) (by rw [Sa,Sa,To];exact Hq hlim Na) ?_
  refine XS.asg (p:=.int (iK z (folded z))) (EV.add (EV.IZ (EV.blt rfl ok.max.1 ok.max.2) (EV.aE (i:=(1:Nat))) (EV.name rfl)) (EV.count (EV.nL (f:=PV.str) (i:=0) (EV.name rfl) EV.aE T.head) EV.bP)) (AV.nm (by kernel_rfl)) ?_
  have hml:=qt (f:=z) (b:=iK z (folded z)) T.r5
  have hms:=sF (f:=z) (b:=iK z (folded z)) T.small
  have hjl:(g6 (ends.getD z "") z (iK z (folded z)) (rows z)).length<=520:=by
   have:=join_le (sep:="\n"++ends.getD z "") (xs:=(cK z (iK z (folded z)) (rows z)).reverse) (c:=101) λx hx=>hms x (Wa.mp hx)
   have h2:=T.e2
   have h3:("\n"++ends.getD z "").length<=3:=by rw [SG];show 1+_<=3;exact B4 h2
   rw [Wz,hml] at this
   unfold g6
   exact G9 this h3
  generalize hb:iK z (folded z)=b at *
  refine XS.eV (L:=(rows z).zipIdx) (enc:=λx=>.tup [aj x.2,.str x.1]) (λx=>[("row",.str x.1),("k",aj x.2),("behind",.int b),("first",aj z)]) (λx=>.str (if z<x.2/\(x.2:Int)<b then x.1 else "-"++x.1)) (by kernel_rfl)
   (IV.J9 (f:=PV.str) (EV.blt rfl ok.enum.1 ok.enum.2) (EV.name rfl)) (by intro a;exact af rfl (af rfl ak)) (λx z! cl cs s0 X W' aq=>AV.mj (.inl rfl) (.inl rfl))
   (λx hx cl cs s0 X W' aq=>EV.qA (rP (EV.name rfl) (EV.name rfl) (λz! => EV.name rfl) jG (λz! => jG)) (λh=>(EV.name rfl).conv ?_) (λh=>EV.conv (EV.mO EV.bP (EV.name rfl) ?_) ?_)) (by rw [Xw,T.r5];exact jB hlim) (by kernel_rfl) ?_
  ·rw [if_pos]
   refine ob0_2 (Tp.mp h) λg1 g2=>?_
   exact ⟨Ul.mp (of_decide_eq_true g1),of_decide_eq_true g2⟩
  ·have hm:x.1∈rows z:=by
    obtain ⟨x1,x2⟩:=x
    have:=List.mem_zipIdx hx
    exact this.2.2▸UH _
   have:=T.small _ hm
   rw [SG];show 1+_<=lim;exact G2 hlim this
  ·rw [if_neg]
   rintro ⟨g1,g2⟩
   rw [decide_eq_true (show (z:Int)<x.2 from Ul.mpr g1),decide_eq_true g2] at h
   cases h
  have e:(rows z).zipIdx.map (λx=>PV.str (if z<x.2/\(x.2:Int)<b then x.1 else "-"++x.1))=(cK z b (rows z)).map .str:=by unfold cK;rw [S3];rfl
  rw [e]
  have hsm:∀ l∈S,l.length<=lim:=λl hl=>R9 (Q9 l hl) (by exact GZ hlim)
  refine XS.asg (p:=aW S) (EV.C8 (EV.qW (EV.glob rfl ok.quote) Rv (xT (n:=0) KL (x:=g6 (ends.getD z "") z b (rows z)) (by exact R9 hjl (Sf _ _))) (by show 1<=n+10;exact Sf _ _) (aV.cons (EV.join (EV.mO EV.bP (EV.nL (f:=PV.str) (EV.name rfl) (EV.name rfl) hend) ?_) (EV.Cp (EV.name rfl) (EV.neg EV.aE) hml) ?_) .nil)) EV.bP (by decide) hS hsm (by exact BW hlim NH) ?_) (AV.nm (by kernel_rfl)) ?_
  ·have h2:=T.e2;rw [SG];show 1+_<=lim;exact GR hlim h2
  ·have h2:=T.e2
   have h3:("\n"++ends.getD z "").length<=3:=by rw [SG];show 1+_<=3;exact B4 h2
   have h4:=nW (f:=λx:Str=>x.length) (l:=(cK z b (rows z)).reverse) (c:=101) λx hx=>hms x (Wa.mp hx)
   rw [Wz,hml] at h4 ⊢
   exact GI hlim h3 h4
  ·have:=sd (g6 (ends.getD z "") z b (rows z));exact GF hjl this
  refine XS.eV (L:=S.reverse) (enc:=PV.str) (λl=>[("line",.str l)]) (λl=>.str (dP l)) (by kernel_rfl) (IV.list (EV.Cp (EV.name rfl) (EV.neg EV.aE) NH)) (by intro a;exact ak) (λx z! cl cs s0 X W' aq=>AV.nm (by kernel_rfl))
   (λl hl cl cs s0 X W' aq=>EV.qA (TV.cmp (EV.IB (i:=1) (EV.name rfl) EV.aE) EV.bP qj) (λh=>(EV.J4 (i:=1) (EV.name rfl) EV.aE).conv ?_) (λh=>(EV.name rfl).conv ?_)) (by rw [Wz];exact BW hlim NH) (by kernel_rfl) ?_
  ·rw [dP,if_pos (of_decide_eq_true h)]
  ·rw [dP,if_neg (of_decide_eq_false h)]
  have e:S.reverse.map (λl=>PV.str (dP l))=(rows (z+1)).map .str:=by rw [hSr,S3];rfl
  rw [e]
  refine XS.nil λs₂ S₂=>⟨_,rfl,?_⟩
  have e:((Sk (z+1)).map folded).map aW=((Sk z).map folded).map aW++[aW (folded z)]:=by rw [List.range_succ,S4,S4];rfl
  rw [e]
  exact S₂.weaken (af rfl (af rfl (af rfl (af rfl (af rfl (af rfl (af rfl (af rfl (af rfl (af rfl (af rfl ak)))))))))))
 ·have hz:z=5:=by
   rcases hz with h | h
   ·rw [h,Sa,To]
   ·exact h.elim
  subst hz
  refine XS.freeze (W':=W) (x:="written") rfl (λb hb=>Sb _ hb) ha (λb hb=>Sh.mp hb) ?_
  exact XS.weaken hK (af rfl (af rfl (af rfl (af rfl (af rfl (af rfl ak))))))
noncomputable def iP (g:List Nat) (c:Nat):List Nat:=(Sk (g.length+c - 1)).map λk=>((g.take (k+1)).drop (k+1 - c)).sum
noncomputable def bN (cs:List Nat) (i:Nat):List Nat:=(cs.take i).foldl iP [1]
noncomputable def bT (near:List (List Nat)):List Str:=(aQ near 5).map (·.2)
noncomputable def iJ (near:List (List Nat)):List Int:=(b9 (bT near)).map λc=>Vb c "1"
theorem eU (near:List (List Nat)):(bT near).length=120:=by
 unfold bT
 rw [Sa,aQ,cG,aQ,cG,aQ,cG,aQ,cG,aQ,cG,aQ]
 rfl
theorem I9 (ok:mR G) (KN:BL G) {R:List Str}
  (Ac:near.length=5) (hne:∀ e∈near,e.length<=5) (hR:R.length=5) (hcs:R.map (λr=>Vb r ".")=cs.map λc:Nat=>(c:Int)) (hc:∀ c∈cs,1<=c/\c<=5)
  (hg:∀ i,i<=5->(∀ x∈bN cs i,x<=1000000)/\1<=(bN cs i).length/\(bN cs i).length<=11)
  (hchk:((Sk 11).map λ(k:Nat)=>(iJ near).count (k:Int))=bN cs 5++TH (11 - (bN cs 5).length) 0)
  (hK:XS G (rF pm code A s0 L (n+10)) [("orders",.lst ((aQ near 5).map fR)),("counts",.lst (cs.map aj)),("written",.lst (written.map aW)),("rows",aW R),("near",.lst (near.map aO)),("sums",.lst (sums.map aj)),("texts",.lst (texts.map .str)),("width",aj width)] W [] (sI 20) K) :
  XS G (rF pm code A s0 L (n+10)) [("written",.lst (written.map aW)),("rows",aW R),("near",.lst (near.map aO)),("sums",.lst (sums.map aj)),("texts",.lst (texts.map .str)),("width",aj width)] W [] (sI 14) K:=by
 have hlim:lim=1048576:=by decide
 refine ob2_1 KN.fn λRT Pn Rw=>?_
 have hcl:cs.length=5:=by have:=congrArg V7 hcs;rw [Sa,Sa] at this;exact HP hR this
 refine XS.eV (L:=R) (enc:=PV.str) (λr=>[("row",.str r)]) (λr=>.int (Vb r ".")) (by kernel_rfl) (IV.list (EV.name rfl)) (by intro a;exact ak) (λx z! cl cs s0 X W' aq=>AV.nm (by kernel_rfl))
  (λr hr cl cs s0 X W' aq=>EV.count (EV.name rfl) EV.bP) (by exact Ca hR hlim) (by kernel_rfl) ?_
 have e:R.map (λr=>PV.int (Vb r "."))=cs.map aj:=by
  have:=congrArg (List.map PV.int) hcs
  rw [S3,S3] at this
  exact this
 rw [e]
 refine XS.asg (p:=.lst ((aQ near 5).map fR)) ((EV.qW (EV.glob rfl ok.orders) Rw (vB (n:=0) KN (near:=near) (by exact So Ac) hne) (by show 1<=n+10;exact Sf _ _) (aV.cons (EV.name rfl) .nil)).conv (by rw [Ac])) (AV.nm (by kernel_rfl)) ?_
 have mC:(aQ near 5).length=120:=by have:=eU near;unfold bT at this;rwa [Sa] at this
 refine XS.N6 (Lg.comp (P:=λys:List Str=>ys.Perm (b9 (bT near))) (enc:=PV.str) (λc=>[("code",.str c)]) (λc=>.int (Vb c "1")) (by kernel_rfl)
  (Le.vh (xs:=bT near) (EV.blt rfl ok.sorted.1 ok.sorted.2) (EV.blt rfl ok.set.1 ok.set.2)
   ((EV.fM (L:=aQ near 5) (enc:=fR) (λo=>[("code",.str o.2),("one",.lst (o.1.map aj))]) (λo=>.str o.2) (by kernel_rfl) (IV.list (EV.name rfl)) (by intro a;exact ak) (λx z! cl cs s0 X W' aq=>AV.mj (.inl rfl) (.inl rfl)) (λo ho cl cs s0 X W' aq=>EV.name rfl) (by exact B_ hlim mC)).conv ?_) ?_ ?_)
  (by intro a;exact ak) (λz! z! x z! cl cs s0 X W' aq=>AV.nm (by kernel_rfl)) (λz! z! c hc cl cs s0 X W' aq=>EV.count (EV.name rfl) EV.bP) ?_) (λys hys=>AV.nm (by kernel_rfl)) λys hys=>?_
 ·unfold bT;rw [S3];rfl
 ·have:=jt (bT near);rw [eU] at this;exact Sp (R9 this (Sf _ _))
 ·rw [eU];decide
 ·intro ys hys
  have:=hys.length_eq;have:=jt (bT near);rw [eU] at this;exact HD hlim (by assumption) this
 have hT:∀ k:Nat,(ys.map λc=>Vb c "1").count (k:Int)=(iJ near).count (k:Int):=λk=>(hys.map _).count_eq _
 have e:ys.map (λc=>PV.int (Vb c "1"))=(ys.map λc=>Vb c "1").map .int:=by rw [S3];rfl
 rw [e]
 generalize (ys.map λc=>Vb c "1")=turned at *
 refine XS.asg (p:=.lst ((bN cs 0).map aj)) (EV.list (aV.cons (EV.aE (i:=(1:Nat))) .nil) (by show 1<=lim;exact iw hlim)) (AV.nm (by kernel_rfl)) ?_
 refine XS.loop (τ:=List Nat) (xs:=cs.map aj) (λi z=>z=bN cs i) (λz! => False) (λz=>[("growth",.lst (z.map aj)),("turned",.lst (turned.map .int)),("orders",.lst ((aQ near 5).map fR)),("counts",.lst (cs.map aj)),("written",.lst (written.map aW)),("rows",aW R),("near",.lst (near.map aO)),("sums",.lst (sums.map aj)),("texts",.lst (texts.map .str)),("width",aj width)]) (λz! => [])
  (λp z=>[("count",p),("growth",.lst (z.map aj)),("turned",.lst (turned.map .int)),("orders",.lst ((aQ near 5).map fR)),("counts",.lst (cs.map aj)),("written",.lst (written.map aW)),("rows",aW R),("near",.lst (near.map aO)),("sums",.lst (sums.map aj)),("texts",.lst (texts.map .str)),("width",aj width)]) (bN cs 0)
  (IV.list (EV.name rfl)) rfl (λx p h=>h) rfl (λz! => rfl) (λkk p z s₁ hp hz=>AV.nm (by kernel_rfl)) (λkk p z s₁ hp hz=>?_) (λz hz=>?_)
 ·rw [SP] at hp
  refine ob1_2 (S6.mp hp) λc hq az=>?_;obtain rfl:=az
  refine ob1_1 (TG.mp hq) λhk z! => ?_
  refine ob0_2 (hc c (UW hq)) λhc1 hc5=>?_
  have hstep:bN cs (kk+1)=iP z c:=by
   rw [hz];unfold bN
   rw [Tz,hq,Ub,U9];rfl
  refine ob0_3 (hg kk (by exact S1 (Sd hk (So hcl)))) λg1 g2 g3=>?_
  rw [<- hz] at g1 g2 g3
  rw [hstep]
  refine XS.asg ((EV.fM (L:=Sk (z.length+c - 1)) (enc:=aj) (λk=>[("k",aj k),("count",aj c),("growth",.lst (z.map aj))]) (λk=>aj ((z.take (k+1)).drop (k+1 - c)).sum) (by kernel_rfl)
   (IV.dN (EV.blt rfl ok.range.1 ok.range.2) (EV.rR (EV.d9 ((EV.sM (EV.blt rfl ok.len.1 ok.len.2) (EV.name rfl)).conv (by rw [Sa])) (EV.name rfl)) (EV.aE (i:=(1:Nat))) (by exact Nat.le_add_left_of_le hc1)) (by exact Hz hc1 hc5 g3))
   (by intro a;exact af rfl (af rfl ak)) (λx z! cl cs s0 X W' aq=>AV.nm (by kernel_rfl))
   (λk hk cl cs s0 X W' aq=>EV.IF (EV.blt rfl ok.sum.1 ok.sum.2) (EV.Cj (f:=aj) (EV.name rfl) ((EV.gT (EV.blt rfl ok.max.1 ok.max.2) (.cons (EV.aE (i:=(0:Nat))) (.cons (EV.sub (EV.d9 (EV.name rfl) (EV.aE (i:=(1:Nat)))) (EV.name rfl)) .nil)) sS).conv ?_) (EV.d9 (EV.name rfl) (EV.aE (i:=(1:Nat))))) ?_) ?_).conv (q:=.lst ((iP z c).map aj)) ?_) (AV.nm (by kernel_rfl)) (XS.nil λs₂ S₂=>⟨_,rfl,?_⟩)
  ·exact congrArg PV.int (uf _ _)
  ·exact λi hi=>g1 i (Vp (Vo hi))
  ·rw [To];exact Hx hlim hc1 hc5 g3
  ·unfold iP;rw [S3];rfl
  ·exact S₂.weaken (af rfl (af rfl (af rfl (af rfl (af rfl (af rfl (af rfl (af rfl (af rfl (af rfl ak))))))))))
 ·have hz:z=bN cs 5:=by
   rcases hz with h | h
   ·rw [h,Sa,hcl]
   ·exact h.elim
  refine ob0_3 (hg 5 (by exact Si _)) λg1 g2 g3=>?_
  rw [<- hz] at g1 g2 g3 hchk
  have hrep:∀ m:Nat,(TH m [aj 0]).flatten=(TH m 0).map aj:=by
   intro m
   induction m with
   | zero=>rfl
   | succ m ih=>rw [Ut,Vv,ih,Ut,SV];rfl
  refine XS.no ((TV.cmp (p:=.lst (((Sk 11).map λ(k:Nat)=>turned.count (k:Int)).map aj)) (q:=.lst ((z++TH (11 - z.length) 0).map aj)) ((EV.fM (L:=Sk 11) (enc:=aj) (λk=>[("k",aj k),("turned",.lst (turned.map .int))]) (λk=>aj (turned.count (k:Int))) (by kernel_rfl) (IV.dN (m:=11) (EV.blt rfl ok.range.1 ok.range.2) EV.aE (by decide)) (by intro a;exact af rfl ak) (λx z! cl cs s0 X W' aq=>AV.nm (by kernel_rfl))
    (λk hk cl cs s0 X W' aq=>EV.EA (EV.name rfl) (EV.name rfl)) (by rw [To];exact Hs hlim)).conv ?_)
   ((EV.ri (EV.name rfl) (EV.mulL (xs:=[aj 0]) (n:=((11 - z.length:Nat):Int)) (EV.list (aV.cons (EV.aE (i:=(0:Nat))) .nil) (by show 1<=lim;exact iw hlim)) (EV.rR (EV.aE (i:=(11:Nat))) ((EV.sM (EV.blt rfl ok.len.1 ok.len.2) (EV.name rfl)).conv (by rw [Sa])) g3) ?_ ?_ ?_ (by show 1<=16;decide) (by simp)) ?_).conv ?_) (m_ (dm.nats (d:=0)).ok (dm.nats (d:=0)).ok)).conv ?_) (XS.weaken hK (af rfl (af rfl (af rfl (af rfl (af rfl (af rfl (af rfl (af rfl ak)))))))))
  ·rw [S3];rfl
  ·exact Xc.mpr (R9 (Uu _ _) (by decide:11<=65536))
  ·exact nv
  ·rw [hrep,Sa,List.length_replicate];exact R9 (Uu _ _) (by rw [hlim];decide)
  ·rw [hrep,Sa,Sa,List.length_replicate];exact R9 (Vy g3 (Uu _ _)) (by rw [hlim];decide)
  ·rw [hrep,S4];rfl
  ·rw [iW (λa b=>uD),Bool.not_eq_false',decide_eq_true_eq,<- hchk]
   exact Te λk z! => hT k
noncomputable def bE (near:List (List Nat)):Nat->List (List Nat)
 | 0=>[[]]
 | k+1=>bE near k++((bE near k).filter λone=>decide (one.filter (λi=>decide (i∈near.getD k []))=[])).map λone=>one++[k]
noncomputable def oB (near:List (List Nat)) (f:Nat):Int:=AS ((bE near 5).map λone=>((one.filter λk=>decide (f<=k)).length:Int))
theorem gG {near:List (List Nat)}:∀ k,(bE near k).length<=2 ^ k/\∀ one∈bE near k,one.length<=k
 | 0=>⟨Si 1,λone h=>by cases Sm.mp h;exact Si _⟩
 | k+1=>by
  refine ob0_2 (gG (near:=near) k) λh1 h2=>?_
  constructor
  ·rw [bE,Sy,Sa,Nat.pow_succ]
   have:=Wi (λone:List Nat=>decide (one.filter (λi=>decide (i∈near.getD k []))=[])) (bE near k)
   exact Vy (Nat.le_add_left_of_le h1) (R9 this h1)
  ·intro one h
   rw [bE] at h
   rcases Sq.mp h with h | h
   ·have:=h2 one h;exact SE this
   ·refine ob1_2 (SN.mp h) λo ho az=>?_;obtain rfl:=az
    have:=h2 o (WQ.mp ho).1
    rw [Sy];show o.length+1<=_;exact TF this
theorem q_ {near:List (List Nat)}:∀ k,bE near k≠[]
 | 0=>by simp [bE]
 | k+1=>by rw [bE];intro h;exact q_ k (List.append_eq_nil_iff.mp h).1
theorem oR {f:α->PV} {xs:List α}:(PV.lst (xs.map f)).eqv (.lst [])=decide (xs=[]):=by
 cases xs with
 | nil=>rfl
 | cons x xs=>rfl
noncomputable abbrev gO (near:List (List Nat)) (sums:List Nat) (texts R:List Str) (written:List (List Str)) (width:Nat) (cs:List Nat):List (Str×PV) :=
 [("orders",.lst ((aQ near 5).map fR)),("counts",.lst (cs.map aj)),("written",.lst (written.map aW)),("rows",aW R),("near",.lst (near.map aO)),("sums",.lst (sums.map aj)),("texts",.lst (texts.map .str)),("width",aj width)]
theorem I8 (ok:mR G) {R:List Str}
  (Ac:near.length=5) (hw:written.length=5) (hchk:written.map (λr=>(r.length:Int))=(Sk 5).map (oB near))
  (hK:XS G (rF pm code A s0 L n) (gO near sums texts R written width cs) W [] (sI 24) K) :
  XS G (rF pm code A s0 L n) (gO near sums texts R written width cs) W [] (sI 20) K:=by
 have hlim:lim=1048576:=by decide
 have pw:∀ k,k<=5->(bE near k).length<=32:=λk hk=>R9 (gG k).1 (Nat.pow_le_pow_right (by decide) hk)
 refine XS.asg (p:=.lst ((bE near 0).map aO)) (EV.list (aV.cons (EV.list .nil) .nil) (by show 1<=lim;exact iw hlim)) (AV.nm (by kernel_rfl)) ?_
 refine XS.loop (τ:=List (List Nat)) (xs:=(Sk 5).map aj) (λi z=>z=bE near i) (λz! => False) (λz=>("apart",.lst (z.map aO))::gO near sums texts R written width cs) (λz! => [])
  (λp z=>("k",p)::("apart",.lst (z.map aO))::gO near sums texts R written width cs) (bE near 0)
  (IV.dN (m:=5) (EV.blt rfl ok.range.1 ok.range.2) EV.aE (by decide)) rfl (λx p h=>h) rfl (λz! => rfl) (λkk p z s₁ hp hz=>AV.nm (by kernel_rfl)) (λk p z s₁ hp hz=>?_) (λz hz=>?_)
 ·refine ob0_2 (kY hp) λug ep=>?_
  subst ep
  have hg:near[k]? = some (near.getD k []):=by
   rw [SD]
   have:near[k]? = some near[k]:=Sv (by exact Sd ug (So (Eq.symm Ac)))
   rw [this];rfl
  have hstep:bE near (k+1)=z++(z.filter λone=>decide (one.filter (λi=>decide (i∈near.getD k []))=[])).map λone=>one++[k]:=by rw [hz,bE]
  have sP:z.length<=32:=by rw [hz];exact pw k (by exact S1 ug)
  have mC:∀ one∈z,one.length<=5:=by rw [hz];exact λo ho=>R9 ((gG k).2 o ho) (by exact S1 ug)
  rw [hstep]
  refine XS.asg ((EV.ri (EV.name rfl) (EV.qT (L:=z) (enc:=aO) (λone=>[("one",aO one),("k",aj k),("near",.lst (near.map aO))]) (λone=>decide (one.filter (λi=>decide (i∈near.getD k []))=[])) (λone=>aO (one++[k])) (by kernel_rfl) (IV.list (EV.name rfl)) (by intro a;exact af rfl (af rfl ak)) (λx z! cl cs s0 X W' aq=>AV.nm (by kernel_rfl))
   (λone ho cl cs s0 X W' aq=>(TV.cmp (p:=.lst ((one.filter λi=>decide (i∈near.getD k [])).map aj)) (EV.qT (L:=one) (enc:=aj) (λi=>[("i",aj i),("k",aj k),("near",.lst (near.map aO))]) (λi=>decide (i∈near.getD k [])) aj (by kernel_rfl) (IV.list (EV.name rfl)) (by intro a;exact af rfl (af rfl ak)) (λx z! cl cs s0 X W' aq=>AV.nm (by kernel_rfl))
     (λi hi cl cs s0 X W' aq=>(TV.cmp (EV.name rfl) (EV.nL (f:=aO) (EV.name rfl) (EV.name rfl) hg) (Cs (dm.int (d:=0)).ok (dm.nats (d:=0)).ok)).conv o_) (λi hi z! cl cs s0 X W' aq=>EV.name rfl) (by have:=mC one ho;exact tM hlim this)) (EV.list .nil) (x6 (dm.nats (d:=0)).ok (dm.lst (d:=0) (λx h=>absurd h S9)).ok)).conv oR)
   (λone ho z! cl cs s0 X W' aq=>(EV.ri (EV.name rfl) (EV.list (aV.cons (EV.name rfl) .nil) (by show 1<=lim;exact iw hlim)) ?_).conv ?_) (by exact B6 hlim sP)) ?_).conv (q:=.lst ((z++(z.filter λone=>decide (one.filter (λi=>decide (i∈near.getD k []))=[])).map λone=>one++[k]).map aO)) ?_) (AV.nm (by kernel_rfl)) (XS.nil λs₂ S₂=>⟨_,rfl,?_⟩)
  ·have:=mC one ho;rw [Sa];show _+1<=lim;exact Ht hlim this
  ·show PV.lst _=PV.lst _;rw [S4];rfl
  ·have:=Wi (λone:List Nat=>decide (one.filter (λi=>decide (i∈near.getD k []))=[])) z
   rw [Sa,Sa];exact Hp hlim sP this
  ·rw [S4,S3];rfl
  ·exact S₂.weaken (af rfl (af rfl (af rfl (af rfl (af rfl (af rfl (af rfl (af rfl (af rfl ak)))))))))
 ·have hz:z=bE near 5:=by
   rcases hz with h | h
   ·rw [h,Sa,To]
   ·exact h.elim
  have sP:z.length<=32:=by rw [hz];exact pw 5 (by exact Si _)
  have mC:∀ one∈z,one.length<=5:=by rw [hz];exact (gG 5).2
  have Qi:z≠[]:=by rw [hz];exact q_ 5
  refine XS.eV (L:=Sk 5) (enc:=aj) (λf=>[("first",aj f),("apart",.lst (z.map aO))]) (λf=>.int (AS (z.map λone=>((one.filter λk=>decide (f<=k)).length:Int)))) (by kernel_rfl) (IV.dN (m:=5) (EV.blt rfl ok.range.1 ok.range.2) EV.aE (by decide)) (by intro a;exact af rfl ak) (λx z! cl cs s0 X W' aq=>AV.nm (by kernel_rfl))
   (λf hf cl cs s0 X W' aq=>EV.gT (EV.blt rfl ok.max.1 ok.max.2) (.cons ((EV.fM (L:=z) (enc:=aO) (λone=>[("one",aO one),("first",aj f)]) (λone=>.int ((one.filter λk=>decide (f<=k)).length:Int)) (by kernel_rfl) (IV.list (EV.name rfl)) (by intro a;exact af rfl ak) (λx z! cl cs s0 X W' aq=>AV.nm (by kernel_rfl))
    (λone ho cl cs s0 X W' aq=>(EV.sM (EV.blt rfl ok.len.1 ok.len.2) (EV.qT (L:=one) (enc:=aj) (λk=>[("k",aj k),("first",aj f)]) (λk=>decide (f<=k)) aj (by kernel_rfl) (IV.list (EV.name rfl)) (by intro a;exact af rfl ak) (λx z! cl cs s0 X W' aq=>AV.nm (by kernel_rfl))
     (λk hk cl cs s0 X W' aq=>TV.Rk (EV.name rfl) (EV.name rfl) rfl) (λk hk z! cl cs s0 X W' aq=>EV.name rfl) (by have:=mC one ho;exact tM hlim this))).conv (by rw [Sa])) (by exact B6 hlim sP)).conv (q:=.lst ((z.map λone=>((one.filter λk=>decide (f<=k)).length:Int)).map .int)) ?_) .nil) (Ec ?_)) (by show 5<=lim;exact jB hlim) (by kernel_rfl) ?_
  ·rw [S3];rfl
  ·intro h;exact Qi (List.map_eq_nil_iff.mp h)
  refine XS.no ((TV.cmp (p:=.lst ((written.map λr=>(r.length:Int)).map .int)) (q:=.lst (((Sk 5).map (oB near)).map .int)) ((EV.fM (L:=written) (enc:=aW) (λr=>[("folded",aW r)]) (λr=>.int (r.length:Int)) (by kernel_rfl) (IV.list (EV.name rfl)) (by intro a;exact ak) (λx z! cl cs s0 X W' aq=>AV.nm (by kernel_rfl))
   (λr hr cl cs s0 X W' aq=>(EV.sM (EV.blt rfl ok.len.1 ok.len.2) (EV.name rfl)).conv (by rw [Sa])) (by exact Ca hw hlim)).conv ?_) ((EV.name rfl).conv ?_) (m_ (dm.ints (d:=0)).ok (dm.ints (d:=0)).ok)).conv ?_) (XS.weaken hK ?_)
  ·rw [S3];rfl
  ·subst hz;rw [S3];rfl
  ·rw [iW (λa b=>uE),hchk];simp
  ·exact af rfl (af rfl (af rfl (af rfl (af rfl (af rfl (af rfl (af rfl ak)))))))
noncomputable def gf (one:List Nat) (i:Nat):Nat:=one.getD (if i=0 then 4 else i - 1) 0
noncomputable def tY (near:List (List Nat)) (one:List Nat):List Nat:=(Sk 5).filter λi => !decide (min (one.getD i 0) (gf one i)∈near.getD (max (one.getD i 0) (gf one i)) [])
noncomputable def n8 (near:List (List Nat)) (one:List Nat):Bool:=decide (one.getD 0 0=0) && (decide (tY near one=[]) && true)
theorem Di:∀ o∈aQ near k,∀ x∈o.1,x<k:=by
 induction k with
 | zero=>intro o h x hx;rw [aQ] at h;rw [Sm.mp h] at hx;exact absurd hx S9
 | succ k ih =>
  intro o h x hx
  rw [aQ,b5] at h
  refine ob1_2 (Sw.mp h) λo' h1 h2=>?_
  refine ob1_2 (SN.mp h2) λp hp az=>?_;obtain rfl:=az
  have:=ih o' h1
  simp only [cT,Sq,Sm] at hx
  rcases hx with (hx | hx) | hx
  ·have:=this x (Vp hx);exact Td this
  ·exact Sp (So hx)
  ·have:=this x (Vo hx);exact Td this
theorem dm.bool {d:Nat} {b:Bool}:dm d (.bool b):=⟨rfl,rfl,SX _⟩
theorem zq {a b:Bool}:(PV.bool a).eqv (.bool b)=(a == b):=by
 show WH (.bool a) (.bool b)=_
 rw [WH]
theorem at_getD {xs:List α} (d:α) (h:i<xs.length):xs[i]? = some (xs.getD i d):=by
 rw [SD]
 have:xs[i]? = some xs[i]:=Sv h
 rw [this];rfl
theorem mem_getD {xs:List α} (d:α) (h:i<xs.length):xs.getD i d∈xs:=UW (at_getD d h)
theorem I7 (ok:mR G) {R:List Str}
  (Ac:near.length=5) (hc5:cs.length=5) (hchk:(!decide ((aQ near 5).filter (λo=>n8 near o.1)=[]))=decide (2<yq ((cs.drop 2).map λc:Nat=>(c:Int))))
  (hK:XS G (rF pm code A s0 L n) (gO near sums texts R written width cs) W [] (sI 26) K) :
  XS G (rF pm code A s0 L n) (gO near sums texts R written width cs) W [] (sI 24) K:=by
 have hlim:lim=1048576:=by decide
 have mC:(aQ near 5).length=120:=by have:=eU near;unfold bT at this;rwa [Sa] at this
 refine XS.uN (L:=aQ near 5) (enc:=fR) (λo=>[("code",.str o.2),("one",aO o.1),("near",.lst (near.map aO))]) (λo=>n8 near o.1) (λo=>aO o.1) (by kernel_rfl) (IV.list (EV.name rfl)) (by intro a;exact af rfl ak) (λx z! cl cs s0 X W' aq=>AV.mj (AV.IS (by kernel_rfl)) (AV.IS (by kernel_rfl)))
  (λo ho cl cs s0 X W' aq=>uT.one ?_) (λo ho z! cl cs s0 X W' aq=>EV.name rfl) (by exact B_ hlim mC) (by kernel_rfl) ?_
 ·have hl:=t6 o ho
  have hlt:=Di o ho
  obtain ⟨one,cd⟩:=o
  dsimp only at hl hlt ⊢
  have hx:∀ i,i<5->one.getD i 0<5:=λi hi=>hlt _ (mem_getD 0 (by exact Sd hi (So (Eq.symm hl))))
  refine TV.and (TV.Pe (EV.nL (f:=aj) (i:=0) (EV.name rfl) EV.aE (at_getD 0 (by exact B8 hl))) (EV.aE (i:=(0:Nat))) rfl) λz! => TV.and ((TV.cmp (p:=.lst ((tY near one).map aj)) (EV.qT (L:=Sk 5) (enc:=aj) (λi=>[("i",aj i),("one",aO one),("near",.lst (near.map aO))]) (λi => !decide (min (one.getD i 0) (gf one i)∈near.getD (max (one.getD i 0) (gf one i)) [])) aj (by kernel_rfl)
   (IV.dN (m:=5) (EV.blt rfl ok.range.1 ok.range.2) EV.aE (by decide)) (by intro a;exact af rfl (af rfl ak)) (λx z! cl cs s0 X W' aq=>AV.nm (by kernel_rfl))
   (λi hi cl cs s0 X W' aq=>?_) (λi hi z! cl cs s0 X W' aq=>EV.name rfl) (by show 5<=lim;exact jB hlim)) (EV.list .nil) (x6 (dm.nats (d:=0)).ok (dm.lst (d:=0) (λx h=>absurd h S9)).ok)).conv oR) λz! => TV.pg
  have K6:=Ss.mp hi
  have QC:gf one i<5:=by unfold gf;split <;> exact hx _ (by first | decide | exact TQ (Uu _ _) K6)
  have hi0:=hx i K6
  have e1:∀ (ρ:List (Str×PV)) F W Rs p1 p2 p3 ,ρ.lookup ("i":Str)=some (aj i)->ρ.lookup ("one":Str)=some (aO one)->EV G F ρ W Rs (.Subscript (.Name "one" p1) (.Name "i" p2) p3) (aj (one.getD i 0)) :=
   λρ F W Rs p1 p2 p3 h1 h2=>EV.nL (f:=aj) (EV.name h2) (EV.name h1) (at_getD 0 (by exact Sd K6 (So (Eq.symm hl))))
  have e2:∀ (ρ:List (Str×PV)) F W Rs p1 p2 p3 p4 p5,ρ.lookup ("i":Str)=some (aj i)->ρ.lookup ("one":Str)=some (aO one)->EV G F ρ W Rs (.Subscript (.Name "one" p1) (.BinOp (.Name "i" p2) .Sub (.Constant (.int 1) 0 p3) p4) p5) (aj (gf one i)):=by
   intro ρ F W Rs p1 p2 p3 p4 p5 h1 h2
   unfold gf
   by_cases h0:i=0
   ·rw [if_pos h0]
    refine EV.yK (EV.name h2) (EV.sub (EV.name h1) EV.aE) ?_
    rw [show (i:Int) - 1 = -(((0:Nat):Int)+1) by rw [h0];rfl]
    refine ue (k:=0) (by rw [Sa];exact B8 hl) ?_
    rw [Sa,SP,Nat.sub_zero,hl,at_getD 0 (show 5 - 1<one.length by exact Tn (Sp (So (Eq.symm hl))))];rfl
   ·rw [if_neg h0]
    exact EV.nL (f:=aj) (EV.name h2) (EV.rR (EV.name h1) (EV.aE (i:=(1:Nat))) (by exact S5 (TM h0))) (at_getD 0 (by exact Ho hl K6))
  refine (TV.cmp (EV.M4 (EV.blt rfl ok.min.1 ok.min.2) (e1 _ _ _ _ _ _ _ rfl rfl) (e2 _ _ _ _ _ _ _ _ _ rfl rfl)) (EV.nL (f:=aO) (EV.name rfl) (EV.IZ (EV.blt rfl ok.max.1 ok.max.2) (e1 _ _ _ _ _ _ _ rfl rfl) (e2 _ _ _ _ _ _ _ _ _ rfl rfl)) (at_getD [] (Ac.symm▸Nat.max_lt.mpr ⟨hi0,QC⟩))) (xZ (dm.int (d:=0)).ok (dm.nats (d:=0)).ok)).conv (by rw [o_])
 refine XS.no ((TV.cmp (EV.cmp (EV.name rfl) (EV.list .nil) (m_ (dm.sG (d:=1) λo z! => dm.nats).ok (dm.lst (d:=0) (λx h=>absurd h S9)).ok)) (EV.cmp (EV.gT (EV.blt rfl ok.min.1 ok.min.2) (.cons ((EV.qK (f:=aj) (j:=2) (EV.name rfl) EV.aE).conv (q:=.lst (((cs.drop 2).map λc:Nat=>(c:Int)).map .int)) ?_) .nil) (Ea ?_)) EV.aE qi) (m_ (dm.bool (d:=0)).ok (dm.bool (d:=0)).ok)).conv ?_) (XS.weaken hK ?_)
 ·rw [S3];rfl
 ·intro h;have:=congrArg V7 h;rw [Sa,TN] at this;simp at this;exact Hj hc5 this
 ·rw [zq,oR,hchk];simp
 ·exact af rfl (af rfl (af rfl (af rfl (af rfl (af rfl (af rfl (af rfl ak)))))))
theorem gx (p:Nat->Bool) (lo hi:Nat):lo<=hi->lo<=bis p lo hi/\bis p lo hi<=hi:=by
 fun_induction bis p lo hi with
 | case1 lo hi h1 h2 ih=>intro h;have:=ih (by exact fH h1);exact Hu h1 this
 | case2 lo hi h1 h2 ih=>intro h;have:=ih (by exact B5 h1 h);exact Hl h1 this
 | case3 lo hi h1=>intro h;exact And.intro (Si _) h
noncomputable def Cx (sums:List Nat) (width k i:Nat):Bool:=decide (sums.getD (k+1) 0<=width+sums.getD i 0)
noncomputable def cM (sums:List Nat) (width k:Nat):Nat:=1+k - bis (Cx sums width k) 0 k
noncomputable def Dz (sums:List Nat) (width f i:Nat):Bool:=decide (sums.getD f 0+width<sums.getD i 0)
noncomputable def b6 (sums:List Nat) (width f:Nat):Nat:=bis (Dz sums width f) (f+2) sums.length - 1
noncomputable def fC (sums:List Nat) (width:Nat) (texts:List Str):Nat->List (List Str)
 | 0=>[[]]
 | j+1=>([Sx "" ((texts.take (b6 sums width (4 - j))).drop (4 - j))]++(fC sums width texts j).getD (b6 sums width (4 - j) - (4 - j) - 1) [])::fC sums width texts j
theorem yx {sums:List Nat} {width:Nat} {texts:List Str}:∀ j,(fC sums width texts j).length=j+1/\∀ x∈fC sums width texts j,x.length<=j
 | 0=>⟨rfl,λx h=>by cases Sm.mp h;exact Si _⟩
 | j+1=>by
  refine ob0_2 (yx (sums:=sums) (width:=width) (texts:=texts) j) λh1 h2=>?_
  refine ⟨by rw [fC,S_,h1],λx hx=>?_⟩
  rw [fC] at hx
  rcases Sh.mp hx with rfl | hx
  ·rw [Sy,List.length_singleton]
   have:((fC sums width texts j).getD (b6 sums width (4 - j) - (4 - j) - 1) []).length<=j:=by
    rw [SD]
    cases e:(fC sums width texts j)[b6 sums width (4 - j) - (4 - j) - 1]? with
    | none=>exact SX _
    | some y=>exact h2 y (UW e)
   exact Hf this
  ·have:=h2 x hx;exact SE this
theorem AD {f:Nat} (h6:sums.length=6) (hf:f<5):f+1<=b6 sums width f/\b6 sums width f<=5:=by
 have:=gx (Dz sums width f) (f+2) sums.length (by exact G8 h6 hf)
 unfold b6
 exact G7 h6 this
theorem Du:∀ k:Nat,k<5->(seqIndex? (k:Int) ("nabcd":Str).length).bind (("nabcd":Str).cps[·]?)=some (([110,97,98,99,100]:List Nat).getD k 0):=by decide
theorem Ke:∀ j,j<5->∀ p,([4,3,2,1,0].map aj)[j]? = some p->aj (4 - j)=p:=k_ (k_ (k_ (k_ (k_ ltZ λp h=>UC h) λp h=>UC h) λp h=>UC h) λp h=>UC h) λp h=>UC h
theorem I6 (ok:mR G) (E5:l5 G) {R:List Str}
  (h6:sums.length=6) (Qt:texts.length=5) (K2:∀ t∈texts,t.length<=100) (JY:∀ r∈R,T4 r=true) (Jl:∀ r∈written,∀ x∈r,T4 x=true)
  (hchk:R=(Sk 5).map λk=>VD "." (cM sums width k:Int)++⟨#[([110,97,98,99,100]:List Nat).getD k 0]⟩)
  (D4:written=(fC sums width texts 5).take 5)
  (hK:∀ s' v,St G (rF pm code A s0 L (n+1)) (("leaps",.lst ((fC sums width texts 5).map aW))::("dots",.lst (((Sk 5).map (cM sums width)).map aj))::gO near sums texts R written width cs) W [] s'->Rep W s'.heap (.bool true) v->K (.ret v) s') :
  XS G (rF pm code A s0 L (n+1)) (gO near sums texts R written width cs) W [] (sI 26) K:=by
 have hlim:lim=1048576:=by decide
 refine ob2_1 E5.bl λRU Pp Rx=>?_
 refine ob2_1 E5.br λPT Kl NX=>?_
 have JR:∀ k i e,(sums.map aj)[i]? = some e->wG G .Lt e (.int ((sums.getD (k+1) 0:Int) - (width:Int))) (!Cx sums width k i):=by
  intro k i e he F ρ W Rs s a b S ra rb
  rw [SP] at he
  refine ob1_2 (S6.mp he) λq hq az=>?_;obtain rfl:=az
  have e:(!Cx sums width k i)=decide ((q:Int)<(sums.getD (k+1) 0:Int) - (width:Int)):=by
   unfold Cx
   rw [SD (i:=i),hq,<- decide_not]
   exact decide_eq_decide.mpr (Nat.not_le.trans ((Ul (n:=width+q)).symm.trans ((Int.natCast_add width q▸Int.add_comm ↑q ↑width▸Iff.rfl:_↔(q:Int)+width<sums.getD (k+1) 0).trans ⟨Int.lt_sub_right_of_add_lt,Int.add_lt_of_lt_sub_right⟩)))
  rw [e]
  exact jG s a b S ra rb
 have JQ:∀ f i e,(sums.map aj)[i]? = some e->wG G .Lt (aj (sums.getD f 0+width)) e (Dz sums width f i):=by
  intro f i e he F ρ W Rs s a b S ra rb
  rw [SP] at he
  refine ob1_2 (S6.mp he) λq hq az=>?_;obtain rfl:=az
  have e:Dz sums width f i=decide (((sums.getD f 0+width:Nat):Int)<(q:Int)):=by
   unfold Dz
   rw [SD (i:=i),hq]
   exact Ji.symm
  rw [e]
  exact jG s a b S ra rb
 have hd:∀ k,k<5->cM sums width k<=6:=λk hk=>by
  have:=gx (Cx sums width k) 0 k (by exact SX _)
  unfold cM;exact G4 hk
 refine XS.asg ((EV.fM (L:=Sk 5) (enc:=aj) (λk=>[("k",aj k),("sums",.lst (sums.map aj)),("width",aj width)]) (λk=>aj (cM sums width k)) (by kernel_rfl) (IV.dN (m:=5) (EV.blt rfl ok.range.1 ok.range.2) EV.aE (by decide)) (by intro a;exact af rfl (af rfl ak)) (λx z! cl cs s0 X W' aq=>AV.nm (by kernel_rfl))
  (λk hk cl cs s0 X W' aq=>EV.rR (EV.d9 (EV.aE (i:=(1:Nat))) (EV.name rfl)) (EV.qW (EV.glob rfl ok.bl) Rx (Ku (n:=0) (lo:=0) (hi:=k) E5 ?_ (JR k)) (by show 1<=n+1;exact Sf _ _) (aV.cons (EV.name rfl) (aV.cons (EV.sub (EV.nL (f:=aj) (EV.name rfl) (EV.d9 (EV.name rfl) (EV.aE (i:=(1:Nat)))) (at_getD 0 ?_)) (EV.name rfl)) (aV.cons (EV.aE (i:=(0:Nat))) (aV.cons (EV.name rfl) .nil))))) ?_) (by show 5<=lim;exact jB hlim)).conv (q:=.lst (((Sk 5).map (cM sums width)).map aj)) ?_) (AV.nm (by kernel_rfl)) ?_
 ·have:=Ss.mp hk;rw [Sa];exact GW h6 this
 ·have:=Ss.mp hk;exact GV h6 this
 ·have:=gx (Cx sums width k) 0 k (by exact SX _);exact Nat.le_add_left_of_le this.2
 ·rw [S3];rfl
 refine XS.no ((TV.cmp (p:=aW R) (q:=aW R) (EV.name rfl) ((EV.fM (L:=Sk 5) (enc:=aj) (λk=>[("k",aj k),("dots",.lst (((Sk 5).map (cM sums width)).map aj))]) (λk=>.str (VD "." (cM sums width k:Int)++⟨#[([110,97,98,99,100]:List Nat).getD k 0]⟩)) (by kernel_rfl) (IV.dN (m:=5) (EV.blt rfl ok.range.1 ok.range.2) EV.aE (by decide)) (by intro a;exact af rfl ak) (λx z! cl cs s0 X W' aq=>AV.nm (by kernel_rfl))
  (λk hk cl cs s0 X W' aq=>EV.mO (EV.Dv EV.bP (EV.nL (f:=aj) (x:=cM sums width k) (EV.name rfl) (EV.name rfl) ?_) (by decide) ?_ ?_ ?_) (EV.yJ (i:=(k:Int)) EV.bP (EV.name rfl) (Du k (Ss.mp hk)) ?_ ?_) ?_) (by show 5<=lim;exact jB hlim)).conv ?_) (m_ (dm.sG (d:=0) λr hr=>dm.str (JY r hr)).ok (dm.sG (d:=0) λr hr=>dm.str (JY r hr)).ok)).conv ?_) ?_
 ·have:=Ss.mp hk
  rw [SP,VV this];rfl
 ·have:=hd k (Ss.mp hk);exact (Xc (n:=65536)).mpr (R9 this (Sz rfl))
 ·exact nv
 ·have:=hd k (Ss.mp hk)
  show (VD ⟨#[46]⟩ _).length<=lim
  rw [dh];exact GO hlim this
 ·exact nv
 ·have:=Ss.mp hk;exact oH (R9 (S1 this) (Sz rfl))
 ·have:=hd k (Ss.mp hk)
  rw [SG]
  show (VD ⟨#[46]⟩ _).length+1<=lim
  rw [dh];exact GJ hlim this
 ·rw [hchk];show PV.lst _=PV.lst _;rw [S3];rfl
 ·rw [iW (λa b=>uC)];simp
 refine XS.asg (p:=.lst ((fC sums width texts 0).map aW)) (EV.list (aV.cons (EV.list .nil) .nil) (by show 1<=lim;exact iw hlim)) (AV.nm (by kernel_rfl)) ?_
 refine XS.loop (τ:=List (List Str)) (xs:=[4,3,2,1,0].map aj) (λi z=>z=fC sums width texts i) (λz! => False) (λz=>("leaps",.lst (z.map aW))::("dots",.lst (((Sk 5).map (cM sums width)).map aj))::gO near sums texts R written width cs) (λz! => [])
  (λp z=>("first",p)::("leaps",.lst (z.map aW))::("dots",.lst (((Sk 5).map (cM sums width)).map aj))::gO near sums texts R written width cs) (fC sums width texts 0)
  (by
   have h:span 4 (-1) (-1)=[4,3,2,1,0].map aj:=by
    have e:(Tg 4 (-1) (-1)).toNat=5:=by decide +kernel
    unfold span
    rw [e];rfl
   rw [<- h]
   exact IV.xR (EV.blt rfl ok.range.1 ok.range.2) EV.aE (EV.neg EV.aE) (EV.neg EV.aE) (by decide) (by decide) (by decide +kernel)) rfl (λx p h=>h) rfl (λz! => rfl) (λkk p z s₁ hp hz=>AV.nm (by kernel_rfl)) (λj p z s₁ hp hz=>?_) (λz hz=>?_)
 ·have K5:j<5:=(TG.mp hp).1
  cases Ke j K5 p hp
  refine ob0_2 (yx (sums:=sums) (width:=width) (texts:=texts) j) λsP OO=>?_
  rw [<- hz] at sP OO
  have hstep:fC sums width texts (j+1)=[[Sx "" ((texts.take (b6 sums width (4 - j))).drop (4 - j))]++z.getD (b6 sums width (4 - j) - (4 - j) - 1) []]++z:=by rw [fC,hz];rfl
  rw [hstep]
  have Fc:4 - j<5:=by exact Sp (Uu _ _)
  have OW:j=4 - (4 - j):=by exact Gx K5 Fc
  have hb:=AD (width:=width) h6 Fc
  generalize Fb:4 - j=f at *
  have Q2:=gx (Dz sums width f) (f+2) sums.length (by exact Gr h6 Fb Fc)
  refine XS.asg (p:=aj (b6 sums width f)) ((EV.rR (EV.qW (EV.glob rfl ok.br) NX (Kr (n:=0) (lo:=f+2) E5 (JQ f)) (by show 1<=n+1;exact Sf _ _) (aV.cons (EV.name rfl) (aV.cons (EV.d9 (EV.nL (f:=aj) (EV.name rfl) (EV.name rfl) (at_getD 0 (by exact Gl h6 Fb Fc))) (EV.name rfl)) (aV.cons (EV.d9 (EV.name rfl) (EV.aE (i:=(2:Nat)))) .nil)))) (EV.aE (i:=(1:Nat))) ?_).conv ?_) (AV.nm (by kernel_rfl)) ?_
  ·rw [Sa];exact R9 (Sf _ _) Q2.1
  ·rw [Sa];rfl
  generalize b6 sums width f=r at *
  have Qh:(z.getD (r - f - 1) []).length<=5:=by
   have:=OO _ (mem_getD [] (show r - f - 1<z.length by exact BR sP Fb Fc OW hb));exact S1 (TQ this K5)
  refine XS.asg ((EV.ri (EV.list (ps:=[aW ([Sx "" ((texts.take r).drop f)]++z.getD (r - f - 1) [])]) (aV.cons ((EV.ri (EV.list (aV.cons (EV.join (ys:=(texts.take r).drop f) EV.bP (EV.Cj (f:=PV.str) (EV.name rfl) (EV.name rfl) (EV.name rfl)) ?_) .nil) (by show 1<=lim;exact iw hlim)) (EV.nL (f:=aW) (EV.name rfl) (EV.rR (EV.rR (EV.name rfl) (EV.name rfl) ?_) (EV.aE (i:=(1:Nat))) ?_) (at_getD [] ?_)) ?_).conv ?_) .nil) (by show 1<=lim;exact iw hlim)) (EV.name rfl) ?_).conv (q:=.lst (([[Sx "" ((texts.take r).drop f)]++z.getD (r - f - 1) []]++z).map aW)) ?_) (AV.nm (by kernel_rfl)) (XS.nil λs₂ S₂=>⟨_,rfl,?_⟩)
  ·have h4:=nW (f:=λx:Str=>x.length) (l:=(texts.take r).drop f) (c:=100) λx hx=>K2 x (Vp (Vo hx))
   have h7:((texts.take r).drop f).length<=5:=by rw [TN,Wc];exact FD Qt Fb hb
   have:=VM 100 h7
   show _+_ * 0<=lim
   exact FA hlim h4 h7
  ·exact Sl hb.1
  ·exact Fz Fb hb
  ·exact BR sP Fb Fc OW hb
  ·rw [Sa];show 1+_<=lim;exact Fy hlim Qh
  ·show PV.lst _=PV.lst _;rw [S4];rfl
  ·rw [Sa];show 1+_<=lim;exact Fx hlim K5 sP
  ·rw [S4];rfl
  ·exact S₂.weaken (af rfl (af rfl (af rfl (af rfl (af rfl (af rfl (af rfl (af rfl (af rfl (af rfl ak))))))))))
 ·have hz:z=fC sums width texts 5:=by
   rcases hz with h | h
   ·rw [h];rfl
   ·exact h.elim
  subst hz
  refine XS.ret ((EV.cmp (p:=.lst (written.map aW)) (q:=.lst (written.map aW)) (EV.name rfl) ((EV.w6 (f:=aW) (j:=5) (EV.name rfl) EV.aE).conv (by rw [<- D4])) (x6 (dm.sG (d:=1) λr hr=>dm.sG λx hx=>dm.str (Jl r hr x hx)).ok (dm.sG (d:=1) λr hr=>dm.sG λx hx=>dm.str (Jl r hr x hx)).ok)).conv ?_) hK
  rw [iW (λa b=>iW (λa b=>uC) a b)];simp
noncomputable def piecesOf (ai:Str) (p:Str×Str):List (Str×Str):=if p.2.cps[0]? = some 97 then [(p.1,p.2++ai++";")] else [(p.1,p.2),(ai,";")]
noncomputable def Piece (p:Str×Str):Prop:=(p.1.cps[0]? = none\/p.1.cps[0]? = some 32)/\∃ c,p.2.cps.back? = some c/\(c=59\/(97<=c/\c<=100))
theorem v8 {l:List Nat} (h:tl x=l):x=⟨l.toArray⟩:=by
 obtain ⟨a⟩:=x
 have:a.toList=l:=h
 subst this;simp
theorem mul_str:VD ⟨#[c]⟩ (n:Int)=⟨(TH n c).toArray⟩:=by
 refine v8 ?_
 rw [yl]
 simp [tl]
theorem qG:(VD ⟨#[c]⟩ ((n+1:Nat):Int)).cps[0]? = some c:=by
 rw [mul_str];simp
theorem zN:(VD ⟨#[c]⟩ ((n+1:Nat):Int)).cps.back? = some c:=by
 rw [mul_str];simp [Array.back?_eq_getElem?]
theorem nK:(x++";").cps.back? = some 59:=by
 show (x.cps ++ #[59]).back? = some 59
 simp
theorem sr (h:∀ p∈ys,Piece p) (hc:ch=44\/ch=9) (i:Nat):eu ys ch i=false:=by
 have h1:∀ j,((ys.getD j ("","")).1.cps[0]? = none\/(ys.getD j ("","")).1.cps[0]? = some 32)/\((ys.getD j ("","")).2.cps.back? = none\/∃ c,(ys.getD j ("","")).2.cps.back? = some c/\(c=59\/(97<=c/\c<=100))):=by
  intro j
  by_cases hj:j<ys.length
  ·refine ob0_2 (h (ys.getD j ("","")) (mem_getD (α:=Str×Str) ("","") hj)) λh1 h2=>?_
   exact ⟨h1,.inr h2⟩
  ·rw [SD,TA (by exact TS hj)]
   exact ⟨.inl rfl,.inl rfl⟩
 unfold eu
 have e1:decide ((ys.getD i ("","")).1.cps[0]? = some ch)=false:=by
  rcases (h1 i).1 with e | e <;> rw [e] <;> simp <;> exact Hh hc
 have e2:decide ((ys.getD (i - 1) ("","")).2.cps.back? = some ch)=false:=by
  rcases (h1 (i - 1)).2 with e | ⟨c,e,_⟩ <;> rw [e] <;> simp <;> exact Hg hc (by assumption)
 rw [e1,e2];simp
theorem dM (h:∀ p∈ys,Piece p) (hc:ch=44\/ch=9) (m:Nat):cu ys ch m=none:=fF λj z! z! => sr h hc j
noncomputable def ja (aC:List Nat) (ai:Str):Prop:=(aC=[32]/\ai="")\/(aC=[59]/\ai="")\/(aC=[44,59,32]/\(ai=""\/ai=" "))\/(aC=[9,32]/\ai="")
theorem IJ:Va ⟨#[32]⟩=true:=by decide +kernel
theorem zc (xs:List α) (y:α) (d:α):(xs++[y]).getD xs.length d=y:=by simp [SD]
theorem Eo {aC:List Nat} {ai:Str} (hs:ja aC ai) (hx:∀ p∈xs,Piece p) (hn:xs≠[]) (hl:∀ p,xs.getLast? = some p->p.2.cps.back? = some 59) (hz:Piece z) (hb:z.1.cps[0]? = some 32) :
  findS (xs++[z]) aC=some xs.length:=by
 have hlen:0<xs.length:=VW.mpr hn
 have hall:∀ p∈xs++[z],Piece p:=λp hp=>by
  rcases Sq.mp hp with h | h
  ·exact hx p h
  ·cases Sm.mp h;exact hz
 have hm:(xs++[z]).length - 1=xs.length:=by simp
 have J2:cu (xs++[z]) 32 ((xs++[z]).length - 1)=some xs.length:=by
  rw [hm]
  refine cX hlen ?_ (Si _) (λj h1 h2=>by exact B3 hm h1 h2)
  unfold eu
  rw [zc,hb,IJ];rfl
 have J1:cu (xs++[z]) 59 ((xs++[z]).length - 1)=some xs.length:=by
  rw [hm]
  refine cX hlen ?_ (Si _) (λj h1 h2=>by exact B3 hm h1 h2)
  unfold eu
  have:(xs++[z]).getD (xs.length - 1) ("","")=xs.getLast hn:=by
   rw [SD,Xf (by exact B0 hlen hm),List.getLast_eq_getElem,Sv (by exact B0 hlen hm)];rfl
  rw [this,hl _ (List.getLast?_eq_some_getLast hn)];simp
 rcases hs with ⟨rfl,_⟩ | ⟨rfl,_⟩ | ⟨rfl,_⟩ | ⟨rfl,_⟩
 ·rw [findS,J2]
 ·rw [findS,J1]
 ·rw [findS,dM hall (.inl rfl),findS,J1]
 ·rw [findS,dM hall (.inr rfl),findS,J2]
theorem MM:Va ⟨#[59]⟩=false:=by decide +kernel
theorem En {aC:List Nat} {ai:Str} (hs:ja aC ai) (hx:∀ p∈xs,Piece p) (hn:xs≠[]) (hl:∀ p,xs.getLast? = some p->p.2.cps.back? = some 59) (hz:Piece z) (hb:z.1.cps[0]? = some 32)
  (hw:∃ c,z.2.cps.back? = some c/\97<=c) (hi:Piece (ai,";")) :
  findS (xs++[z]++[(ai,(";":Str))]) aC=some xs.length:=by
 have hlen:0<xs.length:=VW.mpr hn
 have hall:∀ p∈xs++[z]++[(ai,(";":Str))],Piece p:=λp hp=>by
  rcases Sq.mp hp with h | h
  ·rcases Sq.mp h with h | h
   ·exact hx p h
   ·cases Sm.mp h;exact hz
  ·cases Sm.mp h;exact hi
 have hm:(xs++[z]++[(ai,(";":Str))]).length - 1=xs.length+1:=by simp
 refine ob1_2 hw λcw hcw A5=>?_
 have g0:(xs++[z]++[(ai,(";":Str))]).getD (xs.length - 1) ("","")=xs.getLast hn:=by
  rw [SD,SH,Xf (by exact BZ hlen),List.getLast_eq_getElem,Sv (by exact BZ hlen)];rfl
 have g1:(xs++[z]++[(ai,(";":Str))]).getD xs.length ("","")=z:=by
  rw [SD,SH,W4 (by exact Si _)];simp
 have g2:(xs++[z]++[(ai,(";":Str))]).getD (xs.length+1) ("","")=(ai,(";":Str)):=by
  rw [SD,SH,W4 (by exact Th _ _)];simp
 have J2:ai=""->cu (xs++[z]++[(ai,(";":Str))]) 32 ((xs++[z]++[(ai,(";":Str))]).length - 1)=some xs.length:=by
  intro hin
  rw [hm]
  refine cX hlen ?_ (Uj _) (λj h1 h2=>?_)
  ·unfold eu
   rw [g1,hb,IJ];rfl
  ·have:j=xs.length+1:=by exact TU h2 (S5 h1)
   subst this
   unfold eu
   rw [g2,T7,g1,hcw,hin]
   have:¬ cw=32:=by exact G3 A5
   simp [this]
   exact λz! => by decide
 have J1:cu (xs++[z]++[(ai,(";":Str))]) 59 ((xs++[z]++[(ai,(";":Str))]).length - 1)=some xs.length:=by
  rw [hm]
  refine cX hlen ?_ (Uj _) (λj h1 h2=>?_)
  ·unfold eu
   rw [g0,hl _ (List.getLast?_eq_some_getLast hn)];simp
  ·have:j=xs.length+1:=by exact TU h2 (S5 h1)
   subst this
   unfold eu
   rw [g2,T7,g1,hcw,MM]
   have:¬ cw=59:=by exact G1 A5
   simp [this]
 rcases hs with ⟨rfl,h⟩ | ⟨rfl,h⟩ | ⟨rfl,h⟩ | ⟨rfl,h⟩
 ·rw [findS,J2 h]
 ·rw [findS,J1]
 ·rw [findS,dM hall (.inl rfl),findS,J1]
 ·rw [findS,dM hall (.inr rfl),findS,J2 h]
theorem Em {aC:List Nat} {ai:Str} (hs:ja aC ai) (hin:ai="") (hz:Piece z) (hw:∃ c,z.2.cps.back? = some c/\97<=c) (hi:Piece (ai,";")):findS ([z]++[(ai,(";":Str))]) aC=none:=by
 have hall:∀ p∈[z]++[(ai,(";":Str))],Piece p:=λp hp=>by
  rcases Sq.mp hp with h | h
  ·cases Sm.mp h;exact hz
  ·cases Sm.mp h;exact hi
 refine ob1_2 hw λcw hcw A5=>?_
 have hm:([z]++[(ai,(";":Str))]).length - 1=1:=rfl
 have hj:∀ ch,ch=32\/ch=59->cu ([z]++[(ai,(";":Str))]) ch 1=none:=λch hc=>fF λj h1 h2=>by
  have:j=1:=by exact TU h2 (S5 h1)
  subst this
  unfold eu
  show (_ && decide (ai.cps[0]? = some ch) || decide (z.2.cps.back? = some ch))=false
  rw [hcw,hin]
  have:¬ cw=ch:=by exact G0 A5 hc
  have e:(("":Str).cps[0]? : Option Nat)=none:=by decide
  simp [this,e]
 refine fE λch hch=>?_
 rw [hm]
 rcases hs with ⟨rfl,h⟩ | ⟨rfl,h⟩ | ⟨rfl,h⟩ | ⟨rfl,h⟩
 ·exact hj _ (.inl (Sm.mp hch))
 ·exact hj _ (.inr (Sm.mp hch))
 ·simp at hch
  rcases hch with rfl | rfl | rfl
  ·exact dM hall (.inl rfl) 1
  ·exact hj _ (.inr rfl)
  ·exact hj _ (.inl rfl)
 ·simp at hch
  rcases hch with rfl | rfl
  ·exact dM hall (.inr rfl) 1
  ·exact hj _ (.inl rfl)
theorem El {aC:List Nat}:findS ([]++[z]) aC=none:=fE λch z! => rfl
structure Wd (ai:Str) (p:Str×Str):Prop where
 b:p.1.cps[0]? = some 32
 bn:p.1.length≠0
 bl:p.1.length<=2
 wn:p.2.length≠0
 wl:p.2.length<=3
 w:∃ c,p.2.cps.back? = some c/\97<=c/\c<=100
 M1:T4 p.1=true
 M0:T4 p.2=true
 f1:∀ c∈tl p.1,c=32
 f2:∀ c∈tl p.2,97<=c/\c<=100
noncomputable def dI (ai:Str):Prop:=ai=""\/ai=" "
theorem ja.ai {aC:List Nat} {ai:Str} (h:ja aC ai):dI ai:=by
 rcases h with ⟨_,h⟩ | ⟨_,h⟩ | ⟨_,h⟩ | ⟨_,h⟩
 ·exact .inl h
 ·exact .inl h
 ·exact h
 ·exact .inl h
theorem gY {ai:Str} (h:dI ai):Piece (ai,";"):=by
 rcases h with rfl | rfl
 ·exact ⟨.inl (by decide),59,by decide,.inl rfl⟩
 ·exact ⟨.inr (by decide),59,by decide,.inl rfl⟩
theorem Wd.p1 {ai:Str} {p:Str×Str} (h:Wd ai p):Piece (p.1,p.2):=by
 refine ob1_3 h.w λc h1 h2 h3=>?_
 exact ⟨.inr h.b,c,h1,.inr ⟨h2,h3⟩⟩
theorem Wd.p2 {ai:Str} {p:Str×Str} (h:Wd ai p):Piece (p.1,p.2++ai++";"):=⟨.inr h.b,59,nK,.inl rfl⟩
theorem m8 {ai:Str} (hi:dI ai) (h:∀ p∈us,Wd ai p):∀ q∈us.flatMap (piecesOf ai),Piece q:=by
 intro q hq
 refine ob1_2 (Sw.mp hq) λp hp hq=>?_
 unfold piecesOf at hq
 split at hq
 ·rw [Sm.mp hq];exact (h p hp).p2
 ·rcases Sh.mp hq with rfl | hq
  ·exact (h p hp).p1
  ·rw [Sm.mp hq];exact gY hi
theorem vp {ai:Str} (p:Str×Str):piecesOf ai p≠[]:=by unfold piecesOf;split <;> simp
theorem kZ {ai:Str} (h:us≠[]):us.flatMap (piecesOf ai)≠[]:=by
 cases us with
 | nil=>exact absurd rfl h
 | cons p us=>rw [S2];intro e;exact vp p (List.append_eq_nil_iff.mp e).1
theorem jE {ai:Str}:∀ q,(us.flatMap (piecesOf ai)).getLast? = some q->q.2.cps.back? = some 59:=by
 intro q hq
 rcases Wm us with rfl | ⟨vs,v,rfl⟩
 ·cases hq
 ·rw [Wn,T8,S2,UM,SI] at hq
  unfold piecesOf at hq
  split at hq
  ·rw [List.getLast?_append] at hq
   simp at hq
   subst hq
   exact nK
  ·rw [List.getLast?_append] at hq
   simp at hq
   subst hq
   rfl
theorem aU (w t:Str):av [(w,t)]=w.length+t.length:=by simp [av]
theorem g8 {ai:Str} (p:Str×Str):av (piecesOf ai p)=(bf ai p).length:=by
 unfold piecesOf bf
 split
 ·rw [aU];simp only [SG];exact BY
 ·have:av [(p.1,p.2),(ai,(";":Str))]=av [(p.1,p.2)]+av [(ai,(";":Str))]:=aR [(p.1,p.2)] [(ai,";")]
  rw [this,aU,aU];simp only [SG];exact Eq.symm (UJ _ _ _)
noncomputable def f_ (mx:Nat) (ai:Str) (z:List Str×Nat×List (Str×Str)) (p:Str×Str):List Str×Nat×List (Str×Str) :=
 if z.2.1+av (z.2.2.flatMap (piecesOf ai))+(bf ai p).length<=mx\/(z.2.2=[]/\z.2.1=0) then (z.1,z.2.1,z.2.2++[p]) else (z.1++[bg (z.2.2.flatMap (piecesOf ai))],0,[p])
noncomputable def wm (ai:Str) (z:List Str×Nat×List (Str×Str)):FS:=(z.1,z.2.1,z.2.2.flatMap (piecesOf ai))
theorem o9 {ai:Str} (hs:ja aC.cps.toList ai) (wJ:∀ p∈us,Wd ai p) {w t:Str} (hz:Piece (w,t)) (hb:w.cps[0]? = some 32) (hbn:w.length≠0) :
  i9 mx aC (lines,k,us.flatMap (piecesOf ai)) w t=if k+av (us.flatMap (piecesOf ai))+(w.length+t.length)<=mx\/(us=[]/\k=0) then (lines,k,us.flatMap (piecesOf ai)++[(w,t)]) else (lines++[bg (us.flatMap (piecesOf ai))],0,[(w,t)]):=by
 have hx:=m8 hs.ai wJ
 unfold i9 wL
 dsimp only
 rw [aR,aU]
 by_cases h1:k+(av (us.flatMap (piecesOf ai))+(w.length+t.length))<=mx
 ·rw [if_pos h1,if_pos (.inl (by exact GY h1))]
 ·rw [if_neg h1]
  by_cases hu:us=[]
  ·subst hu
   rw [UM,El]
   dsimp only
   by_cases hk:k=0
   ·subst hk
    rw [if_pos rfl,if_pos (.inr ⟨rfl,rfl⟩)]
   ·rw [if_neg hk,if_neg hbn,if_neg]
    rintro (h | ⟨_,h⟩)
    ·rw [UM] at h1;exact BX h1 h
    ·exact hk h
  ·rw [Eo hs hx (kZ hu) jE hz hb]
   dsimp only
   rw [List.take_left,List.drop_left,if_neg]
   rintro (h | ⟨h,_⟩)
   ·exact BX h1 h
   ·exact hu h
theorem C7 {ai:Str} (hs:ja aC.cps.toList ai) (QD:ai=" "->7<=mx) (wJ:∀ p∈us,Wd ai p) {p:Str×Str} (hp:Wd ai p) (h1:us=[]->k≠0->p.2.cps[0]? = some 97) :
  cH mx aC ai (wm ai (lines,k,us)) p=wm ai (f_ mx ai (lines,k,us) p):=by
 have jN:(";":Str).length=1:=rfl
 unfold cH wm
 by_cases hA:p.2.cps[0]? = some 97
 ·rw [if_pos hA,o9 hs wJ hp.p2 hp.b hp.bn]
  have hl:p.1.length+(p.2++ai++";").length=(bf ai p).length:=by unfold bf;simp only [SG];exact BY
  have sR:piecesOf ai p=[(p.1,p.2++ai++";")]:=by unfold piecesOf;rw [if_pos hA]
  unfold f_
  dsimp only
  rw [hl]
  split
  ·rw [T8,S2,UM,SI,sR]
  ·rw [S2,UM,SI,sR]
 ·rw [if_neg hA]
  have sR:piecesOf ai p=[(p.1,p.2),(ai,";")]:=by unfold piecesOf;rw [if_neg hA]
  have hl:(bf ai p).length=p.1.length+p.2.length+(ai.length+1):=by unfold bf;simp only [SG];exact GQ jN
  have hk:us=[]->k=0:=λh=>by
   by_cases hk:k=0
   ·exact hk
   ·exact absurd (h1 h hk) hA
  have hi1:ai.length<=1:=by rcases hs.ai with h | h <;> rw [h] <;> decide
  have hw:∃ c,p.2.cps.back? = some c/\97<=c:=by refine ob1_3 hp.w λc g1 g2 z! => ?_;exact ⟨c,g1,g2⟩
  -- a row with Qc PF word: PF E4 OI it
  have second:∀ dQ,i9 mx aC (dQ,0,[(p.1,p.2)]) ai ";"=(dQ,0,[(p.1,p.2),(ai,";")]):=by
   intro dQ
   unfold i9 wL
   dsimp only
   rw [aR,aU,aU]
   by_cases h2:0+(p.1.length+p.2.length+(ai.length+(";":Str).length))<=mx
   ·rw [if_pos h2];rfl
   ·rw [if_neg h2]
    have hin:ai="":=by
     rcases hs.ai with h | h
     ·exact h
     ·exact absurd (R9 (R9 (So (UP _)) (Vy (Vy hp.bl hp.wl) (Vy hi1 (So jN)))) (QD h)) h2
    rw [Em hs hin hp.p1 hw (gY hs.ai)]
    rfl
  have eY:(k+av (us.flatMap (piecesOf ai))+(bf ai p).length<=mx\/(us=[]/\k=0))->f_ mx ai (lines,k,us) p=(lines,k,us++[p]):=λh=>by unfold f_;exact if_pos h
  have eN:¬ (k+av (us.flatMap (piecesOf ai))+(bf ai p).length<=mx\/(us=[]/\k=0))->f_ mx ai (lines,k,us) p=(lines++[bg (us.flatMap (piecesOf ai))],0,[p]):=λh=>by unfold f_;exact if_neg h
  rw [o9 hs wJ hp.p1 hp.b hp.bn]
  dsimp only
  by_cases h2:k+av (us.flatMap (piecesOf ai))+(p.1.length+p.2.length)<=mx\/(us=[]/\k=0)
  ·rw [if_pos h2]
   by_cases hu:us=[]
   ·have hk0:=hk hu
    rw [eY (.inr ⟨hu,hk0⟩)]
    subst hu hk0
    rw [UM,VS,second]
    dsimp only
    rw [S2,UM,SI,sR]
   ·have hx:=m8 hs.ai wJ
    unfold i9 wL
    dsimp only
    rw [aR,aR,aU,aU,jN]
    by_cases h3:k+(av (us.flatMap (piecesOf ai))+(p.1.length+p.2.length)+(ai.length+1))<=mx
    ·rw [if_pos h3,eY (.inl (by exact GL hl h3))]
     dsimp only
     rw [T8,S2,UM,SI,sR,SH];rfl
    ·rw [if_neg h3,eN (by rintro (h | ⟨h,_⟩);exact GH hl h3 h;exact hu h),En hs hx (kZ hu) jE hp.p1 hp.b hw (gY hs.ai)]
     dsimp only
     rw [SH,List.take_left,List.drop_left,S2,UM,SI,sR];rfl
  ·rw [if_neg h2,second,eN (λh=>h2 (h.imp_left λh=>R9 (TZ (R9 (Th _ (ai.length+1)) (So hl.symm)) _) h))]
   dsimp only
   rw [S2,UM,SI,sR]
noncomputable abbrev US:Type:=List Str×Nat×List (Str×Str)
noncomputable def mV (mx:Nat) (ai:Str) (k:Nat) (ws:List (Str×Str)) (i:Nat):US:=(ws.take i).foldl (f_ mx ai) ([],k,[])
structure BI (mx:Nat) (aC:Str) (ai:Str) (k:Nat) (ws:List (Str×Str)):Prop where
 s:ja aC.cps.toList ai
 m:ai=" "->7<=mx
 w:∀ p∈ws,Wd ai p
 n:ws.length<=4
 kb:k<=100
 f:k≠0->∀ p,ws[0]? = some p->p.2.cps[0]? = some 97
theorem iB {ai:Str} {p:Str×Str} (h:ws[i]? = some p):mV mx ai k ws (i+1)=f_ mx ai (mV mx ai k ws i) p:=by
 unfold mV
 rw [Tz,h,Ub,U9];rfl
theorem gC {mx k:Nat} {ai:Str} {ws:List (Str×Str)}:∀ i,i<=ws.length->(∀ p∈(mV mx ai k ws i).2.2,p∈ws)/\(mV mx ai k ws i).2.2.length<=i/\(mV mx ai k ws i).1.length<=i/\(mV mx ai k ws i).2.1<=k/\((mV mx ai k ws i).2.2=[]->i=0)
 | 0,_=>by
  unfold mV
  exact ⟨λp h=>absurd h S9,Si _,Si _,Si _,λz! => rfl⟩
 | i+1,h=>by
  refine ob0_5 (gC (mx:=mx) (k:=k) (ai:=ai) (ws:=ws) i (by exact Sl h)) λh1 h2 h3 h4 h5=>?_
  have hp:ws[i]? = some ws[i]:=Sv (by exact Tn (Sp h))
  rw [iB hp]
  generalize mV mx ai k ws i=z at *
  unfold f_
  split
  ·refine ⟨λp hp=>?_,?_,by dsimp only;exact SE h3,h4,λh=>?_⟩
   ·rcases Sq.mp hp with hp | hp
    ·exact h1 p hp
    ·rw [Sm.mp hp];exact UH _
   ·rw [Sy];show _+1<=_;exact TF h2
   ·simp at h
  ·refine ⟨λp hp=>?_,by show 1<=_;exact Sf _ _,by rw [Sy];show _+1<=_;exact TF h3,SX _,λh=>by simp at h⟩
   rw [Sm.mp hp];exact UH _
theorem C0 {mx k:Nat} {aC ai:Str} {ws:List (Str×Str)} (ok:BI mx aC ai k ws):∀ i,i<=ws.length->uZ mx aC ai k ws i=wm ai (mV mx ai k ws i)
 | 0,_=>by unfold uZ mV wm;rfl
 | i+1,h=>by
  have ih:=C0 ok i (by exact Sl h)
  have hp:ws[i]? = some ws[i]:=Sv (by exact Tn (Sp h))
  refine ob0_5 (gC (mx:=mx) (k:=k) (ai:=ai) (ws:=ws) i (by exact Sl h)) λh1 h2 h3 h4 h5=>?_
  have e:uZ mx aC ai k ws (i+1)=cH mx aC ai (uZ mx aC ai k ws i) ws[i]:=by
   unfold uZ
   rw [Tz,hp,Ub,U9];rfl
  rw [e,ih,iB hp]
  refine C7 ok.s ok.m (λp hp=>ok.w p (h1 p hp)) (ok.w _ (UH _)) λhu hk=>?_
  have hi:=h5 hu
  subst hi
  exact ok.f (λe=>hk (by subst e;exact Nat.le_zero.mp h4)) _ hp
theorem nc (h1:T4 x=true) (h2:T4 y=true):T4 (x++y)=true:=by
 unfold T4 at *
 show (x.cps++y.cps).all _=true
 rw [Array.all_append,h1,h2];rfl
theorem oF {ai:Str} (h:dI ai):T4 ai=true/\ai.length<=1:=by
 rcases h with rfl | rfl <;> decide +kernel
theorem gD (h:x.length≠0):x≠"":=λe=>h (by rw [e];rfl)
theorem jO {ai:Str} (hi:dI ai) (h:∀ p∈us,Wd ai p):jb (us.flatMap (piecesOf ai)):=by
 intro q hq
 refine ob1_2 (Sw.mp hq) λp hp hq=>?_
 have W:=h p hp
 unfold piecesOf at hq
 split at hq
 ·rw [Sm.mp hq]
  refine ⟨W.M1,nc (nc W.M0 (oF hi).1) (by decide +kernel),gD ?_⟩
  rw [SG];show _+1≠0;exact VH _
 ·rcases Sh.mp hq with rfl | hq
  ·exact ⟨W.M1,W.M0,gD W.wn⟩
  ·rw [Sm.mp hq]
   exact ⟨(oF hi).1,(by decide +kernel:T4 (";":Str)=true),gD (by show (";":Str).length≠0;decide)⟩
theorem k6 {ai:Str} (us:List (Str×Str)):(us.flatMap (piecesOf ai)).length<=2 * us.length:=by
 induction us with
 | nil=>exact Si _
 | cons p us ih =>
  rw [S2,Sy,S_]
  have:(piecesOf ai p).length<=2:=by unfold piecesOf;split <;> simp
  exact GX ih this
theorem nR {ai:Str} (hi:dI ai) {p:Str×Str} (h:Wd ai p):(bf ai p).length<=7:=by
 unfold bf
 have:=h.bl;have:=h.wl;have:=(oF hi).2
 simp only [SG]
 show _+1<=7
 exact GS (by assumption) (by assumption) this
theorem lY {ai:Str} (hi:dI ai) (h:∀ p∈us,Wd ai p):av (us.flatMap (piecesOf ai))<=7 * us.length:=by
 induction us with
 | nil=>exact Si _
 | cons p us ih =>
  rw [S2,aR,g8,S_]
  have:=nR hi (h p (R_ ..))
  have:=ih λq hq=>h q (Sb _ hq)
  exact BV (by assumption) this
theorem Ar {ai:Str} (ok:BI mx aC ai k ws) {p:Str×Str} (hp:ws[i]? = some p):z3 mx aC ai (uZ mx aC ai k ws i) p:=by
 have hlim:lim=1048576:=by decide
 refine ob1_1 (TG.mp hp) λhi z! => ?_
 have hn:=ok.n
 have hk:=ok.kb
 refine ob0_5 (gC (mx:=mx) (k:=k) (ai:=ai) (ws:=ws) i (by exact S1 hi)) λh1 h2 h3 h4 h5=>?_
 have W:=ok.w p (UW hp)
 rw [C0 ok i (by exact S1 hi)]
 generalize mV mx ai k ws i=z at *
 obtain ⟨lines,k',us⟩:=z
 dsimp only at h1 h2 h3 h4 h5
 have wJ:∀ p∈us,Wd ai p:=λp hp=>ok.w p (h1 p hp)
 have hg:=jO ok.s.ai wJ
 have hl:=k6 (ai:=ai) us
 have ha:=lY ok.s.ai wJ
 have hil:=(oF ok.s.ai).2
 have D7:=W.bl
 have hwl:=W.wl
 have jN:(";":Str).length=1:=rfl
 refine ⟨W.wn,?_⟩
 unfold wm
 dsimp only
 split
 ·refine ⟨⟨hg,by dsimp only;exact BS hi hn h2 hl,?_,by dsimp only;exact wN hlim hi hn h3⟩,?_⟩
  ·dsimp only;rw [aR,aU,SG,SG];exact Gz hlim hi hn hk h2 h4 ha hil D7 hwl jN
  ·rw [SG,SG];exact Gw hlim hil hwl jN
 ·refine ⟨⟨hg,by dsimp only;exact BS hi hn h2 hl,?_,by dsimp only;exact wN hlim hi hn h3⟩,?_⟩
  ·dsimp only;rw [aR,aU];exact Gh hlim hi hn hk h2 h4 ha D7 hwl
  ·rw [o9 ok.s wJ W.p1 W.b W.bn]
   have g1:∀ xs:List (Str×Str),jb xs->jb (xs++[(p.1,p.2)]):=λxs h q hq=>by
    rcases Sq.mp hq with hq | hq
    ·exact h q hq
    ·rw [Sm.mp hq];exact ⟨W.M1,W.M0,gD W.wn⟩
   split
   ·refine ⟨g1 _ hg,?_,?_,?_⟩
    ·dsimp only;rw [Sy];show _+1+1<=_;exact Gb hi hn h2 hl
    ·dsimp only;rw [aR,aR,aU,aU];exact F9 hlim hi hn hk h2 h4 ha hil D7 hwl jN
    ·dsimp only;exact wN hlim hi hn h3
   ·refine ⟨g1 [] (λq hq=>absurd hq S9),?_,?_,?_⟩
    ·dsimp only;show 1+1<=_;exact Sf _ _
    ·dsimp only;rw [aR,aU,aU];exact F2 hlim hil D7 hwl jN
    ·dsimp only;rw [Sy];show _+1+1<=_;exact F0 hlim hi hn h3
theorem ff (r:Str):tl ("-"++r)=45::tl r:=by rw [aN];rfl
theorem rO (r:Str):tl ("."++r)=46::tl r:=by rw [aN];rfl
theorem qu (r:Str):dP ("-"++r)=r:=by
 have hl:1<=("-"++r).length:=by rw [<- aM,ff];simp
 unfold dP
 rw [if_pos]
 ·refine fY ?_
  rw [mq hl,ff];rfl
 ·refine fY ?_
  rw [gM hl,ff];rfl
theorem sH {r:Str} (h:(tl r).head? = some 46):dP r=r:=by
 have hl:1<=r.length:=by
  rw [<- aM]
  cases e:tl r with
  | nil=>rw [e] at h;cases h
  | cons a t=>simp
 unfold dP
 rw [if_neg]
 intro e
 have:=congrArg tl e
 rw [gM hl] at this
 cases e2:tl r with
 | nil=>rw [e2] at h;cases h
 | cons a t =>
  rw [e2] at h this
  cases h
  have h2:[46]=[45]:=this
  exact absurd h2 (by decide)
structure jX (r:Str):Prop where
 h:(tl r).head? = some 46
 OC:10∉tl r
 OB:13∉tl r
 l:r.length<=99
theorem jX.line {r:Str} (h:jX r):jA r:=⟨λe=>(by have:=h.h;rw [e] at this;cases this),h.OC,h.OB⟩
theorem jX.dash {r:Str} (h:jX r):jA ("-"++r):=by
 refine ⟨by rw [ff];simp,?_,?_⟩
 ·rw [ff];intro hm;exact (Sh.mp hm).elim (λe=>absurd e (by decide)) h.OC
 ·rw [ff];intro hm;exact (Sh.mp hm).elim (λe=>absurd e (by decide)) h.OB
noncomputable def oA (f:Nat) (b:Int) (rows:List Str):List Str:=rows.zipIdx.map λx=>if f<x.2/\(x.2:Int)<b then "."++x.1 else x.1
theorem vG {rows:List Str} (h5:rows.length=5) (hr:∀ r∈rows,jX r) {f:Nat} {b:Int} {e:Str} (he:nO e) :
  ∃ S:List Str,VO (quoted (g6 e f b rows)) "\r\n\r\n"=S/\S.length=5/\(∀ l∈S,l.length<=101)/\oA f b rows=S.reverse.map dP:=by
 have hmem:∀ x∈rows.zipIdx,jX x.1:=λx hx=>by
  obtain ⟨a,i⟩:=x
  have:=List.mem_zipIdx hx
  exact hr _ (this.2.2▸UH _)
 have yT:∀ l∈cK f b rows,jA l/\l.length<=100:=λl hl=>by
  unfold cK at hl
  refine ob1_2 (SN.mp hl) λx hx az=>?_;obtain rfl:=az
  have R:=hmem x hx
  have:=R.l
  split
  ·exact ⟨R.line,by exact SE this⟩
  ·exact ⟨R.dash,by rw [SG];show 1+_<=_;exact GU this⟩
 have Jr:∀ l∈(cK f b rows).reverse,jA l:=λl hl=>(yT l (Wa.mp hl)).1
 have hml:=qt (f:=f) (b:=b) h5
 have hdl:∀ l,(ic l).length<=l.length+1:=λl=>by
  rw [<- aM,j5]
  split
  ·rw [S_,aM];exact Si _
  ·rw [aM];exact Th _ _
 refine ⟨(cK f b rows).reverse.map ic,?_,by rw [Sa,Wz,hml],λl hl=>?_,?_⟩
 ·unfold g6
  rw [qa he Jr]
  refine kP (h:=13) (t:=[10,13,10]) rfl ?_ (λp hp=>?_) ?_
  ·intro h;have:=congrArg V7 h;rw [Sa,Wz,hml] at this;cases this
  ·refine ob1_2 (SN.mp hp) λl hl az=>?_;obtain rfl:=az
   have L:=Jr l hl
   rw [j5]
   split
   ·intro hm;exact (Sh.mp hm).elim (λe=>absurd e (by decide)) L.2.2
   ·exact L.2.2
  ·have hc:∀ c∈tl "\r\n\r\n",c<256:=by
    show ∀ c∈[13,10,13,10],c<256
    decide
   rw [qz hc]
   exact qy _
 ·refine ob1_2 (SN.mp hl) λl' hl' az=>?_;obtain rfl:=az
  have:=(yT l' (Wa.mp hl')).2
  have:=hdl l'
  exact R9 this (TF (by assumption))
 ·rw [<- List.map_reverse,List.reverse_reverse,S3]
  unfold oA cK
  rw [S3]
  refine Te λx hx=>?_
  have R:=hmem x hx
  show _=dP (ic (if f<x.2/\(x.2:Int)<b then x.1 else "-"++x.1))
  by_cases hc:f<x.2/\(x.2:Int)<b
  ·rw [if_pos hc,if_pos hc]
   have e:ic x.1="."++x.1:=by unfold ic;rw [if_pos R.h]
   rw [e,sH (by rw [rO];rfl)]
  ·rw [if_neg hc,if_neg hc]
   have e:ic ("-"++x.1)="-"++x.1:=by unfold ic;rw [if_neg];rw [ff];intro h;cases h
   rw [e,qu]
noncomputable def rowOf (ai:Str) (us:List (Str×Str)):Str:=bg (us.flatMap (piecesOf ai))
theorem jd (ai:Str):∀ us:List (Str×Str),tl (rowOf ai us)=us.flatMap λp=>tl (bf ai p)
 | []=>rfl
 | p::us=>by
  have ih:=jd ai us
  unfold rowOf bg bG at ih ⊢
  rw [eE] at ih ⊢
  rw [S2,S4,T8,ih,S2]
  congr 1
  unfold piecesOf bf
  split
  ·simp [aN]
  ·simp [aN]
noncomputable def Plain (c:Nat):Prop:=c=32\/c=59\/(97<=c/\c<=100)
theorem mW {ai:Str} (hi:dI ai) {p:Str×Str} (h:Wd ai p):∀ c∈tl (bf ai p),Plain c:=by
 intro c hc
 unfold bf at hc
 rw [aN,aN,aN] at hc
 rcases Sq.mp hc with hc | hc
 ·rcases Sq.mp hc with hc | hc
  ·rcases Sq.mp hc with hc | hc
   ·exact .inl (h.f1 c hc)
   ·exact .inr (.inr (h.f2 c hc))
  ·rcases hi with rfl | rfl
   ·exact absurd hc S9
   ·exact .inl (Sm.mp hc)
 ·exact .inr (.inl (Sm.mp hc))
theorem vn {ai:Str} (hi:dI ai) (h:∀ p∈us,Wd ai p):∀ c∈tl (rowOf ai us),Plain c:=by
 intro c hc
 rw [jd] at hc
 refine ob1_2 (Sw.mp hc) λp hp hc=>?_
 exact mW hi (h p hp) c hc
theorem tW {ai:Str} (hi:dI ai) (h:∀ p∈us,Wd ai p):(rowOf ai us).length<=7 * us.length:=by
 rw [<- aM,jd]
 induction us with
 | nil=>exact Si _
 | cons p us ih =>
  rw [S2,Sy,aM,S_]
  have:=nR hi (h p (R_ ..))
  have:=ih λq hq=>h q (Sb _ hq)
  exact BV (by assumption) this
theorem pO {mx k:Nat} {ai:Str} {ws:List (Str×Str)} (hw:∀ p∈ws,Wd ai p) (hn:ws.length<=4):∀ i,i<=ws.length->∀ l∈(mV mx ai k ws i).1,∃ us,l=rowOf ai us/\(∀ p∈us,Wd ai p)/\us.length<=4
 | 0,_=>λl hl=>by unfold mV at hl;exact absurd hl S9
 | i+1,h=>by
  have ih:=pO (mx:=mx) (k:=k) hw hn i (by exact Sl h)
  refine ob0_5 (gC (mx:=mx) (k:=k) (ai:=ai) (ws:=ws) i (by exact Sl h)) λh1 h2 h3 h4 h5=>?_
  have hp:ws[i]? = some ws[i]:=Sv (by exact Tn (Sp h))
  rw [iB hp]
  generalize mV mx ai k ws i=z at *
  unfold f_
  split
  ·exact ih
  ·intro l hl
   rcases Sq.mp hl with hl | hl
   ·exact ih l hl
   ·exact ⟨z.2.2,Sm.mp hl,λp hp=>hw p (h1 p hp),by exact GN hn h h2⟩
noncomputable def cQ (mx:Nat) (ai:Str) (k:Nat) (ws:List (Str×Str)):List Str:=(mV mx ai k ws ws.length).1++[rowOf ai (mV mx ai k ws ws.length).2.2]
theorem w7 {ai:Str} (hw:∀ p∈ws,Wd ai p) (hn:ws.length<=4):(cQ mx ai k ws).length<=5/\∀ l∈cQ mx ai k ws,∃ us,l=rowOf ai us/\(∀ p∈us,Wd ai p)/\us.length<=4:=by
 refine ob0_5 (gC (mx:=mx) (k:=k) (ai:=ai) (ws:=ws) ws.length (Si _)) λh1 h2 h3 h4 h5=>?_
 unfold cQ
 refine ⟨by rw [Sy];show _+1<=5;exact TF (R9 h3 hn),λl hl=>?_⟩
 rcases Sq.mp hl with hl | hl
 ·exact pO hw hn _ (Si _) l hl
 ·exact ⟨_,Sm.mp hl,λp hp=>hw p (h1 p hp),by exact R9 h2 hn⟩
section
variable {K:Frag}
theorem sf (h:Plain c):c≠10/\c≠13:=by
 rcases h with rfl | rfl | h
 ·decide
 ·decide
 ·exact GP h
theorem zv {e:Str} (he:nO e):∃ h t,tl e=h::t/\(h=10\/h=13)/\e.length<=2/\(e.length == 0)=false/\(∀ c∈tl e,c<256):=by
 rcases he with rfl | rfl | rfl
 ·exact ⟨10,[],rfl,.inl rfl,by decide,by decide,by show ∀ c∈[10],c<256;decide⟩
 ·exact ⟨13,[],rfl,.inr rfl,by decide,by decide,by show ∀ c∈[13],c<256;decide⟩
 ·exact ⟨13,[10],rfl,.inr rfl,by decide,by decide,by show ∀ c∈[13,10],c<256;decide⟩
theorem AQ (h:59∈tl x):Va x=false:=by
 unfold Va
 have:x.cps.all Unicode.isSpace=false:=by
  rw [Array.all_eq_false]
  refine ob1_1 (List.getElem_of_mem h) λi aA=>?_;refine ob1_1 aA λhi e=>?_
  have hi':i<x.cps.size:=by rw [aM] at hi;exact hi
  refine ⟨i,hi',?_⟩
  have e':x.cps[i]=59:=e
  rw [e']
  decide +kernel
 rw [this,Bool.and_false]
theorem Aw {ai:Str} (h:us≠[]):59∈tl (rowOf ai us):=by
 rw [jd]
 cases us with
 | nil=>exact absurd rfl h
 | cons p us =>
  refine Sw.mpr ⟨p,R_ ..,?_⟩
  unfold bf
  rw [aN]
  exact Sq.mpr (.inr (Sm.mpr rfl))
theorem A_ (ok:eX G K) (ye:wC G) {ai e:Str} (W:BI mx aC ai k ws) (hws:ws≠[]) (he:nO e) (oK:aC.cps.all (· < 128)=true) (hs:aC.length<=16) (m:Nat) :
  FC G BG (m+10) [aj k,aj mx,.str aC,.str ai,.lst (ws.map gk),.str e] (aW (cQ mx ai k ws)):=by
 have hlim:lim=1048576:=by decide
 refine ob2_5 (zv he) λh t QK hh hel Nx QU=>?_
 refine ob0_2 (w7 (mx:=mx) (k:=k) W.w W.n) λE_ yQ=>?_
 refine ob0_5 (gC (mx:=mx) (k:=k) (ai:=ai) (ws:=ws) ws.length (Si _)) λh1 h2 h3 h4 h5=>?_
 have hz:=C0 W ws.length (Si _)
 have hn:=W.n
 have hkb:=W.kb
 have hwl:0<ws.length:=VW.mpr hws
 have hsum:((cQ mx ai k ws).map (·.length)).sum<=(cQ mx ai k ws).length * 28:=nW (f:=λx:Str=>x.length) λl hl=>by
  refine ob1_3 (yQ l hl) λus aB g1 g2=>?_;obtain rfl:=aB
  have:=tW W.s.ai g1;exact BU g2 this
 have DY:∀ l∈cQ mx ai k ws,l.length<=28:=λl hl=>by
  refine ob1_3 (yQ l hl) λus aB g1 g2=>?_;obtain rfl:=aB
  have:=tW W.s.ai g1;exact BU g2 this
 have hjl:=join_le (sep:=e) (xs:=cQ mx ai k ws) DY
 have hsplit:VO (Sx e (cQ mx ai k ws)) e=cQ mx ai k ws:=by
  refine kP QK (by unfold cQ;simp) (λl hl hm=>?_) (by rw [qz QU];exact qy _)
  refine ob1_3 (yQ l hl) λus aB g1 g2=>?_;obtain rfl:=aB
  have:=sf (vn W.s.ai g1 h hm)
  rcases hh with rfl | rfl
  ·exact this.1 rfl
  ·exact this.2 rfl
 have OX:(Sx e (cQ mx ai k ws)).length<=1000:=by
  have:(cQ mx ai k ws).length * (28+e.length)<=5 * 30:=XR E_ (by exact GD hel)
  exact GB hjl this
 have hmul:(cQ mx ai k ws).length * e.length<=5 * 2:=XR E_ hel
 have yR:=qg (Sx e (cQ mx ai k ws)) e
 have hsl:sizeLine ≥ 100000:=by rw [W8];exact Sf _ _
 unfold cQ at E_ hsum hjl hsplit OX hmul yR DY ⊢
 generalize mV mx ai k ws ws.length=z at *
 obtain ⟨lines,k',us⟩:=z
 dsimp only at *
 have wJ:∀ p∈us,Wd ai p:=λp hp=>W.w p (h1 p hp)
 have Jo:us≠[]:=λhu=>absurd (h5 hu) (Vi hwl)
 have ha:=lY W.s.ai wJ
 have hpl:=k6 (ai:=ai) us
 refine AA (k:=k) (mx:=mx) (k':=k') (lines:=lines) (xs:=us.flatMap (piecesOf ai)) ok ye oK (by exact Gu hs hlim) (λi p hp=>Ar W hp) hz (jO W.s.ai wJ) (by exact Gn hlim hn h2 hpl) (by exact Gk hlim hn hkb h2 h4 ha) (by exact Gj hlim hn h3) (.inr ⟨?_,?_⟩) ?_ Nx hsplit (λl hl=>?_) ?_ ?_
 ·cases us with
  | nil=>exact absurd rfl Jo
  | cons p us =>
   rw [S2,aR,g8]
   have:1<=(bf ai p).length:=by unfold bf;rw [SG];show 1<=_+1;exact Sf _ _
   exact Vi (Tn (Sp (WM this)))
 ·exact AQ (Aw Jo)
 ·show ((lines++[rowOf ai us]).map (·.length)).sum+(lines++[rowOf ai us]).length * e.length<=lim
  have:(lines++[rowOf ai us]).length * 28<=5 * 28:=VM 28 E_
  exact Gf hlim E_ hsum hmul
 ·have:=DY l hl;exact Ga hlim this
 ·exact tM hlim E_
 ·show _<=sizeLine
  exact R9 yR (by exact F7 hsl OX)
end
theorem yc (h:c<200):T4 (VD ⟨#[c]⟩ (n:Int))=true:=by
 unfold T4
 rw [mul_str,Wv]
 intro x hx
 have:x∈TH n c:=by simpa using hx
 rw [Vh this]
 exact decide_eq_true (by exact Sd h (Sf _ _))
theorem rN:tl (VD ⟨#[c]⟩ (n:Int))=TH n c:=by
 rw [mul_str];rfl
theorem j4 (ai:Str) {v:Nat} (hk:k<4):Wd ai (aP k v):=by
 have e1:(aP k v).1=VD ⟨#[32]⟩ ((v % 2+1:Nat):Int):=by unfold aP;rw [Vj];rfl
 have e2:(aP k v).2=VD ⟨#[97+k]⟩ ((v / 2 % 3+1:Nat):Int):=by unfold aP;rw [Vj 1 (v / 2 % 3)]
 constructor
 ·rw [e1];exact qG
 ·rw [e1,dh];exact VH _
 ·rw [e1,dh];exact GK
 ·rw [e2,dh];exact VH _
 ·rw [e2,dh];exact GG
 ·rw [e2];exact ⟨97+k,zN,by exact Th _ _,by exact GC hk⟩
 ·rw [e1];exact yc (by exact Sp (Sf _ _))
 ·rw [e2];exact yc (by exact Gy hk)
 ·rw [e1,rN];exact λc hc=>Vh hc
 ·rw [e2,rN];exact λc hc=>by rw [Vh hc];exact Gs hk
theorem u9 {v:Nat}:(aP k v).2.cps[0]? = some (97+k):=by
 have e2:(aP k v).2=VD ⟨#[97+k]⟩ ((v / 2 % 3+1:Nat):Int):=by unfold aP;rw [Vj 1 (v / 2 % 3)]
 rw [e2];exact qG
theorem rT (d0:Nat):ja (di d0).cps.toList (aJ d0):=by
 have h:di d0=" "\/di d0=";"\/di d0=",; "\/di d0="\t ":=by
  unfold di
  generalize hm:d0 / 16 % 4=m
  have:m<4:=by exact wO hm
  match m,this with
  | 0,_=>exact .inl rfl
  | 1,_=>exact .inr (.inl rfl)
  | 2,_=>exact .inr (.inr (.inl rfl))
  | 3,_=>exact .inr (.inr (.inr rfl))
 unfold aJ
 rcases h with h | h | h | h
 ·rw [h];exact .inl ⟨rfl,if_neg (by rintro ⟨h,_⟩;exact absurd (congrArg tl h) (by show ¬ ([32]:List Nat)=[44,59,32];decide))⟩
 ·rw [h];exact .inr (.inl ⟨rfl,if_neg (by rintro ⟨h,_⟩;exact absurd (congrArg tl h) (by show ¬ ([59]:List Nat)=[44,59,32];decide))⟩)
 ·rw [h];exact .inr (.inr (.inl ⟨rfl,by split;exact .inr rfl;exact .inl rfl⟩))
 ·rw [h];exact .inr (.inr (.inr ⟨rfl,if_neg (by rintro ⟨h,_⟩;exact absurd (congrArg tl h) (by show ¬ ([9,32]:List Nat)=[44,59,32];decide))⟩))
theorem yI (d0:Nat):aJ d0=" "->7<=aH d0:=by
 unfold aJ
 split
 ·rename_i h;intro _;exact h.2
 ·intro h;exact absurd (congrArg tl h) (by show ¬ ([]:List Nat)=[32];decide)
theorem s_ (d1 k:Nat):nO (jL d1 k):=by
 unfold jL
 generalize hm:(d1 / 7+k) % 3=m
 have:m<3:=by exact Cb hm
 match m,this with
 | 0,_=>exact .inl rfl
 | 1,_=>exact .inr (.inl rfl)
 | 2,_=>exact .inr (.inr rfl)
theorem m5 (d0:Nat):(di d0).cps.all (· < 128)=true/\(di d0).length<=16:=by
 unfold di
 generalize hm:d0 / 16 % 4=m
 have:m<4:=by exact wO hm
 match m,this with
 | 0,_ | 1,_ | 2,_ | 3,_=>exact ⟨by decide +kernel,by decide +kernel⟩
noncomputable def gP (ai:Str) (ws:List (Str×Str)) (j:Nat):Nat:=((ws.take j).map λp=>(bf ai p).length).sum
theorem sJ {ai:Str} {p:Str×Str} (h:ws[j]? = some p):gP ai ws (j+1)=gP ai ws j+(bf ai p).length:=by
 unfold gP
 rw [Tz,h,Ub,S4,List.sum_append]
 simp
theorem zS (ai:Str):∀ us:List (Str×Str),av (us.flatMap (piecesOf ai))=(us.map λp=>(bf ai p).length).sum
 | []=>rfl
 | p::us=>by rw [S2,aR,g8,zS ai us,SV,Xu]
theorem nq (ai:Str) (ws:List (Str×Str)) (h:a<=b):gP ai ws a+(((ws.take b).drop a).map λp=>(bf ai p).length).sum=gP ai ws b:=by
 unfold gP
 have e:ws.take b=ws.take a++(ws.take b).drop a:=by
  have:=Ud a (ws.take b)
  rw [List.take_take,VU h] at this
  exact this.symm
 conv=>rhs;rw [e,S4,List.sum_append]
noncomputable def bD (ai:Str) (room:Nat) (ws:List (Str×Str)) (j:Nat):Nat:=if j=0 then 0 else room+gP ai ws (j - 1)
theorem ee {ai:Str} (hn:ws.length=4):∀ j,j<6->(bS room (ws.map (bf ai))).getD j 0=bD ai room ws j:=by
 refine ob2_2 (eG hn) λa r1 az k1=>?_;obtain rfl:=az
 refine ob2_2 (eG k1) λb r2 az k2=>?_;obtain rfl:=az
 refine ob2_2 (eG k2) λc r3 az k3=>?_;obtain rfl:=az
 refine ob2_2 (eG k3) λd r4 az k4=>?_;obtain rfl:=az
 cases len0 k4
 refine k_ (k_ (k_ (k_ (k_ (k_ ltZ rfl) rfl) rfl) ?_) ?_) ?_
 ·exact UJ room _ _
 ·exact (UJ (room+_) _ _).trans (UJ room _ _)
 ·exact (UJ (room+_+_) _ _).trans ((UJ (room+_) _ _).trans (UJ room _ _))
noncomputable def qJ (P:Nat->Nat->Bool) (z:List (Nat×Nat)×Nat) (j:Nat):List (Nat×Nat)×Nat:=if z.2=j\/P j z.2=true then z else (z.1++[(z.2,j)],j)
noncomputable def sV (P:Nat->Nat->Bool) (f i:Nat):List (Nat×Nat)×Nat:=((Sk i).map (max 1 f + ·)).foldl (qJ P) ([],f)
noncomputable def Bm (ai:Str) (ws:List (Str×Str)) (r:Nat×Nat):Str:=rowOf ai ((ws.take (r.2 - 1)).drop (r.1 - 1))
theorem iS {P:Nat->Nat->Bool} {f:Nat}:sV P f (i+1)=qJ P (sV P f i) (max 1 f+i):=by
 unfold sV
 rw [List.range_succ,S4,U9];rfl
theorem vQ {f:Nat} (h:i+1<=n - (f - 1)):1<=max 1 f/\max 1 f+i - 1<n/\f - 1+i=max 1 f+i - 1:=by
 rcases Xy f with rfl | h0
 ·exact ⟨Si 1,by show 1+i - 1<n;rw [UT];exact h,by show 0+i=1+i - 1;rw [UT,UP]⟩
 ·have e:max 1 f=f:=Wb h0
  rw [e]
  have e2:f+i - 1=f - 1+i:=Nat.sub_add_comm h0
  exact ⟨h0,by rw [e2];exact Nat.add_lt_of_lt_sub' h,e2.symm⟩
theorem N8 (r a b l t mx:Nat) (hc:0+a=b) (hs:t=b+l):r+a+l<=mx↔r+t<=mx+0:=by subst hs;subst hc;rw [UP,UJ];exact Iff.rfl
theorem N9 (r a b c l t mx:Nat) (hc:c+a=b) (hs:t=b+l):0+a+l<=mx↔r+t<=mx+(r+c):=by
 subst hs;subst hc
 rw [UP,UJ,Nat.add_left_comm mx r c,Nat.add_le_add_iff_left,Vj mx c,Nat.add_le_add_iff_left]
theorem N_ {s:Nat} (hs:s<=j) (h0:¬ s=0) (h:j - 1 - (s - 1)=0):s=j:=by exact Gq hs h0 h
theorem ID {ai:Str} {room mx f:Nat} {ws:List (Str×Str)} (hn:ws.length=4) (hf:f<5) (hroom:room≠0):∀ i,i<=(ws.drop (f - 1)).length ->
  mV mx ai (if f=0 then room else 0) (ws.drop (f - 1)) i =
   ((sV (λj s=>decide (bD ai room ws (j+1)<=mx+bD ai room ws s)) f i).1.map (Bm ai ws),if (sV (λj s=>decide (bD ai room ws (j+1)<=mx+bD ai room ws s)) f i).2=0 then room else 0,
    (ws.take (max 1 f+i - 1)).drop ((sV (λj s=>decide (bD ai room ws (j+1)<=mx+bD ai room ws s)) f i).2 - 1)) /\
   (sV (λj s=>decide (bD ai room ws (j+1)<=mx+bD ai room ws s)) f i).2<=max 1 f+i
 | 0,_=>by
  have hm:max 1 f - 1=f - 1:=by
   rcases Xy f with rfl | h0
   ·rfl
   ·rw [Wb h0]
  have:(ws.take (max 1 f+0 - 1)).drop (f - 1)=[]:=T3 (by rw [Nat.add_zero,hm];exact List.length_take_le ..)
  refine ⟨?_,Nat.le_max_right ..⟩
  show (([],if f=0 then room else 0,[]):US)=([],if f=0 then room else 0,(ws.take (max 1 f+0 - 1)).drop (f - 1))
  rw [this]
 | i+1,h=>by
  rw [TN] at h
  refine ob0_2 (ID (ai:=ai) (room:=room) (mx:=mx) hn hf hroom i (by rw [TN];exact Sl h)) λih hs=>?_
  refine ob0_3 (vQ h) λhm1 hlt hix=>?_
  have DT:ws[max 1 f+i - 1]? = some (ws[max 1 f+i - 1]'hlt):=Sv hlt
  have hp:(ws.drop (f - 1))[i]? = some (ws[max 1 f+i - 1]'hlt):=by rw [List.getElem?_drop,hix,DT]
  rw [iB hp,iS]
  have yP:=sJ (ai:=ai) DT
  have e2:max 1 f+(i+1) - 1=max 1 f+i:=rfl
  have hj1:1<=max 1 f+i:=R9 hm1 (Th ..)
  rw [ih,e2]
  clear ih e2 hp hix h hm1
  generalize ws[max 1 f+i - 1]'hlt=p at *
  show _/\_<=max 1 f+i+1
  generalize sV (λj s=>decide (bD ai room ws (j+1)<=mx+bD ai room ws s)) f i=g at *
  obtain ⟨rs,s⟩:=g
  dsimp only at hs ⊢
  generalize max 1 f+i=j at *
  have D5:=nq ai ws (W5 hs 1)
  have e1:j - 1+1=j:=Uq hj1
  have hlen:(ws.take (j - 1)).length=j - 1:=List.length_take_of_le (S1 hlt)
  rw [e1] at yP
  have e0:gP ai ws 0=0:=rfl
  have hsum:(if s=0 then room else 0)+av (((ws.take (j - 1)).drop (s - 1)).flatMap (piecesOf ai))+(bf ai p).length<=mx↔bD ai room ws (j+1)<=mx+bD ai room ws s:=by
   rw [zS]
   unfold bD
   rw [if_neg (VH j),T7]
   by_cases h0:s=0
   ·subst h0
    rw [if_pos rfl,if_pos rfl]
    rw [Nat.zero_sub,e0] at D5
    exact N8 _ _ _ _ _ _ D5 yP
   ·rw [if_neg h0,if_neg h0];exact N9 _ _ _ _ _ _ _ D5 yP
  have JO:((ws.take (j - 1)).drop (s - 1)=[]/\(if s=0 then room else 0)=0)↔s=j:=by
   constructor
   ·rintro ⟨h1,h2⟩
    have:=congrArg V7 h1
    rw [TN,hlen] at this
    by_cases h0:s=0
    ·rw [if_pos h0] at h2;exact absurd h2 hroom
    ·exact N_ hs h0 this
   ·rintro rfl
    exact ⟨T3 (List.length_take_le ..),if_neg (Vi hj1)⟩
  have CD:ws.take (j - 1)++[p]=ws.take j:=by
   conv=>rhs;rw [<- e1,Tz,DT,Ub]
  unfold f_ qJ
  dsimp only
  by_cases hc:s=j\/bD ai room ws (j+1)<=mx+bD ai room ws s
  ·rw [if_pos (show _\/_ from hc.elim (λh=>.inr (JO.mpr h)) λh=>.inl (hsum.mpr h)),if_pos (show _\/_ from hc.imp id decide_eq_true)]
   refine ⟨?_,SE hs⟩
   dsimp only
   rw [<- CD,List.drop_append_of_le_length (by rw [hlen];exact W5 hs 1)]
  ·rw [if_neg (show ¬ (_\/_) from λh=>hc (h.elim (λh=>.inr (hsum.mp h)) λh=>.inl (JO.mp h))),if_neg (show ¬ (_\/_) from λh=>hc (h.imp id of_decide_eq_true))]
   refine ⟨?_,Uj j⟩
   dsimp only
   rw [if_neg (Vi hj1),S4]
   have e3:(ws.take j).drop (j - 1)=[p]:=by
    rw [<- CD,List.drop_append_of_le_length (So hlen.symm),T3 (So hlen)];rfl
   rw [e3]
   rfl
noncomputable def oU (texts:List Str) (r:Nat×Nat):Str:=Sx "" ((texts.take r.2).drop r.1)
theorem kW {ai:Str} {r:Nat×Nat} (hb:1<=r.2):Bm ai ws r=oU (bz ai ws) r:=by
 obtain ⟨a,b⟩:=r
 refine fY ?_
 unfold Bm oU bz
 rw [jd,eE]
 dsimp only at hb ⊢
 obtain ⟨b',rfl⟩:∃ b',b=b'+1:=⟨b - 1,by exact Eq.symm (Uq hb)⟩
 rw [T7,List.take_succ_cons,<- Xr]
 cases a with
 | zero=>rw [Nat.zero_sub,Vx,Vx,S2,List.flatMap_map];rfl
 | succ a=>rw [T7,List.drop_succ_cons,<- List.map_drop,List.flatMap_map]
noncomputable def iR (P:Nat->Nat->Bool) (f:Nat):List (Nat×Nat):=(sV P f (5 - max 1 f)).1++[((sV P f (5 - max 1 f)).2,5)]
theorem ze {P:Nat->Nat->Bool} {f:Nat}:∀ i,∀ r∈(sV P f i).1,1<=r.2
 | 0=>λr h=>absurd h S9
 | i+1=>λr h=>by
  rw [iS] at h
  unfold qJ at h
  split at h
  ·exact ze i r h
  ·rcases Sq.mp h with h | h
   ·exact ze i r h
   ·rw [Sm.mp h];show 1<=max 1 f+i;exact WM (Nat.le_max_left _ _)
theorem w9 {ai:Str} {f:Nat} (hn:ws.length=4) (hf:f<5) (hroom:room≠0) :
  cQ mx ai (if f=0 then room else 0) (ws.drop (f - 1))=(iR (λj s=>decide (bD ai room ws (j+1)<=mx+bD ai room ws s)) f).map (oU (bz ai ws)):=by
 have hl:(ws.drop (f - 1)).length=5 - max 1 f:=by rw [TN];exact Gp hn hf
 refine ob0_2 (ID (ai:=ai) (room:=room) (mx:=mx) hn hf hroom (5 - max 1 f) (by rw [hl];exact Si _)) λh1 z! => ?_
 unfold cQ iR
 rw [hl,h1,S4]
 have h5:max 1 f+(5 - max 1 f) - 1=4:=by exact Gm hf
 rw [h5]
 congr 1
 ·exact Te λr hr=>kW (ze _ r hr)
 ·rw [SV,Vt,<- kW (r:=(_,5)) (show 1<=5 by decide)]
  rfl
theorem jx (p:Nat->Bool) (lo hi:Nat):lo<=hi->(∀ i j,lo<=i->i<=j->j<hi->p i=true->p j=true) ->
  (∀ i,lo<=i->i<bis p lo hi->p i=false)/\(∀ i,bis p lo hi<=i->i<hi->p i=true):=by
 fun_induction bis p lo hi with
 | case1 lo hi h1 h2 ih =>
  intro _ hm
  refine ob0_2 (ih (by exact fH h1) λi j a b c=>hm i j a b (by exact BQ h1 c)) λg1 g2=>?_
  have hb:=gx p lo ((lo+hi) / 2) (by exact fH h1)
  refine ⟨g1,λi hi1 hi2=>?_⟩
  by_cases h:i<(lo+hi) / 2
  ·exact g2 i hi1 h
  ·exact hm _ i (by exact fH h1) (by exact TS h) hi2 h2
 | case2 lo hi h1 h2 ih =>
  intro _ hm
  refine ob0_2 (ih (by exact B5 h1 (by assumption)) λi j a b c=>hm i j (by exact BP h1 a) b c) λg1 g2=>?_
  refine ⟨λi hi1 hi2=>?_,g2⟩
  by_cases h:(lo+hi) / 2+1<=i
  ·exact g1 i h hi2
  ·cases e:p i with
   | false=>rfl
   | true=>exact absurd (hm i ((lo+hi) / 2) hi1 (by exact VP (UI h)) (by exact F6 h1 (by assumption)) e) h2
 | case3 lo hi h1=>intro _ _;exact ⟨λi h h'=>absurd h' (Tt h),λi h h'=>absurd (TQ h h') h1⟩
theorem EK {p:Nat->Bool} {lo hi r:Nat} (hlo:lo<=r) (hhi:r<=hi) (h1:∀ i,lo<=i->i<r->p i=false) (h2:∀ i,r<=i->i<hi->p i=true):bis p lo hi=r:=by
 have hm:∀ i j,lo<=i->i<=j->j<hi->p i=true->p j=true:=λi j a b c d=>by
  by_cases h:i<r
  ·rw [h1 i a h] at d;cases d
  ·exact h2 j (by exact F4 b h) c
 refine ob0_2 (jx p lo hi (by exact R9 hlo hhi) hm) λg1 g2=>?_
 have hb:=gx p lo hi (by exact R9 hlo hhi)
 by_cases h:bis p lo hi<r
 ·have:=g2 (bis p lo hi) (Si _) (by exact Sd h hhi)
  rw [h1 _ hb.1 h] at this;cases this
 ·by_cases h':r<bis p lo hi
  ·have:=g1 r hlo h'
   rw [h2 r (Si _) (by exact Sd h' hb.2)] at this;cases this
  ·exact TU (TS h') (TS h)
structure Shape (c:Nat->Nat):Prop where
 le:∀ k,k<5->c k<=k
 mono:∀ k,k<4->c k<=c (k+1)
noncomputable abbrev Pc (c:Nat->Nat) (j s:Nat):Bool:=decide (c j<=s)
theorem uu {P Q:Nat->Nat->Bool} (h:∀ j s,j<5->s<j->P j s=Q j s) {f:Nat} (hf:f<5):∀ i,i<=5 - max 1 f->sV P f i=sV Q f i/\(sV Q f i).2<=max 1 f+i
 | 0,_=>⟨rfl,by show f<=max 1 f+0;exact Nat.le_max_right _ _⟩
 | i+1,hi=>by
  refine ob0_2 (uu h hf i (by exact Sl hi)) λe hs=>?_
  rw [iS,iS,e]
  generalize sV Q f i=z at *
  have hj:max 1 f+i<5:=by exact FZ hi
  unfold qJ
  by_cases hz:z.2=max 1 f+i
  ·rw [if_pos (.inl hz),if_pos (.inl hz)]
   exact ⟨rfl,by exact SE (So hz)⟩
  ·rw [h _ z.2 hj (by exact Tf hs hz)]
   refine ⟨rfl,?_⟩
   split
   ·exact SE hs
   ·show max 1 f+i<=_;exact Uj _
theorem jP {P Q:Nat->Nat->Bool} (h:∀ j s,j<5->s<j->P j s=Q j s) {f:Nat} (hf:f<5):iR P f=iR Q f:=by
 unfold iR
 rw [(uu h hf _ (Si _)).1]
theorem sL {ai:Str} (h:a<=b):gP ai ws a<=gP ai ws b:=by
 have:=nq ai ws h;exact Gi this
theorem kK {ai:Str} (h:a<=b):bD ai room ws a<=bD ai room ws b:=by
 unfold bD
 by_cases ha:a=0
 ·rw [if_pos ha];exact SX _
 ·rw [if_neg ha,if_neg (by exact Gg h ha)]
  have:=sL (ai:=ai) (ws:=ws) (show a - 1<=b - 1 by exact W5 h _)
  exact TZ this _
section
variable (ai:Str) (room mx:Nat) (ws:List (Str×Str))
noncomputable def jc (k:Nat):Nat:=bis (λs=>decide (bD ai room ws (k+1)<=mx+bD ai room ws s)) 0 k
theorem oY (k:Nat):(∀ s,s<jc ai room mx ws k->decide (bD ai room ws (k+1)<=mx+bD ai room ws s)=false)/\(∀ s,jc ai room mx ws k<=s->s<k->decide (bD ai room ws (k+1)<=mx+bD ai room ws s)=true):=by
 have:=jx (λs=>decide (bD ai room ws (k+1)<=mx+bD ai room ws s)) 0 k (SX _) (λi j z! h z! hp=>by
  exact decide_eq_true (R9 (of_decide_eq_true hp) (TZ (kK (ai:=ai) (room:=room) (ws:=ws) h) mx)))
 exact ⟨λs hs=>this.1 s (SX _) hs,this.2⟩
theorem Bv (k:Nat):jc ai room mx ws k<=k:=(gx _ 0 k (SX _)).2
theorem Kq {s:Nat} (h:s<k):decide (bD ai room ws (k+1)<=mx+bD ai room ws s)=decide (jc ai room mx ws k<=s):=by
 by_cases hc:jc ai room mx ws k<=s
 ·rw [decide_eq_true hc];exact (oY ai room mx ws k).2 s hc h
 ·rw [decide_eq_false hc];exact (oY ai room mx ws k).1 s (by exact UI hc)
theorem ku:Shape (jc ai room mx ws):=by
 refine ⟨λk z! => Bv ai room mx ws k,λk z! => ?_⟩
 by_cases h:jc ai room mx ws k<=jc ai room mx ws (k+1)
 ·exact h
 ·exfalso
  have hk:=Bv ai room mx ws k
  have h1:=(oY ai room mx ws k).1 (jc ai room mx ws (k+1)) (by exact UI h)
  have h2:=(oY ai room mx ws (k+1)).2 (jc ai room mx ws (k+1)) (Si _) (by exact F_ h hk)
  have h3:=of_decide_eq_false h1
  have h4:=of_decide_eq_true h2
  have:=kK (ai:=ai) (room:=room) (ws:=ws) (show k+1<=k+1+1 by exact Th _ _)
  exact h3 (R9 this h4)
end
noncomputable def cR (c:Nat->Nat) (k:Nat):List Nat:=(Sk k).filter λi=>decide (c k<=i)
noncomputable def aZ (c:Nat->Nat) (f:Nat):Nat:=bis (λi=>decide (f<c (i - 1))) (f+2) 6 - 1
theorem Dt {ai:Str} (hn:ws.length=4) (hk:k<5):vI mx (bS room (ws.map (bf ai))) k=cR (jc ai room mx ws) k:=by
 unfold vI cR
 refine List.filter_congr λi hi=>?_
 have:=Ss.mp hi
 rw [ee hn _ (by exact Uo hk _),ee hn _ (by exact Td (Sd this (S1 hk))),Kq ai room mx ws this]
theorem Eu {ai:Str} (hn:ws.length=4) (hk:k<5):cM (bS room (ws.map (bf ai))) mx k=1+k - jc ai room mx ws k:=by
 unfold cM
 congr 1
 refine EK (SX _) (Bv ai room mx ws k) (λi z! hi=>?_) (λi hi h=>?_)
 ·have:=Bv ai room mx ws k
  unfold Cx
  rw [ee hn _ (by exact Uo hk _),ee hn _ (by exact F8 hk hi this),Kq ai room mx ws (by exact Sd hi this)]
  exact decide_eq_false (by exact Nat.not_le_of_lt hi)
 ·unfold Cx
  rw [ee hn _ (by exact Uo hk _),ee hn _ (by exact Td (Sd h (S1 hk))),Kq ai room mx ws h]
  exact decide_eq_true hi
theorem nJ (p q:Nat->Bool) (lo hi:Nat):(∀ i,lo<=i->i<hi->p i=q i)->bis p lo hi=bis q lo hi:=by
 fun_induction bis p lo hi with
 | case1 lo hi h1 h2 ih =>
  intro h
  rw [ih λi a b=>h i a (by exact BQ h1 b)]
  conv=>rhs;rw [bis]
  rw [if_pos h1,if_pos (by rw [<- h _ (by exact fH h1) (by exact kC h1)];exact h2)]
 | case2 lo hi h1 h2 ih =>
  intro h
  rw [ih λi a b=>h i (by exact BP h1 a) b]
  conv=>rhs;rw [bis]
  rw [if_pos h1,if_neg (by rw [<- h _ (by exact fH h1) (by exact kC h1)];exact h2)]
 | case3 lo hi h1=>intro _;rw [bis,if_neg h1]
theorem AB {ai:Str} (hn:ws.length=4) {f:Nat} (hf:f<5):b6 (bS room (ws.map (bf ai))) mx f=aZ (jc ai room mx ws) f:=by
 unfold b6 aZ
 rw [fz,Sa,hn]
 congr 1
 refine nJ _ _ _ _ λi h1 h2=>?_
 unfold Dz
 rw [ee hn _ (by exact Td hf),ee hn _ (by exact h2)]
 have:=Kq ai room mx ws (k:=i - 1) (s:=f) (by exact Tn (Sp (Nat.le_sub_of_add_le h1)))
 rw [show i - 1+1=i by exact F1 h1] at this
 have h3:=decide_eq_decide.mp this
 exact decide_eq_decide.mpr ⟨λx=>UI λy=>Tt (h3.mpr y) (TQ (So (Vj ..)) x),λx=>TQ (So (Vj ..)) (UI λy=>Tt (h3.mp y) x)⟩
noncomputable def dW (c:Nat->Nat):Nat->List (List (Nat×Nat))
 | 0=>[[]]
 | j+1=>((4 - j,aZ c (4 - j))::(dW c j).getD (aZ c (4 - j) - (4 - j) - 1) [])::dW c j
theorem getD_map' (g:List α->List β) (hg:g []=[]) (L:List (List α)) (i:Nat):(L.map g).getD i []=g (L.getD i []):=by
 rw [SD,SD,SP]
 cases L[i]? with
 | none=>exact hg.symm
 | some x=>rfl
theorem I0 {sums:List Nat} {mx:Nat} {texts:List Str} {c:Nat->Nat} (h:∀ f,f<5->b6 sums mx f=aZ c f):∀ j,fC sums mx texts j=(dW c j).map λl=>l.map (oU texts)
 | 0=>rfl
 | j+1=>by
  rw [fC,dW,I0 h j,SV,SV,getD_map' (λl=>l.map (oU texts)) rfl,h (4 - j) (by exact Sp (Uu _ _))]
  rfl
noncomputable def i7 (c:Nat->Nat) (f k:Nat):Nat:=1+((cR c k).filter λi=>decide (i<f)).length
noncomputable def rowAt (n k:Nat):Str:=VD "." (n:Int)++⟨#[([110,97,98,99,100]:List Nat).getD k 0]⟩
noncomputable def b8 (c:Nat->Nat) (f:Nat):List Str:=(Sk 5).map λk=>rowAt (i7 c f k) k
theorem cD (n k:Nat):tl (rowAt n k)=TH n 46++[([110,97,98,99,100]:List Nat).getD k 0]:=by
 unfold rowAt
 rw [aN]
 show tl (VD ⟨#[46]⟩ _)++_=_
 rw [rN];rfl
theorem r9 (n k:Nat):"."++rowAt n k=rowAt (n+1) k:=by
 refine fY ?_
 rw [rO,cD,cD,Ut];rfl
theorem xQ (hn:1<=n) (hn2:n<=50) (hk:k<5):jX (rowAt n k):=by
 obtain ⟨m,rfl⟩:∃ m,n=m+1:=⟨n - 1,by exact Eq.symm (Uq hn)⟩
 have hl:∀ k,k<5->([110,97,98,99,100]:List Nat).getD k 0≠10/\([110,97,98,99,100]:List Nat).getD k 0≠13:=by decide
 constructor
 ·rw [cD,Ut];rfl
 ·rw [cD];intro h
  rcases Sq.mp h with h | h
  ·have:=Vh h;exact Ge this
  ·exact (hl k hk).1 (Sm.mp h).symm
 ·rw [cD];intro h
  rcases Sq.mp h with h | h
  ·have:=Vh h;exact Gd this
  ·exact (hl k hk).2 (Sm.mp h).symm
 ·rw [<- aM,cD,Sy,List.length_replicate];show _+1<=_;exact TF (R9 hn2 (Sf _ _))
theorem Shape.up {c:Nat->Nat} (S:Shape c) {a:Nat}:∀ d,a+d<5->c a<=c (a+d)
 | 0,_=>Si _
 | d+1,h=>R9 (S.up d (by exact UQ h)) (S.mono (a+d) (by exact Tn h))
theorem gW {c:Nat->Nat} (S:Shape c) {f:Nat} (hf:f<5):f+1<=aZ c f/\aZ c f<=5/\∀ k,f<k->k<5->(k<aZ c f↔c k<=f):=by
 have hb:=gx (λi=>decide (f<c (i - 1))) (f+2) 6 (by exact S5 (Uo hf _))
 refine ob0_2 (jx (λi=>decide (f<c (i - 1))) (f+2) 6 (by exact S5 (Uo hf _)) (λi j h1 h2 h3 hp=>by
  have:=of_decide_eq_true hp
  have:=S.up (a:=i - 1) (j - i) (by exact F5 h1 h2 h3)
  rw [show i - 1+(j - i)=j - 1 by exact F3 h1 h2] at this
  exact decide_eq_true (Sd (of_decide_eq_true hp) this))) λg1 g2=>?_
 unfold aZ
 refine ⟨by exact Nat.le_sub_of_add_le hb.1,by exact W_ hb.2,λk h1 h2=>?_⟩
 by_cases h:k+1<bis (λi=>decide (f<c (i - 1))) (f+2) 6
 ·have:=of_decide_eq_false (g1 (k+1) (by exact S5 (Uo h1 _)) h)
  rw [T7] at this
  exact ⟨λ_=>TS this,λ_=>Nat.lt_sub_of_add_lt h⟩
 ·have:=of_decide_eq_true (g2 (k+1) (by exact TS h) (by exact Uo h2 _))
  rw [T7] at this
  exact ⟨λx=>absurd (Nat.add_lt_of_lt_sub x) h,λx=>absurd this (Tt x)⟩
theorem qo {c:Nat->Nat}:i∈cR c k↔i<k/\c k<=i:=by
 unfold cR
 rw [WQ,Ss]
 exact ⟨λzz=>zz.elim λa b=>⟨a,of_decide_eq_true b⟩,λzz=>zz.elim λa b=>⟨a,decide_eq_true b⟩⟩
theorem xN {c:Nat->Nat} (f k:Nat):i7 c (f+1) k=i7 c f k+if f<k/\c k<=f then 1 else 0:=by
 have key:∀ l:List Nat,l.Nodup->(l.filter λi=>decide (i<f+1)).length=(l.filter λi=>decide (i<f)).length+if f∈l then 1 else 0:=by
  intro l
  induction l with
  | nil=>intro _;rfl
  | cons a l ih =>
   intro h
   refine ob0_2 (List.nodup_cons.mp h) λh1 h2=>?_
   have:=ih h2
   rw [List.filter_cons,List.filter_cons]
   by_cases ha:a=f
   ·subst ha
    rw [if_pos (decide_eq_true (by exact UI (VK _))),if_neg (by simp),S_,this,if_neg h1,if_pos (R_ ..)]
   ·have hm:(f∈a::l)↔f∈l:=by
     rw [Sh]
     exact ⟨λh=>h.elim (λe=>absurd e.symm ha) id,.inr⟩
    by_cases hlt:a<f
    ·rw [if_pos (decide_eq_true (by exact Td hlt)),if_pos (decide_eq_true hlt),S_,S_,this]
     simp only [hm];exact Vm ..
    ·rw [if_neg (by simp;exact S5 (Tf (TS hlt) (Ne.symm ha))),if_neg (by simp;exact TS hlt),this]
     simp only [hm]
 unfold i7
 rw [key (cR c k) (List.nodup_range.sublist List.filter_sublist)]
 have e:(f∈cR c k)↔(f<k/\c k<=f):=qo
 simp only [e]
 exact (UJ ..).symm
theorem vm {c:Nat->Nat} (S:Shape c) {f:Nat} (hf:f<5):oA f (aZ c f:Int) (b8 c f)=b8 c (f+1):=by
 refine ob0_3 (gW S hf) λh1 h2 h3=>?_
 have hk:∀ k,k<5->(if f<k/\(k:Int)<(aZ c f:Int) then "."++rowAt (i7 c f k) k else rowAt (i7 c f k) k)=rowAt (i7 c (f+1) k) k:=by
  intro k hk
  rw [xN]
  by_cases hc:f<k/\c k<=f
  ·rw [if_pos (show f<k/\(k:Int)<(aZ c f:Int) from ⟨hc.1,Ul.mpr ((h3 k hc.1 hk).mpr hc.2)⟩),if_pos hc,r9]
  ·rw [if_neg (show ¬ (f<k/\(k:Int)<(aZ c f:Int)) from λh=>hc ⟨h.1,(h3 k h.1 hk).mp (Ul.mp h.2)⟩),if_neg hc];rfl
 have e:∀ g:Nat->Str,oA f (aZ c f:Int) ((Sk 5).map g)=(Sk 5).map λk=>if f<k/\(k:Int)<(aZ c f:Int) then "."++g k else g k:=λg=>rfl
 unfold b8
 rw [e]
 exact Te λk h=>hk k (Ss.mp h)
theorem EE (c:Nat->Nat) (k:Nat):i7 c 0 k=1:=by
 unfold i7
 have:((cR c k).filter λi=>decide (i<0))=[]:=List.filter_eq_nil_iff.mpr λi z! => by simp
 rw [this];rfl
theorem Df (c:Nat->Nat):b8 c 0=t_:=by
 have h:∀ k,rowAt 1 k="."++⟨#[([110,97,98,99,100]:List Nat).getD k 0]⟩:=λk=>fY (by rw [cD,rO];rfl)
 have e:b8 c 0=(Sk 5).map λk=>"."++(⟨#[([110,97,98,99,100]:List Nat).getD k 0]⟩:Str):=by
  unfold b8
  exact Te λk z! => by rw [EE,h]
 rw [e];rfl
theorem xd {ai:Str} (hi:dI ai) {p:Str×Str} (h:Wd ai p):(tl (bf ai p)).count 59=1:=by
 unfold bf
 rw [aN,aN,aN,WY,WY,WY]
 have e1:(tl p.1).count 59=0:=List.count_eq_zero.mpr λhm=>by have:=h.f1 59 hm;exact FY this
 have e2:(tl p.2).count 59=0:=List.count_eq_zero.mpr λhm=>by have:=h.f2 59 hm;exact FW this
 have e3:(tl ai).count 59=0:=by rcases hi with rfl | rfl <;> rfl
 rw [e1,e2,e3];rfl
theorem xO {ai:Str} (hi:dI ai):∀ {us:List (Str×Str)},(∀ p∈us,Wd ai p)->(tl (rowOf ai us)).count 59=us.length:=by
 intro us
 rw [jd]
 induction us with
 | nil=>intro _;rfl
 | cons p us ih =>
  intro h
  rw [S2,WY,xd hi (h p (R_ ..)),ih λq hq=>h q (Sb _ hq),S_,Vj]
noncomputable def Bw (a b c d:Nat) (k:Nat):Nat:=([0,a,b,c,d]:List Nat).getD k 0
theorem oZ {c e:Nat->Nat} (h:∀ k,k<5->c k=e k) (f:Nat):aZ c f=aZ e f:=by
 unfold aZ
 congr 1
 refine nJ _ _ _ _ λi h1 h2=>?_
 rw [h (i - 1) (by exact Sp (W_ (VP h2)))]
theorem jS {c e:Nat->Nat} (h:∀ k,k<5->c k=e k) (hk:k<5):cR c k=cR e k:=by
 unfold cR
 rw [h k hk]
theorem EF {c:Nat->Nat} (S:Shape c):∀ k,k<5->c k=Bw (c 1) (c 2) (c 3) (c 4) k:=by
 exact k_ (k_ (k_ (k_ (k_ ltZ (Nat.eq_zero_of_le_zero (S.le 0 (Xb _)))) rfl) rfl) rfl) rfl
theorem dX {p:(Nat->Nat)->Bool} (h:(Sk 2).all λa=>(Sk 3).all λb=>(Sk 4).all λc=>(Sk 5).all λd => !(decide (a<=b) && decide (b<=c) && decide (c<=d)) || p (Bw a b c d))
  {c:Nat->Nat} (S:Shape c):p (Bw (c 1) (c 2) (c 3) (c 4))=true:=by
 have m:=S.mono
 have l:=S.le
 have h1:=Ui.mp h (c 1) (Ss.mpr (by have:=l 1 (by exact Sp (Sf _ _));exact Sp this))
 have h2:=Ui.mp h1 (c 2) (Ss.mpr (by have:=l 2 (by exact Sp (Sf _ _));exact Sp this))
 have h3:=Ui.mp h2 (c 3) (Ss.mpr (by have:=l 3 (by exact Sp (Sf _ _));exact Sp this))
 have h4:=Ui.mp h3 (c 4) (Ss.mpr (by have:=l 4 (by exact UI (VK _));exact Sp this))
 rw [decide_eq_true (m 1 (by exact Sp (Sf _ _))),decide_eq_true (m 2 (by exact Sp (Sf _ _))),decide_eq_true (m 3 (by exact UI (VK _)))] at h4
 exact h4
noncomputable def qX (c:Nat->Nat) (f:Nat):Nat:=((Sk 5).find? λk=>decide (f<k) && decide (f<c k)).getD 5
theorem Dg {c:Nat->Nat} (S:Shape c) {f:Nat} (hf:f<5):aZ c f=qX c f:=by
 refine ob0_3 (gW S hf) λh1 h2 h3=>?_
 unfold qX
 cases h:(Sk 5).find? λk=>decide (f<k) && decide (f<c k) with
 | none =>
  rw [List.find?_eq_none] at h
  show aZ c f=5
  by_cases h4:f=4
  ·exact FU h1 h2 h4
  ·have:=h 4 (Ss.mpr (by decide))
   simp at this
   have:=(h3 4 (by exact Tf (VP hf) h4) (by decide)).mpr (this (by exact Tf (VP hf) h4))
   exact TU h2 (S5 this)
 | some k =>
  rw [List.find?_range_eq_some] at h
  refine ob0_3 h λg1 g2 g3=>?_
  have hk:=Ss.mp g2
  simp at g1
  show aZ c f=k
  have:=h3 k g1.1 hk
  have hle:aZ c f<=k:=TS λx=>Tt (this.mp x) g1.2
  by_cases h4:k=f+1
  ·exact TU hle (h4▸h1)
  ·have g:=g3 (k - 1) (by exact FQ g1 h4)
   simp at g
   rcases g with g | g
   ·exact FP g1 h4 g
   ·have:=(h3 (k - 1) (by exact Nat.lt_sub_of_add_lt (Tf (S5 g1.1) (Ne.symm h4))) (by exact TQ (Uu _ _) hk)).mpr g
    exact TU hle (Nat.le_of_pred_lt this)
noncomputable def jM (R:Nat->Nat):Nat->List (List (Nat×Nat))
 | 0=>[[]]
 | j+1=>((4 - j,R (4 - j))::(jM R j).getD (R (4 - j) - (4 - j) - 1) [])::jM R j
theorem uc {c:Nat->Nat} {R:Nat->Nat} (h:∀ f,f<5->aZ c f=R f):∀ j,dW c j=jM R j
 | 0=>rfl
 | j+1=>by rw [dW,jM,uc h j,h (4 - j) (by exact Sp (Uu _ _))]
noncomputable def d8 (c:Nat->Nat):List Nat:=(Sk 5).map λk=>1+k - c k
noncomputable def cB (c:Nat->Nat):List (List Nat):=(Sk 5).map (cR c)
noncomputable def EH (tl:List Nat) (z:Nat×Nat) (i:Nat):Nat×Nat:=if i∈tl then (2 * z.1+1,z.2+1) else (2 * z.1,z.2)
noncomputable def AI (k:Nat) (e:List Nat) (o:List Nat×(Nat×Nat)) (p:Nat):List Nat×(Nat×Nat):=(o.1.take p++[k]++o.1.drop p,e.foldl (EH (o.1.drop p)) o.2)
noncomputable def vC (near:List (List Nat)):Nat->List (List Nat×(Nat×Nat))
 | 0=>[([],(1,0))]
 | k+1=>(vC near k).flatMap λo=>(Sk (k+1)).map (AI k (near.getD k []) o)
noncomputable def d9 (acc:List (Nat×Nat)) (y:Nat×Nat):List (Nat×Nat):=if acc.any (λz=>Nat.beq z.1 y.1) then acc else y::acc
noncomputable def mX (near:List (List Nat)):List Nat:=(((vC near 5).map (·.2)).foldl d9 []).map (·.2)
noncomputable def oh:Nat->List (List Nat)
 | 0=>[[]]
 | k+1=>(oh k).flatMap λo=>(Sk (k+1)).map λp=>o.take p++[k]++o.drop p
noncomputable def qY (z:Nat×Nat) (d:Nat):Nat×Nat:=if d=49 then (2 * z.1+1,z.2+1) else (2 * z.1,z.2)
noncomputable def gg (l:List Nat):Nat×Nat:=l.foldl qY (1,0)
noncomputable def KG (l:List Nat):Prop:=∀ d∈l,d=48\/d=49
theorem uq (l:List Nat) (d:Nat):gg (l++[d])=qY (gg l) d:=by
 unfold gg;rw [U9];rfl
theorem zb (l:List Nat):(gg l).2=l.count 49:=by
 have:∀ (l:List Nat) (z:Nat×Nat),(l.foldl qY z).2=z.2+l.count 49:=by
  intro l
  induction l with
  | nil=>intro z;rfl
  | cons d l ih =>
   intro z
   rw [Vk,ih]
   unfold qY
   by_cases h:d=49
   ·subst h;rw [if_pos rfl,List.count_cons_self];show z.2+1+_=_;exact Vm _ _ _
   ·rw [if_neg h,List.count_cons_of_ne h]
 have:=this l (1,0)
 rw [UP] at this
 exact this
theorem xg (h1:a=2 * b+c) (h2:a=1) (h3:1<=b):False :=
 absurd (R9 (R9 (Nat.mul_le_mul_left 2 h3) (Th _ _)) (So (h1.symm.trans h2))) (VK 1)
theorem C5 (hc:c / 2=0) (hd:d / 2=0) (h:2 * a+c=2 * b+d):a=b:=by
 have e:(2 * a+c) / 2=(2 * b+d) / 2:=congrArg (· / 2) h
 rw [Nat.mul_add_div (Nat.zero_lt_succ 1),Nat.mul_add_div (Nat.zero_lt_succ 1),hc,hd] at e
 exact e
theorem Ei:∀ n,∀ a b:List Nat,a.length<=n->KG a->KG b->(gg a).1=(gg b).1->a=b:=by
 have pos:∀ (l:List Nat) (z:Nat×Nat),1<=z.1->1<=(l.foldl qY z).1:=by
  intro l
  induction l with
  | nil=>intro z h;exact h
  | cons d l ih =>
   intro z h
   rw [Vk]
   refine ih _ ?_
   unfold qY;split
   ·show 1<=2 * z.1+1;exact Sf _ _
   ·show 1<=2 * z.1;exact FL h
 have hp:∀ l,1<=(gg l).1:=λl=>pos l _ (Si 1)
 have hb:∀ (l:List Nat) (d:Nat),(gg (l++[d])).1=2 * (gg l).1+if d=49 then 1 else 0:=λl d=>by
  rw [uq];unfold qY;split <;> rfl
 intro n
 induction n with
 | zero =>
  intro a b ha _ hB h
  have:a=[]:=VQ.mp (by exact Nat.eq_zero_of_le_zero ha)
  subst this
  rcases Wm b with rfl | ⟨b',d,rfl⟩
  ·rfl
  ·rw [Wn,hb] at h
   exact (xg h rfl (hp b')).elim
 | succ n ih =>
  intro a b ha hA hB h
  rcases Wm a with rfl | ⟨a',x,rfl⟩
  ·exact ih [] b (SX _) hA hB h
  ·rw [Wn] at *
   rcases Wm b with rfl | ⟨b',y,rfl⟩
   ·rw [hb] at h
    exact (xg h.symm rfl (hp a')).elim
   ·rw [Wn] at *
    rw [hb,hb] at h
    rw [Sy] at ha
    have hx:=hA x (Sq.mpr (.inr (Sm.mpr rfl)))
    have hy:=hB y (Sq.mpr (.inr (Sm.mpr rfl)))
    have e:=ih a' b' (by have:[x].length=1:=rfl;exact FJ ha this) (λd hd=>hA d (Sq.mpr (.inl hd))) (λd hd=>hB d (Sq.mpr (.inl hd))) (C5 (by split <;> rfl) (by split <;> rfl) h)
    subst e
    have:x=y:=by
     rcases hx with rfl | rfl <;> rcases hy with rfl | rfl
     ·rfl
     ·simp at h
     ·simp at h
     ·rfl
    rw [this]
theorem uJ (t e:List Nat):tl (Sx "" (e.map (cU t)))=e.map λi=>if i∈t then 49 else 48:=by
 rw [eE]
 induction e with
 | nil=>rfl
 | cons i e ih =>
  rw [SV,SV,S2,ih]
  unfold cU
  split <;> rfl
theorem Bx (t:List Nat):∀ (e l:List Nat),gg (l++e.map λi=>if i∈t then 49 else 48)=e.foldl (EH t) (gg l):=by
 intro e
 induction e with
 | nil=>intro l;rw [Vt,SI];rfl
 | cons i e ih =>
  intro l
  rw [SV,Vk,List.append_cons,ih,uq]
  congr 1
  unfold qY EH
  split
  ·rw [if_pos rfl]
  ·rw [if_neg (by decide)]
noncomputable def MY (o:Ord):List Nat×(Nat×Nat):=(o.1,gg (tl o.2))
theorem Cr (near:List (List Nat)):∀ k,(aQ near k).map MY=vC near k
 | 0=>rfl
 | k+1=>by
  rw [aQ,vC,<- Cr near k,b5,List.map_flatMap,List.flatMap_map]
  congr 1
  funext o
  rw [S3]
  refine Te λp z! => ?_
  show (_,gg (tl (o.2++_)))=(_,_)
  rw [aN,uJ,Bx]
  rfl
theorem AH:∀ o∈aQ near k,KG (tl o.2):=by
 induction k with
 | zero=>intro o h;rw [aQ] at h;cases Sm.mp h;exact λd hd=>absurd hd S9
 | succ k ih =>
  intro o h
  rw [aQ,b5] at h
  refine ob1_2 (Sw.mp h) λo' h1 h2=>?_
  refine ob1_2 (SN.mp h2) λp hp az=>?_;obtain rfl:=az
  have:=ih o' h1
  intro d hd
  rw [show (cT k (near.getD k []) o' p).2=o'.2++Sx "" ((near.getD k []).map (cU (o'.1.drop p))) from rfl,aN,uJ] at hd
  rcases Sq.mp hd with hd | hd
  ·exact this d hd
  ·refine ob1_2 (SN.mp hd) λi z! az=>?_;obtain rfl:=az
   split
   ·exact .inr rfl
   ·exact .inl rfl
theorem qh (near:List (List Nat)):∀ k,(aQ near k).map (·.1)=oh k
 | 0=>rfl
 | k+1=>by
  rw [aQ,oh,<- qh near k,b5,List.map_flatMap,List.flatMap_map]
  congr 1
  funext o
  rw [S3]
  rfl
theorem Bl:∀ (xs acc:List Str),(∀ x∈xs,KG (tl x))->(∀ x∈acc,KG (tl x)) ->
  (xs.map λx=>gg (tl x)).foldl d9 (acc.map λx=>gg (tl x)).reverse=((xs.foldl ig acc).map λx=>gg (tl x)).reverse:=by
 intro xs
 induction xs with
 | nil=>intro acc _ _;rfl
 | cons x xs ih =>
  intro acc h1 h2
  have hx:=h1 x (R_ ..)
  rw [SV,Vk,Vk]
  have e:d9 (acc.map λx=>gg (tl x)).reverse (gg (tl x))=((ig acc x).map λx=>gg (tl x)).reverse:=by
   unfold d9 ig
   by_cases hm:x∈acc
   ·rw [if_pos hm,if_pos]
    rw [List.any_eq_true]
    exact ⟨gg (tl x),Wa.mpr (SN.mpr ⟨x,hm,rfl⟩),Nat.beq_refl _⟩
   ·rw [if_neg hm,if_neg,S4,List.reverse_append]
    ·rfl
    ·rw [List.any_eq_true]
     rintro ⟨z,hz,hb⟩
     refine ob1_2 (SN.mp (Wa.mp hz)) λy hy az=>?_;obtain rfl:=az
     have:=Ei _ _ _ (Si _) (h2 y hy) hx (Nat.eq_of_beq_eq_true hb)
     rw [fY this] at hy
     exact hm hy
  rw [e]
  refine ih _ (λy hy=>h1 y (Sb _ hy)) λy hy=>?_
  unfold ig at hy
  split at hy
  ·exact h2 y hy
  ·rcases Sq.mp hy with hy | hy
   ·exact h2 y hy
   ·rw [Sm.mp hy];exact hx
theorem An (near:List (List Nat)) (k:Nat):(iJ near).count (k:Int)=(mX near).count k:=by
 have hd:=Bl (bT near) [] (λx hx=>by
  refine ob1_2 (SN.mp hx) λo ho az=>?_;obtain rfl:=az
  exact AH o ho) (λx hx=>absurd hx S9)
 have hm:(bT near).map (λx=>gg (tl x))=(vC near 5).map (·.2):=by
  rw [<- Cr near 5,S3]
  unfold bT
  rw [S3];rfl
 rw [hm] at hd
 have hd':((vC near 5).map (·.2)).foldl d9 []=((b9 (bT near)).map λx=>gg (tl x)).reverse:=hd
 unfold mX iJ
 rw [hd',List.map_reverse,List.count_reverse,S3]
 generalize b9 (bT near)=ys
 induction ys with
 | nil=>rfl
 | cons y ys ih =>
  have e:Vb y "1"=((gg (tl y)).2:Int):=by
   rw [zb];exact jv y 49
  have hq:(if Vb y "1" == (k:Int) then 1 else 0:Nat)=if (gg (tl y)).2 == k then 1 else 0:=by
   rw [e]
   by_cases h:(gg (tl y)).2=k
   ·rw [h,if_pos (beq_self_eq_true _),if_pos (beq_self_eq_true _)]
   ·have h1:¬((((gg (tl y)).2:Int) == (k:Int))=true):=λhh=>h (Int.ofNat_inj.mp (U0 hh))
    have h2:¬(((gg (tl y)).2 == k)=true):=λhh=>h (U0 hh)
    rw [if_neg h1,if_neg h2]
  rw [SV,SV,List.count_cons,List.count_cons,ih]
  exact congrArg (_ + ·) hq
noncomputable def tD (e:Nat->Nat):Bool:=((Sk 5).all λf=>decide (iR (Pc e) f=(jM (qX e) 5).getD f []) && decide (((jM (qX e) 5).getD f []).head? = some (f,qX e f))) && decide ((Sk 5).map (λk=>1+(cR e k).length)=d8 e) && (d8 e).all λx=>decide (1<=x) && decide (x<=5)
noncomputable def zF (e:Nat->Nat):Bool:=decide ((Sk 5).map (λf=>(((jM (qX e) 5).getD f []).length:Int))=(Sk 5).map (oB (cB e)))
noncomputable def zG (e:Nat->Nat):Bool:=decide (((Sk 11).map λk=>(mX (cB e)).count k)=bN (d8 e) 5++TH (11 - (bN (d8 e) 5).length) 0)
noncomputable def zE (e:Nat->Nat):Bool:=((!decide ((oh 5).filter (n8 (cB e))=[])) == decide (2<yq (((d8 e).drop 2).map λc:Nat=>(c:Int))))
noncomputable def CO (e:Nat->Nat):Bool:=(Sk 6).all λi=>(bN (d8 e) i).all (λx=>decide (x<=1000000)) && decide (1<=(bN (d8 e) i).length) && decide ((bN (d8 e) i).length<=11)
structure BJ (c:Nat->Nat):Prop where
 rows:∀ f,f<5->iR (Pc c) f=(dW c 5).getD f []
 head:∀ f,f<5->((dW c 5).getD f []).head? = some (f,aZ c f)
 most:(Sk 5).map (λf=>(((dW c 5).getD f []).length:Int))=(Sk 5).map (oB (cB c))
 turn:((Sk 11).map λ(k:Nat)=>(iJ (cB c)).count (k:Int))=bN (d8 c) 5++TH (11 - (bN (d8 c) 5).length) 0
 lim:∀ i,i<=5->(∀ x∈bN (d8 c) i,x<=1000000)/\1<=(bN (d8 c) i).length/\(bN (d8 c) i).length<=11
 ring:(!decide ((aQ (cB c) 5).filter (λo=>n8 (cB c) o.1)=[]))=decide (2<yq (((d8 c).drop 2).map λc:Nat=>(c:Int)))
 dots:(Sk 5).map (λk=>1+(cR c k).length)=d8 c
 cs:∀ x∈d8 c,1<=x/\x<=5
theorem Br {c:Nat->Nat} (S:Shape c):tD (Bw (c 1) (c 2) (c 3) (c 4))=true:=dX (p:=tD) (by decide +kernel) S
theorem Bt {c:Nat->Nat} (S:Shape c):zF (Bw (c 1) (c 2) (c 3) (c 4))=true:=dX (p:=zF) (by decide +kernel) S
theorem Bu {c:Nat->Nat} (S:Shape c):zG (Bw (c 1) (c 2) (c 3) (c 4))=true:=dX (p:=zG) (by decide +kernel) S
theorem Bs {c:Nat->Nat} (S:Shape c):zE (Bw (c 1) (c 2) (c 3) (c 4))=true:=dX (p:=zE) (by decide +kernel) S
theorem EC {c:Nat->Nat} (S:Shape c):CO (Bw (c 1) (c 2) (c 3) (c 4))=true:=dX (p:=CO) (by decide +kernel) S
theorem kT {c:Nat->Nat} (S:Shape c):BJ c:=by
 have E:=EF S
 have k1:=Br S
 have k2:=Bt S
 have k3:=Bu S
 have k4:=Bs S
 have k5:=EC S
 generalize Bw (c 1) (c 2) (c 3) (c 4)=e at *
 have Se:Shape e:=⟨λk hk=>by rw [<- E k hk];exact S.le k hk,λk hk=>by rw [<- E k (by exact Td hk),<- E (k+1) (by exact Uo hk _)];exact S.mono k hk⟩
 have hR:∀ f,f<5->aZ c f=qX e f:=λf hf=>by rw [oZ E,Dg Se hf]
 have hL:dW c 5=jM (qX e) 5:=uc hR 5
 have hN:cB c=cB e:=Te λk hk=>jS E (Ss.mp hk)
 have hC:d8 c=d8 e:=Te λk hk=>by rw [E k (Ss.mp hk)]
 have hG:∀ f,f<5->iR (Pc c) f=iR (Pc e) f:=λf hf=>jP (λj s hj z! => by show decide (c j<=s)=decide (e j<=s);rw [E j hj]) hf
 unfold tD at k1
 refine ob0_2 (Tp.mp k1) λk1 P9=>?_
 refine ob0_2 (Tp.mp k1) λQa P_=>?_
 have hf:=λf hf=>Tp.mp (Ui.mp Qa f (Ss.mpr hf))
 refine ⟨λf h=>?_,λf h=>?_,?_,?_,λi hi=>?_,?_,?_,λx hx=>?_⟩
 ·rw [hG f h,hL];exact of_decide_eq_true (hf f h).1
 ·rw [hL,hR f h];exact of_decide_eq_true (hf f h).2
 ·rw [hL,hN];exact of_decide_eq_true k2
 ·rw [hN,hC,<- of_decide_eq_true k3]
  exact Te λk z! => An _ k
 ·rw [hC]
  have:=Ui.mp k5 i (Ss.mpr (by exact Sp hi))
  refine ob0_2 (Tp.mp this) λh1 h2=>?_
  refine ob0_2 (Tp.mp h1) λh0 h1=>?_
  exact ⟨λx hx=>of_decide_eq_true (Ui.mp h0 x hx),of_decide_eq_true h1,of_decide_eq_true h2⟩
 ·rw [hN,hC]
  rewrite [<- beq_iff_eq.mp k4,<- qh (cB e) 5]
  congr 1
  refine decide_eq_decide.mpr ?_
  rw [List.filter_map,List.map_eq_nil_iff]
  exact Iff.rfl
 ·rw [hC,<- of_decide_eq_true P_]
  exact Te λk hk=>by rw [jS E (Ss.mp hk)]
 ·rw [hC] at hx
  refine ob0_2 (Tp.mp (Ui.mp P9 x hx)) λh1 h2=>?_
  exact ⟨of_decide_eq_true h1,of_decide_eq_true h2⟩
section
variable {K:Frag}
noncomputable def dz (ai:Str) (room mx:Nat) (ws:List (Str×Str)) (f:Nat):List Str:=((dW (jc ai room mx ws) 5).getD f []).map (oU (bz ai ws))
theorem nA {ai:Str} {f:Nat} (hf:f<5):(dz ai room mx ws f)[0]? = some (oU (bz ai ws) (f,aZ (jc ai room mx ws) f)):=by
 have h:=(kT (ku ai room mx ws)).head f hf
 unfold dz
 rw [SP,<- List.head?_eq_getElem?,h];rfl
theorem BB:∀ f,f<5->∀ r,r<6->f+1<=r->max 1 f+(min (r - 1) 4 - (f - 1))=r:=by decide
theorem EM {ai:Str} (hn:ws.length=4) (hi:dI ai) (hw:∀ p∈ws,Wd ai p) {f:Nat} (hf:f<5) :
  iK f (dz ai room mx ws f)=(aZ (jc ai room mx ws) f:Int):=by
 refine ob0_3 (gW (ku ai room mx ws) hf) λh1 h2 z! => ?_
 have h0:=nA (ai:=ai) (room:=room) (mx:=mx) (ws:=ws) hf
 unfold iK
 rw [SD,h0,Option.getD_some,<- kW (by show 1<=_;exact R9 (Sf _ _) h1),show (";":Str)=⟨#[59]⟩ from rfl,jv]
 unfold Bm
 dsimp only
 rw [xO hi λp hp=>hw p (Vp (Vo hp)),TN,Wc,hn]
 exact (Int.natCast_add ..).symm.trans (congrArg _ (BB f hf _ (Sp h2) h1))
theorem Ao (MZ:eX G K) (ye:wC G) {d0 d1:Nat} (hn:ws.length=4) (hw:∀ p∈ws,Wd (aJ d0) p) (hh:∀ p,ws[0]? = some p->p.2.cps[0]? = some 97) {f:Nat} (hf:f<5) :
  TurnOk G (g7 d1) ws (aL d1) (aJ d0) (di d0) (aH d0) (dz (aJ d0) (aL d1) (aH d0) ws) (b8 (jc (aJ d0) (aL d1) (aH d0) ws)) f:=by
 have S:=ku (aJ d0) (aL d1) (aH d0) ws
 have K:=kT S
 have he:(g7 d1).getD f ""=jL d1 f:=by
  unfold g7
  rw [SD,SP,VV hf];rfl
 have hroom:aL d1≠0:=by unfold aL;exact Vi (Tn (Sp (Th _ _)))
 have DR:aL d1<=7:=by unfold aL;exact FT
 have Jq:∀ r∈b8 (jc (aJ d0) (aL d1) (aH d0) ws) f,jX r:=λr hr=>by
  unfold b8 at hr
  refine ob1_2 (SN.mp hr) λk hk az=>?_;obtain rfl:=az
  have ug:=Ss.mp hk
  refine xQ ?_ ?_ ug
  ·unfold i7;exact Th _ _
  ·unfold i7 cR
   have h1:=Wi (λi=>decide (i<f)) ((Sk k).filter λi=>decide (jc (aJ d0) (aL d1) (aH d0) ws k<=i))
   have h2:=Wi (λi=>decide (jc (aJ d0) (aL d1) (aH d0) ws k<=i)) (Sk k)
   rw [To] at h2
   exact FO ug h1 h2
 have h5:(b8 (jc (aJ d0) (aL d1) (aH d0) ws) f).length=5:=by unfold b8;rw [Sa,To]
 constructor
 ·intro m
  rw [he]
  have W:BI (aH d0) (di d0) (aJ d0) (if f=0 then aL d1 else 0) (ws.drop (f - 1)):=by
   refine ⟨rT d0,yI d0,λp hp=>hw p (Vo hp),by rw [TN];exact R9 (Uu _ _) (So hn),by split;exact R9 DR (Sz rfl);exact SX _,λhk p hp=>?_⟩
   by_cases h0:f=0
   ·subst h0;exact hh p hp
   ·rw [if_neg h0] at hk;exact absurd rfl hk
  have:=A_ MZ ye W (λh=>by have:=congrArg V7 h;rw [TN] at this;simp at this;exact FN hn hf this) (s_ d1 f) (m5 d0).1 (m5 d0).2 m
  rw [w9 hn hf hroom,jP (Q:=Pc (jc (aJ d0) (aL d1) (aH d0) ws)) (λj s z! hs=>Kq _ _ _ _ hs) hf,K.rows f hf] at this
  exact this
 ·have h0:=nA (ai:=aJ d0) (room:=aL d1) (mx:=aH d0) (ws:=ws) hf
  rw [SD,h0];rfl
 ·exact h5
 ·exact λr hr=>by have:=(Jq r hr).l;exact SE this
 ·rw [he]
  rcases s_ d1 f with h | h | h <;> rw [h] <;> decide
 ·rw [he,EM hn (rT d0).ai hw hf]
  refine ob1_4 (vG (f:=f) (b:=(aZ (jc (aJ d0) (aL d1) (aH d0) ws) f:Int)) h5 Jq (s_ d1 f)) λT t1 t2 t3 t4=>?_
  exact ⟨T,t1,t2,t3,by rw [<- t4,vm S hf]⟩
end
section
variable {K:Frag}
theorem xP (hk:k<5):Vb (rowAt n k) "."=(n:Int):=by
 rw [show (".":Str)=⟨#[46]⟩ from rfl,jv,cD,WY,List.count_replicate_self]
 have:∀ k,k<5->[([110,97,98,99,100]:List Nat).getD k 0].count 46=0:=by decide
 rw [this k hk,Nat.add_zero]
theorem zI {c:Nat->Nat} (hk:k<5):i7 c 5 k=1+(cR c k).length:=by
 unfold i7
 rw [VX.mpr λi hi=>decide_eq_true (by have:=(qo.mp hi).1;exact Sd this (S1 hk))]
theorem xm {ai:Str} (hi:dI ai) (hw:∀ p∈ws,Wd ai p):∀ t∈bz ai ws,∀ d∈tl t,d<200:=by
 intro t ht d hd
 unfold bz at ht
 rcases Sh.mp ht with rfl | ht
 ·exact absurd hd S9
 ·refine ob1_2 (SN.mp ht) λp hp az=>?_;obtain rfl:=az
  exact (mW hi (hw p hp) d hd).elim (λh=>h▸(by decide:32<200)) λh=>h.elim (λh=>h▸(by decide:59<200)) λh=>TQ h.2 (by decide)
theorem yd (h:∀ d∈tl x,d<200):T4 x=true:=by
 unfold T4
 rw [Wv]
 intro d hd
 have:=h d (Array.mem_toList_iff.mpr hd)
 exact decide_eq_true (by exact Sd this (Sf _ _))
theorem text_len {ai:Str} (hi:dI ai) (hw:∀ p∈ws,Wd ai p):∀ t∈bz ai ws,t.length<=100:=by
 intro t ht
 unfold bz at ht
 rcases Sh.mp ht with rfl | ht
 ·exact SX _
 ·refine ob1_2 (SN.mp ht) λp hp az=>?_;obtain rfl:=az
  have:=nR hi (hw p hp);exact R9 this (Sf _ _)
theorem nI (c:Nat->Nat):∀ j,(dW c j).length=j+1
 | 0=>rfl
 | j+1=>by rw [dW,S_,nI c j]
theorem sN (L:List (List α)) (h:L.length=6):(Sk 5).map (λf=>L.getD f [])=L.take 5:=by
 refine ob2_2 (eG h) λa r1 az k1=>?_;obtain rfl:=az
 refine ob2_2 (eG k1) λb r2 az k2=>?_;obtain rfl:=az
 refine ob2_2 (eG k2) λc r3 az k3=>?_;obtain rfl:=az
 refine ob2_2 (eG k3) λd r4 az k4=>?_;obtain rfl:=az
 refine ob2_2 (eG k4) λe r5 az k5=>?_;obtain rfl:=az
 rfl
theorem DC (ok:mR G) (E5:l5 G) (KL:Ld G) (MZ:eX G K) (ye:wC G) (KN:BL G) (script:List Int) :
  FC G EZ (n+11) [.lst (script.map .int)] (.bool true):=by
 refine ob2_1 ok.fn λpm code fn=>?_
 refine FC.of fn (names:=["script"]) (ps':=[.lst (script.map .int)]) (λs W vs iv r=>?_) rfl (Tv.mpr (.inl rfl)) (λA W s L' hA=>?_)
 ·refine ob1_2 r.one λa aB r1=>?_;obtain rfl:=aB
  exact ⟨[a],Uy rfl,r⟩
 refine Jc (n:=n+10) ok λd0 d1 v0 v1 v2 v3=>?_
 refine Jb ok λwords oJ=>?_
 have hn:words.length=4:=by rw [oJ];rfl
 have hi:dI (aJ d0):=(rT d0).ai
 have hw:∀ p∈words,Wd (aJ d0) p:=by
  rw [oJ]
  intro p hp
  simp only [Sh,S9,or_false] at hp
  rcases hp with rfl | rfl | rfl | rfl
  ·exact j4 _ (by decide)
  ·exact j4 _ (by decide)
  ·exact j4 _ (by decide)
  ·exact j4 _ (by decide)
 have hh:∀ p,words[0]? = some p->p.2.cps[0]? = some 97:=by
  rw [oJ]
  intro p hp
  cases hp
  exact u9 (k:=0)
 clear oJ
 have K2:(bz (aJ d0) words).length=5:=by unfold bz;rw [S_,Sa,hn]
 have hdr:(bz (aJ d0) words).drop 1=words.map (bf (aJ d0)):=rfl
 have Qw:(bS (aL d1) (words.map (bf (aJ d0)))).length=6:=by rw [fz,Sa,hn]
 refine Ja ok K2 ?_
 rw [hdr]
 have hT:=λf (hf:f<5)=>Ao (d1:=d1) MZ ye hn hw hh hf
 have Jw:(Sk 5).map (vI (aH d0) (bS (aL d1) (words.map (bf (aJ d0)))))=cB (jc (aJ d0) (aL d1) (aH d0) words):=Te λk hk=>Dt hn (Ss.mp hk)
 have JP:∀ k,k<5->cM (bS (aL d1) (words.map (bf (aJ d0)))) (aH d0) k=1+k - jc (aJ d0) (aL d1) (aH d0) words k:=λk hk=>Eu hn hk
 have QG:=I0 (texts:=bz (aJ d0) words) (λf hf=>AB (ai:=aJ d0) (room:=aL d1) (mx:=aH d0) hn hf) 5
 rw [Jw]
 have S:=ku (aJ d0) (aL d1) (aH d0) words
 have SK:=kT S
 have JL:(Sk 5).map (dz (aJ d0) (aL d1) (aH d0) words)=((dW (jc (aJ d0) (aL d1) (aH d0) words) 5).take 5).map λl=>l.map (oU (bz (aJ d0) words)):=by
  rw [<- sN _ (nI _ 5),S3];rfl
 refine I_ (n:=n) ok ye KL (by unfold g7;rw [Sa,To]) (Df _) hT ?_
 have hfl:((Sk 5).map (dz (aJ d0) (aL d1) (aH d0) words)).map (λr=>(r.length:Int))=(Sk 5).map λf=>(((dW (jc (aJ d0) (aL d1) (aH d0) words) 5).getD f []).length:Int):=by
  rw [S3]
  refine Te λf z! => ?_
  show ((dz _ _ _ _ f).length:Int)=_
  unfold dz;rw [Sa]
 have hfo:∀ r∈(Sk 5).map (dz (aJ d0) (aL d1) (aH d0) words),∀ x∈r,T4 x=true:=by
  intro r hr x hx
  refine ob1_2 (SN.mp hr) λf hf az=>?_;obtain rfl:=az
  unfold dz at hx
  refine ob1_2 (SN.mp hx) λq z! az=>?_;obtain rfl:=az
  refine yd λd hd=>?_
  unfold oU at hd
  rw [eE] at hd
  refine ob1_2 (Sw.mp hd) λt ht hd=>?_
  exact xm hi hw t (Vp (Vo ht)) d hd
 have htx:=text_len hi hw
 have D4:(Sk 5).map (dz (aJ d0) (aL d1) (aH d0) words)=(fC (bS (aL d1) (words.map (bf (aJ d0)))) (aH d0) (bz (aJ d0) words) 5).take 5:=by
  rw [QG,JL,Xr]
 generalize (Sk 5).map (dz (aJ d0) (aL d1) (aH d0) words)=written at *
 generalize bz (aJ d0) words=texts at *
 generalize bS (aL d1) (words.map (bf (aJ d0)))=sums at *
 generalize jc (aJ d0) (aL d1) (aH d0) words=c at *
 have Qo:written.length=5:=by have:=congrArg V7 hfl;simpa using this
 have Nz:∀ k,k<5->1+(cR c k).length=1+k - c k:=λk hk=>List.map_inj_left.mp (show (Sk 5).map (λk=>1+(cR c k).length)=(Sk 5).map λk=>1+k - c k from SK.dots) k (Ss.mpr hk)
 have Rf:(b8 c 5).length=5:=by unfold b8;rw [Sa,To]
 have hc5:(d8 c).length=5:=by unfold d8;rw [Sa,To]
 have Ac:(cB c).length=5:=by unfold cB;rw [Sa,To]
 have hne:∀ e∈cB c,e.length<=5:=λe he=>by
  unfold cB at he
  refine ob1_2 (SN.mp he) λk hk az=>?_;obtain rfl:=az
  have:=Nz k (Ss.mp hk)
  have:=Ss.mp hk
  exact FI (by assumption) this
 have hcs:(b8 c 5).map (λr=>Vb r ".")=(d8 c).map λc:Nat=>(c:Int):=by
  unfold b8 d8
  rw [S3,S3]
  refine Te λk hk=>?_
  have ug:=Ss.mp hk
  show Vb (rowAt (i7 c 5 k) k) "."=((1+k - c k:Nat):Int)
  rw [xP ug,zI ug,Nz k ug]
 refine I9 (n:=n) ok KN Ac hne Rf hcs SK.cs SK.lim SK.turn ?_
 refine I8 ok Ac Qo (hfl.trans SK.most) ?_
 refine I7 ok Ac hc5 SK.ring ?_
 refine I6 (n:=n+9) ok E5 Qw K2 htx (λr hr=>?_) hfo ?_ D4 λs' v S' rv=>⟨S'.stp,rv⟩
 ·unfold b8 at hr
  refine ob1_2 (SN.mp hr) λk hk az=>?_;obtain rfl:=az
  refine yd λd hd=>?_
  rw [cD] at hd
  have hl:∀ k,k<5->([110,97,98,99,100]:List Nat).getD k 0<200:=by decide
  rcases Sq.mp hd with hd | hd
  ·rw [Vh hd];decide
  ·rw [Sm.mp hd];exact hl k (Ss.mp hk)
 ·unfold b8
  refine Te λk hk=>?_
  have ug:=Ss.mp hk
  rw [zI ug,Nz k ug,JP k ug];rfl
end
noncomputable def lT (K:Frag) (x:Str) (v:Value):Prop:=nsIn K mainGlobals x=some none/\nsIn K builtinsNs x=some (some v)
noncomputable def eS (K:Frag) (C:Addr) (x:Str) (f:Addr):Prop:=findIn K (.ref C) x=some (some (.ref f))/\typeIn K (.ref f)=some (.type "function")
noncomputable def iU (K:Frag) (c:Addr) (file:Str):Bool:=match K.lookup c with
 | some ⟨_,_,.fields vs,_⟩=>(match (vs[2]? : Option Value) with
  | some (.str f _)=>file == f
  | _=>false)
 | _=>false
structure l6 (K:Frag) (P:Params):Prop where
 bis:(zL P).map (λx=>K.lookup x.1)=(zL P).map λx=>some x.2
 br:mS K E0 (oN (fu K E0) (ie K E0)) (bodyOf (bH dK KY))
 bl:mS K E1 (oO (fu K E1) (ie K E1)) (bodyOf (bH dK KZ))
 len:lT K "len" (.builtin "len")
 p1:BK K Lc Pw cy
 p2:BK K Lb Pu bL
 g1:nsIn K mainGlobals "_twin_re_1"=some (some (.ref Lc))
 g2:nsIn K mainGlobals "_twin_re_2"=some (some (.ref Lb))
 g3:nsIn K mainGlobals "CRLF"=some (some (.str "\r\n" (Cg K mainGlobals "CRLF")))
 fq:mS K EY (fdOf (bH dK KW) "quotedata" [] .none .none (fu K EY) (ie K EY) .none) (bodyOf (bH dK KW))
 sum:lT K "sum" (.builtin "sum")
 str:lT K "str" (.type "str")
 range:lT K "range" (.type "range")
 NT:nsIn K mainGlobals "bisect_right"=some (some (.ref E0))
 NU:nsIn K mainGlobals "bisect_left"=some (some (.ref E1))
 NS:nsIn K mainGlobals "quotedata"=some (some (.ref EY))
structure uV (K:Frag) (pr:List (Addr×Addr)):Prop where
 ga:findIn K (.ref aX) "__getattribute__"=some (some (.builtin "list.__getattribute__"))
 gt:findIn K (.ref aX) "__getattr__"=some none
 hd:hasDictIn K aX=true
 sub:mroIn K aX (.type "list")=some true
 ni:noSeq K aX=true
 gi:findIn K (.ref aX) "__getitem__"=some (some (.builtin "list.__getitem__"))
 si:findIn K (.ref aX) "__setitem__"=some (some (.builtin "list.__setitem__"))
 it:findIn K (.ref aX) "__iter__"=some (some (.builtin "list.__iter__"))
 app:findIn K (.ref aX) "append"=some (some (.builtin "list.append"))
 KV:findIn K (.ref aX) "_initial_size"=some none
 cls:K.lookup aX=some (tC K aX IW [.type "list",.type "object"])
 Cv:nsOkIn K IW=true
 Ct:nsIn K IW "__setattr__"=some none
 PY:nsIn K IW "_initial_size"=some none
 mF:pA.map (λx=>K.lookup x.1)=pA.map λx=>some x.2
 ini:mS K BH (zl (fu K BH) (.ref (wg K BH)) (Ey K BH)) (bodyOf (jm 0))
 push:mS K dY (uA (fu K dY) (ie K dY)) (bodyOf (jm 1))
 from_:mS K gz (uB (fu K gz) (ie K gz)) (bodyOf (jm 2))
 pop:mS K gy (lI (fu K gy) (.ref (wg K gy)) (Ey K gy)) (bodyOf (jm 3))
 len:mS K jW (sZ (fu K jW) (.ref (pr.getD 0 (0,0)).1)) (bodyOf (jm 4))
 str:mS K jV (sX (fu K jV) (.ref (pr.getD 1 (0,0)).1)) (bodyOf (jm 5))
 res:mS K gU (sY (fu K gU) (ie K gU)) (bodyOf (jm 6))
 ws:mS K mP (uz (fu K mP) (ie K mP)) (bodyOf (jm 7))
 pc:mS K lZ (nB (fu K lZ) (.ref (wg K lZ)) (Ey K lZ)) (bodyOf (jm 8))
 cell:K.lookup wK=some (iG K wK)
 Ko:(iG K wK).data = .cell (some (.ref aX))
 NZ:iU K (wg K BH) dK.main.file=true
 vU:iU K (wg K gy) dK.main.file=true
 NV:iU K (wg K lZ) dK.main.file=true
 top:(dK.main.scope.names.lookup ("super":Str)).isSome=false
 super:lT K "super" (.type "super")
 op:nsIn K cStatics "thirdparty.any"=some none
 cd:clsIn K aX=some (eB K aX)
 RK:(eB K aX).mro=[.ref aX,.type "list",.type "object"]
 RJ:(eB K aX).qualname=("_Accumulator":Str)
 tc:typeIn K (.ref aX)=some (.type "type")
 md:mroIn K aX (.type "module")=some false
 self:mroIn K aX (.ref aX)=some true
 bi:nsIn K mainGlobals "__builtins__"=some (some (.ref (refOf ((nsIn K mainGlobals "__builtins__").join.getD .none))))
 N4:Nat.beq (refOf ((nsIn K mainGlobals "__builtins__").join.getD .none)) builtinsNs=false
 RL:K.lookup (refOf ((nsIn K mainGlobals "__builtins__").join.getD .none))=some {cls:=.type "module",dict:=some builtinsNs,data:=.plain}
 KO:findIn K (.ref aX) "__bool__"=some none
 jQ:fnIn K dY=true
 E7:iI K aX=true
 kp:keepIn K (.ref aX)=true
 yp:eS K aX "__init__" BH
 A8:nsIn K mainGlobals "EMPTYSTRING"=some (some (.str "" (Cg K mainGlobals "EMPTYSTRING")))
 iH:eS K aX "push" dY
 qq:eS K aX "pop_from" gz
 ow:eS K aX "pop" gy
 sE:eS K aX "__len__" jW
 jl:eS K aX "__str__" jV
 sD:eS K aX "reset" gU
 IX:eS K aX "is_onlyws" mP
 AR:eS K aX "part_count" lZ
structure CX (K:Frag):Prop where
 ga:findIn K (.ref dc) "__getattribute__"=some (some (.builtin "object.__getattribute__"))
 hd:hasDictIn K dc=true
 gt:findIn K (.ref dc) "__getattr__"=some none
 cls:K.lookup dc=some (tC K dc sC [.type "object"])
 Cv:nsOkIn K sC=true
 Ct:nsIn K sC "__setattr__"=some none
 n1:nsIn K sC "_maxlen"=some none
 n2:nsIn K sC "_continuation_ws"=some none
 n3:nsIn K sC "_continuation_ws_len"=some none
 n4:nsIn K sC "_splitchars"=some none
 n5:nsIn K sC "_lines"=some none
 n6:nsIn K sC "_current_line"=some none
 KS:findIn K (.ref dc) "_maxlen"=some none
 KR:findIn K (.ref dc) "_splitchars"=some none
 KQ:findIn K (.ref dc) "_lines"=some none
 KP:findIn K (.ref dc) "_current_line"=some none
 E7:makesIn K dc=true
 kp:keepIn K (.ref dc)=true
 yp:eS K dc "__init__" EX
 ini:mS K EX (J6 (fu K EX) (ie K EX)) (bodyOf (t9 0))
 str:mS K jU (zk (fu K jU) (ie K jU)) (bodyOf (t9 1))
 vD:mS K jy (lH (fu K jy) (ie K jy)) (bodyOf (t9 3))
 app:mS K ir (iV (fu K ir) (ie K ir)) (bodyOf (t9 8))
 k9:eS K dc "newline" jy
 jl:eS K dc "_str" jU
 yu:eS K dc "_append_chunk" ir
 A9:nsIn K mainGlobals "_Accumulator"=some (some (.ref aX))
section
variable {K:Frag} {pairs:List (Addr×Addr)} {h0:Heap} {X:K.In h0} {C:Fg K pairs} {hl:h0.objs.size - 1∉pairs.map (·.2)/\∃ o,h0.get? (h0.objs.size - 1)=some o}
theorem o5 {K:Frag} {pairs:List (Addr×Addr)} {h0:Heap} (X:K.In h0):(a_ K pairs).In h0:=λa o e=>X _ _ (bR e).1
theorem fL (e:nsIn (a_ K pairs) mainGlobals x=some (some v)):(bF dK w X C hl).mg x=some v:=Cu (o5 X) (.of_isNs (WN X C.ng)) e
theorem b_ (e:lT (a_ K pairs) x v):(bF dK w X C hl).mg x=none/\(bF dK w X C hl).mb x=some v :=
 ⟨ns_none_of (o5 X) (.of_isNs (WN X C.ng)) e.1,Cu (o5 X) (.of_isNs (WN X C.nb)) e.2⟩
theorem yf (H:l6 (a_ K pairs) w.params):l5 (bF dK w X C hl):=⟨λh i=>xw (eg h i) H.bis,⟨_,_,H.br.ok⟩,⟨_,_,H.bl.ok⟩,b_ H.len⟩
theorem Dj (H:l6 (a_ K pairs) w.params):Ld (bF dK w X C hl):=⟨H.p1.ok,H.p2.ok,fL H.g1,fL H.g2,⟨_,fL H.g3⟩,⟨_,_,H.fq.ok⟩⟩
theorem xU (h:cd.qualname=("_Accumulator":Str)):z6 cd:=by
 intro x;rw [h];kernel_rfl
theorem rQ (H:uV (a_ K pairs) pairs) {code:Addr} (h1:fd.scope.names.lookup ("super":Str)=some .globalImplicit) (h2:fd.scope.names.lookup ("__class__":Str)=some .free)
  (h3:∀ L,(cellsFrom (L+1) fd.scope.names fd.closure).lookup ("__class__":Str)=some wK) (h4:fd.code = .ref code) (h5:iU (a_ K pairs) code dK.main.file=true) :
  gV (bF dK w X C hl) (a_ K pairs) aX fd code wK:=by
 refine ⟨h1,h2,h3,λh i=>⟨_,eg h i _ _ H.cell,H.Ko⟩,h4,λh i=>?_,H.top,(b_ H.super).1,(b_ H.super).2,H.op,⟨_,H.cd,H.RK,xU H.RJ⟩,H.tc,H.md,H.self⟩
 unfold iU at h5
 split at h5
 ·rename_i c d vs sl hh
  split at h5
  ·rename_i f t hv
   exact ⟨_,vs,t,f,eg h i _ _ hh,rfl,hv,h5⟩
  ·cases h5
 ·cases h5
theorem yg (H:uV (a_ K pairs) pairs) (Q:l6 (a_ K pairs) w.params) (hp:2<=pairs.length):dH (bF dK w X C hl) (a_ K pairs):=by
 have hmem:∀ i,i<2->pairs.getD i (0,0)∈pairs:=λi hi=>mem_getD _ (by exact Sd hi hp)
 have e1:∀ pm code ct (L:Addr),(cellsFrom (L+1) (zl pm code ct).scope.names (zl pm code ct).closure).lookup ("__class__":Str)=some wK:=λpm code ct L=>by kernel_rfl
 have e2:∀ pm code ct (L:Addr),(cellsFrom (L+1) (lI pm code ct).scope.names (lI pm code ct).closure).lookup ("__class__":Str)=some wK:=λpm code ct L=>by kernel_rfl
 have e3:∀ pm code ct (L:Addr),(cellsFrom (L+1) (nB pm code ct).scope.names (nB pm code ct).closure).lookup ("__class__":Str)=some wK:=λpm code ct L=>by kernel_rfl
 exact {
  ok:=⟨eg,H.ga,H.gt,H.hd,H.sub,H.ni,H.gi,H.si,H.it,H.app,H.KV⟩
  st:=dS H.cls H.Cv H.Ct H.PY
  mF:=λh i=>xw (eg h i) H.mF
  ini:=⟨_,_,_,H.ini.ok,rQ H (by kernel_rfl) (by kernel_rfl) (e1 _ _ _) rfl H.NZ⟩
  push:=⟨_,_,H.push.ok⟩
  from_:=⟨_,_,H.from_.ok⟩
  pop:=⟨_,_,_,H.pop.ok,rQ H (by kernel_rfl) (by kernel_rfl) (e2 _ _ _) rfl H.vU⟩
  len:=⟨_,_,H.len.ok,yo (hmem 0 (by exact TM (VH _)))⟩
  str:=⟨_,_,H.str.ok,yo (hmem 1 (by exact UI (VK _)))⟩
  res:=⟨_,_,H.res.ok⟩
  ws:=⟨_,_,H.ws.ok⟩
  pc:=⟨_,_,_,H.pc.ok,rQ H (by kernel_rfl) (by kernel_rfl) (e3 _ _ _) rfl H.NV⟩
  bi:=⟨_,fL H.bi,λh=>(by have:=H.N4;rw [h] at this;cases this),λh i=>⟨_,eg h i _ _ H.RL,rfl,rfl,rfl⟩⟩
  KO:=H.KO
  jQ:=H.jQ
  OE:=⟨eg,by rw [if_pos rfl];exact H.E7,H.kp,H.yp.1,H.yp.2⟩
  low:=⟨(Heap.Ns.of_isNs (WN X C.ng)).lt,(Heap.Ns.of_isNs (WN X C.nb)).lt,(Heap.Ns.of_isNs (WN X C.ns)).lt⟩
  Eh:=b_ Q.sum
  sU:=b_ Q.len
  yZ:=b_ Q.str
  A8:=⟨_,fL H.A8⟩
  iH:=H.iH
  qq:=H.qq
  ow:=H.ow
  sE:=H.sE
  jl:=H.jl
  sD:=H.sD
  IX:=H.IX
  AR:=H.AR}
theorem AK (V:CX (a_ K pairs)) (H:uV (a_ K pairs) pairs) (Q:l6 (a_ K pairs) w.params) (hp:2<=pairs.length):eX (bF dK w X C hl) (a_ K pairs) where
 acc:=yg H Q hp
 ok:=⟨eg,V.ga,V.hd⟩
 gt:=V.gt
 st1:=dS V.cls V.Cv V.Ct V.n1
 st2:=dS V.cls V.Cv V.Ct V.n2
 st3:=dS V.cls V.Cv V.Ct V.n3
 Ot:=dS V.cls V.Cv V.Ct V.n4
 Oq:=dS V.cls V.Cv V.Ct V.n5
 Oo:=dS V.cls V.Cv V.Ct V.n6
 KS:=V.KS
 KR:=V.KR
 KQ:=V.KQ
 KP:=V.KP
 OD:=⟨eg,by rw [if_neg (by decide)];exact V.E7,V.kp,V.yp.1,V.yp.2⟩
 ini:=⟨_,_,V.ini.ok⟩
 str:=⟨_,_,V.str.ok⟩
 vD:=⟨_,_,V.vD.ok⟩
 app:=⟨_,_,V.app.ok⟩
 k9:=V.k9
 jl:=V.jl
 yu:=V.yu
 A9:=fL V.A9
 jq:=b_ Q.range
end
structure uU (K:Frag):Prop where
 Ry:mS K EZ (fdOf (bH dK E9) "law" [] .none .none (fu K EZ) (ie K EZ) .none) (bodyOf (bH dK E9))
 Rz:mS K BG (fdOf (bH dK KX) "_law_rows" [] .none .none (fu K BG) (ie K BG) .none) (bodyOf (bH dK KX))
 RA:mS K CV (fdOf (bH dK Jj) "_law_orders" [] .none .none (fu K CV) (ie K CV) .none) (bodyOf (bH dK Jj))
 max:lT K "max" (.builtin "max")
 min:lT K "min" (.builtin "min")
 sorted:lT K "sorted" (.builtin "sorted")
 set:lT K "set" (.type "set")
 enum:lT K "enumerate" (.type "enumerate")
 rows:nsIn K mainGlobals "_law_rows"=some (some (.ref BG))
 orders:nsIn K mainGlobals "_law_orders"=some (some (.ref CV))
 NQ:nsIn K mainGlobals "_ValueFormatter"=some (some (.ref dc))
section
variable {K:Frag} {pairs:List (Addr×Addr)} {h0:Heap} {X:K.In h0} {C:Fg K pairs} {hl:h0.objs.size - 1∉pairs.map (·.2)/\∃ o,h0.get? (h0.objs.size - 1)=some o}
theorem AL (H:uU (a_ K pairs)) (Q:l6 (a_ K pairs) w.params):mR (bF dK w X C hl) :=
 ⟨⟨_,_,H.Ry.ok⟩,b_ Q.sum,b_ Q.len,b_ H.max,b_ H.min,b_ H.sorted,b_ H.set,b_ Q.range,b_ H.enum,fL H.rows,fL H.orders,fL Q.NS,fL Q.NU,fL Q.NT⟩
theorem AM (H:uU (a_ K pairs)):wC (bF dK w X C hl):=⟨⟨_,_,H.Rz.ok⟩,fL H.NQ⟩
theorem AN (H:uU (a_ K pairs)) (Q:l6 (a_ K pairs) w.params):BL (bF dK w X C hl):=⟨⟨_,_,H.RA.ok⟩,b_ Q.range,b_ H.enum⟩
theorem AJ (e:s.heap=h0) (S:aG (bF dK w X C hl) [] s s'):OldK s.heap s'.heap:=by
 have iv:(bF dK w X C hl).inv s.heap:=by rw [e];exact ym
 have Qd:KC h0 pairs s'.heap:=S.inv iv
 have key:∀ b o,s.heap.get? b=some o->asItWas s.heap s'.heap b o/\∃ o',s'.heap.get? b=some o':=λb o hb=>by
  by_cases hm:b∈pairs.map (·.2)
  ·refine ob1_2 (SN.mp hm) λx hx az=>?_;obtain rfl:=az
   refine ob1_2 (Qd.code x hx) λps aB z! => ?_;refine ob0_3 aB λz! z! e2=>?_
   have T:=(iQ X (gu C.gen x hx)).2
   rw [<- e] at T
   have e3:=T.2
   rw [hb] at e3
   cases e3
   exact ⟨.inr (.inl ⟨T.isCodeTable,rfl,#[],ps,rfl,by rw [e2];simp⟩),_,e2⟩
  ·have:=S.keep b o S9 hm hb
   exact ⟨.inl this,_,this⟩
 exact ⟨λb o hb=>(key b o hb).1,λb o hb=>(key b o hb).2⟩
theorem y_ {c:ClaimW} {args:List WData} (e:s.heap=h0) (S:aG (bF dK w X C hl) [] s s') (hg:s.gens = #[]) (rv:Rep [] s'.heap (.bool true) v)
  (hr:∀ cls,c.raises args cls=false) (hp:c.post args (.bool true) args=true):GoodWG c cl mean args s (.ok (.ret v)) s':=by
 rw [Rep] at rv;subst rv
 refine ⟨.inl ⟨_,_,[],rfl,hr,ReadsW.bool true,hp,λz! => ⟨List.nodup_nil,λz! hm=>(nomatch hm)⟩⟩,AJ e S,S.os,?_⟩
 refine ob1_2 S.gens λl h1 h2=>?_
 rw [hg] at h1
 intro y hy
 exact h2 y (by have:=Array.mem_toList_iff.mpr hy;rw [h1] at this;simpa using this)
end
theorem mU {P:Params} {h:Heap}:∀ {xs:List Int} {vs:List Value},WellAll P h vs (ofPys (xs.map PyData.int))->ah [] h (xs.map PV.int) vs
 | [],vs,w=>by
  cases w
  rw [Vt,ah]
 | x::xs,vs,w=>by
  rw [SV,ofPys,ofPy] at w
  cases w with
  | cons h1 h2 =>
   cases h1
   rw [SV,ah]
   exact ⟨_,_,rfl,Rep.int,mU h2⟩
theorem rY {P:Params} {a:Addr} {xs:List Int} (hx:xs.length<=lim) (wl:Well P h (.ref a) (ofPy (PyData.list (xs.map PyData.int)))):Rep [] h (.lst (xs.map PV.int)) (.ref a):=by
 rw [ofPy] at wl
 cases wl with
 | list e r =>
  rw [Rep]
  exact ⟨by rw [Sa];exact hx,a,_,rfl,S9,⟨_,e⟩,mU r⟩
noncomputable abbrev prs:List (Addr×Addr):=[(161,157),(168,164)]
theorem law1_done {K:Frag} (X:K.In s.heap) (C:Fg K prs) (Q:l6 (a_ K prs) w.params) (A:uV (a_ K prs) prs) (V:CX (a_ K prs)) (H:uU (a_ K prs)) {a:Addr} (hsz:s.heap.objs.size=a+1)
  (ha:a∉prs.map (·.2)) {script:List Int} (hb:vs.length=script.length/\script.length<=2 ^ 20) (wl:Well w.params s.heap (.ref a) (ofPy (PyData.list (script.map PyData.int)))) (hg:s.gens = #[])
  {c:ClaimW} {args:List WData} (hr:∀ cls,c.raises args cls=false) (hp:c.post args (.bool true) args=true) :
  wpAny (model dK w) callerA (call (.ref EZ) [.ref a]) (λv s'=>GoodWG c cl mean args s (.ok (.ret v)) s') (λe s'=>GoodWG c cl mean args s (.error e) s') s:=by
 have hr1:=rY hb.2 wl
 have hsz':s.heap.objs.size - 1=a:=by rw [hsz];exact T7 ..
 have hl:s.heap.objs.size - 1∉prs.map (·.2)/\∃ o,s.heap.get? (s.heap.objs.size - 1)=some o:=by
  rw [hsz']
  refine ⟨ha,?_⟩
  rw [Rep] at hr1
  refine ob0_2 hr1 λz! aA=>?_;refine ob2_4 aA λb us e z! aY z! => ?_;refine ob1_1 aY λn h=>?_
  cases e
  exact ⟨_,h⟩
 have room:cz callerA (0+11):=⟨rfl,by decide,by decide⟩
 have F:=DC (n:=0) (AL (w:=w) (X:=X) (C:=C) (hl:=hl) H Q) (yf Q) (Dj Q) (AK V A Q (by decide)) (AM H) (AN H Q) script
 refine U4 (F callerA [] s [.ref a] room ym (λb hb=>absurd hb S9) (ah.cons.mpr ⟨_,_,rfl,hr1,ah.nil.mpr rfl⟩)) (λv s' h=>y_ rfl h.1 hg h.2 hr hp) λe s' h=>h.elim
end Mine
open PySem PySem.W PySem.W.X PySem.W.ZRun PyProof.Rows
set_option maxRecDepth 100000 in
set_option maxHeartbeats 0 in
theorem PySem.Challenge.cw_rs0183_01_holds : PySem.Challenge.rw_rs0183_01.Holds := by
  w_on
  refine holds_law (by kernel_rfl) fun said => ?_
  z_head
  case hw => w_witness2
  k_fill
  intro w s₀ s₁ mg mb G y fa o pm cd doc dV kV ho hd hcd hD hmg hg args vals as L hpre hlay hrd hwl hlo
  z_open y L KX ZH ZN ZT
  refine Ground.open G ?_
  intro T B D TE TW
  wrow_args hpre hlay hrd hwl hlo
  obtain ⟨hat, hsz⟩ := script_at L
  have htk := script_toks L ZT
  rw [ZN] at hat hsz
  subst hat
  x_fa T KX hmg
  all_lens
  refine Mine.law1_done KX ?_ ?_ ?_ ?_ ?_ hsz (by decide) (by assumption) (by assumption) hg (fun _ => rfl) ?_
  · constructor <;> first | kernel_rfl | decide | (repeat' (first | kernel_rfl | exact trivial | constructor))
  · constructor <;> first | kernel_rfl | (constructor <;> kernel_rfl)
  · constructor <;> first | kernel_rfl | (constructor <;> kernel_rfl)
  · constructor <;> first | kernel_rfl | (constructor <;> kernel_rfl)
  · constructor <;> first | kernel_rfl | (constructor <;> kernel_rfl)
  · first | rfl | wrow_post
