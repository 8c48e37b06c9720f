import PyProof.Rows.All
import Wide.All
import OpenK.AllK
import KE.KNest
import Wide.FinOn
import KE.KIntText
import Open.Tops
import Lean
import PySem.Challenge.RW_kq0034_05
set_option Elab.async false
set_option linter.all false
set_option genSizeOf false
set_option genInjectivity false
set_option compiler.extract_closed false
set_option bootstrap.genMatcherCode false
set_option maxHeartbeats 0
namespace Mine
section
open PySem
theorem qL {d a b R:Nat} (h:d+b <R) (k:a.ble b=true):d+a <R:=Nat.lt_of_le_of_lt (Nat.add_le_add_left (Nat.le_of_ble_eq_true k) d) h
theorem qL0 {d b R:Nat} (h:d+b <R):d <R:=Nat.lt_of_le_of_lt (Nat.le_add_right d b) h
theorem qL2 {d e a b R:Nat} (h:d+b <R) (k:(e+a).ble b=true):d+e+a <R:=Nat.add_assoc d e a▸qL h k
theorem qN {d a b:Nat} (h:d≤a) (k:a.ble b=true):d≤b:=Nat.le_trans h (Nat.le_of_ble_eq_true k)
theorem qM {d a b:Nat} (h:d≤a) (k:a.blt b=true):d <b:=qN (Nat.succ_le_succ h) k
theorem qA {a n b:Nat} (h:a+(n+1)=b):a+1+n=b:=(Nat.add_right_comm a 1 n).trans h
theorem qB {a n b:Nat} (h:a+(n+1)≤b):a+1+n≤b:=(Nat.add_right_comm a 1 n).symm▸h
theorem qC (i k:Nat):¬i+k <k:=Nat.not_lt.mpr (Nat.le_add_left k i)
theorem qE {a n b:Nat} (h:a+(n+1)≤b):a <b:=Nat.lt_of_lt_of_le (Nat.lt_add_of_pos_right (Nat.succ_pos n)) h
theorem qF {a n b:Nat} (h:a+(n+1)≤b):a+n≤b:=Nat.le_of_succ_le h
theorem qs1 {x i:Nat} (h:i <x):x -(i+1) <x -i:=Nat.sub_lt_sub_left h (Nat.lt_succ_self i)
theorem qs2 {x i k:Nat} (h:x -i=k+1):x -(i+1)=k:=congrArg Nat.pred h
theorem qs3 {x i k:Nat} (h:x -i=k+1):i <x:=Nat.lt_of_sub_eq_succ h
theorem qs4 {x i:Nat} (h:x -i=0) (k:i≤x):i=x:=Nat.le_antisymm k (Nat.le_of_sub_eq_zero h)
theorem qs5 {x n i:Nat} (e:n=x -i) (h:i <x):x -(i+1) <n:=e▸qs1 h
theorem qs6 {x n p j:Nat} (e:n=x -(p+j)) (h:p+j <x):x -(p+(j+1)) <n:=qs5 e h
theorem qs7 {x a k:Nat} (h:k≤x -a) (ha:a≤x):a+k≤x:=Nat.add_comm a k▸Nat.add_le_of_le_sub ha h
theorem qs8 {x a k:Nat} (h:k <x -a) (ha:a≤x):a+k≤x:=qs7 (Nat.le_of_lt h) ha
theorem qs9 {x p k:Nat} (h:k+2≤x -p):p+k+2≤x:=by
 have:=Nat.add_le_of_le_sub (Nat.le_of_lt (Nat.lt_of_sub_pos (Nat.lt_of_lt_of_le (Nat.succ_pos _) h))) h
 rwa [Nat.add_comm,←Nat.add_assoc] at this
theorem qP {n:Nat} (h:0 <n):n=n -1+1:=(Nat.succ_pred_eq_of_pos h).symm
theorem qP1 {n k:Nat} (h:k <n):n=n -1+1:=qP (Nat.lt_of_le_of_lt (Nat.zero_le k) h)
theorem qP2 {n k:Nat} (h:k+1≤n):n=n -1+1:=qP (Nat.lt_of_lt_of_le (Nat.succ_pos k) h)
theorem qP3 {n p x:Nat} (h:x <p+n) (k:p≤x):n=n -1+1:=qP (Nat.pos_of_lt_add_right (Nat.lt_of_le_of_lt k h))
theorem qI1 {n:Nat} (h:0 <n):n -1=(-1+(n:Int)).toNat:=by cases n with | zero=>cases h | succ n=>rw [Int.natCast_succ,Int.add_comm,Int.add_neg_cancel_right];rfl
theorem qI2 {n k:Nat} (h:n=k+1):n -1=(-1+(n:Int)).toNat:=qI1 (h▸Nat.succ_pos k)
theorem qcle (n k:Nat):(n:Int)≤OfNat.ofNat k↔n≤OfNat.ofNat k:=Int.ofNat_le
theorem qcge (n k:Nat):(OfNat.ofNat k:Int)≤n↔OfNat.ofNat k≤n:=Int.ofNat_le
theorem qclt (n k:Nat):(n:Int) <OfNat.ofNat k↔n <OfNat.ofNat k:=Int.ofNat_lt
theorem qcgt (n k:Nat):(OfNat.ofNat k:Int) <n↔OfNat.ofNat k <n:=Int.ofNat_lt
theorem qcm (n m k:Nat):(n:Int)%(OfNat.ofNat m:Int)=OfNat.ofNat k↔n%OfNat.ofNat m=OfNat.ofNat k:=Int.ofNat_inj (m:=n%m)
theorem q64 {p k x:Nat} (h:x≤1000000) (l:p+k <x):-9223372036854775808≤((p:Int)+k)∧((p:Int)+k) <9223372036854775808:=by lia
theorem qA1 {t x:Nat} (h:t≤x) (l:x≤1000000):(((t+1:Nat):Int)).natAbs <10 ^ 20:=Nat.lt_of_le_of_lt (Nat.succ_le_succ (Nat.le_trans h l)) (by decide)
theorem qA2 {t x:Nat} (h:t≤x) (l:x≤1000000):((t:Int)+1).natAbs <10 ^ 20:=qA1 h l
theorem qA3 {t:Nat} (l:t≤900000):(((t+1:Nat):Int)).natAbs <10 ^ 20:=qA1 l (by decide)
theorem qA4 {t:Nat} (l:t≤900000):((t:Int)+1).natAbs <10 ^ 20:=qA1 l (by decide)
theorem q3 {m:Nat} (h:m <3):m=0∨m=1∨m=2:=match m,h with | 0,_=>.inl rfl | 1,_=>.inr (.inl rfl) | 2,_=>.inr (.inr rfl)
theorem qS {e B:Nat} (h:e≤B) (k:B.ble 16777216=true):e≤PySem.sizeLine:=PySem.sizeLine_eq▸qN h k
theorem qmn {a b c:Nat} (h:b≤c):min a b≤c:=Nat.le_trans (Nat.min_le_right a b) h
theorem q130 {a b c n:Nat} (h:a≤b) (k:c≤b*n):a+c≤b*(n+1):=Nat.add_comm a c▸Nat.add_le_add k h
theorem q130' {a b c d n:Nat} (h:a≤b+d*n) (k:b≤c+d):a≤c+d*(n+1):=Nat.le_trans h (Nat.le_trans (Nat.add_le_add_right k _) (by rw [Nat.add_assoc,Nat.mul_succ,Nat.add_comm d];exact Nat.le_refl _))
theorem q131 {a b c n:Nat} (h:a≤b+n) (k:b≤c+1):a≤c+(n+1):=Nat.le_trans h (Nat.le_trans (Nat.add_le_add_right k _) (by rw [Nat.add_assoc,Nat.add_comm 1];exact Nat.le_refl _))
theorem q132 {a b n:Nat} (h:a≤b+1):a+n≤b+(n+1):=Nat.le_trans (Nat.add_le_add_right h n) (by rw [Nat.add_assoc,Nat.add_comm 1];exact Nat.le_refl _)
theorem q63 {n x:Nat} (h:n≤x) (k:x.ble 9223372036854775807=true):¬(2:Int) ^ 63≤(n:Int):=Int.not_le.mpr (Int.ofNat_lt.mpr (Nat.lt_succ_of_le (qN h k)))
theorem q62 {n:Nat} (h:n <2 ^ 62):¬(2:Int) ^ 63≤(n:Int):=q63 (Nat.le_of_lt h) (by decide)
theorem q62' {n:Nat} (h:n <2 ^ 62):(n:Int) <(2:Int) ^ 63:=Int.not_le.mp (q62 h)
theorem qtd {x p m:Nat} (h:x <p+(m+1)) (k:1≤j):x <p+j+m:=Nat.lt_of_lt_of_le h (by rw [Nat.add_assoc,Nat.add_comm m];exact Nat.add_le_add_left (Nat.add_le_add_right k m) p)
theorem r1 {n k j:Nat} (h:n+1 -k=j+1):n -j=k:=by lia
theorem r1' {n k j:Nat} (h:n+1 -k=j+1):n -(j+1 -1)=k:=r1 h
theorem r2 {n t:Nat} (h:1≤n) (k:t≤n -1):n -1 -t+1=n -t:=(congrArg (·+1) (Nat.sub_right_comm n 1 t)).trans (Nat.sub_add_cancel (Nat.sub_pos_of_lt (Nat.lt_of_le_of_lt k (Nat.sub_lt h Nat.one_pos))))
theorem r4 {n k:Nat} (h:¬n <OfNat.ofNat k):(n:Int) -OfNat.ofNat k=((n -OfNat.ofNat k:Nat):Int):=(Int.ofNat_sub (Nat.le_of_not_lt h)).symm
theorem r5 {c a b d m:Nat} (h:a≤c∧c≤d) (k:(d -b).blt m=true):c -b <m:=qM (Nat.sub_le_sub_right h.2 b) k
theorem r6 {n m:Nat} (h:n <m):n -1 <m:=Nat.lt_of_le_of_lt (Nat.sub_le _ _) h
theorem r6' {s n m:Nat} (e:s=n -1) (h:n <m):s <m:=e▸r6 h
theorem r9 {t a b c:Nat} (h:t≤a -b -c):1+t≤a+1:=Nat.add_comm 1 t▸Nat.succ_le_succ (Nat.le_trans h (Nat.le_trans (Nat.sub_le _ _) (Nat.sub_le _ _)))
theorem r9' {t a b c d:Nat} (h:t≤a -b -c -d):1+t≤a+1:=r9 (Nat.le_trans h (Nat.sub_le _ _))
theorem r10 {n a b c:Nat} (h1:a≤n) (h2:b≤n -a) (h3:c≤n -a -b):a+b+c≤n:=qs7 (Nat.sub_sub n a b▸h3) (qs7 h2 h1)
theorem r10' {n a b c d:Nat} (h1:a≤n) (h2:b≤n -a) (h3:c≤n -a -b) (h4:d≤n -a -b -c):1+a+b+c+d≤n+1:=by
 have:=Nat.succ_le_succ (qs7 (k:=d) (a:=a+b+c) (x:=n) (Nat.sub_sub n (a+b) c▸Nat.sub_sub n a b▸h4) (r10 h1 h2 h3))
 rw [Nat.succ_eq_add_one,Nat.add_comm _ 1] at this
 simpa only [Nat.add_assoc] using this
theorem r12 {a b m:Nat} (h:b <m+1):b -a≤m:=Nat.le_trans (Nat.sub_le _ _) (Nat.le_of_lt_succ h)
theorem r12a {a b m:Nat} (h:a <m):a+(b+m -a)=m+b:=(Nat.add_sub_of_le (Nat.le_trans (Nat.le_of_lt h) (Nat.le_add_left m b))).trans (Nat.add_comm b m)
theorem r12b {a b m:Nat} (h:¬a≤b):b+(m+1) -a≤m:=Nat.sub_le_of_le_add (by rw [Nat.add_comm b,Nat.add_assoc];exact Nat.add_le_add_left (Nat.add_comm b 1▸Nat.lt_of_not_le h) m)
theorem r16 {k n p j:Nat} (h:2≤k) (l:k≤n -(p+j)):p+(j+k)≤n:=Nat.add_assoc p j k▸qs7 l (Nat.le_of_lt (Nat.lt_of_sub_pos (Nat.lt_of_lt_of_le (Nat.succ_pos 0) (Nat.le_trans (Nat.le_of_succ_le h) l))))
theorem r17 {p i j:Nat} (h:i≤j):p+i+(j -i)=p+j:=(Nat.add_assoc _ _ _).trans (congrArg (p+·) (Nat.add_sub_of_le h))
theorem r19 (s a:Nat):s <a+(s -a+1):=Nat.lt_succ_of_le (Nat.sub_le_iff_le_add'.mp (Nat.le_refl _))
theorem r19' (s a b:Nat):s <a+b+(s -a+1):=Nat.lt_of_lt_of_le (r19 s a) (Nat.add_le_add_right (Nat.le_add_right a b) _)
theorem r20 {k m:Nat} (h:k <m):(k:Int).natAbs <m:=h
theorem r21 {i r:Nat} (h:i≤r):0 <r+1 -i:=Nat.sub_pos_of_lt (Nat.lt_succ_of_le h)
theorem r22 {s p:Nat} (h:min 2 (s -p)=0+1+1):p+2≤s:=by
 have:=Nat.add_le_of_le_sub (Nat.le_of_lt (Nat.lt_of_sub_pos (Nat.lt_of_lt_of_le (by decide:0 <2) (h▸Nat.min_le_right 2 (s -p))))) (h▸Nat.min_le_right 2 (s -p))
 rwa [Nat.add_comm] at this
theorem r23 {f n:Nat} (h:f+1=n):f=n -1:=h▸rfl
theorem r24 {k n:Nat} (h:¬k <n):k=n+(k -n):=(Nat.add_sub_of_le (Nat.le_of_not_lt h)).symm
theorem r26 {c:Nat} (h:c <256):-9223372036854775808≤(c:Int)/16∧(c:Int)/16 <9223372036854775808:=by lia
theorem r26' {c:Nat} (h:c <256):-9223372036854775808≤(c:Int)%16∧(c:Int)%16 <9223372036854775808:=by lia
theorem r27 {p k x:Nat} (h:x≤1000000) (l:p+k≤x):-9223372036854775808≤((p:Int)+k)∧((p:Int)+k) <9223372036854775808:=by lia
theorem r31 {a b c:Nat} (h:a+(1+b)≤c):a+1≤c:=Nat.le_trans (Nat.add_le_add_left (Nat.le_add_right 1 b) a) h
theorem r31' {a b c:Nat} (h:a+(1+b)≤c):a+1+b≤c:=Nat.add_assoc a 1 b▸h
theorem r33 {x p j m a:Nat} (h:x <p+j+(m+1)) (k:1≤a):x <p+(j+a)+m:=Nat.add_assoc p j a▸qtd h k
theorem r33' {x p j m W i V:Nat} (h:x <p+j+(m+1)):x <p+(j+(1+W+i+V))+m:=r33 h (Nat.le_trans (Nat.le_add_right 1 W) (Nat.le_trans (Nat.le_add_right _ i) (Nat.le_add_right _ V)))
theorem r34 {a n b:Nat} (h:n+1 <b) (e:a=n):a <b:=e▸Nat.lt_of_succ_lt h
theorem r35 {n b k:Nat} (h:n+(k+1) <b):n+k <b:=Nat.lt_of_succ_lt h
theorem r35' {n b k:Nat} (h:n+(k+1) <b):n+1 <b:=Nat.lt_of_le_of_lt (Nat.add_le_add_left (Nat.succ_le_succ (Nat.zero_le k)) n) h
end
local macro_rules | `(tactic| nofun) => `(tactic| ((fail_if_success fail_if_success decide); with_unfolding_all exact rfl))
local macro_rules | `(tactic| refine' $e) => `(tactic| with_reducible exact $e)
local macro_rules | `(tactic| symm) => `(tactic| ((with_reducible focus repeat' first | assumption | exact Nat.le_of_eq ‹_› | exact Nat.le_refl (OfNat.ofNat _) | apply Nat.add_le_add | exact Nat.le_refl _); (fail_if_success fail_if_success decide); with_unfolding_all exact rfl))
section
open PySem PySem.W PySem.Calls PyProof.Rows
section
inductive V where
 | none | bool (b:Bool) | int (i:Int) | str (s:Str) | tup (l:List V) | ref (a:Addr) | typ (n:String) | blt (n:String) | fn (fd:FuncData) | mark
 deriving Inhabited
mutual
inductive Is (h:Heap):V→Value→Prop
 | none:Is h .none .none
 | bool (b:Bool):Is h (.bool b) (.bool b)
 | int (i:Int) (t:Tok):Is h (.int i) (.int i t)
 | str (s:Str) (t:Tok) (hs:s.length≤sizeLine):Is h (.str s) (.str s t)
 | ref (a:Addr):Is h (.ref a) (.ref a)
 | typ (n:String):Is h (.typ n) (.type n)
 | blt (n:String):Is h (.blt n) (.builtin n)
 | fn (fd:FuncData) {a c:Addr} {o oc:Obj} {vc:Array Value} {t:Tok} (ho:h.get? a=some o) (hc:o.cls=.type "function") (hd:o.data=.func { fd with code:=.ref c})
    (gc:h.get? c=some oc) (cc:oc.cls=.type "code") (dc:oc.data=.fields vc) (qc:vc[1]?=some (.str fd.qualname t)):Is h (.fn fd) (.ref a)
 | tup {l:List V} {a:Addr} {vs:List Value} (ht:IsTup h a vs.toArray) (hl:IsL h l vs):Is h (.tup l) (.ref a)
inductive IsL (h:Heap):List V→List Value→Prop
 | nil:IsL h [] []
 | cons {a:V} {v:Value} {l:List V} {vs:List Value} (hv:Is h a v) (hl:IsL h l vs):IsL h (a::l) (v::vs)
end
def Firm (o:Obj):Prop:=(o.cls=.type "tuple"∨o.cls=.type "function"∨o.cls=.type "code")∧∀es n,o.data≠.dict es n
theorem nd_f {o:Obj} {vs:Array Value} (h:o.data=.fields vs):∀es n,o.data≠.dict es n:=fun _ _ q=>nomatch h.symm.trans q
theorem nd_fn {o:Obj} {fd:FuncData} (h:o.data=.func fd):∀es n,o.data≠.dict es n:=fun _ _ q=>nomatch h.symm.trans q
theorem nd_s {o:Obj} {vs:Array Value} {k:Nat} (h:o.data=.seq vs k):∀es n,o.data≠.dict es n:=fun _ _ q=>nomatch h.symm.trans q
def Keeps (h h':Heap):Prop:=∀a o,h.get? a=some o→Firm o→h'.get? a=some o
theorem Keeps.tup {h h':Heap} (k:Keeps h h') {a:Addr} {items:Array Value}:IsTup h a items→IsTup h' a items:=fun ⟨o,e,hc,n,hd⟩=>⟨o,k a o e ⟨.inl hc,nd_s hd⟩,hc,n,hd⟩
theorem Keeps.refl (h:Heap):Keeps h h:=fun _ _ x _=>x
theorem Keeps.trans {h h₁ h₂:Heap} (x:Keeps h h₁) (y:Keeps h₁ h₂):Keeps h h₂:=fun a i t q=>y a i (x a i t q) q
theorem Keeps.cd {h h':Heap} (k:Keeps h h') {a:Addr} {o:Obj} {vs:Array Value} (e:h.get? a=some o) (hc:o.cls=.type "code") (hd:o.data=.fields vs):h'.get? a=some o:=k a o e ⟨.inr (.inr hc),nd_f hd⟩
theorem Keeps.fn {h h':Heap} (k:Keeps h h') {a:Addr} {o:Obj} {fd:FuncData} (e:h.get? a=some o) (hc:o.cls=.type "function") (hd:o.data=.func fd):h'.get? a=some o:=k a o e ⟨.inr (.inl hc),nd_fn hd⟩
section
variable {h h':Heap} {l l':List V} {vs vs':List Value}
theorem Is.keep (k:Keeps h h') {a:V} {v:Value} (i:Is h a v):Is h' a v:=
 Is.rec (motive_1:=fun a v _=>Is h' a v) (motive_2:=fun l vs _=>IsL h' l vs) .none .bool .int .str .ref .typ .blt
  (fun fd _ _ _ _ _ _ ho hc hd gc cc dc qc=>.fn fd (k.fn ho hc hd) hc hd (k.cd gc cc dc) cc dc qc) (fun ht _ ih=>.tup (k.tup ht) ih) .nil (fun _ _ a b=>.cons a b) i
theorem IsL.keep (k:Keeps h h') (i:IsL h l vs):IsL h' l vs:=
 IsL.rec (motive_1:=fun _ _ _=>True) (motive_2:=fun l vs _=>IsL h' l vs) trivial (fun _=>trivial) (fun _ _=>trivial) (fun _ _ _=>trivial) (fun _=>trivial) (fun _=>trivial) (fun _=>trivial)
  (fun _ _ _ _ _ _ _ _ _ _ _ _ _ _=>trivial) (fun _ _ _=>trivial) .nil (fun i _ _ b=>.cons (i.keep k) b) i
inductive IsC (h:Heap) (a:V) (l:List V):List Value→Prop
 | mk {v:Value} {vs:List Value} (i:Is h a v) (il:IsL h l vs):IsC h a l (v::vs)
theorem IsL.c {a:V} (x:IsL h (a::l) vs):IsC h a l vs:=by cases x with | cons a b=>exact ⟨a,b⟩
theorem isl0 (x:IsL h [] vs):vs=[]:=by cases x;rfl
theorem IsL.length (i:IsL h l vs):l.length=vs.length:=by
 induction l generalizing vs with
 | nil=>rw [isl0 i];rfl
 | cons a l ih=>obtain ⟨_,il⟩:=i.c;exact congrArg Nat.succ (ih il)
theorem IsL.append (i:IsL h l vs) (j:IsL h l' vs'):IsL h (l++l') (vs++vs'):=by
 induction l generalizing vs with
 | nil=>rw [isl0 i];exact j
 | cons a l ih=>obtain ⟨a1,il⟩:=i.c;exact .cons a1 (ih il)
theorem IsL.get (i:IsL h l vs) (n:Nat) (a:V) (e:l[n]?=some a):∃v,vs[n]?=some v∧Is h a v:=by
 induction l generalizing vs n with
 | nil=>cases e
 | cons b l ih=>
   obtain ⟨a1,il⟩:=i.c
   cases n with
   | zero=>cases e;exact ⟨_,rfl,a1⟩
   | succ n=>exact ih il n e
def Inv (h:Heap) (v:Value):V→Prop
 | .none=>v=.none
 | .bool b=>v=.bool b
 | .int i=>∃t,v=.int i t
 | .str x=>∃t,v=.str x t∧x.length≤sizeLine
 | .ref a=>v=.ref a
 | .typ n=>v=.type n
 | .blt n=>v=.builtin n
 | .fn fd=>∃a c o oc vc t,v=.ref a∧h.get? a=some o∧o.cls=.type "function"∧o.data=.func { fd with code:=.ref c}∧h.get? c=some oc∧oc.cls=.type "code"∧oc.data=.fields vc∧vc[1]?=some (.str fd.qualname t)
 | .tup l=>∃a vs,v=.ref a∧IsTup h a (List.toArray vs)∧IsL h l vs
 | .mark=>False
theorem Is.inv {a:V} {v:Value} (i:Is h a v):Inv h v a:=by
 cases i with
 | fn fd a b c d e f g=>exact ⟨_,_,_,_,_,_,rfl,a,b,c,d,e,f,g⟩
 | str x t hx=>exact ⟨t,rfl,hx⟩
 | int i t=>exact ⟨t,rfl⟩
 | tup ht hl=>exact ⟨_,_,rfl,ht,hl⟩
 | _=>rfl
end
noncomputable def excNames:List String:=["IndexError","ValueError","KeyError","RecursionError","StopIteration","TypeError"]
noncomputable def Vol (C:Addr):Value→Bool
 | .type n=>n=="traceback"||excNames.contains n
 | .ref a=>a==C
 | _=>false
inductive Ob (C:Addr) (o o':Obj):Prop
 | same (h:o'=o):Ob C o o'
 | slots {es:Array DictEntry} {n:Nat} {sl:Array (Option Value)} (h:o.data=.dict es n) (x:o'={ o with slots:=sl}):Ob C o o'
 | vol {vs vs':Array Value} (h:Vol C o.cls=true) (hc:o'.cls=o.cls) (d:o.data=.fields vs) (d':o'.data=.fields vs') (z:vs'.size=vs.size) (z0:vs'[0]?=vs[0]?) (z2:vs'[2]?=vs[2]?):Ob C o o'
theorem Firm.vol {o:Obj} (f:Firm o) (C:Addr):Vol C o.cls=false:=by
 rcases f.1 with h | h | h<;>rw [h]<;>exact of_decide_eq_true rfl
theorem Ob.trans {C:Addr} {o o₁ o₂:Obj} (x:Ob C o o₁) (y:Ob C o₁ o₂):Ob C o o₂:=by
 cases x with
 | same h=>exact h▸y
 | slots h x=>
   subst x
   cases y with
   | same h'=>exact .slots h h'
   | slots h' y=>exact .slots h y
   | vol h' hc d=>exact absurd h (nd_f d _ _)
 | vol h hc d d' hs h0 h2=>
   cases y with
   | same h'=>exact h'▸.vol h hc d d' hs h0 h2
   | slots q _=>exact absurd q (nd_f d' _ _)
   | vol h' hc' e e' ht h1 h3=>
     rw [d'] at e
     cases e
     exact .vol h (hc'.trans hc) d e' (ht.trans hs) (h1.trans h0) (h3.trans h2)
theorem Ob.fix {C:Addr} {o o':Obj} (x:Ob C o o') (h1:∀es n,o.data≠.dict es n) (h2:Vol C o.cls=false):o'=o:=by
 cases x with
 | same h=>exact h
 | slots h _=>exact absurd h (h1 _ _)
 | vol h=>exact absurd (h2.symm.trans h) Bool.false_ne_true
theorem Ob.dict {C:Addr} {o o':Obj} (x:Ob C o o') {es:Array DictEntry} {n:Nat} (h2:o.data=.dict es n):o'.data=.dict es n:=by
 cases x with
 | same h=>exact h▸h2
 | slots h x=>exact x▸h2
 | vol _ _ d=>exact absurd h2 (nd_f d _ _)
structure Ev (C:Addr) (M:List Addr) (h h':Heap):Prop where
 all:∀b o,h.get? b=some o→∃o',h'.get? b=some o'∧(b∉M→Ob C o o')
section
variable {C:Addr} {M M':List Addr} {h h' h₁ h₂:Heap} {b:Addr} {o:Obj}
theorem Ev.kept (x:Ev C M h h') (b:Addr) (o:Obj) (e:h.get? b=some o) (hb:b∉M):∃o',h'.get? b=some o'∧Ob C o o':=
 let ⟨o',e',k⟩:=x.all b o e;⟨o',e',k hb⟩
theorem Ev.refl (C:Addr) (M:List Addr) (h:Heap):Ev C M h h:=⟨fun b o e=>⟨o,e,fun _=>.same rfl⟩⟩
theorem Ev.none (x:Ev C M h h') {b:Addr} (e:h'.get? b=Option.none):h.get? b=Option.none:=by
 cases q:h.get? b with
 | none=>rfl
 | some o=>obtain ⟨o',e',_⟩:=x.all b o q;exact nomatch e.symm.trans e'
theorem ne_some {x:Option Obj} (a:x=Option.none) (b:x=some o):False:=nomatch a.symm.trans b
theorem Ev.trans (x:Ev C M h h₁) (y:Ev C M' h₁ h₂) (hM:∀a∈M',a∈M∨h.get? a=Option.none):Ev C M h h₂:=
 ⟨fun b o e=>by
   obtain ⟨o₁,e₁,k₁⟩:=x.all b o e
   obtain ⟨o₂,e₂,k₂⟩:=y.all b o₁ e₁
   exact ⟨o₂,e₂,fun hb=>(k₁ hb).trans (k₂ fun hm=>(hM b hm).elim hb fun q=>ne_some q e)⟩⟩
theorem Ev.mono (x:Ev C M h h') (hM:∀a∈M,a∈M'∨h.get? a=Option.none):Ev C M' h h':=
 ⟨fun b o e=>let ⟨o',e',k⟩:=x.all b o e;⟨o',e',fun hb=>k fun hm=>(hM b hm).elim hb fun q=>ne_some q e⟩⟩
theorem Ev.wide (x:Ev C [] h h'):Ev C M h h':=x.mono fun _ q=>nomatch q
theorem Ev.of_keep (k:∀b o,h.get? b=some o→h'.get? b=some o):Ev C M h h':=⟨fun b o e=>⟨o,k b o e,fun _=>.same rfl⟩⟩
theorem Ev.push (C:Addr) (M:List Addr) (h:Heap) (o:Obj):Ev C M h (h.push o):=.of_keep fun _ _ e=>Heap.get?_push_of_some o e
theorem Ev.sameBut {a:Addr} (hs:Heap.SameBut a h h') (hl:∀o,h.get? a=some o→∃o',h'.get? a=some o') (ha:a∈M∨h.get? a=Option.none):Ev C M h h':=
 ⟨fun b o e=>by
   by_cases q:b=a
   ·subst q
    obtain ⟨o',e'⟩:=hl o e
    exact ⟨o',e',fun hb=>ha.elim (fun z=>absurd z hb) fun z=>(ne_some z e).elim⟩
   ·exact ⟨o,(hs.2 b q).trans e,fun _=>.same rfl⟩⟩
theorem Ev.at (x:Ev C M h h') (e:h.get? b=some o) (hb:b∉M) (h1:∀es n,o.data≠.dict es n) (h2:Vol C o.cls=false):h'.get? b=some o:=by
 obtain ⟨o',e',k⟩:=x.kept b o e hb
 exact k.fix h1 h2▸e'
def NoTup (h:Heap) (M:List Addr):Prop:=∀a∈M,∀o,h.get? a=some o→¬Firm o
theorem Ev.keeps (x:Ev C M h h') (hM:NoTup h M):Keeps h h':=fun a o e f=>x.at e (fun hm=>hM a hm o e f) f.2 (f.vol C)
theorem Ev.kp (x:Ev C [] h h'):Keeps h h':=x.keeps fun _ q=>nomatch q
end
structure Xc where
 cls:Value
 args:Option (List V):=Option.none
 bare:Bool:=true
inductive Held (C:Addr) (B h:Heap) (e:Addr):Prop
 | mk {o:Obj} {vs:Array Value} (at_:h.get? e=some o) (vol:Vol C o.cls=true) (data:o.data=.fields vs) (size:5≤vs.size) (ctx:vs[2]?=some .none) (new:B.get? e=none)
theorem Held.ev {C:Addr} {M:List Addr} {B h h':Heap} {e:Addr} (x:Held C B h e) (v:Ev C M h h') (he:e∉M):Held C B h' e:=by
 obtain ⟨g,hv,hd,hs,h2,hb⟩:=x
 obtain ⟨o',g',ob⟩:=v.kept e _ g he
 cases ob with
 | same h=>subst h;exact ⟨g',hv,hd,hs,h2,hb⟩
 | slots h _=>exact absurd h (nd_f hd _ _)
 | vol _ hc d d' hsz _ h2'=>
   rw [hd] at d;cases d
   exact ⟨g',(congrArg (Vol C) hc).trans hv,d',hsz.symm▸hs,h2'.trans h2,hb⟩
def HeldO (K_C:Addr) (B h:Heap) (hd:Option Value) (hc:Bool):Prop:=∀e,hd=some (.ref e)→hc=true→Held K_C B h e
inductive ArgsL (h:Heap) (v:Option Value) (l:List V):Prop
 | mk {ta:Addr} {ws:List Value} (e:v=some (.ref ta)) (t:IsTup h ta ws.toArray) (i:IsL h l ws)
def ArgsAre (h:Heap) (v:Option Value):Option (List V)→Prop
 | Option.none=>True
 | some l=>ArgsL h v l
theorem ArgsAre.keep {h h':Heap} {v:Option Value} {l:Option (List V)} (x:ArgsAre h v l) (k:Keeps h h'):ArgsAre h' v l:=by
 cases l with
 | none=>trivial
 | some l=>obtain ⟨a,b,c⟩:=x;exact ⟨a,k.tup b,c.keep k⟩
structure FlyO (C:Addr) (B h:Heap) (e:Addr) (x:Xc) (o:Obj) (vs:Array Value):Prop where
 at_:h.get? e=some o
 cls:o.cls=x.cls
 vol:Vol C x.cls=true
 nt:x.cls≠.type "traceback"
 data:o.data=.fields vs
 size:5≤vs.size
 args:ArgsAre h vs[0]? x.args
 bare:x.bare=true→vs[2]?=some .none
 new:B.get? e=none
inductive Tb (B h:Heap) (e:Addr) (v:Option Value):Prop
 | mk {T:Addr} {o:Obj} {ts:Array Value} (is:v=some (.ref T)) (ne:T≠e) (new:B.get? T=none) (at_:h.get? T=some o) (cls:o.cls=.type "traceback") (data:o.data=.fields ts) (size:4≤ts.size)
inductive Fly (C:Addr) (B h:Heap) (e:Addr) (x:Xc):Prop
 | mk {o:Obj} {vs:Array Value} (f:FlyO C B h e x o vs) (tb:vs[1]?=some .none∨Tb B h e vs[1]?)
inductive Flown (C:Addr) (B h:Heap) (e:Addr) (x:Xc):Prop
 | mk {o:Obj} {vs:Array Value} (f:FlyO C B h e x o vs) (tb:Tb B h e vs[1]?)
theorem le_set {n i:Nat} {v:Value} {vs:Array Value} (h:n≤vs.size):n≤(vs.setIfInBounds i v).size:=Nat.le_trans h (Nat.le_of_eq Array.size_setIfInBounds.symm)
theorem mapFields_data {o:Obj} {vs:Array Value} (h:o.data=.fields vs) (f:Array Value→Array Value):o.mapFields f={ o with data:=.fields (f vs)}:=by
 obtain ⟨c,d,dt,sl⟩:=o
 simp only at h
 subst h
 rfl
section
variable {C:Addr} {M:List Addr} {B h h':Heap} {e:Addr} {x:Xc} {o:Obj} {vs:Array Value}
theorem Flown.fly:Flown C B h e x→Fly C B h e x
 | ⟨f,t⟩=>⟨f,.inr t⟩
theorem FlyO.held (f:FlyO C B h e x o vs) (q:x.bare=true):Held C B h e:=⟨f.at_,f.cls▸f.vol,f.data,f.size,f.bare q,f.new⟩
theorem Flown.held:Flown C B h e x→x.bare=true→Held C B h e
 | ⟨f,_⟩,q=>f.held q
theorem FlyO.keep (f:FlyO C B h e x o vs) (g:h'.get? e=some o) (k:Keeps h h'):FlyO C B h' e x o vs:={ f with at_:=g,args:=f.args.keep k}
theorem FlyO.set {i:Nat} {v:Value} {b:Bool} (f:FlyO C B h e x o vs) (g:h'.get? e=some { o with data:=.fields (vs.setIfInBounds i v)}) (k:Keeps h h') (h0:i≠0) (hb:b=true→x.bare=true∧i≠2):FlyO C B h' e { x with bare:=b} { o with data:=.fields (vs.setIfInBounds i v)} (vs.setIfInBounds i v):=
 ⟨g,f.cls,f.vol,f.nt,rfl,le_set f.size,by rw [Array.getElem?_setIfInBounds,if_neg h0];exact f.args.keep k,fun q=>by rw [Array.getElem?_setIfInBounds,if_neg (hb q).2];exact f.bare (hb q).1,f.new⟩
theorem Tb.keep {v:Option Value} (t:Tb B h e v) (k:∀b o,b≠e→h.get? b=some o→h'.get? b=some o):Tb B h' e v:=let ⟨a,b,c,d,r,s,u⟩:=t;⟨a,b,c,k _ _ b d,r,s,u⟩
theorem stays_update {a:Addr} (f:Obj→Obj) (k:B.StaysIn h) (ha:B.get? a=none):B.StaysIn (h.update a f):=fun b o e=>
 (Heap.get?_update_other _ _ fun q=>ne_some (q▸ha) e).trans (k b o e)
theorem stays_push (o:Obj) (k:B.StaysIn h):B.StaysIn (h.push o):=fun b o' e=>Heap.get?_push_of_some _ (k b o' e)
theorem at_field {a:Addr} (i:Nat) (v:Value) (e:h.get? a=some o) (hd:o.data=.fields vs):(h.update a (Obj.mapFields (·.setIfInBounds i v))).get? a=some { o with data:=.fields (vs.setIfInBounds i v)}:=by
 rw [Heap.get?_update_self _ e (by rw [mapFields_data hd];rfl),mapFields_data hd]
theorem ev_field {a:Addr} (i:Nat) (v:Value) (e:h.get? a=some o) (hv:Vol C o.cls=true) (hd:o.data=.fields vs) (h0:i≠0) (h2:i≠2):Ev C M h (h.update a (Obj.mapFields (·.setIfInBounds i v))):=
 ⟨fun b ob hb=>by
   by_cases q:b=a
   ·subst q
    cases e.symm.trans hb
    exact ⟨_,at_field i v e hd,fun _=>.vol hv rfl hd rfl Array.size_setIfInBounds (by rw [Array.getElem?_setIfInBounds,if_neg h0]) (by rw [Array.getElem?_setIfInBounds,if_neg h2])⟩
   ·exact ⟨ob,(Heap.get?_update_other _ _ (Ne.symm q)).trans hb,fun _=>.same rfl⟩⟩
end
end
section
inductive FE (B h:Heap) (env:Env):Prop
 | mk {L:Addr} {o:Obj} {es:Array DictEntry} {n:Nat} (kind:env.scope.kind≠.module) (low:B.objs.size≤env.locals) (fr:env.frame=some L) (lo:B.objs.size≤L) (at_:h.get? L=some o) (dict:o.data=.dict es n)
def FF (B h:Heap) (l:List Env):Prop:=∀env∈l,FE B h env
section
variable {B h h':Heap} {l r:List Env} {env top:Env} {C:Addr} {M:List Addr}
theorem FF.fun:∀{l:List Env},FF B h l→h.FunFrames B l
 | [],_=>trivial
 | env::r,x=>⟨let ⟨k,_,_,_,_,_⟩:=x env List.mem_cons_self;k,let ⟨_,_,a,b,c,d⟩:=x env List.mem_cons_self;⟨_,_,a,Heap.get?_none_of_le b,c,fun vs q=>absurd d (nd_f q _ _)⟩,FF.fun fun e he=>x e (List.mem_cons_of_mem _ he)⟩
theorem FF.tail (x:FF B h (env::l)):FF B h l:=fun e he=>x e (List.mem_cons_of_mem _ he)
theorem FE.re (x:FE B h env) (y:FE B h' top) (e:top.frame=env.frame):FE B h' env:=let ⟨k,lo,_,_,_,_⟩:=x;let ⟨_,_,a,b,c,d⟩:=y;⟨k,lo,e.symm.trans a,b,c,d⟩
theorem FF.re (x:FF B h (env::r)) (y:FF B h' (top::l)) (e:top.frame=env.frame):FF B h' (env::top::l):=fun a ha=>by
 rcases List.mem_cons.mp ha with rfl | ha
 ·exact (x a List.mem_cons_self).re (y top List.mem_cons_self) e
 ·exact y a ha
theorem FF.mem (x:FF B h l) {b:Addr} (hb:b∈l.filterMap (·.frame)):∃env∈l,env.frame=some b:=List.mem_filterMap.mp hb
theorem FF.new (x:FF B h l) {b:Addr} (hb:b∈l.filterMap (·.frame)):B.get? b=none∧∃o,h.get? b=some o∧∃es n,o.data=.dict es n:=by
 obtain ⟨env,he,hf⟩:=x.mem hb
 obtain ⟨_,_,a,b',c,d⟩:=x env he
 cases a.symm.trans hf
 exact ⟨Heap.get?_none_of_le b',_,c,_,_,d⟩
theorem FE.ev (x:FE B h env) (e:Ev C M h h') (hM:∀L,env.frame=some L→L∉M):FE B h' env:=by
 obtain ⟨k,lo,a,b,c,d⟩:=x
 obtain ⟨o',e',ob⟩:=e.kept _ _ c (hM _ a)
 exact ⟨k,lo,a,b,e',ob.dict d⟩
theorem FF.ev (x:FF B h l) (e:Ev C [] h h'):FF B h' l:=fun env he=>(x env he).ev e fun _ _ q=>nomatch q
theorem FE.but {a:Addr} (x:FE B h env) (km:∀b o,b≠a→h.get? b=some o→h'.get? b=some o) (hM:env.frame≠some a):FE B h' env:=by
 obtain ⟨k,lo,f,b,c,d⟩:=x
 exact ⟨k,lo,f,b,km _ _ (fun q=>hM (q▸f)) c,d⟩
theorem ev_slots (x:FF B h l) (s:Heap.SlotsOnly (l.filterMap (·.frame)) h h'):Ev C M h h':=
 ⟨fun b o e=>by
   by_cases q:b∈l.filterMap (·.frame)
   ·obtain ⟨_,o',e',_,_,d⟩:=x.new q
    cases e.symm.trans e'
    obtain ⟨sl,k⟩:=s.2.2 b o e
    exact ⟨_,k,fun _=>.slots d rfl⟩
   ·exact ⟨o,(s.2.1 b q).trans e,fun _=>.same rfl⟩⟩
theorem stays_slots (x:FF B h l) (s:Heap.SlotsOnly (l.filterMap (·.frame)) h h') (k:B.StaysIn h):B.StaysIn h':=fun b o e=>
 (s.2.1 b fun q=>ne_some (x.new q).1 e).trans (k b o e)
end
section
variable {M:Model} {A:Around} {E:Value→Shared→Prop} {s:Shared} {C:Addr} {B:Heap} {env top:Env} {outer:List Env} {L e:Addr} {x:Xc} {Q:Unit→Shared→Prop}
theorem frameOf_top (h:top.frame=env.frame):PySem.frameOf env=PySem.frameOf top:=by
 unfold PySem.frameOf;rw [h]
abbrev FlyK (P:Addr→Heap→Heap→Addr→Xc→Prop) (C:Addr) (B:Heap) (e:Addr) (x:Xc) (Q:Unit→Shared→Prop) (s:Shared):Prop:=
 ∀h',B.StaysIn h'→Ev C [] s.heap h'→P C B h' e x→Q () { s with heap:=h'}
theorem Ev.then {M:List Addr} {h h₁ h₂:Heap} (x:Ev C M h h₁) (y:Ev C [] h₁ h₂):Ev C M h h₂:=x.trans y fun _ q=>nomatch q
theorem fly_entry {head:Value} {had:Bool} (hfr:A.frames=some (top::outer)) (htp:top.frame=env.frame) (ff:FF B s.heap (top::outer)) (hf:env.frame=some L) (hB:B.StaysIn s.heap)
 (f:Fly C B s.heap e x) (k:FlyK Flown C B e x Q s):
 wpAny M A (do let a ←frameOf env;let pl ←entryPlaceOf L had;let b ←EntryCells.newEntry head a .none (rawInt L) .none pl;setField (.ref e) 1 b) Q E s:=by
 obtain ⟨f,htb⟩:=f
 rw [frameOf_top htp]
 refine wpAny_bind (wpAny_frameOf_fun hfr ff.fun (htp.trans hf) fun h₁ hs₁=>?_)
 have e₁:Ev C [] s.heap h₁:=ev_slots ff hs₁
 have hB₁:=stays_slots ff hs₁ hB
 refine wpAny_bind (wpAny_entryPlaceOf fun pl hpl=>?_)
 unfold EntryCells.newEntry newFields
 refine wpAny_bind (wpAny_newObj_type ?_ (hpl.sizeOk5 _ _ _ _ _))
 have he₁:=(hs₁.2.1 e fun hm=>let ⟨_,_,ho,_,_,d⟩:=ff.new hm;nd_f f.data _ _ (Option.some.inj (f.at_.symm.trans ho)▸d)).trans f.at_
 generalize hob:({ cls:=.type "traceback",dict:=none,data:=.fields ([head,.ref L,.none,rawInt L,.none]++(if pl.isEmpty then List.replicate 6 Value.none else pl)).toArray}:Obj)=ob
 have he₂:=Heap.get?_push_of_some (h:=h₁) ob he₁
 refine wpAny_setField he₂ f.data (Nat.lt_of_lt_of_le (by decide) f.size) ?_
 have ev:=ev_field (C:=C) (M:=[]) 1 (.ref h₁.objs.size) he₂ (f.cls▸f.vol) f.data (by decide) (by decide)
 have hTe:h₁.objs.size≠e:=Nat.ne_of_gt (Heap.lt_size he₁)
 have k2:=(e₁.then (Ev.push C [] h₁ ob)).then ev
 refine k _ (stays_update _ (stays_push ob hB₁) f.new) k2 ⟨f.set (b:=x.bare) (at_field _ _ he₂ f.data) k2.kp (by decide) fun q=>⟨q,by decide⟩,⟨?_,hTe,hB₁.fresh,(Heap.get?_update_other _ _ (Ne.symm hTe)).trans (Heap.get?_push_size h₁ (by rw [←hob];rfl)),by rw [←hob],by rw [←hob],?_⟩⟩
 ·rw [Array.getElem?_setIfInBounds,if_pos rfl,if_pos (Nat.lt_of_lt_of_le (by decide) f.size)]
 ·simp only [List.size_toArray,List.length_append,List.length_cons,List.length_nil];lia
theorem fly_setFlight {fl:Option Addr} (hB:B.StaysIn s.heap) (f:Flown C B s.heap e x) (k:FlyK Flown C B e x Q s):
 wpAny M A (setFlight (.ref e) fl) Q E s:=by
 obtain ⟨f,h1,hTe,hTn,hT,hTc,hTd,hTs⟩:=f
 unfold setFlight
 refine wpAny_bind (wpAny_field f.at_ f.data h1 ?_)
 rw [if_pos (show (Value.ref _ != Value.none)=true from by simp)]
 refine wpAny_setField hT hTd (Nat.lt_of_lt_of_le (by decide) hTs) ?_
 have ev:=ev_field (C:=C) (M:=[]) 3 (fl.elim .none fun f=>rawInt f) hT (hTc▸rfl) hTd (by decide) (by decide)
 exact k _ (stays_update _ hB hTn) ev ⟨f.keep ((Heap.get?_update_other _ _ hTe).trans f.at_) ev.kp,h1,hTe,hTn,at_field _ _ hT hTd,hTc,rfl,le_set hTs⟩
theorem fly_note (hfr:A.frames=some (top::outer)) (htp:top.frame=env.frame) (ff:FF B s.heap (env::top::outer)) (hB:B.StaysIn s.heap)
 (f:Fly C B s.heap e x) (k:FlyK Flown C B e x Q s):wpAny M A (noteFrame (.ref e) env) Q E s:=by
 obtain ⟨_,_,hf,_,_,_⟩:=ff env List.mem_cons_self
 obtain ⟨f,htb⟩:=id f
 unfold noteFrame
 simp only [hf]
 rcases id htb with h1 | ⟨h1,hTe,hTn,hT,hTc,hTd,hTs⟩
 ·refine wpAny_bind (wpAny_field f.at_ f.data h1 ?_)
  rw [if_neg (by decide)]
  exact fly_entry hfr htp ff.tail hf hB ⟨f,htb⟩ k
 ·refine wpAny_bind (wpAny_field f.at_ f.data h1 ?_)
  rw [if_pos (show (Value.ref _ != Value.none)=true from by simp)]
  refine wpAny_bind (wpAny_field hT hTd (Array.getElem?_eq_getElem (Nat.lt_of_lt_of_le (by decide) hTs)) ?_)
  split
  ·exact wpAny_pure (k s.heap hB (.refl ..) ⟨f,h1,hTe,hTn,hT,hTc,hTd,hTs⟩)
  ·refine wpAny_bind (wpAny_setField hT hTd (Nat.lt_of_lt_of_le (by decide) hTs) ?_)
   have ev:=ev_field (C:=C) (M:=[]) 3 .none hT (hTc▸rfl) hTd (by decide) (by decide)
   exact fly_entry (s:={ s with heap:=s.heap.update _ (Obj.mapFields (·.setIfInBounds 3 .none))}) hfr htp (ff.ev ev).tail hf (stays_update _ hB hTn)
    ⟨f.keep ((Heap.get?_update_other _ _ hTe).trans f.at_) ev.kp,.inr ⟨h1,hTe,hTn,at_field _ _ hT hTd,hTc,rfl,le_set hTs⟩⟩ fun h' b1 b2 b3=>k h' b1 (ev.then b2) b3
theorem fly_leaving (hfr:A.frames=some (top::outer)) (htp:top.frame=env.frame) (ff:FF B s.heap (env::top::outer)) (hB:B.StaysIn s.heap)
 (f:Fly C B s.heap e x) (k:FlyK Flown C B e x Q s):wpAny M A (PySem.leaving env (.ref e)) Q E s:=by
 unfold PySem.leaving
 refine wpAny_bind (fly_note hfr htp ff hB f fun h₁ a1 a2 a3=>?_)
 exact fly_setFlight (s:={ s with heap:=h₁}) a1 a3 fun h₂ b1 b2 b3=>k h₂ b1 (a2.then b2) b3
end
end
section
structure Kx where
 prog:Program
 w:World
 C:Addr
 B:Heap
 os:OsState
 tabs:List (Addr×Addr×Str):=[]
structure St where
 loc:List (Str×V)
 sto:List (Addr×List V)
structure Cx where
 A:Around
 hc:Bool:=true
 env:Env
 top:Env
 outer:List Env
 L:Addr
noncomputable abbrev Kx.M (K:Kx):Model:=model K.prog K.w
noncomputable abbrev adr (st:St):List Addr:=st.sto.map (·.1)
noncomputable abbrev Cx.frs (c:Cx):List Env:=c.env::c.top::c.outer
structure Cx.Ok (c:Cx):Prop where
 frames:c.A.frames=some (c.top::c.outer)
 tp:c.top.frame=c.env.frame
 frame:∃F,c.env.frame=some F
 locals:c.env.locals=c.L
 kind:c.env.scope.kind=.function
 globals:c.env.globals=mainGlobals
 builtins:c.env.builtins=builtinsNs
 apart:c.L∉c.outer.filterMap (·.frame)
 handled:c.A.handled≠some byPass
def LocIs (h:Heap) (loc:List (Str×V)) (m:Str→Option Value):Prop:=∀x v,loc.lookup x=some v→∃val,m x=some val∧Is h v val
noncomputable def isC:List V→Bool
 | .mark::_=>true
 | _=>false
noncomputable def stoL:List V→List V
 | .mark::r=>r
 | l=>l
noncomputable def stoO (l:List V) (vs:List Value) (n:Nat):Obj:=match isC l with
 | true=>{ cls:=.type "cell",data:=.cell vs.head?}
 | false=>{ cls:=.type "list",data:=.seq vs.toArray n}
theorem stoO_is (l:List V) (vs:List Value) (n:Nat):((stoO l vs n).cls=.type "cell"∨(stoO l vs n).cls=.type "list")∧(∀us,(stoO l vs n).data≠.fields us)∧∀es k,(stoO l vs n).data≠.dict es k:=by
 unfold stoO;split
 ·exact ⟨.inl rfl,nofun,nofun⟩
 ·exact ⟨.inr rfl,nofun,nofun⟩
section
variable {l:List V} {vs:List Value} {n:Nat} {h:Heap}
theorem stoO_nf {us:Array Value} (h:(stoO l vs n).data=.fields us):False:=(stoO_is ..).2.1 _ h
theorem stoO_nd {es:Array DictEntry} {k:Nat} (h:(stoO l vs n).data=.dict es k):False:=(stoO_is ..).2.2 _ _ h
theorem stoO_nm (l:List V) (vs:List Value) (n:Nat):¬Firm (stoO l vs n):=fun f=>by
 rcases (stoO_is l vs n).1 with z | z<;>rcases f.1 with q | q | q<;>exact absurd (Value.type.inj (z.symm.trans q)) (by decide)
theorem vol_sto (C:Addr) (l:List V) (vs:List Value) (n:Nat):Vol C (stoO l vs n).cls=false:=by
 rcases (stoO_is l vs n).1 with z | z<;>rw [z]<;>exact of_decide_eq_true rfl
theorem isC_of (i:IsL h l vs):isC l=false:=by
 cases l with
 | nil=>rfl
 | cons a l=>cases a<;>first | rfl | exact i.c.casesOn fun i _=>i.inv.elim
theorem stoL_of (h:isC l=false):stoL l=l:=by
 cases l with
 | nil=>rfl
 | cons a l=>cases a<;>first | rfl | exact Bool.noConfusion h
theorem stoO_of (h:isC l=false):stoO l vs n={ cls:=.type "list",data:=.seq vs.toArray n}:=by
 unfold stoO;rw [h]
end
inductive StoAt (B h:Heap) (x:Addr×List V):Prop
 | mk {vs:List Value} {n:Nat} (new:B.get? x.1=none) (at_:h.get? x.1=some (stoO x.2 vs n)) (i:IsL h (stoL x.2) vs)
def StoIs (B h:Heap) (sto:List (Addr×List V)):Prop:=∀x∈sto,StoAt B h x
inductive CodeOf (h:Heap) (q:Str):Value→Prop
 | mk {c:Addr} {oc:Obj} {vc:Array Value} {t:Tok} (at_:h.get? c=some oc) (cls:oc.cls=.type "code") (data:oc.data=.fields vc) (nm:vc[1]?=some (.str q t)):CodeOf h q (.ref c)
inductive TabIs (B h:Heap) (t:Addr×Addr×Str):Prop
 | mk {ps:Array Value} (new:B.get? t.2.1=none) (low:t.2.1 <B.objs.size) (at_:h.get? t.2.1=some (tabObj ps)) (ok:TriplesOk ps.toList) (codes:∀pos v,codeAmong pos ps.toList=some v→CodeOf h t.2.2 v)
noncomputable abbrev tadr (K:Kx):List Addr:=K.tabs.map (·.2.1)
theorem CodeOf.keep {h h':Heap} {q:Str} {v:Value} (k:Keeps h h'):CodeOf h q v→CodeOf h' q v:=fun ⟨g,cc,dc,r⟩=>⟨k.cd g cc dc,cc,dc,r⟩
theorem TabIs.keep {B h h':Heap} {t:Addr×Addr×Str} (k:Keeps h h') (e:h'.get? t.2.1=h.get? t.2.1):TabIs B h t→TabIs B h' t:=fun ⟨a,b,g,o,r⟩=>⟨a,b,e.trans g,o,fun p v q=>(r p v q).keep k⟩
structure RelG (K:Kx) (fr:List Env) (hd:Option Value) (hc:Bool) (sto:List (Addr×List V)) (s:Shared):Prop where
 base:K.B.StaysIn s.heap
 gens:s.gens=#[]
 os:s.os=K.os
 ff:FF K.B s.heap fr
 lists:StoIs K.B s.heap sto
 nod:(sto.map (·.1)).Nodup
 held:HeldO K.C K.B s.heap hd hc
 tabs:∀t∈K.tabs,TabIs K.B s.heap t
inductive LocAt (h:Heap) (L:Addr) (loc:List (Str×V)):Prop
 | mk {m:Str→Option Value} (ns:h.Ns L m) (is:LocIs h loc m)
structure Rel (K:Kx) (c:Cx) (st:St) (s:Shared):Prop where
 g:RelG K c.frs c.A.handled c.hc st.sto s
 ok:c.Ok
 loc:LocAt s.heap c.L st.loc
structure Go (K:Kx) (L:Addr) (st st':List Addr) (h h':Heap):Prop where
 ev:Ev K.C (L::(st++tadr K)) h h'
 dom:∀a∈st',a∈st∨h.get? a=none
theorem Go.refl (K:Kx) (L:Addr) (d:List Addr) (h:Heap):Go K L d d h h:=⟨.refl ..,fun _ x=>.inl x⟩
theorem mem3 {L a:Addr} {x y:List Addr} {p:Prop} (h:a∈L::(x++y)) (h1:a=L→p) (h2:a∈x→p) (h3:a∈y→p):p:=by
 rcases List.mem_cons.mp h with e | h
 ·exact h1 e
 ·exact (List.mem_append.mp h).elim h2 h3
theorem in2 {L a:Addr} {x y:List Addr} (h:a∈x):a∈L::(x++y):=List.mem_cons_of_mem _ (List.mem_append_left _ h)
theorem in3 {L a:Addr} {x y:List Addr} (h:a∈y):a∈L::(x++y):=List.mem_cons_of_mem _ (List.mem_append_right _ h)
theorem Go.trans {K:Kx} {L:Addr} {d d' d'':List Addr} {h h₁ h₂:Heap} (x:Go K L d d' h h₁) (y:Go K L d' d'' h₁ h₂):Go K L d d'' h h₂:=
 ⟨x.ev.trans y.ev fun a ha=>mem3 ha (fun e=>.inl (e▸List.mem_cons_self)) (fun ha=>(x.dom a ha).imp in2 id) fun ha=>.inl (in3 ha),fun a ha=>(y.dom a ha).elim (x.dom a) fun q=>.inr (x.ev.none q)⟩
theorem Go.more {K:Kx} {L:Addr} {d d':List Addr} {h h₁ h₂:Heap} (x:Go K L d d' h h₁) (y:Ev K.C [] h₁ h₂):Go K L d d' h h₂:=⟨x.ev.then y,x.dom⟩
theorem Ev.go {K:Kx} {h h':Heap} (e:Ev K.C [] h h') (L:Addr) (d:List Addr):Go K L d d h h':=⟨e.wide,fun _ q=>.inl q⟩
section
variable {K:Kx} {c:Cx} {st:St} {s:Shared} {h':Heap}
theorem Rel.dictL (r:Rel K c st s):∃o es ep,s.heap.get? c.L=some o∧o.data=.dict es ep:=by
 obtain ⟨⟨o,es,ep,a,b,_⟩,_⟩:=r.loc
 exact ⟨o,es,ep,a,b⟩
theorem Rel.who (r:Rel K c st s) {a:Addr} (ha:a∈c.L::(adr st++tadr K)) {o:Obj} (e:s.heap.get? a=some o):¬Firm o∧(∀vs,o.data=.fields vs→o.cls=.none):=mem3 ha
 (fun q=>by
   obtain ⟨o',es,n,e',d⟩:=r.dictL
   cases (q▸e).symm.trans e'
   exact ⟨fun f=>f.2 _ _ d,fun vs q=>absurd d (nd_f q _ _)⟩)
 (fun ha=>by
   obtain ⟨x,hx,q⟩:=List.mem_map.mp ha
   obtain ⟨_,e',_⟩:=r.g.lists x hx
   cases (q▸e).symm.trans e'
   exact ⟨stoO_nm _ _ _,fun vs q=>(stoO_nf q).elim⟩)
 fun ha=>by
  obtain ⟨x,hx,q⟩:=List.mem_map.mp ha
  obtain ⟨_,_,e',_⟩:=r.g.tabs x hx
  cases (q▸e).symm.trans e'
  exact ⟨fun f=>by (rcases f.1 with q | q | q<;>cases q),fun _ _=>rfl⟩
theorem Go.keeps {d:List Addr} (r:Rel K c st s) (x:Go K c.L (adr st) d s.heap h'):Keeps s.heap h':=x.ev.keeps fun a ha o e=>(r.who ha e).1
theorem StoAt.but {B h h':Heap} {x:Addr×List V} (y:StoAt B h x) (e:h'.get? x.1=h.get? x.1) (k:Keeps h h'):StoAt B h' x:=let ⟨b,g,i⟩:=y;⟨b,e.trans g,i.keep k⟩
theorem StoAt.ev {C:Addr} {M:List Addr} {B h h':Heap} {x:Addr×List V} (y:StoAt B h x) (e:Ev C M h h') (hx:x.1∉M) (k:Keeps h h'):StoAt B h' x:=let ⟨b,g,i⟩:=y;⟨b,e.at g hx (fun _ _=>stoO_nd) (vol_sto ..),i.keep k⟩
theorem ns_ev {C:Addr} {M:List Addr} {h h':Heap} {L:Addr} {m:Str→Option Value} (x:h.Ns L m) (e:Ev C M h h') (hL:L∉M):h'.Ns L m:=by
 obtain ⟨o,es,ep,g,d,k,f⟩:=x
 obtain ⟨o',g',ob⟩:=e.kept L o g hL
 exact ⟨o',es,ep,g',ob.dict d,k,f⟩
theorem LocIs.keep {h h':Heap} {loc:List (Str×V)} {m:Str→Option Value} (x:LocIs h loc m) (k:Keeps h h'):LocIs h' loc m:=fun y v e=>let ⟨val,a,i⟩:=x y v e;⟨val,a,i.keep k⟩
theorem LocAt.ev {C:Addr} {M:List Addr} {h h':Heap} {L:Addr} {loc:List (Str×V)} (x:LocAt h L loc) (e:Ev C M h h') (hL:L∉M) (k:Keeps h h'):LocAt h' L loc:=let ⟨a,b⟩:=x;⟨ns_ev a e hL,b.keep k⟩
theorem TabIs.at' {C:Addr} {M:List Addr} {B h h':Heap} {t:Addr×Addr×Str} (x:TabIs B h t) (e:Ev C M h h') (hx:t.2.1∉M) (k:Keeps h h'):TabIs B h' t:=by
 obtain ⟨_,_,g,_⟩:=id x
 exact x.keep k ((e.at g hx nofun rfl).trans g.symm)
theorem Rel.ev (r:Rel K c st s) (hB:K.B.StaysIn h') (e:Ev K.C [] s.heap h'):Rel K c st { s with heap:=h'}:=
 have k:=e.kp
 have no:∀a:Addr,a∉([]:List Addr):=fun _ q=>nomatch q
 ⟨⟨hB,r.g.gens,r.g.os,r.g.ff.ev e,fun y hy=>(r.g.lists y hy).ev e (no _) k,r.g.nod,fun y a b=>(r.g.held y a b).ev e (no _),fun t ht=>(r.g.tabs t ht).at' e (no _) k⟩,r.ok,r.loc.ev e (no _) k⟩
theorem Rel.toks (r:Rel K c st s) (n:Nat):Rel K c st { s with toks:=n}:=⟨⟨r.g.base,r.g.gens,r.g.os,r.g.ff,r.g.lists,r.g.nod,r.g.held,r.g.tabs⟩,r.ok,r.loc⟩
theorem Rel.but {a:Addr} {st':St} (r:Rel K c st s) (km:∀b o,b≠a→s.heap.get? b=some o→h'.get? b=some o) (hB:K.B.get? a=none) (hf:∀o,s.heap.get? a=some o→¬Firm o) (hff:FF K.B h' c.frs) (hh:c.A.handled=some (.ref a)→c.hc=true→False)
 (hs:Keeps s.heap h'→StoIs K.B h' st'.sto) (nod:(adr st').Nodup) (ht:Keeps s.heap h'→∀t∈K.tabs,t.2.1=a→TabIs K.B h' t) (hl:Keeps s.heap h'→LocAt h' c.L st'.loc):Rel K c st' { s with heap:=h'}:=by
 have kp:Keeps s.heap h':=fun b o e f=>km b o (fun q=>hf o (q▸e) f) e
 refine ⟨⟨fun b o e=>km b o (fun q=>ne_some (q▸hB) e) (r.g.base b o e),r.g.gens,r.g.os,hff,hs kp,nod,fun y p q=>?_,fun t h=>?_⟩,r.ok,hl kp⟩
 ·obtain ⟨g,x1,x2,x3,x4,x5⟩:=r.g.held y p q
  exact ⟨km _ _ (fun w=>hh (w▸p) q) g,x1,x2,x3,x4,x5⟩
 ·by_cases q:t.2.1=a
  ·exact ht kp t h q
  ·obtain ⟨_,_,g,_⟩:=id (r.g.tabs t h)
   exact (r.g.tabs t h).keep kp ((km _ _ q g).trans g.symm)
theorem notTab {P:Addr×Addr×Str→Prop} {a:Addr} (ha:a∉tadr K) (t:Addr×Addr×Str) (ht:t∈K.tabs) (q:t.2.1=a):P t:=absurd (q▸List.mem_map_of_mem (f:=fun t:Addr×Addr×Str=>t.2.1) ht) ha
theorem LocAt.but {h h':Heap} {L a:Addr} {loc:List (Str×V)} (x:LocAt h L loc) (km:∀b o,b≠a→h.get? b=some o→h'.get? b=some o) (ha:L≠a) (k:Keeps h h'):LocAt h' L loc:=let ⟨⟨o,es,ep,e,d,r⟩,b⟩:=x;⟨⟨o,es,ep,km _ _ ha e,d,r⟩,b.keep k⟩
theorem StoAt.km {B h h':Heap} {a:Addr} {x:Addr×List V} (y:StoAt B h x) (km:∀b o,b≠a→h.get? b=some o→h'.get? b=some o) (ha:x.1≠a) (k:Keeps h h'):StoAt B h' x:=let ⟨b,g,i⟩:=y;⟨b,km _ _ ha g,i.keep k⟩
theorem Rel.keepBut (r:Rel K c st s) {a:Addr} {o:Obj} {vs:Array Value} (km:∀b o,b≠a→s.heap.get? b=some o→h'.get? b=some o) (ga:s.heap.get? a=some o) (hd:o.data=.fields vs) (haB:K.B.get? a=none)
 (hc:o.cls≠.none) (hf:¬Firm o) (hne:c.A.handled≠some (.ref a)):Rel K c st { s with heap:=h'}:=by
 have nm:a∉c.L::(adr st++tadr K):=fun hm=>hc ((r.who hm ga).2 _ hd)
 refine r.but km haB (fun o' e=>Option.some.inj (ga.symm.trans e)▸hf) (fun env he=>(r.g.ff env he).but km fun q=>?_) (fun q _=>hne q) (fun k y hy=>(r.g.lists y hy).km km (fun q=>nm (q▸in2 (List.mem_map_of_mem hy))) k) r.g.nod (fun _=>notTab fun q=>nm (in3 q)) fun k=>r.loc.but km (fun q=>nm (q▸List.mem_cons_self)) k
 obtain ⟨_,_,f1,_,g1,d1⟩:=r.g.ff env he
 cases f1.symm.trans q
 cases ga.symm.trans g1
 exact nd_f hd _ _ d1
end
structure Nx (K:Kx) (c:Cx) (st:St) (s:Shared) (st':St) (s':Shared):Prop where
 r:Rel K c st' s'
 g:Go K c.L (adr st) (adr st') s.heap s'.heap
section
variable {K:Kx} {c:Cx} {st st₁ st₂:St} {s s₁ s₂ s':Shared}
theorem Nx.refl (r:Rel K c st s):Nx K c st s st s:=⟨r,.refl ..⟩
theorem Nx.trans (n:Nx K c st s st₁ s₁) (m:Nx K c st₁ s₁ st₂ s₂):Nx K c st s st₂ s₂:=⟨m.r,n.g.trans m.g⟩
theorem Nx.toks (n:Nx K c st s st₁ s₁) (k:Nat):Nx K c st s st₁ { s₁ with toks:=k}:=⟨n.r.toks k,n.g⟩
theorem Nx.kp (n:Nx K c st s st₁ s₁) (r:Rel K c st s):Keeps s.heap s₁.heap:=n.g.keeps r
theorem Nx.ev (n:Nx K c st s st₁ s₁) {h':Heap} (hB:K.B.StaysIn h') (e:Ev K.C [] s₁.heap h'):Nx K c st s st₁ { s₁ with heap:=h'}:=⟨n.r.ev hB e,n.g.more e⟩
inductive QV (K:Kx) (c:Cx) (st:St) (s:Shared) (Q:V→St→Prop) (v:Value) (s':Shared):Prop
 | mk (a:V) (st':St) (n:Nx K c st s st' s') (i:Is s'.heap a v) (q:Q a st')
inductive QX (K:Kx) (c:Cx) (st:St) (s:Shared) (X:Xc→St→Prop) (v:Value) (s':Shared):Prop
 | mk (e:Addr) (x:Xc) (st':St) (hv:v=.ref e) (n:Nx K c st s st' s') (f:Fly K.C K.B s'.heap e x) (q:X x st')
inductive QB (K:Kx) (c:Cx) (st:St) (s:Shared) (Q:Bool→St→Prop) (b:Bool) (s':Shared):Prop
 | mk (st':St) (n:Nx K c st s st' s') (q:Q b st')
inductive QU (K:Kx) (c:Cx) (st:St) (s:Shared) (R:St→Prop) (s':Shared):Prop
 | mk (st':St) (n:Nx K c st s st' s') (q:R st')
variable {X:Xc→St→Prop} {Q:V→St→Prop} {T:Bool→St→Prop} {A:Around}
theorem QX.after {v:Value} (n:Nx K c st s st₁ s₁):QX K c st₁ s₁ X v s'→QX K c st s X v s'
 | ⟨e,x,st',ev,m,f,q⟩=>⟨e,x,st',ev,n.trans m,f,q⟩
def TV (K:Kx) (c:Cx) (t:Sem Value) (st:St) (Q:V→St→Prop) (X:Xc→St→Prop):Prop:=
 ∀s,Rel K c st s→wpAny K.M c.A t (QV K c st s Q) (QX K c st s X) s
abbrev EV (K:Kx) (c:Cx) (e:Expr) (st:St) (Q:V→St→Prop) (X:Xc→St→Prop):Prop:=TV K c (eval e c.env) st Q X
def Op1 (K:Kx) (c:Cx) (f:Value→Sem Value) (a:V) (st:St) (Q:V→St→Prop) (X:Xc→St→Prop):Prop:=
 ∀s v,Rel K c st s→Is s.heap a v→wpAny K.M c.A (f v) (QV K c st s Q) (QX K c st s X) s
def Op2 (K:Kx) (c:Cx) (f:Value→Value→Sem Value) (a b:V) (st:St) (Q:V→St→Prop) (X:Xc→St→Prop):Prop:=
 ∀s v u,Rel K c st s→Is s.heap a v→Is s.heap b u→wpAny K.M c.A (f v u) (QV K c st s Q) (QX K c st s X) s
def TB (K:Kx) (c:Cx) (t:Sem Bool) (st:St) (Q:Bool→St→Prop) (X:Xc→St→Prop):Prop:=∀s,Rel K c st s→wpAny K.M c.A t (QB K c st s Q) (QX K c st s X) s
abbrev ET (K:Kx) (c:Cx) (e:Expr) (st:St) (Q:Bool→St→Prop) (X:Xc→St→Prop):Prop:=TB K c (isTrue e c.env (eval e c.env)) st Q X
theorem TV.go {t:Sem Value} {P:Value→Shared→Prop} (h:TV K c t st₁ Q X) (n:Nx K c st s st₁ s₁) (k:∀v s₂ a st₂,Nx K c st s st₂ s₂→Keeps s₁.heap s₂.heap→Is s₂.heap a v→Q a st₂→P v s₂):wpAny K.M c.A t P (QX K c st s X) s₁:=
 wpAny_mono (h s₁ n.r) (fun v s₂ z=>z.casesOn fun a st₂ m i q=>k v s₂ a st₂ (n.trans m) (m.kp n.r) i q) fun _ _ z=>z.after n
theorem TB.go {t:Sem Bool} {P:Bool→Shared→Prop} (h:TB K c t st₁ T X) (n:Nx K c st s st₁ s₁) (k:∀v s₂ st₂,Nx K c st s st₂ s₂→Keeps s₁.heap s₂.heap→T v st₂→P v s₂):wpAny K.M c.A t P (QX K c st s X) s₁:=
 wpAny_mono (h s₁ n.r) (fun v s₂ z=>z.casesOn fun st₂ m q=>k v s₂ st₂ (n.trans m) (m.kp n.r) q) fun _ _ z=>z.after n
theorem TV.fin {t:Sem Value} (h:TV K c t st₁ Q X) (n:Nx K c st s st₁ s₁):wpAny K.M c.A t (QV K c st s Q) (QX K c st s X) s₁:=h.go n fun _ _ a _ n _ i q=>⟨a,_,n,i,q⟩
theorem TB.fin {t:Sem Bool} (h:TB K c t st₁ T X) (n:Nx K c st s st₁ s₁):wpAny K.M c.A t (QB K c st s T) (QX K c st s X) s₁:=h.go n fun _ _ _ n _ q=>⟨_,n,q⟩
theorem Op1.go {f:Value→Sem Value} {a:V} {v:Value} {P:Value→Shared→Prop} (h:Op1 K c f a st₁ Q X) (n:Nx K c st s st₁ s₁) (i:Is s₁.heap a v) (k:∀v s₂ a st₂,Nx K c st s st₂ s₂→Keeps s₁.heap s₂.heap→Is s₂.heap a v→Q a st₂→P v s₂):wpAny K.M c.A (f v) P (QX K c st s X) s₁:=
 wpAny_mono (h s₁ v n.r i) (fun v s₂ z=>z.casesOn fun a st₂ m i q=>k v s₂ a st₂ (n.trans m) (m.kp n.r) i q) fun _ _ z=>z.after n
theorem Op2.go {f:Value→Value→Sem Value} {a b:V} {v u:Value} {P:Value→Shared→Prop} (h:Op2 K c f a b st₁ Q X) (n:Nx K c st s st₁ s₁) (i:Is s₁.heap a v) (j:Is s₁.heap b u) (k:∀v s₂ a st₂,Nx K c st s st₂ s₂→Keeps s₁.heap s₂.heap→Is s₂.heap a v→Q a st₂→P v s₂):wpAny K.M c.A (f v u) P (QX K c st s X) s₁:=
 wpAny_mono (h s₁ v u n.r i j) (fun v s₂ z=>z.casesOn fun a st₂ m i q=>k v s₂ a st₂ (n.trans m) (m.kp n.r) i q) fun _ _ z=>z.after n
theorem Op1.fin {f:Value→Sem Value} {a:V} {v:Value} (h:Op1 K c f a st₁ Q X) (n:Nx K c st s st₁ s₁) (i:Is s₁.heap a v):wpAny K.M c.A (f v) (QV K c st s Q) (QX K c st s X) s₁:=h.go n i fun _ _ a _ n _ i q=>⟨a,_,n,i,q⟩
theorem Op2.fin {f:Value→Value→Sem Value} {a b:V} {v u:Value} (h:Op2 K c f a b st₁ Q X) (n:Nx K c st s st₁ s₁) (i:Is s₁.heap a v) (j:Is s₁.heap b u):wpAny K.M c.A (f v u) (QV K c st s Q) (QX K c st s X) s₁:=h.go n i j fun _ _ a _ n _ i q=>⟨a,_,n,i,q⟩
theorem TV.mono {t:Sem Value} {Q':V→St→Prop} {X':Xc→St→Prop} (h:TV K c t st Q X) (hQ:∀a s,Q a s→Q' a s) (hX:∀x s,X x s→X' x s):TV K c t st Q' X':=fun s r=>
 wpAny_mono (h s r) (fun _ _ ⟨a,st',n,i,q⟩=>⟨a,st',n,i,hQ _ _ q⟩) fun _ _ ⟨e,x,st',ev,n,f,q⟩=>⟨e,x,st',ev,n,f,hX _ _ q⟩
end
section
variable {K:Kx} {c:Cx} {st:St} {Q:V→St→Prop} {X:Xc→St→Prop} {T:Bool→St→Prop} {s s':Shared}
theorem QV.now {a:V} {v:Value} (r:Rel K c st s) (i:Is s.heap a v) (q:Q a st) (e:s'={ s with toks:=s'.toks}):QV K c st s Q v s':=
 ⟨a,st,e▸(Nx.refl r).toks _,by rw [e];exact i,q⟩
theorem EV_str {x:Str} {k:Nat} {pos:Pos} (q:Q (.str x) st) (hs:x.length≤sizeLine:=by decide):EV K c (.Constant (.str x) k pos) st Q X:=fun s r=>wpAny_Constant_str (QV.now r (.str _ _ hs) q rfl)
theorem EV_int {i:Int} {k:Nat} {pos:Pos} (q:Q (.int i) st):EV K c (.Constant (.int i) k pos) st Q X:=fun s r=>wpAny_Constant_int (QV.now r (.int _ _) q rfl)
theorem EV_bool {b:Bool} {k:Nat} {pos:Pos} (q:Q (.bool b) st):EV K c (.Constant (.bool b) k pos) st Q X:=fun s r=>wpAny_Constant_bool (QV.now r (.bool _) q rfl)
theorem EV_none {k:Nat} {pos:Pos} (q:Q .none st):EV K c (.Constant .none k pos) st Q X:=fun s r=>wpAny_Constant_none (QV.now r .none q rfl)
theorem Rel.at_ (r:Rel K c st s) {x:Str} {v:V} (hl:st.loc.lookup x=some v):∃m val,s.heap.Ns c.env.locals m∧m x=some val∧Is s.heap v val:=by
 obtain ⟨hn,hm⟩:=r.loc
 obtain ⟨val,e,i⟩:=hm x v hl
 exact ⟨_,val,r.ok.locals.symm▸hn,e,i⟩
theorem EV_loc {x:Str} {pos:Pos} {v:V} (q:Q v st) (hl:st.loc.lookup x=some v:=by rfl) (hk:c.env.kindOf x=some .local:=by kernel_rfl!) (hd:(x==("__debug__":Str))=false:=by decide):EV K c (.Name x pos) st Q X:=fun s r=>
 let ⟨_,_,hn,e,i⟩:=r.at_ hl;wpAny_Name (wpAny_loadName_local r.ok.kind hk hn e (QV.now r i q rfl)) hd
abbrev k1 (K:Kx) (c:Cx) (f:Value→Value→Sem Value) (a:V) (Q:V→St→Prop) (X:Xc→St→Prop):V→St→Prop:=fun b st=>Op2 K c f a b st Q X
abbrev k2 (K:Kx) (c:Cx) (f:Value→Value→Sem Value) (r:Expr) (Q:V→St→Prop) (X:Xc→St→Prop):V→St→Prop:=fun a st=>EV K c r st (k1 K c f a Q X) X
theorem k2_go {l r:Expr} {f:Value→Value→Sem Value} (h:EV K c l st (k2 K c f r Q X) X) (R:Rel K c st s):wpAny K.M c.A (eval l c.env) (fun v s₁=>wpAny K.M c.A (eval r c.env) (fun u s₂=>wpAny K.M c.A (f v u) (QV K c st s Q) (QX K c st s X) s₂) (QX K c st s X) s₁) (QX K c st s X) s:=
 h.go (.refl R) fun v s₁ a st₁ n _ i q=>TV.go q n fun u s₂ b st₂ n₂ kp i₂ q₂=>Op2.fin q₂ n₂ (i.keep kp) i₂
theorem EV_bin {l r:Expr} {op:Operator} {pos:Pos} (h:EV K c l st (k2 K c (binaryOp op) r Q X) X):EV K c (.BinOp l op r pos) st Q X:=fun s R=>wpAny_BinOp (k2_go h R)
theorem EV_cmp {l r:Expr} {op:CmpOp} {pos:Pos} (h:EV K c l st (k2 K c (compareOp op) r Q X) X) (hm:behindInMarks op r=false:=by with_unfolding_all rfl):EV K c (.Compare l [op] [r] pos) st Q X:=fun s R=>wpAny_Compare1 (k2_go h R) hm
noncomputable def Truthy:V→Option Bool
 | .none=>some false | .bool b=>some b | .int i=>some (i != 0) | .str s=>some (s.length != 0) | _=>Option.none
inductive KT (T:Bool→St→Prop) (a:V) (st:St):Prop
 | mk (b:Bool) (h:Truthy a=some b) (q:T b st)
end
end
section
section
variable {K:Kx} {c:Cx} {st st₁:St} {Q:V→St→Prop} {X:Xc→St→Prop} {R:Fl→St→Prop} {T:Bool→St→Prop} {s s₁ s':Shared} {A:Around}
theorem flown_field {C:Addr} {B:Heap} {e:Addr} {x:Xc} {M:Model} {E:Value→Shared→Prop} {α:Type} {f:Value→Sem α} {Q:α→Shared→Prop} (fl:Flown C B s.heap e x) (k:∀T:Addr,wpAny M A (f (.ref T)) Q E s):
 wpAny M A (field (.ref e) 1 >>= f) Q E s:=let ⟨f,h1,_,_,_,_,_,_⟩:=fl;wpAny_bind (wpAny_field f.at_ f.data h1 (k _))
inductive QN (K:Kx) (c:Cx) (st:St) (s:Shared) (X:Xc→St→Prop) (v:Value) (s':Shared):Prop
 | mk (e:Addr) (x:Xc) (st':St) (hv:v=.ref e) (n:Nx K c st s st' s') (f:Flown K.C K.B s'.heap e x) (q:X x st')
theorem qx_note {v:Value} (hA:A.frames=c.A.frames) (q:QX K c st s X v s'):wpAny K.M A (noteFrame v c.env) (fun _ s''=>QN K c st s X v s'') (fun _ _=>False) s':=
 let ⟨e,x,st',hv,n,f,q⟩:=q;hv▸fly_note (hA.trans n.r.ok.frames) n.r.ok.tp n.r.g.ff n.r.g.base f fun h' a b d=>⟨e,x,st',rfl,n.ev a b,d,q⟩
theorem qx_cameBack {v:Value} (q:QN K c st s X v s'):cameBackBy K.M A c.env (QX K c st s X) v s':=by
 obtain ⟨e,x,st',rfl,n,f,q⟩:=q
 unfold cameBackBy
 refine flown_field f fun T=>?_
 rw [if_neg (by simp)]
 exact fly_setFlight (s:=s') n.r.g.base f fun h' a b d=>⟨e,x,st',rfl,n.ev a b,d.fly,q⟩
theorem qx_noted {v:Value} {A':Around} (hA:A.frames=c.A.frames) (q:QX K c st s X v s'):notedBy K.M A c.env (cameBackBy K.M A' c.env (QX K c st s X)) v s':=
 wpAny_mono (qx_note hA q) (fun _ _ z=>qx_cameBack z) fun _ _ z=>z.elim
inductive Fl where
 | next | brk | cont | ret (v:V) | exc (x:Xc)
inductive FlIs (C:Addr) (B h₀ h:Heap):Fl→Flow→Prop
 | next:FlIs C B h₀ h .next .next
 | brk:FlIs C B h₀ h .brk .brk
 | cont:FlIs C B h₀ h .cont .cont
 | ret {v:V} {x:Value} (i:Is h v x):FlIs C B h₀ h (.ret v) (.ret x)
 | exc {x:Xc} {e:Addr} (f:Fly C B h e x) (n:h₀.get? e=Option.none):FlIs C B h₀ h (.exc x) (.ret (.ref e))
theorem FlIs.from {C C':Addr} {M:List Addr} {B h₀ h₁ h:Heap} {fl:Fl} {f:Flow} (k:Ev C' M h₀ h₁) (i:FlIs C B h₁ h fl f):FlIs C B h₀ h fl f:=
 i.casesOn .next .brk .cont .ret fun f n=>.exc f (k.none n)
inductive QF (K:Kx) (c:Cx) (st:St) (s:Shared) (Q:Fl→St→Prop) (f:Flow) (s':Shared):Prop
 | mk (fl:Fl) (st':St) (n:Nx K c st s st' s') (i:FlIs K.C K.B s.heap s'.heap fl f) (q:Q fl st')
def TS (K:Kx) (c:Cx) (t:Sem Flow) (st:St) (Q:Fl→St→Prop) (X:Xc→St→Prop):Prop:=∀s,Rel K c st s→wpAny K.M c.A t (QF K c st s Q) (QX K c st s X) s
abbrev ES (K:Kx) (c:Cx) (e:Stmt) (st:St) (Q:Fl→St→Prop) (X:Xc→St→Prop):Prop:=TS K c (exec e c.env) st Q X
abbrev EB (K:Kx) (c:Cx) (l:List Stmt) (st:St) (Q:Fl→St→Prop) (X:Xc→St→Prop):Prop:=TS K c (execs l c.env) st Q X
theorem TS.go {t:Sem Flow} {P:Flow→Shared→Prop} (h:TS K c t st₁ R X) (n:Nx K c st s st₁ s₁) (k:∀f s₂ fl st₂,Nx K c st s st₂ s₂→Keeps s₁.heap s₂.heap→FlIs K.C K.B s.heap s₂.heap fl f→R fl st₂→P f s₂):wpAny K.M c.A t P (QX K c st s X) s₁:=
 wpAny_mono (h s₁ n.r) (fun f s₂ z=>z.casesOn fun fl st₂ m i q=>k f s₂ fl st₂ (n.trans m) (m.kp n.r) (i.from n.g.ev) q) fun _ _ z=>z.after n
theorem TS.fin {t:Sem Flow} (h:TS K c t st₁ R X) (n:Nx K c st s st₁ s₁):wpAny K.M c.A t (QF K c st s R) (QX K c st s X) s₁:=h.go n fun _ _ fl _ n _ i q=>⟨fl,_,n,i,q⟩
theorem TS.mono {t:Sem Flow} {R':Fl→St→Prop} {X':Xc→St→Prop} (h:TS K c t st R X) (hQ:∀a s,R a s→R' a s) (hX:∀x s,X x s→X' x s):TS K c t st R' X':=fun s r=>
 wpAny_mono (h s r) (fun _ _ ⟨a,st',n,i,q⟩=>⟨a,st',n,i,hQ _ _ q⟩) fun _ _ ⟨e,x,st',ev,n,f,q⟩=>⟨e,x,st',ev,n,f,hX _ _ q⟩
abbrev kB (K:Kx) (c:Cx) (l:List Stmt) (R:Fl→St→Prop) (X:Xc→St→Prop):Fl→St→Prop:=fun f st=>match f with
 | .next=>EB K c l st R X
 | f=>R f st
theorem kB_go {l:List Stmt} {f:Flow} {fl:Fl} (n:Nx K c st s st₁ s₁) (i:FlIs K.C K.B s.heap s₁.heap fl f) (q:kB K c l R X fl st₁):match (generalizing:=false) f with | .next=>wpAny K.M c.A (execs l c.env) (QF K c st s R) (QX K c st s X) s₁ | f=>QF K c st s R f s₁:=by
 cases i with
 | next=>exact TS.fin q n
 | brk=>exact ⟨.brk,_,n,.brk,q⟩
 | cont=>exact ⟨.cont,_,n,.cont,q⟩
 | ret i=>exact ⟨.ret _,_,n,.ret i,q⟩
 | exc f e=>exact ⟨.exc _,_,n,.exc f e,q⟩
theorem EB_nil (q:R .next st):EB K c [] st R X:=fun s r=>wpAny_execs_nil ⟨.next,st,.refl r,.next,q⟩
theorem EB_cons {e:Stmt} {l:List Stmt} (h:ES K c e st (kB K c l R X) X):EB K c (e::l) st R X:=fun s r=>
 wpAny_execs_cons (h.go (.refl r) fun _ _ _ _ n _ i q=>kB_go n i q)
noncomputable def St.set (st:St) (x:Str) (v:V):St:={ st with loc:=(x,v)::st.loc}
theorem FF.sameBut {B h h':Heap} {l:List Env} {L:Addr} (x:FF B h l) (hs:Heap.SameBut L h h') (hL:∃o es n,h'.get? L=some o∧o.data=.dict es n):FF B h' l:=fun env he=>by
 obtain ⟨k,lo,a,b,g,d⟩:=x env he
 rename_i L' o es n
 by_cases q:L'=L
 ·subst q;obtain ⟨o',es',n',g',d'⟩:=hL;exact ⟨k,lo,a,b,g',d'⟩
 ·exact ⟨k,lo,a,b,(hs.2 L' q).trans g,d⟩
theorem Rel.above (r:Rel K c st s):K.B.objs.size≤c.L:=let ⟨_,h,_,_,_,_⟩:=r.g.ff c.env List.mem_cons_self;r.ok.locals▸h
theorem Rel.frame (r:Rel K c st s):K.B.get? c.L=none:=Heap.get?_none_of_le r.above
theorem Rel.fr (r:Rel K c st s):∃m,Fr K.B c.L s.heap m:=let ⟨hn,_⟩:=r.loc;⟨_,hn,r.g.base,r.above⟩
theorem Rel.heldNot (r:Rel K c st s) {a:Addr} (hd:∀o vs,s.heap.get? a=some o→o.data≠.fields vs) (p:c.A.handled=some (.ref a)) (q:c.hc=true):False:=let ⟨g,_,d,_,_,_⟩:=r.g.held a p q;hd _ _ g d
theorem Rel.stored (r:Rel K c st s) {h':Heap} {st':St} (hs:Heap.SameBut c.L s.heap h') {m':Str→Option Value} (hn:h'.Ns c.L m') (hst:st'.sto=st.sto) (hl:Keeps s.heap h'→LocIs h' st'.loc m'):Rel K c st' { s with heap:=h'}:=by
 obtain ⟨o,es,ep,g,d⟩:=r.dictL
 have ne:∀{o'},s.heap.get? c.L=some o'→o=o':=fun e=>Option.some.inj (g.symm.trans e)
 refine r.but (fun b o hb e=>(hs.2 b hb).trans e) r.frame (fun o' e f=>f.2 _ _ (ne e▸d)) (r.g.ff.sameBut hs (let ⟨o,es,ep,a,b,_⟩:=hn;⟨o,es,ep,a,b⟩)) (r.heldNot fun o' vs e q=>nd_f q _ _ (ne e▸d))
  (fun k y hy=>?_) (by rw [adr,hst];exact r.g.nod) (fun _=>notTab fun hm=>?_) fun k=>⟨hn,hl k⟩
 ·rw [hst] at hy
  refine (r.g.lists y hy).but (hs.2 _ fun q=>?_) k
  obtain ⟨_,g',_⟩:=r.g.lists y hy
  exact stoO_nd (ne (q▸g')▸d)
 ·obtain ⟨x,hx,q⟩:=List.mem_map.mp hm
  obtain ⟨_,low,_⟩:=r.g.tabs x hx
  exact Nat.lt_irrefl _ (Nat.lt_of_lt_of_le (q▸low) r.above)
theorem store_ok {x:Str} {v:V} {val:Value} {P:Unit→Shared→Prop} {E:Value→Shared→Prop} (n:Nx K c st s st₁ s₁) (i:Is s₁.heap v val) (hk:c.env.kindOf x=some .local)
 (k:∀s',Nx K c st s (st₁.set x v) s'→Keeps s₁.heap s'.heap→P () s'):wpAny K.M A (storeName c.env x val) P E s₁:=by
 obtain ⟨hn,hl⟩:=n.r.loc
 refine wpAny_storeName_local hk (n.r.ok.locals.symm▸hn) (fun h' a b=>?_) (by rw [n.r.ok.kind];rfl)
 rw [n.r.ok.locals] at a b
 have ev:Ev K.C [c.L] s₁.heap h':=Ev.sameBut b (fun _ _=>let ⟨o,_,_,e,_⟩:=a;⟨o,e⟩) (.inl List.mem_cons_self)
 have g:Go K c.L (adr st₁) (adr st₁) s₁.heap h':=⟨ev.mono fun a ha=>.inl (List.mem_singleton.mp ha▸List.mem_cons_self),fun _ q=>.inl q⟩
 refine k _ ⟨(n.r.stored (st':=st₁.set x v) b a rfl fun kp y w e=>?_).toks _,n.g.trans g⟩ (g.keeps n.r)
 simp only [St.set,List.lookup_cons] at e
 by_cases q:y=x
 ·subst q
  simp only [beq_self_eq_true,Option.some.injEq] at e
  subst e
  exact ⟨val,if_pos rfl,i.keep kp⟩
 ·simp only [beq_eq_false_iff_ne.mpr q] at e
  obtain ⟨w',e',i'⟩:=hl y w e
  exact ⟨w',(if_neg q).trans e',i'.keep kp⟩
abbrev kSet (x:Str) (R:Fl→St→Prop):V→St→Prop:=fun a st=>R .next (st.set x a)
abbrev kRet (R:Fl→St→Prop):V→St→Prop:=fun a st=>R (.ret a) st
abbrev kIf (K:Kx) (c:Cx) (b o:List Stmt) (R:Fl→St→Prop) (X:Xc→St→Prop):Bool→St→Prop:=fun z st=>match z with
 | true=>EB K c b st R X
 | false=>EB K c o st R X
theorem ES_assign {x:Str} {e:Expr} {pos' pos:Pos} (h:EV K c e st (kSet x R) X) (hk:c.env.kindOf x=some .local:=by kernel_rfl!)
 (hs:swapsWith e (some (.Name x pos')) pos.line c.env=pure false:=by kernel_rfl!):ES K c (.Assign [.Name x pos'] e pos) st R X:=fun s r=>
 wpAny_Assign_Name (h.go (.refl r) fun v s₁ a st₁ n _ i q=>store_ok n i hk fun s₂ n _=>⟨.next,_,n,.next,q⟩) hs
theorem ES_return {e:Expr} {pos:Pos} (h:EV K c e st (kRet R) X):ES K c (.Return (some e) pos) st R X:=fun s r=>
 wpAny_Return_some (h.go (.refl r) fun v s₁ a st₁ n _ i q=>⟨.ret a,st₁,n,.ret i,q⟩)
theorem ES_pass {pos:Pos} (q:R .next st):ES K c (.Pass pos) st R X:=fun s r=>wpAny_Pass ⟨.next,st,.refl r,.next,q⟩
theorem ES_continue {pos:Pos} (q:R .cont st):ES K c (.Continue pos) st R X:=fun s r=>wpAny_Continue ⟨.cont,st,.refl r,.cont,q⟩
theorem ES_break {pos:Pos} (q:R .brk st):ES K c (.Break pos) st R X:=fun s r=>wpAny_Break ⟨.brk,st,.refl r,.brk,q⟩
theorem ES_if {t:Expr} {b o:List Stmt} {pos:Pos} (h:ET K c t st (kIf K c b o R X) X):ES K c (.If t b o pos) st R X:=fun s r=>
 wpAny_If (h.go (.refl r) fun z s₁ st₁ n _ q=>by
  cases z with
  | true=>exact TS.fin q n
  | false=>exact TS.fin q n)
theorem truthy_ok {a:V} {v:Value} {b:Bool} {P:Bool→Shared→Prop} {E:Value→Shared→Prop} (i:Is s.heap a v) (hb:Truthy a=some b) (k:∀n,P b { s with toks:=n}):wpAny K.M A (truthy v) P E s:=by
 have j:=i.inv
 cases a with
 | none=>cases hb;cases j;exact fun _ _ _=>k s.toks
 | bool z=>cases hb;cases j;exact fun _ _ _=>k s.toks
 | int z=>cases hb;obtain ⟨t,rfl⟩:=j;exact PySem.P.truthy_int (k s.toks)
 | str x=>
   cases hb
   obtain ⟨t,rfl,hs⟩:=j
   refine PySem.P.truthy_str (by have:=sizeLine_eq;refine' q63 ‹_› (by nofun)) ?_
   have e:(((x.length:Nat):Int) != 0)=(x.length != 0):=by rw [Bool.eq_iff_iff];simp
   exact e▸k (s.toks+1+1)
 | _=>cases hb
theorem ET_val {e:Expr} (h:EV K c e st (KT T) X) (he:∀whole,isTrue e c.env whole=(do let v ←whole;standAt e.pos;holding [v] (truthy v)):=by intro _;rfl):ET K c e st T X:=fun s r=>
 wpAny_isTrue_value (h.go (.refl r) fun v s₁ a st₁ n _ i q=>let ⟨_,hb,q⟩:=q;truthy_ok i hb fun k=>⟨st₁,n.toks k,q⟩) (he _)
theorem ET_cmp {l r:Expr} {op:CmpOp} {pos:Pos} (h:EV K c l st (k2 K c (compareOp op) r (KT T) X) X) (hm:behindInMarks op r=false:=by with_unfolding_all rfl):ET K c (.Compare l [op] [r] pos) st T X:=fun s R=>
 wpAny_isTrue_Compare1 (h.go (.refl R) fun v s₁ a st₁ n _ i q=>TV.go q n fun u s₂ b st₂ n kp j q=>Op2.go q n (i.keep kp) j fun w s₃ z st₃ n _ i q=>let ⟨_,hb,q⟩:=q;truthy_ok i hb fun k=>⟨st₃,n.toks k,q⟩) hm
abbrev kNot (T:Bool→St→Prop):Bool→St→Prop:=fun b st=>T (!b) st
theorem ET_not {x:Expr} {pos:Pos} (h:ET K c x st (kNot T) X):ET K c (.UnaryOp .Not x pos) st T X:=fun s r=>wpAny_isTrue_Not (h.go (.refl r) fun _ _ _ n _ q=>⟨_,n,q⟩)
def EA (K:Kx) (c:Cx) (op:BoolOp) (l:List Expr) (st:St) (T:Bool→St→Prop) (X:Xc→St→Prop):Prop:=TB K c (allTrue op l c.env) st T X
theorem ET_boolop {op:BoolOp} {l:List Expr} {pos:Pos} (h:EA K c op l st T X):ET K c (.BoolOp op l pos) st T X:=fun s r=>wpAny_isTrue_BoolOp (h s r)
theorem EA_nil {op:BoolOp} (q:T (op==.And) st):EA K c op [] st T X:=fun s r=>wpAny_pure ⟨st,.refl r,q⟩
abbrev kAnd (K:Kx) (c:Cx) (l:List Expr) (T:Bool→St→Prop) (X:Xc→St→Prop):Bool→St→Prop:=fun b st=>match b with
 | true=>EA K c .And l st T X
 | false=>T false st
abbrev kOr (K:Kx) (c:Cx) (l:List Expr) (T:Bool→St→Prop) (X:Xc→St→Prop):Bool→St→Prop:=fun b st=>match b with
 | true=>T true st
 | false=>EA K c .Or l st T X
theorem EA_and {x:Expr} {l:List Expr} (h:ET K c x st (kAnd K c l T X) X):EA K c .And (x::l) st T X:=fun s r=>by
 show wpAny _ _ (do match BoolOp.And,←isTrue x c.env (eval x c.env) with | .And,false=>pure false | .Or,true=>pure true | _,_=>allTrue .And l c.env) _ _ s
 refine wpAny_bind (h.go (.refl r) fun z s₁ st₁ n _ q=>?_)
 cases z with
 | true=>exact TB.fin q n
 | false=>exact wpAny_pure ⟨st₁,n,q⟩
theorem EA_or {x:Expr} {l:List Expr} (h:ET K c x st (kOr K c l T X) X):EA K c .Or (x::l) st T X:=fun s r=>by
 show wpAny _ _ (do match BoolOp.Or,←isTrue x c.env (eval x c.env) with | .And,false=>pure false | .Or,true=>pure true | _,_=>allTrue .Or l c.env) _ _ s
 refine wpAny_bind (h.go (.refl r) fun z s₁ st₁ n _ q=>?_)
 cases z with
 | false=>exact TB.fin q n
 | true=>exact wpAny_pure ⟨st₁,n,q⟩
inductive Less (Iv:Nat→St→Prop) (n:Nat) (st:St):Prop
 | mk (m:Nat) (h:m <n) (i:Iv m st)
abbrev kWB (Iv:Nat→St→Prop) (n:Nat) (R:Fl→St→Prop):Fl→St→Prop:=fun f st=>match f with
 | .next | .cont=>Less Iv n st
 | .brk=>R .next st
 | f=>R f st
abbrev kWT (K:Kx) (c:Cx) (b o:List Stmt) (Iv:Nat→St→Prop) (n:Nat) (R:Fl→St→Prop) (X:Xc→St→Prop):Bool→St→Prop:=fun z st=>match z with
 | true=>EB K c b st (kWB Iv n R) X
 | false=>EB K c o st R X
theorem ES_while {t:Expr} {b o:List Stmt} {pos:Pos} (Iv:Nat→St→Prop) (turn:∀n st,Iv n st→ET K c t st (kWT K c b o Iv n R X) X)
 (n:Nat) (h:Iv n st):ES K c (.While t b o pos) st R X:=fun s r=>by
 refine wpAny_While (codeAny_whileLoop (fun n s'=>QU K c st s (Iv n) s') (fun n s' ⟨st',n',i'⟩=>?_) n ⟨st,.refl r,h⟩)
 refine wpAny_mono (TB.go (turn n st' i') n' (P:=fun z s₁=>_) fun z s₁ st₁ n₁ _ q₁=>?_) (fun _ _ z=>z) fun _ _ z=>qx_noted rfl z
 cases z with
 | true=>
   refine wpAny_mono (TS.go q₁ n₁ (P:=fun f s₂=>_) fun f s₂ fl st₂ n₂ _ i₂ q₂=>?_) (fun _ _ z=>z) fun _ _ z=>qx_noted rfl z
   cases i₂ with
   | next=>obtain ⟨m,hm,hi⟩:=q₂;exact ⟨m,hm,st₂,n₂,hi⟩
   | cont=>obtain ⟨m,hm,hi⟩:=q₂;exact ⟨m,hm,st₂,n₂,hi⟩
   | brk=>exact ⟨.next,st₂,n₂,.next,q₂⟩
   | ret i=>exact ⟨.ret _,st₂,n₂,.ret i,q₂⟩
   | exc f n=>exact ⟨.exc _,st₂,n₂,.exc f n,q₂⟩
 | false=>exact wpAny_mono (TS.fin q₁ n₁) (fun _ _ z=>z) fun _ _ z=>qx_noted rfl z
end
end
section
structure Gl (K:Kx) where
 mg:Str→Option Value
 mb:Str→Option Value
 hg:K.B.Ns mainGlobals mg
 hb:K.B.Ns builtinsNs mb
 lim:K.B.NoLimit
 low:sysModules <K.B.objs.size
theorem keeps_of_stays {B h:Heap} (k:B.StaysIn h):Keeps B h:=fun _ _ e _=>k _ _ e
section
variable {K:Kx} {c:Cx} {st st₁:St} {Q:V→St→Prop} {X:Xc→St→Prop} {R:Fl→St→Prop} {T:Bool→St→Prop} {s s₁:Shared}
theorem name_glob (G:Gl K) {tn:Str} {tp:Pos} {val:Value} {P E:Value→Shared→Prop} {A:Around} (r:Rel K c st s) (hv:G.mg tn=some val) (hk:c.env.kindOf tn=some .globalImplicit)
 (hd:(tn==("__debug__":Str))=false) (h:P val s):wpAny K.M A (eval (.Name tn tp) c.env) P E s:=by
 refine wpAny_Name ?_ hd
 rw [loadName_read r.ok.kind hk]
 exact loadGlobal_global (mg:=G.mg) (r.ok.globals.symm▸G.hg.keeps r.g.base) hv h
theorem name_blt (G:Gl K) {tn:Str} {tp:Pos} {val:Value} {P E:Value→Shared→Prop} {A:Around} (r:Rel K c st s) (hn:G.mg tn=none) (hv:G.mb tn=some val) (hk:c.env.kindOf tn=some .globalImplicit)
 (hd:(tn==("__debug__":Str))=false) (h:P val s):wpAny K.M A (eval (.Name tn tp) c.env) P E s:=by
 refine wpAny_Name ?_ hd
 rw [loadName_read r.ok.kind hk]
 exact loadGlobal_builtin (mg:=G.mg) (mb:=G.mb) (r.ok.globals.symm▸G.hg.keeps r.g.base) hn (r.ok.builtins.symm▸G.hb.keeps r.g.base) hv h
theorem EV_glob (G:Gl K) {x:Str} {pos:Pos} {v:V} {val:Value} (hv:G.mg x=some val) (i:Is K.B v val) (q:Q v st) (hk:c.env.kindOf x=some .globalImplicit:=by kernel_rfl!) (hd:(x==("__debug__":Str))=false:=by decide):EV K c (.Name x pos) st Q X:=fun s r=>
 name_glob G r hv hk hd (QV.now r (i.keep (keeps_of_stays r.g.base)) q rfl)
theorem EV_blt (G:Gl K) {x:Str} {pos:Pos} {v:V} {val:Value} (hn:G.mg x=none) (hv:G.mb x=some val) (i:Is K.B v val) (q:Q v st) (hk:c.env.kindOf x=some .globalImplicit:=by kernel_rfl!) (hd:(x==("__debug__":Str))=false:=by decide):EV K c (.Name x pos) st Q X:=fun s r=>
 name_blt G r hn hv hk hd (QV.now r (i.keep (keeps_of_stays r.g.base)) q rfl)
noncomputable abbrev subF (value slice:Expr):Value→Value→Sem Value:=fun o i=>do let r ←subscripted slice (←getitemInPython o) o i;letTemporaryGo value o r;pure r
theorem EV_sub {value slice:Expr} {pos:Pos} (h:EV K c value st (k2 K c (subF value slice) slice Q X) X):EV K c (.Subscript value slice pos) st Q X:=fun s R=>by
 show wpAny _ _ (eval (.Subscript value slice pos) c.env) _ _ s
 rw [eval_Subscript]
 exact wpAny_bind (h.go (.refl R) fun v s₁ a st₁ n _ i q=>wpAny_bind (wpAny_holding (TV.go q n fun u s₂ b st₂ n kp j q=>wpAny_bind (wpAny_standAt (Op2.fin q n (i.keep kp) j)))))
theorem fly_new {C:Addr} {B h h':Heap} {e:Addr} {n:String} (k:B.StaysIn h) (x:Heap.NewExc h h' e n) (hn:Vol C (.type n)=true) (ht:n≠"traceback"):Fly C B h' e { cls:=.type n}:=by
 obtain ⟨kp,new,ob,t,g,hc,hd⟩:=x
 refine ⟨⟨g,hc,hn,fun q=>ht (Value.type.inj q),hd,by simp,trivial,fun _=>by simp,?_⟩,.inl (by simp)⟩
 cases q:B.get? e with
 | none=>rfl
 | some o=>exact (ne_some new (k e o q)).elim
theorem ev_new {C:Addr} {h h':Heap} {e:Addr} {n:String} (x:Heap.NewExc h h' e n):Ev C [] h h':=.of_keep x.keeps
theorem qx_new (r:Rel K c st s) {h':Heap} {tk:Nat} {e:Addr} {n:String} (x:Heap.NewExc s.heap h' e n) (hn:Vol K.C (.type n)=true:=by kernel_rfl!) (ht:n≠"traceback":=by decide) (q:X { cls:=.type n} st):QX K c st s X (.ref e) { s with heap:=h',toks:=tk}:=
 ⟨e,_,st,rfl,((Nx.refl r).ev (fun b o e=>x.keeps b o (r.g.base b o e)) (ev_new x)).toks tk,fly_new r.g.base x hn ht,q⟩
theorem Nx.kept {h':Heap} (n:Nx K c st s st₁ s₁) (k:∀b o,s₁.heap.get? b=some o→h'.get? b=some o):Nx K c st s st₁ { s₁ with heap:=h'}:=n.ev (fun b o e=>k b o (n.r.g.base b o e)) (.of_keep k)
theorem qv_heap (r:Rel K c st s) {h':Heap} {tk:Nat} {v:Value} {a:V} (k:∀b o,s.heap.get? b=some o→h'.get? b=some o) (i:Is h' a v) (q:Q a st):QV K c st s Q v { s with heap:=h',toks:=tk}:=
 ⟨a,st,((Nx.refl r).kept k).toks tk,i,q⟩
theorem Op2.ss {f:Value→Value→Sem Value} {x y:Str} (k:∀s t u,Rel K c st s→x.length≤sizeLine→wpAny K.M c.A (f (.str x t) (.str y u)) (QV K c st s Q) (QX K c st s X) s):Op2 K c f (.str x) (.str y) st Q X:=fun s v u r i j=>
 let ⟨_,e,hx⟩:=i.inv;let ⟨_,e',_⟩:=j.inv;e▸e'▸k s _ _ r hx
theorem Op2.si {f:Value→Value→Sem Value} {x:Str} {n:Int} (k:∀s t u,Rel K c st s→wpAny K.M c.A (f (.str x t) (.int n u)) (QV K c st s Q) (QX K c st s X) s):Op2 K c f (.str x) (.int n) st Q X:=fun s v u r i j=>
 let ⟨_,e,_⟩:=i.inv;let ⟨_,e'⟩:=j.inv;e▸e'▸k s _ _ r
theorem Op2.ii {f:Value→Value→Sem Value} {m n:Int} (k:∀s t u,Rel K c st s→wpAny K.M c.A (f (.int m t) (.int n u)) (QV K c st s Q) (QX K c st s X) s):Op2 K c f (.int m) (.int n) st Q X:=fun s v u r i j=>
 let ⟨_,e⟩:=i.inv;let ⟨_,e'⟩:=j.inv;e▸e'▸k s _ _ r
theorem Op2.sr {f:Value→Value→Sem Value} {x:Str} {a:Addr} (k:∀s t,Rel K c st s→wpAny K.M c.A (f (.str x t) (.ref a)) (QV K c st s Q) (QX K c st s X) s):Op2 K c f (.str x) (.ref a) st Q X:=fun s v u r i j=>
 let ⟨_,e,_⟩:=i.inv;e▸(show u=.ref a from j.inv)▸k s _ r
theorem Op2.rr {f:Value→Value→Sem Value} {a b:Addr} (k:∀s,Rel K c st s→wpAny K.M c.A (f (.ref a) (.ref b)) (QV K c st s Q) (QX K c st s X) s):Op2 K c f (.ref a) (.ref b) st Q X:=fun s v u r i j=>
 (show v=.ref a from i.inv)▸(show u=.ref b from j.inv)▸k s r
noncomputable def signAt (x:Str) (i:Int):Option Str:=((seqIndex? i x.length).bind (x.cps[·]?)).map fun n=>⟨#[n]⟩
abbrev kAt (Q:V→St→Prop) (X:Xc→St→Prop) (st:St) (e:String) (f:α→V):Option α→Prop
 | some y=>Q (f y) st
 | Option.none=>X { cls:=.type e} st
theorem Op_item_str {value slice:Expr} {x:Str} {i:Int} (hh:c.A.handled=none) (hr:(decide (i < -(2 ^ 63:Int))||decide (i≥2 ^ 63))=false)
 (h:kAt Q X st "IndexError" .str (signAt x i))
 (hs:∀t u,subscripted slice false (.str x t) (.int i u)=operate [.str x t,.int i u] (getItem (.str x t) (.int i u)):=by intro _ _;with_unfolding_all rfl)
 (ht:∀t r,letTemporaryGo value (.str x t) r=pure ():=by intro _ _;with_unfolding_all rfl):
 Op2 K c (subF value slice) (.str x) (.int i) st Q X:=.si fun s t tu r=>by
 refine tail_of_ItemOn (value:=value) (slice:=slice) (ops:=[.str x t,.int i tu]) ⟨"str","str.__getitem__",F.slot_str_getitem.lookup,typeIs_str s x t,?_⟩ (hs t tu) (ht t)
 unfold signAt at h
 cases hc:(seqIndex? i x.length).bind (x.cps[·]?) with
 | some n=>
   rw [hc] at h
   exact P.getItem_str hr hc (QV.now r (.str _ _ (by show 1≤sizeLine;decide)) h rfl)
 | none=>
   rw [hc] at h
   exact getItem_meets (typeIs_str s x t) (by decide) F.slot_str_getitem F.entry_str_getitem (F.args_str_getitem_2 _ _) (raises_str_getitem x i t tu hr hc)
    ⟨hh,fun h' tk e hx=>qx_new r hx (q:=h)⟩
theorem Op_in_set {a:Addr} {S:Str→Bool} {n:Nat} {x:Str} (hS:FrozAt (strKind K.prog K.w) K.B a S n) (hb:n <4096) (q:Q (.bool (S x)) st):Op2 K c (compareOp .In) (.str x) (.ref a) st Q X:=.sr fun s t r=>
 let ⟨_,F⟩:=r.fr;in_froz F hS (strKind_is _ _ x t) rfl hb (QV.now r (.bool _) q rfl)
theorem Op_notin_set {a:Addr} {S:Str→Bool} {n:Nat} {x:Str} (hS:FrozAt (strKind K.prog K.w) K.B a S n) (hb:n <4096) (q:Q (.bool (!S x)) st):Op2 K c (compareOp .NotIn) (.str x) (.ref a) st Q X:=.sr fun s t r=>
 let ⟨_,F⟩:=r.fr;notin_froz F hS (strKind_is _ _ x t) rfl hb (QV.now r (.bool _) q rfl)
abbrev kAug (K:Kx) (c:Cx) (op:Operator) (a:V) (R:Fl→St→Prop) (x:Str) (X:Xc→St→Prop):V→St→Prop:=fun b st=>Op2 K c (inplaceOp op) a b st (kSet x R) X
theorem ES_aug {x:Str} {e:Expr} {op:Operator} {pos' pos:Pos} {a:V} (h:EV K c e st (kAug K c op a R x X) X) (hl:st.loc.lookup x=some a:=by rfl) (hk:c.env.kindOf x=some .local:=by kernel_rfl!):
 ES K c (.AugAssign (.Name x pos') op e pos) st R X:=fun s r=>by
 obtain ⟨_,_,hn,ev,i⟩:=r.at_ hl
 exact wpAny_AugAssign_Name (wpAny_loadName_local r.ok.kind hk hn ev (h.go (.refl r) fun u s₁ b st₁ n kp j q=>Op2.go q n (i.keep kp) j fun w s₂ z st₂ n _ i q=>store_ok n i hk fun s₃ n _=>⟨.next,_,n,.next,q⟩))
theorem Op_iadd_int {i j:Int} (q:Q (.int (i+j)) st):Op2 K c (inplaceOp .Add) (.int i) (.int j) st Q X:=.ii fun s _ _ r=>PySem.P.iadd_int (QV.now r (.int _ _) q rfl)
end
end
section
noncomputable def Cx.mark (c:Cx) (e:Addr) (b:Bool):Cx:={ c with A:=c.A.mark (some (.ref e)),hc:=b}
section
variable {K:Kx} {c:Cx} {st st₁ st':St} {Q:V→St→Prop} {X:Xc→St→Prop} {R:Fl→St→Prop} {s s₁ s':Shared} {e:Addr} {b:Bool} {v:Value}
theorem Cx.Ok.mark (k:c.Ok) (e:Addr) (b:Bool):(c.mark e b).Ok:={ k with handled:=(by show ((some (Value.ref e)).or c.A.handled)≠some byPass;simp [byPass])}
theorem Rel.mark (r:Rel K c st s) (h:b=true→Held K.C K.B s.heap e):Rel K (c.mark e b) st s:=
 ⟨{ r.g with held:=fun e' q hb=>(show e=e' from Value.ref.inj (Option.some.inj q))▸h hb},r.ok.mark e b,r.loc⟩
theorem Rel.unmark (r:Rel K (c.mark e b) st' s) (k:c.Ok) (h:HeldO K.C K.B s.heap c.A.handled c.hc):Rel K c st' s:=⟨{ r.g with held:=h},k,r.loc⟩
theorem Rel.heldO (r:Rel K c st s) {d:List Addr} {h':Heap} (g:Go K c.L (adr st) d s.heap h'):HeldO K.C K.B h' c.A.handled c.hc:=fun e q b=>
 have x:=r.g.held e q b
 x.ev g.ev fun hm=>let ⟨ge,hv,hd,_,_,_⟩:=x;absurd hv (((r.who hm ge).2 _ hd).symm▸Bool.false_ne_true)
theorem Nx.unmark (r:Rel K c st s) (n:Nx K c st s st₁ s₁) (m:Nx K (c.mark e b) st₁ s₁ st' s'):Nx K c st s st' s':=
 have g:=n.g.trans m.g
 ⟨m.r.unmark r.ok (r.heldO g),g⟩
theorem qx_unmark (r:Rel K c st s) (n:Nx K c st s st₁ s₁):QX K (c.mark e b) st₁ s₁ X v s'→QX K c st s X v s'
 | ⟨ea,x,st',ev,m,f,q⟩=>⟨ea,x,st',ev,n.unmark r m,f,q⟩
theorem qx_suite {A':Around} (r:Rel K c st s) (n:Nx K c st s st₁ s₁) (q:QX K (c.mark e b) st₁ s₁ X v s'):
 notedBy K.M (c.mark e b).A c.env (cameBackBy K.M A' c.env (QX K c st s X)) v s':=by
 refine wpAny_mono (qx_note (c:=c.mark e b) rfl q) (fun _ s₂ z=>?_) fun _ _ z=>z.elim
 have k:=qx_cameBack (c:=c.mark e b) (A:=A') z
 exact wpAny_mono k (fun _ _ y=>qx_unmark r n y) fun _ _ y=>qx_unmark r n y
theorem passOn_ok {what:String} {x:Xc} {P:Flow→Shared→Prop} (n:Nx K c st s st' s') (f:Flown K.C K.B s'.heap e x) (q:X x st'):
 wpAny K.M c.A (PySem.passOn what (.ref e) c.env) P (QX K c st s X) s':=by
 unfold PySem.passOn
 refine flown_field f fun T=>?_
 rw [if_neg (by simp)]
 exact wpAny_bind (fly_setFlight n.r.g.base f fun h' a b d=>wpAny_throw ⟨e,x,st',rfl,n.ev a b,d.fly,q⟩)
inductive KTry (K:Kx) (c:Cx) (N:String) (l:List Stmt) (R:Fl→St→Prop) (X:Xc→St→Prop) (x:Xc) (st:St):Prop
 | mk (Y:String) (b:Bool) (cls:x.cls=.type Y) (sub:isSubtype (.type Y) (.type N)=pure b) (q:if b then ∀e,EB K (c.mark e x.bare) l st R X else X x st)
theorem ES_try {G:Gl K} {body orelse suite:List Stmt} {b₀:Stmt} {tn:Str} {tp hp pos:Pos} {N:String}
 (h:EB K c body st (kB K c orelse R X) (KTry K c N (b₀::suite) R X))
 (hn:G.mg tn=none) (hv:G.mb tn=some (.type N)) (hexc:isSubtype (.type N) (.type "BaseException")=pure true)
 (hnt:isSubtype (.type ((Manifest.find? N).elim "type" fun x=>x.metatype)) (.type "tuple")=pure false)
 (hk:c.env.kindOf tn=some .globalImplicit:=by kernel_rfl!) (hd:(tn==("__debug__":Str))=false:=by decide):
 ES K c (.Try body [.ExceptHandler (some (.Name tn tp)) none (b₀::suite) hp] orelse [] pos) st R X:=fun s r=>by
 refine wpAny_Try_except (wpAny_mono (TS.fin h (.refl r)) (fun f s₁ ⟨fl,st₁,n,i,q⟩=>kB_go n i q) fun v s₁ ⟨e,x,st₁,hv',n₁,f₁,q₁⟩=>?_)
 subst hv'
 obtain ⟨Y,b,hc,hsub,q₁⟩:=q₁
 refine fly_note n₁.r.ok.frames n₁.r.ok.tp n₁.r.g.ff n₁.r.g.base f₁ fun h₂ a₂ b₂ d₂=>?_
 have n₂:=n₁.ev a₂ b₂
 refine fly_setFlight (s:={ s₁ with heap:=h₂}) a₂ d₂ fun h₃ a₃ b₃ d₃=>?_
 have n₃:=n₂.ev a₃ b₃
 have r₄:Rel K (c.mark e x.bare) st₁ _:=n₃.r.mark (e:=e) (b:=x.bare) d₃.held
 refine wpAny_handleBy_builtin (X:=Y) (T:=N) (b:=b) hexc hnt hsub (name_blt (A:=(c.mark e x.bare).A) G n₃.r hn hv hk hd ⟨rfl,let ⟨f,_⟩:=d₃;⟨_,f.at_,f.cls.trans hc⟩,?_⟩)
 cases b with
 | true=>
   refine fly_setFlight n₃.r.g.base d₃ fun h₆ a₆ b₆ d₆=>?_
   have n₆:=n₃.ev a₆ b₆
   refine wpAny_mono (q₁ e _ (r₄.ev a₆ b₆)) (fun f s₇ ⟨fl,st₇,n₇,i₇,q₇⟩=>?_) fun _ _ z=>qx_suite r n₆ z
   exact ⟨fl,st₇,n₆.unmark r n₇,i₇.from n₆.g.ev,q₇⟩
 | false=>exact wpAny_handleBy_nil (passOn_ok n₃ d₃ q₁)
end
end
section
section
variable {K:Kx} {c:Cx} {st st₁:St} {Q:V→St→Prop} {X:Xc→St→Prop} {R:Fl→St→Prop} {T:Bool→St→Prop} {P:List V→St→Prop} {F:Xc→St→Prop} {s s₁ s':Shared}
inductive QL (K:Kx) (c:Cx) (st:St) (s:Shared) (P:List V→St→Prop) (vs:List Value) (s':Shared):Prop
 | mk (l:List V) (st':St) (n:Nx K c st s st' s') (i:IsL s'.heap l vs) (q:P l st')
def LV (K:Kx) (c:Cx) (t:Sem (List Value)) (st:St) (P:List V→St→Prop) (X:Xc→St→Prop):Prop:=∀s,Rel K c st s→wpAny K.M c.A t (QL K c st s P) (QX K c st s X) s
abbrev EL (K:Kx) (c:Cx) (pos:Pos) (l:List Expr) (st:St) (P:List V→St→Prop) (X:Xc→St→Prop):Prop:=LV K c (spliced (backTo pos (starEach l c.env))) st P X
abbrev EK (K:Kx) (c:Cx) (pos:Pos) (l:List Keyword) (st:St) (P:List V→St→Prop) (X:Xc→St→Prop):Prop:=LV K c (evalAll ((backToKw pos (keywordEach l c.env)).map (·.2))) st P X
theorem LV.go {t:Sem (List Value)} {P':List Value→Shared→Prop} (h:LV K c t st₁ P X) (n:Nx K c st s st₁ s₁) (k:∀v s₂ a st₂,Nx K c st s st₂ s₂→Keeps s₁.heap s₂.heap→IsL s₂.heap a v→P a st₂→P' v s₂):wpAny K.M c.A t P' (QX K c st s X) s₁:=
 wpAny_mono (h s₁ n.r) (fun v s₂ z=>z.casesOn fun a st₂ m i q=>k v s₂ a st₂ (n.trans m) (m.kp n.r) i q) fun _ _ z=>z.after n
abbrev kCons (a:V) (P:List V→St→Prop):List V→St→Prop:=fun as st=>P (a::as) st
abbrev kEL (K:Kx) (c:Cx) (pos:Pos) (l:List Expr) (P:List V→St→Prop) (X:Xc→St→Prop):V→St→Prop:=fun a st=>EL K c pos l st (kCons a P) X
abbrev kEK (K:Kx) (c:Cx) (pos:Pos) (l:List Keyword) (P:List V→St→Prop) (X:Xc→St→Prop):V→St→Prop:=fun a st=>EK K c pos l st (kCons a P) X
theorem EL_nil {pos:Pos} (q:P [] st):EL K c pos [] st P X:=fun s r=>spliced_nil ⟨[],st,.refl r,.nil,q⟩
def isStar (e:Expr) (env:Env):Bool:=(starEach [e] env).any (·.1)
theorem each_eq {e:Expr} {l:List Expr} {env:Env} (h:isStar e env=false):starEach (e::l) env=(false,eval e env)::starEach l env:=by
 cases e with
 | Starred _ _=>cases h
 | _=>rfl
theorem EL_cons {pos:Pos} {e:Expr} {l:List Expr} (h:EV K c e st (kEL K c pos l P X) X) (he:isStar e c.env=false:=by kernel_rfl!):EL K c pos (e::l) st P X:=fun s r=>by
 show wpAny _ _ (spliced (backTo pos (starEach (e::l) c.env))) _ _ s
 rw [each_eq he]
 exact spliced_cons (h.go (.refl r) fun v s₁ a st₁ n _ i q=>LV.go q n fun vs s₂ as st₂ n kp il q=>⟨a::as,st₂,n,.cons (i.keep kp) il,q⟩)
theorem EK_nil {pos:Pos} (q:P [] st):EK K c pos [] st P X:=fun s r=>wpAny_evalAll_nil ⟨[],st,.refl r,.nil,q⟩
theorem EK_cons {pos p:Pos} {n:Option Str} {e:Expr} {l:List Keyword} (h:EV K c e st (kEK K c pos l P X) X):EK K c pos (⟨n,e,p⟩::l) st P X:=fun s r=>by
 show wpAny _ _ (evalAll ((do let v ←eval e c.env;standAt pos;pure v)::_)) _ _ s
 exact wpAny_evalAll_cons (wpAny_bind (h.go (.refl r) fun v s₁ a st₁ n _ i q=>wpAny_bind (wpAny_standAt (wpAny_pure (LV.go q n fun vs s₂ as st₂ n kp il q=>⟨a::as,st₂,n,.cons (i.keep kp) il,q⟩)))))
def CF (K:Kx) (c:Cx) (f:V) (args:List V) (kn:List Str) (ka:List V) (st:St) (Q:V→St→Prop) (X:Xc→St→Prop):Prop:=
 ∀s fv vs ks,Rel K c st s→Is s.heap f fv→IsL s.heap args vs→IsL s.heap ka ks→wpAny K.M c.A (PySem.call fv vs (kn.zip ks)) (QV K c st s Q) (QX K c st s X) s
def CR (K:Kx) (c:Cx) (f:V) (args:List V) (kn:List Str) (ka:List V) (st:St) (R:Fl→St→Prop) (X:Xc→St→Prop):Prop:=
 ∀s fv vs ks,Rel K c st s→Is s.heap f fv→IsL s.heap args vs→IsL s.heap ka ks→wpAny K.M c.A (PySem.call fv vs (kn.zip ks)) (fun v s'=>QF K c st s R (.ret v) s') (QX K c st s X) s
def onlyV (Q:V→St→Prop) (f:Fl) (st:St):Prop:=match f with | .ret v=>Q v st | _=>False
def onlyX (F:Xc→St→Prop) (f:Fl) (st:St):Prop:=match f with | .exc x=>F x st | _=>False
theorem qv_of {v:Value}:QF K c st s (onlyV Q) (.ret v) s'→QV K c st s Q v s':=fun ⟨fl,st',n,i,q⟩=>by
 cases i with
 | ret i=>exact ⟨_,st',n,i,q⟩
 | exc f n=>exact q.elim
inductive QE (K:Kx) (c:Cx) (st:St) (s:Shared) (F:Xc→St→Prop) (v:Value) (s':Shared):Prop
 | mk (e:Addr) (x:Xc) (st':St) (hv:v=.ref e) (n:Nx K c st s st' s') (f:Fly K.C K.B s'.heap e x) (new:s.heap.get? e=none) (q:F x st')
theorem qe_of {v:Value}:QF K c st s (onlyX F) (.ret v) s'→QE K c st s F v s':=fun ⟨fl,st',n,i,q⟩=>by
 cases i with
 | ret i=>exact q.elim
 | exc f e=>exact ⟨_,_,st',rfl,n,f,e,q⟩
theorem CR.val {f:V} {args ka:List V} {kn:List Str} (h:CR K c f args kn ka st (onlyV Q) X):CF K c f args kn ka st Q X:=fun s fv vs ks r i il ik=>
 wpAny_mono (h s fv vs ks r i il ik) (fun _ _ z=>qv_of z) fun _ _ z=>z
def CX (K:Kx) (c:Cx) (f:V) (args:List V) (kn:List Str) (ka:List V) (st:St) (F:Xc→St→Prop) (X:Xc→St→Prop):Prop:=CR K c f args kn ka st (onlyX F) X
theorem QV.after {v:Value} (n:Nx K c st s st₁ s₁):QV K c st₁ s₁ Q v s'→QV K c st s Q v s':=fun ⟨a,st',m,i,q⟩=>⟨a,st',n.trans m,i,q⟩
theorem QE.after {v:Value} (n:Nx K c st s st₁ s₁):QE K c st₁ s₁ F v s'→QE K c st s F v s':=fun ⟨e,x,st',hv,m,f,h,q⟩=>⟨e,x,st',hv,n.trans m,f,n.g.ev.none h,q⟩
theorem CF.fin {f:V} {args ka:List V} {kn:List Str} {fv:Value} {vs ks:List Value} (h:CF K c f args kn ka st₁ Q X) (n:Nx K c st s st₁ s₁) (i:Is s₁.heap f fv) (il:IsL s₁.heap args vs) (ik:IsL s₁.heap ka ks):wpAny K.M c.A (PySem.call fv vs (kn.zip ks)) (QV K c st s Q) (QX K c st s X) s₁:=
 wpAny_mono (h s₁ fv vs ks n.r i il ik) (fun _ _ z=>z.after n) fun _ _ z=>z.after n
theorem CX.fin {f:V} {args ka:List V} {kn:List Str} {fv:Value} {vs ks:List Value} (h:CX K c f args kn ka st₁ F X) (n:Nx K c st s st₁ s₁) (i:Is s₁.heap f fv) (il:IsL s₁.heap args vs) (ik:IsL s₁.heap ka ks):wpAny K.M c.A (PySem.call fv vs (kn.zip ks)) (QE K c st s F) (QX K c st s X) s₁:=
 wpAny_mono (h s₁ fv vs ks n.r i il ik) (fun _ _ z=>(qe_of z).after n) fun _ _ z=>z.after n
def TX (K:Kx) (c:Cx) (t:Sem Value) (st:St) (F:Xc→St→Prop) (X:Xc→St→Prop):Prop:=∀s,Rel K c st s→wpAny K.M c.A t (QE K c st s F) (QX K c st s X) s
abbrev EX (K:Kx) (c:Cx) (e:Expr) (st:St) (F:Xc→St→Prop) (X:Xc→St→Prop):Prop:=TX K c (eval e c.env) st F X
abbrev kRetX (R:Fl→St→Prop):Xc→St→Prop:=fun x st=>R (.exc x) st
theorem ES_returnX {e:Expr} {pos:Pos} (h:EX K c e st (kRetX R) X):ES K c (.Return (some e) pos) st R X:=fun s r=>
 wpAny_Return_some (wpAny_mono (h s r) (fun v s₁ ⟨e,x,st₁,hv,n,f,h,q⟩=>hv▸⟨.exc x,st₁,n,.exc f h,q⟩) fun _ _ z=>z)
abbrev kCF (K:Kx) (c:Cx) (f:V) (kn:List Str) (Q:V→St→Prop) (X:Xc→St→Prop):List V→List V→St→Prop:=fun l ks st=>CF K c f l kn ks st Q X
abbrev kCX (K:Kx) (c:Cx) (f:V) (kn:List Str) (F:Xc→St→Prop) (X:Xc→St→Prop):List V→List V→St→Prop:=fun l ks st=>CX K c f l kn ks st F X
abbrev kKw (K:Kx) (c:Cx) (pos:Pos) (kws:List Keyword) (W:List V→List V→St→Prop) (X:Xc→St→Prop):List V→St→Prop:=fun l st=>EK K c pos kws st (W l) X
noncomputable abbrev kwN (c:Cx) (pos:Pos) (kws:List Keyword):List Str:=(backToKw pos (keywordEach kws c.env)).filterMap (·.1)
inductive KCall (K:Kx) (c:Cx) (pos:Pos) (args:List Expr) (kws:List Keyword) (W:Addr→List V→List V→St→Prop) (X:Xc→St→Prop) (f:V) (st:St):Prop
 | mk (a:Addr) (o:Obj) (fd:FuncData) (hf:f=.ref a) (ho:K.B.get? a=some o) (hd:o.data=.func fd) (q:EL K c pos args st (kKw K c pos kws (W a) X) X)
theorem fn_go {pos:Pos} {args:List Expr} {kws:List Keyword} {e₁:Expr} {rest:List Expr} {W:List V→List V→St→Prop} {a:Addr} {o:Obj} {fd:FuncData} {P:Value→Shared→Prop} (q:EL K c pos args st₁ (kKw K c pos kws W X) X) (n:Nx K c st s st₁ s₁) (hd:o.data=.func fd)
 (ho:∀h',Keeps s₁.heap h'→K.B.StaysIn h'→h'.get? a=some o) (he:starEach args c.env=(false,eval e₁ c.env)::starEach rest c.env) (hk:(backToKw pos (keywordEach kws c.env)).all (·.1.isSome)=true)
 (k:∀vs ks s₃ l kl st₃,Nx K c st s st₃ s₃→Keeps s₁.heap s₃.heap→IsL s₃.heap l vs→IsL s₃.heap kl ks→W l kl st₃→wpAny K.M c.A (PySem.call (.ref a) vs ((kwN c pos kws).zip ks)) P (QX K c st s X) s₃):
 wpAny K.M c.A (callWith pos (.ref a) [] (backTo pos (starEach args c.env)) (backToKw pos (keywordEach kws c.env))) P (QX K c st s X) s₁:=by
 refine callWith_function_kw (o:=o) (fd:=fd) ?_
 have e:backTo pos (starEach args c.env)=(false,eval e₁ c.env)::backTo pos (starEach rest c.env):=by rw [he];rfl
 rw [e]
 refine evalArgs_kw hk ?_
 rw [←e]
 exact q.go n fun vs s₂ l st₂ n₂ k₂ il q=>LV.go q n₂ fun ks s₃ kl st₃ n₃ k₃ ik q=>⟨⟨ho _ (k₂.trans k₃) n₃.r.g.base,hd⟩,k vs ks s₃ l kl st₃ n₃ (k₂.trans k₃) (il.keep k₃) ik q⟩
theorem call_go {id:Str} {p pos:Pos} {args:List Expr} {kws:List Keyword} {e₁:Expr} {rest:List Expr} {W:Addr→List V→List V→St→Prop} {P:Value→Shared→Prop} (h:EV K c (.Name id p) st (KCall K c pos args kws W X) X) (he:starEach args c.env=(false,eval e₁ c.env)::starEach rest c.env) (hk:(backToKw pos (keywordEach kws c.env)).all (·.1.isSome)=true) (r:Rel K c st s)
 (k:∀a vs ks s₃ l kl st₃,Nx K c st s st₃ s₃→IsL s₃.heap l vs→IsL s₃.heap kl ks→W a l kl st₃→wpAny K.M c.A (PySem.call (.ref a) vs ((kwN c pos kws).zip ks)) P (QX K c st s X) s₃):wpAny K.M c.A (eval (.Call (.Name id p) args kws pos) c.env) P (QX K c st s X) s:=
 wpAny_Call_Name_kw (h.go (.refl r) fun fv s₁ f st₁ n _ i q=>by
  obtain ⟨a,o,fd,rfl,ho,hd,q⟩:=q
  obtain rfl:=i.inv
  exact fn_go q n hd (fun _ _ b=>b _ _ ho) he hk fun vs ks s₃ l kl st₃ n _ il ik q=>k a vs ks s₃ l kl st₃ n il ik q)
abbrev kCFa (K:Kx) (c:Cx) (kn:List Str) (Q:V→St→Prop) (X:Xc→St→Prop):Addr→List V→List V→St→Prop:=fun a=>kCF K c (.ref a) kn Q X
abbrev kCXa (K:Kx) (c:Cx) (kn:List Str) (F:Xc→St→Prop) (X:Xc→St→Prop):Addr→List V→List V→St→Prop:=fun a=>kCX K c (.ref a) kn F X
theorem EV_call {id:Str} {p pos:Pos} {args:List Expr} {kws:List Keyword} {e₁:Expr} {rest:List Expr} (h:EV K c (.Name id p) st (KCall K c pos args kws (kCFa K c (kwN c pos kws) Q X) X) X)
 (ha:args=e₁::rest:=by rfl) (he:starEach args c.env=(false,eval e₁ c.env)::starEach rest c.env:=by kernel_rfl!)
 (hk:(backToKw pos (keywordEach kws c.env)).all (·.1.isSome)=true:=by kernel_rfl!):EV K c (.Call (.Name id p) args kws pos) st Q X:=fun s r=>
 call_go h he hk r fun a vs ks s₃ l kl st₃ n il ik q=>CF.fin q n (.ref a) il ik
theorem EX_call {id:Str} {p pos:Pos} {args:List Expr} {kws:List Keyword} {e₁:Expr} {rest:List Expr} (h:EV K c (.Name id p) st (KCall K c pos args kws (kCXa K c (kwN c pos kws) F X) X) X)
 (ha:args=e₁::rest:=by rfl) (he:starEach args c.env=(false,eval e₁ c.env)::starEach rest c.env:=by kernel_rfl!)
 (hk:(backToKw pos (keywordEach kws c.env)).all (·.1.isSome)=true:=by kernel_rfl!):EX K c (.Call (.Name id p) args kws pos) st F X:=fun s r=>
 call_go h he hk r fun a vs ks s₃ l kl st₃ n il ik q=>CX.fin q n (.ref a) il ik
noncomputable def cxIn (c:Cx) (fd:FuncData) (a L:Addr):Cx:=⟨c.A.deeper (callEnv fd L a),c.hc,callEnv fd L a,callEnv fd L a,c.top::c.outer,L⟩
section
variable {h:Heap} {vs:List Value}
theorem isl_lookup:∀{bs:List (Str×V)} {vs:List (Str×Value)},bs.map (·.1)=vs.map (·.1)→IsL h (bs.map (·.2)) (vs.map (·.2))→∀x v,bs.lookup x=some v→∃val,vs.lookup x=some val∧Is h v val:=by
 intro bs
 induction bs with
 | nil=>intro vs _ _ x v e;cases e
 | cons b bs ih=>
   intro vs hn hl x v e
   cases vs with
   | nil=>cases hn
   | cons b' vs=>
     have hn:=List.cons.inj hn
     cases hl.c with
     | mk hv hl=>
     have e1:b.1=b'.1:=hn.1
     rw [List.lookup_cons] at e ⊢
     rw [←e1]
     cases q:(x==b.1) with
     | true=>rw [q] at e;cases e;exact ⟨b'.2,rfl,hv⟩
     | false=>rw [q] at e;exact ih hn.2 hl x v e
theorem isl1 {a:V} (x:IsL h [a] vs):∃v,vs=[v]∧Is h a v:=by
 obtain ⟨i,il⟩:=x.c;exact ⟨_,congrArg _ (isl0 il),i⟩
theorem isl2 {a b:V} (x:IsL h [a,b] vs):∃v u,vs=[v,u]∧Is h a v∧Is h b u:=by
 obtain ⟨i,il⟩:=x.c;obtain ⟨_,e,j⟩:=isl1 il;exact ⟨_,_,congrArg _ e,i,j⟩
theorem isl3 {a b c:V} (x:IsL h [a,b,c] vs):∃v u w,vs=[v,u,w]∧Is h a v∧Is h b u∧Is h c w:=by
 obtain ⟨i,il⟩:=x.c;obtain ⟨_,_,e,j⟩:=isl2 il;exact ⟨_,_,_,congrArg _ e,i,j⟩
theorem isl_reverse {l:List V} (x:IsL h l vs):IsL h l.reverse vs.reverse:=by
 induction l generalizing vs with
 | nil=>exact isl0 x▸.nil
 | cons a l ih=>
   obtain ⟨i,il⟩:=x.c
   rw [List.reverse_cons,List.reverse_cons];exact (ih il).append (.cons i .nil)
end
abbrev kDef (st:St) (R:Fl→St→Prop):Fl→St→Prop:=fun f st'=>match f with
 | .ret v=>R (.ret v) ⟨st.loc,st'.sto⟩
 | .exc x=>R (.exc x) ⟨st.loc,st'.sto⟩
 | _=>R (.ret .none) ⟨st.loc,st'.sto⟩
abbrev kDefX (st:St) (X:Xc→St→Prop):Xc→St→Prop:=fun x st'=>X x ⟨st.loc,st'.sto⟩
inductive Binds (s:Shared) (fd:FuncData) (args:Args) (binds:List (Str×V)):Prop
 | mk (bs:List (Str×Value)) (to:BindsTo s fd args bs) (nm:binds.map (·.1)=bs.map (·.1)) (is:IsL s.heap (binds.map (·.2)) (bs.map (·.2)))
theorem Rel.size (r:Rel K c st s):K.B.objs.size≤s.heap.objs.size:=let ⟨_,_,_,e,_⟩:=r.dictL;Nat.le_trans r.above (Nat.le_of_lt (Heap.lt_size e))
theorem Rel.notNew (r:Rel K c st s):c.L≠s.heap.objs.size:=let ⟨_,_,_,e,_⟩:=r.dictL;Nat.ne_of_lt (Heap.lt_size e)
theorem get?_size (h:Heap):h.get? h.objs.size=none:=Heap.get?_none_of_le (Nat.le_refl _)
theorem Rel.notOwn (r:Rel K c st s):c.L∉adr st++tadr K:=fun hm=>by
 obtain ⟨o,es,ep,e,d⟩:=r.dictL
 rcases List.mem_append.mp hm with hm | hm
 ·obtain ⟨y,hy,q⟩:=List.mem_map.mp hm
  obtain ⟨_,g,_⟩:=r.g.lists y hy
  cases (q▸e).symm.trans g
  exact stoO_nd d
 ·obtain ⟨y,hy,q⟩:=List.mem_map.mp hm
  obtain ⟨_,_,g,_⟩:=r.g.tabs y hy
  cases (q▸e).symm.trans g
  cases d
theorem Rel.back {c':Cx} {st':St} {sto:List (Addr×List V)} (r:Rel K c st s) (x:Rel K c' st' s') (ho:c'.frs.tail.tail=c.top::c.outer) (hA:c'.A.handled=c.A.handled) (hc:c'.hc=c.hc) (ev:Ev K.C (adr st++tadr K) s.heap s'.heap) (hsub:sto.Sublist st'.sto) (dom:∀a∈sto.map (·.1),a∈adr st∨s.heap.get? a=none):Nx K c st s ⟨st.loc,sto⟩ s':=
 have g':Go K c.L (adr st) (adr (⟨st.loc,sto⟩:St)) s.heap s'.heap:=⟨ev.mono fun _ q=>.inl (List.mem_cons_of_mem _ q),dom⟩
 ⟨⟨⟨x.g.base,x.g.gens,x.g.os,r.g.ff.re (ho▸x.g.ff.tail.tail) r.ok.tp,fun y hy=>x.g.lists y (hsub.subset hy),(hsub.map (·.1)).nodup x.g.nod,hA▸hc▸x.g.held,x.g.tabs⟩,r.ok,r.loc.ev ev r.notOwn (g'.keeps r)⟩,g'⟩
theorem call_def_ok {vs ks:List Value} {a:Addr} {o:Obj} {fd:FuncData} {body:List Stmt} {kn:List Str} {binds:List (Str×V)} (G:Gl K) (r:Rel K c st s) (ho:s.heap.get? a=some o) (hd:o.data=.func fd) (hcd:s.heap.CodeRec fd.code fd.qualname)
 (hbody:fd.body=.stmts body) (hroom:c.A.depth <recursionLimit) (hbind:Binds s fd ⟨vs,kn.zip ks⟩ binds)
 (hcell:(fd.scope.names.all fun x=>x.2 != .cell)=true) (hloc:((binds.map (·.1)).all fun x=>fd.scope.names.lookup x==some .local)=true)
 (hgl:fd.globals=mainGlobals) (hbl:fd.builtins=builtinsNs) (h:∀L,EB K (cxIn c fd a L) body ⟨binds.reverse,st.sto⟩ (kDef st R) (kDefX st X))
 (hco:fd.scope.isCoroutine=false) (hgen:fd.scope.isGenerator=false) (hkd:fd.scope.kind=.function):
 wpAny K.M c.A (PySem.call (.ref a) vs (kn.zip ks)) (fun v s'=>QF K c st s R (.ret v) s') (QX K c st s X) s:=by
 obtain ⟨bs,hb,hn,hl⟩:=hbind
 refine wpAny_call (codeAny_call_def hroom ho hd (G.lim.keeps r.g.base) hcd hbody hb (fun x hx=>by simpa using List.all_eq_true.mp hcell x hx) (fun x hx=>?_) (fun h₀ hns hk=>?_) hco hgen hkd)
 ·simpa using List.all_eq_true.mp hloc x.1 (hn▸List.mem_map_of_mem hx)
 ·have hBL:=r.size
  have ev:Ev K.C [] s.heap h₀:=.of_keep hk
  have ff:FF K.B h₀ (callEnv fd s.heap.objs.size a::callEnv fd s.heap.objs.size a::c.top::c.outer):=fun env he=>by
   rcases (List.mem_cons.mp he).elim (fun q=>Or.inl q) (fun q=>List.mem_cons.mp q) with rfl | he
   ·obtain ⟨o',es,ep,e,d,_⟩:=hns
    exact ⟨by show fd.scope.kind≠_;rw [hkd];nofun,hBL,rfl,hBL,e,d⟩
   ·exact (r.g.ff.tail.ev ev) env he
  have r':Rel K (cxIn c fd a s.heap.objs.size) ⟨binds.reverse,st.sto⟩ { s with heap:=h₀,toks:=s.toks+bs.length}:=
   ⟨⟨fun b o' e=>hk b o' (r.g.base b o' e),r.g.gens,r.g.os,ff,fun y hy=>(r.g.lists y hy).ev ev (fun q=>nomatch q) ev.kp,r.g.nod,fun e q b=>(r.g.held e q b).ev ev (fun q=>nomatch q),fun t ht=>(r.g.tabs t ht).at' ev (fun q=>nomatch q) ev.kp⟩,
     ⟨by show (c.A.deeper _).frames=_;simp only [Around.deeper,r.ok.frames,Option.map_some,cxIn],rfl,⟨_,rfl⟩,rfl,hkd,hgl,hbl,fun hm=>let ⟨_,_,e,_⟩:=r.g.ff.tail.new hm;ne_some (get?_size _) e,r.ok.handled⟩,
     ⟨hns,isl_lookup (by rw [List.map_reverse,List.map_reverse,hn]) (by rw [List.map_reverse,List.map_reverse];exact isl_reverse (hl.keep ev.kp))⟩⟩
  have back:∀{st' s'},Nx K (cxIn c fd a s.heap.objs.size) ⟨binds.reverse,st.sto⟩ { s with heap:=h₀,toks:=s.toks+bs.length} st' s'→Nx K c st s ⟨st.loc,st'.sto⟩ s':=fun x=>
   r.back x.r rfl rfl rfl (ev.wide.trans x.g.ev fun b hb=>(List.mem_cons.mp hb).elim (fun e=>.inr (e▸get?_size _)) .inl) (List.Sublist.refl _) fun b hb=>(x.g.dom b hb).imp id ev.none
  refine wpAny_mono (h _ _ r') (fun f s' ⟨fl,st',x,i,q⟩=>?_) fun v s' ⟨e,xc,st',hv,x,f,q⟩=>?_
  ·cases i with
   | ret i=>exact ⟨_,_,back x,.ret i,q⟩
   | exc f n=>exact ⟨_,_,back x,.exc f (ev.none n),q⟩
   | _=>exact ⟨_,_,back x,.ret .none,q⟩
  ·subst hv
   exact fly_leaving x.r.ok.frames x.r.ok.tp x.r.g.ff x.r.g.base f fun h' a1 a2 a3=>⟨e,xc,_,rfl,back (x.ev a1 a2),a3.fly,q⟩
theorem CR_def {a:Addr} {o:Obj} {fd:FuncData} {body:List Stmt} {args ka:List V} {kn:List Str} {binds:List (Str×V)} (G:Gl K) (ho:K.B.get? a=some o) (hd:o.data=.func fd) (hcd:K.B.CodeRec fd.code fd.qualname)
 (hbody:fd.body=.stmts body) (hroom:c.A.depth <recursionLimit)
 (hbind:∀(s:Shared) vs ks,K.B.StaysIn s.heap→IsL s.heap args vs→IsL s.heap ka ks→Binds s fd ⟨vs,kn.zip ks⟩ binds)
 (hcell:(fd.scope.names.all fun x=>x.2 != .cell)=true) (hloc:((binds.map (·.1)).all fun x=>fd.scope.names.lookup x==some .local)=true)
 (hgl:fd.globals=mainGlobals) (hbl:fd.builtins=builtinsNs) (h:∀L,EB K (cxIn c fd a L) body ⟨binds.reverse,st.sto⟩ (kDef st R) (kDefX st X))
 (hco:fd.scope.isCoroutine=false:=by kernel_rfl!) (hgen:fd.scope.isGenerator=false:=by kernel_rfl!) (hkd:fd.scope.kind=.function:=by kernel_rfl!):CR K c (.ref a) args kn ka st R X:=fun s fv vs ks r i il ik=>
 (show fv=.ref a from i.inv)▸call_def_ok G r (r.g.base _ _ ho) hd (hcd.keeps r.g.base) hbody hroom (hbind s vs ks r.g.base il ik) hcell hloc hgl hbl h hco hgen hkd
theorem CR_fn {fd:FuncData} {body:List Stmt} {args ka:List V} {kn:List Str} {binds:List (Str×V)} (G:Gl K)
 (hbody:fd.body=.stmts body) (hroom:c.A.depth <recursionLimit)
 (hbind:∀(s:Shared) vs ks cd,K.B.StaysIn s.heap→IsL s.heap args vs→IsL s.heap ka ks→Binds s { fd with code:=cd} ⟨vs,kn.zip ks⟩ binds)
 (hcell:(fd.scope.names.all fun x=>x.2 != .cell)=true) (hloc:((binds.map (·.1)).all fun x=>fd.scope.names.lookup x==some .local)=true)
 (hgl:fd.globals=mainGlobals) (hbl:fd.builtins=builtinsNs)
 (h:∀a cd L,EB K (cxIn c { fd with code:=cd} a L) body ⟨binds.reverse,st.sto⟩ (kDef st R) (kDefX st X))
 (hco:fd.scope.isCoroutine=false:=by kernel_rfl!) (hgen:fd.scope.isGenerator=false:=by kernel_rfl!) (hkd:fd.scope.kind=.function:=by kernel_rfl!):CR K c (.fn fd) args kn ka st R X:=fun s fv vs ks r i il ik=>by
 obtain ⟨a,cd,o,oc,vc,t,rfl,ho,hc,hd,gc,cc,dc,qc⟩:=i.inv
 exact call_def_ok G r ho hd ⟨_,_,_,_,rfl,gc,dc,qc⟩ hbody hroom (hbind s vs ks _ r.g.base il ik) hcell hloc hgl hbl (h _ _) hco hgen hkd
end
end
end
section
open PySem PySem.Builtin PySem.Builtin.Str PySem.StrLaws
noncomputable abbrev L (x:Str):List Nat:=x.cps.toList
theorem L_length (x:Str):(L x).length=x.length:=by simp [L,Str.length]
noncomputable def hits (x y:Str) (hi i:Nat):Bool:=decide (i+y.length≤hi)&&subAt x y i
theorem occ1_full (x y:Str) (hi:Nat):∀(l:List Nat) (st:Array Nat×Nat),st.fst.size=1→(forIn l st (occBody x y hi 1)).run.fst=st.fst
 | [],st,h=>rfl
 | a::l,st,h=>by
   rw [List.forIn_cons]
   unfold occBody
   rw [if_neg (by rw [h];lia)]
   exact occ1_full x y hi l _ h
theorem occ1_go (x y:Str) (hi:Nat):∀(l:List Nat) (free:Nat),(∀i∈l,free≤i)→(forIn l ((#[]:Array Nat),free) (occBody x y hi 1)).run.fst.toList=(l.find? (hits x y hi)).toList
 | [],free,_=>by simp
 | a::l,free,hf=>by
   rw [List.forIn_cons,List.find?_cons]
   unfold occBody
   have ha:free≤a:=hf a (List.mem_cons_self ..)
   cases hc:hits x y hi a with
   | true=>
     unfold hits at hc
     simp only [Bool.and_eq_true,decide_eq_true_eq] at hc
     rw [if_pos ⟨⟨⟨by simp,ha⟩,hc.1⟩,hc.2⟩]
     have:=occ1_full x y hi l ((#[]:Array Nat).push a,a+y.length) rfl
     show ((forIn l ((#[]:Array Nat).push a,a+y.length) (occBody x y hi 1)).run.fst).toList=_
     rw [this];rfl
   | false=>
     have:¬((((#[]:Array Nat).size <1∧free≤a)∧a+y.length≤hi)∧subAt x y a=true):=by
      intro h
      unfold hits at hc
      simp only [Bool.and_eq_false_iff,decide_eq_false_iff_not] at hc
      rcases hc with hc | hc
      ·exact hc h.1.2
      ·rw [h.2] at hc;cases hc
     rw [if_neg this]
     exact occ1_go x y hi l free fun i h=>hf i (List.mem_cons_of_mem _ h)
theorem occ1 (x y:Str) (lo hi:Nat):occurrences x y lo hi 1=((List.range' lo (hi+1 -lo)).find? (hits x y hi)).toList:=by
 rw [occ_eq]
 exact occ1_go x y hi _ lo fun i h=>by simp at h;lia
theorem subAt_one (x:Str) (c i:Nat):subAt x ⟨#[c]⟩ i=(x.cps[i]?==some c):=by
 unfold subAt
 rw [Bool.eq_iff_iff]
 simp only [beq_iff_eq,Str.length]
 show x.cps.extract i (i+1)=#[c]↔_
 rw [←Array.toList_inj,Array.toList_extract]
 rw [←Array.getElem?_toList]
 simp only [List.extract_eq_drop_take,Nat.add_sub_cancel_left]
 cases h:x.cps.toList.drop i with
 | nil=>
   have:x.cps.toList[i]?=none:=by rw [List.getElem?_eq_none_iff];simpa using h
   simp [this]
 | cons a r=>
   have:x.cps.toList[i]?=some a:=by
    have:=congrArg (·[0]?) h
    simpa using this
   simp [this]
noncomputable def fst1 (c:Nat):List Nat→Option Nat
 | []=>none
 | a::r=>if a=c then some 0 else (fst1 c r).map (·+1)
theorem find_one (l:List Nat) (c hi:Nat) (hhi:hi=l.length):∀(n lo:Nat),lo+n=hi+1→
 (List.range' lo n).find? (fun i=>decide (i+1≤hi)&&(l[i]?==some c))=(fst1 c (l.drop lo)).map (lo+·)
 | 0,lo,h=>by
   rw [List.drop_eq_nil_of_le (by lia)];rfl
 | n+1,lo,h=>by
   rw [List.range'_succ,List.find?_cons]
   by_cases hlo:lo <l.length
   ·rw [List.drop_eq_getElem_cons hlo,fst1]
    rw [List.getElem?_eq_getElem hlo]
    by_cases e:l[lo]=c
    ·have:decide (lo+1≤hi)=true:=by simp;lia
     simp [e,this]
    ·simp only [e,if_false,Option.some_beq_some,beq_eq_false_iff_ne.mpr e,Bool.and_false,cond_false]
     rw [find_one l c hi hhi n (lo+1) (by refine' qA ‹_›)]
     cases fst1 c (l.drop (lo+1))<;>simp<;>lia
   ·rw [List.drop_eq_nil_of_le (by refine' Nat.le_of_not_lt ‹_›)]
    have:decide (lo+1≤hi)=false:=by simp;lia
    simp only [this,Bool.false_and,cond_false]
    rw [find_one l c hi hhi n (lo+1) (by refine' qA ‹_›),List.drop_eq_nil_of_le (by lia)];rfl
theorem occ_one (x:Str) (c lo:Nat) (h:lo≤x.length):occurrences x ⟨#[c]⟩ lo x.length 1=((fst1 c ((L x).drop lo)).map (lo+·)).toList:=by
 rw [occ1]
 congr 1
 have:(hits x ⟨#[c]⟩ x.length)=(fun i=>decide (i+1≤x.length)&&((L x)[i]?==some c)):=by
  funext i
  unfold hits
  rw [subAt_one]
  simp [L,Str.length]
  first | done | rfl
 rw [this]
 exact find_one (L x) c x.length (L_length x).symm _ _ (by refine' Nat.add_sub_of_le (Nat.le_succ_of_le ‹_›))
theorem occA_go (x:Str) (c hi lim:Nat):∀(l:List Nat) (st:Array Nat×Nat),(∀i∈l,st.2≤i)→l.Pairwise (· <·)→st.1.size+l.length≤lim→
 (forIn l st (occBody x ⟨#[c]⟩ hi lim)).run.fst.toList=st.1.toList++l.filter (hits x ⟨#[c]⟩ hi)
 | [],st,_,_,_=>by simp
 | a::l,st,hf,hp,hl=>by
   rw [List.forIn_cons,List.filter_cons]
   unfold occBody
   have ha:st.2≤a:=hf a (List.mem_cons_self ..)
   simp only [List.length_cons] at hl
   rw [List.pairwise_cons] at hp
   cases hc:hits x ⟨#[c]⟩ hi a with
   | true=>
     unfold hits at hc
     simp only [Bool.and_eq_true,decide_eq_true_eq] at hc
     rw [if_pos ⟨⟨⟨by refine' qE ‹_›,ha⟩,hc.1⟩,hc.2⟩]
     have:=occA_go x c hi lim l (st.1.push a,a+1) (fun i h=>by have:=hp.1 i h;exact this) hp.2 (by simp;refine' qB ‹_›)
     refine Eq.trans this ?_
     simp
   | false=>
     have:¬(((st.1.size <lim∧st.2≤a)∧a+Str.length ⟨#[c]⟩≤hi)∧subAt x ⟨#[c]⟩ a=true):=by
      intro h
      unfold hits at hc
      simp only [Bool.and_eq_false_iff,decide_eq_false_iff_not] at hc
      rcases hc with hc | hc
      ·exact hc h.1.2
      ·rw [h.2] at hc;cases hc
     rw [if_neg this]
     exact occA_go x c hi lim l _ (fun i h=>hf i (List.mem_cons_of_mem _ h)) hp.2 (by simpa using by refine' qF ‹_›)
theorem filter_count (l:List Nat) (c hi:Nat):∀(n lo:Nat),lo+n=hi+1→hi≤l.length→
 ((List.range' lo n).filter (fun i=>decide (i+1≤hi)&&(l[i]?==some c))).length=((l.take hi).drop lo).count c
 | 0,lo,h,hh=>by rw [List.drop_eq_nil_of_le (by simp;lia)];rfl
 | n+1,lo,h,hh=>by
   rw [List.range'_succ,List.filter_cons]
   have ih:=filter_count l c hi n (lo+1) (by refine' qA ‹_›) hh
   by_cases hlo:lo <hi
   ·have h1:(l.take hi).drop lo=l[lo]::(l.take hi).drop (lo+1):=by
     rw [List.drop_eq_getElem_cons (by simp;lia)];simp
    rw [h1,List.count_cons,List.getElem?_eq_getElem (by refine' Nat.lt_of_lt_of_le ‹_› ‹_›)]
    have:decide (lo+1≤hi)=true:=by simp;refine' Nat.succ_le_of_lt ‹_›
    simp only [this,Bool.true_and,Option.some_beq_some]
    by_cases e:l[lo]=c
    ·simp [e,ih]
    ·simp [e,ih]
   ·have:decide (lo+1≤hi)=false:=by simp;lia
    simp only [this,Bool.false_and,Bool.false_eq_true,if_false]
    rw [ih,List.drop_eq_nil_of_le (by simp;lia),List.drop_eq_nil_of_le (by simp;lia)]
theorem occ_count (x:Str) (c hi:Nat) (h:hi≤x.length):(occurrences x ⟨#[c]⟩ 0 hi (x.length+1)).length=((L x).take hi).count c:=by
 rw [occ_eq,occA_go x c hi _ _ _ (by simp) (by simpa using List.pairwise_lt_range') (by simp;assumption)]
 have:(hits x ⟨#[c]⟩ hi)=(fun i=>decide (i+1≤hi)&&((L x)[i]?==some c)):=by
  funext i
  unfold hits
  rw [subAt_one]
  simp [L,Str.length]
  first | done | rfl
 rw [this]
 have:=filter_count (L x) c hi (hi+1) 0 (by refine' Nat.add_comm _ _) (by rw [L_length];exact h)
 simpa using this
theorem find_congr' {α:Type} {p q:α→Bool}:∀{l:List α},(∀a∈l,p a=q a)→l.find? p=l.find? q
 | [],_=>rfl
 | a::l,h=>by rw [List.find?_cons,List.find?_cons,h a (List.mem_cons_self ..),find_congr' fun b hb=>h b (List.mem_cons_of_mem _ hb)]
noncomputable def tail1 (c:Nat) (l:List Nat):Nat:=(l.reverse.takeWhile (· != c)).length
noncomputable def lastBody (x y:Str) (hi:Nat) (i:Nat) (last:Option Nat):Id (ForInStep (Option Nat)):=if i+y.length≤hi∧subAt x y i=true then pure (.yield (some i)) else pure (.yield last)
theorem last_eq (x y:Str) (lo hi:Nat):lastOccurrence x y lo hi=(forIn (List.range' lo (hi+1 -lo)) none (lastBody x y hi)).run:=by
 unfold lastOccurrence lastBody
 simp
theorem last_go (x y:Str) (hi:Nat):∀(l:List Nat) (z:Option Nat),(forIn l z (lastBody x y hi)).run=((l.reverse.find? (hits x y hi)).or z)
 | [],z=>by simp
 | a::l,z=>by
   rw [List.forIn_cons]
   unfold lastBody
   by_cases hc:a+y.length≤hi∧subAt x y a=true
   ·rw [if_pos hc]
    refine (last_go x y hi l (some a)).trans ?_
    rw [List.reverse_cons,List.find?_append]
    have:hits x y hi a=true:=by unfold hits;simp [hc.1,hc.2]
    simp [List.find?_cons,this,Option.or_assoc]
   ·rw [if_neg hc]
    refine (last_go x y hi l z).trans ?_
    rw [List.reverse_cons,List.find?_append]
    have:hits x y hi a=false:=by
     unfold hits
     cases h1:decide (a+y.length≤hi) with
     | false=>rfl
     | true=>simp at h1;cases h2:subAt x y a with | false=>rfl | true=>exact absurd ⟨h1,h2⟩ hc
    simp [List.find?_cons,this]
theorem tail1_snoc (c a:Nat) (l:List Nat):tail1 c (l++[a])=if a=c then 0 else tail1 c l+1:=by
 unfold tail1
 rw [List.reverse_append]
 by_cases h:a=c<;>simp [List.takeWhile_cons,h]
theorem find_last (l:List Nat) (c:Nat):∀hi,hi≤l.length→((List.range' 0 hi).reverse.find? (fun i=>l[i]?==some c))=if (l.take hi).count c=0 then none else some (hi -1 -tail1 c (l.take hi))
 | 0,_=>by simp
 | n+1,h=>by
   rw [List.range'_1_concat,List.reverse_append,List.take_add_one,List.getElem?_eq_getElem (by refine' Nat.lt_of_succ_le ‹_›)]
   simp only [List.reverse_cons,List.reverse_nil,List.nil_append,List.cons_append,List.find?_cons,Nat.zero_add,Option.toList_some,List.count_append,List.count_cons,List.count_nil]
   rw [List.getElem?_eq_getElem (by refine' Nat.lt_of_succ_le ‹_›),tail1_snoc]
   by_cases e:l[n]=c
   ·simp [e]
   ·simp only [Option.some_beq_some,beq_eq_false_iff_ne.mpr e,e,if_false,Bool.false_eq_true,Nat.add_zero]
    rw [find_last l c n (by lia)]
    split
    ·rfl
    ·congr 1;lia
theorem last_one (x:Str) (c hi:Nat) (h:hi≤x.length) (hc:((L x).take hi).count c≠0):lastOccurrence x ⟨#[c]⟩ 0 hi=some (hi -1 -tail1 c ((L x).take hi)):=by
 have e:(hits x ⟨#[c]⟩ hi)=(fun i=>decide (i+1≤hi)&&((L x)[i]?==some c)):=by
  funext i
  unfold hits
  rw [subAt_one]
  simp [L,Str.length]
  first | done | rfl
 rw [last_eq,last_go,show hi+1 -0=hi+1 from rfl,List.range'_1_concat,List.reverse_append,e]
 have h0:decide (0+hi+1≤hi)=false:=by simp
 rw [List.reverse_cons,List.reverse_nil,List.nil_append,List.cons_append,List.find?_cons,h0]
 simp only [Bool.false_and,List.nil_append,Option.or_none]
 have h1:(List.range' 0 hi).reverse.find? (fun i=>decide (i+1≤hi)&&((L x)[i]?==some c))=(List.range' 0 hi).reverse.find? (fun i=>(L x)[i]?==some c):=by
  refine find_congr' fun i hi'=>?_
  have:i <hi:=by simpa using hi'
  have:decide (i+1≤hi)=true:=by simp;refine' Nat.succ_le_of_lt ‹_›
  rw [this,Bool.true_and]
 rw [h1,find_last _ _ _ (by rw [L_length];exact h),if_neg hc]
end
section
open PySem PySem.W PySem.Calls PyProof.Rows PySem.Builtin PySem.Builtin.Str
section
section
variable {K:Kx} {c:Cx} {st st₁:St} {Q:V→St→Prop} {X:Xc→St→Prop} {R:Fl→St→Prop} {T:Bool→St→Prop} {P:List V→St→Prop} {s s₁:Shared}
theorem evalArgs_pos {M:Model} {A:Around} {E:Value→Shared→Prop} {s:Shared} {f:Value} {Q:Args→Shared→Prop} {args:List (Bool×Sem Value)} (hp:args.any (·.1)=false) (h:wpAny M A (spliced args) (fun vs s'=>Q ⟨vs,[]⟩ s') E s):wpAny M A (evalArgs f true args []) Q E s:=by
 cases args with
 | nil=>
   unfold evalArgs
   exact wpAny_bind (wpAny_mono h (fun vs s' h'=>wpAny_holding (wpAny_bind (wpAny_pure (wpAny_bind (wpAny_pure (wpAny_pure h')))))) fun _ _ x=>x)
 | cons b r=>
   obtain ⟨b,x⟩:=b
   cases b with
   | true=>cases hp
   | false=>exact evalArgs_plain h
def Recv (K:Kx) (c:Cx) (a:V) (T:String) (st:St):Prop:=∀s v,Rel K c st s→Is s.heap a v→s.TypeIs v T∧∀b,v=.ref b→∃ob,s.heap.get? b=some ob∧ob.dict=none
theorem Recv.str {x:Str}:Recv K c (.str x) "str" st:=fun s v r i=>let ⟨_,e,_⟩:=i.inv;e▸⟨typeIs_str _ _ _,fun _ e=>nomatch e⟩
abbrev kB0 (K:Kx) (c:Cx) (f:V) (Q:V→St→Prop) (X:Xc→St→Prop):List V→St→Prop:=fun l st=>CF K c f l [] [] st Q X
abbrev kM (K:Kx) (c:Cx) (id:String) (a:V) (Q:V→St→Prop) (X:Xc→St→Prop):List V→St→Prop:=fun l st=>CF K c (.blt id) (a::l) [] [] st Q X
inductive KMeth (K:Kx) (c:Cx) (pos:Pos) (args:List Expr) (T id:String) (Q:V→St→Prop) (X:Xc→St→Prop) (a:V) (st:St):Prop
 | mk (recv:Recv K c a T st) (q:EL K c pos args st (kM K c id a Q X) X)
theorem EV_meth {o:Expr} {name:Str} {apos pos:Pos} {args:List Expr} {T id:String} (pa:PlainAttrs T) (slot:Slot T name id) (hty:typeOf (.builtin id)=pure (.type "method_descriptor"))
 (h:EV K c o st (KMeth K c pos args T id Q X) X)
 (hbase:attributeBase o name c.env (eval o c.env)=eval o c.env:=by with_unfolding_all rfl)
 (hp:(backTo pos (starEach args c.env)).any (·.1)=false:=by kernel_rfl!)
 (hfew:((backTo pos (starEach args c.env)).all (fun x=>!x.1)&&(backToKw pos (keywordEach [] c.env)).all (fun x=>x.1.isSome)
   &&decide (args.length+([]:List Keyword).length+(if ([]:List Keyword).isEmpty then 0 else 1) <30))=true:=by kernel_rfl!)
 (hline:(apos.endLine==pos.line)=true:=by kernel_rfl!):EV K c (.Call (.Attribute o name apos) args [] pos) st Q X:=fun s r=>
 wpAny_Call_method_lateS hbase hfew hline (h.go (.refl r) fun v s₁ a st₁ n _ i ⟨ra,q⟩=>
  ⟨T,id,pa,slot,hty,(ra s₁ v n.r i).1,(ra s₁ v n.r i).2,Calls.callWith_builtin hp (evalArgs_pos hp (LV.go q n fun vs s₂ l st₂ n₂ kp il q=>CF.fin (fv:=.builtin id) (vs:=v::vs) (ks:=[]) q n₂ (.blt id) (.cons (i.keep kp) il) .nil))⟩)
inductive KFun (K:Kx) (c:Cx) (pos:Pos) (args:List Expr) (w:String→V) (Q:V→St→Prop) (X:Xc→St→Prop) (f:V) (st:St):Prop
 | mk (n:String) (hf:f=w n) (q:EL K c pos args st (kB0 K c (w n) Q X) X)
theorem EV_callB {id:Str} {p pos:Pos} {args:List Expr} (h:EV K c (.Name id p) st (KFun K c pos args .blt Q X) X)
 (hp:(backTo pos (starEach args c.env)).any (·.1)=false:=by kernel_rfl!):EV K c (.Call (.Name id p) args [] pos) st Q X:=fun s r=>
 wpAny_Call_Name_kw (h.go (.refl r) fun fv s₁ f st₁ n _ i ⟨m,hf,q⟩=>by
  subst hf
  obtain rfl:=i.inv
  exact Calls.callWith_builtin hp (evalArgs_pos hp (LV.go q n fun vs s₂ l st₂ n₂ _ il q=>CF.fin (ks:=[]) q n₂ (.blt m) il .nil)))
theorem EV_callT {id:Str} {p pos:Pos} {args:List Expr} (h:EV K c (.Name id p) st (KFun K c pos args .typ Q X) X)
 (hp:(backTo pos (starEach args c.env)).any (·.1)=false:=by kernel_rfl!):EV K c (.Call (.Name id p) args [] pos) st Q X:=fun s r=>
 wpAny_Call_Name_kw (h.go (.refl r) fun fv s₁ f st₁ n _ i ⟨m,hf,q⟩=>by
  subst hf
  obtain rfl:=i.inv
  exact PySem.callWith_type hp (evalArgs_pos hp (LV.go q n fun vs s₂ l st₂ n₂ _ il q=>CF.fin (ks:=[]) q n₂ (.typ m) il .nil)))
theorem CF.b {id:String} {args:List V} (k:∀s vs,Rel K c st s→IsL s.heap args vs→wpAny K.M c.A (PySem.call (.builtin id) vs []) (QV K c st s Q) (QX K c st s X) s):CF K c (.blt id) args [] [] st Q X:=fun s fv vs ks r i il ik=>
 (show fv=_ from i.inv)▸(isl0 ik)▸k s vs r il
theorem CF.t {id:String} {args:List V} (k:∀s vs,Rel K c st s→IsL s.heap args vs→wpAny K.M c.A (PySem.call (.type id) vs []) (QV K c st s Q) (QX K c st s X) s):CF K c (.typ id) args [] [] st Q X:=fun s fv vs ks r i il ik=>
 (show fv=_ from i.inv)▸(isl0 ik)▸k s vs r il
theorem CF_meth {T:String} {name:Str} {id:String} {B:Builtin} {args:List V} (slot:Slot T name id) (entry:entryFor table id=some B)
 (h:∀s vs,Rel K c st s→IsL s.heap args vs→∃self rest,vs=self::rest∧s.TypeIs self T∧argsOk id ⟨self::rest,[]⟩∧∃S,Meets (B ⟨self::rest,[]⟩) S∧S c.A (wants (QV K c st s Q) (QX K c st s X)) s):
 CF K c (.blt id) args [] [] st Q X:=.b fun s vs r il=>by
 obtain ⟨self,rest,rfl,t,ok,S,m,q⟩:=h s vs r il
 exact call_meets slot t entry ok m q
theorem CF_ssi {name:Str} {id:String} {B:Builtin} {x y:Str} {p:Int} (slot:Slot "str" name id) (entry:entryFor table id=some B) (ok:∀a b c,argsOk id ⟨[a,b,c],[]⟩)
 (h:∀s t u w,Rel K c st s→∃S,Meets (B ⟨[.str x t,.str y u,.int p w],[]⟩) S∧S c.A (wants (QV K c st s Q) (QX K c st s X)) s):CF K c (.blt id) [.str x,.str y,.int p] [] [] st Q X:=.b fun s vs r il=>by
 obtain ⟨v,u,w,rfl,i1,i2,i3⟩:=isl3 il
 obtain ⟨t1,rfl,_⟩:=i1.inv
 obtain ⟨t2,rfl,_⟩:=i2.inv
 obtain ⟨t3,rfl⟩:=i3.inv
 obtain ⟨S,m,q⟩:=h s t1 t2 t3 r
 exact call_meets slot (typeIs_str _ _ _) entry (ok _ _ _) m q
theorem isl4 {h:Heap} {a b c d:V} {vs:List Value} (x:IsL h [a,b,c,d] vs):∃v u w z,vs=[v,u,w,z]∧Is h a v∧Is h b u∧Is h c w∧Is h d z:=by
 obtain ⟨i,il⟩:=x.c;obtain ⟨_,_,_,e,j⟩:=isl3 il;exact ⟨_,_,_,_,congrArg _ e,i,j⟩
theorem CF_ssii {name:Str} {id:String} {B:Builtin} {x y:Str} {p q:Int} (slot:Slot "str" name id) (entry:entryFor table id=some B) (ok:∀a b c d,argsOk id ⟨[a,b,c,d],[]⟩)
 (h:∀s t u w z,Rel K c st s→∃S,Meets (B ⟨[.str x t,.str y u,.int p w,.int q z],[]⟩) S∧S c.A (wants (QV K c st s Q) (QX K c st s X)) s):CF K c (.blt id) [.str x,.str y,.int p,.int q] [] [] st Q X:=.b fun s vs r il=>by
 obtain ⟨v,u,w,z,rfl,i1,i2,i3,i4⟩:=isl4 il
 obtain ⟨t1,rfl,_⟩:=i1.inv
 obtain ⟨t2,rfl,_⟩:=i2.inv
 obtain ⟨t3,rfl⟩:=i3.inv
 obtain ⟨t4,rfl⟩:=i4.inv
 obtain ⟨S,m,q⟩:=h s t1 t2 t3 t4 r
 exact call_meets slot (typeIs_str _ _ _) entry (ok _ _ _ _) m q
end
end
section
theorem fromIndex_nat (n p:Nat):fromIndex n (p:Int)=p:=by
 unfold fromIndex
 rw [if_neg (Int.not_lt.mpr (Int.natCast_nonneg p))]
 rfl
theorem gives_index_from (x y:Str) (i:Int) (t u v:Tok) (k:Nat) (r:List Nat) (h:occurrences x y (fromIndex x.length i) x.length 1=k::r):Gives («str.index» ⟨[.str x t,.str y u,.int i v],[]⟩) (.int k):=by
 show Gives (match occurrences x y (fromIndex x.length i) (min x.length x.length) 1 with | k::_=>retInt k | []=>_) _
 rw [Nat.min_self,h]
 exact .of_eq rfl
theorem raises_index_from (x y:Str) (i:Int) (t u v:Tok) (h:occurrences x y (fromIndex x.length i) x.length 1=[]):Meets («str.index» ⟨[.str x t,.str y u,.int i v],[]⟩) (raisesNew "ValueError"):=by
 intro prog w A R s hS
 show wpAny _ _ (match occurrences x y (fromIndex x.length i) (min x.length x.length) 1 with | i::_=>retInt i | []=>_) _ _ s
 rw [Nat.min_self,h]
 first
  | exact wpAny_bind (wpAny_rule (by exact_raiseError plainExc_ValueError hS.1 hS.2))
  | exact wpAny_bind (wpAny_rule (wpAny_bind (by exact_raiseError plainExc_ValueError hS.1 hS.2)))
theorem gives_count_in (x y:Str) (i j:Int) (t u v w:Tok):Gives («str.count» ⟨[.str x t,.str y u,.int i v,.int j w],[]⟩) (.int (occurrences x y (fromIndex x.length i) (min (fromIndex x.length j) x.length) (x.length+1)).length):=by
 show Gives (retInt (occurrences x y (fromIndex x.length i) (min (fromIndex x.length j) x.length) (x.length+1)).length) _
 exact .of_eq rfl
theorem gives_rindex_in (x y:Str) (i j:Int) (t u v w:Tok) (k:Nat) (h:lastOccurrence x y (fromIndex x.length i) (min (fromIndex x.length j) x.length)=some k):Gives («str.rindex» ⟨[.str x t,.str y u,.int i v,.int j w],[]⟩) (.int k):=by
 show Gives (match lastOccurrence x y (fromIndex x.length i) (min (fromIndex x.length j) x.length) with | some i=>retInt i | none=>_) _
 rw [h]
 exact .of_eq rfl
section
variable {K:Kx} {c:Cx} {st:St} {Q:V→St→Prop} {X:Xc→St→Prop} {s:Shared} {x y:Str} {n p:Nat}
theorem raise_ok {n:String} (r:Rel K c st s) (hh:c.A.handled=none) (q:X { cls:=.type n} st) (hn:Vol K.C (.type n)=true:=by rfl) (ht:n≠"traceback":=by decide):(raisesNew n) c.A (wants (QV K c st s Q) (QX K c st s X)) s:=
 ⟨hh,fun h' tk e hx=>qx_new r hx hn ht (q:=q)⟩
theorem CF_index (hp:p≤x.length) (hh:c.A.handled=none) (h:kAt Q X st "ValueError" (fun k=>.int (p+k:Nat)) (fst1 n ((L x).drop p))):CF K c (.blt "str.index") [.str x,.str ⟨#[n]⟩,.int p] [] [] st Q X:=
 CF_ssi F.slot_str_index F.entry_str_index F.args_str_index_3 fun s t u w r=>by
  have e:=occ_one x n p hp
  cases hf:fst1 n ((L x).drop p) with
  | some k=>
    rw [hf] at h e
    exact ⟨_,(gives_index_from x _ p _ _ _ (p+k) [] (by rw [fromIndex_nat];exact e)).meets,QV.now r (.int _ _) h rfl⟩
  | none=>
    rw [hf] at h e
    exact ⟨_,raises_index_from x _ p _ _ _ (by rw [fromIndex_nat];exact e),raise_ok r hh h⟩
theorem min_from (hp:p≤x.length):min (fromIndex x.length (p:Int)) x.length=p:=by rw [fromIndex_nat,Nat.min_eq_left hp]
theorem CF_count (hp:p≤x.length) (h:Q (.int (((L x).take p).count n:Nat)) st):CF K c (.blt "str.count") [.str x,.str ⟨#[n]⟩,.int 0,.int p] [] [] st Q X:=
 CF_ssii F.slot_str_count F.entry_str_count F.args_str_count_4 fun s t u w z r=>⟨_,(gives_count_in x _ 0 p _ _ _ _).meets,QV.now r (.int _ _) (by
  rw [min_from hp,show fromIndex x.length 0=0 from rfl,occ_count x n p hp];exact h) rfl⟩
theorem CF_rindex (hp:p≤x.length) (hc:((L x).take p).count n≠0) (h:Q (.int (p -1 -tail1 n ((L x).take p):Nat)) st):CF K c (.blt "str.rindex") [.str x,.str ⟨#[n]⟩,.int 0,.int p] [] [] st Q X:=
 CF_ssii F.slot_str_rindex F.entry_str_rindex F.args_str_rindex_4 fun s t u w z r=>⟨_,(gives_rindex_in x _ 0 p _ _ _ _ _ (by rw [min_from hp,show fromIndex x.length 0=0 from rfl,last_one x n p hp hc])).meets,QV.now r (.int _ _) h rfl⟩
theorem CF_startswith (h:Q (.bool (decide (p+y.length≤x.length)&&subAt x y p)) st):CF K c (.blt "str.startswith") [.str x,.str y,.int p] [] [] st Q X:=
 CF_ssi F.slot_str_startswith F.entry_str_startswith F.args_str_startswith_3 fun s t u w r=>⟨_,(gives_str_startswith_from x y p _ _ _).meets,QV.now r (.bool _) (by rw [fromIndex_nat];exact h) rfl⟩
theorem CF_len (hx:x.length <2 ^ 62) (h:Q (.int x.length) st):CF K c (.blt "len") [.str x] [] [] st Q X:=.b fun s vs r il=>by
 obtain ⟨v,rfl,i1⟩:=isl1 il
 obtain ⟨t,rfl,_⟩:=i1.inv
 exact PySem.P.len_str (by refine' q63 ‹_› (by nofun)) (QV.now r (.int _ _) h rfl)
theorem Op_add_str (hl:x.length+y.length≤sizeLine) (h:Q (.str (x++y)) st):Op2 K c (binaryOp .Add) (.str x) (.str y) st Q X:=.ss fun s t u r _=>
 SB.add (fun t' k=>QV.now r (.str _ _ (by rw [Str.length_append];exact hl)) h rfl) hl
theorem Op_iadd_str (hl:x.length+y.length≤sizeLine) (h:Q (.str (x++y)) st):Op2 K c (inplaceOp .Add) (.str x) (.str y) st Q X:=.ss fun s t u r _=>
 SB.iadd (fun t' k=>QV.now r (.str _ _ (by rw [Str.length_append];exact hl)) h rfl) hl
theorem Op_eq_str (h:Q (.bool (x.cps.toList==y.cps.toList)) st):Op2 K c (compareOp .Eq) (.str x) (.str y) st Q X:=.ss fun s t u r _=>PySem.P.eq_str (QV.now r (.bool _) h rfl)
theorem Op_ne_str (h:Q (.bool (x.cps.toList != y.cps.toList)) st):Op2 K c (compareOp .NotEq) (.str x) (.str y) st Q X:=.ss fun s t u r _=>PySem.P.ne_str (QV.now r (.bool _) h rfl)
end
end
section
section
variable {prog:Program} {w:World} {A:Around} {E:Value→Shared→Prop} {s:Shared}
theorem pyHash_none {Q:Int→Shared→Prop} (h:Q 0xFCA86420 { s with toks:=s.toks+1}):wpAny (model prog w) A (pyHash .none) Q E s:=by
 have hT:s.TypeIs .none "NoneType":=rfl
 unfold pyHash
 have hv:[Value.none].any Value.onHeap=false:=rfl
 refine wpAny_bind ?_
 rw [cRoomFor,if_neg (by rw [hv];exact Bool.false_ne_true)];refine wpAny_pure ?_
 refine wpAny_bind (wpAny_specialOf hT PySem.F.slot_NoneType_hash.lookup ?_)
 show wpAny _ _ (if (some (Value.builtin "NoneType.__hash__")==some Value.none)=true then _ else _) Q E s
 rw [if_neg (by rw [beq_builtin_none];exact Bool.false_ne_true)]
 refine wpAny_bind (wpAny_specialOf hT PySem.F.slot_NoneType_hash.lookup ?_)
 show wpAny _ _ (callSpecialIfBoundUnlessNone? .none "__hash__" _ >>= _) Q E s
 refine wpAny_bind (wpAny_callSpecialIfBoundUnlessNone?_slot hT PySem.F.slot_NoneType_hash
  (wpAny_call_entry PySem.F.slot_NoneType_hash hT PySem.F.entry_NoneType_hash
    (show wpAny _ _ (do ret (←mkInt 0xFCA86420)) _ _ s from wpAny_ret_mkInt ?_) (PySem.F.args_NoneType_hash_1 _)))
 show wpAny _ _ (if (decide (-(2:Int) ^ 63≤0xFCA86420)&&decide ((0xFCA86420:Int) <2 ^ 63))=true then _ else _) Q E _
 rw [if_pos (by decide)]
 exact wpAny_pure h
end
noncomputable def isOpt:Option Str→Value→Bool
 | none,.none=>true
 | some x,v=>Value.isStrOf x v
 | _,_=>false
theorem isOpt_shape {k:Option Str} {v:Value} (h:isOpt k v=true):(k=none∧v=.none)∨∃x t,k=some x∧v=.str x t:=by
 cases k with
 | none=>cases v<;>simp_all [isOpt]
 | some x=>obtain ⟨t,e⟩:=Value.isStrOf_shape h;exact .inr ⟨x,t,rfl,e⟩
noncomputable def optKind (prog:Program) (w:World):KeyKind prog w (Option Str) where
 is:=isOpt
 hash:=fun k=>match k with | none=>0xFCA86420 | some x=>hashStr w x
 inj:=fun v a b ha hb=>by
  rcases isOpt_shape ha with ⟨rfl,rfl⟩ | ⟨x,t,rfl,rfl⟩
  ·rcases isOpt_shape hb with ⟨rfl,_⟩ | ⟨y,u,rfl,e⟩
   ·rfl
   ·cases e
  ·rcases isOpt_shape hb with ⟨rfl,e⟩ | ⟨y,u,rfl,e⟩
   ·cases e
   ·cases e;rfl
 byValue:=fun k v h=>by rcases isOpt_shape h with ⟨rfl,rfl⟩ | ⟨x,t,rfl,rfl⟩<;>rfl
 pyHash:=fun hv h=>by
  rcases isOpt_shape hv with ⟨rfl,rfl⟩ | ⟨x,t,rfl,rfl⟩
  ·exact pyHash_none h
  ·exact wpAny_pyHash_str h
 eqBool:=fun {A E s a b u v Q} hu hv h=>by
  rcases isOpt_shape hu with ⟨rfl,rfl⟩ | ⟨x,t,rfl,rfl⟩<;>rcases isOpt_shape hv with ⟨rfl,rfl⟩ | ⟨y,t',rfl,rfl⟩
  ·exact (show wpAny (model prog w) A (eqBool .none .none) Q E s from by
    unfold eqBool
    exact wpAny_bind (wpAny_rule (wpAny_pure (by simpa using h))))
  ·exact SeqAt.EqAt.none_str _ _ prog w E Q (by simpa using h)
  ·exact SeqAt.EqAt.str_none _ _ prog w E Q (by simpa using h)
  ·exact wpAny_eqBool_str (by simpa using h)
 «strs»:=fun k x t v h=>by
  rcases isOpt_shape h with ⟨_,e⟩ | ⟨y,u,rfl,e⟩
  ·cases e
  ·cases e;cases v<;>rfl
theorem froz_opt {prog:Program} {w:World} {h:Heap} {a:Addr} {S:Str→Bool} {n:Nat} (x:FrozAt (strKind prog w) h a S n):FrozAt (optKind prog w) h a (fun k=>k.elim false S) n:=by
 obtain ⟨es,ep,t,ho,hel,hmem,hn,hf⟩:=x
 refine ⟨es,ep,t,ho,fun e he=>?_,fun k=>?_,hn,hf⟩
 ·obtain ⟨⟨k,h1,h2⟩,h3⟩:=hel e he
  exact ⟨⟨some k,h1,h2⟩,h3⟩
 ·cases k with
  | some x=>exact hmem x
  | none=>
    refine ⟨fun q=>(nomatch q),fun ⟨e,he,q⟩=>?_⟩
    obtain ⟨⟨k,h1,h2⟩,h3⟩:=hel e he
    obtain ⟨t,e1⟩:=Value.isStrOf_shape h1
    rw [e1] at q
    cases q
section
variable {K:Kx} {c:Cx} {st:St} {Q:V→St→Prop} {X:Xc→St→Prop} {s:Shared}
theorem Op_none_in_set {a:Addr} {S:Str→Bool} {n:Nat} (hS:FrozAt (strKind K.prog K.w) K.B a S n) (hb:n <4096) (q:Q (.bool false) st):Op2 K c (compareOp .In) .none (.ref a) st Q X:=fun s v u r i j=>
 let ⟨_,F⟩:=r.fr;(show v=.none from i.inv)▸(show u=.ref a from j.inv)▸in_froz (k:=Option.none) F (froz_opt hS) rfl rfl hb (QV.now r (.bool _) q rfl)
theorem Op2.xn {f:Value→Value→Sem Value} {a:V} (k:∀s v,Rel K c st s→Is s.heap a v→wpAny K.M c.A (f v .none) (QV K c st s Q) (QX K c st s X) s):Op2 K c f a .none st Q X:=fun s v u r i j=>(show u=.none from j.inv)▸k s v r i
theorem Op2.ns {f:Value→Value→Sem Value} {x:Str} (k:∀s t,Rel K c st s→wpAny K.M c.A (f .none (.str x t)) (QV K c st s Q) (QX K c st s X) s):Op2 K c f .none (.str x) st Q X:=fun s v u r i j=>
 let ⟨_,e,_⟩:=j.inv;(show v=.none from i.inv)▸e▸k s _ r
theorem Op_eq_none_str {x:Str} (h:Q (.bool false) st):Op2 K c (compareOp .Eq) .none (.str x) st Q X:=.ns fun s t r=>EqNone.eq_none_str (QV.now r (.bool _) h rfl)
theorem Op_ne_none_str {x:Str} (h:Q (.bool true) st):Op2 K c (compareOp .NotEq) .none (.str x) st Q X:=.ns fun s t r=>EqNone.ne_none_str (QV.now r (.bool _) h rfl)
noncomputable def isN:V→Option Bool
 | .none=>some true | .str _=>some false | .int _=>some false | .tup _=>some false | _=>Option.none
theorem isN_is {h:Heap} {a:V} {v:Value} {b:Bool} (i:Is h a v) (hb:isN a=some b):(v==Value.none)=b:=by
 have j:=i.inv
 cases a<;>first | (cases hb;done) | skip
 ·cases hb;cases j;rfl
 ·cases hb;obtain ⟨t,rfl⟩:=j;rfl
 ·cases hb;obtain ⟨t,rfl,_⟩:=j;rfl
 ·cases hb;obtain ⟨a,vs,rfl,_⟩:=j;rfl
theorem Op_is_none {v:V} {b:Bool} (hb:isN v=some b) (h:Q (.bool b) st):Op2 K c (compareOp .Is) v .none st Q X:=.xn fun s v r i=>PySem.is_none (QV.now r (.bool _) (isN_is i hb▸h) rfl)
theorem Op_isnot_none {v:V} {b:Bool} (hb:isN v=some b) (h:Q (.bool !b) st):Op2 K c (compareOp .IsNot) v .none st Q X:=.xn fun s v r i=>PySem.isNot_none (QV.now r (.bool _) (isN_is i hb▸h) rfl)
variable {i j:Int}
theorem Op_add_int (q:Q (.int (i+j)) st):Op2 K c (binaryOp .Add) (.int i) (.int j) st Q X:=.ii fun s _ _ r=>PySem.P.add_int (QV.now r (.int _ _) q rfl)
theorem Op_sub_int (q:Q (.int (i -j)) st):Op2 K c (binaryOp .Sub) (.int i) (.int j) st Q X:=.ii fun s _ _ r=>PySem.P.sub_int (QV.now r (.int _ _) q rfl)
theorem Op_eq_int (q:Q (.bool (i==j)) st):Op2 K c (compareOp .Eq) (.int i) (.int j) st Q X:=.ii fun s _ _ r=>PySem.P.eq_int (QV.now r (.bool _) q rfl)
theorem Op_ne_int (q:Q (.bool (i != j)) st):Op2 K c (compareOp .NotEq) (.int i) (.int j) st Q X:=.ii fun s _ _ r=>PySem.P.ne_int (QV.now r (.bool _) q rfl)
theorem Op_lt_int (q:Q (.bool (decide (i <j))) st):Op2 K c (compareOp .Lt) (.int i) (.int j) st Q X:=.ii fun s _ _ r=>PySem.P.lt_int (QV.now r (.bool _) q rfl)
theorem Op_le_int (q:Q (.bool (decide (i≤j))) st):Op2 K c (compareOp .LtE) (.int i) (.int j) st Q X:=.ii fun s _ _ r=>PySem.P.le_int (QV.now r (.bool _) q rfl)
theorem Op_gt_int (q:Q (.bool (decide (i>j))) st):Op2 K c (compareOp .Gt) (.int i) (.int j) st Q X:=.ii fun s _ _ r=>PySem.P.gt_int (QV.now r (.bool _) q rfl)
theorem Op_ge_int (q:Q (.bool (decide (i≥j))) st):Op2 K c (compareOp .GtE) (.int i) (.int j) st Q X:=.ii fun s _ _ r=>PySem.P.ge_int (QV.now r (.bool _) q rfl)
theorem Op_fdiv_int (hj:j≠0) (hp:Builtin.divisionGoesByPylong i j=false) (q:Q (.int (i.fdiv j)) st):Op2 K c (binaryOp .FloorDiv) (.int i) (.int j) st Q X:=.ii fun s _ _ r=>PyProof.Rows.floordiv_int hj (QV.now r (.int _ _) q rfl) (.inl hp)
theorem Op_fmod_int (hj:j≠0) (q:Q (.int (i.fmod j)) st):Op2 K c (binaryOp .Mod) (.int i) (.int j) st Q X:=.ii fun s _ _ r=>PyProof.Rows.mod_int' hj (QV.now r (.int _ _) q rfl)
end
end
section
section
variable {prog:Program} {w:World} {A:Around} {E:Value→Shared→Prop} {s:Shared} {env:Env}
theorem Subscript_SliceT {value:Expr} {lower upper:Option Expr} {p pos:Pos} {T id:String} {Q:Value→Shared→Prop}
 (hl:typeLookup (.type T) "__getitem__"=pure (some (.builtin id)))
 (h:wpAny (model prog w) A (eval value env) (fun o s₁=>wpAny (model prog w) A (eval (.Slice lower upper none p) env) (fun i s₂=>s₂.TypeIs o T∧wpAny (model prog w) A (getItem o i) Q E s₂) E s₁) E s):
 wpAny (model prog w) A (eval (.Subscript value (.Slice lower upper none p) pos) env) Q E s:=by
 rw [eval_Subscript]
 refine wpAny_bind (wpAny_mono h (fun o s₁ h₁=>wpAny_bind (wpAny_holding (wpAny_mono h₁ (fun i s₂ h₂=>wpAny_bind (wpAny_standAt ?_)) fun _ _ x=>x)))
  fun _ _ x=>x)
 have fin:wpAny (model prog w) A (operate [i,o] (getItem o i)) (fun r s₃=>wpAny (model prog w) A (letTemporaryGo value o r >>= fun _=>pure r) Q E s₃) E s₂:=
  wpAny_operating (wpAny_mono h₂.2 (fun r s₃ h₃=>wpAny_bind (wpAny_letTemporaryGo (wpAny_pure h₃))) fun _ _ x=>x)
 first
  | (refine wpAny_bind ?_
     rw [getitemInPython_of_ne h₂.1.not_modules]
     refine wpAny_bind (wpAny_specialOf h₂.1 hl ?_)
     first
      | exact wpAny_pure (wpAny_bind fin)
      | exact wpAny_bind (wpAny_pure (wpAny_bind fin))
      | exact wpAny_bind fin)
  | (refine wpAny_bind (wpAny_specialOf h₂.1 hl ?_)
     first
      | exact wpAny_bind (wpAny_pure (wpAny_bind fin))
      | exact wpAny_bind fin)
end
section
variable {K:Kx} {c:Cx} {st st₁:St} {Q:V→St→Prop} {X:Xc→St→Prop} {R:Fl→St→Prop} {T:Bool→St→Prop} {P:List V→St→Prop} {s s₁:Shared}
noncomputable def partV:V→Option (Option Int)
 | .none=>some none | .int i=>some (some i) | _=>none
abbrev EP (K:Kx) (c:Cx) (e:Option Expr) (st:St) (Q:V→St→Prop) (X:Xc→St→Prop):Prop:=TV K c (evalPart e c.env) st Q X
theorem EP_none (q:Q .none st):EP K c none st Q X:=fun s r=>evalPart_none_step (QV.now r .none q rfl)
theorem EP_some {e:Expr} (h:EV K c e st Q X):EP K c (some e) st Q X:=h
theorem Nx.push (n:Nx K c st s st₁ s₁) (ob:Obj) (k:Nat):Nx K c st s st₁ { s₁ with heap:=s₁.heap.push ob,toks:=k}:=(n.ev (stays_push ob n.r.g.base) (Ev.push ..)).toks k
theorem part_of {h:Heap} {a:V} {v:Value} {o:Option Int} (i:Is h a v) (e:partV a=some o):∃l:Option (Int×Tok),v=partValue l∧l.map (·.1)=o:=by
 have j:=i.inv
 cases a<;>first | (cases e;done) | skip
 ·cases e;exact ⟨none,j,rfl⟩
 ·cases e;obtain ⟨t,rfl⟩:=j;exact ⟨some (_,t),rfl,rfl⟩
inductive KSl (Q:V→St→Prop) (a l u:V) (st:St):Prop
 | mk (x:Str) (lo hi:Option Int) (ha:a=.str x) (hl:partV l=some lo) (hu:partV u=some hi) (q:Q (.str (Txt.slice x lo hi)) st)
abbrev kUp (K:Kx) (c:Cx) (upper:Option Expr) (a:V) (Q:V→St→Prop) (X:Xc→St→Prop):V→St→Prop:=fun l st=>EP K c upper st (KSl Q a l) X
abbrev kLo (K:Kx) (c:Cx) (lower upper:Option Expr) (Q:V→St→Prop) (X:Xc→St→Prop):V→St→Prop:=fun a st=>EP K c lower st (kUp K c upper a Q X) X
theorem EV_slice {value:Expr} {lower upper:Option Expr} {p pos:Pos} (h:EV K c value st (kLo K c lower upper Q X) X):EV K c (.Subscript value (.Slice lower upper none p) pos) st Q X:=fun s R=>
 Subscript_SliceT (T:="str") F.slot_str_getitem.lookup (h.go (.refl R) fun v s₁ a st₁ n _ i q=>wpAny_Slice (TV.go q n fun lv s₂ l st₂ n k₂ j q=>TV.go q n fun uv s₃ u st₃ n k₃ k q=>by
  obtain ⟨x,lo,hi,rfl,hl,hu,q⟩:=q
  obtain ⟨t,rfl,hx⟩:=i.inv
  obtain ⟨l',rfl,rfl⟩:=part_of j hl
  obtain ⟨u',rfl,rfl⟩:=part_of k hu
  rw [evalPart_none]
  exact wpAny_pure ⟨typeIs_str _ x t,wpAny_getItem_str_slice (l:=l') (u:=u') (st:=none) ⟨_,Heap.get?_push_size _ rfl,rfl,rfl⟩ rfl
   (post_val_or_str ⟨Nat.le_trans (Txt.slice_le x _ _) hx,fun t' k=>⟨.str _,st₃,n.push _ _,.str _ _ (Nat.le_trans (Txt.slice_le x _ _) hx),q⟩⟩)⟩))
def EJ (K:Kx) (c:Cx) (l:List Expr) (acc:Str) (st:St) (Q:V→St→Prop) (X:Xc→St→Prop):Prop:=TV K c (joinParts acc (evalEach l c.env)) st Q X
inductive KJ (K:Kx) (c:Cx) (l:List Expr) (acc:Str) (Q:V→St→Prop) (X:Xc→St→Prop) (a:V) (st:St):Prop
 | mk (y:Str) (ha:a=.str y) (hl:(acc++y).length≤sizeLine) (q:EJ K c l (acc++y) st Q X)
theorem EJ_nil {acc:Str} (hl:acc.length≤sizeLine) (q:Q (.str acc) st):EJ K c [] acc st Q X:=fun s r=>by
 show wpAny _ _ (mkStr acc) _ _ s
 exact wpAny_mkStr (QV.now r (.str _ _ hl) q rfl) hl
theorem EJ_cons {e:Expr} {l:List Expr} {acc:Str} (h:EV K c e st (KJ K c l acc Q X) X):EJ K c (e::l) acc st Q X:=fun s r=>by
 show wpAny _ _ (joinParts acc (eval e c.env::evalEach l c.env)) _ _ s
 exact PyProof.Rows.joinParts_cons (h.go (.refl r) fun v s₁ a st₁ n _ i q=>by
  obtain ⟨y,rfl,hl,q⟩:=q
  obtain ⟨t,rfl,_⟩:=i.inv
  exact ⟨hl,TV.fin q n⟩)
theorem EV_joined {v₁ v₂:Expr} {rest:List Expr} {pos:Pos} (h:EJ K c (v₁::v₂::rest) Str.empty st Q X):EV K c (.JoinedStr (v₁::v₂::rest) pos) st Q X:=fun s r=>PyProof.Rows.JoinedStr_many (h s r)
abbrev kFmt (K:Kx) (c:Cx) (Q:V→St→Prop) (X:Xc→St→Prop):V→St→Prop:=fun a st=>Op1 K c (fun v=>formatField v Str.empty) a st Q X
theorem EV_fmt {value:Expr} {pos:Pos} (h:EV K c value st (kFmt K c Q X) X):EV K c (.FormattedValue value (-1) none pos) st Q X:=fun s r=>
 wpAny_FormattedValue_plain (h.go (.refl r) fun v s₁ a st₁ n _ i q=>Op1.fin q n i)
inductive KRep (Q:V→St→Prop) (a:V) (st:St):Prop
 | mk (x:Str) (ha:a=.str x) (hl:(reprText x).length≤sizeLine) (q:Q (.str (reprText x)) st)
theorem EV_fmtr {value:Expr} {pos:Pos} (h:EV K c value st (KRep Q) X):EV K c (.FormattedValue value 114 none pos) st Q X:=fun s r=>
 wpAny_FormattedValue_repr (h.go (.refl r) fun v s₁ a st₁ n _ i q=>by
  obtain ⟨x,rfl,hl,q⟩:=q
  obtain ⟨t,rfl,_⟩:=i.inv
  exact pyReprObj_str (PyProof.Rows.formatField_str (fun t' tk=>⟨_,st₁,n.toks _,.str _ _ hl,q⟩) hl) hl)
theorem Op_fmt_str {x:Str} (q:Q (.str x) st):Op1 K c (fun v=>formatField v Str.empty) (.str x) st Q X:=fun s v r i=>
 let ⟨_,e,hx⟩:=i.inv;e▸PyProof.Rows.formatField_str (fun t' tk=>QV.now r (.str _ _ hx) q rfl) hx
theorem Op_fmt_int {i:Int} (hi:i.natAbs.log2 <1920) (q:Q (.str (toString i)) st):Op1 K c (fun v=>formatField v Str.empty) (.int i) st Q X:=fun s v r a=>
 let ⟨_,e⟩:=a.inv;e▸wpAny_formatField_int hi (QV.now r (.str _ _ (int_text_fits hi)) q rfl)
inductive KTup (Q:V→St→Prop) (l:List V) (st:St):Prop
 | mk (h:l.length≤sizeLine) (q:Q (.tup l) st)
theorem isT_push {h:Heap} (vs:List Value):IsTup (h.push { cls:=.type "tuple",data:=.seq vs.toArray}) h.objs.size vs.toArray:=⟨_,Heap.get?_push_size _ rfl,rfl,_,rfl⟩
theorem QV.tup {l:List V} {vs:List Value} {k:Nat} (n:Nx K c st s st₁ s₁) (il:IsL s₁.heap l vs) (q:Q (.tup l) st₁):QV K c st s Q (.ref s₁.heap.objs.size) { s₁ with heap:=s₁.heap.push { cls:=.type "tuple",data:=.seq vs.toArray},toks:=k}:=
 ⟨.tup l,st₁,n.push _ _,.tup (isT_push vs) (il.keep (Ev.push K.C [] _ _).kp),q⟩
theorem EV_tuple {elts:List Expr} {k:Nat} {pos:Pos} (h:EL K c pos elts st (KTup Q) X):EV K c (.Tuple elts k pos) st Q X:=fun s r=>
 wpAny_Tuple (h.go (.refl r) fun vs s₁ l st₁ n _ il ⟨hl,q⟩=>⟨il.length▸hl,QV.tup n il q⟩)
theorem Nx.new {k:Nat} (n:Nx K c st s st₁ s₁) {l:List V} {vs:List Value} (il:IsL s₁.heap l vs):s₁.heap.objs.size∉adr st₁∧Nx K c st s ⟨st₁.loc,(s₁.heap.objs.size,l)::st₁.sto⟩ { s₁ with heap:=s₁.heap.push { cls:=.type "list",data:=.seq vs.toArray},toks:=k}:=by
 have ev:=Ev.push K.C [] s₁.heap { cls:=.type "list",data:=.seq vs.toArray}
 have r₂:=(n.push { cls:=.type "list",data:=.seq vs.toArray} k).r
 have hna:s₁.heap.objs.size∉adr st₁:=fun hm=>by
  obtain ⟨y,hy,e⟩:=List.mem_map.mp hm
  obtain ⟨_,e',_⟩:=n.r.g.lists y hy
  exact ne_some (get?_size _) (e▸e')
 refine ⟨hna,⟨{ r₂.g with lists:=fun y hy=>?_,nod:=List.nodup_cons.mpr ⟨hna,n.r.g.nod⟩},r₂.ok,r₂.loc⟩,n.g.trans ⟨ev.wide,fun a ha=>(List.mem_cons.mp ha).elim (fun e=>.inr (e▸get?_size _)) .inl⟩⟩
 rcases List.mem_cons.mp hy with rfl | hy
 ·refine ⟨?_,(Heap.get?_push_size _ rfl).trans (congrArg some (stoO_of (isC_of il)).symm),(stoL_of (isC_of il)).symm▸il.keep ev.kp⟩
  cases e:K.B.get? s₁.heap.objs.size with
  | none=>rfl
  | some o=>exact (ne_some (get?_size _) (n.r.g.base _ _ e)).elim
 ·exact r₂.g.lists y hy
inductive KList (Q:V→St→Prop) (l:List V) (st:St):Prop
 | mk (h:l.length≤sizeLine) (q:∀a,a∉adr st→Q (.ref a) ⟨st.loc,(a,l)::st.sto⟩)
theorem EV_list {elts:List Expr} {pos:Pos} (h:EL K c pos elts st (KList Q) X):EV K c (.List elts pos) st Q X:=fun s r=>
 wpAny_List (h.go (.refl r) fun vs s₁ l st₁ n _ il ⟨hl,q⟩=>⟨il.length▸hl,let ⟨h1,h2⟩:=n.new (k:=s₁.toks) il;⟨.ref _,_,h2,.ref _,q _ h1⟩⟩)
def AS (K:Kx) (c:Cx) (ts:List (Value→Sem Unit)) (vs:List V) (st:St) (R:St→Prop) (X:Xc→St→Prop):Prop:=
 ∀s us,Rel K c st s→IsL s.heap vs us→wpAny K.M c.A (assignInOrder ts us) (fun _ s'=>QU K c st s R s') (QX K c st s X) s
variable {RS:St→Prop}
theorem AS.go {ts:List (Value→Sem Unit)} {vs:List V} {us:List Value} {P:Unit→Shared→Prop} (h:AS K c ts vs st₁ RS X) (n:Nx K c st s st₁ s₁) (il:IsL s₁.heap vs us) (k:∀s₂ st₂,Nx K c st s st₂ s₂→Keeps s₁.heap s₂.heap→RS st₂→P () s₂):wpAny K.M c.A (assignInOrder ts us) P (QX K c st s X) s₁:=
 wpAny_mono (h s₁ us n.r il) (fun _ s₂ z=>z.casesOn fun st₂ m q=>k s₂ st₂ (n.trans m) (m.kp n.r) q) fun _ _ z=>z.after n
theorem AS_nil {vs:List V} (q:RS st):AS K c [] vs st RS X:=fun s us r i=>by
 show wpAny _ _ (pure ()) _ _ s
 exact wpAny_pure ⟨st,.refl r,q⟩
theorem AS_step {f:Value→Sem Unit} {ts:List (Value→Sem Unit)} {v:V} {vs:List V} {st':St} (h:AS K c ts vs st' RS X)
 (hf:∀(val:Value) (s:Shared) (P:Unit→Shared→Prop) (E:Value→Shared→Prop),Rel K c st s→Is s.heap v val→(∀s',Nx K c st s st' s'→Keeps s.heap s'.heap→P () s')→wpAny K.M c.A (f val) P E s):AS K c (f::ts) (v::vs) st RS X:=fun s us r i=>by
 obtain ⟨hv,hl⟩:=i.c
 rename_i u us
 show wpAny _ _ (do holding us (f u);assignInOrder ts us) _ _ s
 exact wpAny_bind (wpAny_holding (hf _ _ _ _ r hv fun s₁ n kp=>h.go n (hl.keep kp) fun s₂ st₂ n _ q=>⟨st₂,n,q⟩))
theorem AS_name {x:Str} {p:Pos} {ts:List (Value→Sem Unit)} {v:V} {vs:List V} (h:AS K c ts vs (st.set x v) RS X) (hk:c.env.kindOf x=some .local:=by kernel_rfl!):
 AS K c (assign (.Name x p) c.env::ts) (v::vs) st RS X:=AS_step h fun _ _ _ _ r i k=>assign_Name (store_ok (.refl r) i hk k)
theorem AS_bind {x:Str} {ts:List (Value→Sem Unit)} {v:V} {vs:List V} (h:AS K c ts vs (st.set x v) RS X) (hk:c.env.kindOf x=some .local:=by kernel_rfl!):
 AS K c ((fun n=>bindName c.env n) x::ts) (v::vs) st RS X:=AS_step h fun _ _ _ _ r i k=>bindName_ (store_ok (.refl r) i hk k)
theorem unpack_ok {l:List V} {v:Value} {k:Nat} {Qi:List Value→Shared→Prop} {E:Value→Shared→Prop} (n:Nx K c st s st₁ s₁) (i:Is s₁.heap (.tup l) v) (hh:c.A.handled=none) (hn:k=l.length)
 (q:∀us s₂,Nx K c st s st₁ s₂→IsL s₂.heap l us→Qi us s₂):wpAny K.M c.A (unpackItems v k none) Qi E s₁:=by
 obtain ⟨a,vs,rfl,ht,hl⟩:=i.inv
 have hsz:k=vs.toArray.size:=hn.trans hl.length
 rw [hsz]
 refine unpackItems_tuple hh ht fun h' he=>?_
 have kp:∀b o,s₁.heap.get? b=some o→h'.get? b=some o:=fun b o e=>he b o (Nat.ne_of_lt (Heap.lt_size e)) e
 exact q _ _ (n.kept kp) (hl.keep (Ev.of_keep (C:=K.C) (M:=[]) kp).kp)
abbrev kNext (R:Fl→St→Prop):St→Prop:=fun st=>R .next st
inductive KUnp (K:Kx) (c:Cx) (elts:List Expr) (R:Fl→St→Prop) (X:Xc→St→Prop) (a:V) (st:St):Prop
 | mk (l:List V) (ha:a=.tup l) (hl:(assignEach elts c.env).length=l.length) (q:AS K c ((assignEach elts c.env).map (·.2)) l st (kNext R) X)
theorem ES_unpack {elts:List Expr} {k:Nat} {tpos pos:Pos} {e:Expr} (hh:c.A.handled=none) (h:EV K c e st (KUnp K c elts R X) X)
 (hst:(assignEach elts c.env).findIdx? (·.1)=none:=by kernel_rfl!)
 (hs:swapsWithSole [.Tuple elts k tpos] e pos.line c.env=pure false:=by kernel_rfl!)
 (hw:swappedStores [.Tuple elts k tpos] e c.env=pure none:=by kernel_rfl!):ES K c (.Assign [.Tuple elts k tpos] e pos) st R X:=fun s r=>
 Assign_Tuple (h.go (.refl r) fun v s₁ a st₁ n _ i q=>by
  obtain ⟨l,rfl,hn,q⟩:=q
  rw [assign_Tuple]
  refine wpAny_bind (wpAny_standAt ?_)
  unfold unpack
  rw [hst]
  exact wpAny_bind (wpAny_holding (unpack_ok n i hh hn fun us s₂ n il=>AS.go q n il fun s₃ st₃ n _ q=>⟨.next,st₃,n,.next,q⟩))) hs hw
inductive KSwp (K:Kx) (c:Cx) (names:List Str) (R:Fl→St→Prop) (X:Xc→St→Prop) (a:V) (st:St):Prop
 | mk (l:List V) (ha:a=.tup l) (hl:names.length=l.length) (q:AS K c (names.reverse.map fun n=>bindName c.env n) l.reverse st (kNext R) X)
theorem ES_swap {elts:List Expr} {k:Nat} {tpos pos:Pos} {e:Expr} (names:List Str) (hh:c.A.handled=none) (h:EV K c e st (KSwp K c names R X) X)
 (hs:swapsWithSole [.Tuple elts k tpos] e pos.line c.env=pure false:=by kernel_rfl!)
 (hw:swappedStores [.Tuple elts k tpos] e c.env=pure (some names):=by kernel_rfl!):ES K c (.Assign [.Tuple elts k tpos] e pos) st R X:=fun s r=>
 Assign_Tuple_swapped (h.go (.refl r) fun v s₁ a st₁ n _ i q=>by
  obtain ⟨l,rfl,hn,q⟩:=q
  exact unpack_ok n i hh hn fun us s₂ n il=>AS.go q n (isl_reverse il) fun s₃ st₃ n _ q=>⟨.next,st₃,n,.next,q⟩) hs hw
end
end
section
inductive OwnC (K:Kx) (bm:List Value) (newId:String) (mN:Str→Option Value):Prop
 | mk {nm q:Str} {N:Addr} {bs:List Value} {hdct:Bool} {sn:List Str} {sub:List Value} {ab:Bool} {col:Option Bool} {dd:Option Addr} {k0 k1 k2 k3 k5:Option Value}
    (at_:K.B.get? K.C=some (excClassObj nm q K.C N bs bm hdct sn sub ab col dd k0 k1 k2 k3 k5 newId)) (ns:K.B.Ns N mN)
inductive Own (K:Kx) (B:String) (bm:List Value):Prop
 | mk {newId initId:String} {mN:Str→Option Value} (facts:ExcBaseFacts B newId initId bm) (cls:OwnC K bm newId mN) (noInit:mN "__init__"=none)
section
variable {K:Kx} {c:Cx} {st st₁:St} {Q:V→St→Prop} {X:Xc→St→Prop} {R:Fl→St→Prop} {F:Xc→St→Prop} {Bn:String} {bm:List Value} {M:Model} {A:Around} {E:Value→Shared→Prop} {s s₁:Shared} {e:Addr} {o:Obj} {vs:Array Value} {x:Xc}
inductive KArgs (K:Kx) (F:Xc→St→Prop) (l:List V) (st:St):Prop
 | mk (h:l.length≤sizeLine) (q:F { cls:=.ref K.C,args:=some l} st)
inductive KNew (K:Kx) (c:Cx) (pos:Pos) (args:List Expr) (F:Xc→St→Prop) (X:Xc→St→Prop) (f:V) (st:St):Prop
 | mk (hf:f=.ref K.C) (q:EL K c pos args st (KArgs K F) X)
theorem EX_new (O:Own K Bn bm) {id:Str} {p pos:Pos} {args:List Expr} (h:EV K c (.Name id p) st (KNew K c pos args F X) X)
 (hp:(backTo pos (starEach args c.env)).any (·.1)=false:=by kernel_rfl!):EX K c (.Call (.Name id p) args [] pos) st F X:=fun s r=>by
 obtain ⟨FB,⟨hC,hN⟩,hni⟩:=O
 refine wpAny_Call_Name_kw (h.go (.refl r) fun fv s₁ f st₁ n _ i ⟨hf,q⟩=>?_)
 subst hf
 obtain rfl:=i.inv
 show wpAny _ _ (callWith pos (.ref K.C) [] (backTo pos (starEach args c.env)) []) _ _ s₁
 unfold callWith
 refine wpAny_bind (wpAny_holding (evalArgs_pos hp (LV.go q n fun vs s₂ l st₂ n _ il ⟨hl,q⟩=>wpAny_bind (wpAny_standAt ?_))))
 obtain ⟨hp',gg,d,tk,os⟩:=s₂
 simp only [hp,List.any_nil,Bool.or_false]
 have gC:=n.r.g.base _ _ hC
 refine wpAny_bind (wpAny_keeperOf_exc gC (wpAny_bind (wpAny_call_exc_sub (hrest:=by show vs.length≤sizeLine;rw [←il.length];exact hl) FB gC (hN.keeps n.r.g.base) hni fun h' e hm=>wpAny_bind (wpAny_holding (wpAny_point (wpAny_pure ?_))))))
 have ev:Ev K.C [] hp' h':=.of_keep hm.keeps
 have kB:K.B.StaysIn h':=fun b o e=>hm.keeps b o (n.r.g.base b o e)
 obtain ⟨t,he,ht,hta⟩:=hm.there
 refine ⟨e,{ cls:=.ref K.C,args:=some l},st₂,rfl,n.ev kB ev,⟨⟨he,rfl,by simp [Vol],by simp,rfl,by simp,⟨rfl,⟨_,hta,rfl,_,rfl⟩,il.keep ev.kp⟩,fun _=>rfl,?_⟩,.inl rfl⟩,n.g.ev.none hm.new,q⟩
 cases z:K.B.get? e with
 | none=>rfl
 | some o=>exact (ne_some hm.new (n.r.g.base _ _ z)).elim
theorem isType_ok {Q:Bool→Shared→Prop} (he:s.heap.get? e=some o) (hd:o.data=.fields vs) (h:Q false s):wpAny M A (isType (.ref e)) Q E s:=by
 show wpAny M A (do return match (←loadHead e).data with | .cls _=>true | _=>false) Q E s
 refine wpAny_bind (wpAny_loadPart he (wpAny_pure ?_))
 rw [hd]
 exact h
section
variable {nm q:Str} {C N:Addr} {bs:List Value} {hdct:Bool} {sn:List Str} {sub:List Value} {ab:Bool} {col:Option Bool} {dd:Option Addr} {k0 k1 k2 k3 k5:Option Value} {newId:String} {Q:Value→Shared→Prop}
theorem excFrom_ok {w:String} (hC:s.heap.get? C=some (excClassObj nm q C N bs bm hdct sn sub ab col dd k0 k1 k2 k3 k5 newId)) (hb:bm.contains (.type "BaseException")=true) (he:s.heap.get? e=some o) (hc:o.cls=.ref C) (hd:o.data=.fields vs) (h:Q (.ref e) s):
 wpAny M A (excFromValue (.ref e) w) Q E s:=by
 have hcB:(Value.ref C::bm).contains (.type "BaseException")=true:=by rw [List.contains_cons,hb,Bool.or_true]
 unfold excFromValue isExcClass
 refine wpAny_bind (wpAny_bind (isType_ok he hd ?_))
 rw [if_neg (by decide)]
 refine wpAny_pure ?_
 rw [if_neg (by decide)]
 obtain ⟨hp,g,d,tk,os⟩:=s
 repeat (first | (with_reducible refine wpAny_loadPart_at he ?_;rw [hc]) | with_reducible refine wpAny_loadPart_at hC ?_ | (with_reducible refine wpAny_isSubtype_exc hC ?_;rw [hcB]) | wp_step)
 exact h
theorem raised_ok (hC:s.heap.get? C=some (excClassObj nm q C N bs bm hdct sn sub ab col dd k0 k1 k2 k3 k5 newId)) (he:s.heap.get? e=some o) (hc:o.cls=.ref C) (h:Q (.ref e) s):wpAny M A (raisedInstance (.ref e)) Q E s:=by
 obtain ⟨hp,g,d,tk,os⟩:=s
 unfold raisedInstance
 repeat (first | (with_reducible refine wpAny_loadPart_at he ?_;rw [hc]) | with_reducible refine wpAny_loadPart_at hC ?_ | wp_step)
 exact h
end
theorem FlyO.nf {C:Addr} {B h:Heap} (f:FlyO C B h e x o vs):¬Firm o:=fun g=>Bool.false_ne_true ((g.vol C).symm.trans (f.cls▸f.vol))
theorem fly_upd {C:Addr} {B h:Heap} {i:Nat} {v:Value} {b:Bool} (h0:i≠0) (h1:i≠1) (hb:b=true→x.bare=true∧i≠2) (f:FlyO C B h e x o vs) (htb:vs[1]?=some .none∨Tb B h e vs[1]?) (k:Keeps h (h.update e (Obj.mapFields (·.setIfInBounds i v)))):Fly C B (h.update e (Obj.mapFields (·.setIfInBounds i v))) e { x with bare:=b}:=
 ⟨f.set (at_field i v f.at_ f.data) k h0 hb,by rw [Array.getElem?_setIfInBounds,if_neg h1];exact htb.imp id fun t=>t.keep fun b o hb e=>(Heap.get?_update_other _ _ (Ne.symm hb)).trans e⟩
theorem fly_setF {C:Addr} {B:Heap} {i:Nat} {v:Value} {Q:Unit→Shared→Prop} (h0:i≠0) (h1:i≠1) (h2:i≠2) (hi:i <5) (hB:B.StaysIn s.heap) (f:Fly C B s.heap e x) (k:FlyK Fly C B e x Q s):wpAny M A (setField (.ref e) i v) Q E s:=by
 obtain ⟨f,htb⟩:=f
 have ev:=ev_field (C:=C) (M:=[]) i v f.at_ (f.cls▸f.vol) f.data h0 h2
 exact wpAny_setField f.at_ f.data (Nat.lt_of_lt_of_le hi f.size) (k _ (stays_update _ hB f.new) ev (fly_upd (b:=x.bare) h0 h1 (fun q=>⟨q,h2⟩) f htb ev.kp))
theorem fly_setFlight0 {C:Addr} {B:Heap} {fl:Option Addr} {Q:Unit→Shared→Prop} (hB:B.StaysIn s.heap) (f:Fly C B s.heap e x) (k:FlyK Fly C B e x Q s):wpAny M A (setFlight (.ref e) fl) Q E s:=by
 obtain ⟨f,htb⟩:=f
 rcases id htb with h1 | t
 ·unfold setFlight
  refine wpAny_bind (wpAny_field f.at_ f.data h1 ?_)
  rw [if_neg (by decide)]
  exact wpAny_pure (k s.heap hB (.refl ..) ⟨f,htb⟩)
 ·exact fly_setFlight hB ⟨f,t⟩ fun h' a b d=>k h' a b d.fly
theorem entry_unchain:entryFor table "proto.unchain"=some Builtin.«proto.unchain»:=entryFor_of_tree (by kernel_rfl)
def HandOk (c:Cx):Prop:=c.A.handled=none∨∃hd,c.A.handled=some (.ref hd)∧c.hc=true
noncomputable abbrev kBare (c:Cx) (x:Xc):Xc:={ x with bare:=x.bare&&c.A.handled.isNone}
theorem raiseNew_ok {α:Type} {Q:α→Shared→Prop} (n:Nx K c st s st₁ s₁) (f:Fly K.C K.B s₁.heap e x) (hx:x.cls=.ref K.C) (hn:s.heap.get? e=none) (r₀:Rel K c st s)
 (hh:HandOk c) (q:X (kBare c x) st₁):wpAny K.M c.A (raiseNew (.ref e):Sem α) Q (QX K c st s X) s₁:=by
 rcases hh with hh | ⟨hd,hh,hcb⟩
 ·refine wpAny_raiseNew_none hh ⟨e,x,st₁,rfl,n,f,?_⟩
  rw [kBare,hh] at q
  simpa using q
 ·rw [kBare,hh] at q
  simp only [Option.isNone_some,Bool.and_false] at q
  unfold raiseNew
  refine wpAny_bind (wpAny_handled ?_)
  rw [hh]
  obtain ⟨gh,_,dh,zh,h2,_⟩:=n.r.g.held hd hh hcb
  have hne:hd≠e:=fun w=>by
   obtain ⟨gh',_,_,_,_,_⟩:=r₀.g.held hd hh hcb
   exact ne_some (w▸hn) gh'
  show wpAny _ _ (if (Value.ref hd != Value.ref e)=true then (do
   let _ ←holding [Value.ref e] (runValue (.builtin "proto.unchain" ⟨[.ref e,.ref hd,.ref hd,.bool false],[]⟩))
   let _ ←updateField e 2 (.ref hd)
   throw (.ref e)) else throw (.ref e)) _ _ s₁
  rw [if_pos (by simp [hne])]
  refine wpAny_bind (wpAny_holding (wpAny_runValue (codeAny_builtin entry_unchain ?_)))
  unfold Builtin.«proto.unchain»
  refine wpAny_bind (wpAny_field gh dh h2 ?_)
  rw [if_pos (by decide)]
  refine wpAny_bind (wpAny_pure (wpAny_pure ?_))
  obtain ⟨f,htb⟩:=f
  refine wpAny_bind ?_
  unfold updateField
  refine wpAny_bind (wpAny_load f.at_ ?_)
  rw [f.data]
  show wpAny _ _ (if 2 <_ then update e (Obj.mapFields (·.setIfInBounds 2 (.ref hd))) else _) _ _ _
  rw [if_pos (Nat.lt_of_lt_of_le (by decide) f.size)]
  refine wpAny_update f.at_ ?_
  have ev:Ev K.C [e] s₁.heap (s₁.heap.update e (Obj.mapFields (·.setIfInBounds 2 (.ref hd)))):=Ev.sameBut (Heap.SameBut.update ..) (fun _ _=>⟨_,at_field 2 _ f.at_ f.data⟩) (.inl (List.mem_singleton.mpr rfl))
  have kp:=ev.keeps fun b hb o' e₁=>by
   rcases List.mem_singleton.mp hb with rfl
   exact Option.some.inj (f.at_.symm.trans e₁)▸f.nf
  refine wpAny_throw ⟨e,{ x with bare:=false},st₁,rfl,⟨n.r.keepBut (fun b o hb e=>(Heap.get?_update_other _ _ (Ne.symm hb)).trans e) f.at_ f.data f.new (by rw [f.cls,hx];nofun) f.nf (by rw [hh];exact fun w=>hne (Value.ref.inj (Option.some.inj w))),⟨n.g.ev.trans ev fun a ha=>.inr (by rcases List.mem_singleton.mp ha with rfl;exact hn),n.g.dom⟩⟩,fly_upd (by decide) (by decide) (fun w=>nomatch w) f htb kp,q⟩
inductive KRs (K:Kx) (c:Cx) (X:Xc→St→Prop) (x:Xc) (st:St):Prop
 | mk (h:x.cls=.ref K.C) (q:X (kBare c x) st)
inductive KRaise (K:Kx) (X:Xc→St→Prop) (x:Xc) (st:St):Prop
 | mk (h:x.cls=.ref K.C) (q:X x st)
theorem ES_raise (O:Own K Bn bm) {e:Expr} {pos:Pos} (hh:c.A.handled=none) (h:EX K c e st (KRaise K X) X):ES K c (.Raise (some e) none pos) st R X:=fun s r=>by
 obtain ⟨FB,⟨hC,hN⟩,hni⟩:=O
 show wpAny _ _ (do standAt pos;raiseStmt c.env (some (do let v ←eval e c.env;standAt pos;pure v)) none) _ _ s
 refine wpAny_bind (wpAny_standAt ?_)
 unfold raiseStmt
 refine wpAny_bind (wpAny_bind (wpAny_mono (h s r) (fun v s₁ ⟨e,x,st₁,hv,n,f,hn,hx,hq⟩=>wpAny_bind (wpAny_standAt (wpAny_pure ?_))) fun _ _ z=>z))
 subst hv
 obtain ⟨f',_⟩:=id f
 have hC₁:=n.r.g.base _ _ hC
 refine wpAny_bind (wpAny_pure (wpAny_bind (wpAny_holding (excFrom_ok hC₁ FB.hasBase f'.at_ (f'.cls.trans hx) f'.data ?_))))
 refine wpAny_bind (isType_ok f'.at_ f'.data ?_)
 rw [if_neg (by decide)]
 exact wpAny_bind (raised_ok hC₁ f'.at_ (f'.cls.trans hx) (wpAny_bind (fly_setFlight0 n.r.g.base f fun h' a b d=>raiseNew_ok (n.ev a b) d hx hn r (.inl hh) (by rw [kBare,hh];simpa using hq))))
theorem ES_raiseNone (O:Own K Bn bm) {e:Expr} {kk:Nat} {cpos pos:Pos} (hh:HandOk c) (h:EX K c e st (KRs K c X) X):ES K c (.Raise (some e) (some (.Constant .none kk cpos)) pos) st R X:=fun s r=>by
 obtain ⟨FB,⟨hC,hN⟩,hni⟩:=O
 show wpAny _ _ (do standAt pos;raiseStmt c.env (some (do let v ←eval e c.env;standAt pos;pure v)) (some (do let v ←eval (.Constant .none kk cpos) c.env;standAt pos;pure v))) _ _ s
 refine wpAny_bind (wpAny_standAt ?_)
 unfold raiseStmt
 refine wpAny_bind (wpAny_bind (wpAny_mono (h s r) (fun v s₁ ⟨e,x,st₁,hv,n,f,hn,hx,hq⟩=>wpAny_bind (wpAny_standAt (wpAny_pure ?_))) fun _ _ z=>z))
 subst hv
 obtain ⟨f',_⟩:=id f
 refine wpAny_bind (wpAny_holding (wpAny_bind (wpAny_Constant_none (wpAny_bind (wpAny_standAt (wpAny_pure ?_))))))
 refine wpAny_bind (wpAny_pure (wpAny_bind (wpAny_holding (excFrom_ok (n.r.g.base _ _ hC) FB.hasBase f'.at_ (f'.cls.trans hx) f'.data (wpAny_bind (wpAny_pure (wpAny_bind ?_)))))))
 refine fly_setF (by decide) (by decide) (by decide) (by decide) n.r.g.base f fun h₁ a₁ b₁ d₁=>wpAny_bind (fly_setF (s:={ s₁ with heap:=h₁}) (by decide) (by decide) (by decide) (by decide) a₁ d₁ fun h₂ a₂ b₂ d₂=>?_)
 have n₃:=(n.ev a₁ b₁).ev a₂ b₂
 obtain ⟨f',_⟩:=id d₂
 refine wpAny_bind (isType_ok f'.at_ f'.data ?_)
 rw [if_neg (by decide)]
 exact wpAny_bind (raised_ok (n₃.r.g.base _ _ hC) f'.at_ (f'.cls.trans hx) (wpAny_bind (fly_setFlight0 (s:={ s₁ with heap:=h₂}) a₂ d₂ fun h' a b d=>raiseNew_ok (n₃.ev a b) d hx hn r hh hq)))
end
end
section
section
variable {K:Kx} {c:Cx} {st st₁:St} {Q:V→St→Prop} {X:Xc→St→Prop} {R:Fl→St→Prop} {T:Bool→St→Prop} {P:List V→St→Prop} {F:Xc→St→Prop} {s s₁:Shared}
theorem Rel.evTab (r:Rel K c st s) {h':Heap} {t:Addr×Addr×Str} (ht:t∈K.tabs) (inj:∀t'∈K.tabs,t'.2.1=t.2.1→t'=t) (ex:Heap.ExtBut t.2.1 s.heap h') (hex:∃o',h'.get? t.2.1=some o')
 (tab:Keeps s.heap h'→TabIs K.B h' t):Nx K c st s st { s with heap:=h'}:=by
 obtain ⟨hPB,hPs,gP,_⟩:=r.g.tabs t ht
 have is:∀{o},s.heap.get? t.2.1=some o→tabObj _=o:=fun e=>Option.some.inj (gP.symm.trans e)
 have km:∀b o,b≠t.2.1→s.heap.get? b=some o→h'.get? b=some o:=fun b o q e=>ex b o q e
 refine ⟨r.but km hPB (fun o e f=>?_) (fun env he=>(r.g.ff env he).but km fun q=>?_) (fun p q=>?_) (fun k y hy=>(r.g.lists y hy).km km (fun q=>?_) k) r.g.nod (fun k t' ht' q=>inj t' ht' q▸tab k) fun k=>r.loc.but km (fun q=>?_) k,⟨⟨fun b o e=>?_⟩,fun _ q=>.inl q⟩⟩
 ·cases is e;rcases f.1 with q | q | q<;>cases q
 ·obtain ⟨_,_,f1,_,g1,d1⟩:=r.g.ff env he
  cases f1.symm.trans q;cases is g1;cases d1
 ·obtain ⟨g,hv,_,_,_,_⟩:=r.g.held _ p q
  cases is g;cases hv
 ·obtain ⟨_,g,_⟩:=r.g.lists y hy
  exact stoO_nf (congrArg Obj.data (is (q▸g))).symm
 ·exact Nat.lt_irrefl _ (Nat.lt_of_lt_of_le hPs (q▸r.above))
 ·by_cases q:b=t.2.1
  ·subst q
   obtain ⟨o',e'⟩:=hex
   exact ⟨o',e',fun hb=>absurd (in3 (List.mem_map_of_mem (f:=fun t:Addr×Addr×Str=>t.2.1) ht)) hb⟩
  ·exact ⟨o,ex b o q e,fun _=>.same rfl⟩
noncomputable def fnFd (name qual:Str) (params:Arguments) (body:List Stmt) (scope:Scope) (pm:Value):FuncData:=
 { name,qualname:=qual,params,body:=.stmts body,scope,globals:=mainGlobals,closure:=[],defaults:=.none,kwdefaults:=.none,pyModule:=pm,builtins:=builtinsNs}
structure GlN (K:Kx) (G:Gl K):Prop where
 inj:∀t∈K.tabs,∀t'∈K.tabs,t'.2.1=t.2.1→t'=t
 head:∀t∈K.tabs,CodeHd K.B t.1 t.2.1
 bmod:∀t∈K.tabs,K.B.BuiltinsAt G.mg t.2.1
theorem among_more {p:Pos} {w:Value} {r:List Value} (l:List Value) (h:TriplesOk l) (ho:codeAmong p l=some w):codeAmong p (l++r)=some w:=by
 fun_induction TriplesOk l with
 | case1=>simp [codeAmong] at ho
 | case2 a t b u x rest ih=>
   simp only [List.cons_append,codeAmong] at ho ⊢
   split at ho
   ·rename_i q;rw [if_pos q];exact ho
   ·rename_i q;rw [if_neg q];exact ih h ho
 | case3 l h1 h2=>exact h.elim
theorem among_new {p:Pos} {a b:Int} {c' v:Value} (l:List Value) (h:TriplesOk l) (ho:codeAmong p l=none) (hv:codeAmong p (l++[rawInt a,rawInt b,c'])=some v):v=c':=by
 fun_induction TriplesOk l with
 | case1=>
   simp only [List.nil_append,codeAmong,rawInt] at hv
   split at hv
   ·cases hv;rfl
   ·cases hv
 | case2 a' t b' u x rest ih=>
   simp only [List.cons_append,codeAmong] at ho hv
   split at ho
   ·cases ho
   ·rename_i q;rw [if_neg q] at hv;exact ih h ho hv
 | case3 l h1 h2=>exact h.elim
theorem makeFn_ok (G:Gl K) (N:GlN K G) {name qual:Str} {params:Arguments} {body:List Stmt} {scope:Scope} {pos:Pos} {line:Nat} {cd Pl:Addr} {Qv E:Value→Shared→Prop} (r:Rel K c st s) (ht:(cd,Pl,qual)∈K.tabs) (hcode:c.env.code=.ref cd)
 (hcl:closureFor scope c.env=pure []) (hdoc:docOf body=none)
 (k:∀v s',Nx K c st s st s'→Is s'.heap (.fn (fnFd name qual params body scope ((G.mg "__name__").getD .none))) v→Qv v s'):
 wpAny K.M c.A (makeFunction name qual params (.stmts body) scope c.env [] [] [] pos line) Qv E s:=by
 have keep:∀b o,K.B.get? b=some o→s.heap.get? b=some o:=r.g.base
 obtain ⟨hPB,hPs,gP,htr,hcodes⟩:=r.g.tabs _ ht
 have C:=(N.head _ ht).keeps keep
 obtain ⟨bm,ob,hbm,hne0,_,hneP,hbo,hcls,hdict,hdata⟩:=N.bmod _ ht
 rw [makeFunction_eq]
 simp only [List.zip_nil_right,List.filterMap_nil,List.isEmpty_nil,if_true,pure_bind]
 unfold makeTail
 rw [hcl,r.ok.globals]
 refine wpAny_bind (wpAny_pure ?_)
 simp only [List.isEmpty_nil,if_true]
 refine wpAny_bind (wpAny_pure ?_)
 have tail:∀(cv:Value) (s₁:Shared),Nx K c st s st s₁→CodeOf s₁.heap qual cv→
  wpAny K.M c.A (do
   let b ←builtinsFor mainGlobals c.env.builtins
   let n ←nsGet mainGlobals "__name__"
   let d ←(match docOf body with | some s=>mkText s | none=>pure .none)
   newObj (.type "function") (.func { name,qualname:=qual,params,body:=.stmts body,scope,globals:=mainGlobals,closure:=[],closureTuple:=.none,code:=cv,builtins:=b,defaults:=.none,kwdefaults:=.none,annotations:=none,pyModule:=n.getD .none,doc:=d})) Qv E s₁:=fun cv s₁ n x=>by
  obtain ⟨gc,cc,dc,qc⟩:=x
  refine wpAny_bind (wpAny_builtinsFor (G.hg.keeps n.r.g.base) hbm hne0 (n.r.g.base _ _ hbo) hcls hdict hdata (wpAny_bind (wpAny_nsGet (G.hg.keeps n.r.g.base) ?_)))
  rw [hdoc]
  exact wpAny_bind (wpAny_pure (wpAny_newObj_type (k _ _ (n.push _ _) (.fn _ (Heap.get?_push_size _ rfl) rfl rfl (Heap.get?_push_of_some _ gc) cc dc qc)) (by size_fits)))
 cases hf:codeAmong pos (Array.toList _) with
 | some cv=>
   have x:=hcodes pos cv hf
   refine wpAny_bind (wpAny_functionCode_hit hcode (C.code gP htr) hf ?_)
   exact tail cv s (.refl r) x
 | none=>
   refine wpAny_bind (wpAny_functionCodeX hcode (C.code gP htr) (C.tab gP) hf fun c' h' tk hx hge hlt hic hrec htb hnew=>?_)
   have hcodeOf:CodeOf h' qual (.ref c'):=by
    obtain ⟨c₂,o₂,vs₂,t₂,e₂,g₂,d₂,q₂⟩:=hrec
    cases e₂
    obtain ⟨P',_,_,⟨o₃,v₃,g₃,cl₃,d₃,_⟩,_⟩:=hnew
    cases g₂.symm.trans g₃
    exact ⟨g₂,cl₃,d₂,q₂⟩
   have nn:=r.evTab ht (N.inj _ ht) hx ⟨_,htb.2⟩ fun kp=>⟨hPB,hPs,htb.2,by
    obtain ⟨_,_,_,_,_,_,_,_,_,_,_,_,_,_,_,_,_,gp,dp,tp,_⟩:=hic
    cases htb.2.symm.trans gp;cases dp;exact tp,fun p v hv=>by
    rw [show ∀(ps:Array Value) x y z,(ps++#[x,y,z]).toList=ps.toList++[x,y,z] from fun ps x y z=>by simp] at hv
    cases ho:codeAmong p (Array.toList _) with
    | some w=>
      cases (among_more _ htr ho).symm.trans hv
      exact (hcodes p _ ho).keep kp
    | none=>exact among_new _ htr ho hv▸hcodeOf⟩
   exact tail (.ref c') { s with heap:=h',toks:=tk} (nn.toks tk) hcodeOf
theorem ES_def (G:Gl K) (N:GlN K G) {name:Str} {params:Arguments} {body:List Stmt} {scope:Scope} {pos:Pos} {cd Pl:Addr} {qual:Str} (ht:(cd,Pl,qual)∈K.tabs)
 (h:R .next (st.set name (.fn (fnFd name qual params body scope ((G.mg "__name__").getD .none)))))
 (hcode:c.env.code=.ref cd:=by kernel_rfl!) (hq:qualnameIn c.env name name=qual:=by kernel_rfl!) (hd0:params.defaults=[]:=by kernel_rfl!) (hk0:params.kw_defaults=[]:=by kernel_rfl!) (ha:annTrees params none c.env=[]:=by kernel_rfl!)
 (hcl:closureFor scope c.env=pure []:=by kernel_rfl!) (hdoc:docOf body=none:=by kernel_rfl!) (hk:c.env.kindOf name=some .local:=by kernel_rfl!):ES K c (.FunctionDef name params body [] none [] scope none name pos) st R X:=fun s r=>by
 show wpAny _ _ (exec (.FunctionDef name params body [] none [] scope none name pos) c.env) _ _ s
 rw [exec_def,ha,hq]
 have e1:(defaultsOf params c.env).1=[]:=by cases params;cases hd0;rfl
 have e2:(defaultsOf params c.env).2=[]:=by cases params;cases hk0;rfl
 rw [e1,e2]
 refine wpAny_bind (wpAny_standAt (wpAny_bind (wpAny_holding (wpAny_bind (wpAny_pure (wpAny_bind (wpAny_holding (wpAny_pure (wpAny_holding (wpAny_bind (wpAny_pure ?_)))))))))))
 exact makeFn_ok G N r ht hcode hcl hdoc fun v s₁ n i=>wpAny_bind (wpAny_standAt (wpAny_bind (bindName_ (store_ok n i hk fun s₂ n _=>wpAny_pure ⟨.next,_,n,.next,h⟩))))
inductive KCallF (K:Kx) (c:Cx) (pos:Pos) (args:List Expr) (kws:List Keyword) (Q:V→St→Prop) (X:Xc→St→Prop) (f:V) (st:St):Prop
 | mk (fd:FuncData) (hf:f=.fn fd) (q:EL K c pos args st (kKw K c pos kws (kCF K c (.fn fd) (kwN c pos kws) Q X) X) X)
theorem EV_callFn {id:Str} {p pos:Pos} {args:List Expr} {kws:List Keyword} {e₁:Expr} {rest:List Expr} (h:EV K c (.Name id p) st (KCallF K c pos args kws Q X) X)
 (ha:args=e₁::rest:=by rfl) (he:starEach args c.env=(false,eval e₁ c.env)::starEach rest c.env:=by kernel_rfl!)
 (hk:(backToKw pos (keywordEach kws c.env)).all (·.1.isSome)=true:=by kernel_rfl!):EV K c (.Call (.Name id p) args kws pos) st Q X:=fun s r=>
 wpAny_Call_Name_kw (h.go (.refl r) fun fv s₁ f st₁ n _ i q=>by
  obtain ⟨fd,rfl,q⟩:=q
  obtain ⟨a,cd,o,oc,vc,t,rfl,ho,hc,hd,_⟩:=i.inv
  exact fn_go q n hd (fun _ k _=>k.fn ho hc hd) he hk fun vs ks s₃ l kl st₃ n kp il ik q=>CF.fin q n (i.keep kp) il ik)
end
end
end
section
open PySem PySem.W PySem.Calls PyProof.Rows PySem.Builtin PySem.Builtin.Str
set_option maxRecDepth 100000
section
theorem plainAttrs_froz:PlainAttrs "frozenset":=⟨⟨"object.__getattribute__",by rw [typeLookup_type,builtinLookup_eq_fast];kernel_rfl,by decide+kernel⟩,by rw [typeLookup_type,builtinLookup_eq_fast];kernel_rfl⟩
theorem slot_froz_isdisjoint:Slot "frozenset" "isdisjoint" "frozenset.isdisjoint":=
 .of (owner:="frozenset") (n:="isdisjoint") (by rw [typeLookup_type,builtinLookup_eq_fast];kernel_rfl) (by decide+kernel) (by decide+kernel) (by decide+kernel)
  (by first | exact .inl (by decide+kernel) | exact .inr (by decide+kernel)) (by rw [isSubtype_type];kernel_rfl)
theorem type_froz_isdisjoint:typeOf (.builtin "frozenset.isdisjoint")=pure (.type "method_descriptor"):=by show builtinType _=_;rw [builtinType_eq_fast];kernel_rfl
theorem entry_froz_isdisjoint:entryFor table "frozenset.isdisjoint"=some Builtin.«frozenset.isdisjoint»:=entryFor_of_tree (by kernel_rfl)
theorem args_froz_isdisjoint (a b:Value):argsOk "frozenset.isdisjoint" ⟨[a,b],[]⟩:=by
 unfold argsOk;rw [signature?_of (id:="frozenset.isdisjoint") (n:="isdisjoint".toList.reverse) (o:="frozenset".toList.reverse) (by kernel_rfl) FB.owner_frozenset];kernel_rfl
theorem entry_froz_isdisjoint_loop:entryFor table "frozenset.isdisjoint.loop"=some Builtin.«frozenset.isdisjoint.loop»:=entryFor_of_tree (by kernel_rfl)
theorem plain_froz_isdisjoint_loop:plainId "frozenset.isdisjoint.loop"=true:=by decide+kernel
theorem slot_froz_issuperset:Slot "frozenset" "issuperset" "frozenset.issuperset":=
 .of (owner:="frozenset") (n:="issuperset") (by rw [typeLookup_type,builtinLookup_eq_fast];kernel_rfl) (by decide+kernel) (by decide+kernel) (by decide+kernel)
  (by first | exact .inl (by decide+kernel) | exact .inr (by decide+kernel)) (by rw [isSubtype_type];kernel_rfl)
theorem type_froz_issuperset:typeOf (.builtin "frozenset.issuperset")=pure (.type "method_descriptor"):=by show builtinType _=_;rw [builtinType_eq_fast];kernel_rfl
theorem entry_froz_issuperset:entryFor table "frozenset.issuperset"=some Builtin.«frozenset.issuperset»:=entryFor_of_tree (by kernel_rfl)
theorem args_froz_issuperset (a b:Value):argsOk "frozenset.issuperset" ⟨[a,b],[]⟩:=by
 unfold argsOk;rw [signature?_of (id:="frozenset.issuperset") (n:="issuperset".toList.reverse) (o:="frozenset".toList.reverse) (by kernel_rfl) FB.owner_frozenset];kernel_rfl
theorem entry_froz_issuperset_loop:entryFor table "frozenset.issuperset.loop"=some Builtin.«frozenset.issuperset.loop»:=entryFor_of_tree (by kernel_rfl)
theorem plain_froz_issuperset_loop:plainId "frozenset.issuperset.loop"=true:=by decide+kernel
theorem sub_str_set:isSubtype (.type "str") (.type "set")=pure false:=by rw [isSubtype_type];kernel_rfl
theorem sub_str_froz:isSubtype (.type "str") (.type "frozenset")=pure false:=by rw [isSubtype_type];kernel_rfl
section
variable {prog:Program} {w:World} {A:Around} {E:Value→Shared→Prop} {s:Shared} {a:Addr} {S:Str→Bool} {n:Nat}
theorem setContains_ok {x:Str} {t:Tok} {Q:Bool→Shared→Prop} (hS:FrozAt (strKind prog w) s.heap a S n) (hb:n <4096) (h:Q (S x) { s with toks:=s.toks+1}):wpAny (model prog w) A (setContains a (.str x t)) Q E s:=by
 obtain ⟨es,ep,tb,ho,hel,hmem,hn,hf⟩:=hS
 unfold setContains
 refine wpAny_holding ?_
 have hk:(strKind prog w).is x (.str x t)=true:=strKind_is _ _ x t
 refine wpAny_bind ((strKind prog w).pyHash hk ?_)
 refine wpAny_bind (setFind_any (s:={ s with toks:=s.toks+1}) hk rfl ho rfl hel hmem (by rw [hn];exact hb) hf fun r hr=>?_)
 refine wpAny_pure ?_
 rw [hr];exact h
theorem disjoint_loop {I:Addr} {x:Str} {St:Nat→Heap→Prop} {R:Result→Shared→Prop} (W:Walks prog w A.in1 I [I] [I] x.cps.size (SignAt x) St) (haI:a≠I) (hb:n <4096):
 ∀(k i:Nat) (s:Shared),x.cps.size -i=k→i≤x.cps.size→St i s.heap→FrozAt (strKind prog w) s.heap a S n→
  (∀h' tk,(∀b o,b≠I→s.heap.get? b=some o→h'.get? b=some o)→R (.ok (.ret (.bool ((x.cps.toList.drop i).all fun c=>!S ⟨#[c]⟩)))) { s with heap:=h',toks:=tk})→
  codeAny (model prog w) A (.builtin "frozenset.isdisjoint.loop" ⟨[.ref a,.ref I],[]⟩) R s:=by
 intro k
 induction k with
 | zero=>
   intro i s hk hi hst hS hR
   have hin:i=x.cps.size:=by refine' qs4 ‹_› ‹_›
   subst hin
   refine codeAny_builtin entry_froz_isdisjoint_loop ?_
   rw [Around.under_plainId plain_froz_isdisjoint_loop _]
   show wpAny _ A.in1 (pyNext (.ref I) >>= _) _ _ s
   refine wpAny_bind (W.done s _ _ hst fun h' tk hm=>?_)
   refine wpAny_pure ?_
   have:=hR h' tk fun b o hb e=>hm b o (by simpa using hb) e
   rw [List.drop_eq_nil_of_le (by simp)] at this
   exact this
 | succ k ih=>
   intro i s hk hi hst hS hR
   have hlt:i <x.cps.size:=by refine' qs3 ‹_›
   refine codeAny_builtin entry_froz_isdisjoint_loop ?_
   rw [Around.under_plainId plain_froz_isdisjoint_loop _]
   show wpAny _ A.in1 (pyNext (.ref I) >>= _) _ _ s
   refine wpAny_bind (W.item i s _ _ hlt hst fun v h' tk hP hst' hm=>?_)
   obtain ⟨ch,u,hc,rfl⟩:=hP
   have hS':FrozAt (strKind prog w) h' a S n:=by
    obtain ⟨es,ep,tb,ho,r⟩:=hS
    exact ⟨es,ep,tb,hm a _ (by simpa using haI) ho,r⟩
   show wpAny _ A.in1 (holding [Value.str ⟨#[ch]⟩ u] (setContains a (.str ⟨#[ch]⟩ u)) >>= _) _ _ _
   refine wpAny_bind (wpAny_holding (setContains_ok (s:={ s with heap:=h',toks:=tk}) hS' hb ?_))
   have hd:x.cps.toList.drop i=ch::x.cps.toList.drop (i+1):=by
    rw [List.drop_eq_getElem_cons (by simpa using hlt)]
    congr 1
    have:x.cps[i]?=some x.cps[i]:=by simp [hlt]
    rw [this] at hc
    simpa using hc
   cases hs:S ⟨#[ch]⟩ with
   | true=>
     simp only [if_true]
     refine wpAny_pure ?_
     have:=hR h' (tk+1) fun b o hb e=>hm b o (by simpa using hb) e
     rw [hd] at this
     simpa [hs] using this
   | false=>
     simp only [Bool.false_eq_true,if_false]
     refine wpAny_pure ⟨plainId_quiet plain_froz_isdisjoint_loop _,ih (i+1) _ (by refine' qs2 ‹_›) hlt hst' hS' fun h₂ tk₂ hm₂=>?_⟩
     have:=hR h₂ tk₂ fun b o hb e=>hm₂ b o hb (hm b o (by simpa using hb) e)
     rw [hd] at this
     simpa [hs] using this
theorem superset_loop {I:Addr} {x:Str} {St:Nat→Heap→Prop} {R:Result→Shared→Prop} (W:Walks prog w A.in1 I [I] [I] x.cps.size (SignAt x) St) (haI:a≠I) (hb:n <4096):
 ∀(k i:Nat) (s:Shared),x.cps.size -i=k→i≤x.cps.size→St i s.heap→FrozAt (strKind prog w) s.heap a S n→
  (∀h' tk,(∀b o,b≠I→s.heap.get? b=some o→h'.get? b=some o)→R (.ok (.ret (.bool ((x.cps.toList.drop i).all fun c=>S ⟨#[c]⟩)))) { s with heap:=h',toks:=tk})→
  codeAny (model prog w) A (.builtin "frozenset.issuperset.loop" ⟨[.ref a,.ref I],[]⟩) R s:=by
 intro k
 induction k with
 | zero=>
   intro i s hk hi hst hS hR
   have hin:i=x.cps.size:=by refine' qs4 ‹_› ‹_›
   subst hin
   refine codeAny_builtin entry_froz_issuperset_loop ?_
   rw [Around.under_plainId plain_froz_issuperset_loop _]
   show wpAny _ A.in1 (pyNext (.ref I) >>= _) _ _ s
   refine wpAny_bind (W.done s _ _ hst fun h' tk hm=>?_)
   refine wpAny_pure ?_
   have:=hR h' tk fun b o hb e=>hm b o (by simpa using hb) e
   rw [List.drop_eq_nil_of_le (by simp)] at this
   exact this
 | succ k ih=>
   intro i s hk hi hst hS hR
   have hlt:i <x.cps.size:=by refine' qs3 ‹_›
   refine codeAny_builtin entry_froz_issuperset_loop ?_
   rw [Around.under_plainId plain_froz_issuperset_loop _]
   show wpAny _ A.in1 (pyNext (.ref I) >>= _) _ _ s
   refine wpAny_bind (W.item i s _ _ hlt hst fun v h' tk hP hst' hm=>?_)
   obtain ⟨ch,u,hc,rfl⟩:=hP
   have hS':FrozAt (strKind prog w) h' a S n:=by
    obtain ⟨es,ep,tb,ho,r⟩:=hS
    exact ⟨es,ep,tb,hm a _ (by simpa using haI) ho,r⟩
   show wpAny _ A.in1 (holding [Value.str ⟨#[ch]⟩ u] (setContains a (.str ⟨#[ch]⟩ u)) >>= _) _ _ _
   refine wpAny_bind (wpAny_holding (setContains_ok (s:={ s with heap:=h',toks:=tk}) hS' hb ?_))
   have hd:x.cps.toList.drop i=ch::x.cps.toList.drop (i+1):=by
    rw [List.drop_eq_getElem_cons (by simpa using hlt)]
    congr 1
    have:x.cps[i]?=some x.cps[i]:=by simp [hlt]
    rw [this] at hc
    simpa using hc
   cases hs:S ⟨#[ch]⟩ with
   | false=>
     simp only [Bool.false_eq_true,if_false]
     refine wpAny_pure ?_
     have:=hR h' (tk+1) fun b o hb e=>hm b o (by simpa using hb) e
     rw [hd] at this
     simpa [hs] using this
   | true=>
     simp only [if_true]
     refine wpAny_pure ⟨plainId_quiet plain_froz_issuperset_loop _,ih (i+1) _ (by refine' qs2 ‹_›) hlt hst' hS' fun h₂ tk₂ hm₂=>?_⟩
     have:=hR h₂ tk₂ fun b o hb e=>hm₂ b o hb (hm b o (by simpa using hb) e)
     rw [hd] at this
     simpa [hs] using this
end
section
variable {K:Kx} {c:Cx} {st:St} {Q:V→St→Prop} {X:Xc→St→Prop} {a:Addr} {S:Str→Bool} {n:Nat} {x:Str}
theorem froz_stays {s:Shared} (r:Rel K c st s) (hS:FrozAt (strKind K.prog K.w) K.B a S n):FrozAt (strKind K.prog K.w) s.heap a S n:=let ⟨es,ep,tb,ho,r'⟩:=hS;⟨es,ep,tb,r.g.base _ _ ho,r'⟩
theorem Recv.froz (hS:FrozAt (strKind K.prog K.w) K.B a S n):Recv K c (.ref a) "frozenset" st:=fun s v r i=>by
 obtain rfl:=i.inv
 obtain ⟨es,ep,tb,ho,r'⟩:=froz_stays r hS
 exact ⟨⟨_,ho,rfl⟩,fun b e=>by cases e;exact ⟨_,ho,rfl⟩⟩
theorem CF_isdisjoint (hS:FrozAt (strKind K.prog K.w) K.B a S n) (hb:n <4096) (hh:c.A.handled=none) (q:Q (.bool ((L x).all fun ch=>!S ⟨#[ch]⟩)) st):CF K c (.blt "frozenset.isdisjoint") [.ref a,.str x] [] [] st Q X:=.b fun s vs r il=>by
 obtain ⟨v,u,rfl,i1,i2⟩:=isl2 il
 obtain rfl:=i1.inv
 obtain ⟨t,rfl,hx⟩:=i2.inv
 have hS':=froz_stays r hS
 have hT:s.TypeIs (.ref a) "frozenset":=by obtain ⟨es,ep,tb,ho,_⟩:=hS';exact ⟨_,ho,rfl⟩
 refine wpAny_call (codeAny_call_builtin slot_froz_isdisjoint.plain entry_froz_isdisjoint (slot_froz_isdisjoint.check _ _ _ _ _ _ _ _ hT (args_froz_isdisjoint _ _) ?_))
 unfold Builtin.«frozenset.isdisjoint» Frozenset.oneOther Frozenset.addrOf
 refine wpAny_bind (wpAny_bind (wpAny_pure (wpAny_pure ?_)))
 dsimp only
 rw [if_neg (show ¬(Value.str x t==Value.ref a)=true from Bool.false_ne_true)]
 refine wpAny_bind (wpAny_of_eq (a:=Value.type "str") rfl ?_)
 rw [if_neg (by decide)]
 refine wpAny_bind (wpAny_pyIter_str fun o St W st₀=>?_)
 have hlt:a <s.heap.objs.size:=by obtain ⟨es,ep,tb,ho,_⟩:=hS';exact Heap.lt_size ho
 refine wpAny_pure ⟨plainId_quiet plain_froz_isdisjoint_loop _,disjoint_loop (S:=S) (W _ hh) (Nat.ne_of_lt hlt) hb _ 0 { s with heap:=s.heap.push o} rfl (Nat.zero_le _) st₀ ?_ fun h' tk hm=>?_⟩
 ·obtain ⟨es,ep,tb,ho,r'⟩:=hS'
  exact ⟨es,ep,tb,Heap.get?_push_of_some _ ho,r'⟩
 ·exact qv_heap r (fun b o' e=>hm b o' (Nat.ne_of_lt (Heap.lt_size e)) (Heap.get?_push_of_some _ e)) (.bool _) q
theorem CF_issuperset (hS:FrozAt (strKind K.prog K.w) K.B a S n) (hb:n <4096) (hh:c.A.handled=none) (q:Q (.bool ((L x).all fun ch=>S ⟨#[ch]⟩)) st):CF K c (.blt "frozenset.issuperset") [.ref a,.str x] [] [] st Q X:=.b fun s vs r il=>by
 obtain ⟨v,u,rfl,i1,i2⟩:=isl2 il
 obtain rfl:=i1.inv
 obtain ⟨t,rfl,hx⟩:=i2.inv
 have hS':=froz_stays r hS
 have hT:s.TypeIs (.ref a) "frozenset":=by obtain ⟨es,ep,tb,ho,_⟩:=hS';exact ⟨_,ho,rfl⟩
 refine wpAny_call (codeAny_call_builtin slot_froz_issuperset.plain entry_froz_issuperset (slot_froz_issuperset.check _ _ _ _ _ _ _ _ hT (args_froz_issuperset _ _) ?_))
 unfold Builtin.«frozenset.issuperset» Frozenset.oneOther Frozenset.addrOf
 refine wpAny_bind (wpAny_bind (wpAny_pure (wpAny_pure ?_)))
 dsimp only
 refine wpAny_bind ?_
 unfold Frozenset.isAnySet
 refine wpAny_bind (wpAny_isInstance (T:="str") (b:=false) rfl sub_str_set ?_)
 refine wpAny_isInstance (T:="str") (b:=false) rfl sub_str_froz ?_
 rw [if_neg (by decide)]
 refine wpAny_bind (wpAny_pyIter_str fun o St W st₀=>?_)
 have hlt:a <s.heap.objs.size:=by obtain ⟨es,ep,tb,ho,_⟩:=hS';exact Heap.lt_size ho
 refine wpAny_pure ⟨plainId_quiet plain_froz_issuperset_loop _,superset_loop (S:=S) (W _ hh) (Nat.ne_of_lt hlt) hb _ 0 { s with heap:=s.heap.push o} rfl (Nat.zero_le _) st₀ ?_ fun h' tk hm=>?_⟩
 ·obtain ⟨es,ep,tb,ho,r'⟩:=hS'
  exact ⟨es,ep,tb,Heap.get?_push_of_some _ ho,r'⟩
 ·exact qv_heap r (fun b o' e=>hm b o' (Nat.ne_of_lt (Heap.lt_size e)) (Heap.get?_push_of_some _ e)) (.bool _) q
end
end
section
section
variable {K:Kx} {c:Cx} {st:St} {Q:V→St→Prop} {X:Xc→St→Prop}
inductive KOr (K:Kx) (c:Cx) (w:Bool) (y:Expr) (Q:V→St→Prop) (X:Xc→St→Prop) (a:V) (st:St):Prop
 | mk (b:Bool) (h:Truthy a=some b) (q:match b==w with | true=>Q a st | false=>EV K c y st Q X)
theorem or_go {w:Bool} {x y:Expr} {s:Shared} (h:EV K c x st (KOr K c w y Q X) X) (r:Rel K c st s):wpAny K.M c.A (eval x c.env) (fun v s₁=>wpAny K.M c.A (truthy v) (fun b s₂=>if b=w then QV K c st s Q v s₂ else wpAny K.M c.A (eval y c.env) (QV K c st s Q) (QX K c st s X) s₂) (QX K c st s X) s₁) (QX K c st s X) s:=
 h.go (.refl r) fun v s₁ a st₁ n _ i ⟨b,hb,q⟩=>truthy_ok i hb fun k=>by
  cases e:b==w with
  | true=>rw [e] at q;rw [if_pos (eq_of_beq e)];exact ⟨a,st₁,n.toks k,i,q⟩
  | false=>rw [e] at q;rw [if_neg (ne_of_beq_false e)];exact TV.fin q (n.toks k)
theorem EV_or2 {x y:Expr} {pos:Pos} (h:EV K c x st (KOr K c true y Q X) X):EV K c (.BoolOp .Or [x,y] pos) st Q X:=fun s r=>wpAny_Or2 (or_go h r)
theorem EV_and2 {x y:Expr} {pos:Pos} (h:EV K c x st (KOr K c false y Q X) X):EV K c (.BoolOp .And [x,y] pos) st Q X:=fun s r=>
 wpAny_And2 (wpAny_mono (or_go h r) (fun v s₁ z=>wpAny_mono z (fun b s₂ z=>by cases b<;>exact z) fun _ _ z=>z) fun _ _ z=>z)
inductive KCh (K:Kx) (c:Cx) (f:Value→Value→Sem Value) (b:V) (y:Expr) (Q:V→St→Prop) (X:Xc→St→Prop) (z:V) (st:St):Prop
 | mk (t:Bool) (h:Truthy z=some t) (q:match t with | true=>EV K c y st (k1 K c f b Q X) X | false=>Q z st)
abbrev kc1 (K:Kx) (c:Cx) (o₁ o₂:CmpOp) (y:Expr) (a:V) (Q:V→St→Prop) (X:Xc→St→Prop):V→St→Prop:=fun b st=>Op2 K c (compareOp o₁) a b st (KCh K c (compareOp o₂) b y Q X) X
abbrev kc2 (K:Kx) (c:Cx) (o₁ o₂:CmpOp) (x y:Expr) (Q:V→St→Prop) (X:Xc→St→Prop):V→St→Prop:=fun a st=>EV K c x st (kc1 K c o₁ o₂ y a Q X) X
theorem EV_cmp2 {l r₁ r₂:Expr} {o₁ o₂:CmpOp} {pos:Pos} (h:EV K c l st (kc2 K c o₁ o₂ r₁ r₂ Q X) X)
 (hm:lastMarks [o₁,o₂] [r₁,r₂]=false:=by with_unfolding_all rfl):EV K c (.Compare l [o₁,o₂] [r₁,r₂] pos) st Q X:=fun s r=>
 Compare_chain (h.go (.refl r) fun v s₁ a st₁ n _ i q=>chain_link (TV.go q n fun u s₂ b st₂ n k₂ j q=>Op2.go q n (i.keep k₂) j fun z s₃ zv st₃ n k₃ iz ⟨t,ht,q⟩=>truthy_ok iz ht fun k=>by
  cases t with
  | false=>exact ⟨zv,st₃,n.toks k,iz,q⟩
  | true=>exact chain_last (TV.go q (n.toks k) fun d s₄ dv st₄ n k₄ i₄ q=>Op2.fin q n ((j.keep k₃).keep k₄) i₄))) hm
theorem CF_chr {i:Nat} (hi:i≤1114111) (h:Q (.str ⟨#[i]⟩) st):CF K c (.blt "chr") [.int i] [] [] st Q X:=.b fun s vs r il=>by
 obtain ⟨v,rfl,i1⟩:=isl1 il
 obtain ⟨t,rfl⟩:=i1.inv
 exact PySem.P.chr_of_int (by simp;lia) (QV.now r (.str _ _ (by show 1≤sizeLine;decide)) h rfl)
theorem CF_ord {n:Nat} (h:Q (.int n) st):CF K c (.blt "ord") [.str ⟨#[n]⟩] [] [] st Q X:=.b fun s vs r il=>by
 obtain ⟨v,rfl,i1⟩:=isl1 il
 obtain ⟨t,rfl,_⟩:=i1.inv
 exact PySem.P.ord_of_char (QV.now r (.int _ _) h rfl)
end
noncomputable def hexDigit (c:Nat):Nat:=if c≤57 then c -48 else if c≤70 then c -55 else c -87
noncomputable def isHex (c:Nat):Bool:=(decide (48≤c)&&decide (c≤57))||(decide (97≤c)&&decide (c≤102))||(decide (65≤c)&&decide (c≤70))
noncomputable def hexVal (l:List Nat):Nat:=l.foldl (fun a c=>a*16+hexDigit c) 0
open PySem.NumText in
theorem digit_hex {c:Nat} (h:isHex c=true):NumText.digit? c=some (hexDigit c)∧hexDigit c <16∧48≤c∧c≠95∧c≠120∧c≠88:=by
 simp only [isHex,Bool.or_eq_true,Bool.and_eq_true,decide_eq_true_eq] at h
 unfold NumText.digit? hexDigit
 rcases h with (h | h) | h
 ·refine ⟨?_,?_,h.1,by lia,by lia,by lia⟩
  ·simp [h.1,h.2]
  ·rw [if_pos h.2];refine' r5 ‹_› (by nofun)
 ·refine ⟨?_,?_,by lia,by lia,by lia,by lia⟩
  ·have a1:¬(c≤57):=by lia
   have a2:c≤122:=by lia
   have a3:¬(c≤70):=by lia
   simp [a1,h.1,a2,a3]
  ·rw [if_neg (by lia),if_neg (by lia)];refine' r5 ‹_› (by nofun)
 ·refine ⟨?_,?_,by lia,by lia,by lia,by lia⟩
  ·have a1:¬(c≤57):=by lia
   have a2:¬(97≤c):=by lia
   have a3:c≤90:=by lia
   simp [a1,a2,h.1,a3,h.2]
  ·rw [if_neg (by lia),if_pos h.2];refine' r5 ‹_› (by nofun)
theorem step_hex {ds:Array Nat} {b:Bool} {c:Nat} (h:isHex c=true):NumText.step 16 (ds,b) c=some (ds.push (hexDigit c),true):=by
 obtain ⟨h1,h2,h3,h4,_⟩:=digit_hex h
 unfold NumText.step
 simp only [beq_iff_eq,h4,if_false,h1,h2,if_true]
theorem foldl_hex:∀(cs:List Nat) (ds:Array Nat),(∀c∈cs,isHex c=true)→cs.foldlM (NumText.step 16) (ds,true)=some (cs.foldl (fun acc c=>acc.push (hexDigit c)) ds,true)
 | [],ds,_=>rfl
 | c::cs,ds,h=>by
   rw [List.foldlM_cons,step_hex (h c (List.mem_cons_self ..))]
   exact foldl_hex cs _ fun d hd=>h d (List.mem_cons_of_mem _ hd)
theorem digits_hex {cs:List Nat} (h:∀c∈cs,isHex c=true) (hne:cs≠[]):NumText.digits? 16 cs=some (cs.foldl (fun acc c=>acc.push (hexDigit c)) #[]):=by
 cases cs with
 | nil=>exact absurd rfl hne
 | cons c cs=>
   unfold NumText.digits?
   rw [List.foldlM_cons,step_hex (h c (List.mem_cons_self ..))]
   show (do let (ds,afterDigit) ←cs.foldlM (NumText.step 16) (#[].push (hexDigit c),true);if afterDigit then some ds else none)=_
   rw [foldl_hex cs _ fun d hd=>h d (List.mem_cons_of_mem _ hd)]
   rfl
theorem pushes_val:∀(cs:List Nat) (ds:Array Nat),(cs.foldl (fun acc c=>acc.push (hexDigit c)) ds).foldl (fun acc d=>acc*16+d) 0=cs.foldl (fun acc c=>acc*16+hexDigit c) (ds.foldl (fun acc d=>acc*16+d) 0)
 | [],ds=>rfl
 | c::cs,ds=>by
   rw [List.foldl_cons,pushes_val cs,Array.foldl_push];rfl
theorem hex_nodrop {cs:List Nat} (h:∀c∈cs,isHex c=true):cs.dropWhile NumText.blank=cs:=by
 cases cs with
 | nil=>rfl
 | cons c cs=>
   have:=(digit_hex (h c (List.mem_cons_self ..))).2.2.1
   rw [List.dropWhile_cons,NumText.blank_of (by lia)];rfl
theorem sign_hex {cs:List Nat} (h:∀c∈cs,isHex c=true):NumText.sign cs=(false,cs):=by
 cases cs with
 | nil=>rfl
 | cons c cs=>
   have h1:=(digit_hex (h c (List.mem_cons_self ..))).2.2.1
   unfold NumText.sign
   split
   ·rename_i e;cases e;lia
   ·rename_i e;cases e;lia
   ·rfl
theorem based_hex {cs:List Nat} (h:∀c∈cs,isHex c=true):NumText.based 16 cs=(16,false,cs):=by
 unfold NumText.based
 cases hp:NumText.prefix? cs with
 | none=>rfl
 | some p=>
   have:p≠16:=by
    intro e
    subst e
    unfold NumText.prefix? at hp
    split at hp
    ·rename_i c r
     have h2:=(digit_hex (h c (by simp))).2.2.2.2
     split at hp
     ·rename_i q;simp only [Bool.or_eq_true,beq_iff_eq] at q;lia
     ·split at hp
      ·cases hp
      ·split at hp<;>cases hp
    ·cases hp
   simp [Ne.symm this]
theorem read_hex {cs:List Nat} (h:∀c∈cs,isHex c=true) (hne:cs≠[]):(int_private%"readNumeral") 0 16 cs=(int_private%"Numeral.value") (hexVal cs:Int):=by
 rw [NumText.readNumeral_eq]
 simp only [hex_nodrop h,sign_hex h,based_hex h]
 have hr:(cs.reverse.dropWhile NumText.blank).reverse=cs:=by rw [hex_nodrop (fun c hc=>h c (List.mem_reverse.mp hc)),List.reverse_reverse]
 rw [hr,digits_hex h hne]
 have e:=pushes_val cs #[]
 simp only [NumText.judge]
 rw [e]
 rfl
theorem wp_text16 {M:Model} {A:Around} {E:Value→Shared→Prop} {s:Shared} {Q:Value→Shared→Prop} {v:Value} {text:List Nat} {n:Int}
 (hs:(text.takeWhile (· != 0)).length≤640) (hr:(int_private%"readNumeral") 0 16 (text.takeWhile (· != 0))=(int_private%"Numeral.value") n)
 (ha:((text.takeWhile (· != 0)).length==text.length)=true) (h:Q (.int n s.toks) { s with toks:=s.toks+1}):
 wpAny M A ((int_private%"intFromText") v text 16) Q E s:=by
 obtain ⟨hp,g,d,tk,os⟩:=s
 repeat (any_goals (first
  | assumption
  | (with_reducible refine wpAny_ite_true (decide_eq_true hs) ?_)
  | (with_reducible refine wpAny_ite_true (decide_eq_true ha) ?_)
  | wp_step))
 all_goals (try rw [hr])
 all_goals (try dsimp only)
 repeat (any_goals (first
  | assumption
  | (with_reducible refine wpAny_ite_true (decide_eq_true hs) ?_)
  | (with_reducible refine wpAny_ite_true (decide_eq_true ha) ?_)
  | wp_step))
theorem typeCall_int_2 (a b:Value):checkTypeCall "int" ⟨[a,b],[]⟩=pure ():=by kernel_rfl
theorem newCall_int_2 (a b:Value):checkBuiltinCall "int.__new__" ⟨[.type "int",a,b],[]⟩=pure ():=by kernel_rfl
theorem args_object_init_3 (obj a b:Value):argsOk "object.__init__" ⟨[obj,a,b],[]⟩:=by unfold argsOk;kernel_rfl
structure Hid2 (p:Prop):Prop where
 out:p
set_option maxHeartbeats 4000000 in
theorem gives_int16 {x:Str} {u v:Tok} (hl:x.length≤640) (hx:∀c∈L x,isHex c=true) (hne:L x≠[]):Gives (Builtin.«int.__new__» ⟨[.type "int",.str x u,.int 16 v],[]⟩) (.int (hexVal (L x))):=
 .of_wp fun M A E s Q h=>by
  obtain ⟨hp,g,d,tk,os⟩:=s
  have f1:=PySem.F.conv_sub_int
  have f2:=PySem.F.madeHere_int
  have f6:typeOf (.str x u)=pure (.type "str"):=rfl
  have hall:(x.cps.all fun c=>decide (c <128))=true:=by
   rw [←Array.all_toList,List.all_eq_true]
   intro c hc
   have:=(hx c hc)
   simp only [isHex,Bool.or_eq_true,Bool.and_eq_true,decide_eq_true_eq] at this
   simp;lia
  have hnum:(if x.cps.all (· <128) then x.cps.toList else Unicode.numberText x.cps.toList)=L x:=by rw [if_pos hall]
  have htw:(L x).takeWhile (· != 0)=L x:=by
   have key:∀l:List Nat,(∀c∈l,isHex c=true)→l.takeWhile (· != 0)=l:=by
    intro l hl'
    induction l with
    | nil=>rfl
    | cons a l ih=>
      have h1:=(digit_hex (hl' a (List.mem_cons_self ..))).2.2.1
      rw [List.takeWhile_cons,if_pos (by simp;lia),ih fun c hc=>hl' c (List.mem_cons_of_mem _ hc)]
   exact key _ hx
  have hs:((if x.cps.all (· <128) then x.cps.toList else Unicode.numberText x.cps.toList).takeWhile (· != 0)).length≤640:=by rw [hnum,htw,L_length];exact hl
  have hr:(int_private%"readNumeral") 0 16 ((if x.cps.all (· <128) then x.cps.toList else Unicode.numberText x.cps.toList).takeWhile (· != 0))=(int_private%"Numeral.value") (hexVal (L x):Int):=by rw [hnum,htw];exact read_hex hx hne
  have ha:(((if x.cps.all (· <128) then x.cps.toList else Unicode.numberText x.cps.toList).takeWhile (· != 0)).length==(if x.cps.all (· <128) then x.cps.toList else Unicode.numberText x.cps.toList).length)=true:=by rw [hnum,htw];simp
  have hk:=Hid2.mk (And.intro hs (And.intro hr ha))
  clear hs hr ha hl hx hne hall hnum htw
  repeat (any_goals (first
   | assumption
   | ((with_reducible show wpAny _ _ ((int_private%"intFromText") _ _ _) _ _ _);refine wp_text16 hk.out.1 hk.out.2.1 hk.out.2.2 ?_)
   | wp_step))
  all_goals first | exact ⟨_,rfl,h⟩ | skip
section
variable {K:Kx} {c:Cx} {st:St} {Q:V→St→Prop} {X:Xc→St→Prop}
theorem CF_int16 {x:Str} (hl:x.length≤640) (hx:∀c∈L x,isHex c=true) (hne:L x≠[]) (q:Q (.int (hexVal (L x))) st):CF K c (.typ "int") [.str x,.int 16] [] [] st Q X:=.t fun s vs r il=>by
 obtain ⟨v,u,rfl,i1,i2⟩:=isl2 il
 obtain ⟨t,rfl,_⟩:=i1.inv
 obtain ⟨u,rfl⟩:=i2.inv
 exact callType_new PySem.F.called_int PySem.F.newNe_int (typeCall_int_2 _ _) (newCall_int_2 _ _) (fun obj=>args_object_init_3 obj _ _) PySem.F.entry_int_new (gives_int16 hl hx hne).meets
  (show (Made.int _).post _ s from ⟨rfl,QV.now r (.int _ _) q rfl⟩)
end
end
section
theorem slot_proxy_getitem:Slot "mappingproxy" "__getitem__" "mappingproxy.__getitem__":=
 .of (owner:="mappingproxy") (n:="__getitem__") (by rw [typeLookup_type,builtinLookup_eq_fast];kernel_rfl) (by decide+kernel) (by decide+kernel) (by decide+kernel)
  (by first | exact .inl (by decide+kernel) | exact .inr (by decide+kernel)) (by rw [isSubtype_type];kernel_rfl)
theorem entry_proxy_getitem:entryFor table "mappingproxy.__getitem__"=some Builtin.«mappingproxy.__getitem__»:=entryFor_of_tree (by kernel_rfl)
theorem args_proxy_getitem (a b:Value):argsOk "mappingproxy.__getitem__" ⟨[a,b],[]⟩:=by unfold argsOk;kernel_rfl
section
variable {K:Kx} {c:Cx} {st:St} {Q:V→St→Prop} {X:Xc→St→Prop}
inductive KAt (K:Kx) (Q:V→St→Prop) (st:St) (val:Value):Prop
 | mk (v:V) (i:Is K.B v val) (q:Q v st)
abbrev kGet (K:Kx) (Q:V→St→Prop) (X:Xc→St→Prop) (st:St):Option Value→Prop
 | some val=>KAt K Q st val
 | none=>X { cls:=.type "KeyError"} st
theorem Op_item_proxy {value slice:Expr} {m d:Addr} {f:Str→Option Value} {x:Str} (hm:K.B.get? m=some { cls:=.type "mappingproxy",data:=.fields #[.ref d]}) (hd:K.B.MapOf (strKind K.prog K.w) d f) (hlo:(d==sysModules)=false) (hh:c.A.handled=none)
 (h:kGet K Q X st (f x))
 (hs:∀t,subscripted slice false (.ref m) (.str x t)=operate [.ref m,.str x t] (getItem (.ref m) (.str x t)):=by intro _;with_unfolding_all rfl)
 (ht:∀r,letTemporaryGo value (.ref m) r=pure ():=by intro _;with_unfolding_all rfl):
 Op2 K c (subF value slice) (.ref m) (.str x) st Q X:=fun s v u r iv iu=>by
 obtain rfl:=iv.inv
 obtain ⟨t,rfl,hx⟩:=iu.inv
 have hm':=r.g.base _ _ hm
 have hd':s.heap.MapOf (strKind K.prog K.w) d f:=by
  obtain ⟨o,es,ep,ho,r'⟩:=hd
  exact ⟨o,es,ep,r.g.base _ _ ho,r'⟩
 have hT:s.TypeIs (.ref m) "mappingproxy":=⟨_,hm',rfl⟩
 refine tail_of_ItemOn (value:=value) (slice:=slice) (ops:=[.ref m,.str x t]) ⟨"mappingproxy","mappingproxy.__getitem__",slot_proxy_getitem.lookup,hT,?_⟩ (hs t) ht
 refine wpAny_getItem_slot hT (by decide) slot_proxy_getitem ?_
 refine wpAny_call (codeAny_call_builtin slot_proxy_getitem.plain entry_proxy_getitem (slot_proxy_getitem.check _ _ _ _ _ _ _ _ hT (args_proxy_getitem _ _) ?_))
 show wpAny _ _ (field (.ref m) 0 >>= fun y=>getItem y (.str x t) >>= fun z=>ret z) _ _ s
 refine wpAny_bind (wpAny_field hm' (vs:=#[.ref d]) rfl rfl ?_)
 cases hf:f x with
 | some val=>
   rw [hf] at h
   obtain ⟨vv,hi,hq⟩:=h
   refine wpAny_bind (wpAny_getItem_of (strKind_is _ _ x t) hd' hf ?_)
   exact wpAny_pure (QV.now r (hi.keep (keeps_of_stays r.g.base)) hq rfl)
 | none=>
   rw [hf] at h
   refine wpAny_bind (wpAny_getItem_missing_of (strKind_is _ _ x t) hlo hh hd' hf fun h' e hx'=>?_)
   exact qx_new r hx' (q:=h)
end
end
section
theorem noI_tuple_add:typeLookup (.type "tuple") (dunderI "add")=pure none:=by rw [typeLookup_type,builtinLookup_eq_fast];kernel_rfl
section
variable {K:Kx} {c:Cx} {st:St} {Q:V→St→Prop} {X:Xc→St→Prop}
theorem Op_iadd_tup {l m:List V} (hl:l≠[]) (hm:m≠[]) (hsz:l.length+m.length≤sizeLine) (h:Q (.tup (l++m)) st):Op2 K c (inplaceOp .Add) (.tup l) (.tup m) st Q X:=fun s v u r i j=>by
 obtain ⟨a,vs,rfl,ht,il⟩:=i.inv
 obtain ⟨b,ws,rfl,hb,ib⟩:=j.inv
 obtain ⟨⟨cls,dd,data,sl⟩,ho,hc,n,hd⟩:=id ht
 obtain ⟨⟨cls2,dd2,data2,sl2⟩,ho2,hc2,n2,hd2⟩:=id hb
 simp only at hc hd hc2 hd2
 subst hc hd hc2 hd2
 refine wpAny_inplaceOp_concat (T:="tuple") ⟨_,ho,rfl⟩ ⟨_,ho2,rfl⟩ noI_tuple_add noFill_tuple_add seq_tuple_add
  (call_meets PySem.F.slot_tuple_add ⟨_,ho,rfl⟩ PySem.F.entry_tuple_add (PySem.F.args_tuple_add_2 _ _)
    (tuple_addW2 a b vs.toArray ws.toArray n n2 dd dd2 sl sl2 (fun e=>hl ?_) (fun e=>hm ?_) (by rw [List.size_toArray,List.size_toArray,←il.length,←ib.length];exact hsz)) ⟨ho,ho2,?_⟩)
 ·exact List.eq_nil_of_length_eq_zero (il.length.trans (by simpa using e))
 ·exact List.eq_nil_of_length_eq_zero (ib.length.trans (by simpa using e))
 ·rw [List.append_toArray]
  exact QV.tup (.refl r) (il.append ib) h
theorem CF_len_tup {l:List V} (hsz:l.length <2 ^ 62) (h:Q (.int l.length) st):CF K c (.blt "len") [.tup l] [] [] st Q X:=.b fun s vs r il=>by
 obtain ⟨v,rfl,i1⟩:=isl1 il
 obtain ⟨a,ws,rfl,ht,i2⟩:=i1.inv
 have e:ws.toArray.size=l.length:=i2.length.symm
 exact PyProof.Rows.len_tuple ht (by rw [e];refine' q62' ‹_›) (QV.now r (.int _ _) (by rw [e];exact h) rfl)
abbrev kIfE (K:Kx) (c:Cx) (b o:Expr) (Q:V→St→Prop) (X:Xc→St→Prop):Bool→St→Prop:=fun z st=>match z with
 | true=>EV K c b st Q X
 | false=>EV K c o st Q X
theorem EV_ifexp {t b o:Expr} {pos:Pos} (h:ET K c t st (kIfE K c b o Q X) X):EV K c (.IfExp t b o pos) st Q X:=fun s r=>
 PyProof.Rows.IfExp_ (h.go (.refl r) fun z s₁ st₁ n _ q=>by cases z<;>exact TV.fin q n)
theorem Op_in_str1 {x:Str} {n:Nat} (h:Q (.bool (decide (n∈x.cps.toList))) st):Op2 K c (compareOp .In) (.str ⟨#[n]⟩) (.str x) st Q X:=.ss fun s t u r _=>
 PySem.P.in_str (QV.now r (.bool _) (by rw [PySem.StrLaws.found_one];exact h) rfl)
noncomputable def setSto (sto:List (Addr×List V)) (a:Addr) (l:List V):List (Addr×List V):=sto.map fun x=>if x.1=a then (a,l) else x
theorem setSto_adr (sto:List (Addr×List V)) (a:Addr) (l:List V):(setSto sto a l).map (·.1)=sto.map (·.1):=by
 unfold setSto
 rw [List.map_map]
 refine List.map_congr_left fun x _=>?_
 simp only [Function.comp]
 split
 ·rename_i h;exact h.symm
 ·rfl
theorem setSto_adr' {a:Addr} {l:List V}:adr (⟨st.loc,setSto st.sto a l⟩:St)=adr st:=setSto_adr ..
theorem Rel.setOwn {s:Shared} (r:Rel K c st s) {a:Addr} {l l':List V} {vs:List Value} {n' k:Nat} {h':Heap} (hm:(a,l)∈st.sto) (hs:Heap.SameBut a s.heap h') (hp:h'.get? a=some (stoO l' vs n')) (hl:Keeps s.heap h'→IsL h' (stoL l') vs):
 Nx K c st s ⟨st.loc,setSto st.sto a l'⟩ { s with heap:=h',toks:=k}:=by
 obtain ⟨haB,ga,_⟩:=r.g.lists _ hm
 have is:∀{o},s.heap.get? a=some o→stoO l _ _=o:=fun e=>Option.some.inj (ga.symm.trans e)
 have km:∀b o,b≠a→s.heap.get? b=some o→h'.get? b=some o:=fun b o hb e=>(hs.2 b hb).trans e
 have nf:∀o,s.heap.get? a=some o→¬Firm o:=fun o e=>is e▸stoO_nm _ _ _
 have ha:a∈adr st:=List.mem_map_of_mem (f:=(·.1)) hm
 refine ⟨(r.but (st':=⟨st.loc,setSto st.sto a l'⟩) km haB nf (fun env he=>(r.g.ff env he).but km fun q=>?_) (r.heldNot fun o vs e q=>stoO_nf (is e▸q)) (fun kp y hy=>?_) (by rw [setSto_adr'];exact r.g.nod) (fun kp t ht q=>?_) fun kp=>r.loc.but km (fun q=>?_) kp).toks k,
  ⟨(Ev.sameBut hs (fun _ _=>⟨_,hp⟩) (.inl (in2 ha))),fun b hb=>.inl (by rw [←setSto_adr'];exact hb)⟩⟩
 ·obtain ⟨_,_,f1,_,g1,d1⟩:=r.g.ff env he
  cases f1.symm.trans q
  exact stoO_nd (is g1▸d1)
 ·obtain ⟨x,hx,rfl⟩:=List.mem_map.mp hy
  by_cases q:x.1=a
  ·rw [if_pos q];exact ⟨haB,hp,hl kp⟩
  ·rw [if_neg q];exact (r.g.lists x hx).km km q kp
 ·obtain ⟨_,_,g,_⟩:=r.g.tabs t ht
  exact (stoO_nf (congrArg Obj.data (is (q▸g)))).elim
 ·obtain ⟨o,es,ep,e,d⟩:=r.dictL
  exact stoO_nd (is (q▸e)▸d)
theorem own_list {s:Shared} (r:Rel K c st s) {a:Addr} {l:List V} (h:(a,l)∈st.sto) (hl:isC l=false):∃(vs:List Value) (n:Nat),s.heap.get? a=some { cls:=.type "list",data:=.seq vs.toArray n}∧IsL s.heap l vs:=by
 obtain ⟨_,g,i⟩:=r.g.lists _ h
 exact ⟨_,_,stoO_of hl▸g,stoL_of hl▸i⟩
theorem Recv.list {a:Addr} {l:List V} (h:(a,l)∈st.sto) (hl:isC l=false):Recv K c (.ref a) "list" st:=fun s v r i=>by
 obtain rfl:=i.inv
 obtain ⟨_,_,g,_⟩:=own_list r h hl
 exact ⟨⟨_,g,rfl⟩,fun b e=>by cases e;exact ⟨_,g,rfl⟩⟩
theorem CF_append {a:Addr} {l:List V} {v:V} (hm:(a,l)∈st.sto) (hcl:isC l=false) (hsz:l.length≤100000) (q:Q .none ⟨st.loc,setSto st.sto a (l++[v])⟩):CF K c (.blt "list.append") [.ref a,v] [] [] st Q X:=.b fun s vs r il=>by
 obtain ⟨x,u,rfl,i1,i2⟩:=isl2 il
 obtain rfl:=i1.inv
 obtain ⟨us,n,ga,iu⟩:=own_list r hm hcl
 refine wpAny_list_append_plain ⟨n,ga⟩ (fun h' hp hs=>?_) (by rw [List.size_toArray,←iu.length,sizeLine_eq];refine' qN ‹_› (by nofun))
 obtain ⟨n',hp⟩:=hp
 rw [List.push_toArray] at hp
 have c':isC (l++[v])=false:=isC_of (iu.append (.cons i2 .nil))
 exact ⟨.none,_,r.setOwn hm hs ((stoO_of c').symm▸hp) (fun kp=>(stoL_of c').symm▸(iu.keep kp).append (.cons (i2.keep kp) .nil)),.none,q⟩
end
end
end
section
open PySem PySem.W PySem.Calls PyProof.Rows
section
noncomputable abbrev cellO:Obj:={ cls:=.type "cell",data:=.cell none}
theorem cellsExact:∀(names:List (Str×NameKind)) (h:Heap) (acc:List (Str×Addr)),(∀n c,(n,c)∈acc→h.get? c=some cellO)→∀n c,(n,c)∈cellsFrom h.objs.size names acc→(pushCells h names).get? c=some cellO
 | [],_,_,x,n,c,hm=>x n c hm
 | (name,kind)::r,h,acc,x,n,c,hm=>by
   unfold pushCells cellsFrom at *
   by_cases hk:(kind==NameKind.cell)=true
   ·rw [if_pos hk] at hm ⊢
    have:=cellsExact r (h.push cellO) ((name,h.objs.size)::acc) (fun n c hm=>by
     rcases List.mem_cons.mp hm with e | hm
     ·cases e;exact Heap.get?_push_size _ rfl
     ·exact Heap.get?_push_of_some _ (x n c hm)) n c
    rw [Heap.size_push] at this
    exact this hm
   ·rw [if_neg hk] at hm ⊢
    exact cellsExact r h acc x n c hm
section
variable {M:Model} {A:Around} {E:Value→Shared→Prop} {s:Shared}
theorem newEnvC {scope:Scope} {globals:Addr} {binds:List (Str×Value)} {qual:Str} {func:Option Addr} {code:Value} {builtins:Addr} {Q:Env→Shared→Prop}
 (hl:∀x∈binds,scope.names.lookup x.1=some .local)
 (hQ:∀h',h'.Ns s.heap.objs.size (fun x=>binds.reverse.lookup x)→Heap.SameBut s.heap.objs.size (pushCells (s.heap.push { cls:=.type "frame",data:=.dict #[]}) scope.names) h'→
   Q (newEnv scope s.heap.objs.size globals (cellsFrom (s.heap.objs.size+1) scope.names []) qual func code none builtins) { s with heap:=h',toks:=s.toks+binds.length})
 (hk:scope.kind=.function):wpAny M A (newFunctionEnv scope globals [] binds qual func code none builtins) Q E s:=by
 simp only [newFunctionEnv,Option.isSome_none,Bool.false_eq_true,if_false]
 refine wpAny_bind (wpAny_alloc ?_)
 refine wpAny_bind (wpAny_layCells _ (fun name kind cells=>by cases hkc:kind==NameKind.cell<;>simp [hkc]) _ _ _ _ ?_)
 rw [show ({ s with heap:=s.heap.push { cls:=.type "frame",data:=.dict #[]}}:Shared).heap.objs.size=s.heap.objs.size+1 from Heap.size_push ..]
 refine wpAny_bind ?_
 refine wpAny_forIn_list _
  (fun rest _ s'=>∃done h',binds=done++rest∧s'={ s with heap:=h',toks:=s.toks+done.length}∧h'.Ns s.heap.objs.size (fun x=>done.reverse.lookup x)∧
    Heap.SameBut s.heap.objs.size (pushCells (s.heap.push { cls:=.type "frame",data:=.dict #[]}) scope.names) h') _ ?_ ?_ binds _
  ⟨[],_,rfl,rfl,(Heap.Ns.new ..).keeps (pushCells_keeps _ _),Heap.SameBut.refl ..⟩
 ·rintro ⟨name,v⟩ rest _ s' ⟨done,h',hb,rfl,hns,hsb⟩
  have hk':(newEnv scope s.heap.objs.size globals (cellsFrom (s.heap.objs.size+1) scope.names []) qual func code none builtins).kindOf name=some .local:=hl (name,v) (by rw [hb];simp)
  have hp:((newEnv scope s.heap.objs.size globals (cellsFrom (s.heap.objs.size+1) scope.names []) qual func code none builtins).scope.kind==.class||((newEnv scope s.heap.objs.size globals (cellsFrom (s.heap.objs.size+1) scope.names []) qual func code none builtins).scope.kind==.module&&
   (newEnv scope s.heap.objs.size globals (cellsFrom (s.heap.objs.size+1) scope.names []) qual func code none builtins).locals != (newEnv scope s.heap.objs.size globals (cellsFrom (s.heap.objs.size+1) scope.names []) qual func code none builtins).globals))=false:=by
   show (scope.kind==.class||(scope.kind==.module&&_))=false
   rw [hk];rfl
  have e:=storeName_local (v:=v) hk' hp
  show wpAny M A (storeName (newEnv scope s.heap.objs.size globals (cellsFrom (s.heap.objs.size+1) scope.names []) qual func code none builtins) name v >>= _) _ _ _
  rw [e]
  refine wpAny_bind (wpAny_nsSet hns fun h'' hns' hsb'=>wpAny_pure ⟨done++[(name,v)],h'',by simp [hb],?_,?_,hsb.trans hsb'⟩)
  ·simp [Nat.add_assoc]
  ·rw [lookup_reverse_snoc];exact hns'
 ·rintro _ s' ⟨done,h',hb,rfl,hns,hsb⟩
  have hb':done=binds:=by simpa using hb.symm
  subst hb'
  exact wpAny_pure (hQ h' hns hsb)
end
section
variable {prog:Program} {w:World} {A:Around} {s:Shared}
theorem call_defC {R:Result→Shared→Prop} {a:Addr} {o:Obj} {fd:FuncData} {body:List Stmt} {args:Args} {binds:List (Str×Value)}
 (hroom:A.depth <recursionLimit) (ho:s.heap.get? a=some o) (hdata:o.data=.func fd) (hlim:s.heap.NoLimit) (hcd:s.heap.CodeRec fd.code fd.qualname)
 (hbody:fd.body=.stmts body) (hbind:BindsTo s fd args binds) (hclo:fd.closure=[]) (hloc:∀x∈binds,fd.scope.names.lookup x.1=some .local)
 (h:∀h₀,h₀.Ns s.heap.objs.size (fun x=>binds.reverse.lookup x)→(∀b o,s.heap.get? b=some o→h₀.get? b=some o)→(∀n c,(n,c)∈cellsFrom (s.heap.objs.size+1) fd.scope.names []→h₀.get? c=some cellO∧s.heap.objs.size <c)→
   wpAny (model prog w) (A.deeper (callEnvC fd s.heap.objs.size a)) (execs body (callEnvC fd s.heap.objs.size a)) (fun f s'=>R (.ok (.ret (match f with | .ret v=>v | _=>.none))) s')
    (fun e s'=>wpAny (model prog w) (A.deeper (callEnvC fd s.heap.objs.size a)) (PySem.leaving (callEnvC fd s.heap.objs.size a) e) (fun _ s''=>R (.error e) s'') (fun e' s''=>R (.error e') s'') s')
    { s with heap:=h₀,toks:=s.toks+binds.length})
 (hco:fd.scope.isCoroutine=false) (hgen:fd.scope.isGenerator=false) (hk:fd.scope.kind=.function):
 codeAny (model prog w) A (.call (.ref a) args) R s:=by
 refine codeAny_call_function hroom ho hdata hco hgen hbody hcd (hbind _ _ _ _ ?_)
 rw [hclo]
 refine newEnvC hloc (fun h₀ hns hsb=>?_) hk
 have keep:∀b o,s.heap.get? b=some o→h₀.get? b=some o:=fun b o e=>
  (hsb.2 b (Nat.ne_of_lt (Heap.lt_size e))).trans (pushCells_keeps _ _ b o (Heap.get?_push_of_some _ e))
 have ok:=cellsFrom_ok fd.scope.names (s.heap.push { cls:=.type "frame",data:=.dict #[]}) (s.heap.objs.size+1) [] ⟨fun _ _ hm=>(nomatch hm),List.Pairwise.nil⟩ (by rw [Heap.size_push];exact Nat.le_refl _)
 have ex:=cellsExact fd.scope.names (s.heap.push { cls:=.type "frame",data:=.dict #[]}) [] (fun _ _ hm=>(nomatch hm))
 rw [Heap.size_push] at ok ex
 refine ⟨hlim.keeps keep,codeAny_func (h h₀ hns keep fun n c hm=>?_)⟩
 have h1:s.heap.objs.size+1≤c:=(ok.empty n c hm).2
 exact ⟨(hsb.2 c (Nat.ne_of_gt h1)).trans (ex n c hm),h1⟩
end
structure Root (K:Kx) (s:Shared):Prop where
 base:K.B.StaysIn s.heap
 gens:s.gens=#[]
 os:s.os=K.os
 tabs:∀t∈K.tabs,TabIs K.B s.heap t
noncomputable abbrev cellSto (fd:FuncData) (L:Addr):List (Addr×List V):=(cellsFrom (L+1) fd.scope.names []).map fun x=>(x.2,[.mark])
theorem cells_nodup (names:List (Str×NameKind)) (n:Nat):((cellsFrom n names []).map (·.2)).Nodup:=by
 have key:∀(names:List (Str×NameKind)) (n:Nat) (acc:List (Str×Addr)),(acc.map (·.2)).Nodup→(∀x∈acc,x.2 <n)→((cellsFrom n names acc).map (·.2)).Nodup:=by
  intro names
  induction names with
  | nil=>intro n acc h _;exact h
  | cons x r ih=>
    intro n acc h hl
    obtain ⟨name,kind⟩:=x
    unfold cellsFrom
    split
    ·refine ih (n+1) _ ?_ fun x hx=>?_
     ·rw [List.map_cons]
      refine List.nodup_cons.mpr ⟨fun hm=>?_,h⟩
      obtain ⟨y,hy,e⟩:=List.mem_map.mp hm
      have:=hl y hy
      have e:y.2=n:=e
      rw [e] at this
      exact absurd this (Nat.lt_irrefl _)
     ·rcases List.mem_cons.mp hx with rfl | hx
      ·exact Nat.lt_succ_self _
      ·exact Nat.lt_succ_of_lt (hl x hx)
    ·exact ih n acc h hl
 exact key names n [] List.nodup_nil fun x hx=>(nomatch hx)
section
variable {K:Kx}
abbrev kRoot (Q:V→Prop):Fl→St→Prop:=fun f _=>match f with
 | .ret v=>Q v
 | .exc _=>False
 | _=>Q .none
abbrev NoX:Xc→St→Prop:=fun _ _=>False
inductive QR (K:Kx) (Q:V→Prop) (v:Value) (s':Shared):Prop
 | mk (f:V) (i:Is s'.heap f v) (q:Q f) (r:Root K s')
theorem cells_sto {fd:FuncData} {L:Addr} {B h₀:Heap} (hL:B.objs.size≤L) (hc:∀n c,(n,c)∈cellsFrom (L+1) fd.scope.names []→h₀.get? c=some cellO∧L <c):∀x∈cellSto fd L,StoAt B h₀ x∧L <x.1:=fun x hx=>by
 obtain ⟨y,hy,rfl⟩:=List.mem_map.mp hx
 obtain ⟨h1,h2⟩:=hc y.1 y.2 hy
 exact ⟨.mk (vs:=[]) (n:=0) (Heap.get?_none_of_le (Nat.le_of_lt (Nat.lt_of_le_of_lt hL h2))) h1 .nil,h2⟩
theorem cellSto_nodup (fd:FuncData) (L:Addr):((cellSto fd L).map (·.1)).Nodup:=by
 show (((cellsFrom (L+1) fd.scope.names []).map fun x=>(x.2,[V.mark])).map (·.1)).Nodup
 rw [List.map_map]
 exact cells_nodup fd.scope.names (L+1)
theorem call_root {s:Shared} {vs:List Value} {a:Addr} {o:Obj} {fd:FuncData} {body:List Stmt} {binds:List (Str×V)} {Q:V→Prop} (G:Gl K) (r:Root K s) (hsz:K.B.objs.size≤s.heap.objs.size) (ho:K.B.get? a=some o) (hd:o.data=.func fd) (hcd:K.B.CodeRec fd.code fd.qualname)
 (hbody:fd.body=.stmts body) (hroom:callerA.depth <recursionLimit) (hbind:Binds s fd ⟨vs,[]⟩ binds)
 (hclo:fd.closure=[]) (hloc:((binds.map (·.1)).all fun x=>fd.scope.names.lookup x==some .local)=true)
 (hgl:fd.globals=mainGlobals) (hbl:fd.builtins=builtinsNs)
 (h:∀L,EB K ⟨callerA.deeper (callEnvC fd L a),true,callEnvC fd L a,callEnvC fd L a,[],L⟩ body ⟨binds.reverse,cellSto fd L⟩ (kRoot Q) NoX)
 (hco:fd.scope.isCoroutine=false:=by kernel_rfl!) (hgen:fd.scope.isGenerator=false:=by kernel_rfl!) (hkd:fd.scope.kind=.function:=by kernel_rfl!):
 wpAny K.M callerA (PySem.call (.ref a) vs []) (QR K Q) (fun _ _=>False) s:=by
 obtain ⟨bs,hb,hn,hl⟩:=hbind
 refine wpAny_call (call_defC hroom (r.base _ _ ho) hd (G.lim.keeps r.base) (hcd.keeps r.base) hbody hb hclo (fun x hx=>?_) (fun h₀ hns hk hcells=>?_) hco hgen hkd)
 ·simpa using List.all_eq_true.mp hloc x.1 (hn▸List.mem_map_of_mem hx)
 ·have ev:Ev K.C [] s.heap h₀:=.of_keep hk
  have hc:=cells_sto hsz hcells
  have r':Rel K ⟨callerA.deeper (callEnvC fd s.heap.objs.size a),true,callEnvC fd s.heap.objs.size a,callEnvC fd s.heap.objs.size a,[],s.heap.objs.size⟩ ⟨binds.reverse,cellSto fd s.heap.objs.size⟩ { s with heap:=h₀,toks:=s.toks+bs.length}:=by
   refine ⟨⟨fun b o' e=>hk b o' (r.base b o' e),r.gens,r.os,fun env he=>?_,fun x hx=>(hc x hx).1,cellSto_nodup ..,fun e q=>(nomatch q),fun t ht=>(r.tabs t ht).at' ev (fun q=>nomatch q) ev.kp⟩,⟨rfl,rfl,⟨_,rfl⟩,rfl,hkd,hgl,hbl,fun hm=>(nomatch hm),fun q=>(nomatch q)⟩,
    ⟨hns,isl_lookup (by rw [List.map_reverse,List.map_reverse,hn]) (by rw [List.map_reverse,List.map_reverse];exact isl_reverse (hl.keep ev.kp))⟩⟩
   have he:env=callEnvC fd s.heap.objs.size a:=by simpa using he
   subst he
   obtain ⟨o',es,ep,e,d,_⟩:=hns
   exact ⟨by show fd.scope.kind≠_;rw [hkd];nofun,hsz,rfl,hsz,e,d⟩
  refine wpAny_mono (h _ _ r') (fun f s' ⟨fl,st',x,i,q⟩=>?_) fun v s' ⟨e,xc,st',hv,x,f,q⟩=>q.elim
  have rt:Root K s':=⟨x.r.g.base,x.r.g.gens,x.r.g.os,x.r.g.tabs⟩
  cases i with
  | ret i=>exact ⟨_,i,q,rt⟩
  | exc f n=>exact q.elim
  | _=>exact ⟨_,.none,q,rt⟩
end
section
variable {K:Kx} {c:Cx} {st st₁:St} {Q:V→St→Prop} {X:Xc→St→Prop} {R:Fl→St→Prop} {s s₁:Shared}
theorem EV_cell {x:Str} {pos:Pos} {a:Addr} {v:V} (hc:c.env.cells.lookup x=some a) (hm:(a,[.mark,v])∈st.sto) (q:Q v st) (hk:c.env.kindOf x=some .cell:=by kernel_rfl!) (hd:(x==("__debug__":Str))=false:=by decide):EV K c (.Name x pos) st Q X:=fun s r=>by
 obtain ⟨_,g,i⟩:=r.g.lists _ hm
 obtain ⟨u,rfl,i1⟩:=isl1 i
 exact wpAny_Name (wpAny_loadName_cell r.ok.kind hk hc ⟨_,g,rfl⟩ (QV.now r i1 q rfl)) hd
theorem EV_free {x:Str} {pos:Pos} {a:Addr} {v:V} (hc:c.env.cells.lookup x=some a) (hm:(a,[.mark,v])∈st.sto) (q:Q v st) (hk:c.env.kindOf x=some .free:=by kernel_rfl!) (hd:(x==("__debug__":Str))=false:=by decide) (hn:(x==("__classdict__":Str))=false:=by decide):EV K c (.Name x pos) st Q X:=fun s r=>by
 obtain ⟨_,g,i⟩:=r.g.lists _ hm
 obtain ⟨u,rfl,i1⟩:=isl1 i
 exact wpAny_Name (wpAny_loadName_free r.ok.kind hk hc ⟨_,g,rfl⟩ (QV.now r i1 q rfl) hn) hd
theorem storeC_ok {x:Str} {a:Addr} {l:List V} {v:V} {val:Value} {P:Unit→Shared→Prop} {E:Value→Shared→Prop} {A:Around} (r:Rel K c st s) (i:Is s.heap v val) (hc:c.env.cells.lookup x=some a) (hm:(a,.mark::l)∈st.sto) (hk:c.env.kindOf x=some .cell)
 (k:∀s',Nx K c st s ⟨st.loc,setSto st.sto a [.mark,v]⟩ s'→Keeps s.heap s'.heap→P () s'):wpAny K.M A (storeName c.env x val) P E s:=by
 obtain ⟨_,g,_⟩:=r.g.lists _ hm
 unfold storeName
 simp only [hk,r.ok.kind]
 refine wpAny_bind (wpAny_cellOf hc ?_)
 unfold cellSet
 refine wpAny_bind (wpAny_load g (wpAny_update g ?_))
 have n:Nx K c st s ⟨st.loc,setSto st.sto a [.mark,v]⟩ { s with heap:=s.heap.update a fun o=>{ o with data:=.cell (some val)}}:=r.setOwn (l':=[.mark,v]) (vs:=[val]) (n':=0) (k:=s.toks) hm (Heap.SameBut.update ..) (Heap.get?_update_self _ g rfl) fun kp=>.cons (i.keep kp) .nil
 exact k _ n (n.kp r)
theorem AS_cell {x:Str} {p:Pos} {ts:List (Value→Sem Unit)} {a:Addr} {l:List V} {v:V} {vs:List V} {RS:St→Prop} (hc:c.env.cells.lookup x=some a) (hm:(a,.mark::l)∈st.sto) (h:AS K c ts vs ⟨st.loc,setSto st.sto a [.mark,v]⟩ RS X) (hk:c.env.kindOf x=some .cell:=by kernel_rfl!):
 AS K c (assign (.Name x p) c.env::ts) (v::vs) st RS X:=AS_step h fun _ _ _ _ r i k=>assign_Name (storeC_ok r i hc hm hk k)
noncomputable def cxInC (c:Cx) (fd:FuncData) (a L:Addr):Cx:=⟨c.A.deeper (callEnvC fd L a),c.hc,callEnvC fd L a,callEnvC fd L a,c.top::c.outer,L⟩
inductive KDc (st:St) (R:Fl→St→Prop) (f:Fl) (st':St):Prop
 | mk (rest:List (Addr×List V)) (h:rest.Sublist st'.sto) (q:match f with | .ret v=>R (.ret v) ⟨st.loc,rest⟩ | .exc x=>R (.exc x) ⟨st.loc,rest⟩ | _=>R (.ret .none) ⟨st.loc,rest⟩)
inductive KDx (st:St) (X:Xc→St→Prop) (x:Xc) (st':St):Prop
 | mk (rest:List (Addr×List V)) (h:rest.Sublist st'.sto) (q:X x ⟨st.loc,rest⟩)
theorem CR_defC {a:Addr} {o:Obj} {fd:FuncData} {body:List Stmt} {args ka:List V} {kn:List Str} {binds:List (Str×V)} (G:Gl K) (ho:K.B.get? a=some o) (hd:o.data=.func fd) (hcd:K.B.CodeRec fd.code fd.qualname)
 (hbody:fd.body=.stmts body) (hroom:c.A.depth <recursionLimit)
 (hbind:∀(s:Shared) vs ks,K.B.StaysIn s.heap→IsL s.heap args vs→IsL s.heap ka ks→Binds s fd ⟨vs,kn.zip ks⟩ binds)
 (hclo:fd.closure=[]) (hloc:((binds.map (·.1)).all fun x=>fd.scope.names.lookup x==some .local)=true)
 (hgl:fd.globals=mainGlobals) (hbl:fd.builtins=builtinsNs)
 (h:∀L,(∀x∈st.sto,x.1≤L)→EB K (cxInC c fd a L) body ⟨binds.reverse,cellSto fd L++st.sto⟩ (KDc st R) (KDx st X))
 (hco:fd.scope.isCoroutine=false:=by kernel_rfl!) (hgen:fd.scope.isGenerator=false:=by kernel_rfl!) (hkd:fd.scope.kind=.function:=by kernel_rfl!):CR K c (.ref a) args kn ka st R X:=fun s fv vs ks r i il ik=>by
 obtain rfl:=i.inv
 obtain ⟨bs,hb,hn,hl⟩:=hbind s vs ks r.g.base il ik
 have ho:=r.g.base _ _ ho
 refine wpAny_call (call_defC hroom ho hd (G.lim.keeps r.g.base) (hcd.keeps r.g.base) hbody hb hclo (fun x hx=>?_) (fun h₀ hns hk hcells=>?_) hco hgen hkd)
 ·simpa using List.all_eq_true.mp hloc x.1 (hn▸List.mem_map_of_mem hx)
 ·have hBL:=r.size
  have ev:Ev K.C [] s.heap h₀:=.of_keep hk
  have hc:=cells_sto hBL hcells
  have hsto:∀x∈st.sto,x.1 <s.heap.objs.size:=fun x hx=>let ⟨_,g,_⟩:=r.g.lists x hx;Heap.lt_size g
  have r':Rel K (cxInC c fd a s.heap.objs.size) ⟨binds.reverse,cellSto fd s.heap.objs.size++st.sto⟩ { s with heap:=h₀,toks:=s.toks+bs.length}:=by
   refine ⟨⟨fun b o' e=>hk b o' (r.g.base b o' e),r.g.gens,r.g.os,fun env he=>?_,fun x hx=>?_,?_,fun e q b=>(r.g.held e q b).ev ev (fun q=>nomatch q),fun t ht=>(r.g.tabs t ht).at' ev (fun q=>nomatch q) ev.kp⟩,
    ⟨by show (c.A.deeper _).frames=_;simp only [Around.deeper,r.ok.frames,Option.map_some,cxInC],rfl,⟨_,rfl⟩,rfl,hkd,hgl,hbl,fun hm=>let ⟨_,_,e,_⟩:=r.g.ff.tail.new hm;ne_some (get?_size _) e,r.ok.handled⟩,
    ⟨hns,isl_lookup (by rw [List.map_reverse,List.map_reverse,hn]) (by rw [List.map_reverse,List.map_reverse];exact isl_reverse (hl.keep ev.kp))⟩⟩
   ·rcases (List.mem_cons.mp he).elim (fun q=>Or.inl q) (fun q=>List.mem_cons.mp q) with rfl | he
    ·obtain ⟨o',es,ep,e,d,_⟩:=hns
     exact ⟨by show fd.scope.kind≠_;rw [hkd];nofun,hBL,rfl,hBL,e,d⟩
    ·exact (r.g.ff.tail.ev ev) env he
   ·exact (List.mem_append.mp hx).elim (fun hx=>(hc x hx).1) fun hx=>(r.g.lists x hx).ev ev (fun q=>nomatch q) ev.kp
   ·rw [List.map_append]
    refine List.nodup_append.mpr ⟨cellSto_nodup ..,r.g.nod,fun x hx y hy e=>?_⟩
    obtain ⟨p,hp,e1⟩:=List.mem_map.mp hx
    obtain ⟨q,hq,e2⟩:=List.mem_map.mp hy
    exact Nat.lt_irrefl _ (Nat.lt_trans (e1.trans (e.trans e2.symm)▸(hc p hp).2) (hsto q hq))
  have back:∀{st' s' rest},rest.Sublist st'.sto→Nx K (cxInC c fd a s.heap.objs.size) ⟨binds.reverse,cellSto fd s.heap.objs.size++st.sto⟩ { s with heap:=h₀,toks:=s.toks+bs.length} st' s'→Nx K c st s ⟨st.loc,rest⟩ s':=fun hsub x=>by
   have new:∀b,b∈adr (⟨binds.reverse,cellSto fd s.heap.objs.size++st.sto⟩:St)→b∈adr st∨s.heap.get? b=none:=fun b hb=>by
    obtain ⟨y,hy,rfl⟩:=List.mem_map.mp hb
    exact (List.mem_append.mp hy).elim (fun hy=>.inr (Heap.get?_none_of_le (Nat.le_of_lt (hc y hy).2))) fun hy=>.inl (List.mem_map_of_mem (f:=(·.1)) hy)
   exact r.back x.r rfl rfl rfl (ev.wide.trans x.g.ev fun b hb=>mem3 hb (fun e=>.inr (e▸get?_size _)) (fun hb=>(new b hb).imp (List.mem_append_left _) id) fun hb=>.inl (List.mem_append_right _ hb)) hsub
    fun b hb=>(x.g.dom b ((hsub.map (·.1)).subset hb)).elim (new b) fun q=>.inr (ev.none q)
  refine wpAny_mono (h _ (fun x hx=>Nat.le_of_lt (hsto x hx)) _ r') (fun f s' ⟨fl,st',x,i,rest,hsub,q⟩=>?_) fun v s' ⟨e,xc,st',hv,x,f,rest,hsub,q⟩=>?_
  ·cases i with
   | ret i=>exact ⟨_,_,back hsub x,.ret i,q⟩
   | exc f n=>exact ⟨_,_,back hsub x,.exc f (ev.none n),q⟩
   | _=>exact ⟨_,_,back hsub x,.ret .none,q⟩
  ·subst hv
   exact fly_leaving x.r.ok.frames x.r.ok.tp x.r.g.ff x.r.g.base f fun h' a1 a2 a3=>⟨e,xc,_,rfl,back hsub (x.ev a1 a2),a3.fly,q⟩
end
end
end
section
open PySem PySem.W PySem.Calls PyProof.Rows PySem.Builtin PySem.Builtin.Str
set_option maxRecDepth 100000
section
noncomputable def iterNames:List String:=["list_iterator","tuple_iterator","str_iterator","str_ascii_iterator"]
theorem iter_is {o:Obj} {n:String} (hc:o.cls=.type n) (hn:n∈iterNames):¬Firm o∧o.cls≠.none∧∀C,Vol C o.cls=false:=by
 simp only [iterNames,List.mem_cons,List.not_mem_nil,or_false] at hn
 rw [hc]
 refine ⟨fun f=>?_,nofun,fun C=>?_⟩
 ·have:=f.1
  rw [hc] at this
  simp only [Value.type.injEq] at this
  rcases hn with rfl | rfl | rfl | rfl<;>exact absurd this (by decide)
 ·rcases hn with rfl | rfl | rfl | rfl<;>exact of_decide_eq_true rfl
inductive ItAt (h:Heap) (I:Addr):Prop
 | mk {o:Obj} {vs:Array Value} {n:String} (at_:h.get? I=some o) (data:o.data=.fields vs) (cls:o.cls=.type n) (mem:n∈iterNames)
theorem go_ok {M:Model} {A:Around} {E:Value→Shared→Prop} {s:Shared} {I:Addr} {target:Expr} {v:Value} {P:Unit→Shared→Prop} (h0:ItAt s.heap I) (h:P () s):
 wpAny M A (letOwnedTupleGo target (.ref I) v) P E s:=by
 obtain ⟨ho,hd,hc,hn⟩:=h0
 rename_i o vs n
 unfold letOwnedTupleGo
 have key:wpAny M A (match v with
  | .ref a=>(do
    let o ←load I
    match o.cls,o.data with
    | .type n,.fields vs=>
      if ["enumerate","zip","dict_itemiterator","dict_reverseitemiterator","odict_iterator","itertools.zip_longest","itertools.pairwise"].contains n&&vs[0]?==some (rawInt a) then
       rule "for.unpacks-the-owned-tuple"
       updateField I 0 .none
    | _,_=>pure ())
  | _=>pure ()) P E s:=by
  cases v with
  | ref a=>
    refine wpAny_bind (wpAny_load ho ?_)
    rw [hc,hd]
    show wpAny M A (if (["enumerate","zip","dict_itemiterator","dict_reverseitemiterator","odict_iterator","itertools.zip_longest","itertools.pairwise"].contains n&&vs[0]?==some (rawInt a))=true then _ else _) P E s
    rw [if_neg (by
     have e:["enumerate","zip","dict_itemiterator","dict_reverseitemiterator","odict_iterator","itertools.zip_longest","itertools.pairwise"].contains n=false:=by
      simp only [iterNames,List.mem_cons,List.not_mem_nil,or_false] at hn
      rcases hn with rfl | rfl | rfl | rfl<;>decide
     rw [e,Bool.false_and];decide)]
    exact wpAny_pure h
  | _=>exact wpAny_pure h
 cases target<;>first
  | exact wpAny_pure h
  | (cases v<;>exact key)
abbrev KeepBut (I:Addr) (h h':Heap):Prop:=∀b o,b≠I→h.get? b=some o→h'.get? b=some o
abbrev KeepAll (h h':Heap):Prop:=∀b o,h.get? b=some o→h'.get? b=some o
structure Wk (K:Kx) (A:Around) (l:List V) (I:Addr) (At:Nat→Heap→Prop) (good:List (Addr×List V)→Prop):Prop where
 obj:∀i h,At i h→ItAt h I
 frame:∀i h h',At i h→Keeps h h'→h'.get? I=h.get? I→At i h'
 item:∀i v sto (s:Shared) (P:Option Value→Shared→Prop) (E:Value→Shared→Prop),l[i]?=some v→good sto→K.B.StaysIn s.heap→StoIs K.B s.heap sto→At i s.heap→
  (∀u h' tk,Is s.heap v u→At (i+1) h'→KeepBut I s.heap h'→P (some u) { s with heap:=h',toks:=tk})→wpAny K.M A (pyNext (.ref I)) P E s
 done:∀sto (s:Shared) (P:Option Value→Shared→Prop) (E:Value→Shared→Prop),good sto→K.B.StaysIn s.heap→StoIs K.B s.heap sto→At l.length s.heap→
  (∀h' tk,KeepBut I s.heap h'→P none { s with heap:=h',toks:=tk})→wpAny K.M A (pyNext (.ref I)) P E s
 self:∀i (s:Shared) (P:Value→Shared→Prop) (E:Value→Shared→Prop),At i s.heap→P (.ref I) s→wpAny K.M A (pyIter (.ref I)) P E s
structure Src (K:Kx) (A:Around) (a:V) (l:List V) (good:List (Addr×List V)→Prop):Prop where
 start:∀sto (s:Shared) u (P:Value→Shared→Prop) (E:Value→Shared→Prop),good sto→K.B.StaysIn s.heap→StoIs K.B s.heap sto→Is s.heap a u→
  (∀I h' tk At,s.heap.get? I=none→Wk K A l I At good→At 0 h'→KeepAll s.heap h'→P (.ref I) { s with heap:=h',toks:=tk})→wpAny K.M A (pyIter u) P E s
section
variable {K:Kx} {A:Around}
theorem Wk.ofList {l:List V} {I a:Addr} {good:List (Addr×List V)→Prop} (hh:A.handled=none) (hI:∀sto h,good sto→K.B.StaysIn h→StoIs K.B h sto→∃vs:List Value,h.IsList a vs.toArray∧IsL h l vs):Wk K A l I (fun i h=>h.IsListIter I a i) good where
 obj:=fun i h ⟨o,ho,hc,hd⟩=>⟨ho,hd,hc,by decide⟩
 frame:=fun i h h' ⟨o,ho,r⟩ _ e=>⟨o,e.trans ho,r⟩
 item:=fun i v sto s P E hv g b st hit k=>by
  obtain ⟨vs,hl,il⟩:=hI sto s.heap g b st
  obtain ⟨u,hu,iu⟩:=il.get i v hv
  exact wpAny_pyNext_list_item hit hl (x:=u) (by simpa using hu) fun h' hit' hs=>k u h' s.toks iu hit' fun b o hb e=>(hs.2 b hb).trans e
 done:=fun sto s P E g b st hit k=>by
  obtain ⟨vs,hl,il⟩:=hI sto s.heap g b st
  exact wpAny_pyNext_list_end hh hit hl (by rw [il.length];simp) fun h' hs=>k h' s.toks fun b o hb e=>hs b o hb e
 self:=fun i s P E hit q=>wpAny_pyIter_listiter hit q
theorem Src.ofList {l:List V} {a:Addr} {good:List (Addr×List V)→Prop} (hh:A.handled=none) (hI:∀sto h,good sto→K.B.StaysIn h→StoIs K.B h sto→∃vs:List Value,h.IsList a vs.toArray∧IsL h l vs):Src K A (.ref a) l good where
 start:=fun sto s u P E g b st i k=>by
  obtain rfl:=i.inv
  obtain ⟨vs,hl,il⟩:=hI sto s.heap g b st
  exact wpAny_pyIter_list hl (k _ _ s.toks _ (Heap.get?_none_of_le (Nat.le_refl _)) (Wk.ofList hh hI) ⟨_,Heap.get?_push_size _ rfl,rfl,rfl⟩ fun b o e=>Heap.get?_push_of_some _ e)
theorem Src.own {l:List V} {a:Addr} (hh:A.handled=none) (hl:isC l=false):Src K A (.ref a) l (fun sto=>(a,l)∈sto):=
 .ofList hh fun sto h g _ st=>by
  obtain ⟨_,e,i⟩:=st _ g
  exact ⟨_,⟨_,stoO_of hl▸e,rfl,_,rfl⟩,stoL_of hl▸i⟩
theorem Src.base {l:List V} {a:Addr} {o:Obj} {vs:List Value} {n:Nat} (hh:A.handled=none) (ho:K.B.get? a=some o) (hc:o.cls=.type "list") (hd:o.data=.seq vs.toArray n) (hl:IsL K.B l vs):Src K A (.ref a) l (fun _=>True):=
 .ofList hh fun sto h _ b _=>⟨vs,⟨o,b _ _ ho,hc,n,hd⟩,hl.keep (keeps_of_stays b)⟩
theorem Wk.ofTup {l:List V} {I t:Addr} {vs:List Value} (hh:A.handled=none):Wk K A l I (fun i h=>h.IsTupleIter I t i∧IsTup h t vs.toArray∧IsL h l vs) (fun _=>True) where
 obj:=fun i h ⟨⟨o,ho,hc,hd⟩,_⟩=>⟨ho,hd,hc,by decide⟩
 frame:=fun i h h' ⟨⟨o,ho,r⟩,ht,il⟩ k e=>⟨⟨o,e.trans ho,r⟩,k.tup ht,il.keep k⟩
 item:=fun i v sto s P E hv g b st ⟨hit,ht,il⟩ k=>by
  obtain ⟨u,hu,iu⟩:=il.get i v hv
  refine wpAny_pyNext_tuple_item hit ht (x:=u) (by simpa using hu) fun h' hit' hs=>?_
  have kp:Keeps s.heap h':=fun b o e f=>(hs.2 b (fun q=>by
   obtain ⟨o',ho',hc',_⟩:=id hit
   cases (q▸e).symm.trans ho'
   exact (iter_is hc' (by decide)).1 f)).trans e
  exact k u h' s.toks iu ⟨hit',kp.tup ht,il.keep kp⟩ fun b o hb e=>(hs.2 b hb).trans e
 done:=fun sto s P E g b st ⟨hit,ht,il⟩ k=>wpAny_pyNext_tuple_end hh hit ht (by rw [il.length];simp) fun h' hs=>k h' s.toks fun b o hb e=>hs b o hb e
 self:=fun i s P E ⟨hit,_⟩ q=>by
  refine wpAny_pyIter_slot hit.typeIs F.slot_tuple_iterator_iter (wpAny_call_entry F.slot_tuple_iterator_iter hit.typeIs F.entry_tuple_iterator_iter ?_ (F.args_tuple_iterator_iter_1 _))
  show wpAny _ _ (ret (.ref I)) _ _ s
  exact wpAny_pure ⟨_,rfl,"tuple_iterator",_,hit.typeIs,F.slot_tuple_iterator_next.lookup,q⟩
theorem Src.tup {l:List V} (hh:A.handled=none):Src K A (.tup l) l (fun _=>True) where
 start:=fun sto s u P E g b st i k=>by
  obtain ⟨t,vs,rfl,ht,il⟩:=i.inv
  have kp:=(Ev.push 0 [] s.heap ({ cls:=.type "tuple_iterator",data:=.fields #[.ref t,.int 0 0]}:Obj)).kp
  exact wpAny_pyIter_tuple ht (k _ _ s.toks _ (Heap.get?_none_of_le (Nat.le_refl _)) (Wk.ofTup hh) ⟨⟨_,Heap.get?_push_size _ rfl,rfl,rfl⟩,kp.tup ht,il.keep kp⟩ fun b o e=>Heap.get?_push_of_some _ e)
noncomputable abbrev signs (x:Str):List V:=(L x).map fun ch=>V.str ⟨#[ch]⟩
theorem Wk.ofStr {x:Str} {t:Tok} {I:Addr} {nm:String} (hnm:nm="str_ascii_iterator"∨nm="str_iterator") (W:Walks K.prog K.w A I [I] [I] x.cps.size (SignAt x) (fun i h=>h.IsStrIter I nm x t i)):Wk K A (signs x) I (fun i h=>h.IsStrIter I nm x t i) (fun _=>True) where
 obj:=fun i h ⟨o,ho,hc,hd⟩=>⟨ho,hd,hc,by rcases hnm with rfl | rfl<;>decide⟩
 frame:=fun i h h' ⟨o,ho,r⟩ _ e=>⟨o,e.trans ho,r⟩
 item:=fun i v sto s P E hv g b st hit k=>by
  have hlt:i <x.cps.size:=by
   have:=(List.getElem?_eq_some_iff.mp hv).1
   simpa [signs,L] using this
  refine W.item i s _ _ hlt hit fun u h' tk ⟨ch,tu,hch,e⟩ hit' km=>?_
  subst e
  refine k _ h' tk ?_ hit' fun b o hb e=>km b o (by simpa using hb) e
  have:v=.str ⟨#[ch]⟩:=by
   simp only [signs,List.getElem?_map] at hv
   have e2:(L x)[i]?=some ch:=by simpa [L] using hch
   rw [e2] at hv
   exact (Option.some.inj hv).symm
  subst this
  exact .str _ _ (by show 1≤sizeLine;decide)
 done:=fun sto s P E g b st hit k=>by
  have e:(signs x).length=x.cps.size:=by simp [signs,L]
  rw [e] at hit
  exact W.done s _ _ hit fun h' tk km=>k h' tk fun b o hb e=>km b o (by simpa using hb) e
 self:=fun i s P E hit q=>W.self i s P E hit q
theorem Src.str {x:Str} (hh:A.handled=none):Src K A (.str x) (signs x) (fun _=>True) where
 start:=fun sto s u P E g b st i k=>by
  obtain ⟨t,rfl,hx⟩:=i.inv
  cases hw:x.cps.all (· <128)
  ·exact wpAny_pyIter_wide hw (k _ _ s.toks _ (Heap.get?_none_of_le (Nat.le_refl _)) (Wk.ofStr (.inr rfl) (Walks.strWide hh _ x t)) ⟨_,Heap.get?_push_size _ rfl,rfl,rfl⟩ fun b o e=>Heap.get?_push_of_some _ e)
  ·exact wpAny_pyIter_ascii hw (k _ _ s.toks _ (Heap.get?_none_of_le (Nat.le_refl _)) (Wk.ofStr (.inl rfl) (Walks.strAscii hh _ x t)) ⟨_,Heap.get?_push_size _ rfl,rfl,rfl⟩ fun b o e=>Heap.get?_push_of_some _ e)
end
section
variable {K:Kx} {c:Cx} {st st₁:St} {Q:V→St→Prop} {X:Xc→St→Prop} {R:Fl→St→Prop} {RS:St→Prop} {s s₁:Shared}
def TA (K:Kx) (c:Cx) (target:Expr) (v:V) (st:St) (R:St→Prop) (X:Xc→St→Prop):Prop:=
 ∀s u,Rel K c st s→Is s.heap v u→wpAny K.M c.A (assign target c.env u) (fun _ s'=>QU K c st s R s') (QX K c st s X) s
theorem TA.go {t:Expr} {v:V} {u:Value} {P:Unit→Shared→Prop} (h:TA K c t v st₁ RS X) (n:Nx K c st s st₁ s₁) (i:Is s₁.heap v u) (k:∀s₂ st₂,Nx K c st s st₂ s₂→Nx K c st₁ s₁ st₂ s₂→RS st₂→P () s₂):wpAny K.M c.A (assign t c.env u) P (QX K c st s X) s₁:=
 wpAny_mono (h s₁ u n.r i) (fun _ s₂ z=>z.casesOn fun st₂ m q=>k s₂ st₂ (n.trans m) m q) fun _ _ z=>z.after n
theorem TA_name {x:Str} {p:Pos} {v:V} (q:RS (st.set x v)) (hk:c.env.kindOf x=some .local:=by kernel_rfl!):TA K c (.Name x p) v st RS X:=fun s u r i=>
 PyProof.Rows.assign_Name (store_ok (.refl r) i hk fun s₁ n _=>⟨_,n,q⟩)
theorem TA_tuple {elts:List Expr} {k:Nat} {tpos:Pos} {l:List V} (hh:c.A.handled=none) (hn:(assignEach elts c.env).length=l.length) (h:AS K c ((assignEach elts c.env).map (·.2)) l st RS X)
 (hst:(assignEach elts c.env).findIdx? (·.1)=none:=by kernel_rfl!):TA K c (.Tuple elts k tpos) (.tup l) st RS X:=fun s u r i=>by
 rw [assign_Tuple]
 refine wpAny_bind (wpAny_standAt ?_)
 unfold unpack
 rw [hst]
 exact wpAny_bind (wpAny_holding (unpack_ok (.refl r) i hh hn fun us s₂ n il=>h.go n il fun s₃ st₃ n _ q=>⟨st₃,n,q⟩))
theorem TA_cell {x:Str} {p:Pos} {a:Addr} {l:List V} {v:V} (hc:c.env.cells.lookup x=some a) (hm:(a,.mark::l)∈st.sto) (q:RS ⟨st.loc,setSto st.sto a [.mark,v]⟩) (hk:c.env.kindOf x=some .cell:=by kernel_rfl!):TA K c (.Name x p) v st RS X:=fun s u r i=>
 PyProof.Rows.assign_Name (storeC_ok r i hc hm hk fun s₁ n _=>⟨_,n,q⟩)
section
variable {l:List V} {I:Addr} {At:Nat→Heap→Prop} {good:List (Addr×List V)→Prop} {h':Heap} {i j:Nat}
theorem Wk.step (W:Wk K c.A l I At good) (hh:c.A.handled=none) (n:Nx K c st s st₁ s₁) (hI:s.heap.get? I=none) (hIB:K.B.get? I=none) (hat:At i s₁.heap) (km:KeepBut I s₁.heap h'):Keeps s₁.heap h'∧(At j h'→Nx K c st s st₁ { s₁ with heap:=h'}):=by
 obtain ⟨ho,hd,hc,hn⟩:=W.obj _ _ hat
 obtain ⟨nf,nn,_⟩:=iter_is hc hn
 refine ⟨fun b ob e f=>km b ob (fun q=>nf (Option.some.inj (ho.symm.trans (q▸e))▸f)) e,fun hat'=>?_⟩
 obtain ⟨ho',_⟩:=W.obj _ _ hat'
 refine ⟨n.r.keepBut km ho hd hIB nn nf (by rw [hh];nofun),⟨n.g.ev.trans (M':=[I]) ⟨fun b ob e=>?_⟩ fun a ha=>.inr (List.mem_singleton.mp ha▸hI),n.g.dom⟩⟩
 by_cases q:b=I
 ·subst q;exact ⟨_,ho',fun hb=>absurd (List.mem_singleton.mpr rfl) hb⟩
 ·exact ⟨ob,km b ob q e,fun _=>.same rfl⟩
theorem Wk.stay (W:Wk K c.A l I At good) (n:Nx K c st s st₁ s₁) (r:Rel K c st s) (hat:At i s.heap):At i s₁.heap:=by
 obtain ⟨ho,hd,hc,hn⟩:=W.obj _ _ hat
 obtain ⟨nf,nn,nv⟩:=iter_is hc hn
 exact W.frame _ _ _ hat (n.kp r) ((n.g.ev.at ho (fun hm=>nn ((r.who hm ho).2 _ hd)) (nd_f hd) (nv _)).trans ho.symm)
theorem Wk.last (W:Wk K c.A l I At good) (hh:c.A.handled=none) (n:Nx K c st s st₁ s₁) (hI:s.heap.get? I=none) (hIB:K.B.get? I=none) (hat:At i s₁.heap) (km:KeepBut I s₁.heap h'):Nx K c st s st₁ { s₁ with heap:=h'}:=by
 obtain ⟨ho,hd,hc,hn⟩:=W.obj _ _ hat
 obtain ⟨nf,nn,_⟩:=iter_is hc hn
 refine ⟨n.r.keepBut km ho hd hIB nn nf (by rw [hh];nofun),⟨⟨fun b o e=>?_⟩,n.g.dom⟩⟩
 obtain ⟨o',e',k⟩:=n.g.ev.all b o e
 exact ⟨o',km b o' (fun q=>ne_some (q▸hI) e) e',k⟩
abbrev kFR (Iv:Nat→St→Prop) (i:Nat) (R:Fl→St→Prop):Fl→St→Prop:=fun f st=>match f with
 | .next | .cont=>Iv (i+1) st
 | .brk=>R .next st
 | f=>R f st
abbrev kFB (K:Kx) (c:Cx) (body:List Stmt) (Iv:Nat→St→Prop) (i:Nat) (R:Fl→St→Prop) (X:Xc→St→Prop):St→Prop:=fun st=>EB K c body st (kFR Iv i R) X
inductive LoopAt (K:Kx) (c:Cx) (st:St) (s:Shared) (m:Nat) (At:Nat→Heap→Prop) (Iv:Nat→St→Prop) (n:Nat) (s':Shared):Prop
 | mk (i:Nat) (st':St) (hn:n=m -i) (hi:i≤m) (nx:Nx K c st s st' s') (at_:At i s'.heap) (iv:Iv i st')
inductive KFor (K:Kx) (c:Cx) (target:Expr) (body:List Stmt) (R:Fl→St→Prop) (X:Xc→St→Prop) (a:V) (st:St):Prop
 | mk (l:List V) (good:List (Addr×List V)→Prop) (src:Src K c.A a l good) (hg:good st.sto) (Iv:Nat→St→Prop) (h0:Iv 0 st)
   (turn:∀i v st₂,l[i]?=some v→Iv i st₂→good st₂.sto∧TA K c target v st₂ (kFB K c body Iv i R X) X) (done:∀st₂,Iv l.length st₂→good st₂.sto∧R .next st₂)
theorem Rel.newB (r:Rel K c st s) {I:Addr} (hI:s.heap.get? I=none):K.B.get? I=none:=by
 cases z:K.B.get? I with
 | none=>rfl
 | some o=>exact (ne_some hI (r.g.base _ _ z)).elim
theorem ES_for {target iter:Expr} {body:List Stmt} {pos:Pos} (hh:c.A.handled=none) (h:EV K c iter st (KFor K c target body R X) X)
 (hs:∀y,foldedSetIterable iter c.env y=pure y:=by intro _;with_unfolding_all rfl):ES K c (.For target iter body [] pos) st R X:=fun s r=>by
 refine wpAny_For (h.go (.refl r) fun xv s₁ a st₁ n₁ _ i₁ ⟨l,good,S,hgd,Iv,h0,turn,done⟩=>?_) hs
 refine S.start _ s₁ xv _ _ hgd n₁.r.g.base n₁.r.g.lists i₁ fun I h' tk At hI W hat km=>?_
 have hIB:=n₁.r.newB hI
 have hIs:s.heap.get? I=none:=n₁.g.ev.none hI
 refine codeAny_forLoop_any (LoopAt K c st s l.length At Iv) (fun m s' ⟨i,st₂,hm,hi,n₂,hat,iv⟩=>?_) l.length ⟨0,st₁,rfl,Nat.zero_le _,(n₁.kept km).toks tk,hat,h0⟩
 subst hm
 rcases Nat.lt_or_ge i l.length with hlt | hge
 ·obtain ⟨hgd,ht⟩:=turn i _ st₂ (List.getElem?_eq_getElem hlt) iv
  refine W.item i _ _ s' _ _ (List.getElem?_eq_getElem hlt) hgd n₂.r.g.base n₂.r.g.lists hat fun u h' tk iu hat' km=>?_
  obtain ⟨kp,st3⟩:=W.step (j:=i+1) hh n₂ hIs hIB hat km
  have n₃:=(st3 hat').toks tk
  refine go_ok (s:={ s' with heap:=h',toks:=tk}) (W.obj _ _ hat') (wpAny_mono (ht.go n₃ (iu.keep kp) (P:=fun _ s₄=>_) fun s₄ st₄ n₄ m₄ q₄=>?_) (fun _ _ z=>z) fun _ _ z=>qx_noted rfl z)
  refine wpAny_mono (q₄ s₄ n₄.r) (fun f s₅ ⟨fl,st₅,m₅,i₅,q₅⟩=>?_) fun _ _ z=>qx_noted rfl (z.after n₄)
  have n₅:=n₄.trans m₅
  have on:Iv (i+1) st₅→∃m,m <l.length -i∧LoopAt K c st s l.length At Iv m s₅:=fun q=>⟨l.length -(i+1),by refine' qs1 ‹_›,i+1,st₅,rfl,hlt,n₅,W.stay m₅ n₄.r (W.stay m₄ n₃.r hat'),q⟩
  have i₆:=i₅.from n₄.g.ev
  cases i₆ with
  | next=>exact on q₅
  | cont=>exact on q₅
  | brk=>exact ⟨.next,st₅,n₅,.next,q₅⟩
  | ret i=>exact ⟨.ret _,st₅,n₅,.ret i,q₅⟩
  | exc f n=>exact ⟨.exc _,st₅,n₅,.exc f n,q₅⟩
 ·have hi':i=l.length:=Nat.le_antisymm hi hge
  subst hi'
  obtain ⟨hgd,hq⟩:=done st₂ iv
  exact W.done _ s' _ _ hgd n₂.r.g.base n₂.r.g.lists hat fun h' tk km=>wpAny_execs_nil ⟨.next,st₂,(W.last hh n₂ hIs hIB hat km).toks tk,.next,hq⟩
end
inductive KForS (K:Kx) (c:Cx) (v:Str) (body:List Stmt) (R:Fl→St→Prop) (X:Xc→St→Prop) (a:V) (st:St):Prop
 | mk (x:Str) (ha:a=.str x) (Iv:Nat→St→Prop) (h0:Iv 0 st) (turn:∀i ch st₂,(L x)[i]?=some ch→Iv i st₂→EB K c body (st₂.set v (.str ⟨#[ch]⟩)) (kFR Iv i R) X) (done:∀st₂,Iv x.length st₂→R .next st₂)
theorem ES_for_str {v:Str} {px pos:Pos} {iter:Expr} {body:List Stmt} (hh:c.A.handled=none) (h:EV K c iter st (KForS K c v body R X) X) (hk:c.env.kindOf v=some .local:=by kernel_rfl!)
 (hs:∀y,foldedSetIterable iter c.env y=pure y:=by intro _;with_unfolding_all rfl):ES K c (.For (.Name v px) iter body [] pos) st R X:=
 ES_for hh (h.mono (fun a st ⟨x,ha,Iv,h0,turn,done⟩=>ha▸⟨signs x,fun _=>True,Src.str hh,trivial,Iv,h0,fun i w st₂ hv iv=>⟨trivial,by
  rw [List.getElem?_map] at hv
  obtain ⟨ch,e,rfl⟩:=Option.map_eq_some_iff.mp hv
  exact TA_name (turn i ch st₂ e iv) hk⟩,fun st₂ iv=>⟨trivial,done st₂ (by rw [List.length_map,L_length] at iv;exact iv)⟩⟩) fun _ _ z=>z) hs
end
end
section
structure St.Le (a b:St):Prop where
 sto:a.sto.Sublist b.sto
 loc:∀x v,a.loc.lookup x=some v→b.loc.lookup x=some v
theorem St.Le.refl (a:St):St.Le a a:=⟨List.Sublist.refl _,fun _ _ h=>h⟩
theorem St.Le.trans {a b c:St} (x:St.Le a b) (y:St.Le b c):St.Le a c:=⟨x.sto.trans y.sto,fun n v h=>y.loc n v (x.loc n v h)⟩
section
variable {K:Kx} {c:Cx} {st st₁ st':St} {Q:V→St→Prop} {X:Xc→St→Prop} {R:Fl→St→Prop} {T:Bool→St→Prop} {RS:St→Prop} {s s₁ s':Shared}
theorem Rel.le (r:Rel K c st s) (l:St.Le st' st):Rel K c st' s:=
 let ⟨hn,hl⟩:=r.loc
 ⟨{ r.g with lists:=fun y hy=>r.g.lists y (l.sto.subset hy),nod:=(l.sto.map (·.1)).nodup r.g.nod},r.ok,hn,fun x v e=>hl x v (l.loc x v e)⟩
theorem St.Le.adr {a b:St} (x:St.Le a b):∀y∈adr a,y∈adr b:=fun y hy=>(List.Sublist.map (·.1) x.sto).subset hy
theorem Nx.le (x:St.Le st' st) (n:Nx K c st' s st₁ s₁):Nx K c st s st₁ s₁:=⟨n.r,⟨n.g.ev.mono fun y hy=>.inl (mem3 hy (fun e=>e▸List.mem_cons_self) (fun hy=>in2 (x.adr y hy)) fun hy=>in3 hy),fun y hy=>(n.g.dom y hy).imp (x.adr y) id⟩⟩
theorem Nx.less (x:St.Le st' st₁) (n:Nx K c st s st₁ s₁):Nx K c st s st' s₁:=⟨n.r.le x,⟨n.g.ev,fun a ha=>n.g.dom a (x.adr a ha)⟩⟩
theorem QX.le {v:Value} (x:St.Le st' st):QX K c st' s X v s'→QX K c st s X v s':=fun ⟨e,y,st₂,ev,n,f,q⟩=>⟨e,y,st₂,ev,n.le x,f,q⟩
theorem TS.weak {t:Sem Flow} (l:St.Le st' st) (h:TS K c t st' R X):TS K c t st R X:=fun s r=>wpAny_mono (h s (r.le l)) (fun _ _ ⟨fl,st₂,n,i,q⟩=>⟨fl,st₂,n.le l,i,q⟩) fun _ _ z=>z.le l
theorem TV.weak {t:Sem Value} (l:St.Le st' st) (h:TV K c t st' Q X):TV K c t st Q X:=fun s r=>wpAny_mono (h s (r.le l)) (fun _ _ ⟨a,st₂,n,i,q⟩=>⟨a,st₂,n.le l,i,q⟩) fun _ _ z=>z.le l
theorem TB.weak {t:Sem Bool} (l:St.Le st' st) (h:TB K c t st' T X):TB K c t st T X:=fun s r=>wpAny_mono (h s (r.le l)) (fun _ _ ⟨st₂,n,q⟩=>⟨st₂,n.le l,q⟩) fun _ _ z=>z.le l
theorem TA.weak {t:Expr} {v:V} (l:St.Le st' st) (h:TA K c t v st' RS X):TA K c t v st RS X:=fun s u r i=>wpAny_mono (h s u (r.le l) i) (fun _ _ ⟨st₂,n,q⟩=>⟨st₂,n.le l,q⟩) fun _ _ z=>z.le l
noncomputable def compCx (c:Cx) (scope:Scope) (cl:List (Str×Addr)) (C:Addr):Cx:=⟨c.A,c.hc,compEnvC scope cl C c.env,c.top,c.outer,C⟩
theorem QX.no {v:Value}:QX K c st s NoX v s'→False:=fun ⟨_,_,_,_,_,_,q⟩=>q
abbrev EI (K:Kx) (c:Cx) (ifs:List Expr) (st:St) (T:Bool→St→Prop) (X:Xc→St→Prop):Prop:=
 TB K c (forIn ifs true fun t r=>if r=true then do let ok ←isTrue t c.env (eval t c.env);pure (ForInStep.yield ok) else pure (ForInStep.yield r)) st T X
theorem EI_nil (q:T true st):EI K c [] st T X:=fun s r=>by
 show wpAny _ _ (forIn [] true _) _ _ s
 rw [List.forIn_nil]
 exact wpAny_pure ⟨st,.refl r,q⟩
theorem EI_one {t:Expr} (h:ET K c t st T X):EI K c [t] st T X:=fun s r=>wpAny_tests_one (h s r)
theorem comp_turns {prog:Program} {w:World} {A:Around} {R:Result→Shared→Prop} {s:Shared} {elt target iter:Expr} {ifs:List Expr} {scope:Scope} {pos:Pos} {it acc:Value} {env:Env} (I:Nat→Shared→Prop)
 (turn:∀n s,I n s→wpAny (model prog w) A (pyNext it) (fun r s₁=>match r with
   | none=>R (.ok .next) s₁
   | some v=>wpAny (model prog w) A (letOwnedTupleGo target it v) (fun _ s₀=>wpAny (model prog w) A (assign target env v) (fun _ s₂=>
      wpAny (model prog w) A (forIn ifs true fun c r=>if r=true then do let ok ←isTrue c env (eval c env);pure (ForInStep.yield ok) else pure (ForInStep.yield r)) (fun ok s₃=>
       if ok=true then wpAny (model prog w) A (eval elt env) (fun x s₄=>
        wpAny (model prog w) A (call (.builtin "list.append") [acc,x]) (fun _ s₅=>∃m,m <n∧I m s₅) (notedBy (model prog w) A env fun e s'=>R (.error e) s') s₄) (notedBy (model prog w) A env fun e s'=>R (.error e) s') s₃
       else ∃m,m <n∧I m s₃) (notedBy (model prog w) A env fun e s'=>R (.error e) s') s₂) (notedBy (model prog w) A env fun e s'=>R (.error e) s') s₀) (notedBy (model prog w) A env fun e s'=>R (.error e) s') s₁) (notedBy (model prog w) A env fun e s'=>R (.error e) s') s)
 (n:Nat) (h:I n s):codeAny (model prog w) A (.compLoop (.ListComp elt [⟨target,iter,ifs,0⟩] scope pos) 0 it acc env) R s:=by
 refine codeAny_loop rfl I (fun n s hI=>?_) n h
 show wpAny _ A ((compTurn (.ListComp elt [⟨target,iter,ifs,0⟩] scope pos) 0 it acc env).onRaise (fun x=>do noteFrame x env;theTreesLotGoes x)) _ _ s
 refine wpAny_noted ?_
 rw [compTurn_list]
 refine wpAny_bind (wpAny_standAt (wpAny_bind (wpAny_mono (turn n s hI) (fun r s₁ h₁=>?_) fun _ _ h'=>h')))
 cases r with
 | none=>exact wpAny_pure h₁
 | some v=>
   refine wpAny_bind (wpAny_mono h₁ (fun _ s₀ h₀'=>?_) fun _ _ h'=>h')
   refine wpAny_bind (wpAny_mono h₀' (fun _ s₂ h₂=>wpAny_bind (wpAny_mono h₂ (fun ok s₃ h₃=>?_) fun _ _ h'=>h')) fun _ _ h'=>h')
   cases ok with
   | false=>exact wpAny_pure ⟨rfl,h₃⟩
   | true=>
     exact wpAny_bind (wpAny_bind (wpAny_mono h₃ (fun x s₄ h₄=>wpAny_bind (wpAny_mono h₄ (fun _ s₅ h₅=>wpAny_pure (wpAny_pure ⟨rfl,h₅⟩)) fun _ _ h'=>h')) fun _ _ h'=>h'))
theorem setSto_head {sto:List (Addr×List V)} {D:Addr} {l l':List V} (h:∀x∈sto,x.1≠D):setSto ((D,l)::sto) D l'=(D,l')::sto:=by
 unfold setSto
 rw [List.map_cons]
 simp only [if_true]
 congr 1
 exact map_eq_self fun x hx=>by simp [h x hx]
abbrev kElt (D:Addr) (ys:List V) (sto:List (Addr×List V)) (Iv:Nat→List V→Prop) (i:Nat):V→St→Prop:=fun y st=>st.sto=(D,ys)::sto∧Iv (i+1) (ys++[y])
abbrev kTest (K:Kx) (c:Cx) (elt:Expr) (D:Addr) (ys:List V) (sto:List (Addr×List V)) (Iv:Nat→List V→Prop) (i:Nat):Bool→St→Prop:=fun b st=>match b with
 | true=>EV K c elt st (kElt D ys sto Iv i) NoX
 | false=>st.sto=(D,ys)::sto∧Iv (i+1) ys
abbrev kCT (K:Kx) (c:Cx) (ifs:List Expr) (elt:Expr) (D:Addr) (ys:List V) (sto:List (Addr×List V)) (Iv:Nat→List V→Prop) (i:Nat):St→Prop:=fun st=>EI K c ifs st (kTest K c elt D ys sto Iv i) NoX
inductive CLoop (K:Kx) (c:Cx) (D:Addr) (sto:List (Addr×List V)) (s₁:Shared) (m:Nat) (At:Nat→Heap→Prop) (Iv:Nat→List V→Prop) (n:Nat) (s':Shared):Prop
 | mk (i:Nat) (loc:List (Str×V)) (ys:List V) (hn:n=m -i) (hi:i≤m) (nx:Nx K c ⟨[],(D,[])::sto⟩ s₁ ⟨loc,(D,ys)::sto⟩ s') (at_:At i s'.heap) (iv:Iv i ys)
inductive QC (K:Kx) (c:Cx) (D:Addr) (sto:List (Addr×List V)) (s₁:Shared) (P:List V→Prop) (s':Shared):Prop
 | mk (loc:List (Str×V)) (ys:List V) (nx:Nx K c ⟨[],(D,[])::sto⟩ s₁ ⟨loc,(D,ys)::sto⟩ s') (q:P ys)
theorem comp_loop {elt target iter:Expr} {ifs:List Expr} {scope:Scope} {pos:Pos} {l:List V} {I D:Addr} {At:Nat→Heap→Prop} {good:List (Addr×List V)→Prop} {sto:List (Addr×List V)} (W:Wk K c.A l I At good) (hh:c.A.handled=none) (hlen:l.length≤100000)
 (Iv:Nat→List V→Prop) (hgood:∀ys,good ((D,ys)::sto)) (hD:∀x∈sto,x.1≠D) (hlist:∀i ys,Iv i ys→isC ys=false∧ys.length≤i)
 (turn:∀i v ys loc,l[i]?=some v→Iv i ys→TA K c target v ⟨loc,(D,ys)::sto⟩ (kCT K c ifs elt D ys sto Iv i) NoX)
 (hI:s₁.heap.get? I=none) (hIB:K.B.get? I=none) {loc₀:List (Str×V)} {s₀:Shared} (n₀:Nx K c ⟨[],(D,[])::sto⟩ s₁ ⟨loc₀,(D,[])::sto⟩ s₀) (hit:At 0 s₀.heap) (hz:Iv 0 []):
 codeAny K.M c.A (.compLoop (.ListComp elt [⟨target,iter,ifs,0⟩] scope pos) 0 (.ref I) (.ref D) c.env)
  (fun r s'=>match r with | .ok _=>QC K c D sto s₁ (Iv l.length) s' | .error _=>False) s₀:=by
 refine comp_turns (CLoop K c D sto s₁ l.length At Iv) (fun m s' ⟨i,loc,ys,hm,hi,n₂,hat,iv⟩=>?_) l.length ⟨0,loc₀,[],rfl,Nat.zero_le _,n₀,hit,hz⟩
 subst hm
 rcases Nat.lt_or_ge i l.length with hlt | hge
 ·have hv:l[i]?=some l[i]:=List.getElem?_eq_getElem hlt
  refine W.item i _ _ s' _ _ hv (hgood ys) n₂.r.g.base n₂.r.g.lists hat fun u h' tk iu hat' km=>?_
  obtain ⟨kp,st3⟩:=W.step (j:=i+1) hh n₂ hI hIB hat km
  have n₃:=(st3 hat').toks tk
  refine go_ok (s:={ s' with heap:=h',toks:=tk}) (W.obj _ _ hat') (wpAny_mono (turn i _ ys loc hv iv _ u n₃.r (iu.keep kp)) (fun _ s₄ ⟨st₄,m₄,q₄⟩=>?_) fun _ _ z=>z.no.elim)
  have hat4:At (i+1) s₄.heap:=W.stay m₄ n₃.r hat'
  refine wpAny_mono (q₄ s₄ m₄.r) (fun b s₅ ⟨st₅,m₅,q₅⟩=>?_) fun _ _ z=>z.no.elim
  have hat5:At (i+1) s₅.heap:=W.stay m₅ m₄.r hat4
  have n₅:=(n₃.trans m₄).trans m₅
  have on:∀{loc ys s},At (i+1) s.heap→Nx K c ⟨[],(D,[])::sto⟩ s₁ ⟨loc,(D,ys)::sto⟩ s→Iv (i+1) ys→∃m,m <l.length -i∧CLoop K c D sto s₁ l.length At Iv m s:=fun ha n q=>⟨l.length -(i+1),by refine' qs1 ‹_›,i+1,_,_,rfl,hlt,n,ha,q⟩
  obtain ⟨loc5,sto5⟩:=st₅
  cases b with
  | false=>
    obtain ⟨e5,iv5⟩:=q₅
    cases e5
    exact on hat5 n₅ iv5
  | true=>
    refine wpAny_mono (q₅ s₅ m₅.r) (fun y s₆ ⟨a,st₆,m₆,i₆,e6,iv6⟩=>?_) fun _ _ z=>z.no.elim
    obtain ⟨loc6,sto6⟩:=st₆
    cases e6
    obtain ⟨hcl,hle⟩:=hlist _ _ iv
    have key:=CF_append (K:=K) (c:=c) (st:=⟨loc6,(D,ys)::sto⟩) (Q:=fun _ st'=>st'=⟨loc6,(D,ys++[a])::sto⟩) (X:=NoX) (a:=D) (l:=ys) (v:=a) List.mem_cons_self hcl (by lia) (by rw [setSto_head hD])
    refine wpAny_mono (key s₆ _ [.ref D,y] [] m₆.r (.blt _) (.cons (.ref D) (.cons i₆ .nil)) .nil) (fun _ s₇ ⟨_,st₇,m₇,_,e7⟩=>?_) fun _ _ z=>z.no.elim
    subst e7
    exact on (W.stay m₇ m₆.r (W.stay m₆ m₅.r hat5)) ((n₅.trans m₆).trans m₇) iv6
 ·have hi':i=l.length:=Nat.le_antisymm hi hge
  subst hi'
  exact W.done _ s' _ _ (hgood ys) n₂.r.g.base n₂.r.g.lists hat fun h' tk km=>⟨loc,ys,(W.last hh n₂ hI hIB hat km).toks tk,iv⟩
structure Off (K:Kx) (c:Cx) (C:Addr) (h₁ h:Heap):Prop where
 dict:∃o es n,h.get? C=some o∧o.data=.dict es n
 ne:C≠c.L
 fr:∀env∈c.frs,env.frame≠some C
 base:K.B.get? C=none
 new:h₁.get? C=none
theorem Nx.butDict (n:Nx K c st s st₁ s₁) {h':Heap} {C:Addr} (O:Off K c C s.heap s₁.heap) (hs:Heap.SameBut C s₁.heap h'):Nx K c st s st₁ { s₁ with heap:=h'}:=by
 obtain ⟨oC,esC,nC,gC,dC⟩:=O.dict
 have is:∀{o},s₁.heap.get? C=some o→oC=o:=fun e=>Option.some.inj (gC.symm.trans e)
 have km:∀b o,b≠C→s₁.heap.get? b=some o→h'.get? b=some o:=fun b o hb e=>(hs.2 b hb).trans e
 refine ⟨n.r.but km O.base (fun o e f=>f.2 _ _ (is e▸dC)) (fun env he=>(n.r.g.ff env he).but km (O.fr env he)) (n.r.heldNot fun o vs e q=>nd_f q _ _ (is e▸dC)) (fun k y hy=>(n.r.g.lists y hy).km km (fun q=>?_) k) n.r.g.nod (fun _ t ht q=>?_) fun k=>n.r.loc.but km (fun q=>O.ne q.symm) k,⟨⟨fun b o e=>?_⟩,n.g.dom⟩⟩
 ·obtain ⟨_,g,_⟩:=n.r.g.lists y hy
  exact stoO_nd (is (q▸g)▸dC)
 ·obtain ⟨_,_,g,_⟩:=n.r.g.tabs t ht
  cases (is (q▸g)▸dC:(tabObj _).data=_)
 ·obtain ⟨o',e',k⟩:=n.g.ev.all b o e
  exact ⟨o',km b o' (fun q=>ne_some (q▸O.new) e) e',k⟩
inductive KComp (K:Kx) (c:Cx) (scope:Scope) (cl:List (Str×Addr)) (target:Expr) (ifs:List Expr) (elt:Expr) (P:Addr→List V→St→Prop) (a:V) (st:St):Prop
 | mk (l:List V) (good:List (Addr×List V)→Prop) (src:Src K c.A a l good) (hg:good st.sto) (hgood:∀D ys,good ((D,ys)::st.sto)) (hlen:l.length≤100000) (Iv:Nat→List V→Prop) (hz:Iv 0 []) (hlist:∀i ys,Iv i ys→isC ys=false∧ys.length≤i)
   (turn:∀C D i v ys loc,l[i]?=some v→Iv i ys→TA K (compCx c scope cl C) target v ⟨loc,(D,ys)::st.sto⟩ (kCT K (compCx c scope cl C) ifs elt D ys st.sto Iv i) NoX)
   (done:∀D ys,(∀x∈st.sto,x.1 <D)→Iv l.length ys→P D ys st)
theorem comp_inner {elt target iter:Expr} {ifs:List Expr} {scope:Scope} {pos:Pos} {cl:List (Str×Addr)} {a:V} {u:Value} {use:Option (Value→Sem Unit)} {Qv E:Value→Shared→Prop} {P:Addr→List V→St→Prop}
 (hh:c.A.handled=none) (hcell:(scope.names.all fun y=>y.2 != .cell)=true) (hkind:scope.kind=.function) (n₁:Nx K c st s st₁ s₁) (i₁:Is s₁.heap a u) (q:KComp K c scope cl target ifs elt P a st₁)
 (fin:∀D C ys s' m,P D ys st₁→Nx K c st₁ s₁ ⟨st₁.loc,(D,ys)::st₁.sto⟩ s'→s'.heap.Ns C m→Off K c C s₁.heap s'.heap→compPost K.M c.A E use Qv (.ref D) C (.ok .next) s'):
 wpAny K.M c.A (pyIter u) (fun it s₂=>wpAny K.M c.A (newList []) (fun acc s₃=>wpAny K.M c.A (newFunctionEnv scope c.env.globals cl [] c.env.qual none .none (some c.env)) (fun cenv s₄=>
  codeAny K.M c.A (.compStart (.ListComp elt [⟨target,iter,ifs,0⟩] scope pos) 0 it acc { cenv with scope:=relabel scope c.env}) (compPost K.M c.A E use Qv acc cenv.locals) s₄) E s₃) E s₂) E s₁:=by
 have r₁:=n₁.r
 obtain ⟨l,good,S,hgd,hgood,hlen,Iv,hz,hlist,turn,done⟩:=q
 refine S.start _ s₁ u _ _ hgd r₁.g.base r₁.g.lists i₁ fun I hI tkI At hIn W hat km=>?_
 refine wpAny_newObj_type (wpAny_newFunctionEnv (fun x hx=>by simpa using List.all_eq_true.mp hcell x hx) (by intro y hy;simp at hy) (fun h₁ hns₁ hsb₁=>?_) hkind)
 dsimp only at hns₁ hsb₁ ⊢
 generalize hH2:hI.push { cls:=.type "list",dict:=none,data:=.seq ([]:List Value).toArray}=H2 at hns₁ hsb₁ ⊢
 generalize hDe:hI.objs.size=D
 generalize hCe:H2.objs.size=C at hns₁ hsb₁ ⊢
 have hC:C=D+1:=by rw [←hCe,←hH2,Heap.size_push,hDe]
 have hDC:D <C:=hC▸Nat.lt_succ_self _
 have lt:∀b o,s₁.heap.get? b=some o→b <D:=fun b o e=>hDe▸Heap.lt_size (km b o e)
 have fresh:∀b,D≤b→s₁.heap.get? b=none:=fun b hb=>by
  cases e:s₁.heap.get? b with
  | none=>rfl
  | some o=>exact absurd (lt b o e) (Nat.not_lt.mpr hb)
 have hCn:=fresh C (Nat.le_of_lt hDC)
 have keep:KeepAll hI h₁:=fun b o e=>(hsb₁.2 b (Nat.ne_of_lt (Nat.lt_trans (hDe▸Heap.lt_size e) hDC))).trans (Heap.get?_push_of_some _ (hH2▸Heap.get?_push_of_some _ e))
 have old:KeepAll s₁.heap h₁:=fun b o e=>keep b o (km b o e)
 have ev:Ev K.C [] s₁.heap h₁:=.of_keep old
 have hgD:h₁.get? D=some (stoO [] [] 0):=(hsb₁.2 D (Nat.ne_of_lt hDC)).trans (Heap.get?_push_of_some _ (by rw [←hDe,←hH2];exact Heap.get?_push_size _ rfl))
 have hBD:K.B.objs.size≤D:=let ⟨_,_,_,e,_⟩:=r₁.dictL;Nat.le_trans r₁.above (Nat.le_of_lt (lt _ _ e))
 have hBC:K.B.objs.size≤C:=Nat.le_trans hBD (Nat.le_of_lt hDC)
 have hsto:∀x∈st₁.sto,x.1 <D:=fun x hx=>let ⟨_,g,_⟩:=r₁.g.lists x hx;lt _ _ g
 have hff:=r₁.g.ff.ev ev
 have hframes:∀env∈c.frs,env.frame≠some C:=fun env he q=>by
  obtain ⟨_,_,f1,_,g1,_⟩:=r₁.g.ff env he
  cases f1.symm.trans q
  exact ne_some hCn g1
 have hCL:C≠c.L:=fun q=>let ⟨_,_,_,e,_⟩:=r₁.dictL;ne_some (q▸hCn) e
 have no:∀a:Addr,a∉([]:List Addr):=fun _ q=>nomatch q
 have r':Rel K (compCx c scope cl C) ⟨[],(D,[])::st₁.sto⟩ { s₁ with heap:=h₁,toks:=tkI+([]:List (Str×Value)).length}:=by
  refine ⟨⟨fun b o e=>old b o (r₁.g.base b o e),r₁.g.gens,r₁.g.os,fun env he=>?_,fun x hx=>?_,?_,fun e q b=>(r₁.g.held e q b).ev ev (no _),fun t ht=>(r₁.g.tabs t ht).at' ev (no _) ev.kp⟩,
   ⟨r₁.ok.frames,r₁.ok.tp,r₁.ok.frame,rfl,hkind,r₁.ok.globals,r₁.ok.builtins,fun hm=>?_,r₁.ok.handled⟩,⟨hns₁,fun x v e=>nomatch e⟩⟩
  ·rcases List.mem_cons.mp he with rfl | he
   ·obtain ⟨_,_,f1,lo,g1,d⟩:=hff c.env List.mem_cons_self
    exact ⟨by show scope.kind≠_;rw [hkind];nofun,hBC,f1,lo,g1,d⟩
   ·exact hff env (List.mem_cons_of_mem _ he)
  ·rcases List.mem_cons.mp hx with rfl | hx
   ·exact .mk (vs:=[]) (n:=0) (Heap.get?_none_of_le hBD) hgD .nil
   ·exact (r₁.g.lists x hx).ev ev (no _) ev.kp
  ·exact List.nodup_cons.mpr ⟨fun hm=>let ⟨x,hx,e⟩:=List.mem_map.mp hm;Nat.lt_irrefl _ (e▸hsto x hx),r₁.g.nod⟩
  ·obtain ⟨env,he,hf⟩:=List.mem_filterMap.mp hm
   exact hframes env (List.mem_cons_of_mem _ (List.mem_cons_of_mem _ he)) hf
 have hat1:At 0 h₁:=let ⟨ho,_,_,_⟩:=W.obj _ _ hat;W.frame _ _ _ hat (fun b o e _=>keep b o e) ((keep _ _ ho).trans ho.symm)
 have loop:=comp_loop (K:=K) (c:=compCx c scope cl C) (elt:=elt) (target:=target) (iter:=iter) (ifs:=ifs) (scope:=scope) (pos:=pos) (D:=D) (s₁:=s₁) (sto:=st₁.sto) W hh hlen Iv (hgood D) (fun x hx=>Nat.ne_of_lt (hsto x hx)) hlist
  (fun i v ys loc hv iv=>turn C D i v ys loc hv iv) hIn (r₁.newB hIn) ⟨r',⟨ev.wide,fun _ q=>.inl q⟩⟩ hat1 hz
 have loop2:=codeAny_mono loop (R':=compPost K.M c.A E use Qv (.ref D) C) fun r s' hr=>by
  cases r with
  | error x=>exact hr.elim
  | ok f=>
    obtain ⟨loc,ys,nn,iv⟩:=hr
    have hcL:c.L∉C::(D::st₁.sto.map (·.1)++tadr K):=fun hm=>(List.mem_cons.mp hm).elim (fun q=>hCL q.symm) fun hm=>(List.mem_cons.mp hm).elim
     (fun q=>let ⟨_,_,_,e,_⟩:=r₁.dictL;ne_some (q▸fresh D (Nat.le_refl _)) e) r₁.notOwn
    have g':Go K c.L (adr st₁) (D::adr st₁) s₁.heap s'.heap:=by
     refine ⟨nn.g.ev.mono fun b hb=>?_,fun b hb=>(List.mem_cons.mp hb).elim (fun e=>.inr (e▸fresh D (Nat.le_refl _))) .inl⟩
     rcases List.mem_cons.mp hb with rfl | hb
     ·exact .inr hCn
     ·rcases List.mem_cons.mp hb with rfl | hb
      ·exact .inr (fresh _ (Nat.le_refl _))
      ·exact .inl (List.mem_cons_of_mem _ hb)
    obtain ⟨hnC,_⟩:=nn.r.loc
    have rc:Rel K c ⟨st₁.loc,(D,ys)::st₁.sto⟩ s':=⟨{ nn.r.g with ff:=r₁.g.ff.re nn.r.g.ff.tail r₁.ok.tp},r₁.ok,r₁.loc.ev nn.g.ev hcL (g'.keeps r₁)⟩
    have:=fin D C ys s' _ (done D ys hsto iv) ⟨rc,g'⟩ hnC ⟨nn.r.dictL,hCL,hframes,Heap.get?_none_of_le hBC,hCn⟩
    cases use<;>exact this
 exact codeAny_compStart_list loop2 (W.self 0 _ _ _ hat1 loop2)
theorem nm_ok {scope:Scope} (h:(scope.names.all fun y=>y.2 != .local||scope.names.lookup y.1==some .local)=true):∀y∈scope.names,y.2=.local→scope.names.lookup y.1=some .local:=fun y hy hl=>by
 have:=List.all_eq_true.mp h y hy
 rw [hl] at this
 simpa using this
abbrev kRefC (Q:V→St→Prop):Addr→List V→St→Prop:=fun D ys st=>Q (.ref D) ⟨st.loc,(D,ys)::st.sto⟩
theorem EV_comp {elt target iter:Expr} {ifs:List Expr} {scope:Scope} {pos:Pos} (cl:List (Str×Addr)) (hh:c.A.handled=none) (hclos:closureFor scope c.env=pure cl)
 (h:EV K c iter st (KComp K c scope cl target ifs elt (kRefC Q)) X)
 (hcell:(scope.names.all fun y=>y.2 != .cell)=true:=by kernel_rfl!) (hkind:scope.kind=.function:=by kernel_rfl!)
 (hnames:(scope.names.all fun y=>y.2 != .local||scope.names.lookup y.1==some .local)=true:=by kernel_rfl!)
 (hs:∀x,foldedSetIterable iter c.env x=pure x:=by intro _;with_unfolding_all rfl):EV K c (.ListComp elt [⟨target,iter,ifs,0⟩] scope pos) st Q X:=fun s r=>by
 show wpAny _ _ (eval (.ListComp elt [⟨target,iter,ifs,0⟩] scope pos) c.env) _ _ s
 rw [eval_ListComp]
 exact wpAny_comprehension_free (use:=none) rfl hs hclos hkind (nm_ok hnames) (h.go (.refl r) fun u s₁ a st₁ n₁ _ i₁ q=>comp_inner hh hcell hkind n₁ i₁ q fun D C ys s' m q nc hn off=>
  ⟨m,hn,fun h' hs'=>⟨.ref D,_,n₁.trans (nc.butDict off hs'),.ref D,q⟩⟩)
abbrev kSetC (x:Str) (R:Fl→St→Prop):Addr→List V→St→Prop:=fun D ys st=>R .next ⟨(x,.ref D)::st.loc,(D,ys)::st.sto⟩
theorem ES_comp {x:Str} {px spos:Pos} {elt target iter:Expr} {ifs:List Expr} {scope:Scope} {pos:Pos} (cl:List (Str×Addr)) (hh:c.A.handled=none) (hclos:closureFor scope c.env=pure cl)
 (h:EV K c iter st (KComp K c scope cl target ifs elt (kSetC x R)) X)
 (hk:c.env.kindOf x=some .local:=by kernel_rfl!)
 (hsw:swapsWith (.ListComp elt [⟨target,iter,ifs,0⟩] scope pos) (some (.Name x px)) spos.line c.env=pure true:=by kernel_rfl!)
 (hcell:(scope.names.all fun y=>y.2 != .cell)=true:=by kernel_rfl!) (hkind:scope.kind=.function:=by kernel_rfl!)
 (hnames:(scope.names.all fun y=>y.2 != .local||scope.names.lookup y.1==some .local)=true:=by kernel_rfl!)
 (hs:∀x,foldedSetIterable iter c.env x=pure x:=by intro _;with_unfolding_all rfl):ES K c (.Assign [.Name x px] (.ListComp elt [⟨target,iter,ifs,0⟩] scope pos) spos) st R X:=fun s r=>by
 show wpAny _ _ (exec (.Assign [.Name x px] (.ListComp elt [⟨target,iter,ifs,0⟩] scope pos) spos) c.env) _ _ s
 rw [exec_Assign_Name_used _ _ _ _ hsw]
 refine wpAny_bind (wpAny_standAt (wpAny_bind ?_))
 show wpAny _ _ (do let _ ←comprehension (.ListComp elt [⟨target,iter,ifs,0⟩] scope pos) scope c.env _ (newList []) false (eval iter c.env) (some (assign (.Name x px) c.env))) _ _ s
 refine wpAny_bind (wpAny_mono (wpAny_comprehension_free (use:=some (assign (.Name x px) c.env)) (Q:=fun _ s'=>QF K c st s R .next s') rfl hs hclos hkind (nm_ok hnames)
  (h.go (.refl r) fun u s₁ a st₁ n₁ _ i₁ q=>comp_inner hh hcell hkind n₁ i₁ q fun D C ys s' m q nc hn off=>?_)) (fun _ _ z=>wpAny_pure (wpAny_pure z)) fun _ _ z=>z)
 refine PyProof.Rows.assign_Name (store_ok (.refl nc.r) (.ref D) hk fun s₂ n₂ _=>?_)
 have hCn:C∉c.L::(adr (⟨st₁.loc,(D,ys)::st₁.sto⟩:St)++tadr K):=fun hm=>by
  obtain ⟨oC,es,n,gC,dC⟩:=off.dict
  have no:∀{o},s'.heap.get? C=some o→o.data=.dict es n:=fun e=>Option.some.inj (gC.symm.trans e)▸dC
  refine mem3 hm off.ne (fun hm=>?_) fun hm=>?_
  ·obtain ⟨y,hy,e⟩:=List.mem_map.mp hm
   obtain ⟨_,e1,_⟩:=nc.r.g.lists y hy
   exact stoO_nd (no (e▸e1))
  ·obtain ⟨y,hy,e⟩:=List.mem_map.mp hm
   obtain ⟨_,_,e1,_⟩:=nc.r.g.tabs y hy
   cases no (e▸e1)
 have hn₂:=ns_ev hn n₂.g.ev hCn
 obtain ⟨o,es,ep,g,d,_⟩:=id hn₂
 exact ⟨m,hn₂,fun h' hs'=>⟨.next,_,n₁.trans ((nc.trans n₂).butDict ⟨⟨o,es,ep,g,d⟩,off.ne,off.fr,off.base,off.new⟩ hs'),.next,q⟩⟩
end
end
end
section
open PySem PySem.Builtin PySem.Builtin.Str PySem.StrLaws
theorem occ_full (x:Str) (c hi:Nat) (h:hi≤x.length):occurrences x ⟨#[c]⟩ 0 hi (x.length+1)=(List.range' 0 (hi+1)).filter (hits x ⟨#[c]⟩ hi):=by
 rw [occ_eq,occA_go x c hi _ _ _ (by simp) (by simpa using List.pairwise_lt_range') (by simp;assumption)]
 simp
theorem getLast_filter {α:Type} (p:α→Bool) (l:List α):(l.filter p).getLast?=l.reverse.find? p:=by
 rw [←List.head?_reverse,←List.filter_reverse,List.head?_filter]
theorem kind_pos (x:Str):1≤PySem.Builtin.Str.strKind x:=by
 unfold PySem.Builtin.Str.strKind
 split
 ·exact Nat.le_refl 1
 ·split<;>decide
theorem tw_all {α:Type} {p:α→Bool}:∀{l:List α},(∀a∈l,p a=true)→l.takeWhile p=l
 | [],_=>rfl
 | a::l,h=>by rw [List.takeWhile_cons,if_pos (h a List.mem_cons_self),tw_all fun b hb=>h b (List.mem_cons_of_mem _ hb)]
theorem tw_mem {α:Type} {p:α→Bool}:∀{l:List α} {a:α},a∈l.takeWhile p→p a=true
 | [],_,h=>by simp at h
 | b::l,a,h=>by
   rw [List.takeWhile_cons] at h
   split at h
   ·rcases List.mem_cons.mp h with rfl | h
    ·assumption
    ·exact tw_mem h
   ·simp at h
theorem tail1_none (c:Nat) (l:List Nat) (h:l.count c=0):tail1 c l=l.length:=by
 unfold tail1
 have:∀a∈l.reverse,(a != c)=true:=fun a ha=>by
  have hn:c∉l:=List.count_eq_zero.mp h
  simp only [bne_iff_ne,ne_eq]
  rintro rfl
  exact hn (List.mem_reverse.mp ha)
 rw [tw_all this,List.length_reverse]
theorem split_nl (x:Str):(Txt.split x ⟨#[10]⟩).length=(L x).count 10+1∧(∃z,(Txt.split x ⟨#[10]⟩).getLast?=some z∧z.length=tail1 10 (L x))∧(∀z∈Txt.split x ⟨#[10]⟩,z.length≤x.length)∧
 (partsBetween x (occurrences x ⟨#[10]⟩ 0 x.length (x.length+1)) 1).length≤x.length+1:=by
 have hcnt:=occ_count x 10 x.length (Nat.le_refl _)
 have hL:(L x).length=x.length:=L_length x
 rw [show (L x).take x.length=L x from List.take_of_length_le (by refine' Nat.le_of_eq ‹_›)] at hcnt
 have hcl:(L x).count 10≤x.length:=by rw [←hL];exact List.count_le_length
 have hpl:(partsBetween x (occurrences x ⟨#[10]⟩ 0 x.length (x.length+1)) 1).length=(L x).count 10+1:=by
  unfold partsBetween
  simp [hcnt]
 have sub_len:∀i j,(strSub x i j).length≤x.length:=fun i j=>by
  show (x.cps.extract i j).size≤x.cps.size
  rw [Array.size_extract];refine' Nat.le_trans (Nat.sub_le _ _) (Nat.min_le_right _ _)
 have pos:1≤PySem.Builtin.Str.strKind x:=kind_pos x
 have k10:PySem.Builtin.Str.strKind ⟨#[10]⟩=1:=by decide+kernel
 refine ⟨?_,?_,?_,by rw [hpl];refine' Nat.succ_le_succ ‹_›⟩
 all_goals
  unfold Txt.split
  rw [k10]
  have hk:decide (PySem.Builtin.Str.strKind x <1)=false:=decide_eq_false (by refine' Nat.not_lt_of_le ‹_›)
  rw [hk,Bool.or_false]
  show _
 ·split
  ·rename_i h
   have h:x.length <1:=of_decide_eq_true h
   have:L x=[]:=List.eq_nil_of_length_eq_zero (by lia)
   rw [this];rfl
  ·split
   ·rename_i h
    have:(occurrences x ⟨#[10]⟩ 0 x.length (x.length+1)).length=0:=by simpa using h
    rw [←hcnt,this];rfl
   ·exact hpl
 ·split
  ·rename_i h
   have h:x.length <1:=of_decide_eq_true h
   have:L x=[]:=List.eq_nil_of_length_eq_zero (by lia)
   exact ⟨x,rfl,by rw [this];show x.length=0;lia⟩
  ·split
   ·rename_i h
    have h0:(occurrences x ⟨#[10]⟩ 0 x.length (x.length+1)).length=0:=by simpa using h
    exact ⟨x,rfl,by rw [tail1_none 10 (L x) (by rw [←hcnt,h0])];exact hL.symm⟩
   ·rename_i h1 h2
    have hne:(L x).count 10≠0:=fun e=>h2 (by
     have:(occurrences x ⟨#[10]⟩ 0 x.length (x.length+1)).length=0:=by rw [hcnt,e]
     simpa using this)
    have hlast:=last_one x 10 x.length (Nat.le_refl _) (by rw [show (L x).take x.length=L x from List.take_of_length_le (by refine' Nat.le_of_eq ‹_›)];exact hne)
    rw [show (L x).take x.length=L x from List.take_of_length_le (by refine' Nat.le_of_eq ‹_›)] at hlast
    have e1:(occurrences x ⟨#[10]⟩ 0 x.length (x.length+1)).getLast?=some (x.length -1 -tail1 10 (L x)):=by
     rw [occ_full x 10 x.length (Nat.le_refl _),getLast_filter,←hlast,last_eq,last_go]
     simp
    have ht:tail1 10 (L x)≤x.length -1:=by
     have hmem:(x.length -1 -tail1 10 (L x))∈occurrences x ⟨#[10]⟩ 0 x.length (x.length+1):=List.mem_of_getLast? e1
     have hle:tail1 10 (L x)≤(L x).length:=by
      unfold tail1
      refine Nat.le_trans (List.takeWhile_sublist _).length_le ?_
      simp
     rcases Nat.lt_or_ge (tail1 10 (L x)) (L x).length with q | q
     ·lia
     ·exfalso
      have hall:(L x).reverse.takeWhile (· != 10)=(L x).reverse:=(List.takeWhile_sublist _).eq_of_length_le (by rw [List.length_reverse];exact q)
      refine hne (List.count_eq_zero.mpr fun hm=>?_)
      have:=tw_mem (p:=(· != 10)) (l:=(L x).reverse) (a:=10) (by rw [hall];exact List.mem_reverse.mpr hm)
      simp at this
    obtain ⟨init,hinit⟩:=List.getLast?_eq_some_iff.mp e1
    refine ⟨strSub x (x.length -1 -tail1 10 (L x)+1) x.length,?_,?_⟩
    ·unfold partsBetween
     rw [hinit]
     show ((List.zip (0::(init++[_]).map (·+Str.length ⟨#[10]⟩)) ((init++[_])++[x.length])).map _).getLast?=_
     rw [List.map_append,←List.cons_append,List.zip_append (by simp),List.map_append]
     simp
     rfl
    ·show (x.cps.extract _ _).size=_
     rw [Array.size_extract]
     have e:x.cps.size=x.length:=rfl
     have h0:1≤x.length:=Nat.le_of_not_lt fun q=>h1 (decide_eq_true q)
     clear hlast hinit e1 hne hcnt hcl hpl sub_len pos hk hL
     rw [e,Nat.min_self]
     generalize tail1 10 (L x)=t at *
     rw [show x.length -1 -t+1=x.length -t by refine' r2 ‹_› ‹_›,Nat.sub_sub_self (Nat.le_trans ht (Nat.sub_le ..))]
 ·split
  ·intro z hz;rcases List.mem_singleton.mp hz with rfl;exact Nat.le_refl _
  ·split
   ·intro z hz;rcases List.mem_singleton.mp hz with rfl;exact Nat.le_refl _
   ·intro z hz
    unfold partsBetween at hz
    obtain ⟨p,_,rfl⟩:=List.mem_map.mp hz
    exact sub_len _ _
end
section
open PySem PySem.W PySem.Calls PyProof.Rows PySem.Builtin PySem.Builtin.Str PySem.SeqAt
set_option maxRecDepth 100000
section
theorem seq_list_iadd:seqSlot? (.type "list") (dunderI "add")=pure (some (.builtin "list.__iadd__")):=PySem.seqSlot_of F.slot_list_iadd.lookup (by decide+kernel)
theorem nofi_list_iadd:fillsInplaceSlot (.type "list") "add" true=pure false:=by
 unfold fillsInplaceSlot
 show (typeLookup (.type "list") (dunderI "add") >>= fun fi=>pure (fi.isSome&&!isSeqSlot fi))=pure false
 rw [F.slot_list_iadd.lookup]
 rfl
noncomputable abbrev strV (l:List (List Nat)):List V:=l.map fun x=>V.str ⟨x.toArray⟩
section
variable {A:Around} {s:Shared} {h:Heap} {l m:List (List Nat)} {vs us:List Value} {v u:Value}
inductive StrAt (l:List (List Nat)) (j:Nat):Value→Prop
 | mk {x:List Nat} {t:Tok} (e:l[j]?=some x):StrAt l j (.str ⟨x.toArray⟩ t)
theorem strAt (i:IsL h (strV l) vs) (j:Nat) (h1:j <vs.toArray.size):StrAt l j vs.toArray[j]:=by
 have h2:j <l.length:=by rw [←List.length_map (as:=l) fun x=>V.str ⟨x.toArray⟩,i.length];exact h1
 obtain ⟨v,e,iv⟩:=i.get j _ (by rw [List.getElem?_map,List.getElem?_eq_getElem h2];rfl)
 obtain ⟨t,rfl,_⟩:=iv.inv
 have e2:vs.toArray[j]=.str ⟨l[j].toArray⟩ t:=Option.some.inj ((List.getElem?_eq_getElem (l:=vs) h1).symm.trans e)
 exact e2▸⟨List.getElem?_eq_getElem h2⟩
theorem eqAt_strs (i:IsL s.heap (strV l) vs) (k:IsL s.heap (strV m) us) (j:Nat) (h1:j <vs.toArray.size) (h2:j <us.toArray.size):EqAt A s vs.toArray[j] us.toArray[j] (l[j]?==m[j]?):=by
 generalize hx:vs.toArray[j]=x
 generalize hy:us.toArray[j]=y
 cases hx▸strAt i j h1 with
 | mk e1=>
 cases hy▸strAt k j h2 with
 | mk e2=>
 rw [e1,e2,Option.some_beq_some]
 exact (str_beq (x:=⟨_⟩) (y:=⟨_⟩)).symm▸EqAt.str_str _ _ _ _
theorem all_eq:((List.range (min l.length m.length)).all (fun j=>l[j]?==m[j]?)&&l.length==m.length)=(l==m):=by
 rw [Bool.eq_iff_iff]
 simp only [Bool.and_eq_true,List.all_eq_true,List.mem_range,beq_iff_eq]
 refine ⟨fun ⟨h,hl⟩=>List.ext_getElem? fun i=>?_,fun h=>h▸⟨fun _ _=>rfl,rfl⟩⟩
 rcases Nat.lt_or_ge i (min l.length m.length) with q | q
 ·exact h i q
 ·rw [List.getElem?_eq_none (by lia),List.getElem?_eq_none (by lia)]
theorem isL_strs_inj (i:IsL h (strV l) vs) (k:IsL h (strV m) vs):l=m:=by
 induction l generalizing m vs with
 | nil=>cases m with | nil=>rfl | cons=>cases isl0 i;cases k.length
 | cons x l ih=>
   cases m with
   | nil=>cases isl0 k;cases i.length
   | cons y m=>
     obtain ⟨i1,il⟩:=i.c
     obtain ⟨k1,kl⟩:=k.c
     obtain ⟨t,rfl,_⟩:=i1.inv
     obtain ⟨t',e,_⟩:=k1.inv
     cases e
     exact congrArg _ (ih il kl)
theorem tup_same {a:Addr} {x y:Array Value} (hx:IsTup h a x) (hy:IsTup h a y):x=y:=by
 obtain ⟨o,e,_,n,d⟩:=hx
 obtain ⟨o',e',_,n',d'⟩:=hy
 cases e.symm.trans e';cases d.symm.trans d';rfl
theorem rcAt_tups (hu:A.units+1 <cLine) (i:Is s.heap (.tup (strV l)) v) (j:Is s.heap (.tup (strV m)) u):RcAt A s v u (l==m):=by
 obtain ⟨a,vs,rfl,ht,il⟩:=i.inv
 obtain ⟨b,us,rfl,hb,ib⟩:=j.inv
 have e1:vs.toArray.size=l.length:=il.length.symm.trans (List.length_map _)
 have e2:us.toArray.size=m.length:=ib.length.symm.trans (List.length_map _)
 have:=RcAt.tuples (A:=A) (s:=s) (e:=fun j=>l[j]?==m[j]?) ht hb (by refine' qL0 ‹_›) (eqAt_strs (A:=A.in1) il ib)
 rwa [e1,e2,all_eq] at this
theorem eqAt_tups (hu:A.units+1 <cLine) (i:Is s.heap (.tup (strV l)) v) (j:Is s.heap (.tup (strV m)) u):EqAt A s v u (l==m):=by
 have key:=rcAt_tups hu i j
 obtain ⟨a,vs,rfl,ht,il⟩:=i.inv
 obtain ⟨b,us,rfl,hb,ib⟩:=j.inv
 by_cases q:a=b
 ·subst q
  cases tup_same ht hb
  cases isL_strs_inj il ib
  rw [beq_self_eq_true]
  exact EqAt.same _
 ·exact EqAt.of_refs q key
noncomputable abbrev rowV (r:List (List Nat)×List Nat):V:=.tup [.tup (strV r.1),.str ⟨r.2.toArray⟩]
theorem eqAt_str {a:V} (h:∃x,a=.str x) (i:Is s.heap a v) (j:Is s.heap a u):EqAt A s v u true:=by
 obtain ⟨x,rfl⟩:=h
 obtain ⟨t1,rfl,_⟩:=i.inv
 obtain ⟨t2,rfl,_⟩:=j.inv
 have:=EqAt.str_str (A:=A) (s:=s) x t1 x t2
 rwa [beq_self_eq_true] at this
theorem eqAt_row {r:List (List Nat)×List Nat} (hu:A.units+3 <cLine) (i:Is s.heap (rowV r) v) (j:Is s.heap (rowV r) u):EqAt A s v u true:=by
 obtain ⟨a,vs,rfl,ht,il⟩:=i.inv
 obtain ⟨b,us,rfl,hb,ib⟩:=j.inv
 by_cases q:a=b
 ·subst q;exact EqAt.same _
 ·obtain ⟨v1,v2,rfl,i1,i2⟩:=isl2 il
  obtain ⟨u1,u2,rfl,j1,j2⟩:=isl2 ib
  have k0:=eqAt_tups (A:=A.in1) (by show A.units+1+1 <_;refine' qL2 ‹_› (by nofun)) i1 j1
  rw [beq_self_eq_true] at k0
  exact EqAt.of_refs q (RcAt.tuples (A:=A) (s:=s) (e:=fun _=>true) ht hb (by refine' qL0 ‹_›) fun j h1 h2=>match j,h1,h2 with
   | 0,_,_=>k0
   | 1,_,_=>eqAt_str ⟨_,rfl⟩ i2 j2)
theorem eqAt_list {P:V→Prop} (hP:∀a v u,P a→Is s.heap a v→Is s.heap a u→EqAt A s v u true) {l:List V} (h:∀a∈l,P a) (il:IsL s.heap l vs) (ib:IsL s.heap l us) (j:Nat) (h1:j <vs.toArray.size) (h2:j <us.toArray.size):EqAt A s vs.toArray[j] us.toArray[j] true:=by
 have h3:j <l.length:=il.length▸h1
 obtain ⟨v,e,iv⟩:=il.get j _ (List.getElem?_eq_getElem h3)
 obtain ⟨u,e',iu⟩:=ib.get j _ (List.getElem?_eq_getElem h3)
 have e1:vs.toArray[j]=v:=Option.some.inj ((List.getElem?_eq_getElem (l:=vs) h1).symm.trans e)
 have e2:us.toArray[j]=u:=Option.some.inj ((List.getElem?_eq_getElem (l:=us) h2).symm.trans e')
 rw [e1,e2]
 exact hP _ _ _ (h _ (List.getElem_mem h3)) iv iu
end
section
variable {K:Kx} {c:Cx} {st:St} {Q:V→St→Prop} {X:Xc→St→Prop} {R:Fl→St→Prop} {T:Bool→St→Prop} {s:Shared}
theorem Op_eq_tups {l m:List (List Nat)} (hu:c.A.units+1 <cLine) (h:Q (.bool (l==m)) st):Op2 K c (compareOp .Eq) (.tup (strV l)) (.tup (strV m)) st Q X:=fun s v u r i j=>
 rcAt_tups hu i j K.prog K.w _ _ (QV.now r (.bool _) h rfl)
theorem Op_eq_tup_none {l:List V} (hu:c.A.units+1 <cLine) (h:Q (.bool false) st):Op2 K c (compareOp .Eq) (.tup l) .none st Q X:=.xn fun s v r i=>
 let ⟨_,_,e,ht,_⟩:=i.inv;e▸RcAt.tuple_none ht (by refine' qL0 ‹_›) K.prog K.w _ _ (QV.now r (.bool _) h rfl)
theorem isL_of {h:Heap} {a:Addr} {vs:List Value} {n:Nat} (g:h.get? a=some { cls:=.type "list",data:=.seq vs.toArray n}):h.IsList a vs.toArray:=⟨_,g,rfl,n,rfl⟩
theorem Op_eq_nil {a b:Addr} {l:List V} (hu:c.A.units+1 <cLine) (ha:(a,l)∈st.sto) (hl:isC l=false) (hb:(b,[])∈st.sto) (h:Q (.bool (l.length==0)) st):Op2 K c (compareOp .Eq) (.ref a) (.ref b) st Q X:=.rr fun s r=>by
 obtain ⟨vs,n,g,il⟩:=own_list r ha hl
 obtain ⟨us,n2,g2,ib⟩:=own_list r hb rfl
 cases isl0 ib
 cases hz:(l.length==0) with
 | true=>
   rw [hz] at h
   cases List.eq_nil_of_length_eq_zero (eq_of_beq hz)
   cases isl0 il
   exact eq_listAt (e:=fun _=>true) (isL_of g) (isL_of g2) rfl (by refine' qL0 ‹_›) (fun j h1 _=>absurd h1 (Nat.not_lt_zero _)) (QV.now r (.bool _) h rfl)
 | false=>
   rw [hz] at h
   exact eq_list_lengthsAt (isL_of g) (isL_of g2) (by rw [List.size_toArray,←il.length];exact bne_iff_ne.mpr (ne_of_beq_false hz)) (by refine' qL0 ‹_›) (QV.now r (.bool _) h rfl)
theorem Op_eq_lists {a b:Addr} {l:List V} {P:V→Prop} (hu:c.A.units+5 <cLine) (ha:(a,l)∈st.sto) (hl:isC l=false) (hb:(b,l)∈st.sto) (hP:∀s a v u,P a→Is s.heap a v→Is s.heap a u→EqAt c.A.in1 s v u true) (hPl:∀x∈l,P x) (h:Q (.bool true) st):Op2 K c (compareOp .Eq) (.ref a) (.ref b) st Q X:=.rr fun s r=>by
 obtain ⟨vs,n,g,il⟩:=own_list r ha hl
 obtain ⟨us,n2,g2,ib⟩:=own_list r hb hl
 refine eq_listAt (e:=fun _=>true) (isL_of g) (isL_of g2) (il.length.symm.trans ib.length) (by refine' qL0 ‹_›) (eqAt_list (hP s) hPl il ib) ?_
 rw [show (List.range vs.toArray.size).all (fun _=>true)=true from by simp]
 exact QV.now r (.bool _) h rfl
theorem Op_in_strs {a:Addr} {x:List Nat} {l:List (List Nat)} (hm:(a,strV l)∈st.sto) (hl:isC (strV l)=false) (h:Q (.bool (l.any fun y=>y==x)) st):Op2 K c (compareOp .In) (.str ⟨x.toArray⟩) (.ref a) st Q X:=.sr fun s t r=>by
 obtain ⟨vs,n,g,il⟩:=own_list r hm hl
 refine in_listAt (fun y=>match y with | .str z _=>z==⟨x.toArray⟩ | _=>false) (items:=vs.toArray) (isL_of g) (fun y hy=>?_) ?_
 ·obtain ⟨j,hj,e⟩:=List.getElem_of_mem (List.mem_toArray.mp hy)
  cases e▸strAt il j hj with
  | mk e=>exact EqAt.str_str _ _ ⟨x.toArray⟩ t
 ·refine QV.now r (.bool _) ?_ rfl
  have key:∀{l:List (List Nat)} {vs:List Value},IsL s.heap (strV l) vs→vs.any (fun y=>match y with | .str z _=>z==⟨x.toArray⟩ | _=>false)=l.any fun y=>y==x:=by
   intro l
   induction l with
   | nil=>intro vs i;rw [isl0 i];rfl
   | cons b l ih=>
     intro vs i
     obtain ⟨hv,hl⟩:=i.c
     obtain ⟨t,rfl,_⟩:=hv.inv
     rw [List.any_cons,ih hl,List.any_cons]
     exact congrArg (·||_) (str_beq ..).symm
  rw [List.any_toArray,key il]
  exact h
theorem Op_add_list {a b:Addr} {l m:List V} (ha:(a,l)∈st.sto) (hla:isC l=false) (hb:(b,m)∈st.sto) (hlb:isC m=false) (hsz:l.length+m.length≤100000) (h:∀D,D∉adr st→Q (.ref D) ⟨st.loc,(D,l++m)::st.sto⟩):Op2 K c (binaryOp .Add) (.ref a) (.ref b) st Q X:=.rr fun s r=>by
 obtain ⟨vs,n,g,il⟩:=own_list r ha hla
 obtain ⟨us,n2,g2,ib⟩:=own_list r hb hlb
 refine PySem.P.add_list g g2 ?_ (by rw [List.size_toArray,List.size_toArray,←il.length,←ib.length,sizeLine_eq];refine' qN ‹_› (by nofun))
 rw [List.append_toArray]
 obtain ⟨h1,h2⟩:=(Nx.refl r).new (k:=s.toks) (il.append ib)
 exact ⟨.ref _,_,h2,.ref _,h _ h1⟩
theorem Op_iadd_list {a b:Addr} {l m:List V} (ha:(a,l)∈st.sto) (hla:isC l=false) (hb:(b,m)∈st.sto) (hlb:isC m=false) (hsz:l.length+m.length≤100000) (h:Q (.ref a) ⟨st.loc,setSto st.sto a (l++m)⟩):Op2 K c (inplaceOp .Add) (.ref a) (.ref b) st Q X:=.rr fun s r=>by
 obtain ⟨vs,n,g,il⟩:=own_list r ha hla
 obtain ⟨us,n2,g2,ib⟩:=own_list r hb hlb
 have sz:=sizeLine_eq
 have hsz':vs.toArray.size+us.toArray.size≤100000:=by rw [List.size_toArray,List.size_toArray,←il.length,←ib.length];exact hsz
 have ta:s.TypeIs (.ref a) "list":=⟨_,g,rfl⟩
 unfold inplaceOp
 refine wpAny_holding (wpAny_bind (wpAny_typeOf ta (wpAny_bind (wpAny_of_eq nofi_list_iadd ?_))))
 show wpAny _ _ (if false=true then _ else _) _ _ s
 rw [if_neg Bool.false_ne_true]
 refine wpAny_bind (wpAny_binaryOp1_none (nm:="add") ta ⟨_,g2,rfl⟩ noFill_list_add (wpAny_bind (wpAny_of_eq seq_list_iadd (wpAny_bind (wpAny_rule ?_)))))
 refine (call_meets F.slot_list_iadd ta F.entry_list_iadd (F.args_list_iadd_2 _ _) (AutoSeq1.list___iadd___list_list_0 a vs.toArray n b us.toArray n2 (fun q=>?_) (by lia) (by refine' qN ‹_› (by nofun))) ⟨g,g2,?_⟩)
 ·have:=of_decide_eq_true (Bool.and_eq_true_iff.mp q).2
  lia
 ·have c':isC (l++m)=false:=isC_of (il.append ib)
  have e:(s.heap.update a (Obj.mapSeq fun x=>x++us.toArray)).get? a=some { cls:=.type "list",data:=.seq (vs++us).toArray _}:=(Heap.get?_update_self _ g rfl).trans (by rw [←List.append_toArray];rfl)
  exact ⟨.ref a,_,r.setOwn ha (Heap.SameBut.update ..) ((stoO_of c').symm▸e) (fun kp=>(stoL_of c').symm▸(il.keep kp).append (ib.keep kp)),.ref _,h⟩
end
end
section
noncomputable def hole2:List Nat→Option Nat
 | []=>none
 | a::r=>if a=36∧r.head?=some 123 then some 0 else (hole2 r).map (·+1)
theorem hole2_lt:∀{l:List Nat} {k:Nat},hole2 l=some k→k+2≤l.length
 | a::r,k,h=>by
   rw [hole2] at h
   split at h
   ·rename_i q
    cases h
    cases r with
    | nil=>cases q.2
    | cons b r=>simp
   ·cases hr:hole2 r with
    | none=>rw [hr] at h;cases h
    | some j=>
      rw [hr] at h
      cases h
      have:=hole2_lt hr
      simp only [List.length_cons];refine' Nat.succ_le_succ ‹_›
theorem find_two (l:List Nat) (hi:Nat) (hhi:hi=l.length):∀(n lo:Nat),lo+n=hi+1→
 (List.range' lo n).find? (fun i=>decide (i+2≤hi)&&((l.drop i).take 2==[36,123]))=(hole2 (l.drop lo)).map (lo+·)
 | 0,lo,h=>by
   rw [List.drop_eq_nil_of_le (by lia)];rfl
 | n+1,lo,h=>by
   rw [List.range'_succ,List.find?_cons]
   by_cases hlo:lo <l.length
   ·rw [List.drop_eq_getElem_cons hlo,hole2]
    have ht:((l[lo]::l.drop (lo+1)).take 2==[36,123])=decide (l[lo]=36∧(l.drop (lo+1)).head?=some 123):=by
     cases l.drop (lo+1) with
     | nil=>simp
     | cons b r=>
       rw [Bool.eq_iff_iff]
       simp
    by_cases e:l[lo]=36∧(l.drop (lo+1)).head?=some 123
    ·have h2:lo+2≤hi:=by
      cases hd:l.drop (lo+1) with
      | nil=>rw [hd] at e;cases e.2
      | cons b r=>
        have:=congrArg List.length hd
        simp only [List.length_drop,List.length_cons] at this
        lia
     have:decide (lo+2≤hi)=true:=by simp;assumption
     rw [this]
     simp only [Bool.true_and]
     rw [ht,decide_eq_true e,if_pos e]
     simp
    ·rw [if_neg e]
     have hf:(decide (lo+2≤hi)&&((l[lo]::l.drop (lo+1)).take 2==[36,123]))=false:=by rw [ht,decide_eq_false e,Bool.and_false]
     rw [hf]
     show List.find? _ (List.range' (lo+1) n)=_
     rw [find_two l hi hhi n (lo+1) (by refine' qA ‹_›)]
     cases hole2 (l.drop (lo+1))<;>simp<;>lia
   ·have:decide (lo+2≤hi)=false:=by simp;lia
    simp only [this,Bool.false_and,cond_false]
    rw [find_two l hi hhi n (lo+1) (by refine' qA ‹_›),List.drop_eq_nil_of_le (by lia),List.drop_eq_nil_of_le (by refine' Nat.le_of_not_lt ‹_›)];rfl
theorem subAt_list (x y:Str) (i:Nat):subAt x y i=(((L x).drop i).take y.length==L y):=by
 unfold subAt
 rw [Bool.eq_iff_iff]
 simp only [beq_iff_eq]
 rw [←Array.toList_inj,Array.toList_extract,List.extract_eq_drop_take,Nat.add_sub_cancel_left]
theorem occ_two (x:Str) (lo:Nat) (h:lo≤x.length):occurrences x ⟨#[36,123]⟩ lo x.length 1=((hole2 ((L x).drop lo)).map (lo+·)).toList:=by
 rw [occ1]
 congr 1
 have:(hits x ⟨#[36,123]⟩ x.length)=(fun i=>decide (i+2≤x.length)&&(((L x).drop i).take 2==[36,123])):=by
  funext i
  unfold hits
  rw [subAt_list]
  rfl
 rw [this]
 exact find_two (L x) x.length (L_length x).symm _ _ (by refine' Nat.add_sub_of_le (Nat.le_succ_of_le ‹_›))
section
variable {K:Kx} {c:Cx} {st:St} {Q:V→St→Prop} {X:Xc→St→Prop} {R:Fl→St→Prop} {T:Bool→St→Prop} {s:Shared}
abbrev kExpr (R:Fl→St→Prop):V→St→Prop:=fun a st=>a=.none∧R .next st
theorem ES_expr {e:Expr} {pos:Pos} (h:EV K c e st (kExpr R) X) (hi:interactive c.env=false:=by rfl) (hs:swapsWith e none pos.line c.env=pure false:=by rfl):ES K c (.Expr e pos) st R X:=fun s r=>
 wpAny_Expr (h.go (.refl r) fun v s₁ a st₁ n _ i ⟨ha,q⟩=>by subst ha;obtain rfl:=i.inv;exact ⟨.next,st₁,n,.next,q⟩) hi hs
theorem Op_item_list {value slice:Expr} {a:Addr} {l:List V} {i:Int} {k:Nat} {v:V} (hm:(a,l)∈st.sto) (hcl:isC l=false) (hk:(0≤i∧k=i.toNat)∨(i <0∧0≤i+l.length∧k=(i+l.length).toNat)) (hv:l[k]?=some v) (hlen:l.length≤100000000) (h:Q v st)
 (hs:∀u,subscripted slice false (.ref a) (.int i u)=operate [.ref a,.int i u] (getItem (.ref a) (.int i u)):=by intro _;with_unfolding_all rfl):Op2 K c (subF value slice) (.ref a) (.int i) st Q X:=fun s va vi r ia ii=>by
 obtain rfl:=ia.inv
 obtain ⟨u,rfl⟩:=ii.inv
 obtain ⟨vs,n,g,il⟩:=own_list r hm hcl
 obtain ⟨x,hx,ix⟩:=il.get k v hv
 have hlt:k <l.length:=(List.getElem?_eq_some_iff.mp hv).1
 have hsz:vs.toArray.size=l.length:=il.length.symm
 have hx:vs.toArray[k]?=some x:=(List.getElem?_toArray ..).trans hx
 refine tail_any (value:=value) (slice:=slice) (o:=.ref a) (i:=.int i u) (ops:=[.ref a,.int i u]) (isL_of g).typeIs slot_list_getitem.lookup ?_ (hs u)
 rcases hk with ⟨h0,hk⟩ | ⟨h0,h1,hk⟩
 ·exact wpAny_getItem_list (isL_of g) h0 (by lia) (hk▸hx) (QV.now r ix h rfl)
 ·exact wpAny_getItem_list_neg (isL_of g) h0 (by rw [hsz];lia) (by lia) (by rw [hsz,←hk];exact hx) (QV.now r ix h rfl)
theorem Op_item_tup {value slice:Expr} {l:List V} {i:Nat} {v:V} (hv:l[i]?=some v) (hi:i <1000) (h:Q v st)
 (hs:∀a u,subscripted slice false (.ref a) (.int i u)=operate [.ref a,.int i u] (getItem (.ref a) (.int i u)):=by intro _ _;with_unfolding_all rfl):Op2 K c (subF value slice) (.tup l) (.int i) st Q X:=fun s va vi r ia ii=>by
 obtain ⟨u,rfl⟩:=ii.inv
 obtain ⟨a,vs,rfl,ht,il⟩:=ia.inv
 obtain ⟨x,hx,ix⟩:=il.get i v hv
 have hlt:i <vs.length:=il.length▸(List.getElem?_eq_some_iff.mp hv).1
 have hj:seqIndex? (i:Int) vs.length=some i:=by
  unfold seqIndex?
  rw [if_neg (show ¬((i:Int) <0) by lia)]
  rw [if_pos (by simp;assumption)]
  simp
 exact item_tupleT (value:=value) (slice:=slice) ht (by lia) (by lia) hj hx (QV.now r ix h rfl) (hs _ u)
theorem Op_mul_int {i j:Int} (hm:IntMulOk i j) (q:Q (.int (i*j)) st):Op2 K c (binaryOp .Mult) (.int i) (.int j) st Q X:=.ii fun s _ _ r=>PySem.P.mul_int (QV.now r (.int _ _) q rfl) hm
theorem CF_divmod (G:Gl K) {i j:Int} (hj:j≠0) (hp:Builtin.divisionGoesByPylong i j=false) (h:Q (.tup [.int (i.fdiv j),.int (i.fmod j)]) st):CF K c (.blt "divmod") [.int i,.int j] [] [] st Q X:=.b fun s vs r il=>by
 obtain ⟨v,u,rfl,i1,i2⟩:=isl2 il
 obtain ⟨t1,rfl⟩:=i1.inv
 obtain ⟨t2,rfl⟩:=i2.inv
 exact divmod_int hj (QV.tup (vs:=[_,_]) (.refl r) (.cons (.int _ _) (.cons (.int _ _) .nil)) h) (.inl hp)
theorem CF_len_list {a:Addr} {l:List V} (hm:(a,l)∈st.sto) (hcl:isC l=false) (hlen:l.length≤1000000) (h:Q (.int l.length) st):CF K c (.blt "len") [.ref a] [] [] st Q X:=.b fun s vs r il=>by
 obtain ⟨v,rfl,i1⟩:=isl1 il
 obtain rfl:=i1.inv
 obtain ⟨us,n,g,iu⟩:=own_list r hm hcl
 have e:us.toArray.size=l.length:=iu.length.symm
 exact PyProof.Rows.len_list (isL_of g) (by lia) (QV.now r (.int _ _) (by rw [e];exact h) rfl)
theorem CF_str_int {i:Int} (hi:i.natAbs.log2 <1920) (h:Q (.str (toString i)) st):CF K c (.typ "str") [.int i] [] [] st Q X:=.t fun s vs r il=>by
 obtain ⟨v,rfl,i1⟩:=isl1 il
 obtain ⟨t,rfl⟩:=i1.inv
 exact PySem.P.str_of_int hi (QV.now r (.str _ _ (int_text_fits hi)) h rfl)
theorem strsAre_of {h:Heap} {l:List (List Nat)}:∀{vs:List Value},IsL h (strV l) vs→StrsAre vs (l.map fun x=>⟨x.toArray⟩):=by
 induction l with
 | nil=>intro vs i;rw [isl0 i];exact .nil
 | cons b l ih=>
   intro vs i
   obtain ⟨hv,hl⟩:=i.c
   obtain ⟨t,rfl,_⟩:=hv.inv
   exact .cons _ _ (ih hl)
theorem CF_join {sep:Str} {a:Addr} {l:List (List Nat)} (hm:(a,strV l)∈st.sto) (hcl:isC (strV l)=false)
 (hsz:((l.map fun x=>(⟨x.toArray⟩:Str)).map (·.length)).sum+l.length*sep.length≤16777216) (hfit:(Txt.join sep (l.map fun x=>⟨x.toArray⟩)).length≤sizeLine) (h:Q (.str (Txt.join sep (l.map fun x=>⟨x.toArray⟩))) st):CF K c (.blt "str.join") [.str sep,.ref a] [] [] st Q X:=.b fun s vs r il=>by
 obtain ⟨v,u,rfl,i1,i2⟩:=isl2 il
 obtain ⟨t,rfl,_⟩:=i1.inv
 obtain rfl:=i2.inv
 obtain ⟨us,n,g,iu⟩:=own_list r hm hcl
 exact join_list (ys:=l.map fun x=>⟨x.toArray⟩) (isL_of g) (strsAre_of iu) (by rw [List.length_map];exact hsz) fun t' k=>QV.now r (.str _ _ hfit) h rfl
theorem isl_strs (h:Heap) (k:Nat):∀(l:List (Str×Tok)),(∀z∈l.map (·.1),z.length≤k)→k≤1000000→IsL h ((l.map (·.1)).map V.str) (strValues l)
 | [],_,_=>.nil
 | a::r,hz,hk=>.cons (.str _ _ (Nat.le_trans (hz a.1 List.mem_cons_self) (Nat.le_trans hk (sizeLine_eq▸by decide)))) (isl_strs h k r (fun z hm=>hz z (List.mem_cons_of_mem _ hm)) hk)
theorem CF_splitNL {x:Str} (hx:x.length≤1000000) (h:∀(D:Addr) (l:List Str),D∉adr st→l.length=(L x).count 10+1→(∃z,l.getLast?=some z∧z.length=tail1 10 (L x))→Q (.ref D) ⟨st.loc,(D,l.map V.str)::st.sto⟩):CF K c (.blt "str.split") [.str x,.str ⟨#[10]⟩] [] [] st Q X:=.b fun s vs r il=>by
 obtain ⟨v,u,rfl,i1,i2⟩:=isl2 il
 obtain ⟨t,rfl,hxl⟩:=i1.inv
 obtain ⟨tu,rfl,_⟩:=i2.inv
 obtain ⟨hn,hlast,hfit,hsz⟩:=split_nl x
 have sz:=sizeLine_eq
 have fin:∀(l':List (Str×Tok)) (k:Nat),l'.map (·.1)=Txt.split x ⟨#[10]⟩→QV K c st s Q (.ref s.heap.objs.size) { s with heap:=s.heap.push { cls:=.type "list",data:=.seq (strValues l').toArray},toks:=k}:=fun l' k e=>by
  obtain ⟨h1,h2⟩:=(Nx.refl r).new (k:=k) (isl_strs s.heap _ l' (e▸hfit) hx)
  exact ⟨.ref _,_,h2,.ref _,h _ _ h1 (e▸hn) (e▸hlast)⟩
 cases h1:(decide (x.length <Str.length ⟨#[10]⟩)||decide (PySem.Builtin.Str.strKind x <PySem.Builtin.Str.strKind ⟨#[10]⟩))
 ·cases hf:(occurrences x ⟨#[10]⟩ 0 x.length (x.length+1)).isEmpty
  ·refine call_meets F.slot_str_split (typeIs_str _ _ _) F.entry_str_split (F.args_str_split_2 _ _) (meets_str_split_sep x ⟨#[10]⟩ t tu h1 rfl hf (by assumption) (by show (partsBetween x _ 1).length≤_;lia)) ?_
   show wants _ _ _ { s with toks:=_,heap:=s.heap.push { cls:=.type "list",data:=.seq (strsFrom s.toks (partsBetween x (occurrences x ⟨#[10]⟩ 0 x.length (x.length+1)) (Str.length ⟨#[10]⟩))).toArray}}
   rw [strsFrom_eq]
   exact fin (numbered s.toks _) _ ((numbered_texts _ _).trans ((if_neg (ne_true_of_eq_false h1)).trans (if_neg (ne_true_of_eq_false hf))).symm)
  ·exact call_meets F.slot_str_split (typeIs_str _ _ _) F.entry_str_split (F.args_str_split_2 _ _) (meets_str_split_not_found x ⟨#[10]⟩ t tu h1 rfl hf)
    (fin [(x,t)] s.toks ((if_neg (ne_true_of_eq_false h1)).trans (if_pos hf)).symm)
 ·exact call_meets F.slot_str_split (typeIs_str _ _ _) F.entry_str_split (F.args_str_split_2 _ _) (meets_str_split_cannot_occur x ⟨#[10]⟩ t tu h1)
   (fin [(x,t)] s.toks (if_pos h1).symm)
noncomputable def hole2I (p:Nat):Option Nat→Int
 | some k=>((p+k:Nat):Int)
 | none=>-1
theorem CF_find2 {x:Str} {p:Nat} (hp:p≤x.length) (h:Q (.int (hole2I p (hole2 ((L x).drop p)))) st):CF K c (.blt "str.find") [.str x,.str ⟨#[36,123]⟩,.int p] [] [] st Q X:=
 CF_ssi F.slot_str_find F.entry_str_find F.args_str_find_3 fun s t u w r=>⟨_,(gives_str_find_from x _ p _ _ _).meets,by
  rw [fromIndex_nat,occ_two x p hp]
  cases hh:hole2 ((L x).drop p) with
  | none=>rw [hh] at h;exact QV.now r (.int _ _) h rfl
  | some k=>rw [hh] at h;exact QV.now r (.int _ _) h rfl⟩
inductive KNeg (Q:V→St→Prop) (a:V) (st:St):Prop
 | mk (i:Int) (ha:a=.int i) (q:Q (.int (-i)) st)
theorem EV_neg {e:Expr} {pos:Pos} (h:EV K c e st (KNeg Q) X):EV K c (.UnaryOp .USub e pos) st Q X:=fun s r=>by
 show wpAny _ _ (do let v ←eval e c.env;standAt pos;holding [v] (unaryOp .USub v)) _ _ s
 refine wpAny_bind (h.go (.refl r) fun v s₁ a st₁ n _ i ⟨k,ha,q⟩=>?_)
 subst ha
 obtain ⟨t,rfl⟩:=i.inv
 exact wpAny_bind (wpAny_standAt (wpAny_holding (PySem.P.neg_int ⟨_,st₁,n.toks _,.int _ _,q⟩)))
theorem setSto_mid {j r:List (Addr×List V)} {a:Addr} {l l':List V} (h:((j++(a,l)::r).map (·.1)).Nodup):setSto (j++(a,l)::r) a l'=j++(a,l')::r:=by
 rw [List.map_append,List.map_cons] at h
 obtain ⟨h1,h2,h3⟩:=List.nodup_append.mp h
 have hr:=(List.nodup_cons.mp h2).1
 unfold setSto
 rw [List.map_append,List.map_cons,if_pos rfl]
 congr 1
 ·exact map_eq_self fun x hx=>if_neg fun (e:x.1=a)=>h3 x.1 (List.mem_map_of_mem hx) a List.mem_cons_self e
 ·congr 1
  exact map_eq_self fun x hx=>if_neg fun (e:x.1=a)=>hr (e▸List.mem_map_of_mem (f:=(·.1)) hx)
variable {j r:List (Addr×List V)} {a:Addr} {l:List V}
theorem CF_appendM {v:V} (hs:st.sto=j++(a,l)::r) (hcl:isC l=false) (hsz:l.length≤100000) (q:Q .none ⟨st.loc,j++(a,l++[v])::r⟩):CF K c (.blt "list.append") [.ref a,v] [] [] st Q X:=fun s fv vs ks R i il ik=>by
 have nod:=R.g.nod
 rw [hs] at nod
 exact CF_append (l:=l) (by rw [hs];exact List.mem_append_right _ List.mem_cons_self) hcl hsz (by rw [hs,setSto_mid nod];exact q) s fv vs ks R i il ik
theorem Op_iadd_listM {b:Addr} {m:List V} (hs:st.sto=j++(a,l)::r) (hla:isC l=false) (hb:(b,m)∈st.sto) (hlb:isC m=false) (hsz:l.length+m.length≤100000) (h:Q (.ref a) ⟨st.loc,j++(a,l++m)::r⟩):Op2 K c (inplaceOp .Add) (.ref a) (.ref b) st Q X:=fun s v u R i k=>by
 have nod:=R.g.nod
 rw [hs] at nod
 exact Op_iadd_list (l:=l) (by rw [hs];exact List.mem_append_right _ List.mem_cons_self) hla hb hlb hsz (by rw [hs,setSto_mid nod];exact h) s v u R i k
theorem AS_cellM {x:Str} {p:Pos} {ts:List (Value→Sem Unit)} {v:V} {vs:List V} {RS:St→Prop} (hc:c.env.cells.lookup x=some a) (hs:st.sto=j++(a,.mark::l)::r) (h:AS K c ts vs ⟨st.loc,j++(a,[.mark,v])::r⟩ RS X) (hk:c.env.kindOf x=some .cell:=by kernel_rfl!):
 AS K c (assign (.Name x p) c.env::ts) (v::vs) st RS X:=fun s us RR i=>by
 have nod:=RR.g.nod
 rw [hs] at nod
 exact AS_cell hc (l:=l) (by rw [hs];exact List.mem_append_right _ List.mem_cons_self) (by rw [hs,setSto_mid nod];exact h) hk s us RR i
end
end
section
noncomputable abbrev bmV:List Value:=[.type "ValueError",.type "Exception",.type "BaseException",.type "object"]
inductive OwnS (K:Kx):Prop
 | mk {newId:String} {mN:Str→Option Value} (cls:OwnC K bmV newId mN) (quiet:∀n∈quietNames,mN n=none) (str:mN "__str__"=none)
theorem mro_VE:mroOf (.type "ValueError")=pure bmV:=F.attrBase_ValueError.mro
theorem args_bexc_str1 (a:Value):argsOk "BaseException.__str__" ⟨[a],[]⟩:=F.args_bexc_str a
section
variable {prog:Program} {w:World} {A:Around} {E:Value→Shared→Prop} {h:Heap} {g:Array GenState} {d:Drawn} {t:Nat} {os:OsState} {a:Addr} {o:Obj} {vs:Array Value} {t0:Addr}
 {nm q:Str} {C N:Addr} {bs:List Value} {hdct:Bool} {sn:List Str} {sub:List Value} {ab:Bool} {col:Option Bool} {dd:Option Addr} {k0 k1 k2 k3 k5:Option Value} {newId:String} {mN:Str→Option Value}
theorem check_str_own {M:Model} {Q:Unit→Shared→Prop} (hC:h.get? C=some (excClassObj nm q C N bs bmV hdct sn sub ab col dd k0 k1 k2 k3 k5 newId))
 (hx:h.get? a=some o) (hc:o.cls=.ref C) (hq:Q () ⟨h,g,d,t,os⟩):wpAny M A (checkBuiltinCall "BaseException.__str__" ⟨[.ref a],[]⟩) Q E ⟨h,g,d,t,os⟩:=by
 have hk:builtinKind "BaseException.__str__"=some .slot:=by decide+kernel
 have hsplit:splitId "BaseException.__str__"=some ("BaseException","__str__"):=by decide+kernel
 have hcB:(Value.ref C::bmV).contains (.type "BaseException")=true:=by rw [List.contains_cons];simp [bmV]
 have ha:=F.args_bexc_str (.ref a)
 simp only [checkBuiltinCall,hk,hsplit]
 refine wpAny_bind ?_
 ·unfold isInstance
  repeat (first | (with_reducible refine wpAny_loadPart_at hx ?_;rw [hc]) | (with_reducible refine wpAny_isSubtype_exc hC ?_;rw [hcB]) | wp_step)
  exact hq
theorem bexcArgs_own {M:Model} {items:List Value} {Q:Value×List Value→Shared→Prop} (hx:h.get? a=some o) (hd:o.data=.fields vs) (h0:vs[0]?=some (.ref t0)) (ht:h.TupAt t0 items) (hq:Q (.ref t0,items) ⟨h,g,d,t,os⟩):
 wpAny M A (Builtin.BaseException.bexcArgs (.ref a)) Q E ⟨h,g,d,t,os⟩:=by
 obtain ⟨ot,k,hto,_,htd⟩:=ht
 unfold Builtin.BaseException.bexcArgs
 refine wpAny_bind (wpAny_field hx hd h0 (wpAny_bind (wpAny_seqItems hto htd ?_)))
 have:items.toArray.toList=items:=by simp
 show wpAny M A (pure (Value.ref t0,items.toArray.toList)) Q E _
 rw [this];exact wpAny_pure hq
theorem bexcStr_own {m:Str} {tk:Tok} {Q:Fin→Shared→Prop} (hx:h.get? a=some o) (hd:o.data=.fields vs) (h0:vs[0]?=some (.ref t0)) (ht:h.TupAt t0 [.str m tk]) (hq:Q (.done (.ret (.str m tk))) ⟨h,g,d,t,os⟩):
 wpAny (model prog w) A (Builtin.«BaseException.__str__» ⟨[.ref a],[]⟩) Q E ⟨h,g,d,t,os⟩:=by
 unfold Builtin.«BaseException.__str__»
 repeat (first | with_reducible refine bexcArgs_own hx hd h0 ht ?_ | wp_step)
 exact hq
theorem strOf_own {m:Str} {tk:Tok} {Q:Value→Shared→Prop} (hu:A.units <cLine) (hC:h.get? C=some (excClassObj nm q C N bs bmV hdct sn sub ab col dd k0 k1 k2 k3 k5 newId)) (hN:h.Ns N mN) (hm:mN "__str__"=none)
 (hx:h.get? a=some o) (hc:o.cls=.ref C) (hd:o.data=.fields vs) (h0:vs[0]?=some (.ref t0)) (ht:h.TupAt t0 [.str m tk]) (hq:Q (.str m tk) ⟨h,g,d,t,os⟩):
 wpAny (model prog w) A (strOf (.ref a)) Q E ⟨h,g,d,t,os⟩:=by
 have fs:Slot "ValueError" "__str__" "BaseException.__str__":=F.excStr_ValueError.str
 have key:wpAny (model prog w) A (callSpecial? (.ref a) "__str__") (fun r s'=>r=some (.str m tk)∧s'=⟨h,g,d,t,os⟩) E ⟨h,g,d,t,os⟩:=by
  unfold callSpecial? specialOf
  refine wpAny_bind (wpAny_bind ?_)
  show wpAny _ _ (typeOf (.ref a)) _ _ _
  unfold typeOf
  refine wpAny_bind (wpAny_loadPart hx (wpAny_pure ?_))
  rw [hc]
  refine wpAny_typeLookup_exc hC hN mro_VE fs.lookup ?_
  rw [hm]
  dsimp only
  refine wpAny_holding ?_
  rw [fs.bind]
  refine wpAny_bind (wpAny_pure ?_)
  refine wpAny_bind ?_
  show wpAny _ _ (PySem.call (.builtin "BaseException.__str__") [.ref a]) _ _ _
  refine wpAny_call (codeAny_call_builtin fs.plain F.entry_bexc_str (check_str_own hC hx hc (wpAny_mono (bexcStr_own (Q:=fun fin s'=>fin=.done (.ret (.str m tk))∧s'=⟨h,g,d,t,os⟩) hx hd h0 ht ⟨rfl,rfl⟩) (fun fin s' h'=>?_) fun _ _ z=>z)))
  obtain ⟨rfl,rfl⟩:=h'
  exact wpAny_pure ⟨rfl,rfl⟩
 unfold Builtin.Str.strOf
 refine wpAny_bind (wpAny_cRoomFor hu ?_)
 refine wpAny_bind (wpAny_mono key (fun r s' hr=>?_) fun _ _ z=>z)
 obtain ⟨rfl,rfl⟩:=hr
 repeat (first | wp_step)
 exact hq
theorem str_own {m:Str} {tk:Tok} {Q:Value→Shared→Prop} (hu:A.units+2 <cLine) (hC:h.get? C=some (excClassObj nm q C N bs bmV hdct sn sub ab col dd k0 k1 k2 k3 k5 newId)) (hN:h.Ns N mN) (hm:mN "__str__"=none)
 (hx:h.get? a=some o) (hc:o.cls=.ref C) (hd:o.data=.fields vs) (h0:vs[0]?=some (.ref t0)) (ht:h.TupAt t0 [.str m tk]) (hq:Q (.str m tk) ⟨h,g,d,t,os⟩):
 wpAny (model prog w) A (PySem.call (.type "str") [.ref a]) Q E ⟨h,g,d,t,os⟩:=
 callType_new F.called_str (by decide) (F.typeCall_str_1 _) (F.newCall_str_1 _) (fun obj=>F.args_object_init_2 obj _) F.entry_str_new
  (meets_str_new (S:=fun A' R s'=>A'.units+1 <cLine∧s'=⟨h,g,d,t,os⟩∧R (.ok (.ret (.str m tk))) s')
    fun _ _ A' _ s' hq=>by
     obtain ⟨h1,rfl,h3⟩:=hq
     exact strOf_own (A:=A'.in1) h1 hC hN hm hx hc hd h0 ht h3)
  ⟨(show A.units+1+1 <cLine from hu),rfl,typeIs_str _ _ _,hq⟩
end
inductive ExcArgs (K:Kx) (h:Heap) (e:Addr) (l:List V):Prop
 | mk {o:Obj} {vs:Array Value} (at_:h.get? e=some o) (cls:o.cls=.ref K.C) (data:o.data=.fields vs) (args:ArgsL h vs[0]? l)
section
variable {K:Kx} {c:Cx} {st:St} {Q:V→St→Prop} {X:Xc→St→Prop} {R:Fl→St→Prop} {T:Bool→St→Prop} {s:Shared}
theorem ExcArgs.ev {h h':Heap} {M:List Addr} {e:Addr} {l:List V} (x:ExcArgs K h e l) (v:Ev K.C M h h') (he:e∉M) (kp:Keeps h h'):ExcArgs K h' e l:=by
 obtain ⟨g,hc,hd,ha⟩:=x
 obtain ⟨o',g',ob⟩:=v.kept e _ g he
 have keep:∀{w},ArgsL h w l→ArgsL h' w l:=fun a=>let ⟨a,b,c⟩:=a;⟨a,kp.tup b,c.keep kp⟩
 cases ob with
 | same h=>subst h;exact ⟨g',hc,hd,keep ha⟩
 | slots h _=>exact absurd h (nd_f hd _ _)
 | vol _ hc' d d' _ h0 _=>
   rw [hd] at d;cases d
   exact ⟨g',hc'.trans hc,d',h0.symm▸keep ha⟩
inductive KSu (n:Str) (R:Fl→St→Prop) (f:Fl) (st:St):Prop
 | mk (hf:f=.next) (st':St) (le:St.Le st' st) (no:st'.loc.lookup n=none) (q:R .next st')
inductive KAs (K:Kx) (c:Cx) (n:Str) (suite:List Stmt) (R:Fl→St→Prop) (x:Xc) (st:St):Prop
 | mk (hc:x.cls=.ref K.C) (l:List V) (ha:x.args=some l) (q:∀e s,Rel K (c.mark e x.bare) (st.set n (.ref e)) s→ExcArgs K s.heap e l→wpAny K.M (c.mark e x.bare).A (execs suite c.env)
       (QF K (c.mark e x.bare) (st.set n (.ref e)) s (KSu n R)) (fun _ _=>False) s)
theorem ES_tryAs {G:Gl K} (O:OwnS K) {body orelse suite:List Stmt} {b₀:Stmt} {tn n:Str} {tp hp pos:Pos} (h:EB K c body st (kB K c orelse R X) (KAs K c n (b₀::suite) R))
 (hmg:G.mg tn=some (.ref K.C)) (hk:c.env.kindOf tn=some .globalImplicit:=by kernel_rfl!) (hkn:c.env.kindOf n=some .local:=by kernel_rfl!) (hd:(tn==("__debug__":Str))=false:=by decide):
 ES K c (.Try body [.ExceptHandler (some (.Name tn tp)) (some n) (b₀::suite) hp] orelse [] pos) st R X:=fun s r=>by
 refine wpAny_Try_except (wpAny_mono (TS.fin h (.refl r)) (fun f s₁ ⟨fl,st₁,n,i,q⟩=>kB_go n i q) fun v s₁ ⟨e,x,st₁,hv',n₁,f₁,q₁⟩=>?_)
 subst hv'
 obtain ⟨hcls,l,hargs,q₁⟩:=q₁
 obtain @⟨newId,mN,⟨hC,hN⟩,hq,hms⟩:=O
 refine fly_note n₁.r.ok.frames n₁.r.ok.tp n₁.r.g.ff n₁.r.g.base f₁ fun h₂ a₂ b₂ d₂=>?_
 have n₂:=n₁.ev a₂ b₂
 refine fly_setFlight (s:={ s₁ with heap:=h₂}) a₂ d₂ fun h₃ a₃ b₃ d₃=>?_
 have n₃:=n₂.ev a₃ b₃
 have r₄:Rel K (c.mark e x.bare) st₁ _:=n₃.r.mark (e:=e) (b:=x.bare) d₃.held
 refine handleBy_own_as (C:=K.C) (x:=tn) (bmB:=bmV) (newId:=newId) (mg:=fun _=>some (.ref K.C)) (by rfl) (name_glob (A:=(c.mark e x.bare).A) G n₃.r hmg hk hd ?_)
 refine ⟨rfl,⟨rfl,bmV,_,_,_,_,_,_,_,_,_,_,_,_,_,_,_,_,n₃.r.g.base _ _ hC,hN.keeps n₃.r.g.base,hq,.base⟩,let ⟨f,_⟩:=d₃;⟨_,f.at_,f.cls.trans hcls⟩,fly_setFlight n₃.r.g.base d₃ fun h₆ a₆ b₆ d₆=>?_⟩
 have n₆:=n₃.ev a₆ b₆
 have r₆:=r₄.ev a₆ b₆
 refine store_ok (c:=c.mark e x.bare) (.refl r₆) (.ref e) hkn fun s₇ m₇ kp₇=>?_
 have J:ExcArgs K s₇.heap e l:=by
  obtain ⟨f,_⟩:=d₆
  have ha:=f.args
  rw [hargs] at ha
  have x6:ExcArgs K h₆ e l:=⟨f.at_,f.cls.trans hcls,f.data,ha⟩
  refine x6.ev m₇.g.ev (fun hm=>?_) kp₇
  have:=(r₆.who hm f.at_).2 _ f.data
  rw [f.cls,hcls] at this
  cases this
 refine wpAny_mono (q₁ e s₇ m₇.r J) (fun f s₈ ⟨fl,st₈,m₈,i₈,hfl,st₉,hle,hnone,q₈⟩=>?_) fun _ _ z=>z.elim
 have n9:Nx K c st s st₉ s₈:=(n₆.unmark r (m₇.trans m₈)).less hle
 obtain ⟨hn,hl⟩:=n9.r.loc
 refine wpAny_nameGoes_keeps hkn (n9.r.ok.locals.symm▸hn) (by rw [n9.r.ok.kind];rfl) fun h' v hn2 hs2=>?_
 rw [n9.r.ok.locals] at hn2 hs2
 have r10:Rel K c st₉ { s₈ with heap:=h'}:=n9.r.stored hs2 hn2 rfl fun kp y w e=>by
  obtain ⟨val,e',i'⟩:=hl y w e
  have hne:y≠_:=fun q=>nomatch (q▸e).symm.trans hnone
  exact ⟨val,(if_neg hne).trans e',i'.keep kp⟩
 have ev10:Ev K.C (c.L::(adr st₉++tadr K)) s₈.heap h':=Ev.sameBut hs2 (fun _ _=>let ⟨o,_,_,e,_⟩:=hn2;⟨o,e⟩) (.inl List.mem_cons_self)
 subst hfl
 cases i₈
 exact ⟨.next,st₉,⟨r10.toks _,n9.g.trans ⟨ev10,fun _ q=>.inl q⟩⟩,.next,q₈⟩
abbrev kApp (st:St) (a:Addr) (l:List V):Fl→St→Prop:=fun f st'=>f=.next∧st'=⟨st.loc,setSto st.sto a l⟩
theorem suite_append (G:Gl K) (O:OwnS K) {E:Value→Shared→Prop} {s:Shared} {e a:Addr} {msg:Str} {l:List V} {tn sn en:Str} {tp ap sp ep cp pos xpos:Pos} (r:Rel K c st s) (J:ExcArgs K s.heap e [.str msg]) (hu:c.A.units+2 <cLine)
 (hmg:G.mg sn=none) (hmb:G.mb sn=some (.type "str")) (ht:st.loc.lookup tn=some (.ref a)) (ha:(a,l)∈st.sto) (hcl:isC l=false) (hlen:l.length≤100000) (he:st.loc.lookup en=some (.ref e))
 (hkt:c.env.kindOf tn=some .local) (hke:c.env.kindOf en=some .local) (hks:c.env.kindOf sn=some .globalImplicit) (hdt:(tn==("__debug__":Str))=false) (hde:(en==("__debug__":Str))=false) (hds:(sn==("__debug__":Str))=false)
 (hi:interactive c.env=false) (hsw:swapsWith (.Call (.Attribute (.Name tn tp) (Str.ofString "append") ap) [.Call (.Name sn sp) [.Name en ep] [] cp] [] pos) none xpos.line c.env=pure false)
 (hbase:attributeBase (.Name tn tp) (Str.ofString "append") c.env (eval (.Name tn tp) c.env)=eval (.Name tn tp) c.env)
 (hp:(backTo pos (starEach [.Call (.Name sn sp) [.Name en ep] [] cp] c.env)).any (·.1)=false) (hp2:(backTo cp (starEach [.Name en ep] c.env)).any (·.1)=false)
 (he1:starEach [.Call (.Name sn sp) [.Name en ep] [] cp] c.env=[(false,eval (.Call (.Name sn sp) [.Name en ep] [] cp) c.env)]) (he2:starEach [.Name en ep] c.env=[(false,eval (.Name en ep) c.env)])
 (hfew:((backTo pos (starEach [.Call (.Name sn sp) [.Name en ep] [] cp] c.env)).all (fun x=>!x.1)&&(backToKw pos (keywordEach [] c.env)).all (fun x=>x.1.isSome)
   &&decide ([Expr.Call (.Name sn sp) [.Name en ep] [] cp].length+([]:List Keyword).length+(if ([]:List Keyword).isEmpty then 0 else 1) <30))=true)
 (hline:(ap.endLine==pos.line)=true):
 wpAny K.M c.A (exec (.Expr (.Call (.Attribute (.Name tn tp) (Str.ofString "append") ap) [.Call (.Name sn sp) [.Name en ep] [] cp] [] pos) xpos) c.env) (QF K c st s (kApp st a (l++[.str msg]))) E s:=by
 obtain ⟨⟨hC,hN⟩,hq,hms⟩:=O
 obtain ⟨_,v1,hn,ev1,iv1⟩:=r.at_ ht
 obtain ⟨_,v2,hn',ev2,iv2⟩:=r.at_ he
 obtain rfl:=iv1.inv
 obtain rfl:=iv2.inv
 refine wpAny_Expr (wpAny_Call_method_lateS hbase hfew hline (wpAny_Name (wpAny_loadName_local r.ok.kind hkt hn ev1 ?_) hdt)) hi hsw
 obtain ⟨t1,t2⟩:=Recv.list (K:=K) (c:=c) ha hcl s (.ref a) r (.ref a)
 refine ⟨"list","list.append",PySem.F.plainAttrs_list,PySem.F.slot_list_append,PySem.F.type_list_append,t1,t2,Calls.callWith_builtin hp (evalArgs_pos hp ?_)⟩
 have key:wpAny K.M c.A (eval (.Call (.Name sn sp) [.Name en ep] [] cp) c.env) (fun u s'=>s'=s∧Is s.heap (.str msg) u) E s:=by
  refine wpAny_Call_Name_kw (name_blt G r hmg hmb hks hds (PySem.callWith_type hp2 (evalArgs_pos hp2 ?_)))
  rw [he2]
  refine spliced_cons (wpAny_Name (wpAny_loadName_local r.ok.kind hke hn' ev2 (spliced_nil ?_)) hde)
  obtain ⟨g,hc,hd,h0,hta,iw⟩:=J
  obtain ⟨w1,rfl,iw1⟩:=isl1 iw
  obtain ⟨tk,rfl,hmsg⟩:=iw1.inv
  obtain ⟨ot,gt,ct,nt,dt⟩:=hta
  obtain ⟨hp',gg,d,tk',os⟩:=s
  exact str_own hu (r.g.base _ _ hC) (hN.keeps r.g.base) hms g hc hd h0 ⟨ot,nt,gt,ct,dt⟩ ⟨rfl,.str _ _ hmsg⟩
 rw [he1]
 refine spliced_cons (wpAny_mono key (fun u s' ⟨e1,iu⟩=>?_) fun _ _ z=>z)
 subst e1
 have ap:=CF_append (K:=K) (c:=c) (st:=st) (Q:=fun a' st'=>a'=.none∧st'=⟨st.loc,setSto st.sto a (l++[.str msg])⟩) (X:=NoX) (a:=a) (l:=l) (v:=.str msg) ha hcl hlen ⟨rfl,rfl⟩
 refine spliced_nil (wpAny_mono (ap s' (.builtin "list.append") [.ref a,u] [] r (.blt _) (.cons (.ref a) (.cons iu .nil)) .nil) (fun v s₂ ⟨a',st',n,i2,ha',hst⟩=>?_) fun _ _ z=>z.no.elim)
 subst ha' hst
 obtain rfl:=i2.inv
 exact ⟨.next,_,n,.next,rfl,rfl⟩
end
end
end
section
open PySem PySem.W PySem.Calls PyProof.Rows
section
section
variable {den:Code→Sem Fin} {p:Program} {w:World}
def Fine (t:Thread):Prop:=t.calm=true∧t.atExitBegin=none
theorem Fine.like {t₁ t₂:Thread} (h:t₁.forget=t₂.forget) (c:Fine t₂):Fine t₁:=
 ⟨by rw [←Thread.calm_forget,h,Thread.calm_forget];exact c.1,by rw [←atExitBegin_forget,h,atExitBegin_forget];exact c.2⟩
theorem fine_stack {t:Thread} (hc:t.calm=true) (hs:t.stack≠[]):Fine t:=⟨hc,by
 obtain ⟨cur,code,pos,st⟩:=t
 cases st with
 | nil=>exact absurd rfl hs
 | cons F st=>exact atExitBegin_cons ..⟩
def Goes (den:Code→Sem Fin) (p:Program) (w:World) (s:Shared) (t:Thread) (s':Shared) (t':Thread):Prop:=
 ∃n σ τ,runN den p w n s t=.running σ τ∧σ.forget=s'.forget∧τ.forget=t'.forget∧
  ∀k,k <n→∀s₁ t₁,runN den p w k s t=.running s₁ t₁→Fine t₁
theorem Goes.refl (s:Shared) (t:Thread):Goes den p w s t s t:=⟨0,s,t,rfl,rfl,rfl,fun k hk=>absurd hk (Nat.not_lt_zero _)⟩
theorem runN_add (n m:Nat) (s:Shared) (t:Thread) (σ:Shared) (τ:Thread) (h:runN den p w n s t=.running σ τ):runN den p w (n+m) s t=runN den p w m σ τ:=by
 induction n generalizing s t with
 | zero=>simp only [runN,Run.running.injEq] at h;obtain ⟨rfl,rfl⟩:=h;rw [Nat.zero_add]
 | succ n ih=>
   rw [show n+1+m=n+m+1 by refine' Nat.add_right_comm _ _ _]
   simp only [runN] at h ⊢
   cases hs:step den p w s t with
   | go s₁ t₁=>rw [hs] at h;simp only at h ⊢;exact ih s₁ t₁ h
   | halt o s₁=>rw [hs] at h;cases h
theorem runN_like {n:Nat} {s₁ s₂:Shared} {t₁ t₂:Thread} (hs:s₁.forget=s₂.forget) (ht:t₁.forget=t₂.forget) {σ:Shared} {τ:Thread} (h:runN den p w n s₁ t₁=.running σ τ):
 ∃σ' τ',runN den p w n s₂ t₂=.running σ' τ'∧σ'.forget=σ.forget∧τ'.forget=τ.forget:=by
 have e:=runN_same den p w n hs ht
 rw [h] at e
 cases hr:runN den p w n s₂ t₂ with
 | halted o s=>rw [hr] at e;cases e
 | running a b=>rw [hr] at e;simp only [Run.forget,Run.running.injEq] at e;exact ⟨a,b,rfl,e.1.symm,e.2.symm⟩
theorem Goes.trans {s s' s'':Shared} {t t' t'':Thread} (h:Goes den p w s t s' t') (h':Goes den p w s' t' s'' t''):Goes den p w s t s'' t'':=by
 obtain ⟨n,σ,τ,h1,h2,h3,h4⟩:=h
 obtain ⟨m,σ',τ',k1,k2,k3,k4⟩:=h'
 obtain ⟨σ₂,τ₂,l1,l2,l3⟩:=runN_like h2.symm h3.symm k1
 refine ⟨n+m,σ₂,τ₂,(runN_add n m _ _ _ _ h1).trans l1,l2.trans k2,l3.trans k3,fun k hk s₁ t₁ hr=>?_⟩
 by_cases hn:k <n
 ·exact h4 k hn s₁ t₁ hr
 ·obtain ⟨j,rfl⟩:∃j,k=n+j:=⟨k -n,by refine' r24 ‹_›⟩
  rw [runN_add n j _ _ _ _ h1] at hr
  obtain ⟨a,b,c1,_,c3⟩:=runN_like h2 h3 hr
  exact Fine.like c3.symm (k4 j (by lia) a b c1)
theorem Goes.step {s s₁ s':Shared} {t t₁ t':Thread} (hc:Fine t) (hs:PySem.step den p w s t=.go s₁ t₁) (h:Goes den p w s₁ t₁ s' t'):Goes den p w s t s' t':=by
 obtain ⟨n,σ,τ,h1,h2,h3,h4⟩:=h
 refine ⟨n+1,σ,τ,by simp only [runN,hs];exact h1,h2,h3,fun k hk s₂ t₂ hr=>?_⟩
 cases k with
 | zero=>simp only [runN,Run.running.injEq] at hr;obtain ⟨_,rfl⟩:=hr;exact hc
 | succ k=>simp only [runN,hs] at hr;exact h4 k (by refine' Nat.lt_of_succ_lt_succ ‹_›) s₂ t₂ hr
theorem Goes.of_comes {M:Model} {s s':Shared} {t t':Thread} (h:ComesBy M (fun th=>th.stack≠[]) s t s' t'):Goes M.den M.prog M.w s t s' t':=by
 obtain ⟨n,hn,hall⟩:=h
 have hn':runNI M.den M.prog M.w n s t=.running s' t':=hn
 obtain ⟨σ,τ,h1,h2,h3⟩:=runNI_running_real hn'
 refine ⟨n,σ,τ,h1,h2,h3,fun k hk s₁ t₁ hk₁=>?_⟩
 obtain ⟨s₂,t₂,h₂⟩:=runNI_prefix (Nat.le_of_lt hk) hn'
 obtain ⟨σ₂,τ₂,hr₂,_,hτ₂⟩:=runNI_running_real h₂
 rw [hr₂] at hk₁
 injection hk₁ with _ e
 subst e
 refine Fine.like hτ₂ (fine_stack ?_ (hall k hk s₂ t₂ h₂))
 obtain ⟨s₃,t₃,h₃⟩:=runNI_prefix (k:=k+1) hk hn'
 have key:∀(k:Nat) (s:Shared) (t:Thread),runNI M.den M.prog M.w k s t=.running s₂ t₂→∀s₃ t₃,runNI M.den M.prog M.w (k+1) s t=.running s₃ t₃→stepI M.den M.prog M.w s₂ t₂=.go s₃ t₃:=by
  intro k
  induction k with
  | zero=>
    intro s t h s₃ t₃ h'
    simp only [runNI,Run.running.injEq] at h
    obtain ⟨rfl,rfl⟩:=h
    simp only [runNI] at h'
    cases hs:stepI M.den M.prog M.w s t with
    | go a b=>rw [hs] at h';simp only [Run.running.injEq] at h';obtain ⟨rfl,rfl⟩:=h';rfl
    | halt o a=>rw [hs] at h';cases h'
  | succ k ih=>
    intro s t h s₃ t₃ h'
    rw [runNI] at h h'
    cases hs:stepI M.den M.prog M.w s t with
    | go a b=>rw [hs] at h h';exact ih a b h s₃ t₃ h'
    | halt o a=>rw [hs] at h;cases h
 have hgo:=key k s t h₂ s₃ t₃ h₃
 rw [Thread.calm_eq]
 cases hl:t₂.loud with
 | true=>rw [stepI_loud _ _ _ hl] at hgo;cases hgo
 | false=>
   rw [stepI_quiet _ _ _ hl] at hgo
   cases hr:t₂.refused with
   | true=>obtain ⟨what,e⟩:=stepK_refused M.den M.prog M.w (s:=s₂) hr;rw [e] at hgo;cases hgo
   | false=>rfl
end
section
variable {α:Type} {tb:String→Option Builtin} {p:Program} {w:World} {n₀:Nat} {ann:Option Value} {B:List Frame} {K':α→Sem Fin} {H':Value→Sem Fin} {gd:Bool→Bool} {lv:List Value→List Value} {res:α→Flow}
theorem calm_of_stepOk {t:Thread} (h:stepOk n₀ ann t=true):t.calm=true:=(Bool.and_eq_true_iff.mp h).1
noncomputable def oracleIds:List String:=["set.update.loop","frozenset.__or__","frozenset.__sub__"]
noncomputable def isOrc (t:Thread):Bool:=match t.cur with
 | .call (.builtin id _) ..=>oracleIds.contains id
 | .call (.call (.builtin id) _) ..=>oracleIds.contains id
 | _=>false
noncomputable def orcDepth:Nat:=600
noncomputable def okSt (h:Option Value) (st:List Frame):Bool:=h.isNone&&(topHandled st).isNone&&(topHandled.go true st).isNone&&(splitAtGen st).isNone
noncomputable def orcA:Around:={ depth:=orcDepth,units:=100}
noncomputable def okBelow (l:List (Code×Pos)):Bool:=Nat.ble (frameCount l) orcDepth&&Nat.ble (unitsOf l) 100
noncomputable def orcC (c:Code) (l:List (Code×Pos)):Ctx:=⟨c,none,none,l,none⟩
theorem orcC_below {c:Code} {l:List (Code×Pos)} (h:okBelow l=true):(orcC c l).Below orcA:=by
 simp only [okBelow,Bool.and_eq_true,Nat.ble_eq] at h
 exact ⟨rfl,h.1,fun _ q=>(nomatch q),fun _ q=>(nomatch q),h.2⟩
structure Orc where
 code:Code
 below:List (Code×Pos)
 pos:Pos
 pre:SharedT
theorem noS {β:Type} {a:β} {P:Prop} (h:none=some a):P:=nomatch h
noncomputable def callK {α:Type}:Sem α→Option (Code×Option Value×(Result→Sem α))
 | .call c h _ _ k=>some (c,h,k)
 | _=>none
theorem callK_is {α:Type} {x:Sem α} {y:Code×Option Value×(Result→Sem α)} (e:callK x=some y):∃g l,x=.call y.1 y.2.1 g l y.2.2:=by
 cases x with
 | call c h g l k=>exact ⟨g,l,by cases e;rfl⟩
 | _=>exact noS e
noncomputable def leapOf (t:Thread) (v:Value):Option (Code×Thread):=match callK t.cur with
 | some y=>match okSt y.2.1 t.stack with
   | true=>some (y.1,⟨y.2.2 (.ok (.ret v)),t.code,t.pos,t.stack⟩)
   | false=>none
 | none=>none
noncomputable def segG (orc:Thread→Bool) (tb:String→Option Builtin) (p:Program) (w:World) (n₀:Nat) (ann:Option Value) (b:Nat):Nat→List (Value×SharedT)→SharedT→Thread→Option (List Orc×Flow×SharedT×Code×Pos)
 | 0,_,_,_=>none
 | n+1,os,s,t=>match endAt b t with
   | some f=>match os with
     | []=>some ([],f,s,t.code,t.pos)
     | _::_=>none
   | none=>match orc t with
     | true=>match os with
       | o::rest=>match leapOf t o.1 with
         | some x=>(segG orc tb p w n₀ ann b n rest o.2 x.2).map fun y=>(⟨x.1,(t.code,t.pos)::t.stack.map Frame.where_,t.pos,s⟩::y.1,y.2)
         | none=>none
       | []=>none
     | false=>match stepOk n₀ ann t with
       | false=>none
       | true=>match stepT (denote tb) p w s t with
         | some x=>segG orc tb p w n₀ ann b n os x.1 x.2
         | none=>none
noncomputable abbrev segOT:=segG isOrc
theorem segG_of {tb:String→Option Builtin} {p:Program} {w:World} {n₀:Nat} {ann:Option Value} {b:Nat} {r:Flow×SharedT×Code×Pos}:∀{n:Nat} {s:SharedT} {t:Thread},segRunT tb p w n₀ ann b n s t=some r→segG (fun _=>false) tb p w n₀ ann b n [] s t=some ([],r)
 | 0,_,_,h=>nomatch h
 | n+1,s,t,h=>by
   unfold segRunT at h
   unfold segG
   cases he:endAt b t with
   | some g=>rw [he] at h;cases h;rfl
   | none=>
     rw [he] at h
     cases hk:stepOk n₀ ann t with
     | false=>rw [hk] at h;cases h
     | true=>
       rw [hk] at h
       cases hs:stepT (denote tb) p w s t with
       | none=>rw [hs] at h;cases h
       | some x=>rw [hs] at h;exact segG_of h
theorem Goes.call {M:Model} {c code:Code} {h:Option Value} {g:Bool} {l:List Value} {k:Result→Sem Fin} {pos:Pos} {st:List Frame} {s s':Shared} {r:Result}
 (hc:wpCode M (orcC c ((code,pos)::st.map Frame.where_)) (fun r' s''=>r'=r∧s''=s') pos s) (ho:okSt h st=true) (hst:st≠[]):
 Goes M.den M.prog M.w s ⟨.call c h g l k,code,pos,st⟩ s' ⟨k r,code,pos,st⟩:=by
 simp only [okSt,Bool.and_eq_true,Option.isNone_iff_eq_none] at ho
 obtain ⟨⟨⟨rfl,o1⟩,o2⟩,o3⟩:=ho
 have hf:=Ctx.fits_of code st
 have hΓ:(Ctx.of code st).enter c none pos=orcC c ((code,pos)::st.map Frame.where_):=by
  have e:ownFrames st=st:=by unfold ownFrames;rw [o3]
  show (⟨c,markOver none (topHandled st) (topHandled.go true st),markOver none (topHandled (ownFrames st)) none,(code,pos)::st.map Frame.where_,topHandled.go true st⟩:Ctx)=_
  rw [e,o1,o2];rfl
 rw [←hΓ] at hc
 obtain ⟨r',s₁,hr,rfl,rfl⟩:=hc
 refine Goes.of_comes ?_
 have hup:∀t c p (pre:List Frame) (F:Frame),(fun th:Thread=>th.stack≠[]) ⟨t,c,p,pre++F::st⟩:=fun t c p pre F=>by simp
 obtain ⟨t',c',p',pre',hc₁,hx⟩:=(runs_reach hr _ (hf.enter c k none g l pos [])).comesBy (Good:=fun th=>th.stack≠[]) (fun t c p pre=>hup t c p pre _)
 obtain ⟨rfl,rfl⟩:=hx
 exact .step hst (step_call ..) (.trans hc₁ (.step (hup _ _ _ [] _) (step_leaf_ret ..) (.refl _ _)))
section
variable {s s₂:Shared} {t t' t₂:Thread} {g:Flow}
abbrev RelK (K':α→Sem Fin) (H':Value→Sem Fin) (gd:Bool→Bool) (lv:List Value→List Value) (B:List Frame) (res:α→Flow):Thread→Thread→Prop:=Rel2 (fun a=>.pure (.done (res a))) K' deadEnd H' gd lv B
noncomputable def pureP:Sem Fin→Option Flow
 | .pure (.done f)=>some f
 | _=>none
noncomputable def pureA {α:Type}:Sem α→Option α
 | .pure a=>some a
 | _=>none
theorem pureP_wrap (x:Sem α):pureP (x.wrap (fun a=>.pure (.done (res a))) deadEnd gd lv)=(pureA x).map res:=by cases x<;>rfl
theorem pureA_is {x:Sem α} {a:α} (h:pureA x=some a):x=.pure a:=by
 cases x with
 | pure b=>exact congrArg Sem.pure (Option.some.inj h)
 | _=>exact noS h
theorem endAt_eq (b:Nat) (t:Thread):endAt b t=if t.stack.length=b then pureP t.cur else none:=by
 obtain ⟨cur,code,pos,st⟩:=t
 delta endAt
 by_cases h:st.length=b
 ·rw [if_pos h,beq_iff_eq.mpr h]
  cases cur with
  | pure f=>cases f<;>rfl
  | _=>rfl
 ·rw [if_neg h,beq_eq_false_iff_ne.mpr h]
theorem rel_end (R:RelK K' H' gd lv B res t t') (he:endAt B.length t=some g):∃a,res a=g∧t'=⟨K' a,t.code,t.pos,B⟩:=by
 obtain ⟨cur,code,pos,st⟩:=t
 obtain ⟨cur',code',pos',st'⟩:=t'
 obtain ⟨e1,e2,R⟩:=R
 cases e1;cases e2
 rw [endAt_eq] at he
 rcases R with ⟨h1,h2,x,hx,hx'⟩ | ⟨_,F⟩
 ·cases h1;cases h2;cases hx;cases hx'
  rw [if_pos rfl,pureP_wrap] at he
  obtain ⟨a,ha,e⟩:=Option.map_eq_some_iff.mp he
  exact ⟨a,e,by rw [pureA_is ha];rfl⟩
 ·rw [if_neg (Nat.ne_of_gt F.longer.1)] at he
  cases he
theorem rel_ne (hB0:B≠[]) (R:RelK K' H' gd lv B res t t'):t'.stack≠[]:=by
 obtain ⟨_,_,⟨_,e,_⟩ | ⟨_,F⟩⟩:=R
 ·exact e▸hB0
 ·exact fun q=>absurd (q▸F.longer.2) (Nat.not_lt_zero _)
theorem rel_step (hB:splitAtGen B=none) (R:RelK K' H' gd lv B res t t') (he:endAt B.length t=none) (hk:stepOk n₀ ann t=true) (hs:PySem.step (denote tb) p w s t=.go s₂ t₂):
 stepOk n₀ ann t'=true∧∃t₂',PySem.step (denote tb) p w s t'=.go s₂ t₂'∧RelK K' H' gd lv B res t₂ t₂':=by
 obtain ⟨cur,code,pos,st⟩:=t
 obtain ⟨cur',code',pos',st'⟩:=t'
 obtain ⟨e1,e2,R⟩:=R
 cases e1;cases e2
 rcases R with ⟨h1,h2,x,hx,hx'⟩ | ⟨h1,F⟩
 ·cases h1;cases h2;cases hx;cases hx'
  rw [endAt_eq,if_pos rfl,pureP_wrap] at he
  have hp:∀a,x≠.pure a:=fun a e=>by rw [e] at he;cases he
  have hr:∀e,x≠.raise e:=fun e q=>by
   obtain ⟨heap,gens,drawn,toks,os⟩:=s
   subst q
   cases hs
  exact ⟨(okOuter (K':=K') (H':=H') hp hr hk).1,step_outer hB hp hs⟩
 ·cases h1
  exact ⟨(okInner hB F hk).1,step_inner hB F hs⟩
noncomputable def callP {α:Type} (x:Sem α):Option (Code×Option Value):=(callK x).map fun y=>(y.1,y.2.1)
theorem callP_wrap (x:Sem α):callP (x.wrap (fun a=>.pure (.done (res a))) deadEnd gd lv)=callP x:=by cases x<;>rfl
theorem callP_is {β:Type} {x:Sem β} {c:Code} {h:Option Value} (e:callP x=some (c,h)):∃g l k,x=.call c h g l k:=by
 obtain ⟨y,h1,h2⟩:=Option.map_eq_some_iff.mp e
 cases h2
 obtain ⟨g,l,h⟩:=callK_is h1
 exact ⟨g,l,_,h⟩
theorem leapOf_is {v:Value} {c:Code} (hl:leapOf t v=some (c,t₂)):∃h g l k,t=⟨.call c h g l k,t.code,t.pos,t.stack⟩∧okSt h t.stack=true∧t₂=⟨k (.ok (.ret v)),t.code,t.pos,t.stack⟩:=by
 delta leapOf at hl
 cases hk:callK t.cur with
 | none=>rw [hk] at hl;cases hl
 | some y=>
   rw [hk] at hl
   dsimp only at hl
   cases hok:okSt y.2.1 t.stack with
   | false=>rw [hok] at hl;cases hl
   | true=>
     rw [hok] at hl
     cases hl
     obtain ⟨g,l,e⟩:=callK_is hk
     exact ⟨_,g,l,_,by rw [←e],hok,rfl⟩
theorem okSt_like {h:Option Value} {st st':List Frame} (hB:splitAtGen B=none) (F:Frames2 (fun a=>.pure (.done (res a))) K' deadEnd H' gd lv B st st') (hok:okSt h st=true):okSt h st'=true:=by
 have g1:=F.go true
 have g2:topHandled st=topHandled st':=F.go false
 unfold okSt at hok ⊢
 rw [←g1,←g2]
 rcases F.split hB with ⟨u,v⟩ | ⟨fs,n,k,k',c,p,ra,rb,u,v,_⟩
 ·rw [u] at hok;rw [v];exact hok
 ·rw [u] at hok;simp at hok
theorem rel_leap {v:Value} {c:Code} {s s':Shared} (hB:splitAtGen B=none) (hB0:B≠[]) (R:RelK K' H' gd lv B res t t') (hl:leapOf t v=some (c,t₂)) (hw:wpCode ⟨denote tb,p,w⟩ (orcC c ((t.code,t.pos)::t.stack.map Frame.where_)) (fun x s''=>x=.ok (.ret v)∧s''=s') t.pos s):
 ∃t₂',RelK K' H' gd lv B res t₂ t₂'∧Goes (denote tb) p w s t' s' t₂':=by
 have ne:=rel_ne hB0 R
 obtain ⟨h,g,l,k,et,hok,e2⟩:=leapOf_is hl
 subst e2
 obtain ⟨cur,code,pos,st⟩:=t
 obtain ⟨cur',code',pos',st'⟩:=t'
 obtain ⟨e1,e2,R⟩:=R
 cases e1;cases e2;cases et
 rcases R with ⟨h1,h2,x,hx,hx'⟩ | ⟨h1,F⟩
 ·have hc:=callP_wrap (res:=res) (gd:=gd) (lv:=lv) x
  rw [←hx] at hc
  obtain ⟨g₁,l₁,k₁,e⟩:=callP_is hc.symm
  subst e
  cases h1;cases h2;cases hx';cases hx
  refine ⟨⟨(k₁ (.ok (.ret v))).wrap K' H' gd lv,code,pos,st⟩,⟨rfl,rfl,.inl ⟨rfl,rfl,_,rfl,rfl⟩⟩,?_⟩
  exact Goes.call (M:=⟨denote tb,p,w⟩) hw hok ne
 ·cases h1
  exact ⟨⟨k (.ok (.ret v)),code,pos,st'⟩,⟨rfl,rfl,.inr ⟨rfl,F⟩⟩,Goes.call (M:=⟨denote tb,p,w⟩) (by rw [←F.where_];exact hw) (okSt_like hB F hok) ne⟩
end
def Leaps (p:Program) (w:World):List Orc→List (Value×SharedT)→Prop
 | [],[]=>True
 | ⟨c,b,q,s⟩::r,(v,s')::r'=>wpCode ⟨denote treeTable,p,w⟩ (orcC c b) (fun x s''=>x=.ok (.ret v)∧s''=s'.abs) q s.abs∧Leaps p w r r'
 | _,_=>False
theorem Goes.of_segG {orc:Thread→Bool} (hB:splitAtGen B=none) (hB0:B≠[]):∀(n:Nat) (os:List (Value×SharedT)) (s:SharedT) (t t':Thread) (log:List Orc) (f:Flow) (s':SharedT) (c':Code) (p':Pos),RelK K' H' gd lv B res t t'→
 segG orc treeTable p w n₀ ann B.length n os s t=some (log,f,s',c',p')→Leaps p w log os→∃a,res a=f∧Goes (denote treeTable) p w s.abs t' s'.abs ⟨K' a,c',p',B⟩:=by
 intro n
 induction n with
 | zero=>intro os s t t' log f s' c' p' R h;cases h
 | succ n ih=>
 intro os s t t' log f s' c' p' R h hL
 unfold segG at h
 cases he:endAt B.length t with
 | some g=>
   rw [he] at h
   cases os with
   | cons _ _=>cases h
   | nil=>
     cases h
     obtain ⟨a,ha,e⟩:=rel_end R he
     exact ⟨a,ha,e▸Goes.refl _ _⟩
 | none=>
   rw [he] at h
   cases ho:orc t with
   | true=>
     rw [ho] at h
     cases os with
     | nil=>cases h
     | cons o rest=>
     cases hl:leapOf t o.1 with
     | none=>simp only [hl] at h;cases h
     | some x=>
       simp only [hl] at h
       obtain ⟨⟨log',f₂,s₃,c₃,p₃⟩,h1,h2⟩:=Option.map_eq_some_iff.mp h
       cases h2
       obtain ⟨t₂',R',hg⟩:=rel_leap hB hB0 R hl hL.1
       obtain ⟨a,ha,hN⟩:=ih rest o.2 x.2 t₂' _ _ _ _ _ R' h1 hL.2
       exact ⟨a,ha,hg.trans hN⟩
   | false=>
   rw [ho] at h
   cases hk:stepOk n₀ ann t with
   | false=>rw [hk] at h;cases h
   | true=>
     rw [hk] at h
     cases hs:stepT (denote treeTable) p w s t with
     | none=>rw [hs] at h;cases h
     | some x=>
       rw [hs] at h
       obtain ⟨k1,t₂',k3,R'⟩:=rel_step hB R he hk (stepT_spec hs)
       obtain ⟨a,ha,hN⟩:=ih os x.1 x.2 t₂' log f s' c' p' R' h hL
       exact ⟨a,ha,.step (fine_stack (calm_of_stepOk k1) (rel_ne hB0 R)) k3 hN⟩
end
section
variable {tb:String→Option Builtin} {p:Program} {w:World} {n₀:Nat} {ann:Option Value} {env:Env}
noncomputable def goT (tb:String→Option Builtin) (p:Program) (w:World):Nat→SharedT→Thread→Option (SharedT×Thread)
 | 0,s,t=>some (s,t)
 | n+1,s,t=>match t.calm&&t.atExitBegin.isNone with
   | false=>none
   | true=>match stepT (denote tb) p w s t with
     | some (s',t')=>goT tb p w n s' t'
     | none=>none
theorem goes_go:∀{n:Nat} {s s':SharedT} {t t':Thread},goT tb p w n s t=some (s',t')→Goes (denote tb) p w s.abs t s'.abs t'
 | 0,s,s',t,t',h=>by
   obtain ⟨rfl,rfl⟩:s=s'∧t=t':=by simpa [goT] using h
   exact .refl _ _
 | n+1,s,s',t,t',h=>by
   unfold goT at h
   cases hk:(t.calm&&t.atExitBegin.isNone) with
   | false=>rw [hk] at h;cases h
   | true=>
     rw [hk] at h
     cases hs:stepT (denote tb) p w s t with
     | none=>rw [hs] at h;cases h
     | some x=>
       obtain ⟨s₂,t₂⟩:=x
       rw [hs] at h
       obtain ⟨k1,k2⟩:=Bool.and_eq_true_iff.mp hk
       exact .step ⟨k1,Option.isNone_iff_eq_none.mp k2⟩ (stepT_spec hs) (goes_go h)
noncomputable def callOf (t:Thread):Option (Code×Option Value×Code×Pos):=match t.stack with
 | []=>(callK t.cur).map fun y=>(y.1,y.2.1,t.code,t.pos)
 | _::_=>none
noncomputable def retOf (t:Thread) (r:Result):Thread:=match t with
 | ⟨.call _ _ _ _ k,code,pos,st⟩=>⟨k r,code,pos,st⟩
 | t=>t
theorem callOf_is {t:Thread} {c code:Code} {h:Option Value} {pos:Pos} (e:callOf t=some (c,h,code,pos)):∃g l k,t=⟨.call c h g l k,code,pos,[]⟩:=by
 obtain ⟨cur,cd,ps,st⟩:=t
 cases st with
 | cons _ _=>cases e
 | nil=>
   obtain ⟨y,h1,h2⟩:=Option.map_eq_some_iff.mp e
   cases h2
   obtain ⟨g,l,rfl⟩:=callK_is h1
   exact ⟨g,l,_,rfl⟩
theorem goes_enter {s:Shared} {b:List Stmt} {e:Env} {code:Code} {g:Bool} {l:List Value} {k:Result→Sem Fin} {pos:Pos} (hc:code=.builtin "boot" {}∨code=.builtin "claim.caller" {}):
 Goes (denote tb) p w s ⟨.call (.body b e) none g l k,code,pos,[]⟩ s ⟨denote tb (.body b e),.body b e,pos,[.ret k none g l code pos []]⟩:=by
 refine .step ⟨?_,rfl⟩ (t₁:=⟨denote tb (.body b e),.body b e,pos,[.ret k none g l code pos []]⟩) (s₁:=s) ?_ (.refl _ _)
 ·rcases hc with rfl | rfl<;>rfl
 ·obtain ⟨heap,gens,drawn,toks,os⟩:=s
  rfl
theorem goes_leave {s:Shared} {c code:Code} {g:Bool} {l:List Value} {k:Result→Sem Fin} {pos q:Pos} {f:Flow} {b:List Stmt} {env:Env} (hc:c=.body b env):
 Goes (denote tb) p w s ⟨.pure (.done f),c,q,[.ret k none g l code pos []]⟩ s ⟨k (.ok f),code,pos,[]⟩:=by
 subst hc
 refine .step (fine_stack (by rfl) (by simp)) (t₁:=⟨k (.ok f),code,pos,[]⟩) (s₁:=s) ?_ (.refl _ _)
 obtain ⟨heap,gens,drawn,toks,os⟩:=s
 rfl
variable {F:Frame} (hF:splitAtGen [F]=none)
include hF
theorem goes_piece {n:Nat} {s s':SharedT} {l rest:List Stmt} {c:Code} {pos p':Pos} (h:segRunT treeTable p w n₀ ann 1 n s (piecesOf l env c pos [F])=some (.next,s',c,p')):
 Goes (denote treeTable) p w s.abs (restOf (l++rest) env c pos [F]) s'.abs (restOf rest env c p' [F]):=by
 obtain ⟨a,ha,hN⟩:=Goes.of_segG (orc:=fun _=>false) (res:=id) (K':=fun f=>match f with | .next=>(execs rest env).wrap doneF (leaveH env) id id | f=>doneF f) (H':=leaveH env) (B:=[F]) hF (by simp) n [] s (piecesOf l env c pos [F])
  ⟨(execs l env).wrap (fun f=>match f with | .next=>(execs rest env).wrap doneF (leaveH env) id id | f=>doneF f) (leaveH env) id id,c,pos,[F]⟩ _ _ _ _ _ ⟨rfl,rfl,.inl ⟨rfl,rfl,_,rfl,rfl⟩⟩ (segG_of h) trivial
 obtain rfl:a=.next:=ha
 unfold restOf
 rw [execs_app_wrap]
 exact hN
theorem goes_pieceO {n:Nat} {os:List (Value×SharedT)} {log:List Orc} {s s':SharedT} {l rest:List Stmt} {c:Code} {pos p':Pos} (h:segOT treeTable p w n₀ ann 1 n os s (piecesOf l env c pos [F])=some (log,.next,s',c,p')) (hL:Leaps p w log os):
 Goes (denote treeTable) p w s.abs (restOf (l++rest) env c pos [F]) s'.abs (restOf rest env c p' [F]):=by
 obtain ⟨a,ha,hN⟩:=Goes.of_segG (orc:=isOrc) (res:=id) (K':=fun f=>match f with | .next=>(execs rest env).wrap doneF (leaveH env) id id | f=>doneF f) (H':=leaveH env) (B:=[F]) hF (by simp) n os s (piecesOf l env c pos [F])
  ⟨(execs l env).wrap (fun f=>match f with | .next=>(execs rest env).wrap doneF (leaveH env) id id | f=>doneF f) (leaveH env) id id,c,pos,[F]⟩ _ _ _ _ _ ⟨rfl,rfl,.inl ⟨rfl,rfl,_,rfl,rfl⟩⟩ h hL
 obtain rfl:a=.next:=ha
 unfold restOf
 rw [execs_app_wrap]
 exact hN
theorem goes_block {n:Nat} {s s':SharedT} {b:List Stmt} {c:Code} {pos p':Pos} (h:segRunT treeTable p w n₀ ann 1 n s (blockOf b env c pos [F])=some (.next,s',c,p')):
 Goes (denote treeTable) p w s.abs ⟨denote treeTable (.body b env),c,pos,[F]⟩ s'.abs (restOf b env c p' [F]):=by
 obtain ⟨a,ha,hN⟩:=Goes.of_segG (orc:=fun _=>false) (res:=fun _:Unit=>Flow.next) (K':=fun _=>(execs b env).wrap doneF (leaveH env) id id) (H':=Sem.raise) (B:=[F]) hF (by simp) n [] s (blockOf b env c pos [F])
  ⟨(blockStart b env).wrap (fun _=>(execs b env).wrap doneF (leaveH env) id id) .raise id id,c,pos,[F]⟩ _ _ _ _ _ ⟨rfl,rfl,.inl ⟨rfl,rfl,_,rfl,rfl⟩⟩ (segG_of h) trivial
 rw [body_wrap]
 exact hN
theorem goes_pieceD {n j m:Nat} {s s':SharedT} {b:List Stmt} {c:Code} {pos p':Pos} (h:segRunT treeTable p w n₀ ann 1 n s (piecesOf ((b.drop j).take m) env c pos [F])=some (.next,s',c,p')):
 Goes (denote treeTable) p w s.abs (restOf (b.drop j) env c pos [F]) s'.abs (restOf (b.drop (j+m)) env c p' [F]):=by
 have:=goes_piece hF (rest:=(b.drop j).drop m) h
 rw [List.take_append_drop,List.drop_drop] at this
 exact this
theorem goes_pieceOD {n j m:Nat} {os:List (Value×SharedT)} {log:List Orc} {s s':SharedT} {b:List Stmt} {c:Code} {pos p':Pos} (h:segOT treeTable p w n₀ ann 1 n os s (piecesOf ((b.drop j).take m) env c pos [F])=some (log,.next,s',c,p')) (hL:Leaps p w log os):
 Goes (denote treeTable) p w s.abs (restOf (b.drop j) env c pos [F]) s'.abs (restOf (b.drop (j+m)) env c p' [F]):=by
 have:=goes_pieceO hF (rest:=(b.drop j).drop m) h hL
 rw [List.take_append_drop,List.drop_drop] at this
 exact this
end
section
variable {tb:String→Option Builtin} {p:Program} {w:World}
theorem goes_nil {s:Shared} {b:List Stmt} {env:Env} {c:Code} {pos:Pos} {B:List Frame} {j:Nat} (h:b.drop j=[]):Goes (denote tb) p w s (restOf (b.drop j) env c pos B) s ⟨doneF .next,c,pos,B⟩:=by
 rw [h];exact .refl _ _
theorem body_goes {α:Type} {f:Thread→α} {v:α} {k0 k3:Nat} {st0 S0 S2 S4:SharedT} {th0:Thread} {b:List Stmt} {e:Env} {code:Code} {pos q2:Pos} (hc:code=.builtin "boot" {}∨code=.builtin "claim.caller" {})
 (h0:(goT tb p w k0 st0 th0).map (fun x=>(x.1,callOf x.2))=some (S0,some (.body b e,none,code,pos)))
 (hB:∀k g l,Goes (denote tb) p w S0.abs ⟨denote tb (.body b e),.body b e,pos,[.ret k none g l code pos []]⟩ S2.abs ⟨doneF .next,.body b e,q2,[.ret k none g l code pos []]⟩)
 (hE:(goT tb p w k0 st0 th0).bind (fun x=>(goT tb p w k3 S2 (retOf x.2 (.ok .next))).map fun y=>(y.1,f y.2))=some (S4,v)):
 ∃t4,f t4=v∧Goes (denote tb) p w st0.abs th0 S4.abs t4:=by
 obtain ⟨⟨s,t⟩,e1,e2⟩:=Option.map_eq_some_iff.mp h0
 simp only [Prod.mk.injEq] at e2
 obtain ⟨rfl,e3⟩:=e2
 obtain ⟨g,l,k,rfl⟩:=callOf_is e3
 rw [e1] at hE
 obtain ⟨⟨s4,t4⟩,h1,h2⟩:=Option.map_eq_some_iff.mp (show (goT tb p w k3 S2 ⟨k (.ok .next),code,pos,[]⟩).map (fun y=>(y.1,f y.2))=some (S4,v) from hE)
 simp only [Prod.mk.injEq] at h2
 obtain ⟨rfl,h3⟩:=h2
 exact ⟨t4,h3,(goes_go e1).trans ((goes_enter hc).trans ((hB k g l).trans ((goes_leave rfl).trans (goes_go h1))))⟩
theorem forget_exact {s s':Shared} (h:s.forget=s'.forget) (hg:s'.gens=#[]∨s'.gens=#[.finished]):s=s':=by
 refine Shared.eq_of_forget_eq' h ?_
 rcases hg with hg | hg
 ·intro g hgm;rw [hg] at hgm;simp at hgm
 ·intro g hgm;rw [hg] at hgm;simp at hgm;subst hgm;rfl
theorem afterRun_of {po:Program} {s4:Shared} {t4:Thread} (ht:t4.atExitBegin=some []) (hg:s4.gens=#[]) (h:Goes (denote treeTable) po w (start po).1 (start po).2 s4 t4):AfterRun po w s4:=by
 obtain ⟨n,σ,τ,h1,h2,h3,h4⟩:=h
 rw [←table_eq_tree] at h1 h4
 have e:=forget_exact h2 (.inl hg)
 subst e
 exact ⟨n,τ,h1,by rw [←atExitBegin_forget,h3,atExitBegin_forget];exact ht,fun k hk s' t' hr=>(h4 k hk s' t' hr).2⟩
theorem topRun_of {s s':Shared} {t:Thread} (hz:s.asleep) (ht:through t=true) (hg:s'.gens=#[]∨s'.gens=#[.finished]) (h:Goes (denote treeTable) p w s (topStub p) s' t):
 (∃n t,schedN (denote table) p w n (.single s (topStub p))=.running (.single s' t)∧through t=true)∧s'.heap.life=s.heap.life:=by
 obtain ⟨n,σ,τ,h1,h2,h3,h4⟩:=h
 rw [←table_eq_tree] at h1 h4
 have e:=forget_exact h2 hg
 subst e
 have hthr:through τ=true:=by
  obtain ⟨cur,code,pos,st⟩:=τ
  obtain ⟨cur',code',pos',st'⟩:=t
  simp only [Thread.forget,Thread.mk.injEq] at h3
  obtain ⟨rfl,_,_,h5⟩:=h3
  have:st.isEmpty=st'.isEmpty:=by
   cases st with
   | nil=>cases st' with
     | nil=>rfl
     | cons F r=>cases h5
   | cons F r=>cases st' with
     | nil=>cases h5
     | cons F' r'=>rfl
  unfold through at ht ⊢
  dsimp only at ht ⊢
  rw [this];exact ht
 refine ⟨⟨n,τ,?_,hthr⟩,runN_lifeR n s (topStub p) σ τ h1⟩
 have:=schedN_prefix (den:=denote table) (prog:=p) (w:=w) n s (topStub p) hz fun k s' t' hk hr=>⟨(h4 k hk s' t' hr).1,fun q=>?_⟩
 ·rw [this,h1];rfl
 ·
  have key:∀(k:Nat) (s:Shared) (t:Thread),runN (denote table) p w k s t=.running s' t'→∀n,k <n→∀a b,runN (denote table) p w n s t=.running a b→∃a b,step (denote table) p w s' t'=.go a b:=by
   intro k
   induction k with
   | zero=>
     intro s t h n hn a b h'
     simp only [runN,Run.running.injEq] at h
     obtain ⟨rfl,rfl⟩:=h
     obtain ⟨m,rfl⟩:∃m,n=m+1:=⟨n -1,by refine' qP ‹_›⟩
     simp only [runN] at h'
     cases hs:step (denote table) p w s t with
     | go a b=>exact ⟨a,b,rfl⟩
     | halt o a=>rw [hs] at h';cases h'
   | succ k ih=>
     intro s t h n hn a b h'
     obtain ⟨m,rfl⟩:∃m,n=m+1:=⟨n -1,by refine' qP1 ‹_+1 <_›⟩
     simp only [runN] at h h'
     cases hs:step (denote table) p w s t with
     | go a₁ b₁=>rw [hs] at h h';exact ih a₁ b₁ h m (by refine' Nat.lt_of_succ_lt_succ ‹_›) a b h'
     | halt o a=>rw [hs] at h;cases h
  obtain ⟨a,b,hab⟩:=key k s (topStub p) hr n hk _ _ h1
  rw [hab] at q;cases q
where
 runN_lifeR (n:Nat) (s:Shared) (t:Thread) (s':Shared) (t':Thread) (h:runN (denote table) p w n s t=.running s' t'):s'.heap.life=s.heap.life:=by
  induction n generalizing s t with
  | zero=>simp only [runN,Run.running.injEq] at h;obtain ⟨rfl,_⟩:=h;rfl
  | succ n ih=>
    simp only [runN] at h
    cases hs:step (denote table) p w s t with
    | go a b=>rw [hs] at h;exact (ih a b h).trans (step_life _ p w s a t b hs)
    | halt o a=>rw [hs] at h;cases h
end
end
end
section
open PySem PySem.W PyProof.Rows
set_option maxRecDepth 1000000
section
noncomputable abbrev S_ (x:String):Str:=Str.ofString x
noncomputable def dS:Stmt:=.Pass ⟨0,0,0,0⟩
noncomputable def pO:Program:=opening PySem.Challenge.pw_kq0034_05
noncomputable def opb:List Stmt:=pO.main.body
noncomputable def bod:List Stmt:=behindTheImports PySem.Challenge.pw_kq0034_05
noncomputable def clB:Stmt→List Stmt
 | .ClassDef _ _ _ b ..=>b
 | _=>[]
noncomputable def fdA:Stmt→Arguments
 | .FunctionDef _ a ..=>a
 | _=>default
noncomputable def fdB:Stmt→List Stmt
 | .FunctionDef _ _ b ..=>b
 | _=>[]
noncomputable def fdS:Stmt→Scope
 | .FunctionDef _ _ _ _ _ _ s ..=>s
 | _=>default
noncomputable def lmA:Stmt→Arguments
 | .Assign _ (.Lambda a ..) _=>a
 | _=>default
noncomputable def lmB:Stmt→Expr
 | .Assign _ (.Lambda _ b ..) _=>b
 | _=>default
noncomputable def lmS:Stmt→Scope
 | .Assign _ (.Lambda _ _ s _) _=>s
 | _=>default
noncomputable def bs (i:Nat):Stmt:=bod.getD i dS
noncomputable def ns (s:Stmt) (i:Nat):Stmt:=match s with
 | .FunctionDef _ _ b ..=>b.getD i dS
 | .ClassDef _ _ _ b ..=>b.getD i dS
 | _=>dS
abbrev Sx:=Array (Int×Value)×Nat×SetTable
noncomputable def fz (x:Sx):Obj:=⟨.type "frozenset",none,.set x.1 x.2.1 x.2.2,#[]⟩
noncomputable def fz0 (P:Params):Obj:=⟨.type "frozenset",none,.set #[] 0 (.fresh 0 0 (!P.followText "set-order")),#[]⟩
noncomputable abbrev vN:Value:=.none
noncomputable abbrev vI (i:Int):Value:=.int i 0
noncomputable abbrev vS (x:String) (t:Nat):Value:=.str (S_ x) t
noncomputable abbrev vR (a:Nat):Value:=.ref a
noncomputable def eb (P:Params) (x:String) (t:Nat) (b:String):DictEntry:=⟨PyData.keyHash P (S_ x),.str (S_ x) t,.builtin b⟩
noncomputable def er (P:Params) (x:String) (t:Nat) (a:Nat):DictEntry:=⟨PyData.keyHash P (S_ x),.str (S_ x) t,.ref a⟩
noncomputable def et (P:Params) (x:String) (t:Nat) (b:String):DictEntry:=⟨PyData.keyHash P (S_ x),.str (S_ x) t,.type b⟩
noncomputable def es (P:Params) (x:String) (t:Nat) (v:Value):DictEntry:=⟨PyData.keyHash P (S_ x),.str (S_ x) t,v⟩
noncomputable def tO (l:List Value):Obj:=⟨.type "tuple",none,.seq ⟨l⟩ 0,#[]⟩
noncomputable def gO (c:String) (l:List Value):Obj:=⟨.type c,none,.fields ⟨l⟩,#[]⟩
noncomputable def fO (cls:Value) (n:String) (st:Stmt) (lam:Bool:=false) (q:Option String:=none) (gl:Nat:=0) (cl:List (Str×Addr):=[]) (df:Value:=.none) (kd:Value:=.none) (dc:Value:=.none) (pm:Value:=.none) (an:Option Addr:=none) (cd:Value:=.none) (ct:Value:=.none) (bt:Nat:=0) (di:Option Addr:=none):Obj:=
 ⟨cls,di,.func { name:=S_ n,qualname:=S_ (match q with | none=>n | some x=>x),params:=match lam with | true=>lmA st | false=>fdA st,body:=match lam with | true=>.expr (lmB st) | false=>.stmts (fdB st),scope:=match lam with | true=>lmS st | false=>fdS st,globals:=gl,closure:=cl,defaults:=df,kwdefaults:=kd,doc:=dc,pyModule:=pm,annotations:=an,code:=cd,closureTuple:=ct,builtins:=bt},#[]⟩
noncomputable def mo (o:Obj) (l:List DictEntry) (n:Nat):Obj:=match o with
 | ⟨c,d,.dict es _,s⟩=>⟨c,d,.dict ⟨es.toList++l⟩ n,s⟩
 | o=>o
noncomputable def mc (o:Obj) (i:Nat) (e:DictEntry):Obj:=match o with
 | ⟨c,d,.dict es n,s⟩=>⟨c,d,.dict ⟨es.toList.set i e⟩ n,s⟩
 | o=>o
noncomputable abbrev nd:=BT.node
noncomputable abbrev nl:BT:=.nil
noncomputable abbrev lf (o:Obj):BT:=.node o .nil .nil
noncomputable def iN:BT→Nat→List Obj→BT
 | t,_,[]=>t
 | t,n,o::l=>iN (t.ins n o) (n+1) l
noncomputable def sN:BT→List (Nat×Obj)→BT
 | t,[]=>t
 | t,x::l=>sN (t.set x.1 fun _=>x.2) l
noncomputable def segRunD (den:Code→Sem Fin) (p:Program) (w:World) (n₀:Nat) (ann:Option Value) (b:Nat):Nat→SharedT→Thread→Option (Flow×SharedT×Code×Pos)
 | 0,_,_=>none
 | n+1,s,t=>match endAt b t with
   | some f=>some (f,s,t.code,t.pos)
   | none=>match stepOk n₀ ann t with
     | false=>none
     | true=>match stepT den p w s t with
       | some (s',t')=>segRunD den p w n₀ ann b n s' t'
       | none=>none
theorem segRunD_eq {tb:String→Option Builtin} {p:Program} {w:World} {n₀:Nat} {ann:Option Value} {b:Nat}:∀(n:Nat) (s:SharedT) (t:Thread),segRunT tb p w n₀ ann b n s t=segRunD (denote tb) p w n₀ ann b n s t
 | 0,_,_=>rfl
 | n+1,s,t=>by
   unfold segRunT segRunD
   cases endAt b t with
   | some f=>rfl
   | none=>
     cases stepOk n₀ ann t with
     | false=>rfl
     | true=>
       cases stepT (denote tb) p w s t with
       | none=>rfl
       | some x=>exact segRunD_eq n x.1 x.2
noncomputable def envO:Env:={ scope:=pO.main.scope,locals:=3,globals:=3,cells:=[],qual:=(S_ ""),func:=none,code:=(vR 9),frame:=(some 10),builtins:=0}
noncomputable def frO (k:Result→Sem Fin) (g:Bool) (l:List Value):Frame:=.ret k none g l (.builtin "boot" {}) ⟨0,0,0,0⟩ []
noncomputable def sX (l:List String):Str:=⟨(l.flatMap fun x=>(S_ x).cps.toList).toArray⟩
noncomputable def vs (l:List Int):List Value:=l.map vI
noncomputable def vt:Nat→List Int→List Value
 | _,[]=>[]
 | t,i::l=>.int i t::vt (t+1) l
noncomputable def ts:Nat→List String→List Value
 | _,[]=>[]
 | t,x::l=>vS x t::ts (t+1) l
noncomputable def bb (P:Params):Nat→List String→List DictEntry
 | _,[]=>[]
 | t,x::l=>eb P x t x::bb P (t+1) l
noncomputable def dO (l:List DictEntry) (n:Nat):Obj:=⟨.type "dict",none,.dict ⟨l⟩ n,⟨[]⟩⟩
noncomputable def vE:Obj:=⟨.none,none,.fields ⟨[]⟩,#[]⟩
noncomputable def ma (o:Obj) (l:List Value):Obj:=match o with
 | ⟨c,d,.fields v,s⟩=>⟨c,d,.fields ⟨v.toList++l⟩,s⟩
 | o=>o
noncomputable def cO (n q:String) (a:Nat) (l c p k f:Int) (r:Nat) (g:Bool) (x y z v:Value) (t:Nat):Obj:=gO "code" [vS n a,vS q (a+1),vS "/claim/cut.py" (a+2),vI l,vI c,vI p,vI k,vI f,vR r,.bool g,vI 482,vR (r+1),x,y,z,v,vI t,vI l,vS "/claim/cut.py" (t+1)]
noncomputable def fF (n:String) (s:Stmt) (m:String) (t c:Nat):Obj:=fO (.type "function") n s (gl:=3) (pm:=vS m t) (cd:=vR c)
section
variable (P:Params) (X:Nat→Sx)
include P
noncomputable def u0:Obj:=dO ([es P "__name__" 1 (vS "builtins" 160),eb P "__doc__" 2 "builtins.__doc__:str#opaque",eb P "__package__" 3 "builtins.__package__:str#opaque",eb P "__loader__" 4 "builtins.__loader__:shared#opaque",eb P "__spec__" 5 "builtins.__spec__#opaque"]++bb P 6 ["__build_class__","__import__","abs","all","any","ascii","bin","breakpoint","callable","chr","compile","delattr","dir","divmod","eval","exec","format","getattr","globals","hasattr","hash","hex","id","input","isinstance","issubclass","iter","aiter","len","locals","max","min","next","anext","oct","ord","pow","print","repr","round","setattr","sorted","sum","vars"]++[es P "None" 50 vN,es P "Ellipsis" 51 .ellipsis,es P "NotImplemented" 52 .notImplemented,es P "False" 53 (.bool false),es P "True" 54 (.bool true),et P "bool" 55 "bool",et P "memoryview" 56 "memoryview",et P "bytearray" 57 "bytearray",et P "bytes" 58 "bytes",et P "classmethod" 59 "classmethod",et P "complex" 60 "complex",et P "dict" 61 "dict",et P "enumerate" 62 "enumerate",et P "filter" 63 "filter",et P "float" 64 "float",et P "frozenset" 65 "frozenset",et P "property" 66 "property",et P "int" 67 "int",et P "list" 68 "list",et P "map" 69 "map",et P "object" 70 "object",et P "range" 71 "range",et P "reversed" 72 "reversed",et P "set" 73 "set",et P "slice" 74 "slice",et P "staticmethod" 75 "staticmethod",et P "str" 76 "str",et P "super" 77 "super",et P "tuple" 78 "tuple",et P "type" 79 "type",et P "zip" 80 "zip",es P "__debug__" 81 (.bool true),et P "BaseException" 82 "BaseException",et P "BaseExceptionGroup" 83 "BaseExceptionGroup",et P "Exception" 84 "Exception",et P "GeneratorExit" 85 "GeneratorExit",et P "KeyboardInterrupt" 86 "KeyboardInterrupt",et P "SystemExit" 87 "SystemExit",et P "ArithmeticError" 88 "ArithmeticError",et P "AssertionError" 89 "AssertionError",et P "AttributeError" 90 "AttributeError",et P "BufferError" 91 "BufferError",et P "EOFError" 92 "EOFError",et P "ImportError" 93 "ImportError",et P "LookupError" 94 "LookupError",et P "MemoryError" 95 "MemoryError",et P "NameError" 96 "NameError",et P "OSError" 97 "OSError",et P "ReferenceError" 98 "ReferenceError",et P "RuntimeError" 99 "RuntimeError",et P "StopAsyncIteration" 100 "StopAsyncIteration",et P "StopIteration" 101 "StopIteration",et P "SyntaxError" 102 "SyntaxError",et P "SystemError" 103 "SystemError",et P "TypeError" 104 "TypeError",et P "ValueError" 105 "ValueError",et P "Warning" 106 "Warning",et P "FloatingPointError" 107 "FloatingPointError",et P "OverflowError" 108 "OverflowError",et P "ZeroDivisionError" 109 "ZeroDivisionError",et P "BytesWarning" 110 "BytesWarning",et P "DeprecationWarning" 111 "DeprecationWarning",et P "EncodingWarning" 112 "EncodingWarning",et P "FutureWarning" 113 "FutureWarning",et P "ImportWarning" 114 "ImportWarning",et P "PendingDeprecationWarning" 115 "PendingDeprecationWarning",et P "ResourceWarning" 116 "ResourceWarning",et P "RuntimeWarning" 117 "RuntimeWarning",et P "SyntaxWarning" 118 "SyntaxWarning",et P "UnicodeWarning" 119 "UnicodeWarning",et P "UserWarning" 120 "UserWarning",et P "BlockingIOError" 121 "BlockingIOError",et P "ChildProcessError" 122 "ChildProcessError",et P "ConnectionError" 123 "ConnectionError",et P "FileExistsError" 124 "FileExistsError",et P "FileNotFoundError" 125 "FileNotFoundError",et P "InterruptedError" 126 "InterruptedError",et P "IsADirectoryError" 127 "IsADirectoryError",et P "NotADirectoryError" 128 "NotADirectoryError",et P "PermissionError" 129 "PermissionError",et P "ProcessLookupError" 130 "ProcessLookupError",et P "TimeoutError" 131 "TimeoutError",et P "IndentationError" 132 "IndentationError",et P "_IncompleteInputError" 133 "_IncompleteInputError",et P "IndexError" 134 "IndexError",et P "KeyError" 135 "KeyError",et P "ModuleNotFoundError" 136 "ModuleNotFoundError",et P "NotImplementedError" 137 "NotImplementedError",et P "PythonFinalizationError" 138 "PythonFinalizationError",et P "RecursionError" 139 "RecursionError",et P "UnboundLocalError" 140 "UnboundLocalError",et P "UnicodeError" 141 "UnicodeError",et P "BrokenPipeError" 142 "BrokenPipeError",et P "ConnectionAbortedError" 143 "ConnectionAbortedError",et P "ConnectionRefusedError" 144 "ConnectionRefusedError",et P "ConnectionResetError" 145 "ConnectionResetError",et P "TabError" 146 "TabError",et P "UnicodeDecodeError" 147 "UnicodeDecodeError",et P "UnicodeEncodeError" 148 "UnicodeEncodeError",et P "UnicodeTranslateError" 149 "UnicodeTranslateError",et P "ExceptionGroup" 150 "ExceptionGroup",et P "EnvironmentError" 151 "OSError",et P "IOError" 152 "OSError",eb P "open" 153 "open",eb P "quit" 154 "builtins.quit#opaque",eb P "exit" 155 "builtins.exit#opaque",eb P "copyright" 156 "builtins.copyright#opaque",eb P "credits" 157 "builtins.credits#opaque",eb P "license" 158 "builtins.license#opaque",eb P "help" 159 "builtins.help#opaque"]) 159
noncomputable def u1:Obj:=dO [er P "builtins" 162 4,er P "__main__" 163 5] 2
noncomputable def u2 (P:Params):Obj:=⟨vN,none,(.dict ⟨[]⟩ 0),⟨[]⟩⟩
noncomputable def u3:Obj:=dO [es P "__name__" 165 (vS "__main__" 164),es P "__doc__" 166 vN,es P "__package__" 167 vN,eb P "__loader__" 168 "__main__.__loader__#opaque",es P "__spec__" 169 vN,er P "__annotations__" 170 6,er P "__builtins__" 171 4,es P "__file__" 173 (vS "/claim/cut.py" 172),es P "__cached__" 174 vN] 9
noncomputable def u4 (P:Params):Obj:=⟨(.type "module"),some 0,.plain,⟨[]⟩⟩
noncomputable def u5 (P:Params):Obj:=⟨(.type "module"),some 3,.plain,⟨[]⟩⟩
noncomputable def u6 (P:Params):Obj:=dO [] 0
noncomputable def u7 (P:Params):Obj:=tO []
noncomputable def u8 (P:Params):Obj:=vE
noncomputable def u9 (P:Params):Obj:=gO "code" (ts 176 ["<module>","<module>","/claim/cut.py"]++vs [1,0,0,0,0]++[vR 7,.bool false,vI 175,vR 8,vN,vN,vN,vN,vI 179,vI 1,vS "/claim/cut.py" 180])
noncomputable def u10 (P:Params):Obj:=⟨(.type "frame"),none,.plain,⟨[some (vR 9),some (vR 3),some (vR 3),none,some (vS "__main__" 164),none,some (vR 0)]⟩⟩
noncomputable def tr1 (X:Nat→Sx):BT:=iN nl 0 [u0 P,u1 P,u2 P,u3 P,u4 P,u5 P,u6 P,u7 P,u8 P,u9 P,u10 P]
noncomputable def tr2:BT:=tr1 P X
noncomputable def u1_3:Obj:=mo (u1 P) [er P "_sre" 244 12] 3
noncomputable def u2_3:Obj:=mo (u2 P) [es P "\x69mport.loaded._sre" 183 (.bool true),er P "class._frozen_importlib.BuiltinImporter" 185 14,er P "watched.\x69mport" 206 18,er P "class._frozen_importlib.ModuleSpec" 216 22,es P "sys.modules.booked-epoch" 245 (vI 3),es P "\x69mport.later-laid._sre" 270 (.bool true),er P "watched.library" 272 27,es P "watched.library-objects" 0 (.str (PySem.Str.mk #[12]) 0),es P "watched.library-deep._sre" 273 (vS "\x04\x00\x00\x0b\x04\x00\x00\x0b\x04\x00\x00\x03\x04\x00\x00\x0b\x08\x04dict\x02" 0)] 9
noncomputable def u3_3:Obj:=mo (u3 P) [er P "_sre" 275 12] 10
noncomputable def u11:Obj:=dO [es P "__name__" 247 (vS "_sre" 246),es P "__doc__" 248 vN,es P "__package__" 250 (vS "" 249),er P "__loader__" 251 14,er P "__spec__" 252 26,eb P "compile" 253 "_sre.compile",eb P "template" 254 "_sre.template",eb P "getcodesize" 255 "_sre.getcodesize",eb P "ascii_iscased" 256 "_sre.ascii_iscased",eb P "unicode_iscased" 257 "_sre.unicode_iscased",eb P "ascii_tolower" 258 "_sre.ascii_tolower",eb P "unicode_tolower" 259 "_sre.unicode_tolower",es P "MAGIC" 261 (.int 20230612 260),es P "CODESIZE" 263 (.int 4 262),es P "MAXREPEAT" 265 (.int 4294967295 264),es P "MAXGROUPS" 267 (.int 1073741823 266),es P "copyright" 269 (vS " SRE 2.2.2 Copyright (c) 1997-2002 by Secret Labs AB " 268)] 17
noncomputable def u12 (P:Params):Obj:=⟨(.type "module"),some 11,.plain,⟨[]⟩⟩
noncomputable def u13:Obj:=dO [es P "__module__" 189 (vS "_frozen_importlib" 186),es P "__firstlineno__" 190 (.int 971 187),eb P "__doc__" 191 "_frozen_importlib.BuiltinImporter.__doc__:str#opaque",es P "_ORIGIN" 192 (vS "built-in" 188),eb P "find_spec" 193 "_frozen_importlib.BuiltinImporter.find_spec#opaque",eb P "create_module" 194 "_frozen_importlib.BuiltinImporter.create_module#opaque",eb P "exec_module" 195 "_frozen_importlib.BuiltinImporter.exec_module#opaque",eb P "get_code" 196 "_frozen_importlib.BuiltinImporter.get_code#opaque",eb P "get_source" 197 "_frozen_importlib.BuiltinImporter.get_source#opaque",eb P "is_package" 198 "_frozen_importlib.BuiltinImporter.is_package#opaque",eb P "load_module" 199 "_frozen_importlib.BuiltinImporter.load_module#opaque",er P "__static_attributes__" 200 15,er P "__dict__" 202 16,er P "__weakref__" 204 17] 14
noncomputable def u14 (P:Params):Obj:=⟨(.type "type"),none,(.cls {name:=(S_ "BuiltinImporter"),bases:=[.type "object"],mro:=[vR 14,.type "object"],ns:=13,qualname:=(S_ "BuiltinImporter"),hasDict:=true,slotNames:=[],subclasses:=[],abstract:=false,collection:=none,hasDel:=false}),⟨[]⟩⟩
noncomputable def u15 (P:Params):Obj:=tO []
noncomputable def u16 (P:Params):Obj:=gO "getset_descriptor" [vS "__dict__" 201,vR 14,.builtin "function.__dict__",.builtin "function.__dict__#set"]
noncomputable def u17 (P:Params):Obj:=gO "getset_descriptor" [vS "__weakref__" 203,vR 14,.builtin "ExceptionGroup.__weakref__",vN]
noncomputable def u19 (P:Params):Obj:=⟨(.type "list"),none,(.seq ⟨[]⟩ 0),#[]⟩
noncomputable def u20:Obj:=dO [es P "name" 208 (vS "_sre" 207),er P "loader" 209 14,es P "origin" 210 (vS "built-in" 184),es P "loader_state" 211 vN,es P "submodule_search_locations" 212 vN,er P "_uninitialized_submodules" 213 19,es P "_set_fileattr" 214 (.bool false),es P "_cached" 215 vN,es P "_initializing" 243 (.bool false)] 9
noncomputable def u21:Obj:=dO [es P "__module__" 227 (vS "_frozen_importlib" 217),es P "__firstlineno__" 228 (.int 562 218),eb P "__doc__" 229 "_frozen_importlib.ModuleSpec.__doc__:str#opaque",eb P "__init__" 230 "_frozen_importlib.ModuleSpec.__init__#opaque",eb P "__repr__" 231 "_frozen_importlib.ModuleSpec.__repr__#opaque",eb P "__eq__" 232 "_frozen_importlib.ModuleSpec.__eq__#opaque",eb P "cached" 233 "_frozen_importlib.ModuleSpec.cached#opaque",eb P "parent" 234 "_frozen_importlib.ModuleSpec.parent#opaque",eb P "has_location" 235 "_frozen_importlib.ModuleSpec.has_location#opaque",er P "__static_attributes__" 236 23,er P "__dict__" 238 24,er P "__weakref__" 240 25,es P "__hash__" 241 vN] 13
noncomputable def u22 (P:Params):Obj:=⟨(.type "type"),none,(.cls {name:=(S_ "ModuleSpec"),bases:=[.type "object"],mro:=[vR 22,.type "object"],ns:=21,qualname:=(S_ "ModuleSpec"),hasDict:=true,slotNames:=[],subclasses:=[],abstract:=false,collection:=none,hasDel:=false}),⟨[]⟩⟩
noncomputable def u23 (P:Params):Obj:=tO (ts 219 ["_cached","_set_fileattr","_uninitialized_submodules","loader","loader_state","name","origin","submodule_search_locations"])
noncomputable def u24 (P:Params):Obj:=gO "getset_descriptor" [vS "__dict__" 237,vR 22,.builtin "function.__dict__",.builtin "function.__dict__#set"]
noncomputable def u25 (P:Params):Obj:=gO "getset_descriptor" [vS "__weakref__" 239,vR 22,.builtin "ExceptionGroup.__weakref__",vN]
noncomputable def u26 (P:Params):Obj:=⟨(vR 22),some 20,.plain,⟨[]⟩⟩
noncomputable def tr3:BT:=iN (sN (tr2 P X) [(1,u1_3 P),(2,u2_3 P),(3,u3_3 P)]) 11 [u11 P,u12 P,u13 P,u14 P,u15 P,u16 P,u17 P,⟨vN,none,(.seq ⟨[vI 13,.str (sX ["\x06½\n__module__\x06º\x11_frozen_i","mportlib\x06¾\x0f__firstlineno_","_\x04»\x00ϋ\x06¿\x07__doc__\t4_frozen_","importlib.BuiltinImporter",".__doc__:str#opaque\x06À\x07_OR","IGIN\x06¼\x08built-in\x06Á\tfind_sp","ec\t2_frozen_importlib.Bui","ltinImporter.find_spec#op","aque\x06Â\x0dcreate_module\t6_fr","ozen_importlib.BuiltinImp","orter.create_module#opaqu","e\x06Ã\x0bexec_module\t4_frozen_","importlib.BuiltinImporter",".exec_module#opaque\x06Ä\x08get","_code\t1_frozen_importlib.","BuiltinImporter.get_code#","opaque\x06Å\nget_source\t3_fro","zen_importlib.BuiltinImpo","rter.get_source#opaque\x06Æ\n","is_package\t3_frozen_impor","tlib.BuiltinImporter.is_p","ackage#opaque\x06Ç\x0bload_modu","le\t4_frozen_importlib.Bui","ltinImporter.load_module#","opaque\x06È\x15__static_attribu","tes__\x04\x00\x00\x0f\x06Ê\x08__dict__\x04\x00\x00\x10\x06","Ì\x0b__weakref__\x04\x00\x00\x11"]) 0,.bool true,.bool true,vS "" 205,vI 21,.str (sX ["\x06ã\n__module__\x06Ù\x11_frozen_i","mportlib\x06ä\x0f__firstlineno_","_\x04Ú\x00Ȳ\x06å\x07__doc__\t/_frozen_","importlib.ModuleSpec.__do","c__:str#opaque\x06æ\x08__init__","\t,_frozen_importlib.Modul","eSpec.__init__#opaque\x06ç\x08_","_repr__\t,_frozen_importli","b.ModuleSpec.__repr__#opa","que\x06è\x06__eq__\t*_frozen_imp","ortlib.ModuleSpec.__eq__#","opaque\x06é\x06cached\t*_frozen_","importlib.ModuleSpec.cach","ed#opaque\x06ê\x06parent\t*_froz","en_importlib.ModuleSpec.p","arent#opaque\x06ë\x0chas_locati","on\t0_frozen_importlib.Mod","uleSpec.has_location#opaq","ue\x06ì\x15__static_attributes_","_\x04\x00\x00\x17\x06î\x08__dict__\x04\x00\x00\x18\x06ð\x0b__","weakref__\x04\x00\x00\x19\x06ñ\x08__hash__\x00"]) 0,.bool true,.bool true,vS "" 242]⟩ 1),⟨[]⟩⟩,u19 P,u20 P,u21 P,u22 P,u23 P,u24 P,u25 P,u26 P,⟨vN,none,(.seq ⟨[vI 11,.str (PySem.Str.mk #[6,247,8,95,95,110,97,109,101,95,95,6,246,4,95,115,114,101,6,248,7,95,95,100,111,99,95,95,0,6,250,11,95,95,112,97,99,107,97,103,101,95,95,6,249,0,6,251,10,95,95,108,111,97,100,101,114,95,95,4,0,0,14,6,252,8,95,95,115,112,101,99,95,95,4,0,0,26,6,253,7,99,111,109,112,105,108,101,9,12,95,115,114,101,46,99,111,109,112,105,108,101,6,254,8,116,101,109,112,108,97,116,101,9,13,95,115,114,101,46,116,101,109,112,108,97,116,101,6,255,11,103,101,116,99,111,100,101,115,105,122,101,9,16,95,115,114,101,46,103,101,116,99,111,100,101,115,105,122,101,6,256,13,97,115,99,105,105,95,105,115,99,97,115,101,100,9,18,95,115,114,101,46,97,115,99,105,105,95,105,115,99,97,115,101,100,6,257,15,117,110,105,99,111,100,101,95,105,115,99,97,115,101,100,9,20,95,115,114,101,46,117,110,105,99,111,100,101,95,105,115,99,97,115,101,100,6,258,13,97,115,99,105,105,95,116,111,108,111,119,101,114,9,18,95,115,114,101,46,97,115,99,105,105,95,116,111,108,111,119,101,114,6,259,15,117,110,105,99,111,100,101,95,116,111,108,111,119,101,114,9,20,95,115,114,101,46,117,110,105,99,111,100,101,95,116,111,108,111,119,101,114,6,261,5,77,65,71,73,67,4,260,0,20230612,6,263,8,67,79,68,69,83,73,90,69,4,262,0,4,6,265,9,77,65,88,82,69,80,69,65,84,4,264,0,4294967295,6,267,9,77,65,88,71,82,79,85,80,83,4,266,0,1073741823,6,269,9,99,111,112,121,114,105,103,104,116,6,268,53,32,83,82,69,32,50,46,50,46,50,32,67,111,112,121,114,105,103,104,116,32,40,99,41,32,49,57,57,55,45,50,48,48,50,32,98,121,32,83,101,99,114,101,116,32,76,97,98,115,32,65,66,32]) 0,.bool true,.bool false,vS "_sre" 271]⟩ 0),#[]⟩]
noncomputable def u1_4:Obj:=mo (u1_3 P) [er P "_collections" 292 30] 4
noncomputable def u2_4:Obj:=mo (mc (mc (u2_3 P) 4 (es P "sys.modules.booked-epoch" 245 (vI 4))) 7 (es P "watched.library-objects" 0 (.str (PySem.Str.mk #[12,30]) 0))) [es P "\x69mport.loaded._collections" 280 (.bool true),es P "sys.modules.landed._collections" 294 (.bool true),es P "\x69mport.later-laid._collections" 309 (.bool true),es P "watched.library-deep._collections" 311 (vS "\x04\x00\x00\x1d\x04\x00\x00\x1d\x04\x00\x00\x03\x04\x00\x00\x1d\x08\x04dict\x02" 0)] 13
noncomputable def u3_4:Obj:=mo (u3_3 P) [et P "_tuplegetter" 317 "collections._tuplegetter"] 11
noncomputable def u28 (P:Params):Obj:=tO [vS "_tuplegetter" 277]
noncomputable def u29:Obj:=dO [es P "__name__" 296 (vS "_collections" 295),eb P "__doc__" 297 "_collections.__doc__:str#opaque",es P "__package__" 299 (vS "" 298),er P "__loader__" 300 14,er P "__spec__" 301 33,eb P "_count_elements" 302 "_collections._count_elements",et P "deque" 303 "collections.deque",et P "defaultdict" 304 "collections.defaultdict",et P "_deque_iterator" 305 "collections._deque_iterator",et P "_deque_reverse_iterator" 306 "collections._deque_reverse_iterator",et P "_tuplegetter" 307 "collections._tuplegetter",et P "OrderedDict" 308 "collections.OrderedDict"] 12
noncomputable def u30 (P:Params):Obj:=⟨(.type "module"),some 29,.plain,⟨[]⟩⟩
noncomputable def u31 (P:Params):Obj:=⟨(.type "list"),none,(.seq ⟨[]⟩ 0),#[]⟩
noncomputable def u32:Obj:=dO [es P "name" 283 (vS "_collections" 282),er P "loader" 284 14,es P "origin" 285 (vS "built-in" 281),es P "loader_state" 286 vN,es P "submodule_search_locations" 287 vN,er P "_uninitialized_submodules" 288 31,es P "_set_fileattr" 289 (.bool false),es P "_cached" 290 vN,es P "_initializing" 291 (.bool false)] 9
noncomputable def u33 (P:Params):Obj:=⟨(vR 22),some 32,.plain,⟨[]⟩⟩
noncomputable def tr4:BT:=iN (sN (tr3 P X) [(1,u1_4 P),(2,u2_4 P),(3,u3_4 P),(27,⟨vN,none,(.seq ⟨[vI 11,.str (PySem.Str.mk #[6,247,8,95,95,110,97,109,101,95,95,6,246,4,95,115,114,101,6,248,7,95,95,100,111,99,95,95,0,6,250,11,95,95,112,97,99,107,97,103,101,95,95,6,249,0,6,251,10,95,95,108,111,97,100,101,114,95,95,4,0,0,14,6,252,8,95,95,115,112,101,99,95,95,4,0,0,26,6,253,7,99,111,109,112,105,108,101,9,12,95,115,114,101,46,99,111,109,112,105,108,101,6,254,8,116,101,109,112,108,97,116,101,9,13,95,115,114,101,46,116,101,109,112,108,97,116,101,6,255,11,103,101,116,99,111,100,101,115,105,122,101,9,16,95,115,114,101,46,103,101,116,99,111,100,101,115,105,122,101,6,256,13,97,115,99,105,105,95,105,115,99,97,115,101,100,9,18,95,115,114,101,46,97,115,99,105,105,95,105,115,99,97,115,101,100,6,257,15,117,110,105,99,111,100,101,95,105,115,99,97,115,101,100,9,20,95,115,114,101,46,117,110,105,99,111,100,101,95,105,115,99,97,115,101,100,6,258,13,97,115,99,105,105,95,116,111,108,111,119,101,114,9,18,95,115,114,101,46,97,115,99,105,105,95,116,111,108,111,119,101,114,6,259,15,117,110,105,99,111,100,101,95,116,111,108,111,119,101,114,9,20,95,115,114,101,46,117,110,105,99,111,100,101,95,116,111,108,111,119,101,114,6,261,5,77,65,71,73,67,4,260,0,20230612,6,263,8,67,79,68,69,83,73,90,69,4,262,0,4,6,265,9,77,65,88,82,69,80,69,65,84,4,264,0,4294967295,6,267,9,77,65,88,71,82,79,85,80,83,4,266,0,1073741823,6,269,9,99,111,112,121,114,105,103,104,116,6,268,53,32,83,82,69,32,50,46,50,46,50,32,67,111,112,121,114,105,103,104,116,32,40,99,41,32,49,57,57,55,45,50,48,48,50,32,98,121,32,83,101,99,114,101,116,32,76,97,98,115,32,65,66,32]) 0,.bool true,.bool false,vS "_sre" 271,vI 29,.str (sX ["\x06Ĩ\x08__name__\x06ħ\x0c_collection","s\x06ĩ\x07__doc__\t\x1f_collections",".__doc__:str#opaque\x06ī\x0b__p","ackage__\x06Ī\x00\x06Ĭ\n__loader__\x04","\x00\x00\x0e\x06ĭ\x08__spec__\x04\x00\x00!\x06Į\x0f_cou","nt_elements\t\x1c_collections","._count_elements\x06į\x05deque\x08","\x11collections.deque\x06İ\x0bdefa","ultdict\x08\x17collections.defa","ultdict\x06ı\x0f_deque_iterator","\x08\x1bcollections._deque_iter","ator\x06Ĳ\x17_deque_reverse_ite","rator\x08#collections._deque","_reverse_iterator\x06ĳ\x0c_tupl","egetter\x08\x18collections._tup","legetter\x06Ĵ\x0bOrderedDict\x08\x17c","ollections.OrderedDict"]) 0,.bool true,.bool false,vS "_collections" 310]⟩ 1),⟨[]⟩⟩)]) 28 [u28 P,u29 P,u30 P,u31 P,u32 P,u33 P]
noncomputable def u1_5:Obj:=mo (u1_4 P) [er P "_datetime" 397 36] 5
noncomputable def u2_5:Obj:=mo (mc (mc (u2_4 P) 4 (es P "sys.modules.booked-epoch" 245 (vI 5))) 7 (es P "watched.library-objects" 0 (.str (PySem.Str.mk #[12,30,36]) 0))) [es P "\x69mport.loaded._datetime" 326 (.bool true),er P "class._frozen_importlib_external._LoaderBasics" 331 39,er P "class._frozen_importlib_external.FileLoader" 347 44,er P "class._frozen_importlib_external.ExtensionFileLoader" 368 49,er P "datetime.timedelta.zero" 418 55,er P "datetime.timezone.utc" 419 56,es P "\x69mport.later-laid._datetime" 422 (.bool true)] 20
noncomputable def u3_5:Obj:=mo (u3_4 P) [et P "date" 429 "datetime.date",et P "datetime" 432 "datetime.datetime",et P "time" 435 "datetime.time",et P "timedelta" 438 "datetime.timedelta",et P "timezone" 441 "datetime.timezone"] 16
noncomputable def u18_5 (P:Params):Obj:=⟨vN,none,(.seq ⟨[vI 13,.str (sX ["\x06½\n__module__\x06º\x11_frozen_i","mportlib\x06¾\x0f__firstlineno_","_\x04»\x00ϋ\x06¿\x07__doc__\t4_frozen_","importlib.BuiltinImporter",".__doc__:str#opaque\x06À\x07_OR","IGIN\x06¼\x08built-in\x06Á\tfind_sp","ec\t2_frozen_importlib.Bui","ltinImporter.find_spec#op","aque\x06Â\x0dcreate_module\t6_fr","ozen_importlib.BuiltinImp","orter.create_module#opaqu","e\x06Ã\x0bexec_module\t4_frozen_","importlib.BuiltinImporter",".exec_module#opaque\x06Ä\x08get","_code\t1_frozen_importlib.","BuiltinImporter.get_code#","opaque\x06Å\nget_source\t3_fro","zen_importlib.BuiltinImpo","rter.get_source#opaque\x06Æ\n","is_package\t3_frozen_impor","tlib.BuiltinImporter.is_p","ackage#opaque\x06Ç\x0bload_modu","le\t4_frozen_importlib.Bui","ltinImporter.load_module#","opaque\x06È\x15__static_attribu","tes__\x04\x00\x00\x0f\x06Ê\x08__dict__\x04\x00\x00\x10\x06","Ì\x0b__weakref__\x04\x00\x00\x11"]) 0,.bool true,.bool true,vS "" 205,vI 21,.str (sX ["\x06ã\n__module__\x06Ù\x11_frozen_i","mportlib\x06ä\x0f__firstlineno_","_\x04Ú\x00Ȳ\x06å\x07__doc__\t/_frozen_","importlib.ModuleSpec.__do","c__:str#opaque\x06æ\x08__init__","\t,_frozen_importlib.Modul","eSpec.__init__#opaque\x06ç\x08_","_repr__\t,_frozen_importli","b.ModuleSpec.__repr__#opa","que\x06è\x06__eq__\t*_frozen_imp","ortlib.ModuleSpec.__eq__#","opaque\x06é\x06cached\t*_frozen_","importlib.ModuleSpec.cach","ed#opaque\x06ê\x06parent\t*_froz","en_importlib.ModuleSpec.p","arent#opaque\x06ë\x0chas_locati","on\t0_frozen_importlib.Mod","uleSpec.has_location#opaq","ue\x06ì\x15__static_attributes_","_\x04\x00\x00\x17\x06î\x08__dict__\x04\x00\x00\x18\x06ð\x0b__","weakref__\x04\x00\x00\x19\x06ñ\x08__hash__\x00"]) 0,.bool true,.bool true,vS "" 242,vI 38,.str (sX ["\x06Ŏ\n__module__\x06Ō\x1a_frozen_i","mportlib_external\x06ŏ\x0f__fir","stlineno__\x04ō\x00ϩ\x06Ő\x07__doc__\t",";_frozen_importlib_extern","al._LoaderBasics.__doc__:","str#opaque\x06ő\nis_package\t:","_frozen_importlib_externa","l._LoaderBasics.is_packag","e#opaque\x06Œ\x0dcreate_module\t","=_frozen_importlib_extern","al._LoaderBasics.create_m","odule#opaque\x06œ\x0bexec_modul","e\t;_frozen_importlib_exte","rnal._LoaderBasics.exec_m","odule#opaque\x06Ŕ\x0bload_modul","e\t;_frozen_importlib_exte","rnal._LoaderBasics.load_m","odule#opaque\x06ŕ\x15__static_a","ttributes__\x04\x00\x00(\x06ŗ\x08__dict_","_\x04\x00\x00)\x06ř\x0b__weakref__\x04\x00\x00*"]) 0,.bool true,.bool true,vS "" 346,vI 43,.str (sX ["\x06Š\n__module__\x06Ŝ\x1a_frozen_i","mportlib_external\x06š\x0f__fir","stlineno__\x04ŝ\x00Ҙ\x06Ţ\x07__doc__\t","8_frozen_importlib_extern","al.FileLoader.__doc__:str","#opaque\x06ţ\x08__init__\t5_froz","en_importlib_external.Fil","eLoader.__init__#opaque\x06Ť","\x06__eq__\t3_frozen_importli","b_external.FileLoader.__e","q__#opaque\x06ť\x08__hash__\t5_f","rozen_importlib_external.","FileLoader.__hash__#opaqu","e\x06Ŧ\x0bload_module\t8_frozen_","importlib_external.FileLo","ader.load_module#opaque\x06ŧ","\x0cget_filename\t9_frozen_im","portlib_external.FileLoad","er.get_filename#opaque\x06Ũ\x08","get_data\t5_frozen_importl","ib_external.FileLoader.ge","t_data#opaque\x06ũ\x13get_resou","rce_reader\t@_frozen_impor","tlib_external.FileLoader.","get_resource_reader#opaqu","e\x06Ū\x15__static_attributes__","\x04\x00\x00-\x06Ŭ\x08__dict__\x04\x00\x00.\x06Ů\x0b__w","eakref__\x04\x00\x00/"]) 0,.bool true,.bool true,vS "" 367,vI 48,.str (sX ["\x06ŵ\n__module__\x06ű\x1a_frozen_i","mportlib_external\x06Ŷ\x0f__fir","stlineno__\x04Ų\x00Ԑ\x06ŷ\x07__doc__\t","A_frozen_importlib_extern","al.ExtensionFileLoader.__","doc__:str#opaque\x06Ÿ\x08__init","__\t>_frozen_importlib_ext","ernal.ExtensionFileLoader",".__init__#opaque\x06Ź\x06__eq__","\t<_frozen_importlib_exter","nal.ExtensionFileLoader._","_eq__#opaque\x06ź\x08__hash__\t>","_frozen_importlib_externa","l.ExtensionFileLoader.__h","ash__#opaque\x06Ż\x0dcreate_mod","ule\tC_frozen_importlib_ex","ternal.ExtensionFileLoade","r.create_module#opaque\x06ż\x0b","exec_module\tA_frozen_impo","rtlib_external.ExtensionF","ileLoader.exec_module#opa","que\x06Ž\nis_package\t@_frozen","_importlib_external.Exten","sionFileLoader.is_package","#opaque\x06ž\x08get_code\t>_froz","en_importlib_external.Ext","ensionFileLoader.get_code","#opaque\x06ſ\nget_source\t@_fr","ozen_importlib_external.E","xtensionFileLoader.get_so","urce#opaque\x06ƀ\x0cget_filenam","e\tB_frozen_importlib_exte","rnal.ExtensionFileLoader.","get_filename#opaque\x06Ɓ\x15__s","tatic_attributes__\x04\x00\x002"]) 0,.bool true,.bool true,vS "" 386]⟩ 4),⟨[]⟩⟩
noncomputable def u34 (P:Params):Obj:=tO (ts 319 ["date","datetime","time","timedelta","timezone"])
noncomputable def u35:Obj:=dO [es P "__name__" 400 (vS "_datetime" 399),es P "__doc__" 402 (vS "Fast implementation of the datetime type." 401),es P "__package__" 404 (vS "" 403),er P "__loader__" 405 51,er P "__spec__" 406 54,es P "__file__" 407 (vS "/nix/store/wj1f56qky4pmjc7l0r6b6l7whnnw7hp6-python3-3.13.15/lib/python3.13/lib-dynload/_datetime.cpython-313-x86_64-linux-gnu.so" 327),et P "date" 408 "datetime.date",et P "datetime" 409 "datetime.datetime",et P "time" 410 "datetime.time",et P "timedelta" 411 "datetime.timedelta",et P "tzinfo" 412 "datetime.tzinfo",et P "timezone" 413 "datetime.timezone",es P "MINYEAR" 415 (.int 1 414),es P "MAXYEAR" 417 (.int 9999 416),er P "UTC" 420 56,eb P "datetime_CAPI" 421 "_datetime.datetime_CAPI#opaque"] 16
noncomputable def u36 (P:Params):Obj:=⟨(.type "module"),some 35,.plain,⟨[]⟩⟩
noncomputable def u37:Obj:=dO [es P "name" 329 (vS "_datetime" 328),es P "path" 330 (vS "/nix/store/wj1f56qky4pmjc7l0r6b6l7whnnw7hp6-python3-3.13.15/lib/python3.13/lib-dynload/_datetime.cpython-313-x86_64-linux-gnu.so" 327)] 2
noncomputable def u38:Obj:=dO [es P "__module__" 334 (vS "_frozen_importlib_external" 332),es P "__firstlineno__" 335 (.int 1001 333),eb P "__doc__" 336 "_frozen_importlib_external._LoaderBasics.__doc__:str#opaque",eb P "is_package" 337 "_frozen_importlib_external._LoaderBasics.is_package#opaque",eb P "create_module" 338 "_frozen_importlib_external._LoaderBasics.create_module#opaque",eb P "exec_module" 339 "_frozen_importlib_external._LoaderBasics.exec_module#opaque",eb P "load_module" 340 "_frozen_importlib_external._LoaderBasics.load_module#opaque",er P "__static_attributes__" 341 40,er P "__dict__" 343 41,er P "__weakref__" 345 42] 10
noncomputable def u39 (P:Params):Obj:=⟨(.type "type"),none,(.cls {name:=(S_ "_LoaderBasics"),bases:=[.type "object"],mro:=[vR 39,.type "object"],ns:=38,qualname:=(S_ "_LoaderBasics"),hasDict:=true,slotNames:=[],subclasses:=[vR 49],abstract:=false,collection:=none,hasDel:=false}),⟨[]⟩⟩
noncomputable def u40 (P:Params):Obj:=tO []
noncomputable def u41 (P:Params):Obj:=gO "getset_descriptor" [vS "__dict__" 342,vR 39,.builtin "function.__dict__",.builtin "function.__dict__#set"]
noncomputable def u42 (P:Params):Obj:=gO "getset_descriptor" [vS "__weakref__" 344,vR 39,.builtin "ExceptionGroup.__weakref__",vN]
noncomputable def u43:Obj:=dO [es P "__module__" 352 (vS "_frozen_importlib_external" 348),es P "__firstlineno__" 353 (.int 1176 349),eb P "__doc__" 354 "_frozen_importlib_external.FileLoader.__doc__:str#opaque",eb P "__init__" 355 "_frozen_importlib_external.FileLoader.__init__#opaque",eb P "__eq__" 356 "_frozen_importlib_external.FileLoader.__eq__#opaque",eb P "__hash__" 357 "_frozen_importlib_external.FileLoader.__hash__#opaque",eb P "load_module" 358 "_frozen_importlib_external.FileLoader.load_module#opaque",eb P "get_filename" 359 "_frozen_importlib_external.FileLoader.get_filename#opaque",eb P "get_data" 360 "_frozen_importlib_external.FileLoader.get_data#opaque",eb P "get_resource_reader" 361 "_frozen_importlib_external.FileLoader.get_resource_reader#opaque",er P "__static_attributes__" 362 45,er P "__dict__" 364 46,er P "__weakref__" 366 47] 13
noncomputable def u44 (P:Params):Obj:=⟨(.type "type"),none,(.cls {name:=(S_ "FileLoader"),bases:=[.type "object"],mro:=[vR 44,.type "object"],ns:=43,qualname:=(S_ "FileLoader"),hasDict:=true,slotNames:=[],subclasses:=[vR 49],abstract:=false,collection:=none,hasDel:=false}),⟨[]⟩⟩
noncomputable def u45 (P:Params):Obj:=tO (ts 350 ["name","path"])
noncomputable def u46 (P:Params):Obj:=gO "getset_descriptor" [vS "__dict__" 363,vR 44,.builtin "function.__dict__",.builtin "function.__dict__#set"]
noncomputable def u47 (P:Params):Obj:=gO "getset_descriptor" [vS "__weakref__" 365,vR 44,.builtin "ExceptionGroup.__weakref__",vN]
noncomputable def u48:Obj:=dO [es P "__module__" 373 (vS "_frozen_importlib_external" 369),es P "__firstlineno__" 374 (.int 1296 370),eb P "__doc__" 375 "_frozen_importlib_external.ExtensionFileLoader.__doc__:str#opaque",eb P "__init__" 376 "_frozen_importlib_external.ExtensionFileLoader.__init__#opaque",eb P "__eq__" 377 "_frozen_importlib_external.ExtensionFileLoader.__eq__#opaque",eb P "__hash__" 378 "_frozen_importlib_external.ExtensionFileLoader.__hash__#opaque",eb P "create_module" 379 "_frozen_importlib_external.ExtensionFileLoader.create_module#opaque",eb P "exec_module" 380 "_frozen_importlib_external.ExtensionFileLoader.exec_module#opaque",eb P "is_package" 381 "_frozen_importlib_external.ExtensionFileLoader.is_package#opaque",eb P "get_code" 382 "_frozen_importlib_external.ExtensionFileLoader.get_code#opaque",eb P "get_source" 383 "_frozen_importlib_external.ExtensionFileLoader.get_source#opaque",eb P "get_filename" 384 "_frozen_importlib_external.ExtensionFileLoader.get_filename#opaque",er P "__static_attributes__" 385 50] 13
noncomputable def u49 (P:Params):Obj:=⟨(.type "type"),none,(.cls {name:=(S_ "ExtensionFileLoader"),bases:=[vR 44,vR 39],mro:=[vR 49,vR 44,vR 39,.type "object"],ns:=48,qualname:=(S_ "ExtensionFileLoader"),hasDict:=true,slotNames:=[],subclasses:=[],abstract:=false,collection:=none,hasDel:=false}),⟨[]⟩⟩
noncomputable def u50 (P:Params):Obj:=tO (ts 371 ["name","path"])
noncomputable def u51 (P:Params):Obj:=⟨(vR 49),some 37,.plain,⟨[]⟩⟩
noncomputable def u52 (P:Params):Obj:=⟨(.type "list"),none,(.seq ⟨[]⟩ 0),#[]⟩
noncomputable def u53:Obj:=dO [es P "name" 388 (vS "_datetime" 387),er P "loader" 389 51,es P "origin" 390 (vS "/nix/store/wj1f56qky4pmjc7l0r6b6l7whnnw7hp6-python3-3.13.15/lib/python3.13/lib-dynload/_datetime.cpython-313-x86_64-linux-gnu.so" 327),es P "loader_state" 391 vN,es P "submodule_search_locations" 392 vN,er P "_uninitialized_submodules" 393 52,es P "_set_fileattr" 394 (.bool true),es P "_cached" 395 vN,es P "_initializing" 396 (.bool false)] 9
noncomputable def u54 (P:Params):Obj:=⟨(vR 22),some 53,.plain,⟨[]⟩⟩
noncomputable def u55 (P:Params):Obj:=gO "datetime.timedelta" (vs [0,0,0])
noncomputable def u56 (P:Params):Obj:=gO "datetime.timezone" [vR 55,vN]
noncomputable def tr5:BT:=iN (sN (tr4 P X) [(1,u1_5 P),(2,u2_5 P),(3,u3_5 P),(18,u18_5 P),(27,⟨vN,none,(.seq ⟨[vI 11,.str (PySem.Str.mk #[6,247,8,95,95,110,97,109,101,95,95,6,246,4,95,115,114,101,6,248,7,95,95,100,111,99,95,95,0,6,250,11,95,95,112,97,99,107,97,103,101,95,95,6,249,0,6,251,10,95,95,108,111,97,100,101,114,95,95,4,0,0,14,6,252,8,95,95,115,112,101,99,95,95,4,0,0,26,6,253,7,99,111,109,112,105,108,101,9,12,95,115,114,101,46,99,111,109,112,105,108,101,6,254,8,116,101,109,112,108,97,116,101,9,13,95,115,114,101,46,116,101,109,112,108,97,116,101,6,255,11,103,101,116,99,111,100,101,115,105,122,101,9,16,95,115,114,101,46,103,101,116,99,111,100,101,115,105,122,101,6,256,13,97,115,99,105,105,95,105,115,99,97,115,101,100,9,18,95,115,114,101,46,97,115,99,105,105,95,105,115,99,97,115,101,100,6,257,15,117,110,105,99,111,100,101,95,105,115,99,97,115,101,100,9,20,95,115,114,101,46,117,110,105,99,111,100,101,95,105,115,99,97,115,101,100,6,258,13,97,115,99,105,105,95,116,111,108,111,119,101,114,9,18,95,115,114,101,46,97,115,99,105,105,95,116,111,108,111,119,101,114,6,259,15,117,110,105,99,111,100,101,95,116,111,108,111,119,101,114,9,20,95,115,114,101,46,117,110,105,99,111,100,101,95,116,111,108,111,119,101,114,6,261,5,77,65,71,73,67,4,260,0,20230612,6,263,8,67,79,68,69,83,73,90,69,4,262,0,4,6,265,9,77,65,88,82,69,80,69,65,84,4,264,0,4294967295,6,267,9,77,65,88,71,82,79,85,80,83,4,266,0,1073741823,6,269,9,99,111,112,121,114,105,103,104,116,6,268,53,32,83,82,69,32,50,46,50,46,50,32,67,111,112,121,114,105,103,104,116,32,40,99,41,32,49,57,57,55,45,50,48,48,50,32,98,121,32,83,101,99,114,101,116,32,76,97,98,115,32,65,66,32]) 0,.bool true,.bool false,vS "_sre" 271,vI 29,.str (sX ["\x06Ĩ\x08__name__\x06ħ\x0c_collection","s\x06ĩ\x07__doc__\t\x1f_collections",".__doc__:str#opaque\x06ī\x0b__p","ackage__\x06Ī\x00\x06Ĭ\n__loader__\x04","\x00\x00\x0e\x06ĭ\x08__spec__\x04\x00\x00!\x06Į\x0f_cou","nt_elements\t\x1c_collections","._count_elements\x06į\x05deque\x08","\x11collections.deque\x06İ\x0bdefa","ultdict\x08\x17collections.defa","ultdict\x06ı\x0f_deque_iterator","\x08\x1bcollections._deque_iter","ator\x06Ĳ\x17_deque_reverse_ite","rator\x08#collections._deque","_reverse_iterator\x06ĳ\x0c_tupl","egetter\x08\x18collections._tup","legetter\x06Ĵ\x0bOrderedDict\x08\x17c","ollections.OrderedDict"]) 0,.bool true,.bool false,vS "_collections" 310,vI 35,.str (sX ["\x06Ɛ\x08__name__\x06Ə\t_datetime\x06ƒ","\x07__doc__\x06Ƒ)Fast implement","ation of the datetime typ","e.\x06Ɣ\x0b__package__\x06Ɠ\x00\x06ƕ\n__l","oader__\x04\x00\x003\x06Ɩ\x08__spec__\x04\x00\x00","6\x06Ɨ\x08__file__\x06Ň\u0080/nix/store","/wj1f56qky4pmjc7l0r6b6l7w","hnnw7hp6-python3-3.13.15/","lib/python3.13/lib-dynloa","d/_datetime.cpython-313-x","86_64-linux-gnu.so\x06Ƙ\x04date","\x08\x0ddatetime.date\x06ƙ\x08datetim","e\x08\x11datetime.datetime\x06ƚ\x04ti","me\x08\x0ddatetime.time\x06ƛ\ttimed","elta\x08\x12datetime.timedelta\x06","Ɯ\x06tzinfo\x08\x0fdatetime.tzinfo","\x06Ɲ\x08timezone\x08\x11datetime.tim","ezone\x06Ɵ\x07MINYEAR\x04ƞ\x00\x01\x06ơ\x07MAX","YEAR\x04Ơ\x00✏\x06Ƥ\x03UTC\x04\x00\x008\x06ƥ\x0ddate","time_CAPI\t\x1e_datetime.date","time_CAPI#opaque"]) 0,.bool true,.bool false,vS "_datetime" 423]⟩ 2),⟨[]⟩⟩)]) 34 [u34 P,u35 P,u36 P,u37 P,u38 P,u39 P,u40 P,u41 P,u42 P,u43 P,u44 P,u45 P,u46 P,u47 P,u48 P,u49 P,u50 P,u51 P,u52 P,u53 P,u54 P,u55 P,u56 P]
noncomputable def u1_6:Obj:=mo (u1_5 P) [er P "_functools" 458 59] 6
noncomputable def u2_6:Obj:=mo (mc (mc (u2_5 P) 4 (es P "sys.modules.booked-epoch" 245 (vI 6))) 7 (es P "watched.library-objects" 0 (vS "\x0c\x1e$;" 0))) [es P "\x69mport.loaded._functools" 446 (.bool true),es P "sys.modules.landed._functools" 460 (.bool true),es P "\x69mport.later-laid._functools" 473 (.bool true),es P "watched.library-deep._functools" 475 (vS "\x04\x00\x00:\x04\x00\x00:\x04\x00\x00\x03\x04\x00\x00:\x08\x04dict\x02" 0)] 24
noncomputable def u3_6:Obj:=mo (u3_5 P) [et P "_lru_cache_wrapper" 481 "functools._lru_cache_wrapper"] 17
noncomputable def u27_6 (P:Params):Obj:=⟨vN,none,(.seq ⟨[vI 11,.str (PySem.Str.mk #[6,247,8,95,95,110,97,109,101,95,95,6,246,4,95,115,114,101,6,248,7,95,95,100,111,99,95,95,0,6,250,11,95,95,112,97,99,107,97,103,101,95,95,6,249,0,6,251,10,95,95,108,111,97,100,101,114,95,95,4,0,0,14,6,252,8,95,95,115,112,101,99,95,95,4,0,0,26,6,253,7,99,111,109,112,105,108,101,9,12,95,115,114,101,46,99,111,109,112,105,108,101,6,254,8,116,101,109,112,108,97,116,101,9,13,95,115,114,101,46,116,101,109,112,108,97,116,101,6,255,11,103,101,116,99,111,100,101,115,105,122,101,9,16,95,115,114,101,46,103,101,116,99,111,100,101,115,105,122,101,6,256,13,97,115,99,105,105,95,105,115,99,97,115,101,100,9,18,95,115,114,101,46,97,115,99,105,105,95,105,115,99,97,115,101,100,6,257,15,117,110,105,99,111,100,101,95,105,115,99,97,115,101,100,9,20,95,115,114,101,46,117,110,105,99,111,100,101,95,105,115,99,97,115,101,100,6,258,13,97,115,99,105,105,95,116,111,108,111,119,101,114,9,18,95,115,114,101,46,97,115,99,105,105,95,116,111,108,111,119,101,114,6,259,15,117,110,105,99,111,100,101,95,116,111,108,111,119,101,114,9,20,95,115,114,101,46,117,110,105,99,111,100,101,95,116,111,108,111,119,101,114,6,261,5,77,65,71,73,67,4,260,0,20230612,6,263,8,67,79,68,69,83,73,90,69,4,262,0,4,6,265,9,77,65,88,82,69,80,69,65,84,4,264,0,4294967295,6,267,9,77,65,88,71,82,79,85,80,83,4,266,0,1073741823,6,269,9,99,111,112,121,114,105,103,104,116,6,268,53,32,83,82,69,32,50,46,50,46,50,32,67,111,112,121,114,105,103,104,116,32,40,99,41,32,49,57,57,55,45,50,48,48,50,32,98,121,32,83,101,99,114,101,116,32,76,97,98,115,32,65,66,32]) 0,.bool true,.bool false,vS "_sre" 271,vI 29,.str (sX ["\x06Ĩ\x08__name__\x06ħ\x0c_collection","s\x06ĩ\x07__doc__\t\x1f_collections",".__doc__:str#opaque\x06ī\x0b__p","ackage__\x06Ī\x00\x06Ĭ\n__loader__\x04","\x00\x00\x0e\x06ĭ\x08__spec__\x04\x00\x00!\x06Į\x0f_cou","nt_elements\t\x1c_collections","._count_elements\x06į\x05deque\x08","\x11collections.deque\x06İ\x0bdefa","ultdict\x08\x17collections.defa","ultdict\x06ı\x0f_deque_iterator","\x08\x1bcollections._deque_iter","ator\x06Ĳ\x17_deque_reverse_ite","rator\x08#collections._deque","_reverse_iterator\x06ĳ\x0c_tupl","egetter\x08\x18collections._tup","legetter\x06Ĵ\x0bOrderedDict\x08\x17c","ollections.OrderedDict"]) 0,.bool true,.bool false,vS "_collections" 310,vI 35,.str (sX ["\x06Ɛ\x08__name__\x06Ə\t_datetime\x06ƒ","\x07__doc__\x06Ƒ)Fast implement","ation of the datetime typ","e.\x06Ɣ\x0b__package__\x06Ɠ\x00\x06ƕ\n__l","oader__\x04\x00\x003\x06Ɩ\x08__spec__\x04\x00\x00","6\x06Ɨ\x08__file__\x06Ň\u0080/nix/store","/wj1f56qky4pmjc7l0r6b6l7w","hnnw7hp6-python3-3.13.15/","lib/python3.13/lib-dynloa","d/_datetime.cpython-313-x","86_64-linux-gnu.so\x06Ƙ\x04date","\x08\x0ddatetime.date\x06ƙ\x08datetim","e\x08\x11datetime.datetime\x06ƚ\x04ti","me\x08\x0ddatetime.time\x06ƛ\ttimed","elta\x08\x12datetime.timedelta\x06","Ɯ\x06tzinfo\x08\x0fdatetime.tzinfo","\x06Ɲ\x08timezone\x08\x11datetime.tim","ezone\x06Ɵ\x07MINYEAR\x04ƞ\x00\x01\x06ơ\x07MAX","YEAR\x04Ơ\x00✏\x06Ƥ\x03UTC\x04\x00\x008\x06ƥ\x0ddate","time_CAPI\t\x1e_datetime.date","time_CAPI#opaque"]) 0,.bool true,.bool false,vS "_datetime" 423,vI 58,.str (sX ["\x06ǎ\x08__name__\x06Ǎ\n_functools\x06","ǐ\x07__doc__\x06Ǐ Tools that op","erate on functions.\x06ǒ\x0b__p","ackage__\x06Ǒ\x00\x06Ǔ\n__loader__\x04","\x00\x00\x0e\x06ǔ\x08__spec__\x04\x00\x00>\x06Ǖ\x06redu","ce\t\x11_functools.reduce\x06ǖ\nc","mp_to_key\t\x15_functools.cmp","_to_key\x06Ǘ\x07partial\x08\x11functo","ols.partial\x06ǘ\x12_lru_cache_","wrapper\x08\x1cfunctools._lru_c","ache_wrapper"]) 0,.bool true,.bool false,vS "_functools" 474]⟩ 3),⟨[]⟩⟩
noncomputable def u57 (P:Params):Obj:=tO [vS "_lru_cache_wrapper" 443]
noncomputable def u58:Obj:=dO [es P "__name__" 462 (vS "_functools" 461),es P "__doc__" 464 (vS "Tools that operate on functions." 463),es P "__package__" 466 (vS "" 465),er P "__loader__" 467 14,er P "__spec__" 468 62,eb P "reduce" 469 "_functools.reduce",eb P "cmp_to_key" 470 "_functools.cmp_to_key",et P "partial" 471 "functools.partial",et P "_lru_cache_wrapper" 472 "functools._lru_cache_wrapper"] 9
noncomputable def u59 (P:Params):Obj:=⟨(.type "module"),some 58,.plain,⟨[]⟩⟩
noncomputable def u60 (P:Params):Obj:=⟨(.type "list"),none,(.seq ⟨[]⟩ 0),#[]⟩
noncomputable def u61:Obj:=dO [es P "name" 449 (vS "_functools" 448),er P "loader" 450 14,es P "origin" 451 (vS "built-in" 447),es P "loader_state" 452 vN,es P "submodule_search_locations" 453 vN,er P "_uninitialized_submodules" 454 60,es P "_set_fileattr" 455 (.bool false),es P "_cached" 456 vN,es P "_initializing" 457 (.bool false)] 9
noncomputable def u62 (P:Params):Obj:=⟨(vR 22),some 61,.plain,⟨[]⟩⟩
noncomputable def tr6:BT:=iN (sN (tr5 P X) [(1,u1_6 P),(2,u2_6 P),(3,u3_6 P),(27,u27_6 P)]) 57 [u57 P,u58 P,u59 P,u60 P,u61 P,u62 P]
noncomputable def tr7:BT:=tr6 P X
noncomputable def u11_8:Obj:=mo (mc (mc (mc (mc (mc (mc (mc (mc (u11 P) 3 (eb P "__loader__" 251 "off-the-table:_sre.__loader__:shared#opaque")) 4 (eb P "__spec__" 252 "off-the-table:_sre.__spec__:shared#opaque")) 6 (eb P "template" 254 "off-the-table:_sre.template:shared#opaque")) 7 (eb P "getcodesize" 255 "off-the-table:_sre.getcodesize:shared#opaque")) 8 (eb P "ascii_iscased" 256 "off-the-table:_sre.ascii_iscased:shared#opaque")) 9 (eb P "unicode_iscased" 257 "off-the-table:_sre.unicode_iscased:shared#opaque")) 10 (eb P "ascii_tolower" 258 "off-the-table:_sre.ascii_tolower:shared#opaque")) 11 (eb P "unicode_tolower" 259 "off-the-table:_sre.unicode_tolower:shared#opaque")) [] 17
noncomputable def u29_8:Obj:=mo (mc (mc (mc (mc (mc (u29 P) 1 (eb P "__doc__" 297 "off-the-table:_collections.__doc__:shared#opaque")) 3 (eb P "__loader__" 300 "off-the-table:_collections.__loader__:shared#opaque")) 4 (eb P "__spec__" 301 "off-the-table:_collections.__spec__:shared#opaque")) 8 (eb P "_deque_iterator" 305 "off-the-table:_collections._deque_iterator:shared#opaque")) 9 (eb P "_deque_reverse_iterator" 306 "off-the-table:_collections._deque_reverse_iterator:shared#opaque")) [] 12
noncomputable def u35_8:Obj:=mo (mc (mc (mc (mc (u35 P) 3 (eb P "__loader__" 405 "off-the-table:_datetime.__loader__:shared#opaque")) 4 (eb P "__spec__" 406 "off-the-table:_datetime.__spec__:shared#opaque")) 14 (eb P "UTC" 420 "off-the-table:_datetime.UTC:shared#opaque")) 15 (eb P "datetime_CAPI" 421 "off-the-table:_datetime.datetime_CAPI:shared#opaque")) [] 16
noncomputable def u58_8:Obj:=mo (mc (mc (u58 P) 3 (eb P "__loader__" 467 "off-the-table:_functools.__loader__:shared#opaque")) 4 (eb P "__spec__" 468 "off-the-table:_functools.__spec__:shared#opaque")) [] 9
noncomputable def tr8:BT:=sN (tr7 P X) [(11,u11_8 P),(29,u29_8 P),(35,u35_8 P),(58,u58_8 P)]
noncomputable def envT:Env:={ scope:=PySem.Challenge.pw_kq0034_05.main.scope,locals:=3,globals:=3,cells:=[],qual:=(S_ ""),func:=none,code:=(vR 65),frame:=(some 66),builtins:=0}
noncomputable def frT (k:Result→Sem Fin) (g:Bool) (l:List Value):Frame:=.ret k none g l (.builtin "claim.caller" {}) ⟨0,0,0,0⟩ []
noncomputable def genOf:List Stmt→Expr
 | .Assign _ (.BinOp (.Call _ [e] _ _) _ _ _) _::_=>e
 | _::r=>genOf r
 | []=>default
noncomputable def genE:Expr:=genOf (bod.drop 20)
noncomputable def genSc:Expr→Scope
 | .GeneratorExp _ _ s _=>s
 | _=>default
noncomputable def tr9:BT:=iN (tr8 P X) 63 [tO [],vE,cO "<module>" "<module>" 483 1 0 0 0 0 63 false vN vN vN vN 486,⟨(.type "frame"),none,.plain,⟨[some (vR 65),some (vR 3),some (vR 3),none,some (vS "__main__" 164),none,some (vR 0)]⟩⟩]
noncomputable def genEnv:Env:={ scope:=genSc genE,locals:=265,globals:=3,cells:=[],qual:=(S_ "<genexpr>."),func:=none,code:=(vR 264),frame:=(some 265),builtins:=0}
noncomputable def tr10:BT:=tr9 P X
noncomputable def u3_11:Obj:=mo (u3_6 P) [er P "_wall" 494 73] 18
noncomputable def u64_11 (P:Params):Obj:=ma vE [vI 5,vI 0,vR 72]
noncomputable def tr11:BT:=iN (sN (tr10 P X) [(3,u3_11 P),(64,u64_11 P)]) 67 [tO [],vE,tO [vS "k" 491],tO [],fO vN "_wall" (bs 0),cO "_wall" "_wall" 488 5 1 0 0 3 67 true vN (vR 69) (vR 70) (vR 71) 492,fF "_wall" (bs 0) "__main__" 164 72]
noncomputable def u3_12:Obj:=mo (u3_11 P) [er P "_WallAttr" 534 98] 19
noncomputable def u64_12:Obj:=ma (u64_11 P) [vI 8,vI 0,vR 79]
noncomputable def tr12:BT:=iN (sN (tr11 P X) [(3,u3_12 P),(64,u64_12 P)]) 74 [tO [],gO "builtin_function_or_method" [.builtin "type.__prepare__",.type "type"],dO [es P "__module__" 502 (vS "__main__" 164),es P "__qualname__" 504 (vS "_WallAttr" 503),es P "__firstlineno__" 506 (.int 8 505),er P "__init__" 514 87,er P "__get__" 523 95,er P "__set__" 524 95,er P "__delete__" 525 95,er P "__static_attributes__" 527 96] 8,tO [],ma vE [vI 9,vI 4,vR 86,vI 11,vI 4,vR 94],cO "_WallAttr" "_WallAttr" 497 8 0 0 0 0 77 false vN vN vN vN 500,⟨(.type "frame"),none,.plain,⟨[some (vR 79),some (vR 3),some (vR 76),none,some (vS "__main__" 164),none,some (vR 0)]⟩⟩,tO [],vE,tO (ts 510 ["self","k"]),tO [],fO vN "__init__" (ns (bs 1) 0) (q:=some "_WallAttr.__init__"),cO "__init__" "_WallAttr.__init__" 507 9 2 0 0 3 81 true vN (vR 83) (vR 84) (vR 85) 512,fO (.type "function") "__init__" (ns (bs 1) 0) (q:=some "_WallAttr.__init__") (gl:=3) (pm:=(vS "__main__" 164)) (cd:=(vR 86)),tO [vN],tO [],vE,tO (ts 518 ["self","o","t"]),tO [],fO vN "__get__" (ns (bs 1) 1) (q:=some "_WallAttr.__get__"),cO "__get__" "_WallAttr.__get__" 515 11 3 0 0 3 89 true vN (vR 91) (vR 92) (vR 93) 521,fO (.type "function") "__get__" (ns (bs 1) 1) (q:=some "_WallAttr.__get__") (gl:=3) (df:=(vR 88)) (pm:=(vS "__main__" 164)) (cd:=(vR 94)),tO [vS "k" 526],dO [es P "__module__" 502 (vS "__main__" 164),es P "__firstlineno__" 506 (.int 8 505),er P "__init__" 514 87,er P "__get__" 523 95,er P "__set__" 524 95,er P "__delete__" 525 95,er P "__static_attributes__" 527 96,er P "__dict__" 529 99,er P "__weakref__" 531 100,es P "__doc__" 532 vN] 4,⟨(.type "type"),none,(.cls {name:=(S_ "_WallAttr"),bases:=[.type "object"],mro:=[vR 98,.type "object"],ns:=97,qualname:=(S_ "_WallAttr"),hasDict:=true,slotNames:=[],subclasses:=[],abstract:=false,collection:=none,hasDel:=false}),⟨[none,none,some (vS "_WallAttr" 495),some (vS "_WallAttr" 503),some (.builtin "object.__new__"),some (.bool true)]⟩⟩,gO "getset_descriptor" [vS "__dict__" 528,vR 98,.builtin "function.__dict__",.builtin "function.__dict__#set"],gO "getset_descriptor" [vS "__weakref__" 530,vR 98,.builtin "ExceptionGroup.__weakref__",vN],gO "super" [vR 98,vR 98,vR 98],gO "builtin_function_or_method" [.builtin "object.__init_subclass__",vR 98]]
noncomputable def u3_13:Obj:=mo (mc (u3_12 P) 0 (es P "__name__" 165 (vS "cpy313.tomllib._re" 535))) [] 19
noncomputable def tr13:BT:=sN (tr12 P X) [(3,u3_13 P)]
noncomputable def u3_14:Obj:=mo (u3_13 P) [er P "RE_NUMBER" 792 107] 20
noncomputable def tr14:BT:=iN (sN (tr13 P X) [(3,u3_14 P)]) 103 [⟨(.type "list"),none,(.seq ⟨vt 540 [14,4,0,1,4294967295,7,106,16,48,7,41,16,120,13,11,9,0,67043328,126,126,0,0,0,0,0,23,22,0,4294967295,24,6,0,1,16,95,1,13,11,9,0,67043328,126,126,0,0,0,0,0,18,15,60,29,16,98,13,5,22,48,49,0,23,16,0,4294967295,24,6,0,1,16,95,1,13,5,22,48,49,0,18,15,31,29,16,111,13,5,22,48,55,0,23,16,0,4294967295,24,6,0,1,16,95,1,13,5,22,48,55,0,18,15,2,0,15,134,132,24,11,0,1,13,6,16,43,16,45,0,1,7,5,16,48,15,29,27,13,5,22,49,57,0,23,16,0,4294967295,24,6,0,1,16,95,1,13,5,22,48,57,0,18,15,2,0,17,0,23,29,0,1,16,46,13,5,22,48,57,0,23,16,0,4294967295,24,6,0,1,16,95,1,13,5,22,48,57,0,18,18,23,46,0,1,13,6,16,101,16,69,0,24,11,0,1,13,6,16,43,16,45,0,1,13,5,22,48,57,0,23,16,0,4294967295,24,6,0,1,16,95,1,13,5,22,48,57,0,18,18,17,1,15,2,0,1]⟩ 0),#[]⟩,dO [es P "floatpart" 787 (.int 1 788)] 1,tO [vN,vS "floatpart" 790],tO (vs [14,4,0,1,4294967295,7,106,16,48,7,41,16,120,13,11,9,0,67043328,126,126,0,0,0,0,0,23,22,0,4294967295,24,6,0,1,16,95,1,13,11,9,0,67043328,126,126,0,0,0,0,0,18,15,60,29,16,98,13,5,22,48,49,0,23,16,0,4294967295,24,6,0,1,16,95,1,13,5,22,48,49,0,18,15,31,29,16,111,13,5,22,48,55,0,23,16,0,4294967295,24,6,0,1,16,95,1,13,5,22,48,55,0,18,15,2,0,15,134,132,24,11,0,1,13,6,16,43,16,45,0,1,7,5,16,48,15,29,27,13,5,22,49,57,0,23,16,0,4294967295,24,6,0,1,16,95,1,13,5,22,48,57,0,18,15,2,0,17,0,23,29,0,1,16,46,13,5,22,48,57,0,23,16,0,4294967295,24,6,0,1,16,95,1,13,5,22,48,57,0,18,18,23,46,0,1,13,6,16,101,16,69,0,24,11,0,1,13,6,16,43,16,45,0,1,13,5,22,48,57,0,23,16,0,4294967295,24,6,0,1,16,95,1,13,5,22,48,57,0,18,18,17,1,15,2,0,1]),gO "re.Pattern" [.str (sX ["\n0\n(?:\n    x[0-9A-Fa-f](?",":_?[0-9A-Fa-f])*   # hex\n","    |\n    b[01](?:_?[01])","*                 # bin\n ","   |\n    o[0-7](?:_?[0-7]",")*               # oct\n)\n","|\n[+-]?(?:0|[1-9](?:_?[0-","9])*)         # dec, inte","ger part\n(?P<floatpart>\n ","   (?:\\.[0-9](?:_?[0-9])*",")?         # optional fra","ctional part\n    (?:[eE][","+-]?[0-9](?:_?[0-9])*)?  ","# optional exponent part\n",")\n"]) 538,.int 96 791,vI 1,vR 104,vR 105,vR 106,vI 0]]
noncomputable def u3_15:Obj:=mo (u3_14 P) [er P "RE_LOCALTIME" 905 112] 21
noncomputable def tr15:BT:=iN (sN (tr14 P X) [(3,u3_15 P)]) 108 [⟨(.type "list"),none,(.seq ⟨vt 796 [14,4,0,8,4294967295,17,0,7,15,13,5,22,48,49,0,13,5,22,48,57,0,15,13,11,16,50,13,5,22,48,51,0,15,2,0,17,1,16,58,17,2,13,5,22,48,53,0,13,5,22,48,57,0,17,3,16,58,17,4,13,5,22,48,53,0,13,5,22,48,57,0,17,5,23,31,0,1,16,46,17,6,24,10,1,6,13,5,22,48,57,0,1,17,7,24,10,0,4294967295,13,5,22,48,57,0,1,18,1]⟩ 0),#[]⟩,dO [] 0,tO [vN,vN,vN,vN,vN],tO (vs [14,4,0,8,4294967295,17,0,7,15,13,5,22,48,49,0,13,5,22,48,57,0,15,13,11,16,50,13,5,22,48,51,0,15,2,0,17,1,16,58,17,2,13,5,22,48,53,0,13,5,22,48,57,0,17,3,16,58,17,4,13,5,22,48,53,0,13,5,22,48,57,0,17,5,23,31,0,1,16,46,17,6,24,10,1,6,13,5,22,48,57,0,1,17,7,24,10,0,4294967295,13,5,22,48,57,0,1,18,1]),gO "re.Pattern" [vS "([01][0-9]|2[0-3]):([0-5][0-9]):([0-5][0-9])(?:\\.([0-9]{1,6})[0-9]*)?" 794,.int 32 904,vI 4,vN,vN,vR 111,vI 0]]
noncomputable def u3_16:Obj:=mo (u3_15 P) [er P "RE_DATETIME" 1210 117] 22
noncomputable def tr16:BT:=iN (sN (tr15 P X) [(3,u3_16 P)]) 113 [⟨(.type "list"),none,(.seq ⟨vt 909 [14,4,0,10,4294967295,17,0,24,10,4,4,13,5,22,48,57,0,1,17,1,16,45,17,2,7,11,16,48,13,5,22,49,57,0,15,13,11,16,49,13,5,22,48,50,0,15,2,0,17,3,16,45,17,4,7,11,16,48,13,5,22,49,57,0,15,28,15,13,5,22,49,50,0,13,5,22,48,57,0,15,13,11,16,51,13,5,22,48,49,0,15,2,0,17,5,23,201,0,1,13,11,9,0,1,1048576,1048576,0,0,0,0,0,17,6,7,15,13,5,22,48,49,0,13,5,22,48,57,0,15,13,11,16,50,13,5,22,48,51,0,15,2,0,17,7,16,58,17,8,13,5,22,48,53,0,13,5,22,48,57,0,17,9,16,58,17,10,13,5,22,48,53,0,13,5,22,48,57,0,17,11,23,31,0,1,16,46,17,12,24,10,1,6,13,5,22,48,57,0,1,17,13,24,10,0,4294967295,13,5,22,48,57,0,1,18,23,83,0,1,7,14,17,14,13,6,16,90,16,122,0,17,15,15,66,64,17,16,13,6,16,43,16,45,0,17,17,17,18,7,15,13,5,22,48,49,0,13,5,22,48,57,0,15,13,11,16,50,13,5,22,48,51,0,15,2,0,17,19,16,58,17,20,13,5,22,48,53,0,13,5,22,48,57,0,17,21,15,2,0,18,18,1]⟩ 0),#[]⟩,dO [] 0,tO [vN,vN,vN,vN,vN,vN,vN,vN,vN,vN,vN,vN],tO (vs [14,4,0,10,4294967295,17,0,24,10,4,4,13,5,22,48,57,0,1,17,1,16,45,17,2,7,11,16,48,13,5,22,49,57,0,15,13,11,16,49,13,5,22,48,50,0,15,2,0,17,3,16,45,17,4,7,11,16,48,13,5,22,49,57,0,15,28,15,13,5,22,49,50,0,13,5,22,48,57,0,15,13,11,16,51,13,5,22,48,49,0,15,2,0,17,5,23,201,0,1,13,11,9,0,1,1048576,1048576,0,0,0,0,0,17,6,7,15,13,5,22,48,49,0,13,5,22,48,57,0,15,13,11,16,50,13,5,22,48,51,0,15,2,0,17,7,16,58,17,8,13,5,22,48,53,0,13,5,22,48,57,0,17,9,16,58,17,10,13,5,22,48,53,0,13,5,22,48,57,0,17,11,23,31,0,1,16,46,17,12,24,10,1,6,13,5,22,48,57,0,1,17,13,24,10,0,4294967295,13,5,22,48,57,0,1,18,23,83,0,1,7,14,17,14,13,6,16,90,16,122,0,17,15,15,66,64,17,16,13,6,16,43,16,45,0,17,17,17,18,7,15,13,5,22,48,49,0,13,5,22,48,57,0,15,13,11,16,50,13,5,22,48,51,0,15,2,0,17,19,16,58,17,20,13,5,22,48,53,0,13,5,22,48,57,0,17,21,15,2,0,18,18,1]),gO "re.Pattern" [.str (sX ["\n([0-9]{4})-(0[1-9]|1[0-2","])-(0[1-9]|[12][0-9]|3[01","])  # date, e.g. 1988-10-","27\n(?:\n    [Tt ]\n    ([01","][0-9]|2[0-3]):([0-5][0-9","]):([0-5][0-9])(?:\\.([0-9","]{1,6})[0-9]*)?\n    (?:([","Zz])|([+-])([01][0-9]|2[0","-3]):([0-5][0-9]))?  # op","tional time offset\n)?\n"]) 907,.int 96 1209,vI 11,vN,vN,vR 116,vI 0]]
noncomputable def u3_17:Obj:=mo (mc (u3_16 P) 0 (es P "__name__" 165 (vS "functools" 1237))) [er P "match_to_datetime" 1236 124,er P "WRAPPER_ASSIGNMENTS" 1244 125,er P "WRAPPER_UPDATES" 1246 126,er P "update_wrapper" 1258 134] 26
noncomputable def u64_17:Obj:=ma (u64_12 P) [vI 18,vI 0,vR 123,vI 35,vI 0,vR 133]
noncomputable def tr17:BT:=iN (sN (tr16 P X) [(3,u3_17 P),(64,u64_17 P)]) 118 [tO [],vE,tO (ts 1214 ["match","year_str","month_str","day_str","hour_str","minute_str","sec_str","micros_str","zulu_time","offset_sign_str","offset_hour_str","offset_minute_str","year","month","day","hour","minute","sec","micros","tz"]),tO [],fO vN "match_to_datetime" (bs 6),cO "match_to_datetime" "match_to_datetime" 1211 18 1 0 0 3 118 true vN (vR 120) (vR 121) (vR 122) 1234,fF "match_to_datetime" (bs 6) "cpy313.tomllib._re" 535 123,tO (ts 1239 ["__module__","__name__","__qualname__","__doc__","__type_params__"]),tO [vS "__dict__" 1245],tO [vR 125,vR 126],tO [],vE,tO (ts 1250 ["wrapper","wrapped","assigned","updated","value","update"]),tO [],fO vN "update_wrapper" (bs 10),cO "update_wrapper" "update_wrapper" 1247 35 4 0 0 3 128 true vN (vR 130) (vR 131) (vR 132) 1256,fO (.type "function") "update_wrapper" (bs 10) (gl:=3) (df:=(vR 127)) (pm:=(vS "functools" 1237)) (cd:=(vR 133))]
noncomputable def u3_18:Obj:=mo (u3_17 P) [er P "CacheInfo" 1362 198] 27
noncomputable def u64_18:Obj:=ma (u64_17 P) [vI 80,vI 0,vR 140]
noncomputable def tr18:BT:=iN (sN (tr17 P X) [(3,u3_18 P),(64,u64_18 P)]) 135 [tO [.type "tuple"],gO "builtin_function_or_method" [.builtin "type.__prepare__",.type "type"],dO [es P "__module__" 1266 (vS "functools" 1237),es P "__qualname__" 1268 (vS "CacheInfo" 1267),es P "__firstlineno__" 1270 (.int 80 1269),er P "__slots__" 1271 142,er P "_fields" 1276 143,er P "_field_defaults" 1277 144,er P "__new__" 1288 151,er P "_make" 1309 160,er P "_replace" 1318 168,er P "__replace__" 1319 168,er P "__repr__" 1326 175,er P "_asdict" 1333 182,er P "__getnewargs__" 1340 189,er P "__match_args__" 1345 190,er P "hits" 1348 191,er P "misses" 1351 192,er P "maxsize" 1354 193,er P "currsize" 1357 194,er P "__static_attributes__" 1358 195] 19,tO [],ma vE [vI 85,vI 4,vR 150,vI 89,vI 4,vR 157,vI 95,vI 4,vR 167,vI 102,vI 4,vR 174,vI 105,vI 4,vR 181,vI 108,vI 4,vR 188],cO "CacheInfo" "CacheInfo" 1261 80 0 0 0 0 138 false vN vN vN vN 1264,⟨(.type "frame"),none,.plain,⟨[some (vR 140),some (vR 3),some (vR 137),none,some (vS "functools" 1237),none,some (vR 0)]⟩⟩,tO [],tO (ts 1272 ["hits","misses","maxsize","currsize"]),dO [] 0,tO [],vE,tO (ts 1281 ["_cls","hits","misses","maxsize","currsize"]),tO [],fO vN "__new__" (ns (bs 11) 3) (q:=some "CacheInfo.__new__"),cO "__new__" "CacheInfo.__new__" 1278 85 5 0 0 3 145 true vN (vR 147) (vR 148) (vR 149) 1286,fO (.type "function") "__new__" (ns (bs 11) 3) (q:=some "CacheInfo.__new__") (gl:=3) (pm:=(vS "functools" 1237)) (cd:=(vR 150)),tO [],vE,tO (ts 1292 ["cls","iterable","result"]),tO [],fO vN "_make" (ns (bs 11) 4) (q:=some "CacheInfo._make"),cO "_make" "CacheInfo._make" 1289 88 2 0 0 3 152 true vN (vR 154) (vR 155) (vR 156) 1295,fO (.type "function") "_make" (ns (bs 11) 4) (q:=some "CacheInfo._make") (gl:=3) (pm:=(vS "functools" 1237)) (an:=some 161) (cd:=(vR 157)),dO [es P "__module__" 1298 (vS "functools" 1237),es P "__name__" 1301 (vS "_make" 1300),es P "__qualname__" 1304 (vS "CacheInfo._make" 1303),es P "__doc__" 1306 vN,er P "__annotations__" 1308 161] 5,⟨(.type "classmethod"),some 159,(.fields ⟨[vR 158,.bool false]⟩),⟨[]⟩⟩,dO [] 0,tO [],vE,tO (ts 1313 ["self","kwds","result"]),tO [],fO vN "_replace" (ns (bs 11) 5) (q:=some "CacheInfo._replace"),cO "_replace" "CacheInfo._replace" 1310 95 1 1 0 11 162 true vN (vR 164) (vR 165) (vR 166) 1316,fO (.type "function") "_replace" (ns (bs 11) 5) (q:=some "CacheInfo._replace") (gl:=3) (pm:=(vS "functools" 1237)) (cd:=(vR 167)),tO [],vE,tO [vS "self" 1323],tO [],fO vN "__repr__" (ns (bs 11) 7) (q:=some "CacheInfo.__repr__"),cO "__repr__" "CacheInfo.__repr__" 1320 102 1 0 0 3 169 true vN (vR 171) (vR 172) (vR 173) 1324,fO (.type "function") "__repr__" (ns (bs 11) 7) (q:=some "CacheInfo.__repr__") (gl:=3) (pm:=(vS "functools" 1237)) (cd:=(vR 174)),tO [],vE,tO [vS "self" 1330],tO [],fO vN "_asdict" (ns (bs 11) 8) (q:=some "CacheInfo._asdict"),cO "_asdict" "CacheInfo._asdict" 1327 105 1 0 0 3 176 true vN (vR 178) (vR 179) (vR 180) 1331,fO (.type "function") "_asdict" (ns (bs 11) 8) (q:=some "CacheInfo._asdict") (gl:=3) (pm:=(vS "functools" 1237)) (cd:=(vR 181)),tO [],vE,tO [vS "self" 1337],tO [],fO vN "__getnewargs__" (ns (bs 11) 9) (q:=some "CacheInfo.__getnewargs__"),cO "__getnewargs__" "CacheInfo.__getnewargs__" 1334 108 1 0 0 3 183 true vN (vR 185) (vR 186) (vR 187) 1338,fO (.type "function") "__getnewargs__" (ns (bs 11) 9) (q:=some "CacheInfo.__getnewargs__") (gl:=3) (pm:=(vS "functools" 1237)) (cd:=(vR 188)),tO (ts 1341 ["hits","misses","maxsize","currsize"]),gO "collections._tuplegetter" [vI 0,vS "Alias for field number 0" 1347,.bool true],gO "collections._tuplegetter" [vI 1,vS "Alias for field number 1" 1350,.bool true],gO "collections._tuplegetter" [vI 2,vS "Alias for field number 2" 1353,.bool true],gO "collections._tuplegetter" [vI 3,vS "Alias for field number 3" 1356,.bool true],tO [],⟨(.type "list"),none,(.seq ⟨[]⟩ 0),#[]⟩,dO [es P "__module__" 1266 (vS "functools" 1237),es P "__firstlineno__" 1270 (.int 80 1269),er P "__slots__" 1271 142,er P "_fields" 1276 143,er P "_field_defaults" 1277 144,er P "__new__" 1288 199,er P "_make" 1309 160,er P "_replace" 1318 168,er P "__replace__" 1319 168,er P "__repr__" 1326 175,er P "_asdict" 1333 182,er P "__getnewargs__" 1340 189,er P "__match_args__" 1345 190,er P "hits" 1348 191,er P "misses" 1351 192,er P "maxsize" 1354 193,er P "currsize" 1357 194,er P "__static_attributes__" 1358 195,es P "__doc__" 1360 vN] 2,⟨(.type "type"),none,(.cls {name:=(S_ "CacheInfo"),bases:=[.type "tuple"],mro:=[vR 198,.type "tuple",.type "object"],ns:=197,qualname:=(S_ "CacheInfo"),hasDict:=false,slotNames:=[],subclasses:=[],abstract:=false,collection:=none,hasDel:=false}),⟨[some (vR 135),none,some (vS "CacheInfo" 1259),some (vS "CacheInfo" 1267),some vN,some (.bool false)]⟩⟩,gO "staticmethod" [vR 151],gO "super" [vR 198,vR 198,vR 198],gO "builtin_function_or_method" [.builtin "object.__init_subclass__",vR 198]]
noncomputable def u3_19:Obj:=mo (mc (u3_18 P) 0 (es P "__name__" 165 (vS "cpy313.tomllib._re" 1378))) [er P "_CacheInfo" 1363 198,er P "lru_cache" 1377 209] 29
noncomputable def u64_19:Obj:=ma (u64_18 P) [vI 116,vI 0,vR 208]
noncomputable def tr19:BT:=iN (sN (tr18 P X) [(3,u3_19 P),(64,u64_19 P)]) 202 [tO [.int 128 1364,.bool false],tO [],vE,tO (ts 1368 ["maxsize","typed","user_function","wrapper","decorating_function"]),tO (ts 1373 ["maxsize","typed"]),fO vN "lru_cache" (bs 13),cO "lru_cache" "lru_cache" 1365 116 2 0 0 3 203 true vN (vR 205) (vR 206) (vR 207) 1375,fO (.type "function") "lru_cache" (bs 13) (gl:=3) (df:=(vR 202)) (pm:=(vS "functools" 1237)) (cd:=(vR 208))]
noncomputable def u3_20:Obj:=mo (u3_19 P) [er P "cached_tz" 1445 232] 30
noncomputable def u64_20:Obj:=ma (u64_19 P) [vI 135,vI 0,vR 226]
noncomputable def tr20:BT:=iN (sN (tr19 P X) [(3,u3_20 P),(64,u64_20 P),(204,ma vE [vI 128,vI 4,vR 219])]) 210 [⟨(.type "frame"),none,(.dict ⟨[er P "decorating_function" 1390 220]⟩ 1),⟨[]⟩⟩,⟨(.type "cell"),none,(.cell (some vN)),⟨[]⟩⟩,⟨(.type "cell"),none,(.cell (some (.bool false))),⟨[]⟩⟩,tO [vR 211,vR 212],tO (ts 1384 ["maxsize","typed"]),ma vE [vI 130,vI 35,vR 239],tO (ts 1386 ["user_function","wrapper"]),tO [],fO vN "decorating_function" (ns (bs 13) 1) (q:=some "lru_cache.<locals>.decorating_function"),cO "decorating_function" "lru_cache.<locals>.decorating_function" 1381 128 1 0 0 19 214 true vN (vR 216) (vR 217) (vR 218) 1388,fO (.type "function") "decorating_function" (ns (bs 13) 1) (q:=some "lru_cache.<locals>.decorating_function") (gl:=3) (cl:=[((S_ "typed"),212),((S_ "maxsize"),211)]) (pm:=(vS "cpy313.tomllib._re" 1378)) (cd:=(vR 219)) (ct:=(vR 213)),tO [],vE,tO (ts 1394 ["hour_str","minute_str","sign_str","sign"]),tO [],fO vN "cached_tz" (bs 15),cO "cached_tz" "cached_tz" 1391 134 3 0 0 3 221 true vN (vR 223) (vR 224) (vR 225) 1398,fO (.type "function") "cached_tz" (bs 15) (gl:=3) (pm:=(vS "cpy313.tomllib._re" 1378)) (cd:=(vR 226)) (di:=some 245),⟨(.type "frame"),none,(.dict ⟨[er P "user_function" 1400 227,er P "wrapper" 1401 232]⟩ 2),⟨[]⟩⟩,⟨vN,none,(.dict ⟨[]⟩ 0),⟨[]⟩⟩,ma vE [vI 0,vI 0],⟨(.type "object"),none,.plain,⟨[]⟩⟩,⟨(.type "functools._lru_cache_wrapper"),some 241,(.fields ⟨[vR 227,.int (-1) 0,.bool false,vR 198,vR 229,vR 230,vN,vR 231]⟩),⟨[]⟩⟩,tO [vR 211,vR 212],tO (ts 1405 ["maxsize","typed"]),vE,tO [],tO [],fO vN "<lambda>" (ns (ns (bs 13) 1) 1) (lam:=true) (q:=some "lru_cache.<locals>.decorating_function.<locals>.<lambda>"),cO "<lambda>" "lru_cache.<locals>.decorating_function.<locals>.<lambda>" 1402 130 0 0 0 19 234 true vN (vR 236) (vR 237) (vR 238) 1407,fO (.type "function") "<lambda>" (ns (ns (bs 13) 1) 1) (lam:=true) (q:=some "lru_cache.<locals>.decorating_function.<locals>.<lambda>") (gl:=3) (cl:=[((S_ "typed"),212),((S_ "maxsize"),211)]) (pm:=(vS "cpy313.tomllib._re" 1378)) (cd:=(vR 239)) (ct:=(vR 233)),dO [er P "cache_parameters" 1410 240,es P "__module__" 1419 (vS "cpy313.tomllib._re" 1378),es P "__name__" 1424 (vS "cached_tz" 1421),es P "__qualname__" 1429 (vS "cached_tz" 1426),es P "__doc__" 1433 vN,er P "__type_params__" 1437 243,er P "__wrapped__" 1444 227] 7,⟨(.type "frame"),none,(.dict ⟨[er P "wrapper" 1411 232,er P "wrapped" 1412 227,er P "assigned" 1413 125,er P "updated" 1414 126,er P "value" 1416 245,er P "update" 1440 244]⟩ 6),⟨[]⟩⟩,tO [],gO "builtin_function_or_method" [.builtin "dict.update",vR 241],dO [] 0]
noncomputable def u3_21:Obj:=mo (mc (u3_20 P) 0 (es P "__name__" 165 (vS "cpy313.tomllib._parser" 1466))) [er P "match_to_localtime" 1457 252,er P "match_to_number" 1465 259,es P "MAX_KEY_PARTS" 1469 (.int 1000 1468)] 33
noncomputable def u64_21:Obj:=ma (u64_20 P) [vI 138,vI 0,vR 251,vI 142,vI 0,vR 258]
noncomputable def tr21:BT:=iN (sN (tr20 P X) [(3,u3_21 P),(64,u64_21 P)]) 246 [tO [],vE,tO (ts 1449 ["match","hour_str","minute_str","sec_str","micros_str","micros"]),tO [],fO vN "match_to_localtime" (bs 16),cO "match_to_localtime" "match_to_localtime" 1446 138 1 0 0 3 246 true vN (vR 248) (vR 249) (vR 250) 1455,fF "match_to_localtime" (bs 16) "cpy313.tomllib._re" 1378 251,tO [],vE,tO (ts 1461 ["match","parse_float"]),tO [],fO vN "match_to_number" (bs 17),cO "match_to_number" "match_to_number" 1458 142 2 0 0 3 253 true vN (vR 255) (vR 256) (vR 257) 1463,fF "match_to_number" (bs 17) "cpy313.tomllib._re" 1378 258]
noncomputable def u64_22:Obj:=ma (u64_21 P) [vI 148,vI 23,vR 264]
noncomputable def u265:Obj:=⟨(.type "frame"),none,(.dict ⟨[er P ".0" 1478 261]⟩ 1),⟨[]⟩⟩
noncomputable def u266 (P:Params):Obj:=gO "generator" ([vI 0]++ts 1479 ["<genexpr>","<genexpr>"])
noncomputable def tr22:BT:=iN (sN (tr21 P X) [(64,u64_22 P)]) 260 [gO "range" [.int 0 1471,.int 32 1470,.int 1 1472],gO "range_iterator" (vs [0,32,1]),tO [],vE,cO "<genexpr>" "<genexpr>" 1473 148 1 0 0 35 262 true vN vN vN vN 1476,u265 P,u266 P,fz0 P]
noncomputable def tr23:BT:=iN (sN (tr22 P X) [(261,gO "range_iterator" (vs [32,0,1])),(265,mo (u265 P) [es P "i" 1482 (.int 31 1605)] 2),(267,fz (X 267))]) 268 [tO [],gO "StopIteration" [vR 268,vN,vN,vN,.bool false,vN],tO [],gO "StopIteration" [vR 270,vN,vN,vN,.bool false,vN]]
noncomputable def tr24:BT:=iN (tr23 P X) 272 [fz0 P,gO "str_ascii_iterator" [.str (PySem.Str.mk #[127]) 1610,vI 0]]
noncomputable def tr25:BT:=iN (sN (tr24 P X) [(272,fz (X 272)),(273,gO "str_ascii_iterator" [vN,vI 1])]) 274 [tO [],gO "StopIteration" [vR 274,vN,vN,vN,.bool false,vN]]
noncomputable def tr26:BT:=tr25 P X
noncomputable def tr27:BT:=iN (tr26 P X) 276 [fz (X 276)]
noncomputable def u3_28:Obj:=mo (u3_21 P) [er P "ASCII_CTRL" 1613 276] 34
noncomputable def tr28:BT:=sN (tr27 P X) [(3,u3_28 P)]
noncomputable def tp12L (w:World) (os:OsState) (X:Nat→Sx):List Orc:=[⟨(.builtin "set.update.loop" ⟨[(vR 267),(vR 266)],[]⟩),[((.builtin "frozenset.__new__" ⟨[(.type "frozenset"),(vR 266)],[]⟩),⟨148,13,148,51⟩),((.builtin "type.__call__" ⟨[(.type "frozenset"),(vR 266)],[]⟩),⟨148,13,148,51⟩),(Code.body bod envT,⟨148,13,148,51⟩),((.builtin "claim.caller" ⟨[],[]⟩),⟨0,0,0,0⟩)],⟨148,13,148,51⟩,⟨tr22 w.params X,268,{},#[.fresh (.compStart genE 0 (vR 261) .none genEnv)],{},1481,os⟩⟩,⟨(.builtin "set.update.loop" ⟨[(vR 272),(vR 273)],[]⟩),[((.builtin "frozenset.__new__" ⟨[(.type "frozenset"),(.str (PySem.Str.mk #[127]) 1610)],[]⟩),⟨148,54,148,73⟩),((.builtin "type.__call__" ⟨[(.type "frozenset"),(.str (PySem.Str.mk #[127]) 1610)],[]⟩),⟨148,54,148,73⟩),(Code.body bod envT,⟨148,54,148,73⟩),((.builtin "claim.caller" ⟨[],[]⟩),⟨0,0,0,0⟩)],⟨148,54,148,73⟩,⟨tr24 w.params X,274,{},#[.finished],{},1611,os⟩⟩,⟨(.call (.builtin "frozenset.__or__") ⟨[(vR 267),(vR 272)],[]⟩),[(Code.body bod envT,⟨148,13,148,73⟩),((.builtin "claim.caller" ⟨[],[]⟩),⟨0,0,0,0⟩)],⟨148,13,148,73⟩,⟨tr26 w.params X,276,{},#[.finished],{},1613,os⟩⟩]
noncomputable def tp12O (w:World) (os:OsState) (X:Nat→Sx):List (Value×SharedT):=[(vN,⟨tr23 w.params X,272,{},#[.finished],{},1609,os⟩),(vN,⟨tr25 w.params X,276,{},#[.finished],{},1613,os⟩),((vR 276),⟨tr27 w.params X,277,{},#[.finished],{},1613,os⟩)]
noncomputable def tr29:BT:=iN (tr28 P X) 277 [fz0 P,gO "str_ascii_iterator" [.str (PySem.Str.mk #[9]) 1614,vI 0]]
noncomputable def tr30:BT:=iN (sN (tr29 P X) [(277,fz (X 277)),(278,gO "str_ascii_iterator" [vN,vI 1])]) 279 [tO [],gO "StopIteration" [vR 279,vN,vN,vN,.bool false,vN]]
noncomputable def tr31:BT:=tr30 P X
noncomputable def tr32:BT:=iN (tr31 P X) 281 [fz (X 281)]
noncomputable def u3_33:Obj:=mo (u3_28 P) [er P "ILLEGAL_BASIC_STR_CHARS" 1617 281] 35
noncomputable def tr33:BT:=sN (tr32 P X) [(3,u3_33 P)]
noncomputable def tp13L (w:World) (os:OsState) (X:Nat→Sx):List Orc:=[⟨(.builtin "set.update.loop" ⟨[(vR 277),(vR 278)],[]⟩),[((.builtin "frozenset.__new__" ⟨[(.type "frozenset"),(.str (PySem.Str.mk #[9]) 1614)],[]⟩),⟨149,39,149,54⟩),((.builtin "type.__call__" ⟨[(.type "frozenset"),(.str (PySem.Str.mk #[9]) 1614)],[]⟩),⟨149,39,149,54⟩),(Code.body bod envT,⟨149,39,149,54⟩),((.builtin "claim.caller" ⟨[],[]⟩),⟨0,0,0,0⟩)],⟨149,39,149,54⟩,⟨tr29 w.params X,279,{},#[.finished],{},1615,os⟩⟩,⟨(.call (.builtin "frozenset.__sub__") ⟨[(vR 276),(vR 277)],[]⟩),[(Code.body bod envT,⟨149,26,149,54⟩),((.builtin "claim.caller" ⟨[],[]⟩),⟨0,0,0,0⟩)],⟨149,26,149,54⟩,⟨tr31 w.params X,281,{},#[.finished],{},1617,os⟩⟩]
noncomputable def tp13O (w:World) (os:OsState) (X:Nat→Sx):List (Value×SharedT):=[(vN,⟨tr30 w.params X,281,{},#[.finished],{},1617,os⟩),((vR 281),⟨tr32 w.params X,282,{},#[.finished],{},1617,os⟩)]
noncomputable def tr34:BT:=iN (tr33 P X) 282 [fz0 P,gO "str_ascii_iterator" [.str (PySem.Str.mk #[9,10]) 1618,vI 0]]
noncomputable def tr35:BT:=iN (sN (tr34 P X) [(282,fz (X 282)),(283,gO "str_ascii_iterator" [vN,vI 2])]) 284 [tO [],gO "StopIteration" [vR 284,vN,vN,vN,.bool false,vN]]
noncomputable def tr36:BT:=tr35 P X
noncomputable def tr37:BT:=iN (tr36 P X) 286 [fz (X 286)]
noncomputable def u3_38:Obj:=mo (u3_33 P) [er P "ILLEGAL_MULTILINE_BASIC_STR_CHARS" 1623 286] 36
noncomputable def tr38:BT:=sN (tr37 P X) [(3,u3_38 P)]
noncomputable def tp14L (w:World) (os:OsState) (X:Nat→Sx):List Orc:=[⟨(.builtin "set.update.loop" ⟨[(vR 282),(vR 283)],[]⟩),[((.builtin "frozenset.__new__" ⟨[(.type "frozenset"),(.str (PySem.Str.mk #[9,10]) 1618)],[]⟩),⟨150,49,150,66⟩),((.builtin "type.__call__" ⟨[(.type "frozenset"),(.str (PySem.Str.mk #[9,10]) 1618)],[]⟩),⟨150,49,150,66⟩),(Code.body bod envT,⟨150,49,150,66⟩),((.builtin "claim.caller" ⟨[],[]⟩),⟨0,0,0,0⟩)],⟨150,49,150,66⟩,⟨tr34 w.params X,284,{},#[.finished],{},1619,os⟩⟩,⟨(.call (.builtin "frozenset.__sub__") ⟨[(vR 276),(vR 282)],[]⟩),[(Code.body bod envT,⟨150,36,150,66⟩),((.builtin "claim.caller" ⟨[],[]⟩),⟨0,0,0,0⟩)],⟨150,36,150,66⟩,⟨tr36 w.params X,286,{},#[.finished],{},1623,os⟩⟩]
noncomputable def tp14O (w:World) (os:OsState) (X:Nat→Sx):List (Value×SharedT):=[(vN,⟨tr35 w.params X,286,{},#[.finished],{},1623,os⟩),((vR 286),⟨tr37 w.params X,287,{},#[.finished],{},1623,os⟩)]
noncomputable def u3_39:Obj:=mo (u3_38 P) [er P "ILLEGAL_LITERAL_STR_CHARS" 1624 281,er P "ILLEGAL_MULTILINE_LITERAL_STR_CHARS" 1625 286,er P "ILLEGAL_COMMENT_CHARS" 1626 281] 39
noncomputable def tr39:BT:=sN (tr38 P X) [(3,u3_39 P)]
noncomputable def tr40:BT:=iN (tr39 P X) 287 [fz0 P,gO "str_ascii_iterator" [.str (PySem.Str.mk #[32,9]) 1627,vI 0]]
noncomputable def tr41:BT:=iN (sN (tr40 P X) [(287,fz (X 287)),(288,gO "str_ascii_iterator" [vN,vI 2])]) 289 [tO [],gO "StopIteration" [vR 289,vN,vN,vN,.bool false,vN]]
noncomputable def u3_42:Obj:=mo (u3_39 P) [er P "TOML_WS" 1632 287] 40
noncomputable def tr42:BT:=sN (tr41 P X) [(3,u3_42 P)]
noncomputable def tp16L (w:World) (os:OsState) (X:Nat→Sx):List Orc:=[⟨(.builtin "set.update.loop" ⟨[(vR 287),(vR 288)],[]⟩),[((.builtin "frozenset.__new__" ⟨[(.type "frozenset"),(.str (PySem.Str.mk #[32,9]) 1627)],[]⟩),⟨154,10,154,26⟩),((.builtin "type.__call__" ⟨[(.type "frozenset"),(.str (PySem.Str.mk #[32,9]) 1627)],[]⟩),⟨154,10,154,26⟩),(Code.body bod envT,⟨154,10,154,26⟩),((.builtin "claim.caller" ⟨[],[]⟩),⟨0,0,0,0⟩)],⟨154,10,154,26⟩,⟨tr40 w.params X,289,{},#[.finished],{},1628,os⟩⟩]
noncomputable def tp16O (w:World) (os:OsState) (X:Nat→Sx):List (Value×SharedT):=[(vN,⟨tr41 w.params X,291,{},#[.finished],{},1632,os⟩)]
noncomputable def tr43:BT:=iN (tr42 P X) 291 [fz0 P,gO "str_ascii_iterator" [.str (PySem.Str.mk #[10]) 1633,vI 0]]
noncomputable def tr44:BT:=iN (sN (tr43 P X) [(291,fz (X 291)),(292,gO "str_ascii_iterator" [vN,vI 1])]) 293 [tO [],gO "StopIteration" [vR 293,vN,vN,vN,.bool false,vN]]
noncomputable def tr45:BT:=tr44 P X
noncomputable def tr46:BT:=iN (tr45 P X) 295 [fz (X 295)]
noncomputable def u3_47:Obj:=mo (u3_42 P) [er P "TOML_WS_AND_NEWLINE" 1636 295] 41
noncomputable def tr47:BT:=sN (tr46 P X) [(3,u3_47 P)]
noncomputable def tp17L (w:World) (os:OsState) (X:Nat→Sx):List Orc:=[⟨(.builtin "set.update.loop" ⟨[(vR 291),(vR 292)],[]⟩),[((.builtin "frozenset.__new__" ⟨[(.type "frozenset"),(.str (PySem.Str.mk #[10]) 1633)],[]⟩),⟨155,32,155,47⟩),((.builtin "type.__call__" ⟨[(.type "frozenset"),(.str (PySem.Str.mk #[10]) 1633)],[]⟩),⟨155,32,155,47⟩),(Code.body bod envT,⟨155,32,155,47⟩),((.builtin "claim.caller" ⟨[],[]⟩),⟨0,0,0,0⟩)],⟨155,32,155,47⟩,⟨tr43 w.params X,293,{},#[.finished],{},1634,os⟩⟩,⟨(.call (.builtin "frozenset.__or__") ⟨[(vR 287),(vR 291)],[]⟩),[(Code.body bod envT,⟨155,22,155,47⟩),((.builtin "claim.caller" ⟨[],[]⟩),⟨0,0,0,0⟩)],⟨155,22,155,47⟩,⟨tr45 w.params X,295,{},#[.finished],{},1636,os⟩⟩]
noncomputable def tp17O (w:World) (os:OsState) (X:Nat→Sx):List (Value×SharedT):=[(vN,⟨tr44 w.params X,295,{},#[.finished],{},1636,os⟩),((vR 295),⟨tr46 w.params X,296,{},#[.finished],{},1636,os⟩)]
noncomputable def u3_48:Obj:=mo (u3_47 P) [es P "ascii_lowercase" 1638 (vS "abcdefghijklmnopqrstuvwxyz" 1637),es P "ascii_uppercase" 1640 (vS "ABCDEFGHIJKLMNOPQRSTUVWXYZ" 1639),es P "ascii_letters" 1642 (vS "abcdefghijklmnopqrstuvwxyzABCDEFGHIJKLMNOPQRSTUVWXYZ" 1641),es P "digits" 1644 (vS "0123456789" 1643),es P "hexdigits" 1649 (vS "0123456789abcdefABCDEF" 1648)] 46
noncomputable def tr48:BT:=sN (tr47 P X) [(3,u3_48 P)]
noncomputable def tr49:BT:=iN (tr48 P X) 296 [fz0 P,gO "str_ascii_iterator" [vS "abcdefghijklmnopqrstuvwxyzABCDEFGHIJKLMNOPQRSTUVWXYZ0123456789-_" 1652,vI 0]]
noncomputable def tr50:BT:=iN (sN (tr49 P X) [(296,fz (X 296)),(297,gO "str_ascii_iterator" [vN,vI 64])]) 298 [tO [],gO "StopIteration" [vR 298,vN,vN,vN,.bool false,vN]]
noncomputable def u3_51:Obj:=mo (u3_48 P) [er P "BARE_KEY_CHARS" 1781 296] 47
noncomputable def tr51:BT:=sN (tr50 P X) [(3,u3_51 P)]
noncomputable def tp19L (w:World) (os:OsState) (X:Nat→Sx):List Orc:=[⟨(.builtin "set.update.loop" ⟨[(vR 296),(vR 297)],[]⟩),[((.builtin "frozenset.__new__" ⟨[(.type "frozenset"),(vS "abcdefghijklmnopqrstuvwxyzABCDEFGHIJKLMNOPQRSTUVWXYZ0123456789-_" 1652)],[]⟩),⟨161,17,161,57⟩),((.builtin "type.__call__" ⟨[(.type "frozenset"),(vS "abcdefghijklmnopqrstuvwxyzABCDEFGHIJKLMNOPQRSTUVWXYZ0123456789-_" 1652)],[]⟩),⟨161,17,161,57⟩),(Code.body bod envT,⟨161,17,161,57⟩),((.builtin "claim.caller" ⟨[],[]⟩),⟨0,0,0,0⟩)],⟨161,17,161,57⟩,⟨tr49 w.params X,298,{},#[.finished],{},1653,os⟩⟩]
noncomputable def tp19O (w:World) (os:OsState) (X:Nat→Sx):List (Value×SharedT):=[(vN,⟨tr50 w.params X,300,{},#[.finished],{},1781,os⟩)]
noncomputable def tr52:BT:=iN (tr51 P X) 300 [fz0 P,gO "str_ascii_iterator" [vS "0123456789abcdefABCDEF" 1648,vI 0]]
noncomputable def tr53:BT:=iN (sN (tr52 P X) [(300,fz (X 300)),(301,gO "str_ascii_iterator" [vN,vI 22])]) 302 [tO [],gO "StopIteration" [vR 302,vN,vN,vN,.bool false,vN]]
noncomputable def u3_54:Obj:=mo (u3_51 P) [er P "HEXDIGIT_CHARS" 1826 300] 48
noncomputable def tr54:BT:=sN (tr53 P X) [(3,u3_54 P)]
noncomputable def tp20L (w:World) (os:OsState) (X:Nat→Sx):List Orc:=[⟨(.builtin "set.update.loop" ⟨[(vR 300),(vR 301)],[]⟩),[((.builtin "frozenset.__new__" ⟨[(.type "frozenset"),(vS "0123456789abcdefABCDEF" 1648)],[]⟩),⟨162,17,162,37⟩),((.builtin "type.__call__" ⟨[(.type "frozenset"),(vS "0123456789abcdefABCDEF" 1648)],[]⟩),⟨162,17,162,37⟩),(Code.body bod envT,⟨162,17,162,37⟩),((.builtin "claim.caller" ⟨[],[]⟩),⟨0,0,0,0⟩)],⟨162,17,162,37⟩,⟨tr52 w.params X,302,{},#[.finished],{},1782,os⟩⟩]
noncomputable def tp20O (w:World) (os:OsState) (X:Nat→Sx):List (Value×SharedT):=[(vN,⟨tr53 w.params X,304,{},#[.finished],{},1826,os⟩)]
noncomputable def u3_55:Obj:=mo (mc (u3_54 P) 0 (es P "__name__" 165 (vS "cpy313.tomllib._parser" 1831))) [et P "MappingProxyType" 1830 "mappingproxy",er P "BASIC_STR_ESCAPE_REPLACEMENTS" 1854 306] 50
noncomputable def u305:Obj:=dO [es P "\\b" 1833 (.str (PySem.Str.mk #[8]) 1834),es P "\\t" 1835 (.str (PySem.Str.mk #[9]) 1836),es P "\\n" 1837 (.str (PySem.Str.mk #[10]) 1838),es P "\\f" 1839 (.str (PySem.Str.mk #[12]) 1840),es P "\\r" 1841 (.str (PySem.Str.mk #[13]) 1842),es P "\\\"" 1843 (vS "\"" 1844),es P "\\\\" 1845 (vS "\\" 1846)] 7
noncomputable def u306 (P:Params):Obj:=gO "mappingproxy" [vR 305]
noncomputable def tr55:BT:=iN (sN (tr54 P X) [(3,u3_55 P)]) 304 [gO "mappingproxy" [vR 97],u305 P,u306 P]
noncomputable def u3_56:Obj:=mo (u3_55 P) [er P "TOMLDecodeError" 1872 316] 51
noncomputable def u64_56:Obj:=ma (u64_22 P) [vI 167,vI 0,vR 312]
noncomputable def u315:Obj:=dO [es P "__module__" 1862 (vS "cpy313.tomllib._parser" 1831),es P "__firstlineno__" 1866 (.int 167 1865),er P "__static_attributes__" 1867 314,er P "__weakref__" 1869 317,es P "__doc__" 1870 vN] 3
noncomputable def u316 (P:Params):Obj:=⟨(.type "type"),none,(.cls {name:=(S_ "TOMLDecodeError"),bases:=[.type "ValueError"],mro:=[vR 316,.type "ValueError",.type "Exception",.type "BaseException",.type "object"],ns:=315,qualname:=(S_ "TOMLDecodeError"),hasDict:=true,slotNames:=[],subclasses:=[],abstract:=false,collection:=none,hasDel:=false}),⟨[some (vR 307),none,some (vS "TOMLDecodeError" 1855),some (vS "TOMLDecodeError" 1863),some (.builtin "ValueError.__new__"),some (.bool true)]⟩⟩
noncomputable def tr56:BT:=iN (sN (tr55 P X) [(3,u3_56 P),(64,u64_56 P)]) 307 [tO [.type "ValueError"],gO "builtin_function_or_method" [.builtin "type.__prepare__",.type "type"],dO [es P "__module__" 1862 (vS "cpy313.tomllib._parser" 1831),es P "__qualname__" 1864 (vS "TOMLDecodeError" 1863),es P "__firstlineno__" 1866 (.int 167 1865),er P "__static_attributes__" 1867 314] 4,tO [],vE,cO "TOMLDecodeError" "TOMLDecodeError" 1857 167 0 0 0 0 310 false vN vN vN vN 1860,⟨(.type "frame"),none,.plain,⟨[some (vR 312),some (vR 3),some (vR 309),none,some (vS "cpy313.tomllib._parser" 1831),none,some (vR 0)]⟩⟩,tO [],u315 P,u316 P,gO "getset_descriptor" [vS "__weakref__" 1868,vR 316,.builtin "ExceptionGroup.__weakref__",vN],gO "super" [vR 316,vR 316,vR 316],gO "builtin_function_or_method" [.builtin "object.__init_subclass__",vR 316]]
noncomputable def u3_57:Obj:=mo (u3_56 P) [er P "Flags" 1956 371] 52
noncomputable def u64_57:Obj:=ma (u64_56 P) [vI 169,vI 0,vR 325]
noncomputable def tr57:BT:=iN (sN (tr56 P X) [(3,u3_57 P),(64,u64_57 P)]) 320 [tO [],gO "builtin_function_or_method" [.builtin "type.__prepare__",.type "type"],dO [es P "__module__" 1880 (vS "cpy313.tomllib._parser" 1831),es P "__qualname__" 1882 (vS "Flags" 1881),es P "__firstlineno__" 1884 (.int 169 1883),es P "FROZEN" 1886 (.int 0 1885),es P "EXPLICIT_NEST" 1888 (.int 1 1887),er P "__init__" 1895 333,er P "add_pending" 1904 340,er P "finalize_pending" 1911 347,er P "unset_all" 1919 354,er P "set" 1933 361,er P "is_" 1946 368,er P "__static_attributes__" 1949 369] 12,tO [],ma vE [vI 173,vI 4,vR 332,vI 177,vI 4,vR 339,vI 180,vI 4,vR 346,vI 183,vI 4,vR 353,vI 186,vI 4,vR 360,vI 197,vI 4,vR 367],cO "Flags" "Flags" 1875 169 0 0 0 0 323 false vN vN vN vN 1878,⟨(.type "frame"),none,.plain,⟨[some (vR 325),some (vR 3),some (vR 322),none,some (vS "cpy313.tomllib._parser" 1831),none,some (vR 0)]⟩⟩,tO [],vE,tO [vS "self" 1892],tO [],fO vN "__init__" (ns (bs 40) 2) (q:=some "Flags.__init__"),cO "__init__" "Flags.__init__" 1889 173 1 0 0 3 327 true vN (vR 329) (vR 330) (vR 331) 1893,fO (.type "function") "__init__" (ns (bs 40) 2) (q:=some "Flags.__init__") (gl:=3) (pm:=(vS "cpy313.tomllib._parser" 1831)) (cd:=(vR 332)),tO [],vE,tO (ts 1899 ["self","key","flag"]),tO [],fO vN "add_pending" (ns (bs 40) 3) (q:=some "Flags.add_pending"),cO "add_pending" "Flags.add_pending" 1896 177 3 0 0 3 334 true vN (vR 336) (vR 337) (vR 338) 1902,fO (.type "function") "add_pending" (ns (bs 40) 3) (q:=some "Flags.add_pending") (gl:=3) (pm:=(vS "cpy313.tomllib._parser" 1831)) (cd:=(vR 339)),tO [],vE,tO [vS "self" 1908],tO [],fO vN "finalize_pending" (ns (bs 40) 4) (q:=some "Flags.finalize_pending"),cO "finalize_pending" "Flags.finalize_pending" 1905 180 1 0 0 3 341 true vN (vR 343) (vR 344) (vR 345) 1909,fO (.type "function") "finalize_pending" (ns (bs 40) 4) (q:=some "Flags.finalize_pending") (gl:=3) (pm:=(vS "cpy313.tomllib._parser" 1831)) (cd:=(vR 346)),tO [],vE,tO (ts 1915 ["self","key"]),tO [],fO vN "unset_all" (ns (bs 40) 5) (q:=some "Flags.unset_all"),cO "unset_all" "Flags.unset_all" 1912 183 2 0 0 3 348 true vN (vR 350) (vR 351) (vR 352) 1917,fO (.type "function") "unset_all" (ns (bs 40) 5) (q:=some "Flags.unset_all") (gl:=3) (pm:=(vS "cpy313.tomllib._parser" 1831)) (cd:=(vR 353)),tO [],vE,tO (ts 1923 ["self","key","flag","recursive","cont","key_parent","key_stem","k"]),tO [],fO vN "set" (ns (bs 40) 6) (q:=some "Flags.set"),cO "set" "Flags.set" 1920 186 3 0 1 3 355 true vN (vR 357) (vR 358) (vR 359) 1931,fO (.type "function") "set" (ns (bs 40) 6) (q:=some "Flags.set") (gl:=3) (pm:=(vS "cpy313.tomllib._parser" 1831)) (cd:=(vR 360)),tO [],vE,tO (ts 1937 ["self","key","flag","cont","k","inner_cont","key_stem"]),tO [],fO vN "is_" (ns (bs 40) 7) (q:=some "Flags.is_"),cO "is_" "Flags.is_" 1934 197 3 0 0 3 362 true vN (vR 364) (vR 365) (vR 366) 1944,fO (.type "function") "is_" (ns (bs 40) 7) (q:=some "Flags.is_") (gl:=3) (pm:=(vS "cpy313.tomllib._parser" 1831)) (cd:=(vR 367)),tO (ts 1947 ["_flags","_pending_flags"]),dO [es P "__module__" 1880 (vS "cpy313.tomllib._parser" 1831),es P "__firstlineno__" 1884 (.int 169 1883),es P "FROZEN" 1886 (.int 0 1885),es P "EXPLICIT_NEST" 1888 (.int 1 1887),er P "__init__" 1895 333,er P "add_pending" 1904 340,er P "finalize_pending" 1911 347,er P "unset_all" 1919 354,er P "set" 1933 361,er P "is_" 1946 368,er P "__static_attributes__" 1949 369,er P "__dict__" 1951 372,er P "__weakref__" 1953 373,es P "__doc__" 1954 vN] 4,⟨(.type "type"),none,(.cls {name:=(S_ "Flags"),bases:=[.type "object"],mro:=[vR 371,.type "object"],ns:=370,qualname:=(S_ "Flags"),hasDict:=true,slotNames:=[],subclasses:=[],abstract:=false,collection:=none,hasDel:=false}),⟨[none,none,some (vS "Flags" 1873),some (vS "Flags" 1881),some (.builtin "object.__new__"),some (.bool true)]⟩⟩,gO "getset_descriptor" [vS "__dict__" 1950,vR 371,.builtin "function.__dict__",.builtin "function.__dict__#set"],gO "getset_descriptor" [vS "__weakref__" 1952,vR 371,.builtin "ExceptionGroup.__weakref__",vN],gO "super" [vR 371,vR 371,vR 371],gO "builtin_function_or_method" [.builtin "object.__init_subclass__",vR 371]]
noncomputable def u3_58:Obj:=mo (u3_57 P) [er P "NestedDict" 2004 407] 53
noncomputable def u64_58:Obj:=ma (u64_57 P) [vI 213,vI 0,vR 381]
noncomputable def tr58:BT:=iN (sN (tr57 P X) [(3,u3_58 P),(64,u64_58 P)]) 376 [tO [],gO "builtin_function_or_method" [.builtin "type.__prepare__",.type "type"],dO [es P "__module__" 1964 (vS "cpy313.tomllib._parser" 1831),es P "__qualname__" 1966 (vS "NestedDict" 1965),es P "__firstlineno__" 1968 (.int 213 1967),er P "__init__" 1975 389,er P "get_or_create_nest" 1987 397,er P "append_nest_to_list" 1995 404,er P "__static_attributes__" 1997 405] 7,tO [],ma vE [vI 215,vI 4,vR 388,vI 218,vI 4,vR 396,vI 230,vI 4,vR 403],cO "NestedDict" "NestedDict" 1959 213 0 0 0 0 379 false vN vN vN vN 1962,⟨(.type "frame"),none,.plain,⟨[some (vR 381),some (vR 3),some (vR 378),none,some (vS "cpy313.tomllib._parser" 1831),none,some (vR 0)]⟩⟩,tO [],vE,tO [vS "self" 1972],tO [],fO vN "__init__" (ns (bs 41) 0) (q:=some "NestedDict.__init__"),cO "__init__" "NestedDict.__init__" 1969 215 1 0 0 3 383 true vN (vR 385) (vR 386) (vR 387) 1973,fO (.type "function") "__init__" (ns (bs 41) 0) (q:=some "NestedDict.__init__") (gl:=3) (pm:=(vS "cpy313.tomllib._parser" 1831)) (cd:=(vR 388)),dO [es P "access_lists" 1976 (.bool true)] 1,tO [],vE,tO (ts 1980 ["self","key","access_lists","cont","k"]),tO [],fO vN "get_or_create_nest" (ns (bs 41) 1) (q:=some "NestedDict.get_or_create_nest"),cO "get_or_create_nest" "NestedDict.get_or_create_nest" 1977 218 2 0 1 3 391 true vN (vR 393) (vR 394) (vR 395) 1985,fO (.type "function") "get_or_create_nest" (ns (bs 41) 1) (q:=some "NestedDict.get_or_create_nest") (gl:=3) (kd:=(vR 390)) (pm:=(vS "cpy313.tomllib._parser" 1831)) (cd:=(vR 396)),tO [],vE,tO (ts 1991 ["self","key"]),tO [],fO vN "append_nest_to_list" (ns (bs 41) 2) (q:=some "NestedDict.append_nest_to_list"),cO "append_nest_to_list" "NestedDict.append_nest_to_list" 1988 230 2 0 0 3 398 true vN (vR 400) (vR 401) (vR 402) 1993,fO (.type "function") "append_nest_to_list" (ns (bs 41) 2) (q:=some "NestedDict.append_nest_to_list") (gl:=3) (pm:=(vS "cpy313.tomllib._parser" 1831)) (cd:=(vR 403)),tO [vS "dict" 1996],dO [es P "__module__" 1964 (vS "cpy313.tomllib._parser" 1831),es P "__firstlineno__" 1968 (.int 213 1967),er P "__init__" 1975 389,er P "get_or_create_nest" 1987 397,er P "append_nest_to_list" 1995 404,er P "__static_attributes__" 1997 405,er P "__dict__" 1999 408,er P "__weakref__" 2001 409,es P "__doc__" 2002 vN] 4,⟨(.type "type"),none,(.cls {name:=(S_ "NestedDict"),bases:=[.type "object"],mro:=[vR 407,.type "object"],ns:=406,qualname:=(S_ "NestedDict"),hasDict:=true,slotNames:=[],subclasses:=[],abstract:=false,collection:=none,hasDel:=false}),⟨[none,none,some (vS "NestedDict" 1957),some (vS "NestedDict" 1965),some (.builtin "object.__new__"),some (.bool true)]⟩⟩,gO "getset_descriptor" [vS "__dict__" 1998,vR 407,.builtin "function.__dict__",.builtin "function.__dict__#set"],gO "getset_descriptor" [vS "__weakref__" 2000,vR 407,.builtin "ExceptionGroup.__weakref__",vN],gO "super" [vR 407,vR 407,vR 407],gO "builtin_function_or_method" [.builtin "object.__init_subclass__",vR 407]]
noncomputable def u3_59:Obj:=mo (u3_58 P) [er P "skip_chars" 2013 418,er P "skip_until" 2025 425,er P "skip_comment" 2034 432,er P "skip_comments_and_array_ws" 2043 439,er P "parse_key_value_pair" 2055 446,er P "parse_key" 2066 453,er P "parse_key_part" 2076 460] 60
noncomputable def u64_59:Obj:=ma (u64_58 P) [vI 232,vI 0,vR 417,vI 239,vI 0,vR 424,vI 251,vI 0,vR 431,vI 259,vI 0,vR 438,vI 266,vI 0,vR 445,vI 278,vI 0,vR 452,vI 296,vI 0,vR 459]
noncomputable def u417 (P:Params):Obj:=cO "skip_chars" "skip_chars" 2005 232 3 0 0 3 412 true vN (vR 414) (vR 415) (vR 416) 2011
noncomputable def u418 (P:Params):Obj:=fF "skip_chars" (bs 42) "cpy313.tomllib._parser" 1831 417
noncomputable def u424 (P:Params):Obj:=cO "skip_until" "skip_until" 2014 239 3 0 2 3 419 true vN (vR 421) (vR 422) (vR 423) 2023
noncomputable def u425 (P:Params):Obj:=fF "skip_until" (bs 43) "cpy313.tomllib._parser" 1831 424
noncomputable def u445 (P:Params):Obj:=cO "parse_key_value_pair" "parse_key_value_pair" 2044 266 3 0 0 3 440 true vN (vR 442) (vR 443) (vR 444) 2053
noncomputable def u446 (P:Params):Obj:=fF "parse_key_value_pair" (bs 46) "cpy313.tomllib._parser" 1831 445
noncomputable def u452 (P:Params):Obj:=cO "parse_key" "parse_key" 2056 278 2 0 0 3 447 true vN (vR 449) (vR 450) (vR 451) 2064
noncomputable def u453 (P:Params):Obj:=fF "parse_key" (bs 47) "cpy313.tomllib._parser" 1831 452
noncomputable def u459 (P:Params):Obj:=cO "parse_key_part" "parse_key_part" 2067 296 2 0 0 3 454 true vN (vR 456) (vR 457) (vR 458) 2074
noncomputable def u460 (P:Params):Obj:=fF "parse_key_part" (bs 48) "cpy313.tomllib._parser" 1831 459
noncomputable def tr59:BT:=iN (sN (tr58 P X) [(3,u3_59 P),(64,u64_59 P)]) 412 [tO [],vE,tO (ts 2008 ["src","pos","chars"]),tO [],fO vN "skip_chars" (bs 42),u417 P,u418 P,tO [],vE,tO (ts 2017 ["src","pos","expect","error_on","error_on_eof","new_pos"]),tO [],fO vN "skip_until" (bs 43),u424 P,u425 P,tO [],vE,tO (ts 2029 ["src","pos","char"]),tO [],fO vN "skip_comment" (bs 44),cO "skip_comment" "skip_comment" 2026 251 2 0 0 3 426 true vN (vR 428) (vR 429) (vR 430) 2032,fF "skip_comment" (bs 44) "cpy313.tomllib._parser" 1831 431,tO [],vE,tO (ts 2038 ["src","pos","pos_before_skip"]),tO [],fO vN "skip_comments_and_array_ws" (bs 45),cO "skip_comments_and_array_ws" "skip_comments_and_array_ws" 2035 259 2 0 0 3 433 true vN (vR 435) (vR 436) (vR 437) 2041,fF "skip_comments_and_array_ws" (bs 45) "cpy313.tomllib._parser" 1831 438,tO [],vE,tO (ts 2047 ["src","pos","parse_float","key","char","value"]),tO [],fO vN "parse_key_value_pair" (bs 46),u445 P,u446 P,tO [],vE,tO (ts 2059 ["src","pos","key_part","key","char"]),tO [],fO vN "parse_key" (bs 47),u452 P,u453 P,tO [],vE,tO (ts 2070 ["src","pos","char","start_pos"]),tO [],fO vN "parse_key_part" (bs 48),u459 P,u460 P]
noncomputable def u3_60:Obj:=mo (u3_59 P) [er P "parse_one_line_basic_str" 2084 467,er P "parse_array" 2096 474,er P "parse_inline_table" 2113 481,er P "parse_basic_str_escape" 2125 489,er P "parse_basic_str_escape_multiline" 2133 496,er P "parse_hex_char" 2144 503] 66
noncomputable def u64_60:Obj:=ma (u64_59 P) [vI 310,vI 0,vR 466,vI 313,vI 0,vR 473,vI 332,vI 0,vR 480,vI 361,vI 0,vR 488,vI 384,vI 0,vR 495,vI 386,vI 0,vR 502]
noncomputable def u466 (P:Params):Obj:=cO "parse_one_line_basic_str" "parse_one_line_basic_str" 2077 310 2 0 0 3 461 true vN (vR 463) (vR 464) (vR 465) 2082
noncomputable def u467 (P:Params):Obj:=fF "parse_one_line_basic_str" (bs 49) "cpy313.tomllib._parser" 1831 466
noncomputable def u482:Obj:=dO [es P "multiline" 2114 (.bool false)] 1
noncomputable def u488 (P:Params):Obj:=cO "parse_basic_str_escape" "parse_basic_str_escape" 2115 361 2 0 1 3 483 true vN (vR 485) (vR 486) (vR 487) 2123
noncomputable def u489 (P:Params):Obj:=fO (.type "function") "parse_basic_str_escape" (bs 52) (gl:=3) (kd:=(vR 482)) (pm:=(vS "cpy313.tomllib._parser" 1831)) (cd:=(vR 488))
noncomputable def u502 (P:Params):Obj:=cO "parse_hex_char" "parse_hex_char" 2134 386 3 0 0 3 497 true vN (vR 499) (vR 500) (vR 501) 2142
noncomputable def u503 (P:Params):Obj:=fF "parse_hex_char" (bs 54) "cpy313.tomllib._parser" 1831 502
noncomputable def tr60:BT:=iN (sN (tr59 P X) [(3,u3_60 P),(64,u64_60 P)]) 461 [tO [],vE,tO (ts 2080 ["src","pos"]),tO [],fO vN "parse_one_line_basic_str" (bs 49),u466 P,u467 P,tO [],vE,tO (ts 2088 ["src","pos","parse_float","array","val","c"]),tO [],fO vN "parse_array" (bs 50),cO "parse_array" "parse_array" 2085 313 3 0 0 3 468 true vN (vR 470) (vR 471) (vR 472) 2094,fF "parse_array" (bs 50) "cpy313.tomllib._parser" 1831 473,tO [],vE,tO (ts 2100 ["src","pos","parse_float","nested_dict","flags","key","value","key_parent","key_stem","nest","c"]),tO [],fO vN "parse_inline_table" (bs 51),cO "parse_inline_table" "parse_inline_table" 2097 332 3 0 0 3 475 true vN (vR 477) (vR 478) (vR 479) 2111,fF "parse_inline_table" (bs 51) "cpy313.tomllib._parser" 1831 480,u482 P,tO [],vE,tO (ts 2118 ["src","pos","multiline","escape_id","char"]),tO [],fO vN "parse_basic_str_escape" (bs 52),u488 P,u489 P,tO [],vE,tO (ts 2129 ["src","pos"]),tO [],fO vN "parse_basic_str_escape_multiline" (bs 53),cO "parse_basic_str_escape_multiline" "parse_basic_str_escape_multiline" 2126 384 2 0 0 3 490 true vN (vR 492) (vR 493) (vR 494) 2131,fF "parse_basic_str_escape_multiline" (bs 53) "cpy313.tomllib._parser" 1831 495,tO [],vE,tO (ts 2137 ["src","pos","hex_len","hex_str","hex_int"]),tO [],fO vN "parse_hex_char" (bs 54),u502 P,u503 P]
noncomputable def u3_61:Obj:=mo (mc (u3_60 P) 0 (es P "__name__" 165 (vS "law_kq0034_05" 2215))) [er P "parse_literal_str" 2153 510,er P "parse_multiline_str" 2165 517,er P "parse_basic_str" 2180 524,er P "parse_value" 2197 531,er P "suffixed_err" 2207 538,er P "is_unicode_scalar_value" 2214 545] 72
noncomputable def u64_61:Obj:=ma (u64_60 P) [vI 395,vI 0,vR 509,vI 400,vI 0,vR 516,vI 419,vI 0,vR 523,vI 449,vI 0,vR 530,vI 492,vI 0,vR 537,vI 504,vI 0,vR 544]
noncomputable def u509 (P:Params):Obj:=cO "parse_literal_str" "parse_literal_str" 2145 395 2 0 0 3 504 true vN (vR 506) (vR 507) (vR 508) 2151
noncomputable def u510 (P:Params):Obj:=fF "parse_literal_str" (bs 55) "cpy313.tomllib._parser" 1831 509
noncomputable def u523 (P:Params):Obj:=cO "parse_basic_str" "parse_basic_str" 2166 419 2 0 1 3 518 true vN (vR 520) (vR 521) (vR 522) 2178
noncomputable def u524 (P:Params):Obj:=fF "parse_basic_str" (bs 57) "cpy313.tomllib._parser" 1831 523
noncomputable def u530 (P:Params):Obj:=cO "parse_value" "parse_value" 2181 449 3 0 0 3 525 true vN (vR 527) (vR 528) (vR 529) 2195
noncomputable def u531 (P:Params):Obj:=fF "parse_value" (bs 58) "cpy313.tomllib._parser" 1831 530
noncomputable def u533 (P:Params):Obj:=vE
noncomputable def u537 (P:Params):Obj:=cO "suffixed_err" "suffixed_err" 2198 492 3 0 0 3 532 true vN (vR 534) (vR 535) (vR 536) 2205
noncomputable def u538 (P:Params):Obj:=fF "suffixed_err" (bs 59) "cpy313.tomllib._parser" 1831 537
noncomputable def u544 (P:Params):Obj:=cO "is_unicode_scalar_value" "is_unicode_scalar_value" 2208 504 1 0 0 3 539 true vN (vR 541) (vR 542) (vR 543) 2212
noncomputable def u545 (P:Params):Obj:=fF "is_unicode_scalar_value" (bs 60) "cpy313.tomllib._parser" 1831 544
noncomputable def tr61:BT:=iN (sN (tr60 P X) [(3,u3_61 P),(64,u64_61 P)]) 504 [tO [],vE,tO (ts 2148 ["src","pos","start_pos"]),tO [],fO vN "parse_literal_str" (bs 55),u509 P,u510 P,tO [],vE,tO (ts 2157 ["src","pos","literal","delim","end_pos","result"]),tO [],fO vN "parse_multiline_str" (bs 56),cO "parse_multiline_str" "parse_multiline_str" 2154 400 2 0 1 3 511 true vN (vR 513) (vR 514) (vR 515) 2163,fF "parse_multiline_str" (bs 56) "cpy313.tomllib._parser" 1831 516,tO [],vE,tO (ts 2169 ["src","pos","multiline","error_on","parse_escapes","result","start_pos","char","parsed_escape"]),tO [],fO vN "parse_basic_str" (bs 57),u523 P,u524 P,tO [],vE,tO (ts 2184 ["src","pos","parse_float","char","datetime_match","datetime_obj","e","localtime_match","number_match","first_three","first_four"]),tO [],fO vN "parse_value" (bs 58),u530 P,u531 P,tO [],u533 P,tO (ts 2201 ["src","pos","msg","coord_repr"]),tO [],fO vN "suffixed_err" (bs 59),u537 P,u538 P,tO [],vE,tO [vS "codepoint" 2211],tO [],fO vN "is_unicode_scalar_value" (bs 60),u544 P,u545 P]
noncomputable def u3_62:Obj:=mo (u3_61 P) [er P "_law_quoted" 2227 552,er P "_law_text" 2233 557,er P "_law_key" 2244 564,er P "_law_at" 2254 571,er P "_law_piece" 2271 578,er P "_law_filled" 2277 583,er P "law" 2283 588] 79
noncomputable def u551 (P:Params):Obj:=cO "_law_quoted" "_law_quoted" 2217 507 2 0 0 3 546 true vN (vR 548) (vR 549) (vR 550) 2225
noncomputable def u552 (P:Params):Obj:=fF "_law_quoted" (bs 62) "law_kq0034_05" 2215 551
noncomputable def u556 (P:Params):Obj:=cO "_law_text" "_law_text" 2228 516 2 0 0 3 553 true vN vN vN (vR 555) 2231
noncomputable def u557 (P:Params):Obj:=fF "_law_text" (bs 63) "law_kq0034_05" 2215 556
noncomputable def u563 (P:Params):Obj:=cO "_law_key" "_law_key" 2234 520 2 0 0 3 558 true vN (vR 560) (vR 561) (vR 562) 2242
noncomputable def u564 (P:Params):Obj:=fF "_law_key" (bs 64) "law_kq0034_05" 2215 563
noncomputable def u570 (P:Params):Obj:=cO "_law_at" "_law_at" 2245 526 2 0 0 3 565 true vN (vR 567) (vR 568) (vR 569) 2252
noncomputable def u571 (P:Params):Obj:=fF "_law_at" (bs 65) "law_kq0034_05" 2215 570
noncomputable def u577 (P:Params):Obj:=cO "_law_piece" "_law_piece" 2255 530 3 0 0 3 572 true vN (vR 574) (vR 575) (vR 576) 2269
noncomputable def u578 (P:Params):Obj:=fF "_law_piece" (bs 66) "law_kq0034_05" 2215 577
noncomputable def u582 (P:Params):Obj:=cO "_law_filled" "_law_filled" 2272 544 2 0 0 3 579 true vN vN vN (vR 581) 2275
noncomputable def u583 (P:Params):Obj:=fF "_law_filled" (bs 67) "law_kq0034_05" 2215 582
noncomputable def u587 (P:Params):Obj:=cO "law" "law" 2278 563 1 0 0 3 584 true vN vN vN (vR 586) 2281
noncomputable def u588 (P:Params):Obj:=fF "law" (bs 68) "law_kq0034_05" 2215 587
noncomputable def tr62:BT:=iN (sN (tr61 P X) [(3,u3_62 P),(64,ma (u64_61 P) [vI 507,vI 0,vR 551,vI 516,vI 0,vR 556,vI 520,vI 0,vR 563,vI 526,vI 0,vR 570,vI 530,vI 0,vR 577,vI 544,vI 0,vR 582,vI 563,vI 0,vR 587])]) 546 [tO [],vE,tO (ts 2220 ["text","wide","out","sign","code"]),tO [],fO vN "_law_quoted" (bs 62),u551 P,u552 P,tO [],vE,fO vN "_law_text" (bs 63),u556 P,u557 P,tO [],vE,tO (ts 2237 ["names","way","parts","name","turn"]),tO [],fO vN "_law_key" (bs 64),u563 P,u564 P,tO [],vE,tO (ts 2248 ["text","place","rows","where"]),tO [],fO vN "_law_at" (bs 65),u570 P,u571 P,tO [],vE,tO (ts 2258 ["kind","way","keys","key","first","code","whole","torn","text","words","offset"]),tO [],fO vN "_law_piece" (bs 66),u577 P,u578 P,tO [],vE,fO vN "_law_filled" (bs 67),u582 P,u583 P,tO [],vE,fO vN "law" (bs 68),u587 P,u588 P]
noncomputable def tr63:BT:=tr62 P X
end
end
theorem op0 (w:World) (os:OsState) (X:Nat→Sx):(goT treeTable pO w 388 ⟨.nil,0,{},#[],{},1,os⟩ (start pO).2).map (fun x=>(x.1,callOf x.2))=some (⟨tr1 w.params X,11,{},#[],{},181,os⟩,some (Code.body opb envO,none,.builtin "boot" {},⟨0,0,0,0⟩)):=by kernel_rfl
theorem opB (w:World) (os:OsState) (X:Nat→Sx) (k:Result→Sem Fin) (g:Bool) (l:List Value):segRunT treeTable pO w 0 none 1 1 ⟨tr1 w.params X,11,{},#[],{},181,os⟩ (blockOf opb envO (Code.body opb envO) ⟨0,0,0,0⟩ [frO k g l])=some (.next,⟨tr2 w.params X,11,{},#[],{},181,os⟩,Code.body opb envO,⟨0,0,0,0⟩):=by kernel_rfl
theorem op1 (w:World) (os:OsState) (X:Nat→Sx) (k:Result→Sem Fin) (g:Bool) (l:List Value):segRunT treeTable pO w 0 none 1 409 ⟨tr2 w.params X,11,{},#[],{},181,os⟩ (piecesOf ((opb.drop 0).take 1) envO (Code.body opb envO) ⟨0,0,0,0⟩ [frO k g l])=some (.next,⟨tr3 w.params X,28,{},#[],{},276,os⟩,Code.body opb envO,⟨1,0,1,11⟩):=by kernel_rfl
theorem op2 (w:World) (os:OsState) (X:Nat→Sx) (k:Result→Sem Fin) (g:Bool) (l:List Value):segRunT treeTable pO w 0 none 1 288 ⟨tr3 w.params X,28,{},#[],{},276,os⟩ (piecesOf ((opb.drop 1).take 1) envO (Code.body opb envO) ⟨1,0,1,11⟩ [frO k g l])=some (.next,⟨tr4 w.params X,34,{},#[],{},318,os⟩,Code.body opb envO,⟨2,0,2,37⟩):=by kernel_rfl
theorem op3 (w:World) (os:OsState) (X:Nat→Sx) (k:Result→Sem Fin) (g:Bool) (l:List Value):segRunT treeTable pO w 0 none 1 652 ⟨tr4 w.params X,34,{},#[],{},318,os⟩ (piecesOf ((opb.drop 2).take 1) envO (Code.body opb envO) ⟨2,0,2,37⟩ [frO k g l])=some (.next,⟨tr5 w.params X,57,{},#[],{},442,os⟩,Code.body opb envO,⟨3,0,3,63⟩):=by kernel_rfl
theorem op4 (w:World) (os:OsState) (X:Nat→Sx) (k:Result→Sem Fin) (g:Bool) (l:List Value):segRunT treeTable pO w 0 none 1 301 ⟨tr5 w.params X,57,{},#[],{},442,os⟩ (piecesOf ((opb.drop 3).take 1) envO (Code.body opb envO) ⟨3,0,3,63⟩ [frO k g l])=some (.next,⟨tr6 w.params X,63,{},#[],{},482,os⟩,Code.body opb envO,⟨4,0,4,41⟩):=by kernel_rfl
theorem opE (w:World) (os:OsState) (X:Nat→Sx):(goT treeTable pO w 388 ⟨.nil,0,{},#[],{},1,os⟩ (start pO).2).bind (fun x=>(goT treeTable pO w 0 ⟨tr6 w.params X,63,{},#[],{},482,os⟩ (retOf x.2 (.ok .next))).map (fun y=>(y.1,y.2.atExitBegin)))=some (⟨tr7 w.params X,63,{},#[],{},482,os⟩,some []):=by kernel_rfl
theorem opBody (w:World) (os:OsState) (X:Nat→Sx) (k:Result→Sem Fin) (g:Bool) (l:List Value):Goes (denote treeTable) pO w (⟨tr1 w.params X,11,{},#[],{},181,os⟩:SharedT).abs ⟨denote treeTable (.body opb envO),.body opb envO,⟨0,0,0,0⟩,[frO k g l]⟩ (⟨tr6 w.params X,63,{},#[],{},482,os⟩:SharedT).abs ⟨doneF .next,.body opb envO,⟨4,0,4,41⟩,[frO k g l]⟩:=
 ((goes_block rfl (opB w os X k g l)).trans ((goes_pieceD rfl (op1 w os X k g l)).trans ((goes_pieceD rfl (op2 w os X k g l)).trans ((goes_pieceD rfl (op3 w os X k g l)).trans ((goes_pieceD rfl (op4 w os X k g l)).trans ((goes_nil (by kernel_rfl))))))))
theorem opGoes (w:World) (os:OsState) (X:Nat→Sx):∃t4:Thread,t4.atExitBegin=some []∧Goes (denote treeTable) pO w (⟨.nil,0,{},#[],{},1,os⟩:SharedT).abs (start pO).2 (⟨tr7 w.params X,63,{},#[],{},482,os⟩:SharedT).abs t4:=
 body_goes (.inl rfl) (op0 w os X) (fun k g l=>opBody w os X k g l) (opE w os X)
theorem fnc (w:World) (os:OsState) (X:Nat→Sx):fenceModules? PySem.Challenge.pw_kq0034_05 (⟨tr7 w.params X,63,{},#[],{},482,os⟩:SharedT).abs=some (⟨tr8 w.params X,63,{},#[],{},482,os⟩:SharedT).abs:=by kernel_rfl
theorem tp0 (w:World) (os:OsState) (X:Nat→Sx):(goT treeTable PySem.Challenge.pw_kq0034_05 w 11 ⟨tr8 w.params X,63,{},#[],{},482,os⟩ (topStub PySem.Challenge.pw_kq0034_05)).map (fun x=>(x.1,callOf x.2))=some (⟨tr9 w.params X,67,{},#[],{},488,os⟩,some (Code.body bod envT,none,.builtin "claim.caller" {},⟨0,0,0,0⟩)):=by kernel_rfl
theorem tpB (w:World) (os:OsState) (X:Nat→Sx) (k:Result→Sem Fin) (g:Bool) (l:List Value):segRunT treeTable PySem.Challenge.pw_kq0034_05 w 63 (some (vR 6)) 1 1 ⟨tr9 w.params X,67,{},#[],{},488,os⟩ (blockOf bod envT (Code.body bod envT) ⟨0,0,0,0⟩ [frT k g l])=some (.next,⟨tr10 w.params X,67,{},#[],{},488,os⟩,Code.body bod envT,⟨0,0,0,0⟩):=by kernel_rfl
theorem tp1 (w:World) (os:OsState) (X:Nat→Sx) (k:Result→Sem Fin) (g:Bool) (l:List Value):segRunT treeTable PySem.Challenge.pw_kq0034_05 w 63 (some (vR 6)) 1 30 ⟨tr10 w.params X,67,{},#[],{},488,os⟩ (piecesOf ((bod.drop 0).take 1) envT (Code.body bod envT) ⟨0,0,0,0⟩ [frT k g l])=some (.next,⟨tr11 w.params X,74,{},#[],{},495,os⟩,Code.body bod envT,⟨5,0,7,12⟩):=by kernel_rfl
theorem tp2 (w:World) (os:OsState) (X:Nat→Sx) (k:Result→Sem Fin) (g:Bool) (l:List Value):segRunT treeTable PySem.Challenge.pw_kq0034_05 w 63 (some (vR 6)) 1 279 ⟨tr11 w.params X,74,{},#[],{},495,os⟩ (piecesOf ((bod.drop 1).take 1) envT (Code.body bod envT) ⟨5,0,7,12⟩ [frT k g l])=some (.next,⟨tr12 w.params X,103,{},#[],{},535,os⟩,Code.body bod envT,⟨8,0,13,34⟩):=by kernel_rfl
theorem tp3 (w:World) (os:OsState) (X:Nat→Sx) (k:Result→Sem Fin) (g:Bool) (l:List Value):segRunT treeTable PySem.Challenge.pw_kq0034_05 w 63 (some (vR 6)) 1 10 ⟨tr12 w.params X,103,{},#[],{},535,os⟩ (piecesOf ((bod.drop 2).take 1) envT (Code.body bod envT) ⟨8,0,13,34⟩ [frT k g l])=some (.next,⟨tr13 w.params X,103,{},#[],{},537,os⟩,Code.body bod envT,⟨14,0,14,8⟩):=by kernel_rfl
theorem tp4f (w:World) (os:OsState) (X:Nat→Sx) (k:Result→Sem Fin) (g:Bool) (l:List Value):segRunT treeTable PySem.Challenge.pw_kq0034_05 (w.withFollow "special-get-raises" false) 63 (some (vR 6)) 1 312 ⟨tr13 (w.withFollow "special-get-raises" false).params X,103,{},#[],{},537,os⟩ (piecesOf ((bod.drop 3).take 1) envT (Code.body bod envT) ⟨14,0,14,8⟩ [frT k g l])=some (.next,⟨tr14 (w.withFollow "special-get-raises" false).params X,108,{},#[],{},793,os⟩,Code.body bod envT,⟨15,0,15,9⟩):=by kernel_rfl
theorem tp4t (w:World) (os:OsState) (X:Nat→Sx) (k:Result→Sem Fin) (g:Bool) (l:List Value):segRunT treeTable PySem.Challenge.pw_kq0034_05 (w.withFollow "special-get-raises" true) 63 (some (vR 6)) 1 312 ⟨tr13 (w.withFollow "special-get-raises" true).params X,103,{},#[],{},537,os⟩ (piecesOf ((bod.drop 3).take 1) envT (Code.body bod envT) ⟨14,0,14,8⟩ [frT k g l])=some (.next,⟨tr14 (w.withFollow "special-get-raises" true).params X,108,{},#[],{},793,os⟩,Code.body bod envT,⟨15,0,15,9⟩):=by kernel_rfl
theorem tp4 (w:World) (os:OsState) (X:Nat→Sx) (k:Result→Sem Fin) (g:Bool) (l:List Value):segRunT treeTable PySem.Challenge.pw_kq0034_05 w 63 (some (vR 6)) 1 312 ⟨tr13 w.params X,103,{},#[],{},537,os⟩ (piecesOf ((bod.drop 3).take 1) envT (Code.body bod envT) ⟨14,0,14,8⟩ [frT k g l])=some (.next,⟨tr14 w.params X,108,{},#[],{},793,os⟩,Code.body bod envT,⟨15,0,15,9⟩):=by
 rw [show w=w.withFollow "special-get-raises" (w.params.followText "special-get-raises") from (World.withFollow_self w _).symm]
 cases w.params.followText "special-get-raises"
 ·exact tp4f w os X k g l
 ·exact tp4t w os X k g l
theorem tp5 (w:World) (os:OsState) (X:Nat→Sx) (k:Result→Sem Fin) (g:Bool) (l:List Value):segRunT treeTable PySem.Challenge.pw_kq0034_05 w 63 (some (vR 6)) 1 157 ⟨tr14 w.params X,108,{},#[],{},793,os⟩ (piecesOf ((bod.drop 4).take 1) envT (Code.body bod envT) ⟨15,0,15,9⟩ [frT k g l])=some (.next,⟨tr15 w.params X,113,{},#[],{},906,os⟩,Code.body bod envT,⟨16,0,16,12⟩):=by kernel_rfl
theorem tp6 (w:World) (os:OsState) (X:Nat→Sx) (k:Result→Sem Fin) (g:Bool) (l:List Value):segRunT treeTable PySem.Challenge.pw_kq0034_05 w 63 (some (vR 6)) 1 349 ⟨tr15 w.params X,113,{},#[],{},906,os⟩ (piecesOf ((bod.drop 5).take 1) envT (Code.body bod envT) ⟨16,0,16,12⟩ [frT k g l])=some (.next,⟨tr16 w.params X,118,{},#[],{},1211,os⟩,Code.body bod envT,⟨17,0,17,11⟩):=by kernel_rfl
theorem tp7 (w:World) (os:OsState) (X:Nat→Sx) (k:Result→Sem Fin) (g:Bool) (l:List Value):segRunT treeTable PySem.Challenge.pw_kq0034_05 w 63 (some (vR 6)) 1 123 ⟨tr16 w.params X,118,{},#[],{},1211,os⟩ (piecesOf ((bod.drop 6).take 5) envT (Code.body bod envT) ⟨17,0,17,11⟩ [frT k g l])=some (.next,⟨tr17 w.params X,135,{},#[],{},1259,os⟩,Code.body bod envT,⟨35,0,79,18⟩):=by kernel_rfl
theorem tp8 (w:World) (os:OsState) (X:Nat→Sx) (k:Result→Sem Fin) (g:Bool) (l:List Value):segRunT treeTable PySem.Challenge.pw_kq0034_05 w 63 (some (vR 6)) 1 721 ⟨tr17 w.params X,135,{},#[],{},1259,os⟩ (piecesOf ((bod.drop 11).take 1) envT (Code.body bod envT) ⟨35,0,79,18⟩ [frT k g l])=some (.next,⟨tr18 w.params X,202,{},#[],{},1363,os⟩,Code.body bod envT,⟨80,0,114,58⟩):=by kernel_rfl
theorem tp9 (w:World) (os:OsState) (X:Nat→Sx) (k:Result→Sem Fin) (g:Bool) (l:List Value):segRunT treeTable PySem.Challenge.pw_kq0034_05 w 63 (some (vR 6)) 1 57 ⟨tr18 w.params X,202,{},#[],{},1363,os⟩ (piecesOf ((bod.drop 12).take 3) envT (Code.body bod envT) ⟨80,0,114,58⟩ [frT k g l])=some (.next,⟨tr19 w.params X,210,{},#[],{},1380,os⟩,Code.body bod envT,⟨133,0,133,8⟩):=by kernel_rfl
theorem tp10qf (w:World) (os:OsState) (X:Nat→Sx) (k:Result→Sem Fin) (g:Bool) (l:List Value):segRunD (Fast.tw11892475500146522536 treeTable) PySem.Challenge.pw_kq0034_05 (w.withFollow "special-get-raises" false) 63 (some (vR 6)) 1 660 ⟨tr19 (w.withFollow "special-get-raises" false).params X,210,{},#[],{},1380,os⟩ ⟨(Fast.tw12563942051412417395 ((bod.drop 15).take 1) envT).wrap doneF deadEnd id id,Code.body bod envT,⟨133,0,133,8⟩,[frT k g l]⟩=some (.next,⟨tr20 (w.withFollow "special-get-raises" false).params X,246,{},#[],{},1446,os⟩,Code.body bod envT,⟨135,0,137,90⟩):=by kernel_rfl
theorem tp10qt (w:World) (os:OsState) (X:Nat→Sx) (k:Result→Sem Fin) (g:Bool) (l:List Value):segRunD (Fast.tw11892475500146522536 treeTable) PySem.Challenge.pw_kq0034_05 (w.withFollow "special-get-raises" true) 63 (some (vR 6)) 1 660 ⟨tr19 (w.withFollow "special-get-raises" true).params X,210,{},#[],{},1380,os⟩ ⟨(Fast.tw12563942051412417395 ((bod.drop 15).take 1) envT).wrap doneF deadEnd id id,Code.body bod envT,⟨133,0,133,8⟩,[frT k g l]⟩=some (.next,⟨tr20 (w.withFollow "special-get-raises" true).params X,246,{},#[],{},1446,os⟩,Code.body bod envT,⟨135,0,137,90⟩):=by kernel_rfl
theorem tp10q (w:World) (os:OsState) (X:Nat→Sx) (k:Result→Sem Fin) (g:Bool) (l:List Value):segRunD (Fast.tw11892475500146522536 treeTable) PySem.Challenge.pw_kq0034_05 w 63 (some (vR 6)) 1 660 ⟨tr19 w.params X,210,{},#[],{},1380,os⟩ ⟨(Fast.tw12563942051412417395 ((bod.drop 15).take 1) envT).wrap doneF deadEnd id id,Code.body bod envT,⟨133,0,133,8⟩,[frT k g l]⟩=some (.next,⟨tr20 w.params X,246,{},#[],{},1446,os⟩,Code.body bod envT,⟨135,0,137,90⟩):=by
 rw [show w=w.withFollow "special-get-raises" (w.params.followText "special-get-raises") from (World.withFollow_self w _).symm]
 cases w.params.followText "special-get-raises"
 ·exact tp10qf w os X k g l
 ·exact tp10qt w os X k g l
theorem tp10 (w:World) (os:OsState) (X:Nat→Sx) (k:Result→Sem Fin) (g:Bool) (l:List Value):segRunT treeTable PySem.Challenge.pw_kq0034_05 w 63 (some (vR 6)) 1 660 ⟨tr19 w.params X,210,{},#[],{},1380,os⟩ (piecesOf ((bod.drop 15).take 1) envT (Code.body bod envT) ⟨133,0,133,8⟩ [frT k g l])=some (.next,⟨tr20 w.params X,246,{},#[],{},1446,os⟩,Code.body bod envT,⟨135,0,137,90⟩):=by
 rw [segRunD_eq,Fast.te11892475500146522536]
 unfold piecesOf
 rw [Fast.te12563942051412417395]
 exact tp10q w os X k g l
theorem tp11 (w:World) (os:OsState) (X:Nat→Sx) (k:Result→Sem Fin) (g:Bool) (l:List Value):segRunT treeTable PySem.Challenge.pw_kq0034_05 w 63 (some (vR 6)) 1 83 ⟨tr20 w.params X,246,{},#[],{},1446,os⟩ (piecesOf ((bod.drop 16).take 4) envT (Code.body bod envT) ⟨135,0,137,90⟩ [frT k g l])=some (.next,⟨tr21 w.params X,260,{},#[],{},1470,os⟩,Code.body bod envT,⟨147,0,147,13⟩):=by kernel_rfl
theorem tp12f (w:World) (os:OsState) (X:Nat→Sx) (k:Result→Sem Fin) (g:Bool) (l:List Value):segOT treeTable PySem.Challenge.pw_kq0034_05 (w.withFollow "special-get-raises" false) 63 (some (vR 6)) 1 147 (tp12O (w.withFollow "special-get-raises" false) os X) ⟨tr21 (w.withFollow "special-get-raises" false).params X,260,{},#[],{},1470,os⟩ (piecesOf ((bod.drop 20).take 1) envT (Code.body bod envT) ⟨147,0,147,13⟩ [frT k g l])=some (tp12L (w.withFollow "special-get-raises" false) os X,.next,⟨tr28 (w.withFollow "special-get-raises" false).params X,277,{},#[.finished],{},1614,os⟩,Code.body bod envT,⟨148,0,148,10⟩):=by kernel_rfl
theorem tp12t (w:World) (os:OsState) (X:Nat→Sx) (k:Result→Sem Fin) (g:Bool) (l:List Value):segOT treeTable PySem.Challenge.pw_kq0034_05 (w.withFollow "special-get-raises" true) 63 (some (vR 6)) 1 147 (tp12O (w.withFollow "special-get-raises" true) os X) ⟨tr21 (w.withFollow "special-get-raises" true).params X,260,{},#[],{},1470,os⟩ (piecesOf ((bod.drop 20).take 1) envT (Code.body bod envT) ⟨147,0,147,13⟩ [frT k g l])=some (tp12L (w.withFollow "special-get-raises" true) os X,.next,⟨tr28 (w.withFollow "special-get-raises" true).params X,277,{},#[.finished],{},1614,os⟩,Code.body bod envT,⟨148,0,148,10⟩):=by kernel_rfl
theorem tp12 (w:World) (os:OsState) (X:Nat→Sx) (k:Result→Sem Fin) (g:Bool) (l:List Value):segOT treeTable PySem.Challenge.pw_kq0034_05 w 63 (some (vR 6)) 1 147 (tp12O w os X) ⟨tr21 w.params X,260,{},#[],{},1470,os⟩ (piecesOf ((bod.drop 20).take 1) envT (Code.body bod envT) ⟨147,0,147,13⟩ [frT k g l])=some (tp12L w os X,.next,⟨tr28 w.params X,277,{},#[.finished],{},1614,os⟩,Code.body bod envT,⟨148,0,148,10⟩):=by
 rw [show w=w.withFollow "special-get-raises" (w.params.followText "special-get-raises") from (World.withFollow_self w _).symm]
 cases w.params.followText "special-get-raises"
 ·exact tp12f w os X k g l
 ·exact tp12t w os X k g l
theorem tp13f (w:World) (os:OsState) (X:Nat→Sx) (k:Result→Sem Fin) (g:Bool) (l:List Value):segOT treeTable PySem.Challenge.pw_kq0034_05 (w.withFollow "special-get-raises" false) 63 (some (vR 6)) 1 45 (tp13O (w.withFollow "special-get-raises" false) os X) ⟨tr28 (w.withFollow "special-get-raises" false).params X,277,{},#[.finished],{},1614,os⟩ (piecesOf ((bod.drop 21).take 1) envT (Code.body bod envT) ⟨148,0,148,10⟩ [frT k g l])=some (tp13L (w.withFollow "special-get-raises" false) os X,.next,⟨tr33 (w.withFollow "special-get-raises" false).params X,282,{},#[.finished],{},1618,os⟩,Code.body bod envT,⟨149,0,149,23⟩):=by kernel_rfl
theorem tp13t (w:World) (os:OsState) (X:Nat→Sx) (k:Result→Sem Fin) (g:Bool) (l:List Value):segOT treeTable PySem.Challenge.pw_kq0034_05 (w.withFollow "special-get-raises" true) 63 (some (vR 6)) 1 45 (tp13O (w.withFollow "special-get-raises" true) os X) ⟨tr28 (w.withFollow "special-get-raises" true).params X,277,{},#[.finished],{},1614,os⟩ (piecesOf ((bod.drop 21).take 1) envT (Code.body bod envT) ⟨148,0,148,10⟩ [frT k g l])=some (tp13L (w.withFollow "special-get-raises" true) os X,.next,⟨tr33 (w.withFollow "special-get-raises" true).params X,282,{},#[.finished],{},1618,os⟩,Code.body bod envT,⟨149,0,149,23⟩):=by kernel_rfl
theorem tp13 (w:World) (os:OsState) (X:Nat→Sx) (k:Result→Sem Fin) (g:Bool) (l:List Value):segOT treeTable PySem.Challenge.pw_kq0034_05 w 63 (some (vR 6)) 1 45 (tp13O w os X) ⟨tr28 w.params X,277,{},#[.finished],{},1614,os⟩ (piecesOf ((bod.drop 21).take 1) envT (Code.body bod envT) ⟨148,0,148,10⟩ [frT k g l])=some (tp13L w os X,.next,⟨tr33 w.params X,282,{},#[.finished],{},1618,os⟩,Code.body bod envT,⟨149,0,149,23⟩):=by
 rw [show w=w.withFollow "special-get-raises" (w.params.followText "special-get-raises") from (World.withFollow_self w _).symm]
 cases w.params.followText "special-get-raises"
 ·exact tp13f w os X k g l
 ·exact tp13t w os X k g l
theorem tp14f (w:World) (os:OsState) (X:Nat→Sx) (k:Result→Sem Fin) (g:Bool) (l:List Value):segOT treeTable PySem.Challenge.pw_kq0034_05 (w.withFollow "special-get-raises" false) 63 (some (vR 6)) 1 45 (tp14O (w.withFollow "special-get-raises" false) os X) ⟨tr33 (w.withFollow "special-get-raises" false).params X,282,{},#[.finished],{},1618,os⟩ (piecesOf ((bod.drop 22).take 1) envT (Code.body bod envT) ⟨149,0,149,23⟩ [frT k g l])=some (tp14L (w.withFollow "special-get-raises" false) os X,.next,⟨tr38 (w.withFollow "special-get-raises" false).params X,287,{},#[.finished],{},1624,os⟩,Code.body bod envT,⟨150,0,150,33⟩):=by kernel_rfl
theorem tp14t (w:World) (os:OsState) (X:Nat→Sx) (k:Result→Sem Fin) (g:Bool) (l:List Value):segOT treeTable PySem.Challenge.pw_kq0034_05 (w.withFollow "special-get-raises" true) 63 (some (vR 6)) 1 45 (tp14O (w.withFollow "special-get-raises" true) os X) ⟨tr33 (w.withFollow "special-get-raises" true).params X,282,{},#[.finished],{},1618,os⟩ (piecesOf ((bod.drop 22).take 1) envT (Code.body bod envT) ⟨149,0,149,23⟩ [frT k g l])=some (tp14L (w.withFollow "special-get-raises" true) os X,.next,⟨tr38 (w.withFollow "special-get-raises" true).params X,287,{},#[.finished],{},1624,os⟩,Code.body bod envT,⟨150,0,150,33⟩):=by kernel_rfl
theorem tp14 (w:World) (os:OsState) (X:Nat→Sx) (k:Result→Sem Fin) (g:Bool) (l:List Value):segOT treeTable PySem.Challenge.pw_kq0034_05 w 63 (some (vR 6)) 1 45 (tp14O w os X) ⟨tr33 w.params X,282,{},#[.finished],{},1618,os⟩ (piecesOf ((bod.drop 22).take 1) envT (Code.body bod envT) ⟨149,0,149,23⟩ [frT k g l])=some (tp14L w os X,.next,⟨tr38 w.params X,287,{},#[.finished],{},1624,os⟩,Code.body bod envT,⟨150,0,150,33⟩):=by
 rw [show w=w.withFollow "special-get-raises" (w.params.followText "special-get-raises") from (World.withFollow_self w _).symm]
 cases w.params.followText "special-get-raises"
 ·exact tp14f w os X k g l
 ·exact tp14t w os X k g l
theorem tp15 (w:World) (os:OsState) (X:Nat→Sx) (k:Result→Sem Fin) (g:Bool) (l:List Value):segRunT treeTable PySem.Challenge.pw_kq0034_05 w 63 (some (vR 6)) 1 31 ⟨tr38 w.params X,287,{},#[.finished],{},1624,os⟩ (piecesOf ((bod.drop 23).take 3) envT (Code.body bod envT) ⟨150,0,150,33⟩ [frT k g l])=some (.next,⟨tr39 w.params X,287,{},#[.finished],{},1627,os⟩,Code.body bod envT,⟨153,0,153,21⟩):=by kernel_rfl
theorem tp16f (w:World) (os:OsState) (X:Nat→Sx) (k:Result→Sem Fin) (g:Bool) (l:List Value):segOT treeTable PySem.Challenge.pw_kq0034_05 (w.withFollow "special-get-raises" false) 63 (some (vR 6)) 1 37 (tp16O (w.withFollow "special-get-raises" false) os X) ⟨tr39 (w.withFollow "special-get-raises" false).params X,287,{},#[.finished],{},1627,os⟩ (piecesOf ((bod.drop 26).take 1) envT (Code.body bod envT) ⟨153,0,153,21⟩ [frT k g l])=some (tp16L (w.withFollow "special-get-raises" false) os X,.next,⟨tr42 (w.withFollow "special-get-raises" false).params X,291,{},#[.finished],{},1633,os⟩,Code.body bod envT,⟨154,0,154,7⟩):=by kernel_rfl
theorem tp16t (w:World) (os:OsState) (X:Nat→Sx) (k:Result→Sem Fin) (g:Bool) (l:List Value):segOT treeTable PySem.Challenge.pw_kq0034_05 (w.withFollow "special-get-raises" true) 63 (some (vR 6)) 1 37 (tp16O (w.withFollow "special-get-raises" true) os X) ⟨tr39 (w.withFollow "special-get-raises" true).params X,287,{},#[.finished],{},1627,os⟩ (piecesOf ((bod.drop 26).take 1) envT (Code.body bod envT) ⟨153,0,153,21⟩ [frT k g l])=some (tp16L (w.withFollow "special-get-raises" true) os X,.next,⟨tr42 (w.withFollow "special-get-raises" true).params X,291,{},#[.finished],{},1633,os⟩,Code.body bod envT,⟨154,0,154,7⟩):=by kernel_rfl
theorem tp16 (w:World) (os:OsState) (X:Nat→Sx) (k:Result→Sem Fin) (g:Bool) (l:List Value):segOT treeTable PySem.Challenge.pw_kq0034_05 w 63 (some (vR 6)) 1 37 (tp16O w os X) ⟨tr39 w.params X,287,{},#[.finished],{},1627,os⟩ (piecesOf ((bod.drop 26).take 1) envT (Code.body bod envT) ⟨153,0,153,21⟩ [frT k g l])=some (tp16L w os X,.next,⟨tr42 w.params X,291,{},#[.finished],{},1633,os⟩,Code.body bod envT,⟨154,0,154,7⟩):=by
 rw [show w=w.withFollow "special-get-raises" (w.params.followText "special-get-raises") from (World.withFollow_self w _).symm]
 cases w.params.followText "special-get-raises"
 ·exact tp16f w os X k g l
 ·exact tp16t w os X k g l
theorem tp17f (w:World) (os:OsState) (X:Nat→Sx) (k:Result→Sem Fin) (g:Bool) (l:List Value):segOT treeTable PySem.Challenge.pw_kq0034_05 (w.withFollow "special-get-raises" false) 63 (some (vR 6)) 1 45 (tp17O (w.withFollow "special-get-raises" false) os X) ⟨tr42 (w.withFollow "special-get-raises" false).params X,291,{},#[.finished],{},1633,os⟩ (piecesOf ((bod.drop 27).take 1) envT (Code.body bod envT) ⟨154,0,154,7⟩ [frT k g l])=some (tp17L (w.withFollow "special-get-raises" false) os X,.next,⟨tr47 (w.withFollow "special-get-raises" false).params X,296,{},#[.finished],{},1637,os⟩,Code.body bod envT,⟨155,0,155,19⟩):=by kernel_rfl
theorem tp17t (w:World) (os:OsState) (X:Nat→Sx) (k:Result→Sem Fin) (g:Bool) (l:List Value):segOT treeTable PySem.Challenge.pw_kq0034_05 (w.withFollow "special-get-raises" true) 63 (some (vR 6)) 1 45 (tp17O (w.withFollow "special-get-raises" true) os X) ⟨tr42 (w.withFollow "special-get-raises" true).params X,291,{},#[.finished],{},1633,os⟩ (piecesOf ((bod.drop 27).take 1) envT (Code.body bod envT) ⟨154,0,154,7⟩ [frT k g l])=some (tp17L (w.withFollow "special-get-raises" true) os X,.next,⟨tr47 (w.withFollow "special-get-raises" true).params X,296,{},#[.finished],{},1637,os⟩,Code.body bod envT,⟨155,0,155,19⟩):=by kernel_rfl
theorem tp17 (w:World) (os:OsState) (X:Nat→Sx) (k:Result→Sem Fin) (g:Bool) (l:List Value):segOT treeTable PySem.Challenge.pw_kq0034_05 w 63 (some (vR 6)) 1 45 (tp17O w os X) ⟨tr42 w.params X,291,{},#[.finished],{},1633,os⟩ (piecesOf ((bod.drop 27).take 1) envT (Code.body bod envT) ⟨154,0,154,7⟩ [frT k g l])=some (tp17L w os X,.next,⟨tr47 w.params X,296,{},#[.finished],{},1637,os⟩,Code.body bod envT,⟨155,0,155,19⟩):=by
 rw [show w=w.withFollow "special-get-raises" (w.params.followText "special-get-raises") from (World.withFollow_self w _).symm]
 cases w.params.followText "special-get-raises"
 ·exact tp17f w os X k g l
 ·exact tp17t w os X k g l
theorem tp18 (w:World) (os:OsState) (X:Nat→Sx) (k:Result→Sem Fin) (g:Bool) (l:List Value):segRunT treeTable PySem.Challenge.pw_kq0034_05 w 63 (some (vR 6)) 1 70 ⟨tr47 w.params X,296,{},#[.finished],{},1637,os⟩ (piecesOf ((bod.drop 28).take 5) envT (Code.body bod envT) ⟨155,0,155,19⟩ [frT k g l])=some (.next,⟨tr48 w.params X,296,{},#[.finished],{},1650,os⟩,Code.body bod envT,⟨160,0,160,9⟩):=by kernel_rfl
theorem tp19f (w:World) (os:OsState) (X:Nat→Sx) (k:Result→Sem Fin) (g:Bool) (l:List Value):segOT treeTable PySem.Challenge.pw_kq0034_05 (w.withFollow "special-get-raises" false) 63 (some (vR 6)) 1 53 (tp19O (w.withFollow "special-get-raises" false) os X) ⟨tr48 (w.withFollow "special-get-raises" false).params X,296,{},#[.finished],{},1650,os⟩ (piecesOf ((bod.drop 33).take 1) envT (Code.body bod envT) ⟨160,0,160,9⟩ [frT k g l])=some (tp19L (w.withFollow "special-get-raises" false) os X,.next,⟨tr51 (w.withFollow "special-get-raises" false).params X,300,{},#[.finished],{},1782,os⟩,Code.body bod envT,⟨161,0,161,14⟩):=by kernel_rfl
theorem tp19t (w:World) (os:OsState) (X:Nat→Sx) (k:Result→Sem Fin) (g:Bool) (l:List Value):segOT treeTable PySem.Challenge.pw_kq0034_05 (w.withFollow "special-get-raises" true) 63 (some (vR 6)) 1 53 (tp19O (w.withFollow "special-get-raises" true) os X) ⟨tr48 (w.withFollow "special-get-raises" true).params X,296,{},#[.finished],{},1650,os⟩ (piecesOf ((bod.drop 33).take 1) envT (Code.body bod envT) ⟨160,0,160,9⟩ [frT k g l])=some (tp19L (w.withFollow "special-get-raises" true) os X,.next,⟨tr51 (w.withFollow "special-get-raises" true).params X,300,{},#[.finished],{},1782,os⟩,Code.body bod envT,⟨161,0,161,14⟩):=by kernel_rfl
theorem tp19 (w:World) (os:OsState) (X:Nat→Sx) (k:Result→Sem Fin) (g:Bool) (l:List Value):segOT treeTable PySem.Challenge.pw_kq0034_05 w 63 (some (vR 6)) 1 53 (tp19O w os X) ⟨tr48 w.params X,296,{},#[.finished],{},1650,os⟩ (piecesOf ((bod.drop 33).take 1) envT (Code.body bod envT) ⟨160,0,160,9⟩ [frT k g l])=some (tp19L w os X,.next,⟨tr51 w.params X,300,{},#[.finished],{},1782,os⟩,Code.body bod envT,⟨161,0,161,14⟩):=by
 rw [show w=w.withFollow "special-get-raises" (w.params.followText "special-get-raises") from (World.withFollow_self w _).symm]
 cases w.params.followText "special-get-raises"
 ·exact tp19f w os X k g l
 ·exact tp19t w os X k g l
theorem tp20f (w:World) (os:OsState) (X:Nat→Sx) (k:Result→Sem Fin) (g:Bool) (l:List Value):segOT treeTable PySem.Challenge.pw_kq0034_05 (w.withFollow "special-get-raises" false) 63 (some (vR 6)) 1 38 (tp20O (w.withFollow "special-get-raises" false) os X) ⟨tr51 (w.withFollow "special-get-raises" false).params X,300,{},#[.finished],{},1782,os⟩ (piecesOf ((bod.drop 34).take 1) envT (Code.body bod envT) ⟨161,0,161,14⟩ [frT k g l])=some (tp20L (w.withFollow "special-get-raises" false) os X,.next,⟨tr54 (w.withFollow "special-get-raises" false).params X,304,{},#[.finished],{},1827,os⟩,Code.body bod envT,⟨162,0,162,14⟩):=by kernel_rfl
theorem tp20t (w:World) (os:OsState) (X:Nat→Sx) (k:Result→Sem Fin) (g:Bool) (l:List Value):segOT treeTable PySem.Challenge.pw_kq0034_05 (w.withFollow "special-get-raises" true) 63 (some (vR 6)) 1 38 (tp20O (w.withFollow "special-get-raises" true) os X) ⟨tr51 (w.withFollow "special-get-raises" true).params X,300,{},#[.finished],{},1782,os⟩ (piecesOf ((bod.drop 34).take 1) envT (Code.body bod envT) ⟨161,0,161,14⟩ [frT k g l])=some (tp20L (w.withFollow "special-get-raises" true) os X,.next,⟨tr54 (w.withFollow "special-get-raises" true).params X,304,{},#[.finished],{},1827,os⟩,Code.body bod envT,⟨162,0,162,14⟩):=by kernel_rfl
theorem tp20 (w:World) (os:OsState) (X:Nat→Sx) (k:Result→Sem Fin) (g:Bool) (l:List Value):segOT treeTable PySem.Challenge.pw_kq0034_05 w 63 (some (vR 6)) 1 38 (tp20O w os X) ⟨tr51 w.params X,300,{},#[.finished],{},1782,os⟩ (piecesOf ((bod.drop 34).take 1) envT (Code.body bod envT) ⟨161,0,161,14⟩ [frT k g l])=some (tp20L w os X,.next,⟨tr54 w.params X,304,{},#[.finished],{},1827,os⟩,Code.body bod envT,⟨162,0,162,14⟩):=by
 rw [show w=w.withFollow "special-get-raises" (w.params.followText "special-get-raises") from (World.withFollow_self w _).symm]
 cases w.params.followText "special-get-raises"
 ·exact tp20f w os X k g l
 ·exact tp20t w os X k g l
theorem tp21f (w:World) (os:OsState) (X:Nat→Sx) (k:Result→Sem Fin) (g:Bool) (l:List Value):segRunT treeTable PySem.Challenge.pw_kq0034_05 (w.withFollow "special-get-raises" false) 63 (some (vR 6)) 1 191 ⟨tr54 (w.withFollow "special-get-raises" false).params X,304,{},#[.finished],{},1827,os⟩ (piecesOf ((bod.drop 35).take 4) envT (Code.body bod envT) ⟨162,0,162,14⟩ [frT k g l])=some (.next,⟨tr55 (w.withFollow "special-get-raises" false).params X,307,{},#[.finished],{},1855,os⟩,Code.body bod envT,⟨166,0,166,29⟩):=by kernel_rfl
theorem tp21t (w:World) (os:OsState) (X:Nat→Sx) (k:Result→Sem Fin) (g:Bool) (l:List Value):segRunT treeTable PySem.Challenge.pw_kq0034_05 (w.withFollow "special-get-raises" true) 63 (some (vR 6)) 1 191 ⟨tr54 (w.withFollow "special-get-raises" true).params X,304,{},#[.finished],{},1827,os⟩ (piecesOf ((bod.drop 35).take 4) envT (Code.body bod envT) ⟨162,0,162,14⟩ [frT k g l])=some (.next,⟨tr55 (w.withFollow "special-get-raises" true).params X,307,{},#[.finished],{},1855,os⟩,Code.body bod envT,⟨166,0,166,29⟩):=by kernel_rfl
theorem tp21 (w:World) (os:OsState) (X:Nat→Sx) (k:Result→Sem Fin) (g:Bool) (l:List Value):segRunT treeTable PySem.Challenge.pw_kq0034_05 w 63 (some (vR 6)) 1 191 ⟨tr54 w.params X,304,{},#[.finished],{},1827,os⟩ (piecesOf ((bod.drop 35).take 4) envT (Code.body bod envT) ⟨162,0,162,14⟩ [frT k g l])=some (.next,⟨tr55 w.params X,307,{},#[.finished],{},1855,os⟩,Code.body bod envT,⟨166,0,166,29⟩):=by
 rw [show w=w.withFollow "special-get-raises" (w.params.followText "special-get-raises") from (World.withFollow_self w _).symm]
 cases w.params.followText "special-get-raises"
 ·exact tp21f w os X k g l
 ·exact tp21t w os X k g l
theorem tp22 (w:World) (os:OsState) (X:Nat→Sx) (k:Result→Sem Fin) (g:Bool) (l:List Value):segRunT treeTable PySem.Challenge.pw_kq0034_05 w 63 (some (vR 6)) 1 187 ⟨tr55 w.params X,307,{},#[.finished],{},1855,os⟩ (piecesOf ((bod.drop 39).take 1) envT (Code.body bod envT) ⟨166,0,166,29⟩ [frT k g l])=some (.next,⟨tr56 w.params X,320,{},#[.finished],{},1873,os⟩,Code.body bod envT,⟨167,0,168,8⟩):=by kernel_rfl
theorem tp23 (w:World) (os:OsState) (X:Nat→Sx) (k:Result→Sem Fin) (g:Bool) (l:List Value):segRunT treeTable PySem.Challenge.pw_kq0034_05 w 63 (some (vR 6)) 1 414 ⟨tr56 w.params X,320,{},#[.finished],{},1873,os⟩ (piecesOf ((bod.drop 40).take 1) envT (Code.body bod envT) ⟨167,0,168,8⟩ [frT k g l])=some (.next,⟨tr57 w.params X,376,{},#[.finished],{},1957,os⟩,Code.body bod envT,⟨169,0,212,20⟩):=by kernel_rfl
theorem tp24 (w:World) (os:OsState) (X:Nat→Sx) (k:Result→Sem Fin) (g:Bool) (l:List Value):segRunT treeTable PySem.Challenge.pw_kq0034_05 w 63 (some (vR 6)) 1 294 ⟨tr57 w.params X,376,{},#[.finished],{},1957,os⟩ (piecesOf ((bod.drop 41).take 1) envT (Code.body bod envT) ⟨169,0,212,20⟩ [frT k g l])=some (.next,⟨tr58 w.params X,412,{},#[.finished],{},2005,os⟩,Code.body bod envT,⟨213,0,231,16⟩):=by kernel_rfl
theorem tp25 (w:World) (os:OsState) (X:Nat→Sx) (k:Result→Sem Fin) (g:Bool) (l:List Value):segRunT treeTable PySem.Challenge.pw_kq0034_05 w 63 (some (vR 6)) 1 227 ⟨tr58 w.params X,412,{},#[.finished],{},2005,os⟩ (piecesOf ((bod.drop 42).take 7) envT (Code.body bod envT) ⟨213,0,231,16⟩ [frT k g l])=some (.next,⟨tr59 w.params X,461,{},#[.finished],{},2077,os⟩,Code.body bod envT,⟨296,0,309,76⟩):=by kernel_rfl
theorem tp26 (w:World) (os:OsState) (X:Nat→Sx) (k:Result→Sem Fin) (g:Bool) (l:List Value):segRunT treeTable PySem.Challenge.pw_kq0034_05 w 63 (some (vR 6)) 1 205 ⟨tr59 w.params X,461,{},#[.finished],{},2077,os⟩ (piecesOf ((bod.drop 49).take 6) envT (Code.body bod envT) ⟨296,0,309,76⟩ [frT k g l])=some (.next,⟨tr60 w.params X,504,{},#[.finished],{},2145,os⟩,Code.body bod envT,⟨386,0,394,30⟩):=by kernel_rfl
theorem tp27 (w:World) (os:OsState) (X:Nat→Sx) (k:Result→Sem Fin) (g:Bool) (l:List Value):segRunT treeTable PySem.Challenge.pw_kq0034_05 w 63 (some (vR 6)) 1 212 ⟨tr60 w.params X,504,{},#[.finished],{},2145,os⟩ (piecesOf ((bod.drop 55).take 7) envT (Code.body bod envT) ⟨386,0,394,30⟩ [frT k g l])=some (.next,⟨tr61 w.params X,546,{},#[.finished],{},2217,os⟩,Code.body bod envT,⟨506,0,506,8⟩):=by kernel_rfl
theorem tp28 (w:World) (os:OsState) (X:Nat→Sx) (k:Result→Sem Fin) (g:Bool) (l:List Value):segRunT treeTable PySem.Challenge.pw_kq0034_05 w 63 (some (vR 6)) 1 216 ⟨tr61 w.params X,546,{},#[.finished],{},2217,os⟩ (piecesOf ((bod.drop 62).take 7) envT (Code.body bod envT) ⟨506,0,506,8⟩ [frT k g l])=some (.next,⟨tr62 w.params X,589,{},#[.finished],{},2284,os⟩,Code.body bod envT,⟨563,0,591,40⟩):=by kernel_rfl
theorem tpE (w:World) (os:OsState) (X:Nat→Sx):(goT treeTable PySem.Challenge.pw_kq0034_05 w 11 ⟨tr8 w.params X,63,{},#[],{},482,os⟩ (topStub PySem.Challenge.pw_kq0034_05)).bind (fun x=>(goT treeTable PySem.Challenge.pw_kq0034_05 w 0 ⟨tr62 w.params X,589,{},#[.finished],{},2284,os⟩ (retOf x.2 (.ok .next))).map (fun y=>(y.1,through y.2)))=some (⟨tr63 w.params X,589,{},#[.finished],{},2284,os⟩,true):=by kernel_rfl
theorem tpBody (w:World) (os:OsState) (X:Nat→Sx) (k:Result→Sem Fin) (g:Bool) (l:List Value) (h12:Leaps PySem.Challenge.pw_kq0034_05 w (tp12L w os X) (tp12O w os X)) (h13:Leaps PySem.Challenge.pw_kq0034_05 w (tp13L w os X) (tp13O w os X)) (h14:Leaps PySem.Challenge.pw_kq0034_05 w (tp14L w os X) (tp14O w os X)) (h16:Leaps PySem.Challenge.pw_kq0034_05 w (tp16L w os X) (tp16O w os X)) (h17:Leaps PySem.Challenge.pw_kq0034_05 w (tp17L w os X) (tp17O w os X)) (h19:Leaps PySem.Challenge.pw_kq0034_05 w (tp19L w os X) (tp19O w os X)) (h20:Leaps PySem.Challenge.pw_kq0034_05 w (tp20L w os X) (tp20O w os X)):Goes (denote treeTable) PySem.Challenge.pw_kq0034_05 w (⟨tr9 w.params X,67,{},#[],{},488,os⟩:SharedT).abs ⟨denote treeTable (.body bod envT),.body bod envT,⟨0,0,0,0⟩,[frT k g l]⟩ (⟨tr62 w.params X,589,{},#[.finished],{},2284,os⟩:SharedT).abs ⟨doneF .next,.body bod envT,⟨563,0,591,40⟩,[frT k g l]⟩:=
 ((goes_block rfl (tpB w os X k g l)).trans ((goes_pieceD rfl (tp1 w os X k g l)).trans ((goes_pieceD rfl (tp2 w os X k g l)).trans ((goes_pieceD rfl (tp3 w os X k g l)).trans ((goes_pieceD rfl (tp4 w os X k g l)).trans ((goes_pieceD rfl (tp5 w os X k g l)).trans ((goes_pieceD rfl (tp6 w os X k g l)).trans ((goes_pieceD rfl (tp7 w os X k g l)).trans ((goes_pieceD rfl (tp8 w os X k g l)).trans ((goes_pieceD rfl (tp9 w os X k g l)).trans ((goes_pieceD rfl (tp10 w os X k g l)).trans ((goes_pieceD rfl (tp11 w os X k g l)).trans ((goes_pieceOD rfl (tp12 w os X k g l) h12).trans ((goes_pieceOD rfl (tp13 w os X k g l) h13).trans ((goes_pieceOD rfl (tp14 w os X k g l) h14).trans ((goes_pieceD rfl (tp15 w os X k g l)).trans ((goes_pieceOD rfl (tp16 w os X k g l) h16).trans ((goes_pieceOD rfl (tp17 w os X k g l) h17).trans ((goes_pieceD rfl (tp18 w os X k g l)).trans ((goes_pieceOD rfl (tp19 w os X k g l) h19).trans ((goes_pieceOD rfl (tp20 w os X k g l) h20).trans ((goes_pieceD rfl (tp21 w os X k g l)).trans ((goes_pieceD rfl (tp22 w os X k g l)).trans ((goes_pieceD rfl (tp23 w os X k g l)).trans ((goes_pieceD rfl (tp24 w os X k g l)).trans ((goes_pieceD rfl (tp25 w os X k g l)).trans ((goes_pieceD rfl (tp26 w os X k g l)).trans ((goes_pieceD rfl (tp27 w os X k g l)).trans ((goes_pieceD rfl (tp28 w os X k g l)).trans ((goes_nil (by kernel_rfl))))))))))))))))))))))))))))))))
theorem tpGoes (w:World) (os:OsState) (X:Nat→Sx) (h12:Leaps PySem.Challenge.pw_kq0034_05 w (tp12L w os X) (tp12O w os X)) (h13:Leaps PySem.Challenge.pw_kq0034_05 w (tp13L w os X) (tp13O w os X)) (h14:Leaps PySem.Challenge.pw_kq0034_05 w (tp14L w os X) (tp14O w os X)) (h16:Leaps PySem.Challenge.pw_kq0034_05 w (tp16L w os X) (tp16O w os X)) (h17:Leaps PySem.Challenge.pw_kq0034_05 w (tp17L w os X) (tp17O w os X)) (h19:Leaps PySem.Challenge.pw_kq0034_05 w (tp19L w os X) (tp19O w os X)) (h20:Leaps PySem.Challenge.pw_kq0034_05 w (tp20L w os X) (tp20O w os X)):∃t4:Thread,through t4=true∧Goes (denote treeTable) PySem.Challenge.pw_kq0034_05 w (⟨tr8 w.params X,63,{},#[],{},482,os⟩:SharedT).abs (topStub PySem.Challenge.pw_kq0034_05) (⟨tr63 w.params X,589,{},#[.finished],{},2284,os⟩:SharedT).abs t4:=
 body_goes (.inr rfl) (tp0 w os X) (fun k g l=>tpBody w os X k g l h12 h13 h14 h16 h17 h19 h20) (tpE w os X)
end
section
open PySem PySem.W PySem.Calls PyProof.Rows PySem.Builtin PySem.Builtin.Str PySem.Builtin.Frozenset
set_option maxRecDepth 100000
section
noncomputable def put (h:Heap) (a:Addr) (o:Obj):Heap:=h.update a fun _=>o
theorem upd_put {h:Heap} {a:Addr} {o:Obj} (f:Obj→Obj) (e:h.get? a=some o):h.update a f=put h a (f o):=by
 obtain ⟨objs,l⟩:=h
 have e':objs[a]?=some o:=by
  unfold Heap.get? at e
  dsimp only at e
  split at e
  ·cases e
  ·exact e
 show Heap.mk _ _=Heap.mk _ _
 congr 1
 apply Array.ext_getElem?
 intro i
 rw [Array.getElem?_modify,Array.getElem?_modify]
 by_cases q:a=i
 ·subst q;simp [e']
 ·simp [q]
theorem put_put (h:Heap) (a:Addr) (o o':Obj):put (put h a o) a o'=put h a o':=by
 obtain ⟨objs,l⟩:=h
 show Heap.mk _ _=Heap.mk _ _
 congr 1
 apply Array.ext_getElem?
 intro i
 rw [Array.getElem?_modify,Array.getElem?_modify,Array.getElem?_modify]
 by_cases q:a=i
 ·subst q;cases objs[a]?<;>simp
 ·simp [q]
theorem put_comm (h:Heap) {a b:Addr} (hab:a≠b) (o o':Obj):put (put h a o) b o'=put (put h b o') a o:=by
 obtain ⟨objs,l⟩:=h
 show Heap.mk _ _=Heap.mk _ _
 congr 1
 apply Array.ext_getElem?
 intro i
 rw [Array.getElem?_modify,Array.getElem?_modify,Array.getElem?_modify,Array.getElem?_modify]
 by_cases q:a=i
 ·subst q;simp [Ne.symm hab]
 ·by_cases q':b=i
  ·subst q';simp [hab]
  ·simp [q,q']
theorem put_same {h:Heap} {a:Addr} {o:Obj} (e:h.get? a=some o):put h a o=h:=by
 rw [←upd_put (fun o=>o) e]
 obtain ⟨objs,l⟩:=h
 show Heap.mk _ _=Heap.mk _ _
 congr 1
 apply Array.ext_getElem?
 intro i
 rw [Array.getElem?_modify]
 by_cases q:a=i
 ·subst q;cases objs[a]?<;>simp
 ·simp [q]
theorem get_put {h:Heap} {a:Addr} {o o':Obj} (e:h.get? a=some o) (hf:o'.isFreed=false):(put h a o').get? a=some o':=Heap.get?_update_self _ e hf
theorem get_put_ne {h:Heap} {a b:Addr} (o:Obj) (hab:a≠b):(put h a o).get? b=h.get? b:=Heap.get?_update_other _ _ hab
theorem put_size (h:Heap) (a:Addr) (o:Obj):(put h a o).objs.size=h.objs.size:=by
 obtain ⟨objs,l⟩:=h
 show (objs.modify a _).size=_
 simp
theorem push_put {h:Heap} {a:Addr} {o o':Obj} (ha:a <h.objs.size):put (h.push o) a o'=(put h a o').push o:=by
 obtain ⟨objs,l⟩:=h
 show Heap.mk _ _=Heap.mk _ _
 congr 1
 apply Array.ext_getElem?
 intro i
 have hs:(objs.modify a fun _=>o').size=objs.size:=by simp
 rw [Array.getElem?_modify,Array.getElem?_push,Array.getElem?_push,Array.getElem?_modify,hs]
 have ha':a <objs.size:=ha
 by_cases q:a=i
 ·subst q
  have:¬a=objs.size:=Nat.ne_of_lt ha'
  simp [this]
 ·simp [q]
section
variable {prog:Program} {w:World} {A:Around} {E:Value→Shared→Prop} {s:Shared}
abbrev Apart1 (prog:Program) (w:World) (l:List (Int×Value)):Prop:=l.Pairwise fun a b=>∀k,(strKind prog w).is k a.2=true→(strKind prog w).is k b.2=true→False
theorem Apart1.perm {prog:Program} {w:World} {l l':List (Int×Value)} (h:Apart1 prog w l) (p:l'.Perm l):Apart1 prog w l':=
 (p.pairwise_iff fun {a b} f k x y=>f k y x).mpr h
def IsFz (prog:Program) (w:World) (o:Obj) (S:Str→Bool) (n:Nat) (P:SetTable→Prop:=fun _=>True):Prop:=
 ∃es ep t,o=⟨.type "frozenset",none,.set es ep t,#[]⟩∧ElemsOf (strKind prog w) es.toList∧(∀k,S k=true↔∃e∈es.toList,(strKind prog w).is k e.2=true)∧es.size=n∧n <4096∧t.fits es.size=true∧Apart1 prog w es.toList∧P t
theorem IsFz.mono {o:Obj} {S:Str→Bool} {n:Nat} {P P':SetTable→Prop} (x:IsFz prog w o S n P) (h:∀t,P t→P' t):IsFz prog w o S n P':=by
 obtain ⟨es,ep,t,a,b,c,d,e,f,q,g⟩:=x
 exact ⟨es,ep,t,a,b,c,d,e,f,q,h t g⟩
theorem IsFz.froz {o:Obj} {S:Str→Bool} {n:Nat} {P:SetTable→Prop} {h:Heap} {a:Addr} (x:IsFz prog w o S n P) (e:h.get? a=some o):FrozAt (strKind prog w) h a S n:=by
 obtain ⟨es,ep,t,rfl,b,c,d,_,f,_⟩:=x
 exact ⟨es,ep,t,e,b,c,d,f⟩
theorem storeFz {o:Obj} {es es':Array (Int×Value)} {ep:Nat} {t t':SetTable} {a:Addr} {Q:Unit→Shared→Prop} (ho:s.heap.get? a=some ⟨.type "frozenset",none,.set es ep t,#[]⟩) (hz:es'.size <4096)
 (h:Q () { s with heap:=put s.heap a ⟨.type "frozenset",none,.set es' (ep+1) t',#[]⟩}):wpAny (model prog w) A (storeSet a es' t') Q E s:=by
 refine wpAny_storeSet_of ho rfl ?_ (fits_of_scanBound hz)
 rw [upd_put _ ho]
 exact h
theorem addFz {a:Addr} {o:Obj} {S:Str→Bool} {n:Nat} {k:Str} {x:Value} {Q:Bool→Shared→Prop} (hg:s.heap.get? a=some o) (ho:IsFz prog w o S n) (hkey:(strKind prog w).is k x=true) (hsc:x.scannable=true)
 (hroom:n+1 <4096)
 (h:∀o',IsFz prog w o' (fun k'=>S k'||decide (k'=k)) (if S k then n else n+1)→Q (!S k) { s with heap:=put s.heap a o'}):
 wpAny (model prog w) A (setAddHashed a x ((strKind prog w).hash k)) Q E s:=by
 have ho':=ho
 obtain ⟨es,ep,t,rfl,hel,hmem,hn,hb,hf,hap,_⟩:=ho
 have hbs:es.size <scanBound:=by show es.size <4096;refine' r34 ‹_+1 <_› ‹_›
 unfold setAddHashed setAddHashedIn
 refine wpAny_holding (wpAny_bind (wpAny_setState_of hg rfl hf ?_))
 dsimp only
 rw [byScan_of hsc hbs hel]
 simp only [↓reduceIte]
 unfold setAddByScan
 refine wpAny_bind ?_
 refine wpAny_bind (wpAny_rule ?_)
 refine wpAny_bind (wpAny_setScan_of hkey hg rfl hf hel ?_)
 cases hr:List.findIdx? (fun e=>(strKind prog w).is k e.2) es.toList with
 | some j=>
   dsimp only
   obtain ⟨hj,hpj,_⟩:=List.findIdx?_eq_some_iff_getElem.mp hr
   have hSk:S k=true:=(hmem k).mpr ⟨es.toList[j],List.getElem_mem hj,hpj⟩
   refine wpAny_pure (wpAny_pure ?_)
   have:=h ⟨.type "frozenset",none,.set es ep t,#[]⟩ ⟨es,ep,t,rfl,hel,fun k'=>by
    rw [Bool.or_eq_true,decide_eq_true_eq,←hmem k']
    exact ⟨fun hk=>hk.elim id (fun e=>e▸hSk),.inl⟩,by rw [hSk];exact hn,by rw [hSk];exact hb,hf,hap,trivial⟩
   rw [hSk,put_same hg] at this
   exact this
 | none=>
   dsimp only
   have hSk:S k=false:=by
    cases hk:S k with
    | false=>rfl
    | true=>obtain ⟨e,he,hp⟩:=(hmem k).mp hk;have:=List.findIdx?_eq_none_iff.mp hr e he;rw [hp] at this;exact Bool.noConfusion this
   have hgw:∀(b:Bool) {s₁:Shared} {Q':Unit→Shared→Prop},Q' () s₁→wpAny (model prog w) A (match b with | true=>rule "set.scan.the-table-gave-way" | false=>pure ()) Q' E s₁:=
    fun b s₁ Q' hq=>by cases b<;>first | exact wpAny_pure hq | exact wpAny_rule hq
   have hperm:=layNew_perm t es ((strKind prog w).hash k) x
   have hfits:=layNew_fits t es ((strKind prog w).hash k) x
   generalize hL:layNew t es ((strKind prog w).hash k) x=L at hperm hfits ⊢
   obtain ⟨es1,t1,wasDummy,gave⟩:=L
   dsimp only at hperm hfits ⊢
   rw [Array.toList_push] at hperm
   have hel1:ElemsOf (strKind prog w) es1.toList:=(hel.push hkey hsc).perm hperm
   have hmem1:∀k',(S k'||decide (k'=k))=true↔∃e∈es1.toList,(strKind prog w).is k' e.2=true:=mem_push_iff hkey hmem hperm
   have hsz1:es1.size=n+1:=by rw [←Array.length_toList,hperm.length_eq,List.length_append,Array.length_toList,hn];rfl
   have hz1:es1.size <4096:=by lia
   have hap1:Apart1 prog w es1.toList:=Apart1.perm (List.pairwise_append.mpr ⟨hap,List.pairwise_singleton _ _,fun a ha b hb q h1 h2=>by
    rw [List.mem_singleton] at hb
    subst hb
    have:q=k:=(strKind prog w).inj x q k h2 hkey
    subst this
    have:=(hmem q).mpr ⟨a,ha,h1⟩
    rw [hSk] at this;cases this⟩) hperm
   refine wpAny_bind (hgw _ ?_)
   have tail:∀t2:SetTable,t2.fits es1.size=true→wpAny (model prog w) A (do
    storeSet a es1 t2
    if (!wasDummy&&t2.tooFull)=true then do
        (match (relayAll t2 es1 (SetTable.grown es1.size)).2.2 with | true=>rule "set.scan.the-table-gave-way" | false=>pure ())
        storeSet a (relayAll t2 es1 (SetTable.grown es1.size)).1 (relayAll t2 es1 (SetTable.grown es1.size)).2.1
        pure (some true)
     else pure (some true)) (fun r s'=>r=some true∧Q true s') E s:=fun t2 hf2=>by
    refine wpAny_bind (storeFz (o:=default) hg hz1 ?_)
    split
    ·have hp:=relayAll_perm t2 es1 (SetTable.grown es1.size)
     have hfr:=relayAll_fits t2 es1 (SetTable.grown es1.size)
     generalize hRl:relayAll t2 es1 (SetTable.grown es1.size)=Rl at hp hfr ⊢
     obtain ⟨es2,t3,gave2⟩:=Rl
     dsimp only at hp hfr ⊢
     have hsz:es2.size=es1.size:=by rw [←Array.length_toList,hp.length_eq,Array.length_toList]
     refine wpAny_bind (hgw _ ?_)
     refine wpAny_bind (storeFz (o:=default) (get_put hg rfl) (by lia) (wpAny_pure ⟨rfl,?_⟩))
     dsimp only
     rw [put_put]
     have:=h ⟨.type "frozenset",none,.set es2 (ep+1+1) t3,#[]⟩ ⟨es2,_,t3,rfl,hel1.perm hp,fun k'=>(hmem1 k').trans ⟨fun ⟨e,he,q⟩=>⟨e,hp.mem_iff.mpr he,q⟩,fun ⟨e,he,q⟩=>⟨e,hp.mem_iff.mp he,q⟩⟩,
      by rw [hSk];exact hsz.trans hsz1,by rw [hSk];exact hroom,hfr,hap1.perm hp,trivial⟩
     rw [hSk] at this
     exact this
    ·refine wpAny_pure ⟨rfl,?_⟩
     have:=h ⟨.type "frozenset",none,.set es1 (ep+1) t2,#[]⟩ ⟨es1,_,t2,rfl,hel1,hmem1,by rw [hSk];exact hsz1,by rw [hSk];exact hroom,hf2,hap1,trivial⟩
     rw [hSk] at this
     exact this
   split
   ·refine wpAny_bind ?_
    rw [hashByValue_scannable 8 hsc]
    refine wpAny_pure ?_
    refine wpAny_mono (tail _ ?_) (fun r s' ⟨e,q⟩=>by subst e;exact wpAny_pure q) fun _ _ e=>e
    split
    ·exact hfits
    ·exact SetTable.fits_plain_off hfits
   ·refine wpAny_bind (wpAny_pure ?_)
    simp only [↓reduceIte]
    exact wpAny_mono (tail _ hfits) (fun r s' ⟨e,q⟩=>by subst e;exact wpAny_pure q) fun _ _ e=>e
end
end
section
noncomputable def itO (x:Str) (t:Tok) (i:Nat):Obj:=⟨.type "str_ascii_iterator",none,.fields #[.str x t,.int i 0],#[]⟩
noncomputable def itE (i:Nat):Obj:=⟨.type "str_ascii_iterator",none,.fields #[.none,.int i 0],#[]⟩
noncomputable def tupO:Obj:=⟨.type "tuple",none,.seq #[] 0,#[]⟩
noncomputable def stopO (a:Addr):Obj:=⟨.type "StopIteration",none,.fields #[.ref a,.none,.none,.none,.bool false,.none],#[]⟩
section
variable {prog:Program} {w:World} {A:Around} {E:Value→Shared→Prop} {s:Shared}
theorem next_item {I:Addr} {x:Str} {t:Tok} {i c:Nat} {Q:Option Value→Shared→Prop} (ho:s.heap.get? I=some (itO x t i)) (hx:x.cps[i]?=some c)
 (hQ:Q (some (.str ⟨#[c]⟩ s.toks)) { s with heap:=put s.heap I (itO x t (i+1)),toks:=s.toks+1}):wpAny (model prog w) A (pyNext (.ref I)) Q E s:=by
 have hT:s.TypeIs (.ref I) "str_ascii_iterator":=⟨_,ho,rfl⟩
 have hd:(itO x t i).data=.fields #[.str x t,.int i 0]:=rfl
 unfold pyNext
 refine wpAny_bind (wpAny_attempt (wpAny_callSpecial?_slot (name:=Str.ofString "__next__") hT F.slot_str_ascii_iterator_next
  (wpAny_call_entry F.slot_str_ascii_iterator_next hT F.entry_str_ascii_iterator_next ?_ (F.args_str_ascii_iterator_next_1 _))))
 show wpAny _ _ (field (.ref I) 0 >>= _) _ _ s
 refine wpAny_bind (wpAny_field ho hd (x:=.str x t) rfl ?_)
 show wpAny _ _ (field (.ref I) 1 >>= _) _ _ s
 refine wpAny_bind (wpAny_field ho hd (x:=.int i 0) rfl ?_)
 simp only [Int.toNat_natCast,hx]
 refine wpAny_bind (wpAny_setField ho hd (by simp) (wpAny_bind (wpAny_mkStr (wpAny_pure ⟨_,rfl,wpAny_pure ?_⟩) (by show 1≤sizeLine;decide))))
 dsimp only
 rw [upd_put _ ho]
 exact hQ
theorem next_end {I:Addr} {x:Str} {t:Tok} {i:Nat} {Q:Option Value→Shared→Prop} (hh:A.handled=none) (ho:s.heap.get? I=some (itO x t i)) (hx:x.cps[i]?=none)
 (hQ:Q none { s with heap:=((put s.heap I (itE i)).push tupO).push (stopO s.heap.objs.size)}):wpAny (model prog w) A (pyNext (.ref I)) Q E s:=by
 have hT:s.TypeIs (.ref I) "str_ascii_iterator":=⟨_,ho,rfl⟩
 have hd:(itO x t i).data=.fields #[.str x t,.int i 0]:=rfl
 unfold pyNext
 refine wpAny_bind (wpAny_attempt (wpAny_callSpecial?_slot (name:=Str.ofString "__next__") hT F.slot_str_ascii_iterator_next
  (wpAny_call_entry F.slot_str_ascii_iterator_next hT F.entry_str_ascii_iterator_next ?_ (F.args_str_ascii_iterator_next_1 _))))
 show wpAny _ _ (field (.ref I) 0 >>= _) _ _ s
 refine wpAny_bind (wpAny_field ho hd (x:=.str x t) rfl ?_)
 show wpAny _ _ (field (.ref I) 1 >>= _) _ _ s
 refine wpAny_bind (wpAny_field ho hd (x:=.int i 0) rfl ?_)
 simp only [Int.toNat_natCast,hx]
 refine wpAny_bind (wpAny_rule (wpAny_bind (wpAny_setField ho hd (by simp) (wpAny_bind (wpAny_letGo ?_)))))
 show wpAny _ _ (newExc (.type "StopIteration") [] >>= _) _ _ _
 refine wpAny_bind ?_
 simp only [newExc,newTuple]
 refine wpAny_bind (wpAny_newObj_type ?_ (by size_fits))
 refine wpAny_bind (m:=firstArgMember _ _) (wpAny_of_eq (a:=Value.none) (by first | rfl | (simp only [firstArgMember];rfl)) ?_)
 refine wpAny_newObj_type ?_ (by size_fits)
 simp only [raiseNew]
 refine wpAny_bind (wpAny_handled ?_)
 rw [show A.in1.handled=none from hh]
 refine wpAny_bind (wpAny_pure (wpAny_throw ?_))
 refine wpAny_bind (wpAny_isInstance (T:="StopIteration") (b:=true) ⟨_,Heap.get?_push_size _ rfl,rfl⟩ isSubtype_stop ?_)
 refine wpAny_pure ?_
 rw [upd_put _ ho]
 have e:(put s.heap I (itE i)).objs.size=s.heap.objs.size:=put_size ..
 have:=hQ
 rw [←e] at this
 exact this
theorem entry_set_update_loop:entryFor table "set.update.loop"=some Builtin.«set.update.loop»:=entryFor_of_tree (by kernel_rfl)
theorem plain_set_update_loop:plainId "set.update.loop"=true:=by decide+kernel
theorem loop_str {a I:Addr} {x:Str} {t:Tok} {R:Result→Shared→Prop} (hh:A.handled=none) (haI:a≠I):
 ∀(k i n:Nat) (s:Shared) (o:Obj) (S:Str→Bool),x.cps.size -i=k→i≤x.cps.size→s.heap.get? I=some (itO x t i)→s.heap.get? a=some o→IsFz prog w o S n→n+k <4096→
  (∀o' n',n'≤n+k→IsFz prog w o' (fun c=>S c||(x.cps.toList.drop i).any fun d=>decide (c=⟨#[d]⟩)) n'→
    R (.ok (.ret .none)) { s with heap:=((put (put s.heap a o') I (itE x.cps.size)).push tupO).push (stopO s.heap.objs.size),toks:=s.toks+2*k})→
  codeAny (model prog w) A (.builtin "set.update.loop" ⟨[.ref a,.ref I],[]⟩) R s:=by
 intro k
 induction k with
 | zero=>
   intro i n s o S hk hi hI ha hS hn hR
   have hin:i=x.cps.size:=by refine' qs4 ‹_› ‹_›
   subst hin
   refine codeAny_builtin entry_set_update_loop ?_
   rw [Around.under_plainId plain_set_update_loop _]
   show wpAny _ A.in1 (pyNext (.ref I) >>= _) _ _ s
   refine wpAny_bind (next_end hh hI (by simp) (wpAny_pure ?_))
   have:=hR o n (Nat.le_refl _) (by
    rw [List.drop_eq_nil_of_le (by simp)]
    simp only [List.any_nil,Bool.or_false]
    exact hS)
   rw [put_same ha] at this
   exact this
 | succ k ih=>
   intro i n s o S hk hi hI ha hS hn hR
   have hlt:i <x.cps.size:=by refine' qs3 ‹_›
   refine codeAny_builtin entry_set_update_loop ?_
   rw [Around.under_plainId plain_set_update_loop _]
   show wpAny _ A.in1 (pyNext (.ref I) >>= _) _ _ s
   refine wpAny_bind (next_item hI (c:=x.cps[i]) (by simp [hlt]) ?_)
   show wpAny _ A.in1 (holding [Value.str ⟨#[x.cps[i]]⟩ s.toks] (setAdd a (.str ⟨#[x.cps[i]]⟩ s.toks)) >>= _) _ _ _
   unfold setAdd
   refine wpAny_bind (wpAny_holding (wpAny_holding (wpAny_bind (wpAny_pyHash_str ?_))))
   refine addFz (k:=⟨#[x.cps[i]]⟩) (get_put_ne (b:=a) _ (Ne.symm haI) |>.trans ha) hS (strKind_is _ _ _ _) rfl (by refine' r35' ‹_+(_+1) <_›) fun o' hS'=>?_
   refine wpAny_pure ⟨plainId_quiet plain_set_update_loop _,?_⟩
   dsimp only
   have hd:x.cps.toList.drop i=x.cps[i]::x.cps.toList.drop (i+1):=by
    rw [List.drop_eq_getElem_cons (by simpa using hlt)];simp
   refine ih (i+1) _ _ o' _ (by refine' qs2 ‹_›) hlt ?_ (get_put (get_put_ne (b:=a) _ (Ne.symm haI) |>.trans ha) ?_) hS' (by split<;>(first | refine' r35 ‹_› | lia)) fun o₂ n₂ hn₂ hS₂=>?_
   ·dsimp only
    rw [get_put_ne _ haI]
    exact get_put hI rfl
   ·obtain ⟨es,ep,tt,rfl,_⟩:=hS';rfl
   ·dsimp only
    have:=hR o₂ n₂ (by have:(if S ⟨#[x.cps[i]]⟩=true then n else n+1)≤n+1:=by split<;>(first | refine' Nat.le_add_right _ _ | refine' Nat.le_refl _)
                       refine' q131 ‹_› ‹_›) (by
     rw [hd]
     simp only [List.any_cons,←Bool.or_assoc]
     exact hS₂)
    rw [put_put,put_comm _ (Ne.symm haI),put_put,put_size,put_size]
    rw [show s.toks+1+1+2*k=s.toks+2*(k+1) by lia]
    exact this
end
end
section
noncomputable def hsh (P:Params) (name:Str):Int:=if name.cps.isEmpty then 0 else reduceHash (P.strHash name.cps)
noncomputable def riO (k:Nat):Obj:=⟨.type "range_iterator",none,.fields #[.int k 0,.int (32 -k:Int) 0,.int 1 0],#[]⟩
noncomputable def iS:Str:=Str.ofString "i"
noncomputable def fdN (P:Params) (o:Obj) (T:Nat):Nat→Obj
 | 0=>o
 | k+1=>Obj.putName iS (hsh P iS) (.str iS (T+4*k+1)) (.int k (T+4*k)) (fdN P o T k)
section
variable {prog:Program} {w:World} {A:Around} {E:Value→Shared→Prop} {s:Shared}
theorem nsSetX {a:Addr} {m} {name:Str} {v:Value} {o:Obj} {Q:Unit→Shared→Prop} (hn:s.heap.Ns a m) (go:s.heap.get? a=some o)
 (hQ:(put s.heap a (Obj.putName name (hsh w.params name) (.str name s.toks) v o)).Ns a (fun x=>if x=name then some v else m x)→(Obj.putName name (hsh w.params name) (.str name s.toks) v o).isFreed=false→
   Q () { s with heap:=put s.heap a (Obj.putName name (hsh w.params name) (.str name s.toks) v o),toks:=s.toks+1}):wpAny (model prog w) A (nsSet a name v) Q E s:=fun Γ p _=>by
 obtain ⟨o',es,ep,ho,hd,hk,hm⟩:=hn
 rw [go] at ho
 cases ho
 simp only [nsSet,strHash,Sem.wp_bind',Sem.wp_cmd_ask,Sem.wp_pure',Sem.wp_cmd_mkText]
 rw [Sem.wp_loadPart_of _ Γ _ p { s with toks:=s.toks+1} (o:=o) _ go]
 have hany:es.any (·.refKey)=false:=by
  rw [Array.any_eq_false'];intro e he;obtain ⟨n,t,h⟩:=hk e he;simp [DictEntry.refKey,h]
 simp only [hd,aRefKeyMayBeTheName_at,hany,Bool.and_false,Bool.false_eq_true,if_false,Sem.wp_cmd_updatePart]
 refine ⟨by rw [go];rfl,?_⟩
 rw [upd_put _ go]
 have fr:(Obj.putName name (hsh w.params name) (.str name s.toks) v o).isFreed=false:=by
  obtain ⟨c,d,dt,sl⟩:=o
  subst hd
  cases hi:es.findIdx? (·.key.isStr name)<;>(simp only [Obj.putName_eq,Obj.putNameByArray,hi];rfl)
 refine hQ ?_ fr
 have gg:=get_put (o':=Obj.putName name (hsh w.params name) (.str name s.toks) v o) go fr
 obtain ⟨c,d,dt,sl⟩:=o
 subst hd
 cases hi:es.findIdx? (·.key.isStr name) with
 | some i=>
   refine ⟨_,_,ep,gg,by simp only [Obj.putName_eq,Obj.putNameByArray,hi];rfl,hk.modify _ _,fun x=>?_⟩
   show _=if x=name then some v else m x
   rw [←hm];exact findBy_modify (fun n v=>v.isStr n) Value.isStr_inj es name x v i hi
 | none=>
   refine ⟨_,_,ep+1,gg,by simp only [Obj.putName_eq,Obj.putNameByArray,hi];rfl,hk.push _ _ _ _,fun x=>?_⟩
   show _=if x=name then some v else m x
   rw [←hm]
   exact findBy_push (fun n v=>v.isStr n) es name x _ _ v (fun y=>by
    show (name==y)=decide (y=name)
    by_cases h:y=name
    ·subst h;simp
    ·have:¬name=y:=fun e=>h e.symm
     simp [h,this]) hi
theorem next_range {I:Addr} {k:Nat} {Q:Option Value→Shared→Prop} (ho:s.heap.get? I=some (riO k)) (hk:k <32)
 (hQ:Q (some (.int k s.toks)) { s with heap:=put s.heap I (riO (k+1)),toks:=s.toks+1}):wpAny (model prog w) A (pyNext (.ref I)) Q E s:=by
 have hT:s.TypeIs (.ref I) "range_iterator":=⟨_,ho,rfl⟩
 unfold pyNext
 refine wpAny_bind (wpAny_attempt (wpAny_callSpecial?_slot (name:=Str.ofString "__next__") hT F.slot_range_iterator_next
  (call_meets F.slot_range_iterator_next hT F.entry_range_iterator_next (F.args_range_iterator_next_1 _) (AutoRange.range_iterator___next___range_iterator_1 I k (32 -k:Int) 1 (by lia)) ⟨ho,?_⟩)))
 refine wpAny_pure ?_
 rw [upd_put _ ho]
 have e2:=upd_put (h:=put s.heap I (Obj.mapFields (fun x_1=>x_1.setIfInBounds 0 (rawInt ((k:Int)+1))) (riO k))) (fun o=>Obj.mapFields (fun x=>x.setIfInBounds 1 (rawInt ((32 -k:Int) -1))) o) (get_put ho rfl)
 rw [e2,put_put]
 have e:Obj.mapFields (fun x=>x.setIfInBounds 1 (rawInt ((32 -k:Int) -1))) (Obj.mapFields (fun x_1=>x_1.setIfInBounds 0 (rawInt ((k:Int)+1))) (riO k))=riO (k+1):=by
  simp only [riO,Obj.mapFields,rawInt]
  simp
  lia
 rw [e]
 exact hQ
theorem next_rangeEnd {I:Addr} {Q:Option Value→Shared→Prop} (hh:A.handled=none) (ho:s.heap.get? I=some (riO 32))
 (hQ:Q none { s with heap:=(s.heap.push tupO).push (stopO s.heap.objs.size)}):wpAny (model prog w) A (pyNext (.ref I)) Q E s:=by
 have hT:s.TypeIs (.ref I) "range_iterator":=⟨_,ho,rfl⟩
 unfold pyNext
 refine wpAny_bind (wpAny_attempt (wpAny_callSpecial?_slot (name:=Str.ofString "__next__") hT F.slot_range_iterator_next
  (wpAny_call_entry F.slot_range_iterator_next hT F.entry_range_iterator_next ?_ (F.args_range_iterator_next_1 _))))
 show wpAny _ _ (field (.ref I) 0 >>= _) _ _ s
 refine wpAny_bind (wpAny_field ho (vs:=#[.int 32 0,.int 0 0,.int 1 0]) rfl (x:=rawInt 32) rfl ?_)
 show wpAny _ _ (field (.ref I) 1 >>= _) _ _ s
 refine wpAny_bind (wpAny_field ho (vs:=#[.int 32 0,.int 0 0,.int 1 0]) rfl (x:=rawInt 0) rfl ?_)
 show wpAny _ _ (field (.ref I) 2 >>= _) _ _ s
 refine wpAny_bind (wpAny_field ho (vs:=#[.int 32 0,.int 0 0,.int 1 0]) rfl (x:=rawInt 1) rfl ?_)
 show wpAny _ _ (if (0:Int)≤0 then _ else _) _ _ s
 rw [if_pos (by decide)]
 refine wpAny_bind (wpAny_rule ?_)
 refine wpAny_bind ?_
 show wpAny _ _ (newExc (.type "StopIteration") [] >>= _) _ _ _
 refine wpAny_bind ?_
 simp only [newExc,newTuple]
 refine wpAny_bind (wpAny_newObj_type ?_ (by size_fits))
 refine wpAny_bind (m:=firstArgMember _ _) (wpAny_of_eq (a:=Value.none) (by first | rfl | (simp only [firstArgMember];rfl)) ?_)
 refine wpAny_newObj_type ?_ (by size_fits)
 simp only [raiseNew]
 refine wpAny_bind (wpAny_handled ?_)
 first | rw [show A.in1.handled=none from hh] | rw [hh]
 refine wpAny_bind (wpAny_pure (wpAny_throw ?_))
 refine wpAny_bind (wpAny_isInstance (T:="StopIteration") (b:=true) ⟨_,Heap.get?_push_size _ rfl,rfl⟩ isSubtype_stop ?_)
 exact wpAny_pure hQ
structure GC (P:Params) (RI FD:Addr) (o:Obj) (T:Nat) (mg mb:Str→Option Value) (k:Nat) (s:Shared):Prop where
 ri:s.heap.get? RI=some (riO k)
 fd:s.heap.get? FD=some (fdN P o T k)
 ns:∃m,s.heap.Ns FD m
 tk:s.toks=T+4*k
 hg:s.heap.Ns mainGlobals mg
 hb:s.heap.Ns builtinsNs mb
abbrev gR:GenEnd:=fun n s₀ r s₁=>r=.ok .next∧n=0∧s₁={ s₀ with heap:=(s₀.heap.push tupO).push (stopO s₀.heap.objs.size)}
abbrev gY (P:Params) (RI FD:Addr) (o:Obj) (T:Nat) (mg mb:Str→Option Value):Protocol:=fun m s₀ v s kap=>
 v=.str ⟨#[31 -m]⟩ (T+4*(31 -m)+2)∧s={ s₀ with heap:=put (put s₀.heap RI (riO (31 -m+1))) FD (fdN P o T (31 -m+1)),toks:=T+4*(31 -m)+3}∧(fdN P o T (31 -m+1)).isFreed=false∧(∃m',s.heap.Ns FD m')∧∀s'',GC P RI FD o T mg mb (31 -m+1) s''→kap (.send .none) s''
theorem seg_gen {px p1 p2 p3:Pos} {iter:Expr} {scope:Scope} {pos:Pos} {RI:Addr} {cenv:Env} {o:Obj} {T:Nat} {mg mb:Str→Option Value}
 (hh:A.handled=none) (hx:cenv.kindOf iS=some .local) (hkind:cenv.scope.kind=.function) (hco:cenv.scope.isCoroutine=false) (hRF:RI≠cenv.locals) (h3:mainGlobals≠cenv.locals∧mainGlobals≠RI) (h0:builtinsNs≠cenv.locals∧builtinsNs≠RI)
 (hgl:cenv.globals=mainGlobals) (hbl:cenv.builtins=builtinsNs) (hc:cenv.kindOf (Str.ofString "chr")=some .globalImplicit) (c1:mg (Str.ofString "chr")=none) (c2:mb (Str.ofString "chr")=some (.builtin "chr"))
 (e:Expr) (he:e=.GeneratorExp (.Call (.Name (Str.ofString "chr") p1) [.Name iS p2] [] p3) [⟨.Name iS px,iter,[],0⟩] scope pos):
 ∀(j k:Nat) (s₀ s:Shared),32 -k=j→k≤32→GC w.params RI cenv.locals o T mg mb k s→s=s₀→
  Seg (model prog w) A gR (gY w.params RI cenv.locals o T mg mb) j s₀ (.compLoop e 0 (.ref RI) .none cenv) ((model prog w).den (.compLoop e 0 (.ref RI) .none cenv)) [] s:=by
 subst he
 intro j
 induction j with
 | zero=>
   intro k s₀ s hk hk2 hC hs
   subst hs
   have:k=32:=by refine' qs4 ‹_› ‹_›
   subst this
   have hh':(A.over (.compLoop (.GeneratorExp (.Call (.Name (Str.ofString "chr") p1) [.Name iS p2] [] p3) [⟨.Name iS px,iter,[],0⟩] scope pos) 0 (.ref RI) .none cenv) []).handled=none:=hh
   show Seg _ A _ _ _ s _ ((compTurn (.GeneratorExp _ [⟨.Name iS px,iter,[],0⟩] scope pos) 0 (.ref RI) .none cenv).onRaise (PySem.leaving cenv)) [] s
   rw [compTurn_gen,Sem.onRaise_eq_wrap]
   refine seg_bind_wrap (wpAny_standAt ?_)
   refine seg_bind_wrap (next_rangeEnd hh' hC.ri ?_)
   exact seg_end (.ok .next) ⟨rfl,rfl,rfl⟩
 | succ j ih=>
   intro k s₀ s hk hk2 hC hs
   subst hs
   have hlt:k <32:=by refine' qs3 ‹_›
   have hh':(A.over (.compLoop (.GeneratorExp (.Call (.Name (Str.ofString "chr") p1) [.Name iS p2] [] p3) [⟨.Name iS px,iter,[],0⟩] scope pos) 0 (.ref RI) .none cenv) []).handled=none:=hh
   show Seg _ A _ _ _ s _ ((compTurn (.GeneratorExp _ [⟨.Name iS px,iter,[],0⟩] scope pos) 0 (.ref RI) .none cenv).onRaise (PySem.leaving cenv)) [] s
   rw [compTurn_gen,Sem.onRaise_eq_wrap]
   refine seg_bind_wrap (wpAny_standAt ?_)
   refine seg_bind_wrap (next_range hC.ri hlt ?_)
   refine seg_bind_wrap (wpAny_of_eq (rfl:letOwnedTupleGo (.Name iS px) (.ref RI) _=pure ()) ?_)
   obtain ⟨m,hm⟩:=hC.ns
   have hm1:(put s.heap RI (riO (k+1))).Ns cenv.locals m:=by
    obtain ⟨o',es,ep,a,b⟩:=hm
    exact ⟨o',es,ep,(get_put_ne _ hRF).trans a,b⟩
   refine seg_bind_wrap (PyProof.Rows.assign_Name ?_)
   rw [storeName_local hx (by rw [hkind];rfl)]
   refine nsSetX hm1 ((get_put_ne _ hRF).trans hC.fd) fun hn2 hfr=>?_
   simp only [List.forIn_nil]
   refine seg_bind_wrap (wpAny_pure ?_)
   simp only [if_true]
   have hy:∀v,yieldOut cenv v=yieldValue v:=fun v=>by simp only [yieldOut,hco,Bool.false_eq_true,if_false]
   simp only [hy]
   rw [Sem.bind_eq_wrap',Sem.bind_eq_wrap',Sem.wrap_wrap,Sem.wrap_wrap]
   have hfdE:Obj.putName iS (hsh w.params iS) (.str iS (s.toks+1)) (.int k s.toks) (fdN w.params o T k)=fdN w.params o T (k+1):=by
    show _=Obj.putName iS (hsh w.params iS) (.str iS (T+4*k+1)) (.int k (T+4*k)) (fdN w.params o T k)
    rw [hC.tk]
   dsimp only at hn2 hfr ⊢
   rw [hfdE] at hn2 hfr ⊢
   have ns3:∀{a:Addr} {mm},a≠cenv.locals∧a≠RI→s.heap.Ns a mm→(put (put s.heap RI (riO (k+1))) cenv.locals (fdN w.params o T (k+1))).Ns a mm:=by
    rintro a mm ⟨ha1,ha2⟩ ⟨o',es,ep,g,b⟩
    exact ⟨o',es,ep,(get_put_ne _ (Ne.symm ha1)).trans ((get_put_ne _ (Ne.symm ha2)).trans g),b⟩
   refine seg_wrap ?_
   refine wpAny_Call_Name_kw (PySem.wpAny_Name ?_ (by decide))
   rw [loadName_read hkind hc]
   refine loadGlobal_builtin (mg:=mg) (mb:=mb) (by rw [hgl];exact ns3 h3 hC.hg) c1 (by rw [hbl];exact ns3 h0 hC.hb) c2 ?_
   have nsL:(put (put s.heap RI (riO (k+1))) cenv.locals (fdN w.params o T (k+1))).Ns cenv.locals (fun x=>if x=iS then some (.int k s.toks) else m x):=hn2
   refine Calls.callWith_builtin (by rfl) (evalArgs_pos (by rfl) ?_)
   show wpAny _ _ (spliced (backTo p3 (starEach [.Name iS p2] cenv))) _ _ _
   refine spliced_cons (PySem.wpAny_Name (wpAny_loadName_local hkind hx nsL (if_pos rfl) ?_) (by decide))
   refine spliced_nil ?_
   refine PySem.P.chr_of_int (by simp;lia) ?_
   refine seg_at (seg_yield rfl rfl rfl ?_)
   have ej:31 -j=k:=by refine' r1 ‹_›
   unfold gY
   dsimp only
   rw [ej]
   refine ⟨?_,?_,hfr,⟨_,nsL⟩,fun s'' hG=>?_⟩
   ·rw [hC.tk];simp
   ·rw [hC.tk]
   ·exact seg_again rfl (ih (k+1) s'' s'' (by refine' qs2 ‹_›) (by refine' Nat.succ_le_of_lt ‹_›) hG rfl)
theorem seg_genS {px p1 p2 p3:Pos} {iter:Expr} {scope:Scope} {pos:Pos} {RI:Addr} {cenv:Env} {o:Obj} {T:Nat} {mg mb:Str→Option Value}
 (hh:A.handled=none) (hx:cenv.kindOf iS=some .local) (hkind:cenv.scope.kind=.function) (hco:cenv.scope.isCoroutine=false) (hRF:RI≠cenv.locals) (h3:mainGlobals≠cenv.locals∧mainGlobals≠RI) (h0:builtinsNs≠cenv.locals∧builtinsNs≠RI)
 (hgl:cenv.globals=mainGlobals) (hbl:cenv.builtins=builtinsNs) (hc:cenv.kindOf (Str.ofString "chr")=some .globalImplicit) (c1:mg (Str.ofString "chr")=none) (c2:mb (Str.ofString "chr")=some (.builtin "chr"))
 (e:Expr) (he:e=.GeneratorExp (.Call (.Name (Str.ofString "chr") p1) [.Name iS p2] [] p3) [⟨.Name iS px,iter,[],0⟩] scope pos) (s:Shared) (hC:GC w.params RI cenv.locals o T mg mb 0 s):
   Seg (model prog w) A gR (gY w.params RI cenv.locals o T mg mb) 32 s (.compStart e 0 (.ref RI) .none cenv) ((model prog w).den (.compStart e 0 (.ref RI) .none cenv)) [] s:=by
 have loop:=seg_gen (prog:=prog) (w:=w) (A:=A) hh hx hkind hco hRF h3 h0 hgl hbl hc c1 c2 e he 32 0 s s rfl (by refine' Nat.le_add_left _ _) hC rfl
 subst he
 show Seg _ A _ _ _ s _ ((compStart (.GeneratorExp _ [⟨.Name iS px,iter,[],0⟩] scope pos) 0 (.ref RI) .none cenv).onRaise (PySem.leaving cenv)) [] s
 unfold compStart
 rw [Sem.onRaise_eq_wrap]
 show Seg _ A _ _ _ s _ ((ask >>= _).wrap _ _ _ _) [] s
 refine seg_bind_wrap (wpAny_askSetting ?_)
 split
 ·exact seg_again rfl loop
 ·refine seg_bind_wrap (wpAny_rule ?_)
  show Seg _ A _ _ _ s _ ((standAt iter.pos >>= _).wrap _ _ _ _) [] s
  refine seg_bind_wrap (wpAny_standAt (seg_bind_wrap ?_))
  have hT:s.TypeIs (.ref RI) "range_iterator":=⟨_,hC.ri,rfl⟩
  refine wpAny_pyIter_slot hT F.slot_range_iterator_iter (wpAny_call_entry F.slot_range_iterator_iter hT F.entry_range_iterator_iter ?_ (F.args_range_iterator_iter_1 _))
  exact wpAny_pure ⟨_,rfl,"range_iterator",_,hT,F.slot_range_iterator_next.lookup,seg_again rfl loop⟩
end
end
section
section
variable {prog:Program} {w:World} {A:Around} {E:Value→Shared→Prop} {s:Shared}
theorem nextX {a:Addr} {g n:Nat} {gs:GenState} {P:Nat→Shared→Shared→Prop} {Y:Protocol} {Q:Option Value→Shared→Prop} (hh:A.handled=none)
 (hl:s.heap.NoLimit) (hroom:A.depth <recursionLimit)
 (hg:s.heap.IsGen a g) (hgs:s.gens[g]?=some gs)
 (hgo:gs.Goes (model prog w) A.in1 (fun n s₀ r s₁=>r=.ok .next∧P n s₀ s₁) Y n (.send .none) (s.setGen g .running))
 (hY:∀v s₁ gs',Y (n -1) (s.setGen g .running) v s₁ (fun r' s''=>match n with
   | 0=>False
   | m+1=>gs'.Goes (model prog w) A.in1 (fun n s₀ r s₁=>r=.ok .next∧P n s₀ s₁) Y m r' s'')→Q (some v) (s₁.setGen g gs'))
 (hP:∀s₁,P n (s.setGen g .running) s₁→Q none { s₁.setGen g .finished with heap:=(s₁.heap.push tupO).push (stopO s₁.heap.objs.size)}):
 wpAny (model prog w) A (pyNext (.ref a)) Q E s:=by
 unfold pyNext
 refine wpAny_bind (wpAny_attempt (wpAny_callSpecial?_slot (name:=Str.ofString "__next__") hg.typeIs slot_gen_next
  (wpAny_call_entry slot_gen_next hg.typeIs entry_gen_next ?_ (args_gen_next _))))
 show wpAny _ A.in1 (Builtin.Generator.genWake (.ref a) (.send .none)) _ _ s
 unfold Builtin.Generator.genWake
 refine wpAny_bind (wpAny_holding (wpAny_genNumber hg (wpAny_bind (wpAny_genState hgs ?_))))
 cases gs with
 | running=>exact hgo.elim
 | finished=>exact hgo.elim
 | _=>
   refine wpAny_bind (wpAny_roomToWake hl hroom ?_)
   show wpAny _ A.in1 (.resume g (.send .none) [] _) _ _ s
   refine wpAny_resume hgs hgo (fun x s₁ hx=>?_) (fun v s₁ gs' hv=>?_)
   ·obtain ⟨rfl,hp⟩:=hx
    show wpAny _ A.in1 (newExc (.type "StopIteration") [] >>= _) _ _ _
    refine wpAny_bind ?_
    simp only [newExc,newTuple]
    refine wpAny_bind (wpAny_newObj_type ?_ (by size_fits))
    refine wpAny_bind (m:=firstArgMember _ _) (wpAny_of_eq (a:=Value.none) (by first | rfl | (simp only [firstArgMember];rfl)) ?_)
    refine wpAny_newObj_type ?_ (by size_fits)
    simp only [raiseNew]
    refine wpAny_bind (wpAny_bind (wpAny_handled ?_))
    first | rw [show A.in1.handled=none from hh] | rw [hh]
    refine wpAny_throw ?_
    refine wpAny_bind (wpAny_isInstance (T:="StopIteration") (b:=true) ⟨_,Heap.get?_push_size _ rfl,rfl⟩ isSubtype_stop ?_)
    exact wpAny_pure (hP s₁ hp)
   ·exact wpAny_pure ⟨v,rfl,wpAny_pure (hY v s₁ gs' hv)⟩
theorem loop_gen {a RI FD Gq:Addr} {oF:Obj} {T:Nat} {mg mb:Str→Option Value} {R:Result→Shared→Prop} (hh:A.handled=none) (hroom:A.depth+10 <recursionLimit)
 (haR:a≠RI) (haF:a≠FD) (haG:a≠Gq) (hGR:Gq≠RI) (hGF:Gq≠FD) (hRF:RI≠FD) (h3:mainGlobals≠a∧mainGlobals≠FD∧mainGlobals≠RI) (h0:builtinsNs≠a∧builtinsNs≠FD∧builtinsNs≠RI) (h2:cStatics≠a∧cStatics≠FD∧cStatics≠RI):
 ∀(j k n:Nat) (s:Shared) (o:Obj) (S:Str→Bool) (gs:GenState),32 -k=j→k≤32→s.heap.get? a=some o→IsFz prog w o S n→n+j <4096→GC w.params RI FD oF T mg mb k s→
  s.heap.IsGen Gq 0→s.heap.NoLimit→s.gens=#[gs]→
  (∀s'',GC w.params RI FD oF T mg mb k s''→gs.Goes (model prog w) (A.in1).in1 gR (gY w.params RI FD oF T mg mb) j (.send .none) s'')→
  (∀o' n',n'≤n+j→IsFz prog w o' (fun c=>S c||((List.range 32).drop k).any fun d=>decide (c=⟨#[d]⟩)) n'→
    R (.ok (.ret .none)) { s with heap:=((((put (put (put s.heap a o') RI (riO 32)) FD (fdN w.params oF T 32)).push tupO).push (stopO s.heap.objs.size)).push tupO).push (stopO (s.heap.objs.size+2)),gens:=#[.finished],toks:=T+128})→
  codeAny (model prog w) A (.builtin "set.update.loop" ⟨[.ref a,.ref Gq],[]⟩) R s:=by
 have rm:A.in1.depth <recursionLimit:=by
  have:A.in1.depth=A.depth:=rfl
  refine' qL0 ‹_›
 intro j
 induction j with
 | zero=>
   intro k n s o S gs hk hk2 ha hS hn hC hg hl hgs hgo hR
   have:k=32:=by refine' qs4 ‹_› ‹_›
   subst this
   refine codeAny_builtin entry_set_update_loop ?_
   rw [Around.under_plainId plain_set_update_loop _]
   show wpAny _ A.in1 (pyNext (.ref Gq) >>= _) _ _ s
   have hgs0:s.gens[0]?=some gs:=by rw [hgs];rfl
   refine wpAny_bind (nextX (n:=0) (P:=fun n s₀ s₁=>n=0∧s₁={ s₀ with heap:=(s₀.heap.push tupO).push (stopO s₀.heap.objs.size)}) (Y:=gY w.params RI FD oF T mg mb) hh hl rm hg hgs0 (hgo _ ⟨hC.ri,hC.fd,hC.ns,hC.tk,hC.hg,hC.hb⟩) (fun v s₁ gs' hv=>?_) (fun s₁ hp=>?_))
   ·exfalso
    obtain ⟨_,_,_,_,hk3⟩:=hv
    exact hk3 s hC
   ·obtain ⟨_,rfl⟩:=hp
    refine wpAny_pure ?_
    have:=hR o n (Nat.le_refl _) (by
     rw [List.drop_eq_nil_of_le (by simp)]
     simp only [List.any_nil,Bool.or_false]
     exact hS)
    rw [put_same ha,put_same hC.ri,put_same hC.fd] at this
    have e1:(s.gens.setIfInBounds 0 .running).setIfInBounds 0 .finished=#[.finished]:=by rw [hgs];rfl
    have e2:T+128=s.toks:=by rw [hC.tk]
    rw [e2] at this
    simp only [Shared.setGen,e1]
    have e3:((s.heap.push tupO).push (stopO s.heap.objs.size)).objs.size=s.heap.objs.size+2:=by
     show ((s.heap.objs.push _).push _).size=_
     simp
    rw [e3]
    exact this
 | succ j ih=>
   intro k n s o S gs hk hk2 ha hS hn hC hg hl hgs hgo hR
   have hlt:k <32:=by refine' qs3 ‹_›
   refine codeAny_builtin entry_set_update_loop ?_
   rw [Around.under_plainId plain_set_update_loop _]
   show wpAny _ A.in1 (pyNext (.ref Gq) >>= _) _ _ s
   have hgs0:s.gens[0]?=some gs:=by rw [hgs];rfl
   refine wpAny_bind (nextX (n:=j+1) (P:=fun n s₀ s₁=>n=0∧s₁={ s₀ with heap:=(s₀.heap.push tupO).push (stopO s₀.heap.objs.size)}) (Y:=gY w.params RI FD oF T mg mb) hh hl rm hg hgs0 (hgo _ ⟨hC.ri,hC.fd,hC.ns,hC.tk,hC.hg,hC.hb⟩) (fun v s₁ gs' hv=>?_) (fun s₁ hp=>?_))
   ·obtain ⟨rfl,rfl,nf,nsF,hk3⟩:=hv
    have ej:31 -(j+1 -1)=k:=by refine' r1' ‹_›
    rw [ej] at hk3 nf nsF ⊢
    show wpAny _ A.in1 (holding [Value.str ⟨#[k]⟩ (T+4*k+2)] (setAdd a (.str ⟨#[k]⟩ (T+4*k+2))) >>= _) _ _ _
    unfold setAdd
    refine wpAny_bind (wpAny_holding (wpAny_holding (wpAny_bind (wpAny_pyHash_str ?_))))
    have ga:(put (put s.heap RI (riO (k+1))) FD (fdN w.params oF T (k+1))).get? a=some o:=(get_put_ne _ (Ne.symm haF)).trans ((get_put_ne _ (Ne.symm haR)).trans ha)
    refine addFz (k:=⟨#[k]⟩) ga hS (strKind_is _ _ _ _) rfl (by refine' r35' ‹_+(_+1) <_›) fun o' hS'=>?_
    refine wpAny_pure ⟨plainId_quiet plain_set_update_loop _,?_⟩
    have hd:(List.range 32).drop k=k::(List.range 32).drop (k+1):=range_drop hlt
    have fo:o'.isFreed=false:=by obtain ⟨es,ep,tt,rfl,_⟩:=hS';rfl
    have oth:∀{b:Addr} {ob:Obj},b≠a→b≠FD→b≠RI→s.heap.get? b=some ob→(put (put (put s.heap RI (riO (k+1))) FD (fdN w.params oF T (k+1))) a o').get? b=some ob:=fun h1 h2 h3 e=>
     (get_put_ne _ (Ne.symm h1)).trans ((get_put_ne _ (Ne.symm h2)).trans ((get_put_ne _ (Ne.symm h3)).trans e))
    have nsO:∀{b:Addr} {m},b≠a∧b≠FD∧b≠RI→s.heap.Ns b m→(put (put (put s.heap RI (riO (k+1))) FD (fdN w.params oF T (k+1))) a o').Ns b m:=by
     rintro b m ⟨h1,h2,h3⟩ ⟨ob,es,ep,e,r⟩
     exact ⟨ob,es,ep,oth h1 h2 h3 e,r⟩
    refine ih (k+1) _ _ o' _ gs' (by refine' qs2 ‹_›) (by refine' Nat.succ_le_of_lt ‹_›) (get_put ga fo) hS' (by split<;>(first | refine' r35 ‹_› | lia)) ?_ ?_ ?_ ?_ ?_ fun o₂ n₂ hn₂ hS₂=>?_
    ·refine ⟨?_,?_,?_,?_,nsO h3 hC.hg,nsO h0 hC.hb⟩
     ·exact (get_put_ne _ haR).trans ((get_put_ne _ (Ne.symm hRF)).trans (get_put hC.ri rfl))
     ·exact (get_put_ne _ haF).trans (get_put ((get_put_ne _ hRF).trans hC.fd) nf)
     ·obtain ⟨mF,ob,es,ep,e,r⟩:=nsF
      exact ⟨mF,ob,es,ep,(get_put_ne _ haF).trans e,r⟩
     ·show T+4*k+3+1=T+4*(k+1)
      lia
    ·obtain ⟨og,nm,qn,e,r⟩:=hg
     exact ⟨og,nm,qn,oth (Ne.symm haG) hGF hGR e,r⟩
    ·obtain ⟨mc,e,r⟩:=hl
     exact ⟨mc,nsO h2 e,r⟩
    ·show (s.gens.setIfInBounds 0 .running).setIfInBounds 0 gs'=#[gs']
     rw [hgs];rfl
    ·exact fun s'' h=>hk3 s'' h
    ·have:=hR o₂ n₂ (by have:(if S ⟨#[k]⟩=true then n else n+1)≤n+1:=by split<;>(first | refine' Nat.le_add_right _ _ | refine' Nat.le_refl _)
                        refine' q131 ‹_› ‹_›) (by
      rw [hd]
      simp only [List.any_cons,←Bool.or_assoc]
      exact hS₂)
     have e1:put (put (put (put (put (put s.heap RI (riO (k+1))) FD (fdN w.params oF T (k+1))) a o') a o₂) RI (riO 32)) FD (fdN w.params oF T 32)=put (put (put s.heap a o₂) RI (riO 32)) FD (fdN w.params oF T 32):=by
      rw [put_put,put_comm _ (Ne.symm haF),put_comm _ (Ne.symm haR),put_comm _ (Ne.symm hRF),put_put,put_put]
     simp only [Shared.setGen]
     rw [e1,put_size,put_size,put_size]
     exact this
   ·exact absurd hp.1 (Nat.succ_ne_zero j)
end
end
end
section
open PySem
set_option maxRecDepth 100000
open SetTable
noncomputable def orb (mask:Nat):Nat→Nat×Nat→Nat×Nat
 | 0,x=>x
 | t+1,x=>orb mask t (leap mask x.1 x.2)
theorem orb_add (mask:Nat):∀(a b:Nat) (x:Nat×Nat),orb mask (a+b) x=orb mask b (orb mask a x)
 | 0,b,x=>by rw [Nat.zero_add];rfl
 | a+1,b,x=>by rw [show a+1+b=(a+b)+1 by refine' Nat.add_right_comm _ _ _];exact orb_add mask a b _
theorem free_isNone {mask:Nat} {owner:Array (Option Nat)}:∀{fuel i p j:Nat},layClean.free mask owner fuel i p=some j→(owner.getD j (some 0)).isNone=true
 | 0,_,_,_,h=>by simp [layClean.free] at h
 | fuel+1,i,p,j,h=>by
   unfold layClean.free at h
   cases hf:(List.range (runEnd mask i+1 -i)).find? fun k=>(owner.getD (i+k) (some 0)).isNone with
   | some k=>
     rw [hf] at h
     simp only [Option.some.injEq] at h
     subst h
     have:=List.find?_some hf
     exact this
   | none=>rw [hf] at h;exact free_isNone h
theorem free_ok {mask:Nat} {owner:Array (Option Nat)}:∀{fuel i p t:Nat},t <fuel→(owner.getD (orb mask t (i,p)).1 (some 0)).isNone=true→∃j,layClean.free mask owner fuel i p=some j
 | 0,_,_,_,h,_=>absurd h (Nat.not_lt_zero _)
 | fuel+1,i,p,t,ht,hn=>by
   unfold layClean.free
   cases hf:(List.range (runEnd mask i+1 -i)).find? fun k=>(owner.getD (i+k) (some 0)).isNone with
   | some k=>exact ⟨_,rfl⟩
   | none=>
     cases t with
     | zero=>
       have h0:=List.find?_eq_none.mp hf 0 (by
        have:i≤runEnd mask i:=by unfold runEnd;split<;>(first | refine' Nat.le_add_right _ _ | refine' Nat.le_refl _)
        simp;refine' r21 ‹_›)
       exact absurd hn h0
     | succ t=>exact free_ok (Nat.lt_of_succ_lt_succ ht) hn
noncomputable def g5 (mask x:Nat):Nat:=(x*5+1)%(mask+1)
noncomputable def gs5 (mask:Nat):Nat→Nat→List Nat
 | 0,_=>[]
 | n+1,x=>x::gs5 mask n (g5 mask x)
noncomputable def it5 (mask:Nat):Nat→Nat→Nat
 | 0,x=>x
 | n+1,x=>it5 mask n (g5 mask x)
theorem it5_add (mask:Nat):∀(a b x:Nat),it5 mask (a+b) x=it5 mask b (it5 mask a x)
 | 0,b,x=>by rw [Nat.zero_add];rfl
 | a+1,b,x=>by rw [show a+1+b=(a+b)+1 by refine' Nat.add_right_comm _ _ _];exact it5_add mask a b _
theorem mem_gs5 (mask y:Nat):∀(n x:Nat),y∈gs5 mask n x→∃a,a <n∧it5 mask a x=y
 | 0,x,h=>by simp [gs5] at h
 | n+1,x,h=>by
   rw [gs5,List.mem_cons] at h
   rcases h with rfl | h
   ·exact ⟨0,Nat.succ_pos n,rfl⟩
   ·obtain ⟨a,ha,e⟩:=mem_gs5 mask y n _ h
    exact ⟨a+1,by refine' Nat.succ_lt_succ ‹_›,e⟩
theorem orb_zero (mask:Nat):∀(t i:Nat),orb mask t (i,0)=(it5 mask t i,0)
 | 0,i=>rfl
 | t+1,i=>by
   show orb mask t (leap mask i 0)=_
   have:leap mask i 0=(g5 mask i,0):=by simp [leap,g5]
   rw [this,orb_zero mask t]
   rfl
structure Full (mask:Nat):Prop where
 all:∀x,x≤mask→x∈gs5 mask (mask+1) 0
 per:it5 mask (mask+1) 0=0
theorem full7:Full 7:=⟨by decide+kernel,by decide+kernel⟩
theorem full127:Full 127:=⟨fun x hx=>by
 have:∀x,x <128→x∈gs5 127 128 0:=by decide+kernel
 exact this x (by refine' Nat.lt_succ_of_le ‹_›),by decide+kernel⟩
theorem orb_snd (mask:Nat):∀(t:Nat) (x:Nat×Nat),(orb mask t x).2=x.2/32 ^ t
 | 0,x=>by simp [orb]
 | t+1,x=>by
   show (orb mask t (leap mask x.1 x.2)).2=_
   rw [orb_snd mask t]
   show x.2/32/32 ^ t=_
   rw [Nat.div_div_eq_div_mul,Nat.pow_succ,Nat.mul_comm]
theorem orb_fst_le (mask:Nat):∀(t:Nat) (x:Nat×Nat),x.1≤mask→(orb mask t x).1≤mask
 | 0,x,h=>h
 | t+1,x,h=>orb_fst_le mask t _ (by
    show (x.1*5+1+x.2/32)%(mask+1)≤mask
    exact Nat.le_of_lt_succ (Nat.mod_lt _ (Nat.succ_pos _)))
theorem reach {mask:Nat} (F:Full mask) {i p j:Nat} (hi:i≤mask) (hj:j≤mask) (hp:p <2 ^ 64):∃t,t <turns mask∧(orb mask t (i,p)).1=j:=by
 have e2:(orb mask 13 (i,p)).2=0:=by
  rw [orb_snd]
  exact Nat.div_eq_of_lt (Nat.lt_of_lt_of_le hp (by decide))
 have h1:=orb_fst_le mask 13 (i,p) hi
 obtain ⟨a,ha,ea⟩:=mem_gs5 mask _ _ _ (F.all _ h1)
 obtain ⟨b,hb,eb⟩:=mem_gs5 mask _ _ _ (F.all _ hj)
 have key:∃t,t≤mask∧it5 mask t (orb mask 13 (i,p)).1=j:=by
  by_cases h:a≤b
  ·refine ⟨b -a,by refine' r12 ‹_›,?_⟩
   rw [←ea,←it5_add,show a+(b -a)=b by refine' Nat.add_sub_of_le ‹_›,eb]
  ·refine ⟨b+(mask+1) -a,by refine' r12b ‹_›,?_⟩
   rw [←ea,←it5_add,show a+(b+(mask+1) -a)=(mask+1)+b by refine' r12a ‹_›,it5_add,F.per,eb]
 obtain ⟨t,ht,et⟩:=key
 refine ⟨13+t,by unfold turns;lia,?_⟩
 rw [orb_add]
 have:orb mask 13 (i,p)=((orb mask 13 (i,p)).1,0):=by rw [←e2]
 rw [this,orb_zero]
 exact et
theorem set_perm {k:Nat}:∀(l:List (Option Nat)) (j:Nat),l[j]?=some none→((l.set j (some k)).filterMap id).Perm (k::l.filterMap id)
 | [],j,h=>by simp at h
 | a::l,0,h=>by
   simp only [List.getElem?_cons_zero,Option.some.injEq] at h
   subst h
   simp
 | a::l,j+1,h=>by
   simp only [List.getElem?_cons_succ] at h
   have ih:=set_perm (k:=k) l j h
   rw [List.set_cons_succ]
   cases a with
   | none=>simpa using ih
   | some x=>
     simp only [List.filterMap_cons,id]
     exact (List.Perm.cons x ih).trans (List.Perm.swap k x _)
theorem some_none:∀(l:List (Option Nat)),(l.filterMap id).length <l.length→∃j,j <l.length∧l[j]?=some none
 | [],h=>by simp at h
 | none::l,h=>⟨0,by simp,rfl⟩
 | some x::l,h=>by
   simp only [List.filterMap_cons,id,List.length_cons] at h
   obtain ⟨j,a,b⟩:=some_none l (by refine' Nat.lt_of_succ_lt_succ ‹_›)
   exact ⟨j+1,by simp;assumption,by simpa using b⟩
noncomputable def layStep (mask:Nat) (acc:Option (Array (Option Nat)×Nat)) (h:Int):Option (Array (Option Nat)×Nat):=do
 let (owner,k) ←acc
 let j ←layClean.free mask owner (turns mask) (bits h%(mask+1)) (bits h)
 pure (owner.setIfInBounds j (some k),k+1)
theorem lay_ok {mask:Nat} (F:Full mask):∀(hs:List Int) (owner:Array (Option Nat)) (k:Nat),owner.size=mask+1→(owner.toList.filterMap id).Perm (List.range k)→k+hs.length≤mask→
 ∃owner',hs.foldl (layStep mask) (some (owner,k))=some (owner',k+hs.length)∧owner'.size=mask+1∧(owner'.toList.filterMap id).Perm (List.range (k+hs.length))
 | [],owner,k,hs,hp,_=>⟨owner,rfl,hs,hp⟩
 | h::r,owner,k,hsz,hp,hl=>by
   simp only [List.length_cons] at hl
   have hlen:(owner.toList.filterMap id).length=k:=by rw [hp.length_eq,List.length_range]
   obtain ⟨j,hj,ej⟩:=some_none owner.toList (by rw [hlen,Array.length_toList,hsz];lia)
   rw [Array.length_toList,hsz] at hj
   have hb:bits h <2 ^ 64:=by
    unfold bits
    have:h%(2 ^ 64:Int) <2 ^ 64:=Int.emod_lt_of_pos _ (by decide)
    have h0:0≤h%(2 ^ 64:Int):=Int.emod_nonneg _ (by decide)
    lia
   obtain ⟨t,ht,et⟩:=reach F (i:=bits h%(mask+1)) (Nat.le_of_lt_succ (Nat.mod_lt _ (Nat.succ_pos _))) (Nat.le_of_lt_succ hj) hb
   obtain ⟨j',ej'⟩:=free_ok (owner:=owner) ht (by
    rw [et]
    rw [Array.getElem?_toList] at ej
    rw [Array.getD_eq_getD_getElem?,ej];rfl)
   have hn:=free_isNone ej'
   have hj':owner.toList[j']?=some none:=by
    rw [Array.getD_eq_getD_getElem?] at hn
    rw [Array.getElem?_toList]
    cases hx:owner[j']? with
    | none=>rw [hx] at hn;simp at hn
    | some x=>rw [hx] at hn;simp at hn;rw [hn]
   have step:layStep mask (some (owner,k)) h=some (owner.setIfInBounds j' (some k),k+1):=by
    show ((layClean.free mask owner (turns mask) (bits h%(mask+1)) (bits h)).bind fun j=>some (owner.setIfInBounds j (some k),k+1))=_
    rw [ej'];rfl
   rw [List.foldl_cons,step]
   obtain ⟨o',a,b,c⟩:=lay_ok F r (owner.setIfInBounds j' (some k)) (k+1) (by simpa using hsz) (by
    rw [Array.toList_setIfInBounds]
    refine (set_perm _ _ hj').trans ?_
    rw [List.range_succ]
    exact (List.Perm.cons k hp).trans (List.perm_append_singleton k _).symm) (by refine' qB ‹_›)
   rw [show k+1+r.length=k+(h::r).length by simp;lia] at a c
   exact ⟨o',a,b,c⟩
theorem filterMap_range (owner:Array (Option Nat)) (n:Nat) (h:owner.size=n):(List.range n).filterMap (fun j=>owner.getD j none)=owner.toList.filterMap id:=by
 subst h
 have key:∀l:List (Option Nat),(List.range l.length).filterMap (fun j=>(l[j]?).getD none)=l.filterMap id:=by
  intro l
  induction l with
  | nil=>rfl
  | cons a l ih=>
    rw [List.length_cons,List.range_succ_eq_map,List.filterMap_cons,List.filterMap_map,List.filterMap_cons]
    have e:((fun j=>((a::l)[j]?).getD none)∘Nat.succ)=fun j=>(l[j]?).getD none:=by funext j;simp
    rw [e,ih]
    simp
 have:=key owner.toList
 rw [Array.length_toList] at this
 rw [←this]
 congr 1
 funext j
 rw [Array.getD_eq_getD_getElem?,Array.getElem?_toList]
theorem laid_ok {mask:Nat} (F:Full mask) (finger moves:Nat) (led plain:Bool) (hashes:Array Int) (hl:hashes.size≤mask):
 ∃place order,laid mask finger moves led plain hashes=some ({ mask,place,dummies:=#[],finger,led,moves,plain},order)∧place.size=hashes.size∧order.toList.Perm (List.range hashes.size):=by
 obtain ⟨o',a,b,c⟩:=lay_ok F hashes.toList (Array.replicate (mask+1) none) 0 (by simp) (by
  simp only [Array.toList_replicate,List.range_zero]
  have:∀n,(List.replicate n (none:Option Nat)).filterMap id=[]:=by
   intro n
   induction n with
   | zero=>rfl
   | succ n ih=>rw [List.replicate_succ];simpa using ih
  rw [this]) (by simpa using hl)
 rw [Nat.zero_add,Array.length_toList] at a c
 have hlc:layClean mask hashes=some o':=by
  have e:layClean mask hashes=(hashes.foldl (layStep mask) (some (Array.replicate (mask+1) none,0))).map (·.1):=rfl
  rw [e,←Array.foldl_toList,a];rfl
 have e:laid mask finger moves led plain hashes=some ({ mask,place:=(((List.range (mask+1)).filterMap fun j=>(o'.getD j none).map (j,·)).map (·.1)).toArray,dummies:=#[],finger,led,moves,plain},(((List.range (mask+1)).filterMap fun j=>(o'.getD j none).map (j,·)).map (·.2)).toArray):=by
  unfold laid
  rw [hlc];rfl
 have e2:(((List.range (mask+1)).filterMap fun j=>(o'.getD j none).map (j,·)).map (·.2))=o'.toList.filterMap id:=by
  rw [←filterMap_range o' (mask+1) b,List.map_filterMap]
  congr 1
  funext j
  cases o'.getD j none<;>rfl
 refine ⟨_,_,e,?_,?_⟩
 ·have:=congrArg List.length e2
  rw [List.length_map] at this
  simp only [List.size_toArray,List.length_map]
  rw [this,c.length_eq,List.length_range]
 ·rw [List.toList_toArray,e2];exact c
end
section
open PySem PySem.W PySem.Calls PyProof.Rows PySem.Builtin PySem.Builtin.Str PySem.Builtin.Frozenset
set_option maxRecDepth 100000
section
theorem put_push (h:Heap) (o o':Obj):put (h.push o) h.objs.size o'=h.push o':=by
 obtain ⟨objs,l⟩:=h
 show Heap.mk _ _=Heap.mk _ _
 congr 1
 apply Array.ext_getElem?
 intro i
 rw [Array.getElem?_modify,Array.getElem?_push,Array.getElem?_push]
 by_cases q:i=objs.size
 ·subst q;simp
 ·simp [q,Ne.symm q]
theorem sub_froz_set:isSubtype (.type "frozenset") (.type "set")=pure false:=by rw [isSubtype_type];kernel_rfl
theorem sub_froz_froz:isSubtype (.type "frozenset") (.type "frozenset")=pure true:=by rw [isSubtype_type];kernel_rfl
section
variable {prog:Program} {w:World} {A:Around} {E:Value→Shared→Prop} {s:Shared}
noncomputable abbrev fzO (es:Array (Int×Value)) (ep:Nat) (t:SetTable):Obj:=⟨.type "frozenset",none,.set es ep t,#[]⟩
theorem state_fz {a:Addr} {es:Array (Int×Value)} {ep:Nat} {t:SetTable} {Q:(Array (Int×Value)×Nat×SetTable)→Shared→Prop} (ho:s.heap.get? a=some (fzO es ep t)) (hf:t.fits es.size=true) (h:Q (es,ep,t) s):
 wpAny (model prog w) A (setState a) Q E s:=wpAny_setState_of ho rfl hf h
theorem anySet {a:Addr} {es:Array (Int×Value)} {ep:Nat} {t:SetTable} {Q:Bool→Shared→Prop} (ho:s.heap.get? a=some (fzO es ep t)) (h:Q true s):wpAny (model prog w) A (isAnySet (.ref a)) Q E s:=by
 have hT:s.TypeIs (.ref a) "frozenset":=⟨_,ho,rfl⟩
 unfold isAnySet
 refine wpAny_bind (wpAny_isInstance (T:="frozenset") (b:=false) hT sub_froz_set ?_)
 exact wpAny_isInstance (T:="frozenset") (b:=true) hT sub_froz_froz h
theorem reordered_ok {es:Array (Int×Value)} {order:Array Nat} (hp:order.toList.Perm (List.range es.size)):
 (order.filterMap (es[·]?)).toList.Perm es.toList∧(order.filterMap (es[·]?)).size=es.size:=by
 have e:(order.filterMap (es[·]?)).toList.Perm es.toList:=by
  rw [Array.toList_filterMap]
  exact (hp.filterMap _).trans (by rw [filterMap_getElem?_range])
 exact ⟨e,by rw [←Array.length_toList,e.length_eq,Array.length_toList]⟩
theorem roomFz {a:Addr} {n mask:Nat} {led:Bool} {Q:Unit→Shared→Prop} (hg:s.heap.get? a=some (fzO #[] 0 (.fresh 0 0 led))) (F:Full mask)
 (hm:(if n*5≥21 then SetTable.sizeAbove (n*2) -1 else 7)=mask) (hsz:SetTable.sizeAbove (n*2)≤sizeLine)
 (h:∀ep t,t.mask=mask→t.place=#[]→t.dummies=#[]→Q () { s with heap:=put s.heap a (fzO #[] ep t)}):wpAny (model prog w) A (setRoomFor a n) Q E s:=by
 unfold setRoomFor
 refine wpAny_bind (state_fz hg (by rfl) ?_)
 by_cases hc:n*5≥21
 ·rw [if_pos hc] at hm
  have hr:(SetTable.fresh 0 0 led).roomFor n=some (n*2):=by
   unfold SetTable.roomFor
   have:((SetTable.fresh 0 0 led).fill+n)*5≥(SetTable.fresh 0 0 led).mask*3:=by
    show (0+n)*5≥7*3
    lia
   rw [if_pos this]
   show some ((0+n)*2)=_
   rw [Nat.zero_add]
  dsimp only
  rw [hr]
  dsimp only
  unfold setRelay
  refine wpAny_bind (state_fz hg (by rfl) ?_)
  dsimp only
  rw [if_neg (Nat.not_lt.mpr hsz)]
  obtain ⟨place,order,e,e1,e2⟩:=laid_ok F 0 ((SetTable.fresh 0 0 led).movedTo (SetTable.sizeAbove (n*2) -1)) led true #[] (Nat.zero_le _)
  have hrl:(SetTable.fresh 0 0 led).relaid (Array.map (fun x=>x.1) (#[]:Array (Int×Value))) (n*2)=some ({ mask,place,dummies:=#[],finger:=0,led,moves:=(SetTable.fresh 0 0 led).movedTo (SetTable.sizeAbove (n*2) -1),plain:=true},order):=by
   unfold SetTable.relaid
   rw [hm] at e ⊢
   rw [show Array.map (fun x=>x.1) (#[]:Array (Int×Value))=#[] from by simp]
   exact e
  rw [hrl]
  refine wpAny_bind ?_
  obtain ⟨ro1,ro2⟩:=reordered_ok (es:=(#[]:Array (Int×Value))) e2
  show wpAny _ _ (ite (((order.filterMap ((#[]:Array (Int×Value))[·]?)).size != (#[]:Array (Int×Value)).size)=true) _ _) _ _ _
  rw [if_neg (by rw [ro2];simp)]
  refine wpAny_pure ?_
  refine storeFz (o:=default) hg (by rw [ro2];decide) ?_
  have ee:order.filterMap ((#[]:Array (Int×Value))[·]?)=#[]:=Array.eq_empty_of_size_eq_zero ro2
  rw [ee]
  exact h 1 _ rfl (Array.eq_empty_of_size_eq_zero e1) rfl
 ·rw [if_neg hc] at hm
  have hr:(SetTable.fresh 0 0 led).roomFor n=none:=by
   unfold SetTable.roomFor
   have:¬((SetTable.fresh 0 0 led).fill+n)*5≥(SetTable.fresh 0 0 led).mask*3:=by
    show ¬(0+n)*5≥7*3
    lia
   rw [if_neg this]
  dsimp only
  rw [hr]
  refine wpAny_pure ?_
  have:=h 0 (.fresh 0 0 led) hm rfl rfl
  rw [put_same hg] at this
  exact this
theorem copyFz {l:Addr} {o:Obj} {S:Str→Bool} {n mask:Nat} {Q:Value→Shared→Prop} (hg:s.heap.get? l=some o) (ho:IsFz prog w o S n) (hn:0 <n) (F:Full mask)
 (hm:(if n*5≥21 then SetTable.sizeAbove (n*2) -1 else 7)=mask) (hle:n≤mask) (hsz:SetTable.sizeAbove (n*2)≤sizeLine)
 (h:∀o',IsFz prog w o' S n (fun t=>t.mask=mask∧t.dummies=#[])→Q (.ref s.heap.objs.size) { s with heap:=s.heap.push o'}):wpAny (model prog w) A (copyOf l) Q E s:=by
 obtain ⟨es,ep,t,rfl,hel,hmem,hnn,hb,hf,hap,_⟩:=ho
 have hT:s.TypeIs (.ref l) "frozenset":=⟨_,hg,rfl⟩
 have hlt:l <s.heap.objs.size:=Heap.lt_size hg
 unfold copyOf baseOf
 refine wpAny_bind (wpAny_bind (wpAny_isInstance (T:="frozenset") (b:=false) hT sub_froz_set (wpAny_pure ?_)))
 simp only [Bool.false_eq_true,if_false]
 refine wpAny_bind ?_
 unfold newSet setsByText
 refine wpAny_bind (wpAny_bind (wpAny_askSetting (wpAny_pure ?_)))
 dsimp only
 refine wpAny_newObj_type ?_ (by size_fits)
 show wpAny _ _ (addrOf (.ref s.heap.objs.size) >>= _) _ _ _
 refine wpAny_bind (wpAny_pure ?_)
 generalize (!(model prog w).w.params.followText "set-order")=led
 let h1:=s.heap.push (fzO #[] 0 (.fresh 0 0 led))
 have g1:h1.get? s.heap.objs.size=some (fzO #[] 0 (.fresh 0 0 led)):=Heap.get?_push_size _ rfl
 have gl:h1.get? l=some (fzO es ep t):=Heap.get?_push_of_some _ hg
 have hne:(s.heap.objs.size==l)=false:=beq_eq_false_iff_ne.mpr (Nat.ne_of_gt hlt)
 have hemp:es.isEmpty=false:=by
  rw [Array.isEmpty_eq_false_iff]
  intro q;subst q;simp at hnn;lia
 refine wpAny_bind ?_
 unfold setMerge
 rw [hne]
 simp only [Bool.false_eq_true,if_false]
 refine wpAny_bind (state_fz (s:={ s with heap:=h1}) gl hf ?_)
 dsimp only
 rw [hemp]
 simp only [Bool.false_eq_true,if_false]
 refine wpAny_bind (roomFz (s:={ s with heap:=h1}) g1 F (by rw [hnn];exact hm) (by rw [hnn];exact hsz) fun ep1 t1 m1 p1 d1=>?_)
 have g2:(put h1 s.heap.objs.size (fzO #[] ep1 t1)).get? s.heap.objs.size=some (fzO #[] ep1 t1):=get_put g1 rfl
 have f1:t1.fits (#[]:Array (Int×Value)).size=true:=by
  unfold SetTable.fits SetTable.fill
  rw [p1,d1];simp
 refine wpAny_bind (state_fz (s:={ s with heap:=put h1 s.heap.objs.size (fzO #[] ep1 t1)}) g2 f1 ?_)
 have hfill:(t1.fill != 0)=false:=by unfold SetTable.fill;rw [p1,d1];rfl
 dsimp only
 have fin:∀(es2:Array (Int×Value)) (t2:SetTable),es2.toList.Perm es.toList→t2.fits es2.size=true→t2.mask=mask→t2.dummies=#[]→es2.size <4096→
  wpAny (model prog w) A (storeSet s.heap.objs.size es2 t2) (fun _ s'=>wpAny (model prog w) A (pure (Value.ref s.heap.objs.size)) Q E s') E { s with heap:=put h1 s.heap.objs.size (fzO #[] ep1 t1)}:=fun es2 t2 hp hf2 hm2 hd2 hz=>by
  refine storeFz (o:=default) g2 hz (wpAny_pure ?_)
  dsimp only
  rw [put_put,put_push]
  exact h _ ⟨es2,_,t2,rfl,hel.perm hp,fun k=>(hmem k).trans ⟨fun ⟨e,he,q⟩=>⟨e,hp.mem_iff.mpr he,q⟩,fun ⟨e,he,q⟩=>⟨e,hp.mem_iff.mp he,q⟩⟩,by rw [←Array.length_toList,hp.length_eq,Array.length_toList];exact hnn,hb,hf2,hap.perm hp,hm2,hd2⟩
 unfold SetTable.road
 rw [hfill]
 simp only [Bool.false_eq_true,if_false]
 by_cases hc:(t1.mask==t.mask&&t.dummies.isEmpty)=true
 ·rw [if_pos hc]
  rw [Bool.and_eq_true,beq_iff_eq,Array.isEmpty_iff] at hc
  exact fin es _ (.refl _) hf (by show t.mask=mask;rw [←hc.1];exact m1) hc.2 (by lia)
 ·rw [if_neg hc]
  dsimp only
  obtain ⟨place,order,e,e1,e2⟩:=laid_ok F t1.finger t1.moves (t1.led&&t.led) (t1.plain&&t.plain) (es.map (·.1)) (by simp;refine' Nat.le_trans (Nat.le_of_eq ‹_›) ‹_›)
  rw [←m1] at e
  rw [e]
  rw [Array.size_map] at e1 e2
  obtain ⟨ro1,ro2⟩:=reordered_ok (es:=es) e2
  refine wpAny_bind ?_
  show wpAny _ _ (ite (((order.filterMap (es[·]?)).size != es.size)=true) _ _) _ _ _
  rw [if_neg (by rw [ro2];simp)]
  refine wpAny_pure ?_
  refine fin _ _ ro1 ?_ m1 rfl (by rw [ro2];lia)
  unfold SetTable.fits SetTable.fill
  simp only [ro2,e1,Array.size_empty,Nat.add_zero,beq_self_eq_true,Bool.true_and,decide_eq_true_eq]
  lia
end
end
section
theorem cons_erase_perm {α:Type}:∀(l:List α) (i:Nat) (h:i <l.length),(l[i]::l.eraseIdx i).Perm l
 | [],i,h=>absurd h (Nat.not_lt_zero _)
 | a::l,0,h=>by simp
 | a::l,i+1,h=>by
   rw [List.eraseIdx_cons_succ,List.getElem_cons_succ]
   exact (List.Perm.swap _ _ _).trans (List.Perm.cons a (cons_erase_perm l i (Nat.lt_of_succ_lt_succ h)))
theorem pick_perm {α:Type} (next:Nat→Nat):∀(fuel k:Nat) (left:List α) (out:Array α),fuel=left.length→(pickOrder.go next fuel k left out).toList.Perm (out.toList++left)
 | 0,k,left,out,h=>by
   have:left=[]:=List.eq_nil_of_length_eq_zero h.symm
   subst this
   simp [pickOrder.go]
 | fuel+1,k,left,out,h=>by
   unfold pickOrder.go
   have hlt:next k%left.length <left.length:=Nat.mod_lt _ (by lia)
   rw [List.getElem?_eq_getElem hlt]
   dsimp only
   refine (pick_perm next fuel (k+1) _ _ (by rw [List.length_eraseIdx_of_lt hlt];refine' r23 ‹_›)).trans ?_
   rw [Array.toList_push,List.append_assoc]
   refine List.Perm.append_left _ ?_
   exact cons_erase_perm _ _ hlt
theorem pickOrder_perm {α:Type} (next:Nat→Nat) (xs:Array α):(pickOrder next xs).toList.Perm xs.toList:=by
 have:=pick_perm next xs.size 0 xs.toList #[] (by simp)
 simpa [pickOrder] using this
theorem forIn_same {α β:Type} (f:α→β→Sem (ForInStep β)) (b:β):∀l:List α,(∀a∈l,f a b=pure (.yield b))→forIn l b f=pure b
 | [],_=>rfl
 | a::l,h=>by
   rw [List.forIn_cons,h a (List.mem_cons_self ..)]
   exact forIn_same f b l fun x hx=>h x (List.mem_cons_of_mem _ hx)
section
variable {prog:Program} {w:World} {A:Around} {E:Value→Shared→Prop} {s:Shared}
theorem walkFz {o:Addr} {es:Array (Int×Value)} {ep:Nat} {t:SetTable} {Q:Array (Int×Value)→Shared→Prop} (hg:s.heap.get? o=some (fzO es ep t)) (hf:t.fits es.size=true)
 (hw:w.params.followText "set-order"=true∨(t.led&&t.plain)=true∨es.size≤1) (h:∀es',es'.toList.Perm es.toList→Q es' s):wpAny (model prog w) A (setWalk o) Q E s:=by
 unfold setWalk
 refine wpAny_bind (state_fz hg hf ?_)
 unfold setsByText
 refine wpAny_bind (wpAny_bind (wpAny_askSetting (wpAny_pure ?_)))
 dsimp only
 show wpAny _ _ (ite (w.params.followText "set-order"=true) _ _) _ _ _
 by_cases hb:w.params.followText "set-order"=true
 ·rw [if_pos hb]
  exact wpAny_bind (wpAny_askSetting (wpAny_pure (h _ (pickOrder_perm _ _))))
 ·rw [if_neg hb]
  have hd:(!t.plain&&decide (es.size>1))=false:=by
   rcases hw with q | q | q
   ·exact absurd q hb
   ·rw [Bool.and_eq_true] at q;rw [q.2];rfl
   ·rw [show decide (es.size>1)=false from by simp;assumption,Bool.and_false]
  have hl:(!t.led&&decide (es.size>1))=false:=by
   rcases hw with q | q | q
   ·exact absurd q hb
   ·rw [Bool.and_eq_true] at q;rw [q.1];rfl
   ·rw [show decide (es.size>1)=false from by simp;assumption,Bool.and_false]
  show wpAny _ _ (ite ((!t.plain&&decide (es.size>1))=true) _ _) _ _ _
  rw [hd,if_neg (by decide)]
  refine wpAny_bind ?_
  show wpAny _ _ (ite ((!t.led&&decide (es.size>1))=true) _ _) _ _ _
  rw [hl,if_neg (by decide)]
  exact wpAny_pure (wpAny_pure (h es (.refl _)))
theorem wp_forIn {α β:Type} {M:Model} {f:α→β→Sem (ForInStep β)} {b:β} {l:List α} (h:∀a∈l,wpAny M A (f a b) (fun r s'=>r=.yield b∧s'=s) E s):wpAny M A (forIn l b f) (fun r s'=>r=b∧s'=s) E s:=by
 induction l with
 | nil=>exact wpAny_pure ⟨rfl,rfl⟩
 | cons a l ih=>
   have ih':=ih fun x hx=>h x (List.mem_cons_of_mem _ hx)
   rw [List.forIn_cons]
   refine wpAny_bind (wpAny_mono (h a (List.mem_cons_self ..)) (fun r s' e=>?_) fun _ _ e=>e)
   rw [e.1,e.2]
   exact ih'
theorem quietFz {Q:Bool→Shared→Prop} (l:List Addr) (hl:∀a∈l,∃es ep t,s.heap.get? a=some (fzO es ep t)∧t.fits es.size=true∧ElemsOf (strKind prog w) es.toList) (hq:Q true s):wpAny (model prog w) A (setsQuiet l) Q E s:=by
 unfold setsQuiet
 refine wpAny_bind (wpAny_mono (wp_forIn fun a ha=>?_) (fun r s' ⟨e1,e2⟩=>?_) fun _ _ e=>e)
 ·obtain ⟨es,ep,t,hg,hf,hel⟩:=hl a ha
  refine wpAny_bind (wpAny_setEntries_of hg rfl hf ?_)
  rw [←Array.forIn_toList]
  refine wpAny_bind (wpAny_mono (wp_forIn fun x hx=>?_) (fun r s' ⟨e1,e2⟩=>?_) fun _ _ e=>e)
  ·obtain ⟨hh,x⟩:=x
   have:=(hel _ hx).2
   cases x<;>first | exact wpAny_pure ⟨rfl,rfl⟩ | (simp [Value.scannable] at this)
  ·subst e1 e2
   exact wpAny_pure ⟨rfl,rfl⟩
 ·subst e1 e2
  exact wpAny_pure hq
theorem walkU {o:Addr} {others:List Addr} {es:Array (Int×Value)} {ep:Nat} {t:SetTable} {Q:Array (Int×Value)→Shared→Prop} (hg:s.heap.get? o=some (fzO es ep t)) (hf:t.fits es.size=true) (hel:ElemsOf (strKind prog w) es.toList)
 (hl:∀a∈others,∃es ep t,s.heap.get? a=some (fzO es ep t)∧t.fits es.size=true∧ElemsOf (strKind prog w) es.toList) {f:Option Addr} (hfl:f=none∨es.size≤1) (h:∀es',es'.toList.Perm es.toList→Q es' s):wpAny (model prog w) A (setWalkUnseen o others f) Q E s:=by
 unfold setWalkUnseen
 refine wpAny_bind (state_fz hg hf ?_)
 unfold setsByText
 refine wpAny_bind (wpAny_bind (wpAny_askSetting (wpAny_pure ?_)))
 dsimp only
 show wpAny _ _ (ite ((w.params.followText "set-order"||(t.led&&t.plain)||decide (es.size≤1))=true) _ _) _ _ _
 by_cases hc:(w.params.followText "set-order"||(t.led&&t.plain)||decide (es.size≤1))=true
 ·rw [if_pos hc]
  rw [Bool.or_eq_true,Bool.or_eq_true,decide_eq_true_eq,or_assoc] at hc
  exact walkFz hg hf hc h
 ·rw [if_neg hc]
  rw [Bool.or_eq_true,Bool.or_eq_true,decide_eq_true_eq,or_assoc,not_or,not_or] at hc
  obtain ⟨_,_,h3⟩:=hc
  refine wpAny_bind (quietFz _ (fun a ha=>?_) ?_)
  ·rcases List.mem_cons.mp ha with rfl | ha
   ·exact ⟨es,ep,t,hg,hf,hel⟩
   ·exact hl a ha
  ·simp only [Bool.not_true,Bool.false_eq_true,if_false]
   refine wpAny_bind (wpAny_rule ?_)
   rcases hfl with rfl | q
   ·exact wpAny_pure (h es (.refl _))
   ·exact absurd q h3
end
end
section
section
variable {prog:Program} {w:World} {A:Around} {E:Value→Shared→Prop} {s:Shared}
theorem fits_place {t:SetTable} {n:Nat} (h:t.fits n=true):t.place.size=n:=by
 unfold SetTable.fits at h
 rw [Bool.and_eq_true,beq_iff_eq] at h
 exact h.1
theorem mergeOne {a o:Addr} {oa:Obj} {S S1:Str→Bool} {n mask ep1:Nat} {es1:Array (Int×Value)} {t1:SetTable} {each:Sem Unit} {Q:Unit→Shared→Prop} (hao:a≠o) (ga:s.heap.get? a=some oa) (ha:IsFz prog w oa S n (fun t=>t.mask=mask∧t.dummies=#[]))
 (go:s.heap.get? o=some (fzO es1 ep1 t1)) (ho:IsFz prog w (fzO es1 ep1 t1) S1 1) (hm:(n+1)*5 <mask*3) (hn:0 <n) (hn2:n+1 <4096)
 (hE:∀(s':Shared) (R:Unit→Shared→Prop),s'.heap.get? o=some (fzO es1 ep1 t1)→R () s'→wpAny (model prog w) A each R E s')
 (h:∀o' n',n'≤n+1→IsFz prog w o' (fun k=>S k||S1 k) n'→Q () { s with heap:=put s.heap a o'}):wpAny (model prog w) A (setMerge a o each) Q E s:=by
 have ha':=ha
 obtain ⟨es,ep,t,rfl,hel,hmem,hnn,hb,hf,hap,hma,hdu⟩:=ha
 obtain ⟨_,_,_,e,hel1,hmem1,hn1,_,hf1,_⟩:=ho
 cases e
 have hemp:es1.isEmpty=false:=by
  rw [Array.isEmpty_eq_false_iff]
  intro q;subst q;simp at hn1
 have hfill:t.fill=n:=by
  unfold SetTable.fill
  rw [fits_place hf,hdu,hnn];rfl
 unfold setMerge
 rw [show (a==o)=false from beq_eq_false_iff_ne.mpr hao]
 simp only [Bool.false_eq_true,if_false]
 refine wpAny_bind (state_fz go hf1 ?_)
 dsimp only
 rw [hemp]
 simp only [Bool.false_eq_true,if_false]
 refine wpAny_bind ?_
 unfold setRoomFor
 refine wpAny_bind (state_fz ga hf ?_)
 have hr:t.roomFor es1.size=none:=by
  unfold SetTable.roomFor
  rw [if_neg]
  rw [hfill,hma,hn1]
  refine' Nat.not_le_of_lt ‹_›
 dsimp only
 rw [hr]
 refine wpAny_pure ?_
 refine wpAny_bind (state_fz ga hf ?_)
 dsimp only
 have hroad:t.road t1=.oneByOne:=by
  unfold SetTable.road
  rw [if_pos]
  rw [hfill]
  simp;refine' Nat.ne_of_gt ‹_›
 rw [hroad]
 dsimp only
 refine wpAny_bind (walkU go hf1 hel1 (fun x hx=>by
  rw [List.mem_singleton] at hx
  subst hx
  exact ⟨es,ep,t,ga,hf,hel⟩) (.inr (by refine' Nat.le_of_eq ‹_›)) fun es' hp=>?_)
 obtain ⟨e,he⟩:=List.length_eq_one_iff.mp (Array.length_toList.trans hn1)
 have hs1:es'.toList=[e]:=by
  rw [he] at hp
  exact List.perm_singleton.mp hp
 rw [←Array.forIn_toList,hs1]
 obtain ⟨hh,x⟩:=e
 obtain ⟨⟨k,hk1,hk2⟩,hsc⟩:=hel1 (hh,x) (by rw [he];exact List.mem_singleton.mpr rfl)
 dsimp only at hk1 hk2 hsc
 subst hk2
 rw [List.forIn_cons]
 have hS1:∀k',S1 k'=decide (k'=k):=fun k'=>by
  rw [Bool.eq_iff_iff,hmem1 k',decide_eq_true_eq,he]
  constructor
  ·rintro ⟨e,h1,h2⟩
   rw [List.mem_singleton] at h1
   subst h1
   exact (strKind prog w).inj x k' k h2 hk1
  ·rintro rfl
   exact ⟨_,List.mem_singleton.mpr rfl,hk1⟩
 refine wpAny_bind ?_
 refine wpAny_bind ?_
 refine wpAny_bind (wpAny_holding (addFz ga (ha'.mono fun _ _=>trivial) hk1 hsc hn2 fun o' hS'=>?_))
 have go':(put s.heap a o').get? o=some (fzO es1 ep1 t1):=(get_put_ne _ hao).trans go
 refine wpAny_bind (hE _ _ go' ?_)
 refine wpAny_bind (state_fz go' hf1 ?_)
 dsimp only
 rw [bne_self_eq_false]
 simp only [Bool.false_eq_true,if_false]
 refine wpAny_pure (wpAny_pure (wpAny_pure ?_))
 refine h o' (if S k=true then n else n+1) (by split<;>(first | refine' Nat.le_add_right _ _ | refine' Nat.le_refl _)) ?_
 have e1:(fun k'=>S k'||S1 k')=(fun k'=>S k'||decide (k'=k)):=funext fun k'=>by rw [hS1 k']
 rw [e1]
 exact hS'
theorem eraseAt_list {α:Type} (xs:Array α) (p:Nat):(SetTable.eraseAt xs p).toList=xs.toList.eraseIdx p:=by
 simp [SetTable.eraseAt,List.extract_eq_take_drop,List.take_of_length_le,List.eraseIdx_eq_take_drop_succ]
theorem discardFz {a:Addr} {oa:Obj} {S:Str→Bool} {n mask c:Nat} {k:Str} {x:Value} {Q:Bool→Shared→Prop} (ga:s.heap.get? a=some oa) (ha:IsFz prog w oa S n (fun t=>t.mask=mask∧t.dummies.size≤c)) (hk:(strKind prog w).is k x=true) (hsc:x.scannable=true)
 (h:∀o' n' r,n'≤n→IsFz prog w o' (fun k'=>S k'&&!decide (k'=k)) n' (fun t=>t.mask=mask∧t.dummies.size≤c+1)→Q r { s with heap:=put s.heap a o'}):wpAny (model prog w) A (setDiscardHashed a x ((strKind prog w).hash k)) Q E s:=by
 obtain ⟨es,ep,t,rfl,hel,hmem,hnn,hb,hf,hap,hma,hdu⟩:=ha
 have hbs:es.size <scanBound:=by show es.size <4096;lia
 unfold setDiscardHashed setFind setFindIn
 refine wpAny_bind ?_
 refine wpAny_bind (state_fz ga hf ?_)
 dsimp only
 rw [byScan_of hsc hbs hel]
 simp only [↓reduceIte]
 refine wpAny_bind (wpAny_rule ?_)
 refine wpAny_bind (wpAny_setScan_of hk ga rfl hf hel ?_)
 cases hr:List.findIdx? (fun e=>(strKind prog w).is k e.2) es.toList with
 | none=>
   dsimp only
   refine wpAny_pure (wpAny_pure ?_)
   have hSk:S k=false:=by
    cases hk':S k with
    | false=>rfl
    | true=>obtain ⟨e,he,hp⟩:=(hmem k).mp hk';have:=List.findIdx?_eq_none_iff.mp hr e he;rw [hp] at this;exact Bool.noConfusion this
   have:=h (fzO es ep t) n false (Nat.le_refl _) ⟨es,ep,t,rfl,hel,fun k'=>by
    rw [←hmem k',Bool.and_eq_true,Bool.not_eq_true',decide_eq_false_iff_not]
    exact ⟨fun q=>q.1,fun q=>⟨q,fun e=>by rw [e,hSk] at q;cases q⟩⟩,hnn,hb,hf,hap,hma,by refine' Nat.le_add_right_of_le ‹_›⟩
   rw [put_same ga] at this
   exact this
 | some j=>
   dsimp only
   refine wpAny_pure ?_
   rw [Nat.zero_add]
   obtain ⟨hj,hpj,_⟩:=List.findIdx?_eq_some_iff_getElem.mp hr
   refine wpAny_bind (state_fz ga hf ?_)
   dsimp only
   have hsz:(SetTable.eraseAt es j).size=n -1:=by
    rw [←Array.length_toList,eraseAt_list,List.length_eraseIdx_of_lt hj,Array.length_toList,hnn]
   refine wpAny_bind (storeFz (o:=default) ga (by refine' r6' ‹_=_ -1› ‹_›) ?_)
   refine wpAny_bind (wpAny_point (wpAny_pure ?_))
   have hlt:j <t.place.size:=by rw [fits_place hf,←Array.length_toList];exact hj
   have hdrop:t.drop j={ t with place:=SetTable.eraseAt t.place j,dummies:=SetTable.insertAt t.dummies (SetTable.below t.dummies t.place[j]) t.place[j]}:=by
    unfold SetTable.drop
    rw [Array.getElem?_eq_getElem hlt]
   have hps:(SetTable.eraseAt t.place j).size=n -1:=by
    rw [←Array.length_toList,eraseAt_list,List.length_eraseIdx_of_lt (by simpa using hlt),Array.length_toList,fits_place hf,hnn]
   have hds:(SetTable.insertAt t.dummies (SetTable.below t.dummies t.place[j]) t.place[j]).size=t.dummies.size+1:=by
    have:=(SetTable.insertAt_perm t.dummies (SetTable.below t.dummies t.place[j]) t.place[j]).length_eq
    rw [Array.length_toList,Array.length_toList,Array.size_push] at this
    exact this
   have hperm:es.toList.Perm (es.toList[j]::(SetTable.eraseAt es j).toList):=by
    rw [eraseAt_list];exact (cons_erase_perm _ _ hj).symm
   have hap':Apart1 prog w (es.toList[j]::(SetTable.eraseAt es j).toList):=hap.perm hperm.symm
   rw [Apart1,List.pairwise_cons] at hap'
   have hn0:0 <n:=by rw [←hnn,←Array.length_toList];lia
   refine h _ (n -1) true (by refine' (Nat.sub_le _ _)) ⟨_,_,_,rfl,fun e he=>hel e (hperm.mem_iff.mpr (List.mem_cons_of_mem _ he)),fun k'=>?_,hsz,by refine' r6 ‹_›,?_,hap'.2,?_⟩
   ·rw [Bool.and_eq_true,Bool.not_eq_true',decide_eq_false_iff_not,hmem k']
    constructor
    ·rintro ⟨⟨e,he,q⟩,hne⟩
     rcases List.mem_cons.mp (hperm.mem_iff.mp he) with rfl | he'
     ·exact absurd ((strKind prog w).inj _ k' k q hpj) hne
     ·exact ⟨e,he',q⟩
    ·rintro ⟨e,he,q⟩
     refine ⟨⟨e,hperm.mem_iff.mpr (List.mem_cons_of_mem _ he),q⟩,fun e'=>?_⟩
     subst e'
     exact hap'.1 e he k' hpj q
   ·rw [hdrop,hsz]
    unfold SetTable.fits SetTable.fill at hf ⊢
    rw [Bool.and_eq_true,decide_eq_true_eq] at hf ⊢
    refine ⟨by simpa using hps,?_⟩
    show (SetTable.eraseAt t.place j).size+(SetTable.insertAt t.dummies _ _).size≤t.mask
    rw [hps,hds]
    have:=hf.2
    have:=beq_iff_eq.mp hf.1
    lia
   ·rw [hdrop]
    refine ⟨hma,?_⟩
    show (SetTable.insertAt t.dummies _ _).size≤c+1
    rw [hds];refine' Nat.succ_le_succ ‹_›
end
end
section
theorem slot_froz_or:Slot "frozenset" "__or__" "frozenset.__or__":=
 .of (owner:="frozenset") (n:="__or__") (by rw [typeLookup_type,builtinLookup_eq_fast];kernel_rfl) (by decide+kernel) (by decide+kernel) (by decide+kernel)
  (by first | exact .inl (by decide+kernel) | exact .inr (by decide+kernel)) (by rw [isSubtype_type];kernel_rfl)
theorem entry_froz_or:entryFor table "frozenset.__or__"=some Builtin.«frozenset.__or__»:=entryFor_of_tree (by kernel_rfl)
theorem args_froz_or (a b:Value):argsOk "frozenset.__or__" ⟨[a,b],[]⟩:=by
 unfold argsOk;rw [signature?_of (id:="frozenset.__or__") (n:="__or__".toList.reverse) (o:="frozenset".toList.reverse) (by kernel_rfl) FB.owner_frozenset];kernel_rfl
theorem slot_froz_sub:Slot "frozenset" "__sub__" "frozenset.__sub__":=
 .of (owner:="frozenset") (n:="__sub__") (by rw [typeLookup_type,builtinLookup_eq_fast];kernel_rfl) (by decide+kernel) (by decide+kernel) (by decide+kernel)
  (by first | exact .inl (by decide+kernel) | exact .inr (by decide+kernel)) (by rw [isSubtype_type];kernel_rfl)
theorem entry_froz_sub:entryFor table "frozenset.__sub__"=some Builtin.«frozenset.__sub__»:=entryFor_of_tree (by kernel_rfl)
theorem args_froz_sub (a b:Value):argsOk "frozenset.__sub__" ⟨[a,b],[]⟩:=by
 unfold argsOk;rw [signature?_of (id:="frozenset.__sub__") (n:="__sub__".toList.reverse) (o:="frozenset".toList.reverse) (by kernel_rfl) FB.owner_frozenset];kernel_rfl
section
variable {prog:Program} {w:World} {A:Around} {E:Value→Shared→Prop} {s:Shared}
theorem unch {id:String} {o:Addr} {es:Array (Int×Value)} {ep:Nat} {t:SetTable} (hf:t.fits es.size=true) (s':Shared) (R:Unit→Shared→Prop) (go:s'.heap.get? o=some (fzO es ep t)) (h:R () s'):wpAny (model prog w) A (unchanged id o ep) R E s':=by
 unfold unchanged setEpoch
 refine wpAny_bind (wpAny_bind (state_fz go hf (wpAny_pure ?_)))
 rw [bne_self_eq_false]
 exact wpAny_pure h
theorem orFz {l r:Addr} {ol or_:Obj} {S S1:Str→Bool} {n mask:Nat} {R:Result→Shared→Prop} (hlr:l≠r) (gl:s.heap.get? l=some ol) (hl:IsFz prog w ol S n) (gr:s.heap.get? r=some or_) (hr:IsFz prog w or_ S1 1)
 (F:Full mask) (hm:(if n*5≥21 then SetTable.sizeAbove (n*2) -1 else 7)=mask) (hsz:SetTable.sizeAbove (n*2)≤sizeLine) (hm2:(n+1)*5 <mask*3) (hn:0 <n) (hn2:n+1 <4096)
 (h:∀o' n',n'≤n+1→IsFz prog w o' (fun k=>S k||S1 k) n'→R (.ok (.ret (.ref s.heap.objs.size))) { s with heap:=s.heap.push o'}):
 codeAny (model prog w) A (.call (.builtin "frozenset.__or__") ⟨[.ref l,.ref r],[]⟩) R s:=by
 have hr':=hr
 have hl':=hl
 obtain ⟨es1,ep1,t1,rfl,_,_,_,_,hf1,_⟩:=hr'
 obtain ⟨es,ep,t,rfl,_⟩:=hl'
 have hT:s.TypeIs (.ref l) "frozenset":=⟨_,gl,rfl⟩
 refine codeAny_call_builtin slot_froz_or.plain entry_froz_or (slot_froz_or.check _ _ _ _ _ _ _ _ hT (args_froz_or _ _) ?_)
 show wpAny _ _ (slot1 "__or__" ⟨[.ref l,.ref r],[]⟩ >>= _) _ _ s
 refine wpAny_bind ?_
 show wpAny _ _ (slotArgs "__or__" 1 ⟨[.ref l,.ref r],[]⟩ >>= _) _ _ s
 refine wpAny_bind (wpAny_of_eq (a:=(Value.ref l,[Value.ref r])) (by rfl) ?_)
 refine wpAny_pure ?_
 show wpAny _ _ ((isAnySet (.ref l) <&&>isAnySet (.ref r)) >>= _) _ _ s
 refine wpAny_bind ?_
 show wpAny _ _ (isAnySet (.ref l) >>= _) _ _ s
 refine wpAny_bind (anySet gl ?_)
 show wpAny _ _ (isAnySet (.ref r)) _ _ s
 refine anySet gr ?_
 rw [if_neg (by decide)]
 refine wpAny_bind (wpAny_pure (wpAny_bind ?_))
 show wpAny _ _ (copyOf l >>= _) _ _ s
 refine wpAny_bind (copyFz gl hl hn F hm (by
  by_cases q:n*5≥21
  ·rw [if_pos q] at hm;lia
  ·rw [if_neg q] at hm;lia) hsz fun oc hc=>?_)
 have hc':=hc
 obtain ⟨esc,epc,tc,rfl,_⟩:=hc'
 rw [if_pos (show (Value.ref r != Value.ref l)=true from by simp [Ne.symm hlr])]
 refine wpAny_bind (wpAny_pure ?_)
 refine wpAny_bind (wpAny_holding ?_)
 have gr':(s.heap.push (fzO esc epc tc)).get? r=some (fzO es1 ep1 t1):=Heap.get?_push_of_some _ gr
 have gc':(s.heap.push (fzO esc epc tc)).get? s.heap.objs.size=some (fzO esc epc tc):=Heap.get?_push_size _ rfl
 unfold updateFrom
 refine wpAny_bind (anySet gr' ?_)
 rw [if_pos rfl]
 refine wpAny_bind (wpAny_pure ?_)
 unfold merge
 refine wpAny_bind ?_
 unfold setEpoch
 refine wpAny_bind (state_fz gr' hf1 (wpAny_pure ?_))
 refine mergeOne (Nat.ne_of_gt (Heap.lt_size gr)) gc' hc gr' hr hm2 hn hn2 (unch hf1) fun o' n' hn' ho'=>?_
 refine wpAny_pure (wpAny_pure ?_)
 dsimp only
 rw [put_push]
 exact h o' n' hn' ho'
end
end
section
section
variable {prog:Program} {w:World} {A:Around} {E:Value→Shared→Prop} {s:Shared}
theorem loopDiscard {a o:Addr} {mask:Nat} {es1:Array (Int×Value)} {ep1:Nat} {t1:SetTable} {id:String} {Q:PUnit→Shared→Prop} (hao:a≠o) (hf1:t1.fits es1.size=true):
 ∀(l:List (Int×Value)) (s:Shared) (oa:Obj) (S:Str→Bool) (n c:Nat),ElemsOf (strKind prog w) l→s.heap.get? a=some oa→IsFz prog w oa S n (fun t=>t.mask=mask∧t.dummies.size≤c)→s.heap.get? o=some (fzO es1 ep1 t1)→
  (∀o' n',n'≤n→IsFz prog w o' (fun k=>S k&&!l.any fun e=>(strKind prog w).is k e.2) n' (fun t=>t.mask=mask∧t.dummies.size≤c+l.length)→Q () { s with heap:=put s.heap a o'})→
  wpAny (model prog w) A (forIn l PUnit.unit fun (x:Int×Value) (r:PUnit)=>do
   let _ ←holding [x.2] (setDiscardHashed a x.2 x.1)
   unchanged id o ep1
   pure (ForInStep.yield PUnit.unit)) Q E s:=by
 intro l
 induction l with
 | nil=>
   intro s oa S n c _ ga hS _ hQ
   refine wpAny_pure ?_
   have:=hQ oa n (Nat.le_refl _) (by simpa using hS)
   rw [put_same ga] at this
   exact this
 | cons e l ih=>
   intro s oa S n c hel ga hS go hQ
   obtain ⟨hh,x⟩:=e
   obtain ⟨⟨k,hk1,hk2⟩,hsc⟩:=hel (hh,x) (List.mem_cons_self ..)
   dsimp only at hk1 hk2 hsc
   subst hk2
   rw [List.forIn_cons]
   refine wpAny_bind (wpAny_bind (wpAny_holding (discardFz ga hS hk1 hsc fun o' n' r hn' hS'=>?_)))
   have go':(put s.heap a o').get? o=some (fzO es1 ep1 t1):=(get_put_ne _ hao).trans go
   refine wpAny_bind (unch hf1 { s with heap:=put s.heap a o'} _ go' (wpAny_pure ?_))
   have fo:o'.isFreed=false:=by obtain ⟨es,ep,tt,rfl,_⟩:=hS';rfl
   refine ih { s with heap:=put s.heap a o'} o' _ n' (c+1) (fun e he=>hel e (List.mem_cons_of_mem _ he)) (get_put ga fo) hS' go' fun o₂ n₂ hn₂ hS₂=>?_
   dsimp only
   rw [put_put]
   refine hQ o₂ n₂ (by refine' Nat.le_trans ‹_› ‹_›) ?_
   have e1:(fun k'=>S k'&&!(((strKind prog w).hash k,x)::l).any fun e=>(strKind prog w).is k' e.2)=(fun k'=>(S k'&&!decide (k'=k))&&!l.any fun e=>(strKind prog w).is k' e.2):=by
    funext k'
    rw [List.any_cons]
    have:(strKind prog w).is k' x=decide (k'=k):=by
     rw [Bool.eq_iff_iff,decide_eq_true_eq]
     exact ⟨fun q=>(strKind prog w).inj x k' k q hk1,fun e=>e▸hk1⟩
    dsimp only
    rw [this,Bool.not_or,Bool.and_assoc]
   rw [e1]
   exact hS₂.mono fun t ⟨h1,h2⟩=>⟨h1,by simp only [List.length_cons];lia⟩
theorem subFz {l r:Addr} {ol or_:Obj} {S S1:Str→Bool} {n m mask:Nat} {R:Result→Shared→Prop} (hlr:l≠r) (gl:s.heap.get? l=some ol) (hl:IsFz prog w ol S n) (gr:s.heap.get? r=some or_) (hr:IsFz prog w or_ S1 m)
 (F:Full mask) (hm:(if n*5≥21 then SetTable.sizeAbove (n*2) -1 else 7)=mask) (hsz:SetTable.sizeAbove (n*2)≤sizeLine) (hmn:n/4>m) (hm4:m≤mask/4) (hm8:m <8) (hle:n≤mask)
 (h:∀o' n',n'≤n→IsFz prog w o' (fun k=>S k&&!S1 k) n'→R (.ok (.ret (.ref s.heap.objs.size))) { s with heap:=s.heap.push o'}):
 codeAny (model prog w) A (.call (.builtin "frozenset.__sub__") ⟨[.ref l,.ref r],[]⟩) R s:=by
 have hr':=hr
 have hl':=hl
 obtain ⟨es1,ep1,t1,rfl,hel1,hmem1,hn1,hb1,hf1,_⟩:=hr'
 obtain ⟨es,ep,t,rfl,_,_,hnn,hb,hf,_⟩:=hl'
 have hT:s.TypeIs (.ref l) "frozenset":=⟨_,gl,rfl⟩
 have hn:0 <n:=by lia
 refine codeAny_call_builtin slot_froz_sub.plain entry_froz_sub (slot_froz_sub.check _ _ _ _ _ _ _ _ hT (args_froz_sub _ _) ?_)
 show wpAny _ _ (slot1 "__sub__" ⟨[.ref l,.ref r],[]⟩ >>= _) _ _ s
 refine wpAny_bind ?_
 show wpAny _ _ (slotArgs "__sub__" 1 ⟨[.ref l,.ref r],[]⟩ >>= _) _ _ s
 refine wpAny_bind (wpAny_of_eq (a:=(Value.ref l,[Value.ref r])) (by rfl) ?_)
 refine wpAny_pure ?_
 show wpAny _ _ ((isAnySet (.ref l) <&&>isAnySet (.ref r)) >>= _) _ _ s
 refine wpAny_bind ?_
 show wpAny _ _ (isAnySet (.ref l) >>= _) _ _ s
 refine wpAny_bind (anySet gl ?_)
 show wpAny _ _ (isAnySet (.ref r)) _ _ s
 refine anySet gr ?_
 rw [if_neg (by decide)]
 refine wpAny_bind (wpAny_pure (wpAny_bind ?_))
 unfold difference
 refine wpAny_bind (anySet gr ?_)
 dsimp only
 rw [if_neg (by decide)]
 refine wpAny_bind (wpAny_pure ?_)
 rw [if_neg (by rw [Bool.not_true,Bool.false_and];decide)]
 refine wpAny_bind ?_
 unfold PySem.Builtin.Frozenset.sizeOf
 refine wpAny_bind (wpAny_setEntries_of gr rfl hf1 (wpAny_pure ?_))
 refine wpAny_bind (wpAny_bind (wpAny_setEntries_of gl rfl hf (wpAny_pure ?_)))
 rw [if_pos (by rw [hnn,hn1];exact hmn)]
 refine wpAny_bind (wpAny_rule ?_)
 refine wpAny_bind (copyFz gl hl hn F hm hle hsz fun oc hc=>?_)
 have hc':=hc
 obtain ⟨esc,epc,tc,rfl,_,_,hnc,_,hfc,_⟩:=hc'
 have gr':(s.heap.push (fzO esc epc tc)).get? r=some (fzO es1 ep1 t1):=Heap.get?_push_of_some _ gr
 have gc':(s.heap.push (fzO esc epc tc)).get? s.heap.objs.size=some (fzO esc epc tc):=Heap.get?_push_size _ rfl
 have hne:s.heap.objs.size≠r:=Nat.ne_of_gt (Heap.lt_size gr)
 refine wpAny_bind (wpAny_pure ?_)
 refine wpAny_bind (wpAny_holding ?_)
 unfold differenceUpdate
 rw [if_neg (show ¬(Value.ref r==Value.ref s.heap.objs.size)=true from by simp [Ne.symm hne])]
 refine wpAny_bind (anySet gr' ?_)
 rw [if_pos rfl]
 refine wpAny_bind (wpAny_pure ?_)
 unfold PySem.Builtin.Frozenset.sizeOf
 refine wpAny_bind (wpAny_bind (wpAny_setEntries_of gr' rfl hf1 (wpAny_pure ?_)))
 refine wpAny_bind (wpAny_bind (wpAny_setEntries_of gc' rfl hfc (wpAny_pure ?_)))
 dsimp only
 rw [if_neg (show ¬es1.size/8>esc.size from by rw [hn1];lia)]
 refine wpAny_bind ?_
 unfold setEpoch
 refine wpAny_bind (state_fz gr' hf1 (wpAny_pure ?_))
 refine wpAny_bind (wpAny_holding ?_)
 refine wpAny_bind (walkU gr' hf1 hel1 (fun x hx=>?_) (.inl rfl) fun es' hp=>?_)
 ·rw [List.mem_singleton] at hx
  subst hx
  obtain ⟨es2,ep2,t2,e,h1,_,_,_,h2,_⟩:=hc
  cases e
  exact ⟨_,_,_,gc',h2,h1⟩
 rw [←Array.forIn_toList]
 have hlen:es'.toList.length=m:=by rw [hp.length_eq,Array.length_toList];exact hn1
 refine wpAny_bind (loopDiscard (mask:=mask) hne hf1 _ _ _ S n 0 (hel1.perm hp) gc' (hc.mono fun t ⟨h1,h2⟩=>⟨h1,by rw [h2];exact Nat.le_refl _⟩) gr' fun o' n' hn' ho'=>wpAny_pure ?_)
 have ho2:=ho'
 obtain ⟨es3,ep3,t3,rfl,_,_,_,_,hf3,_,hma3,hd3⟩:=ho2
 unfold setTidy
 refine wpAny_bind (state_fz (get_put gc' rfl) hf3 ?_)
 have htm:t3.tooManyDummies=false:=by
  unfold SetTable.tooManyDummies
  rw [hma3,decide_eq_false_iff_not]
  rw [hlen] at hd3
  lia
 dsimp only
 rw [htm]
 simp only [Bool.false_eq_true,if_false]
 refine wpAny_pure (wpAny_pure (wpAny_pure ?_))
 rw [put_push]
 refine h _ n' hn' ?_
 have e1:(fun k=>S k&&!es'.toList.any fun e=>(strKind prog w).is k e.2)=(fun k=>S k&&!S1 k):=by
  funext k
  congr 2
  rw [Bool.eq_iff_iff,hmem1 k,List.any_eq_true]
  exact ⟨fun ⟨e,he,q⟩=>⟨e,hp.mem_iff.mp he,q⟩,fun ⟨e,he,q⟩=>⟨e,hp.mem_iff.mpr he,q⟩⟩
 rw [e1] at ho'
 exact ho'.mono fun _ _=>trivial
end
end
end
section
open PySem PySem.W PySem.Calls PyProof.Rows
set_option maxRecDepth 1000000
theorem abs_put {T:BT} {n:Nat} {a:Addr} {o o':Obj} (g:T.get a=some o):put (absHeap T n {}) a o'=absHeap (T.set a fun _=>o') n {}:=(absHeap_set g).symm
theorem abs_push {T:BT} {n:Nat} {o:Obj} (g:((T.ins n o).get n).isSome=true):(absHeap T n {}).push o=absHeap (T.ins n o) (n+1) {}:=(absHeap_ins g).symm
theorem abs_at {T:BT} {n:Nat} {a:Addr} {o:Obj} (h:Nat.blt a n=true) (g:T.get a=some o) (al:alive o=some o):(absHeap T n {}).get? a=some o:=by
 rw [abs_get (Nat.blt_eq.mp h) g,al]
noncomputable def oNs (o:Obj):Bool:=match o.data with | .dict es _=>es.all (fun e=>match e.key with | .str _ _=>true | _=>false) | _=>false
noncomputable def oMap (o:Obj) (name:Str):Option Value:=match o.data with | .dict es _=>nsFind es name | _=>none
theorem ns_of {h:Heap} {a:Addr} {o:Obj} (g:h.get? a=some o) (k:oNs o=true):h.Ns a (oMap o):=by
 have:h.isNs a=true:=by unfold Heap.isNs;rw [g];exact k
 have e:h.nsMap a=oMap o:=by funext x;unfold Heap.nsMap;rw [g];rfl
 rw [←e];exact .of_isNs this
theorem wp_tree {p:Program} {w:World} {Γ:Ctx} {R:Result→Shared→Prop} {q:Pos} {s:Shared} (h:wpCode (model p w) Γ R q s):wpCode ⟨denote treeTable,p,w⟩ Γ R q s:=by
 have e:(model p w)=⟨denote treeTable,p,w⟩:=by rw [←table_eq_tree];rfl
 rw [←e];exact h
theorem isFz_fz {p:Program} {w:World} {o:Obj} {S:Str→Bool} {n:Nat} (h:IsFz p w o S n):∃v:Sx,o=fz v:=by
 obtain ⟨es,ep,t,rfl,_⟩:=h
 exact ⟨(es,ep,t),rfl⟩
noncomputable def chars (l:List Nat) (c:Str):Bool:=l.any fun d=>decide (c=⟨#[d]⟩)
theorem isFz_zero (p:Program) (w:World):IsFz p w (fz0 w.params) (fun _=>false) 0:=
 ⟨#[],0,_,rfl,fun e he=>by simp at he,fun k=>by simp,rfl,by decide,rfl,List.Pairwise.nil,trivial⟩
theorem leap_str (p:Program) (w:World) (os:OsState) (gens:Array GenState) (a I n tk:Nat) (x:Str) (t:Tok) (b:List (Code×Pos)) (q:Pos) (T:BT)
 (hb:okBelow b=true) (hI:T.get I=some (itO x t 0)) (ha:T.get a=some (fz0 w.params)) (la:Nat.blt a n=true) (lI:Nat.blt I n=true) (hne:Nat.beq a I=false) (hlen:Nat.ble x.cps.size 4000=true):
 ∃v:Sx,(∃n',n'≤x.cps.size∧IsFz p w (fz v) (chars x.cps.toList) n')∧∀T' m tk',T'=(((T.set a fun _=>fz v).set I fun _=>itE x.cps.size).ins n tupO).ins (n+1) (stopO n)→
  ((((T.set a fun _=>fz v).set I fun _=>itE x.cps.size).ins n tupO).get n).isSome=true→(((((T.set a fun _=>fz v).set I fun _=>itE x.cps.size).ins n tupO).ins (n+1) (stopO n)).get (n+1)).isSome=true→
  ((T.set a fun _=>fz v).get I)=some (itO x t 0)→m=n+2→tk'=tk+2*x.cps.size→
  wpCode ⟨denote treeTable,p,w⟩ (orcC (.builtin "set.update.loop" ⟨[.ref a,.ref I],[]⟩) b) (fun r s''=>r=.ok (.ret .none)∧s''=(⟨T',m,{},gens,{},tk',os⟩:SharedT).abs) q (⟨T,n,{},gens,{},tk,os⟩:SharedT).abs:=by
 have hne':a≠I:=fun e=>by rw [e,Nat.beq_refl] at hne;cases hne
 have gI:=abs_at (n:=n) lI hI rfl
 have ga:=abs_at (n:=n) la ha rfl
 have key:=loop_str (prog:=p) (w:=w) (A:=orcA) (a:=a) (I:=I) (x:=x) (t:=t)
  (R:=fun r s''=>∃o' n',n'≤x.cps.size∧IsFz p w o' (chars x.cps.toList) n'∧r=.ok (.ret .none)∧s''={ (⟨T,n,{},gens,{},tk,os⟩:SharedT).abs with heap:=((put (put (absHeap T n {}) a o') I (itE x.cps.size)).push tupO).push (stopO n),toks:=tk+2*x.cps.size})
  rfl hne' x.cps.size 0 0 (⟨T,n,{},gens,{},tk,os⟩:SharedT).abs (fz0 w.params) (fun _=>false) (Nat.sub_zero _) (Nat.zero_le _) gI ga (isFz_zero p w) (by have:=Nat.le_of_ble_eq_true hlen;with_reducible (apply qM;symm))
  (fun o' n' hn' ho'=>⟨o',n',by lia,by
    have e:(fun c=>false||(List.drop 0 x.cps.toList).any fun d=>decide (c=⟨#[d]⟩))=chars x.cps.toList:=by funext c;simp [chars]
    rw [e] at ho';exact ho',rfl,by
    have e:(SharedT.abs ⟨T,n,{},gens,{},tk,os⟩).heap.objs.size=n:=absHeap_size ..
    rw [e];rfl⟩)
 obtain ⟨r,s',hr,o',n',hn',ho',rfl,rfl⟩:=key (orcC _ b) q rfl (orcC_below hb)
 obtain ⟨v,rfl⟩:=isFz_fz ho'
 refine ⟨v,⟨n',hn',ho'⟩,fun T' m tk' hT h1 h2 h3 hm htk=>wp_tree ⟨_,_,hr,rfl,?_⟩⟩
 subst hT hm htk
 rw [abs_put ha,abs_put h3,abs_push h1,abs_push h2]
 rfl
theorem leap_or (p:Program) (w:World) (os:OsState) (gens:Array GenState) (l r n tk mask nn:Nat) (b:List (Code×Pos)) (q:Pos) (T:BT) {vl vr:Sx} {S S1:Str→Bool} (F:Full mask)
 (hb:okBelow b=true) (hl:T.get l=some (fz vl)) (hr:T.get r=some (fz vr)) (ll:Nat.blt l n=true) (lr:Nat.blt r n=true) (hne:Nat.beq l r=false) (fl:IsFz p w (fz vl) S nn) (fr:IsFz p w (fz vr) S1 1)
 (hm:(if nn*5≥21 then SetTable.sizeAbove (nn*2) -1 else 7)=mask) (hsz:SetTable.sizeAbove (nn*2)≤sizeLine) (hm2:(nn+1)*5 <mask*3) (hn:0 <nn) (hn2:nn+1 <4096):
 ∃v:Sx,(∃n',n'≤nn+1∧IsFz p w (fz v) (fun k=>S k||S1 k) n')∧∀T' m,T'=T.ins n (fz v)→((T.ins n (fz v)).get n).isSome=true→m=n+1→
  wpCode ⟨denote treeTable,p,w⟩ (orcC (.call (.builtin "frozenset.__or__") ⟨[.ref l,.ref r],[]⟩) b) (fun x s''=>x=.ok (.ret (.ref n))∧s''=(⟨T',m,{},gens,{},tk,os⟩:SharedT).abs) q (⟨T,n,{},gens,{},tk,os⟩:SharedT).abs:=by
 have hne':l≠r:=fun e=>by rw [e,Nat.beq_refl] at hne;cases hne
 have e:(SharedT.abs ⟨T,n,{},gens,{},tk,os⟩).heap.objs.size=n:=absHeap_size ..
 have key:=orFz (prog:=p) (w:=w) (A:=orcA) (s:=(⟨T,n,{},gens,{},tk,os⟩:SharedT).abs) (l:=l) (r:=r)
  (R:=fun x s''=>∃o' n',n'≤nn+1∧IsFz p w o' (fun k=>S k||S1 k) n'∧x=.ok (.ret (.ref n))∧s''={ (⟨T,n,{},gens,{},tk,os⟩:SharedT).abs with heap:=(absHeap T n {}).push o'})
  hne' (abs_at ll hl rfl) fl (abs_at lr hr rfl) fr F hm hsz hm2 hn hn2 (fun o' n' hn' ho'=>⟨o',n',hn',ho',by rw [e],rfl⟩)
 obtain ⟨x,s',hx,o',n',hn',ho',rfl,rfl⟩:=key (orcC _ b) q rfl (orcC_below hb)
 obtain ⟨v,rfl⟩:=isFz_fz ho'
 refine ⟨v,⟨n',hn',ho'⟩,fun T' m hT h1 hm=>wp_tree ⟨_,_,hx,rfl,?_⟩⟩
 subst hT hm
 rw [abs_push h1]
 rfl
theorem leap_sub (p:Program) (w:World) (os:OsState) (gens:Array GenState) (l r n tk mask nn mm:Nat) (b:List (Code×Pos)) (q:Pos) (T:BT) {vl vr:Sx} {S S1:Str→Bool} (F:Full mask)
 (hb:okBelow b=true) (hl:T.get l=some (fz vl)) (hr:T.get r=some (fz vr)) (ll:Nat.blt l n=true) (lr:Nat.blt r n=true) (hne:Nat.beq l r=false) (fl:IsFz p w (fz vl) S nn) (fr:IsFz p w (fz vr) S1 mm)
 (hm:(if nn*5≥21 then SetTable.sizeAbove (nn*2) -1 else 7)=mask) (hsz:SetTable.sizeAbove (nn*2)≤sizeLine) (hmn:nn/4>mm) (hm4:mm≤mask/4) (hm8:mm <8) (hle:nn≤mask):
 ∃v:Sx,(∃n',n'≤nn∧IsFz p w (fz v) (fun k=>S k&&!S1 k) n')∧∀T' m,T'=T.ins n (fz v)→((T.ins n (fz v)).get n).isSome=true→m=n+1→
  wpCode ⟨denote treeTable,p,w⟩ (orcC (.call (.builtin "frozenset.__sub__") ⟨[.ref l,.ref r],[]⟩) b) (fun x s''=>x=.ok (.ret (.ref n))∧s''=(⟨T',m,{},gens,{},tk,os⟩:SharedT).abs) q (⟨T,n,{},gens,{},tk,os⟩:SharedT).abs:=by
 have hne':l≠r:=fun e=>by rw [e,Nat.beq_refl] at hne;cases hne
 have e:(SharedT.abs ⟨T,n,{},gens,{},tk,os⟩).heap.objs.size=n:=absHeap_size ..
 have key:=subFz (prog:=p) (w:=w) (A:=orcA) (s:=(⟨T,n,{},gens,{},tk,os⟩:SharedT).abs) (l:=l) (r:=r)
  (R:=fun x s''=>∃o' n',n'≤nn∧IsFz p w o' (fun k=>S k&&!S1 k) n'∧x=.ok (.ret (.ref n))∧s''={ (⟨T,n,{},gens,{},tk,os⟩:SharedT).abs with heap:=(absHeap T n {}).push o'})
  hne' (abs_at ll hl rfl) fl (abs_at lr hr rfl) fr F hm hsz hmn hm4 hm8 hle (fun o' n' hn' ho'=>⟨o',n',hn',ho',by rw [e],rfl⟩)
 obtain ⟨x,s',hx,o',n',hn',ho',rfl,rfl⟩:=key (orcC _ b) q rfl (orcC_below hb)
 obtain ⟨v,rfl⟩:=isFz_fz ho'
 refine ⟨v,⟨n',hn',ho'⟩,fun T' m hT h1 hm=>wp_tree ⟨_,_,hx,rfl,?_⟩⟩
 subst hT hm
 rw [abs_push h1]
 rfl
section
section
variable {p:Program} {w:World}
theorem IsFz.cong {o:Obj} {S S':Str→Bool} {n:Nat} (h:IsFz p w o S n) (e:∀k,S k=S' k):IsFz p w o S' n:=by
 rw [←show S=S' from funext e];exact h
noncomputable def keyAt (v:Value):Str:=match v with | .str s _=>s | _=>default
theorem keyAt_of {k:Str} {v:Value} (h:(strKind p w).is k v=true):keyAt v=k:=by
 obtain ⟨t,rfl⟩:=Value.isStrOf_shape h
 rfl
theorem IsFz.count {o:Obj} {l:List Nat} {n:Nat} (h:IsFz p w o (chars l) n) (hl:l.Nodup):n=l.length:=by
 obtain ⟨es,ep,t,rfl,hel,hmem,hn,_,_,hap,_⟩:=h
 have hp:(es.toList.map fun e=>keyAt e.2).Perm (l.map fun d=>(⟨#[d]⟩:Str)):=by
  refine (List.perm_ext_iff_of_nodup ?_ ?_).mpr fun k=>?_
  ·refine List.pairwise_map.mpr ?_
   refine List.Pairwise.imp_of_mem (fun {a b} ha hb hr e=>?_) hap
   obtain ⟨⟨k,hk,_⟩,_⟩:=hel a ha
   obtain ⟨⟨k',hk',_⟩,_⟩:=hel b hb
   rw [keyAt_of hk,keyAt_of hk'] at e
   subst e
   exact hr _ hk hk'
  ·refine List.pairwise_map.mpr (hl.imp fun {a b} h e=>h ?_)
   injection e with e
   have:#[a].toList=#[b].toList:=by rw [e]
   simpa using this
  ·have hS:=hmem k
   rw [List.mem_map,List.mem_map]
   constructor
   ·rintro ⟨e,he,rfl⟩
    obtain ⟨⟨k,hk,_⟩,_⟩:=hel e he
    rw [keyAt_of hk] at hS ⊢
    have:=hS.mpr ⟨e,he,hk⟩
    simp only [chars,List.any_eq_true,decide_eq_true_eq] at this
    obtain ⟨d,hd,e⟩:=this
    exact ⟨d,hd,e.symm⟩
   ·rintro ⟨d,hd,rfl⟩
    obtain ⟨e,he,hk⟩:=hS.mp (by simp only [chars,List.any_eq_true,decide_eq_true_eq];exact ⟨d,hd,rfl⟩)
    exact ⟨e,he,keyAt_of hk⟩
 have:=hp.length_eq
 rw [List.length_map,List.length_map,Array.length_toList] at this
 lia
theorem chars_append (a b:List Nat) (k:Str):(chars a k||chars b k)=chars (a++b) k:=by simp [chars]
theorem chars_diff (a b:List Nat) (k:Str):(chars a k&&!chars b k)=chars (a.filter fun x=>!b.contains x) k:=by
 rw [Bool.eq_iff_iff]
 simp only [chars,Bool.and_eq_true,Bool.not_eq_true',List.any_eq_true,List.any_eq_false,decide_eq_true_eq,List.mem_filter]
 constructor
 ·rintro ⟨⟨d,hd,rfl⟩,hb⟩
  refine ⟨d,⟨hd,?_⟩,rfl⟩
  cases hc:b.contains d with
  | false=>rfl
  | true=>exact absurd rfl (hb d (List.contains_iff_mem.mp hc))
 ·rintro ⟨d,⟨hd,hb⟩,rfl⟩
  refine ⟨⟨d,hd,rfl⟩,fun x hx e=>?_⟩
  have:d=x:=by
   injection e with e
   have:#[d].toList=#[x].toList:=by rw [e]
   simpa using this
  subst this
  have hc:b.contains d=true:=List.contains_iff_mem.mpr hx
  simp only [hc] at hb
  cases hb
section
variable (P:Params) (T:BT) (a RI FD n tk:Nat) (oF:Obj) (v:Sx)
noncomputable def gT0:BT:=T.set a fun _=>fz v
noncomputable def gT1:BT:=(gT0 T a v).set RI fun _=>riO 32
noncomputable def gT2:BT:=(gT1 T a RI v).set FD fun _=>fdN P oF tk 32
noncomputable def gT3:BT:=(gT2 P T a RI FD tk oF v).ins n tupO
noncomputable def gT4:BT:=(gT3 P T a RI FD n tk oF v).ins (n+1) (stopO n)
noncomputable def gT5:BT:=(gT4 P T a RI FD n tk oF v).ins (n+2) tupO
noncomputable def gT6:BT:=(gT5 P T a RI FD n tk oF v).ins (n+3) (stopO (n+2))
end
theorem leap_gen (os:OsState) (a RI FD Gq n tk:Nat) (b:List (Code×Pos)) (q:Pos) (T:BT) {e:Expr} {env:Env} {px p1 p2 p3:Pos} {iter:Expr} {scope:Scope} {pos:Pos} {o0 o2 o3 oF oG:Obj} {nm qn:Value}
 (hb:okBelow b=true) (he:e=.GeneratorExp (.Call (.Name (Str.ofString "chr") p1) [.Name iS p2] [] p3) [⟨.Name iS px,iter,[],0⟩] scope pos) (hFe:env.locals=FD)
 (hx:env.kindOf iS=some .local) (hkind:env.scope.kind=.function) (hco:env.scope.isCoroutine=false) (hgl:env.globals=mainGlobals) (hbl:env.builtins=builtinsNs) (hc:env.kindOf (Str.ofString "chr")=some .globalImplicit)
 (ga:T.get a=some (fz0 w.params)) (gR:T.get RI=some (riO 0)) (gF:T.get FD=some oF) (gG:T.get Gq=some oG) (g3:T.get mainGlobals=some o3) (g0:T.get builtinsNs=some o0) (g2:T.get cStatics=some o2)
 (eG:oG=⟨.type "generator",none,.fields #[.int 0 0,nm,qn],#[]⟩) (nF:oNs oF=true) (aF:alive oF=some oF) (n3:oNs o3=true) (a3:alive o3=some o3) (n0:oNs o0=true) (a0:alive o0=some o0) (n2:oNs o2=true) (a2:alive o2=some o2)
 (c1:oMap o3 (Str.ofString "chr")=none) (c2:oMap o0 (Str.ofString "chr")=some (.builtin "chr")) (c3:oMap o2 "sys.recursionlimit"=none)
 (lts:([a,RI,FD,Gq,mainGlobals,builtinsNs,cStatics].all fun x=>Nat.blt x n)=true) (nd:([a,RI,FD,Gq,mainGlobals,builtinsNs,cStatics]:List Nat).Nodup):
 ∃v:Sx,(∃n',n'≤32∧IsFz p w (fz v) (chars (List.range 32)) n')∧∀T' m tk',T'=gT6 w.params T a RI FD n tk oF v→(gT0 T a v).get RI=some (riO 0)→(gT1 T a RI v).get FD=some oF→
  ((gT3 w.params T a RI FD n tk oF v).get n).isSome=true→((gT4 w.params T a RI FD n tk oF v).get (n+1)).isSome=true→((gT5 w.params T a RI FD n tk oF v).get (n+2)).isSome=true→((gT6 w.params T a RI FD n tk oF v).get (n+3)).isSome=true→
  m=n+4→tk'=tk+128→
  wpCode ⟨denote treeTable,p,w⟩ (orcC (.builtin "set.update.loop" ⟨[.ref a,.ref Gq],[]⟩) b) (fun r s''=>r=.ok (.ret .none)∧s''=(⟨T',m,{},#[.finished],{},tk',os⟩:SharedT).abs) q
   (⟨T,n,{},#[.fresh (.compStart e 0 (.ref RI) .none env)],{},tk,os⟩:SharedT).abs:=by
 subst hFe
 simp only [List.all_cons,List.all_nil,Bool.and_true,Bool.and_eq_true] at lts
 obtain ⟨l1,l2,l3,l4,l5,l6,l7⟩:=lts
 simp only [List.nodup_cons,List.mem_cons,not_or,List.not_mem_nil,not_false_eq_true,List.nodup_nil,and_true] at nd
 obtain ⟨⟨d1,d2,d3,d4,d5,d6⟩,⟨e1,e2,e3,e4,e5⟩,⟨f1,f2,f3,f4⟩,⟨i1,i2,i3⟩,⟨j1,j2⟩,k1⟩:=nd
 have Ga:=abs_at (n:=n) l1 ga rfl
 have GR:=abs_at (n:=n) l2 gR rfl
 have GF:=abs_at (n:=n) l3 gF aF
 have GG:=abs_at (n:=n) l4 gG (by rw [eG];rfl)
 have G3:=ns_of (abs_at (n:=n) l5 g3 a3) n3
 have G0:=ns_of (abs_at (n:=n) l6 g0 a0) n0
 have G2:=ns_of (abs_at (n:=n) l7 g2 a2) n2
 have hGC:GC w.params RI env.locals oF tk (oMap o3) (oMap o0) 0 (⟨T,n,{},#[.fresh (.compStart e 0 (.ref RI) .none env)],{},tk,os⟩:SharedT).abs:=
  ⟨GR,GF,⟨_,ns_of GF nF⟩,rfl,G3,G0⟩
 have hsz:(SharedT.abs ⟨T,n,{},#[.fresh (.compStart e 0 (.ref RI) .none env)],{},tk,os⟩).heap.objs.size=n:=absHeap_size ..
 have key:=loop_gen (prog:=p) (w:=w) (A:=orcA) (a:=a) (RI:=RI) (FD:=env.locals) (Gq:=Gq) (oF:=oF) (T:=tk) (mg:=oMap o3) (mb:=oMap o0)
  (R:=fun r s''=>∃o' n',n'≤32∧IsFz p w o' (chars (List.range 32)) n'∧r=.ok (.ret .none)∧s''={ (⟨T,n,{},#[.fresh (.compStart e 0 (.ref RI) .none env)],{},tk,os⟩:SharedT).abs with heap:=((((put (put (put (absHeap T n {}) a o') RI (riO 32)) env.locals (fdN w.params oF tk 32)).push tupO).push (stopO n)).push tupO).push (stopO (n+2)),gens:=#[.finished],toks:=tk+128})
  rfl (by decide) d1 d2 d3 (Ne.symm e2) (Ne.symm f1) e1 ⟨Ne.symm d4,Ne.symm f2,Ne.symm e3⟩ ⟨Ne.symm d5,Ne.symm f3,Ne.symm e4⟩ ⟨Ne.symm d6,Ne.symm f4,Ne.symm e5⟩
  32 0 0 (⟨T,n,{},#[.fresh (.compStart e 0 (.ref RI) .none env)],{},tk,os⟩:SharedT).abs (fz0 w.params) (fun _=>false) _ rfl (by decide) Ga (isFz_zero p w) (by decide) hGC ⟨oG,nm,qn,GG,by rw [eG],by rw [eG];rfl,by rw [eG]⟩ ⟨_,G2,c3⟩ rfl
  (fun s'' hC=>⟨rfl,seg_genS rfl hx hkind hco e1 ⟨Ne.symm f2,Ne.symm e3⟩ ⟨Ne.symm f3,Ne.symm e4⟩ hgl hbl hc c1 c2 e he s'' hC⟩)
  (fun o' n' hn' ho'=>⟨o',n',by assumption,by
    have e:(fun c=>false||(List.drop 0 (List.range 32)).any fun d=>decide (c=⟨#[d]⟩))=chars (List.range 32):=by funext c;simp [chars]
    rw [e] at ho';exact ho',rfl,by rw [hsz];rfl⟩)
 obtain ⟨r,s',hr,o',n',hn',ho',rfl,rfl⟩:=key (orcC _ b) q rfl (orcC_below hb)
 obtain ⟨v,rfl⟩:=isFz_fz ho'
 refine ⟨v,⟨n',hn',ho'⟩,fun T' m tk' hT h1 h2 h3 h4 h5 h6 hm htk=>wp_tree ⟨_,_,hr,rfl,?_⟩⟩
 subst hT hm htk
 have q0:put (absHeap T n {}) a (fz v)=absHeap (gT0 T a v) n {}:=abs_put ga
 have q1:put (absHeap (gT0 T a v) n {}) RI (riO 32)=absHeap (gT1 T a RI v) n {}:=abs_put h1
 have q2:put (absHeap (gT1 T a RI v) n {}) env.locals (fdN w.params oF tk 32)=absHeap (gT2 w.params T a RI env.locals tk oF v) n {}:=abs_put h2
 have q3:(absHeap (gT2 w.params T a RI env.locals tk oF v) n {}).push tupO=absHeap (gT3 w.params T a RI env.locals n tk oF v) (n+1) {}:=abs_push h3
 have q4:(absHeap (gT3 w.params T a RI env.locals n tk oF v) (n+1) {}).push (stopO n)=absHeap (gT4 w.params T a RI env.locals n tk oF v) (n+2) {}:=abs_push h4
 have q5:(absHeap (gT4 w.params T a RI env.locals n tk oF v) (n+2) {}).push tupO=absHeap (gT5 w.params T a RI env.locals n tk oF v) (n+3) {}:=abs_push h5
 have q6:(absHeap (gT5 w.params T a RI env.locals n tk oF v) (n+3) {}).push (stopO (n+2))=absHeap (gT6 w.params T a RI env.locals n tk oF v) (n+4) {}:=abs_push h6
 rw [q0,q1,q2,q3,q4,q5,q6]
 rfl
end
end
noncomputable def XS:List (Nat×Sx)→Nat→Sx
 | [],_=>(#[],0,.fresh 0 0 true)
 | x::r,i=>bif Nat.beq i x.1 then x.2 else XS r i
noncomputable def genPs:Expr→Pos×Pos×Pos×Pos×Expr×Pos
 | .GeneratorExp (.Call (.Name _ p1) [.Name _ p2] _ p3) [⟨.Name _ px,it,_,_⟩] _ pos=>(p1,p2,p3,px,it,pos)
 | _=>(⟨0,0,0,0⟩,⟨0,0,0,0⟩,⟨0,0,0,0⟩,⟨0,0,0,0⟩,default,⟨0,0,0,0⟩)
abbrev LP (w:World) (c:Code) (b:List (Code×Pos)) (v:Value) (q:Pos) (s s':SharedT):Prop:=wpCode ⟨denote treeTable,PySem.Challenge.pw_kq0034_05,w⟩ (orcC c b) (fun x s''=>x=.ok (.ret v)∧s''=s'.abs) q s.abs
theorem st1 (w:World) (os:OsState):∃v:Sx,IsFz PySem.Challenge.pw_kq0034_05 w (fz v) (chars (List.range 32)) 32∧∀r:List (Nat×Sx),LP w (.builtin "set.update.loop" ⟨[(vR 267),(vR 266)],[]⟩) [((.builtin "frozenset.__new__" ⟨[(.type "frozenset"),(vR 266)],[]⟩),⟨148,13,148,51⟩),((.builtin "type.__call__" ⟨[(.type "frozenset"),(vR 266)],[]⟩),⟨148,13,148,51⟩),(Code.body bod envT,⟨148,13,148,51⟩),((.builtin "claim.caller" ⟨[],[]⟩),⟨0,0,0,0⟩)] vN ⟨148,13,148,51⟩ ⟨tr22 w.params (XS ((267,v)::r)),268,{},#[.fresh (.compStart genE 0 (vR 261) .none genEnv)],{},1481,os⟩ ⟨tr23 w.params (XS ((267,v)::r)),272,{},#[.finished],{},1609,os⟩:=by
 obtain ⟨v,⟨n',_,f⟩,h⟩:=leap_gen (p:=PySem.Challenge.pw_kq0034_05) (w:=w) os 267 261 265 266 268 1481 [((.builtin "frozenset.__new__" ⟨[(.type "frozenset"),(vR 266)],[]⟩),⟨148,13,148,51⟩),((.builtin "type.__call__" ⟨[(.type "frozenset"),(vR 266)],[]⟩),⟨148,13,148,51⟩),(Code.body bod envT,⟨148,13,148,51⟩),((.builtin "claim.caller" ⟨[],[]⟩),⟨0,0,0,0⟩)] ⟨148,13,148,51⟩ (tr22 w.params (XS [])) (e:=genE) (env:=genEnv) (p1:=(genPs genE).1) (p2:=(genPs genE).2.1) (p3:=(genPs genE).2.2.1) (px:=(genPs genE).2.2.2.1) (iter:=(genPs genE).2.2.2.2.1) (pos:=(genPs genE).2.2.2.2.2) (scope:=genSc genE) (nm:=vS "<genexpr>" 1479) (qn:=vS "<genexpr>" 1480) (by kernel_rfl) (by kernel_rfl) rfl (by kernel_rfl) (by kernel_rfl) (by kernel_rfl) rfl rfl (by kernel_rfl) (by kernel_rfl) (by kernel_rfl) (oF:=u265 w.params) (by kernel_rfl) (oG:=u266 w.params) (by kernel_rfl) (o3:=u3_21 w.params) (by kernel_rfl) (o0:=u0 w.params) (by kernel_rfl) (o2:=u2_6 w.params) (by kernel_rfl) (by kernel_rfl) (by kernel_rfl) (by kernel_rfl) (by kernel_rfl) (by kernel_rfl) (by kernel_rfl) (by kernel_rfl) (by kernel_rfl) (by kernel_rfl) (by kernel_rfl) (by kernel_rfl) (by kernel_rfl) (by kernel_rfl) (by decide)
 have e:=f.count (by decide+kernel)
 subst e
 refine ⟨v,f,fun r=>?_⟩
 have e:tr22 w.params (XS ((267,v)::r))=tr22 w.params (XS []):=by kernel_rfl
 show wpCode _ _ _ _ (SharedT.abs ⟨tr22 w.params (XS ((267,v)::r)),268,{},#[.fresh (.compStart genE 0 (vR 261) .none genEnv)],{},1481,os⟩)
 rw [e]
 exact h _ _ _ (by kernel_rfl) (by kernel_rfl) (by kernel_rfl) (by kernel_rfl) (by kernel_rfl) (by kernel_rfl) (by kernel_rfl) rfl rfl
theorem st2 (w:World) (os:OsState) (v267:Sx):∃v:Sx,IsFz PySem.Challenge.pw_kq0034_05 w (fz v) (chars [127]) 1∧∀r:List (Nat×Sx),LP w (.builtin "set.update.loop" ⟨[(vR 272),(vR 273)],[]⟩) [((.builtin "frozenset.__new__" ⟨[(.type "frozenset"),(.str (PySem.Str.mk #[127]) 1610)],[]⟩),⟨148,54,148,73⟩),((.builtin "type.__call__" ⟨[(.type "frozenset"),(.str (PySem.Str.mk #[127]) 1610)],[]⟩),⟨148,54,148,73⟩),(Code.body bod envT,⟨148,54,148,73⟩),((.builtin "claim.caller" ⟨[],[]⟩),⟨0,0,0,0⟩)] vN ⟨148,54,148,73⟩ ⟨tr24 w.params (XS ((267,v267)::(272,v)::r)),274,{},#[.finished],{},1611,os⟩ ⟨tr25 w.params (XS ((267,v267)::(272,v)::r)),276,{},#[.finished],{},1613,os⟩:=by
 obtain ⟨v,⟨n',_,f⟩,h⟩:=leap_str PySem.Challenge.pw_kq0034_05 w os #[.finished] 272 273 274 1611 (PySem.Str.mk #[127]) 1610 [((.builtin "frozenset.__new__" ⟨[(.type "frozenset"),(.str (PySem.Str.mk #[127]) 1610)],[]⟩),⟨148,54,148,73⟩),((.builtin "type.__call__" ⟨[(.type "frozenset"),(.str (PySem.Str.mk #[127]) 1610)],[]⟩),⟨148,54,148,73⟩),(Code.body bod envT,⟨148,54,148,73⟩),((.builtin "claim.caller" ⟨[],[]⟩),⟨0,0,0,0⟩)] ⟨148,54,148,73⟩ (tr24 w.params (XS [(267,v267)])) (by kernel_rfl) (by kernel_rfl) (by kernel_rfl) rfl rfl rfl (by kernel_rfl)
 have e:(PySem.Str.mk #[127]).cps.toList=[127]:=by kernel_rfl
 rw [e] at f
 have e:=f.count (by decide+kernel)
 subst e
 refine ⟨v,f,fun r=>?_⟩
 have e:tr24 w.params (XS ((267,v267)::(272,v)::r))=tr24 w.params (XS [(267,v267)]):=by kernel_rfl
 show wpCode _ _ _ _ (SharedT.abs ⟨tr24 w.params (XS ((267,v267)::(272,v)::r)),274,{},#[.finished],{},1611,os⟩)
 rw [e]
 exact h _ _ _ (by kernel_rfl) (by kernel_rfl) (by kernel_rfl) (by kernel_rfl) rfl (by kernel_rfl)
theorem st3 (w:World) (os:OsState) (v267:Sx) (v272:Sx) (f1:IsFz PySem.Challenge.pw_kq0034_05 w (fz v267) (chars (List.range 32)) 32) (f2:IsFz PySem.Challenge.pw_kq0034_05 w (fz v272) (chars [127]) 1):∃v:Sx,IsFz PySem.Challenge.pw_kq0034_05 w (fz v) (chars [0,1,2,3,4,5,6,7,8,9,10,11,12,13,14,15,16,17,18,19,20,21,22,23,24,25,26,27,28,29,30,31,127]) 33∧∀r:List (Nat×Sx),LP w (.call (.builtin "frozenset.__or__") ⟨[(vR 267),(vR 272)],[]⟩) [(Code.body bod envT,⟨148,13,148,73⟩),((.builtin "claim.caller" ⟨[],[]⟩),⟨0,0,0,0⟩)] (vR 276) ⟨148,13,148,73⟩ ⟨tr26 w.params (XS ((267,v267)::(272,v272)::(276,v)::r)),276,{},#[.finished],{},1613,os⟩ ⟨tr27 w.params (XS ((267,v267)::(272,v272)::(276,v)::r)),277,{},#[.finished],{},1613,os⟩:=by
 obtain ⟨v,⟨n',_,f⟩,h⟩:=leap_or PySem.Challenge.pw_kq0034_05 w os #[.finished] 267 272 276 1613 127 32 [(Code.body bod envT,⟨148,13,148,73⟩),((.builtin "claim.caller" ⟨[],[]⟩),⟨0,0,0,0⟩)] ⟨148,13,148,73⟩ (tr26 w.params (XS [(267,v267),(272,v272)])) full127 (by kernel_rfl) (vl:=v267) (by kernel_rfl) (vr:=v272) (by kernel_rfl) rfl rfl rfl f1 f2 (by kernel_rfl) (by decide+kernel) (by decide) (by decide) (by decide)
 have f:=f.cong (S':=chars [0,1,2,3,4,5,6,7,8,9,10,11,12,13,14,15,16,17,18,19,20,21,22,23,24,25,26,27,28,29,30,31,127]) fun k=>by rw [chars_append];rfl
 have e:=f.count (by decide+kernel)
 subst e
 refine ⟨v,f,fun r=>?_⟩
 have e:tr26 w.params (XS ((267,v267)::(272,v272)::(276,v)::r))=tr26 w.params (XS [(267,v267),(272,v272)]):=by kernel_rfl
 show wpCode _ _ _ _ (SharedT.abs ⟨tr26 w.params (XS ((267,v267)::(272,v272)::(276,v)::r)),276,{},#[.finished],{},1613,os⟩)
 rw [e]
 exact h _ _ (by kernel_rfl) (by kernel_rfl) rfl
theorem st4 (w:World) (os:OsState) (v267:Sx) (v272:Sx) (v276:Sx):∃v:Sx,IsFz PySem.Challenge.pw_kq0034_05 w (fz v) (chars [9]) 1∧∀r:List (Nat×Sx),LP w (.builtin "set.update.loop" ⟨[(vR 277),(vR 278)],[]⟩) [((.builtin "frozenset.__new__" ⟨[(.type "frozenset"),(.str (PySem.Str.mk #[9]) 1614)],[]⟩),⟨149,39,149,54⟩),((.builtin "type.__call__" ⟨[(.type "frozenset"),(.str (PySem.Str.mk #[9]) 1614)],[]⟩),⟨149,39,149,54⟩),(Code.body bod envT,⟨149,39,149,54⟩),((.builtin "claim.caller" ⟨[],[]⟩),⟨0,0,0,0⟩)] vN ⟨149,39,149,54⟩ ⟨tr29 w.params (XS ((267,v267)::(272,v272)::(276,v276)::(277,v)::r)),279,{},#[.finished],{},1615,os⟩ ⟨tr30 w.params (XS ((267,v267)::(272,v272)::(276,v276)::(277,v)::r)),281,{},#[.finished],{},1617,os⟩:=by
 obtain ⟨v,⟨n',_,f⟩,h⟩:=leap_str PySem.Challenge.pw_kq0034_05 w os #[.finished] 277 278 279 1615 (PySem.Str.mk #[9]) 1614 [((.builtin "frozenset.__new__" ⟨[(.type "frozenset"),(.str (PySem.Str.mk #[9]) 1614)],[]⟩),⟨149,39,149,54⟩),((.builtin "type.__call__" ⟨[(.type "frozenset"),(.str (PySem.Str.mk #[9]) 1614)],[]⟩),⟨149,39,149,54⟩),(Code.body bod envT,⟨149,39,149,54⟩),((.builtin "claim.caller" ⟨[],[]⟩),⟨0,0,0,0⟩)] ⟨149,39,149,54⟩ (tr29 w.params (XS [(267,v267),(272,v272),(276,v276)])) (by kernel_rfl) (by kernel_rfl) (by kernel_rfl) rfl rfl rfl (by kernel_rfl)
 have e:(PySem.Str.mk #[9]).cps.toList=[9]:=by kernel_rfl
 rw [e] at f
 have e:=f.count (by decide+kernel)
 subst e
 refine ⟨v,f,fun r=>?_⟩
 have e:tr29 w.params (XS ((267,v267)::(272,v272)::(276,v276)::(277,v)::r))=tr29 w.params (XS [(267,v267),(272,v272),(276,v276)]):=by kernel_rfl
 show wpCode _ _ _ _ (SharedT.abs ⟨tr29 w.params (XS ((267,v267)::(272,v272)::(276,v276)::(277,v)::r)),279,{},#[.finished],{},1615,os⟩)
 rw [e]
 exact h _ _ _ (by kernel_rfl) (by kernel_rfl) (by kernel_rfl) (by kernel_rfl) rfl (by kernel_rfl)
theorem st5 (w:World) (os:OsState) (v267:Sx) (v272:Sx) (v276:Sx) (v277:Sx) (f1:IsFz PySem.Challenge.pw_kq0034_05 w (fz v276) (chars [0,1,2,3,4,5,6,7,8,9,10,11,12,13,14,15,16,17,18,19,20,21,22,23,24,25,26,27,28,29,30,31,127]) 33) (f2:IsFz PySem.Challenge.pw_kq0034_05 w (fz v277) (chars [9]) 1):∃v:Sx,IsFz PySem.Challenge.pw_kq0034_05 w (fz v) (chars [0,1,2,3,4,5,6,7,8,10,11,12,13,14,15,16,17,18,19,20,21,22,23,24,25,26,27,28,29,30,31,127]) 32∧∀r:List (Nat×Sx),LP w (.call (.builtin "frozenset.__sub__") ⟨[(vR 276),(vR 277)],[]⟩) [(Code.body bod envT,⟨149,26,149,54⟩),((.builtin "claim.caller" ⟨[],[]⟩),⟨0,0,0,0⟩)] (vR 281) ⟨149,26,149,54⟩ ⟨tr31 w.params (XS ((267,v267)::(272,v272)::(276,v276)::(277,v277)::(281,v)::r)),281,{},#[.finished],{},1617,os⟩ ⟨tr32 w.params (XS ((267,v267)::(272,v272)::(276,v276)::(277,v277)::(281,v)::r)),282,{},#[.finished],{},1617,os⟩:=by
 obtain ⟨v,⟨n',_,f⟩,h⟩:=leap_sub PySem.Challenge.pw_kq0034_05 w os #[.finished] 276 277 281 1617 127 33 1 [(Code.body bod envT,⟨149,26,149,54⟩),((.builtin "claim.caller" ⟨[],[]⟩),⟨0,0,0,0⟩)] ⟨149,26,149,54⟩ (tr31 w.params (XS [(267,v267),(272,v272),(276,v276),(277,v277)])) full127 (by kernel_rfl) (vl:=v276) (by kernel_rfl) (vr:=v277) (by kernel_rfl) rfl rfl rfl f1 f2 (by kernel_rfl) (by decide+kernel) (by decide) (by decide) (by decide) (by decide)
 have f:=f.cong (S':=chars [0,1,2,3,4,5,6,7,8,10,11,12,13,14,15,16,17,18,19,20,21,22,23,24,25,26,27,28,29,30,31,127]) fun k=>by rw [chars_diff];rfl
 have e:=f.count (by decide+kernel)
 subst e
 refine ⟨v,f,fun r=>?_⟩
 have e:tr31 w.params (XS ((267,v267)::(272,v272)::(276,v276)::(277,v277)::(281,v)::r))=tr31 w.params (XS [(267,v267),(272,v272),(276,v276),(277,v277)]):=by kernel_rfl
 show wpCode _ _ _ _ (SharedT.abs ⟨tr31 w.params (XS ((267,v267)::(272,v272)::(276,v276)::(277,v277)::(281,v)::r)),281,{},#[.finished],{},1617,os⟩)
 rw [e]
 exact h _ _ (by kernel_rfl) (by kernel_rfl) rfl
theorem st6 (w:World) (os:OsState) (v267:Sx) (v272:Sx) (v276:Sx) (v277:Sx) (v281:Sx):∃v:Sx,IsFz PySem.Challenge.pw_kq0034_05 w (fz v) (chars [9,10]) 2∧∀r:List (Nat×Sx),LP w (.builtin "set.update.loop" ⟨[(vR 282),(vR 283)],[]⟩) [((.builtin "frozenset.__new__" ⟨[(.type "frozenset"),(.str (PySem.Str.mk #[9,10]) 1618)],[]⟩),⟨150,49,150,66⟩),((.builtin "type.__call__" ⟨[(.type "frozenset"),(.str (PySem.Str.mk #[9,10]) 1618)],[]⟩),⟨150,49,150,66⟩),(Code.body bod envT,⟨150,49,150,66⟩),((.builtin "claim.caller" ⟨[],[]⟩),⟨0,0,0,0⟩)] vN ⟨150,49,150,66⟩ ⟨tr34 w.params (XS ((267,v267)::(272,v272)::(276,v276)::(277,v277)::(281,v281)::(282,v)::r)),284,{},#[.finished],{},1619,os⟩ ⟨tr35 w.params (XS ((267,v267)::(272,v272)::(276,v276)::(277,v277)::(281,v281)::(282,v)::r)),286,{},#[.finished],{},1623,os⟩:=by
 obtain ⟨v,⟨n',_,f⟩,h⟩:=leap_str PySem.Challenge.pw_kq0034_05 w os #[.finished] 282 283 284 1619 (PySem.Str.mk #[9,10]) 1618 [((.builtin "frozenset.__new__" ⟨[(.type "frozenset"),(.str (PySem.Str.mk #[9,10]) 1618)],[]⟩),⟨150,49,150,66⟩),((.builtin "type.__call__" ⟨[(.type "frozenset"),(.str (PySem.Str.mk #[9,10]) 1618)],[]⟩),⟨150,49,150,66⟩),(Code.body bod envT,⟨150,49,150,66⟩),((.builtin "claim.caller" ⟨[],[]⟩),⟨0,0,0,0⟩)] ⟨150,49,150,66⟩ (tr34 w.params (XS [(267,v267),(272,v272),(276,v276),(277,v277),(281,v281)])) (by kernel_rfl) (by kernel_rfl) (by kernel_rfl) rfl rfl rfl (by kernel_rfl)
 have e:(PySem.Str.mk #[9,10]).cps.toList=[9,10]:=by kernel_rfl
 rw [e] at f
 have e:=f.count (by decide+kernel)
 subst e
 refine ⟨v,f,fun r=>?_⟩
 have e:tr34 w.params (XS ((267,v267)::(272,v272)::(276,v276)::(277,v277)::(281,v281)::(282,v)::r))=tr34 w.params (XS [(267,v267),(272,v272),(276,v276),(277,v277),(281,v281)]):=by kernel_rfl
 show wpCode _ _ _ _ (SharedT.abs ⟨tr34 w.params (XS ((267,v267)::(272,v272)::(276,v276)::(277,v277)::(281,v281)::(282,v)::r)),284,{},#[.finished],{},1619,os⟩)
 rw [e]
 exact h _ _ _ (by kernel_rfl) (by kernel_rfl) (by kernel_rfl) (by kernel_rfl) rfl (by kernel_rfl)
theorem st7 (w:World) (os:OsState) (v267:Sx) (v272:Sx) (v276:Sx) (v277:Sx) (v281:Sx) (v282:Sx) (f1:IsFz PySem.Challenge.pw_kq0034_05 w (fz v276) (chars [0,1,2,3,4,5,6,7,8,9,10,11,12,13,14,15,16,17,18,19,20,21,22,23,24,25,26,27,28,29,30,31,127]) 33) (f2:IsFz PySem.Challenge.pw_kq0034_05 w (fz v282) (chars [9,10]) 2):∃v:Sx,IsFz PySem.Challenge.pw_kq0034_05 w (fz v) (chars [0,1,2,3,4,5,6,7,8,11,12,13,14,15,16,17,18,19,20,21,22,23,24,25,26,27,28,29,30,31,127]) 31∧∀r:List (Nat×Sx),LP w (.call (.builtin "frozenset.__sub__") ⟨[(vR 276),(vR 282)],[]⟩) [(Code.body bod envT,⟨150,36,150,66⟩),((.builtin "claim.caller" ⟨[],[]⟩),⟨0,0,0,0⟩)] (vR 286) ⟨150,36,150,66⟩ ⟨tr36 w.params (XS ((267,v267)::(272,v272)::(276,v276)::(277,v277)::(281,v281)::(282,v282)::(286,v)::r)),286,{},#[.finished],{},1623,os⟩ ⟨tr37 w.params (XS ((267,v267)::(272,v272)::(276,v276)::(277,v277)::(281,v281)::(282,v282)::(286,v)::r)),287,{},#[.finished],{},1623,os⟩:=by
 obtain ⟨v,⟨n',_,f⟩,h⟩:=leap_sub PySem.Challenge.pw_kq0034_05 w os #[.finished] 276 282 286 1623 127 33 2 [(Code.body bod envT,⟨150,36,150,66⟩),((.builtin "claim.caller" ⟨[],[]⟩),⟨0,0,0,0⟩)] ⟨150,36,150,66⟩ (tr36 w.params (XS [(267,v267),(272,v272),(276,v276),(277,v277),(281,v281),(282,v282)])) full127 (by kernel_rfl) (vl:=v276) (by kernel_rfl) (vr:=v282) (by kernel_rfl) rfl rfl rfl f1 f2 (by kernel_rfl) (by decide+kernel) (by decide) (by decide) (by decide) (by decide)
 have f:=f.cong (S':=chars [0,1,2,3,4,5,6,7,8,11,12,13,14,15,16,17,18,19,20,21,22,23,24,25,26,27,28,29,30,31,127]) fun k=>by rw [chars_diff];rfl
 have e:=f.count (by decide+kernel)
 subst e
 refine ⟨v,f,fun r=>?_⟩
 have e:tr36 w.params (XS ((267,v267)::(272,v272)::(276,v276)::(277,v277)::(281,v281)::(282,v282)::(286,v)::r))=tr36 w.params (XS [(267,v267),(272,v272),(276,v276),(277,v277),(281,v281),(282,v282)]):=by kernel_rfl
 show wpCode _ _ _ _ (SharedT.abs ⟨tr36 w.params (XS ((267,v267)::(272,v272)::(276,v276)::(277,v277)::(281,v281)::(282,v282)::(286,v)::r)),286,{},#[.finished],{},1623,os⟩)
 rw [e]
 exact h _ _ (by kernel_rfl) (by kernel_rfl) rfl
theorem st8 (w:World) (os:OsState) (v267:Sx) (v272:Sx) (v276:Sx) (v277:Sx) (v281:Sx) (v282:Sx) (v286:Sx):∃v:Sx,IsFz PySem.Challenge.pw_kq0034_05 w (fz v) (chars [32,9]) 2∧∀r:List (Nat×Sx),LP w (.builtin "set.update.loop" ⟨[(vR 287),(vR 288)],[]⟩) [((.builtin "frozenset.__new__" ⟨[(.type "frozenset"),(.str (PySem.Str.mk #[32,9]) 1627)],[]⟩),⟨154,10,154,26⟩),((.builtin "type.__call__" ⟨[(.type "frozenset"),(.str (PySem.Str.mk #[32,9]) 1627)],[]⟩),⟨154,10,154,26⟩),(Code.body bod envT,⟨154,10,154,26⟩),((.builtin "claim.caller" ⟨[],[]⟩),⟨0,0,0,0⟩)] vN ⟨154,10,154,26⟩ ⟨tr40 w.params (XS ((267,v267)::(272,v272)::(276,v276)::(277,v277)::(281,v281)::(282,v282)::(286,v286)::(287,v)::r)),289,{},#[.finished],{},1628,os⟩ ⟨tr41 w.params (XS ((267,v267)::(272,v272)::(276,v276)::(277,v277)::(281,v281)::(282,v282)::(286,v286)::(287,v)::r)),291,{},#[.finished],{},1632,os⟩:=by
 obtain ⟨v,⟨n',_,f⟩,h⟩:=leap_str PySem.Challenge.pw_kq0034_05 w os #[.finished] 287 288 289 1628 (PySem.Str.mk #[32,9]) 1627 [((.builtin "frozenset.__new__" ⟨[(.type "frozenset"),(.str (PySem.Str.mk #[32,9]) 1627)],[]⟩),⟨154,10,154,26⟩),((.builtin "type.__call__" ⟨[(.type "frozenset"),(.str (PySem.Str.mk #[32,9]) 1627)],[]⟩),⟨154,10,154,26⟩),(Code.body bod envT,⟨154,10,154,26⟩),((.builtin "claim.caller" ⟨[],[]⟩),⟨0,0,0,0⟩)] ⟨154,10,154,26⟩ (tr40 w.params (XS [(267,v267),(272,v272),(276,v276),(277,v277),(281,v281),(282,v282),(286,v286)])) (by kernel_rfl) (by kernel_rfl) (by kernel_rfl) rfl rfl rfl (by kernel_rfl)
 have e:(PySem.Str.mk #[32,9]).cps.toList=[32,9]:=by kernel_rfl
 rw [e] at f
 have e:=f.count (by decide+kernel)
 subst e
 refine ⟨v,f,fun r=>?_⟩
 have e:tr40 w.params (XS ((267,v267)::(272,v272)::(276,v276)::(277,v277)::(281,v281)::(282,v282)::(286,v286)::(287,v)::r))=tr40 w.params (XS [(267,v267),(272,v272),(276,v276),(277,v277),(281,v281),(282,v282),(286,v286)]):=by kernel_rfl
 show wpCode _ _ _ _ (SharedT.abs ⟨tr40 w.params (XS ((267,v267)::(272,v272)::(276,v276)::(277,v277)::(281,v281)::(282,v282)::(286,v286)::(287,v)::r)),289,{},#[.finished],{},1628,os⟩)
 rw [e]
 exact h _ _ _ (by kernel_rfl) (by kernel_rfl) (by kernel_rfl) (by kernel_rfl) rfl (by kernel_rfl)
theorem st9 (w:World) (os:OsState) (v267:Sx) (v272:Sx) (v276:Sx) (v277:Sx) (v281:Sx) (v282:Sx) (v286:Sx) (v287:Sx):∃v:Sx,IsFz PySem.Challenge.pw_kq0034_05 w (fz v) (chars [10]) 1∧∀r:List (Nat×Sx),LP w (.builtin "set.update.loop" ⟨[(vR 291),(vR 292)],[]⟩) [((.builtin "frozenset.__new__" ⟨[(.type "frozenset"),(.str (PySem.Str.mk #[10]) 1633)],[]⟩),⟨155,32,155,47⟩),((.builtin "type.__call__" ⟨[(.type "frozenset"),(.str (PySem.Str.mk #[10]) 1633)],[]⟩),⟨155,32,155,47⟩),(Code.body bod envT,⟨155,32,155,47⟩),((.builtin "claim.caller" ⟨[],[]⟩),⟨0,0,0,0⟩)] vN ⟨155,32,155,47⟩ ⟨tr43 w.params (XS ((267,v267)::(272,v272)::(276,v276)::(277,v277)::(281,v281)::(282,v282)::(286,v286)::(287,v287)::(291,v)::r)),293,{},#[.finished],{},1634,os⟩ ⟨tr44 w.params (XS ((267,v267)::(272,v272)::(276,v276)::(277,v277)::(281,v281)::(282,v282)::(286,v286)::(287,v287)::(291,v)::r)),295,{},#[.finished],{},1636,os⟩:=by
 obtain ⟨v,⟨n',_,f⟩,h⟩:=leap_str PySem.Challenge.pw_kq0034_05 w os #[.finished] 291 292 293 1634 (PySem.Str.mk #[10]) 1633 [((.builtin "frozenset.__new__" ⟨[(.type "frozenset"),(.str (PySem.Str.mk #[10]) 1633)],[]⟩),⟨155,32,155,47⟩),((.builtin "type.__call__" ⟨[(.type "frozenset"),(.str (PySem.Str.mk #[10]) 1633)],[]⟩),⟨155,32,155,47⟩),(Code.body bod envT,⟨155,32,155,47⟩),((.builtin "claim.caller" ⟨[],[]⟩),⟨0,0,0,0⟩)] ⟨155,32,155,47⟩ (tr43 w.params (XS [(267,v267),(272,v272),(276,v276),(277,v277),(281,v281),(282,v282),(286,v286),(287,v287)])) (by kernel_rfl) (by kernel_rfl) (by kernel_rfl) rfl rfl rfl (by kernel_rfl)
 have e:(PySem.Str.mk #[10]).cps.toList=[10]:=by kernel_rfl
 rw [e] at f
 have e:=f.count (by decide+kernel)
 subst e
 refine ⟨v,f,fun r=>?_⟩
 have e:tr43 w.params (XS ((267,v267)::(272,v272)::(276,v276)::(277,v277)::(281,v281)::(282,v282)::(286,v286)::(287,v287)::(291,v)::r))=tr43 w.params (XS [(267,v267),(272,v272),(276,v276),(277,v277),(281,v281),(282,v282),(286,v286),(287,v287)]):=by kernel_rfl
 show wpCode _ _ _ _ (SharedT.abs ⟨tr43 w.params (XS ((267,v267)::(272,v272)::(276,v276)::(277,v277)::(281,v281)::(282,v282)::(286,v286)::(287,v287)::(291,v)::r)),293,{},#[.finished],{},1634,os⟩)
 rw [e]
 exact h _ _ _ (by kernel_rfl) (by kernel_rfl) (by kernel_rfl) (by kernel_rfl) rfl (by kernel_rfl)
theorem st10 (w:World) (os:OsState) (v267:Sx) (v272:Sx) (v276:Sx) (v277:Sx) (v281:Sx) (v282:Sx) (v286:Sx) (v287:Sx) (v291:Sx) (f1:IsFz PySem.Challenge.pw_kq0034_05 w (fz v287) (chars [32,9]) 2) (f2:IsFz PySem.Challenge.pw_kq0034_05 w (fz v291) (chars [10]) 1):∃v:Sx,IsFz PySem.Challenge.pw_kq0034_05 w (fz v) (chars [32,9,10]) 3∧∀r:List (Nat×Sx),LP w (.call (.builtin "frozenset.__or__") ⟨[(vR 287),(vR 291)],[]⟩) [(Code.body bod envT,⟨155,22,155,47⟩),((.builtin "claim.caller" ⟨[],[]⟩),⟨0,0,0,0⟩)] (vR 295) ⟨155,22,155,47⟩ ⟨tr45 w.params (XS ((267,v267)::(272,v272)::(276,v276)::(277,v277)::(281,v281)::(282,v282)::(286,v286)::(287,v287)::(291,v291)::(295,v)::r)),295,{},#[.finished],{},1636,os⟩ ⟨tr46 w.params (XS ((267,v267)::(272,v272)::(276,v276)::(277,v277)::(281,v281)::(282,v282)::(286,v286)::(287,v287)::(291,v291)::(295,v)::r)),296,{},#[.finished],{},1636,os⟩:=by
 obtain ⟨v,⟨n',_,f⟩,h⟩:=leap_or PySem.Challenge.pw_kq0034_05 w os #[.finished] 287 291 295 1636 7 2 [(Code.body bod envT,⟨155,22,155,47⟩),((.builtin "claim.caller" ⟨[],[]⟩),⟨0,0,0,0⟩)] ⟨155,22,155,47⟩ (tr45 w.params (XS [(267,v267),(272,v272),(276,v276),(277,v277),(281,v281),(282,v282),(286,v286),(287,v287),(291,v291)])) full7 (by kernel_rfl) (vl:=v287) (by kernel_rfl) (vr:=v291) (by kernel_rfl) rfl rfl rfl f1 f2 (by kernel_rfl) (by decide+kernel) (by decide) (by decide) (by decide)
 have f:=f.cong (S':=chars [32,9,10]) fun k=>by rw [chars_append];rfl
 have e:=f.count (by decide+kernel)
 subst e
 refine ⟨v,f,fun r=>?_⟩
 have e:tr45 w.params (XS ((267,v267)::(272,v272)::(276,v276)::(277,v277)::(281,v281)::(282,v282)::(286,v286)::(287,v287)::(291,v291)::(295,v)::r))=tr45 w.params (XS [(267,v267),(272,v272),(276,v276),(277,v277),(281,v281),(282,v282),(286,v286),(287,v287),(291,v291)]):=by kernel_rfl
 show wpCode _ _ _ _ (SharedT.abs ⟨tr45 w.params (XS ((267,v267)::(272,v272)::(276,v276)::(277,v277)::(281,v281)::(282,v282)::(286,v286)::(287,v287)::(291,v291)::(295,v)::r)),295,{},#[.finished],{},1636,os⟩)
 rw [e]
 exact h _ _ (by kernel_rfl) (by kernel_rfl) rfl
theorem st11 (w:World) (os:OsState) (v267:Sx) (v272:Sx) (v276:Sx) (v277:Sx) (v281:Sx) (v282:Sx) (v286:Sx) (v287:Sx) (v291:Sx) (v295:Sx):∃v:Sx,IsFz PySem.Challenge.pw_kq0034_05 w (fz v) (chars [97,98,99,100,101,102,103,104,105,106,107,108,109,110,111,112,113,114,115,116,117,118,119,120,121,122,65,66,67,68,69,70,71,72,73,74,75,76,77,78,79,80,81,82,83,84,85,86,87,88,89,90,48,49,50,51,52,53,54,55,56,57,45,95]) 64∧∀r:List (Nat×Sx),LP w (.builtin "set.update.loop" ⟨[(vR 296),(vR 297)],[]⟩) [((.builtin "frozenset.__new__" ⟨[(.type "frozenset"),(vS "abcdefghijklmnopqrstuvwxyzABCDEFGHIJKLMNOPQRSTUVWXYZ0123456789-_" 1652)],[]⟩),⟨161,17,161,57⟩),((.builtin "type.__call__" ⟨[(.type "frozenset"),(vS "abcdefghijklmnopqrstuvwxyzABCDEFGHIJKLMNOPQRSTUVWXYZ0123456789-_" 1652)],[]⟩),⟨161,17,161,57⟩),(Code.body bod envT,⟨161,17,161,57⟩),((.builtin "claim.caller" ⟨[],[]⟩),⟨0,0,0,0⟩)] vN ⟨161,17,161,57⟩ ⟨tr49 w.params (XS ((267,v267)::(272,v272)::(276,v276)::(277,v277)::(281,v281)::(282,v282)::(286,v286)::(287,v287)::(291,v291)::(295,v295)::(296,v)::r)),298,{},#[.finished],{},1653,os⟩ ⟨tr50 w.params (XS ((267,v267)::(272,v272)::(276,v276)::(277,v277)::(281,v281)::(282,v282)::(286,v286)::(287,v287)::(291,v291)::(295,v295)::(296,v)::r)),300,{},#[.finished],{},1781,os⟩:=by
 obtain ⟨v,⟨n',_,f⟩,h⟩:=leap_str PySem.Challenge.pw_kq0034_05 w os #[.finished] 296 297 298 1653 (S_ "abcdefghijklmnopqrstuvwxyzABCDEFGHIJKLMNOPQRSTUVWXYZ0123456789-_") 1652 [((.builtin "frozenset.__new__" ⟨[(.type "frozenset"),(vS "abcdefghijklmnopqrstuvwxyzABCDEFGHIJKLMNOPQRSTUVWXYZ0123456789-_" 1652)],[]⟩),⟨161,17,161,57⟩),((.builtin "type.__call__" ⟨[(.type "frozenset"),(vS "abcdefghijklmnopqrstuvwxyzABCDEFGHIJKLMNOPQRSTUVWXYZ0123456789-_" 1652)],[]⟩),⟨161,17,161,57⟩),(Code.body bod envT,⟨161,17,161,57⟩),((.builtin "claim.caller" ⟨[],[]⟩),⟨0,0,0,0⟩)] ⟨161,17,161,57⟩ (tr49 w.params (XS [(267,v267),(272,v272),(276,v276),(277,v277),(281,v281),(282,v282),(286,v286),(287,v287),(291,v291),(295,v295)])) (by kernel_rfl) (by kernel_rfl) (by kernel_rfl) rfl rfl rfl (by kernel_rfl)
 have e:(S_ "abcdefghijklmnopqrstuvwxyzABCDEFGHIJKLMNOPQRSTUVWXYZ0123456789-_").cps.toList=[97,98,99,100,101,102,103,104,105,106,107,108,109,110,111,112,113,114,115,116,117,118,119,120,121,122,65,66,67,68,69,70,71,72,73,74,75,76,77,78,79,80,81,82,83,84,85,86,87,88,89,90,48,49,50,51,52,53,54,55,56,57,45,95]:=by kernel_rfl
 rw [e] at f
 have e:=f.count (by decide+kernel)
 subst e
 refine ⟨v,f,fun r=>?_⟩
 have e:tr49 w.params (XS ((267,v267)::(272,v272)::(276,v276)::(277,v277)::(281,v281)::(282,v282)::(286,v286)::(287,v287)::(291,v291)::(295,v295)::(296,v)::r))=tr49 w.params (XS [(267,v267),(272,v272),(276,v276),(277,v277),(281,v281),(282,v282),(286,v286),(287,v287),(291,v291),(295,v295)]):=by kernel_rfl
 show wpCode _ _ _ _ (SharedT.abs ⟨tr49 w.params (XS ((267,v267)::(272,v272)::(276,v276)::(277,v277)::(281,v281)::(282,v282)::(286,v286)::(287,v287)::(291,v291)::(295,v295)::(296,v)::r)),298,{},#[.finished],{},1653,os⟩)
 rw [e]
 exact h _ _ _ (by kernel_rfl) (by kernel_rfl) (by kernel_rfl) (by kernel_rfl) rfl (by kernel_rfl)
theorem st12 (w:World) (os:OsState) (v267:Sx) (v272:Sx) (v276:Sx) (v277:Sx) (v281:Sx) (v282:Sx) (v286:Sx) (v287:Sx) (v291:Sx) (v295:Sx) (v296:Sx):∃v:Sx,IsFz PySem.Challenge.pw_kq0034_05 w (fz v) (chars [48,49,50,51,52,53,54,55,56,57,97,98,99,100,101,102,65,66,67,68,69,70]) 22∧∀r:List (Nat×Sx),LP w (.builtin "set.update.loop" ⟨[(vR 300),(vR 301)],[]⟩) [((.builtin "frozenset.__new__" ⟨[(.type "frozenset"),(vS "0123456789abcdefABCDEF" 1648)],[]⟩),⟨162,17,162,37⟩),((.builtin "type.__call__" ⟨[(.type "frozenset"),(vS "0123456789abcdefABCDEF" 1648)],[]⟩),⟨162,17,162,37⟩),(Code.body bod envT,⟨162,17,162,37⟩),((.builtin "claim.caller" ⟨[],[]⟩),⟨0,0,0,0⟩)] vN ⟨162,17,162,37⟩ ⟨tr52 w.params (XS ((267,v267)::(272,v272)::(276,v276)::(277,v277)::(281,v281)::(282,v282)::(286,v286)::(287,v287)::(291,v291)::(295,v295)::(296,v296)::(300,v)::r)),302,{},#[.finished],{},1782,os⟩ ⟨tr53 w.params (XS ((267,v267)::(272,v272)::(276,v276)::(277,v277)::(281,v281)::(282,v282)::(286,v286)::(287,v287)::(291,v291)::(295,v295)::(296,v296)::(300,v)::r)),304,{},#[.finished],{},1826,os⟩:=by
 obtain ⟨v,⟨n',_,f⟩,h⟩:=leap_str PySem.Challenge.pw_kq0034_05 w os #[.finished] 300 301 302 1782 (S_ "0123456789abcdefABCDEF") 1648 [((.builtin "frozenset.__new__" ⟨[(.type "frozenset"),(vS "0123456789abcdefABCDEF" 1648)],[]⟩),⟨162,17,162,37⟩),((.builtin "type.__call__" ⟨[(.type "frozenset"),(vS "0123456789abcdefABCDEF" 1648)],[]⟩),⟨162,17,162,37⟩),(Code.body bod envT,⟨162,17,162,37⟩),((.builtin "claim.caller" ⟨[],[]⟩),⟨0,0,0,0⟩)] ⟨162,17,162,37⟩ (tr52 w.params (XS [(267,v267),(272,v272),(276,v276),(277,v277),(281,v281),(282,v282),(286,v286),(287,v287),(291,v291),(295,v295),(296,v296)])) (by kernel_rfl) (by kernel_rfl) (by kernel_rfl) rfl rfl rfl (by kernel_rfl)
 have e:(S_ "0123456789abcdefABCDEF").cps.toList=[48,49,50,51,52,53,54,55,56,57,97,98,99,100,101,102,65,66,67,68,69,70]:=by kernel_rfl
 rw [e] at f
 have e:=f.count (by decide+kernel)
 subst e
 refine ⟨v,f,fun r=>?_⟩
 have e:tr52 w.params (XS ((267,v267)::(272,v272)::(276,v276)::(277,v277)::(281,v281)::(282,v282)::(286,v286)::(287,v287)::(291,v291)::(295,v295)::(296,v296)::(300,v)::r))=tr52 w.params (XS [(267,v267),(272,v272),(276,v276),(277,v277),(281,v281),(282,v282),(286,v286),(287,v287),(291,v291),(295,v295),(296,v296)]):=by kernel_rfl
 show wpCode _ _ _ _ (SharedT.abs ⟨tr52 w.params (XS ((267,v267)::(272,v272)::(276,v276)::(277,v277)::(281,v281)::(282,v282)::(286,v286)::(287,v287)::(291,v291)::(295,v295)::(296,v296)::(300,v)::r)),302,{},#[.finished],{},1782,os⟩)
 rw [e]
 exact h _ _ _ (by kernel_rfl) (by kernel_rfl) (by kernel_rfl) (by kernel_rfl) rfl (by kernel_rfl)
theorem sets (w:World) (os:OsState):∃X:Nat→Sx,(IsFz PySem.Challenge.pw_kq0034_05 w (fz (X 267)) (chars (List.range 32)) 32∧IsFz PySem.Challenge.pw_kq0034_05 w (fz (X 272)) (chars [127]) 1∧IsFz PySem.Challenge.pw_kq0034_05 w (fz (X 276)) (chars [0,1,2,3,4,5,6,7,8,9,10,11,12,13,14,15,16,17,18,19,20,21,22,23,24,25,26,27,28,29,30,31,127]) 33∧IsFz PySem.Challenge.pw_kq0034_05 w (fz (X 277)) (chars [9]) 1∧IsFz PySem.Challenge.pw_kq0034_05 w (fz (X 281)) (chars [0,1,2,3,4,5,6,7,8,10,11,12,13,14,15,16,17,18,19,20,21,22,23,24,25,26,27,28,29,30,31,127]) 32∧IsFz PySem.Challenge.pw_kq0034_05 w (fz (X 282)) (chars [9,10]) 2∧IsFz PySem.Challenge.pw_kq0034_05 w (fz (X 286)) (chars [0,1,2,3,4,5,6,7,8,11,12,13,14,15,16,17,18,19,20,21,22,23,24,25,26,27,28,29,30,31,127]) 31∧IsFz PySem.Challenge.pw_kq0034_05 w (fz (X 287)) (chars [32,9]) 2∧IsFz PySem.Challenge.pw_kq0034_05 w (fz (X 291)) (chars [10]) 1∧IsFz PySem.Challenge.pw_kq0034_05 w (fz (X 295)) (chars [32,9,10]) 3∧IsFz PySem.Challenge.pw_kq0034_05 w (fz (X 296)) (chars [97,98,99,100,101,102,103,104,105,106,107,108,109,110,111,112,113,114,115,116,117,118,119,120,121,122,65,66,67,68,69,70,71,72,73,74,75,76,77,78,79,80,81,82,83,84,85,86,87,88,89,90,48,49,50,51,52,53,54,55,56,57,45,95]) 64∧IsFz PySem.Challenge.pw_kq0034_05 w (fz (X 300)) (chars [48,49,50,51,52,53,54,55,56,57,97,98,99,100,101,102,65,66,67,68,69,70]) 22)∧Leaps PySem.Challenge.pw_kq0034_05 w (tp12L w os X) (tp12O w os X)∧Leaps PySem.Challenge.pw_kq0034_05 w (tp13L w os X) (tp13O w os X)∧Leaps PySem.Challenge.pw_kq0034_05 w (tp14L w os X) (tp14O w os X)∧Leaps PySem.Challenge.pw_kq0034_05 w (tp16L w os X) (tp16O w os X)∧Leaps PySem.Challenge.pw_kq0034_05 w (tp17L w os X) (tp17O w os X)∧Leaps PySem.Challenge.pw_kq0034_05 w (tp19L w os X) (tp19O w os X)∧Leaps PySem.Challenge.pw_kq0034_05 w (tp20L w os X) (tp20O w os X):=by
 obtain ⟨v267,f267,g267⟩:=st1 w os
 obtain ⟨v272,f272,g272⟩:=st2 w os v267
 obtain ⟨v276,f276,g276⟩:=st3 w os v267 v272 f267 f272
 obtain ⟨v277,f277,g277⟩:=st4 w os v267 v272 v276
 obtain ⟨v281,f281,g281⟩:=st5 w os v267 v272 v276 v277 f276 f277
 obtain ⟨v282,f282,g282⟩:=st6 w os v267 v272 v276 v277 v281
 obtain ⟨v286,f286,g286⟩:=st7 w os v267 v272 v276 v277 v281 v282 f276 f282
 obtain ⟨v287,f287,g287⟩:=st8 w os v267 v272 v276 v277 v281 v282 v286
 obtain ⟨v291,f291,g291⟩:=st9 w os v267 v272 v276 v277 v281 v282 v286 v287
 obtain ⟨v295,f295,g295⟩:=st10 w os v267 v272 v276 v277 v281 v282 v286 v287 v291 f287 f291
 obtain ⟨v296,f296,g296⟩:=st11 w os v267 v272 v276 v277 v281 v282 v286 v287 v291 v295
 obtain ⟨v300,f300,g300⟩:=st12 w os v267 v272 v276 v277 v281 v282 v286 v287 v291 v295 v296
 refine ⟨(XS [(267,v267),(272,v272),(276,v276),(277,v277),(281,v281),(282,v282),(286,v286),(287,v287),(291,v291),(295,v295),(296,v296),(300,v300)]),⟨f267,f272,f276,f277,f281,f282,f286,f287,f291,f295,f296,f300⟩,⟨g267 [(272,v272),(276,v276),(277,v277),(281,v281),(282,v282),(286,v286),(287,v287),(291,v291),(295,v295),(296,v296),(300,v300)],g272 [(276,v276),(277,v277),(281,v281),(282,v282),(286,v286),(287,v287),(291,v291),(295,v295),(296,v296),(300,v300)],g276 [(277,v277),(281,v281),(282,v282),(286,v286),(287,v287),(291,v291),(295,v295),(296,v296),(300,v300)],trivial⟩,⟨g277 [(281,v281),(282,v282),(286,v286),(287,v287),(291,v291),(295,v295),(296,v296),(300,v300)],g281 [(282,v282),(286,v286),(287,v287),(291,v291),(295,v295),(296,v296),(300,v300)],trivial⟩,⟨g282 [(286,v286),(287,v287),(291,v291),(295,v295),(296,v296),(300,v300)],g286 [(287,v287),(291,v291),(295,v295),(296,v296),(300,v300)],trivial⟩,⟨g287 [(291,v291),(295,v295),(296,v296),(300,v300)],trivial⟩,⟨g291 [(295,v295),(296,v296),(300,v300)],g295 [(296,v296),(300,v300)],trivial⟩,⟨g296 [(300,v300)],trivial⟩,⟨g300 [],trivial⟩⟩
noncomputable abbrev pw:Program:=PySem.Challenge.pw_kq0034_05
noncomputable def hp0 (w:World) (X:Nat→Sx):Heap:=absHeap (tr8 w.params X) 63 {}
noncomputable def hp1 (w:World) (X:Nat→Sx):Heap:=absHeap (tr63 w.params X) 589 {}
noncomputable def sh0 (w:World) (X:Nat→Sx) (os:OsState):Shared:=(⟨tr8 w.params X,63,{},#[],{},482,os⟩:SharedT).abs
noncomputable def sh1 (w:World) (X:Nat→Sx) (os:OsState):Shared:=(⟨tr63 w.params X,589,{},#[.finished],{},2284,os⟩:SharedT).abs
theorem sh0_heap (w:World) (X:Nat→Sx) (os:OsState):(sh0 w X os).heap=absHeap (tr8 w.params X) 63 {}:=by kernel_rfl
theorem sh1_heap (w:World) (X:Nat→Sx) (os:OsState):(sh1 w X os).heap=absHeap (tr63 w.params X) 589 {}:=by kernel_rfl
theorem at0 {os:OsState} (w:World) (X:Nat→Sx) {a:Addr} {o:Obj} (h:Nat.blt a 63=true) (g:(tr8 w.params X).get a=some o) (al:alive o=some o):(sh0 w X os).heap.get? a=some o:=by
 rw [sh0_heap];exact abs_at h g al
theorem at1 {os:OsState} (w:World) (X:Nat→Sx) {a:Addr} {o:Obj} (h:Nat.blt a 589=true) (g:(tr63 w.params X).get a=some o) (al:alive o=some o):(sh1 w X os).heap.get? a=some o:=by
 rw [sh1_heap];exact abs_at h g al
noncomputable def olds (P:Params):List (Option Obj):=[some (u0 P),some (u1_6 P),some (u2_6 P),none,some (u4 P),some (u5 P),some (u6 P),some (u7 P),some (u8 P),some (u9 P),some (u10 P),some (u11_8 P),some (u12 P),some (u13 P),some (u14 P),some (u15 P),some (u16 P),some (u17 P),some (u18_5 P),some (u19 P),some (u20 P),some (u21 P),some (u22 P),some (u23 P),some (u24 P),some (u25 P),some (u26 P),some (u27_6 P),some (u28 P),some (u29_8 P),some (u30 P),some (u31 P),some (u32 P),some (u33 P),some (u34 P),some (u35_8 P),some (u36 P),some (u37 P),some (u38 P),some (u39 P),some (u40 P),some (u41 P),some (u42 P),some (u43 P),some (u44 P),some (u45 P),some (u46 P),some (u47 P),some (u48 P),some (u49 P),some (u50 P),some (u51 P),some (u52 P),some (u53 P),some (u54 P),some (u55 P),some (u56 P),some (u57 P),some (u58_8 P),some (u59 P),some (u60 P),some (u61 P),some (u62 P)]
noncomputable def oldsOf (T:BT):List (Option Obj):=(List.range 63).map fun b=>match Nat.beq b 3 with | true=>none | false=>T.get b
theorem old8 (w:World) (X:Nat→Sx):oldsOf (tr8 w.params X)=olds w.params:=by kernel_rfl
theorem old63 (w:World) (X:Nat→Sx):oldsOf (tr63 w.params X)=olds w.params:=by kernel_rfl
theorem oldsOf_at {T T':BT} {b:Nat} (h:oldsOf T=oldsOf T') (hb:b <63) (n3:b≠3):T.get b=T'.get b:=by
 have h:=congrArg (fun l:List (Option Obj)=>l[b]?) h
 unfold oldsOf at h
 simp only [List.getElem?_map,List.getElem?_range hb,Option.map_some,Option.some.injEq] at h
 have z:Nat.beq b 3=false:=by
  cases q:Nat.beq b 3 with
  | false=>rfl
  | true=>exact absurd (Nat.eq_of_beq_eq_true q) n3
 rw [z] at h
 exact h
theorem abs_sub {T T':BT} {n m:Nat} {b:Addr} {o:Obj} (hb:b <n) (hm:b <m) (h:T.get b=T'.get b) (e:(absHeap T n {}).get? b=some o):(absHeap T' m {}).get? b=some o:=by
 cases g:T.get b with
 | some x=>
   rw [abs_get hb g] at e
   rw [g] at h
   rw [abs_get hm h.symm]
   exact e
 | none=>
   unfold Heap.get? at e ⊢
   rw [absHeap_at,if_pos hb,g] at e
   rw [absHeap_at,if_pos hm,←h,g]
   exact e
theorem old1 {os:OsState} (w:World) (X:Nat→Sx) {b:Addr} {o:Obj} (hb:b <63) (n3:b≠3) (e:(sh0 w X os).heap.get? b=some o):(sh1 w X os).heap.get? b=some o:=by
 rw [sh0_heap] at e
 rw [sh1_heap]
 exact abs_sub hb (Nat.lt_trans hb (by decide)) (oldsOf_at ((old8 w X).trans (old63 w X).symm) hb n3) e
section
theorem isNs_of {h:Heap} {a:Addr} {o:Obj} (g:h.get? a=some o):h.isNs a=oNs o:=by unfold Heap.isNs;rw [g];rfl
theorem nsMap_of {h:Heap} {a:Addr} {o:Obj} (g:h.get? a=some o):h.nsMap a=oMap o:=by funext x;unfold Heap.nsMap;rw [g];rfl
noncomputable def oKeys (o:Obj):List Str:=match o.data with | .dict es _=>es.toList.filterMap (fun e=>match e.key with | .str n _=>some n | _=>none) | _=>[]
theorem nsKeys_of {h:Heap} {a:Addr} {o:Obj} (g:h.get? a=some o):h.nsKeys a=oKeys o:=by unfold Heap.nsKeys;rw [g];rfl
noncomputable def oPairs (o:Obj):List (Str×Value):=match o.data with | .dict es _=>es.toList.filterMap (fun e=>match e.key with | .str n _=>some (n,e.val) | _=>none) | _=>[]
theorem nsPairs_of {h:Heap} {a:Addr} {o:Obj} (g:h.get? a=some o):h.nsPairs a=oPairs o:=by unfold Heap.nsPairs;rw [g];rfl
section
variable {w:World} {h h0:Heap}
theorem acc1 (e:h.get? cStatics=some (u2_6 w.params)):h.accountedOkI (importedModules pw.main.body)=true:=by
 unfold Heap.accountedOkI
 rw [isNs_of e,nsKeys_of e,nsMap_of e]
 kernel_rfl
theorem stat1 (e0:h0.get? cStatics=some (u2_6 w.params)) (e:h.get? cStatics=some (u2_6 w.params)):staticsOk (importedModules pw.main.body) h0 h=true:=by
 unfold staticsOk
 rw [isNs_of e,nsKeys_of e,nsMap_of e,isNs_of e0,nsKeys_of e0,nsMap_of e0]
 have:oNs (u2_6 w.params)=true:=by kernel_rfl
 rw [this,Bool.true_and,Bool.true_and,List.all_eq_true]
 intro k _
 simp
theorem main1 (e:h.get? mainGlobals=some (u3_62 w.params)):h.isNs mainGlobals=true:=by
 rw [isNs_of e];kernel_rfl
theorem main0 (e:h.get? mainGlobals=some (u3_6 w.params)):h.isNs mainGlobals=true:=by
 rw [isNs_of e];kernel_rfl
theorem bound1 (e:h.get? mainGlobals=some (u3_62 w.params)):namesBound pw h=true:=by
 unfold namesBound
 rw [main1 e,nsKeys_of e]
 kernel_rfl
theorem kept1 (e0:h0.get? mainGlobals=some (u3_6 w.params)) (e:h.get? mainGlobals=some (u3_62 w.params)):laidKept h0 h=true:=by
 unfold laidKept
 rw [main1 e,main0 e0,nsMap_of e0,nsMap_of e]
 kernel_rfl
theorem blt1 (e:h.get? builtinsNs=some (u0 w.params)):h.isNs builtinsNs=true∧h.bltView=bltViewBooted:=by
 unfold Heap.bltView
 rw [isNs_of e,nsPairs_of e]
 exact ⟨by kernel_rfl,by kernel_rfl⟩
end
abbrev SetsF (w:World) (X:Nat→Sx):Prop:=IsFz pw w (fz (X 281)) (chars [0,1,2,3,4,5,6,7,8,10,11,12,13,14,15,16,17,18,19,20,21,22,23,24,25,26,27,28,29,30,31,127]) 32∧IsFz pw w (fz (X 287)) (chars [32,9]) 2∧IsFz pw w (fz (X 296)) (chars [97,98,99,100,101,102,103,104,105,106,107,108,109,110,111,112,113,114,115,116,117,118,119,120,121,122,65,66,67,68,69,70,71,72,73,74,75,76,77,78,79,80,81,82,83,84,85,86,87,88,89,90,48,49,50,51,52,53,54,55,56,57,45,95]) 64∧IsFz pw w (fz (X 300)) (chars [48,49,50,51,52,53,54,55,56,57,97,98,99,100,101,102,65,66,67,68,69,70]) 22
theorem ran (w:World):(∃s,AfterRun (opening pw) w s)∧∀s,AfterRun (opening pw) w s→∃s₀,fenceModules? pw s=some s₀∧s₀.gens=#[]∧∃X,SetsF w X∧TopRan pw w s₀ (sh1 w X s₀.os)∧(sh1 w X s₀.os).asleep:=by
 obtain ⟨X,hF,h12,h13,h14,h16,h17,h19,h20⟩:=sets w (start pO).1.os
 obtain ⟨t4,k1,k2⟩:=opGoes w (start pO).1.os X
 have e1:(⟨.nil,0,{},#[],{},1,(start pO).1.os⟩:SharedT).abs=(start pO).1:=by kernel_rfl
 rw [e1] at k2
 have A:AfterRun (opening pw) w _:=afterRun_of (po:=pO) k1 (by kernel_rfl) k2
 refine ⟨⟨_,A⟩,fun s hs=>?_⟩
 obtain rfl:=AfterImport.unique hs A
 have hf:=fnc w (start pO).1.os X
 refine ⟨_,hf,by kernel_rfl,X,⟨hF.2.2.2.2.1,hF.2.2.2.2.2.2.2.1,hF.2.2.2.2.2.2.2.2.2.2.1,hF.2.2.2.2.2.2.2.2.2.2.2⟩,?_⟩
 obtain ⟨t5,m1,m2⟩:=tpGoes w (start pO).1.os X h12 h13 h14 h16 h17 h19 h20
 have z:(sh0 w X (start pO).1.os).asleep:=Shared.asleep_of_life (fence_lifeW hf) (AfterImport.life A)
 obtain ⟨a,l⟩:=topRun_of (s:=sh0 w X (start pO).1.os) (s':=sh1 w X (start pO).1.os) z m1 (.inr (by kernel_rfl)) m2
 have c0:(sh0 w X (start pO).1.os).heap.get? cStatics=some (u2_6 w.params):=at0 w X (by kernel_rfl) (by kernel_rfl) (by kernel_rfl)
 have c1:(sh1 w X (start pO).1.os).heap.get? cStatics=some (u2_6 w.params):=at1 w X (by kernel_rfl) (by kernel_rfl) (by kernel_rfl)
 have g0:(sh0 w X (start pO).1.os).heap.get? mainGlobals=some (u3_6 w.params):=at0 w X (by kernel_rfl) (by kernel_rfl) (by kernel_rfl)
 have g1:(sh1 w X (start pO).1.os).heap.get? mainGlobals=some (u3_62 w.params):=at1 w X (by kernel_rfl) (by kernel_rfl) (by kernel_rfl)
 have b1:(sh1 w X (start pO).1.os).heap.get? builtinsNs=some (u0 w.params):=at1 w X (by kernel_rfl) (by kernel_rfl) (by kernel_rfl)
 have d4:(sh1 w X (start pO).1.os).heap.get? 4=some (u4 w.params):=at1 w X (by kernel_rfl) (by kernel_rfl) (by kernel_rfl)
 have hT:TopRan pw w (sh0 w X (start pO).1.os) (sh1 w X (start pO).1.os):=by
  refine ⟨a,l,by kernel_rfl,fun b o hb hn=>?_,Heap.accountedI_of_ok (acc1 c1),statics_of_ok (stat1 c0 c1),Pin.keysAreStrs_of (main1 g1),fun x hx=>(Pin.builtinOf_eq (blt1 b1).1 x).trans (Heap.of_bltView (blt1 b1).1 (blt1 b1).2 x hx),?_,?_,names_of_bound (bound1 g1),laid_of_kept (kept1 g0 g1)⟩
  ·have hlt:b <63:=by
    have:=Heap.lt_size hb
    rw [sh0_heap,absHeap_size] at this
    exact this
   exact old1 w X hlt (fun q=>hn (.inl q)) hb
  ·exact ⟨4,u4 w.params,(Pin.globalOf_eq (main1 g1) _).trans (by rw [nsMap_of g1];kernel_rfl),d4,rfl,rfl⟩
  ·have e:(sh1 w X (start pO).1.os).gens=#[.finished]:=by kernel_rfl
   rw [e]
   intro g hg
   rw [List.mem_toArray,List.mem_singleton] at hg
   subst hg
   trivial
 exact ⟨hT,Shared.asleep_of_life l z⟩
end
end
section
open PySem PySem.W PySem.Calls PyProof.Rows PySem.Builtin PySem.Builtin.Str
set_option maxRecDepth 100000
section
noncomputable def fdOf (P:Obj):FuncData:=match P.data with | .func f=>f | _=>default
structure FnIn (K:Kx) (G:Gl K) (n:String) (a:Addr) (u:Params→Obj):Prop where
 mg:G.mg (S_ n)=some (.ref a)
 ob:K.B.get? a=some (u K.w.params)
 cd:K.B.CodeRec (fdOf (u K.w.params)).code (fdOf (u K.w.params)).qualname
structure BltIn (K:Kx) (G:Gl K) (n:String) (v:Value):Prop where
 mg:G.mg (S_ n)=none
 mb:G.mb (S_ n)=some v
structure SetIn (K:Kx) (G:Gl K) (n:String) (S:Str→Bool):Prop where
 is:∃a k,G.mg (S_ n)=some (.ref a)∧FrozAt (strKind K.prog K.w) K.B a S k∧k <4096
structure SetE (K:Kx) (G:Gl K) (n:String) (E:Nat→Bool):Prop where
 is:∃a k S,G.mg (S_ n)=some (.ref a)∧FrozAt (strKind K.prog K.w) K.B a S k∧k <4096∧∀ch,S ⟨#[ch]⟩=E ch
noncomputable def illB (c:Nat):Bool:=(decide (c <32)&&c != 9)||c==127
noncomputable def hexB (c:Nat):Bool:=(decide (48≤c)&&decide (c≤57))||(decide (97≤c)&&decide (c≤102))||(decide (65≤c)&&decide (c≤70))
def wsB (c:Nat):Bool:=c==32||c==9
noncomputable def bareB (c:Nat):Bool:=(decide (48≤c)&&decide (c≤57))||(decide (97≤c)&&decide (c≤122))||(decide (65≤c)&&decide (c≤90))||c==45||c==95
noncomputable def escL:List (List Nat×Nat):=[([92,98],8),([92,116],9),([92,110],10),([92,102],12),([92,114],13),([92,34],34),([92,92],92)]
noncomputable def escTab (l:List Nat):Option Nat:=escL.lookup l
theorem look2:∀{T:List (List Nat×Nat)} {l:List Nat} {d:Nat},T.lookup l=some d→(T.all fun p=>p.1.length==2)=true→l.length=2
 | [],_,_,h,_=>nomatch h
 | (a,e)::T,l,d,h,k=>by
   rw [List.lookup_cons] at h
   cases q:l==a with
   | true=>exact beq_iff_eq.mp q▸beq_iff_eq.mp (Bool.and_eq_true_iff.mp k).1
   | false=>rw [q] at h;exact look2 h (Bool.and_eq_true_iff.mp k).2
structure Pk11 (K:Kx) where
 G:Gl K
 N:GlN K G
 bm:List Value
 own:Own K "ValueError" bm
 C:G.mg (S_ "TOMLDecodeError")=some (.ref K.C)
 tab:((537,533,S_ "suffixed_err.<locals>.coord_repr"):Addr×Addr×Str)∈K.tabs
 suffixed:FnIn K G "suffixed_err" 538 u538
 len:BltIn K G "len" (.builtin "len")
 until_:FnIn K G "skip_until" 425 u425
 indexE:BltIn K G "IndexError" (.type "IndexError")
 valueE:BltIn K G "ValueError" (.type "ValueError")
 illLit:SetE K G "ILLEGAL_LITERAL_STR_CHARS" illB
 illBas:SetE K G "ILLEGAL_BASIC_STR_CHARS" illB
 ws:SetE K G "TOML_WS" wsB
 bare:SetE K G "BARE_KEY_CHARS" bareB
 hex:SetE K G "HEXDIGIT_CHARS" hexB
 skip:FnIn K G "skip_chars" 418 u418
 lit:FnIn K G "parse_literal_str" 510 u510
 scalar:FnIn K G "is_unicode_scalar_value" 545 u545
 hexc:FnIn K G "parse_hex_char" 503 u503
 int_:BltIn K G "int" (.type "int")
 chr_:BltIn K G "chr" (.builtin "chr")
 proxyG:G.mg (S_ "BASIC_STR_ESCAPE_REPLACEMENTS")=some (.ref 306)
 proxyO:K.B.get? 306=some { cls:=.type "mappingproxy",data:=.fields #[.ref 305]}
 proxyD:∃f,K.B.MapOf (strKind K.prog K.w) 305 f∧∀l,match escTab l with | some d=>∃t,f ⟨l.toArray⟩=some (.str ⟨#[d]⟩ t) | none=>f ⟨l.toArray⟩=none
 esc:FnIn K G "parse_basic_str_escape" 489 u489
 escO:K.B.get? 482=some (u482 K.w.params)
 keyE:BltIn K G "KeyError" (.type "KeyError")
 bas:FnIn K G "parse_basic_str" 524 u524
 one:FnIn K G "parse_one_line_basic_str" 467 u467
 part:FnIn K G "parse_key_part" 460 u460
 key:FnIn K G "parse_key" 453 u453
 maxK:∃t,G.mg (S_ "MAX_KEY_PARTS")=some (.int 1000 t)
 val:FnIn K G "parse_value" 531 u531
 pair:FnIn K G "parse_key_value_pair" 446 u446
 quoted:FnIn K G "_law_quoted" 552 u552
 ord_:BltIn K G "ord" (.builtin "ord")
 text:FnIn K G "_law_text" 557 u557
 lkey:FnIn K G "_law_key" 564 u564
 lat:FnIn K G "_law_at" 571 u571
 piece:FnIn K G "_law_piece" 578 u578
 filled:FnIn K G "_law_filled" 583 u583
 divmod_:BltIn K G "divmod" (.builtin "divmod")
 str_:BltIn K G "str" (.type "str")
 float_:BltIn K G "float" (.type "float")
 ownS:OwnS K
noncomputable def coordR (x:Str) (p:Nat):Str:=if x.length≤p then S_ "end of document" else
 Str.empty++S_ "line "++S_ (toString ((((L x).take p).count 10:Nat)+1:Int))++S_ ", column "++S_ (toString ((tail1 10 ((L x).take p)+1:Nat):Int))
noncomputable def errText (x:Str) (p:Nat) (msg:Str):Str:=Str.empty++msg++S_ " (at "++coordR x p++S_ ")"
theorem tail1_all (c:Nat) (l:List Nat) (h:l.count c=0):tail1 c l=l.length:=by
 unfold tail1
 have key:∀r:List Nat,c∉r→r.takeWhile (· != c)=r:=by
  intro r hr
  induction r with
  | nil=>rfl
  | cons a r ih=>
    simp only [List.mem_cons,not_or] at hr
    rw [List.takeWhile_cons,if_pos (by simpa using Ne.symm hr.1),ih hr.2]
 have hc:c∉l:=List.count_eq_zero.mp h
 rw [key _ (by simpa using hc),List.length_reverse]
theorem tail1_lt (c:Nat) (l:List Nat) (h:l.count c≠0):tail1 c l <l.length:=by
 have key:∀r:List Nat,c∈r→(r.takeWhile (· != c)).length <r.length:=by
  intro r hr
  induction r with
  | nil=>simp at hr
  | cons a r ih=>
    rw [List.takeWhile_cons]
    by_cases e:a=c
    ·simp [e]
    ·rw [if_pos (by simpa using e)]
     have:=ih ((List.mem_cons.mp hr).resolve_left (Ne.symm e))
     simp only [List.length_cons];refine' Nat.succ_lt_succ ‹_›
 have hc:c∈l:=List.count_pos_iff.mp (Nat.pos_of_ne_zero h)
 unfold tail1
 have:=key l.reverse (by simpa using hc)
 simpa using this
theorem S_len (x:String):(S_ x).length=x.length:=PySem.ofString_length x
theorem small_text {i:Int} (h:i.natAbs <10 ^ 20):(S_ (toString i)).length≤21:=by
 rw [S_len];exact int_text_length_le10 (by decide) h
theorem log2_small {i:Int} (h:i.natAbs <10 ^ 20):i.natAbs.log2 <1920:=by
 by_cases h0:i.natAbs=0
 ·rw [h0];decide
 ·have:i.natAbs <2 ^ 70:=Nat.lt_trans h (by decide)
  have:=(Nat.log2_lt h0).mpr this
  lia
theorem coordR_len (x:Str) (p:Nat) (h:x.length≤1000000):(coordR x p).length≤100:=by
 unfold coordR
 split
 ·rw [S_len];decide
 ·rename_i hp
  have h1:((L x).take p).count 10≤x.length:=by
   refine Nat.le_trans List.count_le_length ?_
   simp [List.length_take,L_length];lia
  have h2:tail1 10 ((L x).take p)≤x.length:=by
   unfold tail1
   refine Nat.le_trans (List.takeWhile_sublist _).length_le ?_
   simp [L_length];lia
  have e1:=small_text (i:=((((L x).take p).count 10:Nat)+1:Int)) (by refine' qA2 ‹_› ‹_›)
  have e2:=small_text (i:=((tail1 10 ((L x).take p)+1:Nat):Int)) (by refine' qA1 ‹_› ‹_›)
  simp only [Str.length_append]
  have e3:(S_ "line ").length=5:=by rw [S_len];rfl
  have e4:(S_ ", column ").length=9:=by rw [S_len];rfl
  have e5:Str.empty.length=0:=rfl
  with_reducible (apply qN;symm)
section
variable {K:Kx} {c:Cx} {st:St} {Q:V→St→Prop} {X:Xc→St→Prop} {F:Xc→St→Prop}
noncomputable def coordS:Stmt:=(fdB (bod.getD 59 dS)).getD 0 dS
noncomputable def coordFd (pm:Value):FuncData:=fnFd (S_ "coord_repr") (S_ "suffixed_err.<locals>.coord_repr") (fdA coordS) (fdB coordS) (fdS coordS) pm
theorem coord_ok (P:Pk11 K) {src:Str} {p:Nat} {pm:Value} (hs:src.length≤1000000) (hroom:c.A.depth+1 <recursionLimit) (q:Q (.str (coordR src p)) st):
 CF K c (.fn (coordFd pm)) [.str src,.int p] [] [] st Q X:=by
 refine CR.val<|CR_fn (body:=fdB coordS) P.G rfl (by refine' qL0 ‹_›) (binds:=[(S_ "src",.str src),(S_ "pos",.int p)]) ?_ (by kernel_rfl!) (by kernel_rfl!) rfl rfl ?_
 ·intro s vs ks cd _ h1 h2
  obtain ⟨v,u,rfl,i1,i2⟩:=isl2 h1
  obtain rfl:=isl0 h2
  exact ⟨[(S_ "src",v),(S_ "pos",u)],.of_eq (by kernel_rfl!),rfl,.cons i1 (.cons i2 .nil)⟩
 ·intro a cd L'
  refine EB_cons (ES_if (ET_cmp (EV_loc (EV_callB (EV_blt P.G P.len.mg P.len.mb (.blt _) ⟨_,rfl,EL_cons (EV_loc (EL_nil (CF_len ?_ (Op_ge_int ⟨_,rfl,?_⟩))))⟩)))))
  ·refine' qM ‹_› (by nofun)
  unfold coordR at q
  by_cases hp:src.length≤p
  ·rw [show decide ((p:Int)≥src.length)=true from by simp;assumption]
   rw [if_pos hp] at q
   exact EB_cons (ES_return (EV_str q))
  ·rw [show decide ((p:Int)≥src.length)=false from by simp;refine' Nat.lt_of_not_le ‹_›]
   rw [if_neg hp] at q
   refine EB_nil (EB_cons (ES_assign (EV_bin (EV_meth PySem.F.plainAttrs_str PySem.F.slot_str_count PySem.F.type_str_count (EV_loc ⟨.str,EL_cons (EV_str (EL_cons (EV_int (EL_cons (EV_loc (EL_nil (CF_count (n:=10) ?_ (EV_int (Op_add_int ?_)))))))))⟩)))))
   ·lia
   refine EB_cons (ES_if (ET_cmp (EV_loc (EV_int (Op_eq_int ⟨_,rfl,?_⟩)))))
   have hc1:((L src).take p).count 10≤src.length:=by
    refine Nat.le_trans List.count_le_length ?_
    simp [List.length_take,L_length];lia
   have hc2:tail1 10 ((L src).take p)≤src.length:=by
    unfold tail1
    refine Nat.le_trans (List.takeWhile_sublist _).length_le ?_
    simp [L_length];lia
   have tl:((L src).take p).length=p:=by rw [List.length_take,L_length];lia
   have hl:sizeLine=16777216:=sizeLine_eq
   have h0:Str.empty.length=0:=rfl
   have e1:(Str.ofString (toString ((((L src).take p).count 10:Nat)+1:Int))).length≤21:=small_text (by refine' qA2 ‹_› ‹_›)
   have e2:(Str.ofString (toString ((tail1 10 ((L src).take p)+1:Nat):Int))).length≤21:=small_text (by refine' qA1 ‹_› ‹_›)
   have e3:(Str.ofString "line ").length=5:=by rw [PySem.ofString_length];rfl
   have e4:(Str.ofString ", column ").length=9:=by rw [PySem.ofString_length];rfl
   by_cases hz:((L src).take p).count 10=0
   ·rw [show ((((((L src).take p).count 10:Nat):Int)+1)==1)=true from beq_iff_eq.mpr (by lia)]
    have ht:=tail1_all 10 _ hz
    rw [tl] at ht
    refine EB_cons (ES_assign (EV_bin (EV_loc (EV_int (Op_add_int (EB_nil ?_))))))
    rw [show ((p:Int)+1)=((tail1 10 ((L src).take p)+1:Nat):Int) from by rw [ht];lia]
    refine EB_cons (ES_return (EV_joined (EJ_cons (EV_str ⟨_,rfl,?_,EJ_cons (EV_fmt (EV_loc (Op_fmt_int (log2_small (qA2 hc1 hs)) ⟨_,rfl,?_,EJ_cons (EV_str ⟨_,rfl,?_,EJ_cons (EV_fmt (EV_loc (Op_fmt_int (log2_small (qA1 hc2 hs)) ⟨_,rfl,?_,EJ_nil ?_ q⟩)))⟩)⟩)))⟩))))
    all_goals first | (simp only [Str.length_append];with_reducible (apply qS;symm)) | with_reducible (apply qS;symm)
   ·rw [show ((((((L src).take p).count 10:Nat):Int)+1)==1)=false from beq_eq_false_iff_ne.mpr (by lia)]
    have ht:=tail1_lt 10 _ hz
    rw [tl] at ht
    refine EB_cons (ES_assign (EV_bin (EV_loc (EV_meth PySem.F.plainAttrs_str PySem.F.slot_str_rindex PySem.F.type_str_rindex (EV_loc ⟨.str,EL_cons (EV_str (EL_cons (EV_int (EL_cons (EV_loc (EL_nil (CF_rindex (n:=10) ?_ hz (Op_sub_int (EB_nil ?_)))))))))⟩)))))
    ·lia
    rw [show ((p:Int) -((p -1 -tail1 10 ((L src).take p):Nat):Int))=((tail1 10 ((L src).take p)+1:Nat):Int) from by lia]
    refine EB_cons (ES_return (EV_joined (EJ_cons (EV_str ⟨_,rfl,?_,EJ_cons (EV_fmt (EV_loc (Op_fmt_int (log2_small (qA2 hc1 hs)) ⟨_,rfl,?_,EJ_cons (EV_str ⟨_,rfl,?_,EJ_cons (EV_fmt (EV_loc (Op_fmt_int (log2_small (qA1 hc2 hs)) ⟨_,rfl,?_,EJ_nil ?_ q⟩)))⟩)⟩)))⟩))))
    all_goals first | (simp only [Str.length_append];with_reducible (apply qS;symm)) | with_reducible (apply qS;symm)
theorem suffixed_err_ok (P:Pk11 K) {src msg:Str} {p:Nat} (hs:src.length≤1000000) (hm:msg.length≤1000) (hroom:c.A.depth+5 <recursionLimit)
 (q:F { cls:=.ref K.C,args:=some [.str (errText src p msg)]} st):CX K c (.ref 538) [.str src,.int p,.str msg] [] [] st F X:=by
 refine CR_def (fd:=fdOf (u538 K.w.params)) (body:=fdB (bod.getD 59 dS)) (binds:=[(S_ "src",.str src),(S_ "pos",.int p),(S_ "msg",.str msg)]) P.G P.suffixed.ob rfl P.suffixed.cd rfl (by refine' qL0 ‹_›) ?_ (by kernel_rfl!) (by kernel_rfl!) rfl rfl ?_
 ·intro s vs ks _ h1 h2
  obtain ⟨v,u,w,rfl,i1,i2,i3⟩:=isl3 h1
  obtain rfl:=isl0 h2
  exact ⟨[(S_ "src",v),(S_ "pos",u),(S_ "msg",w)],.of_eq (by kernel_rfl!),rfl,.cons i1 (.cons i2 (.cons i3 .nil))⟩
 ·intro L'
  refine EB_cons (ES_def P.G P.N P.tab ?_)
  have hl:sizeLine=16777216:=sizeLine_eq
  have h0:Str.empty.length=0:=rfl
  have h1:(Str.ofString " (at ").length=5:=by rw [PySem.ofString_length];rfl
  have h2:(Str.ofString ")").length=1:=by rw [PySem.ofString_length];rfl
  have h3:=coordR_len src p hs
  refine EB_cons (ES_returnX (EX_new P.own (EV_glob P.G P.C (.ref _) ⟨rfl,EL_cons (EV_joined (EJ_cons (EV_fmt (EV_loc (Op_fmt_str ⟨_,rfl,?_,?_⟩)))))⟩)))
  ·simp only [Str.length_append];with_reducible (apply qS;symm)
  refine EJ_cons (EV_str ⟨_,rfl,?_,EJ_cons (EV_fmt (EV_callFn (EV_loc ⟨_,rfl,EL_cons (EV_loc (EL_cons (EV_loc (EL_nil (EK_nil ?_)))))⟩)))⟩)
  ·simp only [Str.length_append];with_reducible (apply qS;symm)
  refine coord_ok P hs (by show c.A.depth+1+1 <_;refine' qL2 ‹_› (by nofun)) (Op_fmt_str ⟨_,rfl,?_,EJ_cons (EV_str ⟨_,rfl,?_,EJ_nil ?_ (EL_nil ⟨?_,q⟩)⟩)⟩)
  all_goals first | (simp only [Str.length_append];with_reducible (apply qS;symm)) | (simp only [List.length_cons,List.length_nil];with_reducible (apply qS;symm))
end
end
end
section
open PySem PySem.Builtin PySem.Builtin.Str PySem.StrLaws
theorem nn0 (a:Nat):((a:Int) <0)=False:=eq_false (Int.not_lt.mpr (Int.natCast_nonneg a))
theorem clI (a n:Nat):max (0:Int) (min (a:Int) (n:Int))=((min a n:Nat):Int):=by
 rcases Nat.le_total a n with h | h
 ·rw [Nat.min_eq_left h,Int.min_eq_left (Int.ofNat_le.mpr h),Int.max_eq_right (Int.natCast_nonneg _)]
 ·rw [Nat.min_eq_right h,Int.min_eq_right (Int.ofNat_le.mpr h),Int.max_eq_right (Int.natCast_nonneg _)]
theorem minI (a n:Nat):min (min a n) n=min a n:=Nat.min_eq_left (Nat.min_le_right ..)
theorem idx_clamp (a b n:Nat):strSliceIndices (some (a:Int)) (some (b:Int)) 1 n=strSliceIndices (some ((min a n:Nat):Int)) (some ((min b n:Nat):Int)) 1 n:=by
 simp only [strSliceIndices,sliceRange,nn0,if_false,show ((1:Int)>0)=True from by simp,if_true,clI,minI]
theorem idx_empty {a b n:Nat} (h:¬min a n≤min b n):strSliceIndices (some ((min a n:Nat):Int)) (some ((min b n:Nat):Int)) 1 n=[]:=by
 have e3:¬(((min a n:Nat):Int) <((min b n:Nat):Int)):=fun q=>h (Nat.le_of_lt (Int.ofNat_lt.mp q))
 simp [strSliceIndices,sliceRange,nn0,clI,minI,e3]
theorem take_clamp (l:List Nat) (a b:Nat):(l.drop (min a l.length)).take (min b l.length -min a l.length)=(l.drop a).take (b -a):=by
 by_cases ha:a≤l.length
 ·rw [Nat.min_eq_left ha,List.take_eq_take_min (i:=b -a),List.length_drop,Nat.sub_min_sub_right]
 ·rw [List.drop_eq_nil_of_le (Nat.le_of_not_le ha),Nat.min_eq_right (Nat.le_of_not_le ha),List.drop_length,List.take_nil,List.take_nil]
theorem sub_no {a b n:Nat} (h:¬min a n≤min b n):b -a=0:=Nat.sub_eq_zero_of_le (Nat.le_of_not_le fun q=>h (Nat.le_min.mpr ⟨Nat.le_trans (Nat.min_le_left ..) q,Nat.min_le_right ..⟩))
theorem idx_list (x:Str) (a b:Nat):(strSliceIndices (some (a:Int)) (some (b:Int)) 1 x.length).filterMap (x.cps[·]?)=((L x).drop a).take (b -a):=by
 rw [idx_clamp]
 by_cases h:min a x.length≤min b x.length
 ·rw [sliced_plain x h (Nat.min_le_right ..)]
  have h:=take_clamp (L x) a b
  rw [L_length] at h
  exact h
 ·rw [idx_empty h,List.filterMap_nil,sub_no h,List.take_zero]
theorem L_slice (x:Str) (a b:Nat):L (Txt.slice x (some (a:Int)) (some (b:Int)))=((L x).drop a).take (b -a):=by
 unfold Txt.slice
 split
 ·rename_i h
  have h':(strSliceIndices (some (a:Int)) (some (b:Int)) 1 x.length).length=x.length:=by simpa using h
  rw [idx_clamp] at h'
  show L x=_
  have nil:x.length=0→L x=((L x).drop a).take (b -a):=fun e=>by
   rw [show L x=[] from List.eq_nil_of_length_eq_zero (by rw [L_length];exact e),List.drop_nil,List.take_nil]
  by_cases q:min a x.length≤min b x.length
  ·rw [strSliceIndices_plain q (Nat.min_le_right ..),List.length_map,List.length_range] at h'
   by_cases n0:x.length=0
   ·exact nil n0
   ·rw [←take_clamp,L_length]
    have h1:=Nat.min_le_right b x.length
    generalize min a x.length=u at *
    generalize min b x.length=v at *
    rw [show u=0 by lia,show v=x.length by lia,List.drop_zero,List.take_of_length_le (by rw [L_length];exact Nat.le_refl _)]
  ·rw [idx_empty q] at h'
   exact nil h'.symm
 ·show (List.toArray _).toList=_
  rw [List.toList_toArray,idx_list]
noncomputable def fstP (p:Nat→Bool):List Nat→Option Nat
 | []=>none
 | a::r=>if p a then some 0 else (fstP p r).map (·+1)
theorem fstP_none {p:Nat→Bool}:∀{l:List Nat},fstP p l=none↔l.all (fun c=>!p c)=true
 | []=>by simp [fstP]
 | a::r=>by
   rw [fstP]
   cases h:p a with
   | true=>simp [h]
   | false=>
     have:=fstP_none (p:=p) (l:=r)
     simp only [Bool.false_eq_true,if_false,Option.map_eq_none_iff,List.all_cons,h,Bool.not_false,Bool.true_and]
     exact this
theorem fstP_some {p:Nat→Bool}:∀{l:List Nat} {i:Nat},fstP p l=some i→∃c,l[i]?=some c∧p c=true∧∀j,j <i→∃d,l[j]?=some d∧p d=false
 | [],i,h=>by simp [fstP] at h
 | a::r,i,h=>by
   rw [fstP] at h
   cases q:p a with
   | true=>
     rw [q] at h
     simp only [if_true,Option.some.injEq] at h
     subst h
     exact ⟨a,rfl,q,fun j hj=>absurd hj (Nat.not_lt_zero _)⟩
   | false=>
     rw [q] at h
     simp only [Bool.false_eq_true,if_false,Option.map_eq_some_iff] at h
     obtain ⟨k,hk,rfl⟩:=h
     obtain ⟨c,h1,h2,h3⟩:=fstP_some hk
     refine ⟨c,h1,h2,fun j hj=>?_⟩
     cases j with
     | zero=>exact ⟨a,rfl,q⟩
     | succ j=>exact h3 j (by refine' Nat.lt_of_succ_lt_succ ‹_›)
end
section
open PySem PySem.W PySem.Calls PyProof.Rows PySem.Builtin PySem.Builtin.Str
set_option maxRecDepth 100000
section
noncomputable def whB:Stmt→List Stmt
 | .While _ b _ _=>b
 | _=>[]
noncomputable def tryB:Stmt→List Stmt
 | .Try b ..=>b
 | _=>[]
section
variable {K:Kx} {c:Cx} {st:St} {Q:V→St→Prop} {X:Xc→St→Prop} {R:Fl→St→Prop}
theorem sgn_is {s:String} {n ch:Nat} (h:(Str.ofString s).cps.toList=[n]) (e:ch=n):Truthy (.bool ((⟨#[ch]⟩:Str).cps.toList==(Str.ofString s).cps.toList))=some true:=by
 rw [h,e];exact congrArg some (beq_self_eq_true [n])
theorem sgn_not {s:String} {n ch:Nat} (h:(Str.ofString s).cps.toList=[n]) (e:¬ch=n):Truthy (.bool ((⟨#[ch]⟩:Str).cps.toList==(Str.ofString s).cps.toList))=some false:=by
 rw [h];exact congrArg some (beq_eq_false_iff_ne.mpr fun x=>e (List.cons.inj x).1)
theorem sgn_nis {s:String} {n ch:Nat} (h:(Str.ofString s).cps.toList=[n]) (e:ch=n):Truthy (.bool ((⟨#[ch]⟩:Str).cps.toList != (Str.ofString s).cps.toList))=some false:=by
 rw [h,e];exact congrArg some (bne_self_eq_false [n])
theorem sgn_nnot {s:String} {n ch:Nat} (h:(Str.ofString s).cps.toList=[n]) (e:¬ch=n):Truthy (.bool ((⟨#[ch]⟩:Str).cps.toList != (Str.ofString s).cps.toList))=some true:=by
 rw [h];exact congrArg some (bne_iff_ne.mpr fun x=>e (List.cons.inj x).1)
theorem le0 {st':St} {sto:List (Addr×List V)} (h:sto.Sublist st'.sto):St.Le ⟨[],sto⟩ st':=⟨h,fun _ _ e=>by simp at e⟩
def AllLook (loc:List (Str×V)):List (Str×V)→Prop
 | []=>True
 | p::r=>loc.lookup p.1=some p.2∧AllLook loc r
theorem AllLook.ok {loc:List (Str×V)}:∀{l:List (Str×V)},AllLook loc l→∀x v,l.lookup x=some v→loc.lookup x=some v
 | [],_,_,_,e=>by simp at e
 | (y,a)::l,⟨h1,h2⟩,x,v,e=>by
   rw [List.lookup_cons] at e
   cases q:(x==y) with
   | true=>rw [q] at e;cases e;rw [beq_iff_eq.mp q];exact h1
   | false=>rw [q] at e;exact h2.ok x v e
theorem leA {st st':St} (h:st.sto.Sublist st'.sto) (k:AllLook st'.loc st.loc):St.Le st st':=⟨h,k.ok⟩
end
abbrev Out (α:Type):=Except (Nat×Str) α
noncomputable def badIn (E:Nat→Bool) (m:List Nat):Out Nat:=match fstP E m with
 | some i=>.error (i,Str.empty++S_ "Found invalid character "++reprText ⟨#[m.getD i 0]⟩)
 | none=>.ok m.length
noncomputable def skipU (E:Nat→Bool) (n:Nat) (eof:Bool) (l:List Nat):Out Nat:=match fst1 n l with
 | some k=>badIn E (l.take k)
 | none=>if eof then .error (l.length,Str.empty++S_ "Expected "++reprText ⟨#[n]⟩) else badIn E l
def Raises (K:Kx) (x:Str) (p:Nat) (msg:Str) (X:Xc→St→Prop) (st:St):Prop:=∀b,X { cls:=.ref K.C,args:=some [.str (errText x p msg)],bare:=b} st
def Ends {α:Type} (K:Kx) (x:Str) (p:Nat) (o:Out α) (Q:α→Prop) (X:Xc→St→Prop) (st:St):Prop:=match o with
 | .ok a=>Q a
 | .error (i,m)=>Raises K x (p+i) m X st
theorem Ends.imp {α:Type} {K:Kx} {x:Str} {p:Nat} {o:Out α} {Q Q':α→Prop} {X X':Xc→St→Prop} {st st':St} (h:Ends K x p o Q X st) (hQ:∀a,Q a→Q' a) (hX:∀e,X e st→X' e st'):Ends K x p o Q' X' st':=by
 cases o with
 | ok a=>exact hQ a h
 | error e=>exact fun b=>hX _ (h b)
theorem fst1_lt {n:Nat}:∀{l:List Nat} {i:Nat},fst1 n l=some i→i <l.length
 | [],i,h=>by simp [fst1] at h
 | a::r,i,h=>by
   rw [fst1] at h
   split at h
   ·cases h;simp
   ·simp only [Option.map_eq_some_iff] at h
    obtain ⟨k,hk,rfl⟩:=h
    have:=fst1_lt hk
    simp only [List.length_cons];refine' Nat.succ_lt_succ ‹_›
theorem repr1_len {n:Nat} (h:n <16 ^ 8):(reprText ⟨#[n]⟩).length≤12:=by
 have:=StrLaws.reprText_len ⟨#[n]⟩ (by intro c hc;simp at hc;subst hc;exact h)
 exact this
section
variable {K:Kx} {c:Cx} {st:St} {Q:V→St→Prop} {X:Xc→St→Prop} {F:Xc→St→Prop}
theorem signAt_nat (x:Str) (k:Nat):signAt x (k:Int)=((L x)[k]?).map fun d=>⟨#[d]⟩:=by
 have h0:¬((k:Int) <0):=by lia
 unfold signAt seqIndex?
 rw [if_neg h0]
 by_cases h:k <x.length
 ·rw [if_pos (by simp;assumption)]
  simp [L]
 ·have h2:(L x)[k]?=none:=by rw [List.getElem?_eq_none_iff,L_length];refine' Nat.le_of_not_lt ‹_›
  rw [h2,if_neg (by simp;refine' Nat.le_of_not_lt ‹_›)]
  rfl
theorem drop_ch {x:Str} {k ch:Nat} (h:(L x)[k]?=some ch):k <x.length∧(L x).drop k=ch::(L x).drop (k+1):=by
 have hlt:k <(L x).length:=(List.getElem?_eq_some_iff.mp h).1
 refine ⟨L_length x▸hlt,?_⟩
 rw [List.drop_eq_getElem_cons hlt,(List.getElem?_eq_some_iff.mp h).2]
inductive UIv (src:Str) (p:Nat) (a:Addr) (i:Nat) (st:St) (n:Nat) (st':St):Prop
 | mk (j:Nat) (h:j≤i) (hn:n=i -j) (le:St.Le ⟨[(S_ "src",.str src),(S_ "pos",.int (p+j:Nat)),(S_ "error_on",.ref a)],st.sto⟩ st')
theorem skip_until_tail (P:Pk11 K) {R:Fl→St→Prop} {src:Str} {p m k:Nat} {a Lf:Addr} {S:Str→Bool} {E:Nat→Bool} (hs:src.length≤1000000) (hp:p+m≤src.length) (hS:FrozAt (strKind K.prog K.w) K.B a S k) (hk:k <4096) (hE:∀ch,S ⟨#[ch]⟩=E ch) (hE2:∀ch,E ch=true→ch <16 ^ 8)
 (hroom:c.A.depth+8 <recursionLimit) (hh:c.A.handled=none)
 (l1:st.loc.lookup (S_ "src")=some (.str src)) (l2:st.loc.lookup (S_ "pos")=some (.int p)) (l3:st.loc.lookup (S_ "error_on")=some (.ref a)) (l4:st.loc.lookup (S_ "new_pos")=some (.int (p+m:Nat)))
 (q:∀st',st'.sto=st.sto→Ends K src p (badIn E (((L src).drop p).take m)) (fun i=>R (.ret (.int (p+i:Nat))) st') X st'):
 EB K (cxIn c (fdOf (u425 K.w.params)) 425 Lf) ((fdB (bod.getD 43 dS)).drop 1) st R X:=by
 have hh':(cxIn c (fdOf (u425 K.w.params)) 425 Lf).A.handled=none:=hh
 have hl:((L src).drop p).take m=((L src).drop p).take (p+m -p):=by rw [show p+m -p=m by refine' Nat.add_sub_cancel_left ..]
 refine EB_cons (ES_if (ET_not (ET_val (EV_meth plainAttrs_froz slot_froz_isdisjoint type_froz_isdisjoint (EV_loc ⟨.froz hS,EL_cons (EV_slice (EV_loc (EP_some (EV_loc (EP_some (EV_loc ⟨_,_,_,rfl,rfl,rfl,EL_nil (CF_isdisjoint hS hk hh' ⟨_,rfl,?_⟩)⟩ l4)) l2)) l1))⟩ l3)))))
 rw [L_slice,show p+m -p=m by refine' Nat.add_sub_cancel_left ..]
 simp only [hE]
 unfold badIn at q
 cases hf:fstP E (((L src).drop p).take m) with
 | none=>
   rw [hf] at q
   rw [fstP_none.mp hf]
   refine EB_nil (EB_cons (ES_return (EV_loc ?_ l4)))
   have:=q st rfl
   simp only [Ends] at this
   rwa [List.length_take,List.length_drop,L_length,Nat.min_eq_left (by refine' Nat.le_sub_of_add_le' ‹_›)] at this
 | some i=>
   rw [hf] at q
   have hne:(((L src).drop p).take m).all (fun ch=>!E ch)=false:=by
    cases hx:(((L src).drop p).take m).all (fun ch=>!E ch) with
    | false=>rfl
    | true=>rw [fstP_none.mpr hx] at hf;cases hf
   rw [hne]
   obtain ⟨d,h1,h2,h3⟩:=fstP_some hf
   have sign:∀j e,(((L src).drop p).take m)[j]?=some e→signAt src ((p+j:Nat):Int)=some ⟨#[e]⟩∧p+j <src.length:=by
    intro j e he
    rw [signAt_nat]
    rw [List.getElem?_take] at he
    split at he
    ·rw [List.getElem?_drop] at he
     rw [he];exact ⟨rfl,by have:=(List.getElem?_eq_some_iff.mp he).1;rwa [L_length] at this⟩
    ·cases he
   have hsl:sizeLine=16777216:=sizeLine_eq
   refine EB_cons (ES_while (UIv src p a i st) ?_ i ⟨0,Nat.zero_le _,rfl,leA (List.Sublist.refl _) ⟨l1,l2,l3,trivial⟩⟩)
   rintro nn st' ⟨j,hji,hn,le⟩
   refine TB.weak le (ET_cmp ?_)
   clear le l1 l2 l3 l4
   by_cases hj:j <i
   ·obtain ⟨e,he,hee⟩:=h3 j hj
    obtain ⟨s1,s2⟩:=sign j e he
    refine EV_sub (EV_loc (EV_loc (Op_item_str hh' ?_ ?_)))
    ·simp;refine' q64 ‹_≤1000000› ‹_›
    rw [s1]
    refine EV_loc (Op_notin_set hS hk ⟨true,congrArg some (by rw [hE,hee];rfl),?_⟩)
    exact EB_cons (ES_aug (EV_int (Op_iadd_int (EB_nil ⟨i -(j+1),by refine' qs5 ‹_› ‹_›,j+1,hj,rfl,leA (List.Sublist.refl _) ⟨rfl,rfl,rfl,trivial⟩⟩))) rfl)
   ·cases Nat.le_antisymm hji (Nat.le_of_not_lt hj)
    obtain ⟨s1,s2⟩:=sign i d h1
    refine EV_sub (EV_loc (EV_loc (Op_item_str hh' ?_ ?_)))
    ·simp;refine' q64 ‹_≤1000000› ‹_›
    rw [s1]
    refine EV_loc (Op_notin_set hS hk ⟨false,congrArg some (by rw [hE,h2];rfl),?_⟩)
    refine EB_nil ?_
    have hd:((((L src).drop p).take m).getD i 0)=d:=by rw [List.getD_eq_getElem?_getD,h1];rfl
    have hdl:=repr1_len (hE2 d h2)
    have h0:Str.empty.length=0:=rfl
    have e3:(Str.ofString "Found invalid character ").length=24:=by rw [PySem.ofString_length];rfl
    have q:=q ⟨[(S_ "src",.str src),(S_ "pos",.int (p+i:Nat)),(S_ "error_on",.ref a)],st.sto⟩ rfl
    simp only [Ends,hd] at q
    clear h1 h2 h3 hd sign hE hE2
    refine EB_cons (ES_raise P.own hh' (EX_call (EV_glob P.G P.suffixed.mg (.ref _) ⟨538,_,_,rfl,P.suffixed.ob,rfl,EL_cons (EV_loc (EL_cons (EV_loc (EL_cons (EV_joined (EJ_cons (EV_str ⟨_,rfl,?_,EJ_cons (EV_fmtr (EV_sub (EV_loc (EV_loc (Op_item_str hh' ?_ ?_)))))⟩)))))))⟩)))
    ·simp only [Str.length_append];with_reducible (apply qS;symm)
    ·simp;refine' q64 ‹_≤1000000› ‹_›
    rw [s1]
    refine ⟨_,rfl,?_,⟨_,rfl,?_,EJ_nil ?_ (EL_nil (EK_nil (suffixed_err_ok P hs ?_ (by show c.A.depth+1+5 <_;refine' qL2 ‹_› (by nofun)) ⟨rfl,q true⟩)))⟩⟩
    ·refine' qN ‹_› (by nofun)
    ·simp only [Str.length_append];with_reducible (apply qS;symm)
    ·simp only [Str.length_append];with_reducible (apply qS;symm)
    ·simp only [Str.length_append];with_reducible (apply qN;symm)
theorem skip_until_ok (P:Pk11 K) {src:Str} {p n k:Nat} {a:Addr} {S:Str→Bool} {E:Nat→Bool} {eof:Bool} (hs:src.length≤1000000) (hp:p≤src.length) (hn:n <16 ^ 8) (hS:FrozAt (strKind K.prog K.w) K.B a S k) (hk:k <4096) (hE:∀ch,S ⟨#[ch]⟩=E ch) (hE2:∀ch,E ch=true→ch <16 ^ 8)
 (hroom:c.A.depth+8 <recursionLimit) (hh:c.A.handled=none) (q:Ends K src p (skipU E n eof ((L src).drop p)) (fun i=>Q (.int (p+i:Nat)) st) X st):
 CF K c (.ref 425) [.str src,.int p,.str ⟨#[n]⟩] [S_ "error_on",S_ "error_on_eof"] [.ref a,.bool eof] st Q X:=by
 refine CR.val<|CR_def (fd:=fdOf (u425 K.w.params)) (body:=fdB (bod.getD 43 dS)) (binds:=[(S_ "src",.str src),(S_ "pos",.int p),(S_ "expect",.str ⟨#[n]⟩),(S_ "error_on",.ref a),(S_ "error_on_eof",.bool eof)]) P.G P.until_.ob rfl P.until_.cd rfl (by refine' qL0 ‹_›) ?_ (by kernel_rfl!) (by kernel_rfl!) rfl rfl ?_
 ·intro s vs ks _ h1 h2
  obtain ⟨v,u,w,rfl,i1,i2,i3⟩:=isl3 h1
  obtain ⟨v',u',rfl,i4,i5⟩:=isl2 h2
  exact ⟨[(S_ "src",v),(S_ "pos",u),(S_ "expect",w),(S_ "error_on",v'),(S_ "error_on_eof",u')],.of_eq (by kernel_rfl!),rfl,.cons i1 (.cons i2 (.cons i3 (.cons i4 (.cons i5 .nil))))⟩
 ·intro L'
  have hh':(cxIn c (fdOf (u425 K.w.params)) 425 L').A.handled=none:=hh
  refine EB_cons (ES_try (G:=P.G) ?_ P.valueE.mg P.valueE.mb (by rw [isSubtype_type];kernel_rfl) (by kernel_rfl))
  refine EB_cons (ES_assign (EV_meth PySem.F.plainAttrs_str PySem.F.slot_str_index PySem.F.type_str_index (EV_loc ⟨.str,EL_cons (EV_loc (EL_cons (EV_loc (EL_nil (CF_index hp hh' ?_)))))⟩)))
  unfold skipU at q
  cases hf:fst1 n ((L src).drop p) with
  | some i=>
    rw [hf] at q
    refine EB_nil (EB_nil ?_)
    refine skip_until_tail P (m:=i) hs ?_ hS hk hE hE2 hroom hh rfl rfl rfl rfl ?_
    ·have:=fst1_lt hf
     rw [List.length_drop,L_length] at this;refine' qs8 ‹_› ‹_›
    ·intro st' e
     have e':(⟨st.loc,st'.sto⟩:St)=st:=by rw [e];rfl
     refine q.imp (fun i h=>?_) fun x h=>?_
     ·show Q _ (⟨st.loc,st'.sto⟩:St);rw [e'];exact h
     ·show X _ (⟨st.loc,st'.sto⟩:St);rw [e'];exact h
  | none=>
    rw [hf] at q
    refine ⟨"ValueError",true,rfl,by rw [isSubtype_type];kernel_rfl,?_⟩
    intro e
    refine EB_cons (ES_assign (EV_callB (EV_blt P.G P.len.mg P.len.mb (.blt _) ⟨_,rfl,EL_cons (EV_loc (EL_nil (CF_len ?_ ?_)))⟩)))
    ·refine' qM ‹_› (by nofun)
    refine EB_cons (ES_if (ET_val (EV_loc ⟨eof,rfl,?_⟩)))
    have hsl:sizeLine=16777216:=sizeLine_eq
    have h0:Str.empty.length=0:=rfl
    have e3:(Str.ofString "Expected ").length=9:=by rw [PySem.ofString_length];rfl
    have hdl:=repr1_len hn
    cases eof with
    | true=>
      simp only [if_true] at q ⊢
      refine EB_cons (ES_raiseNone P.own (.inr ⟨e,rfl,rfl⟩) (EX_call (EV_glob P.G P.suffixed.mg (.ref _) ⟨538,_,_,rfl,P.suffixed.ob,rfl,EL_cons (EV_loc (EL_cons (EV_loc (EL_cons (EV_joined (EJ_cons (EV_str ⟨_,rfl,?_,EJ_cons (EV_fmtr (EV_loc ⟨_,rfl,?_,⟨_,rfl,?_,EJ_nil ?_ (EL_nil (EK_nil (suffixed_err_ok P hs ?_ (by show c.A.depth+1+5 <_;refine' qL2 ‹_› (by nofun)) ⟨rfl,?_⟩)))⟩⟩))⟩)))))))⟩)))
      ·simp only [Str.length_append];with_reducible (apply qS;symm)
      ·refine' qN ‹_› (by nofun)
      ·simp only [Str.length_append];with_reducible (apply qS;symm)
      ·simp only [Str.length_append];with_reducible (apply qS;symm)
      ·simp only [Str.length_append];with_reducible (apply qN;symm)
      ·have:=q false
       rw [List.length_drop,L_length,show p+(src.length -p)=src.length by refine' Nat.add_sub_of_le ‹_›] at this
       exact this
    | false=>
      simp only [Bool.false_eq_true,if_false] at q ⊢
      refine EB_nil (EB_nil ?_)
      refine skip_until_tail P (m:=src.length -p) hs (by refine' Nat.le_of_eq (Nat.add_sub_of_le ‹_›)) hS hk hE hE2 hroom hh rfl rfl rfl (by rw [show p+(src.length -p)=src.length by refine' Nat.add_sub_of_le ‹_›];rfl) ?_
      intro st' e
      have e':(⟨st.loc,st'.sto⟩:St)=st:=by rw [e];rfl
      rw [List.take_of_length_le (by rw [List.length_drop,L_length];exact Nat.le_refl _)]
      refine q.imp (fun i h=>?_) fun x h=>?_
      ·show Q _ (⟨st.loc,st'.sto⟩:St);rw [e'];exact h
      ·show X _ (⟨st.loc,st'.sto⟩:St);rw [e'];exact h
end
end
section
theorem slice_eq (x:Str) (a b:Nat):Txt.slice x (some (a:Int)) (some (b:Int))=⟨(((L x).drop a).take (b -a)).toArray⟩:=by
 have h:=L_slice x a b
 have e:Txt.slice x (some (a:Int)) (some (b:Int))=⟨(L (Txt.slice x (some (a:Int)) (some (b:Int)))).toArray⟩:=by simp [L]
 rw [e,h]
theorem illB_lt {c:Nat} (h:illB c=true):c <16 ^ 8:=by
 simp only [illB,Bool.or_eq_true,Bool.and_eq_true,decide_eq_true_eq,beq_iff_eq] at h
 lia
noncomputable def pLit (r:List Nat):Out (Nat×List Nat):=match skipU illB 39 true r with
 | .ok k=>.ok (k+1,r.take k)
 | .error e=>.error e
section
variable {K:Kx} {c:Cx} {st:St} {Q:V→St→Prop} {X:Xc→St→Prop} {F:Xc→St→Prop}
theorem mk_len (l:List Nat):Str.length ⟨l.toArray⟩=l.length:=by simp [Str.length]
theorem parse_literal_ok (P:Pk11 K) {src:Str} {p:Nat} (hs:src.length≤1000000) (hp:p+1≤src.length) (hroom:c.A.depth+12 <recursionLimit) (hh:c.A.handled=none)
 (q:Ends K src (p+1) (pLit ((L src).drop (p+1))) (fun z=>Q (.tup [.int (p+1+z.1:Nat),.str ⟨z.2.toArray⟩]) st) X st):
 CF K c (.ref 510) [.str src,.int p] [] [] st Q X:=by
 refine CR.val<|CR_def (fd:=fdOf (u510 K.w.params)) (body:=fdB (bod.getD 55 dS)) (binds:=[(S_ "src",.str src),(S_ "pos",.int p)]) P.G P.lit.ob rfl P.lit.cd rfl (by refine' qL0 ‹_›) ?_ (by kernel_rfl!) (by kernel_rfl!) rfl rfl ?_
 ·intro s vs ks _ h1 h2
  obtain ⟨v,u,rfl,i1,i2⟩:=isl2 h1
  obtain rfl:=isl0 h2
  exact ⟨[(S_ "src",v),(S_ "pos",u)],.of_eq (by kernel_rfl!),rfl,.cons i1 (.cons i2 .nil)⟩
 ·intro L'
  have hh':(cxIn c (fdOf (u510 K.w.params)) 510 L').A.handled=none:=hh
  obtain ⟨a,k,S,m1,m2,m3,m4⟩:=P.illLit.is
  refine EB_cons (ES_aug (EV_int (Op_iadd_int ?_)))
  refine EB_cons (ES_assign (EV_loc ?_))
  refine EB_cons (ES_assign (EV_call (EV_glob P.G P.until_.mg (.ref _) ⟨425,_,_,rfl,P.until_.ob,rfl,EL_cons (EV_loc (EL_cons (EV_loc (EL_cons (EV_str (EL_nil (EK_cons (EV_glob P.G m1 (.ref _) (EK_cons (EV_bool (EK_nil ?_)))))))))))⟩)))
  refine skip_until_ok (p:=p+1) (n:=39) P hs hp (by decide) m2 m3 m4 (fun ch h=>illB_lt h) (by show c.A.depth+1+8 <_;refine' qL2 ‹_› (by nofun)) hh' ?_
  unfold pLit at q
  cases hk:skipU illB 39 true ((L src).drop (p+1)) with
  | error e=>
    rw [hk] at q
    exact fun b=>q b
  | ok i=>
    rw [hk] at q
    show EB _ _ _ _ _ _
    refine EB_cons (ES_return (EV_tuple (EL_cons (EV_bin (EV_loc (EV_int (Op_add_int (EL_cons (EV_slice (EV_loc (EP_some (EV_loc (EP_some (EV_loc ⟨_,_,_,rfl,rfl,rfl,EL_nil ⟨?_,?_⟩⟩))))))))))))))
    ·rw [sizeLine_eq];show 2≤_;decide
    ·show Q (.tup [.int ((((p+1+i:Nat):Int))+1),.str (Txt.slice src (some ((p+1:Nat):Int)) (some ((p+1+i:Nat):Int)))]) st
     rw [slice_eq,show p+1+i -(p+1)=i by refine' Nat.add_sub_cancel_left ..]
     exact q
end
end
section
noncomputable def scalarB (n:Nat):Bool:=decide (n≤55295)||(decide (57344≤n)&&decide (n≤1114111))
noncomputable def pHex (n:Nat) (r:List Nat):Out (Nat×List Nat):=
 if (r.take n).length≠n∨(r.take n).all isHex=false then .error (0,S_ "Invalid hex value")
 else if scalarB (hexVal (r.take n))=false then .error (n,S_ "Escaped character is not a Unicode scalar value") else .ok (n,[hexVal (r.take n)])
section
variable {K:Kx} {c:Cx} {st:St} {Q:V→St→Prop} {X:Xc→St→Prop} {F:Xc→St→Prop}
theorem scalar_ok (P:Pk11 K) {n:Nat} (hroom:c.A.depth+1 <recursionLimit) (q:Q (.bool (scalarB n)) st):CF K c (.ref 545) [.int n] [] [] st Q X:=by
 refine CR.val<|CR_def (fd:=fdOf (u545 K.w.params)) (body:=fdB (bod.getD 60 dS)) (binds:=[(S_ "codepoint",.int n)]) P.G P.scalar.ob rfl P.scalar.cd rfl (by refine' qL0 ‹_›) ?_ (by kernel_rfl!) (by kernel_rfl!) rfl rfl ?_
 ·intro s vs ks _ h1 h2
  obtain ⟨v,rfl,i1⟩:=isl1 h1
  obtain rfl:=isl0 h2
  exact ⟨[(S_ "codepoint",v)],.of_eq (by kernel_rfl!),rfl,.cons i1 .nil⟩
 ·intro L'
  refine EB_cons (ES_return (EV_or2 (EV_cmp2 (EV_int (EV_loc (Op_le_int ⟨_,rfl,?_⟩))))))
  rw [show decide ((0:Int)≤(n:Int))=true from by simp]
  refine EV_int (Op_le_int ⟨_,rfl,?_⟩)
  have e1:decide ((n:Int)≤55295)=decide (n≤55295):=by rw [decide_eq_decide];refine' qcle _ _
  rw [e1]
  unfold scalarB at q
  cases h1:decide (n≤55295) with
  | true=>rw [h1] at q;exact q
  | false=>
    rw [h1,Bool.false_or] at q
    refine EV_cmp2 (EV_int (EV_loc (Op_le_int ⟨_,rfl,?_⟩)))
    have e2:decide ((57344:Int)≤(n:Int))=decide (57344≤n):=by rw [decide_eq_decide];refine' qcge _ _
    rw [e2]
    cases h2:decide (57344≤n) with
    | false=>rw [h2,Bool.false_and] at q;exact q
    | true=>
      rw [h2,Bool.true_and] at q
      refine EV_int (Op_le_int ?_)
      have e3:decide ((n:Int)≤1114111)=decide (n≤1114111):=by rw [decide_eq_decide];refine' qcle _ _
      rw [e3];exact q
theorem parse_hex_ok (P:Pk11 K) {src:Str} {p n:Nat} (hs:src.length≤1000000) (hn:1≤n∧n≤8) (hp:p≤src.length) (hroom:c.A.depth+8 <recursionLimit) (hh:c.A.handled=none)
 (q:Ends K src p (pHex n ((L src).drop p)) (fun z=>Q (.tup [.int (p+z.1:Nat),.str ⟨z.2.toArray⟩]) st) X st):
 CF K c (.ref 503) [.str src,.int p,.int n] [] [] st Q X:=by
 refine CR.val<|CR_def (fd:=fdOf (u503 K.w.params)) (body:=fdB (bod.getD 54 dS)) (binds:=[(S_ "src",.str src),(S_ "pos",.int p),(S_ "hex_len",.int n)]) P.G P.hexc.ob rfl P.hexc.cd rfl (by refine' qL0 ‹_›) ?_ (by kernel_rfl!) (by kernel_rfl!) rfl rfl ?_
 ·intro s vs ks _ h1 h2
  obtain ⟨v,u,w,rfl,i1,i2,i3⟩:=isl3 h1
  obtain rfl:=isl0 h2
  exact ⟨[(S_ "src",v),(S_ "pos",u),(S_ "hex_len",w)],.of_eq (by kernel_rfl!),rfl,.cons i1 (.cons i2 (.cons i3 .nil))⟩
 ·intro L'
  have hh':(cxIn c (fdOf (u503 K.w.params)) 503 L').A.handled=none:=hh
  obtain ⟨a,k,S,m1,m2,m3,m4⟩:=P.hex.is
  have hsl:sizeLine=16777216:=sizeLine_eq
  refine EB_cons (ES_assign (EV_slice (EV_loc (EP_some (EV_loc (EP_some (EV_bin (EV_loc (EV_loc (Op_add_int ⟨_,_,_,rfl,rfl,rfl,?_⟩))))))))))
  rw [show ((p:Int)+(n:Int))=((p+n:Nat):Int) from rfl,slice_eq,show p+n -p=n by refine' Nat.add_sub_cancel_left ..]
  have hlen:(((L src).drop p).take n).length≤n:=List.length_take_le ..
  refine EB_cons (ES_if (ET_boolop (EA_or (ET_cmp (EV_callB (EV_blt P.G P.len.mg P.len.mb (.blt _) ⟨_,rfl,EL_cons (EV_loc (EL_nil (CF_len ?_ (EV_loc (Op_ne_int ⟨_,rfl,?_⟩)))))⟩))))))
  ·rw [mk_len];lia
  rw [mk_len]
  unfold pHex at q
  by_cases hl:(((L src).drop p).take n).length=n
  ·rw [show (((((L src).drop p).take n).length:Int) != (n:Int))=false from by rw [hl];simp]
   refine EA_or (ET_not (ET_val (EV_meth plainAttrs_froz slot_froz_issuperset type_froz_issuperset (EV_glob P.G m1 (.ref _) ⟨.froz m2,EL_cons (EV_loc (EL_nil (CF_issuperset m2 m3 hh' ⟨_,rfl,?_⟩)))⟩))))
   have ea:((L ⟨(((L src).drop p).take n).toArray⟩).all fun ch=>S ⟨#[ch]⟩)=(((L src).drop p).take n).all isHex:=by
    simp only [L,m4];rfl
   rw [ea]
   cases hx:(((L src).drop p).take n).all isHex with
   | false=>
     rw [hx,if_pos (.inr rfl)] at q
     refine EB_cons (ES_raise P.own hh' (EX_call (EV_glob P.G P.suffixed.mg (.ref _) ⟨538,_,_,rfl,P.suffixed.ob,rfl,EL_cons (EV_loc (EL_cons (EV_loc (EL_cons (EV_str (EL_nil (EK_nil (suffixed_err_ok P hs (by decide) (by show c.A.depth+1+5 <_;refine' qL2 ‹_› (by nofun)) ⟨rfl,q true⟩))))))))⟩)))
   | true=>
     rw [hx,if_neg (by rw [hl];simp)] at q
     refine EA_nil (EB_nil ?_)
     have hne:((L src).drop p).take n≠[]:=by intro e;rw [e] at hl;simp at hl;lia
     refine EB_cons (ES_aug (EV_loc (Op_iadd_int ?_)))
     refine EB_cons (ES_assign (EV_callT (EV_blt P.G P.int_.mg P.int_.mb (.typ _) ⟨_,rfl,EL_cons (EV_loc (EL_cons (EV_int (EL_nil (CF_int16 ?_ ?_ ?_ ?_)))))⟩)))
     ·rw [mk_len];lia
     ·simpa [L] using List.all_eq_true.mp hx
     ·simpa [L] using hne
     refine EB_cons (ES_if (ET_not (ET_val (EV_call (EV_glob P.G P.scalar.mg (.ref _) ⟨545,_,_,rfl,P.scalar.ob,rfl,EL_cons (EV_loc (EL_nil (EK_nil (scalar_ok P (by show c.A.depth+1+1 <_;refine' qL2 ‹_› (by nofun)) ⟨_,rfl,?_⟩))))⟩)))))
     have eL:L ⟨(((L src).drop p).take n).toArray⟩=((L src).drop p).take n:=by simp [L]
     rw [eL]
     cases hsc:scalarB (hexVal (((L src).drop p).take n)) with
     | false=>
       rw [hsc,if_pos rfl] at q
       refine EB_cons (ES_raise P.own hh' (EX_call (EV_glob P.G P.suffixed.mg (.ref _) ⟨538,_,_,rfl,P.suffixed.ob,rfl,EL_cons (EV_loc (EL_cons (EV_loc (EL_cons (EV_str (EL_nil (EK_nil (suffixed_err_ok (p:=p+n) P hs (by rw [PySem.ofString_length];decide) (by show c.A.depth+1+5 <_;refine' qL2 ‹_› (by nofun)) ⟨rfl,q true⟩))))))))⟩)))
     | true=>
       rw [hsc,if_neg (by decide)] at q
       have hle:hexVal (((L src).drop p).take n)≤1114111:=by
        simp only [scalarB,Bool.or_eq_true,Bool.and_eq_true,decide_eq_true_eq] at hsc;lia
       refine EB_nil (EB_cons (ES_return (EV_tuple (EL_cons (EV_loc (EL_cons (EV_callB (EV_blt P.G P.chr_.mg P.chr_.mb (.blt _) ⟨_,rfl,EL_cons (EV_loc (EL_nil (CF_chr hle (EL_nil ⟨?_,q⟩))))⟩))))))))
       rw [sizeLine_eq];show 2≤_;decide
  ·rw [if_pos (.inl hl)] at q
   rw [show (((((L src).drop p).take n).length:Int) != (n:Int))=true from bne_iff_ne.mpr (by lia)]
   refine EB_cons (ES_raise P.own hh' (EX_call (EV_glob P.G P.suffixed.mg (.ref _) ⟨538,_,_,rfl,P.suffixed.ob,rfl,EL_cons (EV_loc (EL_cons (EV_loc (EL_cons (EV_str (EL_nil (EK_nil (suffixed_err_ok P hs (by decide) (by show c.A.depth+1+5 <_;refine' qL2 ‹_› (by nofun)) ⟨rfl,q true⟩))))))))⟩)))
end
end
section
theorem look1 {h:Heap} {b:Addr} {x:Obj} (hx:h.get? b=some x):Frag.In [(b,x)] h:=Frag.in_of (as:=[b]) rfl (congrArg (fun z=>[z]) hx)
theorem esc_binds {K:Kx} (P:Pk11 K) {s:Shared} (k:K.B.StaysIn s.heap) (v u:Value):BindsTo s (fdOf (u489 K.w.params)) ⟨[v,u],[]⟩ [(S_ "src",v),(S_ "pos",u),(S_ "multiline",.bool false)]:=fun M A E Q hq=>
 (Looks.of_peek (M:=M) ((look1 P.escO).keeps k) (show peek [(482,u482 K.w.params)] ⟨M.prog,M.w.params⟩ (bindArgs (fdOf (u489 K.w.params)) ⟨[v,u],[]⟩)=some [(S_ "src",v),(S_ "pos",u),(S_ "multiline",.bool false)] from by kernel_rfl)).here hq
noncomputable def shiftO (k:Nat) {α:Type} (f:Nat×α→Nat×α):Out (Nat×α)→Out (Nat×α)
 | .ok a=>.ok (f a)
 | .error (i,m)=>.error (k+i,m)
noncomputable def escMsg:Str:=S_ "Unescaped '\\' in a string"
noncomputable def pEsc (r:List Nat):Out (Nat×List Nat):=
 if r.take 2=[92,117] then shiftO 2 (fun z=>(2+z.1,z.2)) (pHex 4 (r.drop 2))
 else if r.take 2=[92,85] then shiftO 2 (fun z=>(2+z.1,z.2)) (pHex 8 (r.drop 2))
 else match escTab (r.take 2) with
  | some d=>.ok (2,[d])
  | none=>.error (2,escMsg)
section
variable {K:Kx} {c:Cx} {st:St} {Q:V→St→Prop} {X:Xc→St→Prop} {F:Xc→St→Prop}
theorem Ends.shift {α:Type} {x:Str} {p k:Nat} {f:Nat×α→Nat×α} {o:Out (Nat×α)} {Q:Nat×α→Prop} (h:Ends K x p (shiftO k f o) Q X st):Ends K x (p+k) o (fun z=>Q (f z)) X st:=by
 cases o with
 | ok a=>exact h
 | error e=>exact fun b=>by have:=h b;rwa [←Nat.add_assoc] at this
theorem parse_esc_ok (P:Pk11 K) {src:Str} {p:Nat} (hs:src.length≤1000000) (hroom:c.A.depth+12 <recursionLimit) (hh:c.A.handled=none)
 (q:Ends K src p (pEsc ((L src).drop p)) (fun z=>Q (.tup [.int (p+z.1:Nat),.str ⟨z.2.toArray⟩]) st) X st):
 CF K c (.ref 489) [.str src,.int p] [] [] st Q X:=by
 refine CR.val<|CR_def (fd:=fdOf (u489 K.w.params)) (body:=fdB (bod.getD 52 dS)) (binds:=[(S_ "src",.str src),(S_ "pos",.int p),(S_ "multiline",.bool false)]) P.G P.esc.ob rfl P.esc.cd rfl (by refine' qL0 ‹_›) ?_ (by kernel_rfl!) (by kernel_rfl!) rfl rfl ?_
 ·intro s vs ks hB h1 h2
  obtain ⟨v,u,rfl,i1,i2⟩:=isl2 h1
  obtain rfl:=isl0 h2
  exact ⟨[(S_ "src",v),(S_ "pos",u),(S_ "multiline",.bool false)],esc_binds P hB v u,rfl,.cons i1 (.cons i2 (.cons (.bool _) .nil))⟩
 ·intro L'
  have hh':(cxIn c (fdOf (u489 K.w.params)) 489 L').A.handled=none:=hh
  have hsl:sizeLine=16777216:=sizeLine_eq
  refine EB_cons (ES_assign (EV_slice (EV_loc (EP_some (EV_loc (EP_some (EV_bin (EV_loc (EV_int (Op_add_int ⟨_,_,_,rfl,rfl,rfl,?_⟩))))))))))
  rw [show ((p:Int)+2)=((p+2:Nat):Int) from rfl,slice_eq,show p+2 -p=2 by refine' Nat.add_sub_cancel_left ..]
  refine EB_cons (ES_aug (EV_int (Op_iadd_int ?_)))
  refine EB_cons (ES_if (ET_boolop (EA_and (ET_val (EV_loc ⟨false,rfl,?_⟩)))))
  refine EB_nil ?_
  have eL:(⟨(((L src).drop p).take 2).toArray⟩:Str).cps.toList=((L src).drop p).take 2:=by simp
  have lu:(Str.ofString "\\u").cps.toList=[92,117]:=by decide+kernel
  have lU:(Str.ofString "\\U").cps.toList=[92,85]:=by decide+kernel
  unfold pEsc at q
  refine EB_cons (ES_if (ET_cmp (EV_loc (EV_str (Op_eq_str ⟨_,rfl,?_⟩)))))
  rw [eL,lu]
  by_cases h1:((L src).drop p).take 2=[92,117]
  ·rw [if_pos h1] at q
   rw [h1,show ([92,117]==([92,117]:List Nat))=true from rfl]
   have hp:p+2≤src.length:=by
    have:=congrArg List.length h1
    rw [List.length_take,List.length_drop,L_length] at this
    simp only [List.length_cons,List.length_nil] at this;refine' r22 ‹_›
   have q':=q.shift
   rw [List.drop_drop] at q'
   refine EB_cons (ES_return (EV_call (EV_glob P.G P.hexc.mg (.ref _) ⟨503,_,_,rfl,P.hexc.ob,rfl,EL_cons (EV_loc (EL_cons (EV_loc (EL_cons (EV_int (EL_nil (EK_nil (parse_hex_ok (p:=p+2) (n:=4) P hs (by lia) hp (by show c.A.depth+1+8 <_;refine' qL2 ‹_› (by nofun)) hh' ?_))))))))⟩)))
   refine q'.imp (fun z h=>?_) fun _ h=>h
   dsimp only at h;rw [←Nat.add_assoc] at h;exact h
  ·rw [if_neg h1] at q
   rw [beq_eq_false_iff_ne.mpr h1]
   refine EB_nil (EB_cons (ES_if (ET_cmp (EV_loc (EV_str (Op_eq_str ⟨_,rfl,?_⟩))))))
   rw [eL,lU]
   by_cases h2:((L src).drop p).take 2=[92,85]
   ·rw [if_pos h2] at q
    rw [h2,show ([92,85]==([92,85]:List Nat))=true from rfl]
    have hp:p+2≤src.length:=by
     have:=congrArg List.length h2
     rw [List.length_take,List.length_drop,L_length] at this
     simp only [List.length_cons,List.length_nil] at this;refine' r22 ‹_›
    have q':=q.shift
    rw [List.drop_drop] at q'
    refine EB_cons (ES_return (EV_call (EV_glob P.G P.hexc.mg (.ref _) ⟨503,_,_,rfl,P.hexc.ob,rfl,EL_cons (EV_loc (EL_cons (EV_loc (EL_cons (EV_int (EL_nil (EK_nil (parse_hex_ok (p:=p+2) (n:=8) P hs (by lia) hp (by show c.A.depth+1+8 <_;refine' qL2 ‹_› (by nofun)) hh' ?_))))))))⟩)))
    refine q'.imp (fun z h=>?_) fun _ h=>h
    dsimp only at h;rw [←Nat.add_assoc] at h;exact h
   ·rw [if_neg h2] at q
    rw [beq_eq_false_iff_ne.mpr h2]
    refine EB_nil ?_
    obtain ⟨f,hf1,hf2⟩:=P.proxyD
    refine EB_cons (ES_try (G:=P.G) ?_ P.keyE.mg P.keyE.mb (by rw [isSubtype_type];kernel_rfl) (by kernel_rfl))
    refine EB_cons (ES_return (EV_tuple (EL_cons (EV_loc (EL_cons (EV_sub (EV_glob P.G P.proxyG (.ref _) (EV_loc (Op_item_proxy P.proxyO hf1 (by decide) hh' ?_)))))))))
    have hq:=hf2 (((L src).drop p).take 2)
    cases ht:escTab (((L src).drop p).take 2) with
    | some d=>
      rw [ht] at q hq
      obtain ⟨tk,e⟩:=hq
      rw [e]
      refine ⟨.str ⟨#[d]⟩,.str _ _ (by show 1≤sizeLine;decide),EL_nil ⟨?_,q⟩⟩
      rw [sizeLine_eq];show 2≤_;decide
    | none=>
      rw [ht] at q hq
      rw [hq]
      refine ⟨"KeyError",true,rfl,by rw [isSubtype_type];kernel_rfl,?_⟩
      intro e
      refine EB_cons (ES_raiseNone P.own (.inr ⟨e,rfl,rfl⟩) (EX_call (EV_glob P.G P.suffixed.mg (.ref _) ⟨538,_,_,rfl,P.suffixed.ob,rfl,EL_cons (EV_loc (EL_cons (EV_loc (EL_cons (EV_str (EL_nil (EK_nil (suffixed_err_ok (p:=p+2) P hs (by rw [PySem.ofString_length];decide) (by show c.A.depth+1+5 <_;refine' qL2 ‹_› (by nofun)) ⟨rfl,q false⟩))))))))⟩)))
end
end
section
noncomputable def pBas:Nat→List Nat→Out (Nat×List Nat)
 | 0,_=>.error (0,S_ "Unterminated string")
 | n+1,r=>match r with
   | []=>.error (0,S_ "Unterminated string")
   | c::t=>if c=34 then .ok (1,[])
     else if c=92 then match pEsc r with
      | .error e=>.error e
      | .ok (k,d)=>shiftO k (fun z=>(k+z.1,d++z.2)) (pBas n (r.drop k))
     else if illB c then .error (0,Str.empty++S_ "Illegal character "++reprText ⟨#[c]⟩) else shiftO 1 (fun z=>(1+z.1,c::z.2)) (pBas n t)
theorem mk_append (a b:List Nat):(⟨a.toArray⟩:Str)++⟨b.toArray⟩=⟨(a++b).toArray⟩:=by
 show Str.mk (a.toArray++b.toArray)=_
 simp
theorem pHex_len {n:Nat} {r:List Nat} {k:Nat} {d:List Nat} (h:pHex n r=.ok (k,d)):k≤r.length∧k=n∧d.length=1:=by
 unfold pHex at h
 split at h
 ·cases h
 ·rename_i h1
  split at h
  ·cases h
  ·cases h
   simp only [not_or,Classical.not_not] at h1
   have:=h1.1
   rw [List.length_take] at this
   exact ⟨by lia,rfl,rfl⟩
theorem pEsc_len {r:List Nat} {k:Nat} {d:List Nat} (h:pEsc r=.ok (k,d)):2≤k∧k≤r.length∧d.length=1:=by
 have two:∀a b,r.take 2=[a,b]→2≤r.length:=by
  intro a b e
  have:=congrArg List.length e
  rw [List.length_take] at this
  simp only [List.length_cons,List.length_nil] at this;lia
 unfold pEsc at h
 split at h
 ·rename_i h1
  have:=two _ _ h1
  cases e:pHex 4 (r.drop 2) with
  | error x=>rw [e] at h;cases h
  | ok z=>
    obtain ⟨k',d'⟩:=z
    rw [e] at h
    cases h
    obtain ⟨a1,a2,a3⟩:=pHex_len e
    rw [List.length_drop] at a1
    exact ⟨by refine' Nat.le_add_right _ _,by refine' qs7 ‹_› ‹_›,a3⟩
 ·split at h
  ·rename_i h1
   have:=two _ _ h1
   cases e:pHex 8 (r.drop 2) with
   | error x=>rw [e] at h;cases h
   | ok z=>
     obtain ⟨k',d'⟩:=z
     rw [e] at h
     cases h
     obtain ⟨a1,a2,a3⟩:=pHex_len e
     rw [List.length_drop] at a1
     exact ⟨by refine' Nat.le_add_right _ _,by refine' qs7 ‹_› ‹_›,a3⟩
  ·split at h
   ·rename_i d0 hd
    cases h
    have:=look2 hd rfl
    rw [List.length_take] at this
    exact ⟨by refine' Nat.le_refl _,by lia,rfl⟩
   ·cases h
section
variable {K:Kx} {c:Cx} {st:St} {Q:V→St→Prop} {X:Xc→St→Prop} {F:Xc→St→Prop}
abbrev kBas (Q:V→St→Prop) (st:St) (p j:Nat) (acc:List Nat) (z:Nat×List Nat):Prop:=Q (.tup [.int (p+j+z.1:Nat),.str ⟨(acc++z.2).toArray⟩]) st
noncomputable abbrev bSt (src:Str) (a:Addr) (st:St) (p j i:Nat) (res:List Nat):St:=
 ⟨[(S_ "src",.str src),(S_ "pos",.int (p+j:Nat)),(S_ "multiline",.bool false),(S_ "error_on",.ref a),(S_ "parse_escapes",.ref 489),(S_ "result",.str ⟨res.toArray⟩),(S_ "start_pos",.int (p+i:Nat))],st.sto⟩
inductive BIv (K:Kx) (src:Str) (p:Nat) (a:Addr) (Q:V→St→Prop) (X:Xc→St→Prop) (st:St) (n:Nat) (st':St):Prop
 | mk (j i:Nat) (res acc:List Nat) (hij:i≤j) (hpj:p+j≤src.length) (hn:src.length <p+j+n) (hacc:res++((L src).drop (p+i)).take (j -i)=acc) (hal:acc.length≤j)
    (q:Ends K src (p+j) (pBas n ((L src).drop (p+j))) (kBas Q st p j acc) X st) (le:St.Le (bSt src a st p j i res) st')
theorem kBas_esc {m p j k:Nat} {src:Str} {acc d:List Nat} (q:Ends K src (p+j) (shiftO k (fun z=>(k+z.1,d++z.2)) (pBas m (((L src).drop (p+j)).drop k))) (kBas Q st p j acc) X st):
 Ends K src (p+(j+k)) (pBas m ((L src).drop (p+(j+k)))) (kBas Q st p (j+k) (acc++d)) X st:=by
 have q2:=q.shift
 rw [List.drop_drop] at q2
 rw [←Nat.add_assoc]
 refine q2.imp (fun z h=>?_) fun _ h=>h
 show Q (.tup [.int (p+(j+k)+z.1:Nat),.str ⟨(acc++d++z.2).toArray⟩]) st
 rw [List.append_assoc,show p+(j+k)+z.1=p+j+(k+z.1) by lia]
 exact h
theorem pBas_nil (n:Nat):pBas n []=.error (0,S_ "Unterminated string"):=by cases n<;>rfl
theorem pBas_92 {m ch:Nat} {r t:List Nat} (e:r=ch::t) (h:ch=92):pBas (m+1) r=match pEsc r with
 | .error e=>.error e
 | .ok (k,d)=>shiftO k (fun z=>(k+z.1,d++z.2)) (pBas m (r.drop k)):=by subst e;subst h;rfl
theorem pBas_ill {m ch:Nat} {r t:List Nat} (e:r=ch::t) (h1:¬ch=34) (h2:¬ch=92) (h:illB ch=true):pBas (m+1) r=.error (0,Str.empty++S_ "Illegal character "++reprText ⟨#[ch]⟩):=by
 subst e;rw [pBas,if_neg h1,if_neg h2,if_pos h]
theorem pBas_else {m ch:Nat} {r t:List Nat} (e:r=ch::t) (h1:¬ch=34) (h2:¬ch=92) (h:illB ch=false):pBas (m+1) r=shiftO 1 (fun z=>(1+z.1,[ch]++z.2)) (pBas m (r.drop 1)):=by
 subst e;rw [pBas,if_neg h1,if_neg h2,if_neg (by rw [h];decide)];rfl
noncomputable abbrev cxB (K:Kx) (c:Cx) (L':Addr):Cx:=cxIn c (fdOf (u524 K.w.params)) 524 L'
noncomputable def basW:List Stmt:=whB ((fdB (bod.getD 57 dS)).getD 3 dS)
theorem bas_turn (P:Pk11 K) {src:Str} {p m j i ch:Nat} {res acc:List Nat} {a L':Addr} {k:Nat} {S:Str→Bool} {R:Fl→St→Prop} {X':Xc→St→Prop} (hs:src.length≤1000000) (hroom:c.A.depth+16 <recursionLimit) (hh:c.A.handled=none)
 (m2:FrozAt (strKind K.prog K.w) K.B a S k) (m3:k <4096) (m4:∀ch,S ⟨#[ch]⟩=illB ch) (hij:i≤j) (hlt:p+j <src.length) (hn:src.length <p+j+(m+1)) (hg:(L src)[p+j]?=some ch) (hcons:(L src).drop (p+j)=ch::(L src).drop (p+j+1))
 (hacc:res++((L src).drop (p+i)).take (j -i)=acc) (hal:acc.length≤j) (q:Ends K src (p+j) (pBas (m+1) ((L src).drop (p+j))) (kBas Q st p j acc) X st)
 (hR:∀v st',st'.sto=st.sto→Q v st→R (.ret v) st') (hX:∀e,X e st→∀st',st'.sto=st.sto→X' e st') (hI:∀f st',f=.next∨f=.cont→BIv K src p a Q X st m st'→R f st'):
 EB K (cxB K c L') (basW.drop 1) ⟨(S_ "char",.str ⟨#[ch]⟩)::(bSt src a st p j i res).loc,st.sto⟩ R X':=by
 have hh':(cxB K c L').A.handled=none:=hh
 have hsl:sizeLine=16777216:=sizeLine_eq
 have lq:(Str.ofString "\"").cps.toList=[34]:=by decide+kernel
 have lb:(Str.ofString "\\").cps.toList=[92]:=by decide+kernel
 have hlr:res.length+(((L src).drop (p+i)).take (j -i)).length≤j:=by rw [←List.length_append,hacc];exact hal
 by_cases h34:ch=34
 ·refine EB_cons (ES_if (ET_cmp (EV_loc (EV_str (Op_eq_str ⟨true,sgn_is lq h34,?_⟩)))))
  rw [hcons,h34] at q
  refine EB_cons (ES_if (ET_not (ET_val (EV_loc ⟨false,rfl,?_⟩))))
  refine EB_cons (ES_return (EV_tuple (EL_cons (EV_bin (EV_loc (EV_int (Op_add_int ?_)))))))
  refine EL_cons (EV_bin (EV_loc (EV_slice (EV_loc (EP_some (EV_loc (EP_some (EV_loc ⟨_,_,_,rfl,rfl,rfl,Op_add_str ?_ (EL_nil ⟨?_,?_⟩)⟩))))))))
  ·rw [slice_eq,mk_len,mk_len,show p+j -(p+i)=j -i by refine' Nat.add_sub_add_left _ _ _];lia
  ·show 2≤_;with_reducible (apply qS;symm)
  ·rw [slice_eq,mk_append,show p+j -(p+i)=j -i by refine' Nat.add_sub_add_left _ _ _,hacc]
   have h:Q (.tup [.int (p+j+1:Nat),.str ⟨(acc++[]).toArray⟩]) st:=q
   rw [List.append_nil] at h
   exact hR _ _ rfl h
 ·refine EB_cons (ES_if (ET_cmp (EV_loc (EV_str (Op_eq_str ⟨false,sgn_not lq h34,EB_nil ?_⟩)))))
  by_cases h92:ch=92
  ·refine EB_cons (ES_if (ET_cmp (EV_loc (EV_str (Op_eq_str ⟨true,sgn_is lb h92,?_⟩)))))
   rw [pBas_92 hcons h92] at q
   refine EB_cons (ES_aug (a:=.str ⟨res.toArray⟩) (EV_slice (EV_loc (EP_some (EV_loc (EP_some (EV_loc ⟨_,_,_,rfl,rfl,rfl,Op_iadd_str ?_ ?_⟩)))))) rfl)
   ·rw [slice_eq,mk_len,mk_len,show p+j -(p+i)=j -i by refine' Nat.add_sub_add_left _ _ _];lia
   rw [slice_eq,mk_append,show p+j -(p+i)=j -i by refine' Nat.add_sub_add_left _ _ _,hacc]
   refine EB_cons (ES_unpack hh' (EV_call (EV_loc ⟨489,_,_,rfl,P.esc.ob,rfl,EL_cons (EV_loc (EL_cons (EV_loc (EL_nil (EK_nil ?_)))))⟩)))
   refine parse_esc_ok (p:=p+j) P hs (by show c.A.depth+1+12 <_;refine' qL2 ‹_› (by nofun)) hh' ?_
   cases he:pEsc ((L src).drop (p+j)) with
   | error e=>rw [he] at q;exact fun b=>hX _ (q b) _ rfl
   | ok z=>
     obtain ⟨kk,d⟩:=z
     rw [he] at q
     obtain ⟨b1,b2,b3⟩:=pEsc_len he
     rw [List.length_drop,L_length] at b2
     refine ⟨_,rfl,rfl,AS_name (AS_name (AS_nil ?_))⟩
     refine EB_cons (ES_aug (EV_loc (Op_iadd_str ?_ ?_)) rfl)
     ·rw [mk_len,mk_len];show acc.length+d.length≤_;lia
     rw [mk_append]
     have ea:=congrArg (fun n:Nat=>some (V.int n)) (Nat.add_assoc p j kk)
     exact EB_cons (ES_assign (EV_loc (EB_cons (ES_continue (hI _ _ (.inr rfl) ⟨j+kk,j+kk,acc++d,acc++d,Nat.le_refl _,by refine' r16 ‹_› ‹_›,by refine' r33 ‹_› (Nat.le_of_succ_le ‹2≤_›),by rw [Nat.sub_self,List.take_zero,List.append_nil],by rw [List.length_append];lia,kBas_esc q,leA (List.Sublist.refl _) ⟨rfl,ea,rfl,rfl,rfl,rfl,ea,trivial⟩⟩)))))
  ·refine EB_cons (ES_if (ET_cmp (EV_loc (EV_str (Op_eq_str ⟨false,sgn_not lb h92,EB_nil ?_⟩)))))
   cases hi:illB ch with
   | true=>
     rw [pBas_ill hcons h34 h92 hi] at q
     have hdl:=repr1_len (illB_lt hi)
     have h0:Str.empty.length=0:=rfl
     have e3:(Str.ofString "Illegal character ").length=18:=by rw [PySem.ofString_length];rfl
     refine EB_cons (ES_if (ET_cmp (EV_loc (EV_loc (Op_in_set m2 m3 ⟨true,congrArg some ((m4 ch).trans hi),?_⟩)))))
     refine EB_cons (ES_raise P.own hh' (EX_call (EV_glob P.G P.suffixed.mg (.ref _) ⟨538,_,_,rfl,P.suffixed.ob,rfl,EL_cons (EV_loc (EL_cons (EV_loc ?_)))⟩)))
     refine EL_cons (EV_joined (EJ_cons (EV_str ⟨_,rfl,?_,EJ_cons (EV_fmtr (EV_loc ⟨_,rfl,?_,⟨_,rfl,?_,EJ_nil ?_ (EL_nil (EK_nil (suffixed_err_ok (p:=p+j) P hs ?_ (by show c.A.depth+1+5 <_;refine' qL2 ‹_› (by nofun)) ⟨rfl,hX _ (q true) _ rfl⟩)))⟩⟩))⟩)))
     ·simp only [Str.length_append];with_reducible (apply qS;symm)
     ·show (reprText ⟨#[ch]⟩).length≤sizeLine;refine' qN ‹_› (by nofun)
     ·simp only [Str.length_append];with_reducible (apply qS;symm)
     ·simp only [Str.length_append];with_reducible (apply qS;symm)
     ·simp only [Str.length_append];with_reducible (apply qN;symm)
   | false=>
     rw [pBas_else hcons h34 h92 hi] at q
     refine EB_cons (ES_if (ET_cmp (EV_loc (EV_loc (Op_in_set m2 m3 ⟨false,congrArg some ((m4 ch).trans hi),EB_nil ?_⟩)))))
     refine EB_cons (ES_aug (EV_int (Op_iadd_int (EB_nil ?_))) rfl)
     refine hI _ _ (.inl rfl) ⟨j+1,i,res,acc++[ch],by refine' Nat.le_add_right_of_le ‹_›,by lia,by lia,?_,by rw [List.length_append];show acc.length+1≤_;refine' Nat.succ_le_succ ‹_›,kBas_esc q,leA (List.Sublist.refl _) ⟨rfl,rfl,rfl,rfl,rfl,rfl,rfl,trivial⟩⟩
     rw [show j+1 -i=(j -i)+1 by refine' Nat.sub_add_comm ‹_›,List.take_add_one,List.getElem?_drop,show p+i+(j -i)=p+j by refine' r17 ‹_›,hg,←List.append_assoc,hacc];rfl
theorem parse_basic_ok (P:Pk11 K) {src:Str} {p n:Nat} (hs:src.length≤1000000) (hp:p≤src.length) (hn:src.length <p+n) (hroom:c.A.depth+16 <recursionLimit) (hh:c.A.handled=none)
 (q:Ends K src p (pBas n ((L src).drop p)) (fun z=>Q (.tup [.int (p+z.1:Nat),.str ⟨z.2.toArray⟩]) st) X st):
 CF K c (.ref 524) [.str src,.int p] [S_ "multiline"] [.bool false] st Q X:=by
 refine CR.val<|CR_def (fd:=fdOf (u524 K.w.params)) (body:=fdB (bod.getD 57 dS)) (binds:=[(S_ "src",.str src),(S_ "pos",.int p),(S_ "multiline",.bool false)]) P.G P.bas.ob rfl P.bas.cd rfl (by refine' qL0 ‹_›) ?_ (by kernel_rfl!) (by kernel_rfl!) rfl rfl ?_
 ·intro s vs ks _ h1 h2
  obtain ⟨v,u,rfl,i1,i2⟩:=isl2 h1
  obtain ⟨w,rfl,i3⟩:=isl1 h2
  exact ⟨[(S_ "src",v),(S_ "pos",u),(S_ "multiline",w)],.of_eq (by kernel_rfl!),rfl,.cons i1 (.cons i2 (.cons i3 .nil))⟩
 ·intro L'
  have hh':(cxB K c L').A.handled=none:=hh
  obtain ⟨a,k,S,m1,m2,m3,m4⟩:=P.illBas.is
  refine EB_cons (ES_if (ET_val (EV_loc ⟨false,rfl,?_⟩)))
  refine EB_cons (ES_assign (EV_glob P.G m1 (.ref _) (EB_cons (ES_assign (EV_glob P.G P.esc.mg (.ref _) (EB_nil ?_))))))
  refine EB_cons (ES_assign (EV_str (EB_cons (ES_assign (EV_loc ?_)))))
  refine EB_cons (ES_while (BIv K src p a Q X st) ?_ n ⟨0,0,[],[],Nat.le_refl _,hp,hn,rfl,Nat.le_refl _,q,leA (List.Sublist.refl _) ⟨rfl,rfl,rfl,rfl,rfl,rfl,rfl,trivial⟩⟩)
  clear q
  rintro nn st' ⟨j,i,res,acc,hij,hpj,hn',hacc,hal,q,le⟩
  refine TB.weak le ?_
  clear le
  refine ET_val (EV_bool ⟨true,rfl,?_⟩)
  refine EB_cons (ES_try (G:=P.G) ?_ P.indexE.mg P.indexE.mb (by rw [isSubtype_type];kernel_rfl) (by kernel_rfl))
  refine EB_cons (ES_assign (EV_sub (EV_loc (EV_loc (Op_item_str hh' ?_ ?_)))))
  ·simp;refine' r27 ‹_≤1000000› ‹_›
  rw [signAt_nat]
  obtain ⟨m,rfl⟩:∃m,nn=m+1:=⟨nn -1,by refine' qP3 ‹_› ‹_›⟩
  cases hg:(L src)[p+j]? with
  | none=>
    rw [List.drop_eq_nil_of_le (List.getElem?_eq_none_iff.mp hg),pBas_nil] at q
    refine ⟨"IndexError",true,rfl,by rw [isSubtype_type];kernel_rfl,fun e=>?_⟩
    exact EB_cons (ES_raiseNone P.own (.inr ⟨e,rfl,rfl⟩) (EX_call (EV_glob P.G P.suffixed.mg (.ref _) ⟨538,_,_,rfl,P.suffixed.ob,rfl,EL_cons (EV_loc (EL_cons (EV_loc (EL_cons (EV_str (EL_nil (EK_nil (suffixed_err_ok (p:=p+j) P hs (by rw [PySem.ofString_length];decide) (by show c.A.depth+1+5 <_;refine' qL2 ‹_› (by nofun)) ⟨rfl,q false⟩))))))))⟩)))
  | some ch=>
    obtain ⟨hlt,hcons⟩:=drop_ch hg
    refine EB_nil (EB_nil ?_)
    refine bas_turn P hs hroom hh m2 m3 m4 hij hlt hn' hg hcons hacc hal q ?_ ?_ ?_
    ·exact fun v st' e' h=>by show Q _ (⟨st.loc,st'.sto⟩:St);rw [e'];exact h
    ·exact fun e h st' e'=>by show X _ (⟨st.loc,st'.sto⟩:St);rw [e'];exact h
    ·rintro f st' (rfl | rfl) h<;>exact ⟨m,Nat.lt_succ_self _,h⟩
end
end
section
noncomputable def skipW (E:Nat→Bool) (l:List Nat):Nat:=(l.takeWhile E).length
noncomputable def pB (r:List Nat):Out (Nat×List Nat):=pBas (r.length+1) r
noncomputable def partMsg:Str:=S_ "Invalid initial character for a key part"
noncomputable def pPart (r:List Nat):Out (Nat×List Nat):=match r with
 | []=>.error (0,partMsg)
 | c::t=>if bareB c then .ok (skipW bareB r,r.take (skipW bareB r))
   else if c=39 then shiftO 1 (fun z=>(1+z.1,z.2)) (pLit t)
   else if c=34 then shiftO 1 (fun z=>(1+z.1,z.2)) (pB t) else .error (0,partMsg)
section
variable {K:Kx} {c:Cx} {st:St} {Q:V→St→Prop} {X:Xc→St→Prop} {F:Xc→St→Prop}
inductive SIv (E:Nat→Bool) (src:Str) (p:Nat) (a:Addr) (st:St) (n:Nat) (st':St):Prop
 | mk (j:Nat) (hp:p+j≤src.length) (hn:n=src.length -(p+j)) (e:j+skipW E ((L src).drop (p+j))=skipW E ((L src).drop p)) (le:St.Le ⟨[(S_ "src",.str src),(S_ "pos",.int (p+j:Nat)),(S_ "chars",.ref a)],st.sto⟩ st')
theorem skipW_true {E:Nat→Bool} {r t:List Nat} {ch:Nat} (e:r=ch::t) (h:E ch=true):skipW E r=1+skipW E (r.drop 1):=by
 subst e;unfold skipW;rw [List.takeWhile_cons,if_pos h,List.length_cons,Nat.add_comm];rfl
theorem skipW_false {E:Nat→Bool} {r t:List Nat} {ch:Nat} (e:r=ch::t) (h:E ch=false):skipW E r=0:=by
 subst e;unfold skipW;rw [List.takeWhile_cons,h];rfl
theorem skip_ok (P:Pk11 K) {src:Str} {p k:Nat} {a:Addr} {S:Str→Bool} {E:Nat→Bool} (hS:FrozAt (strKind K.prog K.w) K.B a S k) (hk:k <4096) (hE:∀ch,S ⟨#[ch]⟩=E ch)
 (hs:src.length≤1000000) (hp:p≤src.length) (hroom:c.A.depth+2 <recursionLimit) (hh:c.A.handled=none) (q:Q (.int (p+skipW E ((L src).drop p):Nat)) st):
 CF K c (.ref 418) [.str src,.int p,.ref a] [] [] st Q X:=by
 refine CR.val<|CR_def (fd:=fdOf (u418 K.w.params)) (body:=fdB (bod.getD 42 dS)) (binds:=[(S_ "src",.str src),(S_ "pos",.int p),(S_ "chars",.ref a)]) P.G P.skip.ob rfl P.skip.cd rfl (by refine' qL0 ‹_›) ?_ (by kernel_rfl!) (by kernel_rfl!) rfl rfl ?_
 ·intro s vs ks _ h1 h2
  obtain ⟨v,u,w,rfl,i1,i2,i3⟩:=isl3 h1
  obtain rfl:=isl0 h2
  exact ⟨[(S_ "src",v),(S_ "pos",u),(S_ "chars",w)],.of_eq (by kernel_rfl!),rfl,.cons i1 (.cons i2 (.cons i3 .nil))⟩
 ·intro L'
  have hh':(cxIn c (fdOf (u418 K.w.params)) 418 L').A.handled=none:=hh
  refine EB_cons (ES_try (G:=P.G) ?_ P.indexE.mg P.indexE.mb (by rw [isSubtype_type];kernel_rfl) (by kernel_rfl))
  have hq:∀i,i=skipW E ((L src).drop p)→Q (.int (p+i:Nat)) st:=fun i e=>e▸q
  refine EB_cons (ES_while (SIv E src p a st) ?_ (src.length -p) ⟨0,hp,rfl,Nat.zero_add _,leA (List.Sublist.refl _) ⟨rfl,rfl,rfl,trivial⟩⟩)
  rintro n st' ⟨j,h1,h2,h7,le⟩
  refine TB.weak le (ET_cmp ?_)
  clear le q
  refine EV_sub (EV_loc (EV_loc (Op_item_str hh' ?_ ?_)))
  ·simp;refine' r27 ‹_≤1000000› ‹_›
  rw [signAt_nat]
  cases hg:(L src)[p+j]? with
  | none=>
    rw [List.drop_eq_nil_of_le (List.getElem?_eq_none_iff.mp hg)] at h7
    exact ⟨"IndexError",true,rfl,by rw [isSubtype_type];kernel_rfl,fun e=>EB_cons (ES_pass (EB_nil (EB_cons (ES_return (EV_loc (hq j h7))))))⟩
  | some ch=>
    obtain ⟨hlt,hcons⟩:=drop_ch hg
    cases he:E ch with
    | true=>
      rw [skipW_true hcons he,List.drop_drop] at h7
      refine EV_loc (Op_in_set hS hk ⟨true,congrArg some ((hE ch).trans he),?_⟩)
      refine EB_cons (ES_aug (EV_int (Op_iadd_int ?_)) rfl)
      exact EB_nil ⟨src.length -(p+(j+1)),by refine' qs6 ‹_› ‹_›,j+1,hlt,rfl,(Nat.add_assoc j 1 _).trans h7,leA (List.Sublist.refl _) ⟨rfl,rfl,rfl,trivial⟩⟩
    | false=>
      rw [skipW_false hcons he] at h7
      refine EV_loc (Op_in_set hS hk ⟨false,congrArg some ((hE ch).trans he),?_⟩)
      exact EB_nil (EB_nil (EB_nil (EB_cons (ES_return (EV_loc (hq j h7))))))
theorem parse_one_ok (P:Pk11 K) {src:Str} {p:Nat} (hs:src.length≤1000000) (hp:p+1≤src.length) (hroom:c.A.depth+18 <recursionLimit) (hh:c.A.handled=none)
 (q:Ends K src (p+1) (pB ((L src).drop (p+1))) (fun z=>Q (.tup [.int (p+1+z.1:Nat),.str ⟨z.2.toArray⟩]) st) X st):CF K c (.ref 467) [.str src,.int p] [] [] st Q X:=by
 refine CR.val<|CR_def (fd:=fdOf (u467 K.w.params)) (body:=fdB (bod.getD 49 dS)) (binds:=[(S_ "src",.str src),(S_ "pos",.int p)]) P.G P.one.ob rfl P.one.cd rfl (by refine' qL0 ‹_›) ?_ (by kernel_rfl!) (by kernel_rfl!) rfl rfl ?_
 ·intro s vs ks _ h1 h2
  obtain ⟨v,u,rfl,i1,i2⟩:=isl2 h1
  obtain rfl:=isl0 h2
  exact ⟨[(S_ "src",v),(S_ "pos",u)],.of_eq (by kernel_rfl!),rfl,.cons i1 (.cons i2 .nil)⟩
 ·intro L'
  have hh':(cxIn c (fdOf (u467 K.w.params)) 467 L').A.handled=none:=hh
  refine EB_cons (ES_aug (EV_int (Op_iadd_int ?_)))
  refine EB_cons (ES_return (EV_call (EV_glob P.G P.bas.mg (.ref _) ⟨524,_,_,rfl,P.bas.ob,rfl,EL_cons (EV_loc (EL_cons (EV_loc (EL_nil (EK_cons (EV_bool (EK_nil ?_)))))))⟩)))
  refine parse_basic_ok (p:=p+1) (n:=((L src).drop (p+1)).length+1) P hs hp ?_ (by show c.A.depth+1+16 <_;refine' qL2 ‹_› (by nofun)) hh' q
  rw [List.length_drop,L_length];refine' r19 _ _
theorem parse_part_ok (P:Pk11 K) {src:Str} {p:Nat} (hs:src.length≤1000000) (hp:p≤src.length) (hroom:c.A.depth+20 <recursionLimit) (hh:c.A.handled=none)
 (q:Ends K src p (pPart ((L src).drop p)) (fun z=>Q (.tup [.int (p+z.1:Nat),.str ⟨z.2.toArray⟩]) st) X st):CF K c (.ref 460) [.str src,.int p] [] [] st Q X:=by
 refine CR.val<|CR_def (fd:=fdOf (u460 K.w.params)) (body:=fdB (bod.getD 48 dS)) (binds:=[(S_ "src",.str src),(S_ "pos",.int p)]) P.G P.part.ob rfl P.part.cd rfl (by refine' qL0 ‹_›) ?_ (by kernel_rfl!) (by kernel_rfl!) rfl rfl ?_
 ·intro s vs ks _ h1 h2
  obtain ⟨v,u,rfl,i1,i2⟩:=isl2 h1
  obtain rfl:=isl0 h2
  exact ⟨[(S_ "src",v),(S_ "pos",u)],.of_eq (by kernel_rfl!),rfl,.cons i1 (.cons i2 .nil)⟩
 ·intro L'
  have hh':(cxIn c (fdOf (u460 K.w.params)) 460 L').A.handled=none:=hh
  obtain ⟨a,k,S,m1,m2,m3,m4⟩:=P.bare.is
  have ap:(Str.ofString "'").cps.toList=[39]:=by decide+kernel
  have qt:(Str.ofString "\"").cps.toList=[34]:=by decide+kernel
  refine EB_cons (ES_try (G:=P.G) ?_ P.indexE.mg P.indexE.mb (by rw [isSubtype_type];kernel_rfl) (by kernel_rfl))
  refine EB_cons (ES_assign (EV_sub (EV_loc (EV_loc (Op_item_str hh' ?_ ?_)))))
  ·simp;lia
  rw [signAt_nat]
  cases hg:(L src)[p]? with
  | none=>
    have hnil:(L src).drop p=[]:=List.drop_eq_nil_of_le (List.getElem?_eq_none_iff.mp hg)
    rw [hnil] at q
    refine ⟨"IndexError",true,rfl,by rw [isSubtype_type];kernel_rfl,?_⟩
    intro e
    refine EB_cons (ES_assign (EV_none (EB_nil ?_)))
    refine EB_cons (ES_if (ET_cmp (EV_loc (EV_glob P.G m1 (.ref _) (Op_none_in_set m2 m3 ⟨_,rfl,?_⟩)))))
    refine EB_nil (EB_cons (ES_if (ET_cmp (EV_loc (EV_str (Op_eq_none_str ⟨_,rfl,?_⟩))))))
    refine EB_nil (EB_cons (ES_if (ET_cmp (EV_loc (EV_str (Op_eq_none_str ⟨_,rfl,?_⟩))))))
    refine EB_nil ?_
    refine EB_cons (ES_raise P.own hh' (EX_call (EV_glob P.G P.suffixed.mg (.ref _) ⟨538,_,_,rfl,P.suffixed.ob,rfl,EL_cons (EV_loc (EL_cons (EV_loc (EL_cons (EV_str (EL_nil (EK_nil (suffixed_err_ok (p:=p) P hs (by rw [PySem.ofString_length];decide) (by show c.A.depth+1+5 <_;refine' qL2 ‹_› (by nofun)) ⟨rfl,q true⟩))))))))⟩)))
  | some ch=>
    obtain ⟨hlt,hcons⟩:=drop_ch hg
    refine EB_nil (EB_nil ?_)
    have hq:pPart ((L src).drop p)=if bareB ch then .ok (skipW bareB ((L src).drop p),((L src).drop p).take (skipW bareB ((L src).drop p)))
     else if ch=39 then shiftO 1 (fun z=>(1+z.1,z.2)) (pLit ((L src).drop (p+1)))
     else if ch=34 then shiftO 1 (fun z=>(1+z.1,z.2)) (pB ((L src).drop (p+1))) else .error (0,partMsg):=by
     rw [hcons];rfl
    rw [hq] at q
    cases hb:bareB ch with
    | true=>
      rw [hb,if_pos rfl] at q
      refine EB_cons (ES_if (ET_cmp (EV_loc (EV_glob P.G m1 (.ref _) (Op_in_set m2 m3 ⟨true,congrArg some ((m4 ch).trans hb),?_⟩)))))
      refine EB_cons (ES_assign (EV_loc (EB_cons (ES_assign (EV_call (EV_glob P.G P.skip.mg (.ref _) ⟨418,_,_,rfl,P.skip.ob,rfl,EL_cons (EV_loc (EL_cons (EV_loc (EL_cons (EV_glob P.G m1 (.ref _) (EL_nil (EK_nil ?_)))))))⟩))))))
      refine skip_ok P m2 m3 m4 hs hp (by show c.A.depth+1+2 <_;refine' qL2 ‹_› (by nofun)) hh' ?_
      refine EB_cons (ES_return (EV_tuple (EL_cons (EV_loc (EL_cons (EV_slice (EV_loc (EP_some (EV_loc (EP_some (EV_loc ⟨_,_,_,rfl,rfl,rfl,EL_nil ⟨?_,?_⟩⟩)))))))))))
      ·rw [sizeLine_eq];show 2≤_;decide
      ·rw [slice_eq,show p+skipW bareB ((L src).drop p) -p=skipW bareB ((L src).drop p) by refine' Nat.add_sub_cancel_left ..];exact q
    | false=>
      rw [hb,if_neg (by decide)] at q
      refine EB_cons (ES_if (ET_cmp (EV_loc (EV_glob P.G m1 (.ref _) (Op_in_set m2 m3 ⟨false,congrArg some ((m4 ch).trans hb),EB_nil ?_⟩)))))
      by_cases h39:ch=39
      ·rw [if_pos h39] at q
       refine EB_cons (ES_if (ET_cmp (EV_loc (EV_str (Op_eq_str ⟨true,sgn_is ap h39,?_⟩)))))
       have q2:=q.shift
       refine EB_cons (ES_return (EV_call (EV_glob P.G P.lit.mg (.ref _) ⟨510,_,_,rfl,P.lit.ob,rfl,EL_cons (EV_loc (EL_cons (EV_loc (EL_nil (EK_nil (parse_literal_ok P hs hlt (by show c.A.depth+1+12 <_;refine' qL2 ‹_› (by nofun)) hh' ?_))))))⟩)))
       refine q2.imp (fun z h=>?_) fun _ h=>h
       dsimp only at h;rw [←Nat.add_assoc] at h;exact h
      ·rw [if_neg h39] at q
       refine EB_cons (ES_if (ET_cmp (EV_loc (EV_str (Op_eq_str ⟨false,sgn_not ap h39,EB_nil ?_⟩)))))
       by_cases h34:ch=34
       ·rw [if_pos h34] at q
        refine EB_cons (ES_if (ET_cmp (EV_loc (EV_str (Op_eq_str ⟨true,sgn_is qt h34,?_⟩)))))
        have q2:=q.shift
        refine EB_cons (ES_return (EV_call (EV_glob P.G P.one.mg (.ref _) ⟨467,_,_,rfl,P.one.ob,rfl,EL_cons (EV_loc (EL_cons (EV_loc (EL_nil (EK_nil (parse_one_ok P hs hlt (by show c.A.depth+1+18 <_;refine' qL2 ‹_› (by nofun)) hh' ?_))))))⟩)))
        refine q2.imp (fun z h=>?_) fun _ h=>h
        dsimp only at h;rw [←Nat.add_assoc] at h;exact h
       ·rw [if_neg h34] at q
        refine EB_cons (ES_if (ET_cmp (EV_loc (EV_str (Op_eq_str ⟨false,sgn_not qt h34,?_⟩)))))
        refine EB_nil ?_
        refine EB_cons (ES_raise P.own hh' (EX_call (EV_glob P.G P.suffixed.mg (.ref _) ⟨538,_,_,rfl,P.suffixed.ob,rfl,EL_cons (EV_loc (EL_cons (EV_loc (EL_cons (EV_str (EL_nil (EK_nil (suffixed_err_ok (p:=p) P hs (by rw [PySem.ofString_length];decide) (by show c.A.depth+1+5 <_;refine' qL2 ‹_› (by nofun)) ⟨rfl,q true⟩))))))))⟩)))
end
end
section
noncomputable def pTail:Nat→List Nat→List (List Nat)→Out (Nat×List (List Nat))
 | 0,_,ps=>.ok (0,ps)
 | n+1,r,ps=>match r with
   | []=>.ok (0,ps)
   | c::t=>if c=46 then match pPart (t.drop (skipW wsB t)) with
      | .error (i,m)=>.error (1+skipW wsB t+i,m)
      | .ok (k,s)=>shiftO (1+skipW wsB t+k+skipW wsB ((t.drop (skipW wsB t)).drop k)) (fun z=>(1+skipW wsB t+k+skipW wsB ((t.drop (skipW wsB t)).drop k)+z.1,z.2))
         (pTail n (((t.drop (skipW wsB t)).drop k).drop (skipW wsB ((t.drop (skipW wsB t)).drop k))) (ps++[s]))
     else .ok (0,ps)
noncomputable def pKey (r:List Nat):Out (Nat×List (List Nat)):=match pPart r with
 | .error e=>.error e
 | .ok (k,s)=>shiftO (k+skipW wsB (r.drop k)) (fun z=>(k+skipW wsB (r.drop k)+z.1,z.2)) (pTail (r.length+1) ((r.drop k).drop (skipW wsB (r.drop k))) [s])
theorem skipW_le (E:Nat→Bool) (l:List Nat):skipW E l≤l.length:=(List.takeWhile_sublist _).length_le
theorem badIn_len {E:Nat→Bool} {m:List Nat} {k:Nat} (h:badIn E m=.ok k):k=m.length:=by
 unfold badIn at h
 split at h
 ·cases h
 ·cases h;rfl
theorem pLit_len {r:List Nat} {k:Nat} {s:List Nat} (h:pLit r=.ok (k,s)):k≤r.length:=by
 unfold pLit skipU at h
 cases hf:fst1 39 r with
 | some i=>
   rw [hf] at h
   have:=fst1_lt hf
   cases hb:badIn illB (r.take i) with
   | error e=>simp only [hb] at h;cases h
   | ok j=>
     simp only [hb] at h
     cases h
     have:=badIn_len hb
     rw [List.length_take] at this;lia
 | none=>rw [hf] at h;simp only [if_true] at h;cases h
theorem pBas_len:∀{n:Nat} {r:List Nat} {k:Nat} {s:List Nat},pBas n r=.ok (k,s)→k≤r.length
 | 0,r,k,s,h=>by cases h
 | n+1,[],k,s,h=>by cases h
 | n+1,c::t,k,s,h=>by
   rw [pBas] at h
   split at h
   ·cases h;simp
   ·split at h
    ·cases he:pEsc (c::t) with
     | error e=>rw [he] at h;cases h
     | ok z=>
       obtain ⟨kk,d⟩:=z
       rw [he] at h
       dsimp only at h
       obtain ⟨_,b2,_⟩:=pEsc_len he
       cases hr:pBas n ((c::t).drop kk) with
       | error e=>rw [hr] at h;cases h
       | ok z=>
         rw [hr] at h
         cases h
         have:=pBas_len hr
         rw [List.length_drop] at this;first | refine' qs7 ‹_› ‹_› | (dsimp only;lia)
    ·split at h
     ·cases h
     ·cases hr:pBas n t with
      | error e=>rw [hr] at h;cases h
      | ok z=>
        rw [hr] at h
        cases h
        have:=pBas_len hr
        simp only [List.length_cons];first | lia | (dsimp only;lia)
theorem pPart_len {r:List Nat} {k:Nat} {s:List Nat} (h:pPart r=.ok (k,s)):k≤r.length:=by
 cases r with
 | nil=>cases h
 | cons c t=>
   unfold pPart at h
   dsimp only at h
   split at h
   ·cases h;exact skipW_le ..
   ·split at h
    ·cases hr:pLit t with
     | error e=>rw [hr] at h;cases h
     | ok z=>rw [hr] at h;cases h;have:=pLit_len hr;simp only [List.length_cons];first | lia | (dsimp only;lia)
    ·split at h
     ·cases hr:pB t with
      | error e=>rw [hr] at h;cases h
      | ok z=>rw [hr] at h;cases h;have:=pBas_len hr;simp only [List.length_cons];first | lia | (dsimp only;lia)
     ·cases h
noncomputable def tl:Nat→List Nat→Nat
 | 0,_=>0
 | n+1,r=>match r with
   | []=>0
   | c::t=>if c=46 then match pPart (t.drop (skipW wsB t)) with
      | .error _=>0
      | .ok (k,_)=>1+tl n (((t.drop (skipW wsB t)).drop k).drop (skipW wsB ((t.drop (skipW wsB t)).drop k)))
     else 0
noncomputable def keyN (r:List Nat):Nat:=match pPart r with | .error _=>0 | .ok (k,_)=>1+tl (r.length+1) ((r.drop k).drop (skipW wsB (r.drop k)))
theorem tl_le:∀(n:Nat) (r:List Nat),tl n r≤r.length
 | 0,_=>Nat.zero_le _
 | n+1,[]=>Nat.zero_le _
 | n+1,c::t=>by
   rw [tl]
   split
   ·split
    ·exact Nat.zero_le _
    ·rename_i k _ _
     have:=tl_le n (((t.drop (skipW wsB t)).drop k).drop (skipW wsB ((t.drop (skipW wsB t)).drop k)))
     simp only [List.length_drop] at this
     simp only [List.length_cons];refine' r9' ‹_›
   ·exact Nat.zero_le _
theorem keyN_le (r:List Nat):keyN r≤r.length+1:=by
 unfold keyN
 split
 ·refine' Nat.le_add_left _ _
 ·rename_i k _ _
  have:=tl_le (r.length+1) ((r.drop k).drop (skipW wsB (r.drop k)))
  simp only [List.length_drop] at this
  refine' r9 ‹_›
theorem tl_ok:∀(n:Nat) (r:List Nat) (ps:List (List Nat)) {k:Nat} {s:List (List Nat)},pTail n r ps=.ok (k,s)→ps.length+tl n r=s.length
 | 0,_,_,_,_,h=>by cases h;rfl
 | n+1,[],_,_,_,h=>by cases h;rfl
 | n+1,c::t,ps,k,s,h=>by
   rw [pTail] at h
   rw [tl]
   split at h
   ·rename_i hc
    rw [if_pos hc]
    cases hp:pPart (t.drop (skipW wsB t)) with
    | error e=>rw [hp] at h;cases h
    | ok z=>
      obtain ⟨k1,s1⟩:=z
      rw [hp] at h
      dsimp only at h ⊢
      generalize hr:pTail n _ _=o at h
      cases o with
      | error e=>cases h
      | ok z=>
        obtain ⟨k2,s2⟩:=z
        have:=tl_ok n _ _ hr
        rw [List.length_append] at this
        cases h
        simp only [List.length_cons,List.length_nil] at this
        first | lia | (dsimp only;lia)
   ·rename_i hc
    rw [if_neg hc]
    cases h;rfl
theorem keyN_ok {r:List Nat} {k:Nat} {s:List (List Nat)} (h:pKey r=.ok (k,s)):keyN r=s.length:=by
 unfold pKey at h
 unfold keyN
 cases hp:pPart r with
 | error e=>rw [hp] at h;cases h
 | ok z=>
   obtain ⟨k1,s1⟩:=z
   rw [hp] at h
   dsimp only at h ⊢
   generalize hr:pTail _ _ _=o at h
   cases o with
   | error e=>cases h
   | ok z=>
     obtain ⟨k2,s2⟩:=z
     have:=tl_ok _ _ _ hr
     cases h
     exact this
section
variable {K:Kx} {c:Cx} {st:St} {Q:V→St→Prop} {X:Xc→St→Prop} {F:Xc→St→Prop}
abbrev kKey (Q:V→St→Prop) (st:St) (p j:Nat) (z:Nat×List (List Nat)):Prop:=Q (.tup [.int (p+j+z.1:Nat),.tup (strV z.2)]) st
noncomputable abbrev kSt (src:Str) (st:St) (p j:Nat) (ps:List (List Nat)):St:=⟨[(S_ "src",.str src),(S_ "pos",.int (p+j:Nat)),(S_ "key",.tup (strV ps))],st.sto⟩
inductive KIv (K:Kx) (src:Str) (p:Nat) (Q:V→St→Prop) (X:Xc→St→Prop) (st:St) (n:Nat) (st':St):Prop
 | mk (j:Nat) (ps:List (List Nat)) (hp:p+j≤src.length) (hn:src.length <p+j+n) (h0:ps≠[]) (hc:ps.length+tl n ((L src).drop (p+j))≤950)
    (q:Ends K src (p+j) (pTail n ((L src).drop (p+j)) ps) (kKey Q st p j) X st) (le:St.Le (kSt src st p j ps) st')
theorem kKey_move {n p j N:Nat} {src:Str} {ps:List (List Nat)} (q:Ends K src (p+j) (shiftO N (fun z=>(N+z.1,z.2)) (pTail n (((L src).drop (p+j)).drop N) ps)) (kKey Q st p j) X st):
 Ends K src (p+(j+N)) (pTail n ((L src).drop (p+(j+N))) ps) (kKey Q st p (j+N)) X st:=by
 have q2:=q.shift
 rw [List.drop_drop] at q2
 rw [←Nat.add_assoc]
 refine q2.imp (fun z h=>?_) fun _ h=>h
 show Q (.tup [.int (p+(j+N)+z.1:Nat),.tup (strV z.2)]) st
 rw [show p+(j+N)+z.1=p+j+(N+z.1) by lia]
 exact h
theorem pTail_nil (n:Nat) (ps:List (List Nat)):pTail n [] ps=.ok (0,ps):=by cases n<;>rfl
variable {m ch i W W3 N:Nat} {mm:Str} {r t v:List Nat} {ps:List (List Nat)}
theorem pTail_else (e:r=ch::t) (h:¬ch=46):pTail (m+1) r ps=.ok (0,ps):=by subst e;rw [pTail,if_neg h]
theorem pTail_err (e:r=ch::t) (h:ch=46) (hW:skipW wsB t=W) (hp:pPart (t.drop W)=.error (i,mm)):pTail (m+1) r ps=.error (1+W+i,mm):=by
 subst e;subst hW;rw [pTail,if_pos h,hp]
theorem key_drop (e:r=ch::t) (i:Nat):r.drop (1+W+i+W3)=((t.drop W).drop i).drop W3:=by
 subst e;rw [show 1+W+i+W3=W+i+W3+1 by lia,List.drop_succ_cons,List.drop_drop,List.drop_drop,Nat.add_assoc]
theorem pTail_ok (e:r=ch::t) (h:ch=46) (hW:skipW wsB t=W) (hp:pPart (t.drop W)=.ok (i,v)) (h3:skipW wsB ((t.drop W).drop i)=W3):
 pTail (m+1) r ps=shiftO (1+W+i+W3) (fun z=>(1+W+i+W3+z.1,z.2)) (pTail m (r.drop (1+W+i+W3)) (ps++[v])):=by
 rw [key_drop e];subst e;subst hW;subst h3;rw [pTail,if_pos h,hp]
theorem tl_ok' (e:r=ch::t) (h:ch=46) (hW:skipW wsB t=W) (hp:pPart (t.drop W)=.ok (i,v)) (h3:skipW wsB ((t.drop W).drop i)=W3):tl (m+1) r=1+tl m (r.drop (1+W+i+W3)):=by
 rw [key_drop e];subst e;subst hW;subst h3;rw [tl,if_pos h,hp]
theorem skipW_at {x:Str} {a:Nat} (h:a≤x.length) (e:skipW wsB ((L x).drop a)=W):a+W≤x.length:=by
 have:=skipW_le wsB ((L x).drop a)
 rw [List.length_drop,L_length,e] at this;refine' qs7 ‹_› ‹_›
theorem pPart_at {x:Str} {a:Nat} (h:a≤x.length) (e:pPart ((L x).drop a)=.ok (i,v)):a+i≤x.length:=by
 have:=pPart_len e
 rw [List.length_drop,L_length] at this;refine' qs7 ‹_› ‹_›
noncomputable abbrev cxY (K:Kx) (c:Cx) (L':Addr):Cx:=cxIn c (fdOf (u453 K.w.params)) 453 L'
noncomputable def keyW:List Stmt:=whB ((fdB (bod.getD 47 dS)).getD 3 dS)
theorem key_turn (P:Pk11 K) {src:Str} {p j:Nat} {L':Addr} {R:Fl→St→Prop} {X':Xc→St→Prop} (hs:src.length≤1000000) (hroom:c.A.depth+24 <recursionLimit) (hh:c.A.handled=none)
 (hlt:p+j <src.length) (hn:src.length <p+j+(m+1)) (h0:ps≠[]) (hc:ps.length+tl (m+1) ((L src).drop (p+j))≤950) (hcons:(L src).drop (p+j)=ch::(L src).drop (p+j+1))
 (q:Ends K src (p+j) (pTail (m+1) ((L src).drop (p+j)) ps) (kKey Q st p j) X st)
 (hR:∀v st',st'.sto=st.sto→Q v st→R (.ret v) st') (hX:∀e,X e st→∀st',st'.sto=st.sto→X' e st') (hI:∀st',KIv K src p Q X st m st'→R .next st'):
 EB K (cxY K c L') (keyW.drop 1) ⟨(S_ "char",.str ⟨#[ch]⟩)::(kSt src st p j ps).loc,st.sto⟩ R X':=by
 have hh':(cxY K c L').A.handled=none:=hh
 have hsl:sizeLine=16777216:=sizeLine_eq
 obtain ⟨a,k,S,m1,m2,m3,m4⟩:=P.ws.is
 have dot:(Str.ofString ".").cps.toList=[46]:=by decide+kernel
 by_cases h46:ch=46
 ·refine EB_cons (ES_if (ET_cmp (EV_loc (EV_str (Op_ne_str ⟨false,sgn_nis dot h46,EB_nil ?_⟩)))))
  refine EB_cons (ES_aug (EV_int (Op_iadd_int ?_)) rfl)
  refine EB_cons (ES_assign (EV_call (EV_glob P.G P.skip.mg (.ref _) ⟨418,_,_,rfl,P.skip.ob,rfl,EL_cons (EV_loc (EL_cons (EV_loc (EL_cons (EV_glob P.G m1 (.ref _) (EL_nil (EK_nil ?_)))))))⟩)))
  refine skip_ok (p:=p+j+1) P m2 m3 m4 hs hlt (by show c.A.depth+1+2 <_;refine' qL2 ‹_› (by nofun)) hh' ?_
  obtain ⟨W,hW⟩:∃W,skipW wsB ((L src).drop (p+j+1))=W:=⟨_,rfl⟩
  have hw2:=skipW_at (x:=src) hlt hW
  rw [hW]
  refine EB_cons (ES_unpack hh' (EV_call (EV_glob P.G P.part.mg (.ref _) ⟨460,_,_,rfl,P.part.ob,rfl,EL_cons (EV_loc (EL_cons (EV_loc (EL_nil (EK_nil (parse_part_ok (p:=p+j+1+W) P hs hw2 (by show c.A.depth+1+20 <_;refine' qL2 ‹_› (by nofun)) hh' ?_))))))⟩)))
  cases hp2:pPart ((L src).drop (p+j+1+W)) with
  | error e=>
    obtain ⟨i,mm⟩:=e
    rw [pTail_err hcons h46 hW (by rw [List.drop_drop];exact hp2)] at q
    intro b
    have h:=q b
    rw [show p+j+(1+W+i)=p+j+1+W+i by lia] at h
    exact hX _ h _ rfl
  | ok z=>
    obtain ⟨i,v⟩:=z
    have hk2:=pPart_at hw2 hp2
    refine ⟨_,rfl,rfl,AS_name (AS_name (AS_nil ?_))⟩
    have hlen:(strV ps++[V.str ⟨v.toArray⟩]).length=ps.length+1:=by rw [List.length_append,List.length_map];rfl
    obtain ⟨W3,h3⟩:∃W3,skipW wsB ((L src).drop (p+j+1+W+i))=W3:=⟨_,rfl⟩
    have hw3:=skipW_at hk2 h3
    have h2:pPart (((L src).drop (p+j+1)).drop W)=.ok (i,v):=by rw [List.drop_drop];exact hp2
    have h3':skipW wsB ((((L src).drop (p+j+1)).drop W).drop i)=W3:=by rw [List.drop_drop,List.drop_drop,←Nat.add_assoc];exact h3
    rw [tl_ok' hcons h46 hW h2 h3',List.drop_drop] at hc
    rw [pTail_ok hcons h46 hW h2 h3'] at q
    have hlp:ps.length+1≤950:=by refine' r31 ‹_›
    have ea:p+j+1+W+i+W3=p+(j+(1+W+i+W3)):=by lia
    have hpj:p+(j+(1+W+i+W3))≤src.length:=ea▸hw3
    clear hp2 hW h2 h3' hcons h46 hw2 hw3
    refine EB_cons (ES_aug (EV_tuple (EL_cons (EV_loc (EL_nil ⟨?_,Op_iadd_tup ?_ ?_ ?_ ?_⟩)))) rfl)
    ·show 1≤_;with_reducible (apply qS;symm)
    ·simpa using h0
    ·simp
    ·rw [List.length_map];show ps.length+1≤_;refine' qN ‹_› (by nofun)
    obtain ⟨mt,hmt⟩:=P.maxK
    refine EB_cons (ES_if (ET_cmp (EV_callB (EV_blt P.G P.len.mg P.len.mb (.blt _) ⟨_,rfl,EL_cons (EV_loc (EL_nil (CF_len_tup ?_ (EV_glob P.G hmt (.int _ _) (Op_gt_int ⟨false,congrArg some (decide_eq_false ?_),EB_nil ?_⟩)))))⟩))))
    ·rw [hlen];refine' qM ‹_› (by nofun)
    ·rw [hlen];lia
    refine EB_cons (ES_assign (EV_call (EV_glob P.G P.skip.mg (.ref _) ⟨418,_,_,rfl,P.skip.ob,rfl,EL_cons (EV_loc (EL_cons (EV_loc (EL_cons (EV_glob P.G m1 (.ref _) (EL_nil (EK_nil ?_)))))))⟩)))
    refine skip_ok (p:=p+j+1+W+i) P m2 m3 m4 hs hk2 (by show c.A.depth+1+2 <_;refine' qL2 ‹_› (by nofun)) hh' ?_
    rw [h3]
    refine EB_nil (hI _ ⟨j+(1+W+i+W3),ps++[v],hpj,by refine' r33' ‹_›,by simp,?_,kKey_move q,leA (List.Sublist.refl _) ⟨rfl,congrArg (fun n:Nat=>some (V.int n)) ea,congrArg (fun l=>some (V.tup l)) (by simp),trivial⟩⟩)
    rw [←Nat.add_assoc,List.length_append];show ps.length+1+_≤_;refine' r31' ‹_›
 ·refine EB_cons (ES_if (ET_cmp (EV_loc (EV_str (Op_ne_str ⟨true,sgn_nnot dot h46,?_⟩)))))
  rw [pTail_else hcons h46] at q
  exact EB_cons (ES_return (EV_tuple (EL_cons (EV_loc (EL_cons (EV_loc (EL_nil ⟨by show 2≤_;with_reducible (apply qS;symm),hR _ _ rfl q⟩)))))))
theorem parse_key_ok (P:Pk11 K) {src:Str} {p:Nat} (hs:src.length≤1000000) (hp:p≤src.length) (hcnt:keyN ((L src).drop p)≤950) (hroom:c.A.depth+24 <recursionLimit) (hh:c.A.handled=none)
 (q:Ends K src p (pKey ((L src).drop p)) (fun z=>Q (.tup [.int (p+z.1:Nat),.tup (strV z.2)]) st) X st):CF K c (.ref 453) [.str src,.int p] [] [] st Q X:=by
 refine CR.val<|CR_def (fd:=fdOf (u453 K.w.params)) (body:=fdB (bod.getD 47 dS)) (binds:=[(S_ "src",.str src),(S_ "pos",.int p)]) P.G P.key.ob rfl P.key.cd rfl (by refine' qL0 ‹_›) ?_ (by kernel_rfl!) (by kernel_rfl!) rfl rfl ?_
 ·intro s vs ks _ h1 h2
  obtain ⟨v,u,rfl,i1,i2⟩:=isl2 h1
  obtain rfl:=isl0 h2
  exact ⟨[(S_ "src",v),(S_ "pos",u)],.of_eq (by kernel_rfl!),rfl,.cons i1 (.cons i2 .nil)⟩
 ·intro L'
  have hh':(cxY K c L').A.handled=none:=hh
  have hsl:sizeLine=16777216:=sizeLine_eq
  obtain ⟨a,k,S,m1,m2,m3,m4⟩:=P.ws.is
  refine EB_cons (ES_unpack hh' (EV_call (EV_glob P.G P.part.mg (.ref _) ⟨460,_,_,rfl,P.part.ob,rfl,EL_cons (EV_loc (EL_cons (EV_loc (EL_nil (EK_nil (parse_part_ok P hs hp (by show c.A.depth+1+20 <_;refine' qL2 ‹_› (by nofun)) hh' ?_))))))⟩)))
  unfold pKey at q
  unfold keyN at hcnt
  cases hpt:pPart ((L src).drop p) with
  | error e=>rw [hpt] at q;exact q
  | ok z=>
    obtain ⟨i,v⟩:=z
    rw [hpt] at q hcnt
    have hk1:=pPart_at hp hpt
    refine ⟨_,rfl,rfl,AS_name (AS_name (AS_nil ?_))⟩
    refine EB_cons (ES_assign (EV_tuple (EL_cons (EV_loc (EL_nil ⟨?_,?_⟩)))))
    ·show 1≤_;with_reducible (apply qS;symm)
    refine EB_cons (ES_assign (EV_call (EV_glob P.G P.skip.mg (.ref _) ⟨418,_,_,rfl,P.skip.ob,rfl,EL_cons (EV_loc (EL_cons (EV_loc (EL_cons (EV_glob P.G m1 (.ref _) (EL_nil (EK_nil ?_)))))))⟩)))
    refine skip_ok (p:=p+i) P m2 m3 m4 hs hk1 (by show c.A.depth+1+2 <_;refine' qL2 ‹_› (by nofun)) hh' ?_
    have e1:((L src).drop p).drop i=(L src).drop (p+i):=List.drop_drop ..
    obtain ⟨W,hW⟩:∃W,skipW wsB ((L src).drop (p+i))=W:=⟨_,rfl⟩
    have hw1:=skipW_at hk1 hW
    have hcnt:1+tl (((L src).drop p).length+1) ((((L src).drop p).drop i).drop (skipW wsB (((L src).drop p).drop i)))≤950:=hcnt
    simp only [e1,hW] at q hcnt
    rw [hW]
    rw [List.drop_drop,Nat.add_assoc] at hcnt
    rw [show List.drop W (List.drop (p+i) (L src))=List.drop (i+W) (List.drop p (L src)) by rw [List.drop_drop,List.drop_drop,Nat.add_assoc]] at q
    clear hpt hW
    refine EB_cons (ES_while (KIv K src p Q X st) ?_ (((L src).drop p).length+1) ⟨i+W,[v],by rw [←Nat.add_assoc];exact hw1,by rw [List.length_drop,L_length];refine' r19' _ _ _,by simp,hcnt,by have h:=kKey_move (j:=0) q;rw [Nat.zero_add] at h;exact h,leA (List.Sublist.refl _) ⟨rfl,congrArg (fun n:Nat=>some (V.int n)) (Nat.add_assoc ..),rfl,trivial⟩⟩)
    clear q hcnt
    rintro nn st' ⟨j,ps,hp',hn',h0,hc,q,le⟩
    refine TB.weak le ?_
    clear le
    obtain ⟨m,rfl⟩:∃m,nn=m+1:=⟨nn -1,by refine' qP3 ‹_› ‹_›⟩
    refine ET_val (EV_bool ⟨true,rfl,?_⟩)
    refine EB_cons (ES_try (G:=P.G) ?_ P.indexE.mg P.indexE.mb (by rw [isSubtype_type];kernel_rfl) (by kernel_rfl))
    refine EB_cons (ES_assign (EV_sub (EV_loc (EV_loc (Op_item_str hh' ?_ ?_)))))
    ·simp;refine' r27 ‹_≤1000000› ‹_›
    rw [signAt_nat]
    cases hg:(L src)[p+j]? with
    | none=>
      rw [List.drop_eq_nil_of_le (List.getElem?_eq_none_iff.mp hg),pTail_nil] at q
      refine ⟨"IndexError",true,rfl,by rw [isSubtype_type];kernel_rfl,fun e=>?_⟩
      refine EB_cons (ES_assign (EV_none (EB_nil ?_)))
      refine EB_cons (ES_if (ET_cmp (EV_loc (EV_str (Op_ne_none_str ⟨_,rfl,?_⟩)))))
      exact EB_cons (ES_return (EV_tuple (EL_cons (EV_loc (EL_cons (EV_loc (EL_nil ⟨by show 2≤_;with_reducible (apply qS;symm),q⟩)))))))
    | some ch=>
      obtain ⟨hlt,hcons⟩:=drop_ch hg
      refine EB_nil (EB_nil ?_)
      refine key_turn P hs hroom hh hlt hn' h0 hc hcons q ?_ ?_ ?_
      ·exact fun v st' e' h=>by show Q _ (⟨st.loc,st'.sto⟩:St);rw [e'];exact h
      ·exact fun e h st' e'=>by show X _ (⟨st.loc,st'.sto⟩:St);rw [e'];exact h
      ·exact fun st' h=>⟨m,Nat.lt_succ_self _,h⟩
end
end
section
noncomputable def pVal (r:List Nat):Out (Nat×List Nat):=match r with
 | []=>.error (0,S_ "")
 | c::t=>if c=34 then shiftO 1 (fun z=>(1+z.1,z.2)) (pB t) else shiftO 1 (fun z=>(1+z.1,z.2)) (pLit t)
section
variable {K:Kx} {c:Cx} {st:St} {Q:V→St→Prop} {X:Xc→St→Prop} {F:Xc→St→Prop}
theorem parse_value_ok (P:Pk11 K) {src:Str} {p ch:Nat} {t:List Nat} {pf:V} (hs:src.length≤1000000) (hd:(L src).drop p=ch::t) (hc:ch=34∨ch=39) (h3:((L src).drop p).take 3≠[ch,ch,ch]) (hroom:c.A.depth+24 <recursionLimit) (hh:c.A.handled=none)
 (q:Ends K src p (pVal ((L src).drop p)) (fun z=>Q (.tup [.int (p+z.1:Nat),.str ⟨z.2.toArray⟩]) st) X st):CF K c (.ref 531) [.str src,.int p,pf] [] [] st Q X:=by
 have hlt:p <src.length:=by
  have:=congrArg List.length hd
  rw [List.length_drop,L_length,List.length_cons] at this;refine' qs3 ‹_›
 have hg:(L src)[p]?=some ch:=by
  have:=congrArg (·[0]?) hd
  simpa using this
 have ht:t=(L src).drop (p+1):=by
  have:=congrArg List.tail hd
  simpa using this.symm
 refine CR.val<|CR_def (fd:=fdOf (u531 K.w.params)) (body:=fdB (bod.getD 58 dS)) (binds:=[(S_ "src",.str src),(S_ "pos",.int p),(S_ "parse_float",pf)]) P.G P.val.ob rfl P.val.cd rfl (by refine' qL0 ‹_›) ?_ (by kernel_rfl!) (by kernel_rfl!) rfl rfl ?_
 ·intro s vs ks _ h1 h2
  obtain ⟨v,u,w,rfl,i1,i2,i3⟩:=isl3 h1
  obtain rfl:=isl0 h2
  exact ⟨[(S_ "src",v),(S_ "pos",u),(S_ "parse_float",w)],.of_eq (by kernel_rfl!),rfl,.cons i1 (.cons i2 (.cons i3 .nil))⟩
 ·intro L'
  have hh':(cxIn c (fdOf (u531 K.w.params)) 531 L').A.handled=none:=hh
  have ap:(Str.ofString "'").cps.toList=[39]:=by decide+kernel
  have qt:(Str.ofString "\"").cps.toList=[34]:=by decide+kernel
  have qt3:L (Str.ofString "\"\"\"")=[34,34,34]:=by decide+kernel
  have ap3:L (Str.ofString "'''")=[39,39,39]:=by decide+kernel
  have qtl:(Str.ofString "\"\"\"").length=3:=by rw [PySem.ofString_length];rfl
  have apl:(Str.ofString "'''").length=3:=by rw [PySem.ofString_length];rfl
  refine EB_cons (ES_try (G:=P.G) ?_ P.indexE.mg P.indexE.mb (by rw [isSubtype_type];kernel_rfl) (by kernel_rfl))
  refine EB_cons (ES_assign (EV_sub (EV_loc (EV_loc (Op_item_str hh' ?_ ?_)))))
  ·simp;lia
  rw [signAt_nat,hg]
  refine EB_nil (EB_nil ?_)
  refine EB_cons (ES_if (ET_cmp (EV_loc (EV_str (Op_eq_str ⟨_,rfl,?_⟩)))))
  rw [qt]
  rw [hd] at q
  rcases hc with rfl | rfl
  ·rw [show ((⟨#[34]⟩:Str).cps.toList==[34])=true from rfl]
   have q2:Ends K src p (shiftO 1 (fun z=>(1+z.1,z.2)) (pB t)) (fun z=>Q (.tup [.int (p+z.1:Nat),.str ⟨z.2.toArray⟩]) st) X st:=q
   have q3:=q2.shift
   rw [ht] at q3
   refine EB_cons (ES_if (ET_val (EV_meth PySem.F.plainAttrs_str PySem.F.slot_str_startswith PySem.F.type_str_startswith (EV_loc ⟨.str,EL_cons (EV_str (EL_cons (EV_loc (EL_nil (CF_startswith ⟨_,rfl,?_⟩)))))⟩))))
   rw [subAt_list,qt3,qtl,beq_eq_false_iff_ne.mpr h3,Bool.and_false]
   refine EB_nil (EB_cons (ES_return (EV_call (EV_glob P.G P.one.mg (.ref _) ⟨467,_,_,rfl,P.one.ob,rfl,EL_cons (EV_loc (EL_cons (EV_loc (EL_nil (EK_nil (parse_one_ok P hs hlt (by show c.A.depth+1+18 <_;refine' qL2 ‹_› (by nofun)) hh' ?_))))))⟩))))
   refine q3.imp (fun z h=>?_) fun _ h=>h
   dsimp only at h;rw [←Nat.add_assoc] at h;exact h
  ·rw [show ((⟨#[39]⟩:Str).cps.toList==[34])=false from rfl]
   have q2:Ends K src p (shiftO 1 (fun z=>(1+z.1,z.2)) (pLit t)) (fun z=>Q (.tup [.int (p+z.1:Nat),.str ⟨z.2.toArray⟩]) st) X st:=q
   have q3:=q2.shift
   rw [ht] at q3
   refine EB_nil (EB_cons (ES_if (ET_cmp (EV_loc (EV_str (Op_eq_str ⟨_,rfl,?_⟩))))))
   rw [ap,show ((⟨#[39]⟩:Str).cps.toList==[39])=true from rfl]
   refine EB_cons (ES_if (ET_val (EV_meth PySem.F.plainAttrs_str PySem.F.slot_str_startswith PySem.F.type_str_startswith (EV_loc ⟨.str,EL_cons (EV_str (EL_cons (EV_loc (EL_nil (CF_startswith ⟨_,rfl,?_⟩)))))⟩))))
   rw [subAt_list,ap3,apl,beq_eq_false_iff_ne.mpr h3,Bool.and_false]
   refine EB_nil (EB_cons (ES_return (EV_call (EV_glob P.G P.lit.mg (.ref _) ⟨510,_,_,rfl,P.lit.ob,rfl,EL_cons (EV_loc (EL_cons (EV_loc (EL_nil (EK_nil (parse_literal_ok P hs hlt (by show c.A.depth+1+12 <_;refine' qL2 ‹_› (by nofun)) hh' ?_))))))⟩))))
   refine q3.imp (fun z h=>?_) fun _ h=>h
   dsimp only at h;rw [←Nat.add_assoc] at h;exact h
theorem parse_pair_ok (P:Pk11 K) {src:Str} {p k w n ch:Nat} {names:List (List Nat)} {t s:List Nat} {pf:V} (hs:src.length≤1000000) (hp:p≤src.length) (hcnt:names.length≤950)
 (hk:pKey ((L src).drop p)=.ok (k,names)) (heq:(L src)[p+k]?=some 61) (hw:skipW wsB ((L src).drop (p+k+1))=w) (hd:(L src).drop (p+k+1+w)=ch::t) (hc:ch=34∨ch=39)
 (h3:((L src).drop (p+k+1+w)).take 3≠[ch,ch,ch]) (hv:pVal (ch::t)=.ok (n,s)) (hroom:c.A.depth+30 <recursionLimit) (hh:c.A.handled=none)
 (q:Q (.tup [.int (p+k+1+w+n:Nat),.tup (strV names),.str ⟨s.toArray⟩]) st):CF K c (.ref 446) [.str src,.int p,pf] [] [] st Q X:=by
 have hlt:p+k <src.length:=by have:=(List.getElem?_eq_some_iff.mp heq).1;rwa [L_length] at this
 refine CR.val<|CR_def (fd:=fdOf (u446 K.w.params)) (body:=fdB (bod.getD 46 dS)) (binds:=[(S_ "src",.str src),(S_ "pos",.int p),(S_ "parse_float",pf)]) P.G P.pair.ob rfl P.pair.cd rfl (by refine' qL0 ‹_›) ?_ (by kernel_rfl!) (by kernel_rfl!) rfl rfl ?_
 ·intro s vs ks _ h1 h2
  obtain ⟨v,u,w,rfl,i1,i2,i3⟩:=isl3 h1
  obtain rfl:=isl0 h2
  exact ⟨[(S_ "src",v),(S_ "pos",u),(S_ "parse_float",w)],.of_eq (by kernel_rfl!),rfl,.cons i1 (.cons i2 (.cons i3 .nil))⟩
 ·intro L'
  have hh':(cxIn c (fdOf (u446 K.w.params)) 446 L').A.handled=none:=hh
  have hsl:sizeLine=16777216:=sizeLine_eq
  obtain ⟨a,kk,S,m1,m2,m3,m4⟩:=P.ws.is
  have eqs:(Str.ofString "=").cps.toList=[61]:=by decide+kernel
  refine EB_cons (ES_unpack hh' (EV_call (EV_glob P.G P.key.mg (.ref _) ⟨453,_,_,rfl,P.key.ob,rfl,EL_cons (EV_loc (EL_cons (EV_loc (EL_nil (EK_nil (parse_key_ok P hs hp (by rw [keyN_ok hk];exact hcnt) (by show c.A.depth+1+24 <_;refine' qL2 ‹_› (by nofun)) hh' ?_))))))⟩)))
  rw [hk]
  refine ⟨_,rfl,rfl,AS_name (AS_name (AS_nil ?_))⟩
  refine EB_cons (ES_try (G:=P.G) ?_ P.indexE.mg P.indexE.mb (by rw [isSubtype_type];kernel_rfl) (by kernel_rfl))
  refine EB_cons (ES_assign (EV_sub (EV_loc (EV_loc (Op_item_str (i:=((p+k:Nat):Int)) hh' ?_ ?_)))))
  ·simp;refine' q64 ‹_≤1000000› ‹_›
  rw [signAt_nat,heq]
  refine EB_nil (EB_nil ?_)
  refine EB_cons (ES_if (ET_cmp (EV_loc (EV_str (Op_ne_str ⟨_,rfl,?_⟩)))))
  rw [eqs,show ((⟨#[61]⟩:Str).cps.toList != [61])=false from rfl]
  refine EB_nil (EB_cons (ES_aug (EV_int (Op_iadd_int ?_))))
  refine EB_cons (ES_assign (EV_call (EV_glob P.G P.skip.mg (.ref _) ⟨418,_,_,rfl,P.skip.ob,rfl,EL_cons (EV_loc (EL_cons (EV_loc (EL_cons (EV_glob P.G m1 (.ref _) (EL_nil (EK_nil ?_)))))))⟩)))
  refine skip_ok (p:=p+k+1) P m2 m3 m4 hs (by refine' Nat.succ_le_of_lt ‹_›) (by show c.A.depth+1+2 <_;refine' qL2 ‹_› (by nofun)) hh' ?_
  rw [hw]
  refine EB_cons (ES_unpack hh' (EV_call (EV_glob P.G P.val.mg (.ref _) ⟨531,_,_,rfl,P.val.ob,rfl,EL_cons (EV_loc (EL_cons (EV_loc (EL_cons (EV_loc (EL_nil (EK_nil (parse_value_ok (p:=p+k+1+w) P hs hd hc h3 (by show c.A.depth+1+24 <_;refine' qL2 ‹_› (by nofun)) hh' ?_))))))))⟩)))
  rw [hd,hv]
  refine ⟨_,rfl,rfl,AS_name (AS_name (AS_nil ?_))⟩
  refine EB_cons (ES_return (EV_tuple (EL_cons (EV_loc (EL_cons (EV_loc (EL_cons (EV_loc (EL_nil ⟨?_,q⟩)))))))))
  rw [hsl];show 3≤_;decide
end
end
section
noncomputable def hexLo (d:Nat):Nat:=if d <10 then 48+d else 87+d
noncomputable def hexUp (d:Nat):Nat:=if d <10 then 48+d else 55+d
noncomputable def qSign (wide:Bool) (c:Nat):List Nat:=if c <32||(wide&&decide (c <256)) then [92,117,48,48,hexLo (c/16),hexUp (c%16)] else if c=34∨c=92 then [92,c] else [c]
noncomputable def qText (wide:Bool) (l:List Nat):List Nat:=[34]++l.flatMap (qSign wide)++[34]
section
variable {K:Kx} {c:Cx} {st:St} {Q:V→St→Prop} {X:Xc→St→Prop} {F:Xc→St→Prop}
theorem TB.mono {t:Sem Bool} {T T':Bool→St→Prop} (h:TB K c t st T X) (hT:∀b s,T b s→T' b s):TB K c t st T' X:=fun s r=>
 wpAny_mono (h s r) (fun _ _ ⟨st',n,q⟩=>⟨st',n,hT _ _ q⟩) fun _ _ z=>z
theorem qSign_len (w:Bool) (n:Nat):(qSign w n).length≤6:=by
 unfold qSign
 split
 ·simp
 ·split<;>simp
theorem flat_len (w:Bool):∀l:List Nat,l.length≤100000→(l.flatMap (qSign w)).length≤600000:=by
 have key:∀l:List Nat,(l.flatMap (qSign w)).length≤6*l.length:=by
  intro l
  induction l with
  | nil=>simp
  | cons a l ih=>
    have:=qSign_len w a
    simp only [List.flatMap_cons,List.length_append,List.length_cons];refine' q130 ‹_› ‹_›
 intro l h
 have:=key l
 lia
theorem quoted_ok (P:Pk11 K) {l:List Nat} {wide:Bool} (hs:l.length≤100000) (hroom:c.A.depth+4 <recursionLimit) (hh:c.A.handled=none)
 (q:Q (.str ⟨(qText wide l).toArray⟩) st):CF K c (.ref 552) [.str ⟨l.toArray⟩,.bool wide] [] [] st Q X:=by
 refine CR.val<|CR_def (fd:=fdOf (u552 K.w.params)) (body:=fdB (bod.getD 62 dS)) (binds:=[(S_ "text",.str ⟨l.toArray⟩),(S_ "wide",.bool wide)]) P.G P.quoted.ob rfl P.quoted.cd rfl (by refine' qL0 ‹_›) ?_ (by kernel_rfl!) (by kernel_rfl!) rfl rfl ?_
 ·intro s vs ks _ h1 h2
  obtain ⟨v,u,rfl,i1,i2⟩:=isl2 h1
  obtain rfl:=isl0 h2
  exact ⟨[(S_ "text",v),(S_ "wide",u)],.of_eq (by kernel_rfl!),rfl,.cons i1 (.cons i2 .nil)⟩
 ·intro L'
  have hh':(cxIn c (fdOf (u552 K.w.params)) 552 L').A.handled=none:=hh
  have hsl:sizeLine=16777216:=sizeLine_eq
  refine EB_cons (ES_assign (EV_str ?_))
  refine EB_cons (ES_for_str hh' (EV_loc ⟨_,rfl,fun i st₂=>st₂.loc.lookup (S_ "wide")=some (.bool wide)∧st₂.loc.lookup (S_ "out")=some (.str ⟨((l.take i).flatMap (qSign wide)).toArray⟩)∧st₂.sto=st.sto,⟨rfl,rfl,rfl⟩,?_,?_⟩))
  ·rintro i ch st₂ hg ⟨k1,k2,k3⟩
   have hlt:i <l.length:=by have:=(List.getElem?_eq_some_iff.mp hg).1;simpa [L] using this
   have hg':l[i]?=some ch:=by simpa [L] using hg
   have htk:(l.take (i+1)).flatMap (qSign wide)=(l.take i).flatMap (qSign wide)++qSign wide ch:=by
    rw [List.take_add_one,hg',List.flatMap_append];simp
   have hol:((l.take i).flatMap (qSign wide)).length≤600000:=flat_len wide (l.take i) (by rw [List.length_take];refine' qmn ‹_›)
   generalize ho:(l.take i).flatMap (qSign wide)=out at *
   refine EB_cons (ES_assign (EV_callB (EV_blt P.G P.ord_.mg P.ord_.mb (.blt _) ⟨_,rfl,EL_cons (EV_loc (EL_nil (CF_ord ?_)))⟩)))
   refine EB_cons (ES_if (TB.mono (T:=fun b s=>b=(decide (ch <32)||(wide&&decide (ch <256)))∧s=((st₂.set (S_ "sign") (.str ⟨#[ch]⟩)).set (S_ "code") (.int ch))) ?_ ?_))
   ·refine ET_boolop (EA_or (ET_cmp (EV_loc (EV_int (Op_lt_int ⟨_,rfl,?_⟩)))))
    have e1:decide ((ch:Int) <32)=decide (ch <32):=by rw [decide_eq_decide];refine' qclt _ _
    rw [e1]
    cases decide (ch <32) with
    | true=>exact ⟨rfl,rfl⟩
    | false=>
      refine EA_or (ET_boolop (EA_and (ET_val (EV_loc ⟨wide,rfl,?_⟩ ((List.lookup_cons ..).trans ((List.lookup_cons ..).trans k1))))))
      cases wide with
      | false=>exact EA_nil ⟨rfl,rfl⟩
      | true=>
        refine EA_and (ET_cmp (EV_loc (EV_int (Op_lt_int ⟨_,rfl,?_⟩))))
        have e2:decide ((ch:Int) <256)=decide (ch <256):=by rw [decide_eq_decide];refine' qclt _ _
        rw [e2]
        cases decide (ch <256) with
        | true=>exact EA_nil ⟨rfl,rfl⟩
        | false=>exact EA_nil ⟨rfl,rfl⟩
   ·rintro b s ⟨rfl,rfl⟩
    have k2':((st₂.set (S_ "sign") (.str ⟨#[ch]⟩)).set (S_ "code") (.int ch)).loc.lookup (S_ "out")=some (.str ⟨out.toArray⟩):=(List.lookup_cons ..).trans ((List.lookup_cons ..).trans k2)
    have k1':((st₂.set (S_ "sign") (.str ⟨#[ch]⟩)).set (S_ "code") (.int ch)).loc.lookup (S_ "wide")=some (.bool wide):=(List.lookup_cons ..).trans ((List.lookup_cons ..).trans k1)
    cases hb:(decide (ch <32)||(wide&&decide (ch <256))) with
    | true=>
      have hq:qSign wide ch=[92,117,48,48,hexLo (ch/16),hexUp (ch%16)]:=by unfold qSign;rw [if_pos hb]
      have hlt2:ch <256:=by
       rw [Bool.or_eq_true,Bool.and_eq_true,decide_eq_true_eq,decide_eq_true_eq] at hb;lia
      have lo:∀d:Nat,d <16→(L (Str.ofString "0123456789abcdef"))[d]?=some (hexLo d):=by decide+kernel
      have up:∀d:Nat,d <16→(L (Str.ofString "0123456789ABCDEF"))[d]?=some (hexUp d):=by decide+kernel
      have eu:Str.ofString "\\u00"=⟨[92,117,48,48].toArray⟩:=by decide+kernel
      have d1:(ch:Int).fdiv 16=((ch/16:Nat):Int):=by rw [Int.fdiv_eq_ediv_of_nonneg _ (by lia)];lia
      have d2:(ch:Int).fmod 16=((ch%16:Nat):Int):=by rw [Int.fmod_eq_emod_of_nonneg _ (by lia)];lia
      have kc:((st₂.set (S_ "sign") (.str ⟨#[ch]⟩)).set (S_ "code") (.int ch)).loc.lookup (S_ "code")=some (.int ch):=rfl
      refine EB_cons (ES_aug (EV_bin (EV_bin (EV_str (EV_sub (EV_str (EV_bin (EV_loc (EV_int (Op_fdiv_int (by decide) (PyProof.noPylong_small (by decide)) ?_)) kc))))))) k2')
      rw [d1]
      refine Op_item_str hh' (by simp;refine' r26 ‹_›) ?_
      rw [signAt_nat,lo _ (by lia),Option.map_some,eu]
      refine Op_add_str (by rw [mk_len];show 4+1≤_;with_reducible (apply qS;symm)) ?_
      rw [show (⟨#[hexLo (ch/16)]⟩:Str)=⟨[hexLo (ch/16)].toArray⟩ from rfl,mk_append]
      refine EV_sub (EV_str (EV_bin (EV_loc (EV_int (Op_fmod_int (by decide) ?_)) kc)))
      rw [d2]
      refine Op_item_str hh' (by simp;refine' r26' ‹_›) ?_
      rw [signAt_nat,up _ (by refine' Nat.mod_lt _ (Nat.succ_pos _)),Option.map_some]
      refine Op_add_str (by rw [mk_len];show 5+1≤_;with_reducible (apply qS;symm)) ?_
      rw [show (⟨#[hexUp (ch%16)]⟩:Str)=⟨[hexUp (ch%16)].toArray⟩ from rfl,mk_append]
      refine (Op_iadd_str ?_ (EB_nil ?_))
      ·rw [mk_len,mk_len];show out.length+6≤_;with_reducible (apply qS;symm)
      rw [mk_append]
      refine EB_nil ⟨(List.lookup_cons ..).trans k1',?_,k3⟩
      rw [htk,hq];rfl
    | false=>
      have hq:qSign wide ch=if ch=34∨ch=92 then [92,ch] else [ch]:=by unfold qSign;rw [hb];rfl
      refine EB_cons (ES_aug (EV_ifexp (ET_cmp (EV_loc (EV_str (Op_in_str1 ⟨_,rfl,?_⟩))))) k2')
      have el:(Str.ofString "\"\\").cps.toList=[34,92]:=by decide+kernel
      rw [el]
      by_cases h:ch=34∨ch=92
      ·rw [if_pos h] at hq
       rw [show decide (ch∈[34,92])=true from by simpa using h]
       have eb:Str.ofString "\\"=⟨[92].toArray⟩:=by decide+kernel
       rw [eb]
       refine EV_bin (EV_str (EV_loc (Op_add_str ?_ ?_)))
       ·rw [mk_len];show 1+1≤_;with_reducible (apply qS;symm)
       rw [show (⟨#[ch]⟩:Str)=⟨[ch].toArray⟩ from rfl,mk_append]
       refine (Op_iadd_str ?_ (EB_nil ?_))
       ·rw [mk_len,mk_len];show out.length+2≤_;with_reducible (apply qS;symm)
       rw [mk_append]
       refine EB_nil ⟨(List.lookup_cons ..).trans k1',?_,k3⟩
       rw [htk,hq];rfl
      ·rw [if_neg h] at hq
       rw [show decide (ch∈[34,92])=false from by simpa using h]
       refine EV_loc ?_
       rw [show (⟨#[ch]⟩:Str)=⟨[ch].toArray⟩ from rfl]
       refine (Op_iadd_str ?_ (EB_nil ?_))
       ·rw [mk_len,mk_len];show out.length+1≤_;with_reducible (apply qS;symm)
       rw [mk_append]
       refine EB_nil ⟨(List.lookup_cons ..).trans k1',?_,k3⟩
       rw [htk,hq];rfl
  ·rintro st₂ ⟨k1,k2,k3⟩
   have e2:(⟨st.loc,st₂.sto⟩:St)=st:=by rw [k3]
   rw [mk_len,List.take_length] at k2
   have hfl:(l.flatMap (qSign wide)).length≤600000:=flat_len wide l hs
   have eq34:Str.ofString "\""=⟨[34].toArray⟩:=by decide+kernel
   rw [eq34]
   refine EB_cons (ES_return (EV_bin (EV_bin (EV_str (EV_loc (Op_add_str ?_ (EV_str (Op_add_str ?_ ?_))) k2)))))
   ·rw [mk_len,mk_len];show 1+_≤_;with_reducible (apply qS;symm)
   ·rw [mk_append,mk_len,mk_len,List.length_append];show 1+_+1≤_;with_reducible (apply qS;symm)
   ·rw [mk_append,mk_append]
    show Q _ (⟨st.loc,st₂.sto⟩:St)
    rw [e2];exact q
end
end
section
section
variable {K:Kx} {c:Cx} {st:St} {Q:V→St→Prop} {X:Xc→St→Prop} {R:Fl→St→Prop}
inductive KPost (R:Fl→St→Prop) (f:Fl) (st:St):Prop
 | mk (st':St) (le:St.Le st' st) (q:R f st')
theorem TS.post {t:Sem Flow} (h:TS K c t st (KPost R) X):TS K c t st R X:=fun s r=>
 wpAny_mono (h s r) (fun _ _ ⟨fl,st₁,n,i,st₂,hle,q⟩=>⟨fl,st₂,n.less hle,i,q⟩) fun _ _ z=>z
end
noncomputable def plainC (c:Nat):Bool:=c != 39&&decide (32≤c)
noncomputable def lText (l:List Nat) (way:Nat):List Nat:=if way%3=1∧l.all plainC then [39]++l++[39] else qText (way%3==2) l
section
variable {K:Kx} {c:Cx} {st:St} {Q:V→St→Prop} {X:Xc→St→Prop}
theorem isC_strs (l:List (List Nat)):isC (strV l)=false:=by cases l<;>rfl
theorem qText_len {w:Bool} {l:List Nat}:(qText w l).length≤6*l.length+2:=by
 unfold qText
 have key:∀l:List Nat,(l.flatMap (qSign w)).length≤6*l.length:=by
  intro l
  induction l with
  | nil=>simp
  | cons a l ih=>
    have:=qSign_len w a
    simp only [List.flatMap_cons,List.length_append,List.length_cons];refine' q130 ‹_› ‹_›
 have:=key l
 simp only [List.length_append,List.length_cons,List.length_nil];lia
theorem lText_len (l:List Nat) (way:Nat):(lText l way).length≤6*l.length+2:=by
 unfold lText
 split
 ·simp only [List.length_append,List.length_cons,List.length_nil];lia
 ·exact qText_len
theorem nmod (n k:Nat):(n:Int).fmod (k:Int)=((n%k:Nat):Int):=by
 rw [Int.fmod_eq_emod_of_nonneg _ (by refine' Int.natCast_nonneg _)];lia
theorem ndiv (n k:Nat):(n:Int).fdiv (k:Int)=((n/k:Nat):Int):=by
 rw [Int.fdiv_eq_ediv_of_nonneg _ (by refine' Int.natCast_nonneg _)];lia
theorem text_ok (P:Pk11 K) {l:List Nat} {way:Nat} (hs:l.length≤100000) (hroom:c.A.depth+8 <recursionLimit) (hun:c.A.units+20 <cLine) (hh:c.A.handled=none)
 (q:Q (.str ⟨(lText l way).toArray⟩) st):CF K c (.ref 557) [.str ⟨l.toArray⟩,.int way] [] [] st Q X:=by
 refine CR.val<|CR_def (fd:=fdOf (u557 K.w.params)) (body:=fdB (bod.getD 63 dS)) (binds:=[(S_ "text",.str ⟨l.toArray⟩),(S_ "way",.int way)]) P.G P.text.ob rfl P.text.cd rfl (by refine' qL0 ‹_›) ?_ (by kernel_rfl!) (by kernel_rfl!) rfl rfl ?_
 ·intro s vs ks _ h1 h2
  obtain ⟨v,u,rfl,i1,i2⟩:=isl2 h1
  obtain rfl:=isl0 h2
  exact ⟨[(S_ "text",v),(S_ "way",u)],.of_eq (by kernel_rfl!),rfl,.cons i1 (.cons i2 .nil)⟩
 ·intro L'
  have hh':(cxIn c (fdOf (u557 K.w.params)) 557 L').A.handled=none:=hh
  have hsl:sizeLine=16777216:=sizeLine_eq
  have m3:(way:Int).fmod 3=((way%3:Nat):Int):=nmod way 3
  refine TS.post ?_
  have quoted:∀sto',st.sto.Sublist sto'→(lText l way=qText (way%3==2) l)→EB K (cxIn c (fdOf (u557 K.w.params)) 557 L') ((fdB (bod.getD 63 dS)).drop 1) ⟨[(S_ "way",.int way),(S_ "text",.str ⟨l.toArray⟩)],sto'⟩
   (KPost (kDef st (onlyV Q))) (kDefX st X):=by
   intro sto' hsub e
   refine EB_cons (ES_return (EV_call (EV_glob P.G P.quoted.mg (.ref _) ⟨552,_,_,rfl,P.quoted.ob,rfl,EL_cons (EV_loc (EL_cons (EV_cmp (EV_bin (EV_loc (EV_int (Op_fmod_int (by decide) (EV_int (Op_eq_int (EL_nil (EK_nil ?_)))))))))))⟩)))
   rw [m3,show (((way%3:Nat):Int)==2)=(way%3==2) from by rw [Bool.eq_iff_iff];simp;refine' qcm _ _ _]
   refine quoted_ok P hs (by show c.A.depth+1+4 <_;refine' qL2 ‹_› (by nofun)) hh' ⟨⟨[],st.sto⟩,le0 hsub,?_⟩
   show Q _ (⟨st.loc,st.sto⟩:St)
   rw [←e];exact q
  refine EB_cons (ES_if (ET_boolop (EA_and (ET_cmp (EV_bin (EV_loc (EV_int (Op_fmod_int (by decide) (EV_int (Op_eq_int ⟨_,rfl,?_⟩))))))))))
  rw [m3,show (((way%3:Nat):Int)==1)=decide (way%3=1) from by rw [Bool.eq_iff_iff];simp;refine' qcm _ _ _]
  by_cases h1:way%3=1
  ·rw [decide_eq_true h1]
   refine EA_and (ET_cmp (EV_comp [] hh' (by kernel_rfl!) (EV_loc ⟨_,fun _=>True,Src.str hh',trivial,fun _ _=>trivial,?_,fun i ys=>ys=strV ((l.take i).filter (fun ch=>!plainC ch) |>.map fun ch=>[ch]),rfl,?_,?_,?_⟩)))
   ·simp [signs,L];assumption
   ·rintro i ys rfl
    refine ⟨isC_strs _,?_⟩
    simp only [strV,List.length_map]
    exact Nat.le_trans (List.length_filter_le _ _) (by simp;refine' Nat.min_le_left _ _)
   ·intro C D i v ys loc hv hy
    have hlt:i <l.length:=by have:=(List.getElem?_eq_some_iff.mp hv).1;simpa [signs,L] using this
    have hg:l[i]?=some l[i]:=List.getElem?_eq_getElem hlt
    have hv':v=.str ⟨#[l[i]]⟩:=by
     simp only [signs,List.getElem?_map,L] at hv
     rw [hg] at hv
     exact (Option.some.inj hv).symm
    subst hv'
    have htk:(l.take (i+1)).filter (fun ch=>!plainC ch)=(l.take i).filter (fun ch=>!plainC ch)++(if plainC l[i] then [] else [l[i]]):=by
     rw [List.take_add_one,hg,List.filter_append]
     simp only [Option.toList_some]
     cases h:plainC l[i]<;>simp [h]
    refine TA_name ?_
    refine EI_one (ET_boolop (EA_or (ET_cmp (EV_loc (EV_str (Op_eq_str ⟨_,rfl,?_⟩))))))
    have e39:(Str.ofString "'").cps.toList=[39]:=by decide+kernel
    rw [e39]
    have e1:(([l[i]]:List Nat)==[39])=decide (l[i]=39):=by rw [Bool.eq_iff_iff];simp
    rw [show ((⟨#[l[i]]⟩:Str).cps.toList==[39])=decide (l[i]=39) from e1]
    by_cases h39:l[i]=39
    ·have hp:plainC l[i]=false:=by unfold plainC;simp [h39]
     rw [decide_eq_true h39]
     refine EV_loc ⟨rfl,?_⟩
     subst hy
     rw [htk,hp]
     simp [strV]
    ·rw [decide_eq_false h39]
     refine EA_or (ET_cmp (EV_callB (EV_blt P.G P.ord_.mg P.ord_.mb (.blt _) ⟨_,rfl,EL_cons (EV_loc (EL_nil (CF_ord (EV_int (Op_lt_int ⟨_,rfl,?_⟩)))))⟩)))
     have e2:decide ((l[i]:Int) <32)=!plainC l[i]:=by
      unfold plainC
      rw [Bool.eq_iff_iff];simp [h39];refine' qclt _ _
     rw [e2]
     cases hp:plainC l[i] with
     | true=>
       rw [Bool.not_true]
       refine EA_nil ?_
       show _∧_
       refine ⟨rfl,?_⟩
       subst hy
       rw [htk,hp];simp
     | false=>
       rw [Bool.not_false]
       refine EV_loc ⟨rfl,?_⟩
       subst hy
       rw [htk,hp]
       simp [strV]
   ·intro D ys hD hy
    have hall:(ys.length==0)=l.all plainC:=by
     subst hy
     rw [show (signs ⟨l.toArray⟩).length=l.length from by simp [signs,L],List.take_length]
     rw [Bool.eq_iff_iff]
     simp [strV,List.filter_eq_nil_iff]
    have hcl:isC ys=false:=by subst hy;exact isC_strs _
    refine EV_list (EL_nil ⟨by rw [hsl];show 0≤_;refine' Nat.le_add_left _ _,fun a ha=>?_⟩)
    refine Op_eq_nil (by show c.A.units+3+1 <_;refine' qL2 ‹_› (by nofun)) (List.mem_cons_of_mem _ List.mem_cons_self) hcl List.mem_cons_self ⟨_,rfl,?_⟩
    rw [hall]
    by_cases h2:l.all plainC=true
    ·rw [h2]
     refine EA_nil ?_
     have e39:Str.ofString "'"=⟨[39].toArray⟩:=by decide+kernel
     refine EB_cons (ES_return (EV_bin (EV_bin (EV_str (EV_loc (Op_add_str ?_ (EV_str (Op_add_str ?_ ⟨⟨[],st.sto⟩,le0 ?_,?_⟩))))))))
     ·rw [e39,mk_len,mk_len];show 1+_≤_;with_reducible (apply qS;symm)
     ·rw [e39,mk_append,mk_len,mk_len,List.length_append];show 1+_+1≤_;with_reducible (apply qS;symm)
     ·exact .cons _ (.cons _ (List.Sublist.refl _))
     ·rw [e39,mk_append,mk_append]
      show Q _ (⟨st.loc,st.sto⟩:St)
      have e:lText l way=[39]++l++[39]:=by unfold lText;rw [if_pos ⟨h1,h2⟩]
      rw [←e];exact q
    ·rw [Bool.not_eq_true] at h2
     rw [h2]
     refine EB_nil (quoted _ ?_ ?_)
     ·exact .cons _ (.cons _ (List.Sublist.refl _))
     ·unfold lText;rw [if_neg (fun h=>by rw [h2] at h;exact absurd h.2 (by decide))]
  ·rw [decide_eq_false h1]
   refine EB_nil (quoted _ (List.Sublist.refl _) ?_)
   unfold lText;rw [if_neg (fun h=>h1 h.1)]
end
end
section
theorem setSto_skip {x:Addr×List V} {sto:List (Addr×List V)} {D:Addr} {l:List V} (h:x.1≠D):setSto (x::sto) D l=x::setSto sto D l:=by
 unfold setSto;rw [List.map_cons,if_neg h]
theorem adr_ne {D:Addr} {st:St} (h:D∉adr st):∀x∈st.sto,x.1≠D:=fun x hx e=>h (e▸List.mem_map_of_mem (f:=(·.1)) hx)
noncomputable def lPart (n:List Nat) (w:Nat):List Nat:=if w%4=3∧(n=[120]∨n=[97,45,49]) then n else lText n (w%4)
noncomputable def lParts:List (List Nat)→Nat→List (List Nat)
 | [],_=>[]
 | n::r,w=>lPart n w::lParts r (w/4)
noncomputable def sepOf (k:Nat):List Nat:=match k%3 with | 0=>[46] | 1=>[32,46,32] | _=>[9,46]
noncomputable def lKey (names:List (List Nat)) (way:Nat):List Nat:=List.intercalate (sepOf (way/4 ^ names.length)) (lParts names way)
theorem lParts_length:∀(names:List (List Nat)) (w:Nat),(lParts names w).length=names.length
 | [],_=>rfl
 | _::r,w=>by rw [lParts,List.length_cons,lParts_length r,List.length_cons]
theorem lParts_get:∀(names:List (List Nat)) (w i:Nat) (n:List Nat),names[i]?=some n→(lParts names w)[i]?=some (lPart n (w/4 ^ i))
 | [],_,_,_,h=>by simp at h
 | m::r,w,0,n,h=>by simp at h;subst h;simp [lParts]
 | m::r,w,i+1,n,h=>by
   rw [List.getElem?_cons_succ] at h
   rw [lParts,List.getElem?_cons_succ,lParts_get r (w/4) i n h,Nat.div_div_eq_div_mul,Nat.pow_succ,Nat.mul_comm]
theorem join_mk (s:List Nat):∀l:List (List Nat),Txt.join ⟨s.toArray⟩ (l.map fun x=>⟨x.toArray⟩)=⟨(List.intercalate s l).toArray⟩:=by
 have key:∀(l:List (List Nat)) (acc:List Nat),((l.map fun x=>(⟨x.toArray⟩:Str)).foldl (fun acc p=>acc++(⟨s.toArray⟩:Str).cps++p.cps) acc.toArray)=(acc++l.flatMap fun x=>s++x).toArray:=by
  intro l
  induction l with
  | nil=>intro acc;simp
  | cons a r ih=>
    intro acc
    rw [List.map_cons,List.foldl_cons]
    show List.foldl _ (acc.toArray++s.toArray++a.toArray) _=_
    rw [List.append_toArray,List.append_toArray,ih]
    simp
 have inter:∀(l:List (List Nat)) (a:List Nat),List.intercalate s (a::l)=a++l.flatMap fun x=>s++x:=by
  intro l
  induction l with
  | nil=>intro a;simp [List.intercalate]
  | cons b r ih=>
    intro a
    have:=ih b
    simp only [List.intercalate,List.intersperse,List.flatten] at this ⊢
    simp [List.intercalate,this]
 intro l
 cases l with
 | nil=>simp [Txt.join,glued,List.intercalate,Str.empty]
 | cons a r=>
   rw [inter]
   unfold Txt.join glued
   congr 1
   have:=key r a
   simpa using this
theorem inter_len (s:List Nat) (B:Nat):∀l:List (List Nat),(∀x∈l,x.length≤B)→(List.intercalate s l).length≤l.length*(B+s.length):=by
 intro l h
 induction l with
 | nil=>simp [List.intercalate]
 | cons a r ih=>
   have h1:=h a List.mem_cons_self
   have h2:=ih fun x hx=>h x (List.mem_cons_of_mem _ hx)
   cases r with
   | nil=>simp [List.intercalate];refine' Nat.le_add_right_of_le ‹_›
   | cons b r=>
     have e:List.intercalate s (a::b::r)=a++s++List.intercalate s (b::r):=by simp [List.intercalate,List.intersperse]
     rw [e,List.length_append,List.length_append]
     have:(a::b::r).length*(B+s.length)=(b::r).length*(B+s.length)+(B+s.length):=by
      rw [List.length_cons,Nat.succ_mul]
     lia
theorem lPart_len (n:List Nat) (w:Nat):(lPart n w).length≤6*n.length+2:=by
 unfold lPart
 split
 ·lia
 ·exact lText_len ..
theorem lParts_len {B:Nat}:∀(names:List (List Nat)) (w:Nat),(∀n∈names,n.length≤B)→∀x∈lParts names w,x.length≤6*B+2
 | [],_,_,x,hx=>by simp [lParts] at hx
 | n::r,w,h,x,hx=>by
   rw [lParts] at hx
   rcases List.mem_cons.mp hx with rfl | hx
   ·have:=lPart_len n w
    have:=h n List.mem_cons_self
    lia
   ·exact lParts_len r _ (fun m hm=>h m (List.mem_cons_of_mem _ hm)) x hx
theorem sepOf_len (k:Nat):(sepOf k).length≤3:=by
 unfold sepOf
 split<;>simp
theorem sum_le {B:Nat}:∀l:List (List Nat),(∀x∈l,x.length≤B)→((l.map fun x=>(⟨x.toArray⟩:Str)).map (·.length)).sum≤l.length*B
 | [],_=>by simp
 | a::r,h=>by
   have h1:=sum_le r fun x hx=>h x (List.mem_cons_of_mem _ hx)
   have h2:(⟨a.toArray⟩:Str).length≤B:=by rw [mk_len];exact h a List.mem_cons_self
   rw [List.map_cons,List.map_cons,List.sum_cons,List.length_cons,Nat.succ_mul]
   lia
section
variable {K:Kx} {c:Cx} {st:St} {Q:V→St→Prop} {X:Xc→St→Prop}
theorem key_ok (P:Pk11 K) {names:List (List Nat)} {way:Nat} (hn:names.length≤100) (hs:∀n∈names,n.length≤1000) (hroom:c.A.depth+10 <recursionLimit) (hun:c.A.units+25 <cLine) (hh:c.A.handled=none)
 (q:Q (.str ⟨(lKey names way).toArray⟩) st):CF K c (.ref 564) [.tup (strV names),.int way] [] [] st Q X:=by
 refine CR.val<|CR_def (fd:=fdOf (u564 K.w.params)) (body:=fdB (bod.getD 64 dS)) (binds:=[(S_ "names",.tup (strV names)),(S_ "way",.int way)]) P.G P.lkey.ob rfl P.lkey.cd rfl (by refine' qL0 ‹_›) ?_ (by kernel_rfl!) (by kernel_rfl!) rfl rfl ?_
 ·intro s vs ks _ h1 h2
  obtain ⟨v,u,rfl,i1,i2⟩:=isl2 h1
  obtain rfl:=isl0 h2
  exact ⟨[(S_ "names",v),(S_ "way",u)],.of_eq (by kernel_rfl!),rfl,.cons i1 (.cons i2 .nil)⟩
 ·intro L'
  have hh':(cxIn c (fdOf (u564 K.w.params)) 564 L').A.handled=none:=hh
  have hsl:sizeLine=16777216:=sizeLine_eq
  refine TS.post ?_
  refine EB_cons (ES_assign (EV_list (EL_nil ⟨by rw [hsl];show 0≤_;refine' Nat.le_add_left _ _,fun D hD=>?_⟩)))
  have hDs:∀x∈st.sto,x.1≠D:=adr_ne hD
  refine EB_cons (ES_for hh' (EV_loc ⟨strV names,fun _=>True,Src.tup hh',trivial,fun i st₂=>St.Le ⟨[(S_ "way",.int (way/4 ^ i:Nat)),(S_ "parts",.ref D)],(D,strV ((lParts names way).take i))::st.sto⟩ st₂,?_,?_,?_⟩))
  ·refine leA (List.Sublist.refl _) ⟨?_,rfl,trivial⟩
   rw [Nat.pow_zero,Nat.div_one];rfl
  ·rintro i v st₂ hv hle
   have hlt:i <names.length:=by have:=(List.getElem?_eq_some_iff.mp hv).1;simpa using this
   have hg:names[i]?=some names[i]:=List.getElem?_eq_getElem hlt
   have hv':v=.str ⟨names[i].toArray⟩:=by
    rw [List.getElem?_map,hg] at hv
    exact (Option.some.inj hv).symm
   subst hv'
   have hname:names[i].length≤1000:=hs _ (List.getElem_mem hlt)
   have hpt:=lParts_get names way i _ hg
   have htk:(lParts names way).take (i+1)=(lParts names way).take i++[lPart names[i] (way/4 ^ i)]:=by
    rw [List.take_add_one,hpt];rfl
   have hplen:(strV ((lParts names way).take i)).length≤100000:=by
    rw [List.length_map,List.length_take,lParts_length];lia
   have hnext:way/4 ^ i/4=way/4 ^ (i+1):=by rw [Nat.div_div_eq_div_mul,Nat.pow_succ]
   generalize hnm:names[i]=nm at *
   refine ⟨trivial,TA.weak hle (TA_name ?_)⟩
   refine EB_cons (ES_unpack hh' (EV_callB (EV_blt P.G P.divmod_.mg P.divmod_.mb (.blt _) ⟨_,rfl,EL_cons (EV_loc (EL_cons (EV_int (EL_nil (CF_divmod P.G (by decide) (PyProof.noPylong_small (by decide)) ?_)))))⟩)))
   rw [show ((way/4 ^ i:Nat):Int).fdiv 4=((way/4 ^ (i+1):Nat):Int) from by rw [←hnext];exact ndiv _ 4,show ((way/4 ^ i:Nat):Int).fmod 4=((way/4 ^ i%4:Nat):Int) from nmod _ 4]
   refine ⟨_,rfl,rfl,AS_name (AS_name (AS_nil ?_))⟩
   generalize hw:way/4 ^ i=w at *
   have appendV:∀{Qx:V→St→Prop} {Xx:Xc→St→Prop} (sto':List (Addr×List V)) (v:List Nat),v=lPart nm w→(∃j,sto'=j++(D,strV ((lParts names way).take i))::st.sto∧∀x∈j,x.1≠D)→
    (∀st₁,St.Le ⟨[(S_ "way",.int (way/4 ^ (i+1):Nat)),(S_ "parts",.ref D)],(D,strV ((lParts names way).take (i+1)))::st.sto⟩ st₁→Qx .none st₁)→
    CF K (cxIn c (fdOf (u564 K.w.params)) 564 L') (.blt "list.append") [.ref D,.str ⟨v.toArray⟩] [] [] ⟨[(S_ "turn",.int (w%4:Nat)),(S_ "way",.int (way/4 ^ (i+1):Nat)),(S_ "name",.str ⟨nm.toArray⟩),(S_ "way",.int (w:Nat)),(S_ "parts",.ref D)],sto'⟩ Qx Xx:=by
    rintro Qx Xx _ v hv ⟨j,rfl,hj⟩ hQ
    refine CF_append (l:=strV ((lParts names way).take i)) (List.mem_append_right _ List.mem_cons_self) (isC_strs _) hplen (hQ _ (leA ?_ ⟨rfl,rfl,trivial⟩))
    have e:∀j:List (Addr×List V),(∀x∈j,x.1≠D)→setSto (j++(D,strV ((lParts names way).take i))::st.sto) D (strV ((lParts names way).take i)++[.str ⟨v.toArray⟩])=j++(D,strV ((lParts names way).take (i+1)))::st.sto:=by
     intro j hj
     induction j with
     | nil=>
       rw [List.nil_append,setSto_head hDs,htk,hv]
       simp [strV]
     | cons a j ih=>
       rw [List.cons_append,setSto_skip (hj a List.mem_cons_self),ih fun x hx=>hj x (List.mem_cons_of_mem _ hx)];rfl
    rw [e j hj]
    exact List.sublist_append_right _ _
   have mD:(D,strV ((lParts names way).take i))∈(D,strV ((lParts names way).take i))::st.sto:=List.mem_cons_self
   refine EB_cons (ES_expr (EV_meth PySem.F.plainAttrs_list PySem.F.slot_list_append PySem.F.type_list_append (EV_loc ⟨Recv.list mD (isC_strs _),EL_cons (EV_ifexp (ET_boolop (EA_and (ET_cmp (EV_loc (EV_int (Op_eq_int ⟨_,rfl,?_⟩)))))))⟩)))
   rw [show (((w%4:Nat):Int)==3)=decide (w%4=3) from by rw [Bool.eq_iff_iff];simp;refine' qcm _ _ _]
   have last:∀st₁,St.Le ⟨[(S_ "way",.int (way/4 ^ (i+1):Nat)),(S_ "parts",.ref D)],(D,strV ((lParts names way).take (i+1)))::st.sto⟩ st₁→True:=fun _ _=>trivial
   by_cases h3:w%4=3
   ·rw [decide_eq_true h3]
    have ex:Str.ofString "x"=⟨[120].toArray⟩:=by decide+kernel
    have ea:Str.ofString "a-1"=⟨[97,45,49].toArray⟩:=by decide+kernel
    refine EA_and (ET_cmp (EV_loc (EV_list (EL_cons (EV_str (EL_cons (EV_str (EL_nil ⟨by rw [hsl];show 2≤_;refine' Nat.le_add_left _ _,fun a ha=>?_⟩))))))))
    rw [ex,ea]
    have haD:a≠D:=fun e=>ha (by rw [e];exact List.mem_cons_self)
    refine Op_in_strs (l:=[[120],[97,45,49]]) List.mem_cons_self rfl ⟨_,rfl,?_⟩
    by_cases hin:nm=[120]∨nm=[97,45,49]
    ·have e1:([[120],[97,45,49]].any fun y=>y==nm)=true:=by
      rcases hin with rfl | rfl<;>rfl
     rw [e1]
     refine EA_nil ?_
     refine EV_loc (EL_nil (appendV _ _ ?_ ⟨[(a,_)],rfl,by simpa using haD⟩ fun st₁ hle1=>⟨rfl,EB_nil hle1⟩))
     unfold lPart;rw [if_pos ⟨h3,hin⟩]
    ·have e1:([[120],[97,45,49]].any fun y=>y==nm)=false:=by
      simp only [List.any_cons,List.any_nil,Bool.or_false,Bool.or_eq_false_iff,beq_eq_false_iff_ne]
      exact ⟨fun e=>hin (.inl e.symm),fun e=>hin (.inr e.symm)⟩
     rw [e1]
     refine EV_call (EV_glob P.G P.text.mg (.ref _) ⟨557,_,_,rfl,P.text.ob,rfl,EL_cons (EV_loc (EL_cons (EV_loc (EL_nil (EK_nil ?_)))))⟩)
     refine text_ok (l:=nm) (way:=w%4) P (by refine' qN ‹_› (by nofun)) (by show c.A.depth+1+8 <_;refine' qL2 ‹_› (by nofun)) (by show c.A.units+3+20 <_;refine' qL2 ‹_› (by nofun)) hh' (EL_nil (appendV _ _ ?_ ⟨[(a,_)],rfl,by simpa using haD⟩ fun st₁ hle1=>⟨rfl,EB_nil hle1⟩))
     unfold lPart;rw [if_neg (fun h=>hin h.2)]
   ·rw [decide_eq_false h3]
    refine EV_call (EV_glob P.G P.text.mg (.ref _) ⟨557,_,_,rfl,P.text.ob,rfl,EL_cons (EV_loc (EL_cons (EV_loc (EL_nil (EK_nil ?_)))))⟩)
    refine text_ok (l:=nm) (way:=w%4) P (by refine' qN ‹_› (by nofun)) (by show c.A.depth+1+8 <_;refine' qL2 ‹_› (by nofun)) (by show c.A.units+3+20 <_;refine' qL2 ‹_› (by nofun)) hh' (EL_nil (appendV _ _ ?_ ⟨[],rfl,by simp⟩ fun st₁ hle1=>⟨rfl,EB_nil hle1⟩))
    unfold lPart;rw [if_neg (fun h=>h3 h.1)]
  ·rintro st₂ hle
   refine ⟨trivial,?_⟩
   rw [show (strV names).length=names.length from List.length_map _] at hle
   refine TS.weak hle ?_
   have hall:(lParts names way).take names.length=lParts names way:=List.take_of_length_le (by rw [lParts_length];refine' Nat.le_refl _)
   rw [hall]
   have e0:Str.ofString "."=⟨[46].toArray⟩:=by decide+kernel
   have e1:Str.ofString " . "=⟨[32,46,32].toArray⟩:=by decide+kernel
   have e2:Str.ofString "\t."=⟨[9,46].toArray⟩:=by decide+kernel
   refine EB_cons (ES_return (EV_meth PySem.F.plainAttrs_str PySem.F.slot_str_join PySem.F.type_str_join (EV_sub (EV_list (EL_cons (EV_str (EL_cons (EV_str (EL_cons (EV_str (EL_nil ⟨by rw [hsl];show 3≤_;refine' Nat.le_add_left _ _,fun a ha=>?_⟩)))))))))))
   rw [e0,e1,e2]
   have haD:a≠D:=fun e=>ha (by rw [e];exact List.mem_cons_self)
   refine EV_bin (EV_loc (EV_int (Op_fmod_int (by decide) ?_)))
   rw [show ((way/4 ^ names.length:Nat):Int).fmod 3=((way/4 ^ names.length%3:Nat):Int) from nmod _ 3]
   refine Op_item_list (k:=way/4 ^ names.length%3) (v:=.str ⟨(sepOf (way/4 ^ names.length)).toArray⟩) List.mem_cons_self rfl (.inl ⟨by refine' Int.natCast_nonneg _,(Int.toNat_natCast _).symm⟩) ?_ (by simp) ⟨Recv.str,?_⟩
   ·unfold sepOf
    have:way/4 ^ names.length%3 <3:=Nat.mod_lt _ (by with_reducible (apply qM;symm))
    rcases (show way/4 ^ names.length%3=0∨way/4 ^ names.length%3=1∨way/4 ^ names.length%3=2 by refine' q3 ‹_›) with h | h | h<;>rw [h]<;>rfl
   refine EL_cons (EV_loc (EL_nil (CF_join (l:=lParts names way) (List.mem_cons_of_mem _ List.mem_cons_self) (isC_strs _) ?_ ?_ ⟨⟨[],st.sto⟩,le0 ?_,?_⟩)))
   ·have h1:=sum_le (B:=6*1000+2) (lParts names way) (lParts_len names way hs)
    have h2:=sepOf_len (way/4 ^ names.length)
    have h3:=lParts_length names way
    rw [mk_len]
    have h4:(lParts names way).length*(6*1000+2)≤100*(6*1000+2):=Nat.mul_le_mul_right _ (by refine' Nat.le_trans (Nat.le_of_eq ‹_›) ‹_›)
    have h5:(lParts names way).length*(sepOf (way/4 ^ names.length)).length≤100*3:=Nat.mul_le_mul (by refine' Nat.le_trans (Nat.le_of_eq ‹_›) ‹_›) h2
    lia
   ·rw [join_mk,mk_len,hsl]
    have h1:=inter_len (sepOf (way/4 ^ names.length)) (6*1000+2) (lParts names way) (lParts_len names way hs)
    have h2:=sepOf_len (way/4 ^ names.length)
    have h3:=lParts_length names way
    have h4:(lParts names way).length*(6*1000+2+(sepOf (way/4 ^ names.length)).length)≤100*(6*1000+2+3):=Nat.mul_le_mul (by refine' Nat.le_trans (Nat.le_of_eq ‹_›) ‹_›) (by refine' Nat.add_le_add_left ‹_› _)
    lia
   ·exact .cons _ (.cons _ (List.Sublist.refl _))
   ·rw [join_mk]
    show Q _ (⟨st.loc,st.sto⟩:St)
    exact q
end
end
section
theorem idx_none_lo (hi:Option Int) (n:Nat):strSliceIndices none hi 1 n=strSliceIndices (some 0) hi 1 n:=by
 have h1:¬((0:Int) <0):=by lia
 have e:max (0:Int) (min 0 (n:Int))=0:=by lia
 simp only [strSliceIndices,h1,if_false,show ((1:Int)>0)=True from by simp,if_true,e]
theorem idx_none_hi (lo:Option Int) (n:Nat):strSliceIndices lo none 1 n=strSliceIndices lo (some (n:Int)) 1 n:=by
 have h1:¬((n:Int) <0):=by lia
 have e:max (0:Int) (min (n:Int) (n:Int))=n:=by lia
 simp only [strSliceIndices,h1,if_false,show ((1:Int)>0)=True from by simp,if_true,e]
theorem slice_to (x:Str) (b:Nat):Txt.slice x none (some (b:Int))=⟨((L x).take b).toArray⟩:=by
 have e:Txt.slice x none (some (b:Int))=Txt.slice x (some ((0:Nat):Int)) (some (b:Int)):=by
  unfold Txt.slice
  rw [idx_none_lo];rfl
 rw [e,slice_eq,List.drop_zero,Nat.sub_zero]
theorem slice_from (x:Str) (a:Nat):Txt.slice x (some (a:Int)) none=⟨((L x).drop a).toArray⟩:=by
 have e:Txt.slice x (some (a:Int)) none=Txt.slice x (some (a:Int)) (some ((x.length:Nat):Int)):=by
  unfold Txt.slice
  rw [idx_none_hi]
 rw [e,slice_eq,List.take_of_length_le (by rw [List.length_drop,L_length];refine' Nat.le_refl _)]
noncomputable def lAt (x:Str) (p:Nat):Str:=S_ " (at "++coordR x p++S_ ")"
section
variable {K:Kx} {c:Cx} {st:St} {Q:V→St→Prop} {X:Xc→St→Prop}
theorem coordR_len' {x:Str} {p:Nat} (h:x.length≤1000000):(lAt x p).length≤200:=by
 have:=coordR_len x p h
 unfold lAt
 simp only [Str.length_append]
 have e1:(S_ " (at ").length=5:=by rw [S_len];rfl
 have e2:(S_ ")").length=1:=by rw [S_len];rfl
 with_reducible (apply qN;symm)
theorem at_ok (P:Pk11 K) {x:Str} {p:Nat} (hs:x.length≤900000) (hp:p≤1000000) (hroom:c.A.depth+2 <recursionLimit) (hh:c.A.handled=none)
 (q:Q (.str (lAt x p)) st):CF K c (.ref 571) [.str x,.int p] [] [] st Q X:=by
 refine CR.val<|CR_def (fd:=fdOf (u571 K.w.params)) (body:=fdB (bod.getD 65 dS)) (binds:=[(S_ "text",.str x),(S_ "place",.int p)]) P.G P.lat.ob rfl P.lat.cd rfl (by refine' qL0 ‹_›) ?_ (by kernel_rfl!) (by kernel_rfl!) rfl rfl ?_
 ·intro s vs ks _ h1 h2
  obtain ⟨v,u,rfl,i1,i2⟩:=isl2 h1
  obtain rfl:=isl0 h2
  exact ⟨[(S_ "text",v),(S_ "place",u)],.of_eq (by kernel_rfl!),rfl,.cons i1 (.cons i2 .nil)⟩
 ·intro L'
  have hh':(cxIn c (fdOf (u571 K.w.params)) 571 L').A.handled=none:=hh
  have hsl:sizeLine=16777216:=sizeLine_eq
  refine TS.post ?_
  have hcut:((L x).take p).length≤900000:=by rw [List.length_take,L_length];refine' qmn ‹_›
  refine EB_cons (ES_assign (EV_meth PySem.F.plainAttrs_str PySem.F.slot_str_split PySem.F.type_str_split (EV_slice (EV_loc (EP_none (EP_some (EV_loc ⟨_,_,_,rfl,rfl,rfl,Recv.str,EL_cons (EV_str (EL_nil ?_))⟩)))))))
  rw [slice_to]
  have enl:Str.ofString "\n"=⟨#[10]⟩:=by decide+kernel
  rw [enl]
  refine CF_splitNL (by rw [mk_len];refine' qN ‹_› (by nofun)) fun D l hD hlen hlast=>?_
  rw [show L ⟨((L x).take p).toArray⟩=(L x).take p from rfl] at hlen hlast
  obtain ⟨z,hz,hzl⟩:=hlast
  have hc0:((L x).take p).count 10≤900000:=Nat.le_trans List.count_le_length hcut
  have ht0:tail1 10 ((L x).take p)≤900000:=by
   refine Nat.le_trans ?_ hcut
   unfold tail1
   refine Nat.le_trans (List.takeWhile_sublist _).length_le ?_
   simp
  have hmap:((l.map V.str).length:Int)=((((L x).take p).count 10:Nat)+1:Int):=by rw [List.length_map,hlen];lia
  have hcl:isC (l.map V.str)=false:=by cases l<;>rfl
  have e1:=small_text (i:=((((L x).take p).count 10:Nat)+1:Int)) (by refine' qA4 ‹_›)
  have e2:=small_text (i:=((tail1 10 ((L x).take p)+1:Nat):Int)) (by refine' qA3 ‹_›)
  have e3:(S_ "line ").length=5:=by rw [S_len];rfl
  have e4:(S_ ", column ").length=9:=by rw [S_len];rfl
  refine EB_cons (ES_assign (EV_bin (EV_bin (EV_bin (EV_str (EV_callT (EV_blt P.G P.str_.mg P.str_.mb (.typ _) ⟨_,rfl,EL_cons (EV_callB (EV_blt P.G P.len.mg P.len.mb (.blt _) ⟨_,rfl,EL_cons (EV_loc (EL_nil (CF_len_list List.mem_cons_self hcl ?_ (EL_nil ?_))))⟩))⟩)))))))
  ·rw [List.length_map];lia
  rw [hmap]
  refine CF_str_int (i:=((((L x).take p).count 10:Nat)+1:Int)) (log2_small (by refine' qA4 ‹_›)) ?_
  refine Op_add_str (by show (S_ "line ").length+(S_ _).length≤_;with_reducible (apply qS;symm)) (EV_str (Op_add_str (by rw [Str.length_append];show (S_ "line ").length+(S_ _).length+(S_ ", column ").length≤_;with_reducible (apply qS;symm)) ?_))
  refine EV_callT (EV_blt P.G P.str_.mg P.str_.mb (.typ _) ⟨_,rfl,EL_cons (EV_bin (EV_callB (EV_blt P.G P.len.mg P.len.mb (.blt _) ⟨_,rfl,EL_cons (EV_sub (EV_loc (EV_neg (EV_int ⟨_,rfl,?_⟩))))⟩)))⟩)
  have hlast2:(l.map V.str)[l.length -1]?=some (.str z):=by
   rw [List.getElem?_map,←List.getLast?_eq_getElem?,hz];rfl
  refine Op_item_list (k:=l.length -1) (v:=.str z) List.mem_cons_self hcl (.inr ⟨by lia,by rw [List.length_map];lia,by rw [List.length_map];refine' qI2 ‹_›⟩) hlast2 (by rw [List.length_map];lia) (EL_nil (CF_len (by lia) (EV_int (Op_add_int (EL_nil ?_)))))
  rw [hzl,show ((tail1 10 ((L x).take p):Nat):Int)+1=((tail1 10 ((L x).take p)+1:Nat):Int) from rfl]
  refine CF_str_int (i:=((tail1 10 ((L x).take p)+1:Nat):Int)) (log2_small (by refine' qA3 ‹_›)) ?_
  refine Op_add_str (by rw [Str.length_append,Str.length_append];show (S_ "line ").length+(S_ _).length+(S_ ", column ").length+(S_ _).length≤_;with_reducible (apply qS;symm)) ?_
  have hw:(((S_ "line "++S_ (toString ((((L x).take p).count 10:Nat)+1:Int)))++S_ ", column ")++S_ (toString ((tail1 10 ((L x).take p)+1:Nat):Int))).length≤100:=by
   simp only [Str.length_append];with_reducible (apply qN;symm)
  have hxl:x.length <2 ^ 62:=by refine' qM ‹_› (by nofun)
  have e5:(S_ " (at ").length=5:=by rw [S_len];rfl
  have e6:(S_ ")").length=1:=by rw [S_len];rfl
  have e7:(S_ "end of document").length=15:=by rw [S_len];rfl
  refine EB_cons (ES_return (EV_bin (EV_bin (EV_str (EV_ifexp (ET_cmp (EV_loc (EV_callB (EV_blt P.G P.len.mg P.len.mb (.blt _) ⟨_,rfl,EL_cons (EV_loc (EL_nil (CF_len hxl (Op_lt_int ⟨_,rfl,?_⟩))))⟩)))))))))
  rw [show decide ((p:Int) <(x.length:Int))=decide (p <x.length) from by rw [decide_eq_decide];refine' Int.ofNat_lt]
  by_cases hlt:p <x.length
  ·rw [decide_eq_true hlt]
   refine EV_loc (Op_add_str ?_ (EV_str (Op_add_str ?_ ⟨⟨[],st.sto⟩,le0 (.cons _ (List.Sublist.refl _)),?_⟩)))
   ·show (S_ " (at ").length+(((S_ "line "++S_ (toString ((((L x).take p).count 10:Nat)+1:Int)))++S_ ", column ")++S_ (toString ((tail1 10 ((L x).take p)+1:Nat):Int))).length≤_
    with_reducible (apply qS;symm)
   ·rw [Str.length_append]
    show (S_ " (at ").length+(((S_ "line "++S_ (toString ((((L x).take p).count 10:Nat)+1:Int)))++S_ ", column ")++S_ (toString ((tail1 10 ((L x).take p)+1:Nat):Int))).length+(S_ ")").length≤_
    with_reducible (apply qS;symm)
   have e:coordR x p=(((S_ "line "++S_ (toString ((((L x).take p).count 10:Nat)+1:Int)))++S_ ", column ")++S_ (toString ((tail1 10 ((L x).take p)+1:Nat):Int))):=by
    unfold coordR
    rw [if_neg (by refine' Nat.not_le_of_lt ‹_›),Str.empty_append]
   show Q _ (⟨st.loc,st.sto⟩:St)
   have q':=q
   unfold lAt at q'
   rw [e] at q'
   exact q'
  ·rw [decide_eq_false hlt]
   refine EV_str (Op_add_str ?_ (EV_str (Op_add_str ?_ ⟨⟨[],st.sto⟩,le0 (.cons _ (List.Sublist.refl _)),?_⟩)))
   ·show (S_ " (at ").length+(S_ "end of document").length≤_
    with_reducible (apply qS;symm)
   ·rw [Str.length_append]
    show (S_ " (at ").length+(S_ "end of document").length+(S_ ")").length≤_
    with_reducible (apply qS;symm)
   have e:coordR x p=S_ "end of document":=by
    unfold coordR
    rw [if_pos (by refine' Nat.le_of_not_lt ‹_›)]
   show Q _ (⟨st.loc,st.sto⟩:St)
   have q':=q
   unfold lAt at q'
   rw [e] at q'
   exact q'
end
end
section
section
variable {K:Kx} {c:Cx} {st:St} {Q:V→St→Prop} {X:Xc→St→Prop} {R:Fl→St→Prop}
inductive KIaL (st:St) (W:Addr) (l:List V) (rest:List (Addr×List V)) (x:Str) (R:Fl→St→Prop) (m:List V) (st₁:St):Prop
 | mk (hst:st₁=st) (hm:isC m=false) (hsz:l.length+m.length≤100000) (q:R .next ⟨(x,.ref W)::st.loc,(W,l++m)::rest⟩)
theorem ES_iaddL {x:Str} {elts:List Expr} {lp pos' pos:Pos} {W:Addr} {l:List V} {rest:List (Addr×List V)} (hl:st.loc.lookup x=some (.ref W)) (hs:st.sto=(W,l)::rest) (hW:∀y∈rest,y.1≠W) (hcl:isC l=false)
 (h:EL K c lp elts st (KIaL st W l rest x R) X)
 (hk:c.env.kindOf x=some .local:=by kernel_rfl!):ES K c (.AugAssign (.Name x pos') .Add (.List elts lp) pos) st R X:=by
 refine TS.post (ES_aug (a:=.ref W) (EV_list (TL_mono h ?_)) hl hk)
 rintro m st₁ ⟨rfl,hm,hsz,q⟩
 refine ⟨by have:=sizeLine_eq;lia,fun a ha=>?_⟩
 have haW:a≠W:=fun e=>ha (by rw [e];show W∈st₁.sto.map (·.1);rw [hs];exact List.mem_cons_self)
 refine Op_iadd_list (l:=l) (m:=m) (List.mem_cons_of_mem _ (by rw [hs];exact List.mem_cons_self)) hcl List.mem_cons_self hm hsz ⟨_,?_,q⟩
 have e:setSto ((a,m)::st₁.sto) W (l++m)=(a,m)::(W,l++m)::rest:=by
  rw [setSto_skip haW,hs,setSto_head hW]
 refine ⟨?_,fun _ _ h=>h⟩
 show List.Sublist _ (setSto ((a,m)::st₁.sto) W (l++m))
 rw [e]
 exact .cons _ (List.Sublist.refl _)
where
 TL_mono {pos:Pos} {l:List Expr} {P P':List V→St→Prop} (h:EL K c pos l st P X) (hP:∀a s,P a s→P' a s):EL K c pos l st P' X:=fun s r=>
  wpAny_mono (h s r) (fun _ _ ⟨a,st',n,i,q⟩=>⟨a,st',n,i,hP _ _ q⟩) fun _ _ z=>z
end
noncomputable def lawKeys:List (List (List Nat)):=[[[120]],[[97,45,49],[120]],[[125]],[[36,32],[39]],[[97,46,98],[34,92],[120]],[[],[61,10]]]
noncomputable abbrev keysV:List V:=lawKeys.map fun k=>V.tup (strV k)
noncomputable def lCode (way:Nat):Nat:=if way%1111936+128 <55296 then way%1111936+128 else way%1111936+128+2048
noncomputable abbrev lFirst:Str:=S_ "Invalid initial character for a key part"
noncomputable def keyS (names:List (List Nat)) (way:Nat):Str:=⟨(lKey names way).toArray⟩
noncomputable def whole1 (way:Nat):List (Str×Str×Nat):=[(S_ "$",S_ "",0),(S_ "}'\n\"\\",S_ "",0),(⟨#[lCode way]⟩,S_ "",0),(S_ "${}",lFirst,2)]
noncomputable def whole2 (k:Str):List (Str×Str×Nat):=[(S_ "${"++k++S_ ".}",lFirst,k.length+3),(S_ "${"++k++S_ " 'b'}",S_ "not closed",k.length+3)]
noncomputable def whole3:List (Str×Str×Nat):=[(S_ "${'a\n'}",S_ "Found invalid character '\\n'",4),(S_ "${\"\\ }\"}",S_ "Unescaped '\\' in a string",5)]
noncomputable def whole4:List (Str×Str×Nat):=[(S_ "${\"a\n\"}",S_ "Illegal character '\\n'",4),(S_ "${\"\\ud800\"}",S_ "Escaped character is not a Unicode scalar value",9)]
noncomputable def whole5:List (Str×Str×Nat):=[(S_ "${\"\\u00g0\"}",S_ "Invalid hex value",5)]
noncomputable def torn1 (k:Str):List (Str×Str×Nat):=[(S_ "${"++k++S_ " .",lFirst,k.length+4),(S_ "${'}",S_ "Expected \"'\"",4),(S_ "${\"}",S_ "Unterminated string",4)]
noncomputable def torn2 (k:Str):List (Str×Str×Nat):=[(S_ "${\"\\u00",S_ "Invalid hex value",5),(S_ "${"++k,S_ "not closed",k.length+2)]
noncomputable def wholeL (k:Str) (way:Nat):List (Str×Str×Nat):=whole1 way++whole2 k++whole3++whole4++whole5
noncomputable def tornL (k:Str):List (Str×Str×Nat):=torn1 k++torn2 k
noncomputable def padS (way:Nat):Str:=match way%3 with | 0=>S_ "" | 1=>S_ " " | _=>S_ " \t"
noncomputable def tripOf (kind way:Nat):Str×Str×Nat:=if kind <17 then (wholeL (keyS (lawKeys.getD (way%6) []) (way/6)) way).getD (kind -6) (S_ "",S_ "",0) else (tornL (keyS (lawKeys.getD (way%6) []) (way/6))).getD (way%5) (S_ "",S_ "",0)
structure LPc where
 text:Str
 names:Option (List (List Nat))
 words:Str
 off:Nat
noncomputable def lPiece (kind way:Nat):LPc:=if kind <6 then ⟨S_ "${"++keyS (lawKeys.getD kind []) way++padS way++S_ "}",some (lawKeys.getD kind []),S_ "",0⟩ else ⟨(tripOf kind way).1,none,(tripOf kind way).2.1,(tripOf kind way).2.2⟩
noncomputable def LPc.v (p:LPc):V:=.tup [.str p.text,match p.names with | none=>.none | some n=>.tup (strV n),.str p.words,.int p.off]
noncomputable abbrev tripV (t:Str×Str×Nat):V:=.tup [.str t.1,.str t.2.1,.int t.2.2]
theorem lawKeys_get {i:Nat} (h:i <6):lawKeys[i]?=some (lawKeys.getD i []):=by
 rw [List.getD_eq_getElem?_getD,List.getElem?_eq_getElem (show i <lawKeys.length from h)];rfl
theorem lawKeys_ok (i:Nat):(lawKeys.getD i []).length≤3∧∀n∈lawKeys.getD i [],n.length≤3:=by
 match i with
 | 0 | 1 | 2 | 3 | 4 | 5=>decide
 | i+6=>exact ⟨by simp [lawKeys],by simp [lawKeys]⟩
theorem keyS_len (i way:Nat):(keyS (lawKeys.getD i []) way).length≤100:=by
 unfold keyS
 rw [mk_len]
 unfold lKey
 obtain ⟨h1,h2⟩:=lawKeys_ok i
 have h3:=inter_len (sepOf (way/4 ^ (lawKeys.getD i []).length)) (6*3+2) _ (lParts_len (lawKeys.getD i []) way h2)
 rw [lParts_length] at h3
 have h4:=sepOf_len (way/4 ^ (lawKeys.getD i []).length)
 have h5:(lawKeys.getD i []).length*(6*3+2+(sepOf (way/4 ^ (lawKeys.getD i []).length)).length)≤3*23:=Nat.mul_le_mul h1 (by refine' Nat.add_le_add_left ‹_› _)
 lia
section
variable {K:Kx} {c:Cx} {st:St} {Q:V→St→Prop} {X:Xc→St→Prop}
theorem piece_ok (P:Pk11 K) {kind way:Nat} {ka:Addr} (hk:(ka,keysV)∈st.sto) (hkind:kind <18) (hroom:c.A.depth+12 <recursionLimit) (hun:c.A.units+30 <cLine) (hh:c.A.handled=none)
 (q:Q (lPiece kind way).v st):CF K c (.ref 578) [.int kind,.int way,.ref ka] [] [] st Q X:=by
 refine CR.val<|CR_def (fd:=fdOf (u578 K.w.params)) (body:=fdB (bod.getD 66 dS)) (binds:=[(S_ "kind",.int kind),(S_ "way",.int way),(S_ "keys",.ref ka)]) P.G P.piece.ob rfl P.piece.cd rfl (by refine' qL0 ‹_›) ?_ (by kernel_rfl!) (by kernel_rfl!) rfl rfl ?_
 ·intro s vs ks _ h1 h2
  obtain ⟨v,u,w,rfl,i1,i2,i3⟩:=isl3 h1
  obtain rfl:=isl0 h2
  exact ⟨[(S_ "kind",v),(S_ "way",u),(S_ "keys",w)],.of_eq (by kernel_rfl!),rfl,.cons i1 (.cons i2 (.cons i3 .nil))⟩
 ·intro L'
  have hh':(cxIn c (fdOf (u578 K.w.params)) 578 L').A.handled=none:=hh
  have hsl:sizeLine=16777216:=sizeLine_eq
  refine TS.post ?_
  have hkl:(lawKeys.getD (way%6) []).length≤3:=(lawKeys_ok _).1
  have hkn:∀n∈lawKeys.getD (way%6) [],n.length≤3:=(lawKeys_ok _).2
  have hget:∀i,i <6→keysV[i]?=some (.tup (strV (lawKeys.getD i []))):=fun i hi=>by
   rw [List.getElem?_map,lawKeys_get hi];rfl
  refine EB_cons (ES_swap [S_ "key",S_ "first"] hh' (EV_tuple (EL_cons (EV_call (EV_glob P.G P.lkey.mg (.ref _) ⟨564,_,_,rfl,P.lkey.ob,rfl,EL_cons (EV_sub (EV_loc (EV_bin (EV_loc (EV_int (Op_fmod_int (by decide) ?_))))))⟩)))))
  rw [show (way:Int).fmod 6=((way%6:Nat):Int) from nmod way 6]
  refine Op_item_list (k:=way%6) hk rfl (.inl ⟨by refine' Int.natCast_nonneg _,(Int.toNat_natCast _).symm⟩) (hget _ (Nat.mod_lt _ (by with_reducible (apply qM;symm)))) (by simp [lawKeys]) (EL_cons (EV_bin (EV_loc (EV_int (Op_fdiv_int (by decide) (PyProof.noPylong_small (by decide)) (EL_nil (EK_nil ?_)))))))
  rw [show (way:Int).fdiv 6=((way/6:Nat):Int) from ndiv way 6]
  refine key_ok P (by refine' qN ‹_› (by nofun)) (fun n hn=>by have:=hkn n hn;refine' qN ‹_› (by nofun)) (by show c.A.depth+1+10 <_;refine' qL2 ‹_› (by nofun)) (by show c.A.units+3+25 <_;refine' qL2 ‹_› (by nofun)) hh' (EL_cons (EV_str (EL_nil ⟨by rw [hsl];show 2≤_;refine' Nat.le_add_left _ _,_,rfl,rfl,AS_bind (AS_bind (AS_nil ?_))⟩)))
  have eK:(⟨(lKey (lawKeys.getD (way%6) []) (way/6)).toArray⟩:Str)=keyS (lawKeys.getD (way%6) []) (way/6):=rfl
  rw [eK]
  have hKl:=keyS_len (way%6) (way/6)
  generalize hKK:keyS (lawKeys.getD (way%6) []) (way/6)=KK at *
  refine EB_cons (ES_assign (EV_bin (EV_bin (EV_loc (EV_int (Op_fmod_int (by decide) (EV_int (Op_add_int ?_))))))))
  rw [show (way:Int).fmod 1111936+128=((way%1111936+128:Nat):Int) from by rw [show (way:Int).fmod 1111936=((way%1111936:Nat):Int) from nmod way 1111936];rfl]
  refine EB_cons (ES_if (ET_cmp (EV_loc (EV_int (Op_lt_int ⟨_,rfl,?_⟩)))))
  rw [show decide ((kind:Int) <6)=decide (kind <6) from by rw [decide_eq_decide];refine' qclt _ _]
  by_cases h6:kind <6
  ·rw [decide_eq_true h6]
   have hk2:=lawKeys_ok kind
   have hl2:=keyS_len kind way
   refine EB_cons (ES_return (EV_tuple (EL_cons (EV_bin (EV_bin (EV_bin (EV_str (EV_call (EV_glob P.G P.lkey.mg (.ref _) ⟨564,_,_,rfl,P.lkey.ob,rfl,EL_cons (EV_sub (EV_loc (EV_loc ?_)))⟩)))))))))
   refine Op_item_list (k:=kind) hk rfl (.inl ⟨by refine' Int.natCast_nonneg _,(Int.toNat_natCast _).symm⟩) (hget _ h6) (by simp [lawKeys]) (EL_cons (EV_loc (EL_nil (EK_nil ?_))))
   refine key_ok P (by lia) (fun n hn=>by have:=hk2.2 n hn;refine' qN ‹_› (by nofun)) (by show c.A.depth+1+10 <_;refine' qL2 ‹_› (by nofun)) (by show c.A.units+3+25 <_;refine' qL2 ‹_› (by nofun)) hh' ?_
   have eK2:(⟨(lKey (lawKeys.getD kind []) way).toArray⟩:Str)=keyS (lawKeys.getD kind []) way:=rfl
   rw [eK2]
   have e2:(S_ "${").length=2:=by rw [S_len];rfl
   have e3:(S_ "}").length=1:=by rw [S_len];rfl
   have hpad:(padS way).length≤2:=by
    unfold padS
    split
    ·rw [S_len];decide
    ·rw [S_len];decide
    ·rw [S_len];decide
   refine Op_add_str ?_ (EV_sub (EV_list (EL_cons (EV_str (EL_cons (EV_str (EL_cons (EV_str (EL_nil ⟨by rw [hsl];show 3≤_;refine' Nat.le_add_left _ _,fun a ha=>?_⟩)))))))))
   ·show (S_ "${").length+_≤_;with_reducible (apply qS;symm)
   refine EV_bin (EV_loc (EV_int (Op_fmod_int (by decide) ?_)))
   rw [show (way:Int).fmod 3=((way%3:Nat):Int) from nmod way 3]
   refine Op_item_list (k:=way%3) (v:=.str (padS way)) List.mem_cons_self rfl (.inl ⟨by refine' Int.natCast_nonneg _,(Int.toNat_natCast _).symm⟩) ?_ (by simp) ?_
   ·unfold padS
    have:way%3 <3:=Nat.mod_lt _ (by with_reducible (apply qM;symm))
    rcases (show way%3=0∨way%3=1∨way%3=2 by refine' q3 ‹_›) with h | h | h<;>rw [h]<;>rfl
   refine Op_add_str ?_ (EV_str (Op_add_str ?_ (EL_cons (EV_sub (EV_loc (EV_loc ?_))))))
   ·rw [Str.length_append];show (S_ "${").length+_+_≤_;with_reducible (apply qS;symm)
   ·rw [Str.length_append,Str.length_append];show (S_ "${").length+_+_+(S_ "}").length≤_;with_reducible (apply qS;symm)
   refine Op_item_list (k:=kind) (List.mem_cons_of_mem _ hk) rfl (.inl ⟨by refine' Int.natCast_nonneg _,(Int.toNat_natCast _).symm⟩) (hget _ h6) (by simp [lawKeys]) (EL_cons (EV_str (EL_cons (EV_int (EL_nil ⟨by rw [hsl];show 4≤_;refine' Nat.le_add_left _ _,⟨[],st.sto⟩,le0 (.cons _ (List.Sublist.refl _)),?_⟩)))))
   show Q _ (⟨st.loc,st.sto⟩:St)
   have e:(lPiece kind way).v=.tup [.str (S_ "${"++keyS (lawKeys.getD kind []) way++padS way++S_ "}"),.tup (strV (lawKeys.getD kind [])),.str (S_ ""),.int (0:Nat)]:=by
    unfold lPiece
    rw [if_pos h6];rfl
   rw [e] at q
   exact q
  ·rw [decide_eq_false h6]
   have hcode:lCode way≤1114111:=by
    have:way%1111936 <1111936:=Nat.mod_lt _ (by with_reducible (apply qM;symm))
    unfold lCode;split<;>lia
   have n3:3≤sizeLine:=by rw [hsl];refine' Nat.le_add_left _ _
   have n4:4≤sizeLine:=by rw [hsl];refine' Nat.le_add_left _ _
   have n2:2≤sizeLine:=by rw [hsl];refine' Nat.le_add_left _ _
   have n1:1≤sizeLine:=by rw [hsl];refine' Nat.le_add_left _ _
   have n100:3000≤sizeLine:=by rw [hsl];refine' Nat.le_add_left _ _
   have e2:(S_ "${").length=2:=by rw [S_len];rfl
   have e3:(S_ ".}").length=2:=by rw [S_len];rfl
   have e4:(S_ " 'b'}").length=5:=by rw [S_len];rfl
   have e5:(S_ " .").length=2:=by rw [S_len];rfl
   have hKK2:KK.length <2 ^ 62:=by refine' qM ‹_› (by nofun)
   have hq:(lPiece kind way).v=.tup [.str (tripOf kind way).1,.none,.str (tripOf kind way).2.1,.int (tripOf kind way).2.2]:=by
    unfold lPiece;rw [if_neg h6];rfl
   rw [hq] at q
   have tail:∀(W:Addr),(∀y∈st.sto,y.1≠W)→
    EB K (cxIn c (fdOf (u578 K.w.params)) 578 L') ((fdB (bod.getD 66 dS)).drop 4) ⟨[(S_ "whole",.ref W),(S_ "code",.int (way%1111936+128:Nat)),(S_ "key",.str KK),(S_ "first",.str lFirst),(S_ "keys",.ref ka),(S_ "way",.int way),(S_ "kind",.int kind)],(W,(whole1 way).map tripV)::st.sto⟩
     (KPost (kDef st (onlyV Q))) (kDefX st X):=by
    intro W hW
    refine EB_cons ?_
    refine ES_iaddL (l:=(whole1 way).map tripV) rfl rfl hW rfl ?_
    refine EL_cons (EV_tuple (EL_cons (EV_bin (EV_bin (EV_str (EV_loc (Op_add_str ?_ (EV_str (Op_add_str ?_ (EL_cons (EV_loc ?_)))))))))))
    ·show (S_ "${").length+_≤_;with_reducible (apply qS;symm)
    ·rw [Str.length_append];show (S_ "${").length+_+(S_ ".}").length≤_;with_reducible (apply qS;symm)
    refine EL_cons (EV_bin (EV_callB (EV_blt P.G P.len.mg P.len.mb (.blt _) ⟨_,rfl,EL_cons (EV_loc (EL_nil (CF_len hKK2 (EV_int (Op_add_int (EL_nil ⟨n3,?_⟩))))))⟩)))
    refine EL_cons (EV_tuple (EL_cons (EV_bin (EV_bin (EV_str (EV_loc (Op_add_str ?_ (EV_str (Op_add_str ?_ (EL_cons (EV_str ?_)))))))))))
    ·show (S_ "${").length+_≤_;with_reducible (apply qS;symm)
    ·rw [Str.length_append];show (S_ "${").length+_+(S_ " 'b'}").length≤_;with_reducible (apply qS;symm)
    refine EL_cons (EV_bin (EV_callB (EV_blt P.G P.len.mg P.len.mb (.blt _) ⟨_,rfl,EL_cons (EV_loc (EL_nil (CF_len hKK2 (EV_int (Op_add_int (EL_nil ⟨n3,?_⟩))))))⟩)))
    refine EL_nil ⟨rfl,rfl,by simp [whole1],?_⟩
    refine EB_cons ?_
    refine ES_iaddL (l:=(whole1 way++whole2 KK).map tripV) rfl rfl hW rfl ?_
    refine EL_cons (EV_tuple (EL_cons (EV_str (EL_cons (EV_str (EL_cons (EV_int (EL_nil ⟨n3,?_⟩))))))))
    refine EL_cons (EV_tuple (EL_cons (EV_str (EL_cons (EV_str (EL_cons (EV_int (EL_nil ⟨n3,?_⟩))))))))
    refine EL_nil ⟨rfl,rfl,by simp [whole1,whole2],?_⟩
    refine EB_cons ?_
    refine ES_iaddL (l:=(whole1 way++whole2 KK++whole3).map tripV) rfl rfl hW rfl ?_
    refine EL_cons (EV_tuple (EL_cons (EV_str (EL_cons (EV_str (EL_cons (EV_int (EL_nil ⟨n3,?_⟩))))))))
    refine EL_cons (EV_tuple (EL_cons (EV_str (EL_cons (EV_str (EL_cons (EV_int (EL_nil ⟨n3,?_⟩))))))))
    refine EL_nil ⟨rfl,rfl,by simp [whole1,whole2,whole3],?_⟩
    refine EB_cons ?_
    refine ES_iaddL (l:=(whole1 way++whole2 KK++whole3++whole4).map tripV) rfl rfl hW rfl ?_
    refine EL_cons (EV_tuple (EL_cons (EV_str (EL_cons (EV_str (EL_cons (EV_int (EL_nil ⟨n3,?_⟩))))))))
    refine EL_nil ⟨rfl,rfl,by simp [whole1,whole2,whole3,whole4],?_⟩
    refine EB_cons ?_
    refine ES_assign ?_
    refine EV_list ?_
    refine EL_cons (EV_tuple (EL_cons (EV_bin (EV_bin (EV_str (EV_loc (Op_add_str ?_ (EV_str (Op_add_str ?_ (EL_cons (EV_loc ?_)))))))))))
    ·show (S_ "${").length+_≤_;with_reducible (apply qS;symm)
    ·rw [Str.length_append];show (S_ "${").length+_+(S_ " .").length≤_;with_reducible (apply qS;symm)
    refine EL_cons (EV_bin (EV_callB (EV_blt P.G P.len.mg P.len.mb (.blt _) ⟨_,rfl,EL_cons (EV_loc (EL_nil (CF_len hKK2 (EV_int (Op_add_int (EL_nil ⟨n3,?_⟩))))))⟩)))
    refine EL_cons (EV_tuple (EL_cons (EV_str (EL_cons (EV_str (EL_cons (EV_int (EL_nil ⟨n3,?_⟩))))))))
    refine EL_cons (EV_tuple (EL_cons (EV_str (EL_cons (EV_str (EL_cons (EV_int (EL_nil ⟨n3,?_⟩))))))))
    refine EL_nil ⟨n3,fun T' hT=>?_⟩
    have hTW:∀y∈(W,(wholeL KK way).map tripV)::st.sto,y.1≠T':=adr_ne (st:=⟨[],(W,(wholeL KK way).map tripV)::st.sto⟩) hT
    refine EB_cons ?_
    refine ES_iaddL (W:=T') (l:=(torn1 KK).map tripV) (rest:=(W,(wholeL KK way).map tripV)::st.sto) rfl rfl hTW rfl ?_
    refine EL_cons (EV_tuple (EL_cons (EV_str (EL_cons (EV_str (EL_cons (EV_int (EL_nil ⟨n3,?_⟩))))))))
    refine EL_cons (EV_tuple (EL_cons (EV_bin (EV_str (EV_loc (Op_add_str ?_ (EL_cons (EV_str ?_))))))))
    ·show (S_ "${").length+_≤_;with_reducible (apply qS;symm)
    refine EL_cons (EV_bin (EV_callB (EV_blt P.G P.len.mg P.len.mb (.blt _) ⟨_,rfl,EL_cons (EV_loc (EL_nil (CF_len hKK2 (EV_int (Op_add_int (EL_nil ⟨n3,?_⟩))))))⟩)))
    refine EL_nil ⟨rfl,rfl,by simp [torn1],?_⟩
    refine EB_cons ?_
    refine ES_unpack hh' (EV_ifexp (ET_cmp (EV_loc (EV_int (Op_lt_int ⟨_,rfl,?_⟩)))))
    rw [show decide ((kind:Int) <17)=decide (kind <17) from by rw [decide_eq_decide];refine' qclt _ _]
    by_cases h17:kind <17
    ·have et:tripOf kind way=(wholeL KK way).getD (kind -6) (S_ "",S_ "",0):=by unfold tripOf;rw [if_pos h17,hKK]
     have hlen:(wholeL KK way).length=11:=rfl
     have hg:((wholeL KK way).map tripV)[kind -6]?=some (tripV (tripOf kind way)):=by
      rw [et,List.getElem?_map,List.getD_eq_getElem?_getD,List.getElem?_eq_getElem (by lia)];rfl
     rw [decide_eq_true h17]
     refine EV_sub (EV_loc (EV_bin (EV_loc (EV_int (Op_sub_int ?_)))))
     rw [show (kind:Int) -6=((kind -6:Nat):Int) from by refine' r4 ‹_›]
     refine Op_item_list (k:=kind -6) (l:=(wholeL KK way).map tripV) (List.mem_cons_of_mem _ List.mem_cons_self) rfl (.inl ⟨by refine' Int.natCast_nonneg _,(Int.toNat_natCast _).symm⟩) hg (by simp [hlen]) ⟨_,rfl,rfl,AS_name (AS_name (AS_name (AS_nil ?_)))⟩
     refine EB_cons ?_
     refine ES_return (EV_tuple (EL_cons (EV_loc (EL_cons (EV_none (EL_cons (EV_loc (EL_cons (EV_loc (EL_nil ⟨n4,⟨[],st.sto⟩,le0 (.cons _ (.cons _ (List.Sublist.refl _))),?_⟩))))))))))
     exact q
    ·have hk17:kind=17:=by lia
     have et:tripOf kind way=(tornL KK).getD (way%5) (S_ "",S_ "",0):=by unfold tripOf;rw [if_neg h17,hKK]
     have hlen:(tornL KK).length=5:=rfl
     have h5:way%5 <5:=Nat.mod_lt _ (by with_reducible (apply qM;symm))
     have hg:((tornL KK).map tripV)[way%5]?=some (tripV (tripOf kind way)):=by
      rw [et,List.getElem?_map,List.getD_eq_getElem?_getD,List.getElem?_eq_getElem (by lia)];rfl
     rw [decide_eq_false h17]
     refine EV_sub (EV_loc (EV_bin (EV_loc (EV_int (Op_fmod_int (by decide) ?_)))))
     rw [show (way:Int).fmod 5=((way%5:Nat):Int) from nmod way 5]
     refine Op_item_list (k:=way%5) (l:=(tornL KK).map tripV) List.mem_cons_self rfl (.inl ⟨by refine' Int.natCast_nonneg _,(Int.toNat_natCast _).symm⟩) hg (by simp [hlen]) ⟨_,rfl,rfl,AS_name (AS_name (AS_name (AS_nil ?_)))⟩
     refine EB_cons ?_
     refine ES_return (EV_tuple (EL_cons (EV_loc (EL_cons (EV_none (EL_cons (EV_loc (EL_cons (EV_loc (EL_nil ⟨n4,⟨[],st.sto⟩,le0 (.cons _ (.cons _ (List.Sublist.refl _))),?_⟩))))))))))
     exact q
   refine EB_nil ?_
   refine EB_cons ?_
   refine ES_assign ?_
   refine EV_list ?_
   refine EL_cons (EV_tuple (EL_cons (EV_str (EL_cons (EV_str (EL_cons (EV_int (EL_nil ⟨n3,?_⟩))))))))
   refine EL_cons (EV_tuple (EL_cons (EV_str (EL_cons (EV_str (EL_cons (EV_int (EL_nil ⟨n3,?_⟩))))))))
   refine EL_cons (EV_tuple (EL_cons (EV_callB (EV_blt P.G P.chr_.mg P.chr_.mb (.blt _) ⟨_,rfl,EL_cons (EV_ifexp (ET_cmp (EV_loc (EV_int (Op_lt_int ⟨_,rfl,?_⟩)))))⟩))))
   rw [show decide (((way%1111936+128:Nat):Int) <55296)=decide (way%1111936+128 <55296) from by rw [decide_eq_decide];refine' qclt _ _]
   have fin4:∀W,W∉adr (⟨[(S_ "code",.int (way%1111936+128:Nat)),(S_ "key",.str KK),(S_ "first",.str lFirst),(S_ "keys",.ref ka),(S_ "way",.int way),(S_ "kind",.int kind)],st.sto⟩:St)→(∀y∈st.sto,y.1≠W):=fun W h=>adr_ne h
   by_cases hc:way%1111936+128 <55296
   ·have ec:((way%1111936+128:Nat):Int)=(lCode way:Nat):=by unfold lCode;rw [if_pos hc]
    rw [decide_eq_true hc]
    refine EV_loc (EL_nil ?_)
    rw [ec]
    refine CF_chr hcode ?_
    refine EL_cons (EV_str (EL_cons (EV_int (EL_nil ⟨n3,?_⟩))))
    refine EL_cons (EV_tuple (EL_cons (EV_str (EL_cons (EV_loc (EL_cons (EV_int (EL_nil ⟨n3,?_⟩))))))))
    refine EL_nil ⟨n4,fun W hWn=>?_⟩
    have:=tail W (fin4 W hWn)
    rw [ec] at this
    exact this
   ·have ec:((way%1111936+128:Nat):Int)+2048=(lCode way:Nat):=by unfold lCode;rw [if_neg hc];rfl
    rw [decide_eq_false hc]
    refine EV_bin (EV_loc (EV_int (Op_add_int (EL_nil ?_))))
    rw [ec]
    refine CF_chr hcode ?_
    refine EL_cons (EV_str (EL_cons (EV_int (EL_nil ⟨n3,?_⟩))))
    refine EL_cons (EV_tuple (EL_cons (EV_str (EL_cons (EV_loc (EL_cons (EV_int (EL_nil ⟨n3,?_⟩))))))))
    refine EL_nil ⟨n4,fun W hWn=>?_⟩
    exact tail W (fin4 W hWn)
end
end
section
abbrev Row:=List (List Nat)×List Nat
noncomputable def aboveL (rows:List Row) (names:List (List Nat)):List (List Nat):=(rows.filter fun r=>r.1==names).map (·.2)
noncomputable def fillL (rows:List Row) (x:Str):Nat→Nat→List Nat→List Str→List Nat×List Str
 | 0,p,out,told=>((out++(L x).drop p).take 80,told)
 | n+1,p,out,told=>match hole2 ((L x).drop p) with
   | none=>((out++(L x).drop p).take 80,told)
   | some k=>match pKey ((L x).drop (p+k+2)) with
     | .error (i,m)=>fillL rows x n (p+k+2) (out++((L x).drop p).take k++[36,123]) (told++[errText x (p+k+2+i) m])
     | .ok (j,names)=>
       if ((L x).drop (p+k+2+j)).take 1=[125] then match (aboveL rows names).getLast? with
        | none=>fillL rows x n (p+k+2) (out++((L x).drop p).take k++[36,123]) (told++[S_ "unknown"++lAt x (p+k)])
        | some v=>fillL rows x n (p+k+2+j+1) (out++((L x).drop p).take k++v) told
       else fillL rows x n (p+k+2) (out++((L x).drop p).take k++[36,123]) (told++[S_ "not closed"++lAt x (p+k+2+j)])
section
variable {K:Kx} {c:Cx} {st:St} {Q:V→St→Prop} {X:Xc→St→Prop}
theorem pKey_len {r:List Nat} {k:Nat} {s:List (List Nat)} (h:pKey r=.ok (k,s)):k≤r.length:=by
 have tail:∀(n:Nat) (r:List Nat) (ps:List (List Nat)) (k:Nat) (s:List (List Nat)),pTail n r ps=.ok (k,s)→k≤r.length:=by
  intro n
  induction n with
  | zero=>intro r ps k s h;cases h;exact Nat.zero_le _
  | succ n ih=>
    intro r ps k s h
    cases r with
    | nil=>cases h;exact Nat.zero_le _
    | cons a t=>
      rw [pTail] at h
      split at h
      ·cases hp:pPart (t.drop (skipW wsB t)) with
       | error e=>rw [hp] at h;cases h
       | ok z=>
         obtain ⟨k1,s1⟩:=z
         rw [hp] at h
         dsimp only at h
         generalize hr:pTail n _ _=o at h
         cases o with
         | error e=>cases h
         | ok z=>
           obtain ⟨k2,s2⟩:=z
           have h2:=ih _ _ _ _ hr
           have h3:=pPart_len hp
           have h4:=skipW_le wsB ((t.drop (skipW wsB t)).drop k1)
           have h5:=skipW_le wsB t
           simp only [List.length_drop] at h2 h3 h4
           cases h
           simp only [List.length_cons];first | refine' r10' ‹_› ‹_› ‹_› ‹_› | (dsimp only;lia)
      ·cases h;exact Nat.zero_le _
 unfold pKey at h
 cases hp:pPart r with
 | error e=>rw [hp] at h;cases h
 | ok z=>
   obtain ⟨k1,s1⟩:=z
   rw [hp] at h
   dsimp only at h
   generalize hr:pTail _ _ _=o at h
   cases o with
   | error e=>cases h
   | ok z=>
     obtain ⟨k2,s2⟩:=z
     have h2:=tail _ _ _ _ _ hr
     have h3:=pPart_len hp
     have h4:=skipW_le wsB (r.drop k1)
     simp only [List.length_drop] at h2 h4
     cases h
     first | refine' r10 ‹_› ‹_› ‹_› | (dsimp only;lia)
noncomputable abbrev rowsV (rows:List Row):List V:=rows.map rowV
theorem isC_rows (rows:List Row):isC (rowsV rows)=false:=by cases rows<;>rfl
noncomputable def fSt (x:Str) (ra T M:Addr) (rest:List (Addr×List V)) (extra:List (Str×V)) (p:Nat) (out:List Nat) (told:List Str) (cv:List V):St:=
 ⟨extra++[(S_ "at",.int p),(S_ "told",.ref T),(S_ "out",.str ⟨out.toArray⟩),(S_ "rows",.ref ra),(S_ "text",.str x)],(T,told.map V.str)::(M,.mark::cv)::rest⟩
inductive FIv (x:Str) (rows:List Row) (ra T M:Addr) (rest:List (Addr×List V)) (F:List Nat×List Str) (n:Nat) (st:St):Prop
 | mk (p:Nat) (out:List Nat) (told:List Str) (cv:List V) (hp:p≤x.length) (hn:x.length <p+n) (ho:out.length≤82*p) (ht:told.length≤p) (hf:fillL rows x n p out told=F) (le:St.Le (fSt x ra T M rest [] p out told cv) st)
inductive FHo (x:Str) (rows:List Row) (ra T M:Addr) (rest:List (Addr×List V)) (F:List Nat×List Str) (out':List Nat) (m p₀:Nat) (f:Fl) (st:St):Prop
 | mk (hf:f=.next) (p:Nat) (fill:List Nat) (told:List Str) (cv:List V) (h1:p₀≤p) (h2:p≤x.length) (h3:fill.length≤80) (h4:told.length≤p) (h5:fillL rows x m p (out'++fill) told=F) (le:St.Le (fSt x ra T M rest [(S_ "filled",.str ⟨List.toArray fill⟩)] p out' told cv) st)
noncomputable def filS (i:Nat):Stmt:=(whB ((fdB (bod.getD 67 dS)).getD 1 dS)).getD i dS
theorem isC_strS (l:List Str):isC (l.map V.str)=false:=by cases l<;>rfl
theorem CF_appendS {j r:List (Addr×List V)} {a:Addr} {told:List Str} {msg:Str} (hs:st.sto=j++(a,told.map V.str)::r) (hsz:told.length≤100000) (q:Q .none ⟨st.loc,j++(a,(told++[msg]).map V.str)::r⟩):CF K c (.blt "list.append") [.ref a,.str msg] [] [] st Q X:=
 CF_appendM hs (isC_strS _) (by rw [List.length_map];exact hsz) (by rw [List.map_append] at q;exact q)
theorem aboveL_succ {rows:List Row} {i:Nat} {r:Row} (h:rows[i]?=some r) (names:List (List Nat)):aboveL (rows.take (i+1)) names=aboveL (rows.take i) names++(if r.1==names then [r.2] else []):=by
 unfold aboveL
 rw [List.take_add_one,h,List.filter_append,List.map_append]
 congr 1
 simp only [Option.toList_some,List.filter_cons,List.filter_nil]
 split<;>rfl
theorem aboveL_len (rows:List Row) (names:List (List Nat)):(aboveL rows names).length≤rows.length:=by
 unfold aboveL
 rw [List.length_map]
 exact List.length_filter_le _ _
theorem aboveL_mem {rows:List Row} {names:List (List Nat)} {v:List Nat} (hv:∀r∈rows,r.2.length≤80) (h:v∈aboveL rows names):v.length≤80:=by
 obtain ⟨r,hr1,rfl⟩:=List.mem_map.mp h
 exact hv r (List.mem_filter.mp hr1).1
noncomputable abbrev cxF (K:Kx) (c:Cx) (L':Addr):Cx:=cxInC c (fdOf (u583 K.w.params)) 583 L'
variable {x:Str} {rows:List Row} {ra T L':Addr} {p k m j:Nat} {out':List Nat} {told:List Str} {cv:List V} {F:List Nat×List Str} {rest:List (Addr×List V)} {names:List (List Nat)} {R:Fl→St→Prop}
noncomputable abbrev fLoc (p k j:Nat):List (Str×V):=[(S_ "end",.int (p+k+2+j:Nat)),(S_ "start",.int (p+k:Nat)),(S_ "filled",.str ⟨[36,123].toArray⟩)]
structure FEnd (x:Str) (rows:List Row) (p k j m:Nat) (out':List Nat) (told:List Str) (names:List (List Nat)) (F:List Nat×List Str):Prop where
 opn:((L x).drop (p+k+2+j)).take 1≠[125]→fillL rows x m (p+k+2) (out'++[36,123]) (told++[S_ "not closed"++lAt x (p+k+2+j)])=F
 unk:((L x).drop (p+k+2+j)).take 1=[125]→(aboveL rows names).getLast?=none→fillL rows x m (p+k+2) (out'++[36,123]) (told++[S_ "unknown"++lAt x (p+k)])=F
 fil:((L x).drop (p+k+2+j)).take 1=[125]→∀v,(aboveL rows names).getLast?=some v→fillL rows x m (p+k+2+j+1) (out'++v) told=F
theorem hole_if (P:Pk11 K) {D:Addr} {above:List (List Nat)} (hab:aboveL rows names=above) (hlr:rows.length≤1000) (hv:∀r∈rows,r.2.length≤80) (hx:x.length≤900) (hroom:c.A.depth+40 <recursionLimit) (hun:c.A.units+100 <cLine) (hh:c.A.handled=none)
 (ht:told.length≤p) (hj:p+k+2+j≤x.length) (E:FEnd x rows p k j m out' told names F) (hR:∀st',FHo x rows ra T (L'+1) rest F out' m (p+k+2) .next st'→R .next st'):
 EB K (cxF K c L') ((tryB (filS 3)).drop 2) ⟨(S_ "above",.ref D)::(fSt x ra T (L'+1) rest (fLoc p k j) (p+k+2) out' told [.tup (strV names)]).loc,(D,strV above)::(fSt x ra T (L'+1) rest (fLoc p k j) (p+k+2) out' told [.tup (strV names)]).sto⟩ R X:=by
 have hh':(cxF K c L').A.handled=none:=hh
 have hsl:sizeLine=16777216:=sizeLine_eq
 have n2:2≤sizeLine:=by with_reducible (apply qS;symm)
 have habl:∀v∈above,v.length≤80:=fun v hvm=>aboveL_mem hv (hab▸hvm)
 have habn:above.length≤1000:=Nat.le_trans (hab▸aboveL_len ..) hlr
 have ebr:(Str.ofString "}").cps.toList=[125]:=by decide+kernel
 have hat:=coordR_len' (x:=x) (p:=p+k) (by refine' qN ‹_› (by nofun))
 have hat2:=coordR_len' (x:=x) (p:=p+k+2+j) (by refine' qN ‹_› (by nofun))
 have eu:(S_ "unknown").length=7:=by rw [S_len];rfl
 have en:(S_ "not closed").length=10:=by rw [S_len];rfl
 obtain ⟨E1,E2,E3⟩:=E
 rw [hab] at E2 E3
 clear hab hv hlr
 refine EB_cons ?_
 refine ES_if (ET_cmp (EV_slice (EV_loc (EP_some (EV_loc (EP_some (EV_bin (EV_loc (EV_int (Op_add_int ⟨_,_,_,rfl,rfl,rfl,EV_str (Op_ne_str ⟨_,rfl,?_⟩)⟩))))))))))
 rw [show ((p+k+2+j:Nat):Int)+1=((p+k+2+j+1:Nat):Int) from rfl,slice_eq,show p+k+2+j+1 -(p+k+2+j)=1 by refine' Nat.add_sub_cancel_left ..,ebr]
 by_cases hclose:((L x).drop (p+k+2+j)).take 1=[125]
 ·rw [hclose]
  have hlt:p+k+2+j <x.length:=by
   rcases Nat.lt_or_ge (p+k+2+j) x.length with h | h
   ·exact h
   ·rw [List.drop_eq_nil_of_le (by rw [L_length];exact h)] at hclose
    cases hclose
  refine EB_cons ?_
  refine ES_if (ET_cmp (EV_loc (EV_list (EL_nil ⟨Nat.zero_le _,fun a ha=>?_⟩))))
  refine Op_eq_nil (l:=strV above) (by show c.A.units+3+1 <_;refine' qL2 ‹_› (by nofun)) (List.mem_cons_of_mem _ List.mem_cons_self) (isC_strs _) List.mem_cons_self ⟨_,rfl,?_⟩
  rw [show (strV above).length=above.length from List.length_map _]
  cases hgl:above.getLast? with
  | none=>
    cases List.getLast?_eq_none_iff.mp hgl
    refine EB_cons ?_
    refine ES_expr (EV_meth PySem.F.plainAttrs_list PySem.F.slot_list_append PySem.F.type_list_append (EV_loc ⟨Recv.list (l:=told.map V.str) (List.mem_cons_of_mem _ (List.mem_cons_of_mem _ List.mem_cons_self)) (isC_strS _),EL_cons (EV_bin (EV_str (EV_call (EV_glob P.G P.lat.mg (.ref _) ⟨571,_,_,rfl,P.lat.ob,rfl,EL_cons (EV_loc (EL_cons (EV_loc (EL_nil (EK_nil ?_)))))⟩))))⟩))
    exact at_ok (p:=p+k) P (by refine' qN ‹_› (by nofun)) (by lia) (by show c.A.depth+1+2 <_;refine' qL2 ‹_› (by nofun)) hh' (Op_add_str (by show (S_ "unknown").length+_≤_;with_reducible (apply qS;symm)) (EL_nil (CF_appendS (j:=[(a,[]),(D,_)]) rfl (by lia) ⟨rfl,EB_nil (EB_nil (EB_nil (hR _
     ⟨rfl,p+k+2,[36,123],told++[S_ "unknown"++lAt x (p+k)],[.tup (strV names)],Nat.le_refl _,by lia,by decide,by rw [List.length_append];show told.length+1≤_;lia,E2 hclose hgl,leA (.cons _ (.cons _ (List.Sublist.refl _))) ⟨rfl,rfl,rfl,rfl,rfl,rfl,trivial⟩⟩)))⟩)))
  | some v=>
    have hvm:v∈above:=List.mem_of_getLast? hgl
    have hpos:0 <above.length:=List.length_pos_of_mem hvm
    rw [show (above.length==0)=false from beq_eq_false_iff_ne.mpr (Nat.ne_of_gt hpos)]
    have hlast:(strV above)[above.length -1]?=some (.str ⟨v.toArray⟩):=by
     rw [List.getElem?_map,←List.getLast?_eq_getElem?,hgl];rfl
    refine EB_cons ?_
    refine ES_swap [S_ "at",S_ "filled"] hh' ?_
    refine EV_tuple (EL_cons (EV_bin (EV_loc (EV_int (Op_add_int (EL_cons (EV_sub (EV_loc (EV_neg (EV_int ⟨_,rfl,?_⟩))))))))))
    refine Op_item_list (l:=strV above) (k:=above.length -1) (List.mem_cons_of_mem _ List.mem_cons_self) (isC_strs _) (.inr ⟨by lia,by rw [List.length_map];lia,by rw [List.length_map];refine' qI1 ‹_›⟩) hlast (by rw [List.length_map];refine' qN ‹_› (by nofun)) (EL_nil ⟨n2,_,rfl,rfl,AS_bind (AS_bind (AS_nil ?_))⟩)
    exact EB_nil (EB_nil (EB_nil (hR _ ⟨rfl,p+k+2+j+1,v,told,[.tup (strV names)],by lia,by refine' Nat.succ_le_of_lt ‹_›,habl v hvm,by lia,E3 hclose v hgl,leA (.cons _ (.cons _ (List.Sublist.refl _))) ⟨rfl,rfl,rfl,rfl,rfl,rfl,trivial⟩⟩)))
 ·rw [show (((L x).drop (p+k+2+j)).take 1 != [125])=true from bne_iff_ne.mpr hclose]
  refine EB_cons ?_
  refine ES_expr (EV_meth PySem.F.plainAttrs_list PySem.F.slot_list_append PySem.F.type_list_append (EV_loc ⟨Recv.list (l:=told.map V.str) (List.mem_cons_of_mem _ List.mem_cons_self) (isC_strS _),EL_cons (EV_bin (EV_str (EV_call (EV_glob P.G P.lat.mg (.ref _) ⟨571,_,_,rfl,P.lat.ob,rfl,EL_cons (EV_loc (EL_cons (EV_loc (EL_nil (EK_nil ?_)))))⟩))))⟩))
  exact at_ok (p:=p+k+2+j) P (by refine' qN ‹_› (by nofun)) (by lia) (by show c.A.depth+1+2 <_;refine' qL2 ‹_› (by nofun)) hh' (Op_add_str (by show (S_ "not closed").length+_≤_;with_reducible (apply qS;symm)) (EL_nil (CF_appendS (j:=[(D,_)]) rfl (by lia) ⟨rfl,EB_nil (EB_nil (hR _
   ⟨rfl,p+k+2,[36,123],told++[S_ "not closed"++lAt x (p+k+2+j)],[.tup (strV names)],Nat.le_refl _,by lia,by decide,by rw [List.length_append];show told.length+1≤_;lia,E1 hclose,leA (.cons _ (List.Sublist.refl _)) ⟨rfl,rfl,rfl,rfl,rfl,rfl,trivial⟩⟩))⟩)))
theorem hole_ab (P:Pk11 K) (hr:(ra,rowsV rows)∈rest) (hlr:rows.length≤1000) (hun:c.A.units+100 <cLine) (hh:c.A.handled=none)
 (h:∀D,EB K (cxF K c L') ((tryB (filS 3)).drop 2) ⟨(S_ "above",.ref D)::(fSt x ra T (L'+1) rest (fLoc p k j) (p+k+2) out' told [.tup (strV names)]).loc,(D,strV (aboveL rows names))::(fSt x ra T (L'+1) rest (fLoc p k j) (p+k+2) out' told [.tup (strV names)]).sto⟩ R X):
 EB K (cxF K c L') ((tryB (filS 3)).drop 1) (fSt x ra T (L'+1) rest (fLoc p k j) (p+k+2) out' told [.tup (strV names)]) R X:=by
 have hh':(cxF K c L').A.handled=none:=hh
 have hr':(ra,rowsV rows)∈(fSt x ra T (L'+1) rest (fLoc p k j) (p+k+2) out' told [.tup (strV names)]).sto:=List.mem_cons_of_mem _ (List.mem_cons_of_mem _ hr)
 refine EB_cons ?_
 refine ES_comp [(S_ "names",L'+1)] hh' (by kernel_rfl!) ?_
 refine EV_loc ⟨rowsV rows,fun sto=>(ra,rowsV rows)∈sto,Src.own hh' (isC_rows rows),hr',fun D ys=>List.mem_cons_of_mem _ hr',by rw [List.length_map];refine' qN ‹_› (by nofun),fun i ys=>ys=strV (aboveL (rows.take i) names),rfl,?_,?_,?_⟩
 ·rintro i ys rfl
  refine ⟨isC_strs _,?_⟩
  rw [List.length_map]
  exact Nat.le_trans (aboveL_len ..) (by rw [List.length_take];refine' Nat.min_le_left _ _)
 ·intro C D i v ys loc hv2 hy
  rw [List.getElem?_map] at hv2
  obtain ⟨r,hg,hv'⟩:=Option.map_eq_some_iff.mp hv2
  subst hv' hy
  have htk:=aboveL_succ hg names
  refine TA_tuple hh' rfl (AS_name (AS_name (AS_nil ?_)))
  refine EI_one (ET_cmp (EV_loc (EV_cell (a:=L'+1) (v:=.tup (strV names)) (by kernel_rfl!) (List.mem_cons_of_mem _ (List.mem_cons_of_mem _ List.mem_cons_self)) (Op_eq_tups (by show c.A.units+3+1 <_;refine' qL2 ‹_› (by nofun)) ⟨_,rfl,?_⟩))))
  cases hb:(r.1==names) with
  | true=>
    refine EV_loc ⟨rfl,?_⟩
    show _=strV (aboveL (rows.take (i+1)) names)
    rw [htk,hb,if_pos rfl]
    exact (List.map_append (l₂:=[r.2])).symm
  | false=>
    refine ⟨rfl,?_⟩
    show _=strV (aboveL (rows.take (i+1)) names)
    rw [htk,hb,if_neg Bool.false_ne_true,List.append_nil]
 ·intro D ys hD hy
  rw [show (rowsV rows).length=rows.length from List.length_map _,List.take_of_length_le (Nat.le_refl _)] at hy
  subst hy
  exact h D
theorem hole_ok (P:Pk11 K) (hr:(ra,rowsV rows)∈rest) (hlr:rows.length≤1000) (hv:∀r∈rows,r.2.length≤80) (hx:x.length≤900) (hroom:c.A.depth+40 <recursionLimit) (hun:c.A.units+100 <cLine) (hh:c.A.handled=none) (hTr:∀cv:List V,∀y∈(L'+1,V.mark::cv)::rest,y.1≠T)
 (hk:p+k+2≤x.length) (ht:told.length≤p)
 (he:∀i msg,pKey ((L x).drop (p+k+2))=.error (i,msg)→fillL rows x m (p+k+2) (out'++[36,123]) (told++[errText x (p+k+2+i) msg])=F)
 (ho:∀j names,pKey ((L x).drop (p+k+2))=.ok (j,names)→FEnd x rows p k j m out' told names F):
 ES K (cxF K c L') (filS 3) (fSt x ra T (L'+1) rest [(S_ "start",.int (p+k:Nat)),(S_ "filled",.str ⟨[36,123].toArray⟩)] (p+k+2) out' told cv) (FHo x rows ra T (L'+1) rest F out' m (p+k+2)) NoX:=by
 have hh':(cxF K c L').A.handled=none:=hh
 have hsl:sizeLine=16777216:=sizeLine_eq
 have n2:2≤sizeLine:=by with_reducible (apply qS;symm)
 refine ES_tryAs (G:=P.G) P.ownS ?_ P.C
 refine EB_cons ?_
 refine ES_unpack hh' (EV_call (EV_glob P.G P.key.mg (.ref _) ⟨453,_,_,rfl,P.key.ob,rfl,EL_cons (EV_loc (EL_cons (EV_loc (EL_nil (EK_nil ?_)))))⟩))
 refine parse_key_ok (p:=p+k+2) P (by refine' qN ‹_› (by nofun)) (by assumption) ?_ (by show c.A.depth+1+24 <_;refine' qL2 ‹_› (by nofun)) hh' ?_
 ·have:=keyN_le ((L x).drop (p+k+2))
  rw [List.length_drop,L_length] at this
  lia
 cases hpk:pKey ((L x).drop (p+k+2)) with
 | error e=>
   obtain ⟨i,msg⟩:=e
   have hf:=he i msg hpk
   intro b
   refine ⟨rfl,_,rfl,fun e s r J=>?_⟩
   refine wpAny_execs_cons (wpAny_mono (suite_append P.G P.ownS r J (by show c.A.units+3+2 <_;refine' qL2 ‹_› (by nofun)) P.str_.mg P.str_.mb (a:=T) (l:=told.map V.str) rfl List.mem_cons_self (isC_strS _) (by rw [List.length_map];lia) rfl
    (by kernel_rfl!) (by kernel_rfl!) (by kernel_rfl!) (by decide) (by decide) (by decide) (by rfl) (by rfl) (by with_unfolding_all rfl) (by kernel_rfl!) (by kernel_rfl!) (by kernel_rfl!) (by kernel_rfl!) (by kernel_rfl!) (by kernel_rfl!)) (fun f s' ⟨fl,st₂,n2,i2,hfl,hst⟩=>?_) fun _ _ z=>z)
   subst hfl hst
   cases i2
   refine wpAny_execs_nil ⟨.next,_,n2,.next,rfl,fSt x ra T (L'+1) rest [(S_ "filled",.str ⟨[36,123].toArray⟩)] (p+k+2) out' (told++[errText x (p+k+2+i) msg]) cv,leA ?_ ⟨rfl,rfl,rfl,rfl,rfl,rfl,trivial⟩,rfl,rfl,
    p+k+2,[36,123],told++[errText x (p+k+2+i) msg],cv,Nat.le_refl _,by assumption,by decide,by rw [List.length_append];show told.length+1≤_;lia,hf,St.Le.refl _⟩
   show List.Sublist _ (setSto ((T,told.map V.str)::(L'+1,.mark::cv)::rest) T (told.map V.str++[.str (errText x (p+k+2+i) msg)]))
   rw [setSto_head (hTr cv)]
   unfold fSt
   rw [List.map_append]
   exact List.Sublist.refl _
 | ok z=>
   obtain ⟨j,names⟩:=z
   have E:=ho j names hpk
   have hj:=pKey_len hpk
   rw [List.length_drop,L_length] at hj
   have hj:p+k+2+j≤x.length:=by refine' qs7 ‹_› ‹_›
   clear he ho hTr hpk
   refine ⟨_,rfl,rfl,AS_name (AS_cellM (j:=[(T,told.map V.str)]) (r:=rest) (l:=cv) (by kernel_rfl!) rfl (AS_nil ?_))⟩
   refine TS.weak (leA (st:=fSt x ra T (L'+1) rest (fLoc p k j) (p+k+2) out' told [.tup (strV names)]) (List.Sublist.refl _) ⟨rfl,rfl,rfl,rfl,rfl,rfl,rfl,rfl,trivial⟩) ?_
   exact hole_ab P hr hlr hun hh fun D=>hole_if P rfl hlr hv hx hroom hun hh ht hj E fun st' z=>EB_nil z
theorem fEnd_of {n:Nat} {out:List Nat} (h:hole2 ((L x).drop p)=some k) (ho:out++((L x).drop p).take k=out') (hf:fillL rows x (n+1) p out told=F):(∀i msg,pKey ((L x).drop (p+k+2))=.error (i,msg)→fillL rows x n (p+k+2) (out'++[36,123]) (told++[errText x (p+k+2+i) msg])=F)∧
 ∀j names,pKey ((L x).drop (p+k+2))=.ok (j,names)→FEnd x rows p k j n out' told names F:=by
 rw [fillL,h] at hf
 dsimp only at hf
 rw [ho] at hf
 refine ⟨fun i msg e=>?_,fun j names e=>?_⟩
 ·rw [e] at hf;exact hf
 ·rw [e] at hf
  dsimp only at hf
  exact ⟨fun h=>by rwa [if_neg h] at hf,fun h h2=>by rwa [if_pos h,h2] at hf,fun h v h2=>by rwa [if_pos h,h2] at hf⟩
theorem filled_ok (P:Pk11 K) {x:Str} {rows:List Row} {ra:Addr} (hr:(ra,rowsV rows)∈st.sto) (hlr:rows.length≤1000) (hv:∀r∈rows,r.2.length≤80) (hx:x.length≤900) (hroom:c.A.depth+40 <recursionLimit) (hun:c.A.units+100 <cLine) (hh:c.A.handled=none)
 (q:∀T,T∉adr st→Q (.tup [.str ⟨(fillL rows x (x.length+1) 0 [] []).1.toArray⟩,.ref T]) ⟨st.loc,(T,(fillL rows x (x.length+1) 0 [] []).2.map V.str)::st.sto⟩):CF K c (.ref 583) [.str x,.ref ra] [] [] st Q X:=by
 refine CR.val<|CR_defC (fd:=fdOf (u583 K.w.params)) (body:=fdB (bod.getD 67 dS)) (binds:=[(S_ "text",.str x),(S_ "rows",.ref ra)]) P.G P.filled.ob rfl P.filled.cd rfl (by refine' qL0 ‹_›) ?_ rfl (by kernel_rfl!) rfl rfl ?_
 ·intro s vs ks _ h1 h2
  obtain ⟨v,u,rfl,i1,i2⟩:=isl2 h1
  obtain rfl:=isl0 h2
  exact ⟨[(S_ "text",v),(S_ "rows",u)],.of_eq (by kernel_rfl!),rfl,.cons i1 (.cons i2 .nil)⟩
 ·intro L' hL'
  rw [show cellSto (fdOf (u583 K.w.params)) L'=[(L'+1,[V.mark])] from by kernel_rfl!]
  have hh':(cxF K c L').A.handled=none:=hh
  have hsl:sizeLine=16777216:=sizeLine_eq
  have n3:3≤sizeLine:=by with_reducible (apply qS;symm)
  have n2:2≤sizeLine:=by with_reducible (apply qS;symm)
  have e0:Str.ofString ""=⟨([]:List Nat).toArray⟩:=by decide+kernel
  have e2:Str.ofString "${"=⟨[36,123].toArray⟩:=by decide+kernel
  obtain ⟨F,hF⟩:∃F,fillL rows x (x.length+1) 0 [] []=F:=⟨_,rfl⟩
  rw [hF] at q
  refine EB_cons ?_
  refine ES_swap [S_ "out",S_ "told",S_ "at"] hh' ?_
  refine EV_tuple (EL_cons (EV_str (EL_cons (EV_list (EL_nil ⟨Nat.zero_le _,fun T hT=>EL_cons (EV_int (EL_nil ⟨n3,_,rfl,rfl,AS_bind (AS_bind (AS_bind (AS_nil ?_)))⟩))⟩)))))
  rw [e0]
  have hT2:T∉adr st:=fun h=>hT (List.mem_cons_of_mem _ h)
  have hTr:∀cv:List V,∀y∈(L'+1,V.mark::cv)::st.sto,y.1≠T:=fun cv y hy=>by
   rcases List.mem_cons.mp hy with rfl | hy
   ·exact fun (e:L'+1=T)=>hT (by rw [←e];exact List.mem_cons_self)
   ·exact adr_ne hT2 y hy
  have q:=q T hT2
  clear hT hT2 hL'
  refine EB_cons ?_
  refine ES_while (FIv x rows ra T (L'+1) st.sto F) ?_ (x.length+1) ⟨0,[],[],[],by refine' Nat.zero_le _,by lia,by decide,by decide,hF,leA (List.Sublist.refl _) ⟨rfl,rfl,rfl,rfl,rfl,trivial⟩⟩
  rintro n st' ⟨p,out,told,cv,hp,hn,ho,ht,hf,hle⟩
  clear hF
  obtain ⟨m,rfl⟩:∃m,n=m+1:=⟨n -1,by refine' qP3 ‹_› ‹_›⟩
  refine TB.weak hle (ET_cmp ?_)
  clear hle
  refine EV_meth PySem.F.plainAttrs_str PySem.F.slot_str_find PySem.F.type_str_find (EV_loc ⟨Recv.str,EL_cons (EV_str (EL_cons (EV_loc (EL_nil ?_))))⟩)
  rw [e2]
  refine CF_find2 hp (EV_int (Op_ge_int ⟨_,rfl,?_⟩))
  cases hh2:hole2 ((L x).drop p) with
  | none=>
    rw [fillL,hh2] at hf
    subst hf
    rw [show decide (hole2I p none≥0)=false from rfl]
    refine EB_nil (EB_cons (ES_return (EV_tuple (EL_cons (EV_slice (EV_bin (EV_loc (EV_slice (EV_loc (EP_some (EV_loc (EP_none ⟨_,_,_,rfl,rfl,rfl,?_⟩))))))))))))
    rw [slice_from]
    refine Op_add_str ?_ (EP_none (EP_some (EV_int ⟨_,_,_,rfl,rfl,rfl,EL_cons (EV_loc (EL_nil ⟨n2,?_⟩))⟩)))
    ·rw [mk_len,mk_len,List.length_drop,L_length];lia
    rw [mk_append,show Txt.slice (⟨(out++(L x).drop p).toArray⟩:Str) none (some 80)=⟨((out++(L x).drop p).take 80).toArray⟩ from slice_to _ 80]
    exact ⟨(T,told.map V.str)::st.sto,.cons₂ _ (.cons _ (List.Sublist.refl _)),q⟩
  | some k=>
    have hk:=hole2_lt hh2
    rw [List.length_drop,L_length] at hk
    have hpl:(((L x).drop p).take k).length≤k:=List.length_take_le ..
    rw [show decide (hole2I p (some k)≥0)=true from decide_eq_true (Int.natCast_nonneg (p+k))]
    refine EB_cons (ES_assign (EV_meth PySem.F.plainAttrs_str PySem.F.slot_str_find PySem.F.type_str_find (EV_loc ⟨Recv.str,EL_cons (EV_str (EL_cons (EV_loc (EL_nil ?_))))⟩)))
    refine CF_find2 hp ?_
    rw [hh2,show hole2I p (some k)=((p+k:Nat):Int) from rfl]
    refine EB_cons (ES_aug (a:=.str ⟨out.toArray⟩) (EV_slice (EV_loc (EP_some (EV_loc (EP_some (EV_loc ⟨_,_,_,rfl,rfl,rfl,?_⟩)))))) rfl)
    rw [slice_eq,show p+k -p=k by refine' Nat.add_sub_cancel_left ..]
    refine Op_iadd_str ?_ ?_
    ·rw [mk_len,mk_len];lia
    rw [mk_append]
    obtain ⟨he,hE⟩:=fEnd_of hh2 rfl hf
    have hol:(out++((L x).drop p).take k).length≤82*p+k:=by rw [List.length_append];refine' Nat.add_le_add ‹_› ‹_›
    generalize out++((L x).drop p).take k=out' at *
    clear hf hpl ho hh2
    refine EB_cons (ES_swap [S_ "at",S_ "filled"] hh' (EV_tuple (EL_cons (EV_bin (EV_loc (EV_int (Op_add_int (EL_cons (EV_str (EL_nil ⟨n2,_,rfl,rfl,AS_bind (AS_bind (AS_nil ?_))⟩))))))))))
    refine TS.weak (leA (st:=fSt x ra T (L'+1) st.sto [(S_ "start",.int (p+k:Nat)),(S_ "filled",.str ⟨[36,123].toArray⟩)] (p+k+2) out' told cv) (List.Sublist.refl _) ⟨rfl,rfl,rfl,rfl,rfl,rfl,rfl,trivial⟩) ?_
    refine EB_cons (TS.mono (hole_ok P hr hlr hv hx hroom hun hh hTr (by refine' qs9 ‹_›) ht he hE) ?_ fun _ _ h=>h.elim)
    rintro f st₁ ⟨rfl,p',fill,told',cv',g1,g2,g3,g4,g5,g6⟩
    refine TS.weak g6 (EB_cons (ES_aug (a:=.str ⟨out'.toArray⟩) (EV_loc (Op_iadd_str ?_ ?_)) rfl))
    ·rw [mk_len,mk_len];lia
    rw [mk_append]
    exact EB_nil ⟨m,by refine' Nat.lt_succ_self _,p',out'++fill,told',cv',g2,by lia,by rw [List.length_append];lia,g4,g5,leA (List.Sublist.refl _) ⟨rfl,rfl,rfl,rfl,rfl,trivial⟩⟩
end
end
end
section
open PySem PySem.W PySem.Calls PyProof.Rows PySem.Builtin PySem.Builtin.Str
noncomputable def numOf (x:Int):Nat:=if x≥0 then (2*x).toNat else (-2*x -1).toNat
noncomputable def morePcs:Nat→Nat→Nat→List LPc
 | 0,_,_=>[]
 | f+1,n,kind=>if 0 <n∧kind <17 then lPiece (n%18) (n/18)::morePcs f (n/18) (n%18) else []
noncomputable def wayOf (N:Nat):Nat:=N/18/6%1728
noncomputable def keyIx (N:Nat):Nat:=N/18%6
noncomputable def pcsOf (N:Nat):List LPc:=lPiece (N%18) (wayOf N)::morePcs 5 (N/18/6/1728) (N%18)
noncomputable def textsOf (ps:List LPc):List Nat:=ps.flatMap fun p=>L p.text
noncomputable def eqL (way:Nat):List Nat:=match way%3 with | 0=>[32,61,32] | 1=>[61] | _=>[9,61,32]
noncomputable def endL (way:Nat):List Nat:=match way/9%3 with | 0=>[10] | 1=>[32,35,32,36,123,34,10] | _=>[9,10]
noncomputable def lKeyAt (i:Nat):List (List Nat):=lawKeys.getD i []
noncomputable def lineOf (N:Nat):List Nat:=lKey (lKeyAt (keyIx N)) (wayOf N)++eqL (wayOf N)++lText (textsOf (pcsOf N)) (wayOf N/3)++endL (wayOf N)
noncomputable def abv (due:List Row) (p:LPc):List (List Nat):=match p.names with | none=>[] | some n=>aboveL due n
noncomputable def valStep (due:List Row) (whole:Str) (acc:List Nat×List Str×Nat) (p:LPc):List Nat×List Str×Nat:=
 (acc.1++(match (abv due p).getLast? with | none=>L p.text | some v=>v),
  acc.2.1++(if (p.names.isSome&&(abv due p).isEmpty)||!(p.words.cps.toList==[]) then [(if p.names.isNone then p.words else S_ "unknown")++lAt whole (acc.2.2+p.off)] else []),
  acc.2.2+p.text.length)
noncomputable def valOf (due:List Row) (N:Nat):List Nat×List Str×Nat:=(pcsOf N).foldl (valStep due ⟨(textsOf (pcsOf N)).toArray⟩) ([],[],0)
noncomputable def rowOf (due:List Row) (N:Nat):Row:=(lKeyAt (keyIx N),(valOf due N).1.take 80)
noncomputable def lawStep (s:List Nat×List Row×List Str) (N:Nat):List Nat×List Row×List Str:=(s.1++lineOf N,s.2.1++[rowOf s.2.1 N],s.2.2++(valOf s.2.1 N).2.1)
noncomputable def due0:List Row:=[([[120]],[125,36,123]),([[97,45,49],[120]],[39])]
noncomputable def lawSt (Ns:List Nat):List Nat×List Row×List Str:=Ns.foldl lawStep ([],due0,[])
theorem lawSt_snoc (Ns:List Nat) (N:Nat):lawSt (Ns++[N])=lawStep (lawSt Ns) N:=by
 unfold lawSt;rw [List.foldl_append];rfl
theorem S_lits:(S_ "$").length≤20∧(S_ "}'\n\"\\").length≤20∧(S_ "${}").length≤20∧(S_ "${").length=2∧(S_ ".}").length≤20∧(S_ " 'b'}").length≤20∧(S_ "${'a\n'}").length≤20∧(S_ "${\"\\ }\"}").length≤20∧
 (S_ "${\"a\n\"}").length≤20∧(S_ "${\"\\ud800\"}").length≤20∧(S_ "${\"\\u00g0\"}").length≤20∧(S_ " .").length≤20∧(S_ "${'}").length≤20∧(S_ "${\"}").length≤20∧(S_ "${\"\\u00").length≤20∧(S_ "").length≤2∧(S_ "}").length≤2∧(S_ " ").length≤2∧(S_ " \t").length≤2:=by
 simp only [S_len]
 decide
theorem trip_len (kind way:Nat):(tripOf kind way).1.length≤130:=by
 have key:=keyS_len (way%6) (way/6)
 unfold tripOf
 obtain ⟨h1,h2,h3,h4,h5,h6,h7,h8,h9,h10,h11,h12,h13,h14,h15,h16,_⟩:=S_lits
 have all:∀(l:List (Str×Str×Nat)) (i:Nat),(∀t∈l,t.1.length≤130)→(l.getD i (S_ "",S_ "",0)).1.length≤130:=by
  intro l i h
  rw [List.getD_eq_getElem?_getD]
  cases hg:l[i]? with
  | none=>show (S_ "").length≤130;refine' qN ‹_› (by nofun)
  | some t=>exact h t (List.mem_of_getElem? hg)
 generalize keyS _ _=k at *
 have hc:Str.length ⟨#[lCode way]⟩=1:=rfl
 split
 ·refine all _ _ fun t ht=>?_
  unfold wholeL whole1 whole2 whole3 whole4 whole5 at ht
  simp only [List.append_assoc,List.mem_append,List.mem_cons,List.not_mem_nil,or_false] at ht
  rcases ht with (h | h | h | h) | (h | h) | (h | h) | (h | h) | h<;>subst h<;>simp only [Str.length_append]<;>(first | refine' qN ‹_› (by nofun) | with_reducible (apply qN;symm))
 ·refine all _ _ fun t ht=>?_
  unfold tornL torn1 torn2 at ht
  simp only [List.mem_append,List.mem_cons,List.not_mem_nil,or_false] at ht
  rcases ht with (h | h | h) | (h | h)<;>subst h<;>simp only [Str.length_append]<;>(first | with_reducible (apply qN;symm) | refine' qN ‹_› (by nofun))
theorem piece_len (kind way:Nat):(lPiece kind way).text.length≤130:=by
 unfold lPiece
 split
 ·have key:=keyS_len kind way
  obtain ⟨h1,h2,h3,h4,h5,h6,h7,h8,h9,h10,h11,h12,h13,h14,h15,h16,h17,h18,h19⟩:=S_lits
  have hpad:(padS way).length≤2:=by unfold padS;split<;>assumption
  show (S_ "${"++keyS (lawKeys.getD kind []) way++padS way++S_ "}").length≤130
  simp only [Str.length_append];with_reducible (apply qN;symm)
 ·exact trip_len kind way
theorem more_len:∀(f n kind:Nat),(morePcs f n kind).length≤f
 | 0,_,_=>Nat.le_refl _
 | f+1,n,kind=>by
   rw [morePcs]
   split
   ·have:=more_len f (n/18) (n%18)
    simp only [List.length_cons];refine' Nat.succ_le_succ ‹_›
   ·simp
theorem more_text:∀(f n kind:Nat),∀p∈morePcs f n kind,p.text.length≤130
 | 0,_,_,p,h=>by simp [morePcs] at h
 | f+1,n,kind,p,h=>by
   rw [morePcs] at h
   split at h
   ·rcases List.mem_cons.mp h with rfl | h
    ·exact piece_len ..
    ·exact more_text _ _ _ p h
   ·simp at h
theorem pcs_len (N:Nat):(pcsOf N).length≤6:=by
 have:=more_len 5 (N/18/6/1728) (N%18)
 unfold pcsOf;simp only [List.length_cons];refine' Nat.succ_le_succ ‹_›
theorem pcs_text (N:Nat):∀p∈pcsOf N,p.text.length≤130:=fun p h=>by
 unfold pcsOf at h
 rcases List.mem_cons.mp h with rfl | h
 ·exact piece_len ..
 ·exact more_text _ _ _ p h
theorem texts_len:∀(ps:List LPc),(∀p∈ps,p.text.length≤130)→(textsOf ps).length≤130*ps.length
 | [],_=>by simp [textsOf]
 | p::r,h=>by
   have h1:=h p List.mem_cons_self
   have h2:=texts_len r fun q hq=>h q (List.mem_cons_of_mem _ hq)
   unfold textsOf at *
   rw [List.flatMap_cons,List.length_append,L_length,List.length_cons];refine' q130 ‹_› ‹_›
theorem whole_len (N:Nat):(textsOf (pcsOf N)).length≤780:=by
 have h1:=texts_len _ (pcs_text N)
 have h2:=pcs_len N
 lia
theorem key_len (i way:Nat):(lKey (lKeyAt i) way).length≤100:=by
 have:=keyS_len i way
 unfold keyS at this
 rwa [mk_len] at this
theorem eqL_len (way:Nat):(eqL way).length≤3:=by unfold eqL;split<;>simp
theorem endL_len (way:Nat):(endL way).length≤7:=by unfold endL;split<;>simp
theorem line_len (N:Nat):(lineOf N).length≤4800:=by
 have h1:=key_len (keyIx N) (wayOf N)
 have h2:=eqL_len (wayOf N)
 have h3:=endL_len (wayOf N)
 have h4:=lText_len (textsOf (pcsOf N)) (wayOf N/3)
 have h5:=whole_len N
 unfold lineOf
 simp only [List.length_append];lia
theorem lawSt_len (Ns:List Nat):(lawSt Ns).1.length≤4800*Ns.length∧(lawSt Ns).2.1.length=Ns.length+2∧(∀r∈(lawSt Ns).2.1,r.2.length≤80):=by
 have key:∀(Ns:List Nat) (s:List Nat×List Row×List Str),(∀r∈s.2.1,r.2.length≤80)→(Ns.foldl lawStep s).1.length≤s.1.length+4800*Ns.length∧(Ns.foldl lawStep s).2.1.length=s.2.1.length+Ns.length∧(∀r∈(Ns.foldl lawStep s).2.1,r.2.length≤80):=by
  intro Ns
  induction Ns with
  | nil=>intro s h;exact ⟨by simp,by simp,h⟩
  | cons N r ih=>
    intro s h
    rw [List.foldl_cons]
    obtain ⟨a,b,c⟩:=ih (lawStep s N) (by
     intro q hq
     unfold lawStep at hq
     rcases List.mem_append.mp hq with hq | hq
     ·exact h q hq
     ·rcases List.mem_singleton.mp hq with rfl
      show ((valOf s.2.1 N).1.take 80).length≤80
      rw [List.length_take];refine' Nat.min_le_left _ _)
    have h1:=line_len N
    have e1:(lawStep s N).1.length=s.1.length+(lineOf N).length:=by unfold lawStep;rw [List.length_append]
    have e2:(lawStep s N).2.1.length=s.2.1.length+1:=by unfold lawStep;rw [List.length_append];rfl
    refine ⟨?_,?_,c⟩
    ·rw [List.length_cons];lia
    ·rw [List.length_cons];lia
 obtain ⟨a,b,c⟩:=key Ns ([],due0,[]) (by decide)
 exact ⟨by unfold lawSt;simpa using a,by rw [show (lawSt Ns).2.1.length=_ from b];simp [due0];refine' Nat.add_comm _ _,c⟩
end
section
open PySem PySem.W PySem.Calls PyProof.Rows PySem.Builtin PySem.Builtin.Str
set_option maxRecDepth 100000
section
structure LineOk (N:Nat):Prop where
 is:∃k w n ch e,(ch=34∨ch=39)∧k+1+w+n+e+1=(lineOf N).length∧∀rest,pKey (lineOf N++rest)=.ok (k,lKeyAt (keyIx N))∧(lineOf N++rest)[k]?=some 61∧skipW wsB ((lineOf N++rest).drop (k+1))=w∧
  (∃t,(lineOf N++rest).drop (k+1+w)=ch::t∧((lineOf N++rest).drop (k+1+w)).take 3≠[ch,ch,ch]∧pVal (ch::t)=.ok (n,textsOf (pcsOf N)))∧fst1 10 ((lineOf N++rest).drop (k+1+w+n))=some e
def FillOk (N:Nat):Prop:=∀due,fillL due ⟨(textsOf (pcsOf N)).toArray⟩ ((textsOf (pcsOf N)).length+1) 0 [] []=((valOf due N).1.take 80,(valOf due N).2.1)
noncomputable def lawCx (K:Kx) (A:Around) (Lf:Addr):Cx:=⟨A,true,callEnvC (fdOf (u588 K.w.params)) Lf 588,callEnvC (fdOf (u588 K.w.params)) Lf 588,[],Lf⟩
theorem lawFile (Ns:List Nat):(lawSt Ns).1=Ns.flatMap lineOf:=by
 have key:∀(Ns:List Nat) (s:List Nat×List Row×List Str),(Ns.foldl lawStep s).1=s.1++Ns.flatMap lineOf:=by
  intro Ns
  induction Ns with
  | nil=>intro s;simp
  | cons N r ih=>intro s;rw [List.foldl_cons,ih];unfold lawStep;simp
 have:=key Ns ([],due0,[])
 unfold lawSt
 rw [this];simp
theorem lawSt_take (Ns:List Nat) (i:Nat) (N:Nat) (h:Ns[i]?=some N):lawSt (Ns.take (i+1))=lawStep (lawSt (Ns.take i)) N:=by
 rw [List.take_add_one,h]
 exact lawSt_snoc _ _
theorem val_holes (due:List Row) (N:Nat):(valOf due N).2.1.length≤6:=by
 have key:∀(ps:List LPc) (w:Str) (s:List Nat×List Str×Nat),(ps.foldl (valStep due w) s).2.1.length≤s.2.1.length+ps.length:=by
  intro ps w
  induction ps with
  | nil=>intro s;simp
  | cons p r ih=>
    intro s
    rw [List.foldl_cons,List.length_cons]
    refine Nat.le_trans (ih _) ?_
    have:(valStep due w s p).2.1.length≤s.2.1.length+1:=by
     unfold valStep
     dsimp only
     rw [List.length_append]
     split<;>simp
    refine' q132 ‹_›
 have h1:=key (pcsOf N) ⟨(textsOf (pcsOf N)).toArray⟩ ([],[],0)
 have h2:=pcs_len N
 unfold valOf
 simp only [List.length_nil] at h1
 lia
theorem law_holes (Ns:List Nat):(lawSt Ns).2.2.length≤6*Ns.length:=by
 have key:∀(Ns:List Nat) (s:List Nat×List Row×List Str),(Ns.foldl lawStep s).2.2.length≤s.2.2.length+6*Ns.length:=by
  intro Ns
  induction Ns with
  | nil=>intro s;simp
  | cons N r ih=>
    intro s
    rw [List.foldl_cons,List.length_cons]
    refine Nat.le_trans (ih _) ?_
    have h:=val_holes s.2.1 N
    have:(lawStep s N).2.2.length=s.2.2.length+(valOf s.2.1 N).2.1.length:=by unfold lawStep;rw [List.length_append]
    lia
 have:=key Ns ([],due0,[])
 unfold lawSt
 simpa using this
section
variable {K:Kx} {A:Around} {Lf:Addr}
noncomputable abbrev rowsVV (rows:List Row):List V:=rows.map rowV
noncomputable def tSt (Lf H U T R KA:Addr) (src:List Nat) (due:List Row) (holes:List Str) (extra:List (Str×V)) (rows:List Row) (told:List Str) (cv:List V):St:=
 ⟨extra++[(S_ "file",.str ⟨src.toArray⟩),(S_ "due",.ref U),(S_ "holes",.ref H),(S_ "told",.ref T),(S_ "rows",.ref R)],[(H,holes.map V.str),(U,rowsVV due),(T,told.map V.str),(R,rowsVV rows),(KA,keysV),(Lf+1,.mark::cv)]⟩
theorem law_tail (P:Pk11 K) (hroom:A.depth+60 <recursionLimit) (hun:A.units+300 <cLine) (hh:A.handled=none) {Ns:List Nat} (hN:Ns.length≤65) (h1:∀N∈Ns,LineOk N) (h2:∀N∈Ns,FillOk N) {H U T R KA:Addr} {cv:List V}:
 EB K (lawCx K A Lf) ((fdB (bod.getD 68 dS)).drop 4) (tSt Lf H U T R KA (lawSt Ns).1 (lawSt Ns).2.1 (lawSt Ns).2.2 [] due0 [] cv) (fun f _=>f=.ret (.bool true)) (fun _ _=>False):=by
 have hh':(lawCx K A Lf).A.handled=none:=hh
 have hsl:sizeLine=16777216:=sizeLine_eq
 have hcell:(lawCx K A Lf).env.cells.lookup (S_ "names")=some (Lf+1):=by kernel_rfl!
 obtain ⟨b1,b2,b3⟩:=lawSt_len Ns
 have hfl:(lawSt Ns).1.length≤312000:=by lia
 have hfl2:(⟨(lawSt Ns).1.toArray⟩:Str).length≤312000:=by rw [mk_len];exact hfl
 generalize hsrc:(lawSt Ns).1=src at *
 have efile:src=Ns.flatMap lineOf:=by rw [←hsrc];exact lawFile Ns
 refine EB_cons ?_
 refine ES_assign (EV_int ?_)
 refine EB_cons ?_
 refine ES_while (fun n st'=>∃i cv,i≤Ns.length∧n=Ns.length -i∧St.Le (tSt Lf H U T R KA src (lawSt Ns).2.1 (lawSt Ns).2.2 [(S_ "at",.int (lawSt (Ns.take i)).1.length)] (lawSt (Ns.take i)).2.1 (lawSt (Ns.take i)).2.2 cv) st') ?_ Ns.length
  ⟨0,cv,Nat.zero_le _,rfl,leA (List.Sublist.refl _) ⟨rfl,rfl,rfl,rfl,rfl,rfl,trivial⟩⟩
 rintro n st' ⟨i,cv,hi,rfl,hle⟩
 refine TB.weak hle (ET_cmp ?_)
 have h62:(⟨src.toArray⟩:Str).length <2 ^ 62:=by refine' qM ‹_› (by nofun)
 refine EV_loc (EV_callB (EV_blt P.G P.len.mg P.len.mb (.blt _) ⟨_,rfl,EL_cons (EV_loc (EL_nil (CF_len h62 (Op_lt_int ⟨_,rfl,?_⟩))))⟩))
 rw [mk_len]
 have hb:=(lawSt_len (Ns.take i))
 have hpre:(lawSt (Ns.take i)).1=(Ns.take i).flatMap lineOf:=lawFile _
 rcases Nat.lt_or_ge i Ns.length with hlt | hge
 ·have hg:Ns[i]?=some Ns[i]:=List.getElem?_eq_getElem hlt
  have hmem:Ns[i]∈Ns:=List.getElem_mem hlt
  obtain ⟨k,w,nn,ch,e,hch,hlen,hl⟩:=(h1 _ hmem).is
  have hf:=h2 _ hmem
  have hstep:=lawSt_take Ns i _ hg
  have hsplit:src=(lawSt (Ns.take i)).1++(lineOf Ns[i]++(Ns.drop (i+1)).flatMap lineOf):=by
   rw [efile,hpre]
   conv=>lhs;rw [←List.take_append_drop i Ns]
   rw [List.flatMap_append,List.drop_eq_getElem_cons hlt,List.flatMap_cons]
  generalize hNi:Ns[i]=N at *
  obtain ⟨l1,l2,l3,⟨t,l4,l5,l6⟩,l7⟩:=hl ((Ns.drop (i+1)).flatMap lineOf)
  generalize hres:lineOf N++(Ns.drop (i+1)).flatMap lineOf=res at *
  have hnext:(lawSt (Ns.take (i+1))).1.length=(lawSt (Ns.take i)).1.length+(k+1+w+nn+e+1):=by
   rw [hstep];unfold lawStep;rw [List.length_append,hlen]
  have hrl:(lineOf N).length≤res.length:=by rw [←hres,List.length_append];refine' Nat.le_add_right _ _
  have hsl2:src.length=(lawSt (Ns.take i)).1.length+res.length:=by rw [hsplit,List.length_append]
  generalize hp:(lawSt (Ns.take i)).1.length=p at *
  have hdrop:(L ⟨src.toArray⟩).drop p=res:=by
   show src.drop p=res
   rw [hsplit,←hp,List.drop_left]
  have hwl:=whole_len N
  have hxl:(⟨(textsOf (pcsOf N)).toArray⟩:Str).length=(textsOf (pcsOf N)).length:=mk_len _
  have hf':=hf (lawSt (Ns.take i)).2.1
  rw [←hxl] at hf'
  have hb1:=hb.2.1
  have hb2:=hb.2.2
  have htl:(Ns.take i).length=i:=by rw [List.length_take];lia
  rw [htl] at hb1
  have e2:(lawSt (Ns.take (i+1))).2.1=(lawSt (Ns.take i)).2.1++[rowOf (lawSt (Ns.take i)).2.1 N]:=by rw [hstep];rfl
  have e3:(lawSt (Ns.take (i+1))).2.2=(lawSt (Ns.take i)).2.2++(valOf (lawSt (Ns.take i)).2.1 N).2.1:=by rw [hstep];rfl
  have hholes:=law_holes (Ns.take i)
  rw [htl] at hholes
  have hh6:=val_holes (lawSt (Ns.take i)).2.1 N
  generalize hdue:(lawSt (Ns.take i)).2.1=dueI at *
  generalize htold:(lawSt (Ns.take i)).2.2=toldI at *
  have hpl:p <src.length:=by lia
  rw [show decide ((p:Int) <(src.length:Int))=true from by simpa using hpl]
  have hk3:(lKeyAt (keyIx N)).length≤3:=(lawKeys_ok _).1
  have n2:2≤sizeLine:=by with_reducible (apply qS;symm)
  have hnl:Str.ofString "\n"=⟨#[10]⟩:=by decide+kernel
  have d1:∀m,(L ⟨src.toArray⟩).drop (p+m)=res.drop m:=fun m=>by rw [←List.drop_drop,hdrop]
  have g1:(L ⟨src.toArray⟩)[p+k]?=some 61:=by
   rw [←l2,←hdrop,List.getElem?_drop]
  refine EB_cons ?_
  refine ES_unpack hh' (EV_call (EV_glob P.G P.pair.mg (.ref _) ⟨446,_,_,rfl,P.pair.ob,rfl,EL_cons (EV_loc (EL_cons (EV_loc (EL_cons (EV_blt P.G P.float_.mg P.float_.mb (.typ _) (EL_nil (EK_nil ?_)))))))⟩))
  refine parse_pair_ok (p:=p) (k:=k) (w:=w) (n:=nn) (ch:=ch) (names:=lKeyAt (keyIx N)) (t:=t) (s:=textsOf (pcsOf N)) P (by refine' qN ‹_› (by nofun)) (by rw [mk_len];refine' Nat.le_of_lt ‹_›) (by refine' qN ‹_› (by nofun)) (by rw [hdrop];exact l1) g1
   (by rw [Nat.add_assoc,d1];exact l3) (by rw [show p+k+1+w=p+(k+1+w) by lia,d1];exact l4) hch (by rw [show p+k+1+w=p+(k+1+w) by lia,d1];exact l5) l6 (by show A.depth+30 <_;refine' qL ‹_› (by nofun)) hh' ?_
  refine ⟨_,rfl,rfl,AS_name (AS_cellM hcell (j:=[(H,(lawSt Ns).2.2.map V.str),(U,rowsVV (lawSt Ns).2.1),(T,toldI.map V.str),(R,rowsVV dueI),(KA,keysV)]) (l:=cv) (r:=[]) rfl (AS_name (AS_nil ?_)))⟩
  refine EB_cons ?_
  refine ES_unpack hh' (EV_call (EV_glob P.G P.filled.mg (.ref _) ⟨583,_,_,rfl,P.filled.ob,rfl,EL_cons (EV_loc (EL_cons (EV_loc (EL_nil (EK_nil ?_)))))⟩))
  refine filled_ok (rows:=dueI) (ra:=R) P (.tail _ (.tail _ (.tail _ (.head _)))) (by lia) hb2 (by rw [hxl];refine' qN ‹_› (by nofun)) (by show A.depth+40 <_;refine' qL ‹_› (by nofun)) (by show A.units+100 <_;refine' qL ‹_› (by nofun)) hh' fun T' hT'=>?_
  rw [hf']
  refine ⟨_,rfl,rfl,AS_name (AS_name (AS_nil ?_))⟩
  refine EB_cons ?_
  refine ES_expr (EV_meth PySem.F.plainAttrs_list PySem.F.slot_list_append PySem.F.type_list_append (EV_loc ⟨Recv.list (l:=rowsVV dueI) (.tail _ (.tail _ (.tail _ (.tail _ (.head _))))) (isC_rows _),EL_cons (EV_tuple (EL_cons (EV_cell hcell (.tail _ (.tail _ (.tail _ (.tail _ (.tail _ (.tail _ (.head _))))))) (EL_cons (EV_loc (EL_nil ⟨n2,EL_nil ?_⟩))))))⟩))
  refine CF_appendM (j:=[(T',(valOf dueI N).2.1.map V.str),(H,(lawSt Ns).2.2.map V.str),(U,rowsVV (lawSt Ns).2.1),(T,toldI.map V.str)]) (l:=rowsVV dueI) (r:=[(KA,keysV),(Lf+1,[.mark,.tup (strV (lKeyAt (keyIx N)))])]) rfl (isC_rows _) (by rw [List.length_map];lia) ⟨rfl,?_⟩
  refine EB_cons ?_
  refine ES_aug (a:=.ref T) (EV_loc ?_) rfl
  refine Op_iadd_listM (j:=[(T',(valOf dueI N).2.1.map V.str),(H,(lawSt Ns).2.2.map V.str),(U,rowsVV (lawSt Ns).2.1)]) (l:=toldI.map V.str) (m:=(valOf dueI N).2.1.map V.str) rfl (by cases toldI<;>rfl) (.head _) (by cases (valOf dueI N).2.1<;>rfl) (by rw [List.length_map,List.length_map];lia) ?_
  refine EB_cons ?_
  refine ES_assign ?_
  refine EV_bin (EV_meth PySem.F.plainAttrs_str PySem.F.slot_str_index PySem.F.type_str_index (EV_loc ⟨Recv.str,EL_cons (EV_str (EL_cons (EV_loc (EL_nil ?_))))⟩))
  rw [hnl]
  refine CF_index (p:=p+k+1+w+nn) (by rw [mk_len];lia) hh' ?_
  rw [show p+k+1+w+nn=p+(k+1+w+nn) by lia,d1,l7]
  refine EV_int (Op_add_int ?_)
  refine EB_nil ⟨Ns.length -(i+1),by refine' qs1 ‹_›,i+1,[.tup (strV (lKeyAt (keyIx N)))],by refine' Nat.succ_le_of_lt ‹_›,rfl,?_⟩
  rw [hnext,e2,e3]
  have r1:rowsVV (dueI++[rowOf dueI N])=rowsVV dueI++[rowV (rowOf dueI N)]:=List.map_append
  have r2:(toldI++(valOf dueI N).2.1).map V.str=toldI.map V.str++(valOf dueI N).2.1.map V.str:=List.map_append
  refine leA ?_ ⟨?_,rfl,rfl,rfl,rfl,rfl,trivial⟩
  ·unfold tSt
   dsimp only
   rw [r1,r2]
   exact .cons _ (List.Sublist.refl _)
  ·show some (V.int (((p+(k+1+w+nn)+e:Nat):Int)+1))=some (V.int ((p+(k+1+w+nn+e+1):Nat):Int))
   congr 2
   lia
 ·have hii:i=Ns.length:=by lia
  subst hii
  rw [List.take_of_length_le (Nat.le_refl _),hsrc]
  rw [show decide ((src.length:Int) <(src.length:Int))=false from by simp]
  refine EB_nil ?_
  refine EB_cons ?_
  refine ES_return ?_
  refine EV_and2 (EV_cmp (EV_loc (EV_loc ?_)))
  refine Op_eq_lists (l:=rowsVV (lawSt Ns).2.1) (P:=fun a=>∃r,a=rowV r) (by show A.units+5 <_;refine' qL ‹_› (by nofun)) (.tail _ (.tail _ (.tail _ (.head _)))) (isC_rows _) (.tail _ (.head _))
   (fun s a v u ⟨r,hr⟩ i j=>by subst hr;exact eqAt_row (A:=A.in1) (by show A.units+1+3 <_;refine' qL2 ‹_› (by nofun)) i j) (fun a ha=>by obtain ⟨r,_,rfl⟩:=List.mem_map.mp ha;exact ⟨r,rfl⟩) ⟨true,rfl,?_⟩
  refine EV_cmp (EV_loc (EV_loc ?_))
  exact Op_eq_lists (l:=(lawSt Ns).2.2.map V.str) (P:=fun a=>∃x,a=.str x) (by show A.units+5 <_;refine' qL ‹_› (by nofun)) (.tail _ (.tail _ (.head _))) (by cases (lawSt Ns).2.2<;>rfl) (.head _)
   (fun s a v u h i j=>eqAt_str h i j) (fun a ha=>by obtain ⟨r,_,rfl⟩:=List.mem_map.mp ha;exact ⟨r,rfl⟩) rfl
end
end
section
noncomputable def forB:Stmt→List Stmt
 | .For _ _ b _ _=>b
 | _=>[]
theorem EB.weak {K:Kx} {c:Cx} {l:List Stmt} {st st':St} {R:Fl→St→Prop} {X:Xc→St→Prop} (h:St.Le st' st) (x:EB K c l st' R X):EB K c l st R X:=TS.weak h x
noncomputable def rowB:List Stmt:=forB ((fdB (bod.getD 68 dS)).getD 3 dS)
section
variable {K:Kx} {A:Around} {Lf:Addr} {R:Fl→St→Prop} {X:Xc→St→Prop}
noncomputable def pSt (Lf PL D H U T Ra KA:Addr) (psV lV tV rV:List V) (fv kv:V) (whole:Str) (due:List Row) (s:List Nat×List Str×Nat) (cv:List V):St:=
 ⟨[(S_ "text",.str ⟨s.1.toArray⟩),(S_ "start",.int s.2.2),(S_ "whole",.str whole),(S_ "due",.ref U),(S_ "holes",.ref H),(S_ "file",fv),(S_ "key",kv),(S_ "keys",.ref KA),(S_ "told",.ref T),(S_ "rows",.ref Ra)],
  [(PL,psV),(D,lV),(H,s.2.1.map V.str),(U,rowsVV due),(T,tV),(Ra,rV),(KA,keysV),(Lf+1,.mark::cv)]⟩
noncomputable def nmV (p:LPc):V:=match p.names with | none=>.none | some n=>.tup (strV n)
noncomputable def orB:Stmt→Expr
 | .If (.BoolOp _ vs _) _ _ _=>vs.getD 1 (.Name (S_ "") ⟨0,0,0,0⟩)
 | _=>.Name (S_ "") ⟨0,0,0,0⟩
noncomputable def addB:Stmt→Expr
 | .If _ [.Expr (.Call _ [.BinOp _ _ r _] _ _) _] _ _=>r
 | _=>.Name (S_ "") ⟨0,0,0,0⟩
theorem piece_step (P:Pk11 K) (hroom:A.depth+60 <recursionLimit) (hun:A.units+300 <cLine) (hh:A.handled=none) {PL D H U T Ra KA:Addr} {psV lV tV rV:List V} {fv kv:V} {whole:Str} {due:List Row} {s:List Nat×List Str×Nat} {cv:List V} {p:LPc}
 (hw:whole.length≤1000) (hd:due.length≤100) (hd2:∀r∈due,r.2.length≤80) (hs1:s.1.length≤2000) (hs2:s.2.1.length≤1000) (hs3:s.2.2≤2000) (hpt:p.text.length≤130) (hpo:p.off≤200) (hpw:p.words.length≤200)
 (hR:∀st₁,St.Le (pSt Lf PL D H U T Ra KA psV lV tV rV fv kv whole due (valStep due whole s p) [nmV p]) st₁→R .next st₁):
 TA K (lawCx K A Lf) (match (rowB.getD 7 dS) with | .For t _ _ _ _=>t | _=>.Tuple [] 0 ⟨0,0,0,0⟩) p.v (pSt Lf PL D H U T Ra KA psV lV tV rV fv kv whole due s cv) (fun st₁=>EB K (lawCx K A Lf) (forB (rowB.getD 7 dS)) st₁ R X) X:=by
 have hh':(lawCx K A Lf).A.handled=none:=hh
 have hsl:sizeLine=16777216:=sizeLine_eq
 have hcell:(lawCx K A Lf).env.cells.lookup (S_ "names")=some (Lf+1):=by kernel_rfl!
 refine TA_tuple hh' rfl ?_
 refine AS_name (AS_cellM hcell (j:=[(PL,psV),(D,lV),(H,s.2.1.map V.str),(U,rowsVV due),(T,tV),(Ra,rV),(KA,keysV)]) (l:=cv) (r:=[]) rfl (AS_name (AS_name (AS_nil ?_))))
 have ht1:∀(i:Nat) (r:Row),due[i]?=some r→abv (due.take (i+1)) p=abv (due.take i) p++(match p.names with | none=>[] | some n=>if r.1==n then [r.2] else []):=by
  intro i r hg
  unfold abv
  cases p.names with
  | none=>rfl
  | some n=>
    show aboveL (due.take (i+1)) n=aboveL (due.take i) n++_
    unfold aboveL
    rw [List.take_add_one,hg,List.filter_append,List.map_append]
    congr 1
    simp only [Option.toList_some,List.filter_cons,List.filter_nil]
    split<;>rfl
 have hal:∀d:List Row,(abv d p).length≤d.length:=by
  intro d
  unfold abv
  cases p.names with
  | none=>exact Nat.zero_le _
  | some n=>show (aboveL d n).length≤_;unfold aboveL;rw [List.length_map];exact List.length_filter_le _ _
 have hav:∀v∈abv due p,v.length≤80:=by
  intro v hv
  unfold abv at hv
  cases hn:p.names with
  | none=>rw [hn] at hv;cases hv
  | some n=>
    rw [hn] at hv
    obtain ⟨r,hr,rfl⟩:=List.mem_map.mp hv
    exact hd2 r (List.mem_filter.mp hr).1
 refine EB_cons ?_
 refine ES_comp [(S_ "names",Lf+1)] hh' (by kernel_rfl!) ?_
 refine EV_loc ⟨rowsVV due,fun sto=>(U,rowsVV due)∈sto,Src.own hh' (isC_rows due),.tail _ (.tail _ (.tail _ (.head _))),fun _ _=>.tail _ (.tail _ (.tail _ (.tail _ (.head _)))),by rw [List.length_map];refine' qN ‹_› (by nofun),fun i ys=>ys=strV (abv (due.take i) p),?_,?_,?_,?_⟩
 ·show []=strV (abv [] p)
  unfold abv
  cases p.names<;>rfl
 ·rintro i ys rfl
  refine ⟨isC_strs _,?_⟩
  rw [List.length_map]
  exact Nat.le_trans (hal _) (by rw [List.length_take];refine' Nat.min_le_left _ _)
 ·intro C D' i v ys loc hv2 hy
  have hlt:i <due.length:=by have:=(List.getElem?_eq_some_iff.mp hv2).1;simpa using this
  have hg:due[i]?=some due[i]:=List.getElem?_eq_getElem hlt
  have hv':v=rowV due[i]:=by
   rw [List.getElem?_map,hg] at hv2
   exact (Option.some.inj hv2).symm
  subst hv'
  have htk:=ht1 i _ hg
  generalize due[i]=r at *
  refine TA_tuple hh' rfl (AS_name (AS_name (AS_nil ?_)))
  refine EI_one (ET_cmp (EV_loc (EV_cell (a:=Lf+1) (v:=nmV p) (by kernel_rfl!) (.tail _ (.tail _ (.tail _ (.tail _ (.tail _ (.tail _ (.tail _ (.tail _ (.head _))))))))) ?_)))
  cases hn:p.names with
  | none=>
    rw [hn] at htk
    rw [show nmV p=.none from by unfold nmV;rw [hn]]
    refine Op_eq_tup_none (by show A.units+1 <_;refine' qL ‹_› (by nofun)) ⟨false,rfl,?_⟩
    refine ⟨rfl,?_⟩
    show ys=strV (abv (due.take (i+1)) p)
    rw [htk,hy,List.append_nil]
  | some n=>
    rw [hn] at htk
    rw [show nmV p=.tup (strV n) from by unfold nmV;rw [hn]]
    refine Op_eq_tups (by show A.units+1 <_;refine' qL ‹_› (by nofun)) ⟨_,rfl,?_⟩
    cases hb:(r.1==n) with
    | true=>
      refine EV_loc ⟨rfl,?_⟩
      show ys++_=strV (abv (due.take (i+1)) p)
      rw [htk,hy]
      dsimp only
      rw [if_pos hb]
      simp [strV]
    | false=>
      refine ⟨rfl,?_⟩
      show ys=strV (abv (due.take (i+1)) p)
      rw [htk,hy]
      dsimp only
      rw [if_neg (by rw [hb];decide),List.append_nil]
 ·intro D' ys hD hy
  rw [show (rowsVV due).length=due.length from List.length_map _,List.take_of_length_le (Nat.le_refl _)] at hy
  subst hy
  have hab:=hal due
  unfold valStep at hR
  generalize habv:abv due p=above at *
  clear habv ht1
  have hu5:∀m,m≤300→A.units+m <cLine:=fun m hm=>by lia
  generalize htx:s.1++(match above.getLast? with | none=>L p.text | some v=>v)=tx at *
  have htxl:tx.length≤2200:=by
   rw [←htx,List.length_append]
   cases hg:above.getLast? with
   | none=>show s.1.length+(L p.text).length≤_;rw [L_length];with_reducible (apply qN;symm)
   | some v=>have:=hav v (List.mem_of_getLast? hg);show s.1.length+v.length≤_;with_reducible (apply qN;symm)
  generalize hcd:((p.names.isSome&&above.isEmpty)||!(p.words.cps.toList==[]))=cnd at *
  have hwl:(if p.names.isNone then p.words else S_ "unknown").length≤200:=by
   have:(S_ "unknown").length=7:=by rw [S_len];rfl
   split<;>(first | assumption | with_reducible (apply qN;symm))
  generalize hwd:(if p.names.isNone then p.words else S_ "unknown")=wd at *
  have hp62:p.text.length <2 ^ 62:=by refine' qM ‹_› (by nofun)
  let S2:List Str→St:=fun hs=>⟨[(S_ "above",.ref D'),(S_ "offset",.int p.off),(S_ "words",.str p.words),(S_ "piece",.str p.text),(S_ "text",.str ⟨tx.toArray⟩),(S_ "start",.int s.2.2),(S_ "whole",.str whole),(S_ "due",.ref U),(S_ "holes",.ref H),(S_ "file",fv),(S_ "key",kv),(S_ "keys",.ref KA),(S_ "told",.ref T),(S_ "rows",.ref Ra)],
   (D',strV above)::[(PL,psV),(D,lV),(H,hs.map V.str),(U,rowsVV due),(T,tV),(Ra,rV),(KA,keysV),(Lf+1,[.mark,nmV p])]⟩
  have rest:∀hs,hs=s.2.1++(if cnd=true then [wd++lAt whole (s.2.2+p.off)] else [])→EB K (lawCx K A Lf) ((forB (rowB.getD 7 dS)).drop 3) (S2 hs) R X:=by
   intro hs e
   refine EB_cons ?_
   refine ES_aug (a:=.int s.2.2) (EV_callB (EV_blt P.G P.len.mg P.len.mb (.blt _) ⟨_,rfl,EL_cons (EV_loc (EL_nil (CF_len hp62 (Op_iadd_int ?_))))⟩)) rfl
   refine EB_nil (hR _ (leA ?_ ⟨rfl,rfl,rfl,rfl,rfl,rfl,rfl,rfl,rfl,rfl,trivial⟩))
   rw [←e]
   exact .cons _ (List.Sublist.refl _)
  have tail:EB K (lawCx K A Lf) ((forB (rowB.getD 7 dS)).drop 2) (S2 s.2.1) R X:=by
   refine EB_cons ?_
   refine ES_if (TB.mono (T:=fun b st₁=>b=cnd∧St.Le (S2 s.2.1) st₁) ?_ ?_)
   ·refine ET_boolop (EA_or (ET_boolop (EA_and (ET_cmp (EV_cell (a:=Lf+1) (v:=nmV p) hcell (.tail _ (.tail _ (.tail _ (.tail _ (.tail _ (.tail _ (.tail _ (.tail _ (.head _))))))))) (EV_none (Op_isnot_none (b:=p.names.isNone) ?_ ⟨_,rfl,?_⟩)))))))
    ·unfold nmV;cases p.names<;>rfl
    have ew:(Str.ofString "").cps.toList=[]:=by decide+kernel
    have wordsT:∀st₁,St.Le (S2 s.2.1) st₁→(p.names.isSome&&above.isEmpty)=false→EA K (lawCx K A Lf) .Or [(orB ((forB (rowB.getD 7 dS)).getD 2 dS))] st₁ (fun b st₁=>b=cnd∧St.Le (S2 s.2.1) st₁) X:=by
     intro st₁ hle hf
     refine EA_or (TB.weak hle (ET_cmp (EV_loc (EV_str (Op_ne_str ⟨_,rfl,?_⟩)))))
     rw [ew]
     rw [hf,Bool.false_or] at hcd
     rw [show (p.words.cps.toList != [])=cnd from by rw [←hcd];rfl]
     cases cnd with
     | true=>exact ⟨rfl,St.Le.refl _⟩
     | false=>exact EA_nil ⟨rfl,St.Le.refl _⟩
    cases hn:p.names with
    | none=>
      rw [hn] at wordsT
      exact wordsT _ (St.Le.refl _) rfl
    | some n=>
      rw [hn] at wordsT hcd
      refine EA_and (ET_cmp (EV_loc (EV_list (EL_nil ⟨Nat.zero_le _,fun a ha=>?_⟩))))
      refine Op_eq_nil (l:=strV above) (hu5 1 (by refine' Nat.le_add_left _ _)) (.tail _ (.head _)) (isC_strs _) (.head _) ⟨_,rfl,?_⟩
      cases above with
      | nil=>
        refine EA_nil ⟨hcd,.cons _ (List.Sublist.refl _),fun _ _ h=>h⟩
      | cons a0 r0=>
        exact wordsT _ ⟨.cons _ (List.Sublist.refl _),fun _ _ h=>h⟩ rfl
   ·rintro b st₁ ⟨rfl,hle⟩
    cases b with
    | false=>
      exact EB.weak hle (EB_nil (rest _ (by rw [if_neg (by decide),List.append_nil])))
    | true=>
      have hat:=coordR_len' (x:=whole) (p:=s.2.2+p.off) (by refine' qN ‹_› (by nofun))
      refine EB.weak hle (EB_cons ?_)
      refine ES_expr (EV_meth PySem.F.plainAttrs_list PySem.F.slot_list_append PySem.F.type_list_append (EV_loc ⟨Recv.list (l:=s.2.1.map V.str) (.tail _ (.tail _ (.tail _ (.head _)))) (by cases s.2.1<;>rfl),EL_cons (EV_bin (EV_ifexp (ET_cmp (EV_cell (a:=Lf+1) (v:=nmV p) hcell (.tail _ (.tail _ (.tail _ (.tail _ (.tail _ (.tail _ (.tail _ (.tail _ (.head _))))))))) (EV_none (Op_is_none (b:=p.names.isNone) ?_ ⟨_,rfl,?_⟩))))))⟩))
      ·unfold nmV;cases p.names<;>rfl
      have go:∀{pp:Pos} {Qc:V→St→Prop},(∀st₁,EB K (lawCx K A Lf) ((forB (rowB.getD 7 dS)).drop 3) st₁ R X→Qc .none st₁)→EV K (lawCx K A Lf) (addB ((forB (rowB.getD 7 dS)).getD 2 dS)) (S2 s.2.1)
       (fun b st₂=>Op2 K (lawCx K A Lf) (binaryOp .Add) (.str wd) b st₂ (fun a st₁=>EL K (lawCx K A Lf) pp [] st₁ (fun l st₂=>CF K (lawCx K A Lf) (.blt "list.append") (.ref H::a::l) [] [] st₂ Qc X) X) X) X:=by
       intro pp Qc hQ
       refine EV_call (EV_glob P.G P.lat.mg (.ref _) ⟨571,_,_,rfl,P.lat.ob,rfl,EL_cons (EV_loc (EL_cons (EV_bin (EV_loc (EV_loc (Op_add_int (EL_nil (EK_nil ?_))))))))⟩)
       refine at_ok (p:=s.2.2+p.off) P (by refine' qN ‹_› (by nofun)) (by with_reducible (apply qN;symm)) (by show A.depth+2 <_;refine' qL ‹_› (by nofun)) hh' (Op_add_str ?_ (EL_nil ?_))
       ·with_reducible (apply qS;symm)
       refine CF_appendM (j:=[(D',strV above),(PL,psV),(D,lV)]) (l:=s.2.1.map V.str) rfl (by cases s.2.1<;>rfl) (by rw [List.length_map];refine' qN ‹_› (by nofun)) ?_
       have:=rest (s.2.1++[wd++lAt whole (s.2.2+p.off)]) (by rw [if_pos rfl])
       have e:(s.2.1++[wd++lAt whole (s.2.2+p.off)]).map V.str=s.2.1.map V.str++[V.str (wd++lAt whole (s.2.2+p.off))]:=List.map_append
       refine hQ _ (EB.weak (st':=S2 (s.2.1++[wd++lAt whole (s.2.2+p.off)])) ⟨?_,fun _ _ h=>h⟩ this)
       show List.Sublist ((D',strV above)::[(PL,psV),(D,lV),(H,(s.2.1++[wd++lAt whole (s.2.2+p.off)]).map V.str),(U,rowsVV due),(T,tV),(Ra,rV),(KA,keysV),(Lf+1,[.mark,nmV p])]) _
       rw [e]
       exact List.Sublist.refl _
      cases hn:p.names with
      | none=>
        rw [hn] at hwd
        have ewd:wd=p.words:=hwd.symm
        refine EV_loc ?_
        rw [←ewd]
        exact go fun st₁ h=>⟨rfl,EB_nil h⟩
      | some n=>
        rw [hn] at hwd
        have ewd:wd=S_ "unknown":=hwd.symm
        refine EV_str ?_
        rw [show Str.ofString "unknown"=wd from ewd.symm]
        exact go fun st₁ h=>⟨rfl,EB_nil h⟩
  refine EB_cons ?_
  refine ES_aug (a:=.str ⟨s.1.toArray⟩) (EV_ifexp (ET_cmp (EV_loc (EV_list (EL_nil ⟨Nat.zero_le _,fun a ha=>?_⟩))))) rfl
  refine Op_eq_nil (l:=strV above) (hu5 1 (by refine' Nat.le_add_left _ _)) (.tail _ (.head _)) (isC_strs _) (.head _) ⟨_,rfl,?_⟩
  rw [show (strV above).length=above.length from List.length_map _]
  cases hgl:above.getLast? with
  | none=>
    have hnil:above=[]:=List.getLast?_eq_none_iff.mp hgl
    subst hnil
    rw [hgl] at htx
    have htx:s.1++L p.text=tx:=htx
    refine EV_loc (Op_iadd_str ?_ ?_)
    ·rw [mk_len];with_reducible (apply qS;symm)
    have e:(⟨s.1.toArray⟩:Str)++p.text=⟨tx.toArray⟩:=by
     rw [←htx,←mk_append]
    rw [e]
    exact EB.weak (st':=S2 s.2.1) (leA (.cons _ (List.Sublist.refl _)) ⟨rfl,rfl,rfl,rfl,rfl,rfl,rfl,rfl,rfl,rfl,rfl,rfl,rfl,rfl,trivial⟩) tail
  | some v=>
    rw [hgl] at htx
    have htx:s.1++v=tx:=htx
    have hvm:v∈above:=List.mem_of_getLast? hgl
    have hv80:=hav v hvm
    have hpos:0 <above.length:=List.length_pos_of_mem hvm
    have hlast:(strV above)[above.length -1]?=some (.str ⟨v.toArray⟩):=by
     rw [List.getElem?_map,←List.getLast?_eq_getElem?,hgl];rfl
    rw [show (above.length==0)=false from by cases above with | nil=>cases hvm | cons a r=>rfl]
    refine EV_sub (EV_loc (EV_neg (EV_int ⟨_,rfl,?_⟩)))
    refine Op_item_list (l:=strV above) (k:=above.length -1) (.tail _ (.head _)) (isC_strs _) (.inr ⟨by lia,by rw [List.length_map];lia,by rw [List.length_map];refine' qI1 ‹_›⟩) hlast (by rw [List.length_map];lia) (Op_iadd_str ?_ ?_)
    ·rw [mk_len,mk_len];with_reducible (apply qS;symm)
    rw [mk_append,htx]
    exact EB.weak (st':=S2 s.2.1) (leA (.cons _ (List.Sublist.refl _)) ⟨rfl,rfl,rfl,rfl,rfl,rfl,rfl,rfl,rfl,rfl,rfl,rfl,rfl,rfl,trivial⟩) tail
end
end
section
theorem lPiece_bounds (kind way:Nat):(lPiece kind way).off≤200∧(lPiece kind way).words.length≤200:=by
 have key:=keyS_len (way%6) (way/6)
 have e0:(S_ "").length=0:=by rw [S_len];rfl
 have w:∀s:String,s.length≤200→(S_ s).length≤200:=fun s h=>by rw [S_len];exact h
 unfold lPiece
 split
 ·exact ⟨Nat.zero_le _,by show (S_ "").length≤200;with_reducible (apply qN;symm)⟩
 ·show (tripOf kind way).2.2≤200∧(tripOf kind way).2.1.length≤200
  unfold tripOf
  have all:∀(l:List (Str×Str×Nat)) (i:Nat),(∀t∈l,t.2.2≤200∧t.2.1.length≤200)→(l.getD i (S_ "",S_ "",0)).2.2≤200∧(l.getD i (S_ "",S_ "",0)).2.1.length≤200:=by
   intro l i h
   rw [List.getD_eq_getElem?_getD]
   cases hg:l[i]? with
   | none=>exact ⟨Nat.zero_le _,by show (S_ "").length≤200;with_reducible (apply qN;symm)⟩
   | some t=>exact h t (List.mem_of_getElem? hg)
  generalize keyS _ _=k at *
  split
  ·refine all _ _ fun t ht=>?_
   unfold wholeL whole1 whole2 whole3 whole4 whole5 at ht
   simp only [List.append_assoc,List.mem_append,List.mem_cons,List.not_mem_nil,or_false] at ht
   rcases ht with (h | h | h | h) | (h | h) | (h | h) | (h | h) | h<;>subst h<;>exact ⟨by first | (first | refine' Nat.zero_le _ | with_reducible (apply qN;symm)) | (dsimp only;lia),w _ (by decide)⟩
  ·refine all _ _ fun t ht=>?_
   unfold tornL torn1 torn2 at ht
   simp only [List.mem_append,List.mem_cons,List.not_mem_nil,or_false] at ht
   rcases ht with (h | h | h) | (h | h)<;>subst h<;>exact ⟨by first | with_reducible (apply qN;symm) | (dsimp only;lia),w _ (by decide)⟩
theorem pcs_bounds (N:Nat):∀p∈pcsOf N,p.off≤200∧p.words.length≤200:=by
 have more:∀(f n kind:Nat),∀p∈morePcs f n kind,p.off≤200∧p.words.length≤200:=by
  intro f
  induction f with
  | zero=>intro n kind p h;simp [morePcs] at h
  | succ f ih=>
    intro n kind p h
    rw [morePcs] at h
    split at h
    ·rcases List.mem_cons.mp h with rfl | h
     ·exact lPiece_bounds ..
     ·exact ih _ _ p h
    ·simp at h
 intro p h
 unfold pcsOf at h
 rcases List.mem_cons.mp h with rfl | h
 ·exact lPiece_bounds ..
 ·exact more _ _ _ p h
theorem val_shift (due:List Row) (w:Str):∀(ps:List LPc) (t:List Nat) (h0 h:List Str) (n:Nat),ps.foldl (valStep due w) (t,h0++h,n)=((ps.foldl (valStep due w) (t,h,n)).1,h0++(ps.foldl (valStep due w) (t,h,n)).2.1,(ps.foldl (valStep due w) (t,h,n)).2.2)
 | [],_,_,_,_=>rfl
 | p::r,t,h0,h,n=>by
   rw [List.foldl_cons,List.foldl_cons]
   have:valStep due w (t,h0++h,n) p=((valStep due w (t,h,n) p).1,h0++(valStep due w (t,h,n) p).2.1,(valStep due w (t,h,n) p).2.2):=by
    unfold valStep;simp
   rw [this]
   exact val_shift due w r _ h0 _ _
theorem val_bounds (due:List Row) (w:Str) (hd:∀r∈due,r.2.length≤80):∀(ps:List LPc) (s:List Nat×List Str×Nat),(∀p∈ps,p.text.length≤130)→
 (ps.foldl (valStep due w) s).1.length≤s.1.length+130*ps.length∧(ps.foldl (valStep due w) s).2.1.length≤s.2.1.length+ps.length∧(ps.foldl (valStep due w) s).2.2≤s.2.2+130*ps.length
 | [],s,_=>⟨by simp,by simp,by simp⟩
 | p::r,s,h=>by
   rw [List.foldl_cons,List.length_cons]
   obtain ⟨a,b,c⟩:=val_bounds due w hd r (valStep due w s p) fun q hq=>h q (List.mem_cons_of_mem _ hq)
   have hp:=h p List.mem_cons_self
   have e1:(valStep due w s p).1.length≤s.1.length+130:=by
    unfold valStep
    dsimp only
    rw [List.length_append]
    split
    ·rw [L_length];refine' Nat.add_le_add_left ‹_› _
    ·rename_i v hv
     have hm:=List.mem_of_getLast? hv
     unfold abv at hm
     cases hn:p.names with
     | none=>rw [hn] at hm;cases hm
     | some n=>
       rw [hn] at hm
       obtain ⟨q,hq,rfl⟩:=List.mem_map.mp hm
       have:=hd q (List.mem_filter.mp hq).1
       lia
   have e2:(valStep due w s p).2.1.length≤s.2.1.length+1:=by
    unfold valStep
    dsimp only
    rw [List.length_append]
    split<;>simp
   have e3:(valStep due w s p).2.2=s.2.2+p.text.length:=rfl
   exact ⟨by refine' q130' ‹_› ‹_›,by refine' q131 ‹_› ‹_›,by lia⟩
theorem inter_nil:∀l:List (List Nat),List.intercalate [] l=l.flatten
 | []=>rfl
 | [a]=>by simp [List.intercalate]
 | a::b::r=>by
   have:=inter_nil (b::r)
   simp only [List.intercalate,List.intersperse,List.flatten] at this ⊢
   simp [this]
section
variable {K:Kx} {c:Cx} {st:St} {Q:V→St→Prop} {A:Around} {Lf:Addr} {R:Fl→St→Prop} {X:Xc→St→Prop}
theorem CF_divmodN (G:Gl K) {n:Nat} (k:Nat) (hk:k≠0) (hk2:k <1073741824) (h:Q (.tup [.int (n/k:Nat),.int (n%k:Nat)]) st):CF K c (.blt "divmod") [.int n,.int k] [] [] st Q X:=by
 refine CF_divmod G (by lia) (PyProof.noPylong_small (by refine' r20 ‹_›)) ?_
 rw [ndiv,nmod];exact h
noncomputable def rSt (Lf D H U T Ra KA:Addr) (lV tV rV:List V) (extra:List (Str×V)) (s:List Nat×List Row×List Str) (cv:List V):St:=
 ⟨extra++[(S_ "file",.str ⟨s.1.toArray⟩),(S_ "due",.ref U),(S_ "holes",.ref H),(S_ "keys",.ref KA),(S_ "told",.ref T),(S_ "rows",.ref Ra)],
  [(D,lV),(H,s.2.2.map V.str),(U,rowsVV s.2.1),(T,tV),(Ra,rV),(KA,keysV),(Lf+1,.mark::cv)]⟩
noncomputable def wSt (Lf PL D H U T Ra KA:Addr) (lV tV rV:List V) (s:List Nat×List Row×List Str) (way key:Nat) (cv:List V) (n kd:Nat) (ps:List LPc):St:=
 ⟨[(S_ "number",.int n),(S_ "kind",.int kd),(S_ "pieces",.ref PL),(S_ "way",.int way),(S_ "key",.int key),(S_ "file",.str ⟨s.1.toArray⟩),(S_ "due",.ref U),(S_ "holes",.ref H),(S_ "keys",.ref KA),(S_ "told",.ref T),(S_ "rows",.ref Ra)],
   (PL,ps.map LPc.v)::[(D,lV),(H,s.2.2.map V.str),(U,rowsVV s.2.1),(T,tV),(Ra,rV),(KA,keysV),(Lf+1,.mark::cv)]⟩
theorem row_tail (P:Pk11 K) (hroom:A.depth+60 <recursionLimit) (hun:A.units+300 <cLine) (hh:A.handled=none) {PL D H U T Ra KA:Addr} {lV tV rV:List V} {s:List Nat×List Row×List Str} {cv:List V} {N key way n kd:Nat} {ps:List LPc}
 (hf:s.1.length≤400000) (hd:s.2.1.length≤90) (hd2:∀r∈s.2.1,r.2.length≤80) (hs2:s.2.2.length≤900) (hkx:key <6) (hkey:keyIx N=key) (hway:wayOf N=way) (hps:pcsOf N=ps)
 (hR:∀st₁ cv',St.Le (rSt Lf D H U T Ra KA lV tV rV [] (lawStep s N) cv') st₁→R .next st₁):
 EB K (lawCx K A Lf) (rowB.drop 5) (wSt Lf PL D H U T Ra KA lV tV rV s way key cv n kd ps) R X:=by
 have hh':(lawCx K A Lf).A.handled=none:=hh
 have hsl:sizeLine=16777216:=sizeLine_eq
 have hwl:=whole_len N
 have hpt:=pcs_text N
 have hpb:=pcs_bounds N
 have hpn:=pcs_len N
 rw [hps] at hwl hpt hpb hpn
 have n3:3≤sizeLine:=by with_reducible (apply qS;symm)
 have n2:2≤sizeLine:=by with_reducible (apply qS;symm)
 have isCp:∀ps:List LPc,isC (ps.map LPc.v)=false:=fun ps=>by cases ps<;>rfl
 have eta:∀x:Str,(⟨(L x).toArray⟩:Str)=x:=fun x=>by simp [L]
 have ee:Str.ofString ""=⟨([]:List Nat).toArray⟩:=by decide+kernel
 have htext:List.intercalate [] (ps.map fun p=>L p.text)=textsOf ps:=by rw [inter_nil];rfl
 refine EB_cons ?_
 refine ES_swap [S_ "whole",S_ "text",S_ "start"] hh' ?_
 refine EV_tuple (EL_cons (EV_meth PySem.F.plainAttrs_str PySem.F.slot_str_join PySem.F.type_str_join (EV_str ⟨Recv.str,EL_cons ?_⟩)))
 refine EV_comp [] hh' (by kernel_rfl!) ?_
 refine EV_loc ⟨ps.map LPc.v,fun sto=>(PL,ps.map LPc.v)∈sto,Src.own hh' (isCp _),.head _,fun _ _=>.tail _ (.head _),by rw [List.length_map];refine' qN ‹_› (by nofun),fun i ys=>ys=strV ((ps.take i).map fun p=>L p.text),rfl,?_,?_,?_⟩
 ·rintro i ys rfl
  refine ⟨isC_strs _,?_⟩
  rw [List.length_map,List.length_map,List.length_take];refine' Nat.min_le_left _ _
 ·intro C D' i v ys loc hv hy
  have hlt:i <ps.length:=by have:=(List.getElem?_eq_some_iff.mp hv).1;simpa using this
  have hg:ps[i]?=some ps[i]:=List.getElem?_eq_getElem hlt
  have hv':v=LPc.v ps[i]:=by
   rw [List.getElem?_map,hg] at hv
   exact (Option.some.inj hv).symm
  subst hv'
  refine TA_name (EI_nil ?_)
  refine EV_sub (EV_loc (EV_int ?_))
  refine Op_item_tup (i:=0) (v:=.str ps[i].text) rfl (by decide) ⟨rfl,?_⟩
  show ys++_=strV ((ps.take (i+1)).map fun p=>L p.text)
  rw [hy,List.take_add_one,hg,show V.str ps[i].text=V.str ⟨(L ps[i].text).toArray⟩ from by rw [eta]]
  simp only [Option.toList_some,strV,List.map_append,List.map_cons,List.map_nil]
 ·intro D' ys hD hy
  rw [show (ps.map LPc.v).length=ps.length from List.length_map _,List.take_of_length_le (Nat.le_refl _)] at hy
  subst hy
  rw [ee]
  refine EL_nil (CF_join (l:=ps.map fun p=>L p.text) (.head _) (isC_strs _) ?_ ?_ ?_)
  ·have:=sum_le (B:=130) (ps.map fun p=>L p.text) fun x hx=>by
    obtain ⟨p,hp,rfl⟩:=List.mem_map.mp hx
    rw [L_length];exact hpt p hp
   rw [List.length_map] at this ⊢
   rw [mk_len]
   simp only [List.length_nil,Nat.mul_zero];lia
  ·rw [join_mk,mk_len,htext];refine' qN ‹_› (by nofun)
  rw [join_mk,htext]
  generalize hwhole:textsOf ps=whole at *
  refine EL_cons (EV_str (EL_cons (EV_int (EL_nil ⟨n3,_,rfl,rfl,AS_bind (AS_bind (AS_bind (AS_nil ?_)))⟩))))
  have hkn:=lawKeys_ok key
  have hget:keysV[key]?=some (.tup (strV (lKeyAt key))):=by rw [List.getElem?_map,lawKeys_get hkx];rfl
  have b1:=key_len key way
  have b2:=eqL_len way
  have b3:=endL_len way
  have b4:=lText_len whole (way/3)
  have m3:way%3 <3:=Nat.mod_lt _ (by decide)
  have m9:way/9%3 <3:=Nat.mod_lt _ (by decide)
  have q1:([V.str (Str.ofString " = "),.str (Str.ofString "="),.str (Str.ofString "\t= ")]:List V)[way%3]?=some (.str ⟨(eqL way).toArray⟩):=by
   unfold eqL
   rcases (show way%3=0∨way%3=1∨way%3=2 by refine' q3 ‹_›) with h | h | h<;>rw [h]<;>kernel_rfl
  have q2:([V.str (Str.ofString "\n"),.str (Str.ofString " # ${\"\n"),.str (Str.ofString "\t\n")]:List V)[way/9%3]?=some (.str ⟨(endL way).toArray⟩):=by
   unfold endL
   rcases (show way/9%3=0∨way/9%3=1∨way/9%3=2 by refine' q3 ‹_›) with h | h | h<;>rw [h]<;>kernel_rfl
  have hline:lineOf N=lKey (lKeyAt key) way++eqL way++lText whole (way/3)++endL way:=by
   unfold lineOf
   rw [hkey,hway,hps,hwhole]
  refine EB_cons ?_
  refine ES_aug (a:=.str ⟨s.1.toArray⟩) ?_ rfl
  refine EV_bin (EV_bin (EV_bin (EV_call (EV_glob P.G P.lkey.mg (.ref _) ⟨564,_,_,rfl,P.lkey.ob,rfl,EL_cons (EV_sub (EV_loc (EV_loc ?_)))⟩))))
  refine Op_item_list (l:=keysV) (k:=key) (.tail _ (.tail _ (.tail _ (.tail _ (.tail _ (.tail _ (.tail _ (.head _)))))))) rfl (.inl ⟨by refine' Int.natCast_nonneg _,(Int.toNat_natCast _).symm⟩) hget (by decide) (EL_cons (EV_loc (EL_nil (EK_nil ?_))))
  refine key_ok P (by have:=hkn.1;show (lawKeys.getD key []).length≤_;refine' qN ‹_› (by nofun)) (fun n hn=>by have:=hkn.2 n hn;refine' qN ‹_› (by nofun)) (by show A.depth+10 <_;refine' qL ‹_› (by nofun)) (by show A.units+25 <_;refine' qL ‹_› (by nofun)) hh' ?_
  refine EV_sub (EV_list (EL_cons (EV_str (EL_cons (EV_str (EL_cons (EV_str (EL_nil ⟨n3,fun a ha=>?_⟩))))))))
  refine EV_bin (EV_loc (EV_int (Op_fmod_int (by decide) ?_)))
  rw [show (way:Int).fmod 3=((way%3:Nat):Int) from nmod way 3]
  refine Op_item_list (k:=way%3) (.head _) rfl (.inl ⟨by refine' Int.natCast_nonneg _,(Int.toNat_natCast _).symm⟩) q1 (by decide) ?_
  refine Op_add_str ?_ (EV_call (EV_glob P.G P.text.mg (.ref _) ⟨557,_,_,rfl,P.text.ob,rfl,EL_cons (EV_loc (EL_cons (EV_bin (EV_loc (EV_int (Op_fdiv_int (by decide) (PyProof.noPylong_small (by decide)) (EL_nil (EK_nil ?_))))))))⟩))
  ·rw [mk_len,mk_len];with_reducible (apply qS;symm)
  rw [show (way:Int).fdiv 3=((way/3:Nat):Int) from ndiv way 3,mk_append]
  refine text_ok P (by refine' qN ‹_› (by nofun)) (by show A.depth+8 <_;refine' qL ‹_› (by nofun)) (by show A.units+20 <_;refine' qL ‹_› (by nofun)) hh' ?_
  refine Op_add_str ?_ (EV_sub (EV_list (EL_cons (EV_str (EL_cons (EV_str (EL_cons (EV_str (EL_nil ⟨n3,fun a2 ha2=>?_⟩)))))))))
  ·rw [mk_len,mk_len,List.length_append];lia
  rw [mk_append]
  refine EV_bin (EV_bin (EV_loc (EV_int (Op_fdiv_int (by decide) (PyProof.noPylong_small (by decide)) (EV_int (Op_fmod_int (by decide) ?_))))))
  rw [show ((way:Int).fdiv 9).fmod 3=((way/9%3:Nat):Int) from by rw [show (way:Int).fdiv 9=((way/9:Nat):Int) from ndiv way 9];exact nmod _ 3]
  refine Op_item_list (k:=way/9%3) (.head _) rfl (.inl ⟨by refine' Int.natCast_nonneg _,(Int.toNat_natCast _).symm⟩) q2 (by decide) ?_
  refine Op_add_str ?_ (Op_iadd_str ?_ ?_)
  ·rw [mk_len,mk_len,List.length_append,List.length_append];lia
  ·rw [mk_append,mk_len,mk_len,List.length_append,List.length_append,List.length_append];lia
  rw [mk_append,mk_append,←hline]
  clear b4 q1 q2 hline
  have hll:=line_len N
  generalize hfile:s.1++lineOf N=file at *
  have hacc:∀i,(((ps.take i).foldl (valStep s.2.1 ⟨whole.toArray⟩) ([],s.2.2,0)).1.length≤780)∧(((ps.take i).foldl (valStep s.2.1 ⟨whole.toArray⟩) ([],s.2.2,0)).2.1.length≤906)∧(((ps.take i).foldl (valStep s.2.1 ⟨whole.toArray⟩) ([],s.2.2,0)).2.2≤780):=by
   intro i
   have h:=val_bounds s.2.1 ⟨whole.toArray⟩ hd2 (ps.take i) ([],s.2.2,0) fun p hp=>hpt p (List.mem_of_mem_take hp)
   have h2:(ps.take i).length≤6:=by rw [List.length_take];refine' qmn ‹_›
   obtain ⟨a,b,c⟩:=h
   simp only [List.length_nil] at a b c
   exact ⟨by lia,by lia,by lia⟩
  refine EB_cons ?_
  refine ES_for hh' (EV_loc ⟨ps.map LPc.v,fun sto=>(PL,ps.map LPc.v)∈sto,Src.own hh' (isCp _),.tail _ (.tail _ (.tail _ (.head _))),fun i st₂=>∃cv,St.Le (pSt Lf PL D H U T Ra KA (ps.map LPc.v) lV tV rV (.str ⟨file.toArray⟩) (.int key) ⟨whole.toArray⟩ s.2.1 ((ps.take i).foldl (valStep s.2.1 ⟨whole.toArray⟩) ([],s.2.2,0)) cv) st₂,
   ⟨cv,leA (.cons _ (.cons _ (.cons _ (List.Sublist.refl _)))) ⟨rfl,rfl,rfl,rfl,rfl,rfl,rfl,rfl,rfl,rfl,trivial⟩⟩,?_,?_⟩)
  ·rintro i v st₂ hv ⟨cv2,hle⟩
   have hlt:i <ps.length:=by have:=(List.getElem?_eq_some_iff.mp hv).1;simpa using this
   have hg:ps[i]?=some ps[i]:=List.getElem?_eq_getElem hlt
   have hv':v=LPc.v ps[i]:=by
    rw [List.getElem?_map,hg] at hv
    exact (Option.some.inj hv).symm
   subst hv'
   have hm:ps[i]∈ps:=List.getElem_mem hlt
   have hstep:(ps.take (i+1)).foldl (valStep s.2.1 ⟨whole.toArray⟩) ([],s.2.2,0)=valStep s.2.1 ⟨whole.toArray⟩ ((ps.take i).foldl (valStep s.2.1 ⟨whole.toArray⟩) ([],s.2.2,0)) ps[i]:=by
    rw [List.take_add_one,hg,List.foldl_append];rfl
   obtain ⟨a1,a2,a3⟩:=hacc i
   refine ⟨hle.sto.subset (.head _),TA.weak hle (piece_step P hroom hun hh (by rw [mk_len];refine' qN ‹_› (by nofun)) (by refine' qN ‹_› (by nofun)) hd2 (by refine' qN ‹_› (by nofun)) (by refine' qN ‹_› (by nofun)) (by refine' qN ‹_› (by nofun)) (hpt _ hm) (hpb _ hm).1 (hpb _ hm).2 fun st₁ hle1=>⟨_,by rw [hstep];exact hle1⟩)⟩
  ·rintro st₂ ⟨cv2,hle⟩
   refine ⟨hle.sto.subset (.head _),EB.weak hle ?_⟩
   rw [show (ps.map LPc.v).length=ps.length from List.length_map _,List.take_of_length_le (Nat.le_refl _)]
   have hval:ps.foldl (valStep s.2.1 ⟨whole.toArray⟩) ([],s.2.2,0)=((valOf s.2.1 N).1,s.2.2++(valOf s.2.1 N).2.1,(valOf s.2.1 N).2.2):=by
    have:=val_shift s.2.1 ⟨whole.toArray⟩ ps [] s.2.2 [] 0
    rw [List.append_nil] at this
    rw [this]
    unfold valOf
    rw [hps,hwhole]
   rw [hval]
   refine EB_cons ?_
   refine ES_expr (EV_meth PySem.F.plainAttrs_list PySem.F.slot_list_append PySem.F.type_list_append (EV_loc ⟨Recv.list (l:=rowsVV s.2.1) (.tail _ (.tail _ (.tail _ (.head _)))) (isC_rows _),EL_cons (EV_tuple (EL_cons (EV_sub (EV_loc (EV_loc ?_)))))⟩))
   refine Op_item_list (l:=keysV) (k:=key) (.tail _ (.tail _ (.tail _ (.tail _ (.tail _ (.tail _ (.head _))))))) rfl (.inl ⟨by refine' Int.natCast_nonneg _,(Int.toNat_natCast _).symm⟩) hget (by decide) ?_
   refine EL_cons (EV_slice (EV_loc (EP_none (EP_some (EV_int ⟨_,_,_,rfl,rfl,rfl,EL_nil ⟨n2,EL_nil ?_⟩⟩)))))
   rw [show Txt.slice (⟨(valOf s.2.1 N).1.toArray⟩:Str) none (some 80)=⟨((valOf s.2.1 N).1.take 80).toArray⟩ from slice_to _ 80]
   refine CF_appendM (j:=[(PL,ps.map LPc.v),(D,lV),(H,(s.2.2++(valOf s.2.1 N).2.1).map V.str)]) (l:=rowsVV s.2.1) rfl (isC_rows _) (by rw [List.length_map];refine' qN ‹_› (by nofun)) ⟨rfl,?_⟩
   have e1:rowsVV (lawStep s N).2.1=rowsVV s.2.1++[.tup [.tup (strV (lKeyAt key)),.str ⟨((valOf s.2.1 N).1.take 80).toArray⟩]]:=by
    rw [show (lawStep s N).2.1=s.2.1++[rowOf s.2.1 N] from rfl]
    rw [show rowsVV (s.2.1++[rowOf s.2.1 N])=rowsVV s.2.1++[rowV (rowOf s.2.1 N)] from List.map_append]
    unfold rowOf
    rw [hkey]
   refine EB_nil (hR _ cv2 (leA ?_ ⟨?_,rfl,rfl,rfl,rfl,rfl,trivial⟩))
   ·show List.Sublist [(D,lV),(H,(lawStep s N).2.2.map V.str),(U,rowsVV (lawStep s N).2.1),(T,tV),(Ra,rV),(KA,keysV),(Lf+1,.mark::cv2)] _
    rw [e1]
    exact .cons _ (List.Sublist.refl _)
   ·show some (V.str ⟨file.toArray⟩)=some (V.str ⟨(lawStep s N).1.toArray⟩)
    rw [show (lawStep s N).1=s.1++lineOf N from rfl,hfile]
end
end
section
section
variable {K:Kx} {c:Cx} {st:St} {Q:V→St→Prop} {A:Around} {Lf:Addr} {R:Fl→St→Prop} {X:Xc→St→Prop}
theorem row_step {q:Pos} (P:Pk11 K) (hroom:A.depth+60 <recursionLimit) (hun:A.units+300 <cLine) (hh:A.handled=none) {D H U T Ra KA:Addr} {lV tV rV:List V} {s:List Nat×List Row×List Str} {cv:List V} {N:Nat}
 (hf:s.1.length≤400000) (hd:s.2.1.length≤90) (hd2:∀r∈s.2.1,r.2.length≤80) (hs2:s.2.2.length≤900)
 (hR:∀st₁ cv',St.Le (rSt Lf D H U T Ra KA lV tV rV [] (lawStep s N) cv') st₁→R .next st₁):
 TA K (lawCx K A Lf) (.Name (S_ "number") q) (.int N) (rSt Lf D H U T Ra KA lV tV rV [] s cv) (fun st₁=>EB K (lawCx K A Lf) rowB st₁ R X) X:=by
 have hh':(lawCx K A Lf).A.handled=none:=hh
 have hsl:sizeLine=16777216:=sizeLine_eq
 have n1:1≤sizeLine:=by with_reducible (apply qS;symm)
 refine TA_name ?_
 refine EB_cons ?_
 refine ES_unpack hh' (EV_callB (EV_blt P.G P.divmod_.mg P.divmod_.mb (.blt _) ⟨_,rfl,EL_cons (EV_loc (EL_cons (EV_int (EL_nil ?_))))⟩))
 refine CF_divmodN P.G 18 (by decide) (by decide) ⟨_,rfl,rfl,AS_name (AS_name (AS_nil ?_))⟩
 refine EB_cons ?_
 refine ES_unpack hh' (EV_callB (EV_blt P.G P.divmod_.mg P.divmod_.mb (.blt _) ⟨_,rfl,EL_cons (EV_loc (EL_cons (EV_int (EL_nil ?_))))⟩))
 refine CF_divmodN P.G 6 (by decide) (by decide) ⟨_,rfl,rfl,AS_name (AS_name (AS_nil ?_))⟩
 refine EB_cons ?_
 refine ES_unpack hh' (EV_callB (EV_blt P.G P.divmod_.mg P.divmod_.mb (.blt _) ⟨_,rfl,EL_cons (EV_loc (EL_cons (EV_int (EL_nil ?_))))⟩))
 refine CF_divmodN P.G 1728 (by decide) (by decide) ⟨_,rfl,rfl,AS_name (AS_name (AS_nil ?_))⟩
 have hk18:N%18 <18:=Nat.mod_lt _ (by decide)
 have ekey:N/18%6=keyIx N:=rfl
 have eway:N/18/6%1728=wayOf N:=rfl
 have hpcs:pcsOf N=lPiece (N%18) (wayOf N)::morePcs 5 (N/18/6/1728) (N%18):=rfl
 rw [ekey,eway]
 have hkx:keyIx N <6:=Nat.mod_lt _ (by decide)
 generalize hrest:N/18/6/1728=rest at *
 generalize hkind:N%18=kind at *
 generalize hkey:keyIx N=key at *
 generalize hway:wayOf N=way at *
 refine EB_cons ?_
 refine ES_assign ?_
 refine EV_list ?_
 refine EL_cons (EV_call (EV_glob P.G P.piece.mg (.ref _) ⟨578,_,_,rfl,P.piece.ob,rfl,EL_cons (EV_loc (EL_cons (EV_loc (EL_cons (EV_loc (EL_nil (EK_nil ?_)))))))⟩))
 refine piece_ok P (.tail _ (.tail _ (.tail _ (.tail _ (.tail _ (.head _)))))) hk18 (by show A.depth+12 <_;refine' qL ‹_› (by nofun)) (by show A.units+30 <_;refine' qL ‹_› (by nofun)) hh' (EL_nil ⟨n1,fun PL hPL=>?_⟩)
 have hwl:=whole_len N
 have hpt:=pcs_text N
 have hpb:=pcs_bounds N
 have hpn:=pcs_len N
 have tail:∀n kd,EB K (lawCx K A Lf) (rowB.drop 5) (wSt Lf PL D H U T Ra KA lV tV rV s way key cv n kd (pcsOf N)) R X:=by
  intro n kd
  exact row_tail P hroom hun hh hf hd hd2 hs2 hkx hkey hway (PL:=PL) (ps:=pcsOf N) rfl hR
 refine EB_cons ?_
 refine ES_while (fun f st'=>∃n kd ps,pcsOf N=ps++morePcs f n kd∧ps.length+f=6∧kd <18∧St.Le (wSt Lf PL D H U T Ra KA lV tV rV s way key cv n kd ps) st') ?_ 5 ⟨rest,kind,[lPiece kind way],hpcs,rfl,hk18,leA (List.Sublist.refl _) ⟨rfl,rfl,rfl,rfl,rfl,rfl,rfl,rfl,rfl,rfl,rfl,trivial⟩⟩
 rintro f st' ⟨n,kd,ps,h1,h2,h3,hle⟩
 have isCp:∀ps:List LPc,isC (ps.map LPc.v)=false:=fun ps=>by cases ps<;>rfl
 have stop:¬(0 <f∧0 <n∧kd <17)→EB K (lawCx K A Lf) (rowB.drop 5) (wSt Lf PL D H U T Ra KA lV tV rV s way key cv n kd ps) R X:=fun h=>by
  have:morePcs f n kd=[]:=by
   cases f with
   | zero=>rfl
   | succ f=>rw [morePcs,if_neg (fun q=>h ⟨Nat.succ_pos _,q⟩)]
  have e:ps=pcsOf N:=by rw [h1,this,List.append_nil]
  rw [e]
  exact tail n kd
 refine TB.weak hle (ET_boolop (EA_and (ET_cmp (EV_loc (EV_int (Op_gt_int ⟨_,rfl,?_⟩))))))
 rw [show decide ((n:Int)>0)=decide (0 <n) from by rw [decide_eq_decide];refine' qcgt _ _]
 by_cases hn:0 <n
 ·rw [decide_eq_true hn]
  refine EA_and (ET_cmp (EV_loc (EV_int (Op_lt_int ⟨_,rfl,?_⟩))))
  rw [show decide ((kd:Int) <17)=decide (kd <17) from by rw [decide_eq_decide];refine' qclt _ _]
  by_cases hkd:kd <17
  ·rw [decide_eq_true hkd]
   refine EA_and (ET_cmp (EV_callB (EV_blt P.G P.len.mg P.len.mb (.blt _) ⟨_,rfl,EL_cons (EV_loc (EL_nil ?_))⟩)))
   refine CF_len_list (l:=ps.map LPc.v) (.head _) (isCp _) (by rw [List.length_map];lia) (EV_int (Op_lt_int ⟨_,rfl,?_⟩))
   rw [show decide (((ps.map LPc.v).length:Int) <6)=decide (0 <f) from by rw [decide_eq_decide,List.length_map];lia]
   by_cases hf0:0 <f
   ·rw [decide_eq_true hf0]
    refine EA_nil ?_
    obtain ⟨g,rfl⟩:∃g,f=g+1:=⟨f -1,by refine' qP ‹_›⟩
    rw [morePcs,if_pos ⟨hn,hkd⟩] at h1
    have hk2:n%18 <18:=Nat.mod_lt _ (by decide)
    refine EB_cons ?_
    refine ES_unpack hh' (EV_callB (EV_blt P.G P.divmod_.mg P.divmod_.mb (.blt _) ⟨_,rfl,EL_cons (EV_loc (EL_cons (EV_int (EL_nil ?_))))⟩))
    refine CF_divmodN P.G 18 (by decide) (by decide) ⟨_,rfl,rfl,AS_name (AS_name (AS_nil ?_))⟩
    refine EB_cons ?_
    refine ES_expr (EV_meth PySem.F.plainAttrs_list PySem.F.slot_list_append PySem.F.type_list_append (EV_loc ⟨Recv.list (l:=ps.map LPc.v) (.head _) (isCp _),EL_cons (EV_call (EV_glob P.G P.piece.mg (.ref _) ⟨578,_,_,rfl,P.piece.ob,rfl,EL_cons (EV_loc (EL_cons (EV_loc (EL_cons (EV_loc (EL_nil (EK_nil ?_)))))))⟩))⟩))
    refine piece_ok P (.tail _ (.tail _ (.tail _ (.tail _ (.tail _ (.tail _ (.head _))))))) hk2 (by show A.depth+12 <_;refine' qL ‹_› (by nofun)) (by show A.units+30 <_;refine' qL ‹_› (by nofun)) hh' (EL_nil ?_)
    refine CF_appendM (j:=[]) (l:=ps.map LPc.v) rfl (isCp _) (by rw [List.length_map];lia) ⟨rfl,?_⟩
    refine EB_nil ⟨g,Nat.lt_succ_self _,n/18,n%18,ps++[lPiece (n%18) (n/18)],by rw [h1];simp,by rw [List.length_append];show ps.length+1+g=6;refine' qA ‹_›,hk2,leA ?_ ⟨rfl,rfl,rfl,rfl,rfl,rfl,rfl,rfl,rfl,rfl,rfl,trivial⟩⟩
    have e:(ps++[lPiece (n%18) (n/18)]).map LPc.v=ps.map LPc.v++[(lPiece (n%18) (n/18)).v]:=List.map_append
    show List.Sublist ((PL,(ps++[lPiece (n%18) (n/18)]).map LPc.v)::_) _
    rw [e]
    exact List.Sublist.refl _
   ·rw [decide_eq_false hf0]
    exact EB_nil (stop fun h=>hf0 h.1)
  ·rw [decide_eq_false hkd]
   exact EB_nil (stop fun h=>hkd h.2.2)
 ·rw [decide_eq_false hn]
  exact EB_nil (stop fun h=>hn h.2.1)
end
end
section
section
variable {K:Kx} {A:Around} {Lf:Addr}
noncomputable def numsOf (xs:List Int):List Nat:=[146873556,58797362]++xs.map numOf
noncomputable abbrev intsV (l:List Nat):List V:=l.map fun N:Nat=>V.int (N:Int)
theorem isC_ints (l:List Nat):isC (intsV l)=false:=by cases l<;>rfl
theorem isL_ints {h:Heap}:∀ts:List (Int×Tok),IsL h (ts.map fun x=>V.int x.1) (ts.map fun x=>Value.int x.1 x.2)
 | []=>.nil
 | t::r=>.cons (.int _ _) (isL_ints r)
theorem law_for (P:Pk11 K) (hroom:A.depth+60 <recursionLimit) (hun:A.units+300 <cLine) (hh:A.handled=none) {a:Addr} {o:Obj} {n:Nat} {ts:List (Int×Tok)} (ho:K.B.get? a=some o) (hc:o.cls=.type "list") (hd:o.data=.seq (ts.map fun x=>Value.int x.1 x.2).toArray n) (hlen:ts.length≤63)
 (h1:∀N,LineOk N) (h2:∀N,FillOk N) {H U T Ra KA:Addr}:
 EB K (lawCx K A Lf) ((fdB (bod.getD 68 dS)).drop 3) ⟨[(S_ "file",.str ⟨([]:List Nat).toArray⟩),(S_ "due",.ref U),(S_ "holes",.ref H),(S_ "rows",.ref Ra),(S_ "told",.ref T),(S_ "keys",.ref KA),(S_ "script",.ref a)],[(H,[]),(U,rowsVV due0),(T,[]),(Ra,rowsVV due0),(KA,keysV),(Lf+1,[.mark])]⟩
  (fun f _=>f=.ret (.bool true)) (fun _ _=>False):=by
 have hh':(lawCx K A Lf).A.handled=none:=hh
 have hsl:sizeLine=16777216:=sizeLine_eq
 have n2:2≤sizeLine:=by with_reducible (apply qS;symm)
 refine EB_cons ?_
 refine ES_for hh' ?_
 refine EV_bin ?_
 refine EV_list ?_
 refine EL_cons ?_
 refine EV_int ?_
 refine EL_cons ?_
 refine EV_int ?_
 refine EL_nil ?_
 refine ⟨n2,fun G hG=>?_⟩
 refine EV_comp [] hh' (by kernel_rfl!) ?_
 refine EV_loc ?_
 refine ⟨ts.map fun x=>V.int x.1,fun _=>True,Src.base hh' ho hc hd (isL_ints ts),trivial,fun _ _=>trivial,by rw [List.length_map];refine' qN ‹_› (by nofun),fun i ys=>ys=intsV ((ts.take i).map fun x=>numOf x.1),by exact rfl,?_,?_,?_⟩
 ·rintro i ys rfl
  refine ⟨isC_ints _,?_⟩
  rw [List.length_map,List.length_map,List.length_take];refine' Nat.min_le_left _ _
 ·intro C D' i v ys loc hv hy
  have hlt:i <ts.length:=by have:=(List.getElem?_eq_some_iff.mp hv).1;simpa using this
  have hg:ts[i]?=some ts[i]:=List.getElem?_eq_getElem hlt
  have hv':v=.int ts[i].1:=by
   rw [List.getElem?_map,hg] at hv
   exact (Option.some.inj hv).symm
  subst hv'
  have htk:intsV ((ts.take (i+1)).map fun x=>numOf x.1)=ys++[.int (numOf ts[i].1:Nat)]:=by
   rw [List.take_add_one,hg,hy]
   simp only [Option.toList_some,List.map_append,List.map_cons,List.map_nil]
  generalize ts[i].1=x at *
  refine TA_name ?_
  refine EI_nil ?_
  refine EV_ifexp ?_
  refine ET_cmp ?_
  refine EV_loc ?_
  refine EV_int ?_
  refine Op_ge_int ⟨_,rfl,?_⟩
  by_cases hx:x≥0
  ·rw [decide_eq_true hx]
   have e:(2:Int)*x=((numOf x:Nat):Int):=by unfold numOf;rw [if_pos hx];lia
   refine EV_bin ?_
   refine EV_int ?_
   refine EV_loc ?_
   refine Op_mul_int (IntMulOk.of_left (by decide)) ?_
   rw [e]
   exact ⟨rfl,htk.symm⟩
  ·rw [decide_eq_false hx]
   have e:(-2:Int)*x -1=((numOf x:Nat):Int):=by unfold numOf;rw [if_neg hx];lia
   refine EV_bin ?_
   refine EV_bin ?_
   refine EV_neg ?_
   refine EV_int ?_
   refine ⟨_,rfl,?_⟩
   refine EV_loc ?_
   refine Op_mul_int (IntMulOk.of_left (by decide)) ?_
   refine EV_int ?_
   refine Op_sub_int ?_
   rw [e]
   exact ⟨rfl,htk.symm⟩
 ·intro D' ys hD hy
  rw [List.length_map,List.take_of_length_le (Nat.le_refl _)] at hy
  subst hy
  have hnl:(ts.map fun x=>numOf x.1).length=ts.length:=List.length_map _
  refine Op_add_list (l:=[.int 146873556,.int 58797362]) (m:=intsV (ts.map fun x=>numOf x.1)) (.tail _ (.head _)) rfl (.head _) (isC_ints _) (by show 2+(intsV _).length≤_;rw [List.length_map,hnl];lia) fun D hD2=>?_
  have el:([.int 146873556,.int 58797362]:List V)++intsV (ts.map fun x=>numOf x.1)=intsV (numsOf (ts.map (·.1))):=by
   unfold numsOf
   rw [show intsV ([146873556,58797362]++(ts.map (·.1)).map numOf)=intsV [146873556,58797362]++intsV ((ts.map (·.1)).map numOf) from List.map_append,List.map_map]
   rfl
  rw [el]
  have hNl:(numsOf (ts.map (·.1))).length≤65:=by unfold numsOf;simp;assumption
  generalize numsOf (ts.map (·.1))=Ns at *
  refine ⟨intsV Ns,fun sto=>(D,intsV Ns)∈sto,Src.own hh' (isC_ints _),.head _,fun i st₂=>∃cv,St.Le (rSt Lf D H U T Ra KA (intsV Ns) [] (rowsVV due0) [] (lawSt (Ns.take i)) cv) st₂,?_,?_,?_⟩
  ·refine ⟨[],leA ?_ ⟨rfl,rfl,rfl,rfl,rfl,rfl,trivial⟩⟩
   exact .cons₂ _ (.cons _ (.cons _ (List.Sublist.refl _)))
  ·rintro i v st₂ hv ⟨cv,hle⟩
   have hlt:i <Ns.length:=by have:=(List.getElem?_eq_some_iff.mp hv).1;simpa using this
   have hg:Ns[i]?=some Ns[i]:=List.getElem?_eq_getElem hlt
   have hv':v=.int (Ns[i]:Nat):=by
    rw [List.getElem?_map,hg] at hv
    exact (Option.some.inj hv).symm
   subst hv'
   obtain ⟨a1,a2,a3⟩:=lawSt_len (Ns.take i)
   have a4:=law_holes (Ns.take i)
   have htl:(Ns.take i).length=i:=by rw [List.length_take];lia
   rw [htl] at a1 a2 a4
   have hstep:=lawSt_take Ns i _ hg
   refine ⟨hle.sto.subset (.head _),TA.weak hle ?_⟩
   refine row_step (s:=lawSt (Ns.take i)) (N:=Ns[i]) P hroom hun hh (by lia) (by lia) a3 (by lia) ?_
   intro st₁ cv' hle1
   refine ⟨cv',?_⟩
   rw [hstep]
   exact hle1
  ·rintro st₂ ⟨cv,hle⟩
   refine ⟨hle.sto.subset (.head _),?_⟩
   rw [show (intsV Ns).length=Ns.length from List.length_map _,List.take_of_length_le (Nat.le_refl _)] at hle
   refine EB.weak hle ?_
   refine EB.weak (st':=tSt Lf H U T Ra KA (lawSt Ns).1 (lawSt Ns).2.1 (lawSt Ns).2.2 [] due0 [] cv) ?_ ?_
   ·exact leA (.cons _ (List.Sublist.refl _)) ⟨rfl,rfl,rfl,rfl,rfl,trivial⟩
   ·exact law_tail P hroom hun hh hNl (fun N _=>h1 N) fun N _=>h2 N
end
end
section
section
variable {K:Kx} {A:Around} {Lf:Addr}
theorem EL_str {c:Cx} {st:St} {P:List V→St→Prop} {X:Xc→St→Prop} {x:Str} {k:Nat} {p pos:Pos} {l:List Expr} (h:kEL K c pos l P X (.str x) st) (hs:x.length≤sizeLine:=by decide):EL K c pos (.Constant (.str x) k p::l) st P X:=EL_cons (EV_str h hs) rfl
theorem EL_tup {c:Cx} {st:St} {P:List V→St→Prop} {X:Xc→St→Prop} {k:Nat} {p pos:Pos} {l es:List Expr} (h:EL K c p es st (KTup (kEL K c pos l P X)) X):EL K c pos (.Tuple es k p::l) st P X:=EL_cons (EV_tuple h) rfl
theorem sub_eq {α:Type} {a b:List α} (h:a=b):a.Sublist b:=h▸List.Sublist.refl _
theorem law_ok (P:Pk11 K) (hroom:A.depth+60 <recursionLimit) (hun:A.units+300 <cLine) (hh:A.handled=none) {a:Addr} {o:Obj} {n:Nat} {ts:List (Int×Tok)} (ho:K.B.get? a=some o) (hc:o.cls=.type "list") (hd:o.data=.seq (ts.map fun x=>Value.int x.1 x.2).toArray n) (hlen:ts.length≤63)
 (h1:∀N,LineOk N) (h2:∀N,FillOk N):
 EB K (lawCx K A Lf) (fdB (bod.getD 68 dS)) ⟨[(S_ "script",.ref a)],[(Lf+1,[.mark])]⟩ (fun f _=>f=.ret (.bool true)) (fun _ _=>False):=by
 have hh':(lawCx K A Lf).A.handled=none:=hh
 have hsl:sizeLine=16777216:=sizeLine_eq
 have n1:1≤sizeLine:=by with_reducible (apply qS;symm)
 have n2:2≤sizeLine:=by with_reducible (apply qS;symm)
 have n3:3≤sizeLine:=by with_reducible (apply qS;symm)
 have n6:6≤sizeLine:=by with_reducible (apply qS;symm)
 refine EB_cons ?_
 refine ES_assign ?_
 refine EV_list ?_
 refine EL_tup ?_
 refine EL_str ?_
 refine EL_nil ?_
 refine ⟨n1,?_⟩
 refine EL_tup ?_
 refine EL_str ?_
 refine EL_str ?_
 refine EL_nil ?_
 refine ⟨n2,?_⟩
 refine EL_tup ?_
 refine EL_str ?_
 refine EL_nil ?_
 refine ⟨n1,?_⟩
 refine EL_tup ?_
 refine EL_str ?_
 refine EL_str ?_
 refine EL_nil ?_
 refine ⟨n2,?_⟩
 refine EL_tup ?_
 refine EL_str ?_
 refine EL_str ?_
 refine EL_str ?_
 refine EL_nil ?_
 refine ⟨n3,?_⟩
 refine EL_tup ?_
 refine EL_str ?_
 refine EL_str ?_
 refine EL_nil ?_
 refine ⟨n2,?_⟩
 refine EL_nil ?_
 refine ⟨n6,fun KA hKA=>?_⟩
 have ek:[V.tup [.str (S_ "x")],.tup [.str (S_ "a-1"),.str (S_ "x")],.tup [.str (S_ "}")],.tup [.str (S_ "$ "),.str (S_ "'")],.tup [.str (S_ "a.b"),.str (S_ "\"\\"),.str (S_ "x")],.tup [.str (S_ ""),.str (S_ "=\n")]]=keysV:=by kernel_rfl
 have er:[V.tup [.tup [.str (S_ "x")],.str (S_ "}${")],.tup [.tup [.str (S_ "a-1"),.str (S_ "x")],.str (S_ "'")]]=rowsVV due0:=by kernel_rfl
 have e0:S_ ""=⟨([]:List Nat).toArray⟩:=by decide+kernel
 refine @EB.weak _ _ _ _ ?zs1 _ _ ?zh1 ?_
 case zs1=>exact ⟨[(S_ "keys",.ref KA),(S_ "script",.ref a)],[(KA,keysV),(Lf+1,[.mark])]⟩
 case zh1=>exact leA (sub_eq (congrArg (fun l=>[(KA,l),(Lf+1,[V.mark])]) ek.symm)) ⟨rfl,rfl,trivial⟩
 clear ek
 refine EB_cons ?_
 refine @ES_swap _ _ _ _ _ _ _ _ _ _ ?zw1 ?zv1 ?zu1 ?zt1 ?zr1
 case zw1=>exact [S_ "file",S_ "rows",S_ "told"]
 case zv1=>exact hh'
 case zt1=>kernel_rfl!
 case zr1=>kernel_rfl!
 refine EV_tuple ?_
 refine EL_str ?_
 refine EL_cons ?_
 refine EV_list ?_
 refine EL_tup ?_
 refine EL_tup ?_
 refine EL_str ?_
 refine EL_nil ?_
 refine ⟨n1,?_⟩
 refine EL_str ?_
 refine EL_nil ?_
 refine ⟨n2,?_⟩
 refine EL_tup ?_
 refine EL_tup ?_
 refine EL_str ?_
 refine EL_str ?_
 refine EL_nil ?_
 refine ⟨n2,?_⟩
 refine EL_str ?_
 refine EL_nil ?_
 refine ⟨n2,?_⟩
 refine EL_nil ?_
 refine ⟨n2,fun Ra hRa=>?_⟩
 refine EL_cons ?_
 refine EV_list ?_
 refine EL_nil ?_
 refine ⟨Nat.zero_le _,fun T hT=>?_⟩
 refine EL_nil ?_
 refine ⟨n3,_,rfl,rfl,?_⟩
 refine AS_bind ?_
 refine AS_bind ?_
 refine AS_bind ?_
 refine AS_nil ?_
 refine @EB.weak _ _ _ _ ?zs2 _ _ ?zh2 ?_
 case zs2=>exact ⟨[(S_ "file",.str ⟨([]:List Nat).toArray⟩),(S_ "rows",.ref Ra),(S_ "told",.ref T),(S_ "keys",.ref KA),(S_ "script",.ref a)],[(T,[]),(Ra,rowsVV due0),(KA,keysV),(Lf+1,[.mark])]⟩
 case zh2=>exact leA (sub_eq (congrArg (fun l=>[(T,[]),(Ra,l),(KA,keysV),(Lf+1,[V.mark])]) er.symm)) ⟨congrArg (fun x=>some (V.str x)) e0,rfl,rfl,rfl,rfl,trivial⟩
 clear er
 refine EB_cons ?_
 refine @ES_swap _ _ _ _ _ _ _ _ _ _ ?zw2 ?zv2 ?zu2 ?zt2 ?zr2
 case zw2=>exact [S_ "due",S_ "holes"]
 case zv2=>exact hh'
 case zt2=>kernel_rfl!
 case zr2=>kernel_rfl!
 refine EV_tuple ?_
 refine EL_cons ?_
 refine EV_bin ?_
 refine EV_loc ?_
 refine EV_list ?_
 refine EL_nil ?_
 refine ⟨Nat.zero_le _,fun G hG=>?_⟩
 refine Op_add_list (l:=rowsVV due0) (m:=[]) (.tail _ (.tail _ (.head _))) rfl (.head _) rfl (by decide) fun U hU=>?_
 rw [List.append_nil]
 refine EL_cons ?_
 refine EV_list ?_
 refine EL_nil ?_
 refine ⟨Nat.zero_le _,fun H hH=>?_⟩
 refine EL_nil ?_
 refine ⟨n2,_,rfl,rfl,?_⟩
 refine AS_bind ?_
 refine AS_bind ?_
 refine AS_nil ?_
 refine @EB.weak _ _ _ _ ?zs3 _ _ ?zh3 ?_
 case zs3=>exact ⟨[(S_ "file",.str ⟨([]:List Nat).toArray⟩),(S_ "due",.ref U),(S_ "holes",.ref H),(S_ "rows",.ref Ra),(S_ "told",.ref T),(S_ "keys",.ref KA),(S_ "script",.ref a)],[(H,[]),(U,rowsVV due0),(T,[]),(Ra,rowsVV due0),(KA,keysV),(Lf+1,[.mark])]⟩
 case zh3=>exact leA (.cons₂ _ (.cons₂ _ (.cons _ (List.Sublist.refl _)))) ⟨rfl,rfl,rfl,rfl,rfl,rfl,rfl,trivial⟩
 exact law_for P hroom hun hh ho hc hd hlen h1 h2
end
end
end
section
open PySem PySem.W PySem.Calls PyProof.Rows
set_option maxRecDepth 1000000
section
noncomputable def B05 (w:World) (X:Nat→Sx):Heap:=put (absHeap (tr63 w.params X) 589 {}) 533 ⟨.none,none,.freed,#[]⟩
theorem atB (w:World) (X:Nat→Sx) {a:Addr} {o:Obj} (hn:Nat.beq a 533=false) (h:Nat.blt a 589=true) (g:(tr63 w.params X).get a=some o) (al:alive o=some o):(B05 w X).get? a=some o:=by
 unfold B05
 rw [get_put_ne _ (fun e:533=a=>by rw [←e] at hn;exact absurd hn (by decide))]
 exact abs_at h g al
theorem B05_size (w:World) (X:Nat→Sx):(B05 w X).objs.size=589:=by
 unfold B05
 rw [put_size,absHeap_size]
theorem B05_hid (w:World) (X:Nat→Sx):(B05 w X).get? 533=none:=by
 unfold B05 Heap.get? put Heap.update
 simp only [Array.getElem?_modify,if_true]
 cases (absHeap (tr63 w.params X) 589 {}).objs[533]?<;>rfl
abbrev Over (w:World) (X:Nat→Sx) (B:Heap):Prop:=(∀a o,(B05 w X).get? a=some o→B.get? a=some o)∧sysModules <B.objs.size
theorem atC {w:World} {X:Nat→Sx} {B:Heap} (hB:Over w X B) {a:Addr} {o:Obj} (hn:Nat.beq a 533=false) (h:Nat.blt a 589=true) (g:(tr63 w.params X).get a=some o) (al:alive o=some o):B.get? a=some o:=hB.1 _ _ (atB w X hn h g al)
noncomputable def K05 (w:World) (os:OsState) (B:Heap):Kx:={ prog:=pw,w,C:=316,B,os,tabs:=[(537,533,S_ "suffixed_err.<locals>.coord_repr")]}
noncomputable def gl05 (w:World) {X:Nat→Sx} (os:OsState) (B:Heap) (hB:Over w X B):Gl (K05 w os B) where
 mg:=oMap (u3_62 w.params)
 mb:=oMap (u0 w.params)
 hg:=ns_of (atC hB (by kernel_rfl) (by kernel_rfl) (by kernel_rfl) (by kernel_rfl)) (by kernel_rfl)
 hb:=ns_of (atC hB (by kernel_rfl) (by kernel_rfl) (by kernel_rfl) (by kernel_rfl)) (by kernel_rfl)
 lim:=⟨oMap (u2_6 w.params),ns_of (atC hB (by kernel_rfl) (by kernel_rfl) (by kernel_rfl) (by kernel_rfl)) (by kernel_rfl),by kernel_rfl⟩
 low:=hB.2
noncomputable def oFs (o:Obj):Array Value:=match o.data with | .fields vs=>vs | _=>#[]
noncomputable def tokAt (v:Option Value):Tok:=match v with | some (.str _ t)=>t | some (.int _ t)=>t | _=>0
theorem codeRec_of {h:Heap} {c:Addr} {o:Obj} {cd:Value} {q:Str} (e:cd=.ref c) (g:h.get? c=some o) (d:o.data=.fields (oFs o)) (k:(oFs o)[1]?=some (.str q (tokAt (oFs o)[1]?))):h.CodeRec cd q:=⟨c,o,oFs o,_,e,g,d,k⟩
section
variable (w:World) {X:Nat→Sx} (os:OsState) (B:Heap) (hB:Over w X B)
theorem gN05:GlN (K05 w os B) (gl05 w os B hB) where
 inj:=fun t ht t' ht' _=>(List.mem_singleton.mp ht').trans (List.mem_singleton.mp ht).symm
 head:=fun t ht=>by
  rw [List.mem_singleton.mp ht]
  exact ⟨u537 w.params,oFs (u537 w.params),S_ "/claim/cut.py",2206,3,0,true,482,0,atC hB (by kernel_rfl) (by kernel_rfl) (by kernel_rfl) (by kernel_rfl),by kernel_rfl,by kernel_rfl,by kernel_rfl,by kernel_rfl,by kernel_rfl,by kernel_rfl,by kernel_rfl,by kernel_rfl,by decide⟩
 bmod:=fun t ht=>by
  rw [List.mem_singleton.mp ht]
  exact ⟨4,u4 w.params,by kernel_rfl,by decide,by decide,by decide,atC hB (by kernel_rfl) (by kernel_rfl) (by kernel_rfl) (by kernel_rfl),rfl,rfl,rfl⟩
theorem fi_suffixed_err:FnIn (K05 w os B) (gl05 w os B hB) "suffixed_err" 538 u538:=⟨by kernel_rfl,atC hB (by kernel_rfl) (by kernel_rfl) (by kernel_rfl) (by kernel_rfl),codeRec_of (c:=537) (o:=u537 w.params) (by kernel_rfl) (atC hB (by kernel_rfl) (by kernel_rfl) (by kernel_rfl) (by kernel_rfl)) (by kernel_rfl) (by kernel_rfl)⟩
theorem fi_skip_until:FnIn (K05 w os B) (gl05 w os B hB) "skip_until" 425 u425:=⟨by kernel_rfl,atC hB (by kernel_rfl) (by kernel_rfl) (by kernel_rfl) (by kernel_rfl),codeRec_of (c:=424) (o:=u424 w.params) (by kernel_rfl) (atC hB (by kernel_rfl) (by kernel_rfl) (by kernel_rfl) (by kernel_rfl)) (by kernel_rfl) (by kernel_rfl)⟩
theorem fi_skip_chars:FnIn (K05 w os B) (gl05 w os B hB) "skip_chars" 418 u418:=⟨by kernel_rfl,atC hB (by kernel_rfl) (by kernel_rfl) (by kernel_rfl) (by kernel_rfl),codeRec_of (c:=417) (o:=u417 w.params) (by kernel_rfl) (atC hB (by kernel_rfl) (by kernel_rfl) (by kernel_rfl) (by kernel_rfl)) (by kernel_rfl) (by kernel_rfl)⟩
theorem fi_parse_literal_str:FnIn (K05 w os B) (gl05 w os B hB) "parse_literal_str" 510 u510:=⟨by kernel_rfl,atC hB (by kernel_rfl) (by kernel_rfl) (by kernel_rfl) (by kernel_rfl),codeRec_of (c:=509) (o:=u509 w.params) (by kernel_rfl) (atC hB (by kernel_rfl) (by kernel_rfl) (by kernel_rfl) (by kernel_rfl)) (by kernel_rfl) (by kernel_rfl)⟩
theorem fi_is_unicode_scalar_value:FnIn (K05 w os B) (gl05 w os B hB) "is_unicode_scalar_value" 545 u545:=⟨by kernel_rfl,atC hB (by kernel_rfl) (by kernel_rfl) (by kernel_rfl) (by kernel_rfl),codeRec_of (c:=544) (o:=u544 w.params) (by kernel_rfl) (atC hB (by kernel_rfl) (by kernel_rfl) (by kernel_rfl) (by kernel_rfl)) (by kernel_rfl) (by kernel_rfl)⟩
theorem fi_parse_hex_char:FnIn (K05 w os B) (gl05 w os B hB) "parse_hex_char" 503 u503:=⟨by kernel_rfl,atC hB (by kernel_rfl) (by kernel_rfl) (by kernel_rfl) (by kernel_rfl),codeRec_of (c:=502) (o:=u502 w.params) (by kernel_rfl) (atC hB (by kernel_rfl) (by kernel_rfl) (by kernel_rfl) (by kernel_rfl)) (by kernel_rfl) (by kernel_rfl)⟩
theorem fi_parse_basic_str_escape:FnIn (K05 w os B) (gl05 w os B hB) "parse_basic_str_escape" 489 u489:=⟨by kernel_rfl,atC hB (by kernel_rfl) (by kernel_rfl) (by kernel_rfl) (by kernel_rfl),codeRec_of (c:=488) (o:=u488 w.params) (by kernel_rfl) (atC hB (by kernel_rfl) (by kernel_rfl) (by kernel_rfl) (by kernel_rfl)) (by kernel_rfl) (by kernel_rfl)⟩
theorem fi_parse_basic_str:FnIn (K05 w os B) (gl05 w os B hB) "parse_basic_str" 524 u524:=⟨by kernel_rfl,atC hB (by kernel_rfl) (by kernel_rfl) (by kernel_rfl) (by kernel_rfl),codeRec_of (c:=523) (o:=u523 w.params) (by kernel_rfl) (atC hB (by kernel_rfl) (by kernel_rfl) (by kernel_rfl) (by kernel_rfl)) (by kernel_rfl) (by kernel_rfl)⟩
theorem fi_parse_one_line_basic_str:FnIn (K05 w os B) (gl05 w os B hB) "parse_one_line_basic_str" 467 u467:=⟨by kernel_rfl,atC hB (by kernel_rfl) (by kernel_rfl) (by kernel_rfl) (by kernel_rfl),codeRec_of (c:=466) (o:=u466 w.params) (by kernel_rfl) (atC hB (by kernel_rfl) (by kernel_rfl) (by kernel_rfl) (by kernel_rfl)) (by kernel_rfl) (by kernel_rfl)⟩
theorem fi_parse_key_part:FnIn (K05 w os B) (gl05 w os B hB) "parse_key_part" 460 u460:=⟨by kernel_rfl,atC hB (by kernel_rfl) (by kernel_rfl) (by kernel_rfl) (by kernel_rfl),codeRec_of (c:=459) (o:=u459 w.params) (by kernel_rfl) (atC hB (by kernel_rfl) (by kernel_rfl) (by kernel_rfl) (by kernel_rfl)) (by kernel_rfl) (by kernel_rfl)⟩
theorem fi_parse_key:FnIn (K05 w os B) (gl05 w os B hB) "parse_key" 453 u453:=⟨by kernel_rfl,atC hB (by kernel_rfl) (by kernel_rfl) (by kernel_rfl) (by kernel_rfl),codeRec_of (c:=452) (o:=u452 w.params) (by kernel_rfl) (atC hB (by kernel_rfl) (by kernel_rfl) (by kernel_rfl) (by kernel_rfl)) (by kernel_rfl) (by kernel_rfl)⟩
theorem fi_parse_value:FnIn (K05 w os B) (gl05 w os B hB) "parse_value" 531 u531:=⟨by kernel_rfl,atC hB (by kernel_rfl) (by kernel_rfl) (by kernel_rfl) (by kernel_rfl),codeRec_of (c:=530) (o:=u530 w.params) (by kernel_rfl) (atC hB (by kernel_rfl) (by kernel_rfl) (by kernel_rfl) (by kernel_rfl)) (by kernel_rfl) (by kernel_rfl)⟩
theorem fi_parse_key_value_pair:FnIn (K05 w os B) (gl05 w os B hB) "parse_key_value_pair" 446 u446:=⟨by kernel_rfl,atC hB (by kernel_rfl) (by kernel_rfl) (by kernel_rfl) (by kernel_rfl),codeRec_of (c:=445) (o:=u445 w.params) (by kernel_rfl) (atC hB (by kernel_rfl) (by kernel_rfl) (by kernel_rfl) (by kernel_rfl)) (by kernel_rfl) (by kernel_rfl)⟩
theorem fi_law_quoted:FnIn (K05 w os B) (gl05 w os B hB) "_law_quoted" 552 u552:=⟨by kernel_rfl,atC hB (by kernel_rfl) (by kernel_rfl) (by kernel_rfl) (by kernel_rfl),codeRec_of (c:=551) (o:=u551 w.params) (by kernel_rfl) (atC hB (by kernel_rfl) (by kernel_rfl) (by kernel_rfl) (by kernel_rfl)) (by kernel_rfl) (by kernel_rfl)⟩
theorem fi_law_text:FnIn (K05 w os B) (gl05 w os B hB) "_law_text" 557 u557:=⟨by kernel_rfl,atC hB (by kernel_rfl) (by kernel_rfl) (by kernel_rfl) (by kernel_rfl),codeRec_of (c:=556) (o:=u556 w.params) (by kernel_rfl) (atC hB (by kernel_rfl) (by kernel_rfl) (by kernel_rfl) (by kernel_rfl)) (by kernel_rfl) (by kernel_rfl)⟩
theorem fi_law_key:FnIn (K05 w os B) (gl05 w os B hB) "_law_key" 564 u564:=⟨by kernel_rfl,atC hB (by kernel_rfl) (by kernel_rfl) (by kernel_rfl) (by kernel_rfl),codeRec_of (c:=563) (o:=u563 w.params) (by kernel_rfl) (atC hB (by kernel_rfl) (by kernel_rfl) (by kernel_rfl) (by kernel_rfl)) (by kernel_rfl) (by kernel_rfl)⟩
theorem fi_law_at:FnIn (K05 w os B) (gl05 w os B hB) "_law_at" 571 u571:=⟨by kernel_rfl,atC hB (by kernel_rfl) (by kernel_rfl) (by kernel_rfl) (by kernel_rfl),codeRec_of (c:=570) (o:=u570 w.params) (by kernel_rfl) (atC hB (by kernel_rfl) (by kernel_rfl) (by kernel_rfl) (by kernel_rfl)) (by kernel_rfl) (by kernel_rfl)⟩
theorem fi_law_piece:FnIn (K05 w os B) (gl05 w os B hB) "_law_piece" 578 u578:=⟨by kernel_rfl,atC hB (by kernel_rfl) (by kernel_rfl) (by kernel_rfl) (by kernel_rfl),codeRec_of (c:=577) (o:=u577 w.params) (by kernel_rfl) (atC hB (by kernel_rfl) (by kernel_rfl) (by kernel_rfl) (by kernel_rfl)) (by kernel_rfl) (by kernel_rfl)⟩
theorem fi_law_filled:FnIn (K05 w os B) (gl05 w os B hB) "_law_filled" 583 u583:=⟨by kernel_rfl,atC hB (by kernel_rfl) (by kernel_rfl) (by kernel_rfl) (by kernel_rfl),codeRec_of (c:=582) (o:=u582 w.params) (by kernel_rfl) (atC hB (by kernel_rfl) (by kernel_rfl) (by kernel_rfl) (by kernel_rfl)) (by kernel_rfl) (by kernel_rfl)⟩
theorem fi_law:FnIn (K05 w os B) (gl05 w os B hB) "law" 588 u588:=⟨by kernel_rfl,atC hB (by kernel_rfl) (by kernel_rfl) (by kernel_rfl) (by kernel_rfl),codeRec_of (c:=587) (o:=u587 w.params) (by kernel_rfl) (atC hB (by kernel_rfl) (by kernel_rfl) (by kernel_rfl) (by kernel_rfl)) (by kernel_rfl) (by kernel_rfl)⟩
theorem bi_len:BltIn (K05 w os B) (gl05 w os B hB) "len" (.builtin "len"):=⟨by kernel_rfl,by kernel_rfl⟩
theorem bi_IndexError:BltIn (K05 w os B) (gl05 w os B hB) "IndexError" (.type "IndexError"):=⟨by kernel_rfl,by kernel_rfl⟩
theorem bi_ValueError:BltIn (K05 w os B) (gl05 w os B hB) "ValueError" (.type "ValueError"):=⟨by kernel_rfl,by kernel_rfl⟩
theorem bi_int:BltIn (K05 w os B) (gl05 w os B hB) "int" (.type "int"):=⟨by kernel_rfl,by kernel_rfl⟩
theorem bi_chr:BltIn (K05 w os B) (gl05 w os B hB) "chr" (.builtin "chr"):=⟨by kernel_rfl,by kernel_rfl⟩
theorem bi_KeyError:BltIn (K05 w os B) (gl05 w os B hB) "KeyError" (.type "KeyError"):=⟨by kernel_rfl,by kernel_rfl⟩
theorem bi_ord:BltIn (K05 w os B) (gl05 w os B hB) "ord" (.builtin "ord"):=⟨by kernel_rfl,by kernel_rfl⟩
theorem setE_of {n:String} {a:Addr} {v:Sx} {l:List Nat} {k:Nat} {E:Nat→Bool} (hv:IsFz pw w (fz v) (chars l) k) (mg:(gl05 w os B hB).mg (S_ n)=some (.ref a)) (g:(tr63 w.params X).get a=some (fz v)) (hn:Nat.beq a 533=false) (hl:Nat.blt a 589=true) (hk:Nat.blt k 4096=true)
 (h1:l.all (fun d=>Nat.blt d 128)=true) (h2:∀ch,128≤ch→E ch=false) (h3:((List.range 128).all fun ch=>l.contains ch==E ch)=true):SetE (K05 w os B) (gl05 w os B hB) n E:=by
 refine ⟨a,k,chars l,mg,hv.froz (atC hB hn hl g rfl),Nat.blt_eq.mp hk,fun ch=>?_⟩
 have e:chars l ⟨#[ch]⟩=l.contains ch:=by
  rw [Bool.eq_iff_iff,List.contains_iff_mem]
  simp only [chars,List.any_eq_true,decide_eq_true_eq]
  constructor
  ·rintro ⟨d,hd,e⟩
   injection e with e
   have:#[ch].toList=#[d].toList:=by rw [e]
   have:ch=d:=by simpa using this
   subst this;exact hd
  ·intro h;exact ⟨ch,h,rfl⟩
 rw [e]
 by_cases hc:ch <128
 ·have:=List.all_eq_true.mp h3 ch (List.mem_range.mpr hc)
  exact beq_iff_eq.mp this
 ·rw [h2 ch (by refine' Nat.le_of_not_lt ‹_›)]
  cases hm:l.contains ch with
  | false=>rfl
  | true=>
    have:=List.all_eq_true.mp h1 ch (List.contains_iff_mem.mp hm)
    exact absurd (Nat.blt_eq.mp this) hc
include hB in
theorem ownC05:OwnC (K05 w os B) [.type "ValueError",.type "Exception",.type "BaseException",.type "object"] "ValueError.__new__" (oMap (u315 w.params)):=
 .mk (nm:=S_ "TOMLDecodeError") (q:=S_ "TOMLDecodeError") (N:=315) (bs:=[.type "ValueError"]) (hdct:=true) (sn:=[]) (sub:=[]) (ab:=false) (col:=none) (dd:=none) (k0:=some (vR 307)) (k1:=none) (k2:=some (vS "TOMLDecodeError" 1855)) (k3:=some (vS "TOMLDecodeError" 1863)) (k5:=some (.bool true))
  (show B.get? 316=_ from (atC hB (by kernel_rfl) (by kernel_rfl) (by kernel_rfl) (by kernel_rfl):B.get? 316=some (u316 w.params)).trans (by kernel_rfl)) (ns_of (atC hB (by kernel_rfl) (by kernel_rfl) (by kernel_rfl) (by kernel_rfl)) (by kernel_rfl))
include hB in
theorem own05:Own (K05 w os B) "ValueError" [.type "ValueError",.type "Exception",.type "BaseException",.type "object"]:=⟨F.excBase_ValueError,ownC05 w os B hB,by kernel_rfl⟩
abbrev EscR:=String×Tok×Nat×Tok
noncomputable abbrev escE (w:World) (E:List EscR):List DictEntry:=E.map fun x=>es w.params x.1 x.2.1 (.str ⟨#[x.2.2.1]⟩ x.2.2.2)
theorem esc_find (w:World) (l:List Nat):∀E:List EscR,(match (E.map fun x=>(L (S_ x.1),x.2.2.1)).lookup l with
 | some d=>∃t,findBy (strKind pw w).is (escE w E).toArray ⟨l.toArray⟩=some (.str ⟨#[d]⟩ t)
 | none=>findBy (strKind pw w).is (escE w E).toArray ⟨l.toArray⟩=none)
 | []=>rfl
 | x::E=>by
   have hk:(strKind pw w).is ⟨l.toArray⟩ (es w.params x.1 x.2.1 (.str ⟨#[x.2.2.1]⟩ x.2.2.2)).key=(l==L (S_ x.1)):=by
    show (S_ x.1==(⟨l.toArray⟩:Str))=_
    rw [Bool.eq_iff_iff,beq_iff_eq,beq_iff_eq]
    exact ⟨fun e=>by rw [e],fun e=>by rw [e]⟩
   have ih:=esc_find w l E
   simp only [findBy,List.find?_toArray] at ih ⊢
   rw [escE,List.map_cons,List.map_cons,List.find?_cons,hk,List.lookup_cons]
   cases l==L (S_ x.1) with
   | true=>exact ⟨_,rfl⟩
   | false=>exact ih
noncomputable def escR:List EscR:=[("\\b",1833,8,1834),("\\t",1835,9,1836),("\\n",1837,10,1838),("\\f",1839,12,1840),("\\r",1841,13,1842),("\\\"",1843,34,1844),("\\\\",1845,92,1846)]
include hB in
theorem proxyD05:∃f,(K05 w os B).B.MapOf (strKind pw w) 305 f∧∀l,match escTab l with | some d=>∃t,f ⟨l.toArray⟩=some (.str ⟨#[d]⟩ t) | none=>f ⟨l.toArray⟩=none:=by
 refine ⟨_,⟨u305 w.params,(escE w escR).toArray,7,atC hB (by kernel_rfl) (by kernel_rfl) (by kernel_rfl) (by kernel_rfl),⟨rfl,rfl,rfl⟩,by kernel_rfl,fun e he=>?_,fun _=>rfl⟩,fun l=>?_⟩
 ·obtain ⟨x,hx,rfl⟩:=List.mem_map.mp (List.mem_toArray.mp he)
  have h:(S_ x.1).cps.isEmpty=false:=beq_iff_eq.mp (List.all_eq_true.mp (show (escR.all fun x=>(S_ x.1).cps.isEmpty==false)=true from by kernel_rfl) x hx)
  refine ⟨S_ x.1,beq_self_eq_true (S_ x.1),?_⟩
  show PyData.keyHash w.params (S_ x.1)=hashStr w (S_ x.1)
  unfold hashStr
  first | rfl | (rw [h];simp [PyData.keyHash,h]) | simp [PyData.keyHash,h]
 ·have h:=esc_find w l escR
  rw [show (escR.map fun x=>(L (S_ x.1),x.2.2.1))=escL from by kernel_rfl] at h
  exact h
include hB in
theorem escO05:(K05 w os B).B.get? 482=some (u482 w.params):=atC hB (by kernel_rfl) (by kernel_rfl) (by kernel_rfl) (by kernel_rfl)
theorem illB_hi:∀ch,128≤ch→illB ch=false:=fun ch h=>by simp [illB];lia
theorem wsB_hi:∀ch,128≤ch→wsB ch=false:=fun ch h=>by simp [wsB];lia
theorem bareB_hi:∀ch,128≤ch→bareB ch=false:=fun ch h=>by simp [bareB];lia
theorem hexB_hi:∀ch,128≤ch→hexB ch=false:=fun ch h=>by simp [hexB];lia
end
end
noncomputable abbrev lw:OpenLaw:=PySem.Challenge.rw_kq0034_05
noncomputable abbrev lrow:OpenRow:=lw.row
theorem layInts {R:WRecords} {cl:Str→Option Addr} {P:Params} {ord:List DictEntry→List DictEntry}:∀(is:List Int) (s:Shared),∃ts:List (Int×Tok),ts.map (·.1)=is∧layAllW R cl P ord (is.map .int) s=some (ts.map fun x=>.int x.1 x.2,{ s with toks:=s.toks+is.length})
 | [],s=>⟨[],rfl,rfl⟩
 | i::is,s=>by
   obtain ⟨ts,h1,h2⟩:=layInts (R:=R) (cl:=cl) (P:=P) (ord:=ord) is { s with toks:=s.toks+1}
   refine ⟨(i,s.toks)::ts,by rw [List.map_cons,h1],?_⟩
   dsimp only at h2
   simp only [List.map_cons,layAllW,layW,h2,List.length_cons]
   rw [show s.toks+1+is.length=s.toks+(is.length+1) by lia]
theorem has_int' {R:WRecords} {x:WData} (h:WShape.has R x .int=true):∃i,x=.int i:=by
 cases x with
 | int i=>exact ⟨i,rfl⟩
 | _=>exact Bool.noConfusion (show false=true from h)
theorem has_ints' {R:WRecords}:∀{xs:List WData},WShape.hasItems R xs .int=true→∃is:List Int,xs=is.map .int
 | [],_=>⟨[],rfl⟩
 | x::xs,h=>by
   unfold WShape.hasItems at h
   obtain ⟨h1,h2⟩:=Bool.and_eq_true_iff.mp h
   obtain ⟨is,e⟩:=has_ints' h2
   obtain ⟨i,rfl⟩:=has_int' h1
   exact ⟨i::is,by rw [e];rfl⟩
theorem has_list' {R:WRecords} {x:WData} (h:WShape.has R x (.list .int)=true):∃is:List Int,x=.list (is.map .int):=by
 cases x with
 | list xs=>
   obtain ⟨is,e⟩:=has_ints' ((Bool.or_false _).symm.trans (show (WShape.hasItems R xs .int||false)=true from h))
   exact ⟨is,congrArg _ e⟩
 | _=>exact Bool.noConfusion (show false=true from h)
theorem args_of {args:List WData} (h:lrow.claim.pre args=true):∃is:List Int,args=[.list (is.map .int)]∧is.length≤63:=by
 obtain ⟨h1,h2⟩:=Bool.and_eq_true_iff.mp (show (WShape.hasAll [] args [.list .int]&&lw.pre.holds [] { args:=args})=true from h)
 match args,h1,h2 with
 | [],h1,_=>exact Bool.noConfusion (show false=true from h1)
 | [x],h1,h2=>
   obtain ⟨is,rfl⟩:=has_list' (Bool.and_eq_true_iff.mp (show (WShape.has [] x (.list .int)&&true)=true from h1)).1
   refine ⟨is,rfl,?_⟩
   have h2:WTm.holds [] (.and (.not (.lt (.lit (.int 63)) (.len (.arg 0)))) (.lit (.bool true))) { args:=[.list (is.map .int)]}=true:=h2
   simp only [WTm.holds,WTm.value,List.getElem?_cons_zero,List.length_map] at h2
   by_cases hc:is.length≤63
   ·exact hc
   ·have:decide ((63:Int) <(is.length:Int))=true:=by rw [decide_eq_true_eq];lia
    have e2:less? (WData.int 63) (WData.int is.length)=some (decide ((63:Int) <(is.length:Int))):=rfl
    rw [e2,this] at h2
    cases h2
 | x::y::r,h1,_=>exact absurd (show (WShape.has [] x (.list .int)&&false)=true from h1) (by rw [Bool.and_false];exact Bool.false_ne_true)
noncomputable def Bc (h:Heap):Heap:=put h 533 ⟨.none,none,.freed,#[]⟩
theorem Bc_get {h:Heap} {b:Addr} {o:Obj} (hb:b≠533):(Bc h).get? b=h.get? b:=get_put_ne _ (Ne.symm hb)
theorem Bc_hid (h:Heap):(Bc h).get? 533=none:=by
 unfold Bc Heap.get? put Heap.update
 simp only [Array.getElem?_modify,if_true]
 cases h.objs[533]?<;>rfl
theorem Bc_stays (h:Heap):(Bc h).StaysIn h:=fun b o e=>by
 by_cases hb:b=533
 ·subst hb;rw [Bc_hid] at e;cases e
 ·rw [Bc_get (o:=o) hb] at e;exact e
noncomputable abbrev listO (ts:List (Int×Tok)):Obj:={ cls:=.type "list",data:=.seq (ts.map fun x=>Value.int x.1 x.2).toArray}
abbrev kTrue:Fl→St→Prop:=fun f _=>f=.ret (.bool true)
structure CallOk:Prop where
 ok:∀(w:World) (X:Nat→Sx) (os:OsState) (B:Heap),Over w X B→SetsF w X→∀(a:Addr) (ts:List (Int×Tok)),ts.length≤63→B.get? a=some (listO ts)→
 ∀L,EB (K05 w os B) ⟨callerA.deeper (callEnvC (fdOf (u588 w.params)) L 588),true,callEnvC (fdOf (u588 w.params)) L 588,callEnvC (fdOf (u588 w.params)) L 588,[],L⟩ (fdB (bod.getD 68 dS)) ⟨[(S_ "script",.ref a)],cellSto (fdOf (u588 w.params)) L⟩ kTrue NoX
theorem readInts {R:WRecords} {cl:Str→Option Addr} {h:Heap}:∀(ts:List (Int×Tok)),ReadsAllW R cl h (ts.map fun x=>Value.int x.1 x.2) ((ts.map (·.1)).map .int) []
 | []=>.nil
 | x::ts=>.cons (.int x.1 x.2) (readInts ts)
noncomputable abbrev theTree (vs:List Value):Sem Fin:=do
 match ←nsGet mainNs lrow.name with
 | some f=>do ret (←call f vs)
 | none=>unsupported "claim.caller:no-such-global"
theorem call_one {K:Kx} {s:Shared} {v:V} {u:Value} {x:Str} {a:Addr} {o:Obj} {fd:FuncData} {body:List Stmt} (G:Gl K) (r:Root K s) (hsz:K.B.objs.size≤s.heap.objs.size) (i:Is s.heap v u) (ho:K.B.get? a=some o) (hd:o.data=.func fd) (hcd:K.B.CodeRec fd.code fd.qualname)
 (hbody:fd.body=.stmts body) (hroom:callerA.depth <recursionLimit) (hbind:BindsTo s fd ⟨[u],[]⟩ [(x,u)]) (hclo:fd.closure=[]) (hloc:((fd.scope.names.lookup x==some .local)&&true)=true)
 (hgl:fd.globals=mainGlobals) (hbl:fd.builtins=builtinsNs)
 (h:∀L,EB K ⟨callerA.deeper (callEnvC fd L a),true,callEnvC fd L a,callEnvC fd L a,[],L⟩ body ⟨[(x,v)],cellSto fd L⟩ kTrue NoX)
 (hco:fd.scope.isCoroutine=false) (hgen:fd.scope.isGenerator=false) (hkd:fd.scope.kind=.function):
 wpAny K.M callerA (PySem.call (.ref a) [u] []) (QR K fun v=>v=.bool true) (fun _ _=>False) s:=
 call_root (Q:=fun v=>v=.bool true) (binds:=[(x,v)]) G r hsz ho hd hcd hbody hroom ⟨[(x,u)],hbind,rfl,.cons i .nil⟩ hclo hloc hgl hbl
  (fun L=>TS.mono (h L) (fun f st e=>by subst e;exact (rfl:V.bool true=V.bool true)) fun _ _ e=>e) hco hgen hkd
theorem post_ok (args ds:List WData):lrow.claim.post args (.bool true) ds=true:=by kernel_rfl
theorem len_of {ts:List (Int×Tok)} {is:List Int} (h:ts.map (·.1)=is) (hl:is.length≤63):ts.length≤63:=by
 subst h
 rw [List.length_map] at hl
 exact hl
theorem B9 {h:Heap} {o:Obj} (e:h.get? 589=some o):(Bc h).get? 589=some o:=by
 rw [Bc_get (o:=o) (by decide)];exact e
theorem spec05 (H:CallOk) (w:World) (X:Nat→Sx) (hF:SetsF w X) (s:Shared) (hs:s.heap=(absHeap (tr63 w.params X) 589 {})) (args:List WData) (hpre:lrow.claim.pre args=true) (ord:List DictEntry→List DictEntry) {kept:Heap→Prop} (hk:∀h,kept h):
 ∃vs s₁,layAllW lrow.claim.records (classAt s.heap) w.params ord args s=some (vs,s₁)∧
  wpAny (model pw w) callerA (theTree vs) (fun fin s'=>∃f,fin=.done f∧(lrow.claim.Ends s args vs s₁ (.ok f) s'∧s'.os=s.os∧s'.gens=#[]∧kept s'.heap))
   (fun e s'=>lrow.claim.Ends s args vs s₁ (.error e) s'∧s'.os=s.os∧s'.gens=#[]∧kept s'.heap) { s₁ with gens:=#[]}:=by
 obtain ⟨is,rfl,hlen⟩:=args_of hpre
 obtain ⟨ts,hts,hlay⟩:=layInts (R:=lrow.claim.records) (cl:=classAt s.heap) (P:=w.params) (ord:=ord) is s
 have hsz:s.heap.objs.size=589:=by rw [hs,absHeap_size]
 refine ⟨[.ref 589],{ s with toks:=s.toks+is.length,heap:=s.heap.push (listO ts)},?_,?_⟩
 ·simp only [layAllW,layW,hlay,hsz]
 ·have hh:∀{a:Addr} {o:Obj},Nat.blt a 589=true→(tr63 w.params X).get a=some o→alive o=some o→(s.heap.push (listO ts)).get? a=some o:=fun h g al=>Heap.get?_push_of_some _ (by rw [hs];exact abs_at h g al)
  have hl:(s.heap.push (listO ts)).get? 589=some (listO ts):=by rw [←hsz];exact Heap.get?_push_size _ rfl
  have hps:(s.heap.push (listO ts)).objs.size=590:=by
   show (s.heap.objs.push _).size=_
   rw [Array.size_push,hsz]
  have hO:Over w X (Bc (s.heap.push (listO ts))):=by
   refine ⟨fun a o e=>?_,?_⟩
   ·have:Bc (s.heap.push (listO ts))=(B05 w X).push (listO ts):=by
     unfold Bc B05
     rw [push_put (by rw [hsz];decide),hs]
    rw [this]
    exact Heap.get?_push_of_some _ e
   ·unfold Bc
    rw [put_size,hps];decide
  have G:=gl05 w s.os _ hO
  have R0:Root (K05 w s.os (Bc (s.heap.push (listO ts)))) { heap:=s.heap.push (listO ts),gens:=#[],drawn:=s.drawn,toks:=s.toks+is.length,os:=s.os}:=by
   refine ⟨Bc_stays _,rfl,rfl,fun t ht=>?_⟩
   rw [List.mem_singleton.mp ht]
   refine .mk (ps:=#[]) (Bc_hid _) ?_ ?_ trivial fun pos v q=>by cases q
   ·show 533 <(Bc _).objs.size
    unfold Bc
    rw [put_size,hps];decide
   ·exact (hh (by kernel_rfl) (by kernel_rfl) (by kernel_rfl):(s.heap.push (listO ts)).get? 533=some (u533 w.params)).trans (by kernel_rfl)
  have F:=fi_law w s.os _ hO
  have hlt:ts.length≤63:=len_of hts hlen
  have hB9:(Bc (s.heap.push (listO ts))).get? 589=some (listO ts):=B9 hl
  have hcall:=@CallOk.ok H w X s.os (Bc (s.heap.push (listO ts))) hO hF (589:Nat) ts hlt hB9
  have cr:=call_one (K:=K05 w s.os (Bc (s.heap.push (listO ts)))) (v:=.ref 589) (u:=.ref 589) (fd:=fdOf (u588 w.params)) (body:=fdB (bod.getD 68 dS)) (x:=S_ "script") (a:=588) G R0 (by
   show (Bc _).objs.size≤_
   unfold Bc
   rw [put_size]
   exact Nat.le_refl _) (.ref _) F.ob (by kernel_rfl) F.cd (by kernel_rfl) (by decide) (.of_eq (by kernel_rfl!)) (by kernel_rfl) (by kernel_rfl) (by kernel_rfl) (by kernel_rfl) @hcall (by kernel_rfl) (by kernel_rfl) (by kernel_rfl)
  have hg:(s.heap.push (listO ts)).Ns mainGlobals (oMap (u3_62 w.params)):=ns_of (hh (by kernel_rfl) (by kernel_rfl) (by kernel_rfl)) (by kernel_rfl)
  have hf:oMap (u3_62 w.params) lrow.name=some (.ref 588):=by kernel_rfl
  refine wpAny_bind (wpAny_nsGet hg (by
   rw [hf]
   refine wpAny_bind (wpAny_mono cr (fun v s' ⟨f,i,q,rt⟩=>wpAny_pure ?_) fun _ _ e=>e.elim)
   subst q
   obtain rfl:=i.inv
   have old:∀b o,(s.heap.push (listO ts)).get? b=some o→asItWas (s.heap.push (listO ts)) s'.heap b o:=fun b o e=>by
    by_cases hb:b=533
    ·subst hb
     have e1:(s.heap.push (listO ts)).get? 533=some (u533 w.params):=hh (by kernel_rfl) (by kernel_rfl) (by kernel_rfl)
     rw [e] at e1
     cases e1
     obtain @⟨ps,_,_,g,_⟩:=rt.tabs (537,533,S_ "suffixed_err.<locals>.coord_repr") (List.mem_singleton.mpr rfl)
     refine .inr (.inl ⟨⟨537,u537 w.params,oFs (u537 w.params),hh (by kernel_rfl) (by kernel_rfl) (by kernel_rfl),by kernel_rfl,by kernel_rfl,by kernel_rfl⟩,by kernel_rfl,#[],ps,by kernel_rfl,g.trans ?_⟩)
     have e2:(#[]++ps:Array Value)=ps:=by simp
     rw [e2]
     rfl
    ·exact .inl (rt.base b o ((Bc_get (o:=o) hb).trans e))
   have rd:ReadsAllW lrow.claim.records (classAt s.heap) s'.heap [.ref 589] [.list (is.map .int)] ([589]++[]):=by
    refine .cons (.list (rt.base _ _ ((Bc_get (o:=listO ts) (by decide)).trans hl)) rfl rfl ?_) .nil
    have:=readInts (R:=lrow.claim.records) (cl:=classAt s.heap) (h:=s'.heap) ts
    rw [hts] at this
    exact this
   obtain ⟨_,hu,ha,hap,_⟩:=frees_parts (r:=lrow.toRowW) (by decide)
   refine ⟨_,rfl,.inl ⟨.bool true,rfl,fun cls=>rfl,⟨.bool true,_,[],_,.bool true,rd,post_ok _ _,fun _=>⟨List.nodup_nil,fun a h=>(nomatch h),fun a h=>(nomatch h)⟩,fun as₀ _=>ident_freeW hu ha hap _ _⟩,fun i hi=>(nomatch hi),fun b o e _ _=>old b o e,fun i hi=>(nomatch hi)⟩,rt.os,rt.gens,hk _⟩))
theorem wit05:lrow.toRowW.promised:=⟨[.list []],by decide+kernel,by decide+kernel⟩
theorem opens05:opensWell lrow.claim.prog=true:=by decide+kernel
theorem bare05:lrow.claim.prog.bare:=⟨rfl,rfl,rfl,rfl,rfl,by decide+kernel⟩
theorem defs05 (w:World) (X:Nat→Sx) {s:Shared} (hs:s.heap=absHeap (tr63 w.params X) 589 {}):isTheDefsW pw s.heap (S_ "law"):=by
 have g1:s.heap.get? mainGlobals=some (u3_62 w.params):=by rw [hs];exact abs_at (by kernel_rfl) (by kernel_rfl) (by kernel_rfl)
 have gl:globalOf s.heap (S_ "law")=some (.ref 588):=(Pin.globalOf_eq (main1 g1) _).trans (by rw [nsMap_of g1];kernel_rfl)
 have go:s.heap.get? 588=some (u588 w.params):=by rw [hs];exact abs_at (by kernel_rfl) (by kernel_rfl) (by kernel_rfl)
 exact ⟨588,u588 w.params,fdOf (u588 w.params),fdA (bod.getD 68 dS),fdB (bod.getD 68 dS),fdS (bod.getD 68 dS),gl,go,by kernel_rfl,by kernel_rfl,by kernel_rfl,by kernel_rfl,by kernel_rfl,by kernel_rfl,by kernel_rfl,by kernel_rfl,by kernel_rfl,by kernel_rfl,
  .inl ⟨by kernel_rfl,by kernel_rfl⟩,[],by kernel_rfl,.inl ⟨rfl,by kernel_rfl⟩⟩
theorem gg05 {s:Shared} (hg:s.gens=#[.finished]):leftWithCleanup s.gens=false:=by rw [hg];simp [leftWithCleanup]
theorem prog05:lrow.claim.prog=pw:=by kernel_rfl
theorem from05 (H:CallOk) (w:World) (X:Nat→Sx) (hF:SetsF w X) {s:Shared} (hs:s.heap=absHeap (tr63 w.params X) 589 {}) (hg:s.gens=#[.finished]) (hz:s.asleep) {free:Addr→Prop} {gens:Prop} {kept:Heap→Prop} (hk:∀h,kept h):
 lrow.claim.CallFrom (fun vs=>⟨theTree vs,.builtin "claim.caller" {},default,[]⟩) w free gens kept s:=
 by
  refine @ClaimW.callFrom_of_specN lrow.claim theTree w s free gens kept hz (gg05 hg) ?_
  intro args hpre _ ord _
  have z:=@spec05 H w X hF s hs args hpre ord kept hk
  rw [←prog05] at z
  exact z
theorem ran2 (w:World):(∃s,AfterRun (opening pw) w s)∧∀s,AfterRun (opening pw) w s→∃s₀,fenceModules? pw s=some s₀∧s₀.gens=#[]∧∃X s₁,SetsF w X∧s₁.heap=absHeap (tr63 w.params X) 589 {}∧s₁.gens=#[.finished]∧TopRan pw w s₀ s₁∧s₁.asleep:=by
 refine ⟨(ran w).1,fun s hs=>?_⟩
 obtain ⟨s₀,h1,h2,X,hF,hT,hz⟩:=(ran w).2 s hs
 exact ⟨s₀,h1,h2,X,sh1 w X s₀.os,hF,sh1_heap w X s₀.os,by kernel_rfl,hT,hz⟩
theorem row05 (H:CallOk) (said:lrow.wellSaid=true):lrow.Holds:=by
 refine ⟨said,wit05,⟨bare05,opens05,rfl⟩,RowW.promised.witness wit05,fun w=>⟨(ran2 w).1,fun s hs=>?_⟩⟩
 obtain ⟨s₀,h1,h2,X,s₁,hF,e1,e2,hT,hz⟩:=(ran2 w).2 s hs
 refine ⟨s₀,h1,h2,s₁,hT,fun n hn=>?_,fun x hx=>(nomatch hx),fun x hx=>(nomatch hx),?_⟩
 ·have:n=S_ "law":=List.mem_singleton.mp hn
  rw [this]
  exact defs05 w X e1
 ·exact from05 H w X hF e1 e2 hz fun h q=>Bool.noConfusion q
section
section
variable (w:World) {X:Nat→Sx} (os:OsState) (B:Heap) (hB:Over w X B)
theorem bi_divmod:BltIn (K05 w os B) (gl05 w os B hB) "divmod" (.builtin "divmod"):=⟨by kernel_rfl,by kernel_rfl⟩
theorem bi_str:BltIn (K05 w os B) (gl05 w os B hB) "str" (.type "str"):=⟨by kernel_rfl,by kernel_rfl⟩
theorem bi_float:BltIn (K05 w os B) (gl05 w os B hB) "float" (.type "float"):=⟨by kernel_rfl,by kernel_rfl⟩
include hB in
theorem ownS05:OwnS (K05 w os B):=⟨ownC05 w os B hB,by
 have h:(quietNames.all fun n=>(oMap (u315 w.params) n).isNone)=true:=by kernel_rfl
 intro n hn
 have:=List.all_eq_true.mp h n hn
 exact Option.isNone_iff_eq_none.mp this,by kernel_rfl⟩
noncomputable def pk11 (hF:SetsF w X):Pk11 (K05 w os B) where
 G:=gl05 w os B hB
 N:=gN05 w os B hB
 bm:=_
 own:=own05 w os B hB
 C:=by kernel_rfl
 tab:=List.mem_singleton.mpr rfl
 suffixed:=fi_suffixed_err w os B hB
 len:=bi_len w os B hB
 until_:=fi_skip_until w os B hB
 indexE:=bi_IndexError w os B hB
 valueE:=bi_ValueError w os B hB
 illLit:=setE_of w os B hB hF.1 (a:=281) (by kernel_rfl) (by kernel_rfl) rfl rfl rfl (by decide+kernel) illB_hi (by decide+kernel)
 illBas:=setE_of w os B hB hF.1 (a:=281) (by kernel_rfl) (by kernel_rfl) rfl rfl rfl (by decide+kernel) illB_hi (by decide+kernel)
 ws:=setE_of w os B hB hF.2.1 (a:=287) (by kernel_rfl) (by kernel_rfl) rfl rfl rfl (by decide+kernel) wsB_hi (by decide+kernel)
 bare:=setE_of w os B hB hF.2.2.1 (a:=296) (by kernel_rfl) (by kernel_rfl) rfl rfl rfl (by decide+kernel) bareB_hi (by decide+kernel)
 hex:=setE_of w os B hB hF.2.2.2 (a:=300) (by kernel_rfl) (by kernel_rfl) rfl rfl rfl (by decide+kernel) hexB_hi (by decide+kernel)
 skip:=fi_skip_chars w os B hB
 lit:=fi_parse_literal_str w os B hB
 scalar:=fi_is_unicode_scalar_value w os B hB
 hexc:=fi_parse_hex_char w os B hB
 int_:=bi_int w os B hB
 chr_:=bi_chr w os B hB
 proxyG:=by kernel_rfl
 proxyO:=(show B.get? 306=_ from (atC hB (by kernel_rfl) (by kernel_rfl) (by kernel_rfl) (by kernel_rfl):B.get? 306=some (u306 w.params)).trans (by kernel_rfl))
 proxyD:=proxyD05 w os B hB
 esc:=fi_parse_basic_str_escape w os B hB
 escO:=escO05 w os B hB
 keyE:=bi_KeyError w os B hB
 bas:=fi_parse_basic_str w os B hB
 one:=fi_parse_one_line_basic_str w os B hB
 part:=fi_parse_key_part w os B hB
 key:=fi_parse_key w os B hB
 maxK:=⟨tokAt (oMap (u3_62 w.params) (S_ "MAX_KEY_PARTS")),by kernel_rfl⟩
 val:=fi_parse_value w os B hB
 pair:=fi_parse_key_value_pair w os B hB
 quoted:=fi_law_quoted w os B hB
 ord_:=bi_ord w os B hB
 text:=fi_law_text w os B hB
 lkey:=fi_law_key w os B hB
 lat:=fi_law_at w os B hB
 piece:=fi_law_piece w os B hB
 filled:=fi_law_filled w os B hB
 divmod_:=bi_divmod w os B hB
 str_:=bi_str w os B hB
 float_:=bi_float w os B hB
 ownS:=ownS05 w os B hB
end
theorem units05 (e:Env):(callerA.deeper e).units+300 <cLine:=by
 show 4+3+300 <cLine
 decide+kernel
theorem room05 (e:Env):(callerA.deeper e).depth+60 <recursionLimit:=by
 show callerA.depth+1+60 <recursionLimit
 decide+kernel
theorem law_at {K:Kx} {Lf:Addr} (P:Pk11 K) {e:Env} {a:Addr} {ts:List (Int×Tok)} (ho:K.B.get? a=some (listO ts)) (hlen:ts.length≤63) (h1:∀N,LineOk N) (h2:∀N,FillOk N):
 EB K (lawCx K (callerA.deeper e) Lf) (fdB (bod.getD 68 dS)) ⟨[(S_ "script",.ref a)],[(Lf+1,[.mark])]⟩ kTrue NoX:=by
 have h:=@law_ok K (callerA.deeper e) Lf P (room05 e) (units05 e) rfl a (listO ts) _ ts ho rfl rfl hlen h1 h2
 assumption
theorem cellSto05 (w:World) (L:Addr):cellSto (fdOf (u588 w.params)) L=[(L+1,[.mark])]:=by kernel_rfl
theorem callOk (h1:∀N,LineOk N) (h2:∀N,FillOk N):CallOk:=⟨fun w X os B hB hF a ts hl ho L=>by
 have h:=@law_at (K05 w os B) L (pk11 w os B hB hF) (callEnvC (fdOf (u588 w.params)) L 588) a ts ho hl h1 h2
 have e:=cellSto05 w L
 generalize cellSto (fdOf (u588 w.params)) L=sto at *
 subst e
 assumption⟩
end
end
section
open PySem PySem.W PySem.Calls PyProof.Rows PySem.Builtin PySem.Builtin.Str
set_option maxRecDepth 100000
noncomputable def sh {α:Type} (k:Nat) (o:Out (Nat×α)):Out (Nat×α):=shiftO k (fun z=>(k+z.1,z.2)) o
theorem sh_sh {α:Type} (a b:Nat) (o:Out (Nat×α)):sh a (sh b o)=sh (a+b) o:=by
 cases o with
 | ok z=>exact congrArg Except.ok (Prod.ext (Nat.add_assoc ..).symm rfl)
 | error z=>exact congrArg Except.error (Prod.ext (Nat.add_assoc ..).symm rfl)
theorem hex4:∀c,c <256→hexVal [48,48,hexLo (c/16),hexUp (c%16)]=c∧[48,48,hexLo (c/16),hexUp (c%16)].all isHex=true∧scalarB c=true:=by decide+kernel
theorem pEsc_u {c:Nat} (hc:c <256) (t:List Nat):pEsc ([92,117,48,48,hexLo (c/16),hexUp (c%16)]++t)=.ok (6,[c]):=by
 obtain ⟨h1,h2,h3⟩:=hex4 c hc
 show (shiftO 2 (fun z=>(2+z.1,z.2)) (pHex 4 ([48,48,hexLo (c/16),hexUp (c%16)]++t)))=_
 have e:([48,48,hexLo (c/16),hexUp (c%16)]++t).take 4=[48,48,hexLo (c/16),hexUp (c%16)]:=rfl
 unfold pHex
 rw [e,h1,h2,h3]
 exact congrArg (shiftO 2 fun z=>(2+z.1,z.2)) ((if_neg fun h=>h.elim (fun h=>h rfl) fun h=>nomatch h).trans (if_neg fun h=>nomatch h))
theorem pBas_esc {u:List Nat} {k n:Nat} {d:List Nat} (h:pEsc (92::u)=.ok (k,d)):pBas (n+1) (92::u)=shiftO k (fun z=>(k+z.1,d++z.2)) (pBas n ((92::u).drop k)):=by
 rw [pBas]
 rw [if_neg (by decide),if_pos rfl,h]
theorem pBas_quoted (w:Bool) (rest:List Nat):∀(l:List Nat) (n:Nat),(∀c∈l,c≠127)→l.length <n→pBas n (l.flatMap (qSign w)++34::rest)=.ok ((l.flatMap (qSign w)).length+1,l)
 | [],n+1,_,_=>rfl
 | c::l,n+1,h,hn=>by
   have ih:=pBas_quoted w rest l n (fun d hd=>h d (List.mem_cons_of_mem _ hd)) (Nat.lt_of_succ_lt_succ hn)
   have hc:=h c List.mem_cons_self
   rw [List.flatMap_cons,List.append_assoc]
   generalize l.flatMap (qSign w)=q at ih
   have esc:∀(u:List Nat) (k:Nat),qSign w c=92::u→u.length+1=k→(∀t,pEsc ((92::u)++t)=.ok (k,[c]))→pBas (n+1) (qSign w c++(q++34::rest))=.ok ((qSign w c++q).length+1,c::l):=by
    intro u k e1 e2 e3
    rw [e1]
    have d:((92::u)++(q++34::rest)).drop k=q++34::rest:=by
     rw [←e2];exact List.drop_left
    refine (pBas_esc (e3 (q++34::rest))).trans ?_
    rw [show List.drop k (92::u.append (q++34::rest))=_ from d,ih]
    refine congrArg Except.ok (Prod.ext ?_ rfl)
    show k+(q.length+1)=_
    rw [List.length_append,List.length_cons,e2,Nat.add_assoc]
   unfold qSign at *
   by_cases h1:(c <32||(w&&decide (c <256)))=true
   ·rw [if_pos h1] at *
    have h256:c <256:=by
     simp only [Bool.or_eq_true,Bool.and_eq_true,decide_eq_true_eq] at h1;lia
    exact esc _ 6 rfl rfl fun t=>pEsc_u h256 t
   ·rw [if_neg h1] at *
    by_cases h2:c=34∨c=92
    ·rw [if_pos h2] at *
     rcases h2 with rfl | rfl
     ·exact esc _ 2 rfl rfl fun t=>rfl
     ·exact esc _ 2 rfl rfl fun t=>rfl
    ·rw [if_neg h2] at *
     have hi:illB c=false:=by
      simp only [Bool.or_eq_true,decide_eq_true_eq,not_or] at h1
      simp only [illB,Bool.or_eq_false_iff,Bool.and_eq_false_iff,decide_eq_false_iff_not,beq_eq_false_iff_ne]
      exact ⟨.inl h1.1,hc⟩
     show (if c=34 then _ else if c=92 then _ else if illB c then _ else shiftO 1 (fun z=>(1+z.1,c::z.2)) (pBas n (q++34::rest)))=_
     rw [if_neg (fun e=>h2 (.inl e)),if_neg (fun e=>h2 (.inr e)),hi,ih]
     refine congrArg Except.ok (Prod.ext ?_ rfl)
     show 1+(q.length+1)=(q.length+1)+1
     rw [Nat.add_comm]
theorem pB_quoted (w:Bool) (l rest:List Nat) (h:∀c∈l,c≠127):pB (l.flatMap (qSign w)++34::rest)=.ok ((l.flatMap (qSign w)).length+1,l):=by
 refine pBas_quoted w rest l _ h ?_
 have key:l.length≤(l.flatMap (qSign w)).length:=by
  clear h
  induction l with
  | nil=>exact Nat.le_refl _
  | cons c r ih=>
    rw [List.flatMap_cons,List.length_append,List.length_cons]
    have:0 <(qSign w c).length:=by unfold qSign;split<;>(try split)<;>exact Nat.succ_pos _
    lia
 rw [List.length_append];lia
theorem fst1_app {c:Nat}:∀{l r:List Nat},(∀d∈l,d≠c)→fst1 c (l++c::r)=some l.length
 | [],r,_=>by rw [List.nil_append,fst1,if_pos rfl];rfl
 | d::l,r,h=>by
   rw [List.cons_append,fst1,if_neg (h d List.mem_cons_self),fst1_app fun e he=>h e (List.mem_cons_of_mem _ he)];rfl
theorem fstP_ok {E:Nat→Bool}:∀{l:List Nat},(∀d∈l,E d=false)→fstP E l=none
 | [],_=>rfl
 | d::l,h=>by
   rw [fstP,h d List.mem_cons_self,fstP_ok fun e he=>h e (List.mem_cons_of_mem _ he)];rfl
theorem pLit_plain (l rest:List Nat) (h:∀c∈l,c≠127) (hp:l.all plainC=true):pLit (l++39::rest)=.ok (l.length+1,l):=by
 have h1:∀d∈l,d≠39∧illB d=false:=fun d hd=>by
  have:=List.all_eq_true.mp hp d hd
  simp only [plainC,Bool.and_eq_true,bne_iff_ne,ne_eq,decide_eq_true_eq] at this
  refine ⟨this.1,?_⟩
  simp only [illB,Bool.or_eq_false_iff,Bool.and_eq_false_iff,decide_eq_false_iff_not,beq_eq_false_iff_ne]
  exact ⟨.inl (by lia),h d hd⟩
 unfold pLit skipU
 rw [fst1_app fun d hd=>(h1 d hd).1]
 dsimp only
 rw [List.take_left' rfl]
 unfold badIn
 rw [fstP_ok fun d hd=>(h1 d hd).2]
 dsimp only
 rw [List.take_left' rfl]
theorem lText_read (l:List Nat) (w:Nat) (h:∀c∈l,c≠127):∃ch u,(ch=34∨ch=39)∧lText l w=ch::u∧(l≠[]→∃d v,u=d::v∧d≠ch)∧∀rest,pVal (ch::(u++rest))=.ok (u.length+1,l)∧pPart (ch::(u++rest))=.ok (u.length+1,l):=by
 unfold lText
 by_cases hp:w%3=1∧l.all plainC=true
 ·rw [if_pos hp]
  refine ⟨39,l++[39],.inr rfl,rfl,fun hl=>?_,fun rest=>?_⟩
  ·cases l with
   | nil=>exact absurd rfl hl
   | cons d l=>
     have:=List.all_eq_true.mp hp.2 d List.mem_cons_self
     refine ⟨d,l++[39],rfl,?_⟩
     rintro rfl
     cases this
  ·have e:=pLit_plain l rest h hp.2
   have key:shiftO 1 (fun z=>(1+z.1,z.2)) (pLit ((l++[39])++rest))=.ok ((l++[39]).length+1,l):=by
    rw [List.append_assoc,List.singleton_append,e]
    refine congrArg Except.ok (Prod.ext ?_ rfl)
    show 1+(l.length+1)=_
    rw [List.length_append,Nat.add_comm];rfl
   exact ⟨key,key⟩
 ·rw [if_neg hp]
  generalize (w%3==2)=b
  refine ⟨34,l.flatMap (qSign b)++[34],.inl rfl,rfl,fun hl=>?_,fun rest=>?_⟩
  ·cases l with
   | nil=>exact absurd rfl hl
   | cons d l=>
     rw [List.flatMap_cons]
     unfold qSign
     split
     ·exact ⟨92,_,rfl,by decide⟩
     ·split
      ·exact ⟨92,_,rfl,by decide⟩
      ·rename_i h2
       exact ⟨d,_,rfl,fun e=>h2 (.inl e)⟩
  ·have e:=pB_quoted b l rest h
   have key:shiftO 1 (fun z=>(1+z.1,z.2)) (pB ((l.flatMap (qSign b)++[34])++rest))=.ok ((l.flatMap (qSign b)++[34]).length+1,l):=by
    rw [List.append_assoc,List.singleton_append,e]
    refine congrArg Except.ok (Prod.ext ?_ rfl)
    show 1+((l.flatMap (qSign b)).length+1)=_
    rw [List.length_append,Nat.add_comm];rfl
   exact ⟨key,key⟩
noncomputable def go (m:Nat) (r:List Nat) (ps:List (List Nat)):Out (Nat×List (List Nat)):=sh (skipW wsB r) (pTail m (r.drop (skipW wsB r)) ps)
theorem pKey_go {r:List Nat} {k:Nat} {s:List Nat} (h:pPart r=.ok (k,s)):pKey r=sh k (go (r.length+1) (r.drop k) [s]):=by
 unfold pKey go
 rw [h,sh_sh];rfl
theorem pTail_dot {m:Nat} {t:List Nat} {ps:List (List Nat)} {k:Nat} {s:List Nat} (h:pPart (t.drop (skipW wsB t))=.ok (k,s)):pTail (m+1) (46::t) ps=sh (1+skipW wsB t+k) (go m ((t.drop (skipW wsB t)).drop k) (ps++[s])):=by
 unfold go
 rw [pTail,if_pos rfl,h,sh_sh];rfl
theorem part_read (n:List Nat) (w:Nat) (h:∀c∈n,c≠127):∃ch u,lPart n w=ch::u∧wsB ch=false∧∀rest,skipW bareB rest=0→pPart (ch::(u++rest))=.ok (u.length+1,n):=by
 unfold lPart
 by_cases hp:w%4=3∧(n=[120]∨n=[97,45,49])
 ·rw [if_pos hp]
  have hs:∀u:List Nat,(∀c∈u,bareB c=true)→∀rest,skipW bareB rest=0→skipW bareB (u++rest)=u.length:=by
   intro u hu rest hr
   unfold skipW at *
   rw [List.takeWhile_append_of_pos hu,List.length_append,hr];rfl
  have fin:∀ch u,(∀c∈ch::u,bareB c=true)→∀rest,skipW bareB rest=0→pPart (ch::(u++rest))=.ok (u.length+1,ch::u):=by
   intro ch u hu rest hr
   unfold pPart
   dsimp only
   rw [if_pos (hu ch List.mem_cons_self),←List.cons_append,hs _ hu rest hr,List.take_left' rfl];rfl
  rcases hp.2 with rfl | rfl
  ·exact ⟨120,[],rfl,rfl,fin 120 [] (by decide)⟩
  ·exact ⟨97,[45,49],rfl,rfl,fin 97 [45,49] (by decide)⟩
 ·rw [if_neg hp]
  obtain ⟨ch,u,h1,h2,_,h4⟩:=lText_read n (w%4) h
  refine ⟨ch,u,h2,?_,fun rest _=>(h4 rest).2⟩
  rcases h1 with rfl | rfl<;>rfl
def OkC (c:Nat):Prop:=c≠123∧c≠127
def AllOk (l:List Nat):Prop:=∀c∈l,OkC c
theorem AllOk.app {a b:List Nat} (h:AllOk a) (g:AllOk b):AllOk (a++b):=fun c hc=>(List.mem_append.mp hc).elim (h c) (g c)
theorem allOk_of {l:List Nat} (h:(l.all fun c=>c != 123&&c != 127)=true):AllOk l:=fun c hc=>by
 have:=List.all_eq_true.mp h c hc
 simp only [Bool.and_eq_true,bne_iff_ne,ne_eq] at this
 exact this
theorem esc_ok:((List.range 256).all fun c=>[92,117,48,48,hexLo (c/16),hexUp (c%16)].all fun c=>c != 123&&c != 127)=true:=by decide+kernel
theorem qSign_ok (w:Bool) {c:Nat} (h:OkC c):AllOk (qSign w c):=by
 unfold qSign
 split
 ·rename_i h1
  have h256:c <256:=by
   simp only [Bool.or_eq_true,Bool.and_eq_true,decide_eq_true_eq] at h1;lia
  exact allOk_of (List.all_eq_true.mp esc_ok c (List.mem_range.mpr h256))
 ·split
  ·exact AllOk.app (a:=[92]) (allOk_of rfl) fun d hd=>by rw [List.mem_singleton.mp hd];exact h
  ·exact fun d hd=>by rw [List.mem_singleton.mp hd];exact h
theorem lText_ok {l:List Nat} (w:Nat) (h:AllOk l):AllOk (lText l w):=by
 unfold lText
 split
 ·exact ((allOk_of rfl:AllOk [39]).app h).app (allOk_of rfl)
 ·refine ((allOk_of rfl:AllOk [34]).app fun c hc=>?_).app (allOk_of rfl)
  obtain ⟨d,hd,e⟩:=List.mem_flatMap.mp hc
  exact qSign_ok _ (h d hd) c e
theorem lPart_ok {l:List Nat} (w:Nat) (h:AllOk l):AllOk (lPart l w):=by
 unfold lPart
 split
 ·exact h
 ·exact lText_ok _ h
theorem sepOf_ok (k:Nat):AllOk (sepOf k):=by
 unfold sepOf
 split<;>exact allOk_of rfl
noncomputable def rests (s:List Nat):List (List Nat)→Nat→List Nat
 | [],_=>[]
 | n::r,w=>s++(lPart n w++rests s r (w/4))
theorem lKey_cons (n:List Nat) (r:List (List Nat)) (way:Nat):lKey (n::r) way=lPart n way++rests (sepOf (way/4 ^ (r.length+1))) r (way/4):=by
 unfold lKey
 rw [List.length_cons]
 generalize sepOf _=s
 have key:∀(r:List (List Nat)) (w:Nat) (a:List Nat),List.intercalate s (a::lParts r w)=a++rests s r w:=by
  intro r
  induction r with
  | nil=>intro w a;simp [lParts,rests,List.intercalate]
  | cons n r ih=>
    intro w a
    rw [lParts,rests,←ih (w/4) (lPart n w)]
    simp [List.intercalate]
 exact key r (way/4) (lPart n way)
theorem rests_ok {s:List Nat} (hs:AllOk s):∀(r:List (List Nat)) (w:Nat),(∀n∈r,AllOk n)→AllOk (rests s r w)
 | [],_,_=>fun c hc=>nomatch hc
 | n::r,w,h=>hs.app ((lPart_ok w (h n List.mem_cons_self)).app (rests_ok hs r (w/4) fun m hm=>h m (List.mem_cons_of_mem _ hm)))
theorem lKey_ok:∀{names:List (List Nat)} (way:Nat),(∀n∈names,AllOk n)→AllOk (lKey names way)
 | [],way,_=>fun c hc=>by unfold lKey lParts List.intercalate at hc;exact nomatch hc
 | n::r,way,h=>by
   rw [lKey_cons]
   exact (lPart_ok _ (h n List.mem_cons_self)).app (rests_ok (sepOf_ok _) r _ fun m hm=>h m (List.mem_cons_of_mem _ hm))
theorem sep_bare (k:Nat) (t:List Nat):skipW bareB (sepOf k++t)=0:=by
 unfold sepOf
 split<;>rfl
theorem skip_no {ch:Nat} {u:List Nat} (h:wsB ch=false):skipW wsB (ch::u)=0:=by
 unfold skipW
 rw [List.takeWhile_cons,h];rfl
theorem go_part (k m:Nat) (n:List Nat) (w:Nat) (rest:List Nat) (ps:List (List Nat)) (h:∀c∈n,c≠127) (hr:skipW bareB rest=0):
 go (m+1) (sepOf k++(lPart n w++rest)) ps=sh ((sepOf k).length+(lPart n w).length) (go m rest (ps++[n])):=by
 obtain ⟨ch,u,h1,h2,h3⟩:=part_read n w h
 rw [h1,List.cons_append]
 have d:(ch::(u++rest)).drop (u.length+1)=rest:=List.drop_left
 have h4:=h3 rest hr
 have p0:skipW wsB (ch::(u++rest))=0:=skip_no h2
 have p1:skipW wsB (32::ch::(u++rest))=1:=congrArg (·+1) p0
 have a1:∀ps,pTail (m+1) (46::ch::(u++rest)) ps=sh (1+(u.length+1)) (go m rest (ps++[n])):=fun ps=>by
  have:=pTail_dot (m:=m) (t:=ch::(u++rest)) (ps:=ps) (k:=u.length+1) (s:=n) (by rw [p0];exact h4)
  rw [this,p0]
  exact congrArg (sh _) (congrArg (fun x=>go m x _) d)
 have a2:∀ps,pTail (m+1) (46::32::ch::(u++rest)) ps=sh (2+(u.length+1)) (go m rest (ps++[n])):=fun ps=>by
  have:=pTail_dot (m:=m) (t:=32::ch::(u++rest)) (ps:=ps) (k:=u.length+1) (s:=n) (by rw [p1];exact h4)
  rw [this,p1]
  exact congrArg (sh _) (congrArg (fun x=>go m x _) d)
 unfold sepOf
 split
 ·show sh 0 (pTail (m+1) (46::ch::(u++rest)) ps)=_
  rw [a1,sh_sh,Nat.zero_add];rfl
 ·show sh 1 (pTail (m+1) (46::32::ch::(u++rest)) ps)=_
  rw [a2,sh_sh,←Nat.add_assoc];rfl
 ·show sh 1 (pTail (m+1) (46::ch::(u++rest)) ps)=_
  rw [a1,sh_sh,←Nat.add_assoc];rfl
theorem go_rests (k:Nat) (rest:List Nat) (hr:skipW bareB rest=0):∀(r:List (List Nat)) (w m:Nat) (ps:List (List Nat)),(∀n∈r,∀c∈n,c≠127)→
 go (m+r.length) (rests (sepOf k) r w++rest) ps=sh (rests (sepOf k) r w).length (go m rest (ps++r))
 | [],w,m,ps,_=>by
   rw [List.append_nil]
   show go m rest ps=sh 0 (go m rest ps)
   unfold go
   rw [sh_sh,Nat.zero_add]
 | n::r,w,m,ps,h=>by
   rw [rests,List.append_assoc,List.append_assoc]
   have hb:skipW bareB (rests (sepOf k) r (w/4)++rest)=0:=by
    cases r with
    | nil=>exact hr
    | cons n r=>rw [rests,List.append_assoc];exact sep_bare k _
   rw [List.length_cons,←Nat.add_assoc,go_part k (m+r.length) n w _ ps (h n List.mem_cons_self) hb,go_rests k rest hr r (w/4) m _ fun n hn=>h n (List.mem_cons_of_mem _ hn),sh_sh,List.append_assoc,List.length_append,List.length_append,Nat.add_assoc]
   rfl
theorem rests_len (k:Nat):∀(r:List (List Nat)) (w:Nat),r.length≤(rests (sepOf k) r w).length
 | [],_=>Nat.le_refl _
 | n::r,w=>by
   have:=rests_len k r (w/4)
   have h:0 <(sepOf k).length:=by unfold sepOf;split<;>exact Nat.succ_pos _
   rw [rests,List.length_append,List.length_append,List.length_cons];lia
theorem key_read (n:List Nat) (r:List (List Nat)) (way:Nat) (rest:List Nat) (h:∀m∈n::r,∀c∈m,c≠127) (hr:skipW bareB rest=0):∃M,pKey (lKey (n::r) way++rest)=sh (lKey (n::r) way).length (go (M+1) rest (n::r)):=by
 rw [lKey_cons,List.append_assoc]
 generalize way/4 ^ (r.length+1)=k
 obtain ⟨ch,u,h1,h2,h3⟩:=part_read n way (h n List.mem_cons_self)
 have hl:=rests_len k r (way/4)
 have hb:skipW bareB (rests (sepOf k) r (way/4)++rest)=0:=by
  cases r with
  | nil=>exact hr
  | cons n r=>rw [rests,List.append_assoc];exact sep_bare k _
 have hp:=h3 _ hb
 rw [h1,List.cons_append]
 refine ⟨u.length+(rests (sepOf k) r (way/4)++rest).length+1 -r.length,?_⟩
 rw [pKey_go hp,show (ch::(u++(rests (sepOf k) r (way/4)++rest))).drop (u.length+1)=rests (sepOf k) r (way/4)++rest from List.drop_left]
 have e:(ch::(u++(rests (sepOf k) r (way/4)++rest))).length+1=(u.length+(rests (sepOf k) r (way/4)++rest).length+1 -r.length+1)+r.length:=by
  rw [List.length_cons,List.length_append,List.length_append];lia
 rw [e,go_rests k rest hr r (way/4) _ [n] fun m hm=>h m (List.mem_cons_of_mem _ hm),sh_sh]
 refine congrArg (fun x=>sh x _) ?_
 rw [List.length_append,List.length_cons]
structure HoleOk (p:LPc) (u rest:List Nat) (j:Nat) (nm:List (List Nat)):Prop where
 names:p.names=some nm
 words:p.words=S_ ""
 off:p.off=0
 key:pKey (u++rest)=.ok (j,nm)
 ends:((u++rest).drop j).take 1=[125]
 len:u.length=j+1
structure HoleNot (p:LPc) (u rest:List Nat):Prop where
 names:p.names=none
 words:p.words≠S_ ""
 why:(∃i,pKey (u++rest)=.error (i,p.words)∧p.off=i+2)∨(∃j nm,pKey (u++rest)=.ok (j,nm)∧((u++rest).drop j).take 1≠[125]∧p.words=S_ "not closed"∧p.off=j+2)
structure Plain (p:LPc):Prop where
 ok:AllOk (L p.text)
 ne:L p.text≠[]
 names:p.names=none
 words:p.words=S_ ""
def PcIs (p:LPc) (rest:List Nat):Prop:=Plain p∨∃u,L p.text=36::123::u∧AllOk u∧((∃j nm,HoleOk p u rest j nm)∨HoleNot p u rest)
theorem L_app (a b:Str):L (a++b)=L a++L b:=Array.toList_append
theorem lOpen:L (S_ "${")=[36,123]:=by decide+kernel
theorem keys_fin (i:Nat):(∀n∈lKeyAt i,AllOk n)∧(i <6→∃n r,lKeyAt i=n::r):=by
 unfold lKeyAt
 match i with
 | 0 | 1 | 2 | 3 | 4 | 5=>exact ⟨fun n hn=>allOk_of ((by decide:∀n∈_,(List.all n fun c=>c != 123&&c != 127)=true) n hn),fun _=>⟨_,_,rfl⟩⟩
 | i+6=>exact ⟨fun n hn=>by simp [lawKeys] at hn,fun h=>absurd h (by refine' qC _ _)⟩
theorem keyS_ok (i way:Nat):AllOk (L (keyS (lKeyAt i) way)):=lKey_ok way (keys_fin i).1
theorem keyS_read {i:Nat} (hi:i <6) (way:Nat) {rest:List Nat} (hr:skipW bareB rest=0):∃M,pKey (L (keyS (lKeyAt i) way)++rest)=sh (L (keyS (lKeyAt i) way)).length (go (M+1) rest (lKeyAt i)):=by
 have h:=(keys_fin i).1
 obtain ⟨n,r,e⟩:=(keys_fin i).2 hi
 rw [e] at h ⊢
 exact key_read n r way rest (fun m hm c hc=>(h m hm c hc).2) hr
theorem piece_hole (k way:Nat) (rest:List Nat) (hk:k <6):PcIs (lPiece k way) rest:=by
 unfold lPiece
 rw [if_pos hk]
 have hpad:∃a,L (padS way)=a∧AllOk a∧skipW bareB (a++125::rest)=0∧∀M ps,go (M+1) (a++125::rest) ps=.ok (a.length,ps):=by
  unfold padS
  split
  ·exact ⟨[],by decide+kernel,allOk_of rfl,rfl,fun _ _=>rfl⟩
  ·exact ⟨[32],by decide+kernel,allOk_of rfl,rfl,fun _ _=>rfl⟩
  ·exact ⟨[32,9],by decide+kernel,allOk_of rfl,rfl,fun _ _=>rfl⟩
 obtain ⟨a,h1,h2,h3,h4⟩:=hpad
 obtain ⟨M,h5⟩:=keyS_read hk way h3
 have ok:=keyS_ok k way
 refine .inr ⟨L (keyS (lKeyAt k) way)++(a++[125]),?_,ok.app (h2.app (allOk_of rfl)),.inl ⟨(L (keyS (lKeyAt k) way)).length+a.length,lKeyAt k,rfl,rfl,rfl,?_,?_,?_⟩⟩
 ·show L (S_ "${"++keyS (lKeyAt k) way++padS way++S_ "}")=_
  rw [L_app,L_app,L_app,h1,lOpen,show L (S_ "}")=[125] by decide+kernel,List.append_assoc,List.append_assoc];rfl
 ·rw [List.append_assoc,List.append_assoc]
  refine h5.trans ?_
  rw [h4];rfl
 ·rw [←List.length_append,List.append_assoc,List.append_assoc,←List.append_assoc (L _),List.drop_left];rfl
 ·rw [List.length_append,List.length_append,←Nat.add_assoc];rfl
theorem pc_err {t w m:Str} {u rest:List Nat} {i:Nat} (ht:L t=36::123::u) (hu:(u.all fun c=>c != 123&&c != 127)=true) (hw:w≠S_ "") (hm:m=w) (hk:pKey (u++rest)=.error (i,m)):PcIs ⟨t,none,w,i+2⟩ rest:=
 .inr ⟨u,ht,allOk_of hu,.inr ⟨rfl,hw,.inl ⟨i,by rw [←hm];exact hk,rfl⟩⟩⟩
theorem pc_key {t w:Str} {i way o:Nat} {v rest:List Nat} (hi:i <6) (ht:L t=36::123::(L (keyS (lKeyAt i) way)++v)) (hv:(v.all fun c=>c != 123&&c != 127)=true) (hw:w≠S_ "") (hb:skipW bareB (v++rest)=0)
 (h:(∃k,(∀M ps,go (M+1) (v++rest) ps=.error (k,w))∧o=(keyS (lKeyAt i) way).length+k+2)∨
   ∃k,(∀M ps,go (M+1) (v++rest) ps=.ok (k,ps))∧((v++rest).drop k).take 1≠[125]∧w=S_ "not closed"∧o=(keyS (lKeyAt i) way).length+k+2):PcIs ⟨t,none,w,o⟩ rest:=by
 obtain ⟨M,h5⟩:=keyS_read hi way hb
 refine .inr ⟨_,ht,(keyS_ok i way).app (allOk_of hv),.inr ⟨rfl,hw,?_⟩⟩
 rw [List.append_assoc,h5]
 rw [←L_length] at h
 rcases h with ⟨k,h1,h2⟩ | ⟨k,h1,h2,h3,h4⟩
 ·exact .inl ⟨_,by rw [h1];rfl,h2⟩
 ·exact .inr ⟨_,lKeyAt i,by rw [h1];rfl,by rw [←List.drop_drop,List.drop_left];exact h2,h3,h4⟩
theorem L_key (k:Str) (v:String) {l:List Nat} (h:L (S_ v)=l):L (S_ "${"++k++S_ v)=36::123::(L k++l):=by
 rw [L_app,L_app,lOpen,h,List.append_assoc];rfl
theorem mod6 (w:Nat):w%6 <6:=Nat.mod_lt _ (by decide)
theorem code_ok (way:Nat):AllOk [lCode way]:=fun c hc=>by
 rw [List.mem_singleton.mp hc]
 have:128≤lCode way:=by unfold lCode;split<;>refine' Nat.le_add_left _ _
 exact ⟨by lia,by lia⟩
theorem first_ne:lFirst≠S_ "":=by decide+kernel
theorem closed_ne:S_ "not closed"≠S_ "":=by decide+kernel
theorem torn_is (way:Nat):∀z,z <5→PcIs ⟨((tornL (keyS (lKeyAt (way%6)) (way/6))).getD z (S_ "",S_ "",0)).1,none,((tornL (keyS (lKeyAt (way%6)) (way/6))).getD z (S_ "",S_ "",0)).2.1,((tornL (keyS (lKeyAt (way%6)) (way/6))).getD z (S_ "",S_ "",0)).2.2⟩ []
 | 0,_=>pc_key (v:=[32,46]) (mod6 way) (L_key (keyS (lKeyAt (way%6)) (way/6)) " ." (by decide+kernel)) rfl first_ne rfl (.inl ⟨2,fun _ _=>rfl,rfl⟩)
 | 1,_=>pc_err (t:=S_ "${'}") (w:=S_ "Expected \"'\"") (m:=Str.empty++S_ "Expected "++reprText ⟨#[39]⟩) (u:=[39,125]) (i:=2) (by decide+kernel) rfl (by decide+kernel) (by decide+kernel) rfl
 | 2,_=>pc_err (t:=S_ "${\"}") (w:=S_ "Unterminated string") (m:=S_ "Unterminated string") (u:=[34,125]) (i:=2) (by decide+kernel) rfl (by decide+kernel) rfl rfl
 | 3,_=>pc_err (t:=S_ "${\"\\u00") (w:=S_ "Invalid hex value") (m:=S_ "Invalid hex value") (u:=[34,92,117,48,48]) (i:=3) (by decide+kernel) rfl (by decide+kernel) rfl rfl
 | 4,_=>pc_key (v:=[]) (mod6 way) (by
    show L (S_ "${"++keyS (lKeyAt (way%6)) (way/6))=_
    rw [L_app,lOpen,List.append_nil];rfl) rfl closed_ne rfl (.inr ⟨0,fun _ _=>rfl,by decide,rfl,rfl⟩)
 | z+5,h=>absurd h (by refine' qC _ _)
theorem piece_is {kind:Nat} (way:Nat) (rest:List Nat) (h:kind <18) (hr:kind=17→rest=[]):PcIs (lPiece kind way) rest:=by
 by_cases h6:kind <6
 ·exact piece_hole kind way rest h6
 have all:∀k∈[6,7,8,9,10,11,12,13,14,15,16,17],(k=17→rest=[])→PcIs (lPiece k way) rest:=by
  refine List.forall_mem_cons.mpr ⟨fun _=>?_,?_⟩
  ·exact (.inl ⟨allOk_of (l:=L (S_ "$")) (by decide+kernel),(by decide+kernel:L (S_ "$")≠[]),rfl,rfl⟩:PcIs ⟨S_ "$",none,S_ "",0⟩ rest)
  refine List.forall_mem_cons.mpr ⟨fun _=>?_,?_⟩
  ·exact (.inl ⟨allOk_of (l:=L (S_ "}'\n\"\\")) (by decide+kernel),(by decide+kernel:L (S_ "}'\n\"\\")≠[]),rfl,rfl⟩:PcIs ⟨S_ "}'\n\"\\",none,S_ "",0⟩ rest)
  refine List.forall_mem_cons.mpr ⟨fun _=>?_,?_⟩
  ·exact .inl ⟨code_ok way,List.cons_ne_nil _ _,rfl,rfl⟩
  refine List.forall_mem_cons.mpr ⟨fun _=>?_,?_⟩
  ·exact pc_err (t:=S_ "${}") (w:=lFirst) (m:=partMsg) (u:=[125]) (i:=0) (by decide+kernel) rfl first_ne rfl rfl
  refine List.forall_mem_cons.mpr ⟨fun _=>?_,?_⟩
  ·exact pc_key (v:=[46,125]) (mod6 way) (L_key (keyS (lKeyAt (way%6)) (way/6)) ".}" (by decide+kernel)) rfl first_ne rfl (.inl ⟨1,fun _ _=>rfl,rfl⟩)
  refine List.forall_mem_cons.mpr ⟨fun _=>?_,?_⟩
  ·exact pc_key (v:=[32,39,98,39,125]) (mod6 way) (L_key (keyS (lKeyAt (way%6)) (way/6)) " 'b'}" (by decide+kernel)) rfl closed_ne rfl (.inr ⟨1,fun _ _=>rfl,(by show ([39]:List Nat)≠[125];decide),rfl,rfl⟩)
  refine List.forall_mem_cons.mpr ⟨fun _=>?_,?_⟩
  ·exact pc_err (t:=S_ "${'a\n'}") (w:=S_ "Found invalid character '\\n'") (m:=Str.empty++S_ "Found invalid character "++reprText ⟨#[10]⟩) (u:=[39,97,10,39,125]) (i:=2) (by decide+kernel) rfl (by decide+kernel) (by decide+kernel) rfl
  refine List.forall_mem_cons.mpr ⟨fun _=>?_,?_⟩
  ·exact pc_err (t:=S_ "${\"\\ }\"}") (w:=S_ "Unescaped '\\' in a string") (m:=escMsg) (u:=[34,92,32,125,34,125]) (i:=3) (by decide+kernel) rfl (by decide+kernel) rfl rfl
  refine List.forall_mem_cons.mpr ⟨fun _=>?_,?_⟩
  ·exact pc_err (t:=S_ "${\"a\n\"}") (w:=S_ "Illegal character '\\n'") (m:=Str.empty++S_ "Illegal character "++reprText ⟨#[10]⟩) (u:=[34,97,10,34,125]) (i:=2) (by decide+kernel) rfl (by decide+kernel) (by decide+kernel) rfl
  refine List.forall_mem_cons.mpr ⟨fun _=>?_,?_⟩
  ·exact pc_err (t:=S_ "${\"\\ud800\"}") (w:=S_ "Escaped character is not a Unicode scalar value") (m:=S_ "Escaped character is not a Unicode scalar value") (u:=[34,92,117,100,56,48,48,34,125]) (i:=7) (by decide+kernel) rfl (by decide+kernel) rfl rfl
  refine List.forall_mem_cons.mpr ⟨fun _=>?_,?_⟩
  ·exact pc_err (t:=S_ "${\"\\u00g0\"}") (w:=S_ "Invalid hex value") (m:=S_ "Invalid hex value") (u:=[34,92,117,48,48,103,48,34,125]) (i:=3) (by decide+kernel) rfl (by decide+kernel) rfl rfl
  refine List.forall_mem_cons.mpr ⟨fun hr=>?_,fun _ h=>absurd h List.not_mem_nil⟩
  rw [hr rfl];exact torn_is way (way%5) (Nat.mod_lt _ (by decide))
 exact all kind (List.mem_range'_1.mpr ⟨Nat.le_of_not_lt h6,h⟩:kind∈List.range' 6 12) hr
def PcsIs:List LPc→Prop
 | []=>True
 | p::r=>PcIs p (textsOf r)∧PcsIs r
theorem more_is:∀(f n kd w:Nat),kd <18→PcsIs (lPiece kd w::morePcs f n kd)
 | 0,_,_,w,h=>⟨piece_is w _ h fun _=>rfl,trivial⟩
 | f+1,n,kd,w,h=>by
   rw [morePcs]
   split
   ·rename_i hc
    exact ⟨piece_is w _ h fun e=>absurd hc.2 (by lia),more_is f (n/18) (n%18) (n/18) (Nat.mod_lt _ (by decide))⟩
   ·exact ⟨piece_is w _ h fun _=>rfl,trivial⟩
theorem pcs_is (N:Nat):PcsIs (pcsOf N):=more_is _ _ _ _ (Nat.mod_lt _ (by decide))
theorem texts_cons (p:LPc) (r:List LPc):textsOf (p::r)=L p.text++textsOf r:=List.flatMap_cons
theorem PcIs.head {p:LPc} {rest:List Nat} (h:PcIs p rest):∃c u,L p.text=c::u∧c≠123∧∀d∈L p.text,d≠127:=by
 rcases h with h | ⟨u,h1,h2,_⟩
 ·obtain ⟨c,u,e⟩:=List.exists_cons_of_ne_nil h.ne
  exact ⟨c,u,e,(h.ok c (by rw [e];exact List.mem_cons_self)).1,fun d hd=>(h.ok d hd).2⟩
 ·refine ⟨36,_,h1,by decide,fun d hd=>?_⟩
  rw [h1] at hd
  rcases List.mem_cons.mp hd with rfl | hd
  ·decide
  ·rcases List.mem_cons.mp hd with rfl | hd
   ·decide
   ·exact (h2 d hd).2
theorem texts_head:∀{ps:List LPc},PcsIs ps→(textsOf ps).head?≠some 123∧(∀d∈textsOf ps,d≠127)∧ps.length≤(textsOf ps).length
 | [],_=>⟨by decide,fun d hd=>(nomatch hd),Nat.le_refl _⟩
 | p::r,h=>by
   obtain ⟨c,u,e,hc,hd⟩:=h.1.head
   obtain ⟨_,h2,h3⟩:=texts_head h.2
   rw [texts_cons]
   refine ⟨?_,fun d hm=>(List.mem_append.mp hm).elim (hd d) (h2 d),?_⟩
   ·rw [e];exact fun q=>hc (Option.some.inj q)
   ·rw [List.length_append,e,List.length_cons,List.length_cons];lia
theorem hole2_skip:∀(u v:List Nat),(∀c∈u,c≠123)→v.head?≠some 123→hole2 (u++v)=(hole2 v).map (·+u.length)
 | [],v,_,_=>by
   show hole2 v=_
   cases hole2 v<;>rfl
 | a::r,v,h,hv=>by
   have hr:(r++v).head?≠some 123:=by
    cases r with
    | nil=>exact hv
    | cons b r=>exact fun e=>h b (List.mem_cons_of_mem _ List.mem_cons_self) (Option.some.inj e)
   rw [List.cons_append,hole2,if_neg (fun e=>hr e.2),hole2_skip r v (fun c hc=>h c (List.mem_cons_of_mem _ hc)) hv,Option.map_map]
   rfl
theorem fill_skip (rows:List Row) (x:Str) (n p:Nat) (out:List Nat) (told:List Str) {u v:List Nat} (hd:(L x).drop p=u++v) (hu:AllOk u) (hv:v.head?≠some 123):fillL rows x n p out told=fillL rows x n (p+u.length) (out++u) told:=by
 have hd2:(L x).drop (p+u.length)=v:=by rw [←List.drop_drop,hd,List.drop_left]
 cases n with
 | zero=>rw [fillL,fillL,hd,hd2,List.append_assoc]
 | succ n=>
   rw [fillL,fillL,hd,hd2,hole2_skip u v (fun c hc=>(hu c hc).1) hv]
   cases hole2 v with
   | none=>rw [Option.map_none,List.append_assoc]
   | some k=>
     rw [Option.map_some]
     dsimp only
     have e1:p+(k+u.length)=p+u.length+k:=by lia
     have e2:out++(u++v).take (k+u.length)=out++u++v.take k:=by
      rw [Nat.add_comm,List.take_length_add_append,List.append_assoc]
     rw [e1,e2]
theorem errT (x:Str) (p:Nat) (m:Str):errText x p m=m++lAt x p:=by
 unfold errText lAt
 rw [Str.append_assoc,Str.append_assoc,←Str.append_assoc (S_ " (at "),Str.empty_append]
theorem fill_all (rows:List Row) (x:Str):∀(ps:List LPc) (n p:Nat) (out:List Nat) (told:List Str),PcsIs ps→ps.length≤n→(L x).drop p=textsOf ps→
 fillL rows x n p out told=((ps.foldl (valStep rows x) (out,told,p)).1.take 80,(ps.foldl (valStep rows x) (out,told,p)).2.1)
 | [],n,p,out,told,_,_,hd=>by
   have e:(out++(L x).drop p).take 80=out.take 80:=by rw [hd];exact congrArg _ (List.append_nil _)
   cases n with
   | zero=>rw [fillL,e];rfl
   | succ n=>
     rw [fillL,e,hd]
     rfl
 | q::r,n,p,out,told,hp,hn,hd=>by
   have hv:=(texts_head hp.2).1
   rw [texts_cons] at hd
   have ih:=fun n out told=>fill_all rows x r n (p+q.text.length) out told hp.2
   have hd2:(L x).drop (p+q.text.length)=textsOf r:=by rw [←List.drop_drop,hd,←L_length,List.drop_left]
   rw [List.foldl_cons]
   rcases hp.1 with h | ⟨u,h1,h2,h3⟩
   ·have e:valStep rows x (out,told,p) q=(out++L q.text,told,p+q.text.length):=by
     unfold valStep abv
     rw [h.names,h.words]
     exact Prod.ext rfl (Prod.ext (List.append_nil _) rfl)
    rw [e,fill_skip rows x n p out told hd h.ok hv,L_length]
    exact ih n _ _ (by rw [List.length_cons] at hn;lia) hd2
   ·obtain ⟨m,rfl⟩:∃m,n=m+1:=⟨n -1,by rw [List.length_cons] at hn;refine' qP2 ‹_›⟩
    have hm:r.length≤m:=Nat.le_of_succ_le_succ hn
    have hl:q.text.length=u.length+2:=by rw [←L_length,h1];rfl
    have dp:(L x).drop p=36::123::(u++textsOf r):=by rw [hd,h1];rfl
    have dp2:(L x).drop (p+0+2)=u++textsOf r:=by
     show (L x).drop (p+2)=_
     rw [←List.drop_drop,dp];rfl
    have dj:∀j,(L x).drop (p+0+2+j)=(u++textsOf r).drop j:=fun j=>by rw [←List.drop_drop,dp2]
    have h0:hole2 ((L x).drop p)=some 0:=by rw [dp,hole2];exact if_pos ⟨rfl,rfl⟩
    have stay:∀t,fillL rows x m (p+0+2) (out++((L x).drop p).take 0++[36,123]) t=fillL rows x m (p+q.text.length) (out++L q.text) t:=fun t=>by
     rw [fill_skip rows x m (p+0+2) _ t dp2 h2 hv,h1,hl]
     have e1:p+0+2+u.length=p+(u.length+2):=by lia
     rw [e1]
     refine congrArg (fun o=>fillL rows x m _ o t) ?_
     rw [List.take_zero,List.append_nil,List.append_assoc];rfl
    have fin:=fun out told=>ih m out told hm hd2
    rw [fillL,h0]
    dsimp only
    rw [dp2]
    rcases h3 with ⟨j,nm,h⟩ | h
    ·rw [h.key]
     dsimp only
     rw [dj,if_pos h.ends]
     have e:valStep rows x (out,told,p) q=(out++(match (aboveL rows nm).getLast? with | none=>L q.text | some v=>v),told++(if (aboveL rows nm).isEmpty=true then [S_ "unknown"++lAt x p] else []),p+q.text.length):=by
      unfold valStep abv
      rw [h.names,h.words,h.off]
      refine Prod.ext rfl (Prod.ext ?_ rfl)
      refine congrArg (told++·) ?_
      show (if ((aboveL rows nm).isEmpty||false)=true then _ else _)=_
      rw [Bool.or_false];rfl
     rw [e]
     cases ha:(aboveL rows nm).getLast? with
     | none=>
       rw [List.getLast?_eq_none_iff.mp ha]
       dsimp only
       rw [stay]
       exact fin _ _
     | some v=>
       have hne:(aboveL rows nm).isEmpty=false:=by
        cases hb:aboveL rows nm with
        | nil=>rw [hb] at ha;cases ha
        | cons a b=>rfl
       rw [hne]
       dsimp only
       rw [if_neg (by decide),List.append_nil,List.take_zero,List.append_nil,show p+0+2+j+1=p+q.text.length by rw [hl,h.len];lia]
       exact fin _ _
    ·have e:valStep rows x (out,told,p) q=(out++L q.text,told++[q.words++lAt x (p+q.off)],p+q.text.length):=by
      unfold valStep abv
      rw [h.names]
      refine Prod.ext rfl (Prod.ext ?_ rfl)
      refine congrArg (told++·) (if_pos ?_)
      have:(q.words.cps.toList==[])=false:=by
       rw [beq_eq_false_iff_ne]
       intro e
       exact h.words (by
        have:q.words=⟨(#[]:Array Nat)⟩:=by
         cases hq:q.words with
         | mk a=>rw [hq] at e;have e':a.toList=[]:=e;rw [Array.toList_eq_nil_iff.mp e']
        rw [this];decide+kernel)
      rw [this];rfl
     rw [e]
     rcases h.why with ⟨i,k1,k2⟩ | ⟨j,nm,k1,k2,k3,k4⟩
     ·rw [k1]
      dsimp only
      rw [stay,errT,k2,show p+0+2+i=p+(i+2) by lia]
      exact fin _ _
     ·rw [k1]
      dsimp only
      rw [dj,if_neg k2,stay,k3,k4,show p+0+2+j=p+(j+2) by lia]
      exact fin _ _
theorem fillOk (N:Nat):FillOk N:=fun due=>by
 have h:=pcs_is N
 exact fill_all due _ (pcsOf N) _ 0 [] [] h (Nat.le_succ_of_le (texts_head h).2.2) rfl
theorem eqL_read (way:Nat):∃a b,eqL way=a++61::b∧(∀t,skipW bareB (eqL way++t)=0)∧(∀t M ps,go (M+1) (eqL way++t) ps=.ok (a.length,ps))∧∀t,skipW wsB t=0→skipW wsB (b++t)=b.length:=by
 unfold eqL
 split
 ·exact ⟨[32],[32],rfl,fun _=>rfl,fun _ _ _=>rfl,fun t h=>congrArg (·+1) h⟩
 ·exact ⟨[],[],rfl,fun _=>rfl,fun _ _ _=>rfl,fun t h=>h⟩
 ·exact ⟨[9],[32],rfl,fun _=>rfl,fun _ _ _=>rfl,fun t h=>congrArg (·+1) h⟩
theorem endL_read (way:Nat):∃e,e+1=(endL way).length∧∀t,fst1 10 (endL way++t)=some e:=by
 unfold endL
 split
 ·exact ⟨0,rfl,fun _=>rfl⟩
 ·exact ⟨6,rfl,fun _=>rfl⟩
 ·exact ⟨1,rfl,fun _=>rfl⟩
theorem drop_at (a b:List Nat) (c:Nat):(a++c::b).drop (a.length+1)=b:=by
 rw [←List.drop_drop,List.drop_left];rfl
theorem lineOk (N:Nat):LineOk N:=by
 have hp:=pcs_is N
 obtain ⟨_,h127,hlen⟩:=texts_head hp
 have hne:textsOf (pcsOf N)≠[]:=fun e=>by rw [e] at hlen;exact absurd hlen (by unfold pcsOf;exact Nat.not_succ_le_zero _)
 obtain ⟨a,b,e1,e2,e3,e4⟩:=eqL_read (wayOf N)
 obtain ⟨e,f1,f2⟩:=endL_read (wayOf N)
 obtain ⟨ch,u,g1,g2,g3,g4⟩:=lText_read (textsOf (pcsOf N)) (wayOf N/3) h127
 obtain ⟨d,v,g5,g6⟩:=g3 hne
 have ek:lKey (lKeyAt (keyIx N)) (wayOf N)=L (keyS (lKeyAt (keyIx N)) (wayOf N)):=rfl
 have hi:keyIx N <6:=Nat.mod_lt _ (by decide)
 have hline:lineOf N=(L (keyS (lKeyAt (keyIx N)) (wayOf N))++a)++61::(b++((ch::u)++endL (wayOf N))):=by
  unfold lineOf
  rw [ek,e1,g2]
  simp only [List.append_assoc,List.cons_append]
 have hline2:lineOf N=L (keyS (lKeyAt (keyIx N)) (wayOf N))++(eqL (wayOf N)++((ch::u)++endL (wayOf N))):=by
  unfold lineOf
  rw [ek,g2,List.append_assoc,List.append_assoc]
 have hws:wsB ch=false:=by rcases g1 with rfl | rfl<;>rfl
 generalize hk:L (keyS (lKeyAt (keyIx N)) (wayOf N))=ks at *
 refine ⟨(ks++a).length,b.length,u.length+1,ch,e,g1,?_,fun rest=>?_⟩
 ·rw [hline]
  simp only [List.length_append,List.length_cons]
  lia
 ·have x2:lineOf N++rest=ks++(eqL (wayOf N)++((ch::u)++endL (wayOf N)++rest)):=by rw [hline2,List.append_assoc,List.append_assoc]
  have x1:lineOf N++rest=(ks++a)++61::(b++(ch::(u++(endL (wayOf N)++rest)))):=by
   rw [hline]
   simp only [List.append_assoc,List.cons_append]
  have d1:(lineOf N++rest).drop ((ks++a).length+1)=b++(ch::(u++(endL (wayOf N)++rest))):=by rw [x1,drop_at]
  have d2:(lineOf N++rest).drop ((ks++a).length+1+b.length)=ch::(u++(endL (wayOf N)++rest)):=by rw [←List.drop_drop,d1,List.drop_left]
  have d3:(lineOf N++rest).drop ((ks++a).length+1+b.length+(u.length+1))=endL (wayOf N)++rest:=by
   rw [←List.drop_drop,d2,List.drop_succ_cons,List.drop_left]
  refine ⟨?_,?_,?_,⟨u++(endL (wayOf N)++rest),d2,?_,(g4 _).1⟩,by rw [d3];exact f2 rest⟩
  ·obtain ⟨M,h⟩:=keyS_read hi (wayOf N) (e2 ((ch::u)++endL (wayOf N)++rest))
   rw [hk] at h
   rw [x2,h,e3,List.length_append];rfl
  ·rw [x1,List.getElem?_append_right (Nat.le_refl _),Nat.sub_self];rfl
  ·rw [d1]
   exact e4 _ (skip_no hws)
  ·rw [d2,g5]
   intro q
   exact g6 (List.cons.inj (List.cons.inj q).2).1
end
section
open PySem PySem.W PyProof.Rows
set_option maxRecDepth 1000000
theorem lkC {a b:Bool} (x:a=true) (y:b=true):(a&&b)=true:=look_both x y
theorem said05:PySem.Challenge.rw_kq0034_05.wellSaid=true:=by
 delta OpenLaw.wellSaid
 repeat' with_reducible refine lkC ?_ ?_
 ·delta OpenRow.wellSaid
  repeat' with_reducible refine lkC ?_ ?_
  ·delta OpenRow.partSaid
   repeat' with_reducible refine lkC ?_ ?_
   ·delta looksOpen
    repeat' with_reducible refine lkC ?_ ?_
    all_goals decide+kernel
   all_goals decide+kernel
  all_goals decide+kernel
 all_goals decide+kernel
end
end Mine
set_option maxRecDepth 100000 in
theorem PySem.Challenge.cw_kq0034_05_holds : PySem.Challenge.rw_kq0034_05.Holds :=
 PySem.W.holds_law Mine.said05 fun said=>Mine.row05 (Mine.callOk Mine.lineOk Mine.fillOk) said
